import PyProof.Rows.All
import Wide.All
import OpenK.AllK
import Wide.FinOn
import PySem.Challenge.RW_ta0127_01
set_option maxRecDepth 100000
set_option Elab.async false
set_option linter.all false
set_option bootstrap.genMatcherCode false
set_option genSizeOf false
set_option genCtorIdx false
set_option autoImplicit true
set_option backward.match.sparseCases false
set_option genInjectivity false
set_option tactic.hygienic false
open Array renaming length_toList->jhH
open Bool renaming and_eq_true->ZA,casesOn->ZL,false_ne_true->Z5,eq_iff_iff->jaQ,or_eq_true->jbx,not_eq_true'->jbS,and_eq_true_iff->jbT,true_and->jcG,false_eq_true->jcM,or_eq_false_iff->jeX,and_true->jfq,eq_false_iff->jfG,false_and->jgD,and_false->jgE,false_or->jjw
open Eq renaming symm->jfp,trans->jhc
open Exists renaming elim->jdm
open ForInStep renaming yield->jbY
open Int renaming natCast_nonneg->Zl,toNat_natCast->ZF,natAbs_natCast->ZV,ofNat->Z9,fdiv_eq_ediv_of_nonneg->jas,natCast_mul->jbf,eq_ofNat_of_zero_le->jbw,natCast_add->jbz,ofNat_lt->jbF,natCast_pow->jbR,toNat_of_nonneg->jbW,ofNat_le->jce,fmod_eq_emod_of_nonneg->jcw,natCast_ediv->jcB,ofNat_sub->jdx,sub_nonneg_of_le->jdy,natAbs_neg->jeb,mul_fdiv_add_fmod->jeR,mul_neg->jfh,le_trans->jfL,natCast_emod->jfX,mul_sub->jgf,le_refl->jgg,neg_one_mul->jgv,zero_add->jhx,ediv_eq_zero_of_lt->jhy,add_mul_ediv_left->jhF,sub_mul->jhR,one_mul->jhS,neg_neg->jhT,neg_mul->jhU,negSucc->jhV,mul_one->jhW,lt_of_le_of_lt->jiy,neg_fdiv_neg->jjf,max_eq_left->jjn,negSucc_eq->jjv
open Int.ofNat renaming inj->jeO
open List renaming length_map->Y4,casesOn->Y6,all_eq_true->Y',range->Za,getD_eq_getElem?_getD->Zb,length_append->Ze,getElem?_eq_getElem->Zg,mem_cons_self->Zj,getElem?_append_right->Zk,replicate->Zm,prefix_refl->Zn,size_toArray->Zo,mem_map->Zq,length_cons->Zr,mem_singleton->Zu,getElem?_append_left->Zx,mem_cons_of_mem->ZB,getElem?_eq_some_iff->ZE,map_cons->ZG,mem_append->ZI,mem_of_getElem?->ZK,mem_range->ZM,map_map->ZN,getElem?_map->ZR,mem_cons->ZT,map_append->ZW,range'->ZX,lookup_cons->Z1,append_nil->Z6,length_eq_zero_iff->Z7,length_range->jaj,sum_cons->jap,flatMap_cons->jau,length_replicate->jaB,append_assoc->jaD,exists_cons_of_length_eq_add_one->jaH,range_succ->jaO,nodup_cons->jaP,length->jaT,nodup_nil->jaW,mem_range'_1->jaX,flatMap_append->jbc,nil_append->jbd,length_singleton->jbk,zip_cons_cons->jbm,nodup_append->jbs,getElem?_set->jbt,length_zip->jbu,length_nil->jbv,length_take->jbH,length_drop->jbI,getElem_mem->jbJ,length_range'->jbK,sizeOf_lt_of_mem->jbM,length_set->jbP,reverse_cons->jbQ,getElem_map->jbV,map_id->jca,set_append->jcf,rec->jcg,filter_map->jch,all_cons->jcl,getElem?_eq_none->jcm,set->jcu,filter_cons->jcz,drop_eq_getElem_cons->jcA,foldl_cons->jcK,prefix_append->jcL,getElem?_replicate->jcQ,forIn_nil->jcW,flatMap_singleton->jcX,drop_eq_nil_of_le->jcY,length_filter_le->jdg,range'_succ->jdi,mem_flatMap->jdj,isEmpty_iff->jdk,cons_append->jdl,range_eq_range'->jdv,mem_iff_getElem->jdw,mem_filter->jdA,forIn_cons->jdB,map_congr_left->jdF,getElem?_range->jdG,mem_filterMap->jdQ,getElem_range->jdR,filter_append->jdS,getElem?_zip_eq_some->jed,lookup->jeh,not_mem_nil->jeu,getElem?_cons_succ->jev,ext_getElem->jew,countP_cons->jex,any_eq_true->jey,getElem?_reverse->jeM,contains_iff_mem->jeN,mem_of_mem_take->jeT,mem_of_mem_drop->jeU,length_pos_iff->jfj,any_cons->jfn,zip_nil_right->jfr,map->jfE,take_length->jfR,mem_reverse->jfS,map_reverse->jfT,getElem_zip->jfU,take_left'->jgd,countP_map->jge,mapM_cons->jgB,getElem?_eq_none_iff->jgQ,findIdx?_eq_none_iff->jgR,map_take->jhb,lookup_eq_none_iff->jhi,take_of_length_le->jhl,range_succ_eq_map->jhm,flatMap->jhn,take_append_drop->jhw,length_take_le'->jhB,getElem_toArray->jhC,getElem?_set_ne->jhD,forall_mem_cons->jhE,toList_toArray->jhO,reverse_append->jhP,getElem_of_mem->jhQ,getElem_drop->jis,getElem?_nil->jit,getElem?_inj->jiu,foldl_append->jiv,flatten_cons->jiw,nodup_range->jiH,map_fst_zip->jiI,isEmpty_nil->jiJ,drop_length->jiK,any_toArray->jiL,sum_append->jjd,foldr_cons->jje,zip->jjl,drop_drop->jjm,take_nil->jjt,drop_nil->jju
open Nat renaming lt_of_lt_of_le->bf,le_trans->Y5,le_refl->Y9,pow_le_pow_right->Zp,lt_irrefl->Zv,lt_of_le_of_lt->Zy,le_add_right->ZH,le_of_lt->ZO,le_of_eq->ZP,mod_lt->ZU,not_lt->Z0,le_succ->Z2,lt_succ_self->jan,lt_trans->jaq,casesOn->jaA,sub_self->jaE,two_pow_pos->jaG,ne_of_lt->jaI,mul_comm->jaR,add_sub_cancel_left->jaU,ne_of_gt->jaZ,le_of_lt_succ->jba,beq->jbb,le_of_ble_eq_true->jbl,add_comm->jbn,zero_le->jbp,mul_le_mul->jbq,testBit_two_pow->jbA,lt_or_ge->jcd,succ->jci,le_add_left->jcj,div_add_mod->jck,eq_of_beq_eq_true->jcs,add_sub_cancel'->jcD,add_right_comm->jcP,pow_pos->jcR,add_mul->jcS,pow_succ->jdb,lt_succ_of_lt->jdc,lt_of_succ_lt_succ->jdd,lor->jde,div_lt_iff_lt_mul->jdh,zero_testBit->jdu,pow_le_pow_left->jdK,add_le_add_left->jdL,zero_add->jdO,mul_succ->jdP,pos_of_ne_zero->jdY,land->jdZ,add_sub_cancel->jea,add_mul_mod_self_left->jeg,pow_add->jej,one_mul->jek,le_succ_of_le->jel,div_eq_of_lt->jeA,sub_add_sub_cancel->jeF,lt_asymm->jeG,testBit_and->jeJ,not_lt_zero->jeK,min_eq_left->jeL,lt_of_sub_eq_succ->jeQ,mul_le_mul_right->jfc,log2_lt->jfd,eq_of_testBit_eq->jfe,div_lt_of_lt_mul->jff,add_mul_div_left->jfg,mul_le_mul_left->jfm,sub_le->jfv,lt_succ_of_le->jfK,mod_eq_of_lt->jfW,mul_add->jgc,div_le_self->jgt,ble->jgA,testBit_or->jgP,add_assoc->jhh,lt_add_of_pos_right->jhk,succ_pos->jht,sub_zero->jhu,min_self->jhv,sub_lt_sub_right->jhM,not_succ_le_self->jhN,sub_le_sub_left->jic,lt_mul_div_succ->jid,add_lt_add_left->jie,sub_lt->jiq,eq_zero_or_pos->jir,sub_pos_of_lt->jiF,lt_of_succ_lt->jiG,succ_le_succ->jja,le_of_not_lt->jjb,le_of_not_le->jjc,mul_div_le->jjr,add_le_add->jjs
open Nat.le renaming refl->jbO,step->jcJ
open Nat.succ renaming inj->Z8
open Ne renaming symm->jeI
open Option renaming casesOn->ae,map_eq_some_iff->Zw,map->jad,isNone_iff_eq_none->jcv,isSome_iff_exists->jcC,getD_some->jfD,isSome->jgz,bind_eq_some_iff->jgO,map_some->jip
open Option.some renaming inj->Y7,injEq->jdz,sizeOf_spec->jdN
open Or renaming inl->jcy,inr->jfC
open Ordering renaming eq->jha
open PUnit renaming unit->jgs
open Prod renaming fst->jhA
open Prod.mk renaming inj->jjk
open PyProof renaming noPylong_of_log2->jgr
open PyProof.Rows renaming Call_->jaL,callWith_type1->jbo,evalArgs_none->jcb,args_cons->jcI,subscriptTail->jcT,args_nil->jdq,callWith_builtin1->jeS,isTrue_plain->jfs,callWith_def->jft,Assign_Tuple->jfu,Subscript_->jfJ,IsTup->jgu,IntsAre->jix
open PyProof.Rows.AllBare renaming of_eq->jiN
open PySem renaming Shared->Y8,wpAny_bind->Zc,wpAny->Zd,model->Zf,Addr->Zi,mainGlobals->Zs,wpAny_pure->ZC,wpAny_execs_cons->ZD,execs->ZQ,Around->ZZ,exec->Z4,eval->jae,sysModules->jah,builtinsNs->jai,Comprehension->jam,Heap->jao,intKind->jat,wpAny_mono->jav,starEach->jaw,FuncData->jaC,Scope->jaF,wpAny_truthy_bool->jaN,wpAny_holding->jaS,wpAny_standAt->jbe,callEnvC->jbg,wpAny_execs_nil->jbh,NameKind->jbi,partValue->jbj,Arguments->jbr,isTrue->jby,wpAny_Return_some->jbB,wpAny_Call_method_lateS->jbC,wpAny_Assign_Name->jbD,cellsFrom->jbN,bindArgs->jbU,spliced->jcp,mainEnv->jcq,backTo->jcr,foldedSetIterable->jcx,wpAny_eval_const->jcH,sizeLine->jcU,wpAny_BinOp->jcV,typeIs_str->jcZ,closureFor->jda,wpAny_List->jdf,valueAt->jdn,recursionLimit->jdo,constantsAlone->jdp,Program->jdt,storeName->jdC,call_meets->jdD,assignEach->jdE,foldedForSure->jdI,pyIter->jdU,leftWithCleanup->jdV,Params->jdX,inplaceOp->jei,rawInt->jem,qualnameIn->jen,intKind_is->jeo,cStatics->jep,binaryOp->jeq,wpAny_assign_Name->jeB,behindInMarks->jeC,Flow->jeH,wpAny_If->jeP,wpAny_rule->jeY,codeAny->jeZ,NoneBooked->jfb,swapsWith->jfw,standAt->jfx,seqIndex?->jfy,pushCells->jfz,holding->jfA,argBest->jfB,wpAny_loadName_free->jfH,wpAny_loadName_cell->jfI,swappedStores->jfN,comprehension->jfO,wpAny_isTrue_Compare1->jga,wpAny_newObj_type->jgh,wpAny_dictEntries->jgi,staticOf->jgj,startupNames->jgk,firstIterPos->jgl,concat_meets->jgm,call_meetsIn->jgn,noFill_tuple_add->jgF,compareOp->jgG,cellOf->jgH,numAt->jgT,dictDisplay->jgU,codeAny_of_tree->jhe,evalPart->jho,cLine->jhp,assign->jhq,annTrees->jhr,wpAny_Compare1->jhs,wpAny_sharingNotTold_none->jhz,seq_tuple_add->jhI,assignInOrder->jhJ,wpAny_list_append_plain->jhX,slicePick->jhY,firstIter->jhZ,wpAny_Tuple->jia,wpAny_Assign_Subscript->jig,mergeMapping->jih,meets_dict_get_default->jii,getItem->jij,callerA->jil,bootBuiltins->jim,wpAny_Expr->jio,wpAny_storeName_local->jiB,codeAny_call_function->jiD,wpAny_storeName_cell->jiO,wpAny_of_eq->jiP,wpAny_nsGet->jiQ,wpAny_loadName_local->jiR,wpAny_alloc->jiS,wpAny_AugAssign_Name->jiT,subscripted->jiU,sizeLine_eq->jiV,interactive->jiW,compTurn->jiX,any_of_findIdx_some->jjh,wpAny_pyIter_tuple->jjp
open PySem.AutoIntOps renaming ifloordiv_1->jjj
open PySem.Builtin renaming bitXor->jfZ,bitNot->jiz,bitAnd->jiA
open PySem.Builtin.Int renaming intBits->Zt
open PySem.Builtin.List renaming listTooLong->jfF
open PySem.Builtin.Range renaming rangeSize->jaM,small->jet
open PySem.Builtin.Str renaming occurrences->jay,spaceWords->jcE,tooLong->jgC,glued->jhd
open PySem.Calls renaming callWith_builtin->jaK,evalArgs_plain->jds,loadGlobal_builtin->jfa,loadGlobal_global->jfi,Name_module->jfQ
open PySem.Challenge renaming rw_ta0127_01->jar,pw_ta0127_01->jcN
open PySem.Claim2Try renaming globalOf_of_ns->jeD
open PySem.Comprehension.mk renaming sizeOf_spec->jjo
open PySem.Data renaming seq->jhG
open PySem.Expr renaming casesOn->ZY
open PySem.Expr.Attribute renaming sizeOf_spec->jfl
open PySem.Expr.BoolOp renaming sizeOf_spec->jfV
open PySem.Expr.Call renaming sizeOf_spec->jax
open PySem.Expr.Subscript renaming sizeOf_spec->jfk
open PySem.F renaming plainAttrs_str->jbX,slot_dict_get->jcc,plainAttrs_list->jcF,args_tuple_add_2->jdW,plainAttrs_dict->jee,entry_tuple_add->jef,slot_tuple_add->jer,entry_dict_get->jes,slot_list_reverse->jgb,slot_dict_values->jgq,slot_list_index->jgw,slot_list_count->jgx,args_dict_get_3->jgy,slot_str_split->jgK,slot_str_lower->jgL,slot_str_index->jgM,slot_list_iadd->jgN,type_dict_get->jgX,slot_str_join->jgY,slot_str_find->jgZ
open PySem.Float64 renaming sub->ZJ,isZero->jaa,add->jab,ofFrac->jac,div->jaf,cmp->jag,mul->jaJ,ofInt->jaV,cmpInt->jbG,decode->jct,divmod->jdH,isInf->jec,truncOf->jez,isNaN->jeV,align->jeW
open PySem.Flt renaming quot_fits->jgW
open PySem.Heap renaming get?_push_of_some->Zh,lt_size->Zz,size_push->ZS,get?_push_size->Z3,SameBut->Z',get?_update_self->jcn,size_update->jiM,nsMap_none->jjg
open PySem.Heap.DictOf renaming new->jfo
open PySem.Heap.IsSliceOf renaming new->jjx
open PySem.Heap.Ns renaming of_isNs->jfM
open PySem.Heap.SameBut renaming update->jco,refl->jgS
open PySem.IsRange renaming new->jhj
open PySem.NameKind renaming free->jak,cell->jbZ
open PySem.Obj renaming mapSeq->jcO,data_mapDictKeys->jhL,isFreed_of_dict->jib,data_mapDict->jiZ
open PySem.Operator renaming casesOn->jdJ,Add->jiE
open PySem.Shared renaming asleep_of_life->jhg
open PySem.Stmt renaming casesOn->jgV
open PySem.Str renaming ofString->jaY,length->jbL,ext'->jhK,cps_append->jjq
open PySem.StrLaws renaming sliceText->jaz,sliceText_from->jgJ,sliceText_to->jhf
open PySem.Txt renaming lower->jiY
open PySem.UnaryOp renaming casesOn->jfP
open PySem.Value renaming ref->jbE,float->jdr,type->jgp,casesOn->jgI,builtin->jji
open PySem.Value.ref renaming inj->jdM
open PySem.W renaming boot_heap->jal,tabObj->jdT,CodeHd->jfY,cellsFrom_some->jgo,fnMade->jik
open PySem.W.CodeHd renaming of->jif
open PySem.W.OpenLaw renaming row->jeE
open PySem.W.WShape renaming hasItems->jin
open PySem.isSame renaming created->jiC
namespace Mine.Tactic
open Lean in
local macro_rules (kind:=Lean.Parser.Command.declaration)|s=>if s.getPos?.isNone then Macro.throwUnsupported else
 let t:=s.rewriteBottomUp (·.setInfo .none)
 return if t[1].getKind==``Lean.Parser.Command.definition||t[1].getKind==``Lean.Parser.Command.abbrev then t.setArg 0 (t[0].setArg 4 (mkNullNode #[mkNode ``Lean.Parser.Command.noncomputable #[mkAtom "noncomputable"]])) else t
section
open PySem PySem.W
abbrev af:jdt:=jcN
def wq:(Q:World->Prop) ×' ∃a b c d,(jeE jar).Holds=(a/\b/\c/\d/\∀w,Q w):=⟨_,_,_,_,_,rfl⟩
theorem TM:Nonempty World:=⟨{draws:=λY Y=>0,params:={strHash:=λY=>0,shareClass:=λY=>0,mergeTok:=id,idOf:=λY=>0,idOfShared:=λY Y=>0,followText:=λY=>false,idOfImm:=λY=>0}}⟩
def wd:World:=@Classical.epsilon _ TM λw=>¬wq.1 w
theorem Jk(h:wq.1 wd)(w:World):wq.1 w:=Classical.byContradiction λn=>(Classical.epsilon_spec (⟨w,n⟩:∃w,¬wq.1 w)) h
theorem bw{a m n:Nat}(h:a<=m)(k:jgA m n=true):a<=n:=Y5 h (jbl k)
theorem BC{a m n:Nat}(h:a<=m)(k:Nat.blt m n=true):a<n:=Zy h (jbl k)
theorem IS{a m n:Nat}(h:a<m)(k:jgA m n=true):a<=n:=Y5 (ZO h) (jbl k)
theorem Y0{a m n:Nat}(h:a<m)(k:jgA m n=true):a<n:=bf h (jbl k)
theorem wL{a m n:Nat}(h:a=m)(k:m<=n):a<=n:=h▸k
theorem IJ{a m n:Nat}(h:a=m)(k:m<n):a<n:=h▸k
theorem YW{a m n:Nat}(k:a<=m)(h:m=n):a<=n:=h▸k
theorem YY{a m n:Nat}(k:a<m)(h:m=n):a<n:=h▸k
theorem YZ{a m n:Nat}(k:a<m)(h:n=m):a<n:=h▸k
theorem YX{a m n:Nat}(k:a<=m)(h:n=m):a<=n:=h▸k
theorem X3{a:Nat}(h:0<a):¬a=0:=jaZ h
theorem mm{a b:Nat}(h:a<=b):(a:Int)<=b:=jce.mpr h
theorem II{a b:Nat}(h:¬a=b):¬(a:Int)=b:=λe=>h (jeO e)
theorem q9{a:Nat}(h:0<a):¬(a:Int)=0:=λe=>jaZ h (jeO e)
theorem ue{k n:Nat}(h:k<n):n-k=n-(k+1)+1:=(Nat.succ_pred_eq_of_pos (jiF h)).symm
theorem BD{n:Nat}(h:0<n):n-1+1=n:=Nat.sub_add_cancel h
theorem BE{k n m:Nat}(h:n-k=m+1):k<n:=jeQ h
theorem X5{k n m:Nat}(h:n-k=m+1):n-(k+1)=m:=Z8 ((ue (jeQ h)).symm.trans h)
theorem X0{i:Nat}(h:i<4):i=0\/i=1\/i=2\/i=3:=by lia
theorem X1{i:Nat}(h:i<5):i=0\/i=1\/i=2\/i=3\/i=4:=by lia
theorem re{a m:Nat}{b:Int}(h:a<=m)(e:decide ((m:Int)<b)=true):(a:Int)<b:=jiy (jce.mpr h) (of_decide_eq_true e)
theorem YV{a b m n k:Nat}(h:a<=m)(h2:b<=n)(e:jgA (m+n) k=true):a+b<=k:=Y5 (jjs h h2) (jbl e)
theorem BA{a b k:Nat}(h:a+b<=k):a<=k:=Y5 (ZH _ _) h
theorem wK{a b k:Nat}(h:a+b<=k):b<=k:=Y5 (jcj _ _) h
theorem q8{a b k:Nat}(h:a+b<k):a<k:=Zy (ZH _ _) h
theorem Y1{a b c k:Nat}(h:a<=c*k)(h2:b<=c):a+b<=c*(k+1):=jjs h h2
theorem IR{i:Nat}(h:i<3):i=0\/i=1\/i=2:=by lia
theorem XZ{i:Nat}(h:1<=i)(h2:i<=3):i=1\/i=2\/i=3:=by lia
theorem XW{a n c:Nat}(h:a+(n+1)<c):a+1+n<c:=by rwa [jhh,jbn 1]
theorem ud{a n c:Nat}(h:a+(n+1)<=c):a+1+n<=c:=by rwa [jhh,jbn 1]
theorem X4{a b c:Nat}(h:a+(b+1)=c):a<c:=h▸jhk (jht b)
theorem IL{a b:Nat}:(a:Int)=b↔a=b:=Int.ofNat_inj
theorem rd{a b:Nat}(h:¬a<b):b<=a:=jjb h
theorem zip{a:Nat}(h:0<a):(0:Int)<a:=jbF.mpr h
theorem IH{b n:Nat}(h:0<n):b<=n*((b+n-1)/n):=by
 have:=jck (b+n-1) n;have h2:=ZU (b+n-1) h
 lia
theorem cz{p1 p2 p3:Prop}(h1:p1)(h2:p2)(h3:p3):p1/\p2/\p3:=⟨h1,h2,h3⟩
theorem li{p1 p2 p3 p4:Prop}(h1:p1)(h2:p2)(h3:p3)(h4:p4):p1/\p2/\p3/\p4:=⟨h1,h2,h3,h4⟩
theorem F3{p1 p2 p3 p4 p5:Prop}(h1:p1)(h2:p2)(h3:p3)(h4:p4)(h5:p5):p1/\p2/\p3/\p4/\p5:=⟨h1,h2,h3,h4,h5⟩
theorem aO{A:Sort _}{p1 p2:A->Prop}(a:A)(h1:p1 a)(h2:p2 a):∃a,p1 a/\p2 a:=⟨a,h1,h2⟩
theorem lj{A:Sort _}{p1 p2 p3:A->Prop}(a:A)(h1:p1 a)(h2:p2 a)(h3:p3 a):∃a,p1 a/\p2 a/\p3 a:=⟨a,h1,h2,h3⟩
theorem vT{A:Sort _}{p1 p2 p3 p4:A->Prop}(a:A)(h1:p1 a)(h2:p2 a)(h3:p3 a)(h4:p4 a):∃a,p1 a/\p2 a/\p3 a/\p4 a:=⟨a,h1,h2,h3,h4⟩
theorem Ry{A:Sort _}{p1 p2 p3 p4 p5:A->Prop}(a:A)(h1:p1 a)(h2:p2 a)(h3:p3 a)(h4:p4 a)(h5:p5 a):∃a,p1 a/\p2 a/\p3 a/\p4 a/\p5 a:=⟨a,h1,h2,h3,h4,h5⟩
theorem Rz{A:Sort _}{p1 p2 p3 p4 p5 p6 p7 p8:A->Prop}(a:A)(h1:p1 a)(h2:p2 a)(h3:p3 a)(h4:p4 a)(h5:p5 a)(h6:p6 a)(h7:p7 a)(h8:p8 a):∃a,p1 a/\p2 a/\p3 a/\p4 a/\p5 a/\p6 a/\p7 a/\p8 a:=⟨a,h1,h2,h3,h4,h5,h6,h7,h8⟩
theorem jQ{A:Sort _}{B:Sort _}{p1:A->B->Prop}(a:A)(b:B)(h1:p1 a b):∃a b,p1 a b:=⟨a,b,h1⟩
theorem cZ{A:Sort _}{B:Sort _}{p1 p2:A->B->Prop}(a:A)(b:B)(h1:p1 a b)(h2:p2 a b):∃a b,p1 a b/\p2 a b:=⟨a,b,h1,h2⟩
theorem nc{A:Sort _}{B:Sort _}{p1 p2 p3:A->B->Prop}(a:A)(b:B)(h1:p1 a b)(h2:p2 a b)(h3:p3 a b):∃a b,p1 a b/\p2 a b/\p3 a b:=⟨a,b,h1,h2,h3⟩
theorem vU{A:Sort _}{B:Sort _}{p1 p2 p3 p4:A->B->Prop}(a:A)(b:B)(h1:p1 a b)(h2:p2 a b)(h3:p3 a b)(h4:p4 a b):∃a b,p1 a b/\p2 a b/\p3 a b/\p4 a b:=⟨a,b,h1,h2,h3,h4⟩
theorem RA{A:Sort _}{B:Sort _}{p1 p2 p3 p4 p5:A->B->Prop}(a:A)(b:B)(h1:p1 a b)(h2:p2 a b)(h3:p3 a b)(h4:p4 a b)(h5:p5 a b):∃a b,p1 a b/\p2 a b/\p3 a b/\p4 a b/\p5 a b:=⟨a,b,h1,h2,h3,h4,h5⟩
theorem F4{A:Sort _}{B:Sort _}{p1 p2 p3 p4 p5 p6:A->B->Prop}(a:A)(b:B)(h1:p1 a b)(h2:p2 a b)(h3:p3 a b)(h4:p4 a b)(h5:p5 a b)(h6:p6 a b):∃a b,p1 a b/\p2 a b/\p3 a b/\p4 a b/\p5 a b/\p6 a b:=⟨a,b,h1,h2,h3,h4,h5,h6⟩
theorem RB{A:Sort _}{B:Sort _}{p1 p2 p3 p4 p5 p6 p7:A->B->Prop}(a:A)(b:B)(h1:p1 a b)(h2:p2 a b)(h3:p3 a b)(h4:p4 a b)(h5:p5 a b)(h6:p6 a b)(h7:p7 a b):∃a b,p1 a b/\p2 a b/\p3 a b/\p4 a b/\p5 a b/\p6 a b/\p7 a b:=⟨a,b,h1,h2,h3,h4,h5,h6,h7⟩
theorem RD{A:Sort _}{B:Sort _}{C:Sort _}{p1:A->B->C->Prop}(a:A)(b:B)(c:C)(h1:p1 a b c):∃a b c,p1 a b c:=⟨a,b,c,h1⟩
theorem z0{A:Sort _}{B:Sort _}{C:Sort _}{p1 p2 p3:A->B->C->Prop}(a:A)(b:B)(c:C)(h1:p1 a b c)(h2:p2 a b c)(h3:p3 a b c):∃a b c,p1 a b c/\p2 a b c/\p3 a b c:=⟨a,b,c,h1,h2,h3⟩
theorem vV{A:Sort _}{B:Sort _}{C:Sort _}{p1 p2 p3 p4:A->B->C->Prop}(a:A)(b:B)(c:C)(h1:p1 a b c)(h2:p2 a b c)(h3:p3 a b c)(h4:p4 a b c):∃a b c,p1 a b c/\p2 a b c/\p3 a b c/\p4 a b c:=⟨a,b,c,h1,h2,h3,h4⟩
theorem F5{A:Sort _}{B:Sort _}{C:Sort _}{D:Sort _}{p1:A->B->C->D->Prop}(a:A)(b:B)(c:C)(d:D)(h1:p1 a b c d):∃a b c d,p1 a b c d:=⟨a,b,c,d,h1⟩
theorem vW{A:Sort _}{B:Sort _}{C:Sort _}{D:Sort _}{p1 p2:A->B->C->D->Prop}(a:A)(b:B)(c:C)(d:D)(h1:p1 a b c d)(h2:p2 a b c d):∃a b c d,p1 a b c d/\p2 a b c d:=⟨a,b,c,d,h1,h2⟩
theorem z7{A:Sort _}{B:Sort _}{C:Sort _}{D:Sort _}{p1 p2 p3:A->B->C->D->Prop}(a:A)(b:B)(c:C)(d:D)(h1:p1 a b c d)(h2:p2 a b c d)(h3:p3 a b c d):∃a b c d,p1 a b c d/\p2 a b c d/\p3 a b c d:=⟨a,b,c,d,h1,h2,h3⟩
theorem z8{A:Sort _}{B:Sort _}{C:Sort _}{D:Sort _}{p1 p2 p3 p4 p5:A->B->C->D->Prop}(a:A)(b:B)(c:C)(d:D)(h1:p1 a b c d)(h2:p2 a b c d)(h3:p3 a b c d)(h4:p4 a b c d)(h5:p5 a b c d):∃a b c d,p1 a b c d/\p2 a b c d/\p3 a b c d/\p4 a b c d/\p5 a b c d:=⟨a,b,c,d,h1,h2,h3,h4,h5⟩
theorem z9{A:Sort _}{B:Sort _}{C:Sort _}{D:Sort _}{E:Sort _}{p1:A->B->C->D->E->Prop}(a:A)(b:B)(c:C)(d:D)(e:E)(h1:p1 a b c d e):∃a b c d e,p1 a b c d e:=⟨a,b,c,d,e,h1⟩
theorem RE{A:Sort _}{B:Sort _}{C:Sort _}{D:Sort _}{E:Sort _}{p1 p2:A->B->C->D->E->Prop}(a:A)(b:B)(c:C)(d:D)(e:E)(h1:p1 a b c d e)(h2:p2 a b c d e):∃a b c d e,p1 a b c d e/\p2 a b c d e:=⟨a,b,c,d,e,h1,h2⟩
theorem F6{A:Sort _}{B:Sort _}{C:Sort _}{D:Sort _}{E:Sort _}{p1 p2 p3:A->B->C->D->E->Prop}(a:A)(b:B)(c:C)(d:D)(e:E)(h1:p1 a b c d e)(h2:p2 a b c d e)(h3:p3 a b c d e):∃a b c d e,p1 a b c d e/\p2 a b c d e/\p3 a b c d e:=⟨a,b,c,d,e,h1,h2,h3⟩
theorem RF{A:Sort _}{B:Sort _}{C:Sort _}{D:Sort _}{E:Sort _}{F:Sort _}{p1:A->B->C->D->E->F->Prop}(a:A)(b:B)(c:C)(d:D)(e:E)(f:F)(h1:p1 a b c d e f):∃a b c d e f,p1 a b c d e f:=⟨a,b,c,d,e,f,h1⟩
theorem RG{A:Sort _}{B:Sort _}{C:Sort _}{D:Sort _}{E:Sort _}{F:Sort _}{G:Sort _}{p1 p2 p3 p4 p5 p6 p7:A->B->C->D->E->F->G->Prop}(a:A)(b:B)(c:C)(d:D)(e:E)(f:F)(g:G)(h1:p1 a b c d e f g)(h2:p2 a b c d e f g)(h3:p3 a b c d e f g)(h4:p4 a b c d e f g)(h5:p5 a b c d e f g)(h6:p6 a b c d e f g)(h7:p7 a b c d e f g):∃a b c d e f g,p1 a b c d e f g/\p2 a b c d e f g/\p3 a b c d e f g/\p4 a b c d e f g/\p5 a b c d e f g/\p6 a b c d e f g/\p7 a b c d e f g:=⟨a,b,c,d,e,f,g,h1,h2,h3,h4,h5,h6,h7⟩
theorem bN{p1 p2:Prop}{Q:Prop}(h:p1/\p2)(f:p1->p2->Q):Q:=f h.1 h.2
theorem fY{p1 p2 p3:Prop}{Q:Prop}(h:p1/\p2/\p3)(f:p1->p2->p3->Q):Q:=f h.1 h.2.1 h.2.2
theorem pZ{p1 p2 p3 p4:Prop}{Q:Prop}(h:p1/\p2/\p3/\p4)(f:p1->p2->p3->p4->Q):Q:=f h.1 h.2.1 h.2.2.1 h.2.2.2
theorem DB{p1 p2 p3 p4 p5:Prop}{Q:Prop}(h:p1/\p2/\p3/\p4/\p5)(f:p1->p2->p3->p4->p5->Q):Q:=f h.1 h.2.1 h.2.2.1 h.2.2.2.1 h.2.2.2.2
theorem DC{p1 p2 p3 p4 p5 p6:Prop}{Q:Prop}(h:p1/\p2/\p3/\p4/\p5/\p6)(f:p1->p2->p3->p4->p5->p6->Q):Q:=f h.1 h.2.1 h.2.2.1 h.2.2.2.1 h.2.2.2.2.1 h.2.2.2.2.2
theorem aX{bp:Sort _}{p1:bp->Prop}{Q:Prop}(h:∃a,p1 a)(f:∀a,p1 a->Q):Q:=h.elim λa h=>f a h
theorem au{bp:Sort _}{p1 p2:bp->Prop}{Q:Prop}(h:∃a,p1 a/\p2 a)(f:∀a,p1 a->p2 a->Q):Q:=h.elim λa h=>f a h.1 h.2
theorem fq{bp:Sort _}{p1 p2 p3:bp->Prop}{Q:Prop}(h:∃a,p1 a/\p2 a/\p3 a)(f:∀a,p1 a->p2 a->p3 a->Q):Q:=h.elim λa h=>f a h.1 h.2.1 h.2.2
theorem yn{bp:Sort _}{p1 p2 p3 p4:bp->Prop}{Q:Prop}(h:∃a,p1 a/\p2 a/\p3 a/\p4 a)(f:∀a,p1 a->p2 a->p3 a->p4 a->Q):Q:=h.elim λa h=>f a h.1 h.2.1 h.2.2.1 h.2.2.2
theorem Nl{bp:Sort _}{p1 p2 p3 p4 p5 p6 p7:bp->Prop}{Q:Prop}(h:∃a,p1 a/\p2 a/\p3 a/\p4 a/\p5 a/\p6 a/\p7 a)(f:∀a,p1 a->p2 a->p3 a->p4 a->p5 a->p6 a->p7 a->Q):Q:=h.elim λa h=>f a h.1 h.2.1 h.2.2.1 h.2.2.2.1 h.2.2.2.2.1 h.2.2.2.2.2.1 h.2.2.2.2.2.2
theorem Nm{bp:Sort _}{p1 p2 p3 p4 p5 p6 p7 p8:bp->Prop}{Q:Prop}(h:∃a,p1 a/\p2 a/\p3 a/\p4 a/\p5 a/\p6 a/\p7 a/\p8 a)(f:∀a,p1 a->p2 a->p3 a->p4 a->p5 a->p6 a->p7 a->p8 a->Q):Q:=h.elim λa h=>f a h.1 h.2.1 h.2.2.1 h.2.2.2.1 h.2.2.2.2.1 h.2.2.2.2.2.1 h.2.2.2.2.2.2.1 h.2.2.2.2.2.2.2
theorem dW{bp:Sort _}{bx:Sort _}{p1:bp->bx->Prop}{Q:Prop}(h:∃a b,p1 a b)(f:∀a b,p1 a b->Q):Q:=h.elim λa h=>h.elim λb h=>f a b h
theorem bA{bp:Sort _}{bx:Sort _}{p1 p2:bp->bx->Prop}{Q:Prop}(h:∃a b,p1 a b/\p2 a b)(f:∀a b,p1 a b->p2 a b->Q):Q:=h.elim λa h=>h.elim λb h=>f a b h.1 h.2
theorem bS{bp:Sort _}{bx:Sort _}{p1 p2 p3:bp->bx->Prop}{Q:Prop}(h:∃a b,p1 a b/\p2 a b/\p3 a b)(f:∀a b,p1 a b->p2 a b->p3 a b->Q):Q:=h.elim λa h=>h.elim λb h=>f a b h.1 h.2.1 h.2.2
theorem n6{bp:Sort _}{bx:Sort _}{p1 p2 p3 p4:bp->bx->Prop}{Q:Prop}(h:∃a b,p1 a b/\p2 a b/\p3 a b/\p4 a b)(f:∀a b,p1 a b->p2 a b->p3 a b->p4 a b->Q):Q:=h.elim λa h=>h.elim λb h=>f a b h.1 h.2.1 h.2.2.1 h.2.2.2
theorem DD{bp:Sort _}{bx:Sort _}{p1 p2 p3 p4 p5:bp->bx->Prop}{Q:Prop}(h:∃a b,p1 a b/\p2 a b/\p3 a b/\p4 a b/\p5 a b)(f:∀a b,p1 a b->p2 a b->p3 a b->p4 a b->p5 a b->Q):Q:=h.elim λa h=>h.elim λb h=>f a b h.1 h.2.1 h.2.2.1 h.2.2.2.1 h.2.2.2.2
theorem qa{bp:Sort _}{bx:Sort _}{p1 p2 p3 p4 p5 p6:bp->bx->Prop}{Q:Prop}(h:∃a b,p1 a b/\p2 a b/\p3 a b/\p4 a b/\p5 a b/\p6 a b)(f:∀a b,p1 a b->p2 a b->p3 a b->p4 a b->p5 a b->p6 a b->Q):Q:=h.elim λa h=>h.elim λb h=>f a b h.1 h.2.1 h.2.2.1 h.2.2.2.1 h.2.2.2.2.1 h.2.2.2.2.2
theorem DE{bp:Sort _}{bx:Sort _}{p1 p2 p3 p4 p5 p6 p7 p8:bp->bx->Prop}{Q:Prop}(h:∃a b,p1 a b/\p2 a b/\p3 a b/\p4 a b/\p5 a b/\p6 a b/\p7 a b/\p8 a b)(f:∀a b,p1 a b->p2 a b->p3 a b->p4 a b->p5 a b->p6 a b->p7 a b->p8 a b->Q):Q:=h.elim λa h=>h.elim λb h=>f a b h.1 h.2.1 h.2.2.1 h.2.2.2.1 h.2.2.2.2.1 h.2.2.2.2.2.1 h.2.2.2.2.2.2.1 h.2.2.2.2.2.2.2
theorem yo{bp:Sort _}{bx:Sort _}{cc:Sort _}{p1:bp->bx->cc->Prop}{Q:Prop}(h:∃a b c,p1 a b c)(f:∀a b c,p1 a b c->Q):Q:=h.elim λa h=>h.elim λb h=>h.elim λc h=>f a b c h
theorem uX{bp:Sort _}{bx:Sort _}{cc:Sort _}{p1 p2:bp->bx->cc->Prop}{Q:Prop}(h:∃a b c,p1 a b c/\p2 a b c)(f:∀a b c,p1 a b c->p2 a b c->Q):Q:=h.elim λa h=>h.elim λb h=>h.elim λc h=>f a b c h.1 h.2
theorem kf{bp:Sort _}{bx:Sort _}{cc:Sort _}{p1 p2 p3:bp->bx->cc->Prop}{Q:Prop}(h:∃a b c,p1 a b c/\p2 a b c/\p3 a b c)(f:∀a b c,p1 a b c->p2 a b c->p3 a b c->Q):Q:=h.elim λa h=>h.elim λb h=>h.elim λc h=>f a b c h.1 h.2.1 h.2.2
theorem kX{bp:Sort _}{bx:Sort _}{cc:Sort _}{p1 p2 p3 p4:bp->bx->cc->Prop}{Q:Prop}(h:∃a b c,p1 a b c/\p2 a b c/\p3 a b c/\p4 a b c)(f:∀a b c,p1 a b c->p2 a b c->p3 a b c->p4 a b c->Q):Q:=h.elim λa h=>h.elim λb h=>h.elim λc h=>f a b c h.1 h.2.1 h.2.2.1 h.2.2.2
theorem yp{bp:Sort _}{bx:Sort _}{cc:Sort _}{p1 p2 p3 p4 p5 p6:bp->bx->cc->Prop}{Q:Prop}(h:∃a b c,p1 a b c/\p2 a b c/\p3 a b c/\p4 a b c/\p5 a b c/\p6 a b c)(f:∀a b c,p1 a b c->p2 a b c->p3 a b c->p4 a b c->p5 a b c->p6 a b c->Q):Q:=h.elim λa h=>h.elim λb h=>h.elim λc h=>f a b c h.1 h.2.1 h.2.2.1 h.2.2.2.1 h.2.2.2.2.1 h.2.2.2.2.2
theorem Nn{bp:Sort _}{bx:Sort _}{cc:Sort _}{p1 p2 p3 p4 p5 p6 p7 p8:bp->bx->cc->Prop}{Q:Prop}(h:∃a b c,p1 a b c/\p2 a b c/\p3 a b c/\p4 a b c/\p5 a b c/\p6 a b c/\p7 a b c/\p8 a b c)(f:∀a b c,p1 a b c->p2 a b c->p3 a b c->p4 a b c->p5 a b c->p6 a b c->p7 a b c->p8 a b c->Q):Q:=h.elim λa h=>h.elim λb h=>h.elim λc h=>f a b c h.1 h.2.1 h.2.2.1 h.2.2.2.1 h.2.2.2.2.1 h.2.2.2.2.2.1 h.2.2.2.2.2.2.1 h.2.2.2.2.2.2.2
theorem DF{bp:Sort _}{bx:Sort _}{cc:Sort _}{dH:Sort _}{p1:bp->bx->cc->dH->Prop}{Q:Prop}(h:∃a b c d,p1 a b c d)(f:∀a b c d,p1 a b c d->Q):Q:=h.elim λa h=>h.elim λb h=>h.elim λc h=>h.elim λd h=>f a b c d h
theorem n7{bp:Sort _}{bx:Sort _}{cc:Sort _}{dH:Sort _}{p1 p2:bp->bx->cc->dH->Prop}{Q:Prop}(h:∃a b c d,p1 a b c d/\p2 a b c d)(f:∀a b c d,p1 a b c d->p2 a b c d->Q):Q:=h.elim λa h=>h.elim λb h=>h.elim λc h=>h.elim λd h=>f a b c d h.1 h.2
theorem kg{bp:Sort _}{bx:Sort _}{cc:Sort _}{dH:Sort _}{p1 p2 p3:bp->bx->cc->dH->Prop}{Q:Prop}(h:∃a b c d,p1 a b c d/\p2 a b c d/\p3 a b c d)(f:∀a b c d,p1 a b c d->p2 a b c d->p3 a b c d->Q):Q:=h.elim λa h=>h.elim λb h=>h.elim λc h=>h.elim λd h=>f a b c d h.1 h.2.1 h.2.2
theorem qb{bp:Sort _}{bx:Sort _}{cc:Sort _}{dH:Sort _}{p1 p2 p3 p4:bp->bx->cc->dH->Prop}{Q:Prop}(h:∃a b c d,p1 a b c d/\p2 a b c d/\p3 a b c d/\p4 a b c d)(f:∀a b c d,p1 a b c d->p2 a b c d->p3 a b c d->p4 a b c d->Q):Q:=h.elim λa h=>h.elim λb h=>h.elim λc h=>h.elim λd h=>f a b c d h.1 h.2.1 h.2.2.1 h.2.2.2
theorem so{bp:Sort _}{bx:Sort _}{cc:Sort _}{dH:Sort _}{p1 p2 p3 p4 p5:bp->bx->cc->dH->Prop}{Q:Prop}(h:∃a b c d,p1 a b c d/\p2 a b c d/\p3 a b c d/\p4 a b c d/\p5 a b c d)(f:∀a b c d,p1 a b c d->p2 a b c d->p3 a b c d->p4 a b c d->p5 a b c d->Q):Q:=h.elim λa h=>h.elim λb h=>h.elim λc h=>h.elim λd h=>f a b c d h.1 h.2.1 h.2.2.1 h.2.2.2.1 h.2.2.2.2
theorem yq{bp:Sort _}{bx:Sort _}{cc:Sort _}{dH:Sort _}{p1 p2 p3 p4 p5 p6:bp->bx->cc->dH->Prop}{Q:Prop}(h:∃a b c d,p1 a b c d/\p2 a b c d/\p3 a b c d/\p4 a b c d/\p5 a b c d/\p6 a b c d)(f:∀a b c d,p1 a b c d->p2 a b c d->p3 a b c d->p4 a b c d->p5 a b c d->p6 a b c d->Q):Q:=h.elim λa h=>h.elim λb h=>h.elim λc h=>h.elim λd h=>f a b c d h.1 h.2.1 h.2.2.1 h.2.2.2.1 h.2.2.2.2.1 h.2.2.2.2.2
theorem n8{bp:Sort _}{bx:Sort _}{cc:Sort _}{dH:Sort _}{p1 p2 p3 p4 p5 p6 p7:bp->bx->cc->dH->Prop}{Q:Prop}(h:∃a b c d,p1 a b c d/\p2 a b c d/\p3 a b c d/\p4 a b c d/\p5 a b c d/\p6 a b c d/\p7 a b c d)(f:∀a b c d,p1 a b c d->p2 a b c d->p3 a b c d->p4 a b c d->p5 a b c d->p6 a b c d->p7 a b c d->Q):Q:=h.elim λa h=>h.elim λb h=>h.elim λc h=>h.elim λd h=>f a b c d h.1 h.2.1 h.2.2.1 h.2.2.2.1 h.2.2.2.2.1 h.2.2.2.2.2.1 h.2.2.2.2.2.2
theorem uY{bp:Sort _}{bx:Sort _}{cc:Sort _}{dH:Sort _}{ju:Sort _}{p1:bp->bx->cc->dH->ju->Prop}{Q:Prop}(h:∃a b c d e,p1 a b c d e)(f:∀a b c d e,p1 a b c d e->Q):Q:=h.elim λa h=>h.elim λb h=>h.elim λc h=>h.elim λd h=>h.elim λe h=>f a b c d e h
theorem No{bp:Sort _}{bx:Sort _}{cc:Sort _}{dH:Sort _}{ju:Sort _}{p1 p2:bp->bx->cc->dH->ju->Prop}{Q:Prop}(h:∃a b c d e,p1 a b c d e/\p2 a b c d e)(f:∀a b c d e,p1 a b c d e->p2 a b c d e->Q):Q:=h.elim λa h=>h.elim λb h=>h.elim λc h=>h.elim λd h=>h.elim λe h=>f a b c d e h.1 h.2
theorem sq{bp:Sort _}{bx:Sort _}{cc:Sort _}{dH:Sort _}{ju:Sort _}{p1 p2 p3:bp->bx->cc->dH->ju->Prop}{Q:Prop}(h:∃a b c d e,p1 a b c d e/\p2 a b c d e/\p3 a b c d e)(f:∀a b c d e,p1 a b c d e->p2 a b c d e->p3 a b c d e->Q):Q:=h.elim λa h=>h.elim λb h=>h.elim λc h=>h.elim λd h=>h.elim λe h=>f a b c d e h.1 h.2.1 h.2.2
theorem DG{bp:Sort _}{bx:Sort _}{cc:Sort _}{dH:Sort _}{ju:Sort _}{p1 p2 p3 p4:bp->bx->cc->dH->ju->Prop}{Q:Prop}(h:∃a b c d e,p1 a b c d e/\p2 a b c d e/\p3 a b c d e/\p4 a b c d e)(f:∀a b c d e,p1 a b c d e->p2 a b c d e->p3 a b c d e->p4 a b c d e->Q):Q:=h.elim λa h=>h.elim λb h=>h.elim λc h=>h.elim λd h=>h.elim λe h=>f a b c d e h.1 h.2.1 h.2.2.1 h.2.2.2
theorem Np{bp:Sort _}{bx:Sort _}{cc:Sort _}{dH:Sort _}{ju:Sort _}{p1 p2 p3 p4 p5:bp->bx->cc->dH->ju->Prop}{Q:Prop}(h:∃a b c d e,p1 a b c d e/\p2 a b c d e/\p3 a b c d e/\p4 a b c d e/\p5 a b c d e)(f:∀a b c d e,p1 a b c d e->p2 a b c d e->p3 a b c d e->p4 a b c d e->p5 a b c d e->Q):Q:=h.elim λa h=>h.elim λb h=>h.elim λc h=>h.elim λd h=>h.elim λe h=>f a b c d e h.1 h.2.1 h.2.2.1 h.2.2.2.1 h.2.2.2.2
theorem Nq{bp:Sort _}{bx:Sort _}{cc:Sort _}{dH:Sort _}{ju:Sort _}{BG:Sort _}{p1:bp->bx->cc->dH->ju->BG->Prop}{Q:Prop}(h:∃a b c d e i,p1 a b c d e i)(f:∀a b c d e i,p1 a b c d e i->Q):Q:=h.elim λa h=>h.elim λb h=>h.elim λc h=>h.elim λd h=>h.elim λe h=>h.elim λi h=>f a b c d e i h
theorem DH{bp:Sort _}{bx:Sort _}{cc:Sort _}{dH:Sort _}{ju:Sort _}{BG:Sort _}{X7:Sort _}{X8:Sort _}{p1 p2 p3 p4 p5 p6:bp->bx->cc->dH->ju->BG->X7->X8->Prop}{Q:Prop}(h:∃a b c d e i j k,p1 a b c d e i j k/\p2 a b c d e i j k/\p3 a b c d e i j k/\p4 a b c d e i j k/\p5 a b c d e i j k/\p6 a b c d e i j k)(f:∀a b c d e i j k,p1 a b c d e i j k->p2 a b c d e i j k->p3 a b c d e i j k->p4 a b c d e i j k->p5 a b c d e i j k->p6 a b c d e i j k->Q):Q:=h.elim λa h=>h.elim λb h=>h.elim λc h=>h.elim λd h=>h.elim λe h=>h.elim λi h=>h.elim λj h=>h.elim λk h=>f a b c d e i j k h.1 h.2.1 h.2.2.1 h.2.2.2.1 h.2.2.2.2.1 h.2.2.2.2.2
universe u
@[elab_as_elim] theorem aa {α:Sort u}{a b:α}{p:α->Prop} (h:a=b) (x:p b):p a:=h.symm.rec x
@[elab_as_elim] theorem rwj {α:Sort u}{a b:α}{p:α->Prop} (h:b=a) (x:p b):p a:=h.rec x
theorem ai{α:Type _}{r:α}{Q:Prop}(e:none=some r):Q:=nomatch e
theorem G2{α:Type _}{r:α}{Q:Prop}(e:some r=none):Q:=nomatch e
theorem bP{Q:Prop}(e:false=true):Q:=nomatch e
theorem aG{α:Type _}{a r:α}{Q:α->Prop}(e:some a=some r)(k:Q a):Q r:=Y7 e▸k
theorem lQ{α β:Type _}{f:α->β}{o:Option α}{r:β}{Q:β->Prop}(e:o.map f=some r)(k:∀a,o=some a->Q (f a)):Q r:=by
 induction o using ae with
 |none=>exact ai e
 |some a=>exact aG (Q:=Q) e (k a rfl)
theorem bR{α:Type _}{c:Prop}[Decidable c]{a:Option α}{r:α}{Q:Prop}(e:(if c then a else none)=some r)(k:c->a=some r->Q):Q:=by
 by_cases h:c
 ·rw[if_pos h]at e;exact k h e
 ·rw[if_neg h]at e;exact ai e
theorem mI{α:Type _}{c:Prop}[Decidable c]{a:Option α}{r:α}{Q:Prop}(e:(if c then none else a)=some r)(k:¬c->a=some r->Q):Q:=by
 by_cases h:c
 ·rw[if_pos h]at e;exact ai e
 ·rw[if_neg h]at e;exact k h e
theorem pP{α β:Type _}{o:Option α}{f:α->Option β}{r:β}{Q:Prop}(e:o.bind f=some r)(k:∀a,o=some a->f a=some r->Q):Q:=by
 induction o using ae with
 |none=>exact ai e
 |some a=>exact k a rfl e
theorem cu{a b:Bool}{Q:Prop}(e:(a&&b)=true)(k:a=true->b=true->Q):Q:=k (jbT.mp e).1 (jbT.mp e).2
theorem Ka{α:Type}{M:Model}{A:ZZ}{t:Sem α}{K:α->Y8->Prop}{E:Value->Y8->Prop}{s:Y8}(h:∀Q:α->Y8->Prop,(∀a s',K a s'->Q a s')->Zd M A t Q E s):Zd M A t K E s:=h K λY Y h=>h
theorem jA{α:Type _}{C:α->Prop}:∀x∈([]:List α),C x:=λY h=>nomatch h
theorem aS{α:Type _}{C:α->Prop}{a:α}{l:List α}(h:C a)(r:∀x∈l,C x):∀x∈a::l,C x:=jhE.mpr ⟨h,r⟩
theorem nr{α:Type _}{r:α}{Q:Prop}(e:some none=some (some r)):Q:=nomatch e
theorem xV{α:Type _}{a r:α}{Q:α->Prop}(e:some (some a)=some (some r))(k:Q a):Q r:=Y7 (Y7 e)▸k
theorem Gv{α:Type _}{Q:List α->Prop}{l:List α}(h:l.length=1)(k:∀a,Q [a]):Q l:=by
 induction l using Y6 with
 |nil=>cases h
 |cons a l=>induction l using Y6 with
  |nil=>exact k a
  |cons=>cases h
theorem Gw{α:Type _}{Q:List α->Prop}{l:List α}(h:l.length=2)(k:∀a b,Q [a,b]):Q l:=by
 induction l using Y6 with
 |nil=>cases h
 |cons a l=>exact Gv (Q:=λl=>Q (a::l)) (Z8 h) (k a)
theorem Sr{α:Type _}{Q:List α->Prop}{l:List α}(h:l.length=3)(k:∀a b c,Q [a,b,c]):Q l:=by
 induction l using Y6 with
 |nil=>cases h
 |cons a l=>exact Gw (Q:=λl=>Q (a::l)) (Z8 h) (k a)
def fC(k:Nat):Stmt:=(jcN.main.body[k]?).getD (.Pass default)
def Hi:List (Option Expr)->List Expr->List (Int×Str)
 |some (.Constant (.int k) _ _)::ks,.Constant (.str x) _ _::vs=>(k,x)::Hi ks vs
 |_,_=>[]
def B7:List (Int×Str):=match fC 15 with
 | .Assign _ (.Dict ks vs _) _=>Hi ks vs
 |_=>[]
def j3(k:Int):Option Str:=B7.lookup k
def uA:List Int:=[173,847,6150,6155,6156,6157,8203,8204,8205,8288,65279]
def dz(k:Int):Bool:=uA.contains k||(decide (65024<=k)&&decide (k<65040))
end
section
open PySem PySem.W PyProof.Rows
section
variable {K:Type}[DecidableEq K]{bo:KeyKind af wd K}{A:ZZ}{E:Value->Y8->Prop}{s:Y8}
theorem LQ(qw:bo.is k key=true)(hm:s.heap.DictOf bo d aJ)(hQ:∀h',h'.DictOf bo d (stored aJ k v)->Z' d s.heap h'->Q () {s with heap:=h'})(be:aJ.length<=jcU:=by size_fits):
 Zd (Zf af wd) A (dictPut d (bo.hash k) key v) Q E s:=by
 refine yp hm λo es ep ho hc hd hk hp hn=>?_;have oq:es.size<=jcU:=by
  have e1:=hp.length;have e2:es.toList.length=es.size:=by simp
  exact wL e1 be
 unfold dictPut;refine Zc (wpAny_dictFind_of qw ho hd hk ?_);have zq:(es.findIdx? λe=>bo.is k e.key)=aJ.findIdx? λkv=>decide (kv.1=k):=by
  rw[<-hp.findIdx k];obtain⟨l⟩:=es;simp
 induction hi:es.findIdx? λe=>bo.is k e.key using ae with
 |some i =>
  refine wpAny_updateDict ho hd (hQ _ ⟨_,_,ep,jcn _ ho (jib (jiZ hd _)),
   hc.mapDict _,jiZ hd _,hk.modify _ _,?_,?_⟩ (jco ..))
  ·rw[stored,if_pos (jjh (zq▸hi))];have hl:(es.toList.findIdx? λe=>bo.is k e.key)=some i:=by rw[<-hi];obtain⟨l⟩:=es;simp
   have:=hp.modify hn hl v;obtain⟨l⟩:=es;simpa using this
  ·rw[stored,if_pos (jjh (zq▸hi)),keys_map_store];exact hn
 |none =>
  have Fs:k∉aJ.map (·.1):=not_mem_of_findIdx_none (zq▸hi);have EN:¬(aJ.any λkv=>decide (kv.1=k))=true:=by
   rw[jey];rintro⟨kv,sS,he⟩;exact Fs (Zq.mpr ⟨kv,sS,of_decide_eq_true he⟩)
  refine wpAny_updateDictKeys (hz:=oq) ho hd (hQ _ ⟨_,_,ep+1,jcn _ ho (jib (jhL hd _)),
   hc.mapDictKeys _,jhL hd _,hk.push qw _,?_,?_⟩ (jco ..))
  ·rw[stored,if_neg EN];have:=hp.append qw (bo.hash k) v;obtain⟨l⟩:=es;simpa using this
  ·rw[stored,if_neg EN,ZW,jbs];refine cz hn (by simp) ?_;intro a ha b hb;simp only[ZG,List.map_nil,Zu]at hb;subst hb;exact λe=>Fs (e▸ha)
theorem U0(h:x::az=ZX i (n-i)):x=i/\az=ZX (i+1) (n-(i+1))/\i<n:=by
 induction e:n-i using jaA with
 |zero=>rw[e]at h;exact nomatch h
 |succ k =>
  rw[e,jdi]at h;injection h with h1 h2
  refine cz h1 ?_ (jeQ e);refine aa h2 ?_;refine aa (Nat.sub_succ _ _) ?_;refine aa e ?_;rfl
theorem UY(h:[]=ZX i (n-i))(hi:i<=n):i=n:=by
 induction e:n-i using jaA with
 |zero=>exact Nat.le_antisymm hi (Nat.sub_eq_zero_iff_le.mp e)
 |succ k=>rw[e,jdi]at h;exact nomatch h
def wV(bo:KeyKind af wd K)(d o:Zi)(oo:Obj)(n:Nat)(aJ fM:List (K×Value))(s:Y8)(az:List Nat)(s':Y8):Prop :=
 ∃h' i,s'={s with heap:=h'}/\az=ZX i (n-i)/\i<=n/\h'.DictOf bo d (merged aJ (fM.take i))/\h'.get? o=some oo/\Z' d s.heap h'
theorem wV.elim{d o:Zi}{oo:Obj}{n:Nat}{aJ fM:List (K×Value)}{az:List Nat}{s':Y8}{Q:Y8->Prop}(h:wV bo d o oo n aJ fM s az s')(k:∀h' i,az=ZX i (n-i)->i<=n->h'.DictOf bo d (merged aJ (fM.take i))->h'.get? o=some oo->Z' d s.heap h'->Q {s with heap:=h'}):Q s':=by
 refine qa h λh' i e h1 h2 h3 h4 h5=>?_;refine aa e ?_;exact k h' i h1 h2 h3 h4 h5
theorem Tk{d o:Zi}{aJ fM:List (K×Value)}{Q:Unit->Y8->Prop}(PE:d≠o)(Qn:(o==jah)=false)(cV:aJ≠[])(hd:s.heap.DictOf bo d aJ)(ho:s.heap.DictOf bo o fM)(hQ:∀h',h'.DictOf bo d (merged aJ fM)->Z' d s.heap h'->Q () {s with heap:=h'})(be:aJ.length+fM.length<=jcU):
 Zd (Zf af wd) A (jih d (.ref o) false) Q E s:=by
 refine yp (id hd) λod ML Yi Qq Px zi qv Fv df=>?_;refine yp (id ho) λoo uQ Yj zD zh vo P9 Fx m7=>?_;have aN:fM.length=uQ.size:=Fx.length.symm.trans jhH;have PK:ML.isEmpty=false:=jfG.mpr λhe=>cV (Z7.mp (Fv.length.symm.trans (by refine aa (Array.isEmpty_iff.mp he) ?_;rfl)));clear df Px qv Fv zh m7 cV;refine Ka λR hR=>?_;unfold jih;refine Zc (wpAny_isInstance ho.typeIs F.sub_dict_dict ?_);refine aa (if_pos rfl) ?_;refine Zc (wpAny_specialOf ho.typeIs F.slot_dict_iter.lookup ?_);refine Zc (ZC ?_);have h1:(some (jji "dict.__iter__")==some (jji "dict.__iter__"))=true:=by decide
 refine aa h1 ?_;dsimp only;rw[if_neg (by refine aa Qn ?_;exact Z5)];refine Zc (jgi Qq zi ?_);refine aa PK ?_;refine aa (if_neg Z5) ?_;refine Zc (jgi zD vo ?_);refine Zc (wpAny_dictEpoch zD vo ?_);refine Zc ?_;refine aa jdv ?_;refine wpAny_forIn_list _ (λaz Y s'=>wV bo d o oo uQ.size aJ fM s az s') _ (λx az b s' H=>?_) (λb s' H=>?_) _ _ ⟨s.heap,0,rfl,by simp,jbp _,by simpa [merged]using hd,zD,jgS _ _⟩
 ·refine H.elim λh' i hr hi lX zE ej=>?_;refine fY (U0 hr) ?_;rintro rfl QA a0;refine Zc (jgi zE vo ?_);refine aa (Array.getElem?_eq_getElem a0) ?_;have sS:fM[x]?=some (fM[x]'(by refine aa aN ?_;exact a0)):=Zg _;generalize fM[x]'(by refine aa aN ?_;exact a0)=kv at sS;refine bN (Fx.get? (e:=uQ[x]) (by simp[a0]) (v:=kv.2) (k:=kv.1) sS) λqw vM=>?_;refine au (P9 uQ[x] (Array.getElem_mem a0)) λk' P8 E6=>?_;rw[bo.inj _ _ _ P8 qw]at E6;dsimp only;refine aa (if_neg Z5) ?_;have Qh:(merged aJ (fM.take x)).length<=jcU:=Y5 (merged_length_le aJ (fM.take x)) (Y5 (jdL (jhB _ _) _) be);refine aa E6 ?_;refine aa vM ?_;refine Zc (jaS (LQ (be:=Qh) qw lX λhV PB FH=>?_));have Ft:hV.get? o=some oo:=(FH.2 o (jeI PE)).trans zE;refine Zc (wpAny_dictEpoch Ft vo ?_);refine aa (if_neg (by simp)) ?_;exact ZC ⟨hV,x+1,rfl,QA,a0,by refine aa (merged_take_succ aJ fM x kv sS) ?_;exact PB,Ft,ej.trans FH⟩
 ·refine H.elim λh' i hr hi lX zE ej=>ZC (hR _ _ (hQ h' ?_ ej));rw[UY hr hi,<-aN,jfR]at lX;exact lX
end
section
variable {K:Type}[DecidableEq K]
inductive eV:List (K×(Value->Prop))->List (K×Value)->Prop
 |nil:eV [] []
 |cons {k:K}{P:Value->Prop}{v:Value}{l:List (K×(Value->Prop))}{aJ:List (K×Value)} (h:P v) (r:eV l aJ):eV ((k,P)::l) ((k,v)::aJ)
theorem eV.length(r:eV l aJ):aJ.length=l.length:=by
 induction r with
 |nil=>rfl
 |cons _ _ ih=>exact congrArg jci ih
theorem eV.append(r:eV l aJ)(q:eV l' tq):eV (l++l') (aJ++tq):=by
 induction r with
 |nil=>exact q
 |cons h _ ih=>exact .cons h ih
end
section
variable {K:Type}[DecidableEq K]{bo:KeyKind af wd K}{A:ZZ}{E:Value->Y8->Prop}{s:Y8}{aL:jao}
abbrev gj(h h':jao):Prop:=∀b o,h.get? b=some o->h'.get? b=some o
def I9(bo:KeyKind af wd K)(A:ZZ)(aL:jao)(p:Sem Value×Sem Value)(k:K×(Value->Prop)):Prop :=
 ∀(E:Value->Y8->Prop) (s:Y8) (Q:Value->Value->Y8->Prop),gj aL s.heap->(∀kv vv tk,bo.is k.1 kv=true->k.2 vv->Q kv vv {s with toks:=tk}) ->
  Zd (Zf af wd) A p.1 (λkv ak=>Zd (Zf af wd) A p.2 (λvv aC=>Q kv vv aC) E ak) E s
inductive eX(bo:KeyKind af wd K) (A:ZZ) (aL:jao):List (Sem Value×Sem Value)->List (K×(Value->Prop))->Prop
 |nil:eX bo A aL [] []
 |cons {p:Sem Value×Sem Value}{k:K×(Value->Prop)}{ps:List (Sem Value×Sem Value)}{ks:List (K×(Value->Prop))} (h:I9 bo A aL p k) (r:eX bo A aL ps ks):eX bo A aL (p::ps) (k::ks)
theorem eX.length(r:eX bo A aL ps ks):ps.length=ks.length:=by
 induction r with
 |nil=>rfl
 |cons _ _ ih=>exact congrArg jci ih
theorem eX.append(r:eX bo A aL ps ks)(q:eX bo A aL ps' ng):eX bo A aL (ps++ps') (ks++ng):=by
 induction r with
 |nil=>exact q
 |cons h _ ih=>exact .cons h ih
theorem Nh(r:eX bo A aL ps ks):∀{s:Y8}{Q:List (Value×Value)->Y8->Prop},gj aL s.heap ->
 (∀vs aJ tk,Carries bo vs aJ->eV ks aJ->vs.length=ps.length->Q vs {s with toks:=tk})->Zd (Zf af wd) A (evalPairs ps) Q E s:=by
 induction r with
 |nil=>exact λ{s Q} hx h=>ZC (h [] [] s.toks trivial .nil rfl)
 | @cons p k ps ks hp r ih =>
  exact λ{s Q} hx h=>evalPairs_cons (hp E s _ hx λkv vv tk h1 h2=>ih hx λvs aJ iu h3 h4 h5=>h ((kv,vv)::vs) ((k.1,vv)::aJ) iu ⟨h1,rfl,h3⟩ (.cons h2 h4) (congrArg jci h5))
theorem wv(hx:gj aL h)(hs:Z' d h h')(hd:aL.objs.size<=d):gj aL h':=λb o e=>hs.extBut b o (λq=>Z0.mpr hd (q▸Zz e)) (hx b o e)
theorem SG(k9:aL.objs.size<=d)(r:eX bo A aL ps ks):∀{acc:List (K×Value)}{s:Y8}{Q:PUnit->Y8->Prop},gj aL s.heap->s.heap.DictOf bo d acc->acc.length+ps.length<=jcU ->
 (∀aJ h' tk,eV ks aJ->h'.DictOf bo d (merged acc aJ)->Z' d s.heap h'->Q jgs {s with heap:=h',toks:=tk}) ->
 Zd (Zf af wd) A (forIn ps jgs λ(x:Sem Value×Sem Value) (_:PUnit)=>(do
  let kv <-x.1;let vv <-jfA [kv] x.2
  jfA [kv,vv] (dictSet d kv vv)
  pure (jbY jgs):Sem (ForInStep PUnit))) Q E s:=by
 induction r with
 |nil =>
  intro acc s Q hx hm be h;refine aa jcW ?_;exact ZC (h [] s.heap s.toks .nil (by simpa [merged]using hm) (jgS _ _))
 | @cons p k ps ks hp r ih =>
  intro acc s Q hx hm be h;rw[jdB];refine Zc (Zc (jav (hp E s (λkv vv s'=>Zd (Zf af wd) A (do jfA [kv,vv] (dictSet d kv vv);pure (jbY jgs)) (λa cO=>Zd (Zf af wd) A _ Q E cO) E s') hx λkv vv tk h1 h2=>?_) (λkv ak aY=>Zc (jaS aY)) λY Y e=>e));rw[Zr]at be;refine Zc (jaS (wpAny_dictSet_pairs (hsz:=Y5 (ZH _ _) be) h1 hm λaY Qi FK=>ZC ?_));exact ih (wv hx FK k9) Qi (Y5 (Nat.add_le_add_right (stored_length_le acc k.1 vv) _) (by refine aa (Nat.succ_add _ _) ?_;exact be)) λaJ h' iu h3 h4 h5=>h ((k.1,vv)::aJ) h' iu (.cons h2 h3) (by simpa [merged]using h4) (FK.trans h5)
theorem H1(hP:eX bo A aL ps ks)(hx:gj aL s.heap)(k9:aL.objs.size<=s.heap.objs.size)(be:ps.length<=1000)(h:∀aJ h' tk,eV ks aJ->h'.DictOf bo s.heap.objs.size (merged [] aJ)->Z' s.heap.objs.size (s.heap.push {cls:=.type "dict",data:=.dict #[]}) h'->Q s.heap.objs.size {s with heap:=h',toks:=tk}):
 Zd (Zf af wd) A (subDict ps) Q E s:=by
 unfold subDict;refine Zc (jiS ?_);have hm:(s.heap.push {cls:=.type "dict",data:=.dict #[]}).DictOf bo s.heap.objs.size []:=jfo ..;have fe:gj aL (s.heap.push {cls:=.type "dict",data:=.dict #[]}):=λb o e=>Zh _ (hx b o e);refine Zc (jaS ?_);by_cases hl:ps.length<=15
 ·refine aa (if_pos hl) ?_;refine Zc (Nh hP fe λvs aJ tk h1 h2 h3=>jaS ?_);refine Zc (wpAny_storeAll (knd:=bo) vs aJ [] _ _ h1 hm (by have:=h1.length;refine aa jiV ?_;refine aa jbv ?_;lia) λh' jh ej=>ZC (ZC ?_));exact h aJ h' _ h2 jh ej
 ·refine aa (if_neg hl) ?_;refine Zc (jeY ?_);refine Zc (SG k9 hP fe hm (by refine aa jiV ?_;refine aa jbv ?_;lia) λaJ h' tk h1 h2 h3=>ZC (ZC ?_));exact h aJ h' tk h1 h2 h3
end
section
variable {K:Type}[DecidableEq K]{bo:KeyKind af wd K}{A:ZZ}{E:Value->Y8->Prop}{s:Y8}{aL:jao}
theorem eV.keys{l:List (K×(Value->Prop))}{aJ:List (K×Value)}(r:eV l aJ):aJ.map (·.1)=l.map (·.1):=by
 induction r with
 |nil=>rfl
 |cons _ _ ih=>exact congrArg (List.cons _) ih
theorem eV.merged{l:List (K×(Value->Prop))}(r:eV l aJ)(hn:(l.map (·.1)).Nodup):merged [] aJ=aJ:=merged_nil_of_nodup _ (by refine aa r.keys ?_;exact hn)
def u8(run:List (Sem Value×Sem Value))(main:Option Zi):Sem (Option Zi):=
 if run.isEmpty=true then pure main
 else match main with
  |none=>do
   let __do_lift <-subDict run
   pure (some __do_lift)
  |some d=>do
   let sub <-jfA [jbE d] (subDict run)
   (jfA [jbE d,jbE sub] (jih d (jbE sub) false)).onRaise λx=>do
    let _ <-jfA [jbE d,x] (runValue (Code.builtin "proto.let_go" { }))
    pure ()
   pure (some d)
structure uk(bo:KeyKind af wd K) (aL:jao) (main:Option Zi) (ks:List (K×(Value->Prop))) (s:Y8):Prop where
 ex:gj aL s.heap
 sz:aL.objs.size<=s.heap.objs.size
 st:(main=none/\ks=[])\/∃D aJ,main=some D/\eV ks aJ/\aJ≠[]/\aL.objs.size<=D/\s.heap.DictOf bo D aJ
theorem D4{main:Option Zi}{run:List (Sem Value×Sem Value)}{ks gy:List (K×(Value->Prop))}{Q:Option Zi->Y8->Prop}(S:uk bo aL main ks s)(hP:eX bo A aL run gy)(iK:jah<aL.objs.size)(be:ks.length+gy.length<=1000)(df:((ks++gy).map (·.1)).Nodup)(h:∀m' h' tk,uk bo aL m' (ks++gy) {s with heap:=h',toks:=tk}->Q m' {s with heap:=h',toks:=tk}):Zd (Zf af wd) A (u8 run main) Q E s:=by
 unfold u8;cases hP with
 |nil=>exact ZC (h main s.heap s.toks (by refine aa (Z6 _) ?_;exact S))
 | @cons p k ps ng hp r =>
  refine aa (if_neg (by simp)) ?_;have hP:eX bo A aL (p::ps) (k::ng):=.cons hp r;have Yw:=hP.length;have Fo:=df;rw[ZW,jbs]at Fo;refine fY Fo λsV vH Y=>?_;rcases S.st with⟨rfl,rfl⟩|⟨D,aJ,rfl,h1,h2,h3,h4⟩
  ·refine Zc (H1 hP S.ex S.sz (by lia) λaJ h' tk k1 k2 k3=>ZC ?_);have hz:h'.objs.size=s.heap.objs.size+1:=by refine aa k3.1 ?_;refine aa (ZS _ _) ?_;rfl
   refine h _ _ _ ⟨wv (λb o e=>Zh _ (S.ex b o e)) k3 S.sz,by show _<=h'.objs.size;refine aa hz ?_;exact jel S.sz,.inr ⟨_,aJ,rfl,by refine aa (jbd _) ?_;exact k1,?_,S.sz,by rw[k1.merged vH]at k2;exact k2⟩⟩;intro q;subst q;cases k1
  ·refine Zc (jaS (H1 hP S.ex S.sz (by lia) λtq h' tk k1 k2 k3=>?_));have hz:h'.objs.size=s.heap.objs.size+1:=by refine aa k3.1 ?_;refine aa (ZS _ _) ?_;rfl
   have O':D<s.heap.objs.size:=by
    refine uX h4 λo Y Y e Y=>?_;exact Zz e
   have cV:D≠s.heap.objs.size:=jaI O';have O8:h'.DictOf bo D aJ:=by
    refine uX h4 λo es ep e r=>?_;exact⟨o,es,ep,k3.extBut _ _ cV (Zh _ e),r⟩
   rw[k1.merged vH]at k2;have l3:=h1.length;have l4:=k1.length;refine Zc (wpAny_onRaise (jaS (Tk cV ?_ h2 O8 k2 (λhV m1 m2=>ZC ?_) (by refine aa jiV ?_;lia))))
   ·exact beq_eq_false_iff_ne.mpr (jaZ (bf iK S.sz))
   ·refine h _ _ _ ⟨wv (wv (λb o e=>Zh _ (S.ex b o e)) k3 S.sz) m2 h3,by show _<=hV.objs.size;refine aa m2.1 ?_;refine aa hz ?_;exact jel S.sz,.inr ⟨D,aJ++tq,rfl,h1.append k1,by simp[h2],h3,?_⟩⟩;have e:merged aJ tq=aJ++tq:=merged_append_of_fresh _ _ (by refine aa ZW ?_;refine aa h1.keys ?_;refine aa k1.keys ?_;refine rwj ZW ?_;exact df);refine rwj e ?_;exact m1
theorem OP(f:(Option (Sem Value)×Sem Value)->(Option Zi×List (Sem Value×Sem Value))->Sem (ForInStep (Option Zi×List (Sem Value×Sem Value))))(hf:∀(p:Sem Value×Sem Value) (st:Option Zi×List (Sem Value×Sem Value)),f (some p.1,p.2) st=(if((st.2++[p]).length==17)=true then(do
 let main <-u8 (st.2++[p]) st.1
 pure (.yield (main,[])))else pure (.yield (st.1,st.2++[p])))) (iK:jah<aL.objs.size) {ps:List (Sem Value×Sem Value)}{ks:List (K×(Value->Prop))} (rr:eX bo A aL ps ks):∀{main:Option Zi}{run:List (Sem Value×Sem Value)}{lm gy:List (K×(Value->Prop))}{s:Y8}{Q:(Option Zi×List (Sem Value×Sem Value))->Y8->Prop},uk bo aL main lm s->eX bo A aL run gy->lm.length+gy.length+ks.length<=1000->((lm++gy++ks).map (·.1)).Nodup ->
 (∀m' wt nh v3 h' tk,uk bo aL m' nh {s with heap:=h',toks:=tk}->eX bo A aL wt v3->nh++v3=lm++gy++ks->Q (m',wt) {s with heap:=h',toks:=tk}) ->
 Zd (Zf af wd) A (forIn (ps.map λp=>(some p.1,p.2)) (main,run) f) Q E s:=by
 induction rr with
 |nil =>
  intro main run lm gy s Q S hr be df h;refine aa List.map_nil ?_;refine aa jcW ?_;exact ZC (h main run lm gy s.heap s.toks S hr (by refine aa (Z6 _) ?_;rfl))
 | @cons p k ps ks hp r ih =>
  intro main run lm gy s Q S hr be df h;refine aa ZG ?_;rewrite [jdB];refine aa (hf _ _) ?_;dsimp only;have vJ:eX bo A aL (run++[p]) (gy++[k]):=hr.append (.cons hp .nil);rw[Zr]at be;have e1:lm++gy++k::ks=lm++(gy++[k])++ks:=by simp
  rw[e1]at df h;have l1:(gy++[k]).length=gy.length+1:=Ze;split
  ·refine Zc (Zc (D4 S vJ iK (by lia) (by rw[ZW,jbs]at df;exact df.1) λm' h' tk S'=>ZC ?_));refine ih S' .nil (by simp only[Ze,Zr,jbv];exact ud be) (by simpa using df) λwa A3 nh Aj hV iu mA zI e=>?_;exact h wa A3 nh Aj hV iu mA zI (by refine aa e ?_;simp)
  ·refine Zc (ZC ?_);refine ih S vJ (by simp only[Ze,Zr,jbv];exact ud be) (by simpa using df) λwa A3 nh Aj hV iu mA zI e=>?_;exact h wa A3 nh Aj hV iu mA zI e
theorem CZ{ps:List (Sem Value×Sem Value)}{ks:List (K×(Value->Prop))}{Q:Value->Y8->Prop}(hP:eX bo A s.heap ps ks)(iK:jah<s.heap.objs.size)(be:ps.length<=1000)(cV:ps≠[])(df:(ks.map (·.1)).Nodup)(h:∀D aJ h' tk,s.heap.objs.size<=D->eV ks aJ->h'.DictOf bo D aJ->gj s.heap h'->s.heap.objs.size<=h'.objs.size->Q (.ref D) {s with heap:=h',toks:=tk}):
 Zd (Zf af wd) A (jgU (ps.map λp=>(some p.1,p.2))) Q E s:=by
 unfold jgU;dsimp only;have hl:=hP.length;refine Zc (OP (aL:=s.heap) _ (λp st=>rfl) iK hP (lm:=[]) ⟨λY Y e=>e,Y9 _,.inl ⟨rfl,rfl⟩⟩ .nil (by simp only[jbv];lia) (by simpa using df) λm' wt nh v3 h' tk S' vJ e=>?_);rw[jbd,jbd]at e;have vz:nh.length+v3.length=ks.length:=by refine rwj Ze ?_;refine aa e ?_;rfl
 refine Zc (?_:Zd (Zf af wd) A (u8 wt m') _ E _);refine D4 S' vJ iK (by lia) (by refine aa e ?_;exact df) λwa hV iu mA=>?_;rw[e]at mA;rcases mA.st with⟨_,e2⟩|⟨D,aJ,rfl,h1,h2,h3,h4⟩
 ·exfalso;rw[e2]at hl;exact cV (Z7.mp hl)
 ·exact ZC (h D aJ hV iu h3 h1 h4 mA.ex mA.sz)
end
end
section
open PySem
set_option genInjectivity true in
set_option genCtorIdx true in
inductive AV where
 |none
 |bool (b:Bool)
 |int (i:Int)
 |flt (x:UInt64)
 |str (cs:List Nat)
 |tup (vs:List AV)
 |lst (vs:List AV)
 |dct (es:List (Int×AV))
 |ref (i:Nat)
 |tok
set_option genInjectivity true in
set_option genCtorIdx true in
inductive AO where
 |list (vs:List AV)
 |dict (es:List (Int×AV))
 |gone
inductive Fn where
 |range|len|sum|max|min|listVals|listRange|ord|chr|int|divmod|isBool|isInt|reversed
 |bitLength|index|find|join|split|count|get|values
 |user (k:Nat)
set_option genInjectivity true in
set_option genCtorIdx true in
inductive um where
 |divLimit|ntOffset|endMarker|tok
set_option genInjectivity true in
mutual
inductive Ex where
 |c (v:Const)
 |var (i:Nat)
 |glob (g:um)
 |bin (op:Operator) (a b:Ex)
 |un (op:UnaryOp) (a:Ex)
 |cmp (op:CmpOp) (a b:Ex)
 |and (es:bV)
 |or (es:bV)
 |ite (c a b:Ex)
 |list (es:bV)
 |tup (es:bV)
 |dict (ks vs:bV)
 |idx (a i:Ex)
 |slice (a:Ex) (lo hi:ul)
 |call (f:Fn) (as:bV)
 |comp (n:Nat) (gs:jZ)
 |bad
inductive bV where
 |nil
 |cons (e:Ex) (es:bV)
inductive ul where
 |none
 |some (e:Ex)
inductive jZ where
 |done (e:Ex)
 |cons (x:Nat) (it:It) (ifs:bV) (az:jZ)
inductive It where
 |range (as:bV)
 |rev (e:Ex)
 |val (e:Ex)
end
def fR:Ex->It
 | .call .range as=>.range as
 | .call .reversed (.cons a .nil)=>.rev a
 |e=>.val e
mutual
inductive St where
 |asg (x:Nat) (wA:Bool) (e:Ex)
 |unp (xs:List Nat) (e:Ex)
 |asgT (xs:List (Nat×Bool)) (es:bV)
 |aug (x:Nat) (op:Operator) (e:Ex)
 |app (o e:Ex)
 |rev (o:Ex)
 |put (x:Nat) (k v:Ex)
 |ife (c:Ex) (a b:dw)
 |for_ (x:Nat) (it:It) (body:dw)
 |while_ (c:Ex) (body:dw)
 |ret (e:Ex)
 |bad
inductive dw where
 |nil
 |cons (s:St) (ss:dw)
end
def gv:List (Str×Fn):=[("range",.range),("len",.len),("sum",.sum),("max",.max),("min",.min),("ord",.ord),("chr",.chr),("int",.int),("divmod",.divmod),("reversed",.reversed),
 ("_div2n1n",.user 0),("_int2digits",.user 1),("_digits2int",.user 2),("_divmod_pos",.user 3),("int_divmod",.user 4),("rgb_to_hls",.user 5),("rgb_to_hsv",.user 6),("hsv_to_rgb",.user 7),
 ("in_table_b1",.user 8),("map_table_b3",.user 9),("ISTERMINAL",.user 10),("ISNONTERMINAL",.user 11),("ISEOF",.user 12),("_law_word",.user 13),("_law_page",.user 14),("_law_read",.user 15),
 ("_law_net",.user 16),("_law_lamps",.user 17),("_law_paintings",.user 18),("_law_classes",.user 19),("_law_plain",.user 20),("law",.user 21)]
def iU:List (Str×Fn):=[("bit_length",.bitLength),("index",.index),("find",.find),("join",.join),("split",.split),("count",.count),("get",.get)]
def sH:List (Str×um):=[("_DIV_LIMIT",.divLimit),("NT_OFFSET",.ntOffset),("ENDMARKER",.endMarker),("EXACT_TOKEN_TYPES",.tok)]
structure Tb where
 names:List (Str×jbi)
 vars:List (Str×Nat)
 next:Nat
def wn(x:Str):Bool:=!(x==("__debug__":Str))&&!(x==("__classdict__":Str))
def Tb.celled(T:Tb)(x:Str):Bool:=T.names.lookup x==some .cell||T.names.lookup x==some .free
def Tb.var(T:Tb)(x:Str):Option Nat:=match T.names.lookup x with
 |some .local|some .cell|some .free=>if wn x then T.vars.lookup x else none
 |_=>none
def Tb.own(T:Tb)(x:Str):Option Nat:=if T.names.lookup x==some .local||T.names.lookup x==some .cell then T.var x else none
def Tb.isGlobal(T:Tb)(x:Str):Bool:=T.names.lookup x==some .globalImplicit&&wn x
def AE(l:List (Str×jbi)):Bool:=decide (l.map (·.1)).Nodup
def eB(sc:jaF):List Str:=sc.names.filterMap λ(n,k)=>if(k==.local||k==.cell)&&n != (".0":Str)then some n else none
def qg(sc:jaF):List Str:=sc.names.filterMap λ(n,k)=>if k==.free then some n else none
def Tb.comp(T:Tb)(sc:jaF):Tb :=
 { names:=sc.names,vars:=(eB sc).zipIdx.map (λ(n,j)=>(n,T.next+j))++(qg sc).filterMap (λn=>(T.var n).map (n,·)),next:=T.next+(eB sc).length}
def oS(T:Tb):Bool:=T.vars.all λa=>decide (a.2<T.next)&&T.vars.all λb=>a.2 != b.2||a.1==b.1
def B5:Expr->Bool
 | .Call (.Name _ _) [] [] _=>false
 |_=>true
def ff(o:Expr)(n:Nat)(pp pos:Pos):Bool:=B5 o&&(pp.endLine==pos.line)&&decide (n<20)
def xL(o:Option Nat)(it:It)(ifs:bV)(gs:jZ):jZ:=match o with
 |some i=>.cons i it ifs gs
 |none=>.done .bad
def Ao:bV->Ex
 | .cons (.call .values as) .nil=>.call .listVals as
 | .cons (.call .range as) .nil=>.call .listRange as
 |_=>.bad
def Gf(T:Tb):List Expr->Option Fn
 | [_,.Name t _]=>if T.isGlobal t&&t==("bool":Str)then some .isBool else if T.isGlobal t&&t==("int":Str)then some .isInt else none
 |_=>none
def Af(g:Fn):bV->Ex
 | .cons e _=>.call g (.cons e .nil)
 | .nil=>.bad
def Tt(T:Tb)(f:Str)(as:List Expr)(es:bV):Ex :=
 if f==("list":Str)then Ao es
 else if f==("isinstance":Str)then(match Gf T as with|some g=>Af g es|none=>.bad)
 else match gv.lookup f with
  |some g=>if as.isEmpty then .bad else .call g es
  |none=>.bad
def Ax(m:Str)(ok:Bool)(o:Ex)(none_:Bool)(es:bV):Ex :=
 if ok then(if m==("values":Str)then(if none_ then .call .values (.cons o .nil)else .bad)else match iU.lookup m with
  |some g=>.call g (.cons o es)
  |none=>.bad)else .bad
mutual
noncomputable def ao(T:Tb):Expr->Ex
 | .Constant c _ _=>.c c
 | .Name x _=>match T.var x with
  |some i=>.var i
  |none=>if T.isGlobal x then(match sH.lookup x with|some g=>.glob g|none=>.bad)else .bad
 | .BinOp a op b _=>.bin op (ao T a) (ao T b)
 | .UnaryOp op a _=>.un op (ao T a)
 | .Compare a [op] [b] _=>if jeC op b then .bad else .cmp op (ao T a) (ao T b)
 | .BoolOp .And (e::es) _=>.and (.cons (ao T e) (bg T es))
 | .BoolOp .Or (e::es) _=>.or (.cons (ao T e) (bg T es))
 | .IfExp c a b _=>.ite (ao T c) (ao T a) (ao T b)
 | .List es _=>.list (bg T es)
 | .Tuple es _ _=>.tup (bg T es)
 | .Dict ks vs _=>if ks.all jgz then .dict (t4 T ks) (bg T vs)else .bad
 | .Subscript a (.Slice lo hi none _) _=>.slice (ao T a) (mj T lo) (mj T hi)
 | .Subscript a i _=>.idx (ao T a) (ao T i)
 | .Call (.Name f _) as [] _=>if T.isGlobal f then Tt T f as (bg T as)else .bad
 | .Call (.Attribute o m pp) as [] pos=>Ax m (ff o as.length pp pos) (ao T o) as.isEmpty (bg T as)
 | .ListComp aD gens sc _=>if sc.kind==.function&&AE sc.names&&gens.all (λg=>g.is_async==0)&&(qg sc).all T.celled&&oS (T.comp sc)then .comp (eB sc).length (iY T (T.comp sc) (ao (T.comp sc) aD) gens)else .bad
 |_=>.bad
noncomputable def bg(T:Tb):List Expr->bV
 | []=>.nil
 |e::es=>.cons (ao T e) (bg T es)
noncomputable def t4(T:Tb):List (Option Expr)->bV
 | []=>.nil
 |some e::es=>.cons (ao T e) (t4 T es)
 |none::es=>.cons .bad (t4 T es)
noncomputable def mj(T:Tb):Option Expr->ul
 |none=>.none
 |some e=>.some (ao T e)
noncomputable def iY(T T':Tb)(aD:Ex):List jam->jZ
 |⟨.Name x _,it,ifs,0⟩::gs=>xL (T'.own x) (fR (ao T it)) (bg T' ifs) (iX T' aD gs)
 |_=>.done .bad
noncomputable def iX(T':Tb)(aD:Ex):List jam->jZ
 | []=>.done aD
 |⟨.Name x _,it,ifs,0⟩::gs=>xL (T'.own x) (fR (ao T' it)) (bg T' ifs) (iX T' aD gs)
 |_::_=>.done .bad
end
def gh:List Expr->Option (List Str)
 | []=>some []
 | .Name x _::es=>(gh es).map (x::·)
 |_=>none
def eK:Expr->Bool
 | .List ..=>true
 | .Dict [] [] _=>true
 | .ListComp ..=>true
 |_=>false
def Tb.vars?(T:Tb)(xs:List Str):Option (List Nat):=xs.mapM T.own
def Eb(o:Option Nat)(it:It)(b:dw):St:=match o with
 |some i=>.for_ i it b
 |none=>.bad
mutual
noncomputable def oV(T:Tb)(kw:List Str):Stmt->St
 | .Assign [.Name x _] v _=>match T.own x with
  |some i=>.asg i (kw.contains x&&eK v) (ao T v)
  |none=>.bad
 | .Assign [.Tuple ts _ _] (.Tuple vs _ _) _=>match gh ts with
  |some xs=>(match T.vars? xs with
   |some is=>if vs.length==xs.length&&decide (vs.length<=1000)&&decide is.Nodup&&(!vs.all (jdp 8)||vs.all (jdI 8))then .asgT (is.zip ((xs.zip vs).map λ(x,v)=>kw.contains x&&eK v)) (bg T vs)else .bad
   |none=>.bad)
  |none=>.bad
 | .Assign [.Tuple ts _ _] v _=>match gh ts with
  |some xs=>(match T.vars? xs with
   |some is=>.unp is (ao T v)
   |none=>.bad)
  |none=>.bad
 | .Assign [.Subscript (.Name x _) k _] v _=>match T.var x with
  |some i=>.put i (ao T k) (ao T v)
  |none=>.bad
 | .AugAssign (.Name x _) op v _=>match T.own x with
  |some i=>.aug i op (ao T v)
  |none=>.bad
 | .Expr (.Call (.Attribute o m ap) as [] p) _=>match as with
  | [e]=>if m==("append":Str)&&ff o 1 ap p then .app (ao T o) (ao T e)else .bad
  | []=>if m==("reverse":Str)&&ff o 0 ap p then .rev (ao T o)else .bad
  |_=>.bad
 | .If c a b _=>.ife (ao T c) (et T kw a) (et T kw b)
 | .For (.Name x _) it body [] _=>Eb (T.own x) (fR (ao T it)) (et T kw body)
 | .While c body [] _=>.while_ (ao T c) (et T kw body)
 | .Return (some e) _=>.ret (ao T e)
 |_=>.bad
noncomputable def et(T:Tb)(kw:List Str):List Stmt->dw
 | []=>.nil
 |s::ss=>.cons (oV T kw s) (et T kw ss)
end
set_option backward.match.sparseCases true
inductive cE(T:Tb):Expr->Ex->Prop
 |c {c:Const}{k:Nat}{p:Pos}:cE T (.Constant c k p) (.c c)
 |var {x:Str}{i:Nat}{p:Pos} (h:T.var x=some i):cE T (.Name x p) (.var i)
 |glob {x:Str}{g:um}{p:Pos} (hg:T.isGlobal x=true) (hl:sH.lookup x=some g):cE T (.Name x p) (.glob g)
 |bin {a b:Expr}{op:Operator}{p:Pos}:cE T (.BinOp a op b p) (.bin op (ao T a) (ao T b))
 |un {a:Expr}{op:UnaryOp}{p:Pos}:cE T (.UnaryOp op a p) (.un op (ao T a))
 |cmp {a b:Expr}{op:CmpOp}{p:Pos} (h:jeC op b=false):cE T (.Compare a [op] [b] p) (.cmp op (ao T a) (ao T b))
 |and {e:Expr}{es:List Expr}{p:Pos}:cE T (.BoolOp .And (e::es) p) (.and (bg T (e::es)))
 |or {e:Expr}{es:List Expr}{p:Pos}:cE T (.BoolOp .Or (e::es) p) (.or (bg T (e::es)))
 |ite {c a b:Expr}{p:Pos}:cE T (.IfExp c a b p) (.ite (ao T c) (ao T a) (ao T b))
 |list {es:List Expr}{p:Pos}:cE T (.List es p) (.list (bg T es))
 |tup {es:List Expr}{k:Nat}{p:Pos}:cE T (.Tuple es k p) (.tup (bg T es))
 |dict {ks:List (Option Expr)}{vs:List Expr}{p:Pos} (h:ks.all jgz=true):cE T (.Dict ks vs p) (.dict (t4 T ks) (bg T vs))
 |slice {a:Expr}{lo hi:Option Expr}{p p':Pos}:cE T (.Subscript a (.Slice lo hi none p) p') (.slice (ao T a) (mj T lo) (mj T hi))
 |idx {a i:Expr}{p:Pos}:cE T (.Subscript a i p) (.idx (ao T a) (ao T i))
 |vals {a:Expr}{f:Str}{es:bV}{p p':Pos} (hg:T.isGlobal f=true) (hf:f = "list") (ha:ao T a=.call .values es):cE T (.Call (.Name f p) [a] [] p') (.call .listVals es)
 |lrange {a:Expr}{f:Str}{es:bV}{p p':Pos} (hg:T.isGlobal f=true) (hf:f = "list") (ha:ao T a=.call .range es):cE T (.Call (.Name f p) [a] [] p') (.call .listRange es)
 |isBool {e:Expr}{f t:Str}{p p' AM:Pos} (hg:T.isGlobal f=true) (hf:f = "isinstance") (ht:T.isGlobal t=true) (eT:t = "bool"):cE T (.Call (.Name f p) [e,.Name t p'] [] AM) (.call .isBool (.cons (ao T e) .nil))
 |isInt {e:Expr}{f t:Str}{p p' AM:Pos} (hg:T.isGlobal f=true) (hf:f = "isinstance") (ht:T.isGlobal t=true) (eT:t = "int"):cE T (.Call (.Name f p) [e,.Name t p'] [] AM) (.call .isInt (.cons (ao T e) .nil))
 |user {f:Str}{g:Fn}{a:Expr}{as:List Expr}{p p':Pos} (hg:T.isGlobal f=true) (hl:gv.lookup f=some g):cE T (.Call (.Name f p) (a::as) [] p') (.call g (bg T (a::as)))
 |meth {o:Expr}{m:Str}{g:Fn}{as:List Expr}{ap p:Pos} (hl:iU.lookup m=some g) (ho:ff o as.length ap p=true):cE T (.Call (.Attribute o m ap) as [] p) (.call g (.cons (ao T o) (bg T as)))
 |values {o:Expr}{m:Str}{ap p:Pos} (hm:m = "values") (ho:ff o 0 ap p=true):cE T (.Call (.Attribute o m ap) [] [] p) (.call .values (.cons (ao T o) .nil))
 |comp {aD:Expr}{gens:List jam}{sc:jaF}{p:Pos} (h:(sc.kind==.function&&AE sc.names&&gens.all (λg=>g.is_async==0)&&(qg sc).all T.celled&&oS (T.comp sc))=true):
  cE T (.ListComp aD gens sc p) (.comp (eB sc).length (iY T (T.comp sc) (ao (T.comp sc) aD) gens))
 |bad {e:Expr}:cE T e .bad
theorem l9 [Decidable c](h1:c->cE T e x)(h2:¬c->cE T e y):cE T e (if c then x else y):=by
 by_cases h:c
 ·rw[if_pos h];exact h1 h
 ·rw[if_neg h];exact h2 h
theorem W6{T:Tb}(hg:T.isGlobal f=true)(hf:f = "list") (as:List Expr):cE T (.Call (.Name f p) as [] pos) (Ao (bg T as)):=by
 induction as using Y6 with
 |nil=>exact .bad
 |cons a as =>
  show cE T _ (Ao (.cons (ao T a) (bg T as)))
  induction h:ao T a using Ex.casesOn with
  |call g es =>
   induction as using Y6 with
   |cons=>cases g<;>exact .bad
   |nil =>
    induction g using Fn.casesOn with
    |range=>exact .lrange hg hf h
    |values=>exact .vals hg hf h
    |_=>exact .bad
  |_=>exact .bad
theorem W5{T:Tb}(hg:T.isGlobal f=true)(hf:f = "isinstance") (as:List Expr):cE T (.Call (.Name f p) as [] pos) (match Gf T as with|some g=>Af g (bg T as)|none=>.bad):=by
 induction as using Y6 with
 |nil=>exact .bad
 |cons e as =>
  induction as using Y6 with
  |nil=>exact .bad
  |cons b as =>
   induction b using ZY with
   |Name t p2 =>
    induction as using Y6 with
    |cons=>exact .bad
    |nil =>
     show cE T _ (match(if T.isGlobal t&&t==("bool":Str)then some Fn.isBool else if T.isGlobal t&&t==("int":Str)then some .isInt else none)with|some g=>Af g (bg T [e,_])|none=>.bad);by_cases h:(T.isGlobal t&&t==("bool":Str))=true
     ·refine aa (if_pos h) ?_;exact cu h λh1 h2=>.isBool hg hf h1 (eq_of_beq h2)
     ·refine aa (if_neg h) ?_;by_cases h:(T.isGlobal t&&t==("int":Str))=true
      ·refine aa (if_pos h) ?_;exact cu h λh1 h2=>.isInt hg hf h1 (eq_of_beq h2)
      ·refine aa (if_neg h) ?_;exact .bad
   |_=>exact .bad
theorem W'(hg:T.isGlobal f=true):cE T (.Call (.Name f p) as [] pos) (match gv.lookup f with
 |some g=>if as.isEmpty then .bad else .call g (bg T as)
 |none=>.bad):=by
 induction h:gv.lookup f using ae with
 |none=>exact .bad
 |some g =>
  induction as using Y6 with
  |nil=>exact .bad
  |cons=>exact .user hg h
theorem W7:cE T (.Call (.Attribute o m ap) as [] pos) (Ax m (ff o as.length ap pos) (ao T o) as.isEmpty (bg T as)):=by
 refine l9 (λho=>l9 (λhm=>?_) λY=>?_) λY=>.bad
 ·induction as using Y6 with
  |nil=>exact .values (eq_of_beq hm) ho
  |cons=>exact .bad
 ·induction h:iU.lookup m using ae with
  |none=>exact .bad
  |some g=>exact .meth h ho
theorem W8:cE T (.Name x p) (match T.var x with
 |some i=>.var i
 |none=>if T.isGlobal x then(match sH.lookup x with|some g=>.glob g|none=>.bad)else .bad):=by
 induction h:T.var x using ae with
 |some i=>exact .var h
 |none =>
  refine l9 (λhg=>?_) λY=>.bad
  induction h:sH.lookup x using ae with
  |some g=>exact .glob hg h
  |none=>exact .bad
theorem Il(T:Tb)(e:Expr):cE T e (ao T e):=by
 induction e using ZY with
 |Constant=>exact .c
 |Name=>exact W8
 |BinOp=>exact .bin
 |UnaryOp=>exact .un
 |Compare a tB cs p =>
  induction tB using Y6 with
  |nil=>exact .bad
  |cons op tB =>
   induction tB using Y6 with
   |cons=>exact .bad
   |nil =>
    induction cs using Y6 with
    |nil=>exact .bad
    |cons b cs =>
     induction cs using Y6 with
     |cons=>exact .bad
     |nil=>exact l9 (λY=>.bad) λh=>.cmp (jfG.mpr h)
 |BoolOp op es p=>cases op<;>cases es<;>first|exact .bad|exact .and|exact .or
 |IfExp=>exact .ite
 |List=>exact .list
 |Tuple=>exact .tup
 |Dict=>exact l9 (λh=>.dict h) λY=>.bad
 |Subscript a i p =>
  induction i using ZY with
  |Slice lo hi st p' =>
   induction st using ae with
   |none=>exact .slice
   |some=>exact .idx
  |_=>exact .idx
 |Call f as kws p =>
  induction f using ZY with
  |Name f p' =>
   induction kws using Y6 with
   |cons=>exact .bad
   |nil =>
    refine l9 (λhg=>?_) λY=>.bad;refine l9 (λhf=>W6 hg (eq_of_beq hf) as) λY=>?_;exact l9 (λhf=>W5 hg (eq_of_beq hf) as) λY=>W' hg
  |Attribute o m ap =>
   induction kws using Y6 with
   |cons=>exact .bad
   |nil=>exact W7
  |_=>exact .bad
 |ListComp=>exact l9 (λh=>.comp h) λY=>.bad
 |_=>exact .bad
def RQ:Fn->Bool
 | .listVals | .listRange | .isBool | .isInt=>true
 |_=>false
def Ae:Fn->Bool
 | .values=>true
 |_=>false
def Jg(T:Tb)(e:Expr):Ex->Prop
 | .call f as=>(∃x p a bs pos,e=.Call (.Name x p) (a::bs) [] pos/\T.isGlobal x=true/\gv.lookup x=some f/\as=bg T (a::bs))\/(∃m,iU.lookup m=some f)\/RQ f=true\/Ae f=true/\∃o m ap p,e=.Call (.Attribute o m ap) [] [] p/\m = "values" /\ ff o 0 ap p=true/\as=.cons (ao T o) .nil
 | .list es=>∃xs p,e=.List xs p/\es=bg T xs
 |_=>True
theorem wF(h:ao T e=x):Jg T e x:=by
 have t:=Il T e;rw[h]at t;clear h;cases t with
 |user hg hl=>exact .inl ⟨_,_,_,_,_,rfl,hg,hl,rfl⟩
 |meth hl=>exact .inr (.inl ⟨_,hl⟩)
 |list=>exact⟨_,_,rfl,rfl⟩
 |vals|lrange|isBool|isInt=>exact .inr (.inr (.inl rfl))
 |values hm ho=>exact .inr (.inr (.inr ⟨rfl,_,_,_,_,rfl,hm,ho,rfl⟩))
 |_=>exact True.intro
def I3(e:Ex):It->Prop
 | .range as=>e=.call .range as
 | .rev a=>e=.call .reversed (.cons a .nil)
 | .val x=>x=e
theorem tl(h:fR e=t):I3 e t:=by
 subst h
 induction e using Ex.casesOn with
 |call f as =>
  induction f using Fn.casesOn with
  |range=>rfl
  |reversed =>
   cases as with
   |nil=>rfl
   |cons a as=>cases as<;>rfl
  |_=>rfl
 |_=>rfl
inductive rH(T T':Tb) (aD:Ex) (gs:List jam):jam->jZ->Prop
 |bad {g:jam}:rH T T' aD gs g (.done .bad)
 |mk {x:Str}{px:Pos}{it:Expr}{ifs:List Expr}{i:Nat} (h:T'.own x=some i):rH T T' aD gs ⟨.Name x px,it,ifs,0⟩ (.cons i (fR (ao T it)) (bg T' ifs) (iX T' aD gs))
theorem Ik:rH T T' aD gs ⟨.Name x px,it,ifs,0⟩ (xL (T'.own x) (fR (ao T it)) (bg T' ifs) (iX T' aD gs)):=by
 induction h:T'.own x using ae with
 |none=>exact .bad
 |some i=>exact .mk h
theorem WS:rH T T aD gs g (iX T aD (g::gs)):=by
 obtain⟨t,it,ifs,n⟩:=g
 induction t using ZY with
 |Name x px =>
  induction n using Int.casesOn with
  |ofNat n =>
   induction n using jaA with
   |zero=>exact Ik
   |succ=>exact .bad
  |negSucc=>exact .bad
 |_=>exact .bad
theorem WR:rH T T' aD gs g (iY T T' aD (g::gs)):=by
 obtain⟨t,it,ifs,n⟩:=g
 induction t using ZY with
 |Name x px =>
  induction n using Int.casesOn with
  |ofNat n =>
   induction n using jaA with
   |zero=>exact Ik
   |succ=>exact .bad
  |negSucc=>exact .bad
 |_=>exact .bad
inductive eI(T:Tb) (mu:List Str):Stmt->St->Prop
 |asg {x:Str}{px pos:Pos}{v:Expr}{i:Nat} (h:T.own x=some i):eI T mu (.Assign [.Name x px] v pos) (.asg i (mu.contains x&&eK v) (ao T v))
 |asgT {ts vs:List Expr}{k k2:Nat}{tp p2 pos:Pos}{xs:List Str}{is:List Nat} (h1:gh ts=some xs) (h2:T.vars? xs=some is)
  (h3:(vs.length==xs.length&&decide (vs.length<=1000)&&decide is.Nodup&&(!vs.all (jdp 8)||vs.all (jdI 8)))=true):eI T mu (.Assign [.Tuple ts k tp] (.Tuple vs k2 p2) pos) (.asgT (is.zip ((xs.zip vs).map λ(x,v)=>mu.contains x&&eK v)) (bg T vs))
 |unp {ts:List Expr}{v:Expr}{k:Nat}{tp pos:Pos}{xs:List Str}{is:List Nat} (h1:gh ts=some xs) (h2:T.vars? xs=some is) (hn:∀vs k p,v≠.Tuple vs k p):eI T mu (.Assign [.Tuple ts k tp] v pos) (.unp is (ao T v))
 |put {x:Str}{px sp pos:Pos}{k v:Expr}{i:Nat} (h:T.var x=some i):eI T mu (.Assign [.Subscript (.Name x px) k sp] v pos) (.put i (ao T k) (ao T v))
 |aug {x:Str}{px pos:Pos}{v:Expr}{op:Operator}{i:Nat} (h:T.own x=some i):eI T mu (.AugAssign (.Name x px) op v pos) (.aug i op (ao T v))
 |app {o e:Expr}{m:Str}{ap p q:Pos} (hm:m = "append") (ho:ff o 1 ap p=true):eI T mu (.Expr (.Call (.Attribute o m ap) [e] [] p) q) (.app (ao T o) (ao T e))
 |rev {o:Expr}{m:Str}{ap p q:Pos} (hm:m = "reverse") (ho:ff o 0 ap p=true):eI T mu (.Expr (.Call (.Attribute o m ap) [] [] p) q) (.rev (ao T o))
 |ife {c:Expr}{a b:List Stmt}{pos:Pos}:eI T mu (.If c a b pos) (.ife (ao T c) (et T mu a) (et T mu b))
 |for_ {x:Str}{px pos:Pos}{it:Expr}{body:List Stmt}{i:Nat} (h:T.own x=some i):eI T mu (.For (.Name x px) it body [] pos) (.for_ i (fR (ao T it)) (et T mu body))
 |while_ {c:Expr}{body:List Stmt}{pos:Pos}:eI T mu (.While c body [] pos) (.while_ (ao T c) (et T mu body))
 |ret {e:Expr}{pos:Pos}:eI T mu (.Return (some e) pos) (.ret (ao T e))
 |bad {st:Stmt}:eI T mu st .bad
theorem Ag [Decidable c](h1:c->eI T mu st x)(h2:¬c->eI T mu st y):eI T mu st (if c then x else y):=by
 by_cases h:c
 ·refine aa (if_pos h) ?_;exact h1 h
 ·refine aa (if_neg h) ?_;exact h2 h
theorem WZ:eI T mu (.Assign [.Name x px] v pos) (match T.own x with
 |some i=>.asg i (mu.contains x&&eK v) (ao T v)
 |none=>.bad):=by
 induction h:T.own x using ae with
 |some i=>exact .asg h
 |none=>exact .bad
theorem W2:eI T mu (.Assign [.Tuple ts k tp] (.Tuple vs k2 p2) pos) (match gh ts with
 |some xs=>(match T.vars? xs with
  |some is=>if vs.length==xs.length&&decide (vs.length<=1000)&&decide is.Nodup&&(!vs.all (jdp 8)||vs.all (jdI 8))then .asgT (is.zip ((xs.zip vs).map λ(x,v)=>mu.contains x&&eK v)) (bg T vs)else .bad
  |none=>.bad)
 |none=>.bad):=by
 induction h:gh ts using ae with
 |none=>exact .bad
 |some xs =>
  dsimp only
  induction h2:T.vars? xs using ae with
  |none=>exact .bad
  |some is=>exact Ag (λh3=>.asgT h h2 h3) λY=>.bad
theorem W3(hn:∀vs k p,v≠.Tuple vs k p):eI T mu (.Assign [.Tuple ts k tp] v pos) (match gh ts with
 |some xs=>(match T.vars? xs with
  |some is=>.unp is (ao T v)
  |none=>.bad)
 |none=>.bad):=by
 induction h:gh ts using ae with
 |none=>exact .bad
 |some xs =>
  dsimp only
  induction h2:T.vars? xs using ae with
  |none=>exact .bad
  |some is=>exact .unp h h2 hn
theorem W0:eI T mu (.Assign [.Subscript (.Name x px) k sp] v pos) (match T.var x with
 |some i=>.put i (ao T k) (ao T v)
 |none=>.bad):=by
 induction h:T.var x using ae with
 |some i=>exact .put h
 |none=>exact .bad
theorem WX:eI T mu (.AugAssign (.Name x px) op v pos) (match T.own x with
 |some i=>.aug i op (ao T v)
 |none=>.bad):=by
 induction h:T.own x using ae with
 |some i=>exact .aug h
 |none=>exact .bad
theorem WY:eI T mu (.For (.Name x px) it body [] pos) (Eb (T.own x) (fR (ao T it)) (et T mu body)):=by
 induction h:T.own x using ae with
 |some i=>exact .for_ h
 |none=>exact .bad
theorem WW(T:Tb)(mu:List Str)(st:Stmt):eI T mu st (oV T mu st):=by
 induction st using jgV with
 |Assign ts v pos =>
  induction ts using Y6 with
  |nil=>exact .bad
  |cons t ts =>
   induction t using ZY with
   |Name x px =>
    induction ts using Y6 with
    |nil=>exact WZ
    |cons=>exact .bad
   |Tuple t5 k tp =>
    induction ts using Y6 with
    |cons=>cases v<;>exact .bad
    |nil=>cases v<;>first|exact W2|exact W3 λY Y Y q=>nomatch q
   |Subscript a k sp =>
    induction a using ZY with
    |Name x px =>
     induction ts using Y6 with
     |nil=>exact W0
     |cons=>exact .bad
    |_=>exact .bad
   |_=>exact .bad
 |AugAssign t op v pos =>
  induction t using ZY with
  |Name x px=>exact WX
  |_=>exact .bad
 |Expr e q =>
  induction e using ZY with
  |Call f as kws p =>
   induction f using ZY with
   |Attribute o m ap =>
    induction kws using Y6 with
    |cons=>exact .bad
    |nil =>
     induction as using Y6 with
     |nil=>exact Ag (λh=>cu h λh1 h2=>.rev (eq_of_beq h1) h2) λY=>.bad
     |cons e as =>
      induction as using Y6 with
      |nil=>exact Ag (λh=>cu h λh1 h2=>.app (eq_of_beq h1) h2) λY=>.bad
      |cons=>exact .bad
   |_=>exact .bad
  |_=>exact .bad
 |If=>exact .ife
 |For t it body orelse pos =>
  induction t using ZY with
  |Name x px =>
   induction orelse using Y6 with
   |nil=>exact WY
   |cons=>exact .bad
  |_=>exact .bad
 |While c body orelse pos =>
  induction orelse using Y6 with
  |nil=>exact .while_
  |cons=>exact .bad
 |Return e pos =>
  induction e using ae with
  |some=>exact .ret
  |none=>exact .bad
 |_=>exact .bad
abbrev aA:=List AO
abbrev aB:=List (Option AV)
def aQ(σ:aA):AV->Option (List AV)
 | .lst vs=>some vs
 | .ref i=>match σ[i]? with
  |some (.list vs)=>some vs
  |_=>none
 |_=>none
def gH(σ:aA):AV->Option (List (Int×AV))
 | .dct es=>some es
 | .ref i=>match σ[i]? with
  |some (.dict es)=>some es
  |_=>none
 |_=>none
def oI(σ:aA):AV->Option (List AV)
 | .tup vs=>some vs
 | .str cs=>some (cs.map λc=>.str [c])
 | .dct es=>some (es.map λe=>.int e.1)
 |v=>aQ σ v
def bj{α β:Type}(f:α->Option β):List α->Option (List β)
 | []=>some []
 |a::as=>match f a with
  |some b=>match bj f as with
   |some bs=>some (b::bs)
   |none=>none
  |none=>none
def aZ(σ:aA):Nat->AV->Option AV
 |0,_=>none
 |n+1,v=>match v with
  | .ref i=>match σ[i]? with
   |some (.list vs)=>(bj (aZ σ n) vs).map .lst
   |some (.dict es)=>(bj (λe=>(aZ σ n e.2).map (e.1,·)) es).map .dct
   |_=>none
  | .lst vs=>(bj (aZ σ n) vs).map .lst
  | .tup vs=>(bj (aZ σ n) vs).map .tup
  | .dct es=>(bj (λe=>(aZ σ n e.2).map (e.1,·)) es).map .dct
  |v=>some v
def AV.scalar:AV->Bool
 | .none | .bool _ | .int _ | .flt _ | .str _=>true
 |_=>false
def AV.isRef:AV->Bool
 | .ref _=>true
 |_=>false
def eN(eq:AV->AV->Option Bool):List AV->List AV->Option Bool
 | [],[]=>some true
 |a::as,b::bs=>match eq a b with
  |some r=>match eN eq as bs with
   |some q=>some (r&&q)
   |none=>none
  |none=>none
 |_,_=>some false
def cJ:AV->AV->Option Bool
 | .int i,.int j=>some (decide (i=j))
 | .flt x,.flt y=>if jag x x==some .eq then some (jag x y==some .eq)else none
 | .flt x,.int j=>some (jbG x j==some .eq)
 | .int i,.flt y=>some (jbG y i==some .eq)
 | .str x,.str y=>some (decide (x=y))
 |_,_=>none
def jB(σ:aA)(a b:AV):Option Bool :=
 match a,b with
 | .tup as,.tup bs=>if as.length=bs.length then eN cJ as bs else none
 | .tup _,_=>none
 |_,.tup _=>none
 |a,b=>match aQ σ a with
  |some as=>match aQ σ b with
   |some bs=>if as.length=bs.length then eN cJ as bs else some false
   |none=>none
  |none=>cJ a b
def small(a:Int):Bool:=decide (a.natAbs<2^64)
def Bv(a:Int):Bool:=decide (a.natAbs<2^4096)
def hJ(a:Int):Bool:=decide (a.natAbs<2^53)
def dE(σ:aA)(op:Operator)(a b:AV):Option AV :=
 match op,a,b with
 | .Add,.int i,.int j=>some (.int (i+j))
 | .Sub,.int i,.int j=>some (.int (i-j))
 | .Mult,.int i,.int j=>if small i||small j then some (.int (i*j))else none
 | .FloorDiv,.int i,.int j=>if j=0\/!small j then none else some (.int (i.fdiv j))
 | .Mod,.int i,.int j=>if j=0 then none else some (.int (i.fmod j))
 | .Pow,.int i,.int j=>if 0<=j/\j<=1000/\small i then some (.int (i^j.toNat))else none
 | .LShift,.int i,.int j=>if 0<=j/\j<=1000000/\Bv i then some (.int (i*2^j.toNat))else none
 | .RShift,.int i,.int j=>if 0<=j/\j<=1000000 then some (.int (i.fdiv (2^j.toNat)))else none
 | .BitXor,.int i,.int j=>some (.int (jfZ i j))
 | .Div,.int i,.int j=>if j=0\/jec (jac (decide (i<0) != decide (j<0)) i.natAbs j.natAbs)then none else some (.flt (jac (decide (i<0) != decide (j<0)) i.natAbs j.natAbs))
 | .Div,.flt x,.flt y=>if jaa y then none else some (.flt (jaf x y))
 | .Add,.flt x,.flt y=>some (.flt (jab x y))
 | .Add,.int i,.flt y=>if hJ i then some (.flt (jab (jaV i) y))else none
 | .Sub,.flt x,.flt y=>some (.flt (ZJ x y))
 | .Sub,.flt x,.int j=>if hJ j then some (.flt (ZJ x (jaV j)))else none
 | .Mult,.flt x,.flt y=>some (.flt (jaJ x y))
 | .Mod,.flt x,.flt y=>if jaa y then none else some (.flt (jdH x y).2)
 | .Add,.str x,.str y=>if x.length+y.length<=100000 then some (.str (x++y))else none
 | .Add,.tup x,.tup y=>if x.length+y.length<=100000 then some (.tup (x++y))else none
 | .Add,a,b=>match aQ σ a,aQ σ b with
  |some x,some y=>if x.length+y.length<=100000 then some (.lst (x++y))else none
  |_,_=>none
 |_,_,_=>none
def qX(op:UnaryOp)(a:AV):Option AV :=
 match op,a with
 | .USub,.int i=>some (.int (-i))
 | .Invert,.int i=>some (.int (-i-1))
 | .Not,.bool b=>some (.bool (!b))
 |_,_=>none
def Ad:AV->Option Int
 | .int i=>some i
 |_=>none
def cQ:List AV->Option (List Int):=bj Ad
def nj(i:Int)(vs:List AV):Option Bool:=(cQ vs).map λis=>is.any (·==i)
def cA:List (List Nat×Int):=[([40],7),([41],8),([91],9),([93],10),([58],11),([44],12),([59],13),([43],14),([45],15),([42],16),([47],17),([124],18),([38],19),([60],20),([62],21),([61],22),([46],23),([37],24),([123],25),([125],26),([61,61],27),([33,61],28),([60,61],29),([62,61],30),([126],31),([94],32),([60,60],33),([62,62],34),([42,42],35),([43,61],36),([45,61],37),([42,61],38),([47,61],39),([37,61],40),([38,61],41),([124,61],42),([94,61],43),([60,60,61],44),([62,62,61],45),([42,42,61],46),([47,47],47),([47,47,61],48),([64],49),([64,61],50),([45,62],51),([46,46,46],52),([58,61],53),([33],54)]
def j5(σ:aA)(op:CmpOp)(a b:AV):Option Bool :=
 match op,a,b with
 | .Eq,a,b=>jB σ a b
 | .NotEq,a,b=>(jB σ a b).map (!·)
 | .Lt,.int i,.int j=>some (decide (i<j))
 | .LtE,.int i,.int j=>some (decide (i<=j))
 | .Gt,.int i,.int j=>some (decide (j<i))
 | .GtE,.int i,.int j=>some (decide (j<=i))
 | .LtE,.flt x,.flt y=>some (jag x y==some .lt||jag x y==some .eq)
 | .Is,.bool x,.bool y=>some (x==y)
 | .IsNot,.bool x,.bool y=>some (!(x==y))
 | .In,.str x,.tok=>some (cA.lookup x).isSome
 | .In,.int i,l=>match aQ σ l with
  |some vs=>nj i vs
  |none=>none
 | .NotIn,.int i,l=>match aQ σ l with
  |some vs=>(nj i vs).map (!·)
  |none=>none
 |_,_,_=>none
def fO(k:Int)(n:Nat):Option Nat:=if hJ k then jfy k n else none
def na(σ:aA)(a i:AV):Option AV :=
 match a,i with
 | .tup vs,.int k=>(fO k vs.length).bind λj=>vs[j]?
 | .str cs,.int k=>(fO k cs.length).bind λj=>cs[j]?.map λc=>.str [c]
 |a,.int k=>match aQ σ a with
  |some vs=>(fO k vs.length).bind λj=>vs[j]?
  |none=>match gH σ a with
   |some es=>es.lookup k
   |none=>none
 |_,_=>none
def me(σ:aA)(f:{α:Type}->List α->List α)(a:AV):Option AV :=
 match a with
 | .str cs=>if cs.length<=100000 then some (.str (f cs))else none
 |a=>match aQ σ a with
  |some vs=>if vs.length<=100000 then some (.lst (f vs))else none
  |none=>none
def qS(σ:aA)(a:AV)(lo hi:Option Int):Option AV :=
 match lo,hi with
 |none,some h=>if 0<=h then me σ (λl=>l.take h.toNat) a else none
 |some l,none=>if 0<=l then me σ (λxs=>xs.drop l.toNat) a else none
 |_,_=>none
def em:List Int->Int
 | []=>0
 |i::is=>i+em is
def tQ(vs:List AV):Option Int:=match cQ vs with
 |some is=>if is.all (λi=>decide (0<=i))=true/\em is<2^53 then some (em is)else none
 |none=>none
def gz(i:Int):List Int->Int
 | []=>i
 |j::js=>gz (if i<j then j else i) js
def gP(a c:Int):Nat->List Int
 |0=>[]
 |n+1=>a::gP (a+c) c n
def fQ(a b c:Int):Option (List Int):=if 0<c/\small c=true/\jet a b c=true/\jaM a b c<=100000 then some (gP a c (jaM a b c).toNat)else none
def nu:List AV->Option (List Int)
 | [.int b]=>fQ 0 b 1
 | [.int a,.int b]=>fQ a b 1
 | [.int a,.int b,.int c]=>fQ a b c
 |_=>none
def gK(x y:UInt64):Bool:=jag x y==some .gt
def gL(x y:UInt64):Bool:=jag x y==some .lt
abbrev cX:=Nat->List AV->Option AV
def fL(n:Nat):Option AV:=if n<=100000 then some (.int n)else none
def rU(σ:aA):List AV->Option AV
 | [.str cs]=>fL cs.length
 | [.dct es]=>fL es.length
 | [l]=>match aQ σ l with
  |some vs=>fL vs.length
  |none=>none
 |_=>none
def xA(σ:aA):List AV->Option AV
 | [l]=>match aQ σ l with
  |some vs=>(tQ vs).map .int
  |none=>none
 |_=>none
def xx(σ:aA):List AV->Option AV
 | [.int i,.int j]=>some (.int (if i<j then j else i))
 | [.flt x,.flt y,.flt z]=>some (.flt (if gK z (if gK y x then y else x)then z else(if gK y x then y else x)))
 | [l]=>match aQ σ l with
  |some vs=>match cQ vs with
   |some (i::js)=>some (.int (gz i js))
   |_=>none
  |none=>none
 |_=>none
def xy:List AV->Option AV
 | [.int i,.int j]=>some (.int (if j<i then j else i))
 | [.flt x,.flt y,.flt z]=>some (.flt (if gL z (if gL y x then y else x)then z else(if gL y x then y else x)))
 |_=>none
def xz:List AV->Option AV
 | [.str [c]]=>some (.int c)
 |_=>none
def xu:List AV->Option AV
 | [.int i]=>if 0<=i/\i<=0x10FFFF then some (.str [i.toNat])else none
 |_=>none
def rT:List AV->Option AV
 | [.flt x]=>match jct x with
  | .fin jT m e=>some (.int (jez jT m e))
  |_=>none
 |_=>none
def xw:List AV->Option AV
 | [.int i,.int j]=>if j=0\/!small j then none else some (.tup [.int (i.fdiv j),.int (i.fmod j)])
 |_=>none
def uG:List AV->Option AV
 | [.int _]=>some (.bool false)
 |_=>none
def uH:List AV->Option AV
 | [.int _]=>some (.bool true)
 |_=>none
def uE:List AV->Option AV
 | [.int i]=>some (.int (Zt i))
 |_=>none
def bq(cs:List Nat):Str:=⟨cs.toArray⟩
def nP(σ:aA):List AV->Option AV
 | [.str x,.str y]=>match jay (bq x) (bq y) 0 (bq x).length 1 with
  |k::_=>some (.int k)
  | []=>none
 | [l,.int i]=>match aQ σ l with
  |some vs=>match cQ vs with
   |some is=>match is.findIdx? (·==i)with
    |some k=>if k<=100000 then some (.int k)else none
    |none=>none
   |none=>none
  |none=>none
 |_=>none
def mE:List AV->Option AV
 | [.str x,.str y]=>some (.int (match jay (bq x) (bq y) 0 (bq x).length 1 with|k::_=>(k:Int) | []=>-1))
 |_=>none
def ip:List AV->Option (List (List Nat))
 | []=>some []
 | .str x::vs=>(ip vs).map (x::·)
 |_=>none
def uI(σ:aA):List AV->Option AV
 | [.str [],l]=>match aQ σ l with
  |some vs=>match ip vs with
   |some xs=>if xs.flatten.length<=100000 then some (.str xs.flatten)else none
   |none=>none
  |none=>none
 |_=>none
def rV:List AV->Option AV
 | [.str x]=>if(bq x).length<=100000/\(jcE (bq x) ((bq x).length+1)).length<=100000/\(jcE (bq x) ((bq x).length+1)==[(0,(bq x).length)])=false then
  some (.lst ((wordsOf (bq x)).map λy=>.str y.cps.toList))else none
 |_=>none
def pG(σ:aA):List AV->Option AV
 | [l,.int i]=>match aQ σ l with
  |some vs=>match cQ vs with
   |some is=>some (.int (is.countP (·==i)))
   |none=>none
  |none=>none
 |_=>none
def uF(σ:aA):List AV->Option AV
 | [.tok,.str x,d]=>some (match cA.lookup x with|some k=>.int k|none=>d)
 | [.ref j,.int k,d]=>match gH σ (.ref j)with
  |some es=>some (match es.lookup k with|some v=>v|none=>d)
  |none=>none
 |_=>none
def nQ(Φ:cX)(σ:aA)(k:Nat)(as:List AV):Option AV:=match bj (aZ [] 6) as with
 |some bs=>Φ k bs
 |none=>match bj (aZ σ 6) as with
  |some bs=>match Φ k bs with
   |some r=>if r.scalar then some r else none
   |none=>none
  |none=>none
def nS(Φ:cX)(σ:aA)(f:Fn)(as:List AV):Option AV :=
 match f with
 | .len=>rU σ as
 | .sum=>xA σ as
 | .max=>xx σ as
 | .min=>xy as
 | .listVals=>match as with
  | [.dct es]=>if es.length<=100000 then some (.lst (es.map (·.2)))else none
  |_=>none
 | .listRange=>(nu as).map λis=>.lst (is.map .int)
 | .ord=>xz as
 | .chr=>xu as
 | .int=>rT as
 | .divmod=>xw as
 | .isBool=>uG as
 | .isInt=>uH as
 | .bitLength=>uE as
 | .index=>nP σ as
 | .find=>mE as
 | .join=>uI σ as
 | .split=>rV as
 | .count=>pG σ as
 | .get=>uF σ as
 | .user k=>nQ Φ σ k as
 |_=>none
def xM:Const->Option AV
 | .none=>some .none
 | .bool b=>some (.bool b)
 | .int i=>some (.int i)
 | .float x=>some (.flt x)
 | .str x=>some (.str x.cps.toList)
 |_=>none
def sG:um->AV
 | .divLimit=>.int 4000
 | .ntOffset=>.int 256
 | .endMarker=>.int 0
 | .tok=>.tok
def fZ{α β:Type}(f:α->Option (List β)):List α->Option (List β)
 | []=>some []
 |a::as=>match f a with
  |some bs=>match fZ f as with
   |some cs=>some (bs++cs)
   |none=>none
  |none=>none
def sI:Option (List AV)->Option (List AV)
 |some r=>if r.length<=100000 then some r else none
 |none=>none
section
variable (Φ:cX)(σ:aA)
mutual
noncomputable def ev(ρ:aB):Ex->Option AV
 | .c v=>xM v
 | .var i=>match ρ[i]? with
  |some v=>v
  |none=>none
 | .glob g=>some (sG g)
 | .bin op a b=>match ev ρ a with
  |some x=>match ev ρ b with
   |some y=>dE σ op x y
   |none=>none
  |none=>none
 | .un op a=>match ev ρ a with
  |some x=>qX op x
  |none=>none
 | .cmp op a b=>match ev ρ a with
  |some x=>match ev ρ b with
   |some y=>(j5 σ op x y).map .bool
   |none=>none
  |none=>none
 | .and es=>(cS ρ es).map .bool
 | .or es=>(kU ρ es).map .bool
 | .ite c a b=>match ev ρ c with
  |some (.bool true)=>ev ρ a
  |some (.bool false)=>ev ρ b
  |_=>none
 | .list es=>match bX ρ es with
  |some vs=>if vs.length<=100000 then some (.lst vs)else none
  |none=>none
 | .tup es=>match bX ρ es with
  |some vs=>if vs.length<=100000 then some (.tup vs)else none
  |none=>none
 | .dict (.cons k .nil) (.cons v .nil)=>match ev ρ k with
  |some (.int i)=>match ev ρ v with
   |some x=>if x.scalar then some (.dct [(i,x)])else none
   |none=>none
  |_=>none
 | .dict _ _=>none
 | .idx a i=>match ev ρ a with
  |some x=>match ev ρ i with
   |some y=>na σ x y
   |none=>none
  |none=>none
 | .slice a lo hi=>match ev ρ a with
  |some x=>match fG ρ lo with
   |some l=>match fG ρ hi with
    |some h=>qS σ x l h
    |none=>none
   |none=>none
  |none=>none
 | .call f as=>match bX ρ as with
  |some vs=>nS Φ σ f vs
  |none=>none
 | .comp n gs=>(fF ρ n gs).map .lst
 | .bad=>none
noncomputable def dU(ρ:aB):It->Option (List AV)
 | .range as=>match bX ρ as with
  |some vs=>(nu vs).map λis=>is.map AV.int
  |none=>none
 | .rev _=>none
 | .val e=>match ev ρ e with
  |some x=>oI σ x
  |none=>none
noncomputable def bX(ρ:aB):bV->Option (List AV)
 | .nil=>some []
 | .cons e es=>match ev ρ e with
  |some v=>match bX ρ es with
   |some vs=>some (v::vs)
   |none=>none
  |none=>none
noncomputable def cS(ρ:aB):bV->Option Bool
 | .nil=>some true
 | .cons e es=>match ev ρ e with
  |some (.bool true)=>cS ρ es
  |some (.bool false)=>some false
  |_=>none
noncomputable def kU(ρ:aB):bV->Option Bool
 | .nil=>some false
 | .cons e es=>match ev ρ e with
  |some (.bool false)=>kU ρ es
  |some (.bool true)=>some true
  |_=>none
noncomputable def fG(ρ:aB):ul->Option (Option Int)
 | .none=>some none
 | .some e=>match ev ρ e with
  |some (.int i)=>some (some i)
  |_=>none
noncomputable def fF(ρ:aB)(n:Nat):jZ->Option (List AV)
 | .cons x it ifs az=>match dU ρ it with
  |some vs=>match(ρ++Zm n none)[x]? with
   |some none=>if vs.length<=100000 then sI (fZ (λv=>match cS ((ρ++Zm n none).set x (some v)) ifs with
    |some true=>g8 ((ρ++Zm n none).set x (some v)) az
    |some false=>some []
    |none=>none) vs)else none
   |_=>none
  |none=>none
 | .done _=>none
noncomputable def g8(ρ:aB):jZ->Option (List AV)
 | .done aD=>(ev ρ aD).map λv=>[v]
 | .cons x it ifs az=>match dU ρ it with
  |some vs=>match ρ[x]? with
   |some none=>if vs.length<=100000 then fZ (λv=>match cS (ρ.set x (some v)) ifs with
    |some true=>g8 (ρ.set x (some v)) az
    |some false=>some []
    |none=>none) vs else none
   |_=>none
  |none=>none
end
end
section
variable {σ:aA}{C:Operator->AV->AV->AV->Prop}{r:AV}
theorem JR{a b:AV}(h6:∀a b x y,aQ σ a=some x->aQ σ b=some y->x.length+y.length<=100000->C .Add a b (.lst (x++y)))(e:(match aQ σ a,aQ σ b with
 |some x,some y=>if x.length+y.length<=100000 then some (AV.lst (x++y))else none
 |_,_=>none)=some r):C .Add a b r:=by
 induction hx:aQ σ a using ae with
 |none=>rw[hx]at e;exact ai e
 |some x =>
  induction hy:aQ σ b using ae with
  |none=>rw[hx,hy]at e;exact ai e
  |some y=>rw[hx,hy]at e;exact bR e λhl e=>aG e (h6 _ _ x y hx hy hl)
theorem JQ(h1:∀i j,C .Add (.int i) (.int j) (.int (i+j)))(h2:∀x y,C .Add (.flt x) (.flt y) (.flt (jab x y)))(h3:∀i y,hJ i=true->C .Add (.int i) (.flt y) (.flt (jab (jaV i) y)))
 (h4:∀x y,x.length+y.length<=100000->C .Add (.str x) (.str y) (.str (x++y))) (h5:∀x y,x.length+y.length<=100000->C .Add (.tup x) (.tup y) (.tup (x++y)))
 (h6:∀a b x y,aQ σ a=some x->aQ σ b=some y->x.length+y.length<=100000->C .Add a b (.lst (x++y))) {a b:AV} (e:dE σ .Add a b=some r):C .Add a b r:=by
 induction a using AV.casesOn with
 |int i =>
  induction b using AV.casesOn with
  |int j=>exact aG e (h1 i j)
  |flt y=>exact bR e λhf e=>aG e (h3 i y hf)
  |_=>exact ai e
 |flt x =>
  induction b using AV.casesOn with
  |flt y=>exact aG e (h2 x y)
  |_=>exact ai e
 |str x =>
  induction b using AV.casesOn with
  |str y=>exact bR e λhl e=>aG e (h4 x y hl)
  |_=>exact ai e
 |tup x =>
  induction b using AV.casesOn with
  |tup y=>exact bR e λhl e=>aG e (h5 x y hl)
  |_=>exact ai e
 |_=>exact JR h6 e
theorem JU{op:Operator}{a b:AV}(Pn:∀a b,dE σ .Add a b=some r->C .Add a b r)
 (h1:∀i j,C .Sub (.int i) (.int j) (.int (i-j))) (h2:∀i j,(small i||small j)=true->C .Mult (.int i) (.int j) (.int (i*j))) (h3:∀i j,¬(j=0\/(!small j)=true)->C .FloorDiv (.int i) (.int j) (.int (i.fdiv j)))
 (h4:∀i j,¬j=0->C .Mod (.int i) (.int j) (.int (i.fmod j))) (h5:∀i j,0<=j/\j<=1000/\small i=true->C .Pow (.int i) (.int j) (.int (i^j.toNat))) (h6:∀i j,0<=j/\j<=1000000/\Bv i=true->C .LShift (.int i) (.int j) (.int (i*2^j.toNat)))
 (h7:∀i j,0<=j/\j<=1000000->C .RShift (.int i) (.int j) (.int (i.fdiv (2^j.toNat)))) (h8:∀i j,C .BitXor (.int i) (.int j) (.int (jfZ i j)))
 (h9:∀i j,¬(j=0\/jec (jac (decide (i<0) != decide (j<0)) i.natAbs j.natAbs)=true)->C .Div (.int i) (.int j) (.flt (jac (decide (i<0) != decide (j<0)) i.natAbs j.natAbs)))
 (lU:∀x y,¬jaa y=true->C .Div (.flt x) (.flt y) (.flt (jaf x y))) (kZ:∀x y,C .Sub (.flt x) (.flt y) (.flt (ZJ x y))) (sJ:∀x j,hJ j=true->C .Sub (.flt x) (.int j) (.flt (ZJ x (jaV j))))
 (sK:∀x y,C .Mult (.flt x) (.flt y) (.flt (jaJ x y))) (k0:∀x y,¬jaa y=true->C .Mod (.flt x) (.flt y) (.flt (jdH x y).2)) (e:dE σ op a b=some r):C op a b r:=by
 induction op using jdJ with
 |Add=>exact Pn a b e
 |Sub =>
  induction a using AV.casesOn with
  |int i =>
   induction b using AV.casesOn with
   |int j=>exact aG e (h1 i j)
   |_=>exact ai e
  |flt x =>
   induction b using AV.casesOn with
   |int j=>exact bR e λhf e=>aG e (sJ x j hf)
   |flt y=>exact aG e (kZ x y)
   |_=>exact ai e
  |_=>exact ai e
 |Mult =>
  induction a using AV.casesOn with
  |int i =>
   induction b using AV.casesOn with
   |int j=>exact bR e λhf e=>aG e (h2 i j hf)
   |_=>exact ai e
  |flt x =>
   induction b using AV.casesOn with
   |flt y=>exact aG e (sK x y)
   |_=>exact ai e
  |_=>exact ai e
 |Mod =>
  induction a using AV.casesOn with
  |int i =>
   induction b using AV.casesOn with
   |int j=>exact mI e λhf e=>aG e (h4 i j hf)
   |_=>exact ai e
  |flt x =>
   induction b using AV.casesOn with
   |flt y=>exact mI e λhf e=>aG e (k0 x y hf)
   |_=>exact ai e
  |_=>exact ai e
 |Div =>
  induction a using AV.casesOn with
  |int i =>
   induction b using AV.casesOn with
   |int j=>exact mI e λhf e=>aG e (h9 i j hf)
   |_=>exact ai e
  |flt x =>
   induction b using AV.casesOn with
   |flt y=>exact mI e λhf e=>aG e (lU x y hf)
   |_=>exact ai e
  |_=>exact ai e
 |FloorDiv =>
  induction a using AV.casesOn with
  |int i =>
   induction b using AV.casesOn with
   |int j=>exact mI e λhf e=>aG e (h3 i j hf)
   |_=>exact ai e
  |_=>exact ai e
 |Pow =>
  induction a using AV.casesOn with
  |int i =>
   induction b using AV.casesOn with
   |int j=>exact bR e λhf e=>aG e (h5 i j hf)
   |_=>exact ai e
  |_=>exact ai e
 |LShift =>
  induction a using AV.casesOn with
  |int i =>
   induction b using AV.casesOn with
   |int j=>exact bR e λhf e=>aG e (h6 i j hf)
   |_=>exact ai e
  |_=>exact ai e
 |RShift =>
  induction a using AV.casesOn with
  |int i =>
   induction b using AV.casesOn with
   |int j=>exact bR e λhf e=>aG e (h7 i j hf)
   |_=>exact ai e
  |_=>exact ai e
 |BitXor =>
  induction a using AV.casesOn with
  |int i =>
   induction b using AV.casesOn with
   |int j=>exact aG e (h8 i j)
   |_=>exact ai e
  |_=>exact ai e
 |_=>exact ai e
end
section
variable {σ:aA}{r:Bool}
theorem xW{C:AV->AV->Bool->Prop}{a b:AV}(h1:∀i j,C (.int i) (.int j) (decide (i=j)))(h2:∀x y,(jag x x==some .eq)=true->C (.flt x) (.flt y) (jag x y==some .eq))(h3:∀x j,C (.flt x) (.int j) (jbG x j==some .eq))
 (h4:∀i y,C (.int i) (.flt y) (jbG y i==some .eq)) (h5:∀x y,C (.str x) (.str y) (decide (x=y))) (e:cJ a b=some r):C a b r:=by
 induction a using AV.casesOn with
 |int i =>
  induction b using AV.casesOn with
  |int j=>exact aG e (h1 i j)
  |flt y=>exact aG e (h4 i y)
  |_=>exact ai e
 |flt x =>
  induction b using AV.casesOn with
  |flt y=>exact bR e λh e=>aG e (h2 x y h)
  |int j=>exact aG e (h3 x j)
  |_=>exact ai e
 |str x =>
  induction b using AV.casesOn with
  |str y=>exact aG e (h5 x y)
  |_=>exact ai e
 |_=>exact ai e
theorem Mp{C:AV->AV->Bool->Prop}{a b:AV}(h2:∀a b as bs r,aQ σ a=some as->aQ σ b=some bs->as.length=bs.length->eN cJ as bs=some r->C a b r)
 (h3:∀a b as bs,aQ σ a=some as->aQ σ b=some bs->¬as.length=bs.length->C a b false) (h4:∀a b r,cJ a b=some r->C a b r) (e:(match aQ σ a with
 |some as=>match aQ σ b with
  |some bs=>if as.length=bs.length then eN cJ as bs else some false
  |none=>none
 |none=>cJ a b)=some r):C a b r:=by
 induction hx:aQ σ a using ae with
 |none=>rw[hx]at e;exact h4 a b r e
 |some as =>
  induction hy:aQ σ b using ae with
  |none=>rw[hx,hy]at e;exact ai e
  |some bs =>
   rw[hx,hy]at e;have e:(if as.length=bs.length then eN cJ as bs else some false)=some r:=e;by_cases h:as.length=bs.length
   ·rw[if_pos h]at e;exact h2 a b as bs r hx hy h e
   ·rw[if_neg h]at e;exact aG e (h3 a b as bs hx hy h)
theorem C1{C:AV->AV->Bool->Prop}{a b:AV}(h1:∀as bs r,as.length=bs.length->eN cJ as bs=some r->C (.tup as) (.tup bs) r)(h2:∀a b as bs r,aQ σ a=some as->aQ σ b=some bs->as.length=bs.length->eN cJ as bs=some r->C a b r)
 (h3:∀a b as bs,aQ σ a=some as->aQ σ b=some bs->¬as.length=bs.length->C a b false) (h4:∀a b r,cJ a b=some r->C a b r) (e:jB σ a b=some r):C a b r:=by
 induction a using AV.casesOn with
 |tup as =>
  induction b using AV.casesOn with
  |tup bs=>exact bR e λh e=>h1 as bs r h e
  |_=>exact ai e
 |_ =>
  induction b using AV.casesOn with
  |tup bs=>exact ai e
  |_=>exact Mp h2 h3 h4 e
theorem GP{i:Int}{vs:List AV}{Q:Bool->Prop}(e:nj i vs=some r)(k:∀is,cQ vs=some is->Q (is.any (·==i))):Q r:=by
 refine au (Zw.mp e) λis h e=>?_;exact e▸k is h
theorem K4{C:CmpOp->AV->AV->Bool->Prop}{op:CmpOp}{a b:AV}(h1:∀a b r,jB σ a b=some r->C .Eq a b r)(h2:∀a b r,jB σ a b=some r->C .NotEq a b (!r))(h3:∀i j,C .Lt (.int i) (.int j) (decide (i<j)))(h4:∀i j,C .LtE (.int i) (.int j) (decide (i<=j)))
 (h5:∀i j,C .Gt (.int i) (.int j) (decide (j<i))) (h6:∀i j,C .GtE (.int i) (.int j) (decide (j<=i))) (h7:∀x y,C .LtE (.flt x) (.flt y) (jag x y==some .lt||jag x y==some .eq)) (h8:∀x y,C .Is (.bool x) (.bool y) (x==y)) (h9:∀x y,C .IsNot (.bool x) (.bool y) (!(x==y)))
 (lU:∀x,C .In (.str x) .tok (cA.lookup x).isSome) (kZ:∀i l vs is,aQ σ l=some vs->cQ vs=some is->C .In (.int i) l (is.any (·==i))) (sJ:∀i l vs is,aQ σ l=some vs->cQ vs=some is->C .NotIn (.int i) l (!is.any (·==i))) (e:j5 σ op a b=some r):C op a b r:=by
 induction op using PySem.CmpOp.casesOn with
 |Eq=>exact h1 a b r e
 |NotEq=>exact lQ (f:=(!·)) e λq h=>h2 a b q h
 |Lt =>
  induction a using AV.casesOn with
  |int i =>
   induction b using AV.casesOn with
   |int j=>exact aG e (h3 i j)
   |_=>exact ai e
  |_=>exact ai e
 |LtE =>
  induction a using AV.casesOn with
  |int i =>
   induction b using AV.casesOn with
   |int j=>exact aG e (h4 i j)
   |_=>exact ai e
  |flt x =>
   induction b using AV.casesOn with
   |flt y=>exact aG e (h7 x y)
   |_=>exact ai e
  |_=>exact ai e
 |Gt =>
  induction a using AV.casesOn with
  |int i =>
   induction b using AV.casesOn with
   |int j=>exact aG e (h5 i j)
   |_=>exact ai e
  |_=>exact ai e
 |GtE =>
  induction a using AV.casesOn with
  |int i =>
   induction b using AV.casesOn with
   |int j=>exact aG e (h6 i j)
   |_=>exact ai e
  |_=>exact ai e
 |Is =>
  induction a using AV.casesOn with
  |bool x =>
   induction b using AV.casesOn with
   |bool y=>exact aG e (h8 x y)
   |_=>exact ai e
  |_=>exact ai e
 |IsNot =>
  induction a using AV.casesOn with
  |bool x =>
   induction b using AV.casesOn with
   |bool y=>exact aG e (h9 x y)
   |_=>exact ai e
  |_=>exact ai e
 |In =>
  induction a using AV.casesOn with
  |int i =>
   have e:(match aQ σ b with|some vs=>nj i vs|none=>none)=some r:=by cases b<;>exact e
   induction hl:aQ σ b using ae with
   |none=>rw[hl]at e;exact ai e
   |some vs=>rw[hl]at e;exact GP e λis h=>kZ i b vs is hl h
  |str x =>
   induction b using AV.casesOn with
   |tok=>exact aG e (lU x)
   |_=>exact ai e
  |_=>exact ai e
 |NotIn =>
  induction a using AV.casesOn with
  |int i =>
   have e:(match aQ σ b with|some vs=>(nj i vs).map (!·)|none=>none)=some r:=e
   induction hl:aQ σ b using ae with
   |none=>rw[hl]at e;exact ai e
   |some vs=>rw[hl]at e;exact lQ (f:=(!·)) e λq h=>GP (Q:=λq=>C .NotIn (.int i) b (!q)) h λis h=>sJ i b vs is hl h
  |_=>exact ai e
theorem Xo{C:UnaryOp->AV->AV->Prop}{op:UnaryOp}{a r:AV}(h1:∀i,C .USub (.int i) (.int (-i)))(h2:∀i,C .Invert (.int i) (.int (-i-1)))(h3:∀b,C .Not (.bool b) (.bool (!b)))(e:qX op a=some r):C op a r:=by
 induction op using jfP with
 |USub =>
  induction a using AV.casesOn with
  |int i=>exact aG e (h1 i)
  |_=>exact ai e
 |Invert =>
  induction a using AV.casesOn with
  |int i=>exact aG e (h2 i)
  |_=>exact ai e
 |Not =>
  induction a using AV.casesOn with
  |bool b=>exact aG e (h3 b)
  |_=>exact ai e
 |_=>exact ai e
end
section
variable {σ:aA}{C:List AV->AV->Prop}{as:List AV}{r:AV}
theorem qC{a:AV}{F:List AV->Option AV}{Q:Prop}(e:(match aQ σ a with|some vs=>F vs|none=>none)=some r)(k:∀vs,aQ σ a=some vs->F vs=some r->Q):Q:=by
 induction h:aQ σ a using ae with
 |none=>rw[h]at e;exact ai e
 |some vs=>rw[h]at e;exact k vs h e
theorem Ac{vs:List AV}{F:List Int->Option AV}{Q:Prop}(e:(match cQ vs with|some is=>F is|none=>none)=some r)(k:∀is,cQ vs=some is->F is=some r->Q):Q:=by
 induction h:cQ vs using ae with
 |none=>rw[h]at e;exact ai e
 |some is=>rw[h]at e;exact k is h e
theorem Kw(h1:∀cs,cs.length<=100000->C [.str cs] (.int cs.length))(h2:∀es,es.length<=100000->C [.dct es] (.int es.length))(h3:∀l vs,aQ σ l=some vs->vs.length<=100000->C [l] (.int vs.length))(e:rU σ as=some r):C as r:=by
 induction as using Y6 with
 |nil=>exact ai e
 |cons a as =>
  have hl:(match aQ σ a with|some vs=>fL vs.length|none=>none)=some r->C [a] r:=λe=>qC e λvs hv e=>bR e λhl e=>aG e (h3 a vs hv hl)
  induction as using Y6 with
  |cons b as=>cases a<;>exact ai e
  |nil =>
   induction a using AV.casesOn with
   |str cs=>exact bR e λhl e=>aG e (h1 cs hl)
   |dct es=>exact bR e λhl e=>aG e (h2 es hl)
   |_=>exact hl e
theorem KH(h:∀l vs is,aQ σ l=some vs->cQ vs=some is->is.all (λi=>decide (0<=i))=true->em is<2^53->C [l] (.int (em is)))(e:xA σ as=some r):C as r:=by
 induction as using Y6 with
 |nil=>exact ai e
 |cons a as =>
  induction as using Y6 with
  |cons b as=>exact ai e
  |nil =>
   refine qC (F:=λvs=>(tQ vs).map .int) e λvs hv e=>lQ e λi hi=>?_;unfold tQ at hi
   induction hs:cQ vs using ae with
   |none=>rw[hs]at hi;exact ai hi
   |some is=>rw[hs]at hi;exact bR hi λhc e=>aG (Q:=λi=>C [a] (.int i)) e (h a vs is hv hs hc.1 hc.2)
theorem Ky(h1:∀i j,C [.int i,.int j] (.int (if i<j then j else i)))(h2:∀x y z,C [.flt x,.flt y,.flt z] (.flt (if gK z (if gK y x then y else x)then z else(if gK y x then y else x))))(h3:∀l vs i js,aQ σ l=some vs->cQ vs=some (i::js)->C [l] (.int (gz i js)))(e:xx σ as=some r):C as r:=by
 induction as using Y6 with
 |nil=>exact ai e
 |cons a as =>
  induction as using Y6 with
  |nil =>
   have e:(match aQ σ a with
    |some vs=>match cQ vs with
     |some (i::js)=>some (.int (gz i js))
     |_=>none
    |none=>none)=some r:=by cases a<;>exact e
   refine qC (F:=λvs=>match cQ vs with|some (i::js)=>some (.int (gz i js))|_=>none) e λvs hv e=>?_
   induction hs:cQ vs using ae with
   |none=>rw[hs]at e;exact ai e
   |some is =>
    rw[hs]at e
    induction is using Y6 with
    |nil=>exact ai e
    |cons i js=>exact aG e (h3 a vs i js hv hs)
  |cons b as =>
   induction a using AV.casesOn with
   |int i =>
    induction b using AV.casesOn with
    |int j =>
     induction as using Y6 with
     |nil=>exact aG e (h1 i j)
     |cons=>exact ai e
    |_=>exact ai e
   |flt x =>
    induction b using AV.casesOn with
    |flt y =>
     induction as using Y6 with
     |nil=>exact ai e
     |cons c as =>
      induction c using AV.casesOn with
      |flt z =>
       induction as using Y6 with
       |nil=>exact aG e (h2 x y z)
       |cons=>exact ai e
      |_=>exact ai e
    |_=>exact ai e
   |_=>exact ai e
theorem KA(h1:∀i j,C [.int i,.int j] (.int (if j<i then j else i)))(h2:∀x y z,C [.flt x,.flt y,.flt z] (.flt (if gL z (if gL y x then y else x)then z else(if gL y x then y else x))))(e:xy as=some r):C as r:=by
 induction as using Y6 with
 |nil=>exact ai e
 |cons a as =>
  induction as using Y6 with
  |nil=>cases a<;>exact ai e
  |cons b as =>
   induction a using AV.casesOn with
   |int i =>
    induction b using AV.casesOn with
    |int j =>
     induction as using Y6 with
     |nil=>exact aG e (h1 i j)
     |cons=>exact ai e
    |_=>exact ai e
   |flt x =>
    induction b using AV.casesOn with
    |flt y =>
     induction as using Y6 with
     |nil=>exact ai e
     |cons c as =>
      induction c using AV.casesOn with
      |flt z =>
       induction as using Y6 with
       |nil=>exact aG e (h2 x y z)
       |cons=>exact ai e
      |_=>exact ai e
    |_=>exact ai e
   |_=>exact ai e
theorem KD(h:∀c,C [.str [c]] (.int c))(e:xz as=some r):C as r:=by
 induction as using Y6 with
 |nil=>exact ai e
 |cons a as =>
  induction a using AV.casesOn with
  |str cs =>
   induction cs using Y6 with
   |nil=>exact ai e
   |cons c cs =>
    induction cs using Y6 with
    |cons=>exact ai e
    |nil =>
     induction as using Y6 with
     |nil=>exact aG e (h c)
     |cons=>exact ai e
  |_=>exact ai e
theorem Kf(h:∀i,0<=i/\i<=0x10FFFF->C [.int i] (.str [i.toNat]))(e:xu as=some r):C as r:=by
 induction as using Y6 with
 |nil=>exact ai e
 |cons a as =>
  induction a using AV.casesOn with
  |int i =>
   induction as using Y6 with
   |nil=>exact bR e λhc e=>aG e (h i hc)
   |cons=>exact ai e
  |_=>exact ai e
theorem Kp(h:∀x jT m ex,jct x=.fin jT m ex->C [.flt x] (.int (jez jT m ex)))(e:rT as=some r):C as r:=by
 induction as using Y6 with
 |nil=>exact ai e
 |cons a as =>
  induction a using AV.casesOn with
  |flt x =>
   induction as using Y6 with
   |cons=>exact ai e
   |nil =>
    have e:(match jct x with | .fin jT m e=>some (.int (jez jT m e))|_=>none)=some r:=e;cases hd:jct x with
    |fin jT m ex=>rw[hd]at e;exact aG e (h x jT m ex hd)
    |_=>rw[hd]at e;exact ai e
  |_=>exact ai e
theorem Ki(h:∀i j,¬(j=0\/(!small j)=true)->C [.int i,.int j] (.tup [.int (i.fdiv j),.int (i.fmod j)]))(e:xw as=some r):C as r:=by
 induction as using Y6 with
 |nil=>exact ai e
 |cons a as =>
  induction a using AV.casesOn with
  |int i =>
   induction as using Y6 with
   |nil=>exact ai e
   |cons b as =>
    induction b using AV.casesOn with
    |int j =>
     induction as using Y6 with
     |nil=>exact mI e λhc e=>aG e (h i j hc)
     |cons=>exact ai e
    |_=>exact ai e
  |_=>exact ai e
theorem Kr(h:∀i,C [.int i] (.bool false))(e:uG as=some r):C as r:=by
 induction as using Y6 with
 |nil=>exact ai e
 |cons a as =>
  induction a using AV.casesOn with
  |int i =>
   induction as using Y6 with
   |nil=>exact aG e (h i)
   |cons=>exact ai e
  |_=>exact ai e
theorem Kt(h:∀i,C [.int i] (.bool true))(e:uH as=some r):C as r:=by
 induction as using Y6 with
 |nil=>exact ai e
 |cons a as =>
  induction a using AV.casesOn with
  |int i =>
   induction as using Y6 with
   |nil=>exact aG e (h i)
   |cons=>exact ai e
  |_=>exact ai e
theorem Ch(h:∀i,C [.int i] (.int (Zt i)))(e:uE as=some r):C as r:=by
 induction as using Y6 with
 |nil=>exact ai e
 |cons a as =>
  induction a using AV.casesOn with
  |int i =>
   induction as using Y6 with
   |nil=>exact aG e (h i)
   |cons=>exact ai e
  |_=>exact ai e
theorem UW{C:List AV->List Int->Prop}{is:List Int}(h1:∀b is,fQ 0 b 1=some is->C [.int b] is)(h2:∀a b is,fQ a b 1=some is->C [.int a,.int b] is)(h3:∀a b c is,fQ a b c=some is->C [.int a,.int b,.int c] is)(e:nu as=some is):C as is:=by
 induction as using Y6 with
 |nil=>exact ai e
 |cons a as =>
  induction a using AV.casesOn with
  |int a =>
   induction as using Y6 with
   |nil=>exact h1 a is e
   |cons b as =>
    induction b using AV.casesOn with
    |int b =>
     induction as using Y6 with
     |nil=>exact h2 a b is e
     |cons c as =>
      induction c using AV.casesOn with
      |int c =>
       induction as using Y6 with
       |nil=>exact h3 a b c is e
       |cons=>exact ai e
      |_=>exact ai e
    |_=>exact ai e
  |_=>exact ai e
theorem RL{a:AV}{i:Int}(h2:∀l i vs is (k:Nat),aQ σ l=some vs->cQ vs=some is->is.findIdx? (·==i)=some k->k<=100000->C [l,.int i] (.int k))(e:(match aQ σ a with
 |some vs=>match cQ vs with
  |some is=>match is.findIdx? (·==i)with
   |some k=>if k<=100000 then some (.int k)else none
   |none=>none
  |none=>none
 |none=>none)=some r):C [a,.int i] r :=
 qC e λvs hv e=>Ac (F:=λis=>match is.findIdx? (·==i)with
  |some k=>if k<=100000 then some (.int k)else none
  |none=>none) e λis hs e=>by
  induction hk:is.findIdx? (·==i)using ae with
  |none=>rw[hk]at e;exact ai e
  |some k=>rw[hk]at e;exact bR e λhc e=>aG e (h2 a i vs is k hv hs hk hc)
theorem Kn(h1:∀x y k az,jay (bq x) (bq y) 0 (bq x).length 1=k::az->C [.str x,.str y] (.int k))(h2:∀l i vs is (k:Nat),aQ σ l=some vs->cQ vs=some is->is.findIdx? (·==i)=some k->k<=100000->C [l,.int i] (.int k))(e:nP σ as=some r):C as r:=by
 induction as using Y6 with
 |nil=>exact ai e
 |cons a as =>
  induction as using Y6 with
  |nil=>cases a<;>exact ai e
  |cons b as =>
   induction b using AV.casesOn with
   |int i =>
    induction as using Y6 with
    |nil=>cases a<;>exact RL h2 e
    |cons=>cases a<;>exact ai e
   |str y =>
    induction a using AV.casesOn with
    |str x =>
     induction as using Y6 with
     |cons=>exact ai e
     |nil =>
      have e:(match jay (bq x) (bq y) 0 (bq x).length 1 with|k::_=>some (.int k) | []=>none)=some r:=e
      induction ho:jay (bq x) (bq y) 0 (bq x).length 1 using Y6 with
      |nil=>rw[ho]at e;exact ai e
      |cons k az=>rw[ho]at e;exact aG e (h1 x y k az ho)
    |_=>exact ai e
   |_=>cases a<;>exact ai e
theorem Cj(h:∀x y,C [.str x,.str y] (.int (match jay (bq x) (bq y) 0 (bq x).length 1 with|k::_=>(k:Int) | []=>-1)))(e:mE as=some r):C as r:=by
 induction as using Y6 with
 |nil=>exact ai e
 |cons a as =>
  induction a using AV.casesOn with
  |str x =>
   induction as using Y6 with
   |nil=>exact ai e
   |cons b as =>
    induction b using AV.casesOn with
    |str y =>
     induction as using Y6 with
     |nil=>exact aG e (h x y)
     |cons=>exact ai e
    |_=>exact ai e
  |_=>exact ai e
theorem Cm(h:∀l vs xs,aQ σ l=some vs->ip vs=some xs->xs.flatten.length<=100000->C [.str [],l] (.str xs.flatten))(e:uI σ as=some r):C as r:=by
 induction as using Y6 with
 |nil=>exact ai e
 |cons a as =>
  induction a using AV.casesOn with
  |str x =>
   induction x using Y6 with
   |cons=>exact ai e
   |nil =>
    induction as using Y6 with
    |nil=>exact ai e
    |cons l as =>
     induction as using Y6 with
     |cons=>exact ai e
     |nil =>
      refine qC (F:=λvs=>match ip vs with
       |some xs=>if xs.flatten.length<=100000 then some (.str xs.flatten)else none
       |none=>none) e λvs hv e=>?_
      induction hs:ip vs using ae with
      |none=>rw[hs]at e;exact ai e
      |some xs=>rw[hs]at e;exact bR e λhc e=>aG e (h l vs xs hv hs hc)
  |_=>exact ai e
theorem Cn(h:∀x,((bq x).length<=100000/\(jcE (bq x) ((bq x).length+1)).length<=100000/\(jcE (bq x) ((bq x).length+1)==[(0,(bq x).length)])=false)->C [.str x] (.lst ((wordsOf (bq x)).map λy=>.str y.cps.toList)))(e:rV as=some r):C as r:=by
 induction as using Y6 with
 |nil=>exact ai e
 |cons a as =>
  induction a using AV.casesOn with
  |str x =>
   induction as using Y6 with
   |nil=>exact bR e λhc e=>aG e (h x hc)
   |cons=>exact ai e
  |_=>exact ai e
theorem Ci(h:∀l i vs is,aQ σ l=some vs->cQ vs=some is->C [l,.int i] (.int (is.countP (·==i))))(e:pG σ as=some r):C as r:=by
 induction as using Y6 with
 |nil=>exact ai e
 |cons a as =>
  induction as using Y6 with
  |nil=>exact ai e
  |cons b as =>
   induction b using AV.casesOn with
   |int i =>
    induction as using Y6 with
    |nil=>exact qC e λvs hv e=>Ac e λis hs e=>aG e (h a i vs is hv hs)
    |cons=>exact ai e
   |_=>exact ai e
theorem Ck(h1:∀x d,C [.tok,.str x,d] (match cA.lookup x with|some k=>.int k|none=>d))(h2:∀j k d es,gH σ (.ref j)=some es->C [.ref j,.int k,d] (match es.lookup k with|some v=>v|none=>d))(e:uF σ as=some r):C as r:=by
 induction as using Y6 with
 |nil=>exact ai e
 |cons a as =>
  induction a using AV.casesOn with
  |tok =>
   induction as using Y6 with
   |nil=>exact ai e
   |cons b as =>
    induction b using AV.casesOn with
    |str x =>
     induction as using Y6 with
     |nil=>exact ai e
     |cons d as =>
      induction as using Y6 with
      |nil=>exact aG e (h1 x d)
      |cons=>exact ai e
    |_=>exact ai e
  |ref j =>
   induction as using Y6 with
   |nil=>exact ai e
   |cons b as =>
    induction b using AV.casesOn with
    |int k =>
     induction as using Y6 with
     |nil=>exact ai e
     |cons d as =>
      induction as using Y6 with
      |cons=>exact ai e
      |nil =>
       have e:(match gH σ (.ref j)with
        |some es=>some (match es.lookup k with|some v=>v|none=>d)
        |none=>none)=some r:=e
       induction hd:gH σ (.ref j)using ae with
       |none=>rw[hd]at e;exact ai e
       |some es=>rw[hd]at e;exact aG e (h2 j k d es hd)
    |_=>exact ai e
  |_=>exact ai e
theorem Rt{C:AV->AV->AV->Prop}{a:AV}{k:Int}(h3:∀a k vs j r,aQ σ a=some vs->fO k vs.length=some j->vs[j]?=some r->C a (.int k) r)(h4:∀a k es r,gH σ a=some es->es.lookup k=some r->C a (.int k) r)(e:(match aQ σ a with
 |some vs=>(fO k vs.length).bind λj=>vs[j]?
 |none=>match gH σ a with
  |some es=>es.lookup k
  |none=>none)=some r):C a (.int k) r:=by
 induction hv:aQ σ a using ae with
 |some vs=>rw[hv]at e;exact pP e λj hj e=>h3 a k vs j r hv hj e
 |none =>
  rw[hv]at e
  induction hd:gH σ a using ae with
  |none=>rw[hd]at e;exact ai e
  |some es=>rw[hd]at e;exact h4 a k es r hd e
theorem Ru{C:AV->AV->AV->Prop}{a i:AV}(h1:∀vs k j r,fO k vs.length=some j->vs[j]?=some r->C (.tup vs) (.int k) r)(h2:∀cs k j c,fO k cs.length=some j->cs[j]?=some c->C (.str cs) (.int k) (.str [c]))
 (h3:∀a k vs j r,aQ σ a=some vs->fO k vs.length=some j->vs[j]?=some r->C a (.int k) r) (h4:∀a k es r,gH σ a=some es->es.lookup k=some r->C a (.int k) r) (e:na σ a i=some r):C a i r:=by
 induction i using AV.casesOn with
 |int k =>
  induction a using AV.casesOn with
  |tup vs=>exact pP e λj hj e=>h1 vs k j r hj e
  |str cs=>exact pP e λj hj e=>lQ e λc hc=>h2 cs k j c hj hc
  |_=>exact Rt h3 h4 e
 |_=>cases a<;>exact ai e
end
def lL:Operator->AV->AV->Bool
 | .FloorDiv,.int _,.int _=>true
 | .Add,.str _,.str _=>true
 |_,_,_=>false
def lT(σ:aA)(j:Nat):Option AV:=match σ[j]? with
 |some (.list vs)=>aZ [] 6 (.lst vs)
 |some (.dict es)=>aZ [] 6 (.dct es)
 |_=>none
inductive Fl where
 |next (ρ:aB) (σ:aA)
 |ret (v:AV)
def pQ:bV->Bool
 | .nil=>true
 | .cons (.list .nil) es=>pQ es
 |_=>false
def bV.len:bV->Nat
 | .nil=>0
 | .cons _ es=>es.len+1
def dictPut(es:List (Int×AV))(k:Int)(v:AV):List (Int×AV):=
 if es.any (λe=>decide (e.1=k))then es.map (λe=>if e.1=k then(e.1,v)else e)else es++[(k,v)]
def eQ(f:aB->aA->AV->Option Fl):List AV->aB->aA->Option Fl
 | [],ρ,σ=>some (.next ρ σ)
 |v::vs,ρ,σ=>match f ρ σ v with
  |some (.next av an)=>eQ f vs av an
  |some (.ret r)=>some (.ret r)
  |none=>none
def jr(c:aB->aA->Option AV)(f:aB->aA->Option Fl):Nat->aB->aA->Option Fl
 |0,_,_=>none
 |n+1,ρ,σ=>match c ρ σ with
  |some (.bool true)=>match f ρ σ with
   |some (.next av an)=>jr c f n av an
   |some (.ret r)=>some (.ret r)
   |none=>none
  |some (.bool false)=>some (.next ρ σ)
  |_=>none
section
variable (Φ:cX)
def oT(ρ:aB)(σ:aA):Ex->Option (AV×aA)
 | .list es=>if pQ es&&decide (0<es.len/\es.len<=1000)then
  some (.ref (σ.length+es.len),σ++Zm es.len (.list [])++[.list ((Za es.len).map λj=>.ref (σ.length+j))])
  else match bX Φ σ ρ es with
   |some vs=>if vs.length<=100000 then some (.ref σ.length,σ++[.list vs])else none
   |none=>none
 | .dict .nil .nil=>some (.ref σ.length,σ++[.dict []])
 | .comp n gs=>match fF Φ σ ρ n gs with
  |some vs=>some (.ref σ.length,σ++[.list vs])
  |none=>none
 |_=>none
def gq(ρ:aB)(σ:aA)(wA:Bool)(e:Ex):Option (AV×aA):=
 if wA then oT Φ ρ σ e else(ev Φ σ ρ e).map (·,σ)
def eO(ρ:aB):aA->List (Nat×Bool)->bV->Option (List AV×aA)
 | σ,[],.nil=>some ([],σ)
 | σ,x::xs,.cons e es=>match gq Φ ρ σ x.2 e with
  |some (v,an)=>match eO ρ an xs es with
   |some (vs,iv)=>some (v::vs,iv)
   |none=>none
  |none=>none
 |_,_,_=>none
def eC(ρ:aB):List Nat->List AV->Option aB
 | [],[]=>some ρ
 |x::xs,v::vs=>eC (ρ.set x (some v)) xs vs
 |_,_=>none
def lR(ρ:aB)(σ:aA)(it:It):Option (List AV):=
 match it with
 | .val e=>match ev Φ σ ρ e with
  |some (.ref _)=>none
  |some x=>oI σ x
  |none=>none
 | .rev e=>match ev Φ σ ρ e with
  |some (.lst vs)=>some vs.reverse
  |_=>none
 | .range as=>dU Φ σ ρ (.range as)
mutual
noncomputable def cU(ρ:aB)(σ:aA):St->Option Fl
 | .asg x th e=>match gq Φ ρ σ th e with
  |some (v,an)=>some (.next (ρ.set x (some v)) an)
  |none=>none
 | .unp xs e=>match ev Φ σ ρ e with
  |some (.tup vs)=>(eC ρ xs vs).map (.next · σ)
  |_=>none
 | .asgT xs es=>match eO Φ ρ σ xs es with
  |some (vs,an)=>(eC ρ (xs.map (·.1)) vs).map (.next · an)
  |none=>none
 | .aug x op e=>match ρ[x]? with
  |some (some old)=>match ev Φ σ ρ e with
   |some v=>match old with
    | .ref i=>match op,σ[i]?,aQ σ v with
     | .Add,some (.list xs),some ys=>if xs.length+ys.length<=100000 then some (.next ρ (σ.set i (.list (xs++ys))))else none
     |_,_,_=>none
    |old=>if lL op old v then(match dE σ op old v with
     |some r=>some (.next (ρ.set x (some r)) σ)
     |none=>none)else none
   |none=>none
  |_=>none
 | .app o e=>match ev Φ σ ρ o with
  |some (.ref i)=>match ev Φ σ ρ e with
   |some v=>match σ[i]? with
    |some (.list xs)=>if xs.length<=100000 then(match v with
     | .ref j=>if i=j then none else match lT σ j with
      |some r=>some (.next ρ ((σ.set j .gone).set i (.list (xs++[r]))))
      |none=>none
     |v=>some (.next ρ (σ.set i (.list (xs++[v])))))else none
    |_=>none
   |none=>none
  |_=>none
 | .rev o=>match ev Φ σ ρ o with
  |some (.ref i)=>match σ[i]? with
   |some (.list xs)=>if xs.length<=100000 then some (.next ρ (σ.set i (.list xs.reverse)))else none
   |_=>none
  |_=>none
 | .put x k v=>match ev Φ σ ρ v with
  |some wd=>if wd.scalar then(match ρ[x]? with
   |some (some (.ref i))=>match ev Φ σ ρ k with
    |some (.int k)=>match σ[i]? with
     |some (.dict es)=>if es.length<=100000 then some (.next ρ (σ.set i (.dict (dictPut es k wd))))else none
     |_=>none
    |_=>none
   |_=>none)else none
  |none=>none
 | .ife c a b=>match ev Φ σ ρ c with
  |some (.bool true)=>aE ρ σ a
  |some (.bool false)=>aE ρ σ b
  |_=>none
 | .for_ x it body=>match lR Φ ρ σ it with
  |some vs=>eQ (λρ σ v=>aE (ρ.set x (some v)) σ body) vs ρ σ
  |none=>none
 | .while_ c body=>jr (λρ σ=>ev Φ σ ρ c) (λρ σ=>aE ρ σ body) 100 ρ σ
 | .ret e=>match ev Φ σ ρ e with
  |some v=>(aZ σ 6 v).map .ret
  |none=>none
 | .bad=>none
noncomputable def aE(ρ:aB)(σ:aA):dw->Option Fl
 | .nil=>some (.next ρ σ)
 | .cons s ss=>match cU ρ σ s with
  |some (.next av an)=>aE av an ss
  |some (.ret v)=>some (.ret v)
  |none=>none
end
end
structure dC where
 nargs:Nat
 nvars:Nat
 body:dw
def oP(Φ:cX)(d:dC)(as:List AV):Option AV :=
 if as.length=d.nargs then
  match aE Φ (as.map some++Zm (d.nvars-d.nargs) none) [] d.body with
  |some (.ret v)=>some v
  |_=>none
 else none
def nR(gb:cX)(fns:Nat->Option dC):Nat->cX
 |0=>λY Y=>none
 |n+1=>λk as=>match fns k with
  |some d=>oP (nR gb fns n) d as
  |none=>gb k as
def qe(kw:List Str):Stmt->dC
 | .FunctionDef _ a b _ _ _ sc _ _ _ =>
  let ps:=a.args.map (·.arg);let vs:=ps++(eB sc).filter λx=>!ps.contains x
  ⟨ps.length,vs.length,et {names:=sc.names,vars:=vs.zipIdx,next:=vs.length} kw b⟩
 |_=>⟨0,0,.cons .bad .nil⟩
theorem Ij:bg T []=.nil:=rfl
theorem t0:bg T (e::es)=.cons (ao T e) (bg T es):=rfl
theorem WU:mj T none=.none:=rfl
theorem WV:mj T (some e)=.some (ao T e):=rfl
theorem gO{f:α->Option β}:bj f (a::as) =
 match f a with
 |some b =>
  match bj f as with
  |some bs=>some (b::bs)
  |none=>none
 |none=>none:=rfl
theorem yR:aZ σ (n+1) (.ref i) =
 match σ[i]? with
 |some (.list vs)=>jad .lst (bj (aZ σ n) vs)
 |some (.dict es)=>jad .dct (bj (λe=>jad (λx=>(e.fst,x)) (aZ σ n e.snd)) es)
 |x=>none:=rfl
theorem OI:aZ σ (n+1) (.lst vs)=jad .lst (bj (aZ σ n) vs):=rfl
theorem OJ:aZ σ (n+1) (.dct es) =
 jad .dct (bj (λe=>jad (λx=>(e.fst,x)) (aZ σ n e.snd)) es):=rfl
theorem sd:eN eq (a::as) (b::bs) =
 match eq a b with
 |some r =>
  match eN eq as bs with
  |some q=>some (r&&q)
  |none=>none
 |none=>none:=rfl
theorem u6{f:α->Option (List β)}:fZ f (a::as) =
 match f a with
 |some bs =>
  match fZ f as with
  |some cs=>some (bs++cs)
  |none=>none
 |none=>none:=rfl
theorem Bk:em []=0:=rfl
theorem wy:em (i::is)=i+em is:=rfl
theorem Tg:gz i []=i:=rfl
theorem Th:gz i (FY::is)=gz (if i<FY then FY else i) is:=rfl
theorem tI:gP a c (n+1)=a::gP (a+c) c n:=rfl
theorem V4:ip (.str i::vs)=jad (λx=>i::x) (ip vs):=rfl
theorem Ny:bV.len (.cons e es)=bV.len es+1:=rfl
theorem yK:eQ f (v::vs) y x =
 match f y x v with
 |some (.next av an)=>eQ f vs av an
 |some (.ret r)=>some (.ret r)
 |none=>none:=rfl
theorem Bu:jr c f (n+1) y x =
 match c y x with
 |some (.bool true) =>
  match f y x with
  |some (.next av an)=>jr c f n av an
  |some (.ret r)=>some (.ret r)
  |none=>none
 |some (.bool false)=>some (.next y x)
 |x=>none:=rfl
theorem Df:gq Φ ρ σ wA e=if wA=true then oT Φ ρ σ e else jad (λx=>(x,σ)) (ev Φ σ ρ e):=rfl
theorem Dt:ev Φ σ ρ (.c v)=xM v:=rfl
theorem Dx:ev Φ σ ρ (.var i) =
 match ρ[i]? with
 |some v=>v
 |none=>none:=rfl
theorem Dy:ev Φ σ ρ (.bin op a b) =
 match ev Φ σ ρ a with
 |some x =>
  match ev Φ σ ρ b with
  |some y=>dE σ op x y
  |none=>none
 |none=>none:=rfl
theorem yk:ev Φ σ ρ (.un op a) =
 match ev Φ σ ρ a with
 |some x=>qX op x
 |none=>none:=rfl
theorem Dz:ev Φ σ ρ (.cmp op a b) =
 match ev Φ σ ρ a with
 |some x =>
  match ev Φ σ ρ b with
  |some y=>jad .bool (j5 σ op x y)
  |none=>none
 |none=>none:=rfl
theorem uW:ev Φ σ ρ (.and es)=jad .bool (cS Φ σ ρ es):=rfl
theorem yl:ev Φ σ ρ (.or es)=jad .bool (kU Φ σ ρ es):=rfl
theorem ym:ev Φ σ ρ (.ite c a b) =
 match ev Φ σ ρ c with
 |some (.bool true)=>ev Φ σ ρ a
 |some (.bool false)=>ev Φ σ ρ b
 |x=>none:=rfl
theorem Du:ev Φ σ ρ (.list es) =
 match bX Φ σ ρ es with
 |some vs=>if jaT vs<=100000 then some (.lst vs)else none
 |none=>none:=rfl
theorem Dv:ev Φ σ ρ (.tup es) =
 match bX Φ σ ρ es with
 |some vs=>if jaT vs<=100000 then some (.tup vs)else none
 |none=>none:=rfl
theorem Ni:ev Φ σ ρ (.dict (.cons k .nil) (.cons v .nil)) =
 match ev Φ σ ρ k with
 |some (.int i) =>
  match ev Φ σ ρ v with
  |some x=>if x.scalar=true then some (.dct [(i,x)])else none
  |none=>none
 |x=>none:=rfl
theorem Dw:ev Φ σ ρ (.idx a i) =
 match ev Φ σ ρ a with
 |some x =>
  match ev Φ σ ρ i with
  |some y=>na σ x y
  |none=>none
 |none=>none:=rfl
theorem pY:ev Φ σ ρ (.slice a lo hi) =
 match ev Φ σ ρ a with
 |some x =>
  match fG Φ σ ρ lo with
  |some l =>
   match fG Φ σ ρ hi with
   |some h=>qS σ x l h
   |none=>none
  |none=>none
 |none=>none:=rfl
theorem kW:ev Φ σ ρ (.call f as) =
 match bX Φ σ ρ as with
 |some vs=>nS Φ σ f vs
 |none=>none:=rfl
theorem yj:ev Φ σ ρ (.comp n gs)=jad .lst (fF Φ σ ρ n gs):=rfl
theorem DA:bX Φ σ ρ .nil=some []:=rfl
theorem mO:bX Φ σ ρ (.cons e es) =
 match ev Φ σ ρ e with
 |some v =>
  match bX Φ σ ρ es with
  |some vs=>some (v::vs)
  |none=>none
 |none=>none:=rfl
theorem x0:fF Φ σ ρ n (.cons i it ifs az) =
 match dU Φ σ ρ it with
 |some vs =>
  match(ρ++Zm n none)[i]? with
  |some none =>
   if jaT vs<=100000 then
    sI
     (fZ
      (λv =>
       match cS Φ σ (jcu (ρ++Zm n none) i (some v)) ifs with
       |some true=>g8 Φ σ (jcu (ρ++Zm n none) i (some v)) az
       |some false=>some []
       |none=>none)
      vs)
   else none
  |x=>none
 |none=>none:=rfl
theorem MX:g8 Φ σ ρ (.done aD)=jad (λv=>[v]) (ev Φ σ ρ aD):=rfl
theorem Db:g8 Φ σ ρ (.cons i it ifs az) =
 match dU Φ σ ρ it with
 |some vs =>
  match ρ[i]? with
  |some none =>
   if jaT vs<=100000 then
    fZ
     (λv =>
      match cS Φ σ (jcu ρ i (some v)) ifs with
      |some true=>g8 Φ σ (jcu ρ i (some v)) az
      |some false=>some []
      |none=>none)
     vs
   else none
  |x=>none
 |none=>none:=rfl
theorem Dd:fG Φ σ ρ .none=some none:=rfl
theorem pR:fG Φ σ ρ (.some e) =
 match ev Φ σ ρ e with
 |some (.int i)=>some (some i)
 |x=>none:=rfl
theorem nW:cS Φ σ ρ .nil=some true:=rfl
theorem kT:cS Φ σ ρ (.cons e es) =
 match ev Φ σ ρ e with
 |some (.bool true)=>cS Φ σ ρ es
 |some (.bool false)=>some false
 |x=>none:=rfl
theorem De:kU Φ σ ρ .nil=some false:=rfl
theorem pS:kU Φ σ ρ (.cons e es) =
 match ev Φ σ ρ e with
 |some (.bool false)=>kU Φ σ ρ es
 |some (.bool true)=>some true
 |x=>none:=rfl
theorem se:dU Φ σ ρ (.range as) =
 match bX Φ σ ρ as with
 |some vs=>jad (λis=>jfE .int is) (nu vs)
 |none=>none:=rfl
theorem si:dU Φ σ ρ (.val e) =
 match ev Φ σ ρ e with
 |some x=>oI σ x
 |none=>none:=rfl
theorem Dc:lR Φ ρ σ (.val e) =
 match ev Φ σ ρ e with
 |some (.ref i)=>none
 |some x=>oI σ x
 |none=>none:=rfl
theorem MY:lR Φ ρ σ (.rev e) =
 match ev Φ σ ρ e with
 |some (.lst vs)=>some (List.reverse vs)
 |x=>none:=rfl
theorem yu:cU Φ ρ σ (.asg i th e) =
 match gq Φ ρ σ th e with
 |some (v,an)=>some (.next (jcu ρ i (some v)) an)
 |none=>none:=rfl
theorem DL:cU Φ ρ σ (.unp xs e) =
 match ev Φ σ ρ e with
 |some (.tup vs)=>jad (λx=>.next x σ) (eC ρ xs vs)
 |x=>none:=rfl
theorem DM:cU Φ ρ σ (.asgT xs es) =
 match eO Φ ρ σ xs es with
 |some (vs,an)=>jad (λx=>.next x an) (eC ρ (jfE (λx=>x.fst) xs) vs)
 |none=>none:=rfl
theorem yw:cU Φ ρ σ (.aug i op e) =
 match ρ[i]? with
 |some (some old) =>
  match ev Φ σ ρ e with
  |some v =>
   match old with
   | .ref i =>
    match op,σ[i]?,aQ σ v with
    |jiE,some (.list xs),some ys =>
     if jaT xs+jaT ys<=100000 then some (.next ρ (jcu σ i (.list (xs++ys))))
     else none
    |x,x_2,x_3=>none
   |old =>
    if lL op old v=true then
     match dE σ op old v with
     |some r=>some (.next (jcu ρ i (some r)) σ)
     |none=>none
    else none
  |none=>none
 |x=>none:=rfl
theorem yx:cU Φ ρ σ (.app o e) =
 match ev Φ σ ρ o with
 |some (.ref i) =>
  match ev Φ σ ρ e with
  |some v =>
   match σ[i]? with
   |some (.list xs) =>
    if jaT xs<=100000 then
     match v with
     | .ref j =>
      if i=j then none
      else
       match lT σ j with
       |some r=>some (.next ρ (jcu (jcu σ j .gone) i (.list (xs++[r]))))
       |none=>none
     |v=>some (.next ρ (jcu σ i (.list (xs++[v]))))
    else none
   |x=>none
  |none=>none
 |x=>none:=rfl
theorem DN:cU Φ ρ σ (.rev o) =
 match ev Φ σ ρ o with
 |some (.ref i) =>
  match σ[i]? with
  |some (.list xs) =>
   if jaT xs<=100000 then some (.next ρ (jcu σ i (.list (List.reverse xs))))else none
  |x=>none
 |x=>none:=rfl
theorem DO:cU Φ ρ σ (.put i k v) =
 match ev Φ σ ρ v with
 |some wd =>
  if wd.scalar=true then
   match ρ[i]? with
   |some (some (.ref i)) =>
    match ev Φ σ ρ k with
    |some (.int k) =>
     match σ[i]? with
     |some (.dict es) =>
      if jaT es<=100000 then some (.next ρ (jcu σ i (.dict (dictPut es k wd))))else none
     |x=>none
    |x=>none
   |x=>none
  else none
 |none=>none:=rfl
theorem su:cU Φ ρ σ (.ife c a b) =
 match ev Φ σ ρ c with
 |some (.bool true)=>aE Φ ρ σ a
 |some (.bool false)=>aE Φ ρ σ b
 |x=>none:=rfl
theorem DP:cU Φ ρ σ (.for_ i it body) =
 match lR Φ ρ σ it with
 |some vs=>eQ (λρ σ v=>aE Φ (jcu ρ i (some v)) σ body) vs ρ σ
 |none=>none:=rfl
theorem DJ:cU Φ ρ σ (.while_ c body) =
 jr (λρ σ=>ev Φ σ ρ c) (λρ σ=>aE Φ ρ σ body) 100 ρ σ:=rfl
theorem DK:cU Φ ρ σ (.ret e) =
 match ev Φ σ ρ e with
 |some v=>jad .ret (aZ σ 6 v)
 |none=>none:=rfl
theorem Nx:aE Φ ρ σ .nil=some (.next ρ σ):=rfl
theorem yy:aE Φ ρ σ (.cons s ss) =
 match cU Φ ρ σ s with
 |some (.next av an)=>aE Φ av an ss
 |some (.ret v)=>some (.ret v)
 |none=>none:=rfl
theorem G1{Q:Prop}(h:bV.nil=.cons e es):Q:=absurd (congrArg bV.len h) (Nat.succ_ne_zero _).symm
def Gb(e:Ex):Prop:=Ex.casesOn (motive_1:=λY=>Prop) e (λY=>False) (λY=>False) (λY=>False) (λY Y Y=>False) (λY Y=>False) (λY Y Y=>False) (λY=>False) (λY=>False) (λY Y Y=>False) (λY=>False) (λY=>False) (λY Y=>False) (λY Y=>False) (λY Y Y=>False) (λY Y=>False) (λY Y=>False) True
theorem TH{Q:Prop}(h:Ex.bad=.comp n gs):Q:=False.elim (show Gb (.comp n gs)from h▸(trivial:Gb .bad))
theorem LP(h:σ[j]?=some (.dict es)):gH σ (.ref j)=some es:=by
 delta gH;dsimp only;rw[h]
theorem Aq(h:σ[j]?=some (.list vs)):aQ σ (.ref j)=some vs:=by
 delta aQ;dsimp only;rw[h]
theorem Sw(e:aQ σ (.ref j)=some vs):σ[j]?=some (.list vs):=by
 delta aQ at e;dsimp only at e
 induction hq:σ[j]? using ae with
 |none=>rw[hq]at e;exact ai e
 |some o =>
  rw[hq]at e
  induction o using AO.casesOn with
  |list us=>exact congrArg (λx=>some (AO.list x)) (Y7 e)
  |_=>exact ai e
theorem wl{k n:Nat}(h:k<n)(hn:n<=100000):fO (k:Int) n=some k:=by
 unfold fO;have:hJ (k:Int)=true:=decide_eq_true (by rw[ZV];exact bf h (Y5 hn (by decide)));refine aa (if_pos this) ?_;unfold jfy;simp only[if_neg (Int.not_lt.mpr (Zl k))];refine aa (if_pos (show(decide (0<=(k:Int))&&decide ((k:Int)<n))=true by rw[decide_eq_true (Zl k),decide_eq_true (jbF.mpr h)];rfl)) ?_;rfl
theorem A4{M:Model}{Γ:Ctx}{p:Pos}{t:Sem Fin}{fs:List Frame}{s s':Y8}{e:End}(h:Runs M Γ p t fs s e s'):s.heap.objs.size<=s'.heap.objs.size:=by
 induction h<;>(try simp only[Shared.setGen,jiM,ZS]at *)<;>omega
theorem XI{M:Model}{Γ:Ctx}{p:Pos}{g:Nat}{r:Resume}{s s':Y8}{res:GenResult}(h:Wakes M Γ p g r s res s'):s.heap.objs.size<=s'.heap.objs.size:=by
 delta Wakes at h
 induction hg:s.gens[g]? using ae with
 |none=>rw[hg]at h;exact h.elim
 |some st =>
  rw[hg]at h
  induction st using GenState.casesOn with
  |fresh c =>
   induction r using Resume.casesOn with
   |throw x=>refine aa h.2 ?_;exact Y9 _
   |send v =>
    induction v using jgI with
    |none=>refine n6 h ?_;rintro oa ak hr _ _ rfl;exact(A4 hr:(s.setGen g .running).heap.objs.size<=ak.heap.objs.size)
    |_=>refine aa h.2 ?_;exact Y9 _
  |suspended=>refine n6 h ?_;rintro oa ak hr _ _ rfl;exact(A4 hr:(s.setGen g .running).heap.objs.size<=ak.heap.objs.size)
  |_=>refine aa h.2 ?_;exact Y9 _
theorem XS{α:Type}(M:Model)(Γ:Ctx)(n:Nat)(t:Sem α):∀(Q:α->Pos->Y8->Prop) (E:Value->Pos->Y8->Prop) (p:Pos) (s:Y8),n<=s.heap.objs.size->Sem.wp M Γ t Q E p s ->
 Sem.wp M Γ t (λa p' s'=>n<=s'.heap.objs.size/\Q a p' s') (λe p' s'=>n<=s'.heap.objs.size/\E e p' s') p s:=by
 induction t with
 |pure a=>intro Q E p s hn h;exact⟨hn,h⟩
 |raise e=>intro Q E p s hn h;exact⟨hn,h⟩
 |unsupported _=>intro Q E p s _ h;exact h
 |finish _=>intro Q E p s _ h;exact h
 |rule _ k ih=>intro Q E p s hn h;exact ih () Q E p s hn h
 | «at» p' k ih=>intro Q E p s hn h;exact ih () Q E p' s hn h
 |load a _ k ih=>intro Q E p s hn h;refine au h λo ho h=>?_;exact⟨o,ho,ih o Q E p s hn h⟩
 |update a _ f k ih=>intro Q E p s hn h;exact⟨h.1,ih () Q E p _ (by simp only[jiM];exact hn) h.2⟩
 |loadIfAlive a k ih=>intro Q E p s hn h;exact ih _ Q E p s hn h
 |point _ k ih=>intro Q E p s hn h;exact ih () Q E p s hn h
 |register _ _=>intro Q E p s _ h;exact h
 |alloc o k ih=>intro Q E p s hn h;exact ih _ Q E p _ (by simp only[ZS];exact jcJ hn) h
 |fresh k ih=>intro Q E p s hn h;exact ih _ Q E p {s with toks:=s.toks+1} hn h
 |ask k ih=>intro Q E p s hn h;exact ih _ Q E p s hn h
 |choose src m k ih=>intro Q E p s hn h;exact⟨h.1,ih _ Q E p _ hn h.2⟩
 |os q _ k ih=>intro Q E p s hn h;exact ih _ Q E p _ hn h
 |call c hd _ _ k ih=>intro Q E p s hn h;refine bA h λr s' hr h=>?_;exact⟨r,s',hr,ih r Q E p s' (Y5 hn (A4 hr)) h⟩
 |handled own k ih=>intro Q E p s hn h;exact ih _ Q E p s hn h
 |genState g k ih=>intro Q E p s hn h;refine au h λst hs h=>?_;exact⟨st,hs,ih _ Q E p s hn h⟩
 |newGen c k ih=>intro Q E p s hn h;exact ih _ Q E p _ hn h
 |resume g r _ k ih=>intro Q E p s hn h;refine bA h λres s' hw h=>?_;exact⟨res,s',hw,ih res Q E p s' (Y5 hn (XI hw)) h⟩
 |yield _ _ _ _=>intro Q E p s _ h;exact h
 |stack k ih=>intro Q E p s hn h;exact ih _ Q E p s hn h
 |fork _ _=>intro Q E p s _ h;exact h
 |thread k ih=>intro Q E p s hn h;exact ih _ Q E p s hn h
 |await _ _ _ _ _=>intro Q E p s _ h;exact h
structure Up(s s':Y8):Prop where
 size:s.heap.objs.size<=s'.heap.objs.size
 toks:s.toks<=s'.toks
theorem XR{α:Type}{M:Model}{A:ZZ}{s:Y8}{t:Sem α}{Q:α->Y8->Prop}{E:Value->Y8->Prop}{n:Nat}(hn:n<=s.heap.objs.size)(h:Zd M A t Q E s):
 Zd M A t (λa s'=>n<=s'.heap.objs.size/\Q a s') (λe s'=>n<=s'.heap.objs.size/\E e s') s :=
 λΓ p Rb=>XS M Γ n t _ _ p s hn (h Γ p Rb)
theorem eF{α:Type}{M:Model}{A:ZZ}{s:Y8}{t:Sem α}{Q:α->Y8->Prop}{E:Value->Y8->Prop}(h:Zd M A t (λa s'=>Up s s'->Q a s') (λe s'=>Up s s'->E e s') s):Zd M A t Q E s :=
 jav (wpAny_toks_of (Y9 s.toks) (XR (Y9 s.heap.objs.size) h)) (λY Y x=>x.2.2 ⟨x.2.1,x.1⟩) λY Y x=>x.2.2 ⟨x.2.1,x.1⟩
end
section
open PySem PySem.W PyProof.Rows
set_option backward.match.sparseCases true
abbrev ax:Value->Y8->Prop:=λY Y=>False
abbrev ce(h h':jao):Prop:=∀b o,h.get? b=some o->h'.get? b=some o
theorem ce.refl(h:jao):ce h h:=λY Y e=>e
theorem ce.trans{h h' hV:jao}(x:ce h h')(y:ce h' hV):ce h hV:=λb o e=>y b o (x b o e)
theorem AH{h:jao}{a:Zi}(e:h.objs.size<=a):h.get? a=none:=by
 induction q:h.get? a using ae with
 |none=>rfl
 |some o=>exact absurd (Zz q) (Z0.mpr e)
theorem Keeps.refl(s:Y8):Keeps s s:=⟨s.heap,s.toks,rfl,λY Y e=>e⟩
theorem Keeps.trans{s s' cO:Y8}(x:Keeps s s')(y:Keeps s' cO):Keeps s cO:=by
 refine bA x ?_;rintro h t rfl k;refine bA y ?_;rintro h' t' rfl k';exact⟨h',t',rfl,λb o e=>k' b o (k b o e)⟩
theorem Keeps.ext{s s':Y8}(x:Keeps s s'):ce s.heap s'.heap:=by
 refine bA x ?_;rintro h t rfl k;exact k
section up
variable {α:Type}{M:Model}{A:ZZ}{s:Y8}
theorem up{t:Sem α}{P Q:α->Y8->Prop}{E:Value->Y8->Prop}(h:Zd M A t P ax s)(hQ:∀a s',P a s'->Q a s'):Zd M A t Q E s :=
 jav h hQ λY Y x=>x.elim
end up
abbrev Gh:=Tok->UInt64->Prop
mutual
inductive VR(tk:Zi) (φ:Gh) (h:jao) (β:List Zi) (P:Zi->Prop):AV->Value->Prop
 |none:VR tk φ h β P .none .none
 |bool (b:Bool):VR tk φ h β P (.bool b) (.bool b)
 |int (i:Int) (t:Tok):VR tk φ h β P (.int i) (.int i t)
 |flt (x:UInt64) (t:Tok) (ht:φ t x):VR tk φ h β P (.flt x) (.float x t)
 |str (cs:List Nat) (t:Tok):VR tk φ h β P (.str cs) (.str ⟨cs.toArray⟩ t)
 |tup {vs:List AV}{a:Zi}{xs:List Value} (e:jgu h a xs.toArray) (p:P a) (r:ar tk φ h β P vs xs):VR tk φ h β P (.tup vs) (.ref a)
 |lst {vs:List AV}{a:Zi}{xs:List Value} (e:h.PlainList a xs.toArray) (p:P a) (r:ar tk φ h β P vs xs):VR tk φ h β P (.lst vs) (.ref a)
 |dct {vs:List AV}{ks:List Int}{a:Zi}{xs:List Value} (e:h.DictOf (jat af wd) a (ks.zip xs)) (p:P a) (hl:ks.length=vs.length) (r:ar tk φ h β P vs xs):VR tk φ h β P (.dct (ks.zip vs)) (.ref a)
 |ref {i:Nat}{a:Zi} (e:β[i]?=some a):VR tk φ h β P (.ref i) (.ref a)
 |tok:VR tk φ h β P .tok (.ref tk)
inductive ar(tk:Zi) (φ:Gh) (h:jao) (β:List Zi) (P:Zi->Prop):List AV->List Value->Prop
 |nil:ar tk φ h β P [] []
 |cons {v:AV}{x:Value}{vs:List AV}{xs:List Value} (a:VR tk φ h β P v x) (r:ar tk φ h β P vs xs):ar tk φ h β P (v::vs) (x::xs)
end
section
variable {tk:Zi}{φ am:Gh}{h h':jao}{β aH:List Zi}{P P':Zi->Prop}
theorem UE{β aH:List Zi}(hb:β <+: aH){i:Nat}{a:Zi}(e:β[i]?=some a):aH[i]?=some a:=by
 refine aX hb ?_;rintro t rfl;rw[Zx]
 ·exact e
 ·exact(ZE.mp e).1
theorem IsTup.at{a:Zi}{xs:Array Value}(x:jgu h a xs)(e:∀o,h.get? a=some o->h'.get? a=some o):jgu h' a xs:=let⟨o,ho,r⟩:=x;⟨o,e _ ho,r⟩
theorem DictOf.at{a:Zi}{aJ:List (Int×Value)}(x:h.DictOf (jat af wd) a aJ)(e:∀o,h.get? a=some o->h'.get? a=some o):h'.DictOf (jat af wd) a aJ :=
 let⟨o,es,ep,ho,r⟩:=x;⟨o,es,ep,e _ ho,r⟩
theorem VR.mono(kq:∀t x,φ t x->am t x)(hk:∀a o,P a->h.get? a=some o->h'.get? a=some o/\P' a)(hb:β <+: aH){v:AV}{x:Value}(r:VR tk φ h β P v x):VR tk am h' aH P' v x :=
 VR.rec (motive_1:=λv x Y=>VR tk am h' aH P' v x) (motive_2:=λvs xs Y=>ar tk am h' aH P' vs xs) .none .bool .int (λx t ht=>.flt x t (kq t x ht)) .str
  (λe p Y r=>e.elim λo ho=>.tup (IsTup.at e λo ho=>(hk _ o p ho).1) (hk _ o p ho.1).2 r)
  (λe p Y r=>e.elim λn ho=>.lst (e.at λo ho=>(hk _ _ p ho).1) (hk _ _ p ho).2 r)
  (λe p hl Y r=>e.elim λo q=>q.elim λY q=>q.elim λY ho=>.dct (DictOf.at e λo ho=>(hk _ o p ho).1) (hk _ o p ho.1).2 hl r)
  (λe=>.ref (UE hb e)) .tok .nil (λY Y a r=>.cons a r) r
theorem ar.ind{motive:List AV->List Value->Prop}(nil:motive [] [])(cons:∀{v x vs xs},VR tk φ h β P v x->ar tk φ h β P vs xs->motive vs xs->motive (v::vs) (x::xs)){vs:List AV}{xs:List Value}(r:ar tk φ h β P vs xs):motive vs xs :=
 ar.rec (motive_1:=λY Y Y=>True) (motive_2:=λvs xs Y=>motive vs xs) trivial (λY=>trivial) (λY Y=>trivial) (λY Y Y=>trivial) (λY Y=>trivial) (λY Y Y Y=>trivial) (λY Y Y Y=>trivial) (λY Y Y Y Y=>trivial) (λY=>trivial) trivial nil (λa r Y ih=>cons a r ih) r
theorem ar.mono(kq:∀t x,φ t x->am t x)(hk:∀a o,P a->h.get? a=some o->h'.get? a=some o/\P' a)(hb:β <+: aH){vs:List AV}{xs:List Value}(r:ar tk φ h β P vs xs):ar tk am h' aH P' vs xs :=
 r.ind .nil λa Y r=>.cons (a.mono kq hk hb) r
theorem ar.ext(hk:ce h h'){v:List AV}{x:List Value}(r:ar tk φ h β P v x):ar tk φ h' β P v x:=r.mono (λY Y e=>e) (λa o p e=>⟨hk a o e,p⟩) (Zn _)
theorem VR.weak(hk:∀a,P a->P' a){v:AV}{x:Value}(r:VR tk φ h β P v x):VR tk φ h β P' v x:=r.mono (λY Y e=>e) (λa o p e=>⟨e,hk a p⟩) (Zn _)
theorem ar.weak(hk:∀a,P a->P' a){v:List AV}{x:List Value}(r:ar tk φ h β P v x):ar tk φ h β P' v x:=r.mono (λY Y e=>e) (λa o p e=>⟨e,hk a p⟩) (Zn _)
theorem ar.length{vs:List AV}{xs:List Value}(r:ar tk φ h β P vs xs):vs.length=xs.length:=r.ind (motive:=λvs xs=>vs.length=xs.length) rfl λY Y e=>congrArg (·+1) e
theorem ar.get{vs:List AV}{xs:List Value}{i:Nat}{v:AV}(r:ar tk φ h β P vs xs):vs[i]?=some v->∃x,xs[i]?=some x/\VR tk φ h β P v x :=
 r.ind (motive:=λvs xs=>∀i,vs[i]?=some v->∃x,xs[i]?=some x/\VR tk φ h β P v x) (λY e=>ai (jit▸e)) (λa Y ih i e=>by
  induction i using jaA with
  |zero=>exact aO _ rfl (Y7 e▸a)
  |succ i=>exact ih i e) i
theorem ar.getr{vs:List AV}{xs:List Value}{i:Nat}{x:Value}(r:ar tk φ h β P vs xs):xs[i]?=some x->∃v,vs[i]?=some v/\VR tk φ h β P v x :=
 r.ind (motive:=λvs xs=>∀i,xs[i]?=some x->∃v,vs[i]?=some v/\VR tk φ h β P v x) (λY e=>ai (jit▸e)) (λa Y ih i e=>by
  induction i using jaA with
  |zero=>exact aO _ rfl (Y7 e▸a)
  |succ i=>exact ih i e) i
theorem ar.append{vs us:List AV}{xs ys:List Value}(r:ar tk φ h β P vs xs)(q:ar tk φ h β P us ys):ar tk φ h β P (vs++us) (xs++ys):=
 r.ind (motive:=λvs xs=>ar tk φ h β P (vs++us) (xs++ys)) q λa Y ih=>.cons a ih
theorem ar.single{v:AV}{x:Value}(a:VR tk φ h β P v x):ar tk φ h β P [v] [x]:=.cons a .nil
theorem ar.reverse{vs:List AV}{xs:List Value}(r:ar tk φ h β P vs xs):ar tk φ h β P vs.reverse xs.reverse :=
 r.ind (motive:=λvs xs=>ar tk φ h β P vs.reverse xs.reverse) .nil λa Y ih=>by refine aa jbQ ?_;refine aa jbQ ?_;exact ih.append (.single a)
theorem ar.take{vs:List AV}{xs:List Value}(n:Nat)(r:ar tk φ h β P vs xs):ar tk φ h β P (vs.take n) (xs.take n):=
 r.ind (motive:=λvs xs=>∀n,ar tk φ h β P (vs.take n) (xs.take n)) (λY=>by refine aa jjt ?_;refine aa jjt ?_;exact .nil) (λa Y ih n=>by
  induction n using jaA with
  |zero=>exact .nil
  |succ n=>exact .cons a (ih n)) n
theorem ar.drop{vs:List AV}{xs:List Value}(n:Nat)(r:ar tk φ h β P vs xs):ar tk φ h β P (vs.drop n) (xs.drop n):=
 r.ind (motive:=λvs xs=>∀n,ar tk φ h β P (vs.drop n) (xs.drop n)) (λY=>by refine aa jju ?_;refine aa jju ?_;exact .nil) (λa r ih n=>by
  induction n using jaA with
  |zero=>exact .cons a r
  |succ n=>exact ih n) n
def BV(tk:Zi)(φ:Gh)(h:jao)(β:List Zi)(P:Zi->Prop):List AV->List Value->Prop
 | [],xs=>xs=[]
 |v::vs,xs=>∃x ys,xs=x::ys/\VR tk φ h β P v x/\ar tk φ h β P vs ys
theorem ar.uncons{v:AV}{vs:List AV}{xs:List Value}(r:ar tk φ h β P (v::vs) xs):∃x ys,xs=x::ys/\VR tk φ h β P v x/\ar tk φ h β P vs ys :=
 r.ind (motive:=BV tk φ h β P) rfl λa r Y=>⟨_,_,rfl,a,r⟩
theorem ar.unnil{xs:List Value}(r:ar tk φ h β P [] xs):xs=[]:=r.ind (motive:=BV tk φ h β P) rfl λa r Y=>⟨_,_,rfl,a,r⟩
def BU(tk:Zi)(φ:Gh)(h:jao)(β:List Zi)(P:Zi->Prop)(v:AV)(x:Value):Prop:=match v with
 | .none=>x=.none
 | .bool b=>x=.bool b
 | .int i=>∃t,x=.int i t
 | .flt y=>∃t,x=.float y t/\φ t y
 | .str cs=>∃t,x=.str ⟨cs.toArray⟩ t
 | .tup vs=>∃a,x=.ref a/\∃xs:List Value,jgu h a xs.toArray/\P a/\ar tk φ h β P vs xs
 | .lst vs=>∃a,x=.ref a/\∃xs:List Value,h.PlainList a xs.toArray/\P a/\ar tk φ h β P vs xs
 | .dct es=>∃a,x=.ref a/\∃(ks:List Int) (vs:List AV) (xs:List Value),es=ks.zip vs/\ks.length=vs.length/\h.DictOf (jat af wd) a (ks.zip xs)/\P a/\ar tk φ h β P vs xs
 | .ref i=>∃a,x=.ref a/\β[i]?=some a
 | .tok=>x=.ref tk
theorem VR.inv{v:AV}{x:Value}(r:VR tk φ h β P v x):BU tk φ h β P v x :=
 VR.casesOn (motive_1:=λv x Y=>BU tk φ h β P v x) r rfl (λY=>rfl) (λY t=>⟨t,rfl⟩) (λY t ht=>⟨t,rfl,ht⟩) (λY t=>⟨t,rfl⟩) (λe p r=>⟨_,rfl,_,e,p,r⟩) (λe p r=>⟨_,rfl,_,e,p,r⟩) (λe p hl r=>⟨_,rfl,_,_,_,rfl,hl,e,p,r⟩) (λe=>⟨_,rfl,e⟩) rfl
theorem VR.intv{i:Int}{x:Value}(r:VR tk φ h β P (.int i) x):∃t,x=.int i t:=r.inv
section
variable {x:Value}{motive:Value->Prop}
@[elab_as_elim] theorem VR.e_none (r:VR tk φ h β P .none x) (k:motive .none):motive x:=(show x=_ from r.inv)▸k
@[elab_as_elim] theorem VR.e_bool {b:Bool} (r:VR tk φ h β P (.bool b) x) (k:motive (.bool b)):motive x:=(show x=_ from r.inv)▸k
@[elab_as_elim] theorem VR.e_int {i:Int} (r:VR tk φ h β P (.int i) x) (k:∀t,motive (.int i t)):motive x:=jdm r.inv λt e=>e▸k t
@[elab_as_elim] theorem VR.e_flt {y:UInt64} (r:VR tk φ h β P (.flt y) x) (k:∀t,φ t y->motive (.float y t)):motive x:=jdm r.inv λt e=>e.1▸k t e.2
@[elab_as_elim] theorem VR.e_str {cs:List Nat} (r:VR tk φ h β P (.str cs) x) (k:∀t,motive (.str ⟨cs.toArray⟩ t)):motive x:=jdm r.inv λt e=>e▸k t
@[elab_as_elim] theorem VR.e_tup {vs:List AV} (r:VR tk φ h β P (.tup vs) x) (k:∀a (xs:List Value),jgu h a xs.toArray->P a->ar tk φ h β P vs xs->motive (.ref a)):motive x :=
 jdm r.inv λY e=>e.1▸e.2.elim λY q=>k _ _ q.1 q.2.1 q.2.2
@[elab_as_elim] theorem VR.e_lst {vs:List AV} (r:VR tk φ h β P (.lst vs) x) (k:∀a (xs:List Value),h.PlainList a xs.toArray->P a->ar tk φ h β P vs xs->motive (.ref a)):motive x :=
 jdm r.inv λY e=>e.1▸e.2.elim λY q=>k _ _ q.1 q.2.1 q.2.2
@[elab_as_elim] theorem VR.e_dct {es:List (Int×AV)} (r:VR tk φ h β P (.dct es) x) (k:∀a (ks:List Int) (vs:List AV) (xs:List Value),es=ks.zip vs->ks.length=vs.length->h.DictOf (jat af wd) a (ks.zip xs)->P a->ar tk φ h β P vs xs->motive (.ref a)):motive x :=
 jdm r.inv λY e=>e.1▸e.2.elim λY q=>q.elim λY q=>q.elim λY q=>k _ _ _ _ q.1 q.2.1 q.2.2.1 q.2.2.2.1 q.2.2.2.2
@[elab_as_elim] theorem VR.e_ref {i:Nat} (r:VR tk φ h β P (.ref i) x) (k:∀a,β[i]?=some a->motive (.ref a)):motive x:=jdm r.inv λY e=>e.1▸k _ e.2
@[elab_as_elim] theorem VR.e_tok (r:VR tk φ h β P .tok x) (k:motive (.ref tk)):motive x:=(show x=_ from r.inv)▸k
end
section
variable {xs:List Value}{motive:List Value->Prop}{u v z:AV}
@[elab_as_elim] theorem ar.e1 (r:ar tk φ h β P [v] xs) (k:∀x,VR tk φ h β P v x->motive [x]):motive xs:=by
 refine bS r.uncons λx ys e a q=>?_;refine aa e ?_;refine aa q.unnil ?_;exact k x a
@[elab_as_elim] theorem ar.e2 (r:ar tk φ h β P [v,u] xs) (k:∀x y,VR tk φ h β P v x->VR tk φ h β P u y->motive [x,y]):motive xs:=by
 refine bS r.uncons λx ys e a q=>?_;refine aa e ?_;exact q.e1 λy b=>k x y a b
@[elab_as_elim] theorem ar.e3 (r:ar tk φ h β P [v,u,z] xs) (k:∀x y t,VR tk φ h β P v x->VR tk φ h β P u y->VR tk φ h β P z t->motive [x,y,t]):motive xs:=by
 refine bS r.uncons λx ys e a q=>?_;refine aa e ?_;exact q.e2 λy t b c=>k x y t a b c
end
end
inductive OR(tk:Zi) (φ:Gh) (h:jao) (β:List Zi) (P:Zi->Prop):AO->Zi->Prop
 |list {vs:List AV}{a:Zi}{xs:List Value} (e:h.PlainList a xs.toArray) (r:ar tk φ h β P vs xs):OR tk φ h β P (.list vs) a
 |dict {vs:List AV}{ks:List Int}{a:Zi}{xs:List Value} (e:h.DictOf (jat af wd) a (ks.zip xs)) (hl:ks.length=vs.length) (r:ar tk φ h β P vs xs):OR tk φ h β P (.dict (ks.zip vs)) a
section
variable {tk:Zi}{φ:Gh}{h:jao}{β:List Zi}{P:Zi->Prop}
theorem OR.e_list{vs:List AV}{a:Zi}{Q:Prop}(r:OR tk φ h β P (.list vs) a)(k:∀xs:List Value,h.PlainList a xs.toArray->ar tk φ h β P vs xs->Q):Q:=by
 cases r with|list e r=>exact k _ e r
theorem OR.e_dict{es:List (Int×AV)}{a:Zi}{Q:Prop}(r:OR tk φ h β P (.dict es) a)(k:∀(ks:List Int) (vs:List AV) (xs:List Value),es=ks.zip vs->ks.length=vs.length->h.DictOf (jat af wd) a (ks.zip xs)->ar tk φ h β P vs xs->Q):Q:=by
 cases r with|dict e hl r=>exact k _ _ _ rfl hl e r
end
structure GD where
 mg:Str->Option Value
 mb:Str->Option Value
 tok:Zi
 fns:Nat->Option (Str×jaC)
 tabs:List (Zi×Zi×Pos×Str)
def GD.X(G:GD)(b:Zi):Prop:=∃t∈G.tabs,t.2.1=b
abbrev qj(t:Zi×Zi×Pos×Str)(c:Zi):Obj:=jdT #[jem t.2.2.1.line,jem t.2.2.1.col,.ref c]
def bz(G:GD)(h:jao):Prop:=∀t∈G.tabs,h.get? t.2.1=some (jdT #[])\/∃c,h.get? t.2.1=some (qj t c)/\h.CodeRec (.ref c) t.2.2.2
def bM(G:GD)(h:jao)(c:Zi):Prop:=∃t∈G.tabs,h.get? t.2.1=some (qj t c)
def nB(x:Str):Option Int:=cA.lookup x.cps.toList
structure bh(G:GD) (h:jao):Prop where
 g:h.Ns Zs G.mg
 b:h.Ns jai G.mb
 stat:h.Ns jep (λY=>none)
 tok:∃f,h.MapOf (strKind af wd) G.tok f/\(∀x k,nB x=some k->∃t,f x=some (.int k t))/\(∀x,nB x=none->f x=none)
 tokMod:(G.tok==jah)=false
 fns:∀k x fd,G.fns k=some (x,fd)->∃a o,G.mg x=some (.ref a)/\h.get? a=some o/\o.data=.func fd/\h.CodeRec fd.code fd.qualname
 heads:∀t∈G.tabs,jfY h t.1 t.2.1
 tabs:bz G h
 bmain:∃bm ob,G.mg "__builtins__" = some (.ref bm)/\bm≠jai/\h.get? bm=some ob/\ob.cls=.type "module" /\ ob.dict=some jai/\ob.data=.plain
 b1:∃a n,G.mg "b1_set" = some (.ref a)/\h.SetOf (jat af wd) a dz n
 b3:∃a f,G.mg "b3_exceptions" = some (.ref a)/\(a==jah)=false/\h.MapOf (jat af wd) a f/\(∀k x,j3 k=some x->∃t,f k=some (.str x t))/\∀k,j3 k=none->f k=none
theorem bz.keeps(x:bz G h)(hk:ce h h'):bz G h':=λt ht=>(x t ht).imp (hk _ _) λ⟨c,a,b⟩=>aO c (hk _ _ a) (b.keeps hk)
theorem bh.lim(x:bh G h):h.NoLimit:=⟨_,x.stat,rfl⟩
theorem bh.booked(x:bh G h):jfb h:=⟨_,x.stat,rfl⟩
theorem MapOf.keeps(hm:h.MapOf (strKind af wd) a f)(hk:ce h h'):h'.MapOf (strKind af wd) a f :=
 let⟨o,es,ep,ho,r⟩:=hm;⟨o,es,ep,hk _ _ ho,r⟩
theorem MapOf.keepsI(hm:h.MapOf (jat af wd) a f)(hk:ce h h'):h'.MapOf (jat af wd) a f :=
 let⟨o,es,ep,ho,r⟩:=hm;⟨o,es,ep,hk _ _ ho,r⟩
theorem SetOf.keeps(hm:h.SetOf (jat af wd) a S n)(hk:ce h h'):h'.SetOf (jat af wd) a S n :=
 let⟨o,es,ep,t,ho,r⟩:=hm;⟨o,es,ep,t,hk _ _ ho,r⟩
theorem bh.keeps(x:bh G h)(hk:ce h h'):bh G h' where
 g:=x.g.keeps hk
 b:=x.b.keeps hk
 stat:=x.stat.keeps hk
 tok:=let⟨f,m,r⟩:=x.tok;⟨f,MapOf.keeps m hk,r⟩
 tokMod:=x.tokMod
 fns:=λk y fd e=>let⟨a,o,h1,h2,h3,h4⟩:=x.fns k y fd e;⟨a,o,h1,hk _ _ h2,h3,h4.keeps hk⟩
 heads:=λt ht=>(x.heads t ht).keeps hk
 tabs:=x.tabs.keeps hk
 bmain:=let⟨bm,ob,h1,h2,h3,r⟩:=x.bmain;⟨bm,ob,h1,h2,hk _ _ h3,r⟩
 b1:=let⟨a,n,h1,h2⟩:=x.b1;⟨a,n,h1,SetOf.keeps h2 hk⟩
 b3:=let⟨a,f,h1,h2,h3,r⟩:=x.b3;⟨a,f,h1,h2,MapOf.keepsI h3 hk,r⟩
structure dD(G:GD):Prop where
 divLimit:∃t,G.mg "_DIV_LIMIT" = some (.int 4000 t)
 ntOffset:∃t,G.mg "NT_OFFSET" = some (.int 256 t)
 endMarker:∃t,G.mg "ENDMARKER" = some (.int 0 t)
 tok:G.mg "EXACT_TOKEN_TYPES" = some (.ref G.tok)
 types:∀x∈(["range","list","int","bool","reversed"]:List String),G.mg (jaY x)=none/\G.mb (jaY x)=some (.type x)
 builtins:∀x∈(["len","sum","max","min","ord","chr","divmod","isinstance"]:List String),G.mg (jaY x)=none/\G.mb (jaY x)=some (.builtin x)
structure bQ(ab:Env) (T:Tb):Prop where
 kind:ab.scope.kind=.function
 loc:∀x,T.names.lookup x=some .local->ab.kindOf x=some .local
 cel:∀x,T.names.lookup x=some .cell->ab.kindOf x=some .cell
 fre:∀x,T.names.lookup x=some .free->ab.kindOf x=some .cell\/ab.kindOf x=some .free
 inj:∀x y c,ab.cells.lookup x=some c->ab.cells.lookup y=some c->x=y
 glob:∀x,T.names.lookup x=some .globalImplicit->ab.kindOf x=some .globalImplicit
 g:ab.globals=Zs
 b:ab.builtins=jai
structure jx(T:Tb):Prop where
 inj:∀x y i,T.var x=some i->T.var y=some i->x=y
 lt:∀x i,T.var x=some i->i<T.next
def nJ(ab:Env)(m:Str->Option Value)(h:jao)(x:Str)(v:Value):Prop :=
 (ab.kindOf x=some .local/\m x=some v) \/
 ∃c,ab.cells.lookup x=some c/\(ab.kindOf x=some .cell\/ab.kindOf x=some .free)/\h.IsCell c (some v)
theorem nJ.keeps(n:nJ ab m h x v)(hk:ce h h'):nJ ab m h' x v :=
 n.imp id λ⟨c,e,k,i⟩=>lj c e k (i.keeps hk)
structure aW(φ:Gh) (s:Y8):Prop where
 fn:∀t x y,φ t x->φ t y->x=y
 pos:∀t x,φ t x->t≠0
 lt:∀t x,φ t x->t<s.toks
 one:0<s.toks
section
structure bE(s s':Y8):Prop where
 keeps:Keeps s s'
 size:s.heap.objs.size<=s'.heap.objs.size
theorem bE.refl(s:Y8):bE s s:=⟨Keeps.refl s,Y9 _⟩
theorem bE.trans(x:bE s s')(y:bE s' cO):bE s cO:=⟨Keeps.trans x.keeps y.keeps,Y5 x.size y.size⟩
theorem bE.ext(x:bE s s'):ce s.heap s'.heap:=Keeps.ext x.keeps
theorem bE.tok:bE s {s with toks:=t}:=⟨⟨s.heap,t,rfl,λY Y e=>e⟩,Y9 _⟩
structure Go(s:Y8) (φ:Gh) (s':Y8) (am:Gh):Prop where
 grows:bE s s'
 sub:∀t x,φ t x->am t x
 tk:aW am s'
theorem Go.ext(x:Go s φ s' am):ce s.heap s'.heap:=x.grows.ext
theorem Go.trans(x:Go s φ s' am)(y:Go s' am cO kE):Go s φ cO kE:=⟨x.grows.trans y.grows,λt z e=>y.sub t z (x.sub t z e),y.tk⟩
theorem Go.refl(k:aW φ s):Go s φ s φ:=⟨bE.refl s,λY Y e=>e,k⟩
theorem Go.same(k:aW φ s)(g:bE s s')(ht:s.toks<=s'.toks):Go s φ s' φ :=
 ⟨g,λY Y e=>e,k.fn,k.pos,λt x e=>bf (k.lt t x e) ht,bf k.one ht⟩
theorem Go.flt{x:UInt64}(k:aW φ s):Go s φ {s with toks:=s.toks+1} (λt y=>φ t y\/(t=s.toks/\y=x)):=by
 refine⟨bE.tok,λY Y e=>.inl e,λt a b h1 h2=>?_,λt a h=>?_,λt a h=>?_,jht _⟩
 ·rcases h1 with h1|⟨h1,rfl⟩<;>rcases h2 with h2|⟨h2,rfl⟩
  ·exact k.fn t a b h1 h2
  ·exact absurd (k.lt t a h1) (by refine aa h2 ?_;exact Zv _)
  ·exact absurd (k.lt t b h2) (by refine aa h1 ?_;exact Zv _)
  ·rfl
 ·rcases h with h|⟨h,_⟩
  ·exact k.pos t a h
  ·refine aa h ?_;exact jaZ k.one
 ·rcases h with h|⟨h,_⟩
  ·exact jdc (k.lt t a h)
  ·refine aa h ?_;exact jan _
end
theorem Hp(h:wn x=true):(x==("__debug__":Str))=false/\(x==("__classdict__":Str))=false:=by
 unfold wn at h;rw[ZA]at h;exact⟨by simpa using h.1,by simpa using h.2⟩
theorem Ho{T:Tb}(hx:T.var x=some i):(x==("__debug__":Str))=false/\(x==("__classdict__":Str))=false:=by
 refine Hp ?_;unfold Tb.var at hx;split at hx
 ·split at hx
  ·assumption
  ·cases hx
 ·split at hx
  ·assumption
  ·cases hx
 ·split at hx
  ·assumption
  ·cases hx
 ·cases hx
structure Yg(A:ZZ) (n:Nat):Prop where
 handled:A.handled=none
 depth:A.depth+n<jdo
 units:A.units+40*(n+1)<jhp
def aK(tk:Zi)(φ:Gh)(s:Y8)(β:List Zi)(P:Zi->Prop)(r:AV):Value->Y8->Prop :=
 λv' s'=>∃am,Go s φ s' am/\VR tk am s'.heap β P r v'
def cr(tk:Zi)(φ:Gh)(h:jao)(β:List Zi)(P:Zi->Prop)(σ:aA):Prop :=
 ∀(i:Nat) (o:AO),σ[i]?=some o->o≠AO.gone->∃a,β[i]?=some a/\OR tk φ h β P o a
def fD(s:Y8)(P:Zi->Prop):Prop:=∀a,s.heap.objs.size<=a->P a
theorem fD.go(F:fD s P)(k:Go s φ s' am):fD s' P:=λa h=>F a (Y5 k.grows.size h)
theorem fA(K:aW φ s):aK tk φ s β P (.int i) (.int i t) {s with toks:=s.toks+1}:=⟨φ,.same K bE.tok (Z2 _),.int _ _⟩
theorem mf(K:aW φ s):aK tk φ s β P (.flt x) (.float x s.toks) {s with toks:=s.toks+1}:=⟨_,.flt K,.flt _ _ (.inr ⟨rfl,rfl⟩)⟩
theorem nw(K:aW φ s)(h:s.toks<=t'):aK tk φ s β P (.str x) (.str ⟨x.toArray⟩ t) {s with toks:=t'}:=⟨φ,.same K bE.tok h,.str _ _⟩
theorem jm(K:aW φ s):aK tk φ s β P (.bool b) (.bool b) s:=⟨φ,.refl K,.bool _⟩
theorem jV(K:aW φ s)(h:VR tk φ s.heap β P r v):aK tk φ s β P r v s:=⟨φ,.refl K,h⟩
theorem bE.push:bE s {s with heap:=s.heap.push o}:=
 ⟨⟨_,s.toks,rfl,λY Y e=>Zh _ e⟩,by simp⟩
theorem bE.pushT:bE s {s with heap:=s.heap.push o,toks:=t}:=
 ⟨⟨_,t,rfl,λY Y e=>Zh _ e⟩,by simp⟩
theorem Ap(O:cr tk φ h β P σ)(e:aQ σ v=some vs)(r:VR tk φ h β P v x):
 ∃a xs,x=.ref a/\h.PlainList a xs.toArray/\ar tk φ h β P vs xs:=by
 cases r with
 |lst e' p r'=>cases e;exact nc _ _ rfl e' r'
 | @ref i a hb =>
  refine au (O i _ (Sw e) (by simp)) λa' h1 h2=>?_;rw[hb]at h1;cases h1;cases h2 with
  |list e' r'=>exact nc _ _ rfl e' r'
 |_=>cases e
theorem fx(O:cr tk φ h β P σ)(e:aQ σ v=some vs)(r:VR tk φ h β P v x):
 ∃a xs,x=.ref a/\h.IsList a xs.toArray/\ar tk φ h β P vs xs:=by
 refine bS (Ap O e r) λa xs h1 h2 h3=>?_;exact nc a xs h1 h2.isList h3
theorem B0{s:Y8}{vs ws:List Value}(hl:s.heap.IsList l vs.toArray)(hb:s.heap.IsList b ws.toArray)(be:vs.length+ws.length<=jcU)(h:Q (.ref s.heap.objs.size) {s with heap:=s.heap.push {cls:=.type "list",data:=.seq (vs++ws).toArray}}):
 Zd (Zf af wd) A (jeq .Add (.ref l) (.ref b)) Q E s:=by
 obtain⟨⟨cls,dd,data,sl⟩,ho,hc,n,hd⟩:=id hl;obtain⟨⟨K3,r7,data2,tO⟩,jN,oi,n2,sQ⟩:=id hb;simp only at hc hd oi sQ;subst hc hd oi sQ;have e:vs.toArray++ws.toArray=(vs++ws).toArray:=by simp
 refine jgm ⟨_,ho,rfl⟩ ⟨_,jN,rfl⟩ noFill_list_add seq_list_add PySem.F.slot_list_add PySem.F.entry_list_add (PySem.F.args_list_add_2 _ _) (list_addW l b vs.toArray ws.toArray n n2 dd r7 sl tO (by simpa using be)) ⟨ho,jN,?_⟩;refine aa e ?_;exact h
theorem Ji(ht:jgu s.heap t vs.toArray)(hb:jgu s.heap b ws.toArray)(be:vs.length+ws.length<=jcU)(h0:vs=[]->Q (.ref b) s)(h1:ws=[]->Q (.ref t) s)(h2:Q (.ref s.heap.objs.size) {s with heap:=s.heap.push {cls:=.type "tuple",data:=.seq (vs++ws).toArray}}):
 Zd (Zf af wd) A (jeq .Add (.ref t) (.ref b)) Q E s:=by
 obtain⟨⟨cls,dd,data,sl⟩,ho,hc,n,hd⟩:=id ht;obtain⟨⟨K3,r7,data2,tO⟩,jN,oi,n2,sQ⟩:=id hb;simp only at hc hd oi sQ;subst hc hd oi sQ;have e:vs.toArray++ws.toArray=(vs++ws).toArray:=by simp
 by_cases hv:vs=[]
 ·exact jgm ⟨_,ho,rfl⟩ ⟨_,jN,rfl⟩ jgF jhI jer jef (jdW _ _)
   (tuple_addW0 t b vs.toArray ws.toArray n n2 dd r7 sl tO (by simp[hv])) ⟨ho,jN,h0 hv⟩
 ·by_cases hw:ws=[]
  ·exact jgm ⟨_,ho,rfl⟩ ⟨_,jN,rfl⟩ jgF jhI jer jef (jdW _ _)
    (tuple_addW1 t b vs.toArray ws.toArray n n2 dd r7 sl tO (by simpa using hv) (by simp[hw])) ⟨ho,jN,h1 hw⟩
  ·refine jgm ⟨_,ho,rfl⟩ ⟨_,jN,rfl⟩ jgF jhI jer jef (jdW _ _)
    (tuple_addW2 t b vs.toArray ws.toArray n n2 dd r7 sl tO (by simpa using hv) (by simpa using hw) (by refine aa Zo ?_;refine aa Zo ?_;exact be)) ⟨ho,jN,?_⟩
   refine aa e ?_;exact h2
theorem d9(h:n<=100000):n<=jcU:=Y5 h (by decide)
theorem oM{xs:List Value}(h:jao):(h.push {cls:=.type "list",data:=.seq xs.toArray}).PlainList h.objs.size xs.toArray:=⟨0,Z3 _ rfl⟩
theorem AC{xs:List Value}(h:jao):jgu (h.push {cls:=.type "tuple",data:=.seq xs.toArray}) h.objs.size xs.toArray:=⟨_,Z3 _ rfl,rfl,0,rfl⟩
theorem AZ(K:aW φ s)(F:fD s P)(r:ar tk φ s.heap β P vs xs):
 aK tk φ s β P (.lst vs) (.ref s.heap.objs.size) {s with heap:=s.heap.push {cls:=.type "list",data:=.seq xs.toArray}}:=
 ⟨φ,.same K bE.push (Y9 _),.lst (oM _) (F _ (Y9 _)) (r.ext bE.push.ext)⟩
theorem HC(K:aW φ s)(F:fD s P)(r:ar tk φ s.heap β P vs xs):
 aK tk φ s β P (.tup vs) (.ref s.heap.objs.size) {s with heap:=s.heap.push {cls:=.type "tuple",data:=.seq xs.toArray}}:=
 ⟨φ,.same K bE.push (Y9 _),.tup (AC _) (F _ (Y9 _)) (r.ext bE.push.ext)⟩
theorem te(h:small a=true):Zt a<=64:=by
 have h':a.natAbs<2^64:=by simpa [small]using h
 unfold Zt;split
 ·exact jbp _
 ·have cV:a.natAbs≠0:=by intro e;simp_all
  have:=(jfd cV).mpr h';exact this
theorem RN(h:Bv a=true):Zt a<=4096:=by
 have h':a.natAbs<2^4096:=of_decide_eq_true h;unfold Zt;split
 ·exact jbp _
 ·have cV:a.natAbs≠0:=by intro e;simp_all
  have:=(jfd cV).mpr h';exact this
theorem HY(x y:List Nat):(⟨x.toArray⟩:Str)++⟨y.toArray⟩=⟨(x++y).toArray⟩:=by
 apply jhK;refine aa (jjq _ _) ?_;simp
theorem Jh{s:Y8}{vs ws:List AV}(K:aW φ s)(O:cr tk φ s.heap β P σ)(F:fD s P)(ha:aQ σ a=some vs)(hb:aQ σ b=some ws)(aU:vs.length+ws.length<=100000)(ra:VR tk φ s.heap β P a x)(rb:VR tk φ s.heap β P b y):Zd (Zf af wd) A (jeq .Add x y) (aK tk φ s β P (.lst (vs++ws))) ax s:=by
 refine bS (fx O ha ra) ?_;rintro l xs rfl h1 r1;refine bS (fx O hb rb) ?_;rintro l' ys rfl h2 r2;exact B0 h1 h2 (d9 (by refine rwj r1.length ?_;refine rwj r2.length ?_;exact aU)) (AZ K F (r1.append r2))
theorem yH(h:hJ i=true):i.natAbs<2^53:=by simpa [hJ]using h
theorem qE(h:Q (.float x s.toks) {s with toks:=s.toks+1}):(Made.float x).post Q s:=h
set_option tactic.hygienic true in
theorem V1(K:aW φ s)(hl:a.length+b.length<=100000)(hQ:∀v s',aK tk φ s β P (.str (a++b)) v s'->Q v s'):
 Zd (Zf af wd) A (jeq .Add (.str ⟨a.toArray⟩ x) (.str ⟨b.toArray⟩ y)) Q ax s:=by
 refine PySem.P.add_str ?_;split
 ·rename_i hu;have:=(by simpa [jbL]using hu:a=([]:List Nat))
  subst this;exact hQ _ _ (jV K (.str _ _))
 ·split
  ·rename_i hv;have:=(by simpa [jbL]using hv:b=([]:List Nat))
   subst this;rw[Z6]at hQ;exact hQ _ _ (jV K (.str _ _))
  ·refine aa (HY _ _) ?_;exact⟨by simp only[jbL,Zo,Ze];exact d9 hl,hQ _ _ (nw K (Z2 _))⟩
theorem Xh(K:aW φ s)(F:fD s P)(hl:xs.length+ys.length<=100000)(ra:VR tk φ s.heap β P (.tup xs) x)(rb:VR tk φ s.heap β P (.tup ys) y):
 Zd (Zf af wd) A (jeq .Add x y) (aK tk φ s β P (.tup (xs++ys))) ax s:=by
 refine ra.e_tup λa us ea pa il=>rb.e_tup λb vs eb pb lx=>?_;refine Ji ea eb (d9 (by refine rwj il.length ?_;refine rwj lx.length ?_;exact hl)) (λq=>?_) (λq=>?_) (HC K F (il.append lx))
 ·subst q;refine aa (Z7.mp il.length) ?_;refine aa (jbd _) ?_;exact jV K (.tup eb pb lx)
 ·subst q;refine aa (Z7.mp lx.length) ?_;refine aa (Z6 _) ?_;exact jV K (.tup ea pa il)
theorem Ts(h:(small i||small j)=true):IntMulOk i j:=by
 rcases(jbx _ _).mp h with h|h
 ·exact .of_left (te h)
 ·exact .of_right (te h)
theorem HL(h:¬(j=0\/(!small j)=true)):small j=true:=by
 induction q:small j using ZL with
 |true=>rfl
 |false=>exact absurd (.inr (by refine aa q ?_;rfl)) h
theorem SF(h:small j=true):j.natAbs.log2<64:=by
 have h3:=te h;unfold Zt at h3;split at h3<;>simp_all<;>exact jja h3
theorem UD(h:0<=j/\j<=1000/\small i=true):((Zt i:Nat):Int)*j<=2^27:=by
 have h3:((Zt i:Nat):Int)<=64:=by exact_mod_cast te h.2.2
 have h4:((Zt i:Nat):Int)*j<=64*j:=Int.mul_le_mul_of_nonneg_right h3 h.1;have h2:=h.2.1;have h5:(2:Int)^27=134217728:=by decide
 lia
theorem JV(hA:A.handled=none)(K:aW φ s)(O:cr tk φ s.heap β P σ)(F:fD s P)(e:dE σ op a b=some r)(ra:VR tk φ s.heap β P a x)(rb:VR tk φ s.heap β P b y):Zd (Zf af wd) A (jeq op x y) (aK tk φ s β P r) ax s:=by
 revert x y;refine JU (C:=λop a b r=>∀{x y:Value},VR tk φ s.heap β P a x->VR tk φ s.heap β P b y->Zd (Zf af wd) A (jeq op x y) (aK tk φ s β P r) ax s)
  (λa b e=>JQ (C:=λop a b r=>∀{x y:Value},VR tk φ s.heap β P a x->VR tk φ s.heap β P b y->Zd (Zf af wd) A (jeq op x y) (aK tk φ s β P r) ax s) ?_ ?_ ?_ ?_ ?_ ?_ e)
  ?_ ?_ ?_ ?_ ?_ ?_ ?_ ?_ ?_ ?_ ?_ ?_ ?_ ?_ e
 ·exact λi j x y ra rb=>ra.e_int λt=>rb.e_int λu=>add_int (fA K)
 ·exact λi j x y ra rb=>ra.e_flt λt Y=>rb.e_flt λu Y=>AutoFloatOps.add_0 (qE (mf K))
 ·exact λi j h x y ra rb=>ra.e_int λt=>rb.e_flt λu Y=>add_if_fits (jaq (yH h) (by decide +kernel)) (mf K)
 ·exact λi j h x y ra rb=>ra.e_str λt=>rb.e_str λu=>V1 K h λY Y h=>h
 ·exact λi j h x y ra rb=>Xh K F h ra rb
 ·exact λa b xs ys h1 h2 h3 x y ra rb=>Jh K O F h1 h2 h3 ra rb
 ·exact λi j x y ra rb=>ra.e_int λt=>rb.e_int λu=>sub_int (fA K)
 ·exact λi j h x y ra rb=>ra.e_int λt=>rb.e_int λu=>mul_int (fA K) (Ts h)
 ·exact λi j h x y ra rb=>ra.e_int λt=>rb.e_int λu=>floordiv_int (λq=>h (.inl q)) (fA K) (.inl (jgr (jaq (SF (HL h)) (by decide))))
 ·exact λi j h x y ra rb=>ra.e_int λt=>rb.e_int λu=>mod_int' h (fA K)
 ·exact λi j h x y ra rb=>ra.e_int λt=>rb.e_int λu=>pow_int h.1 (UD h) (fA K)
 ·exact λi j h x y ra rb=>ra.e_int λt=>rb.e_int λu=>lshift_int h.1 (by have:=RN h.2.2;have:=h.2.1;lia) (fA K)
 ·exact λi j h x y ra rb=>ra.e_int λt=>rb.e_int λu=>rshift_int h.1 (fA K)
 ·exact λi j x y ra rb=>ra.e_int λt=>rb.e_int λu=>xor_int (fA K)
 ·exact λi j h x y ra rb=>ra.e_int λt=>rb.e_int λu=>AutoIntOps.truediv_2 (λq=>h (.inl (by simpa using q))) (λq=>h (.inr q)) (qE (mf K))
 ·exact λi j h x y ra rb=>ra.e_flt λt Y=>rb.e_flt λu Y=>AutoFloatOps.truediv_1 h (qE (mf K))
 ·exact λi j x y ra rb=>ra.e_flt λt Y=>rb.e_flt λu Y=>AutoFloatOps.sub_0 (qE (mf K))
 ·exact λi j h x y ra rb=>ra.e_flt λt Y=>rb.e_int λu=>sub_fi_sharp hA (λq=>absurd q (Nat.not_le.mpr (jaq (yH h) (by decide +kernel)))) λY=>(mf K)
 ·exact λi j x y ra rb=>ra.e_flt λt Y=>rb.e_flt λu Y=>AutoFloatOps.mul_0 (qE (mf K))
 ·exact λi j h x y ra rb=>ra.e_flt λt Y=>rb.e_flt λu Y=>AutoFloatOps.mod_1 h (qE (mf K))
end
section
open PySem PySem.W PyProof.Rows PySem.SeqAt
set_option backward.match.sparseCases true
theorem RcAt.flt_flt(x y:UInt64)(t u:Tok):RcAt A s (.float x t) (.float y u) (jag x y==some .eq):=λaf wd E Q h=>AutoFloatOps.eq_0 (prog:=af) (w:=wd) h
theorem RcAt.flt_int(x:UInt64)(j:Int)(t u:Tok):RcAt A s (.float x t) (.int j u) (jbG x j==some .eq):=λaf wd E Q h=>eq_fi (prog:=af) (w:=wd) h
theorem RcAt.int_flt(x:UInt64)(j:Int)(t u:Tok):RcAt A s (.int j u) (.float x t) (jbG x j==some .eq):=λaf wd E Q h=>eq_if (prog:=af) (w:=wd) h
theorem EqAt.of_rc(cV:(x==y)=false)(hf:∀p t q u,¬(x=.float p t/\y=.float q u))(h:RcAt A s x y b):EqAt A s x y b:=λaf wd E Q hq=>by
 unfold eqBool;refine jaS ?_;rw[if_neg (by refine aa cV ?_;exact Z5)];revert hf
 induction x using jgI with
 |float p t =>
  induction y using jgI with
  |float q u=>exact λhf=>absurd ⟨rfl,rfl⟩ (hf p t q u)
  |_=>exact λY=>Zc (h af wd E _ (jaN hq))
 |_=>exact λY=>Zc (h af wd E _ (jaN hq))
theorem EqAt.flt_flt(K:aW φ s)(hB:jfb s.heap)(hx:φ t x)(hy:φ u y)(FI:(jag x x==some jha)=true):
 EqAt A s (.float x t) (.float y u) (jag x y==some .eq):=λaf wd E Q hq=>by
 unfold eqBool;refine jaS ?_;by_cases hab:((jdr x t)==(.float y u))=true
 ·have:jdr x t=.float y u:=eq_of_beq hab;injection this with h1 h2
  subst h1 h2;refine aa (if_pos hab) ?_;rw[FI]at hq;exact Zc (jeY (ZC hq))
 ·refine aa (if_neg hab) ?_;show Zd _ A (do
   let same <-isSame (.float x t) (.float y u)
   if same=true then pure true else do
    let r <-richCompare .Eq (.float x t) (.float y u)
    truthOfDropped r) Q E s
  have h0:(t==0||u==0)=false:=by
   rw[jeX];exact⟨by simpa using K.pos t x hx,by simpa using K.pos u y hy⟩
  have zR:(t==u)=false:=by
   induction q:t==u using ZL with
   |false=>rfl
   |true =>
    exfalso;have e:=eq_of_beq q;subst e;have:=K.fn t x y hx hy;subst this;exact hab (beq_self_eq_true _)
  have go:∀b:Bool,(b=true->x=y)->Zd (Zf af wd) A (if b=true then(pure true:Sem Bool)else do
   let r <-richCompare .Eq (.float x t) (.float y u)
   truthOfDropped r) Q E s:=λb hb=>by
   induction b using ZL with
   |true =>
    have:=hb rfl;subst this;rw[FI]at hq;exact ZC hq
   |false=>exact Zc (RcAt.flt_flt x y t u af wd E _ (jaN hq))
  refine Zc (m:=isSame (.float x t) (.float y u)) ?_;show Zd _ A (jiC (x==y&&!jeV x) t u) _ E s;unfold jiC;refine aa h0 ?_;refine aa (if_neg Z5) ?_;refine aa zR ?_;refine aa (if_neg Z5) ?_
  induction hc:(x==y&&!jeV x)using ZL with
  |false =>
   simp only[Bool.not_false,if_true];exact ZC (go false λe=>nomatch e)
  |true =>
   have Q9:x=y:=eq_of_beq (jbT.mp hc).1;simp only[Bool.not_true,jcM,if_false];refine Zc (jhz hB ?_);simp only[jcM,if_false];refine Zc (jhz hB ?_);simp only[jcM,if_false];exact Zc (jeY (Zc (wpAny_askSetting (ZC (go _ λY=>Q9)))))
theorem Bf{x y:List Nat}:((⟨x.toArray⟩:Str)==⟨y.toArray⟩)=decide (x=y):=by
 refine rwj (str_beq _ _) ?_;by_cases h:x=y
 ·subst h;simp
 ·refine aa (decide_eq_false h) ?_;simpa using h
theorem Mm{s:Y8}(K:aW φ s)(hB:jfb s.heap)(e:cJ a b=some r)(ra:VR tk φ s.heap β P a x)(rb:VR tk φ s.heap β P b y):EqAt A s x y r :=
 xW (C:=λa b r=>∀{x y:Value},VR tk φ s.heap β P a x->VR tk φ s.heap β P b y->EqAt A s x y r) (λi j x y ra rb=>ra.e_int λt=>rb.e_int λu=>EqAt.int_int _ _ _ _)
  (λi j h x y ra rb=>ra.e_flt λt h1=>rb.e_flt λu h2=>EqAt.flt_flt K hB h1 h2 h) (λi j x y ra rb=>ra.e_flt λt Y=>rb.e_int λu=>EqAt.of_rc rfl (λY Y Y Y h=>nomatch h.2) (RcAt.flt_int _ _ _ _))
  (λi j x y ra rb=>ra.e_int λt=>rb.e_flt λu Y=>EqAt.of_rc rfl (λY Y Y Y h=>nomatch h.1) (RcAt.int_flt _ _ _ _)) (λi j x y ra rb=>ra.e_str λt=>rb.e_str λu=>Bf▸EqAt.str_str _ _ _ _) e ra rb
theorem Mn{s:Y8}(e:cJ a b=some r)(ra:VR tk φ s.heap β P a x)(rb:VR tk φ s.heap β P b y):RcAt A s x y r :=
 xW (C:=λa b r=>∀{x y:Value},VR tk φ s.heap β P a x->VR tk φ s.heap β P b y->RcAt A s x y r) (λi j x y ra rb=>ra.e_int λt=>rb.e_int λu=>RcAt.int_int _ _ _ _)
  (λi j h x y ra rb=>ra.e_flt λt h1=>rb.e_flt λu h2=>RcAt.flt_flt _ _ _ _) (λi j x y ra rb=>ra.e_flt λt Y=>rb.e_int λu=>RcAt.flt_int _ _ _ _)
  (λi j x y ra rb=>ra.e_int λt=>rb.e_flt λu Y=>RcAt.int_flt _ _ _ _) (λi j x y ra rb=>ra.e_str λt=>rb.e_str λu=>Bf▸RcAt.str_str _ _ _ _) e ra rb
theorem Mo{a b:AV}{as bs:List AV}{r:Bool}{Q:Prop}(h:eN cJ (a::as) (b::bs)=some r)(k:∀r1 r2,cJ a b=some r1->eN cJ as bs=some r2->(r1&&r2)=r->Q):Q:=by
 rw[sd]at h
 induction h1:cJ a b using ae with
 |none=>rw[h1]at h;exact ai h
 |some r1 =>
  induction h2:eN cJ as bs using ae with
  |none=>rw[h1,h2]at h;exact ai h
  |some r2=>rw[h1,h2]at h;exact k r1 r2 h1 h2 (Y7 h)
theorem uP{s:Y8}(K:aW φ s)(hB:jfb s.heap){as:List AV}:∀{bs:List AV}{xs ys:List Value}{r:Bool},as.length=bs.length->eN cJ as bs=some r->ar tk φ s.heap β P as xs->ar tk φ s.heap β P bs ys ->
 ∃e:Nat->Bool,(∀j (h1:j<xs.length) (h2:j<ys.length),EqAt A s xs[j] ys[j] (e j))/\(Za xs.length).all e=r:=by
 induction as with
 |nil =>
  intro bs xs ys r hl h ra rb
  induction bs using Y6 with
  |cons=>exact nomatch hl
  |nil =>
   refine aa ra.unnil ?_;exact aO (λY=>true) (λj h1=>absurd h1 (jeK _)) (Y7 h)
 |cons a as ih =>
  intro bs xs ys r hl h ra rb
  induction bs using Y6 with
  |nil=>exact nomatch hl
  |cons b bs =>
   refine bS ra.uncons λx iZ e1 ra U1=>?_;refine bS rb.uncons λy ub e2 rb U2=>?_;refine aa e1 ?_;refine aa e2 ?_;refine Mo h λr1 r2 h1 h2 e3=>?_;refine au (ih (Z8 hl) h2 U1 U2) λe he gx=>?_;refine aO (λj=>match j with|0=>r1|j+1=>e j) (λj O3 O7=>?_) ?_
   ·induction j using jaA with
    |zero=>exact Mm K hB h1 ra rb
    |succ j=>exact he j (jdd O3) (jdd O7)
   ·refine aa Zr ?_;refine aa jhm ?_;refine aa jcl ?_;refine aa List.all_map ?_;refine rwj e3 ?_;refine rwj gx ?_;rfl
theorem nA{xs:List Value}(h:j<xs.toArray.size):xs.toArray[j]=xs[j]'(by simpa using h):=by simp
theorem Mr{A:ZZ}{s:Y8}(K:aW φ s)(hB:jfb s.heap)(O:cr tk φ s.heap β P σ)(hu:A.units<jhp)(e:jB σ a b=some r)(ra:VR tk φ s.heap β P a x)(rb:VR tk φ s.heap β P b y):RcAt A s x y r:=by
 refine C1 (C:=λa b r=>∀{x y:Value},VR tk φ s.heap β P a x->VR tk φ s.heap β P b y->RcAt A s x y r) ?_ ?_ ?_ (λa b r e x y=>Mn e) e ra rb
 ·refine λas bs r hl e x y ra rb=>ra.e_tup λa us ea pa il=>rb.e_tup λb vs eb pb lx=>?_;refine au (uP (A:=A.in1) K hB hl e il lx) λef he gx=>?_;have:=RcAt.tuples (A:=A) (s:=s) (e:=ef) ea eb hu (λj h1 h2=>by refine aa (nA h1) ?_;refine aa (nA h2) ?_;exact he j _ _);rw[Zo,Zo,<-il.length,<-lx.length,hl,jhv,beq_self_eq_true,jfq]at this;rw[<-il.length,hl]at gx;exact gx▸this
 ·intro a b as bs r ox m6 hl e x y ra rb;refine bS (fx O ox ra) ?_;rintro l xs rfl h1 r1;refine bS (fx O m6 rb) ?_;rintro l' ys rfl h2 r2;refine au (uP (A:=A.in1) K hB hl e r1 r2) λef he gx=>?_;have:=RcAt.lists (A:=A) (s:=s) (e:=ef) h1 h2 (by refine aa Zo ?_;refine aa Zo ?_;refine rwj r1.length ?_;refine rwj r2.length ?_;refine aa hl ?_;rfl) hu (λj h1 h2=>by refine aa (nA h1) ?_;refine aa (nA h2) ?_;exact he j _ _);rw[Zo,gx]at this;exact this
 ·intro a b as bs ox m6 hl x y ra rb;refine bS (fx O ox ra) ?_;rintro l xs rfl h1 r1;refine bS (fx O m6 rb) ?_;rintro l' ys rfl h2 r2;exact RcAt.lists_lengths h1 h2 (by refine aa Zo ?_;refine aa Zo ?_;refine rwj r1.length ?_;refine rwj r2.length ?_;simpa using hl) hu
theorem Ml(e:cJ a b=some r)(ra:VR tk φ s.heap β P a x)(rb:VR tk φ s.heap β P b y):RcNeAt A s x y (!r):=
 xW (C:=λa b r=>∀{x y:Value},VR tk φ s.heap β P a x->VR tk φ s.heap β P b y->RcNeAt A s x y (!r)) (λi j x y ra rb=>ra.e_int λt=>rb.e_int λu=>RcNeAt.int_int _ _ _ _)
  (λi j h x y ra rb=>ra.e_flt λt h1=>rb.e_flt λu h2=>λaf wd E Q h=>AutoFloatOps.ne_0 (prog:=af) (w:=wd) h) (λi j x y ra rb=>ra.e_flt λt Y=>rb.e_int λu=>λaf wd E Q h=>ne_fi (prog:=af) (w:=wd) h)
  (λi j x y ra rb=>ra.e_int λt=>rb.e_flt λu Y=>λaf wd E Q h=>ne_if h) (λi j x y ra rb=>ra.e_str λt=>rb.e_str λu=>Bf▸RcNeAt.str_str _ _ _ _) e ra rb
theorem Mq(K:aW φ s)(hB:jfb s.heap)(O:cr tk φ s.heap β P σ)(hu:A.units<jhp)(e:jB σ a b=some r)(ra:VR tk φ s.heap β P a x)(rb:VR tk φ s.heap β P b y):RcNeAt A s x y (!r):=by
 refine C1 (C:=λa b r=>∀{x y:Value},VR tk φ s.heap β P a x->VR tk φ s.heap β P b y->RcNeAt A s x y (!r)) ?_ ?_ ?_ (λa b r e x y=>Ml e) e ra rb
 ·refine λas bs r hl e x y ra rb=>ra.e_tup λa us ea pa il=>rb.e_tup λb vs eb pb lx=>?_;refine au (uP (A:=A.in1) K hB hl e il lx) λef he gx=>?_;have:=RcNeAt.tuples (A:=A) (s:=s) (e:=ef) ea eb hu (λj h1 h2=>by refine aa (nA h1) ?_;refine aa (nA h2) ?_;exact he j _ _);rw[Zo,Zo,<-il.length,<-lx.length,hl,jhv,beq_self_eq_true,jfq]at this;rw[<-il.length,hl]at gx;exact gx▸this
 ·intro a b as bs r ox m6 hl e x y ra rb;refine bS (fx O ox ra) ?_;rintro l xs rfl h1 r1;refine bS (fx O m6 rb) ?_;rintro l' ys rfl h2 r2;refine au (uP (A:=A.in1) K hB hl e r1 r2) λef he gx=>?_;have:=RcNeAt.lists (A:=A) (s:=s) (e:=ef) h1 h2 (by refine aa Zo ?_;refine aa Zo ?_;refine rwj r1.length ?_;refine rwj r2.length ?_;refine aa hl ?_;rfl) hu (λj h1 h2=>by refine aa (nA h1) ?_;refine aa (nA h2) ?_;exact he j _ _);rw[Zo,gx]at this;exact this
 ·intro a b as bs ox m6 hl x y ra rb;refine bS (fx O ox ra) ?_;rintro l xs rfl h1 r1;refine bS (fx O m6 rb) ?_;rintro l' ys rfl h2 r2;exact RcNeAt.lists_lengths h1 h2 (by refine aa Zo ?_;refine aa Zo ?_;refine rwj r1.length ?_;refine rwj r2.length ?_;simpa using hl) hu
inductive ee:List Int->List Value->Prop
 |nil:ee [] []
 |cons {i:Int}{t:Tok}{is:List Int}{xs:List Value} (r:ee is xs):ee (i::is) (.int i t::xs)
theorem Ju{v:AV}{vs:List AV}{is:List Int}{Q:Prop}(e:cQ (v::vs)=some is)(k:∀i js,v=.int i->cQ vs=some js->i::js=is->Q):Q:=by
 induction v using AV.casesOn with
 |int i =>
  rw[cQ,gO]at e
  induction h:bj Ad vs using ae with
  |none=>rw[h]at e;exact ai e
  |some js=>rw[h]at e;exact k i js rfl h (Y7 e)
 |_=>exact ai e
theorem rL{vs:List AV}{is:List Int}{xs:List Value}(e:cQ vs=some is)(r:ar tk φ h β P vs xs):ee is xs :=
 r.ind (motive:=λvs xs=>∀is,cQ vs=some is->ee is xs) (λis e=>aG (Q:=λis=>ee is []) (show some []=some is from e) .nil)
  (λa Y ih is e=>Ju e λi js e1 e2 e3=>by
   refine aX ((e1▸a).intv) λt e4=>?_;refine rwj e3 ?_;refine aa e4 ?_;exact .cons (ih js e2)) is e
def pq:Value->Option Int
 | .int i _=>some i
 |_=>none
theorem ee.any(r:ee is xs):(xs.any λy=>pq y==some i)=is.any (·==i):=by
 induction r with
 |nil=>rfl
 |cons _ ih=>refine aa jfn ?_;refine aa jfn ?_;refine aa ih ?_;rfl
theorem ee.mem(r:ee is xs):∀y∈xs,∃j u,y=.int j u:=by
 induction r with
 |nil=>exact λy hy=>nomatch hy
 |cons _ ih=>exact λy hy=>(ZT.mp hy).elim (λe=>jQ _ _ e) (ih y)
theorem ee.at(r:ee is xs):∀y,y∈xs.toArray->EqAt A s y (.int i t) (pq y==some i):=λy hy=>by
 refine dW (r.mem y (by simpa using hy)) ?_;rintro j u rfl;exact EqAt.int_int _ _ _ _
theorem ee.length(r:ee is xs):is.length=xs.length:=by
 induction r with
 |nil=>rfl
 |cons _ ih=>exact congrArg (·+1) ih
theorem RK(K:aW φ s)(I:bh G s.heap)(ra:VR G.tok φ s.heap β P (.str cs) x)(rb:VR G.tok φ s.heap β P .tok y):Zd (Zf af wd) A (jgG .In x y) (aK G.tok φ s β P (.bool (cA.lookup cs).isSome)) ax s:=by
 refine ra.e_str λt=>rb.e_tok ?_;refine fq I.tok λf hm h1 h2=>?_;refine wpAny_in_of (k:=⟨cs.toArray⟩) (strKind_is af wd _ t) I.tokMod hm ?_;have:(f ⟨cs.toArray⟩).isSome=(cA.lookup cs).isSome:=by
  induction q:cA.lookup cs using ae with
  |none=>refine aa (h2 ⟨cs.toArray⟩ (show cA.lookup _=none from q)) ?_;rfl
  |some k=>refine aX (h1 ⟨cs.toArray⟩ k (show cA.lookup _=some k from q)) λt ht=>?_;refine aa ht ?_;rfl
 refine aa this ?_;exact⟨φ,.same K bE.tok (Z2 _),.bool _⟩
theorem F8(O:cr tk φ s.heap β P σ)(hl:aQ σ l=some vs)(h:cQ vs=some is)(ra:VR tk φ s.heap β P (.int i) x)(rb:VR tk φ s.heap β P l y):
 (Q (.bool (is.any (·==i))) s->Zd (Zf af wd) A (jgG .In x y) Q ax s)/\(Q (.bool (!is.any (·==i))) s->Zd (Zf af wd) A (jgG .NotIn x y) Q ax s):=by
 refine aX ra.intv ?_;rintro t rfl;refine bS (fx O hl rb) ?_;rintro l xs rfl h1 r1;have hi:=rL h r1;refine rwj hi.any ?_;exact⟨λhQ=>in_listAt _ h1 hi.at (by refine aa jiL ?_;exact hQ),λhQ=>notIn_listAt _ h1 hi.at (by refine aa jiL ?_;exact hQ)⟩
theorem Cv(K:aW φ s)(I:bh G s.heap)(O:cr G.tok φ s.heap β P σ)(hu:A.units<jhp)(e:j5 σ op a b=some r)(ra:VR G.tok φ s.heap β P a x)(rb:VR G.tok φ s.heap β P b y):Zd (Zf af wd) A (jgG op x y) (aK G.tok φ s β P (.bool r)) ax s:=by
 refine K4 (C:=λop a b r=>∀{x y:Value},VR G.tok φ s.heap β P a x->VR G.tok φ s.heap β P b y->Zd (Zf af wd) A (jgG op x y) (aK G.tok φ s β P (.bool r)) ax s) ?_ ?_ ?_ ?_ ?_ ?_ ?_ ?_ ?_ ?_ ?_ ?_ e ra rb
 ·exact λa b r e x y ra rb=>cmp_ofEq (Mr K I.booked O hu e ra rb af wd _ _ (jm K))
 ·exact λa b r e x y ra rb=>cmp_ofNotEq (Mq K I.booked O hu e ra rb af wd _ _ (jm K))
 ·exact λi j x y ra rb=>ra.e_int λt=>rb.e_int λu=>PyProof.Rows.lt_int (jm K)
 ·exact λi j x y ra rb=>ra.e_int λt=>rb.e_int λu=>PyProof.Rows.le_int (jm K)
 ·exact λi j x y ra rb=>ra.e_int λt=>rb.e_int λu=>PyProof.Rows.gt_int (jm K)
 ·exact λi j x y ra rb=>ra.e_int λt=>rb.e_int λu=>PyProof.Rows.ge_int (jm K)
 ·exact λi j x y ra rb=>ra.e_flt λt Y=>rb.e_flt λu Y=>AutoFloatOps.le_0 (jm K)
 ·exact λi j x y ra rb=>ra.e_bool (rb.e_bool (is_bool (jm K)))
 ·exact λi j x y ra rb=>ra.e_bool (rb.e_bool (isnot_bool (jm K)))
 ·exact λi x y ra rb=>RK K I ra rb
 ·exact λi l vs is hl h x y ra rb=>(F8 O hl h ra rb).1 (jm K)
 ·exact λi l vs is hl h x y ra rb=>(F8 O hl h ra rb).2 (jm K)
theorem JW(i:Int):jiz i=-i-1:=by unfold jiz;exact rfl
theorem Xp(K:aW φ s)(e:qX op a=some r)(ra:VR tk φ s.heap β P a x):Zd (Zf af wd) A (unaryOp op x) (aK tk φ s β P r) ax s :=
 Xo (C:=λop a r=>∀{x:Value},VR tk φ s.heap β P a x->Zd (Zf af wd) A (unaryOp op x) (aK tk φ s β P r) ax s) (λi x ra=>ra.e_int λt=>PyProof.Rows.neg_int (fA K))
  (λi x ra=>ra.e_int λt=>invert_int (JW i▸fA K)) (λb x ra=>ra.e_bool (not_of (jaN (jm K)))) e ra
theorem V5(slice:Expr)(o i:Value):∃tB,jiU slice false o i=operate tB (jij o i):=by
 have two:jiU slice false o i=operate [o,i] (jij o i)\/jiU slice false o i=operate [i,o] (jij o i):=by
  induction slice using ZY with
  |Slice a b c d=>induction c using ae with
   |none=>exact .inr rfl
   |some=>exact .inl rfl
  |_=>exact .inl rfl
 exact two.elim (λe=>⟨_,e⟩) λe=>⟨_,e⟩
theorem qW{s:Y8}{value slice:Expr}{o i:Value}{T id:String}{Q:Value->Y8->Prop}{E:Value->Y8->Prop}(hT:s.TypeIs o T)(hl:typeLookup (.type T) "__getitem__" = pure (some (.builtin id))) (hg:Zd (Zf af wd) A (jij o i) Q E s):Zd (Zf af wd) A (jcT value slice o i) Q E s :=
 let⟨_,e⟩:=V5 slice o i
 tail_any hT hl hg e
theorem xU(O:cr tk φ h β P σ)(e:gH σ v=some es)(r:VR tk φ h β P v x):
 ∃(a:Zi) (ks:List Int) (vs:List AV) (xs:List Value),x=.ref a/\es=ks.zip vs/\ks.length=vs.length/\h.DictOf (jat af wd) a (ks.zip xs)/\ar tk φ h β P vs xs:=by
 induction v using AV.casesOn with
 |dct es' =>
  have e:es'=es:=Y7 e;exact e▸r.e_dct λa ks vs xs h1 h2 h3 Y h5=>z8 a ks vs xs rfl h1 h2 h3 h5
 |ref i =>
  have e:(match σ[i]? with|some (.dict es)=>some es|_=>none)=some es:=e
  induction hi:σ[i]? using ae with
  |none=>rw[hi]at e;exact ai e
  |some o =>
   rw[hi]at e
   induction o using AO.casesOn with
   |dict es' =>
    have e:es'=es:=Y7 e;refine au (O i _ hi (λq=>nomatch q)) λa' h1 h2=>?_;refine r.e_ref λa hb=>h2.e_dict λks vs xs e1 e2 e3 e4=>?_;cases hb.symm.trans h1;exact z8 a' ks vs xs rfl (e▸e1) e2 e3 e4
   |_=>exact ai e
 |_=>exact ai e
theorem Xz{K:Type}[DecidableEq K]{a k:K}{x:Value}{l:List (K×Value)}(h:(k==a)=false):jdn ((a,x)::l) k=jdn l k:=by
 have:¬a=k:=λz=>by rw[z,beq_self_eq_true]at h;exact nomatch h
 unfold jdn;refine aa (List.find?_cons_of_neg (by simpa using this)) ?_;rfl
theorem IN{k:Int}{vs:List AV}{xs:List Value}(r:ar tk φ h β P vs xs):∀ks:List Int,(∀v,(ks.zip vs).lookup k=some v->∃x,jdn (ks.zip xs) k=some x/\VR tk φ h β P v x)/\((ks.zip vs).lookup k=none->jdn (ks.zip xs) k=none):=
 r.ind (motive:=λvs xs=>∀ks:List Int,(∀v,(ks.zip vs).lookup k=some v->∃x,jdn (ks.zip xs) k=some x/\VR tk φ h β P v x)/\((ks.zip vs).lookup k=none->jdn (ks.zip xs) k=none))
  (λks=>by refine aa jfr ?_;refine aa jfr ?_;exact⟨λY e=>ai e,λY=>rfl⟩) (λ{v x vs xs} ra Y ih ks=>by
   induction ks using Y6 with
   |nil=>exact⟨λY e=>ai e,λY=>rfl⟩
   |cons a ks =>
    refine aa jbm ?_;refine aa jbm ?_;refine aa Z1 ?_
    induction q:k==a using ZL with
    |true =>
     refine⟨λv' e=>aO x ?_ (Y7 e▸ra),λe=>G2 e⟩;refine aa (eq_of_beq q) ?_;unfold jdn;refine aa (List.find?_cons_of_pos (by simp)) ?_;rfl
    |false=>refine aa (Xz q) ?_;exact ih ks)
theorem IP{ks:List Int}(e:(ks.zip vs).lookup k=some v)(r:ar tk φ h β P vs xs):∃x,jdn (ks.zip xs) k=some x/\VR tk φ h β P v x:=(IN r ks).1 v e
theorem XX{ks:List Int}(e:(ks.zip vs).lookup k=none)(r:ar tk φ h β P vs xs):jdn (ks.zip xs) k=none:=(IN r ks).2 e
theorem N4(h:k.natAbs<2^53):-(2^63)<=k/\k<2^63:=by omega
theorem AQ(e:fO k n=some j):jfy k n=some j/\-(2^63)<=k/\k<2^63:=bR e λh e=>⟨e,N4 (yH h)⟩
set_option tactic.hygienic true in
theorem OU{s:Y8}{xs:List Value}(hl:s.heap.IsList l xs.toArray)(e:fO k xs.length=some j)(hx:xs[j]?=some x)(h:Q x s):Zd (Zf af wd) A (jij (.ref l) (.int k t)) Q E s:=by
 refine fY (AQ e) λh1 h2 h3=>?_;unfold jfy at h1;by_cases h0:k<0
 ·simp only[h0,if_true]at h1;split at h1
  ·rename_i h4;cases h1;simp only[ZA,decide_eq_true_eq]at h4;exact wpAny_getItem_list_neg hl h0 (by simp only[Zo];lia) h2 (by simpa using hx) h
  ·cases h1
 ·simp only[h0,if_false]at h1;split at h1
  ·cases h1;exact wpAny_getItem_list hl (by lia) h3 (by simpa using hx) h
  ·cases h1
theorem Rv{s:Y8}(K:aW φ s)(O:cr tk φ s.heap β P σ)(e:na σ a i=some r)(ra:VR tk φ s.heap β P a x)(ri:VR tk φ s.heap β P i y):Zd (Zf af wd) A (jcT value slice x y) (aK tk φ s β P r) ax s:=by
 refine Ru (C:=λa i r=>∀{x y:Value},VR tk φ s.heap β P a x->VR tk φ s.heap β P i y->Zd (Zf af wd) A (jcT value slice x y) (aK tk φ s β P r) ax s) ?_ ?_ ?_ ?_ e ra ri
 ·refine λvs k j r h1 h2 x y ra ri=>ra.e_tup λa xs ea pa il=>ri.e_int λt=>?_;refine fY (AQ h1) λp1 p2 p3=>?_;refine au (il.get h2) λz hz rz=>?_;exact qW ea.typeIs slot_tuple_getitem.lookup (getItem_tuple ea p2 p3 (by rw[il.length]at p1;exact p1) (by simpa using hz) (jV K rz))
 ·refine λcs k j c h1 hc x y ra ri=>ra.e_str λt=>ri.e_int λu=>?_;refine fY (AQ h1) λp1 p2 p3=>?_;refine qW (jcZ _ _ _) slot_str_getitem.lookup (PyProof.Rows.getItem_str ?_ (c:=c) ?_ (nw (x:=[c]) K (Z2 _)))
  ·rw[jeX,decide_eq_false_iff_not,decide_eq_false_iff_not];exact⟨Int.not_lt.mpr p2,Int.not_le.mpr p3⟩
  ·show(jfy k cs.toArray.size).bind _=_;refine aa Zo ?_;refine aa p1 ?_;simpa using hc
 ·refine λa k vs j r hl h3 h2 x y ra ri=>ri.e_int λu=>?_;refine bS (fx O hl ra) ?_;rintro l xs rfl h1 r1;refine au (r1.get h2) λz hz rz=>?_;exact qW h1.typeIs slot_list_getitem.lookup (OU h1 (r1.length▸h3) hz (jV K rz))
 ·refine λa k es r hd e x y ra ri=>ri.e_int λu=>?_;refine so (xU O hd ra) ?_;rintro d ks vs xs rfl rfl hl h1 r1;refine au (IP e r1) λz hz rz=>?_;exact qW h1.mapOf.typeIs slot_dict_getitem.lookup (wpAny_getItem_of (jeo _ _ _ _) h1.mapOf hz ⟨φ,.same K bE.tok (Z2 _),rz⟩)
theorem aK.after(k:Go s φ ak ay)(h:Zd (Zf af wd) A t (aK tk ay ak β P r) ax ak):Zd (Zf af wd) A t (aK tk φ s β P r) ax ak :=
 up h λ_ _ ⟨am,k',r'⟩=>⟨am,k.trans k',r'⟩
abbrev kB(vl vu:Value):Obj:={cls:=.type "slice",data:=.fields #[vl,vu,.none]}
theorem Uv{s:Y8}{f:{α:Type}->List α->List α}{lo hi:Option Int}{vl vu x:Value}{value slice:Expr}{vs:List AV}{a:AV}(K:aW φ s)(O:cr tk φ s.heap β P σ)(F:fD s P)(hl:aQ σ a=some vs)(aU:vs.length<=100000)(ra:VR tk φ s.heap β P a x)(pl:IsPart vl lo)(pu:IsPart vu hi)(hf:∀xs:List Value,jhY xs.toArray lo hi none=(f xs).toArray)(hr:∀{xs:List Value},ar tk φ s.heap β P vs xs->ar tk φ s.heap β P (f vs) (f xs)):
 Zd (Zf af wd) A (jcT value slice x (.ref s.heap.objs.size)) (aK tk φ s β P (.lst (f vs))) ax {s with heap:=s.heap.push (kB vl vu)}:=by
 refine bS (fx O hl ra) ?_;rintro l xs rfl h1 r1;have k:Go s φ {s with heap:=s.heap.push (kB vl vu)} φ:=.same K bE.push (Y9 _);refine aK.after k (qW (Heap.IsList.typeIs (s:={s with heap:=s.heap.push (kB vl vu)}) (h1.push _)) slot_list_getitem.lookup
  (wpAny_getItem_list_slice (h1.push _) (jjx ..) pl pu .none (by simp) ?_ (d9 (by refine aa Zo ?_;refine rwj r1.length ?_;exact aU))))
 refine aa (hf _) ?_;exact AZ (s:={s with heap:=s.heap.push (kB vl vu)}) k.tk (F.go k) ((hr r1).ext k.ext)
theorem S3(hl:x.length<=jcU)(h:Q (.str x s.toks) {s with toks:=s.toks+1}):(Made.str x).post Q s:=⟨hl,h⟩
set_option tactic.hygienic true in
theorem Ux{s:Y8}{cs ds:List Nat}{lo hi:Option (Int×Tok)}(K:aW φ s)(aU:ds.length<=100000)(hf:jaz ⟨cs.toArray⟩ (lo.map (·.1)) (hi.map (·.1))=⟨ds.toArray⟩):
 Zd (Zf af wd) A (jcT value slice (.str ⟨cs.toArray⟩ t) (.ref s.heap.objs.size)) (aK tk φ s β P (.str ds)) ax {s with heap:=s.heap.push (kB (jbj lo) (jbj hi))}:=by
 have k:Go s φ {s with heap:=s.heap.push (kB (jbj lo) (jbj hi))} φ:=.same K bE.push (Y9 _);refine aK.after k (qW (jcZ _ _ _) slot_str_getitem.lookup (wpAny_getItem_str_slice (l:=lo) (u:=hi) (st:=none) ⟨_,Z3 _ rfl,rfl,rfl⟩ rfl ?_));unfold jaz at hf;unfold sliceMade slicePicked;simp only[Option.map_none,Option.getD_none,beq_self_eq_true,jcG];split
 ·rename_i hw;rw[if_pos (by simpa using hw)]at hf;have:cs=ds:=by
   have:=congrArg (λx:Str=>x.cps.toList) hf;simpa using this
  subst this;exact jV (s:={s with heap:=s.heap.push (kB (jbj lo) (jbj hi))}) k.tk (.str _ _)
 ·rename_i hw;rw[if_neg (by simpa using hw)]at hf;refine aa hf ?_;exact S3 (d9 (by simpa [jbL]using aU)) (nw (s:={s with heap:=s.heap.push (kB (jbj lo) (jbj hi))}) k.tk (Z2 _))
theorem Wr(cs:List Nat)(h:0<=j):jaz ⟨cs.toArray⟩ none (some j)=⟨(cs.take j.toNat).toArray⟩:=by
 obtain⟨n,rfl⟩:=jbw h;rw[ZF];by_cases hj:n<=cs.length
 ·refine aa (jhf (x:=⟨cs.toArray⟩) ⟨h,by simpa using hj⟩) ?_;simp
 ·have e:jaz ⟨cs.toArray⟩ none (some (n:Int))=jaz ⟨cs.toArray⟩ none (some (cs.length:Int)):=by
   unfold jaz;refine aa (sliceIdx_hi_beyond _ (j:=(n:Int)) (by simp only[jbL,Zo];lia)) ?_;simp[jbL]
  refine aa e ?_;refine aa (jhf (x:=⟨cs.toArray⟩) ⟨Zl cs.length,by simp⟩) ?_;refine aa (jhl (jjc hj)) ?_;simp
theorem Wq(cs:List Nat)(h:0<=j):jaz ⟨cs.toArray⟩ (some j) none=⟨(cs.drop j.toNat).toArray⟩:=by
 obtain⟨n,rfl⟩:=jbw h;rw[ZF];by_cases hj:n<=cs.length
 ·refine aa (jgJ (x:=⟨cs.toArray⟩) ⟨h,by simpa using hj⟩) ?_;show(⟨((cs.drop n).take ((cs.length:Int)-n).toNat).toArray⟩:Str)=_;rw[jhl (by refine aa jbI ?_;refine aa (Int.toNat_sub ..) ?_;exact Y9 _)]
 ·have e:jaz ⟨cs.toArray⟩ (some (n:Int)) none=jaz ⟨cs.toArray⟩ (some (cs.length:Int)) none:=by
   unfold jaz;refine aa (sliceIdx_lo_beyond _ (i:=(n:Int)) (by simp only[jbL,Zo];lia)) ?_;simp[jbL]
  refine aa e ?_;refine aa (jgJ (x:=⟨cs.toArray⟩) ⟨Zl cs.length,by simp⟩) ?_;refine aa (List.drop_of_length_le (jjc hj)) ?_;simp
theorem UA(xs:List Value)(h:0<=j):jhY xs.toArray none (some j) none=(xs.take j.toNat).toArray:=by
 have:j=(j.toNat:Int):=(jbW h).symm;refine aa this ?_;refine aa (slicePick_upto' _ _) ?_;simp[jjn h]
theorem Uz(xs:List Value)(h:0<=j):jhY xs.toArray (some j) none none=(xs.drop j.toNat).toArray:=by
 have:j=(j.toNat:Int):=(jbW h).symm;refine aa this ?_;refine aa (slicePick_from' _ _) ?_;simp[jjn h]
set_option tactic.hygienic true in
theorem Hl{s:Y8}{f:{α:Type}->List α->List α}{lo hi:Option (Int×Tok)}(K:aW φ s)(O:cr tk φ s.heap β P σ)(F:fD s P)(e:me σ f a=some r)(ra:VR tk φ s.heap β P a x)(pl:IsPart (jbj lo) (lo.map (·.1)))(pu:IsPart (jbj hi) (hi.map (·.1)))(h1:∀xs:List Value,jhY xs.toArray (lo.map (·.1)) (hi.map (·.1)) none=(f xs).toArray)(aN:∀cs:List Nat,(f cs).length<=cs.length)(h2:∀cs,jaz ⟨cs.toArray⟩ (lo.map (·.1)) (hi.map (·.1))=⟨(f cs).toArray⟩)(hr:∀{vs:List AV}{xs:List Value},ar tk φ s.heap β P vs xs->ar tk φ s.heap β P (f vs) (f xs)):
 Zd (Zf af wd) A (jcT value slice x (.ref s.heap.objs.size)) (aK tk φ s β P r) ax {s with heap:=s.heap.push (kB (jbj lo) (jbj hi))}:=by
 unfold me at e;split at e
 ·split at e
  ·rename_i aU;cases e;cases ra;exact Ux K (Y5 (aN _) aU) (h2 _)
  ·cases e
 ·split at e
  ·rename_i hl;split at e
   ·rename_i aU;cases e;exact Uv (f:=f) K O F hl aU ra pl pu h1 hr
   ·cases e
  ·cases e
theorem Vx{s:Y8}{lo hi:Option (Int×Tok)}(K:aW φ s)(O:cr tk φ s.heap β P σ)(F:fD s P)(e:qS σ a (lo.map (·.1)) (hi.map (·.1))=some r)(ra:VR tk φ s.heap β P a x):
 Zd (Zf af wd) A (jcT value slice x (.ref s.heap.objs.size)) (aK tk φ s β P r) ax {s with heap:=s.heap.push (kB (jbj lo) (jbj hi))}:=by
 induction lo using ae with
 |none =>
  induction hi using ae with
  |none=>exact ai e
  |some u =>
   obtain⟨u,t⟩:=u;exact bR (show(if 0<=u then _ else none)=some r from e) λh0 e=>Hl K O F e ra .none (.int _ _) (λxs=>UA xs h0) (λcs=>jhB _ _) (λcs=>Wr cs h0) λr=>r.take _
 |some l =>
  induction hi using ae with
  |none =>
   obtain⟨u,t⟩:=l;exact bR (show(if 0<=u then _ else none)=some r from e) λh0 e=>Hl K O F e ra (.int _ _) .none (λxs=>Uz xs h0) (λcs=>by refine aa jbI ?_;simp) (λcs=>Wq cs h0) λr=>r.drop _
  |some u=>exact ai e
theorem ik(K:aW φ s)(ext:∀b o,s.heap.get? b=some o->h'.get? b=some o)(u:Up s {s with heap:=h',toks:=t})(hr:VR tk φ h' β P r v):aK tk φ s β P r v {s with heap:=h',toks:=t}:=
 ⟨φ,.same K ⟨⟨h',t,rfl,ext⟩,u.size⟩ u.toks,hr⟩
theorem ee.items:∀{is:List Int}{xs:List Value},ee is xs->∃eJ:Array (Int×Tok),xs.toArray=intItems eJ/\eJ.toList.map (·.1)=is
 |_,_,.nil=>aO (#[]) (by simp[intItems]) rfl
 |_,_,.cons (i:=i) (t:=t) r=>by
  refine au r.items λeJ h1 h2=>?_;refine aO (((i,t)::eJ.toList).toArray) ?_ ?_
  ·apply Array.toList_inj.mp;have:=congrArg Array.toList h1;simp[intItems]at this ⊢;exact this
  ·simp[h2]
theorem wj(h:eJ.toList.map (·.1)=is)(j:Nat):jgT eJ j=(is[j]?).getD 0:=by
 subst h;simp[jgT]
theorem Bi(a b:List Int):em (a++b)=em a+em b:=by
 induction a with
 |nil=>exact(jhx _).symm
 |cons i a ih=>exact(congrArg (i+·) ih).trans (Int.add_assoc ..).symm
theorem tR:∀{is:List Int},(∀i∈is,0<=i)->0<=em is
 | [],_=>jgg _
 |i::is,h=>by
  exact Int.add_nonneg (h i (.head _)) (tR λj hj=>h j (.tail _ hj))
theorem AS(h:eJ.toList.map (·.1)=is):∀n,preSum (jgT eJ) n=em (is.take n)
 |0=>rfl
 |n+1=>by
  rw[preSum,AS h n,wj h,List.take_add_one,Bi]
  induction is[n]? using ae with
  |none=>simp[Bk,wy]
  |some i=>simp[Bk,wy]
theorem V7(hp:∀i∈is,0<=i)(n:Nat):0<=em (is.take n)/\em (is.take n)<=em is:=by
 have e:em is=em (is.take n)+em (is.drop n):=by rw[<-Bi,jhw]
 have h1:=tR (is:=is.take n) λi hi=>hp i (jeT hi);have h2:=tR (is:=is.drop n) λi hi=>hp i (jeU hi)
 lia
theorem Sq(hp:∀i∈is,0<=i)(hi:i∈is):i<=em is:=by
 refine dW (List.append_of_mem hi) ?_;rintro a b rfl;have h1:=tR (is:=a) λi hi=>hp i (by simp[hi]);have h2:=tR (is:=b) λi hi=>hp i (by simp[hi]);rw[Bi];simp only[Bk,wy]
 lia
theorem V9(hA:A.handled=none)(K:aW φ s)(hl:s.heap.IsList l xs.toArray)(hi:ee is xs)(hp:∀i∈is,0<=i)(hs:em is<2^53):
 Zd (Zf af wd) A (call (.builtin "sum") [.ref l]) (aK tk φ s β P (.int (em is))) ax s:=by
 refine au hi.items λeJ h1 h2=>?_;rw[h1]at hl;have be:eJ.size=is.length:=by refine rwj h2 ?_;simp
 refine eF (sum_intList hA hl (λj hj=>?_) λh' t t' ext u=>?_)
 ·refine⟨?_,?_⟩
  ·refine aa (wj h2 _) ?_;have lZ:j<is.length:=by lia
   refine aa (Zg lZ) ?_;refine aa jfD ?_;have a1:=hp _ (jbJ lZ);have a2:=Sq hp (jbJ lZ);exact⟨by lia,by lia⟩
  ·refine aa (AS h2 _) ?_;have:=V7 hp (j+1);exact⟨by lia,by lia⟩
 ·refine aa (AS h2 _) ?_;refine aa be ?_;refine aa jfR ?_;exact ik K ext u (.int _ _)
theorem GO:∀(js:List Int) (i:Int),i<=gz i js/\(∀j∈js,j<=gz i js)/\(gz i js=i\/gz i js∈js)
 | [],i=>cz (jgg _) (λY h=>(nomatch h)) (.inl rfl)
 |j::js,i=>by
  refine fY (GO js (if i<j then j else i)) λh1 h2 h3=>?_;have hm:i<=(if i<j then j else i)/\j<=(if i<j then j else i):=by split<;>lia
  simp only[Tg,Th];refine cz (jfL hm.1 h1) ?_ ?_
  ·intro k hk;rcases ZT.mp hk with rfl|hk
   ·exact jfL hm.2 h1
   ·exact h2 k hk
  ·rcases h3 with h3|h3
   ·refine aa h3 ?_;split
    ·exact .inr (.head _)
    ·exact .inl rfl
   ·exact .inr (.tail _ h3)
theorem Tj(hA:A.handled=none)(K:aW φ s)(hl:s.heap.IsList l xs.toArray)(hi:ee (i::is) xs):
 Zd (Zf af wd) A (call (.builtin "max") [.ref l]) (aK tk φ s β P (.int (gz i is))) ax s:=by
 refine au hi.items λeJ h1 h2=>?_;rw[h1]at hl;have be:eJ.size=is.length+1:=by
  have:=congrArg jaT h2;simpa using this
 refine eF (max_intList hA hl (by simp[*]) λv h' t hv ext u=>?_);refine aX (intItems_at hv) ?_;rintro tt rfl;refine bN (argBest_gt (jgT eJ) (eJ.size-1)) λb1 b2=>?_;have e:jgT eJ (jfB (λi j=>decide (jgT eJ i>jgT eJ j)) (eJ.size-1))=gz i is:=by
  refine fY (GO is i) λm1 m2 m3=>?_;have up:∀x∈(i::is),x<=gz i is:=λx hx=>by
   rcases ZT.mp hx with rfl|hx
   ·exact m1
   ·exact m2 x hx
  have eR:gz i is∈(i::is):=by
   rcases m3 with m3|m3
   ·refine aa m3 ?_;exact .head _
   ·exact .tail _ m3
  obtain⟨k,hk,f8⟩:=jdw.mp eR;have c1:=b2 k (by refine aa be ?_;simp only[Zr]at hk;exact jba hk);rw[wj h2 k,Zg hk,f8,jfD]at c1;have c2:jgT eJ (jfB (λi j=>decide (jgT eJ i>jgT eJ j)) (eJ.size-1))<=gz i is:=by
   refine aa (wj h2 _) ?_;refine aa (Zg (by simp only[Zr];omega)) ?_;refine aa jfD ?_;exact up _ (jbJ _)
  lia
 refine aa e ?_;exact ik K ext u (.int _ _)
set_option tactic.hygienic true in
theorem AD(hb:small b=true):Builtin.divisionGoesByPylong a b=false:=by
 refine jgr ?_;have h3:=te hb;unfold Zt at h3;split at h3
 ·rename_i hz;simp_all
 ·exact bw h3 rfl
def ph(s:Y8)(is:List Int)(v:Value):Prop :=
 ∃(r:Zi) (a b c:Int) (t u x:Tok) (n:Nat),v=.ref r/\IsRange s.heap r a b c t u x/\jet a b c=true/\jaM a b c=n/\n<=100000/\is=gP a c n
theorem UX(hc:0<c):0<=jaM a b c:=by
 unfold jaM;refine aa (if_pos (hc)) ?_;split
 ·have:0<=(b-a-1)/c:=Int.ediv_nonneg (by lia) (by lia);omega
 ·exact jgg _
set_option tactic.hygienic true in
theorem A2(e:fQ a b c=some is)(hr:IsRange s.heap r a b c t u x):ph s is (.ref r):=by
 unfold fQ at e;split at e
 ·rename_i h;cases e;have:=UX (a:=a) (b:=b) h.1;exact⟨r,a,b,c,t,u,x,_,rfl,hr,h.2.2.1,(jbW this).symm,by simp[*],rfl⟩
 ·cases e
theorem Hx(K:aW φ s)(e:nu as=some is)(r:ar tk φ s.heap β P as xs):
 Zd (Zf af wd) A (call (.type "range") xs) (λv s'=>Go s φ s' φ/\ph s' is v) ax s :=
 UW (C:=λas is=>∀{xs:List Value},ar tk φ s.heap β P as xs->Zd (Zf af wd) A (call (.type "range") xs) (λv s'=>Go s φ s' φ/\ph s' is v) ax s)
  (λb is e xs r=>r.e1 λx r1=>r1.e_int λt=>call_range_1 ⟨.same K bE.pushT (ZH s.toks 2),A2 e (jhj ..)⟩)
  (λa b is e xs r=>r.e2 λx y r1 r3=>r1.e_int λt=>r3.e_int λu=>call_range_2 ⟨.same K bE.pushT (Z2 _),A2 e (jhj ..)⟩)
  (λa b c is e xs r=>r.e3 λx y z r1 r3 r5=>r1.e_int λt=>r3.e_int λu=>r5.e_int λv=>bR (show(if 0<c/\small c=true/\_ then some _ else none)=some is from e) λhh Y =>
   call_range_3 (Int.ne_of_gt hh.1) ⟨.same K bE.pushT (Y9 _),A2 e (jhj ..)⟩ (.inl (AD hh.2.1))) e r
theorem AX(a c:Int)(n:Nat):(gP a c n).length=n:=by
 induction n generalizing a with
 |zero=>rfl
 |succ n ih=>rw[tI,Zr,ih]
theorem AW(c:Int):∀(n:Nat) (a:Int) (j:Nat),j<n->(gP a c n)[j]?=some (a+j*c)
 |n+1,a,0,_=>by simp[tI]
 |n+1,a,j+1,h=>by
  rw[tI,jev,AW c n (a+c) j (jba h)]
  congr 1
  push_cast
  rw[Int.add_mul];lia
theorem ar.of_get:∀{xs:List Value},vs.length=xs.length->(∀(j:Nat) (v:AV) (x:Value),vs[j]?=some v->xs[j]?=some x->VR tk φ h β P v x)->ar tk φ h β P vs xs:=by
 induction vs with
 |nil=>intro xs hl _;refine aa (Z7.mp hl.symm) ?_;exact .nil
 |cons v vs ih =>
  intro xs hl hr
  induction xs using Y6 with
  |nil=>exact nomatch hl
  |cons x xs=>exact .cons (hr 0 v x rfl rfl) (ih (Z8 hl) λj v x h1 h2=>hr (j+1) v x h1 h2)
theorem Gy(K:aW φ s)(F:fD s P)(ext:∀b o,s.heap.get? b=some o->h'.get? b=some o)(u:Up s {s with heap:=h',toks:=t})(hS:h'.get? s.heap.objs.size=some {cls:=.type "list",dict:=none,data:=.seq acc c',slots:=#[]}) (hi:ItemsOf Pv acc n) (hl:vs.length=n) (hr:∀(j:Nat) (v:AV) (x:Value),vs[j]?=some v->Pv j x->VR tk φ h' β P v x):aK tk φ s β P (.lst vs) (.ref s.heap.objs.size) {s with heap:=h',toks:=t}:=by
 refine ik K ext u (.lst (xs:=acc.toList) ⟨c',by refine aa hS ?_;refine aa Array.toArray_toList ?_;rfl⟩ (F _ (Y9 _)) (ar.of_get (by refine aa hl ?_;refine aa jhH ?_;refine aa hi.1 ?_;rfl) λj v x h1 h2=>hr j v x h1 (hi.2 j x (by simpa using h2))))
theorem Gz(hA:A.handled=none)(K:aW φ s)(F:fD s P)(R:ph s is v):
 Zd (Zf af wd) A (call (.type "list") [v]) (aK tk φ s β P (.lst (is.map .int))) ax s:=by
 refine DH R ?_;rintro r a b c t u x n rfl hr hs hn aU rfl;refine eF (call_list_range hA hr hs hn (Y5 aU (by decide)) λh' t' acc c' ext hS hi up=>?_);refine Gy K F ext up hS hi (by rw[Y4,AX]) λj v x h1 h2=>?_;refine aX h2 ?_;rintro tt rfl;have hj:j<n:=by
  have:=(ZE.mp h1).1
  rwa [Y4,AX]at this
 rw[ZR,AW c n a j hj]at h1;cases h1;exact .int _ _
theorem XY{ks:List Int}{vs:List AV}(h:ks.length=vs.length):(ks.zip vs).map (·.2)=vs:=List.map_snd_zip (ZP h.symm)
theorem SE{A:ZZ}{s:Y8}{es:List (Int×AV)}(hA:A.handled=none)(K:aW φ s)(F:fD s P)(sZ:∀a,P a->(a==jah)=false)(aU:es.length<=100000)(r:VR tk φ s.heap β P (.dct es) x):
 Zd (Zf af wd) A (call (.builtin "dict.values") [x]) (λv ak=>Zd (Zf af wd) A (call (.type "list") [v]) (aK tk φ s β P (.lst (es.map (·.2)))) ax ak) ax s:=by
 refine r.e_dct λa ks vs xs oq hl e p r1=>?_;clear r;subst oq
 ·have r:=r1;refine jgn jgq e.typeIs PySem.F.entry_dict_values (PySem.F.args_dict_values_1 _) (meets_dict_values (jat af wd) a (sZ a p)) ⟨⟨_,e⟩,?_⟩;have k:Go s φ {s with heap:=s.heap.push {cls:=.type "dict_values",data:=.fields #[.ref a]}} φ:=.same K bE.push (Y9 _);refine aX e.dictAt λep fu=>?_;refine aK.after k ?_;have Ra:(ks.zip xs).length<=100000:=by
   have:=r.length;rw[jbu]at aU ⊢
   lia
  refine eF (kdl_call (kdl_values (knd:=jat af wd) (kvs:=ks.zip xs) (ep:=ep)) hA ⟨⟨_,Z3 _ rfl,rfl,rfl⟩,fu.push _⟩ (d9 Ra) λh' t' acc c' ext hS hi up=>?_);have rr:=(r.ext k.ext).ext ext;refine Gy (s:={s with heap:=s.heap.push {cls:=.type "dict_values",data:=.fields #[.ref a]}}) k.tk (F.go k) ext up hS hi (by simp[jbu,hl,r.length]) λj v x h1 h2=>?_;rw[XY hl]at h1;refine aX h2 λk' hk=>?_;refine au (rr.get h1) λx' hx rx=>?_;have:x=x':=by
   rw[jed]at hk;rw[hx]at hk;exact(Y7 hk.2).symm
  refine aa this ?_;exact rx
def hU(x y z:UInt64):Nat->UInt64
 |0=>x
 |1=>y
 |_=>z
theorem vY{x y z:UInt64}{t u v:Tok}{i:Nat}{r:Value}(e:(#[jdr x t,.float y u,.float z v])[i]?=some r):∃t',r=.float (hU x y z i) t':=by
 match i,e with
 |0,e=>cases e;exact⟨_,rfl⟩
 |1,e=>cases e;exact⟨_,rfl⟩
 |2,e=>cases e;exact⟨_,rfl⟩
 |n+3,e=>simp at e
theorem Gm{A:ZZ}{s:Y8}{x y z:UInt64}{t u v:Tok}{op:CmpOp}{bt:Nat->Nat->Bool}{Q:Value->Y8->Prop}{E:Value->Y8->Prop}(hA:A.handled=none)(hc:CmpOf af wd A.in1 op (λi r=>(#[jdr x t,.float y u,.float z v])[i]?=some r) bt)(h:∀r h' tk,(#[jdr x t,.float y u,.float z v])[jfB bt 2]?=some r->(∀b o,s.heap.get? b=some o->h'.get? b=some o)->Q r {s with heap:=h',toks:=tk}):
 Zd (Zf af wd) A.in1 (jdU (.ref s.heap.objs.size)) (λit aC=>∃I fp wr n P St bt,it=.ref I/\Walks af wd A.in1 I fp wr n P St/\St 0 aC.heap/\(∀b∈fp,b<aC.heap.objs.size)/\0<n/\CmpOf af wd A.in1 op P bt /\
  ∀v h' tk,P (jfB bt (n-1)) v->(∀b o,b∉wr->aC.heap.get? b=some o->h'.get? b=some o)->Q v {aC with heap:=h',toks:=tk}) E
  { s with heap:=s.heap.push {cls:=.type "tuple",data:=.seq #[.float x t,.float y u,.float z v]}}:=by
 have hT:(s.heap.push {cls:=.type "tuple",data:=.seq #[.float x t,.float y u,.float z v]}).IsTuple s.heap.objs.size #[.float x t,.float y u,.float z v]:=⟨_,Z3 _ rfl,rfl,0,rfl⟩
 refine jjp hT ?_;have be:(s.heap.push {cls:=.type "tuple",data:=.seq #[.float x t,.float y u,.float z v]}).objs.size=s.heap.objs.size+1:=ZS ..;refine RG _ [_,s.heap.objs.size] [_] _ _ _ bt rfl (Walks.tuple (A:=A.in1) hA _ s.heap.objs.size (by refine aa be ?_;exact jaI (jan _)) #[.float x t,.float y u,.float z v]) ⟨⟨_,Z3 _ rfl,rfl,rfl⟩,hT.push _⟩ (λd hd=>?_) (by simp) hc (λr h' tk hP hk=>?_)
 ·show d<((s.heap.push _).push _).objs.size;refine aa (ZS _ _) ?_;refine aa be ?_;rcases ZT.mp hd with rfl|hd
  ·refine aa be ?_;exact jan _
  ·rcases ZT.mp hd with rfl|hd
   ·exact jdc (jan _)
   ·cases hd
 ·refine h r h' tk hP λb o e=>hk b o (λhm=>?_) (Zh _ (Zh _ e));rcases ZT.mp hm with e1|hm
  ·have:=Zz e;rw[e1,be]at this;exact Zv _ (jiG this)
  ·cases hm
theorem Te{A:ZZ}{s:Y8}{x y z:UInt64}{t u v:Tok}{Q:Value->Y8->Prop}{E:Value->Y8->Prop}(hA:A.handled=none)(h:∀r h' tk,(#[jdr x t,.float y u,.float z v])[jfB (λi j=>gK (hU x y z i) (hU x y z j)) 2]?=some r->(∀b o,s.heap.get? b=some o->h'.get? b=some o)->Q r {s with heap:=h',toks:=tk}):
 Zd (Zf af wd) A (call (.builtin "max") [.float x t,.float y u,.float z v]) Q E s :=
 call_max_three (Gm (Q:=Q) (E:=E) (op:=.Gt) hA (λi j vi vj s Q E hi hj h=>by
  refine aX (vY hi) ?_;rintro _ rfl;refine aX (vY hj) ?_;rintro _ rfl;exact AutoFloatOps.gt_0 h) h)
theorem Tf(hA:A.handled=none)(K:aW φ s)(h1:φ t x)(h2:φ u y)(h3:φ v z):
 Zd (Zf af wd) A (call (.builtin "max") [.float x t,.float y u,.float z v])
  (aK tk φ s β P (.flt (if gK z (if gK y x then y else x)then z else(if gK y x then y else x)))) ax s:=by
 refine eF (Te hA λr h' t' hr ext up=>?_);simp only[jfB,hU]at hr;by_cases c1:gK y x=true
 ·by_cases c2:gK z y=true
  ·simp[c1,c2,hU]at hr ⊢;subst hr;exact ik K ext up (.flt _ _ h3)
  ·simp[c1,c2,hU]at hr ⊢;subst hr;exact ik K ext up (.flt _ _ h2)
 ·by_cases c2:gK z x=true
  ·simp[c1,c2,hU]at hr ⊢;subst hr;exact ik K ext up (.flt _ _ h3)
  ·simp[c1,c2,hU]at hr ⊢;subst hr;exact ik K ext up (.flt _ _ h1)
theorem Tq{A:ZZ}{s:Y8}{x y z:UInt64}{t u v:Tok}{Q:Value->Y8->Prop}{E:Value->Y8->Prop}(hA:A.handled=none)(h:∀r h' tk,(#[jdr x t,.float y u,.float z v])[jfB (λi j=>gL (hU x y z i) (hU x y z j)) 2]?=some r->(∀b o,s.heap.get? b=some o->h'.get? b=some o)->Q r {s with heap:=h',toks:=tk}):
 Zd (Zf af wd) A (call (.builtin "min") [.float x t,.float y u,.float z v]) Q E s :=
 call_min_three (Gm (Q:=Q) (E:=E) (op:=.Lt) hA (λi j vi vj s Q E hi hj h=>by
  refine aX (vY hi) ?_;rintro _ rfl;refine aX (vY hj) ?_;rintro _ rfl;exact AutoFloatOps.lt_0 h) h)
theorem Tr(hA:A.handled=none)(K:aW φ s)(h1:φ t x)(h2:φ u y)(h3:φ v z):
 Zd (Zf af wd) A (call (.builtin "min") [.float x t,.float y u,.float z v])
  (aK tk φ s β P (.flt (if gL z (if gL y x then y else x)then z else(if gL y x then y else x)))) ax s:=by
 refine eF (Tq hA λr h' t' hr ext up=>?_);simp only[jfB,hU]at hr;by_cases c1:gL y x=true
 ·by_cases c2:gL z y=true
  ·simp[c1,c2,hU]at hr ⊢;subst hr;exact ik K ext up (.flt _ _ h3)
  ·simp[c1,c2,hU]at hr ⊢;subst hr;exact ik K ext up (.flt _ _ h2)
 ·by_cases c2:gL z x=true
  ·simp[c1,c2,hU]at hr ⊢;subst hr;exact ik K ext up (.flt _ _ h3)
  ·simp[c1,c2,hU]at hr ⊢;subst hr;exact ik K ext up (.flt _ _ h1)
variable {A:ZZ}{s:Y8}{tk:Zi}{φ:Gh}{h:jao}{β:List Zi}{P:Zi->Prop}{σ:aA}{G:GD}
theorem AY{i:Int}(K:aW φ s):aK tk φ s β P (.int i) (.int i (s.toks+1)) {s with toks:=s.toks+1+1}:=
 ⟨φ,.same K bE.tok (by show s.toks<=s.toks+1+1;exact jcJ (jcJ jbO)),.int _ _⟩
theorem Kx{as:List AV}{r:AV}{xs:List Value}(K:aW φ s)(O:cr tk φ s.heap β P σ)(sZ:∀a,P a->(a==jah)=false)(e:rU σ as=some r)(ra:ar tk φ s.heap β P as xs):
 Zd (Zf af wd) A (call (.builtin "len") xs) (aK tk φ s β P r) ax s:=by
 refine Kw (C:=λas r=>∀{xs:List Value},ar tk φ s.heap β P as xs->Zd (Zf af wd) A (call (.builtin "len") xs) (aK tk φ s β P r) ax s) ?_ ?_ ?_ e ra
 ·refine λcs hn xs ra=>ra.e1 λx r1=>r1.e_str λt=>len_str (by simp only[jbL,Zo];lia) ?_;refine aa (show((⟨cs.toArray⟩:Str).length:Int)=cs.length by simp[jbL]) ?_;exact AY K
 ·refine λes hn xs ra=>ra.e1 λx r1=>r1.e_dct λa ks us zs oq hl e' p r=>?_;have aN:(ks.zip zs).length=es.length:=by refine aa oq ?_;refine aa jbu ?_;refine aa jbu ?_;refine aa r.length ?_;rfl
  refine call_len_dict (sZ _ p) e' (by refine aa aN ?_;exact re hn rfl) ?_;refine aa aN ?_;exact AY K
 ·refine λl vs hl hn xs ra=>ra.e1 λx r1=>?_;refine bS (fx O hl r1) ?_;rintro l zs rfl h1 r1;refine PySem.Calls.call_len_list h1 (by refine aa Zo ?_;refine rwj r1.length ?_;exact re hn rfl) ?_;refine aa Zo ?_;refine rwj r1.length ?_;exact AY K
theorem KI{as:List AV}{r:AV}{xs:List Value}(hA:A.handled=none)(K:aW φ s)(O:cr tk φ s.heap β P σ)(e:xA σ as=some r)(ra:ar tk φ s.heap β P as xs):
 Zd (Zf af wd) A (call (.builtin "sum") xs) (aK tk φ s β P r) ax s :=
 KH (C:=λas r=>∀{xs:List Value},ar tk φ s.heap β P as xs->Zd (Zf af wd) A (call (.builtin "sum") xs) (aK tk φ s β P r) ax s) (λl vs is hl eS h1 h2 xs ra=>ra.e1 λx r1=>by
  refine bS (fx O hl r1) ?_;rintro l zs rfl hp r1;exact V9 hA K hp (rL eS r1) (λi hi=>of_decide_eq_true (Y'.mp h1 i hi)) h2) e ra
theorem Kz{as:List AV}{r:AV}{xs:List Value}(hA:A.handled=none)(K:aW φ s)(O:cr tk φ s.heap β P σ)(e:xx σ as=some r)(ra:ar tk φ s.heap β P as xs):
 Zd (Zf af wd) A (call (.builtin "max") xs) (aK tk φ s β P r) ax s:=by
 refine Ky (C:=λas r=>∀{xs:List Value},ar tk φ s.heap β P as xs->Zd (Zf af wd) A (call (.builtin "max") xs) (aK tk φ s β P r) ax s) ?_ ?_ ?_ e ra
 ·refine λi j xs ra=>ra.e2 λx y r1 r3=>r1.e_int λt=>r3.e_int λu=>eF (max_two_ints hA λh' t ext up=>?_);by_cases hc:i<j
  ·refine aa (if_pos hc) ?_;refine aa (if_pos hc) ?_;exact ik K ext up (.int _ _)
  ·refine aa (if_neg hc) ?_;refine aa (if_neg hc) ?_;exact ik K ext up (.int _ _)
 ·exact λx y z xs ra=>ra.e3 λa b c r1 r2 r3=>r1.e_flt λt h1=>r2.e_flt λu h2=>r3.e_flt λv h3=>Tf hA K h1 h2 h3
 ·refine λl vs i js hl eS xs ra=>ra.e1 λx r1=>?_;refine bS (fx O hl r1) ?_;rintro l zs rfl h1 r1;exact Tj hA K h1 (rL eS r1)
theorem KC{as:List AV}{r:AV}{xs:List Value}(hA:A.handled=none)(K:aW φ s)(e:xy as=some r)(ra:ar tk φ s.heap β P as xs):
 Zd (Zf af wd) A (call (.builtin "min") xs) (aK tk φ s β P r) ax s:=by
 refine KA (C:=λas r=>∀{xs:List Value},ar tk φ s.heap β P as xs->Zd (Zf af wd) A (call (.builtin "min") xs) (aK tk φ s β P r) ax s) ?_ ?_ e ra
 ·refine λi j xs ra=>ra.e2 λx y r1 r3=>r1.e_int λt=>r3.e_int λu=>eF (min_two_ints hA λh' t ext up=>?_);by_cases hc:j<i
  ·refine aa (if_pos hc) ?_;refine aa (if_pos hc) ?_;exact ik K ext up (.int _ _)
  ·refine aa (if_neg hc) ?_;refine aa (if_neg hc) ?_;exact ik K ext up (.int _ _)
 ·exact λx y z xs ra=>ra.e3 λa b c r1 r2 r3=>r1.e_flt λt h1=>r2.e_flt λu h2=>r3.e_flt λv h3=>Tr hA K h1 h2 h3
theorem KE{as:List AV}{r:AV}{xs:List Value}(K:aW φ s)(e:xz as=some r)(ra:ar tk φ s.heap β P as xs):
 Zd (Zf af wd) A (call (.builtin "ord") xs) (aK tk φ s β P r) ax s :=
 KD (C:=λas r=>∀{xs:List Value},ar tk φ s.heap β P as xs->Zd (Zf af wd) A (call (.builtin "ord") xs) (aK tk φ s β P r) ax s) (λc xs ra=>ra.e1 λx r1=>r1.e_str λt=>PySem.P.ord_of_char (fA K)) e ra
theorem KV{i:Int}(h:0<=i/\i<=0x10FFFF):(decide (i<0)||decide (i>0x10FFFF))=false:=by
 rw[jeX,decide_eq_false_iff_not,decide_eq_false_iff_not];simp[*]
theorem Kg{as:List AV}{r:AV}{xs:List Value}(K:aW φ s)(e:xu as=some r)(ra:ar tk φ s.heap β P as xs):
 Zd (Zf af wd) A (call (.builtin "chr") xs) (aK tk φ s β P r) ax s :=
 Kf (C:=λas r=>∀{xs:List Value},ar tk φ s.heap β P as xs->Zd (Zf af wd) A (call (.builtin "chr") xs) (aK tk φ s β P r) ax s) (λi hc xs ra=>ra.e1 λx r1=>r1.e_int λt=>PySem.P.chr_of_int (KV hc) (nw (x:=[_]) K (Z2 _))) e ra
theorem Kq{as:List AV}{r:AV}{xs:List Value}(K:aW φ s)(e:rT as=some r)(ra:ar tk φ s.heap β P as xs):
 Zd (Zf af wd) A (call (.type "int") xs) (aK tk φ s β P r) ax s :=
 Kp (C:=λas r=>∀{xs:List Value},ar tk φ s.heap β P as xs->Zd (Zf af wd) A (call (.type "int") xs) (aK tk φ s β P r) ax s) (λy jT m ex hd xs ra=>ra.e1 λx r1=>r1.e_flt λt Y=>call_int_float hd (fA K)) e ra
theorem Kj{as:List AV}{r:AV}{xs:List Value}(K:aW φ s)(F:fD s P)(e:xw as=some r)(ra:ar tk φ s.heap β P as xs):
 Zd (Zf af wd) A (call (.builtin "divmod") xs) (aK tk φ s β P r) ax s :=
 Ki (C:=λas r=>∀{xs:List Value},ar tk φ s.heap β P as xs->Zd (Zf af wd) A (call (.builtin "divmod") xs) (aK tk φ s β P r) ax s) (λi j hc xs ra=>ra.e2 λx y r1 r3=>r1.e_int λt=>r3.e_int λu =>
  divmod_int (λq=>hc (.inl q)) ⟨φ,.same K bE.pushT (ZH s.toks 2),.tup (AC (xs:=[_,_]) _) (F _ (Y9 _)) (.cons (.int _ _) (.cons (.int _ _) .nil))⟩ (.inl (AD (HL hc)))) e ra
theorem Ks{as:List AV}{r:AV}{xs:List Value}(K:aW φ s)(e:uG as=some r)(ra:ar tk φ s.heap β P as xs):
 Zd (Zf af wd) A (call (.builtin "isinstance") (xs++[.type "bool"])) (aK tk φ s β P r) ax s :=
 Kr (C:=λas r=>∀{xs:List Value},ar tk φ s.heap β P as xs->Zd (Zf af wd) A (call (.builtin "isinstance") (xs++[.type "bool"])) (aK tk φ s β P r) ax s) (λi xs ra=>ra.e1 λx r1=>r1.e_int λt=>IsiPair.int_bool ⟨φ,.same K bE.tok (Z2 _),.bool _⟩) e ra
theorem Ku{as:List AV}{r:AV}{xs:List Value}(K:aW φ s)(e:uH as=some r)(ra:ar tk φ s.heap β P as xs):
 Zd (Zf af wd) A (call (.builtin "isinstance") (xs++[.type "int"])) (aK tk φ s β P r) ax s :=
 Kt (C:=λas r=>∀{xs:List Value},ar tk φ s.heap β P as xs->Zd (Zf af wd) A (call (.builtin "isinstance") (xs++[.type "int"])) (aK tk φ s β P r) ax s) (λi xs ra=>ra.e1 λx r1=>r1.e_int λt=>IsiPair.int_int (jm K)) e ra
theorem Ke{as:List AV}{r:AV}{xs:List Value}(K:aW φ s)(e:uE as=some r)(ra:ar tk φ s.heap β P as xs):
 Zd (Zf af wd) A (call (.builtin "int.bit_length") xs) (aK tk φ s β P r) ax s :=
 Ch (C:=λas r=>∀{xs:List Value},ar tk φ s.heap β P as xs->Zd (Zf af wd) A (call (.builtin "int.bit_length") xs) (aK tk φ s β P r) ax s) (λi xs ra=>ra.e1 λx r1=>r1.e_int λt=>call_int_bit_length (fA K)) e ra
theorem V0(K:aW φ s)(e:jay (bq x) (bq y) 0 (bq x).length 1=k::az):
 Zd (Zf af wd) A (call (.builtin "str.index") [.str ⟨x.toArray⟩ t,.str ⟨y.toArray⟩ u]) (aK tk φ s β P (.int k)) ax s :=
 call_gives jgM (jcZ _ _ _) PySem.F.entry_str_index (PySem.F.args_str_index_2 _ _) (gives_str_index (bq x) (bq y) t u k az e) (fA K)
theorem VZ(K:aW φ s):
 Zd (Zf af wd) A (call (.builtin "str.find") [.str ⟨x.toArray⟩ t,.str ⟨y.toArray⟩ u]) (aK tk φ s β P (.int (match jay (bq x) (bq y) 0 (bq x).length 1 with|k::_=>(k:Int) | []=>-1))) ax s :=
 call_gives jgZ (jcZ _ _ _) PySem.F.entry_str_find (PySem.F.args_str_find_2 _ _) (gives_str_find (bq x) (bq y) t u) (fA K)
theorem ee.countP(r:ee is xs):(xs.countP λy=>pq y==some i)=is.countP (·==i):=by
 induction r with
 |nil=>rfl
 |cons _ ih=>refine aa jex ?_;refine aa jex ?_;refine aa ih ?_;rfl
theorem Sy(K:aW φ s)(hl:s.heap.IsList l xs.toArray)(hi:ee is xs):
 Zd (Zf af wd) A (call (.builtin "list.count") [.ref l,.int i t]) (aK tk φ s β P (.int (is.countP (·==i)))) ax s:=by
 obtain⟨⟨cls,dd,data,sl⟩,ho,hc,n,hd⟩:=id hl;simp only at hc hd;subst hc hd;refine jdD jgx hl.typeIs PySem.F.entry_list_count (PySem.F.args_list_count_2 _ _) (list_countAt l xs.toArray n dd sl (.int i t) (λy=>pq y==some i)) ⟨ho,hi.at,?_⟩;have:=hi.countP (i:=i);refine aa jhO ?_;refine aa this ?_;exact fA K
theorem ee.get(r:ee is xs):∀{j:Nat} (hj:j<xs.length) (lZ:j<is.length),pq xs[j]=some is[j]:=by
 induction r with
 |nil=>exact λhj=>absurd hj (jeK _)
 |cons _ ih =>
  intro j hj lZ
  induction j using jaA with
  |zero=>rfl
  |succ j=>exact ih (jdd hj) (jdd lZ)
theorem Sz(K:aW φ s)(hl:s.heap.IsList l xs.toArray)(hi:ee is xs)(e:is.findIdx? (·==i)=some k)(hk:k<=100000):
 Zd (Zf af wd) A (call (.builtin "list.index") [.ref l,.int i t]) (aK tk φ s β P (.int k)) ax s:=by
 obtain⟨⟨cls,dd,data,sl⟩,ho,hc,n,hd⟩:=id hl;simp only at hc hd;subst hc hd;refine au (List.findIdx?_eq_some_iff_getElem.mp e) λh1 h2 h3=>?_;have aN:=hi.length;refine jdD jgw hl.typeIs PySem.F.entry_list_index (PySem.F.args_list_index_2 _ _)
  (list_indexAt l xs.toArray n dd sl (.int i t) (λy=>pq y==some i) k (by simp;lia) (re hk rfl) ?_ λm hm Qf=>?_) ⟨ho,hi.at,fA K⟩
 ·have:=hi.get (j:=k) (by lia) h1;simp only[jhC];refine aa this ?_;simpa using h2
 ·have jh:m<xs.length:=by simpa using hm
  have:=hi.get (j:=m) jh (by simp[*]);simp only[jhC];refine aa this ?_;have:=h3 m Qf;simpa using this
theorem V2{v:AV}{vs:List AV}{ss:List (List Nat)}{Q:Prop}(e:ip (v::vs)=some ss)(k:∀x qT,v=.str x->ip vs=some qT->x::qT=ss->Q):Q:=by
 induction v using AV.casesOn with
 |str x =>
  refine au (Zw.mp (show(ip vs).map (x::·)=some ss from e)) λqT h1 h2=>?_;exact k x qT rfl h1 h2
 |_=>exact ai e
theorem V3{vs:List AV}{xs:List Value}{ss:List (List Nat)}(e:ip vs=some ss)(r:ar tk φ h β P vs xs):∃l:List (Str×Tok),xs=strValues l/\l.map (·.1)=ss.map bq :=
 r.ind (motive:=λvs xs=>∀ss,ip vs=some ss->∃l:List (Str×Tok),xs=strValues l/\l.map (·.1)=ss.map bq) (λss e=>Y7 (show some []=some ss from e)▸⟨[],rfl,rfl⟩)
  (λra Y ih ss e=>V2 e λx qT e1 h1 e2=>by
   refine au (ih qT h1) λl e3 h2=>?_;refine(e1▸ra).e_str λt=>?_;refine rwj e2 ?_;refine aa e3 ?_;exact aO ((bq x,t)::l) rfl (congrArg (_::·) h2)) ss e
theorem yX(ss:List (List Nat)):jhd (bq []) (ss.map bq)=bq ss.flatten:=by
 have key:∀(l:List (List Nat)) (acc:Array Nat),(l.map bq).foldl (λacc p=>acc++(bq []).cps++p.cps) acc=acc++l.flatten.toArray:=by
  intro l
  induction l with
  |nil=>intro acc;simp
  |cons a l ih =>
   intro acc;refine aa ZG ?_;refine aa jcK ?_;refine aa (ih _) ?_;simp[bq]
 induction ss using Y6 with
 |nil=>rfl
 |cons a l =>
  unfold jhd;show(⟨((l.map bq)).foldl _ (bq a).cps⟩:Str)=_;refine aa (key _ _) ?_;apply jhK;simp[bq]
theorem Ea:∀(l:List Str) (n:Nat),l.foldl (λa y=>a+y.length+(bq []).length) n=n+(l.map (·.length)).sum
 | [],n=>by simp
 |a::l,n=>by
  refine aa jcK ?_;refine aa (Ea l _) ?_;refine aa ZG ?_;refine aa jap ?_;simp[bq,jbL];lia
theorem N6(ss:List (List Nat)):((ss.map bq).map (·.length)).sum=ss.flatten.length:=by
 induction ss with
 |nil=>rfl
 |cons a l ih=>rw[ZG,ZG,jap,ih,jiw,Ze];rfl
theorem R8(K:aW φ s)(h1:s.heap.IsList l us.toArray)(hs:ip vs=some ss)(aU:ss.flatten.length<=100000)(r5:ar tk φ s.heap β P vs us):
 Zd (Zf af wd) A (call (.builtin "str.join") [.str (bq []) t,.ref l]) (aK tk φ s β P (.str ss.flatten)) ax s:=by
 refine au (V3 hs r5) ?_;rintro ll rfl vE;clear hs r5;refine jdD jgY (jcZ _ _ _) PySem.F.entry_str_join (PySem.F.args_str_join_2 _ _) (meets_str_join_list (bq []) _ l ll ?_) ⟨h1,?_⟩
 ·rw[vE,List.foldl_toArray,Ea,N6];unfold jgC;have:=d9 aU;simpa using this
 ·delta joinMade
  have B9:(bq ss.flatten).length<=jcU:=by simpa [bq,jbL]using d9 aU
  induction ll using Y6 with
  |nil=>dsimp only;rw[vE,yX];exact⟨B9,nw K (Z2 _)⟩
  |cons p l =>
   induction l using Y6 with
   |nil =>
    have hp:ss.map bq=[p.1]:=vE.symm;have:bq ss.flatten=p.1:=by
     rw[<-yX,hp];rfl
    obtain⟨p1,p2⟩:=p;simp only at this;subst this;exact jV K (.str _ _)
   |cons q l=>dsimp only;rw[vE,yX];exact⟨B9,nw K (Z2 _)⟩
theorem Kv(K:aW φ s)(O:cr tk φ s.heap β P σ)(e:uI σ as=some r)(ra:ar tk φ s.heap β P as xs):
 Zd (Zf af wd) A (call (.builtin "str.join") xs) (aK tk φ s β P r) ax s :=
 Cm (C:=λas r=>∀{xs:List Value},ar tk φ s.heap β P as xs->Zd (Zf af wd) A (call (.builtin "str.join") xs) (aK tk φ s β P r) ax s) (λl vs ss hl hs aU xs ra=>ra.e2 λa b r1 r3=>r1.e_str λt=>by
  refine bS (fx O hl r3) ?_;rintro l us rfl h1 r5;exact R8 K h1 hs aU r5) e ra
theorem HZ:∀(l:List Str) (t:Tok),ar tk φ h β P (l.map λy=>.str y.cps.toList) (strsFrom t l)
 | [],_=>.nil
 |y::l,t=>.cons (.str _ _) (HZ l (t+1))
theorem KG(K:aW φ s)(F:fD s P)(e:rV as=some r)(ra:ar tk φ s.heap β P as xs):
 Zd (Zf af wd) A (call (.builtin "str.split") xs) (aK tk φ s β P r) ax s :=
 Cn (C:=λas r=>∀{xs:List Value},ar tk φ s.heap β P as xs->Zd (Zf af wd) A (call (.builtin "str.split") xs) (aK tk φ s β P r) ax s) (λx hc xs ra=>ra.e1 λa r1=>r1.e_str λt=>by
  refine jdD jgK (jcZ _ _ _) PySem.F.entry_str_split (PySem.F.args_str_split_1 _) (meets_str_split_space (bq x) _ (d9 hc.1) (d9 hc.2.1)) ?_;show if _ then _ else _
  rw[if_neg (by refine aa hc.2.2 ?_;exact Z5)];exact⟨φ,.same K bE.pushT (ZH _ _),.lst (oM _) (F _ (Y9 _)) (HZ _ _)⟩) e ra
theorem LU{s:Y8}{ks:List Int}(K:aW φ s)(hd:s.heap.DictOf (jat af wd) d (ks.zip ys))(hY:(d==jah)=false)(rs:ar tk φ s.heap β P vs ys)(rv:VR tk φ s.heap β P v x):Zd (Zf af wd) A (call (.builtin "dict.get") [.ref d,.int k t,x]) (aK tk φ s β P (match(ks.zip vs).lookup k with|some v=>v|none=>v)) ax s:=by
 refine jgn jcc hd.mapOf.typeIs jes (jgy _ _ _) (jii (jat af wd) d (jeo af wd k t) hY x) ⟨_,hd.mapOf,?_⟩;refine⟨φ,.same K bE.tok (Z2 _),?_⟩
 induction q:(ks.zip vs).lookup k using ae with
 |none=>refine aa (XX q rs) ?_;exact rv
 |some v' =>
  refine au (IP q rs) λz hz rz=>?_;refine aa hz ?_;exact rz
theorem WC(K:aW φ s)(I:bh G s.heap)(rv:VR G.tok φ s.heap β P v y):
 Zd (Zf af wd) A (call (.builtin "dict.get") [.ref G.tok,.str ⟨x.toArray⟩ t,y]) (aK G.tok φ s β P (match cA.lookup x with|some k=>.int k|none=>v)) ax s:=by
 refine fq I.tok λf hm h1 h2=>?_;refine jgn jcc hm.typeIs jes (jgy _ _ _) (jii (strKind af wd) G.tok (strKind_is af wd ⟨x.toArray⟩ t) I.tokMod y) ⟨_,hm,?_⟩;refine⟨φ,.same K bE.tok (Z2 _),?_⟩
 induction q:cA.lookup x using ae with
 |none=>refine aa (h2 ⟨x.toArray⟩ (show cA.lookup _=none from q)) ?_;exact rv
 |some k=>refine aX (h1 ⟨x.toArray⟩ k (show cA.lookup _=some k from q)) λt ht=>?_;refine aa ht ?_;exact .int _ _
section
theorem bz.notX(x:bz G h)(e:h.get? b=some o)(h0:o≠jdT #[])(h1:∀t c,o≠qj t c):¬G.X b:=by
 rintro⟨t,ht,rfl⟩;rcases x t ht with q|⟨c,q,_⟩
 ·rw[e]at q;exact h0 (Y7 q)
 ·rw[e]at q;exact h1 t c (Y7 q)
theorem bz.notX_data(x:bz G h)(e:h.get? b=some o)(hd:∀vs,o.data≠.fields vs):¬G.X b :=
 x.notX e (λq=>hd _ (by rw[q])) λt c q=>hd _ (by rw[q])
theorem bz.notX_ns(x:bz G h)(n:h.Ns a m):¬G.X a:=by
 refine kf n λo es ep ho hd Y=>?_;exact x.notX_data ho λvs q=>by rw[hd]at q;cases q
theorem bz.notX_cell(x:bz G h)(n:h.IsCell a v):¬G.X a:=by
 refine au n λo ho hd=>?_;exact x.notX_data ho λvs q=>by rw[hd]at q;cases q
theorem bz.notX_code(x:bz G h)(n:h.CodeRec (.ref c) q):¬G.X c:=by
 refine qb n λc' o vs t e ho hd hv=>?_;cases e;refine x.notX ho (λq=>?_) λt c q=>?_
 ·rw[q]at hd;cases hd;simp at hv
 ·rw[q]at hd;cases hd;simp[jem]at hv
theorem bz.lt(x:bz G h)(hb:G.X b):b<h.objs.size:=by
 refine au hb ?_;rintro t ht rfl;rcases x t ht with q|⟨c,q,_⟩
 ·exact Zz q
 ·exact Zz q
theorem bM.code(x:bz G h)(hc:bM G h c):∃q,h.CodeRec (.ref c) q:=by
 refine au hc λt ht e=>?_;rcases x t ht with q|⟨c',q,r⟩
 ·rw[e]at q;have:=congrArg (λo:Option Obj=>o.map (·.data)) q;simp at this
 ·rw[e]at q;have:c=c':=by
   have:=congrArg (λo:Option Obj=>o.map (·.data)) q;simpa using this
  subst this;exact⟨_,r⟩
theorem bM.lt(x:bz G h)(hc:bM G h c):c<h.objs.size:=by
 refine sq (bM.code x hc) λq c' o vs t e ho Y=>?_;cases e;exact Zz ho
theorem bz.noHas(x:bz G h)(e:h.get? a=some o)(hd:∀vs,o.data≠.fields vs):¬bM G h a:=λhc=>by
 refine DG (bM.code x hc) λq c' o' vs t e' ho lX Y=>?_;cases e';rw[e]at ho;cases ho;exact hd vs lX
theorem bz.butS{G:GD}{h h':jao}{X:Zi->Prop}(x:bz G h)(hk:∀b o,¬X b->h.get? b=some o->h'.get? b=some o)(hX:∀b,G.X b->¬X b)(hc:∀c,bM G h c->¬X c):bz G h'/\∀c,bM G h' c->bM G h c:=by
 have cV:∀t∈G.tabs,¬X t.2.1:=λt ht=>hX _ ⟨t,ht,rfl⟩;refine⟨λt ht=>?_,λc ⟨t,ht,e⟩=>⟨t,ht,?_⟩⟩
 ·rcases x t ht with q|⟨c,q,c',o,vs,tt,e',ho,r⟩
  ·exact .inl (hk _ _ (cV t ht) q)
  ·cases e';exact .inr ⟨c,hk _ _ (cV t ht) q,c,o,vs,tt,rfl,hk _ _ (hc c ⟨t,ht,q⟩) ho,r⟩
 ·rcases x t ht with q|⟨c',q,_⟩
  ·have:=hk _ _ (cV t ht) q;rw[e]at this;rw[q,<-this]
  ·have:=hk _ _ (cV t ht) q;rw[e]at this;rw[q,<-this]
theorem bz.but(x:bz G h)(hk:∀b o,b≠a->h.get? b=some o->h'.get? b=some o)(hX:¬G.X a)(hc:¬bM G h a):bz G h'/\∀c,bM G h' c->bM G h c :=
 x.butS (X:=(·=a)) (λb o hb e=>hk b o hb e) (λb hb q=>hX (q▸hb)) λc h q=>hc (q▸h)
theorem bh.keepsX(x:bh G h)(hk:∀b o,¬G.X b->h.get? b=some o->h'.get? b=some o)(ht:bz G h'):bh G h' where
 g:=x.g.at' λo e=>hk _ o (x.tabs.notX_ns x.g) e
 b:=x.b.at' λo e=>hk _ o (x.tabs.notX_ns x.b) e
 stat:=x.stat.at' λo e=>hk _ o (x.tabs.notX_ns x.stat) e
 tok:=by
  refine au x.tok λf z6 q=>?_;obtain⟨o,es,ep,ho,hx,hd,r⟩:=z6;exact aO f ⟨o,es,ep,hk _ o (x.tabs.notX_data ho λvs q=>by rw[hd]at q;cases q) ho,hx,hd,r⟩ q
 tokMod:=x.tokMod
 fns:=λk y fd e=>by
  obtain⟨a,o,h1,h2,h3,c,oc,vs,t,e1,e2,e3,e4⟩:=x.fns k y fd e;refine⟨a,o,h1,hk _ o (x.tabs.notX_data h2 λvs q=>by rw[h3]at q;cases q) h2,h3,c,oc,vs,t,e1,hk _ _ (x.tabs.notX_code (q:=fd.qualname) ⟨c,oc,vs,t,rfl,e2,e3,e4⟩) e2,e3,e4⟩
 heads:=λt eT=>by
  obtain⟨o,vs,sy,tf,flags,tg,td,dO,tt,e,hc,r⟩:=x.heads t eT;exact⟨o,vs,sy,tf,flags,tg,td,dO,tt,hk _ o (x.tabs.notX e (λq=>by rw[q]at hc;cases hc) λt c q=>by rw[q]at hc;cases hc) e,hc,r⟩
 tabs:=ht
 bmain:=by
  refine qa x.bmain λbm ob h1 h2 h3 h4 h5 h6=>?_;exact F4 bm ob h1 h2 (hk _ _ (x.tabs.notX_data h3 λvs q=>by rw[h6]at q;cases q) h3) h4 h5 h6
 b1:=by
  obtain⟨a,n,h1,o,es,ep,t,ho,hx,hd,r⟩:=x.b1;exact⟨a,n,h1,o,es,ep,t,hk _ _ (x.tabs.notX_data ho λvs q=>by rw[hd]at q;cases q) ho,hx,hd,r⟩
 b3:=by
  refine n6 x.b3 λa f h1 h2 z5 q=>?_;obtain⟨o,es,ep,ho,hx,hd,r⟩:=z5;exact vU a f h1 h2 ⟨o,es,ep,hk _ _ (x.tabs.notX_data ho λvs q=>by rw[hd]at q;cases q) ho,hx,hd,r⟩ q
end
structure I0(G:GD) (s s':Y8):Prop where
 keeps:∃h t,s'={s with heap:=h,toks:=t}/\∀b o,¬G.X b->s.heap.get? b=some o->h.get? b=some o
 size:s.heap.objs.size<=s'.heap.objs.size
structure GX(G:GD) (s:Y8) (φ:Gh) (s':Y8) (am:Gh):Prop where
 grows:I0 G s s'
 sub:∀t x,φ t x->am t x
 tk:aW am s'
 tabs:bz G s.heap->bz G s'.heap/\∀c,bM G s'.heap c->bM G s.heap c\/s.heap.objs.size<=c
section
theorem GX.ext(x:GX G s φ s' am):∀b o,¬G.X b->s.heap.get? b=some o->s'.heap.get? b=some o:=by
 refine bA x.grows.keeps ?_;rintro h t rfl k;exact k
theorem Wo{s s':Y8}(hx:ce s.heap s'.heap)(x:bz G s.heap):bz G s'.heap/\∀c,bM G s'.heap c->bM G s.heap c\/s.heap.objs.size<=c:=by
 refine⟨x.keeps hx,λc ⟨t,ht,e⟩=>.inl ⟨t,ht,?_⟩⟩;rcases x t ht with q|⟨c',q,_⟩
 ·have:=hx _ _ q;rw[e]at this;rw[q,<-this]
 ·have:=hx _ _ q;rw[e]at this;rw[q,<-this]
theorem iW(hx:ce h h')(x:bz G h):∀c,bM G h' c->bM G h c:=λc ⟨t,ht,e⟩=>⟨t,ht,by
 rcases x t ht with q|⟨c',q,_⟩
 ·have:=hx _ _ q;rw[e]at this;rw[q,<-this]
 ·have:=hx _ _ q;rw[e]at this;rw[q,<-this]⟩
theorem Go.x(k:Go s φ s' am):GX G s φ s' am where
 grows:=⟨let⟨h,t,e,k⟩:=k.grows.keeps;⟨h,t,e,λb o Y e=>k b o e⟩,k.grows.size⟩
 sub:=k.sub
 tk:=k.tk
 tabs:=Wo k.ext
theorem GX.trans(x:GX G s φ s' am)(y:GX G s' am cO kE):GX G s φ cO kE where
 grows:=⟨by
  refine bA x.grows.keeps ?_;rintro h t rfl k;refine bA y.grows.keeps ?_;rintro h' t' rfl k';exact cZ h' t' rfl (λb o hb e=>k' b o hb (k b o hb e)),Y5 x.grows.size y.grows.size⟩
 sub:=λt z e=>y.sub t z (x.sub t z e)
 tk:=y.tk
 tabs:=λh=>by
  refine bN (x.tabs h) λh1 h2=>?_;refine bN (y.tabs h1) λh3 h4=>?_;exact⟨h3,λc hc=>(h4 c hc).elim (h2 c) λq=>.inr (Y5 x.grows.size q)⟩
theorem GX.refl(k:aW φ s):GX G s φ s φ:=(Go.refl k).x
theorem GX.same(k:aW φ s)(g:bE s s')(ht:s.toks<=s'.toks):GX G s φ s' φ:=(Go.same k g ht).x
theorem GX.then_but(k:GX G s φ s' am)(ht:bz G s.heap)(ha:s.heap.objs.size<=a)(hk:∀b o,b≠a->s'.heap.get? b=some o->h'.get? b=some o)(hc:¬bM G s'.heap a)(hX:¬G.X a)(hz:s'.heap.objs.size<=h'.objs.size)(jj:s'.toks<=t):GX G s φ {s' with heap:=h',toks:=t} am where
 grows:=⟨by
  refine bA k.grows.keeps ?_;rintro hh tt rfl kk;exact cZ h' t rfl (λb o hb e=>hk b o (λq=>Zv _ (bf (q▸Zz e:a<s.heap.objs.size) ha)) (kk b o hb e)),Y5 k.grows.size hz⟩
 sub:=k.sub
 tk:=⟨k.tk.fn,k.tk.pos,λt' x e=>bf (k.tk.lt t' x e) jj,bf k.tk.one jj⟩
 tabs:=λh=>by
  refine bN (k.tabs h) λh1 h2=>?_;refine bN (h1.but hk hX hc) λh3 h4=>?_;exact⟨h3,λc q=>h2 c (h4 c q)⟩
def eY(G:GD)(a:Zi):Prop:=(a==jah)=false/\¬G.X a
def I2(ab:Env)(β:List Zi)(a:Zi):Prop:=a∈β\/a=ab.locals\/∃x,ab.cells.lookup x=some a
def kJ(G:GD)(s:Y8)(P:Zi->Prop):Prop:=∀a,(s.heap.objs.size<=a\/bM G s.heap a)->P a
theorem kJ.f(F:kJ G s P):fD s P:=λa h=>F a (.inl h)
theorem kJ.go(F:kJ G s P)(k:GX G s φ s' am)(ht:bz G s.heap):kJ G s' P:=λa h=>h.elim (λh=>F a (.inl (Y5 k.grows.size h))) λh=>((k.tabs ht).2 a h).elim (λq=>F a (.inr q)) λq=>F a (.inl q)
structure ER(G:GD) (φ:Gh) (ab:Env) (T:Tb) (ρ:aB) (σ:aA) (β:List Zi) (P:Zi->Prop) (m:Str->Option Value) (s:Y8):Prop where
 ns:s.heap.Ns ab.locals m
 len:ρ.length=T.next
 names:∀(x:Str) (i:Nat) (v:AV),T.var x=some i->ρ[i]?=some (some v)->∃v',VR G.tok φ s.heap β P v v'/\nJ ab m s.heap x v'
 celled:∀x,T.celled x=true->∃c dk,ab.cells.lookup x=some c/\s.heap.IsCell c dk
 objs:∀(i:Nat) (o:AO),σ[i]?=some o->o≠AO.gone->∃a,β[i]?=some a/\OR G.tok φ s.heap β P o a
 freshX:kJ G s P
 psafe:∀a,P a->eY G a
 bsafe:∀a,I2 ab β a->eY G a
 blt:∀a,a∈β->a<s.heap.objs.size
 tk:aW φ s
theorem ER.fresh(R:ER G φ ab T ρ σ β P m s):fD s P:=R.freshX.f
theorem ER.psys(R:ER G φ ab T ρ σ β P m s):∀a,P a->(a==jah)=false:=λa p=>(R.psafe a p).1
theorem ER.keepP(R:ER G φ ab T ρ σ β P m s)(k:GX G s φ s' am):∀a o,P a->s.heap.get? a=some o->s'.heap.get? a=some o/\P a:=λa o p e=>⟨k.ext a o (R.psafe a p).2 e,p⟩
theorem ER.vr(R:ER G φ ab T ρ σ β P m s)(k:GX G s φ s' am)(r:VR G.tok φ s.heap β P v x):VR G.tok am s'.heap β P v x:=r.mono k.sub (R.keepP k) (Zn _)
theorem ER.vrs(R:ER G φ ab T ρ σ β P m s)(k:GX G s φ s' am)(r:ar G.tok φ s.heap β P v x):ar G.tok am s'.heap β P v x:=r.mono k.sub (R.keepP k) (Zn _)
theorem OR.at(kq:∀t x,φ t x->am t x)(hk:∀a o,P a->h.get? a=some o->h'.get? a=some o/\P a)(ha:∀o,h.get? a=some o->h'.get? a=some o)(r:OR tk φ h β P o a):OR tk am h' β P o a:=by
 cases r with
 |list e r=>exact .list (e.at ha) (r.mono kq hk (Zn _))
 |dict e hl r=>exact .dict (DictOf.at e ha) hl (r.mono kq hk (Zn _))
theorem ER.go(R:ER G φ ab T ρ σ β P m s)(k:GX G s φ s' am)(ht:bz G s.heap):ER G am ab T ρ σ β P m s' where
 ns:=R.ns.at' λo e=>k.ext _ o (R.bsafe _ (.inr (.inl rfl))).2 e
 len:=R.len
 names:=λx i v h1 h2=>by
  refine au (R.names x i v h1 h2) λv' a b=>?_;refine aO v' (R.vr k a) ?_;rcases b with b|⟨c,b1,b2,o,ho,hd⟩
  ·exact .inl b
  ·exact .inr ⟨c,b1,b2,o,k.ext c o (R.bsafe c (.inr (.inr ⟨x,b1⟩))).2 ho,hd⟩
 celled:=λx h=>by
  obtain⟨c,v,a,o,ho,hd⟩:=R.celled x h;exact⟨c,v,a,o,k.ext c o (R.bsafe c (.inr (.inr ⟨x,a⟩))).2 ho,hd⟩
 objs:=λi o h1 h2=>let⟨a,h3,h4⟩:=R.objs i o h1 h2;⟨a,h3,h4.at k.sub (R.keepP k) λo e=>k.ext a o (R.bsafe a (.inl (ZK h3))).2 e⟩
 freshX:=R.freshX.go k ht
 psafe:=R.psafe
 bsafe:=R.bsafe
 blt:=λa h=>bf (R.blt a h) k.grows.size
 tk:=k.tk
def lJ(G:GD)(φ:Gh)(s:Y8)(β:List Zi)(P:Zi->Prop)(r:AV):Value->Y8->Prop :=
 λv' s'=>∃am,GX G s φ s' am/\VR G.tok am s'.heap β P r v'
def Jb(G:GD)(φ:Gh)(s:Y8)(β:List Zi)(P:Zi->Prop)(r:List AV):List Value->Y8->Prop :=
 λv' s'=>∃am,GX G s φ s' am/\ar G.tok am s'.heap β P r v'
theorem aK.x(h:aK G.tok φ s β P r v' s'):lJ G φ s β P r v' s':=let⟨am,k,q⟩:=h;⟨am,k.x,q⟩
def ES(G:GD)(A:ZZ)(ab:Env)(T:Tb)(ρ:aB)(σ:aA)(t:Sem Value)(v:AV):Prop :=
 ∀s φ β P m,bh G s.heap->ER G φ ab T ρ σ β P m s->Zd (Zf af wd) A t (lJ G φ s β P v) ax s
end
section
theorem xZ(hE:bQ ab T)(hx:T.var x=some i)(hv:ρ[i]?=some (some v)):ES G A ab T ρ σ (jae (.Name x pos) ab) v:=by
 intro s φ β P m I R;refine au (R.names x i v hx hv) λv' r n=>?_;have hd:=Ho hx;refine wpAny_Name ?_ hd.1;rcases n with⟨k,e⟩|⟨c,e,k,i⟩
 ·exact jiR hE.kind k R.ns e ⟨φ,.refl R.tk,r⟩
 ·rcases k with k|k
  ·exact jfI hE.kind k e i ⟨φ,.refl R.tk,r⟩
  ·exact jfH hE.kind k e i ⟨φ,.refl R.tk,r⟩ hd.2
end
section
def gS(G:GD)(A:ZZ)(ab:Env)(T:Tb)(ρ:aB)(σ:aA)(t:Sem (List Value))(v:List AV):Prop :=
 ∀s φ β P m,bh G s.heap->ER G φ ab T ρ σ β P m s->Zd (Zf af wd) A t (Jb G φ s β P v) ax s
def TS(G:GD)(A:ZZ)(ab:Env)(T:Tb)(ρ:aB)(σ:aA)(t:Sem Bool)(b:Bool):Prop :=
 ∀s φ β P m,bh G s.heap->ER G φ ab T ρ σ β P m s->Zd (Zf af wd) A t (λc s'=>c=b/\∃am,GX G s φ s' am) ax s
theorem bh.go(I:bh G s.heap)(k:GX G s φ s' am):bh G s'.heap:=I.keepsX k.ext (k.tabs I.tabs).1
theorem ES.post(h:ES G A ab T ρ σ t v)(I:bh G s.heap)(R:ER G φ ab T ρ σ β P m s)(hQ:∀x s' am,GX G s φ s' am->bh G s'.heap->ER G am ab T ρ σ β P m s'->VR G.tok am s'.heap β P v x->Q x s'):
 Zd (Zf af wd) A t Q E s :=
 up (h s φ β P m I R) λx s' ⟨am,k,r⟩=>hQ x s' am k (I.go k) (R.go k I.tabs) r
theorem gS.post(h:gS G A ab T ρ σ t v)(I:bh G s.heap)(R:ER G φ ab T ρ σ β P m s)(hQ:∀x s' am,GX G s φ s' am->bh G s'.heap->ER G am ab T ρ σ β P m s'->ar G.tok am s'.heap β P v x->Q x s'):
 Zd (Zf af wd) A t Q E s :=
 up (h s φ β P m I R) λx s' ⟨am,k,r⟩=>hQ x s' am k (I.go k) (R.go k I.tabs) r
theorem TS.post(h:TS G A ab T ρ σ t b)(I:bh G s.heap)(R:ER G φ ab T ρ σ β P m s)(hQ:∀s' am,GX G s φ s' am->bh G s'.heap->ER G am ab T ρ σ β P m s'->Q b s'):Zd (Zf af wd) A t Q E s :=
 up (h s φ β P m I R) λx s' ⟨e,am,k⟩=>by subst e;exact hQ s' am k (I.go k) (R.go k I.tabs)
theorem lE(k:GX G s φ s' am)(h:Zd (Zf af wd) A t (lJ G am s' β P r) ax s'):Zd (Zf af wd) A t (lJ G φ s β P r) ax s' :=
 up h λx cO ⟨kE,k',q⟩=>⟨kE,k.trans k',q⟩
theorem qZ(k:GX G s φ s' am)(h:Zd (Zf af wd) A t (aK G.tok am s' β P r) ax s'):Zd (Zf af wd) A t (lJ G φ s β P r) ax s' :=
 lE k (up h λx cO q=>q.x)
theorem MA(e:xM c=some v):ES G A ab T ρ σ (jae (.Constant c k pos) ab) v:=by
 intro s φ β P m I R;revert e
 induction c using Const.casesOn with
 |none=>exact λe=>Y7 e▸Constant_none (jV R.tk .none).x
 |bool b=>exact λe=>Y7 e▸Constant_bool (jV R.tk (.bool _)).x
 |int i=>exact λe=>Y7 e▸wpAny_Constant_int (fA R.tk).x
 |float x=>exact λe=>Y7 e▸PySem.wpAny_Constant_float (mf R.tk).x
 |str x =>
  refine λe=>Y7 e▸wpAny_Constant_str ?_;have:=nw (tk:=G.tok) (β:=β) (P:=P) (x:=x.cps.toList) (t:=s.toks) R.tk (Z2 s.toks);have e:(⟨x.cps.toList.toArray⟩:Str)=x:=by apply jhK;simp
  rw[e]at this;exact this.x
 |_=>exact λe=>ai e
theorem Mt(hA:A.handled=none)(ha:ES G A ab T ρ σ (jae a ab) x)(hb:ES G A ab T ρ σ (jae b ab) y)(e:dE σ op x y=some r):
 ES G A ab T ρ σ (jae (.BinOp a op b pos) ab) r:=λs φ β P m I R =>
 jcV (ha.post I R λx' ak ay aw bd aI aF=>hb.post bd aI λy' aC aV aP dJ bW bH =>
  qZ (aw.trans aP) (JV hA bW.tk bW.objs bW.fresh e (aI.vr aP aF) bH))
theorem MK(ha:ES G A ab T ρ σ (jae a ab) x)(e:qX op x=some r):
 ES G A ab T ρ σ (jae (.UnaryOp op a pos) ab) r:=λs φ β P m I R =>
 UnaryOp_ (ha.post I R λx' ak ay aw bd aI aF=>qZ aw (Xp aI.tk e aF))
theorem My(hu:A.units<jhp)(hm:jeC op b=false)(ha:ES G A ab T ρ σ (jae a ab) x)(hb:ES G A ab T ρ σ (jae b ab) y)(e:j5 σ op x y=some r):ES G A ab T ρ σ (jae (.Compare a [op] [b] pos) ab) (.bool r):=λs φ β P m I R =>
 jhs (ha.post I R λx' ak ay aw bd aI aF=>hb.post bd aI λy' aC aV aP dJ bW bH =>
  qZ (aw.trans aP) (Cv bW.tk dJ bW.objs hu e (aI.vr aP aF) bH)) hm
theorem Xc(hu:A.units<jhp)(hm:jeC op b=false)(ha:ES G A ab T ρ σ (jae a ab) x)(hb:ES G A ab T ρ σ (jae b ab) y)(e:j5 σ op x y=some r):TS G A ab T ρ σ (jby (.Compare a [op] [b] pos) ab whole) r:=λs φ β P m I R =>
 jga (ha.post I R λx' ak ay aw bd aI aF=>hb.post bd aI λy' aC aV aP dJ bW bH =>
  up (Cv bW.tk dJ bW.objs hu e (aI.vr aP aF) bH) λv dj ⟨eU,cn,jn⟩=>by
   cases jn;exact jaN ⟨rfl,eU,(aw.trans aP).trans cn.x⟩) hm
theorem Xd(ha:TS G A ab T ρ σ (jby a ab (jae a ab)) b):TS G A ab T ρ σ (jby (.UnaryOp .Not a pos) ab whole) (!b):=λs φ β P m I R =>
 isTrue_not (ha.post I R λs' am k Y Y=>⟨rfl,am,k⟩)
theorem Iq(he:jby e ab whole=(do let v <-whole;jfx e.pos;jfA [v] (truthy v)))(ha:ES G A ab T ρ σ whole (.bool b)):
 TS G A ab T ρ σ (jby e ab whole) b:=λs φ β P m I R =>
 isTrue_plain (ha.post I R λx s' am k Y Y r=>by cases r;exact jaN ⟨rfl,am,k⟩) he
theorem C5(hc:TS G A ab T ρ σ (jby c ab (jae c ab)) t)(ha:t=true->ES G A ab T ρ σ (jae a ab) v)(hb:t=false->ES G A ab T ρ σ (jae b ab) v):
 ES G A ab T ρ σ (jae (.IfExp c a b pos) ab) v:=λs φ β P m I R =>
 IfExp_ (hc.post I R λak ay aw bd aI=>by
  induction t using ZL with
  |true=>exact lE aw (ha rfl ak ay β P m bd aI)
  |false=>exact lE aw (hb rfl ak ay β P m bd aI))
theorem Io(hc:TS G A ab T ρ σ (jby c ab (jae c ab)) t)(ha:t=true->TS G A ab T ρ σ (jby a ab (jae a ab)) r)(hb:t=false->TS G A ab T ρ σ (jby b ab (jae b ab)) r):TS G A ab T ρ σ (jby (.IfExp c a b pos) ab whole) r:=λs φ β P m I R =>
 isTrue_IfExp (hc.post I R λak ay aw bd aI=>by
  induction t using ZL with
  |true=>exact(ha rfl).post bd aI λaC aV aP Y Y=>⟨rfl,aV,aw.trans aP⟩
  |false=>exact(hb rfl).post bd aI λaC aV aP Y Y=>⟨rfl,aV,aw.trans aP⟩)
theorem Xb:TS G A ab T ρ σ (jby (.BoolOp .And [] pos) ab whole) true:=λs φ β P m I R=>isTrue_and_nil ⟨rfl,φ,.refl R.tk⟩
theorem Im(hc:TS G A ab T ρ σ (jby a ab (jae a ab)) t)(hf:t=false->r=false)(ha:t=true->TS G A ab T ρ σ (jby (.BoolOp .And az pos) ab whole) r):TS G A ab T ρ σ (jby (.BoolOp .And (a::az) pos) ab whole) r:=λs φ β P m I R =>
 isTrue_and (hc.post I R λak ay aw bd aI=>by
  induction t using ZL with
  |true=>exact(ha rfl).post bd aI λaC aV aP Y Y=>⟨rfl,aV,aw.trans aP⟩
  |false=>exact⟨(hf rfl).symm,ay,aw⟩)
theorem Xe:TS G A ab T ρ σ (jby (.BoolOp .Or [] pos) ab whole) false:=λs φ β P m I R=>isTrue_or_nil ⟨rfl,φ,.refl R.tk⟩
theorem Ip(hc:TS G A ab T ρ σ (jby a ab (jae a ab)) t)(hf:t=true->r=true)(ha:t=false->TS G A ab T ρ σ (jby (.BoolOp .Or az pos) ab whole) r):TS G A ab T ρ σ (jby (.BoolOp .Or (a::az) pos) ab whole) r:=λs φ β P m I R =>
 isTrue_or (hc.post I R λak ay aw bd aI=>by
  induction t using ZL with
  |false=>exact(ha rfl).post bd aI λaC aV aP Y Y=>⟨rfl,aV,aw.trans aP⟩
  |true=>exact⟨(hf rfl).symm,ay,aw⟩)
theorem C3(hc:ES G A ab T ρ σ (jae a ab) (.bool t))(hf:t=false->r=false)(ha:t=true->ES G A ab T ρ σ (jae (.BoolOp .And (b::az) pos) ab) (.bool r)):ES G A ab T ρ σ (jae (.BoolOp .And (a::b::az) pos) ab) (.bool r):=λs φ β P m I R =>
 BoolOp_and (hc.post I R λx ak ay aw bd aI aF=>by
  cases aF;refine jaN ?_
  induction t using ZL with
  |true=>exact lE aw (ha rfl ak ay β P m bd aI)
  |false=>refine aa (hf rfl) ?_;exact⟨ay,aw,.bool _⟩)
theorem C7(hc:ES G A ab T ρ σ (jae a ab) (.bool t))(hf:t=true->r=true)(ha:t=false->ES G A ab T ρ σ (jae (.BoolOp .Or (b::az) pos) ab) (.bool r)):ES G A ab T ρ σ (jae (.BoolOp .Or (a::b::az) pos) ab) (.bool r):=λs φ β P m I R =>
 BoolOp_or (hc.post I R λx ak ay aw bd aI aF=>by
  cases aF;refine jaN ?_
  induction t using ZL with
  |false=>exact lE aw (ha rfl ak ay β P m bd aI)
  |true=>refine aa (hf rfl) ?_;exact⟨ay,aw,.bool _⟩)
theorem MN:gS G A ab T ρ σ (jcp (jcr pos (jaw [] ab))) []:=λs φ β P m I R=>jdq ⟨φ,.refl R.tk,.nil⟩
theorem MM(he:jaw (e::az) ab=(false,jae e ab)::jaw az ab)(h:ES G A ab T ρ σ (jae e ab) v)(hr:gS G A ab T ρ σ (jcp (jcr pos (jaw az ab))) vs):gS G A ab T ρ σ (jcp (jcr pos (jaw (e::az) ab))) (v::vs):=λs φ β P m I R =>
 jcI (h.post I R λx ak ay aw bd aI aF=>hr.post bd aI λys aC aV aP dJ bW bH=>⟨aV,aw.trans aP,.cons (aI.vr aP aF) bH⟩) he
theorem ME(hs:vs.length<=100000)(h:∀pos,gS G A ab T ρ σ (jcp (jcr pos (jaw elts ab))) vs):ES G A ab T ρ σ (jae (.List elts pos) ab) (.lst vs):=λs φ β P m I R =>
 jdf ((h pos).post I R λxs ak ay aw bd aI aF=>⟨d9 (by rw[<-aF.length];exact hs),by
  refine au (AZ (s:=ak) aI.tk aI.fresh aF) λam k r=>?_;exact⟨am,aw.trans k.x,r⟩⟩)
theorem MJ(hs:vs.length<=100000)(h:∀pos,gS G A ab T ρ σ (jcp (jcr pos (jaw elts ab))) vs):ES G A ab T ρ σ (jae (.Tuple elts n pos) ab) (.tup vs):=λs φ β P m I R =>
 jia ((h pos).post I R λxs ak ay aw bd aI aF=>⟨d9 (by rw[<-aF.length];exact hs),by
  refine au (HC (s:=ak) aI.tk aI.fresh aF) λam k r=>?_;exact⟨am,aw.trans k.x,r⟩⟩)
theorem MD(ha:ES G A ab T ρ σ (jae a ab) x)(hb:ES G A ab T ρ σ (jae i ab) y)(e:na σ x y=some r):
 ES G A ab T ρ σ (jae (.Subscript a i pos) ab) r:=λs φ β P m I R =>
 jfJ (ha.post I R λx' ak ay aw bd aI aF=>hb.post bd aI λy' aC aV aP dJ bW bH =>
  qZ (aw.trans aP) (Rv bW.tk bW.objs e (aI.vr aP aF) bH))
def PS(G:GD)(A:ZZ)(ab:Env)(T:Tb)(ρ:aB)(σ:aA)(t:Sem Value)(v:Option Int):Prop :=
 ∀s φ β P m,bh G s.heap->ER G φ ab T ρ σ β P m s->Zd (Zf af wd) A t (λx s'=>(∃o:Option (Int×Tok),x=jbj o/\o.map (·.1)=v)/\∃am,GX G s φ s' am) ax s
theorem PS.post(h:PS G A ab T ρ σ t v)(I:bh G s.heap)(R:ER G φ ab T ρ σ β P m s)(hQ:∀o s' am,o.map (·.1)=v->GX G s φ s' am->bh G s'.heap->ER G am ab T ρ σ β P m s'->Q (jbj o) s'):Zd (Zf af wd) A t Q E s :=
 up (h s φ β P m I R) λx s' ⟨⟨o,e,e'⟩,am,k⟩=>by subst e;exact hQ o s' am e' k (I.go k) (R.go k I.tabs)
theorem UK:PS G A ab T ρ σ (jho none ab) none:=λs φ β P m I R=>ZC ⟨⟨none,rfl,rfl⟩,φ,.refl R.tk⟩
theorem UL(h:ES G A ab T ρ σ (jae e ab) (.int i)):PS G A ab T ρ σ (jho (some e) ab) (some i):=λs φ β P m I R =>
 h.post I R λx ak ay aw bd aI aF=>by cases aF;exact⟨⟨some (_,_),rfl,rfl⟩,ay,aw⟩
theorem MI{a:Expr}{lo hi:Option Expr}{p pos:Pos}{x r:AV}{l u:Option Int}(ha:ES G A ab T ρ σ (jae a ab) x)(hl:PS G A ab T ρ σ (jho lo ab) l)(hu:PS G A ab T ρ σ (jho hi ab) u)(e:qS σ x l u=some r):ES G A ab T ρ σ (jae (.Subscript a (.Slice lo hi none p) pos) ab) r:=λs φ β P m I R =>
 jfJ (ha.post I R λx' ak ay aw bd aI aF=>wpAny_Slice (hl.post bd aI λUj aC aV mR aP dJ bW=>hu.post dJ bW λHe dj eU mS cn rq i3=>by
  refine aa (evalPart_none _) ?_;refine ZC ?_;subst mR mS;have r':=bW.vr cn (aI.vr aP aF);have k:GX G s φ {dj with heap:=dj.heap.push (kB (jbj Uj) (jbj He))} eU:=((aw.trans aP).trans cn).trans (.same cn.tk bE.push (Y9 _));exact up (Vx i3.tk i3.objs i3.fresh e r') λv s' ⟨am,k',q⟩=>⟨am,((aw.trans aP).trans cn).trans k'.x,q⟩))
end
def f9:Expr->Bool
 | .Starred ..=>false
 |_=>true
theorem iV(h:f9 e=true):jaw (e::az) ab=(false,jae e ab)::jaw az ab:=by
 cases e<;>first|rfl|cases h
theorem qU:∀{as:List Expr},as.all f9=true->(jcr pos (jaw as ab)).any (·.1)=false
 | [],_=>rfl
 |e::as,h=>by
  rw[jcl,ZA]at h;refine aa (iV h.1) ?_;show(false||(jcr pos (jaw as ab)).any (·.1))=false;refine aa (qU h.2) ?_;rfl
theorem Bb:∀{as:List Expr},as.all f9=true->(jcr pos (jaw as ab)).all (λx=>!x.1)=true
 | [],_=>rfl
 |e::as,h=>by
  rw[jcl,ZA]at h;refine aa (iV h.1) ?_;show(true&&(jcr pos (jaw as ab)).all (λx=>!x.1))=true;refine aa (Bb h.2) ?_;rfl
section
theorem VR.scalar(hs:v.scalar=true)(r:VR tk φ h β P v x)(kq:∀t y,φ t y->am t y):VR tk am h' aH P' v x:=by
 cases r with
 |none=>exact .none
 |bool b=>exact .bool b
 |int i t=>exact .int i t
 |flt y t ht=>exact .flt y t (kq _ _ ht)
 |str y t=>exact .str y t
 |_=>cases hs
def mw(G:GD)(x:Str)(v:Value):Prop:=G.mg x=some v\/(G.mg x=none/\G.mb x=some v)
theorem OV(h:T.isGlobal x=true)(hE:bQ ab T):ab.kindOf x=some .globalImplicit/\(x==("__debug__":Str))=false:=by
 unfold Tb.isGlobal at h;rw[ZA]at h;exact⟨hE.glob x (eq_of_beq h.1),(Hp h.2).1⟩
theorem jS(hE:bQ ab T)(h:T.isGlobal x=true)(hl:mw G x v)(I:bh G s.heap)(hq:Q v s):
 Zd (Zf af wd) A (jae (.Name x pos) ab) Q E s:=by
 refine bN (OV h hE) λh1 h2=>?_;refine PySem.Calls.Name_function_global hE.kind h1 ?_ h2;have hg:=I.g;have hb:=I.b;rw[<-hE.g]at hg;rw[<-hE.b]at hb;rcases hl with hl|hl
 ·exact jfi hg hl hq
 ·exact jfa hg hl.1 hb hl.2 hq
theorem MC(hE:bQ ab T)(hG:dD G)(h:T.isGlobal x=true)(hl:sH.lookup x=some g):ES G A ab T ρ σ (jae (.Name x pos) ab) (sG g):=by
 intro s φ β P m I R;obtain⟨v,h1,h2⟩:∃v,mw G x v/\VR G.tok φ s.heap β P (sG g) v:=aS (C:=λe=>∃v,mw G e.1 v/\VR G.tok φ s.heap β P (sG e.2) v) (hG.divLimit.elim λt ht=>aO _ (.inl ht) (.int _ _))
  (aS (hG.ntOffset.elim λt ht=>aO _ (.inl ht) (.int _ _)) (aS (hG.endMarker.elim λt ht=>aO _ (.inl ht) (.int _ _)) (aS ⟨_,.inl hG.tok,.tok⟩ jA))) (x,g) (mem_of_lookup hl)
 exact jS hE h h1 I ⟨φ,.refl R.tk,h2⟩
def BR(G:GD)(A:ZZ)(σ:aA)(f:Value)(vs:List AV)(r:AV):Prop :=
 ∀s φ β P xs,bh G s.heap->aW φ s->cr G.tok φ s.heap β P σ->kJ G s P->(∀a,P a->eY G a)->(∀a,a∈β->eY G a)->ar G.tok φ s.heap β P vs xs ->
  Zd (Zf af wd) A (call f xs) (lJ G φ s β P r) ax s
theorem BR.on(h:BR G A σ f vs r)(I:bh G s.heap)(R:ER G φ ab T ρ σ β P m s)(r':ar G.tok φ s.heap β P vs xs):
 Zd (Zf af wd) A (call f xs) (lJ G φ s β P r) ax s:=h s φ β P xs I R.tk R.objs R.freshX R.psafe (λa h=>R.bsafe a (.inl h)) r'
theorem Mu{T:Tb}{x:Str}{p pos:Pos}{e:Expr}{az:List Expr}{id:String}{vs:List AV}{r:AV}(hE:bQ ab T)(hx:T.isGlobal x=true)(hl:mw G x (.builtin id))(hs:(e::az).all f9=true)(ha:gS G A ab T ρ σ (jcp (jcr pos (jaw (e::az) ab))) vs)(hb:BR G A σ (.builtin id) vs r):ES G A ab T ρ σ (jae (.Call (.Name x p) (e::az) [] pos) ab) r:=λs φ β P m I R =>
 jaL (jS hE hx hl I (by
  rw[jcl,ZA]at hs;exact jeS (ha.post I R λxs ak ay aw bd aI aF=>lE aw (hb.on bd aI aF)) (iV hs.1) (qU hs.2)))
theorem Mw{T:Tb}{x:Str}{p pos:Pos}{e:Expr}{az:List Expr}{id:String}{vs:List AV}{r:AV}(hE:bQ ab T)(hx:T.isGlobal x=true)(hl:mw G x (.type id))(hs:(e::az).all f9=true)(ha:gS G A ab T ρ σ (jcp (jcr pos (jaw (e::az) ab))) vs)(hb:BR G A σ (.type id) vs r):ES G A ab T ρ σ (jae (.Call (.Name x p) (e::az) [] pos) ab) r:=λs φ β P m I R =>
 jaL (jS hE hx hl I (by
  rw[jcl,ZA]at hs;exact jbo (ha.post I R λxs ak ay aw bd aI aF=>lE aw (hb.on bd aI aF)) (iV hs.1) (qU hs.2)))
theorem Mv(hE:bQ ab T)(hx:T.isGlobal x=true)(hk:G.fns k=some (x,fd))(hs:(e::az).all f9=true)(ha:gS G A ab T ρ σ (jcp (jcr pos (jaw (e::az) ab))) vs)(hb:∀a,G.mg x=some (.ref a)->BR G A σ (.ref a) vs r):ES G A ab T ρ σ (jae (.Call (.Name x p) (e::az) [] pos) ab) r:=λs φ β P m I R=>by
 refine n6 (I.fns k x fd hk) λa o h1 h2 h3 h4=>?_;refine jaL (jS hE hx (.inl h1) I ?_);rw[jcl,ZA]at hs;exact jft h3 (ha.post I R λxs ak ay aw bd aI aF=>⟨aw.ext _ _ (I.tabs.notX_data h2 λvs q=>by rw[h3]at q;cases q) h2,lE aw ((hb a h1).on bd aI aF)⟩) (iV hs.1)
structure rA(T:String) (name:Str) (id:String):Prop where
 pa:PlainAttrs T
 slot:Slot T name id
 ty:typeOf (.builtin id)=pure (.type "method_descriptor")
def mv(s:Y8)(x:Value)(T:String):Prop:=s.TypeIs x T/\∀a,x=.ref a->∃ob,s.heap.get? a=some ob/\ob.dict=none
theorem pt(h:B5 o=true):attributeBase o name ab whole=whole:=by
 induction o using ZY with
 |Call f as kws p =>
  induction f using ZY with
  |Name =>
   induction as using Y6 with
   |nil=>induction kws using Y6 with
    |nil=>exact bP h
    |cons=>rfl
   |cons=>rfl
  |_=>rfl
 |_=>rfl
theorem MH{G:GD}{o:Expr}{name:Str}{pp pos:Pos}{args:List Expr}{T' id:String}{v:AV}{vs:List AV}{r:AV}(bY:ff o args.length pp pos=true)(hM:rA T' name id)(hs:args.all f9=true)(ho:ES G A ab T ρ σ (jae o ab) v)(hT:∀s φ β P x,cr G.tok φ s.heap β P σ->VR G.tok φ s.heap β P v x->bh G s.heap->mv s x T')(ha:gS G A ab T ρ σ (jcp (jcr pos (jaw args ab))) vs)(hn:args=[]->vs=[])(hb:BR G A σ (.builtin id) (v::vs) r):ES G A ab T ρ σ (jae (.Call (.Attribute o name pp) args [] pos) ab) r:=λs φ β P m I R=>by
 unfold ff at bY;rw[ZA,ZA]at bY;refine bN bY λz1 h3=>?_;obtain⟨h1,h2⟩:=z1;refine jbC (pt h1) ?_ h2 (ho.post I R λx ak ay aw bd aI aF=>?_)
 ·refine aa (Bb hs) ?_;exact(jcG _).trans (decide_eq_true (bf (of_decide_eq_true h3) (by decide)))
 ·refine bN (hT ak ay β P x aI.objs aF bd) λt1 t2=>?_;refine⟨T',id,hM.pa,hM.slot,hM.ty,t1,t2,?_⟩;refine jaK (qU hs) ?_
  induction args using Y6 with
  |nil =>
   have:=hn rfl;subst this;exact jcb (lE aw (hb.on bd aI (.cons aF .nil)))
  |cons e az =>
   rw[jcl,ZA]at hs;have oE:=ha;rw[iV hs.1]at oE ⊢;exact jds (oE.post bd aI λxs aC aV aP dJ bW bH=>lE (aw.trans aP) (hb.on dJ bW (.cons (aI.vr aP aF) bH)))
end
section
variable {A:ZZ}{ab:Env}{T:Tb}{ρ:aB}{σ:aA}{G:GD}{s:Y8}{φ:Gh}{β:List Zi}{P:Zi->Prop}{m:Str->Option Value}{tk:Zi}{h:jao}
theorem wb{α γ:Type}{f:α->Option γ}{a:α}{as:List α}{bs:List γ}(e:bj f (a::as)=some bs):∃b cs,bs=b::cs/\f a=some b/\bj f as=some cs:=by
 rw[gO]at e
 induction hb:f a using ae with
 |none=>rw[hb]at e;exact ai e
 |some b =>
  induction hc:bj f as using ae with
  |none=>rw[hb,hc]at e;exact ai e
  |some cs=>rw[hb,hc]at e;exact nc b cs ((Y7 e).symm) rfl rfl
theorem GK{f:AV->Option AV}{ks:List Int}:∀{vs:List AV}{es:List (Int×AV)},ks.length=vs.length->bj (λe:Int×AV=>(f e.2).map (e.1,·)) (ks.zip vs)=some es->∃us,es=ks.zip us/\bj f vs=some us:=by
 induction ks with
 |nil=>exact λ{vs es} hl e=>aO [] ((Y7 e).symm) (by refine aa (Z7.mp hl.symm) ?_;rfl)
 |cons k ks ih =>
  intro vs es hl e
  induction vs using Y6 with
  |nil=>exact nomatch hl
  |cons v vs =>
   refine bS (wb e) λb cs e1 h1 h2=>?_;refine au (Zw.mp h1) λu hu e2=>?_;refine au (ih (Z8 hl) h2) λus e3 h3=>?_;exact aO (u::us) (by refine aa e1 ?_;refine rwj e2 ?_;refine aa e3 ?_;rfl) (by rewrite [gO];refine aa hu ?_;refine aa h3 ?_;rfl)
theorem GJ{α γ:Type}{f:α->Option γ}{as:List α}:∀{bs:List γ},bj f as=some bs->as.length=bs.length:=by
 induction as with
 |nil=>exact λe=>Y7 e▸rfl
 |cons a as ih=>exact λe=>by refine bS (wb e) ?_;rintro b cs rfl _ h;exact congrArg (·+1) (ih h)
section
variable {P':Zi->Prop}
theorem qi{f:AV->Option AV}(hf:∀{v v':AV}{x:Value},f v=some v'->VR tk φ h β P v x->VR tk φ h [] P' v' x){vs cW:List AV}{xs:List Value}(e:bj f vs=some cW)(r:ar tk φ h β P vs xs):ar tk φ h [] P' cW xs :=
 r.ind (motive:=λvs xs=>∀cW,bj f vs=some cW->ar tk φ h [] P' cW xs) (λcW e=>Y7 e▸.nil) (λra Y ih cW e=>by
  refine bS (wb e) λb cs e1 h1 h2=>?_;exact e1▸.cons (hf h1 ra) (ih cs h2)) cW e
theorem OH{f:AV->Option AV}{o:AO}{a:Zi}{v':AV}(hf:∀{v v':AV}{x:Value},f v=some v'->VR tk φ h β P v x->VR tk φ h [] P' v' x)(hp:P' a)(e:(match some o with
 |some (.list vs)=>(bj f vs).map AV.lst
 |some (.dict es)=>(bj (λe=>(f e.2).map (e.1,·)) es).map .dct
 |_=>none)=some v') (r:OR tk φ h β P o a):VR tk φ h [] P' v' (.ref a):=by
 cases r with
 |list e' r' =>
  refine au (Zw.mp e) λws hw e=>?_;exact e▸.lst e' hp (qi hf hw r')
 |dict e' hl r' =>
  refine au (Zw.mp e) λws hw e=>?_;refine au (GK hl hw) λzs e2 hz=>?_;exact e▸e2▸.dct e' hp (hl.trans (GJ hz)) (qi hf hz r')
theorem yQ(O:cr tk φ h β P σ)(hP:∀a,P a->P' a)(hB:∀(i:Nat) (a:Zi),σ[i]?.isSome=true->β[i]?=some a->P' a)(n:Nat):∀{v v':AV}{x:Value},aZ σ n v=some v'->VR tk φ h β P v x->VR tk φ h [] P' v' x:=by
 induction n with
 |zero=>exact λe=>ai e
 |succ n ih =>
  intro v v' x e r
  induction v using AV.casesOn with
  |none=>exact Y7 e▸r.e_none .none
  |bool b=>exact Y7 e▸r.e_bool (.bool b)
  |int i=>exact Y7 e▸r.e_int λt=>.int i t
  |flt y=>exact Y7 e▸r.e_flt λt ht=>.flt y t ht
  |str y=>exact Y7 e▸r.e_str λt=>.str y t
  |tok=>exact Y7 e▸r.e_tok .tok
  |tup vs =>
   refine au (Zw.mp (show(bj (aZ σ n) vs).map .tup=some v' from e)) λus hu e=>?_;exact e▸r.e_tup λa xs e' p r=>.tup e' (hP _ p) (qi ih hu r)
  |lst vs =>
   refine au (Zw.mp (show(bj (aZ σ n) vs).map .lst=some v' from e)) λus hu e=>?_;exact e▸r.e_lst λa xs e' p r=>.lst e' (hP _ p) (qi ih hu r)
  |dct es =>
   refine au (Zw.mp (show(bj (λe:Int×AV=>(aZ σ n e.2).map (e.1,·)) es).map .dct=some v' from e)) λus hu e=>?_;refine e▸r.e_dct λa ks vs xs oq hl e' p r=>?_;rw[oq]at hu;refine au (GK hl hu) λws e2 hw=>?_;exact e2▸.dct e' (hP _ p) (hl.trans (GJ hw)) (qi ih hw r)
  |ref i =>
   refine r.e_ref λa hb=>?_;rw[yR]at e
   induction hi:σ[i]? using ae with
   |none=>rw[hi]at e;exact ai e
   |some o =>
    rw[hi]at e;have hg:o≠.gone:=λq=>by rw[q]at e;exact ai e
    refine au (O i _ hi hg) λa' h1 h2=>?_;refine aa (Y7 (hb.symm.trans h1)) ?_;exact OH ih (hB i a' (by refine aa hi ?_;rfl) h1) e h2
theorem Ei(O:cr tk φ h β P σ)(hP:∀a,P a->P' a)(hB:∀(i:Nat) (a:Zi),σ[i]?.isSome=true->β[i]?=some a->P' a)(n:Nat){vs cW:List AV}{xs:List Value}(e:bj (aZ σ n) vs=some cW)(r:ar tk φ h β P vs xs):ar tk φ h [] P' cW xs :=
 qi (yQ O hP hB n) e r
end
theorem cr.nil:cr tk φ h β P []:=λi o e=>nomatch e
theorem VR.anyβ{v:AV}{x:Value}(r:VR tk φ h [] P v x):VR tk φ h β P v x:=r.mono (λY Y e=>e) (λY Y p e=>⟨e,p⟩) (List.nil_prefix)
def kF(G:GD)(A:ZZ)(f:Value)(vs:List AV)(r:AV):Prop :=
 ∀s φ P xs,bh G s.heap->aW φ s->kJ G s P->(∀a,P a->eY G a)->ar G.tok φ s.heap [] P vs xs ->
  Zd (Zf af wd) A (call f xs) (lJ G φ s [] P r) ax s
def ui(G:GD)(A:ZZ)(Φ:cX):Prop :=
 ∀k vs r,Φ k vs=some r->∃x fd,G.fns k=some (x,fd)/\∀a,G.mg x=some (.ref a)->kF G A (.ref a) vs r
theorem J9{Φ:cX}{k:Nat}{vs:List AV}{r:AV}(hΦ:ui G A Φ)(e:nQ Φ σ k vs=some r):∃x fd,G.fns k=some (x,fd)/\∀a,G.mg x=some (.ref a)->BR G A σ (.ref a) vs r:=by
 unfold nQ at e
 induction hb:bj (aZ [] 6) vs using ae with
 |some bs =>
  rw[hb]at e;refine bA (hΦ k bs r e) λx fd h1 h2=>?_;exact cZ x fd h1 (λa ha s φ β P xs I K O F hp je r'=>up (h2 a ha s φ P xs I K F hp (Ei (cr.nil (β:=β) (P:=P)) (λa p=>p) (λi a e=>by simp at e) 6 hb r')) λv s' ⟨am,k',q⟩=>⟨am,k',q.anyβ⟩)
 |none =>
  rw[hb]at e;clear hb
  induction hb:bj (aZ σ 6) vs using ae with
  |none=>rw[hb]at e;exact ai e
  |some bs =>
   rw[hb]at e;dsimp only at e
   induction hr:Φ k bs using ae with
   |none=>rw[hr]at e;exact ai e
   |some r' =>
    rw[hr]at e;refine bR e λhs e=>?_;rw[Y7 e]at hs hr;refine bA (hΦ k bs r hr) λx fd h1 h2=>?_;exact cZ x fd h1 (λa ha s φ β P xs I K O F hp je r'=>up (h2 a ha s φ (λa=>P a\/a∈β) xs I K (λa e=>.inl (F a e)) (λa e=>e.elim (hp a) (je a)) (Ei (P':=λa=>P a\/a∈β) O (λa p=>.inl p) (λi a Y e=>.inr (ZK e)) 6 hb r'))
     λv s' ⟨am,k',q⟩=>⟨am,k',q.scalar hs λY Y e=>e⟩)
inductive uh(G:GD) (A:ZZ) (σ:aA) (x:Str) (vs:List AV) (r:AV):Prop
 |builtin (id:String) (hl:mw G x (.builtin id)) (h:BR G A σ (.builtin id) vs r)
 |type (id:String) (hl:mw G x (.type id)) (h:BR G A σ (.type id) vs r)
 |def_ (k:Nat) (fd:jaC) (hk:G.fns k=some (x,fd)) (h:∀a,G.mg x=some (.ref a)->BR G A σ (.ref a) vs r)
def gE(G:GD):Prop:=∀x k y fd,gv.lookup x=some (.user k)->G.fns k=some (y,fd)->y=x
def DT:Fn->Str->Bool
 | .range,x=>x==("range":Str)
 | .len,x=>x==("len":Str)
 | .sum,x=>x==("sum":Str)
 | .max,x=>x==("max":Str)
 | .min,x=>x==("min":Str)
 | .ord,x=>x==("ord":Str)
 | .chr,x=>x==("chr":Str)
 | .int,x=>x==("int":Str)
 | .divmod,x=>x==("divmod":Str)
 | .reversed,_=>true
 | .user _,_=>true
 |_,_=>false
theorem NF{x:Str}{f:Fn}(h:gv.lookup x=some f):DT f x=true :=
 Y'.mp (show gv.all (λe=>DT e.2 e.1)=true by decide +kernel) _ (mem_of_lookup h)
theorem uh.bi{x:Str}{vs:List AV}{r:AV}{y:String}(hG:dD G)(hy:y∈(["len","sum","max","min","ord","chr","divmod","isinstance"]:List String)) (hx:(x==jaY y)=true)
 (h:∀s φ β P xs,bh G s.heap->aW φ s->cr G.tok φ s.heap β P σ->kJ G s P->(∀a,P a->eY G a)->ar G.tok φ s.heap β P vs xs->Zd (Zf af wd) A (call (.builtin y) xs) (aK G.tok φ s β P r) ax s):uh G A σ x vs r :=
 .builtin y (eq_of_beq hx▸.inr (hG.builtins y hy)) λs φ β P xs I K O F hp Y r'=>up (h s φ β P xs I K O F hp r') λY Y q=>q.x
theorem KJ{Φ:cX}{x:Str}{f:Fn}{vs:List AV}{r:AV}(hA:A.handled=none)(hG:dD G)(hN:gE G)(hΦ:ui G A Φ)(hx:gv.lookup x=some f)(e:nS Φ σ f vs=some r):uh G A σ x vs r:=by
 have hn:=NF hx
 induction f using Fn.casesOn with
 |len=>exact .bi hG (by simp) hn λs φ β P xs I K O F hp r'=>Kx K O (λa p=>(hp a p).1) e r'
 |sum=>exact .bi hG (by simp) hn λs φ β P xs I K O F hp r'=>KI hA K O e r'
 |max=>exact .bi hG (by simp) hn λs φ β P xs I K O F hp r'=>Kz hA K O e r'
 |min=>exact .bi hG (by simp) hn λs φ β P xs I K O F hp r'=>KC hA K e r'
 |ord=>exact .bi hG (by simp) hn λs φ β P xs I K O F hp r'=>KE K e r'
 |chr=>exact .bi hG (by simp) hn λs φ β P xs I K O F hp r'=>Kg K e r'
 |divmod=>exact .bi hG (by simp) hn λs φ β P xs I K O F hp r'=>Kj K F.f e r'
 |int=>exact .type "int" (eq_of_beq (show(x==jaY "int")=true from hn)▸.inr (hG.types "int" (by simp))) λs φ β P xs I K O F hp hb r'=>up (Kq K e r') λY Y q=>q.x
 |user k =>
  refine bA (J9 hΦ e) λy fd h1 h2=>?_;exact .def_ k fd (hN x k y fd hx h1▸h1) (hN x k y fd hx h1▸h2)
 |range=>exact ai e
 |reversed=>exact ai e
 |_=>exact bP hn
end
section
theorem QT(r:VR tk φ h β P (.str cs) x):mv s x "str" := r.e_str λY=>⟨jcZ _ _ _,λY e=>nomatch e⟩
theorem QS(r:VR tk φ h β P (.int i) x):mv s x "int" := r.e_int λY=>⟨typeIs_int _ _ _,λY e=>nomatch e⟩
theorem zQ(O:cr tk φ s.heap β P σ)(e:aQ σ v=some vs)(r:VR tk φ s.heap β P v x):mv s x "list" := by
 refine bS (Ap O e r) ?_;rintro a xs rfl h1 h2;refine⟨h1.isList.typeIs,λb e=>?_⟩;cases e;refine aX h1 λn ho=>?_;exact aO _ ho rfl
theorem FL(O:cr tk φ s.heap β P σ)(e:gH σ v=some es)(r:VR tk φ s.heap β P v x):mv s x "dict" := by
 refine so (xU O e r) ?_;rintro a ks vs xs rfl _ _ h1 _;refine⟨h1.mapOf.typeIs,h1.mapOf.noDict⟩
theorem QU(I:bh G s.heap)(r:VR G.tok φ h β P .tok x):mv s x "dict" := by
 refine au I.tok λf hm Y=>?_;exact r.e_tok ⟨hm.typeIs,hm.noDict⟩
def HT(G:GD)(σ:aA)(v:AV)(T':String):Prop:=∀s φ β P x,cr G.tok φ s.heap β P σ->VR G.tok φ s.heap β P v x->bh G s.heap->mv s x T'
theorem HT.str:HT G σ (.str cs) "str" := λY Y Y Y Y Y r Y=>QT r
theorem HT.list(e:aQ σ v=some vs):HT G σ v "list" := λY Y Y Y Y O r Y=>zQ O e r
theorem Ko(e:nP σ (v::vs)=some r):(HT G σ v "str" /\ ∀s φ β P xs,aW φ s->ar G.tok φ s.heap β P (v::vs) xs->Zd (Zf af wd) A (call (.builtin "str.index") xs) (aK G.tok φ s β P r) ax s) \/
 (HT G σ v "list" /\ ∀s φ β P xs,aW φ s->cr G.tok φ s.heap β P σ->ar G.tok φ s.heap β P (v::vs) xs->Zd (Zf af wd) A (call (.builtin "list.index") xs) (aK G.tok φ s β P r) ax s):=by
 generalize hq:v::vs=as at e ⊢;revert hq;refine Kn (C:=λas r=>v::vs=as->(HT G σ v "str" /\ ∀s φ β P xs,aW φ s->ar G.tok φ s.heap β P as xs->Zd (Zf af wd) A (call (.builtin "str.index") xs) (aK G.tok φ s β P r) ax s) \/
  (HT G σ v "list" /\ ∀s φ β P xs,aW φ s->cr G.tok φ s.heap β P σ->ar G.tok φ s.heap β P as xs->Zd (Zf af wd) A (call (.builtin "list.index") xs) (aK G.tok φ s β P r) ax s)) ?_ ?_ e
 ·intro x y k az ho q;injection q with q
  subst q;exact .inl ⟨.str,λs φ β P xs K ra=>ra.e2 λa b r1 r3=>r1.e_str λt=>r3.e_str λu=>V0 K ho⟩
 ·intro l i vs is k hl eS hk aU q;injection q with q
  refine .inr ⟨q▸.list hl,λs φ β P xs K O ra=>ra.e2 λa b r1 r3=>r3.e_int λu=>?_⟩;refine bS (fx O hl r1) ?_;rintro a xs rfl h1 h2;exact Sz K h1 (rL eS h2) hk aU
theorem Kh(K:aW φ s)(O:cr tk φ s.heap β P σ)(e:pG σ as=some r)(ra:ar tk φ s.heap β P as xs):
 Zd (Zf af wd) A (call (.builtin "list.count") xs) (aK tk φ s β P r) ax s :=
 Ci (C:=λas r=>∀{xs:List Value},ar tk φ s.heap β P as xs->Zd (Zf af wd) A (call (.builtin "list.count") xs) (aK tk φ s β P r) ax s) (λl i vs is hl eS xs ra=>ra.e2 λa b r1 r3=>r3.e_int λu=>by
  refine bS (fx O hl r1) ?_;rintro a xs rfl h1 h2;exact Sy K h1 (rL eS h2)) e ra
theorem Kk(K:aW φ s)(e:mE as=some r)(ra:ar tk φ s.heap β P as xs):
 Zd (Zf af wd) A (call (.builtin "str.find") xs) (aK tk φ s β P r) ax s :=
 Cj (C:=λas r=>∀{xs:List Value},ar tk φ s.heap β P as xs->Zd (Zf af wd) A (call (.builtin "str.find") xs) (aK tk φ s β P r) ax s) (λx y xs ra=>ra.e2 λa b r1 r3=>r1.e_str λt=>r3.e_str λu=>VZ K) e ra
theorem Kl(I:bh G s.heap)(K:aW φ s)(O:cr G.tok φ s.heap β P σ)(je:∀a,a∈β->(a==jah)=false)(e:uF σ as=some r)(ra:ar G.tok φ s.heap β P as xs):
 Zd (Zf af wd) A (call (.builtin "dict.get") xs) (aK G.tok φ s β P r) ax s:=by
 refine Ck (C:=λas r=>∀{xs:List Value},ar G.tok φ s.heap β P as xs->Zd (Zf af wd) A (call (.builtin "dict.get") xs) (aK G.tok φ s β P r) ax s) ?_ ?_ e ra
 ·exact λx d xs ra=>ra.e3 λa b c r1 r3 r5=>r1.e_tok (r3.e_str λt=>WC K I r5)
 ·refine λj k d es hd xs ra=>ra.e3 λa b c r1 r3 r5=>r3.e_int λt=>?_;refine so (xU O hd r1) ?_;rintro a' ks vs xs EZ rfl hl h1 h2;refine au r1.inv λa2 e2 hb=>?_;cases EZ.symm.trans e2;exact EZ▸LU K h1 (je _ (ZK hb)) h2 r5
def GI:Fn->Option Str
 | .bitLength=>some "bit_length"
 | .index=>some "index"
 | .find=>some "find"
 | .join=>some "join"
 | .split=>some "split"
 | .count=>some "count"
 | .get=>some "get"
 |_=>none
theorem SU(h:iU.lookup x=some f):GI f=some x :=
 eq_of_beq (Y'.mp (show iU.all (λe=>GI e.2==some e.1)=true by decide +kernel) _ (mem_of_lookup h))
def gV(G:GD)(A:ZZ)(σ:aA)(name:Str)(v:AV)(vs:List AV)(r:AV):Prop:=∃T' id,rA T' name id/\HT G σ v T'/\BR G A σ (.builtin id) (v::vs) r
section
theorem SV(e:uE (v::vs)=some r):gV G A σ "bit_length" v vs r :=
 ⟨"int","int.bit_length",⟨PySem.F.plainAttrs_int,slot_int_bit_length,type_int_bit_length⟩,Ch (C:=λas Y=>∀v vs,v::vs=as->HT G σ v "int") (λi v vs q=>by injection q with q;exact q▸λY Y Y Y Y Y r Y=>QS r) e v vs rfl,λs φ β P xs I K O F hp hb r'=>up (Ke K e r') λY Y q=>q.x⟩
theorem S0(e:nP σ (v::vs)=some r):gV G A σ "index" v vs r:=by
 rcases Ko (G:=G) (A:=A) e with⟨h1,h2⟩|⟨h1,h2⟩
 ·exact⟨"str","str.index",⟨jbX,jgM,PySem.F.type_str_index⟩,h1,λs φ β P xs I K O F hp hb r'=>up (h2 s φ β P xs K r') λY Y q=>q.x⟩
 ·exact⟨"list","list.index",⟨jcF,jgw,PySem.F.type_list_index⟩,h1,λs φ β P xs I K O F hp hb r'=>up (h2 s φ β P xs K O r') λY Y q=>q.x⟩
theorem SX(e:mE (v::vs)=some r):gV G A σ "find" v vs r :=
 ⟨"str","str.find",⟨jbX,jgZ,PySem.F.type_str_find⟩,Cj (C:=λas Y=>∀v vs,v::vs=as->HT G σ v "str") (λx y v vs q=>by injection q with q;exact q▸.str) e v vs rfl,λs φ β P xs I K O F hp hb r'=>up (Kk K e r') λY Y q=>q.x⟩
theorem S1(e:uI σ (v::vs)=some r):gV G A σ "join" v vs r :=
 ⟨"str","str.join",⟨jbX,jgY,PySem.F.type_str_join⟩,Cm (C:=λas Y=>∀v vs,v::vs=as->HT G σ v "str") (λl ws xs Y Y Y v vs q=>by injection q with q;exact q▸.str) e v vs rfl,λs φ β P xs I K O F hp hb r'=>up (Kv K O e r') λY Y q=>q.x⟩
theorem S2(e:rV (v::vs)=some r):gV G A σ "split" v vs r :=
 ⟨"str","str.split",⟨jbX,jgK,PySem.F.type_str_split⟩,Cn (C:=λas Y=>∀v vs,v::vs=as->HT G σ v "str") (λx Y v vs q=>by injection q with q;exact q▸.str) e v vs rfl,λs φ β P xs I K O F hp hb r'=>up (KG K F.f e r') λY Y q=>q.x⟩
theorem SW(e:pG σ (v::vs)=some r):gV G A σ "count" v vs r :=
 ⟨"list","list.count",⟨jcF,jgx,PySem.F.type_list_count⟩,Ci (C:=λas Y=>∀v vs,v::vs=as->HT G σ v "list") (λl i ws is hl Y v vs q=>by injection q with q;exact q▸.list hl) e v vs rfl,λs φ β P xs I K O F hp hb r'=>up (Kh K O e r') λY Y q=>q.x⟩
theorem SY(e:uF σ (v::vs)=some r):gV G A σ "get" v vs r :=
 ⟨"dict","dict.get",⟨jee,jcc,jgX⟩,Ck (C:=λas Y=>∀v vs,v::vs=as->HT G σ v "dict") (λx d v vs q=>by injection q with q;exact q▸λY Y Y Y Y Y r I=>QU I r)
  (λj k d es hd v vs q=>by injection q with q;exact q▸λY Y Y Y Y O r Y=>FL O hd r) e v vs rfl,λs φ β P xs I K O F hp hb r'=>up (Kl I K O (λa h=>(hb a h).1) e r') λY Y q=>q.x⟩
end
theorem Tl(hA:A.handled=none)(hl:iU.lookup name=some f)(e:nS Φ σ f (v::vs)=some r):
 ∃T' id,rA T' name id/\(∀s φ β P x,cr G.tok φ s.heap β P σ->VR G.tok φ s.heap β P v x->bh G s.heap->mv s x T')/\BR G A σ (.builtin id) (v::vs) r:=by
 have hn:=SU hl;show gV G A σ name v vs r;clear hl
 induction f using Fn.casesOn with
 |bitLength=>exact aG (Q:=λn=>gV G A σ n v vs r) hn (SV e)
 |index=>exact aG (Q:=λn=>gV G A σ n v vs r) hn (S0 e)
 |find=>exact aG (Q:=λn=>gV G A σ n v vs r) hn (SX e)
 |join=>exact aG (Q:=λn=>gV G A σ n v vs r) hn (S1 e)
 |split=>exact aG (Q:=λn=>gV G A σ n v vs r) hn (S2 e)
 |count=>exact aG (Q:=λn=>gV G A σ n v vs r) hn (SW e)
 |get=>exact aG (Q:=λn=>gV G A σ n v vs r) hn (SY e)
 |_=>exact G2 hn.symm
end
section
theorem C4(hE:bQ ab T)(hG:dD G)(hf:T.isGlobal ("isinstance":Str)=true) (ht:T.isGlobal t=true) (hl:mw G t (.type ty)) (hs:f9 e=true) (he:ES G A ab T ρ σ (jae e ab) v) (hc:∀s φ β P x,aW φ s->VR G.tok φ s.heap β P v x->Zd (Zf af wd) A (call (.builtin "isinstance") [x,.type ty]) (aK G.tok φ s β P r) ax s):
 ES G A ab T ρ σ (jae (.Call (.Name ("isinstance":Str) p) [e,.Name t tp] [] pos) ab) r:=λs φ β P m I R =>
 jaL (jS hE hf (.inr (hG.builtins "isinstance" (by simp))) I (jeS
  (jcI (he.post I R λx ak ay aw bd aI aF=>jcI (jS hE ht hl bd (jdq (qZ aw (hc ak ay β P x aI.tk aF)))) rfl) (iV hs)) (iV hs) rfl))
theorem MG(hA:A.handled=none)(hE:bQ ab T)(hG:dD G)(hf:T.isGlobal ("list":Str)=true) (bY:ff d 0 ap mp=true) (aU:es.length<=100000) (he:ES G A ab T ρ σ (jae d ab) (.dct es)):
 ES G A ab T ρ σ (jae (.Call (.Name ("list":Str) p) [.Call (.Attribute d ("values":Str) ap) [] [] mp] [] pos) ab) (.lst (es.map (·.2))):=λs φ β P m I R=>by
 refine jaL (jS hE hf (.inr (hG.types "list" (by simp))) I (jbo (jcI ?_ rfl) rfl rfl));unfold ff at bY;rw[ZA,ZA]at bY;refine bN bY λz1 h3=>?_;obtain⟨h1,h2⟩:=z1;refine jbC (pt h1) rfl h2 (he.post I R λx ak ay aw bd aI aF=>?_);have:=FL aI.objs (show gH σ (.dct es)=some es from rfl) aF;refine⟨"dict","dict.values",jee,jgq,PySem.F.type_dict_values,this.1,this.2,?_⟩;refine jaK rfl (jcb ?_);exact up (SE hA aI.tk aI.fresh aI.psys aU aF) λv aC cy=>jdq (up cy λv' dj ⟨am,k',r'⟩=>⟨am,aw.trans k'.x,r'⟩)
theorem xY(hE:bQ ab T)(hG:dD G)(hf:T.isGlobal ("range":Str)=true) (hs:(e::bs).all f9=true) (ha:gS G A ab T ρ σ (jcp (jcr pos (jaw (e::bs) ab))) vs) (he:nu vs=some is) (I:bh G s.heap) (R:ER G φ ab T ρ σ β P m s) (hQ:∀v s' am,GX G s φ s' am->ph s' is v->Q v s'):Zd (Zf af wd) A (jae (.Call (.Name ("range":Str) p) (e::bs) [] pos) ab) Q E s:=by
 refine jaL (jS hE hf (.inr (hG.types "range" (by simp))) I ?_);rw[jcl,ZA]at hs;exact jbo (ha.post I R λxs ak ay aw bd aI aF=>up (Hx aI.tk he aF) λv aC qq=>bN qq λaP rr=>hQ v aC ay (aw.trans aP.x) rr) (iV hs.1) (qU hs.2)
theorem MF(hA:A.handled=none)(hE:bQ ab T)(hG:dD G)(hl:T.isGlobal ("list":Str)=true) (hf:T.isGlobal ("range":Str)=true) (hs:(e::bs).all f9=true) (ha:∀pos,gS G A ab T ρ σ (jcp (jcr pos (jaw (e::bs) ab))) vs) (he:nu vs=some is):
 ES G A ab T ρ σ (jae (.Call (.Name ("list":Str) p) [.Call (.Name ("range":Str) rp) (e::bs) [] rpos] [] pos) ab) (.lst (is.map .int)):=λs φ β P m I R =>
 jaL (jS hE hl (.inr (hG.types "list" (by simp))) I (jbo (jcI
  (xY hE hG hf hs (ha _) he I R λv ak ay aw rr=>jdq (qZ aw (Gz hA aw.tk (R.freshX.go aw I.tabs).f rr))) rfl) rfl rfl))
set_option tactic.hygienic true in
theorem MB(hx:x.scalar=true)(hk:ES G A ab T ρ σ (jae k ab) (.int i))(hv:ES G A ab T ρ σ (jae v ab) x):
 ES G A ab T ρ σ (jae (.Dict [some k] [v] pos) ab) (.dct [(i,x)]):=λs φ β P m I R=>by
 refine eF (wpAny_Dict_pairs (knd:=jat af wd) (pairs:=[(jae k ab,do let x <-jae v ab;jfx pos;pure x)]) rfl (by simp) (by simp) ?_);have v4:GX G s φ {s with heap:=s.heap.push {cls:=.type "dict",data:=.dict #[]}} φ:=.same R.tk bE.push (Y9 _);refine evalPairs_cons (hk.post (I.go v4) (R.go v4 I.tabs) λkx ak ay aw bd aI aF=>Zc (hv.post bd aI λvx aC aV aP dJ bW bH=>Zc (jbe (ZC (evalPairs_nil ?_)))));cases aF;rename_i t;have hD:=Z3 (o:={cls:=.type "dict",data:=.dict #[]}) s.heap rfl;have zA:¬G.X s.heap.objs.size:=(I.go v4).tabs.notX_data hD λvs q=>nomatch q;have Pa:=(aw.trans aP).ext _ _ zA hD;refine lj [(i,vx)] ⟨jeo _ _ _ _,rfl,trivial⟩ ?_ (λh' hm m8 up=>?_)
 ·refine DictOf.at (h:=s.heap.push {cls:=.type "dict",data:=.dict #[]}) ?_ λo ho=>(aw.trans aP).ext _ _ zA ho;exact jfo ..
 ·have kk:=(v4.trans aw).trans aP;refine⟨aV,kk.then_but I.tabs (Y9 _) (λb o hb e=>m8.extBut b o hb e) (dJ.tabs.noHas Pa λvs q=>nomatch q) zA (ZP m8.1.symm) (ZH _ _),?_⟩;have hr:VR G.tok aV h' β P x vx:=bH.scalar hx λY Y e=>e;exact .dct (ks:=[i]) (vs:=[x]) (xs:=[vx]) hm (R.fresh _ (Y9 _)) rfl (.cons hr .nil)
end
section
theorem OR.mono{G:GD}{h h':jao}(kq:∀t x,φ t x->am t x)(hk:∀a o,P a->h.get? a=some o->h'.get? a=some o/\P' a)(hb:β <+: aH)(ha:∀o,h.get? a=some o->h'.get? a=some o)(r:OR G.tok φ h β P o a):
 OR G.tok am h' aH P' o a:=by
 cases r with
 |list e r=>exact .list (e.at ha) (r.mono kq hk hb)
 |dict e hl r=>exact .dict (DictOf.at e ha) hl (r.mono kq hk hb)
structure mr(ab:Env) (T:Tb) (β:List Zi) (P:Zi->Prop):Prop where
 ploc:¬P ab.locals
 bloc:ab.locals∉β
 own:∀x,T.names.lookup x=some .cell->∃c,ab.cells.lookup x=some c/\¬P c/\c∉β
theorem rW{h:jao}(hn:h.Ns a m)(hc:h.IsCell c v):a≠c:=by
 rintro rfl;refine kf hn λo es ep ho hd Y=>?_;refine au hc λo' kl lX=>?_;rw[ho]at kl;cases kl;rw[hd]at lX;cases lX
set_option tactic.hygienic true in
theorem XA{T:Tb}(hx:T.var x=some i):T.names.lookup x=some .local\/T.names.lookup x=some .cell\/T.names.lookup x=some .free:=by
 unfold Tb.var at hx;split at hx
 ·rename_i e;exact .inl e
 ·rename_i e;exact .inr (.inl e)
 ·rename_i e;exact .inr (.inr e)
 ·cases hx
set_option tactic.hygienic true in
theorem Vq{ρ:aB}(e:(ρ.set i (some v))[j]?=some (some u)):(i=j/\u=v)\/(i≠j/\ρ[j]?=some (some u)):=by
 rw[jbt]at e;split at e
 ·rename_i fb;split at e
  ·cases e;exact .inl ⟨fb,rfl⟩
  ·cases e
 ·rename_i fb;exact .inr ⟨fb,e⟩
theorem ER.stored{ab:Env}{T:Tb}{ρ:aB}{G:GD}{s:Y8}{h':jao}(hT:jx T)(hx:T.var x=some i)(R:ER G φ ab T ρ σ β P m s)(r:VR G.tok φ s.heap β P v xv)(hP:¬P ir)(s6:ir∉β)(hs:Z' ir s.heap h')(ht:s.toks<=t)(TB:bz G s.heap)(hX:¬G.X ir)(iL:h'.Ns ab.locals m')(Py:∀y c dk,ab.cells.lookup y=some c->s.heap.IsCell c dk->∃oZ,h'.IsCell c oZ)(Qe:nJ ab m' h' x xv)(Qs:∀y v',y≠x->nJ ab m s.heap y v'->nJ ab m' h' y v'):
 ER G φ ab T (ρ.set i (some v)) σ β P m' {s with heap:=h',toks:=t}:=by
 have hk:∀a o,P a->s.heap.get? a=some o->h'.get? a=some o/\P a:=λa o p e=>⟨hs.extBut a o (λq=>hP (q▸p)) e,p⟩
 refine⟨iL,by refine aa jbP ?_;exact R.len,λy j u hy hj=>?_,λy hy=>?_,λj o hj ho=>?_,λa ha=>R.freshX a (ha.imp (λha=>?_) ((TB.but (λb o hb e=>hs.extBut b o hb e) hX λq=>hP (R.freshX ir (.inr q))).2 a)),R.psafe,R.bsafe,λa ha=>show a<h'.objs.size from(show h'.objs.size=s.heap.objs.size from hs.1)▸R.blt a ha,R.tk.fn,R.tk.pos,λt' y e=>bf (R.tk.lt t' y e) ht,bf R.tk.one ht⟩
 ·rcases Vq hj with⟨fb,rfl⟩|⟨fb,hj⟩
  ·subst fb;have:=hT.inj _ _ _ hx hy;subst this;exact aO xv (r.mono (λY Y e=>e) hk (Zn _)) Qe
  ·refine au (R.names y j u hy hj) λv' a b=>?_;refine aO v' (a.mono (λY Y e=>e) hk (Zn _)) (Qs y v' (λq=>fb ?_) b);subst q;rw[hx]at hy;exact Y7 hy
 ·refine bA (R.celled y hy) λc dk h1 h2=>?_;refine aX (Py y c dk h1 h2) λoZ h3=>?_;exact cZ c oZ h1 h3
 ·refine au (R.objs j o hj ho) λa h1 h2=>?_;exact aO a h1 (h2.mono (λY Y e=>e) hk (Zn _) λo e=>hs.extBut a o (λq=>s6 (q▸ZK h1)) e)
 ·have:h'.objs.size=s.heap.objs.size:=hs.1;refine rwj this ?_;exact ha
theorem HW(TB:bz G s.heap)(hE:bQ ab T)(hT:jx T)(hx:T.var x=some i)(hk:T.names.lookup x=some .local\/T.names.lookup x=some .cell)(R:ER G φ ab T ρ σ β P m s)(FO:mr ab T β P)(r:VR G.tok φ s.heap β P v xv)(hQ:∀h' t m' ir,(ir=ab.locals\/(ab.cells.lookup x=some ir/\T.names.lookup x=some .cell))->Z' ir s.heap h'->s.toks<=t->ER G φ ab T (ρ.set i (some v)) σ β P m' {s with heap:=h',toks:=t}->(bz G h'/\∀c,bM G h' c->bM G s.heap c)->Q () {s with heap:=h',toks:=t}):
 Zd (Zf af wd) A (jdC ab x xv) Q E s:=by
 rcases hk with hk|hk
 ·have ow:=hE.loc x hk;refine jiB ow R.ns (λh' ji ej=>?_) (by refine aa hE.kind ?_;rfl);have EI:¬G.X ab.locals:=(R.bsafe _ (.inr (.inl rfl))).2;refine hQ h' _ _ ab.locals (.inl rfl) ej (Z2 _) (R.stored hT hx r FO.ploc FO.bloc ej (Z2 _) TB EI ji (λy c dk h1 h2=>⟨dk,h2.sameBut ej (jeI (rW R.ns h2))⟩) (.inl ⟨ow,by simp⟩) λy v' hy n=>?_) (TB.but (λb o hb e=>ej.extBut b o hb e) EI λq=>FO.ploc (R.freshX _ (.inr q)));rcases n with⟨a,b⟩|⟨c,a,b,d⟩
  ·exact .inl ⟨a,by simp[hy,b]⟩
  ·exact .inr ⟨c,a,b,d.sameBut ej (jeI (rW R.ns d))⟩
 ·have ow:=hE.cel x hk;refine fq (FO.own x hk) λc h1 h2 h3=>?_;refine bA (R.celled x (by unfold Tb.celled;refine aa hk ?_;rfl)) λc' dk h4 h5=>?_;rw[h1]at h4;cases h4;refine jiO hE.kind ow h1 h5 λh' gN ej=>?_;have EH:¬G.X c:=(R.bsafe _ (.inr (.inr ⟨x,h1⟩))).2;refine hQ h' s.toks m c (.inr ⟨h1,hk⟩) ej (Y9 _) (R.stored hT hx r h2 h3 ej (Y9 _) TB EH (R.ns.sameBut ej (rW R.ns h5)) (λy g7 oZ e1 e2=>?_) (.inr ⟨c,h1,.inl ow,gN⟩) λy v' hy n=>?_) (TB.but (λb o hb e=>ej.extBut b o hb e) EH λq=>h2 (R.freshX _ (.inr q)))
  ·by_cases q:g7=c
   ·subst q;exact⟨_,gN⟩
   ·exact⟨oZ,e2.sameBut ej q⟩
  ·rcases n with⟨a,b⟩|⟨g7,a,b,d⟩
   ·exact .inl ⟨a,b⟩
   ·exact .inr ⟨g7,a,b,d.sameBut ej λq=>hy (hE.inj y x g7 a (q▸h1))⟩
theorem ER.forget(R:ER G φ ab T av σ β P m s)(hl:ρ.length=av.length)(h:∀(i:Nat) (v:AV),ρ[i]?=some (some v)->av[i]?=some (some v)):ER G φ ab T ρ σ β P m s :=
 { R with len:=hl.trans R.len,names:=λx i v h1 h2=>R.names x i v h1 (h i v h2)}
theorem ER.but{ab:Env}{G:GD}{s:Y8}{h':jao}{X:Zi->Prop}{t:Tok}(TB:bz G s.heap)(Pk:∀b,G.X b->¬X b)(R:ER G φ ab T ρ σ β P m s)(hk:∀b o,¬X b->s.heap.get? b=some o->h'.get? b=some o)(hz:s.heap.objs.size<=h'.objs.size)(ht:s.toks<=t)(hP:∀a,P a->¬X a)(s6:∀a,a∈β->¬X a)(hl:¬X ab.locals)(hc:∀x c v,ab.cells.lookup x=some c->s.heap.IsCell c v->¬X c):ER G φ ab T ρ σ β P m {s with heap:=h',toks:=t}:=by
 have f8:∀a o,P a->s.heap.get? a=some o->h'.get? a=some o/\P a:=λa o p e=>⟨hk a o (hP a p) e,p⟩
 have hn:h'.Ns ab.locals m:=R.ns.at' λo e=>hk _ o hl e;refine⟨hn,R.len,λy j u hy hj=>?_,λy hy=>?_,λj o hj ho=>?_,λa ha=>R.freshX a (ha.imp (Y5 hz) ((TB.butS hk Pk λc q=>hP c (R.freshX c (.inr q))).2 a)),R.psafe,R.bsafe,λa ha=>bf (R.blt a ha) hz,R.tk.fn,R.tk.pos,λt' y e=>bf (R.tk.lt t' y e) ht,bf R.tk.one ht⟩
 ·refine au (R.names y j u hy hj) λv' a b=>?_;refine aO v' (a.mono (λY Y e=>e) f8 (Zn _)) ?_;rcases b with b|⟨c,a,b,o,ho,hd⟩
  ·exact .inl b
  ·exact .inr ⟨c,a,b,o,hk c o (hc _ c _ a ⟨o,ho,hd⟩) ho,hd⟩
 ·obtain⟨c,dk,h1,o,ho,hd⟩:=R.celled y hy;exact⟨c,dk,h1,o,hk c o (hc _ c _ h1 ⟨o,ho,hd⟩) ho,hd⟩
 ·refine au (R.objs j o hj ho) λa h1 h2=>?_;exact aO a h1 (h2.mono (λY Y e=>e) f8 (Zn _) λo e=>hk a o (s6 a (ZK h1)) e)
end
section
def j0(A:ZZ)(tk:Zi)(φ:Gh)(β:List Zi)(P:Zi->Prop)(F:Zi->Prop)(s:Y8)(vs:List AV)(it:Value)(s':Y8):Prop :=
 ∃(o:Obj) (fp:List Zi) (Pv:Nat->Value->Prop) (St:Nat->jao->Prop),it=.ref s.heap.objs.size/\s'={s with heap:=s.heap.push o} /\
  Walks af wd A s.heap.objs.size fp [s.heap.objs.size] vs.length Pv St/\St 0 s'.heap/\(∀b∈fp,b=s.heap.objs.size\/(F b/\b<s.heap.objs.size)) /\
  ∀i x,Pv i x->∃v,vs[i]?=some v/\VR tk φ s.heap β P v x
@[elab_as_elim] theorem src_elim {s:Y8}{s':Y8}{F:Zi->Prop}{vs:List AV}{it:Value}{Q:Value->Y8->Prop} (h:j0 A tk φ β P F s vs it s') (k:∀(o:Obj) (fp:List Zi) (Pv:Nat->Value->Prop) (St:Nat->jao->Prop),Walks af wd A s.heap.objs.size fp [s.heap.objs.size] vs.length Pv St->St 0 (s.heap.push o)->(∀b∈fp,b=s.heap.objs.size\/(F b/\b<s.heap.objs.size))->(∀i x,Pv i x->∃v,vs[i]?=some v/\VR tk φ s.heap β P v x)->Q (.ref s.heap.objs.size) {s with heap:=s.heap.push o}):Q it s':=by
 refine yq h ?_;rintro o fp Pv St rfl rfl h1 h2 h3 h4;exact k o fp Pv St h1 h2 h3 h4
theorem HR(hA:A.handled=none)(hl:s.heap.IsList l xs.toArray)(hF:F l)(r:ar tk φ s.heap β P vs xs):
 Zd (Zf af wd) A (jdU (.ref l)) (j0 A tk φ β P F s vs) ax s:=by
 have a0:l<s.heap.objs.size:=by refine au hl λY e Y=>?_;exact Zz e
 refine wpAny_pyIter_list hl ⟨_,[s.heap.objs.size,l],λi v=>xs.toArray[i]?=some v,λi h=>h.IsListIter s.heap.objs.size l i/\h.IsList l xs.toArray,rfl,rfl,?_,⟨⟨_,Z3 _ rfl,rfl,rfl⟩,hl.push _⟩,λb hb=>?_,λi x hx=>?_⟩
 ·have:=Walks.list (prog:=af) (w:=wd) hA s.heap.objs.size l (jaI a0) xs.toArray;have be:xs.toArray.size=vs.length:=by rw[Zo,<-r.length]
  rw[be]at this;exact this
 ·simp only[ZT,jeu,or_false]at hb;rcases hb with rfl|rfl
  ·exact .inl rfl
  ·exact .inr ⟨hF,a0⟩
 ·refine au (r.getr (i:=i) (by simpa using hx)) λv h1 h2=>?_;exact aO v h1 h2
theorem VT(hA:A.handled=none)(hl:jgu s.heap l xs.toArray)(hF:F l)(r:ar tk φ s.heap β P vs xs):
 Zd (Zf af wd) A (jdU (.ref l)) (j0 A tk φ β P F s vs) ax s:=by
 have a0:l<s.heap.objs.size:=by refine au hl λY e Y=>?_;exact Zz e
 refine jjp hl ⟨_,[s.heap.objs.size,l],λi v=>xs.toArray[i]?=some v,λi h=>h.IsTupleIter s.heap.objs.size l i/\h.IsTuple l xs.toArray,rfl,rfl,?_,⟨⟨_,Z3 _ rfl,rfl,rfl⟩,Heap.IsTuple.push hl _⟩,λb hb=>?_,λi x hx=>?_⟩
 ·have:=Walks.tuple (prog:=af) (w:=wd) hA s.heap.objs.size l (jaI a0) xs.toArray;have be:xs.toArray.size=vs.length:=by rw[Zo,<-r.length]
  rw[be]at this;exact this
 ·simp only[ZT,jeu,or_false]at hb;rcases hb with rfl|rfl
  ·exact .inl rfl
  ·exact .inr ⟨hF,a0⟩
 ·refine au (r.getr (i:=i) (by simpa using hx)) λv h1 h2=>?_;exact aO v h1 h2
theorem VS{A:ZZ}{cs:List Nat}(hA:A.handled=none):
 Zd (Zf af wd) A (jdU (.str ⟨cs.toArray⟩ t)) (j0 A tk φ β P F s (cs.map λc=>.str [c])) ax s:=by
 refine wpAny_pyIter_str λo St W h0=>⟨o,[s.heap.objs.size],SignAt ⟨cs.toArray⟩,St,rfl,rfl,?_,h0,λb hb=>.inl (Zu.mp hb),λi x hx=>?_⟩
 ·have:=W A hA;simp only[Zo]at this;refine aa (Y4 _) ?_;exact this
 ·refine bA hx ?_;rintro c t' h1 rfl;refine aO (.str [c]) ?_ (.str [c] t');refine aa ZR ?_;have:cs[i]?=some c:=by simpa using h1
  refine aa this ?_;rfl
theorem VP{A:ZZ}{s:Y8}{ks:List Int}{vs:List AV}(hA:A.handled=none)(hd:s.heap.DictOf (jat af wd) d (ks.zip xs))(hY:(d==jah)=false)(hF:F d)(hl:ks.length=vs.length)(r:ar tk φ s.heap β P vs xs):
 Zd (Zf af wd) A (jdU (.ref d)) (j0 A tk φ β P F s ((ks.zip vs).map λe=>.int e.1)) ax s:=by
 refine aX hd.dictAt λep fu=>?_;have a0:=fu.lt_size;refine wpAny_pyIter_dict hY fu ⟨_,[s.heap.objs.size,d],λi v=>∃k x,(ks.zip xs)[i]?=some (k,x)/\(jat af wd).is k v=true,λi h=>h.IsKeyIter s.heap.objs.size d i (ks.zip xs).length ep/\h.DictAt (jat af wd) d (ks.zip xs) ep,rfl,rfl,?_,⟨⟨_,Z3 _ rfl,rfl,rfl⟩,fu.push _⟩,λb hb=>?_,λi x hx=>?_⟩
 ·have:=Walks.dictKeys hA s.heap.objs.size d (jaI a0) (ks.zip xs) ep (knd:=jat af wd);have aN:(ks.zip xs).length=((ks.zip vs).map λe=>AV.int e.1).length:=by refine aa (Y4 _) ?_;refine aa jbu ?_;refine aa jbu ?_;refine aa r.length ?_;rfl
  refine rwj aN ?_;exact this
 ·simp only[ZT,jeu,or_false]at hb;rcases hb with rfl|rfl
  ·exact .inl rfl
  ·exact .inr ⟨hF,a0⟩
 ·refine bA hx λk y h1 h2=>?_;refine aX (Value.isInt_shape h2) ?_;rintro t rfl;rw[jed]at h1;refine au (r.getr h1.2) λv hv Y=>?_;refine aO (.int k) ?_ (.int k t);refine aa ZR ?_;have:(ks.zip vs)[i]?=some (k,v):=by rw[jed];exact⟨h1.1,hv⟩
  refine aa this ?_;rfl
theorem HS(hA:A.handled=none)(R:ph s is v):Zd (Zf af wd) A (jdU v) (j0 A tk φ β P F s (is.map .int)) ax s:=by
 refine DH R ?_;rintro r a b c t u x n rfl hr hs hn aU rfl;refine wpAny_pyIter_range hr hs ⟨_,[s.heap.objs.size],λi v=>i<n/\∃t,v=.int (a+i*c) t,λi h=>IsRangeIter h s.heap.objs.size (a+(i:Nat)*c) ((n:Int)-(i:Nat)) c,rfl,rfl,?_,?_,λb hb=>.inl (Zu.mp hb),λi x hx=>?_⟩
 ·have W:=Walks.range (prog:=af) (w:=wd) hA s.heap.objs.size a c n;refine aa (Y4 _) ?_;rw[AX];exact⟨W.sub,W.frame,λi s Q E hi st hQ=>W.item i s Q E hi st λv h' t hv=>hQ v h' t ⟨hi,hv⟩,W.done,W.self⟩
 ·show IsRangeIter _ _ _ _ _;refine aa hn ?_;simpa using Z3 _ rfl
 ·obtain⟨hi,tt,rfl⟩:=hx;refine aO (.int (a+i*c)) ?_ (.int _ _);refine aa ZR ?_;refine aa (AW c n a i hi) ?_;rfl
theorem RX{C:AV->List AV->Prop}{v:AV}{vs:List AV}(e:oI σ v=some vs)(h1:∀l,C (.tup l) l)(h2:∀cs:List Nat,C (.str cs) (cs.map λc=>.str [c]))(h3:∀es:List (Int×AV),C (.dct es) (es.map λe=>.int e.1))(h4:∀l,C (.lst l) l)(h5:∀i vs,aQ σ (.ref i)=some vs->C (.ref i) vs):C v vs:=by
 induction v using AV.casesOn with
 |tup l=>exact aG e (h1 l)
 |str cs=>exact aG e (h2 cs)
 |dct es=>exact aG e (h3 es)
 |lst l=>exact aG e (h4 l)
 |ref i=>exact h5 i vs e
 |_=>exact ai e
theorem HU{A:ZZ}{s:Y8}{v:AV}{vs:List AV}{x:Value}(hA:A.handled=none)(O:cr tk φ s.heap β P σ)(hp:∀a,P a->(a==jah)=false)(e:oI σ v=some vs)(r:VR tk φ s.heap β P v x):
 Zd (Zf af wd) A (jdU x) (j0 A tk φ β P (λb=>P b\/(v.isRef=true/\b∈β)) s vs) ax s:=by
 refine RX (C:=λv vs=>VR tk φ s.heap β P v x->Zd (Zf af wd) A (jdU x) (j0 A tk φ β P (λb=>P b\/(v.isRef=true/\b∈β)) s vs) ax s) e (λl r=>?_) (λcs r=>?_) (λes r=>?_) (λl r=>?_) (λi vs e r=>?_) r
 ·exact r.e_tup λa xs e' p r=>VT hA e' (.inl p) r
 ·exact r.e_str λt=>VS hA
 ·exact r.e_dct λa ks vs xs e0 hl e' p r=>e0▸VP hA e' (hp _ p) (.inl p) hl r
 ·exact r.e_lst λa xs e' p r=>HR hA e'.isList (.inl p) r
 ·refine bS (fx O e r) ?_;rintro l xs rfl h1 r1;exact r.inv.elim λa q=>HR hA h1 (.inr ⟨rfl,ZK (jdM q.1▸q.2)⟩) r1
end
section
def kQ(sc:jaF)(cl:List (Str×Zi))(n:Nat):List (Str×Zi):=jbN (n+1) sc.names cl
def Hy(sc:jaF)(cl:List (Str×Zi))(C:Zi)(ab:Env):Env :=
 { scope:=sc,locals:=C,globals:=ab.globals,cells:=kQ sc cl C,qual:=ab.qual,func:=none,code:=ab.code,frame:=ab.frame,builtins:=ab.builtins}
def nO(sc:jaF)(cl:List (Str×Zi))(C:Zi)(ab:Env):Env:={Hy sc cl C ab with scope:=relabel sc ab}
theorem TD(h:Q (Hy sc cl s.heap.objs.size ab) {s with heap:=jfz (s.heap.push {cls:=.type "dict",data:=.dict #[]}) sc.names}):
 Zd M A (newFunctionEnv sc ab.globals cl [] ab.qual none .none (some ab)) Q E s:=by
 simp only[newFunctionEnv,Option.isSome_some,if_true];refine Zc (jiS ?_);refine Zc (wpAny_layCells _ (λname kind cells=>by cases hkc:kind==jbZ<;>simp[hkc]) _ _ _ _ ?_);refine aa (show({s with heap:=s.heap.push {cls:=.type "dict",data:=.dict #[]}}:Y8).heap.objs.size=s.heap.objs.size+1 from ZS ..) ?_;simp only[jcW];exact Zc (ZC (ZC h))
def dr(ab:Env):List (Str×jbi)->List (Str×Zi)->List (Str×Zi)
 | [],acc=>acc
 |(n,k)::r,acc=>if k==.free then dr ab r ((n,(ab.cells.lookup n).getD 0)::acc)else dr ab r acc
theorem uJ:dr ab ((n,k)::r) x =
 if(k==jak)=true then dr ab r ((n,Option.getD (jeh n ab.cells) 0)::x)
 else dr ab r x:=rfl
theorem xI(hf:∀n k acc,f (n,k) acc=if k==.free then(do let c <-jgH ab n;pure (.yield ((n,c)::acc)))else pure (.yield acc)):
 ∀(names:List (Str×jbi)) (acc:List (Str×Zi)),(∀n,(n,jak)∈names->∃c,ab.cells.lookup n=some c)->forIn names acc f=pure (dr ab names acc)
 | [],acc,_=>by refine aa jcW ?_;rfl
 |(n,k)::r,acc,h=>by
  rw[jdB,hf];have hr:∀n,(n,jak)∈r->∃c,ab.cells.lookup n=some c:=λn hn=>h n (ZB _ hn)
  induction hk:k==jak using ZL with
  |true =>
   have:k=.free:=eq_of_beq hk;subst this;refine aX (h n Zj) λc hc=>?_;have e:jgH ab n=pure c:=by unfold jgH;refine aa hc ?_;rfl
   rw[if_pos rfl,e,pure_bind,pure_bind];show forIn r ((n,c)::acc) f=_;refine aa (xI hf r _ hr) ?_
   conv=>rhs;rw[uJ]
   refine aa (if_pos hk) ?_;refine aa hc ?_;rfl
  |false =>
   refine aa (if_neg Z5) ?_;refine aa (pure_bind _ _) ?_;show forIn r acc f=_;refine aa (xI hf r _ hr) ?_
   conv=>rhs;rw[uJ]
   rw[if_neg (by refine aa hk ?_;exact Z5)]
theorem Cu(h:∀n,(n,jak)∈sc.names->∃c,ab.cells.lookup n=some c):jda sc ab=pure (dr ab sc.names []):=by
 simp only[jda];rw[xI (ab:=ab) (λn k acc=>by cases hk:k==jak<;>simp[hk]) sc.names [] h];rfl
set_option tactic.hygienic true in
theorem pJ:∀{names:List (Str×jbi)}{acc:List (Str×Zi)}{x:Str}{c:Zi},(dr ab names acc).lookup x=some c ->
 acc.lookup x=some c\/((x,jak)∈names/\(ab.cells.lookup x).getD 0=c)
 | [],acc,x,c,e=>.inl e
 |(n,k)::r,acc,x,c,e=>by
  rw[uJ]at e;split at e
  ·rename_i hk;rcases pJ e with e|e
   ·rw[Z1]at e;split at e
    ·rename_i hx;have:=eq_of_beq hx;have:=eq_of_beq hk
     subst_vars
     cases e;exact .inr ⟨Zj,rfl⟩
    ·exact .inl e
   ·exact .inr ⟨ZB _ e.1,e.2⟩
  ·rcases pJ e with e|e
   ·exact .inl e
   ·exact .inr ⟨ZB _ e.1,e.2⟩
set_option tactic.hygienic true in
theorem xG:∀{names:List (Str×jbi)}{acc:List (Str×Zi)}{x:Str},(x,jak)∈names\/(acc.lookup x).isSome=true->((dr ab names acc).lookup x).isSome=true
 | [],acc,x,h=>by
  rcases h with h|h
  ·cases h
  ·exact h
 |(n,k)::r,acc,x,h=>by
  rw[uJ];split
  ·rename_i hk;refine xG ?_;by_cases hx:x=n
   ·subst hx;right;simp
   ·rcases h with h|h
    ·rcases ZT.mp h with h|h
     ·cases h;exact absurd rfl hx
     ·exact .inl h
    ·right;refine aa Z1 ?_;have:(x==n)=false:=by simpa using hx
     refine aa this ?_;exact h
  ·rename_i hk;refine xG ?_;rcases h with h|h
   ·rcases ZT.mp h with h|h
    ·cases h;exact absurd rfl hk
    ·exact .inl h
   ·exact .inr h
theorem pH:∀(names:List (Str×jbi)) (n:Nat) (acc:List (Str×Zi)),jbN n names acc=jbN n names []++acc
 | [],_,_=>rfl
 |(x,k)::r,n,acc=>by
  unfold jbN;split
  ·rw[pH r (n+1) ((x,n)::acc),pH r (n+1) [(x,n)]];simp
  ·exact pH r n acc
theorem As{l l':List (Str×Zi)}:(l++l').lookup x=(l.lookup x).or (l'.lookup x):=by
 induction l with
 |nil=>rfl
 |cons a l ih =>
  obtain⟨y,c⟩:=a;refine aa jdl ?_;refine aa Z1 ?_;refine aa Z1 ?_;split
  ·rfl
  ·exact ih
set_option tactic.hygienic true in
theorem rX:∀{names:List (Str×jbi)}{n:Nat}{acc:List (Str×Zi)}{x:Str}{c:Zi},(x,c)∈jbN n names acc->(x,c)∈acc\/(x,jbZ)∈names
 | [],_,_,_,_,h=>.inl h
 |(y,k)::r,n,acc,x,c,h=>by
  unfold jbN at h;split at h
  ·rename_i hk;rcases rX h with h|h
   ·rcases ZT.mp h with h|h
    ·cases h;have:=eq_of_beq hk;subst this;exact .inr Zj
    ·exact .inl h
   ·exact .inr (ZB _ h)
  ·rcases rX h with h|h
   ·exact .inl h
   ·exact .inr (ZB _ h)
theorem lv{names:List (Str×jbi)}(hn:(names.map (·.1)).Nodup)(h:(x,k)∈names):names.lookup x=some k:=by
 induction names with
 |nil=>cases h
 |cons a r ih =>
  obtain⟨y,k'⟩:=a;rw[ZG,jaP]at hn;refine aa Z1 ?_;rcases ZT.mp h with h|h
  ·cases h;simp
  ·have:x≠y:=λq=>hn.1 (q▸Zq.mpr ⟨_,h,rfl⟩);have:(x==y)=false:=by simpa using this
   refine aa this ?_;exact ih hn.2 h
end
section
theorem GF{ab:Env}:∀{names:List (Str×jbi)},names.lookup x=some k ->
 (names.map λ(n,k)=>if(k==jak&&ab.scope.kind==.function&&ab.kindOf n==some .cell)then(n,jbZ)else(n,k)).lookup x =
  some (if(k==jak&&ab.scope.kind==.function&&ab.kindOf x==some .cell)then jbZ else k)
 | [],h=>by simp at h
 |(n,k')::r,h=>by
  rw[Z1]at h;refine aa ZG ?_
  induction hx:x==n using ZL with
  |true =>
   rw[hx]at h;cases h;have:=eq_of_beq hx;subst this;dsimp only;split<;>simp[Z1, *]
  |false =>
   rw[hx]at h;have ih:=GF (ab:=ab) h;dsimp only;split
   ·refine aa Z1 ?_;refine aa hx ?_;exact ih
   ·refine aa Z1 ?_;refine aa hx ?_;exact ih
theorem to{ab:Env}{sc:jaF}(h:sc.names.lookup x=some k):
 (nO sc cl C ab).kindOf x=some (if(k==jak&&ab.scope.kind==.function&&ab.kindOf x==some .cell)then jbZ else k):=GF h
set_option tactic.hygienic true in
theorem wc:∀{l:List (Str×Nat)},l.lookup x=some i->(x,i)∈l
 |(y,j)::l,h=>by
  rw[Z1]at h;split at h
  ·rename_i e;have:=eq_of_beq e;subst this;cases h;exact Zj
  ·exact ZB _ (wc h)
theorem qY{T:Tb}(h:T.var x=some i):(x,i)∈T.vars:=by
 unfold Tb.var at h;split at h
 ·split at h
  ·exact wc h
  ·cases h
 ·split at h
  ·exact wc h
  ·cases h
 ·split at h
  ·exact wc h
  ·cases h
 ·cases h
theorem tW(h:oS T=true):jx T:=by
 unfold oS at h;rw[Y']at h;refine⟨λx y i hx hy=>?_,λx i hx=>?_⟩
 ·have h1:=h _ (qY hx);rw[ZA,Y']at h1;have h2:=h1.2 _ (qY hy);simpa using h2
 ·have h1:=h _ (qY hx);rw[ZA]at h1;simpa using h1.1
def fN(P:Zi->Prop)(n n':Nat):Zi->Prop:=λa=>P a/\¬(n<=a/\a<n')
theorem ER.grow_out(TB:bz G s.heap)(R:ER G φ ab T ρ σ β P m s)(hk:ce s.heap h')(hz:s.heap.objs.size<=h'.objs.size)(ht:s.toks<=t):
 ER G φ ab T ρ σ β (fN P s.heap.objs.size h'.objs.size) m {s with heap:=h',toks:=t}:=by
 have f8:∀a o,P a->s.heap.get? a=some o->h'.get? a=some o/\fN P s.heap.objs.size h'.objs.size a:=λa o p e=>⟨hk a o e,p,λq=>Z0.mpr q.1 (Zz e)⟩
 refine⟨R.ns.keeps hk,R.len,λy j u hy hj=>?_,λy hy=>?_,λj o hj ho=>?_,λa ha=>ha.elim (λha=>⟨R.fresh a (Y5 hz ha),λq=>Z0.mpr (show h'.objs.size<=a from ha) q.2⟩) (λha=>⟨R.freshX a (.inr (iW hk TB a ha)),λq=>Z0.mpr q.1 (bM.lt TB (iW hk TB a ha))⟩),λa p=>R.psafe a p.1,R.bsafe,λa ha=>bf (R.blt a ha) hz,R.tk.fn,R.tk.pos,λt' y e=>bf (R.tk.lt t' y e) ht,bf R.tk.one ht⟩
 ·refine au (R.names y j u hy hj) λv' a b=>?_;exact aO v' (a.mono (λY Y e=>e) f8 (Zn _)) (b.keeps hk)
 ·refine bA (R.celled y hy) λc dk h1 h2=>?_;exact cZ c dk h1 (h2.keeps hk)
 ·refine au (R.objs j o hj ho) λa h1 h2=>?_;exact aO a h1 (h2.mono (λY Y e=>e) f8 (Zn _) λo e=>hk a o e)
structure kG(T:Tb) (sc:jaF):Prop where
 kind:sc.kind=.function
 nodup:(sc.names.map (·.1)).Nodup
 free:∀x,(x,jak)∈sc.names->T.celled x=true
 tb:jx (T.comp sc)
theorem AT:∀(names:List (Str×jbi)) (h:jao),h.objs.size<=(jfz h names).objs.size
 | [],h=>Y9 _
 |(_,k)::r,h=>by
  unfold jfz;split
  ·have:=AT r (h.push {cls:=.type "cell",data:=.cell none});rw[ZS]at this;exact ZO this
  ·exact AT r h
theorem KS(hE:bQ ab T)(h:T.celled x=true):ab.kindOf x=some .cell\/ab.kindOf x=some .free:=by
 unfold Tb.celled at h;rw[jbx]at h;rcases h with h|h
 ·exact .inl (hE.cel x (by simpa using h))
 ·exact hE.fre x (by simpa using h)
theorem wg(C:kG T sc)(R:ER G φ ab T ρ σ β P m s):
 (∀x c,(kQ sc (dr ab sc.names []) s.heap.objs.size).lookup x=some c ->
  ((x,jbZ)∈sc.names/\s.heap.objs.size<c/\(jfz (s.heap.push {cls:=.type "dict",data:=.dict #[]}) sc.names).IsCell c none) \/
  ((x,jak)∈sc.names/\ab.cells.lookup x=some c/\c<s.heap.objs.size)) /\
 (∀x,(x,jbZ)∈sc.names->∃c,(kQ sc (dr ab sc.names []) s.heap.objs.size).lookup x=some c/\s.heap.objs.size<c/\(jfz (s.heap.push {cls:=.type "dict",data:=.dict #[]}) sc.names).IsCell c none) /\
 (∀x,(x,jak)∈sc.names->∃c,(kQ sc (dr ab sc.names []) s.heap.objs.size).lookup x=some c/\ab.cells.lookup x=some c) /\
 (∀x y c,(x,c)∈jbN (s.heap.objs.size+1) sc.names []->(y,c)∈jbN (s.heap.objs.size+1) sc.names []->x=y):=by
 have ok:=cellsFrom_ok sc.names (s.heap.push {cls:=.type "dict",data:=.dict #[]}) (s.heap.objs.size+1) [] ⟨λY Y hm=>(nomatch hm),List.Pairwise.nil⟩ (by rw[ZS];exact Y9 _);rw[ZS]at ok;have split:∀x c,(kQ sc (dr ab sc.names []) s.heap.objs.size).lookup x=some c->(x,c)∈jbN (s.heap.objs.size+1) sc.names []\/((jbN (s.heap.objs.size+1) sc.names []).lookup x=none/\(dr ab sc.names []).lookup x=some c):=by
  intro x c e;unfold kQ at e;rw[pH,As]at e
  induction q:(jbN (s.heap.objs.size+1) sc.names []).lookup x using ae with
  |some c'=>rw[q]at e;cases e;exact .inl (mem_of_lookup q)
  |none=>rw[q]at e;exact .inr ⟨rfl,e⟩
 have Eg:∀x,(x,jak)∈sc.names->∃c,ab.cells.lookup x=some c/\c<s.heap.objs.size:=λx hx=>by
  refine bA (R.celled x (C.free x hx)) λc v h1 h2=>?_;exact aO c h1 h2.lt
 refine li (λx c e=>?_) (λx hx=>?_) (λx hx=>?_) (λx y c h1 h2=>name_of_addr ok.apart h1 h2)
 ·rcases split x c e with h|⟨_,h⟩
  ·have:=ok.empty x c h;rcases rX h with q|q
   ·cases q
   ·exact .inl ⟨q,this.2,this.1⟩
  ·rcases pJ h with q|⟨q,q'⟩
   ·cases q
   ·refine au (Eg x q) λc' h1 h2=>?_;rw[h1]at q';cases q';exact .inr ⟨q,h1,h2⟩
 ·have h1:=lv C.nodup hx;have h2:=jgo sc.names (s.heap.objs.size+1) (dr ab sc.names []) (.inl h1);refine aX (jcC.mp h2) λc hc=>?_;refine aO c hc ?_;rcases split x c hc with h|⟨_,h⟩
  ·have:=ok.empty x c h;exact⟨this.2,this.1⟩
  ·rcases pJ h with q|⟨q,q'⟩
   ·cases q
   ·have:=lv C.nodup q;rw[h1]at this;cases this
 ·have h1:=lv C.nodup hx;refine au (Eg x hx) λc hc a0=>?_;have h2:=xG (ab:=ab) (names:=sc.names) (acc:=[]) (x:=x) (.inl hx);refine aX (jcC.mp h2) λc' gN=>?_;have Pw:c'=c:=by
   rcases pJ gN with q|⟨q,q'⟩
   ·cases q
   ·rw[hc]at q';exact q'.symm
  subst Pw;refine aO c' ?_ hc;unfold kQ;rw[pH,As]
  induction q:(jbN (s.heap.objs.size+1) sc.names []).lookup x using ae with
  |none=>exact gN
  |some CF =>
   rcases rX (mem_of_lookup q)with q|q
   ·cases q
   ·have:=lv C.nodup q;rw[h1]at this;cases this
end
section
abbrev ft(h:jao)(sc:jaF):jao:=jfz (h.push {cls:=.type "dict",data:=.dict #[]}) sc.names
theorem Ee(h:jao)(sc:jaF):ce h (ft h sc):=λb o e=>pushCells_keeps _ _ b o (Zh _ e)
theorem Ef(h:jao)(sc:jaF):h.objs.size<(ft h sc).objs.size:=by
 have:=AT sc.names (h.push {cls:=.type "dict",data:=.dict #[]});rw[ZS]at this;exact this
theorem Mi(hE:bQ ab T)(C:kG T sc)(R:ER G φ ab T ρ σ β P m s):bQ (nO sc (dr ab sc.names []) s.heap.objs.size ab) (T.comp sc):=by
 refine pZ (wg (s:=s) C R) λc1 c2 c3 c4=>?_;refine⟨C.kind,λx hx=>?_,λx hx=>?_,λx hx=>?_,λx y c hx hy=>?_,λx hx=>?_,hE.g,hE.b⟩
 ·exact to hx
 ·exact to hx
 ·have:=to (ab:=ab) (cl:=dr ab sc.names []) (C:=s.heap.objs.size) (sc:=sc) hx;refine aa this ?_;split
  ·exact .inl rfl
  ·exact .inr rfl
 ·rcases c1 x c hx with⟨a1,a2,a3⟩|⟨a1,a2,a3⟩<;>rcases c1 y c hy with⟨b1,b2,b3⟩|⟨b1,b2,b3⟩
  ·have key:∀z,(z,jbZ)∈sc.names->(kQ sc (dr ab sc.names []) s.heap.objs.size).lookup z=some c->(z,c)∈jbN (s.heap.objs.size+1) sc.names []:=by
    intro z hz e;unfold kQ at e;rw[pH,As]at e
    induction q:(jbN (s.heap.objs.size+1) sc.names []).lookup z using ae with
    |some c'=>rw[q]at e;cases e;exact mem_of_lookup q
    |none =>
     rw[q]at e;rcases pJ (show(dr ab sc.names []).lookup z=some c from e)with q|⟨q,_⟩
     ·cases q
     ·have h1:=lv C.nodup hz;have h2:=lv C.nodup q;rw[h1]at h2;cases h2
   exact c4 x y c (key x a1 hx) (key y b1 hy)
  ·exact absurd a2 (jeG b3)
  ·exact absurd b2 (jeG a3)
  ·exact hE.inj x y c a2 b2
 ·exact to hx
set_option tactic.hygienic true in
theorem N1(h:x∈qg sc):(x,jak)∈sc.names:=by
 unfold qg at h;refine au (jdQ.mp h) λz1 h1 h2=>?_;obtain⟨n,k⟩:=z1;simp only at h2;split at h2
 ·rename_i hk;cases h2;have:=eq_of_beq hk;subst this;exact h1
 ·cases h2
theorem Lj(C:kG T sc)(h:(T.comp sc).var x=some i):
 (T.next<=i)\/((x,jak)∈sc.names/\T.var x=some i):=by
 have hm:=qY h;simp only[Tb.comp,ZI,Zq,jdQ]at hm;rcases hm with⟨⟨n,j⟩,_,e⟩|⟨n,hn,e⟩
 ·cases e;exact .inl (ZH _ _)
 ·refine au (Zw.mp e) λi' hi e=>?_;cases e;exact .inr ⟨N1 hn,hi⟩
theorem Ms(hE:bQ ab T)(C:kG T sc)(mz:ER G φ ab T ρ σ β P m s)(R:ER G φ ab T ρ σ β P' m {s with heap:=ft s.heap sc}):
 ER G φ (nO sc (dr ab sc.names []) s.heap.objs.size ab) (T.comp sc) (ρ++Zm (eB sc).length none) σ β P' (λY=>none) {s with heap:=ft s.heap sc}:=by
 refine pZ (wg (s:=s) C mz) λc1 c2 c3 c4=>?_;refine⟨(Heap.Ns.new s.heap (.type "dict")).keeps (pushCells_keeps _ _),?_,λx i v hx hv=>?_,λx hx=>?_,R.objs,R.freshX,R.psafe,λa ha=>?_,R.blt,R.tk⟩
 ·refine aa Ze ?_;refine aa jaB ?_;refine aa R.len ?_;rfl
 ·rcases Lj C hx with h|⟨h1,h2⟩
  ·rw[Zk (by refine aa R.len ?_;exact h)]at hv;rw[jcQ]at hv;split at hv
   ·cases hv
   ·cases hv
  ·have a0:i<ρ.length:=by
    rcases jcd i ρ.length with q|q
    ·exact q
    ·rw[Zk q,jcQ]at hv;split at hv<;>cases hv
   rw[Zx a0]at hv;refine au (R.names x i v h2 hv) λv' a b=>?_;refine aO v' a (.inr ?_);have hk:=KS hE (C.free x h1);refine au (c3 x h1) λc e1 e2=>?_;have ow:=to (ab:=ab) (cl:=dr ab sc.names []) (C:=s.heap.objs.size) (lv C.nodup h1);refine lj c e1 ?_ ?_
   ·refine aa ow ?_;split
    ·exact .inl rfl
    ·exact .inr rfl
   ·rcases b with⟨b,_⟩|⟨c',b1,b2,b3⟩
    ·rcases hk with hk|hk<;>rw[hk]at b<;>cases b
    ·rw[e2]at b1;cases b1;exact b3
 ·have fe:sc.names.lookup x=some .cell\/sc.names.lookup x=some .free:=by
   unfold Tb.celled at hx;rw[jbx]at hx;exact hx.imp (λq=>eq_of_beq q) λq=>eq_of_beq q
  rcases fe with q|q
  ·refine fq (c2 x (mem_of_lookup q)) λc e1 e2 e3=>?_;exact cZ c none e1 e3
  ·refine au (c3 x (mem_of_lookup q)) λc e1 e2=>?_;refine bA (mz.celled x (C.free x (mem_of_lookup q))) λc' dk e3 e4=>?_;rw[e2]at e3;cases e3;exact cZ c dk e1 (e4.keeps (Ee _ _))
 ·have safe:∀b,s.heap.objs.size<=b->eY G b:=λb hb=>mz.psafe b (mz.fresh b hb);rcases ha with ha|ha|⟨x,hx⟩
  ·exact R.bsafe a (.inl ha)
  ·refine aa ha ?_;exact safe _ (Y9 _)
  ·rcases c1 x a hx with⟨_,q,_⟩|⟨_,q,_⟩
   ·exact safe a (ZO q)
   ·exact R.bsafe a (.inr (.inr ⟨x,q⟩))
theorem OE(C:kG T sc)(mz:ER G φ ab T ρ σ β P m s)(hP:∀a,P' a->¬(s.heap.objs.size<=a/\a<(ft s.heap sc).objs.size)):
 mr (nO sc (dr ab sc.names []) s.heap.objs.size ab) (T.comp sc) β P':=by
 refine pZ (wg (s:=s) C mz) λc1 c2 c3 c4=>?_;refine⟨λp=>hP _ p ⟨Y9 _,Ef _ _⟩,λhb=>Zv _ (mz.blt _ hb),λx hx=>?_⟩;refine fq (c2 x (mem_of_lookup hx)) λc e1 e2 e3=>?_;refine lj c e1 (λp=>hP _ p ⟨ZO e2,e3.lt⟩) (λhb=>?_);exact jeG e2 (mz.blt _ hb)
end
section
theorem Iu(hg:gens[d]?=some ⟨.Name x px,iter,ifs,0⟩)(h:Zd (Zf af wd) A (pyNext I) (λr ak=>match r with
 |none=>Q (.done .next) ak
 |some v=>Zd (Zf af wd) A (jdC ab x v) (λY aC =>
  Zd (Zf af wd) A (forIn ifs true λc r=>if r=true then do let ok <-jby c ab (jae c ab);pure (jbY ok)else pure (jbY r)) (λok dj =>
   if ok=true then(match gens[d+1]? with
    |some g'=>Zd (Zf af wd) A (jae g'.iter ab) (λxv eE=>Zd (Zf af wd) A (jcx g'.iter ab xv) (λyv dN=>Zd (Zf af wd) A (jdU yv) (λit qV =>
     Zd (Zf af wd) A (runOwn (.compStart (.ListComp aD gens sc pos) (d+1) it acc ab) ab) (λY lA=>Q (.again (.compLoop (.ListComp aD gens sc pos) d I acc ab)) lA) E qV) E dN) E eE) E dj
    |none=>Zd (Zf af wd) A (jae aD ab) (λy eE=>Zd (Zf af wd) A (call (.builtin "list.append") [acc,y]) (λY dN=>Q (.again (.compLoop (.ListComp aD gens sc pos) d I acc ab)) dN) E eE) E dj)
   else Q (.again (.compLoop (.ListComp aD gens sc pos) d I acc ab)) dj) E aC) E ak) E s) (ha:∀g',gens[d+1]?=some g'->g'.is_async=0):
 Zd (Zf af wd) A (jiX (.ListComp aD gens sc pos) d I acc ab) Q E s:=by
 unfold jiX;dsimp only;refine aa hg ?_;dsimp only;refine Zc (jbe ?_);refine Zc (jav h (λr ak aY=>?_) λY Y e=>e)
 induction r using ae with
 |none=>exact ZC aY
 |some v =>
  dsimp only at aY ⊢;refine Zc (jiP (a:=()) rfl ?_);refine Zc (jeB (jav aY (λY aC cy=>?_) λY Y e=>e));refine Zc (jav cy (λok dj lg=>?_) λY Y e=>e)
  induction ok using ZL with
  |false=>exact ZC lg
  |true =>
   rw[if_pos rfl]at lg
   induction m5:gens[d+1]? using ae with
   |none =>
    rw[m5]at lg;dsimp only at lg ⊢;exact Zc (Zc (jav lg (λy eE zV=>Zc (jav zV (λY dN lh=>ZC (ZC lh)) λY Y e=>e)) λY Y e=>e))
   |some g' =>
    rw[m5]at lg;have h0:(g'.is_async != 0)=false:=by refine aa (ha g' m5) ?_;rfl
    dsimp only at lg ⊢;simp only[h0,jcM,if_false];refine Zc (jav lg (λxv eE zV=>Zc (jbe (Zc (jav zV (λyv dN lh=>?_) λY Y e=>e)))) λY Y e=>e);exact Zc (jaS (jav lh (λit qV Rc=>Zc (jav Rc (λY lA Rd=>ZC Rd) λY Y e=>e)) λY Y e=>e))
end
section
def eH(ab:Env)(T:Tb)(D:Zi)(b:Zi):Prop:=b=D\/b=ab.locals\/∃x,T.names.lookup x=some .cell/\ab.cells.lookup x=some b
structure LS(G:GD) (sB:Y8) (aj:Gh) (ab:Env) (T:Tb) (σ:aA) (β:List Zi) (D:Zi) (φ:Gh) (ρ:aB) (acc:List AV) (P:Zi->Prop) (m:Str->Option Value) (s:Y8):Prop where
 base:∃h t,s={sB with heap:=h,toks:=t}
 old:∀b o,¬G.X b->sB.heap.get? b=some o->s.heap.get? b=some o
 size:sB.heap.objs.size<=s.heap.objs.size
 sub:∀t x,aj t x->φ t x
 er:ER G φ ab T ρ σ β P m s
 fr:mr ab T β P
 dP:¬P D
 dβ:D∉β
 acc:∃xs,s.heap.PlainList D xs.toArray/\ar G.tok φ s.heap β P acc xs
 tabs:bz G s.heap/\∀c,bM G s.heap c->bM G sB.heap c\/sB.heap.objs.size<=c
theorem LS.own{acc:List AV}(L:LS G sB aj ab T σ β D φ ρ acc P m s):∀b,eH ab T D b->¬P b/\b∉β:=by
 intro b hb;rcases hb with rfl|rfl|⟨x,h1,h2⟩
 ·exact⟨L.dP,L.dβ⟩
 ·exact⟨L.fr.ploc,L.fr.bloc⟩
 ·refine fq (L.fr.own x h1) λc e1 e2 e3=>?_;rw[h2]at e1;cases e1;exact⟨e2,e3⟩
theorem LS.inv{acc:List AV}(L:LS G sB aj ab T σ β D φ ρ acc P m s)(I:bh G sB.heap):bh G s.heap:=I.keepsX L.old L.tabs.1
theorem bz.notX_list(x:bz G h)(n:h.PlainList a xs):¬G.X a/\¬bM G h a:=let⟨n,e⟩:=n;⟨x.notX_data e (λvs q=>nomatch q),x.noHas e (λvs q=>nomatch q)⟩
theorem LS.go{acc:List AV}(L:LS G sB aj ab T σ β D φ ρ acc P m s)(k:GX G s φ s' am):LS G sB aj ab T σ β D am ρ acc P m s' where
 base:=by
  refine dW L.base ?_;rintro h t rfl;refine bA k.grows.keeps λh' t' e Y=>?_;exact jQ h' t' e
 old:=λb o hb e=>k.ext b o hb (L.old b o hb e)
 size:=Y5 L.size k.grows.size
 sub:=λt x e=>k.sub t x (L.sub t x e)
 er:=L.er.go k L.tabs.1
 fr:=L.fr
 dP:=L.dP
 dβ:=L.dβ
 acc:=let⟨xs,h1,h2⟩:=L.acc;⟨xs,h1.at λo=>k.ext _ o (L.tabs.1.notX_list h1).1,L.er.vrs k h2⟩
 tabs:=by
  refine bN (k.tabs L.tabs.1) λh1 h2=>?_;exact⟨h1,λc hc=>(h2 c hc).elim (L.tabs.2 c) λq=>.inr (Y5 L.size q)⟩
theorem LS.done{acc:List AV}(L:LS G sB aj ab T σ β D φ ρ acc P m s):GX G sB aj s φ:=by
 have o:=L.old;have z:=L.size;have k:=L.er.tk;have tb:=L.tabs;refine dW L.base ?_;rintro h t rfl;exact⟨⟨⟨h,t,rfl,o⟩,z⟩,L.sub,k,λY=>tb⟩
theorem LS.forget{acc:List AV}(L:LS G sB aj ab T σ β D φ av acc P m s)(hl:ρ.length=av.length)(h:∀(i:Nat) (v:AV),ρ[i]?=some (some v)->av[i]?=some (some v)):LS G sB aj ab T σ β D φ ρ acc P m s :=
 { L with er:=L.er.forget hl h}
theorem G7{h:jao}(hn:h.Ns a m)(hc:h.PlainList D xs):a≠D:=by
 rintro rfl;refine kf hn λo es ep ho hd Y=>?_;refine aX hc λn kl=>?_;rw[ho]at kl;cases kl;cases hd
theorem Cq{h:jao}(hn:h.IsCell c v)(hc:h.PlainList D xs):c≠D:=by
 rintro rfl;refine au hn λo ho hd=>?_;refine aX hc λn kl=>?_;rw[ho]at kl;cases kl;cases hd
theorem LS.store{acc:List AV}(hE:bQ ab T)(hT:jx T)(hx:T.var x=some i)(hk:T.names.lookup x=some .local\/T.names.lookup x=some .cell)(dZ:∀b,eH ab T D b->sB.heap.get? b=none)(L:LS G sB aj ab T σ β D φ ρ acc P m s)(r:VR G.tok φ s.heap β P v xv)(hQ:∀s' m',LS G sB aj ab T σ β D φ (ρ.set i (some v)) acc P m' s'->(∀b o,¬eH ab T D b->s.heap.get? b=some o->s'.heap.get? b=some o)->s.heap.objs.size<=s'.heap.objs.size->Q () s'):
 Zd (Zf af wd) A (jdC ab x xv) Q E s:=by
 refine HW L.tabs.1 hE hT hx hk L.er L.fr r λh' t m' ir ht hs jj R TT=>?_;have jO:eH ab T D ir:=by
  rcases ht with rfl|⟨h1,h2⟩
  ·exact .inr (.inl rfl)
  ·exact .inr (.inr ⟨x,h2,h1⟩)
 refine dW L.base λhh tt e=>?_;refine au L.acc λxs a1 a2=>?_;have QR:D≠ir:=by
  rcases ht with rfl|⟨h1,h2⟩
  ·exact jeI (G7 L.er.ns a1)
  ·refine bA (L.er.celled x (by unfold Tb.celled;refine aa h2 ?_;rfl)) λc dk e1 e2=>?_;rw[h1]at e1;cases e1;exact jeI (Cq e2 a1)
 refine hQ _ m' ⟨⟨h',t,by refine aa e ?_;rfl⟩,λb o hb e=>hs.extBut b o (λq=>?_) (L.old b o hb e),?_,L.sub,R,L.fr,L.dP,L.dβ,⟨xs,a1.at λo e=>hs.extBut _ o QR e,a2.mono (λY Y e=>e) (λa o p e=>⟨hs.extBut a o (λq=>(L.own ir jO).1 (q▸p)) e,p⟩) (Zn _)⟩,TT.1,λc q=>L.tabs.2 c (TT.2 c q)⟩
  (λb o hb e=>hs.extBut b o (λq=>hb (q▸jO)) e) ?_
 ·subst q;rw[dZ b jO]at e;cases e
 ·exact Y5 L.size (ZP hs.1.symm)
 ·exact ZP hs.1.symm
theorem LS.append{acc:List AV}(dZ:∀b,eH ab T D b->sB.heap.get? b=none)(L:LS G sB aj ab T σ β D φ ρ acc P m s)(r:VR G.tok φ s.heap β P v xv)(aU:acc.length<=100000)(hQ:∀x s',LS G sB aj ab T σ β D φ ρ (acc++[v]) P m s'->(∀b o,¬eH ab T D b->s.heap.get? b=some o->s'.heap.get? b=some o)->s.heap.objs.size<=s'.heap.objs.size->Q x s'):
 Zd (Zf af wd) A (call (.builtin "list.append") [.ref D,xv]) Q E s:=by
 refine au L.acc λxs a1 a2=>?_;refine jhX a1 (λh' hZ hs=>?_) (by refine aa Zo ?_;refine rwj a2.length ?_;exact d9 aU);have jO:eH ab T D D:=.inl rfl;refine dW L.base λhh tt e=>?_;have hk:∀a o,P a->s.heap.get? a=some o->h'.get? a=some o/\P a:=λa o p e=>⟨hs.extBut a o (λq=>L.dP (q▸p)) e,p⟩
 have R:ER G φ ab T ρ σ β P m {s with heap:=h',toks:=s.toks}:=L.er.but (X:=(·=D)) L.tabs.1 (λb hb q=>(L.tabs.1.notX_list a1).1 (q▸hb)) (λb o hb e=>hs.extBut b o hb e) (ZP hs.1.symm) (Y9 _)
  (λa p q=>L.dP (q▸p)) (λa p q=>L.dβ (q▸p)) (G7 L.er.ns a1) (λx c v hc hi q=>Cq hi a1 q)
 have TT:=L.tabs.1.but (λb o hb e=>hs.extBut b o hb e) (L.tabs.1.notX_list a1).1 (L.tabs.1.notX_list a1).2;refine hQ _ _ ⟨⟨h',s.toks,by refine aa e ?_;rfl⟩,λb o hb e=>hs.extBut b o (λq=>?_) (L.old b o hb e),Y5 L.size (ZP hs.1.symm),L.sub,R,L.fr,L.dP,L.dβ,⟨xs++[xv],by simpa using hZ,(a2.append (.single r)).mono (λY Y e=>e) hk (Zn _)⟩,TT.1,λc q=>L.tabs.2 c (TT.2 c q)⟩
  (λb o hb e=>hs.extBut b o (λq=>hb (q▸jO)) e) (ZP hs.1.symm)
 subst q;rw[dZ _ jO]at e;cases e
end
section
theorem OR.weak{G:GD}(hk:∀a,P a->P' a)(r:OR G.tok φ h β P o a):OR G.tok φ h β P' o a :=
 r.mono (λY Y e=>e) (λa o p e=>⟨e,hk a p⟩) (Zn _) λY e=>e
theorem ER.weak(R:ER G φ ab T ρ σ β P m s)(hk:∀a,P a->P' a)(hp:∀a,P' a->eY G a):ER G φ ab T ρ σ β P' m s :=
 { R with names:=λx i v h1 h2=>(let⟨v',a,b⟩:=R.names x i v h1 h2;⟨v',a.weak hk,b⟩),objs:=λj o h1 h2=>(let⟨a,h3,h4⟩:=R.objs j o h1 h2;⟨a,h3,h4.weak hk⟩),freshX:=λa h=>hk a (R.freshX a h),psafe:=hp}
theorem LS.weak{acc:List AV}(L:LS G sB aj ab T σ β D φ ρ acc P m s)(hk:∀a,P a->P' a)(hp:∀a,P' a->eY G a)(hf:mr ab T β P')(hd:¬P' D):LS G sB aj ab T σ β D φ ρ acc P' m s :=
 { L with er:=L.er.weak hk hp,fr:=hf,dP:=hd,acc:=let⟨xs,h1,h2⟩:=L.acc;⟨xs,h1,h2.weak hk⟩}
abbrev zY(ab:Env):Expr->Bool->Sem (ForInStep Bool):=λc r=>if r=true then do let ok <-jby c ab (jae c ab);pure (jbY ok)else pure (jbY r)
theorem F2:∀(ifs:List Expr),forIn ifs false (zY ab)=pure false
 | []=>by refine aa jcW ?_;rfl
 |c::r=>by
  rw[jdB];show(pure (jbY false) >>= _)=_;refine aa (pure_bind _ _) ?_;exact F2 r
theorem zZ:∀{ifs:List Expr}{r:Bool},(∀c∈ifs,∀b,ev Φ σ ρ (ao T c)=some (.bool b)->TS G A ab T ρ σ (jby c ab (jae c ab)) b) ->
 cS Φ σ ρ (bg T ifs)=some r->TS G A ab T ρ σ (forIn ifs true (zY ab)) r
 | [],r,_,e=>λs φ β P m I R=>by
  refine aa jcW ?_;simp only[Ij,t0,nW,kT]at e;cases e;exact ZC ⟨rfl,φ,.refl R.tk⟩
 |c::ifs,r,h,e=>λs φ β P m I R=>by
  rw[jdB];rw[t0,kT]at e
  induction hc:ev Φ σ ρ (ao T c)using ae with
  |none=>rw[hc]at e;exact ai e
  |some v =>
   rw[hc]at e
   induction v using AV.casesOn with
   |bool b =>
    induction b using ZL with
    |true =>
     refine Zc (Zc ((h c Zj true hc).post I R λak ay aw bd aI=>ZC ?_));exact up (zZ (λc hc=>h c (ZB _ hc)) e ak ay β P m bd aI) λb aC ⟨e,aV,aP⟩=>⟨e,aV,aw.trans aP⟩
    |false =>
     have e:some false=some r:=e;cases e;refine Zc (Zc ((h c Zj false hc).post I R λak ay aw bd aI=>ZC ?_));show Zd _ _ (forIn ifs false (zY ab)) _ _ ak;refine aa (F2 _) ?_;exact ZC ⟨rfl,ay,aw⟩
   |_=>exact ai e
end
section
structure I7(G:GD) (ab:Env) (T:Tb) (D:Zi) (s s':Y8):Prop where
 keep:∀b o,¬eH ab T D b->¬G.X b->s.heap.get? b=some o->s'.heap.get? b=some o
 size:s.heap.objs.size<=s'.heap.objs.size
theorem LS.moved{acc:List AV}(L:LS G sB aj ab T σ β D φ ρ acc P m s)(hI:¬P I)(qm:I∉β)(fI:¬eH ab T D I)(ki:sB.heap.get? I=none)(jb:∀x c,ab.cells.lookup x=some c->c≠I)(lW:¬G.X I)(hk:∀b o,b≠I->s.heap.get? b=some o->h'.get? b=some o)(u:Up s {s with heap:=h',toks:=t}):LS G sB aj ab T σ β D φ ρ acc P m {s with heap:=h',toks:=t}:=by
 refine dW L.base λhh tt e=>?_;refine au L.acc λxs a1 a2=>?_;have TT:=L.tabs.1.but (a:=I) hk lW λq=>hI (L.er.freshX I (.inr q));have R:=L.er.but (X:=(·=I)) (h':=h') (t:=t) L.tabs.1 (λb hb q=>lW (q▸hb)) (λb o hb e=>hk b o hb e) u.size u.toks (λa p q=>hI (q▸p)) (λa p q=>qm (q▸p)) (λq=>fI (.inr (.inl q.symm))) (λx c v hc hi q=>jb x c hc q);refine⟨⟨h',t,by refine aa e ?_;rfl⟩,λb o hb e=>hk b o (λq=>?_) (L.old b o hb e),Y5 L.size u.size,L.sub,R,L.fr,L.dP,L.dβ,⟨xs,a1.at λo e=>hk _ o (λq=>fI (.inl q.symm)) e,a2.mono (λY Y e=>e) (λa o p e=>⟨hk a o (λq=>hI (q▸p)) e,p⟩) (Zn _)⟩,TT.1,λc q=>L.tabs.2 c (TT.2 c q)⟩;subst q;rw[ki]at e;cases e
def RS(G:GD)(A:ZZ)(sB:Y8)(aj:Gh)(ab:Env)(T:Tb)(σ:aA)(β:List Zi)(D:Zi)(P:Zi->Prop)(aD:Expr)(gens:List jam)(sc:jaF)(pos:Pos)(d:Nat)(ρ:aB)(res:List AV):Prop :=
 ∀φ acc m s (Q:Y8->Prop) (E:Value->Y8->Prop),LS G sB aj ab T σ β D φ ρ acc P m s->(acc++res).length<=100000 ->
  (∀am m' s',LS G sB aj ab T σ β D am ρ (acc++res) P m' s'->I7 G ab T D s s'->(∀t x,φ t x->am t x)->Q s') ->
  match gens[d]? with
  |some g'=>Zd (Zf af wd) A (jae g'.iter ab) (λxv eE=>Zd (Zf af wd) A (jcx g'.iter ab xv) (λyv dN=>Zd (Zf af wd) A (jdU yv) (λit qV =>
   Zd (Zf af wd) A (runOwn (.compStart (.ListComp aD gens sc pos) d it (.ref D) ab) ab) (λY lA=>Q lA) E qV) E dN) E eE) E s
  |none=>Zd (Zf af wd) A (jae aD ab) (λy eE=>Zd (Zf af wd) A (call (.builtin "list.append") [.ref D,y]) (λY dN=>Q dN) E eE) E s
theorem N5(h:fZ f (v::vs)=some res):∃bs cs,res=bs++cs/\f v=some bs/\fZ f vs=some cs:=by
 rw[u6]at h
 induction h1:f v using ae with
 |none=>rw[h1]at h;exact ai h
 |some bs =>
  rw[h1]at h
  induction h2:fZ f vs using ae with
  |none=>rw[h2]at h;exact ai h
  |some cs=>rw[h2]at h;exact nc bs cs ((Y7 h).symm) rfl rfl
theorem Wp{o:Option Bool}{g:Option (List AV)}{bs:List AV}{Q:Prop}(h:(match o with|some true=>g|some false=>some []|none=>none)=some bs)(h1:o=some true->g=some bs->Q)(h2:o=some false->bs=[]->Q):Q:=by
 induction o using ae with
 |none=>exact ai h
 |some b=>induction b using ZL with
  |true=>exact h1 rfl h
  |false=>exact h2 rfl (Y7 h).symm
theorem CA{ab:Env}{T:Tb}{ρ:aB}{G:GD}{sB:Y8}{Φ:cX}{aD iter:Expr}{gens:List jam}{sc:jaF}{pos px:Pos}{x:Str}{ifs:List Expr}{d i:Nat}{I:Zi}{fp:List Zi}{Pv:Nat->Value->Prop}{St:Nat->jao->Prop}{vs:List AV}{g:aB->Option (List AV)}{R:Result->Y8->Prop}(hE:bQ ab T)(hT:jx T)(hx:T.var x=some i)(hk:T.names.lookup x=some .local\/T.names.lookup x=some .cell)(fv:ρ[i]?=some none)(hg:gens[d]?=some ⟨.Name x px,iter,ifs,0⟩)(ha:∀g',gens[d+1]?=some g'->g'.is_async=0)(dZ:∀b,eH ab T D b->sB.heap.get? b=none)(IB:bh G sB.heap)(E7:∀v,∀c∈ifs,∀b,ev Φ σ (ρ.set i (some v)) (ao T c)=some (.bool b)->TS G A ab T (ρ.set i (some v)) σ (jby c ab (jae c ab)) b)(eR:∀v res,g (ρ.set i (some v))=some res->RS G A sB aj ab T σ β D P aD gens sc pos (d+1) (ρ.set i (some v)) res)(W:Walks af wd A I fp [I] vs.length Pv St)(la:∀b∈fp,b=I\/(¬eH ab T D b/\¬G.X b))(lW:¬G.X I)(hI:¬P I)(qm:I∉β)(fI:¬eH ab T D I)(ki:sB.heap.get? I=none)(jb:∀x c,ab.cells.lookup x=some c->c≠I):
 ∀(k j:Nat) (φ:Gh) (acc res:List AV) (m:Str->Option Value) (s:Y8),vs.length-j=k->j<=vs.length->LS G sB aj ab T σ β D φ ρ acc P m s->St j s.heap ->
  fZ (λv=>match cS Φ σ (ρ.set i (some v)) (bg T ifs)with|some true=>g (ρ.set i (some v))|some false=>some []|none=>none) (vs.drop j)=some res->(acc++res).length<=100000 ->
  (∀j x,Pv j x->∃v,vs[j]?=some v/\VR G.tok φ s.heap β P v x) ->
  (∀am m' s',LS G sB aj ab T σ β D am ρ (acc++res) P m' s'->(∀b o,b≠I->¬eH ab T D b->¬G.X b->s.heap.get? b=some o->s'.heap.get? b=some o)->s.heap.objs.size<=s'.heap.objs.size->(∀t x,φ t x->am t x)->R (.ok .next) s') ->
  jeZ (Zf af wd) A (.compLoop (.ListComp aD gens sc pos) d (.ref I) (.ref D) ab) R s:=by
 intro k
 induction k with
 |zero =>
  intro j φ acc res m s hj Fa L cM iO aU jg hR;have jL:j=vs.length:=by lia
  rw[jL,jiK]at iO;rw[jL]at cM;clear jg aU hj Fa;have e:res=[]:=(Y7 iO).symm;subst e;refine jhe ?_;show Zd _ A ((jiX (.ListComp aD gens sc pos) d (.ref I) (.ref D) ab).onRaise (λx=>do noteFrame x ab;theTreesLotGoes x)) _ _ s;refine wpAny_noted (Iu hg ?_ ha);refine eF (W.done s _ _ cM λh' t f8 u=>?_);have qu:∀b o,b≠I->s.heap.get? b=some o->h'.get? b=some o:=λb o hb e=>f8 b o (λq=>hb (Zu.mp q)) e;exact hR φ m _ ((Z6 acc).symm▸L.moved hI qm fI ki jb lW qu u) (λb o hb Y Y e=>qu b o hb e) u.size λY Y e=>e
 |succ k ih =>
  intro j φ acc res m s hj Fa L cM iO aU jg hR;have a0:j<vs.length:=BE hj;rw[jcA a0]at iO;refine bS (N5 iO) ?_;rintro bs cs rfl je EW;clear iO;have rv:∀xv,Pv j xv->VR G.tok φ s.heap β P vs[j] xv:=λxv h=>(jg j xv h).elim λv e=>Y7 ((Zg a0).symm.trans e.1)▸e.2;generalize vs[j]=v at *;have fin:∀am m' s',LS G sB aj ab T σ β D am (ρ.set i (some v)) (acc++bs) P m' s'->St (j+1) s'.heap->(∀b o,b≠I->¬eH ab T D b->¬G.X b->s.heap.get? b=some o->s'.heap.get? b=some o)->s.heap.objs.size<=s'.heap.objs.size->(∀t x,φ t x->am t x) ->
   jeZ (Zf af wd) A (.compLoop (.ListComp aD gens sc pos) d (.ref I) (.ref D) ab) R s':=λam m' s' rt st kk zz ss=>by
   refine ih (j+1) am (acc++bs) cs m' s' (X5 hj) a0 (rt.forget (by refine aa jbP ?_;rfl) λl u hl=>?_) st EW (by rw[jaD];exact aU) (λj x hx=>(jg j x hx).elim λv e=>aO v e.1 (e.2.mono ss (λa o p e=>⟨kk a o (λq=>hI (q▸p)) (λq=>(L.own a q).1 p) (L.er.psafe a p).2 e,p⟩) (Zn _))) λmq jR eE wU Sc X6 Ba=>?_
   ·by_cases q:i=l
    ·subst q;rw[fv]at hl;exact nomatch hl
    ·refine aa (jhD q) ?_;exact hl
   ·exact hR mq jR eE (jaD acc bs cs▸wU) (λb o hb ho hX e=>Sc b o hb ho hX (kk b o hb ho hX e)) (Y5 zz X6) λt x e=>Ba t x (ss t x e)
  have vB:(acc++bs).length<=100000:=Y5 (by rewrite [<-jaD];refine aa (Ze (as:=acc++bs)) ?_;exact ZH _ _) aU;clear ih jg EW aU hR;refine jhe ?_;show Zd _ A ((jiX (.ListComp aD gens sc pos) d (.ref I) (.ref D) ab).onRaise (λx=>do noteFrame x ab;theTreesLotGoes x)) _ _ s;refine wpAny_noted (Iu hg ?_ ha);refine eF (W.item j s _ _ a0 cM λxv h' t vd oF f8 u=>?_);have qu:∀b o,b≠I->s.heap.get? b=some o->h'.get? b=some o:=λb o hb e=>f8 b o (λq=>hb (Zu.mp q)) e;have DZ:∀am m' s',LS G sB aj ab T σ β D am (ρ.set i (some v)) (acc++bs) P m' s'->(∀b o,¬eH ab T D b->¬G.X b->h'.get? b=some o->s'.heap.get? b=some o)->h'.objs.size<=s'.heap.objs.size->(∀t x,φ t x->am t x) ->
   jeZ (Zf af wd) A (.compLoop (.ListComp aD gens sc pos) d (.ref I) (.ref D) ab) R s':=λam m' s' rt kk zz ss =>
   fin am m' s' rt (W.frame _ _ _ oF λb hb o e=>kk b o ((la b hb).elim (λq=>q▸fI) (·.1)) ((la b hb).elim (λq=>q▸lW) (·.2)) e) (λb o hb ho hX e=>kk b o ho hX (qu b o hb e)) (Y5 u.size zz) ss
  dsimp only;refine(L.moved hI qm fI ki jb lW qu u).store hE hT hx hk dZ ((rv xv vd).mono (λY Y e=>e) (λa o p e=>⟨qu a o (λq=>hI (q▸p)) e,p⟩) (Zn _)) λaC dh kL Gq H5=>?_;clear fin rv oF vd;refine Wp je (λza je=>?_) λza je=>?_
  ·refine(zZ (Φ:=Φ) (E7 v) za).post (kL.inv IB) kL.er λdj eU cn rq i3=>?_;refine aa (if_pos rfl) ?_;exact eR v bs je eU acc dh dj (λs'=>(Code.compLoop (.ListComp aD gens sc pos) d (.ref I) (.ref D) ab).quiet=true/\jeZ (Zf af wd) A (.compLoop (.ListComp aD gens sc pos) d (.ref I) (.ref D) ab) R s') (notedBy (Zf af wd) A ab λe s'=>R (.error e) s') (kL.go cn) vB
    λmq jR eE wU Gr Ba=>⟨rfl,DZ mq jR eE wU (λb o ho hX e=>Gr.keep b o ho hX (cn.ext b o hX (Gq b o ho e))) (Y5 H5 (Y5 cn.grows.size Gr.size)) λt x e=>Ba t x (cn.sub t x e)⟩
  ·refine(zZ (Φ:=Φ) (E7 v) za).post (kL.inv IB) kL.er λdj eU cn rq i3=>?_;refine aa (if_neg Z5) ?_;exact⟨rfl,DZ eU dh dj (by refine aa je ?_;refine aa (Z6 _) ?_;exact kL.go cn) (λb o ho hX e=>cn.ext b o hX (Gq b o ho e)) (Y5 H5 cn.grows.size) cn.sub⟩
end
section
def bl(G:GD)(A:ZZ)(Φ:cX)(σ:aA)(e:Expr):Prop :=
 ∀ab T ρ v,bQ ab T->ev Φ σ ρ (ao T e)=some v->ES G A ab T ρ σ (jae e ab) v/\∀b,v=.bool b->TS G A ab T ρ σ (jby e ab (jae e ab)) b
theorem tz(h:ev Φ σ ρ (ao T e)=some v):f9 e=true:=by
 cases e<;>first|rfl|exact ai h
theorem D9(h:ev Φ σ ρ (ao T e)=some v):jcx e ab x=pure x:=by
 cases e<;>first|rfl|exact ai h
theorem Nk(h:bX Φ σ ρ (bg T (e::es))=some vs):∃u us,vs=u::us/\ev Φ σ ρ (ao T e)=some u/\bX Φ σ ρ (bg T es)=some us:=by
 rw[t0,mO]at h
 induction hu:ev Φ σ ρ (ao T e)using ae with
 |none=>rw[hu]at h;exact ai h
 |some u =>
  induction cx:bX Φ σ ρ (bg T es)using ae with
  |none=>rw[hu,cx]at h;exact ai h
  |some us=>rw[hu,cx]at h;exact nc u us ((Y7 h).symm) rfl rfl
theorem j9(hE:bQ ab T):∀{vs:List AV},(∀e∈es,bl G A Φ σ e)->bX Φ σ ρ (bg T es)=some vs->es.all f9=true/\∀pos,gS G A ab T ρ σ (jcp (jcr pos (jaw es ab))) vs:=by
 induction es with
 |nil=>exact λY e=>⟨rfl,λpos=>aG (show some []=some _ from e) MN⟩
 |cons e es ih =>
  intro vs h he;refine bS (Nk he) ?_;rintro u us rfl h1 h2;refine bN (ih (λe he=>h e (ZB _ he)) h2) λi1 i2=>?_;have hs:=tz h1;exact⟨jbT.mpr ⟨hs,i1⟩,λpos=>MM (iV hs) (h e Zj ab T ρ u hE h1).1 (i2 pos)⟩
def Gd:Fn->Bool
 | .range=>true
 |_=>false
theorem Oe(h:gv.lookup x=some .range):x=("range":Str):=
 eq_of_beq (Y'.mp (show gv.all (λe=>!Gd e.2||e.1==("range":Str))=true by decide +kernel) _ (mem_of_lookup h))
theorem Tm(h:iU.lookup x=some .range):False :=
 bP (Y'.mp (show iU.all (λe=>!Gd e.2)=true by decide +kernel) _ (mem_of_lookup h))
theorem Bq(h:ao T e=.call .range as):∃p b bs pos,e=.Call (.Name ("range":Str) p) (b::bs) [] pos/\T.isGlobal ("range":Str)=true/\as=bg T (b::bs):=by
 rcases wF h with⟨x,p,a,bs,pos,e1,hg,hl,e2⟩|⟨m,hl⟩|h|⟨h,_⟩
 ·have:=Oe hl;rw[this]at e1 hg;exact z7 _ _ _ _ e1 hg e2
 ·exact(Tm hl).elim
 ·exact bP h
 ·exact bP h
theorem Gj(hA:A.handled=none)(hE:bQ ab T)(hG:dD G)(hI:bl G A Φ σ it)(EB:∀f p as pos,it=.Call (.Name f p) as [] pos->∀a∈as,bl G A Φ σ a)(e:dU Φ σ ρ (fR (ao T it))=some vs)(I:bh G s.heap)(R:ER G φ ab T ρ σ β P m s)(hQ:∀x s' am,GX G s φ s' am->(∀x,jcx it ab x=pure x)->Zd (Zf af wd) A (jdU x) (j0 A G.tok am β P (λb=>P b\/b∈β) s' vs) ax s'->Q x s'):
 Zd (Zf af wd) A (jae it ab) Q E s:=by
 induction hq:fR (ao T it)using It.casesOn with
 |range as =>
  refine kg (Bq (tl hq)) ?_;rintro p b bs pos rfl hg rfl;rw[hq,se]at e;clear hq hI
  induction cx:bX Φ σ ρ (bg T (b::bs))using ae with
  |none=>rw[cx]at e;exact ai e
  |some us =>
   rw[cx]at e;refine au (Zw.mp e) ?_;rintro is eS rfl;refine bN (j9 (G:=G) (A:=A) hE (λa ha=>EB _ _ _ _ rfl a ha) cx) λh1 h2=>?_;exact xY hE hG hg h1 (h2 _) eS I R λv s' am k rr=>hQ v s' am k (λY=>rfl) (HS hA rr)
 |rev a=>rw[hq]at e;exact ai e
 |val x =>
  rw[hq,show x=ao T it from tl hq,si]at e;clear hq EB
  induction hx:ev Φ σ ρ (ao T it)using ae with
  |none=>rw[hx]at e;exact ai e
  |some x =>
   rw[hx]at e;refine(hI ab T ρ x hE hx).1.post I R λv s' am k I' R' r=>hQ v s' am k (λY=>D9 hx) ?_;refine up (HU hA R'.objs R'.psys e r) λit cO h=>?_;refine yq h λo fp Pv St h1 h2 h3 h4 h5 h6=>?_;exact⟨o,fp,Pv,St,h1,h2,h3,h4,λb hb=>(h5 b hb).imp id λq=>⟨q.1.imp id (·.2),q.2⟩,h6⟩
theorem Cy(hg:gens[d]?=some ⟨.Name x px,iter,ifs,0⟩)(h0:jeZ (Zf af wd) A (.compLoop (.ListComp aD gens sc pos) d it acc ab) R s)(h:Zd (Zf af wd) A (jdU it) (λtj s'=>jeZ (Zf af wd) A (.compLoop (.ListComp aD gens sc pos) d tj acc ab) R s') (notedBy (Zf af wd) A ab λx s'=>R (.error x) s') s):
 jeZ (Zf af wd) A (.compStart (.ListComp aD gens sc pos) d it acc ab) R s:=by
 refine jhe ?_;show Zd _ _ ((compStart (.ListComp aD gens sc pos) d it acc ab).onRaise (λx=>do noteFrame x ab;jfx theWindowsPlace)) _ _ s;refine wpAny_notedAt ?_;unfold compStart;refine aa (show clausesOf (.ListComp aD gens sc pos)=gens from rfl) ?_;refine aa hg ?_;dsimp only[Option.elim];show Zd _ _ (ask >>= _) _ _ s;refine Zc (wpAny_askSetting (wpAny_ite ?_));split
 ·first
   |exact Zc (ZC (ZC (And.intro rfl h0)))
   |exact ZC (And.intro rfl h0)
 ·first
   |exact Zc (jeY (Zc (jbe (Zc (jav h (λtj s' h'=>ZC (And.intro rfl h')) λY Y x=>x)))))
   |(refine Zc (jeY ?_);show Zd _ _ (jfx iter.pos >>= _) _ _ s;exact Zc (jbe (Zc (jav h (λtj s' h'=>ZC (And.intro rfl h')) λY Y x=>x))))
end
section
set_option tactic.hygienic true in
theorem tC{T:Tb}(h:T.own x=some i):T.var x=some i/\(T.names.lookup x=some .local\/T.names.lookup x=some .cell):=by
 unfold Tb.own at h;split at h
 ·rename_i hk;rw[jbx]at hk;exact⟨h,hk.imp (λq=>eq_of_beq q) λq=>eq_of_beq q⟩
 ·cases h
theorem mr.sub(F:mr ab T β P)(hk:∀a,P' a->P a):mr ab T β P' :=
 ⟨λp=>F.ploc (hk _ p),F.bloc,λx hx=>let⟨c,a,b,d⟩:=F.own x hx;⟨c,a,λp=>b (hk _ p),d⟩⟩
theorem LS.push_out{acc:List AV}(L:LS G sB aj ab T σ β D φ ρ acc P m s):
 LS G sB aj ab T σ β D φ ρ acc (fN P s.heap.objs.size (s.heap.objs.size+1)) m {s with heap:=s.heap.push o}:=by
 have hz:(s.heap.push o).objs.size=s.heap.objs.size+1:=ZS ..;have ext:ce s.heap (s.heap.push o):=λb o e=>Zh _ e;have R:=L.er.grow_out (h':=s.heap.push o) (t:=s.toks) L.tabs.1 ext (by refine aa hz ?_;exact Z2 _) (Y9 _);rw[hz]at R;refine au L.acc λxs a1 a2=>?_;refine⟨?_,λb o hb e=>ext b o (L.old b o hb e),Y5 L.size (by show _<=(s.heap.push o).objs.size;refine aa hz ?_;exact Z2 _),L.sub,R,L.fr.sub λa p=>p.1,λp=>L.dP p.1,L.dβ,⟨xs,a1.at λo=>ext _ o,a2.mono (λY Y e=>e) (λa o p e=>⟨ext _ _ e,p,λq=>Z0.mpr q.1 (Zz e)⟩) (Zn _)⟩,L.tabs.1.keeps ext,λc q=>L.tabs.2 c (iW ext L.tabs.1 c q)⟩;refine dW L.base λhh tt e=>?_;exact jQ (s.heap.push o) s.toks (by refine aa e ?_;rfl)
theorem WT{gens:List jam}(h:gens[d]?=none):iX T aD (gens.drop d)=.done aD:=by
 refine aa (jcY (jgQ.mp h)) ?_;rfl
theorem LX{gens:List jam}(h:gens[d]?=some g):gens.drop d=g::gens.drop (d+1):=by
 refine aX (ZE.mp h) ?_;rintro hl rfl;exact jcA hl
theorem MW(h:g8 Φ σ ρ (iX T aD (g::gs))=some res):∃x px it ifs i,g=⟨.Name x px,it,ifs,0⟩/\T.own x=some i/\g8 Φ σ ρ (.cons i (fR (ao T it)) (bg T ifs) (iX T aD gs))=some res:=by
 have t:=WS (T:=T) (aD:=aD) (g:=g) (gs:=gs);generalize iX T aD (g::gs)=z at t h;cases t with
 |bad=>exact ai h
 |mk hi=>exact F6 _ _ _ _ _ rfl hi h
theorem MV(h:g8 Φ σ ρ (.cons x it ifs az)=some res):∃vs,dU Φ σ ρ it=some vs/\ρ[x]?=some none/\vs.length<=100000/\fZ (λv=>match cS Φ σ (ρ.set x (some v)) ifs with
 |some true=>g8 Φ σ (ρ.set x (some v)) az
 |some false=>some []
 |none=>none) vs=some res:=by
 rw[Db]at h
 induction hv:dU Φ σ ρ it using ae with
 |none=>rw[hv]at h;exact ai h
 |some vs =>
  rw[hv]at h
  induction hx:ρ[x]? using ae with
  |none=>rw[hx]at h;exact ai h
  |some o =>
   rw[hx]at h
   induction o using ae with
   |none=>exact bR h λhl e=>vT vs rfl rfl hl e
   |some _=>exact ai h
theorem Vd{A:ZZ}{ab:Env}{T:Tb}{sB:Y8}{gens:List jam}(hA:A.handled=none)(hE:bQ ab T)(hT:jx T)(hG:dD G)(has:∀g∈gens,g.is_async=0)(hcl:∀x c,ab.cells.lookup x=some c->T.celled x=true)(dZ:∀b,eH ab T D b->sB.heap.get? b=none)(IB:bh G sB.heap)(om:bl G A Φ σ aD)(jK:∀g∈gens,bl G A Φ σ g.iter/\(∀f p as pos,g.iter=.Call (.Name f p) as [] pos->∀a∈as,bl G A Φ σ a)/\∀c∈g.ifs,bl G A Φ σ c):
 ∀(k d:Nat) (P:Zi->Prop) (ρ:aB) (res:List AV),gens.length-d=k->g8 Φ σ ρ (iX T (ao T aD) (gens.drop d))=some res->RS G A sB aj ab T σ β D P aD gens sc pos d ρ res:=by
 intro k
 induction k with
 |zero =>
  intro d P ρ res hk he φ acc m s Q E L aU hQ;have Fq:gens[d]?=none:=jgQ.mpr (by lia);rw[WT Fq]at he;refine aa Fq ?_;dsimp only;simp only[MX]at he;refine au (Zw.mp he) ?_;rintro v hv rfl;refine(om ab T ρ v hE hv).1.post (L.inv IB) L.er λx ak ay aw bd aI aF=>?_;refine(L.go aw).append dZ aF (by rw[Ze]at aU;exact ZO aU) λy aC kL kp sz=>?_;exact hQ ay m aC kL ⟨λb o hb hX e=>kp b o hb (aw.ext b o hX e),Y5 aw.grows.size sz⟩ aw.sub
 |succ k ih =>
  intro d P ρ res hk he φ acc m s Q E L aU hQ;have a0:d<gens.length:=BE hk;obtain⟨g,hg⟩:∃g,gens[d]?=some g:=⟨_,Zg a0⟩
  rw[LX hg]at he;refine aa hg ?_;dsimp only;refine sq (MW he) ?_;rintro x px iter ifs i rfl jO he;refine bN (tC jO) λhx qv=>?_;refine fY (jK _ (ZK hg)) λg1 g2 g3=>?_;obtain⟨vs,b0,fv,YJ,he⟩:=MV he;refine Gj hA hE hG g1 g2 b0 (L.inv IB) L.er λxv ak ay aw hf zO=>?_;refine aa (hf xv) ?_;refine ZC ?_;have ix:=L.go aw;refine up zO λoJ aC hs=>?_;obtain⟨o,fp,Pv,St,rfl,rfl,W,cM,la,jg⟩:=hs;have kL:=ix.push_out (o:=o);have Yl:ak.heap.objs.size≠D:=λq=>by
   obtain⟨xs,a1,_⟩:=ix.acc;obtain⟨n,ho⟩:=a1;exact Zv _ (q▸Zz ho)
  have Ui:∀b,eH ab T D b->b<ak.heap.objs.size:=λb hb=>by
   rcases hb with rfl|rfl|⟨x,h1,h2⟩
   ·obtain⟨xs,a1,_⟩:=ix.acc;obtain⟨n,ho⟩:=a1;exact Zz ho
   ·exact ix.er.ns.lt
   ·obtain⟨c,dk,e1,e2⟩:=ix.er.celled x (by unfold Tb.celled;refine aa h1 ?_;rfl);rw[h2]at e1;cases e1;exact e2.lt
  have fI:¬eH ab T D ak.heap.objs.size:=λq=>Zv _ (Ui _ q);have ki:sB.heap.get? ak.heap.objs.size=none:=AH ix.size;have jb:∀x c,ab.cells.lookup x=some c->c≠ak.heap.objs.size:=λx c hc q=>by
   obtain⟨c',dk,e1,e2⟩:=ix.er.celled x (hcl x c hc);rw[hc]at e1;cases e1;exact Zv _ (q▸e2.lt)
  have ext:ce ak.heap (ak.heap.push o):=λb o e=>Zh _ e;have GG:∀R:Result->Y8->Prop,(∀am m' s',LS G sB aj ab T σ β D am ρ (acc++res) (fN P ak.heap.objs.size (ak.heap.objs.size+1)) m' s'->(∀b o',b≠ak.heap.objs.size->¬eH ab T D b->¬G.X b->(ak.heap.push o).get? b=some o'->s'.heap.get? b=some o')->(ak.heap.push o).objs.size<=s'.heap.objs.size->(∀t x,ay t x->am t x)->R (.ok .next) s') ->
   jeZ (Zf af wd) A (.compLoop (.ListComp aD gens sc pos) d (.ref ak.heap.objs.size) (.ref D) ab) R {ak with heap:=ak.heap.push o}:=λR hR =>
   CA (Φ:=Φ) (g:=λρ=>g8 Φ σ ρ (iX T (ao T aD) (gens.drop (d+1)))) hE hT hx qv fv hg
    (λg' m5=>has g' (ZK m5))
    dZ IB (λv c hc b hb=>(g3 c hc ab T _ _ hE hb).2 b rfl) (λv res iO=>ih (d+1) _ _ res (by rewrite [Nat.sub_add_eq];refine aa hk ?_;rfl) iO)
    W (λb hb=>(la b hb).imp id λq=>⟨λq'=>by
     rcases q.1 with p|p
     ·exact(ix.own b q').1 p
     ·exact(ix.own b q').2 p,q.1.elim (λp=>(ix.er.psafe b p).2) λp=>(ix.er.bsafe b (.inl p)).2⟩) (ix.er.psafe _ (ix.er.fresh _ (Y9 _))).2
    (λp=>p.2 ⟨Y9 _,jan _⟩) (λp=>Zv _ (ix.er.blt _ p)) fI ki jb
    vs.length 0 ay acc res m _ rfl (jbp _) kL cM he aU
    (λj x hx=>by
     obtain⟨v,h1,h2⟩:=jg j x hx;exact aO v h1 (h2.mono (λY Y e=>e) (λa o p e=>⟨ext _ _ e,p,λq=>Z0.mpr q.1 (Zz e)⟩) (Zn _)))
    hR
  have back:∀am m' s',LS G sB aj ab T σ β D am ρ (acc++res) (fN P ak.heap.objs.size (ak.heap.objs.size+1)) m' s'->(∀b o',b≠ak.heap.objs.size->¬eH ab T D b->¬G.X b->(ak.heap.push o).get? b=some o'->s'.heap.get? b=some o')->(ak.heap.push o).objs.size<=s'.heap.objs.size->(∀t x,ay t x->am t x)->Q s':=λam m' s' rt kk zz ss =>
   hQ am m' s' (rt.weak (λa p=>p.1) L.er.psafe L.fr L.dP) ⟨λb o' hb hX e=>kk b o' (λq=>Zv _ (bf (q▸Zz e:ak.heap.objs.size<s.heap.objs.size) aw.grows.size)) hb hX (ext _ _ (aw.ext _ _ hX e)),Y5 aw.grows.size (Y5 (by refine aa (ZS _ _) ?_;exact Z2 _) zz)⟩ λt x e=>ss t x (aw.sub t x e)
  refine wpAny_runOwn ?_ (λq=>nomatch q);refine aa (Around.mark_none _) ?_;exact Cy hg (GG _ back) (W.self 0 _ _ _ cM (GG _ back))
end
section
structure CD(G:GD) (s:Y8) (φ:Gh) (β:List Zi) (P:Zi->Prop) (vs:List AV) (am:Gh) (s':Y8) (D C:Zi) (m':Str->Option Value) (P':Zi->Prop):Prop where
 go:GX G s φ s' am
 cNew:s.heap.objs.size<=C
 dNew:s.heap.objs.size<=D
 cd:C≠D
 ns:s'.heap.Ns C m'
 sub:∀a,P' a->P a
 pC:¬P' C
 pD:¬P' D
 items:∃xs,s'.heap.PlainList D xs.toArray/\ar G.tok am s'.heap β P' vs xs
theorem MU{T T':Tb}{n:Nat}{aD:Ex}{gens:List jam}{res:List AV}{Q:List jam->Prop}(h:fF Φ σ ρ n (iY T T' aD gens)=some res)(k:∀x px it ifs gs i,T'.own x=some i->fF Φ σ ρ n (.cons i (fR (ao T it)) (bg T' ifs) (iX T' aD gs))=some res->Q (⟨.Name x px,it,ifs,0⟩::gs)):Q gens:=by
 induction gens using Y6 with
 |nil=>exact ai h
 |cons g gs =>
  have t:=WR (T:=T) (T':=T') (aD:=aD) (g:=g) (gs:=gs);generalize iY T T' aD (g::gs)=z at t h;cases t with
  |bad=>exact ai h
  |mk hi=>exact k _ _ _ _ _ _ hi h
theorem MT{x n:Nat}{it:It}{ifs:bV}{az:jZ}{res:List AV}{Q:Prop}(h:fF Φ σ ρ n (.cons x it ifs az)=some res)(k:∀vs,dU Φ σ ρ it=some vs->(ρ++Zm n none)[x]?=some none->vs.length<=100000->fZ (λv=>match cS Φ σ ((ρ++Zm n none).set x (some v)) ifs with
 |some true=>g8 Φ σ ((ρ++Zm n none).set x (some v)) az
 |some false=>some []
 |none=>none) vs=some res->res.length<=100000->Q):Q:=by
 rw[x0]at h
 induction hv:dU Φ σ ρ it using ae with
 |none=>rw[hv]at h;exact ai h
 |some vs =>
  rw[hv]at h
  induction hx:(ρ++Zm n none)[x]? using ae with
  |none=>rw[hx]at h;exact ai h
  |some o =>
   rw[hx]at h
   induction o using ae with
   |none =>
    refine bR h λhl e=>?_;generalize hr:fZ _ vs=r at e
    induction r using ae with
    |none=>exact ai e
    |some rs=>exact bR e λh1 h2=>k vs hv hx hl (Y7 h2▸hr) (Y7 h2▸h1)
   |some _=>exact ai h
theorem Oy(h:dU Φ σ ρ (fR (ao T iter))=some vs):jcx iter ab x=pure x:=by
 cases iter<;>first|rfl|exact ai h
structure IW(G:GD) (s:Y8) (φ:Gh) (gZ:Env) (T:Tb) (σ:aA) (β:List Zi) (I D L:Zi) (ay:Gh) (ρ:aB) (P:Zi->Prop) (aY h:jao) (s':Y8):Prop where
 hE:bQ gZ T
 ls:LS G s φ gZ T σ β D ay ρ [] P (λY=>none) s'
 own:∀b,eH gZ T D b->I<b
 cel:∀y c,gZ.cells.lookup y=some c->T.celled y=true/\c≠I
 loc:gZ.locals=L
 ext:ce aY h
 ne:L≠D
 new:s.heap.objs.size<=I/\I<D/\I<L
 pI:¬P I
 nb:I∉β
 psub:∀a,P a->a<I\/¬a<h.objs.size
theorem Li(hE:bQ ab T)(C:kG T sc)(I:bh G s.heap)(R:ER G φ ab T ρ σ β P m s)(aw:GX G s φ ak ay)(ql:(ak.heap.push o).push {cls:=.type "list",dict:=none,data:=.seq ([]:List Value).toArray}=cf):
 IW G s φ (nO sc (dr ab sc.names []) cf.objs.size ab) (T.comp sc) σ β ak.heap.objs.size (ak.heap.push o).objs.size cf.objs.size ay (ρ++Zm (eB sc).length none) (fN P ak.heap.objs.size (ft cf sc).objs.size) (ak.heap.push o) (ft cf sc) {ak with heap:=ft cf sc}:=by
 have hD:(ak.heap.push o).objs.size=ak.heap.objs.size+1:=ZS ..;have hC:cf.objs.size=ak.heap.objs.size+2:=by refine rwj ql ?_;refine aa (ZS _ _) ?_;refine aa (ZS _ _) ?_;rfl
 have oa:ce ak.heap (ak.heap.push o):=λb o e=>Zh _ e;have mR:ce (ak.heap.push o) cf:=λb o e=>ql▸Zh _ e;have mS:ce cf (ft cf sc):=Ee cf sc;have YP:=Ef cf sc;have rG:bz G ak.heap:=(aw.tabs I.tabs).1;have aI:=R.go aw I.tabs;have i3:ER G ay ab T ρ σ β P m {ak with heap:=cf}:=aI.go (GX.same aI.tk ⟨⟨cf,ak.toks,rfl,oa.trans mR⟩,by show _<=cf.objs.size;simp[*]⟩ (Y9 _)) rG;have Jc:ER G ay ab T ρ σ β (fN P ak.heap.objs.size (ft cf sc).objs.size) m {ak with heap:=ft cf sc}:=aI.grow_out rG ((oa.trans mR).trans mS) (by lia) (Y9 _);have y1:=Mi (s:={ak with heap:=cf}) hE C i3;have RC:=Ms (s:={ak with heap:=cf}) hE C i3 Jc;have FC:=OE (s:={ak with heap:=cf}) C i3 (P':=fN P ak.heap.objs.size (ft cf sc).objs.size) λa p q=>p.2 ⟨by have:=q.1;show ak.heap.objs.size<=a;have:cf.objs.size<=a:=q.1;lia,q.2⟩;refine pZ (wg (s:={ak with heap:=cf}) C i3) λc1 c2 c3 c4=>?_;dsimp only at c1 c2 c3 c4 y1 RC FC;generalize vh:nO sc (dr ab sc.names []) cf.objs.size ab=gZ at y1 RC FC;have hcl:gZ.cells=kQ sc (dr ab sc.names []) cf.objs.size:=by refine rwj vh ?_;rfl
 have vF:gZ.locals=cf.objs.size:=by refine rwj vh ?_;rfl
 have O9:(ft cf sc).PlainList (ak.heap.push o).objs.size #[]:=⟨_,mS _ _ (by refine rwj ql ?_;exact Z3 _ rfl)⟩
 have be:s.heap.objs.size<=ak.heap.objs.size:=aw.grows.size;have nb:∀b,ak.heap.objs.size<=b->b∉β:=λb hb hm=>Zv _ (bf (R.blt b hm) (Y5 be hb));have q1:ak.heap.objs.size<=(ak.heap.push o).objs.size:=by simp
 have q2:(ak.heap.push o).objs.size<(ft cf sc).objs.size:=by lia
 have q3:ak.heap.objs.size<(ak.heap.push o).objs.size:=ZP (id (jfp hD));have q4:ak.heap.objs.size<cf.objs.size:=by simp[*]
 have q7:cf.objs.size≠(ak.heap.push o).objs.size:=by lia
 exact{
  hE:=y1
  ls:={
   base:=by
    refine bA aw.grows.keeps λhh tt e Y=>?_;exact jQ (ft cf sc) ak.toks (by refine aa e ?_;rfl)
   old:=λb o hb e=>mS _ _ (mR _ _ (oa _ _ (aw.ext _ _ hb e)))
   size:=by show s.heap.objs.size<=(ft cf sc).objs.size;lia
   sub:=aw.sub
   er:=RC
   fr:=FC
   dP:=λp=>p.2 ⟨q1,q2⟩
   dβ:=nb _ q1
   acc:=aO [] O9 (.nil)
   tabs:=⟨rG.keeps ((oa.trans mR).trans mS),λc q=>(aw.tabs I.tabs).2 c (iW ((oa.trans mR).trans mS) rG c q)⟩}
  own:=λb hb=>by
   rcases hb with rfl|rfl|⟨y,h1,h2⟩
   ·exact q3
   ·refine aa vF ?_;exact q4
   ·rw[hcl]at h2;refine fq (c2 y (mem_of_lookup h1)) λc h3 h4 Y=>?_;refine aa (Y7 (h2.symm.trans h3)) ?_;exact jaq q4 h4
  cel:=λy c hc=>by
   rw[hcl]at hc;have cl:∀{k},(y,k)∈sc.names->(k==.cell||k==.free)=true->(T.comp sc).celled y=true:=λq hk=>by
    show(sc.names.lookup y==_||sc.names.lookup y==_)=true;refine aa (lv C.nodup q) ?_;exact hk
   rcases c1 y c hc with⟨q,q5,_⟩|⟨q,q',_⟩
   ·exact⟨cl q rfl,λz=>jeG q4 (z▸q5)⟩
   ·refine⟨cl q rfl,λz=>?_⟩;refine bA (aI.celled y (C.free y q)) λc' dk e1 e2=>?_;exact Zv _ ((Y7 (q'.symm.trans e1)).symm.trans z▸e2.lt)
  loc:=vF
  ext:=λb o e=>mS _ _ (mR _ _ e)
  ne:=q7
  new:=cz be q3 q4
  pI:=λp=>p.2 ⟨Y9 _,jaq q3 q2⟩
  nb:=nb _ (Y9 _)
  psub:=λa p=>(jcd a ak.heap.objs.size).imp id λh q=>p.2 ⟨h,q⟩}
theorem Lh(hA:A.handled=none)(hE:bQ ab T)(hG:dD G)(C:kG T sc)(has:∀g∈(⟨.Name x px,iter,ifs,0⟩::gs:List jam),g.is_async=0)(om:bl G A Φ σ aD)(jK:∀g∈(⟨.Name x px,iter,ifs,0⟩::gs:List jam),bl G A Φ σ g.iter/\(∀f p as pos,g.iter=.Call (.Name f p) as [] pos->∀a∈as,bl G A Φ σ a)/\∀c∈g.ifs,bl G A Φ σ c)(jO:(T.comp sc).own x=some i)(cx:dU Φ σ ρ (fR (ao T iter))=some us)(fv:(ρ++Zm (eB sc).length none)[i]?=some none)(iO:fZ (λv=>match cS Φ σ ((ρ++Zm (eB sc).length none).set i (some v)) (bg (T.comp sc) ifs)with
 |some true=>g8 Φ σ ((ρ++Zm (eB sc).length none).set i (some v)) (iX (T.comp sc) (ao (T.comp sc) aD) gs)
 |some false=>some []
 |none=>none) us=some vs) (aN:vs.length<=100000) (I:bh G s.heap) (R:ER G φ ab T ρ σ β P m s) (hQ:∀am s' D C m' P',CD G s φ β P vs am s' D C m' P'->compPost (Zf af wd) A E ml Q (.ref D) C (.ok .next) s'):
 Zd (Zf af wd) A (jfO (.ListComp aD (⟨.Name x px,iter,ifs,0⟩::gs) sc pos) sc ab nt (newList []) false (jhZ (⟨.Name x px,iter,ifs,0⟩::gs) ab) ml) Q E s:=by
 have qv:=tC jO;have hg:=jK _ Zj;have PA:jda sc ab=pure (dr ab sc.names []):=Cu λn hn=>(R.celled n (C.free n hn)).elim λc e=>⟨c,e.elim λY e=>e.1⟩
 refine wpAny_comprehension_free rfl (λy=>Oy cx) PA C.kind (λy hy hl=>lv C.nodup (hl▸hy)) ?_;show Zd _ _ (jae iter ab) _ _ _;refine Gj hA hE hG hg.1 hg.2.1 cx I R λxv ak ay aw hf zO=>up zO λoJ aC hs=>?_;refine src_elim hs λo fp Pv St W cM la jg=>?_;refine jgh (TD ?_);generalize ql:(ak.heap.push o).push {cls:=.type "list",dict:=none,data:=.seq ([]:List Value).toArray}=cf;have ew:=Li (o:=o) hE C I R aw ql;have rG:bz G ak.heap:=(aw.tabs I.tabs).1;have aI:=R.go aw I.tabs;generalize vh:nO sc (dr ab sc.names []) cf.objs.size ab=gZ at ew;have oF:St 0 (ft cf sc):=W.frame _ _ _ cM λb Y o e=>ew.ext _ _ e;have dZ:∀b,eH gZ (T.comp sc) (ak.heap.push o).objs.size b->s.heap.get? b=none:=λb hb=>AH (Y5 ew.new.1 (ZO (ew.own b hb)));have Fg:∀R:Result->Y8->Prop,(∀am m' s',LS G s φ gZ (T.comp sc) σ β (ak.heap.push o).objs.size am (ρ++Zm (eB sc).length none) vs (fN P ak.heap.objs.size (ft cf sc).objs.size) m' s'->R (.ok .next) s') ->
  jeZ (Zf af wd) A (.compLoop (.ListComp aD (⟨.Name x px,iter,ifs,0⟩::gs) sc pos) 0 (.ref ak.heap.objs.size) (.ref (ak.heap.push o).objs.size) gZ) R {ak with heap:=ft cf sc}:=λRR Pj =>
  CA (Φ:=Φ) (g:=λρ=>g8 Φ σ ρ (iX (T.comp sc) (ao (T.comp sc) aD) gs)) ew.hE C.tb qv.1 qv.2 fv (by rfl) (λg' m5=>has g' (ZK m5)) dZ I
   (λv c hc b hb=>(hg.2.2 c hc gZ (T.comp sc) _ _ ew.hE hb).2 b rfl) (λv res iO=>Vd hA ew.hE C.tb hG has (λy c hc=>(ew.cel y c hc).1) dZ I om jK _ 1 _ _ res rfl iO) W (λb hb=>(la b hb).imp id λq=>⟨λq'=>jeG q.2 (ew.own b q'),q.1.elim (λp=>(aI.psafe b p).2) λp=>(aI.bsafe b (.inl p)).2⟩) (aI.psafe _ (aI.fresh _ (Y9 _))).2
   ew.pI ew.nb (λq=>Zv _ (ew.own _ q)) (AH ew.new.1) (λy c hc=>(ew.cel y c hc).2)
   us.length 0 ay [] vs _ _ rfl (jbp _) ew.ls oF iO (by simpa using aN) (λj y hy=>(jg j y hy).elim λv e=>aO v e.1 (e.2.mono (λY Y e=>e) (λa o p e=>⟨ew.ext _ _ (Zh _ e),p,λq=>Z0.mpr q.1 (Zz e)⟩) (Zn _))) λam m' s' L' Y Y Y=>Pj am m' s' (by simpa using L')
 have E0:∀am m' s',LS G s φ gZ (T.comp sc) σ β (ak.heap.push o).objs.size am (ρ++Zm (eB sc).length none) vs (fN P ak.heap.objs.size (ft cf sc).objs.size) m' s'->compPost (Zf af wd) A E ml Q (.ref (ak.heap.push o).objs.size) cf.objs.size (.ok .next) s':=λam m' s' L' =>
  hQ am s' _ _ m' _ ⟨L'.done,Y5 ew.new.1 (ZO ew.new.2.2),Y5 ew.new.1 (ZO ew.new.2.1),ew.ne,ew.loc▸L'.er.ns,λa p=>p.1,ew.loc▸L'.fr.ploc,L'.dP,L'.acc⟩
 have:=Cy (ab:=gZ) (gens:=⟨.Name x px,iter,ifs,0⟩::gs) (d:=0) rfl (Fg _ E0) (W.self 0 _ _ _ oF (Fg _ E0));rw[<-vh]at this;subst ql;exact this
theorem xK{A:ZZ}{T:Tb}{s:Y8}{aD:Expr}{gens:List jam}{sc:jaF}{pos nt:Pos}{vs:List AV}{ml:Option (Value->Sem Unit)}{Q:Value->Y8->Prop}{E:Value->Y8->Prop}(hA:A.handled=none)(hE:bQ ab T)(hG:dD G)(C:kG T sc)(has:∀g∈gens,g.is_async=0)(om:bl G A Φ σ aD)(jK:∀g∈gens,bl G A Φ σ g.iter/\(∀f p as pos,g.iter=.Call (.Name f p) as [] pos->∀a∈as,bl G A Φ σ a)/\∀c∈g.ifs,bl G A Φ σ c)(e:fF Φ σ ρ (eB sc).length (iY T (T.comp sc) (ao (T.comp sc) aD) gens)=some vs)(I:bh G s.heap)(R:ER G φ ab T ρ σ β P m s)(hQ:∀am s' D C m' P',CD G s φ β P vs am s' D C m' P'->compPost (Zf af wd) A E ml Q (.ref D) C (.ok .next) s'):
 firstAsync gens=false/\Zd (Zf af wd) A (jfO (.ListComp aD gens sc pos) sc ab nt (newList []) false (jhZ gens ab) ml) Q E s :=
 MU (Q:=λgens=>(∀g∈gens,g.is_async=0)->(∀g∈gens,bl G A Φ σ g.iter/\(∀f p as pos,g.iter=.Call (.Name f p) as [] pos->∀a∈as,bl G A Φ σ a)/\∀c∈g.ifs,bl G A Φ σ c)->firstAsync gens=false/\Zd (Zf af wd) A (jfO (.ListComp aD gens sc pos) sc ab nt (newList []) false (jhZ gens ab) ml) Q E s) e
  (λx px iter ifs gs i jO e has jK=>⟨rfl,MT e λus cx fv Y iO aN=>Lh hA hE hG C has om jK jO cx fv iO aN I R hQ⟩) has jK
end
section
variable {A:ZZ}{ab:Env}{T:Tb}{ρ:aB}{σ:aA}{G:GD}{s:Y8}{φ am:Gh}{β aH:List Zi}{P P':Zi->Prop}{m:Str->Option Value}{tk:Zi}{h h':jao}
variable {D:Zi}{Φ:cX}
theorem bz.noHas_ns(x:bz G h)(n:h.Ns a m):¬bM G h a:=by
 refine kf n λo es ep ho hd Y=>?_;exact x.noHas ho λvs q=>by rw[hd]at q;cases q
theorem Mz(hA:A.handled=none)(hE:bQ ab T)(hG:dD G)(C:kG T sc)(has:∀g∈gens,g.is_async=0)(om:bl G A Φ σ aD)(jK:∀g∈gens,bl G A Φ σ g.iter/\(∀f p as pos,g.iter=.Call (.Name f p) as [] pos->∀a∈as,bl G A Φ σ a)/\∀c∈g.ifs,bl G A Φ σ c)(e:fF Φ σ ρ (eB sc).length (iY T (T.comp sc) (ao (T.comp sc) aD) gens)=some vs):ES G A ab T ρ σ (jae (.ListComp aD gens sc pos) ab) (.lst vs):=λs φ β P m I R=>by
 obtain⟨h1,h2⟩:=xK (ml:=none) (pos:=pos) (nt:=jgl gens pos) (Q:=lJ G φ s β P (.lst vs)) (E:=ax) hA hE hG C has om jK e I R λam s' D C m' P' cd=>⟨m',cd.ns,λh' hs=>by
  have TB:=(cd.go.tabs I.tabs).1;refine au cd.items λxs a1 a2=>?_;exact⟨am,cd.go.then_but I.tabs cd.cNew (λb o hb e=>hs.extBut b o hb e) (TB.noHas_ns cd.ns) (TB.notX_ns cd.ns) (ZP hs.1.symm) (Y9 _),.lst (a1.at λo e=>hs.extBut _ o (jeI cd.cd) e) (R.fresh _ cd.dNew)
   (a2.mono (λY Y e=>e) (λa o p e=>⟨hs.extBut a o (λq=>cd.pC (q▸p)) e,cd.sub a p⟩) (Zn _))⟩⟩
 rewrite [eval_ListComp];refine aa h1 ?_;exact h2
structure fT(G:GD) (A:ZZ) (Φ:cX):Prop where
 hA:A.handled=none
 hu:A.units<jhp
 hG:dD G
 hN:gE G
 hΦ:ui G A Φ
theorem xf{a:Ex}{es:bV}{b:Bool}{Q:Prop}(e:cS Φ σ ρ (.cons a es)=some b)(h1:ev Φ σ ρ a=some (.bool true)->cS Φ σ ρ es=some b->Q)(h2:ev Φ σ ρ a=some (.bool false)->false=b->Q):Q:=by
 rw[kT]at e
 induction ha:ev Φ σ ρ a using ae with
 |none=>rw[ha]at e;exact ai e
 |some v =>
  rw[ha]at e
  induction v using AV.casesOn with
  |bool c =>
   induction c using ZL with
   |true=>exact h1 ha e
   |false=>exact h2 ha (Y7 e)
  |_=>exact ai e
theorem AL{a:Ex}{es:bV}{b:Bool}{Q:Prop}(e:kU Φ σ ρ (.cons a es)=some b)(h1:ev Φ σ ρ a=some (.bool false)->kU Φ σ ρ es=some b->Q)(h2:ev Φ σ ρ a=some (.bool true)->true=b->Q):Q:=by
 rw[pS]at e
 induction ha:ev Φ σ ρ a using ae with
 |none=>rw[ha]at e;exact ai e
 |some v =>
  rw[ha]at e
  induction v using AV.casesOn with
  |bool c =>
   induction c using ZL with
   |false=>exact h1 ha e
   |true=>exact h2 ha (Y7 e)
  |_=>exact ai e
theorem Jn{es:List Expr}{b:Bool}{pos:Pos}{whole:Sem Value}(hE:bQ ab T):(∀e∈es,bl G A Φ σ e)->cS Φ σ ρ (bg T es)=some b->TS G A ab T ρ σ (jby (.BoolOp .And es pos) ab whole) b:=by
 induction es with
 |nil=>exact λY e=>aG (show some true=some b from e) Xb
 |cons a es ih =>
  exact λh e=>xf e (λhc e=>Im ((h a Zj ab T ρ _ hE hc).2 _ rfl) (λq=>nomatch q) λY=>ih (λe he=>h e (ZB _ he)) e)
   λhc e=>e▸Im ((h a Zj ab T ρ _ hE hc).2 _ rfl) (λY=>rfl) λq=>nomatch q
theorem Uh{es:List Expr}{b:Bool}{pos:Pos}{whole:Sem Value}(hE:bQ ab T):(∀e∈es,bl G A Φ σ e)->kU Φ σ ρ (bg T es)=some b->TS G A ab T ρ σ (jby (.BoolOp .Or es pos) ab whole) b:=by
 induction es with
 |nil=>exact λY e=>aG (show some false=some b from e) Xe
 |cons a es ih =>
  exact λh e=>AL e (λhc e=>Ip ((h a Zj ab T ρ _ hE hc).2 _ rfl) (λq=>nomatch q) λY=>ih (λe he=>h e (ZB _ he)) e)
   λhc e=>e▸Ip ((h a Zj ab T ρ _ hE hc).2 _ rfl) (λY=>rfl) λq=>nomatch q
theorem Jl{es:List Expr}:∀{a:Expr}{b:Bool}{pos:Pos},bQ ab T->(∀e∈a::es,bl G A Φ σ e)->cS Φ σ ρ (bg T (a::es))=some b->ES G A ab T ρ σ (jae (.BoolOp .And (a::es) pos) ab) (.bool b):=by
 induction es with
 |nil=>exact λhE h e=>xf e (λhc e=>aG (Q:=λb=>ES G A ab T ρ σ _ (.bool b)) (show some true=some _ from e) (h _ Zj ab T ρ _ hE hc).1) λhc e=>e▸(h _ Zj ab T ρ _ hE hc).1
 |cons a' es ih =>
  exact λhE h e=>xf e (λhc e=>C3 (h _ Zj ab T ρ _ hE hc).1 (λq=>nomatch q) λY=>ih hE (λe he=>h e (ZB _ he)) e)
   λhc e=>e▸C3 (h _ Zj ab T ρ _ hE hc).1 (λY=>rfl) λq=>nomatch q
theorem Ug{es:List Expr}:∀{a:Expr}{b:Bool}{pos:Pos},bQ ab T->(∀e∈a::es,bl G A Φ σ e)->kU Φ σ ρ (bg T (a::es))=some b->ES G A ab T ρ σ (jae (.BoolOp .Or (a::es) pos) ab) (.bool b):=by
 induction es with
 |nil=>exact λhE h e=>AL e (λhc e=>aG (Q:=λb=>ES G A ab T ρ σ _ (.bool b)) (show some false=some _ from e) (h _ Zj ab T ρ _ hE hc).1) λhc e=>e▸(h _ Zj ab T ρ _ hE hc).1
 |cons a' es ih =>
  exact λhE h e=>AL e (λhc e=>C7 (h _ Zj ab T ρ _ hE hc).1 (λq=>nomatch q) λY=>ih hE (λe he=>h e (ZB _ he)) e)
   λhc e=>e▸C7 (h _ Zj ab T ρ _ hE hc).1 (λY=>rfl) λq=>nomatch q
theorem Mx(hE:bQ ab T)(hx:T.isGlobal x=true)(hs:(e::az).all f9=true)(ha:∀pos,gS G A ab T ρ σ (jcp (jcr pos (jaw (e::az) ab))) vs)(hc:uh G A σ x vs r):ES G A ab T ρ σ (jae (.Call (.Name x p) (e::az) [] pos) ab) r:=by
 cases hc with
 |builtin id hl h=>exact Mu hE hx hl hs (ha _) h
 |type id hl h=>exact Mw hE hx hl hs (ha _) h
 |def_ k fd hk h=>exact Mv hE hx hk hs (ha _) h
theorem Hq(hE:bQ ab T){lo:Option Expr}{l:Option Int}(h:∀e,lo=some e->bl G A Φ σ e)(jJ:fG Φ σ ρ (mj T lo)=some l):PS G A ab T ρ σ (jho lo ab) l:=by
 induction lo using ae with
 |none=>rw[WU,Dd]at jJ;exact aG jJ UK
 |some e =>
  rw[WV,pR]at jJ
  induction hi:ev Φ σ ρ (ao T e)using ae with
  |none=>rw[hi]at jJ;exact ai jJ
  |some v =>
   rw[hi]at jJ
   induction v using AV.casesOn with
   |int i=>exact aG jJ (UL (h e rfl ab T ρ _ hE hi).1)
   |_=>exact ai jJ
abbrev EV(Φ:cX)(σ:aA)(ρ:aB)(x:Ex)(v:AV):Prop:=ev Φ σ ρ x=some v
theorem R7(h:EV Φ σ ρ (.var i) v):ρ[i]?=some (some v):=by
 rw[EV,Dx]at h
 induction hx:ρ[i]? using ae with
 |none=>rw[hx]at h;exact ai h
 |some u=>rw[hx]at h;exact congrArg some h
theorem RY{op:Operator}{a b:Ex}{v:AV}{Q:Prop}(h:EV Φ σ ρ (.bin op a b) v)(k:∀x y,EV Φ σ ρ a x->EV Φ σ ρ b y->dE σ op x y=some v->Q):Q:=by
 rw[EV,Dy]at h
 induction hx:ev Φ σ ρ a using ae with
 |none=>rw[hx]at h;exact ai h
 |some x =>
  induction hy:ev Φ σ ρ b using ae with
  |none=>rw[hx,hy]at h;exact ai h
  |some y=>rw[hx,hy]at h;exact k x y hx hy h
theorem R1{a b:Ex}{v:AV}{Q:Prop}(h:EV Φ σ ρ (.idx a b) v)(k:∀x y,EV Φ σ ρ a x->EV Φ σ ρ b y->na σ x y=some v->Q):Q:=by
 rw[EV,Dw]at h
 induction hx:ev Φ σ ρ a using ae with
 |none=>rw[hx]at h;exact ai h
 |some x =>
  induction hy:ev Φ σ ρ b using ae with
  |none=>rw[hx,hy]at h;exact ai h
  |some y=>rw[hx,hy]at h;exact k x y hx hy h
theorem RZ{op:CmpOp}{a b:Ex}{v:AV}{Q:Prop}(h:EV Φ σ ρ (.cmp op a b) v)(k:∀x y r,EV Φ σ ρ a x->EV Φ σ ρ b y->j5 σ op x y=some r->v=.bool r->Q):Q:=by
 rw[EV,Dz]at h
 induction hx:ev Φ σ ρ a using ae with
 |none=>rw[hx]at h;exact ai h
 |some x =>
  induction hy:ev Φ σ ρ b using ae with
  |none=>rw[hx,hy]at h;exact ai h
  |some y =>
   rw[hx,hy]at h;refine au (Zw.mp h) λr hr e=>?_;exact k x y r hx hy hr e.symm
theorem R6{op:UnaryOp}{a:Ex}{v:AV}{Q:Prop}(h:EV Φ σ ρ (.un op a) v)(k:∀x,EV Φ σ ρ a x->qX op x=some v->Q):Q:=by
 rw[EV,yk]at h
 induction hx:ev Φ σ ρ a using ae with
 |none=>rw[hx]at h;exact ai h
 |some x=>rw[hx]at h;exact k x hx h
theorem R2{c a b:Ex}{v:AV}{Q:Prop}(h:EV Φ σ ρ (.ite c a b) v)(h1:EV Φ σ ρ c (.bool true)->EV Φ σ ρ a v->Q)(h2:EV Φ σ ρ c (.bool false)->EV Φ σ ρ b v->Q):Q:=by
 rw[EV,ym]at h
 induction hx:ev Φ σ ρ c using ae with
 |none=>rw[hx]at h;exact ai h
 |some x =>
  rw[hx]at h
  induction x using AV.casesOn with
  |bool r =>
   induction r using ZL with
   |true=>exact h1 hx h
   |false=>exact h2 hx h
  |_=>exact ai h
theorem R3{es:bV}{v:AV}{Q:Prop}(h:EV Φ σ ρ (.list es) v)(k:∀vs,bX Φ σ ρ es=some vs->vs.length<=100000->.lst vs=v->Q):Q:=by
 rw[EV,Du]at h
 induction hx:bX Φ σ ρ es using ae with
 |none=>rw[hx]at h;exact ai h
 |some x=>rw[hx]at h;exact bR h λhl e=>k x hx hl (Y7 e)
theorem R5{es:bV}{v:AV}{Q:Prop}(h:EV Φ σ ρ (.tup es) v)(k:∀vs,bX Φ σ ρ es=some vs->vs.length<=100000->.tup vs=v->Q):Q:=by
 rw[EV,Dv]at h
 induction hx:bX Φ σ ρ es using ae with
 |none=>rw[hx]at h;exact ai h
 |some x=>rw[hx]at h;exact bR h λhl e=>k x hx hl (Y7 e)
theorem R0{a b:Ex}{v:AV}{Q:Prop}(h:EV Φ σ ρ (.dict (.cons a .nil) (.cons b .nil)) v)(k:∀i x,EV Φ σ ρ a (.int i)->EV Φ σ ρ b x->x.scalar=true->.dct [(i,x)]=v->Q):Q:=by
 rw[EV,Ni]at h
 induction hx:ev Φ σ ρ a using ae with
 |none=>rw[hx]at h;exact ai h
 |some x =>
  rw[hx]at h
  induction x using AV.casesOn with
  |int i =>
   induction hy:ev Φ σ ρ b using ae with
   |none=>rw[hy]at h;exact ai h
   |some y=>rw[hy]at h;exact bR h λhs e=>k i y hx hy hs (Y7 e)
  |_=>exact ai h
theorem R4{a:Ex}{lo hi:ul}{v:AV}{Q:Prop}(h:EV Φ σ ρ (.slice a lo hi) v)(k:∀x l u,EV Φ σ ρ a x->fG Φ σ ρ lo=some l->fG Φ σ ρ hi=some u->qS σ x l u=some v->Q):Q:=by
 rw[EV,pY]at h
 induction hx:ev Φ σ ρ a using ae with
 |none=>rw[hx]at h;exact ai h
 |some x =>
  induction hl:fG Φ σ ρ lo using ae with
  |none=>rw[hx,hl]at h;exact ai h
  |some l =>
   induction hu:fG Φ σ ρ hi using ae with
   |none=>rw[hx,hl,hu]at h;exact ai h
   |some u=>rw[hx,hl,hu]at h;exact k x l u hx hl hu h
theorem oK{f:Fn}{es:bV}{v:AV}{Q:Prop}(h:EV Φ σ ρ (.call f es) v)(k:∀vs,bX Φ σ ρ es=some vs->nS Φ σ f vs=some v->Q):Q:=by
 rw[EV,kW]at h
 induction hx:bX Φ σ ρ es using ae with
 |none=>rw[hx]at h;exact ai h
 |some x=>rw[hx]at h;exact k x hx h
theorem Gp{e:Ex}{es:bV}{vs:List AV}{Q:Prop}(h:bX Φ σ ρ (.cons e es)=some vs)(k:∀u us,EV Φ σ ρ e u->bX Φ σ ρ es=some us->u::us=vs->Q):Q:=by
 rw[mO]at h
 induction hu:ev Φ σ ρ e using ae with
 |none=>rw[hu]at h;exact ai h
 |some u =>
  induction cx:bX Φ σ ρ es using ae with
  |none=>rw[hu,cx]at h;exact ai h
  |some us=>rw[hu,cx]at h;exact k u us hu cx (Y7 h)
theorem Ai{e:Ex}{vs:List AV}{Q:Prop}(h:bX Φ σ ρ (.cons e .nil)=some vs)(k:∀u,EV Φ σ ρ e u->[u]=vs->Q):Q :=
 Gp h λu us hu cx e=>k u hu (by rw[show us=[]from(Y7 (show some []=some us from cx)).symm]at e;exact e)
def fj(G:GD)(A:ZZ)(ab:Env)(T:Tb)(ρ:aB)(σ:aA)(e:Expr)(v:AV):Prop:=ES G A ab T ρ σ (jae e ab) v/\∀b,v=.bool b->TS G A ab T ρ σ (jby e ab (jae e ab)) b
theorem gG(h:ES G A ab T ρ σ (jae e ab) v)(he:jby e ab (jae e ab)=(do let v <-jae e ab;jfx e.pos;jfA [v] (truthy v))):fj G A ab T ρ σ e v :=
 ⟨h,λb hb=>Iq he (hb▸h)⟩
theorem Og(h:gv.lookup x=some .values):False :=
 bP (Y'.mp (show gv.all (λe=>!Ae e.2)=true by decide +kernel) _ (mem_of_lookup h))
theorem Tp(h:iU.lookup x=some .values):False :=
 bP (Y'.mp (show iU.all (λe=>!Ae e.2)=true by decide +kernel) _ (mem_of_lookup h))
theorem Xa(h:ao T a=.call .values es):∃o ap p,a=.Call (.Attribute o ("values":Str) ap) [] [] p/\ff o 0 ap p=true/\es=.cons (ao T o) .nil:=by
 rcases wF h with⟨x,p,a,bs,pos,e1,hg,hl,e2⟩|⟨m,hl⟩|h|⟨_,o,m,ap,p,e1,hm,ho,e2⟩
 ·exact(Og hl).elim
 ·exact(Tp hl).elim
 ·exact bP h
 ·exact z0 o ap p (hm▸e1) ho e2
theorem Sx{vs:List AV}{v:AV}{Q:Prop}(h:nS Φ σ .listVals vs=some v)(k:∀es,vs=[.dct es]->es.length<=100000->.lst (es.map (·.2))=v->Q):Q:=by
 induction vs using Y6 with
 |nil=>exact ai h
 |cons x vs =>
  induction x using AV.casesOn with
  |dct es =>
   induction vs using Y6 with
   |nil=>exact bR (show(if es.length<=100000 then some (AV.lst (es.map (·.2)))else none)=some v from h) λhl e=>k es rfl hl (Y7 e)
   |cons=>exact ai h
  |_=>exact ai h
section
variable {v:AV}{pos:Pos}(hE:bQ ab T)
include hE
theorem TW(hO:fT G A Φ){a b:Expr}{op:Operator}(ha:bl G A Φ σ a)(hb:bl G A Φ σ b)(h:EV Φ σ ρ (.bin op (ao T a) (ao T b)) v):fj G A ab T ρ σ (.BinOp a op b pos) v :=
 RY h λx y hx hy h=>gG (Mt hO.hA (ha ab T ρ x hE hx).1 (hb ab T ρ y hE hy).1 h) rfl
theorem Ua(ha:bl G A Φ σ a)(h:EV Φ σ ρ (.un op (ao T a)) v):fj G A ab T ρ σ (.UnaryOp op a pos) v :=
 R6 h λx hx h=>by
  have ha:=ha ab T ρ x hE hx;have hs:=MK (pos:=pos) ha.1 h;refine⟨hs,λb hb=>?_⟩
  induction op using jfP with
  |Not =>
   induction x using AV.casesOn with
   |bool c =>
    have e:v=.bool (!c):=(Y7 h).symm;rw[e]at hb;injection hb with hb
    exact hb▸Xd (ha.2 c rfl)
   |_=>exact ai h
  |_=>exact Iq rfl (hb▸hs)
theorem T3(hc:bl G A Φ σ c)(ha:bl G A Φ σ a)(hb:bl G A Φ σ b)(h:EV Φ σ ρ (.ite (ao T c) (ao T a) (ao T b)) v):fj G A ab T ρ σ (.IfExp c a b pos) v :=
 R2 h (λh1 h=>have gN:=(hc ab T ρ _ hE h1).2 true rfl;have ha:=ha ab T ρ _ hE h;⟨C5 gN (λY=>ha.1) (λq=>nomatch q),λr hr=>Io gN (λY=>ha.2 r hr) (λq=>nomatch q)⟩)
  λh1 h=>have gN:=(hc ab T ρ _ hE h1).2 false rfl;have hb:=hb ab T ρ _ hE h;⟨C5 gN (λq=>nomatch q) (λY=>hb.1),λr hr=>Io gN (λq=>nomatch q) (λY=>hb.2 r hr)⟩
theorem TX(hO:fT G A Φ)(hm:jeC op b=false)(ha:bl G A Φ σ a)(hb:bl G A Φ σ b)(h:EV Φ σ ρ (.cmp op (ao T a) (ao T b)) v):fj G A ab T ρ σ (.Compare a [op] [b] pos) v :=
 RZ h λx y r hx hy hr e=>by
  refine aa e ?_;have ha:=(ha ab T ρ x hE hx).1;have hb:=(hb ab T ρ y hE hy).1;refine⟨My hO.hu hm ha hb hr,λb gM=>?_⟩;injection gM with gM
  exact gM▸Xc hO.hu hm ha hb hr
theorem TU(hs:∀e∈a::es,bl G A Φ σ e)(h:EV Φ σ ρ (.and (bg T (a::es))) v):fj G A ab T ρ σ (.BoolOp .And (a::es) pos) v:=by
 rw[EV,uW]at h;refine au (Zw.mp h) λb hb e=>?_;refine rwj e ?_;refine⟨Jl hE hs hb,λb' gM=>?_⟩;injection gM with gM
 exact gM▸Jn hE hs hb
theorem T7(hs:∀e∈a::es,bl G A Φ σ e)(h:EV Φ σ ρ (.or (bg T (a::es))) v):fj G A ab T ρ σ (.BoolOp .Or (a::es) pos) v:=by
 rw[EV,yl]at h;refine au (Zw.mp h) λb hb e=>?_;refine rwj e ?_;refine⟨Ug hE hs hb,λb' gM=>?_⟩;injection gM with gM
 exact gM▸Uh hE hs hb
theorem T4(hs:∀e∈es,bl G A Φ σ e)(h:EV Φ σ ρ (.list (bg T es)) v):fj G A ab T ρ σ (.List es pos) v :=
 R3 h λvs b0 hl e=>e▸gG (ME hl (j9 hE hs b0).2) rfl
theorem T9(hs:∀e∈es,bl G A Φ σ e)(h:EV Φ σ ρ (.tup (bg T es)) v):fj G A ab T ρ σ (.Tuple es k pos) v :=
 R5 h λvs b0 hl e=>e▸gG (MJ hl (j9 hE hs b0).2) rfl
theorem TZ(gx:ks.all jgz=true)(hk:∀k,some k∈ks->bl G A Φ σ k)(hs:∀e∈vs,bl G A Φ σ e)(h:EV Φ σ ρ (.dict (t4 T ks) (bg T vs)) v):fj G A ab T ρ σ (.Dict ks vs pos) v:=by
 induction ks using Y6 with
 |nil=>exact ai h
 |cons k ks =>
  induction k using ae with
  |none=>exact bP gx
  |some k =>
   induction ks using Y6 with
   |cons k2 ks=>cases k2<;>exact ai h
   |nil =>
    induction vs using Y6 with
    |nil=>exact ai h
    |cons x vs =>
     induction vs using Y6 with
     |cons y vs=>exact ai h
     |nil=>exact R0 h λi y hi hy fJ e=>e▸gG (MB fJ (hk k Zj ab T ρ _ hE hi).1 (hs x Zj ab T ρ _ hE hy).1) rfl
theorem T8{a:Expr}{lo hi:Option Expr}{p:Pos}(ha:bl G A Φ σ a)(hl:∀e,lo=some e->bl G A Φ σ e)(hu:∀e,hi=some e->bl G A Φ σ e)(h:EV Φ σ ρ (.slice (ao T a) (mj T lo) (mj T hi)) v):fj G A ab T ρ σ (.Subscript a (.Slice lo hi none p) pos) v :=
 R4 h λY Y Y hx h1 h2 h=>gG (MI (ha ab T ρ _ hE hx).1 (Hq hE hl h1) (Hq hE hu h2) h) rfl
theorem T0(ha:bl G A Φ σ a)(hb:bl G A Φ σ b)(h:EV Φ σ ρ (.idx (ao T a) (ao T b)) v):fj G A ab T ρ σ (.Subscript a b pos) v :=
 R1 h λY Y hx hy h=>gG (MD (ha ab T ρ _ hE hx).1 (hb ab T ρ _ hE hy).1 h) rfl
theorem Uc(hO:fT G A Φ)(hg:T.isGlobal f=true)(hf:f = "list") (ht:ao T a=.call .values es) (hs:∀o m ap p,a=.Call (.Attribute o m ap) [] [] p->bl G A Φ σ o) (h:EV Φ σ ρ (.call .listVals es) v):fj G A ab T ρ σ (.Call (.Name f p) [a] [] pos) v:=by
 refine kf (Xa ht) λo ap p' e1 ho e2=>?_;rw[e2]at h;refine oK h λvs b0 h=>Ai b0 λu hu e=>Sx h λes e3 hl e4=>?_;refine rwj e4 ?_;refine aa e1 ?_;refine aa hf ?_;rw[<-e]at e3;injection e3 with e3
 rw[e3]at hu;exact gG (MG hO.hA hE hO.hG (hf▸hg) ho hl (hs o _ ap p' e1 ab T ρ _ hE hu).1) rfl
theorem T5(hO:fT G A Φ)(hg:T.isGlobal f=true)(hf:f = "list") (ht:ao T a=.call .range es) (hs:∀g as p p',a=.Call (.Name g p) as [] p'->∀e∈as,bl G A Φ σ e) (h:EV Φ σ ρ (.call .listRange es) v):fj G A ab T ρ σ (.Call (.Name f p) [a] [] pos) v:=by
 refine kg (Bq ht) λp' b bs p2 e1 hr e2=>?_;rw[e2]at h;refine oK h λvs b0 h=>?_;refine au (Zw.mp (show(nu vs).map (λis=>AV.lst (is.map .int))=some v from h)) λis eS e=>?_;refine bN (j9 (G:=G) (A:=A) hE (hs _ _ _ _ e1) b0) λh1 h2=>?_;refine rwj e ?_;refine aa e1 ?_;refine aa hf ?_;exact gG (MF hO.hA hE hO.hG (hf▸hg) hr h1 h2 eS) rfl
theorem T1(hO:fT G A Φ)(hg:T.isGlobal f=true)(hf:f = "isinstance") (ht:T.isGlobal t=true) (eT:t = "bool") (ha:bl G A Φ σ a) (h:EV Φ σ ρ (.call .isBool (.cons (ao T a) .nil)) v):fj G A ab T ρ σ (.Call (.Name f p) [a,.Name t p'] [] pos) v :=
 oK h λvs b0 h=>Ai b0 λu hu e=>by
  rw[<-e]at h;rw[hf,eT];exact gG (C4 hE hO.hG (hf▸hg) (eT▸ht) (.inr (hO.hG.types "bool" (by simp))) (tz hu) (ha ab T ρ _ hE hu).1 λs φ β P x K r=>Ks K (show uG [_]=some _ from h) (.cons r .nil)) rfl
theorem T2(hO:fT G A Φ)(hg:T.isGlobal f=true)(hf:f = "isinstance") (ht:T.isGlobal t=true) (eT:t = "int") (ha:bl G A Φ σ a) (h:EV Φ σ ρ (.call .isInt (.cons (ao T a) .nil)) v):fj G A ab T ρ σ (.Call (.Name f p) [a,.Name t p'] [] pos) v :=
 oK h λvs b0 h=>Ai b0 λu hu e=>by
  rw[<-e]at h;rw[hf,eT];exact gG (C4 hE hO.hG (hf▸hg) (eT▸ht) (.inr (hO.hG.types "int" (by simp))) (tz hu) (ha ab T ρ _ hE hu).1 λs φ β P x K r=>Ku K (show uH [_]=some _ from h) (.cons r .nil)) rfl
theorem Ub(hO:fT G A Φ)(hg:T.isGlobal f=true)(hl:gv.lookup f=some g)(hs:∀e∈a::as,bl G A Φ σ e)(h:EV Φ σ ρ (.call g (bg T (a::as))) v):fj G A ab T ρ σ (.Call (.Name f p) (a::as) [] pos) v :=
 oK h λvs b0 h=>by
  refine bN (j9 (G:=G) (A:=A) hE hs b0) λh1 h2=>?_;exact gG (Mx hE hg h1 h2 (KJ hO.hA hO.hG hO.hN hO.hΦ hl h)) rfl
theorem T6(hO:fT G A Φ){o:Expr}{as:List Expr}{m:Str}{g:Fn}{ap:Pos}(hl:iU.lookup m=some g)(bY:ff o as.length ap pos=true)(ho:bl G A Φ σ o)(hs:∀e∈as,bl G A Φ σ e)(h:EV Φ σ ρ (.call g (.cons (ao T o) (bg T as))) v):fj G A ab T ρ σ (.Call (.Attribute o m ap) as [] pos) v :=
 oK h λvs b0 h=>Gp b0 λu us hu cx e=>by
  rw[<-e]at h;refine bN (j9 (G:=G) (A:=A) hE hs cx) λh1 h2=>?_;refine bS (Tl (G:=G) (A:=A) hO.hA hl h) λT' id hM hT hb=>?_;refine gG (MH bY hM h1 (ho ab T ρ _ hE hu).1 hT (h2 _) (λq=>?_) hb) rfl;rw[q]at cx;exact(Y7 (show some []=some us from cx)).symm
theorem TY(hO:fT G A Φ)(oj:(sc.kind==.function&&AE sc.names&&gens.all (λg=>g.is_async==0)&&(qg sc).all T.celled&&oS (T.comp sc))=true)(he:bl G A Φ σ aD)(hg:∀g∈gens,bl G A Φ σ g.iter/\(∀f p as pos,g.iter=.Call (.Name f p) as [] pos->∀a∈as,bl G A Φ σ a)/\∀c∈g.ifs,bl G A Φ σ c)(h:EV Φ σ ρ (.comp (eB sc).length (iY T (T.comp sc) (ao (T.comp sc) aD) gens)) v):fj G A ab T ρ σ (.ListComp aD gens sc pos) v:=by
 rw[EV,yj]at h;refine au (Zw.mp h) λus cx e=>?_;refine rwj e ?_;refine cu oj λc c5=>cu c λc c4=>cu c λc c3=>cu c λc1 c2=>gG (Mz hO.hA hE hO.hG ⟨eq_of_beq c1,of_decide_eq_true c2,λx hx=>?_,tW c5⟩ (λg hg=>eq_of_beq (Y'.mp c3 g hg)) he hg cx) rfl;exact Y'.mp c4 x (jdQ.mpr ⟨_,hx,rfl⟩)
end
theorem ls{s t n:Nat}(e:s=t)(h:s<n+1):t<=n:=e▸jba h
theorem q1(h:1+a<=n):a<n:=by lia
theorem q2(h:1+a+b<=n):b<n:=by lia
theorem q3(h:1+a+b+c<=n):c<n:=by lia
theorem zr{t x n:Nat}(h:t+x<=n):t<=n:=Y5 (ZH t x) h
theorem l1(h:a<n):a<n+1:=jdc h
theorem Mk(hO:fT G A Φ)(n:Nat):∀(e:Expr),sizeOf e<n->bl G A Φ σ e:=by
 induction n with
 |zero=>exact λe he=>absurd he (jeK _)
 |succ n ih =>
  have gg:∀{es:List Expr},sizeOf es<n->∀a∈es,bl G A Φ σ a:=λh a ha=>ih a (jaq (jbM ha) h);intro e hn ab T ρ v hE;have t:=Il T e;show EV Φ σ ρ (ao T e) v->fj G A ab T ρ σ e v;generalize ao T e=x at t;cases t with
  |c=>exact λh=>gG (MA h) rfl
  |var hx=>exact λh=>gG (xZ hE hx (R7 h)) rfl
  |glob hg hl=>exact λh=>gG (aG (show some (sG _)=some v from h) (MC hE hO.hG hg hl)) rfl
  |bin=>have h:=ls (Expr.BinOp.sizeOf_spec ..) hn;exact TW hE hO (ih _ (q1 (zr (zr (zr h))))) (ih _ (q3 (zr h)))
  |un=>have h:=ls (Expr.UnaryOp.sizeOf_spec ..) hn;exact Ua hE (ih _ (q2 (zr h)))
  |cmp hm=>have h:=ls (Expr.Compare.sizeOf_spec ..) hn;exact TX hE hO hm (ih _ (q1 (zr (zr (zr h))))) (gg (q3 (zr h)) _ Zj)
  |and=>have h:=ls (jfV ..) hn;exact TU hE (gg (q2 (zr h)))
  |or=>have h:=ls (jfV ..) hn;exact T7 hE (gg (q2 (zr h)))
  |ite=>have h:=ls (Expr.IfExp.sizeOf_spec ..) hn;exact T3 hE (ih _ (q1 (zr (zr (zr h))))) (ih _ (q2 (zr (zr h)))) (ih _ (q3 (zr h)))
  |list=>have h:=ls (Expr.List.sizeOf_spec ..) hn;exact T4 hE (gg (q1 (zr h)))
  |tup=>have h:=ls (Expr.Tuple.sizeOf_spec ..) hn;exact T9 hE (gg (q1 (zr (zr h))))
  |dict gx =>
   have h:=ls (Expr.Dict.sizeOf_spec ..) hn;exact TZ hE gx (λk hk=>ih _ (q1 (ls (jdN k) (l1 (jaq (jbM hk) (q1 (zr (zr h)))))))) (gg (q2 (zr h)))
  |slice =>
   have h:=ls (jfk ..) hn;have h':=ls (Expr.Slice.sizeOf_spec ..) (l1 (q2 (zr h)));exact T8 hE (ih _ (q1 (zr (zr h)))) (λe he=>ih _ (q1 (ls (jdN e) (he▸l1 (q1 (zr (zr (zr h')))))))) (λe he=>ih _ (q1 (ls (jdN e) (he▸l1 (q2 (zr (zr h')))))))
  |idx=>have h:=ls (jfk ..) hn;exact T0 hE (ih _ (q1 (zr (zr h)))) (ih _ (q2 (zr h)))
  | @vals a _ _ _ _ hg hf ha =>
   have h:=ls (jax ..) hn;have h':=jaq (jbM (a:=a) Zj) (q2 (zr (zr h)));exact Uc hE hO hg hf ha λo m ap p e=>ih _ (q1 (zr (zr (ls (jfl o m ap) (l1 (q1 (zr (zr (zr (ls (jax (.Attribute o m ap) [] [] p) (e▸l1 h')))))))))))
  | @lrange a _ _ _ _ hg hf ha =>
   have h:=ls (jax ..) hn;have h':=jaq (jbM (a:=a) Zj) (q2 (zr (zr h)));exact T5 hE hO hg hf ha λg as p p' e=>gg (q2 (zr (zr (ls (jax (.Name g p) as [] p') (e▸l1 h')))))
  |isBool hg hf ht eT=>have h:=ls (jax ..) hn;exact T1 hE hO hg hf ht eT (gg (q2 (zr (zr h))) _ Zj)
  |isInt hg hf ht eT=>have h:=ls (jax ..) hn;exact T2 hE hO hg hf ht eT (gg (q2 (zr (zr h))) _ Zj)
  |user hg hl=>have h:=ls (jax ..) hn;exact Ub hE hO hg hl (gg (q2 (zr (zr h))))
  |meth hl ho =>
   have h:=ls (jax ..) hn;exact T6 hE hO hl ho (ih _ (q1 (zr (zr (ls (jfl ..) (l1 (q1 (zr (zr (zr h)))))))))) (gg (q2 (zr (zr h))))
  |values=>exact λh=>oK h λvs Y h=>ai h
  |comp hc =>
   have h:=ls (Expr.ListComp.sizeOf_spec ..) hn;refine TY hE hO hc (ih _ (q1 (zr (zr (zr h))))) λg hg=>?_;have h:=ls (show sizeOf g=1+sizeOf g.target+sizeOf g.iter+sizeOf g.ifs+sizeOf g.is_async by cases g;exact jjo ..) (l1 (jaq (jbM hg) (q2 (zr (zr h)))));exact cz (ih _ (q2 (zr (zr h)))) (λf p as nt he=>gg (q2 (zr (zr (ls (jax (.Name f p) as [] nt) (he▸l1 (q2 (zr (zr h))))))))) (gg (q3 (zr h)))
  |bad=>exact λh=>ai h
theorem cH(hO:fT G A Φ)(n:Nat)(e:Expr)(h:sizeOf e<=n):bl G A Φ σ e:=Mk hO (n+1) e (jfK h)
end
section
structure SR(G:GD) (sB:Y8) (aj:Gh) (ah:Zi->Prop) (ab:Env) (T:Tb) (φ:Gh) (ρ:aB) (σ:aA) (β:List Zi) (P:Zi->Prop) (m:Str->Option Value) (s:Y8):Prop where
 base:∃h t,s={sB with heap:=h,toks:=t}
 old:∀b o,¬G.X b->sB.heap.get? b=some o->s.heap.get? b=some o
 size:sB.heap.objs.size<=s.heap.objs.size
 sub:∀t x,aj t x->φ t x
 er:ER G φ ab T ρ σ β P m s
 fr:mr ab T β P
 newL:sB.heap.objs.size<=ab.locals
 newC:∀x b,T.names.lookup x=some .cell->ab.cells.lookup x=some b->sB.heap.objs.size<=b
 newB:∀b∈β,sB.heap.objs.size<=b
 nodup:β.Nodup
 lenB:β.length=σ.length
 live:∀(j:Nat) (a:Zi) (o:AO),β[j]?=some a->σ[j]?=some o->o≠AO.gone->¬P a
 psub:∀a,P a->ah a
 tabs:bz G s.heap/\∀c,bM G s.heap c->bM G sB.heap c\/sB.heap.objs.size<=c
theorem SR.inv(S:SR G sB aj ah ab T φ ρ σ β P m s)(I:bh G sB.heap):bh G s.heap:=I.keepsX S.old S.tabs.1
theorem SR.go(S:SR G sB aj ah ab T φ ρ σ β P m s)(k:GX G s φ s' am):SR G sB aj ah ab T am ρ σ β P m s' :=
 { S with
   base:=by
    refine dW S.base ?_;rintro h t rfl;refine bA k.grows.keeps λh' t' e Y=>?_;exact jQ h' t' e
   old:=λb o hb e=>k.ext b o hb (S.old b o hb e)
   size:=Y5 S.size k.grows.size
   sub:=λt x e=>k.sub t x (S.sub t x e)
   er:=S.er.go k S.tabs.1
   tabs:=by
    refine bN (k.tabs S.tabs.1) λh1 h2=>?_;exact⟨h1,λc hc=>(h2 c hc).elim (S.tabs.2 c) λq=>.inr (Y5 S.size q)⟩}
theorem SR.done(S:SR G sB aj ah ab T φ ρ σ β P m s):GX G sB aj s φ:=by
 have o:=S.old;have z:=S.size;have k:=S.er.tk;have tb:=S.tabs;refine dW S.base ?_;rintro h t rfl;exact⟨⟨⟨h,t,rfl,o⟩,z⟩,S.sub,k,λY=>tb⟩
theorem SR.frozen(S:SR G sB aj ah ab T φ ρ σ β P m s)(hP₀:∀a,sB.heap.objs.size<=a->ah a)(e:aZ σ 6 v=some v')(r:VR G.tok φ s.heap β P v x):VR G.tok φ s.heap [] ah v' x :=
 yQ S.er.objs S.psub (λi a Y hb=>hP₀ a (S.newB a (ZK hb))) 6 e r
theorem sF{sB:Y8}(hn:sB.heap.objs.size<=n)(e:sB.heap.get? b=some o):b≠n:=λq=>Zv _ (bf (q▸Zz e:n<sB.heap.objs.size) hn)
theorem SR.store{ab:Env}{T:Tb}{ρ:aB}{G:GD}{s:Y8}(hE:bQ ab T)(hT:jx T)(hx:T.own x=some i)(S:SR G sB aj ah ab T φ ρ σ β P m s)(r:VR G.tok φ s.heap β P v xv)(hQ:∀s' m',SR G sB aj ah ab T φ (ρ.set i (some v)) σ β P m' s'->(∀b o,¬(b=ab.locals\/∃y,T.names.lookup y=some .cell/\ab.cells.lookup y=some b)->s.heap.get? b=some o->s'.heap.get? b=some o)->s.heap.objs.size<=s'.heap.objs.size->Q () s'):
 Zd (Zf af wd) A (jdC ab x xv) Q E s:=by
 refine bN (tC hx) λvP hk=>?_;refine HW S.tabs.1 hE hT vP hk S.er S.fr r λh' t m' ir ht hs jj R TT=>?_;refine dW S.base λhh tt e=>?_;have hn:sB.heap.objs.size<=ir:=by
  rcases ht with rfl|⟨h1,h2⟩
  ·exact S.newL
  ·exact S.newC x ir h2 h1
 refine hQ _ m' {S with base:=jQ h' t (by refine aa e ?_;rfl),old:=λb o hb e=>hs.extBut b o (sF hn e) (S.old b o hb e),size:=Y5 S.size (ZP hs.1.symm),er:=R,tabs:=⟨TT.1,λc q=>S.tabs.2 c (TT.2 c q)⟩}
  (λb o hb e=>hs.extBut b o (λq=>hb ?_) e) (ZP hs.1.symm)
 subst q;rcases ht with rfl|⟨h1,h2⟩
 ·exact .inl rfl
 ·exact .inr ⟨x,h2,h1⟩
theorem SR.alloc{G:GD}{s:Y8}{s':Y8}{os:List AO}{as:List Zi}(S:SR G sB aj ah ab T φ ρ σ β P m s)(k:GX G s φ s' am)(zy:∀a,bM G s'.heap a->s.heap.objs.size<=a->P' a)(jP:∀a,P' a->P a)(oC:∀a,P a->a<s.heap.objs.size->P' a)(sR:∀a,s'.heap.objs.size<=a->P' a)(dZ:∀a∈as,s.heap.objs.size<=a/\a<s'.heap.objs.size/\¬P' a)(df:as.Nodup)(aN:os.length=as.length)(YA:∀o∈os,o≠AO.gone)(Qr:∀(j:Nat) (o:AO),os[j]?=some o->∃a,as[j]?=some a/\OR G.tok am s'.heap (β++as) P' o a):
 SR G sB aj ah ab T am ρ (σ++os) (β++as) P' m s':=by
 have R:=S.er;have hk:∀a o,P a->s.heap.get? a=some o->s'.heap.get? a=some o/\P' a:=λa o p e=>⟨k.ext a o (R.psafe a p).2 e,oC a p (Zz e)⟩
 have l0:β <+: β++as:=jcL _ _;refine{ S.go k with er:=?_,fr:=?_,newB:=?_,nodup:=?_,lenB:=?_,live:=?_,psub:=λa p=>S.psub a (jP a p)}
 ·refine⟨R.ns.at' λo e=>k.ext _ o (R.bsafe _ (.inr (.inl rfl))).2 e,R.len,λy j u hy hj=>?_,λy hy=>?_,λj o hj ho=>?_,λa ha=>?_,λa p=>R.psafe a (jP a p),λa ha=>?_,λa ha=>?_,k.tk⟩
  ·refine au (R.names y j u hy hj) λv' a b=>?_;refine aO v' (a.mono k.sub hk l0) ?_;rcases b with b|⟨c,b1,b2,o,ho,hd⟩
   ·exact .inl b
   ·exact .inr ⟨c,b1,b2,o,k.ext c o (R.bsafe c (.inr (.inr ⟨y,b1⟩))).2 ho,hd⟩
  ·obtain⟨c,dk,h1,o,ho,hd⟩:=R.celled y hy;exact⟨c,dk,h1,o,k.ext c o (R.bsafe c (.inr (.inr ⟨y,h1⟩))).2 ho,hd⟩
  ·rcases jcd j σ.length with q|q
   ·rw[Zx q]at hj;refine au (R.objs j o hj ho) λa h1 h2=>?_;refine aO a ?_ (h2.mono k.sub hk l0 λo e=>k.ext a o (R.bsafe a (.inl (ZK h1))).2 e);rw[Zx (by refine aa S.lenB ?_;exact q)];exact h1
   ·rw[Zk q]at hj;refine au (Qr _ o hj) λa h1 h2=>?_;refine aO a ?_ h2;rw[Zk (by refine aa S.lenB ?_;exact q),S.lenB];exact h1
  ·rcases ha with ha|ha
   ·exact sR a ha
   ·rcases(k.tabs S.tabs.1).2 a ha with q|q
    ·exact oC a (R.freshX a (.inr q)) (bM.lt S.tabs.1 q)
    ·exact zy a ha q
  ·rcases ha with ha|ha
   ·rcases ZI.mp ha with q|q
    ·exact R.bsafe a (.inl q)
    ·exact R.psafe a (R.fresh a (dZ a q).1)
   ·exact R.bsafe a (.inr ha)
  ·rcases ZI.mp ha with q|q
   ·exact bf (R.blt a q) k.grows.size
   ·exact(dZ a q).2.1
 ·refine⟨λp=>S.fr.ploc (jP _ p),λq=>?_,λx hx=>?_⟩
  ·rcases ZI.mp q with q|q
   ·exact S.fr.bloc q
   ·exact Zv _ (bf R.ns.lt (dZ _ q).1)
  ·refine fq (S.fr.own x hx) λc e1 e2 e3=>?_;refine lj c e1 (λp=>e2 (jP _ p)) (λq=>?_);rcases ZI.mp q with q|q
   ·exact e3 q
   ·refine bA (R.celled x (by unfold Tb.celled;refine aa hx ?_;rfl)) λc' dk e4 e5=>?_;rw[e1]at e4;cases e4;exact Zv _ (bf e5.lt (dZ _ q).1)
 ·intro b hb;rcases ZI.mp hb with q|q
  ·exact S.newB b q
  ·exact Y5 S.size (dZ b q).1
 ·rw[jbs];exact cz S.nodup df (λa ha b hb q=>Zv _ (bf (q▸R.blt a ha:b<s.heap.objs.size) (dZ b hb).1))
 ·refine aa Ze ?_;refine aa Ze ?_;refine aa S.lenB ?_;refine aa aN ?_;rfl
 ·intro j a o hb ho hg;rcases jcd j σ.length with q|q
  ·rw[Zx q]at ho;rw[Zx (by refine aa S.lenB ?_;exact q)]at hb;exact λp=>S.live j a o hb ho hg (jP a p)
  ·rw[Zk (by refine aa S.lenB ?_;exact q)]at hb;exact(dZ a (ZK hb)).2.2
set_option tactic.hygienic true in
theorem SR.mutate{σ:aA}{G:GD}{s:Y8}(S:SR G sB aj ah ab T φ ρ σ β P m s)(hi:σ[i]?=some o)(hg:o≠AO.gone)(ha:β[i]?=some a)(m5:o'≠AO.gone)(hs:Z' a s.heap h')(ht:s.toks<=t)(Qp:∃ob,s.heap.get? a=some ob/\∀v,ob.data≠.cell v)(r:OR G.tok φ h' β P o' a):SR G sB aj ah ab T φ ρ (σ.set i o') β P m {s with heap:=h',toks:=t}:=by
 have oh:=S.live i a o ha hi hg;have R:=S.er;have hz:h'.objs.size=s.heap.objs.size:=hs.1;have hk:∀b o,P b->s.heap.get? b=some o->h'.get? b=some o/\P b:=λb o p e=>⟨hs.extBut b o (λq=>oh (q▸p)) e,p⟩
 have mY:=ZK ha;have EU:∀c v,s.heap.IsCell c v->c≠a:=λc v hc q=>by
  refine au Qp λob h1 h2=>?_;refine au hc λG8 h3 h4=>?_;subst q;rw[h1]at h3;cases h3;exact h2 v h4
 have vF:ab.locals≠a:=λq=>S.fr.bloc (q▸mY);have TT:=S.tabs.1.but (λb o hb e=>hs.extBut b o hb e) (R.bsafe a (.inl mY)).2 λq=>oh (R.freshX a (.inr q));refine dW S.base λhh tt e=>?_;refine{ S with base:=jQ h' t (by refine aa e ?_;rfl),old:=λb o hb e=>hs.extBut b o (sF (S.newB a mY) e) (S.old b o hb e),tabs:=⟨TT.1,λc q=>S.tabs.2 c (TT.2 c q)⟩,size:=Y5 S.size (ZP hz.symm),er:=?_,lenB:=by refine aa jbP ?_;exact S.lenB,live:=?_}
 ·refine⟨R.ns.at' λo e=>hs.extBut _ o vF e,R.len,λy j u hy hj=>?_,λy hy=>?_,λj o hj ho=>?_,λb hb=>R.freshX b (hb.imp (λhb=>by refine rwj hz ?_;exact hb) (TT.2 b)),R.psafe,R.bsafe,λb hb=>by show b<h'.objs.size;refine aa hz ?_;exact R.blt b hb,R.tk.fn,R.tk.pos,λt' y e=>bf (R.tk.lt t' y e) ht,bf R.tk.one ht⟩
  ·refine au (R.names y j u hy hj) λv' q b=>?_;refine aO v' (q.mono (λY Y e=>e) hk (Zn _)) ?_;rcases b with b|⟨c,b1,b2,b3⟩
   ·exact .inl b
   ·exact .inr ⟨c,b1,b2,b3.sameBut hs (EU c _ b3)⟩
  ·refine bA (R.celled y hy) λc dk h1 h2=>?_;exact cZ c dk h1 (h2.sameBut hs (EU c _ h2))
  ·rw[jbt]at hj;split at hj
   ·rename_i fb;subst fb;split at hj
    ·cases hj;exact aO a ha r
    ·cases hj
   ·rename_i fb;refine au (R.objs j o hj ho) λb h1 h2=>?_;refine aO b h1 (h2.mono (λY Y e=>e) hk (Zn _) λo e=>hs.extBut b o (λq=>fb ?_) e);subst q;exact(jiu (ZE.mp ha).1 S.nodup).mp (ha.trans h1.symm)
 ·intro j b u hb hu vt;rw[jbt]at hu;split at hu
  ·rename_i fb;subst fb;rw[ha]at hb;cases hb;exact oh
  ·exact S.live j b u hb hu vt
set_option tactic.hygienic true in
theorem SR.settle(S:SR G sB aj ah ab T φ ρ σ β P m s)(hP₀:∀a,sB.heap.objs.size<=a->ah a)(hi:(σ[i]?).isSome=true)(ha:β[i]?=some a):
 SR G sB aj ah ab T φ ρ (σ.set i .gone) β (λb=>P b\/b=a) m s:=by
 have mY:=ZK ha;have R:=S.er;have R':ER G φ ab T ρ σ β (λb=>P b\/b=a) m s:=R.weak (λY p=>.inl p) (λb p=>p.elim (R.psafe b) λq=>q▸R.bsafe a (.inl mY));refine{ S with er:={R' with objs:=λj o hj ho=>?_},fr:=⟨λp=>p.elim S.fr.ploc λq=>S.fr.bloc (q▸mY),S.fr.bloc,λx hx=>?_⟩,lenB:=by refine aa jbP ?_;exact S.lenB,live:=?_,psub:=λb p=>p.elim (S.psub b) λq=>q▸hP₀ a (S.newB a mY)}
 ·rw[jbt]at hj;split at hj
  ·split at hj
   ·cases hj;exact absurd rfl ho
   ·cases hj
  ·exact R'.objs j o hj ho
 ·refine fq (S.fr.own x hx) λc e1 e2 e3=>?_;exact lj c e1 (λp=>p.elim e2 λq=>e3 (q▸mY)) e3
 ·intro j b u hb hu vt;rw[jbt]at hu;split at hu
  ·split at hu
   ·cases hu;exact absurd rfl vt
   ·cases hu
  ·rename_i fb;rintro(p|rfl)
   ·exact S.live j b u hb hu vt p
   ·exact fb ((jiu (ZE.mp ha).1 S.nodup).mp (ha.trans hb.symm))
end
section
theorem GB:typeLookup (.type "list") (dunderI "add")=pure (some (.builtin "list.__iadd__")):=jgN.lookup
theorem HH:isSeqSlot (some (.builtin "list.__iadd__"))=true:=by decide +kernel
theorem TF(h:a+b<=100000):¬((c&&jfF (a+b))=true):=by
 rw[ZA];rintro⟨_,q⟩;have:a+b>jcU:=of_decide_eq_true q;exact Z0.mpr (d9 h) this
theorem GL(Gn:Array Value)(n:Nat)(f:Array Value->Array Value):
 ∃n',jcO f {cls:=.type "list",dict:=none,data:=.seq Gn n,slots:=#[]}={cls:=.type "list",dict:=none,data:=.seq (f Gn) n',slots:=#[]}:=⟨_,rfl⟩
theorem Rq{s:Y8}{vs ws:List Value}(hl:s.heap.PlainList l vs.toArray)(hb:s.heap.PlainList b ws.toArray)(be:vs.length+ws.length<=100000)(h:∀h',h'.PlainList l (vs++ws).toArray->Z' l s.heap h'->Q (.ref l) {s with heap:=h'}):
 Zd (Zf af wd) A (jei .Add (.ref l) (.ref b)) Q E s:=by
 refine aX (id hl) λn ho=>?_;refine aX (id hb) λn2 jN=>?_;have ha:s.TypeIs (.ref l) "list" := ⟨_,ho,rfl⟩
 have gM:s.TypeIs (.ref b) "list" := ⟨_,jN,rfl⟩
 unfold jei;refine jaS ?_;have PO:fillsInplaceSlot (.type "list") "add" (jiE==.Add)=pure false:=by
  unfold fillsInplaceSlot;show(typeLookup (.type "list") (dunderI "add") >>= λfi=>pure (fi.isSome&&!isSeqSlot fi))=pure false;refine aa GB ?_;refine aa (pure_bind _ _) ?_;refine aa HH ?_;rfl
 have QL:seqSlot? (.type "list") (dunderI "add")=pure (some (.builtin "list.__iadd__")):=by
  unfold seqSlot?;refine aa GB ?_;refine aa (pure_bind _ _) ?_;refine aa HH ?_;rfl
 refine Zc (wpAny_typeOf ha (Zc (jiP PO ?_)));show Zd _ A (if false=true then _ else _) Q E s;refine aa (if_neg Z5) ?_;refine Zc (PySem.wpAny_binaryOp1_none (nm := "add") ha gM noFill_list_add ?_);refine Zc (jiP QL ?_);refine Zc (jeY ?_);refine(jdD jgN ha PySem.F.entry_list_iadd (PySem.F.args_list_iadd_2 _ _) (AutoSeq1.list___iadd___list_list_0 l vs.toArray n b ws.toArray n2 ?_ ?_ ?_) ⟨ho,jN,?_⟩)
 ·simpa using TF (c:=!vs.isEmpty) be
 ·exact d9 (by simp;exact BA be)
 ·have:=d9 be;simp;exact jcJ this
 ·have hs:Z' l s.heap (s.heap.update l (jcO λx=>x++ws.toArray)):=jco ..;refine h _ ?_ hs;obtain⟨n',ji⟩:∃n',jcO (λx=>x++ws.toArray) {cls:=jgp "list",data:=jhG vs.toArray n}={cls:=jgp "list",data:=jhG (vs++ws).toArray n'}:=by
   refine aX (GL vs.toArray n (λx=>x++ws.toArray)) λn' h1=>?_;exact⟨n',by refine aa h1 ?_;simp⟩
  exact⟨n',ji▸jcn _ ho (by refine aa ji ?_;rfl)⟩
theorem SD{s:Y8}{vs:List Value}(hl:s.heap.PlainList l vs.toArray)(be:vs.length<=100000)(h:∀h',h'.PlainList l vs.reverse.toArray->Z' l s.heap h'->Q .none {s with heap:=h'}):Zd (Zf af wd) A (call (.builtin "list.reverse") [.ref l]) Q E s:=by
 refine aX (id hl) λn ho=>?_;refine jdD jgb ⟨_,ho,rfl⟩ PySem.F.entry_list_reverse (PySem.F.args_list_reverse_1 _) (AutoSeq1.list_reverse_list_0 l vs.toArray n (d9 (by simpa using be))) ⟨ho,?_⟩;have hs:Z' l s.heap (s.heap.update l (jcO λx=>x.reverse)):=jco ..;refine h _ ?_ hs;obtain⟨n',ji⟩:∃n',jcO (λx=>x.reverse) {cls:=jgp "list",data:=jhG vs.toArray n}={cls:=jgp "list",data:=jhG vs.reverse.toArray n'}:=by
  refine aX (GL vs.toArray n (λx=>x.reverse)) λn' h1=>?_;exact⟨n',by refine aa h1 ?_;simp⟩
 exact⟨n',ji▸jcn _ ho (by refine aa ji ?_;rfl)⟩
theorem VQ(hA:A.handled=none)(hl:s.heap.IsList l xs.toArray)(hF:F l)(r:ar tk φ s.heap β P vs xs)(hQ:∀it s',j0 A tk φ β P F s vs.reverse it s'->Zd (Zf af wd) A (jdU it) (λtj cO=>tj=it/\cO=s') ax s'->Q it s'):
 Zd (Zf af wd) A (call (.type "reversed") [.ref l]) Q E s:=by
 have a0:l<s.heap.objs.size:=by refine au hl λY e Y=>?_;exact Zz e
 refine call_reversed_list hl ?_;have FG:({s with heap:=s.heap.push (revObj l ((xs.toArray.size:Int)-1))}:Y8).heap.IsRevIter s.heap.objs.size l ((xs.toArray.size:Int)-1):=⟨_,Z3 _ rfl,rfl,rfl⟩
 have W:=Walks.listRev (prog:=af) (w:=wd) hA s.heap.objs.size l (jaI a0) xs.toArray;have be:xs.toArray.size=vs.reverse.length:=by refine aa Zo ?_;refine aa List.length_reverse ?_;refine rwj r.length ?_;rfl
 refine hQ _ _ ⟨revObj l ((xs.toArray.size:Int)-1),[s.heap.objs.size,l],λi v=>i<xs.toArray.size/\xs.toArray[xs.toArray.size-1-i]?=some v,
  λi h=>i<=xs.toArray.size/\h.IsRevIter s.heap.objs.size l ((xs.toArray.size:Int)-1-(i:Int))/\h.IsList l xs.toArray,rfl,rfl,?_,⟨jbp _,?_,hl.push _⟩,λb hb=>?_,λi x hx=>?_⟩ ?_
 ·refine rwj be ?_;exact⟨W.sub,W.frame,λi s Q E hi st hQ=>W.item i s Q E hi st λv h' t hv=>hQ v h' t ⟨hi,hv⟩,W.done,W.self⟩
 ·simpa using FG
 ·simp only[ZT,jeu,or_false]at hb;rcases hb with rfl|rfl
  ·exact .inl rfl
  ·exact .inr ⟨hF,a0⟩
 ·refine bN hx λhi hx=>?_;obtain⟨v,h1,h2⟩:=r.reverse.getr (i:=i) (x:=x) (by
   rw[Zo]at hi;refine aa (jeM hi) ?_;simpa using hx)
  exact aO v h1 h2
 ·exact wpAny_pyIter_revIter FG ⟨rfl,rfl⟩
end
def my(G:GD)(ab:Env)(T:Tb)(b:Zi):Prop:=b=ab.locals\/(∃y,T.names.lookup y=some .cell/\ab.cells.lookup y=some b)\/G.X b
def pi(G:GD)(ab:Env)(T:Tb)(σ:aA)(β:List Zi)(b:Zi):Prop:=¬my G ab T b/\∀j:Nat,β[j]?=some b->σ[j]?=some .gone
structure bu(G:GD) (ab:Env) (T:Tb) (s:Y8) (φ:Gh) (σ:aA) (β:List Zi) (P:Zi->Prop) (s':Y8) (am:Gh) (an:aA) (aH:List Zi) (P':Zi->Prop):Prop where
 keep:∀b o,pi G ab T σ β b->s.heap.get? b=some o->s'.heap.get? b=some o
 still:∀b,b<s.heap.objs.size->pi G ab T σ β b->pi G ab T an aH b
 pm:∀a,P a->a<s.heap.objs.size->P' a
 sub:∀t x,φ t x->am t x
 pre:β <+: aH
 size:s.heap.objs.size<=s'.heap.objs.size
 pn:∀a,a<s.heap.objs.size->P' a->P a\/a∈β
 bn:∀a∈aH,a<s.heap.objs.size->a∈β
section
theorem bu.refl:bu G ab T s φ σ β P s φ σ β P:=⟨λY Y Y e=>e,λY Y h=>h,λY p Y=>p,λY Y e=>e,Zn _,Y9 _,λY Y p=>.inl p,λY h Y=>h⟩
theorem bu.trans(x:bu G ab T s φ σ β P s' am an aH P')(y:bu G ab T s' am an aH P' cO kE iv ug rC):bu G ab T s φ σ β P cO kE iv ug rC where
 keep:=λb o hb e=>y.keep b o (x.still b (Zz e) hb) (x.keep b o hb e)
 still:=λb hb h=>y.still b (bf hb x.size) (x.still b hb h)
 pm:=λa p hl=>y.pm a (x.pm a p hl) (bf hl x.size)
 sub:=λt z e=>y.sub t z (x.sub t z e)
 pre:=x.pre.trans y.pre
 size:=Y5 x.size y.size
 pn:=λa hl p=>(y.pn a (bf hl x.size) p).elim (x.pn a hl) λq=>.inr (x.bn a q hl)
 bn:=λa h hl=>x.bn a (y.bn a h (bf hl x.size)) hl
theorem bu.go(k:GX G s φ s' am):bu G ab T s φ σ β P s' am σ β P:=⟨λb o hb e=>k.ext b o (λq=>hb.1 (.inr (.inr q))) e,λY Y h=>h,λY p Y=>p,k.sub,Zn _,k.grows.size,λY Y p=>.inl p,λY h Y=>h⟩
theorem SR.stillP(S:SR G sB aj ah ab T φ ρ σ β P m s)(p:P a):pi G ab T σ β a:=by
 refine⟨λq=>?_,λj hj=>?_⟩
 ·rcases q with rfl|⟨y,h1,h2⟩|q
  ·exact S.fr.ploc p
  rotate_left
  ·exact(S.er.psafe a p).2 q
  ·refine fq (S.fr.own y h1) λc e1 e2 Y=>?_;rw[h2]at e1;cases e1;exact e2 p
 ·have hl:j<σ.length:=by refine rwj S.lenB ?_;exact(ZE.mp hj).1
  induction ho:σ[j]? using ae with
  |none=>rw[Zg hl]at ho;cases ho
  |some o =>
   by_cases hg:o=.gone
   ·refine aa hg ?_;rfl
   ·exact absurd p (S.live j a o hj ho hg)
theorem SR.carryK(S:SR G sB aj ah ab T φ ρ σ β P m s)(C:bu G ab T s φ σ β P s' am an aH P'):∀a o,P a->s.heap.get? a=some o->s'.heap.get? a=some o/\P' a :=
 λa o p e=>⟨C.keep a o (S.stillP p) e,C.pm a p (Zz e)⟩
theorem SR.carry(S:SR G sB aj ah ab T φ ρ σ β P m s)(C:bu G ab T s φ σ β P s' am an aH P')(r:VR tk φ s.heap β P v x):VR tk am s'.heap aH P' v x :=
 r.mono C.sub (S.carryK C) C.pre
theorem SR.carrys(S:SR G sB aj ah ab T φ ρ σ β P m s)(C:bu G ab T s φ σ β P s' am an aH P')(r:ar tk φ s.heap β P v x):ar tk am s'.heap aH P' v x :=
 r.mono C.sub (S.carryK C) C.pre
structure bb(G:GD) (A:ZZ) (Φ:cX) (sB:Y8) (ah:Zi->Prop) (ab:Env) (T:Tb):Prop where
 hO:fT G A Φ
 hE:bQ ab T
 hT:jx T
 IB:bh G sB.heap
 hP₀:∀a,sB.heap.objs.size<=a->ah a
 hI:jiW ab=false
 hcl:∀x c,ab.cells.lookup x=some c->T.celled x=true
def Step(G:GD)(sB:Y8)(aj:Gh)(ah:Zi->Prop)(ab:Env)(T:Tb)(s:Y8)(φ:Gh)(σ:aA)(β:List Zi)(P:Zi->Prop)(av:aB)(an:aA)(s':Y8)(K:Gh->List Zi->(Zi->Prop)->Prop):Prop :=
 ∃am aH P' m',SR G sB aj ah ab T am av an aH P' m' s'/\bu G ab T s φ σ β P s' am an aH P'/\K am aH P'
def ET(G:GD)(A:ZZ)(sB:Y8)(aj:Gh)(ah:Zi->Prop)(ab:Env)(T:Tb)(ρ:aB)(σ:aA)(t:Sem Value)(v:AV)(an:aA):Prop :=
 ∀s φ β P m,SR G sB aj ah ab T φ ρ σ β P m s->Zd (Zf af wd) A t (λx s'=>Step G sB aj ah ab T s φ σ β P ρ an s' λam aH P'=>VR G.tok am s'.heap aH P' v x) ax s
theorem MR(F:bb G A Φ sB ah ab T)(h:ES G A ab T ρ σ t v):ET G A sB aj ah ab T ρ σ t v σ:=λs φ β P m S =>
 h.post (S.inv F.IB) S.er λx s' am k I' R' r=>⟨am,β,P,m,S.go k,.go k,r⟩
theorem SR.scratch(S:SR G sB aj ah ab T φ ρ σ β P m s)(hC:sB.heap.objs.size<=C)(hp:¬P C)(hb:C∉β)(hl:C≠ab.locals)(hn:s.heap.Ns C m')(hs:Z' C s.heap h'):
 SR G sB aj ah ab T φ ρ σ β P m {s with heap:=h'}:=by
 have EG:=S.tabs.1.notX_ns hn;have TT:=S.tabs.1.but (λb o hb e=>hs.extBut b o hb e) EG (S.tabs.1.noHas_ns hn);have R:=S.er.but (X:=(·=C)) (h':=h') (t:=s.toks) S.tabs.1 (λb hb q=>EG (q▸hb)) (λb o hb e=>hs.extBut b o hb e) (ZP hs.1.symm) (Y9 _) (λa p q=>hp (q▸p)) (λa p q=>hb (q▸p)) (λq=>hl q.symm)
  (λx c v hc hi q=>rW hn hi q.symm)
 refine dW S.base λhh tt e=>?_;exact{ S with base:=jQ h' s.toks (by refine aa e ?_;rfl),old:=λb o hb e=>hs.extBut b o (sF hC e) (S.old b o hb e),size:=Y5 S.size (ZP hs.1.symm),er:=R,tabs:=⟨TT.1,λc q=>S.tabs.2 c (TT.2 c q)⟩}
theorem SR.alloc1(S:SR G sB aj ah ab T φ ρ σ β P m s)(k:GX G s φ s' am)(zy:∀a,bM G s'.heap a->s.heap.objs.size<=a->P' a)(jP:∀a,P' a->P a)(oC:∀a,P a->a<s.heap.objs.size->P' a)(sR:∀a,s'.heap.objs.size<=a->P' a)(h1:s.heap.objs.size<=a)(h2:a<s'.heap.objs.size)(h3:¬P' a)(hg:o≠.gone)(ho:OR G.tok am s'.heap (β++[a]) P' o a):
 SR G sB aj ah ab T am ρ (σ++[o]) (β++[a]) P' m s'/\bu G ab T s φ σ β P s' am (σ++[o]) (β++[a]) P'/\VR G.tok am s'.heap (β++[a]) P' (.ref σ.length) (.ref a):=by
 refine cz (S.alloc (os:=[o]) (as:=[a]) k zy jP oC sR (λb hb=>?_) (by simp) rfl (λu hu=>?_) (λj u hu=>?_)) ⟨λb o hb e=>k.ext b o (λq=>hb.1 (.inr (.inr q))) e,λb hb cM=>⟨cM.1,λj hj=>?_⟩,oC,k.sub,jcL _ _,k.grows.size,λa Y p=>.inl (jP a p),λb hb hl=>?_⟩ (.ref ?_)
 ·refine aa (Zu.mp hb) ?_;exact cz h1 h2 h3
 ·refine aa (Zu.mp hu) ?_;exact hg
 ·induction j using jaA with
  |zero=>cases hu;exact aO a rfl ho
  |succ j=>simp at hu
 ·rcases jcd j β.length with q|q
  ·rw[Zx q]at hj;have:=cM.2 j hj;rw[Zx (by refine rwj S.lenB ?_;exact q)];exact this
  ·rw[Zk q]at hj;have:b=a:=by
    have:=ZK hj;simpa using this
   exact absurd hb (Z0.mpr (this▸h1))
 ·rcases ZI.mp hb with q|q
  ·exact q
  ·exact absurd hl (Z0.mpr ((Zu.mp q)▸h1))
 ·rw[Zk (by refine aa S.lenB ?_;exact Y9 _),S.lenB,jaE];rfl
theorem CC(S:SR G sB aj ah ab T φ ρ σ β P m s)(cd:CD G s φ β P vs am s' D C da P')(th:Bool):
 Step G sB aj ah ab T s φ σ β P ρ (if th then σ++[.list vs]else σ) s' λam aH P'=>VR G.tok am s'.heap aH P' (if th then .ref σ.length else .lst vs) (.ref D)/\¬P' C/\C∉aH:=by
 refine au cd.items λxs a1 a2=>?_;have hD:D<s'.heap.objs.size:=by refine aX a1 λn ho=>?_;exact Zz ho
 have Ey:C<s'.heap.objs.size:=cd.ns.lt;have TB:=(cd.go.tabs S.tabs.1).1;have Fk:∀c,bM G s'.heap c->c≠C:=λc h q=>TB.noHas_ns cd.ns (q▸h);have Qj:∀c,bM G s'.heap c->c≠D:=λc h q=>(TB.notX_list a1).2 (q▸h);have Ez:C∉β:=λq=>Zv _ (bf (S.er.blt C q) cd.cNew)
 induction th using ZL with
 |false =>
  have S':=S.alloc (os:=[]) (as:=[]) (P':=λa=>P a/\a≠C) cd.go (λa h1 h2=>⟨S.er.fresh a h2,Fk a h1⟩) (λa p=>p.1) (λa p hl=>⟨p,λq=>Zv _ (bf (q▸hl) cd.cNew)⟩)
   (λa ha=>⟨S.er.fresh a (Y5 cd.go.grows.size ha),λq=>Zv _ (bf (q▸Ey) ha)⟩) (λa ha=>nomatch ha) jaW rfl (λo ho=>nomatch ho) (λj o ho=>by simp at ho)
  rw[Z6,Z6]at S';refine⟨am,β,_,m,S',⟨λb o hb e=>cd.go.ext b o (λq=>hb.1 (.inr (.inr q))) e,λb Y h=>h,λa p hl=>⟨p,λq=>Zv _ (bf (q▸hl) cd.cNew)⟩,cd.go.sub,Zn _,cd.go.grows.size,λa Y p=>.inl p.1,λY h Y=>h⟩,?_,λp=>p.2 rfl,Ez⟩;exact .lst a1 ⟨S.er.fresh D cd.dNew,jeI cd.cd⟩ (a2.weak λa p=>⟨cd.sub a p,λq=>cd.pC (q▸p)⟩)
 |true =>
  obtain⟨aM,bU,aF⟩:=S.alloc1 (o:=.list vs) (a:=D) (P':=λa=>P a/\a≠C/\a≠D) cd.go (λa h1 h2=>cz (S.er.fresh a h2) (Fk a h1) (Qj a h1)) (λa p=>p.1) (λa p hl=>cz p (λq=>Zv _ (bf (q▸hl) cd.cNew)) (λq=>Zv _ (bf (q▸hl) cd.dNew)))
   (λa ha=>cz (S.er.fresh a (Y5 cd.go.grows.size ha)) (λq=>Zv _ (bf (q▸Ey) ha)) (λq=>Zv _ (bf (q▸hD) ha))) cd.dNew hD (λp=>p.2.2 rfl) (λq=>nomatch q)
   (.list a1 (a2.mono (λY Y e=>e) (λa o p e=>⟨e,cd.sub a p,λq=>cd.pC (q▸p),λq=>cd.pD (q▸p)⟩) (jcL _ _)))
  refine⟨am,_,_,m,aM,bU,aF,λp=>p.2.1 rfl,λq=>?_⟩;rcases ZI.mp q with q|q
  ·exact Ez q
  ·exact cd.cd (Zu.mp q)
end
section
theorem Ic(S:SR G sB aj ah ab T φ ρ σ β P m s)(r:ar G.tok φ s.heap β P vs xs):
 Step G sB aj ah ab T s φ σ β P ρ (σ++[.list vs]) {s with heap:=s.heap.push {cls:=.type "list",dict:=none,data:=.seq xs.toArray}} λam aH P'=>VR G.tok am (s.heap.push {cls:=.type "list",dict:=none,data:=.seq xs.toArray}) aH P' (.ref σ.length) (.ref s.heap.objs.size):=by
 have hz:(s.heap.push {cls:=.type "list",dict:=none,data:=.seq xs.toArray}).objs.size=s.heap.objs.size+1:=ZS ..;have k:GX G s φ {s with heap:=s.heap.push {cls:=.type "list",dict:=none,data:=.seq xs.toArray}} φ:=.same S.er.tk bE.push (Y9 _);obtain⟨aM,bU,aF⟩:=S.alloc1 (o:=.list vs) (a:=s.heap.objs.size) (P':=λa=>P a/\a≠s.heap.objs.size) k (λa h1 h2=>absurd (bM.lt S.tabs.1 (iW (λb o e=>Zh _ e) S.tabs.1 a h1)) (Z0.mpr h2)) (λa p=>p.1) (λa p hl=>⟨p,jaI hl⟩)
  (λa ha=>⟨S.er.fresh a (Y5 k.grows.size ha),λq=>Zv _ (bf (jan _) (hz▸q▸ha))⟩) (Y9 _) (by show _<(s.heap.push _).objs.size;refine aa hz ?_;exact jan _) (λp=>p.2 rfl) (λq=>nomatch q)
  (.list (oM s.heap) (r.mono (λY Y e=>e) (λa o p e=>⟨Zh _ e,p,jaI (Zz e)⟩) (jcL _ _)))
 exact⟨φ,_,_,m,aM,bU,aF⟩
theorem Wv(S:SR G sB aj ah ab T φ ρ σ β P m s):
 Step G sB aj ah ab T s φ σ β P ρ (σ++[.dict []]) {s with heap:=s.heap.push {cls:=.type "dict",data:=.dict #[]}} λam aH P'=>VR G.tok am (s.heap.push {cls:=.type "dict",data:=.dict #[]}) aH P' (.ref σ.length) (.ref s.heap.objs.size):=by
 have hz:(s.heap.push {cls:=.type "dict",data:=.dict #[]}).objs.size=s.heap.objs.size+1:=ZS ..;have k:GX G s φ {s with heap:=s.heap.push {cls:=.type "dict",data:=.dict #[]}} φ:=.same S.er.tk bE.push (Y9 _);obtain⟨aM,bU,aF⟩:=S.alloc1 (o:=.dict []) (a:=s.heap.objs.size) (P':=λa=>P a/\a≠s.heap.objs.size) k (λa h1 h2=>absurd (bM.lt S.tabs.1 (iW (λb o e=>Zh _ e) S.tabs.1 a h1)) (Z0.mpr h2)) (λa p=>p.1) (λa p hl=>⟨p,jaI hl⟩)
  (λa ha=>⟨S.er.fresh a (Y5 k.grows.size ha),λq=>Zv _ (bf (jan _) (hz▸q▸ha))⟩) (Y9 _) (by show _<(s.heap.push _).objs.size;refine aa hz ?_;exact jan _) (λp=>p.2 rfl) (λq=>nomatch q)
  (OR.dict (ks:=[]) (vs:=[]) (xs:=[]) (jfo ..) rfl .nil)
 exact⟨φ,_,_,m,aM,bU,aF⟩
theorem W4(h:ao T e=.list .nil):∃p,e=.List [] p:=by
 refine bA (wF h) λxs p e1 e2=>?_
 induction xs using Y6 with
 |nil=>exact⟨p,e1⟩
 |cons=>exact G1 e2
theorem L7(h:pQ (.cons x es)=true):x=.list .nil/\pQ es=true:=by
 cases x with
 |list ys =>
  cases ys with
  |nil=>exact⟨rfl,h⟩
  |cons=>exact bP h
 |_=>exact bP h
theorem L6:∀{pos:Pos}{s:Y8}{Q:List Value->Y8->Prop},pQ (bg T elts)=true ->
 (∀(as:List Zi) (s':Y8),as.length=elts.length->s'={s with heap:=s'.heap}->ce s.heap s'.heap->s.heap.objs.size<=s'.heap.objs.size->as.Nodup->(∀a∈as,s.heap.objs.size<=a/\a<s'.heap.objs.size/\s'.heap.PlainList a #[])->Q (as.map jbE) s') ->
 Zd (Zf af wd) A (jcp (jcr pos (jaw elts ab))) Q E s:=by
 induction elts with
 |nil=>exact λY hQ=>jdq (hQ [] _ rfl rfl (ce.refl _) (Y9 _) jaW λa ha=>nomatch ha)
 |cons e elts ih =>
  intro pos s Q he hQ;refine bN (L7 he) λh1 he=>?_;refine aX (W4 h1) ?_;rintro p rfl;refine jcI (jdf (jdq ⟨by decide,?_⟩)) rfl;have hL:=oM (xs:=[]) s.heap;have hz:(s.heap.push {cls:=.type "list",dict:=none,data:=.seq ([]:List Value).toArray}).objs.size=s.heap.objs.size+1:=ZS ..;have hX:ce s.heap (s.heap.push {cls:=.type "list",dict:=none,data:=.seq ([]:List Value).toArray}):=λb o e=>Zh _ e;generalize s.heap.push {cls:=.type "list",dict:=none,data:=.seq ([]:List Value).toArray}=H at hL hz hX;have aU:s.heap.objs.size<=H.objs.size:=hz▸Z2 _;refine ih he λas s' hl hs hx be df has=>?_;refine hQ (s.heap.objs.size::as) s' (congrArg (·+1) hl) hs (ce.trans hX hx) (Y5 aU be) (jaP.mpr ⟨λq=>jhN _ (hz▸(has _ q).1),df⟩) λa ha=>?_;rcases ZT.mp ha with rfl|q
  ·exact cz (Y9 _) (bf (hz▸jan _) be) (hL.at λo e=>hx _ o e)
  ·exact⟨Y5 aU (has a q).1,(has a q).2⟩
end
section
theorem DQ:∀(es:List Expr),(bg T es).len=es.length
 | []=>rfl
 |e::es=>by simp only[t0,Ny,DQ es,Zr]
theorem HB:∀(as:List Zi) (k:Nat),(∀j a,as[j]?=some a->β[n+(k+j)]?=some a)->ar tk φ h β P ((ZX k as.length).map λj=>.ref (n+j)) (as.map jbE)
 | [],_,_=>.nil
 |a::as,k,hb=>by
  refine aa Zr ?_;refine aa jdi ?_;refine .cons (.ref (by simpa using hb 0 a rfl)) (HB as (k+1) λj a ha=>?_);have:=hb (j+1) a (by simpa using ha);refine aa (show k+1+j=k+(j+1)from jcP k 1 j) ?_;exact this
theorem Wx{σ:aA}{G:GD}{s s':Y8}{as:List Zi}(S:SR G sB aj ah ab T φ ρ σ β P m s)(hs:s'={s with heap:=s'.heap})(hx:ce s.heap s'.heap)(hz:s.heap.objs.size<=s'.heap.objs.size)(df:as.Nodup)(has:∀a∈as,s.heap.objs.size<=a/\a<s'.heap.objs.size/\s'.heap.PlainList a #[]):
 Step G sB aj ah ab T s φ σ β P ρ (σ++Zm as.length (.list [])++[.list ((Za as.length).map λj=>.ref (σ.length+j))])
  { s' with heap:=s'.heap.push {cls:=.type "list",dict:=none,data:=.seq (as.map jbE).toArray}} λam aH P'=>VR G.tok am (s'.heap.push {cls:=.type "list",dict:=none,data:=.seq (as.map jbE).toArray}) aH P' (.ref (σ.length+as.length)) (.ref s'.heap.objs.size):=by
 have Fz:(s'.heap.push {cls:=.type "list",dict:=none,data:=.seq (as.map jbE).toArray}).objs.size=s'.heap.objs.size+1:=ZS ..;have sX:ce s'.heap (s'.heap.push {cls:=.type "list",dict:=none,data:=.seq (as.map jbE).toArray}):=λb o e=>Zh _ e;generalize hH:s'.heap.push {cls:=.type "list",dict:=none,data:=.seq (as.map jbE).toArray}=H at Fz sX ⊢;have hL:H.PlainList s'.heap.objs.size (as.map jbE).toArray:=hH▸oM s'.heap;have k:GX G s φ {s' with heap:=H} φ:=.same S.er.tk ⟨by refine aa hs ?_;exact⟨H,s.toks,rfl,hx.trans sX⟩,by show _<=H.objs.size;lia⟩ (by refine aa hs ?_;exact Y9 _);have q5:s'.heap.objs.size<H.objs.size:=ZP (id (jfp Fz));have m6:s.heap.objs.size<H.objs.size:=by lia
 rw[jaD];have aM:=S.alloc (os:=Zm as.length (.list [])++[.list ((Za as.length).map λj=>.ref (σ.length+j))]) (as:=as++[s'.heap.objs.size]) (P':=fN P s.heap.objs.size H.objs.size) k (λa h1 h2=>absurd (bM.lt S.tabs.1 (iW (hx.trans sX) S.tabs.1 a h1)) (Z0.mpr h2)) (λa p=>p.1)
  (λa p hl=>⟨p,λq=>Z0.mpr q.1 hl⟩) (λa ha=>⟨S.er.fresh a (Y5 k.grows.size ha),λq=>Z0.mpr (show H.objs.size<=a from ha) q.2⟩)
  (λa ha=>?_) ?_ (by simp) (λo ho=>?_) (λj o ho=>?_)
 ·refine⟨φ,_,_,m,aM,⟨λb o Y e=>(hx.trans sX) b o e,λb hb cM=>⟨cM.1,λj hj=>?_⟩,λa p hl=>⟨p,λq=>Z0.mpr q.1 hl⟩,λY Y e=>e,jcL _ _,k.grows.size,λa Y p=>.inl p.1,λb hb hl=>?_⟩,.ref ?_⟩
  ·rcases jcd j β.length with q|q
   ·rw[Zx q]at hj;have:=cM.2 j hj;rw[Zx (by refine rwj S.lenB ?_;exact q)];exact this
   ·rw[Zk q]at hj;have hm:=ZK hj;exfalso;rcases ZI.mp hm with q|q
    ·exact Z0.mpr (has b q).1 hb
    ·rw[Zu.mp q]at hb;exact Z0.mpr hz hb
  ·rcases ZI.mp hb with q|q
   ·exact q
   ·rcases ZI.mp q with q|q
    ·exact absurd hl (Z0.mpr (has b q).1)
    ·rw[Zu.mp q]at hl;exact absurd hl (Z0.mpr hz)
  ·rw[Zk (by refine aa S.lenB ?_;exact ZH _ _),S.lenB,jaU,Zk (Y9 _),jaE];rfl
 ·rcases ZI.mp ha with q|q
  ·refine fY (has a q) λh1 h2 Y=>?_;have h3:a<H.objs.size:=jaq h2 (q5);exact cz h1 h3 (λp=>p.2 ⟨h1,h3⟩)
  ·have:=Zu.mp q;subst this;exact cz hz q5 (λp=>p.2 ⟨hz,q5⟩)
 ·rw[jbs];refine cz df (by simp) (λa ha b hb q=>?_);have:=Zu.mp hb;subst this;subst q;exact Zv _ (has _ ha).2.1
 ·rcases ZI.mp ho with q|q
  ·refine aa ((List.mem_replicate.mp q).2) ?_;exact λq=>nomatch q
  ·refine aa (Zu.mp q) ?_;exact λq=>nomatch q
 ·rcases jcd j as.length with q|q
  ·rw[Zx (by simpa using q),jcQ]at ho;rw[if_pos q]at ho;cases ho;refine aO (as[j]) (by refine aa (Zx q) ?_;refine aa (Zg q) ?_;rfl) (.list (xs:=[]) ((has _ (jbJ q)).2.2.at λo e=>sX _ o e) .nil)
  ·rw[Zk (by simpa using q)]at ho;have hj:j-as.length=0:=by
    rcases jir (j-as.length)with z|z
    ·exact z
    ·exfalso;rw[jaB]at ho;rw[jcm (by simp;exact z)]at ho;cases ho
   rw[jaB,hj]at ho;cases ho;refine aO s'.heap.objs.size (by refine aa (Zk q) ?_;refine aa hj ?_;rfl) (.list hL ?_);refine aa jdv ?_;refine HB as 0 λi a ha=>?_;rw[Zk (by refine aa S.lenB ?_;exact ZH _ _),S.lenB,jdO,jaU,Zx (ZE.mp ha).1];exact ha
theorem KP{C:Expr->Prop}{e:Expr}(h:eK e=true)(h1:∀es p,C (.List es p))(h2:∀p,C (.Dict [] [] p))(h3:∀a gs sc p,C (.ListComp a gs sc p)):C e:=by
 induction e using ZY with
 |List=>exact h1 ..
 |ListComp=>exact h3 ..
 |Dict ks vs =>
  induction ks using Y6 with
  |nil=>induction vs using Y6 with
   |nil=>exact h2 _
   |cons=>exact bP h
  |cons=>exact bP h
 |_=>exact bP h
theorem Rx [Decidable c](h:(if c then Ex.comp n gs else .bad)=.comp n' gs'):c/\n'=n/\gs'=gs:=by
 by_cases q:c
 ·rw[if_pos q]at h;exact cz q ((Ex.comp.inj h).1.symm) ((Ex.comp.inj h).2.symm)
 ·rw[if_neg q]at h;exact TH h
theorem F0 [Decidable c]:(if c then x else y)=x\/(if c then x else y)=y:=by
 by_cases q:c
 ·exact .inl (if_pos q)
 ·exact .inr (if_neg q)
theorem CB(hO:fT G A Φ)(h:ao T (.ListComp aD gens sc pos)=.comp n gs):
 kG T sc/\(∀g∈gens,g.is_async=0)/\bl G A Φ σ aD/\(∀g∈gens,bl G A Φ σ g.iter/\(∀f p as pos,g.iter=.Call (.Name f p) as [] pos->∀a∈as,bl G A Φ σ a)/\∀c∈g.ifs,bl G A Φ σ c) /\
 n=(eB sc).length/\gs=iY T (T.comp sc) (ao (T.comp sc) aD) gens :=
 have all:∀e,bl G A Φ σ e:=λe=>cH hO _ e (Y9 _)
 (Rx h).elim λhc r=>cu hc λhc c5=>cu hc λhc c4=>cu hc λhc c3=>cu hc λc1 c2 =>
  ⟨⟨eq_of_beq c1,of_decide_eq_true c2,λx hx=>Y'.mp c4 x (jdQ.mpr ⟨_,hx,rfl⟩),tW c5⟩,λg hg=>eq_of_beq (Y'.mp c3 g hg),all _,λg hg=>cz (all _) (λf p as pos he a ha=>all _) (λc hc=>all _),r⟩
theorem MQ(F:bb G A Φ sB ah ab T)(he:oT Φ ρ σ (.list (bg T elts))=some (v,an)):ET G A sB aj ah ab T ρ σ (jae (.List elts pos) ab) v an:=by
 by_cases hem:(pQ (bg T elts)&&decide (0<(bg T elts).len/\(bg T elts).len<=1000))=true
 ·refine aG (Q:=λr=>ET G A sB aj ah ab T ρ σ (jae (.List elts pos) ab) r.1 r.2) ((if_pos hem).symm.trans he) λs φ β P m S=>?_;refine cu hem λh1 hn=>jdf (L6 h1 λas s' hl hs hx hz df has=>?_);replace hn:=(of_decide_eq_true hn).2;rw[DQ]at hn ⊢;rw[<-hl]at hn ⊢;exact⟨d9 (by refine aa (Y4 _) ?_;exact Y5 hn (by decide)),Wx S hs hx hz df has⟩
 ·replace he:=(if_neg hem).symm.trans he
  induction b0:bX Φ σ ρ (bg T elts)using ae with
  |none=>rw[b0]at he;exact ai he
  |some vs =>
   rw[b0]at he;refine bR he λaU he=>aG (Q:=λr=>ET G A sB aj ah ab T ρ σ (jae (.List elts pos) ab) r.1 r.2) he λs φ β P m S=>?_;refine jdf (((j9 F.hE (λe Y=>cH F.hO _ e (Y9 _)) b0).2 pos).post (S.inv F.IB) S.er λxs ak ay aw bd aI aF=>⟨d9 (by refine rwj aF.length ?_;exact aU),?_⟩);refine kg (Ic (S.go aw) aF) λaV dm ck dh br cY bH=>?_;exact⟨aV,dm,ck,dh,br,(bu.go aw).trans cY,bH⟩
theorem Vi(S:SR G sB aj ah ab T φ ρ σ β P m s)(cd:CD G s φ β P vs ay ak D C da cC)(hs:Z' C ak.heap h')(St:∃am aH P' m',SR G sB aj ah ab T am ρ an aH P' m' ak/\bu G ab T s φ σ β P ak am an aH P'/\VR G.tok am ak.heap aH P' v x/\¬P' C/\C∉aH):
 Step G sB aj ah ab T s φ σ β P ρ an {ak with heap:=h'} λam aH P'=>VR G.tok am h' aH P' v x:=by
 refine so St λay dc cC da aM bU aF hp hb=>?_;have hC:s.heap.objs.size<=C:=cd.cNew;refine⟨ay,dc,cC,da,aM.scratch (Y5 S.size hC) hp hb (λq=>Zv _ (bf (q▸S.er.ns.lt:C<s.heap.objs.size) hC)) cd.ns hs,⟨λb o hb e=>hs.extBut b o (λq=>Zv _ (bf (q▸Zz e:C<s.heap.objs.size) hC)) (bU.keep b o hb e),bU.still,bU.pm,bU.sub,bU.pre,Y5 bU.size (ZP hs.1.symm),bU.pn,bU.bn⟩,?_⟩;exact aF.mono (λY Y e=>e) (λa o p e=>⟨hs.extBut a o (λq=>hp (q▸p)) e,p⟩) (Zn _)
theorem MO(F:bb G A Φ sB ah ab T)(h:ao T (.ListComp aD gens sc pos)=.comp n gs)(b0:fF Φ σ ρ n gs=some vs):
 ET G A sB aj ah ab T ρ σ (jae (.ListComp aD gens sc pos) ab) (.ref σ.length) (σ++[.list vs]):=λs φ β P m S=>by
 refine DC (CB (σ:=σ) F.hO h) λc1 c2 c3 c4 c5 c6=>?_;rw[c5,c6]at b0;have sO:=xK (ml:=none) (pos:=pos) (nt:=jgl gens pos) (E:=ax) (Q:=λx s'=>Step G sB aj ah ab T s φ σ β P ρ (σ++[.list vs]) s' λam aH P'=>VR G.tok am s'.heap aH P' (.ref σ.length) x)
  F.hO.hA F.hE F.hO.hG c1 c2 c3 c4 b0 (S.inv F.IB) S.er λam s' D C m' P' cd=>⟨m',cd.ns,λh' hs=>Vi (an:=σ++[AO.list vs]) (v:=AV.ref σ.length) (x:=jbE D) S cd hs (CC S cd true)⟩
 rw[eval_ListComp,sO.1];exact sO.2
theorem MP(F:bb G A Φ sB ah ab T)(he:oT Φ ρ σ (ao T (.ListComp aD gens sc pos))=some (v,an)):ET G A sB aj ah ab T ρ σ (jae (.ListComp aD gens sc pos) ab) v an:=by
 have k:ao T (.ListComp aD gens sc pos)=.comp (eB sc).length (iY T (T.comp sc) (ao (T.comp sc) aD) gens)\/ao T (.ListComp aD gens sc pos)=.bad:=F0;rcases k with h|h
 ·have PG:=h▸he;replace he:(match fF Φ σ ρ (eB sc).length (iY T (T.comp sc) (ao (T.comp sc) aD) gens)with|some vs=>some (AV.ref σ.length,σ++[AO.list vs])|none=>none)=some (v,an):=PG
  induction b0:fF Φ σ ρ (eB sc).length (iY T (T.comp sc) (ao (T.comp sc) aD) gens)using ae with
  |none=>rw[b0]at he;exact ai he
  |some vs =>
   rw[b0]at he;exact aG (Q:=λr=>ET G A sB aj ah ab T ρ σ (jae (.ListComp aD gens sc pos) ab) r.1 r.2) he (MO F h b0)
 ·rw[h]at he;exact ai he
theorem C8(F:bb G A Φ sB ah ab T){e:Expr}{th:Bool}{v:AV}(hc:th=true->eK e=true)(he:gq Φ ρ σ th (ao T e)=some (v,an)):ET G A sB aj ah ab T ρ σ (jae e ab) v an:=by
 induction th using ZL with
 |false =>
  refine lQ (Q:=λr=>ET G A sB aj ah ab T ρ σ (jae e ab) r.1 r.2) he λu hu=>?_;exact MR F (cH F.hO _ e (Y9 _) ab T ρ _ F.hE hu).1
 |true =>
  revert he;refine KP (C:=λe=>gq Φ ρ σ true (ao T e)=some (v,an)->ET G A sB aj ah ab T ρ σ (jae e ab) v an) (hc rfl) (λes p he=>MQ F he) (λp he=>?_) λa gs sc p he=>MP F he;exact aG (Q:=λr=>ET G A sB aj ah ab T ρ σ (jae (.Dict [] [] p) ab) r.1 r.2) he λs φ β P m S=>wpAny_Dict_empty (Wv S)
end
section
variable {A:ZZ}{ab:Env}{T:Tb}{ρ av:aB}{σ an iv:aA}{G:GD}{s s' cO:Y8}{φ am kE:Gh}{β aH ug:List Zi}{P P' rC ah:Zi->Prop}{m m':Str->Option Value}{tk:Zi}{h h':jao}
variable {sB:Y8}{aj:Gh}{Φ:cX}
abbrev gk(G:GD)(sB:Y8)(aj:Gh)(ah:Zi->Prop)(ab:Env)(T:Tb)(s:Y8)(φ:Gh)(σ:aA)(β:List Zi)(P:Zi->Prop)(av:aB)(an:aA)(s':Y8):Prop :=
 ∃am aH P' m',SR G sB aj ah ab T am av an aH P' m' s'/\bu G ab T s φ σ β P s' am an aH P'
def o8(G:GD)(sB:Y8)(aj:Gh)(ah:Zi->Prop)(ab:Env)(T:Tb)(s:Y8)(φ:Gh)(σ:aA)(β:List Zi)(P:Zi->Prop):Fl->jeH->Y8->Prop
 | .next av an,f,s'=>f=.next/\gk G sB aj ah ab T s φ σ β P av an s'
 | .ret v,f,s'=>∃x,f=.ret x/\∃am,GX G sB aj s' am/\VR G.tok am s'.heap [] ah v x
def ca(G:GD)(A:ZZ)(sB:Y8)(aj:Gh)(ah:Zi->Prop)(ab:Env)(T:Tb)(ρ:aB)(σ:aA)(t:Sem jeH)(fl:Fl):Prop :=
 ∀s φ β P m,SR G sB aj ah ab T φ ρ σ β P m s->Zd (Zf af wd) A t (o8 G sB aj ah ab T s φ σ β P fl) ax s
theorem ny{x:Str}{i:Nat}{v:AV}{xv:Value}{Q:Unit->Y8->Prop}{E:Value->Y8->Prop}(F:bb G A Φ sB ah ab T)(hx:T.own x=some i)(S:SR G sB aj ah ab T φ ρ σ β P m s)(r:VR G.tok φ s.heap β P v xv)
 (hQ:∀s' m',SR G sB aj ah ab T φ (ρ.set i (some v)) σ β P m' s'->bu G ab T s φ σ β P s' φ σ β P->(∀b o,¬my G ab T b->s.heap.get? b=some o->s'.heap.get? b=some o)->Q () s'):Zd (Zf af wd) A (jdC ab x xv) Q E s :=
 S.store F.hE F.hT hx r λs' m' S' kp sz=>hQ s' m' S' ⟨λb o hb e=>kp b o (λq=>hb.1 (q.elim .inl λq=>.inr (.inl q))) e,λY Y h=>h,λY p Y=>p,λY Y e=>e,Zn _,sz,λY Y p=>.inl p,λY h Y=>h⟩ λb o hb e=>kp b o (λq=>hb (q.elim .inl λq=>.inr (.inl q))) e
inductive lK(A:ZZ) (ab:Env):List Str->List (Value->Sem Unit)->Prop
 |nil:lK A ab [] []
 |cons {x:Str}{xs:List Str}{g:Value->Sem Unit}{gs:List (Value->Sem Unit)} (h:∀v (Q:Unit->Y8->Prop) (E:Value->Y8->Prop) s,Zd (Zf af wd) A (jdC ab x v) Q E s->Zd (Zf af wd) A (g v) Q E s) (r:lK A ab xs gs):lK A ab (x::xs) (g::gs)
theorem tw{α γ:Type}{f:α->Option γ}{a:α}{as:List α}{bs:List γ}(h:(a::as).mapM f=some bs):∃b cs,bs=b::cs/\f a=some b/\as.mapM f=some cs:=by
 rw[jgB]at h;exact pP (f:=λb=>(as.mapM f).bind λcs=>some (b::cs)) h λb h1 h=>pP (f:=λcs=>some (b::cs)) h λcs h2 h=>nc b cs ((Y7 h).symm) h1 h2
theorem ww{C:List Nat->List AV->aB->aB->Prop}(h0:∀ρ,C [] [] ρ ρ)(h1:∀i is v vs ρ av,eC (ρ.set i (some v)) is vs=some av->C is vs (ρ.set i (some v)) av->C (i::is) (v::vs) ρ av){is:List Nat}:∀{vs:List AV}{ρ av:aB},eC ρ is vs=some av->C is vs ρ av:=by
 induction is with
 |nil =>
  intro vs ρ av h
  induction vs using Y6 with
  |nil=>exact aG (Q:=C [] [] ρ) h (h0 ρ)
  |cons=>exact ai h
 |cons i is ih =>
  intro vs ρ av h
  induction vs using Y6 with
  |nil=>exact ai h
  |cons v vs=>exact h1 i is v vs ρ av h (ih h)
theorem Be(F:bb G A Φ sB ah ab T){is:List Nat}{vs:List AV}{ρ av:aB}(hs:eC ρ is vs=some av){E:Value->Y8->Prop}:∀{xs:List Str}{gs:List (Value->Sem Unit)}{ys:List Value}{s:Y8}{m:Str->Option Value}{Q:Unit->Y8->Prop},
 lK A ab xs gs->xs.mapM T.own=some is->SR G sB aj ah ab T φ ρ σ β P m s->ar G.tok φ s.heap β P vs ys ->
 (∀s' m',SR G sB aj ah ab T φ av σ β P m' s'->bu G ab T s φ σ β P s' φ σ β P->Q () s')->Zd (Zf af wd) A (jhJ gs ys) Q E s:=by
 refine ww (C:=λis vs ρ av=>∀{xs:List Str}{gs:List (Value->Sem Unit)}{ys:List Value}{s:Y8}{m:Str->Option Value}{Q:Unit->Y8->Prop},lK A ab xs gs->xs.mapM T.own=some is->SR G sB aj ah ab T φ ρ σ β P m s->ar G.tok φ s.heap β P vs ys ->
  (∀s' m',SR G sB aj ah ab T φ av σ β P m' s'->bu G ab T s φ σ β P s' φ σ β P->Q () s')->Zd (Zf af wd) A (jhJ gs ys) Q E s) (λρ xs gs ys s m Q hg hm S r hQ=>?_) (λi is v vs ρ av Y ih xs gs ys s m Q hg hm S r hQ=>?_) hs
 ·refine aa r.unnil ?_;cases hg with
  |nil=>exact ZC (hQ s m S .refl)
  |cons=>refine bA (tw hm) λY Y e Y=>?_;exact nomatch e
 ·refine bS r.uncons ?_;rintro y ys rfl ra rs;cases hg with
  |nil=>exact nomatch hm
  |cons hg az =>
   refine bS (tw hm) λj js e h1 h2=>?_;have e:=List.cons.inj e;rw[<-e.1]at h1;rw[<-e.2]at h2;exact Zc (jaS (hg _ _ _ _ (ny F h1 S ra λak da aM bU Y=>ih az h2 aM (S.carrys bU rs) λaC dh br cY=>hQ aC dh br (bU.trans cY))))
theorem Ia{C:Expr->List Str->Prop}{e:Expr}{ts:List Expr}{xs:List Str}(h:gh (e::ts)=some xs)(k:∀x p ys,gh ts=some ys->C (.Name x p) (x::ys)):C e xs:=by
 induction e using ZY with
 |Name x p=>exact lQ h (k x p)
 |_=>exact ai h
theorem Ib{ts:List Expr}:∀{xs:List Str},gh ts=some xs->∃gs,jdE ts ab=gs.map (λg=>(false,g))/\lK A ab xs gs/\gs.length=ts.length/\xs.length=ts.length:=by
 induction ts with
 |nil=>exact λh=>aG (Q:=λxs=>∃gs,jdE [] ab=gs.map (λg=>(false,g))/\lK A ab xs gs/\gs.length=0/\xs.length=0) h ⟨[],rfl,.nil,rfl,rfl⟩
 |cons e ts ih =>
  refine λh=>Ia (C:=λe xs=>∃gs,jdE (e::ts) ab=gs.map (λg=>(false,g))/\lK A ab xs gs/\gs.length=(e::ts).length/\xs.length=(e::ts).length) h λx p ys hy=>?_;refine yn (ih hy) λgs h1 h2 h3 h4=>?_;exact vT (jhq (.Name x p) ab::gs) (congrArg (List.cons (false,jhq (.Name x p) ab)) h1) (.cons (λv Q E s hh=>jeB hh) h2) (congrArg jci h3) (congrArg jci h4)
theorem TJ(gs:List (Value->Sem Unit)):(gs.map λg=>(false,g)).findIdx? (·.1)=none:=by
 rw[jgR];intro x hx;refine au (Zq.mp hx) ?_;rintro g _ rfl;rfl
theorem Wa{e:Expr}{x:Str}{px:Pos}{line:Nat}:jfw e (some (.Name x px)) line ab=pure false\/(∃aD gens sc p,e=.ListComp aD gens sc p/\jfw e (some (.Name x px)) line ab=pure true)\/ao T e=.bad:=by
 induction e using ZY with
 |ListComp aD gens sc p =>
  have:∃b,jfw (.ListComp aD gens sc p) (some (.Name x px)) line ab=pure b:=⟨_,rfl⟩
  refine aX this λb hb=>?_
  induction b using ZL with
  |false=>exact .inl hb
  |true=>exact .inr (.inl ⟨aD,gens,sc,p,rfl,hb⟩)
 |SetComp=>exact .inr (.inr rfl)
 |DictComp=>exact .inr (.inr rfl)
 |_=>exact .inl rfl
theorem x6{th:Bool}{v:AV}{Q:Prop}(h:gq Φ ρ σ th .bad=some (v,an)):Q:=by
 cases th<;>exact ai h
theorem MZ{C:AV->aA->Prop}{aD:Expr}{gens:List jam}{sc:jaF}{p:Pos}{th:Bool}{v:AV}(he:gq Φ ρ σ th (ao T (.ListComp aD gens sc p))=some (v,an))
 (k:∀n gs vs,ao T (.ListComp aD gens sc p)=.comp n gs->fF Φ σ ρ n gs=some vs->C (if th then .ref σ.length else .lst vs) (if th then σ++[.list vs]else σ)):C v an:=by
 have q:ao T (.ListComp aD gens sc p)=.comp (eB sc).length (iY T (T.comp sc) (ao (T.comp sc) aD) gens)\/ao T (.ListComp aD gens sc p)=.bad:=F0;rcases q with h|h
 ·rw[h]at he;replace k:=λvs=>k _ _ vs h;generalize(eB sc).length=n at *;generalize iY T (T.comp sc) (ao (T.comp sc) aD) gens=gs at *
  induction th using ZL with
  |false=>exact lQ (Q:=λr=>C r.1 r.2) he λu hu=>lQ (Q:=λu=>C u σ) hu k
  |true =>
   replace he:(match fF Φ σ ρ n gs with|some vs=>some (AV.ref σ.length,σ++[AO.list vs])|none=>none)=some (v,an):=he
   induction b0:fF Φ σ ρ n gs using ae with
   |none=>rw[b0]at he;exact ai he
   |some vs=>rw[b0]at he;exact aG (Q:=λr=>C r.1 r.2) he (k vs b0)
 ·rw[h]at he;exact x6 he
theorem Hd(S:SR G sB aj ah ab T φ ρ σ β P m s){b:Zi}(hb:my G ab T b):b<s.heap.objs.size:=by
 rcases hb with rfl|⟨y,h1,h2⟩|q
 ·exact S.er.ns.lt
 ·refine bA (S.er.celled y (by unfold Tb.celled;refine aa h1 ?_;rfl)) λc dk e1 e2=>?_;exact Y7 (h2.symm.trans e1)▸e2.lt
 ·exact S.tabs.1.lt q
theorem Xq{x:Str}{px:Pos}{i:Nat}{vs:List AV}{v:AV}{Yc:Gh}{fg:Y8}{D C:Zi}{gA:Str->Option Value}{cC:Zi->Prop}{E:Value->Y8->Prop}(F:bb G A Φ sB ah ab T)(hx:T.own x=some i)(S:SR G sB aj ah ab T φ ρ σ β P m s)(cd:CD G s φ β P vs Yc fg D C gA cC)
 (St:∃am aH P' m',SR G sB aj ah ab T am ρ an aH P' m' fg/\bu G ab T s φ σ β P fg am an aH P'/\VR G.tok am fg.heap aH P' v (.ref D)/\¬P' C/\C∉aH):
 Zd (Zf af wd) A (jhq (.Name x px) ab (.ref D)) (λY aC=>∃dh,aC.heap.Ns C dh/\∀h',Z' C aC.heap h'->gk G sB aj ah ab T s φ σ β P (ρ.set i (some v)) an {aC with heap:=h'}) E fg:=by
 refine so St λay dc cC da aM bU aF hp hb=>?_;have Ew:¬my G ab T C:=λq=>Zv _ (bf (Hd S q) cd.cNew);refine jeB (ny F hx aM aF λaC dh br cY kp=>?_);have hn:aC.heap.Ns C gA:=cd.ns.at' λo e=>kp C o Ew e;have dp:=bU.trans cY;exact aO gA hn (λh' hs=>vW ay dc cC dh (br.scratch (Y5 S.size cd.cNew) hp hb (λq=>Ew (.inl q)) hn hs) ⟨λb o hb e=>hs.extBut b o (λq=>Zv _ (bf (q▸Zz e:C<s.heap.objs.size) cd.cNew)) (dp.keep b o hb e),dp.still,dp.pm,dp.sub,dp.pre,Y5 dp.size (ZP hs.1.symm),dp.pn,dp.bn⟩)
theorem VJ(F:bb G A Φ sB ah ab T){x:Str}{px pos p:Pos}{aD:Expr}{gens:List jam}{sc:jaF}{i n:Nat}{gs:jZ}{vs:List AV}{th:Bool}(hx:T.own x=some i)(hs:jfw (.ListComp aD gens sc p) (some (.Name x px)) pos.line ab=pure true)(h:ao T (.ListComp aD gens sc p)=.comp n gs)(b0:fF Φ σ ρ n gs=some vs):
 ca G A sB aj ah ab T ρ σ (Z4 (.Assign [.Name x px] (.ListComp aD gens sc p) pos) ab) (.next (ρ.set i (some (if th then .ref σ.length else .lst vs))) (if th then σ++[.list vs]else σ)):=λs φ β P m S=>by
 refine DC (CB (σ:=σ) F.hO h) λc1 c2 c3 c4 c5 c6=>?_;rw[c5,c6]at b0;refine aa (exec_Assign_Name_used _ _ _ _ hs) ?_;refine Zc (jbe (Zc ?_));show Zd _ A (do let _ <-jfO (.ListComp aD gens sc p) sc ab (jgl gens p) (newList []) (firstAsync gens) (jhZ gens ab) (some (jhq (.Name x px) ab))) _ _ s;have sO:=xK (ml:=some (jhq (.Name x px) ab)) (pos:=p) (nt:=jgl gens p) (E:=ax) (Q:=λY s'=>gk G sB aj ah ab T s φ σ β P (ρ.set i (some (if th then .ref σ.length else .lst vs))) (if th then σ++[AO.list vs]else σ) s')
  F.hO.hA F.hE F.hO.hG c1 c2 c3 c4 b0 (S.inv F.IB) S.er λam s' D C m' P' cd=>by
   show Zd _ A (jhq (.Name x px) ab (.ref D)) _ _ _;exact Xq F hx S cd (CC S cd th)
 refine aa sO.1 ?_;exact Zc (jav sO.2 (λY s' hq=>ZC (ZC ⟨rfl,hq⟩)) λY Y e=>e)
theorem HM(F:bb G A Φ sB ah ab T){x:Str}{px pos:Pos}{e:Expr}{i:Nat}{th:Bool}{v:AV}(hx:T.own x=some i)(hc:th=true->eK e=true)(he:gq Φ ρ σ th (ao T e)=some (v,an)):
 ca G A sB aj ah ab T ρ σ (Z4 (.Assign [.Name x px] e pos) ab) (.next (ρ.set i (some v)) an):=by
 rcases Wa (ab:=ab) (T:=T) (e:=e) (x:=x) (px:=px) (line:=pos.line)with hs|⟨aD,gens,sc,p,rfl,hs⟩|hb
 ·refine λs φ β P m S=>jbD (up (C8 F hc he s φ β P m S) λxv ak aY=>?_) hs;refine kg aY λay dc cC da aM bU aF=>?_;exact ny F hx aM aF λaC dh br cY Y=>⟨rfl,ay,dc,cC,dh,br,bU.trans cY⟩
 ·exact MZ (C:=λv an=>ca G A sB aj ah ab T ρ σ (Z4 (.Assign [.Name x px] (.ListComp aD gens sc p) pos) ab) (.next (ρ.set i (some v)) an)) he λn gs vs h b0=>VJ F hx hs h b0
 ·rw[hb]at he;exact x6 he
end
section
theorem A9:swapsWithSole [.Tuple ts k tp] e line ab=pure false:=by
 unfold swapsWithSole jfw;cases e<;>rfl
theorem UB(h:∀vs k p,e≠.Tuple vs k p):jfN [.Tuple ts k tp] e ab=pure none:=by
 cases e<;>first|rfl|exact absurd rfl (h _ _ _)
theorem HI(h:eC ρ is vs=some av):is.length=vs.length :=
 ww (C:=λis vs Y Y=>is.length=vs.length) (λY=>rfl) (λY Y Y Y Y Y Y e=>congrArg jci e) h
theorem At{α γ:Type}{f:α->Option γ}{as:List α}:∀{bs:List γ},as.mapM f=some bs->as.length=bs.length:=by
 induction as with
 |nil=>exact λh=>aG (Q:=λbs=>0=bs.length) h rfl
 |cons a as ih =>
  intro bs h;refine bS (tw h) ?_;rintro b cs rfl _ h2;exact congrArg jci (ih h2)
theorem Iv(hA:A.handled=none)(g1:jdE ts ab=gs.map λg=>(false,g))(aN:gs.length=ys.length)(ht:jgu s.heap a ys.toArray)(hQ:∀h',(∀b o,b≠s.heap.objs.size->s.heap.get? b=some o->h'.get? b=some o)->s.heap.objs.size<=h'.objs.size->Zd (Zf af wd) A (jhJ gs ys) Q E {s with heap:=h'}):Zd (Zf af wd) A (unpack (.ref a) (jdE ts ab)) Q E s:=by
 unfold unpack;have hn:(jdE ts ab).length=ys.toArray.size:=by refine aa g1 ?_;refine aa (Y4 _) ?_;exact aN
 have cM:(jdE ts ab).findIdx? (·.1)=none:=by refine aa g1 ?_;exact TJ gs
 have E2:(jdE ts ab).map (·.2)=gs:=by
  refine aa g1 ?_;refine aa ZN ?_;refine aa (show((λx:Bool×(Value->Sem Unit)=>x.2)∘λg=>(false,g))=id from rfl) ?_;refine aa (jca _) ?_;rfl
 refine aa hn ?_;refine aa cM ?_;refine aa E2 ?_;exact Zc (jaS (eF (unpackItems_tuple hA ht λh' hx u=>by simpa using hQ h' hx u.size)))
theorem VH{T:Tb}(F:bb G A Φ sB ah ab T){ts:List Expr}{k:Nat}{tp pos:Pos}{e:Expr}{xs:List Str}{is:List Nat}{vs:List AV}(lf:gh ts=some xs)(eS:xs.mapM T.own=some is)(cV:∀vs k p,e≠.Tuple vs k p)(he:ev Φ σ ρ (ao T e)=some (.tup vs))(hs:eC ρ is vs=some av):ca G A sB aj ah ab T ρ σ (Z4 (.Assign [.Tuple ts k tp] e pos) ab) (.next av σ):=by
 intro s φ β P m S;refine jfu ((cH F.hO _ e (Y9 _) ab T ρ _ F.hE he).1.post (S.inv F.IB) S.er λx ak ay aw bd aI aF=>aF.e_tup λa ys ht p r=>?_) A9 (UB cV);have aM:=S.go aw;refine yn (Ib (A:=A) (ab:=ab) lf) λgs g1 g2 g3 g4=>?_;rw[assign_Tuple];refine Zc (jbe (Iv F.hO.hA g1 (by refine rwj r.length ?_;refine rwj (HI hs) ?_;refine rwj (At eS) ?_;refine aa g4 ?_;refine aa g3 ?_;rfl) ht λh' hx hz=>?_));have aP:GX G ak ay {ak with heap:=h'} ay:=.same aw.tk ⟨⟨h',ak.toks,rfl,λb o e=>hx b o (jaI (Zz e)) e⟩,hz⟩ (Y9 _);exact Be F hs g2 eS (aM.go aP) (aM.er.vrs aP r) λdj ky ey dp=>⟨rfl,ay,β,P,ky,ey,(bu.go aw).trans ((bu.go aP).trans dp)⟩
theorem M0{C:List (Nat×Bool)->List AV->Prop}{xs:List (Nat×Bool)}{vs:List AV}{e:Ex}{es:bV}(h:eO Φ ρ σ xs (.cons e es)=some (vs,an))(k:∀x xs v gR us,gq Φ ρ σ x.2 e=some (v,gR)->eO Φ ρ gR xs es=some (us,an)->C (x::xs) (v::us)):C xs vs:=by
 induction xs using Y6 with
 |nil=>exact ai h
 |cons x xs =>
  replace h:(match gq Φ ρ σ x.2 e with|some (v,gR)=>(match eO Φ ρ gR xs es with|some (us,nD)=>some (v::us,nD)|none=>none)|none=>none)=some (vs,an):=h
  induction h1:gq Φ ρ σ x.2 e using ae with
  |none=>rw[h1]at h;exact ai h
  |some r =>
   rw[h1]at h;replace h:(match eO Φ ρ r.2 xs es with|some (us,nD)=>some (r.1::us,nD)|none=>none)=some (vs,an):=h
   induction h2:eO Φ ρ r.2 xs es using ae with
   |none=>rw[h2]at h;exact ai h
   |some r' =>
    rw[h2]at h;have e:=jjk (Y7 h);exact e.1▸k x xs r.1 r.2 r'.1 h1 (h2.trans (congrArg (λz=>some (r'.1,z)) e.2))
theorem TN(h:gq Φ ρ σ th (ao T e)=some (v,an)):f9 e=true:=by
 cases e<;>first|rfl|exact x6 h
theorem MS{G:GD}(F:bb G A Φ sB ah ab T){pos:Pos}{es:List Expr}:∀{xs:List (Nat×Bool)}{σ an:aA}{vs:List AV},eO Φ ρ σ xs (bg T es)=some (vs,an)->(∀x e,(x,e)∈xs.zip es->x.2=true->eK e=true) ->
 es.all f9=true/\∀{s:Y8}{φ:Gh}{β:List Zi}{P:Zi->Prop}{m:Str->Option Value},SR G sB aj ah ab T φ ρ σ β P m s ->
  Zd (Zf af wd) A (jcp (jcr pos (jaw es ab))) (λys s'=>Step G sB aj ah ab T s φ σ β P ρ an s' λam aH P'=>ar G.tok am s'.heap aH P' vs ys) ax s:=by
 induction es with
 |nil =>
  intro xs σ an vs he hc
  induction xs using Y6 with
  |nil=>exact⟨rfl,λ{s φ β P m} S=>jdq (aG (Q:=λr=>Step G sB aj ah ab T s φ σ β P ρ r.2 s λam aH P'=>ar G.tok am s.heap aH P' r.1 []) he ⟨φ,β,P,m,S,.refl,.nil⟩)⟩
  |cons=>exact ai he
 |cons e es ih =>
  intro xs σ an vs he hc;revert hc;refine M0 (C:=λxs vs=>(∀x e',(x,e')∈xs.zip (e::es)->x.2=true->eK e'=true)->(e::es).all f9=true/\∀{s:Y8}{φ:Gh}{β:List Zi}{P:Zi->Prop}{m:Str->Option Value},SR G sB aj ah ab T φ ρ σ β P m s ->
   Zd (Zf af wd) A (jcp (jcr pos (jaw (e::es) ab))) (λys s'=>Step G sB aj ah ab T s φ σ β P ρ an s' λam aH P'=>ar G.tok am s'.heap aH P' vs ys) ax s) he λx xs v gR us hv cx hc=>?_
  have iL:=TN hv;have h:=ih cx λx e hm=>hc x e (ZB _ hm);refine⟨(congrArg (·&&es.all f9) iL).trans ((jcG _).trans h.1),λ{s φ β P m} S=>jcI (up (C8 F (hc x e Zj) hv s φ β P m S) λy ak aY=>?_) (iV iL)⟩;refine kg aY λay dc cC da aM bU aF=>?_;refine up (h.2 aM) λys aC cy=>?_;refine kg cy λaV dm ck dh br cY bH=>?_;exact⟨aV,dm,ck,dh,br,bU.trans cY,.cons (aM.carry cY aF) bH⟩
theorem Vk(h1:eC ρ is vs=some kC):∀{js:List Nat}{us:List AV}{av:aB},eC kC js us=some av->eC ρ (is++js) (vs++us)=some av :=
 ww (C:=λis vs ρ kC=>∀{js us av},eC kC js us=some av->eC ρ (is++js) (vs++us)=some av) (λY Y Y Y h=>h) (λY Y Y Y Y Y Y ih Y Y Y h=>ih h) h1
theorem Vl:∀{ρ av:aB},i∉is->eC (ρ.set i (some v)) is vs=some av->∃kC,eC ρ is vs=some kC/\av=kC.set i (some v):=by
 induction is generalizing vs with
 |nil =>
  intro ρ av _ h
  induction vs using Y6 with
  |nil=>exact aO ρ rfl ((Y7 h).symm)
  |cons=>exact ai h
 |cons j is ih =>
  intro ρ av hn h
  induction vs using Y6 with
  |nil=>exact ai h
  |cons u vs =>
   refine ih (ρ:=ρ.set j (some u)) (λq=>hn (ZB _ q)) ?_;have fb:i≠j:=λq=>hn (q▸Zj);refine rwj (List.set_comm _ _ fb) ?_;exact h
theorem Vm(hn:is.Nodup)(h:eC ρ is vs=some av):eC ρ is.reverse vs.reverse=some av:=by
 refine ww (C:=λis vs ρ av=>is.Nodup->eC ρ is.reverse vs.reverse=some av) (λY Y=>rfl) (λi is v vs ρ av h ih hn=>?_) h hn;rw[jaP]at hn;refine aa jbQ ?_;refine aa jbQ ?_;refine au (Vl (λq=>hn.1 (jfS.mp q)) (ih hn.2)) ?_;rintro kC h1 rfl;exact Vk h1 rfl
end
section
def jX(ab:Env)(line:Nat):Expr->Option Str
 | .Name id pos=>if ab.kindOf id==some .local&&pos.line==line then some id else none
 |_=>none
theorem Wt(h:jX ab line (.Name x p)=some z):z=x:=bR h λY h=>(Y7 h).symm
theorem Ws:∀{xs:List Str},gh ts=some xs->(ts.filterMap (jX ab line)).length=ts.length->ts.filterMap (jX ab line)=xs:=by
 induction ts with
 |nil=>exact λh Y=>Y7 h
 |cons t ts ih =>
  refine λh=>Ia (C:=λt xs=>((t::ts).filterMap (jX ab line)).length=(t::ts).length->(t::ts).filterMap (jX ab line)=xs) h λx p ys hy hl=>?_
  induction hq:jX ab line (.Name x p)using ae with
  |none =>
   rw[List.filterMap_cons_none hq]at hl;exact absurd (List.length_filterMap_le (jX ab line) ts) (by refine aa hl ?_;exact jhN _)
  |some z =>
   rw[List.filterMap_cons_some hq]at hl ⊢;refine aa (ih hy (Z8 hl)) ?_;refine aa (Wt hq) ?_;rfl
set_option tactic.hygienic true in
theorem V'(lf:gh ts=some xs)(oj:(!vs.all (jdp 8)||vs.all (jdI 8))=true):
 jfN [.Tuple ts k tp] (.Tuple vs k2 p2) ab=pure none\/jfN [.Tuple ts k tp] (.Tuple vs k2 p2) ab=pure (some xs):=by
 unfold jfN;dsimp only;split
 ·exact .inl rfl
 split
 ·exact .inl rfl
 split
 ·exact .inl rfl
 rename_i c3;split
 ·exact .inl rfl
 rename_i c4;split
 ·rename_i c5;exfalso;rw[c5]at oj;simp at oj;exact c4 (by simpa using oj)
 right;have Cg:¬((ts.filterMap (jX ab ((ts.head?.map (·.pos.line)).getD 0))).length != ts.length||(ts.filterMap (jX ab ((ts.head?.map (·.pos.line)).getD 0))).eraseDups.length != (ts.filterMap (jX ab ((ts.head?.map (·.pos.line)).getD 0))).length)=true:=c3;have hl:(ts.filterMap (jX ab ((ts.head?.map (·.pos.line)).getD 0))).length=ts.length:=by
  simp only[jbx,not_or]at Cg;exact Decidable.byContradiction λq=>Cg.1 (bne_iff_ne.mpr q)
 have:=Ws lf hl;show(pure (some (ts.filterMap (jX ab ((ts.head?.map (·.pos.line)).getD 0)))):Sem (Option (List Str)))=_;refine aa this ?_;rfl
theorem VY:lK A ab xs (xs.map λn=>bindName ab n):=by
 induction xs with
 |nil=>exact .nil
 |cons x xs ih=>exact .cons (λv Q E s h=>wpAny_bindName h) ih
theorem S5{α γ:Type}{f:α->Option γ}{xg:List α}{xq:List γ}(h2:xg.mapM f=some xq){as:List α}:∀{bs:List γ},as.mapM f=some bs->(as++xg).mapM f=some (bs++xq):=by
 induction as with
 |nil=>exact λh1=>aG (Q:=λbs=>xg.mapM f=some (bs++xq)) h1 h2
 |cons a as ih =>
  intro bs h1;refine bS (tw h1) ?_;rintro b cs rfl e1 e2;refine aa jdl ?_;refine aa jgB ?_;refine aa e1 ?_;refine aa (ih e2) ?_;rfl
theorem S6{α γ:Type}{f:α->Option γ}{as:List α}:∀{bs:List γ},as.mapM f=some bs->as.reverse.mapM f=some bs.reverse:=by
 induction as with
 |nil =>
  intro bs h;refine aa (show bs=[]from(Y7 h).symm) ?_;rfl
 |cons a as ih =>
  intro bs h;refine bS (tw h) ?_;rintro b cs rfl e1 e2;refine aa jbQ ?_;refine aa jbQ ?_;refine S5 ?_ (ih e2);refine aa jgB ?_;refine aa e1 ?_;rfl
theorem Ir(S:SR G sB aj ah ab T φ ρ σ β P m s)(hx:∀b o,b≠s.heap.objs.size->s.heap.get? b=some o->h'.get? b=some o)(hz:s.heap.objs.size<=h'.objs.size):GX G s φ {s with heap:=h'} φ :=
 .same S.er.tk ⟨⟨h',s.toks,rfl,λb o e=>hx b o (jaI (Zz e)) e⟩,hz⟩ (Y9 _)
theorem Xi(F:bb G A Φ sB ah ab T)(he:eO Φ ρ σ xs (bg T es)=some (vs,an))(hc:∀x e,(x,e)∈xs.zip es->x.2=true->eK e=true)(S:SR G sB aj ah ab T φ ρ σ β P m s)(hl:∀{h:jao}{φ:Gh}{β:List Zi}{P:Zi->Prop}{ys:List Value},ar G.tok φ h β P vs ys->ys.length<=1000)(hQ:∀a ys ak ay dc cC da,SR G sB aj ah ab T ay ρ an dc cC da ak->bu G ab T s φ σ β P ak ay an dc cC->jgu ak.heap a ys.toArray->ar G.tok ay ak.heap dc cC vs ys->Q (.ref a) ak):
 Zd (Zf af wd) A (jae (.Tuple es k2 p2) ab) Q ax s:=by
 refine jia (up ((MS F he hc).2 S) λys ak aY=>?_);refine kg aY λay dc cC da aM bU aF=>?_;have aP:GX G ak ay {ak with heap:=ak.heap.push {cls:=.type "tuple",data:=.seq ys.toArray}} ay:=.same aM.er.tk bE.push (Y9 _);exact⟨d9 (Y5 (hl aF) (by decide)),hQ _ ys _ ay dc cC da (aM.go aP) (bU.trans (.go aP)) (AC _) (aM.er.vrs aP aF)⟩
theorem Vz{T:Tb}(F:bb G A Φ sB ah ab T){ts es:List Expr}{k k2:Nat}{tp p2 pos:Pos}{xs:List Str}{is:List Nat}{tX:List Bool}{vs:List AV}(lf:gh ts=some xs)(eS:xs.mapM T.own=some is)(df:is.Nodup)(aU:es.length<=1000)(PJ:es.length=xs.length)(oj:(!es.all (jdp 8)||es.all (jdI 8))=true)(vK:tX.length=is.length)(hc:∀x e,(x,e)∈(is.zip tX).zip es->x.2=true->eK e=true)(he:eO Φ ρ σ (is.zip tX) (bg T es)=some (vs,an))(hs:eC ρ is vs=some av):ca G A sB aj ah ab T ρ σ (Z4 (.Assign [.Tuple ts k tp] (.Tuple es k2 p2) pos) ab) (.next av an):=by
 intro s φ β P m S;have vQ:∀{h:jao}{φ:Gh}{β:List Zi}{P:Zi->Prop}{ys:List Value},ar G.tok φ h β P vs ys->ys.length=xs.length:=λr=>by refine rwj r.length ?_;refine rwj (HI hs) ?_;refine rwj (At eS) ?_;rfl
 have vM:=λ{Q}=>Xi F (k2:=k2) (p2:=p2) he hc S (Q:=Q) λr=>(vQ r).symm▸PJ▸aU;rcases V' (ab:=ab) (k:=k) (k2:=k2) (tp:=tp) (p2:=p2) lf oj with zP|zP
 ·refine jfu (vM λa ys ak ay dc cC da aM bU ht r=>?_) A9 zP;refine yn (Ib (A:=A) (ab:=ab) lf) λgs g1 g2 g3 g4=>?_;rw[assign_Tuple];refine Zc (jbe (Iv F.hO.hA g1 (by refine aa (vQ r) ?_;refine aa g3 ?_;refine aa g4 ?_;rfl) ht λh' hx hz=>?_));have aP:=Ir aM hx hz;exact Be F hs g2 eS (aM.go aP) (aM.er.vrs aP r) λdj ky ey dp=>⟨rfl,ay,dc,cC,ky,ey,bU.trans ((bu.go aP).trans dp)⟩
 ·refine PyProof.Rows.Assign_Tuple_swapped (names:=xs) (vM λa ys ak ay dc cC da aM bU ht r=>?_) A9 zP;rw[show xs.length=ys.toArray.size by refine aa Zo ?_;refine aa (vQ r) ?_;rfl];refine eF (unpackItems_tuple F.hO.hA ht λh' hx u=>?_);have aP:=Ir aM hx u.size;exact Be F (Vm df hs) VY (S6 eS) (aM.go aP) (by simpa using(aM.er.vrs aP r).reverse) λdj ky ey dp=>⟨rfl,ay,dc,cC,ky,ey,bU.trans ((bu.go aP).trans dp)⟩
end
section
set_option tactic.hygienic true in
theorem bu.mutate(hi:σ[i]?=some o)(hg:o≠AO.gone)(ha:β[i]?=some a)(hs:Z' a s.heap h'):bu G ab T s φ σ β P {s with heap:=h',toks:=t} φ (σ.set i o') β P where
 keep:=λb ob hb e=>hs.extBut b ob (λq=>by
  subst q;have:=hb.2 i ha;rw[hi]at this;exact hg (Y7 this)) e
 still:=λb Y hb=>⟨hb.1,λj hj=>by
  have:=hb.2 j hj;refine aa jbt ?_;split
  ·rename_i q;subst q;rw[hi]at this;exact absurd (Y7 this) hg
  ·exact this⟩
 pm:=λY p Y=>p
 sub:=λY Y e=>e
 pre:=Zn _
 size:=ZP hs.1.symm
 pn:=λY Y p=>.inl p
 bn:=λY h Y=>h
set_option tactic.hygienic true in
theorem bu.settle(ha:β[i]?=some a):bu G ab T s φ σ β P s φ (σ.set i .gone) β (λb=>P b\/b=a) where
 keep:=λY Y Y e=>e
 still:=λb Y hb=>⟨hb.1,λj hj=>by
  have:=hb.2 j hj;refine aa jbt ?_;split
  ·rename_i q;subst q;have hl:=(ZE.mp this).1;refine aa (if_pos hl) ?_;rfl
  ·exact this⟩
 pm:=λY p Y=>.inl p
 sub:=λY Y e=>e
 pre:=Zn _
 size:=Y9 _
 pn:=λb Y p=>p.elim .inl λq=>.inr (by refine aa q ?_;exact ZK ha)
 bn:=λY h Y=>h
theorem Gx{h:jao}(hl:h.PlainList a xs):∃ob,h.get? a=some ob/\∀v,ob.data≠.cell v:=let⟨n,e⟩:=hl;⟨_,e,λv q=>nomatch q⟩
theorem SR.listAt{G:GD}{s:Y8}{i:Nat}{a:Zi}{xs:List AV}{Q:Prop}(S:SR G sB aj ah ab T φ ρ σ β P m s)(hi:σ[i]?=some (.list xs))(ha:β[i]?=some a)(k:∀ys,s.heap.PlainList a ys.toArray->ar G.tok φ s.heap β P xs ys->Q):Q:=by
 refine au (S.er.objs i _ hi (λq=>nomatch q)) λb h1 h2=>?_;exact OR.e_list (Y7 (ha.symm.trans h1)▸h2) k
theorem SR.relist{σ:aA}{G:GD}{s:Y8}{h':jao}{ys ub:List Value}(S:SR G sB aj ah ab T φ ρ σ β P m s)(hi:σ[i]?=some (.list xs))(ha:β[i]?=some a)(hs:Z' a s.heap h')(ht:s.toks<=t)(hl:s.heap.PlainList a ys.toArray)(hZ:h'.PlainList a ub.toArray)(r:ar G.tok φ s.heap β P iZ ub):
 gk G sB aj ah ab T s φ σ β P ρ (σ.set i (.list iZ)) {s with heap:=h',toks:=t}:=
 have oh:=S.live i a _ ha hi (λq=>nomatch q)
 ⟨φ,β,P,m,S.mutate hi (λq=>nomatch q) ha (λq=>nomatch q) hs ht (Gx hl) (.list hZ (r.mono (λY Y e=>e) (λb o p e=>⟨hs.extBut b o (λq=>oh (q▸p)) e,p⟩) (Zn _))),.mutate hi (λq=>nomatch q) ha hs⟩
theorem gk.after(C:bu G ab T s φ σ β P s' am an aH P')(h:gk G sB aj ah ab T s' am an aH P' kC gR aC):gk G sB aj ah ab T s φ σ β P kC gR aC :=
 h.elim λeU h=>h.elim λo0 h=>h.elim λo9 h=>h.elim λky h=>vW eU o0 o9 ky h.1 (C.trans h.2)
theorem Ek{φ:Gh}{β:List Zi}{P:Zi->Prop}{tk:Zi}{h:jao}{a:Zi}{u r:AV}(e:aZ [] 6 u=some r)(r':VR tk φ h β (λb=>P b\/b=a) u (.ref a)):VR tk φ h β (λb=>P b\/b=a) r (.ref a):=
 (yQ cr.nil (λa p=>p) (λi a e=>by simp at e) 6 e r').anyβ
theorem Ej{j:Nat}{r:AV}{Q:Prop}(e:lT σ j=some r)(k1:∀vs,σ[j]?=some (.list vs)->aZ [] 6 (.lst vs)=some r->Q)(k2:∀es,σ[j]?=some (.dict es)->aZ [] 6 (.dct es)=some r->Q):Q:=by
 unfold lT at e
 induction hj:σ[j]? using ae with
 |none=>rw[hj]at e;exact ai e
 |some o =>
  rw[hj]at e
  induction o using AO.casesOn with
  |list vs=>exact k1 vs hj e
  |dict es=>exact k2 es hj e
  |gone=>exact ai e
theorem OL{σ:aA}{φ:Gh}{β:List Zi}{P:Zi->Prop}{tk:Zi}{h:jao}{j:Nat}{a:Zi}{r:AV}(O:cr tk φ h β P σ)(ha:β[j]?=some a)(e:lT σ j=some r):VR tk φ h β (λb=>P b\/b=a) r (.ref a):=by
 refine Ej e (λvs hj e=>?_) λes hj e=>?_
 ·refine au (O j _ hj (λq=>nomatch q)) λb h1 h2=>?_;exact OR.e_list (Y7 (ha.symm.trans h1)▸h2) λys e' r'=>Ek e (.lst e' (.inr rfl) (r'.weak λY p=>.inl p))
 ·refine au (O j _ hj (λq=>nomatch q)) λb h1 h2=>?_;exact OR.e_dict (Y7 (ha.symm.trans h1)▸h2) λks vs xs e0 hl e' r'=>Ek (e0▸e) (.dct e' (.inr rfl) hl (r'.weak λY p=>.inl p))
theorem Ay:rA "list" "append" "list.append" := ⟨jcF,PySem.F.slot_list_append,PySem.F.type_list_append⟩
theorem Az:rA "list" "reverse" "list.reverse" := ⟨jcF,jgb,PySem.F.type_list_reverse⟩
theorem B4{σ:aA}{G:GD}{s:Y8}{i:Nat}{a:Zi}{xs:List AV}{v:AV}{y:Value}(S:SR G sB aj ah ab T φ ρ σ β P m s)(hi:σ[i]?=some (.list xs))(ha:β[i]?=some a)(aU:xs.length<=100000)(r:VR G.tok φ s.heap β P v y){Q:Value->Y8->Prop}{E:Value->Y8->Prop}(hQ:∀s',gk G sB aj ah ab T s φ σ β P ρ (σ.set i (.list (xs++[v]))) s'->Q .none s'):Zd (Zf af wd) A (call (.builtin "list.append") [.ref a,y]) Q E s :=
 S.listAt hi ha λys e rs=>jhX e (λh' hZ hs=>hQ _ (S.relist (t:=s.toks) hi ha hs (Y9 _) e (ub:=ys++[y]) (by simpa using hZ) (rs.append (.single r)))) (by refine aa Zo ?_;refine rwj rs.length ?_;exact d9 aU)
theorem G3{Q:jeH->Y8->Prop}{t:Sem Value}(h:Zd (Zf af wd) A t (λv s'=>v=.none/\Q .next s') ax s):Zd (Zf af wd) A t (λv s'=>match v with | .ref _=>False|_=>Q .next s') ax s :=
 up h λv s' qq=>bN qq λe q=>by subst e;exact q
theorem VR.refOf(r:VR tk φ h β P (.ref i) x):∃a,x=.ref a/\β[i]?=some a:=r.e_ref λa e=>aO a rfl e
theorem HA(hi:σ[i]?=some (.list xs)):aQ σ (.ref i)=some xs:=by
 show(match σ[i]? with|some (.list vs)=>some vs|_=>none)=_;refine aa hi ?_;rfl
theorem Jq(F:bb G A Φ sB ah ab T)(bY:ff o 1 ap p=true)(ho:ev Φ σ ρ (ao T o)=some (.ref i))(he:ev Φ σ ρ (ao T e)=some v)(hi:σ[i]?=some (.list xs))(S:SR G sB aj ah ab T φ ρ σ β P m s)(hQ:∀a y s' am,SR G sB aj ah ab T am ρ σ β P m s'->bu G ab T s φ σ β P s' am σ β P->β[i]?=some a->VR G.tok am s'.heap β P v y->Zd (Zf af wd) A (call (.builtin "list.append") [.ref a,y]) Q ax s'):Zd (Zf af wd) A (jae (.Call (.Attribute o "append" ap) [e] [] p) ab) Q ax s :=
 cu bY λbY h3=>cu bY λh1 h2=>by
  have iL:=tz he;have zK:[e].all f9=true:=(jfq _).trans iL;refine jbC (pt h1) ?_ h2 ((cH F.hO _ o (Y9 _) ab T ρ _ F.hE ho).1.post (S.inv F.IB) S.er λx ak ay aw bd aI aF=>?_)
  ·refine aa (Bb zK) ?_;rfl
  ·have tT:=zQ (s:=ak) aI.objs (HA hi) aF;refine au (VR.refOf aF) ?_;rintro a rfl hb;refine⟨"list","list.append",Ay.pa,Ay.slot,Ay.ty,tT.1,tT.2,jaK (qU zK) ?_⟩;have oE:=(j9 (G:=G) (A:=A) F.hE (es:=[e]) (vs:=[v]) (λe Y=>cH F.hO _ e (Y9 _)) (by rewrite [t0,Ij,mO];refine aa he ?_;rfl)).2 p;rw[iV iL]at oE ⊢;exact jds (oE.post bd aI λys aC aV aP dJ bW bH=>bH.e1 λy ry=>hQ a y aC aV ((S.go aw).go aP) ((bu.go aw).trans (.go aP)) hb ry)
theorem Vy{σ:aA}(F:bb G A Φ sB ah ab T){o e:Expr}{ap p q:Pos}{i:Nat}{v:AV}{xs:List AV}{fl:Fl}(bY:ff o 1 ap p=true)(ho:ev Φ σ ρ (ao T o)=some (.ref i))(he:ev Φ σ ρ (ao T e)=some v)(hi:σ[i]?=some (.list xs))(aU:xs.length<=100000)(PQ:(∃j r,v=.ref j/\i≠j/\lT σ j=some r/\fl=.next ρ ((σ.set j .gone).set i (.list (xs++[r]))))\/fl=.next ρ (σ.set i (.list (xs++[v])))):
 ca G A sB aj ah ab T ρ σ (Z4 (.Expr (.Call (.Attribute o "append" ap) [e] [] p) q) ab) fl:=λs φ β P m S=>by
 refine jio (G3 (Jq F bY ho he hi S λa y aC aV br cY hb ry=>?_)) F.hI rfl;rcases PQ with⟨j,r,rfl,fb,hf,rfl⟩|rfl
 ·refine au (VR.refOf ry) ?_;rintro b rfl ze;have hj:(σ[j]?).isSome=true:=Ej hf (λY h Y=>by refine aa h ?_;rfl) λY h Y=>by refine aa h ?_;rfl
  exact B4 (br.settle F.hP₀ hj ze) (i:=i) (xs:=xs) (by refine aa (jhD (jeI fb)) ?_;exact hi) hb aU (OL br.er.objs ze hf) λdj h=>⟨rfl,rfl,h.after (cY.trans (bu.settle ze))⟩
 ·exact B4 br hi hb aU ry λdj h=>⟨rfl,rfl,h.after cY⟩
theorem VG{σ:aA}(F:bb G A Φ sB ah ab T){o:Expr}{ap p q:Pos}{i:Nat}{xs:List AV}(bY:ff o 0 ap p=true)(ho:ev Φ σ ρ (ao T o)=some (.ref i))(hi:σ[i]?=some (.list xs))(aU:xs.length<=100000):
 ca G A sB aj ah ab T ρ σ (Z4 (.Expr (.Call (.Attribute o "reverse" ap) [] [] p) q) ab) (.next ρ (σ.set i (.list xs.reverse))):=λs φ β P m S =>
 cu bY λbY h3=>cu bY λh1 h2=>by
  refine jio (G3 (jbC (pt h1) rfl h2 ((cH F.hO _ o (Y9 _) ab T ρ _ F.hE ho).1.post (S.inv F.IB) S.er λx ak ay aw bd aI aF=>?_))) F.hI rfl;have tT:=zQ (s:=ak) aI.objs (HA hi) aF;refine au (VR.refOf aF) ?_;rintro a rfl ha;refine⟨"list","list.reverse",Az.pa,Az.slot,Az.ty,tT.1,tT.2,jaK rfl (jcb ?_)⟩;have aM:=S.go aw;exact aM.listAt hi ha λys e rs=>SD e (by refine rwj rs.length ?_;exact aU) λh' hZ hs=>⟨rfl,rfl,(aM.relist (t:=ak.toks) hi ha hs (Y9 _) e hZ rs.reverse).after (.go aw)⟩
end
section
variable {A:ZZ}{ab:Env}{T:Tb}{ρ av:aB}{σ an iv:aA}{G:GD}{s s' cO:Y8}{φ am kE:Gh}{β aH ug:List Zi}{P P' rC ah:Zi->Prop}{m m':Str->Option Value}{tk:Zi}{h h':jao}
variable {sB:Y8}{aj:Gh}{Φ:cX}
theorem B3{γ:Type}{k:Int}{ks:List Int}{vs:List γ}(h:ks.length<=vs.length):(ks.zip vs).any (λe=>decide (e.1=k))=ks.any (λe=>decide (e=k)):=by
 have:((ks.zip vs).map jhA).any (λe=>decide (e=k))=(ks.zip vs).any (λe=>decide (e.1=k)):=List.any_map;refine rwj this ?_;refine aa (jiI h) ?_;rfl
theorem Jp{γ δ:Type}{k:Int}{ks:List Int}{vs:List γ}{xs:List δ}(hl:ks.length=vs.length)(h:vs.length=xs.length):(ks.zip vs).any (λe=>decide (e.1=k))=(ks.zip xs).any (λe=>decide (e.1=k)):=
 (B3 (ZP hl)).trans (B3 (ZP (hl.trans h))).symm
theorem Ht{γ:Type}{k k':Int}{u v:γ}{ks:List Int}{vs cW:List γ}(h:(ks.zip vs).map (λe=>if e.1=k then(e.1,u)else e)=ks.zip cW):((k'::ks).zip (v::vs)).map (λe=>if e.1=k then(e.1,u)else e)=(k'::ks).zip ((if k'=k then u else v)::cW):=by
 refine aa jbm ?_;refine aa ZG ?_;refine aa h ?_;refine aa jbm ?_;by_cases q:k'=k
 ·refine aa (if_pos q) ?_;refine aa (if_pos q) ?_;rfl
 ·refine aa (if_neg q) ?_;refine aa (if_neg q) ?_;rfl
theorem Td{k:Int}{u:AV}{y:Value}(ry:VR tk φ h β P u y){vs:List AV}{xs:List Value}(r:ar tk φ h β P vs xs):∀{ks:List Int},ks.length=vs.length ->
 ∃cW iZ,(ks.zip vs).map (λe=>if e.1=k then(e.1,u)else e)=ks.zip cW/\(ks.zip xs).map (λe=>if e.1=k then(e.1,y)else e)=ks.zip iZ/\ks.length=cW.length/\ar tk φ h β P cW iZ:=by
 refine ar.ind (motive:=λvs xs=>∀{ks:List Int},ks.length=vs.length->∃cW iZ,(ks.zip vs).map (λe=>if e.1=k then(e.1,u)else e)=ks.zip cW/\(ks.zip xs).map (λe=>if e.1=k then(e.1,y)else e)=ks.zip iZ/\ks.length=cW.length/\ar tk φ h β P cW iZ) (λ{ks} hl=>?_) (λ{v x vs xs} a r ih ks hl=>?_) r
 ·induction ks using Y6 with
  |nil=>exact vU [] [] rfl rfl rfl (.nil)
  |cons=>cases hl
 ·induction ks using Y6 with
  |nil=>cases hl
  |cons k' ks =>
   refine n6 (ih (Z8 hl)) λcW iZ h1 h2 h3 h4=>?_;refine vU _ _ (Ht h1) (Ht h2) (congrArg jci h3) (.cons ?_ h4);by_cases q:k'=k
   ·refine aa (if_pos q) ?_;refine aa (if_pos q) ?_;exact ry
   ·refine aa (if_neg q) ?_;refine aa (if_neg q) ?_;exact a
theorem IQ{γ:Type}{k:Int}{v:γ}{ks:List Int}{vs:List γ}(h:ks.length=vs.length):ks.zip vs++[(k,v)]=(ks++[k]).zip (vs++[v]):=(List.zip_append (r₁:=[k]) (r₂:=[v]) h).symm
theorem UU{k:Int}{u:AV}{y:Value}{ks:List Int}{vs:List AV}{xs:List Value}(ry:VR tk φ h β P u y)(hl:ks.length=vs.length)(r:ar tk φ h β P vs xs):
 ∃(ng:List Int) (cW:List AV) (iZ:List Value),dictPut (ks.zip vs) k u=ng.zip cW/\stored (ks.zip xs) k y=ng.zip iZ/\ng.length=cW.length/\ar tk φ h β P cW iZ:=by
 have ha:=Jp (k:=k) (ks:=ks) hl r.length;unfold dictPut stored;by_cases q:((ks.zip vs).any λe=>decide (e.1=k))=true
 ·refine aa (if_pos q) ?_;refine aa (if_pos (ha▸q)) ?_;refine n6 (Td (k:=k) ry r hl) λcW iZ h1 h2 h3 h4=>?_;exact vV ks cW iZ h1 h2 h3 h4
 ·refine aa (if_neg q) ?_;refine aa (if_neg (ha▸q)) ?_;exact vV (ks++[k]) (vs++[u]) (xs++[y]) (IQ hl) (IQ (hl.trans r.length)) (by simp[hl]) (r.append (.single ry))
theorem H4{e o i:Expr}{p:Pos}{line:Nat}:jfw e (some (.Subscript o i p)) line ab=pure false:=by
 cases e<;>rfl
theorem CX{a:Zi}{aJ:List (Int×Value)}(hd:h.DictOf (jat af wd) a aJ):∃ob,h.get? a=some ob/\∀v,ob.data≠.cell v:=by
 refine kX hd λo es ep ho Y zi Y=>?_;exact aO o ho (λv q=>by rw[zi]at q;cases q)
theorem SR.dictAt{i:Nat}{a:Zi}{es:List (Int×AV)}{Q:Prop}(S:SR G sB aj ah ab T φ ρ σ β P m s)(hi:σ[i]?=some (.dict es))(ha:β[i]?=some a)(k:∀(ks:List Int) (vs:List AV) (xs:List Value),es=ks.zip vs->ks.length=vs.length->s.heap.DictOf (jat af wd) a (ks.zip xs)->ar G.tok φ s.heap β P vs xs->Q):Q:=by
 refine au (S.er.objs i _ hi (λq=>nomatch q)) λb h1 h2=>?_;exact OR.e_dict (Y7 (ha.symm.trans h1)▸h2) k
theorem UR{i:Nat}{a:Zi}{kk:Int}{t:Tok}{u:AV}{xv:Value}{es:List (Int×AV)}(S:SR G sB aj ah ab T φ ρ σ β P m s)(hi:σ[i]?=some (.dict es))(ha:β[i]?=some a)(aU:es.length<=100000)(ru:VR G.tok φ s.heap β P u xv):
 Zd (Zf af wd) A (setItem (.ref a) (.int kk t) xv) (λY s'=>gk G sB aj ah ab T s φ σ β P ρ (σ.set i (.dict (dictPut es kk u))) s') ax s :=
 S.dictAt hi ha λks vs ys e0 hl e rs=>by
  have oh:=S.live i a _ ha hi (λq=>nomatch q);refine kX (UU (k:=kk) ru hl rs) λng cW ub p1 p2 p3 p4=>?_;refine aa e0 ?_;refine aa p1 ?_;refine wpAny_setItem_pairs (knd:=jat af wd) (k:=kk) (jeo _ _ _ _) e (λh' hd hs=>?_) (d9 (Y5 (ZP ?_) aU))
  ·rw[p2]at hd;exact vW φ β P m (S.mutate (t:=s.toks+1) hi (λq=>nomatch q) ha (λq=>nomatch q) hs (Z2 _) (CX e) (.dict hd p3 (p4.mono (λY Y e=>e) (λb o p e=>⟨hs.extBut b o (λq=>oh (q▸p)) e,p⟩) (Zn _)))) (.mutate hi (λq=>nomatch q) ha hs)
  ·refine aa e0 ?_;refine aa jbu ?_;refine aa jbu ?_;refine aa rs.length ?_;rfl
theorem VD(F:bb G A Φ sB ah ab T){x:Str}{px sp pos:Pos}{k v:Expr}{n i:Nat}{kk:Int}{u:AV}{es:List (Int×AV)}(hx:T.var x=some n)(fv:ρ[n]?=some (some (.ref i)))
 (hv:ev Φ σ ρ (ao T v)=some u) (fJ:u.scalar=true) (hk:ev Φ σ ρ (ao T k)=some (.int kk)) (hi:σ[i]?=some (.dict es)) (aU:es.length<=100000):
 ca G A sB aj ah ab T ρ σ (Z4 (.Assign [.Subscript (.Name x px) k sp] v pos) ab) (.next ρ (σ.set i (.dict (dictPut es kk u)))):=λs φ β P m S =>
 jig ((cH F.hO _ v (Y9 _) ab T ρ _ F.hE hv).1.post (S.inv F.IB) S.er λxv ak ay aw bd aI aF=>(xZ F.hE hx fv).post bd aI λxo aC aV aP dJ bW bH =>
  (cH F.hO _ k (Y9 _) ab T ρ _ F.hE hk).1.post dJ bW λxk dj eU cn rq i3 jn=>by
   refine au (VR.refOf bH) ?_;rintro a rfl ha;have qy:=(aw.trans aP).trans cn;exact jn.e_int λt=>up (UR (S.go qy) hi ha aU (aF.scalar fJ λt y e=>cn.sub t y (aP.sub t y e))) λY s' h=>⟨rfl,h.after (.go qy)⟩) H4
theorem C6{x:Str}{i:Nat}{v:AV}(hE:bQ ab T)(hx:T.var x=some i)(hv:ρ[i]?=some (some v)):ES G A ab T ρ σ (loadName ab x) v:=by
 intro s φ β P m I R;refine au (R.names x i v hx hv) λv' r n=>?_;have hd:=Ho hx;rcases n with⟨k,e⟩|⟨c,e,k,i⟩
 ·exact jiR hE.kind k R.ns e ⟨φ,GX.refl R.tk,r⟩
 ·rcases k with k|k
  ·exact jfI hE.kind k e i ⟨φ,GX.refl R.tk,r⟩
  ·exact jfH hE.kind k e i ⟨φ,GX.refl R.tk,r⟩ hd.2
theorem Jx{C:Operator->AV->AV->Prop}{op:Operator}{a b:AV}(h:lL op a b=true)(h1:∀i j,C .FloorDiv (.int i) (.int j))(h2:∀x y,C .Add (.str x) (.str y)):C op a b:=by
 induction op using jdJ with
 |FloorDiv =>
  induction a using AV.casesOn with
  |int i=>induction b using AV.casesOn with
   |int j=>exact h1 i j
   |_=>exact bP h
  |_=>exact bP h
 |Add =>
  induction a using AV.casesOn with
  |str i=>induction b using AV.casesOn with
   |str j=>exact h2 i j
   |_=>exact bP h
  |_=>exact bP h
 |_=>exact bP h
theorem Jy{i j:Int}{r:AV}{x y:Value}(hr:dE σ .FloorDiv (.int i) (.int j)=some r)(K:aW φ s)(aF:VR G.tok am s'.heap β P (.int i) x)(bH:VR G.tok φ s.heap β P (.int j) y):Zd (Zf af wd) A (jei .FloorDiv x y) (aK G.tok φ s β P r) ax s :=
 mI hr λhc hr=>aG (Q:=λr=>Zd (Zf af wd) A (jei .FloorDiv x y) (aK G.tok φ s β P r) ax s) hr<|aF.e_int λgi=>bH.e_int λoX=>by
  have hs:small j=true:=by
   induction hq:small j using ZL with
   |true=>rfl
   |false=>exact absurd (.inr (by refine aa hq ?_;rfl)) hc
  exact jjj (λq=>hc (.inl (of_decide_eq_true q))) (by refine aa (AD hs) ?_;exact Z5) (fA K)
theorem Bg{u:List Nat}(h:(jbL ⟨u.toArray⟩==0)=true):u=[]:=Z7.mp (Zo▸(eq_of_beq h:u.toArray.size=0))
theorem JB{u v:List Nat}{r:AV}{x y:Value}(hr:dE σ .Add (.str u) (.str v)=some r)(K:aW φ s)(aF:VR G.tok am s'.heap β P (.str u) x)(bH:VR G.tok φ s.heap β P (.str v) y):Zd (Zf af wd) A (jei .Add x y) (aK G.tok φ s β P r) ax s :=
 bR hr λaU hr=>aG (Q:=λr=>Zd (Zf af wd) A (jei .Add x y) (aK G.tok φ s β P r) ax s) hr<|aF.e_str λgi=>bH.e_str λoX=>by
  refine PySem.P.iadd_str ?_;by_cases hu:u=[]
  ·subst hu;exact jV K (.str _ _)
  by_cases hv:v=[]
  ·subst hv;refine aa (Z6 _) ?_;refine aa (if_neg (mt Bg hu)) ?_;exact jV K (.str _ _)
  refine aa (if_neg (mt Bg hu)) ?_;refine aa (if_neg (mt Bg hv)) ?_;refine aa (HY _ _) ?_;exact⟨d9 (Y5 (ZP (Zo.trans Ze)) aU),nw K (Z2 _)⟩
theorem JA{op:Operator}{a b r:AV}{x y:Value}(bY:lL op a b=true)(hr:dE σ op a b=some r)(K:aW φ s)(aF:VR G.tok am s'.heap β P a x)(bH:VR G.tok φ s.heap β P b y):Zd (Zf af wd) A (jei op x y) (aK G.tok φ s β P r) ax s :=
 Jx (C:=λop a b=>dE σ op a b=some r->VR G.tok am s'.heap β P a x->VR G.tok φ s.heap β P b y->Zd (Zf af wd) A (jei op x y) (aK G.tok φ s β P r) ax s) bY (λi j hr aF bH=>Jy hr K aF bH) (λu v hr aF bH=>JB hr K aF bH) hr aF bH
theorem VA(F:bb G A Φ sB ah ab T){x:Str}{px pos:Pos}{op:Operator}{e:Expr}{i:Nat}{old v r:AV}(hx:T.own x=some i)(fv:ρ[i]?=some (some old))(he:ev Φ σ ρ (ao T e)=some v)(bY:lL op old v=true)
 (hr:dE σ op old v=some r):ca G A sB aj ah ab T ρ σ (Z4 (.AugAssign (.Name x px) op e pos) ab) (.next (ρ.set i (some r)) σ):=λs φ β P m S =>
 jiT ((C6 F.hE (tC hx).1 fv).post (S.inv F.IB) S.er λxo ak ay aw bd aI aF=>(cH F.hO _ e (Y9 _) ab T ρ _ F.hE he).1.post bd aI λxv aC aV aP dJ bW bH =>
  up (JA bY hr aP.tk aF bH) λxr dj ⟨eU,cn,jn⟩=>ny F hx (((S.go aw).go aP).go cn.x) jn λeE jR gl jY Y=>⟨rfl,eU,β,P,jR,gl,(bu.go ((aw.trans aP).trans cn.x)).trans jY⟩)
theorem Vr{i j:Nat}(fv:ρ[i]?=some (some (.ref j))):ρ.set i (some (.ref j))=ρ:=by
 refine aX (ZE.mp fv) λhl hg=>?_;refine rwj hg ?_;exact List.set_getElem_self hl
theorem VB(F:bb G A Φ sB ah ab T){x:Str}{px pos:Pos}{e:Expr}{i j:Nat}{v:AV}{xs ys:List AV}(hx:T.own x=some i)(fv:ρ[i]?=some (some (.ref j)))(he:ev Φ σ ρ (ao T e)=some v)(hi:σ[j]?=some (.list xs))
 (hv:aQ σ v=some ys) (aU:xs.length+ys.length<=100000):ca G A sB aj ah ab T ρ σ (Z4 (.AugAssign (.Name x px) .Add e pos) ab) (.next ρ (σ.set j (.list (xs++ys)))):=λs φ β P m S =>
 jiT ((C6 F.hE (tC hx).1 fv).post (S.inv F.IB) S.er λxo ak ay aw bd aI aF=>(cH F.hO _ e (Y9 _) ab T ρ _ F.hE he).1.post bd aI λxv aC aV aP dJ bW bH=>by
  have br:=(S.go aw).go aP;refine au (VR.refOf aF) ?_;rintro a rfl ha;refine bS (Ap bW.objs hv bH) ?_;rintro b zs rfl hb rb;refine br.listAt hi ha λus e rs=>Rq e hb (by refine rwj rs.length ?_;refine rwj rb.length ?_;exact aU) λh' hZ hs=>?_;refine n7 (br.relist (t:=aC.toks) hi ha hs (Y9 _) e hZ (rs.append rb)) λeU o0 o9 ky ey dp=>?_;have hc:o0[j]?=some a:=dp.pre.elim λt e=>e▸(Zx (ZE.mp ha).1).trans ha;refine ny F hx ey (.ref hc) λeE jR gl jY Y=>⟨rfl,eU,o0,o9,jR,?_,(bu.go (aw.trans aP)).trans (dp.trans jY)⟩
  rw[Vr fv]at gl;exact gl)
end
section
def Ge:Fn->Bool
 | .reversed=>true
 |_=>false
theorem Of(h:gv.lookup x=some .reversed):x=("reversed":Str):=
 eq_of_beq (Y'.mp (show gv.all (λe=>!Ge e.2||e.1==("reversed":Str))=true by decide +kernel) _ (mem_of_lookup h))
theorem Tn(h:iU.lookup x=some .reversed):False :=
 bP (Y'.mp (show iU.all (λe=>!Ge e.2)=true by decide +kernel) _ (mem_of_lookup h))
theorem W9(h:ao T e=.call .reversed (.cons a .nil)):∃p b pos,e=.Call (.Name ("reversed":Str) p) [b] [] pos/\T.isGlobal ("reversed":Str)=true/\a=ao T b:=by
 rcases wF h with⟨x,p,b,bs,pos,e1,hg,hl,e2⟩|⟨m,hl⟩|h|⟨h,_⟩
 ·have:=Of hl;rw[this]at e1 hg
  induction bs using Y6 with
  |cons=>exact G1 (bV.cons.inj e2).2
  |nil=>exact z0 p b pos e1 hg (by injection e2)
 ·exact(Tn hl).elim
 ·exact bP h
 ·exact bP h
def ur(G:GD)(A:ZZ)(s:Y8)(φ:Gh)(β:List Zi)(P:Zi->Prop)(it:Expr)(ab:Env)(vs:List AV):Prop :=
 (∀x,jcx it ab x=pure x)/\Zd (Zf af wd) A (jae it ab) (λx s'=>Zd (Zf af wd) A (jdU x) (λoJ cO=>∃ak ay,GX G s φ ak ay/\j0 A G.tok ay β P P ak vs oJ cO) ax s') ax s
theorem RU(F:bb G A Φ sB ah ab T)(hq:ao T it=.call .range as)(e:dU Φ σ ρ (.range as)=some vs)(I:bh G s.heap)(R:ER G φ ab T ρ σ β P m s):ur G A s φ β P it ab vs:=by
 refine kg (Bq hq) ?_;rintro p b bs pos rfl hg rfl;rw[se]at e
 induction cx:bX Φ σ ρ (bg T (b::bs))using ae with
 |none=>rw[cx]at e;exact ai e
 |some us =>
  rw[cx]at e;refine au (Zw.mp e) ?_;rintro is eS rfl;refine bN (j9 (G:=G) (A:=A) F.hE (λa Y=>cH F.hO _ a (Y9 _)) cx) λh1 h2=>?_;exact⟨λY=>rfl,xY F.hE F.hO.hG hg h1 (h2 _) eS I R λv s' am k rr=>up (HS F.hO.hA rr) λoJ cO h=>cZ s' am k h⟩
theorem RV(F:bb G A Φ sB ah ab T)(hq:ao T it=.call .reversed (.cons a .nil))(cx:ev Φ σ ρ a=some (.lst us))(I:bh G s.heap)(R:ER G φ ab T ρ σ β P m s):ur G A s φ β P it ab us.reverse:=by
 refine kf (W9 hq) ?_;rintro p b pos rfl hg rfl;have iL:=tz cx;refine⟨λY=>rfl,jaL (jS F.hE hg (.inr (F.hO.hG.types "reversed" (by simp))) I ?_)⟩;refine jbo (jcI ((cH F.hO _ b (Y9 _) ab T ρ _ F.hE cx).1.post I R λx ak ay aw bd aI aF=>jdq ?_) (iV iL)) (iV iL) rfl;refine aF.e_lst λa xs hl p r=>VQ F.hO.hA hl.isList p r λoJ s' hs hp=>up hp λYM cO q=>?_;refine aa q.1 ?_;refine aa q.2 ?_;exact cZ ak ay aw hs
theorem RW(F:bb G A Φ sB ah ab T)(Ql:x.isRef=false)(hx:ev Φ σ ρ (ao T it)=some x)(e:oI σ x=some vs)(I:bh G s.heap)(R:ER G φ ab T ρ σ β P m s):ur G A s φ β P it ab vs:=by
 refine⟨λY=>D9 hx,(cH F.hO _ it (Y9 _) ab T ρ _ F.hE hx).1.post I R λv ak ay aw bd aI aF=>?_⟩;refine up (HU F.hO.hA aI.objs aI.psys e aF) λoJ aC h=>?_;refine yq h λo fp Pv St h1 h2 h3 h4 h5 h6=>?_;refine⟨ak,ay,aw,o,fp,Pv,St,h1,h2,h3,h4,λb hb=>(h5 b hb).imp id λq=>⟨q.1.elim id λq=>?_,q.2⟩,h6⟩;exact bP (Ql.symm.trans q.1)
theorem RT(F:bb G A Φ sB ah ab T)(e:lR Φ ρ σ (fR (ao T it))=some vs)(I:bh G s.heap)(R:ER G φ ab T ρ σ β P m s):ur G A s φ β P it ab vs:=by
 induction hq:fR (ao T it)using It.casesOn with
 |range as=>rw[hq]at e;exact RU F (tl hq) e I R
 |rev a =>
  rw[hq,MY]at e
  induction hu:ev Φ σ ρ a using ae with
  |none=>rw[hu]at e;exact ai e
  |some u =>
   rw[hu]at e
   induction u using AV.casesOn with
   |lst us=>exact Y7 e▸RV F (tl hq) hu I R
   |_=>exact ai e
 |val x =>
  rw[hq,show x=ao T it from tl hq,Dc]at e;clear hq
  induction hx:ev Φ σ ρ (ao T it)using ae with
  |none=>rw[hx]at e;exact ai e
  |some x =>
   rw[hx]at e
   induction x using AV.casesOn with
   |ref i=>exact ai e
   |_=>exact RW F rfl hx e I R
theorem SR.moved(S:SR G sB aj ah ab T φ ρ σ β P m s)(hn:sB.heap.objs.size<=I)(hI:¬P I)(qm:I∉β)(fI:¬my G ab T I)(jb:∀x c,ab.cells.lookup x=some c->c≠I)(hk:∀b o,b≠I->s.heap.get? b=some o->h'.get? b=some o)(u:Up s {s with heap:=h',toks:=t}):SR G sB aj ah ab T φ ρ σ β P m {s with heap:=h',toks:=t}:=by
 have lW:¬G.X I:=λq=>fI (.inr (.inr q));have TT:=S.tabs.1.but (a:=I) hk lW λq=>hI (S.er.freshX I (.inr q));have R:=S.er.but (X:=(·=I)) (h':=h') (t:=t) S.tabs.1 (λb hb q=>lW (q▸hb)) (λb o hb e=>hk b o hb e) u.size u.toks (λa p q=>hI (q▸p)) (λa p q=>qm (q▸p)) (λq=>fI (.inl q.symm)) (λx c v hc hi q=>jb x c hc q);refine dW S.base λhh tt e=>?_;exact{ S with base:=jQ h' t (by refine aa e ?_;rfl),old:=λb o hb e=>hk b o (sF hn e) (S.old b o hb e),size:=Y5 S.size u.size,er:=R,tabs:=⟨TT.1,λc q=>S.tabs.2 c (TT.2 c q)⟩}
theorem bu.moved(C:bu G ab T ak ay gR dc cC s φ σ β P)(hI:ak.heap.objs.size<=I)(hk:∀b o,b≠I->s.heap.get? b=some o->h'.get? b=some o)(u:Up s {s with heap:=h',toks:=t}):bu G ab T ak ay gR dc cC {s with heap:=h',toks:=t} φ σ β P :=
 { C with keep:=λb o hb e=>hk b o (λq=>Zv _ (bf (q▸Zz e:I<ak.heap.objs.size) hI)) (C.keep b o hb e),size:=Y5 C.size u.size}
theorem SR.push_out(S:SR G sB aj ah ab T φ ρ σ β P m s):
 SR G sB aj ah ab T φ ρ σ β (fN P s.heap.objs.size (s.heap.objs.size+1)) m {s with heap:=s.heap.push o}/\bu G ab T s φ σ β P {s with heap:=s.heap.push o} φ σ β (fN P s.heap.objs.size (s.heap.objs.size+1)):=by
 have hz:(s.heap.push o).objs.size=s.heap.objs.size+1:=ZS ..;have ext:ce s.heap (s.heap.push o):=λb o e=>Zh _ e;have R:=S.er.grow_out (h':=s.heap.push o) (t:=s.toks) S.tabs.1 ext (by refine aa hz ?_;exact Z2 _) (Y9 _);rw[hz]at R;refine dW S.base λhh tt e=>?_;refine⟨{S with base:=jQ (s.heap.push o) s.toks (by refine aa e ?_;rfl),old:=λb o hb e=>ext b o (S.old b o hb e),tabs:=⟨S.tabs.1.keeps ext,λc q=>S.tabs.2 c (iW ext S.tabs.1 c q)⟩,size:=Y5 S.size (by show _<=(s.heap.push o).objs.size;refine aa hz ?_;exact Z2 _),er:=R,fr:=S.fr.sub λa p=>p.1,live:=λj a o h1 h2 h3 p=>S.live j a o h1 h2 h3 p.1,psub:=λa p=>S.psub a p.1},
  ⟨λb o Y e=>ext b o e,λY Y h=>h,λa p hl=>⟨p,λq=>Z0.mpr q.1 hl⟩,λY Y e=>e,Zn _,by show _<=(s.heap.push o).objs.size;refine aa hz ?_;exact Z2 _,λY Y p=>.inl p.1,λY h Y=>h⟩⟩
theorem OB{f:aB->aA->AV->Option Fl}{v:AV}{vs:List AV}{fl:Fl}{Q:Prop}(h:eQ f (v::vs) ρ σ=some fl)(h1:∀av an,f ρ σ v=some (.next av an)->eQ f vs av an=some fl->Q)(h2:∀r,f ρ σ v=some (.ret r)->.ret r=fl->Q):Q:=by
 replace h:(match f ρ σ v with|some (.next av an)=>eQ f vs av an|some (.ret r)=>some (.ret r)|none=>none)=some fl:=h
 induction hb:f ρ σ v using ae with
 |none=>rw[hb]at h;exact ai h
 |some x =>
  rw[hb]at h
  induction x using Fl.casesOn with
  |next av an=>exact h1 av an hb h
  |ret r=>exact h2 r hb (Y7 h)
theorem OD{T:Tb}{ρ:aB}{G:GD}{s:Y8}(F:bb G A Φ sB ah ab T){x:Str}{px:Pos}{body:List Stmt}{i:Nat}{v:AV}{vs:List AV}{xv:Value}{f:aB->aA->AV->Option Fl}{fl:Fl}{R:jeH->Y8->Prop}{E E':Value->Y8->Prop}(hx:T.own x=some i)(jd:∀v ρ σ fl,f ρ σ v=some fl->ca G A sB aj ah ab T (ρ.set i (some v)) σ (ZQ body ab) fl)(S:SR G sB aj ah ab T φ ρ σ β P m s)(rv:VR G.tok φ s.heap β P v xv)(hf:eQ f (v::vs) ρ σ=some fl)(h1:∀av an s',eQ f vs av an=some fl->gk G sB aj ah ab T s φ σ β P av an s'->R .next s')(h2:∀r fw s',.ret r=fl->o8 G sB aj ah ab T s φ σ β P (.ret r) fw s'->R fw s'):
 Zd (Zf af wd) A (jhq (.Name x px) ab xv) (λY s'=>Zd (Zf af wd) A (ZQ body ab) R E' s') E s :=
 jeB (ny F hx S rv λak da aM bU Y=>OB hf
  (λav an hb hf=>up (jd v ρ σ _ hb ak φ β P da aM) λfw aC cy=>cy.1▸h1 av an aC hf (gk.after bU cy.2))
  (λr hb e=>up (jd v ρ σ _ hb ak φ β P da aM) λfw aC cy=>h2 r fw aC e cy))
structure o6(G:GD) (sB:Y8) (aj:Gh) (ah:Zi->Prop) (ab:Env) (T:Tb) (ak:Y8) (ay:Gh) (σ:aA) (β:List Zi) (P:Zi->Prop) (I:Zi) (St:Nat->jao->Prop) (run:Nat->aB->aA->Prop) (j:Nat) (am:Gh) (av:aB) (an:aA) (aH:List Zi) (P':Zi->Prop) (m':Str->Option Value) (s':Y8):Prop where
 S:SR G sB aj ah ab T am av an aH P' m' s'
 C:bu G ab T ak ay σ β P s' am an aH P'
 st:St j s'.heap
 nb:I∉aH
 np:¬P' I
 lt:I<s'.heap.objs.size
 run:run j av an
def BL(G:GD)(sB:Y8)(aj:Gh)(ah:Zi->Prop)(ab:Env)(T:Tb)(ak:Y8)(ay:Gh)(σ:aA)(β:List Zi)(P:Zi->Prop)(I:Zi)(St:Nat->jao->Prop)(run:Nat->aB->aA->Prop)(len n:Nat)(s':Y8):Prop :=
 ∃j am av an aH P' m',(n=len-j/\j<=len)/\o6 G sB aj ah ab T ak ay σ β P I St run j am av an aH P' m' s'
theorem OA{ak:Y8}{ay:Gh}{I:Zi}{St:Nat->jao->Prop}{run:Nat->aB->aA->Prop}{len n:Nat}{Q:Prop}(h:BL G sB aj ah ab T ak ay σ β P I St run len n s')(k:∀j am av an aH P' m',n=len-j->j<=len->o6 G sB aj ah ab T ak ay σ β P I St run j am av an aH P' m' s'->Q):Q :=
 h.elim λj h=>h.elim λam h=>h.elim λav h=>h.elim λan h=>h.elim λaH h=>h.elim λP' h=>h.elim λm' h=>k j am av an aH P' m' h.1.1 h.1.2 h.2
theorem TC(F:bb G A Φ sB ah ab T)(S:SR G sB aj ah ab T φ ρ σ β P m s):¬my G ab T s.heap.objs.size/\∀x c,ab.cells.lookup x=some c->c≠s.heap.objs.size :=
 ⟨λq=>Zv _ (Hd S q),λx c hc q=>by
  refine bA (S.er.celled x (F.hcl x c hc)) λc' dk e1 e2=>?_;exact Zv _ ((Y7 (hc.symm.trans e1)).symm.trans q▸e2.lt)⟩
section
theorem o6.moved{ab:Env}{T:Tb}{ρ:aB}{σ an:aA}{G:GD}{s:Y8}{φ:Gh}{β aH:List Zi}{P P' ah:Zi->Prop}{m:Str->Option Value}{h':jao}{sB:Y8}{aj:Gh}{ak:Y8}{ay:Gh}{I:Zi}{St:Nat->jao->Prop}{run:Nat->aB->aA->Prop}{j:Nat}{t:Tok}(H:o6 G sB aj ah ab T ak ay an aH P' I St run j φ ρ σ β P m s)(ki:sB.heap.objs.size<=I)(hI:ak.heap.objs.size<=I)(fI:¬my G ab T I)(jb:∀x c,ab.cells.lookup x=some c->c≠I)(hk:∀b o,b ∉ [I]->s.heap.get? b=some o->h'.get? b=some o)(u:Up s {s with heap:=h',toks:=t}):
 SR G sB aj ah ab T φ ρ σ β P m {s with heap:=h',toks:=t}/\bu G ab T ak ay an aH P' {s with heap:=h',toks:=t} φ σ β P :=
 have f8:∀b o,b≠I->s.heap.get? b=some o->h'.get? b=some o:=λb o hb e=>hk b o (λq=>hb (Zu.mp q)) e
 ⟨H.S.moved ki H.np H.nb fI jb f8 u,H.C.moved hI f8 u⟩
theorem o6.still{ab:Env}{T:Tb}{ρ:aB}{σ an:aA}{G:GD}{s:Y8}{φ:Gh}{β aH:List Zi}{P P' ah:Zi->Prop}{m:Str->Option Value}{sB:Y8}{aj:Gh}{ak:Y8}{ay:Gh}{I:Zi}{St:Nat->jao->Prop}{run:Nat->aB->aA->Prop}{j:Nat}{fp:List Zi}(H:o6 G sB aj ah ab T ak ay an aH P' I St run j φ ρ σ β P m s){kC:aB}{da:Str->Option Value}(aM:SR G sB aj ah ab T ay kC an aH P' da ak)(fI:¬my G ab T I)(la:∀b∈fp,b=I\/P' b/\b<ak.heap.objs.size):∀b∈fp,pi G ab T σ β b:=λb hb =>
 (la b hb).elim (λe=>e▸⟨fI,λk hk=>absurd (ZK hk) H.nb⟩) λq=>H.C.still b q.2 (aM.stillP q.1)
end
theorem J'{α:Type}{t:Sem α}{K:α->Y8->Prop}{E:Value->Y8->Prop}(h:∀Q:α->Y8->Prop,(∀a s',K a s'->Q a s')->Zd (Zf af wd) A t Q E s):Zd (Zf af wd) A t K E s:=h K λY Y h=>h
theorem VC{T:Tb}{ρ:aB}(F:bb G A Φ sB ah ab T){x:Str}{px pos:Pos}{iter:Expr}{body:List Stmt}{i:Nat}{vs:List AV}{f:aB->aA->AV->Option Fl}{fl:Fl}(hx:T.own x=some i)(jg:lR Φ ρ σ (fR (ao T iter))=some vs)(jd:∀v ρ σ fl,f ρ σ v=some fl->ca G A sB aj ah ab T (ρ.set i (some v)) σ (ZQ body ab) fl)(hf:eQ f vs ρ σ=some fl):ca G A sB aj ah ab T ρ σ (Z4 (.For (.Name x px) iter body [] pos) ab) fl:=by
 intro s φ β P m S;refine J' λK hK=>?_;have hs:=RT F jg (S.inv F.IB) S.er;refine PySem.wpAny_For (jav hs.2 (λxv fg aL=>jav aL (λoJ aC cy=>cy.elim λak cy=>cy.elim λay cy=>?_) λY Y e=>e) λY Y e=>e) hs.1;have aw:=cy.1;refine src_elim cy.2 λo fp Pv St W cM la P6=>?_;clear cy hs;have aM:=S.go aw;refine bN (aM.push_out (o:=o)) λbr cY=>?_;refine bN (TC F aM) λfI jb=>?_;have ki:=aM.size;refine codeAny_forLoop (BL G sB aj ah ab T ak ay σ β P ak.heap.objs.size St (λj ρ σ=>eQ f (vs.drop j) ρ σ=some fl) vs.length)
  (λn s' hI=>?_) vs.length ⟨0,ay,ρ,σ,β,_,m,⟨rfl,jbp _⟩,br,cY,cM,λq=>Zv _ (aM.er.blt _ q),λp=>p.2 ⟨Y9 _,jan _⟩,by show _<(ak.heap.push o).objs.size;refine aa (ZS _ _) ?_;exact jan _,hf⟩ (λY=>rfl)
 refine OA hI λj am av an aH P' m' hn hj H=>?_;subst hn;clear hI;have ot:=H.run;rcases Nat.eq_or_lt_of_le hj with jL|jL
 ·rw[jL,jiK]at ot;refine eF (W.done s' _ _ (jL▸H.st) λh' t hk u=>?_);refine bN (H.moved ki (Y9 _) fI jb hk u) λey dp=>?_;exact wpAny_execs_nil (hK _ _ (aG (Q:=λfl=>o8 G sB aj ah ab T s φ σ β P fl .next _) ot ⟨rfl,am,aH,P',m',ey,(bu.go aw).trans dp⟩))
 ·rw[jcA jL]at ot;refine eF (W.item j s' _ _ jL H.st λxv h' t vd oF hk u=>?_);refine bN (H.moved ki (Y9 _) fI jb hk u) λey dp=>?_;refine au (P6 j xv vd) λv hv rv=>?_;rw[Zg jL]at hv;have zw:ak.heap.objs.size<h'.objs.size:=bf H.lt u.size;refine OD F hx jd ey (aM.carry dp (Y7 hv▸rv)) ot (λX' Yb dN PV lh=>?_) λr fw dN e lh=>?_
  ·refine n7 lh λwN IU BN AA rF nG=>?_;exact⟨vs.length-(j+1),Nat.sub_succ_lt_self _ _ jL,j+1,wN,X',Yb,IU,BN,AA,⟨rfl,jL⟩,rF,dp.trans nG,W.frame _ _ _ oF λb hb o e=>nG.keep b o (H.still aM fI la b hb) e,λq=>H.nb (nG.bn _ q zw),λp=>(nG.pn _ zw p).elim H.np H.nb,bf zw nG.size,PV⟩
  ·refine au lh ?_;rintro y rfl lh;exact hK _ _ (e▸⟨y,rfl,lh⟩)
theorem XJ{c:aB->aA->Option AV}{f:aB->aA->Option Fl}{k:Nat}{fl:Fl}{Q:Prop}(h:jr c f (k+1) ρ σ=some fl)(h1:∀av an,c ρ σ=some (.bool true)->f ρ σ=some (.next av an)->jr c f k av an=some fl->Q)(h2:∀r,c ρ σ=some (.bool true)->f ρ σ=some (.ret r)->.ret r=fl->Q)(h3:c ρ σ=some (.bool false)->.next ρ σ=fl->Q):Q:=by
 rw[Bu]at h
 induction hc:c ρ σ using ae with
 |none=>rw[hc]at h;exact ai h
 |some v =>
  rw[hc]at h
  induction v using AV.casesOn with
  |bool b =>
   induction b using ZL with
   |false=>exact h3 hc (Y7 h)
   |true =>
    induction hb:f ρ σ using ae with
    |none=>rw[hb]at h;exact ai h
    |some x =>
     rw[hb]at h
     induction x using Fl.casesOn with
     |next av an=>exact h1 av an hc hb h
     |ret r=>exact h2 r hc hb (Y7 h)
  |_=>exact ai h
theorem XK(F:bb G A Φ sB ah ab T){c:Expr}{body:List Stmt}{f:aB->aA->Option Fl}{fl:Fl}{k:Nat}{R R':jeH->Y8->Prop}{E:Value->Y8->Prop}(jd:∀ρ σ fl,f ρ σ=some fl->ca G A sB aj ah ab T ρ σ (ZQ body ab) fl)(hf:jr (λρ σ=>ev Φ σ ρ (ao T c)) f (k+1) ρ σ=some fl)(S:SR G sB aj ah ab T φ ρ σ β P m s)(h1:∀av an s',jr (λρ σ=>ev Φ σ ρ (ao T c)) f k av an=some fl->gk G sB aj ah ab T s φ σ β P av an s'->R .next s')(h2:∀r fw s',.ret r=fl->o8 G sB aj ah ab T s φ σ β P (.ret r) fw s'->R fw s')(h3:∀s',.next ρ σ=fl->gk G sB aj ah ab T s φ σ β P ρ σ s'->R' .next s'):
 Zd (Zf af wd) A (jby c ab (jae c ab)) (λb aC=>if b then Zd (Zf af wd) A (ZQ body ab) R E aC else Zd (Zf af wd) A (ZQ [] ab) R' E aC) E s:=by
 refine XJ hf (λav an hc hb hf=>?_) (λr hc hb e=>?_) λhc e=>?_
 ·refine((cH F.hO _ c (Y9 _) ab T ρ _ F.hE hc).2 true rfl).post (S.inv F.IB) S.er λak ay aw bd aI=>?_;rw[if_pos rfl];refine up (jd ρ σ _ hb ak ay β P m (S.go aw)) λfw aC cy=>?_;obtain⟨rfl,aV,dm,ck,dh,br,cY⟩:=cy;exact h1 av an aC hf ⟨aV,dm,ck,dh,br,(bu.go aw).trans cY⟩
 ·refine((cH F.hO _ c (Y9 _) ab T ρ _ F.hE hc).2 true rfl).post (S.inv F.IB) S.er λak ay aw bd aI=>?_;rw[if_pos rfl];exact up (jd ρ σ _ hb ak ay β P m (S.go aw)) λfw aC cy=>h2 r fw aC e cy
 ·refine((cH F.hO _ c (Y9 _) ab T ρ _ F.hE hc).2 false rfl).post (S.inv F.IB) S.er λak ay aw bd aI=>?_;rw[if_neg Z5];exact wpAny_execs_nil (h3 ak e ⟨ay,β,P,m,S.go aw,.go aw⟩)
theorem gk.carry(C:bu G ab T ak ay gR dc cC s φ σ β P)(h:gk G sB aj ah ab T s φ σ β P av an s'):gk G sB aj ah ab T ak ay gR dc cC av an s':=by
 refine n7 h λaV dm ck dh br cY=>?_;exact vW aV dm ck dh br (C.trans cY)
theorem VK(F:bb G A Φ sB ah ab T)(jd:∀ρ σ fl,f ρ σ=some fl->ca G A sB aj ah ab T ρ σ (ZQ body ab) fl)(hf:jr (λρ σ=>ev Φ σ ρ (ao T c)) f n ρ σ=some fl):ca G A sB aj ah ab T ρ σ (Z4 (.While c body [] pos) ab) fl:=by
 intro s φ β P m S;refine PySem.wpAny_While ?_;refine codeAny_whileLoop (λk s'=>∃av an,gk G sB aj ah ab T s φ σ β P av an s'/\jr (λρ σ=>ev Φ σ ρ (ao T c)) f k av an=some fl)
  (λk s' hI=>?_) n ⟨ρ,σ,⟨φ,β,P,m,S,.refl⟩,hf⟩
 clear S hf;refine bA hI λav an z2 ot=>?_;obtain⟨am,aH,P',m',S',C'⟩:=z2
 induction k using jaA with
 |zero=>exact ai ot
 |succ k =>
  refine XK F jd ot S' (λo3 nD aC hf h=>⟨k,jan _,o3,nD,h.carry C',hf⟩) (λr fw aC e h=>?_) λaC e h=>e▸⟨rfl,h.carry C'⟩;refine au h ?_;rintro y rfl h;exact e▸⟨y,rfl,h⟩
end
section
theorem VF(F:bb G A Φ sB ah ab T)(he:ev Φ σ ρ (ao T e)=some v)(hr:aZ σ 6 v=some r):ca G A sB aj ah ab T ρ σ (Z4 (.Return (some e) pos) ab) (.ret r):=by
 intro s φ β P m S;refine jbB ((cH F.hO _ e (Y9 _) ab T ρ _ F.hE he).1.post (S.inv F.IB) S.er λx ak ay aw bd aI aF=>?_);have aM:=S.go aw;exact⟨x,rfl,ay,aM.done,aM.frozen F.hP₀ hr aF⟩
theorem Nw{s:St}{ss:dw}{fl:Fl}{Q:Prop}(e:aE Φ ρ σ (.cons s ss)=some fl)(h1:∀av an,cU Φ ρ σ s=some (.next av an)->aE Φ av an ss=some fl->Q)(h2:∀v,cU Φ ρ σ s=some (.ret v)->.ret v=fl->Q):Q:=by
 rw[yy]at e
 induction h:cU Φ ρ σ s using ae with
 |none=>rw[h]at e;exact ai e
 |some f =>
  rw[h]at e
  induction f using Fl.casesOn with
  |next av an=>exact h1 av an h e
  |ret v=>exact h2 v h (Y7 e)
theorem A8(C:bu G ab T s φ σ β P ak ay gR dc cC)(h:o8 G sB aj ah ab T ak ay gR dc cC fl f aC):o8 G sB aj ah ab T s φ σ β P fl f aC:=by
 induction fl using Fl.casesOn with
 |next o3 nD =>
  obtain⟨e,aV,dm,ck,dh,br,cY⟩:=h;exact⟨e,aV,dm,ck,dh,br,C.trans cY⟩
 |ret r=>exact h
theorem Ww{mu:List Str}:(mu.contains x&&eK v)=true->eK v=true:=λh=>(jbT.mp h).2
theorem HN(F:bb G A Φ sB ah ab T){gQ:List Stmt}:∀{ρ:aB}{σ:aA}{fl:Fl},(∀st∈gQ,∀ρ σ fl,cU Φ ρ σ (oV T mu st)=some fl->ca G A sB aj ah ab T ρ σ (Z4 st ab) fl) ->
 aE Φ ρ σ (et T mu gQ)=some fl->ca G A sB aj ah ab T ρ σ (ZQ gQ ab) fl:=by
 induction gQ with
 |nil=>exact λ{ρ σ fl} Y e=>aG (Q:=λfl=>ca G A sB aj ah ab T ρ σ (ZQ [] ab) fl) (show some (Fl.next ρ σ)=some fl from e) λs φ β P m S=>wpAny_execs_nil ⟨rfl,φ,β,P,m,S,.refl⟩
 |cons st gQ ih =>
  intro ρ σ fl h e s φ β P m S;refine Nw (e:aE Φ ρ σ (.cons (oV T mu st) (et T mu gQ))=some fl) (λav an he e=>?_) λr he e=>?_
  ·refine ZD (up (h st Zj ρ σ _ he s φ β P m S) λf ak aY=>?_);obtain⟨rfl,ay,dc,cC,da,aM,bU⟩:=aY;exact up (ih (λst hs=>h st (ZB _ hs)) e ak ay dc cC da aM) λf aC cy=>A8 bU cy
  ·refine rwj e ?_;refine ZD (up (h st Zj ρ σ _ he s φ β P m S) λf ak aY=>?_);refine au aY ?_;rintro y rfl cy;exact⟨y,rfl,cy⟩
section
theorem Wc(F:bb G A Φ sB ah ab T)(hi:T.own x=some i)(ht:th=true->eK v=true)(e:cU Φ ρ σ (.asg i th (ao T v))=some fl):ca G A sB aj ah ab T ρ σ (Z4 (.Assign [.Name x px] v pos) ab) fl:=by
 rw[yu]at e
 induction hu:gq Φ ρ σ th (ao T v)using ae with
 |none=>rw[hu]at e;exact ai e
 |some r =>
  obtain⟨u,an⟩:=r;rw[hu]at e;exact aG (Q:=ca G A sB aj ah ab T ρ σ _) e (HM F hi ht hu)
theorem Wd{T:Tb}{mu:List Str}(F:bb G A Φ sB ah ab T){vs:List Expr}{xs:List Str}{is:List Nat}(h1:gh ts=some xs)(h2:T.vars? xs=some is)(h3:(vs.length==xs.length&&decide (vs.length<=1000)&&decide is.Nodup&&(!vs.all (jdp 8)||vs.all (jdI 8)))=true)(e:cU Φ ρ σ (.asgT (is.zip ((xs.zip vs).map λ(x,v)=>mu.contains x&&eK v)) (bg T vs))=some fl):ca G A sB aj ah ab T ρ σ (Z4 (.Assign [.Tuple ts k tp] (.Tuple vs k2 p2) pos) ab) fl:=by
 refine cu h3 λh c4=>cu h λh c3=>cu h λc1 c2=>?_;have c1:=eq_of_beq c1;have E9:xs.mapM T.own=some is:=h2;have aN:((xs.zip vs).map λ(x,v)=>mu.contains x&&eK v).length=is.length:=by
  rw[Y4,jbu,c1,jhv,At E9]
 have PU:(is.zip ((xs.zip vs).map λ(x,v)=>mu.contains x&&eK v)).map (·.1)=is:=jiI (by rw[aN];exact Y9 _);have vK:∀x e,(x,e)∈(is.zip ((xs.zip vs).map λ(x,v)=>mu.contains x&&eK v)).zip vs->x.2=true->eK e=true:=λx e hm vK=>by
  obtain⟨j,hj,lZ⟩:=jdw.mp hm;rw[jfU,jfU,jbV,jfU]at lZ;cases lZ;exact(jbT.mp vK).2
 generalize(xs.zip vs).map (λ(x,v)=>mu.contains x&&eK v)=tX at *;rw[DM]at e
 induction cx:eO Φ ρ σ (is.zip tX) (bg T vs)using ae with
 |none=>rw[cx]at e;exact ai e
 |some r =>
  obtain⟨us,an⟩:=r;rw[cx]at e;refine au (Zw.mp e) λav vR e=>?_;rw[PU]at vR;exact e▸Vz F h1 E9 (of_decide_eq_true c3) (of_decide_eq_true c2) c1 c4 aN vK cx vR
theorem Wk(F:bb G A Φ sB ah ab T)(h1:gh ts=some xs)(h2:T.vars? xs=some is)(hn:∀vs k p,v≠.Tuple vs k p)(e:cU Φ ρ σ (.unp is (ao T v))=some fl):ca G A sB aj ah ab T ρ σ (Z4 (.Assign [.Tuple ts k tp] v pos) ab) fl:=by
 rw[DL]at e
 induction hu:ev Φ σ ρ (ao T v)using ae with
 |none=>rw[hu]at e;exact ai e
 |some u =>
  rw[hu]at e
  induction u using AV.casesOn with
  |tup us =>
   refine au (Zw.mp e) λav vR e=>?_;exact e▸VH F h1 h2 hn hu vR
  |_=>exact ai e
theorem Wh(F:bb G A Φ sB ah ab T)(hi:T.var x=some i)(e:cU Φ ρ σ (.put i (ao T k) (ao T v))=some fl):ca G A sB aj ah ab T ρ σ (Z4 (.Assign [.Subscript (.Name x px) k sp] v pos) ab) fl:=by
 rw[DO]at e
 induction hu:ev Φ σ ρ (ao T v)using ae with
 |none=>rw[hu]at e;exact ai e
 |some u =>
  rw[hu]at e;refine bR e λfJ e=>?_
  induction hj:ρ[i]? using ae with
  |none=>rw[hj]at e;exact ai e
  |some o =>
   rw[hj]at e
   induction o using ae with
   |none=>exact ai e
   |some o =>
    induction o using AV.casesOn with
    |ref j =>
     induction hk:ev Φ σ ρ (ao T k)using ae with
     |none=>rw[hk]at e;exact ai e
     |some kv =>
      rw[hk]at e
      induction kv using AV.casesOn with
      |int kk =>
       dsimp only at e
       induction ho:σ[j]? using ae with
       |none=>rw[ho]at e;exact ai e
       |some ob =>
        rw[ho]at e
        induction ob using AO.casesOn with
        |dict es=>exact bR e λaU e=>aG (Q:=ca G A sB aj ah ab T ρ σ _) e (VD F hi hj hu fJ hk ho aU)
        |_=>exact ai e
      |_=>exact ai e
    |_=>exact ai e
theorem Jz{ρ:aB}{σ:aA}{i:Nat}{op:Operator}{x:Ex}{Q:Prop}(e:cU Φ ρ σ (.aug i op x)=some fl)(h1:∀j v xs ys,ρ[i]?=some (some (.ref j))->ev Φ σ ρ x=some v->op=.Add->σ[j]?=some (.list xs)->aQ σ v=some ys->xs.length+ys.length<=100000->.next ρ (σ.set j (.list (xs++ys)))=fl->Q)(h2:∀old v r,ρ[i]?=some (some old)->ev Φ σ ρ x=some v->lL op old v=true->dE σ op old v=some r->.next (ρ.set i (some r)) σ=fl->Q):Q:=by
 rw[yw]at e
 induction ho:ρ[i]? using ae with
 |none=>rw[ho]at e;exact ai e
 |some o =>
  rw[ho]at e
  induction o using ae with
  |none=>exact ai e
  |some old =>
   induction hv:ev Φ σ ρ x using ae with
   |none=>rw[hv]at e;exact ai e
   |some v =>
    rw[hv]at e;have hb:(if lL op old v then(match dE σ op old v with
     |some r=>some (Fl.next (ρ.set i (some r)) σ)
     |none=>none)else none)=some fl->Q:=λe=>bR e λbY e=>by
     induction hr:dE σ op old v using ae with
     |none=>rw[hr]at e;exact ai e
     |some r=>rw[hr]at e;exact h2 old v r ho hv bY hr (Y7 e)
    induction old using AV.casesOn with
    |ref j =>
     clear hb h2
     induction op using jdJ with
     |Add =>
      dsimp only at e
      induction hs:σ[j]? using ae with
      |none=>rw[hs]at e;exact ai e
      |some ob =>
       rw[hs]at e
       induction ob using AO.casesOn with
       |list xs =>
        induction hl:aQ σ v using ae with
        |none=>rw[hl]at e;exact ai e
        |some ys=>rw[hl]at e;exact bR e λaU e=>h1 j v xs ys ho hv rfl hs hl aU (Y7 e)
       |_=>exact ai e
     |_=>exact ai e
    |_=>exact hb e
theorem We{T:Tb}(F:bb G A Φ sB ah ab T){x:Str}{px:Pos}{v:Expr}{op:Operator}{i:Nat}(hi:T.own x=some i)(e:cU Φ ρ σ (.aug i op (ao T v))=some fl):ca G A sB aj ah ab T ρ σ (Z4 (.AugAssign (.Name x px) op v pos) ab) fl :=
 Jz e (λj u xs ys h1 h2 h3 h4 h5 h6 e=>e▸h3▸VB F hi h1 h2 h4 h5 h6) λold u r h1 h2 h3 h4 e=>e▸VA F hi h1 h2 h3 h4
theorem Wb(F:bb G A Φ sB ah ab T)(bY:ff o 1 ap p=true)(e:cU Φ ρ σ (.app (ao T o) (ao T v))=some fl):ca G A sB aj ah ab T ρ σ (Z4 (.Expr (.Call (.Attribute o "append" ap) [v] [] p) pos) ab) fl:=by
 rw[yx]at e
 induction ho:ev Φ σ ρ (ao T o)using ae with
 |none=>rw[ho]at e;exact ai e
 |some ov =>
  rw[ho]at e
  induction ov using AV.casesOn with
  |ref i =>
   induction hv:ev Φ σ ρ (ao T v)using ae with
   |none=>rw[hv]at e;exact ai e
   |some u =>
    rw[hv]at e;dsimp only at e
    induction hx:σ[i]? using ae with
    |none=>rw[hx]at e;exact ai e
    |some ob =>
     rw[hx]at e
     induction ob using AO.casesOn with
     |list xs =>
      refine bR e λaU e=>Vy F bY ho hv hx aU ?_;clear ho hv hx
      induction u using AV.casesOn with
      |ref j =>
       refine mI e λfb e=>?_
       induction hr:lT σ j using ae with
       |none=>rw[hr]at e;exact ai e
       |some r=>rw[hr]at e;exact .inl ⟨j,r,rfl,fb,hr,(Y7 e).symm⟩
      |_=>exact .inr (Y7 e).symm
     |_=>exact ai e
  |_=>exact ai e
theorem Wj(F:bb G A Φ sB ah ab T)(bY:ff o 0 ap p=true)(e:cU Φ ρ σ (.rev (ao T o))=some fl):ca G A sB aj ah ab T ρ σ (Z4 (.Expr (.Call (.Attribute o "reverse" ap) [] [] p) pos) ab) fl:=by
 rw[DN]at e
 induction ho:ev Φ σ ρ (ao T o)using ae with
 |none=>rw[ho]at e;exact ai e
 |some ov =>
  rw[ho]at e
  induction ov using AV.casesOn with
  |ref i =>
   dsimp only at e
   induction hx:σ[i]? using ae with
   |none=>rw[hx]at e;exact ai e
   |some ob =>
    rw[hx]at e
    induction ob using AO.casesOn with
    |list xs=>exact bR e λaU e=>aG (Q:=ca G A sB aj ah ab T ρ σ _) e (VG F bY ho hx aU)
    |_=>exact ai e
  |_=>exact ai e
theorem Wg(F:bb G A Φ sB ah ab T)(ha:aE Φ ρ σ (et T mu a)=some fl->ca G A sB aj ah ab T ρ σ (ZQ a ab) fl)(hb:aE Φ ρ σ (et T mu b)=some fl->ca G A sB aj ah ab T ρ σ (ZQ b ab) fl)(e:cU Φ ρ σ (.ife (ao T c) (et T mu a) (et T mu b))=some fl):ca G A sB aj ah ab T ρ σ (Z4 (.If c a b pos) ab) fl:=by
 rw[su]at e
 induction hc:ev Φ σ ρ (ao T c)using ae with
 |none=>rw[hc]at e;exact ai e
 |some cv =>
  rw[hc]at e
  induction cv using AV.casesOn with
  |bool r =>
   intro s φ β P m S;refine jeP (((cH F.hO _ c (Y9 _) ab T ρ _ F.hE hc).2 r rfl).post (S.inv F.IB) S.er λak ay aw bd aI=>?_)
   induction r using ZL with
   |true=>rw[if_pos rfl];exact up (ha e ak ay β P m (S.go aw)) λf aC cy=>A8 (bu.go aw) cy
   |false=>rw[if_neg Z5];exact up (hb e ak ay β P m (S.go aw)) λf aC cy=>A8 (bu.go aw) cy
  |_=>exact ai e
theorem Wf(F:bb G A Φ sB ah ab T)(hi:T.own x=some i)(jd:∀ρ σ fl,aE Φ ρ σ (et T mu body)=some fl->ca G A sB aj ah ab T ρ σ (ZQ body ab) fl)(e:cU Φ ρ σ (.for_ i (fR (ao T it)) (et T mu body))=some fl):ca G A sB aj ah ab T ρ σ (Z4 (.For (.Name x px) it body [] pos) ab) fl:=by
 rw[DP]at e
 induction b0:lR Φ ρ σ (fR (ao T it))using ae with
 |none=>rw[b0]at e;exact ai e
 |some vs=>rw[b0]at e;exact VC F hi b0 (λv ρ σ fl hb=>jd _ _ _ hb) e
theorem Wi(F:bb G A Φ sB ah ab T)(e:cU Φ ρ σ (.ret (ao T x))=some fl):ca G A sB aj ah ab T ρ σ (Z4 (.Return (some x) pos) ab) fl:=by
 rw[DK]at e
 induction hv:ev Φ σ ρ (ao T x)using ae with
 |none=>rw[hv]at e;exact ai e
 |some v =>
  rw[hv]at e;refine au (Zw.mp e) λr hr e=>?_;exact e▸VF F hv hr
end
theorem VM(F:bb G A Φ sB ah ab T)(n:Nat):∀(st:Stmt),sizeOf st<n->∀ρ σ fl,cU Φ ρ σ (oV T mu st)=some fl->ca G A sB aj ah ab T ρ σ (Z4 st ab) fl:=by
 induction n with
 |zero=>exact λst cM=>absurd cM (jeK _)
 |succ n ih =>
  have gg:∀{gQ:List Stmt},sizeOf gQ<n->∀ρ σ fl,aE Φ ρ σ (et T mu gQ)=some fl->ca G A sB aj ah ab T ρ σ (ZQ gQ ab) fl:=λh ρ σ fl e =>
   HN F (λst hs=>ih st (jaq (jbM hs) h)) e
  intro st hn ρ σ fl;have t:=WW T mu st;generalize oV T mu st=x at t;cases t with
  |asg hi=>exact Wc F hi Ww
  |asgT h1 h2 h3=>exact Wd F h1 h2 h3
  |unp h1 h2 hnt=>exact Wk F h1 h2 hnt
  |put hi=>exact Wh F hi
  |aug hi=>exact We F hi
  |app hm ho=>refine aa hm ?_;exact Wb F ho
  |rev hm ho=>refine aa hm ?_;exact Wj F ho
  |ife=>have h:=ls (Stmt.If.sizeOf_spec ..) hn;exact Wg F (gg (q2 (zr (zr h))) ρ σ fl) (gg (q3 (zr h)) ρ σ fl)
  |for_ hi=>have h:=ls (Stmt.For.sizeOf_spec ..) hn;exact Wf F hi (gg (q3 (zr (zr h))))
  |while_ =>
   have h:=ls (Stmt.While.sizeOf_spec ..) hn;exact λe=>VK F (λρ σ fl hb=>gg (q2 (zr (zr h))) ρ σ fl hb) (by rw[DJ]at e;exact e)
  |ret=>exact Wi F
  |bad=>exact λe=>ai e
theorem VL(F:bb G A Φ sB ah ab T)(n:Nat)(st:Stmt)(h:sizeOf st<=n):∀ρ σ fl,cU Φ ρ σ (oV T mu st)=some fl->ca G A sB aj ah ab T ρ σ (Z4 st ab) fl:=VM F (n+1) st (jfK h)
end
def dy(ps:List Str)(sc:jaF):Tb :=
 { names:=sc.names,vars:=(ps++(eB sc).filter λx=>!ps.contains x).zipIdx,next:=(ps++(eB sc).filter λx=>!ps.contains x).length}
structure eu(fd:jaC) (d:dC) (ps:List Str) (body:List Stmt) (mu:List Str):Prop where
 stmts:fd.body=.stmts body
 glob:fd.globals=Zs
 bi:fd.builtins=jai
 clo:fd.closure=[]
 co:fd.scope.isCoroutine=false
 gen:fd.scope.isGenerator=false
 kind:fd.scope.kind=.function
 bind:∀vals:List Value,vals.length=ps.length->jbU fd ⟨vals,[]⟩=pure (ps.zip vals)
 nargs:d.nargs=ps.length
 nvars:d.nvars=(dy ps fd.scope).next
 tree:d.body=et (dy ps fd.scope) mu body
 tb:oS (dy ps fd.scope)=true
 nodup:(fd.scope.names.map (·.1)).Nodup
 psNodup:ps.Nodup
 nofree:fd.scope.names.all (λx=>x.2 != .free)=true
 psKind:ps.all (λx=>fd.scope.names.lookup x==some .local||fd.scope.names.lookup x==some .cell)=true
section
theorem AF{names:List (Str×jbi)}(hn:names.all (λx=>x.2 != .free)=true)(h:names.lookup x=some .free):False:=by
 rw[Y']at hn;have:=hn _ (mem_of_lookup h);simp at this
theorem Cc{K:Str->Option jbi}:∀{ps:List Str}{vals:List Value}{gA:Str->Option Value}{x:Str},x∉ps->bindL K (ps.zip vals) gA x=gA x
 | [],_,_,_,_=>rfl
 |_::_,[],_,_,_=>rfl
 |p::ps,v::vals,gA,x,hx=>by
  rw[jbm];unfold bindL;rw[Cc λq=>hx (ZB _ q)];split
  ·exact if_neg λq=>hx (by rw[q];exact Zj)
  ·rfl
theorem Ca{K:Str->Option jbi}:∀{ps:List Str}{vals:List Value}{gA:Str->Option Value}{x:Str},x∉ps->bindC K (ps.zip vals) gA x=gA x
 | [],_,_,_,_=>rfl
 |_::_,[],_,_,_=>rfl
 |p::ps,v::vals,gA,x,hx=>by
  rw[jbm];unfold bindC;rw[Ca λq=>hx (ZB _ q)];split
  ·rfl
  ·exact if_neg λq=>hx (by rw[q];exact Zj)
theorem Cb{K:Str->Option jbi}:∀{ps:List Str}{vals:List Value}{gA:Str->Option Value}{x:Str}{i:Nat}{v:Value},ps.Nodup->ps[i]?=some x->vals[i]?=some v->K x=some .local->bindL K (ps.zip vals) gA x=some v
 | [],_,_,_,_,_,_,h,_,_=>by simp at h
 |_::_,[],_,_,_,_,_,_,h,_=>by simp at h
 |p::ps,u::vals,gA,x,i,v,hn,hx,hv,hk=>by
  rw[jaP]at hn;refine aa jbm ?_;unfold bindL
  induction i using jaA with
  |zero =>
   have e1:p=x:=by simpa using hx
   have e2:u=v:=by simpa using hv
   subst e1 e2;refine aa (Cc hn.1) ?_;refine aa (if_pos hk) ?_;simp
  |succ i=>exact Cb hn.2 (by simpa using hx) (by simpa using hv) hk
theorem B'{K:Str->Option jbi}:∀{ps:List Str}{vals:List Value}{gA:Str->Option Value}{x:Str}{i:Nat}{v:Value},ps.Nodup->ps[i]?=some x->vals[i]?=some v->K x≠some .local->bindC K (ps.zip vals) gA x=some v
 | [],_,_,_,_,_,_,h,_,_=>by simp at h
 |_::_,[],_,_,_,_,_,_,h,_=>by simp at h
 |p::ps,u::vals,gA,x,i,v,hn,hx,hv,hk=>by
  rw[jaP]at hn;refine aa jbm ?_;unfold bindC
  induction i using jaA with
  |zero =>
   have e1:p=x:=by simpa using hx
   have e2:u=v:=by simpa using hv
   subst e1 e2;refine aa (Ca hn.1) ?_;refine aa (if_neg hk) ?_;simp
  |succ i=>exact B' hn.2 (by simpa using hx) (by simpa using hv) hk
theorem IM{α:Type}{x:α}{i:Nat}:∀{l:List α}{k:Nat},(x,i)∈l.zipIdx k->k<=i/\l[i-k]?=some x
 | [],_,h=>by simp at h
 |a::l,k,h=>by
  rw[List.zipIdx_cons]at h;rcases ZT.mp h with h|h
  ·cases h;exact⟨Y9 _,by simp⟩
  ·refine bN (IM h) λh1 h2=>?_;refine⟨ZO h1,?_⟩;refine aa (show i-k=(i-(k+1))+1 from ue h1) ?_;simpa using h2
theorem Oc{G:GD}{s:Y8}{fd:jaC}{d:dC}{ps:List Str}{body:List Stmt}{a:Zi}{vs:List AV}{xs:List Value}{ak:Y8}{cm:Str->Option Value}(D:eu fd d ps body mu)(I:bh G s.heap)(K:aW φ s)(F:kJ G s P)(hp:∀a,P a->eY G a)(r:ar G.tok φ s.heap [] P vs xs)(aN:vs.length=ps.length)(u:Up s ak)(hm:m=bindL (jbg fd s.heap.objs.size a).kindOf (ps.zip xs) λY=>none)(vm:cm=bindC (jbg fd s.heap.objs.size a).kindOf (ps.zip xs) λY=>none)(x:InCallC s (jbg fd s.heap.objs.size a).locals m (jbg fd s.heap.objs.size a).cells cm ak):
 SR G s φ P (jbg fd s.heap.objs.size a) (dy ps fd.scope) φ (vs.map some++Zm ((dy ps fd.scope).next-ps.length) none) [] [] (fN P s.heap.objs.size ak.heap.objs.size) m ak:=by
 have hL:(jbg fd s.heap.objs.size a).locals=s.heap.objs.size:=rfl;have vy:∀y,(jbg fd s.heap.objs.size a).kindOf y=fd.scope.names.lookup y:=λy=>rfl;have ext:ce s.heap ak.heap:=x.toInCall.keep;have jgH:∀y,fd.scope.names.lookup y=some .cell->∃c,(jbg fd s.heap.objs.size a).cells.lookup y=some c/\ak.heap.IsCell c (cm y)/\s.heap.objs.size<c:=λy hy=>by
  have h2:=jgo fd.scope.names (s.heap.objs.size+1) [] (.inl hy);refine aX (jcC.mp h2) λc hc=>?_;exact lj c hc (x.cell y c hc) (x.above y c (mem_of_lookup hc))
 have Pc:s.heap.objs.size<ak.heap.objs.size:=by have:=x.toInCall.ns.lt;rw[hL]at this;exact this
 have YB:ps.length<=(dy ps fd.scope).next:=by
  show _<=(ps++_).length;refine aa Ze ?_;exact ZH _ _
 refine⟨x.toInCall.same,λb o Y e=>ext b o e,u.size,λY Y e=>e,?_,?_,Y9 _,λy b h1 h2=>?_,(λb hb=>nomatch hb),jaW,rfl,(λj b o hb=>by simp at hb),λb p=>p.1,I.tabs.keeps ext,λc q=>.inl (iW ext I.tabs c q)⟩
 ·refine⟨x.toInCall.ns,?_,λy i v hy hv=>?_,λy hy=>?_,(λj o ho=>by simp at ho),(λb hb=>hb.elim (λhb=>⟨F b (.inl (Y5 u.size hb)),λq=>Z0.mpr hb q.2⟩) λhb=>⟨F b (.inr (iW ext I.tabs b hb)),λq=>Z0.mpr q.1 (bM.lt I.tabs (iW ext I.tabs b hb))⟩),λb p=>hp b p.1,(λb hb=>?_),(λb hb=>nomatch hb),K.fn,K.pos,λt z e=>bf (K.lt t z e) u.toks,bf K.one u.toks⟩
  ·refine aa Ze ?_;refine aa (Y4 _) ?_;refine aa jaB ?_;refine aa aN ?_;simp[*]
  ·have hi:i<ps.length:=by
    rcases jcd i ps.length with q|q
    ·exact q
    ·rw[Zk (by refine aa (Y4 _) ?_;refine aa aN ?_;exact q),jcQ]at hv;split at hv<;>cases hv
   rw[Zx (by refine aa (Y4 _) ?_;refine aa aN ?_;exact hi),ZR]at hv;refine au (Zw.mp hv) λv' Q1 e=>?_;cases e;refine au (r.get Q1) λxv vP rv=>?_;have oB:=IM (qY hy);have Fy:ps[i]?=some y:=by
    have:=oB.2;rw[jhu,Zx hi]at this;exact this
   refine aO xv (rv.mono (λY Y e=>e) (λb o p e=>⟨ext b o e,p,λq=>Z0.mpr q.1 (Zz e)⟩) (Zn _)) ?_;rcases XA hy with q|q|q
   ·refine .inl ⟨(vy y).trans q,?_⟩;refine aa hm ?_;exact Cb D.psNodup Fy vP ((vy y).trans q)
   ·refine fq (jgH y q) λc e1 e2 e3=>?_;refine .inr ⟨c,e1,.inl ((vy y).trans q),?_⟩;have:cm y=some xv:=by
     refine aa vm ?_;exact B' D.psNodup Fy vP (by refine aa (vy y) ?_;intro z;rw[show fd.scope.names.lookup y=some .cell from q]at z;cases z)
    refine rwj this ?_;exact e2
   ·exact(AF D.nofree q).elim
  ·unfold Tb.celled at hy;rw[jbx]at hy;rcases hy with q|q
   ·refine fq (jgH y (eq_of_beq q)) λc e1 e2 Y=>?_;exact cZ c _ e1 e2
   ·exact(AF D.nofree (eq_of_beq q)).elim
  ·have safe:∀b,s.heap.objs.size<=b->eY G b:=λb hb=>hp b (F b (.inl hb));rcases hb with hb|hb|⟨y,hy⟩
   ·cases hb
   ·refine aa hb ?_;exact safe _ (Y9 _)
   ·exact safe b (ZO (x.above y b (mem_of_lookup hy)))
 ·refine⟨λp=>p.2 ⟨Y9 _,Pc⟩,(λq=>nomatch q),λy hy=>?_⟩;refine fq (jgH y hy) λc e1 e2 e3=>?_;exact lj c e1 (λp=>p.2 ⟨ZO e3,e2.lt⟩) (λq=>nomatch q)
 ·refine fq (jgH y h1) λc e1 e2 e3=>?_;rw[h2]at e1;cases e1;exact ZO e3
end
section
theorem Mh(D:eu fd d ps body mu)(vg:(jbg fd L a).cells.Pairwise λx y=>x.2≠y.2):bQ (jbg fd L a) (dy ps fd.scope) where
 kind:=D.kind
 loc:=λx hx=>hx
 cel:=λx hx=>hx
 fre:=λx hx=>(AF D.nofree hx).elim
 inj:=λx y c hx hy=>name_of_addr vg (mem_of_lookup hx) (mem_of_lookup hy)
 glob:=λx hx=>hx
 g:=D.glob
 b:=D.bi
theorem Sa(D:eu fd d ps body mu)(y:Str×Value)(hy:y∈ps.zip xs):fd.scope.names.lookup y.1=some .local\/fd.scope.names.lookup y.1=some .cell/\((jbN (L+1) fd.scope.names []).lookup y.1).isSome=true :=
 (Bool.or_eq_true_iff.mp (Y'.mp D.psKind y.1 (List.of_mem_zip hy).1)).elim (λq=>.inl (eq_of_beq q)) λq=>.inr ⟨eq_of_beq q,jgo fd.scope.names _ [] (.inl (eq_of_beq q))⟩
theorem Ob(D:eu fd d ps body mu)(I:bh G s.heap)(hP:∀a,s.heap.objs.size<=a->P a)(hO:fT G A Φ)(hE:bQ (jbg fd L a) (dy ps fd.scope)):bb G A Φ s P (jbg fd L a) (dy ps fd.scope) where
 hO:=hO
 hE:=hE
 hT:=tW D.tb
 IB:=I
 hP₀:=hP
 hI:=by
  unfold jiW;refine aa (show(jbg fd L a).scope.kind=.function from D.kind) ?_;rfl
 hcl:=λy c hc=>(rX (mem_of_lookup hc)).elim (λhm=>nomatch hm) λhm=>by
  show(fd.scope.names.lookup y==_||_)=true;refine aa (lv D.nodup hm) ?_;rfl
def nE(G:GD)(s:Y8)(φ:Gh)(P:Zi->Prop)(r:AV)(fl:jeH)(s':Y8):Prop:=∃x,fl=.ret x/\∃am,GX G s φ s' am/\VR G.tok am s'.heap [] P r x
theorem sA(D:eu fd d ps body mu)(hk:G.fns k=some (x,fd))(sY:A.depth<jdo)(hO:∀ab,fT G (A.deeper ab) Φ)(hl:vs.length=ps.length)(l8:∀L fa s φ P P' m ak,bb G (A.deeper (jbg fd L fa)) Φ s P (jbg fd L fa) (dy ps fd.scope)->SR G s φ P (jbg fd L fa) (dy ps fd.scope) φ (vs.map some++Zm ((dy ps fd.scope).next-ps.length) none) [] [] P' m ak ->
 Zd (Zf af wd) (A.deeper (jbg fd L fa)) (ZQ body (jbg fd L fa)) (nE G s φ P r) ax ak) (ha:G.mg x=some (.ref a)):kF G A (.ref a) vs r:=by
 intro s φ P xs I K F hp rv;refine n6 (I.fns k x fd hk) λa' o h1 h2 h3 h4=>?_;have e:=jdM (Y7 (h1.symm.trans ha));subst e;refine wpAny_call (jiD sY h2 h3 D.co D.gen D.stmts h4 ?_);refine aa (D.bind xs (rv.length.symm.trans hl)) ?_;refine aa D.clo ?_;refine ZC (eF (wpAny_newFunctionEnv_cells D.kind (Sa D) λab he ak wJ u=>?_));replace he:ab=jbg fd s.heap.objs.size a':=he;subst he;refine⟨I.lim.keeps wJ.toInCall.keep,codeAny_func (up (l8 _ _ s φ P _ _ ak (Ob D I F.f (hO _) (Mh D wJ.apart)) (Oc (mu:=mu) D I K F hp rv hl u rfl rfl wJ)) λf aC cy=>?_)⟩;obtain⟨y,rfl,aV,O1,bH⟩:=cy;exact⟨aV,O1,bH⟩
theorem Od(D:eu fd d ps body mu)(hk:G.fns k=some (x,fd))(sY:A.depth<jdo)(hO:∀ab,fT G (A.deeper ab) Φ)(e:oP Φ d vs=some r)(ha:G.mg x=some (.ref a)):kF G A (.ref a) vs r:=by
 refine bR e λaN e=>?_;have Qd:vs.length=ps.length:=aN.trans D.nargs;refine sA D hk sY hO Qd (λL fa s φ P P' m ak FC S=>?_) ha;have fv:d.nvars-d.nargs=(dy ps fd.scope).next-ps.length:=by rw[D.nvars,D.nargs]
 rw[fv,D.tree]at e
 induction hv:aE Φ (vs.map some++Zm ((dy ps fd.scope).next-ps.length) none) [] (et (dy ps fd.scope) mu body)using ae with
 |none=>rw[hv]at e;exact ai e
 |some fl =>
  rw[hv]at e
  induction fl using Fl.casesOn with
  |next=>exact ai e
  |ret v=>exact aG (Q:=λr=>Zd _ _ _ (nE G s φ P r) _ _) e (HN FC (mu:=mu) (λst Y ρ σ fl e=>VL FC _ st (Y9 _) ρ σ fl e) hv ak φ [] _ _ S)
structure dQ(A:ZZ) (n:Nat):Prop where
 handled:A.handled=none
 depth:A.depth+n<jdo
 units:A.units+3*n<jhp
theorem dQ.deeper(D:dQ A (n+1))(ab:Env):dQ (A.deeper ab) n where
 handled:=D.handled
 depth:=by
  have:=D.depth;show A.depth+1+n<jdo;exact XW this
 units:=by
  have:=D.units;show A.units+3+3*n<jhp
  lia
theorem dQ.le(D:dQ A n)(h:k<=n):dQ A k:=⟨D.handled,Zy (jdL h _) D.depth,by have:=D.units;lia⟩
theorem KL(hG:dD G)(hN:gE G)(c:Nat)(zj:∀k d,fns k=some d->∃x fd ps body mu,G.fns k=some (x,fd)/\eu fd d ps body mu)(Qw:∀A,dQ A c->∀k vs r,fns k=none->gb k vs=some r->∃x fd,G.fns k=some (x,fd)/\∀a,G.mg x=some (.ref a)->kF G A (.ref a) vs r):
 ∀(n:Nat) (A:ZZ),dQ A (n+c)->ui G A (nR gb fns n):=by
 intro n
 induction n with
 |zero=>exact λA D k vs r e=>ai e
 |succ n ih =>
  intro A D k vs r e;replace e:(match fns k with|some d=>oP (nR gb fns n) d vs|none=>gb k vs)=some r:=e
  induction hd:fns k using ae with
  |none=>rw[hd]at e;exact Qw A (D.le (jcj ..)) k vs r hd e
  |some d =>
   rw[hd]at e;refine No (zj k d hd) λx fd ps body mu h1 h2=>?_;refine cZ x fd h1 (λa ha=>Od h2 h1 (by have:=D.depth;exact q8 this) (λab=>?_) e ha);have D':dQ (A.deeper ab) (n+c):=dQ.deeper (by refine aa (show n+c+1=n+1+c from jfp (jcP n 1 c)) ?_;exact D) ab;exact⟨D'.handled,by have:=D'.units;exact q8 this,hG,hN,ih _ D'⟩
end
section
def lG(G:GD)(σ:aA)(β:List Zi)(b:Zi):Prop:=(∀j:Nat,β[j]?=some b->σ[j]?=some .gone)/\¬G.X b
structure o7(T:Tb) (sc:jaF):Prop where
 names:T.names=sc.names
 nocell:∀x∈sc.names,x.2≠.cell
 kind:sc.kind=.function
 tb:jx T
theorem wh{sc:jaF}(h:∀x∈sc.names,x.2≠.cell)(e:sc.names.lookup x=some .cell):False:=h _ (mem_of_lookup e) rfl
def jk(sc:jaF)(L:Zi)(cg:List (Str×Zi))(qual:Str)(f:Zi)(code:Value):Env:=newEnv sc L Zs cg qual (some f) code none jai
theorem Mj{sc:jaF}{L f:Zi}{cg:List (Str×Zi)}{qual:Str}{code:Value}(I:o7 T sc)(P5:∀x y c,cg.lookup x=some c->cg.lookup y=some c->x=y):bQ (jk sc L cg qual f code) T where
 kind:=I.kind
 loc:=λx hx=>by rw[I.names]at hx;exact hx
 cel:=λx hx=>by rw[I.names]at hx;exact hx
 fre:=λx hx=>.inr (by rw[I.names]at hx;exact hx)
 inj:=P5
 glob:=λx hx=>by rw[I.names]at hx;exact hx
 g:=rfl
 b:=rfl
theorem SR.calmCell(S:SR G sB aj ah ab T φ ρ σ β P m s)(hc:s.heap.IsCell c v):lG G σ β c:=by
 refine⟨λj hj=>?_,S.tabs.1.notX_cell hc⟩;have hl:j<σ.length:=by refine rwj S.lenB ?_;exact(ZE.mp hj).1
 induction ho:σ[j]? using ae with
 |none=>rw[Zg hl]at ho;cases ho
 |some o =>
  by_cases hg:o=.gone
  ·refine aa hg ?_;rfl
  ·exfalso;refine au (S.er.objs j o ho hg) λa h1 h2=>?_;rw[hj]at h1;cases h1;refine au hc λob kl hd=>?_;cases h2 with
   |list e _ =>
    refine au (Gx e) λG8 e1 e2=>?_;rw[kl]at e1;cases e1;exact e2 v hd
   |dict e _ _ =>
    refine au (CX e) λG8 e1 e2=>?_;rw[kl]at e1;cases e1;exact e2 v hd
theorem SR.enter{G:GD}{s:Y8}{h':jao}{T':Tb}{sc:jaF}{av:aB}{cg:List (Str×Zi)}{qual:Str}{code:Value}{f:Zi}{binds:List (Str×Value)}{t:Tok}(S:SR G sB aj ah ab T φ ρ σ β P m s)(I:o7 T' sc)(iL:h'.Ns s.heap.objs.size (λx=>binds.reverse.lookup x))(m8:Z' s.heap.objs.size (s.heap.push {cls:=.type "frame",data:=.dict #[]}) h') (ht:s.toks<=t) (aN:av.length=T'.next) (hn:∀x i v,T'.var x=some i->av[i]?=some (some v)->∃v',VR G.tok φ s.heap β P v v'/\((sc.names.lookup x=some .local/\binds.reverse.lookup x=some v')\/(sc.names.lookup x=some .free/\∃c,cg.lookup x=some c/\s.heap.IsCell c (some v')))) (zg:∀x,sc.names.lookup x=some .free->∃c v,cg.lookup x=some c/\s.heap.IsCell c v) (zM:∀x c,cg.lookup x=some c->eY G c):
 SR G sB aj ah (jk sc s.heap.objs.size cg qual f code) T' φ av σ β (fN P s.heap.objs.size h'.objs.size) (λx=>binds.reverse.lookup x) {s with heap:=h',toks:=t}:=by
 have R:=S.er;have hz:h'.objs.size=s.heap.objs.size+1:=by refine aa m8.1 ?_;refine aa (ZS _ _) ?_;rfl
 have ext:ce s.heap h':=λb o e=>m8.extBut b o (jaI (Zz e)) (Zh _ e);have hk:∀a o,P a->s.heap.get? a=some o->h'.get? a=some o/\fN P s.heap.objs.size h'.objs.size a:=λa o p e=>⟨ext a o e,p,λq=>Z0.mpr q.1 (Zz e)⟩
 have safe:∀b,s.heap.objs.size<=b->eY G b:=λb hb=>R.psafe b (R.fresh b hb);have hL:s.heap.objs.size<h'.objs.size:=by refine aa hz ?_;exact jan _
 refine dW S.base λhh tt e=>?_;refine⟨⟨h',t,by refine aa e ?_;rfl⟩,λb o hb e=>ext b o (S.old b o hb e),Y5 S.size (ZO hL),S.sub,?_,?_,S.size,λx b h1 Y=>?_,S.newB,S.nodup,S.lenB,λj a o h1 h2 h3 p=>S.live j a o h1 h2 h3 p.1,λa p=>S.psub a p.1,S.tabs.1.keeps ext,λc q=>S.tabs.2 c (iW ext S.tabs.1 c q)⟩
 ·refine⟨iL,aN,λx i v hx hv=>?_,λx hx=>?_,λj o hj ho=>?_,λb hb=>?_,λb p=>R.psafe b p.1,λb hb=>?_,λb hb=>jaq (R.blt b hb) hL,R.tk.fn,R.tk.pos,λt' x e=>bf (R.tk.lt t' x e) ht,bf R.tk.one ht⟩
  ·refine au (hn x i v hx hv) λv' r q=>?_;refine aO v' (r.mono (λY Y e=>e) hk (Zn _)) ?_;rcases q with⟨q1,q2⟩|⟨q1,c,q2,q3⟩
   ·exact .inl ⟨q1,q2⟩
   ·exact .inr ⟨c,q2,.inr q1,q3.keeps ext⟩
  ·unfold Tb.celled at hx;rw[I.names,jbx]at hx;rcases hx with hx|hx
   ·exact(wh I.nocell (eq_of_beq hx)).elim
   ·refine bA (zg x (eq_of_beq hx)) λc v h1 h2=>?_;exact cZ c v h1 (h2.keeps ext)
  ·refine au (R.objs j o hj ho) λa h1 h2=>?_;exact aO a h1 (h2.mono (λY Y e=>e) hk (Zn _) λo e=>ext a o e)
  ·rcases hb with hb|hb
   ·exact⟨R.fresh b (Y5 (ZO hL) hb),λq=>Z0.mpr hb q.2⟩
   ·have:=iW ext S.tabs.1 b hb;exact⟨R.freshX b (.inr this),λq=>Z0.mpr q.1 (bM.lt S.tabs.1 this)⟩
  ·rcases hb with hb|hb|⟨x,hx⟩
   ·exact R.bsafe b (.inl hb)
   ·refine aa hb ?_;exact safe _ (Y9 _)
   ·exact zM x b hx
 ·refine⟨λp=>p.2 ⟨Y9 _,hL⟩,λq=>Zv _ (R.blt _ q),λx hx=>?_⟩;rw[I.names]at hx;exact(wh I.nocell hx).elim
 ·rw[I.names]at h1;exact(wh I.nocell h1).elim
theorem SR.back{s:Y8}{sc:jaF}{T':Tb}{cg:List (Str×Zi)}{qual:Str}{code:Value}{f:Zi}{dh:Str->Option Value}{ak aC:Y8}{aV:Gh}{o3:aB}{ck:Zi->Prop}(S:SR G sB aj ah ab T φ ρ σ β P m s)(I:o7 T' sc)(vp:ce s.heap ak.heap)(be:s.heap.objs.size<=ak.heap.objs.size)(mZ:∃h t,ak={s with heap:=h,toks:=t})(br:SR G sB aj ah (jk sc s.heap.objs.size cg qual f code) T' aV o3 an aH ck dh aC)(C:bu G (jk sc s.heap.objs.size cg qual f code) T' ak φ σ β (fN P s.heap.objs.size ak.heap.objs.size) aC aV an aH ck):
 SR G sB aj ah ab T aV ρ an aH ck m aC/\bu G ab T s φ σ β P aC aV an aH ck/\∀b o,lG G σ β b->s.heap.get? b=some o->aC.heap.get? b=some o:=by
 have R:=S.er;have bW:=br.er;have still:∀b,b<s.heap.objs.size->lG G σ β b->pi G (jk sc s.heap.objs.size cg qual f code) T' σ β b:=λb hb hc=>⟨λq=>by
  rcases q with q|⟨y,h1,_⟩|q
  ·exact Zv s.heap.objs.size (by have q':b=s.heap.objs.size:=q;rw[q']at hb;exact hb)
  ·rw[I.names]at h1;exact wh I.nocell h1
  ·exact hc.2 q,hc.1⟩
 have keep:∀b o,lG G σ β b->s.heap.get? b=some o->aC.heap.get? b=some o:=λb o hc e=>C.keep b o (still b (Zz e) hc) (vp b o e);have KN:∀b,b∉β->¬G.X b->lG G σ β b:=λb h1 h2=>⟨λj hj=>absurd (ZK hj) h1,h2⟩
 have KO:∀a,P a->lG G σ β a:=λa p=>⟨(S.stillP p).2,(R.psafe a p).2⟩
 have hk:∀a o,P a->s.heap.get? a=some o->aC.heap.get? a=some o/\ck a:=λa o p e=>⟨keep a o (KO a p) e,C.pm a ⟨p,λq=>Z0.mpr q.1 (Zz e)⟩ (bf (Zz e) be)⟩
 have G6:∀a,a<s.heap.objs.size->a∉β->¬P a->¬ck a:=λa hl hb hp p=>(C.pn a (bf hl be) p).elim (λq=>hp q.1) hb;have G5:∀a,a<s.heap.objs.size->a∉β->a∉aH:=λa hl hb q=>hb (C.bn a q (bf hl be));refine cz ({br with er:=?_,fr:=?_,newL:=S.newL,newC:=S.newC}) ?_ keep
 ·have Qc:=R.bsafe _ (.inr (.inl rfl));refine⟨R.ns.at' λo e=>keep _ o (KN _ S.fr.bloc Qc.2) e,R.len,λx i v hx hv=>?_,λx hx=>?_,bW.objs,bW.freshX,bW.psafe,λa ha=>?_,bW.blt,bW.tk⟩
  ·refine au (R.names x i v hx hv) λv' r q=>?_;refine aO v' (r.mono C.sub hk C.pre) ?_;rcases q with q|⟨c,q1,q2,o,ho,hd⟩
   ·exact .inl q
   ·refine .inr ⟨c,q1,q2,o,keep c o (S.calmCell ⟨o,ho,hd⟩) ho,hd⟩
  ·obtain⟨c,dk,h1,o,ho,hd⟩:=R.celled x hx;refine⟨c,dk,h1,o,keep c o (S.calmCell ⟨o,ho,hd⟩) ho,hd⟩
  ·rcases ha with ha|ha
   ·exact bW.bsafe a (.inl ha)
   ·exact R.bsafe a (.inr ha)
 ·refine⟨G6 _ R.ns.lt S.fr.bloc S.fr.ploc,G5 _ R.ns.lt S.fr.bloc,λx hx=>?_⟩;refine fq (S.fr.own x hx) λc e1 e2 e3=>?_;refine bA (R.celled x (by unfold Tb.celled;refine aa hx ?_;rfl)) λc' dk e4 e5=>?_;rw[e1]at e4;cases e4;exact lj c e1 (G6 c e5.lt e3 e2) (G5 c e5.lt e3)
 ·refine⟨λb o hb e=>keep b o ⟨hb.2,λq=>hb.1 (.inr (.inr q))⟩ e,λb hl hb=>⟨hb.1,(C.still b (bf hl be) (still b hl ⟨hb.2,λq=>hb.1 (.inr (.inr q))⟩)).2⟩,λa p hl=>C.pm a ⟨p,λq=>Z0.mpr q.1 hl⟩ (bf hl be),C.sub,C.pre,Y5 be C.size,λa hl p=>(C.pn a (bf hl be) p).imp (·.1) id,λa hb hl=>C.bn a hb (bf hl be)⟩
end
section
def oe:jeH->Value
 | .ret v=>v
 |_=>.none
theorem Tx{A:ZZ}{av:aB}{G:GD}{s sB:Y8}{T':Tb}{sc:jaF}{cg:List (Str×Zi)}{f:Zi}{o:Obj}{fd:jaC}{body:List Stmt}{xs:List Value}{binds:List (Str×Value)}{K:Value->Gh->List Zi->(Zi->Prop)->Y8->Prop}(IB:bh G sB.heap)(S:SR G sB aj ah ab T φ ρ σ β P m s)(I:o7 T' sc)(ho:s.heap.get? f=some o)(hd:o.data=.func fd)(sP:s.heap.CodeRec fd.code fd.qualname)(jd:fd.body=.stmts body)(fJ:fd.scope=sc)(PY:fd.globals=Zs)(zc:fd.builtins=jai)(hcl:fd.closure=cg)(zh:fd.scope.isCoroutine=false)(jK:fd.scope.isGenerator=false)(sY:A.depth<jdo)(jc:jbU fd ⟨xs,[]⟩=pure binds)(zf:∀x∈binds,sc.names.lookup x.1=some .local)(aN:av.length=T'.next)(hn:∀x i v,T'.var x=some i->av[i]?=some (some v)->∃v',VR G.tok φ s.heap β P v v'/\((sc.names.lookup x=some .local/\binds.reverse.lookup x=some v')\/(sc.names.lookup x=some .free/\∃c,cg.lookup x=some c/\s.heap.IsCell c (some v'))))(zg:∀x,sc.names.lookup x=some .free->∃c v,cg.lookup x=some c/\s.heap.IsCell c v)(zM:∀x c,cg.lookup x=some c->eY G c)(l8:∀h' t da,ce s.heap h'->SR G sB aj ah (jk sc s.heap.objs.size cg (fd.qualname ++ ".<locals>.") f fd.code) T' φ av σ β (fN P s.heap.objs.size h'.objs.size) da {s with heap:=h',toks:=t} ->
 Zd (Zf af wd) (A.deeper (jk sc s.heap.objs.size cg (fd.qualname ++ ".<locals>.") f fd.code)) (ZQ body (jk sc s.heap.objs.size cg (fd.qualname ++ ".<locals>.") f fd.code))
  (λfl aC=>∃aV o3 dm ck dh,SR G sB aj ah (jk sc s.heap.objs.size cg (fd.qualname ++ ".<locals>.") f fd.code) T' aV o3 an dm ck dh aC /\
   bu G (jk sc s.heap.objs.size cg (fd.qualname ++ ".<locals>.") f fd.code) T' {s with heap:=h',toks:=t} φ σ β (fN P s.heap.objs.size h'.objs.size) aC aV an dm ck/\K (oe fl) aV dm ck aC) ax {s with heap:=h',toks:=t}):
 Zd (Zf af wd) A (call (.ref f) xs) (λv aC=>∃aV dm ck,SR G sB aj ah ab T aV ρ an dm ck m aC/\bu G ab T s φ σ β P aC aV an dm ck/\(∀b o,lG G σ β b->s.heap.get? b=some o->aC.heap.get? b=some o)/\K v aV dm ck aC) ax s:=by
 subst fJ hcl;refine wpAny_call (jiD sY ho hd zh jK jd sP ?_);refine aa jc ?_;refine ZC (eF (wpAny_newFunctionEnv I.nocell zf (λh' iL m8 u=>?_) I.kind));have ext:ce s.heap h':=λb o e=>m8.extBut b o (jaI (Zz e)) (Zh _ e);refine⟨(S.inv IB).lim.keeps ext,codeAny_func ?_⟩;refine aa PY ?_;refine aa zc ?_;have aM:=S.enter (f:=f) (qual:=fd.qualname ++ ".<locals>.") (code:=fd.code) (cg:=fd.closure) (t:=s.toks+binds.length) I iL m8 (ZH _ _) aN hn zg zM;refine up (l8 h' _ _ ext aM) λfl aC qq=>sq qq λaV o3 dm ck dh br C k=>?_;refine fY (S.back I ext u.size ⟨h',_,rfl⟩ br C) λey dp keep=>?_;have e:(match fl with | .ret v=>v|_=>Value.none)=oe fl:=by cases fl<;>rfl
 show∃aV dm ck,_;exact vV aV dm ck ey dp keep k
end
section
theorem SR.cellSet(S:SR G sB aj ah ab T φ ρ σ β P m s)(hE:bQ ab T)(hk:T.names.lookup name=some .cell)(hc:ab.cells.lookup name=some c)(hx:∀i v,T.var name=some i->ρ[i]?=some (some v)->False)(h0:s.heap.IsCell c dk)(hs:Z' c s.heap h')(h1:h'.IsCell c oZ):SR G sB aj ah ab T φ ρ σ β P m {s with heap:=h'}:=by
 have R:=S.er;refine fq (S.fr.own name hk) λc' e1 hP s6=>?_;rw[hc]at e1;cases e1;have hX:¬G.X c:=(R.bsafe c (.inr (.inr ⟨name,hc⟩))).2;have TT:=S.tabs.1.but (λb o hb e=>hs.extBut b o hb e) hX λq=>hP (R.freshX c (.inr q));have lb:∀a o,P a->s.heap.get? a=some o->h'.get? a=some o/\P a:=λa o p e=>⟨hs.extBut a o (λq=>hP (q▸p)) e,p⟩
 have hz:h'.objs.size=s.heap.objs.size:=hs.1;refine dW S.base λhh tt e=>?_;refine{ S with base:=jQ h' s.toks (by refine aa e ?_;rfl),old:=λb o hb e=>hs.extBut b o (sF (S.newC name c hk hc) e) (S.old b o hb e),size:=Y5 S.size (ZP hz.symm),er:=?_,tabs:=⟨TT.1,λc q=>S.tabs.2 c (TT.2 c q)⟩};refine⟨R.ns.sameBut hs (rW R.ns h0),R.len,λy j u hy hj=>?_,λy hy=>?_,λj o hj ho=>?_,λb hb=>R.freshX b (hb.imp (λhb=>by refine rwj hz ?_;exact hb) (TT.2 b)),R.psafe,R.bsafe,λb hb=>by show b<h'.objs.size;refine aa hz ?_;exact R.blt b hb,R.tk.fn,R.tk.pos,R.tk.lt,R.tk.one⟩
 ·refine au (R.names y j u hy hj) λv' r q=>?_;refine aO v' (r.mono (λY Y e=>e) lb (Zn _)) ?_;rcases q with q|⟨g7,q1,q2,q3⟩
  ·exact .inl q
  ·refine .inr ⟨g7,q1,q2,q3.sameBut hs λz=>?_⟩;subst z;have:=hE.inj y name g7 q1 hc;subst this;exact hx j u hy hj
 ·refine bA (R.celled y hy) λg7 v q1 q2=>?_;by_cases z:g7=c
  ·subst z;exact cZ g7 oZ q1 h1
  ·exact cZ g7 v q1 (q2.sameBut hs z)
 ·refine au (R.objs j o hj ho) λa q1 q2=>?_;exact aO a q1 (q2.mono (λY Y e=>e) lb (Zn _) λo e=>hs.extBut a o (λz=>s6 (z▸ZK q1)) e)
theorem LG(IB:bh G sB.heap)(S:SR G sB aj ah ab T φ ρ σ β P m s)(hE:bQ ab T)(kn:t∈G.tabs)(hu:∀t'∈G.tabs,t'.2.1=t.2.1->t'=t)(m4:ab.code=.ref t.1)(km:t.2.2.1=pos)(hq:jen ab name name=t.2.2.2)(k9:params.defaults=[])(zt:params.kw_defaults=[])(ha:jhr params none ab=[])(hcl:jda sc ab=pure cg)(hk:T.names.lookup name=some .cell)(hc:ab.cells.lookup name=some c)(hx:∀i v,T.var name=some i->ρ[i]?=some (some v)->False)(hQ:∀(f:Zi) (s':Y8) (bZ bF pm:Value) (c':Zi),SR G sB aj ah ab T φ ρ σ β P m s'->s.heap.objs.size<=f->P f->s'.heap.get? f=some (jik name t.2.2.2 params body sc cg bF pm c' bZ)->s'.heap.CodeRec (.ref c') t.2.2.2->s'.heap.IsCell c (some (.ref f))->Q .next s'):
 Zd (Zf af wd) A (Z4 (.FunctionDef name params body [] none [] sc none name pos) ab) Q E s:=by
 have I:=S.inv IB;refine nestDef_K k9 zt ha ?_;refine aa hq ?_;refine qa I.bmain λbm ob b1 b2 b3 b4 b5 b6=>?_;have Pp:bm≠Zs:=λq=>by
  refine kf I.g λo es ep e hd Y=>?_;rw[q,e]at b3;cases b3;rw[hd]at b6;cases b6
 have vf:G.X t.2.1:=⟨t,kn,rfl⟩
 have zo:Zs≠t.2.1:=λq=>I.tabs.notX_ns I.g (q▸vf);have Pq:bm≠t.2.1:=λq=>I.tabs.notX_data b3 (λvs z=>by rw[b6]at z;cases z) (q▸vf);have hB:s.heap.BuiltinsAt G.mg t.2.1:=⟨bm,ob,b1,b2,Pp,Pq,b3,b4,b5,b6⟩
 have fin:∀(aY:jao) (tk:Tok) (bZ bF:Value) (c':Zi),GX G s φ {s with heap:=aY.push (jik name t.2.2.2 params body sc cg bF ((G.mg "__name__").getD .none) c' bZ),toks:=tk} φ->s.heap.objs.size<=aY.objs.size->aY.CodeRec (.ref c') t.2.2.2 ->
  Zd (Zf af wd) A (jdC ab name (.ref aY.objs.size)) (λY cO=>Q .next cO) E {s with heap:=aY.push (jik name t.2.2.2 params body sc cg bF ((G.mg "__name__").getD .none) c' bZ),toks:=tk}:=λaY tk bZ bF c' k be lc=>by
  have aM:=S.go k;refine bA (aM.er.celled name (by unfold Tb.celled;refine aa hk ?_;rfl)) λg7 dk e1 e2=>?_;rw[hc]at e1;cases e1;refine jiO hE.kind (hE.cel name hk) hc e2 λh' gN ej=>?_;have PN:aY.objs.size≠c:=λq=>by
   refine au e2 λo ho hd=>?_;have:=Z3 (o:=jik name t.2.2.2 params body sc cg bF ((G.mg "__name__").getD .none) c' bZ) aY rfl;rw[q]at this;rw[show({s with heap:=aY.push (jik name t.2.2.2 params body sc cg bF ((G.mg "__name__").getD .none) c' bZ),toks:=tk}:Y8).heap.get? c=_ from this]at ho;cases ho;cases hd
  have m4:h'.CodeRec (.ref c') t.2.2.2:=by
   refine qb lc λCF oc vs tt e3 e4 e5 e6=>?_;cases e3;refine⟨c',oc,vs,tt,rfl,ej.extBut c' oc (λq=>?_) (Zh _ e4),e5,e6⟩;refine au e2 λo ho hd=>?_;rw[<-q]at ho;rw[show({s with heap:=aY.push (jik name t.2.2.2 params body sc cg bF ((G.mg "__name__").getD .none) c' bZ),toks:=tk}:Y8).heap.get? c'=_ from Zh _ e4]at ho;cases ho;rw[e5]at hd;cases hd
  have br:=aM.cellSet hE hk hc hx e2 ej gN;exact hQ _ _ bZ bF _ c' br be (S.er.fresh _ be) (ej.extBut _ _ PN (Z3 aY rfl)) m4 gN
 rcases I.tabs t kn with hP|⟨g7,hP,sP⟩
 ·refine eF (makeFunction_K (mg:=G.mg) (P:=t.2.1) hcl hE.g I.g m4 (I.heads t kn) hP trivial rfl zo hB λc' bZ bF aY tk fe lY a0 lc Pf u=>?_);refine fin aY tk bZ bF c' ?_ ?_ lc
  ·have be:s.heap.objs.size<=aY.objs.size:=Y5 lY (ZO a0);have ED:aY.get? t.2.1=some (qj t c'):=by
    subst km;simpa using Pf
   refine⟨⟨⟨_,_,rfl,λb o hb e=>Zh _ (fe b o (λq=>hb (q▸vf)) e)⟩,u.size⟩,λY Y e=>e,⟨S.er.tk.fn,S.er.tk.pos,λt' x e=>bf (S.er.tk.lt t' x e) u.toks,bf S.er.tk.one u.toks⟩,λY=>⟨λt' eT=>?_,λd ⟨t',eT,e⟩=>?_⟩⟩
   ·by_cases q:t'.2.1=t.2.1
    ·have:=hu t' eT q;subst this;exact .inr ⟨c',Zh _ ED,lc.push _⟩
    ·rcases I.tabs t' eT with z|⟨d,z,d',o,vs,tt,z1,z2,z3⟩
     ·exact .inl (Zh _ (fe _ _ q z))
     ·cases z1;have cV:d≠t.2.1:=λr=>I.tabs.notX_code (q:=t'.2.2.2) ⟨d,o,vs,tt,rfl,z2,z3⟩ (r▸vf);exact .inr ⟨d,Zh _ (fe _ _ q z),d,o,vs,tt,rfl,Zh _ (fe _ _ cV z2),z3⟩
   ·by_cases q:t'.2.1=t.2.1
    ·have:=hu t' eT q;subst this;have e1:some (qj t' c')=some (qj t' d):=(Zh _ ED).symm.trans e;have:c'=d:=by
      have:=congrArg (λo:Option Obj=>o.map (·.data)) e1;simpa using this
     subst this;exact .inr lY
    ·refine .inl ⟨t',eT,?_⟩;rcases I.tabs t' eT with z|⟨d',z,_⟩
     ·have:=(Zh _ (fe _ _ q z)).symm.trans e;refine aa z ?_;refine rwj this ?_;rfl
     ·have:=(Zh _ (fe _ _ q z)).symm.trans e;refine aa z ?_;refine rwj this ?_;rfl
  ·exact Y5 lY (ZO a0)
 ·refine eF (makeFunction_hit (mg:=G.mg) (P:=t.2.1) (cv:=.ref g7) hcl hE.g I.g m4 (I.heads t kn) hP (by simp[TriplesOk,jem]) ?_ hB λbZ bF aY tk fe be u=>?_)
  ·subst km;simp[codeAmong,jem]
  ·refine fin aY tk bZ bF g7 (GX.same S.er.tk ⟨⟨_,_,rfl,λb o e=>Zh _ (fe b o e)⟩,u.size⟩ u.toks) be (sP.keeps fe)
end
def cB(n:Int)(ds:List Int):Int:=ds.foldr (λd acc=>d+acc*2^n.toNat) 0
theorem CH(n:Int):∀(as bs:List Int),cB n (as++bs)=cB n as+cB n bs*2^(n.toNat*as.length)
 | [],bs=>by simp[cB]
 |a::as,bs=>by
  have ih:=CH n as bs;unfold cB at ih ⊢;rw[jdl,jje,jje,ih,Zr,Int.add_mul,Int.add_assoc,Int.mul_assoc,<-Int.pow_add,jdP]
theorem CJ(hn:n.toNat<=64):∀(ds:List Int),(∀d∈ds,d.natAbs<2^64)->(cB n ds).natAbs<2^(65*(ds.length+1))
 | [],_=>by show(0:Int).natAbs<_;exact jaG _
 |d::ds,h=>by
  have ih:=CJ hn ds λx hx=>h x (ZB _ hx);have h1:=h d Zj;have e:cB n (d::ds)=d+cB n ds*2^n.toNat:=rfl;rw[e];have h2:(cB n ds*2^n.toNat).natAbs=(cB n ds).natAbs*2^n.toNat:=by
   rw[Int.natAbs_mul,Int.natAbs_pow];rfl
  have h3:(2:Nat)^n.toNat<=2^64:=Zp (by decide) hn;have h4:(cB n ds).natAbs*2^n.toNat<=2^(65*(ds.length+1))*2^64:=jbq (ZO ih) h3;have h5:(2:Nat)^(65*((d::ds).length+1))=2^(65*(ds.length+1))*2^64+2^(65*(ds.length+1))*2^64:=by
   rw[Zr,show 65*(ds.length+1+1)=65*(ds.length+1)+65 from rfl,jej,show(2:Nat)^65=2^64+2^64 by decide,jgc]
  have h6:(2:Nat)^64<=2^(65*(ds.length+1))*2^64:=Nat.le_mul_of_pos_left _ (jaG _);have:=Int.natAbs_add_le d (cB n ds*2^n.toNat);rw[h2]at this;rw[h5];exact Zy this (Nat.add_lt_add_of_lt_of_le (bf h1 h6) h4)
theorem ag(h:ρ[i]?=some (some v)):ev Φ σ ρ (.var i)=some v:=by rw[Dx,h]
theorem bK:ev Φ σ ρ (.c (.int i))=some (.int i):=rfl
theorem cK(h1:ev Φ σ ρ a=some x)(h2:ev Φ σ ρ b=some y)(h:j5 σ op x y=some c):ev Φ σ ρ (.cmp op a b)=some (.bool c):=by
 rewrite [Dz];refine aa h1 ?_;dsimp only;refine aa h2 ?_;simp only[h];rfl
theorem cb(h1:ev Φ σ ρ a=some x)(h2:ev Φ σ ρ b=some y)(h:dE σ op x y=some z):ev Φ σ ρ (.bin op a b)=some z:=by
 rewrite [Dy];refine aa h1 ?_;dsimp only;refine aa h2 ?_;exact h
theorem cT(h1:ev Φ σ ρ a=some x):bX Φ σ ρ (.cons a .nil)=some [x]:=by
 rw[mO,h1];rfl
theorem dL(h1:ev Φ σ ρ a=some x)(h2:ev Φ σ ρ b=some y):bX Φ σ ρ (.cons a (.cons b .nil))=some [x,y]:=by
 rw[mO,h1];dsimp only;rw[cT h2]
theorem gJ(h1:ev Φ σ ρ a=some x)(h2:ev Φ σ ρ b=some y)(h3:ev Φ σ ρ c=some z):bX Φ σ ρ (.cons a (.cons b (.cons c .nil)))=some [x,y,z]:=by
 rw[mO,h1];dsimp only;rw[dL h2 h3]
theorem mL(h1:ev Φ σ ρ a=some x)(h2:ev Φ σ ρ i=some y)(h:na σ x y=some z):ev Φ σ ρ (.idx a i)=some z:=by
 rewrite [Dw];refine aa h1 ?_;dsimp only;refine aa h2 ?_;exact h
def CG:List (Str×jbi):=[("L",.local),("R",.local),("mid",.local),("shift",.local),("digits",.free),("inner",.free),("n",.free)]
def j7:Tb:={names:=CG,vars:=[("L",0),("R",1),("mid",2),("shift",3),("digits",4),("n",5)],next:=6}
def rY(p:Nat->Pos):List Stmt :=
 [.If (.Compare (.BinOp (.Name "L" (p 0)) .Add (.Constant (.int 1) 0 (p 1)) (p 2)) [.Eq] [.Name "R" (p 3)] (p 4)) [.Return (some (.Subscript (.Name "digits" (p 5)) (.Name "L" (p 6)) (p 7))) (p 8)] [] (p 9),
  .Assign [.Name "mid" (p 10)] (.BinOp (.BinOp (.Name "L" (p 11)) .Add (.Name "R" (p 12)) (p 13)) .RShift (.Constant (.int 1) 0 (p 14)) (p 15)) (p 16),
  .Assign [.Name "shift" (p 17)] (.BinOp (.BinOp (.Name "mid" (p 18)) .Sub (.Name "L" (p 19)) (p 20)) .Mult (.Name "n" (p 21)) (p 22)) (p 23),
  .Return (some (.BinOp (.BinOp (.Call (.Name "inner" (p 24)) [.Name "mid" (p 25),.Name "R" (p 26)] [] (p 27)) .LShift (.Name "shift" (p 28)) (p 29)) .Add (.Call (.Name "inner" (p 30)) [.Name "L" (p 31),.Name "mid" (p 32)] [] (p 33)) (p 34))) (p 35)]
theorem Lm:jx j7:=tW (by decide +kernel)
section
theorem vX(h:a.natAbs<2^k):Zt a<=k:=by
 unfold Zt;split
 ·exact jbp _
 ·exact(jfd (Int.natAbs_ne_zero.mpr λe=>‹¬(a==0)=true› (beq_iff_eq.mpr e))).mpr h
def bD:cX:=λY Y=>none
theorem rJ(D:dQ A n)(hG:dD G)(hN:gE G):fT G A bD:=⟨D.handled,by have:=D.units;exact q8 this,hG,hN,λk vs r e=>nomatch e⟩
structure cj(G:GD) (s:Y8) (φ:Gh) (β:List Zi) (P:Zi->Prop) (f cD cN cI:Zi) (fd:jaC) (V:AV) (n:Int):Prop where
 fo:∃o,s.heap.get? f=some o/\o.data=.func fd
 fc:s.heap.CodeRec fd.code fd.qualname
 iD:∃v,s.heap.IsCell cD (some v)/\VR G.tok φ s.heap β P V v
 iN:∃t,s.heap.IsCell cN (some (.int n t))
 iI:s.heap.IsCell cI (some (.ref f))
structure kK(G:GD) (fd:jaC) (Ti:Tb) (body:List Stmt) (dn:Str) (cD cN cI:Zi):Prop where
 stmts:fd.body=.stmts body
 tb:o7 Ti fd.scope
 co:fd.scope.isCoroutine=false
 gen:fd.scope.isGenerator=false
 glob:fd.globals=Zs
 bi:fd.builtins=jai
 lN:fd.closure.lookup ("n":Str)=some cN
 lI:fd.closure.lookup ("inner":Str)=some cI
 lD:fd.closure.lookup dn=some cD
 all:∀{C:Str->Zi->Prop},C "n" cN->C "inner" cI->C dn cD->∀x c,fd.closure.lookup x=some c->C x c
 ne1:cN≠cI
 ne2:cN≠cD
 ne3:cI≠cD
 safe:eY G cD/\eY G cN/\eY G cI
 cell:Ti.celled "n" = true/\Ti.celled "inner" = true/\Ti.celled dn=true
 free:Ti.names.lookup ("n":Str)=some .free/\Ti.names.lookup ("inner":Str)=some .free/\Ti.names.lookup dn=some .free
 only:∀{C:Str->Prop},C "n" -> C "inner" -> C dn->∀x,Ti.names.lookup x=some .free->C x
theorem SR.calmObj{s:Y8}{o:Obj}(e:s.heap.get? b=some o)(h1:∀xs n,o.data≠.seq xs n)(h2:∀es ep,o.data≠.dict es ep)(r:OR tk φ s.heap β P u a):b≠a:=λq=>by
 cases r with
 |list r _=>refine aX r λn r=>?_;exact h1 _ _ (congrArg Obj.data (Y7 (e.symm.trans (q▸r))))
 |dict r _ _=>refine kX r λo' es ep r Y r2 Y=>?_;exact h2 _ _ ((congrArg Obj.data (Y7 (e.symm.trans (q▸r)))).trans r2)
theorem SR.calmShape{s:Y8}{o:Obj}(S:SR G sB aj ah ab T φ ρ σ β P m s)(e:s.heap.get? b=some o)(h1:∀xs n,o.data≠.seq xs n)(h2:∀es ep,o.data≠.dict es ep):∀j:Nat,β[j]?=some b->σ[j]?=some .gone:=λj hj=>by
 have hl:j<σ.length:=by refine rwj S.lenB ?_;exact(ZE.mp hj).1
 refine aa (Zg hl) ?_;by_cases hg:σ[j]=.gone
 ·refine aa hg ?_;rfl
 ·refine au (S.er.objs j _ (Zg hl) hg) λa e1 e2=>?_;exact absurd (Y7 (hj.symm.trans e1)) (SR.calmObj e h1 h2 e2)
theorem AJ{o:Obj}(hd:o.data=d)(h:∀xs n,d≠.seq xs n):∀xs n,o.data≠.seq xs n:=λxs n=>hd▸h xs n
theorem AI{o:Obj}(hd:o.data=d)(h:∀xs n,d≠.dict xs n):∀xs n,o.data≠.dict xs n:=λxs n=>hd▸h xs n
theorem cj.on{G:GD}{s s':Y8}(F:cj G s φ β P f cD cN cI fd V n)(hk:∀b o,s.heap.get? b=some o->(∀xs n,o.data≠.seq xs n)->(∀es ep,o.data≠.dict es ep)->¬G.X b->s'.heap.get? b=some o)(TB:bz G s.heap)(hv:∀v,VR G.tok φ s.heap β P V v->VR G.tok am s'.heap aH P' V v):cj G s' am aH P' f cD cN cI fd V n :=
 have cell:∀c v,s.heap.IsCell c v->s'.heap.IsCell c v:=λc v ⟨o,ho,hd⟩=>⟨o,hk c o ho (AJ hd λY Y=>nofun) (AI hd λY Y=>nofun) (TB.notX_cell ⟨o,ho,hd⟩),hd⟩
 { fo:=F.fo.elim λo qq=>bN qq λho hd=>aO o (hk f o ho (AJ hd λY Y=>nofun) (AI hd λY Y=>nofun) (TB.notX_data ho λY q=>nomatch hd.symm.trans q)) hd
   fc:=F.fc.elim λc r=>r.elim λo r=>r.elim λvs r=>r.elim λt r=>⟨c,o,vs,t,r.1,hk c o r.2.1 (AJ r.2.2.1 λY Y=>nofun) (AI r.2.2.1 λY Y=>nofun) (TB.notX_code (q:=fd.qualname) ⟨c,o,vs,t,rfl,r.2⟩),r.2.2⟩
   iD:=F.iD.elim λv r=>aO v (cell _ _ r.1) (hv v r.2)
   iN:=F.iN.elim λt r=>⟨t,cell _ _ r⟩
   iI:=cell _ _ F.iI}
theorem cj.go(F:cj G s φ β P f cD cN cI fd V n)(R:ER G φ ab T ρ σ β P m s)(k:GX G s φ s' am)(TB:bz G s.heap):cj G s' am β P f cD cN cI fd V n :=
 F.on (λb o e Y Y hX=>k.ext b o hX e) TB λv r=>R.vr k r
theorem cj.carry(F:cj G s φ β P f cD cN cI fd V n)(S:SR G sB aj ah ab T φ ρ σ β P m s)(hT:∀x,T.names.lookup x≠some .cell)(C:bu G ab T s φ σ β P s' am an aH P'):cj G s' am aH P' f cD cN cI fd V n :=
 F.on (λb o e h1 h2 hX=>C.keep b o ⟨λq=>by
  rcases q with rfl|⟨y,q,_⟩|q
  ·refine kf S.er.ns λo' es ep e' hd Y=>?_;exact h2 _ _ (Y7 (e.symm.trans e')▸hd)
  ·exact hT y q
  ·exact hX q,S.calmShape e h1 h2⟩ e) S.tabs.1 λv r=>S.carry C r
theorem cj.calm(F:cj G s φ β P f cD cN cI fd V n)(S:SR G sB aj ah ab T φ ρ σ β P m s)(C:bu G ab T s φ σ β P s' am an aH P')(hk:∀b o,lG G σ β b->s.heap.get? b=some o->s'.heap.get? b=some o):cj G s' am aH P' f cD cN cI fd V n :=
 F.on (λb o e h1 h2 hX=>hk b o ⟨S.calmShape e h1 h2,hX⟩ e) S.tabs.1 λv r=>S.carry C r
theorem kK.inj(F:kK G fd Ti body dn cD cN cI):∀x y c,fd.closure.lookup x=some c->fd.closure.lookup y=some c->x=y:=λx y c hx hy =>
 F.all (C:=λx c=>∀y,fd.closure.lookup y=some c->x=y)
  (λy hy=>F.all (C:=λy c=>cN=c -> "n" = y) (λY=>rfl) (λq=>absurd q F.ne1) (λq=>absurd q F.ne2) y _ hy rfl)
  (λy hy=>F.all (C:=λy c=>cI=c -> "inner" = y) (λq=>absurd q.symm F.ne1) (λY=>rfl) (λq=>absurd q F.ne3) y _ hy rfl)
  (λy hy=>F.all (C:=λy c=>cD=c->dn=y) (λq=>absurd q.symm F.ne2) (λq=>absurd q.symm F.ne3) (λY=>rfl) y _ hy rfl) x c hx y hy
def jw(A:ZZ)(ab:Env)(f cI:Zi):Prop:=∀(s:Y8) (Q:Value->Y8->Prop) (E:Value->Y8->Prop),s.heap.IsCell cI (some (.ref f))->Q (.ref f) s->Zd (Zf af wd) A (loadName ab "inner") Q E s
theorem RI{sB:Y8}{fd:jaC}(Fd:kK G fd Ti body dn cD cN cI)(IB:bh G sB.heap)(hP₀:∀a,sB.heap.objs.size<=a->ah a)(hO:fT G A bD){z:Zi}{qual:Str}{code:Value}:
 bb G A bD sB ah (jk fd.scope z fd.closure qual f code) Ti where
 hO:=hO
 hE:=Mj Fd.tb Fd.inj
 hT:=Fd.tb.tb
 IB:=IB
 hP₀:=hP₀
 hI:=by
  unfold jiW;refine aa (show(jk fd.scope z fd.closure qual f code).scope.kind=.function from Fd.tb.kind) ?_;rfl
 hcl:=Fd.all (C:=λx Y=>Ti.celled x=true) Fd.cell.1 Fd.cell.2.1 Fd.cell.2.2
theorem RJ{fd:jaC}(Fd:kK G fd Ti body dn cD cN cI){z:Zi}{qual:Str}{code:Value}:jw A (jk fd.scope z fd.closure qual f code) f cI:=λs Q E hc hQ =>
 jfH Fd.tb.kind ((congrArg (jeh ("inner":Str)) Fd.tb.names).symm.trans Fd.free.2.1) Fd.lI hc hQ (by decide)
def uq(G:GD)(sB:Y8)(aj:Gh)(ah:Zi->Prop)(ab:Env)(T:Tb)(φ:Gh)(ρ:aB)(σ:aA)(β:List Zi)(P:Zi->Prop)(m:Str->Option Value)(s:Y8)(an:aA)(K:Value->Prop)(v:Value)(aC:Y8):Prop :=
 ∃aV dm ck,SR G sB aj ah ab T aV ρ an dm ck m aC/\bu G ab T s φ σ β P aC aV an dm ck/\(∀b o,lG G σ β b->s.heap.get? b=some o->aC.heap.get? b=some o)/\K v
def uo(G:GD)(A:ZZ)(sB:Y8)(aj:Gh)(ah:Zi->Prop)(f cD cN cI:Zi)(fd:jaC)(V:AV)(n:Int)(σ an:aA)(as:List AV)(K:Value->Prop):Prop :=
 ∀ab T φ ρ β P m s xs,SR G sB aj ah ab T φ ρ σ β P m s->cj G s φ β P f cD cN cI fd V n->ar G.tok φ s.heap β P as xs ->
  Zd (Zf af wd) A (call (.ref f) xs) (uq G sB aj ah ab T φ ρ σ β P m s an K) ax s
def gT(G:GD)(sB:Y8)(aj:Gh)(ah:Zi->Prop)(ab:Env)(T:Tb)(f cD cN cI:Zi)(fd:jaC)(V:AV)(n:Int)(φ:Gh)(σ:aA)(β:List Zi)(P:Zi->Prop)(s:Y8)(av:aB)(an:aA)(Q:Y8->Prop):Prop :=
 ∀am aH P' m' s',SR G sB aj ah ab T am av an aH P' m' s'->cj G s' am aH P' f cD cN cI fd V n->bu G ab T s φ σ β P s' am an aH P'->Q s'
theorem gT.go(k:GX G s φ s' am)(h:gT G sB aj ah ab T f cD cN cI fd V n φ σ β P s av iv Q):gT G sB aj ah ab T f cD cN cI fd V n am σ β P s' av iv Q :=
 λay dc cC da ak S F C=>h ay dc cC da ak S F ((bu.go k).trans C)
theorem xD{lM:Expr}{args:List Expr}{as:List AV}{pa pe:Pos}{Q:Value->Y8->Prop}{K:Value->Prop}(cM:jaw (lM::args) ab=(false,jae lM ab)::jaw args ab)(FC:bb G A bD sB ah ab T)(L:jw A ab f cI)(jJ:bX bD σ ρ (bg T (lM::args))=some as)(H:uo G A sB aj ah f cD cN cI fd V n σ an as K)(S:SR G sB aj ah ab T φ ρ σ β P m s)(F:cj G s φ β P f cD cN cI fd V n)(hQ:∀v,K v->gT G sB aj ah ab T f cD cN cI fd V n φ σ β P s ρ an (Q v)):Zd (Zf af wd) A (jae (.Call (.Name ("inner":Str) pa) (lM::args) [] pe) ab) Q ax s:=by
 refine jaL (wpAny_Name (L _ _ _ F.iI ?_) (by decide));refine au F.fo λo ho hd=>?_;refine jft hd (((j9 FC.hE (λe Y=>cH FC.hO _ e (Y9 _)) jJ).2 pe).post (S.inv FC.IB) S.er λxs ak ay aw Y Y aF=>?_) cM;have aM:=S.go aw;have fU:=F.go S.er aw S.tabs.1;refine⟨aw.ext _ _ (S.tabs.1.notX_data ho λY q=>nomatch hd.symm.trans q) ho,up (H _ _ _ _ _ _ _ _ xs aM fU aF) λv aC cy=>?_⟩;refine kX cy λaV dm ck br cY kp hK=>?_;exact hQ v hK aV dm ck _ aC br (fU.calm aM cY kp) ((bu.go aw).trans cY)
theorem pr(FC:bb G A bD sB ah ab T)(hT:∀x,T.names.lookup x≠some .cell)(hx:T.own x=some i)(he:ev bD σ ρ (ao T e)=some v)(S:SR G sB aj ah ab T φ ρ σ β P m s)(F:cj G s φ β P f cD cN cI fd V n)(hQ:gT G sB aj ah ab T f cD cN cI fd V n φ σ β P s (ρ.set i (some v)) σ λs'=>Zd (Zf af wd) A (ZQ az ab) Q ax s'):Zd (Zf af wd) A (ZQ (.Assign [.Name x px] e pos::az) ab) Q ax s :=
 have c:gq bD ρ σ false (ao T e)=some (v,σ):=congrArg (jad (·,σ)) he
 ZD (up (HM FC hx (λq=>absurd q Z5) c s φ β P m S) λfw ak aY=>by
  obtain⟨rfl,ay,dc,cC,da,aM,bU⟩:=aY;exact hQ ay dc cC da ak aM (F.carry S hT bU) bU)
def wB(A:ZZ)(ab:Env)(az:List Stmt)(Q:jeH->Y8->Prop)(f:jeH)(s:Y8):Prop:=match f with
 | .next=>Zd (Zf af wd) A (ZQ az ab) Q ax s
 |f=>Q f s
theorem F1(FC:bb G A bD sB ah ab T)(he:ev bD σ ρ (ao T c)=some (.bool b))(S:SR G sB aj ah ab T φ ρ σ β P m s)(F:cj G s φ β P f cD cN cI fd V n)(h1:b=true->∀am s',GX G s φ s' am->SR G sB aj ah ab T am ρ σ β P m s'->cj G s' am β P f cD cN cI fd V n->Zd (Zf af wd) A (ZQ th ab) (wB A ab az Q) ax s')(h2:b=false->∀am s',GX G s φ s' am->SR G sB aj ah ab T am ρ σ β P m s'->cj G s' am β P f cD cN cI fd V n->Zd (Zf af wd) A (ZQ el ab) (wB A ab az Q) ax s'):
 Zd (Zf af wd) A (ZQ (.If c th el pos::az) ab) Q ax s :=
 ZD (jeP (((cH FC.hO _ c (Y9 _) _ _ _ _ FC.hE he).2 _ rfl).post (S.inv FC.IB) S.er λaC aV aP dJ bW=>by
  have br:=S.go aP;have gD:=F.go S.er aP S.tabs.1
  induction b using ZL with
  |true=>exact h1 rfl aV aC aP br gD
  |false=>exact h2 rfl aV aC aP br gD))
theorem t8(FC:bb G A bD sB ah ab T)(he:ev bD σ ρ (ao T e)=some v)(S:SR G sB aj ah ab T φ ρ σ β P m s)(F:cj G s φ β P f cD cN cI fd V n)(hQ:∀x am s',GX G s φ s' am->SR G sB aj ah ab T am ρ σ β P m s'->cj G s' am β P f cD cN cI fd V n->VR G.tok am s'.heap β P v x->Q x s'):Zd (Zf af wd) A (jae e ab) Q ax s :=
 (cH FC.hO _ e (Y9 _) _ _ _ _ FC.hE he).1.post (S.inv FC.IB) S.er λx ak ay aw Y Y aF=>hQ x ay ak aw (S.go aw) (F.go S.er aw S.tabs.1) aF
def kM(G:GD)(φ:Gh)(h:jao)(β:List Zi)(P:Zi->Prop)(Ti:Tb)(binds:List (Str×Value))(dn:Str)(V:AV)(n:Int)(x:Str)(v:AV):Prop :=
 (Ti.names.lookup x=some .local/\∃v',binds.reverse.lookup x=some v'/\VR G.tok φ h β P v v')\/(x=dn/\v=V)\/(x = "n" /\ v=.int n)
theorem kM.loc(e:(some (some u):Option (Option AV))=some (some v))(h1:Ti.names.lookup x=some .local)(h2:binds.reverse.lookup x=some v')(h3:VR G.tok φ h β P u v'):kM G φ h β P Ti binds dn V n x v :=
 xV (Q:=kM G φ h β P Ti binds dn V n x) e (.inl ⟨h1,v',h2,h3⟩)
theorem kM.dig(e:(some (some V):Option (Option AV))=some (some v)):kM G φ h β P Ti binds dn V n dn v:=xV (Q:=kM G φ h β P Ti binds dn V n dn) e (.inr (.inl ⟨rfl,rfl⟩))
theorem kM.num(e:(some (some (.int n)):Option (Option AV))=some (some v)):kM G φ h β P Ti binds dn V n "n" v:=xV (Q:=kM G φ h β P Ti binds dn V n "n") e (.inr (.inr ⟨rfl,rfl⟩))
theorem F7{av:aB}{s sB:Y8}{Ti:Tb}{xs:List Value}{binds:List (Str×Value)}{K:Value->Prop}{k:Nat}(Fd:kK G fd Ti body dn cD cN cI)(IB:bh G sB.heap)(hG:dD G)(hN:gE G)(hP₀:∀a,sB.heap.objs.size<=a->ah a)(D:dQ A (k+1))(S:SR G sB aj ah ab T φ ρ σ β P m s)(F:cj G s φ β P f cD cN cI fd V n)(jc:jbU fd ⟨xs,[]⟩=pure binds)(zf:∀x∈binds,Ti.names.lookup x.1=some .local)(aN:av.length=Ti.next)(hn:∀e∈Ti.vars,∀v,av[e.2]?=some (some v)->kM G φ s.heap β P Ti binds dn V n e.1 v)(l8:∀(A':ZZ) (eZ:Env) (s':Y8) (P':Zi->Prop) (m':Str->Option Value) (Q:jeH->Y8->Prop),dQ A' k->bb G A' bD sB ah eZ Ti->jw A' eZ f cI->SR G sB aj ah eZ Ti φ av σ β P' m' s'->cj G s' φ β P' f cD cN cI fd V n ->
 (∀fl eG,K (oe fl)->gT G sB aj ah eZ Ti f cD cN cI fd V n φ σ β P' s' eG an (Q fl))->Zd (Zf af wd) A' (ZQ body eZ) Q ax s'):
 Zd (Zf af wd) A (call (.ref f) xs) (uq G sB aj ah ab T φ ρ σ β P m s an K) ax s:=by
 refine au F.fo λo ho hd=>?_;have zC:fd.scope.names=Ti.names:=Fd.tb.names.symm;refine Tx (av:=av) (K:=λv Y Y Y Y=>K v) IB S Fd.tb ho hd F.fc Fd.stmts rfl Fd.glob Fd.bi rfl Fd.co Fd.gen (by have:=D.depth;exact q8 this) jc (by refine aa zC ?_;exact zf) aN (λx i v hx hv=>?_) (λx hx=>?_) (Fd.all (C:=λY c=>eY G c) Fd.safe.2.1 Fd.safe.2.2 Fd.safe.1) (λh' t da vp aM=>?_)
 ·refine aa zC ?_;rcases hn (x,i) (qY hx) v hv with⟨h1,v',h2,h3⟩|⟨rfl,rfl⟩|⟨rfl,rfl⟩
  ·exact aO v' h3 (.inl ⟨h1,h2⟩)
  ·refine au F.iD λvD d1 d2=>?_;exact aO vD d2 (.inr ⟨Fd.free.2.2,cD,Fd.lD,d1⟩)
  ·refine aX F.iN λtN n1=>?_;exact aO _ (.int _ tN) (.inr ⟨Fd.free.1,cN,Fd.lN,n1⟩)
 ·rw[zC]at hx;exact Fd.only (C:=λx=>∃c v,fd.closure.lookup x=some c/\s.heap.IsCell c v) (F.iN.elim λY n1=>cZ cN _ Fd.lN n1) ⟨cI,_,Fd.lI,F.iI⟩ (F.iD.elim λY d=>cZ cD _ Fd.lD d.1) x hx
 ·refine l8 _ _ _ _ da _ (D.deeper _) (RI Fd IB hP₀ (rJ (D.deeper _) hG hN)) (RJ Fd) aM (F.on (λb o e Y Y Y=>vp b o e) S.tabs.1 λv r=>r.mono (λY Y e=>e) (λa o p e=>⟨vp a o e,p,λq=>Z0.mpr q.1 (Zz e)⟩) (Zn _)) λfl eG hK aV dm ck dh aC br Y cY=>?_;exact F6 aV eG dm ck dh br cY hK
def xO(ds:List Int)(lo hi:Nat)(n:Int):aB:=[some (.int lo),some (.int hi),none,none,some (.lst (ds.map .int)),some (.int n)]
theorem Rs{ds:List Int}(h:k<ds.length)(hl:ds.length<=1000):na σ (.lst (ds.map .int)) (.int k)=some (.int ds[k]):=by
 have Fw:fO (k:Int) (ds.map AV.int).length=some k:=wl (by rw[Y4];exact h) (by rw[Y4];exact Y5 hl (by decide));refine(congrArg (λo=>Option.bind o λj=>(ds.map AV.int)[j]?) Fw).trans ?_;show(ds.map AV.int)[k]?=_;refine aa ZR ?_;refine aa (Zg h) ?_;rfl
theorem EL{x y:Nat}:dE σ .RShift (.int ((x:Int)+y)) (.int 1)=some (.int ((x+y)/2:Nat)):=by
 show some (AV.int (Int.fdiv ((x:Int)+y) 2))=_;refine aa (jas _ (by decide)) ?_;rfl
theorem GR(h:n.natAbs<2^64):dE σ .Mult (.int x) (.int n)=some (.int (x*n)):=by
 show(if small x||small n then _ else _)=_;rw[if_pos (by rw[show small n=true from decide_eq_true h,Bool.or_true])]
end
section
variable {A:ZZ}{ab:Env}{T:Tb}{ρ av:aB}{σ an iv:aA}{G:GD}{s s' cO:Y8}{φ am kE:Gh}{β aH ug:List Zi}{P P' rC ah:Zi->Prop}{m m':Str->Option Value}{tk:Zi}{h h':jao}
variable {sB:Y8}{aj:Gh}{f cD cN cI:Zi}{fd:jaC}{n:Int}{p:Nat->Pos}{ds:List Int}{lo hi bv:Nat}{sh:Int}
theorem G0{l:List (Str×jbi)}{x:Str}(h:l.all (λe=>e.2 != .cell)=true)(q:l.lookup x=some .cell):False:=bP (Y'.mp h _ (mem_of_lookup q))
theorem CL(x:Str):j7.names.lookup x≠some .cell:=λq=>G0 (by decide +kernel) q
theorem Lx{x y:Int}(h0:ρ[0]?=some (some (.int x)))(h1:ρ[1]?=some (some (.int y))):ev bD σ ρ (.cmp .Eq (.bin .Add (.var 0) (.c (.int 1))) (.var 1))=some (.bool (decide (x+1=y))):=
 cK (cb (ag h0) bK rfl) (ag h1) rfl
theorem Lo{x y:Nat}(h0:ρ[0]?=some (some (.int x)))(h1:ρ[1]?=some (some (.int y))):ev bD σ ρ (.bin .RShift (.bin .Add (.var 0) (.var 1)) (.c (.int 1)))=some (.int ((x+y)/2:Nat)):=
 cb (cb (ag h0) (ag h1) rfl) bK EL
theorem Lv{x y:Int}(hn:n.natAbs<2^64)(h0:ρ[0]?=some (some (.int x)))(h2:ρ[2]?=some (some (.int y)))(h5:ρ[5]?=some (some (.int n))):ev bD σ ρ (.bin .Mult (.bin .Sub (.var 2) (.var 0)) (.var 5))=some (.int ((y-x)*n)):=
 cb (cb (ag h2) (ag h0) rfl) (ag h5) (GR hn)
theorem Ly(dv:0<=n)(h1:lo<=bv)(h2:bv<=hi)(h3:hi<=ds.length):cB n ((ds.drop bv).take (hi-bv))*2^(((bv:Int)-lo)*n).toNat+cB n ((ds.drop lo).take (bv-lo))=cB n ((ds.drop lo).take (hi-lo)):=by
 have e:(((bv:Int)-lo)*n).toNat=n.toNat*((ds.drop lo).take (bv-lo)).length:=by
  rw[jbH,jbI,jeL (Nat.sub_le_sub_right (Y5 h2 h3) _),<-jdx h1,Int.toNat_mul (Zl _) dv,ZF,jaR]
 have hs:(ds.drop lo).take (hi-lo)=(ds.drop lo).take (bv-lo)++(ds.drop bv).take (hi-bv):=by
  rw[((jbn _ _).trans (jeF h2 h1)).symm,List.take_add,jjm,jcD h1]
 rw[hs,CH,e,Int.add_comm]
theorem Lu(hY:∀d∈ds,d.natAbs<2^64)(aN:ds.length<=1000)(dv:0<=n)(hn:n.toNat<=64)(h1:lo<=bv)(h2:bv<=hi)(h3:hi<=ds.length):
 Zt (cB n ((ds.drop bv).take (hi-bv)))<=65*1001/\((bv:Int)-lo)*n<=64000/\0<=((bv:Int)-lo)*n:=by
 refine cz (Y5 (vX (CJ hn _ λd hd=>hY d (jeU (jeT hd)))) (jfm _ (jja ?_))) ?_ (Int.mul_nonneg (jdy (jce.mpr h1)) dv)
 ·refine aa jbH ?_;refine aa jbI ?_;exact Y5 (Nat.min_le_right _ _) (Y5 (jfv _ _) aN)
 ·exact jfL (Int.mul_le_mul (jfL (Int.sub_le_self _ (Zl lo)) (mm (Y5 h2 (Y5 h3 aN)))) (Int.toNat_le.mp hn) dv (by decide)) (by decide)
def uj(G:GD)(A:ZZ)(sB:Y8)(aj:Gh)(ah:Zi->Prop)(f cD cN cI:Zi)(fd:jaC)(n:Int)(ds:List Int)(i j:Nat):Prop:=∀σ,uo G A sB aj ah f cD cN cI fd (.lst (ds.map .int)) n σ σ [.int i,.int j] λv=>∃t,v=.int (cB n ((ds.drop i).take (j-i))) t
theorem Lq{Q:jeH->Y8->Prop}{e:Expr}{pos:Pos}{az:List Stmt}(FC:bb G A bD sB ah ab T)(S:SR G sB aj ah ab T φ ρ σ β P m s)(F:cj G s φ β P f cD cN cI fd (.lst (ds.map .int)) n)
 (he:ao T e=.idx (.var 4) (.var 0)) (h0:ρ[0]?=some (some (.int lo))) (h4:ρ[4]?=some (some (.lst (ds.map .int)))) (sU:lo<ds.length) (aN:ds.length<=1000)
 (hQ:∀fl eG,(∃t,oe fl=.int (cB n ((ds.drop lo).take (lo+1-lo))) t)->gT G sB aj ah ab T f cD cN cI fd (.lst (ds.map .int)) n φ σ β P s eG σ (Q fl)):Zd (Zf af wd) A (ZQ [.Return (some e) pos] ab) (wB A ab az Q) ax s:=by
 refine ZD (jbB (t8 FC (v:=.int ds[lo]) (by refine aa he ?_;exact mL (ag h4) (ag h0) (Rs sU aN)) S F λx ay ak aw aM fU aF=>?_));refine hQ (.ret x) ρ (aF.e_int λt=>⟨t,?_⟩) _ _ _ _ _ aM fU (.go aw);have:(ds.drop lo).take (lo+1-lo)=[ds[lo]]:=by refine aa (jaU _ _) ?_;refine aa (jcA sU) ?_;rfl
 refine aa this ?_;show Value.int ds[lo] t=.int (ds[lo]+0*2^n.toNat) t;refine aa (Int.zero_mul _) ?_;refine aa (Int.add_zero _) ?_;rfl
def wQ(G:GD)(A:ZZ)(sB:Y8)(aj:Gh)(ah:Zi->Prop)(ab:Env)(T:Tb)(f cD cN cI:Zi)(fd:jaC)(n:Int)(ds:List Int)(ρ:aB)(σ:aA)(c:Expr)(a:Int):Prop:=∀φ β P m s (Q:Value->Y8->Prop),SR G sB aj ah ab T φ ρ σ β P m s->cj G s φ β P f cD cN cI fd (.lst (ds.map .int)) n->(∀t,gT G sB aj ah ab T f cD cN cI fd (.lst (ds.map .int)) n φ σ β P s ρ σ (Q (.int a t)))->Zd (Zf af wd) A (jae c ab) Q ax s
theorem Lw{Q:Value->Y8->Prop}{c1 c2 e:Expr}{p1 p2:Pos}{a b:Int}(FC:bb G A bD sB ah ab T)(S:SR G sB aj ah ab T φ ρ σ β P m s)(F:cj G s φ β P f cD cN cI fd (.lst (ds.map .int)) n)
 (zN:ev bD σ ρ (ao T e)=some (.int sh)) (zJ:0<=sh) (zK:sh<=64000) (hb:Zt a<=65*1001) (h1:wQ G A sB aj ah ab T f cD cN cI fd n ds ρ σ c1 a) (h2:wQ G A sB aj ah ab T f cD cN cI fd n ds ρ σ c2 b)
 (hQ:∀t,gT G sB aj ah ab T f cD cN cI fd (.lst (ds.map .int)) n φ σ β P s ρ σ (Q (.int (a*2^sh.toNat+b) t))):Zd (Zf af wd) A (jae (.BinOp (.BinOp c1 .LShift e p1) .Add c2 p2) ab) Q ax s:=by
 refine jcV (jcV (h1 _ _ _ _ _ _ S F λt ay dc cC da ak aM fU bU=>t8 FC zN aM fU λx aV aC aP br gD bH=>bH.e_int λt'=>lshift_int zJ (by lia) ?_));have cn:GX G aC aV {aC with toks:=aC.toks+1} aV:=.same br.er.tk bE.tok (Z2 _);refine h2 _ _ _ _ _ _ (br.go cn) (gD.go br.er cn br.tabs.1) λYR mq BH wY jR eE gl rn jY=>add_int ?_;have qz:GX G eE mq {eE with toks:=eE.toks+1} mq:=.same gl.er.tk bE.tok (Z2 _);exact hQ _ _ _ _ _ _ (gl.go qz) (rn.go gl.er qz gl.tabs.1) (bU.trans ((bu.go (aP.trans cn)).trans (jY.trans (.go qz))))
theorem CK{i j:Nat}{x y:Str}{pa pb pc pd:Pos}(FC:bb G A bD sB ah ab T)(L:jw A ab f cI)(H:uj G A sB aj ah f cD cN cI fd n ds i j)(hx:ev bD σ ρ (ao T (.Name x pb))=some (.int i))(hy:ev bD σ ρ (ao T (.Name y pc))=some (.int j)):
 wQ G A sB aj ah ab T f cD cN cI fd n ds ρ σ (.Call (.Name ("inner":Str) pa) [.Name x pb,.Name y pc] [] pd) (cB n ((ds.drop i).take (j-i))):=λφ β P m s Q S F hQ =>
 xD rfl FC L (dL hx hy) (H σ) S F λv qq=>aX qq λt e=>e▸hQ t
theorem BX{n:Int}(h0:0<=n)(h:n.toNat<=64):n.natAbs<2^64:=by lia
theorem EM{lo hi:Nat}(e:lo+1<hi):lo<(lo+hi)/2/\(lo+hi)/2<hi/\2*(hi-(lo+hi)/2)<=hi-lo+1/\2*((lo+hi)/2-lo)<=hi-lo+1:=by
 obtain⟨n,rfl⟩:=Nat.exists_eq_add_of_le (ZO (jiG e));have e2:(lo+(lo+n))/2=lo+n/2:=by rw[<-jhh,<-Nat.two_mul,Nat.mul_add_div (by decide)]
 rw[e2,Nat.add_sub_add_left,jaU,jaU];have h1:2*(n/2)<=n:=jjr n 2;have h2:n<2*(n/2+1):=jid n (by decide);have h3:1<n:=Nat.lt_of_add_lt_add_left e;generalize n/2=q at h1 h2 ⊢;exact li (jhk (by lia)) (jie (by lia) lo) (by lia) (jel h1)
theorem CI{Q:jeH->Y8->Prop}(FC:bb G A bD sB ah ab j7)(L:jw A ab f cI)(S:SR G sB aj ah ab j7 φ (xO ds lo hi n) σ β P m s)(F:cj G s φ β P f cD cN cI fd (.lst (ds.map .int)) n)
 (hY:∀d∈ds,d.natAbs<2^64) (aN:ds.length<=1000) (dv:0<=n) (hn:n.toNat<=64) (Ff:lo<hi) (jf:hi<=ds.length) (ih:lo+1<hi->∀i j,i<j->j<=ds.length->2*(j-i)<=hi-lo+1->uj G A sB aj ah f cD cN cI fd n ds i j)
 (hQ:∀fl eG,(∃t,oe fl=.int (cB n ((ds.drop lo).take (hi-lo))) t)->gT G sB aj ah ab j7 f cD cN cI fd (.lst (ds.map .int)) n φ σ β P s eG σ (Q fl)):Zd (Zf af wd) A (ZQ (rY p) ab) Q ax s:=by
 refine F1 FC (Lx (x:=lo) (y:=hi) rfl rfl) S F (λhb ay ak aw aM fU=>?_) (λhb ay ak aw aM fU=>jbh ?_)
 ·have e:hi=lo+1:=by have:=of_decide_eq_true hb;lia
  subst e;exact Lq FC aM fU rfl rfl rfl jf aN λfl eG hv=>(hQ fl eG hv).go aw
 ·have e:lo+1<hi:=by have:=of_decide_eq_false hb;lia
  have ih:=ih e;clear hb;refine pZ (EM e) λh1 h2 h3 h4=>?_;have hm:=Lo (σ:=σ) (ρ:=xO ds lo hi n) (x:=lo) (y:=hi) rfl rfl;generalize(lo+hi)/2=bv at *;refine pr FC CL (i:=2) rfl hm aM fU λaV dm ck dh aC br gD cY=>?_;refine pr FC CL (i:=3) rfl (Lv (x:=lo) (y:=bv) (BX dv hn) rfl rfl rfl) br gD λeU o0 o9 ky dj ey rm dp=>?_;refine fY (Lu hY aN dv hn (ZO h1) (ZO h2) jf) λb1 b2 b3=>?_;refine ZD (jbB (Lw FC ey rm (ag rfl) b3 b2 b1 (CK FC L (ih bv hi h2 jf h3) (ag rfl) (ag rfl)) (CK FC L (ih lo bv h1 (Y5 (ZO h2) jf) h4) (ag rfl) (ag rfl)) λt mq BH wY jR eE gl rn jY=>?_));rw[Ly dv (ZO h1) (ZO h2) jf]at *;exact hQ (.ret _) _ ⟨t,rfl⟩ _ _ _ _ _ gl rn ((bu.go aw).trans (cY.trans (dp.trans jY)))
theorem CM{x y:Value}{K:Value->Prop}{k:Nat}(Fd:kK G fd j7 (rY p) "digits" cD cN cI) (jc:∀x y:Value,jbU fd ⟨[x,y],[]⟩=pure [(("L":Str),x),(("R":Str),y)]) (IB:bh G sB.heap) (hG:dD G) (hN:gE G) (hP₀:∀a,sB.heap.objs.size<=a->ah a) (D:dQ A (k+1))
 (S:SR G sB aj ah ab T φ ρ σ β P m s) (F:cj G s φ β P f cD cN cI fd (.lst (ds.map .int)) n) (rx:VR G.tok φ s.heap β P (.int lo) x) (ry:VR G.tok φ s.heap β P (.int hi) y)
 (l8:∀(A':ZZ) (eZ:Env) (s':Y8) (P':Zi->Prop) (m':Str->Option Value) (Q:jeH->Y8->Prop),dQ A' k->bb G A' bD sB ah eZ j7->jw A' eZ f cI->SR G sB aj ah eZ j7 φ (xO ds lo hi n) σ β P' m' s'->cj G s' φ β P' f cD cN cI fd (.lst (ds.map .int)) n ->
  (∀fl eG,K (oe fl)->gT G sB aj ah eZ j7 f cD cN cI fd (.lst (ds.map .int)) n φ σ β P' s' eG σ (Q fl))->Zd (Zf af wd) A' (ZQ (rY p) eZ) Q ax s'):
 Zd (Zf af wd) A (call (.ref f) [x,y]) (uq G sB aj ah ab T φ ρ σ β P m s σ K) ax s :=
 F7 Fd IB hG hN hP₀ D S F (jc x y) (aS rfl (aS rfl jA)) rfl
  (aS (λv e=>.loc e rfl rfl rx) (aS (λv e=>.loc e rfl rfl ry) (aS (λv e=>nr e) (aS (λv e=>nr e) (aS (λv e=>.dig e) (aS (λv e=>.num e) jA)))))) l8
theorem Ln(Fd:kK G fd j7 (rY p) "digits" cD cN cI) (jc:∀x y:Value,jbU fd ⟨[x,y],[]⟩=pure [(("L":Str),x),(("R":Str),y)]) (IB:bh G sB.heap) (hG:dD G) (hN:gE G) (hP₀:∀a,sB.heap.objs.size<=a->ah a) (hY:∀d∈ds,d.natAbs<2^64) (aN:ds.length<=1000) (dv:0<=n) (hn:n.toNat<=64):
 ∀(k:Nat) (A:ZZ),dQ A (k+1)->∀(lo hi:Nat),lo<hi->hi<=ds.length->hi-lo<=2^k->uj G A sB aj ah f cD cN cI fd n ds lo hi:=by
 intro k
 induction k with
 |zero =>
  intro A D lo hi h1 h2 h3 σ ab T φ ρ β P m s xs S F r;refine r.e2 λx y rx ry=>?_;exact CM Fd jc IB hG hN hP₀ D S F rx ry λA' eZ s' P' m' Q D' FC L S' F' hQ=>CI FC L S' F' hY aN dv hn h1 h2 (λq=>absurd h3 (by lia)) hQ
 |succ k ih =>
  intro A D lo hi h1 h2 h3 σ ab T φ ρ β P m s xs S F r;refine r.e2 λx y rx ry=>?_;exact CM Fd jc IB hG hN hP₀ D S F rx ry λA' eZ s' P' m' Q D' FC L S' F' hQ=>CI FC L S' F' hY aN dv hn h1 h2 (λY i j q1 q2 q3=>ih A' D' i j q1 q2 (by rw[jdb]at h3;lia)) hQ
end
def wk(x y:Str)(p q:Pos):jbr:=⟨[],[⟨x,none,p⟩,⟨y,none,q⟩],none,[],[],none,[]⟩
def xP:jaF:={kind:=.function,names:=CG,isGenerator:=false,isCoroutine:=false}
def rZ:jaF:={kind:=.function,names:=[("digits",.cell),("n",.cell),("inner",.cell),("len",.globalImplicit)],isGenerator:=false,isCoroutine:=false}
def xN(p q:Nat->Pos):List Stmt :=
 [.FunctionDef "inner" (wk "L" "R" (q 40) (q 41)) (rY q) [] none [] xP none "inner" (q 42),
  .Return (some (.IfExp (.Name "digits" (p 0)) (.Call (.Name "inner" (p 1)) [.Constant (.int 0) 0 (p 2),.Call (.Name "len" (p 3)) [.Name "digits" (p 4)] [] (p 5)] [] (p 6)) (.Constant (.int 0) 0 (p 7)) (p 8))) (p 9)]
def qM(l:List (Nat×Nat×Nat×Nat))(i:Nat):Pos:=match l[i]? with
 |some (a,b,c,d)=>⟨a,b,c,d⟩
 |none=>⟨0,0,0,0⟩
theorem JS :
 jbU (fnX "inner" qual (wk "L" "R" p q) body sc cg .none .none bF pm none cv bZ) ⟨[u,v],[]⟩=pure [(("L":Str),u),(("R":Str),v)]:=by rfl
def r0:Tb:=dy ["digits","n"] rZ
theorem Lk:r0.var "inner" = some 2:=by rfl
section
structure uu(G:GD) (fd:jaC) (ps:List Str) (body:List Stmt) (t:Zi×Zi×Pos×Str) (pos:Pos):Prop where
 ok:eu fd ⟨ps.length,(dy ps fd.scope).next,et (dy ps fd.scope) [] body⟩ ps body []
 tm:t∈G.tabs
 tu:∀t'∈G.tabs,t'.2.1=t.2.1->t'=t
 code:fd.code=.ref t.1
 pos:t.2.2.1=pos
 qual:(fd.qualname++(".<locals>.":Str))++("inner":Str)=t.2.2.2
theorem KW(h:l.all (λe=>e.2==.local)=true):dr ab (l++r) acc=dr ab r acc:=by
 induction l with
 |nil=>rfl
 |cons e l ih =>
  obtain⟨x,k⟩:=e;refine cu h λh1 h2=>?_;have:k=.local:=eq_of_beq h1;subst this;exact ih h2
theorem K2{ab:Env}{sc:jaF}{l:List (Str×jbi)}{dn:Str}{cD cN cI:Zi}(hs:sc.names=l++[(dn,.free),("inner",.free),("n",.free)]) (hl:l.all (λe=>e.2==.local)=true) (hD:ab.cells.lookup dn=some cD) (hI:ab.cells.lookup ("inner":Str)=some cI) (hN:ab.cells.lookup ("n":Str)=some cN):
 jda sc ab=pure [(("n":Str),cN),(("inner":Str),cI),(dn,cD)]:=by
 rw[Cu (sc:=sc) (ab:=ab) λy hy=>?_,hs,KW hl]
 ·show pure [(("n":Str),(ab.cells.lookup ("n":Str)).getD 0),(("inner":Str),(ab.cells.lookup ("inner":Str)).getD 0),(dn,(ab.cells.lookup dn).getD 0)]=_;refine aa hN ?_;refine aa hI ?_;refine aa hD ?_;rfl
 ·rw[hs]at hy;rcases ZI.mp hy with q|q
  ·exact bP (Y'.mp hl _ q)
  ·exact aS (C:=λe=>∃c,ab.cells.lookup e.1=some c) ⟨cD,hD⟩ (aS ⟨cI,hI⟩ (aS ⟨cN,hN⟩ jA)) _ q
theorem xF(S:SR G sB aj ah ab To φ ρ σ β P m s)(hy:To.names.lookup y=some .cell):∃c,ab.cells.lookup y=some c:=(S.er.celled y (by unfold Tb.celled;refine aa hy ?_;rfl)).elim λc e=>⟨c,e.elim λY r=>r.1⟩
theorem Cr(S:SR G sB aj ah ab To φ ρ σ β P m s)(hE:bQ ab To)(hy:To.names.lookup y=some .cell)(hc:ab.cells.lookup y=some c)(hv:To.var y=some i)(hr:ρ[i]?=some (some v)):∃v',s.heap.IsCell c (some v')/\VR G.tok φ s.heap β P v v':=by
 refine au (S.er.names y i v hv hr) λv' rv nm=>?_;rcases nm with⟨k,_⟩|⟨c',e1,_,e2⟩
 ·exact nomatch k.symm.trans (hE.cel y hy)
 ·exact aO v' (Y7 (e1.symm.trans hc)▸e2) rv
structure rB(To Ti:Tb) (dn:Str) (sc:jaF) (l:List (Str×jbi)) (iN iD:Nat):Prop where
 hs:sc.names=l++[(dn,.free),("inner",.free),("n",.free)]
 hl:l.all (λe=>e.2==.local)=true
 tb:o7 Ti sc
 co:sc.isCoroutine=false
 gen:sc.isGenerator=false
 cell:Ti.celled "n" = true/\Ti.celled "inner" = true/\Ti.celled dn=true
 free:Ti.names.lookup ("n":Str)=some .free/\Ti.names.lookup ("inner":Str)=some .free/\Ti.names.lookup dn=some .free
 kI:To.names.lookup ("inner":Str)=some .cell
 kN:To.names.lookup ("n":Str)=some .cell
 kD:To.names.lookup dn=some .cell
 vN:To.var "n" = some iN
 vD:To.var dn=some iD
 ne:("n":Str)≠dn/\("inner":Str)≠dn
 look:∀a b c:Zi,jeh dn [(("n":Str),a),(("inner":Str),b),(dn,c)]=some c
theorem rB.only{Ti:Tb}(O:rB To Ti dn sc l iN iD){C:Str->Prop}(h1:C "n") (h2:C "inner") (h3:C dn) (x:Str) (hx:Ti.names.lookup x=some .free):C x:=by
 have q:=mem_of_lookup hx;rw[O.tb.names,O.hs]at q;rcases ZI.mp q with q|q
 ·exact bP (Y'.mp O.hl _ q)
 ·exact aS (C:=λe=>C e.1) h3 (aS h2 (aS h1 jA)) _ q
theorem Hc{ab:Env}{G:GD}{To:Tb}{params:jbr}(O:rB To Ti dn sc l iN iD)(FC:bb G A bD sB ah ab To)(S:SR G sB aj ah ab To φ ρ σ β P m s)(kn:t∈G.tabs)(zR:∀t'∈G.tabs,t'.2.1=t.2.1->t'=t)(m4:ab.code=.ref t.1)(hq:jen ab "inner" "inner" = t.2.2.2) (km:t.2.2.1=pos) (Qt:params.defaults=[]) (zG:params.kw_defaults=[]) (Fu:jhr params none ab=[]) (vI:∀i v,To.var "inner" = some i->ρ[i]?=some (some v)->False) (rN:ρ[iN]?=some (some (.int n))) (rD:ρ[iD]?=some (some V)) (hQ:∀i9 f s' cD cN cI,(∃cg bF pm c' bZ,i9=fnX "inner" t.2.2.2 params bi sc cg .none .none bF pm none (.ref c') bZ)->kK G i9 Ti bi dn cD cN cI->jw A ab f cI->SR G sB aj ah ab To φ ρ σ β P m s'->cj G s' φ β P f cD cN cI i9 V n->Q .next s'):
 Zd (Zf af wd) A (Z4 (.FunctionDef "inner" params bi [] none [] sc none "inner" pos) ab) Q ax s:=by
 refine aX (xF S O.kD) λcD hD=>?_;refine aX (xF S O.kN) λcN hN=>?_;refine aX (xF S O.kI) λcI hI=>?_;refine LG (t:=t) (c:=cI) FC.IB S FC.hE kn zR m4 km hq Qt zG Fu (K2 O.hs O.hl hD hI hN) O.kI hI vI λf aC bZ bF pm c' br Ys Ym PR sP Pt=>?_;have sf:∀{y:Str}{c:Zi},ab.cells.lookup y=some c->eY G c:=λhc=>S.er.bsafe _ (.inr (.inr ⟨_,hc⟩));refine hQ _ f aC cD cN cI ⟨_,bF,pm,c',bZ,rfl⟩ {
  stmts:=rfl
  tb:=O.tb
  co:=O.co
  gen:=O.gen
  glob:=rfl
  bi:=rfl
  lN:=rfl
  lI:=rfl
  lD:=O.look cN cI cD
  all:=λ{C} h1 h2 h3 x c h=>aS (C:=λe=>C e.1 e.2) h1 (aS h2 (aS h3 jA)) (x,c) (mem_of_lookup h)
  ne1:=λz=>absurd (FC.hE.inj "n" "inner" cN hN (z▸hI)) (by decide)
  ne2:=λz=>O.ne.1 (FC.hE.inj "n" dn cN hN (z▸hD))
  ne3:=λz=>O.ne.2 (FC.hE.inj "inner" dn cI hI (z▸hD))
  safe:=cz (sf hD) (sf hN) (sf hI)
  cell:=O.cell
  free:=O.free
  only:=O.only} (λs Q E hc hQ=>jfI FC.hE.kind (FC.hE.cel _ O.kI) hI hc hQ) br {
  fo:=aO _ PR rfl
  fc:=sP
  iD:=Cr br FC.hE O.kD hD O.vD rD
  iN:=(Cr br FC.hE O.kN hN O.vN rN).elim λv' e=>e.2.inv.elim λt q=>⟨t,q▸e.1⟩
  iI:=Pt}
theorem Lr:rB r0 j7 "digits" xP [("L",.local),("R",.local),("mid",.local),("shift",.local)] 1 0 where
 hs:=rfl
 hl:=by decide +kernel
 tb:=⟨rfl,λx hx q=>absurd (Y'.mp (by decide +kernel:xP.names.all (λe=>e.2 != .cell)=true) x hx) (by refine aa q ?_;decide),rfl,Lm⟩
 co:=rfl
 gen:=rfl
 cell:=cz rfl rfl rfl
 free:=cz rfl rfl rfl
 kI:=rfl
 kN:=rfl
 kD:=rfl
 vN:=rfl
 vD:=rfl
 ne:=by decide
 look:=λY Y Y=>rfl
theorem XC{ds:List Int}{xs:List Value}(r:ar tk φ h β P (ds.map .int) xs):(!xs.toArray.isEmpty)=!ds.isEmpty:=by
 induction ds using Y6 with
 |nil=>refine aa r.unnil ?_;rfl
 |cons d ds=>refine bA r.uncons λy ys e Y=>?_;refine aa e ?_;rfl
theorem Ss{ds:List Int}(h0:ρ[i]?=some (some (.lst (ds.map .int))))(hl:ds.length<=1000):ev bD σ ρ (.call .len (.cons (.var i) .nil))=some (.int ds.length):=by
 rewrite [kW];refine aa (cT (ag h0)) ?_;show(if(ds.map AV.int).length<=100000 then some (AV.int ((ds.map AV.int).length:Nat))else none)=_;refine aa (Y4 _) ?_;refine aa (if_pos (Y5 hl (by decide))) ?_;rfl
theorem Ls{A:ZZ}{ab:Env}{G:GD}{s:Y8}{φ:Gh}{P ah:Zi->Prop}{m:Str->Option Value}{sB:Y8}{aj:Gh}{p:Nat->Pos}{ds:List Int}{n:Int}{f cD cN cI:Zi}{i9:jaC}(FC:bb G A bD sB ah ab r0)(L:jw A ab f cI)(S:SR G sB aj ah ab r0 φ [some (.lst (ds.map .int)),some (.int n),none] [] [] P m s)(F:cj G s φ [] P f cD cN cI i9 (.lst (ds.map .int)) n)(aN:ds.length<=1000)(H:0<ds.length->uj G A sB aj ah f cD cN cI i9 n ds 0 ds.length):
 Zd (Zf af wd) A (jae (.IfExp (.Name "digits" (p 0)) (.Call (.Name "inner" (p 1)) [.Constant (.int 0) 0 (p 2),.Call (.Name "len" (p 3)) [.Name "digits" (p 4)] [] (p 5)] [] (p 6)) (.Constant (.int 0) 0 (p 7)) (p 8)) ab) (λx s'=>∃am,GX G sB aj s' am/\VR G.tok am s'.heap [] ah (.int (cB n ds)) x) ax s:=by
 refine PyProof.Rows.IfExp_ (jfs (t8 FC (v:=.lst (ds.map .int)) rfl S F λx ay ak aw aM fU aF=>aF.e_lst λl xs hl pl rl=>?_) rfl);refine wpAny_truthy_list hl.isList (by refine aa Zo ?_;refine rwj rl.length ?_;refine aa (Y4 _) ?_;exact re aN rfl) ?_;refine aa (XC rl) ?_;have aP:GX G ak ay {ak with toks:=ak.toks+1+1} ay:=.same aw.tk bE.tok (ZH _ 2);have br:=aM.go aP;have gD:=fU.go aM.er aP aM.tabs.1
 induction hb:ds.isEmpty using ZL with
 |true =>
  refine(if_neg (by decide)).mpr (t8 FC (v:=.int 0) rfl br gD λx eU dj cn ey rm jn=>?_);refine aa (jdk.mp hb) ?_;exact aO eU ey.done (jn.scalar rfl λY Y e=>e)
 |false =>
  refine(if_pos rfl).mpr (xD (K:=λv=>∃t,v=.int (cB n ((ds.drop 0).take (ds.length-0))) t) rfl FC L (as:=[.int 0,.int ds.length]) (dL bK (Ss rfl aN)) (H (jfj.mpr λe=>by rw[e]at hb;cases hb) []) br gD λv qq eU o0 o9 ky dj ey rm dp=>aX qq λt e=>?_);rw[List.drop_zero,jhu,jfR]at e;refine aa e ?_;exact aO eU ey.done (.int _ _)
theorem Lp{A:ZZ}{G:GD}{p q:Nat->Pos}{ds:List Int}{n:Int}{fd:jaC}{t:Zi×Zi×Pos×Str}{x:Str}{k:Nat}(O:uu G fd ["digits","n"] (xN p q) t (q 42)) (fJ:fd.scope=rZ) (hk:G.fns k=some (x,fd)) (hG:dD G) (hN:gE G) (D:dQ A 13) (hY:∀d∈ds,d.natAbs<2^64) (aN:ds.length<=1000) (dv:0<=n) (hn:n.toNat<=64) {a:Zi} (ha:G.mg x=some (.ref a)):kF G A (.ref a) [.lst (ds.map .int),.int n] (.int (cB n ds)):=by
 have hT:dy ["digits","n"] fd.scope=r0:=by refine aa fJ ?_;rfl
 refine sA (Φ:=bD) O.ok hk (by have:=D.depth;exact q8 this) (λab=>rJ (D.deeper ab) hG hN) rfl (λL fa s φ P P' m ak FC S=>?_) ha;rw[hT]at FC S;refine ZD (Hc Lr FC S O.tm O.tu O.code ?_ O.pos rfl rfl rfl (λi v hi hv=>?_) rfl rfl λi9 f s' cD cN cI ou Fd Ld br gD=>?_)
 ·unfold jen;refine aa (show(jbg fd L fa).kindOf ("inner":Str)=rZ.names.lookup ("inner":Str)from congrArg (λsc:jaF=>sc.names.lookup ("inner":Str)) fJ) ?_;refine aa (if_neg (by decide)) ?_;exact O.qual
 ·cases Lk.symm.trans hi;exact nr hv
 ·refine ZD (jbB (up (Ls FC Ld br gD aN λkm=>Ln Fd (λx y=>?_) FC.IB hG hN FC.hP₀ hY aN dv hn 10 _ ((D.deeper _).le (by decide)) 0 ds.length km (Y9 _) (Y5 aN (by decide))) λx dj r=>⟨x,rfl,r⟩));refine uY ou ?_;rintro cg bF pm c' bZ rfl;exact JS
end
def dg(n:Nat):Nat->Nat->List Int
 |0,_=>[]
 |k+1,a=>((a%2^n:Nat):Int)::dg n k (a/2^n)
theorem CW:dg n 0 x=[]:=rfl
theorem nT:dg n (k+1) x=↑(x%2^n)::dg n k (x/2^n):=rfl
theorem r9(n:Nat):∀k a,(dg n k a).length=k
 |0,_=>rfl
 |k+1,a=>by rw[nT,Zr,r9 n k]
theorem CT(n:Nat):∀j a m,j<=m->dg n j (a%2^(n*m))=dg n j a
 |0,_,_,_=>rfl
 |j+1,a,m,h=>by
  obtain⟨m',rfl⟩:∃m',m=m'+1:=⟨m-1,by lia⟩
  rw[nT,nT,jdP,jbn (n*m') n,jej];rw[Nat.mod_mul_right_mod,Nat.mod_mul_right_div_self,CT n j (a/2^n) m' (jba h)]
theorem CS(n:Nat):∀j k a,dg n (j+k) a=dg n j a++dg n k (a/2^(n*j))
 |0,k,a=>by simp[CW]
 |j+1,k,a=>by
  rw[show j+1+k=(j+k)+1 from jfp (jcP j k 1),nT,nT,CS n j k,jdl,Nat.div_div_eq_div_mul,<-jej,jdP,jbn n]
theorem LM(n:Nat)(j k a:Nat):dg n (j+k) a=dg n j (a%2^(n*j))++dg n k (a/2^(n*j)):=by
 rw[CS,CT n j a j (Y9 _)]
theorem Jm(x k:Nat):x &&& (x/2^k*2^k)=x/2^k*2^k:=by
 apply jfe;intro i;rw[jeJ,Nat.testBit_mul_two_pow];by_cases h:k<=i
 ·refine aa (Nat.testBit_div_two_pow _ _) ?_;refine aa (show i-k+k=i by simp[*]) ?_;cases x.testBit i<;>simp[h]
 ·simp[h]
theorem XT(x k:Nat):jfZ (x:Int) ((x/2^k:Nat)*2^k)=((x%2^k:Nat):Int):=by
 have e:(((x/2^k:Nat):Int)*2^k)=((x/2^k*2^k:Nat):Int):=by
  refine aa (jbf _ _) ?_;refine aa (jbR _ _) ?_;rfl
 refine aa e ?_;refine aa (bitXor_and _ _) ?_;have h:jiA (x:Int) ((x/2^k*2^k:Nat):Int)=((x/2^k*2^k:Nat):Int):=by
  unfold jiA;have h1:decide (0<=(x:Int))=true:=decide_eq_true (Zl _);have h2:decide (0<=((x/2^k*2^k:Nat):Int))=true:=decide_eq_true (Zl _);refine aa h1 ?_;refine aa h2 ?_;show((Int.toNat _ &&& Int.toNat _:Nat):Int)=_;refine aa (ZF _) ?_;refine aa (ZF _) ?_;refine aa (Jm _ _) ?_;rfl
 refine aa h ?_;have:=jck x (2^k);rw[jaR]at this
 lia
def FT:List (Str×jbi):=[("x",.local),("L",.local),("R",.local),("mid",.local),("shift",.local),("upper",.local),("lower",.local),("a_digits",.free),("inner",.free),("n",.free)]
def iP:Tb:={names:=FT,vars:=[("x",0),("L",1),("R",2),("mid",3),("shift",4),("upper",5),("lower",6),("a_digits",7),("n",8)],next:=9}
def s7(p:Nat->Pos):List Stmt :=
 [.If (.Compare (.BinOp (.Name "L" (p 0)) .Add (.Constant (.int 1) 0 (p 1)) (p 2)) [.Eq] [.Name "R" (p 3)] (p 4)) [.Assign [.Subscript (.Name "a_digits" (p 5)) (.Name "L" (p 6)) (p 7)] (.Name "x" (p 8)) (p 9),.Return none (p 10)] [] (p 11),
  .Assign [.Name "mid" (p 12)] (.BinOp (.BinOp (.Name "L" (p 13)) .Add (.Name "R" (p 14)) (p 15)) .RShift (.Constant (.int 1) 0 (p 16)) (p 17)) (p 18),
  .Assign [.Name "shift" (p 19)] (.BinOp (.BinOp (.Name "mid" (p 20)) .Sub (.Name "L" (p 21)) (p 22)) .Mult (.Name "n" (p 23)) (p 24)) (p 25),
  .Assign [.Name "upper" (p 26)] (.BinOp (.Name "x" (p 27)) .RShift (.Name "shift" (p 28)) (p 29)) (p 30),
  .Assign [.Name "lower" (p 31)] (.BinOp (.Name "x" (p 32)) .BitXor (.BinOp (.Name "upper" (p 33)) .LShift (.Name "shift" (p 34)) (p 35)) (p 36)) (p 37),
  .Expr (.Call (.Name "inner" (p 38)) [.Name "lower" (p 39),.Name "L" (p 40),.Name "mid" (p 41)] [] (p 42)) (p 43),
  .Expr (.Call (.Name "inner" (p 44)) [.Name "upper" (p 45),.Name "mid" (p 46),.Name "R" (p 47)] [] (p 48)) (p 49)]
theorem Rf:jx iP:=tW (by decide +kernel)
section
theorem ar.set(ry:VR tk φ h β P u y)(r:ar tk φ h β P vs xs):∀k,ar tk φ h β P (vs.set k u) (xs.set k y):=by
 refine ar.ind (motive:=λvs xs=>∀k,ar tk φ h β P (vs.set k u) (xs.set k y)) (λY=>.nil) (λ{v x vs xs} a r ih k=>?_) r
 induction k using jaA with
 |zero=>exact .cons ry r
 |succ k=>exact .cons a (ih k)
theorem Vn{s:Y8}{a:Zi}{ys:List Value}{tA kk:Nat}{xv:Value}(e:s.heap.get? a=some {cls:=.type "list",data:=.seq ys.toArray tA}):
 (s.heap.update a (jcO (·.setIfInBounds (kk:Int).toNat xv))).PlainList a (ys.set kk xv).toArray:=by
 have hd:(jcO (·.setIfInBounds (kk:Int).toNat xv) ({cls:=.type "list",data:=.seq ys.toArray tA}:Obj)).data=.seq (ys.set kk xv).toArray tA:=by simp[jcO]
 refine⟨tA,?_⟩;refine aa (jcn _ e (Obj.isFreed_of_seq hd)) ?_;simp[jcO]
theorem VE{T:Tb}{σ:aA}(F:bb G A Φ sB ah ab T){x:Str}{px sp pos:Pos}{k v:Expr}{n i:Nat}{kk:Nat}{u:AV}{vs:List AV}(hx:T.var x=some n)(fv:ρ[n]?=some (some (.ref i)))(hv:ev Φ σ ρ (ao T v)=some u)(fJ:u.scalar=true)(hk:ev Φ σ ρ (ao T k)=some (.int kk))(hi:σ[i]?=some (.list vs))(a0:kk<vs.length)(aU:vs.length<=100000):
 ca G A sB aj ah ab T ρ σ (Z4 (.Assign [.Subscript (.Name x px) k sp] v pos) ab) (.next ρ (σ.set i (.list (vs.set kk u)))):=λs φ β P m S =>
 jig ((cH F.hO _ v (Y9 _) ab T ρ _ F.hE hv).1.post (S.inv F.IB) S.er λxv ak ay aw bd aI aF=>(xZ F.hE hx fv).post bd aI λxo aC aV aP dJ bW bH =>
  (cH F.hO _ k (Y9 _) ab T ρ _ F.hE hk).1.post dJ bW λxk dj eU cn rq i3 jn=>by
   refine au (VR.refOf bH) ?_;rintro a rfl ha;have qy:=(aw.trans aP).trans cn;refine jn.e_int λt=>(S.go qy).listAt hi ha λys e rs=>?_;have hl:ys.length=vs.length:=rs.length.symm;rw[<-hl]at a0 aU;refine aX (id e) λtA e'=>?_;exact ki_setAt e' (Zl _) (by lia) (by refine aa Zo ?_;exact mm a0) ⟨rfl,((S.go qy).relist (t:=dj.toks) hi ha (jco ..) (Y9 _) e (Vn e') (rs.set (aF.scalar fJ λt y e=>cn.sub t y (aP.sub t y e)) kk)).after (.go qy)⟩) H4
end
section
def fP(n:Nat)(ds:List Int)(lo hi x:Nat):List Int:=ds.take lo++dg n (hi-lo) x++ds.drop hi
theorem UO{n:Nat}{ds:List Int}{lo hi x:Nat}(h1:lo<=hi)(h2:hi<=ds.length):(fP n ds lo hi x).length=ds.length:=by
 simp only[fP,Ze,jbH,jbI,r9];rw[jeL (Y5 h1 h2),jcD h1,jcD h2]
theorem UP{n:Nat}{ds:List Int}{lo x:Nat}(h:lo<ds.length)(hx:x<2^n):fP n ds lo (lo+1) x=ds.set lo x:=by
 rw[fP,jaU,nT,CW,jfW hx];rw[List.set_eq_take_append_cons_drop,if_pos h];simp
theorem UQ{n:Nat}{ds:List Int}{lo bv hi x:Nat}(h1:lo<=bv)(h2:bv<=hi)(h3:hi<=ds.length):
 fP n (fP n ds lo bv (x%2^(n*(bv-lo)))) bv hi (x/2^(n*(bv-lo)))=fP n ds lo hi x:=by
 have e1:(fP n ds lo bv (x%2^(n*(bv-lo)))).take bv=ds.take lo++dg n (bv-lo) (x%2^(n*(bv-lo))):=by
  unfold fP;apply jgd;simp only[Ze,jbH,r9];rw[jeL (Y5 h1 (Y5 h2 h3)),jcD h1]
 have e2:(fP n ds lo bv (x%2^(n*(bv-lo)))).drop hi=ds.drop hi:=by
  unfold fP;have hl:(ds.take lo++dg n (bv-lo) (x%2^(n*(bv-lo)))).length=bv:=by simp only[Ze,jbH,r9];rw[jeL (Y5 h1 (Y5 h2 h3)),jcD h1]
  rw[List.drop_append,jcY (by refine aa hl ?_;exact h2),hl,jjm,jbd,show bv+(hi-bv)=hi by simp[*]]
 unfold fP at e1 e2 ⊢;refine aa e1 ?_;refine aa e2 ?_
 conv=>rhs;rw[show hi-lo=(bv-lo)+(hi-bv)by rw[jbn,jeF h2 h1],LM]
 simp only[jaD]
end
section
variable {A:ZZ}{ab:Env}{T:Tb}{ρ av:aB}{σ an iv:aA}{G:GD}{s s' cO:Y8}{φ am kE:Gh}{β aH ug:List Zi}{P P' rC ah:Zi->Prop}{m m':Str->Option Value}{tk:Zi}{h h':jao}
variable {sB:Y8}{aj:Gh}{Φ:cX}{mu:List Str}
variable {f cD cN cI:Zi}{fd:jaC}{V:AV}{n:Nat}{p:Nat->Pos}{ds:List Int}{lo hi bv x:Nat}
abbrev gB(ds:List Int):aA:=[.list (ds.map .int)]
def vS(x lo hi n:Nat):aB:=[some (.int x),some (.int lo),some (.int hi),none,none,none,none,some (.ref 0),some (.int n)]
theorem s9(x:Str):iP.names.lookup x≠some .cell:=λq=>G0 (by decide +kernel) q
theorem Ve{x k:Nat}(h:k<=1000000):dE σ .RShift (.int x) (.int k)=some (.int (x/2^k:Nat)):=
 (if_pos ⟨Zl _,jce.mpr h⟩).trans (by rw[ZF,jas _ (Int.pow_nonneg (by decide)),jcB,jbR];rfl)
theorem GH{x k:Nat}(h:k<=1000000)(hx:x<2^4096):dE σ .LShift (.int x) (.int k)=some (.int ((x:Int)*2^k)):=
 (if_pos ⟨Zl _,jce.mpr h,decide_eq_true (by rw[ZV];exact hx)⟩).trans (by rw[ZF])
theorem Rl{k:Nat}(hk:k<=1000000)(hx:x<2^4096)(h0:ρ[0]?=some (some (.int x)))(h4:ρ[4]?=some (some (.int k)))(h5:ρ[5]?=some (some (.int (x/2^k:Nat)))):ev bD σ ρ (.bin .BitXor (.var 0) (.bin .LShift (.var 5) (.var 4)))=some (.int (x%2^k:Nat)):=
 cb (ag h0) (cb (ag h5) (ag h4) (GH hk (Zy (jgt _ _) hx))) (congrArg (λi=>some (AV.int i)) (XT x k))
theorem Rp(hm:lo<=bv)(hn:n<=64)(h1:ρ[1]?=some (some (.int lo)))(h3:ρ[3]?=some (some (.int bv)))(h8:ρ[8]?=some (some (.int n))):ev bD σ ρ (.bin .Mult (.bin .Sub (.var 3) (.var 1)) (.var 8))=some (.int (n*(bv-lo):Nat)):=by
 rw[jaR,jbf,jdx hm];exact cb (cb (ag h3) (ag h1) rfl) (ag h8) (GR (BX (Zl _) hn))
theorem Ri(h1:lo<=bv)(h2:bv<=hi)(hx:x<2^(n*(hi-lo))):x/2^(n*(bv-lo))<2^(n*(hi-bv)):=by
 refine jff ?_;rw[<-jej,<-jgc,jbn,jeF h2 h1];exact hx
def wT(G:GD)(A:ZZ)(sB:Y8)(aj:Gh)(ah:Zi->Prop)(f cD cN cI:Zi)(fd:jaC)(n:Nat)(ds:List Int)(i j x:Nat):Prop :=
 uo G A sB aj ah f cD cN cI fd (.ref 0) n (gB ds) (gB (fP n ds i j x)) [.int x,.int i,.int j] λY=>True
theorem xE{lM:Expr}{args:List Expr}{as:List AV}{pa pe pf:Pos}{az:List Stmt}{Q:jeH->Y8->Prop}{K:Value->Prop}{n:Int}(cM:jaw (lM::args) ab=(false,jae lM ab)::jaw args ab)(FC:bb G A bD sB ah ab T)(L:jw A ab f cI)
 (jJ:bX bD σ ρ (bg T (lM::args))=some as) (H:uo G A sB aj ah f cD cN cI fd V n σ an as K) (S:SR G sB aj ah ab T φ ρ σ β P m s) (F:cj G s φ β P f cD cN cI fd V n)
 (hQ:gT G sB aj ah ab T f cD cN cI fd V n φ σ β P s ρ an λs'=>Zd (Zf af wd) A (ZQ az ab) Q ax s'):Zd (Zf af wd) A (ZQ (.Expr (.Call (.Name ("inner":Str) pa) (lM::args) [] pe) pf::az) ab) Q ax s :=
 ZD (wpAny_Expr_any (xD cM FC L jJ H S F λY Y=>hQ) FC.hI)
theorem Rn{Q:jeH->Y8->Prop}{p0 p1 p2 p3 p4 p5:Pos}{az:List Stmt}(FC:bb G A bD sB ah ab iP)(S:SR G sB aj ah ab iP φ (vS x lo (lo+1) n) (gB ds) β P m s)(F:cj G s φ β P f cD cN cI fd (.ref 0) n)
 (sU:lo<ds.length) (aN:ds.length<=1000) (hx:x<2^n) (hQ:∀fl eG,gT G sB aj ah ab iP f cD cN cI fd (.ref 0) n φ (gB ds) β P s eG (gB (fP n ds lo (lo+1) x)) (Q fl)):
 Zd (Zf af wd) A (ZQ [.Assign [.Subscript (.Name "a_digits" p0) (.Name "L" p1) p2] (.Name "x" p3) p4,.Return none p5] ab) (wB A ab az Q) ax s:=by
 refine ZD (up (VE FC (n:=7) (i:=0) (kk:=lo) (vs:=ds.map .int) (u:=.int x) rfl rfl rfl rfl rfl rfl (by rw[Y4];exact sU) (by rw[Y4];exact Y5 aN (by decide)) s φ β _ m S) λfw ak aY=>?_);obtain⟨rfl,ay,dc,cC,da,aM,bU⟩:=aY;have hs:([AO.list (ds.map .int)]:aA).set 0 (.list ((ds.map .int).set lo (.int x)))=gB (fP n ds lo (lo+1) x):=by
  rw[UP sU hx,gB,List.map_set];rfl
 rw[hs]at aM bU;exact ZD (wpAny_Return_none (hQ (.ret .none) _ _ _ _ _ _ aM (F.carry S s9 bU) bU))
theorem FV{Q:jeH->Y8->Prop}(FC:bb G A bD sB ah ab iP)(L:jw A ab f cI)(S:SR G sB aj ah ab iP φ (vS x lo hi n) (gB ds) β P m s)(F:cj G s φ β P f cD cN cI fd (.ref 0) n)
 (hn:n<=64) (aN:ds.length<=1000) (Ff:lo<hi) (jf:hi<=ds.length) (hx:x<2^(n*(hi-lo))) (s5:x<2^4096)
 (ih:lo+1<hi->∀ds i j x,ds.length<=1000->i<j->j<=ds.length->2*(j-i)<=hi-lo+1->x<2^(n*(j-i))->x<2^4096->wT G A sB aj ah f cD cN cI fd n ds i j x)
 (hQ:∀fl eG,gT G sB aj ah ab iP f cD cN cI fd (.ref 0) n φ (gB ds) β P s eG (gB (fP n ds lo hi x)) (Q fl)):Zd (Zf af wd) A (ZQ (s7 p) ab) Q ax s:=by
 refine F1 FC (b:=decide ((lo:Int)+1=hi)) (cK (cb (ag (i:=1) rfl) bK rfl) (ag (i:=2) rfl) rfl) S F (λhb ay ak aw aM fU=>?_) (λhb ay ak aw aM fU=>jbh ?_)
 ·have e:hi=lo+1:=(jeO (of_decide_eq_true hb)).symm;subst e;rw[jaU,Nat.mul_one]at hx;exact Rn FC aM fU jf aN hx λfl eG=>(hQ fl eG).go aw
 ·have e:lo+1<hi:=Nat.lt_of_le_of_ne Ff λq=>of_decide_eq_false hb (q▸rfl);have ih:=ih e;clear hb;refine pZ (EM e) λh1 h2 h3 h4=>?_;have hm:ev bD (gB ds) (vS x lo hi n) (.bin .RShift (.bin .Add (.var 1) (.var 2)) (.c (.int 1)))=some (.int ((lo+hi)/2:Nat)):=cb (cb (ag (i:=1) rfl) (ag (i:=2) rfl) rfl) bK EL;generalize(lo+hi)/2=bv at *;have g1:=ZO h1;have g2:=ZO h2;have hs:n*(bv-lo)<=1000000:=Y5 (jbq hn (Y5 (jfv _ _) (Y5 g2 (Y5 jf aN)))) (by decide);refine pr FC s9 (i:=3) rfl hm aM fU λaV dm ck dh aC br gD cY=>?_;refine pr FC s9 (i:=4) rfl (Rp (lo:=lo) (bv:=bv) g1 hn rfl rfl rfl) br gD λeU o0 o9 ky dj ey rm dp=>?_;refine pr FC s9 (i:=5) rfl (cb (ag (i:=0) rfl) (ag (i:=4) rfl) (Ve hs)) ey rm λmq BH wY jR eE gl rn jY=>?_;refine pr FC s9 (i:=6) rfl (Rl hs s5 rfl rfl rfl) gl rn λwN IU BN AA dN rF IX BJ=>?_;refine xE rfl FC L (gJ (ag rfl) (ag rfl) (ag rfl)) (ih ds lo bv _ aN h1 (Y5 g2 jf) h4 (ZU _ (jaG _)) (Zy (Nat.mod_le _ _) s5)) rF IX λYd Y2 Ye YN qV uv IY nG=>?_;have hl:(fP n ds lo bv (x%2^(n*(bv-lo)))).length=ds.length:=UO g1 (Y5 g2 jf);refine xE rfl FC L (gJ (ag rfl) (ag rfl) (ag rfl)) (ih _ bv hi _ (hl▸aN) h2 (hl▸jf) h3 (Ri g1 g2 hx) (Zy (jgt _ _) s5)) uv IY λrf Y3 Yf YO lA BO IZ BK=>jbh ?_;rw[UQ g1 g2 jf]at BO BK;exact hQ .next _ _ _ _ _ _ BO IZ ((bu.go aw).trans (cY.trans (dp.trans (jY.trans (BJ.trans (nG.trans BK))))))
theorem FW{ua uc uf:Value}{K:Value->Prop}{k:Nat}(Fd:kK G fd iP (s7 p) "a_digits" cD cN cI) (jc:∀x y z:Value,jbU fd ⟨[x,y,z],[]⟩=pure [(("x":Str),x),(("L":Str),y),(("R":Str),z)]) (IB:bh G sB.heap) (hG:dD G) (hN:gE G) (hP₀:∀a,sB.heap.objs.size<=a->ah a) (D:dQ A (k+1))
 (S:SR G sB aj ah ab T φ ρ σ β P m s) (F:cj G s φ β P f cD cN cI fd (.ref 0) n) (rx:VR G.tok φ s.heap β P (.int x) ua) (ry:VR G.tok φ s.heap β P (.int lo) uc) (rz:VR G.tok φ s.heap β P (.int hi) uf)
 (l8:∀(A':ZZ) (eZ:Env) (s':Y8) (P':Zi->Prop) (m':Str->Option Value) (Q:jeH->Y8->Prop),dQ A' k->bb G A' bD sB ah eZ iP->jw A' eZ f cI->SR G sB aj ah eZ iP φ (vS x lo hi n) σ β P' m' s'->cj G s' φ β P' f cD cN cI fd (.ref 0) n ->
  (∀fl eG,K (oe fl)->gT G sB aj ah eZ iP f cD cN cI fd (.ref 0) n φ σ β P' s' eG an (Q fl))->Zd (Zf af wd) A' (ZQ (s7 p) eZ) Q ax s'):
 Zd (Zf af wd) A (call (.ref f) [ua,uc,uf]) (uq G sB aj ah ab T φ ρ σ β P m s an K) ax s :=
 F7 Fd IB hG hN hP₀ D S F (jc ua uc uf) (aS rfl (aS rfl (aS rfl jA))) rfl
  (aS (λv e=>.loc e rfl rfl rx) (aS (λv e=>.loc e rfl rfl ry) (aS (λv e=>.loc e rfl rfl rz) (aS (λv e=>nr e) (aS (λv e=>nr e) (aS (λv e=>nr e) (aS (λv e=>nr e) (aS (λv e=>.dig e) (aS (λv e=>.num e) jA))))))))) l8
theorem Rk(Fd:kK G fd iP (s7 p) "a_digits" cD cN cI) (jc:∀x y z:Value,jbU fd ⟨[x,y,z],[]⟩=pure [(("x":Str),x),(("L":Str),y),(("R":Str),z)]) (IB:bh G sB.heap) (hG:dD G) (hN:gE G) (hP₀:∀a,sB.heap.objs.size<=a->ah a) (hn:n<=64):
 ∀(k:Nat) (A:ZZ),dQ A (k+1)->∀(ds:List Int) (lo hi x:Nat),ds.length<=1000->lo<hi->hi<=ds.length->hi-lo<=2^k->x<2^(n*(hi-lo))->x<2^4096->wT G A sB aj ah f cD cN cI fd n ds lo hi x:=by
 intro k
 induction k with
 |zero =>
  intro A D ds lo hi x h0 h1 h2 h3 h4 h5 ab T φ ρ β P m s xs S F r;refine r.e3 λua uc uf rx ry rz=>?_;exact FW Fd jc IB hG hN hP₀ D S F rx ry rz λA' eZ s' P' m' Q D' FC L S' F' hQ=>FV FC L S' F' hn h0 h1 h2 h4 h5 (λq=>absurd h3 (by lia)) λfl eG=>hQ fl eG trivial
 |succ k ih =>
  intro A D ds lo hi x h0 h1 h2 h3 h4 h5 ab T φ ρ β P m s xs S F r;refine r.e3 λua uc uf rx ry rz=>?_;exact FW Fd jc IB hG hN hP₀ D S F rx ry rz λA' eZ s' P' m' Q D' FC L S' F' hQ=>FV FC L S' F' hn h0 h1 h2 h4 h5 (λY ds i j x q0 q1 q2 q3 q4 q5=>ih A' D' ds i j x q0 q1 q2 (by rw[jdb]at h3;lia) q4 q5) λfl eG=>hQ fl eG trivial
end
def Hj(x y z:Str)(p q r:Pos):jbr:=⟨[],[⟨x,none,p⟩,⟨y,none,q⟩,⟨z,none,r⟩],none,[],[],none,[]⟩
def zX:jaF:={kind:=.function,names:=FT,isGenerator:=false,isCoroutine:=false}
def s8:jaF:={kind:=.function,names:=[("a",.local),("n",.cell),("a_digits",.cell),("inner",.cell),("len",.globalImplicit)],isGenerator:=false,isCoroutine:=false}
def zW(p q:Nat->Pos):List Stmt :=
 [.Assign [.Name "a_digits" (p 0)] (.BinOp (.List [.Constant (.int 0) 0 (p 1)] (p 2)) .Mult (.BinOp (.BinOp (.BinOp (.Call (.Attribute (.Name "a" (p 3)) "bit_length" (p 4)) [] [] (p 5)) .Add (.Name "n" (p 6)) (p 7)) .Sub (.Constant (.int 1) 0 (p 8)) (p 9)) .FloorDiv (.Name "n" (p 10)) (p 11)) (p 12)) (p 13),
  .FunctionDef "inner" (Hj "x" "L" "R" (q 50) (q 51) (q 52)) (s7 q) [] none [] zX none "inner" (q 53),
  .If (.Name "a" (p 14)) [.Expr (.Call (.Name "inner" (p 15)) [.Name "a" (p 16),.Constant (.int 0) 0 (p 17),.Call (.Name "len" (p 18)) [.Name "a_digits" (p 19)] [] (p 20)] [] (p 21)) (p 22)] [] (p 23),
  .Return (some (.Name "a_digits" (p 24))) (p 25)]
theorem JT :
 jbU (fnX "inner" qual (Hj "x" "L" "R" p q r) body sc cg .none .none bF pm none cv bZ) ⟨[u,v,x],[]⟩=pure [(("x":Str),u),(("L":Str),v),(("R":Str),x)]:=by rfl
def kr:Tb:=dy ["a","n"] s8
theorem Re:kr.var "inner" = some 3:=by rfl
def bI(n a:Nat):Nat:=(Zt a+n-1)/n
set_option tactic.hygienic true in
theorem Aa{a:Nat}:a<2^Zt a:=by
 unfold Zt;split
 ·rename_i h;have:a=0:=by simpa using h
  subst this;decide
 ·refine aa (ZV _) ?_;exact Nat.lt_log2_self
theorem xR{n a:Nat}(hn:0<n):a<2^(n*bI n a):=by
 refine bf Aa (Zp (by decide) ?_);exact IH hn
theorem xS(hn:0<n)(ha:a<2^1000):bI n a<=1000:=by
 have:=vX (a:=a) (k:=1000) (by rwa [ZV]);unfold bI;generalize Zt a=b at this;have h1:(b+n-1)/n<1001:=by
  rw[jdh hn];have:1000*n >= 1000:=Nat.le_mul_of_pos_right _ hn
  lia
 exact jba h1
theorem LL(hn:0<n):bI n 0=0:=by
 unfold bI;have:Zt (0:Nat)=0:=rfl;refine aa this ?_;exact jeA (by omega)
theorem LK(hn:0<n)(ha:a≠0):0<bI n a:=by
 refine jdY λe=>?_;have:=xR (a:=a) hn;rw[e]at this;simp at this;exact ha this
theorem yP(σ:aA)(k:Nat):∀ds:List Int,bj (aZ σ (k+1)) (ds.map AV.int)=some (ds.map AV.int)
 | []=>rfl
 |d::ds=>by
  rw[ZG,gO,yP σ k ds];rfl
section
theorem SA(hl:s.heap.IsList l vs.toArray)(h0:0<=x)(jf:x<=100000)(be:vs.length<=1)(h:Q (.ref s.heap.objs.size) {s with heap:=s.heap.push {cls:=.type "list",dict:=none,data:=.seq (Zm x.toNat vs).flatten.toArray}}):Zd (Zf af wd) A (jeq .Mult (.ref l) (.int x u)) Q E s:=by
 obtain⟨⟨cls,d,data,sl⟩,ho,hcl,k,hd⟩:=id hl;simp only at hcl hd;subst hcl hd;have QQ:vs.toArray.size*x.toNat<=100000:=by
  have:vs.toArray.size<=1:=by simpa using be
  exact Y5 (jbq this (Y9 _)) (by simp[*])
 have YH:vs.length*x.toNat<=100000:=by simpa using QQ
 refine wpAny_binaryOp_repeat_ref (T := "list") (U := "int") (by decide) ⟨_,ho,rfl⟩ (λs'=>typeIs_int s' x u) noFill_list_mul F.fills_int_mul F.slot_int_rmul repeat_list F.slot_int_index.lookup
  (jdD F.slot_int_rmul (typeIs_int s x u) F.entry_int_rmul (F.args_int_rmul_2 _ _) (lm_int_rmul_list_any x u l vs.toArray k d sl)
   ⟨ho,rfl,⟨_,ho,rfl⟩,jdD F.slot_list_mul ⟨_,ho,rfl⟩ F.entry_list_mul (F.args_list_mul_2 _ _)
    (lm_list_mul_any l vs.toArray k d sl x u (by simp[Builtin.List.listFitsIndex];lia) (by lia) (by simp[jfF,jcU];lia))
    ⟨ho,?_⟩⟩)
 refine aa (listMul_foldl_if _ _) ?_;exact h
theorem D3{α:Type}(x:α):∀k:Nat,(Zm k [x]).flatten=Zm k x
 |0=>rfl
 |k+1=>by refine aa List.replicate_succ ?_;refine aa jiw ?_;refine aa (D3 x k) ?_;rfl
theorem IC:∀k:Nat,ar tk φ h β P ((Zm k (0:Int)).map .int) (Zm k (.int 0 t))
 |0=>.nil
 |k+1=>.cons (.int _ _) (IC k)
theorem UN(ds:List Int)(h:ds.length=k):fP n ds 0 k x=dg n k x:=by
 rw[fP,List.take_zero,jbd,jhu,jcY (ZP h),Z6]
theorem Ro:rB kr iP "a_digits" zX [("x",.local),("L",.local),("R",.local),("mid",.local),("shift",.local),("upper",.local),("lower",.local)] 1 2 where
 hs:=rfl
 hl:=by decide +kernel
 tb:=⟨rfl,λx hx q=>absurd (Y'.mp (by decide +kernel:zX.names.all (λe=>e.2 != .cell)=true) x hx) (by refine aa q ?_;decide),rfl,Rf⟩
 co:=rfl
 gen:=rfl
 cell:=cz rfl rfl rfl
 free:=cz rfl rfl rfl
 kI:=rfl
 kN:=rfl
 kD:=rfl
 vN:=rfl
 vD:=rfl
 ne:=by decide
 look:=λY Y Y=>rfl
def m9(a n:Nat)(v:Option AV):aB:=[some (.int a),some (.int n),v,none]
theorem K6{σ:aA}{a n:Nat}(dv:0<n)(hn:n<=64):dE σ .FloorDiv (.int ((Zt a:Int)+n-1)) (.int n)=some (.int (bI n a)):=by
 refine(if_neg λq=>?_).trans ?_
 ·rw[show small (n:Int)=true from decide_eq_true (by rw[ZV];exact Zy hn (by decide))]at q;exact q.elim (λq=>absurd (jeO q) (jaZ dv)) λq=>nomatch q
 ·rw[jas _ (Zl _),bI,jcB,jdx (Y5 dv (jcj _ _)),jbz];rfl
theorem Rg(dv:0<n)(hn:n<=64)(sT:p4.endLine=p5.line):
 ev bD σ (m9 a n v) (ao kr (.BinOp (.BinOp (.BinOp (.Call (.Attribute (.Name "a" p3) "bit_length" p4) [] [] p5) .Add (.Name "n" p6) p7) .Sub (.Constant (.int 1) 0 p8) p9) .FloorDiv (.Name "n" p10) p11))=some (.int (bI n a)):=by
 have hm:ff (.Name "a" p3) 0 p4 p5=true:=by
  show(true&&(p4.endLine==p5.line)&&true)=true;rw[sT,jcG,jfq];exact beq_self_eq_true _
 refine(congrArg (λb=>ev bD σ (m9 a n v) (.bin .FloorDiv (.bin .Sub (.bin .Add (Ax ("bit_length":Str) b (.var 0) true .nil) (.var 1)) (.c (.int 1))) (.var 1))) hm).trans ?_;have hb:ev bD σ (m9 a n v) (.call .bitLength (.cons (.var 0) .nil))=some (.int (Zt a)):=by rw[kW,cT (ag rfl)];rfl
 exact cb (cb (cb hb (ag (i:=1) rfl) rfl) bK rfl) (ag (i:=1) rfl) (K6 dv hn)
theorem Rh{A:ZZ}{ab:Env}{G:GD}{s:Y8}{φ:Gh}{P ah:Zi->Prop}{m:Str->Option Value}{sB:Y8}{aj:Gh}{p:Nat->Pos}{a n:Nat}{Q:jeH->Y8->Prop}(FC:bb G A bD sB ah ab kr)(S:SR G sB aj ah ab kr φ (m9 a n none) [] [] P m s)(dv:0<n)(hn:n<=64)(sL:a<2^1000)(sT:(p 4).endLine=(p 5).line)(hQ:∀am aH P' m' s',SR G sB aj ah ab kr am (m9 a n (some (.ref 0))) (gB (Zm (bI n a) 0)) aH P' m' s'->Q .next s'):
 Zd (Zf af wd) A (Z4 (.Assign [.Name "a_digits" (p 0)] (.BinOp (.List [.Constant (.int 0) 0 (p 1)] (p 2)) .Mult (.BinOp (.BinOp (.BinOp (.Call (.Attribute (.Name "a" (p 3)) "bit_length" (p 4)) [] [] (p 5)) .Add (.Name "n" (p 6)) (p 7)) .Sub (.Constant (.int 1) 0 (p 8)) (p 9)) .FloorDiv (.Name "n" (p 10)) (p 11)) (p 12)) (p 13)) ab) Q ax s:=by
 have ol:=xS dv sL;refine jbD (jcV ((cH FC.hO _ _ (Y9 _) _ _ _ (.lst [.int 0]) FC.hE rfl).1.post (S.inv FC.IB) S.er λxl aC aV aP dJ bW bH=>(cH FC.hO _ _ (Y9 _) _ _ _ _ FC.hE (Rg dv hn sT)).1.post dJ bW λxc dj eU cn rq i3 jn=>?_)) rfl;have ey:=(S.go aP).go cn;refine jn.e_int λt3=>(bW.vr cn bH).e_lst λl IF hl pl rl=>rl.e1 (motive:=λIF=>dj.heap.PlainList l IF.toArray->_) (λy ry=>ry.e_int λty hl=>?_) hl;refine SA hl.isList (Zl _) (jce.mpr (Y5 ol (by decide))) (Y9 _) ?_;refine aa (ZF _) ?_;refine aa (D3 _ _) ?_;refine kg (Ic ey (IC (t:=ty) (bI n a))) λmq BH wY jR gl jY Vf=>?_;exact ny FC (x := "a_digits") (i:=2) rfl gl Vf λdN AA rF BJ Y=>hQ _ _ _ _ _ rF
theorem FU(FC:bb G A bD sB ah ab kr)(S:SR G sB aj ah ab kr φ (m9 a n (some (.ref 0))) (gB ds) β P m s):Zd (Zf af wd) A (ZQ [.Return (some (.Name "a_digits" p1)) p2] ab) (nE G sB aj ah (.lst (ds.map .int))) ax s :=
 ZD (jbB ((cH FC.hO _ _ (Y9 _) _ _ _ (.ref 0) FC.hE rfl).1.post (S.inv FC.IB) S.er λxv ak ay aw bd aI aF=>⟨xv,rfl,ay,(S.go aw).done,(S.go aw).frozen (v:=.ref 0) FC.hP₀ (congrArg (jad AV.lst) (yP (gB ds) 4 ds)) aF⟩))
theorem Su(h0:ρ[i]?=some (some (.ref 0)))(hl:ds.length<=1000):ev bD (gB ds) ρ (.call .len (.cons (.var i) .nil))=some (.int ds.length):=by
 rewrite [kW];refine aa (cT (ag h0)) ?_;show(if(ds.map AV.int).length<=100000 then some (AV.int ((ds.map AV.int).length:Nat))else none)=_;refine aa (Y4 _) ?_;refine aa (if_pos (Y5 hl (by decide))) ?_;rfl
theorem Rj{A:ZZ}{ab:Env}{G:GD}{s:Y8}{φ:Gh}{β:List Zi}{P ah:Zi->Prop}{m:Str->Option Value}{sB:Y8}{aj:Gh}{p:Nat->Pos}{a n:Nat}{f cD cN cI:Zi}{i9:jaC}(FC:bb G A bD sB ah ab kr)(L:jw A ab f cI)(S:SR G sB aj ah ab kr φ (m9 a n (some (.ref 0))) (gB (Zm (bI n a) 0)) β P m s)(F:cj G s φ β P f cD cN cI i9 (.ref 0) n)(dv:0<n)(ol:bI n a<=1000)(H:a≠0->wT G A sB aj ah f cD cN cI i9 n (Zm (bI n a) 0) 0 (bI n a) a):
 Zd (Zf af wd) A (ZQ [.If (.Name "a" (p 14)) [.Expr (.Call (.Name "inner" (p 15)) [.Name "a" (p 16),.Constant (.int 0) 0 (p 17),.Call (.Name "len" (p 18)) [.Name "a_digits" (p 19)] [] (p 20)] [] (p 21)) (p 22)] [] (p 23),.Return (some (.Name "a_digits" (p 24))) (p 25)] ab) (nE G sB aj ah (.lst ((dg n (bI n a) a).map .int))) ax s:=by
 refine ZD (jeP (jfs (t8 FC (v:=.int a) rfl S F λx ay ak aw aM fU aF=>aF.e_int λt=>truthy_int ?_) rfl));by_cases hz:a=0
 ·subst hz;refine aa (if_neg (by decide)) ?_;rw[LL dv]at aM ⊢;exact jbh (FU FC aM)
 ·refine aa (if_pos (by simpa using hz)) ?_;have el:ev bD (gB (Zm (bI n a) 0)) (m9 a n (some (.ref 0))) (.call .len (.cons (.var 2) .nil))=some (.int (bI n a)):=(Su rfl (by refine aa jaB ?_;exact ol)).trans (by refine aa jaB ?_;rfl);refine xE (az:=[]) rfl FC L (gJ (ag (i:=0) rfl) bK el) (H hz) aM fU λaV dm ck dh aC br gD cY=>jbh ?_;rw[UN _ jaB]at br;exact FU FC br
theorem Rm{A:ZZ}{G:GD}{p q:Nat->Pos}{a n:Nat}{fd:jaC}{t:Zi×Zi×Pos×Str}{x:Str}{k:Nat}(O:uu G fd ["a","n"] (zW p q) t (q 53)) (fJ:fd.scope=s8) (hk:G.fns k=some (x,fd)) (hG:dD G) (hN:gE G) (D:dQ A 13) (sL:a<2^1000) (dv:0<n) (hn:n<=64) (sT:(p 4).endLine=(p 5).line) {fa:Zi} (ha:G.mg x=some (.ref fa)):kF G A (.ref fa) [.int a,.int n] (.lst ((dg n (bI n a) a).map .int)):=by
 have hT:dy ["a","n"] fd.scope=kr:=by refine aa fJ ?_;rfl
 refine sA (Φ:=bD) O.ok hk (Zy (ZH _ _) D.depth) (λab=>rJ (D.deeper ab) hG hN) rfl (λL fa s φ P P' m ak FC S=>?_) ha;rw[hT]at FC S;refine ZD (Rh FC S dv hn sL sT λay dc cC da ak aM=>?_);refine ZD (Hc Ro FC aM O.tm O.tu O.code ?_ O.pos rfl rfl rfl (λi v hi hv=>?_) rfl rfl λi9 f s' cD cN cI ou Fd Ld br gD=>?_)
 ·unfold jen;refine aa (show(jbg fd L fa).kindOf ("inner":Str)=s8.names.lookup ("inner":Str)from congrArg (λsc:jaF=>sc.names.lookup ("inner":Str)) fJ) ?_;refine aa (if_neg (by decide)) ?_;exact O.qual
 ·cases Re.symm.trans hi;exact nr hv
 ·have ol:=xS dv sL;have hl:(Zm (bI n a) (0:Int)).length=bI n a:=jaB;refine Rj FC Ld br gD dv ol λhz=>Rk Fd (λx y z=>?_) FC.IB hG hN FC.hP₀ hn 10 _ ((D.deeper _).le (by decide)) _ 0 (bI n a) a (hl.symm▸ol) (LK dv hz) (ZP hl.symm) (Y5 ol (by decide)) (xR dv) (bf sL (Zp (by decide) (by decide)));refine uY ou ?_;rintro cg bF pm c' bZ rfl;exact JT
end
def uB:jaF:={kind:=.function,names:=[("code",.local),("ord",.globalImplicit),("b1_set",.globalImplicit)],isGenerator:=false,isCoroutine:=false}
def uz(p:Nat->Pos):List Stmt:=[.Return (some (.Compare (.Call (.Name "ord" (p 0)) [.Name "code" (p 1)] [] (p 2)) [.In] [.Name "b1_set" (p 3)] (p 4))) (p 5)]
def uC:jaF:={kind:=.function,names:=[("code",.local),("r",.local),("b3_exceptions",.globalImplicit),("ord",.globalImplicit)],isGenerator:=false,isCoroutine:=false}
def xm(p:Nat->Pos):List Stmt :=
 [.Assign [.Name "r" (p 0)] (.Call (.Attribute (.Name "b3_exceptions" (p 1)) "get" (p 2)) [.Call (.Name "ord" (p 3)) [.Name "code" (p 4)] [] (p 5)] [] (p 6)) (p 7),
  .If (.Compare (.Name "r" (p 8)) [.IsNot] [.Constant .none 0 (p 9)] (p 10)) [.Return (some (.Name "r" (p 11))) (p 12)] [] (p 13),
  .Return (some (.Call (.Attribute (.Name "code" (p 14)) "lower" (p 15)) [] [] (p 16))) (p 17)]
def iy(c:Nat):List Nat:=match j3 c with
 |some x=>x.cps.toList
 |none=>(jiY ⟨[c].toArray⟩).cps.toList
section
def xh:Tb:=dy ["code"] uB
theorem JC(FC:bb G A bD sB ah ab xh)(S:SR G sB aj ah ab xh φ [some (.str [c])] [] [] P m s):Zd (Zf af wd) A (ZQ (uz p) ab) (nE G sB aj ah (.bool (dz c))) ax s:=by
 refine ZD (jbB (jhs ((cH FC.hO _ _ (Y9 _) _ _ _ (.int c) FC.hE rfl).1.post (S.inv FC.IB) S.er λxo aC aV aP dJ bW bH=>bH.e_int λt=>?_) rfl));refine bA dJ.b1 λsa n g1 g2=>?_;have cn:GX G aC aV {aC with toks:=aC.toks+1} aV:=.same aP.tk bE.tok (Z2 _);exact jS FC.hE rfl (.inl g1) dJ (wpAny_inSet_of (jeo _ _ _ _) rfl g2 ⟨_,rfl,aV,((S.go aP).go cn).done,.bool _⟩)
theorem RH(O:eu fd d ["code"] (uz p) mu) (fJ:fd.scope=uB) (hk:G.fns k=some (x,fd)) (hG:dD G) (hN:gE G) (D:dQ A 2) (ha:G.mg x=some (.ref fa)):kF G A (.ref fa) [.str [c]] (.bool (dz c)):=by
 have hT:dy ["code"] fd.scope=xh:=by refine aa fJ ?_;rfl
 refine sA (Φ:=bD) O hk (Zy (ZH _ _) D.depth) (λab=>rJ (D.deeper ab) hG hN) rfl (λL fa s φ P P' m ak FC S=>?_) ha;rw[hT]at FC S;exact JC FC S
def mD:Tb:=dy ["code"] uC
def wO(c:Nat)(r:AV):Prop:=(∃x,j3 c=some x/\r=.str x.cps.toList)\/(j3 c=none/\r=.none)
theorem JG{G:GD}{c:Nat}{g:Int->Option Value}(g4:∀k x,j3 k=some x->∃t,g k=some (.str x t))(g5:∀k,j3 k=none->g k=none):∃r:AV,VR G.tok φ h β P r ((g c).getD .none)/\wO c r:=by
 induction hb:j3 c using ae with
 |some x =>
  refine aX (g4 _ _ hb) λt' ht=>?_;exact aO (.str x.cps.toList) (ht▸.str _ _) (.inl ⟨x,hb,rfl⟩)
 |none=>exact aO (.none) (g5 _ hb▸.none) (.inr ⟨hb,rfl⟩)
theorem Ta(g3:s.heap.MapOf (jat af wd) ba g)(TB:bz G s.heap)(k:GX G s φ s' am):s'.heap.MapOf (jat af wd) ba g:=by
 refine kX g3 λo es ep ho hx hd r=>?_;exact⟨o,es,ep,k.ext _ _ (TB.notX_data ho λvs q=>nomatch hd.symm.trans q) ho,hx,hd,r⟩
theorem Tc{s:Y8}(g3:s.heap.MapOf (jat af wd) ba g)(a:Zi)(e:jbE ba=.ref a):∃ob,s.heap.get? a=some ob/\ob.dict=none:=by
 refine kf g3 λo es ep ho hx Y=>?_;exact aO o (jdM e▸ho) hx.2.1
theorem JE{c:Nat}{Q:jeH->Y8->Prop}{p0 p1 p2 p3 p4 p5 p6 p7:Pos}(FC:bb G A bD sB ah ab mD)(S:SR G sB aj ah ab mD φ [some (.str [c]),none] [] [] P m s)(hl:p2.endLine=p6.line)(hQ:∀r am m' s',wO c r->SR G sB aj ah ab mD am [some (.str [c]),some r] [] [] P m' s'->Q .next s'):
 Zd (Zf af wd) A (Z4 (.Assign [.Name "r" p0] (.Call (.Attribute (.Name "b3_exceptions" p1) "get" p2) [.Call (.Name "ord" p3) [.Name "code" p4] [] p5] [] p6) p7) ab) Q ax s:=by
 refine DD ((S.inv FC.IB).b3) λba g g1 g2 g3 g4 g5=>?_;refine jbD (jbC (pt rfl) rfl (by refine aa hl ?_;exact beq_self_eq_true _) (jS FC.hE rfl (.inl g1) (S.inv FC.IB) ?_)) rfl;refine⟨"dict","dict.get",jee,jcc,jgX,g3.typeIs,Tc g3,jaK rfl ?_⟩;have oE:=(j9 FC.hE (λe Y=>cH FC.hO _ e (Y9 _)) (σ:=[]) (ρ:=[some (.str [c]),none]) (es:=[.Call (.Name "ord" p3) [.Name "code" p4] [] p5]) (vs:=[.int c]) rfl).2 p6;refine jds (oE.post (S.inv FC.IB) S.er λxs aC aV aP dJ bW bH=>bH.e1 λwJ q1=>q1.e_int λt=>?_);have Ep:=Ta g3 S.tabs.1 aP;refine jgn jcc Ep.typeIs jes (PySem.F.args_dict_get_2 _ _) (meets_dict_get (jat af wd) ba (jeo af wd c t) g2) ⟨_,Ep,?_⟩;have cn:GX G aC aV {aC with toks:=aC.toks+1} aV:=.same aP.tk bE.tok (Z2 _);refine au (JG (G:=G) (φ:=aV) (h:=aC.heap) (β:=[]) (P:=P) (c:=c) g4 g5) λr rr hr=>?_;exact ny FC (x := "r") (i:=1) rfl ((S.go aP).go cn) rr λeE jR gl jY Y=>hQ _ _ _ _ hr gl
theorem JH(FC:bb G A bD sB ah ab mD)(S:SR G sB aj ah ab mD φ [some (.str [c]),r] [] [] P m s)(hl:p1.endLine=p2.line)(hx:j3 c=none):
 Zd (Zf af wd) A (ZQ [.Return (some (.Call (.Attribute (.Name "code" p0) "lower" p1) [] [] p2)) p3] ab) (nE G sB aj ah (.str (iy c))) ax s:=by
 refine ZD (jbB (jbC (pt rfl) rfl (by refine aa hl ?_;exact beq_self_eq_true _) ((cH FC.hO _ _ (Y9 _) _ _ _ (.str [c]) FC.hE rfl).1.post (S.inv FC.IB) S.er λxc lA rf v5 I6 Jf A5=>A5.e_str λt'=>?_)));refine⟨"str","str.lower",jbX,jgL,PySem.F.type_str_lower,jcZ _ _ _,(λa e=>nomatch e),jaK rfl (jcb ?_)⟩;have vq:jgC (jiY ⟨[c].toArray⟩).length=false:=by
  have:=len_lower ⟨[c].toArray⟩;have e1:(⟨[c].toArray⟩:Str).length=1:=rfl;rw[e1]at this;exact decide_eq_false (Z0.mpr (Y5 this (by decide)))
 refine call_gives jgL (jcZ _ _ _) PySem.F.entry_str_lower (PySem.F.args_str_lower_1 _) (gives_str_lower _ t' vq) ⟨fit_le vq,?_⟩;have Se:GX G lA rf {lA with toks:=lA.toks+1} rf:=.same v5.tk bE.tok (Z2 _);have:iy c=(jiY ⟨[c].toArray⟩).cps.toList:=by unfold iy;refine aa hx ?_;rfl
 refine aa this ?_;exact⟨_,rfl,rf,((S.go v5).go Se).done,.str _ _⟩
theorem JI{A:ZZ}{ab:Env}{G:GD}{s:Y8}{φ:Gh}{P ah:Zi->Prop}{m:Str->Option Value}{sB:Y8}{aj:Gh}{p:Nat->Pos}{c:Nat}{r:AV}(FC:bb G A bD sB ah ab mD)(S:SR G sB aj ah ab mD φ [some (.str [c]),some r] [] [] P m s)(hr:wO c r)(hl:(p 15).endLine=(p 16).line):
 Zd (Zf af wd) A (ZQ [.If (.Compare (.Name "r" (p 8)) [.IsNot] [.Constant .none 0 (p 9)] (p 10)) [.Return (some (.Name "r" (p 11))) (p 12)] [] (p 13),.Return (some (.Call (.Attribute (.Name "code" (p 14)) "lower" (p 15)) [] [] (p 16))) (p 17)] ab) (nE G sB aj ah (.str (iy c))) ax s:=by
 refine ZD (jeP (jga ((cH FC.hO _ _ (Y9 _) _ _ _ r FC.hE rfl).1.post (S.inv FC.IB) S.er λxr dN wN qz I4 Jd wu=>(cH FC.hO _ _ (Y9 _) _ _ _ .none FC.hE rfl).1.post I4 Jd λxn qV Yd Sd I5 Je Vg=>?_) rfl));have uv:=(S.go qz).go Sd;refine aa (show xn=.none from Vg.inv) ?_;rcases hr with⟨x,hx,rfl⟩|⟨hx,rfl⟩
 ·refine wu.e_str λt'=>wpAny_isNot_plain rfl (jaN ?_);refine aa (if_pos (by rfl)) ?_;refine ZD (jbB ((cH FC.hO _ _ (Y9 _) _ _ _ (.str x.cps.toList) FC.hE rfl).1.post I5 Je λxr lA rf v5 I6 Jf A5=>?_));have:iy c=x.cps.toList:=by unfold iy;refine aa hx ?_;rfl
  refine aa this ?_;exact⟨_,rfl,rf,(uv.go v5).done,A5.scalar rfl λY Y e=>e⟩
 ·refine aa (show xr=.none from wu.inv) ?_;refine wpAny_isNot_plain rfl (jaN ?_);refine aa (if_neg (by decide)) ?_;exact jbh (JH FC uv hl hx)
theorem S9{A:ZZ}{G:GD}{mu:List Str}{p:Nat->Pos}{fd:jaC}{d:dC}{x:Str}{k:Nat}{c:Nat}(O:eu fd d ["code"] (xm p) mu) (fJ:fd.scope=uC) (hk:G.fns k=some (x,fd)) (hG:dD G) (hN:gE G) (D:dQ A 2) (Qa:(p 2).endLine=(p 6).line) (vz:(p 15).endLine=(p 16).line) {fa:Zi} (ha:G.mg x=some (.ref fa)):kF G A (.ref fa) [.str [c]] (.str (iy c)):=by
 have hT:dy ["code"] fd.scope=mD:=by refine aa fJ ?_;rfl
 refine sA (Φ:=bD) O hk (Zy (ZH _ _) D.depth) (λab=>rJ (D.deeper ab) hG hN) rfl (λL fa s φ P P' m ak FC S=>?_) ha;rw[hT]at FC S;exact ZD (JE FC S Qa λr am m' s' hr S'=>JI FC S' hr vz)
end
def tG:List AV->Option AV
 | [.int a,.int n]=>if 0<=a/\a<2^1000/\0<n/\n<=64 then some (.lst ((dg n.toNat (bI n.toNat a.toNat) a.toNat).map .int))else none
 |_=>none
def tH:List AV->Option AV
 | [.lst ds,.int n]=>match cQ ds with
  |some is=>if is.length<=1000/\0<=n/\n<=64/\is.all (λd=>decide (d.natAbs<2^64))=true then some (.int (cB n is))else none
  |none=>none
 |_=>none
def tP(f:Nat->AV):List AV->Option AV
 | [.str [c]]=>some (f c)
 |_=>none
def gb:cX:=λk as=>if k=1 then tG as else if k=2 then tH as else if k=8 then tP (λc=>.bool (dz c)) as else if k=9 then tP (λc=>.str (iy c)) as else none
theorem UF:tG [.int a,.int n]=if 0<=a/\a<2^1000/\0<n/\n<=64 then some (.lst ((dg n.toNat (bI n.toNat a.toNat) a.toNat).map .int))else none:=rfl
theorem UH:tH [.lst ds,.int n]=match cQ ds with
 |some is=>if is.length<=1000/\0<=n/\n<=64/\is.all (λd=>decide (d.natAbs<2^64))=true then some (.int (cB n is))else none
 |none=>none:=rfl
structure wW(G:GD):Prop where
 p1:∃x fd t p q,G.fns 1=some (x,fd)/\uu G fd ["a","n"] (zW p q) t (q 53)/\fd.scope=s8/\(p 4).endLine=(p 5).line
 p2:∃x fd t p q,G.fns 2=some (x,fd)/\uu G fd ["digits","n"] (xN p q) t (q 42)/\fd.scope=rZ
 p8:∃x fd d p mu,G.fns 8=some (x,fd)/\eu fd d ["code"] (uz p) mu/\fd.scope=uB
 p9:∃x fd d p mu,G.fns 9=some (x,fd)/\eu fd d ["code"] (xm p) mu/\fd.scope=uC/\(p 2).endLine=(p 6).line/\(p 15).endLine=(p 16).line
theorem S8:∀{is:List Int},bj Ad ds=some is->ds=is.map .int:=by
 induction ds with
 |nil=>exact λh=>aG (Q:=λis=>[]=is.map AV.int) h rfl
 |cons d ds ih =>
  intro is h;refine bS (wb h) ?_;rintro b cs rfl h1 h2;refine aa ZG ?_;refine rwj (ih h2) ?_
  induction d using AV.casesOn with
  |int i=>refine aa (Y7 h1) ?_;rfl
  |_=>exact ai h1
theorem Jv(h:cQ ds=some is):ds=is.map .int:=S8 h
section
theorem UG{C:List AV->AV->Prop}(e:tG vs=some r)(h:∀a n:Nat,a<2^1000->0<n->n<=64->C [.int a,.int n] (.lst ((dg n (bI n a) a).map .int))):C vs r:=by
 induction vs using Y6 with
 |nil=>exact ai e
 |cons x vs=>induction x using AV.casesOn with
  |int a=>induction vs using Y6 with
   |nil=>exact ai e
   |cons y vs=>induction y using AV.casesOn with
    |int n=>induction vs using Y6 with
     |cons=>exact ai e
     |nil =>
      refine bR e λhc e=>aG e ?_;refine aX (jbw hc.1) ?_;rintro a' rfl;refine aX (jbw (Int.le_of_lt hc.2.2.1)) ?_;rintro n' rfl;have h1:(a':Int)<((2^1000:Nat):Int):=by rw[jbR];exact hc.2.1
      exact h a' n' (jbF.mp h1) (jbF.mp hc.2.2.1) (jce.mp hc.2.2.2)
    |_=>exact ai e
  |_=>exact ai e
theorem UI{C:List AV->AV->Prop}(e:tH vs=some r)(h:∀(is:List Int) (n:Int),is.length<=1000->0<=n->n<=64->(∀d∈is,d.natAbs<2^64)->C [.lst (is.map .int),.int n] (.int (cB n is))):C vs r:=by
 induction vs using Y6 with
 |nil=>exact ai e
 |cons x vs=>induction x using AV.casesOn with
  |lst ds=>induction vs using Y6 with
   |nil=>exact ai e
   |cons y vs=>induction y using AV.casesOn with
    |int n=>induction vs using Y6 with
     |cons=>exact ai e
     |nil =>
      exact Ac (F:=λis=>if is.length<=1000/\0<=n/\n<=64/\is.all (λd=>decide (d.natAbs<2^64))=true then some (.int (cB n is))else none) e λis eS e=>bR e λhc e=>aG e (Jv eS▸h is n hc.1 hc.2.1 hc.2.2.1 λd hd=>of_decide_eq_true (Y'.mp hc.2.2.2 d hd))
    |_=>exact ai e
  |_=>exact ai e
theorem HX{C:List AV->AV->Prop}{f:Nat->AV}(e:tP f vs=some r)(h:∀c,C [.str [c]] (f c)):C vs r:=by
 induction vs using Y6 with
 |nil=>exact ai e
 |cons x vs=>induction x using AV.casesOn with
  |str l=>induction l using Y6 with
   |nil=>cases vs<;>exact ai e
   |cons c l=>induction l using Y6 with
    |cons=>cases vs<;>exact ai e
    |nil=>induction vs using Y6 with
     |nil=>exact aG e (h c)
     |cons=>exact ai e
  |_=>exact ai e
theorem UJ{C:Nat->List AV->AV->Prop}{k:Nat}(e:gb k vs=some r)(h1:tG vs=some r->C 1 vs r)(h2:tH vs=some r->C 2 vs r)(h8:tP (λc=>.bool (dz c)) vs=some r->C 8 vs r)(h9:tP (λc=>.str (iy c)) vs=some r->C 9 vs r):C k vs r:=by
 by_cases q:k=1
 ·subst q;exact h1 e
 replace e:=(if_neg q).symm.trans e;by_cases q:k=2
 ·subst q;exact h2 e
 replace e:=(if_neg q).symm.trans e;by_cases q:k=8
 ·subst q;exact h8 e
 replace e:=(if_neg q).symm.trans e;by_cases q:k=9
 ·subst q;exact h9 e
 exact ai ((if_neg q).symm.trans e)
def rE(G:GD)(A:ZZ)(k:Nat)(vs:List AV)(r:AV):Prop:=∃x fd,G.fns k=some (x,fd)/\∀a,G.mg x=some (.ref a)->kF G A (.ref a) vs r
theorem Qx{G:GD}{fns:Nat->Option dC}(H:wW G)(hG:dD G)(hN:gE G)(A:ZZ)(D:dQ A 13)(k:Nat)(vs:List AV)(r:AV)(_:fns k=none)(e:gb k vs=some r):∃x fd,G.fns k=some (x,fd)/\∀a,G.mg x=some (.ref a)->kF G A (.ref a) vs r:=by
 refine UJ (C:=rE G A) e (λe=>?_) (λe=>?_) (λe=>?_) λe=>?_
 ·refine DG H.p1 λx fd t p q k1 k2 k3 k4=>?_;exact UG (C:=rE G A 1) e λa n ha hn ji=>⟨x,fd,k1,λfa h=>Rm k2 k3 k1 hG hN D ha hn ji k4 h⟩
 ·refine sq H.p2 λx fd t p q k1 k2 k3=>?_;exact UI (C:=rE G A 2) e λis n hl hn ji hd=>⟨x,fd,k1,λfa h=>Lp k2 k3 k1 hG hN D hd hl hn (Int.toNat_le.mpr ji) h⟩
 ·refine sq H.p8 λx fd d p mu k1 k2 k3=>?_;exact HX (C:=rE G A 8) e λc=>⟨x,fd,k1,λfa h=>RH k2 k3 k1 hG hN (D.le (by decide)) h⟩
 ·refine Np H.p9 λx fd d p mu k1 k2 k3 k4 k5=>?_;exact HX (C:=rE G A 9) e λc=>⟨x,fd,k1,λfa h=>S9 k2 k3 k1 hG hN (D.le (by decide)) k4 k5 h⟩
end
set_option backward.match.sparseCases false
set_option genInjectivity true in
inductive TV where
 |int (i:Int)
 |str (x:Str)
 |fn (name:Str) (params:jbr) (body:List Stmt) (sc:jaF)
 |dictI (l:List (Int×Str))
 |dictS (l:List (Str×Int))
 |set (l:List Int) (a b:Int)
def rj(fd:jaC)(name:Str)(params:jbr)(body:List Stmt)(sc:jaF)(c':Zi):Prop:=∃bF pm bZ,fd=fnX name name params body sc [] .none .none bF pm none (.ref c') bZ
def rk(ts:List (Zi×Zi))(h:jao)(name:Str)(params:jbr)(body:List Stmt)(sc:jaF)(v:Value):Prop :=
 ∃a fd c' P',v=.ref a/\h.get? a=some {cls:=.type "function",data:=.func fd}/\rj fd name params body sc c'/\h.CodeRec (.ref c') name/\jfY h c' P'/\h.get? P'=some (jdT #[])/\(c',P')∈ts
def i4(ts:List (Zi×Zi))(h:jao):TV->Value->Prop
 | .int i,v=>∃t,v=.int i t
 | .str x,v=>∃t,v=.str x t
 | .fn name params body sc,v=>rk ts h name params body sc v
 | .dictI l,v=>∃a aJ,v=.ref a/\a≠Zs/\(a==jah)=false/\h.DictOf (jat af wd) a aJ/\eV (l.map λe=>(e.1,λu=>∃t,u=.str e.2 t)) aJ
 | .dictS l,v=>∃a aJ,v=.ref a/\a≠Zs/\(a==jah)=false/\h.DictOf (strKind af wd) a aJ/\eV (l.map λe=>(e.1,λu=>∃t,u=.int e.2 t)) aJ
 | .set l a b,v=>∃d S n,v=.ref d/\h.SetOf (jat af wd) d S n/\∀k,S k=(l++gP a 1 (b-a).toNat).any (·==k)
structure gX(mg:Str->Option Value) (c Pl:Zi) (ps:Array Value) (h:jao):Prop where
 g:h.Ns Zs mg
 code:jfY h c Pl
 tab:h.get? Pl=some (jdT ps)
 tri:TriplesOk ps.toList
 low:Zs<c/\Zs<Pl
 bmod:h.BuiltinsAt mg Pl
structure gW(aL:jao) (bC:Str->Option Value) (c Pl:Zi) (E:List (Str×TV)) (lp:List Pos) (h:jao):Prop where
 ex:∃mg ps ts l,gX mg c Pl ps h/\ps.toList=triples l/\l.map (·.1)=lp/\(ts.map (·.2)).Nodup/\(∀t∈ts,t.2≠Pl/\t.2<h.objs.size) /\
  (∀x tv,E.lookup x=some tv->∃v,mg x=some v/\i4 ts h tv v)/\(∀x,E.lookup x=none->mg x=bC x)
 old:∀b o,b≠Zs->aL.get? b=some o->h.get? b=some o
 sz:aL.objs.size<=h.objs.size
 pl:aL.objs.size<=Pl
 sys:jah<aL.objs.size
section
def rh(Pl:Zi)(h h':jao):Prop:=∀b o,b≠Pl->b≠Zs->h.get? b=some o->h'.get? b=some o
theorem uZ(T:gX mg c Pl ps h)(hk:rh Pl h h')(e:h.get? b=some o)(hb:b≠Zs)(hd:(∀vs,o.data≠.fields vs)\/o.cls≠.none):h'.get? b=some o :=
 hk b o (λq=>by
  have eo:o=jdT ps:=Y7 (e.symm.trans (q▸T.tab));rw[eo]at hd;exact hd.elim (λhd=>hd _ rfl) λhd=>hd rfl) hb e
theorem wi(T:gX mg c Pl ps h)(e:h.get? b=some o)(hd:∀es ep,o.data≠.dict es ep):b≠Zs:=λq=>by
 refine kf T.g λog es ep eg PC Y=>?_;exact hd _ _ (Y7 (e.symm.trans (q▸eg))▸PC)
theorem rk.keeps(T:gX mg c Pl ps h)(lf:∀t∈ts,t.2≠Pl)(hk:rh Pl h h')(jP:∀t∈ts,t∈t5)(r:rk ts h name params body sc v):rk t5 h' name params body sc v:=by
 refine n8 r λa fd c' P' e1 e2 e3 e4 e5 e6 e7=>?_;obtain⟨o,vs,sy,tf,flags,tg,td,dO,tt,f1,f2,f3,f4⟩:=e5;have kc:h'.get? c'=some o:=uZ T hk f1 (wi T f1 λY Y q=>nomatch f3.symm.trans q) (.inr (by refine aa f2 ?_;exact λq=>nomatch q));refine⟨a,fd,c',P',e1,uZ T hk e2 (wi T e2 λY Y q=>nomatch q) (.inl λY q=>nomatch q),e3,?_,⟨o,vs,sy,tf,flags,tg,td,dO,tt,kc,f2,f3,f4⟩,hk P' _ (lf _ e7) (wi T e6 λY Y q=>nomatch q) e6,jP _ e7⟩;refine qb e4 λCF He XD oX g1 g2 g3 g4=>?_;have gc:=jdM g1;have go:=Y7 ((gc▸f1).symm.trans g2);exact⟨c',o,XD,oX,rfl,kc,go▸g3,g4⟩
theorem DictOf.top{h h':jao}{K:Type}[DecidableEq K]{bo:KeyKind af wd K}(T:gX mg c Pl ps h)(hk:rh Pl h h'){a:Zi}{aJ:List (K×Value)}(ha:a≠Zs)(r:h.DictOf bo a aJ):h'.DictOf bo a aJ:=by
 refine kX r λo es ep e hx hd r=>?_;exact⟨o,es,ep,uZ T hk e ha (.inl λY q=>nomatch hd.symm.trans q),hx,hd,r⟩
theorem SetOf.top{h h':jao}{K:Type}[DecidableEq K]{bo:KeyKind af wd K}(T:gX mg c Pl ps h)(hk:rh Pl h h'){a:Zi}{S:K->Bool}{n:Nat}(r:h.SetOf bo a S n):h'.SetOf bo a S n:=by
 refine qb r λo es ep t e hx hd r=>?_;exact⟨o,es,ep,t,uZ T hk e (wi T e λY Y q=>nomatch hd.symm.trans q) (.inl λY q=>nomatch hd.symm.trans q),hx,hd,r⟩
theorem i4.keeps(T:gX mg c Pl ps h)(lf:∀t∈ts,t.2≠Pl)(hk:rh Pl h h')(jP:∀t∈ts,t∈t5){tv:TV}{v:Value}(r:i4 ts h tv v):i4 t5 h' tv v:=by
 cases tv with
 |int i=>exact r
 |str x=>exact r
 |fn name params body sc=>exact rk.keeps T lf hk jP r
 |dictI l=>exact r.elim λa r=>r.elim λaJ r=>⟨a,aJ,r.1,r.2.1,r.2.2.1,DictOf.top T hk r.2.1 r.2.2.2.1,r.2.2.2.2⟩
 |dictS l=>exact r.elim λa r=>r.elim λaJ r=>⟨a,aJ,r.1,r.2.1,r.2.2.1,DictOf.top T hk r.2.1 r.2.2.2.1,r.2.2.2.2⟩
 |set l a b=>exact r.elim λd r=>r.elim λS r=>r.elim λn r=>⟨d,S,n,r.1,SetOf.top T hk r.2.1,r.2.2⟩
structure lH(x:Str):Prop where
 loc:af.main.scope.names.lookup x=some .local
 nb:x ≠ "__builtins__"
 qual:jen {scope:=af.main.scope,locals:=Zs,globals:=Zs,cells:=[]} x x=x
theorem gX.store{h':jao}{x:Str}{v:Value}(T:gX mg c Pl ps h)(hx:x ≠ "__builtins__") (hn:h'.Ns Zs (λy=>if y=x then some v else mg y)) (hs:Z' Zs h h'):gX (λy=>if y=x then some v else mg y) c Pl ps h':=by
 have ex:=hs.extBut;have kp:∀b o,b≠Zs->h.get? b=some o->h'.get? b=some o:=ex;refine qa T.bmod λbm o b1 b2 b3 b4 b5 b6=>?_;refine⟨hn,?_,kp _ _ (jaZ T.low.2) T.tab,T.tri,T.low,bm,o,?_,b2,b3,b4,kp _ _ b3 b5,b6⟩
 ·obtain⟨o,vs,sy,tf,flags,tg,td,dO,tt,f1,r⟩:=T.code;exact⟨o,vs,sy,tf,flags,tg,td,dO,tt,kp _ _ (jaZ T.low.1) f1,r⟩
 ·show(if("__builtins__":Str)=x then _ else _)=_;refine aa (if_neg (jeI hx)) ?_;exact b1
theorem gX.keeps(T:gX mg c Pl ps h)(hk:gj h h'):gX mg c Pl ps h':=by
 refine qa T.bmod λbm o b1 b2 b3 b4 b5 b6=>?_;exact⟨T.g.keeps hk,T.code.keeps hk,hk _ _ T.tab,T.tri,T.low,bm,o,b1,b2,b3,b4,hk _ _ b5,b6⟩
structure i5(aL:jao) (bC:Str->Option Value) (c Pl:Zi) (E:List (Str×TV)) (lp:List Pos) (h:jao) (mg:Str->Option Value) (ps:Array Value) (ts:List (Zi×Zi)) (l:List (Pos×Zi)):Prop where
 S:gX mg c Pl ps h
 e1:ps.toList=triples l
 e2:l.map (·.1)=lp
 e3:(ts.map (·.2)).Nodup
 e4:∀t∈ts,t.2≠Pl/\t.2<h.objs.size
 e5:∀x tv,E.lookup x=some tv->∃v,mg x=some v/\i4 ts h tv v
 e6:∀x,E.lookup x=none->mg x=bC x
 old:∀b o,b≠Zs->aL.get? b=some o->h.get? b=some o
 sz:aL.objs.size<=h.objs.size
 pl:aL.objs.size<=Pl
 sys:jah<aL.objs.size
theorem gW.x(R:gW aL bC c Pl E lp h):∃mg ps ts l,i5 aL bC c Pl E lp h mg ps ts l :=
 R.ex.elim λmg r=>r.elim λps r=>r.elim λts r=>r.elim λl r=>⟨mg,ps,ts,l,r.1,r.2.1,r.2.2.1,r.2.2.2.1,r.2.2.2.2.1,r.2.2.2.2.2.1,r.2.2.2.2.2.2,R.old,R.sz,R.pl,R.sys⟩
theorem i5.r(X:i5 aL bC c Pl E lp h mg ps ts l):gW aL bC c Pl E lp h:=⟨⟨mg,ps,ts,l,X.S,X.e1,X.e2,X.e3,X.e4,X.e5,X.e6⟩,X.old,X.sz,X.pl,X.sys⟩
theorem i5.keeps(X:i5 aL bC c Pl E lp h mg ps ts l)(hk:gj h h')(hz:h.objs.size<=h'.objs.size):i5 aL bC c Pl E lp h' mg ps ts l :=
 { X with
   S:=X.S.keeps hk
   e4:=λt ht=>⟨(X.e4 t ht).1,bf (X.e4 t ht).2 hz⟩
   e5:=λx tv e=>(X.e5 x tv e).elim λv r=>aO v r.1 (r.2.keeps X.S (λt ht=>(X.e4 t ht).1) (λb o Y Y e=>hk b o e) λY h=>h)
   old:=λb o hb e=>hk b o (X.old b o hb e)
   sz:=Y5 X.sz hz}
theorem SO{E:List (Str×TV)}{x:Str}{tv:TV}{C:Str->TV->Prop}(h0:C x tv)(h:∀y nC,y≠x->E.lookup y=some nC->C y nC)(y:Str)(nC:TV)(e:jeh y ((x,tv)::E)=some nC):C y nC:=by
 rw[Z1]at e;by_cases q:y=x
 ·subst q;rw[beq_self_eq_true]at e;exact aG e h0
 ·rw[beq_eq_false_iff_ne.mpr q]at e;exact h y nC q e
theorem GC{E:List (Str×TV)}(e:jeh y ((x,tv)::E)=none):y≠x/\E.lookup y=none:=by
 rw[Z1]at e;by_cases q:y=x
 ·subst q;rw[beq_self_eq_true]at e;exact nomatch e
 ·rw[beq_eq_false_iff_ne.mpr q]at e;exact⟨q,e⟩
theorem i5.store{h':jao}{l:List (Pos×Zi)}{x:Str}{v:Value}{tv:TV}(X:i5 aL bC c Pl E lp h mg ps ts l)(hx:x ≠ "__builtins__") (hv:i4 ts h tv v) (hn:h'.Ns Zs (λy=>if y=x then some v else mg y)) (hs:Z' Zs h h'):
 i5 aL bC c Pl ((x,tv)::E) lp h' (λy=>if y=x then some v else mg y) ps ts l :=
 have kp:∀{tv v},i4 ts h tv v->i4 ts h' tv v:=λr=>r.keeps X.S (λt ht=>(X.e4 t ht).1) (λb o Y hb e=>hs.extBut b o hb e) λY h=>h
 { X with
   S:=X.S.store hx hn hs
   e4:=λt ht=>⟨(X.e4 t ht).1,by rw[hs.1];exact(X.e4 t ht).2⟩
   e5:=SO (C:=λy tv=>∃u,(if y=x then some v else mg y)=some u/\i4 ts h' tv u) ⟨v,if_pos rfl,kp hv⟩ λy nC q e=>(X.e5 y nC e).elim λu r=>aO u ((if_neg q).trans r.1) (kp r.2)
   e6:=λy e=>(if_neg (GC e).1).trans (X.e6 y (GC e).2)
   old:=λb o hb e=>hs.extBut b o hb (X.old b o hb e)
   sz:=Y5 X.sz (ZP hs.1.symm)}
theorem Ii{s:Y8}{l:List (Pos×Zi)}{x:Str}{v:Value}{tv:TV}{Q:Unit->Y8->Prop}{Er:Value->Y8->Prop}(cF:af.main.scope.kind=.module)(N:lH x)(X:i5 aL bC c Pl E lp s.heap mg ps ts l)(hv:i4 ts s.heap tv v)(hQ:∀h' tk,gW aL bC c Pl ((x,tv)::E) lp h'->Q () {s with heap:=h',toks:=tk}):Zd (Zf af wd) A (jdC (jcq af c F) x v) Q Er s :=
 jiB (m:=mg) N.loc X.S.g (λh' hn hs=>hQ _ _ (X.store N.nb hv hn hs).r) (by
  show(af.main.scope.kind==.class||(af.main.scope.kind==.module&&Zs != Zs))=false;refine aa cF ?_;rfl)
theorem tZ(cF:af.main.scope.kind=.module)(N:lH x)(R:gW aL bC c Pl E lp aY)(hk:gj aY s.heap)(hz:aY.objs.size<=s.heap.objs.size)(hv:∀ts,i4 ts s.heap tv v)(hQ:∀h' tk,gW aL bC c Pl ((x,tv)::E) lp h'->Q () {s with heap:=h',toks:=tk}):
 Zd (Zf af wd) A (jdC (jcq af c F) x v) Q Er s :=
 R.x.elim λmg r=>r.elim λps r=>r.elim λts r=>r.elim λl X=>Ii cF N (X.keeps hk hz) (hv ts) hQ
def mB(aL:jao)(bC:Str->Option Value)(c Pl F:Zi)(st:Stmt)(E:List (Str×TV))(lp:List Pos)(E':List (Str×TV))(SS:List Pos):Prop :=
 ∀(A:ZZ) (s:Y8) (Q:jeH->Y8->Prop) (Er:Value->Y8->Prop),A.handled=none->0<s.toks->gW aL bC c Pl E lp s.heap->(∀h' tk,gW aL bC c Pl E' SS h'->Q .next {s with heap:=h',toks:=tk}) ->
  Zd (Zf af wd) A (Z4 st (jcq af c F)) Q Er s
theorem WN(cF:af.main.scope.kind=.module)(N:lH x):mB aL bC c Pl F (.Assign [.Name x p] (.Constant (.int i) k q) r) E lp ((x,.int i)::E) lp:=by
 intro A s Q Er _ _ R h;refine jbD (jcH rfl λv tk hv=>?_) rfl;exact tZ (tv:=.int i) cF N R (λY Y e=>e) (Y9 _) (λts=>hv) λh' tk R'=>h h' tk R'
theorem WP(cF:af.main.scope.kind=.module)(N:lH x):mB aL bC c Pl F (.Assign [.Name x p] (.Constant (.str i) k q) r) E lp ((x,.str i)::E) lp:=by
 intro A s Q Er _ _ R h;refine jbD (jcH rfl λv tk hv=>?_) rfl;exact tZ (tv:=.str i) cF N R (λY Y e=>e) (Y9 _) (λts=>hv) λh' tk R'=>h h' tk R'
theorem i5.made(X:i5 aL bC c Pl E lp h mg ps ts l)(Qo:ob={cls:=.type "function",dict:=none,data:=.func (fnX name name params body sc [] .none .none bF nm none (.ref c') .none)}) (hx:∀b o,b≠Pl->h.get? b=some o->aY.get? b=some o) (hz:h.objs.size<=aY.objs.size) (y3:jfY aY c Pl) (y8:aY.get? Pl=some (jdT (ps++#[jem pos.line,jem pos.col,.ref c']))) (lc:aY.CodeRec (.ref c') name) (hP:h.objs.size<=P') (y4:jfY aY c' P') (ht:aY.get? P'=some (jdT #[])):
 i5 aL bC c Pl E (lp++[pos]) (aY.push ob) mg (ps++#[jem pos.line,jem pos.col,.ref c']) ((c',P')::ts) (l++[(pos,c')])/\i4 ((c',P')::ts) (aY.push ob) (.fn name params body sc) (.ref aY.objs.size):=by
 have up:∀{b o},aY.get? b=some o->(aY.push ob).get? b=some o:=λe=>Zh _ e;have Pe:Pl<h.objs.size:=Zz X.S.tab;have be:(aY.push ob).objs.size=aY.objs.size+1:=ZS ..;have zo:Zs≠Pl:=jaI X.S.low.2;refine⟨{
  S:=?_
  e1:=by rewrite [triples_append];refine rwj X.e1 ?_;simp
  e2:=by refine aa ZW ?_;refine aa X.e2 ?_;rfl
  e3:=jaP.mpr ⟨λq=>(Zq.mp q).elim λt e=>Zv _ (bf (X.e4 t e.1).2 (Y5 hP (ZP e.2.symm))),X.e3⟩
  e4:=jhE.mpr ⟨⟨jaZ (bf Pe hP),by refine aa be ?_;exact jdc (Zz ht)⟩,λt ht=>⟨(X.e4 t ht).1,by refine aa be ?_;exact jdc (bf (X.e4 t ht).2 hz)⟩⟩
  e5:=λx tv e=>(X.e5 x tv e).elim λv r=>aO v r.1 (r.2.keeps X.S (λt ht=>(X.e4 t ht).1) (λb o hb Y e=>up (hx b o hb e)) λt ht=>ZB _ ht)
  e6:=X.e6
  old:=λb o hb e=>up (hx b o (λq=>Z0.mpr X.pl (q▸Zz e)) (X.old b o hb e))
  sz:=by refine aa be ?_;exact jel (Y5 X.sz hz)
  pl:=X.pl
  sys:=X.sys},aY.objs.size,_,c',P',rfl,?_,⟨bF,nm,.none,rfl⟩,lc.push _,y4.keeps λb o e=>up e,up ht,Zj⟩
 ·refine qa X.S.bmod λbm o b1 b2 b3 b4 b5 b6=>?_;exact⟨(X.S.g.extBut hx zo).push _,y3.keeps λb o e=>up e,up y8,by simpa using TriplesOk_snoc _ _ _ _ X.S.tri,X.S.low,bm,o,b1,b2,b3,b4,up (hx _ _ b4 b5),b6⟩
 ·refine aa Qo ?_;exact Z3 _ rfl
theorem S4(T:gX mg c Pl ps s.heap)(zn:jda sc (jcq af c F)=pure [])(zB:codeAmong pos ps.toList=none)(h:∀c' P' aY tk bF nm,(∀b o,b≠Pl->s.heap.get? b=some o->aY.get? b=some o)->s.heap.objs.size<=aY.objs.size->jfY aY c Pl->aY.get? Pl=some (jdT (ps++#[jem pos.line,jem pos.col,.ref c']))->aY.CodeRec (.ref c') name->s.heap.objs.size<=P'->jfY aY c' P'->aY.get? P'=some (jdT #[]) ->
 Q (.ref aY.objs.size) {s with heap:=aY.push {cls:=.type "function",dict:=none,data:=.func (fnX name name params body sc [] .none .none bF nm none (.ref c') .none)},toks:=tk}):
 Zd (Zf af wd) A (makeFunction name name params (.stmts body) sc (jcq af c F) [] [] [] pos fl) Q Er s:=by
 rw[makeFunction_eq];simp only[jfr,List.filterMap_nil,jiJ,if_true,pure_bind];unfold makeTail;refine aa zn ?_;refine Zc (ZC ?_);simp only[jiJ,if_true];refine Zc (ZC (Zc (wpAny_functionCodeX (env:=jcq af c F) rfl (T.code.code T.tab T.tri) (T.code.tab T.tab) zB λc' aY tk hx lY a0 bY lc FN dZ=>?_)));refine fq dZ λP' n1 n2 n3=>?_;have E3:=T.g.extBut hx (jaI T.low.2);have hh:=λtk bF nm=>h c' P' aY tk bF nm hx (Y5 lY (ZO a0)) (jif bY FN) FN.2 lc n1 (jif n2 n3) n3.2;refine DE T.bmod λbm o b1 b2 b3 b4 b5 b6 b7 b8=>?_;refine Zc (wpAny_builtinsFor (globals:=Zs) E3 b1 b2 (hx _ _ b4 b5) b6 b7 b8 (Zc (jiQ (a:=Zs) E3 ?_)))
 induction docOf body using ae with
 |none=>exact Zc (ZC (jgh (hh _ _ _) (by size_fits)))
 |some t=>exact Zc (wpAny_mkText (jgh (hh _ _ _) (by size_fits)))
theorem WK(cF:af.main.scope.kind=.module)(N:lH name)(k9:params.defaults=[])(zt:params.kw_defaults=[])(ha:jhr params none (jcq af c F)=[])(zn:jda sc (jcq af c F)=pure [])(km:∀q∈lp,¬(q.line=pos.line/\q.col=pos.col)):mB aL bC c Pl F (.FunctionDef name params body [] none [] sc none name pos) E lp ((name,.fn name params body sc)::E) (lp++[pos]):=by
 intro A s Q Er _ _ R h;refine DF R.x λmg ps ts l X=>?_;have T:=X.S;refine nestDef_K k9 zt ha ?_;refine aa (show jen (jcq af c F) name name=name from N.qual) ?_;have zB:codeAmong pos ps.toList=none:=by
  refine aa X.e1 ?_;exact codeAmong_triples pos l λq hq=>km q.1 (X.e2▸Zq.mpr ⟨q,hq,rfl⟩)
 refine S4 T zn zB λc' P' aY tk bF nm hx hz y3 y8 lc n1 y4 ht=>?_;have XM:=X.made (ob:=_) (bF:=bF) (nm:=nm) rfl hx hz y3 y8 lc n1 y4 ht (params:=params) (body:=body) (sc:=sc);exact Ii cF N XM.1 XM.2 h
end
theorem B1:∀{l:List Arg},l.all (λa=>a.annotation.isNone)=true->annotationsOf l ab=[]
 | [],_=>rfl
 |⟨_,none,_⟩::l,h=>B1 (l:=l) h
 |⟨_,some _,_⟩::_,h=>nomatch (show false=true from h)
theorem Jo(h1:params.args.all (λa=>a.annotation.isNone)=true)(h2:params.posonlyargs=[])(h3:params.vararg=none)(h4:params.kwonlyargs=[])(h5:params.kwarg=none):jhr params none ab=[]:=by
 obtain⟨po,a,va,ko,kd,Sb,d⟩:=params;cases(h2:po=[]);cases(h3:va=none);cases(h4:ko=[]);cases(h5:Sb=none);unfold jhr;show annotationsOf (a++[]++[]++[]++[]) ab++_=[];rw[Z6,Z6,Z6,Z6,B1 h1];rfl
inductive nF:List (Option Expr)->List Expr->List (Int×Str)->Prop
 |nil:nF [] [] []
 |cons {k:Int}{x:Str}{u u':Nat}{p p':Pos}{ks:List (Option Expr)}{vs:List Expr}{l:List (Int×Str)} (r:nF ks vs l):nF (some (.Constant (.int k) u p)::ks) (.Constant (.str x) u' p'::vs) ((k,x)::l)
def CE:(ks:List (Option Expr))->(vs:List Expr)->Option {l:List (Int×Str)//nF ks vs l}
 | [],[]=>some ⟨[],.nil⟩
 |some (.Constant (.int k) _ _)::ks,.Constant (.str x) _ _::vs=>match CE ks vs with
  |some ⟨l,h⟩=>some ⟨(k,x)::l,.cons h⟩
  |none=>none
 |_,_=>none
def nx:List (Int×Str)->Bool
 |a::b::l=>decide (a.1<b.1)&&nx (b::l)
 |_=>true
theorem HQ:nx (a::b::l)=(decide (a.fst<b.fst)&&nx (b::l)):=rfl
theorem HO:∀{a:Int×Str}{l:List (Int×Str)},nx (a::l)=true->∀b∈l,a.1<b.1
 |a,[],_=>λb hb=>nomatch hb
 |a,c::l,h=>λb hb=>by
  rw[HQ]at h;rw[ZA]at h;have h1:=of_decide_eq_true h.1;rcases ZT.mp hb with rfl|hb
  ·exact h1
  ·exact Int.lt_trans h1 (HO h.2 b hb)
theorem HP:∀{l:List (Int×Str)},nx l=true->(l.map (·.1)).Nodup
 | [],_=>jaW
 | [a],_=>by simp
 |a::b::l,h=>by
  have h0:=h;rw[HQ]at h;rw[ZA]at h;rw[ZG,jaP];refine⟨λq=>?_,HP h.2⟩;refine au (Zq.mp q) λe he e1=>?_;have:=HO h0 e he
  lia
section
def vZ(ab:Env)(pos:Pos)(ks:List (Option Expr))(vs:List Expr):List (Option (Sem Value)×Sem Value):=(evalEachOpt ks ab).zip ((evalEach vs ab).map λv=>do let x <-v;jfx pos;pure x)
theorem LO(h:nF ks vs l):
 ∃ps,vZ ab pos ks vs=ps.map (λp=>(some p.1,p.2))/\eX (jat af wd) A hh ps (l.map λe=>(e.1,λu=>∃t,u=.str e.2 t)):=by
 induction h with
 |nil=>exact aO [] rfl (.nil)
 | @cons k x u1 u2 p1 p2 ks vs m _ ih =>
  refine au ih λps e1 e2=>?_;refine aO ((jae (.Constant (.int k) u1 p1) ab,do let x <-jae (.Constant (.str x) u2 p2) ab;jfx pos;pure x)::ps) (congrArg (_::·) e1) (.cons (λE s Q hx hQ=>?_) e2);refine jcH rfl λv tk hv=>Zc (jcH rfl λu iu hu=>Zc (jbe (ZC ?_)));refine aX (show∃t,v=.int k t from hv) ?_;rintro t rfl;exact hQ _ _ _ (jeo _ _ _ _) hu
theorem WL(cF:af.main.scope.kind=.module)(N:lH x)(hl:nF ks vs l)(hs:nx l=true)(aN:l.length<=1000)(cV:l≠[]):
 mB aL bC c Pl F (.Assign [.Name x p] (.Dict ks vs q) r) E lp ((x,.dictI l)::E) lp:=by
 intro A s Q Er _ _ R h;refine au (LO (A:=A) (ab:=jcq af c F) (pos:=q) (hh:=s.heap) hl) λps e1 e2=>?_;refine jbD ?_ (by rfl);rw[arm_eval_Dict];refine Zc (jbe ?_);have iK:jah<s.heap.objs.size:=bf R.sys R.sz;have oz:=e2.length;rw[Y4]at oz;show Zd (Zf af wd) A (jgU (vZ (jcq af c F) q ks vs)) _ Er _;rw[e1];refine CZ e2 iK (wL oz aN) (λq=>?_) ?_ λD aJ h' tk g1 g2 g3 g4 g5=>?_
 ·subst q;exact cV (Z7.mp oz.symm)
 ·rw[ZN];exact HP hs
 ·have hg:Zs<s.heap.objs.size:=by
   refine n7 R.ex λmg ps ts l T Y=>?_;exact T.g.lt
  exact tZ (tv:=.dictI l) cF N R g4 g5 (λts=>⟨D,aJ,rfl,jaZ (bf hg g1),beq_eq_false_iff_ne.mpr (jaZ (bf iK g1)),g3,g2⟩) λh' tk R'=>h h' tk R'
inductive nK(E:List (Str×TV)):List (Option Expr)->List Expr->List (Str×Int)->Prop
 |nil:nK E [] [] []
 |cons {k x:Str}{i:Int}{u:Nat}{p p':Pos}{ks:List (Option Expr)}{vs:List Expr}{l:List (Str×Int)} (hx:E.lookup x=some (.int i)) (hd:(x==("__debug__":Str))=false) (r:nK E ks vs l):
  nK E (some (.Constant (.str k) u p)::ks) (.Name x p'::vs) ((k,i)::l)
def RM(E:List (Str×TV))(x:Str):Option {i:Int//E.lookup x=some (.int i)}:=match E.lookup x with
 |some (.int i)=>some ⟨i,rfl⟩
 |_=>none
def GV(E:List (Str×TV)):(ks:List (Option Expr))->(vs:List Expr)->Option {l:List (Str×Int)//nK E ks vs l}
 | [],[]=>some ⟨[],.nil⟩
 |some (.Constant (.str k) _ _)::ks,.Name x _::vs=>match RM E x with
  |some ⟨i,hx⟩=>if hd:(x==("__debug__":Str))=false then(match GV E ks vs with
   |some ⟨l,h⟩=>some ⟨(k,i)::l,.cons hx hd h⟩
   |none=>none)else none
  |none=>none
 |_,_=>none
theorem LR(cF:af.main.scope.kind=.module)(R:gW aL bC c Pl E lp hh)(h:nK E ks vs l):
 ∃ps,vZ (jcq af c F) pos ks vs=ps.map (λp=>(some p.1,p.2))/\eX (strKind af wd) A hh ps (l.map λe=>(e.1,λu=>∃t,u=.int e.2 t)):=by
 refine n8 R.ex λmg qs ts l T Y Y Y Y e5 Y=>?_;clear R
 induction h with
 |nil=>exact aO [] rfl (.nil)
 | @cons k x i u1 p1 p2 ks vs m hx hd _ ih =>
  refine au ih λps e1 e2=>?_;refine aO ((jae (.Constant (.str k) u1 p1) (jcq af c F),do let x <-jae (.Name x p2) (jcq af c F);jfx pos;pure x)::ps) (congrArg (_::·) e1) (.cons (λEr s Q hk hQ=>?_) e2);obtain⟨v,hv,tv,rfl⟩:=e5 x _ hx;refine jcH rfl λu tk hu=>Zc (jfQ cF rfl (jfi (mg:=mg) ((T.keeps hk).g) hv (Zc (jbe (ZC ?_)))) hd);refine aX (show∃t,u=.str k t from hu) ?_;rintro t rfl;exact hQ _ _ _ (strKind_is _ _ _ _) ⟨tv,rfl⟩
theorem WM(cF:af.main.scope.kind=.module)(N:lH x)(hl:nK E ks vs l)(hs:(l.map (·.1)).Nodup)(aN:l.length<=1000)(cV:l≠[]):
 mB aL bC c Pl F (.Assign [.Name x p] (.Dict ks vs q) r) E lp ((x,.dictS l)::E) lp:=by
 intro A s Q Er _ _ R h;refine au (LR (A:=A) (F:=F) (pos:=q) cF R hl) λps e1 e2=>?_;refine jbD ?_ (by rfl);rw[arm_eval_Dict];refine Zc (jbe ?_);have iK:jah<s.heap.objs.size:=bf R.sys R.sz;have oz:=e2.length;rw[Y4]at oz;show Zd (Zf af wd) A (jgU (vZ (jcq af c F) q ks vs)) _ Er _;rw[e1];refine CZ e2 iK (wL oz aN) (λq=>?_) ?_ λD aJ h' tk g1 g2 g3 g4 g5=>?_
 ·subst q;exact cV (Z7.mp oz.symm)
 ·rw[ZN];exact hs
 ·have hg:Zs<s.heap.objs.size:=by
   refine n7 R.ex λmg ps ts l T Y=>?_;exact T.g.lt
  exact tZ (tv:=.dictS l) cF N R g4 g5 (λts=>⟨D,aJ,rfl,jaZ (bf hg g1),beq_eq_false_iff_ne.mpr (jaZ (bf iK g1)),g3,g2⟩) λh' tk R'=>h h' tk R'
end
inductive nI:List Expr->List Int->Prop
 |nil:nI [] []
 |cons {k:Int}{u:Nat}{p:Pos}{es:List Expr}{l:List Int} (r:nI es l):nI (.Constant (.int k) u p::es) (k::l)
def F9:(es:List Expr)->Option {l:List Int//nI es l}
 | []=>some ⟨[],.nil⟩
 | .Constant (.int k) _ _::es=>match F9 es with
  |some ⟨l,h⟩=>some ⟨k::l,.cons h⟩
  |none=>none
 |_=>none
section
abbrev φ0:Gh:=λY Y=>False
abbrev P0:Zi->Prop:=λY=>True
theorem Ie(h:0<s.toks):aW φ0 s:=⟨λY Y Y h=>h.elim,λY Y h=>h.elim,λY Y h=>h.elim,h⟩
theorem OK:fD s P0:=λY Y=>trivial
theorem Ga(h:nI es is):∀{s:Y8},
 Zd (Zf af wd) A (jcp (jcr pos (jaw es ab))) (λxs s'=>(∃tk,s'={s with toks:=tk})/\ar 0 φ0 s'.heap [] P0 (is.map .int) xs) ax s:=by
 induction h with
 |nil=>exact jdq ⟨⟨_,rfl⟩,.nil⟩
 | @cons k u p es is _ ih =>
  intro s;refine jcI (jcH rfl λv tk hv=>?_) rfl;refine aX (show∃t,v=.int k t from hv) ?_;rintro t rfl;refine up ih λxs s' ⟨⟨iu,e⟩,r⟩=>?_;subst e;exact⟨⟨_,rfl⟩,.cons (.int _ _) r⟩
theorem Ab:∀{is:List Int}{xs:List Value},ar 0 φ h [] P0 (is.map .int) xs->jix xs is
 | [],_,r=>by refine aa r.unnil ?_;exact .nil
 |i::is,_,r=>by
  refine bS r.uncons ?_;rintro x ys rfl a q;refine aX a.intv ?_;rintro t rfl;exact .cons i t (Ab q)
theorem RO(q:jix xs is)(r:jix ys js):jix (xs++ys) (is++js):=by
 induction q with
 |nil=>exact r
 |cons i t _ ih=>exact .cons i t ih
theorem AB(cF:af.main.scope.kind=.module)(hg:s.heap.Ns Zs mg)(hn:mg x=none)(hb:s.heap.Ns jai mb)(hv:mb x=some v)(hd:(x==("__debug__":Str))=false) (h:Q v s):
 Zd (Zf af wd) A (jae (.Name x p) (jcq af c F)) Q Er s :=
 jfQ cF rfl (jfa hg hn hb hv h) hd
theorem N3(ns:List Int)(k:Int):(firstMet (λi=>ns.getD i 0) ns.length).any (·==k)=ns.any (·==k):=by
 rw[firstMet_any]
 congr 1
 apply jew
 ·simp
 ·intro i h1 h2;simp at h1;simp[h2]
theorem WO(cF:af.main.scope.kind=.module)(N:lH x)(hl:nI es is)(QE:fQ a b 1=some rs)(QF:rs=gP a 1 (b-a).toNat)(aN:is.length+rs.length<=1000)(hb:aL.Ns jai mb)(m1:mb "set" = some (.type "set")) (m2:mb "list" = some (.type "list")) (m3:mb "range" = some (.type "range")) (n1:E.lookup ("set":Str)=none/\bC "set" = none) (n2:E.lookup ("list":Str)=none/\bC "list" = none) (n3:E.lookup ("range":Str)=none/\bC "range" = none):
 mB aL bC c Pl F (.Assign [.Name x p] (.Call (.Name "set" p1) [.BinOp (.List es p2) .Add (.Call (.Name "list" p3) [.Call (.Name "range" p4) [.Constant (.int a) k1 p5,.Constant (.int b) k2 p6] [] p7] [] p8) p9] [] pa) r) E lp ((x,.set is a b)::E) lp:=by
 intro A s Q Er hA jj R h;refine n8 R.ex λmg ps ts l T Y Y Y Y Y e6=>?_;have je:s.heap.Ns jai mb:=hb.at' λo e=>R.old _ _ (by decide) e;refine jbD ?_ (by rfl);refine Call_ (AB cF T.g ((e6 _ n1.1).trans n1.2) je m1 (by decide) (callWith_type1 (jcI ?_ rfl) rfl rfl));refine jcV (jdf (eF (jav (Ga hl) (λxs ak aY Xr=>?_) λY Y e=>e.elim)));refine bN aY λz2 aF=>?_;obtain⟨YQ,rfl⟩:=z2;have YL:xs.length=is.length:=by have:=aF.length;simpa using this.symm
 refine⟨d9 (by lia),?_⟩;have kp:∀{h':jao},gj s.heap h'->h'.Ns Zs mg/\h'.Ns jai mb:=λk=>⟨T.g.keeps k,je.keeps k⟩
 generalize hH:s.heap.push {cls:=.type "list",data:=.seq xs.toArray}=H₂;have kH:gj s.heap H₂:=λb o e=>hH▸Zh _ e;have hL:H₂.PlainList s.heap.objs.size xs.toArray:=hH▸oM s.heap;have bH:ar 0 φ0 H₂ [] P0 (is.map .int) xs:=aF.ext kH;refine Call_ (AB cF (kp kH).1 ((e6 _ n2.1).trans n2.2) (kp kH).2 m2 (by decide) (callWith_type1 (jcI ?_ rfl) rfl rfl));refine Call_ (AB cF (kp kH).1 ((e6 _ n3.1).trans n3.2) (kp kH).2 m3 (by decide) (callWith_type1 (eF (jav (Ga (.cons (.cons .nil))) (λys dj lg Xs=>?_) λY Y e=>e.elim)) rfl rfl));refine bN lg λz1 jn=>?_;obtain⟨WB,rfl⟩:=z1;have I8:aW φ0 ({s with heap:=H₂,toks:=WB}:Y8):=Ie (bf (bf jj Xr.toks) Xs.toks);refine up (Hx (tk:=0) (β:=[]) (P:=P0) (A:=A) I8 (as:=[.int a,.int b]) (is:=rs) QE jn) λv eE qq=>bN qq λBM rv=>jdq ?_;refine up (Gz (tk:=0) (β:=[]) (P:=P0) hA BM.tk OK rv) λYU dN ⟨wN,I1,wu⟩=>?_;have G':=BM.trans I1;refine bA G'.grows.keeps λlh YS Nz qz=>?_;cases wu with
 | @lst _ l₅ ys hl₅ _ rl₅ =>
 have Pd:dN.heap.PlainList s.heap.objs.size xs.toArray:=hL.at λo e=>G'.ext _ _ e;have vQ:ys.length=rs.length:=by have:=rl₅.length;simpa using this.symm
 refine B0 Pd.isList hl₅.isList (d9 (by lia)) ?_;generalize y2:dN.heap.push {cls:=.type "list",data:=.seq (xs++ys).toArray}=H₆;have k6:gj dN.heap H₆:=λb o e=>y2▸Zh _ e;have Pb:H₆.PlainList dN.heap.objs.size (xs++ys).toArray:=y2▸oM dN.heap;refine jdq ?_;have hi:jix (xs++ys).toArray.toList (is++rs):=by
  refine aa jhO ?_;exact RO (Ab bH) (Ab rl₅)
 have Q':s.heap.objs.size<=H₆.objs.size:=by
  have q1:H₂.objs.size=s.heap.objs.size+1:=by refine rwj hH ?_;refine aa (ZS _ _) ?_;rfl
  have q2:H₂.objs.size<=dN.heap.objs.size:=G'.grows.size;have q3:H₆.objs.size=dN.heap.objs.size+1:=by refine rwj y2 ?_;refine aa (ZS _ _) ?_;rfl
  lia
 refine call_set_list (l:=dN.heap.objs.size) (items:=(xs++ys).toArray) (ns:=is++rs) hA Pb.isList hi ?_ λh' iu hS f8=>?_
 ·unfold scanBound;simp;lia
 ·have R9:gj s.heap h':=λb o e=>f8 b o (Zz (k6 _ _ (G'.ext _ _ (kH _ _ e)))) (k6 _ _ (G'.ext _ _ (kH _ _ e)));have NA:dN={s with heap:=dN.heap,toks:=dN.toks}:=by refine aa Nz ?_;rfl
  refine aa NA ?_;refine tZ (s:={s with heap:=h',toks:=iu}) (tv:=.set is a b) cF N R R9 ?_ (λts=>⟨_,_,_,rfl,hS,λk=>?_⟩) λh' tk R'=>h h' tk R'
  ·refine n7 hS λo Y Y Y e Y=>?_;exact Y5 Q' (ZO (Zz e))
  ·have:(xs++ys).toArray.size=(is++rs).length:=by simp;lia
   rw[this,N3,<-QF]
end
def ig(p:jdt)(x:Str):Bool:=p.main.scope.names.lookup x==some .local&&x != ("__builtins__":Str)
def wm(a:jbr)(sc:jaF):Bool:=a.defaults.isEmpty&&a.kw_defaults.isEmpty&&a.args.all (λa=>a.annotation.isNone)&&a.posonlyargs.isEmpty&&a.vararg.isNone&&a.kwonlyargs.isEmpty&&a.kwarg.isNone&&sc.names.all (λx=>x.2 != .free)
def AR(lp:List Pos)(pos:Pos):Bool:=lp.all λq=>!(q.line==pos.line&&q.col==pos.col)
abbrev gF:=List (Str×TV)×List Pos
inductive j1(p:jdt) (e:gF):Stmt->gF->Prop
 |int {x:Str}{i:Int}{k:Nat}{p1 p2 p3:Pos} (h:ig p x=true):j1 p e (.Assign [.Name x p1] (.Constant (.int i) k p2) p3) ((x,.int i)::e.1,e.2)
 |str {x i:Str}{k:Nat}{p1 p2 p3:Pos} (h:ig p x=true):j1 p e (.Assign [.Name x p1] (.Constant (.str i) k p2) p3) ((x,.str i)::e.1,e.2)
 |fn {name wf:Str}{params:jbr}{body:List Stmt}{sc:jaF}{pos:Pos} (hn:wf=name) (h1:ig p name=true) (h2:wm params sc=true) (h3:AR e.2 pos=true):
  j1 p e (.FunctionDef name params body [] none [] sc none wf pos) ((name,.fn name params body sc)::e.1,e.2++[pos])
 |dictI {x:Str}{ks:List (Option Expr)}{vs:List Expr}{l:List (Int×Str)}{p1 p2 p3:Pos} (hl:nF ks vs l) (h1:ig p x=true) (h2:nx l=true) (h3:l.length<=1000) (h4:l≠[]):j1 p e (.Assign [.Name x p1] (.Dict ks vs p2) p3) ((x,.dictI l)::e.1,e.2)
 |dictS {x:Str}{ks:List (Option Expr)}{vs:List Expr}{l:List (Str×Int)}{p1 p2 p3:Pos} (hl:nK e.1 ks vs l) (h1:ig p x=true) (h2:(l.map (·.1)).Nodup) (h3:l.length<=1000) (h4:l≠[]):j1 p e (.Assign [.Name x p1] (.Dict ks vs p2) p3) ((x,.dictS l)::e.1,e.2)
 |set {x f g h:Str}{es:List Expr}{is:List Int}{a b:Int}{k1 k2:Nat}{p1 p2 p3 p4 p5 p6 p7 p8 p9 pa pb pc:Pos} (hl:nI es is) (h1:ig p x=true) (h2:f = "set" /\ g = "list" /\ h = "range") (h5:fQ a b 1=some (gP a 1 (b-a).toNat)) (h6:is.length+(gP a 1 (b-a).toNat).length<=1000)
  (h7:e.1.lookup ("set":Str)=none/\e.1.lookup ("list":Str)=none/\e.1.lookup ("range":Str)=none):
  j1 p e (.Assign [.Name x p1] (.Call (.Name f p2) [.BinOp (.List es p3) .Add (.Call (.Name g p4) [.Call (.Name h p5) [.Constant (.int a) k1 p6,.Constant (.int b) k2 p7] [] p8] [] p9) pa] [] pb) pc) ((x,.set is a b)::e.1,e.2)
theorem G4{α:Type}{l:List α}(h:l.isEmpty=false):l≠[]:=λq=>nomatch (q▸h:([]:List α).isEmpty=false)
theorem AG{α:Type}{o:Option α}(h:o.isNone=true):o=none:=jcv.mp h
def Vp(p:jdt)(e:gF)(x:Str)(px:Pos)(l:List Expr)(pl:Pos)(gn:Str)(pg:Pos)(AP:Pos)(pos:Pos)(f:Str)(pf pb pc:Pos):(c:Expr)->Option {e':gF//j1 p e (.Assign [.Name x px] (.Call (.Name f pf) [.BinOp (.List l pl) .Add (.Call (.Name gn pg) [c] [] AP) pb] [] pc) pos) e'}
 | .Call (.Name h _) [.Constant (.int a) _ _,.Constant (.int b) _ _] [] _=>match F9 l with
  |some ⟨is,hl⟩=>if q:((ig p x=true/\f=("set":Str)/\gn=("list":Str)/\h=("range":Str))/\fQ a b 1=some (gP a 1 (b-a).toNat)/\is.length+(gP a 1 (b-a).toNat).length<=1000) /\
   (e.1.lookup ("set":Str)).isNone=true/\(e.1.lookup ("list":Str)).isNone=true/\(e.1.lookup ("range":Str)).isNone=true then some ⟨_,.set hl q.1.1.1 q.1.1.2 q.1.2.1 q.1.2.2 ⟨AG q.2.1,AG q.2.2.1,AG q.2.2.2⟩⟩else none
  |none=>none
 |_=>none
def Vo(p:jdt)(e:gF)(x:Str)(px pos:Pos)(f:Str)(pf pb pc:Pos):(l r:Expr)->Option {e':gF//j1 p e (.Assign [.Name x px] (.Call (.Name f pf) [.BinOp l .Add r pb] [] pc) pos) e'}
 | .List l pl,.Call (.Name gn pg) [c] [] AP=>Vp p e x px l pl gn pg AP pos f pf pb pc c
 |_,_=>none
def Jw(p:jdt)(e:gF)(x:Str)(px pos:Pos):(v:Expr)->Option {e':gF//j1 p e (.Assign [.Name x px] v pos) e'}
 | .Constant (.int i) _ _=>if h:ig p x=true then some ⟨_,.int h⟩else none
 | .Constant (.str i) _ _=>if h:ig p x=true then some ⟨_,.str h⟩else none
 | .Dict ks vs _=>match CE ks vs with
  |some ⟨l,hl⟩=>if h:((ig p x=true/\nx l=true)/\l.length<=1000)/\l.isEmpty=false then some ⟨_,.dictI hl h.1.1.1 h.1.1.2 h.1.2 (G4 h.2)⟩else none
  |none=>match GV e.1 ks vs with
   |some ⟨l,hl⟩=>if h:((ig p x=true/\(l.map (·.1)).Nodup)/\l.length<=1000)/\l.isEmpty=false then some ⟨_,.dictS hl h.1.1.1 h.1.1.2 h.1.2 (G4 h.2)⟩else none
   |none=>none
 | .Call (.Name f pf) [.BinOp l .Add r pb] [] pc=>Vo p e x px pos f pf pb pc l r
 |_=>none
def WH(p:jdt)(e:gF):(st:Stmt)->Option {e':gF//j1 p e st e'}
 | .Assign [.Name x px] v pos=>Jw p e x px pos v
 | .FunctionDef name params body [] none [] sc none wf pos=>if hn:wf=name then(if h:(ig p name=true/\wm params sc=true)/\AR e.2 pos=true then some ⟨_,.fn hn h.1.1 h.1.2 h.2⟩else none)else none
 |_=>none
def wD(p:jdt):List Stmt->gF->Option gF
 | [],e=>some e
 |s::ss,e=>(WH p e s).bind λr=>wD p ss r.1
section
variable {A:ZZ}{s:Y8}{h h' aL hh:jao}{mg bC mb:Str->Option Value}{c Pl F:Zi}{ps:Array Value}{ts t5:List (Zi×Zi)}{E:List (Str×TV)}{lp:List Pos}{ab:Env}
theorem qH{x:Str}(h:ig af x=true):lH x:=by
 unfold ig at h;rw[ZA]at h;have hl:=eq_of_beq h.1;refine⟨hl,by simpa using h.2,?_⟩;unfold jen;have:(({scope:=af.main.scope,locals:=Zs,globals:=Zs,cells:=[]}:Env).kindOf x)=some .local:=hl;refine aa this ?_;refine aa (if_neg (by decide)) ?_;show("":Str)++x=x;apply jhK;refine aa (jjq _ _) ?_;simp;rfl
theorem TG{sc:jaF}{ab:Env}(h:sc.names.all (λx=>x.2 != .free)=true):jda sc ab=pure []:=by
 simp only[jda];refine aa (forIn_yield_id [] (λx hx c=>by
  obtain⟨n,kind⟩:=x;rw[Y']at h;have:=h _ hx;have:(kind==jak)=false:=by simpa using this
  simp only[this,jcM,if_false])) ?_
 rfl
structure Names0(aL:jao) (bC mb:Str->Option Value):Prop where
 b:aL.Ns jai mb
 m1:mb "set" = some (.type "set")
 m2:mb "list" = some (.type "list")
 m3:mb "range" = some (.type "range")
 n1:bC "set" = none
 n2:bC "list" = none
 n3:bC "range" = none
theorem LH{name:Str}{params:jbr}{body:List Stmt}{sc:jaF}{pos:Pos}(cF:af.main.scope.kind=.module)(h1:ig af name=true)(h3:wm params sc=true)(h4:AR lp pos=true):
 mB aL bC c Pl F (.FunctionDef name params body [] none [] sc none name pos) E lp ((name,.fn name params body sc)::E) (lp++[pos]):=by
 unfold wm at h3;simp only[ZA,jdk,jcv]at h3;refine bN h3 λz1 d8=>?_;obtain⟨⟨⟨⟨⟨⟨d1,d2⟩,d3⟩,d4⟩,d5⟩,d6⟩,d7⟩:=z1;refine WK cF (qH h1) d1 d2 (Jo d3 d4 d5 d6 d7) (TG d8) λq hq ⟨a,b⟩=>?_;have:=Y'.mp h4 q hq;rw[a,b,beq_self_eq_true,beq_self_eq_true]at this;exact bP this
theorem VV(cF:af.main.scope.kind=.module)(N:Names0 aL bC mb){e e':gF}{st:Stmt}(h:j1 af e st e'):mB aL bC c Pl F st e.1 e.2 e'.1 e'.2:=by
 cases h with
 |int h=>exact WN cF (qH h)
 |str h=>exact WP cF (qH h)
 |fn hn h1 h2 h3=>refine aa hn ?_;exact LH cF h1 h2 h3
 |dictI hl h1 h2 h3 h4=>exact WL cF (qH h1) hl h2 h3 h4
 |dictS hl h1 h2 h3 h4=>exact WM cF (qH h1) hl h2 h3 h4
 |set hl h1 h2 h5 h6 h7 =>
  refine aa h2.1 ?_;refine aa h2.2.1 ?_;refine aa h2.2.2 ?_;exact WO cF (qH h1) hl h5 rfl h6 N.b N.m1 N.m2 N.m3 ⟨h7.1,N.n1⟩ ⟨h7.2.1,N.n2⟩ ⟨h7.2.2,N.n3⟩
theorem VW(cF:af.main.scope.kind=.module)(N:Names0 aL bC mb)(hA:A.handled=none){e':gF}{Q:jeH->Y8->Prop}{Er:Value->Y8->Prop}:∀{gQ:List Stmt}{e:gF}{s:Y8},wD af gQ e=some e'->0<s.toks->gW aL bC c Pl e.1 e.2 s.heap ->
 (∀h' tk,gW aL bC c Pl e'.1 e'.2 h'->s.toks<=tk->Q .next {s with heap:=h',toks:=tk})->Zd (Zf af wd) A (ZQ gQ (jcq af c F)) Q Er s:=by
 intro gQ
 induction gQ with
 |nil =>
  intro e s h ht R hQ;exact jbh (hQ s.heap s.toks (Y7 h▸R) (Y9 _))
 |cons st gQ ih =>
  intro e s h ht R hQ;refine au (jgO.mp h) λr Y h=>?_;exact ZD (eF (VV cF N r.2 A s _ _ hA ht R λh' tk R' u=>ih h (bf ht u.toks) R' λhV iu Ja eT=>hQ hV iu Ja (Y5 u.toks eT)))
end
abbrev pw:jdt:=jcN
def wC:Option gF:=wD pw pw.main.body ([],[])
theorem WG:wC.isSome=true:=by decide +kernel
def eM:List (Str×TV):=(wC.getD ([],[])).1
def sb:List Pos:=(wC.getD ([],[])).2
theorem WF:wD pw pw.main.body ([],[])=some (eM,sb):=by
 have:=WG;unfold eM sb
 induction h:wC using ae with
 |none=>rw[h]at this;cases this
 |some e=>exact h
def LW:PySem.Step->Bool
 | .halt (.done _) _=>true
 |_=>false
theorem VU{fE:Code->Sem Fin}{p:jdt}{heap:jao}{gens:Array GenState}{drawn:Drawn}{toks:Tok}{os:OsState}{cur:Sem Fin}{code:Code}{pos:Pos}{stack:List Frame}:
 LW (step fE p wd ⟨heap,gens,drawn,toks,os⟩ ⟨cur,code,pos,stack⟩)=true->through ⟨cur,code,pos,stack⟩=true:=by
 cases cur with
 |pure a =>
  cases a with
  |done f' =>
   induction stack using Y6 with
   |nil=>exact λY=>rfl
   |cons fr az=>cases fr<;>exact λh=>bP h
  |again c=>exact λh=>bP h
 |raise e =>
  induction stack using Y6 with
  |nil=>delta step finish;dsimp only;cases jdV gens<;>exact λh=>bP h
  |cons fr az=>cases fr<;>exact λh=>bP h
 |load a _ k=>delta step;dsimp only;cases heap.get? a<;>exact λh=>bP h
 |genState g k=>delta step;dsimp only;cases gens[g]?<;>exact λh=>bP h
 |finish e=>delta step;dsimp only;cases jdV gens<;>exact λh=>bP h
 |update a _ f k=>delta step;dsimp only;cases(heap.get? a).isSome<;>exact λh=>bP h
 |choose src n k=>delta step;dsimp only;cases n<;>exact λh=>bP h
 | «yield» v l p k=>delta step;dsimp only;cases splitAtGen stack<;>exact λh=>bP h
 |resume g r l k =>
  delta step;dsimp only
  induction gens[g]? using ae with
  |none=>exact λh=>bP h
  |some st =>
   cases st<;>first|exact λh=>bP h|skip
   ·cases r with
    |throw e=>exact λh=>bP h
    |send v=>cases v<;>exact λh=>bP h
 |_=>exact λh=>bP h
theorem Wz{fE:Code->Sem Fin}{p:jdt}{s s':Y8}{t:Thread}{f:jeH}(h:step fE p wd s t=.halt (.done f) s'):through t=true :=
 VU (fE:=fE) (p:=p) (heap:=s.heap) (gens:=s.gens) (drawn:=s.drawn) (toks:=s.toks) (os:=s.os) (by refine aa (show step fE p wd ⟨s.heap,s.gens,s.drawn,s.toks,s.os⟩ ⟨t.cur,t.code,t.pos,t.stack⟩=.halt (.done f) s' from h) ?_;rfl)
theorem HE:∀{n:Nat}{s:Y8}{t:Thread},runN fE p wd n s t=.halted (.done f) s'->∃m gi,runN fE p wd m s t=.running s' gi/\through gi=true
 |0,s,t,h=>by cases h
 |n+1,s,t,h=>by
  unfold runN at h;cases hs:step fE p wd s t with
  |go ak gi =>
   rw[hs]at h;refine bA (HE h) λm oX h1 h2=>?_;exact cZ (m+1) oX (by unfold runN;refine aa hs ?_;exact h1) h2
  |halt o ak =>
   rw[hs]at h;have e1:o=.done f:=by injection h
   have e2:ak=s':=by injection h
   subst e1 e2;have:=step_halt_same (den:=fE) (prog:=p) (w:=wd) _ _ _ _ hs;subst this;exact cZ 0 t rfl (Wz hs)
theorem HG:∀{m:Nat}{s:Y8}{t:Thread},s.asleep->(∀k ak gi,runN fE p wd k s t=.running ak gi->gi.calm=true)->runN fE p wd m s t=.running s' t'->schedN fE p wd m (.single s t)=.running (.single s' t')
 |0,s,t,_,_,h=>by
  injection h with h1 h2
  subst h1 h2;rfl
 |m+1,s,t,hz,hc,h=>by
  unfold runN at h;cases hs:step fE p wd s t with
  |go ak gi =>
   rw[hs]at h;have Pu:=hc 0 s t rfl;have e:sstep fE p wd (.single s t)=.go (.single ak gi):=by
    rcases sstep_single (den:=fE) (prog:=p) (w:=wd) s t Pu hz with e|e
    ·refine aa e ?_;refine aa hs ?_;rfl
    ·rw[hs]at e;cases e
   unfold schedN;refine aa e ?_;refine HG (jhg (step_life fE p wd s ak t gi hs) hz) (λk aC oX hk=>hc (k+1) aC oX ?_) h;unfold runN;refine aa hs ?_;exact hk
  |halt o ak=>rw[hs]at h;cases h
theorem Wy{t:Sem Fin}{s:Y8}{f:jeH}{R:Y8->Prop}(Qz:s.asleep)(h:Zd (Zf af wd) jil t (λfin s'=>fin=.done f/\R s'/\jdV s'.gens=false) (λY Y=>False) s):
 ∃n gi s' cO,schedN (denote table) af wd n (.single s ⟨t,.builtin "claim.caller" {},default,[]⟩)=.running (.single s' gi)/\through gi=true/\s'.forget=cO.forget/\R cO/\s'.heap.life=s.heap.life:=by
 have h':=wp_of_wpAny_done (R:=λr s'=>(r=.ok f/\R s')/\jdV s'.gens=false) caller_in
  (jav h (λY Y qq=>fY qq λe a b=>lj f e ⟨rfl,a⟩ b) λY Y x=>x.elim) default
 refine uX ((wp_iff_halts (M:=Zf af wd) (R:=λr s'=>r=.ok f/\R s') ..).mp h') λn r ak hn hR=>?_;refine fq (runNI_real _ _ _ hn (outcomeOf_ends r)) λaC hr hf hc=>?_;refine bN hR ?_;rintro rfl hR;refine bA (HE hr) λm gi h1 h2=>?_;exact z8 m gi aC ak (HG Qz hc h1) h2 hf hR (runN_life _ _ _ hr)
structure BI(aL:jao) (bC mb:Str->Option Value):Prop extends Names0 aL bC mb where
 g:aL.Ns Zs bC
 bmod:∃bm o,bC "__builtins__" = some (.ref bm)/\bm≠jai/\bm≠Zs/\aL.get? bm=some o/\o.cls=.type "module" /\ o.dict=some jai/\o.data=.plain
 sys:jah<aL.objs.size
def wE(p:jdt):Sem Fin:=do
 let code <-moduleCode p.main;let frame <-newBodyFrame code mainNs mainNs;let _ <-run (.body (behindTheImports p) {scope:=p.main.scope,locals:=mainNs,globals:=mainNs,cells:=[],code,frame:=some frame})
 ret .none
theorem WJ(p:jdt):topStub p=⟨wE p,.builtin "claim.caller" {},default,[]⟩:=rfl
theorem JP:behindTheImports pw=pw.main.body:=by rfl
theorem WQ(B:BI s.heap bC mb)(ht:0<s.toks):
 Zd (Zf pw wd) jil (wE pw) (λfin s'=>fin=.done (.ret .none)/\∃h tk c Pl,s'={s with heap:=h,toks:=tk}/\0<tk/\gW s.heap bC c Pl eM sb h) (λY Y=>False) s:=by
 unfold wE moduleCode;refine Zc (Zc (wpAny_fresh (eF (wpAny_newCodeX λc P h' tk hk hc hP m4 FM Y u=>?_))));unfold newBodyFrame;have hg:h'.Ns Zs bC:=B.g.keeps hk;refine Zc (Zc (jiQ (a:=Zs) hg (jiS ?_)));dsimp only;generalize hH:h'.push _=H;have zu:gj s.heap H:=λb o e=>hH▸Zh _ (hk b o e);have lb:∀b o,h'.get? b=some o->H.get? b=some o:=λb o e=>hH▸Zh _ e;have jj:0<tk:=bf (jht _) u.toks;have E1:Zs<s.heap.objs.size:=B.g.lt;have Pz:s.heap.objs.size<=c:=hc;have y7:s.heap.objs.size<=P:=hP;have R:gW s.heap bC c P [] [] H:=by
  refine DD B.bmod λbm o b1 b2 b3 b4 b5=>?_;refine⟨⟨bC,#[],[],[],⟨B.g.keeps zu,(jif m4 FM).keeps lb,lb _ _ FM.2,trivial,⟨bf E1 Pz,bf E1 y7⟩,bm,o,b1,b2,b3,λq=>Z0.mpr y7 (q▸Zz b4),zu _ _ b4,b5⟩,rfl,rfl,jaW,(λt ht=>nomatch ht),(λx tv hx=>nomatch hx),λY Y=>rfl⟩,λb o Y e=>zu b o e,?_,y7,B.sys⟩;have q1:H.objs.size=h'.objs.size+1:=by refine rwj hH ?_;refine aa (ZS _ _) ?_;rfl
  have q2:s.heap.objs.size<=h'.objs.size:=u.size
  lia
 refine aa JP ?_;refine Zc (wpAny_run (codeAny_body (by rfl) (by rfl) ?_));refine VW (F:=h'.objs.size) (by rfl) B.toNames0 (by rfl) WF jj R λcy WA bW QW=>?_;exact ZC ⟨rfl,cy,WA,c,P,rfl,bf jj QW,bW⟩
theorem J4(P:jdX):(jal P).isNs Zs=true:=by kernel_rfl
theorem Ce(P:jdX):(jal P).isNs jai=true:=by kernel_rfl
theorem J3(P:jdX):(jal P).isNs jep=true:=by kernel_rfl
theorem J0(P:jdX):(jal P).nsKeys jep=[]:=by kernel_rfl
theorem JZ(P:jdX):(jal P).nsMap Zs "__builtins__" = some (.ref 4):=by kernel_rfl
theorem JY(P:jdX):(jal P).get? 4=some {cls:=.type "module",dict:=some jai}:=by kernel_rfl
theorem J5(P:jdX):decide (jah<(jal P).objs.size)=true:=by kernel_rfl
theorem J2(P:jdX):((jal P).nsKeys Zs).all (λk=>jgk.contains k)=true:=by kernel_rfl
theorem J8(P:jdX):(jal P).bltView=bltViewBooted:=by kernel_rfl
theorem pB(P:jdX)(x:Str)(h:x ≠ "__name__"):(jal P).nsMap jai x=jim x:=Heap.of_bltView (Ce P) (J8 P) x h
theorem rP(P:jdX)(h:jgk.contains x=false):(jal P).nsMap Zs x=none:=jjg λhk=>by
 have:=Y'.mp (J2 P) x hk;rw[h]at this;cases this
theorem J6:0<boot_toks:=by decide
theorem uD(P:jdX):(jal P).Ns jep (λY=>none):=by
 have h:=jfM (J3 P);have:(jal P).nsMap jep=λY=>none:=by
  funext x;exact jjg (by refine aa (J0 _) ?_;exact λq=>nomatch q)
 rw[this]at h;exact h
theorem xp(P:jdX):BI (jal P) ((jal P).nsMap Zs) ((jal P).nsMap jai) where
 b:=jfM (Ce P)
 m1:=(pB P _ (by decide)).trans (by decide +kernel)
 m2:=(pB P _ (by decide)).trans (by decide +kernel)
 m3:=(pB P _ (by decide)).trans (by decide +kernel)
 n1:=rP P (by decide +kernel)
 n2:=rP P (by decide +kernel)
 n3:=rP P (by decide +kernel)
 g:=jfM (J4 P)
 bmod:=RB 4 _ (JZ P) (by decide) (by decide) (JY P) rfl rfl rfl
 sys:=of_decide_eq_true (J5 P)
theorem UV:opening pw=plainProg pw.main.scope.names:=by rfl
theorem AU(s:Y8):fenceModules? pw s=some s:=by rfl
theorem vc(hn:h.Ns Zs mg)(x:Str):globalOf h x=mg x:=jeD hn x
structure uw(ak:Y8):Prop where
 top:∃c Pl,gW (jal wd.params) ((jal wd.params).nsMap Zs) c Pl eM sb ak.heap
 gens:ak.gens=#[]
 toks:0<ak.toks
theorem Ma:eM.all (λe=>pw.boundNames.contains e.1)=true:=by decide +kernel
theorem Me:laidNames.all (λx=>(eM.lookup x).isNone)=true:=by decide +kernel
theorem SQ{γ:Type}{x:Str}{v:γ}:∀{l:List (Str×γ)},l.lookup x=some v->(x,v)∈l:=λh=>mem_of_lookup h
theorem head:(∃s,AfterRun (opening pw) wd s)/\∀s,AfterRun (opening pw) wd s->∃fg,fenceModules? pw s=some fg/\fg.gens=#[]/\∃ak,TopRan pw wd fg ak/\ak.asleep/\uw ak:=by
 refine au (Zw.mp (boot_open (p:=pw) (N:=600) UV (by decide) AU wd)) λfg h0 hv=>?_;unfold fencedOpening at h0;refine au (jgO.mp h0) λs h1 h2=>?_;rw[AU]at h2;have zJ:s=fg:=Y7 h2;subst zJ;rw[<-table_eq_tree]at h1;have A:AfterImport (opening pw) wd s:=AfterImport.of_importEnds h1;refine⟨⟨s,A⟩,λs' ej=>?_⟩;obtain rfl:s'=s:=AfterImport.unique ej A;have e1:s'.heap=jal wd.params:=congrArg (·.1) hv;have e2:s'.gens=#[]:=congrArg (·.2.1) hv;have e3:s'.toks=boot_toks:=congrArg (·.2.2.2) hv;have B:=xp wd.params;rw[<-e1]at B;have hz:s'.asleep:=A.life;obtain⟨n,gi,ak,aC,r1,r2,r3,r4,r5⟩:=Wy (t:=wE pw) (s:=s') (f:=.ret .none) (R:=λcO=>∃h tk c Pl,cO={s' with heap:=h,toks:=tk}/\0<tk/\gW s'.heap ((jal wd.params).nsMap Zs) c Pl eM sb h) hz
  (jav (WQ (bC:=(jal wd.params).nsMap Zs) (mb:=(jal wd.params).nsMap jai) (e1▸B) (by refine aa e3 ?_;exact J6)) (λfin cO ⟨a,h,tk,c,Pl,b,d,e⟩=>cz a ⟨h,tk,c,Pl,b,d,e⟩ (by refine aa b ?_;show jdV s'.gens=false;refine aa e2 ?_;decide +kernel)) λY Y x=>x)
 refine kg r4 ?_;rintro h tk c Pl rfl jj T;have es:ak={s' with heap:=h,toks:=tk}:=Shared.eq_of_forget_eq r3 e2;subst es;have he:(jal wd.params)=s'.heap:=e1.symm;have T':=T;rw[e1]at T';refine⟨s',AU s',e2,_,⟨⟨n,gi,by refine aa (WJ _) ?_;exact r1,r2⟩,r5,Shared.rest_eq rfl,λb o hb hn=>T.old b o (λq=>hn (.inl q)) hb,?_,?_,?_,?_,?_,?_,?_,?_⟩,jhg r5 hz,⟨⟨c,Pl,T'⟩,e2,jj⟩⟩
 ·
  have cM:h.Ns jep (λY=>none):=(uD wd.params).at' λo e=>T'.old _ _ (by decide) e;intro key v hv;have:jgj h key=none:=by
   refine kX cM λo es ep ho hd Y hf=>?_;unfold jgj;refine aa ho ?_;simp only[hd];exact hf key
  rw[show({s' with heap:=h,toks:=tk}:Y8).heap=h from rfl,this]at hv;cases hv
 ·intro key;left;have cM:h.Ns jep (λY=>none):=(uD wd.params).at' λo e=>T'.old _ _ (by decide) e;have QM:s'.heap.Ns jep (λY=>none):=by refine aa e1 ?_;exact uD wd.params
  have st:∀{h:jao},h.Ns jep (λY=>none)->jgj h key=none:=λhn=>by
   refine kX hn λo es ep ho hd Y hf=>?_;unfold jgj;refine aa ho ?_;simp only[hd];exact hf key
  show jgj h key=jgj s'.heap key;refine aa (st cM) ?_;refine aa (st QM) ?_;rfl
 ·refine n7 T'.ex λmg ps ts l S Y=>?_;exact PySem.Pin.keysAreStrs_of_ns S.g
 ·have hb:h.Ns jai ((jal wd.params).nsMap jai):=(xp wd.params).b.at' λo e=>T'.old _ _ (by decide) e;intro name hn;have:builtinOf h name=(jal wd.params).nsMap jai name:=by
   refine kX hb λo es ep ho hd Y hf=>?_;unfold builtinOf;refine aa ho ?_;simp only[hd];exact hf name
  refine aa (show({s' with heap:=h,toks:=tk}:Y8).heap=h from rfl) ?_;refine aa this ?_;exact pB _ name hn
 ·refine n8 T'.ex λmg ps ts l S Y Y Y Y e5 e6=>?_;refine DE S.bmod λbm o b1 b2 b3 b4 b5 b6 b7 b8=>?_;exact⟨bm,o,(vc S.g _).trans b1,b5,b6,b7⟩
 ·intro g hg;rw[show({s' with heap:=h,toks:=tk}:Y8).gens=#[]from e2]at hg;simp at hg
 ·intro x v hx;refine n8 T'.ex λmg ps ts l S Y Y Y Y e5 e6=>?_;have fe:mg x=some v:=(vc S.g x).symm.trans hx
  induction hl:eM.lookup x using ae with
  |some tv =>
   right;have:=Y'.mp Ma _ (SQ hl);exact jeN.mp this
  |none =>
   left;rw[e6 x hl]at fe
   induction hc:jgk.contains x using ZL with
   |true=>exact jeN.mp hc
   |false=>rw[rP _ hc]at fe;cases fe
 ·intro x hx;refine n8 T'.ex λmg ps ts l S Y Y Y Y e5 e6=>?_;have hl:eM.lookup x=none:=jcv.mp (Y'.mp Me x hx);refine aa (show({s' with heap:=h,toks:=tk}:Y8).heap=h from rfl) ?_;refine aa (vc S.g _) ?_;refine aa (e6 x hl) ?_;refine aa (vc B.g _) ?_;refine aa e1 ?_;rfl
def fS:Stmt->TV
 | .FunctionDef n p b _ _ _ sc _ _ _=>.fn n p b sc
 |_=>.int 0
def Js:List Arg->Bool
 | [⟨_,none,_⟩]=>true
 | [⟨_,none,_⟩,⟨_,none,_⟩]=>true
 | [⟨_,none,_⟩,⟨_,none,_⟩,⟨_,none,_⟩]=>true
 |_=>false
def Hk(p:jbr):Bool:=p.posonlyargs.isEmpty&&Js p.args&&p.vararg.isNone&&p.kwonlyargs.isEmpty&&p.kw_defaults.isEmpty&&p.kwarg.isNone&&p.defaults.isEmpty
def HF(ps:List Str)(sc:jaF):Bool:=!sc.isCoroutine&&!sc.isGenerator&&sc.kind==.function&&oS (dy ps sc)&&decide (sc.names.map (·.1)).Nodup&&decide ps.Nodup&&sc.names.all (λx=>x.2 != .free)&&ps.all (λx=>sc.names.lookup x==some .local||sc.names.lookup x==some .cell)
def uN:Stmt->Bool
 | .FunctionDef n p b _ _ _ sc _ _ _=>Hk p&&HF (p.args.map (·.arg)) sc
 |_=>false
def jU:Stmt->jbr
 | .FunctionDef _ p _ _ _ _ _ _ _ _=>p
 |_=>⟨[],[],none,[],[],none,[]⟩
def o4(st:Stmt):Prop:=∀(n:Str) (b:List Stmt) (sc:jaF) (bF pm bZ:Value) (c':Zi) (vals:List Value),vals.length=((jU st).args.map (·.arg)).length->jbU (fnX n n (jU st) b sc [] .none .none bF pm none (.ref c') bZ) ⟨vals,[]⟩=pure (((jU st).args.map (·.arg)).zip vals)
theorem CP{C:Stmt->Prop}{st:Stmt}(h:uN st=true)(k:∀n p b d r tc sc x y z,Hk p=true->HF (p.args.map (·.arg)) sc=true->C (.FunctionDef n p b d r tc sc x y z)):C st:=by
 induction st using jgV with
 |FunctionDef=>exact cu h λh1 h2=>k _ _ _ _ _ _ _ _ _ _ h1 h2
 |_=>exact bP h
theorem LF{st:Stmt}(hB:o4 st){fd:jaC}{name:Str}{p:jbr}{b:List Stmt}{sc:jaF}{c':Zi}{mu:List Str}(h:uN st=true)(e:fS st=.fn name p b sc)(F:rj fd name p b sc c'):eu fd (qe mu st) (p.args.map (·.arg)) b mu:=by
 revert hB e;refine CP (C:=λst=>o4 st->fS st=.fn name p b sc->eu fd (qe mu st) (p.args.map (·.arg)) b mu) h λn' p' b' Y Y Y tJ Y Y Y h1 h2 hB e=>?_;refine TV.fn.inj e|>.elim λe1 r=>r.elim λe2 r=>r.elim λe3 e4=>?_;subst e1 e2 e3 e4;refine yo F ?_;rintro bF pm bZ rfl;exact cu h2 λh2 k8=>cu h2 λh2 k7=>cu h2 λh2 k6=>cu h2 λh2 k5=>cu h2 λh2 k4=>cu h2 λh2 k3=>cu h2 λk1 k2 =>
  ⟨rfl,rfl,rfl,rfl,(jbS _).mp k1,(jbS _).mp k2,eq_of_beq k3,hB n' b' tJ bF pm bZ c',rfl,rfl,rfl,k4,of_decide_eq_true k5,of_decide_eq_true k6,k7,k8⟩
def CQ:List (Nat×Nat×List Str):=[(0,2,[]),(3,6,["q_digits"]),(4,7,[]),(5,9,[]),(6,10,[]),(7,11,[]),(10,69,[]),(11,70,[]),(12,71,[]),(13,73,[]),(14,74,["row"]),(15,75,["row"]),(16,76,["names","near"]),(17,77,["told"]),(18,78,[]),(19,79,["tables","table"]),(20,80,[]),(21,81,[])]
def gw:List (Nat×Str×Nat):=[(0,"_div2n1n",2),(1,"_int2digits",4),(2,"_digits2int",5),(3,"_divmod_pos",6),(4,"int_divmod",7),(5,"rgb_to_hls",9),(6,"rgb_to_hsv",10),(7,"hsv_to_rgb",11),
 (8,"in_table_b1",14),(9,"map_table_b3",16),(10,"ISTERMINAL",69),(11,"ISNONTERMINAL",70),(12,"ISEOF",71),(13,"_law_word",73),(14,"_law_page",74),(15,"_law_read",75),
 (16,"_law_net",76),(17,"_law_lamps",77),(18,"_law_paintings",78),(19,"_law_classes",79),(20,"_law_plain",80),(21,"law",81)]
def fns(k:Nat):Option dC:=(CQ.lookup k).map λ(i,m)=>qe m (fC i)
theorem j4{st:Stmt}(h:((jU st).args.map (·.arg)).length=1)(hb:∀n b sc bF pm bZ c' u,jbU (fnX n n (jU st) b sc [] .none .none bF pm none (.ref c') bZ) ⟨[u],[]⟩=pure (((jU st).args.map (·.arg)).zip [u])):o4 st:=λn b sc bF pm bZ c' vals hl =>
 Gv (Q:=λvals=>jbU _ ⟨vals,[]⟩=pure (jjl _ vals)) (hl.trans h) (hb n b sc bF pm bZ c')
theorem pA{st:Stmt}(h:((jU st).args.map (·.arg)).length=2)(hb:∀n b sc bF pm bZ c' u v,jbU (fnX n n (jU st) b sc [] .none .none bF pm none (.ref c') bZ) ⟨[u,v],[]⟩=pure (((jU st).args.map (·.arg)).zip [u,v])):o4 st:=λn b sc bF pm bZ c' vals hl =>
 Gw (Q:=λvals=>jbU _ ⟨vals,[]⟩=pure (jjl _ vals)) (hl.trans h) (hb n b sc bF pm bZ c')
theorem rM{st:Stmt}(h:((jU st).args.map (·.arg)).length=3)(hb:∀n b sc bF pm bZ c' u v wd,jbU (fnX n n (jU st) b sc [] .none .none bF pm none (.ref c') bZ) ⟨[u,v,wd],[]⟩=pure (((jU st).args.map (·.arg)).zip [u,v,wd])):o4 st:=λn b sc bF pm bZ c' vals hl =>
 Sr (Q:=λvals=>jbU _ ⟨vals,[]⟩=pure (jjl _ vals)) (hl.trans h) (hb n b sc bF pm bZ c')
def IV(x:Nat×Str×Nat):Prop:=o4 (fC x.2.2)
theorem N8:∀x∈gw,IV x :=
 aS (rM (by kernel_rfl) (λY Y Y Y Y Y Y Y Y Y=>by kernel_rfl))<|aS (pA (by kernel_rfl) (λY Y Y Y Y Y Y Y Y=>by kernel_rfl))<|aS (pA (by kernel_rfl) (λY Y Y Y Y Y Y Y Y=>by kernel_rfl))<|aS (pA (by kernel_rfl) (λY Y Y Y Y Y Y Y Y=>by kernel_rfl))<|aS (pA (by kernel_rfl) (λY Y Y Y Y Y Y Y Y=>by kernel_rfl))<|aS (rM (by kernel_rfl) (λY Y Y Y Y Y Y Y Y Y=>by kernel_rfl))<|aS (rM (by kernel_rfl) (λY Y Y Y Y Y Y Y Y Y=>by kernel_rfl))<|aS (rM (by kernel_rfl) (λY Y Y Y Y Y Y Y Y Y=>by kernel_rfl))<|aS (j4 (by kernel_rfl) (λY Y Y Y Y Y Y Y=>by kernel_rfl))<|aS (j4 (by kernel_rfl) (λY Y Y Y Y Y Y Y=>by kernel_rfl))<|aS (j4 (by kernel_rfl) (λY Y Y Y Y Y Y Y=>by kernel_rfl))<|aS (j4 (by kernel_rfl) (λY Y Y Y Y Y Y Y=>by kernel_rfl))<|aS (j4 (by kernel_rfl) (λY Y Y Y Y Y Y Y=>by kernel_rfl))<|aS (j4 (by kernel_rfl) (λY Y Y Y Y Y Y Y=>by kernel_rfl))<|aS (j4 (by kernel_rfl) (λY Y Y Y Y Y Y Y=>by kernel_rfl))<|aS (j4 (by kernel_rfl) (λY Y Y Y Y Y Y Y=>by kernel_rfl))<|aS (j4 (by kernel_rfl) (λY Y Y Y Y Y Y Y=>by kernel_rfl))<|aS (pA (by kernel_rfl) (λY Y Y Y Y Y Y Y Y=>by kernel_rfl))<|aS (rM (by kernel_rfl) (λY Y Y Y Y Y Y Y Y Y=>by kernel_rfl))<|aS (j4 (by kernel_rfl) (λY Y Y Y Y Y Y Y=>by kernel_rfl))<|aS (pA (by kernel_rfl) (λY Y Y Y Y Y Y Y Y=>by kernel_rfl))<|aS (j4 (by kernel_rfl) (λY Y Y Y Y Y Y Y=>by kernel_rfl))<|jA
theorem D5:gw.all (λx=>uN (fC x.2.2))=true:=by decide +kernel
def Gc(x:Str):TV->Bool
 | .fn n _ _ _=>n==x
 |_=>false
theorem RP(h:Gc x v=true):∃p b sc,v=.fn x p b sc:=by
 cases v with
 |fn n p b sc=>exact RD p b sc (eq_of_beq h▸rfl)
 |_=>exact bP h
theorem Oa:gw.all (λx=>Gc x.2.1 (fS (fC x.2.2)))=true:=by decide +kernel
theorem N':gw.map (λx=>eM.lookup x.2.1)=gw.map (λx=>some (fS (fC x.2.2))):=by kernel_rfl
theorem N9(x:Nat×Str×Nat)(hx:x∈gw):eM.lookup x.2.1=some (fS (fC x.2.2))/\(∃p b sc,fS (fC x.2.2)=.fn x.2.1 p b sc):=
 ⟨List.map_inj_left.mp N' x hx,RP (Y'.mp Oa x hx)⟩
def FX:Nat->Pos:=qM [(30,4,30,12),(30,16,30,17),(30,15,30,18),(30,23,30,24),(30,23,30,35),(30,23,30,37),(30,40,30,41),(30,23,30,41),(30,44,30,45),(30,23,30,45),(30,50,30,51),(30,22,30,51),(30,15,30,52),(30,4,30,52),(42,7,42,8),(43,8,43,13),(43,14,43,15),(43,17,43,18),(43,20,43,23),(43,24,43,32),(43,20,43,33),(43,8,43,34),(43,8,43,34),(42,4,43,34),(44,11,44,19),(44,4,44,19)]
def ta:Nat->Pos:=qM [(33,11,33,12),(33,15,33,16),(33,11,33,16),(33,20,33,21),(33,11,33,21),(34,12,34,20),(34,21,34,22),(34,12,34,23),(34,26,34,27),(34,12,34,27),(35,12,35,18),(33,8,35,18),(36,8,36,11),(36,14,36,15),(36,18,36,19),(36,14,36,19),(36,23,36,24),(36,14,36,24),(36,8,36,24),(37,8,37,13),(37,17,37,20),(37,23,37,24),(37,17,37,24),(37,28,37,29),(37,16,37,29),(37,8,37,29),(38,8,38,13),(38,16,38,17),(38,21,38,26),(38,16,38,26),(38,8,38,26),(39,8,39,13),(39,16,39,17),(39,20,39,25),(39,29,39,34),(39,20,39,34),(39,16,39,34),(39,8,39,34),(40,8,40,13),(40,14,40,19),(40,21,40,22),(40,24,40,27),(40,8,40,28),(40,8,40,28),(41,8,41,13),(41,14,41,19),(41,21,41,24),(41,26,41,27),(41,8,41,28),(41,8,41,28),(32,14,32,15),(32,17,32,18),(32,20,32,21),(32,4,41,28)]
def CN:Nat->Pos:=qM [(53,36,53,42),(53,11,53,16),(53,17,53,18),(53,20,53,23),(53,24,53,30),(53,20,53,31),(53,11,53,32),(53,48,53,49),(53,11,53,49),(53,4,53,49)]
def r6:Nat->Pos:=qM [(48,11,48,12),(48,15,48,16),(48,11,48,16),(48,20,48,21),(48,11,48,21),(49,19,49,25),(49,26,49,27),(49,19,49,28),(49,12,49,28),(48,8,49,28),(50,8,50,11),(50,14,50,15),(50,18,50,19),(50,14,50,19),(50,23,50,24),(50,14,50,24),(50,8,50,24),(51,8,51,13),(51,17,51,20),(51,23,51,24),(51,17,51,24),(51,28,51,29),(51,16,51,29),(51,8,51,29),(52,16,52,21),(52,22,52,25),(52,27,52,28),(52,16,52,29),(52,33,52,38),(52,16,52,38),(52,42,52,47),(52,48,52,49),(52,51,52,54),(52,42,52,55),(52,15,52,55),(52,8,52,55),(0,0,0,0),(0,0,0,0),(0,0,0,0),(0,0,0,0),(47,14,47,15),(47,17,47,18),(47,4,52,55)]
def B6:Nat->Pos:=qM [(143,11,143,14),(143,15,143,19),(143,11,143,20),(143,24,143,30),(143,11,143,30),(143,4,143,30)]
def B8:Nat->Pos:=qM [(146,4,146,5),(146,8,146,21),(146,8,146,25),(146,26,146,29),(146,30,146,34),(146,26,146,35),(146,8,146,36),(146,4,146,36),(147,7,147,8),(147,16,147,20),(147,7,147,20),(148,15,148,16),(148,8,148,16),(147,4,148,16),(149,11,149,15),(149,11,149,21),(149,11,149,23),(149,4,149,23)]
theorem Xl:fS (fC 4)=.fn "_int2digits" (wk "a" "n" ⟨29,16,29,17⟩ ⟨29,19,29,20⟩) (zW FX ta) s8:=by kernel_rfl
theorem Xm:fS (fC 5)=.fn "_digits2int" (wk "digits" "n" ⟨45,16,45,22⟩ ⟨45,24,45,25⟩) (xN CN r6) rZ:=by kernel_rfl
theorem Xj:fS (fC 14)=.fn "in_table_b1" ⟨[],[⟨"code",none,⟨142,16,142,20⟩⟩],none,[],[],none,[]⟩ (uz B6) uB:=by kernel_rfl
theorem Xk:fS (fC 16)=.fn "map_table_b3" ⟨[],[⟨"code",none,⟨145,17,145,21⟩⟩],none,[],[],none,[]⟩ (xm B8) uC:=by kernel_rfl
theorem Mb:eM.lookup ("_DIV_LIMIT":Str)=some (.int 4000):=by kernel_rfl
theorem Mf:eM.lookup ("NT_OFFSET":Str)=some (.int 256):=by kernel_rfl
theorem Mc:eM.lookup ("ENDMARKER":Str)=some (.int 0):=by kernel_rfl
theorem L8:eM.lookup ("b1_set":Str)=some (.set uA 65024 65040):=by kernel_rfl
theorem L9:eM.lookup ("b3_exceptions":Str)=some (.dictI B7):=by kernel_rfl
def tY:List (Str×Int):=match eM.lookup ("EXACT_TOKEN_TYPES":Str)with
 |some (.dictS l)=>l
 |_=>[]
theorem Mg:eM.lookup ("EXACT_TOKEN_TYPES":Str)=some (.dictS tY):=by kernel_rfl
theorem Ig:tY.all (λe=>cA.lookup e.1.cps.toList==some e.2)=true/\cA.all (λe=>tY.lookup ⟨e.1.toArray⟩==some e.2)=true:=by decide +kernel
theorem Md:(["range","list","int","bool","reversed","len","sum","max","min","ord","chr","divmod","isinstance"]:List Str).all (λx=>(eM.lookup x).isNone&&!jgk.contains x)=true:=by decide +kernel
theorem Tu:gv.all (λe=>match e.2 with | .user k=>(gw.lookup k).map (·.1)==some e.1|_=>true)=true:=by decide +kernel
theorem Ak{K:Type}[DecidableEq K][BEq K][LawfulBEq K]{γ:Type}{Pv:γ->Value->Prop}:∀{l:List (K×γ)}{aJ:List (K×Value)},eV (l.map λe=>(e.1,Pv e.2)) aJ->∀x,(∀v,l.lookup x=some v->∃u,jdn aJ x=some u/\Pv v u)/\(l.lookup x=none->jdn aJ x=none)
 | [],_,.nil,x=>⟨λv h=>by simp at h,λY=>rfl⟩
 |(k,g)::l,_,.cons (v:=u) h r,x=>by
  have ih:=Ak r x;unfold jdn at ih ⊢;refine aa Z1 ?_;refine aa List.find?_cons ?_;by_cases q:x=k
  ·subst q;simp only[beq_self_eq_true,decide_true,jip];exact⟨λv e=>by cases e;exact aO u rfl h,λe=>nomatch e⟩
  ·have q':¬k=x:=λe=>q e.symm;simp only[beq_eq_false_iff_ne.mpr q,decide_eq_false q'];exact ih
theorem Hv:∀(n:Nat) (a k:Int),(gP a 1 n).any (·==k)=(decide (a<=k)&&decide (k<a+n))
 |0,a,k=>by
  show false=_;by_cases h:a<=k
  ·simp[h]
  ·simp[h]
 |n+1,a,k=>by
  rewrite [tI];refine aa jfn ?_;refine aa (Hv n (a+1) k) ?_;by_cases h:a=k
  ·subst h;simp;lia
  ·have:(a==k)=false:=beq_eq_false_iff_ne.mpr h;refine aa this ?_;refine aa (jjw _) ?_
   congr 1
   ·exact decide_eq_decide.mpr (by lia)
   ·exact decide_eq_decide.mpr (by lia)
theorem B2(k:Int):∀l:List Int,l.any (·==k)=l.contains k
 | []=>rfl
 |a::l=>by
  refine aa jfn ?_;refine aa (B2 k l) ?_;refine aa List.contains_cons ?_
  congr 1
  exact Bool.beq_comm
set_option tactic.hygienic true in
theorem ma{α β:Type}[BEq α][LawfulBEq α]{x:α}{v:β}:∀{l:List (α×β)},l.lookup x=some v->(x,v)∈l
 | [],h=>by cases h
 |(k,u)::l,h=>by
  rw[Z1]at h;split at h
  ·rename_i q;cases h;refine aa (eq_of_beq q) ?_;exact Zj
  ·exact ZB _ (ma h)
theorem JD:(λk=>(uA++gP 65024 1 ((65040:Int)-65024).toNat).any (·==k))=dz:=by
 funext k;refine aa List.any_append ?_;rw[Hv];unfold dz
 congr 1
 exact B2 k uA
theorem Ih{x:Str}:nB x=tY.lookup x:=by
 unfold nB
 induction h:tY.lookup x using ae with
 |some i =>
  have:=Y'.mp Ig.1 _ (ma h);exact eq_of_beq this
 |none =>
  induction h2:cA.lookup x.cps.toList using ae with
  |none=>rfl
  |some i =>
   exfalso;have:=Y'.mp Ig.2 _ (ma h2);have e:=eq_of_beq this;have ex:(⟨x.cps.toList.toArray⟩:Str)=x:=by simp
   rw[ex,h]at e;cases e
theorem J7:(["range","list","int","bool","reversed"]:List String).all (λx=>decide (jaY x≠("__name__":Str))&&decide (jim (jaY x)=some (.type x)))=true:=by decide +kernel
theorem J1:(["len","sum","max","min","ord","chr","divmod","isinstance"]:List String).all (λx=>decide (jaY x≠("__name__":Str))&&decide (jim (jaY x)=some (.builtin x)))=true:=by decide +kernel
theorem OG:(["range","list","int","bool","reversed"]:List String).all (λx=>decide (jaY x∈(["range","list","int","bool","reversed","len","sum","max","min","ord","chr","divmod","isinstance"]:List Str)))=true:=by decide +kernel
theorem OF:(["len","sum","max","min","ord","chr","divmod","isinstance"]:List String).all (λx=>decide (jaY x∈(["range","list","int","bool","reversed","len","sum","max","min","ord","chr","divmod","isinstance"]:List Str)))=true:=by decide +kernel
def mU(mg:Str->Option Value)(h:jao)(k:Nat):Option (Str×jaC):=(gw.lookup k).bind λx=>match mg x.1 with
 |some (.ref a)=>(match h.get? a with
  |some o=>(match o.data with
   | .func fd=>some (x.1,fd)
   |_=>none)
  |none=>none)
 |_=>none
theorem Ox(h1:gw.lookup k=some (x,i))(h2:mg x=some (.ref a))(h3:h.get? a=some o)(h4:o.data=.func fd):mU mg h k=some (x,fd):=by
 delta mU
 refine aa h1 ?_;dsimp only[Option.bind_some];refine aa h2 ?_;dsimp only;refine aa h3 ?_;dsimp only;refine aa h4 ?_;rfl
theorem TP{h:jao}(e:(match h.get? a with
 |some o=>(match o.data with
  | .func fd=>some (x,fd)
  |_=>none)
 |none=>none)=some (y,fd)):y=x/\∃o,h.get? a=some o/\o.data=.func fd:=by
 induction h3:h.get? a using ae with
 |none=>rw[h3]at e;exact ai e
 |some o =>
  rw[h3]at e;replace e:(match o.data with | .func fd=>some (x,fd)|_=>none)=some (y,fd):=e
  induction h4:o.data using PySem.Data.casesOn with
  |func i9=>rw[h4]at e;exact aG (Q:=λr=>r.1=x/\∃u:Obj,some o=some u/\u.data=.func r.2) e ⟨rfl,o,rfl,h4⟩
  |_=>rw[h4]at e;exact ai e
theorem Ha{h:jao}(e:mU mg h k=some (x,fd)):∃i a o,gw.lookup k=some (x,i)/\mg x=some (.ref a)/\h.get? a=some o/\o.data=.func fd:=by
 refine pP e λy h1 e=>?_;replace e:(match mg y.1 with
  |some (.ref a)=>(match h.get? a with
   |some o=>(match o.data with
    | .func fd=>some (y.1,fd)
    |_=>none)
   |none=>none)
  |_=>none)=some (x,fd):=e
 induction h2:mg y.1 using ae with
 |none=>rw[h2]at e;exact ai e
 |some v =>
  rw[h2]at e;cases v with
  |ref a =>
   obtain⟨rfl,o,h3,h4⟩:=TP e;exact vV y.2 a o h1 h2 h3 h4
  |_=>exact ai e
theorem K7{h:jao}(h1:h.CodeRec (.ref c) x)(h2:h.CodeRec (.ref c) y):x=y:=by
 refine qb h1 λc1 o1 v1 t1 e1 g1 d1 k1=>?_;refine qb h2 λc2 o2 v2 t2 e2 g2 d2 k2=>?_;cases e1;cases e2;rw[g1]at g2;cases g2;rw[d1]at d2;cases d2;rw[k1]at k2;cases k2;rfl
theorem TL{ts:List (Zi×Zi)}(hn:(ts.map (·.2)).Nodup)(ha:a∈ts)(hb:b∈ts)(e:a.2=b.2):a=b:=by
 induction ts with
 |nil=>cases ha
 |cons t ts ih =>
  rw[ZG,jaP]at hn;rcases ZT.mp ha with e1|EJ<;>rcases ZT.mp hb with e2|gM
  ·refine aa e1 ?_;refine aa e2 ?_;rfl
  ·subst e1;exact absurd (Zq.mpr ⟨b,gM,e.symm⟩) hn.1
  ·subst e2;exact absurd (Zq.mpr ⟨a,EJ,e⟩) hn.1
  ·exact ih hn.2 EJ gM
def nf(x:Str):Str:=(x++(".<locals>.":Str))++("inner":Str)
theorem LD:CQ.all (λe=>(gw.lookup e.1).map (·.2)==some e.2.1)=true:=by decide +kernel
structure nH where
 a:Zi
 fd:jaC
 c:Zi
 P:Zi
 p:jbr
 b:List Stmt
 sc:jaF
structure gU(mg:Str->Option Value) (h:jao) (ts:List (Zi×Zi)) (x:Str) (i:Nat) (d:nH):Prop where
 m:mg x=some (.ref d.a)
 g:h.get? d.a=some {cls:=.type "function",data:=.func d.fd}
 f:rj d.fd x d.p d.b d.sc d.c
 r:h.CodeRec (.ref d.c) x
 hd:jfY h d.c d.P
 t:h.get? d.P=some (jdT #[])
 ts:(d.c,d.P)∈ts
 tv:fS (fC i)=.fn x d.p d.b d.sc
structure dI(h:jao) (mg:Str->Option Value) (ts:List (Zi×Zi)):Prop where
 g:h.Ns Zs mg
 bi:∃Pl,h.BuiltinsAt mg Pl
 nd:(ts.map (·.2)).Nodup
 e:∀x tv,eM.lookup x=some tv->∃v,mg x=some v/\i4 ts h tv v
 no:∀x,eM.lookup x=none->mg x=(jal wd.params).nsMap Zs x
 old:∀b o,b≠Zs->(jal wd.params).get? b=some o->h.get? b=some o
def gd(h:jao)(mg:Str->Option Value)(tok:Zi)(d1 d2:nH):GD:=⟨mg,(jal wd.params).nsMap jai,tok,mU mg h,[(d1.c,d1.P,ta 53,nf "_int2digits"),(d2.c,d2.P,r6 42,nf "_digits2int")]⟩
section
theorem dI.fn(T:dI h mg ts)(hk:gw.lookup k=some (x,i)):∃d,gU mg h ts x i d:=by
 obtain⟨h1,p,b,sc,h2⟩:=N9 (k,x,i) (ma hk);rw[h2]at h1;obtain⟨v,hv,a,fd,c,P,rfl,k2,k3,k4,k5,k6,k7⟩:=T.e _ _ h1;exact⟨⟨a,fd,c,P,p,b,sc⟩,hv,k2,k3,k4,k5,k6,k7,h2⟩
theorem gU.at{ts:List (Zi×Zi)}(D:gU mg h ts x i d)(hk:gw.lookup k=some (x,i)):mU mg h k=some (x,d.fd):=Ox hk D.m D.g rfl
theorem gU.ok{ts:List (Zi×Zi)}{d:nH}(D:gU mg h ts x i d)(hk:gw.lookup k=some (x,i))(mu:List Str):eu d.fd (qe mu (fC i)) (d.p.args.map (·.arg)) d.b mu :=
 LF (N8 (k,x,i) (ma hk)) (Y'.mp D5 (k,x,i) (ma hk)) D.tv D.f
theorem tU{d1 d2:nH}{C:(Zi×Zi×Pos×Str)->Prop}(h1:C (d1.c,d1.P,ta 53,nf "_int2digits")) (h2:C (d2.c,d2.P,r6 42,nf "_digits2int")):∀t∈(gd h mg tok d1 d2).tabs,C t :=
 aS h1 (aS h2 jA)
theorem dI.ne{d1 d2:nH}(T:dI h mg ts)(D1:gU mg h ts "_int2digits" 4 d1) (D2:gU mg h ts "_digits2int" 5 d2):d1.P≠d2.P:=λq =>
 have e:=jjk (TL T.nd D1.ts D2.ts q)
 absurd (K7 D1.r (e.1▸D2.r)) (by decide)
theorem dI.free(T:dI h mg ts)(x:Str)(hx:x∈(["range","list","int","bool","reversed","len","sum","max","min","ord","chr","divmod","isinstance"]:List Str)):mg x=none :=
 cu (Y'.mp Md x hx) λh1 h2=>(T.no x (jcv.mp h1)).trans (rP _ ((jbS _).mp h2))
theorem dI.bm(T:dI h mg ts):∃bm ob,mg "__builtins__" = some (.ref bm)/\bm≠jai/\h.get? bm=some ob/\ob.cls=.type "module" /\ ob.dict=some jai/\ob.data=.plain:=by
 refine Nn T.bi λPl bm o b1 b2 b3 b4 b5 b6 b7 b8=>?_;exact F4 bm o b1 b2 b5 b6 b7 b8
theorem dI.tokAt{h:jao}(T:dI h mg ts):∃a,mg ("EXACT_TOKEN_TYPES":Str)=some (.ref a)/\(a==jah)=false/\∃f,h.MapOf (strKind pw wd) a f/\(∀x k,nB x=some k->∃t,f x=some (.int k t))/\(∀x,nB x=none->f x=none):=by
 obtain⟨v,hv,a,aJ,rfl,n1,n2,dt,kt⟩:=T.e _ _ Mg;have H:=λx=>Ak (Pv:=λ(i:Int) u=>∃t,u=.int i t) kt x;exact⟨a,hv,n2,_,dt.mapOf,λx k hx=>((H x).1 k (Ih▸hx)).elim λu ⟨h1,t,h2⟩=>⟨t,h1.trans (congrArg some h2)⟩,λx hx=>(H x).2 (Ih▸hx)⟩
theorem dI.b1At(T:dI h mg ts):∃a n,mg ("b1_set":Str)=some (.ref a)/\h.SetOf (jat pw wd) a dz n:=by
 obtain⟨v,hv,a,S,n,rfl,db,kb⟩:=T.e _ _ L8;exact cZ a n hv ((funext kb).trans JD▸db)
theorem dI.b3At{h:jao}(T:dI h mg ts):∃a f,mg ("b3_exceptions":Str)=some (.ref a)/\(a==jah)=false/\h.MapOf (jat pw wd) a f/\(∀k x,j3 k=some x->∃t,f k=some (.str x t))/\∀k,j3 k=none->f k=none:=by
 obtain⟨v,hv,a,aJ,rfl,n1,n2,dt,kt⟩:=T.e _ _ L9;have H:=λx=>Ak (Pv:=λ(i:Str) u=>∃t,u=.str i t) kt x;exact RA a _ hv n2 dt.mapOf (λk x hx=>((H k).1 x hx).elim λu ⟨h1,t,h2⟩=>⟨t,h1.trans (congrArg some h2)⟩) (λk hx=>(H k).2 hx)
theorem dI.fns(T:dI h mg ts)(k:Nat)(x:Str)(fd:jaC)(e:mU mg h k=some (x,fd)):∃a o,mg x=some (.ref a)/\h.get? a=some o/\o.data=.func fd/\h.CodeRec fd.code fd.qualname:=by
 refine kX (Ha e) λi a o k1 k2 k3 k4=>?_;refine aX (T.fn k1) λd D=>?_;have ea:=jdM (Y7 (k2.symm.trans D.m));have eo:=Y7 ((ea▸k3).symm.trans D.g);have ed:fd=d.fd:=Data.func.inj ((eo▸k4).symm);refine yo D.f λbF pm bZ f=>?_;exact vU a o k2 k3 k4 (ed▸f▸D.r)
theorem dI.inv{h:jao}(T:dI h mg ts)(D1:gU mg h ts "_int2digits" 4 d1) (D2:gU mg h ts "_digits2int" 5 d2) (tokMod:(tok==jah)=false) (QV:∃f,h.MapOf (strKind pw wd) tok f/\(∀x k,nB x=some k->∃t,f x=some (.int k t))/\(∀x,nB x=none->f x=none)):bh (gd h mg tok d1 d2) h where
 g:=T.g
 b:=(xp wd.params).b.at' λo e=>T.old _ _ (by decide) e
 stat:=(uD wd.params).at' λo e=>T.old _ _ (by decide) e
 tok:=QV
 tokMod:=tokMod
 fns:=T.fns
 heads:=tU (C:=λt=>jfY h t.1 t.2.1) D1.hd D2.hd
 tabs:=tU (C:=λt=>_\/_) (.inl D1.t) (.inl D2.t)
 bmain:=T.bm
 b1:=T.b1At
 b3:=T.b3At
theorem dI.num(T:dI h mg ts)(e:eM.lookup x=some (.int n)):∃t,mg x=some (.int n t):=(T.e _ _ e).elim λv ⟨h1,t,h2⟩=>⟨t,h1.trans (congrArg some h2)⟩
theorem dI.gok(T:dI h mg ts)(ht:mg ("EXACT_TOKEN_TYPES":Str)=some (.ref tok)):dD (gd h mg tok d1 d2) where
 divLimit:=T.num Mb
 ntOffset:=T.num Mf
 endMarker:=T.num Mc
 tok:=ht
 types:=λx hx=>⟨T.free _ (of_decide_eq_true (Y'.mp OG x hx)),cu (Y'.mp J7 x hx) λh1 h2=>(pB _ _ (of_decide_eq_true h1)).trans (of_decide_eq_true h2)⟩
 builtins:=λx hx=>⟨T.free _ (of_decide_eq_true (Y'.mp OF x hx)),cu (Y'.mp J1 x hx) λh1 h2=>(pB _ _ (of_decide_eq_true h1)).trans (of_decide_eq_true h2)⟩
theorem OS:gE (gd h mg tok d1 d2):=λx k y fd hx e=>by
 refine uX (Ha e) λi a o k1 Y=>?_;have this:(gw.lookup k).map jhA=some x:=eq_of_beq (Y'.mp Tu _ (ma hx));exact Y7 ((congrArg (jad jhA) k1).symm.trans this)
theorem Xn{p p':jbr}{b b':List Stmt}{sc tJ:jaF}{C:jbr->List Stmt->jaF->Prop}{st:Stmt}(h1:fS st=.fn x p b sc)(h2:fS st=.fn x p' b' tJ)(k:C p' b' tJ):C p b sc:=by
 have e:=TV.fn.inj (h1.symm.trans h2);refine aa e.2.1 ?_;refine aa e.2.2.1 ?_;refine aa e.2.2.2 ?_;exact k
theorem yE(f:rj fd x p b sc c):fd.scope=sc/\fd.code=.ref c/\fd.qualname=x/\fd.name=x:=by
 refine yo f ?_;rintro _ _ _ rfl;exact li rfl rfl rfl rfl
theorem gU.as{ts:List (Zi×Zi)}{d:nH}{p:jbr}{b:List Stmt}{sc:jaF}(D:gU mg h ts x i d)(hk:gw.lookup k=some (x,i))(tv:fS (fC i)=.fn x p b sc)(mu:List Str):eu d.fd (qe mu (fC i)) (p.args.map (·.arg)) b mu/\d.fd.scope=sc :=
 Xn (C:=λp b sc=>eu d.fd (qe mu (fC i)) (p.args.map (·.arg)) b mu/\d.fd.scope=sc) tv D.tv ⟨D.ok hk mu,(yE D.f).1⟩
theorem eu.self(D:eu fd f ps body mu):eu fd ⟨ps.length,(dy ps fd.scope).next,et (dy ps fd.scope) mu body⟩ ps body mu:={D with nargs:=rfl,nvars:=rfl,tree:=rfl}
theorem H6{d1 d2:nH}{h:jao}{mg:Str->Option Value}{tok:Zi}(hP:d1.P≠d2.P):(∀t'∈(gd h mg tok d1 d2).tabs,t'.2.1=d1.P->t'=(d1.c,d1.P,ta 53,nf "_int2digits"))/\∀t'∈(gd h mg tok d1 d2).tabs,t'.2.1=d2.P->t'=(d2.c,d2.P,r6 42,nf "_digits2int"):=
 ⟨tU (C:=λt'=>t'.2.1=d1.P->t'=_) (λY=>rfl) λe=>absurd e.symm hP,tU (C:=λt'=>t'.2.1=d2.P->t'=_) (λe=>absurd e hP) λY=>rfl⟩
theorem dI.prims(T:dI h mg ts)(D1:gU mg h ts "_int2digits" 4 d1) (D2:gU mg h ts "_digits2int" 5 d2):wW (gd h mg tok d1 d2) where
 p1:=have o:=D1.as (k:=1) rfl Xl [];have q:=yE D1.f;⟨_,_,_,FX,ta,D1.at (k:=1) rfl,⟨o.1.self,Zj,(H6 (T.ne D1 D2)).1,q.2.1,rfl,congrArg nf q.2.2.1⟩,o.2,rfl⟩
 p2:=have o:=D2.as (k:=2) rfl Xm [];have q:=yE D2.f;⟨_,_,_,CN,r6,D2.at (k:=2) rfl,⟨o.1.self,ZB _ Zj,(H6 (T.ne D1 D2)).2,q.2.1,rfl,congrArg nf q.2.2.1⟩,o.2⟩
 p8:=(T.fn (k:=8) rfl).elim λY D=>have o:=D.as (k:=8) rfl Xj [];⟨_,_,_,B6,[],D.at (k:=8) rfl,o.1,o.2⟩
 p9:=(T.fn (k:=9) rfl).elim λY D=>have o:=D.as (k:=9) rfl Xk [];⟨_,_,_,B8,[],D.at (k:=9) rfl,o.1,o.2,rfl,rfl⟩
theorem OQ(T:dI h mg ts)(k:Nat)(d:dC)(hk:fns k=some d):∃x fd ps body mu,mU mg h k=some (x,fd)/\eu fd d ps body mu:=by
 refine lQ (Q:=λd=>∃x fd ps body mu,mU mg h k=some (x,fd)/\eu fd d ps body mu) hk λ⟨i',mu⟩ h1=>?_;refine au (Zw.mp (eq_of_beq (Y'.mp LD _ (ma h1)))) λz1 h2 h3=>?_;obtain⟨x,i⟩:=z1;refine aX (T.fn h2) λd D=>?_;have h3:i=i':=h3;exact RE x d.fd _ d.b mu (D.at h2) (h3▸D.ok h2 mu)
theorem OT(D1:gU mg h ts "_int2digits" 4 d1) (D2:gU mg h ts "_digits2int" 5 d2) (c:Zi):¬bM (gd h mg tok d1 d2) h c:=λ⟨t,ht,e⟩ =>
 have e':h.get? t.2.1=some (jdT #[]):=tU (C:=λt=>h.get? t.2.1=some (jdT #[])) D1.t D2.t t ht
 absurd (congrArg (λo:Option Obj=>o.map (·.data)) (e'.symm.trans e)) (by simp)
end
theorem Es(T:uw ak):∃G:GD,bh G ak.heap/\dD G/\gE G/\wW G/\(∀k d,fns k=some d->∃x fd ps body mu,G.fns k=some (x,fd)/\eu fd d ps body mu) /\
 (∃a fd p b sc c',G.mg ("law":Str)=some (.ref a)/\ak.heap.get? a=some {cls:=.type "function",data:=.func fd}/\rj fd ("law":Str) p b sc c'/\fS (fC 81)=.fn ("law":Str) p b sc/\G.fns 21=some (("law":Str),fd))/\(∀c,¬bM G ak.heap c)/\jah<ak.heap.objs.size:=by
 refine dW T.top λc Pl R=>?_;refine n8 R.ex λmg ps ts l S e1 e2 e3 e4 e5 e6=>?_;have E:dI ak.heap mg ts:=⟨S.g,⟨Pl,S.bmod⟩,e3,e5,e6,R.old⟩
 refine aX (E.fn (k:=1) rfl) λd1 D1=>?_;refine aX (E.fn (k:=2) rfl) λd2 D2=>?_;refine aX (E.fn (k:=21) rfl) λd D=>?_;refine fq E.tokAt λtok t1 t2 t3=>?_;exact Rz (gd ak.heap mg tok d1 d2) (E.inv D1 D2 t2 t3) (E.gok t1) OS (E.prims D1 D2) (OQ E) ⟨d.a,d.fd,d.p,d.b,d.sc,d.c,D.m,D.g,D.f,D.tv,D.at (k:=21) rfl⟩ (OT D1 D2) (bf R.sys R.sz)
abbrev ly:RowW:=(jeE jar).toRowW
abbrev v6:ClaimW:=ly.claim
theorem Gk:∀{xs:List WData},jin R xs .int=true->∃is:List Int,xs=is.map .int
 | [],_=>⟨[],rfl⟩
 |x::xs,h=>by
  simp only[jin,ZA]at h;refine aX (hasW_int h.1) ?_;rintro i rfl;refine aX (Gk h.2) ?_;rintro is rfl;exact⟨i::is,rfl⟩
theorem Jt(h:v6.pre args=true):∃is:List Int,args=[.list (is.map .int)]/\is.length<=63:=by
 refine bN (pre_splitW h) λh1 h2=>?_;refine bS (hasAllW_cons (e:=.list .int) (es:=[]) h1) ?_;rintro d r rfl h3 h4;cases hasAllW_nil h4;refine au (hasW_list h3) ?_;rintro xs rfl h5;refine aX (Gk h5) ?_;rintro is rfl;refine aO is rfl ?_;have h6:(WTm.and (.not (.lt (.lit (.int (63:Nat))) (.len (.arg 0)))) (.lit (.bool true))).holds ly.records {args:=[.list (is.map .int)]}=true:=h2;have h7:=(holds_andW h6).1;have h8:=condW_of h7 (by wtm_val);simp only[Y4,jbS,decide_eq_false_iff_not]at h8
 lia
theorem ID{P:jdX}:∀{is:List Int}{vs:List Value},WellAll P h vs (is.map .int)->ar tk φ h [] Pv (is.map .int) vs
 | [],_,.nil=>.nil
 |i::is,_,.cons a r=>by
  cases a;exact .cons (.int _ _) (ID r)
def wX:Prop:=∀dM:List Int,dM.length<=63->nR gb fns 8 21 [.lst (dM.map .int)]=some (.bool true)
theorem LC:dQ jil (8+13):=⟨rfl,by decide +kernel,by decide +kernel⟩
theorem Cz(I:bh G s.heap)(m7:∀c,¬bM G s.heap c)(k:GX G s φ s' am)(b:Zi)(o:Obj)(e:s.heap.get? b=some o):
 s'.heap.get? b=some o\/(isCodeTable s.heap b/\o.cls=.none/\∃vs fM,o.data=.fields vs/\s'.heap.get? b=some {o with data:=.fields (vs++fM)}):=by
 by_cases hX:G.X b
 ·refine au hX ?_;rintro t kn rfl;have e0:s.heap.get? t.2.1=some (jdT #[]):=(I.tabs t kn).elim id λq=>q.elim λc q=>absurd ⟨t,kn,q.1⟩ (m7 c);have eo:=Y7 (e.symm.trans e0);refine aa eo ?_;rcases(k.tabs I.tabs).1 t kn with q|⟨c,q,_⟩
  ·exact .inl q
  ·refine .inr ⟨((I.heads t kn).tab e0).isCodeTable,rfl,#[],#[jem t.2.2.1.line,jem t.2.2.1.col,.ref c],rfl,?_⟩;refine aa q ?_;refine aa Array.empty_append ?_;rfl
 ·exact .inl (k.ext b o hX e)
theorem Ud(I:bh G s.heap)(m7:∀c,¬bM G s.heap c)(k:GX G s φ s' am):OldK s.heap s'.heap :=
 ⟨λb o e=>(Cz I m7 k b o e).imp id .inl,λb o e=>(Cz I m7 k b o e).elim (λq=>⟨_,q⟩) λ⟨_,_,vs,fM,_,q⟩=>⟨_,q⟩⟩
theorem Vj{s:Y8}{is:List Int}(hw:WellAll wd.params s.heap vs [.list (is.map .int)])(hP:∀a,vs=[.ref a]->Pv a):ar tk φ0 s.heap [] Pv [.lst (is.map .int)] vs:=by
 cases hw with
 |cons s4 oH =>
  cases oH;cases s4 with
  | @list al cW xs e r=>exact .cons (.lst (xs:=cW) ⟨0,e⟩ (hP _ rfl) (ID r)) .nil
theorem Sl(PL:wX){fg s:Y8}(T:uw fg)(hk:∀b o,fg.heap.get? b=some o->s.heap.get? b=some o)(hz:fg.heap.objs.size<=s.heap.objs.size)(ht:fg.toks<=s.toks){is:List Int}(aN:is.length<=63)(hw:WellAll wd.params s.heap vs [.list (is.map .int)])(dZ:∀a,vs=[.ref a]->fg.heap.objs.size<=a):
 ∃mg f,s.heap.Ns Zs mg/\mg ("law":Str)=some f/\Zd (Zf pw wd) jil (call f vs) (λv s'=>v=.bool true/\OldK s.heap s'.heap/\s'.os=s.os/\s'.gens=s.gens) ax s:=by
 refine Nm (Es T) λG ro hG hN hP zj z6 m7 sZ=>?_;obtain⟨a,fd,p,b,sc,c',m1,g1,f1,Br,N7⟩:=z6;have I:bh G s.heap:=ro.keeps hk;have Fp:∀c,¬bM G s.heap c:=λc hc=>m7 c (iW hk ro.tabs c hc);refine nc G.mg (.ref a) I.g m1 ?_;refine bA (KL hG hN 13 zj (Qx hP hG hN) 8 jil LC 21 _ _ (PL is aN)) λx i9 h1 h2=>?_;have hx:x=("law":Str):=congrArg jhA (Y7 (h1.symm.trans N7));have safe:∀a,fg.heap.objs.size<=a->eY G a:=λa ha=>⟨beq_eq_false_iff_ne.mpr (jaZ (bf sZ ha)),λq=>Z0.mpr ha (bz.lt ro.tabs q)⟩
 refine up (h2 a (hx▸m1) s φ0 (eY G) vs I (Ie (bf T.toks ht)) (λa ha=>ha.elim (λh=>safe a (Y5 hz h)) λh=>absurd h (Fp a)) (λY h=>h) (Vj hw λa e=>safe a (dZ a e))) λv s' h=>?_;refine au h λam k r=>?_;have ok:=Ud I Fp k;refine bA k.grows.keeps ?_;rintro h' t' rfl _;exact li r.inv ok rfl rfl
theorem Uu{st:Stmt}{name:Str}{p:jbr}{b:List Stmt}{sc:jaF}(h:uN st=true)(e:fS st=.fn name p b sc):p.defaults=[]/\p.kwonlyargs=[]/\p.kw_defaults=[]:=by
 refine CP (C:=λst=>fS st=.fn name p b sc->p.defaults=[]/\p.kwonlyargs=[]/\p.kw_defaults=[]) h (λn' p' b' Y Y Y tJ Y Y Y h1 Y e=>?_) e;refine rwj ((TV.fn.inj e).2.1) ?_;exact cu h1 λh1 k7=>cu h1 λh1 k6=>cu h1 λh1 k5=>cu h1 λh1 k4=>cz (jdk.mp k7) (jdk.mp k4) (jdk.mp k5)
theorem Sm(e:fS (fC 81)=.fn ("law":Str) p b sc):pw.theDef ("law":Str)=some (p,b,sc):=by
 have e2:(pw.theDef ("law":Str)).map (λx=>TV.fn ("law":Str) x.1 x.2.1 x.2.2)=some (fS (fC 81)):=by kernel_rfl
 rw[e]at e2;refine au (Zw.mp e2) λz4 hx h=>?_;obtain⟨x1,x2,x3⟩:=z4;have h:=(TV.fn.inj h).2;refine aa hx ?_;exact congrArg some (Prod.ext h.1 (Prod.ext h.2.1 h.2.2))
theorem Sn{s:Y8}(T:uw s):isTheDefsW pw s.heap ("law":Str):=by
 refine Nl (Es T) λG ro Y Y Y Y z3 Y=>?_;obtain⟨a,fd,p,b,sc,c',m1,g1,⟨bF,pm,bZ,rfl⟩,Br,_⟩:=z3;refine fY (Uu (Y'.mp D5 (21,"law",81) (ma (rfl:gw.lookup 21=some (("law":Str),81)))) Br) λd1 d2 d3=>?_;exact⟨a,_,_,p,b,sc,(jeD ro.g _).trans m1,g1,rfl,Sm Br,rfl,rfl,rfl,rfl,rfl,rfl,rfl,rfl,.inl ⟨d1,rfl⟩,[],by refine aa d2 ?_;refine aa d3 ?_;rfl,.inl ⟨rfl,rfl⟩⟩
theorem UC(args:List WData):v6.post args (.bool true) args=true:=by
 show(WShape.has ly.records (.bool true) .bool&&(WTm.eq .res (.lit (.bool true))).holds ly.records {args:=args,res:=some (.bool true),after:=args})=true;refine aa (holdsW_of_value (show(WTm.eq .res (.lit (.bool true))).value ly.records {args:=args,res:=some (.bool true),after:=args}=some (.bool true)by simp[WTm.value,same])) ?_;rfl
theorem U9(PL:wX)(Vh:(jeE jar).wellSaid=true)(hw:ly.promised)(hb:pw.bare)(ho:opensWell pw=true):(jeE jar).Holds:=by
 refine⟨Vh,hw,⟨hb,ho,rfl⟩,hw.witness,Jk (And.intro head.1 λs hs=>?_)⟩;obtain⟨fg,f1,f2,ak,hT,hz,T⟩:=(head).2 s hs;refine⟨fg,f1,f2,ak,hT,λn hn=>?_,(λx hx=>nomatch hx),(λx hx=>nomatch hx),?_⟩
 ·have:n=jar.name:=by simpa [jeE]using hn
  refine aa this ?_;exact Sn T
 ·refine ClaimW.callFrom_of_specG (c:=v6) (tree:=λvs=>do match <-nsGet mainNs ("law":Str)with
   |some f=>do ret (<-PySem.call f vs)
   |none=>unsupported "claim.caller:no-such-global") hz T.gens λargs l0 Qb ord zF=>?_
  refine au (Jt l0) ?_;rintro is rfl aN;refine aX (jcC.mp (layAllW_isSome (R:=ly.records) (cl:=classAt ak.heap) (P:=wd.params) (ord:=ord) (λc hc=>by cases hc) _ ly.args ak (pre_splitW l0).1)) λz1 oy=>?_;obtain⟨vs,aC⟩:=z1;have keeps:=layAllW_keeps _ _ _ oy;have mX:=layAllW_rest _ _ _ oy;refine fq (reads_layAllW zF _ _ _ oy Qb aC.heap (λY Y e=>e)) λas FF eR oC=>?_;have L:Laid ly.records wd ak aC [.list (is.map .int)] vs as:=⟨⟨ord,zF,oy⟩,FF,eR,oC,keeps,mX.1.trans T.gens,mX.2.2.1⟩
  have gr:=layAllW_grows _ _ _ oy;have FR:=well_layAllW zF _ _ _ oy aC.heap (λY Y e=>e);have dZ:∀a,vs=[.ref a]->ak.heap.objs.size<=a:=λa e=>by
   subst e;cases FF with
   |cons r1 r2 =>
    cases r1 with
    |list e1 e2 e3 e4=>exact(eR.2.2 a (by simp)).1
  refine bS (Sl PL T keeps gr.size gr.toks aN FR dZ) λmg f n1 n2 sN=>?_;refine cZ vs aC oy (Zc (jiQ (a:=Zs) n1 ?_));refine aa n2 ?_;refine Zc (jav sN (λv s' ⟨e1,e2,e3,e4⟩=>ZC ?_) λY Y x=>x.elim);subst e1;refine Ry (.ret (.bool true)) rfl ?_ (e3.trans mX.2.2.1) (jiN (e4.trans (mX.1.trans T.gens))) (λq=>nomatch q);have g:GoodWG v6 (classAt ak.heap) (ExcName.means ak.heap) [.list (is.map .int)] aC (.ok (.ret (.bool true))) s' :=
   ⟨.inl ⟨.bool true,.bool true,[],rfl,λY=>rfl,.bool true,UC _,λY=>⟨jaW,λa ha=>nomatch ha⟩⟩,e2,e3,jiN (e4.trans (mX.1.trans T.gens))⟩
  exact(g.laid rfl rfl (λa b=>ident_freeW (r:=ly) rfl rfl rfl a b) L).1
end
section
open PySem
set_option backward.match.sparseCases true
def f0:dC:=⟨3,11,(.cons (.ife (.cmp .LtE (.bin .Sub (.call .bitLength (.cons (.var 0) .nil)) (.var 2)) (.glob .divLimit))
 (.cons (.ret (.call .divmod (.cons (.var 0) (.cons (.var 1) .nil))))
 .nil)
 .nil)
 (.cons (.asg 3 false (.bin .BitAnd (.var 2) (.c (.int 1))))
 (.cons (.ife (.var 3)
  (.cons (.aug 0 .LShift (.c (.int 1)))
  (.cons (.aug 1 .LShift (.c (.int 1)))
  (.cons (.aug 2 .Add (.c (.int 1)))
  .nil)))
  .nil)
 (.cons (.asg 4 false (.bin .RShift (.var 2) (.c (.int 1))))
 (.cons (.asg 5 false (.bin .Sub (.bin .LShift (.c (.int 1)) (.var 4)) (.c (.int 1))))
 (.cons (.asgT [(6,false),(7,false)] (.cons (.bin .RShift (.var 1) (.var 4)) (.cons (.bin .BitAnd (.var 1) (.var 5)) .nil)))
 (.cons (.unp [8,9] .bad)
 (.cons (.unp [10,9] .bad)
 (.cons (.ife (.var 3)
  (.cons (.aug 9 .RShift (.c (.int 1)))
  .nil)
  .nil)
 (.cons (.ret (.tup (.cons (.bin .BitOr (.bin .LShift (.var 8) (.var 4)) (.var 10)) (.cons (.var 9) .nil))))
 .nil))))))))))⟩
def f3:dC:=⟨2,9,(.cons (.asg 2 false (.call .bitLength (.cons (.var 1) .nil)))
 (.cons (.asg 3 false (.call (.user 1) (.cons (.var 0) (.cons (.var 2) .nil))))
 (.cons (.asg 4 false (.c (.int 0)))
 (.cons (.asg 5 true (.list .nil))
 (.cons (.for_ 6 (.rev (.var 3))
  (.cons (.unp [7,4] (.call (.user 0) (.cons (.bin .Add (.bin .LShift (.var 4) (.var 2)) (.var 6)) (.cons (.var 1) (.cons (.var 2) .nil)))))
  (.cons (.app (.var 5) (.var 7))
  .nil)))
 (.cons (.rev (.var 5))
 (.cons (.asg 8 false (.call (.user 2) (.cons (.var 5) (.cons (.var 2) .nil))))
 (.cons (.ret (.tup (.cons (.var 8) (.cons (.var 4) .nil))))
 .nil))))))))⟩
def f4:dC:=⟨2,4,(.cons (.ife (.cmp .Eq (.var 1) (.c (.int 0)))
 (.cons .bad
 .nil)
 (.cons (.ife (.cmp .Lt (.var 1) (.c (.int 0)))
  (.cons (.unp [2,3] (.call (.user 4) (.cons (.un .USub (.var 0)) (.cons (.un .USub (.var 1)) .nil))))
  (.cons (.ret (.tup (.cons (.var 2) (.cons (.un .USub (.var 3)) .nil))))
  .nil))
  (.cons (.ife (.cmp .Lt (.var 0) (.c (.int 0)))
   (.cons (.unp [2,3] (.call (.user 4) (.cons (.un .Invert (.var 0)) (.cons (.var 1) .nil))))
   (.cons (.ret (.tup (.cons (.un .Invert (.var 2)) (.cons (.bin .Add (.var 1) (.un .Invert (.var 3))) .nil))))
   .nil))
   (.cons (.ret (.call (.user 3) (.cons (.var 0) (.cons (.var 1) .nil))))
   .nil))
  .nil))
 .nil))
 .nil)⟩
def f5:dC:=⟨3,13,(.cons (.asg 3 false (.call .max (.cons (.var 0) (.cons (.var 1) (.cons (.var 2) .nil)))))
 (.cons (.asg 4 false (.call .min (.cons (.var 0) (.cons (.var 1) (.cons (.var 2) .nil)))))
 (.cons (.asg 5 false (.bin .Add (.var 3) (.var 4)))
 (.cons (.asg 6 false (.bin .Sub (.var 3) (.var 4)))
 (.cons (.asg 7 false (.bin .Div (.var 5) (.c (.float 4611686018427387904))))
 (.cons (.ife (.cmp .Eq (.var 4) (.var 3))
  (.cons (.ret (.tup (.cons (.c (.float 0)) (.cons (.var 7) (.cons (.c (.float 0)) .nil)))))
  .nil)
  .nil)
 (.cons (.ife (.cmp .LtE (.var 7) (.c (.float 4602678819172646912)))
  (.cons (.asg 8 false (.bin .Div (.var 6) (.var 5)))
  .nil)
  (.cons (.asg 8 false (.bin .Div (.var 6) (.bin .Sub (.bin .Sub (.c (.float 4611686018427387904)) (.var 3)) (.var 4))))
  .nil))
 (.cons (.asg 9 false (.bin .Div (.bin .Sub (.var 3) (.var 0)) (.var 6)))
 (.cons (.asg 10 false (.bin .Div (.bin .Sub (.var 3) (.var 1)) (.var 6)))
 (.cons (.asg 11 false (.bin .Div (.bin .Sub (.var 3) (.var 2)) (.var 6)))
 (.cons (.ife (.cmp .Eq (.var 0) (.var 3))
  (.cons (.asg 12 false (.bin .Sub (.var 11) (.var 10)))
  .nil)
  (.cons (.ife (.cmp .Eq (.var 1) (.var 3))
   (.cons (.asg 12 false (.bin .Sub (.bin .Add (.c (.float 4611686018427387904)) (.var 9)) (.var 11)))
   .nil)
   (.cons (.asg 12 false (.bin .Sub (.bin .Add (.c (.float 4616189618054758400)) (.var 10)) (.var 9)))
   .nil))
  .nil))
 (.cons (.asg 12 false (.bin .Mod (.bin .Div (.var 12) (.c (.float 4618441417868443648))) (.c (.float 4607182418800017408))))
 (.cons (.ret (.tup (.cons (.var 12) (.cons (.var 7) (.cons (.var 8) .nil)))))
 .nil)))))))))))))⟩
def f6:dC:=⟨3,12,(.cons (.asg 3 false (.call .max (.cons (.var 0) (.cons (.var 1) (.cons (.var 2) .nil)))))
 (.cons (.asg 4 false (.call .min (.cons (.var 0) (.cons (.var 1) (.cons (.var 2) .nil)))))
 (.cons (.asg 5 false (.bin .Sub (.var 3) (.var 4)))
 (.cons (.asg 6 false (.var 3))
 (.cons (.ife (.cmp .Eq (.var 4) (.var 3))
  (.cons (.ret (.tup (.cons (.c (.float 0)) (.cons (.c (.float 0)) (.cons (.var 6) .nil)))))
  .nil)
  .nil)
 (.cons (.asg 7 false (.bin .Div (.var 5) (.var 3)))
 (.cons (.asg 8 false (.bin .Div (.bin .Sub (.var 3) (.var 0)) (.var 5)))
 (.cons (.asg 9 false (.bin .Div (.bin .Sub (.var 3) (.var 1)) (.var 5)))
 (.cons (.asg 10 false (.bin .Div (.bin .Sub (.var 3) (.var 2)) (.var 5)))
 (.cons (.ife (.cmp .Eq (.var 0) (.var 3))
  (.cons (.asg 11 false (.bin .Sub (.var 10) (.var 9)))
  .nil)
  (.cons (.ife (.cmp .Eq (.var 1) (.var 3))
   (.cons (.asg 11 false (.bin .Sub (.bin .Add (.c (.float 4611686018427387904)) (.var 8)) (.var 10)))
   .nil)
   (.cons (.asg 11 false (.bin .Sub (.bin .Add (.c (.float 4616189618054758400)) (.var 9)) (.var 8)))
   .nil))
  .nil))
 (.cons (.asg 11 false (.bin .Mod (.bin .Div (.var 11) (.c (.float 4618441417868443648))) (.c (.float 4607182418800017408))))
 (.cons (.ret (.tup (.cons (.var 11) (.cons (.var 7) (.cons (.var 6) .nil)))))
 .nil))))))))))))⟩
def f7:dC:=⟨3,8,(.cons (.ife (.cmp .Eq (.var 1) (.c (.float 0)))
 (.cons (.ret (.tup (.cons (.var 2) (.cons (.var 2) (.cons (.var 2) .nil)))))
 .nil)
 .nil)
 (.cons (.asg 3 false (.call .int (.cons (.bin .Mult (.var 0) (.c (.float 4618441417868443648))) .nil)))
 (.cons (.asg 4 false (.bin .Sub (.bin .Mult (.var 0) (.c (.float 4618441417868443648))) (.var 3)))
 (.cons (.asg 5 false (.bin .Mult (.var 2) (.bin .Sub (.c (.float 4607182418800017408)) (.var 1))))
 (.cons (.asg 6 false (.bin .Mult (.var 2) (.bin .Sub (.c (.float 4607182418800017408)) (.bin .Mult (.var 1) (.var 4)))))
 (.cons (.asg 7 false (.bin .Mult (.var 2) (.bin .Sub (.c (.float 4607182418800017408)) (.bin .Mult (.var 1) (.bin .Sub (.c (.float 4607182418800017408)) (.var 4))))))
 (.cons (.asg 3 false (.bin .Mod (.var 3) (.c (.int 6))))
 (.cons (.ife (.cmp .Eq (.var 3) (.c (.int 0)))
  (.cons (.ret (.tup (.cons (.var 2) (.cons (.var 7) (.cons (.var 5) .nil)))))
  .nil)
  .nil)
 (.cons (.ife (.cmp .Eq (.var 3) (.c (.int 1)))
  (.cons (.ret (.tup (.cons (.var 6) (.cons (.var 2) (.cons (.var 5) .nil)))))
  .nil)
  .nil)
 (.cons (.ife (.cmp .Eq (.var 3) (.c (.int 2)))
  (.cons (.ret (.tup (.cons (.var 5) (.cons (.var 2) (.cons (.var 7) .nil)))))
  .nil)
  .nil)
 (.cons (.ife (.cmp .Eq (.var 3) (.c (.int 3)))
  (.cons (.ret (.tup (.cons (.var 5) (.cons (.var 6) (.cons (.var 2) .nil)))))
  .nil)
  .nil)
 (.cons (.ife (.cmp .Eq (.var 3) (.c (.int 4)))
  (.cons (.ret (.tup (.cons (.var 7) (.cons (.var 5) (.cons (.var 2) .nil)))))
  .nil)
  .nil)
 (.cons (.ife (.cmp .Eq (.var 3) (.c (.int 5)))
  (.cons (.ret (.tup (.cons (.var 2) (.cons (.var 5) (.cons (.var 6) .nil)))))
  .nil)
  .nil)
 .nil)))))))))))))⟩
def NB:dC:=⟨1,1,(.cons (.ret (.cmp .Lt (.var 0) (.glob .ntOffset)))
 .nil)⟩
def NC:dC:=⟨1,1,(.cons (.ret (.cmp .GtE (.var 0) (.glob .ntOffset)))
 .nil)⟩
def ND:dC:=⟨1,1,(.cons (.ret (.cmp .Eq (.var 0) (.glob .endMarker)))
 .nil)⟩
def DR:dC:=⟨1,13,(.cons (.asg 1 false (.list (.cons (.tup (.cons (.c (.int 64256)) (.cons (.c (.str "ff")) .nil))) (.cons (.tup (.cons (.c (.int 64257)) (.cons (.c (.str "fi")) .nil))) (.cons (.tup (.cons (.c (.int 64258)) (.cons (.c (.str "fl")) .nil))) (.cons (.tup (.cons (.c (.int 64259)) (.cons (.c (.str "ffi")) .nil))) (.cons (.tup (.cons (.c (.int 64260)) (.cons (.c (.str "ffl")) .nil))) (.cons (.tup (.cons (.c (.int 64261)) (.cons (.c (.str "st")) .nil))) (.cons (.tup (.cons (.c (.int 64262)) (.cons (.c (.str "st")) .nil))) (.cons (.tup (.cons (.c (.int 223)) (.cons (.c (.str "ss")) .nil))) .nil))))))))))
 (.cons (.asg 2 false (.list (.cons (.c (.int 97)) (.cons (.c (.int 65)) (.cons (.c (.int 119808)) (.cons (.c (.int 119860)) (.cons (.c (.int 119912)) (.cons (.c (.int 120016)) (.cons (.c (.int 120172)) (.cons (.c (.int 120224)) (.cons (.c (.int 120276)) (.cons (.c (.int 120328)) (.cons (.c (.int 120380)) (.cons (.c (.int 120432)) .nil))))))))))))))
 (.cons (.asg 3 false (.bin .Add (.list (.cons (.c (.int 173)) (.cons (.c (.int 847)) (.cons (.c (.int 6150)) (.cons (.c (.int 6155)) (.cons (.c (.int 6156)) (.cons (.c (.int 6157)) (.cons (.c (.int 8203)) (.cons (.c (.int 8204)) (.cons (.c (.int 8205)) (.cons (.c (.int 8288)) (.cons (.c (.int 65279)) .nil)))))))))))) (.call .listRange (.cons (.c (.int 65024)) (.cons (.c (.int 65040)) .nil)))))
 (.cons (.asgT [(4,false),(5,false),(6,false)] (.cons (.c (.str "")) (.cons (.c (.str "")) (.cons (.bin .FloorDiv (.var 0) (.c (.int 3))) .nil))))
 (.cons (.for_ 7 (.range (.cons (.bin .Add (.c (.int 1)) (.bin .Mod (.var 0) (.c (.int 3)))) .nil))
  (.cons (.asgT [(8,false),(9,false),(10,false)] (.cons (.bin .Mod (.var 6) (.c (.int 15))) (.cons (.bin .Mod (.bin .FloorDiv (.var 6) (.c (.int 15))) (.c (.int 40))) (.cons (.bin .Mod (.bin .FloorDiv (.var 6) (.c (.int 600))) (.c (.int 28))) .nil))))
  (.cons (.aug 6 .FloorDiv (.c (.int 16800)))
  (.cons (.asg 11 false (.idx (.c (.str "filst")) (.bin .Mod (.var 9) (.c (.int 5)))))
  (.cons (.asg 12 false (.idx (.list (.cons (.c (.int 8497)) (.cons (.c (.int 8464)) (.cons (.c (.int 8466)) (.cons (.c (.int 383)) (.cons (.c (.int 120139)) .nil)))))) (.bin .Mod (.var 9) (.c (.int 5)))))
  (.cons (.ife (.cmp .Lt (.var 8) (.c (.int 2)))
   (.cons (.unp [12,11] (.idx (.var 1) (.bin .Mod (.var 9) (.c (.int 8)))))
   .nil)
   (.cons (.ife (.cmp .Lt (.var 8) (.c (.int 14)))
    (.cons (.asg 12 false (.bin .Sub (.bin .Add (.idx (.var 2) (.bin .Sub (.var 8) (.c (.int 2)))) (.call .ord (.cons (.var 11) .nil))) (.c (.int 97))))
    .nil)
    .nil)
   .nil))
  (.cons (.aug 4 .Add (.bin .Add (.ite (.cmp .Eq (.var 10) (.c (.int 0))) (.c (.str "")) (.call .chr (.cons (.idx (.var 3) (.bin .Sub (.var 10) (.c (.int 1)))) .nil))) (.call .chr (.cons (.var 12) .nil))))
  (.cons (.aug 5 .Add (.var 11))
  .nil))))))))
 (.cons (.ret (.tup (.cons (.var 4) (.cons (.var 5) .nil))))
 .nil))))))⟩
def yz:dC:=⟨1,8,(.cons (.asg 1 false (.call .split (.cons (.c (.str "( ) [ ] : , ; + - * / | & < > = . % { } == != <= >= ~ ^ << >> ** += -= *= /= %= &= |= ^= <<= >>= **= // //= @ @= -> ... := !")) .nil)))
 (.cons (.asgT [(2,false),(3,true)] (.cons (.c (.str "")) (.cons (.list .nil) .nil)))
 (.cons (.for_ 4 (.range (.cons (.c (.int 5)) .nil))
  (.cons (.unp [5,6] (.call (.user 13) (.cons (.idx (.var 0) (.var 4)) .nil)))
  (.cons (.asg 7 false (.bin .Mod (.bin .FloorDiv (.idx (.var 0) (.c (.int 5))) (.bin .Pow (.c (.int 48)) (.var 4))) (.c (.int 48))))
  (.cons (.aug 2 .Add (.bin .Add (.var 5) (.ite (.cmp .Lt (.var 4) (.c (.int 4))) (.idx (.var 1) (.var 7)) (.c (.str "")))))
  (.cons (.aug 3 .Add (.bin .Add (.comp 1 (.cons 8 (.val (.var 6)) .nil (.done (.bin .Add (.c (.int 256)) (.call .index (.cons (.c (.str "filst")) (.cons (.var 8) .nil))))))) (.list (.cons (.ite (.cmp .Lt (.var 4) (.c (.int 4))) (.bin .Add (.c (.int 7)) (.var 7)) (.c (.int 0))) .nil))))
  .nil)))))
 (.cons (.ret (.tup (.cons (.var 2) (.cons (.var 3) .nil))))
 .nil))))⟩
def DS:dC:=⟨1,5,(.cons (.asg 1 false (.comp 1 (.cons 5 (.val (.var 0)) .nil (.done (.call (.user 8) (.cons (.var 5) .nil))))))
 (.cons (.asg 2 false (.call .join (.cons (.c (.str "")) (.cons (.comp 1 (.cons 5 (.range (.cons (.call .len (.cons (.var 0) .nil)) .nil)) (.cons (.cmp .Is (.idx (.var 1) (.var 5)) (.c (.bool false))) .nil) (.done (.call (.user 9) (.cons (.idx (.var 0) (.var 5)) .nil))))) .nil))))
 (.cons (.asg 3 true (.comp 1 (.cons 5 (.val (.var 1)) (.cons (.and (.cons (.cmp .IsNot (.var 5) (.c (.bool true))) (.cons (.cmp .IsNot (.var 5) (.c (.bool false))) .nil))) .nil) (.done (.var 5)))))
 (.cons (.while_ (.cmp .NotEq (.var 2) (.c (.str "")))
  (.cons (.asg 4 false (.call .max (.cons (.bin .Add (.list (.cons (.c (.int 1)) .nil)) (.comp 1 (.cons 5 (.val (.tup (.cons (.c (.int 2)) (.cons (.c (.int 3)) .nil)))) (.cons (.cmp .In (.slice (.var 2) .none (.some (.var 5))) (.glob .tok)) .nil) (.done (.var 5))))) .nil)))
  (.cons (.app (.var 3) (.call .get (.cons (.glob .tok) (.cons (.slice (.var 2) .none (.some (.var 4))) (.cons (.bin .Add (.c (.int 256)) (.call .find (.cons (.c (.str "filst")) (.cons (.slice (.var 2) .none (.some (.var 4))) .nil)))) .nil)))))
  (.cons (.asg 2 false (.slice (.var 2) (.some (.var 4)) .none))
  .nil))))
 (.cons (.ret (.bin .Add (.var 3) (.list (.cons (.c (.int 0)) .nil))))
 .nil)))))⟩
def yA:dC:=⟨1,6,(.cons (.asgT [(1,true),(2,true),(3,false)] (.cons (.list .nil) (.cons (.list (.cons (.list .nil) (.cons (.list .nil) (.cons (.list .nil) (.cons (.list .nil) (.cons (.list .nil) .nil)))))) (.cons (.un .USub (.c (.int 1))) .nil))))
 (.cons (.for_ 4 (.val (.var 0))
  (.cons (.ife (.or (.cons (.cmp .IsNot (.call (.user 10) (.cons (.var 4) .nil)) (.cmp .Lt (.var 4) (.c (.int 256)))) (.cons (.cmp .IsNot (.call (.user 11) (.cons (.var 4) .nil)) (.cmp .Gt (.var 4) (.c (.int 255)))) (.cons (.cmp .IsNot (.call (.user 12) (.cons (.var 4) .nil)) (.cmp .Eq (.var 4) (.c (.int 0)))) .nil))))
   (.cons (.ret (.list .nil))
   .nil)
   .nil)
  (.cons (.ife (.and (.cons (.cmp .Gt (.var 4) (.c (.int 255))) (.cons (.cmp .NotIn (.var 4) (.var 1)) .nil)))
   (.cons (.app (.var 1) (.var 4))
   .nil)
   .nil)
  (.cons (.asg 5 false (.ite (.cmp .Gt (.var 4) (.c (.int 255))) (.call .index (.cons (.var 1) (.cons (.var 4) .nil))) (.un .USub (.c (.int 1)))))
  (.cons (.ife (.and (.cons (.cmp .GtE (.var 5) (.c (.int 0))) (.cons (.cmp .GtE (.var 3) (.c (.int 0))) (.cons (.cmp .NotEq (.var 5) (.var 3)) (.cons (.cmp .NotIn (.var 5) (.idx (.var 2) (.var 3))) .nil)))))
   (.cons (.app (.idx (.var 2) (.var 3)) (.var 5))
   (.cons (.app (.idx (.var 2) (.var 5)) (.var 3))
   .nil))
   .nil)
  (.cons (.asg 3 false (.var 5))
  .nil))))))
 (.cons (.ret (.slice (.var 2) .none (.some (.call .len (.cons (.var 1) .nil)))))
 .nil)))⟩
def yB:dC:=⟨2,14,(.cons (.asg 2 true (.list .nil))
 (.cons (.for_ 3 (.range (.cons (.bin .Mult (.c (.int 3)) (.var 1)) .nil))
  (.cons (.asg 4 false (.bin .FloorDiv (.bin .FloorDiv (.var 0) (.c (.int 1984))) (.bin .Pow (.c (.int 16)) (.bin .FloorDiv (.var 3) (.c (.int 3))))))
  (.cons (.asgT [(5,false),(6,false)] (.cons (.bin .Add (.c (.int 1)) (.bin .Mod (.var 4) (.c (.int 4)))) (.cons (.bin .Add (.c (.int 1)) (.bin .Mod (.bin .FloorDiv (.var 4) (.c (.int 4))) (.c (.int 4)))) .nil)))
  (.cons (.asg 7 false (.bin .Mult (.var 6) (.bin .Sub (.c (.int 8)) (.var 5))))
  (.cons (.asg 8 false (.bin .Div (.bin .Mod (.bin .Add (.bin .Mod (.var 0) (.c (.int 64))) (.bin .Mult (.bin .Mod (.var 3) (.c (.int 3))) (.bin .Add (.c (.int 1)) (.bin .Mod (.bin .FloorDiv (.var 0) (.c (.int 64))) (.c (.int 31)))))) (.c (.int 64))) (.c (.int 64))))
  (.cons (.unp [9,10,11] (.call (.user 7) (.cons (.bin .Add (.bin .Mod (.var 3) (.c (.int 4))) (.var 8)) (.cons (.bin .Div (.var 5) (.c (.int 4))) (.cons (.bin .Div (.var 6) (.c (.int 4))) .nil)))))
  (.cons (.asgT [(12,false),(13,false)] (.cons (.call (.user 6) (.cons (.var 9) (.cons (.var 10) (.cons (.var 11) .nil)))) (.cons (.call (.user 5) (.cons (.var 9) (.cons (.var 10) (.cons (.var 11) .nil)))) .nil)))
  (.cons (.ife (.or (.cons (.cmp .NotEq (.var 12) (.tup (.cons (.var 8) (.cons (.bin .Div (.var 5) (.c (.int 4))) (.cons (.bin .Div (.var 6) (.c (.int 4))) .nil))))) (.cons (.cmp .NotEq (.var 13) (.tup (.cons (.var 8) (.cons (.bin .Div (.var 7) (.c (.int 32))) (.cons (.bin .Div (.bin .Mult (.var 5) (.var 6)) (.call .min (.cons (.var 7) (.cons (.bin .Sub (.c (.int 32)) (.var 7)) .nil)))) .nil))))) .nil)))
   (.cons (.ret (.list .nil))
   .nil)
   .nil)
  (.cons (.app (.var 2) (.idx (.idx (.tup (.cons (.var 12) (.cons (.var 13) .nil))) (.bin .Mod (.var 3) (.c (.int 2)))) (.c (.int 0))))
  .nil)))))))))
 (.cons (.ret (.var 2))
 .nil)))⟩
def yC:dC:=⟨3,5,(.cons (.asg 3 false (.list (.cons (.list .nil) .nil)))
 (.cons (.for_ 4 (.range (.cons (.call .len (.cons (.var 0) .nil)) .nil))
  (.cons (.asg 3 false (.comp 2 (.cons 5 (.val (.var 3)) .nil (.cons 6 (.range (.cons (.var 2) .nil)) (.cons (.cmp .Eq (.comp 1 (.cons 7 (.val (.idx (.var 0) (.var 4))) (.cons (.and (.cons (.cmp .Lt (.var 7) (.var 4)) (.cons (.cmp .Eq (.idx (.var 5) (.var 7)) (.idx (.var 1) (.bin .Add (.bin .Mult (.c (.int 3)) (.var 4)) (.var 6)))) .nil))) .nil) (.done (.var 7)))) (.list .nil)) .nil) (.done (.bin .Add (.var 5) (.list (.cons (.idx (.var 1) (.bin .Add (.bin .Mult (.c (.int 3)) (.var 4)) (.var 6))) .nil))))))))
  .nil))
 (.cons (.ret (.call .len (.cons (.var 3) .nil)))
 .nil)))⟩
def yD:dC:=⟨1,9,(.cons (.asg 1 true (.list (.cons (.dict (.cons (.c (.int 0)) .nil) (.cons (.c (.int 0)) .nil)) .nil)))
 (.cons (.for_ 2 (.range (.cons (.c (.int 1)) (.cons (.bin .Pow (.c (.int 2)) (.call .len (.cons (.var 0) .nil))) .nil)))
  (.cons (.asg 3 true (.dict .nil .nil))
  (.cons (.for_ 4 (.range (.cons (.call .len (.cons (.var 0) .nil)) .nil))
   (.cons (.ife (.cmp .Eq (.bin .Mod (.bin .FloorDiv (.var 2) (.bin .Pow (.c (.int 2)) (.var 4))) (.c (.int 2))) (.c (.int 1)))
    (.cons (.asg 5 false (.bin .Sub (.var 2) (.bin .Pow (.c (.int 2)) (.var 4))))
    (.cons (.asg 6 false (.bin .Mult (.bin .Pow (.c (.int 32)) (.var 4)) (.call .sum (.cons (.comp 1 (.cons 9 (.val (.idx (.var 0) (.var 4))) (.cons (.cmp .Eq (.bin .Mod (.bin .FloorDiv (.var 5) (.bin .Pow (.c (.int 2)) (.var 9))) (.c (.int 2))) (.c (.int 1))) .nil) (.done (.bin .Pow (.c (.int 2)) (.var 9))))) .nil))))
    (.cons (.asg 7 false (.ite (.cmp .Eq (.bin .Mod (.var 5) (.bin .Pow (.c (.int 2)) (.var 4))) (.c (.int 0))) (.c (.int 1)) (.c (.int 0))))
    (.cons (.for_ 8 (.val (.idx (.var 1) (.var 5)))
     (.cons (.put 3 (.bin .Add (.var 8) (.var 6)) (.call .max (.cons (.call .get (.cons (.var 3) (.cons (.bin .Add (.var 8) (.var 6)) (.cons (.c (.int 0)) .nil)))) (.cons (.bin .Add (.idx (.idx (.var 1) (.var 5)) (.var 8)) (.var 7)) .nil))))
     .nil))
    .nil))))
    .nil)
   .nil))
  (.cons (.app (.var 1) (.var 3))
  .nil))))
 (.cons (.ret (.var 1))
 .nil)))⟩
def NE:dC:=⟨2,2,(.cons (.ret (.and (.cons (.cmp .Eq (.var 0) (.var 1)) (.cons (.cmp .Eq (.comp 1 (.cons 2 (.val (.var 0)) (.cons (.or (.cons (.call .isBool (.cons (.var 2) .nil)) (.cons (.un .Not (.call .isInt (.cons (.var 2) .nil))) .nil))) .nil) (.done (.var 2)))) (.list .nil)) .nil))))
 .nil)⟩
def mT:dC:=⟨1,24,(.cons (.asg 1 false (.list (.cons (.c (.int 1715446)) (.cons (.c (.int 365853733)) (.cons (.c (.int 816530545)) (.cons (.c (.int 225)) (.cons (.c (.int 318)) (.cons (.c (.int 5174684)) (.cons (.c (.int 75120764)) (.cons (.c (.int 123)) .nil))))))))))
 (.cons (.asg 2 false (.slice (.var 0) .none (.some (.c (.int 60)))))
 (.cons (.asg 3 false (.comp 1 (.cons 24 (.range (.cons (.c (.int 8)) .nil)) .nil (.done (.bin .Add (.idx (.var 1) (.var 24)) (.call .sum (.cons (.comp 1 (.cons 25 (.range (.cons (.var 24) (.cons (.call .len (.cons (.var 2) .nil)) (.cons (.c (.int 8)) .nil)))) .nil (.done (.bin .Mod (.idx (.var 2) (.var 25)) (.bin .Pow (.c (.int 10)) (.c (.int 15))))))) .nil)))))))
 (.cons (.unp [4,5] (.call (.user 14) (.cons (.var 3) .nil)))
 (.cons (.asg 6 false (.call (.user 15) (.cons (.var 4) .nil)))
 (.cons (.ife (.cmp .NotEq (.var 6) (.var 5))
  (.cons (.ret (.c (.bool false)))
  .nil)
  .nil)
 (.cons (.asg 7 false (.call (.user 16) (.cons (.bin .Add (.var 6) (.list (.cons (.c (.int 255)) (.cons (.un .USub (.c (.int 1))) .nil)))) .nil)))
 (.cons (.asg 8 false (.call (.user 17) (.cons (.idx (.var 3) (.c (.int 6))) (.cons (.call .len (.cons (.var 7) .nil)) .nil))))
 (.cons (.asg 9 false (.bin .Div (.bin .Mod (.idx (.var 3) (.c (.int 6))) (.c (.int 5))) (.c (.int 4))))
 (.cons (.ife (.or (.cons (.cmp .Eq (.var 8) (.list .nil)) (.cons (.cmp .NotEq (.bin .Add (.bin .Add (.call (.user 6) (.cons (.var 9) (.cons (.var 9) (.cons (.var 9) .nil)))) (.call (.user 5) (.cons (.var 9) (.cons (.var 9) (.cons (.var 9) .nil))))) (.call (.user 7) (.cons (.bin .Add (.var 9) (.bin .Div (.c (.int 1)) (.c (.int 8)))) (.cons (.c (.int 0)) (.cons (.var 9) .nil))))) (.tup (.cons (.c (.int 0)) (.cons (.c (.int 0)) (.cons (.var 9) (.cons (.c (.int 0)) (.cons (.var 9) (.cons (.c (.int 0)) (.cons (.var 9) (.cons (.var 9) (.cons (.var 9) .nil))))))))))) .nil)))
  (.cons (.ret (.c (.bool false)))
  .nil)
  .nil)
 (.cons (.asgT [(10,false),(11,false)] (.cons (.call .len (.cons (.var 7) .nil)) (.cons (.call (.user 19) (.cons (.var 7) .nil)) .nil)))
 (.cons (.asg 12 false (.comp 1 (.cons 24 (.val (.idx (.var 11) (.un .USub (.c (.int 1))))) (.cons (.cmp .Eq (.comp 1 (.cons 25 (.range (.cons (.var 10) .nil)) (.cons (.cmp .Eq (.bin .Mod (.bin .FloorDiv (.var 24) (.bin .Pow (.c (.int 32)) (.var 25))) (.c (.int 32))) (.c (.int 0))) .nil) (.done (.var 25)))) (.list (.cons (.bin .Mod (.idx (.var 3) (.c (.int 7))) (.var 10)) .nil))) .nil) (.done (.var 24)))))
 (.cons (.asg 13 false (.call .listVals (.cons (.idx (.var 11) (.un .USub (.c (.int 1)))) .nil)))
 (.cons (.asg 14 false (.bin .Add (.list (.cons (.c (.int 0)) (.cons (.call .len (.cons (.var 12) .nil)) .nil))) (.comp 1 (.cons 24 (.range (.cons (.c (.int 2)) (.cons (.bin .Add (.var 10) (.c (.int 1))) .nil))) .nil (.done (.call .count (.cons (.var 13) (.cons (.var 24) .nil))))))))
 (.cons (.asg 15 false (.bin .Add (.c (.int 10)) (.bin .Mod (.bin .FloorDiv (.idx (.var 3) (.c (.int 7))) (.c (.int 60))) (.c (.int 23)))))
 (.cons (.asgT [(16,false),(17,false)] (.cons (.bin .Pow (.c (.int 2)) (.var 15)) (.cons (.call (.user 2) (.cons (.var 14) (.cons (.var 15) .nil))) .nil)))
 (.cons (.asg 18 false (.ite (.cmp .Eq (.bin .Mod (.var 10) (.c (.int 2))) (.c (.int 1))) (.un .USub (.var 17)) (.var 17)))
 (.cons (.for_ 19 (.range (.cons (.c (.int 1)) (.cons (.c (.int 4)) .nil)))
  (.cons (.asg 20 false (.call (.user 18) (.cons (.var 7) (.cons (.var 8) (.cons (.var 19) .nil)))))
  (.cons (.asg 21 false (.bin .Sub (.c (.int 1)) (.bin .Mult (.c (.int 2)) (.bin .Mod (.bin .Add (.var 19) (.idx (.var 3) (.c (.int 7)))) (.c (.int 2))))))
  (.cons (.ife (.or (.cons (.un .Not (.call (.user 20) (.cons (.call (.user 4) (.cons (.bin .Mult (.var 21) (.var 18)) (.cons (.bin .Mult (.var 21) (.bin .Add (.var 16) (.var 19))) .nil))) (.cons (.tup (.cons (.bin .FloorDiv (.bin .Sub (.var 18) (.var 20)) (.bin .Add (.var 16) (.var 19))) (.cons (.bin .Mult (.var 21) (.var 20)) .nil))) .nil)))) (.cons (.cmp .NotEq (.call (.user 2) (.cons (.call (.user 1) (.cons (.var 20) (.cons (.var 19) .nil))) (.cons (.var 19) .nil))) (.var 20)) .nil)))
   (.cons (.ret (.c (.bool false)))
   .nil)
   .nil)
  .nil))))
 (.cons (.asg 22 false (.bin .FloorDiv (.bin .Sub (.var 17) (.call .len (.cons (.var 13) .nil))) (.bin .Sub (.var 16) (.c (.int 1)))))
 (.cons (.ife (.or (.cons (.un .Not (.call (.user 20) (.cons (.call (.user 3) (.cons (.var 17) (.cons (.bin .Sub (.var 16) (.c (.int 1))) .nil))) (.cons (.tup (.cons (.var 22) (.cons (.call .len (.cons (.var 13) .nil)) .nil))) .nil)))) (.cons (.un .Not (.call (.user 20) (.cons (.call (.user 1) (.cons (.var 22) (.cons (.var 15) .nil))) (.cons (.comp 1 (.cons 24 (.range (.cons (.var 10) .nil)) .nil (.done (.call .sum (.cons (.slice (.var 14) (.some (.bin .Add (.var 24) (.c (.int 1)))) .none) .nil))))) .nil)))) .nil)))
  (.cons (.ret (.c (.bool false)))
  .nil)
  .nil)
 (.cons (.asg 23 false (.call .sum (.cons (.comp 1 (.cons 24 (.range (.cons (.bin .Pow (.c (.int 2)) (.var 10)) .nil)) .nil (.done (.bin .Mult (.call .len (.cons (.idx (.var 11) (.var 24)) .nil)) (.call .len (.cons (.idx (.var 11) (.bin .Sub (.un .USub (.c (.int 1))) (.var 24))) .nil)))))) .nil)))
 (.cons (.ret (.and (.cons (.call (.user 20) (.cons (.call (.user 1) (.cons (.var 17) (.cons (.var 15) .nil))) (.cons (.var 14) .nil))) (.cons (.call (.user 20) (.cons (.bin .Add (.call (.user 4) (.cons (.c (.int 0)) (.cons (.bin .Sub (.c (.int 2)) (.var 16)) .nil))) (.call (.user 4) (.cons (.var 17) (.cons (.bin .Sub (.c (.int 2)) (.var 16)) .nil)))) (.cons (.tup (.cons (.c (.int 0)) (.cons (.c (.int 0)) (.cons (.bin .Sub (.bin .FloorDiv (.bin .Sub (.var 23) (.var 17)) (.bin .Sub (.var 16) (.c (.int 2)))) (.c (.int 1))) (.cons (.bin .Sub (.bin .Add (.var 23) (.c (.int 2))) (.var 16)) .nil))))) .nil))) .nil))))
 .nil))))))))))))))))))))))⟩
theorem Oh:fns 0=some f0:=by kernel_rfl
theorem Ow:fns 3=some f3:=by kernel_rfl
theorem yJ:fns 4=some f4:=by kernel_rfl
theorem D6:fns 5=some f5:=by kernel_rfl
theorem D7:fns 6=some f6:=by kernel_rfl
theorem D8:fns 7=some f7:=by kernel_rfl
theorem Oi:fns 10=some NB:=by kernel_rfl
theorem Oj:fns 11=some NC:=by kernel_rfl
theorem Ok:fns 12=some ND:=by kernel_rfl
theorem Ol:fns 13=some DR:=by kernel_rfl
theorem Om:fns 14=some yz:=by kernel_rfl
theorem On:fns 15=some DS:=by kernel_rfl
theorem Oo:fns 16=some yA:=by kernel_rfl
theorem Op:fns 17=some yB:=by kernel_rfl
theorem Oq:fns 18=some yC:=by kernel_rfl
theorem Ot:fns 19=some yD:=by kernel_rfl
theorem Ou:fns 20=some NE:=by kernel_rfl
theorem Ov:fns 21=some mT:=by kernel_rfl
theorem u9:fns 1=none/\fns 2=none/\fns 8=none/\fns 9=none:=li (by kernel_rfl) (by kernel_rfl) (by kernel_rfl) (by kernel_rfl)
abbrev Fi(n:Nat):cX:=nR gb fns n
theorem u3(h:fns k=some d):Fi (n+1) k as=oP (Fi n) d as:=by
 show(match fns k with|some d=>oP (nR gb fns n) d as|none=>gb k as)=_;refine aa h ?_;rfl
theorem u4(h:fns k=none):Fi (n+1) k as=gb k as:=by
 show(match fns k with|some d=>oP (nR gb fns n) d as|none=>gb k as)=_;refine aa h ?_;rfl
theorem NH:Fi (n+1) 10 [.int x]=some (.bool (decide (x<256))):=by
 refine aa (u3 Oi) ?_;rfl
theorem NI:Fi (n+1) 11 [.int x]=some (.bool (decide (256<=x))):=by
 refine aa (u3 Oj) ?_;rfl
theorem NJ:Fi (n+1) 12 [.int x]=some (.bool (decide (x=0))):=by
 refine aa (u3 Ok) ?_;rfl
theorem u0{n a m:Nat}(ha:a<2^1000)(hm:0<m)(oA:m<=64):Fi (n+1) 1 [.int a,.int m]=some (.lst ((dg m (bI m a) a).map .int)):=by
 refine aa (u4 u9.1) ?_;refine aa (show gb 1=tG from rfl) ?_;refine aa UF ?_;have h1:(a:Int)<2^1000:=by
  have:(a:Int)<((2^1000:Nat):Int):=jbF.mpr ha
  rwa [jbR]at this
 refine aa (if_pos ⟨Zl _,h1,jbF.mpr hm,jce.mpr oA⟩) ?_;rfl
theorem rK(is:List Int):cQ (is.map AV.int)=some is:=by
 unfold cQ
 induction is with
 |nil=>rfl
 |cons i is ih=>rw[ZG,gO,ih];rfl
theorem yF{n m:Nat}{is:List Int}(hl:is.length<=1000)(oA:m<=64)(hd:∀d∈is,d.natAbs<2^64):Fi (n+1) 2 [.lst (is.map .int),.int m]=some (.int (cB m is)):=by
 refine aa (u4 u9.2.1) ?_;refine aa (show gb 2=tH from rfl) ?_;refine aa UH ?_;refine aa (rK _) ?_;exact if_pos ⟨hl,Zl _,jce.mpr oA,Y'.mpr λd h=>decide_eq_true (hd d h)⟩
theorem NZ:Fi (n+1) 8 [.str [c]]=some (.bool (dz c)):=by
 refine aa (u4 u9.2.2.1) ?_;rfl
theorem N0:Fi (n+1) 9 [.str [c]]=some (.str (iy c)):=by
 refine aa (u4 u9.2.2.2) ?_;rfl
section
theorem fB(hf:fns k=some d)(hl:as.length=d.nargs)(h:aE (Fi N) (as.map some++Zm (d.nvars-d.nargs) none) [] d.body=some (.ret v)):Fi (N+1) k as=some v:=by
 rw[u3 hf];unfold oP;rw[if_pos hl,h]
theorem iH(h:cU Φ ρ σ s=some (.next av an))(h2:aE Φ av an ss=r):aE Φ ρ σ (.cons s ss)=r:=by
 rewrite [yy];refine aa h ?_;exact h2
theorem yt(h:cU Φ ρ σ s=some (.ret v)):aE Φ ρ σ (.cons s ss)=some (.ret v):=by
 rw[yy,h]
theorem bG:aE Φ ρ σ .nil=some (.next ρ σ):=by rw[Nx]
theorem aT(h:ev Φ σ ρ e=some v)(h2:aE Φ (ρ.set x (some v)) σ ss=r):aE Φ ρ σ (.cons (.asg x false e) ss)=r:=by
 refine iH ?_ h2;rw[yu,Df,if_neg Z5,h];rfl
theorem sr(h:oT Φ ρ σ e=some (v,an))(h2:aE Φ (ρ.set x (some v)) an ss=r):aE Φ ρ σ (.cons (.asg x true e) ss)=r:=by
 refine iH ?_ h2;rw[yu,Df,if_pos rfl,h]
theorem n9(h:ev Φ σ ρ e=some (.tup vs))(hs:eC ρ xs vs=some av)(h2:aE Φ av σ ss=r):aE Φ ρ σ (.cons (.unp xs e) ss)=r:=by
 refine iH ?_ h2;rw[DL,h];simp only[hs];rfl
theorem mP(h:eO Φ ρ σ xs es=some (vs,an))(hs:eC ρ (xs.map (·.1)) vs=some av)(h2:aE Φ av an ss=r):aE Φ ρ σ (.cons (.asgT xs es) ss)=r:=by
 refine iH ?_ h2;rw[DM,h];simp only[hs];rfl
theorem dX(h:ev Φ σ ρ e=some v)(hf:aZ σ 6 v=some u):aE Φ ρ σ (.cons (.ret e) ss)=some (.ret u):=by
 refine yt ?_;rw[DK,h];simp only[hf];rfl
theorem mQ(h:ev Φ σ ρ c=some (.bool true))(ha:aE Φ ρ σ a=some (.next av an))(h2:aE Φ av an ss=r):aE Φ ρ σ (.cons (.ife c a b) ss)=r:=by
 refine iH ?_ h2;rw[su,h];exact ha
theorem du(h:ev Φ σ ρ c=some (.bool false))(ha:aE Φ ρ σ b=some (.next av an))(h2:aE Φ av an ss=r):aE Φ ρ σ (.cons (.ife c a b) ss)=r:=by
 refine iH ?_ h2;rw[su,h];exact ha
theorem jG(h:ev Φ σ ρ c=some (.bool true))(ha:aE Φ ρ σ a=some (.ret v)):aE Φ ρ σ (.cons (.ife c a b) ss)=some (.ret v):=by
 refine yt ?_;rw[su,h];exact ha
theorem qd(h:ev Φ σ ρ c=some (.bool false))(ha:aE Φ ρ σ b=some (.ret v)):aE Φ ρ σ (.cons (.ife c a b) ss)=some (.ret v):=by
 refine yt ?_;rw[su,h];exact ha
theorem kY(h:lR Φ ρ σ it=some vs)(hf:eQ (λρ σ v=>aE Φ (ρ.set x (some v)) σ body) vs ρ σ=some (.next av an))(h2:aE Φ av an ss=r):aE Φ ρ σ (.cons (.for_ x it body) ss)=r:=by
 refine iH ?_ h2;rewrite [DP];refine aa h ?_;exact hf
theorem Nv(hf:jr (λρ σ=>ev Φ σ ρ c) (λρ σ=>aE Φ ρ σ body) 100 ρ σ=some (.next av an))(h2:aE Φ av an ss=r):aE Φ ρ σ (.cons (.while_ c body) ss)=r:=by
 refine iH ?_ h2;rw[DJ];exact hf
theorem xB(h:¬x=y):j5 σ .Eq (.int x) (.int y)=some false:=congrArg some (decide_eq_false h)
theorem Co(h:x<y):j5 σ .Lt (.int x) (.int y)=some true:=congrArg some (decide_eq_true h)
theorem xC(h:¬x<y):j5 σ .Lt (.int x) (.int y)=some false:=congrArg some (decide_eq_false h)
theorem OC(h:f ρ σ u=some (.next av an))(h2:eQ f vs av an=r):eQ f (u::vs) ρ σ=r:=by rewrite [yK];refine aa h ?_;exact h2
theorem qc(h1:ev Φ σ ρ o=some (.ref i))(h2:ev Φ σ ρ e=some v)(h3:σ[i]?=some (.list xs))(hl:xs.length<=100000)(hs:∀j,v≠.ref j)(h4:aE Φ ρ (σ.set i (.list (xs++[v]))) ss=r):aE Φ ρ σ (.cons (.app o e) ss)=r:=by
 refine iH ?_ h4;rw[yx,h1];dsimp only;rw[h2];simp only[h3];rw[if_pos hl]
theorem cL(h:bX Φ σ ρ as=some vs)(hf:bj (aZ [] 6) vs=some vs)(hc:Φ k vs=some v):ev Φ σ ρ (.call (.user k) as)=some v:=by
 rewrite [kW];refine aa h ?_;show nQ Φ σ k vs=_;unfold nQ;refine aa hf ?_;exact hc
theorem Ng(h:bX Φ σ ρ as=some vs)(hn:bj (aZ [] 6) vs=none)(hf:bj (aZ σ 6) vs=some us)(hc:Φ k us=some v)(hs:v.scalar=true):ev Φ σ ρ (.call (.user k) as)=some v:=by
 rewrite [kW];refine aa h ?_;show nQ Φ σ k vs=_;unfold nQ;refine aa hn ?_;refine aa hf ?_;simp only[hc,hs,if_true]
end
theorem NG(h:(Zt a:Int)-k<=4000)(hb:b≠0)(hs:small b=true):Fi (n+1) 0 [.int a,.int b,.int k]=some (.tup [.int (a.fdiv b),.int (a.fmod b)]):=by
 refine fB Oh rfl (jG ?_ (dX (v:=.tup [.int (a.fdiv b),.int (a.fmod b)]) ?_ rfl))
 ·have e:ev (Fi n) [] [some (.int a),some (.int b),some (.int k),none,none,none,none,none,none,none,none] (.call .bitLength (.cons (.var 0) .nil))=some (.int (Zt a)):=by rw[kW,cT (ag rfl)];rfl
  exact cK (cb e (ag (i:=2) rfl) rfl) (y:=.int 4000) rfl (congrArg some (decide_eq_true h))
 ·rw[kW,dL (ag rfl) (ag rfl)];exact if_neg λq=>q.elim hb λq=>by rw[hs]at q;exact nomatch q
def i7(n:Nat):Nat->Nat->List Nat
 |0,_=>[]
 |k+1,a=>a%2^n::i7 n k (a/2^n)
theorem LN:i7 n 0 x=[]:=rfl
theorem pK:i7 n (k+1) x=x%2^n::i7 n k (x/2^n):=rfl
theorem r8(n:Nat):∀k a,dg n k a=(i7 n k a).map Z9
 |0,_=>rfl
 |k+1,a=>by rw[nT,pK,ZG,r8 n k];rfl
theorem xT(n:Nat):∀k a,∀d∈i7 n k a,d<2^n
 |0,_,d,h=>nomatch h
 |k+1,a,d,h=>by
  rw[pK]at h;rcases ZT.mp h with rfl|h
  ·exact ZU _ (jaG _)
  ·exact xT n k _ d h
theorem CV(n:Nat):∀k a,(i7 n k a).length=k
 |0,_=>rfl
 |k+1,a=>by rw[pK,Zr,CV n k]
def i8(n b:Nat)(st:Nat×List Nat)(d:Nat):Nat×List Nat:=((st.1*2^n+d)%b,st.2++[(st.1*2^n+d)/b])
def j8(n b k a:Nat):Nat×List Nat:=(i7 n k a).reverse.foldl (i8 n b) (0,[])
theorem LI(n b k a:Nat):j8 n b (k+1) a=i8 n b (j8 n b k (a/2^n)) (a%2^n):=by
 unfold j8;rw[pK,jbQ,jiv];rfl
theorem G9(n q:Nat)(l:List Nat):cB n (((q::l)).map Z9)=q+cB n (l.map Z9)*2^n:=by
 show(q:Int)+_*2^((n:Int)).toNat=_;refine aa (ZF _) ?_;rfl
theorem CR(n b:Nat)(hb:0<b):∀k a,a<2^(n*k)->(j8 n b k a).1=a%b/\cB n ((j8 n b k a).2.reverse.map Z9)=((a/b:Nat):Int)/\(j8 n b k a).2.length=k
 |0,a,h=>by
  have:a=0:=by simpa using h
  subst this;simp[j8,LN,cB]
 |k+1,a,h=>by
  have h':a/2^n<2^(n*k):=by
   rw[jdh (jaG _),<-jej]
   rwa [jdP]at h
  refine fY (CR n b hb k (a/2^n) h') λe1 e2 e3=>?_;rw[LI];unfold i8;refine aa e1 ?_;have hx:a/2^n%b*2^n+a%2^n+a/2^n/b*b*2^n=a:=by
   have h1:=jck (a/2^n) b;have h2:=jck a (2^n);have h3:(b*(a/2^n/b)+a/2^n%b)*2^n=a/2^n*2^n:=by refine aa h1 ?_;rfl
   rw[jcS]at h3;have h4:a/2^n/b*b*2^n=b*(a/2^n/b)*2^n:=by refine aa (jaR b _) ?_;rfl
   have h5:a/2^n*2^n=2^n*(a/2^n):=jaR _ _;rw[jcP,h4,<-jcS,jbn (a/2^n%b),h1,h5,h2]
  generalize hX:a/2^n%b*2^n+a%2^n=X at hx;have fe:X+b*(a/2^n/b*2^n)=a:=by
   rw[jaR (a/2^n/b) b,Nat.mul_assoc]at hx;exact hx
  refine cz ?_ ?_ ?_
  ·show X%b=a%b;have e:(X+b*(a/2^n/b*2^n))%b=a%b:=congrArg (·%b) fe;rw[jeg]at e;exact e
  ·show cB n ((((j8 n b k (a/2^n)).2++[X/b]).reverse).map Z9)=_;refine aa jhP ?_;refine aa List.reverse_singleton ?_;refine aa List.singleton_append ?_;rewrite [G9];refine aa e2 ?_;have:a/b=X/b+a/2^n/b*2^n:=by
    have e:(X+b*(a/2^n/b*2^n))/b=a/b:=congrArg (·/b) fe;rw[jfg _ _ hb]at e;exact e.symm
   refine aa this ?_;refine aa (jbz _ _) ?_;refine aa (jbf _ _) ?_;refine aa (jbR _ _) ?_;rfl
  ·simp[e3]
theorem LY(hb:0<b)(hr:st.1<b)(hd:d<2^n):(i8 n b st d).1<b/\(st.1*2^n+d)/b<2^n:=by
 refine⟨ZU _ hb,?_⟩;rw[jdh hb];have:(st.1+1)*2^n<=b*2^n:=jfc _ hr;rw[jcS,jek]at this;refine aa (jaR (2^n) b) ?_
 lia
def CO:dw:=.cons (.unp [7,4] (.call (.user 0) (.cons (.bin .Add (.bin .LShift (.var 4) (.var 2)) (.var 6)) (.cons (.var 1) (.cons (.var 2) .nil))))) (.cons (.app (.var 5) (.var 7)) .nil)
theorem Lz{N n b x d:Nat}(hb:0<b)(qo:b<2^n)(hn:n<=64)(hr:x<b)(hd:d<2^n):Fi (N+1) 0 [.int ((x:Int)*2^n+d),.int b,.int n]=some (.tup [.int (((x*2^n+d)/b:Nat):Int),.int (((x*2^n+d)%b:Nat):Int)]):=by
 have EO:b<2^64:=bf qo (Zp (by decide) hn);have hX:x*2^n+d<2^128:=by
  have e1:(x+1)*2^n<=2^64*2^64:=jbq (Y5 hr (ZO EO)) (Zp (by decide) hn);rw[jcS,jek]at e1;exact bf (jie hd _) e1
 have e:((x:Int)*2^n+d)=((x*2^n+d:Nat):Int):=by rw[jbz,jbf,jbR];rfl
 generalize x*2^n+d=X at *;have:=vX (a:=(X:Int)) (k:=128) (by rwa [ZV]);rw[e,NG (by lia) (q9 hb) (decide_eq_true (by rw[ZV];exact EO)),jas _ (Zl _),jcw _ (Zl _),<-jcB,<-jfX]
theorem LZ{N n b x d:Nat}{l:List Nat}{A D v:Option AV}(hb:0<b)(qo:b<2^n)(hn:n<=64)(hr:x<b)(hd:d<2^n)(hl:l.length<=1000):
 aE (Fi (N+1)) [A,some (.int b),some (.int n),D,some (.int x),some (.ref 0),some (.int d),v,none] [.list ((l.map Z9).map .int)] CO =
  some (.next [A,some (.int b),some (.int n),D,some (.int (i8 n b (x,l) d).1),some (.ref 0),some (.int d),some (.int (((x*2^n+d)/b:Nat):Int)),none] [.list (((i8 n b (x,l) d).2.map Z9).map .int)]):=by
 have s5:x<2^4096:=bf (jaq hr qo) (Zp (by decide) (Y5 hn (by decide)));have ec:bX (Fi (N+1)) [.list ((l.map Z9).map .int)] [A,some (.int b),some (.int n),D,some (.int x),some (.ref 0),some (.int d),v,none] (.cons (.bin .Add (.bin .LShift (.var 4) (.var 2)) (.var 6)) (.cons (.var 1) (.cons (.var 2) .nil)))=some [.int ((x:Int)*2^n+d),.int b,.int n]:=
  gJ (cb (cb (ag (i:=4) rfl) (ag (i:=2) rfl) (GH (Y5 hn (by decide)) s5)) (ag (i:=6) rfl) rfl) (ag rfl) (ag rfl)
 refine n9 (cL ec rfl (Lz hb qo hn hr hd)) rfl (qc (i:=0) (xs:=(l.map Z9).map .int) (v:=.int (((x*2^n+d)/b:Nat):Int)) (ag rfl) (ag rfl) rfl (by refine aa (Y4 _) ?_;refine aa (Y4 _) ?_;exact Y5 hl (by decide)) (λj=>nofun) (bG.trans ?_));rewrite [i8];refine aa ZW ?_;refine aa ZW ?_;rfl
theorem LV{N n b:Nat}{A D:Option AV}(hb:0<b)(qo:b<2^n)(hn:n<=64)(L:List Nat):∀(st:Nat×List Nat) (u v:Option AV),st.1<b->(∀d∈L,d<2^n)->st.2.length+L.length<=1000->(∀q∈st.2,q<2^n) ->
 ∃u' v',eQ (λρ σ v=>aE (Fi (N+1)) (ρ.set 6 (some v)) σ CO) (L.map λ(d:Nat)=>AV.int d) [A,some (.int b),some (.int n),D,some (.int st.1),some (.ref 0),u,v,none] [.list ((st.2.map Z9).map .int)] =
  some (.next [A,some (.int b),some (.int n),D,some (.int (L.foldl (i8 n b) st).1),some (.ref 0),u',v',none] [.list ((((L.foldl (i8 n b) st).2).map Z9).map .int)])/\(∀q∈(L.foldl (i8 n b) st).2,q<2^n):=by
 induction L with
 |nil=>exact λst u v Y Y Y hq=>cZ u v rfl hq
 |cons d L ih =>
  intro st u v hr hd hl hq;have k9:=hd d Zj;refine bN (LY hb hr k9) λh1 h2=>?_;rw[Zr]at hl;refine bA (ih (i8 n b st d) (some (.int d)) (some (.int (((st.1*2^n+d)/b:Nat):Int))) h1 (λx hx=>hd x (ZB _ hx)) (by rw[i8,Ze,jbk];exact ud hl) (λq Qy=>(ZI.mp Qy).elim (hq q) λh=>Zu.mp h▸h2)) λu' v' e q=>?_;exact cZ u' v' (OC (LZ (l:=st.2) hb qo hn hr k9 (Y5 (ZH _ _) hl)) e) q
theorem DW{N a b:Nat}(ha:a<2^1000)(hb:0<b)(jI:b<2^64):Fi (N+2) 3 [.int a,.int b]=some (.tup [.int ((a/b:Nat):Int),.int ((a%b:Nat):Int)]):=by
 generalize hm:Zt (b:Int)=m;have EP:b<2^m:=hm▸Aa;have vG:m<=64:=by refine rwj hm ?_;exact vX (by rwa [ZV])
 have qx:0<m:=by
  rcases jir m with h|h
  ·subst h;simp at EP;lia
  ·exact h
 have hk:=xS qx ha;have vq:=xR (a:=a) qx;refine fY (CR m b hb (bI m a) a vq) λs1 s2 s3=>?_;refine bA (LV (N:=N) (A:=some (.int a)) (D:=some (.lst ((dg m (bI m a) a).map .int))) hb EP vG (i7 m (bI m a) a).reverse (0,[]) none none hb (λd hd=>xT m _ _ d (jfS.mp hd)) (by simp[CV];exact hk) (λq h=>nomatch h)) λu' v' hl hq=>?_;have hL:((dg m (bI m a) a).map AV.int).reverse=(i7 m (bI m a) a).reverse.map λ(d:Nat)=>AV.int d:=by
  rewrite [r8];refine aa ZN ?_;refine rwj jfT ?_;rfl
 have PT:(i7 m (bI m a) a).reverse.foldl (i8 m b) (0,[])=j8 m b (bI m a) a:=rfl;rw[PT]at hl hq;have sR:∀l:List Int,bj (aZ [AO.list (l.map .int)] 6) [AV.ref 0,.int m]=some [.lst (l.map .int),.int m]:=λl=>by
  have h5:aZ [AO.list (l.map .int)] 6 (.ref 0)=some (.lst (l.map .int)):=by
   show(bj (aZ [AO.list (l.map .int)] 5) (l.map .int)).map AV.lst=_;rw[yP];rfl
  simp only[gO,h5];rfl
 have Yt:∀l:List Int,bj (aZ [] 6) [AV.ref 0,.int m]=none:=λl=>rfl;have h2:=yF (n:=N) (m:=m) (is:=(j8 m b (bI m a) a).2.reverse.map Z9) (by simp[s3];exact hk) vG (λd hd=>by
  refine au (Zq.mp hd) ?_;rintro q h1 rfl;exact bf (hq q (jfS.mp h1)) (Zp (by decide) vG))
 rw[s2]at h2;rw[s1]at hl;have PM:bj (aZ [] 6) [AV.int (a:Int),.int m]=some [AV.int (a:Int),.int m]:=rfl;refine fB Ow rfl ?_;show aE (Fi (N+1)) [some (.int a),some (.int b),none,none,none,none,none,none,none] [] f3.body=_;refine aT (v:=.int m) ?_ (aT (v:=.lst ((dg m (bI m a) a).map .int)) (cL (vs:=[.int a,.int m]) rfl PM (u0 ha qx vG)) (aT (v:=.int 0) rfl (sr (v:=.ref 0) (an:=[.list []]) rfl (kY (vs:=((dg m (bI m a) a).map AV.int).reverse) rfl (by refine aa hL ?_;exact hl) ?_))))
 ·rewrite [kW];refine aa (cT (ag rfl)) ?_;exact congrArg (λi:Nat=>some (AV.int i)) hm
 generalize YF:(j8 m b (bI m a) a).2=qs at *;have aU:((qs.map Z9).map AV.int).length<=100000:=by simp[s3];lia
 refine iH (av:=[some (.int a),some (.int b),some (.int m),some (.lst ((dg m (bI m a) a).map .int)),some (.int ((a%b:Nat):Int)),some (.ref 0),u',v',none]) (an:=[.list ((qs.reverse.map Z9).map .int)]) ?_ ?_
 ·rewrite [DN];refine aa (ag (i:=5) (v:=.ref 0) rfl) ?_;simp only[List.getElem?_cons_zero];refine aa (if_pos aU) ?_;simp[jfT]
 ·refine aT (v:=.int ((a/b:Nat):Int)) (Ng (vs:=[.ref 0,.int m]) rfl rfl (sR _) h2 rfl) ?_;exact dX (v:=.tup [.int ((a/b:Nat):Int),.int ((a%b:Nat):Int)]) rfl rfl
theorem yS(a b:Int):bj (aZ [] 6) [AV.int a,.int b]=some [AV.int a,.int b]:=rfl
theorem yT(σ:aA)(a b:Int):aZ σ 6 (.tup [.int a,.int b])=some (.tup [.int a,.int b]):=rfl
theorem M9(h:ev Φ σ ρ e=some (.int i)):ev Φ σ ρ (.un .USub e)=some (.int (-i)):=by rw[yk,h];rfl
theorem DX{N a b:Nat}(ha:a<2^1000)(hb:0<b)(jI:b<2^64):Fi (N+3) 4 [.int a,.int b]=some (.tup [.int ((a/b:Nat):Int),.int ((a%b:Nat):Int)]):=by
 refine fB yJ rfl ?_;show aE (Fi (N+2)) [some (.int a),some (.int b),none,none] [] f4.body=_;refine qd (v:=.tup [.int ((a/b:Nat):Int),.int ((a%b:Nat):Int)]) ?_ (qd ?_ (qd ?_ (dX (cL (vs:=[.int a,.int b]) rfl (yS _ _) (DW ha hb jI)) (yT _ _ _))))
 ·exact cK (ag rfl) bK (xB (q9 hb))
 ·exact cK (ag rfl) bK (xC (by simp))
 ·exact cK (ag rfl) bK (xC (by simp))
theorem NS{N:Nat}{a:Int}{b:Nat}(ha:a.natAbs<2^1000)(Pm:a<0)(hb:0<b)(jI:b<2^64):Fi (N+4) 4 [.int a,.int b]=some (.tup [.int (a.fdiv b),.int (a.fmod b)]):=by
 obtain⟨c,hc⟩:∃c:Nat,-a-1=(c:Int):=⟨(-a-1).toNat,by lia⟩
 have oi:c<2^1000:=by omega
 refine fB yJ rfl ?_;show aE (Fi (N+3)) [some (.int a),some (.int b),none,none] [] f4.body=_;have e1:a.fdiv b=-((c/b:Nat):Int)-1:=by
  refine aa (jas _ (Zl b)) ?_;have:a=-((c:Int)+1):=by lia
  refine aa this ?_;refine aa (jcB _ _) ?_;have h1:=Int.mul_ediv_add_emod c b;have h2:=Int.emod_nonneg c (b:=(b:Int)) (q9 hb);have h3:=Int.emod_lt_of_pos c (b:=(b:Int)) (mm hb);generalize hq:(c:Int)/b=q at *;generalize hr:(c:Int)%b=r at *;have:-((c:Int)+1)=(b-r-1)+b*(-q-1):=by
   rewrite [jgf];refine aa (jfh _ _) ?_;refine aa (jhW _) ?_;lia
  refine aa this ?_;refine aa (jhF _ _ (q9 hb)) ?_;refine aa (jhy (by lia) (by lia)) ?_;simp
 have e2:a.fmod b=(b:Int)+(-((c%b:Nat):Int)-1):=by
  have h1:=jeR a b;rw[e1]at h1;have h2:((c%b:Nat):Int)=c-b*((c/b:Nat):Int):=by
   have:=jck c b;have h3:(b:Int)*((c/b:Nat):Int)=((b*(c/b):Nat):Int):=by refine aa (jbf _ _) ?_;rfl
   refine aa h3 ?_;lia
  refine aa h2 ?_;rw[jgf,jfh,jhW]at h1;omega
 have sN:Fi (N+3) 4 [.int (-a-1),.int b]=some (.tup [.int ((c/b:Nat):Int),.int ((c%b:Nat):Int)]):=by refine aa hc ?_;exact DX oi hb jI
 refine qd (v:=.tup [.int (a.fdiv b),.int (a.fmod b)]) ?_ (qd ?_ (jG ?_ (n9 (vs:=[.int ((c/b:Nat):Int),.int ((c%b:Nat):Int)]) (cL (vs:=[.int (-a-1),.int b]) rfl (yS _ _) sN) rfl (dX (v:=.tup [.int (a.fdiv b),.int (a.fmod b)]) ?_ (yT _ _ _)))))
 ·exact cK (ag rfl) bK (xB (q9 hb))
 ·exact cK (ag rfl) bK (xC (by simp))
 ·exact cK (ag rfl) bK (Co Pm)
 ·refine aa e1 ?_;refine aa e2 ?_;rfl
theorem DY{N:Nat}{a:Int}{b:Nat}(ha:a.natAbs<2^1000)(hb:0<b)(jI:b<2^64):Fi (N+4) 4 [.int a,.int b]=some (.tup [.int (a.fdiv b),.int (a.fmod b)]):=by
 rcases(by omega:a<0\/0<=a)with h|h
 ·exact NS ha h hb jI
 ·refine aX (jbw h) ?_;rintro c rfl;refine aa (DX (N:=N+1) (by simpa using ha) hb jI) ?_;refine aa (jas _ (Zl b)) ?_;refine aa (jcw _ (Zl b)) ?_;refine aa (jcB _ _) ?_;refine aa (jfX _ _) ?_;rfl
theorem yG{N:Nat}{a b:Int}(ha:a.natAbs<2^1000)(hb:b≠0)(jI:b.natAbs<2^64):Fi (N+5) 4 [.int a,.int b]=some (.tup [.int (a.fdiv b),.int (a.fmod b)]):=by
 rcases(by omega:b<0\/0<=b)with h|h
 ·obtain⟨c,hc⟩:∃c:Nat,-b=(c:Int):=⟨(-b).toNat,by lia⟩
  have sN:Fi (N+4) 4 [.int (-a),.int (-b)]=some (.tup [.int ((-a).fdiv c),.int ((-a).fmod c)]):=by
   refine aa hc ?_;exact DY (by rwa [jeb]) (by lia) (by omega)
  have e:b=-c:=by lia
  have e1:a.fdiv b=(-a).fdiv c:=by
   refine aa e ?_
   conv=>lhs;rw[<-jhT a]
   refine aa (jjf _ _) ?_;rfl
  have e2:a.fmod b=-((-a).fmod c):=by
   have h1:=jeR a b;have h2:=jeR (-a) c;rw[e1,e]at h1;rw[jhU]at h1;refine aa e ?_;omega
  refine fB yJ rfl ?_;show aE (Fi (N+4)) [some (.int a),some (.int b),none,none] [] f4.body=_;refine qd (v:=.tup [.int (a.fdiv b),.int (a.fmod b)]) ?_ (jG ?_ (n9 (vs:=[.int ((-a).fdiv c),.int ((-a).fmod c)]) (cL (vs:=[.int (-a),.int (-b)]) rfl (yS _ _) sN) rfl (dX (v:=.tup [.int (a.fdiv b),.int (a.fmod b)]) ?_ (yT _ _ _))))
  ·exact cK (ag rfl) bK (xB hb)
  ·exact cK (ag rfl) bK (Co h)
  ·refine aa e1 ?_;refine aa e2 ?_;rfl
 ·refine aX (jbw h) ?_;rintro c rfl;exact DY (N:=N+1) ha (by lia) (by simpa using jI)
theorem u5{α β:Type}{f:α->Option (List β)}{g:α->List β}:∀{vs:List α},(∀v∈vs,f v=some (g v))->fZ f vs=some (vs.flatMap g)
 | [],_=>rfl
 |v::vs,h=>by
  rw[u6,h v Zj,u5 λu hu=>h u (ZB _ hu)];rfl
theorem yI{α β:Type}{p:α->Bool}{g:α->β}:∀vs:List α,(vs.flatMap λv=>if p v then[g v]else[])=(vs.filter p).map g
 | []=>rfl
 |a::l=>by
  refine aa jau ?_;refine aa jcz ?_;refine aa (yI l) ?_;cases p a<;>simp
section
theorem yb{ρ:aB}{x:Nat}{it:It}{ifs:bV}{aD:Ex}{vs:List AV}{g:AV->List AV}(h:dU Φ σ ρ it=some vs)(hx:ρ.length=x)(hl:vs.length<=1000)(hg:∀v∈vs,(match cS Φ σ (ρ++[some v]) ifs with
 |some true=>(ev Φ σ (ρ++[some v]) aD).map λu=>[u]
 |some false=>some []
 |none=>none)=some (g v)) (PW:∀v,(g v).length<=100):ev Φ σ ρ (.comp 1 (.cons x it ifs (.done aD)))=some (.lst (vs.flatMap g)):=by
 have hs:∀v,(ρ++Zm 1 none).set x (some v)=ρ++[some v]:=λv=>by
  refine rwj hx ?_;simp[jcf]
 rewrite [yj,x0];refine aa h ?_;have h0:(ρ++Zm 1 none)[x]?=some none:=by
  refine rwj hx ?_;refine aa (Zk (Y9 _)) ?_;refine aa (jaE _) ?_;rfl
 simp only[h0];rw[if_pos (by lia),u5 (g:=g) (λv hv=>by
  refine aa (hs v) ?_;refine rwj (hg v hv) ?_
  induction cS Φ σ (ρ++[some v]) ifs using ae with
  |none=>rfl
  |some b=>cases b<;>rfl)]
 unfold sI;have:(vs.flatMap g).length<=100000:=by
  refine aa List.length_flatMap ?_;have:∀(l:List AV),(l.map λv=>(g v).length).sum<=100*l.length:=λl=>by
   induction l with
   |nil=>simp
   |cons a l ih =>
    have:=PW a;simp only[ZG,jap,Zr]
    lia
  have:=this vs
  lia
 show jad AV.lst (if _ then _ else _)=_;refine aa (if_pos this) ?_;rfl
theorem n0(h:dU Φ σ ρ it=some vs)(hx:ρ.length=x)(hl:vs.length<=1000)(hg:∀v∈vs,ev Φ σ (ρ++[some v]) aD=some (g v)):ev Φ σ ρ (.comp 1 (.cons x it .nil (.done aD)))=some (.lst (vs.map g)):=by
 refine aa (yb (g:=λv=>[g v]) h hx hl (λv hv=>by rw[nW,hg v hv];rfl) (λv=>by simp)) ?_;refine aa List.map_eq_flatMap ?_;rfl
theorem nZ{ρ:aB}{x:Nat}{it:It}{ifs:bV}{aD:Ex}{vs:List AV}{p:AV->Bool}{g:AV->AV}(h:dU Φ σ ρ it=some vs)(hx:ρ.length=x)(hl:vs.length<=1000)(hp:∀v∈vs,cS Φ σ (ρ++[some v]) ifs=some (p v))(hg:∀v∈vs,p v=true->ev Φ σ (ρ++[some v]) aD=some (g v)):ev Φ σ ρ (.comp 1 (.cons x it ifs (.done aD)))=some (.lst ((vs.filter p).map g)):=by
 rw[yb (g:=λv=>if p v then[g v]else[]) h hx hl (λv hv=>by
  refine aa (hp v hv) ?_
  induction hpv:p v using ZL with
  |true=>simp[hg v hv hpv]
  |false=>simp) (λv=>by split<;>simp)]
 refine aa (yI _) ?_;rfl
end
theorem xX:∀is:List Int,eN cJ (is.map AV.int) (is.map AV.int)=some true
 | []=>rfl
 |i::is=>by
  have e:cJ (.int i) (.int i)=some true:=congrArg some (decide_eq_true rfl);refine aa ZG ?_;rewrite [sd];refine aa e ?_;refine aa (xX is) ?_;rfl
theorem Dh(h1:ev Φ σ ρ a=some (.bool true))(h2:ev Φ σ ρ b=some (.bool true)):ev Φ σ ρ (.and (.cons a (.cons b .nil)))=some (.bool true):=by
 rw[uW,kT,h1];simp only[];rw[kT,h2];simp only[];rw[nW];rfl
theorem uU(h1:ev Φ σ ρ a=some (.bool false))(h2:ev Φ σ ρ b=some (.bool false)):ev Φ σ ρ (.or (.cons a (.cons b .nil)))=some (.bool false):=by
 rw[yl,pS,h1];simp only[];rw[pS,h2];simp only[];rw[De];rfl
theorem M'(h1:ev Φ σ ρ a=some (.bool false))(h2:ev Φ σ ρ b=some (.bool false))(h3:ev Φ σ ρ c=some (.bool false)):ev Φ σ ρ (.or (.cons a (.cons b (.cons c .nil))))=some (.bool false):=by
 rw[yl,pS,h1];simp only[];rw[pS,h2];simp only[];rw[pS,h3];simp only[];rw[De];rfl
theorem yh(h1:ev Φ σ ρ a=some (.bool b)):ev Φ σ ρ (.un .Not a)=some (.bool (!b)):=by
 rw[yk,h1];rfl
theorem dK(h1:bX Φ σ ρ as=some vs)(h:nS Φ σ f vs=some z):ev Φ σ ρ (.call f as)=some z:=by
 rewrite [kW];refine aa h1 ?_;exact h
theorem sn(h1:bX Φ σ ρ as=some vs)(hl:vs.length<=100000):ev Φ σ ρ (.tup as)=some (.tup vs):=by
 rw[Dv,h1];simp only[];rw[if_pos hl]
theorem sk(h1:bX Φ σ ρ as=some vs)(hl:vs.length<=100000):ev Φ σ ρ (.list as)=some (.lst vs):=by
 rw[Du,h1];simp only[];rw[if_pos hl]
theorem pV(h1:ev Φ σ ρ c=some (.bool true))(h2:ev Φ σ ρ a=some z):ev Φ σ ρ (.ite c a b)=some z:=by
 rw[ym,h1];exact h2
theorem pU(h1:ev Φ σ ρ c=some (.bool false))(h2:ev Φ σ ρ b=some z):ev Φ σ ρ (.ite c a b)=some z:=by
 rw[ym,h1];exact h2
theorem NR{N:Nat}(is:List Int)(hl:is.length<=1000){c:List AV->AV}(hc:c=.tup\/c=.lst):Fi (N+1) 20 [c (is.map .int),c (is.map .int)]=some (.bool true):=by
 refine fB Ou rfl (dX (v:=.bool true) ?_ rfl);have e1:dU (Fi N) [] [some (c (is.map AV.int)),some (c (is.map .int))] (.val (.var 0))=some (is.map .int):=by
  rcases hc with rfl|rfl<;>rfl
 have e2:ev (Fi N) [] [some (c (is.map AV.int)),some (c (is.map .int))] (.comp 1 (.cons 2 (.val (.var 0)) (.cons (.or (.cons (.call .isBool (.cons (.var 2) .nil)) (.cons (.un .Not (.call .isInt (.cons (.var 2) .nil))) .nil))) .nil) (.done (.var 2))))=some (.lst []):=by
  refine(yb (x:=2) (g:=λY=>[]) e1 rfl (by refine aa (Y4 _) ?_;exact hl) (λv hv=>?_) (λv=>by simp)).trans (by simp);refine au (Zq.mp hv) ?_;rintro i _ rfl;rfl
 have e3:jB [] (c (is.map AV.int)) (c (is.map .int))=some true:=by
  rcases hc with rfl|rfl
  ·exact(if_pos rfl).trans (xX is)
  ·exact(if_pos rfl).trans (xX is)
 have e4:jB [] (.lst []) (.lst [])=some true:=rfl;show ev (Fi N) [] [some (c (is.map AV.int)),some (c (is.map .int))] (.and (.cons (.cmp .Eq (.var 0) (.var 1)) (.cons (.cmp .Eq (.comp 1 (.cons 2 (.val (.var 0)) (.cons (.or (.cons (.call .isBool (.cons (.var 2) .nil)) (.cons (.un .Not (.call .isInt (.cons (.var 2) .nil))) .nil))) .nil) (.done (.var 2)))) (.list .nil)) .nil)))=_;have e5:ev (Fi N) [] [some (c (is.map AV.int)),some (c (is.map .int))] (.cmp .Eq (.var 0) (.var 1))=some (.bool true):=by
  exact cK (ag rfl) (ag rfl) e3
 have e6:ev (Fi N) [] [some (c (is.map AV.int)),some (c (is.map .int))] (.cmp .Eq (.comp 1 (.cons 2 (.val (.var 0)) (.cons (.or (.cons (.call .isBool (.cons (.var 2) .nil)) (.cons (.un .Not (.call .isInt (.cons (.var 2) .nil))) .nil))) .nil) (.done (.var 2)))) (.list .nil))=some (.bool true):=by
  exact cK e2 (y:=.lst []) rfl e4
 exact Dh e5 e6
section
theorem mK:eO Φ ρ σ [] .nil=some ([],σ):=rfl
theorem Dg(h:gq Φ ρ σ x.2 e=some (v,gR))(h2:eO Φ ρ gR xs es=some (vs,nD)):eO Φ ρ σ (x::xs) (.cons e es)=some (v::vs,nD):=by
 show(match gq Φ ρ σ x.2 e with|some (v,an)=>(match eO Φ ρ an xs es with|some (vs,iv)=>some (v::vs,iv)|none=>none)|none=>none)=_;refine aa h ?_;show(match eO Φ ρ gR xs es with|some (vs,iv)=>some (v::vs,iv)|none=>none)=_;refine aa h2 ?_;rfl
theorem gI(h:ev Φ σ ρ e=some v)(h2:eO Φ ρ σ xs es=some (vs,an)):eO Φ ρ σ ((x,false)::xs) (.cons e es)=some (v::vs,an):=
 Dg (x:=(x,false)) (congrArg (jad (·,σ)) h) h2
theorem x7(h:oT Φ ρ σ e=some (v,an))(h2:eO Φ ρ an xs es=some (vs,iv)):eO Φ ρ σ ((x,true)::xs) (.cons e es)=some (v::vs,iv):=
 Dg (x:=(x,true)) h h2
theorem dV{a b:Ex}{x y:Nat}(h1:ev Φ σ ρ a=some (.int x))(h2:ev Φ σ ρ b=some (.int y))(hy:y≠0):ev Φ σ ρ (.bin .Mod a b)=some (.int ((x%y:Nat):Int)):=by
 refine cb h1 h2 ?_;show(if(y:Int)=0 then none else some (AV.int ((x:Int).fmod y)))=_;rw[if_neg (by simp[*]),jcw _ (Zl y),jfX]
theorem DV{x y:Nat}(hy:y≠0)(hs:y<2^64):dE σ .FloorDiv (.int x) (.int y)=some (.int ((x/y:Nat):Int)):=by
 show(if(y:Int)=0\/!small (y:Int)then none else some (AV.int ((x:Int).fdiv y)))=_;rw[if_neg (by rw[show small (y:Int)=true from decide_eq_true (by rw[ZV];exact hs)];simp;exact hy),jas _ (Zl _),jcB]
theorem jC{a b:Ex}{x y:Nat}(h1:ev Φ σ ρ a=some (.int x))(h2:ev Φ σ ρ b=some (.int y))(hy:y≠0)(hs:y<2^64):ev Φ σ ρ (.bin .FloorDiv a b)=some (.int ((x/y:Nat):Int)):=cb h1 h2 (DV hy hs)
theorem nY(h1:ev Φ σ ρ a=some (.int x))(h2:ev Φ σ ρ b=some (.int y)):ev Φ σ ρ (.bin .Add a b)=some (.int (x+y)):=cb h1 h2 rfl
theorem jF(h1:ev Φ σ ρ a=some (.int x))(h2:ev Φ σ ρ b=some (.int y)):ev Φ σ ρ (.bin .Sub a b)=some (.int (x-y)):=cb h1 h2 rfl
theorem sm{a b:Ex}{x y:Nat}(h1:ev Φ σ ρ a=some (.int x))(h2:ev Φ σ ρ b=some (.int y))(h:y<=x):ev Φ σ ρ (.bin .Sub a b)=some (.int ((x-y:Nat):Int)):=by
 refine aa (Int.natCast_sub h) ?_;exact jF h1 h2
theorem uT(h1:ev Φ σ ρ a=some (.int x))(h2:ev Φ σ ρ b=some (.int y))(hs:small x=true\/small y=true):ev Φ σ ρ (.bin .Mult a b)=some (.int (x*y)):=by
 refine cb h1 h2 ?_;show(if(small x||small y)=true then _ else _)=_;refine aa (if_pos (by simpa using hs)) ?_;rfl
theorem Nb{a b:Ex}{x:Int}{y:Nat}(h1:ev Φ σ ρ a=some (.int x))(h2:ev Φ σ ρ b=some (.int y))(hs:small x=true)(hy:y<=1000):ev Φ σ ρ (.bin .Pow a b)=some (.int (x^y)):=by
 refine cb h1 h2 ?_;show(if 0<=(y:Int)/\(y:Int)<=1000/\small x then some (AV.int (x^((y:Int)).toNat))else none)=_;rw[if_pos ⟨Zl y,mm hy,hs⟩,ZF]
theorem Dl(h1:ev Φ σ ρ a=some (.str x))(h2:ev Φ σ ρ b=some (.str y))(hl:x.length+y.length<=100000):ev Φ σ ρ (.bin .Add a b)=some (.str (x++y)):=by
 refine cb h1 h2 ?_;show(if _ then _ else _)=_;refine aa (if_pos hl) ?_;rfl
theorem aR:ev Φ σ ρ (.c (.int (n:Int)))=some (.int (n:Int)):=bK
theorem mN:ev Φ σ ρ (.c (.str x))=some (.str x.cps.toList):=by rw[Dt];rfl
theorem n4(h1:ev Φ σ ρ a=some (.int x))(h2:ev Φ σ ρ b=some (.int y)):ev Φ σ ρ (.cmp .Lt a b)=some (.bool (decide (x<y))):=cK h1 h2 rfl
theorem uR(h1:ev Φ σ ρ a=some (.int x))(h2:ev Φ σ ρ b=some (.int y)):ev Φ σ ρ (.cmp .Eq a b)=some (.bool (decide (x=y))):=cK h1 h2 rfl
theorem fX{a i:Ex}{l:List AV}{k:Nat}{v:AV}(h1:ev Φ σ ρ a=some (.lst l))(h2:ev Φ σ ρ i=some (.int k))(hv:l[k]?=some v)(hn:l.length<=100000):ev Φ σ ρ (.idx a i)=some v:=by
 refine mL h1 h2 ?_;show(fO (k:Int) l.length).bind _=_;refine aa (wl (ZE.mp hv).1 hn) ?_;exact hv
theorem Di{a i:Ex}{l:List Nat}{k:Nat}{c:Nat}(h1:ev Φ σ ρ a=some (.str l))(h2:ev Φ σ ρ i=some (.int k))(hv:l[k]?=some c)(hn:l.length<=100000):ev Φ σ ρ (.idx a i)=some (.str [c]):=by
 refine mL h1 h2 ?_;show(fO (k:Int) l.length).bind _=_;refine aa (wl (ZE.mp hv).1 hn) ?_;show l[k]?.map _=_;refine aa hv ?_;rfl
theorem Na(h1:ev Φ σ ρ a=some (.str [c])):ev Φ σ ρ (.call .ord (.cons a .nil))=some (.int c):=dK (cT h1) rfl
theorem Dm{a:Ex}{c:Nat}(h1:ev Φ σ ρ a=some (.int c))(h:c<=0x10FFFF):ev Φ σ ρ (.call .chr (.cons a .nil))=some (.str [c]):=by
 refine dK (cT h1) ?_;show(if 0<=(c:Int)/\(c:Int)<=0x10FFFF then _ else _)=_;rw[if_pos ⟨Zl c,mm h⟩,ZF]
end
theorem DI(h0:ρ[x]?=some (some a))(ha:a.isRef=false)(h:ev Φ σ ρ e=some b)(bY:lL op a b=true)(hr:dE σ op a b=some c)(h2:aE Φ (ρ.set x (some c)) σ ss=r):aE Φ ρ σ (.cons (.aug x op e) ss)=r:=by
 refine iH ?_ h2;rewrite [yw];refine aa h0 ?_;dsimp only;refine aa h ?_
 induction a using AV.casesOn with
 |ref=>exact nomatch ha
 |_ =>
  show(if lL op _ b=true then _ else _)=_;refine aa (if_pos bY) ?_;refine aa hr ?_;rfl
theorem Nr{Φ:cX}{ρ:aB}{σ:aA}{ss:dw}{r:Option Fl}{x:Nat}{e:Ex}{a b:Nat}(h0:ρ[x]?=some (some (.int a)))(h:ev Φ σ ρ e=some (.int b))(hb:b≠0)(hs:b<2^64)(h2:aE Φ (ρ.set x (some (.int ((a/b:Nat):Int)))) σ ss=r):aE Φ ρ σ (.cons (.aug x .FloorDiv e) ss)=r :=
 DI h0 rfl h rfl (DV hb hs) h2
theorem yr(h0:ρ[x]?=some (some (.str a)))(h:ev Φ σ ρ e=some (.str b))(hl:a.length+b.length<=100000)(h2:aE Φ (ρ.set x (some (.str (a++b)))) σ ss=r):aE Φ ρ σ (.cons (.aug x .Add e) ss)=r :=
 DI h0 rfl h rfl (if_pos hl) h2
def ch:List Nat:=[102,105,108,115,116]
def uL:List Nat:=[8497,8464,8466,383,120139]
def tK:List (Nat×List Nat):=[(64256,[102,102]),(64257,[102,105]),(64258,[102,108]),(64259,[102,102,105]),(64260,[102,102,108]),(64261,[115,116]),(64262,[115,116]),(223,[115,115])]
def jH:List Nat:=[97,65,119808,119860,119912,120016,120172,120224,120276,120328,120380,120432]
def iJ:List Nat:=[173,847,6150,6155,6156,6157,8203,8204,8205,8288,65279]++ZX 65024 16
def dB(d w:Nat):Nat×List Nat :=
 if d<2 then tK.getD (w%8) (0,[])else if d<14 then(jH.getD (d-2) 0+ch.getD (w%5) 0-97,[ch.getD (w%5) 0])else(uL.getD (w%5) 0,[ch.getD (w%5) 0])
def lB(v:Nat):List Nat:=if v=0 then[]else[iJ.getD (v-1) 0]
def kA(r:Nat):List Nat:=lB (r/600%28)++[(dB (r%15) (r/15%40)).1]
def io(r:Nat):List Nat:=(dB (r%15) (r/15%40)).2
def lC:Nat->Nat->List Nat
 |0,_=>[]
 |k+1,r=>kA r++lC k (r/16800)
theorem XO:lC 0 x=[]:=rfl
theorem Bz:lC (k+1) x=kA x++lC k (x/16800):=rfl
def jt:Nat->Nat->List Nat
 |0,_=>[]
 |k+1,r=>io r++jt k (r/16800)
theorem XN:jt 0 x=[]:=rfl
theorem t9:jt (k+1) x=io x++jt k (x/16800):=rfl
theorem Vu:(Za 15).all (λd=>(Za 40).all λw=>decide ((dB d w).1<=0x10FFFF)&&decide ((dB d w).2.length<=3))=true:=by decide +kernel
theorem P4:iJ.all (λc=>decide (c<=0x10FFFF))=true:=by decide +kernel
theorem A7(r:Nat):(dB (r%15) (r/15%40)).1<=0x10FFFF/\(dB (r%15) (r/15%40)).2.length<=3:=by
 have h1:=Y'.mp Vu (r%15) (ZM.mpr (ZU _ (by decide)));have h2:=Y'.mp h1 (r/15%40) (ZM.mpr (ZU _ (by decide)));rw[ZA]at h2;exact⟨of_decide_eq_true h2.1,of_decide_eq_true h2.2⟩
def Bt:dw :=
 (.cons (.asgT [(8,false),(9,false),(10,false)] (.cons (.bin .Mod (.var 6) (.c (.int 15))) (.cons (.bin .Mod (.bin .FloorDiv (.var 6) (.c (.int 15))) (.c (.int 40))) (.cons (.bin .Mod (.bin .FloorDiv (.var 6) (.c (.int 600))) (.c (.int 28))) .nil))))
  (.cons (.aug 6 .FloorDiv (.c (.int 16800)))
  (.cons (.asg 11 false (.idx (.c (.str "filst")) (.bin .Mod (.var 9) (.c (.int 5)))))
  (.cons (.asg 12 false (.idx (.list (.cons (.c (.int 8497)) (.cons (.c (.int 8464)) (.cons (.c (.int 8466)) (.cons (.c (.int 383)) (.cons (.c (.int 120139)) .nil)))))) (.bin .Mod (.var 9) (.c (.int 5)))))
  (.cons (.ife (.cmp .Lt (.var 8) (.c (.int 2)))
   (.cons (.unp [12,11] (.idx (.var 1) (.bin .Mod (.var 9) (.c (.int 8)))))
   .nil)
   (.cons (.ife (.cmp .Lt (.var 8) (.c (.int 14)))
    (.cons (.asg 12 false (.bin .Sub (.bin .Add (.idx (.var 2) (.bin .Sub (.var 8) (.c (.int 2)))) (.call .ord (.cons (.var 11) .nil))) (.c (.int 97))))
    .nil)
    .nil)
   .nil))
  (.cons (.aug 4 .Add (.bin .Add (.ite (.cmp .Eq (.var 10) (.c (.int 0))) (.c (.str "")) (.call .chr (.cons (.idx (.var 3) (.bin .Sub (.var 10) (.c (.int 1)))) .nil))) (.call .chr (.cons (.var 12) .nil))))
  (.cons (.aug 5 .Add (.var 11))
  .nil)))))))
def tL:AV:=.lst (tK.map λp=>.tup [.int p.1,.str p.2])
def jl(l:List Nat):AV:=.lst (l.map λ(n:Nat)=>AV.int n)
abbrev wI(h:AV)(t m:List Nat)(r:Nat)(a b c d e f:Option AV):aB:=[some h,some tL,some (jl jH),some (jl iJ),some (.str t),some (.str m),some (.int r),a,b,c,d,e,f]
theorem yU{l:List Nat}(h:k<l.length):l[k]?=some (l.getD k 0):=by
 refine aa Zb ?_;refine aa (Zg h) ?_;rfl
theorem nq{l:List Nat}(h:k<l.length):(l.map λ(n:Nat)=>AV.int n)[k]?=some (.int (l.getD k 0:Nat)):=by
 refine aa ZR ?_;refine aa (yU h) ?_;rfl
theorem Sv(k:Nat)(h:k<5):97<=ch.getD k 0:=by
 have:=Y'.mp (by decide:(Za 5).all (λk=>decide (97<=ch.getD k 0))=true) k (ZM.mpr h);exact of_decide_eq_true this
theorem XQ(ht:t.length<=100)(hm:m.length<=100):
 ∃b' c' d' e' f',aE Φ ((wI h t m r a b c q e f).set 7 (some (.int j))) [] Bt=some (.next (wI h (t++kA r) (m++io r) (r/16800) (some (.int j)) b' c' d' e' f') []):=by
 have k0:=A7 r;have Yk:∀{ρ:aB},ρ[6]?=some (some (.int (r:Int)))->ev Φ [] ρ (.var 6)=some (.int (r:Int)):=λh=>ag h;refine z9 (some (.int ((r%15:Nat):Int))) (some (.int ((r/15%40:Nat):Int))) (some (.int ((r/600%28:Nat):Int))) (some (.str (io r))) (some (.int ((dB (r%15) (r/15%40)).1:Int))) ?_;generalize hd:r%15=d at *;generalize hw:r/15%40=w at *;generalize hv:r/600%28=v at *;have YI:v<28:=by refine rwj hv ?_;exact ZU _ (by decide)
 have Yo:d<15:=by refine rwj hd ?_;exact ZU _ (by decide)
 have zU:w%5<5:=ZU _ (by decide);have Q6:w%8<8:=ZU _ (by decide);show aE Φ [some h,some tL,some (jl jH),some (jl iJ),some (.str t),some (.str m),some (.int r),some (.int j),b,c,q,e,f] [] Bt=_;have k1:∀{ρ:aB}{n:Nat},ev Φ [] ρ (.c (.int (n:Int)))=some (.int (n:Int)):=bK;refine mP (vs:=[.int d,.int w,.int v]) (gI (hd▸dV (x:=r) (y:=15) (ag rfl) k1 (by decide)) (gI (hw▸dV (x:=r/15) (y:=40) (jC (x:=r) (y:=15) (ag rfl) k1 (by decide) (by decide)) k1 (by decide)) (gI (hv▸dV (x:=r/600) (y:=28) (jC (x:=r) (y:=600) (ag rfl) k1 (by decide) (by decide)) k1 (by decide)) mK))) rfl ?_;refine Nr (a:=r) (b:=16800) rfl k1 (by decide) (by decide) ?_;refine aT (v:=.str [ch.getD (w%5) 0]) (Di (l:=ch) (k:=w%5) mN (dV (x:=w) (y:=5) (ag rfl) k1 (by decide)) (yU zU) (by decide)) ?_;refine aT (v:=.int (uL.getD (w%5) 0:Nat)) (fX (l:=uL.map λ(n:Nat)=>AV.int n) (k:=w%5) rfl (dV (x:=w) (y:=5) (ag rfl) k1 (by decide)) (nq zU) (by decide)) ?_;have fin:∀(c1:Nat) (o1:List Nat),c1<=0x10FFFF->o1.length<=3->aE Φ [some h,some tL,some (jl jH),some (jl iJ),some (.str t),some (.str m),some (.int ((r/16800:Nat):Int)),some (.int j),some (.int d),some (.int w),some (.int v),some (.str o1),some (.int c1)] []
  (.cons (.aug 4 .Add (.bin .Add (.ite (.cmp .Eq (.var 10) (.c (.int 0))) (.c (.str "")) (.call .chr (.cons (.idx (.var 3) (.bin .Sub (.var 10) (.c (.int 1)))) .nil))) (.call .chr (.cons (.var 12) .nil)))) (.cons (.aug 5 .Add (.var 11)) .nil)) =
  some (.next [some h,some tL,some (jl jH),some (jl iJ),some (.str (t++(lB v++[c1]))),some (.str (m++o1)),some (.int ((r/16800:Nat):Int)),some (.int j),some (.int d),some (.int w),some (.int v),some (.str o1),some (.int c1)] []):=λc1 o1 Ps YC=>by
  have Q5:(lB v).length<=1:=by unfold lB;split<;>simp
  refine yr (a:=t) (b:=lB v++[c1]) rfl (Dl ?_ (Dm (ag rfl) Ps) (by simp;exact bw Q5 rfl)) (by simp;lia) (yr (a:=m) (b:=o1) rfl (ag rfl) (by lia) bG);by_cases hv0:v=0
  ·subst hv0;exact pV (uR (x:=(0:Int)) (y:=0) (ag rfl) bK) mN
  ·have Q4:lB v=[iJ.getD (v-1) 0]:=by unfold lB;refine aa (if_neg hv0) ?_;rfl
   refine aa Q4 ?_;have a0:v-1<iJ.length:=by
    have:iJ.length=27:=by decide
    rw[this];exact jhM (jdY hv0) (show v<28 from hv▸ZU _ (by decide))
   have e1:((v:Int)-1)=((v-1:Nat):Int):=(jdx (jdY hv0)).symm;have hc:iJ.getD (v-1) 0<=0x10FFFF:=by
    have:=Y'.mp P4 (iJ.getD (v-1) 0) (by refine aa Zb ?_;refine aa (Zg a0) ?_;exact jbJ a0);exact of_decide_eq_true this
   refine pU (by refine aa (uR (x:=(v:Int)) (y:=0) (ag rfl) bK) ?_;refine aa (decide_eq_false (by simp[*])) ?_;rfl) (Dm (fX (l:=iJ.map λ(n:Nat)=>AV.int n) (k:=v-1) (ag rfl) (e1▸jF (ag rfl) bK) (nq a0) (by decide)) hc)
 have L2:kA r=lB v++[(dB d w).1]:=by unfold kA;refine aa hd ?_;refine aa hw ?_;refine aa hv ?_;rfl
 have L3:io r=(dB d w).2:=by unfold io;refine aa hd ?_;refine aa hw ?_;rfl
 refine aa L2 ?_;refine aa L3 ?_;by_cases h2:d<2
 ·have hs:dB d w=tK.getD (w%8) (0,[]):=by unfold dB;refine aa (if_pos h2) ?_;rfl
  have fu:(tK.map λp=>AV.tup [.int (p.1:Nat),.str p.2])[w%8]?=some (.tup [.int ((dB d w).1:Nat),.str (dB d w).2]):=by
   refine aa ZR ?_;refine aa hs ?_;refine aa Zb ?_;refine aa (Zg Q6) ?_;rfl
  refine mQ (by refine aa (n4 (x:=(d:Int)) (y:=2) (ag rfl) bK) ?_;refine aa (decide_eq_true (mm h2)) ?_;rfl) (n9 (vs:=[.int ((dB d w).1:Nat),.str (dB d w).2]) (fX (l:=tK.map λp=>AV.tup [.int (p.1:Nat),.str p.2]) (k:=w%8) (ag rfl) (dV (x:=w) (y:=8) (ag rfl) k1 (by decide)) fu (by decide)) rfl bG) ?_;exact fin _ _ k0.1 k0.2
 ·by_cases h14':d<14
  ·have hs:dB d w=(jH.getD (d-2) 0+ch.getD (w%5) 0-97,[ch.getD (w%5) 0]):=by unfold dB;refine aa (if_neg h2) ?_;refine aa (if_pos h14') ?_;rfl
   have a0:d-2<jH.length:=by
    have:jH.length=12:=by decide
    rw[this];exact jhM (rd h2) h14'
   have e1:((d:Int)-2)=((d-2:Nat):Int):=(jdx (rd h2)).symm;have lY:=Sv (w%5) zU;refine du (by refine aa (n4 (x:=(d:Int)) (y:=2) (ag rfl) bK) ?_;refine aa (decide_eq_false λq=>h2 (jbF.mp q)) ?_;rfl) (mQ (by refine aa (n4 (x:=(d:Int)) (y:=14) (ag rfl) bK) ?_;refine aa (decide_eq_true (mm h14')) ?_;rfl) (aT (v:=.int ((dB d w).1:Nat)) ?_ bG) bG) ?_
   ·refine jhc (jF (nY (fX (l:=jH.map λ(n:Nat)=>AV.int n) (k:=d-2) (ag rfl) (sm (x:=d) (y:=2) (ag rfl) bK (rd h2)) (nq a0) (by decide)) (Na (c:=ch.getD (w%5) 0) (ag rfl))) (bK (i:=97))) ?_;refine aa hs ?_;exact congrArg (λz=>some (AV.int z)) (by show((jH.getD (d-2) 0:Nat):Int)+((ch.getD (w%5) 0:Nat):Int)-97=((jH.getD (d-2) 0+ch.getD (w%5) 0-97:Nat):Int);rw[jdx (Y5 lY (jcj _ _))];rfl)
   ·have e2:(dB d w).2=[ch.getD (w%5) 0]:=by refine aa hs ?_;rfl
    have:=fin _ _ k0.1 k0.2;rw[e2]at this ⊢;exact this
  ·have hs:dB d w=(uL.getD (w%5) 0,[ch.getD (w%5) 0]):=by unfold dB;refine aa (if_neg h2) ?_;refine aa (if_neg h14') ?_;rfl
   refine du (by refine aa (n4 (x:=(d:Int)) (y:=2) (ag rfl) bK) ?_;refine aa (decide_eq_false λq=>h2 (jbF.mp q)) ?_;rfl) (du (by refine aa (n4 (x:=(d:Int)) (y:=14) (ag rfl) bK) ?_;refine aa (decide_eq_false λq=>h14' (jbF.mp q)) ?_;rfl) bG bG) ?_;have:=fin _ _ k0.1 k0.2;rw[hs]at this ⊢;exact this
theorem Hw:∀(n a:Nat),gP (a:Int) 1 n=(ZX a n).map λ(i:Nat)=>(i:Int)
 |0,_=>rfl
 |n+1,a=>by
  rw[tI,jdi,ZG,<-Hw n (a+1)];rfl
theorem A1{a b:Nat}(h:b<=100000)(ha:a<=100000):fQ (a:Int) (b:Int) 1=some ((ZX a (b-a)).map λ(i:Nat)=>(i:Int)):=by
 have hs:jaM (a:Int) (b:Int) 1=((b-a:Nat):Int):=by
  unfold jaM;rw[if_pos (by decide)];split<;>lia
 have oD:jet (a:Int) (b:Int) 1=true:=small_one (Int.NonNeg.mk (a+jci 4611686018427387903)) (re ha rfl) (Int.NonNeg.mk (b+jci 4611686018427387903)) (re h rfl);unfold fQ;rw[if_pos ⟨by decide,by decide,oD,by rw[hs];lia⟩,hs,ZF,Hw]
abbrev aq(l:List Nat):List AV:=l.map λ(i:Nat)=>AV.int i
section
theorem j'{e:Ex}{n:Nat}(h:ev Φ σ ρ e=some (.int n))(hn:n<=100000):dU Φ σ ρ (.range (.cons e .nil))=some (aq (Za n)):=by
 rewrite [se];refine aa (cT h) ?_;show(fQ 0 (n:Int) 1).map _=_;refine aa (show(0:Int)=((0:Nat):Int)from rfl) ?_;refine aa (A1 hn (jbp 100000)) ?_;refine aa jdv ?_;simp[aq]
theorem x5{e f:Ex}{a n:Nat}(h0:ev Φ σ ρ f=some (.int a))(h:ev Φ σ ρ e=some (.int n))(hn:n<=100000)(ha:a<=100000):dU Φ σ ρ (.range (.cons f (.cons e .nil)))=some (aq (ZX a (n-a))):=by
 rw[se,dL h0 h];show(fQ (a:Int) (n:Int) 1).map _=_;rw[A1 hn ha];simp[aq]
theorem nX(h:dU Φ σ ρ (.range as)=r):lR Φ ρ σ (.range as)=r:=h
end
theorem sC{β:Type}{f:aB->aA->AV->Option Fl}{g:β->AV}{I:List β->aB->aA->Prop}:∀(vs pre:List β) (ρ:aB) (σ:aA),
 I pre ρ σ->(∀p x q ρ σ,pre++vs=p++x::q->I p ρ σ->∃av an,f ρ σ (g x)=some (.next av an)/\I (p++[x]) av an) ->
 ∃av an,eQ f (vs.map g) ρ σ=some (.next av an)/\I (pre++vs) av an
 | [],pre,ρ,σ,h,_=>cZ ρ σ rfl (by rwa [Z6])
 |x::vs,pre,ρ,σ,h,hs=>by
  refine bA (hs pre x vs ρ σ rfl h) λav an h1 h2=>?_;refine bA (sC (f:=f) (I:=I) vs (pre++[x]) av an h2 (λp y q ρ σ e hI=>hs p y q ρ σ (by refine rwj e ?_;simp) hI)) λX9 Ya h3 h4=>?_;refine cZ X9 Ya ?_ (by simpa using h4);refine aa ZG ?_;rewrite [yK];refine aa h1 ?_;exact h3
theorem sD{f:aB->aA->AV->Option Fl}{I:Nat->aB->aA->Prop}{n:Nat}{ρ:aB}{σ:aA}(h0:I 0 ρ σ)(hs:∀k ρ σ,k<n->I k ρ σ->∃av an,f ρ σ (.int k)=some (.next av an)/\I (k+1) av an):
 ∃av an,eQ f (aq (Za n)) ρ σ=some (.next av an)/\I n av an:=by
 have:=sC (f:=f) (g:=λ(i:Nat)=>AV.int i) (I:=λl=>I l.length) (Za n) [] ρ σ h0 (λp x q ρ σ e hI=>by
  have e':p++x::q=Za n:=by refine rwj e ?_;rfl
  have hx:x=p.length:=by
   have h1:(Za n)[p.length]?=some x:=by refine rwj e' ?_;simp
   rw[ZE]at h1;refine aX h1 λY h1=>?_;simpa using h1.symm
  have a0:p.length<n:=by
   have:=congrArg jaT e';simp at this;exact X4 this
  refine bA (hs p.length ρ σ a0 hI) λav an h1 h2=>?_;refine cZ av an (by refine aa hx ?_;exact h1) (by simpa using h2))
 refine bA this λav an h1 h2=>?_;refine cZ av an h1 (by simpa using h2)
theorem HK(r:Nat):(kA r).length<=2:=by
 unfold kA lB;split<;>simp
theorem P2:∀{Φ:cX}{ρ:aB},ev Φ [] ρ (.bin .Add (.list (.cons (.c (.int 173)) (.cons (.c (.int 847)) (.cons (.c (.int 6150)) (.cons (.c (.int 6155)) (.cons (.c (.int 6156)) (.cons (.c (.int 6157)) (.cons (.c (.int 8203)) (.cons (.c (.int 8204)) (.cons (.c (.int 8205)) (.cons (.c (.int 8288)) (.cons (.c (.int 65279)) .nil)))))))))))) (.call .listRange (.cons (.c (.int 65024)) (.cons (.c (.int 65040)) .nil))))=some (jl iJ):=by
 intro Φ ρ;refine cb (x:=jl [173,847,6150,6155,6156,6157,8203,8204,8205,8288,65279]) (y:=jl (ZX 65024 16)) rfl (dK (vs:=[.int 65024,.int 65040]) rfl ?_) rfl;show((fQ ((65024:Nat):Int) ((65040:Nat):Int) 1).map λis=>AV.lst (is.map AV.int))=_;refine aa (A1 (by decide) (by decide)) ?_;rfl
structure BW where
 t:List Nat
 m:List Nat
 r:Nat
 a:Option AV
 b:Option AV
 c:Option AV
 d:Option AV
 e:Option AV
 f:Option AV
def wR(h:AV)(x:BW):aB:=wI h x.t x.m x.r x.a x.b x.c x.d x.e x.f
structure WI(n heap k:Nat) (x:BW):Prop where
 h1:x.t.length<=2*k
 h2:x.m.length<=3*k
 h3:x.t++lC (n-k) x.r=lC n (heap/3)
 h4:x.m++jt (n-k) x.r=jt n (heap/3)
theorem WI.next(H:WI n heap k x)(hk:k<n):WI n heap (k+1) ⟨x.t++kA x.r,x.m++io x.r,x.r/16800,a,b,c,d,e,f⟩ where
 h1:=by
  have:=HK x.r;have:=H.h1;show(x.t++kA x.r).length<=_;refine aa Ze ?_;lia
 h2:=by
  have:(io x.r).length<=3:=(A7 x.r).2;have:=H.h2;show(x.m++io x.r).length<=_;refine aa Ze ?_;lia
 h3:=by
  have e:=H.h3;rw[show n-k=(n-(k+1))+1 from ue hk,Bz,<-jaD]at e;exact e
 h4:=by
  have e:=H.h4;rw[show n-k=(n-(k+1))+1 from ue hk,t9,<-jaD]at e;exact e
theorem XP{Φ:cX}{heap n:Nat}(hn:n<=3):∃av an,eQ (λρ σ v=>aE Φ (ρ.set 7 (some v)) σ Bt) (aq (Za n)) (wI (.int heap) [] [] (heap/3) none none none none none none) []=some (.next av an)/\∃x,(av=wR (.int heap) x/\an=[])/\WI n heap n x:=by
 refine sD (I:=λk ρ σ=>∃x,(ρ=wR (.int heap) x/\σ=[])/\WI n heap k x) ⟨⟨[],[],heap/3,none,none,none,none,none,none⟩,⟨rfl,rfl⟩,by simp,by simp,rfl,rfl⟩ λk ρ σ hk h=>?_;refine au h λx z1 H=>?_;obtain⟨rfl,rfl⟩:=z1;have h1:=H.h1;have h2:=H.h2;refine uY (XQ (Φ:=Φ) (h:=.int heap) (t:=x.t) (m:=x.m) (r:=x.r) (j:=k) (a:=x.a) (b:=x.b) (c:=x.c) (q:=x.d) (e:=x.e) (f:=x.f) (by lia) (by lia)) λb' c' d' e' f' hw=>?_;exact⟨_,_,hw,_,⟨rfl,rfl⟩,H.next hk⟩
theorem NK{N:Nat}(heap:Nat):Fi (N+1) 13 [.int heap]=some (.tup [.str (lC (1+heap%3) (heap/3)),.str (jt (1+heap%3) (heap/3))]):=by
 refine fB Ol rfl ?_;show aE (Fi N) ([some (.int heap)]++Zm 12 none) [] DR.body=_;have hn:heap%3<3:=ZU _ (by decide);have en:∀{ρ:aB},ρ[0]?=some (some (.int heap))->ev (Fi N) [] ρ (.bin .Add (.c (.int 1)) (.bin .Mod (.var 0) (.c (.int 3))))=some (.int ((1+heap%3:Nat):Int)):=λh=>by
  refine aa (jbz _ _) ?_;exact nY bK (dV (x:=heap) (y:=3) (ag h) aR (by decide))
 have ln:1+heap%3<=3:=by lia
 clear hn;generalize 1+heap%3=n at *;refine aT (v:=tL) rfl (aT (v:=jl jH) rfl (aT (v:=jl iJ) P2 ?_));refine mP (vs:=[.str [],.str [],.int ((heap/3:Nat):Int)]) (gI rfl (gI rfl (gI (jC (x:=heap) (y:=3) (ag rfl) aR (by decide) (by decide)) mK))) rfl ?_;obtain⟨av,an,h1,x,⟨rfl,rfl⟩,H⟩:=XP (Φ:=Fi N) (heap:=heap) ln;refine kY (vs:=aq (Za n)) (nX (j' (en rfl) (bw ln rfl))) h1 ((dX (v:=.tup [.str x.t,.str x.m]) rfl rfl).trans ?_);have ht:=H.h3;have hm:=H.h4;rw[jaE,XO,Z6]at ht;rw[jaE,XN,Z6]at hm;refine aa ht ?_;refine aa hm ?_;rfl
def qR:AV:=.lst (cA.map λp=>.str p.1)
theorem VO:rV [.str (jaY "( ) [ ] : , ; + - * / | & < > = . % { } == != <= >= ~ ^ << >> ** += -= *= /= %= &= |= ^= <<= >>= **= // //= @ @= -> ... := !").cps.toList]=some qR:=by kernel_rfl
theorem Vw{Φ:cX}{ρ:aB}:ev Φ [] ρ (.call .split (.cons (.c (.str "( ) [ ] : , ; + - * / | & < > = . % { } == != <= >= ~ ^ << >> ** += -= *= /= %= &= |= ^= <<= >>= **= // //= @ @= -> ... := !")) .nil))=some qR:=dK (cT mN) VO
def iQ(c:Nat):Nat:=if c=102 then 0 else if c=105 then 1 else if c=108 then 2 else if c=115 then 3 else 4
theorem Rr:∀c∈ch,nP [] [.str ch,.str [c]]=some (.int (iQ c)):=by
 intro c hc;have:c=102\/c=105\/c=108\/c=115\/c=116:=by simpa [ch]using hc
 rcases this with rfl|rfl|rfl|rfl|rfl<;>kernel_rfl
theorem N2:∀c∈ch,mE [.str ch,.str [c]]=some (.int (iQ c)):=by
 intro c hc;have:c=102\/c=105\/c=108\/c=115\/c=116:=by simpa [ch]using hc
 rcases this with rfl|rfl|rfl|rfl|rfl<;>kernel_rfl
theorem Vt:(Za 15).all (λd=>(Za 40).all λw=>(dB d w).2.all (λc=>ch.contains c))=true:=by decide +kernel
theorem HJ(r:Nat):∀c∈io r,c∈ch:=by
 have h1:=Y'.mp Vt (r%15) (ZM.mpr (ZU _ (by decide)));have h2:=Y'.mp h1 (r/15%40) (ZM.mpr (ZU _ (by decide)));intro c hc;have:=Y'.mp h2 c hc;simpa using this
theorem Bx:∀k r,∀c∈jt k r,c∈ch
 |0,_=>λY h=>nomatch h
 |k+1,r=>by
  intro c hc;rw[t9,ZI]at hc;rcases hc with hc|hc
  ·exact HJ r c hc
  ·exact Bx k _ c hc
theorem Bw:∀k r,(jt k r).length<=3*k
 |0,_=>jbp _
 |k+1,r=>by
  have h1:=Bw k (r/16800);have h2:(io r).length<=3:=(A7 r).2;rw[t9,Ze];lia
theorem By:∀k r,(lC k r).length<=2*k
 |0,_=>jbp _
 |k+1,r=>by
  have h1:=By k (r/16800);have h2:=HK r;rw[Bz,Ze];lia
section
variable (hs:List Nat)
def pW(i:Nat):List Nat:=lC (1+hs.getD i 0%3) (hs.getD i 0/3)
def pM(i:Nat):List Nat:=jt (1+hs.getD i 0%3) (hs.getD i 0/3)
def pO(i:Nat):Nat:=hs.getD 5 0/48^i%48
def ii(w:Nat):List Nat:=(cA.getD w ([],0)).1
def im(i:Nat):List Nat:=pW hs i++if i<4 then ii (pO hs i)else[]
def jo(i:Nat):List Nat:=(pM hs i).map (λc=>256+iQ c)++[if i<4 then 7+pO hs i else 0]
def ij:List Nat:=(Za 5).flatMap (im hs)
def dA:List Nat:=(Za 5).flatMap (jo hs)
end
theorem Nt{Φ:cX}{ρ:aB}{σ:aA}{ss:dw}{r:Option Fl}{x i:Nat}{e:Ex}{a b:List AV}(h0:ρ[x]?=some (some (.ref i)))(hi:σ[i]?=some (.list a))(h:ev Φ σ ρ e=some (.lst b))(hl:a.length+b.length<=100000)(h2:aE Φ ρ (σ.set i (.list (a++b))) ss=r):aE Φ ρ σ (.cons (.aug x .Add e) ss)=r:=by
 refine iH ?_ h2;rw[yw,h0];dsimp only;rw[h];dsimp only;rw[hi];exact if_pos hl
section
variable {Φ:cX}{ρ av:aB}{σ an:aA}
theorem jE{a b:Ex}{x y:Nat}(h1:ev Φ σ ρ a=some (.int x))(h2:ev Φ σ ρ b=some (.int y))(hs:x<2^64)(hy:y<=1000):ev Φ σ ρ (.bin .Pow a b)=some (.int ((x^y:Nat):Int)):=by
 refine aa (jbR _ _) ?_;exact Nb h1 h2 (by unfold small;refine aa (ZV _) ?_;exact decide_eq_true hs) hy
theorem iF{a b:Ex}{x y:Nat}(h1:ev Φ σ ρ a=some (.int x))(h2:ev Φ σ ρ b=some (.int y)):ev Φ σ ρ (.bin .Add a b)=some (.int ((x+y:Nat):Int)):=by
 refine aa (jbz _ _) ?_;exact nY h1 h2
theorem mM{a b:Ex}{x y:Nat}(h1:ev Φ σ ρ a=some (.int x))(h2:ev Φ σ ρ b=some (.int y))(hs:x<2^64\/y<2^64):ev Φ σ ρ (.bin .Mult a b)=some (.int ((x*y:Nat):Int)):=by
 refine aa (jbf _ _) ?_;refine uT h1 h2 ?_;unfold small;refine aa (ZV _) ?_;refine aa (ZV _) ?_;simpa using hs
theorem sj{a b:Ex}{x y:List AV}(h1:ev Φ σ ρ a=some (.lst x))(h2:ev Φ σ ρ b=some (.lst y))(hl:x.length+y.length<=100000):ev Φ σ ρ (.bin .Add a b)=some (.lst (x++y)):=by
 refine cb h1 h2 ?_;show(if _ then _ else _)=_;refine aa (if_pos hl) ?_;rfl
theorem pX{a b:Ex}{x y:Nat}(h1:ev Φ σ ρ a=some (.int x))(h2:ev Φ σ ρ b=some (.int y)):ev Φ σ ρ (.cmp .Lt a b)=some (.bool (decide (x<y))):=by
 refine aa (n4 h1 h2) ?_;exact congrArg (λb=>some (AV.bool b)) (decide_eq_decide.mpr (by simp))
theorem pT{a b:Ex}{x y:Nat}(h1:ev Φ σ ρ a=some (.int x))(h2:ev Φ σ ρ b=some (.int y)):ev Φ σ ρ (.cmp .Eq a b)=some (.bool (decide (x=y))):=by
 refine aa (uR h1 h2) ?_;exact congrArg (λb=>some (AV.bool b)) (decide_eq_decide.mpr (IL))
end
theorem Ue(w:Nat)(h:w<48):(cA.map λp=>AV.str p.1)[w]?=some (.str (ii w)):=by
 have hl:w<cA.length:=h;refine aa ZR ?_;refine aa (Zg hl) ?_;unfold ii;refine aa Zb ?_;refine aa (Zg hl) ?_;rfl
theorem qh(k:Nat)(σ:aA):∀l:List Nat,bj (aZ σ (k+1)) (aq l)=some (aq l)
 | []=>rfl
 |a::l=>by
  show bj (aZ σ (k+1)) (AV.int (a:Nat)::aq l)=_;rw[gO];have:aZ σ (k+1) (.int (a:Nat))=some (.int (a:Nat)):=rfl;refine aa this ?_;simp only[qh k σ l];rfl
theorem Hb:∀w,w<48->(ii w).length<=3:=by decide +kernel
theorem NL{N:Nat}(hs:List Nat)(hl:hs.length=8):Fi (N+2) 14 [.lst (aq hs)]=some (.tup [.str (ij hs),.lst (aq (dA hs))]):=by
 refine fB Om rfl ?_;show aE (Fi (N+1)) ([some (.lst (aq hs))]++Zm 7 none) [] yz.body=_;refine aT (v:=qR) Vw (mP (vs:=[.str [],.ref 0]) (an:=[.list []]) (gI rfl (x7 rfl mK)) rfl ?_);have lp:=sD (f:=λρ σ v=>aE (Fi (N+1)) (ρ.set 4 (some v)) σ (match yz.body with | .cons _ (.cons _ (.cons (.for_ _ _ b) _))=>b|_=>.nil)) (n:=5) (ρ:=[some (.lst (aq hs)),some qR,some (.str []),some (.ref 0),none,none,none,none]) (σ:=[.list []])
  (I:=λk ρ σ=>∃a b c d,ρ=[some (.lst (aq hs)),some qR,some (.str ((Za k).flatMap (im hs))),some (.ref 0),a,b,c,d]/\σ=[.list (aq ((Za k).flatMap (jo hs)))]/\((Za k).flatMap (im hs)).length<=9*k/\((Za k).flatMap (jo hs)).length<=10*k)
  ⟨none,none,none,none,rfl,rfl,by simp,by simp⟩ ?_
 ·obtain⟨av,an,h1,a,b,c,d,rfl,rfl,_,_⟩:=lp;refine kY (vs:=aq (Za 5)) (nX (j' aR (jcj 5 99995))) h1 ?_;refine dX (v:=.tup [.str (ij hs),.ref 0]) rfl ?_;have:=qh 3 [.list (aq (dA hs))] (dA hs);show(bj (aZ _ 5) [.str (ij hs),.ref 0]).map AV.tup=_;have e1:aZ [.list (aq (dA hs))] 5 (.str (ij hs))=some (.str (ij hs)):=rfl;have e2:aZ [.list (aq (dA hs))] 5 (.ref 0)=some (.lst (aq (dA hs))):=by
   rw[yR];show(bj _ _).map AV.lst=_;rw[this];rfl
  show jad AV.tup (bj (aZ [.list (aq (dA hs))] 5) [.str (ij hs),.ref 0])=_;rw[gO,e1];dsimp only;rw[gO,e2];rfl
 ·rintro k ρ σ hk ⟨a,b,c,d,rfl,rfl,h1,h2⟩;have fu:∀i,i<8->(aq hs)[i]?=some (.int (hs.getD i 0:Nat)):=λi hi=>nq (by simp[*]);have Fj:(aq hs).length<=100000:=by simp[aq];simp[*]
  have FR:=By (1+hs.getD k 0%3) (hs.getD k 0/3);have Yz:=Bw (1+hs.getD k 0%3) (hs.getD k 0/3);have Yy:hs.getD k 0%3<3:=ZU _ (by decide);have ho:pO hs k<48:=ZU _ (by decide);have YD:=Hb _ ho;have cM:(im hs k).length<=9:=by
   have:(pW hs k).length<=6:=by unfold pW;lia
   unfold im;rw[Ze];split
   ·lia
   ·show(pW hs k).length+0<=9;exact bw this rfl
  have oD:(jo hs k).length<=10:=by
   have:(pM hs k).length<=9:=by unfold pM;lia
   unfold jo;rw[Ze,Y4,jbk];exact BC this rfl
  refine⟨_,_,?_,some (.int k),some (.str (pW hs k)),some (.str (pM hs k)),some (.int (pO hs k:Nat)),rfl,rfl,?_,?_⟩
  ·refine n9 (vs:=[.str (pW hs k),.str (pM hs k)]) (cL (vs:=[.int (hs.getD k 0:Nat)]) (cT (fX (l:=aq hs) (k:=k) (ag rfl) (ag rfl) (fu k (bw hk rfl)) Fj)) rfl (NK _)) rfl ?_;refine aT (v:=.int (pO hs k:Nat)) (dV (y:=48) (jC (y:=48^k) (fX (l:=aq hs) (k:=5) (ag rfl) aR (fu 5 (bw jbO rfl)) Fj) (jE aR (ag rfl) (by decide) (IS hk rfl)) (by simp) ?_) aR (by decide)) ?_
   ·exact Zy (Zp (by decide) (show k<=4 from jba hk)) (by decide)
   refine yr (a:=(Za k).flatMap (im hs)) (b:=im hs k) rfl (Dl (ag rfl) ?_ ?_) (by lia) ?_
   ·by_cases h4:k<4
    ·refine pV ((pX (x:=k) (y:=4) (ag rfl) aR).trans (by rw[decide_eq_true h4])) ?_;rw[if_pos h4];exact fX (l:=cA.map λp=>AV.str p.1) (k:=pO hs k) (ag rfl) (ag rfl) (Ue _ ho) (by decide)
    ·refine pU ((pX (x:=k) (y:=4) (ag rfl) aR).trans (by rw[decide_eq_false h4])) ?_;rw[if_neg h4];exact mN
   ·have:=cM;unfold im at this;rw[Ze]at this;exact bw this rfl
   refine Nt (i:=0) (a:=aq ((Za k).flatMap (jo hs))) (b:=aq (jo hs k)) rfl rfl ?_ (by rw[Y4,Y4];lia) ?_
   ·have hc:∀v∈((pM hs k).map λc=>AV.str [c]),ev (Fi (N+1)) [.list (aq ((Za k).flatMap (jo hs)))] ([some (.lst (aq hs)),some qR,some (.str ((Za k).flatMap (im hs)++im hs k)),some (.ref 0),some (.int k),some (.str (pW hs k)),some (.str (pM hs k)),some (.int (pO hs k:Nat))]++[some v]) (.bin .Add (.c (.int 256)) (.call .index (.cons (.c (.str "filst")) (.cons (.var 8) .nil))))=some ((λv=>match v with | .str (c::_)=>AV.int ((256+iQ c:Nat))|v=>v) v):=by
     intro v hv;refine au (Zq.mp hv) ?_;rintro c hc rfl;have hcl:=Bx _ _ c hc;exact iF (x:=256) (y:=iQ c) aR (dK (vs:=[.str ch,.str [c]]) (dL mN (ag rfl)) (Rr c hcl))
    refine(sj (x:=aq ((pM hs k).map λc=>256+iQ c)) (y:=aq [if k<4 then 7+pO hs k else 0]) ?_ ?_ ?_).trans ?_
    ·refine(n0 (x:=8) (vs:=(pM hs k).map λc=>AV.str [c]) rfl rfl ?_ hc).trans ?_
     ·have:(pM hs k).length<=9:=by unfold pM;lia
      rw[Y4];exact bw this rfl
     ·rw[ZN];unfold aq;rw[ZN];rfl
    ·refine sk (cT ?_) (show 1<=100000 by decide);by_cases h4:k<4
     ·refine pV ((pX (x:=k) (y:=4) (ag rfl) aR).trans (by rw[decide_eq_true h4])) ?_;rw[if_pos h4];exact iF (x:=7) aR (ag rfl)
     ·refine pU ((pX (x:=k) (y:=4) (ag rfl) aR).trans (by rw[decide_eq_false h4])) ?_;rw[if_neg h4];exact aR
    ·have:=oD;unfold jo at this;rw[Ze,Y4,jbk]at this;show(aq _).length+(aq _).length<=_;rw[Y4,Y4,Y4];show _+1<=_;exact bw this rfl
    ·unfold jo aq;rw[ZW]
   refine bG.trans ?_;rw[jaO,jbc,jbc,jcX,jcX];unfold aq;rw[ZW];rfl
  ·rw[jaO,jbc,Ze,jcX];lia
  ·rw[jaO,jbc,Ze,jcX];lia
def fW(T:List Nat):List Nat:=(T.filter λ(c:Nat)=>!dz (c:Int)).flatMap iy
theorem uK(a b:List Nat):fW (a++b)=fW a++fW b:=by
 unfold fW;rw[jdS,jbc]
theorem K1:((Za 15).all (λd=>(Za (if d<2 then 8 else 5)).all λw=>fW [(dB d w).1]==(dB d w).2)&&(Za 28).all (λv=>fW (lB v)==[]))=true:=by decide +kernel
theorem KZ:∀w,w<48->fW (ii w)=ii w:=by decide +kernel
theorem K0(r:Nat):fW (kA r)=io r:=by
 have h:=K1;rw[ZA]at h;have h1:=Y'.mp h.1 (r%15) (ZM.mpr (ZU _ (by decide)));have e:∀d w,dB d w=dB d (w%(if d<2 then 8 else 5)):=λd w=>by
  unfold dB;by_cases hd:d<2
  ·rw[if_pos hd,if_pos hd,if_pos hd,Nat.mod_mod]
  ·rw[if_neg hd,if_neg hd,if_neg hd,Nat.mod_mod]
 have h2:=Y'.mp h1 (r/15%40%(if r%15<2 then 8 else 5)) (ZM.mpr (ZU _ (by split<;>decide)));rw[<-e]at h2;have h3:=Y'.mp h.2 (r/600%28) (ZM.mpr (ZU _ (by decide)));unfold kA io;rw[uK,eq_of_beq h2,eq_of_beq h3,jbd]
theorem Ct:∀k r,fW (lC k r)=jt k r
 |0,_=>rfl
 |k+1,r=>by rw[Bz,t9,uK,K0,Ct k]
def qA(l:List Nat):List (List Nat×Nat):=l.map λc=>([c],256+iQ c)
def tS(L:List Nat):Nat:=if(cA.lookup (L.take 3)).isSome then 3 else if(cA.lookup (L.take 2)).isSome then 2 else 1
def jv:List (List Nat×Nat)->Prop
 | []=>True
 |x::xs=>x.1≠[]/\tS (x.1++xs.flatMap (·.1))=x.1.length/\x.1.length<=3/\(match cA.lookup x.1 with|some k=>k=x.2|none=>mE [.str ch,.str x.1]=some (.int ((x.2:Int)-256)))/\jv xs
theorem WD:cA.all (λp=>p.1.all λc=>!ch.contains c)=true:=by decide +kernel
theorem qD(hc:c∈l)(hl:c∈ch):cA.lookup l=none:=by
 rw[jhi];intro p hp;rw[bne_iff_ne];rintro rfl;have:=Y'.mp (Y'.mp WD p hp) c hc;simp[hl]at this
theorem yY(h:jv az):∀l:List Nat,(∀c∈l,c∈ch)->jv (qA l++az)
 | [],_=>h
 |c::l,hl=>by
  have hc:=hl c (by simp);have ih:=yY h l (λc hc=>hl c (by simp[hc]));refine⟨by simp,?_,by simp,?_,ih⟩
  ·unfold tS;refine aa (qD (c:=c) (by simp) hc) ?_;refine aa (qD (c:=c) (by simp) hc) ?_;rfl
  ·refine aa (qD (c:=c) (by simp) hc) ?_;show mE [.str ch,.str [c]]=_;refine aa (N2 c hc) ?_;exact congrArg (λz=>some (AV.int z)) (by show(iQ c:Int)=((256+iQ c:Nat):Int)-256;lia)
theorem Uf:∀w,w<48->ii w≠[]/\(ii w).length<=3/\cA.lookup (ii w)=some ((7+w:Nat):Int):=by decide +kernel
theorem OW(hw:w<48)(h:jv az)(hr:az.flatMap (·.1)=c::l)(hc:c∈ch):jv ((ii w,7+w)::az):=by
 refine fY (Uf w hw) λh1 h2 h3=>?_;refine⟨h1,?_,h2,by show(match cA.lookup (ii w)with|some k=>k=((7+w:Nat):Int)|none=>_);refine aa h3 ?_;rfl,h⟩;show tS (ii w++az.flatMap (·.1))=(ii w).length;refine aa hr ?_;generalize ii w=o at *;have eR:∀k,o.length<k->c∈(o++c::l).take k:=λk hk=>by
  refine aa List.take_append ?_;rw[ZI];right;have:k-o.length=(k-o.length-1)+1:=ue hk;refine aa this ?_;refine aa List.take_succ_cons ?_;simp
 have vO:(o++c::l).take o.length=o:=by rw[jgd];rfl
 unfold tS;have h0:o.length≠0:=λe=>h1 (Z7.mp e);have:o.length=1\/o.length=2\/o.length=3:=XZ (jdY h0) h2;rcases this with e|e|e
 ·refine aa (qD (eR 3 (by simp[*])) hc) ?_;refine aa (qD (eR 2 (IJ e jbO)) hc) ?_;simp[e]
 ·refine aa (qD (eR 3 (IJ e jbO)) hc) ?_;rw[e]at vO;refine aa vO ?_;refine aa h3 ?_;refine aa e ?_;rfl
 ·rw[e]at vO;refine aa vO ?_;refine aa h3 ?_;refine aa e ?_;rfl
section
variable (hs:List Nat)
def fK(i:Nat):List (List Nat×Nat):=qA (pM hs i)++if i<4 then[(ii (pO hs i),7+pO hs i)]else[]
def items:List (List Nat×Nat):=(Za 5).flatMap (fK hs)
end
theorem Vv:(Za 15).all (λd=>(Za 40).all λw=>(dB d w).2 != [])=true:=by decide +kernel
theorem IE(k r:Nat):∃c l,jt (k+1) r=c::l/\c∈ch:=by
 have h1:=Y'.mp Vv (r%15) (ZM.mpr (ZU _ (by decide)));have h2:=Y'.mp h1 (r/15%40) (ZM.mpr (ZU _ (by decide)));have h3:io r≠[]:=by unfold io;simpa using h2
 refine dW (List.exists_cons_of_ne_nil h3) λc l e=>?_;refine cZ c (l++jt k (r/16800)) (by rewrite [t9];refine aa e ?_;rfl) (HJ r c (by refine aa e ?_;simp))
theorem An(l:List Nat):(qA l).flatMap (·.1)=l:=by
 induction l with
 |nil=>rfl
 |cons a l ih =>
  show[a]++(qA l).flatMap (·.1)=_;refine aa ih ?_;rfl
theorem Et(hs:List Nat):jv (items hs):=by
 have hM:∀i,∃c l,pM hs i=c::l/\c∈ch:=λi=>by
  unfold pM;refine aa (jbn _ _) ?_;exact IE _ _
 have ho:∀i,pO hs i<48:=λi=>ZU _ (by decide);have oB:∀i,∀c∈pM hs i,c∈ch:=λi=>Bx _ _;have step:∀i az,i<4->jv az->(∃c l,az.flatMap (·.1)=c::l/\c∈ch)->jv (fK hs i++az)/\∃c l,(fK hs i++az).flatMap (·.1)=c::l/\c∈ch:=by
  rintro i az hi hg ⟨c,l,e,hc⟩;unfold fK;refine aa (if_pos hi) ?_;rw[jaD];refine⟨yY (OW (ho i) hg e hc) _ (oB i),?_⟩;refine bA (hM i) λc' l' e' gN=>?_;refine aa jbc ?_;refine aa (An _) ?_;refine aa e' ?_;exact cZ c' _ rfl gN
 have lq:jv (fK hs 4)/\∃c l,(fK hs 4).flatMap (·.1)=c::l/\c∈ch:=by
  unfold fK;refine aa (if_neg (by decide)) ?_;refine⟨yY (az:=[]) trivial _ (oB 4),?_⟩;refine aa (Z6 _) ?_;refine aa (An _) ?_;exact hM 4
 have h3:=step 3 _ (by decide) lq.1 lq.2;have h2:=step 2 _ (by decide) h3.1 h3.2;have h1:=step 1 _ (by decide) h2.1 h2.2;have h0:=step 0 _ (by decide) h1.1 h1.2;have:items hs=fK hs 0++(fK hs 1++(fK hs 2++(fK hs 3++fK hs 4))):=by
  unfold items;refine aa (show Za 5=[0,1,2,3,4]from rfl) ?_;simp[jau]
 refine aa this ?_;exact h0.1
theorem Ah(hs:List Nat):(items hs).flatMap (·.1)=fW (ij hs):=by
 have ho:∀i,pO hs i<48:=λi=>ZU _ (by decide);have:∀i,(fK hs i).flatMap (·.1)=fW (im hs i):=λi=>by
  unfold fK im pW;rw[jbc,An,uK,Ct];split
  ·rw[KZ _ (ho i)];simp[pM]
  ·simp[pM,fW]
 have h2:∀l:List Nat,(l.flatMap (fK hs)).flatMap (·.1)=fW (l.flatMap (im hs)):=λl=>by
  induction l with
  |nil=>rfl
  |cons a l ih=>rw[jau,jau,jbc,uK,ih,this]
 exact h2 _
theorem Gl(hs:List Nat):(items hs).map (·.2)++[0]=dA hs:=by
 have e:∀i,(fK hs i).map (·.2)=(pM hs i).map (λc=>256+iQ c)++if i<4 then[7+pO hs i]else[]:=λi=>by
  unfold fK qA;refine aa ZW ?_;refine aa ZN ?_
  congr 1
  split<;>rfl
 unfold items dA;refine aa (show Za 5=[0,1,2,3,4]from rfl) ?_;simp[jau,e,jo]
theorem tn(hs:List Nat):(items hs).length<=99:=by
 have hm:∀i,(pM hs i).length<=9:=λi=>by
  have h1:=Bw (1+hs.getD i 0%3) (hs.getD i 0/3);have h2:hs.getD i 0%3<3:=ZU _ (by decide);unfold pM;lia
 have h:∀i,(fK hs i).length<=10:=λi=>by
  have:=hm i;unfold fK qA;refine aa Ze ?_;refine aa (Y4 _) ?_;split
  ·show _+1<=10;exact BC (hm i) rfl
  ·show _+0<=10;exact jcJ (hm i)
 unfold items;refine aa (show Za 5=[0,1,2,3,4]from rfl) ?_;have:=h 0;have:=h 1;have:=h 2;have:=h 3;have:=h 4;simp[jau]
 lia
section
theorem Wu(h:ev Φ σ ρ (.comp n gs)=some (.lst vs)):oT Φ ρ σ (.comp n gs)=some (.ref σ.length,σ++[.list vs]):=by
 replace h:(fF Φ σ ρ n gs).map AV.lst=some (.lst vs):=h;show(match fF Φ σ ρ n gs with|some vs=>some (AV.ref σ.length,σ++[AO.list vs])|none=>none)=_
 induction e:fF Φ σ ρ n gs using ae with
 |none=>rw[e]at h;exact ai h
 |some us=>rw[e]at h;refine aa (AV.lst.inj (Y7 h)) ?_;rfl
theorem Dr{a e:Ex}{k:Nat}{x:List Nat}(h1:ev Φ σ ρ a=some (.str x))(h2:ev Φ σ ρ e=some (.int k))(hl:x.length<=100000):ev Φ σ ρ (.slice a .none (.some e))=some (.str (x.take k)):=by
 rw[pY,h1];dsimp only;rw[Dd];dsimp only;rw[pR,h2];dsimp only;show(if 0<=(k:Int)then me σ (λl=>l.take (k:Int).toNat) (.str x)else none)=_;rw[if_pos (Zl k),ZF];show(if _ then _ else _)=_;rw[if_pos hl]
theorem Nc{a e:Ex}{k:Nat}{x:List Nat}(h1:ev Φ σ ρ a=some (.str x))(h2:ev Φ σ ρ e=some (.int k))(hl:x.length<=100000):ev Φ σ ρ (.slice a (.some e) .none)=some (.str (x.drop k)):=by
 have hn:fG Φ σ ρ .none=some none:=rfl;have hs:fG Φ σ ρ (.some e)=some (some (k:Int)):=by rw[pR,h2]
 rw[pY,h1];simp only[hn,hs];show(if 0<=(k:Int)then me σ (λl=>l.drop (k:Int).toNat) (.str x)else none)=_;rw[if_pos (Zl k),ZF];show(if _ then _ else _)=_;rw[if_pos hl]
theorem M1(h1:ev Φ σ ρ a=some (.bool x))(h2:ev Φ σ ρ b=some (.bool y)):ev Φ σ ρ (.and (.cons a (.cons b .nil)))=some (.bool (x&&y)):=by
 rewrite [uW,kT];refine aa h1 ?_;cases x
 ·rfl
 ·dsimp only;rewrite [kT];refine aa h2 ?_;cases y
  ·rfl
  ·dsimp only;rw[nW];rfl
theorem kS(h1:ev Φ σ ρ a=some (.bool x)):cS Φ σ ρ (.cons a .nil)=some x:=by
 rw[kT,h1];cases x
 ·rfl
 ·dsimp only;rw[nW]
end
theorem H0:∀l:List (List Nat),ip (l.map AV.str)=some l
 | []=>rfl
 |a::l=>by rw[ZG,V4,H0 l];rfl
theorem UZ(T:List Nat):(Za T.length).map (λi=>T.getD i 0)=T:=by
 refine jew (by simp) λi h1 h2=>?_;rw[jbV,jdR,Zb,Zg h2];rfl
theorem xH(T:List Nat):((((Za T.length).filter λi=>!dz (T.getD i 0:Nat)).map λi=>iy (T.getD i 0)).flatten)=fW T:=by
 unfold fW;have:T.filter (λ(c:Nat)=>!dz (c:Int))=((Za T.length).filter λi=>!dz (T.getD i 0:Nat)).map λi=>T.getD i 0:=by
  have h:=jch (f:=λi=>T.getD i 0) (p:=λ(c:Nat)=>!dz (c:Int)) (l:=Za T.length);rw[UZ]at h;exact h
 refine aa this ?_;refine aa List.flatMap_def ?_;refine aa ZN ?_;rfl
def Hu:dw :=
 (.cons (.asg 4 false (.call .max (.cons (.bin .Add (.list (.cons (.c (.int 1)) .nil)) (.comp 1 (.cons 5 (.val (.tup (.cons (.c (.int 2)) (.cons (.c (.int 3)) .nil)))) (.cons (.cmp .In (.slice (.var 2) .none (.some (.var 5))) (.glob .tok)) .nil) (.done (.var 5))))) .nil)))
  (.cons (.app (.var 3) (.call .get (.cons (.glob .tok) (.cons (.slice (.var 2) .none (.some (.var 4))) (.cons (.bin .Add (.c (.int 256)) (.call .find (.cons (.c (.str "filst")) (.cons (.slice (.var 2) .none (.some (.var 4))) .nil)))) .nil)))))
  (.cons (.asg 2 false (.slice (.var 2) (.some (.var 4)) .none))
  .nil)))
theorem U3{Φ:cX}{a b u:Option AV}{L:List Nat}{row:List AV}{x:List Nat×Nat}{xs:List (List Nat×Nat)}(hL:L=x.1++xs.flatMap (·.1))(hg:jv (x::xs))(hr:row.length<=1000)(hl:L.length<=1000):
 ∃u',aE Φ [a,b,some (.str L),some (.ref 0),u] [.list row] Hu=some (.next [a,b,some (.str (xs.flatMap (·.1))),some (.ref 0),u'] [.list (row++[.int (x.2:Nat)])]):=by
 refine DB hg λg1 g2 g3 g4 g5=>?_;rw[<-hL]at g2;have jj:L.take x.1.length=x.1:=by refine aa hL ?_;exact jgd rfl
 have PF:L.drop x.1.length=xs.flatMap (·.1):=by refine aa hL ?_;exact List.drop_left' rfl
 refine⟨some (.int (x.1.length:Nat)),?_⟩;refine aT (v:=.int (x.1.length:Nat)) ?_ ?_
 ·have hc:ev Φ [.list row] [a,b,some (.str L),some (.ref 0),u] (.comp 1 (.cons 5 (.val (.tup (.cons (.c (.int 2)) (.cons (.c (.int 3)) .nil)))) (.cons (.cmp .In (.slice (.var 2) .none (.some (.var 5))) (.glob .tok)) .nil) (.done (.var 5))))=some (.lst (aq ([2,3].filter λk=>(cA.lookup (L.take k)).isSome))):=by
   refine(nZ (x:=5) (vs:=aq [2,3]) (p:=λv=>match v with | .int k=>(cA.lookup (L.take k.toNat)).isSome|_=>false) (g:=id) rfl rfl (by decide) (λv hv=>?_) (λv hv Y=>?_)).trans ?_
   ·refine au (Zq.mp hv) ?_;rintro k hk rfl;refine kS (cK (x:=.str (L.take k)) (y:=.tok) (Dr (ag rfl) (ag rfl) (bw hl rfl)) rfl ?_);rfl
   ·rfl
   ·show some (AV.lst (jfE id (List.filter _ (aq [2,3]))))=_;refine aa (jca _) ?_;unfold aq;refine aa jch ?_;rfl
  refine dK (cT (sj (x:=aq [1]) rfl hc ?_)) ?_
  ·show 1+_<=100000;unfold aq;refine aa (Y4 _) ?_;have:([2,3].filter λk=>(cA.lookup (L.take k)).isSome).length<=2:=jdg _ _
   lia
  ·refine rwj g2 ?_;unfold tS;refine aa jcz ?_;refine aa jcz ?_;cases(cA.lookup (L.take 3)).isSome<;>cases(cA.lookup (L.take 2)).isSome<;>rfl
 refine qc (i:=0) (xs:=row) (v:=.int (x.2:Nat)) (ag rfl) ?_ rfl (bw hr rfl) (λj=>by simp) ?_
 ·have ht:∀{ρ:aB},ρ[2]?=some (some (.str L))->ρ[4]?=some (some (.int (x.1.length:Nat)))->ev Φ [.list row] ρ (.slice (.var 2) .none (.some (.var 4)))=some (.str x.1):=λh2 h4=>by
   have:=Dr (Φ:=Φ) (σ:=[.list row]) (ag h2) (ag h4) (bw hl rfl)
   rwa [jj]at this
  have PP:∃d:Int,mE [.str ch,.str x.1]=some (.int d):=⟨_,rfl⟩
  refine aX PP λd hd=>?_;refine dK (vs:=[.tok,.str x.1,.int (256+d)]) (gJ rfl (ht rfl rfl) (nY (x:=256) bK (dK (vs:=[.str ch,.str x.1]) (dL mN (ht rfl rfl)) hd))) ?_;show some (match cA.lookup x.1 with|some k=>AV.int k|none=>.int (256+d))=_
  induction e:cA.lookup x.1 using ae with
  |some k=>rw[e]at g4;dsimp only at g4;refine aa g4 ?_;rfl
  |none =>
   rw[e]at g4;dsimp only at g4;rw[hd]at g4;simp only[jdz,AV.int.injEq]at g4;simp only[jdz,AV.int.injEq]
   lia
 ·refine aT (v:=.str (xs.flatMap (·.1))) ?_ bG;refine rwj PF ?_;exact Nc (ag rfl) (ag rfl) (bw hl rfl)
theorem Hz:∀(xs:List (List Nat×Nat)) (row:List AV) (u:Option AV) (n:Nat),jv xs->xs.length<n->row.length+xs.length<=1000->(xs.flatMap (·.1)).length<=1000 ->
 ∃u',jr (λρ σ=>ev Φ σ ρ (.cmp .NotEq (.var 2) (.c (.str "")))) (λρ σ=>aE Φ ρ σ Hu) n [a,b,some (.str (xs.flatMap (·.1))),some (.ref 0),u] [.list row]=some (.next [a,b,some (.str []),some (.ref 0),u'] [.list (row++aq (xs.map (·.2)))])
 |_,_,_,0,_,h,_,_=>by lia
 | [],row,u,n+1,hg,_,hr,hl=>by
  refine⟨u,?_⟩;rw[Bu];have:ev Φ [.list row] [a,b,some (.str (([]:List (List Nat×Nat)).flatMap (·.1))),some (.ref 0),u] (.cmp .NotEq (.var 2) (.c (.str "")))=some (.bool false):=rfl;simp only[this];simp
 |x::xs,row,u,n+1,hg,hn,hr,hl=>by
  rw[Zr]at hn hr;have vz:(xs.flatMap (·.1)).length<=1000:=by
   rw[jau,Ze]at hl;exact wK hl
  refine aX (U3 (Φ:=Φ) (a:=a) (b:=b) (u:=u) (L:=(x::xs).flatMap (·.1)) (row:=row) rfl hg (BA hr) hl) λu1 h1=>?_;refine aX (Hz (Φ:=Φ) (a:=a) (b:=b) xs (row++[.int (x.2:Nat)]) u1 n hg.2.2.2.2 (by lia) (by refine aa Ze ?_;refine aa jbk ?_;exact ud hr) vz) λu2 h2=>?_;refine⟨u2,?_⟩;rw[Bu];have:ev Φ [.list row] [a,b,some (.str ((x::xs).flatMap (·.1))),some (.ref 0),u] (.cmp .NotEq (.var 2) (.c (.str "")))=some (.bool true):=by
   refine(cK (x:=.str ((x::xs).flatMap (·.1))) (y:=.str []) (c:=true) rfl mN ?_);show some (!decide _)=_;rw[decide_eq_false];rfl;intro e;refine bN hg λg1 Y=>?_;rw[jau]at e;exact g1 (List.append_eq_nil_iff.mp e).1
  simp only[this,h1,h2];rw[jaD];rfl
theorem JF:((fW (ij hs)).length<=1000):=by
 refine rwj (Ah _) ?_;have hg:∀xs:List (List Nat×Nat),jv xs->(xs.flatMap (·.1)).length<=3*xs.length:=λxs=>by
  induction xs with
  |nil=>intro _;simp
  |cons x xs ih =>
   intro h;have:=ih h.2.2.2.2;have:=h.2.2.1;refine aa jau ?_;refine aa Ze ?_;refine aa Zr ?_;lia
 have:=hg _ (Et hs);have:=tn hs
 lia
theorem Ur(hs:List Nat):(ij hs).length<=45:=by
 have h:∀i,(im hs i).length<=9:=λi=>by
  have h1:=By (1+hs.getD i 0%3) (hs.getD i 0/3);have h2:hs.getD i 0%3<3:=ZU _ (by decide);have h3:=Hb (pO hs i) (ZU _ (by decide));have:(pW hs i).length<=6:=by unfold pW;lia
  unfold im;refine aa Ze ?_;split
  ·lia
  ·show _+0<=9;exact bw this rfl
 unfold ij;refine aa (show Za 5=[0,1,2,3,4]from rfl) ?_;have:=h 0;have:=h 1;have:=h 2;have:=h 3;have:=h 4;simp only[jau,List.flatMap_nil,Ze,jbv]
 lia
theorem NM(hs:List Nat):Fi (N+2) 15 [.str (ij hs)]=some (.lst (aq (dA hs))):=by
 refine fB On rfl ?_;have hT:=Ur hs;have hC:=JF (hs:=hs);rw[<-xH]at hC;generalize EE:ij hs=T at *;show aE (Fi (N+1)) ([some (.str T)]++Zm 4 none) [] DS.body=_;have Bp:ev (Fi (N+1)) [] [some (.str T),none,none,none,none] (.comp 1 (.cons 5 (.val (.var 0)) .nil (.done (.call (.user 8) (.cons (.var 5) .nil)))))=some (.lst (T.map λ(c:Nat)=>.bool (dz c))):=by
  refine(n0 (x:=5) (vs:=T.map λc=>AV.str [c]) (g:=λv=>match v with | .str (c::_)=>.bool (dz c)|v=>v) rfl rfl (by rw[Y4];exact bw hT rfl) (λv hv=>?_)).trans ?_
  ·refine au (Zq.mp hv) ?_;rintro c hc rfl;exact cL (vs:=[.str [c]]) (cT (ag rfl)) rfl NZ
  ·rw[ZN];rfl
 refine aT Bp ?_;have qt:∀i,i<T.length->T[i]?=some (T.getD i 0):=λi hi=>yU hi;have plain:ev (Fi (N+1)) [] [some (.str T),some (.lst (T.map λ(c:Nat)=>.bool (dz c))),none,none,none] (.call .join (.cons (.c (.str "")) (.cons (.comp 1 (.cons 5 (.range (.cons (.call .len (.cons (.var 0) .nil)) .nil)) (.cons (.cmp .Is (.idx (.var 1) (.var 5)) (.c (.bool false))) .nil) (.done (.call (.user 9) (.cons (.idx (.var 0) (.var 5)) .nil))))) .nil)))=some (.str (fW T)):=by
  have hc:ev (Fi (N+1)) [] [some (.str T),some (.lst (T.map λ(c:Nat)=>.bool (dz c))),none,none,none] (.comp 1 (.cons 5 (.range (.cons (.call .len (.cons (.var 0) .nil)) .nil)) (.cons (.cmp .Is (.idx (.var 1) (.var 5)) (.c (.bool false))) .nil) (.done (.call (.user 9) (.cons (.idx (.var 0) (.var 5)) .nil)))))=some (.lst (((((Za T.length).filter λi=>!dz (T.getD i 0:Nat)).map λi=>iy (T.getD i 0))).map AV.str)):=by
   refine(nZ (x:=5) (vs:=aq (Za T.length)) (p:=λv=>match v with | .int k=>!dz (T.getD k.toNat 0:Nat)|_=>false) (g:=λv=>match v with | .int k=>.str (iy (T.getD k.toNat 0))|v=>v) (j' ?_ (bw hT rfl)) rfl (by rw[Y4,jaj];exact bw hT rfl) (λv hv=>?_) (λv hv Y=>?_)).trans ?_
   ·exact dK (vs:=[.str T]) rfl (by show(if T.length<=100000 then _ else _)=_;rw[if_pos (bw hT rfl)])
   ·refine au (Zq.mp hv) ?_;rintro k hk rfl;have hk:=ZM.mp hk;refine kS (cK (x:=.bool (dz (T.getD k 0:Nat))) (y:=.bool false) (fX (l:=T.map λ(c:Nat)=>AV.bool (dz c)) (k:=k) (ag rfl) (ag rfl) (by rw[ZR,qt k hk];rfl) (by rw[Y4];exact bw hT rfl)) rfl ?_);have hb:∀b:Bool,some (b==false)=some (!b):=λb=>by cases b<;>rfl
    exact hb _
   ·refine au (Zq.mp hv) ?_;rintro k hk rfl;have hk:=ZM.mp hk;exact cL (vs:=[.str [T.getD k 0]]) (cT (Di (l:=T) (k:=k) (ag rfl) (ag rfl) (qt k hk) (bw hT rfl))) rfl N0
   ·unfold aq;rw[jch,ZN,ZN];rfl
  refine dK (dL mN hc) ?_;show(match ip _ with|some xs=>_|none=>_)=_;rw[H0];simp only[];rw[if_pos (bw hC rfl),xH]
 refine aT plain ?_;have U6:ev (Fi (N+1)) [] [some (.str T),some (.lst (T.map λ(c:Nat)=>.bool (dz c))),some (.str (fW T)),none,none] (.comp 1 (.cons 5 (.val (.var 1)) (.cons (.and (.cons (.cmp .IsNot (.var 5) (.c (.bool true))) (.cons (.cmp .IsNot (.var 5) (.c (.bool false))) .nil))) .nil) (.done (.var 5))))=some (.lst []):=by
  refine(nZ (x:=5) (vs:=T.map λ(c:Nat)=>.bool (dz c)) (p:=λv=>false) (g:=id) rfl rfl (by rw[Y4];exact bw hT rfl) (λv hv=>?_) (λv hv h=>by cases h)).trans ?_
  ·refine au (Zq.mp hv) ?_;rintro c hc rfl;refine kS ((M1 (x:=!(dz c==true)) (y:=!(dz c==false)) rfl rfl).trans ?_);cases dz c<;>rfl
  ·simp
 refine sr (Wu U6) ?_;refine aX (Hz (Φ:=Fi (N+1)) (a:=some (.str T)) (b:=some (.lst (T.map λ(c:Nat)=>.bool (dz c)))) (items hs) [] none 100 (Et hs) (by have:=tn hs;lia) (by have:=tn hs;simp;exact bw this rfl) (by rw[Ah,EE,<-xH];exact hC)) λu' hw=>?_;rw[Ah,EE]at hw;refine Nv hw ?_;refine dX (v:=.lst (aq (dA hs))) ?_ ?_
 ·have:dE [.list (aq ((items hs).map (·.2)))] .Add (.ref 0) (.lst [.int 0])=some (.lst (aq (dA hs))):=by
   show(if(aq ((items hs).map (·.2))).length+1<=100000 then some (AV.lst (aq ((items hs).map (·.2))++[.int 0]))else none)=_;have:=tn hs;rw[if_pos (by rw[Y4,Y4];lia),<-Gl];unfold aq;rw[ZW];rfl
  exact cb (x:=.ref 0) (y:=.lst [.int 0]) rfl rfl this
 ·show(bj _ _).map AV.lst=_;have h:=qh 4 [.list ([]++aq ((items hs).map (·.2)))] (dA hs);exact(congrArg (jad AV.lst) h).trans rfl
theorem tx:∀(n:Nat) (l:List Nat),l.Nodup->(∀x∈l,x<n)->l.length<=n
 |0,[],_,_=>by simp
 |0,a::l,_,h=>by have:=h a (by simp);lia
 |n+1,l,hd,h=>by
  have h1:=tx n (l.erase n) (hd.erase n) (λx hx=>by
   rw[hd.mem_erase_iff]at hx;have:=h x hx.2;have:=hx.1
   lia)
  have:=List.length_erase (a:=n) (l:=l);split at this<;>lia
abbrev bB(l:List Int):List AV:=l.map AV.int
def nv:List AV:=[.ref 1,.ref 2,.ref 3,.ref 4,.ref 5]
def cp(nm:List Int)(ne:List (List Nat)):aA:=.list (bB nm)::(ne.map (λl=>AO.list (aq l))++[.list nv])
theorem wx(h:ne.length=5)(hp:p<5):(cp nm ne)[p+1]?=some (.list (aq (ne.getD p []))):=by
 unfold cp;rw[jev,Zx (by rw[Y4];simp[*]),ZR,Zb,Zg (by simp[*])];rfl
theorem HV(h:ne.length=5)(hp:p<5):(cp nm ne).set (p+1) (.list (aq l))=cp nm (ne.set p l):=by
 unfold cp;rw[List.set_cons_succ,jcf,if_pos (by rw[Y4];simp[*]),List.map_set]
theorem Bd(h:ne.length=5):(cp nm ne)[6]?=some (.list nv):=by
 unfold cp;rw[jev,Zk (by rw[Y4];exact ZP h),Y4,h];rfl
def ge:Option Nat->Int
 |none=>-1
 |some k=>k
structure eW(nm:List Int) (ne:List (List Nat)) (pv:Option Nat):Prop where
 nm1:∀x∈nm,256<=x/\x<261
 nd:nm.Nodup
 len:ne.length=5
 pv:∀p,pv=some p->p<nm.length
 sym:∀i,∀j∈ne.getD i [],j<nm.length/\i<nm.length/\j≠i/\i∈ne.getD j []
 ndp:∀i,(ne.getD i []).Nodup
theorem eW.le{pv:Option Nat}(h:eW nm ne pv):nm.length<=5:=by
 have:=tx 5 (nm.map λx=>(x-256).toNat) (by
  have:=h.nd;unfold List.Nodup at this ⊢;rw[List.pairwise_map];refine this.imp_of_mem λ{a b} ha hb hab e=>hab ?_;exact(Int.sub_left_inj 256).mp ((jbW (jdy (h.nm1 a ha).1)).symm.trans ((congrArg Z9 e).trans (jbW (jdy (h.nm1 b hb).1))))) (λx hx=>by
   refine au (Zq.mp hx) ?_;rintro y hy rfl;have:=h.nm1 y hy;omega)
 rwa [Y4]at this
theorem eW.le2{pv:Option Nat}(h:eW nm ne pv)(i:Nat):(ne.getD i []).length<=5 :=
 tx 5 _ (h.ndp i) (λj hj=>by have:=(h.sym i j hj).1;have:=h.le;lia)
theorem yV{α:Type}(l:List α)(i j:Nat)(a d:α):(l.set i a).getD j d=if i=j/\i<l.length then a else l.getD j d:=by
 refine aa Zb ?_;refine aa jbt ?_;refine aa Zb ?_;by_cases h:i=j
 ·subst h;by_cases h2:i<l.length
  ·simp[h2]
  ·simp[h2,jcm (jjb h2)]
 ·simp[h]
theorem eW.wire{pv:Option Nat}(h:eW nm ne pv)(hp:p<nm.length)(hk:k<nm.length)(zH:k≠p)(hn:k∉ne.getD p []):
 eW nm ((ne.set p (ne.getD p []++[k])).set k (ne.getD k []++[p])) pv:=by
 have aU:=h.le;have aN:=h.len;have Qu:p<ne.length:=by lia
 have P7:k<ne.length:=by lia
 have vH:p∉ne.getD k []:=λhc=>hn (h.sym k p hc).2.2.2;have e:∀i,((ne.set p (ne.getD p []++[k])).set k (ne.getD k []++[p])).getD i []=if i=k then ne.getD k []++[p]else if i=p then ne.getD p []++[k]else ne.getD i []:=λi=>by
  rw[yV,yV,jbP];by_cases h1:i=k
  ·rw[if_pos ⟨h1.symm,P7⟩,if_pos h1]
  ·rw[if_neg (λc=>h1 c.1.symm),if_neg h1];by_cases h2:i=p
   ·rw[if_pos ⟨h2.symm,Qu⟩,if_pos h2]
   ·rw[if_neg (λc=>h2 c.1.symm),if_neg h2]
 have hm:∀i j,j∈ne.getD i []->j∈((ne.set p (ne.getD p []++[k])).set k (ne.getD k []++[p])).getD i []:=λi j hj=>by
  rw[e];by_cases h1:i=k
  ·rw[if_pos h1,ZI];left;rw[<-h1];exact hj
  ·rw[if_neg h1];by_cases h2:i=p
   ·rw[if_pos h2,ZI];left;rw[<-h2];exact hj
   ·rw[if_neg h2];exact hj
 refine⟨h.nm1,h.nd,by rw[jbP,jbP];exact aN,h.pv,?_,?_⟩
 ·intro i j hj;rw[e]at hj;by_cases h1:i=k
  ·rw[if_pos h1,ZI,Zu]at hj;rcases hj with hj|rfl
   ·have:=h.sym k j hj;subst h1;exact li this.1 this.2.1 this.2.2.1 (hm _ _ this.2.2.2)
   ·subst h1;refine li hp hk (λc=>zH c.symm) ?_;rw[e,if_neg (λc=>zH c.symm),if_pos rfl];simp
  ·rw[if_neg h1]at hj;by_cases h2:i=p
   ·rw[if_pos h2,ZI,Zu]at hj;rcases hj with hj|rfl
    ·have:=h.sym p j hj;subst h2;exact li this.1 this.2.1 this.2.2.1 (hm _ _ this.2.2.2)
    ·subst h2;refine li hk hp zH ?_;rw[e,if_pos rfl];simp
   ·rw[if_neg h2]at hj;have:=h.sym i j hj;exact li this.1 this.2.1 this.2.2.1 (hm _ _ this.2.2.2)
 ·intro i;have vg:∀(l:List Nat) (x:Nat),l.Nodup->x∉l->(l++[x]).Nodup:=λl x hl hx=>by
   rw[jbs];refine cz hl (by simp) (λa ha b hb=>?_);rw[Zu]at hb;rintro rfl;exact hx (hb▸ha)
  rw[e];split
  ·exact vg _ _ (h.ndp k) vH
  ·split
   ·exact vg _ _ (h.ndp p) hn
   ·exact h.ndp i
theorem eW.pv'{pv pv':Option Nat}(h:eW nm ne pv)(h2:∀p,pv'=some p->p<nm.length):eW nm ne pv' :=
 ⟨h.nm1,h.nd,h.len,h2,h.sym,h.ndp⟩
theorem eW.name{pv:Option Nat}(h:eW nm ne pv)(hx:256<=x/\x<261)(hn:x∉nm):eW (nm++[x]) ne pv:=by
 refine⟨λy hy=>?_,?_,h.len,λp hp=>?_,λi j hj=>?_,h.ndp⟩
 ·rw[ZI,Zu]at hy;rcases hy with hy|rfl
  ·exact h.nm1 y hy
  ·exact hx
 ·rw[jbs];refine cz h.nd (by simp) (λa ha b hb=>?_);rw[Zu]at hb;rintro rfl;exact hn (hb▸ha)
 ·have:=h.pv p hp;refine aa Ze ?_;exact jcJ this
 ·have:=h.sym i j hj;refine aa Ze ?_;exact cz (by lia) (by lia) this.2.2
section
theorem iE(h:ev Φ σ ρ a=some (.bool true))(h2:cS Φ σ ρ es=b):cS Φ σ ρ (.cons a es)=b:=by
 rewrite [kT];refine aa h ?_;exact h2
theorem nV(h:ev Φ σ ρ a=some (.bool false)):cS Φ σ ρ (.cons a es)=some false:=by
 rw[kT,h]
theorem C9:cS Φ σ ρ .nil=some true:=by rw[nW]
theorem kV(h:cS Φ σ ρ es=some b):ev Φ σ ρ (.and es)=some (.bool b):=by
 rw[uW,h];rfl
theorem ye(h1:ev Φ σ ρ a=some (.int x))(h2:ev Φ σ ρ b=some (.int y)):ev Φ σ ρ (.cmp .Gt a b)=some (.bool (decide (y<x))):=cK h1 h2 rfl
theorem yd(h1:ev Φ σ ρ a=some (.int x))(h2:ev Φ σ ρ b=some (.int y)):ev Φ σ ρ (.cmp .GtE a b)=some (.bool (decide (y<=x))):=cK h1 h2 rfl
theorem yg(h1:ev Φ σ ρ a=some (.int x))(h2:ev Φ σ ρ b=some (.int y)):ev Φ σ ρ (.cmp .NotEq a b)=some (.bool (!decide (x=y))):=cK h1 h2 rfl
theorem yi(h1:ev Φ σ ρ a=some (.int x))(h2:ev Φ σ ρ b=some (.ref j))(h3:σ[j]?=some (.list (bB is))):ev Φ σ ρ (.cmp .NotIn a b)=some (.bool (!decide (x∈is))):=by
 refine cK h1 h2 ?_;have hl:aQ σ (.ref j)=some (bB is):=Aq h3;show(match aQ σ (.ref j)with|some vs=>(nj x vs).map (!·)|none=>none)=_;refine aa hl ?_;show(nj x (is.map AV.int)).map (!·)=_;unfold nj;refine aa (rK _) ?_;simp only[jip,jdz]
 congr 1
 rw[jaQ,jey,decide_eq_true_iff];constructor
 ·rintro⟨y,hy,e⟩;refine rwj (eq_of_beq e) ?_;exact hy
 ·intro h;exact aO x h (by simp)
theorem uS{a i:Ex}{j k:Nat}{l:List AV}{v:AV}(h1:ev Φ σ ρ a=some (.ref j))(h2:ev Φ σ ρ i=some (.int k))(h3:σ[j]?=some (.list l))(hv:l[k]?=some v)(hn:l.length<=100000):ev Φ σ ρ (.idx a i)=some v:=by
 refine mL h1 h2 ?_;have hl:aQ σ (.ref j)=some l:=Aq h3;show(match aQ σ (.ref j)with|some vs=>(fO (k:Int) vs.length).bind λj=>vs[j]?|none=>_)=_;refine aa hl ?_;simp only[];refine aa (wl (ZE.mp hv).1 hn) ?_;exact hv
theorem M5(h1:ev Φ σ ρ a=some (.ref j))(h2:ev Φ σ ρ i=some (.int x))(h3:σ[j]?=some (.list (bB is)))(hk:is.findIdx? (·==x)=some k)(hn:k<=100000):ev Φ σ ρ (.call .index (.cons a (.cons i .nil)))=some (.int k):=by
 refine dK (dL h1 h2) ?_;have hl:aQ σ (.ref j)=some (bB is):=Aq h3;show nP σ [.ref j,.int x]=_;unfold nP;simp only[hl,rK,hk];rw[if_pos hn]
end
def GU:dw:=match yA.body with | .cons _ (.cons (.for_ _ _ b) _)=>b|_=>.nil
theorem qI(l:List Nat):aq l=bB (l.map Z9):=by
 unfold aq bB;refine aa ZN ?_;rfl
theorem TA(h:eW nm ne pv)(hx:256<=x->x<261):
 ∃dG md pv' k',aE (Fi (N+1)) [some row,some (.ref 0),some (.ref 6),some (.int (ge pv)),some (.int x),k] (cp nm ne) GU=some (.next [some row,some (.ref 0),some (.ref 6),some (.int (ge pv')),some (.int x),k'] (cp dG md))/\eW dG md pv'/\((nm≠[]\/256<=x)->dG≠[]):=by
 have c0:∀{ρ:aB},ρ[4]?=some (some (.int x))->ev (Fi (N+1)) (cp nm ne) ρ (.or (.cons (.cmp .IsNot (.call (.user 10) (.cons (.var 4) .nil)) (.cmp .Lt (.var 4) (.c (.int 256)))) (.cons (.cmp .IsNot (.call (.user 11) (.cons (.var 4) .nil)) (.cmp .Gt (.var 4) (.c (.int 255)))) (.cons (.cmp .IsNot (.call (.user 12) (.cons (.var 4) .nil)) (.cmp .Eq (.var 4) (.c (.int 0)))) .nil))))=some (.bool false):=λ{ρ} h4=>by
  have hb:∀b:Bool,some (!(b==b))=some false:=λb=>by cases b<;>rfl
  refine M' (cK (x:=.bool (decide (x<256))) (y:=.bool (decide (x<256))) (cL (vs:=[.int x]) (cT (ag h4)) rfl NH) (n4 (ag h4) bK) (hb _)) (cK (x:=.bool (decide (256<=x))) (y:=.bool (decide (256<=x))) (cL (vs:=[.int x]) (cT (ag h4)) rfl NI) ?_ (hb _)) (cK (x:=.bool (decide (x=0))) (y:=.bool (decide (x=0))) (cL (vs:=[.int x]) (cT (ag h4)) rfl NJ) (uR (ag h4) bK) (hb _));refine aa (ye (ag h4) (bK (i:=255))) ?_;exact congrArg (λb=>some (AV.bool b)) (decide_eq_decide.mpr (by rfl))
 have aU:=h.le;have g0:(cp nm ne)[0]?=some (.list (bB nm)):=rfl;by_cases qk:256<=x
 ·have gt:∀{ρ:aB}{σ:aA},ρ[4]?=some (some (.int x))->ev (Fi (N+1)) σ ρ (.cmp .Gt (.var 4) (.c (.int 255)))=some (.bool true):=λh4=>by
   refine aa (ye (ag h4) (bK (i:=255))) ?_;refine aa (decide_eq_true (qk)) ?_;rfl
  obtain⟨dG,jh,f8,ji,cM⟩:∃dG,(eW dG ne pv)/\x∈dG/\dG≠[]/\∀{u:Option Fl}{ss:dw},aE (Fi (N+1)) [some row,some (.ref 0),some (.ref 6),some (.int (ge pv)),some (.int x),k] (cp dG ne) ss=u ->
   aE (Fi (N+1)) [some row,some (.ref 0),some (.ref 6),some (.int (ge pv)),some (.int x),k] (cp nm ne) (.cons (.ife (.and (.cons (.cmp .Gt (.var 4) (.c (.int 255))) (.cons (.cmp .NotIn (.var 4) (.var 1)) .nil))) (.cons (.app (.var 1) (.var 4)) .nil) .nil) ss)=u:=by
   by_cases eR:x∈nm
   ·refine vT nm h eR (List.ne_nil_of_mem eR) (λhu=>?_);refine du (kV (iE (gt rfl) (nV ?_))) bG hu;refine aa (yi (ag rfl) (ag rfl) g0) ?_;refine aa (decide_eq_true eR) ?_;rfl
   ·refine vT (nm++[x]) (h.name ⟨qk,hx qk⟩ eR) (by simp) (by simp) (λhu=>?_);refine mQ (an:=cp (nm++[x]) ne) (kV (iE (gt rfl) (iE ?_ C9))) (qc (i:=0) (v:=.int x) (ag rfl) (ag rfl) g0 (by refine aa (Y4 _) ?_;exact bw aU rfl) (λj=>by simp) ?_) hu
    ·refine aa (yi (ag rfl) (ag rfl) g0) ?_;refine aa (decide_eq_false eR) ?_;rfl
    ·refine aa bG ?_;unfold cp bB;refine aa ZW ?_;rfl
  have ON:(cp dG ne)[0]?=some (.list (bB dG)):=rfl;have vB:=jh.le;obtain⟨q,hq⟩:∃q,dG.findIdx? (·==x)=some q:=by
   induction e:dG.findIdx? (·==x)using ae with
   |some q=>exact⟨q,rfl⟩
   |none =>
    rw[jgR]at e;have:=e x f8;simp at this
  have FD:q<dG.length:=by
   have:=List.findIdx?_eq_some_iff_findIdx_eq.mp hq;simp[*]
  have aN:=jh.len;have TO:ev (Fi (N+1)) (cp dG ne) [some row,some (.ref 0),some (.ref 6),some (.int (ge pv)),some (.int x),k] (.ite (.cmp .Gt (.var 4) (.c (.int 255))) (.call .index (.cons (.var 1) (.cons (.var 4) .nil))) (.un .USub (.c (.int 1))))=some (.int q):=
   pV (gt rfl) (M5 (ag rfl) (ag rfl) ON hq (by lia))
  have vb:∀{ρ:aB}{σ:aA},ρ[5]?=some (some (.int q))->ev (Fi (N+1)) σ ρ (.cmp .GtE (.var 5) (.c (.int 0)))=some (.bool true):=λh5=>by
   refine aa (yd (ag h5) (bK (i:=0))) ?_;refine aa (decide_eq_true (Zl q)) ?_;rfl
  obtain⟨md,oA,QN⟩:∃md,eW dG md pv/\∀{u:Option Fl}{ss:dw},aE (Fi (N+1)) [some row,some (.ref 0),some (.ref 6),some (.int (ge pv)),some (.int x),some (.int q)] (cp dG md) ss=u ->
   aE (Fi (N+1)) [some row,some (.ref 0),some (.ref 6),some (.int (ge pv)),some (.int x),some (.int q)] (cp dG ne) (.cons (.ife (.and (.cons (.cmp .GtE (.var 5) (.c (.int 0))) (.cons (.cmp .GtE (.var 3) (.c (.int 0))) (.cons (.cmp .NotEq (.var 5) (.var 3)) (.cons (.cmp .NotIn (.var 5) (.idx (.var 2) (.var 3))) .nil))))) (.cons (.app (.idx (.var 2) (.var 3)) (.var 5)) (.cons (.app (.idx (.var 2) (.var 5)) (.var 3)) .nil)) .nil) ss)=u:=by
   induction hpv:pv using ae with
   |none =>
    refine aO ne (hpv▸jh) (λhu=>du (kV (iE (vb rfl) (nV ?_))) bG hu);exact(yd (x:=-1) (ag rfl) (bK (i:=0))).trans rfl
   |some p =>
    have hp:=jh.pv p hpv;subst hpv;have gp:∀{σ:aA},ev (Fi (N+1)) σ [some row,some (.ref 0),some (.ref 6),some (.int (ge (some p))),some (.int x),some (.int q)] (.cmp .GtE (.var 3) (.c (.int 0)))=some (.bool true):=by
     intro σ;refine(yd (x:=(p:Int)) (ag rfl) (bK (i:=0))).trans ?_;refine aa (decide_eq_true (Zl p)) ?_;rfl
    have QC:nv[p]?=some (.ref (p+1)):=by
     have:p=0\/p=1\/p=2\/p=3\/p=4:=by lia
     rcases this with rfl|rfl|rfl|rfl|rfl<;>rfl
    have QD:nv[q]?=some (.ref (q+1)):=by
     have:q=0\/q=1\/q=2\/q=3\/q=4:=by lia
     rcases this with rfl|rfl|rfl|rfl|rfl<;>rfl
    have FZ:∀{ne2:List (List Nat)},ne2.length=5->ev (Fi (N+1)) (cp dG ne2) [some row,some (.ref 0),some (.ref 6),some (.int (ge (some p))),some (.int x),some (.int q)] (.idx (.var 2) (.var 3))=some (.ref (p+1)):=λh2 =>
     uS (j:=6) (k:=p) (ag rfl) (ag rfl) (Bd h2) QC (by decide)
    have Rw:∀{ne2:List (List Nat)},ne2.length=5->ev (Fi (N+1)) (cp dG ne2) [some row,some (.ref 0),some (.ref 6),some (.int (ge (some p))),some (.int x),some (.int q)] (.idx (.var 2) (.var 5))=some (.ref (q+1)):=λh2 =>
     uS (j:=6) (k:=q) (ag rfl) (ag rfl) (Bd h2) QD (by decide)
    by_cases hqp:q=p
    ·refine aO ne jh (λhu=>du (kV (iE (vb rfl) (iE gp (nV ?_)))) bG hu);refine(yg (x:=q) (y:=p) (ag rfl) (ag rfl)).trans ?_;refine aa (decide_eq_true (by simp[*])) ?_;rfl
    have GY:∀{σ:aA},ev (Fi (N+1)) σ [some row,some (.ref 0),some (.ref 6),some (.int (ge (some p))),some (.int x),some (.int q)] (.cmp .NotEq (.var 5) (.var 3))=some (.bool true):=by
     intro σ;refine(yg (x:=q) (y:=p) (ag rfl) (ag rfl)).trans ?_;refine aa (decide_eq_false (II hqp)) ?_;rfl
    have OX:(cp dG ne)[p+1]?=some (.list (bB ((ne.getD p []).map Z9))):=by
     refine aa (wx aN (bf hp vB)) ?_;refine aa (qI _) ?_;rfl
    have GZ:ev (Fi (N+1)) (cp dG ne) [some row,some (.ref 0),some (.ref 6),some (.int (ge (some p))),some (.int x),some (.int q)] (.cmp .NotIn (.var 5) (.idx (.var 2) (.var 3)))=some (.bool (!decide (q∈ne.getD p []))):=by
     refine(yi (x:=q) (ag rfl) (FZ aN) OX).trans ?_;refine congrArg (λb=>some (AV.bool (!b))) (decide_eq_decide.mpr ?_);rw[Zq];constructor
     ·rintro⟨y,hy,e⟩;have:y=q:=by simp only[Int.ofNat_eq_natCast]at e;lia
      refine rwj this ?_;exact hy
     ·intro hy;exact aO q hy rfl
    by_cases eR:q∈ne.getD p []
    ·refine aO ne jh (λhu=>du (kV (iE (vb rfl) (iE gp (iE GY (nV ?_))))) bG hu);refine aa GZ ?_;refine aa (decide_eq_true eR) ?_;rfl
    ·refine aO ((ne.set p (ne.getD p []++[q])).set q (ne.getD q []++[p])) (jh.wire hp FD hqp eR) (λhu=>?_);refine mQ (an:=cp dG ((ne.set p (ne.getD p []++[q])).set q (ne.getD q []++[p]))) (kV (iE (vb rfl) (iE gp (iE GY (iE ?_ C9))))) ?_ hu
     ·refine aa GZ ?_;refine aa (decide_eq_false eR) ?_;rfl
     have l1:=jh.le2 p;have l2:=jh.le2 q;refine qc (i:=p+1) (v:=.int q) (FZ aN) (ag rfl) (wx aN (bf hp vB)) (by refine aa (Y4 _) ?_;exact bw l1 rfl) (λj=>by simp) ?_;have e1:aq (ne.getD p [])++[AV.int q]=aq (ne.getD p []++[q]):=by unfold aq;refine aa ZW ?_;rfl
     refine aa e1 ?_;refine aa (HV aN (by lia)) ?_;have zv:(ne.set p (ne.getD p []++[q])).length=5:=by refine aa jbP ?_;exact aN
     have e2:(ne.set p (ne.getD p []++[q])).getD q []=ne.getD q []:=by rewrite [yV];refine aa (if_neg (λc=>hqp c.1.symm)) ?_;rfl
     have sg:=wx (nm:=dG) zv (p:=q) (by lia);rw[e2]at sg;refine qc (i:=q+1) (v:=.int p) (Rw zv) (ag rfl) sg (by refine aa (Y4 _) ?_;exact bw l2 rfl) (λj=>by simp) ?_;have e3:aq (ne.getD q [])++[AV.int p]=aq (ne.getD q []++[p]):=by unfold aq;refine aa ZW ?_;rfl
     refine aa e3 ?_;refine aa (HV zv (by lia)) ?_;exact bG
  refine z7 dG md (some q) (some (.int q)) ?_ (oA.pv' (λp hp=>by cases hp;exact FD)) (λY=>ji);refine du (c0 rfl) bG (cM (aT TO (QN (aT (v:=.int q) (ag rfl) bG))))
 ·refine z7 nm ne none (some (.int (-1))) ?_ (h.pv' (λp hp=>by cases hp)) (λhh=>hh.resolve_right qk);have gf:∀{ρ:aB}{σ:aA},ρ[4]?=some (some (.int x))->ev (Fi (N+1)) σ ρ (.cmp .Gt (.var 4) (.c (.int 255)))=some (.bool false):=λh4=>by
   refine aa (ye (ag h4) (bK (i:=255))) ?_;refine aa (decide_eq_false (qk)) ?_;rfl
  refine du (c0 rfl) bG (du (kV (nV (gf rfl))) bG (aT (v:=.int (-1)) (pU (gf rfl) rfl) (du (kV (nV rfl)) bG (aT (v:=.int (-1)) (ag rfl) bG))))
structure iw(ac:List (List Nat)):Prop where
 pos:1<=ac.length
 le:ac.length<=5
 sym:∀i,∀j∈ac.getD i [],j<ac.length/\j≠i/\i∈ac.getD j []
 nd:∀i,(ac.getD i []).Nodup
abbrev b9(ac:List (List Nat)):AV:=.lst (ac.map λl=>.lst (aq l))
theorem yW{α:Type}(l:List α)(n i:Nat)(d:α):(l.take n).getD i d=if i<n then l.getD i d else d:=by
 refine aa Zb ?_;refine aa List.getElem?_take ?_;refine aa Zb ?_;split<;>rfl
theorem eW.graph{pv:Option Nat}(h:eW nm ne pv)(hn:nm≠[]):iw (ne.take nm.length):=by
 have aU:=h.le;have hl:(ne.take nm.length).length=nm.length:=by rw[jbH,h.len];simp[*]
 refine⟨by rw[hl];exact jfj.mpr hn,wL hl aU,λi j hj=>?_,λi=>?_⟩
 ·rw[yW]at hj;split at hj
  ·have:=h.sym i j hj;rw[hl,yW,if_pos this.1];exact⟨this.1,this.2.2⟩
  ·cases hj
 ·rw[yW];split
  ·exact h.ndp i
  ·exact jaW
theorem oL{α β:Type}{f:α->Option β}{g:α->β}:∀l:List α,(∀a∈l,f a=some (g a))->bj f l=some (l.map g)
 | [],_=>rfl
 |a::l,h=>by
  rw[gO,h a (by simp)];simp only[oL (f:=f) (g:=g) l (λb hb=>h b (by simp[hb]))];rfl
theorem Tz{nm:List Int}{ne:List (List Nat)}(h:ne.length=5)(n:Nat)(k:Nat):aZ (cp nm ne) (k+3) (.lst (nv.take n))=some (b9 (ne.take n)):=by
 have hf:∀p,p<5->aZ (cp nm ne) (k+2) (.ref (p+1))=some (.lst (aq (ne.getD p []))):=λp hp=>by
  rw[yR,wx h hp];show(bj _ _).map AV.lst=_;rw[qh k];rfl
 obtain⟨a,b,c,d,e,rfl⟩:∃a b c d e,ne=[a,b,c,d,e]:=by
  refine dW (jaH h) ?_;rintro a l rfl;refine dW (jaH (Z8 h)) ?_;rintro b l rfl;refine dW (jaH (Z8 (Z8 h))) ?_;rintro c l rfl;refine dW (jaH (Z8 (Z8 (Z8 h)))) ?_;rintro d l rfl;refine dW (jaH (Z8 (Z8 (Z8 (Z8 h))))) ?_;rintro e l rfl;have:=Z7.mp (Z8 (Z8 (Z8 (Z8 (Z8 h)))));subst this;exact z9 a b c d e rfl
 have h0:=hf 0 (by decide);have h1:=hf 1 (by decide);have h2:=hf 2 (by decide);have h3:=hf 3 (by decide);have h4:=hf 4 (by decide);have gx:bj (aZ (cp nm [a,b,c,d,e]) (k+2)) (nv.take n)=some (([a,b,c,d,e].take n).map λl=>.lst (aq l)):=by
  have e5:nv=(Za 5).map λp=>AV.ref (p+1):=rfl;have e6:[a,b,c,d,e]=(Za 5).map λp=>[a,b,c,d,e].getD p []:=rfl;have:=oL (f:=λp=>aZ (cp nm [a,b,c,d,e]) (k+2) (.ref (p+1))) (g:=λp=>AV.lst (aq ([a,b,c,d,e].getD p []))) ((Za 5).take n) (λp hp=>hf p (ZM.mp (jeT hp)));have hm:∀{α β γ:Type} (f:β->Option γ) (g:α->β) (l:List α),bj f (l.map g)=bj (λa=>f (g a)) l:=λf g l=>by
   induction l with
   |nil=>rfl
   |cons a l ih=>rw[ZG,gO,gO,ih]
  rw[e5,<-jhb,hm,this]
  conv=>rhs;rw[e6,<-jhb,ZN]
  rfl
 rw[OI,gx];rfl
theorem M6(h1:ev Φ σ ρ a=some (.ref j))(h3:σ[j]?=some (.list l))(hl:l.length<=100000):ev Φ σ ρ (.call .len (.cons a .nil))=some (.int (l.length:Nat)):=by
 refine dK (cT h1) ?_;show rU σ [.ref j]=_;unfold rU;simp only[aQ,h3,fL];rw[if_pos hl]
theorem NN(xs:List Int)(hx:∀x∈xs,256<=x->x<261)(he:∃x∈xs,256<=x):∃ac,iw ac/\Fi (N+2) 16 [.lst (bB xs)]=some (b9 ac):=by
 have h0:eW [] [[],[],[],[],[]] none:=by
  have e:∀i,([[],[],[],[],[]]:List (List Nat)).getD i []=[]:=λi=>by
   refine aa Zb ?_;by_cases h:i<5
   ·have:i=0\/i=1\/i=2\/i=3\/i=4:=X1 h;rcases this with rfl|rfl|rfl|rfl|rfl<;>rfl
   ·refine aa (jcm (by simp;exact rd h)) ?_;rfl
  refine⟨by simp,jaW,rfl,λp hp=>by(cases hp),λi j hj=>?_,λi=>?_⟩
  ·rw[e]at hj;cases hj
  ·refine aa (e _) ?_;exact jaW
 obtain⟨av,an,hf,nm,ne,pv,x4,k,rfl,rfl,bY,cV⟩:=sC (f:=λρ σ v=>aE (Fi (N+1)) (ρ.set 4 (some v)) σ GU) (g:=AV.int)
  (I:=λpre ρ σ=>∃nm ne pv x4 k,ρ=[some (.lst (bB xs)),some (.ref 0),some (.ref 6),some (.int (ge pv)),x4,k]/\σ=cp nm ne/\eW nm ne pv/\((∃x∈pre,256<=x)->nm≠[])) xs [] [some (.lst (bB xs)),some (.ref 0),some (.ref 6),some (.int (-1)),none,none] (cp [] [[],[],[],[],[]])
  ⟨[],_,none,none,none,rfl,rfl,h0,by simp⟩ (by
   rintro p x q ρ σ e ⟨nm,ne,pv,x4,k,rfl,rfl,bY,cV⟩;have Q8:x∈xs:=by
    have e:xs=p++x::q:=e;refine aa e ?_;simp
   refine kg (TA (N:=N) (row:=.lst (bB xs)) (k:=k) bY (hx x Q8)) λdG md pv' k' h1 h2 h3=>?_;refine⟨_,_,h1,dG,md,pv',_,k',rfl,rfl,h2,?_⟩;rintro⟨y,hy,FS⟩;rw[ZI,Zu]at hy;rcases hy with hy|rfl
   ·exact h3 (jcy (cV ⟨y,hy,FS⟩))
   ·exact h3 (jfC FS))
 refine aO (ne.take nm.length) (bY.graph (cV he)) (fB Oo rfl ?_);show aE (Fi (N+1)) ([some (.lst (bB xs))]++Zm 5 none) [] yA.body=_;refine mP (vs:=[.ref 0,.ref 6,.int (-1)]) (an:=cp [] [[],[],[],[],[]]) (x7 (an:=[.list []]) rfl (x7 (an:=cp [] [[],[],[],[],[]]) rfl (gI rfl mK))) rfl ?_;refine kY (vs:=bB xs) rfl hf ?_;have hl:ev (Fi (N+1)) (cp nm ne) [some (.lst (bB xs)),some (.ref 0),some (.ref 6),some (.int (ge pv)),x4,k] (.call .len (.cons (.var 1) .nil))=some (.int (nm.length:Nat)):=by
  have:=M6 (Φ:=Fi (N+1)) (σ:=cp nm ne) (ρ:=[some (.lst (bB xs)),some (.ref 0),some (.ref 6),some (.int (ge pv)),x4,k]) (a:=.var 1) (j:=0) (l:=bB nm) (ag rfl) rfl (by refine aa (Y4 _) ?_;have:=bY.le;exact bw this rfl)
  rwa [Y4]at this
 refine dX (v:=.lst (nv.take nm.length)) ?_ (Tz bY.len nm.length 3);have hn:fG (Fi (N+1)) (cp nm ne) [some (.lst (bB xs)),some (.ref 0),some (.ref 6),some (.int (ge pv)),x4,k] .none=some none:=rfl;have hs:fG (Fi (N+1)) (cp nm ne) [some (.lst (bB xs)),some (.ref 0),some (.ref 6),some (.int (ge pv)),x4,k] (.some (.call .len (.cons (.var 1) .nil)))=some (some (nm.length:Int)):=by rw[pR,hl]
 rw[pY];have hv:ev (Fi (N+1)) (cp nm ne) [some (.lst (bB xs)),some (.ref 0),some (.ref 6),some (.int (ge pv)),x4,k] (.var 2)=some (.ref 6):=ag rfl;simp only[hv,hn,hs];unfold qS;dsimp only;refine aa (if_pos (Zl nm.length)) ?_;unfold me;simp only[aQ,Bd bY.len,ZF];refine aa (if_pos (by decide)) ?_;rfl
abbrev F:=UInt64
def nn(x y z:F):F:=(if gK z (if gK y x then y else x)then z else(if gK y x then y else x))
def nk(x y z:F):F:=(if gL z (if gL y x then y else x)then z else(if gL y x then y else x))
def bO(x y:F):Bool:=jag x y==some .eq
def u7(x y:F):Bool:=jag x y==some .lt||jag x y==some .eq
def two:F:=4611686018427387904
def Ed:F:=4616189618054758400
def lz:F:=4618441417868443648
def one:F:=4607182418800017408
def sM:F:=4602678819172646912
def qN(r g mx rc gc bc:F):F:=if bO r mx then ZJ bc gc else if bO g mx then ZJ (jab two rc) bc else ZJ (jab Ed gc) rc
def s0(h:F):F:=(jdH (jaf h lz) one).2
def vL(r g b mx d:F):F:=s0 (qN r g mx (jaf (ZJ mx r) d) (jaf (ZJ mx g) d) (jaf (ZJ mx b) d))
section
theorem jD(h1:ev Φ σ ρ a=some (.flt x))(h2:ev Φ σ ρ b=some (.flt y))(hz:jaa y=false):ev Φ σ ρ (.bin .Div a b)=some (.flt (jaf x y)):=by
 refine cb h1 h2 ?_;show(if jaa y=true then none else some (AV.flt (jaf x y)))=_;rw[if_neg (by rw[hz];decide)]
theorem M7(h1:ev Φ σ ρ a=some (.flt x))(h2:ev Φ σ ρ b=some (.flt y))(hz:jaa y=false):ev Φ σ ρ (.bin .Mod a b)=some (.flt (jdH x y).2):=by
 refine cb h1 h2 ?_;show(if jaa y=true then none else some (AV.flt (jdH x y).2))=_;rw[if_neg (by rw[hz];decide)]
theorem g9(h1:ev Φ σ ρ a=some (.flt x))(h2:ev Φ σ ρ b=some (.flt y)):ev Φ σ ρ (.bin .Sub a b)=some (.flt (ZJ x y)):=cb h1 h2 rfl
theorem x8(h1:ev Φ σ ρ a=some (.flt x))(h2:ev Φ σ ρ b=some (.flt y)):ev Φ σ ρ (.bin .Add a b)=some (.flt (jab x y)):=cb h1 h2 rfl
theorem n5(h1:ev Φ σ ρ a=some (.flt x))(h2:ev Φ σ ρ b=some (.flt y)):ev Φ σ ρ (.bin .Mult a b)=some (.flt (jaJ x y)):=cb h1 h2 rfl
theorem gu:ev Φ σ ρ (.c (.float x))=some (.flt x):=by rw[Dt];rfl
theorem ka(h1:ev Φ σ ρ a=some (.flt x))(h2:ev Φ σ ρ b=some (.flt y))(hx:bO x x=true):ev Φ σ ρ (.cmp .Eq a b)=some (.bool (bO x y)):=by
 refine cK h1 h2 ?_;show(if(jag x x==some .eq)=true then some (jag x y==some .eq)else none)=_;exact if_pos hx
theorem Do(h1:ev Φ σ ρ a=some (.flt x))(h2:ev Φ σ ρ b=some (.flt y)):ev Φ σ ρ (.cmp .LtE a b)=some (.bool (u7 x y)):=cK h1 h2 rfl
end
theorem IG:jaa two=false:=by decide +kernel
theorem XV:jaa lz=false:=by decide +kernel
theorem XU:jaa one=false:=by decide +kernel
theorem FQ(hr:bO r r=true)(hg:bO g g=true)(hx:pre.length=x)(h1:pre[iR]?=some (some (.flt r)))(h2:pre[iG]?=some (some (.flt g)))(h3:pre[iM]?=some (some (.flt mx)))(h4:pre[ia]?=some (some (.flt rc)))(h5:pre[ib]?=some (some (.flt gc)))(h6:pre[ic]?=some (some (.flt bc)))(hu:aE Φ (pre++[some (.flt (s0 (qN r g mx rc gc bc)))]) [] ss=u):
 aE Φ (pre++[v0]) [] (.cons (.ife (.cmp .Eq (.var iR) (.var iM))
 (.cons (.asg x false (.bin .Sub (.var ic) (.var ib)))
 .nil)
 (.cons (.ife (.cmp .Eq (.var iG) (.var iM))
  (.cons (.asg x false (.bin .Sub (.bin .Add (.c (.float 4611686018427387904)) (.var ia)) (.var ic)))
  .nil)
  (.cons (.asg x false (.bin .Sub (.bin .Add (.c (.float 4616189618054758400)) (.var ib)) (.var ia)))
  .nil))
 .nil))
 (.cons (.asg x false (.bin .Mod (.bin .Div (.var x) (.c (.float 4618441417868443648))) (.c (.float 4607182418800017408)))) ss))=u:=by
 have gt:∀{i:Nat}{w:Option AV}{a:AV},pre[i]?=some (some a)->(pre++[w])[i]?=some (some a):=λ{i w a} h=>by
  refine aa (Zx (ZE.mp h).1) ?_;exact h
 have st:∀{w w':Option AV},(pre++[w]).set x w'=pre++[w']:=λ{w w'}=>by
  refine rwj hx ?_;refine aa jcf ?_;refine aa (if_neg (Zv pre.length)) ?_;refine aa (jaE _) ?_;rfl
 have lq:∀{h:F},aE Φ (pre++[some (.flt (s0 h))]) [] ss=u->aE Φ (pre++[some (.flt h)]) [] (.cons (.asg x false (.bin .Mod (.bin .Div (.var x) (.c (.float 4618441417868443648))) (.c (.float 4607182418800017408)))) ss)=u:=λ{h} hh=>by
  refine aT (v:=.flt (s0 h)) (M7 (jD (ag ?_) gu XV) gu XU) (by refine aa st ?_;exact hh);refine aa (Zk (ZP hx)) ?_;refine rwj hx ?_;refine aa (jaE _) ?_;rfl
 by_cases c1:bO r mx=true
 ·refine mQ (av:=pre++[some (.flt (ZJ bc gc))]) (an:=[]) ((ka (ag (gt h1)) (ag (gt h3)) hr).trans (by refine aa c1 ?_;rfl)) (aT (g9 (ag (gt h6)) (ag (gt h5))) (by refine aa st ?_;exact bG)) (lq ?_);refine rwj hu ?_;unfold qN;refine aa (if_pos c1) ?_;rfl
 ·have Cf:bO r mx=false:=by simpa using c1
  by_cases c2:bO g mx=true
  ·refine du (av:=pre++[some (.flt (ZJ (jab two rc) bc))]) (an:=[]) ((ka (ag (gt h1)) (ag (gt h3)) hr).trans (by refine aa Cf ?_;rfl)) (mQ ((ka (ag (gt h2)) (ag (gt h3)) hg).trans (by refine aa c2 ?_;rfl)) (aT (g9 (x8 gu (ag (gt h4))) (ag (gt h6))) (by refine aa st ?_;exact bG)) bG) (lq ?_);refine rwj hu ?_;unfold qN;refine aa (if_neg c1) ?_;refine aa (if_pos c2) ?_;rfl
  ·have Kd:bO g mx=false:=by simpa using c2
   refine du (av:=pre++[some (.flt (ZJ (jab Ed gc) rc))]) (an:=[]) ((ka (ag (gt h1)) (ag (gt h3)) hr).trans (by refine aa Cf ?_;rfl)) (du ((ka (ag (gt h2)) (ag (gt h3)) hg).trans (by refine aa Kd ?_;rfl)) (aT (g9 (x8 gu (ag (gt h5))) (ag (gt h4))) (by refine aa st ?_;exact bG)) bG) (lq ?_);refine rwj hu ?_;unfold qN;refine aa (if_neg c1) ?_;refine aa (if_neg c2) ?_;rfl
structure wP(r g b mx mn d:F):Prop where
 emx:nn r g b=mx
 emn:nk r g b=mn
 ed:ZJ mx mn=d
 hr:bO r r=true
 hg:bO g g=true
 m:bO mn mn=true
 ne:bO mn mx=false
 zd:jaa d=false
 zm:jaa mx=false
theorem NV(c:wP r g b mx mn d):Fi (N+1) 6 [.flt r,.flt g,.flt b]=some (.tup [.flt (vL r g b mx d),.flt (jaf d mx),.flt mx]):=by
 refine fB D7 rfl ?_;show aE (Fi N) ([some (.flt r),some (.flt g),some (.flt b)]++Zm 9 none) [] f6.body=_;refine aT (v:=.flt mx) (c.emx▸rfl) (aT (v:=.flt mn) (c.emn▸rfl) (aT (v:=.flt d) (c.ed▸rfl) (aT (v:=.flt mx) (ag rfl) ?_)));refine du ((ka (ag rfl) (ag rfl) c.m).trans (by rw[c.ne])) bG ?_;refine aT (jD (ag rfl) (ag rfl) c.zm) (aT (jD (g9 (ag rfl) (ag rfl)) (ag rfl) c.zd) (aT (jD (g9 (ag rfl) (ag rfl)) (ag rfl) c.zd) (aT (jD (g9 (ag rfl) (ag rfl)) (ag rfl) c.zd) ?_)));refine FQ (pre:=[some (.flt r),some (.flt g),some (.flt b),some (.flt mx),some (.flt mn),some (.flt d),some (.flt mx),some (.flt (jaf d mx)),some (.flt (jaf (ZJ mx r) d)),some (.flt (jaf (ZJ mx g) d)),some (.flt (jaf (ZJ mx b) d))]) c.hr c.hg rfl rfl rfl rfl rfl rfl rfl ?_;exact dX rfl rfl
def iT(mx mn:F):F:=jaf (jab mx mn) two
def qQ(mx mn d:F):F:=if u7 (iT mx mn) sM then jaf d (jab mx mn)else jaf d (ZJ (ZJ two mx) mn)
theorem NT(c:wP r g b mx mn d)(z1:jaa (jab mx mn)=false)(z2:jaa (ZJ (ZJ two mx) mn)=false):
 Fi (N+1) 5 [.flt r,.flt g,.flt b]=some (.tup [.flt (vL r g b mx d),.flt (iT mx mn),.flt (qQ mx mn d)]):=by
 refine fB D6 rfl ?_;show aE (Fi N) ([some (.flt r),some (.flt g),some (.flt b)]++Zm 10 none) [] f5.body=_;refine aT (v:=.flt mx) (c.emx▸rfl) (aT (v:=.flt mn) (c.emn▸rfl) (aT (v:=.flt (jab mx mn)) rfl (aT (v:=.flt d) (c.ed▸rfl) (aT (v:=.flt (iT mx mn)) (jD (ag rfl) gu IG) ?_))));refine du ((ka (ag rfl) (ag rfl) c.m).trans (by refine aa c.ne ?_;rfl)) bG ?_;have hs:∀{ss:dw}{u:Option Fl}{w1 w2 w3 w4 w5:Option AV},aE (Fi N) [some (.flt r),some (.flt g),some (.flt b),some (.flt mx),some (.flt mn),some (.flt (jab mx mn)),some (.flt d),some (.flt (iT mx mn)),some (.flt (qQ mx mn d)),w2,w3,w4,w5] [] ss=u ->
  aE (Fi N) [some (.flt r),some (.flt g),some (.flt b),some (.flt mx),some (.flt mn),some (.flt (jab mx mn)),some (.flt d),some (.flt (iT mx mn)),w1,w2,w3,w4,w5] [] (.cons (.ife (.cmp .LtE (.var 7) (.c (.float 4602678819172646912)))
  (.cons (.asg 8 false (.bin .Div (.var 6) (.var 5)))
  .nil)
  (.cons (.asg 8 false (.bin .Div (.var 6) (.bin .Sub (.bin .Sub (.c (.float 4611686018427387904)) (.var 3)) (.var 4))))
  .nil)) ss)=u:=by
  intro ss u w1 w2 w3 w4 w5 hu;by_cases h:u7 (iT mx mn) sM=true
  ·refine mQ ((Do (x:=iT mx mn) (y:=sM) (ag rfl) gu).trans (by refine aa h ?_;rfl)) (aT (jD (ag rfl) (ag rfl) z1) bG) ?_;refine rwj hu ?_;unfold qQ;refine aa (if_pos h) ?_;rfl
  ·have h':u7 (iT mx mn) sM=false:=by simpa using h
   refine du ((Do (x:=iT mx mn) (y:=sM) (ag rfl) gu).trans (by refine aa h' ?_;rfl)) (aT (jD (ag rfl) (g9 (g9 gu (ag rfl)) (ag rfl)) z2) bG) ?_;refine rwj hu ?_;unfold qQ;refine aa (if_neg h) ?_;rfl
 refine hs ?_;refine aT (jD (g9 (ag rfl) (ag rfl)) (ag rfl) c.zd) (aT (jD (g9 (ag rfl) (ag rfl)) (ag rfl) c.zd) (aT (jD (g9 (ag rfl) (ag rfl)) (ag rfl) c.zd) ?_));refine FQ (pre:=[some (.flt r),some (.flt g),some (.flt b),some (.flt mx),some (.flt mn),some (.flt (jab mx mn)),some (.flt d),some (.flt (iT mx mn)),some (.flt (qQ mx mn d)),some (.flt (jaf (ZJ mx r) d)),some (.flt (jaf (ZJ mx g) d)),some (.flt (jaf (ZJ mx b) d))]) c.hr c.hg rfl rfl rfl rfl rfl rfl rfl ?_;exact dX rfl rfl
def ti(x:F):Option Int:=match jct x with
 | .fin jT m e=>some (jez jT m e)
 |_=>none
def A6(i:Nat)(v p q t:F):F×F×F:=if i=0 then(v,t,p)else if i=1 then(q,v,p)else if i=2 then(p,v,t)else if i=3 then(p,q,v)else if i=4 then(t,p,v)else(v,p,q)
def pF(s v:F):F:=jaJ v (ZJ one s)
def qF(s v f:F):F:=jaJ v (ZJ one (jaJ s f))
def tF(s v f:F):F:=jaJ v (ZJ one (jaJ s (ZJ one f)))
def Vs(x:F×F×F):AV:=.tup [.flt x.1,.flt x.2.1,.flt x.2.2]
def BB:F:=0
theorem NX{N:Nat}{h s v f:F}{i:Nat}(hs:bO s s=true)(hz:bO s BB=false)(hi:ti (jaJ h lz)=some (i:Int))(P1:i<1000)(hf:ZJ (jaJ h lz) (jaV (i:Int))=f):
 Fi (N+1) 7 [.flt h,.flt s,.flt v]=some (Vs (A6 (i%6) v (pF s v) (qF s v f) (tF s v f))):=by
 refine fB D8 rfl ?_;show aE (Fi N) ([some (.flt h),some (.flt s),some (.flt v)]++Zm 5 none) [] f7.body=_;refine du ((ka (y:=BB) (ag rfl) gu hs).trans (by rw[hz])) bG ?_;refine aT (v:=.int i) (dK (cT (n5 (ag rfl) gu)) ?_) ?_
 ·show rT [.flt (jaJ h lz)]=_;unfold rT;unfold ti at hi;cases hD:jct (jaJ h lz)with
  |fin jT m e =>
   rw[hD]at hi;simp only[jdz]at hi;simp only[hD,hi]
  |nan=>rw[hD]at hi;cases hi
  |inf s=>rw[hD]at hi;cases hi
 refine aT (v:=.flt f) (cb (n5 (ag rfl) gu) (ag rfl) ?_) ?_
 ·have y0:hJ (i:Int)=true:=by
   unfold hJ;rw[ZV];exact decide_eq_true (bw P1 rfl)
  show(if hJ (i:Int)=true then some (AV.flt (ZJ (jaJ h lz) (jaV (i:Int))))else none)=_;rw[if_pos y0,hf]
 refine aT (v:=.flt (pF s v)) (n5 (ag rfl) (g9 gu (ag rfl))) ?_;refine aT (v:=.flt (qF s v f)) (n5 (ag rfl) (g9 gu (n5 (ag rfl) (ag rfl)))) ?_;refine aT (v:=.flt (tF s v f)) (n5 (ag rfl) (g9 gu (n5 (ag rfl) (g9 gu (ag rfl))))) ?_;refine aT (v:=.int ((i%6:Nat):Int)) (dV (y:=6) (ag rfl) aR (by decide)) ?_;have hj:i%6<6:=ZU _ (by decide);generalize i%6=j at *;have no:∀{c:Nat}{σ:aA}{ρ:aB},ρ[3]?=some (some (.int (j:Int)))->j≠c->ev (Fi N) σ ρ (.cmp .Eq (.var 3) (.c (.int (c:Int))))=some (.bool false):=λh3 hc=>(pT (ag h3) aR).trans (by rw[decide_eq_false hc]);have q6:∀{c:Nat}{σ:aA}{ρ:aB},ρ[3]?=some (some (.int (j:Int)))->j=c->ev (Fi N) σ ρ (.cmp .Eq (.var 3) (.c (.int (c:Int))))=some (.bool true):=λh3 hc=>(pT (ag h3) aR).trans (by rw[decide_eq_true hc]);by_cases c0:j=0
 ·refine(jG (q6 (c:=0) rfl c0) (dX rfl rfl)).trans ?_;subst c0;rfl
 refine du (no (c:=0) rfl c0) bG ?_;by_cases c1:j=1
 ·refine(jG (q6 (c:=1) rfl c1) (dX rfl rfl)).trans ?_;subst c1;rfl
 refine du (no (c:=1) rfl c1) bG ?_;by_cases c2:j=2
 ·refine(jG (q6 (c:=2) rfl c2) (dX rfl rfl)).trans ?_;subst c2;rfl
 refine du (no (c:=2) rfl c2) bG ?_;by_cases c3:j=3
 ·refine(jG (q6 (c:=3) rfl c3) (dX rfl rfl)).trans ?_;subst c3;rfl
 refine du (no (c:=3) rfl c3) bG ?_;by_cases c4:j=4
 ·refine(jG (q6 (c:=4) rfl c4) (dX rfl rfl)).trans ?_;subst c4;rfl
 refine du (no (c:=4) rfl c4) bG ?_;have c5:j=5:=by lia
 refine(jG (q6 (c:=5) rfl c5) (dX rfl rfl)).trans ?_;subst c5;rfl
def dY{β:Type}(n:Nat)(k:Nat->β):β:=match n with
 |0=>k 0
 |n+1=>k (n+1)
theorem kh{β:Type}(n:Nat)(k:Nat->β):dY n k=k n:=by cases n<;>rfl
def fH{β:Type}(x:UInt64)(k:UInt64->β):β:=dY x.toNat λn=>k (UInt64.ofNat n)
theorem qf{β:Type}(x:UInt64)(k:UInt64->β):fH x k=k x:=by
 unfold fH;rw[kh]
 congr 1
 exact UInt64.ofNat_toNat
def mJ(x y:F):Bool:=x.toNat==y.toNat
theorem nU(h:mJ x y=true):x=y:=UInt64.toNat_inj.mp (eq_of_beq h)
def bT(a:Nat):F:=jac false a 64
def qB(a:Nat):F:=jac false a 4
def qG(sh va:Nat):F:=jac false (va*(8-sh)) 32
def qP(sh va:Nat):F:=jac false (sh*va) (min (va*(8-sh)) (32-va*(8-sh)))
def py(k a:Nat):Bool:=fH (jaJ (jab (jaV (k:Int)) (bT a)) lz) λm=>(match ti m with|some i=>i==((6*k+6*a/64:Nat):Int)|none=>false)&&mJ (ZJ m (jaV ((6*k+6*a/64:Nat):Int))) (bT (6*a%64))
def zS(r g b mx d:F):F:=fH (jaf (ZJ mx r) d) λrc=>fH (jaf (ZJ mx g) d) λgc=>fH (jaf (ZJ mx b) d) λbc=>fH (qN r g mx rc gc bc) λh=>s0 h
theorem QX(r g b mx d:F):zS r g b mx d=vL r g b mx d:=by
 unfold zS vL;simp only[qf]
def uM(a sh va:Nat):Bool:=fH (qB sh) λs=>fH (qB va) λv=>fH (bT (6*a%64)) λf=>fH (pF s v) λp=>fH (qF s v f) λq=>fH (tF s v f) λt =>
 match A6 (6*a/64%6) v p q t with
 |(r,g,b)=>fH (nn r g b) λmx=>fH (nk r g b) λmn=>fH (ZJ mx mn) λd =>
  bO s s&&!bO s BB&&bO r r&&bO g g&&bO mn mn&&!bO mn mx&&!jaa d&&!jaa mx&&!jaa (jab mx mn)&&!jaa (ZJ (ZJ two mx) mn) &&
  mJ (zS r g b mx d) (bT a)&&mJ (jaf d mx) (qB sh)&&mJ mx (qB va)&&mJ (iT mx mn) (qG sh va)&&mJ (qQ mx mn d) (qP sh va)
def kP(a n:Nat):Bool:=(ZX a n).all λa=>(ZX 1 4).all λsh=>(ZX 1 4).all λva=>uM a sh va
theorem K8:kP 0 8=true:=by decide +kernel
theorem K9:kP 8 8=true:=by decide +kernel
theorem K':kP 16 8=true:=by decide +kernel
theorem La:kP 24 8=true:=by decide +kernel
theorem Lb:kP 32 8=true:=by decide +kernel
theorem Lc:kP 40 8=true:=by decide +kernel
theorem Le:kP 48 8=true:=by decide +kernel
theorem Lf:kP 56 8=true:=by decide +kernel
theorem JK:(ZX 0 64).all (λa=>py 0 a)=true:=by decide +kernel
theorem JL:(ZX 0 64).all (λa=>py 1 a)=true:=by decide +kernel
theorem JM:(ZX 0 64).all (λa=>py 2 a)=true:=by decide +kernel
theorem JN:(ZX 0 64).all (λa=>py 3 a)=true:=by decide +kernel
theorem Lg(ha:a<64)(h1:1<=sh)(h2:sh<=4)(h3:1<=va)(h4:va<=4):uM a sh va=true:=by
 have go:∀i,kP (8*i) 8=true->8*i<=a->a<8*i+8->uM a sh va=true:=λi h l u=>by
  have e1:=Y'.mp h a (by rw[jaX];exact⟨l,u⟩);have e2:=Y'.mp e1 sh (by rw[jaX];exact⟨h1,Zy h2 (by decide)⟩);exact Y'.mp e2 va (by rw[jaX];exact⟨h3,Zy h4 (by decide)⟩)
 have H:∀i∈Za 8,kP (8*i) 8=true:=aS K8 (aS K9 (aS K' (aS La (aS Lb (aS Lc (aS Le (aS Lf jA)))))));exact go _ (H _ (ZM.mpr (jff ha))) (jjr a 8) (jid a (by decide))
theorem JO(hk:k<4)(ha:a<64):py k a=true:=by
 have:k=0\/k=1\/k=2\/k=3:=X0 hk;rcases this with rfl|rfl|rfl|rfl
 ·exact Y'.mp JK a (by rw[jaX];simp[*])
 ·exact Y'.mp JL a (by rw[jaX];simp[*])
 ·exact Y'.mp JM a (by rw[jaX];simp[*])
 ·exact Y'.mp JN a (by rw[jaX];simp[*])
theorem Sg{N:Nat}{k a sh va:Nat}(hk:k<4)(ha:a<64)(h1:1<=sh)(h2:sh<=4)(h3:1<=va)(h4:va<=4):
 ∃r g b:F,Fi (N+1) 7 [.flt (jab (jaV (k:Int)) (bT a)),.flt (qB sh),.flt (qB va)]=some (.tup [.flt r,.flt g,.flt b]) /\
  Fi (N+1) 6 [.flt r,.flt g,.flt b]=some (.tup [.flt (bT a),.flt (qB sh),.flt (qB va)]) /\
  Fi (N+1) 5 [.flt r,.flt g,.flt b]=some (.tup [.flt (bT a),.flt (qG sh va),.flt (qP sh va)]):=by
 have hb:=JO hk ha;have hc:=Lg ha h1 h2 h3 h4;unfold py at hb;rw[qf,ZA]at hb;unfold uM at hc;simp only[qf]at hc;generalize QB:A6 (6*a/64%6) (qB va) (pF (qB sh) (qB va)) (qF (qB sh) (qB va) (bT (6*a%64))) (tF (qB sh) (qB va) (bT (6*a%64)))=rgb at hc;obtain⟨r,g,b⟩:=rgb;simp only[ZA,jbS]at hc;refine bN hc λz1 Kc=>?_;obtain⟨⟨⟨⟨⟨⟨⟨⟨⟨⟨⟨⟨⟨c1,c2⟩,c3⟩,c4⟩,c5⟩,c6⟩,c7⟩,c8⟩,c9⟩,rQ⟩,pE⟩,rR⟩,rS⟩,Kb⟩:=z1;have col:wP r g b (nn r g b) (nk r g b) (ZJ (nn r g b) (nk r g b)):=⟨rfl,rfl,rfl,c3,c4,c5,c6,c7,c8⟩
 rw[QX]at pE;have lP:=nU pE;have mG:=nU rR;have mH:=nU rS;have L0:=nU Kb;have L1:=nU Kc;refine z0 r g b ?_ ?_ ?_
 ·have hi:ti (jaJ (jab (jaV (k:Int)) (bT a)) lz)=some ((6*k+6*a/64:Nat):Int):=by
   have:=hb.1
   induction e:ti (jaJ (jab (jaV (k:Int)) (bT a)) lz)using ae with
   |none=>rw[e]at this;cases this
   |some i=>rw[e]at this;rw[eq_of_beq this]
  have:=NX (N:=N) (v:=qB va) c1 c2 hi (by lia) (nU hb.2);rw[this,show(6*k+6*a/64)%6=6*a/64%6 from Nat.mul_add_mod ..,QB];rfl
 ·rw[NV col,lP,mG];rw[mH]
 ·rw[NT col c9 rQ,lP,L0,L1]
section
theorem lS{a b:Ex}{x y:Nat}(h1:ev Φ σ ρ a=some (.int x))(h2:ev Φ σ ρ b=some (.int y))(hy:0<y)(hx:x<2^64):ev Φ σ ρ (.bin .Div a b)=some (.flt (jac false x y)):=by
 refine cb h1 h2 ?_;have e1:(decide ((x:Int)<0) != decide ((y:Int)<0))=false:=by
  rw[decide_eq_false (by simp),decide_eq_false (by simp)];rfl
 show(if(y:Int)=0\/jec (jac (decide ((x:Int)<0) != decide ((y:Int)<0)) (x:Int).natAbs (y:Int).natAbs)=true then none else some (AV.flt (jac (decide ((x:Int)<0) != decide ((y:Int)<0)) (x:Int).natAbs (y:Int).natAbs)))=_;refine aa e1 ?_;refine aa (ZV _) ?_;refine aa (ZV _) ?_;rw[if_neg];rintro(h|h)
 ·lia
 ·exact jgW hy (bf hx (Zp (by decide) (by decide))) h
theorem Ds(h1:ev Φ σ ρ a=some x)(h2:ev Φ σ ρ b=some y)(h3:ev Φ σ ρ c=some z):ev Φ σ ρ (.tup (.cons a (.cons b (.cons c .nil))))=some (.tup [x,y,z]):=sn (gJ h1 h2 h3) (show 3<=100000 by decide)
theorem Dq(h1:ev Φ σ ρ a=some (.tup [.flt x,.flt y,.flt z]))(h2:ev Φ σ ρ b=some (.tup [.flt x,.flt y,.flt z]))(hx:bO x x=true)(hy:bO y y=true)(hz:bO z z=true):ev Φ σ ρ (.cmp .NotEq a b)=some (.bool false):=by
 refine cK h1 h2 ?_;have e0:∀u:F,bO u u=true->cJ (.flt u) (.flt u)=some true:=λu hu=>by
  show(if(jag u u==some .eq)=true then some (jag u u==some .eq)else none)=_;unfold bO at hu;refine aa hu ?_;rfl
 show(eN cJ [.flt x,.flt y,.flt z] [.flt x,.flt y,.flt z]).map (!·)=_;simp only[sd,e0 x hx,e0 y hy,e0 z hz];rfl
end
theorem sx(x y:Nat)(hy:0<y)(hx:x<2^64):bO (jac false x y) (jac false x y)=true:=by
 have h1:jec (jac false x y)=false:=by
  have:=jgW (sg:=false) (n:=x) hy (bf hx (Zp (by decide) (by decide)));simpa using this
 have h2:jeV (jac false x y)=false:=by unfold jac;exact PySem.W.isNaN_pack false (PySem.W.roundMag_le x y)
 unfold bO jag;unfold jec at h1;unfold jeV at h2;cases e:jct (jac false x y)with
 |nan=>rw[e]at h2;cases h2
 |inf s=>rw[e]at h1;cases h1
 |fin s m ex =>
  show(some (compare (jeW s m ex s m ex).1 (jeW s m ex s m ex).2.1)==some jha)=true;have:(jeW s m ex s m ex).1=(jeW s m ex s m ex).2.1:=rfl;refine aa this ?_;have:∀z:Int,compare z z=jha:=λz=>by
   refine aa (Int.compare_eq_ite_lt _ _) ?_;simp
  refine aa (this _) ?_;rfl
section
variable (A:Nat)
def dF(t:Nat):Nat:=(A%64+t%3*(1+A/64%31))%64
def ku(t:Nat):Nat:=A/1984/16^(t/3)
def mi(t:Nat):Nat:=1+ku A t%4
def oY(t:Nat):Nat:=1+ku A t/4%4
def cq(n:Nat):List AV:=(Za n).map λt=>.flt (bT (dF A t))
end
def Gs:dw:=match yB.body with | .cons _ (.cons (.for_ _ _ b) _)=>b|_=>.nil
theorem Sh{N:Nat}{A t:Nat}{n:AV}{c4 c5 c6 c7 c8 c9 rQ pE rR rS:Option AV}(ht:t<15){row:List AV}(hr:row.length<=1000):
 ∃e4 e5 e6 e7 e8 e9 pN lP mG mH,aE (Fi (N+1)) [some (.int A),some n,some (.ref 0),some (.int t),c4,c5,c6,c7,c8,c9,rQ,pE,rR,rS] [.list row] Gs =
  some (.next [some (.int A),some n,some (.ref 0),some (.int t),e4,e5,e6,e7,e8,e9,pN,lP,mG,mH] [.list (row++[.flt (bT (dF A t))])]):=by
 have QH:ku A t%4<4:=ZU _ (by decide);have Q2:ku A t/4%4<4:=ZU _ (by decide);have hh:dF A t<64:=ZU _ (by decide);have zN:mi A t=1+ku A t%4:=rfl;have Q3:oY A t=1+ku A t/4%4:=rfl;have zL:mi A t<=4:=jdL (jba QH) 1;have zT:oY A t<=4:=jdL (jba Q2) 1;refine kf (Sg (N:=N) (k:=t%4) (a:=dF A t) (sh:=mi A t) (va:=oY A t) (ZU _ (by decide)) hh (ZH 1 (ku A t%4)) zL (ZH 1 (ku A t/4%4)) zT) λr g b l7 l6 l5=>?_;have e1:8-mi A t=8-mi A t:=rfl;have Uk:16^(t/3)<2^64:=Zy (Zp (by decide) (show t/3<=4 by lia)) (by decide);have v7:oY A t*(8-mi A t)<=28:=Y5 (jbq zT (jic (ZH 1 (ku A t%4)) 8)) (by decide);have YT:4<=oY A t*(8-mi A t):=jbq (ZH 1 (ku A t/4%4)) (jic zL 8);have sv:mi A t*oY A t<=16:=jbq zL zT;generalize PZ:ku A t=mo at *;generalize E2:mi A t=s at *;generalize Yu:oY A t=v at *;generalize PX:dF A t=h at *;refine⟨some (.int mo),some (.int s),some (.int v),some (.int ((v*(8-s):Nat):Int)),some (.flt (bT h)),some (.flt r),some (.flt g),some (.flt b),some (.tup [.flt (bT h),.flt (qB s),.flt (qB v)]),some (.tup [.flt (bT h),.flt (qG s v),.flt (qP s v)]),?_⟩;have a0:∀{x:Nat},x<64->x<2^64:=λh=>jaq h (by decide);have w4:ev (Fi (N+1)) [.list row] [some (.int A),some n,some (.ref 0),some (.int t),c4,c5,c6,c7,c8,c9,rQ,pE,rR,rS] (.bin .FloorDiv (.bin .FloorDiv (.var 0) (.c (.int 1984))) (.bin .Pow (.c (.int 16)) (.bin .FloorDiv (.var 3) (.c (.int 3)))))=some (.int (mo:Nat)):=by
  refine rwj PZ ?_;exact jC (jC (y:=1984) (ag rfl) aR (by decide) (by decide)) (jE (x:=16) aR (jC (y:=3) (ag rfl) aR (by decide) (by decide)) (by decide) (by lia)) (by have:=jcR (n:=t/3) (show 0<16 by decide);lia) Uk
 refine aT w4 ?_;refine mP (vs:=[.int s,.int v]) (gI ?_ (gI ?_ mK)) rfl ?_
 ·refine aa zN ?_;exact iF (x:=1) aR (dV (y:=4) (ag rfl) aR (by decide))
 ·refine aa Q3 ?_;exact iF (x:=1) aR (dV (y:=4) (jC (y:=4) (ag rfl) aR (by decide) (by decide)) aR (by decide))
 refine aT (v:=.int ((v*(8-s):Nat):Int)) (mM (ag rfl) (sm (x:=8) aR (ag rfl) (by lia)) (jcy (a0 (by lia)))) ?_;refine aT (v:=.flt (bT h)) ?_ ?_
 ·refine lS (x:=h) (y:=64) ?_ aR (by decide) (a0 hh);refine rwj PX ?_;exact dV (y:=64) (iF (dV (y:=64) (ag rfl) aR (by decide)) (mM (dV (y:=3) (ag rfl) aR (by decide)) (iF (x:=1) aR (dV (y:=31) (jC (y:=64) (ag rfl) aR (by decide) (by decide)) aR (by decide))) (jcy (a0 (by lia))))) aR (by decide)
 refine n9 (vs:=[.flt r,.flt g,.flt b]) (cL (vs:=[.flt (jab (jaV ((t%4:Nat):Int)) (bT h)),.flt (qB s),.flt (qB v)]) (gJ ?_ ?_ ?_) rfl l7) rfl ?_
 ·refine cb (dV (y:=4) (ag rfl) aR (by decide)) (ag rfl) ?_;have y0:hJ ((t%4:Nat):Int)=true:=by
   unfold hJ;refine aa (ZV _) ?_;exact decide_eq_true (by lia)
  show(if hJ ((t%4:Nat):Int)=true then _ else _)=_;refine aa (if_pos y0) ?_;rfl
 ·exact lS (y:=4) (ag rfl) aR (by decide) (a0 (by lia))
 ·exact lS (y:=4) (ag rfl) aR (by decide) (a0 (by lia))
 refine mP (vs:=[.tup [.flt (bT h),.flt (qB s),.flt (qB v)],.tup [.flt (bT h),.flt (qG s v),.flt (qP s v)]]) (gI (cL (vs:=[.flt r,.flt g,.flt b]) (gJ (ag rfl) (ag rfl) (ag rfl)) rfl l6) (gI (cL (vs:=[.flt r,.flt g,.flt b]) (gJ (ag rfl) (ag rfl) (ag rfl)) rfl l5) mK)) rfl ?_;have fh:bO (bT h) (bT h)=true:=sx _ _ (by decide) (a0 hh);refine du (uU (Dq (ag rfl) (Ds (ag rfl) (lS (y:=4) (ag rfl) aR (by decide) (a0 (by lia))) (lS (y:=4) (ag rfl) aR (by decide) (a0 (by lia)))) fh (sx _ _ (by decide) (a0 (by lia))) (sx _ _ (by decide) (a0 (by lia)))) (Dq (ag rfl) (Ds (ag rfl) (lS (y:=32) (ag rfl) aR (by decide) (a0 (by lia))) (lS (x:=s*v) (y:=min (v*(8-s)) (32-v*(8-s))) (mM (ag rfl) (ag rfl) (jcy (a0 (by lia)))) ?_ (by lia) (a0 (by lia)))) fh (sx _ _ (by decide) (a0 (by lia))) (sx _ _ (by lia) (a0 (by lia))))) bG ?_
 ·refine dK (dL (ag rfl) (sm (x:=32) aR (ag rfl) (by lia))) ?_;show some (AV.int (if((32-v*(8-s):Nat):Int)<((v*(8-s):Nat):Int)then((32-v*(8-s):Nat):Int)else((v*(8-s):Nat):Int)))=_;refine congrArg (λz=>some (AV.int z)) ?_;split<;>lia
 refine qc (i:=0) (xs:=row) (v:=.flt (bT h)) (ag rfl) ?_ rfl (by lia) (λj=>by simp) bG;have h2:t%2=0\/t%2=1:=by lia
 refine mL (x:=if t%2=0 then .tup [.flt (bT h),.flt (qB s),.flt (qB v)]else .tup [.flt (bT h),.flt (qG s v),.flt (qP s v)]) (y:=.int 0) (mL (x:=.tup [.tup [.flt (bT h),.flt (qB s),.flt (qB v)],.tup [.flt (bT h),.flt (qG s v),.flt (qP s v)]]) (y:=.int ((t%2:Nat):Int)) rfl (dV (y:=2) (ag rfl) aR (by decide)) ?_) rfl ?_
 ·rcases h2 with e|e<;>rw[e]<;>rfl
 ·rcases h2 with e|e<;>rw[e]<;>rfl
theorem yO(k:Nat)(σ:aA){α:Type}(f:α->F):∀l:List α,bj (aZ σ (k+1)) (l.map λx=>AV.flt (f x))=some (l.map λx=>AV.flt (f x))
 | []=>rfl
 |a::l=>by
  refine aa ZG ?_;rw[gO];have:aZ σ (k+1) (.flt (f a))=some (.flt (f a)):=rfl;refine aa this ?_;simp only[yO k σ f l]
theorem NO(A n:Nat)(hn:n<=5):Fi (N+2) 17 [.int A,.int n]=some (.lst (cq A (3*n))):=by
 refine fB (N:=N+1) Op rfl ?_;show aE (Fi (N+1)) [some (.int A),some (.int n),none,none,none,none,none,none,none,none,none,none,none,none] [] yB.body=_;refine sr (v:=.ref 0) (an:=[.list []]) rfl ?_;have lp:=sD (f:=λρ σ v=>aE (Fi (N+1)) (ρ.set 3 (some v)) σ Gs) (n:=3*n) (ρ:=[some (.int A),some (.int n),some (.ref 0),none,none,none,none,none,none,none,none,none,none,none]) (σ:=[.list []])
  (I:=λk ρ σ=>∃e3 e4 e5 e6 e7 e8 e9 pN lP mG mH,ρ=[some (.int A),some (.int n),some (.ref 0),e3,e4,e5,e6,e7,e8,e9,pN,lP,mG,mH]/\σ=[.list (cq A k)])
  ⟨none,none,none,none,none,none,none,none,none,none,none,rfl,rfl⟩ ?_
 ·obtain⟨av,an,h1,e3,e4,e5,e6,e7,e8,e9,pN,lP,mG,mH,rfl,rfl⟩:=lp;refine kY (vs:=aq (Za (3*n))) (nX (j' (mM (x:=3) aR (ag rfl) (jcy (by decide))) (by lia))) h1 ?_;refine dX (v:=.ref 0) rfl ?_;show(bj (aZ [.list (cq A (3*n))] 5) (cq A (3*n))).map AV.lst=_;have:=yO 4 [.list (cq A (3*n))] (λt=>bT (dF A t)) (Za (3*n));exact(congrArg (jad AV.lst) this).trans rfl
 ·rintro k ρ σ hk ⟨e3,e4,e5,e6,e7,e8,e9,pN,lP,mG,mH,rfl,rfl⟩;obtain⟨w4,w5,w6,w7,w8,w9,XE,XF,XG,XH,hw⟩:=Sh (N:=N) (A:=A) (t:=k) (n:=.int n) (c4:=e4) (c5:=e5) (c6:=e6) (c7:=e7) (c8:=e8) (c9:=e9) (rQ:=pN) (pE:=lP) (rR:=mG) (rS:=mH) (by lia) (row:=cq A k) (by unfold cq;refine aa (Y4 _) ?_;refine aa jaj ?_;lia);refine⟨_,_,hw,some (.int k),w4,w5,w6,w7,w8,w9,XE,XF,XG,XH,rfl,?_⟩;unfold cq;refine aa jaO ?_;refine aa ZW ?_;rfl
def ga(nl:List Nat)(i:Nat)(c:List Nat)(l:Nat):Bool:=nl.all λj=>!(decide (j<i)&&decide (c.getD j 0=l))
def ci(h:Nat)(ac:List (List Nat)):Nat->List (List Nat)
 |0=>[[]]
 |i+1=>(ci h ac i).flatMap λc=>((Za h).filter λl=>ga (ac.getD i []) i c l).map λl=>c++[l]
theorem Us:ci h ac 0=[[]]:=rfl
theorem qL:ci h ac (i+1) =
 jhn
  (λc=>jfE (λl=>c++[l]) (List.filter (λl=>ga (List.getD ac i []) i c l) (Za h)))
  (ci h ac i):=rfl
theorem Hg(h:Nat)(ac:List (List Nat)):∀i,∀c∈ci h ac i,c.length=i/\∀l∈c,l<h
 |0,c,hc=>by
  rw[Us,Zu]at hc;subst hc;exact⟨rfl,λl hl=>by cases hl⟩
 |i+1,c,hc=>by
  rw[qL]at hc;refine au (jdj.mp hc) λc0 h0 h1=>?_;refine au (Zq.mp h1) ?_;rintro l hl rfl;have ih:=Hg h ac i c0 h0;have a0:=ZM.mp (jdA.mp hl).1;refine⟨by refine aa Ze ?_;refine aa ih.1 ?_;rfl,λl' hZ=>?_⟩;rw[ZI,Zu]at hZ;rcases hZ with h|rfl
  ·exact ih.2 l' h
  ·exact a0
theorem D0{α β:Type}(k:Nat)(f:α->List β):∀l:List α,(∀a∈l,(f a).length<=k)->(l.flatMap f).length<=l.length*k
 | [],_=>by simp
 |a::l,h=>by
  have h1:=h a (by simp);have h2:=D0 k f l (λb hb=>h b (by simp[hb]));rw[jau,Ze,Zr,jcS,jek]
  lia
theorem tD(h:Nat)(ac:List (List Nat)):∀i,(ci h ac i).length<=h^i
 |0=>Y9 1
 |i+1=>by
  have ih:=tD h ac i;rw[qL];refine Y5 (D0 h _ _ λc Y=>?_) ?_
  ·refine aa (Y4 _) ?_;exact Y5 (jdg _ _) (by refine aa jaj ?_;exact Y9 _)
  ·refine aa (jdb _ _) ?_;exact jbq ih (Y9 _)
section
theorem M2{ρ:aB}{α β:Type}{x:Nat}{Gg Gi:It}{ifs:bV}{aD:Ex}{cs:List α}{f1:α->AV}{ds:List β}{f2:β->AV}{G:α->β->List AV}(h1:dU Φ σ ρ Gg=some (cs.map f1))(hx:ρ.length=x)(hl:cs.length<=100000)(h2:∀v,dU Φ σ (ρ++[some v,none]) Gi=some (ds.map f2))(hW:ds.length<=100000)(h3:∀c∈cs,∀d∈ds,(match cS Φ σ (ρ++[some (f1 c),some (f2 d)]) ifs with
 |some true=>(ev Φ σ (ρ++[some (f1 c),some (f2 d)]) aD).map λu=>[u]
 |some false=>some []
 |none=>none)=some (G c d)) (hr:(cs.flatMap λc=>ds.flatMap (G c)).length<=100000):
 ev Φ σ ρ (.comp 2 (.cons x Gg .nil (.cons (x+1) Gi ifs (.done aD))))=some (.lst (cs.flatMap λc=>ds.flatMap (G c))):=by
 subst hx;have hs:∀v,(ρ++Zm 2 none).set ρ.length (some v)=ρ++[some v,none]:=λv=>by
  rw[jcf,if_neg (Zv (jaT ρ)),jaE];rfl
 have QG:∀v w,(ρ++[some v,none]).set (ρ.length+1) (some w)=ρ++[some v,some w]:=λv w=>by
  rw[jcf,if_neg (by simp)];rw[show ρ.length+1-ρ.length=1 by simp];rfl
 have h0:(ρ++Zm 2 none)[ρ.length]?=some none:=by
  rw[Zk (Y9 _),jaE];rfl
 have O2:∀v,(ρ++[some v,none])[ρ.length+1]?=some none:=λv=>by
  rw[Zk (jcJ jbO),show ρ.length+1-ρ.length=1 by simp];rfl
 have fm:∀{γ:Type}{δ:Type} (f:AV->Option (List δ)) (g:γ->AV) (l:List γ),fZ f (l.map g)=fZ (λa=>f (g a)) l:=λf g l=>by
  induction l with
  |nil=>rfl
  |cons a l ih=>rw[ZG,u6,u6,ih]
 rw[yj,x0,h1];simp only[h0];rw[if_pos (by rw[Y4];exact hl),fm,u5 (g:=λc=>ds.flatMap (G c)) (λc hc=>?_)]
 ·show jad AV.lst (sI (some _))=_;unfold sI;simp only[];rw[if_pos hr];rfl
 ·rw[hs (f1 c)];have e1:cS Φ σ (ρ++[some (f1 c),none]) .nil=some true:=by rw[nW]
  simp only[e1];rw[Db,h2 (f1 c)];simp only[O2 (f1 c)];rw[if_pos (by rw[Y4];exact hW),fm];refine u5 (λd hd=>?_);rw[QG (f1 c) (f2 d),<-h3 c hc d hd]
  induction cS Φ σ (ρ++[some (f1 c),some (f2 d)]) ifs using ae with
  |none=>rfl
  |some b=>cases b<;>rfl
theorem Dn(h1:ev Φ σ ρ a=some (.lst l)):ev Φ σ ρ (.cmp .Eq a (.list .nil))=some (.bool (decide (l.length=0))):=by
 refine cK (y:=.lst []) h1 (sk (vs:=[]) (by rw[DA]) (by decide)) ?_;show(if l.length=([]:List AV).length then eN cJ l []else some false)=_
 induction l using Y6 with
 |nil=>rfl
 |cons a l=>simp
end
def wS(A:Nat):Prop:=∀l l',l<3->l'<3->bO (bT (dF A l)) (bT (dF A l'))=decide (l=l')
def ei(A:Nat)(c:List Nat):AV:=.lst (c.map λl=>.flt (bT (dF A l)))
theorem WE(hi:i<n)(hl:l<3):(cq A (3*n))[3*i+l]?=some (.flt (bT (dF A l))):=by
 unfold cq;refine aa ZR ?_;refine aa (jdG (by lia)) ?_;have:dF A (3*i+l)=dF A l:=by
  unfold dF;refine aa (show(3*i+l)%3=l%3 by simp) ?_;rfl
 show some (AV.flt (bT (dF A (3*i+l))))=_;refine aa this ?_;rfl
theorem Ut{N:Nat}{ac:List (List Nat)}{A h i:Nat}(hi:i<ac.length)(hn:ac.length<=5)(hh:h<=3)(H:wS A)(sW:∀j∈ac.getD i [],j<ac.length)(jM:(ac.getD i []).length<=5):
 ev (Fi N) [] [some (b9 ac),some (.lst (cq A (3*ac.length))),some (.int h),some (.lst ((ci h ac i).map (ei A))),some (.int i)]
  (.comp 2 (.cons 5 (.val (.var 3)) .nil (.cons 6 (.range (.cons (.var 2) .nil)) (.cons (.cmp .Eq (.comp 1 (.cons 7 (.val (.idx (.var 0) (.var 4))) (.cons (.and (.cons (.cmp .Lt (.var 7) (.var 4)) (.cons (.cmp .Eq (.idx (.var 5) (.var 7)) (.idx (.var 1) (.bin .Add (.bin .Mult (.c (.int 3)) (.var 4)) (.var 6)))) .nil))) .nil) (.done (.var 7)))) (.list .nil)) .nil) (.done (.bin .Add (.var 5) (.list (.cons (.idx (.var 1) (.bin .Add (.bin .Mult (.c (.int 3)) (.var 4)) (.var 6))) .nil)))))))
  = some (.lst ((ci h ac (i+1)).map (ei A))):=by
 have Fw:=tD h ac i;have YE:=tD h ac (i+1);have zG:h^i<=1000:=Y5 (jdK hh i) (Y5 (Zp (by decide) (show i<=5 by lia)) (by decide));have Fu:h^(i+1)<=1000:=Y5 (jdK hh (i+1)) (Y5 (Zp (by decide) (show i+1<=5 from bf hi hn)) (by decide));have oG:(cq A (3*ac.length)).length<=15:=by unfold cq;refine aa (Y4 _) ?_;refine aa jaj ?_;lia
 have H':∀{ρ:aB}{l:Nat},l<3->ρ[1]?=some (some (.lst (cq A (3*ac.length))))->ρ[4]?=some (some (.int (i:Int)))->ρ[6]?=some (some (.int (l:Int)))->ev (Fi N) [] ρ (.idx (.var 1) (.bin .Add (.bin .Mult (.c (.int 3)) (.var 4)) (.var 6)))=some (.flt (bT (dF A l))):=λ{ρ l} hl g1 g4 g6 =>
  fX (k:=3*i+l) (ag g1) (iF (mM (x:=3) aR (ag g4) (jcy (by decide))) (ag g6)) (WE hi hl) (bw oG rfl)
 have body:∀c∈ci h ac i,∀l,l<h->(match cS (Fi N) [] ([some (b9 ac),some (.lst (cq A (3*ac.length))),some (.int h),some (.lst ((ci h ac i).map (ei A))),some (.int i)]++[some (ei A c),some (.int l)]) (.cons (.cmp .Eq (.comp 1 (.cons 7 (.val (.idx (.var 0) (.var 4))) (.cons (.and (.cons (.cmp .Lt (.var 7) (.var 4)) (.cons (.cmp .Eq (.idx (.var 5) (.var 7)) (.idx (.var 1) (.bin .Add (.bin .Mult (.c (.int 3)) (.var 4)) (.var 6)))) .nil))) .nil) (.done (.var 7)))) (.list .nil)) .nil)with
  |some true=>(ev (Fi N) [] ([some (b9 ac),some (.lst (cq A (3*ac.length))),some (.int h),some (.lst ((ci h ac i).map (ei A))),some (.int i)]++[some (ei A c),some (.int l)]) (.bin .Add (.var 5) (.list (.cons (.idx (.var 1) (.bin .Add (.bin .Mult (.c (.int 3)) (.var 4)) (.var 6))) .nil)))).map λu=>[u]
  |some false=>some []
  |none=>none)=some (if ga (ac.getD i []) i c l then[ei A (c++[l])]else[]):=by
  intro c hc l hl;refine bN (Hg h ac i c hc) λhcl vm=>?_;have inner:ev (Fi N) [] ([some (b9 ac),some (.lst (cq A (3*ac.length))),some (.int h),some (.lst ((ci h ac i).map (ei A))),some (.int i)]++[some (ei A c),some (.int l)]) (.comp 1 (.cons 7 (.val (.idx (.var 0) (.var 4))) (.cons (.and (.cons (.cmp .Lt (.var 7) (.var 4)) (.cons (.cmp .Eq (.idx (.var 5) (.var 7)) (.idx (.var 1) (.bin .Add (.bin .Mult (.c (.int 3)) (.var 4)) (.var 6)))) .nil))) .nil) (.done (.var 7))))=some (.lst (aq ((ac.getD i []).filter λj=>decide (j<i)&&decide (c.getD j 0=l)))):=by
   have jg:dU (Fi N) [] ([some (b9 ac),some (.lst (cq A (3*ac.length))),some (.int h),some (.lst ((ci h ac i).map (ei A))),some (.int i)]++[some (ei A c),some (.int l)]) (.val (.idx (.var 0) (.var 4)))=some (aq (ac.getD i [])):=by
    have:ev (Fi N) [] ([some (b9 ac),some (.lst (cq A (3*ac.length))),some (.int h),some (.lst ((ci h ac i).map (ei A))),some (.int i)]++[some (ei A c),some (.int l)]) (.idx (.var 0) (.var 4))=some (.lst (aq (ac.getD i []))):=by
     refine fX (l:=ac.map λl=>.lst (aq l)) (k:=i) (ag rfl) (ag rfl) ?_ (by refine aa (Y4 _) ?_;exact bw hn rfl);refine aa ZR ?_;refine aa Zb ?_;refine aa (Zg hi) ?_;rfl
    rewrite [si];refine aa this ?_;rfl
   refine(nZ (x:=7) (vs:=aq (ac.getD i [])) (p:=λv=>match v with | .int j=>decide (j.toNat<i)&&decide (c.getD j.toNat 0=l)|_=>false) (g:=id) jg rfl (by refine aa (Y4 _) ?_;exact bw jM rfl) (λv hv=>?_) (λv hv Y=>rfl)).trans ?_
   ·refine au (Zq.mp hv) ?_;rintro j hj rfl;have jL:=sW j hj;show _=some (decide ((j:Int).toNat<i)&&decide (c.getD (j:Int).toNat 0=l));refine aa (ZF _) ?_;by_cases hji:j<i
    ·refine kS (kV (iE ((pX (x:=j) (y:=i) (ag rfl) (ag rfl)).trans (by refine aa (decide_eq_true hji) ?_;rfl)) ?_));refine(kS (ka (x:=bT (dF A (c.getD j 0))) (y:=bT (dF A l)) (fX (l:=c.map λl=>.flt (bT (dF A l))) (k:=j) (ag rfl) (ag rfl) ?_ (by refine aa (Y4 _) ?_;lia)) (H' (bf hl hh) rfl rfl rfl) ?_)).trans ?_
     ·refine aa ZR ?_;refine aa Zb ?_;refine aa (Zg (by simp[*])) ?_;rfl
     ·have vk:c.getD j 0<3:=by
       have:c.getD j 0∈c:=by
        refine aa Zb ?_;refine aa (Zg (by lia)) ?_;exact jbJ _
       have:=vm _ this
       lia
      refine aa (H _ _ vk vk) ?_;simp
     ·have vk:c.getD j 0<3:=by
       have:c.getD j 0∈c:=by
        refine aa Zb ?_;refine aa (Zg (by lia)) ?_;exact jbJ _
       have:=vm _ this
       lia
      refine aa (H _ _ vk (by lia)) ?_;refine aa (decide_eq_true hji) ?_;refine aa (jcG _) ?_;rfl
    ·refine aa (decide_eq_false hji) ?_;refine aa (jgD _) ?_;exact kS (kV (nV ((pX (x:=j) (y:=i) (ag rfl) (ag rfl)).trans (by refine aa (decide_eq_false hji) ?_;rfl))))
   ·refine aa (jca _) ?_;unfold aq;refine aa jch ?_
    congr 3
  have bY:decide ((aq ((ac.getD i []).filter λj=>decide (j<i)&&decide (c.getD j 0=l))).length=0)=ga (ac.getD i []) i c l:=by
   rewrite [jaQ,decide_eq_true_iff];refine aa (Y4 _) ?_;rw[Z7,List.filter_eq_nil_iff];unfold ga;rw[Y'];constructor
   ·intro hx j hj;have:=hx j hj
    induction e:(decide (j<i)&&decide (c.getD j 0=l))using ZL with
    |true=>exact absurd e this
    |false=>rfl
   ·intro hx j hj e;have:=hx j hj;rw[e]at this;cases this
  rw[kS ((Dn inner).trans (by refine aa bY ?_;rfl))]
  induction ga (ac.getD i []) i c l using ZL with
  |false=>rfl
  |true =>
   have:ev (Fi N) [] ([some (b9 ac),some (.lst (cq A (3*ac.length))),some (.int h),some (.lst ((ci h ac i).map (ei A))),some (.int i)]++[some (ei A c),some (.int l)]) (.bin .Add (.var 5) (.list (.cons (.idx (.var 1) (.bin .Add (.bin .Mult (.c (.int 3)) (.var 4)) (.var 6))) .nil)))=some (ei A (c++[l])):=by
    refine(sj (x:=c.map λl=>.flt (bT (dF A l))) (y:=[.flt (bT (dF A l))]) (ag rfl) (sk (cT (H' (by lia) rfl rfl rfl)) (show 1<=100000 by decide)) (by refine aa (Y4 _) ?_;show _+1<=_;lia)).trans ?_;unfold ei;refine aa ZW ?_;rfl
   simp only[this];rfl
 let G:List Nat->Nat->List AV:=λc l=>if ga (ac.getD i []) i c l then[ei A (c++[l])]else[]
 have e2:(ci h ac (i+1)).map (ei A)=(ci h ac i).flatMap λc=>(Za h).flatMap (G c):=by
  conv=>lhs;rw[qL]
  refine aa List.map_flatMap ?_
  congr 1
  funext c;refine aa ZN ?_;have:=yI (p:=λl=>ga (ac.getD i []) i c l) (g:=λl=>ei A (c++[l])) (Za h);exact this.symm
 have aN:((ci h ac i).flatMap λc=>(Za h).flatMap (G c)).length<=100000:=by
  refine rwj e2 ?_;refine aa (Y4 _) ?_;lia
 refine aa e2 ?_;refine M2 (x:=5) (cs:=ci h ac i) (f1:=ei A) (ds:=Za h) (f2:=λ(l:Nat)=>AV.int l) (G:=G) ?_ rfl (by lia) (λv=>?_) (by refine aa jaj ?_;exact bw hh rfl) (λc hc l hl=>body c hc l (ZM.mp hl)) aN
 ·rewrite [si];refine aa (ag (v:=.lst ((ci h ac i).map (ei A))) rfl) ?_;rfl
 ·exact j' (ag rfl) (bw hh rfl)
theorem NP{N:Nat}{ac:List (List Nat)}{A h:Nat}(g:iw ac)(hh:h<=3)(H:wS A):Fi (N+1) 18 [b9 ac,.lst (cq A (3*ac.length)),.int h]=some (.int ((ci h ac ac.length).length:Nat)):=by
 refine fB (N:=N) Oq rfl ?_;show aE (Fi N) [some (b9 ac),some (.lst (cq A (3*ac.length))),some (.int h),none,none] [] yC.body=_;refine aT (v:=.lst [.lst []]) rfl ?_;have aU:=g.le;have lp:=sD (f:=λρ σ v=>aE (Fi N) (ρ.set 4 (some v)) σ (match yC.body with | .cons _ (.cons (.for_ _ _ b) _)=>b|_=>.nil)) (n:=ac.length) (ρ:=[some (b9 ac),some (.lst (cq A (3*ac.length))),some (.int h),some (.lst [.lst []]),none]) (σ:=[])
  (I:=λk ρ σ=>∃e4,ρ=[some (b9 ac),some (.lst (cq A (3*ac.length))),some (.int h),some (.lst ((ci h ac k).map (ei A))),e4]/\σ=[])
  ⟨none,rfl,rfl⟩ ?_
 ·obtain⟨av,an,h1,e4,rfl,rfl⟩:=lp;refine kY (vs:=aq (Za ac.length)) (nX (j' (dK (vs:=[b9 ac]) rfl ?_) (bw aU rfl))) h1 ?_
  ·show fL (ac.map λl=>AV.lst (aq l)).length=_;refine aa (Y4 _) ?_;unfold fL;refine aa (if_pos (bw aU rfl)) ?_;rfl
  have hp:=tD h ac ac.length;have zG:h^ac.length<=1000:=Y5 (jdK hh _) (Y5 (Zp (by decide) aU) (by decide));refine dX (v:=.int ((ci h ac ac.length).length:Nat)) (dK (cT (ag rfl)) ?_) rfl;show fL ((ci h ac ac.length).map (ei A)).length=_;refine aa (Y4 _) ?_;unfold fL;refine aa (if_pos (by omega)) ?_;rfl
 ·rintro k ρ σ hk ⟨e4,rfl,rfl⟩;refine⟨_,_,aT (Ut hk aU hh H (λj hj=>(g.sym k j hj).1) ?_) bG,some (.int k),rfl,rfl⟩;exact tx 5 _ (g.nd k) (λj hj=>by have:=(g.sym k j hj).1;lia)
abbrev Dk:=List (Nat×Nat)
def gC:Dk->Nat->Nat->Dk
 | [],k,v=>[(k,v)]
 |(k',v')::t,k,v=>if k'=k then(k',max v' v)::t else(k',v')::gC t k v
theorem wG:gC ((k',v')::t) y x=if k'=y then(k',max v' x)::t else(k',v')::gC t y x:=rfl
def cG(D:Dk):List (Int×AV):=D.map λe=>((e.1:Int),AV.int (e.2:Int))
def iS(D:Dk)(k:Nat):Nat:=(D.lookup k).getD 0
def d0(D:Dk):Prop:=(D.map (·.1)).Nodup
theorem Ar(k:Nat):∀D:Dk,(cG D).lookup (k:Int)=(D.lookup k).map λ(v:Nat)=>AV.int (v:Int)
 | []=>rfl
 |(k',v')::t=>by
  show jeh (k:Int) (((k':Int),AV.int (v':Int))::cG t)=_;refine aa Z1 ?_;refine aa Z1 ?_;refine aa (Ar k t) ?_;have:((k:Int)==(k':Int))=(k==k'):=by
   rw[jaQ,beq_iff_eq,beq_iff_eq];exact IL
  refine aa this ?_;cases(k==k')<;>rfl
theorem GA{k v:Nat}:∀D:Dk,d0 D->(k,v)∈D->D.lookup k=some v
 |(k',v')::t,hn,hm=>by
  unfold d0 at hn;rw[ZG,jaP]at hn;refine aa Z1 ?_;rcases ZT.mp hm with e|hm
  ·cases e;simp
  ·have cV:k≠k':=λe=>hn.1 (Zq.mpr ⟨(k,v),hm,e⟩);refine aa (beq_eq_false_iff_ne.mpr cV) ?_;exact GA t hn.2 hm
theorem Bs(k v:Nat):∀D:Dk,(gC D k v).map (·.1)=if k∈D.map (·.1)then D.map (·.1)else D.map (·.1)++[k]
 | []=>rfl
 |(k',v')::t=>by
  have ih:=Bs k v t;rw[wG];by_cases e:k'=k
  ·refine aa (if_pos e) ?_;refine aa (if_pos (by simp[e])) ?_;rfl
  ·refine aa (if_neg e) ?_;refine aa ZG ?_;refine aa ih ?_;refine aa ZG ?_;by_cases h:k∈t.map (·.1)
   ·refine aa (if_pos h) ?_;refine aa (if_pos (ZB _ h)) ?_;rfl
   ·refine aa (if_neg h) ?_;refine aa (if_neg (λhm=>(ZT.mp hm).elim (λh'=>e h'.symm) h)) ?_;rfl
set_option tactic.hygienic true in
theorem Iz{k v:Nat}{D:Dk}(h:d0 D):d0 (gC D k v):=by
 unfold d0 at *;rw[Bs];split
 ·exact h
 ·rename_i hn;rw[jbs];refine cz h (by simp) (λa ha b hb=>?_);rw[Zu]at hb;rintro rfl;exact hn (hb▸ha)
theorem Iy{k v:Nat}:∀D:Dk,k∉D.map (·.1)->gC D k v=D++[(k,v)]
 | [],_=>rfl
 |(k',v')::t,h=>by
  rw[ZG,ZT,not_or]at h;rw[wG];refine aa (if_neg (λe=>h.1 e.symm)) ?_;refine aa (Iy t h.2) ?_;rfl
theorem GN{k:Nat}{w:AV}:∀D:Dk,k∉D.map (·.1)->(cG D).map (λe=>if e.1=(k:Int)then(e.1,w)else e)=cG D
 | [],_=>rfl
 |(k',v')::t,h=>by
  rw[ZG,ZT,not_or]at h;show(if(k':Int)=(k:Int)then((k':Int),w)else((k':Int),AV.int (v':Int)))::(cG t).map _=_;refine aa (if_neg (by have:=h.1;lia)) ?_;refine aa (GN t h.2) ?_;rfl
theorem Hs{k v:Nat}:∀D:Dk,d0 D->k∈D.map (·.1)->(cG D).map (λe=>if e.1=(k:Int)then(e.1,AV.int ((max (iS D k) v:Nat):Int))else e)=cG (gC D k v)
 | [],_,h=>by cases h
 |(k',v')::t,hn,h=>by
  unfold d0 at hn;rw[ZG,jaP]at hn;rw[wG];by_cases e:k'=k
  ·subst e;refine aa (if_pos rfl) ?_;have hl:iS ((k',v')::t) k'=v':=by unfold iS;refine aa Z1 ?_;simp
   refine aa hl ?_;show(if(k':Int)=(k':Int)then((k':Int),AV.int ((max v' v:Nat):Int))else _)::(cG t).map _=_;refine aa (if_pos rfl) ?_;refine aa (GN t hn.1) ?_;rfl
  ·refine aa (if_neg e) ?_;have hk:k∈t.map (·.1):=by
    rw[ZG]at h;rcases ZT.mp h with h'|h'
    ·exact absurd h'.symm e
    ·exact h'
   have hl:iS ((k',v')::t) k=iS t k:=by
    unfold iS;refine aa Z1 ?_;refine aa (beq_eq_false_iff_ne.mpr (λc=>e c.symm)) ?_;rfl
   refine aa hl ?_;show(if(k':Int)=(k:Int)then _ else((k':Int),AV.int (v':Int)))::(cG t).map _=_;refine aa (if_neg (II e)) ?_;refine aa (Hs t hn.2 hk) ?_;rfl
theorem UT{D:Dk}(k v:Nat)(h:d0 D):dictPut (cG D) (k:Int) (.int ((max (iS D k) v:Nat):Int))=cG (gC D k v):=by
 unfold dictPut;by_cases hk:k∈D.map (·.1)
 ·have:(cG D).any (λe=>decide (e.1=(k:Int)))=true:=by
   rw[jey];refine au (Zq.mp hk) ?_;rintro e he rfl;exact aO _ (Zq.mpr ⟨e,he,rfl⟩) (by simp)
  refine aa (if_pos this) ?_;refine aa (Hs D h hk) ?_;rfl
 ·have:¬(cG D).any (λe=>decide (e.1=(k:Int)))=true:=by
   rw[jey];rintro⟨x,hx,hd⟩;refine au (Zq.mp hx) ?_;rintro e he rfl;have h5:(e.1:Int)=(k:Int):=of_decide_eq_true hd;have:e.1=k:=by lia
   exact hk (Zq.mpr ⟨e,he,this⟩)
  have hl:iS D k=0:=by
   unfold iS;have:D.lookup k=none:=by
    rw[jhi];intro p hp;rw[bne_iff_ne];rintro rfl;exact hk (Zq.mpr ⟨p,hp,rfl⟩)
   refine aa this ?_;rfl
  refine aa (if_neg this) ?_;refine aa (Iy D hk) ?_;refine aa hl ?_;refine aa (Nat.zero_max _) ?_;unfold cG;refine aa ZW ?_;rfl
def fk(S j:Nat):Bool:=decide (S/2^j%2=1)
def ie(nl:List Nat)(S:Nat):Nat:=((nl.filter (fk S)).map (2^·)).sum
def nN(sh lo:Nat)(acc D:Dk):Dk:=D.foldl (λacc e=>gC acc (e.1+sh) (e.2+lo)) acc
def lu(S i:Nat):Nat:=if S%2^i=0 then 1 else 0
def di(ac:List (List Nat))(T:List Dk)(S:Nat)(acc:Dk)(i:Nat):Dk :=
 if fk S i then nN (32^i*ie (ac.getD i []) (S-2^i)) (lu (S-2^i) i) acc (T.getD (S-2^i) [])else acc
def mh(ac:List (List Nat))(T:List Dk)(S:Nat):Dk:=(Za ac.length).foldl (di ac T S) []
def bL(ac:List (List Nat)):Nat->List Dk
 |0=>[[(0,0)]]
 |s+1=>bL ac s++[mh ac (bL ac s) (s+1)]
theorem Wn:bL ac 0=[[(0,0)]]:=rfl
theorem oR:bL ac (s+1)=bL ac s++[mh ac (bL ac s) (s+1)]:=rfl
theorem xd{sh lo:Nat}:∀(D acc:Dk),d0 acc->d0 (nN sh lo acc D)
 | [],_,h=>h
 |e::D,acc,h=>xd D _ (Iz h)
theorem Ix(k v:Nat)(D:Dk):(gC D k v).length<=D.length+1:=by
 have:=congrArg jaT (Bs k v D);rw[Y4]at this;refine aa this ?_;split
 ·refine aa (Y4 _) ?_;exact jcJ jbO
 ·refine aa Ze ?_;refine aa (Y4 _) ?_;exact Y9 _
theorem xb{sh lo:Nat}:∀(D acc:Dk),(nN sh lo acc D).length<=acc.length+D.length
 | [],_=>Y9 _
 |e::D,acc=>by
  have h1:=xb (sh:=sh) (lo:=lo) D (gC acc (e.1+sh) (e.2+lo));have h2:=Ix (e.1+sh) (e.2+lo) acc;show(nN sh lo (gC acc (e.1+sh) (e.2+lo)) D).length<=_;refine aa Zr ?_;lia
theorem Va(ac:List (List Nat))(T:List Dk)(S:Nat):d0 (mh ac T S):=by
 have:∀(l:List Nat) (acc:Dk),d0 acc->d0 (l.foldl (di ac T S) acc):=λl=>by
  induction l with
  |nil=>exact λY h=>h
  |cons i l ih =>
   intro acc h;refine ih _ ?_;unfold di;split
   ·exact xd _ _ h
   ·exact h
 exact this _ _ jaW
theorem nz(ac:List (List Nat)):∀s,(bL ac s).length=s+1
 |0=>rfl
 |s+1=>by
  rw[oR];refine aa Ze ?_;refine aa (nz ac s) ?_;rfl
theorem H8(ac:List (List Nat)):∀s,∀D∈bL ac s,d0 D
 |0,D,h=>by
  rw[Wn,Zu]at h;subst h;unfold d0;simp
 |s+1,D,h=>by
  rw[oR,ZI,Zu]at h;rcases h with h|rfl
  ·exact H8 ac s D h
  ·exact Va _ _ _
theorem tV(ac:List (List Nat)){k:Nat}:∀s,k<=s->(bL ac s).getD k []=(bL ac k).getD k []
 |0,h=>by refine aa (Nat.le_zero.mp h) ?_;rfl
 |s+1,h=>by
  by_cases e:k=s+1
  ·refine aa e ?_;rfl
  ·have ih:=tV ac s (by lia:k<=s);refine rwj ih ?_
   conv=>lhs;rw[oR]
   rw[Zb,Zx (by refine aa (nz _ _) ?_;lia),Zb]
def tab(ac:List (List Nat))(S:Nat):Dk:=(bL ac S).getD S []
theorem Wm(ac:List (List Nat))(s:Nat):tab ac (s+1)=mh ac (bL ac s) (s+1):=by
 unfold tab
 conv=>lhs;rw[oR]
 have:=nz ac s;refine aa Zb ?_;refine aa (Zk (ZP this)) ?_;refine aa this ?_;refine aa (jaE _) ?_;rfl
def pc(S:Nat):Nat:=(Za 5).countP (fk S)
theorem Hn:∀S,S<32->∀i,i<5->fk S i=true->pc (S-2^i)+1=pc S/\2^i<=S/\S-2^i<S:=by decide +kernel
theorem Hm(S:Nat):pc S<=5:=by
 unfold pc;exact Y5 List.countP_le_length (by simp)
theorem Wl{ac:List (List Nat)}(hn:ac.length<=5):∀S,S<32->(tab ac S).length<=5^pc S:=by
 intro S
 induction S using Nat.strongRecOn with
 |_ S ih =>
  intro hS
  induction S using jaA with
  |zero=>exact jcR (by decide)
  |succ s =>
   refine aa (Wm _ _) ?_;have QO:∀(l:List Nat) (acc:Dk),(∀i∈l,i<5)->(l.foldl (di ac (bL ac s) (s+1)) acc).length<=acc.length+l.countP (fk (s+1))*5^(pc (s+1)-1):=λl=>by
    induction l with
    |nil=>intro acc _;simp
    |cons i l ihl =>
     intro acc hl;have h1:=ihl (di ac (bL ac s) (s+1) acc i) (λj hj=>hl j (by simp[hj]));refine aa jcK ?_;refine Y5 h1 ?_;refine aa jex ?_;unfold di;by_cases hb:fk (s+1) i=true
     ·refine aa (if_pos hb) ?_;refine aa (if_pos hb) ?_;have hp:=Hn (s+1) hS i (hl i (by simp)) hb;have h2:=xb (sh:=32^i*ie (ac.getD i []) (s+1-2^i)) (lo:=lu (s+1-2^i) i) ((bL ac s).getD (s+1-2^i) []) acc;have h3:=ih (s+1-2^i) hp.2.2 (by lia);have h4:(bL ac s).getD (s+1-2^i) []=tab ac (s+1-2^i):=tV ac s (by lia);rw[<-h4,show pc (s+1-2^i)=pc (s+1)-1 by lia]at h3;rewrite [jcS];refine aa (jek _) ?_
      lia
     ·refine aa (if_neg hb) ?_;refine aa (if_neg hb) ?_;refine aa (Nat.add_zero _) ?_;exact Y9 _
   have h1:=QO (Za ac.length) [] (λi hi=>by have:=ZM.mp hi;exact bf this hn);have h2:(Za ac.length).countP (fk (s+1))<=pc (s+1):=by
    exact List.Sublist.countP_le (List.range_sublist.mpr hn)
   have h3:pc (s+1)≠0->5^pc (s+1)=5*5^(pc (s+1)-1):=λh=>by
    conv=>lhs;rw[show pc (s+1)=pc (s+1)-1+1 by lia]
    refine aa (jdb _ _) ?_;refine aa (jaR _ _) ?_;rfl
   have h5:=Hm (s+1);unfold mh;refine Y5 h1 ?_;show 0+_<=_;by_cases h0:pc (s+1)=0
   ·rw[h0]at h2;refine aa (Nat.le_zero.mp h2) ?_;refine aa (Nat.zero_mul _) ?_;exact jbp _
   ·refine aa (h3 h0) ?_;refine aa (jdO _) ?_;exact jbq (by lia) (Y9 _)
theorem Bl{ac:List (List Nat)}(hn:ac.length<=5){S:Nat}(hS:S<32):(tab ac S).length<=3125 :=
 Y5 (Wl hn S hS) (Y5 (Zp (by decide) (Hm S)) (by decide))
def cR(D:Dk):AV:=.dct (cG D)
def jq(T:List Dk)(g:Nat):aA:=.list (T.map cR)::Zm g .gone
def cP(T:List Dk)(g:Nat)(acc:Dk):aA:=jq T g++[.dict (cG acc)]
theorem oQ(T:List Dk)(g:Nat):(jq T g).length=g+1:=by
 unfold jq;refine aa Zr ?_;refine aa jaB ?_;rfl
theorem Bc(T:List Dk)(g:Nat)(acc:Dk):(cP T g acc)[g+1]?=some (.dict (cG acc)):=by
 unfold cP;rw[Zk (by rw[oQ];exact Y9 _),oQ,jaE];rfl
theorem VX(T:List Dk)(g:Nat)(acc BY:Dk):(cP T g acc).set (g+1) (.dict (cG BY))=cP T g BY:=by
 unfold cP;rw[jcf,if_neg (by rw[oQ];exact Zv (g+1)),oQ,jaE];rfl
section
theorem Nu(h1:ev Φ σ ρ ve=some w)(hs:w.scalar=true)(h2:ρ[x]?=some (some (.ref i)))(h3:ev Φ σ ρ ke=some (.int k))(h4:σ[i]?=some (.dict es))(hl:es.length<=100000)(h5:aE Φ ρ (σ.set i (.dict (dictPut es k w))) ss=r):aE Φ ρ σ (.cons (.put x ke ve) ss)=r:=by
 refine iH ?_ h5;rewrite [DO];refine aa h1 ?_;refine(if_pos hs).trans ?_;refine aa h2 ?_;refine aa h3 ?_;dsimp only;refine aa h4 ?_;exact if_pos hl
theorem Bj:∀l:List Nat,em (l.map Z9)=((l.sum:Nat):Int)
 | []=>rfl
 |a::l=>by
  rw[ZG,wy,Bj l,jap,jbz];rfl
theorem uV(h1:ev Φ σ ρ a=some (.lst (aq l)))(hs:l.sum<2^53):ev Φ σ ρ (.call .sum (.cons a .nil))=some (.int (l.sum:Nat)):=by
 refine dK (cT h1) ?_;show(tQ (aq l)).map AV.int=_;unfold tQ;refine aa (qI _) ?_;unfold bB;refine aa (rK _) ?_;simp only[];have k1:(l.map Z9).all (λi=>decide (0<=i))=true:=by
  rw[Y'];intro i hi;refine au (Zq.mp hi) ?_;rintro j _ rfl;exact decide_eq_true (Zl j)
 have k2:em (l.map Z9)<2^53:=by
  refine aa (Bj _) ?_;have:((l.sum:Nat):Int)<((2^53:Nat):Int):=jbF.mpr hs;exact this
 show(if _ then _ else _:Option Int).map AV.int=_;refine aa (if_pos (And.intro k1 k2)) ?_;refine aa (Bj _) ?_;rfl
end
theorem wz(M:Nat):∀l:List Nat,(∀x∈l,x<=M)->l.sum<=l.length*M
 | [],_=>by simp
 |a::l,h=>by
  have h1:=h a (by simp);have h2:=wz M l (λx hx=>h x (by simp[hx]));rw[jap,Zr,jcS,jek];lia
theorem Tv(h:∀j∈nl,j<5)(hl:nl.length<=5):ie nl S<=80:=by
 unfold ie;have h1:=wz 16 ((nl.filter (fk S)).map (2^·)) (λx hx=>by
  refine au (Zq.mp hx) ?_;rintro j hj rfl;have:=h j (jdA.mp hj).1;exact Y5 (Zp (by decide) (show j<=4 from jba this)) (by decide))
 rw[Y4]at h1;have:=jdg (fk S) nl
 lia
def wo:dw:=(.cons (.put 3 (.bin .Add (.var 8) (.var 6)) (.call .max (.cons (.call .get (.cons (.var 3) (.cons (.bin .Add (.var 8) (.var 6)) (.cons (.c (.int 0)) .nil)))) (.cons (.bin .Add (.idx (.idx (.var 1) (.var 5)) (.var 8)) (.var 7)) .nil)))) .nil)
abbrev mF(ac:List (List Nat))(S g i S' sh lo:Nat)(v8:Option AV):aB:=[some (b9 ac),some (.ref 0),some (.int S),some (.ref (g+1)),some (.int i),some (.int S'),some (.int sh),some (.int lo),v8]
theorem US(hT:S'<T.length)(kj:T.length<=1000)(he:e∈T.getD S' [])(hn:d0 (T.getD S' []))(ha:d0 acc)(mX:acc.length<=100000):
 aE Φ (mF ac S g i S' sh lo (some (.int (e.1:Nat)))) (cP T g acc) wo=some (.next (mF ac S g i S' sh lo (some (.int (e.1:Nat)))) (cP T g (gC acc (e.1+sh) (e.2+lo)))):=by
 have hk:ev Φ (cP T g acc) (mF ac S g i S' sh lo (some (.int (e.1:Nat)))) (.bin .Add (.var 8) (.var 6))=some (.int ((e.1+sh:Nat):Int)):=iF (ag rfl) (ag rfl);have hg:ev Φ (cP T g acc) (mF ac S g i S' sh lo (some (.int (e.1:Nat)))) (.call .get (.cons (.var 3) (.cons (.bin .Add (.var 8) (.var 6)) (.cons (.c (.int 0)) .nil))))=some (.int (iS acc (e.1+sh):Nat)):=by
  refine dK (gJ (ag rfl) hk aR) ?_;have hd:gH (cP T g acc) (.ref (g+1))=some (cG acc):=LP (Bc ..);show(match gH (cP T g acc) (.ref (g+1))with|some es=>some (match es.lookup ((e.1+sh:Nat):Int)with|some v=>v|none=>.int ((0:Nat):Int))|none=>none)=_;refine aa hd ?_;simp only[Ar];unfold iS;cases acc.lookup (e.1+sh)<;>rfl
 have fu:(T.map cR)[S']?=some (cR (T.getD S' [])):=by
  refine aa ZR ?_;refine aa Zb ?_;refine aa (Zg hT) ?_;rfl
 have hv:ev Φ (cP T g acc) (mF ac S g i S' sh lo (some (.int (e.1:Nat)))) (.idx (.idx (.var 1) (.var 5)) (.var 8))=some (.int (e.2:Nat)):=by
  refine mL (uS (j:=0) (k:=S') (l:=T.map cR) (ag rfl) (ag rfl) rfl fu (by refine aa (Y4 _) ?_;exact bw kj rfl)) (ag rfl) ?_;show(cG (T.getD S' [])).lookup ((e.1:Nat):Int)=_;refine aa (Ar _ _) ?_;refine aa (GA (k:=e.1) (v:=e.2) _ hn he) ?_;rfl
 refine Nu (w:=.int ((max (iS acc (e.1+sh)) (e.2+lo):Nat):Int)) (i:=g+1) (k:=((e.1+sh:Nat):Int)) (es:=cG acc) ?_ rfl rfl hk (Bc T g acc) (by unfold cG;refine aa (Y4 _) ?_;exact mX) ?_
 ·refine dK (dL hg (iF hv (ag rfl))) ?_;show some (AV.int (if((iS acc (e.1+sh):Nat):Int)<((e.2+lo:Nat):Int)then((e.2+lo:Nat):Int)else((iS acc (e.1+sh):Nat):Int)))=_;refine congrArg (λz=>some (AV.int z)) ?_;split<;>lia
 ·refine aa (UT _ _ ha) ?_;rw[VX];exact bG
theorem Hr(hT:S'<T.length)(kj:T.length<=1000)(hn:d0 (T.getD S' [])):∀(es:Dk) (acc:Dk) (v8:Option AV),(∀e∈es,e∈T.getD S' [])->d0 acc->acc.length+es.length<=100000 ->
 ∃t7,eQ (λρ σ v=>aE Φ (ρ.set 8 (some v)) σ wo) (es.map λe=>AV.int (e.1:Nat)) (mF ac S g i S' sh lo v8) (cP T g acc)=some (.next (mF ac S g i S' sh lo t7) (cP T g (nN sh lo acc es)))
 | [],acc,v8,_,_,_=>⟨v8,rfl⟩
 |e::es,acc,v8,he,ha,hl=>by
  rw[Zr]at hl;have hu:=Ix (e.1+sh) (e.2+lo) acc;refine aX (Hr (Φ:=Φ) (ac:=ac) (S:=S) (g:=g) (i:=i) (sh:=sh) (lo:=lo) hT kj hn es (gC acc (e.1+sh) (e.2+lo)) (some (.int (e.1:Nat))) (λx hx=>he x (by simp[hx])) (Iz ha) (by lia)) λt7 h2=>?_;refine⟨t7,?_⟩;refine aa ZG ?_;rw[yK];have h1:=US (Φ:=Φ) (ac:=ac) (T:=T) (S:=S) (g:=g) (i:=i) (S':=S') (sh:=sh) (lo:=lo) (acc:=acc) (e:=e) hT kj (he e (by simp)) hn ha (BA hl);show(match aE Φ (mF ac S g i S' sh lo (some (.int (e.1:Nat)))) (cP T g acc) wo with|some (.next av an)=>eQ _ _ av an|some (.ret r)=>some (.ret r)|none=>none)=_;refine aa h1 ?_;exact h2
theorem Eh(σ:aA)(k:Nat)(D:Dk):aZ σ (k+2) (cR D)=some (cR D):=by
 unfold cR;rw[OJ];have:bj (λe=>(aZ σ (k+1) e.2).map (e.1,·)) (cG D)=some ((cG D).map id):=by
  refine oL _ (λe he=>?_);refine au (Zq.mp he) ?_;rintro d _ rfl;rfl
 refine aa this ?_;refine aa (jca _) ?_;rfl
def Km:dw:=(.cons (.asg 5 false (.bin .Sub (.var 2) (.bin .Pow (.c (.int 2)) (.var 4))))
 (.cons (.asg 6 false (.bin .Mult (.bin .Pow (.c (.int 32)) (.var 4)) (.call .sum (.cons (.comp 1 (.cons 9 (.val (.idx (.var 0) (.var 4))) (.cons (.cmp .Eq (.bin .Mod (.bin .FloorDiv (.var 5) (.bin .Pow (.c (.int 2)) (.var 9))) (.c (.int 2))) (.c (.int 1))) .nil) (.done (.bin .Pow (.c (.int 2)) (.var 9))))) .nil))))
 (.cons (.asg 7 false (.ite (.cmp .Eq (.bin .Mod (.var 5) (.bin .Pow (.c (.int 2)) (.var 4))) (.c (.int 0))) (.c (.int 1)) (.c (.int 0))))
 (.cons (.for_ 8 (.val (.idx (.var 1) (.var 5))) wo)
 .nil))))
def xt:dw:=(.cons (.ife (.cmp .Eq (.bin .Mod (.bin .FloorDiv (.var 2) (.bin .Pow (.c (.int 2)) (.var 4))) (.c (.int 2))) (.c (.int 1))) Km .nil) .nil)
section
theorem Ul(h:i<60):(2:Nat)^i<2^64:=Nat.pow_lt_pow_right (by decide) (bw h rfl)
theorem x9{a b:Ex}{S i:Nat}(h1:ev Φ σ ρ a=some (.int S))(h2:ev Φ σ ρ b=some (.int i))(hi:i<60):ev Φ σ ρ (.cmp .Eq (.bin .Mod (.bin .FloorDiv a (.bin .Pow (.c (.int 2)) b)) (.c (.int 2))) (.c (.int 1)))=some (.bool (fk S i)):=
 pT (x:=S/2^i%2) (y:=1) (dV (y:=2) (jC h1 (jE (x:=2) aR h2 (by decide) (IS hi rfl)) (by have:=jcR (n:=i) (show 0<2 by decide);simp) (Ul hi)) aR (by decide)) aR
end
theorem KX{Φ:cX}{ac:List (List Nat)}{T:List Dk}{S g i:Nat}{acc:Dk}{e5 e6 e7 e8:Option AV}(hn:ac.length<=5)(hi:i<ac.length)(hS:S<32)(hT:T.length=S)(df:∀D∈T,d0 D)(kj:∀D∈T,D.length<=3125)(ha:d0 acc)(mX:acc.length<=20000)(sW:∀j∈ac.getD i [],j<ac.length)(jM:(ac.getD i []).length<=5):
 ∃iz iA iB iC,aE Φ [some (b9 ac),some (.ref 0),some (.int S),some (.ref (g+1)),some (.int i),e5,e6,e7,e8] (cP T g acc) xt=some (.next [some (b9 ac),some (.ref 0),some (.int S),some (.ref (g+1)),some (.int i),iz,iA,iB,iC] (cP T g (di ac T S acc i))):=by
 by_cases hb:fk S i=true
 ·have hp:=Hn S hS i (bf hi hn) hb;have e1:di ac T S acc i=nN (32^i*ie (ac.getD i []) (S-2^i)) (lu (S-2^i) i) acc (T.getD (S-2^i) []):=by unfold di;refine aa (if_pos hb) ?_;rfl
  refine aa e1 ?_;have Fm:=Tv (S:=S-2^i) (λj hj=>bf (sW j hj) hn) jM;have y9:S-2^i<T.length:=by simp[*]
  have oB:T.getD (S-2^i) []∈T:=by
   refine aa Zb ?_;refine aa (Zg y9) ?_;exact jbJ _
  have Yn:=kj _ oB;refine aX (Hr (Φ:=Φ) (ac:=ac) (T:=T) (S:=S) (g:=g) (i:=i) (S':=S-2^i) (sh:=32^i*ie (ac.getD i []) (S-2^i)) (lo:=lu (S-2^i) i) y9 (by lia) (df _ oB) (T.getD (S-2^i) []) acc e8 (λY h=>h) ha (by lia)) λt7 hf=>?_;refine F5 (some (.int (S-2^i:Nat))) (some (.int (32^i*ie (ac.getD i []) (S-2^i):Nat))) (some (.int (lu (S-2^i) i:Nat))) t7 ?_;refine mQ ((x9 (ag rfl) (ag rfl) (by lia)).trans (by refine aa hb ?_;rfl)) ?_ bG;refine aT (v:=.int (S-2^i:Nat)) (sm (ag rfl) (jE (x:=2) aR (ag rfl) (by decide) (by lia)) hp.2.1) ?_;refine aT (v:=.int (32^i*ie (ac.getD i []) (S-2^i):Nat)) ?_ ?_
  ·refine mM (jE (x:=32) aR (ag rfl) (by decide) (by lia)) (uV (l:=((ac.getD i []).filter (fk (S-2^i))).map (2^·)) ?_ ?_) (jfC (Zy Fm (by decide)))
   ·refine(nZ (x:=9) (vs:=aq (ac.getD i [])) (p:=λv=>match v with | .int j=>fk (S-2^i) j.toNat|_=>false) (g:=λv=>match v with | .int j=>.int ((2^j.toNat:Nat):Int)|v=>v) ?_ rfl (by refine aa (Y4 _) ?_;exact bw jM rfl) (λv hv=>?_) (λv hv Y=>?_)).trans ?_
    ·have:∀{ρ:aB},ρ[0]?=some (some (b9 ac))->ρ[4]?=some (some (.int (i:Int)))->ev Φ (cP T g acc) ρ (.idx (.var 0) (.var 4))=some (.lst (aq (ac.getD i []))):=λg0 g4=>by
      refine fX (l:=ac.map λl=>.lst (aq l)) (k:=i) (ag g0) (ag g4) ?_ (by refine aa (Y4 _) ?_;exact bw hn rfl);refine aa ZR ?_;refine aa Zb ?_;refine aa (Zg hi) ?_;rfl
     rewrite [si];refine aa (this rfl rfl) ?_;rfl
    ·refine au (Zq.mp hv) ?_;rintro j hj rfl;have:=sW j hj;show _=some (fk (S-2^i) (j:Int).toNat);refine aa (ZF _) ?_;exact kS (x9 (ag rfl) (ag rfl) (by lia))
    ·refine au (Zq.mp hv) ?_;rintro j hj rfl;have:=sW j hj;show _=some (AV.int ((2^(j:Int).toNat:Nat):Int));refine aa (ZF _) ?_;exact jE (x:=2) aR (ag rfl) (by decide) (by lia)
    ·unfold aq;refine aa jch ?_;refine aa ZN ?_;refine aa ZN ?_
     congr 2
   ·have:ie (ac.getD i []) (S-2^i)<2^53:=Zy Fm (by decide);exact this
  refine aT (v:=.int (lu (S-2^i) i:Nat)) ?_ ?_
  ·have hc:∀{ρ:aB},ρ[5]?=some (some (.int ((S-2^i:Nat):Int)))->ρ[4]?=some (some (.int (i:Int)))->ev Φ (cP T g acc) ρ (.cmp .Eq (.bin .Mod (.var 5) (.bin .Pow (.c (.int 2)) (.var 4))) (.c (.int 0)))=some (.bool (decide ((S-2^i)%2^i=0))):=λg5 g4 =>
    pT (y:=0) (dV (ag g5) (jE (x:=2) aR (ag g4) (by decide) (by lia)) (by have:=jcR (n:=i) (show 0<2 by decide);exact X3 this)) aR
   unfold lu;by_cases h0:(S-2^i)%2^i=0
   ·refine aa (if_pos h0) ?_;exact pV ((hc rfl rfl).trans (by refine aa (decide_eq_true h0) ?_;rfl)) aR
   ·refine aa (if_neg h0) ?_;exact pU ((hc rfl rfl).trans (by refine aa (decide_eq_false h0) ?_;rfl)) aR
  refine kY (vs:=(T.getD (S-2^i) []).map λe=>AV.int (e.1:Nat)) ?_ hf bG;have hv:∀{ρ:aB},ρ[1]?=some (some (.ref 0))->ρ[5]?=some (some (.int ((S-2^i:Nat):Int)))->ev Φ (cP T g acc) ρ (.idx (.var 1) (.var 5))=some (cR (T.getD (S-2^i) [])):=λg1 g5=>by
   refine uS (j:=0) (k:=S-2^i) (l:=T.map cR) (ag g1) (ag g5) rfl ?_ (by refine aa (Y4 _) ?_;lia);refine aa ZR ?_;refine aa Zb ?_;refine aa (Zg y9) ?_;rfl
  rw[Dc,hv rfl rfl];show some ((cG _).map λe=>AV.int e.1)=_;unfold cG;refine aa ZN ?_;rfl
 ·have e1:di ac T S acc i=acc:=by unfold di;refine aa (if_neg hb) ?_;rfl
  refine aa e1 ?_;exact F5 e5 e6 e7 e8 (du ((x9 (ag rfl) (ag rfl) (by lia)).trans (by refine aa (jfG.mpr hb) ?_;rfl)) bG bG)
theorem U7(h:(T.getD (S-2^i) []).length<=3125):(di ac T S acc i).length<=acc.length+3125:=by
 unfold di;split
 ·have:=xb (sh:=32^i*ie (ac.getD i []) (S-2^i)) (lo:=lu (S-2^i) i) (T.getD (S-2^i) []) acc
  lia
 ·exact ZH (jaT acc) 3125
theorem U8(h:d0 acc):d0 (di ac T S acc i):=by
 unfold di;split
 ·exact xd _ _ h
 ·exact h
theorem U'{ac:List (List Nat)}{T:List Dk}(gr:iw ac)(hS:S<32)(hT:T.length=S)(df:∀D∈T,d0 D)(kj:∀D∈T,D.length<=3125):
 ∃kR iz iA iB iC,eQ (λρ σ v=>aE Φ (ρ.set 4 (some v)) σ xt) (aq (Za ac.length)) [some (b9 ac),some (.ref 0),some (.int S),some (.ref (g+1)),e4,e5,e6,e7,e8] (cP T g []) =
  some (.next [some (b9 ac),some (.ref 0),some (.int S),some (.ref (g+1)),kR,iz,iA,iB,iC] (cP T g (mh ac T S))):=by
 have hn:=gr.le;obtain⟨av,an,h1,kR,iz,iA,iB,iC,rfl,rfl,_,_⟩:=sD (f:=λρ σ v=>aE Φ (ρ.set 4 (some v)) σ xt) (n:=ac.length) (ρ:=[some (b9 ac),some (.ref 0),some (.int S),some (.ref (g+1)),e4,e5,e6,e7,e8]) (σ:=cP T g [])
  (I:=λk ρ σ=>∃e4 e5 e6 e7 e8,ρ=[some (b9 ac),some (.ref 0),some (.int S),some (.ref (g+1)),e4,e5,e6,e7,e8]/\σ=cP T g ((Za k).foldl (di ac T S) [])/\d0 ((Za k).foldl (di ac T S) [])/\((Za k).foldl (di ac T S) []).length<=3125*k)
  ⟨e4,e5,e6,e7,e8,rfl,rfl,jaW,by simp⟩ (by
   rintro k ρ σ hk ⟨e4,e5,e6,e7,e8,rfl,rfl,Fc,Yv⟩;refine DF (KX (Φ:=Φ) (ac:=ac) (T:=T) (S:=S) (g:=g) (i:=k) (acc:=(Za k).foldl (di ac T S) []) (e5:=e5) (e6:=e6) (e7:=e7) (e8:=e8) hn hk hS hT df kj Fc (by lia) (λj hj=>(gr.sym k j hj).1) (tx 5 _ (gr.nd k) (λj hj=>by have:=(gr.sym k j hj).1;exact bf this hn))) λiz iA iB iC hs=>?_;have e:(Za (k+1)).foldl (di ac T S) []=di ac T S ((Za k).foldl (di ac T S) []) k:=by
    refine aa jaO ?_;refine aa jiv ?_;rfl
   have hl:(T.getD (S-2^k) []).length<=3125:=by
    refine aa Zb ?_
    induction hh:T[S-2^k]? using ae with
    |none=>simp
    |some D=>exact kj D (ZK hh)
   refine⟨_,_,hs,some (.int k),iz,iA,iB,iC,rfl,by refine aa e ?_;rfl,by refine aa e ?_;exact U8 Fc,?_⟩;refine aa e ?_;have:=U7 (ac:=ac) (acc:=(Za k).foldl (di ac T S) []) hl
   lia)
 exact z9 kR iz iA iB iC h1
theorem Jr(h1:ρ[1]?=some (some (.ref 0)))(h3:ρ[3]?=some (some (.ref (g+1))))(hl:T.length<=1000)(h:aE Φ ρ (jq (T++[row]) (g+1)) ss=r):
 aE Φ ρ (cP T g row) (.cons (.app (.var 1) (.var 3)) ss)=r:=by
 refine iH ?_ h;have f1:ev Φ (cP T g row) ρ (.var 1)=some (.ref 0):=ag h1;have f3:ev Φ (cP T g row) ρ (.var 3)=some (.ref (g+1)):=ag h3;have fz:lT (cP T g row) (g+1)=some (cR row):=by
  unfold lT;rw[Bc];exact Eh [] 4 row
 have e0:(cP T g row)[0]?=some (.list (T.map cR)):=rfl;rewrite [yx];refine aa f1 ?_;simp only[f3,e0];rw[if_pos (by refine aa (Y4 _) ?_;exact bw hl rfl),if_neg (by lia),fz];show some (Fl.next ρ (((cP T g row).set (g+1) .gone).set 0 (.list (T.map cR++[cR row]))))=_;have:((cP T g row).set (g+1) .gone).set 0 (.list (T.map cR++[cR row]))=jq (T++[row]) (g+1):=by
  unfold cP;rw[jcf,if_neg (by refine aa (oQ _ _) ?_;exact Zv (g+1)),oQ,jaE];unfold jq;refine aa List.replicate_succ' ?_;refine aa ZW ?_;rfl
 refine aa this ?_;rfl
def Cs:dw:=match yD.body with | .cons _ (.cons (.for_ _ _ b) _)=>b|_=>.nil
theorem KY(gr:iw ac)(hS:s+1<32):
 ∃uO kR iz iA iB iC,aE Φ [some (b9 ac),some (.ref 0),some (.int (s+1:Nat)),e3,e4,e5,e6,e7,e8] (jq (bL ac s) s) Cs =
  some (.next [some (b9 ac),some (.ref 0),some (.int (s+1:Nat)),uO,kR,iz,iA,iB,iC] (jq (bL ac (s+1)) (s+1))):=by
 have hn:=gr.le;have hT:=nz ac s;have df:=H8 ac s;have kj:∀D∈bL ac s,D.length<=3125:=λD hD=>by
  obtain⟨k,hk,rfl⟩:=jhQ hD;have h1:=Bl hn (S:=k) (by lia);have h2:=tV ac (k:=k) s (by lia);unfold tab at h1;rw[<-h2,Zb,Zg hk]at h1;exact h1
 refine uY (U' (Φ:=Φ) (ac:=ac) (T:=bL ac s) (S:=s+1) (g:=s) (e4:=e4) (e5:=e5) (e6:=e6) (e7:=e7) (e8:=e8) gr hS hT df kj) λkR iz iA iB iC hr=>?_;refine RF (some (.ref (s+1))) kR iz iA iB iC ?_;refine sr (v:=.ref (s+1)) (an:=cP (bL ac s) s []) ?_ ?_
 ·show some (AV.ref (jq (bL ac s) s).length,jq (bL ac s) s++[.dict []])=_;refine aa (oQ _ _) ?_;rfl
 refine kY (vs:=aq (Za ac.length)) (nX (j' (dK (vs:=[b9 ac]) rfl ?_) (bw hn rfl))) hr ?_
 ·show fL (ac.map λl=>AV.lst (aq l)).length=_;refine aa (Y4 _) ?_;unfold fL;refine aa (if_pos (bw hn rfl)) ?_;rfl
 exact Jr rfl rfl (by lia) bG
theorem NQ(gr:iw ac):Fi (N+1) 19 [b9 ac]=some (.lst ((bL ac (2^ac.length-1)).map cR)):=by
 have hn:=gr.le;have mW:2^ac.length<=32:=Y5 (Zp (by decide) hn) (by decide);refine fB (N:=N) Ot rfl ?_;show aE (Fi N) [some (b9 ac),none,none,none,none,none,none,none,none] [] yD.body=_;refine sr (v:=.ref 0) (an:=jq (bL ac 0) 0) rfl ?_;obtain⟨av,an,h1,Yh,uO,kR,iz,iA,iB,iC,rfl,rfl⟩:=sC (f:=λρ σ v=>aE (Fi N) (ρ.set 2 (some v)) σ Cs) (g:=λ(i:Nat)=>AV.int i)
  (I:=λpre ρ σ=>∃e2 e3 e4 e5 e6 e7 e8,ρ=[some (b9 ac),some (.ref 0),e2,e3,e4,e5,e6,e7,e8]/\σ=jq (bL ac pre.length) pre.length) (ZX 1 (2^ac.length-1)) [] [some (b9 ac),some (.ref 0),none,none,none,none,none,none,none] (jq (bL ac 0) 0)
  ⟨none,none,none,none,none,none,none,rfl,rfl⟩ (by
   rintro p x q ρ σ e ⟨e2,e3,e4,e5,e6,e7,e8,rfl,rfl⟩;have e:ZX 1 (2^ac.length-1)=p++x::q:=e;have hx:x=p.length+1:=by
    have h1:(ZX 1 (2^ac.length-1))[p.length]?=some x:=by refine aa e ?_;simp
    rw[ZE]at h1;refine aX h1 λY h1=>?_;rw[List.getElem_range']at h1
    lia
   have a0:p.length<2^ac.length-1:=by
    have:=congrArg jaT e;rw[jbK,Ze,Zr]at this;simp[*]
   refine Nq (KY (Φ:=Fi N) (ac:=ac) (s:=p.length) (e3:=e3) (e4:=e4) (e5:=e5) (e6:=e6) (e7:=e7) (e8:=e8) gr (by omega)) λuO kR iz iA iB iC ht=>?_;subst hx;refine⟨_,_,ht,some (.int (p.length+1:Nat)),uO,kR,iz,iA,iB,iC,rfl,?_⟩;refine aa Ze ?_;rfl)
 rw[jbd,jbK]at *;refine kY (vs:=aq (ZX 1 (2^ac.length-1))) (nX (x5 (a:=1) aR (jE (x:=2) aR (dK (vs:=[b9 ac]) rfl ?_) (by decide) (bw hn rfl)) (bw mW rfl) (jcj 1 99999))) h1 ?_
 ·show fL (ac.map λl=>AV.lst (aq l)).length=_;refine aa (Y4 _) ?_;unfold fL;refine aa (if_pos (bw hn rfl)) ?_;rfl
 refine dX (v:=.ref 0) rfl ?_;show(bj (aZ _ 5) ((bL ac (2^ac.length-1)).map cR)).map AV.lst=_;rw[oL (g:=id) _ (λa ha=>?_),jca];rfl;refine au (Zq.mp ha) ?_;rintro D _ rfl;exact Eh _ 3 D
def mC(D:Dk)(n c:Nat):Nat:=D.countP λe=>decide ((Za n).filter (λi=>decide (e.1/32^i%32=0))=[c])
def dT(D:Dk)(n:Nat):List Nat:=mC D n 0::(ZX 2 (n-1)).map λk=>D.countP λe=>decide (e.2=k)
def hN(b:Nat)(ds:List Nat):Nat:=ds.foldr (λd s=>b*(d+s)) 0
def hI(h:Int)(ds:List Nat):Int:=ds.foldr (λ(d:Nat) (s:Int)=>h*((d:Int)-s)) 0
def i6(ac:List (List Nat)):Nat:=((Za (2^ac.length)).map λS=>(tab ac S).length*(tab ac (2^ac.length-1-S)).length).sum
def tM(n:Nat)(a:Int):Int:=if n%2=1 then a else -a
structure o5(ac:List (List Nat)):Prop where
 alone:∀c,c<ac.length->mC (tab ac (2^ac.length-1)) ac.length c=mC (tab ac (2^ac.length-1)) ac.length 0
 sum:(dT (tab ac (2^ac.length-1)) ac.length).sum=(tab ac (2^ac.length-1)).length
 lq:(dT (tab ac (2^ac.length-1)) ac.length).getD (ac.length-1) 0=1
 deals:hN 2 (dT (tab ac (2^ac.length-1)) ac.length)=i6 ac
 dpos:0<i6 ac
 dlt:i6 ac<1000
 paint:∀h:Nat,h=1\/h=2\/h=3->hI (h:Int) (dT (tab ac (2^ac.length-1)) ac.length)=tM ac.length ((ci h ac ac.length).length:Nat)
abbrev gm{α:Type}(f t:α)(b:Bool):α:=Bool.rec (motive:=λY=>α) f t b
abbrev oN{α:Type}(z s:α)(n:Nat):α:=Nat.rec (motive:=λY=>α) z (λY Y=>s) n
def sE{β:Type}(l:Dk):(Dk->β)->β:=jcg (motive:=λY=>(Dk->β)->β) (λk=>k []) (λe Y ih k=>dY e.1 λa=>dY e.2 λb=>ih λt=>k ((a,b)::t)) l
theorem yN{β:Type}:∀(l:Dk) (k:Dk->β),sE l k=k l
 | [],k=>rfl
 |e::l,k=>by
  show dY e.1 (λa=>dY e.2 λb=>sE l λt=>k ((a,b)::t))=_;rw[kh,kh,yN l]
def mV{β:Type}(l:List Nat):(List Nat->β)->β:=jcg (motive:=λY=>(List Nat->β)->β) (λk=>k []) (λe Y ih k=>dY e λa=>ih λt=>k (a::t)) l
theorem yM{β:Type}:∀(l:List Nat) (k:List Nat->β),mV l k=k l
 | [],k=>rfl
 |e::l,k=>by
  show dY e (λa=>mV l λt=>k (a::t))=_;rw[kh,yM l]
def yL{β:Type}(l:List (List Nat)):(List (List Nat)->β)->β:=jcg (motive:=λY=>(List (List Nat)->β)->β) (λk=>k []) (λe Y ih k=>mV e λa=>ih λt=>k (a::t)) l
theorem Ec{β:Type}:∀(l:List (List Nat)) (k:List (List Nat)->β),yL l k=k l
 | [],k=>rfl
 |e::l,k=>by
  show mV e (λa=>yL l λt=>k (a::t))=_;rw[yM,Ec l]
theorem pz(a b:Nat):jbb a b=decide (a=b):=by
 rw[jaQ,decide_eq_true_iff];exact⟨jcs,λh=>h▸Nat.beq_refl a⟩
def wH(l:Dk):Nat->Nat->Dk:=jcg (motive:=λY=>Nat->Nat->Dk) (λk v=>[(k,v)]) (λe t ih k v=>gm (e::ih k v) ((e.1,oN e.2 v (v-e.2))::t) (jbb e.1 k)) l
theorem Iw:∀(l:Dk) (k v:Nat),wH l k v=gC l k v
 | [],k,v=>rfl
 |(a,b)::t,k,v=>by
  show gm ((a,b)::wH t k v) ((a,oN b v (v-b))::t) (jbb a k)=_;refine aa (Iw t _ _) ?_;have e:gC ((a,b)::t) k v=if a=k then(a,max b v)::t else(a,b)::gC t k v:=by rw[wG]
  refine aa e ?_;refine aa (pz _ _) ?_;by_cases h:a=k
  ·refine aa (if_pos h) ?_;refine aa (decide_eq_true h) ?_;show((a,oN b v (v-b))::t:Dk)=_
   congr 2
   induction hv:v-b using jaA with
   |zero=>exact(Nat.max_eq_left (Nat.le_of_sub_eq_zero hv)).symm
   |succ m=>exact(Nat.max_eq_right (ZO (BE hv))).symm
  ·refine aa (if_neg h) ?_;refine aa (decide_eq_false h) ?_;rfl
def rI{β:Type}(sh lo:Nat)(l:Dk):Dk->(Dk->β)->β:=jcg (motive:=λY=>Dk->(Dk->β)->β) (λacc k=>k acc) (λe Y ih acc k=>dY (e.1+sh) λx=>dY (e.2+lo) λv=>ih (wH acc x v) k) l
theorem BZ{β:Type}(sh lo:Nat):∀(l acc:Dk) (k:Dk->β),rI sh lo l acc k=k (nN sh lo acc l)
 | [],acc,k=>rfl
 |e::l,acc,k=>by
  show dY (e.1+sh) (λx=>dY (e.2+lo) λv=>rI sh lo l (wH acc x v) k)=_;rw[kh,kh,BZ sh lo l,Iw];rfl
def qK{α:Type}(d:α)(l:List α):Nat->α:=jcg (motive:=λY=>Nat->α) (λY=>d) (λa Y ih n=>Nat.rec a (λm Y=>ih m) n) l
theorem AK{α:Type}(d:α):∀(l:List α) (n:Nat),qK d l n=l.getD n d
 | [],n=>rfl
 |a::l,0=>rfl
 |a::l,n+1=>by
  show qK d l n=_;refine aa (AK d l _) ?_;rfl
def rO(S j:Nat):Bool:=jbb (S/2^j%2) 1
theorem Cd(S j:Nat):rO S j=fk S j:=pz _ _
def qJ(nl:List Nat)(S:Nat):Nat:=jcg 0 (λj Y ih=>gm ih (2^j+ih) (rO S j)) nl
theorem GW(S:Nat):∀nl:List Nat,qJ nl S=ie nl S
 | []=>rfl
 |j::nl=>by
  show gm (qJ nl S) (2^j+qJ nl S) (rO S j)=_;refine aa (GW S nl) ?_;refine aa (Cd _ _) ?_;unfold ie;refine aa jcz ?_
  induction fk S j using ZL with
  |true=>rfl
  |false=>rfl
def oO{β:Type}(ac:List (List Nat))(TR:List Dk)(S:Nat)(i:Nat)(acc:Dk)(k:Dk->β):β :=
 jcg (motive:=λY=>Nat->Dk->β) (λY acc=>sE acc k)
  (λnl Y ih i acc=>gm (ih (i+1) acc) (dY (S-2^i) λS'=>dY (32^i*qJ nl S') λsh=>rI sh (oN 1 0 (S'%2^i)) (qK [] TR (S-1-S')) acc λacc=>ih (i+1) acc) (rO S i)) ac i acc
theorem HD{β:Type}(hT:T.length=S)(k:Dk->β):∀(az pre:List (List Nat)) (acc:Dk),(∀i,fk S i=true->2^i<=S/\0<S) ->
 oO az T.reverse S pre.length acc k=k ((ZX pre.length az.length).foldl (di (pre++az) T S) acc)
 | [],pre,acc,_=>by
  show sE acc k=_;refine aa (yN _ _) ?_;rfl
 |nl::az,pre,acc,hb=>by
  have ih:=λacc=>HD hT k az (pre++[nl]) acc hb;have hl:(pre++[nl]).length=pre.length+1:=by refine aa Ze ?_;rfl
  rw[hl]at ih;have l0:pre++[nl]++az=pre++nl::az:=by rw[jaD];rfl
  rw[l0]at ih;refine aa Zr ?_;refine aa jdi ?_;refine aa jcK ?_;have qt:(pre++nl::az).getD pre.length []=nl:=by
   refine aa Zb ?_;refine aa (Zk (Y9 _)) ?_;refine aa (jaE _) ?_;rfl
  show gm (oO az T.reverse S (pre.length+1) acc k) (dY (S-2^pre.length) λS'=>dY (32^pre.length*qJ nl S') λsh=>rI sh (oN 1 0 (S'%2^pre.length)) (qK [] T.reverse (S-1-S')) acc λacc=>oO az T.reverse S (pre.length+1) acc k) (rO S pre.length)=_;refine aa (Cd _ _) ?_;unfold di;refine aa qt ?_
  induction zc:fk S pre.length using ZL with
  |false =>
   show oO az T.reverse S (pre.length+1) acc k=_;refine aa (ih _) ?_;rfl
  |true =>
   show(dY (S-2^pre.length) λS'=>dY (32^pre.length*qJ nl S') λsh=>rI sh (oN 1 0 (S'%2^pre.length)) (qK [] T.reverse (S-1-S')) acc λacc=>oO az T.reverse S (pre.length+1) acc k)=_;refine bN (hb pre.length zc) λh1 h2=>?_;have hp:=jcR (n:=pre.length) (show 0<2 by decide);refine aa (kh _ _) ?_;refine aa (kh _ _) ?_;rewrite [BZ];refine aa (ih _) ?_;refine aa (GW _ _) ?_;rw[AK];have e1:T.reverse.getD (S-1-(S-2^pre.length)) []=T.getD (S-2^pre.length) []:=by
    refine aa Zb ?_;refine aa (jeM (by rw[hT];exact Zy (jfv _ _) (jiq h2 Nat.one_pos))) ?_;refine aa Zb ?_
    congr 2
    rw[hT];exact Nat.sub_sub_self (Nat.le_sub_one_of_lt (jiq h2 hp))
   have e2:(oN 1 0 ((S-2^pre.length)%2^pre.length):Nat)=lu (S-2^pre.length) pre.length:=by
    unfold lu
    induction(S-2^pre.length)%2^pre.length using jaA with
    |zero=>rfl
    |succ m=>rfl
   refine aa e1 ?_;refine aa e2 ?_;rfl
def Bm{β:Type}(ac:List (List Nat))(n:Nat):(List Dk->β)->β:=Nat.rec (motive:=λY=>(List Dk->β)->β) (λk=>k [[(0,0)]]) (λs ih k=>ih λTR=>dY (s+1) λS=>oO ac TR S 0 [] λr=>k (r::TR)) n
theorem JX(h:fk S i=true):2^i<=S/\0<S:=by
 unfold fk at h;have h:=of_decide_eq_true h;have hp:=jcR (n:=i) (show 0<2 by decide);have:2^i<=S:=by
  rcases jcd S (2^i)with a0|lY
  ·rw[jeA a0]at h;cases h
  ·exact lY
 lia
theorem H7{β:Type}(ac:List (List Nat)):∀(n:Nat) (k:List Dk->β),Bm ac n k=k (bL ac n).reverse
 |0,k=>rfl
 |s+1,k=>by
  show Bm ac s (λTR=>dY (s+1) λS=>oO ac TR S 0 [] λr=>k (r::TR))=_;refine aa (H7 ac s _) ?_;refine aa (kh _ _) ?_;have:=HD (T:=bL ac s) (S:=s+1) (nz ac s) (λr=>k (r::(bL ac s).reverse)) ac [] [] (λi hi=>JX hi);rw[jbv,jbd]at this;refine aa this ?_
  conv=>rhs;rw[oR]
  refine aa jhP ?_;refine rwj jdv ?_;rfl
def lO(h:Nat):List (List Nat)->Nat->List Nat->Nat
 | [],_,_=>1
 |nl::az,i,c=>((Za h).map λl=>if ga nl i c l then lO h az (i+1) (c++[l])else 0).sum
theorem K5:lO h [] y x=1:=rfl
theorem Cw:lO h (nl::az) y x =
 List.sum (jfE (λl=>if ga nl y x l=true then lO h az (y+1) (x++[l])else 0) (Za h)):=rfl
theorem H3{α β:Type}(f:β->Nat)(g:α->List β):∀l:List α,((l.flatMap g).map f).sum=(l.map λa=>((g a).map f).sum).sum
 | []=>rfl
 |a::l=>by
  refine aa jau ?_;refine aa ZW ?_;refine aa jjd ?_;refine aa (H3 f g l) ?_;refine aa ZG ?_;refine aa jap ?_;rfl
theorem H2{α:Type}(p:α->Bool)(f:α->Nat):∀l:List α,((l.filter p).map f).sum=(l.map λa=>if p a then f a else 0).sum
 | []=>rfl
 |a::l=>by
  refine aa jcz ?_;refine aa ZG ?_;refine aa jap ?_;refine rwj (H2 p f l) ?_
  induction p a using ZL with
  |true=>rfl
  |false=>simp
theorem Hf(h:Nat):∀(az pre:List (List Nat)),((ci h (pre++az) pre.length).map (lO h az pre.length)).sum=(ci h (pre++az) (pre.length+az.length)).length
 | [],pre=>by
  have:∀l:List (List Nat),(l.map (lO h [] pre.length)).sum=l.length:=λl=>by
   induction l with
   |nil=>rfl
   |cons a l ih=>refine aa ZG ?_;refine aa jap ?_;refine aa ih ?_;refine aa Zr ?_;rw[K5];exact jfp (jbn l.length 1)
  exact this _
 |nl::az,pre=>by
  have ih:=Hf h az (pre++[nl]);have hl:(pre++[nl]).length=pre.length+1:=by refine aa Ze ?_;rfl
  have l0:pre++[nl]++az=pre++nl::az:=by rw[jaD];rfl
  rw[hl,l0]at ih;refine aa Zr ?_;refine aa (show pre.length+(az.length+1)=pre.length+1+az.length from jfp (jcP pre.length 1 az.length)) ?_;refine rwj ih ?_
  conv=>rhs;rw[qL]
  rw[H3]
  congr 1
  refine jdF λc Y=>?_;have qt:(pre++nl::az).getD pre.length []=nl:=by
   refine aa Zb ?_;refine aa (Zk (Y9 _)) ?_;refine aa (jaE _) ?_;rfl
  refine aa qt ?_;refine aa ZN ?_;rw[H2]
  conv=>lhs;rw[Cw]
  rfl
def j6(ms:List Nat):Nat->Nat->Nat->Nat->Nat:=jcg (motive:=λY=>Nat->Nat->Nat->Nat->Nat) (λY Y Y Y=>1)
 (λm Y ih b x y z=>Nat.add (gm 0 (ih (2*b) (jde x b) y z) (jbb (jdZ m x) 0)) (Nat.add (gm 0 (ih (2*b) x (jde y b) z) (jbb (jdZ m y) 0)) (gm 0 (ih (2*b) x y (jde z b)) (jbb (jdZ m z) 0)))) ms
def fy(nl:List Nat):Nat:=jcg 32 (λj Y ih=>jde (2^j) ih) nl
theorem we(i:Nat):∀nl:List Nat,(fy nl).testBit i=(decide (i∈nl)||decide (i=5))
 | []=>by
  show(2^5:Nat).testBit i=_;rw[jbA];have:decide (i∈([]:List Nat))=false:=by simp
  rw[this,jjw];exact decide_eq_decide.mpr ⟨λh=>h.symm,λh=>h.symm⟩
 |j::nl=>by
  show(2^j ||| fy nl).testBit i=_;rw[jgP,we i nl,jbA,<-Bool.or_assoc]
  congr 1
  rw[jaQ,jbx,decide_eq_true_iff,decide_eq_true_iff,decide_eq_true_iff,ZT];exact⟨λh=>h.elim (λh=>jcy h.symm) jfC,λh=>h.elim (λh=>jcy h.symm) jfC⟩
def fV(h:Nat)(c:List Nat)(l x:Nat):Prop:=if l<h then∀j,x.testBit j=(decide (j<c.length)&&decide (c.getD j 0=l))else∀j,5<=j->x.testBit j=decide (j=5)
theorem Al(hx:fV h c l x)(hc:c.length<=5)(jM:∀j∈nl,j<5):jbb (jdZ (fy nl) x) 0=(decide (l<h)&&ga nl c.length c l):=by
 unfold fV at hx;rw[pz,jaQ,decide_eq_true_iff,ZA,decide_eq_true_iff];by_cases hl:l<h
 ·rw[if_pos hl]at hx;unfold ga;rw[Y'];constructor
  ·intro h0;refine⟨hl,λj hj=>?_⟩;have:(fy nl &&& x).testBit j=false:=by
    show(jdZ (fy nl) x).testBit j=false;rw[h0];exact jdu j
   rw[jeJ,we,hx j,decide_eq_true hj,Bool.true_or,jcG]at this;rw[this];rfl
  ·rintro⟨_,h0⟩;refine jfe λj=>?_;rw[jdu];show(fy nl &&& x).testBit j=false;rw[jeJ,we,hx j];by_cases hj:j∈nl
   ·have:=h0 j hj;rw[jbS]at this;rw[this,jgE]
   ·by_cases h5:j<c.length
    ·rw[decide_eq_false hj,decide_eq_false (by lia)];rfl
    ·rw[decide_eq_false h5,jgD,jgE]
 ·rw[if_neg hl]at hx;constructor
  ·intro h0;exfalso;have:(fy nl &&& x).testBit 5=false:=by
    show(jdZ (fy nl) x).testBit 5=false;rw[h0];exact jdu 5
   rw[jeJ,we,hx 5 (jbO)]at this;simp at this
  ·rintro⟨h0,_⟩;exact absurd h0 hl
theorem mc(hx:fV h c l x)(hc:c.length<5)(hZ:l'<h):fV h (c++[l']) l (if l=l' then jde x (2^c.length)else x):=by
 unfold fV at *;by_cases hl:l<h
 ·rw[if_pos hl]at hx ⊢;intro j;have hg:(c++[l']).getD j 0=if j=c.length then l' else c.getD j 0:=by
   refine aa Zb ?_;refine aa Zb ?_;by_cases hj:j<c.length
   ·refine aa (Zx hj) ?_;refine aa (if_neg (by lia)) ?_;rfl
   ·refine aa (Zk (rd hj)) ?_;by_cases e:j=c.length
    ·refine aa (if_pos e) ?_;refine aa e ?_;refine aa (jaE _) ?_;rfl
    ·refine aa (if_neg e) ?_;refine aa (jcm (by simp;lia)) ?_;refine aa (jcm (rd hj)) ?_;rfl
  refine aa hg ?_;refine aa Ze ?_;refine aa jbk ?_;by_cases e:l=l'
  ·refine aa (if_pos e) ?_;show(x ||| 2^c.length).testBit j=_;rewrite [jgP];refine aa jbA ?_;refine aa (hx j) ?_;by_cases hj:j=c.length
   ·subst hj;refine aa (if_pos rfl) ?_;refine aa (decide_eq_true e.symm) ?_;simp
   ·have h9:decide (c.length=j)=false:=decide_eq_false (λh=>hj h.symm);refine aa (if_neg hj) ?_;refine aa h9 ?_;refine aa (Bool.or_false _) ?_
    congr 1
    exact decide_eq_decide.mpr (by lia)
  ·refine aa (if_neg e) ?_;refine aa (hx j) ?_;by_cases hj:j=c.length
   ·subst hj;have h9:decide (l'=l)=false:=decide_eq_false (λh=>e h.symm);refine aa (if_pos rfl) ?_;refine aa (decide_eq_false (Zv _)) ?_;refine aa h9 ?_;refine aa (jgD _) ?_;refine aa (jgE _) ?_;rfl
   ·refine aa (if_neg hj) ?_
    congr 1
    exact decide_eq_decide.mpr (by lia)
 ·rw[if_neg hl]at hx ⊢;have e:l≠l':=by lia
  refine aa (if_neg e) ?_;exact hx
theorem Cx(h1:1<=h)(h3:h<=3):∀(az:List (List Nat)) (c:List Nat) (x y z:Nat),c.length+az.length<=5->(∀nl∈az,∀j∈nl,j<5)->fV h c 0 x->fV h c 1 y->fV h c 2 z ->
 j6 (az.map fy) (2^c.length) x y z=lO h az c.length c
 | [],c,x,y,z,_,_,_,_,_=>rfl
 |nl::az,c,x,y,z,aN,hn,hx,hy,hz=>by
  rw[Zr]at aN;have hc:c.length<5:=q8 aN;have jM:=hn nl (by simp);have ih:∀l' x' y' z',fV h (c++[l']) 0 x'->fV h (c++[l']) 1 y'->fV h (c++[l']) 2 z'->j6 (az.map fy) (2*2^c.length) x' y' z'=lO h az (c.length+1) (c++[l']):=λl' x' y' z' a1 a2 a3=>by
   have:=Cx h1 h3 az (c++[l']) x' y' z' (by refine aa Ze ?_;refine aa jbk ?_;exact ud aN) (λTE hm=>hn TE (by simp[hm])) a1 a2 a3;rw[Ze,jbk,jdb,jaR]at this;exact this
  show gm 0 (j6 (az.map fy) (2*2^c.length) (jde x (2^c.length)) y z) (jbb (jdZ (fy nl) x) 0)+(gm 0 (j6 (az.map fy) (2*2^c.length) x (jde y (2^c.length)) z) (jbb (jdZ (fy nl) y) 0)+gm 0 (j6 (az.map fy) (2*2^c.length) x y (jde z (2^c.length))) (jbb (jdZ (fy nl) z) 0))=_;refine aa (Al hx (ZO hc) jM) ?_;refine aa (Al hy (ZO hc) jM) ?_;refine aa (Al hz (ZO hc) jM) ?_;have Bn:∀l x' y' z',(l<h->fV h (c++[l]) 0 x'/\fV h (c++[l]) 1 y'/\fV h (c++[l]) 2 z')->gm 0 (j6 (az.map fy) (2*2^c.length) x' y' z') (decide (l<h)&&ga nl c.length c l)=if l<h then(if ga nl c.length c l then lO h az (c.length+1) (c++[l])else 0)else 0:=λl x' y' z' hm=>by
   by_cases hl:l<h
   ·refine fY (hm hl) λa1 a2 a3=>?_;refine aa (decide_eq_true hl) ?_;refine aa (if_pos hl) ?_;refine aa (jcG _) ?_;refine aa (ih l x' y' z' a1 a2 a3) ?_;cases ga nl c.length c l<;>rfl
   ·refine aa (decide_eq_false hl) ?_;refine aa (if_neg hl) ?_;rfl
  refine aa (Bn 0 (jde x (2^c.length)) y z (λhl=>cz (mc hx hc hl) (mc hy hc hl) (mc hz hc hl))) ?_;refine aa (Bn 1 x (jde y (2^c.length)) z (λhl=>cz (mc hx hc hl) (mc hy hc hl) (mc hz hc hl))) ?_;refine aa (Bn 2 x y (jde z (2^c.length)) (λhl=>cz (mc hx hc hl) (mc hy hc hl) (mc hz hc hl))) ?_
  conv=>rhs;rw[Cw]
  have:h=1\/h=2\/h=3:=by lia
  rcases this with rfl|rfl|rfl
  ·simp[jaO]
  ·simp[jaO]
  ·simp[jaO]
theorem AN(h1:1<=h)(h3:h<=3)(hn:ac.length<=5)(hj:∀nl∈ac,∀j∈nl,j<5):
 j6 (ac.map fy) 1 0 (if 1<h then 0 else 32) (if 2<h then 0 else 32)=(ci h ac ac.length).length:=by
 have m0:∀l,l<h->fV h [] l 0:=λl hl=>by
  unfold fV;refine aa (if_pos hl) ?_;intro j;refine aa (jdu _) ?_;rfl
 have m1:∀l,¬l<h->fV h [] l 32:=λl hl=>by
  unfold fV;refine aa (if_neg hl) ?_;intro j _;show(2^5:Nat).testBit j=_;refine aa jbA ?_;exact decide_eq_decide.mpr ⟨λh=>h.symm,λh=>h.symm⟩
 have:=Cx h1 h3 ac [] 0 (if 1<h then 0 else 32) (if 2<h then 0 else 32) (by simpa using hn) hj (m0 0 (h1)) (by split;exact m0 1 (by omega);exact m1 1 (by omega)) (by split;exact m0 2 (by omega);exact m1 2 (by omega));have p:=Hf h ac [];rw[jbd,jbv,jdO]at p;refine rwj p ?_;show j6 (ac.map fy) (2^0) 0 _ _=_;rw[jbv]at this;refine aa this ?_;rfl
def tr{α:Type}(l:List α):Nat:=jcg 0 (λY Y ih=>jci ih) l
theorem Am{α:Type}:∀l:List α,tr l=l.length
 | []=>rfl
 |a::l=>by
  show jci (tr l)=_;refine aa (Am l) ?_;rfl
def kO{α:Type}(p:α->Bool)(l:List α):Nat:=jcg 0 (λa Y ih=>gm ih (jci ih) (p a)) l
theorem xJ{α:Type}(p:α->Bool):∀l:List α,kO p l=l.countP p
 | []=>rfl
 |a::l=>by
  show gm (kO p l) (jci (kO p l)) (p a)=_;refine aa (xJ p l) ?_;refine aa jex ?_;cases p a<;>rfl
def lF(l:List Nat)(k:Nat):Nat:=jcg 0 (λi Y ih=>gm ih (jde (2^i) ih) (jbb (k/32^i%32) 0)) l
theorem wM(k j:Nat):∀l:List Nat,(lF l k).testBit j=decide (j∈l.filter λi=>decide (k/32^i%32=0))
 | []=>by
  show(0:Nat).testBit j=_;rw[jdu];simp
 |i::l=>by
  show(gm (lF l k) (jde (2^i) (lF l k)) (jbb (k/32^i%32) 0)).testBit j=_;rw[pz,jcz]
  induction decide (k/32^i%32=0)using ZL with
  |false=>exact wM k j l
  |true =>
   show(2^i ||| lF l k).testBit j=decide (j∈i::_);rw[jgP,wM k j l,jbA,jaQ,jbx,decide_eq_true_iff,decide_eq_true_iff,decide_eq_true_iff,ZT];exact⟨λh=>h.elim (λh=>jcy h.symm) jfC,λh=>h.elim (λh=>jcy h.symm) jfC⟩
theorem TK(hd:l.Nodup)(h:∀x,x∈l↔x=c):l=[c]:=by
 match l,hd,h with
 | [],_,h=>exact absurd ((h c).mpr rfl) (by simp)
 | [a],_,h=>refine aa ((h a).mp (by simp)) ?_;rfl
 |a::b::l,hd,h =>
  have h1:=(h a).mp (by simp);have h2:=(h b).mp (by simp);rw[jaP]at hd;exact absurd (by refine aa h1 ?_;refine aa h2 ?_;simp:a∈b::l) hd.1
theorem X2(n k c:Nat):jbb (lF (Za n) k) (2^c)=decide ((Za n).filter (λi=>decide (k/32^i%32=0))=[c]):=by
 rw[pz];refine decide_eq_decide.mpr ⟨λh=>TK (jiH.filter _) λx=>?_,λh=>jfe λj=>?_⟩
 ·have:=wM k x (Za n);rw[h,jbA]at this;rw[decide_eq_decide]at this;exact⟨λhx=>(this.mpr hx).symm,λhx=>this.mp hx.symm⟩
 ·rw[wM,h,jbA];exact decide_eq_decide.mpr (by rw[Zu];exact⟨λh=>h.symm,λh=>h.symm⟩)
def BF{β:Type}(rg:List Nat)(d:Dk):(List Nat->β)->β:=jcg (motive:=λY=>(List Nat->β)->β) (λk=>k []) (λe Y ih k=>dY (lF rg e.1) λz=>ih λt=>k (z::t)) d
theorem IT{β:Type}(rg:List Nat):∀(d:Dk) (k:List Nat->β),BF rg d k=k (d.map λe=>lF rg e.1)
 | [],k=>rfl
 |e::d,k=>by
  show dY (lF rg e.1) (λz=>BF rg d λt=>k (z::t))=_;rw[kh,IT rg d];rfl
def dS(ac:List (List Nat)):Bool :=
 yL ac λac=>dY ac.length λn=>dY (2^n-1) λF=>mV (Za n) λrg =>
 Bm ac F λTR=>sE (qK [] TR 0) λD=>BF rg D λzs =>
 mV (kO (λz=>jbb z (2^0)) zs::(ZX 2 (n-1)).map λk=>kO (λe=>jbb e.2 k) D) λds =>
 mV (TR.map tr) λls=>dY ((List.zipWith (·*·) ls ls.reverse).sum) λde=>mV (ac.map fy) λms =>
 rg.all (λc=>jbb (kO (λz=>jbb z (2^c)) zs) (kO (λz=>jbb z (2^0)) zs))&&jbb ds.sum (tr D)&&jbb (ds.getD (n-1) 0) 1 &&
 jbb (hN 2 ds) de&&jgA 1 de&&jgA de 999&&decide (hI (1:Nat) ds=tM n (j6 ms 1 0 32 32:Nat))&&decide (hI (2:Nat) ds=tM n (j6 ms 1 0 0 32:Nat))&&decide (hI (3:Nat) ds=tM n (j6 ms 1 0 0 0:Nat))
theorem LA(f:Nat->Nat)(N:Nat):(List.zipWith (·*·) ((Za N).map f).reverse ((Za N).map f).reverse.reverse)=(Za N).map λS=>f S*f (N-1-S):=by
 rw[List.reverse_reverse];refine jew (by simp) λi h1 h2=>?_;simp only[Y4,jaj]at h2;rw[List.getElem_zipWith,List.getElem_reverse,jbV,jbV,jbV,jdR,jdR,jaR];simp
theorem KU(h0:1<=ac.length)(hn:ac.length<=5)(hj:∀nl∈ac,∀j∈nl,j<5)(h:dS ac=true):o5 ac:=by
 unfold dS at h;simp only[Ec,kh,yM,yN,H7,IT,AK]at h;have hp:=jcR (n:=ac.length) (show 0<2 by decide);have aN:=nz ac (2^ac.length-1);have eD:(bL ac (2^ac.length-1)).reverse.getD 0 []=tab ac (2^ac.length-1):=by
  unfold tab;refine aa Zb ?_;refine aa (jeM (by simp[*])) ?_;refine aa Zb ?_
  congr 2
  simp[*]
 rw[eD]at h;have eA:∀c,kO (λz=>jbb z (2^c)) ((tab ac (2^ac.length-1)).map λe=>lF (Za ac.length) e.1)=mC (tab ac (2^ac.length-1)) ac.length c:=λc=>by
  refine aa (xJ _ _) ?_;refine aa jge ?_;unfold mC
  congr 1
  funext e;exact X2 _ _ _
 have L5:(kO (λz=>jbb z (2^0)) ((tab ac (2^ac.length-1)).map λe=>lF (Za ac.length) e.1)::(ZX 2 (ac.length-1)).map λk=>kO (λe=>jbb e.2 k) (tab ac (2^ac.length-1)))=dT (tab ac (2^ac.length-1)) ac.length:=by
  refine aa (eA 0) ?_;unfold dT
  congr 1
  refine jdF λk Y=>?_;refine aa (xJ _ _) ?_
  congr 1
  funext e;exact pz _ _
 rw[L5]at h;simp only[eA]at h;have eL:(bL ac (2^ac.length-1)).reverse.map tr=((Za (2^ac.length)).map λS=>(tab ac S).length).reverse:=by
  refine aa jfT ?_
  congr 1
  refine jew (by refine aa (Y4 _) ?_;refine aa (Y4 _) ?_;refine aa jaj ?_;lia) λi h1 h2=>?_;rw[Y4]at h1;refine aa (jbV _) ?_;refine aa (jbV _) ?_;refine aa (jdR _) ?_;refine aa (Am _) ?_;have e1:=tV ac (k:=i) (2^ac.length-1) (by lia);rw[Zb,Zg h1]at e1;unfold tab;refine rwj e1 ?_;rfl
 rw[eL,LA (λS=>(tab ac S).length) (2^ac.length)]at h;have L4:((Za (2^ac.length)).map λS=>(tab ac S).length*(tab ac (2^ac.length-1-S)).length).sum=i6 ac:=rfl;rw[L4,Am]at h;simp only[ZA]at h;refine bN h λz1 c9=>?_;obtain⟨⟨⟨⟨⟨⟨⟨c1,c2⟩,c3⟩,c4⟩,c5⟩,c6⟩,c7⟩,c8⟩:=z1;have p1:=AN (h:=1) (by decide) (by decide) hn hj;have p2:=AN (h:=2) (by decide) (by decide) hn hj;have p3:=AN (h:=3) (by decide) (by decide) hn hj;refine⟨λc hc=>?_,jcs c2,jcs c3,jcs c4,jbl c5,jfK (jbl c6),?_⟩
 ·exact jcs (Y'.mp c1 c (ZM.mpr hc))
 ·rintro h (rfl|rfl|rfl)
  ·refine rwj p1 ?_;exact of_decide_eq_true c7
  ·refine rwj p2 ?_;exact of_decide_eq_true c8
  ·refine rwj p3 ?_;exact of_decide_eq_true c9
def ek:Nat->List (List Nat)
 |0=>[[]]
 |n+1=>(ek n).flatMap λs=>[s,s++[n]]
theorem V6:ek (n+1)=jhn (λs=>[s,s++[n]]) (ek n):=rfl
def eP(n:Nat)(g:List (List Nat))(S:List Nat):List (List Nat):=((Za n).map λi=>if S.contains i then g.getD i []++[n]else g.getD i [])++[S]
def dq:Nat->List (List (List Nat))
 |0=>[[]]
 |n+1=>(dq n).flatMap λg=>(ek n).map λS=>eP n g S
theorem Jj:dq (n+1)=jhn (λg=>jfE (λS=>eP n g S) (ek n)) (dq n):=rfl
def gY(eh:Nat->Nat->Bool)(n:Nat):List (List Nat):=(Za n).map λi=>(Za n).filter (eh i)
theorem Bh(p:Nat->Bool):∀n,(Za n).filter p∈ek n
 |0=>Zu.mpr rfl
 |n+1=>by
  rw[V6,jdj];refine⟨_,Bh p n,?_⟩;rw[jaO,jdS];cases h:p n<;>simp[h]
theorem Cp{eh:Nat->Nat->Bool}(hs:∀i j,eh i j=eh j i)(hi:∀i,eh i i=false)(n:Nat):gY eh (n+1)=eP n (gY eh n) ((Za n).filter (eh n)):=by
 unfold gY eP;rw[jaO,ZW]
 congr 1
 ·refine jdF λi E8=>?_;have eR:=ZM.mp E8;have hg:((Za n).map λi=>(Za n).filter (eh i)).getD i []=(Za n).filter (eh i):=by
   rw[Zb,ZR,jdG eR];rfl
  rw[hg,jdS];have hc:((Za n).filter (eh n)).contains i=eh i n:=by
   rw[jaQ,jeN,jdA,hs n i];exact⟨λh=>h.2,λh=>⟨E8,h⟩⟩
  rw[hc];cases h:eh i n<;>simp[h]
 ·show[((Za n)++[n]).filter (eh n)]=_;rw[jdS];simp[hi n]
theorem pk{eh:Nat->Nat->Bool}(hs:∀i j,eh i j=eh j i)(hi:∀i,eh i i=false):∀n,gY eh n∈dq n
 |0=>Zu.mpr rfl
 |n+1=>by
  rw[Cp hs hi];rw[Jj,jdj];exact⟨_,pk hs hi n,Zq.mpr ⟨_,Bh _ n,rfl⟩⟩
theorem g1:(dq 1).all (λg=>dS g)=true:=by decide +kernel
theorem g2:(dq 2).all (λg=>dS g)=true:=by decide +kernel
theorem g3:(dq 3).all (λg=>dS g)=true:=by decide +kernel
theorem g4:(dq 4).all (λg=>dS g)=true:=by decide +kernel
theorem h0:(((dq 4).drop (4*0)).take 4).all (λg=>(ek 4).all λS=>dS (eP 4 g S))=true:=by decide +kernel
theorem h1:(((dq 4).drop (4*1)).take 4).all (λg=>(ek 4).all λS=>dS (eP 4 g S))=true:=by decide +kernel
theorem h2:(((dq 4).drop (4*2)).take 4).all (λg=>(ek 4).all λS=>dS (eP 4 g S))=true:=by decide +kernel
theorem h3:(((dq 4).drop (4*3)).take 4).all (λg=>(ek 4).all λS=>dS (eP 4 g S))=true:=by decide +kernel
theorem h4:(((dq 4).drop (4*4)).take 4).all (λg=>(ek 4).all λS=>dS (eP 4 g S))=true:=by decide +kernel
theorem h5:(((dq 4).drop (4*5)).take 4).all (λg=>(ek 4).all λS=>dS (eP 4 g S))=true:=by decide +kernel
theorem h6:(((dq 4).drop (4*6)).take 4).all (λg=>(ek 4).all λS=>dS (eP 4 g S))=true:=by decide +kernel
theorem h7:(((dq 4).drop (4*7)).take 4).all (λg=>(ek 4).all λS=>dS (eP 4 g S))=true:=by decide +kernel
theorem h8:(((dq 4).drop (4*8)).take 4).all (λg=>(ek 4).all λS=>dS (eP 4 g S))=true:=by decide +kernel
theorem h9:(((dq 4).drop (4*9)).take 4).all (λg=>(ek 4).all λS=>dS (eP 4 g S))=true:=by decide +kernel
theorem lU:(((dq 4).drop (4*10)).take 4).all (λg=>(ek 4).all λS=>dS (eP 4 g S))=true:=by decide +kernel
theorem kZ:(((dq 4).drop (4*11)).take 4).all (λg=>(ek 4).all λS=>dS (eP 4 g S))=true:=by decide +kernel
theorem sJ:(((dq 4).drop (4*12)).take 4).all (λg=>(ek 4).all λS=>dS (eP 4 g S))=true:=by decide +kernel
theorem sK:(((dq 4).drop (4*13)).take 4).all (λg=>(ek 4).all λS=>dS (eP 4 g S))=true:=by decide +kernel
theorem k0:(((dq 4).drop (4*14)).take 4).all (λg=>(ek 4).all λS=>dS (eP 4 g S))=true:=by decide +kernel
theorem O4:(((dq 4).drop (4*15)).take 4).all (λg=>(ek 4).all λS=>dS (eP 4 g S))=true:=by decide +kernel
theorem xe:(dq 4).length=64:=by decide +kernel
theorem g5{g:List (List Nat)}(hg:g∈dq 4){S:List Nat}(hS:S∈ek 4):dS (eP 4 g S)=true:=by
 obtain⟨i,hi,rfl⟩:=jhQ hg;rw[xe]at hi;have H:∀k∈Za 16,(((dq 4).drop (4*k)).take 4).all (λg=>(ek 4).all λS=>dS (eP 4 g S))=true:=aS h0 (aS h1 (aS h2 (aS h3 (aS h4 (aS h5 (aS h6 (aS h7 (aS h8 (aS h9 (aS lU (aS kZ (aS sJ (aS sK (aS k0 (aS O4 jA)))))))))))))));have hm:(dq 4)[i]'(by rw[xe];exact hi)∈((dq 4).drop (4*(i/4))).take 4:=by
  rw[jdw];refine⟨i%4,by rw[jbH,jbI,xe];exact Nat.lt_min.mpr ⟨ZU _ (by decide),Nat.lt_sub_of_add_lt (by rw[jbn,jck];exact hi)⟩,?_⟩;rw[List.getElem_take,jis]
  congr 1
  exact jck i 4
 exact Y'.mp (Y'.mp (H _ (ZM.mpr (jff hi))) _ hm) S hS
theorem KQ{eh:Nat->Nat->Bool}(hs:∀i j,eh i j=eh j i)(hi:∀i,eh i i=false){n:Nat}(h1:1<=n)(h5:n<=5):dS (gY eh n)=true:=by
 have:n=1\/n=2\/n=3\/n=4\/n=5:=by lia
 rcases this with rfl|rfl|rfl|rfl|rfl
 ·exact Y'.mp g1 _ (pk hs hi 1)
 ·exact Y'.mp g2 _ (pk hs hi 2)
 ·exact Y'.mp g3 _ (pk hs hi 3)
 ·exact Y'.mp g4 _ (pk hs hi 4)
 ·rw[Cp hs hi];exact g5 (pk hs hi 4) (Bh _ 4)
def jz(ac:List (List Nat))(i j:Nat):Bool:=decide (j∈ac.getD i [])
theorem KR{ac:List (List Nat)}(g:iw ac)(i:Nat)(hi:i<ac.length):(ac.getD i []).Perm ((gY (jz ac) ac.length).getD i []):=by
 have e:(gY (jz ac) ac.length).getD i []=(Za ac.length).filter (jz ac i):=by
  unfold gY;rw[Zb,ZR,jdG hi];rfl
 rw[e,List.perm_ext_iff_of_nodup (g.nd i) (jiH.filter _)];intro j;rw[jdA,ZM];unfold jz;rw[decide_eq_true_iff];exact⟨λh=>⟨(g.sym i j h).1,h⟩,λh=>h.2⟩
theorem Uy{l l':List Nat}(h:l.Perm l'):l.sum=l'.sum:=by
 induction h with
 |nil=>rfl
 |cons x _ ih=>rw[jap,jap,ih]
 |swap x y l=>rw[jap,jap,jap,jap];lia
 |trans _ _ ih1 ih2=>rw[ih1,ih2]
theorem Tw{l l':List Nat}(h:l.Perm l')(S:Nat):ie l S=ie l' S:=by
 unfold ie;exact Uy ((h.filter _).map _)
theorem TQ{l l':List Nat}(h:l.Perm l')(i:Nat)(c:List Nat)(m:Nat):ga l i c m=ga l' i c m:=by
 unfold ga;rw[jaQ,Y',Y'];exact⟨λhh j hj=>hh j (h.mem_iff.mpr hj),λhh j hj=>hh j (h.mem_iff.mp hj)⟩
theorem Vc{ac near':List (List Nat)}(hl:ac.length=near'.length)(h:∀i,i<ac.length->(ac.getD i []).Perm (near'.getD i []))(T:List Dk)(S:Nat):mh ac T S=mh near' T S:=by
 unfold mh;rw[<-hl];have:∀(l:List Nat) (acc:Dk),(∀i∈l,i<ac.length)->l.foldl (di ac T S) acc=l.foldl (di near' T S) acc:=λl=>by
  induction l with
  |nil=>intro acc _;rfl
  |cons i l ih =>
   intro acc hi;rw[jcK,jcK];have e:di ac T S acc i=di near' T S acc i:=by
    unfold di;rw[Tw (h i (hi i (by simp)))]
   rw[e];exact ih _ (λj hj=>hi j (by simp[hj]))
 exact this _ _ (λi hi=>ZM.mp hi)
theorem H9{ac near':List (List Nat)}(hl:ac.length=near'.length)(h:∀i,i<ac.length->(ac.getD i []).Perm (near'.getD i [])):∀s,bL ac s=bL near' s
 |0=>rfl
 |s+1=>by
  rw[oR,oR,H9 hl h s,Vc hl h]
theorem Hh{ac near':List (List Nat)}(k:Nat)(h:∀i,i<ac.length->(ac.getD i []).Perm (near'.getD i [])):∀i,i<=ac.length->ci k ac i=ci k near' i
 |0,_=>rfl
 |i+1,hi=>by
  rw[qL,qL,Hh k h i (ZO hi)]
  congr 1
  funext c
  congr 1
  congr 1
  funext l;exact TQ (h i (hi)) _ _ _
theorem OY{ac:List (List Nat)}(g:iw ac):o5 ac:=by
 have hs:∀i j,jz ac i j=jz ac j i:=λi j=>decide_eq_decide.mpr ⟨λh=>(g.sym i j h).2.2,λh=>(g.sym j i h).2.2⟩;have hi:∀i,jz ac i i=false:=λi=>decide_eq_false λh=>(g.sym i i h).2.1 rfl;have hc:=KQ hs hi g.pos g.le;have hl:(gY (jz ac) ac.length).length=ac.length:=by unfold gY;rw[Y4,jaj]
 have f:=KU (ac:=gY (jz ac) ac.length) (by rw[hl];exact g.pos) (by rw[hl];exact g.le) (λnl jM j hj=>by
  unfold gY at jM;refine au (Zq.mp jM) ?_;rintro i _ rfl;have:=ZM.mp (jdA.mp hj).1;have:=g.le
  lia) hc
 have hp:=KR g;have ht:∀S,tab ac S=tab (gY (jz ac) ac.length) S:=λS=>by
  unfold tab;rw[H9 hl.symm hp]
 have Qv:∀h,ci h ac ac.length=ci h (gY (jz ac) ac.length) ac.length:=λh=>Hh h hp _ (Y9 _);have hd:i6 ac=i6 (gY (jz ac) ac.length):=by
  unfold i6;rw[hl]
  congr 1
  refine jdF λS Y=>?_;rw[ht,ht]
 obtain⟨f1,f2,f3,f4,f5,f6,f7⟩:=f;rw[hl]at f1 f2 f3 f4 f7;refine⟨?_,?_,?_,?_,by rw[hd];exact f5,by rw[hd];exact f6,?_⟩
 ·rw[ht];exact f1
 ·rw[ht];exact f2
 ·rw[ht];exact f3
 ·rw[ht,hd];exact f4
 ·rw[ht];intro h hh;rw[Qv];exact f7 h hh
def VN(b:Nat)(l:List Nat):Nat:=l.foldr (λd s=>d+b*s) 0
def VI(x:Int)(l:List Nat):Int:=l.foldr (λ(d:Nat) (s:Int)=>(d:Int)+x*s) 0
theorem jy(b d:Nat)(l:List Nat):VN b (d::l)=d+b*VN b l:=rfl
theorem pj(x:Int)(d:Nat)(l:List Nat):VI x (d::l)=(d:Int)+x*VI x l:=rfl
theorem ux(b:Nat):∀l:List Nat,((VN b l:Nat):Int)=VI b l
 | []=>rfl
 |d::l=>by rw[jy,pj,<-ux b l,jbz,jbf]
theorem xQ(w:Nat):∀l:List Nat,cB w (l.map Z9)=((VN (2^w) l:Nat):Int)
 | []=>rfl
 |d::l=>by
  rw[G9,xQ w l,jy,jbz,jbf,jbR,Int.mul_comm];rfl
theorem y6(b:Nat):∀l:List Nat,hN b l=b*VN b l
 | []=>rfl
 |d::l=>by
  show b*(d+hN b l)=_;refine aa (y6 b l) ?_;rw[jy]
theorem EA(h:Int):∀l:List Nat,hI h l=h*VI (-h) l
 | []=>by show(0:Int)=h*0;simp
 |d::l=>by
  show h*((d:Int)-hI h l)=_;rw[EA h l,pj,jhU];rfl
theorem w0(b x:Int):∀l:List Nat,∃q,VI b l=VI x l+(b-x)*q
 | []=>⟨0,by show(0:Int)=0+(b-x)*0;simp⟩
 |d::l=>by
  refine aX (w0 b x l) λq hq=>?_;refine⟨VI x l+b*q,?_⟩;rw[pj,pj,hq,Int.mul_add,Int.mul_add,jhR,jhR,jhR];have e1:b*(b*q-x*q)=b*(b*q)-x*(b*q):=by
   rw[jgf,Int.mul_left_comm b x q]
  rw[e1]
  lia
theorem wZ(hb:0<b):∀l:List Nat,(∀d∈l,d<b)->VN b l<b^l.length
 | [],_=>by show 0<1;decide
 |d::l,h=>by
  have h1:=h d (by simp);have h2:=wZ hb l (λx hx=>h x (by simp[hx]));rw[jy,Zr,jdb];have h3:b*VN b l+b<=b^l.length*b:=by
   rw[jaR (b^l.length) b,<-jdP];exact jfm b h2
  lia
theorem BQ(b:Nat):∀l:List Nat,l≠[]->1<=l.getD (l.length-1) 0->b^(l.length-1)<=VN b l
 | [],h,_=>absurd rfl h
 | [d],_,h=>by
  rw[jy];have h:1<=d:=h;show 1<=d+b*0;exact h
 |d::e::l,_,h=>by
  have ih:=BQ b (e::l) (by simp) h;rw[jy];have:b^((d::e::l).length-1)=b*b^((e::l).length-1):=by
   show b^(l.length+1)=b*b^l.length;rw[jdb,jaR]
  rw[this];have:=jfm b ih;omega
theorem CU:∀l:List Nat,(∀d∈l,d<2^w)->i7 w l.length (VN (2^w) l)=l
 | [],_=>rfl
 |d::l,h=>by
  have h1:=h d (by simp);rw[Zr,pK,jy,jeg,jfW h1,jfg _ _ (jaG w),jeA h1,jdO,CU l (λx hx=>h x (by simp[hx]))]
theorem LJ(hw:0<w)(h1:2^(w*k)<=a)(h2:a<2^(w*(k+1))):bI w a=k+1:=by
 have ha:a≠0:=by have:=jaG (w*k);lia
 have Pr:Zt (a:Int)=a.log2+1:=by
  unfold Zt;refine aa (if_neg (by simp;exact ha)) ?_;refine aa (ZV _) ?_;rfl
 have l1:w*k<=a.log2:=(Nat.le_log2 ha).mpr h1;have l2:a.log2<w*(k+1):=(jfd ha).mpr h2;unfold bI;refine aa Pr ?_;refine aa (show a.log2+1+w-1=a.log2+w by simp) ?_;refine aa (Nat.add_div_right _ hw) ?_
 congr 1
 exact Nat.div_eq_of_lt_le (by refine aa (jaR _ _) ?_;exact l1) (by refine aa (jaR _ _) ?_;exact l2)
theorem CY(hw:0<w)(hl:l≠[])(a0:∀d∈l,d<2^w)(vA:1<=l.getD (l.length-1) 0):dg w (bI w (VN (2^w) l)) (VN (2^w) l)=l.map Z9:=by
 have km:0<l.length:=jfj.mpr hl;have h1:=BQ (2^w) l hl vA;have h2:=wZ (jaG w) l a0;rw[<-Nat.pow_mul]at h1 h2;have:=LJ (k:=l.length-1) hw h1 (by refine aa (show l.length-1+1=l.length from BD km) ?_;exact h2);refine aa this ?_;refine aa (show l.length-1+1=l.length from BD km) ?_;rewrite [r8];refine aa (CU l a0) ?_;rfl
def oW(l:List Nat):List Nat:=(Za l.length).map λm=>(l.drop (m+1)).sum
theorem Xf(d:Nat)(t:List Nat):oW (d::t)=t.sum::oW t:=by
 unfold oW;refine aa Zr ?_;refine aa jhm ?_;refine aa ZG ?_;refine aa ZN ?_;rfl
theorem xa(b:Nat)(hb:1<=b):∀l:List Nat,VN b l=l.sum+(b-1)*VN b (oW l)
 | []=>by show 0=0+(b-1)*0;exact rfl
 |d::t=>by
  have ih:=xa b hb t;rw[Xf,jy,jy,jap];obtain⟨c,rfl⟩:∃c,b=c+1:=⟨b-1,by simp[*]⟩
  rw[jea]at ih ⊢;rw[ih];generalize VN (c+1) (oW t)=X;generalize t.sum=s;rw[jgc,jcS,jek,jgc c s,Nat.mul_left_comm (c+1) c X]
  lia
theorem BS(b:Nat):∀l:List Nat,VN b (l++[0])=VN b l
 | []=>by show 0+b*0=0;simp
 |d::l=>by rw[jdl,jy,jy,BS b l]
theorem Xg(h:l.length=n+1):oW l=((Za n).map λm=>(l.drop (m+1)).sum)++[0]:=by
 unfold oW;refine aa h ?_;refine aa jaO ?_;refine aa ZW ?_
 congr 1
 show[(l.drop (n+1)).sum]=[0];refine aa (jcY (ZP h)) ?_;rfl
theorem V8(l:List Nat)(m:Nat):(l.drop m).sum<=l.sum:=by
 conv=>rhs;rw[<-jhw m l]
 refine aa jjd ?_;exact jcj (List.drop m l).sum (List.take m l).sum
theorem sw{m q r:Int}(h0:0<=r)(h1:r<m):(r+m*q).fdiv m=q/\(r+m*q).fmod m=r:=by
 have hm:0<m:=by lia
 rw[jas _ (by lia),jcw _ (by lia),jhF _ _ (by lia),jhy h0 h1,Int.add_mul_emod_self_left,Int.emod_eq_of_lt h0 h1];exact⟨by simp,rfl⟩
theorem DU{m q r:Int}(h0:0<=r)(h1:r<m):(-(r+m*q)).fdiv (-m)=q/\(-(r+m*q)).fmod (-m)=-r:=by
 have:=sw (q:=q) h0 h1;refine aa (jjf _ _) ?_;refine aa (Int.neg_fmod_neg _ _) ?_;refine aa this.1 ?_;refine aa this.2 ?_;exact⟨rfl,rfl⟩
theorem BP(w:Nat):∀k a,a<2^(w*k)->VN (2^w) (i7 w k a)=a
 |0,a,h=>by
  have:a=0:=by simpa using h
  refine aa this ?_;rfl
 |k+1,a,h=>by
  have h2:a/2^w<2^(w*k):=by
   rw[jdh (jaG w),<-jej];exact bf h (Zp (by decide) (by refine aa (jdP _ _) ?_;exact Y9 _))
  rewrite [pK,jy];refine aa (BP w k _ h2) ?_;exact Nat.mod_add_div a (2^w)
theorem back(w a:Nat)(hw:0<w):cB w (dg w (bI w a) a)=a:=by
 rw[r8,xQ];have h1:=Aa (a:=a);have h2:Zt (a:Int)<=w*bI w a:=IH hw;rw[BP w _ a (bf h1 (Zp (by decide) h2))]
def jW(p L:Nat):List Nat:=(Za ((L+7-p)/8)).map λk=>p+8*k
theorem U5:(Za 8).all (λp=>(Za 61).all λL=>fQ (p:Int) (L:Int) 8==some ((jW p L).map Z9)&&(jW p L).all (λj=>decide (j<L))&&decide ((jW p L).length<=8))=true:=by decide +kernel
theorem U4{p L:Nat}(hp:p<8)(hL:L<=60):fQ (p:Int) (L:Int) 8=some ((jW p L).map Z9)/\(∀j∈jW p L,j<L)/\(jW p L).length<=8:=by
 have h1:=Y'.mp U5 p (ZM.mpr hp);have h2:=Y'.mp h1 L (ZM.mpr (by lia));simp only[ZA]at h2;exact cz (eq_of_beq h2.1.1) (λj hj=>of_decide_eq_true (Y'.mp h2.1.2 j hj)) (of_decide_eq_true h2.2)
def kz:List Nat:=[1715446,365853733,816530545,225,318,5174684,75120764,123]
def zk(bJ:List Int)(p:Nat):Nat:=kz.getD p 0+((jW p bJ.length).map λj=>((bJ.getD j 0).fmod (10^15)).toNat).sum
def qr(bJ:List Int):List Nat:=(Za 8).map (zk bJ)
theorem PI{Φ:cX}{s:AV}{bJ:List Int}(hn:bJ.length<=60){az:aB}(hr:az.length=21):
 ev Φ [] (some s::some (.lst (aq kz))::some (.lst (bB bJ))::az) (.comp 1 (.cons 24 (.range (.cons (.c (.int 8)) .nil)) .nil (.done (.bin .Add (.idx (.var 1) (.var 24)) (.call .sum (.cons (.comp 1 (.cons 25 (.range (.cons (.var 24) (.cons (.call .len (.cons (.var 2) .nil)) (.cons (.c (.int 8)) .nil)))) .nil (.done (.bin .Mod (.idx (.var 2) (.var 25)) (.bin .Pow (.c (.int 10)) (.c (.int 15))))))) .nil))))))
  = some (.lst (aq (qr bJ))):=by
 refine(n0 (x:=24) (vs:=aq (Za 8)) (g:=λv=>match v with | .int k=>.int (zk bJ k.toNat:Nat)|v=>v) (j' aR (by decide)) (by simp[hr]) (by simp) (λv hv=>?_)).trans ?_
 ·refine au (Zq.mp hv) ?_;rintro p hp rfl;have hp:=ZM.mp hp;refine fY (U4 hp hn) λh1 h2 h3=>?_;show _=some (AV.int (zk bJ (p:Int).toNat:Nat));rw[ZF];have t6:∀{w:List (Option AV)},((some s::some (AV.lst (aq kz))::some (AV.lst (bB bJ))::az)++some (.int (p:Int))::w)[24]?=some (some (.int (p:Int))):=λ{w}=>by
   rw[Zk (by simp[hr])];simp[hr]
  refine iF (x:=kz.getD p 0) (fX (l:=aq kz) (k:=p) (ag rfl) (ag t6) (nq hp) (by simp[kz])) ?_;refine uV (l:=(jW p bJ.length).map λj=>((bJ.getD j 0).fmod (10^15)).toNat) ?_ ?_
  ·refine(n0 (x:=25) (vs:=aq (jW p bJ.length)) (g:=λv=>match v with | .int k=>.int (((bJ.getD k.toNat 0).fmod (10^15)).toNat:Nat)|v=>v) ?_ (by simp[hr]) (by rw[Y4];lia) (λv hv=>?_)).trans ?_
   ·rw[se,gJ (x:=.int p) (y:=.int (bJ.length:Nat)) (z:=.int 8) (ag t6) ?_ bK]
    ·show(fQ (p:Int) (bJ.length:Int) 8).map _=_;rw[h1];show some (((jW p bJ.length).map Z9).map AV.int)=_;rw[ZN];rfl
    ·refine dK (vs:=[.lst (bB bJ)]) (cT (ag rfl)) ?_;show fL (bB bJ).length=_;rw[Y4];unfold fL;rw[if_pos (by lia)]
   ·refine au (Zq.mp hv) ?_;rintro j hj rfl;have hj:=h2 j hj;show _=some (AV.int (((bJ.getD (j:Int).toNat 0).fmod (10^15)).toNat:Nat));rw[ZF];have Xy:((((some s::some (AV.lst (aq kz))::some (AV.lst (bB bJ))::az)++[some (.int (p:Int))])++[some (.int (j:Int))]))[25]?=some (some (.int (j:Int))):=by
     rw[Zk (by simp[hr])];simp[hr]
    have fu:(bB bJ)[j]?=some (.int (bJ.getD j 0)):=by
     rw[ZR,Zg hj,Zb,Zg hj];rfl
    refine cb (fX (l:=bB bJ) (k:=j) (ag rfl) (ag Xy) fu (by rw[Y4];lia)) (jE (x:=10) (y:=15) aR aR (by decide) (by decide)) ?_;show(if(((10^15:Nat):Int))=0 then none else some (AV.int ((bJ.getD j 0).fmod ((10^15:Nat):Int))))=_;rw[if_neg (by decide)];have Qk:0<=(bJ.getD j 0).fmod (10^15):=Int.fmod_nonneg_of_pos _ (by decide);have:(((bJ.getD j 0).fmod (10^15)).toNat:Int)=(bJ.getD j 0).fmod (10^15):=jbW Qk;rw[this];rfl
   ·unfold aq;rw[ZN,ZN];rfl
  ·have hs:=wz (10^15) ((jW p bJ.length).map λj=>((bJ.getD j 0).fmod (10^15)).toNat) (λx hx=>by
    refine au (Zq.mp hx) ?_;rintro j _ rfl;have:=Int.fmod_lt_of_pos (bJ.getD j 0) (b:=10^15) (by decide)
    lia)
   rw[Y4]at hs;have:(jW p bJ.length).length*10^15<=8*10^15:=jfc _ h3;have:8*10^15<2^53:=by decide
   lia
 ·unfold aq qr;rw[ZN,ZN];rfl
theorem EY(bJ:List Int):(qr bJ).length=8:=by
 unfold qr;refine aa (Y4 _) ?_;rfl
theorem GS(g:F):nn g g g=g:=by unfold nn;split<;>(try split)<;>rfl
theorem GQ(g:F):nk g g g=g:=by unfold nk;split<;>(try split)<;>rfl
theorem NW(h:bO g g=true):Fi (N+1) 6 [.flt g,.flt g,.flt g]=some (.tup [.flt 0,.flt 0,.flt g]):=by
 refine fB (N:=N) D7 rfl ?_;show aE (Fi N) [some (.flt g),some (.flt g),some (.flt g),none,none,none,none,none,none,none,none,none] [] f6.body=_;refine aT (v:=.flt g) (jhc (b:=some (AV.flt (nn g g g))) rfl (by rw[GS])) (aT (v:=.flt g) (jhc (b:=some (AV.flt (nk g g g))) rfl (by rw[GQ])) (aT (v:=.flt (ZJ g g)) rfl (aT (v:=.flt g) (ag rfl) ?_)));exact jG ((ka (ag rfl) (ag rfl) h).trans (by rw[h])) (dX rfl rfl)
theorem NU(h:bO g g=true):Fi (N+1) 5 [.flt g,.flt g,.flt g]=some (.tup [.flt 0,.flt (iT g g),.flt 0]):=by
 refine fB (N:=N) D6 rfl ?_;show aE (Fi N) [some (.flt g),some (.flt g),some (.flt g),none,none,none,none,none,none,none,none,none,none] [] f5.body=_;refine aT (v:=.flt g) (jhc (b:=some (AV.flt (nn g g g))) rfl (by rw[GS])) (aT (v:=.flt g) (jhc (b:=some (AV.flt (nk g g g))) rfl (by rw[GQ])) (aT (v:=.flt (jab g g)) rfl (aT (v:=.flt (ZJ g g)) rfl (aT (v:=.flt (iT g g)) (jD (ag rfl) gu IG) ?_))));exact jG ((ka (ag rfl) (ag rfl) h).trans (by rw[h])) (dX rfl rfl)
theorem IK:(jbG 0 0==some .eq)=true:=by decide +kernel
theorem NY:Fi (N+1) 7 [.flt h,.int 0,.flt g]=some (.tup [.flt g,.flt g,.flt g]):=by
 refine fB (N:=N) D8 rfl ?_;show aE (Fi N) [some (.flt h),some (.int 0),some (.flt g),none,none,none,none,none] [] f7.body=_;refine jG (cK (x:=.int 0) (y:=.flt 0) (ag rfl) gu ?_) (dX rfl rfl);show some (jbG 0 0==some .eq)=_;rw[IK]
theorem O0:∀k,k<5->bO (qB k) (qB k)=true/\mJ (iT (qB k) (qB k)) (qB k)=true:=by decide +kernel
theorem ya(h1:ev Φ σ ρ a=some (.tup x))(h2:ev Φ σ ρ b=some (.tup y))(hl:x.length+y.length<=100000):ev Φ σ ρ (.bin .Add a b)=some (.tup (x++y)):=by
 refine cb h1 h2 ?_;show(if _ then _ else _)=_;refine aa (if_pos hl) ?_;rfl
theorem OZ(hk:k<5)(h9:ρ[9]?=some (some (.flt (qB k)))):ev (Fi (N+1)) [] ρ (.cmp .NotEq (.bin .Add (.bin .Add (.call (.user 6) (.cons (.var 9) (.cons (.var 9) (.cons (.var 9) .nil)))) (.call (.user 5) (.cons (.var 9) (.cons (.var 9) (.cons (.var 9) .nil))))) (.call (.user 7) (.cons (.bin .Add (.var 9) (.bin .Div (.c (.int 1)) (.c (.int 8)))) (.cons (.c (.int 0)) (.cons (.var 9) .nil))))) (.tup (.cons (.c (.int 0)) (.cons (.c (.int 0)) (.cons (.var 9) (.cons (.c (.int 0)) (.cons (.var 9) (.cons (.c (.int 0)) (.cons (.var 9) (.cons (.var 9) (.cons (.var 9) .nil)))))))))))=some (.bool false):=by
 refine bN (O0 k hk) λg1 g2=>?_;have g2:=nU g2;generalize qB k=g at *;have v9:ev (Fi (N+1)) [] ρ (.var 9)=some (.flt g):=ag h9;have c6:ev (Fi (N+1)) [] ρ (.call (.user 6) (.cons (.var 9) (.cons (.var 9) (.cons (.var 9) .nil))))=some (.tup [.flt 0,.flt 0,.flt g]):=cL (vs:=[.flt g,.flt g,.flt g]) (gJ v9 v9 v9) rfl (NW g1);have c5:ev (Fi (N+1)) [] ρ (.call (.user 5) (.cons (.var 9) (.cons (.var 9) (.cons (.var 9) .nil))))=some (.tup [.flt 0,.flt g,.flt 0]):=by
  have:=cL (k:=5) (Φ:=Fi (N+1)) (ρ:=ρ) (vs:=[.flt g,.flt g,.flt g]) (gJ v9 v9 v9) rfl (NU (N:=N) g1);rw[g2]at this;exact this
 have c7:ev (Fi (N+1)) [] ρ (.call (.user 7) (.cons (.bin .Add (.var 9) (.bin .Div (.c (.int 1)) (.c (.int 8)))) (.cons (.c (.int 0)) (.cons (.var 9) .nil))))=some (.tup [.flt g,.flt g,.flt g]):=
  cL (vs:=[.flt (jab g (jac false 1 8)),.int 0,.flt g]) (gJ (x8 v9 (lS (x:=1) (y:=8) aR aR (by decide) (by decide))) bK v9) rfl NY
 have i0:ev (Fi (N+1)) [] ρ (.c (.int 0))=some (.int 0):=bK;have ct:ev (Fi (N+1)) [] ρ (.tup (.cons (.c (.int 0)) (.cons (.c (.int 0)) (.cons (.var 9) (.cons (.c (.int 0)) (.cons (.var 9) (.cons (.c (.int 0)) (.cons (.var 9) (.cons (.var 9) (.cons (.var 9) .nil))))))))))=some (.tup [.int 0,.int 0,.flt g,.int 0,.flt g,.int 0,.flt g,.flt g,.flt g]):=by
  refine sn (vs:=[.int 0,.int 0,.flt g,.int 0,.flt g,.int 0,.flt g,.flt g,.flt g]) ?_ (show 9<=100000 by decide);simp only[mO,DA,i0,v9]
 refine cK (ya (ya c6 c5 (show 6<=100000 by decide)) c7 (show 9<=100000 by decide)) ct ?_;have ez:cJ (.flt 0) (.int 0)=some true:=by
  show some (jbG 0 0==some .eq)=_;rw[IK]
 have eg:cJ (.flt g) (.flt g)=some true:=by
  show(if(jag g g==some .eq)=true then some (jag g g==some .eq)else none)=_;unfold bO at g1;rw[g1];rfl
 show(eN cJ [.flt 0,.flt 0,.flt g,.flt 0,.flt g,.flt 0,.flt g,.flt g,.flt g] [.int 0,.int 0,.flt g,.int 0,.flt g,.int 0,.flt g,.flt g,.flt g]).map (!·)=_;simp only[sd,ez,eg];rfl
theorem Q0:(Za 64).all (λa=>fH (bT a) λx=>(ZX 1 31).all λst=>fH (bT ((a+st)%64)) λy=>fH (bT ((a+2*st)%64)) λz=>bO x x&&bO y y&&bO z z&&!bO x y&&!bO y x&&!bO x z&&!bO z x&&!bO y z&&!bO z y)=true:=by decide +kernel
theorem QY(A:Nat):wS A:=by
 have h1:=Y'.mp Q0 (A%64) (ZM.mpr (ZU _ (by decide)));rw[qf]at h1;have h2:=Y'.mp h1 (1+A/64%31) (by rw[jaX];lia);rw[qf,qf]at h2;simp only[ZA,jbS]at h2;refine bN h2 λz1 a9=>?_;obtain⟨⟨⟨⟨⟨⟨⟨a1,a2⟩,a3⟩,a4⟩,a5⟩,a6⟩,a7⟩,a8⟩:=z1;have e0:dF A 0=A%64:=by unfold dF;simp
 have e1:dF A 1=(A%64+(1+A/64%31))%64:=by unfold dF;simp
 have e2:dF A 2=(A%64+2*(1+A/64%31))%64:=by unfold dF;exact rfl
 intro l l' hl hZ;have:l=0\/l=1\/l=2:=IR hl;have:l'=0\/l'=1\/l'=2:=IR hZ;rcases‹l=0\/l=1\/l=2› with rfl|rfl|rfl<;>rcases‹l'=0\/l'=1\/l'=2› with rfl|rfl|rfl<;>simp only[e0,e1,e2]<;>first|exact a1|exact a2|exact a3|exact a4|exact a5|exact a6|exact a7|exact a8|exact a9
def pL:Nat->dw->dw
 |0,s=>s
 |k+1,.cons _ s=>pL k s
 |_+1,.nil=>.nil
section
theorem Nf{a e:Ex}{k:Nat}{x:List AV}(h1:ev Φ σ ρ a=some (.lst x))(h2:ev Φ σ ρ e=some (.int k))(hl:x.length<=100000):ev Φ σ ρ (.slice a .none (.some e))=some (.lst (x.take k)):=by
 have hn:fG Φ σ ρ .none=some none:=rfl;have hs:fG Φ σ ρ (.some e)=some (some (k:Int)):=by rw[pR,h2]
 rw[pY,h1];simp only[hn,hs];show(if 0<=(k:Int)then me σ (λl=>l.take (k:Int).toNat) (.lst x)else none)=_;rw[if_pos (Zl k),ZF];show(if _ then _ else _)=_;rw[if_pos hl]
theorem Nd{a e:Ex}{k:Nat}{x:List AV}(h1:ev Φ σ ρ a=some (.lst x))(h2:ev Φ σ ρ e=some (.int k))(hl:x.length<=100000):ev Φ σ ρ (.slice a (.some e) .none)=some (.lst (x.drop k)):=by
 have hn:fG Φ σ ρ .none=some none:=rfl;have hs:fG Φ σ ρ (.some e)=some (some (k:Int)):=by rw[pR,h2]
 rw[pY,h1];simp only[hn,hs];show(if 0<=(k:Int)then me σ (λl=>l.drop (k:Int).toNat) (.lst x)else none)=_;rw[if_pos (Zl k),ZF];show(if _ then _ else _)=_;rw[if_pos hl]
theorem yf(h1:ev Φ σ ρ a=some (.lst l))(hl:l.length<=100000):ev Φ σ ρ (.call .len (.cons a .nil))=some (.int (l.length:Nat)):=by
 refine dK (cT h1) ?_;show fL l.length=_;unfold fL;refine aa (if_pos hl) ?_;rfl
theorem Dp(h1:ev Φ σ ρ a=some (cR D))(hl:D.length<=100000):ev Φ σ ρ (.call .len (.cons a .nil))=some (.int (D.length:Nat)):=by
 refine dK (cT h1) ?_;show fL (cG D).length=_;unfold fL cG;refine aa (Y4 _) ?_;refine aa (if_pos hl) ?_;rfl
theorem Dj{a i:Ex}{l:List AV}{k:Nat}{v:AV}(h1:ev Φ σ ρ a=some (.lst l))(h2:ev Φ σ ρ i=some (.int (-1-(k:Int))))(hk:k<l.length)(hv:l[l.length-1-k]?=some v)(hn:l.length<=100000):ev Φ σ ρ (.idx a i)=some v:=by
 refine mL h1 h2 ?_;have hp:fO (-1-(k:Int)) l.length=some (l.length-1-k):=by
  unfold fO;have hs:-1-(k:Int)=jhV k:=by rw[jjv];lia
  have hm:jhV k+(l.length:Int)=((l.length-1-k:Nat):Int):=by rw[jjv];lia
  have hl:=Zy (jfv (l.length-1) k) (jiq (Zy (jbp k) hk) Nat.one_pos);rw[hs];refine aa (if_pos (show hJ (jhV k)=true from decide_eq_true (show k+1<2^53 from Zy (Y5 hk hn) (by decide)))) ?_;unfold jfy;simp only[if_pos (Int.negSucc_lt_zero k),hm];refine aa (if_pos (show(decide (0<=((l.length-1-k:Nat):Int))&&decide (((l.length-1-k:Nat):Int)<(l.length:Int)))=true by rw[decide_eq_true (Zl _),decide_eq_true (jbF.mpr hl)];rfl)) ?_;rfl
 show(fO (-1-(k:Int)) l.length).bind (λj=>l[j]?)=_;refine aa hp ?_;exact hv
theorem C0:∀a b:List Nat,a.length=b.length->eN cJ (aq a) (aq b)=some (decide (a=b))
 | [],[],_=>rfl
 |a::as,b::bs,h=>by
  have ih:=C0 as bs (by simpa using h);have e:eN cJ (aq (a::as)) (aq (b::bs))=some (decide ((a:Int)=(b:Int))&&decide (as=bs)):=by
   show eN cJ (AV.int (a:Int)::aq as) (AV.int (b:Int)::aq bs)=_;rw[sd];rw[ih];rfl
  rw[e]
  congr 1
  rw[jaQ,ZA,decide_eq_true_iff,decide_eq_true_iff,decide_eq_true_iff,List.cons.injEq];constructor
  ·rintro⟨h1,h2⟩;exact⟨by lia,h2⟩
  ·rintro⟨h1,h2⟩;exact⟨by simp[*],h2⟩
theorem C2(a b:List Nat):jB σ (.lst (aq a)) (.lst (aq b))=some (decide (a=b)):=by
 show(if(aq a).length=(aq b).length then eN cJ (aq a) (aq b)else some false)=_;refine aa (Y4 _) ?_;refine aa (Y4 _) ?_;by_cases h:a.length=b.length
 ·refine aa (if_pos h) ?_;refine aa (C0 a b h) ?_;rfl
 ·rw[if_neg h,decide_eq_false (λe=>h (by refine aa e ?_;rfl))]
theorem M4(h1:ev Φ σ ρ a=some (.lst (aq x)))(h2:ev Φ σ ρ b=some (.lst (aq y))):ev Φ σ ρ (.cmp .Eq a b)=some (.bool (decide (x=y))):=by
 refine cK h1 h2 ?_;show jB σ (.lst (aq x)) (.lst (aq y))=_;exact C2 x y
theorem M8(h1:ev Φ σ ρ a=some (.lst (aq x)))(h2:ev Φ σ ρ b=some (.lst (aq x))):ev Φ σ ρ (.cmp .NotEq a b)=some (.bool false):=by
 refine cK h1 h2 ?_;show(jB σ (.lst (aq x)) (.lst (aq x))).map (!·)=_;refine aa (C2 _ _) ?_;refine aa (decide_eq_true rfl) ?_;rfl
end
theorem Em(l:List Nat):aZ [] 6 (.lst (aq l))=some (.lst (aq l)):=by
 show(bj (aZ [] 5) (aq l)).map AV.lst=_;refine aa (qh 4 _ _) ?_;rfl
theorem El(l:List Int):aZ [] 6 (.lst (bB l))=some (.lst (bB l)):=by
 show(bj (aZ [] 5) (l.map AV.int)).map AV.lst=_;refine aa (oL (g:=id) _ (λa ha=>by refine au (Zq.mp ha) ?_;rintro i _ rfl;rfl)) ?_;refine aa (jca _) ?_;rfl
theorem En(ac:List (List Nat)):aZ [] 6 (b9 ac)=some (b9 ac):=by
 show(bj (aZ [] 5) (ac.map λl=>AV.lst (aq l))).map AV.lst=_;rw[oL (g:=id) _ (λa ha=>by
  refine au (Zq.mp ha) ?_;rintro i _ rfl;show(bj (aZ [] 4) (aq i)).map AV.lst=_;refine aa (qh 3 _ _) ?_;rfl),jca];rfl
theorem OM(A n:Nat):aZ [] 6 (.lst (cq A n))=some (.lst (cq A n)):=by
 show(bj (aZ [] 5) (cq A n)).map AV.lst=_;have:=yO 4 [] (λt=>bT (dF A t)) (Za n);unfold cq;refine aa this ?_;rfl
theorem Au(h:f a=some b):bj f [a]=some [b]:=by simp only[gO,h];rfl
theorem Av(h:f a=some a')(h2:f b=some b'):bj f [a,b]=some [a',b']:=by simp only[gO,h,h2];rfl
theorem S7(h:f a=some a')(h2:f b=some b')(h3:f c=some c'):bj f [a,b,c]=some [a',b',c']:=by simp only[gO,h,h2,h3];rfl
theorem Sf(c:Nat):iQ c<=4:=by unfold iQ;(repeat' split)<;>exact bw jbO rfl
theorem Uq(hs:List Nat):∀x∈dA hs,x<=260:=by
 intro x hx;unfold dA at hx;refine au (jdj.mp hx) λi Y hx=>?_;unfold jo at hx;rw[ZI]at hx;rcases hx with hx|hx
 ·refine au (Zq.mp hx) ?_;rintro c _ rfl;have:=Sf c
  lia
 ·rw[Zu]at hx;have:pO hs i<48:=ZU _ (by decide);rw[hx];split<;>lia
theorem Un(hs:List Nat):∃x∈dA hs,256<=x:=by
 refine bA (IE (hs.getD 0 0%3) (hs.getD 0 0/3)) λc l e Y=>?_;refine aO (256+iQ c) ?_ (ZH 256 (iQ c));unfold dA;rw[jdj];refine aO 0 (by simp) ?_;unfold jo pM;refine aa (jbn 1 _) ?_;refine aa e ?_;simp
theorem Uo(hs:List Nat):(dA hs).length<=1000:=by
 refine rwj (Gl _) ?_;refine aa Ze ?_;refine aa (Y4 _) ?_;have:=tn hs;show _+1<=_;exact BC this rfl
abbrev A0(s bJ PH dO row ac Bp ja count tables:AV):aB:=[some s,some (.lst (aq kz)),some bJ,some PH,some dO,some row,some row,some ac,some Bp,some ja,some count,some tables,none,none,none,none,none,none,none,none,none,none,none,none]
theorem Si{N:Nat}(dM:List Int)(aN:dM.length<=100000)(hs:List Nat)(vw:hs=qr (dM.take 60)):∃ac dO,iw ac/\∀r,aE (Fi (N+2)) (A0 (.lst (bB dM)) (.lst (bB (dM.take 60))) (.lst (aq hs)) dO (.lst (aq (dA hs))) (b9 ac) (.lst (cq (hs.getD 6 0) (3*ac.length))) (.flt (qB (hs.getD 6 0%5))) (.int (ac.length:Nat)) (.lst ((bL ac (2^ac.length-1)).map cR))) [] (pL 11 mT.body)=r ->
 aE (Fi (N+2)) (some (.lst (bB dM))::Zm 23 none) [] mT.body=r:=by
 have h8:hs.length=8:=by rw[vw];exact EY _
 have Qm:(dM.take 60).length<=60:=by rw[jbH];lia
 obtain⟨ac,hg,lV⟩:=NN (N:=N) ((dA hs).map Z9++[255,-1]) (λx hx qk=>by
  rw[ZI]at hx;rcases hx with hx|hx
  ·refine au (Zq.mp hx) ?_;rintro y hy rfl;have:=Uq hs y hy;show(y:Int)<261
   lia
  ·simp at hx;lia) (by
  refine au (Un hs) λx hx h=>?_;exact aO (x:Int) (by rw[ZI];left;exact Zq.mpr ⟨x,hx,rfl⟩) (mm h))
 have hn:=hg.le;have sV:=hg.pos;refine cZ ac (.str (ij hs)) hg (λr hr=>?_);refine aT (v:=.lst (aq kz)) rfl (aT (v:=.lst (bB (dM.take 60))) ?_ ?_)
 ·refine(Nf (k:=60) (ag rfl) aR (by rw[Y4];exact aN)).trans ?_;unfold bB;rw[jhb]
 refine aT (v:=.lst (aq hs)) (by rw[vw];exact PI Qm (az:=Zm 21 none) rfl) ?_;refine n9 (vs:=[.str (ij hs),.lst (aq (dA hs))]) (cL (vs:=[.lst (aq hs)]) (cT (ag rfl)) (Au (Em hs)) (NL hs h8)) rfl ?_;refine aT (v:=.lst (aq (dA hs))) (cL (vs:=[.str (ij hs)]) (cT (ag rfl)) rfl (NM hs)) ?_;refine du (M8 (ag rfl) (ag rfl)) bG ?_;refine aT (v:=b9 ac) (cL (vs:=[.lst (bB ((dA hs).map Z9++[255,-1]))]) (cT ?_) (Au (El _)) lV) ?_
 ·refine(sj (x:=aq (dA hs)) (y:=[.int 255,.int (-1)]) (ag rfl) rfl ?_).trans ?_
  ·rw[Y4];have:=Uo hs;show _+2<=_
   lia
  ·rw[qI];unfold bB;rw[ZW];rfl
 have Fe:∀{ρ:aB},ρ[7]?=some (some (b9 ac))->ev (Fi (N+2)) [] ρ (.call .len (.cons (.var 7) .nil))=some (.int (ac.length:Nat)):=λh7=>by
  have:=yf (Φ:=Fi (N+2)) (σ:=[]) (l:=ac.map λl=>AV.lst (aq l)) (ag h7) (by rw[Y4];lia)
  rwa [Y4]at this
 have fu:∀i,i<8->(aq hs)[i]?=some (.int (hs.getD i 0:Nat)):=λi hi=>nq (by lia);have E4:∀{ρ:aB},ρ[3]?=some (some (.lst (aq hs)))->ev (Fi (N+2)) [] ρ (.idx (.var 3) (.c (.int 6)))=some (.int (hs.getD 6 0:Nat)):=λh3=>fX (l:=aq hs) (k:=6) (ag h3) aR (fu 6 (by lia)) (by rw[Y4];lia);refine aT (v:=.lst (cq (hs.getD 6 0) (3*ac.length))) (cL (vs:=[.int (hs.getD 6 0:Nat),.int (ac.length:Nat)]) (dL (E4 rfl) (Fe rfl)) rfl (NO _ _ hn)) ?_;refine aT (v:=.flt (qB (hs.getD 6 0%5))) (lS (y:=4) (dV (y:=5) (E4 rfl) aR (by decide)) aR (by decide) (jaq (ZU _ (by decide)) (by decide:5<2^64))) ?_;refine du (uU ((Dn (ag rfl)).trans ?_) (OZ (N:=N+1) (ZU _ (by decide)) rfl)) bG ?_
 ·have:(cq (hs.getD 6 0) (3*ac.length)).length=3*ac.length:=by unfold cq;rw[Y4,jaj]
  rw[this,decide_eq_false (by lia)]
 refine mP (vs:=[.int (ac.length:Nat),.lst ((bL ac (2^ac.length-1)).map cR)]) (gI (Fe rfl) (gI (cL (vs:=[b9 ac]) (cT (ag rfl)) (Au (En ac)) (NQ (N:=N+1) hg)) mK)) rfl ?_;exact hr
theorem Aw:∀(l:List Nat),∀x∈l,x<=l.sum
 |a::l,x,h=>by
  refine aa jap ?_;rcases ZT.mp h with rfl|h
  ·exact ZH x l.sum
  ·have:=Aw l x h
   lia
def jp(n:Nat)(W:Int):Int:=if n%2=1 then -W else W
def iq(ds:List Nat)(n:Nat):List Nat:=(Za n).map λm=>(ds.drop (m+1)).sum
structure ut(n w L de:Nat) (ds:List Nat) (P:Nat->Nat):Prop where
 W1:VN (2^w) ds<2^1000
 dl:∀d∈ds,d<1000
 back:dg w (bI w (VN (2^w) ds)) (VN (2^w) ds)=ds.map Z9
 side:∀h:Nat,h=1\/h=2\/h=3->∃q:Int,jp n (VN (2^w) ds:Nat)=(P h:Nat)+(((2^w:Nat):Int)+h)*q
 quo:VN (2^w) ds=L+(2^w-1)*VN (2^w) (iq ds n)
 tback:dg w (bI w (VN (2^w) (iq ds n))) (VN (2^w) (iq ds n))=(iq ds n).map Z9
 two:∃q:Int,((VN (2^w) ds:Nat):Int)=(de:Int)+(((2^w:Nat):Int)-2)*q
 Ll:L<1000
 q1:VN (2^w) (iq ds n)<2^1000
theorem So(f:o5 ac)(g:iw ac)(hw:10<=w)(oH:w<=32):
 ut ac.length w (tab ac (2^ac.length-1)).length (i6 ac) (0::dT (tab ac (2^ac.length-1)) ac.length) (λh=>(ci h ac ac.length).length):=by
 obtain⟨f1,f2,f3,f4,f5,f6,f7⟩:=f;have hn:=g.le;have sV:=g.pos;have hb:1024<=2^w:=Y5 (by decide:1024<=2^10) (Zp (by decide) hw);have qp:(dT (tab ac (2^ac.length-1)) ac.length).length=ac.length:=by
  unfold dT;rw[Zr,Y4,jbK];simp[*]
 generalize hL:(tab ac (2^ac.length-1)).length=L at *;generalize dT (tab ac (2^ac.length-1)) ac.length=ds at *;generalize ac.length=n at *;have vC:(0::ds).length=n+1:=by rw[Zr,qp]
 have y5:L<1000:=by
  rw[y6]at f4;have:=xa 2 (by decide) ds;rw[f2]at this;have:L<=VN 2 ds:=by rw[this];exact ZH _ _
  lia
 have vn:∀d∈(0::ds),d<1000:=λd hd=>by
  rcases ZT.mp hd with rfl|hd
  ·decide
  ·have:=Aw ds d hd
   lia
 have vA:1<=(0::ds).getD ((0::ds).length-1) 0:=by
  rw[vC,jea];obtain⟨m,rfl⟩:∃m,n=m+1:=⟨n-1,by simp[*]⟩
  rw[jea]at f3;show 1<=ds.getD m 0;rw[f3];exact Y9 1
 have EF:∀l:List Nat,l.length<=6->(∀d∈l,d<1000)->VN (2^w) l<2^1000:=λl hl hd=>by
  have h1:=wZ (jaG w) l (λd h=>by have:=hd d h;lia);rw[<-Nat.pow_mul]at h1;exact bf h1 (Zp (by decide) (Y5 (jbq oH hl) (by decide)))
 have QP:(0::ds).sum=L:=by rw[jap,f2,jdO]
 have FP:∀d∈iq (0::ds) n,d<1000:=λd hd=>by
  unfold iq at hd;refine au (Zq.mp hd) ?_;rintro m _ rfl;have:=V8 (0::ds) (m+1)
  lia
 have oG:(iq (0::ds) n).length=n:=by unfold iq;rw[Y4,jaj]
 refine⟨EF _ (by lia) vn,vn,?_,?_,?_,?_,?_,y5,EF _ (by lia) FP⟩
 ·exact CY (wK hw) (by simp) (λd hd=>by have:=vn d hd;lia) vA
 ·intro h hh;have e:=f7 h hh;have hv:=ux (2^w) (0::ds);refine aX (w0 ((2^w:Nat):Int) (-(h:Int)) (0::ds)) λq hq=>?_;have e2:VI (-(h:Int)) (0::ds)=-hI h ds:=by
   rw[pj,EA,jhU];show(0:Int)+_=_
   lia
  rw[<-hv,e2,e]at hq;unfold jp tM at *;by_cases ho:n%2=1
  ·rw[if_pos ho]at hq ⊢;refine⟨-q,?_⟩;rw[hq,jfh,Int.neg_add,jhT,Int.sub_neg]
  ·rw[if_neg ho]at hq ⊢;refine⟨q,?_⟩;rw[hq,jhT,Int.sub_neg]
 ·have:=xa (2^w) (wK hb) (0::ds);rw[Xg vC,BS,QP]at this;exact this
 ·refine CY (wK hw) (λe=>?_) (λd hd=>by have:=FP d hd;lia) ?_
  ·rw[e]at oG;have:n=0:=oG.symm
   lia
  ·rw[oG];unfold iq;rw[Zb,ZR,jdG (by lia)];show 1<=((0::ds).drop (n-1+1)).sum;rw[show n-1+1=n from BD sV];have:(0::ds).getD n 0∈(0::ds).drop n:=by
    rw[Zb,Zg (ZP (id (jfp vC)))];rw[jdw];exact⟨0,by rw[jbI];lia,by rw[jis];rfl⟩
   have h2:=Aw _ _ this;rw[vC,jea]at vA
   lia
 ·refine aX (w0 ((2^w:Nat):Int) 2 (0::ds)) λq hq=>?_;refine⟨q,?_⟩;rw[ux,hq]
  congr 1
  rw[pj,<-f4,y6,jbf,ux];show(0:Int)+2*_=_;rw[jhx];rfl
section
theorem tE{N:Nat}{a b:Ex}{is:List Int}{c:List AV->AV}(hc:c=.tup\/c=.lst)(ha:ev (Fi (N+1)) [] ρ a=some (c (is.map .int)))(hb:ev (Fi (N+1)) [] ρ b=some (c (is.map .int)))(hl:is.length<=1000):ev (Fi (N+1)) [] ρ (.call (.user 20) (.cons a (.cons b .nil)))=some (.bool true):=by
 have hz:aZ [] 6 (c (is.map .int))=some (c (is.map .int)):=by
  have hm:bj (aZ [] 5) (is.map AV.int)=some (is.map AV.int):=by
   refine aa (oL (g:=id) _ (λa ha=>by refine au (Zq.mp ha) ?_;rintro i _ rfl;rfl)) ?_;refine aa (jca _) ?_;rfl
  rcases hc with rfl|rfl
  ·show(bj (aZ [] 5) (is.map AV.int)).map AV.tup=_;refine aa hm ?_;rfl
  ·show(bj (aZ [] 5) (is.map AV.int)).map AV.lst=_;refine aa hm ?_;rfl
 exact cL (vs:=[c (is.map .int),c (is.map .int)]) (dL ha hb) (Av hz hz) (NR is hl hc)
theorem yc(h1:ev Φ σ ρ a=some (.int x))(h2:ev Φ σ ρ b=some (.int y))(hy:y≠0)(hs:y.natAbs<2^64):ev Φ σ ρ (.bin .FloorDiv a b)=some (.int (x.fdiv y)):=by
 refine cb h1 h2 ?_;show(if y=0\/!small y then none else some (AV.int (x.fdiv y)))=_;have:small y=true:=by unfold small;exact decide_eq_true hs
 rw[if_neg (by refine aa this ?_;simp;exact hy)]
theorem M3{a b:Ex}{l:List Nat}{k:Nat}(h1:ev Φ σ ρ a=some (.lst (aq l)))(h2:ev Φ σ ρ b=some (.int k)):ev Φ σ ρ (.call .count (.cons a (.cons b .nil)))=some (.int (l.countP λx=>decide (x=k):Nat)):=by
 refine dK (dL h1 h2) ?_;show pG σ [.lst (aq l),.int k]=_
 delta pG;dsimp only;rw[show aQ σ (.lst (aq l))=some (aq l)from rfl];dsimp only
 refine aa (qI _) ?_;unfold bB;simp only[rK];refine aa jge ?_
 congr 3
 congr 1
 funext x;rw[jaQ];show((Z9 x==(k:Int))=true)↔_;rw[beq_iff_eq,decide_eq_true_iff];show((x:Int)=(k:Int))↔_
 lia
end
abbrev qO(s bJ:AV)(hs:List Nat)(dO row:AV)(ac:List (List Nat))(ja j2:AV)(ni ds:List Nat)(w:Nat)(W side:Int)(Xt Xu Xv Xw Xx:Option AV):aB :=
 [some s,some (.lst (aq kz)),some bJ,some (.lst (aq hs)),some dO,some row,some row,some (b9 ac),some (.lst (cq (hs.getD 6 0) (3*ac.length))),some ja,some (.int (ac.length:Nat)),some (.lst ((bL ac (2^ac.length-1)).map cR)),some j2,some (.lst (aq ni)),some (.lst (aq ds)),some (.int w),some (.int (2^w:Nat)),some (.int W),some (.int side),Xt,Xu,Xv,Xw,Xx]
section
theorem oU(ac:List (List Nat)):((bL ac (2^ac.length-1)).map cR).length=2^ac.length:=by
 have:=jaG ac.length;rw[Y4,nz];lia
theorem Bo(ac:List (List Nat))(h:S<2^ac.length):((bL ac (2^ac.length-1)).map cR)[S]?=some (cR (tab ac S)):=by
 have hl:=nz ac (2^ac.length-1);have e:=tV ac (k:=S) (2^ac.length-1) (by lia);refine aa ZR ?_;rw[Zb,Zg (by lia)]at e;refine aa (Zg (by lia)) ?_;unfold tab;refine rwj e ?_;rfl
theorem Sj{ac:List (List Nat)}{hs:List Nat}{s bJ dO row ja:AV}{w:Nat}(g:iw ac)(f:o5 ac)(h8:hs.length=8)(hw:w=10+hs.getD 7 0/60%23)(M:ut ac.length w (tab ac (2^ac.length-1)).length (i6 ac) (0::dT (tab ac (2^ac.length-1)) ac.length) (λh=>(ci h ac ac.length).length)):
 ∃j2,∀r,aE (Fi (N+2)) (qO s bJ hs dO row ac ja j2 ((tab ac (2^ac.length-1)).map (·.2)) (0::dT (tab ac (2^ac.length-1)) ac.length) w (VN (2^w) (0::dT (tab ac (2^ac.length-1)) ac.length):Nat) (jp ac.length (VN (2^w) (0::dT (tab ac (2^ac.length-1)) ac.length):Nat)) none none none none none) [] (pL 17 mT.body)=r ->
  aE (Fi (N+2)) (A0 s bJ (.lst (aq hs)) dO row (b9 ac) (.lst (cq (hs.getD 6 0) (3*ac.length))) ja (.int (ac.length:Nat)) (.lst ((bL ac (2^ac.length-1)).map cR))) [] (pL 11 mT.body)=r:=by
 have hn:=g.le;have sV:=g.pos;have hp:=jaG ac.length;have mW:2^ac.length<=32:=Y5 (Zp (by decide) hn) (by decide);have y5:=M.Ll;have Po:=f.alone (hs.getD 7 0%ac.length) (ZU _ sV);have qp:(dT (tab ac (2^ac.length-1)) ac.length).length=ac.length:=by
  unfold dT;refine aa Zr ?_;refine aa (Y4 _) ?_;refine aa jbK ?_;simp[*]
 have PD:=M.dl;have YK:w<=32:=by
  have:=ZU (hs.getD 7 0/60) (show 0<23 by decide)
  lia
 have fu:∀i,i<8->(aq hs)[i]?=some (.int (hs.getD i 0:Nat)):=λi hi=>nq (by simp[*]);have E5:∀{ρ:aB},ρ[3]?=some (some (.lst (aq hs)))->ev (Fi (N+2)) [] ρ (.idx (.var 3) (.c (.int 7)))=some (.int (hs.getD 7 0:Nat)):=λh3=>fX (l:=aq hs) (k:=7) (ag h3) aR (fu 7 (jbO)) (by refine aa (Y4 _) ?_;simp[*]);have lq:∀{ρ:aB},ρ[11]?=some (some (.lst ((bL ac (2^ac.length-1)).map cR)))->ev (Fi (N+2)) [] ρ (.idx (.var 11) (.un .USub (.c (.int 1))))=some (cR (tab ac (2^ac.length-1))):=λkZ=>by
  refine Dj (l:=(bL ac (2^ac.length-1)).map cR) (k:=0) (ag kZ) rfl ?_ ?_ ?_
  ·refine aa (oU _) ?_;exact hp
  ·refine aa (oU _) ?_;exact Bo ac (by lia)
  ·refine aa (oU _) ?_;lia
 generalize hD:tab ac (2^ac.length-1)=D at *;generalize hT:(bL ac (2^ac.length-1)).map cR=T at *;generalize hY:dT D ac.length=ds at *;have alone:ev (Fi (N+2)) [] (A0 s bJ (.lst (aq hs)) dO row (b9 ac) (.lst (cq (hs.getD 6 0) (3*ac.length))) ja (.int (ac.length:Nat)) (.lst T)) (.comp 1 (.cons 24 (.val (.idx (.var 11) (.un .USub (.c (.int 1))))) (.cons (.cmp .Eq (.comp 1 (.cons 25 (.range (.cons (.var 10) .nil)) (.cons (.cmp .Eq (.bin .Mod (.bin .FloorDiv (.var 24) (.bin .Pow (.c (.int 32)) (.var 25))) (.c (.int 32))) (.c (.int 0))) .nil) (.done (.var 25)))) (.list (.cons (.bin .Mod (.idx (.var 3) (.c (.int 7))) (.var 10)) .nil))) .nil) (.done (.var 24)))) =
  some (.lst ((D.filter λe=>decide ((Za ac.length).filter (λi=>decide (e.1/32^i%32=0))=[hs.getD 7 0%ac.length])).map λe=>AV.int (e.1:Nat))):=by
  refine(nZ (x:=24) (vs:=D.map λe=>AV.int (e.1:Nat)) (p:=λv=>match v with | .int k=>decide ((Za ac.length).filter (λi=>decide (k.toNat/32^i%32=0))=[hs.getD 7 0%ac.length])|_=>false) (g:=id) ?_ rfl (by refine aa (Y4 _) ?_;lia) (λv hv=>?_) (λv hv Y=>?_)).trans ?_
  ·rewrite [si];refine aa (lq rfl) ?_;show some ((cG D).map λe=>AV.int e.1)=_;unfold cG;refine aa ZN ?_;rfl
  ·refine au (Zq.mp hv) ?_;rintro e he rfl;show _=some (decide ((Za ac.length).filter (λi=>decide ((e.1:Int).toNat/32^i%32=0))=[hs.getD 7 0%ac.length]));refine aa (ZF _) ?_;refine kS (M4 ?_ ?_)
   ·refine(nZ (x:=25) (vs:=aq (Za ac.length)) (p:=λv=>match v with | .int i=>decide (e.1/32^i.toNat%32=0)|_=>false) (g:=id) (j' (ag rfl) (by lia)) rfl (by refine aa (Y4 _) ?_;refine aa jaj ?_;lia) (λv hv=>?_) (λv hv Y=>?_)).trans ?_
    ·refine au (Zq.mp hv) ?_;rintro i hi rfl;have hi:=ZM.mp hi;show _=some (decide (e.1/32^(i:Int).toNat%32=0));refine aa (ZF _) ?_;have Um:32^i<2^64:=Zy (Zp (by decide) (show i<=5 by lia)) (by decide);have p0:=jcR (n:=i) (show 0<32 by decide);exact kS (pT (y:=0) (dV (y:=32) (jC (ag rfl) (jE (x:=32) aR (ag rfl) (by decide) (by lia)) (by lia) Um) aR (by decide)) aR)
    ·refine au (Zq.mp hv) ?_;rintro i hi rfl;exact ag rfl
    ·refine aa (jca _) ?_;unfold aq;refine aa jch ?_
     congr 3
   ·exact sk (cT (dV (E5 rfl) (ag rfl) (by lia))) (show 1<=100000 by decide)
  ·refine au (Zq.mp hv) ?_;rintro e he rfl;exact ag rfl
  ·refine aa (jca _) ?_;refine aa jch ?_
   congr 3
 refine⟨.lst ((D.filter λe=>decide ((Za ac.length).filter (λi=>decide (e.1/32^i%32=0))=[hs.getD 7 0%ac.length])).map λe=>AV.int (e.1:Nat)),λr hr=>?_⟩;refine aT alone ?_;refine aT (v:=.lst (aq (D.map (·.2)))) (dK (cT (lq rfl)) ?_) ?_
 ·show(if(cG D).length<=100000 then some (AV.lst ((cG D).map (·.2)))else none)=_;unfold cG aq;refine aa (Y4 _) ?_;refine aa (if_pos (by lia)) ?_;refine aa ZN ?_;refine aa ZN ?_;rfl
 refine aT (v:=.lst (aq (0::ds))) ?_ ?_
 ·have e:(0::ds)=[0,mC D ac.length (hs.getD 7 0%ac.length)]++(ZX 2 (ac.length-1)).map λk=>D.countP λe=>decide (e.2=k):=by
   refine rwj hY ?_;refine aa Po ?_;rfl
  refine aa e ?_;refine(sj (x:=aq [0,mC D ac.length (hs.getD 7 0%ac.length)]) (y:=aq ((ZX 2 (ac.length-1)).map λk=>D.countP λe=>decide (e.2=k))) ?_ ?_ ?_).trans ?_
  ·refine sk (vs:=[.int 0,.int (mC D ac.length (hs.getD 7 0%ac.length):Nat)]) (dL bK ?_) (show 2<=100000 by decide);have:=yf (Φ:=Fi (N+2)) (σ:=[]) (a:=.var 12) (l:=(D.filter λe=>decide ((Za ac.length).filter (λi=>decide (e.1/32^i%32=0))=[hs.getD 7 0%ac.length])).map λe=>AV.int (e.1:Nat)) (ρ:=[some s,some (.lst (aq kz)),some bJ,some (.lst (aq hs)),some dO,some row,some row,some (b9 ac),some (.lst (cq (hs.getD 6 0) (3*ac.length))),some ja,some (.int (ac.length:Nat)),some (.lst T),some (.lst ((D.filter λe=>decide ((Za ac.length).filter (λi=>decide (e.1/32^i%32=0))=[hs.getD 7 0%ac.length])).map λe=>AV.int (e.1:Nat))),some (.lst (aq (D.map (·.2)))),none,none,none,none,none,none,none,none,none,none]) (ag rfl) (by refine aa (Y4 _) ?_;have:=jdg (λ(e:Nat×Nat)=>decide ((Za ac.length).filter (λi=>decide (e.1/32^i%32=0))=[hs.getD 7 0%ac.length])) D;lia);rw[Y4,<-List.countP_eq_length_filter]at this;exact this
  ·refine(n0 (x:=24) (vs:=aq (ZX 2 (ac.length+1-2))) (g:=λv=>match v with | .int k=>.int (D.countP (λe=>decide (e.2=k.toNat)):Nat)|v=>v) (x5 (a:=2) aR (iF (y:=1) (ag rfl) aR) (by lia) (by lia)) rfl (by refine aa (Y4 _) ?_;refine aa jbK ?_;lia) (λv hv=>?_)).trans ?_
   ·refine au (Zq.mp hv) ?_;rintro k hk rfl;show _=some (AV.int (D.countP (λe=>decide (e.2=(k:Int).toNat)):Nat));refine aa (ZF _) ?_;refine(M3 (l:=D.map (·.2)) (k:=k) (ag rfl) (ag rfl)).trans ?_;refine aa jge ?_;rfl
   ·unfold aq;refine aa ZN ?_;refine aa ZN ?_;refine aa (show ac.length+1-2=ac.length-1 by lia) ?_;rfl
  ·refine aa (Y4 _) ?_;refine aa (Y4 _) ?_;refine aa (Y4 _) ?_;refine aa jbK ?_;show 2+_<=_
   lia
  ·unfold aq;refine aa ZW ?_;rfl
 have Q7:∀{ρ:aB},ρ[3]?=some (some (.lst (aq hs)))->ev (Fi (N+2)) [] ρ (.bin .Add (.c (.int 10)) (.bin .Mod (.bin .FloorDiv (.idx (.var 3) (.c (.int 7))) (.c (.int 60))) (.c (.int 23))))=some (.int (w:Nat)):=λh3=>by
  refine aa hw ?_;exact iF (x:=10) aR (dV (y:=23) (jC (y:=60) (E5 h3) aR (by decide) (by decide)) aR (by decide))
 refine aT (Q7 rfl) ?_;refine mP (vs:=[.int (2^w:Nat),.int (VN (2^w) (0::ds):Nat)]) (gI (jE (x:=2) aR (ag rfl) (by decide) (by lia)) (gI ?_ mK)) rfl ?_
 ·have h2:=yF (n:=N+1) (m:=w) (is:=(0::ds).map Z9) (by refine aa (Y4 _) ?_;refine aa Zr ?_;lia) (by lia) (λd hd=>by
   refine au (Zq.mp hd) ?_;rintro x hx rfl;have:=PD x hx;show x<2^64;exact jaq this (by decide))
  rw[xQ]at h2;refine cL (vs:=[.lst (aq (0::ds)),.int w]) (dL (ag rfl) (ag rfl)) (Av (Em _) rfl) ?_;refine aa (qI _) ?_;exact h2
 subst hT;refine aT (v:=.int (jp ac.length (VN (2^w) (0::ds):Nat))) ?_ hr;unfold jp;have hc:∀{ρ:aB},ρ[10]?=some (some (.int (ac.length:Nat)))->ev (Fi (N+2)) [] ρ (.cmp .Eq (.bin .Mod (.var 10) (.c (.int 2))) (.c (.int 1)))=some (.bool (decide (ac.length%2=1))):=λlU=>pT (y:=1) (dV (y:=2) (ag lU) aR (by decide)) aR;by_cases ho:ac.length%2=1
 ·refine aa (if_pos ho) ?_;exact pV ((hc rfl).trans (by refine aa (decide_eq_true ho) ?_;rfl)) (M9 (ag rfl))
 ·refine aa (if_neg ho) ?_;exact pU ((hc rfl).trans (by refine aa (decide_eq_false ho) ?_;rfl)) (ag rfl)
end
def Oz:dw->dw
 | .cons (.for_ _ _ b) _=>b
 |_=>.nil
def Ev:dw:=Oz (pL 17 mT.body)
section
theorem QZ(g:iw ac)(h8:hs.length=8)(s4:10<=w)(oH:w<=32)(M:ut ac.length w L de ds (λh=>(ci h ac ac.length).length))(hh:h=1\/h=2\/h=3):
 ∃xi xj,aE (Fi (N+5)) (qO s bJ hs dO row ac ja j2 ni ds w (VN (2^w) ds:Nat) (jp ac.length (VN (2^w) ds:Nat)) (some (.int (h:Nat))) nL nM none none) [] Ev =
  some (.next (qO s bJ hs dO row ac ja j2 ni ds w (VN (2^w) ds:Nat) (jp ac.length (VN (2^w) ds:Nat)) (some (.int (h:Nat))) xi xj none none) []):=by
 have hn:=g.le;have zp:h<=3:=by lia
 refine aX (M.side h hh) λq hq=>?_;have qn:=M.W1;have zb:1024<=2^w:=Y5 (by decide:1024<=2^10) (Zp (by decide) s4);have jI:2^w<=4294967296:=Y5 (Zp (by decide) oH) (by decide);have hP:(ci h ac ac.length).length<=243:=by
  refine Y5 (tD h ac ac.length) (Y5 (jdK zp _) (Y5 (Zp (by decide) hn) (by decide)))
 have fu:(aq hs)[7]?=some (.int (hs.getD 7 0:Nat)):=nq (ZP (id (jfp h8)));have EK:(jp ac.length (VN (2^w) ds:Nat)).natAbs=VN (2^w) ds:=by unfold jp;split<;>simp
 have O6:=NP (N:=N+4) (ac:=ac) (A:=hs.getD 6 0) (h:=h) g zp (QY _);generalize YG:jp ac.length (VN (2^w) ds:Nat)=side at *;generalize Yr:(ci h ac ac.length).length=dx at *;have hq:side=(dx:Int)+(((2^w:Nat):Int)+h)*q:=hq;generalize mZ:2^w=base at *;have ou:=sw (m:=(base:Int)+h) (q:=q) (r:=dx) (Zl dx) (by lia);have zl:=DU (m:=(base:Int)+h) (q:=q) (r:=dx) (Zl dx) (by lia);have hz:=sw (m:=(base:Int)+h) (q:=q) (r:=0) (Zl 0) (by lia);rw[<-hq]at ou zl;have QI:(side-dx).fdiv ((base:Int)+h)=q:=by
  have e:side-dx=0+((base:Int)+h)*q:=by lia
  refine aa e ?_;exact hz.1
 have QJ:∃sg:Int,(sg=1\/sg=-1)/\sg=1-((2*((h+hs.getD 7 0)%2):Nat):Int):=aO _ (by lia) rfl;refine au QJ λsg FJ QK=>?_;have key:(sg*side).fdiv (sg*((base:Int)+h))=q/\(sg*side).fmod (sg*((base:Int)+h))=sg*dx/\sg*((base:Int)+h)≠0/\(sg*((base:Int)+h)).natAbs<2^64/\(sg*side).natAbs<2^1000:=by
  have a0:((base:Int)+h).natAbs<2^64:=by
   have:((base:Int)+h).natAbs=base+h:=rfl;refine aa this ?_;lia
  rcases FJ with rfl|rfl
  ·refine aa (jhS _) ?_;refine aa (jhS _) ?_;refine aa (jhS _) ?_;exact F3 ou.1 ou.2 (by lia) a0 (by refine aa EK ?_;exact qn)
  ·refine aa (jgv _) ?_;refine aa (jgv _) ?_;refine aa (jgv _) ?_;exact F3 zl.1 zl.2 (by lia) (by refine aa (jeb _) ?_;exact a0) (by refine aa (jeb _) ?_;refine aa EK ?_;exact qn)
 refine DB key λk1 k2 k3 k4 k5=>?_;have oD:small sg=true:=by
  unfold small;refine decide_eq_true ?_;rcases FJ with rfl|rfl<;>decide
 refine jQ (some (.int (dx:Nat))) (some (.int sg)) ?_;refine aT (v:=.int (dx:Nat)) (cL (vs:=[b9 ac,.lst (cq (hs.getD 6 0) (3*ac.length)),.int (h:Nat)]) (gJ (ag rfl) (ag rfl) (ag rfl)) (S7 (En ac) (OM _ _) rfl) O6) ?_;refine aT (v:=.int sg) ?_ ?_
 ·refine aa QK ?_;exact jF bK (mM (x:=2) aR (dV (y:=2) (iF (ag rfl) (fX (l:=aq hs) (k:=7) (ag rfl) aR fu (by refine aa (Y4 _) ?_;lia))) aR (by decide)) (jcy (by decide)))
 refine du (uU ?_ ?_) bG ?_
 ·refine(yh (b:=true) (tE (N:=N+4) (is:=[q,sg*dx]) (jcy rfl) ?_ ?_ (by simp))).trans rfl
  ·have h4:=yG (N:=N) (a:=sg*side) (b:=sg*((base:Int)+h)) k5 k3 k4;rw[k1,k2]at h4;refine cL (vs:=[.int (sg*side),.int (sg*((base:Int)+h))]) (dL (uT (ag rfl) (ag rfl) (jcy oD)) (uT (ag rfl) (nY (x:=(base:Int)) (y:=(h:Int)) ?_ (ag rfl)) (jcy oD))) rfl h4;refine rwj mZ ?_;exact ag rfl
  ·refine sn (vs:=[.int q,.int (sg*dx)]) (dL ?_ (uT (ag rfl) (ag rfl) (jcy oD))) (show 2<=100000 by decide);refine rwj QI ?_;refine yc (jF (ag rfl) (ag rfl)) (nY (x:=(base:Int)) (y:=(h:Int)) ?_ (ag rfl)) (by lia) ?_
   ·refine rwj mZ ?_;exact ag rfl
   ·have:((base:Int)+h).natAbs=base+h:=rfl;refine aa this ?_;lia
 ·have qp:(dg h (bI h dx) dx).length<=1000:=by
   rw[r9];unfold bI Zt;have:dx.log2<8\/dx=0:=by
    by_cases h0:dx=0
    ·exact jfC h0
    ·exact jcy ((jfd h0).mpr (by lia))
   refine Y5 (jgt _ _) ?_;split
   ·lia
   ·refine aa (ZV _) ?_;rcases this with h1|h1
    ·lia
    ·have h0:Nat.log2 0=0:=by decide
     refine aa h1 ?_;refine aa h0 ?_;lia
  have h1:=u0 (n:=N+4) (a:=dx) (m:=h) (Zy hP (bf (by decide:243<2^8) (Zp (by decide) (by decide)))) (by lia) (bw zp rfl);have h2:=yF (n:=N+4) (m:=h) (is:=dg h (bI h dx) dx) qp (by lia) (λd hd=>by
   rw[r8]at hd;refine au (Zq.mp hd) ?_;rintro x hx rfl;have:=xT h _ _ x hx;show x<2^64;exact bf this (Zp (by decide) (by lia)))
  rw[back h dx (by lia)]at h2;have c1:∀{ρ:aB},ρ[20]?=some (some (.int (dx:Nat)))->ρ[19]?=some (some (.int (h:Nat)))->ev (Fi (N+5)) [] ρ (.call (.user 2) (.cons (.call (.user 1) (.cons (.var 20) (.cons (.var 19) .nil))) (.cons (.var 19) .nil)))=some (.int (dx:Nat)):=λOO Eo =>
   cL (vs:=[.lst (bB (dg h (bI h dx) dx)),.int (h:Nat)]) (dL (cL (vs:=[.int (dx:Nat),.int (h:Nat)]) (dL (ag OO) (ag Eo)) rfl h1) (ag Eo)) (Av (El _) rfl) h2
  refine(yg (x:=(dx:Int)) (y:=dx) (c1 rfl rfl) (ag rfl)).trans ?_;refine aa (decide_eq_true rfl) ?_;rfl
 ·exact bG
end
theorem Nj(h1:ev Φ σ ρ a=some x)(h2:ev Φ σ ρ b=some y)(h3:ev Φ σ ρ c=some z)(h4:ev Φ σ ρ d=some u):bX Φ σ ρ (.cons a (.cons b (.cons c (.cons d .nil))))=some [x,y,z,u]:=by
 rw[mO,h1];dsimp only;rw[gJ h2 h3 h4]
section
theorem LB(gr:iw ac)(f:o5 ac)(hr:ρ.length=24)(lU:∀w:List (Option AV),(ρ++w)[10]?=some (some (.int (ac.length:Nat))))(kZ:∀w:List (Option AV),(ρ++w)[11]?=some (some (.lst ((bL ac (2^ac.length-1)).map cR)))):
 ev (Fi N) [] ρ (.call .sum (.cons (.comp 1 (.cons 24 (.range (.cons (.bin .Pow (.c (.int 2)) (.var 10)) .nil)) .nil (.done (.bin .Mult (.call .len (.cons (.idx (.var 11) (.var 24)) .nil)) (.call .len (.cons (.idx (.var 11) (.bin .Sub (.un .USub (.c (.int 1))) (.var 24))) .nil)))))) .nil))=some (.int (i6 ac:Nat)):=by
 have hn:=gr.le;have mW:2^ac.length<=32:=Y5 (Zp (by decide) hn) (by decide);have Eu:=lU [];rw[Z6]at Eu;refine uV (l:=(Za (2^ac.length)).map λS=>(tab ac S).length*(tab ac (2^ac.length-1-S)).length) ?_ (jaq f.dlt (by decide));refine(n0 (x:=24) (vs:=aq (Za (2^ac.length))) (g:=λv=>match v with | .int k=>.int ((tab ac k.toNat).length*(tab ac (2^ac.length-1-k.toNat)).length:Nat)|v=>v) (j' (jE (x:=2) aR (ag Eu) (by decide) (bw hn rfl)) (bw mW rfl)) hr (by refine aa (Y4 _) ?_;refine aa jaj ?_;exact bw mW rfl) (λv hv=>?_)).trans ?_
 ·refine au (Zq.mp hv) ?_;rintro S hS rfl;have hS:=ZM.mp hS;show _=some (AV.int ((tab ac (S:Int).toNat).length*(tab ac (2^ac.length-1-(S:Int).toNat)).length:Nat));refine aa (ZF _) ?_;have t6:(ρ++[some (AV.int (S:Int))])[24]?=some (some (.int (S:Int))):=by
   refine aa (Zk (ZP hr)) ?_;refine aa hr ?_;rfl
  have l1:=Bl hn (S:=S) (bf hS mW);have l2:=Bl hn (S:=2^ac.length-1-S) (by omega);refine mM (Dp (D:=tab ac S) (fX (l:=(bL ac (2^ac.length-1)).map cR) (k:=S) (ag (kZ _)) (ag t6) (Bo ac hS) (by refine aa (oU _) ?_;exact bw mW rfl)) (bw l1 rfl)) (Dp (D:=tab ac (2^ac.length-1-S)) (Dj (l:=(bL ac (2^ac.length-1)).map cR) (k:=S) (ag (kZ _)) (jF rfl (ag t6)) (by refine aa (oU _) ?_;exact hS) (by refine aa (oU _) ?_;exact Bo ac (by omega)) (by refine aa (oU _) ?_;exact bw mW rfl)) (by lia)) (jcy (Zy l1 (by decide)))
 ·unfold aq;refine aa ZN ?_;refine aa ZN ?_;rfl
theorem Sk(g:iw ac)(f:o5 ac)(s4:10<=w)(oH:w<=32)(iK:ni.length=L)(hY:ds.length=ac.length+1)(M:ut ac.length w L (i6 ac) ds (λh=>(ci h ac ac.length).length)):
 aE (Fi (N+5)) (qO s bJ hs dO row ac ja j2 ni ds w (VN (2^w) ds:Nat) (jp ac.length (VN (2^w) ds:Nat)) uy nL nM none none) [] (pL 18 mT.body)=some (.ret (.bool true)):=by
 have hn:=g.le;have zb:1024<=2^w:=Y5 (by decide:1024<=2^10) (Zp (by decide) s4);have jI:2^w<=4294967296:=Y5 (Zp (by decide) oH) (by decide);have lb:0<2^w-1:=jiF (bf (by decide) zb);have Fb:2^w-1<2^64:=Zy (jfv _ _) (Zy jI (by decide));have y5:=M.Ll;have FE:=M.quo;have qn:=M.W1;have Pg:=M.q1;have Yq:=f.dpos;have vn:=f.dlt;refine aX M.two λq2 FA=>?_;have tb:=M.tback;have bk:=M.back;generalize hQ:VN (2^w) (iq ds ac.length)=Q at *;have mZ:∀{ρ:aB},ρ[16]?=some (some (.int ((2^w:Nat):Int)))->ev (Fi (N+5)) [] ρ (.var 16)=some (.int ((2^w:Nat):Int)):=λh=>ag h;generalize hW:VN (2^w) ds=W at *;have Fh:∀{ρ:aB},ρ[13]?=some (some (.lst (aq ni)))->ev (Fi (N+5)) [] ρ (.call .len (.cons (.var 13) .nil))=some (.int (L:Nat)):=λsK=>by
  have:=yf (Φ:=Fi (N+5)) (σ:=[]) (l:=aq ni) (ag sK) (by refine aa (Y4 _) ?_;lia)
  rwa [Y4,iK]at this
 have EQ:∀{ρ:aB},ρ[16]?=some (some (.int ((2^w:Nat):Int)))->ev (Fi (N+5)) [] ρ (.bin .Sub (.var 16) (.c (.int 1)))=some (.int ((2^w-1:Nat):Int)):=λh=>sm (y:=1) (mZ h) aR (Y5 (by decide) zb);have Ph:((W:Int)-(L:Int)).fdiv ((2^w-1:Nat):Int)=(Q:Int):=by
  have e:(W:Int)-(L:Int)=0+((2^w-1:Nat):Int)*(Q:Int):=by
   refine aa FE ?_;refine aa (jbz _ _) ?_;refine aa (jbf _ _) ?_;exact(congrArg (·-(L:Int)) (Int.add_comm ..)).trans ((Int.add_sub_cancel ..).trans (jhx _).symm)
  refine aa e ?_;exact(sw (Zl 0) (mm lb)).1
 refine aT (v:=.int (Q:Nat)) ?_ ?_
 ·refine rwj Ph ?_;exact yc (jF (ag rfl) (Fh rfl)) (EQ rfl) (q9 lb) (by refine aa (ZV _) ?_;exact Fb)
 have EX:W/(2^w-1)=Q/\W%(2^w-1)=L:=by
  have EC:L<2^w-1:=by lia
  refine aa FE ?_;refine aa (jfg _ _ lb) ?_;refine aa (jeA EC) ?_;rewrite [jeg];refine aa (jfW EC) ?_;exact⟨jdO _,rfl⟩
 have h3:=DW (N:=N+3) (a:=W) (b:=2^w-1) qn lb Fb;rw[EX.1,EX.2]at h3;have oG:(iq ds ac.length).length=ac.length:=by unfold iq;refine aa (Y4 _) ?_;refine aa jaj ?_;rfl
 refine du (uU ?_ ?_) bG ?_
 ·refine(yh (b:=true) (tE (N:=N+4) (is:=[(Q:Int),(L:Int)]) (jcy rfl) ?_ ?_ (by simp))).trans rfl
  ·exact cL (vs:=[.int W,.int ((2^w-1:Nat):Int)]) (dL (ag rfl) (EQ rfl)) rfl h3
  ·exact sn (vs:=[.int Q,.int L]) (dL (ag rfl) (Fh rfl)) (show 2<=100000 by decide)
 ·refine(yh (b:=true) (tE (N:=N+4) (is:=(iq ds ac.length).map Z9) (jfC rfl) ?_ ?_ (by refine aa (Y4 _) ?_;refine aa oG ?_;lia))).trans rfl
  ·have h1:=u0 (n:=N+4) (a:=Q) (m:=w) Pg (by lia) (by lia);rw[tb]at h1;exact cL (vs:=[.int Q,.int w]) (dL (ag rfl) (ag rfl)) rfl h1
  ·refine(n0 (x:=24) (vs:=aq (Za ac.length)) (g:=λv=>match v with | .int k=>.int ((ds.drop (k.toNat+1)).sum:Nat)|v=>v) (j' (ag rfl) (by lia)) rfl (by refine aa (Y4 _) ?_;refine aa jaj ?_;lia) (λv hv=>?_)).trans ?_
   ·refine au (Zq.mp hv) ?_;rintro k hk rfl;have hk:=ZM.mp hk;show _=some (AV.int ((ds.drop ((k:Int).toNat+1)).sum:Nat));refine aa (ZF _) ?_;refine uV (l:=ds.drop (k+1)) ((Nd (x:=aq ds) (k:=k+1) (ag rfl) (iF (y:=1) (ag rfl) aR) (by refine aa (Y4 _) ?_;lia)).trans ?_) ?_
    ·unfold aq;refine aa List.map_drop ?_;rfl
    ·have h1:=wz 1000 (ds.drop (k+1)) (λx hx=>ZO (M.dl x (jeU hx)));have h2:(ds.drop (k+1)).length<=6:=by refine aa jbI ?_;lia
     have h3:(ds.drop (k+1)).length*1000<=6*1000:=jfc _ h2;exact Zy h1 (Zy h3 (by decide))
   ·unfold aq iq;refine aa ZN ?_;refine aa ZN ?_;refine aa ZN ?_;rfl
 refine aT (v:=.int (i6 ac:Nat)) (LB g f rfl (λY=>rfl) (λY=>rfl)) ?_;refine dX (v:=.bool true) (Dh ?_ ?_) rfl
 ·refine tE (N:=N+4) (is:=ds.map Z9) (jfC rfl) ?_ ?_ (by refine aa (Y4 _) ?_;lia)
  ·have h1:=u0 (n:=N+4) (a:=W) (m:=w) qn (by lia) (by lia);rw[bk]at h1;exact cL (vs:=[.int W,.int w]) (dL (ag rfl) (ag rfl)) rfl h1
  ·refine(ag (v:=.lst (aq ds)) rfl).trans ?_;refine aa (qI _) ?_;rfl
 ·generalize Yp:i6 ac=de at *;generalize hm:((2^w:Nat):Int)-2=m at *;have qx:(de:Int)<m:=by lia
  have oA:(2:Int)-((2^w:Nat):Int)=-m:=by lia
  have e1:(W:Int)=-((m-de)+m*(-q2-1)):=by
   refine aa FA ?_;rewrite [jgf];refine aa (jfh _ _) ?_;refine aa (jhW _) ?_
   lia
  have Qg:0<m:=jiy (Zl de) qx;have hd:=DU (m:=m) (q:=-q2-1) (r:=m-de) (jdy (Int.le_of_lt qx)) (by lia);rw[<-e1]at hd;have hz:((de:Int)-W).fdiv m=-q2:=by
   have e:(de:Int)-W=0+m*(-q2):=by refine aa FA ?_;refine aa (jfh _ _) ?_;lia
   refine aa e ?_;exact(sw (jgg 0) Qg).1
  have zx:m.natAbs<2^64:=by lia
  have a1:=yG (N:=N) (a:=0) (b:=-m) (by decide) (by lia) (by refine aa (jeb _) ?_;exact zx);have a2:=yG (N:=N) (a:=(W:Int)) (b:=-m) (by refine aa (ZV _) ?_;exact qn) (by lia) (by refine aa (jeb _) ?_;exact zx);rw[Int.zero_fdiv,Int.zero_fmod]at a1;rw[hd.1,hd.2]at a2;have IA:∀{ρ:aB},ρ[16]?=some (some (.int ((2^w:Nat):Int)))->ev (Fi (N+5)) [] ρ (.bin .Sub (.c (.int 2)) (.var 16))=some (.int (-m)):=λlV=>by
   refine rwj oA ?_;exact jF bK (mZ lV)
  have XB:∀{ρ:aB},ρ[16]?=some (some (.int ((2^w:Nat):Int)))->ev (Fi (N+5)) [] ρ (.bin .Sub (.var 16) (.c (.int 2)))=some (.int m):=λlV=>by
   refine rwj hm ?_;exact jF (mZ lV) bK
  refine tE (N:=N+4) (is:=[0,0,-q2-1,-(m-de)]) (jcy rfl) ?_ ?_ (by simp)
  ·exact ya (x:=[.int 0,.int 0]) (y:=[.int (-q2-1),.int (-(m-de))]) (cL (vs:=[.int 0,.int (-m)]) (dL bK (IA rfl)) rfl a1) (cL (vs:=[.int W,.int (-m)]) (dL (ag rfl) (IA rfl)) rfl a2) (show 4<=100000 by decide)
  ·have t1:∀{ρ:aB},ρ[23]?=some (some (.int (de:Nat)))->ρ[17]?=some (some (.int (W:Nat)))->ρ[16]?=some (some (.int ((2^w:Nat):Int)))->ev (Fi (N+5)) [] ρ (.bin .Sub (.bin .FloorDiv (.bin .Sub (.var 23) (.var 17)) (.bin .Sub (.var 16) (.c (.int 2)))) (.c (.int 1)))=some (.int (-q2-1)):=λyZ O5 lV=>by
    refine rwj hz ?_;exact jF (yc (jF (ag yZ) (ag O5)) (XB lV) (by lia) zx) bK
   have t2:∀{ρ:aB},ρ[23]?=some (some (.int (de:Nat)))->ρ[16]?=some (some (.int ((2^w:Nat):Int)))->ev (Fi (N+5)) [] ρ (.bin .Sub (.bin .Add (.var 23) (.c (.int 2))) (.var 16))=some (.int (-(m-de))):=λyZ lV=>by
    refine(jF (nY (ag yZ) bK) (mZ lV)).trans ?_;exact congrArg (λz=>some (AV.int z)) (by lia)
   have i0:∀{ρ:aB},ev (Fi (N+5)) [] ρ (.c (.int 0))=some (.int 0):=bK;exact sn (vs:=[.int 0,.int 0,.int (-q2-1),.int (-(m-de))]) (Nj i0 i0 (t1 rfl rfl rfl) (t2 rfl rfl)) (show 4<=100000 by decide)
end
theorem Sp(dM:List Int)(aN:dM.length<=100000):aE (Fi (N+5)) (some (.lst (bB dM))::Zm 23 none) [] mT.body=some (.ret (.bool true)):=by
 refine bA (Si (N:=N+3) dM aN _ rfl) λac dO g hA=>?_;refine hA _ ?_;generalize vw:qr (dM.take 60)=hs;have h8:hs.length=8:=by refine rwj vw ?_;exact EY _
 have f:=OY g;have Yx:=ZU (hs.getD 7 0/60) (show 0<23 by decide);have M:=So f g (w:=10+hs.getD 7 0/60%23) (ZH 10 (hs.getD 7 0/60%23)) (by lia);refine aX (Sj (N:=N+3) (ac:=ac) (hs:=hs) (s:=.lst (bB dM)) (bJ:=.lst (bB (dM.take 60))) (dO:=dO) (row:=.lst (aq (dA hs))) (ja:=.flt (qB (hs.getD 6 0%5))) (w:=10+hs.getD 7 0/60%23) g f h8 rfl M) λj2 hB=>?_;refine hB _ ?_;have qp:(dT (tab ac (2^ac.length-1)) ac.length).length=ac.length:=by
  have:=g.pos;unfold dT;refine aa Zr ?_;refine aa (Y4 _) ?_;refine aa jbK ?_;simp[*]
 generalize hw:10+hs.getD 7 0/60%23=w at *;obtain⟨av,an,h1,uy,nL,nM,rfl,rfl⟩:=sC (f:=λρ σ v=>aE (Fi (N+5)) (ρ.set 19 (some v)) σ Ev) (g:=λ(i:Nat)=>AV.int i)
  (I:=λY ρ σ=>∃uy nL nM,ρ=qO (.lst (bB dM)) (.lst (bB (dM.take 60))) hs dO (.lst (aq (dA hs))) ac (.flt (qB (hs.getD 6 0%5))) j2 ((tab ac (2^ac.length-1)).map (·.2)) (0::dT (tab ac (2^ac.length-1)) ac.length) w (VN (2^w) (0::dT (tab ac (2^ac.length-1)) ac.length):Nat) (jp ac.length (VN (2^w) (0::dT (tab ac (2^ac.length-1)) ac.length):Nat)) uy nL nM none none/\σ=[]) (ZX 1 3) [] (qO (.lst (bB dM)) (.lst (bB (dM.take 60))) hs dO (.lst (aq (dA hs))) ac (.flt (qB (hs.getD 6 0%5))) j2 ((tab ac (2^ac.length-1)).map (·.2)) (0::dT (tab ac (2^ac.length-1)) ac.length) w (VN (2^w) (0::dT (tab ac (2^ac.length-1)) ac.length):Nat) (jp ac.length (VN (2^w) (0::dT (tab ac (2^ac.length-1)) ac.length):Nat)) none none none none none) []
  ⟨none,none,none,rfl,rfl⟩ (by
   rintro p x q ρ σ e ⟨uy,nL,nM,rfl,rfl⟩;have hx:x∈ZX 1 3:=by
    have e:ZX 1 3=p++x::q:=e;refine aa e ?_;simp
   have hx:=jaX.mp hx;refine dW (QZ (N:=N) (ac:=ac) (hs:=hs) (s:=.lst (bB dM)) (bJ:=.lst (bB (dM.take 60))) (dO:=dO) (row:=.lst (aq (dA hs))) (ja:=.flt (qB (hs.getD 6 0%5))) (j2:=j2) (ni:=(tab ac (2^ac.length-1)).map (·.2)) (h:=x) (nL:=nL) (nM:=nM) g h8 (by lia) (by lia) M (by lia)) λxi xj ht=>?_;exact⟨_,_,ht,_,xi,xj,rfl,rfl⟩)
 refine kY (vs:=aq (ZX 1 3)) (nX (x5 (a:=1) (n:=4) aR aR (bw jbO rfl) (bw jbO rfl))) h1 ?_;exact Sk g f (by lia) (by lia) (by refine aa (Y4 _) ?_;rfl) (by refine aa Zr ?_;refine aa qp ?_;rfl) M
theorem UM:wX:=λdM aN=>by
 have:=fB (N:=7) (as:=[.lst (dM.map .int)]) (v:=.bool true) Ov rfl (Sp (N:=2) dM (bw aN rfl));exact this
end
section
open PySem PySem.W PyProof.Rows
set_option backward.match.sparseCases true
abbrev lw:=jar
abbrev lr:=lw.row
theorem JJ:(["vars","dir","locals"]:List Str).filter (readsOut lw.prog lw.prog.main.body)=[]:=by decide +kernel
theorem SH:sreFenced lw.prog.main=true:=by decide +kernel
theorem SI:((moduleNames lw.prog.main.body).isEmpty||lookedIntoSs (moduleNames lw.prog.main.body) lw.prog.main.body)=true:=by decide +kernel
theorem SJ:namesResolve lw.prog=true:=by decide +kernel
theorem SK:lw.prog.boundNames.all (λn=>!worldNames.contains n)=true:=by decide +kernel
theorem SM:noRoadLSs {strict:=!(importedModules lw.prog.main.body).all cThrough.contains,foot:=none,bare:=(["vars","dir","locals"]:List Str).filter (readsOut lw.prog lw.prog.main.body)} lw.prog.main.body=true:=by
 rw[JJ];decide +kernel
theorem SN:namesMeet lw.prog lw.prog.main.body (λY n=>attrL n)=true:=by decide +kernel
theorem dR{a b:Bool}(x:a=true)(y:b=true):(a&&b)=true:=by rw[x,y];rfl
theorem SP:looksOpen lr.prog=true:=dR (dR (dR (dR (dR SH SI) SJ) SK) SM) SN
theorem Uw:lr.partSaid=true:=by
 unfold OpenRow.partSaid;rw[show looksOpen lr.prog=true from SP];decide +kernel
theorem Vb:lr.wellSaid=true:=dR (dR Uw (by decide +kernel)) (by decide +kernel)
theorem Gu:lw.wellSaid=true:=by
 unfold OpenLaw.wellSaid;refine dR (dR (dR (dR (dR (dR (dR (dR (dR (dR (dR (dR (dR (dR (dR (dR (dR (dR Vb ?_) ?_) ?_) ?_) ?_) ?_) ?_) ?_) ?_) ?_) ?_) ?_) ?_) ?_) ?_) ?_) ?_) ?_<;>decide +kernel
set_option maxHeartbeats 8000000 in
theorem cw:jar.Holds :=
 ⟨Gu,U9 UM (row_said Gu) ⟨[.list []],by decide +kernel,by decide +kernel⟩ ⟨rfl,rfl,rfl,rfl,rfl,by decide +kernel⟩ (by decide +kernel)⟩
end
end Mine.Tactic
theorem PySem.Challenge.cw_ta0127_01_holds : PySem.Challenge.rw_ta0127_01.Holds := by
 exact Mine.Tactic.cw
