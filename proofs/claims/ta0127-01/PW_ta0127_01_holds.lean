import PyProof.Rows.All
import Wide.All
import OpenK.AllK
import Wide.FinOn
import PySem.Challenge.RW_ta0127_01
set_option maxRecDepth 100000
set_option Elab.async false
set_option linter.all false
set_option bootstrap.genMatcherCode false
set_option genSizeOf false
set_option genCtorIdx false
set_option autoImplicit true
set_option backward.match.sparseCases false
set_option genInjectivity false
set_option tactic.hygienic false
open Array renaming length_toList->jhy
open Bool renaming and_eq_true->Zv,casesOn->ZH,false_ne_true->Z1,eq_iff_iff->jaM,or_eq_true->jbr,not_eq_true'->jbO,and_eq_true_iff->jbP,true_and->jcC,false_eq_true->jcI,or_eq_false_iff->jeR,and_true->jfl,eq_false_iff->jfA,false_and->jgw,and_false->jgx,false_or->jjj
open Eq renaming symm->jfk,trans->jgV
open Exists renaming elim->jdg
open ForInStep renaming yield->jbV
open Int renaming natCast_nonneg->Zi,toNat_natCast->ZB,natAbs_natCast->ZR,ofNat->Z5,fdiv_eq_ediv_of_nonneg->jao,natCast_mul->jba,eq_ofNat_of_zero_le->jbq,natCast_add->jbu,ofNat_lt->jbB,natCast_pow->jbN,toNat_of_nonneg->jbS,ofNat_le->jcb,fmod_eq_emod_of_nonneg->jcs,natCast_ediv->jcx,ofNat_sub->jdr,natAbs_neg->jdV,mul_fdiv_add_fmod->jeL,sub_nonneg_of_le->jfb,mul_neg->jfc,natCast_emod->jfR,mul_sub->jfZ,neg_one_mul->jgo,le_trans->jho,ediv_eq_zero_of_lt->jhp,add_mul_ediv_left->jhw,sub_mul->jhI,one_mul->jhJ,neg_neg->jhK,neg_mul->jhL,negSucc->jhM,mul_one->jhN,le_refl->jhO,neg_fdiv_neg->jiT,max_eq_left->jjb,negSucc_eq->jji
open Int.ofNat renaming inj->jeI
open List renaming length_map->Y0,casesOn->Y2,all_eq_true->Y6,range->Y7,getD_eq_getElem?_getD->Y8,length_append->Za,getElem?_eq_getElem->Zc,mem_cons_self->Zf,getElem?_append_right->Zg,replicate->Zh,prefix_refl->Zj,size_toArray->Zk,mem_map->Zn,length_cons->Zo,mem_singleton->Zq,getElem?_append_left->Zt,mem_cons_of_mem->Zw,getElem?_eq_some_iff->ZA,map_cons->ZC,mem_append->ZE,mem_of_getElem?->ZG,mem_range->ZI,map_map->ZJ,getElem?_map->ZO,mem_cons->ZQ,map_append->ZS,range'->ZT,lookup_cons->ZX,append_nil->Z2,length_eq_zero_iff->Z3,length_range->jaf,sum_cons->jal,flatMap_cons->jaq,length_replicate->jax,append_assoc->jaz,exists_cons_of_length_eq_add_one->jaD,range_succ->jaK,nodup_cons->jaL,length->jaP,nodup_nil->jaR,mem_range'_1->jaS,flatMap_append->jaX,nil_append->jaY,length_singleton->jbf,zip_cons_cons->jbh,nodup_append->jbm,getElem?_set->jbn,length_zip->jbo,length_nil->jbp,length_take->jbD,length_drop->jbE,getElem_mem->jbF,length_range'->jbG,sizeOf_lt_of_mem->jbI,length_set->jbL,reverse_cons->jbM,getElem_map->jbR,map_id->jbX,set_append->jcc,rec->jcd,filter_map->jce,all_cons->jch,getElem?_eq_none->jci,set->jcq,filter_cons->jcv,drop_eq_getElem_cons->jcw,foldl_cons->jcG,prefix_append->jcH,getElem?_replicate->jcL,forIn_nil->jcQ,flatMap_singleton->jcR,drop_eq_nil_of_le->jcS,length_filter_le->jda,range'_succ->jdc,mem_flatMap->jdd,isEmpty_iff->jde,cons_append->jdf,range_eq_range'->jdp,mem_iff_getElem->jdq,mem_filter->jdu,forIn_cons->jdv,map_congr_left->jdz,getElem?_range->jdA,mem_filterMap->jdJ,getElem_range->jdK,filter_append->jdL,getElem?_zip_eq_some->jdX,lookup->jeb,not_mem_nil->jen,getElem?_cons_succ->jeo,ext_getElem->jep,countP_cons->jeq,any_eq_true->jer,getElem?_reverse->jeG,contains_iff_mem->jeH,mem_of_mem_take->jeN,mem_of_mem_drop->jeO,length_pos_iff->jfe,any_cons->jfi,zip_nil_right->jfm,map->jfy,take_length->jfL,mem_reverse->jfM,map_reverse->jfN,getElem_zip->jfO,take_left'->jfX,countP_map->jfY,mapM_cons->jgu,getElem?_eq_none_iff->jgJ,findIdx?_eq_none_iff->jgK,map_take->jgU,lookup_eq_none_iff->jha,take_of_length_le->jhc,range_succ_eq_map->jhd,flatMap->jhe,take_append_drop->jhn,length_take_le'->jhs,getElem_toArray->jht,getElem?_set_ne->jhu,forall_mem_cons->jhv,toList_toArray->jhF,reverse_append->jhG,getElem_of_mem->jhH,getElem_drop->jij,getElem?_nil->jik,getElem?_inj->jil,foldl_append->jim,flatten_cons->jin,nodup_range->jiv,map_fst_zip->jiw,isEmpty_nil->jix,drop_length->jiy,any_toArray->jiz,sum_append->jiR,foldr_cons->jiS,zip->jiZ,drop_drop->jja,take_nil->jjg,drop_nil->jjh
open Nat renaming lt_of_lt_of_le->bf,le_trans->Y1,le_refl->Y5,pow_le_pow_right->Zl,lt_irrefl->Zr,lt_of_le_of_lt->Zz,le_add_right->ZD,le_of_eq->ZK,mod_lt->ZL,le_of_lt->ZM,not_lt->ZW,le_succ->ZY,lt_succ_self->jaj,lt_trans->jam,casesOn->jaw,sub_self->jaA,two_pow_pos->jaC,ne_of_lt->jaE,mul_comm->jaN,ne_of_gt->jaU,le_of_lt_succ->jaV,beq->jaW,le_of_ble_eq_true->jbg,zero_le->jbj,mul_le_mul->jbk,div_add_mod->jbt,testBit_two_pow->jbv,add_comm->jbA,add_sub_cancel_left->jbU,lt_or_ge->jca,succ->jcf,le_add_left->jcg,eq_of_beq_eq_true->jco,add_sub_cancel'->jcz,pow_pos->jcM,pow_succ->jcV,lt_succ_of_lt->jcW,lt_of_succ_lt_succ->jcX,lor->jcY,div_lt_iff_lt_mul->jdb,zero_testBit->jdo,add_mul->jds,pow_le_pow_left->jdE,add_le_add_left->jdF,mul_succ->jdI,pos_of_ne_zero->jdR,land->jdS,add_sub_cancel->jdT,add_right_comm->jdU,add_mul_mod_self_left->jea,pow_add->jed,one_mul->jee,div_eq_of_lt->jet,zero_add->jey,sub_add_sub_cancel->jez,lt_asymm->jeA,testBit_and->jeD,not_lt_zero->jeE,min_eq_left->jeF,lt_of_sub_eq_succ->jeK,mul_le_mul_right->jeW,log2_lt->jeX,eq_of_testBit_eq->jeY,div_lt_of_lt_mul->jeZ,add_mul_div_left->jfa,mul_le_mul_left->jfh,lt_succ_of_le->jfE,le_succ_of_le->jfF,mod_eq_of_lt->jfQ,mul_add->jfW,div_le_self->jgm,ble->jgt,testBit_or->jgI,succ_pos->jhk,sub_zero->jhl,min_self->jhm,sub_lt_sub_right->jhD,not_succ_le_self->jhE,sub_le_sub_left->jhU,sub_lt->jig,sub_le->jih,eq_zero_or_pos->jii,succ_le_succ->jiO,le_of_not_lt->jiP,le_of_not_le->jiQ,add_le_add->jjf
open Nat.le renaming refl->jbK,step->jcF
open Nat.succ renaming inj->Z4
open Ne renaming symm->jeC
open Option renaming casesOn->ae,map_eq_some_iff->Zs,map->Z',isNone_iff_eq_none->jcr,isSome_iff_exists->jcy,getD_some->jfx,isSome->jgs,bind_eq_some_iff->jgH,map_some->jif
open Option.some renaming inj->Y3,injEq->jdt,sizeOf_spec->jdH
open Or renaming inl->jcu,inr->jfw
open Ordering renaming eq->jgT
open PUnit renaming unit->jgl
open Prod renaming fst->jhr
open Prod.mk renaming inj->jiY
open PyProof renaming noPylong_of_log2->jgk
open PyProof.Rows renaming Call_->jaH,callWith_type1->jbi,evalArgs_none->jbY,args_cons->jcE,subscriptTail->jcN,args_nil->jdk,callWith_builtin1->jeM,isTrue_plain->jfn,callWith_def->jfo,Assign_Tuple->jfp,Subscript_->jfD,IsTup->jgn,IntsAre->jio
open PyProof.Rows.AllBare renaming of_eq->jiB
open PySem renaming Shared->Y4,wpAny_bind->Y9,wpAny->Y',model->Zb,Addr->Ze,mainGlobals->Zp,wpAny_pure->Zx,wpAny_execs_cons->Zy,execs->ZN,Around->ZV,exec->Z0,eval->jaa,sysModules->jad,builtinsNs->jae,Comprehension->jai,Heap->jak,intKind->jap,wpAny_mono->jar,starEach->jas,FuncData->jay,Scope->jaB,wpAny_truthy_bool->jaJ,wpAny_holding->jaO,wpAny_standAt->jaZ,callEnvC->jbb,wpAny_execs_nil->jbc,NameKind->jbd,partValue->jbe,Arguments->jbl,isTrue->jbs,wpAny_Return_some->jbw,wpAny_Call_method_lateS->jbx,wpAny_Assign_Name->jby,cellsFrom->jbJ,bindArgs->jbQ,spliced->jcl,mainEnv->jcm,backTo->jcn,foldedSetIterable->jct,wpAny_eval_const->jcD,sizeLine->jcO,wpAny_BinOp->jcP,typeIs_str->jcT,closureFor->jcU,wpAny_List->jcZ,valueAt->jdh,recursionLimit->jdi,constantsAlone->jdj,Program->jdn,storeName->jdw,call_meets->jdx,assignEach->jdy,foldedForSure->jdC,pyIter->jdN,leftWithCleanup->jdO,Params->jdQ,inplaceOp->jec,rawInt->jef,qualnameIn->jeg,intKind_is->jeh,cStatics->jei,binaryOp->jej,wpAny_assign_Name->jeu,behindInMarks->jev,Flow->jeB,wpAny_If->jeJ,wpAny_rule->jeS,codeAny->jeT,NoneBooked->jeV,swapsWith->jfq,standAt->jfr,seqIndex?->jfs,pushCells->jft,holding->jfu,argBest->jfv,wpAny_loadName_free->jfB,wpAny_loadName_cell->jfC,swappedStores->jfH,comprehension->jfI,wpAny_isTrue_Compare1->jfU,wpAny_newObj_type->jga,wpAny_dictEntries->jgb,staticOf->jgc,startupNames->jgd,firstIterPos->jge,concat_meets->jgf,call_meetsIn->jgg,noFill_tuple_add->jgy,compareOp->jgz,cellOf->jgA,numAt->jgM,dictDisplay->jgN,codeAny_of_tree->jgX,evalPart->jhf,cLine->jhg,assign->jhh,annTrees->jhi,wpAny_Compare1->jhj,wpAny_sharingNotTold_none->jhq,seq_tuple_add->jhz,assignInOrder->jhA,wpAny_list_append_plain->jhP,slicePick->jhQ,firstIter->jhR,wpAny_Tuple->jhS,wpAny_Assign_Subscript->jhW,mergeMapping->jhX,meets_dict_get_default->jhY,getItem->jhZ,callerA->jib,bootBuiltins->jic,wpAny_Expr->jie,wpAny_storeName_local->jir,codeAny_call_function->jit,wpAny_storeName_cell->jiC,wpAny_of_eq->jiD,wpAny_nsGet->jiE,wpAny_loadName_local->jiF,wpAny_alloc->jiG,wpAny_AugAssign_Name->jiH,subscripted->jiI,sizeLine_eq->jiJ,interactive->jiK,compTurn->jiL,any_of_findIdx_some->jiV,wpAny_pyIter_tuple->jjd
open PySem.AutoIntOps renaming ifloordiv_1->jiX
open PySem.Builtin renaming bitXor->jfT,bitNot->jip,bitAnd->jiq
open PySem.Builtin.Int renaming intBits->Zm
open PySem.Builtin.List renaming listTooLong->jfz
open PySem.Builtin.Range renaming rangeSize->jaI,small->jem
open PySem.Builtin.Str renaming occurrences->jau,spaceWords->jcA,tooLong->jgv,glued->jgW
open PySem.Calls renaming callWith_builtin->jaG,evalArgs_plain->jdm,loadGlobal_builtin->jeU,loadGlobal_global->jfd,Name_module->jfK
open PySem.Challenge renaming rw_ta0127_01->jan,pw_ta0127_01->jcJ
open PySem.Claim2Try renaming globalOf_of_ns->jew
open PySem.Comprehension.mk renaming sizeOf_spec->jjc
open PySem.Data renaming seq->jhx
open PySem.Expr renaming casesOn->ZU
open PySem.Expr.Attribute renaming sizeOf_spec->jfg
open PySem.Expr.BoolOp renaming sizeOf_spec->jfP
open PySem.Expr.Call renaming sizeOf_spec->jat
open PySem.Expr.Subscript renaming sizeOf_spec->jff
open PySem.F renaming plainAttrs_str->jbT,slot_dict_get->jbZ,plainAttrs_list->jcB,args_tuple_add_2->jdP,plainAttrs_dict->jdY,entry_tuple_add->jdZ,slot_tuple_add->jek,entry_dict_get->jel,slot_list_reverse->jfV,slot_dict_values->jgj,slot_list_index->jgp,slot_list_count->jgq,args_dict_get_3->jgr,slot_str_split->jgD,slot_str_lower->jgE,slot_str_index->jgF,slot_list_iadd->jgG,type_dict_get->jgQ,slot_str_join->jgR,slot_str_find->jgS
open PySem.Float64 renaming sub->ZF,isZero->Z7,add->Z8,ofFrac->Z9,div->jab,cmp->jac,mul->jaF,ofInt->jaQ,cmpInt->jbC,decode->jcp,divmod->jdB,isInf->jdW,truncOf->jes,isNaN->jeP,align->jeQ
open PySem.Flt renaming quot_fits->jgP
open PySem.Heap renaming get?_push_of_some->Zd,lt_size->Zu,size_push->ZP,get?_push_size->ZZ,SameBut->Z6,get?_update_self->jcj,size_update->jiA,nsMap_none->jiU
open PySem.Heap.DictOf renaming new->jfj
open PySem.Heap.IsSliceOf renaming new->jjk
open PySem.Heap.Ns renaming of_isNs->jfG
open PySem.Heap.SameBut renaming update->jck,refl->jgL
open PySem.IsRange renaming new->jhb
open PySem.NameKind renaming free->jag,cell->jbW
open PySem.Obj renaming mapSeq->jcK,data_mapDictKeys->jhC,isFreed_of_dict->jhT,data_mapDict->jiN
open PySem.Operator renaming casesOn->jdD,Add->jiu
open PySem.Shared renaming asleep_of_life->jgZ
open PySem.Stmt renaming casesOn->jgO
open PySem.Str renaming ofString->jaT,length->jbH,ext'->jhB,cps_append->jje
open PySem.StrLaws renaming sliceText->jav,sliceText_from->jgC,sliceText_to->jgY
open PySem.Txt renaming lower->jiM
open PySem.UnaryOp renaming casesOn->jfJ
open PySem.Value renaming ref->jbz,float->jdl,type->jgi,casesOn->jgB,builtin->jiW
open PySem.Value.ref renaming inj->jdG
open PySem.W renaming boot_heap->jah,tabObj->jdM,CodeHd->jfS,cellsFrom_some->jgh,fnMade->jia
open PySem.W.CodeHd renaming of->jhV
open PySem.W.OpenLaw renaming row->jex
open PySem.W.WShape renaming hasItems->jid
open PySem.isSame renaming created->jis
namespace Mine.Tactic
open Lean in
local macro_rules (kind:=Lean.Parser.Command.declaration)|s=>if s.getPos?.isNone then Macro.throwUnsupported else
 let t:=s.rewriteBottomUp (·.setInfo .none)
 return if t[1].getKind==``Lean.Parser.Command.definition||t[1].getKind==``Lean.Parser.Command.abbrev then t.setArg 0 (t[0].setArg 4 (mkNullNode #[mkNode ``Lean.Parser.Command.noncomputable #[mkAtom "noncomputable"]])) else t
section
open PySem PySem.W
abbrev af:jdn:=jcJ
def wq:(Q:World->Prop) ×' ∃a b c d,(jex jan).Holds=(a/\b/\c/\d/\∀w,Q w):=⟨_,_,_,_,_,rfl⟩
theorem TH:Nonempty World:=⟨{ draws:=λY Y=>0,params:={ strHash:=λY=>0,shareClass:=λY=>0,mergeTok:=id,idOf:=λY=>0,idOfShared:=λY Y=>0,followText:=λY=>false,idOfImm:=λY=>0 } }⟩
def wd:World:=@Classical.epsilon _ TH λw=>¬wq.1 w
theorem Jg (h:wq.1 wd)(w:World):wq.1 w:=Classical.byContradiction λn=>(Classical.epsilon_spec (⟨w,n⟩:∃w,¬wq.1 w)) h
theorem bw {a m n:Nat}(h:a<=m)(k:jgt m n=true):a<=n:=Y1 h (jbg k)
theorem BB {a m n:Nat}(h:a<=m)(k:Nat.blt m n=true):a<n:=Zz h (jbg k)
theorem IN {a m n:Nat}(h:a<m)(k:jgt m n=true):a<=n:=Y1 (ZM h) (jbg k)
theorem YW {a m n:Nat}(h:a<m)(k:jgt m n=true):a<n:=bf h (jbg k)
theorem wL {a m n:Nat}(h:a=m)(k:m<=n):a<=n:=h▸k
theorem IF {a m n:Nat}(h:a=m)(k:m<n):a<n:=h▸k
theorem YS {a m n:Nat}(k:a<=m)(h:m=n):a<=n:=h▸k
theorem YU {a m n:Nat}(k:a<m)(h:m=n):a<n:=h▸k
theorem YV {a m n:Nat}(k:a<m)(h:n=m):a<n:=h▸k
theorem YT {a m n:Nat}(k:a<=m)(h:n=m):a<=n:=h▸k
theorem XZ {a:Nat}(h:0<a):¬a=0:=jaU h
theorem oY {a b:Nat}(h:a<=b):(a:Int)<=b:=jcb.mpr h
theorem IE {a b:Nat}(h:¬a=b):¬(a:Int)=b:=λe=>h (jeI e)
theorem uc {a:Nat}(h:0<a):¬(a:Int)=0:=λe=>jaU h (jeI e)
theorem ud {k n:Nat}(h:k<n):n-k=n-(k+1)+1:=(Nat.succ_pred_eq_of_pos (Nat.sub_pos_of_lt h)).symm
theorem BC {n:Nat}(h:0<n):n-1+1=n:=Nat.sub_add_cancel h
theorem BD {k n m:Nat}(h:n-k=m+1):k<n:=jeK h
theorem X1 {k n m:Nat}(h:n-k=m+1):n-(k+1)=m:=Z4 ((ud (jeK h)).symm.trans h)
theorem XW {i:Nat}(h:i<4):i=0\/i=1\/i=2\/i=3:=by lia
theorem XX {i:Nat}(h:i<5):i=0\/i=1\/i=2\/i=3\/i=4:=by lia
theorem q8 {a m:Nat}{b:Int}(h:a<=m)(e:decide ((m:Int)<b)=true):(a:Int)<b:=Int.lt_of_le_of_lt (jcb.mpr h) (of_decide_eq_true e)
theorem YR {a b m n k:Nat}(h:a<=m)(h2:b<=n)(e:jgt (m+n) k=true):a+b<=k:=Y1 (jjf h h2) (jbg e)
theorem Bz {a b k:Nat}(h:a+b<=k):a<=k:=Y1 (ZD _ _) h
theorem wK {a b k:Nat}(h:a+b<=k):b<=k:=Y1 (jcg _ _) h
theorem qZ {a b k:Nat}(h:a+b<k):a<k:=Zz (ZD _ _) h
theorem YX {a b c k:Nat}(h:a<=c*k)(h2:b<=c):a+b<=c*(k+1):=jjf h h2
theorem IM {i:Nat}(h:i<3):i=0\/i=1\/i=2:=by lia
theorem XV {i:Nat}(h:1<=i)(h2:i<=3):i=1\/i=2\/i=3:=by lia
theorem XS {a n c:Nat}(h:a+(n+1)<c):a+1+n<c:=by rwa [Nat.add_assoc,jbA 1]
theorem ub {a n c:Nat}(h:a+(n+1)<=c):a+1+n<=c:=by rwa [Nat.add_assoc,jbA 1]
theorem X0 {a b c:Nat}(h:a+(b+1)=c):a<c:=h▸Nat.lt_add_of_pos_right (jhk b)
theorem IH {a b:Nat}:(a:Int)=b↔a=b:=Int.ofNat_inj
theorem q6 {a b:Nat}(h:¬a<b):b<=a:=jiP h
theorem zip {a:Nat}(h:0<a):(0:Int)<a:=jbB.mpr h
theorem cz {p1 p2 p3:Prop}(h1:p1)(h2:p2)(h3:p3):p1/\p2/\p3:=⟨h1,h2,h3⟩
theorem lh {p1 p2 p3 p4:Prop}(h1:p1)(h2:p2)(h3:p3)(h4:p4):p1/\p2/\p3/\p4:=⟨h1,h2,h3,h4⟩
theorem F0 {p1 p2 p3 p4 p5:Prop}(h1:p1)(h2:p2)(h3:p3)(h4:p4)(h5:p5):p1/\p2/\p3/\p4/\p5:=⟨h1,h2,h3,h4,h5⟩
theorem aN {A:Sort _}{p1 p2:A->Prop}(a:A)(h1:p1 a)(h2:p2 a):∃a,p1 a/\p2 a:=⟨a,h1,h2⟩
theorem li {A:Sort _}{p1 p2 p3:A->Prop}(a:A)(h1:p1 a)(h2:p2 a)(h3:p3 a):∃a,p1 a/\p2 a/\p3 a:=⟨a,h1,h2,h3⟩
theorem vT {A:Sort _}{p1 p2 p3 p4:A->Prop}(a:A)(h1:p1 a)(h2:p2 a)(h3:p3 a)(h4:p4 a):∃a,p1 a/\p2 a/\p3 a/\p4 a:=⟨a,h1,h2,h3,h4⟩
theorem Ru {A:Sort _}{p1 p2 p3 p4 p5:A->Prop}(a:A)(h1:p1 a)(h2:p2 a)(h3:p3 a)(h4:p4 a)(h5:p5 a):∃a,p1 a/\p2 a/\p3 a/\p4 a/\p5 a:=⟨a,h1,h2,h3,h4,h5⟩
theorem Rv {A:Sort _}{p1 p2 p3 p4 p5 p6 p7 p8:A->Prop}(a:A)(h1:p1 a)(h2:p2 a)(h3:p3 a)(h4:p4 a)(h5:p5 a)(h6:p6 a)(h7:p7 a)(h8:p8 a):∃a,p1 a/\p2 a/\p3 a/\p4 a/\p5 a/\p6 a/\p7 a/\p8 a:=⟨a,h1,h2,h3,h4,h5,h6,h7,h8⟩
theorem jP {A:Sort _}{B:Sort _}{p1:A->B->Prop}(a:A)(b:B)(h1:p1 a b):∃a b,p1 a b:=⟨a,b,h1⟩
theorem cZ {A:Sort _}{B:Sort _}{p1 p2:A->B->Prop}(a:A)(b:B)(h1:p1 a b)(h2:p2 a b):∃a b,p1 a b/\p2 a b:=⟨a,b,h1,h2⟩
theorem m9 {A:Sort _}{B:Sort _}{p1 p2 p3:A->B->Prop}(a:A)(b:B)(h1:p1 a b)(h2:p2 a b)(h3:p3 a b):∃a b,p1 a b/\p2 a b/\p3 a b:=⟨a,b,h1,h2,h3⟩
theorem vU {A:Sort _}{B:Sort _}{p1 p2 p3 p4:A->B->Prop}(a:A)(b:B)(h1:p1 a b)(h2:p2 a b)(h3:p3 a b)(h4:p4 a b):∃a b,p1 a b/\p2 a b/\p3 a b/\p4 a b:=⟨a,b,h1,h2,h3,h4⟩
theorem Rw {A:Sort _}{B:Sort _}{p1 p2 p3 p4 p5:A->B->Prop}(a:A)(b:B)(h1:p1 a b)(h2:p2 a b)(h3:p3 a b)(h4:p4 a b)(h5:p5 a b):∃a b,p1 a b/\p2 a b/\p3 a b/\p4 a b/\p5 a b:=⟨a,b,h1,h2,h3,h4,h5⟩
theorem F1 {A:Sort _}{B:Sort _}{p1 p2 p3 p4 p5 p6:A->B->Prop}(a:A)(b:B)(h1:p1 a b)(h2:p2 a b)(h3:p3 a b)(h4:p4 a b)(h5:p5 a b)(h6:p6 a b):∃a b,p1 a b/\p2 a b/\p3 a b/\p4 a b/\p5 a b/\p6 a b:=⟨a,b,h1,h2,h3,h4,h5,h6⟩
theorem Rx {A:Sort _}{B:Sort _}{p1 p2 p3 p4 p5 p6 p7:A->B->Prop}(a:A)(b:B)(h1:p1 a b)(h2:p2 a b)(h3:p3 a b)(h4:p4 a b)(h5:p5 a b)(h6:p6 a b)(h7:p7 a b):∃a b,p1 a b/\p2 a b/\p3 a b/\p4 a b/\p5 a b/\p6 a b/\p7 a b:=⟨a,b,h1,h2,h3,h4,h5,h6,h7⟩
theorem Ry {A:Sort _}{B:Sort _}{C:Sort _}{p1:A->B->C->Prop}(a:A)(b:B)(c:C)(h1:p1 a b c):∃a b c,p1 a b c:=⟨a,b,c,h1⟩
theorem zZ {A:Sort _}{B:Sort _}{C:Sort _}{p1 p2 p3:A->B->C->Prop}(a:A)(b:B)(c:C)(h1:p1 a b c)(h2:p2 a b c)(h3:p3 a b c):∃a b c,p1 a b c/\p2 a b c/\p3 a b c:=⟨a,b,c,h1,h2,h3⟩
theorem vV {A:Sort _}{B:Sort _}{C:Sort _}{p1 p2 p3 p4:A->B->C->Prop}(a:A)(b:B)(c:C)(h1:p1 a b c)(h2:p2 a b c)(h3:p3 a b c)(h4:p4 a b c):∃a b c,p1 a b c/\p2 a b c/\p3 a b c/\p4 a b c:=⟨a,b,c,h1,h2,h3,h4⟩
theorem F2 {A:Sort _}{B:Sort _}{C:Sort _}{D:Sort _}{p1:A->B->C->D->Prop}(a:A)(b:B)(c:C)(d:D)(h1:p1 a b c d):∃a b c d,p1 a b c d:=⟨a,b,c,d,h1⟩
theorem vW {A:Sort _}{B:Sort _}{C:Sort _}{D:Sort _}{p1 p2:A->B->C->D->Prop}(a:A)(b:B)(c:C)(d:D)(h1:p1 a b c d)(h2:p2 a b c d):∃a b c d,p1 a b c d/\p2 a b c d:=⟨a,b,c,d,h1,h2⟩
theorem z0 {A:Sort _}{B:Sort _}{C:Sort _}{D:Sort _}{p1 p2 p3:A->B->C->D->Prop}(a:A)(b:B)(c:C)(d:D)(h1:p1 a b c d)(h2:p2 a b c d)(h3:p3 a b c d):∃a b c d,p1 a b c d/\p2 a b c d/\p3 a b c d:=⟨a,b,c,d,h1,h2,h3⟩
theorem z7 {A:Sort _}{B:Sort _}{C:Sort _}{D:Sort _}{p1 p2 p3 p4 p5:A->B->C->D->Prop}(a:A)(b:B)(c:C)(d:D)(h1:p1 a b c d)(h2:p2 a b c d)(h3:p3 a b c d)(h4:p4 a b c d)(h5:p5 a b c d):∃a b c d,p1 a b c d/\p2 a b c d/\p3 a b c d/\p4 a b c d/\p5 a b c d:=⟨a,b,c,d,h1,h2,h3,h4,h5⟩
theorem z8 {A:Sort _}{B:Sort _}{C:Sort _}{D:Sort _}{E:Sort _}{p1:A->B->C->D->E->Prop}(a:A)(b:B)(c:C)(d:D)(e:E)(h1:p1 a b c d e):∃a b c d e,p1 a b c d e:=⟨a,b,c,d,e,h1⟩
theorem Rz {A:Sort _}{B:Sort _}{C:Sort _}{D:Sort _}{E:Sort _}{p1 p2:A->B->C->D->E->Prop}(a:A)(b:B)(c:C)(d:D)(e:E)(h1:p1 a b c d e)(h2:p2 a b c d e):∃a b c d e,p1 a b c d e/\p2 a b c d e:=⟨a,b,c,d,e,h1,h2⟩
theorem F3 {A:Sort _}{B:Sort _}{C:Sort _}{D:Sort _}{E:Sort _}{p1 p2 p3:A->B->C->D->E->Prop}(a:A)(b:B)(c:C)(d:D)(e:E)(h1:p1 a b c d e)(h2:p2 a b c d e)(h3:p3 a b c d e):∃a b c d e,p1 a b c d e/\p2 a b c d e/\p3 a b c d e:=⟨a,b,c,d,e,h1,h2,h3⟩
theorem RA {A:Sort _}{B:Sort _}{C:Sort _}{D:Sort _}{E:Sort _}{F:Sort _}{p1:A->B->C->D->E->F->Prop}(a:A)(b:B)(c:C)(d:D)(e:E)(f:F)(h1:p1 a b c d e f):∃a b c d e f,p1 a b c d e f:=⟨a,b,c,d,e,f,h1⟩
theorem RB {A:Sort _}{B:Sort _}{C:Sort _}{D:Sort _}{E:Sort _}{F:Sort _}{G:Sort _}{p1 p2 p3 p4 p5 p6 p7:A->B->C->D->E->F->G->Prop}(a:A)(b:B)(c:C)(d:D)(e:E)(f:F)(g:G)(h1:p1 a b c d e f g)(h2:p2 a b c d e f g)(h3:p3 a b c d e f g)(h4:p4 a b c d e f g)(h5:p5 a b c d e f g)(h6:p6 a b c d e f g)(h7:p7 a b c d e f g):∃a b c d e f g,p1 a b c d e f g/\p2 a b c d e f g/\p3 a b c d e f g/\p4 a b c d e f g/\p5 a b c d e f g/\p6 a b c d e f g/\p7 a b c d e f g:=⟨a,b,c,d,e,f,g,h1,h2,h3,h4,h5,h6,h7⟩
theorem bN {p1 p2:Prop}{Q:Prop}(h:p1/\p2)(f:p1->p2->Q):Q:=f h.1 h.2
theorem fY {p1 p2 p3:Prop}{Q:Prop}(h:p1/\p2/\p3)(f:p1->p2->p3->Q):Q:=f h.1 h.2.1 h.2.2
theorem pY {p1 p2 p3 p4:Prop}{Q:Prop}(h:p1/\p2/\p3/\p4)(f:p1->p2->p3->p4->Q):Q:=f h.1 h.2.1 h.2.2.1 h.2.2.2
theorem DA {p1 p2 p3 p4 p5:Prop}{Q:Prop}(h:p1/\p2/\p3/\p4/\p5)(f:p1->p2->p3->p4->p5->Q):Q:=f h.1 h.2.1 h.2.2.1 h.2.2.2.1 h.2.2.2.2
theorem DB {p1 p2 p3 p4 p5 p6:Prop}{Q:Prop}(h:p1/\p2/\p3/\p4/\p5/\p6)(f:p1->p2->p3->p4->p5->p6->Q):Q:=f h.1 h.2.1 h.2.2.1 h.2.2.2.1 h.2.2.2.2.1 h.2.2.2.2.2
theorem aX {bp:Sort _}{p1:bp->Prop}{Q:Prop}(h:∃a,p1 a)(f:∀a,p1 a->Q):Q:=h.elim λa h=>f a h
theorem au {bp:Sort _}{p1 p2:bp->Prop}{Q:Prop}(h:∃a,p1 a/\p2 a)(f:∀a,p1 a->p2 a->Q):Q:=h.elim λa h=>f a h.1 h.2
theorem fq {bp:Sort _}{p1 p2 p3:bp->Prop}{Q:Prop}(h:∃a,p1 a/\p2 a/\p3 a)(f:∀a,p1 a->p2 a->p3 a->Q):Q:=h.elim λa h=>f a h.1 h.2.1 h.2.2
theorem yn {bp:Sort _}{p1 p2 p3 p4:bp->Prop}{Q:Prop}(h:∃a,p1 a/\p2 a/\p3 a/\p4 a)(f:∀a,p1 a->p2 a->p3 a->p4 a->Q):Q:=h.elim λa h=>f a h.1 h.2.1 h.2.2.1 h.2.2.2
theorem Nh {bp:Sort _}{p1 p2 p3 p4 p5 p6 p7:bp->Prop}{Q:Prop}(h:∃a,p1 a/\p2 a/\p3 a/\p4 a/\p5 a/\p6 a/\p7 a)(f:∀a,p1 a->p2 a->p3 a->p4 a->p5 a->p6 a->p7 a->Q):Q:=h.elim λa h=>f a h.1 h.2.1 h.2.2.1 h.2.2.2.1 h.2.2.2.2.1 h.2.2.2.2.2.1 h.2.2.2.2.2.2
theorem Ni {bp:Sort _}{p1 p2 p3 p4 p5 p6 p7 p8:bp->Prop}{Q:Prop}(h:∃a,p1 a/\p2 a/\p3 a/\p4 a/\p5 a/\p6 a/\p7 a/\p8 a)(f:∀a,p1 a->p2 a->p3 a->p4 a->p5 a->p6 a->p7 a->p8 a->Q):Q:=h.elim λa h=>f a h.1 h.2.1 h.2.2.1 h.2.2.2.1 h.2.2.2.2.1 h.2.2.2.2.2.1 h.2.2.2.2.2.2.1 h.2.2.2.2.2.2.2
theorem dW {bp:Sort _}{bx:Sort _}{p1:bp->bx->Prop}{Q:Prop}(h:∃a b,p1 a b)(f:∀a b,p1 a b->Q):Q:=h.elim λa h=>h.elim λb h=>f a b h
theorem bB {bp:Sort _}{bx:Sort _}{p1 p2:bp->bx->Prop}{Q:Prop}(h:∃a b,p1 a b/\p2 a b)(f:∀a b,p1 a b->p2 a b->Q):Q:=h.elim λa h=>h.elim λb h=>f a b h.1 h.2
theorem bS {bp:Sort _}{bx:Sort _}{p1 p2 p3:bp->bx->Prop}{Q:Prop}(h:∃a b,p1 a b/\p2 a b/\p3 a b)(f:∀a b,p1 a b->p2 a b->p3 a b->Q):Q:=h.elim λa h=>h.elim λb h=>f a b h.1 h.2.1 h.2.2
theorem n4 {bp:Sort _}{bx:Sort _}{p1 p2 p3 p4:bp->bx->Prop}{Q:Prop}(h:∃a b,p1 a b/\p2 a b/\p3 a b/\p4 a b)(f:∀a b,p1 a b->p2 a b->p3 a b->p4 a b->Q):Q:=h.elim λa h=>h.elim λb h=>f a b h.1 h.2.1 h.2.2.1 h.2.2.2
theorem DC {bp:Sort _}{bx:Sort _}{p1 p2 p3 p4 p5:bp->bx->Prop}{Q:Prop}(h:∃a b,p1 a b/\p2 a b/\p3 a b/\p4 a b/\p5 a b)(f:∀a b,p1 a b->p2 a b->p3 a b->p4 a b->p5 a b->Q):Q:=h.elim λa h=>h.elim λb h=>f a b h.1 h.2.1 h.2.2.1 h.2.2.2.1 h.2.2.2.2
theorem pZ {bp:Sort _}{bx:Sort _}{p1 p2 p3 p4 p5 p6:bp->bx->Prop}{Q:Prop}(h:∃a b,p1 a b/\p2 a b/\p3 a b/\p4 a b/\p5 a b/\p6 a b)(f:∀a b,p1 a b->p2 a b->p3 a b->p4 a b->p5 a b->p6 a b->Q):Q:=h.elim λa h=>h.elim λb h=>f a b h.1 h.2.1 h.2.2.1 h.2.2.2.1 h.2.2.2.2.1 h.2.2.2.2.2
theorem DD {bp:Sort _}{bx:Sort _}{p1 p2 p3 p4 p5 p6 p7 p8:bp->bx->Prop}{Q:Prop}(h:∃a b,p1 a b/\p2 a b/\p3 a b/\p4 a b/\p5 a b/\p6 a b/\p7 a b/\p8 a b)(f:∀a b,p1 a b->p2 a b->p3 a b->p4 a b->p5 a b->p6 a b->p7 a b->p8 a b->Q):Q:=h.elim λa h=>h.elim λb h=>f a b h.1 h.2.1 h.2.2.1 h.2.2.2.1 h.2.2.2.2.1 h.2.2.2.2.2.1 h.2.2.2.2.2.2.1 h.2.2.2.2.2.2.2
theorem yo {bp:Sort _}{bx:Sort _}{cc:Sort _}{p1:bp->bx->cc->Prop}{Q:Prop}(h:∃a b c,p1 a b c)(f:∀a b c,p1 a b c->Q):Q:=h.elim λa h=>h.elim λb h=>h.elim λc h=>f a b c h
theorem uW {bp:Sort _}{bx:Sort _}{cc:Sort _}{p1 p2:bp->bx->cc->Prop}{Q:Prop}(h:∃a b c,p1 a b c/\p2 a b c)(f:∀a b c,p1 a b c->p2 a b c->Q):Q:=h.elim λa h=>h.elim λb h=>h.elim λc h=>f a b c h.1 h.2
theorem ka {bp:Sort _}{bx:Sort _}{cc:Sort _}{p1 p2 p3:bp->bx->cc->Prop}{Q:Prop}(h:∃a b c,p1 a b c/\p2 a b c/\p3 a b c)(f:∀a b c,p1 a b c->p2 a b c->p3 a b c->Q):Q:=h.elim λa h=>h.elim λb h=>h.elim λc h=>f a b c h.1 h.2.1 h.2.2
theorem kX {bp:Sort _}{bx:Sort _}{cc:Sort _}{p1 p2 p3 p4:bp->bx->cc->Prop}{Q:Prop}(h:∃a b c,p1 a b c/\p2 a b c/\p3 a b c/\p4 a b c)(f:∀a b c,p1 a b c->p2 a b c->p3 a b c->p4 a b c->Q):Q:=h.elim λa h=>h.elim λb h=>h.elim λc h=>f a b c h.1 h.2.1 h.2.2.1 h.2.2.2
theorem yp {bp:Sort _}{bx:Sort _}{cc:Sort _}{p1 p2 p3 p4 p5 p6:bp->bx->cc->Prop}{Q:Prop}(h:∃a b c,p1 a b c/\p2 a b c/\p3 a b c/\p4 a b c/\p5 a b c/\p6 a b c)(f:∀a b c,p1 a b c->p2 a b c->p3 a b c->p4 a b c->p5 a b c->p6 a b c->Q):Q:=h.elim λa h=>h.elim λb h=>h.elim λc h=>f a b c h.1 h.2.1 h.2.2.1 h.2.2.2.1 h.2.2.2.2.1 h.2.2.2.2.2
theorem Nj {bp:Sort _}{bx:Sort _}{cc:Sort _}{p1 p2 p3 p4 p5 p6 p7 p8:bp->bx->cc->Prop}{Q:Prop}(h:∃a b c,p1 a b c/\p2 a b c/\p3 a b c/\p4 a b c/\p5 a b c/\p6 a b c/\p7 a b c/\p8 a b c)(f:∀a b c,p1 a b c->p2 a b c->p3 a b c->p4 a b c->p5 a b c->p6 a b c->p7 a b c->p8 a b c->Q):Q:=h.elim λa h=>h.elim λb h=>h.elim λc h=>f a b c h.1 h.2.1 h.2.2.1 h.2.2.2.1 h.2.2.2.2.1 h.2.2.2.2.2.1 h.2.2.2.2.2.2.1 h.2.2.2.2.2.2.2
theorem DE {bp:Sort _}{bx:Sort _}{cc:Sort _}{dH:Sort _}{p1:bp->bx->cc->dH->Prop}{Q:Prop}(h:∃a b c d,p1 a b c d)(f:∀a b c d,p1 a b c d->Q):Q:=h.elim λa h=>h.elim λb h=>h.elim λc h=>h.elim λd h=>f a b c d h
theorem n5 {bp:Sort _}{bx:Sort _}{cc:Sort _}{dH:Sort _}{p1 p2:bp->bx->cc->dH->Prop}{Q:Prop}(h:∃a b c d,p1 a b c d/\p2 a b c d)(f:∀a b c d,p1 a b c d->p2 a b c d->Q):Q:=h.elim λa h=>h.elim λb h=>h.elim λc h=>h.elim λd h=>f a b c d h.1 h.2
theorem kf {bp:Sort _}{bx:Sort _}{cc:Sort _}{dH:Sort _}{p1 p2 p3:bp->bx->cc->dH->Prop}{Q:Prop}(h:∃a b c d,p1 a b c d/\p2 a b c d/\p3 a b c d)(f:∀a b c d,p1 a b c d->p2 a b c d->p3 a b c d->Q):Q:=h.elim λa h=>h.elim λb h=>h.elim λc h=>h.elim λd h=>f a b c d h.1 h.2.1 h.2.2
theorem qa {bp:Sort _}{bx:Sort _}{cc:Sort _}{dH:Sort _}{p1 p2 p3 p4:bp->bx->cc->dH->Prop}{Q:Prop}(h:∃a b c d,p1 a b c d/\p2 a b c d/\p3 a b c d/\p4 a b c d)(f:∀a b c d,p1 a b c d->p2 a b c d->p3 a b c d->p4 a b c d->Q):Q:=h.elim λa h=>h.elim λb h=>h.elim λc h=>h.elim λd h=>f a b c d h.1 h.2.1 h.2.2.1 h.2.2.2
theorem sk {bp:Sort _}{bx:Sort _}{cc:Sort _}{dH:Sort _}{p1 p2 p3 p4 p5:bp->bx->cc->dH->Prop}{Q:Prop}(h:∃a b c d,p1 a b c d/\p2 a b c d/\p3 a b c d/\p4 a b c d/\p5 a b c d)(f:∀a b c d,p1 a b c d->p2 a b c d->p3 a b c d->p4 a b c d->p5 a b c d->Q):Q:=h.elim λa h=>h.elim λb h=>h.elim λc h=>h.elim λd h=>f a b c d h.1 h.2.1 h.2.2.1 h.2.2.2.1 h.2.2.2.2
theorem yq {bp:Sort _}{bx:Sort _}{cc:Sort _}{dH:Sort _}{p1 p2 p3 p4 p5 p6:bp->bx->cc->dH->Prop}{Q:Prop}(h:∃a b c d,p1 a b c d/\p2 a b c d/\p3 a b c d/\p4 a b c d/\p5 a b c d/\p6 a b c d)(f:∀a b c d,p1 a b c d->p2 a b c d->p3 a b c d->p4 a b c d->p5 a b c d->p6 a b c d->Q):Q:=h.elim λa h=>h.elim λb h=>h.elim λc h=>h.elim λd h=>f a b c d h.1 h.2.1 h.2.2.1 h.2.2.2.1 h.2.2.2.2.1 h.2.2.2.2.2
theorem n6 {bp:Sort _}{bx:Sort _}{cc:Sort _}{dH:Sort _}{p1 p2 p3 p4 p5 p6 p7:bp->bx->cc->dH->Prop}{Q:Prop}(h:∃a b c d,p1 a b c d/\p2 a b c d/\p3 a b c d/\p4 a b c d/\p5 a b c d/\p6 a b c d/\p7 a b c d)(f:∀a b c d,p1 a b c d->p2 a b c d->p3 a b c d->p4 a b c d->p5 a b c d->p6 a b c d->p7 a b c d->Q):Q:=h.elim λa h=>h.elim λb h=>h.elim λc h=>h.elim λd h=>f a b c d h.1 h.2.1 h.2.2.1 h.2.2.2.1 h.2.2.2.2.1 h.2.2.2.2.2.1 h.2.2.2.2.2.2
theorem uX {bp:Sort _}{bx:Sort _}{cc:Sort _}{dH:Sort _}{ju:Sort _}{p1:bp->bx->cc->dH->ju->Prop}{Q:Prop}(h:∃a b c d e,p1 a b c d e)(f:∀a b c d e,p1 a b c d e->Q):Q:=h.elim λa h=>h.elim λb h=>h.elim λc h=>h.elim λd h=>h.elim λe h=>f a b c d e h
theorem Nk {bp:Sort _}{bx:Sort _}{cc:Sort _}{dH:Sort _}{ju:Sort _}{p1 p2:bp->bx->cc->dH->ju->Prop}{Q:Prop}(h:∃a b c d e,p1 a b c d e/\p2 a b c d e)(f:∀a b c d e,p1 a b c d e->p2 a b c d e->Q):Q:=h.elim λa h=>h.elim λb h=>h.elim λc h=>h.elim λd h=>h.elim λe h=>f a b c d e h.1 h.2
theorem sm {bp:Sort _}{bx:Sort _}{cc:Sort _}{dH:Sort _}{ju:Sort _}{p1 p2 p3:bp->bx->cc->dH->ju->Prop}{Q:Prop}(h:∃a b c d e,p1 a b c d e/\p2 a b c d e/\p3 a b c d e)(f:∀a b c d e,p1 a b c d e->p2 a b c d e->p3 a b c d e->Q):Q:=h.elim λa h=>h.elim λb h=>h.elim λc h=>h.elim λd h=>h.elim λe h=>f a b c d e h.1 h.2.1 h.2.2
theorem DF {bp:Sort _}{bx:Sort _}{cc:Sort _}{dH:Sort _}{ju:Sort _}{p1 p2 p3 p4:bp->bx->cc->dH->ju->Prop}{Q:Prop}(h:∃a b c d e,p1 a b c d e/\p2 a b c d e/\p3 a b c d e/\p4 a b c d e)(f:∀a b c d e,p1 a b c d e->p2 a b c d e->p3 a b c d e->p4 a b c d e->Q):Q:=h.elim λa h=>h.elim λb h=>h.elim λc h=>h.elim λd h=>h.elim λe h=>f a b c d e h.1 h.2.1 h.2.2.1 h.2.2.2
theorem Nl {bp:Sort _}{bx:Sort _}{cc:Sort _}{dH:Sort _}{ju:Sort _}{p1 p2 p3 p4 p5:bp->bx->cc->dH->ju->Prop}{Q:Prop}(h:∃a b c d e,p1 a b c d e/\p2 a b c d e/\p3 a b c d e/\p4 a b c d e/\p5 a b c d e)(f:∀a b c d e,p1 a b c d e->p2 a b c d e->p3 a b c d e->p4 a b c d e->p5 a b c d e->Q):Q:=h.elim λa h=>h.elim λb h=>h.elim λc h=>h.elim λd h=>h.elim λe h=>f a b c d e h.1 h.2.1 h.2.2.1 h.2.2.2.1 h.2.2.2.2
theorem Nm {bp:Sort _}{bx:Sort _}{cc:Sort _}{dH:Sort _}{ju:Sort _}{BF:Sort _}{p1:bp->bx->cc->dH->ju->BF->Prop}{Q:Prop}(h:∃a b c d e i,p1 a b c d e i)(f:∀a b c d e i,p1 a b c d e i->Q):Q:=h.elim λa h=>h.elim λb h=>h.elim λc h=>h.elim λd h=>h.elim λe h=>h.elim λi h=>f a b c d e i h
theorem DG {bp:Sort _}{bx:Sort _}{cc:Sort _}{dH:Sort _}{ju:Sort _}{BF:Sort _}{X3:Sort _}{X4:Sort _}{p1 p2 p3 p4 p5 p6:bp->bx->cc->dH->ju->BF->X3->X4->Prop}{Q:Prop}(h:∃a b c d e i j k,p1 a b c d e i j k/\p2 a b c d e i j k/\p3 a b c d e i j k/\p4 a b c d e i j k/\p5 a b c d e i j k/\p6 a b c d e i j k)(f:∀a b c d e i j k,p1 a b c d e i j k->p2 a b c d e i j k->p3 a b c d e i j k->p4 a b c d e i j k->p5 a b c d e i j k->p6 a b c d e i j k->Q):Q:=h.elim λa h=>h.elim λb h=>h.elim λc h=>h.elim λd h=>h.elim λe h=>h.elim λi h=>h.elim λj h=>h.elim λk h=>f a b c d e i j k h.1 h.2.1 h.2.2.1 h.2.2.2.1 h.2.2.2.2.1 h.2.2.2.2.2
universe u
@[elab_as_elim] theorem aa {α:Sort u}{a b:α}{p:α->Prop} (h:a=b) (x:p b):p a:=h.symm.rec x
@[elab_as_elim] theorem rwj {α:Sort u}{a b:α}{p:α->Prop} (h:b=a) (x:p b):p a:=h.rec x
theorem ai {α:Type _}{r:α}{Q:Prop}(e:none=some r):Q:=nomatch e
theorem GZ {α:Type _}{r:α}{Q:Prop}(e:some r=none):Q:=nomatch e
theorem bP {Q:Prop}(e:false=true):Q:=nomatch e
theorem aG {α:Type _}{a r:α}{Q:α->Prop}(e:some a=some r)(k:Q a):Q r:=Y3 e▸k
theorem lP {α β:Type _}{f:α->β}{o:Option α}{r:β}{Q:β->Prop}(e:o.map f=some r)(k:∀a,o=some a->Q (f a)):Q r:=by
 induction o using ae with
 |none=>exact ai e
 |some a=>exact aG (Q:=Q) e (k a rfl)
theorem bR {α:Type _}{c:Prop}[Decidable c]{a:Option α}{r:α}{Q:Prop}(e:(if c then a else none)=some r)(k:c->a=some r->Q):Q:=by
 by_cases h:c
 ·rw[if_pos h]at e;exact k h e
 ·rw[if_neg h]at e;exact ai e
theorem mG {α:Type _}{c:Prop}[Decidable c]{a:Option α}{r:α}{Q:Prop}(e:(if c then none else a)=some r)(k:¬c->a=some r->Q):Q:=by
 by_cases h:c
 ·rw[if_pos h]at e;exact ai e
 ·rw[if_neg h]at e;exact k h e
theorem pN {α β:Type _}{o:Option α}{f:α->Option β}{r:β}{Q:Prop}(e:o.bind f=some r)(k:∀a,o=some a->f a=some r->Q):Q:=by
 induction o using ae with
 |none=>exact ai e
 |some a=>exact k a rfl e
theorem cu {a b:Bool}{Q:Prop}(e:(a&&b)=true)(k:a=true->b=true->Q):Q:=k (jbP.mp e).1 (jbP.mp e).2
theorem J7 {α:Type}{M:Model}{A:ZV}{t:Sem α}{K:α->Y4->Prop}{E:Value->Y4->Prop}{s:Y4}(h:∀Q:α->Y4->Prop,(∀a s',K a s'->Q a s')->Y' M A t Q E s):Y' M A t K E s:=h K λY Y h=>h
theorem jA {α:Type _}{C:α->Prop}:∀x∈([]:List α),C x:=λY h=>nomatch h
theorem aS {α:Type _}{C:α->Prop}{a:α}{l:List α}(h:C a)(r:∀x∈l,C x):∀x∈a::l,C x:=jhv.mpr ⟨h,r⟩
theorem nn {α:Type _}{r:α}{Q:Prop}(e:some none=some (some r)):Q:=nomatch e
theorem xV {α:Type _}{a r:α}{Q:α->Prop}(e:some (some a)=some (some r))(k:Q a):Q r:=Y3 (Y3 e)▸k
theorem Gr {α:Type _}{Q:List α->Prop}{l:List α}(h:l.length=1)(k:∀a,Q [a]):Q l:=by
 induction l using Y2 with
 |nil=>cases h
 |cons a l=>induction l using Y2 with
  |nil=>exact k a
  |cons=>cases h
theorem Gs {α:Type _}{Q:List α->Prop}{l:List α}(h:l.length=2)(k:∀a b,Q [a,b]):Q l:=by
 induction l using Y2 with
 |nil=>cases h
 |cons a l=>exact Gr (Q:=λl=>Q (a::l)) (Z4 h) (k a)
theorem Sn {α:Type _}{Q:List α->Prop}{l:List α}(h:l.length=3)(k:∀a b c,Q [a,b,c]):Q l:=by
 induction l using Y2 with
 |nil=>cases h
 |cons a l=>exact Gs (Q:=λl=>Q (a::l)) (Z4 h) (k a)
def fC (k:Nat):Stmt:=(jcJ.main.body[k]?).getD (.Pass default)
def Hf:List (Option Expr)->List Expr->List (Int×Str)
 |some (.Constant (.int k) _ _)::ks,.Constant (.str x) _ _::vs=>(k,x)::Hf ks vs
 |_,_=>[]
def B6:List (Int×Str):=match fC 15 with
 | .Assign _ (.Dict ks vs _) _=>Hf ks vs
 |_=>[]
def j2 (k:Int):Option Str:=B6.lookup k
def uz:List Int:=[173,847,6150,6155,6156,6157,8203,8204,8205,8288,65279]
def dz (k:Int):Bool:=uz.contains k||(decide (65024<=k)&&decide (k<65040))
end
section
open PySem PySem.W PyProof.Rows
section
variable {K:Type}[DecidableEq K]{bo:KeyKind af wd K}{A:ZV}{E:Value->Y4->Prop}{s:Y4}
theorem LM (qv:bo.is k key=true)(hm:s.heap.DictOf bo d aJ)(hQ:∀h',h'.DictOf bo d (stored aJ k v)->Z6 d s.heap h'->Q () { s with heap:=h' })(be:aJ.length<=jcO:=by size_fits):
 Y' (Zb af wd) A (dictPut d (bo.hash k) key v) Q E s:=by
 refine yp hm λo es ep ho hc hd hk hp hn=>?_;have ol:es.size<=jcO:=by
  have e1:=hp.length;have e2:es.toList.length=es.size:=by simp
  exact wL e1 be
 unfold dictPut;refine Y9 (wpAny_dictFind_of qv ho hd hk ?_);have zp:(es.findIdx? λe=>bo.is k e.key)=aJ.findIdx? λkv=>decide (kv.1=k):=by
  rw[<-hp.findIdx k];obtain⟨l⟩:=es;simp
 induction hi:es.findIdx? λe=>bo.is k e.key using ae with
 |some i =>
  refine wpAny_updateDict ho hd (hQ _ ⟨_,_,ep,jcj _ ho (jhT (jiN hd _)),
   hc.mapDict _,jiN hd _,hk.modify _ _,?_,?_⟩ (jck ..))
  ·rw[stored,if_pos (jiV (zp▸hi))];have hl:(es.toList.findIdx? λe=>bo.is k e.key)=some i:=by rw[<-hi];obtain⟨l⟩:=es;simp
   have:=hp.modify hn hl v;obtain⟨l⟩:=es;simpa using this
  ·rw[stored,if_pos (jiV (zp▸hi)),keys_map_store];exact hn
 |none =>
  have Fo:k∉aJ.map (·.1):=not_mem_of_findIdx_none (zp▸hi);have EL:¬(aJ.any λkv=>decide (kv.1=k))=true:=by
   rw[jer];rintro⟨kv,sQ,he⟩;exact Fo (Zn.mpr ⟨kv,sQ,of_decide_eq_true he⟩)
  refine wpAny_updateDictKeys (hz:=ol) ho hd (hQ _ ⟨_,_,ep+1,jcj _ ho (jhT (jhC hd _)),
   hc.mapDictKeys _,jhC hd _,hk.push qv _,?_,?_⟩ (jck ..))
  ·rw[stored,if_neg EL];have:=hp.append qv (bo.hash k) v;obtain⟨l⟩:=es;simpa using this
  ·rw[stored,if_neg EL,ZS,jbm];refine cz hn (by simp) ?_;intro a ha b hb;simp only[ZC,List.map_nil,Zq]at hb;subst hb;exact λe=>Fo (e▸ha)
theorem UW (h:x::az=ZT i (n-i)):x=i/\az=ZT (i+1) (n-(i+1))/\i<n:=by
 induction e:n-i using jaw with
 |zero=>rw[e]at h;exact nomatch h
 |succ k =>
  rw[e,jdc]at h;injection h with h1 h2
  refine cz h1 ?_ (jeK e);refine aa h2 ?_;refine aa (Nat.sub_succ _ _) ?_;refine aa e ?_;rfl
theorem UU (h:[]=ZT i (n-i))(hi:i<=n):i=n:=by
 induction e:n-i using jaw with
 |zero=>exact Nat.le_antisymm hi (Nat.sub_eq_zero_iff_le.mp e)
 |succ k=>rw[e,jdc]at h;exact nomatch h
def wV (bo:KeyKind af wd K)(d o:Ze)(oo:Obj)(n:Nat)(aJ fM:List (K×Value))(s:Y4)(az:List Nat)(s':Y4):Prop :=
 ∃h' i,s'={ s with heap:=h' }/\az=ZT i (n-i)/\i<=n/\h'.DictOf bo d (merged aJ (fM.take i))/\h'.get? o=some oo/\Z6 d s.heap h'
theorem wV.elim {d o:Ze}{oo:Obj}{n:Nat}{aJ fM:List (K×Value)}{az:List Nat}{s':Y4}{Q:Y4->Prop}(h:wV bo d o oo n aJ fM s az s')(k:∀h' i,az=ZT i (n-i)->i<=n->h'.DictOf bo d (merged aJ (fM.take i))->h'.get? o=some oo->Z6 d s.heap h'->Q { s with heap:=h' }):Q s':=by
 refine pZ h λh' i e h1 h2 h3 h4 h5=>?_;refine aa e ?_;exact k h' i h1 h2 h3 h4 h5
theorem Tf {d o:Ze}{aJ fM:List (K×Value)}{Q:Unit->Y4->Prop}(PB:d≠o)(Qj:(o==jad)=false)(cV:aJ≠[])(hd:s.heap.DictOf bo d aJ)(ho:s.heap.DictOf bo o fM)(hQ:∀h',h'.DictOf bo d (merged aJ fM)->Z6 d s.heap h'->Q () { s with heap:=h' })(be:aJ.length+fM.length<=jcO):
 Y' (Zb af wd) A (jhX d (.ref o) false) Q E s:=by
 refine yp (id hd) λod MH Ye Qm Pt zh qu Fs df=>?_;refine yp (id ho) λoo uP Yf zC zg vn P6 Fu m5=>?_;have aO:fM.length=uP.size:=Fu.length.symm.trans jhy;have PH:MH.isEmpty=false:=jfA.mpr λhe=>cV (Z3.mp (Fs.length.symm.trans (by refine aa (Array.isEmpty_iff.mp he) ?_;rfl)));clear df Pt qu Fs zg m5 cV;refine J7 λR hR=>?_;unfold jhX;refine Y9 (wpAny_isInstance ho.typeIs F.sub_dict_dict ?_);refine aa (if_pos rfl) ?_;refine Y9 (wpAny_specialOf ho.typeIs F.slot_dict_iter.lookup ?_);refine Y9 (Zx ?_);have h1:(some (jiW "dict.__iter__")==some (jiW "dict.__iter__"))=true:=by decide
 refine aa h1 ?_;dsimp only;rw[if_neg (by refine aa Qj ?_;exact Z1)];refine Y9 (jgb Qm zh ?_);refine aa PH ?_;refine aa (if_neg Z1) ?_;refine Y9 (jgb zC vn ?_);refine Y9 (wpAny_dictEpoch zC vn ?_);refine Y9 ?_;refine aa jdp ?_;refine wpAny_forIn_list _ (λaz Y s'=>wV bo d o oo uP.size aJ fM s az s') _ (λx az b s' H=>?_) (λb s' H=>?_) _ _ ⟨s.heap,0,rfl,by simp,jbj _,by simpa [merged]using hd,zC,jgL _ _⟩
 ·refine H.elim λh' i hr hi lW zD ej=>?_;refine fY (UW hr) ?_;rintro rfl Qw a0;refine Y9 (jgb zD vn ?_);refine aa (Array.getElem?_eq_getElem a0) ?_;have sQ:fM[x]?=some (fM[x]'(by refine aa aO ?_;exact a0)):=Zc _;generalize fM[x]'(by refine aa aO ?_;exact a0)=kv at sQ;refine bN (Fu.get? (e:=uP[x]) (by simp[a0]) (v:=kv.2) (k:=kv.1) sQ) λqv vM=>?_;refine au (P6 uP[x] (Array.getElem_mem a0)) λk' P5 E4=>?_;rw[bo.inj _ _ _ P5 qv]at E4;dsimp only;refine aa (if_neg Z1) ?_;have Qd:(merged aJ (fM.take x)).length<=jcO:=Y1 (merged_length_le aJ (fM.take x)) (Y1 (jdF (jhs _ _) _) be);refine aa E4 ?_;refine aa vM ?_;refine Y9 (jaO (LM (be:=Qd) qv lW λhV Py FE=>?_));have Fp:hV.get? o=some oo:=(FE.2 o (jeC PB)).trans zD;refine Y9 (wpAny_dictEpoch Fp vn ?_);refine aa (if_neg (by simp)) ?_;exact Zx ⟨hV,x+1,rfl,Qw,a0,by refine aa (merged_take_succ aJ fM x kv sQ) ?_;exact Py,Fp,ej.trans FE⟩
 ·refine H.elim λh' i hr hi lW zD ej=>Zx (hR _ _ (hQ h' ?_ ej));rw[UU hr hi,<-aO,jfL]at lW;exact lW
end
section
variable {K:Type}[DecidableEq K]
inductive eV:List (K×(Value->Prop))->List (K×Value)->Prop
 |nil:eV [] []
 |cons {k:K}{P:Value->Prop}{v:Value}{l:List (K×(Value->Prop))}{aJ:List (K×Value)} (h:P v) (r:eV l aJ):eV ((k,P)::l) ((k,v)::aJ)
theorem eV.length (r:eV l aJ):aJ.length=l.length:=by
 induction r with
 |nil=>rfl
 |cons _ _ ih=>exact congrArg jcf ih
theorem eV.append (r:eV l aJ)(q:eV l' tn):eV (l++l') (aJ++tn):=by
 induction r with
 |nil=>exact q
 |cons h _ ih=>exact .cons h ih
end
section
variable {K:Type}[DecidableEq K]{bo:KeyKind af wd K}{A:ZV}{E:Value->Y4->Prop}{s:Y4}{aL:jak}
abbrev gj (h h':jak):Prop:=∀b o,h.get? b=some o->h'.get? b=some o
def I5 (bo:KeyKind af wd K)(A:ZV)(aL:jak)(p:Sem Value×Sem Value)(k:K×(Value->Prop)):Prop :=
 ∀(E:Value->Y4->Prop) (s:Y4) (Q:Value->Value->Y4->Prop),gj aL s.heap->(∀kv vv tk,bo.is k.1 kv=true->k.2 vv->Q kv vv { s with toks:=tk }) ->
  Y' (Zb af wd) A p.1 (λkv ak=>Y' (Zb af wd) A p.2 (λvv aC=>Q kv vv aC) E ak) E s
inductive eX (bo:KeyKind af wd K) (A:ZV) (aL:jak):List (Sem Value×Sem Value)->List (K×(Value->Prop))->Prop
 |nil:eX bo A aL [] []
 |cons {p:Sem Value×Sem Value}{k:K×(Value->Prop)}{ps:List (Sem Value×Sem Value)}{ks:List (K×(Value->Prop))} (h:I5 bo A aL p k) (r:eX bo A aL ps ks):eX bo A aL (p::ps) (k::ks)
theorem eX.length (r:eX bo A aL ps ks):ps.length=ks.length:=by
 induction r with
 |nil=>rfl
 |cons _ _ ih=>exact congrArg jcf ih
theorem eX.append (r:eX bo A aL ps ks)(q:eX bo A aL ps' nc):eX bo A aL (ps++ps') (ks++nc):=by
 induction r with
 |nil=>exact q
 |cons h _ ih=>exact .cons h ih
theorem Nc (r:eX bo A aL ps ks):∀{s:Y4}{Q:List (Value×Value)->Y4->Prop},gj aL s.heap ->
 (∀vs aJ tk,Carries bo vs aJ->eV ks aJ->vs.length=ps.length->Q vs { s with toks:=tk })->Y' (Zb af wd) A (evalPairs ps) Q E s:=by
 induction r with
 |nil=>exact λ{s Q} hx h=>Zx (h [] [] s.toks trivial .nil rfl)
 | @cons p k ps ks hp r ih =>
  exact λ{s Q} hx h=>evalPairs_cons (hp E s _ hx λkv vv tk h1 h2=>ih hx λvs aJ iu h3 h4 h5=>h ((kv,vv)::vs) ((k.1,vv)::aJ) iu ⟨h1,rfl,h3⟩ (.cons h2 h4) (congrArg jcf h5))
theorem wv (hx:gj aL h)(hs:Z6 d h h')(hd:aL.objs.size<=d):gj aL h':=λb o e=>hs.extBut b o (λq=>ZW.mpr hd (q▸Zu e)) (hx b o e)
theorem SA (k9:aL.objs.size<=d)(r:eX bo A aL ps ks):∀{acc:List (K×Value)}{s:Y4}{Q:PUnit->Y4->Prop},gj aL s.heap->s.heap.DictOf bo d acc->acc.length+ps.length<=jcO ->
 (∀aJ h' tk,eV ks aJ->h'.DictOf bo d (merged acc aJ)->Z6 d s.heap h'->Q jgl { s with heap:=h',toks:=tk }) ->
 Y' (Zb af wd) A (forIn ps jgl λ(x:Sem Value×Sem Value) (_:PUnit)=>(do
  let kv <-x.1;let vv <-jfu [kv] x.2
  jfu [kv,vv] (dictSet d kv vv)
  pure (jbV jgl):Sem (ForInStep PUnit))) Q E s:=by
 induction r with
 |nil =>
  intro acc s Q hx hm be h;refine aa jcQ ?_;exact Zx (h [] s.heap s.toks .nil (by simpa [merged]using hm) (jgL _ _))
 | @cons p k ps ks hp r ih =>
  intro acc s Q hx hm be h;rw[jdv];refine Y9 (Y9 (jar (hp E s (λkv vv s'=>Y' (Zb af wd) A (do jfu [kv,vv] (dictSet d kv vv);pure (jbV jgl)) (λa cO=>Y' (Zb af wd) A _ Q E cO) E s') hx λkv vv tk h1 h2=>?_) (λkv ak aY=>Y9 (jaO aY)) λY Y e=>e));rw[Zo]at be;refine Y9 (jaO (wpAny_dictSet_pairs (hsz:=Y1 (ZD _ _) be) h1 hm λaY Qe FH=>Zx ?_));exact ih (wv hx FH k9) Qe (Y1 (Nat.add_le_add_right (stored_length_le acc k.1 vv) _) (by refine aa (Nat.succ_add _ _) ?_;exact be)) λaJ h' iu h3 h4 h5=>h ((k.1,vv)::aJ) h' iu (.cons h2 h3) (by simpa [merged]using h4) (FH.trans h5)
theorem HY (hP:eX bo A aL ps ks)(hx:gj aL s.heap)(k9:aL.objs.size<=s.heap.objs.size)(be:ps.length<=1000)(h:∀aJ h' tk,eV ks aJ->h'.DictOf bo s.heap.objs.size (merged [] aJ)->Z6 s.heap.objs.size (s.heap.push { cls:=.type "dict",data:=.dict #[] }) h'->Q s.heap.objs.size { s with heap:=h',toks:=tk }):
 Y' (Zb af wd) A (subDict ps) Q E s:=by
 unfold subDict;refine Y9 (jiG ?_);have hm:(s.heap.push { cls:=.type "dict",data:=.dict #[] }).DictOf bo s.heap.objs.size []:=jfj ..;have fe:gj aL (s.heap.push { cls:=.type "dict",data:=.dict #[] }):=λb o e=>Zd _ (hx b o e);refine Y9 (jaO ?_);by_cases hl:ps.length<=15
 ·refine aa (if_pos hl) ?_;refine Y9 (Nc hP fe λvs aJ tk h1 h2 h3=>jaO ?_);refine Y9 (wpAny_storeAll (knd:=bo) vs aJ [] _ _ h1 hm (by have:=h1.length;refine aa jiJ ?_;refine aa jbp ?_;lia) λh' jh ej=>Zx (Zx ?_));exact h aJ h' _ h2 jh ej
 ·refine aa (if_neg hl) ?_;refine Y9 (jeS ?_);refine Y9 (SA k9 hP fe hm (by refine aa jiJ ?_;refine aa jbp ?_;lia) λaJ h' tk h1 h2 h3=>Zx (Zx ?_));exact h aJ h' tk h1 h2 h3
end
section
variable {K:Type}[DecidableEq K]{bo:KeyKind af wd K}{A:ZV}{E:Value->Y4->Prop}{s:Y4}{aL:jak}
theorem eV.keys {l:List (K×(Value->Prop))}{aJ:List (K×Value)}(r:eV l aJ):aJ.map (·.1)=l.map (·.1):=by
 induction r with
 |nil=>rfl
 |cons _ _ ih=>exact congrArg (List.cons _) ih
theorem eV.merged {l:List (K×(Value->Prop))}(r:eV l aJ)(hn:(l.map (·.1)).Nodup):merged [] aJ=aJ:=merged_nil_of_nodup _ (by refine aa r.keys ?_;exact hn)
def u7 (run:List (Sem Value×Sem Value))(main:Option Ze):Sem (Option Ze):=
 if run.isEmpty=true then pure main
 else match main with
  |none=>do
   let __do_lift <-subDict run
   pure (some __do_lift)
  |some d=>do
   let sub <-jfu [jbz d] (subDict run)
   (jfu [jbz d,jbz sub] (jhX d (jbz sub) false)).onRaise λx=>do
    let _ <-jfu [jbz d,x] (runValue (Code.builtin "proto.let_go" { }))
    pure ()
   pure (some d)
structure uj (bo:KeyKind af wd K) (aL:jak) (main:Option Ze) (ks:List (K×(Value->Prop))) (s:Y4):Prop where
 ex:gj aL s.heap
 sz:aL.objs.size<=s.heap.objs.size
 st:(main=none/\ks=[])\/∃D aJ,main=some D/\eV ks aJ/\aJ≠[]/\aL.objs.size<=D/\s.heap.DictOf bo D aJ
theorem D3 {main:Option Ze}{run:List (Sem Value×Sem Value)}{ks gy:List (K×(Value->Prop))}{Q:Option Ze->Y4->Prop}(S:uj bo aL main ks s)(hP:eX bo A aL run gy)(iK:jad<aL.objs.size)(be:ks.length+gy.length<=1000)(df:((ks++gy).map (·.1)).Nodup)(h:∀m' h' tk,uj bo aL m' (ks++gy) { s with heap:=h',toks:=tk }->Q m' { s with heap:=h',toks:=tk }):Y' (Zb af wd) A (u7 run main) Q E s:=by
 unfold u7;cases hP with
 |nil=>exact Zx (h main s.heap s.toks (by refine aa (Z2 _) ?_;exact S))
 | @cons p k ps nc hp r =>
  refine aa (if_neg (by simp)) ?_;have hP:eX bo A aL (p::ps) (k::nc):=.cons hp r;have Ys:=hP.length;have Fj:=df;rw[ZS,jbm]at Fj;refine fY Fj λsT vH Y=>?_;rcases S.st with⟨rfl,rfl⟩|⟨D,aJ,rfl,h1,h2,h3,h4⟩
  ·refine Y9 (HY hP S.ex S.sz (by lia) λaJ h' tk k1 k2 k3=>Zx ?_);have hz:h'.objs.size=s.heap.objs.size+1:=by refine aa k3.1 ?_;refine aa (ZP _ _) ?_;rfl
   refine h _ _ _ ⟨wv (λb o e=>Zd _ (S.ex b o e)) k3 S.sz,by show _<=h'.objs.size;refine aa hz ?_;exact jfF S.sz,.inr ⟨_,aJ,rfl,by refine aa (jaY _) ?_;exact k1,?_,S.sz,by rw[k1.merged vH]at k2;exact k2⟩⟩;intro q;subst q;cases k1
  ·refine Y9 (jaO (HY hP S.ex S.sz (by lia) λtn h' tk k1 k2 k3=>?_));have hz:h'.objs.size=s.heap.objs.size+1:=by refine aa k3.1 ?_;refine aa (ZP _ _) ?_;rfl
   have O6:D<s.heap.objs.size:=by
    refine uW h4 λo Y Y e Y=>?_;exact Zu e
   have cV:D≠s.heap.objs.size:=jaE O6;have O4:h'.DictOf bo D aJ:=by
    refine uW h4 λo es ep e r=>?_;exact⟨o,es,ep,k3.extBut _ _ cV (Zd _ e),r⟩
   rw[k1.merged vH]at k2;have l3:=h1.length;have l4:=k1.length;refine Y9 (wpAny_onRaise (jaO (Tf cV ?_ h2 O4 k2 (λhV m1 m2=>Zx ?_) (by refine aa jiJ ?_;lia))))
   ·exact beq_eq_false_iff_ne.mpr (jaU (bf iK S.sz))
   ·refine h _ _ _ ⟨wv (wv (λb o e=>Zd _ (S.ex b o e)) k3 S.sz) m2 h3,by show _<=hV.objs.size;refine aa m2.1 ?_;refine aa hz ?_;exact jfF S.sz,.inr ⟨D,aJ++tn,rfl,h1.append k1,by simp[h2],h3,?_⟩⟩;have e:merged aJ tn=aJ++tn:=merged_append_of_fresh _ _ (by refine aa ZS ?_;refine aa h1.keys ?_;refine aa k1.keys ?_;refine rwj ZS ?_;exact df);refine rwj e ?_;exact m1
theorem OL (f:(Option (Sem Value)×Sem Value)->(Option Ze×List (Sem Value×Sem Value))->Sem (ForInStep (Option Ze×List (Sem Value×Sem Value))))(hf:∀(p:Sem Value×Sem Value) (st:Option Ze×List (Sem Value×Sem Value)),f (some p.1,p.2) st=(if((st.2++[p]).length==17)=true then(do
 let main <-u7 (st.2++[p]) st.1
 pure (.yield (main,[])))else pure (.yield (st.1,st.2++[p])))) (iK:jad<aL.objs.size) {ps:List (Sem Value×Sem Value)}{ks:List (K×(Value->Prop))} (rr:eX bo A aL ps ks):∀{main:Option Ze}{run:List (Sem Value×Sem Value)}{lj gy:List (K×(Value->Prop))}{s:Y4}{Q:(Option Ze×List (Sem Value×Sem Value))->Y4->Prop},uj bo aL main lj s->eX bo A aL run gy->lj.length+gy.length+ks.length<=1000->((lj++gy++ks).map (·.1)).Nodup ->
 (∀m' wt nf v3 h' tk,uj bo aL m' nf { s with heap:=h',toks:=tk }->eX bo A aL wt v3->nf++v3=lj++gy++ks->Q (m',wt) { s with heap:=h',toks:=tk }) ->
 Y' (Zb af wd) A (forIn (ps.map λp=>(some p.1,p.2)) (main,run) f) Q E s:=by
 induction rr with
 |nil =>
  intro main run lj gy s Q S hr be df h;refine aa List.map_nil ?_;refine aa jcQ ?_;exact Zx (h main run lj gy s.heap s.toks S hr (by refine aa (Z2 _) ?_;rfl))
 | @cons p k ps ks hp r ih =>
  intro main run lj gy s Q S hr be df h;refine aa ZC ?_;rewrite [jdv];refine aa (hf _ _) ?_;dsimp only;have vJ:eX bo A aL (run++[p]) (gy++[k]):=hr.append (.cons hp .nil);rw[Zo]at be;have e1:lj++gy++k::ks=lj++(gy++[k])++ks:=by simp
  rw[e1]at df h;have l1:(gy++[k]).length=gy.length+1:=Za;split
  ·refine Y9 (Y9 (D3 S vJ iK (by lia) (by rw[ZS,jbm]at df;exact df.1) λm' h' tk S'=>Zx ?_));refine ih S' .nil (by simp only[Za,Zo,jbp];exact ub be) (by simpa using df) λwa A2 nf Ai hV iu my zH e=>?_;exact h wa A2 nf Ai hV iu my zH (by refine aa e ?_;simp)
  ·refine Y9 (Zx ?_);refine ih S vJ (by simp only[Za,Zo,jbp];exact ub be) (by simpa using df) λwa A2 nf Ai hV iu my zH e=>?_;exact h wa A2 nf Ai hV iu my zH e
theorem CY {ps:List (Sem Value×Sem Value)}{ks:List (K×(Value->Prop))}{Q:Value->Y4->Prop}(hP:eX bo A s.heap ps ks)(iK:jad<s.heap.objs.size)(be:ps.length<=1000)(cV:ps≠[])(df:(ks.map (·.1)).Nodup)(h:∀D aJ h' tk,s.heap.objs.size<=D->eV ks aJ->h'.DictOf bo D aJ->gj s.heap h'->s.heap.objs.size<=h'.objs.size->Q (.ref D) { s with heap:=h',toks:=tk }):
 Y' (Zb af wd) A (jgN (ps.map λp=>(some p.1,p.2))) Q E s:=by
 unfold jgN;dsimp only;have hl:=hP.length;refine Y9 (OL (aL:=s.heap) _ (λp st=>rfl) iK hP (lj:=[]) ⟨λY Y e=>e,Y5 _,.inl ⟨rfl,rfl⟩⟩ .nil (by simp only[jbp];lia) (by simpa using df) λm' wt nf v3 h' tk S' vJ e=>?_);rw[jaY,jaY]at e;have vy:nf.length+v3.length=ks.length:=by refine rwj Za ?_;refine aa e ?_;rfl
 refine Y9 (?_:Y' (Zb af wd) A (u7 wt m') _ E _);refine D3 S' vJ iK (by lia) (by refine aa e ?_;exact df) λwa hV iu my=>?_;rw[e]at my;rcases my.st with⟨_,e2⟩|⟨D,aJ,rfl,h1,h2,h3,h4⟩
 ·exfalso;rw[e2]at hl;exact cV (Z3.mp hl)
 ·exact Zx (h D aJ hV iu h3 h1 h4 my.ex my.sz)
end
end
section
open PySem
set_option genInjectivity true in
set_option genCtorIdx true in
inductive AV where
 |none
 |bool (b:Bool)
 |int (i:Int)
 |flt (x:UInt64)
 |str (cs:List Nat)
 |tup (vs:List AV)
 |lst (vs:List AV)
 |dct (es:List (Int×AV))
 |ref (i:Nat)
 |tok
set_option genInjectivity true in
set_option genCtorIdx true in
inductive AO where
 |list (vs:List AV)
 |dict (es:List (Int×AV))
 |gone
inductive Fn where
 |range|len|sum|max|min|listVals|listRange|ord|chr|int|divmod|isBool|isInt|reversed
 |bitLength|index|find|join|split|count|get|values
 |user (k:Nat)
set_option genInjectivity true in
set_option genCtorIdx true in
inductive ul where
 |divLimit|ntOffset|endMarker|tok
set_option genInjectivity true in
mutual
inductive Ex where
 |c (v:Const)
 |var (i:Nat)
 |glob (g:ul)
 |bin (op:Operator) (a b:Ex)
 |un (op:UnaryOp) (a:Ex)
 |cmp (op:CmpOp) (a b:Ex)
 |and (es:bV)
 |or (es:bV)
 |ite (c a b:Ex)
 |list (es:bV)
 |tup (es:bV)
 |dict (ks vs:bV)
 |idx (a i:Ex)
 |slice (a:Ex) (lo hi:uk)
 |call (f:Fn) (as:bV)
 |comp (n:Nat) (gs:jY)
 |bad
inductive bV where
 |nil
 |cons (e:Ex) (es:bV)
inductive uk where
 |none
 |some (e:Ex)
inductive jY where
 |done (e:Ex)
 |cons (x:Nat) (it:It) (ifs:bV) (az:jY)
inductive It where
 |range (as:bV)
 |rev (e:Ex)
 |val (e:Ex)
end
def fR:Ex->It
 | .call .range as=>.range as
 | .call .reversed (.cons a .nil)=>.rev a
 |e=>.val e
mutual
inductive St where
 |asg (x:Nat) (wA:Bool) (e:Ex)
 |unp (xs:List Nat) (e:Ex)
 |asgT (xs:List (Nat×Bool)) (es:bV)
 |aug (x:Nat) (op:Operator) (e:Ex)
 |app (o e:Ex)
 |rev (o:Ex)
 |put (x:Nat) (k v:Ex)
 |ife (c:Ex) (a b:dw)
 |for_ (x:Nat) (it:It) (body:dw)
 |while_ (c:Ex) (body:dw)
 |ret (e:Ex)
 |bad
inductive dw where
 |nil
 |cons (s:St) (ss:dw)
end
def gv:List (Str×Fn):=[("range",.range),("len",.len),("sum",.sum),("max",.max),("min",.min),("ord",.ord),("chr",.chr),("int",.int),("divmod",.divmod),("reversed",.reversed),
 ("_div2n1n",.user 0),("_int2digits",.user 1),("_digits2int",.user 2),("_divmod_pos",.user 3),("int_divmod",.user 4),("rgb_to_hls",.user 5),("rgb_to_hsv",.user 6),("hsv_to_rgb",.user 7),
 ("in_table_b1",.user 8),("map_table_b3",.user 9),("ISTERMINAL",.user 10),("ISNONTERMINAL",.user 11),("ISEOF",.user 12),("_law_word",.user 13),("_law_page",.user 14),("_law_read",.user 15),
 ("_law_net",.user 16),("_law_lamps",.user 17),("_law_paintings",.user 18),("_law_classes",.user 19),("_law_plain",.user 20),("law",.user 21)]
def iU:List (Str×Fn):=[("bit_length",.bitLength),("index",.index),("find",.find),("join",.join),("split",.split),("count",.count),("get",.get)]
def sE:List (Str×ul):=[("_DIV_LIMIT",.divLimit),("NT_OFFSET",.ntOffset),("ENDMARKER",.endMarker),("EXACT_TOKEN_TYPES",.tok)]
structure Tb where
 names:List (Str×jbd)
 vars:List (Str×Nat)
 next:Nat
def wn (x:Str):Bool:=!(x==("__debug__" : Str))&&!(x==("__classdict__" : Str))
def Tb.celled (T:Tb)(x:Str):Bool:=T.names.lookup x==some .cell||T.names.lookup x==some .free
def Tb.var (T:Tb)(x:Str):Option Nat:=match T.names.lookup x with
 |some .local|some .cell|some .free=>if wn x then T.vars.lookup x else none
 |_=>none
def Tb.own (T:Tb)(x:Str):Option Nat:=if T.names.lookup x==some .local||T.names.lookup x==some .cell then T.var x else none
def Tb.isGlobal (T:Tb)(x:Str):Bool:=T.names.lookup x==some .globalImplicit&&wn x
def AD (l:List (Str×jbd)):Bool:=decide (l.map (·.1)).Nodup
def eB (sc:jaB):List Str:=sc.names.filterMap λ(n,k)=>if(k==.local||k==.cell)&&n != (".0" : Str)then some n else none
def qf (sc:jaB):List Str:=sc.names.filterMap λ(n,k)=>if k==.free then some n else none
def Tb.comp (T:Tb)(sc:jaB):Tb :=
 { names:=sc.names,vars:=(eB sc).zipIdx.map (λ(n,j)=>(n,T.next+j))++(qf sc).filterMap (λn=>(T.var n).map (n,·)),next:=T.next+(eB sc).length }
def oQ (T:Tb):Bool:=T.vars.all λa=>decide (a.2<T.next)&&T.vars.all λb=>a.2 != b.2||a.1==b.1
def B4:Expr->Bool
 | .Call (.Name _ _) [] [] _=>false
 |_=>true
def ff (o:Expr)(n:Nat)(pk pos:Pos):Bool:=B4 o&&(pk.endLine==pos.line)&&decide (n<20)
def xL (o:Option Nat)(it:It)(ifs:bV)(gs:jY):jY:=match o with
 |some i=>.cons i it ifs gs
 |none=>.done .bad
def An:bV->Ex
 | .cons (.call .values as) .nil=>.call .listVals as
 | .cons (.call .range as) .nil=>.call .listRange as
 |_=>.bad
def Gc (T:Tb):List Expr->Option Fn
 | [_,.Name t _]=>if T.isGlobal t&&t==("bool" : Str)then some .isBool else if T.isGlobal t&&t==("int" : Str)then some .isInt else none
 |_=>none
def Ae (g:Fn):bV->Ex
 | .cons e _=>.call g (.cons e .nil)
 | .nil=>.bad
def Tp (T:Tb)(f:Str)(as:List Expr)(es:bV):Ex :=
 if f==("list" : Str)then An es
 else if f==("isinstance" : Str)then(match Gc T as with|some g=>Ae g es|none=>.bad)
 else match gv.lookup f with
  |some g=>if as.isEmpty then .bad else .call g es
  |none=>.bad
def Aw (m:Str)(ok:Bool)(o:Ex)(none_:Bool)(es:bV):Ex :=
 if ok then(if m==("values" : Str)then(if none_ then .call .values (.cons o .nil)else .bad)else match iU.lookup m with
  |some g=>.call g (.cons o es)
  |none=>.bad)else .bad
mutual
noncomputable def ao (T:Tb):Expr->Ex
 | .Constant c _ _=>.c c
 | .Name x _=>match T.var x with
  |some i=>.var i
  |none=>if T.isGlobal x then(match sE.lookup x with|some g=>.glob g|none=>.bad)else .bad
 | .BinOp a op b _=>.bin op (ao T a) (ao T b)
 | .UnaryOp op a _=>.un op (ao T a)
 | .Compare a [op] [b] _=>if jev op b then .bad else .cmp op (ao T a) (ao T b)
 | .BoolOp .And (e::es) _=>.and (.cons (ao T e) (bg T es))
 | .BoolOp .Or (e::es) _=>.or (.cons (ao T e) (bg T es))
 | .IfExp c a b _=>.ite (ao T c) (ao T a) (ao T b)
 | .List es _=>.list (bg T es)
 | .Tuple es _ _=>.tup (bg T es)
 | .Dict ks vs _=>if ks.all jgs then .dict (tZ T ks) (bg T vs)else .bad
 | .Subscript a (.Slice lo hi none _) _=>.slice (ao T a) (mi T lo) (mi T hi)
 | .Subscript a i _=>.idx (ao T a) (ao T i)
 | .Call (.Name f _) as [] _=>if T.isGlobal f then Tp T f as (bg T as)else .bad
 | .Call (.Attribute o m pk) as [] pos=>Aw m (ff o as.length pk pos) (ao T o) as.isEmpty (bg T as)
 | .ListComp aD gens sc _=>if sc.kind==.function&&AD sc.names&&gens.all (λg=>g.is_async==0)&&(qf sc).all T.celled&&oQ (T.comp sc)then .comp (eB sc).length (iY T (T.comp sc) (ao (T.comp sc) aD) gens)else .bad
 |_=>.bad
noncomputable def bg (T:Tb):List Expr->bV
 | []=>.nil
 |e::es=>.cons (ao T e) (bg T es)
noncomputable def tZ (T:Tb):List (Option Expr)->bV
 | []=>.nil
 |some e::es=>.cons (ao T e) (tZ T es)
 |none::es=>.cons .bad (tZ T es)
noncomputable def mi (T:Tb):Option Expr->uk
 |none=>.none
 |some e=>.some (ao T e)
noncomputable def iY (T T':Tb)(aD:Ex):List jai->jY
 |⟨.Name x _,it,ifs,0⟩::gs=>xL (T'.own x) (fR (ao T it)) (bg T' ifs) (iX T' aD gs)
 |_=>.done .bad
noncomputable def iX (T':Tb)(aD:Ex):List jai->jY
 | []=>.done aD
 |⟨.Name x _,it,ifs,0⟩::gs=>xL (T'.own x) (fR (ao T' it)) (bg T' ifs) (iX T' aD gs)
 |_::_=>.done .bad
end
def gh:List Expr->Option (List Str)
 | []=>some []
 | .Name x _::es=>(gh es).map (x::·)
 |_=>none
def eK:Expr->Bool
 | .List ..=>true
 | .Dict [] [] _=>true
 | .ListComp ..=>true
 |_=>false
def Tb.vars? (T:Tb)(xs:List Str):Option (List Nat):=xs.mapM T.own
def Ea (o:Option Nat)(it:It)(b:dw):St:=match o with
 |some i=>.for_ i it b
 |none=>.bad
mutual
noncomputable def oT (T:Tb)(kw:List Str):Stmt->St
 | .Assign [.Name x _] v _=>match T.own x with
  |some i=>.asg i (kw.contains x&&eK v) (ao T v)
  |none=>.bad
 | .Assign [.Tuple ts _ _] (.Tuple vs _ _) _=>match gh ts with
  |some xs=>(match T.vars? xs with
   |some is=>if vs.length==xs.length&&decide (vs.length<=1000)&&decide is.Nodup&&(!vs.all (jdj 8)||vs.all (jdC 8))then .asgT (is.zip ((xs.zip vs).map λ(x,v)=>kw.contains x&&eK v)) (bg T vs)else .bad
   |none=>.bad)
  |none=>.bad
 | .Assign [.Tuple ts _ _] v _=>match gh ts with
  |some xs=>(match T.vars? xs with
   |some is=>.unp is (ao T v)
   |none=>.bad)
  |none=>.bad
 | .Assign [.Subscript (.Name x _) k _] v _=>match T.var x with
  |some i=>.put i (ao T k) (ao T v)
  |none=>.bad
 | .AugAssign (.Name x _) op v _=>match T.own x with
  |some i=>.aug i op (ao T v)
  |none=>.bad
 | .Expr (.Call (.Attribute o m ap) as [] p) _=>match as with
  | [e]=>if m==("append" : Str)&&ff o 1 ap p then .app (ao T o) (ao T e)else .bad
  | []=>if m==("reverse" : Str)&&ff o 0 ap p then .rev (ao T o)else .bad
  |_=>.bad
 | .If c a b _=>.ife (ao T c) (et T kw a) (et T kw b)
 | .For (.Name x _) it body [] _=>Ea (T.own x) (fR (ao T it)) (et T kw body)
 | .While c body [] _=>.while_ (ao T c) (et T kw body)
 | .Return (some e) _=>.ret (ao T e)
 |_=>.bad
noncomputable def et (T:Tb)(kw:List Str):List Stmt->dw
 | []=>.nil
 |s::ss=>.cons (oT T kw s) (et T kw ss)
end
set_option backward.match.sparseCases true
inductive cE (T:Tb):Expr->Ex->Prop
 |c {c:Const}{k:Nat}{p:Pos}:cE T (.Constant c k p) (.c c)
 |var {x:Str}{i:Nat}{p:Pos} (h:T.var x=some i):cE T (.Name x p) (.var i)
 |glob {x:Str}{g:ul}{p:Pos} (hg:T.isGlobal x=true) (hl:sE.lookup x=some g):cE T (.Name x p) (.glob g)
 |bin {a b:Expr}{op:Operator}{p:Pos}:cE T (.BinOp a op b p) (.bin op (ao T a) (ao T b))
 |un {a:Expr}{op:UnaryOp}{p:Pos}:cE T (.UnaryOp op a p) (.un op (ao T a))
 |cmp {a b:Expr}{op:CmpOp}{p:Pos} (h:jev op b=false):cE T (.Compare a [op] [b] p) (.cmp op (ao T a) (ao T b))
 |and {e:Expr}{es:List Expr}{p:Pos}:cE T (.BoolOp .And (e::es) p) (.and (bg T (e::es)))
 |or {e:Expr}{es:List Expr}{p:Pos}:cE T (.BoolOp .Or (e::es) p) (.or (bg T (e::es)))
 |ite {c a b:Expr}{p:Pos}:cE T (.IfExp c a b p) (.ite (ao T c) (ao T a) (ao T b))
 |list {es:List Expr}{p:Pos}:cE T (.List es p) (.list (bg T es))
 |tup {es:List Expr}{k:Nat}{p:Pos}:cE T (.Tuple es k p) (.tup (bg T es))
 |dict {ks:List (Option Expr)}{vs:List Expr}{p:Pos} (h:ks.all jgs=true):cE T (.Dict ks vs p) (.dict (tZ T ks) (bg T vs))
 |slice {a:Expr}{lo hi:Option Expr}{p p':Pos}:cE T (.Subscript a (.Slice lo hi none p) p') (.slice (ao T a) (mi T lo) (mi T hi))
 |idx {a i:Expr}{p:Pos}:cE T (.Subscript a i p) (.idx (ao T a) (ao T i))
 |vals {a:Expr}{f:Str}{es:bV}{p p':Pos} (hg:T.isGlobal f=true) (hf:f = "list") (ha:ao T a=.call .values es):cE T (.Call (.Name f p) [a] [] p') (.call .listVals es)
 |lrange {a:Expr}{f:Str}{es:bV}{p p':Pos} (hg:T.isGlobal f=true) (hf:f = "list") (ha:ao T a=.call .range es):cE T (.Call (.Name f p) [a] [] p') (.call .listRange es)
 |isBool {e:Expr}{f t:Str}{p p' AL:Pos} (hg:T.isGlobal f=true) (hf:f = "isinstance") (ht:T.isGlobal t=true) (eT:t = "bool"):cE T (.Call (.Name f p) [e,.Name t p'] [] AL) (.call .isBool (.cons (ao T e) .nil))
 |isInt {e:Expr}{f t:Str}{p p' AL:Pos} (hg:T.isGlobal f=true) (hf:f = "isinstance") (ht:T.isGlobal t=true) (eT:t = "int"):cE T (.Call (.Name f p) [e,.Name t p'] [] AL) (.call .isInt (.cons (ao T e) .nil))
 |user {f:Str}{g:Fn}{a:Expr}{as:List Expr}{p p':Pos} (hg:T.isGlobal f=true) (hl:gv.lookup f=some g):cE T (.Call (.Name f p) (a::as) [] p') (.call g (bg T (a::as)))
 |meth {o:Expr}{m:Str}{g:Fn}{as:List Expr}{ap p:Pos} (hl:iU.lookup m=some g) (ho:ff o as.length ap p=true):cE T (.Call (.Attribute o m ap) as [] p) (.call g (.cons (ao T o) (bg T as)))
 |values {o:Expr}{m:Str}{ap p:Pos} (hm:m = "values") (ho:ff o 0 ap p=true):cE T (.Call (.Attribute o m ap) [] [] p) (.call .values (.cons (ao T o) .nil))
 |comp {aD:Expr}{gens:List jai}{sc:jaB}{p:Pos} (h:(sc.kind==.function&&AD sc.names&&gens.all (λg=>g.is_async==0)&&(qf sc).all T.celled&&oQ (T.comp sc))=true):
  cE T (.ListComp aD gens sc p) (.comp (eB sc).length (iY T (T.comp sc) (ao (T.comp sc) aD) gens))
 |bad {e:Expr}:cE T e .bad
theorem l8 [Decidable c](h1:c->cE T e x)(h2:¬c->cE T e y):cE T e (if c then x else y):=by
 by_cases h:c
 ·rw[if_pos h];exact h1 h
 ·rw[if_neg h];exact h2 h
theorem W2 {T:Tb}(hg:T.isGlobal f=true)(hf:f = "list") (as:List Expr):cE T (.Call (.Name f p) as [] pos) (An (bg T as)):=by
 induction as using Y2 with
 |nil=>exact .bad
 |cons a as =>
  show cE T _ (An (.cons (ao T a) (bg T as)))
  induction h:ao T a using Ex.casesOn with
  |call g es =>
   induction as using Y2 with
   |cons=>cases g<;>exact .bad
   |nil =>
    induction g using Fn.casesOn with
    |range=>exact .lrange hg hf h
    |values=>exact .vals hg hf h
    |_=>exact .bad
  |_=>exact .bad
theorem W0 {T:Tb}(hg:T.isGlobal f=true)(hf:f = "isinstance") (as:List Expr):cE T (.Call (.Name f p) as [] pos) (match Gc T as with|some g=>Ae g (bg T as)|none=>.bad):=by
 induction as using Y2 with
 |nil=>exact .bad
 |cons e as =>
  induction as using Y2 with
  |nil=>exact .bad
  |cons b as =>
   induction b using ZU with
   |Name t p2 =>
    induction as using Y2 with
    |cons=>exact .bad
    |nil =>
     show cE T _ (match(if T.isGlobal t&&t==("bool" : Str)then some Fn.isBool else if T.isGlobal t&&t==("int" : Str)then some .isInt else none)with|some g=>Ae g (bg T [e,_])|none=>.bad);by_cases h:(T.isGlobal t&&t==("bool" : Str))=true
     ·refine aa (if_pos h) ?_;exact cu h λh1 h2=>.isBool hg hf h1 (eq_of_beq h2)
     ·refine aa (if_neg h) ?_;by_cases h:(T.isGlobal t&&t==("int" : Str))=true
      ·refine aa (if_pos h) ?_;exact cu h λh1 h2=>.isInt hg hf h1 (eq_of_beq h2)
      ·refine aa (if_neg h) ?_;exact .bad
   |_=>exact .bad
theorem W6 (hg:T.isGlobal f=true):cE T (.Call (.Name f p) as [] pos) (match gv.lookup f with
 |some g=>if as.isEmpty then .bad else .call g (bg T as)
 |none=>.bad):=by
 induction h:gv.lookup f using ae with
 |none=>exact .bad
 |some g =>
  induction as using Y2 with
  |nil=>exact .bad
  |cons=>exact .user hg h
theorem W3:cE T (.Call (.Attribute o m ap) as [] pos) (Aw m (ff o as.length ap pos) (ao T o) as.isEmpty (bg T as)):=by
 refine l8 (λho=>l8 (λhm=>?_) λY=>?_) λY=>.bad
 ·induction as using Y2 with
  |nil=>exact .values (eq_of_beq hm) ho
  |cons=>exact .bad
 ·induction h:iU.lookup m using ae with
  |none=>exact .bad
  |some g=>exact .meth h ho
theorem W4:cE T (.Name x p) (match T.var x with
 |some i=>.var i
 |none=>if T.isGlobal x then(match sE.lookup x with|some g=>.glob g|none=>.bad)else .bad):=by
 induction h:T.var x using ae with
 |some i=>exact .var h
 |none =>
  refine l8 (λhg=>?_) λY=>.bad
  induction h:sE.lookup x using ae with
  |some g=>exact .glob hg h
  |none=>exact .bad
theorem Ii (T:Tb)(e:Expr):cE T e (ao T e):=by
 induction e using ZU with
 |Constant=>exact .c
 |Name=>exact W4
 |BinOp=>exact .bin
 |UnaryOp=>exact .un
 |Compare a tz cs p =>
  induction tz using Y2 with
  |nil=>exact .bad
  |cons op tz =>
   induction tz using Y2 with
   |cons=>exact .bad
   |nil =>
    induction cs using Y2 with
    |nil=>exact .bad
    |cons b cs =>
     induction cs using Y2 with
     |cons=>exact .bad
     |nil=>exact l8 (λY=>.bad) λh=>.cmp (jfA.mpr h)
 |BoolOp op es p=>cases op<;>cases es<;>first|exact .bad|exact .and|exact .or
 |IfExp=>exact .ite
 |List=>exact .list
 |Tuple=>exact .tup
 |Dict=>exact l8 (λh=>.dict h) λY=>.bad
 |Subscript a i p =>
  induction i using ZU with
  |Slice lo hi st p' =>
   induction st using ae with
   |none=>exact .slice
   |some=>exact .idx
  |_=>exact .idx
 |Call f as kws p =>
  induction f using ZU with
  |Name f p' =>
   induction kws using Y2 with
   |cons=>exact .bad
   |nil =>
    refine l8 (λhg=>?_) λY=>.bad;refine l8 (λhf=>W2 hg (eq_of_beq hf) as) λY=>?_;exact l8 (λhf=>W0 hg (eq_of_beq hf) as) λY=>W6 hg
  |Attribute o m ap =>
   induction kws using Y2 with
   |cons=>exact .bad
   |nil=>exact W3
  |_=>exact .bad
 |ListComp=>exact l8 (λh=>.comp h) λY=>.bad
 |_=>exact .bad
def RM:Fn->Bool
 | .listVals | .listRange | .isBool | .isInt=>true
 |_=>false
def Ad:Fn->Bool
 | .values=>true
 |_=>false
def Jc (T:Tb)(e:Expr):Ex->Prop
 | .call f as=>(∃x p a bs pos,e=.Call (.Name x p) (a::bs) [] pos/\T.isGlobal x=true/\gv.lookup x=some f/\as=bg T (a::bs))\/(∃m,iU.lookup m=some f)\/RM f=true\/Ad f=true/\∃o m ap p,e=.Call (.Attribute o m ap) [] [] p/\m = "values" /\ ff o 0 ap p=true/\as=.cons (ao T o) .nil
 | .list es=>∃xs p,e=.List xs p/\es=bg T xs
 |_=>True
theorem wF (h:ao T e=x):Jc T e x:=by
 have t:=Ii T e;rw[h]at t;clear h;cases t with
 |user hg hl=>exact .inl ⟨_,_,_,_,_,rfl,hg,hl,rfl⟩
 |meth hl=>exact .inr (.inl ⟨_,hl⟩)
 |list=>exact⟨_,_,rfl,rfl⟩
 |vals|lrange|isBool|isInt=>exact .inr (.inr (.inl rfl))
 |values hm ho=>exact .inr (.inr (.inr ⟨rfl,_,_,_,_,rfl,hm,ho,rfl⟩))
 |_=>exact True.intro
def IZ (e:Ex):It->Prop
 | .range as=>e=.call .range as
 | .rev a=>e=.call .reversed (.cons a .nil)
 | .val x=>x=e
theorem ti (h:fR e=t):IZ e t:=by
 subst h
 induction e using Ex.casesOn with
 |call f as =>
  induction f using Fn.casesOn with
  |range=>rfl
  |reversed =>
   cases as with
   |nil=>rfl
   |cons a as=>cases as<;>rfl
  |_=>rfl
 |_=>rfl
inductive rE (T T':Tb) (aD:Ex) (gs:List jai):jai->jY->Prop
 |bad {g:jai}:rE T T' aD gs g (.done .bad)
 |mk {x:Str}{px:Pos}{it:Expr}{ifs:List Expr}{i:Nat} (h:T'.own x=some i):rE T T' aD gs ⟨.Name x px,it,ifs,0⟩ (.cons i (fR (ao T it)) (bg T' ifs) (iX T' aD gs))
theorem Ih:rE T T' aD gs ⟨.Name x px,it,ifs,0⟩ (xL (T'.own x) (fR (ao T it)) (bg T' ifs) (iX T' aD gs)):=by
 induction h:T'.own x using ae with
 |none=>exact .bad
 |some i=>exact .mk h
theorem WO:rE T T aD gs g (iX T aD (g::gs)):=by
 obtain⟨t,it,ifs,n⟩:=g
 induction t using ZU with
 |Name x px =>
  induction n using Int.casesOn with
  |ofNat n =>
   induction n using jaw with
   |zero=>exact Ih
   |succ=>exact .bad
  |negSucc=>exact .bad
 |_=>exact .bad
theorem WN:rE T T' aD gs g (iY T T' aD (g::gs)):=by
 obtain⟨t,it,ifs,n⟩:=g
 induction t using ZU with
 |Name x px =>
  induction n using Int.casesOn with
  |ofNat n =>
   induction n using jaw with
   |zero=>exact Ih
   |succ=>exact .bad
  |negSucc=>exact .bad
 |_=>exact .bad
inductive eI (T:Tb) (mu:List Str):Stmt->St->Prop
 |asg {x:Str}{px pos:Pos}{v:Expr}{i:Nat} (h:T.own x=some i):eI T mu (.Assign [.Name x px] v pos) (.asg i (mu.contains x&&eK v) (ao T v))
 |asgT {ts vs:List Expr}{k k2:Nat}{tp p2 pos:Pos}{xs:List Str}{is:List Nat} (h1:gh ts=some xs) (h2:T.vars? xs=some is)
  (h3:(vs.length==xs.length&&decide (vs.length<=1000)&&decide is.Nodup&&(!vs.all (jdj 8)||vs.all (jdC 8)))=true):eI T mu (.Assign [.Tuple ts k tp] (.Tuple vs k2 p2) pos) (.asgT (is.zip ((xs.zip vs).map λ(x,v)=>mu.contains x&&eK v)) (bg T vs))
 |unp {ts:List Expr}{v:Expr}{k:Nat}{tp pos:Pos}{xs:List Str}{is:List Nat} (h1:gh ts=some xs) (h2:T.vars? xs=some is) (hn:∀vs k p,v≠.Tuple vs k p):eI T mu (.Assign [.Tuple ts k tp] v pos) (.unp is (ao T v))
 |put {x:Str}{px sp pos:Pos}{k v:Expr}{i:Nat} (h:T.var x=some i):eI T mu (.Assign [.Subscript (.Name x px) k sp] v pos) (.put i (ao T k) (ao T v))
 |aug {x:Str}{px pos:Pos}{v:Expr}{op:Operator}{i:Nat} (h:T.own x=some i):eI T mu (.AugAssign (.Name x px) op v pos) (.aug i op (ao T v))
 |app {o e:Expr}{m:Str}{ap p q:Pos} (hm:m = "append") (ho:ff o 1 ap p=true):eI T mu (.Expr (.Call (.Attribute o m ap) [e] [] p) q) (.app (ao T o) (ao T e))
 |rev {o:Expr}{m:Str}{ap p q:Pos} (hm:m = "reverse") (ho:ff o 0 ap p=true):eI T mu (.Expr (.Call (.Attribute o m ap) [] [] p) q) (.rev (ao T o))
 |ife {c:Expr}{a b:List Stmt}{pos:Pos}:eI T mu (.If c a b pos) (.ife (ao T c) (et T mu a) (et T mu b))
 |for_ {x:Str}{px pos:Pos}{it:Expr}{body:List Stmt}{i:Nat} (h:T.own x=some i):eI T mu (.For (.Name x px) it body [] pos) (.for_ i (fR (ao T it)) (et T mu body))
 |while_ {c:Expr}{body:List Stmt}{pos:Pos}:eI T mu (.While c body [] pos) (.while_ (ao T c) (et T mu body))
 |ret {e:Expr}{pos:Pos}:eI T mu (.Return (some e) pos) (.ret (ao T e))
 |bad {st:Stmt}:eI T mu st .bad
theorem Af [Decidable c](h1:c->eI T mu st x)(h2:¬c->eI T mu st y):eI T mu st (if c then x else y):=by
 by_cases h:c
 ·refine aa (if_pos h) ?_;exact h1 h
 ·refine aa (if_neg h) ?_;exact h2 h
theorem WV:eI T mu (.Assign [.Name x px] v pos) (match T.own x with
 |some i=>.asg i (mu.contains x&&eK v) (ao T v)
 |none=>.bad):=by
 induction h:T.own x using ae with
 |some i=>exact .asg h
 |none=>exact .bad
theorem WX:eI T mu (.Assign [.Tuple ts k tp] (.Tuple vs k2 p2) pos) (match gh ts with
 |some xs=>(match T.vars? xs with
  |some is=>if vs.length==xs.length&&decide (vs.length<=1000)&&decide is.Nodup&&(!vs.all (jdj 8)||vs.all (jdC 8))then .asgT (is.zip ((xs.zip vs).map λ(x,v)=>mu.contains x&&eK v)) (bg T vs)else .bad
  |none=>.bad)
 |none=>.bad):=by
 induction h:gh ts using ae with
 |none=>exact .bad
 |some xs =>
  dsimp only
  induction h2:T.vars? xs using ae with
  |none=>exact .bad
  |some is=>exact Af (λh3=>.asgT h h2 h3) λY=>.bad
theorem WY (hn:∀vs k p,v≠.Tuple vs k p):eI T mu (.Assign [.Tuple ts k tp] v pos) (match gh ts with
 |some xs=>(match T.vars? xs with
  |some is=>.unp is (ao T v)
  |none=>.bad)
 |none=>.bad):=by
 induction h:gh ts using ae with
 |none=>exact .bad
 |some xs =>
  dsimp only
  induction h2:T.vars? xs using ae with
  |none=>exact .bad
  |some is=>exact .unp h h2 hn
theorem WW:eI T mu (.Assign [.Subscript (.Name x px) k sp] v pos) (match T.var x with
 |some i=>.put i (ao T k) (ao T v)
 |none=>.bad):=by
 induction h:T.var x using ae with
 |some i=>exact .put h
 |none=>exact .bad
theorem WT:eI T mu (.AugAssign (.Name x px) op v pos) (match T.own x with
 |some i=>.aug i op (ao T v)
 |none=>.bad):=by
 induction h:T.own x using ae with
 |some i=>exact .aug h
 |none=>exact .bad
theorem WU:eI T mu (.For (.Name x px) it body [] pos) (Ea (T.own x) (fR (ao T it)) (et T mu body)):=by
 induction h:T.own x using ae with
 |some i=>exact .for_ h
 |none=>exact .bad
theorem WS (T:Tb)(mu:List Str)(st:Stmt):eI T mu st (oT T mu st):=by
 induction st using jgO with
 |Assign ts v pos =>
  induction ts using Y2 with
  |nil=>exact .bad
  |cons t ts =>
   induction t using ZU with
   |Name x px =>
    induction ts using Y2 with
    |nil=>exact WV
    |cons=>exact .bad
   |Tuple t0 k tp =>
    induction ts using Y2 with
    |cons=>cases v<;>exact .bad
    |nil=>cases v<;>first|exact WX|exact WY λY Y Y q=>nomatch q
   |Subscript a k sp =>
    induction a using ZU with
    |Name x px =>
     induction ts using Y2 with
     |nil=>exact WW
     |cons=>exact .bad
    |_=>exact .bad
   |_=>exact .bad
 |AugAssign t op v pos =>
  induction t using ZU with
  |Name x px=>exact WT
  |_=>exact .bad
 |Expr e q =>
  induction e using ZU with
  |Call f as kws p =>
   induction f using ZU with
   |Attribute o m ap =>
    induction kws using Y2 with
    |cons=>exact .bad
    |nil =>
     induction as using Y2 with
     |nil=>exact Af (λh=>cu h λh1 h2=>.rev (eq_of_beq h1) h2) λY=>.bad
     |cons e as =>
      induction as using Y2 with
      |nil=>exact Af (λh=>cu h λh1 h2=>.app (eq_of_beq h1) h2) λY=>.bad
      |cons=>exact .bad
   |_=>exact .bad
  |_=>exact .bad
 |If=>exact .ife
 |For t it body orelse pos =>
  induction t using ZU with
  |Name x px =>
   induction orelse using Y2 with
   |nil=>exact WU
   |cons=>exact .bad
  |_=>exact .bad
 |While c body orelse pos =>
  induction orelse using Y2 with
  |nil=>exact .while_
  |cons=>exact .bad
 |Return e pos =>
  induction e using ae with
  |some=>exact .ret
  |none=>exact .bad
 |_=>exact .bad
abbrev aA:=List AO
abbrev aB:=List (Option AV)
def aQ (σ:aA):AV->Option (List AV)
 | .lst vs=>some vs
 | .ref i=>match σ[i]? with
  |some (.list vs)=>some vs
  |_=>none
 |_=>none
def gH (σ:aA):AV->Option (List (Int×AV))
 | .dct es=>some es
 | .ref i=>match σ[i]? with
  |some (.dict es)=>some es
  |_=>none
 |_=>none
def oG (σ:aA):AV->Option (List AV)
 | .tup vs=>some vs
 | .str cs=>some (cs.map λc=>.str [c])
 | .dct es=>some (es.map λe=>.int e.1)
 |v=>aQ σ v
def bj {α β:Type}(f:α->Option β):List α->Option (List β)
 | []=>some []
 |a::as=>match f a with
  |some b=>match bj f as with
   |some bs=>some (b::bs)
   |none=>none
  |none=>none
def aZ (σ:aA):Nat->AV->Option AV
 |0,_=>none
 |n+1,v=>match v with
  | .ref i=>match σ[i]? with
   |some (.list vs)=>(bj (aZ σ n) vs).map .lst
   |some (.dict es)=>(bj (λe=>(aZ σ n e.2).map (e.1,·)) es).map .dct
   |_=>none
  | .lst vs=>(bj (aZ σ n) vs).map .lst
  | .tup vs=>(bj (aZ σ n) vs).map .tup
  | .dct es=>(bj (λe=>(aZ σ n e.2).map (e.1,·)) es).map .dct
  |v=>some v
def AV.scalar:AV->Bool
 | .none | .bool _ | .int _ | .flt _ | .str _=>true
 |_=>false
def AV.isRef:AV->Bool
 | .ref _=>true
 |_=>false
def eN (eq:AV->AV->Option Bool):List AV->List AV->Option Bool
 | [],[]=>some true
 |a::as,b::bs=>match eq a b with
  |some r=>match eN eq as bs with
   |some q=>some (r&&q)
   |none=>none
  |none=>none
 |_,_=>some false
def cJ:AV->AV->Option Bool
 | .int i,.int j=>some (decide (i=j))
 | .flt x,.flt y=>if jac x x==some .eq then some (jac x y==some .eq)else none
 | .flt x,.int j=>some (jbC x j==some .eq)
 | .int i,.flt y=>some (jbC y i==some .eq)
 | .str x,.str y=>some (decide (x=y))
 |_,_=>none
def jB (σ:aA)(a b:AV):Option Bool :=
 match a,b with
 | .tup as,.tup bs=>if as.length=bs.length then eN cJ as bs else none
 | .tup _,_=>none
 |_,.tup _=>none
 |a,b=>match aQ σ a with
  |some as=>match aQ σ b with
   |some bs=>if as.length=bs.length then eN cJ as bs else some false
   |none=>none
  |none=>cJ a b
def small (a:Int):Bool:=decide (a.natAbs<2^64)
def Bu (a:Int):Bool:=decide (a.natAbs<2^4096)
def hJ (a:Int):Bool:=decide (a.natAbs<2^53)
def dE (σ:aA)(op:Operator)(a b:AV):Option AV :=
 match op,a,b with
 | .Add,.int i,.int j=>some (.int (i+j))
 | .Sub,.int i,.int j=>some (.int (i-j))
 | .Mult,.int i,.int j=>if small i||small j then some (.int (i*j))else none
 | .FloorDiv,.int i,.int j=>if j=0\/!small j then none else some (.int (i.fdiv j))
 | .Mod,.int i,.int j=>if j=0 then none else some (.int (i.fmod j))
 | .Pow,.int i,.int j=>if 0<=j/\j<=1000/\small i then some (.int (i^j.toNat))else none
 | .LShift,.int i,.int j=>if 0<=j/\j<=1000000/\Bu i then some (.int (i*2^j.toNat))else none
 | .RShift,.int i,.int j=>if 0<=j/\j<=1000000 then some (.int (i.fdiv (2^j.toNat)))else none
 | .BitXor,.int i,.int j=>some (.int (jfT i j))
 | .Div,.int i,.int j=>if j=0\/jdW (Z9 (decide (i<0) != decide (j<0)) i.natAbs j.natAbs)then none else some (.flt (Z9 (decide (i<0) != decide (j<0)) i.natAbs j.natAbs))
 | .Div,.flt x,.flt y=>if Z7 y then none else some (.flt (jab x y))
 | .Add,.flt x,.flt y=>some (.flt (Z8 x y))
 | .Add,.int i,.flt y=>if hJ i then some (.flt (Z8 (jaQ i) y))else none
 | .Sub,.flt x,.flt y=>some (.flt (ZF x y))
 | .Sub,.flt x,.int j=>if hJ j then some (.flt (ZF x (jaQ j)))else none
 | .Mult,.flt x,.flt y=>some (.flt (jaF x y))
 | .Mod,.flt x,.flt y=>if Z7 y then none else some (.flt (jdB x y).2)
 | .Add,.str x,.str y=>if x.length+y.length<=100000 then some (.str (x++y))else none
 | .Add,.tup x,.tup y=>if x.length+y.length<=100000 then some (.tup (x++y))else none
 | .Add,a,b=>match aQ σ a,aQ σ b with
  |some x,some y=>if x.length+y.length<=100000 then some (.lst (x++y))else none
  |_,_=>none
 |_,_,_=>none
def qV (op:UnaryOp)(a:AV):Option AV :=
 match op,a with
 | .USub,.int i=>some (.int (-i))
 | .Invert,.int i=>some (.int (-i-1))
 | .Not,.bool b=>some (.bool (!b))
 |_,_=>none
def Ac:AV->Option Int
 | .int i=>some i
 |_=>none
def cQ:List AV->Option (List Int):=bj Ac
def nh (i:Int)(vs:List AV):Option Bool:=(cQ vs).map λis=>is.any (·==i)
def cA:List (List Nat×Int):=[([40],7),([41],8),([91],9),([93],10),([58],11),([44],12),([59],13),([43],14),([45],15),([42],16),([47],17),([124],18),([38],19),([60],20),([62],21),([61],22),([46],23),([37],24),([123],25),([125],26),([61,61],27),([33,61],28),([60,61],29),([62,61],30),([126],31),([94],32),([60,60],33),([62,62],34),([42,42],35),([43,61],36),([45,61],37),([42,61],38),([47,61],39),([37,61],40),([38,61],41),([124,61],42),([94,61],43),([60,60,61],44),([62,62,61],45),([42,42,61],46),([47,47],47),([47,47,61],48),([64],49),([64,61],50),([45,62],51),([46,46,46],52),([58,61],53),([33],54)]
def j4 (σ:aA)(op:CmpOp)(a b:AV):Option Bool :=
 match op,a,b with
 | .Eq,a,b=>jB σ a b
 | .NotEq,a,b=>(jB σ a b).map (!·)
 | .Lt,.int i,.int j=>some (decide (i<j))
 | .LtE,.int i,.int j=>some (decide (i<=j))
 | .Gt,.int i,.int j=>some (decide (j<i))
 | .GtE,.int i,.int j=>some (decide (j<=i))
 | .LtE,.flt x,.flt y=>some (jac x y==some .lt||jac x y==some .eq)
 | .Is,.bool x,.bool y=>some (x==y)
 | .IsNot,.bool x,.bool y=>some (!(x==y))
 | .In,.str x,.tok=>some (cA.lookup x).isSome
 | .In,.int i,l=>match aQ σ l with
  |some vs=>nh i vs
  |none=>none
 | .NotIn,.int i,l=>match aQ σ l with
  |some vs=>(nh i vs).map (!·)
  |none=>none
 |_,_,_=>none
def fO (k:Int)(n:Nat):Option Nat:=if hJ k then jfs k n else none
def m8 (σ:aA)(a i:AV):Option AV :=
 match a,i with
 | .tup vs,.int k=>(fO k vs.length).bind λj=>vs[j]?
 | .str cs,.int k=>(fO k cs.length).bind λj=>cs[j]?.map λc=>.str [c]
 |a,.int k=>match aQ σ a with
  |some vs=>(fO k vs.length).bind λj=>vs[j]?
  |none=>match gH σ a with
   |some es=>es.lookup k
   |none=>none
 |_,_=>none
def md (σ:aA)(f:{α:Type}->List α->List α)(a:AV):Option AV :=
 match a with
 | .str cs=>if cs.length<=100000 then some (.str (f cs))else none
 |a=>match aQ σ a with
  |some vs=>if vs.length<=100000 then some (.lst (f vs))else none
  |none=>none
def qQ (σ:aA)(a:AV)(lo hi:Option Int):Option AV :=
 match lo,hi with
 |none,some h=>if 0<=h then md σ (λl=>l.take h.toNat) a else none
 |some l,none=>if 0<=l then md σ (λxs=>xs.drop l.toNat) a else none
 |_,_=>none
def em:List Int->Int
 | []=>0
 |i::is=>i+em is
def tO (vs:List AV):Option Int:=match cQ vs with
 |some is=>if is.all (λi=>decide (0<=i))=true/\em is<2^53 then some (em is)else none
 |none=>none
def gz (i:Int):List Int->Int
 | []=>i
 |j::js=>gz (if i<j then j else i) js
def gP (a c:Int):Nat->List Int
 |0=>[]
 |n+1=>a::gP (a+c) c n
def fQ (a b c:Int):Option (List Int):=if 0<c/\small c=true/\jem a b c=true/\jaI a b c<=100000 then some (gP a c (jaI a b c).toNat)else none
def nr:List AV->Option (List Int)
 | [.int b]=>fQ 0 b 1
 | [.int a,.int b]=>fQ a b 1
 | [.int a,.int b,.int c]=>fQ a b c
 |_=>none
def gK (x y:UInt64):Bool:=jac x y==some .gt
def gL (x y:UInt64):Bool:=jac x y==some .lt
abbrev cX:=Nat->List AV->Option AV
def fL (n:Nat):Option AV:=if n<=100000 then some (.int n)else none
def rR (σ:aA):List AV->Option AV
 | [.str cs]=>fL cs.length
 | [.dct es]=>fL es.length
 | [l]=>match aQ σ l with
  |some vs=>fL vs.length
  |none=>none
 |_=>none
def xA (σ:aA):List AV->Option AV
 | [l]=>match aQ σ l with
  |some vs=>(tO vs).map .int
  |none=>none
 |_=>none
def xx (σ:aA):List AV->Option AV
 | [.int i,.int j]=>some (.int (if i<j then j else i))
 | [.flt x,.flt y,.flt z]=>some (.flt (if gK z (if gK y x then y else x)then z else(if gK y x then y else x)))
 | [l]=>match aQ σ l with
  |some vs=>match cQ vs with
   |some (i::js)=>some (.int (gz i js))
   |_=>none
  |none=>none
 |_=>none
def xy:List AV->Option AV
 | [.int i,.int j]=>some (.int (if j<i then j else i))
 | [.flt x,.flt y,.flt z]=>some (.flt (if gL z (if gL y x then y else x)then z else(if gL y x then y else x)))
 |_=>none
def xz:List AV->Option AV
 | [.str [c]]=>some (.int c)
 |_=>none
def xu:List AV->Option AV
 | [.int i]=>if 0<=i/\i<=0x10FFFF then some (.str [i.toNat])else none
 |_=>none
def rQ:List AV->Option AV
 | [.flt x]=>match jcp x with
  | .fin jS m e=>some (.int (jes jS m e))
  |_=>none
 |_=>none
def xw:List AV->Option AV
 | [.int i,.int j]=>if j=0\/!small j then none else some (.tup [.int (i.fdiv j),.int (i.fmod j)])
 |_=>none
def uF:List AV->Option AV
 | [.int _]=>some (.bool false)
 |_=>none
def uG:List AV->Option AV
 | [.int _]=>some (.bool true)
 |_=>none
def uD:List AV->Option AV
 | [.int i]=>some (.int (Zm i))
 |_=>none
def bq (cs:List Nat):Str:=⟨cs.toArray⟩
def nN (σ:aA):List AV->Option AV
 | [.str x,.str y]=>match jau (bq x) (bq y) 0 (bq x).length 1 with
  |k::_=>some (.int k)
  | []=>none
 | [l,.int i]=>match aQ σ l with
  |some vs=>match cQ vs with
   |some is=>match is.findIdx? (·==i)with
    |some k=>if k<=100000 then some (.int k)else none
    |none=>none
   |none=>none
  |none=>none
 |_=>none
def mC:List AV->Option AV
 | [.str x,.str y]=>some (.int (match jau (bq x) (bq y) 0 (bq x).length 1 with|k::_=>(k:Int) | []=>-1))
 |_=>none
def ip:List AV->Option (List (List Nat))
 | []=>some []
 | .str x::vs=>(ip vs).map (x::·)
 |_=>none
def uH (σ:aA):List AV->Option AV
 | [.str [],l]=>match aQ σ l with
  |some vs=>match ip vs with
   |some xs=>if xs.flatten.length<=100000 then some (.str xs.flatten)else none
   |none=>none
  |none=>none
 |_=>none
def rS:List AV->Option AV
 | [.str x]=>if(bq x).length<=100000/\(jcA (bq x) ((bq x).length+1)).length<=100000/\(jcA (bq x) ((bq x).length+1)==[(0,(bq x).length)])=false then
  some (.lst ((wordsOf (bq x)).map λy=>.str y.cps.toList))else none
 |_=>none
def pE (σ:aA):List AV->Option AV
 | [l,.int i]=>match aQ σ l with
  |some vs=>match cQ vs with
   |some is=>some (.int (is.countP (·==i)))
   |none=>none
  |none=>none
 |_=>none
def uE (σ:aA):List AV->Option AV
 | [.tok,.str x,d]=>some (match cA.lookup x with|some k=>.int k|none=>d)
 | [.ref j,.int k,d]=>match gH σ (.ref j)with
  |some es=>some (match es.lookup k with|some v=>v|none=>d)
  |none=>none
 |_=>none
def nO (Φ:cX)(σ:aA)(k:Nat)(as:List AV):Option AV:=match bj (aZ [] 6) as with
 |some bs=>Φ k bs
 |none=>match bj (aZ σ 6) as with
  |some bs=>match Φ k bs with
   |some r=>if r.scalar then some r else none
   |none=>none
  |none=>none
def nQ (Φ:cX)(σ:aA)(f:Fn)(as:List AV):Option AV :=
 match f with
 | .len=>rR σ as
 | .sum=>xA σ as
 | .max=>xx σ as
 | .min=>xy as
 | .listVals=>match as with
  | [.dct es]=>if es.length<=100000 then some (.lst (es.map (·.2)))else none
  |_=>none
 | .listRange=>(nr as).map λis=>.lst (is.map .int)
 | .ord=>xz as
 | .chr=>xu as
 | .int=>rQ as
 | .divmod=>xw as
 | .isBool=>uF as
 | .isInt=>uG as
 | .bitLength=>uD as
 | .index=>nN σ as
 | .find=>mC as
 | .join=>uH σ as
 | .split=>rS as
 | .count=>pE σ as
 | .get=>uE σ as
 | .user k=>nO Φ σ k as
 |_=>none
def xM:Const->Option AV
 | .none=>some .none
 | .bool b=>some (.bool b)
 | .int i=>some (.int i)
 | .float x=>some (.flt x)
 | .str x=>some (.str x.cps.toList)
 |_=>none
def sD:ul->AV
 | .divLimit=>.int 4000
 | .ntOffset=>.int 256
 | .endMarker=>.int 0
 | .tok=>.tok
def fZ {α β:Type}(f:α->Option (List β)):List α->Option (List β)
 | []=>some []
 |a::as=>match f a with
  |some bs=>match fZ f as with
   |some cs=>some (bs++cs)
   |none=>none
  |none=>none
def sF:Option (List AV)->Option (List AV)
 |some r=>if r.length<=100000 then some r else none
 |none=>none
section
variable (Φ:cX)(σ:aA)
mutual
noncomputable def ev (ρ:aB):Ex->Option AV
 | .c v=>xM v
 | .var i=>match ρ[i]? with
  |some v=>v
  |none=>none
 | .glob g=>some (sD g)
 | .bin op a b=>match ev ρ a with
  |some x=>match ev ρ b with
   |some y=>dE σ op x y
   |none=>none
  |none=>none
 | .un op a=>match ev ρ a with
  |some x=>qV op x
  |none=>none
 | .cmp op a b=>match ev ρ a with
  |some x=>match ev ρ b with
   |some y=>(j4 σ op x y).map .bool
   |none=>none
  |none=>none
 | .and es=>(cS ρ es).map .bool
 | .or es=>(kU ρ es).map .bool
 | .ite c a b=>match ev ρ c with
  |some (.bool true)=>ev ρ a
  |some (.bool false)=>ev ρ b
  |_=>none
 | .list es=>match bX ρ es with
  |some vs=>if vs.length<=100000 then some (.lst vs)else none
  |none=>none
 | .tup es=>match bX ρ es with
  |some vs=>if vs.length<=100000 then some (.tup vs)else none
  |none=>none
 | .dict (.cons k .nil) (.cons v .nil)=>match ev ρ k with
  |some (.int i)=>match ev ρ v with
   |some x=>if x.scalar then some (.dct [(i,x)])else none
   |none=>none
  |_=>none
 | .dict _ _=>none
 | .idx a i=>match ev ρ a with
  |some x=>match ev ρ i with
   |some y=>m8 σ x y
   |none=>none
  |none=>none
 | .slice a lo hi=>match ev ρ a with
  |some x=>match fG ρ lo with
   |some l=>match fG ρ hi with
    |some h=>qQ σ x l h
    |none=>none
   |none=>none
  |none=>none
 | .call f as=>match bX ρ as with
  |some vs=>nQ Φ σ f vs
  |none=>none
 | .comp n gs=>(fF ρ n gs).map .lst
 | .bad=>none
noncomputable def dU (ρ:aB):It->Option (List AV)
 | .range as=>match bX ρ as with
  |some vs=>(nr vs).map λis=>is.map AV.int
  |none=>none
 | .rev _=>none
 | .val e=>match ev ρ e with
  |some x=>oG σ x
  |none=>none
noncomputable def bX (ρ:aB):bV->Option (List AV)
 | .nil=>some []
 | .cons e es=>match ev ρ e with
  |some v=>match bX ρ es with
   |some vs=>some (v::vs)
   |none=>none
  |none=>none
noncomputable def cS (ρ:aB):bV->Option Bool
 | .nil=>some true
 | .cons e es=>match ev ρ e with
  |some (.bool true)=>cS ρ es
  |some (.bool false)=>some false
  |_=>none
noncomputable def kU (ρ:aB):bV->Option Bool
 | .nil=>some false
 | .cons e es=>match ev ρ e with
  |some (.bool false)=>kU ρ es
  |some (.bool true)=>some true
  |_=>none
noncomputable def fG (ρ:aB):uk->Option (Option Int)
 | .none=>some none
 | .some e=>match ev ρ e with
  |some (.int i)=>some (some i)
  |_=>none
noncomputable def fF (ρ:aB)(n:Nat):jY->Option (List AV)
 | .cons x it ifs az=>match dU ρ it with
  |some vs=>match(ρ++Zh n none)[x]? with
   |some none=>if vs.length<=100000 then sF (fZ (λv=>match cS ((ρ++Zh n none).set x (some v)) ifs with
    |some true=>g8 ((ρ++Zh n none).set x (some v)) az
    |some false=>some []
    |none=>none) vs)else none
   |_=>none
  |none=>none
 | .done _=>none
noncomputable def g8 (ρ:aB):jY->Option (List AV)
 | .done aD=>(ev ρ aD).map λv=>[v]
 | .cons x it ifs az=>match dU ρ it with
  |some vs=>match ρ[x]? with
   |some none=>if vs.length<=100000 then fZ (λv=>match cS (ρ.set x (some v)) ifs with
    |some true=>g8 (ρ.set x (some v)) az
    |some false=>some []
    |none=>none) vs else none
   |_=>none
  |none=>none
end
end
section
variable {σ:aA}{C:Operator->AV->AV->AV->Prop}{r:AV}
theorem JN {a b:AV}(h6:∀a b x y,aQ σ a=some x->aQ σ b=some y->x.length+y.length<=100000->C .Add a b (.lst (x++y)))(e:(match aQ σ a,aQ σ b with
 |some x,some y=>if x.length+y.length<=100000 then some (AV.lst (x++y))else none
 |_,_=>none)=some r):C .Add a b r:=by
 induction hx:aQ σ a using ae with
 |none=>rw[hx]at e;exact ai e
 |some x =>
  induction hy:aQ σ b using ae with
  |none=>rw[hx,hy]at e;exact ai e
  |some y=>rw[hx,hy]at e;exact bR e λhl e=>aG e (h6 _ _ x y hx hy hl)
theorem JM (h1:∀i j,C .Add (.int i) (.int j) (.int (i+j)))(h2:∀x y,C .Add (.flt x) (.flt y) (.flt (Z8 x y)))(h3:∀i y,hJ i=true->C .Add (.int i) (.flt y) (.flt (Z8 (jaQ i) y)))
 (h4:∀x y,x.length+y.length<=100000->C .Add (.str x) (.str y) (.str (x++y))) (h5:∀x y,x.length+y.length<=100000->C .Add (.tup x) (.tup y) (.tup (x++y)))
 (h6:∀a b x y,aQ σ a=some x->aQ σ b=some y->x.length+y.length<=100000->C .Add a b (.lst (x++y))) {a b:AV} (e:dE σ .Add a b=some r):C .Add a b r:=by
 induction a using AV.casesOn with
 |int i =>
  induction b using AV.casesOn with
  |int j=>exact aG e (h1 i j)
  |flt y=>exact bR e λhf e=>aG e (h3 i y hf)
  |_=>exact ai e
 |flt x =>
  induction b using AV.casesOn with
  |flt y=>exact aG e (h2 x y)
  |_=>exact ai e
 |str x =>
  induction b using AV.casesOn with
  |str y=>exact bR e λhl e=>aG e (h4 x y hl)
  |_=>exact ai e
 |tup x =>
  induction b using AV.casesOn with
  |tup y=>exact bR e λhl e=>aG e (h5 x y hl)
  |_=>exact ai e
 |_=>exact JN h6 e
theorem JQ {op:Operator}{a b:AV}(Ph:∀a b,dE σ .Add a b=some r->C .Add a b r)
 (h1:∀i j,C .Sub (.int i) (.int j) (.int (i-j))) (h2:∀i j,(small i||small j)=true->C .Mult (.int i) (.int j) (.int (i*j))) (h3:∀i j,¬(j=0\/(!small j)=true)->C .FloorDiv (.int i) (.int j) (.int (i.fdiv j)))
 (h4:∀i j,¬j=0->C .Mod (.int i) (.int j) (.int (i.fmod j))) (h5:∀i j,0<=j/\j<=1000/\small i=true->C .Pow (.int i) (.int j) (.int (i^j.toNat))) (h6:∀i j,0<=j/\j<=1000000/\Bu i=true->C .LShift (.int i) (.int j) (.int (i*2^j.toNat)))
 (h7:∀i j,0<=j/\j<=1000000->C .RShift (.int i) (.int j) (.int (i.fdiv (2^j.toNat)))) (h8:∀i j,C .BitXor (.int i) (.int j) (.int (jfT i j)))
 (h9:∀i j,¬(j=0\/jdW (Z9 (decide (i<0) != decide (j<0)) i.natAbs j.natAbs)=true)->C .Div (.int i) (.int j) (.flt (Z9 (decide (i<0) != decide (j<0)) i.natAbs j.natAbs)))
 (lT:∀x y,¬Z7 y=true->C .Div (.flt x) (.flt y) (.flt (jab x y))) (kZ:∀x y,C .Sub (.flt x) (.flt y) (.flt (ZF x y))) (sG:∀x j,hJ j=true->C .Sub (.flt x) (.int j) (.flt (ZF x (jaQ j))))
 (sH:∀x y,C .Mult (.flt x) (.flt y) (.flt (jaF x y))) (k0:∀x y,¬Z7 y=true->C .Mod (.flt x) (.flt y) (.flt (jdB x y).2)) (e:dE σ op a b=some r):C op a b r:=by
 induction op using jdD with
 |Add=>exact Ph a b e
 |Sub =>
  induction a using AV.casesOn with
  |int i =>
   induction b using AV.casesOn with
   |int j=>exact aG e (h1 i j)
   |_=>exact ai e
  |flt x =>
   induction b using AV.casesOn with
   |int j=>exact bR e λhf e=>aG e (sG x j hf)
   |flt y=>exact aG e (kZ x y)
   |_=>exact ai e
  |_=>exact ai e
 |Mult =>
  induction a using AV.casesOn with
  |int i =>
   induction b using AV.casesOn with
   |int j=>exact bR e λhf e=>aG e (h2 i j hf)
   |_=>exact ai e
  |flt x =>
   induction b using AV.casesOn with
   |flt y=>exact aG e (sH x y)
   |_=>exact ai e
  |_=>exact ai e
 |Mod =>
  induction a using AV.casesOn with
  |int i =>
   induction b using AV.casesOn with
   |int j=>exact mG e λhf e=>aG e (h4 i j hf)
   |_=>exact ai e
  |flt x =>
   induction b using AV.casesOn with
   |flt y=>exact mG e λhf e=>aG e (k0 x y hf)
   |_=>exact ai e
  |_=>exact ai e
 |Div =>
  induction a using AV.casesOn with
  |int i =>
   induction b using AV.casesOn with
   |int j=>exact mG e λhf e=>aG e (h9 i j hf)
   |_=>exact ai e
  |flt x =>
   induction b using AV.casesOn with
   |flt y=>exact mG e λhf e=>aG e (lT x y hf)
   |_=>exact ai e
  |_=>exact ai e
 |FloorDiv =>
  induction a using AV.casesOn with
  |int i =>
   induction b using AV.casesOn with
   |int j=>exact mG e λhf e=>aG e (h3 i j hf)
   |_=>exact ai e
  |_=>exact ai e
 |Pow =>
  induction a using AV.casesOn with
  |int i =>
   induction b using AV.casesOn with
   |int j=>exact bR e λhf e=>aG e (h5 i j hf)
   |_=>exact ai e
  |_=>exact ai e
 |LShift =>
  induction a using AV.casesOn with
  |int i =>
   induction b using AV.casesOn with
   |int j=>exact bR e λhf e=>aG e (h6 i j hf)
   |_=>exact ai e
  |_=>exact ai e
 |RShift =>
  induction a using AV.casesOn with
  |int i =>
   induction b using AV.casesOn with
   |int j=>exact bR e λhf e=>aG e (h7 i j hf)
   |_=>exact ai e
  |_=>exact ai e
 |BitXor =>
  induction a using AV.casesOn with
  |int i =>
   induction b using AV.casesOn with
   |int j=>exact aG e (h8 i j)
   |_=>exact ai e
  |_=>exact ai e
 |_=>exact ai e
end
section
variable {σ:aA}{r:Bool}
theorem xW {C:AV->AV->Bool->Prop}{a b:AV}(h1:∀i j,C (.int i) (.int j) (decide (i=j)))(h2:∀x y,(jac x x==some .eq)=true->C (.flt x) (.flt y) (jac x y==some .eq))(h3:∀x j,C (.flt x) (.int j) (jbC x j==some .eq))
 (h4:∀i y,C (.int i) (.flt y) (jbC y i==some .eq)) (h5:∀x y,C (.str x) (.str y) (decide (x=y))) (e:cJ a b=some r):C a b r:=by
 induction a using AV.casesOn with
 |int i =>
  induction b using AV.casesOn with
  |int j=>exact aG e (h1 i j)
  |flt y=>exact aG e (h4 i y)
  |_=>exact ai e
 |flt x =>
  induction b using AV.casesOn with
  |flt y=>exact bR e λh e=>aG e (h2 x y h)
  |int j=>exact aG e (h3 x j)
  |_=>exact ai e
 |str x =>
  induction b using AV.casesOn with
  |str y=>exact aG e (h5 x y)
  |_=>exact ai e
 |_=>exact ai e
theorem Ml {C:AV->AV->Bool->Prop}{a b:AV}(h2:∀a b as bs r,aQ σ a=some as->aQ σ b=some bs->as.length=bs.length->eN cJ as bs=some r->C a b r)
 (h3:∀a b as bs,aQ σ a=some as->aQ σ b=some bs->¬as.length=bs.length->C a b false) (h4:∀a b r,cJ a b=some r->C a b r) (e:(match aQ σ a with
 |some as=>match aQ σ b with
  |some bs=>if as.length=bs.length then eN cJ as bs else some false
  |none=>none
 |none=>cJ a b)=some r):C a b r:=by
 induction hx:aQ σ a using ae with
 |none=>rw[hx]at e;exact h4 a b r e
 |some as =>
  induction hy:aQ σ b using ae with
  |none=>rw[hx,hy]at e;exact ai e
  |some bs =>
   rw[hx,hy]at e;have e:(if as.length=bs.length then eN cJ as bs else some false)=some r:=e;by_cases h:as.length=bs.length
   ·rw[if_pos h]at e;exact h2 a b as bs r hx hy h e
   ·rw[if_neg h]at e;exact aG e (h3 a b as bs hx hy h)
theorem C0 {C:AV->AV->Bool->Prop}{a b:AV}(h1:∀as bs r,as.length=bs.length->eN cJ as bs=some r->C (.tup as) (.tup bs) r)(h2:∀a b as bs r,aQ σ a=some as->aQ σ b=some bs->as.length=bs.length->eN cJ as bs=some r->C a b r)
 (h3:∀a b as bs,aQ σ a=some as->aQ σ b=some bs->¬as.length=bs.length->C a b false) (h4:∀a b r,cJ a b=some r->C a b r) (e:jB σ a b=some r):C a b r:=by
 induction a using AV.casesOn with
 |tup as =>
  induction b using AV.casesOn with
  |tup bs=>exact bR e λh e=>h1 as bs r h e
  |_=>exact ai e
 |_ =>
  induction b using AV.casesOn with
  |tup bs=>exact ai e
  |_=>exact Ml h2 h3 h4 e
theorem GL {i:Int}{vs:List AV}{Q:Bool->Prop}(e:nh i vs=some r)(k:∀is,cQ vs=some is->Q (is.any (·==i))):Q r:=by
 refine au (Zs.mp e) λis h e=>?_;exact e▸k is h
theorem K0 {C:CmpOp->AV->AV->Bool->Prop}{op:CmpOp}{a b:AV}(h1:∀a b r,jB σ a b=some r->C .Eq a b r)(h2:∀a b r,jB σ a b=some r->C .NotEq a b (!r))(h3:∀i j,C .Lt (.int i) (.int j) (decide (i<j)))(h4:∀i j,C .LtE (.int i) (.int j) (decide (i<=j)))
 (h5:∀i j,C .Gt (.int i) (.int j) (decide (j<i))) (h6:∀i j,C .GtE (.int i) (.int j) (decide (j<=i))) (h7:∀x y,C .LtE (.flt x) (.flt y) (jac x y==some .lt||jac x y==some .eq)) (h8:∀x y,C .Is (.bool x) (.bool y) (x==y)) (h9:∀x y,C .IsNot (.bool x) (.bool y) (!(x==y)))
 (lT:∀x,C .In (.str x) .tok (cA.lookup x).isSome) (kZ:∀i l vs is,aQ σ l=some vs->cQ vs=some is->C .In (.int i) l (is.any (·==i))) (sG:∀i l vs is,aQ σ l=some vs->cQ vs=some is->C .NotIn (.int i) l (!is.any (·==i))) (e:j4 σ op a b=some r):C op a b r:=by
 induction op using PySem.CmpOp.casesOn with
 |Eq=>exact h1 a b r e
 |NotEq=>exact lP (f:=(!·)) e λq h=>h2 a b q h
 |Lt =>
  induction a using AV.casesOn with
  |int i =>
   induction b using AV.casesOn with
   |int j=>exact aG e (h3 i j)
   |_=>exact ai e
  |_=>exact ai e
 |LtE =>
  induction a using AV.casesOn with
  |int i =>
   induction b using AV.casesOn with
   |int j=>exact aG e (h4 i j)
   |_=>exact ai e
  |flt x =>
   induction b using AV.casesOn with
   |flt y=>exact aG e (h7 x y)
   |_=>exact ai e
  |_=>exact ai e
 |Gt =>
  induction a using AV.casesOn with
  |int i =>
   induction b using AV.casesOn with
   |int j=>exact aG e (h5 i j)
   |_=>exact ai e
  |_=>exact ai e
 |GtE =>
  induction a using AV.casesOn with
  |int i =>
   induction b using AV.casesOn with
   |int j=>exact aG e (h6 i j)
   |_=>exact ai e
  |_=>exact ai e
 |Is =>
  induction a using AV.casesOn with
  |bool x =>
   induction b using AV.casesOn with
   |bool y=>exact aG e (h8 x y)
   |_=>exact ai e
  |_=>exact ai e
 |IsNot =>
  induction a using AV.casesOn with
  |bool x =>
   induction b using AV.casesOn with
   |bool y=>exact aG e (h9 x y)
   |_=>exact ai e
  |_=>exact ai e
 |In =>
  induction a using AV.casesOn with
  |int i =>
   have e:(match aQ σ b with|some vs=>nh i vs|none=>none)=some r:=by cases b<;>exact e
   induction hl:aQ σ b using ae with
   |none=>rw[hl]at e;exact ai e
   |some vs=>rw[hl]at e;exact GL e λis h=>kZ i b vs is hl h
  |str x =>
   induction b using AV.casesOn with
   |tok=>exact aG e (lT x)
   |_=>exact ai e
  |_=>exact ai e
 |NotIn =>
  induction a using AV.casesOn with
  |int i =>
   have e:(match aQ σ b with|some vs=>(nh i vs).map (!·)|none=>none)=some r:=e
   induction hl:aQ σ b using ae with
   |none=>rw[hl]at e;exact ai e
   |some vs=>rw[hl]at e;exact lP (f:=(!·)) e λq h=>GL (Q:=λq=>C .NotIn (.int i) b (!q)) h λis h=>sG i b vs is hl h
  |_=>exact ai e
theorem Xk {C:UnaryOp->AV->AV->Prop}{op:UnaryOp}{a r:AV}(h1:∀i,C .USub (.int i) (.int (-i)))(h2:∀i,C .Invert (.int i) (.int (-i-1)))(h3:∀b,C .Not (.bool b) (.bool (!b)))(e:qV op a=some r):C op a r:=by
 induction op using jfJ with
 |USub =>
  induction a using AV.casesOn with
  |int i=>exact aG e (h1 i)
  |_=>exact ai e
 |Invert =>
  induction a using AV.casesOn with
  |int i=>exact aG e (h2 i)
  |_=>exact ai e
 |Not =>
  induction a using AV.casesOn with
  |bool b=>exact aG e (h3 b)
  |_=>exact ai e
 |_=>exact ai e
end
section
variable {σ:aA}{C:List AV->AV->Prop}{as:List AV}{r:AV}
theorem qz {a:AV}{F:List AV->Option AV}{Q:Prop}(e:(match aQ σ a with|some vs=>F vs|none=>none)=some r)(k:∀vs,aQ σ a=some vs->F vs=some r->Q):Q:=by
 induction h:aQ σ a using ae with
 |none=>rw[h]at e;exact ai e
 |some vs=>rw[h]at e;exact k vs h e
theorem Ab {vs:List AV}{F:List Int->Option AV}{Q:Prop}(e:(match cQ vs with|some is=>F is|none=>none)=some r)(k:∀is,cQ vs=some is->F is=some r->Q):Q:=by
 induction h:cQ vs using ae with
 |none=>rw[h]at e;exact ai e
 |some is=>rw[h]at e;exact k is h e
theorem Ks (h1:∀cs,cs.length<=100000->C [.str cs] (.int cs.length))(h2:∀es,es.length<=100000->C [.dct es] (.int es.length))(h3:∀l vs,aQ σ l=some vs->vs.length<=100000->C [l] (.int vs.length))(e:rR σ as=some r):C as r:=by
 induction as using Y2 with
 |nil=>exact ai e
 |cons a as =>
  have hl:(match aQ σ a with|some vs=>fL vs.length|none=>none)=some r->C [a] r:=λe=>qz e λvs hv e=>bR e λhl e=>aG e (h3 a vs hv hl)
  induction as using Y2 with
  |cons b as=>cases a<;>exact ai e
  |nil =>
   induction a using AV.casesOn with
   |str cs=>exact bR e λhl e=>aG e (h1 cs hl)
   |dct es=>exact bR e λhl e=>aG e (h2 es hl)
   |_=>exact hl e
theorem KC (h:∀l vs is,aQ σ l=some vs->cQ vs=some is->is.all (λi=>decide (0<=i))=true->em is<2^53->C [l] (.int (em is)))(e:xA σ as=some r):C as r:=by
 induction as using Y2 with
 |nil=>exact ai e
 |cons a as =>
  induction as using Y2 with
  |cons b as=>exact ai e
  |nil =>
   refine qz (F:=λvs=>(tO vs).map .int) e λvs hv e=>lP e λi hi=>?_;unfold tO at hi
   induction hs:cQ vs using ae with
   |none=>rw[hs]at hi;exact ai hi
   |some is=>rw[hs]at hi;exact bR hi λhc e=>aG (Q:=λi=>C [a] (.int i)) e (h a vs is hv hs hc.1 hc.2)
theorem Ku (h1:∀i j,C [.int i,.int j] (.int (if i<j then j else i)))(h2:∀x y z,C [.flt x,.flt y,.flt z] (.flt (if gK z (if gK y x then y else x)then z else(if gK y x then y else x))))(h3:∀l vs i js,aQ σ l=some vs->cQ vs=some (i::js)->C [l] (.int (gz i js)))(e:xx σ as=some r):C as r:=by
 induction as using Y2 with
 |nil=>exact ai e
 |cons a as =>
  induction as using Y2 with
  |nil =>
   have e:(match aQ σ a with
    |some vs=>match cQ vs with
     |some (i::js)=>some (.int (gz i js))
     |_=>none
    |none=>none)=some r:=by cases a<;>exact e
   refine qz (F:=λvs=>match cQ vs with|some (i::js)=>some (.int (gz i js))|_=>none) e λvs hv e=>?_
   induction hs:cQ vs using ae with
   |none=>rw[hs]at e;exact ai e
   |some is =>
    rw[hs]at e
    induction is using Y2 with
    |nil=>exact ai e
    |cons i js=>exact aG e (h3 a vs i js hv hs)
  |cons b as =>
   induction a using AV.casesOn with
   |int i =>
    induction b using AV.casesOn with
    |int j =>
     induction as using Y2 with
     |nil=>exact aG e (h1 i j)
     |cons=>exact ai e
    |_=>exact ai e
   |flt x =>
    induction b using AV.casesOn with
    |flt y =>
     induction as using Y2 with
     |nil=>exact ai e
     |cons c as =>
      induction c using AV.casesOn with
      |flt z =>
       induction as using Y2 with
       |nil=>exact aG e (h2 x y z)
       |cons=>exact ai e
      |_=>exact ai e
    |_=>exact ai e
   |_=>exact ai e
theorem Kw (h1:∀i j,C [.int i,.int j] (.int (if j<i then j else i)))(h2:∀x y z,C [.flt x,.flt y,.flt z] (.flt (if gL z (if gL y x then y else x)then z else(if gL y x then y else x))))(e:xy as=some r):C as r:=by
 induction as using Y2 with
 |nil=>exact ai e
 |cons a as =>
  induction as using Y2 with
  |nil=>cases a<;>exact ai e
  |cons b as =>
   induction a using AV.casesOn with
   |int i =>
    induction b using AV.casesOn with
    |int j =>
     induction as using Y2 with
     |nil=>exact aG e (h1 i j)
     |cons=>exact ai e
    |_=>exact ai e
   |flt x =>
    induction b using AV.casesOn with
    |flt y =>
     induction as using Y2 with
     |nil=>exact ai e
     |cons c as =>
      induction c using AV.casesOn with
      |flt z =>
       induction as using Y2 with
       |nil=>exact aG e (h2 x y z)
       |cons=>exact ai e
      |_=>exact ai e
    |_=>exact ai e
   |_=>exact ai e
theorem Ky (h:∀c,C [.str [c]] (.int c))(e:xz as=some r):C as r:=by
 induction as using Y2 with
 |nil=>exact ai e
 |cons a as =>
  induction a using AV.casesOn with
  |str cs =>
   induction cs using Y2 with
   |nil=>exact ai e
   |cons c cs =>
    induction cs using Y2 with
    |cons=>exact ai e
    |nil =>
     induction as using Y2 with
     |nil=>exact aG e (h c)
     |cons=>exact ai e
  |_=>exact ai e
theorem Kb (h:∀i,0<=i/\i<=0x10FFFF->C [.int i] (.str [i.toNat]))(e:xu as=some r):C as r:=by
 induction as using Y2 with
 |nil=>exact ai e
 |cons a as =>
  induction a using AV.casesOn with
  |int i =>
   induction as using Y2 with
   |nil=>exact bR e λhc e=>aG e (h i hc)
   |cons=>exact ai e
  |_=>exact ai e
theorem Kl (h:∀x jS m ex,jcp x=.fin jS m ex->C [.flt x] (.int (jes jS m ex)))(e:rQ as=some r):C as r:=by
 induction as using Y2 with
 |nil=>exact ai e
 |cons a as =>
  induction a using AV.casesOn with
  |flt x =>
   induction as using Y2 with
   |cons=>exact ai e
   |nil =>
    have e:(match jcp x with | .fin jS m e=>some (.int (jes jS m e))|_=>none)=some r:=e;cases hd:jcp x with
    |fin jS m ex=>rw[hd]at e;exact aG e (h x jS m ex hd)
    |_=>rw[hd]at e;exact ai e
  |_=>exact ai e
theorem Ke (h:∀i j,¬(j=0\/(!small j)=true)->C [.int i,.int j] (.tup [.int (i.fdiv j),.int (i.fmod j)]))(e:xw as=some r):C as r:=by
 induction as using Y2 with
 |nil=>exact ai e
 |cons a as =>
  induction a using AV.casesOn with
  |int i =>
   induction as using Y2 with
   |nil=>exact ai e
   |cons b as =>
    induction b using AV.casesOn with
    |int j =>
     induction as using Y2 with
     |nil=>exact mG e λhc e=>aG e (h i j hc)
     |cons=>exact ai e
    |_=>exact ai e
  |_=>exact ai e
theorem Kn (h:∀i,C [.int i] (.bool false))(e:uF as=some r):C as r:=by
 induction as using Y2 with
 |nil=>exact ai e
 |cons a as =>
  induction a using AV.casesOn with
  |int i =>
   induction as using Y2 with
   |nil=>exact aG e (h i)
   |cons=>exact ai e
  |_=>exact ai e
theorem Kp (h:∀i,C [.int i] (.bool true))(e:uG as=some r):C as r:=by
 induction as using Y2 with
 |nil=>exact ai e
 |cons a as =>
  induction a using AV.casesOn with
  |int i =>
   induction as using Y2 with
   |nil=>exact aG e (h i)
   |cons=>exact ai e
  |_=>exact ai e
theorem Cg (h:∀i,C [.int i] (.int (Zm i)))(e:uD as=some r):C as r:=by
 induction as using Y2 with
 |nil=>exact ai e
 |cons a as =>
  induction a using AV.casesOn with
  |int i =>
   induction as using Y2 with
   |nil=>exact aG e (h i)
   |cons=>exact ai e
  |_=>exact ai e
theorem US {C:List AV->List Int->Prop}{is:List Int}(h1:∀b is,fQ 0 b 1=some is->C [.int b] is)(h2:∀a b is,fQ a b 1=some is->C [.int a,.int b] is)(h3:∀a b c is,fQ a b c=some is->C [.int a,.int b,.int c] is)(e:nr as=some is):C as is:=by
 induction as using Y2 with
 |nil=>exact ai e
 |cons a as =>
  induction a using AV.casesOn with
  |int a =>
   induction as using Y2 with
   |nil=>exact h1 a is e
   |cons b as =>
    induction b using AV.casesOn with
    |int b =>
     induction as using Y2 with
     |nil=>exact h2 a b is e
     |cons c as =>
      induction c using AV.casesOn with
      |int c =>
       induction as using Y2 with
       |nil=>exact h3 a b c is e
       |cons=>exact ai e
      |_=>exact ai e
    |_=>exact ai e
  |_=>exact ai e
theorem RH {a:AV}{i:Int}(h2:∀l i vs is (k:Nat),aQ σ l=some vs->cQ vs=some is->is.findIdx? (·==i)=some k->k<=100000->C [l,.int i] (.int k))(e:(match aQ σ a with
 |some vs=>match cQ vs with
  |some is=>match is.findIdx? (·==i)with
   |some k=>if k<=100000 then some (.int k)else none
   |none=>none
  |none=>none
 |none=>none)=some r):C [a,.int i] r :=
 qz e λvs hv e=>Ab (F:=λis=>match is.findIdx? (·==i)with
  |some k=>if k<=100000 then some (.int k)else none
  |none=>none) e λis hs e=>by
  induction hk:is.findIdx? (·==i)using ae with
  |none=>rw[hk]at e;exact ai e
  |some k=>rw[hk]at e;exact bR e λhc e=>aG e (h2 a i vs is k hv hs hk hc)
theorem Kj (h1:∀x y k az,jau (bq x) (bq y) 0 (bq x).length 1=k::az->C [.str x,.str y] (.int k))(h2:∀l i vs is (k:Nat),aQ σ l=some vs->cQ vs=some is->is.findIdx? (·==i)=some k->k<=100000->C [l,.int i] (.int k))(e:nN σ as=some r):C as r:=by
 induction as using Y2 with
 |nil=>exact ai e
 |cons a as =>
  induction as using Y2 with
  |nil=>cases a<;>exact ai e
  |cons b as =>
   induction b using AV.casesOn with
   |int i =>
    induction as using Y2 with
    |nil=>cases a<;>exact RH h2 e
    |cons=>cases a<;>exact ai e
   |str y =>
    induction a using AV.casesOn with
    |str x =>
     induction as using Y2 with
     |cons=>exact ai e
     |nil =>
      have e:(match jau (bq x) (bq y) 0 (bq x).length 1 with|k::_=>some (.int k) | []=>none)=some r:=e
      induction ho:jau (bq x) (bq y) 0 (bq x).length 1 using Y2 with
      |nil=>rw[ho]at e;exact ai e
      |cons k az=>rw[ho]at e;exact aG e (h1 x y k az ho)
    |_=>exact ai e
   |_=>cases a<;>exact ai e
theorem Ci (h:∀x y,C [.str x,.str y] (.int (match jau (bq x) (bq y) 0 (bq x).length 1 with|k::_=>(k:Int) | []=>-1)))(e:mC as=some r):C as r:=by
 induction as using Y2 with
 |nil=>exact ai e
 |cons a as =>
  induction a using AV.casesOn with
  |str x =>
   induction as using Y2 with
   |nil=>exact ai e
   |cons b as =>
    induction b using AV.casesOn with
    |str y =>
     induction as using Y2 with
     |nil=>exact aG e (h x y)
     |cons=>exact ai e
    |_=>exact ai e
  |_=>exact ai e
theorem Ck (h:∀l vs xs,aQ σ l=some vs->ip vs=some xs->xs.flatten.length<=100000->C [.str [],l] (.str xs.flatten))(e:uH σ as=some r):C as r:=by
 induction as using Y2 with
 |nil=>exact ai e
 |cons a as =>
  induction a using AV.casesOn with
  |str x =>
   induction x using Y2 with
   |cons=>exact ai e
   |nil =>
    induction as using Y2 with
    |nil=>exact ai e
    |cons l as =>
     induction as using Y2 with
     |cons=>exact ai e
     |nil =>
      refine qz (F:=λvs=>match ip vs with
       |some xs=>if xs.flatten.length<=100000 then some (.str xs.flatten)else none
       |none=>none) e λvs hv e=>?_
      induction hs:ip vs using ae with
      |none=>rw[hs]at e;exact ai e
      |some xs=>rw[hs]at e;exact bR e λhc e=>aG e (h l vs xs hv hs hc)
  |_=>exact ai e
theorem Cm (h:∀x,((bq x).length<=100000/\(jcA (bq x) ((bq x).length+1)).length<=100000/\(jcA (bq x) ((bq x).length+1)==[(0,(bq x).length)])=false)->C [.str x] (.lst ((wordsOf (bq x)).map λy=>.str y.cps.toList)))(e:rS as=some r):C as r:=by
 induction as using Y2 with
 |nil=>exact ai e
 |cons a as =>
  induction a using AV.casesOn with
  |str x =>
   induction as using Y2 with
   |nil=>exact bR e λhc e=>aG e (h x hc)
   |cons=>exact ai e
  |_=>exact ai e
theorem Ch (h:∀l i vs is,aQ σ l=some vs->cQ vs=some is->C [l,.int i] (.int (is.countP (·==i))))(e:pE σ as=some r):C as r:=by
 induction as using Y2 with
 |nil=>exact ai e
 |cons a as =>
  induction as using Y2 with
  |nil=>exact ai e
  |cons b as =>
   induction b using AV.casesOn with
   |int i =>
    induction as using Y2 with
    |nil=>exact qz e λvs hv e=>Ab e λis hs e=>aG e (h a i vs is hv hs)
    |cons=>exact ai e
   |_=>exact ai e
theorem Cj (h1:∀x d,C [.tok,.str x,d] (match cA.lookup x with|some k=>.int k|none=>d))(h2:∀j k d es,gH σ (.ref j)=some es->C [.ref j,.int k,d] (match es.lookup k with|some v=>v|none=>d))(e:uE σ as=some r):C as r:=by
 induction as using Y2 with
 |nil=>exact ai e
 |cons a as =>
  induction a using AV.casesOn with
  |tok =>
   induction as using Y2 with
   |nil=>exact ai e
   |cons b as =>
    induction b using AV.casesOn with
    |str x =>
     induction as using Y2 with
     |nil=>exact ai e
     |cons d as =>
      induction as using Y2 with
      |nil=>exact aG e (h1 x d)
      |cons=>exact ai e
    |_=>exact ai e
  |ref j =>
   induction as using Y2 with
   |nil=>exact ai e
   |cons b as =>
    induction b using AV.casesOn with
    |int k =>
     induction as using Y2 with
     |nil=>exact ai e
     |cons d as =>
      induction as using Y2 with
      |cons=>exact ai e
      |nil =>
       have e:(match gH σ (.ref j)with
        |some es=>some (match es.lookup k with|some v=>v|none=>d)
        |none=>none)=some r:=e
       induction hd:gH σ (.ref j)using ae with
       |none=>rw[hd]at e;exact ai e
       |some es=>rw[hd]at e;exact aG e (h2 j k d es hd)
    |_=>exact ai e
  |_=>exact ai e
theorem Rp {C:AV->AV->AV->Prop}{a:AV}{k:Int}(h3:∀a k vs j r,aQ σ a=some vs->fO k vs.length=some j->vs[j]?=some r->C a (.int k) r)(h4:∀a k es r,gH σ a=some es->es.lookup k=some r->C a (.int k) r)(e:(match aQ σ a with
 |some vs=>(fO k vs.length).bind λj=>vs[j]?
 |none=>match gH σ a with
  |some es=>es.lookup k
  |none=>none)=some r):C a (.int k) r:=by
 induction hv:aQ σ a using ae with
 |some vs=>rw[hv]at e;exact pN e λj hj e=>h3 a k vs j r hv hj e
 |none =>
  rw[hv]at e
  induction hd:gH σ a using ae with
  |none=>rw[hd]at e;exact ai e
  |some es=>rw[hd]at e;exact h4 a k es r hd e
theorem Rq {C:AV->AV->AV->Prop}{a i:AV}(h1:∀vs k j r,fO k vs.length=some j->vs[j]?=some r->C (.tup vs) (.int k) r)(h2:∀cs k j c,fO k cs.length=some j->cs[j]?=some c->C (.str cs) (.int k) (.str [c]))
 (h3:∀a k vs j r,aQ σ a=some vs->fO k vs.length=some j->vs[j]?=some r->C a (.int k) r) (h4:∀a k es r,gH σ a=some es->es.lookup k=some r->C a (.int k) r) (e:m8 σ a i=some r):C a i r:=by
 induction i using AV.casesOn with
 |int k =>
  induction a using AV.casesOn with
  |tup vs=>exact pN e λj hj e=>h1 vs k j r hj e
  |str cs=>exact pN e λj hj e=>lP e λc hc=>h2 cs k j c hj hc
  |_=>exact Rp h3 h4 e
 |_=>cases a<;>exact ai e
end
def lK:Operator->AV->AV->Bool
 | .FloorDiv,.int _,.int _=>true
 | .Add,.str _,.str _=>true
 |_,_,_=>false
def lS (σ:aA)(j:Nat):Option AV:=match σ[j]? with
 |some (.list vs)=>aZ [] 6 (.lst vs)
 |some (.dict es)=>aZ [] 6 (.dct es)
 |_=>none
inductive Fl where
 |next (ρ:aB) (σ:aA)
 |ret (v:AV)
def pP:bV->Bool
 | .nil=>true
 | .cons (.list .nil) es=>pP es
 |_=>false
def bV.len:bV->Nat
 | .nil=>0
 | .cons _ es=>es.len+1
def dictPut (es:List (Int×AV))(k:Int)(v:AV):List (Int×AV):=
 if es.any (λe=>decide (e.1=k))then es.map (λe=>if e.1=k then(e.1,v)else e)else es++[(k,v)]
def eQ (f:aB->aA->AV->Option Fl):List AV->aB->aA->Option Fl
 | [],ρ,σ=>some (.next ρ σ)
 |v::vs,ρ,σ=>match f ρ σ v with
  |some (.next av an)=>eQ f vs av an
  |some (.ret r)=>some (.ret r)
  |none=>none
def jr (c:aB->aA->Option AV)(f:aB->aA->Option Fl):Nat->aB->aA->Option Fl
 |0,_,_=>none
 |n+1,ρ,σ=>match c ρ σ with
  |some (.bool true)=>match f ρ σ with
   |some (.next av an)=>jr c f n av an
   |some (.ret r)=>some (.ret r)
   |none=>none
  |some (.bool false)=>some (.next ρ σ)
  |_=>none
section
variable (Φ:cX)
def oR (ρ:aB)(σ:aA):Ex->Option (AV×aA)
 | .list es=>if pP es&&decide (0<es.len/\es.len<=1000)then
  some (.ref (σ.length+es.len),σ++Zh es.len (.list [])++[.list ((Y7 es.len).map λj=>.ref (σ.length+j))])
  else match bX Φ σ ρ es with
   |some vs=>if vs.length<=100000 then some (.ref σ.length,σ++[.list vs])else none
   |none=>none
 | .dict .nil .nil=>some (.ref σ.length,σ++[.dict []])
 | .comp n gs=>match fF Φ σ ρ n gs with
  |some vs=>some (.ref σ.length,σ++[.list vs])
  |none=>none
 |_=>none
def gq (ρ:aB)(σ:aA)(wA:Bool)(e:Ex):Option (AV×aA):=
 if wA then oR Φ ρ σ e else(ev Φ σ ρ e).map (·,σ)
def eO (ρ:aB):aA->List (Nat×Bool)->bV->Option (List AV×aA)
 | σ,[],.nil=>some ([],σ)
 | σ,x::xs,.cons e es=>match gq Φ ρ σ x.2 e with
  |some (v,an)=>match eO ρ an xs es with
   |some (vs,iv)=>some (v::vs,iv)
   |none=>none
  |none=>none
 |_,_,_=>none
def eC (ρ:aB):List Nat->List AV->Option aB
 | [],[]=>some ρ
 |x::xs,v::vs=>eC (ρ.set x (some v)) xs vs
 |_,_=>none
def lQ (ρ:aB)(σ:aA)(it:It):Option (List AV):=
 match it with
 | .val e=>match ev Φ σ ρ e with
  |some (.ref _)=>none
  |some x=>oG σ x
  |none=>none
 | .rev e=>match ev Φ σ ρ e with
  |some (.lst vs)=>some vs.reverse
  |_=>none
 | .range as=>dU Φ σ ρ (.range as)
mutual
noncomputable def cU (ρ:aB)(σ:aA):St->Option Fl
 | .asg x th e=>match gq Φ ρ σ th e with
  |some (v,an)=>some (.next (ρ.set x (some v)) an)
  |none=>none
 | .unp xs e=>match ev Φ σ ρ e with
  |some (.tup vs)=>(eC ρ xs vs).map (.next · σ)
  |_=>none
 | .asgT xs es=>match eO Φ ρ σ xs es with
  |some (vs,an)=>(eC ρ (xs.map (·.1)) vs).map (.next · an)
  |none=>none
 | .aug x op e=>match ρ[x]? with
  |some (some old)=>match ev Φ σ ρ e with
   |some v=>match old with
    | .ref i=>match op,σ[i]?,aQ σ v with
     | .Add,some (.list xs),some ys=>if xs.length+ys.length<=100000 then some (.next ρ (σ.set i (.list (xs++ys))))else none
     |_,_,_=>none
    |old=>if lK op old v then(match dE σ op old v with
     |some r=>some (.next (ρ.set x (some r)) σ)
     |none=>none)else none
   |none=>none
  |_=>none
 | .app o e=>match ev Φ σ ρ o with
  |some (.ref i)=>match ev Φ σ ρ e with
   |some v=>match σ[i]? with
    |some (.list xs)=>if xs.length<=100000 then(match v with
     | .ref j=>if i=j then none else match lS σ j with
      |some r=>some (.next ρ ((σ.set j .gone).set i (.list (xs++[r]))))
      |none=>none
     |v=>some (.next ρ (σ.set i (.list (xs++[v])))))else none
    |_=>none
   |none=>none
  |_=>none
 | .rev o=>match ev Φ σ ρ o with
  |some (.ref i)=>match σ[i]? with
   |some (.list xs)=>if xs.length<=100000 then some (.next ρ (σ.set i (.list xs.reverse)))else none
   |_=>none
  |_=>none
 | .put x k v=>match ev Φ σ ρ v with
  |some wd=>if wd.scalar then(match ρ[x]? with
   |some (some (.ref i))=>match ev Φ σ ρ k with
    |some (.int k)=>match σ[i]? with
     |some (.dict es)=>if es.length<=100000 then some (.next ρ (σ.set i (.dict (dictPut es k wd))))else none
     |_=>none
    |_=>none
   |_=>none)else none
  |none=>none
 | .ife c a b=>match ev Φ σ ρ c with
  |some (.bool true)=>aE ρ σ a
  |some (.bool false)=>aE ρ σ b
  |_=>none
 | .for_ x it body=>match lQ Φ ρ σ it with
  |some vs=>eQ (λρ σ v=>aE (ρ.set x (some v)) σ body) vs ρ σ
  |none=>none
 | .while_ c body=>jr (λρ σ=>ev Φ σ ρ c) (λρ σ=>aE ρ σ body) 100 ρ σ
 | .ret e=>match ev Φ σ ρ e with
  |some v=>(aZ σ 6 v).map .ret
  |none=>none
 | .bad=>none
noncomputable def aE (ρ:aB)(σ:aA):dw->Option Fl
 | .nil=>some (.next ρ σ)
 | .cons s ss=>match cU ρ σ s with
  |some (.next av an)=>aE av an ss
  |some (.ret v)=>some (.ret v)
  |none=>none
end
end
structure dC where
 nargs:Nat
 nvars:Nat
 body:dw
def oN (Φ:cX)(d:dC)(as:List AV):Option AV :=
 if as.length=d.nargs then
  match aE Φ (as.map some++Zh (d.nvars-d.nargs) none) [] d.body with
  |some (.ret v)=>some v
  |_=>none
 else none
def nP (gb:cX)(fns:Nat->Option dC):Nat->cX
 |0=>λY Y=>none
 |n+1=>λk as=>match fns k with
  |some d=>oN (nP gb fns n) d as
  |none=>gb k as
def qd (kw:List Str):Stmt->dC
 | .FunctionDef _ a b _ _ _ sc _ _ _ =>
  let ps:=a.args.map (·.arg);let vs:=ps++(eB sc).filter λx=>!ps.contains x
  ⟨ps.length,vs.length,et { names:=sc.names,vars:=vs.zipIdx,next:=vs.length } kw b⟩
 |_=>⟨0,0,.cons .bad .nil⟩
theorem Ig:bg T []=.nil:=rfl
theorem tY:bg T (e::es)=.cons (ao T e) (bg T es):=rfl
theorem WQ:mi T none=.none:=rfl
theorem WR:mi T (some e)=.some (ao T e):=rfl
theorem gO {f:α->Option β}:bj f (a::as) =
 match f a with
 |some b =>
  match bj f as with
  |some bs=>some (b::bs)
  |none=>none
 |none=>none:=rfl
theorem yR:aZ σ (n+1) (.ref i) =
 match σ[i]? with
 |some (.list vs)=>Z' .lst (bj (aZ σ n) vs)
 |some (.dict es)=>Z' .dct (bj (λe=>Z' (λx=>(e.fst,x)) (aZ σ n e.snd)) es)
 |x=>none:=rfl
theorem OE:aZ σ (n+1) (.lst vs)=Z' .lst (bj (aZ σ n) vs):=rfl
theorem OF:aZ σ (n+1) (.dct es) =
 Z' .dct (bj (λe=>Z' (λx=>(e.fst,x)) (aZ σ n e.snd)) es):=rfl
theorem r8:eN eq (a::as) (b::bs) =
 match eq a b with
 |some r =>
  match eN eq as bs with
  |some q=>some (r&&q)
  |none=>none
 |none=>none:=rfl
theorem u5 {f:α->Option (List β)}:fZ f (a::as) =
 match f a with
 |some bs =>
  match fZ f as with
  |some cs=>some (bs++cs)
  |none=>none
 |none=>none:=rfl
theorem Bj:em []=0:=rfl
theorem wy:em (i::is)=i+em is:=rfl
theorem Tc:gz i []=i:=rfl
theorem Td:gz i (FV::is)=gz (if i<FV then FV else i) is:=rfl
theorem tG:gP a c (n+1)=a::gP (a+c) c n:=rfl
theorem V0:ip (.str i::vs)=Z' (λx=>i::x) (ip vs):=rfl
theorem Nu:bV.len (.cons e es)=bV.len es+1:=rfl
theorem yK:eQ f (v::vs) y x =
 match f y x v with
 |some (.next av an)=>eQ f vs av an
 |some (.ret r)=>some (.ret r)
 |none=>none:=rfl
theorem Bt:jr c f (n+1) y x =
 match c y x with
 |some (.bool true) =>
  match f y x with
  |some (.next av an)=>jr c f n av an
  |some (.ret r)=>some (.ret r)
  |none=>none
 |some (.bool false)=>some (.next y x)
 |x=>none:=rfl
theorem De:gq Φ ρ σ wA e=if wA=true then oR Φ ρ σ e else Z' (λx=>(x,σ)) (ev Φ σ ρ e):=rfl
theorem Ds:ev Φ σ ρ (.c v)=xM v:=rfl
theorem Dw:ev Φ σ ρ (.var i) =
 match ρ[i]? with
 |some v=>v
 |none=>none:=rfl
theorem Dx:ev Φ σ ρ (.bin op a b) =
 match ev Φ σ ρ a with
 |some x =>
  match ev Φ σ ρ b with
  |some y=>dE σ op x y
  |none=>none
 |none=>none:=rfl
theorem yk:ev Φ σ ρ (.un op a) =
 match ev Φ σ ρ a with
 |some x=>qV op x
 |none=>none:=rfl
theorem Dy:ev Φ σ ρ (.cmp op a b) =
 match ev Φ σ ρ a with
 |some x =>
  match ev Φ σ ρ b with
  |some y=>Z' .bool (j4 σ op x y)
  |none=>none
 |none=>none:=rfl
theorem uV:ev Φ σ ρ (.and es)=Z' .bool (cS Φ σ ρ es):=rfl
theorem yl:ev Φ σ ρ (.or es)=Z' .bool (kU Φ σ ρ es):=rfl
theorem ym:ev Φ σ ρ (.ite c a b) =
 match ev Φ σ ρ c with
 |some (.bool true)=>ev Φ σ ρ a
 |some (.bool false)=>ev Φ σ ρ b
 |x=>none:=rfl
theorem Dt:ev Φ σ ρ (.list es) =
 match bX Φ σ ρ es with
 |some vs=>if jaP vs<=100000 then some (.lst vs)else none
 |none=>none:=rfl
theorem Du:ev Φ σ ρ (.tup es) =
 match bX Φ σ ρ es with
 |some vs=>if jaP vs<=100000 then some (.tup vs)else none
 |none=>none:=rfl
theorem Nd:ev Φ σ ρ (.dict (.cons k .nil) (.cons v .nil)) =
 match ev Φ σ ρ k with
 |some (.int i) =>
  match ev Φ σ ρ v with
  |some x=>if x.scalar=true then some (.dct [(i,x)])else none
  |none=>none
 |x=>none:=rfl
theorem Dv:ev Φ σ ρ (.idx a i) =
 match ev Φ σ ρ a with
 |some x =>
  match ev Φ σ ρ i with
  |some y=>m8 σ x y
  |none=>none
 |none=>none:=rfl
theorem pX:ev Φ σ ρ (.slice a lo hi) =
 match ev Φ σ ρ a with
 |some x =>
  match fG Φ σ ρ lo with
  |some l =>
   match fG Φ σ ρ hi with
   |some h=>qQ σ x l h
   |none=>none
  |none=>none
 |none=>none:=rfl
theorem kW:ev Φ σ ρ (.call f as) =
 match bX Φ σ ρ as with
 |some vs=>nQ Φ σ f vs
 |none=>none:=rfl
theorem yj:ev Φ σ ρ (.comp n gs)=Z' .lst (fF Φ σ ρ n gs):=rfl
theorem Dz:bX Φ σ ρ .nil=some []:=rfl
theorem mM:bX Φ σ ρ (.cons e es) =
 match ev Φ σ ρ e with
 |some v =>
  match bX Φ σ ρ es with
  |some vs=>some (v::vs)
  |none=>none
 |none=>none:=rfl
theorem x0:fF Φ σ ρ n (.cons i it ifs az) =
 match dU Φ σ ρ it with
 |some vs =>
  match(ρ++Zh n none)[i]? with
  |some none =>
   if jaP vs<=100000 then
    sF
     (fZ
      (λv =>
       match cS Φ σ (jcq (ρ++Zh n none) i (some v)) ifs with
       |some true=>g8 Φ σ (jcq (ρ++Zh n none) i (some v)) az
       |some false=>some []
       |none=>none)
      vs)
   else none
  |x=>none
 |none=>none:=rfl
theorem MT:g8 Φ σ ρ (.done aD)=Z' (λv=>[v]) (ev Φ σ ρ aD):=rfl
theorem C9:g8 Φ σ ρ (.cons i it ifs az) =
 match dU Φ σ ρ it with
 |some vs =>
  match ρ[i]? with
  |some none =>
   if jaP vs<=100000 then
    fZ
     (λv =>
      match cS Φ σ (jcq ρ i (some v)) ifs with
      |some true=>g8 Φ σ (jcq ρ i (some v)) az
      |some false=>some []
      |none=>none)
     vs
   else none
  |x=>none
 |none=>none:=rfl
theorem Dc:fG Φ σ ρ .none=some none:=rfl
theorem pQ:fG Φ σ ρ (.some e) =
 match ev Φ σ ρ e with
 |some (.int i)=>some (some i)
 |x=>none:=rfl
theorem nU:cS Φ σ ρ .nil=some true:=rfl
theorem kT:cS Φ σ ρ (.cons e es) =
 match ev Φ σ ρ e with
 |some (.bool true)=>cS Φ σ ρ es
 |some (.bool false)=>some false
 |x=>none:=rfl
theorem Dd:kU Φ σ ρ .nil=some false:=rfl
theorem pR:kU Φ σ ρ (.cons e es) =
 match ev Φ σ ρ e with
 |some (.bool false)=>kU Φ σ ρ es
 |some (.bool true)=>some true
 |x=>none:=rfl
theorem r9:dU Φ σ ρ (.range as) =
 match bX Φ σ ρ as with
 |some vs=>Z' (λis=>jfy .int is) (nr vs)
 |none=>none:=rfl
theorem sb:dU Φ σ ρ (.val e) =
 match ev Φ σ ρ e with
 |some x=>oG σ x
 |none=>none:=rfl
theorem Db:lQ Φ ρ σ (.val e) =
 match ev Φ σ ρ e with
 |some (.ref i)=>none
 |some x=>oG σ x
 |none=>none:=rfl
theorem MU:lQ Φ ρ σ (.rev e) =
 match ev Φ σ ρ e with
 |some (.lst vs)=>some (List.reverse vs)
 |x=>none:=rfl
theorem yu:cU Φ ρ σ (.asg i th e) =
 match gq Φ ρ σ th e with
 |some (v,an)=>some (.next (jcq ρ i (some v)) an)
 |none=>none:=rfl
theorem DK:cU Φ ρ σ (.unp xs e) =
 match ev Φ σ ρ e with
 |some (.tup vs)=>Z' (λx=>.next x σ) (eC ρ xs vs)
 |x=>none:=rfl
theorem DL:cU Φ ρ σ (.asgT xs es) =
 match eO Φ ρ σ xs es with
 |some (vs,an)=>Z' (λx=>.next x an) (eC ρ (jfy (λx=>x.fst) xs) vs)
 |none=>none:=rfl
theorem yw:cU Φ ρ σ (.aug i op e) =
 match ρ[i]? with
 |some (some old) =>
  match ev Φ σ ρ e with
  |some v =>
   match old with
   | .ref i =>
    match op,σ[i]?,aQ σ v with
    |jiu,some (.list xs),some ys =>
     if jaP xs+jaP ys<=100000 then some (.next ρ (jcq σ i (.list (xs++ys))))
     else none
    |x,x_2,x_3=>none
   |old =>
    if lK op old v=true then
     match dE σ op old v with
     |some r=>some (.next (jcq ρ i (some r)) σ)
     |none=>none
    else none
  |none=>none
 |x=>none:=rfl
theorem yx:cU Φ ρ σ (.app o e) =
 match ev Φ σ ρ o with
 |some (.ref i) =>
  match ev Φ σ ρ e with
  |some v =>
   match σ[i]? with
   |some (.list xs) =>
    if jaP xs<=100000 then
     match v with
     | .ref j =>
      if i=j then none
      else
       match lS σ j with
       |some r=>some (.next ρ (jcq (jcq σ j .gone) i (.list (xs++[r]))))
       |none=>none
     |v=>some (.next ρ (jcq σ i (.list (xs++[v]))))
    else none
   |x=>none
  |none=>none
 |x=>none:=rfl
theorem DM:cU Φ ρ σ (.rev o) =
 match ev Φ σ ρ o with
 |some (.ref i) =>
  match σ[i]? with
  |some (.list xs) =>
   if jaP xs<=100000 then some (.next ρ (jcq σ i (.list (List.reverse xs))))else none
  |x=>none
 |x=>none:=rfl
theorem DN:cU Φ ρ σ (.put i k v) =
 match ev Φ σ ρ v with
 |some wd =>
  if wd.scalar=true then
   match ρ[i]? with
   |some (some (.ref i)) =>
    match ev Φ σ ρ k with
    |some (.int k) =>
     match σ[i]? with
     |some (.dict es) =>
      if jaP es<=100000 then some (.next ρ (jcq σ i (.dict (dictPut es k wd))))else none
     |x=>none
    |x=>none
   |x=>none
  else none
 |none=>none:=rfl
theorem so:cU Φ ρ σ (.ife c a b) =
 match ev Φ σ ρ c with
 |some (.bool true)=>aE Φ ρ σ a
 |some (.bool false)=>aE Φ ρ σ b
 |x=>none:=rfl
theorem DO:cU Φ ρ σ (.for_ i it body) =
 match lQ Φ ρ σ it with
 |some vs=>eQ (λρ σ v=>aE Φ (jcq ρ i (some v)) σ body) vs ρ σ
 |none=>none:=rfl
theorem DI:cU Φ ρ σ (.while_ c body) =
 jr (λρ σ=>ev Φ σ ρ c) (λρ σ=>aE Φ ρ σ body) 100 ρ σ:=rfl
theorem DJ:cU Φ ρ σ (.ret e) =
 match ev Φ σ ρ e with
 |some v=>Z' .ret (aZ σ 6 v)
 |none=>none:=rfl
theorem Nt:aE Φ ρ σ .nil=some (.next ρ σ):=rfl
theorem yy:aE Φ ρ σ (.cons s ss) =
 match cU Φ ρ σ s with
 |some (.next av an)=>aE Φ av an ss
 |some (.ret v)=>some (.ret v)
 |none=>none:=rfl
theorem GY {Q:Prop}(h:bV.nil=.cons e es):Q:=absurd (congrArg bV.len h) (Nat.succ_ne_zero _).symm
def F8 (e:Ex):Prop:=Ex.casesOn (motive_1:=λY=>Prop) e (λY=>False) (λY=>False) (λY=>False) (λY Y Y=>False) (λY Y=>False) (λY Y Y=>False) (λY=>False) (λY=>False) (λY Y Y=>False) (λY=>False) (λY=>False) (λY Y=>False) (λY Y=>False) (λY Y Y=>False) (λY Y=>False) (λY Y=>False) True
theorem TD {Q:Prop}(h:Ex.bad=.comp n gs):Q:=False.elim (show F8 (.comp n gs)from h▸(trivial:F8 .bad))
theorem LL (h:σ[j]?=some (.dict es)):gH σ (.ref j)=some es:=by
 delta gH;dsimp only;rw[h]
theorem Ap (h:σ[j]?=some (.list vs)):aQ σ (.ref j)=some vs:=by
 delta aQ;dsimp only;rw[h]
theorem Sr (e:aQ σ (.ref j)=some vs):σ[j]?=some (.list vs):=by
 delta aQ at e;dsimp only at e
 induction hq:σ[j]? using ae with
 |none=>rw[hq]at e;exact ai e
 |some o =>
  rw[hq]at e
  induction o using AO.casesOn with
  |list us=>exact congrArg (λx=>some (AO.list x)) (Y3 e)
  |_=>exact ai e
theorem wl {k n:Nat}(h:k<n)(hn:n<=100000):fO (k:Int) n=some k:=by
 unfold fO;have:hJ (k:Int)=true:=decide_eq_true (by rw[ZR];exact bf h (Y1 hn (by decide)));refine aa (if_pos this) ?_;unfold jfs;simp only[if_neg (Int.not_lt.mpr (Zi k))];refine aa (if_pos (show(decide (0<=(k:Int))&&decide ((k:Int)<n))=true by rw[decide_eq_true (Zi k),decide_eq_true (jbB.mpr h)];rfl)) ?_;rfl
theorem A3 {M:Model}{Γ:Ctx}{p:Pos}{t:Sem Fin}{fs:List Frame}{s s':Y4}{e:End}(h:Runs M Γ p t fs s e s'):s.heap.objs.size<=s'.heap.objs.size:=by
 induction h<;>(try simp only[Shared.setGen,jiA,ZP]at *)<;>omega
theorem XE {M:Model}{Γ:Ctx}{p:Pos}{g:Nat}{r:Resume}{s s':Y4}{res:GenResult}(h:Wakes M Γ p g r s res s'):s.heap.objs.size<=s'.heap.objs.size:=by
 delta Wakes at h
 induction hg:s.gens[g]? using ae with
 |none=>rw[hg]at h;exact h.elim
 |some st =>
  rw[hg]at h
  induction st using GenState.casesOn with
  |fresh c =>
   induction r using Resume.casesOn with
   |throw x=>refine aa h.2 ?_;exact Y5 _
   |send v =>
    induction v using jgB with
    |none=>refine n4 h ?_;rintro n8 ak hr _ _ rfl;exact(A3 hr:(s.setGen g .running).heap.objs.size<=ak.heap.objs.size)
    |_=>refine aa h.2 ?_;exact Y5 _
  |suspended=>refine n4 h ?_;rintro n8 ak hr _ _ rfl;exact(A3 hr:(s.setGen g .running).heap.objs.size<=ak.heap.objs.size)
  |_=>refine aa h.2 ?_;exact Y5 _
theorem XO {α:Type}(M:Model)(Γ:Ctx)(n:Nat)(t:Sem α):∀(Q:α->Pos->Y4->Prop) (E:Value->Pos->Y4->Prop) (p:Pos) (s:Y4),n<=s.heap.objs.size->Sem.wp M Γ t Q E p s ->
 Sem.wp M Γ t (λa p' s'=>n<=s'.heap.objs.size/\Q a p' s') (λe p' s'=>n<=s'.heap.objs.size/\E e p' s') p s:=by
 induction t with
 |pure a=>intro Q E p s hn h;exact⟨hn,h⟩
 |raise e=>intro Q E p s hn h;exact⟨hn,h⟩
 |unsupported _=>intro Q E p s _ h;exact h
 |finish _=>intro Q E p s _ h;exact h
 |rule _ k ih=>intro Q E p s hn h;exact ih () Q E p s hn h
 | «at» p' k ih=>intro Q E p s hn h;exact ih () Q E p' s hn h
 |load a _ k ih=>intro Q E p s hn h;refine au h λo ho h=>?_;exact⟨o,ho,ih o Q E p s hn h⟩
 |update a _ f k ih=>intro Q E p s hn h;exact⟨h.1,ih () Q E p _ (by simp only[jiA];exact hn) h.2⟩
 |loadIfAlive a k ih=>intro Q E p s hn h;exact ih _ Q E p s hn h
 |point _ k ih=>intro Q E p s hn h;exact ih () Q E p s hn h
 |register _ _=>intro Q E p s _ h;exact h
 |alloc o k ih=>intro Q E p s hn h;exact ih _ Q E p _ (by simp only[ZP];exact jcF hn) h
 |fresh k ih=>intro Q E p s hn h;exact ih _ Q E p { s with toks:=s.toks+1 } hn h
 |ask k ih=>intro Q E p s hn h;exact ih _ Q E p s hn h
 |choose src m k ih=>intro Q E p s hn h;exact⟨h.1,ih _ Q E p _ hn h.2⟩
 |os q _ k ih=>intro Q E p s hn h;exact ih _ Q E p _ hn h
 |call c hd _ _ k ih=>intro Q E p s hn h;refine bB h λr s' hr h=>?_;exact⟨r,s',hr,ih r Q E p s' (Y1 hn (A3 hr)) h⟩
 |handled own k ih=>intro Q E p s hn h;exact ih _ Q E p s hn h
 |genState g k ih=>intro Q E p s hn h;refine au h λst hs h=>?_;exact⟨st,hs,ih _ Q E p s hn h⟩
 |newGen c k ih=>intro Q E p s hn h;exact ih _ Q E p _ hn h
 |resume g r _ k ih=>intro Q E p s hn h;refine bB h λres s' hw h=>?_;exact⟨res,s',hw,ih res Q E p s' (Y1 hn (XE hw)) h⟩
 |yield _ _ _ _=>intro Q E p s _ h;exact h
 |stack k ih=>intro Q E p s hn h;exact ih _ Q E p s hn h
 |fork _ _=>intro Q E p s _ h;exact h
 |thread k ih=>intro Q E p s hn h;exact ih _ Q E p s hn h
 |await _ _ _ _ _=>intro Q E p s _ h;exact h
structure Up (s s':Y4):Prop where
 size:s.heap.objs.size<=s'.heap.objs.size
 toks:s.toks<=s'.toks
theorem XN {α:Type}{M:Model}{A:ZV}{s:Y4}{t:Sem α}{Q:α->Y4->Prop}{E:Value->Y4->Prop}{n:Nat}(hn:n<=s.heap.objs.size)(h:Y' M A t Q E s):
 Y' M A t (λa s'=>n<=s'.heap.objs.size/\Q a s') (λe s'=>n<=s'.heap.objs.size/\E e s') s :=
 λΓ p Q8=>XO M Γ n t _ _ p s hn (h Γ p Q8)
theorem eF {α:Type}{M:Model}{A:ZV}{s:Y4}{t:Sem α}{Q:α->Y4->Prop}{E:Value->Y4->Prop}(h:Y' M A t (λa s'=>Up s s'->Q a s') (λe s'=>Up s s'->E e s') s):Y' M A t Q E s :=
 jar (wpAny_toks_of (Y5 s.toks) (XN (Y5 s.heap.objs.size) h)) (λY Y x=>x.2.2 ⟨x.2.1,x.1⟩) λY Y x=>x.2.2 ⟨x.2.1,x.1⟩
end
section
open PySem PySem.W PyProof.Rows
set_option backward.match.sparseCases true
abbrev ax:Value->Y4->Prop:=λY Y=>False
abbrev ce (h h':jak):Prop:=∀b o,h.get? b=some o->h'.get? b=some o
theorem ce.refl (h:jak):ce h h:=λY Y e=>e
theorem ce.trans {h h' hV:jak}(x:ce h h')(y:ce h' hV):ce h hV:=λb o e=>y b o (x b o e)
theorem AG {h:jak}{a:Ze}(e:h.objs.size<=a):h.get? a=none:=by
 induction q:h.get? a using ae with
 |none=>rfl
 |some o=>exact absurd (Zu q) (ZW.mpr e)
theorem Keeps.refl (s:Y4):Keeps s s:=⟨s.heap,s.toks,rfl,λY Y e=>e⟩
theorem Keeps.trans {s s' cO:Y4}(x:Keeps s s')(y:Keeps s' cO):Keeps s cO:=by
 refine bB x ?_;rintro h t rfl k;refine bB y ?_;rintro h' t' rfl k';exact⟨h',t',rfl,λb o e=>k' b o (k b o e)⟩
theorem Keeps.ext {s s':Y4}(x:Keeps s s'):ce s.heap s'.heap:=by
 refine bB x ?_;rintro h t rfl k;exact k
section up
variable {α:Type}{M:Model}{A:ZV}{s:Y4}
theorem up {t:Sem α}{P Q:α->Y4->Prop}{E:Value->Y4->Prop}(h:Y' M A t P ax s)(hQ:∀a s',P a s'->Q a s'):Y' M A t Q E s :=
 jar h hQ λY Y x=>x.elim
end up
abbrev Gh:=Tok->UInt64->Prop
mutual
inductive VR (tk:Ze) (φ:Gh) (h:jak) (β:List Ze) (P:Ze->Prop):AV->Value->Prop
 |none:VR tk φ h β P .none .none
 |bool (b:Bool):VR tk φ h β P (.bool b) (.bool b)
 |int (i:Int) (t:Tok):VR tk φ h β P (.int i) (.int i t)
 |flt (x:UInt64) (t:Tok) (ht:φ t x):VR tk φ h β P (.flt x) (.float x t)
 |str (cs:List Nat) (t:Tok):VR tk φ h β P (.str cs) (.str ⟨cs.toArray⟩ t)
 |tup {vs:List AV}{a:Ze}{xs:List Value} (e:jgn h a xs.toArray) (p:P a) (r:ar tk φ h β P vs xs):VR tk φ h β P (.tup vs) (.ref a)
 |lst {vs:List AV}{a:Ze}{xs:List Value} (e:h.PlainList a xs.toArray) (p:P a) (r:ar tk φ h β P vs xs):VR tk φ h β P (.lst vs) (.ref a)
 |dct {vs:List AV}{ks:List Int}{a:Ze}{xs:List Value} (e:h.DictOf (jap af wd) a (ks.zip xs)) (p:P a) (hl:ks.length=vs.length) (r:ar tk φ h β P vs xs):VR tk φ h β P (.dct (ks.zip vs)) (.ref a)
 |ref {i:Nat}{a:Ze} (e:β[i]?=some a):VR tk φ h β P (.ref i) (.ref a)
 |tok:VR tk φ h β P .tok (.ref tk)
inductive ar (tk:Ze) (φ:Gh) (h:jak) (β:List Ze) (P:Ze->Prop):List AV->List Value->Prop
 |nil:ar tk φ h β P [] []
 |cons {v:AV}{x:Value}{vs:List AV}{xs:List Value} (a:VR tk φ h β P v x) (r:ar tk φ h β P vs xs):ar tk φ h β P (v::vs) (x::xs)
end
section
variable {tk:Ze}{φ am:Gh}{h h':jak}{β aH:List Ze}{P P':Ze->Prop}
theorem UA {β aH:List Ze}(hb:β <+: aH){i:Nat}{a:Ze}(e:β[i]?=some a):aH[i]?=some a:=by
 refine aX hb ?_;rintro t rfl;rw[Zt]
 ·exact e
 ·exact(ZA.mp e).1
theorem IsTup.at {a:Ze}{xs:Array Value}(x:jgn h a xs)(e:∀o,h.get? a=some o->h'.get? a=some o):jgn h' a xs:=let⟨o,ho,r⟩:=x;⟨o,e _ ho,r⟩
theorem DictOf.at {a:Ze}{aJ:List (Int×Value)}(x:h.DictOf (jap af wd) a aJ)(e:∀o,h.get? a=some o->h'.get? a=some o):h'.DictOf (jap af wd) a aJ :=
 let⟨o,es,ep,ho,r⟩:=x;⟨o,es,ep,e _ ho,r⟩
theorem VR.mono (kq:∀t x,φ t x->am t x)(hk:∀a o,P a->h.get? a=some o->h'.get? a=some o/\P' a)(hb:β <+: aH){v:AV}{x:Value}(r:VR tk φ h β P v x):VR tk am h' aH P' v x :=
 VR.rec (motive_1:=λv x Y=>VR tk am h' aH P' v x) (motive_2:=λvs xs Y=>ar tk am h' aH P' vs xs) .none .bool .int (λx t ht=>.flt x t (kq t x ht)) .str
  (λe p Y r=>e.elim λo ho=>.tup (IsTup.at e λo ho=>(hk _ o p ho).1) (hk _ o p ho.1).2 r)
  (λe p Y r=>e.elim λn ho=>.lst (e.at λo ho=>(hk _ _ p ho).1) (hk _ _ p ho).2 r)
  (λe p hl Y r=>e.elim λo q=>q.elim λY q=>q.elim λY ho=>.dct (DictOf.at e λo ho=>(hk _ o p ho).1) (hk _ o p ho.1).2 hl r)
  (λe=>.ref (UA hb e)) .tok .nil (λY Y a r=>.cons a r) r
theorem ar.ind {motive:List AV->List Value->Prop}(nil:motive [] [])(cons:∀{v x vs xs},VR tk φ h β P v x->ar tk φ h β P vs xs->motive vs xs->motive (v::vs) (x::xs)){vs:List AV}{xs:List Value}(r:ar tk φ h β P vs xs):motive vs xs :=
 ar.rec (motive_1:=λY Y Y=>True) (motive_2:=λvs xs Y=>motive vs xs) trivial (λY=>trivial) (λY Y=>trivial) (λY Y Y=>trivial) (λY Y=>trivial) (λY Y Y Y=>trivial) (λY Y Y Y=>trivial) (λY Y Y Y Y=>trivial) (λY=>trivial) trivial nil (λa r Y ih=>cons a r ih) r
theorem ar.mono (kq:∀t x,φ t x->am t x)(hk:∀a o,P a->h.get? a=some o->h'.get? a=some o/\P' a)(hb:β <+: aH){vs:List AV}{xs:List Value}(r:ar tk φ h β P vs xs):ar tk am h' aH P' vs xs :=
 r.ind .nil λa Y r=>.cons (a.mono kq hk hb) r
theorem ar.ext (hk:ce h h'){v:List AV}{x:List Value}(r:ar tk φ h β P v x):ar tk φ h' β P v x:=r.mono (λY Y e=>e) (λa o p e=>⟨hk a o e,p⟩) (Zj _)
theorem VR.weak (hk:∀a,P a->P' a){v:AV}{x:Value}(r:VR tk φ h β P v x):VR tk φ h β P' v x:=r.mono (λY Y e=>e) (λa o p e=>⟨e,hk a p⟩) (Zj _)
theorem ar.weak (hk:∀a,P a->P' a){v:List AV}{x:List Value}(r:ar tk φ h β P v x):ar tk φ h β P' v x:=r.mono (λY Y e=>e) (λa o p e=>⟨e,hk a p⟩) (Zj _)
theorem ar.length {vs:List AV}{xs:List Value}(r:ar tk φ h β P vs xs):vs.length=xs.length:=r.ind (motive:=λvs xs=>vs.length=xs.length) rfl λY Y e=>congrArg (·+1) e
theorem ar.get {vs:List AV}{xs:List Value}{i:Nat}{v:AV}(r:ar tk φ h β P vs xs):vs[i]?=some v->∃x,xs[i]?=some x/\VR tk φ h β P v x :=
 r.ind (motive:=λvs xs=>∀i,vs[i]?=some v->∃x,xs[i]?=some x/\VR tk φ h β P v x) (λY e=>ai (jik▸e)) (λa Y ih i e=>by
  induction i using jaw with
  |zero=>exact aN _ rfl (Y3 e▸a)
  |succ i=>exact ih i e) i
theorem ar.getr {vs:List AV}{xs:List Value}{i:Nat}{x:Value}(r:ar tk φ h β P vs xs):xs[i]?=some x->∃v,vs[i]?=some v/\VR tk φ h β P v x :=
 r.ind (motive:=λvs xs=>∀i,xs[i]?=some x->∃v,vs[i]?=some v/\VR tk φ h β P v x) (λY e=>ai (jik▸e)) (λa Y ih i e=>by
  induction i using jaw with
  |zero=>exact aN _ rfl (Y3 e▸a)
  |succ i=>exact ih i e) i
theorem ar.append {vs us:List AV}{xs ys:List Value}(r:ar tk φ h β P vs xs)(q:ar tk φ h β P us ys):ar tk φ h β P (vs++us) (xs++ys):=
 r.ind (motive:=λvs xs=>ar tk φ h β P (vs++us) (xs++ys)) q λa Y ih=>.cons a ih
theorem ar.single {v:AV}{x:Value}(a:VR tk φ h β P v x):ar tk φ h β P [v] [x]:=.cons a .nil
theorem ar.reverse {vs:List AV}{xs:List Value}(r:ar tk φ h β P vs xs):ar tk φ h β P vs.reverse xs.reverse :=
 r.ind (motive:=λvs xs=>ar tk φ h β P vs.reverse xs.reverse) .nil λa Y ih=>by refine aa jbM ?_;refine aa jbM ?_;exact ih.append (.single a)
theorem ar.take {vs:List AV}{xs:List Value}(n:Nat)(r:ar tk φ h β P vs xs):ar tk φ h β P (vs.take n) (xs.take n):=
 r.ind (motive:=λvs xs=>∀n,ar tk φ h β P (vs.take n) (xs.take n)) (λY=>by refine aa jjg ?_;refine aa jjg ?_;exact .nil) (λa Y ih n=>by
  induction n using jaw with
  |zero=>exact .nil
  |succ n=>exact .cons a (ih n)) n
theorem ar.drop {vs:List AV}{xs:List Value}(n:Nat)(r:ar tk φ h β P vs xs):ar tk φ h β P (vs.drop n) (xs.drop n):=
 r.ind (motive:=λvs xs=>∀n,ar tk φ h β P (vs.drop n) (xs.drop n)) (λY=>by refine aa jjh ?_;refine aa jjh ?_;exact .nil) (λa r ih n=>by
  induction n using jaw with
  |zero=>exact .cons a r
  |succ n=>exact ih n) n
def BU (tk:Ze)(φ:Gh)(h:jak)(β:List Ze)(P:Ze->Prop):List AV->List Value->Prop
 | [],xs=>xs=[]
 |v::vs,xs=>∃x ys,xs=x::ys/\VR tk φ h β P v x/\ar tk φ h β P vs ys
theorem ar.uncons {v:AV}{vs:List AV}{xs:List Value}(r:ar tk φ h β P (v::vs) xs):∃x ys,xs=x::ys/\VR tk φ h β P v x/\ar tk φ h β P vs ys :=
 r.ind (motive:=BU tk φ h β P) rfl λa r Y=>⟨_,_,rfl,a,r⟩
theorem ar.unnil {xs:List Value}(r:ar tk φ h β P [] xs):xs=[]:=r.ind (motive:=BU tk φ h β P) rfl λa r Y=>⟨_,_,rfl,a,r⟩
def BS (tk:Ze)(φ:Gh)(h:jak)(β:List Ze)(P:Ze->Prop)(v:AV)(x:Value):Prop:=match v with
 | .none=>x=.none
 | .bool b=>x=.bool b
 | .int i=>∃t,x=.int i t
 | .flt y=>∃t,x=.float y t/\φ t y
 | .str cs=>∃t,x=.str ⟨cs.toArray⟩ t
 | .tup vs=>∃a,x=.ref a/\∃xs:List Value,jgn h a xs.toArray/\P a/\ar tk φ h β P vs xs
 | .lst vs=>∃a,x=.ref a/\∃xs:List Value,h.PlainList a xs.toArray/\P a/\ar tk φ h β P vs xs
 | .dct es=>∃a,x=.ref a/\∃(ks:List Int) (vs:List AV) (xs:List Value),es=ks.zip vs/\ks.length=vs.length/\h.DictOf (jap af wd) a (ks.zip xs)/\P a/\ar tk φ h β P vs xs
 | .ref i=>∃a,x=.ref a/\β[i]?=some a
 | .tok=>x=.ref tk
theorem VR.inv {v:AV}{x:Value}(r:VR tk φ h β P v x):BS tk φ h β P v x :=
 VR.casesOn (motive_1:=λv x Y=>BS tk φ h β P v x) r rfl (λY=>rfl) (λY t=>⟨t,rfl⟩) (λY t ht=>⟨t,rfl,ht⟩) (λY t=>⟨t,rfl⟩) (λe p r=>⟨_,rfl,_,e,p,r⟩) (λe p r=>⟨_,rfl,_,e,p,r⟩) (λe p hl r=>⟨_,rfl,_,_,_,rfl,hl,e,p,r⟩) (λe=>⟨_,rfl,e⟩) rfl
theorem VR.intv {i:Int}{x:Value}(r:VR tk φ h β P (.int i) x):∃t,x=.int i t:=r.inv
section
variable {x:Value}{motive:Value->Prop}
@[elab_as_elim] theorem VR.e_none (r:VR tk φ h β P .none x) (k:motive .none):motive x:=(show x=_ from r.inv)▸k
@[elab_as_elim] theorem VR.e_bool {b:Bool} (r:VR tk φ h β P (.bool b) x) (k:motive (.bool b)):motive x:=(show x=_ from r.inv)▸k
@[elab_as_elim] theorem VR.e_int {i:Int} (r:VR tk φ h β P (.int i) x) (k:∀t,motive (.int i t)):motive x:=jdg r.inv λt e=>e▸k t
@[elab_as_elim] theorem VR.e_flt {y:UInt64} (r:VR tk φ h β P (.flt y) x) (k:∀t,φ t y->motive (.float y t)):motive x:=jdg r.inv λt e=>e.1▸k t e.2
@[elab_as_elim] theorem VR.e_str {cs:List Nat} (r:VR tk φ h β P (.str cs) x) (k:∀t,motive (.str ⟨cs.toArray⟩ t)):motive x:=jdg r.inv λt e=>e▸k t
@[elab_as_elim] theorem VR.e_tup {vs:List AV} (r:VR tk φ h β P (.tup vs) x) (k:∀a (xs:List Value),jgn h a xs.toArray->P a->ar tk φ h β P vs xs->motive (.ref a)):motive x :=
 jdg r.inv λY e=>e.1▸e.2.elim λY q=>k _ _ q.1 q.2.1 q.2.2
@[elab_as_elim] theorem VR.e_lst {vs:List AV} (r:VR tk φ h β P (.lst vs) x) (k:∀a (xs:List Value),h.PlainList a xs.toArray->P a->ar tk φ h β P vs xs->motive (.ref a)):motive x :=
 jdg r.inv λY e=>e.1▸e.2.elim λY q=>k _ _ q.1 q.2.1 q.2.2
@[elab_as_elim] theorem VR.e_dct {es:List (Int×AV)} (r:VR tk φ h β P (.dct es) x) (k:∀a (ks:List Int) (vs:List AV) (xs:List Value),es=ks.zip vs->ks.length=vs.length->h.DictOf (jap af wd) a (ks.zip xs)->P a->ar tk φ h β P vs xs->motive (.ref a)):motive x :=
 jdg r.inv λY e=>e.1▸e.2.elim λY q=>q.elim λY q=>q.elim λY q=>k _ _ _ _ q.1 q.2.1 q.2.2.1 q.2.2.2.1 q.2.2.2.2
@[elab_as_elim] theorem VR.e_ref {i:Nat} (r:VR tk φ h β P (.ref i) x) (k:∀a,β[i]?=some a->motive (.ref a)):motive x:=jdg r.inv λY e=>e.1▸k _ e.2
@[elab_as_elim] theorem VR.e_tok (r:VR tk φ h β P .tok x) (k:motive (.ref tk)):motive x:=(show x=_ from r.inv)▸k
end
section
variable {xs:List Value}{motive:List Value->Prop}{u v z:AV}
@[elab_as_elim] theorem ar.e1 (r:ar tk φ h β P [v] xs) (k:∀x,VR tk φ h β P v x->motive [x]):motive xs:=by
 refine bS r.uncons λx ys e a q=>?_;refine aa e ?_;refine aa q.unnil ?_;exact k x a
@[elab_as_elim] theorem ar.e2 (r:ar tk φ h β P [v,u] xs) (k:∀x y,VR tk φ h β P v x->VR tk φ h β P u y->motive [x,y]):motive xs:=by
 refine bS r.uncons λx ys e a q=>?_;refine aa e ?_;exact q.e1 λy b=>k x y a b
@[elab_as_elim] theorem ar.e3 (r:ar tk φ h β P [v,u,z] xs) (k:∀x y t,VR tk φ h β P v x->VR tk φ h β P u y->VR tk φ h β P z t->motive [x,y,t]):motive xs:=by
 refine bS r.uncons λx ys e a q=>?_;refine aa e ?_;exact q.e2 λy t b c=>k x y t a b c
end
end
inductive OR (tk:Ze) (φ:Gh) (h:jak) (β:List Ze) (P:Ze->Prop):AO->Ze->Prop
 |list {vs:List AV}{a:Ze}{xs:List Value} (e:h.PlainList a xs.toArray) (r:ar tk φ h β P vs xs):OR tk φ h β P (.list vs) a
 |dict {vs:List AV}{ks:List Int}{a:Ze}{xs:List Value} (e:h.DictOf (jap af wd) a (ks.zip xs)) (hl:ks.length=vs.length) (r:ar tk φ h β P vs xs):OR tk φ h β P (.dict (ks.zip vs)) a
section
variable {tk:Ze}{φ:Gh}{h:jak}{β:List Ze}{P:Ze->Prop}
theorem OR.e_list {vs:List AV}{a:Ze}{Q:Prop}(r:OR tk φ h β P (.list vs) a)(k:∀xs:List Value,h.PlainList a xs.toArray->ar tk φ h β P vs xs->Q):Q:=by
 cases r with|list e r=>exact k _ e r
theorem OR.e_dict {es:List (Int×AV)}{a:Ze}{Q:Prop}(r:OR tk φ h β P (.dict es) a)(k:∀(ks:List Int) (vs:List AV) (xs:List Value),es=ks.zip vs->ks.length=vs.length->h.DictOf (jap af wd) a (ks.zip xs)->ar tk φ h β P vs xs->Q):Q:=by
 cases r with|dict e hl r=>exact k _ _ _ rfl hl e r
end
structure GD where
 mg:Str->Option Value
 mb:Str->Option Value
 tok:Ze
 fns:Nat->Option (Str×jay)
 tabs:List (Ze×Ze×Pos×Str)
def GD.X (G:GD)(b:Ze):Prop:=∃t∈G.tabs,t.2.1=b
abbrev qi (t:Ze×Ze×Pos×Str)(c:Ze):Obj:=jdM #[jef t.2.2.1.line,jef t.2.2.1.col,.ref c]
def bz (G:GD)(h:jak):Prop:=∀t∈G.tabs,h.get? t.2.1=some (jdM #[])\/∃c,h.get? t.2.1=some (qi t c)/\h.CodeRec (.ref c) t.2.2.2
def bM (G:GD)(h:jak)(c:Ze):Prop:=∃t∈G.tabs,h.get? t.2.1=some (qi t c)
def nz (x:Str):Option Int:=cA.lookup x.cps.toList
structure bh (G:GD) (h:jak):Prop where
 g:h.Ns Zp G.mg
 b:h.Ns jae G.mb
 stat:h.Ns jei (λY=>none)
 tok:∃f,h.MapOf (strKind af wd) G.tok f/\(∀x k,nz x=some k->∃t,f x=some (.int k t))/\(∀x,nz x=none->f x=none)
 tokMod:(G.tok==jad)=false
 fns:∀k x fd,G.fns k=some (x,fd)->∃a o,G.mg x=some (.ref a)/\h.get? a=some o/\o.data=.func fd/\h.CodeRec fd.code fd.qualname
 heads:∀t∈G.tabs,jfS h t.1 t.2.1
 tabs:bz G h
 bmain:∃bm ob,G.mg "__builtins__" = some (.ref bm)/\bm≠jae/\h.get? bm=some ob/\ob.cls=.type "module" /\ ob.dict=some jae/\ob.data=.plain
 b1:∃a n,G.mg "b1_set" = some (.ref a)/\h.SetOf (jap af wd) a dz n
 b3:∃a f,G.mg "b3_exceptions" = some (.ref a)/\(a==jad)=false/\h.MapOf (jap af wd) a f/\(∀k x,j2 k=some x->∃t,f k=some (.str x t))/\∀k,j2 k=none->f k=none
theorem bz.keeps (x:bz G h)(hk:ce h h'):bz G h':=λt ht=>(x t ht).imp (hk _ _) λ⟨c,a,b⟩=>aN c (hk _ _ a) (b.keeps hk)
theorem bh.lim (x:bh G h):h.NoLimit:=⟨_,x.stat,rfl⟩
theorem bh.booked (x:bh G h):jeV h:=⟨_,x.stat,rfl⟩
theorem MapOf.keeps (hm:h.MapOf (strKind af wd) a f)(hk:ce h h'):h'.MapOf (strKind af wd) a f :=
 let⟨o,es,ep,ho,r⟩:=hm;⟨o,es,ep,hk _ _ ho,r⟩
theorem MapOf.keepsI (hm:h.MapOf (jap af wd) a f)(hk:ce h h'):h'.MapOf (jap af wd) a f :=
 let⟨o,es,ep,ho,r⟩:=hm;⟨o,es,ep,hk _ _ ho,r⟩
theorem SetOf.keeps (hm:h.SetOf (jap af wd) a S n)(hk:ce h h'):h'.SetOf (jap af wd) a S n :=
 let⟨o,es,ep,t,ho,r⟩:=hm;⟨o,es,ep,t,hk _ _ ho,r⟩
theorem bh.keeps (x:bh G h)(hk:ce h h'):bh G h' where
 g:=x.g.keeps hk
 b:=x.b.keeps hk
 stat:=x.stat.keeps hk
 tok:=let⟨f,m,r⟩:=x.tok;⟨f,MapOf.keeps m hk,r⟩
 tokMod:=x.tokMod
 fns:=λk y fd e=>let⟨a,o,h1,h2,h3,h4⟩:=x.fns k y fd e;⟨a,o,h1,hk _ _ h2,h3,h4.keeps hk⟩
 heads:=λt ht=>(x.heads t ht).keeps hk
 tabs:=x.tabs.keeps hk
 bmain:=let⟨bm,ob,h1,h2,h3,r⟩:=x.bmain;⟨bm,ob,h1,h2,hk _ _ h3,r⟩
 b1:=let⟨a,n,h1,h2⟩:=x.b1;⟨a,n,h1,SetOf.keeps h2 hk⟩
 b3:=let⟨a,f,h1,h2,h3,r⟩:=x.b3;⟨a,f,h1,h2,MapOf.keepsI h3 hk,r⟩
structure dD (G:GD):Prop where
 divLimit:∃t,G.mg "_DIV_LIMIT" = some (.int 4000 t)
 ntOffset:∃t,G.mg "NT_OFFSET" = some (.int 256 t)
 endMarker:∃t,G.mg "ENDMARKER" = some (.int 0 t)
 tok:G.mg "EXACT_TOKEN_TYPES" = some (.ref G.tok)
 types:∀x∈(["range","list","int","bool","reversed"]:List String),G.mg (jaT x)=none/\G.mb (jaT x)=some (.type x)
 builtins:∀x∈(["len","sum","max","min","ord","chr","divmod","isinstance"]:List String),G.mg (jaT x)=none/\G.mb (jaT x)=some (.builtin x)
structure bQ (ab:Env) (T:Tb):Prop where
 kind:ab.scope.kind=.function
 loc:∀x,T.names.lookup x=some .local->ab.kindOf x=some .local
 cel:∀x,T.names.lookup x=some .cell->ab.kindOf x=some .cell
 fre:∀x,T.names.lookup x=some .free->ab.kindOf x=some .cell\/ab.kindOf x=some .free
 inj:∀x y c,ab.cells.lookup x=some c->ab.cells.lookup y=some c->x=y
 glob:∀x,T.names.lookup x=some .globalImplicit->ab.kindOf x=some .globalImplicit
 g:ab.globals=Zp
 b:ab.builtins=jae
structure jx (T:Tb):Prop where
 inj:∀x y i,T.var x=some i->T.var y=some i->x=y
 lt:∀x i,T.var x=some i->i<T.next
def nH (ab:Env)(m:Str->Option Value)(h:jak)(x:Str)(v:Value):Prop :=
 (ab.kindOf x=some .local/\m x=some v) \/
 ∃c,ab.cells.lookup x=some c/\(ab.kindOf x=some .cell\/ab.kindOf x=some .free)/\h.IsCell c (some v)
theorem nH.keeps (n:nH ab m h x v)(hk:ce h h'):nH ab m h' x v :=
 n.imp id λ⟨c,e,k,i⟩=>li c e k (i.keeps hk)
structure aW (φ:Gh) (s:Y4):Prop where
 fn:∀t x y,φ t x->φ t y->x=y
 pos:∀t x,φ t x->t≠0
 lt:∀t x,φ t x->t<s.toks
 one:0<s.toks
section
structure bF (s s':Y4):Prop where
 keeps:Keeps s s'
 size:s.heap.objs.size<=s'.heap.objs.size
theorem bF.refl (s:Y4):bF s s:=⟨Keeps.refl s,Y5 _⟩
theorem bF.trans (x:bF s s')(y:bF s' cO):bF s cO:=⟨Keeps.trans x.keeps y.keeps,Y1 x.size y.size⟩
theorem bF.ext (x:bF s s'):ce s.heap s'.heap:=Keeps.ext x.keeps
theorem bF.tok:bF s { s with toks:=t }:=⟨⟨s.heap,t,rfl,λY Y e=>e⟩,Y5 _⟩
structure Go (s:Y4) (φ:Gh) (s':Y4) (am:Gh):Prop where
 grows:bF s s'
 sub:∀t x,φ t x->am t x
 tk:aW am s'
theorem Go.ext (x:Go s φ s' am):ce s.heap s'.heap:=x.grows.ext
theorem Go.trans (x:Go s φ s' am)(y:Go s' am cO kE):Go s φ cO kE:=⟨x.grows.trans y.grows,λt z e=>y.sub t z (x.sub t z e),y.tk⟩
theorem Go.refl (k:aW φ s):Go s φ s φ:=⟨bF.refl s,λY Y e=>e,k⟩
theorem Go.same (k:aW φ s)(g:bF s s')(ht:s.toks<=s'.toks):Go s φ s' φ :=
 ⟨g,λY Y e=>e,k.fn,k.pos,λt x e=>bf (k.lt t x e) ht,bf k.one ht⟩
theorem Go.flt {x:UInt64}(k:aW φ s):Go s φ { s with toks:=s.toks+1 } (λt y=>φ t y\/(t=s.toks/\y=x)):=by
 refine⟨bF.tok,λY Y e=>.inl e,λt a b h1 h2=>?_,λt a h=>?_,λt a h=>?_,jhk _⟩
 ·rcases h1 with h1|⟨h1,rfl⟩<;>rcases h2 with h2|⟨h2,rfl⟩
  ·exact k.fn t a b h1 h2
  ·exact absurd (k.lt t a h1) (by refine aa h2 ?_;exact Zr _)
  ·exact absurd (k.lt t b h2) (by refine aa h1 ?_;exact Zr _)
  ·rfl
 ·rcases h with h|⟨h,_⟩
  ·exact k.pos t a h
  ·refine aa h ?_;exact jaU k.one
 ·rcases h with h|⟨h,_⟩
  ·exact jcW (k.lt t a h)
  ·refine aa h ?_;exact jaj _
end
theorem Hm (h:wn x=true):(x==("__debug__" : Str))=false/\(x==("__classdict__" : Str))=false:=by
 unfold wn at h;rw[Zv]at h;exact⟨by simpa using h.1,by simpa using h.2⟩
theorem Hl {T:Tb}(hx:T.var x=some i):(x==("__debug__" : Str))=false/\(x==("__classdict__" : Str))=false:=by
 refine Hm ?_;unfold Tb.var at hx;split at hx
 ·split at hx
  ·assumption
  ·cases hx
 ·split at hx
  ·assumption
  ·cases hx
 ·split at hx
  ·assumption
  ·cases hx
 ·cases hx
structure Yc (A:ZV) (n:Nat):Prop where
 handled:A.handled=none
 depth:A.depth+n<jdi
 units:A.units+40*(n+1)<jhg
def aK (tk:Ze)(φ:Gh)(s:Y4)(β:List Ze)(P:Ze->Prop)(r:AV):Value->Y4->Prop :=
 λv' s'=>∃am,Go s φ s' am/\VR tk am s'.heap β P r v'
def cr (tk:Ze)(φ:Gh)(h:jak)(β:List Ze)(P:Ze->Prop)(σ:aA):Prop :=
 ∀(i:Nat) (o:AO),σ[i]?=some o->o≠AO.gone->∃a,β[i]?=some a/\OR tk φ h β P o a
def fD (s:Y4)(P:Ze->Prop):Prop:=∀a,s.heap.objs.size<=a->P a
theorem fD.go (F:fD s P)(k:Go s φ s' am):fD s' P:=λa h=>F a (Y1 k.grows.size h)
theorem fA (K:aW φ s):aK tk φ s β P (.int i) (.int i t) { s with toks:=s.toks+1 }:=⟨φ,.same K bF.tok (ZY _),.int _ _⟩
theorem me (K:aW φ s):aK tk φ s β P (.flt x) (.float x s.toks) { s with toks:=s.toks+1 }:=⟨_,.flt K,.flt _ _ (.inr ⟨rfl,rfl⟩)⟩
theorem nu (K:aW φ s)(h:s.toks<=t'):aK tk φ s β P (.str x) (.str ⟨x.toArray⟩ t) { s with toks:=t' }:=⟨φ,.same K bF.tok h,.str _ _⟩
theorem jm (K:aW φ s):aK tk φ s β P (.bool b) (.bool b) s:=⟨φ,.refl K,.bool _⟩
theorem jU (K:aW φ s)(h:VR tk φ s.heap β P r v):aK tk φ s β P r v s:=⟨φ,.refl K,h⟩
theorem bF.push:bF s { s with heap:=s.heap.push o }:=
 ⟨⟨_,s.toks,rfl,λY Y e=>Zd _ e⟩,by simp⟩
theorem bF.pushT:bF s { s with heap:=s.heap.push o,toks:=t }:=
 ⟨⟨_,t,rfl,λY Y e=>Zd _ e⟩,by simp⟩
theorem Ao (O:cr tk φ h β P σ)(e:aQ σ v=some vs)(r:VR tk φ h β P v x):
 ∃a xs,x=.ref a/\h.PlainList a xs.toArray/\ar tk φ h β P vs xs:=by
 cases r with
 |lst e' p r'=>cases e;exact m9 _ _ rfl e' r'
 | @ref i a hb =>
  refine au (O i _ (Sr e) (by simp)) λa' h1 h2=>?_;rw[hb]at h1;cases h1;cases h2 with
  |list e' r'=>exact m9 _ _ rfl e' r'
 |_=>cases e
theorem fx (O:cr tk φ h β P σ)(e:aQ σ v=some vs)(r:VR tk φ h β P v x):
 ∃a xs,x=.ref a/\h.IsList a xs.toArray/\ar tk φ h β P vs xs:=by
 refine bS (Ao O e r) λa xs h1 h2 h3=>?_;exact m9 a xs h1 h2.isList h3
theorem BZ {s:Y4}{vs ws:List Value}(hl:s.heap.IsList l vs.toArray)(hb:s.heap.IsList b ws.toArray)(be:vs.length+ws.length<=jcO)(h:Q (.ref s.heap.objs.size) { s with heap:=s.heap.push { cls:=.type "list",data:=.seq (vs++ws).toArray } }):
 Y' (Zb af wd) A (jej .Add (.ref l) (.ref b)) Q E s:=by
 obtain⟨⟨cls,dd,data,sl⟩,ho,hc,n,hd⟩:=id hl;obtain⟨⟨KZ,rZ,data2,tL⟩,jM,oe,n2,sN⟩:=id hb;simp only at hc hd oe sN;subst hc hd oe sN;have e:vs.toArray++ws.toArray=(vs++ws).toArray:=by simp
 refine jgf ⟨_,ho,rfl⟩ ⟨_,jM,rfl⟩ noFill_list_add seq_list_add PySem.F.slot_list_add PySem.F.entry_list_add (PySem.F.args_list_add_2 _ _) (list_addW l b vs.toArray ws.toArray n n2 dd rZ sl tL (by simpa using be)) ⟨ho,jM,?_⟩;refine aa e ?_;exact h
theorem Je (ht:jgn s.heap t vs.toArray)(hb:jgn s.heap b ws.toArray)(be:vs.length+ws.length<=jcO)(h0:vs=[]->Q (.ref b) s)(h1:ws=[]->Q (.ref t) s)(h2:Q (.ref s.heap.objs.size) { s with heap:=s.heap.push { cls:=.type "tuple",data:=.seq (vs++ws).toArray } }):
 Y' (Zb af wd) A (jej .Add (.ref t) (.ref b)) Q E s:=by
 obtain⟨⟨cls,dd,data,sl⟩,ho,hc,n,hd⟩:=id ht;obtain⟨⟨KZ,rZ,data2,tL⟩,jM,oe,n2,sN⟩:=id hb;simp only at hc hd oe sN;subst hc hd oe sN;have e:vs.toArray++ws.toArray=(vs++ws).toArray:=by simp
 by_cases hv:vs=[]
 ·exact jgf ⟨_,ho,rfl⟩ ⟨_,jM,rfl⟩ jgy jhz jek jdZ (jdP _ _)
   (tuple_addW0 t b vs.toArray ws.toArray n n2 dd rZ sl tL (by simp[hv])) ⟨ho,jM,h0 hv⟩
 ·by_cases hw:ws=[]
  ·exact jgf ⟨_,ho,rfl⟩ ⟨_,jM,rfl⟩ jgy jhz jek jdZ (jdP _ _)
    (tuple_addW1 t b vs.toArray ws.toArray n n2 dd rZ sl tL (by simpa using hv) (by simp[hw])) ⟨ho,jM,h1 hw⟩
  ·refine jgf ⟨_,ho,rfl⟩ ⟨_,jM,rfl⟩ jgy jhz jek jdZ (jdP _ _)
    (tuple_addW2 t b vs.toArray ws.toArray n n2 dd rZ sl tL (by simpa using hv) (by simpa using hw) (by refine aa Zk ?_;refine aa Zk ?_;exact be)) ⟨ho,jM,?_⟩
   refine aa e ?_;exact h2
theorem d9 (h:n<=100000):n<=jcO:=Y1 h (by decide)
theorem oK {xs:List Value}(h:jak):(h.push { cls:=.type "list",data:=.seq xs.toArray }).PlainList h.objs.size xs.toArray:=⟨0,ZZ _ rfl⟩
theorem AB {xs:List Value}(h:jak):jgn (h.push { cls:=.type "tuple",data:=.seq xs.toArray }) h.objs.size xs.toArray:=⟨_,ZZ _ rfl,rfl,0,rfl⟩
theorem AY (K:aW φ s)(F:fD s P)(r:ar tk φ s.heap β P vs xs):
 aK tk φ s β P (.lst vs) (.ref s.heap.objs.size) { s with heap:=s.heap.push { cls:=.type "list",data:=.seq xs.toArray } }:=
 ⟨φ,.same K bF.push (Y5 _),.lst (oK _) (F _ (Y5 _)) (r.ext bF.push.ext)⟩
theorem Hz (K:aW φ s)(F:fD s P)(r:ar tk φ s.heap β P vs xs):
 aK tk φ s β P (.tup vs) (.ref s.heap.objs.size) { s with heap:=s.heap.push { cls:=.type "tuple",data:=.seq xs.toArray } }:=
 ⟨φ,.same K bF.push (Y5 _),.tup (AB _) (F _ (Y5 _)) (r.ext bF.push.ext)⟩
theorem ta (h:small a=true):Zm a<=64:=by
 have h':a.natAbs<2^64:=by simpa [small]using h
 unfold Zm;split
 ·exact jbj _
 ·have cV:a.natAbs≠0:=by intro e;simp_all
  have:=(jeX cV).mpr h';exact this
theorem RJ (h:Bu a=true):Zm a<=4096:=by
 have h':a.natAbs<2^4096:=of_decide_eq_true h;unfold Zm;split
 ·exact jbj _
 ·have cV:a.natAbs≠0:=by intro e;simp_all
  have:=(jeX cV).mpr h';exact this
theorem HV (x y:List Nat):(⟨x.toArray⟩:Str)++⟨y.toArray⟩=⟨(x++y).toArray⟩:=by
 apply jhB;refine aa (jje _ _) ?_;simp
theorem Jd {s:Y4}{vs ws:List AV}(K:aW φ s)(O:cr tk φ s.heap β P σ)(F:fD s P)(ha:aQ σ a=some vs)(hb:aQ σ b=some ws)(aU:vs.length+ws.length<=100000)(ra:VR tk φ s.heap β P a x)(rb:VR tk φ s.heap β P b y):Y' (Zb af wd) A (jej .Add x y) (aK tk φ s β P (.lst (vs++ws))) ax s:=by
 refine bS (fx O ha ra) ?_;rintro l xs rfl h1 r1;refine bS (fx O hb rb) ?_;rintro l' ys rfl h2 r2;exact BZ h1 h2 (d9 (by refine rwj r1.length ?_;refine rwj r2.length ?_;exact aU)) (AY K F (r1.append r2))
theorem yH (h:hJ i=true):i.natAbs<2^53:=by simpa [hJ]using h
theorem qC (h:Q (.float x s.toks) { s with toks:=s.toks+1 }):(Made.float x).post Q s:=h
set_option tactic.hygienic true in
theorem VX (K:aW φ s)(hl:a.length+b.length<=100000)(hQ:∀v s',aK tk φ s β P (.str (a++b)) v s'->Q v s'):
 Y' (Zb af wd) A (jej .Add (.str ⟨a.toArray⟩ x) (.str ⟨b.toArray⟩ y)) Q ax s:=by
 refine PySem.P.add_str ?_;split
 ·rename_i hu;have:=(by simpa [jbH]using hu:a=([]:List Nat))
  subst this;exact hQ _ _ (jU K (.str _ _))
 ·split
  ·rename_i hv;have:=(by simpa [jbH]using hv:b=([]:List Nat))
   subst this;rw[Z2]at hQ;exact hQ _ _ (jU K (.str _ _))
  ·refine aa (HV _ _) ?_;exact⟨by simp only[jbH,Zk,Za];exact d9 hl,hQ _ _ (nu K (ZY _))⟩
theorem Xd (K:aW φ s)(F:fD s P)(hl:xs.length+ys.length<=100000)(ra:VR tk φ s.heap β P (.tup xs) x)(rb:VR tk φ s.heap β P (.tup ys) y):
 Y' (Zb af wd) A (jej .Add x y) (aK tk φ s β P (.tup (xs++ys))) ax s:=by
 refine ra.e_tup λa us ea pa il=>rb.e_tup λb vs eb pb lv=>?_;refine Je ea eb (d9 (by refine rwj il.length ?_;refine rwj lv.length ?_;exact hl)) (λq=>?_) (λq=>?_) (Hz K F (il.append lv))
 ·subst q;refine aa (Z3.mp il.length) ?_;refine aa (jaY _) ?_;exact jU K (.tup eb pb lv)
 ·subst q;refine aa (Z3.mp lv.length) ?_;refine aa (Z2 _) ?_;exact jU K (.tup ea pa il)
theorem Tn (h:(small i||small j)=true):IntMulOk i j:=by
 rcases(jbr _ _).mp h with h|h
 ·exact .of_left (ta h)
 ·exact .of_right (ta h)
theorem HI (h:¬(j=0\/(!small j)=true)):small j=true:=by
 induction q:small j using ZH with
 |true=>rfl
 |false=>exact absurd (.inr (by refine aa q ?_;rfl)) h
theorem Sz (h:small j=true):j.natAbs.log2<64:=by
 have h3:=ta h;unfold Zm at h3;split at h3<;>simp_all<;>exact jiO h3
theorem Uz (h:0<=j/\j<=1000/\small i=true):((Zm i:Nat):Int)*j<=2^27:=by
 have h3:((Zm i:Nat):Int)<=64:=by exact_mod_cast ta h.2.2
 have h4:((Zm i:Nat):Int)*j<=64*j:=Int.mul_le_mul_of_nonneg_right h3 h.1;have h2:=h.2.1;have h5:(2:Int)^27=134217728:=by decide
 lia
theorem JR (hA:A.handled=none)(K:aW φ s)(O:cr tk φ s.heap β P σ)(F:fD s P)(e:dE σ op a b=some r)(ra:VR tk φ s.heap β P a x)(rb:VR tk φ s.heap β P b y):Y' (Zb af wd) A (jej op x y) (aK tk φ s β P r) ax s:=by
 revert x y;refine JQ (C:=λop a b r=>∀{x y:Value},VR tk φ s.heap β P a x->VR tk φ s.heap β P b y->Y' (Zb af wd) A (jej op x y) (aK tk φ s β P r) ax s)
  (λa b e=>JM (C:=λop a b r=>∀{x y:Value},VR tk φ s.heap β P a x->VR tk φ s.heap β P b y->Y' (Zb af wd) A (jej op x y) (aK tk φ s β P r) ax s) ?_ ?_ ?_ ?_ ?_ ?_ e)
  ?_ ?_ ?_ ?_ ?_ ?_ ?_ ?_ ?_ ?_ ?_ ?_ ?_ ?_ e
 ·exact λi j x y ra rb=>ra.e_int λt=>rb.e_int λu=>add_int (fA K)
 ·exact λi j x y ra rb=>ra.e_flt λt Y=>rb.e_flt λu Y=>AutoFloatOps.add_0 (qC (me K))
 ·exact λi j h x y ra rb=>ra.e_int λt=>rb.e_flt λu Y=>add_if_fits (jam (yH h) (by decide +kernel)) (me K)
 ·exact λi j h x y ra rb=>ra.e_str λt=>rb.e_str λu=>VX K h λY Y h=>h
 ·exact λi j h x y ra rb=>Xd K F h ra rb
 ·exact λa b xs ys h1 h2 h3 x y ra rb=>Jd K O F h1 h2 h3 ra rb
 ·exact λi j x y ra rb=>ra.e_int λt=>rb.e_int λu=>sub_int (fA K)
 ·exact λi j h x y ra rb=>ra.e_int λt=>rb.e_int λu=>mul_int (fA K) (Tn h)
 ·exact λi j h x y ra rb=>ra.e_int λt=>rb.e_int λu=>floordiv_int (λq=>h (.inl q)) (fA K) (.inl (jgk (jam (Sz (HI h)) (by decide))))
 ·exact λi j h x y ra rb=>ra.e_int λt=>rb.e_int λu=>mod_int' h (fA K)
 ·exact λi j h x y ra rb=>ra.e_int λt=>rb.e_int λu=>pow_int h.1 (Uz h) (fA K)
 ·exact λi j h x y ra rb=>ra.e_int λt=>rb.e_int λu=>lshift_int h.1 (by have:=RJ h.2.2;have:=h.2.1;lia) (fA K)
 ·exact λi j h x y ra rb=>ra.e_int λt=>rb.e_int λu=>rshift_int h.1 (fA K)
 ·exact λi j x y ra rb=>ra.e_int λt=>rb.e_int λu=>xor_int (fA K)
 ·exact λi j h x y ra rb=>ra.e_int λt=>rb.e_int λu=>AutoIntOps.truediv_2 (λq=>h (.inl (by simpa using q))) (λq=>h (.inr q)) (qC (me K))
 ·exact λi j h x y ra rb=>ra.e_flt λt Y=>rb.e_flt λu Y=>AutoFloatOps.truediv_1 h (qC (me K))
 ·exact λi j x y ra rb=>ra.e_flt λt Y=>rb.e_flt λu Y=>AutoFloatOps.sub_0 (qC (me K))
 ·exact λi j h x y ra rb=>ra.e_flt λt Y=>rb.e_int λu=>sub_fi_sharp hA (λq=>absurd q (Nat.not_le.mpr (jam (yH h) (by decide +kernel)))) λY=>(me K)
 ·exact λi j x y ra rb=>ra.e_flt λt Y=>rb.e_flt λu Y=>AutoFloatOps.mul_0 (qC (me K))
 ·exact λi j h x y ra rb=>ra.e_flt λt Y=>rb.e_flt λu Y=>AutoFloatOps.mod_1 h (qC (me K))
end
section
open PySem PySem.W PyProof.Rows PySem.SeqAt
set_option backward.match.sparseCases true
theorem RcAt.flt_flt (x y:UInt64)(t u:Tok):RcAt A s (.float x t) (.float y u) (jac x y==some .eq):=λaf wd E Q h=>AutoFloatOps.eq_0 (prog:=af) (w:=wd) h
theorem RcAt.flt_int (x:UInt64)(j:Int)(t u:Tok):RcAt A s (.float x t) (.int j u) (jbC x j==some .eq):=λaf wd E Q h=>eq_fi (prog:=af) (w:=wd) h
theorem RcAt.int_flt (x:UInt64)(j:Int)(t u:Tok):RcAt A s (.int j u) (.float x t) (jbC x j==some .eq):=λaf wd E Q h=>eq_if (prog:=af) (w:=wd) h
theorem EqAt.of_rc (cV:(x==y)=false)(hf:∀p t q u,¬(x=.float p t/\y=.float q u))(h:RcAt A s x y b):EqAt A s x y b:=λaf wd E Q hq=>by
 unfold eqBool;refine jaO ?_;rw[if_neg (by refine aa cV ?_;exact Z1)];revert hf
 induction x using jgB with
 |float p t =>
  induction y using jgB with
  |float q u=>exact λhf=>absurd ⟨rfl,rfl⟩ (hf p t q u)
  |_=>exact λY=>Y9 (h af wd E _ (jaJ hq))
 |_=>exact λY=>Y9 (h af wd E _ (jaJ hq))
theorem EqAt.flt_flt (K:aW φ s)(hB:jeV s.heap)(hx:φ t x)(hy:φ u y)(FF:(jac x x==some jgT)=true):
 EqAt A s (.float x t) (.float y u) (jac x y==some .eq):=λaf wd E Q hq=>by
 unfold eqBool;refine jaO ?_;by_cases hab:((jdl x t)==(.float y u))=true
 ·have:jdl x t=.float y u:=eq_of_beq hab;injection this with h1 h2
  subst h1 h2;refine aa (if_pos hab) ?_;rw[FF]at hq;exact Y9 (jeS (Zx hq))
 ·refine aa (if_neg hab) ?_;show Y' _ A (do
   let same <-isSame (.float x t) (.float y u)
   if same=true then pure true else do
    let r <-richCompare .Eq (.float x t) (.float y u)
    truthOfDropped r) Q E s
  have h0:(t==0||u==0)=false:=by
   rw[jeR];exact⟨by simpa using K.pos t x hx,by simpa using K.pos u y hy⟩
  have zQ:(t==u)=false:=by
   induction q:t==u using ZH with
   |false=>rfl
   |true =>
    exfalso;have e:=eq_of_beq q;subst e;have:=K.fn t x y hx hy;subst this;exact hab (beq_self_eq_true _)
  have go:∀b:Bool,(b=true->x=y)->Y' (Zb af wd) A (if b=true then(pure true:Sem Bool)else do
   let r <-richCompare .Eq (.float x t) (.float y u)
   truthOfDropped r) Q E s:=λb hb=>by
   induction b using ZH with
   |true =>
    have:=hb rfl;subst this;rw[FF]at hq;exact Zx hq
   |false=>exact Y9 (RcAt.flt_flt x y t u af wd E _ (jaJ hq))
  refine Y9 (m:=isSame (.float x t) (.float y u)) ?_;show Y' _ A (jis (x==y&&!jeP x) t u) _ E s;unfold jis;refine aa h0 ?_;refine aa (if_neg Z1) ?_;refine aa zQ ?_;refine aa (if_neg Z1) ?_
  induction hc:(x==y&&!jeP x)using ZH with
  |false =>
   simp only[Bool.not_false,if_true];exact Zx (go false λe=>nomatch e)
  |true =>
   have Q5:x=y:=eq_of_beq (jbP.mp hc).1;simp only[Bool.not_true,jcI,if_false];refine Y9 (jhq hB ?_);simp only[jcI,if_false];refine Y9 (jhq hB ?_);simp only[jcI,if_false];exact Y9 (jeS (Y9 (wpAny_askSetting (Zx (go _ λY=>Q5)))))
theorem Be {x y:List Nat}:((⟨x.toArray⟩:Str)==⟨y.toArray⟩)=decide (x=y):=by
 refine rwj (str_beq _ _) ?_;by_cases h:x=y
 ·subst h;simp
 ·refine aa (decide_eq_false h) ?_;simpa using h
theorem Mi {s:Y4}(K:aW φ s)(hB:jeV s.heap)(e:cJ a b=some r)(ra:VR tk φ s.heap β P a x)(rb:VR tk φ s.heap β P b y):EqAt A s x y r :=
 xW (C:=λa b r=>∀{x y:Value},VR tk φ s.heap β P a x->VR tk φ s.heap β P b y->EqAt A s x y r) (λi j x y ra rb=>ra.e_int λt=>rb.e_int λu=>EqAt.int_int _ _ _ _)
  (λi j h x y ra rb=>ra.e_flt λt h1=>rb.e_flt λu h2=>EqAt.flt_flt K hB h1 h2 h) (λi j x y ra rb=>ra.e_flt λt Y=>rb.e_int λu=>EqAt.of_rc rfl (λY Y Y Y h=>nomatch h.2) (RcAt.flt_int _ _ _ _))
  (λi j x y ra rb=>ra.e_int λt=>rb.e_flt λu Y=>EqAt.of_rc rfl (λY Y Y Y h=>nomatch h.1) (RcAt.int_flt _ _ _ _)) (λi j x y ra rb=>ra.e_str λt=>rb.e_str λu=>Be▸EqAt.str_str _ _ _ _) e ra rb
theorem Mj {s:Y4}(e:cJ a b=some r)(ra:VR tk φ s.heap β P a x)(rb:VR tk φ s.heap β P b y):RcAt A s x y r :=
 xW (C:=λa b r=>∀{x y:Value},VR tk φ s.heap β P a x->VR tk φ s.heap β P b y->RcAt A s x y r) (λi j x y ra rb=>ra.e_int λt=>rb.e_int λu=>RcAt.int_int _ _ _ _)
  (λi j h x y ra rb=>ra.e_flt λt h1=>rb.e_flt λu h2=>RcAt.flt_flt _ _ _ _) (λi j x y ra rb=>ra.e_flt λt Y=>rb.e_int λu=>RcAt.flt_int _ _ _ _)
  (λi j x y ra rb=>ra.e_int λt=>rb.e_flt λu Y=>RcAt.int_flt _ _ _ _) (λi j x y ra rb=>ra.e_str λt=>rb.e_str λu=>Be▸RcAt.str_str _ _ _ _) e ra rb
theorem Mk {a b:AV}{as bs:List AV}{r:Bool}{Q:Prop}(h:eN cJ (a::as) (b::bs)=some r)(k:∀r1 r2,cJ a b=some r1->eN cJ as bs=some r2->(r1&&r2)=r->Q):Q:=by
 rw[r8]at h
 induction h1:cJ a b using ae with
 |none=>rw[h1]at h;exact ai h
 |some r1 =>
  induction h2:eN cJ as bs using ae with
  |none=>rw[h1,h2]at h;exact ai h
  |some r2=>rw[h1,h2]at h;exact k r1 r2 h1 h2 (Y3 h)
theorem uO {s:Y4}(K:aW φ s)(hB:jeV s.heap){as:List AV}:∀{bs:List AV}{xs ys:List Value}{r:Bool},as.length=bs.length->eN cJ as bs=some r->ar tk φ s.heap β P as xs->ar tk φ s.heap β P bs ys ->
 ∃e:Nat->Bool,(∀j (h1:j<xs.length) (h2:j<ys.length),EqAt A s xs[j] ys[j] (e j))/\(Y7 xs.length).all e=r:=by
 induction as with
 |nil =>
  intro bs xs ys r hl h ra rb
  induction bs using Y2 with
  |cons=>exact nomatch hl
  |nil =>
   refine aa ra.unnil ?_;exact aN (λY=>true) (λj h1=>absurd h1 (jeE _)) (Y3 h)
 |cons a as ih =>
  intro bs xs ys r hl h ra rb
  induction bs using Y2 with
  |nil=>exact nomatch hl
  |cons b bs =>
   refine bS ra.uncons λx iZ e1 ra UX=>?_;refine bS rb.uncons λy t9 e2 rb UY=>?_;refine aa e1 ?_;refine aa e2 ?_;refine Mk h λr1 r2 h1 h2 e3=>?_;refine au (ih (Z4 hl) h2 UX UY) λe he gx=>?_;refine aN (λj=>match j with|0=>r1|j+1=>e j) (λj OZ O3=>?_) ?_
   ·induction j using jaw with
    |zero=>exact Mi K hB h1 ra rb
    |succ j=>exact he j (jcX OZ) (jcX O3)
   ·refine aa Zo ?_;refine aa jhd ?_;refine aa jch ?_;refine aa List.all_map ?_;refine rwj e3 ?_;refine rwj gx ?_;rfl
theorem ny {xs:List Value}(h:j<xs.toArray.size):xs.toArray[j]=xs[j]'(by simpa using h):=by simp
theorem Mn {A:ZV}{s:Y4}(K:aW φ s)(hB:jeV s.heap)(O:cr tk φ s.heap β P σ)(hu:A.units<jhg)(e:jB σ a b=some r)(ra:VR tk φ s.heap β P a x)(rb:VR tk φ s.heap β P b y):RcAt A s x y r:=by
 refine C0 (C:=λa b r=>∀{x y:Value},VR tk φ s.heap β P a x->VR tk φ s.heap β P b y->RcAt A s x y r) ?_ ?_ ?_ (λa b r e x y=>Mj e) e ra rb
 ·refine λas bs r hl e x y ra rb=>ra.e_tup λa us ea pa il=>rb.e_tup λb vs eb pb lv=>?_;refine au (uO (A:=A.in1) K hB hl e il lv) λef he gx=>?_;have:=RcAt.tuples (A:=A) (s:=s) (e:=ef) ea eb hu (λj h1 h2=>by refine aa (ny h1) ?_;refine aa (ny h2) ?_;exact he j _ _);rw[Zk,Zk,<-il.length,<-lv.length,hl,jhm,beq_self_eq_true,jfl]at this;rw[<-il.length,hl]at gx;exact gx▸this
 ·intro a b as bs r ou m4 hl e x y ra rb;refine bS (fx O ou ra) ?_;rintro l xs rfl h1 r1;refine bS (fx O m4 rb) ?_;rintro l' ys rfl h2 r2;refine au (uO (A:=A.in1) K hB hl e r1 r2) λef he gx=>?_;have:=RcAt.lists (A:=A) (s:=s) (e:=ef) h1 h2 (by refine aa Zk ?_;refine aa Zk ?_;refine rwj r1.length ?_;refine rwj r2.length ?_;refine aa hl ?_;rfl) hu (λj h1 h2=>by refine aa (ny h1) ?_;refine aa (ny h2) ?_;exact he j _ _);rw[Zk,gx]at this;exact this
 ·intro a b as bs ou m4 hl x y ra rb;refine bS (fx O ou ra) ?_;rintro l xs rfl h1 r1;refine bS (fx O m4 rb) ?_;rintro l' ys rfl h2 r2;exact RcAt.lists_lengths h1 h2 (by refine aa Zk ?_;refine aa Zk ?_;refine rwj r1.length ?_;refine rwj r2.length ?_;simpa using hl) hu
theorem Mh (e:cJ a b=some r)(ra:VR tk φ s.heap β P a x)(rb:VR tk φ s.heap β P b y):RcNeAt A s x y (!r):=
 xW (C:=λa b r=>∀{x y:Value},VR tk φ s.heap β P a x->VR tk φ s.heap β P b y->RcNeAt A s x y (!r)) (λi j x y ra rb=>ra.e_int λt=>rb.e_int λu=>RcNeAt.int_int _ _ _ _)
  (λi j h x y ra rb=>ra.e_flt λt h1=>rb.e_flt λu h2=>λaf wd E Q h=>AutoFloatOps.ne_0 (prog:=af) (w:=wd) h) (λi j x y ra rb=>ra.e_flt λt Y=>rb.e_int λu=>λaf wd E Q h=>ne_fi (prog:=af) (w:=wd) h)
  (λi j x y ra rb=>ra.e_int λt=>rb.e_flt λu Y=>λaf wd E Q h=>ne_if h) (λi j x y ra rb=>ra.e_str λt=>rb.e_str λu=>Be▸RcNeAt.str_str _ _ _ _) e ra rb
theorem Mm (K:aW φ s)(hB:jeV s.heap)(O:cr tk φ s.heap β P σ)(hu:A.units<jhg)(e:jB σ a b=some r)(ra:VR tk φ s.heap β P a x)(rb:VR tk φ s.heap β P b y):RcNeAt A s x y (!r):=by
 refine C0 (C:=λa b r=>∀{x y:Value},VR tk φ s.heap β P a x->VR tk φ s.heap β P b y->RcNeAt A s x y (!r)) ?_ ?_ ?_ (λa b r e x y=>Mh e) e ra rb
 ·refine λas bs r hl e x y ra rb=>ra.e_tup λa us ea pa il=>rb.e_tup λb vs eb pb lv=>?_;refine au (uO (A:=A.in1) K hB hl e il lv) λef he gx=>?_;have:=RcNeAt.tuples (A:=A) (s:=s) (e:=ef) ea eb hu (λj h1 h2=>by refine aa (ny h1) ?_;refine aa (ny h2) ?_;exact he j _ _);rw[Zk,Zk,<-il.length,<-lv.length,hl,jhm,beq_self_eq_true,jfl]at this;rw[<-il.length,hl]at gx;exact gx▸this
 ·intro a b as bs r ou m4 hl e x y ra rb;refine bS (fx O ou ra) ?_;rintro l xs rfl h1 r1;refine bS (fx O m4 rb) ?_;rintro l' ys rfl h2 r2;refine au (uO (A:=A.in1) K hB hl e r1 r2) λef he gx=>?_;have:=RcNeAt.lists (A:=A) (s:=s) (e:=ef) h1 h2 (by refine aa Zk ?_;refine aa Zk ?_;refine rwj r1.length ?_;refine rwj r2.length ?_;refine aa hl ?_;rfl) hu (λj h1 h2=>by refine aa (ny h1) ?_;refine aa (ny h2) ?_;exact he j _ _);rw[Zk,gx]at this;exact this
 ·intro a b as bs ou m4 hl x y ra rb;refine bS (fx O ou ra) ?_;rintro l xs rfl h1 r1;refine bS (fx O m4 rb) ?_;rintro l' ys rfl h2 r2;exact RcNeAt.lists_lengths h1 h2 (by refine aa Zk ?_;refine aa Zk ?_;refine rwj r1.length ?_;refine rwj r2.length ?_;simpa using hl) hu
inductive ee:List Int->List Value->Prop
 |nil:ee [] []
 |cons {i:Int}{t:Tok}{is:List Int}{xs:List Value} (r:ee is xs):ee (i::is) (.int i t::xs)
theorem Jq {v:AV}{vs:List AV}{is:List Int}{Q:Prop}(e:cQ (v::vs)=some is)(k:∀i js,v=.int i->cQ vs=some js->i::js=is->Q):Q:=by
 induction v using AV.casesOn with
 |int i =>
  rw[cQ,gO]at e
  induction h:bj Ac vs using ae with
  |none=>rw[h]at e;exact ai e
  |some js=>rw[h]at e;exact k i js rfl h (Y3 e)
 |_=>exact ai e
theorem rI {vs:List AV}{is:List Int}{xs:List Value}(e:cQ vs=some is)(r:ar tk φ h β P vs xs):ee is xs :=
 r.ind (motive:=λvs xs=>∀is,cQ vs=some is->ee is xs) (λis e=>aG (Q:=λis=>ee is []) (show some []=some is from e) .nil)
  (λa Y ih is e=>Jq e λi js e1 e2 e3=>by
   refine aX ((e1▸a).intv) λt e4=>?_;refine rwj e3 ?_;refine aa e4 ?_;exact .cons (ih js e2)) is e
def pp:Value->Option Int
 | .int i _=>some i
 |_=>none
theorem ee.any (r:ee is xs):(xs.any λy=>pp y==some i)=is.any (·==i):=by
 induction r with
 |nil=>rfl
 |cons _ ih=>refine aa jfi ?_;refine aa jfi ?_;refine aa ih ?_;rfl
theorem ee.mem (r:ee is xs):∀y∈xs,∃j u,y=.int j u:=by
 induction r with
 |nil=>exact λy hy=>nomatch hy
 |cons _ ih=>exact λy hy=>(ZQ.mp hy).elim (λe=>jP _ _ e) (ih y)
theorem ee.at (r:ee is xs):∀y,y∈xs.toArray->EqAt A s y (.int i t) (pp y==some i):=λy hy=>by
 refine dW (r.mem y (by simpa using hy)) ?_;rintro j u rfl;exact EqAt.int_int _ _ _ _
theorem ee.length (r:ee is xs):is.length=xs.length:=by
 induction r with
 |nil=>rfl
 |cons _ ih=>exact congrArg (·+1) ih
theorem RG (K:aW φ s)(I:bh G s.heap)(ra:VR G.tok φ s.heap β P (.str cs) x)(rb:VR G.tok φ s.heap β P .tok y):Y' (Zb af wd) A (jgz .In x y) (aK G.tok φ s β P (.bool (cA.lookup cs).isSome)) ax s:=by
 refine ra.e_str λt=>rb.e_tok ?_;refine fq I.tok λf hm h1 h2=>?_;refine wpAny_in_of (k:=⟨cs.toArray⟩) (strKind_is af wd _ t) I.tokMod hm ?_;have:(f ⟨cs.toArray⟩).isSome=(cA.lookup cs).isSome:=by
  induction q:cA.lookup cs using ae with
  |none=>refine aa (h2 ⟨cs.toArray⟩ (show cA.lookup _=none from q)) ?_;rfl
  |some k=>refine aX (h1 ⟨cs.toArray⟩ k (show cA.lookup _=some k from q)) λt ht=>?_;refine aa ht ?_;rfl
 refine aa this ?_;exact⟨φ,.same K bF.tok (ZY _),.bool _⟩
theorem F5 (O:cr tk φ s.heap β P σ)(hl:aQ σ l=some vs)(h:cQ vs=some is)(ra:VR tk φ s.heap β P (.int i) x)(rb:VR tk φ s.heap β P l y):
 (Q (.bool (is.any (·==i))) s->Y' (Zb af wd) A (jgz .In x y) Q ax s)/\(Q (.bool (!is.any (·==i))) s->Y' (Zb af wd) A (jgz .NotIn x y) Q ax s):=by
 refine aX ra.intv ?_;rintro t rfl;refine bS (fx O hl rb) ?_;rintro l xs rfl h1 r1;have hi:=rI h r1;refine rwj hi.any ?_;exact⟨λhQ=>in_listAt _ h1 hi.at (by refine aa jiz ?_;exact hQ),λhQ=>notIn_listAt _ h1 hi.at (by refine aa jiz ?_;exact hQ)⟩
theorem Cu (K:aW φ s)(I:bh G s.heap)(O:cr G.tok φ s.heap β P σ)(hu:A.units<jhg)(e:j4 σ op a b=some r)(ra:VR G.tok φ s.heap β P a x)(rb:VR G.tok φ s.heap β P b y):Y' (Zb af wd) A (jgz op x y) (aK G.tok φ s β P (.bool r)) ax s:=by
 refine K0 (C:=λop a b r=>∀{x y:Value},VR G.tok φ s.heap β P a x->VR G.tok φ s.heap β P b y->Y' (Zb af wd) A (jgz op x y) (aK G.tok φ s β P (.bool r)) ax s) ?_ ?_ ?_ ?_ ?_ ?_ ?_ ?_ ?_ ?_ ?_ ?_ e ra rb
 ·exact λa b r e x y ra rb=>cmp_ofEq (Mn K I.booked O hu e ra rb af wd _ _ (jm K))
 ·exact λa b r e x y ra rb=>cmp_ofNotEq (Mm K I.booked O hu e ra rb af wd _ _ (jm K))
 ·exact λi j x y ra rb=>ra.e_int λt=>rb.e_int λu=>PyProof.Rows.lt_int (jm K)
 ·exact λi j x y ra rb=>ra.e_int λt=>rb.e_int λu=>PyProof.Rows.le_int (jm K)
 ·exact λi j x y ra rb=>ra.e_int λt=>rb.e_int λu=>PyProof.Rows.gt_int (jm K)
 ·exact λi j x y ra rb=>ra.e_int λt=>rb.e_int λu=>PyProof.Rows.ge_int (jm K)
 ·exact λi j x y ra rb=>ra.e_flt λt Y=>rb.e_flt λu Y=>AutoFloatOps.le_0 (jm K)
 ·exact λi j x y ra rb=>ra.e_bool (rb.e_bool (is_bool (jm K)))
 ·exact λi j x y ra rb=>ra.e_bool (rb.e_bool (isnot_bool (jm K)))
 ·exact λi x y ra rb=>RG K I ra rb
 ·exact λi l vs is hl h x y ra rb=>(F5 O hl h ra rb).1 (jm K)
 ·exact λi l vs is hl h x y ra rb=>(F5 O hl h ra rb).2 (jm K)
theorem JS (i:Int):jip i=-i-1:=by unfold jip;exact rfl
theorem Xl (K:aW φ s)(e:qV op a=some r)(ra:VR tk φ s.heap β P a x):Y' (Zb af wd) A (unaryOp op x) (aK tk φ s β P r) ax s :=
 Xk (C:=λop a r=>∀{x:Value},VR tk φ s.heap β P a x->Y' (Zb af wd) A (unaryOp op x) (aK tk φ s β P r) ax s) (λi x ra=>ra.e_int λt=>PyProof.Rows.neg_int (fA K))
  (λi x ra=>ra.e_int λt=>invert_int (JS i▸fA K)) (λb x ra=>ra.e_bool (not_of (jaJ (jm K)))) e ra
theorem V1 (slice:Expr)(o i:Value):∃tz,jiI slice false o i=operate tz (jhZ o i):=by
 have two:jiI slice false o i=operate [o,i] (jhZ o i)\/jiI slice false o i=operate [i,o] (jhZ o i):=by
  induction slice using ZU with
  |Slice a b c d=>induction c using ae with
   |none=>exact .inr rfl
   |some=>exact .inl rfl
  |_=>exact .inl rfl
 exact two.elim (λe=>⟨_,e⟩) λe=>⟨_,e⟩
theorem qU {s:Y4}{value slice:Expr}{o i:Value}{T id:String}{Q:Value->Y4->Prop}{E:Value->Y4->Prop}(hT:s.TypeIs o T)(hl:typeLookup (.type T) "__getitem__" = pure (some (.builtin id))) (hg:Y' (Zb af wd) A (jhZ o i) Q E s):Y' (Zb af wd) A (jcN value slice o i) Q E s :=
 let⟨_,e⟩:=V1 slice o i
 tail_any hT hl hg e
theorem xU (O:cr tk φ h β P σ)(e:gH σ v=some es)(r:VR tk φ h β P v x):
 ∃(a:Ze) (ks:List Int) (vs:List AV) (xs:List Value),x=.ref a/\es=ks.zip vs/\ks.length=vs.length/\h.DictOf (jap af wd) a (ks.zip xs)/\ar tk φ h β P vs xs:=by
 induction v using AV.casesOn with
 |dct es' =>
  have e:es'=es:=Y3 e;exact e▸r.e_dct λa ks vs xs h1 h2 h3 Y h5=>z7 a ks vs xs rfl h1 h2 h3 h5
 |ref i =>
  have e:(match σ[i]? with|some (.dict es)=>some es|_=>none)=some es:=e
  induction hi:σ[i]? using ae with
  |none=>rw[hi]at e;exact ai e
  |some o =>
   rw[hi]at e
   induction o using AO.casesOn with
   |dict es' =>
    have e:es'=es:=Y3 e;refine au (O i _ hi (λq=>nomatch q)) λa' h1 h2=>?_;refine r.e_ref λa hb=>h2.e_dict λks vs xs e1 e2 e3 e4=>?_;cases hb.symm.trans h1;exact z7 a' ks vs xs rfl (e▸e1) e2 e3 e4
   |_=>exact ai e
 |_=>exact ai e
theorem Xv {K:Type}[DecidableEq K]{a k:K}{x:Value}{l:List (K×Value)}(h:(k==a)=false):jdh ((a,x)::l) k=jdh l k:=by
 have:¬a=k:=λz=>by rw[z,beq_self_eq_true]at h;exact nomatch h
 unfold jdh;refine aa (List.find?_cons_of_neg (by simpa using this)) ?_;rfl
theorem IJ {k:Int}{vs:List AV}{xs:List Value}(r:ar tk φ h β P vs xs):∀ks:List Int,(∀v,(ks.zip vs).lookup k=some v->∃x,jdh (ks.zip xs) k=some x/\VR tk φ h β P v x)/\((ks.zip vs).lookup k=none->jdh (ks.zip xs) k=none):=
 r.ind (motive:=λvs xs=>∀ks:List Int,(∀v,(ks.zip vs).lookup k=some v->∃x,jdh (ks.zip xs) k=some x/\VR tk φ h β P v x)/\((ks.zip vs).lookup k=none->jdh (ks.zip xs) k=none))
  (λks=>by refine aa jfm ?_;refine aa jfm ?_;exact⟨λY e=>ai e,λY=>rfl⟩) (λ{v x vs xs} ra Y ih ks=>by
   induction ks using Y2 with
   |nil=>exact⟨λY e=>ai e,λY=>rfl⟩
   |cons a ks =>
    refine aa jbh ?_;refine aa jbh ?_;refine aa ZX ?_
    induction q:k==a using ZH with
    |true =>
     refine⟨λv' e=>aN x ?_ (Y3 e▸ra),λe=>GZ e⟩;refine aa (eq_of_beq q) ?_;unfold jdh;refine aa (List.find?_cons_of_pos (by simp)) ?_;rfl
    |false=>refine aa (Xv q) ?_;exact ih ks)
theorem IK {ks:List Int}(e:(ks.zip vs).lookup k=some v)(r:ar tk φ h β P vs xs):∃x,jdh (ks.zip xs) k=some x/\VR tk φ h β P v x:=(IJ r ks).1 v e
theorem XT {ks:List Int}(e:(ks.zip vs).lookup k=none)(r:ar tk φ h β P vs xs):jdh (ks.zip xs) k=none:=(IJ r ks).2 e
theorem N0 (h:k.natAbs<2^53):-(2^63)<=k/\k<2^63:=by omega
theorem AP (e:fO k n=some j):jfs k n=some j/\-(2^63)<=k/\k<2^63:=bR e λh e=>⟨e,N0 (yH h)⟩
set_option tactic.hygienic true in
theorem OP {s:Y4}{xs:List Value}(hl:s.heap.IsList l xs.toArray)(e:fO k xs.length=some j)(hx:xs[j]?=some x)(h:Q x s):Y' (Zb af wd) A (jhZ (.ref l) (.int k t)) Q E s:=by
 refine fY (AP e) λh1 h2 h3=>?_;unfold jfs at h1;by_cases h0:k<0
 ·simp only[h0,if_true]at h1;split at h1
  ·rename_i h4;cases h1;simp only[Zv,decide_eq_true_eq]at h4;exact wpAny_getItem_list_neg hl h0 (by simp only[Zk];lia) h2 (by simpa using hx) h
  ·cases h1
 ·simp only[h0,if_false]at h1;split at h1
  ·cases h1;exact wpAny_getItem_list hl (by lia) h3 (by simpa using hx) h
  ·cases h1
theorem Rr {s:Y4}(K:aW φ s)(O:cr tk φ s.heap β P σ)(e:m8 σ a i=some r)(ra:VR tk φ s.heap β P a x)(ri:VR tk φ s.heap β P i y):Y' (Zb af wd) A (jcN value slice x y) (aK tk φ s β P r) ax s:=by
 refine Rq (C:=λa i r=>∀{x y:Value},VR tk φ s.heap β P a x->VR tk φ s.heap β P i y->Y' (Zb af wd) A (jcN value slice x y) (aK tk φ s β P r) ax s) ?_ ?_ ?_ ?_ e ra ri
 ·refine λvs k j r h1 h2 x y ra ri=>ra.e_tup λa xs ea pa il=>ri.e_int λt=>?_;refine fY (AP h1) λp1 p2 p3=>?_;refine au (il.get h2) λz hz rz=>?_;exact qU ea.typeIs slot_tuple_getitem.lookup (getItem_tuple ea p2 p3 (by rw[il.length]at p1;exact p1) (by simpa using hz) (jU K rz))
 ·refine λcs k j c h1 hc x y ra ri=>ra.e_str λt=>ri.e_int λu=>?_;refine fY (AP h1) λp1 p2 p3=>?_;refine qU (jcT _ _ _) slot_str_getitem.lookup (PyProof.Rows.getItem_str ?_ (c:=c) ?_ (nu (x:=[c]) K (ZY _)))
  ·rw[jeR,decide_eq_false_iff_not,decide_eq_false_iff_not];exact⟨Int.not_lt.mpr p2,Int.not_le.mpr p3⟩
  ·show(jfs k cs.toArray.size).bind _=_;refine aa Zk ?_;refine aa p1 ?_;simpa using hc
 ·refine λa k vs j r hl h3 h2 x y ra ri=>ri.e_int λu=>?_;refine bS (fx O hl ra) ?_;rintro l xs rfl h1 r1;refine au (r1.get h2) λz hz rz=>?_;exact qU h1.typeIs slot_list_getitem.lookup (OP h1 (r1.length▸h3) hz (jU K rz))
 ·refine λa k es r hd e x y ra ri=>ri.e_int λu=>?_;refine sk (xU O hd ra) ?_;rintro d ks vs xs rfl rfl hl h1 r1;refine au (IK e r1) λz hz rz=>?_;exact qU h1.mapOf.typeIs slot_dict_getitem.lookup (wpAny_getItem_of (jeh _ _ _ _) h1.mapOf hz ⟨φ,.same K bF.tok (ZY _),rz⟩)
theorem aK.after (k:Go s φ ak ay)(h:Y' (Zb af wd) A t (aK tk ay ak β P r) ax ak):Y' (Zb af wd) A t (aK tk φ s β P r) ax ak :=
 up h λ_ _ ⟨am,k',r'⟩=>⟨am,k.trans k',r'⟩
abbrev kB (vl vu:Value):Obj:={ cls:=.type "slice",data:=.fields #[vl,vu,.none] }
theorem Ur {s:Y4}{f:{α:Type}->List α->List α}{lo hi:Option Int}{vl vu x:Value}{value slice:Expr}{vs:List AV}{a:AV}(K:aW φ s)(O:cr tk φ s.heap β P σ)(F:fD s P)(hl:aQ σ a=some vs)(aU:vs.length<=100000)(ra:VR tk φ s.heap β P a x)(pl:IsPart vl lo)(pu:IsPart vu hi)(hf:∀xs:List Value,jhQ xs.toArray lo hi none=(f xs).toArray)(hr:∀{xs:List Value},ar tk φ s.heap β P vs xs->ar tk φ s.heap β P (f vs) (f xs)):
 Y' (Zb af wd) A (jcN value slice x (.ref s.heap.objs.size)) (aK tk φ s β P (.lst (f vs))) ax { s with heap:=s.heap.push (kB vl vu) }:=by
 refine bS (fx O hl ra) ?_;rintro l xs rfl h1 r1;have k:Go s φ { s with heap:=s.heap.push (kB vl vu) } φ:=.same K bF.push (Y5 _);refine aK.after k (qU (Heap.IsList.typeIs (s:={ s with heap:=s.heap.push (kB vl vu) }) (h1.push _)) slot_list_getitem.lookup
  (wpAny_getItem_list_slice (h1.push _) (jjk ..) pl pu .none (by simp) ?_ (d9 (by refine aa Zk ?_;refine rwj r1.length ?_;exact aU))))
 refine aa (hf _) ?_;exact AY (s:={ s with heap:=s.heap.push (kB vl vu) }) k.tk (F.go k) ((hr r1).ext k.ext)
theorem SY (hl:x.length<=jcO)(h:Q (.str x s.toks) { s with toks:=s.toks+1 }):(Made.str x).post Q s:=⟨hl,h⟩
set_option tactic.hygienic true in
theorem Ut {s:Y4}{cs ds:List Nat}{lo hi:Option (Int×Tok)}(K:aW φ s)(aU:ds.length<=100000)(hf:jav ⟨cs.toArray⟩ (lo.map (·.1)) (hi.map (·.1))=⟨ds.toArray⟩):
 Y' (Zb af wd) A (jcN value slice (.str ⟨cs.toArray⟩ t) (.ref s.heap.objs.size)) (aK tk φ s β P (.str ds)) ax { s with heap:=s.heap.push (kB (jbe lo) (jbe hi)) }:=by
 have k:Go s φ { s with heap:=s.heap.push (kB (jbe lo) (jbe hi)) } φ:=.same K bF.push (Y5 _);refine aK.after k (qU (jcT _ _ _) slot_str_getitem.lookup (wpAny_getItem_str_slice (l:=lo) (u:=hi) (st:=none) ⟨_,ZZ _ rfl,rfl,rfl⟩ rfl ?_));unfold jav at hf;unfold sliceMade slicePicked;simp only[Option.map_none,Option.getD_none,beq_self_eq_true,jcC];split
 ·rename_i hw;rw[if_pos (by simpa using hw)]at hf;have:cs=ds:=by
   have:=congrArg (λx:Str=>x.cps.toList) hf;simpa using this
  subst this;exact jU (s:={ s with heap:=s.heap.push (kB (jbe lo) (jbe hi)) }) k.tk (.str _ _)
 ·rename_i hw;rw[if_neg (by simpa using hw)]at hf;refine aa hf ?_;exact SY (d9 (by simpa [jbH]using aU)) (nu (s:={ s with heap:=s.heap.push (kB (jbe lo) (jbe hi)) }) k.tk (ZY _))
theorem Wn (cs:List Nat)(h:0<=j):jav ⟨cs.toArray⟩ none (some j)=⟨(cs.take j.toNat).toArray⟩:=by
 obtain⟨n,rfl⟩:=jbq h;rw[ZB];by_cases hj:n<=cs.length
 ·refine aa (jgY (x:=⟨cs.toArray⟩) ⟨h,by simpa using hj⟩) ?_;simp
 ·have e:jav ⟨cs.toArray⟩ none (some (n:Int))=jav ⟨cs.toArray⟩ none (some (cs.length:Int)):=by
   unfold jav;refine aa (sliceIdx_hi_beyond _ (j:=(n:Int)) (by simp only[jbH,Zk];lia)) ?_;simp[jbH]
  refine aa e ?_;refine aa (jgY (x:=⟨cs.toArray⟩) ⟨Zi cs.length,by simp⟩) ?_;refine aa (jhc (jiQ hj)) ?_;simp
theorem Wm (cs:List Nat)(h:0<=j):jav ⟨cs.toArray⟩ (some j) none=⟨(cs.drop j.toNat).toArray⟩:=by
 obtain⟨n,rfl⟩:=jbq h;rw[ZB];by_cases hj:n<=cs.length
 ·refine aa (jgC (x:=⟨cs.toArray⟩) ⟨h,by simpa using hj⟩) ?_;show(⟨((cs.drop n).take ((cs.length:Int)-n).toNat).toArray⟩:Str)=_;rw[jhc (by refine aa jbE ?_;refine aa (Int.toNat_sub ..) ?_;exact Y5 _)]
 ·have e:jav ⟨cs.toArray⟩ (some (n:Int)) none=jav ⟨cs.toArray⟩ (some (cs.length:Int)) none:=by
   unfold jav;refine aa (sliceIdx_lo_beyond _ (i:=(n:Int)) (by simp only[jbH,Zk];lia)) ?_;simp[jbH]
  refine aa e ?_;refine aa (jgC (x:=⟨cs.toArray⟩) ⟨Zi cs.length,by simp⟩) ?_;refine aa (List.drop_of_length_le (jiQ hj)) ?_;simp
theorem Uw (xs:List Value)(h:0<=j):jhQ xs.toArray none (some j) none=(xs.take j.toNat).toArray:=by
 have:j=(j.toNat:Int):=(jbS h).symm;refine aa this ?_;refine aa (slicePick_upto' _ _) ?_;simp[jjb h]
theorem Uv (xs:List Value)(h:0<=j):jhQ xs.toArray (some j) none none=(xs.drop j.toNat).toArray:=by
 have:j=(j.toNat:Int):=(jbS h).symm;refine aa this ?_;refine aa (slicePick_from' _ _) ?_;simp[jjb h]
set_option tactic.hygienic true in
theorem Hi {s:Y4}{f:{α:Type}->List α->List α}{lo hi:Option (Int×Tok)}(K:aW φ s)(O:cr tk φ s.heap β P σ)(F:fD s P)(e:md σ f a=some r)(ra:VR tk φ s.heap β P a x)(pl:IsPart (jbe lo) (lo.map (·.1)))(pu:IsPart (jbe hi) (hi.map (·.1)))(h1:∀xs:List Value,jhQ xs.toArray (lo.map (·.1)) (hi.map (·.1)) none=(f xs).toArray)(aO:∀cs:List Nat,(f cs).length<=cs.length)(h2:∀cs,jav ⟨cs.toArray⟩ (lo.map (·.1)) (hi.map (·.1))=⟨(f cs).toArray⟩)(hr:∀{vs:List AV}{xs:List Value},ar tk φ s.heap β P vs xs->ar tk φ s.heap β P (f vs) (f xs)):
 Y' (Zb af wd) A (jcN value slice x (.ref s.heap.objs.size)) (aK tk φ s β P r) ax { s with heap:=s.heap.push (kB (jbe lo) (jbe hi)) }:=by
 unfold md at e;split at e
 ·split at e
  ·rename_i aU;cases e;cases ra;exact Ut K (Y1 (aO _) aU) (h2 _)
  ·cases e
 ·split at e
  ·rename_i hl;split at e
   ·rename_i aU;cases e;exact Ur (f:=f) K O F hl aU ra pl pu h1 hr
   ·cases e
  ·cases e
theorem Vt {s:Y4}{lo hi:Option (Int×Tok)}(K:aW φ s)(O:cr tk φ s.heap β P σ)(F:fD s P)(e:qQ σ a (lo.map (·.1)) (hi.map (·.1))=some r)(ra:VR tk φ s.heap β P a x):
 Y' (Zb af wd) A (jcN value slice x (.ref s.heap.objs.size)) (aK tk φ s β P r) ax { s with heap:=s.heap.push (kB (jbe lo) (jbe hi)) }:=by
 induction lo using ae with
 |none =>
  induction hi using ae with
  |none=>exact ai e
  |some u =>
   obtain⟨u,t⟩:=u;exact bR (show(if 0<=u then _ else none)=some r from e) λh0 e=>Hi K O F e ra .none (.int _ _) (λxs=>Uw xs h0) (λcs=>jhs _ _) (λcs=>Wn cs h0) λr=>r.take _
 |some l =>
  induction hi using ae with
  |none =>
   obtain⟨u,t⟩:=l;exact bR (show(if 0<=u then _ else none)=some r from e) λh0 e=>Hi K O F e ra (.int _ _) .none (λxs=>Uv xs h0) (λcs=>by refine aa jbE ?_;simp) (λcs=>Wm cs h0) λr=>r.drop _
  |some u=>exact ai e
theorem ik (K:aW φ s)(ext:∀b o,s.heap.get? b=some o->h'.get? b=some o)(u:Up s { s with heap:=h',toks:=t })(hr:VR tk φ h' β P r v):aK tk φ s β P r v { s with heap:=h',toks:=t }:=
 ⟨φ,.same K ⟨⟨h',t,rfl,ext⟩,u.size⟩ u.toks,hr⟩
theorem ee.items:∀{is:List Int}{xs:List Value},ee is xs->∃eJ:Array (Int×Tok),xs.toArray=intItems eJ/\eJ.toList.map (·.1)=is
 |_,_,.nil=>aN (#[]) (by simp[intItems]) rfl
 |_,_,.cons (i:=i) (t:=t) r=>by
  refine au r.items λeJ h1 h2=>?_;refine aN (((i,t)::eJ.toList).toArray) ?_ ?_
  ·apply Array.toList_inj.mp;have:=congrArg Array.toList h1;simp[intItems]at this ⊢;exact this
  ·simp[h2]
theorem wj (h:eJ.toList.map (·.1)=is)(j:Nat):jgM eJ j=(is[j]?).getD 0:=by
 subst h;simp[jgM]
theorem Bh (a b:List Int):em (a++b)=em a+em b:=by
 induction a with
 |nil=>exact(Int.zero_add _).symm
 |cons i a ih=>exact(congrArg (i+·) ih).trans (Int.add_assoc ..).symm
theorem tP:∀{is:List Int},(∀i∈is,0<=i)->0<=em is
 | [],_=>jhO _
 |i::is,h=>by
  exact Int.add_nonneg (h i (.head _)) (tP λj hj=>h j (.tail _ hj))
theorem AR (h:eJ.toList.map (·.1)=is):∀n,preSum (jgM eJ) n=em (is.take n)
 |0=>rfl
 |n+1=>by
  rw[preSum,AR h n,wj h,List.take_add_one,Bh]
  induction is[n]? using ae with
  |none=>simp[Bj,wy]
  |some i=>simp[Bj,wy]
theorem V3 (hp:∀i∈is,0<=i)(n:Nat):0<=em (is.take n)/\em (is.take n)<=em is:=by
 have e:em is=em (is.take n)+em (is.drop n):=by rw[<-Bh,jhn]
 have h1:=tP (is:=is.take n) λi hi=>hp i (jeN hi);have h2:=tP (is:=is.drop n) λi hi=>hp i (jeO hi)
 lia
theorem Sm (hp:∀i∈is,0<=i)(hi:i∈is):i<=em is:=by
 refine dW (List.append_of_mem hi) ?_;rintro a b rfl;have h1:=tP (is:=a) λi hi=>hp i (by simp[hi]);have h2:=tP (is:=b) λi hi=>hp i (by simp[hi]);rw[Bh];simp only[Bj,wy]
 lia
theorem V5 (hA:A.handled=none)(K:aW φ s)(hl:s.heap.IsList l xs.toArray)(hi:ee is xs)(hp:∀i∈is,0<=i)(hs:em is<2^53):
 Y' (Zb af wd) A (call (.builtin "sum") [.ref l]) (aK tk φ s β P (.int (em is))) ax s:=by
 refine au hi.items λeJ h1 h2=>?_;rw[h1]at hl;have be:eJ.size=is.length:=by refine rwj h2 ?_;simp
 refine eF (sum_intList hA hl (λj hj=>?_) λh' t t' ext u=>?_)
 ·refine⟨?_,?_⟩
  ·refine aa (wj h2 _) ?_;have lY:j<is.length:=by lia
   refine aa (Zc lY) ?_;refine aa jfx ?_;have a1:=hp _ (jbF lY);have a2:=Sm hp (jbF lY);exact⟨by lia,by lia⟩
  ·refine aa (AR h2 _) ?_;have:=V3 hp (j+1);exact⟨by lia,by lia⟩
 ·refine aa (AR h2 _) ?_;refine aa be ?_;refine aa jfL ?_;exact ik K ext u (.int _ _)
theorem GK:∀(js:List Int) (i:Int),i<=gz i js/\(∀j∈js,j<=gz i js)/\(gz i js=i\/gz i js∈js)
 | [],i=>cz (jhO _) (λY h=>(nomatch h)) (.inl rfl)
 |j::js,i=>by
  refine fY (GK js (if i<j then j else i)) λh1 h2 h3=>?_;have hm:i<=(if i<j then j else i)/\j<=(if i<j then j else i):=by split<;>lia
  simp only[Tc,Td];refine cz (jho hm.1 h1) ?_ ?_
  ·intro k hk;rcases ZQ.mp hk with rfl|hk
   ·exact jho hm.2 h1
   ·exact h2 k hk
  ·rcases h3 with h3|h3
   ·refine aa h3 ?_;split
    ·exact .inr (.head _)
    ·exact .inl rfl
   ·exact .inr (.tail _ h3)
theorem Te (hA:A.handled=none)(K:aW φ s)(hl:s.heap.IsList l xs.toArray)(hi:ee (i::is) xs):
 Y' (Zb af wd) A (call (.builtin "max") [.ref l]) (aK tk φ s β P (.int (gz i is))) ax s:=by
 refine au hi.items λeJ h1 h2=>?_;rw[h1]at hl;have be:eJ.size=is.length+1:=by
  have:=congrArg jaP h2;simpa using this
 refine eF (max_intList hA hl (by simp[*]) λv h' t hv ext u=>?_);refine aX (intItems_at hv) ?_;rintro tt rfl;refine bN (argBest_gt (jgM eJ) (eJ.size-1)) λb1 b2=>?_;have e:jgM eJ (jfv (λi j=>decide (jgM eJ i>jgM eJ j)) (eJ.size-1))=gz i is:=by
  refine fY (GK is i) λm1 m2 m3=>?_;have up:∀x∈(i::is),x<=gz i is:=λx hx=>by
   rcases ZQ.mp hx with rfl|hx
   ·exact m1
   ·exact m2 x hx
  have eR:gz i is∈(i::is):=by
   rcases m3 with m3|m3
   ·refine aa m3 ?_;exact .head _
   ·exact .tail _ m3
  obtain⟨k,hk,f8⟩:=jdq.mp eR;have c1:=b2 k (by refine aa be ?_;simp only[Zo]at hk;exact jaV hk);rw[wj h2 k,Zc hk,f8,jfx]at c1;have c2:jgM eJ (jfv (λi j=>decide (jgM eJ i>jgM eJ j)) (eJ.size-1))<=gz i is:=by
   refine aa (wj h2 _) ?_;refine aa (Zc (by simp only[Zo];omega)) ?_;refine aa jfx ?_;exact up _ (jbF _)
  lia
 refine aa e ?_;exact ik K ext u (.int _ _)
set_option tactic.hygienic true in
theorem AC (hb:small b=true):Builtin.divisionGoesByPylong a b=false:=by
 refine jgk ?_;have h3:=ta hb;unfold Zm at h3;split at h3
 ·rename_i hz;simp_all
 ·exact bw h3 rfl
def o9 (s:Y4)(is:List Int)(v:Value):Prop :=
 ∃(r:Ze) (a b c:Int) (t u x:Tok) (n:Nat),v=.ref r/\IsRange s.heap r a b c t u x/\jem a b c=true/\jaI a b c=n/\n<=100000/\is=gP a c n
theorem UT (hc:0<c):0<=jaI a b c:=by
 unfold jaI;refine aa (if_pos (hc)) ?_;split
 ·have:0<=(b-a-1)/c:=Int.ediv_nonneg (by lia) (by lia);omega
 ·exact jhO _
set_option tactic.hygienic true in
theorem A1 (e:fQ a b c=some is)(hr:IsRange s.heap r a b c t u x):o9 s is (.ref r):=by
 unfold fQ at e;split at e
 ·rename_i h;cases e;have:=UT (a:=a) (b:=b) h.1;exact⟨r,a,b,c,t,u,x,_,rfl,hr,h.2.2.1,(jbS this).symm,by simp[*],rfl⟩
 ·cases e
theorem Hu (K:aW φ s)(e:nr as=some is)(r:ar tk φ s.heap β P as xs):
 Y' (Zb af wd) A (call (.type "range") xs) (λv s'=>Go s φ s' φ/\o9 s' is v) ax s :=
 US (C:=λas is=>∀{xs:List Value},ar tk φ s.heap β P as xs->Y' (Zb af wd) A (call (.type "range") xs) (λv s'=>Go s φ s' φ/\o9 s' is v) ax s)
  (λb is e xs r=>r.e1 λx r1=>r1.e_int λt=>call_range_1 ⟨.same K bF.pushT (ZD s.toks 2),A1 e (jhb ..)⟩)
  (λa b is e xs r=>r.e2 λx y r1 r3=>r1.e_int λt=>r3.e_int λu=>call_range_2 ⟨.same K bF.pushT (ZY _),A1 e (jhb ..)⟩)
  (λa b c is e xs r=>r.e3 λx y z r1 r3 r5=>r1.e_int λt=>r3.e_int λu=>r5.e_int λv=>bR (show(if 0<c/\small c=true/\_ then some _ else none)=some is from e) λhh Y =>
   call_range_3 (Int.ne_of_gt hh.1) ⟨.same K bF.pushT (Y5 _),A1 e (jhb ..)⟩ (.inl (AC hh.2.1))) e r
theorem AW (a c:Int)(n:Nat):(gP a c n).length=n:=by
 induction n generalizing a with
 |zero=>rfl
 |succ n ih=>rw[tG,Zo,ih]
theorem AU (c:Int):∀(n:Nat) (a:Int) (j:Nat),j<n->(gP a c n)[j]?=some (a+j*c)
 |n+1,a,0,_=>by simp[tG]
 |n+1,a,j+1,h=>by
  rw[tG,jeo,AU c n (a+c) j (jaV h)]
  congr 1
  push_cast
  rw[Int.add_mul];lia
theorem ar.of_get:∀{xs:List Value},vs.length=xs.length->(∀(j:Nat) (v:AV) (x:Value),vs[j]?=some v->xs[j]?=some x->VR tk φ h β P v x)->ar tk φ h β P vs xs:=by
 induction vs with
 |nil=>intro xs hl _;refine aa (Z3.mp hl.symm) ?_;exact .nil
 |cons v vs ih =>
  intro xs hl hr
  induction xs using Y2 with
  |nil=>exact nomatch hl
  |cons x xs=>exact .cons (hr 0 v x rfl rfl) (ih (Z4 hl) λj v x h1 h2=>hr (j+1) v x h1 h2)
theorem Gv (K:aW φ s)(F:fD s P)(ext:∀b o,s.heap.get? b=some o->h'.get? b=some o)(u:Up s { s with heap:=h',toks:=t })(hS:h'.get? s.heap.objs.size=some { cls:=.type "list",dict:=none,data:=.seq acc c',slots:=#[] }) (hi:ItemsOf Pv acc n) (hl:vs.length=n) (hr:∀(j:Nat) (v:AV) (x:Value),vs[j]?=some v->Pv j x->VR tk φ h' β P v x):aK tk φ s β P (.lst vs) (.ref s.heap.objs.size) { s with heap:=h',toks:=t }:=by
 refine ik K ext u (.lst (xs:=acc.toList) ⟨c',by refine aa hS ?_;refine aa Array.toArray_toList ?_;rfl⟩ (F _ (Y5 _)) (ar.of_get (by refine aa hl ?_;refine aa jhy ?_;refine aa hi.1 ?_;rfl) λj v x h1 h2=>hr j v x h1 (hi.2 j x (by simpa using h2))))
theorem Gw (hA:A.handled=none)(K:aW φ s)(F:fD s P)(R:o9 s is v):
 Y' (Zb af wd) A (call (.type "list") [v]) (aK tk φ s β P (.lst (is.map .int))) ax s:=by
 refine DG R ?_;rintro r a b c t u x n rfl hr hs hn aU rfl;refine eF (call_list_range hA hr hs hn (Y1 aU (by decide)) λh' t' acc c' ext hS hi up=>?_);refine Gv K F ext up hS hi (by rw[Y0,AW]) λj v x h1 h2=>?_;refine aX h2 ?_;rintro tt rfl;have hj:j<n:=by
  have:=(ZA.mp h1).1
  rwa [Y0,AW]at this
 rw[ZO,AU c n a j hj]at h1;cases h1;exact .int _ _
theorem XU {ks:List Int}{vs:List AV}(h:ks.length=vs.length):(ks.zip vs).map (·.2)=vs:=List.map_snd_zip (ZK h.symm)
theorem Sy {A:ZV}{s:Y4}{es:List (Int×AV)}(hA:A.handled=none)(K:aW φ s)(F:fD s P)(sX:∀a,P a->(a==jad)=false)(aU:es.length<=100000)(r:VR tk φ s.heap β P (.dct es) x):
 Y' (Zb af wd) A (call (.builtin "dict.values") [x]) (λv ak=>Y' (Zb af wd) A (call (.type "list") [v]) (aK tk φ s β P (.lst (es.map (·.2)))) ax ak) ax s:=by
 refine r.e_dct λa ks vs xs ol hl e p r1=>?_;clear r;subst ol
 ·have r:=r1;refine jgg jgj e.typeIs PySem.F.entry_dict_values (PySem.F.args_dict_values_1 _) (meets_dict_values (jap af wd) a (sX a p)) ⟨⟨_,e⟩,?_⟩;have k:Go s φ { s with heap:=s.heap.push { cls:=.type "dict_values",data:=.fields #[.ref a] } } φ:=.same K bF.push (Y5 _);refine aX e.dictAt λep fu=>?_;refine aK.after k ?_;have Q7:(ks.zip xs).length<=100000:=by
   have:=r.length;rw[jbo]at aU ⊢
   lia
  refine eF (kdl_call (kdl_values (knd:=jap af wd) (kvs:=ks.zip xs) (ep:=ep)) hA ⟨⟨_,ZZ _ rfl,rfl,rfl⟩,fu.push _⟩ (d9 Q7) λh' t' acc c' ext hS hi up=>?_);have rr:=(r.ext k.ext).ext ext;refine Gv (s:={ s with heap:=s.heap.push { cls:=.type "dict_values",data:=.fields #[.ref a] } }) k.tk (F.go k) ext up hS hi (by simp[jbo,hl,r.length]) λj v x h1 h2=>?_;rw[XU hl]at h1;refine aX h2 λk' hk=>?_;refine au (rr.get h1) λx' hx rx=>?_;have:x=x':=by
   rw[jdX]at hk;rw[hx]at hk;exact(Y3 hk.2).symm
  refine aa this ?_;exact rx
def hU (x y z:UInt64):Nat->UInt64
 |0=>x
 |1=>y
 |_=>z
theorem vY {x y z:UInt64}{t u v:Tok}{i:Nat}{r:Value}(e:(#[jdl x t,.float y u,.float z v])[i]?=some r):∃t',r=.float (hU x y z i) t':=by
 match i,e with
 |0,e=>cases e;exact⟨_,rfl⟩
 |1,e=>cases e;exact⟨_,rfl⟩
 |2,e=>cases e;exact⟨_,rfl⟩
 |n+3,e=>simp at e
theorem Gj {A:ZV}{s:Y4}{x y z:UInt64}{t u v:Tok}{op:CmpOp}{bt:Nat->Nat->Bool}{Q:Value->Y4->Prop}{E:Value->Y4->Prop}(hA:A.handled=none)(hc:CmpOf af wd A.in1 op (λi r=>(#[jdl x t,.float y u,.float z v])[i]?=some r) bt)(h:∀r h' tk,(#[jdl x t,.float y u,.float z v])[jfv bt 2]?=some r->(∀b o,s.heap.get? b=some o->h'.get? b=some o)->Q r { s with heap:=h',toks:=tk }):
 Y' (Zb af wd) A.in1 (jdN (.ref s.heap.objs.size)) (λit aC=>∃I fp wr n P St bt,it=.ref I/\Walks af wd A.in1 I fp wr n P St/\St 0 aC.heap/\(∀b∈fp,b<aC.heap.objs.size)/\0<n/\CmpOf af wd A.in1 op P bt /\
  ∀v h' tk,P (jfv bt (n-1)) v->(∀b o,b∉wr->aC.heap.get? b=some o->h'.get? b=some o)->Q v { aC with heap:=h',toks:=tk }) E
  { s with heap:=s.heap.push { cls:=.type "tuple",data:=.seq #[.float x t,.float y u,.float z v] } }:=by
 have hT:(s.heap.push { cls:=.type "tuple",data:=.seq #[.float x t,.float y u,.float z v] }).IsTuple s.heap.objs.size #[.float x t,.float y u,.float z v]:=⟨_,ZZ _ rfl,rfl,0,rfl⟩
 refine jjd hT ?_;have be:(s.heap.push { cls:=.type "tuple",data:=.seq #[.float x t,.float y u,.float z v] }).objs.size=s.heap.objs.size+1:=ZP ..;refine RB _ [_,s.heap.objs.size] [_] _ _ _ bt rfl (Walks.tuple (A:=A.in1) hA _ s.heap.objs.size (by refine aa be ?_;exact jaE (jaj _)) #[.float x t,.float y u,.float z v]) ⟨⟨_,ZZ _ rfl,rfl,rfl⟩,hT.push _⟩ (λd hd=>?_) (by simp) hc (λr h' tk hP hk=>?_)
 ·show d<((s.heap.push _).push _).objs.size;refine aa (ZP _ _) ?_;refine aa be ?_;rcases ZQ.mp hd with rfl|hd
  ·refine aa be ?_;exact jaj _
  ·rcases ZQ.mp hd with rfl|hd
   ·exact jcW (jaj _)
   ·cases hd
 ·refine h r h' tk hP λb o e=>hk b o (λhm=>?_) (Zd _ (Zd _ e));rcases ZQ.mp hm with e1|hm
  ·have:=Zu e;rw[e1,be]at this;exact Zr _ (Nat.lt_of_succ_lt this)
  ·cases hm
theorem S9 {A:ZV}{s:Y4}{x y z:UInt64}{t u v:Tok}{Q:Value->Y4->Prop}{E:Value->Y4->Prop}(hA:A.handled=none)(h:∀r h' tk,(#[jdl x t,.float y u,.float z v])[jfv (λi j=>gK (hU x y z i) (hU x y z j)) 2]?=some r->(∀b o,s.heap.get? b=some o->h'.get? b=some o)->Q r { s with heap:=h',toks:=tk }):
 Y' (Zb af wd) A (call (.builtin "max") [.float x t,.float y u,.float z v]) Q E s :=
 call_max_three (Gj (Q:=Q) (E:=E) (op:=.Gt) hA (λi j vi vj s Q E hi hj h=>by
  refine aX (vY hi) ?_;rintro _ rfl;refine aX (vY hj) ?_;rintro _ rfl;exact AutoFloatOps.gt_0 h) h)
theorem Ta (hA:A.handled=none)(K:aW φ s)(h1:φ t x)(h2:φ u y)(h3:φ v z):
 Y' (Zb af wd) A (call (.builtin "max") [.float x t,.float y u,.float z v])
  (aK tk φ s β P (.flt (if gK z (if gK y x then y else x)then z else(if gK y x then y else x)))) ax s:=by
 refine eF (S9 hA λr h' t' hr ext up=>?_);simp only[jfv,hU]at hr;by_cases c1:gK y x=true
 ·by_cases c2:gK z y=true
  ·simp[c1,c2,hU]at hr ⊢;subst hr;exact ik K ext up (.flt _ _ h3)
  ·simp[c1,c2,hU]at hr ⊢;subst hr;exact ik K ext up (.flt _ _ h2)
 ·by_cases c2:gK z x=true
  ·simp[c1,c2,hU]at hr ⊢;subst hr;exact ik K ext up (.flt _ _ h3)
  ·simp[c1,c2,hU]at hr ⊢;subst hr;exact ik K ext up (.flt _ _ h1)
theorem Tl {A:ZV}{s:Y4}{x y z:UInt64}{t u v:Tok}{Q:Value->Y4->Prop}{E:Value->Y4->Prop}(hA:A.handled=none)(h:∀r h' tk,(#[jdl x t,.float y u,.float z v])[jfv (λi j=>gL (hU x y z i) (hU x y z j)) 2]?=some r->(∀b o,s.heap.get? b=some o->h'.get? b=some o)->Q r { s with heap:=h',toks:=tk }):
 Y' (Zb af wd) A (call (.builtin "min") [.float x t,.float y u,.float z v]) Q E s :=
 call_min_three (Gj (Q:=Q) (E:=E) (op:=.Lt) hA (λi j vi vj s Q E hi hj h=>by
  refine aX (vY hi) ?_;rintro _ rfl;refine aX (vY hj) ?_;rintro _ rfl;exact AutoFloatOps.lt_0 h) h)
theorem Tm (hA:A.handled=none)(K:aW φ s)(h1:φ t x)(h2:φ u y)(h3:φ v z):
 Y' (Zb af wd) A (call (.builtin "min") [.float x t,.float y u,.float z v])
  (aK tk φ s β P (.flt (if gL z (if gL y x then y else x)then z else(if gL y x then y else x)))) ax s:=by
 refine eF (Tl hA λr h' t' hr ext up=>?_);simp only[jfv,hU]at hr;by_cases c1:gL y x=true
 ·by_cases c2:gL z y=true
  ·simp[c1,c2,hU]at hr ⊢;subst hr;exact ik K ext up (.flt _ _ h3)
  ·simp[c1,c2,hU]at hr ⊢;subst hr;exact ik K ext up (.flt _ _ h2)
 ·by_cases c2:gL z x=true
  ·simp[c1,c2,hU]at hr ⊢;subst hr;exact ik K ext up (.flt _ _ h3)
  ·simp[c1,c2,hU]at hr ⊢;subst hr;exact ik K ext up (.flt _ _ h1)
variable {A:ZV}{s:Y4}{tk:Ze}{φ:Gh}{h:jak}{β:List Ze}{P:Ze->Prop}{σ:aA}{G:GD}
theorem AX {i:Int}(K:aW φ s):aK tk φ s β P (.int i) (.int i (s.toks+1)) { s with toks:=s.toks+1+1 }:=
 ⟨φ,.same K bF.tok (by show s.toks<=s.toks+1+1;exact jcF (jcF jbK)),.int _ _⟩
theorem Kt {as:List AV}{r:AV}{xs:List Value}(K:aW φ s)(O:cr tk φ s.heap β P σ)(sX:∀a,P a->(a==jad)=false)(e:rR σ as=some r)(ra:ar tk φ s.heap β P as xs):
 Y' (Zb af wd) A (call (.builtin "len") xs) (aK tk φ s β P r) ax s:=by
 refine Ks (C:=λas r=>∀{xs:List Value},ar tk φ s.heap β P as xs->Y' (Zb af wd) A (call (.builtin "len") xs) (aK tk φ s β P r) ax s) ?_ ?_ ?_ e ra
 ·refine λcs hn xs ra=>ra.e1 λx r1=>r1.e_str λt=>len_str (by simp only[jbH,Zk];lia) ?_;refine aa (show((⟨cs.toArray⟩:Str).length:Int)=cs.length by simp[jbH]) ?_;exact AX K
 ·refine λes hn xs ra=>ra.e1 λx r1=>r1.e_dct λa ks us zs ol hl e' p r=>?_;have aO:(ks.zip zs).length=es.length:=by refine aa ol ?_;refine aa jbo ?_;refine aa jbo ?_;refine aa r.length ?_;rfl
  refine call_len_dict (sX _ p) e' (by refine aa aO ?_;exact q8 hn rfl) ?_;refine aa aO ?_;exact AX K
 ·refine λl vs hl hn xs ra=>ra.e1 λx r1=>?_;refine bS (fx O hl r1) ?_;rintro l zs rfl h1 r1;refine PySem.Calls.call_len_list h1 (by refine aa Zk ?_;refine rwj r1.length ?_;exact q8 hn rfl) ?_;refine aa Zk ?_;refine rwj r1.length ?_;exact AX K
theorem KD {as:List AV}{r:AV}{xs:List Value}(hA:A.handled=none)(K:aW φ s)(O:cr tk φ s.heap β P σ)(e:xA σ as=some r)(ra:ar tk φ s.heap β P as xs):
 Y' (Zb af wd) A (call (.builtin "sum") xs) (aK tk φ s β P r) ax s :=
 KC (C:=λas r=>∀{xs:List Value},ar tk φ s.heap β P as xs->Y' (Zb af wd) A (call (.builtin "sum") xs) (aK tk φ s β P r) ax s) (λl vs is hl eS h1 h2 xs ra=>ra.e1 λx r1=>by
  refine bS (fx O hl r1) ?_;rintro l zs rfl hp r1;exact V5 hA K hp (rI eS r1) (λi hi=>of_decide_eq_true (Y6.mp h1 i hi)) h2) e ra
theorem Kv {as:List AV}{r:AV}{xs:List Value}(hA:A.handled=none)(K:aW φ s)(O:cr tk φ s.heap β P σ)(e:xx σ as=some r)(ra:ar tk φ s.heap β P as xs):
 Y' (Zb af wd) A (call (.builtin "max") xs) (aK tk φ s β P r) ax s:=by
 refine Ku (C:=λas r=>∀{xs:List Value},ar tk φ s.heap β P as xs->Y' (Zb af wd) A (call (.builtin "max") xs) (aK tk φ s β P r) ax s) ?_ ?_ ?_ e ra
 ·refine λi j xs ra=>ra.e2 λx y r1 r3=>r1.e_int λt=>r3.e_int λu=>eF (max_two_ints hA λh' t ext up=>?_);by_cases hc:i<j
  ·refine aa (if_pos hc) ?_;refine aa (if_pos hc) ?_;exact ik K ext up (.int _ _)
  ·refine aa (if_neg hc) ?_;refine aa (if_neg hc) ?_;exact ik K ext up (.int _ _)
 ·exact λx y z xs ra=>ra.e3 λa b c r1 r2 r3=>r1.e_flt λt h1=>r2.e_flt λu h2=>r3.e_flt λv h3=>Ta hA K h1 h2 h3
 ·refine λl vs i js hl eS xs ra=>ra.e1 λx r1=>?_;refine bS (fx O hl r1) ?_;rintro l zs rfl h1 r1;exact Te hA K h1 (rI eS r1)
theorem Kx {as:List AV}{r:AV}{xs:List Value}(hA:A.handled=none)(K:aW φ s)(e:xy as=some r)(ra:ar tk φ s.heap β P as xs):
 Y' (Zb af wd) A (call (.builtin "min") xs) (aK tk φ s β P r) ax s:=by
 refine Kw (C:=λas r=>∀{xs:List Value},ar tk φ s.heap β P as xs->Y' (Zb af wd) A (call (.builtin "min") xs) (aK tk φ s β P r) ax s) ?_ ?_ e ra
 ·refine λi j xs ra=>ra.e2 λx y r1 r3=>r1.e_int λt=>r3.e_int λu=>eF (min_two_ints hA λh' t ext up=>?_);by_cases hc:j<i
  ·refine aa (if_pos hc) ?_;refine aa (if_pos hc) ?_;exact ik K ext up (.int _ _)
  ·refine aa (if_neg hc) ?_;refine aa (if_neg hc) ?_;exact ik K ext up (.int _ _)
 ·exact λx y z xs ra=>ra.e3 λa b c r1 r2 r3=>r1.e_flt λt h1=>r2.e_flt λu h2=>r3.e_flt λv h3=>Tm hA K h1 h2 h3
theorem Kz {as:List AV}{r:AV}{xs:List Value}(K:aW φ s)(e:xz as=some r)(ra:ar tk φ s.heap β P as xs):
 Y' (Zb af wd) A (call (.builtin "ord") xs) (aK tk φ s β P r) ax s :=
 Ky (C:=λas r=>∀{xs:List Value},ar tk φ s.heap β P as xs->Y' (Zb af wd) A (call (.builtin "ord") xs) (aK tk φ s β P r) ax s) (λc xs ra=>ra.e1 λx r1=>r1.e_str λt=>PySem.P.ord_of_char (fA K)) e ra
theorem KQ {i:Int}(h:0<=i/\i<=0x10FFFF):(decide (i<0)||decide (i>0x10FFFF))=false:=by
 rw[jeR,decide_eq_false_iff_not,decide_eq_false_iff_not];simp[*]
theorem Kc {as:List AV}{r:AV}{xs:List Value}(K:aW φ s)(e:xu as=some r)(ra:ar tk φ s.heap β P as xs):
 Y' (Zb af wd) A (call (.builtin "chr") xs) (aK tk φ s β P r) ax s :=
 Kb (C:=λas r=>∀{xs:List Value},ar tk φ s.heap β P as xs->Y' (Zb af wd) A (call (.builtin "chr") xs) (aK tk φ s β P r) ax s) (λi hc xs ra=>ra.e1 λx r1=>r1.e_int λt=>PySem.P.chr_of_int (KQ hc) (nu (x:=[_]) K (ZY _))) e ra
theorem Km {as:List AV}{r:AV}{xs:List Value}(K:aW φ s)(e:rQ as=some r)(ra:ar tk φ s.heap β P as xs):
 Y' (Zb af wd) A (call (.type "int") xs) (aK tk φ s β P r) ax s :=
 Kl (C:=λas r=>∀{xs:List Value},ar tk φ s.heap β P as xs->Y' (Zb af wd) A (call (.type "int") xs) (aK tk φ s β P r) ax s) (λy jS m ex hd xs ra=>ra.e1 λx r1=>r1.e_flt λt Y=>call_int_float hd (fA K)) e ra
theorem Kf {as:List AV}{r:AV}{xs:List Value}(K:aW φ s)(F:fD s P)(e:xw as=some r)(ra:ar tk φ s.heap β P as xs):
 Y' (Zb af wd) A (call (.builtin "divmod") xs) (aK tk φ s β P r) ax s :=
 Ke (C:=λas r=>∀{xs:List Value},ar tk φ s.heap β P as xs->Y' (Zb af wd) A (call (.builtin "divmod") xs) (aK tk φ s β P r) ax s) (λi j hc xs ra=>ra.e2 λx y r1 r3=>r1.e_int λt=>r3.e_int λu =>
  divmod_int (λq=>hc (.inl q)) ⟨φ,.same K bF.pushT (ZD s.toks 2),.tup (AB (xs:=[_,_]) _) (F _ (Y5 _)) (.cons (.int _ _) (.cons (.int _ _) .nil))⟩ (.inl (AC (HI hc)))) e ra
theorem Ko {as:List AV}{r:AV}{xs:List Value}(K:aW φ s)(e:uF as=some r)(ra:ar tk φ s.heap β P as xs):
 Y' (Zb af wd) A (call (.builtin "isinstance") (xs++[.type "bool"])) (aK tk φ s β P r) ax s :=
 Kn (C:=λas r=>∀{xs:List Value},ar tk φ s.heap β P as xs->Y' (Zb af wd) A (call (.builtin "isinstance") (xs++[.type "bool"])) (aK tk φ s β P r) ax s) (λi xs ra=>ra.e1 λx r1=>r1.e_int λt=>IsiPair.int_bool ⟨φ,.same K bF.tok (ZY _),.bool _⟩) e ra
theorem Kq {as:List AV}{r:AV}{xs:List Value}(K:aW φ s)(e:uG as=some r)(ra:ar tk φ s.heap β P as xs):
 Y' (Zb af wd) A (call (.builtin "isinstance") (xs++[.type "int"])) (aK tk φ s β P r) ax s :=
 Kp (C:=λas r=>∀{xs:List Value},ar tk φ s.heap β P as xs->Y' (Zb af wd) A (call (.builtin "isinstance") (xs++[.type "int"])) (aK tk φ s β P r) ax s) (λi xs ra=>ra.e1 λx r1=>r1.e_int λt=>IsiPair.int_int (jm K)) e ra
theorem Ka {as:List AV}{r:AV}{xs:List Value}(K:aW φ s)(e:uD as=some r)(ra:ar tk φ s.heap β P as xs):
 Y' (Zb af wd) A (call (.builtin "int.bit_length") xs) (aK tk φ s β P r) ax s :=
 Cg (C:=λas r=>∀{xs:List Value},ar tk φ s.heap β P as xs->Y' (Zb af wd) A (call (.builtin "int.bit_length") xs) (aK tk φ s β P r) ax s) (λi xs ra=>ra.e1 λx r1=>r1.e_int λt=>call_int_bit_length (fA K)) e ra
theorem VW (K:aW φ s)(e:jau (bq x) (bq y) 0 (bq x).length 1=k::az):
 Y' (Zb af wd) A (call (.builtin "str.index") [.str ⟨x.toArray⟩ t,.str ⟨y.toArray⟩ u]) (aK tk φ s β P (.int k)) ax s :=
 call_gives jgF (jcT _ _ _) PySem.F.entry_str_index (PySem.F.args_str_index_2 _ _) (gives_str_index (bq x) (bq y) t u k az e) (fA K)
theorem VV (K:aW φ s):
 Y' (Zb af wd) A (call (.builtin "str.find") [.str ⟨x.toArray⟩ t,.str ⟨y.toArray⟩ u]) (aK tk φ s β P (.int (match jau (bq x) (bq y) 0 (bq x).length 1 with|k::_=>(k:Int) | []=>-1))) ax s :=
 call_gives jgS (jcT _ _ _) PySem.F.entry_str_find (PySem.F.args_str_find_2 _ _) (gives_str_find (bq x) (bq y) t u) (fA K)
theorem ee.countP (r:ee is xs):(xs.countP λy=>pp y==some i)=is.countP (·==i):=by
 induction r with
 |nil=>rfl
 |cons _ ih=>refine aa jeq ?_;refine aa jeq ?_;refine aa ih ?_;rfl
theorem Su (K:aW φ s)(hl:s.heap.IsList l xs.toArray)(hi:ee is xs):
 Y' (Zb af wd) A (call (.builtin "list.count") [.ref l,.int i t]) (aK tk φ s β P (.int (is.countP (·==i)))) ax s:=by
 obtain⟨⟨cls,dd,data,sl⟩,ho,hc,n,hd⟩:=id hl;simp only at hc hd;subst hc hd;refine jdx jgq hl.typeIs PySem.F.entry_list_count (PySem.F.args_list_count_2 _ _) (list_countAt l xs.toArray n dd sl (.int i t) (λy=>pp y==some i)) ⟨ho,hi.at,?_⟩;have:=hi.countP (i:=i);refine aa jhF ?_;refine aa this ?_;exact fA K
theorem ee.get (r:ee is xs):∀{j:Nat} (hj:j<xs.length) (lY:j<is.length),pp xs[j]=some is[j]:=by
 induction r with
 |nil=>exact λhj=>absurd hj (jeE _)
 |cons _ ih =>
  intro j hj lY
  induction j using jaw with
  |zero=>rfl
  |succ j=>exact ih (jcX hj) (jcX lY)
theorem Sv (K:aW φ s)(hl:s.heap.IsList l xs.toArray)(hi:ee is xs)(e:is.findIdx? (·==i)=some k)(hk:k<=100000):
 Y' (Zb af wd) A (call (.builtin "list.index") [.ref l,.int i t]) (aK tk φ s β P (.int k)) ax s:=by
 obtain⟨⟨cls,dd,data,sl⟩,ho,hc,n,hd⟩:=id hl;simp only at hc hd;subst hc hd;refine au (List.findIdx?_eq_some_iff_getElem.mp e) λh1 h2 h3=>?_;have aO:=hi.length;refine jdx jgp hl.typeIs PySem.F.entry_list_index (PySem.F.args_list_index_2 _ _)
  (list_indexAt l xs.toArray n dd sl (.int i t) (λy=>pp y==some i) k (by simp;lia) (q8 hk rfl) ?_ λm hm Qc=>?_) ⟨ho,hi.at,fA K⟩
 ·have:=hi.get (j:=k) (by lia) h1;simp only[jht];refine aa this ?_;simpa using h2
 ·have jh:m<xs.length:=by simpa using hm
  have:=hi.get (j:=m) jh (by simp[*]);simp only[jht];refine aa this ?_;have:=h3 m Qc;simpa using this
theorem VY {v:AV}{vs:List AV}{ss:List (List Nat)}{Q:Prop}(e:ip (v::vs)=some ss)(k:∀x qR,v=.str x->ip vs=some qR->x::qR=ss->Q):Q:=by
 induction v using AV.casesOn with
 |str x =>
  refine au (Zs.mp (show(ip vs).map (x::·)=some ss from e)) λqR h1 h2=>?_;exact k x qR rfl h1 h2
 |_=>exact ai e
theorem VZ {vs:List AV}{xs:List Value}{ss:List (List Nat)}(e:ip vs=some ss)(r:ar tk φ h β P vs xs):∃l:List (Str×Tok),xs=strValues l/\l.map (·.1)=ss.map bq :=
 r.ind (motive:=λvs xs=>∀ss,ip vs=some ss->∃l:List (Str×Tok),xs=strValues l/\l.map (·.1)=ss.map bq) (λss e=>Y3 (show some []=some ss from e)▸⟨[],rfl,rfl⟩)
  (λra Y ih ss e=>VY e λx qR e1 h1 e2=>by
   refine au (ih qR h1) λl e3 h2=>?_;refine(e1▸ra).e_str λt=>?_;refine rwj e2 ?_;refine aa e3 ?_;exact aN ((bq x,t)::l) rfl (congrArg (_::·) h2)) ss e
theorem yX (ss:List (List Nat)):jgW (bq []) (ss.map bq)=bq ss.flatten:=by
 have key:∀(l:List (List Nat)) (acc:Array Nat),(l.map bq).foldl (λacc p=>acc++(bq []).cps++p.cps) acc=acc++l.flatten.toArray:=by
  intro l
  induction l with
  |nil=>intro acc;simp
  |cons a l ih =>
   intro acc;refine aa ZC ?_;refine aa jcG ?_;refine aa (ih _) ?_;simp[bq]
 induction ss using Y2 with
 |nil=>rfl
 |cons a l =>
  unfold jgW;show(⟨((l.map bq)).foldl _ (bq a).cps⟩:Str)=_;refine aa (key _ _) ?_;apply jhB;simp[bq]
theorem D9:∀(l:List Str) (n:Nat),l.foldl (λa y=>a+y.length+(bq []).length) n=n+(l.map (·.length)).sum
 | [],n=>by simp
 |a::l,n=>by
  refine aa jcG ?_;refine aa (D9 l _) ?_;refine aa ZC ?_;refine aa jal ?_;simp[bq,jbH];lia
theorem N2 (ss:List (List Nat)):((ss.map bq).map (·.length)).sum=ss.flatten.length:=by
 induction ss with
 |nil=>rfl
 |cons a l ih=>rw[ZC,ZC,jal,ih,jin,Za];rfl
theorem R4 (K:aW φ s)(h1:s.heap.IsList l us.toArray)(hs:ip vs=some ss)(aU:ss.flatten.length<=100000)(r5:ar tk φ s.heap β P vs us):
 Y' (Zb af wd) A (call (.builtin "str.join") [.str (bq []) t,.ref l]) (aK tk φ s β P (.str ss.flatten)) ax s:=by
 refine au (VZ hs r5) ?_;rintro ll rfl vC;clear hs r5;refine jdx jgR (jcT _ _ _) PySem.F.entry_str_join (PySem.F.args_str_join_2 _ _) (meets_str_join_list (bq []) _ l ll ?_) ⟨h1,?_⟩
 ·rw[vC,List.foldl_toArray,D9,N2];unfold jgv;have:=d9 aU;simpa using this
 ·delta joinMade
  have B8:(bq ss.flatten).length<=jcO:=by simpa [bq,jbH]using d9 aU
  induction ll using Y2 with
  |nil=>dsimp only;rw[vC,yX];exact⟨B8,nu K (ZY _)⟩
  |cons p l =>
   induction l using Y2 with
   |nil =>
    have hp:ss.map bq=[p.1]:=vC.symm;have:bq ss.flatten=p.1:=by
     rw[<-yX,hp];rfl
    obtain⟨p1,p2⟩:=p;simp only at this;subst this;exact jU K (.str _ _)
   |cons q l=>dsimp only;rw[vC,yX];exact⟨B8,nu K (ZY _)⟩
theorem Kr (K:aW φ s)(O:cr tk φ s.heap β P σ)(e:uH σ as=some r)(ra:ar tk φ s.heap β P as xs):
 Y' (Zb af wd) A (call (.builtin "str.join") xs) (aK tk φ s β P r) ax s :=
 Ck (C:=λas r=>∀{xs:List Value},ar tk φ s.heap β P as xs->Y' (Zb af wd) A (call (.builtin "str.join") xs) (aK tk φ s β P r) ax s) (λl vs ss hl hs aU xs ra=>ra.e2 λa b r1 r3=>r1.e_str λt=>by
  refine bS (fx O hl r3) ?_;rintro l us rfl h1 r5;exact R4 K h1 hs aU r5) e ra
theorem HW:∀(l:List Str) (t:Tok),ar tk φ h β P (l.map λy=>.str y.cps.toList) (strsFrom t l)
 | [],_=>.nil
 |y::l,t=>.cons (.str _ _) (HW l (t+1))
theorem KA (K:aW φ s)(F:fD s P)(e:rS as=some r)(ra:ar tk φ s.heap β P as xs):
 Y' (Zb af wd) A (call (.builtin "str.split") xs) (aK tk φ s β P r) ax s :=
 Cm (C:=λas r=>∀{xs:List Value},ar tk φ s.heap β P as xs->Y' (Zb af wd) A (call (.builtin "str.split") xs) (aK tk φ s β P r) ax s) (λx hc xs ra=>ra.e1 λa r1=>r1.e_str λt=>by
  refine jdx jgD (jcT _ _ _) PySem.F.entry_str_split (PySem.F.args_str_split_1 _) (meets_str_split_space (bq x) _ (d9 hc.1) (d9 hc.2.1)) ?_;show if _ then _ else _
  rw[if_neg (by refine aa hc.2.2 ?_;exact Z1)];exact⟨φ,.same K bF.pushT (ZD _ _),.lst (oK _) (F _ (Y5 _)) (HW _ _)⟩) e ra
theorem LO {s:Y4}{ks:List Int}(K:aW φ s)(hd:s.heap.DictOf (jap af wd) d (ks.zip ys))(hY:(d==jad)=false)(rs:ar tk φ s.heap β P vs ys)(rv:VR tk φ s.heap β P v x):Y' (Zb af wd) A (call (.builtin "dict.get") [.ref d,.int k t,x]) (aK tk φ s β P (match(ks.zip vs).lookup k with|some v=>v|none=>v)) ax s:=by
 refine jgg jbZ hd.mapOf.typeIs jel (jgr _ _ _) (jhY (jap af wd) d (jeh af wd k t) hY x) ⟨_,hd.mapOf,?_⟩;refine⟨φ,.same K bF.tok (ZY _),?_⟩
 induction q:(ks.zip vs).lookup k using ae with
 |none=>refine aa (XT q rs) ?_;exact rv
 |some v' =>
  refine au (IK q rs) λz hz rz=>?_;refine aa hz ?_;exact rz
theorem Wy (K:aW φ s)(I:bh G s.heap)(rv:VR G.tok φ s.heap β P v y):
 Y' (Zb af wd) A (call (.builtin "dict.get") [.ref G.tok,.str ⟨x.toArray⟩ t,y]) (aK G.tok φ s β P (match cA.lookup x with|some k=>.int k|none=>v)) ax s:=by
 refine fq I.tok λf hm h1 h2=>?_;refine jgg jbZ hm.typeIs jel (jgr _ _ _) (jhY (strKind af wd) G.tok (strKind_is af wd ⟨x.toArray⟩ t) I.tokMod y) ⟨_,hm,?_⟩;refine⟨φ,.same K bF.tok (ZY _),?_⟩
 induction q:cA.lookup x using ae with
 |none=>refine aa (h2 ⟨x.toArray⟩ (show cA.lookup _=none from q)) ?_;exact rv
 |some k=>refine aX (h1 ⟨x.toArray⟩ k (show cA.lookup _=some k from q)) λt ht=>?_;refine aa ht ?_;exact .int _ _
section
theorem bz.notX (x:bz G h)(e:h.get? b=some o)(h0:o≠jdM #[])(h1:∀t c,o≠qi t c):¬G.X b:=by
 rintro⟨t,ht,rfl⟩;rcases x t ht with q|⟨c,q,_⟩
 ·rw[e]at q;exact h0 (Y3 q)
 ·rw[e]at q;exact h1 t c (Y3 q)
theorem bz.notX_data (x:bz G h)(e:h.get? b=some o)(hd:∀vs,o.data≠.fields vs):¬G.X b :=
 x.notX e (λq=>hd _ (by rw[q])) λt c q=>hd _ (by rw[q])
theorem bz.notX_ns (x:bz G h)(n:h.Ns a m):¬G.X a:=by
 refine ka n λo es ep ho hd Y=>?_;exact x.notX_data ho λvs q=>by rw[hd]at q;cases q
theorem bz.notX_cell (x:bz G h)(n:h.IsCell a v):¬G.X a:=by
 refine au n λo ho hd=>?_;exact x.notX_data ho λvs q=>by rw[hd]at q;cases q
theorem bz.notX_code (x:bz G h)(n:h.CodeRec (.ref c) q):¬G.X c:=by
 refine qa n λc' o vs t e ho hd hv=>?_;cases e;refine x.notX ho (λq=>?_) λt c q=>?_
 ·rw[q]at hd;cases hd;simp at hv
 ·rw[q]at hd;cases hd;simp[jef]at hv
theorem bz.lt (x:bz G h)(hb:G.X b):b<h.objs.size:=by
 refine au hb ?_;rintro t ht rfl;rcases x t ht with q|⟨c,q,_⟩
 ·exact Zu q
 ·exact Zu q
theorem bM.code (x:bz G h)(hc:bM G h c):∃q,h.CodeRec (.ref c) q:=by
 refine au hc λt ht e=>?_;rcases x t ht with q|⟨c',q,r⟩
 ·rw[e]at q;have:=congrArg (λo:Option Obj=>o.map (·.data)) q;simp at this
 ·rw[e]at q;have:c=c':=by
   have:=congrArg (λo:Option Obj=>o.map (·.data)) q;simpa using this
  subst this;exact⟨_,r⟩
theorem bM.lt (x:bz G h)(hc:bM G h c):c<h.objs.size:=by
 refine sm (bM.code x hc) λq c' o vs t e ho Y=>?_;cases e;exact Zu ho
theorem bz.noHas (x:bz G h)(e:h.get? a=some o)(hd:∀vs,o.data≠.fields vs):¬bM G h a:=λhc=>by
 refine DF (bM.code x hc) λq c' o' vs t e' ho lW Y=>?_;cases e';rw[e]at ho;cases ho;exact hd vs lW
theorem bz.butS {G:GD}{h h':jak}{X:Ze->Prop}(x:bz G h)(hk:∀b o,¬X b->h.get? b=some o->h'.get? b=some o)(hX:∀b,G.X b->¬X b)(hc:∀c,bM G h c->¬X c):bz G h'/\∀c,bM G h' c->bM G h c:=by
 have cV:∀t∈G.tabs,¬X t.2.1:=λt ht=>hX _ ⟨t,ht,rfl⟩;refine⟨λt ht=>?_,λc ⟨t,ht,e⟩=>⟨t,ht,?_⟩⟩
 ·rcases x t ht with q|⟨c,q,c',o,vs,tt,e',ho,r⟩
  ·exact .inl (hk _ _ (cV t ht) q)
  ·cases e';exact .inr ⟨c,hk _ _ (cV t ht) q,c,o,vs,tt,rfl,hk _ _ (hc c ⟨t,ht,q⟩) ho,r⟩
 ·rcases x t ht with q|⟨c',q,_⟩
  ·have:=hk _ _ (cV t ht) q;rw[e]at this;rw[q,<-this]
  ·have:=hk _ _ (cV t ht) q;rw[e]at this;rw[q,<-this]
theorem bz.but (x:bz G h)(hk:∀b o,b≠a->h.get? b=some o->h'.get? b=some o)(hX:¬G.X a)(hc:¬bM G h a):bz G h'/\∀c,bM G h' c->bM G h c :=
 x.butS (X:=(·=a)) (λb o hb e=>hk b o hb e) (λb hb q=>hX (q▸hb)) λc h q=>hc (q▸h)
theorem bh.keepsX (x:bh G h)(hk:∀b o,¬G.X b->h.get? b=some o->h'.get? b=some o)(ht:bz G h'):bh G h' where
 g:=x.g.at' λo e=>hk _ o (x.tabs.notX_ns x.g) e
 b:=x.b.at' λo e=>hk _ o (x.tabs.notX_ns x.b) e
 stat:=x.stat.at' λo e=>hk _ o (x.tabs.notX_ns x.stat) e
 tok:=by
  refine au x.tok λf z6 q=>?_;obtain⟨o,es,ep,ho,hx,hd,r⟩:=z6;exact aN f ⟨o,es,ep,hk _ o (x.tabs.notX_data ho λvs q=>by rw[hd]at q;cases q) ho,hx,hd,r⟩ q
 tokMod:=x.tokMod
 fns:=λk y fd e=>by
  obtain⟨a,o,h1,h2,h3,c,oc,vs,t,e1,e2,e3,e4⟩:=x.fns k y fd e;refine⟨a,o,h1,hk _ o (x.tabs.notX_data h2 λvs q=>by rw[h3]at q;cases q) h2,h3,c,oc,vs,t,e1,hk _ _ (x.tabs.notX_code (q:=fd.qualname) ⟨c,oc,vs,t,rfl,e2,e3,e4⟩) e2,e3,e4⟩
 heads:=λt eT=>by
  obtain⟨o,vs,su,tf,flags,tg,s9,dO,tt,e,hc,r⟩:=x.heads t eT;exact⟨o,vs,su,tf,flags,tg,s9,dO,tt,hk _ o (x.tabs.notX e (λq=>by rw[q]at hc;cases hc) λt c q=>by rw[q]at hc;cases hc) e,hc,r⟩
 tabs:=ht
 bmain:=by
  refine pZ x.bmain λbm ob h1 h2 h3 h4 h5 h6=>?_;exact F1 bm ob h1 h2 (hk _ _ (x.tabs.notX_data h3 λvs q=>by rw[h6]at q;cases q) h3) h4 h5 h6
 b1:=by
  obtain⟨a,n,h1,o,es,ep,t,ho,hx,hd,r⟩:=x.b1;exact⟨a,n,h1,o,es,ep,t,hk _ _ (x.tabs.notX_data ho λvs q=>by rw[hd]at q;cases q) ho,hx,hd,r⟩
 b3:=by
  refine n4 x.b3 λa f h1 h2 z5 q=>?_;obtain⟨o,es,ep,ho,hx,hd,r⟩:=z5;exact vU a f h1 h2 ⟨o,es,ep,hk _ _ (x.tabs.notX_data ho λvs q=>by rw[hd]at q;cases q) ho,hx,hd,r⟩ q
end
structure IW (G:GD) (s s':Y4):Prop where
 keeps:∃h t,s'={ s with heap:=h,toks:=t }/\∀b o,¬G.X b->s.heap.get? b=some o->h.get? b=some o
 size:s.heap.objs.size<=s'.heap.objs.size
structure GX (G:GD) (s:Y4) (φ:Gh) (s':Y4) (am:Gh):Prop where
 grows:IW G s s'
 sub:∀t x,φ t x->am t x
 tk:aW am s'
 tabs:bz G s.heap->bz G s'.heap/\∀c,bM G s'.heap c->bM G s.heap c\/s.heap.objs.size<=c
section
theorem GX.ext (x:GX G s φ s' am):∀b o,¬G.X b->s.heap.get? b=some o->s'.heap.get? b=some o:=by
 refine bB x.grows.keeps ?_;rintro h t rfl k;exact k
theorem Wk {s s':Y4}(hx:ce s.heap s'.heap)(x:bz G s.heap):bz G s'.heap/\∀c,bM G s'.heap c->bM G s.heap c\/s.heap.objs.size<=c:=by
 refine⟨x.keeps hx,λc ⟨t,ht,e⟩=>.inl ⟨t,ht,?_⟩⟩;rcases x t ht with q|⟨c',q,_⟩
 ·have:=hx _ _ q;rw[e]at this;rw[q,<-this]
 ·have:=hx _ _ q;rw[e]at this;rw[q,<-this]
theorem iW (hx:ce h h')(x:bz G h):∀c,bM G h' c->bM G h c:=λc ⟨t,ht,e⟩=>⟨t,ht,by
 rcases x t ht with q|⟨c',q,_⟩
 ·have:=hx _ _ q;rw[e]at this;rw[q,<-this]
 ·have:=hx _ _ q;rw[e]at this;rw[q,<-this]⟩
theorem Go.x (k:Go s φ s' am):GX G s φ s' am where
 grows:=⟨let⟨h,t,e,k⟩:=k.grows.keeps;⟨h,t,e,λb o Y e=>k b o e⟩,k.grows.size⟩
 sub:=k.sub
 tk:=k.tk
 tabs:=Wk k.ext
theorem GX.trans (x:GX G s φ s' am)(y:GX G s' am cO kE):GX G s φ cO kE where
 grows:=⟨by
  refine bB x.grows.keeps ?_;rintro h t rfl k;refine bB y.grows.keeps ?_;rintro h' t' rfl k';exact cZ h' t' rfl (λb o hb e=>k' b o hb (k b o hb e)),Y1 x.grows.size y.grows.size⟩
 sub:=λt z e=>y.sub t z (x.sub t z e)
 tk:=y.tk
 tabs:=λh=>by
  refine bN (x.tabs h) λh1 h2=>?_;refine bN (y.tabs h1) λh3 h4=>?_;exact⟨h3,λc hc=>(h4 c hc).elim (h2 c) λq=>.inr (Y1 x.grows.size q)⟩
theorem GX.refl (k:aW φ s):GX G s φ s φ:=(Go.refl k).x
theorem GX.same (k:aW φ s)(g:bF s s')(ht:s.toks<=s'.toks):GX G s φ s' φ:=(Go.same k g ht).x
theorem GX.then_but (k:GX G s φ s' am)(ht:bz G s.heap)(ha:s.heap.objs.size<=a)(hk:∀b o,b≠a->s'.heap.get? b=some o->h'.get? b=some o)(hc:¬bM G s'.heap a)(hX:¬G.X a)(hz:s'.heap.objs.size<=h'.objs.size)(jj:s'.toks<=t):GX G s φ { s' with heap:=h',toks:=t } am where
 grows:=⟨by
  refine bB k.grows.keeps ?_;rintro hh tt rfl kk;exact cZ h' t rfl (λb o hb e=>hk b o (λq=>Zr _ (bf (q▸Zu e:a<s.heap.objs.size) ha)) (kk b o hb e)),Y1 k.grows.size hz⟩
 sub:=k.sub
 tk:=⟨k.tk.fn,k.tk.pos,λt' x e=>bf (k.tk.lt t' x e) jj,bf k.tk.one jj⟩
 tabs:=λh=>by
  refine bN (k.tabs h) λh1 h2=>?_;refine bN (h1.but hk hX hc) λh3 h4=>?_;exact⟨h3,λc q=>h2 c (h4 c q)⟩
def eY (G:GD)(a:Ze):Prop:=(a==jad)=false/\¬G.X a
def IY (ab:Env)(β:List Ze)(a:Ze):Prop:=a∈β\/a=ab.locals\/∃x,ab.cells.lookup x=some a
def kJ (G:GD)(s:Y4)(P:Ze->Prop):Prop:=∀a,(s.heap.objs.size<=a\/bM G s.heap a)->P a
theorem kJ.f (F:kJ G s P):fD s P:=λa h=>F a (.inl h)
theorem kJ.go (F:kJ G s P)(k:GX G s φ s' am)(ht:bz G s.heap):kJ G s' P:=λa h=>h.elim (λh=>F a (.inl (Y1 k.grows.size h))) λh=>((k.tabs ht).2 a h).elim (λq=>F a (.inr q)) λq=>F a (.inl q)
structure ER (G:GD) (φ:Gh) (ab:Env) (T:Tb) (ρ:aB) (σ:aA) (β:List Ze) (P:Ze->Prop) (m:Str->Option Value) (s:Y4):Prop where
 ns:s.heap.Ns ab.locals m
 len:ρ.length=T.next
 names:∀(x:Str) (i:Nat) (v:AV),T.var x=some i->ρ[i]?=some (some v)->∃v',VR G.tok φ s.heap β P v v'/\nH ab m s.heap x v'
 celled:∀x,T.celled x=true->∃c dk,ab.cells.lookup x=some c/\s.heap.IsCell c dk
 objs:∀(i:Nat) (o:AO),σ[i]?=some o->o≠AO.gone->∃a,β[i]?=some a/\OR G.tok φ s.heap β P o a
 freshX:kJ G s P
 psafe:∀a,P a->eY G a
 bsafe:∀a,IY ab β a->eY G a
 blt:∀a,a∈β->a<s.heap.objs.size
 tk:aW φ s
theorem ER.fresh (R:ER G φ ab T ρ σ β P m s):fD s P:=R.freshX.f
theorem ER.psys (R:ER G φ ab T ρ σ β P m s):∀a,P a->(a==jad)=false:=λa p=>(R.psafe a p).1
theorem ER.keepP (R:ER G φ ab T ρ σ β P m s)(k:GX G s φ s' am):∀a o,P a->s.heap.get? a=some o->s'.heap.get? a=some o/\P a:=λa o p e=>⟨k.ext a o (R.psafe a p).2 e,p⟩
theorem ER.vr (R:ER G φ ab T ρ σ β P m s)(k:GX G s φ s' am)(r:VR G.tok φ s.heap β P v x):VR G.tok am s'.heap β P v x:=r.mono k.sub (R.keepP k) (Zj _)
theorem ER.vrs (R:ER G φ ab T ρ σ β P m s)(k:GX G s φ s' am)(r:ar G.tok φ s.heap β P v x):ar G.tok am s'.heap β P v x:=r.mono k.sub (R.keepP k) (Zj _)
theorem OR.at (kq:∀t x,φ t x->am t x)(hk:∀a o,P a->h.get? a=some o->h'.get? a=some o/\P a)(ha:∀o,h.get? a=some o->h'.get? a=some o)(r:OR tk φ h β P o a):OR tk am h' β P o a:=by
 cases r with
 |list e r=>exact .list (e.at ha) (r.mono kq hk (Zj _))
 |dict e hl r=>exact .dict (DictOf.at e ha) hl (r.mono kq hk (Zj _))
theorem ER.go (R:ER G φ ab T ρ σ β P m s)(k:GX G s φ s' am)(ht:bz G s.heap):ER G am ab T ρ σ β P m s' where
 ns:=R.ns.at' λo e=>k.ext _ o (R.bsafe _ (.inr (.inl rfl))).2 e
 len:=R.len
 names:=λx i v h1 h2=>by
  refine au (R.names x i v h1 h2) λv' a b=>?_;refine aN v' (R.vr k a) ?_;rcases b with b|⟨c,b1,b2,o,ho,hd⟩
  ·exact .inl b
  ·exact .inr ⟨c,b1,b2,o,k.ext c o (R.bsafe c (.inr (.inr ⟨x,b1⟩))).2 ho,hd⟩
 celled:=λx h=>by
  obtain⟨c,v,a,o,ho,hd⟩:=R.celled x h;exact⟨c,v,a,o,k.ext c o (R.bsafe c (.inr (.inr ⟨x,a⟩))).2 ho,hd⟩
 objs:=λi o h1 h2=>let⟨a,h3,h4⟩:=R.objs i o h1 h2;⟨a,h3,h4.at k.sub (R.keepP k) λo e=>k.ext a o (R.bsafe a (.inl (ZG h3))).2 e⟩
 freshX:=R.freshX.go k ht
 psafe:=R.psafe
 bsafe:=R.bsafe
 blt:=λa h=>bf (R.blt a h) k.grows.size
 tk:=k.tk
def lH (G:GD)(φ:Gh)(s:Y4)(β:List Ze)(P:Ze->Prop)(r:AV):Value->Y4->Prop :=
 λv' s'=>∃am,GX G s φ s' am/\VR G.tok am s'.heap β P r v'
def I7 (G:GD)(φ:Gh)(s:Y4)(β:List Ze)(P:Ze->Prop)(r:List AV):List Value->Y4->Prop :=
 λv' s'=>∃am,GX G s φ s' am/\ar G.tok am s'.heap β P r v'
theorem aK.x (h:aK G.tok φ s β P r v' s'):lH G φ s β P r v' s':=let⟨am,k,q⟩:=h;⟨am,k.x,q⟩
def ES (G:GD)(A:ZV)(ab:Env)(T:Tb)(ρ:aB)(σ:aA)(t:Sem Value)(v:AV):Prop :=
 ∀s φ β P m,bh G s.heap->ER G φ ab T ρ σ β P m s->Y' (Zb af wd) A t (lH G φ s β P v) ax s
end
section
theorem xZ (hE:bQ ab T)(hx:T.var x=some i)(hv:ρ[i]?=some (some v)):ES G A ab T ρ σ (jaa (.Name x pos) ab) v:=by
 intro s φ β P m I R;refine au (R.names x i v hx hv) λv' r n=>?_;have hd:=Hl hx;refine wpAny_Name ?_ hd.1;rcases n with⟨k,e⟩|⟨c,e,k,i⟩
 ·exact jiF hE.kind k R.ns e ⟨φ,.refl R.tk,r⟩
 ·rcases k with k|k
  ·exact jfC hE.kind k e i ⟨φ,.refl R.tk,r⟩
  ·exact jfB hE.kind k e i ⟨φ,.refl R.tk,r⟩ hd.2
end
section
def gS (G:GD)(A:ZV)(ab:Env)(T:Tb)(ρ:aB)(σ:aA)(t:Sem (List Value))(v:List AV):Prop :=
 ∀s φ β P m,bh G s.heap->ER G φ ab T ρ σ β P m s->Y' (Zb af wd) A t (I7 G φ s β P v) ax s
def TS (G:GD)(A:ZV)(ab:Env)(T:Tb)(ρ:aB)(σ:aA)(t:Sem Bool)(b:Bool):Prop :=
 ∀s φ β P m,bh G s.heap->ER G φ ab T ρ σ β P m s->Y' (Zb af wd) A t (λc s'=>c=b/\∃am,GX G s φ s' am) ax s
theorem bh.go (I:bh G s.heap)(k:GX G s φ s' am):bh G s'.heap:=I.keepsX k.ext (k.tabs I.tabs).1
theorem ES.post (h:ES G A ab T ρ σ t v)(I:bh G s.heap)(R:ER G φ ab T ρ σ β P m s)(hQ:∀x s' am,GX G s φ s' am->bh G s'.heap->ER G am ab T ρ σ β P m s'->VR G.tok am s'.heap β P v x->Q x s'):
 Y' (Zb af wd) A t Q E s :=
 up (h s φ β P m I R) λx s' ⟨am,k,r⟩=>hQ x s' am k (I.go k) (R.go k I.tabs) r
theorem gS.post (h:gS G A ab T ρ σ t v)(I:bh G s.heap)(R:ER G φ ab T ρ σ β P m s)(hQ:∀x s' am,GX G s φ s' am->bh G s'.heap->ER G am ab T ρ σ β P m s'->ar G.tok am s'.heap β P v x->Q x s'):
 Y' (Zb af wd) A t Q E s :=
 up (h s φ β P m I R) λx s' ⟨am,k,r⟩=>hQ x s' am k (I.go k) (R.go k I.tabs) r
theorem TS.post (h:TS G A ab T ρ σ t b)(I:bh G s.heap)(R:ER G φ ab T ρ σ β P m s)(hQ:∀s' am,GX G s φ s' am->bh G s'.heap->ER G am ab T ρ σ β P m s'->Q b s'):Y' (Zb af wd) A t Q E s :=
 up (h s φ β P m I R) λx s' ⟨e,am,k⟩=>by subst e;exact hQ s' am k (I.go k) (R.go k I.tabs)
theorem lC (k:GX G s φ s' am)(h:Y' (Zb af wd) A t (lH G am s' β P r) ax s'):Y' (Zb af wd) A t (lH G φ s β P r) ax s' :=
 up h λx cO ⟨kE,k',q⟩=>⟨kE,k.trans k',q⟩
theorem qX (k:GX G s φ s' am)(h:Y' (Zb af wd) A t (aK G.tok am s' β P r) ax s'):Y' (Zb af wd) A t (lH G φ s β P r) ax s' :=
 lC k (up h λx cO q=>q.x)
theorem Mw (e:xM c=some v):ES G A ab T ρ σ (jaa (.Constant c k pos) ab) v:=by
 intro s φ β P m I R;revert e
 induction c using Const.casesOn with
 |none=>exact λe=>Y3 e▸Constant_none (jU R.tk .none).x
 |bool b=>exact λe=>Y3 e▸Constant_bool (jU R.tk (.bool _)).x
 |int i=>exact λe=>Y3 e▸wpAny_Constant_int (fA R.tk).x
 |float x=>exact λe=>Y3 e▸PySem.wpAny_Constant_float (me R.tk).x
 |str x =>
  refine λe=>Y3 e▸wpAny_Constant_str ?_;have:=nu (tk:=G.tok) (β:=β) (P:=P) (x:=x.cps.toList) (t:=s.toks) R.tk (ZY s.toks);have e:(⟨x.cps.toList.toArray⟩:Str)=x:=by apply jhB;simp
  rw[e]at this;exact this.x
 |_=>exact λe=>ai e
theorem Mp (hA:A.handled=none)(ha:ES G A ab T ρ σ (jaa a ab) x)(hb:ES G A ab T ρ σ (jaa b ab) y)(e:dE σ op x y=some r):
 ES G A ab T ρ σ (jaa (.BinOp a op b pos) ab) r:=λs φ β P m I R =>
 jcP (ha.post I R λx' ak ay aw bd aI aF=>hb.post bd aI λy' aC aV aP dJ bW bI =>
  qX (aw.trans aP) (JR hA bW.tk bW.objs bW.fresh e (aI.vr aP aF) bI))
theorem MG (ha:ES G A ab T ρ σ (jaa a ab) x)(e:qV op x=some r):
 ES G A ab T ρ σ (jaa (.UnaryOp op a pos) ab) r:=λs φ β P m I R =>
 UnaryOp_ (ha.post I R λx' ak ay aw bd aI aF=>qX aw (Xl aI.tk e aF))
theorem Mu (hu:A.units<jhg)(hm:jev op b=false)(ha:ES G A ab T ρ σ (jaa a ab) x)(hb:ES G A ab T ρ σ (jaa b ab) y)(e:j4 σ op x y=some r):ES G A ab T ρ σ (jaa (.Compare a [op] [b] pos) ab) (.bool r):=λs φ β P m I R =>
 jhj (ha.post I R λx' ak ay aw bd aI aF=>hb.post bd aI λy' aC aV aP dJ bW bI =>
  qX (aw.trans aP) (Cu bW.tk dJ bW.objs hu e (aI.vr aP aF) bI)) hm
theorem W9 (hu:A.units<jhg)(hm:jev op b=false)(ha:ES G A ab T ρ σ (jaa a ab) x)(hb:ES G A ab T ρ σ (jaa b ab) y)(e:j4 σ op x y=some r):TS G A ab T ρ σ (jbs (.Compare a [op] [b] pos) ab whole) r:=λs φ β P m I R =>
 jfU (ha.post I R λx' ak ay aw bd aI aF=>hb.post bd aI λy' aC aV aP dJ bW bI =>
  up (Cu bW.tk dJ bW.objs hu e (aI.vr aP aF) bI) λv dj ⟨eU,cn,jn⟩=>by
   cases jn;exact jaJ ⟨rfl,eU,(aw.trans aP).trans cn.x⟩) hm
theorem W' (ha:TS G A ab T ρ σ (jbs a ab (jaa a ab)) b):TS G A ab T ρ σ (jbs (.UnaryOp .Not a pos) ab whole) (!b):=λs φ β P m I R =>
 isTrue_not (ha.post I R λs' am k Y Y=>⟨rfl,am,k⟩)
theorem Im (he:jbs e ab whole=(do let v <-whole;jfr e.pos;jfu [v] (truthy v)))(ha:ES G A ab T ρ σ whole (.bool b)):
 TS G A ab T ρ σ (jbs e ab whole) b:=λs φ β P m I R =>
 isTrue_plain (ha.post I R λx s' am k Y Y r=>by cases r;exact jaJ ⟨rfl,am,k⟩) he
theorem C4 (hc:TS G A ab T ρ σ (jbs c ab (jaa c ab)) t)(ha:t=true->ES G A ab T ρ σ (jaa a ab) v)(hb:t=false->ES G A ab T ρ σ (jaa b ab) v):
 ES G A ab T ρ σ (jaa (.IfExp c a b pos) ab) v:=λs φ β P m I R =>
 IfExp_ (hc.post I R λak ay aw bd aI=>by
  induction t using ZH with
  |true=>exact lC aw (ha rfl ak ay β P m bd aI)
  |false=>exact lC aw (hb rfl ak ay β P m bd aI))
theorem Ik (hc:TS G A ab T ρ σ (jbs c ab (jaa c ab)) t)(ha:t=true->TS G A ab T ρ σ (jbs a ab (jaa a ab)) r)(hb:t=false->TS G A ab T ρ σ (jbs b ab (jaa b ab)) r):TS G A ab T ρ σ (jbs (.IfExp c a b pos) ab whole) r:=λs φ β P m I R =>
 isTrue_IfExp (hc.post I R λak ay aw bd aI=>by
  induction t using ZH with
  |true=>exact(ha rfl).post bd aI λaC aV aP Y Y=>⟨rfl,aV,aw.trans aP⟩
  |false=>exact(hb rfl).post bd aI λaC aV aP Y Y=>⟨rfl,aV,aw.trans aP⟩)
theorem W8:TS G A ab T ρ σ (jbs (.BoolOp .And [] pos) ab whole) true:=λs φ β P m I R=>isTrue_and_nil ⟨rfl,φ,.refl R.tk⟩
theorem Ij (hc:TS G A ab T ρ σ (jbs a ab (jaa a ab)) t)(hf:t=false->r=false)(ha:t=true->TS G A ab T ρ σ (jbs (.BoolOp .And az pos) ab whole) r):TS G A ab T ρ σ (jbs (.BoolOp .And (a::az) pos) ab whole) r:=λs φ β P m I R =>
 isTrue_and (hc.post I R λak ay aw bd aI=>by
  induction t using ZH with
  |true=>exact(ha rfl).post bd aI λaC aV aP Y Y=>⟨rfl,aV,aw.trans aP⟩
  |false=>exact⟨(hf rfl).symm,ay,aw⟩)
theorem Xa:TS G A ab T ρ σ (jbs (.BoolOp .Or [] pos) ab whole) false:=λs φ β P m I R=>isTrue_or_nil ⟨rfl,φ,.refl R.tk⟩
theorem Il (hc:TS G A ab T ρ σ (jbs a ab (jaa a ab)) t)(hf:t=true->r=true)(ha:t=false->TS G A ab T ρ σ (jbs (.BoolOp .Or az pos) ab whole) r):TS G A ab T ρ σ (jbs (.BoolOp .Or (a::az) pos) ab whole) r:=λs φ β P m I R =>
 isTrue_or (hc.post I R λak ay aw bd aI=>by
  induction t using ZH with
  |false=>exact(ha rfl).post bd aI λaC aV aP Y Y=>⟨rfl,aV,aw.trans aP⟩
  |true=>exact⟨(hf rfl).symm,ay,aw⟩)
theorem C2 (hc:ES G A ab T ρ σ (jaa a ab) (.bool t))(hf:t=false->r=false)(ha:t=true->ES G A ab T ρ σ (jaa (.BoolOp .And (b::az) pos) ab) (.bool r)):ES G A ab T ρ σ (jaa (.BoolOp .And (a::b::az) pos) ab) (.bool r):=λs φ β P m I R =>
 BoolOp_and (hc.post I R λx ak ay aw bd aI aF=>by
  cases aF;refine jaJ ?_
  induction t using ZH with
  |true=>exact lC aw (ha rfl ak ay β P m bd aI)
  |false=>refine aa (hf rfl) ?_;exact⟨ay,aw,.bool _⟩)
theorem C6 (hc:ES G A ab T ρ σ (jaa a ab) (.bool t))(hf:t=true->r=true)(ha:t=false->ES G A ab T ρ σ (jaa (.BoolOp .Or (b::az) pos) ab) (.bool r)):ES G A ab T ρ σ (jaa (.BoolOp .Or (a::b::az) pos) ab) (.bool r):=λs φ β P m I R =>
 BoolOp_or (hc.post I R λx ak ay aw bd aI aF=>by
  cases aF;refine jaJ ?_
  induction t using ZH with
  |false=>exact lC aw (ha rfl ak ay β P m bd aI)
  |true=>refine aa (hf rfl) ?_;exact⟨ay,aw,.bool _⟩)
theorem MJ:gS G A ab T ρ σ (jcl (jcn pos (jas [] ab))) []:=λs φ β P m I R=>jdk ⟨φ,.refl R.tk,.nil⟩
theorem MI (he:jas (e::az) ab=(false,jaa e ab)::jas az ab)(h:ES G A ab T ρ σ (jaa e ab) v)(hr:gS G A ab T ρ σ (jcl (jcn pos (jas az ab))) vs):gS G A ab T ρ σ (jcl (jcn pos (jas (e::az) ab))) (v::vs):=λs φ β P m I R =>
 jcE (h.post I R λx ak ay aw bd aI aF=>hr.post bd aI λys aC aV aP dJ bW bI=>⟨aV,aw.trans aP,.cons (aI.vr aP aF) bI⟩) he
theorem MA (hs:vs.length<=100000)(h:∀pos,gS G A ab T ρ σ (jcl (jcn pos (jas elts ab))) vs):ES G A ab T ρ σ (jaa (.List elts pos) ab) (.lst vs):=λs φ β P m I R =>
 jcZ ((h pos).post I R λxs ak ay aw bd aI aF=>⟨d9 (by rw[<-aF.length];exact hs),by
  refine au (AY (s:=ak) aI.tk aI.fresh aF) λam k r=>?_;exact⟨am,aw.trans k.x,r⟩⟩)
theorem MF (hs:vs.length<=100000)(h:∀pos,gS G A ab T ρ σ (jcl (jcn pos (jas elts ab))) vs):ES G A ab T ρ σ (jaa (.Tuple elts n pos) ab) (.tup vs):=λs φ β P m I R =>
 jhS ((h pos).post I R λxs ak ay aw bd aI aF=>⟨d9 (by rw[<-aF.length];exact hs),by
  refine au (Hz (s:=ak) aI.tk aI.fresh aF) λam k r=>?_;exact⟨am,aw.trans k.x,r⟩⟩)
theorem Mz (ha:ES G A ab T ρ σ (jaa a ab) x)(hb:ES G A ab T ρ σ (jaa i ab) y)(e:m8 σ x y=some r):
 ES G A ab T ρ σ (jaa (.Subscript a i pos) ab) r:=λs φ β P m I R =>
 jfD (ha.post I R λx' ak ay aw bd aI aF=>hb.post bd aI λy' aC aV aP dJ bW bI =>
  qX (aw.trans aP) (Rr bW.tk bW.objs e (aI.vr aP aF) bI))
def PS (G:GD)(A:ZV)(ab:Env)(T:Tb)(ρ:aB)(σ:aA)(t:Sem Value)(v:Option Int):Prop :=
 ∀s φ β P m,bh G s.heap->ER G φ ab T ρ σ β P m s->Y' (Zb af wd) A t (λx s'=>(∃o:Option (Int×Tok),x=jbe o/\o.map (·.1)=v)/\∃am,GX G s φ s' am) ax s
theorem PS.post (h:PS G A ab T ρ σ t v)(I:bh G s.heap)(R:ER G φ ab T ρ σ β P m s)(hQ:∀o s' am,o.map (·.1)=v->GX G s φ s' am->bh G s'.heap->ER G am ab T ρ σ β P m s'->Q (jbe o) s'):Y' (Zb af wd) A t Q E s :=
 up (h s φ β P m I R) λx s' ⟨⟨o,e,e'⟩,am,k⟩=>by subst e;exact hQ o s' am e' k (I.go k) (R.go k I.tabs)
theorem UG:PS G A ab T ρ σ (jhf none ab) none:=λs φ β P m I R=>Zx ⟨⟨none,rfl,rfl⟩,φ,.refl R.tk⟩
theorem UH (h:ES G A ab T ρ σ (jaa e ab) (.int i)):PS G A ab T ρ σ (jhf (some e) ab) (some i):=λs φ β P m I R =>
 h.post I R λx ak ay aw bd aI aF=>by cases aF;exact⟨⟨some (_,_),rfl,rfl⟩,ay,aw⟩
theorem ME {a:Expr}{lo hi:Option Expr}{p pos:Pos}{x r:AV}{l u:Option Int}(ha:ES G A ab T ρ σ (jaa a ab) x)(hl:PS G A ab T ρ σ (jhf lo ab) l)(hu:PS G A ab T ρ σ (jhf hi ab) u)(e:qQ σ x l u=some r):ES G A ab T ρ σ (jaa (.Subscript a (.Slice lo hi none p) pos) ab) r:=λs φ β P m I R =>
 jfD (ha.post I R λx' ak ay aw bd aI aF=>wpAny_Slice (hl.post bd aI λUf aC aV mP aP dJ bW=>hu.post dJ bW λHb dj eU mQ cn rm i3=>by
  refine aa (evalPart_none _) ?_;refine Zx ?_;subst mP mQ;have r':=bW.vr cn (aI.vr aP aF);have k:GX G s φ { dj with heap:=dj.heap.push (kB (jbe Uf) (jbe Hb)) } eU:=((aw.trans aP).trans cn).trans (.same cn.tk bF.push (Y5 _));exact up (Vt i3.tk i3.objs i3.fresh e r') λv s' ⟨am,k',q⟩=>⟨am,((aw.trans aP).trans cn).trans k'.x,q⟩))
end
def f9:Expr->Bool
 | .Starred ..=>false
 |_=>true
theorem iV (h:f9 e=true):jas (e::az) ab=(false,jaa e ab)::jas az ab:=by
 cases e<;>first|rfl|cases h
theorem qS:∀{as:List Expr},as.all f9=true->(jcn pos (jas as ab)).any (·.1)=false
 | [],_=>rfl
 |e::as,h=>by
  rw[jch,Zv]at h;refine aa (iV h.1) ?_;show(false||(jcn pos (jas as ab)).any (·.1))=false;refine aa (qS h.2) ?_;rfl
theorem Ba:∀{as:List Expr},as.all f9=true->(jcn pos (jas as ab)).all (λx=>!x.1)=true
 | [],_=>rfl
 |e::as,h=>by
  rw[jch,Zv]at h;refine aa (iV h.1) ?_;show(true&&(jcn pos (jas as ab)).all (λx=>!x.1))=true;refine aa (Ba h.2) ?_;rfl
section
theorem VR.scalar (hs:v.scalar=true)(r:VR tk φ h β P v x)(kq:∀t y,φ t y->am t y):VR tk am h' aH P' v x:=by
 cases r with
 |none=>exact .none
 |bool b=>exact .bool b
 |int i t=>exact .int i t
 |flt y t ht=>exact .flt y t (kq _ _ ht)
 |str y t=>exact .str y t
 |_=>cases hs
def mr (G:GD)(x:Str)(v:Value):Prop:=G.mg x=some v\/(G.mg x=none/\G.mb x=some v)
theorem OQ (h:T.isGlobal x=true)(hE:bQ ab T):ab.kindOf x=some .globalImplicit/\(x==("__debug__" : Str))=false:=by
 unfold Tb.isGlobal at h;rw[Zv]at h;exact⟨hE.glob x (eq_of_beq h.1),(Hm h.2).1⟩
theorem jR (hE:bQ ab T)(h:T.isGlobal x=true)(hl:mr G x v)(I:bh G s.heap)(hq:Q v s):
 Y' (Zb af wd) A (jaa (.Name x pos) ab) Q E s:=by
 refine bN (OQ h hE) λh1 h2=>?_;refine PySem.Calls.Name_function_global hE.kind h1 ?_ h2;have hg:=I.g;have hb:=I.b;rw[<-hE.g]at hg;rw[<-hE.b]at hb;rcases hl with hl|hl
 ·exact jfd hg hl hq
 ·exact jeU hg hl.1 hb hl.2 hq
theorem My (hE:bQ ab T)(hG:dD G)(h:T.isGlobal x=true)(hl:sE.lookup x=some g):ES G A ab T ρ σ (jaa (.Name x pos) ab) (sD g):=by
 intro s φ β P m I R;obtain⟨v,h1,h2⟩:∃v,mr G x v/\VR G.tok φ s.heap β P (sD g) v:=aS (C:=λe=>∃v,mr G e.1 v/\VR G.tok φ s.heap β P (sD e.2) v) (hG.divLimit.elim λt ht=>aN _ (.inl ht) (.int _ _))
  (aS (hG.ntOffset.elim λt ht=>aN _ (.inl ht) (.int _ _)) (aS (hG.endMarker.elim λt ht=>aN _ (.inl ht) (.int _ _)) (aS ⟨_,.inl hG.tok,.tok⟩ jA))) (x,g) (mem_of_lookup hl)
 exact jR hE h h1 I ⟨φ,.refl R.tk,h2⟩
def BR (G:GD)(A:ZV)(σ:aA)(f:Value)(vs:List AV)(r:AV):Prop :=
 ∀s φ β P xs,bh G s.heap->aW φ s->cr G.tok φ s.heap β P σ->kJ G s P->(∀a,P a->eY G a)->(∀a,a∈β->eY G a)->ar G.tok φ s.heap β P vs xs ->
  Y' (Zb af wd) A (call f xs) (lH G φ s β P r) ax s
theorem BR.on (h:BR G A σ f vs r)(I:bh G s.heap)(R:ER G φ ab T ρ σ β P m s)(r':ar G.tok φ s.heap β P vs xs):
 Y' (Zb af wd) A (call f xs) (lH G φ s β P r) ax s:=h s φ β P xs I R.tk R.objs R.freshX R.psafe (λa h=>R.bsafe a (.inl h)) r'
theorem Mq {T:Tb}{x:Str}{p pos:Pos}{e:Expr}{az:List Expr}{id:String}{vs:List AV}{r:AV}(hE:bQ ab T)(hx:T.isGlobal x=true)(hl:mr G x (.builtin id))(hs:(e::az).all f9=true)(ha:gS G A ab T ρ σ (jcl (jcn pos (jas (e::az) ab))) vs)(hb:BR G A σ (.builtin id) vs r):ES G A ab T ρ σ (jaa (.Call (.Name x p) (e::az) [] pos) ab) r:=λs φ β P m I R =>
 jaH (jR hE hx hl I (by
  rw[jch,Zv]at hs;exact jeM (ha.post I R λxs ak ay aw bd aI aF=>lC aw (hb.on bd aI aF)) (iV hs.1) (qS hs.2)))
theorem Ms {T:Tb}{x:Str}{p pos:Pos}{e:Expr}{az:List Expr}{id:String}{vs:List AV}{r:AV}(hE:bQ ab T)(hx:T.isGlobal x=true)(hl:mr G x (.type id))(hs:(e::az).all f9=true)(ha:gS G A ab T ρ σ (jcl (jcn pos (jas (e::az) ab))) vs)(hb:BR G A σ (.type id) vs r):ES G A ab T ρ σ (jaa (.Call (.Name x p) (e::az) [] pos) ab) r:=λs φ β P m I R =>
 jaH (jR hE hx hl I (by
  rw[jch,Zv]at hs;exact jbi (ha.post I R λxs ak ay aw bd aI aF=>lC aw (hb.on bd aI aF)) (iV hs.1) (qS hs.2)))
theorem Mr (hE:bQ ab T)(hx:T.isGlobal x=true)(hk:G.fns k=some (x,fd))(hs:(e::az).all f9=true)(ha:gS G A ab T ρ σ (jcl (jcn pos (jas (e::az) ab))) vs)(hb:∀a,G.mg x=some (.ref a)->BR G A σ (.ref a) vs r):ES G A ab T ρ σ (jaa (.Call (.Name x p) (e::az) [] pos) ab) r:=λs φ β P m I R=>by
 refine n4 (I.fns k x fd hk) λa o h1 h2 h3 h4=>?_;refine jaH (jR hE hx (.inl h1) I ?_);rw[jch,Zv]at hs;exact jfo h3 (ha.post I R λxs ak ay aw bd aI aF=>⟨aw.ext _ _ (I.tabs.notX_data h2 λvs q=>by rw[h3]at q;cases q) h2,lC aw ((hb a h1).on bd aI aF)⟩) (iV hs.1)
structure ro (T:String) (name:Str) (id:String):Prop where
 pa:PlainAttrs T
 slot:Slot T name id
 ty:typeOf (.builtin id)=pure (.type "method_descriptor")
def mq (s:Y4)(x:Value)(T:String):Prop:=s.TypeIs x T/\∀a,x=.ref a->∃ob,s.heap.get? a=some ob/\ob.dict=none
theorem pr (h:B4 o=true):attributeBase o name ab whole=whole:=by
 induction o using ZU with
 |Call f as kws p =>
  induction f using ZU with
  |Name =>
   induction as using Y2 with
   |nil=>induction kws using Y2 with
    |nil=>exact bP h
    |cons=>rfl
   |cons=>rfl
  |_=>rfl
 |_=>rfl
theorem MD {G:GD}{o:Expr}{name:Str}{pk pos:Pos}{args:List Expr}{T' id:String}{v:AV}{vs:List AV}{r:AV}(bY:ff o args.length pk pos=true)(hM:ro T' name id)(hs:args.all f9=true)(ho:ES G A ab T ρ σ (jaa o ab) v)(hT:∀s φ β P x,cr G.tok φ s.heap β P σ->VR G.tok φ s.heap β P v x->bh G s.heap->mq s x T')(ha:gS G A ab T ρ σ (jcl (jcn pos (jas args ab))) vs)(hn:args=[]->vs=[])(hb:BR G A σ (.builtin id) (v::vs) r):ES G A ab T ρ σ (jaa (.Call (.Attribute o name pk) args [] pos) ab) r:=λs φ β P m I R=>by
 unfold ff at bY;rw[Zv,Zv]at bY;refine bN bY λz1 h3=>?_;obtain⟨h1,h2⟩:=z1;refine jbx (pr h1) ?_ h2 (ho.post I R λx ak ay aw bd aI aF=>?_)
 ·refine aa (Ba hs) ?_;exact(jcC _).trans (decide_eq_true (bf (of_decide_eq_true h3) (by decide)))
 ·refine bN (hT ak ay β P x aI.objs aF bd) λt1 t2=>?_;refine⟨T',id,hM.pa,hM.slot,hM.ty,t1,t2,?_⟩;refine jaG (qS hs) ?_
  induction args using Y2 with
  |nil =>
   have:=hn rfl;subst this;exact jbY (lC aw (hb.on bd aI (.cons aF .nil)))
  |cons e az =>
   rw[jch,Zv]at hs;have oC:=ha;rw[iV hs.1]at oC ⊢;exact jdm (oC.post bd aI λxs aC aV aP dJ bW bI=>lC (aw.trans aP) (hb.on dJ bW (.cons (aI.vr aP aF) bI)))
end
section
variable {A:ZV}{ab:Env}{T:Tb}{ρ:aB}{σ:aA}{G:GD}{s:Y4}{φ:Gh}{β:List Ze}{P:Ze->Prop}{m:Str->Option Value}{tk:Ze}{h:jak}
theorem wb {α γ:Type}{f:α->Option γ}{a:α}{as:List α}{bs:List γ}(e:bj f (a::as)=some bs):∃b cs,bs=b::cs/\f a=some b/\bj f as=some cs:=by
 rw[gO]at e
 induction hb:f a using ae with
 |none=>rw[hb]at e;exact ai e
 |some b =>
  induction hc:bj f as using ae with
  |none=>rw[hb,hc]at e;exact ai e
  |some cs=>rw[hb,hc]at e;exact m9 b cs ((Y3 e).symm) rfl rfl
theorem GH {f:AV->Option AV}{ks:List Int}:∀{vs:List AV}{es:List (Int×AV)},ks.length=vs.length->bj (λe:Int×AV=>(f e.2).map (e.1,·)) (ks.zip vs)=some es->∃us,es=ks.zip us/\bj f vs=some us:=by
 induction ks with
 |nil=>exact λ{vs es} hl e=>aN [] ((Y3 e).symm) (by refine aa (Z3.mp hl.symm) ?_;rfl)
 |cons k ks ih =>
  intro vs es hl e
  induction vs using Y2 with
  |nil=>exact nomatch hl
  |cons v vs =>
   refine bS (wb e) λb cs e1 h1 h2=>?_;refine au (Zs.mp h1) λu hu e2=>?_;refine au (ih (Z4 hl) h2) λus e3 h3=>?_;exact aN (u::us) (by refine aa e1 ?_;refine rwj e2 ?_;refine aa e3 ?_;rfl) (by rewrite [gO];refine aa hu ?_;refine aa h3 ?_;rfl)
theorem GG {α γ:Type}{f:α->Option γ}{as:List α}:∀{bs:List γ},bj f as=some bs->as.length=bs.length:=by
 induction as with
 |nil=>exact λe=>Y3 e▸rfl
 |cons a as ih=>exact λe=>by refine bS (wb e) ?_;rintro b cs rfl _ h;exact congrArg (·+1) (ih h)
section
variable {P':Ze->Prop}
theorem qh {f:AV->Option AV}(hf:∀{v v':AV}{x:Value},f v=some v'->VR tk φ h β P v x->VR tk φ h [] P' v' x){vs cW:List AV}{xs:List Value}(e:bj f vs=some cW)(r:ar tk φ h β P vs xs):ar tk φ h [] P' cW xs :=
 r.ind (motive:=λvs xs=>∀cW,bj f vs=some cW->ar tk φ h [] P' cW xs) (λcW e=>Y3 e▸.nil) (λra Y ih cW e=>by
  refine bS (wb e) λb cs e1 h1 h2=>?_;exact e1▸.cons (hf h1 ra) (ih cs h2)) cW e
theorem OD {f:AV->Option AV}{o:AO}{a:Ze}{v':AV}(hf:∀{v v':AV}{x:Value},f v=some v'->VR tk φ h β P v x->VR tk φ h [] P' v' x)(hp:P' a)(e:(match some o with
 |some (.list vs)=>(bj f vs).map AV.lst
 |some (.dict es)=>(bj (λe=>(f e.2).map (e.1,·)) es).map .dct
 |_=>none)=some v') (r:OR tk φ h β P o a):VR tk φ h [] P' v' (.ref a):=by
 cases r with
 |list e' r' =>
  refine au (Zs.mp e) λws hw e=>?_;exact e▸.lst e' hp (qh hf hw r')
 |dict e' hl r' =>
  refine au (Zs.mp e) λws hw e=>?_;refine au (GH hl hw) λzs e2 hz=>?_;exact e▸e2▸.dct e' hp (hl.trans (GG hz)) (qh hf hz r')
theorem yQ (O:cr tk φ h β P σ)(hP:∀a,P a->P' a)(hB:∀(i:Nat) (a:Ze),σ[i]?.isSome=true->β[i]?=some a->P' a)(n:Nat):∀{v v':AV}{x:Value},aZ σ n v=some v'->VR tk φ h β P v x->VR tk φ h [] P' v' x:=by
 induction n with
 |zero=>exact λe=>ai e
 |succ n ih =>
  intro v v' x e r
  induction v using AV.casesOn with
  |none=>exact Y3 e▸r.e_none .none
  |bool b=>exact Y3 e▸r.e_bool (.bool b)
  |int i=>exact Y3 e▸r.e_int λt=>.int i t
  |flt y=>exact Y3 e▸r.e_flt λt ht=>.flt y t ht
  |str y=>exact Y3 e▸r.e_str λt=>.str y t
  |tok=>exact Y3 e▸r.e_tok .tok
  |tup vs =>
   refine au (Zs.mp (show(bj (aZ σ n) vs).map .tup=some v' from e)) λus hu e=>?_;exact e▸r.e_tup λa xs e' p r=>.tup e' (hP _ p) (qh ih hu r)
  |lst vs =>
   refine au (Zs.mp (show(bj (aZ σ n) vs).map .lst=some v' from e)) λus hu e=>?_;exact e▸r.e_lst λa xs e' p r=>.lst e' (hP _ p) (qh ih hu r)
  |dct es =>
   refine au (Zs.mp (show(bj (λe:Int×AV=>(aZ σ n e.2).map (e.1,·)) es).map .dct=some v' from e)) λus hu e=>?_;refine e▸r.e_dct λa ks vs xs ol hl e' p r=>?_;rw[ol]at hu;refine au (GH hl hu) λws e2 hw=>?_;exact e2▸.dct e' (hP _ p) (hl.trans (GG hw)) (qh ih hw r)
  |ref i =>
   refine r.e_ref λa hb=>?_;rw[yR]at e
   induction hi:σ[i]? using ae with
   |none=>rw[hi]at e;exact ai e
   |some o =>
    rw[hi]at e;have hg:o≠.gone:=λq=>by rw[q]at e;exact ai e
    refine au (O i _ hi hg) λa' h1 h2=>?_;refine aa (Y3 (hb.symm.trans h1)) ?_;exact OD ih (hB i a' (by refine aa hi ?_;rfl) h1) e h2
theorem Eh (O:cr tk φ h β P σ)(hP:∀a,P a->P' a)(hB:∀(i:Nat) (a:Ze),σ[i]?.isSome=true->β[i]?=some a->P' a)(n:Nat){vs cW:List AV}{xs:List Value}(e:bj (aZ σ n) vs=some cW)(r:ar tk φ h β P vs xs):ar tk φ h [] P' cW xs :=
 qh (yQ O hP hB n) e r
end
theorem cr.nil:cr tk φ h β P []:=λi o e=>nomatch e
theorem VR.anyβ {v:AV}{x:Value}(r:VR tk φ h [] P v x):VR tk φ h β P v x:=r.mono (λY Y e=>e) (λY Y p e=>⟨e,p⟩) (List.nil_prefix)
def kF (G:GD)(A:ZV)(f:Value)(vs:List AV)(r:AV):Prop :=
 ∀s φ P xs,bh G s.heap->aW φ s->kJ G s P->(∀a,P a->eY G a)->ar G.tok φ s.heap [] P vs xs ->
  Y' (Zb af wd) A (call f xs) (lH G φ s [] P r) ax s
def uh (G:GD)(A:ZV)(Φ:cX):Prop :=
 ∀k vs r,Φ k vs=some r->∃x fd,G.fns k=some (x,fd)/\∀a,G.mg x=some (.ref a)->kF G A (.ref a) vs r
theorem J5 {Φ:cX}{k:Nat}{vs:List AV}{r:AV}(hΦ:uh G A Φ)(e:nO Φ σ k vs=some r):∃x fd,G.fns k=some (x,fd)/\∀a,G.mg x=some (.ref a)->BR G A σ (.ref a) vs r:=by
 unfold nO at e
 induction hb:bj (aZ [] 6) vs using ae with
 |some bs =>
  rw[hb]at e;refine bB (hΦ k bs r e) λx fd h1 h2=>?_;exact cZ x fd h1 (λa ha s φ β P xs I K O F hp je r'=>up (h2 a ha s φ P xs I K F hp (Eh (cr.nil (β:=β) (P:=P)) (λa p=>p) (λi a e=>by simp at e) 6 hb r')) λv s' ⟨am,k',q⟩=>⟨am,k',q.anyβ⟩)
 |none =>
  rw[hb]at e;clear hb
  induction hb:bj (aZ σ 6) vs using ae with
  |none=>rw[hb]at e;exact ai e
  |some bs =>
   rw[hb]at e;dsimp only at e
   induction hr:Φ k bs using ae with
   |none=>rw[hr]at e;exact ai e
   |some r' =>
    rw[hr]at e;refine bR e λhs e=>?_;rw[Y3 e]at hs hr;refine bB (hΦ k bs r hr) λx fd h1 h2=>?_;exact cZ x fd h1 (λa ha s φ β P xs I K O F hp je r'=>up (h2 a ha s φ (λa=>P a\/a∈β) xs I K (λa e=>.inl (F a e)) (λa e=>e.elim (hp a) (je a)) (Eh (P':=λa=>P a\/a∈β) O (λa p=>.inl p) (λi a Y e=>.inr (ZG e)) 6 hb r'))
     λv s' ⟨am,k',q⟩=>⟨am,k',q.scalar hs λY Y e=>e⟩)
inductive ug (G:GD) (A:ZV) (σ:aA) (x:Str) (vs:List AV) (r:AV):Prop
 |builtin (id:String) (hl:mr G x (.builtin id)) (h:BR G A σ (.builtin id) vs r)
 |type (id:String) (hl:mr G x (.type id)) (h:BR G A σ (.type id) vs r)
 |def_ (k:Nat) (fd:jay) (hk:G.fns k=some (x,fd)) (h:∀a,G.mg x=some (.ref a)->BR G A σ (.ref a) vs r)
def gE (G:GD):Prop:=∀x k y fd,gv.lookup x=some (.user k)->G.fns k=some (y,fd)->y=x
def DS:Fn->Str->Bool
 | .range,x=>x==("range" : Str)
 | .len,x=>x==("len" : Str)
 | .sum,x=>x==("sum" : Str)
 | .max,x=>x==("max" : Str)
 | .min,x=>x==("min" : Str)
 | .ord,x=>x==("ord" : Str)
 | .chr,x=>x==("chr" : Str)
 | .int,x=>x==("int" : Str)
 | .divmod,x=>x==("divmod" : Str)
 | .reversed,_=>true
 | .user _,_=>true
 |_,_=>false
theorem NB {x:Str}{f:Fn}(h:gv.lookup x=some f):DS f x=true :=
 Y6.mp (show gv.all (λe=>DS e.2 e.1)=true by decide +kernel) _ (mem_of_lookup h)
theorem ug.bi {x:Str}{vs:List AV}{r:AV}{y:String}(hG:dD G)(hy:y∈(["len","sum","max","min","ord","chr","divmod","isinstance"]:List String)) (hx:(x==jaT y)=true)
 (h:∀s φ β P xs,bh G s.heap->aW φ s->cr G.tok φ s.heap β P σ->kJ G s P->(∀a,P a->eY G a)->ar G.tok φ s.heap β P vs xs->Y' (Zb af wd) A (call (.builtin y) xs) (aK G.tok φ s β P r) ax s):ug G A σ x vs r :=
 .builtin y (eq_of_beq hx▸.inr (hG.builtins y hy)) λs φ β P xs I K O F hp Y r'=>up (h s φ β P xs I K O F hp r') λY Y q=>q.x
theorem KE {Φ:cX}{x:Str}{f:Fn}{vs:List AV}{r:AV}(hA:A.handled=none)(hG:dD G)(hN:gE G)(hΦ:uh G A Φ)(hx:gv.lookup x=some f)(e:nQ Φ σ f vs=some r):ug G A σ x vs r:=by
 have hn:=NB hx
 induction f using Fn.casesOn with
 |len=>exact .bi hG (by simp) hn λs φ β P xs I K O F hp r'=>Kt K O (λa p=>(hp a p).1) e r'
 |sum=>exact .bi hG (by simp) hn λs φ β P xs I K O F hp r'=>KD hA K O e r'
 |max=>exact .bi hG (by simp) hn λs φ β P xs I K O F hp r'=>Kv hA K O e r'
 |min=>exact .bi hG (by simp) hn λs φ β P xs I K O F hp r'=>Kx hA K e r'
 |ord=>exact .bi hG (by simp) hn λs φ β P xs I K O F hp r'=>Kz K e r'
 |chr=>exact .bi hG (by simp) hn λs φ β P xs I K O F hp r'=>Kc K e r'
 |divmod=>exact .bi hG (by simp) hn λs φ β P xs I K O F hp r'=>Kf K F.f e r'
 |int=>exact .type "int" (eq_of_beq (show(x==jaT "int")=true from hn)▸.inr (hG.types "int" (by simp))) λs φ β P xs I K O F hp hb r'=>up (Km K e r') λY Y q=>q.x
 |user k =>
  refine bB (J5 hΦ e) λy fd h1 h2=>?_;exact .def_ k fd (hN x k y fd hx h1▸h1) (hN x k y fd hx h1▸h2)
 |range=>exact ai e
 |reversed=>exact ai e
 |_=>exact bP hn
end
section
theorem QP (r:VR tk φ h β P (.str cs) x):mq s x "str" := r.e_str λY=>⟨jcT _ _ _,λY e=>nomatch e⟩
theorem QO (r:VR tk φ h β P (.int i) x):mq s x "int" := r.e_int λY=>⟨typeIs_int _ _ _,λY e=>nomatch e⟩
theorem zP (O:cr tk φ s.heap β P σ)(e:aQ σ v=some vs)(r:VR tk φ s.heap β P v x):mq s x "list" := by
 refine bS (Ao O e r) ?_;rintro a xs rfl h1 h2;refine⟨h1.isList.typeIs,λb e=>?_⟩;cases e;refine aX h1 λn ho=>?_;exact aN _ ho rfl
theorem FI (O:cr tk φ s.heap β P σ)(e:gH σ v=some es)(r:VR tk φ s.heap β P v x):mq s x "dict" := by
 refine sk (xU O e r) ?_;rintro a ks vs xs rfl _ _ h1 _;refine⟨h1.mapOf.typeIs,h1.mapOf.noDict⟩
theorem QQ (I:bh G s.heap)(r:VR G.tok φ h β P .tok x):mq s x "dict" := by
 refine au I.tok λf hm Y=>?_;exact r.e_tok ⟨hm.typeIs,hm.noDict⟩
def HT (G:GD)(σ:aA)(v:AV)(T':String):Prop:=∀s φ β P x,cr G.tok φ s.heap β P σ->VR G.tok φ s.heap β P v x->bh G s.heap->mq s x T'
theorem HT.str:HT G σ (.str cs) "str" := λY Y Y Y Y Y r Y=>QP r
theorem HT.list (e:aQ σ v=some vs):HT G σ v "list" := λY Y Y Y Y O r Y=>zP O e r
theorem Kk (e:nN σ (v::vs)=some r):(HT G σ v "str" /\ ∀s φ β P xs,aW φ s->ar G.tok φ s.heap β P (v::vs) xs->Y' (Zb af wd) A (call (.builtin "str.index") xs) (aK G.tok φ s β P r) ax s) \/
 (HT G σ v "list" /\ ∀s φ β P xs,aW φ s->cr G.tok φ s.heap β P σ->ar G.tok φ s.heap β P (v::vs) xs->Y' (Zb af wd) A (call (.builtin "list.index") xs) (aK G.tok φ s β P r) ax s):=by
 generalize hq:v::vs=as at e ⊢;revert hq;refine Kj (C:=λas r=>v::vs=as->(HT G σ v "str" /\ ∀s φ β P xs,aW φ s->ar G.tok φ s.heap β P as xs->Y' (Zb af wd) A (call (.builtin "str.index") xs) (aK G.tok φ s β P r) ax s) \/
  (HT G σ v "list" /\ ∀s φ β P xs,aW φ s->cr G.tok φ s.heap β P σ->ar G.tok φ s.heap β P as xs->Y' (Zb af wd) A (call (.builtin "list.index") xs) (aK G.tok φ s β P r) ax s)) ?_ ?_ e
 ·intro x y k az ho q;injection q with q
  subst q;exact .inl ⟨.str,λs φ β P xs K ra=>ra.e2 λa b r1 r3=>r1.e_str λt=>r3.e_str λu=>VW K ho⟩
 ·intro l i vs is k hl eS hk aU q;injection q with q
  refine .inr ⟨q▸.list hl,λs φ β P xs K O ra=>ra.e2 λa b r1 r3=>r3.e_int λu=>?_⟩;refine bS (fx O hl r1) ?_;rintro a xs rfl h1 h2;exact Sv K h1 (rI eS h2) hk aU
theorem Kd (K:aW φ s)(O:cr tk φ s.heap β P σ)(e:pE σ as=some r)(ra:ar tk φ s.heap β P as xs):
 Y' (Zb af wd) A (call (.builtin "list.count") xs) (aK tk φ s β P r) ax s :=
 Ch (C:=λas r=>∀{xs:List Value},ar tk φ s.heap β P as xs->Y' (Zb af wd) A (call (.builtin "list.count") xs) (aK tk φ s β P r) ax s) (λl i vs is hl eS xs ra=>ra.e2 λa b r1 r3=>r3.e_int λu=>by
  refine bS (fx O hl r1) ?_;rintro a xs rfl h1 h2;exact Su K h1 (rI eS h2)) e ra
theorem Kg (K:aW φ s)(e:mC as=some r)(ra:ar tk φ s.heap β P as xs):
 Y' (Zb af wd) A (call (.builtin "str.find") xs) (aK tk φ s β P r) ax s :=
 Ci (C:=λas r=>∀{xs:List Value},ar tk φ s.heap β P as xs->Y' (Zb af wd) A (call (.builtin "str.find") xs) (aK tk φ s β P r) ax s) (λx y xs ra=>ra.e2 λa b r1 r3=>r1.e_str λt=>r3.e_str λu=>VV K) e ra
theorem Kh (I:bh G s.heap)(K:aW φ s)(O:cr G.tok φ s.heap β P σ)(je:∀a,a∈β->(a==jad)=false)(e:uE σ as=some r)(ra:ar G.tok φ s.heap β P as xs):
 Y' (Zb af wd) A (call (.builtin "dict.get") xs) (aK G.tok φ s β P r) ax s:=by
 refine Cj (C:=λas r=>∀{xs:List Value},ar G.tok φ s.heap β P as xs->Y' (Zb af wd) A (call (.builtin "dict.get") xs) (aK G.tok φ s β P r) ax s) ?_ ?_ e ra
 ·exact λx d xs ra=>ra.e3 λa b c r1 r3 r5=>r1.e_tok (r3.e_str λt=>Wy K I r5)
 ·refine λj k d es hd xs ra=>ra.e3 λa b c r1 r3 r5=>r3.e_int λt=>?_;refine sk (xU O hd r1) ?_;rintro a' ks vs xs EX rfl hl h1 h2;refine au r1.inv λa2 e2 hb=>?_;cases EX.symm.trans e2;exact EX▸LO K h1 (je _ (ZG hb)) h2 r5
def GF:Fn->Option Str
 | .bitLength=>some "bit_length"
 | .index=>some "index"
 | .find=>some "find"
 | .join=>some "join"
 | .split=>some "split"
 | .count=>some "count"
 | .get=>some "get"
 |_=>none
theorem SO (h:iU.lookup x=some f):GF f=some x :=
 eq_of_beq (Y6.mp (show iU.all (λe=>GF e.2==some e.1)=true by decide +kernel) _ (mem_of_lookup h))
def gV (G:GD)(A:ZV)(σ:aA)(name:Str)(v:AV)(vs:List AV)(r:AV):Prop:=∃T' id,ro T' name id/\HT G σ v T'/\BR G A σ (.builtin id) (v::vs) r
section
theorem SP (e:uD (v::vs)=some r):gV G A σ "bit_length" v vs r :=
 ⟨"int","int.bit_length",⟨PySem.F.plainAttrs_int,slot_int_bit_length,type_int_bit_length⟩,Cg (C:=λas Y=>∀v vs,v::vs=as->HT G σ v "int") (λi v vs q=>by injection q with q;exact q▸λY Y Y Y Y Y r Y=>QO r) e v vs rfl,λs φ β P xs I K O F hp hb r'=>up (Ka K e r') λY Y q=>q.x⟩
theorem SV (e:nN σ (v::vs)=some r):gV G A σ "index" v vs r:=by
 rcases Kk (G:=G) (A:=A) e with⟨h1,h2⟩|⟨h1,h2⟩
 ·exact⟨"str","str.index",⟨jbT,jgF,PySem.F.type_str_index⟩,h1,λs φ β P xs I K O F hp hb r'=>up (h2 s φ β P xs K r') λY Y q=>q.x⟩
 ·exact⟨"list","list.index",⟨jcB,jgp,PySem.F.type_list_index⟩,h1,λs φ β P xs I K O F hp hb r'=>up (h2 s φ β P xs K O r') λY Y q=>q.x⟩
theorem SS (e:mC (v::vs)=some r):gV G A σ "find" v vs r :=
 ⟨"str","str.find",⟨jbT,jgS,PySem.F.type_str_find⟩,Ci (C:=λas Y=>∀v vs,v::vs=as->HT G σ v "str") (λx y v vs q=>by injection q with q;exact q▸.str) e v vs rfl,λs φ β P xs I K O F hp hb r'=>up (Kg K e r') λY Y q=>q.x⟩
theorem SW (e:uH σ (v::vs)=some r):gV G A σ "join" v vs r :=
 ⟨"str","str.join",⟨jbT,jgR,PySem.F.type_str_join⟩,Ck (C:=λas Y=>∀v vs,v::vs=as->HT G σ v "str") (λl ws xs Y Y Y v vs q=>by injection q with q;exact q▸.str) e v vs rfl,λs φ β P xs I K O F hp hb r'=>up (Kr K O e r') λY Y q=>q.x⟩
theorem SX (e:rS (v::vs)=some r):gV G A σ "split" v vs r :=
 ⟨"str","str.split",⟨jbT,jgD,PySem.F.type_str_split⟩,Cm (C:=λas Y=>∀v vs,v::vs=as->HT G σ v "str") (λx Y v vs q=>by injection q with q;exact q▸.str) e v vs rfl,λs φ β P xs I K O F hp hb r'=>up (KA K F.f e r') λY Y q=>q.x⟩
theorem SQ (e:pE σ (v::vs)=some r):gV G A σ "count" v vs r :=
 ⟨"list","list.count",⟨jcB,jgq,PySem.F.type_list_count⟩,Ch (C:=λas Y=>∀v vs,v::vs=as->HT G σ v "list") (λl i ws is hl Y v vs q=>by injection q with q;exact q▸.list hl) e v vs rfl,λs φ β P xs I K O F hp hb r'=>up (Kd K O e r') λY Y q=>q.x⟩
theorem SU (e:uE σ (v::vs)=some r):gV G A σ "get" v vs r :=
 ⟨"dict","dict.get",⟨jdY,jbZ,jgQ⟩,Cj (C:=λas Y=>∀v vs,v::vs=as->HT G σ v "dict") (λx d v vs q=>by injection q with q;exact q▸λY Y Y Y Y Y r I=>QQ I r)
  (λj k d es hd v vs q=>by injection q with q;exact q▸λY Y Y Y Y O r Y=>FI O hd r) e v vs rfl,λs φ β P xs I K O F hp hb r'=>up (Kh I K O (λa h=>(hb a h).1) e r') λY Y q=>q.x⟩
end
theorem Tg (hA:A.handled=none)(hl:iU.lookup name=some f)(e:nQ Φ σ f (v::vs)=some r):
 ∃T' id,ro T' name id/\(∀s φ β P x,cr G.tok φ s.heap β P σ->VR G.tok φ s.heap β P v x->bh G s.heap->mq s x T')/\BR G A σ (.builtin id) (v::vs) r:=by
 have hn:=SO hl;show gV G A σ name v vs r;clear hl
 induction f using Fn.casesOn with
 |bitLength=>exact aG (Q:=λn=>gV G A σ n v vs r) hn (SP e)
 |index=>exact aG (Q:=λn=>gV G A σ n v vs r) hn (SV e)
 |find=>exact aG (Q:=λn=>gV G A σ n v vs r) hn (SS e)
 |join=>exact aG (Q:=λn=>gV G A σ n v vs r) hn (SW e)
 |split=>exact aG (Q:=λn=>gV G A σ n v vs r) hn (SX e)
 |count=>exact aG (Q:=λn=>gV G A σ n v vs r) hn (SQ e)
 |get=>exact aG (Q:=λn=>gV G A σ n v vs r) hn (SU e)
 |_=>exact GZ hn.symm
end
section
theorem C3 (hE:bQ ab T)(hG:dD G)(hf:T.isGlobal ("isinstance" : Str)=true) (ht:T.isGlobal t=true) (hl:mr G t (.type ty)) (hs:f9 e=true) (he:ES G A ab T ρ σ (jaa e ab) v) (hc:∀s φ β P x,aW φ s->VR G.tok φ s.heap β P v x->Y' (Zb af wd) A (call (.builtin "isinstance") [x,.type ty]) (aK G.tok φ s β P r) ax s):
 ES G A ab T ρ σ (jaa (.Call (.Name ("isinstance" : Str) p) [e,.Name t tp] [] pos) ab) r:=λs φ β P m I R =>
 jaH (jR hE hf (.inr (hG.builtins "isinstance" (by simp))) I (jeM
  (jcE (he.post I R λx ak ay aw bd aI aF=>jcE (jR hE ht hl bd (jdk (qX aw (hc ak ay β P x aI.tk aF)))) rfl) (iV hs)) (iV hs) rfl))
theorem MC (hA:A.handled=none)(hE:bQ ab T)(hG:dD G)(hf:T.isGlobal ("list" : Str)=true) (bY:ff d 0 ap mp=true) (aU:es.length<=100000) (he:ES G A ab T ρ σ (jaa d ab) (.dct es)):
 ES G A ab T ρ σ (jaa (.Call (.Name ("list" : Str) p) [.Call (.Attribute d ("values" : Str) ap) [] [] mp] [] pos) ab) (.lst (es.map (·.2))):=λs φ β P m I R=>by
 refine jaH (jR hE hf (.inr (hG.types "list" (by simp))) I (jbi (jcE ?_ rfl) rfl rfl));unfold ff at bY;rw[Zv,Zv]at bY;refine bN bY λz1 h3=>?_;obtain⟨h1,h2⟩:=z1;refine jbx (pr h1) rfl h2 (he.post I R λx ak ay aw bd aI aF=>?_);have:=FI aI.objs (show gH σ (.dct es)=some es from rfl) aF;refine⟨"dict","dict.values",jdY,jgj,PySem.F.type_dict_values,this.1,this.2,?_⟩;refine jaG rfl (jbY ?_);exact up (Sy hA aI.tk aI.fresh aI.psys aU aF) λv aC cy=>jdk (up cy λv' dj ⟨am,k',r'⟩=>⟨am,aw.trans k'.x,r'⟩)
theorem xY (hE:bQ ab T)(hG:dD G)(hf:T.isGlobal ("range" : Str)=true) (hs:(e::bs).all f9=true) (ha:gS G A ab T ρ σ (jcl (jcn pos (jas (e::bs) ab))) vs) (he:nr vs=some is) (I:bh G s.heap) (R:ER G φ ab T ρ σ β P m s) (hQ:∀v s' am,GX G s φ s' am->o9 s' is v->Q v s'):Y' (Zb af wd) A (jaa (.Call (.Name ("range" : Str) p) (e::bs) [] pos) ab) Q E s:=by
 refine jaH (jR hE hf (.inr (hG.types "range" (by simp))) I ?_);rw[jch,Zv]at hs;exact jbi (ha.post I R λxs ak ay aw bd aI aF=>up (Hu aI.tk he aF) λv aC qq=>bN qq λaP rr=>hQ v aC ay (aw.trans aP.x) rr) (iV hs.1) (qS hs.2)
theorem MB (hA:A.handled=none)(hE:bQ ab T)(hG:dD G)(hl:T.isGlobal ("list" : Str)=true) (hf:T.isGlobal ("range" : Str)=true) (hs:(e::bs).all f9=true) (ha:∀pos,gS G A ab T ρ σ (jcl (jcn pos (jas (e::bs) ab))) vs) (he:nr vs=some is):
 ES G A ab T ρ σ (jaa (.Call (.Name ("list" : Str) p) [.Call (.Name ("range" : Str) rp) (e::bs) [] rpos] [] pos) ab) (.lst (is.map .int)):=λs φ β P m I R =>
 jaH (jR hE hl (.inr (hG.types "list" (by simp))) I (jbi (jcE
  (xY hE hG hf hs (ha _) he I R λv ak ay aw rr=>jdk (qX aw (Gw hA aw.tk (R.freshX.go aw I.tabs).f rr))) rfl) rfl rfl))
set_option tactic.hygienic true in
theorem Mx (hx:x.scalar=true)(hk:ES G A ab T ρ σ (jaa k ab) (.int i))(hv:ES G A ab T ρ σ (jaa v ab) x):
 ES G A ab T ρ σ (jaa (.Dict [some k] [v] pos) ab) (.dct [(i,x)]):=λs φ β P m I R=>by
 refine eF (wpAny_Dict_pairs (knd:=jap af wd) (pairs:=[(jaa k ab,do let x <-jaa v ab;jfr pos;pure x)]) rfl (by simp) (by simp) ?_);have v4:GX G s φ { s with heap:=s.heap.push { cls:=.type "dict",data:=.dict #[] } } φ:=.same R.tk bF.push (Y5 _);refine evalPairs_cons (hk.post (I.go v4) (R.go v4 I.tabs) λkx ak ay aw bd aI aF=>Y9 (hv.post bd aI λvx aC aV aP dJ bW bI=>Y9 (jaZ (Zx (evalPairs_nil ?_)))));cases aF;rename_i t;have hD:=ZZ (o:={ cls:=.type "dict",data:=.dict #[] }) s.heap rfl;have zy:¬G.X s.heap.objs.size:=(I.go v4).tabs.notX_data hD λvs q=>nomatch q;have O7:=(aw.trans aP).ext _ _ zy hD;refine li [(i,vx)] ⟨jeh _ _ _ _,rfl,trivial⟩ ?_ (λh' hm m6 up=>?_)
 ·refine DictOf.at (h:=s.heap.push { cls:=.type "dict",data:=.dict #[] }) ?_ λo ho=>(aw.trans aP).ext _ _ zy ho;exact jfj ..
 ·have kk:=(v4.trans aw).trans aP;refine⟨aV,kk.then_but I.tabs (Y5 _) (λb o hb e=>m6.extBut b o hb e) (dJ.tabs.noHas O7 λvs q=>nomatch q) zy (ZK m6.1.symm) (ZD _ _),?_⟩;have hr:VR G.tok aV h' β P x vx:=bI.scalar hx λY Y e=>e;exact .dct (ks:=[i]) (vs:=[x]) (xs:=[vx]) hm (R.fresh _ (Y5 _)) rfl (.cons hr .nil)
end
section
theorem OR.mono {G:GD}{h h':jak}(kq:∀t x,φ t x->am t x)(hk:∀a o,P a->h.get? a=some o->h'.get? a=some o/\P' a)(hb:β <+: aH)(ha:∀o,h.get? a=some o->h'.get? a=some o)(r:OR G.tok φ h β P o a):
 OR G.tok am h' aH P' o a:=by
 cases r with
 |list e r=>exact .list (e.at ha) (r.mono kq hk hb)
 |dict e hl r=>exact .dict (DictOf.at e ha) hl (r.mono kq hk hb)
structure mm (ab:Env) (T:Tb) (β:List Ze) (P:Ze->Prop):Prop where
 ploc:¬P ab.locals
 bloc:ab.locals∉β
 own:∀x,T.names.lookup x=some .cell->∃c,ab.cells.lookup x=some c/\¬P c/\c∉β
theorem rT {h:jak}(hn:h.Ns a m)(hc:h.IsCell c v):a≠c:=by
 rintro rfl;refine ka hn λo es ep ho hd Y=>?_;refine au hc λo' kl lW=>?_;rw[ho]at kl;cases kl;rw[hd]at lW;cases lW
set_option tactic.hygienic true in
theorem Xw {T:Tb}(hx:T.var x=some i):T.names.lookup x=some .local\/T.names.lookup x=some .cell\/T.names.lookup x=some .free:=by
 unfold Tb.var at hx;split at hx
 ·rename_i e;exact .inl e
 ·rename_i e;exact .inr (.inl e)
 ·rename_i e;exact .inr (.inr e)
 ·cases hx
set_option tactic.hygienic true in
theorem Vm {ρ:aB}(e:(ρ.set i (some v))[j]?=some (some u)):(i=j/\u=v)\/(i≠j/\ρ[j]?=some (some u)):=by
 rw[jbn]at e;split at e
 ·rename_i fb;split at e
  ·cases e;exact .inl ⟨fb,rfl⟩
  ·cases e
 ·rename_i fb;exact .inr ⟨fb,e⟩
theorem ER.stored {ab:Env}{T:Tb}{ρ:aB}{G:GD}{s:Y4}{h':jak}(hT:jx T)(hx:T.var x=some i)(R:ER G φ ab T ρ σ β P m s)(r:VR G.tok φ s.heap β P v xv)(hP:¬P ir)(s4:ir∉β)(hs:Z6 ir s.heap h')(ht:s.toks<=t)(TB:bz G s.heap)(hX:¬G.X ir)(iL:h'.Ns ab.locals m')(Pu:∀y c dk,ab.cells.lookup y=some c->s.heap.IsCell c dk->∃oX,h'.IsCell c oX)(Qb:nH ab m' h' x xv)(Qo:∀y v',y≠x->nH ab m s.heap y v'->nH ab m' h' y v'):
 ER G φ ab T (ρ.set i (some v)) σ β P m' { s with heap:=h',toks:=t }:=by
 have hk:∀a o,P a->s.heap.get? a=some o->h'.get? a=some o/\P a:=λa o p e=>⟨hs.extBut a o (λq=>hP (q▸p)) e,p⟩
 refine⟨iL,by refine aa jbL ?_;exact R.len,λy j u hy hj=>?_,λy hy=>?_,λj o hj ho=>?_,λa ha=>R.freshX a (ha.imp (λha=>?_) ((TB.but (λb o hb e=>hs.extBut b o hb e) hX λq=>hP (R.freshX ir (.inr q))).2 a)),R.psafe,R.bsafe,λa ha=>show a<h'.objs.size from(show h'.objs.size=s.heap.objs.size from hs.1)▸R.blt a ha,R.tk.fn,R.tk.pos,λt' y e=>bf (R.tk.lt t' y e) ht,bf R.tk.one ht⟩
 ·rcases Vm hj with⟨fb,rfl⟩|⟨fb,hj⟩
  ·subst fb;have:=hT.inj _ _ _ hx hy;subst this;exact aN xv (r.mono (λY Y e=>e) hk (Zj _)) Qb
  ·refine au (R.names y j u hy hj) λv' a b=>?_;refine aN v' (a.mono (λY Y e=>e) hk (Zj _)) (Qo y v' (λq=>fb ?_) b);subst q;rw[hx]at hy;exact Y3 hy
 ·refine bB (R.celled y hy) λc dk h1 h2=>?_;refine aX (Pu y c dk h1 h2) λoX h3=>?_;exact cZ c oX h1 h3
 ·refine au (R.objs j o hj ho) λa h1 h2=>?_;exact aN a h1 (h2.mono (λY Y e=>e) hk (Zj _) λo e=>hs.extBut a o (λq=>s4 (q▸ZG h1)) e)
 ·have:h'.objs.size=s.heap.objs.size:=hs.1;refine rwj this ?_;exact ha
theorem HS (TB:bz G s.heap)(hE:bQ ab T)(hT:jx T)(hx:T.var x=some i)(hk:T.names.lookup x=some .local\/T.names.lookup x=some .cell)(R:ER G φ ab T ρ σ β P m s)(FO:mm ab T β P)(r:VR G.tok φ s.heap β P v xv)(hQ:∀h' t m' ir,(ir=ab.locals\/(ab.cells.lookup x=some ir/\T.names.lookup x=some .cell))->Z6 ir s.heap h'->s.toks<=t->ER G φ ab T (ρ.set i (some v)) σ β P m' { s with heap:=h',toks:=t }->(bz G h'/\∀c,bM G h' c->bM G s.heap c)->Q () { s with heap:=h',toks:=t }):
 Y' (Zb af wd) A (jdw ab x xv) Q E s:=by
 rcases hk with hk|hk
 ·have ot:=hE.loc x hk;refine jir ot R.ns (λh' ji ej=>?_) (by refine aa hE.kind ?_;rfl);have EG:¬G.X ab.locals:=(R.bsafe _ (.inr (.inl rfl))).2;refine hQ h' _ _ ab.locals (.inl rfl) ej (ZY _) (R.stored hT hx r FO.ploc FO.bloc ej (ZY _) TB EG ji (λy c dk h1 h2=>⟨dk,h2.sameBut ej (jeC (rT R.ns h2))⟩) (.inl ⟨ot,by simp⟩) λy v' hy n=>?_) (TB.but (λb o hb e=>ej.extBut b o hb e) EG λq=>FO.ploc (R.freshX _ (.inr q)));rcases n with⟨a,b⟩|⟨c,a,b,d⟩
  ·exact .inl ⟨a,by simp[hy,b]⟩
  ·exact .inr ⟨c,a,b,d.sameBut ej (jeC (rT R.ns d))⟩
 ·have ot:=hE.cel x hk;refine fq (FO.own x hk) λc h1 h2 h3=>?_;refine bB (R.celled x (by unfold Tb.celled;refine aa hk ?_;rfl)) λc' dk h4 h5=>?_;rw[h1]at h4;cases h4;refine jiC hE.kind ot h1 h5 λh' gN ej=>?_;have EF:¬G.X c:=(R.bsafe _ (.inr (.inr ⟨x,h1⟩))).2;refine hQ h' s.toks m c (.inr ⟨h1,hk⟩) ej (Y5 _) (R.stored hT hx r h2 h3 ej (Y5 _) TB EF (R.ns.sameBut ej (rT R.ns h5)) (λy g7 oX e1 e2=>?_) (.inr ⟨c,h1,.inl ot,gN⟩) λy v' hy n=>?_) (TB.but (λb o hb e=>ej.extBut b o hb e) EF λq=>h2 (R.freshX _ (.inr q)))
  ·by_cases q:g7=c
   ·subst q;exact⟨_,gN⟩
   ·exact⟨oX,e2.sameBut ej q⟩
  ·rcases n with⟨a,b⟩|⟨g7,a,b,d⟩
   ·exact .inl ⟨a,b⟩
   ·exact .inr ⟨g7,a,b,d.sameBut ej λq=>hy (hE.inj y x g7 a (q▸h1))⟩
theorem ER.forget (R:ER G φ ab T av σ β P m s)(hl:ρ.length=av.length)(h:∀(i:Nat) (v:AV),ρ[i]?=some (some v)->av[i]?=some (some v)):ER G φ ab T ρ σ β P m s :=
 { R with len:=hl.trans R.len,names:=λx i v h1 h2=>R.names x i v h1 (h i v h2) }
theorem ER.but {ab:Env}{G:GD}{s:Y4}{h':jak}{X:Ze->Prop}{t:Tok}(TB:bz G s.heap)(Pf:∀b,G.X b->¬X b)(R:ER G φ ab T ρ σ β P m s)(hk:∀b o,¬X b->s.heap.get? b=some o->h'.get? b=some o)(hz:s.heap.objs.size<=h'.objs.size)(ht:s.toks<=t)(hP:∀a,P a->¬X a)(s4:∀a,a∈β->¬X a)(hl:¬X ab.locals)(hc:∀x c v,ab.cells.lookup x=some c->s.heap.IsCell c v->¬X c):ER G φ ab T ρ σ β P m { s with heap:=h',toks:=t }:=by
 have f8:∀a o,P a->s.heap.get? a=some o->h'.get? a=some o/\P a:=λa o p e=>⟨hk a o (hP a p) e,p⟩
 have hn:h'.Ns ab.locals m:=R.ns.at' λo e=>hk _ o hl e;refine⟨hn,R.len,λy j u hy hj=>?_,λy hy=>?_,λj o hj ho=>?_,λa ha=>R.freshX a (ha.imp (Y1 hz) ((TB.butS hk Pf λc q=>hP c (R.freshX c (.inr q))).2 a)),R.psafe,R.bsafe,λa ha=>bf (R.blt a ha) hz,R.tk.fn,R.tk.pos,λt' y e=>bf (R.tk.lt t' y e) ht,bf R.tk.one ht⟩
 ·refine au (R.names y j u hy hj) λv' a b=>?_;refine aN v' (a.mono (λY Y e=>e) f8 (Zj _)) ?_;rcases b with b|⟨c,a,b,o,ho,hd⟩
  ·exact .inl b
  ·exact .inr ⟨c,a,b,o,hk c o (hc _ c _ a ⟨o,ho,hd⟩) ho,hd⟩
 ·obtain⟨c,dk,h1,o,ho,hd⟩:=R.celled y hy;exact⟨c,dk,h1,o,hk c o (hc _ c _ h1 ⟨o,ho,hd⟩) ho,hd⟩
 ·refine au (R.objs j o hj ho) λa h1 h2=>?_;exact aN a h1 (h2.mono (λY Y e=>e) f8 (Zj _) λo e=>hk a o (s4 a (ZG h1)) e)
end
section
def jZ (A:ZV)(tk:Ze)(φ:Gh)(β:List Ze)(P:Ze->Prop)(F:Ze->Prop)(s:Y4)(vs:List AV)(it:Value)(s':Y4):Prop :=
 ∃(o:Obj) (fp:List Ze) (Pv:Nat->Value->Prop) (St:Nat->jak->Prop),it=.ref s.heap.objs.size/\s'={ s with heap:=s.heap.push o } /\
  Walks af wd A s.heap.objs.size fp [s.heap.objs.size] vs.length Pv St/\St 0 s'.heap/\(∀b∈fp,b=s.heap.objs.size\/(F b/\b<s.heap.objs.size)) /\
  ∀i x,Pv i x->∃v,vs[i]?=some v/\VR tk φ s.heap β P v x
@[elab_as_elim] theorem src_elim {s:Y4}{s':Y4}{F:Ze->Prop}{vs:List AV}{it:Value}{Q:Value->Y4->Prop} (h:jZ A tk φ β P F s vs it s') (k:∀(o:Obj) (fp:List Ze) (Pv:Nat->Value->Prop) (St:Nat->jak->Prop),Walks af wd A s.heap.objs.size fp [s.heap.objs.size] vs.length Pv St->St 0 (s.heap.push o)->(∀b∈fp,b=s.heap.objs.size\/(F b/\b<s.heap.objs.size))->(∀i x,Pv i x->∃v,vs[i]?=some v/\VR tk φ s.heap β P v x)->Q (.ref s.heap.objs.size) { s with heap:=s.heap.push o }):Q it s':=by
 refine yq h ?_;rintro o fp Pv St rfl rfl h1 h2 h3 h4;exact k o fp Pv St h1 h2 h3 h4
theorem HO (hA:A.handled=none)(hl:s.heap.IsList l xs.toArray)(hF:F l)(r:ar tk φ s.heap β P vs xs):
 Y' (Zb af wd) A (jdN (.ref l)) (jZ A tk φ β P F s vs) ax s:=by
 have a0:l<s.heap.objs.size:=by refine au hl λY e Y=>?_;exact Zu e
 refine wpAny_pyIter_list hl ⟨_,[s.heap.objs.size,l],λi v=>xs.toArray[i]?=some v,λi h=>h.IsListIter s.heap.objs.size l i/\h.IsList l xs.toArray,rfl,rfl,?_,⟨⟨_,ZZ _ rfl,rfl,rfl⟩,hl.push _⟩,λb hb=>?_,λi x hx=>?_⟩
 ·have:=Walks.list (prog:=af) (w:=wd) hA s.heap.objs.size l (jaE a0) xs.toArray;have be:xs.toArray.size=vs.length:=by rw[Zk,<-r.length]
  rw[be]at this;exact this
 ·simp only[ZQ,jen,or_false]at hb;rcases hb with rfl|rfl
  ·exact .inl rfl
  ·exact .inr ⟨hF,a0⟩
 ·refine au (r.getr (i:=i) (by simpa using hx)) λv h1 h2=>?_;exact aN v h1 h2
theorem VO (hA:A.handled=none)(hl:jgn s.heap l xs.toArray)(hF:F l)(r:ar tk φ s.heap β P vs xs):
 Y' (Zb af wd) A (jdN (.ref l)) (jZ A tk φ β P F s vs) ax s:=by
 have a0:l<s.heap.objs.size:=by refine au hl λY e Y=>?_;exact Zu e
 refine jjd hl ⟨_,[s.heap.objs.size,l],λi v=>xs.toArray[i]?=some v,λi h=>h.IsTupleIter s.heap.objs.size l i/\h.IsTuple l xs.toArray,rfl,rfl,?_,⟨⟨_,ZZ _ rfl,rfl,rfl⟩,Heap.IsTuple.push hl _⟩,λb hb=>?_,λi x hx=>?_⟩
 ·have:=Walks.tuple (prog:=af) (w:=wd) hA s.heap.objs.size l (jaE a0) xs.toArray;have be:xs.toArray.size=vs.length:=by rw[Zk,<-r.length]
  rw[be]at this;exact this
 ·simp only[ZQ,jen,or_false]at hb;rcases hb with rfl|rfl
  ·exact .inl rfl
  ·exact .inr ⟨hF,a0⟩
 ·refine au (r.getr (i:=i) (by simpa using hx)) λv h1 h2=>?_;exact aN v h1 h2
theorem VM {A:ZV}{cs:List Nat}(hA:A.handled=none):
 Y' (Zb af wd) A (jdN (.str ⟨cs.toArray⟩ t)) (jZ A tk φ β P F s (cs.map λc=>.str [c])) ax s:=by
 refine wpAny_pyIter_str λo St W h0=>⟨o,[s.heap.objs.size],SignAt ⟨cs.toArray⟩,St,rfl,rfl,?_,h0,λb hb=>.inl (Zq.mp hb),λi x hx=>?_⟩
 ·have:=W A hA;simp only[Zk]at this;refine aa (Y0 _) ?_;exact this
 ·refine bB hx ?_;rintro c t' h1 rfl;refine aN (.str [c]) ?_ (.str [c] t');refine aa ZO ?_;have:cs[i]?=some c:=by simpa using h1
  refine aa this ?_;rfl
theorem VK {A:ZV}{s:Y4}{ks:List Int}{vs:List AV}(hA:A.handled=none)(hd:s.heap.DictOf (jap af wd) d (ks.zip xs))(hY:(d==jad)=false)(hF:F d)(hl:ks.length=vs.length)(r:ar tk φ s.heap β P vs xs):
 Y' (Zb af wd) A (jdN (.ref d)) (jZ A tk φ β P F s ((ks.zip vs).map λe=>.int e.1)) ax s:=by
 refine aX hd.dictAt λep fu=>?_;have a0:=fu.lt_size;refine wpAny_pyIter_dict hY fu ⟨_,[s.heap.objs.size,d],λi v=>∃k x,(ks.zip xs)[i]?=some (k,x)/\(jap af wd).is k v=true,λi h=>h.IsKeyIter s.heap.objs.size d i (ks.zip xs).length ep/\h.DictAt (jap af wd) d (ks.zip xs) ep,rfl,rfl,?_,⟨⟨_,ZZ _ rfl,rfl,rfl⟩,fu.push _⟩,λb hb=>?_,λi x hx=>?_⟩
 ·have:=Walks.dictKeys hA s.heap.objs.size d (jaE a0) (ks.zip xs) ep (knd:=jap af wd);have aO:(ks.zip xs).length=((ks.zip vs).map λe=>AV.int e.1).length:=by refine aa (Y0 _) ?_;refine aa jbo ?_;refine aa jbo ?_;refine aa r.length ?_;rfl
  refine rwj aO ?_;exact this
 ·simp only[ZQ,jen,or_false]at hb;rcases hb with rfl|rfl
  ·exact .inl rfl
  ·exact .inr ⟨hF,a0⟩
 ·refine bB hx λk y h1 h2=>?_;refine aX (Value.isInt_shape h2) ?_;rintro t rfl;rw[jdX]at h1;refine au (r.getr h1.2) λv hv Y=>?_;refine aN (.int k) ?_ (.int k t);refine aa ZO ?_;have:(ks.zip vs)[i]?=some (k,v):=by rw[jdX];exact⟨h1.1,hv⟩
  refine aa this ?_;rfl
theorem HP (hA:A.handled=none)(R:o9 s is v):Y' (Zb af wd) A (jdN v) (jZ A tk φ β P F s (is.map .int)) ax s:=by
 refine DG R ?_;rintro r a b c t u x n rfl hr hs hn aU rfl;refine wpAny_pyIter_range hr hs ⟨_,[s.heap.objs.size],λi v=>i<n/\∃t,v=.int (a+i*c) t,λi h=>IsRangeIter h s.heap.objs.size (a+(i:Nat)*c) ((n:Int)-(i:Nat)) c,rfl,rfl,?_,?_,λb hb=>.inl (Zq.mp hb),λi x hx=>?_⟩
 ·have W:=Walks.range (prog:=af) (w:=wd) hA s.heap.objs.size a c n;refine aa (Y0 _) ?_;rw[AW];exact⟨W.sub,W.frame,λi s Q E hi st hQ=>W.item i s Q E hi st λv h' t hv=>hQ v h' t ⟨hi,hv⟩,W.done,W.self⟩
 ·show IsRangeIter _ _ _ _ _;refine aa hn ?_;simpa using ZZ _ rfl
 ·obtain⟨hi,tt,rfl⟩:=hx;refine aN (.int (a+i*c)) ?_ (.int _ _);refine aa ZO ?_;refine aa (AU c n a i hi) ?_;rfl
theorem RT {C:AV->List AV->Prop}{v:AV}{vs:List AV}(e:oG σ v=some vs)(h1:∀l,C (.tup l) l)(h2:∀cs:List Nat,C (.str cs) (cs.map λc=>.str [c]))(h3:∀es:List (Int×AV),C (.dct es) (es.map λe=>.int e.1))(h4:∀l,C (.lst l) l)(h5:∀i vs,aQ σ (.ref i)=some vs->C (.ref i) vs):C v vs:=by
 induction v using AV.casesOn with
 |tup l=>exact aG e (h1 l)
 |str cs=>exact aG e (h2 cs)
 |dct es=>exact aG e (h3 es)
 |lst l=>exact aG e (h4 l)
 |ref i=>exact h5 i vs e
 |_=>exact ai e
theorem HQ {A:ZV}{s:Y4}{v:AV}{vs:List AV}{x:Value}(hA:A.handled=none)(O:cr tk φ s.heap β P σ)(hp:∀a,P a->(a==jad)=false)(e:oG σ v=some vs)(r:VR tk φ s.heap β P v x):
 Y' (Zb af wd) A (jdN x) (jZ A tk φ β P (λb=>P b\/(v.isRef=true/\b∈β)) s vs) ax s:=by
 refine RT (C:=λv vs=>VR tk φ s.heap β P v x->Y' (Zb af wd) A (jdN x) (jZ A tk φ β P (λb=>P b\/(v.isRef=true/\b∈β)) s vs) ax s) e (λl r=>?_) (λcs r=>?_) (λes r=>?_) (λl r=>?_) (λi vs e r=>?_) r
 ·exact r.e_tup λa xs e' p r=>VO hA e' (.inl p) r
 ·exact r.e_str λt=>VM hA
 ·exact r.e_dct λa ks vs xs e0 hl e' p r=>e0▸VK hA e' (hp _ p) (.inl p) hl r
 ·exact r.e_lst λa xs e' p r=>HO hA e'.isList (.inl p) r
 ·refine bS (fx O e r) ?_;rintro l xs rfl h1 r1;exact r.inv.elim λa q=>HO hA h1 (.inr ⟨rfl,ZG (jdG q.1▸q.2)⟩) r1
end
section
def kQ (sc:jaB)(cl:List (Str×Ze))(n:Nat):List (Str×Ze):=jbJ (n+1) sc.names cl
def Hv (sc:jaB)(cl:List (Str×Ze))(C:Ze)(ab:Env):Env :=
 { scope:=sc,locals:=C,globals:=ab.globals,cells:=kQ sc cl C,qual:=ab.qual,func:=none,code:=ab.code,frame:=ab.frame,builtins:=ab.builtins }
def nM (sc:jaB)(cl:List (Str×Ze))(C:Ze)(ab:Env):Env:={ Hv sc cl C ab with scope:=relabel sc ab }
theorem Tx (h:Q (Hv sc cl s.heap.objs.size ab) { s with heap:=jft (s.heap.push { cls:=.type "dict",data:=.dict #[] }) sc.names }):
 Y' M A (newFunctionEnv sc ab.globals cl [] ab.qual none .none (some ab)) Q E s:=by
 simp only[newFunctionEnv,Option.isSome_some,if_true];refine Y9 (jiG ?_);refine Y9 (wpAny_layCells _ (λname kind cells=>by cases hkc:kind==jbW<;>simp[hkc]) _ _ _ _ ?_);refine aa (show({ s with heap:=s.heap.push { cls:=.type "dict",data:=.dict #[] } }:Y4).heap.objs.size=s.heap.objs.size+1 from ZP ..) ?_;simp only[jcQ];exact Y9 (Zx (Zx h))
def dr (ab:Env):List (Str×jbd)->List (Str×Ze)->List (Str×Ze)
 | [],acc=>acc
 |(n,k)::r,acc=>if k==.free then dr ab r ((n,(ab.cells.lookup n).getD 0)::acc)else dr ab r acc
theorem uI:dr ab ((n,k)::r) x =
 if(k==jag)=true then dr ab r ((n,Option.getD (jeb n ab.cells) 0)::x)
 else dr ab r x:=rfl
theorem xI (hf:∀n k acc,f (n,k) acc=if k==.free then(do let c <-jgA ab n;pure (.yield ((n,c)::acc)))else pure (.yield acc)):
 ∀(names:List (Str×jbd)) (acc:List (Str×Ze)),(∀n,(n,jag)∈names->∃c,ab.cells.lookup n=some c)->forIn names acc f=pure (dr ab names acc)
 | [],acc,_=>by refine aa jcQ ?_;rfl
 |(n,k)::r,acc,h=>by
  rw[jdv,hf];have hr:∀n,(n,jag)∈r->∃c,ab.cells.lookup n=some c:=λn hn=>h n (Zw _ hn)
  induction hk:k==jag using ZH with
  |true =>
   have:k=.free:=eq_of_beq hk;subst this;refine aX (h n Zf) λc hc=>?_;have e:jgA ab n=pure c:=by unfold jgA;refine aa hc ?_;rfl
   rw[if_pos rfl,e,pure_bind,pure_bind];show forIn r ((n,c)::acc) f=_;refine aa (xI hf r _ hr) ?_
   conv=>rhs;rw[uI]
   refine aa (if_pos hk) ?_;refine aa hc ?_;rfl
  |false =>
   refine aa (if_neg Z1) ?_;refine aa (pure_bind _ _) ?_;show forIn r acc f=_;refine aa (xI hf r _ hr) ?_
   conv=>rhs;rw[uI]
   rw[if_neg (by refine aa hk ?_;exact Z1)]
theorem Ct (h:∀n,(n,jag)∈sc.names->∃c,ab.cells.lookup n=some c):jcU sc ab=pure (dr ab sc.names []):=by
 simp only[jcU];rw[xI (ab:=ab) (λn k acc=>by cases hk:k==jag<;>simp[hk]) sc.names [] h];rfl
set_option tactic.hygienic true in
theorem pH:∀{names:List (Str×jbd)}{acc:List (Str×Ze)}{x:Str}{c:Ze},(dr ab names acc).lookup x=some c ->
 acc.lookup x=some c\/((x,jag)∈names/\(ab.cells.lookup x).getD 0=c)
 | [],acc,x,c,e=>.inl e
 |(n,k)::r,acc,x,c,e=>by
  rw[uI]at e;split at e
  ·rename_i hk;rcases pH e with e|e
   ·rw[ZX]at e;split at e
    ·rename_i hx;have:=eq_of_beq hx;have:=eq_of_beq hk
     subst_vars
     cases e;exact .inr ⟨Zf,rfl⟩
    ·exact .inl e
   ·exact .inr ⟨Zw _ e.1,e.2⟩
  ·rcases pH e with e|e
   ·exact .inl e
   ·exact .inr ⟨Zw _ e.1,e.2⟩
set_option tactic.hygienic true in
theorem xG:∀{names:List (Str×jbd)}{acc:List (Str×Ze)}{x:Str},(x,jag)∈names\/(acc.lookup x).isSome=true->((dr ab names acc).lookup x).isSome=true
 | [],acc,x,h=>by
  rcases h with h|h
  ·cases h
  ·exact h
 |(n,k)::r,acc,x,h=>by
  rw[uI];split
  ·rename_i hk;refine xG ?_;by_cases hx:x=n
   ·subst hx;right;simp
   ·rcases h with h|h
    ·rcases ZQ.mp h with h|h
     ·cases h;exact absurd rfl hx
     ·exact .inl h
    ·right;refine aa ZX ?_;have:(x==n)=false:=by simpa using hx
     refine aa this ?_;exact h
  ·rename_i hk;refine xG ?_;rcases h with h|h
   ·rcases ZQ.mp h with h|h
    ·cases h;exact absurd rfl hk
    ·exact .inl h
   ·exact .inr h
theorem pG:∀(names:List (Str×jbd)) (n:Nat) (acc:List (Str×Ze)),jbJ n names acc=jbJ n names []++acc
 | [],_,_=>rfl
 |(x,k)::r,n,acc=>by
  unfold jbJ;split
  ·rw[pG r (n+1) ((x,n)::acc),pG r (n+1) [(x,n)]];simp
  ·exact pG r n acc
theorem Ar {l l':List (Str×Ze)}:(l++l').lookup x=(l.lookup x).or (l'.lookup x):=by
 induction l with
 |nil=>rfl
 |cons a l ih =>
  obtain⟨y,c⟩:=a;refine aa jdf ?_;refine aa ZX ?_;refine aa ZX ?_;split
  ·rfl
  ·exact ih
set_option tactic.hygienic true in
theorem rU:∀{names:List (Str×jbd)}{n:Nat}{acc:List (Str×Ze)}{x:Str}{c:Ze},(x,c)∈jbJ n names acc->(x,c)∈acc\/(x,jbW)∈names
 | [],_,_,_,_,h=>.inl h
 |(y,k)::r,n,acc,x,c,h=>by
  unfold jbJ at h;split at h
  ·rename_i hk;rcases rU h with h|h
   ·rcases ZQ.mp h with h|h
    ·cases h;have:=eq_of_beq hk;subst this;exact .inr Zf
    ·exact .inl h
   ·exact .inr (Zw _ h)
  ·rcases rU h with h|h
   ·exact .inl h
   ·exact .inr (Zw _ h)
theorem lu {names:List (Str×jbd)}(hn:(names.map (·.1)).Nodup)(h:(x,k)∈names):names.lookup x=some k:=by
 induction names with
 |nil=>cases h
 |cons a r ih =>
  obtain⟨y,k'⟩:=a;rw[ZC,jaL]at hn;refine aa ZX ?_;rcases ZQ.mp h with h|h
  ·cases h;simp
  ·have:x≠y:=λq=>hn.1 (q▸Zn.mpr ⟨_,h,rfl⟩);have:(x==y)=false:=by simpa using this
   refine aa this ?_;exact ih hn.2 h
end
section
theorem GA {ab:Env}:∀{names:List (Str×jbd)},names.lookup x=some k ->
 (names.map λ(n,k)=>if(k==jag&&ab.scope.kind==.function&&ab.kindOf n==some .cell)then(n,jbW)else(n,k)).lookup x =
  some (if(k==jag&&ab.scope.kind==.function&&ab.kindOf x==some .cell)then jbW else k)
 | [],h=>by simp at h
 |(n,k')::r,h=>by
  rw[ZX]at h;refine aa ZC ?_
  induction hx:x==n using ZH with
  |true =>
   rw[hx]at h;cases h;have:=eq_of_beq hx;subst this;dsimp only;split<;>simp[ZX, *]
  |false =>
   rw[hx]at h;have ih:=GA (ab:=ab) h;dsimp only;split
   ·refine aa ZX ?_;refine aa hx ?_;exact ih
   ·refine aa ZX ?_;refine aa hx ?_;exact ih
theorem tl {ab:Env}{sc:jaB}(h:sc.names.lookup x=some k):
 (nM sc cl C ab).kindOf x=some (if(k==jag&&ab.scope.kind==.function&&ab.kindOf x==some .cell)then jbW else k):=GA h
set_option tactic.hygienic true in
theorem wc:∀{l:List (Str×Nat)},l.lookup x=some i->(x,i)∈l
 |(y,j)::l,h=>by
  rw[ZX]at h;split at h
  ·rename_i e;have:=eq_of_beq e;subst this;cases h;exact Zf
  ·exact Zw _ (wc h)
theorem qW {T:Tb}(h:T.var x=some i):(x,i)∈T.vars:=by
 unfold Tb.var at h;split at h
 ·split at h
  ·exact wc h
  ·cases h
 ·split at h
  ·exact wc h
  ·cases h
 ·split at h
  ·exact wc h
  ·cases h
 ·cases h
theorem tU (h:oQ T=true):jx T:=by
 unfold oQ at h;rw[Y6]at h;refine⟨λx y i hx hy=>?_,λx i hx=>?_⟩
 ·have h1:=h _ (qW hx);rw[Zv,Y6]at h1;have h2:=h1.2 _ (qW hy);simpa using h2
 ·have h1:=h _ (qW hx);rw[Zv]at h1;simpa using h1.1
def fN (P:Ze->Prop)(n n':Nat):Ze->Prop:=λa=>P a/\¬(n<=a/\a<n')
theorem ER.grow_out (TB:bz G s.heap)(R:ER G φ ab T ρ σ β P m s)(hk:ce s.heap h')(hz:s.heap.objs.size<=h'.objs.size)(ht:s.toks<=t):
 ER G φ ab T ρ σ β (fN P s.heap.objs.size h'.objs.size) m { s with heap:=h',toks:=t }:=by
 have f8:∀a o,P a->s.heap.get? a=some o->h'.get? a=some o/\fN P s.heap.objs.size h'.objs.size a:=λa o p e=>⟨hk a o e,p,λq=>ZW.mpr q.1 (Zu e)⟩
 refine⟨R.ns.keeps hk,R.len,λy j u hy hj=>?_,λy hy=>?_,λj o hj ho=>?_,λa ha=>ha.elim (λha=>⟨R.fresh a (Y1 hz ha),λq=>ZW.mpr (show h'.objs.size<=a from ha) q.2⟩) (λha=>⟨R.freshX a (.inr (iW hk TB a ha)),λq=>ZW.mpr q.1 (bM.lt TB (iW hk TB a ha))⟩),λa p=>R.psafe a p.1,R.bsafe,λa ha=>bf (R.blt a ha) hz,R.tk.fn,R.tk.pos,λt' y e=>bf (R.tk.lt t' y e) ht,bf R.tk.one ht⟩
 ·refine au (R.names y j u hy hj) λv' a b=>?_;exact aN v' (a.mono (λY Y e=>e) f8 (Zj _)) (b.keeps hk)
 ·refine bB (R.celled y hy) λc dk h1 h2=>?_;exact cZ c dk h1 (h2.keeps hk)
 ·refine au (R.objs j o hj ho) λa h1 h2=>?_;exact aN a h1 (h2.mono (λY Y e=>e) f8 (Zj _) λo e=>hk a o e)
structure kG (T:Tb) (sc:jaB):Prop where
 kind:sc.kind=.function
 nodup:(sc.names.map (·.1)).Nodup
 free:∀x,(x,jag)∈sc.names->T.celled x=true
 tb:jx (T.comp sc)
theorem AS:∀(names:List (Str×jbd)) (h:jak),h.objs.size<=(jft h names).objs.size
 | [],h=>Y5 _
 |(_,k)::r,h=>by
  unfold jft;split
  ·have:=AS r (h.push { cls:=.type "cell",data:=.cell none });rw[ZP]at this;exact ZM this
  ·exact AS r h
theorem KO (hE:bQ ab T)(h:T.celled x=true):ab.kindOf x=some .cell\/ab.kindOf x=some .free:=by
 unfold Tb.celled at h;rw[jbr]at h;rcases h with h|h
 ·exact .inl (hE.cel x (by simpa using h))
 ·exact hE.fre x (by simpa using h)
theorem wg (C:kG T sc)(R:ER G φ ab T ρ σ β P m s):
 (∀x c,(kQ sc (dr ab sc.names []) s.heap.objs.size).lookup x=some c ->
  ((x,jbW)∈sc.names/\s.heap.objs.size<c/\(jft (s.heap.push { cls:=.type "dict",data:=.dict #[] }) sc.names).IsCell c none) \/
  ((x,jag)∈sc.names/\ab.cells.lookup x=some c/\c<s.heap.objs.size)) /\
 (∀x,(x,jbW)∈sc.names->∃c,(kQ sc (dr ab sc.names []) s.heap.objs.size).lookup x=some c/\s.heap.objs.size<c/\(jft (s.heap.push { cls:=.type "dict",data:=.dict #[] }) sc.names).IsCell c none) /\
 (∀x,(x,jag)∈sc.names->∃c,(kQ sc (dr ab sc.names []) s.heap.objs.size).lookup x=some c/\ab.cells.lookup x=some c) /\
 (∀x y c,(x,c)∈jbJ (s.heap.objs.size+1) sc.names []->(y,c)∈jbJ (s.heap.objs.size+1) sc.names []->x=y):=by
 have ok:=cellsFrom_ok sc.names (s.heap.push { cls:=.type "dict",data:=.dict #[] }) (s.heap.objs.size+1) [] ⟨λY Y hm=>(nomatch hm),List.Pairwise.nil⟩ (by rw[ZP];exact Y5 _);rw[ZP]at ok;have split:∀x c,(kQ sc (dr ab sc.names []) s.heap.objs.size).lookup x=some c->(x,c)∈jbJ (s.heap.objs.size+1) sc.names []\/((jbJ (s.heap.objs.size+1) sc.names []).lookup x=none/\(dr ab sc.names []).lookup x=some c):=by
  intro x c e;unfold kQ at e;rw[pG,Ar]at e
  induction q:(jbJ (s.heap.objs.size+1) sc.names []).lookup x using ae with
  |some c'=>rw[q]at e;cases e;exact .inl (mem_of_lookup q)
  |none=>rw[q]at e;exact .inr ⟨rfl,e⟩
 have Ef:∀x,(x,jag)∈sc.names->∃c,ab.cells.lookup x=some c/\c<s.heap.objs.size:=λx hx=>by
  refine bB (R.celled x (C.free x hx)) λc v h1 h2=>?_;exact aN c h1 h2.lt
 refine lh (λx c e=>?_) (λx hx=>?_) (λx hx=>?_) (λx y c h1 h2=>name_of_addr ok.apart h1 h2)
 ·rcases split x c e with h|⟨_,h⟩
  ·have:=ok.empty x c h;rcases rU h with q|q
   ·cases q
   ·exact .inl ⟨q,this.2,this.1⟩
  ·rcases pH h with q|⟨q,q'⟩
   ·cases q
   ·refine au (Ef x q) λc' h1 h2=>?_;rw[h1]at q';cases q';exact .inr ⟨q,h1,h2⟩
 ·have h1:=lu C.nodup hx;have h2:=jgh sc.names (s.heap.objs.size+1) (dr ab sc.names []) (.inl h1);refine aX (jcy.mp h2) λc hc=>?_;refine aN c hc ?_;rcases split x c hc with h|⟨_,h⟩
  ·have:=ok.empty x c h;exact⟨this.2,this.1⟩
  ·rcases pH h with q|⟨q,q'⟩
   ·cases q
   ·have:=lu C.nodup q;rw[h1]at this;cases this
 ·have h1:=lu C.nodup hx;refine au (Ef x hx) λc hc a0=>?_;have h2:=xG (ab:=ab) (names:=sc.names) (acc:=[]) (x:=x) (.inl hx);refine aX (jcy.mp h2) λc' gN=>?_;have Ps:c'=c:=by
   rcases pH gN with q|⟨q,q'⟩
   ·cases q
   ·rw[hc]at q';exact q'.symm
  subst Ps;refine aN c' ?_ hc;unfold kQ;rw[pG,Ar]
  induction q:(jbJ (s.heap.objs.size+1) sc.names []).lookup x using ae with
  |none=>exact gN
  |some CE =>
   rcases rU (mem_of_lookup q)with q|q
   ·cases q
   ·have:=lu C.nodup q;rw[h1]at this;cases this
end
section
abbrev ft (h:jak)(sc:jaB):jak:=jft (h.push { cls:=.type "dict",data:=.dict #[] }) sc.names
theorem Ed (h:jak)(sc:jaB):ce h (ft h sc):=λb o e=>pushCells_keeps _ _ b o (Zd _ e)
theorem Ee (h:jak)(sc:jaB):h.objs.size<(ft h sc).objs.size:=by
 have:=AS sc.names (h.push { cls:=.type "dict",data:=.dict #[] });rw[ZP]at this;exact this
theorem Me (hE:bQ ab T)(C:kG T sc)(R:ER G φ ab T ρ σ β P m s):bQ (nM sc (dr ab sc.names []) s.heap.objs.size ab) (T.comp sc):=by
 refine pY (wg (s:=s) C R) λc1 c2 c3 c4=>?_;refine⟨C.kind,λx hx=>?_,λx hx=>?_,λx hx=>?_,λx y c hx hy=>?_,λx hx=>?_,hE.g,hE.b⟩
 ·exact tl hx
 ·exact tl hx
 ·have:=tl (ab:=ab) (cl:=dr ab sc.names []) (C:=s.heap.objs.size) (sc:=sc) hx;refine aa this ?_;split
  ·exact .inl rfl
  ·exact .inr rfl
 ·rcases c1 x c hx with⟨a1,a2,a3⟩|⟨a1,a2,a3⟩<;>rcases c1 y c hy with⟨b1,b2,b3⟩|⟨b1,b2,b3⟩
  ·have key:∀z,(z,jbW)∈sc.names->(kQ sc (dr ab sc.names []) s.heap.objs.size).lookup z=some c->(z,c)∈jbJ (s.heap.objs.size+1) sc.names []:=by
    intro z hz e;unfold kQ at e;rw[pG,Ar]at e
    induction q:(jbJ (s.heap.objs.size+1) sc.names []).lookup z using ae with
    |some c'=>rw[q]at e;cases e;exact mem_of_lookup q
    |none =>
     rw[q]at e;rcases pH (show(dr ab sc.names []).lookup z=some c from e)with q|⟨q,_⟩
     ·cases q
     ·have h1:=lu C.nodup hz;have h2:=lu C.nodup q;rw[h1]at h2;cases h2
   exact c4 x y c (key x a1 hx) (key y b1 hy)
  ·exact absurd a2 (jeA b3)
  ·exact absurd b2 (jeA a3)
  ·exact hE.inj x y c a2 b2
 ·exact tl hx
set_option tactic.hygienic true in
theorem NX (h:x∈qf sc):(x,jag)∈sc.names:=by
 unfold qf at h;refine au (jdJ.mp h) λz1 h1 h2=>?_;obtain⟨n,k⟩:=z1;simp only at h2;split at h2
 ·rename_i hk;cases h2;have:=eq_of_beq hk;subst this;exact h1
 ·cases h2
theorem Lf (C:kG T sc)(h:(T.comp sc).var x=some i):
 (T.next<=i)\/((x,jag)∈sc.names/\T.var x=some i):=by
 have hm:=qW h;simp only[Tb.comp,ZE,Zn,jdJ]at hm;rcases hm with⟨⟨n,j⟩,_,e⟩|⟨n,hn,e⟩
 ·cases e;exact .inl (ZD _ _)
 ·refine au (Zs.mp e) λi' hi e=>?_;cases e;exact .inr ⟨NX hn,hi⟩
theorem Mo (hE:bQ ab T)(C:kG T sc)(mw:ER G φ ab T ρ σ β P m s)(R:ER G φ ab T ρ σ β P' m { s with heap:=ft s.heap sc }):
 ER G φ (nM sc (dr ab sc.names []) s.heap.objs.size ab) (T.comp sc) (ρ++Zh (eB sc).length none) σ β P' (λY=>none) { s with heap:=ft s.heap sc }:=by
 refine pY (wg (s:=s) C mw) λc1 c2 c3 c4=>?_;refine⟨(Heap.Ns.new s.heap (.type "dict")).keeps (pushCells_keeps _ _),?_,λx i v hx hv=>?_,λx hx=>?_,R.objs,R.freshX,R.psafe,λa ha=>?_,R.blt,R.tk⟩
 ·refine aa Za ?_;refine aa jax ?_;refine aa R.len ?_;rfl
 ·rcases Lf C hx with h|⟨h1,h2⟩
  ·rw[Zg (by refine aa R.len ?_;exact h)]at hv;rw[jcL]at hv;split at hv
   ·cases hv
   ·cases hv
  ·have a0:i<ρ.length:=by
    rcases jca i ρ.length with q|q
    ·exact q
    ·rw[Zg q,jcL]at hv;split at hv<;>cases hv
   rw[Zt a0]at hv;refine au (R.names x i v h2 hv) λv' a b=>?_;refine aN v' a (.inr ?_);have hk:=KO hE (C.free x h1);refine au (c3 x h1) λc e1 e2=>?_;have ot:=tl (ab:=ab) (cl:=dr ab sc.names []) (C:=s.heap.objs.size) (lu C.nodup h1);refine li c e1 ?_ ?_
   ·refine aa ot ?_;split
    ·exact .inl rfl
    ·exact .inr rfl
   ·rcases b with⟨b,_⟩|⟨c',b1,b2,b3⟩
    ·rcases hk with hk|hk<;>rw[hk]at b<;>cases b
    ·rw[e2]at b1;cases b1;exact b3
 ·have fe:sc.names.lookup x=some .cell\/sc.names.lookup x=some .free:=by
   unfold Tb.celled at hx;rw[jbr]at hx;exact hx.imp (λq=>eq_of_beq q) λq=>eq_of_beq q
  rcases fe with q|q
  ·refine fq (c2 x (mem_of_lookup q)) λc e1 e2 e3=>?_;exact cZ c none e1 e3
  ·refine au (c3 x (mem_of_lookup q)) λc e1 e2=>?_;refine bB (mw.celled x (C.free x (mem_of_lookup q))) λc' dk e3 e4=>?_;rw[e2]at e3;cases e3;exact cZ c dk e1 (e4.keeps (Ed _ _))
 ·have safe:∀b,s.heap.objs.size<=b->eY G b:=λb hb=>mw.psafe b (mw.fresh b hb);rcases ha with ha|ha|⟨x,hx⟩
  ·exact R.bsafe a (.inl ha)
  ·refine aa ha ?_;exact safe _ (Y5 _)
  ·rcases c1 x a hx with⟨_,q,_⟩|⟨_,q,_⟩
   ·exact safe a (ZM q)
   ·exact R.bsafe a (.inr (.inr ⟨x,q⟩))
theorem OA (C:kG T sc)(mw:ER G φ ab T ρ σ β P m s)(hP:∀a,P' a->¬(s.heap.objs.size<=a/\a<(ft s.heap sc).objs.size)):
 mm (nM sc (dr ab sc.names []) s.heap.objs.size ab) (T.comp sc) β P':=by
 refine pY (wg (s:=s) C mw) λc1 c2 c3 c4=>?_;refine⟨λp=>hP _ p ⟨Y5 _,Ee _ _⟩,λhb=>Zr _ (mw.blt _ hb),λx hx=>?_⟩;refine fq (c2 x (mem_of_lookup hx)) λc e1 e2 e3=>?_;refine li c e1 (λp=>hP _ p ⟨ZM e2,e3.lt⟩) (λhb=>?_);exact jeA e2 (mw.blt _ hb)
end
section
theorem Ip (hg:gens[d]?=some ⟨.Name x px,iter,ifs,0⟩)(h:Y' (Zb af wd) A (pyNext I) (λr ak=>match r with
 |none=>Q (.done .next) ak
 |some v=>Y' (Zb af wd) A (jdw ab x v) (λY aC =>
  Y' (Zb af wd) A (forIn ifs true λc r=>if r=true then do let ok <-jbs c ab (jaa c ab);pure (jbV ok)else pure (jbV r)) (λok dj =>
   if ok=true then(match gens[d+1]? with
    |some g'=>Y' (Zb af wd) A (jaa g'.iter ab) (λxv eE=>Y' (Zb af wd) A (jct g'.iter ab xv) (λyv dN=>Y' (Zb af wd) A (jdN yv) (λit qT =>
     Y' (Zb af wd) A (runOwn (.compStart (.ListComp aD gens sc pos) (d+1) it acc ab) ab) (λY lz=>Q (.again (.compLoop (.ListComp aD gens sc pos) d I acc ab)) lz) E qT) E dN) E eE) E dj
    |none=>Y' (Zb af wd) A (jaa aD ab) (λy eE=>Y' (Zb af wd) A (call (.builtin "list.append") [acc,y]) (λY dN=>Q (.again (.compLoop (.ListComp aD gens sc pos) d I acc ab)) dN) E eE) E dj)
   else Q (.again (.compLoop (.ListComp aD gens sc pos) d I acc ab)) dj) E aC) E ak) E s) (ha:∀g',gens[d+1]?=some g'->g'.is_async=0):
 Y' (Zb af wd) A (jiL (.ListComp aD gens sc pos) d I acc ab) Q E s:=by
 unfold jiL;dsimp only;refine aa hg ?_;dsimp only;refine Y9 (jaZ ?_);refine Y9 (jar h (λr ak aY=>?_) λY Y e=>e)
 induction r using ae with
 |none=>exact Zx aY
 |some v =>
  dsimp only at aY ⊢;refine Y9 (jiD (a:=()) rfl ?_);refine Y9 (jeu (jar aY (λY aC cy=>?_) λY Y e=>e));refine Y9 (jar cy (λok dj lf=>?_) λY Y e=>e)
  induction ok using ZH with
  |false=>exact Zx lf
  |true =>
   rw[if_pos rfl]at lf
   induction mZ:gens[d+1]? using ae with
   |none =>
    rw[mZ]at lf;dsimp only at lf ⊢;exact Y9 (Y9 (jar lf (λy eE zU=>Y9 (jar zU (λY dN lg=>Zx (Zx lg)) λY Y e=>e)) λY Y e=>e))
   |some g' =>
    rw[mZ]at lf;have h0:(g'.is_async != 0)=false:=by refine aa (ha g' mZ) ?_;rfl
    dsimp only at lf ⊢;simp only[h0,jcI,if_false];refine Y9 (jar lf (λxv eE zU=>Y9 (jaZ (Y9 (jar zU (λyv dN lg=>?_) λY Y e=>e)))) λY Y e=>e);exact Y9 (jaO (jar lg (λit qT Q9=>Y9 (jar Q9 (λY lz Q'=>Zx Q') λY Y e=>e)) λY Y e=>e))
end
section
def eH (ab:Env)(T:Tb)(D:Ze)(b:Ze):Prop:=b=D\/b=ab.locals\/∃x,T.names.lookup x=some .cell/\ab.cells.lookup x=some b
structure LS (G:GD) (sB:Y4) (aj:Gh) (ab:Env) (T:Tb) (σ:aA) (β:List Ze) (D:Ze) (φ:Gh) (ρ:aB) (acc:List AV) (P:Ze->Prop) (m:Str->Option Value) (s:Y4):Prop where
 base:∃h t,s={ sB with heap:=h,toks:=t }
 old:∀b o,¬G.X b->sB.heap.get? b=some o->s.heap.get? b=some o
 size:sB.heap.objs.size<=s.heap.objs.size
 sub:∀t x,aj t x->φ t x
 er:ER G φ ab T ρ σ β P m s
 fr:mm ab T β P
 dP:¬P D
 dβ:D∉β
 acc:∃xs,s.heap.PlainList D xs.toArray/\ar G.tok φ s.heap β P acc xs
 tabs:bz G s.heap/\∀c,bM G s.heap c->bM G sB.heap c\/sB.heap.objs.size<=c
theorem LS.own {acc:List AV}(L:LS G sB aj ab T σ β D φ ρ acc P m s):∀b,eH ab T D b->¬P b/\b∉β:=by
 intro b hb;rcases hb with rfl|rfl|⟨x,h1,h2⟩
 ·exact⟨L.dP,L.dβ⟩
 ·exact⟨L.fr.ploc,L.fr.bloc⟩
 ·refine fq (L.fr.own x h1) λc e1 e2 e3=>?_;rw[h2]at e1;cases e1;exact⟨e2,e3⟩
theorem LS.inv {acc:List AV}(L:LS G sB aj ab T σ β D φ ρ acc P m s)(I:bh G sB.heap):bh G s.heap:=I.keepsX L.old L.tabs.1
theorem bz.notX_list (x:bz G h)(n:h.PlainList a xs):¬G.X a/\¬bM G h a:=let⟨n,e⟩:=n;⟨x.notX_data e (λvs q=>nomatch q),x.noHas e (λvs q=>nomatch q)⟩
theorem LS.go {acc:List AV}(L:LS G sB aj ab T σ β D φ ρ acc P m s)(k:GX G s φ s' am):LS G sB aj ab T σ β D am ρ acc P m s' where
 base:=by
  refine dW L.base ?_;rintro h t rfl;refine bB k.grows.keeps λh' t' e Y=>?_;exact jP h' t' e
 old:=λb o hb e=>k.ext b o hb (L.old b o hb e)
 size:=Y1 L.size k.grows.size
 sub:=λt x e=>k.sub t x (L.sub t x e)
 er:=L.er.go k L.tabs.1
 fr:=L.fr
 dP:=L.dP
 dβ:=L.dβ
 acc:=let⟨xs,h1,h2⟩:=L.acc;⟨xs,h1.at λo=>k.ext _ o (L.tabs.1.notX_list h1).1,L.er.vrs k h2⟩
 tabs:=by
  refine bN (k.tabs L.tabs.1) λh1 h2=>?_;exact⟨h1,λc hc=>(h2 c hc).elim (L.tabs.2 c) λq=>.inr (Y1 L.size q)⟩
theorem LS.done {acc:List AV}(L:LS G sB aj ab T σ β D φ ρ acc P m s):GX G sB aj s φ:=by
 have o:=L.old;have z:=L.size;have k:=L.er.tk;have tb:=L.tabs;refine dW L.base ?_;rintro h t rfl;exact⟨⟨⟨h,t,rfl,o⟩,z⟩,L.sub,k,λY=>tb⟩
theorem LS.forget {acc:List AV}(L:LS G sB aj ab T σ β D φ av acc P m s)(hl:ρ.length=av.length)(h:∀(i:Nat) (v:AV),ρ[i]?=some (some v)->av[i]?=some (some v)):LS G sB aj ab T σ β D φ ρ acc P m s :=
 { L with er:=L.er.forget hl h }
theorem G4 {h:jak}(hn:h.Ns a m)(hc:h.PlainList D xs):a≠D:=by
 rintro rfl;refine ka hn λo es ep ho hd Y=>?_;refine aX hc λn kl=>?_;rw[ho]at kl;cases kl;cases hd
theorem Cp {h:jak}(hn:h.IsCell c v)(hc:h.PlainList D xs):c≠D:=by
 rintro rfl;refine au hn λo ho hd=>?_;refine aX hc λn kl=>?_;rw[ho]at kl;cases kl;cases hd
theorem LS.store {acc:List AV}(hE:bQ ab T)(hT:jx T)(hx:T.var x=some i)(hk:T.names.lookup x=some .local\/T.names.lookup x=some .cell)(dZ:∀b,eH ab T D b->sB.heap.get? b=none)(L:LS G sB aj ab T σ β D φ ρ acc P m s)(r:VR G.tok φ s.heap β P v xv)(hQ:∀s' m',LS G sB aj ab T σ β D φ (ρ.set i (some v)) acc P m' s'->(∀b o,¬eH ab T D b->s.heap.get? b=some o->s'.heap.get? b=some o)->s.heap.objs.size<=s'.heap.objs.size->Q () s'):
 Y' (Zb af wd) A (jdw ab x xv) Q E s:=by
 refine HS L.tabs.1 hE hT hx hk L.er L.fr r λh' t m' ir ht hs jj R TT=>?_;have jN:eH ab T D ir:=by
  rcases ht with rfl|⟨h1,h2⟩
  ·exact .inr (.inl rfl)
  ·exact .inr (.inr ⟨x,h2,h1⟩)
 refine dW L.base λhh tt e=>?_;refine au L.acc λxs a1 a2=>?_;have QN:D≠ir:=by
  rcases ht with rfl|⟨h1,h2⟩
  ·exact jeC (G4 L.er.ns a1)
  ·refine bB (L.er.celled x (by unfold Tb.celled;refine aa h2 ?_;rfl)) λc dk e1 e2=>?_;rw[h1]at e1;cases e1;exact jeC (Cp e2 a1)
 refine hQ _ m' ⟨⟨h',t,by refine aa e ?_;rfl⟩,λb o hb e=>hs.extBut b o (λq=>?_) (L.old b o hb e),?_,L.sub,R,L.fr,L.dP,L.dβ,⟨xs,a1.at λo e=>hs.extBut _ o QN e,a2.mono (λY Y e=>e) (λa o p e=>⟨hs.extBut a o (λq=>(L.own ir jN).1 (q▸p)) e,p⟩) (Zj _)⟩,TT.1,λc q=>L.tabs.2 c (TT.2 c q)⟩
  (λb o hb e=>hs.extBut b o (λq=>hb (q▸jN)) e) ?_
 ·subst q;rw[dZ b jN]at e;cases e
 ·exact Y1 L.size (ZK hs.1.symm)
 ·exact ZK hs.1.symm
theorem LS.append {acc:List AV}(dZ:∀b,eH ab T D b->sB.heap.get? b=none)(L:LS G sB aj ab T σ β D φ ρ acc P m s)(r:VR G.tok φ s.heap β P v xv)(aU:acc.length<=100000)(hQ:∀x s',LS G sB aj ab T σ β D φ ρ (acc++[v]) P m s'->(∀b o,¬eH ab T D b->s.heap.get? b=some o->s'.heap.get? b=some o)->s.heap.objs.size<=s'.heap.objs.size->Q x s'):
 Y' (Zb af wd) A (call (.builtin "list.append") [.ref D,xv]) Q E s:=by
 refine au L.acc λxs a1 a2=>?_;refine jhP a1 (λh' hZ hs=>?_) (by refine aa Zk ?_;refine rwj a2.length ?_;exact d9 aU);have jN:eH ab T D D:=.inl rfl;refine dW L.base λhh tt e=>?_;have hk:∀a o,P a->s.heap.get? a=some o->h'.get? a=some o/\P a:=λa o p e=>⟨hs.extBut a o (λq=>L.dP (q▸p)) e,p⟩
 have R:ER G φ ab T ρ σ β P m { s with heap:=h',toks:=s.toks }:=L.er.but (X:=(·=D)) L.tabs.1 (λb hb q=>(L.tabs.1.notX_list a1).1 (q▸hb)) (λb o hb e=>hs.extBut b o hb e) (ZK hs.1.symm) (Y5 _)
  (λa p q=>L.dP (q▸p)) (λa p q=>L.dβ (q▸p)) (G4 L.er.ns a1) (λx c v hc hi q=>Cp hi a1 q)
 have TT:=L.tabs.1.but (λb o hb e=>hs.extBut b o hb e) (L.tabs.1.notX_list a1).1 (L.tabs.1.notX_list a1).2;refine hQ _ _ ⟨⟨h',s.toks,by refine aa e ?_;rfl⟩,λb o hb e=>hs.extBut b o (λq=>?_) (L.old b o hb e),Y1 L.size (ZK hs.1.symm),L.sub,R,L.fr,L.dP,L.dβ,⟨xs++[xv],by simpa using hZ,(a2.append (.single r)).mono (λY Y e=>e) hk (Zj _)⟩,TT.1,λc q=>L.tabs.2 c (TT.2 c q)⟩
  (λb o hb e=>hs.extBut b o (λq=>hb (q▸jN)) e) (ZK hs.1.symm)
 subst q;rw[dZ _ jN]at e;cases e
end
section
theorem OR.weak {G:GD}(hk:∀a,P a->P' a)(r:OR G.tok φ h β P o a):OR G.tok φ h β P' o a :=
 r.mono (λY Y e=>e) (λa o p e=>⟨e,hk a p⟩) (Zj _) λY e=>e
theorem ER.weak (R:ER G φ ab T ρ σ β P m s)(hk:∀a,P a->P' a)(hp:∀a,P' a->eY G a):ER G φ ab T ρ σ β P' m s :=
 { R with names:=λx i v h1 h2=>(let⟨v',a,b⟩:=R.names x i v h1 h2;⟨v',a.weak hk,b⟩),objs:=λj o h1 h2=>(let⟨a,h3,h4⟩:=R.objs j o h1 h2;⟨a,h3,h4.weak hk⟩),freshX:=λa h=>hk a (R.freshX a h),psafe:=hp }
theorem LS.weak {acc:List AV}(L:LS G sB aj ab T σ β D φ ρ acc P m s)(hk:∀a,P a->P' a)(hp:∀a,P' a->eY G a)(hf:mm ab T β P')(hd:¬P' D):LS G sB aj ab T σ β D φ ρ acc P' m s :=
 { L with er:=L.er.weak hk hp,fr:=hf,dP:=hd,acc:=let⟨xs,h1,h2⟩:=L.acc;⟨xs,h1,h2.weak hk⟩ }
abbrev zX (ab:Env):Expr->Bool->Sem (ForInStep Bool):=λc r=>if r=true then do let ok <-jbs c ab (jaa c ab);pure (jbV ok)else pure (jbV r)
theorem FZ:∀(ifs:List Expr),forIn ifs false (zX ab)=pure false
 | []=>by refine aa jcQ ?_;rfl
 |c::r=>by
  rw[jdv];show(pure (jbV false) >>= _)=_;refine aa (pure_bind _ _) ?_;exact FZ r
theorem zY:∀{ifs:List Expr}{r:Bool},(∀c∈ifs,∀b,ev Φ σ ρ (ao T c)=some (.bool b)->TS G A ab T ρ σ (jbs c ab (jaa c ab)) b) ->
 cS Φ σ ρ (bg T ifs)=some r->TS G A ab T ρ σ (forIn ifs true (zX ab)) r
 | [],r,_,e=>λs φ β P m I R=>by
  refine aa jcQ ?_;simp only[Ig,tY,nU,kT]at e;cases e;exact Zx ⟨rfl,φ,.refl R.tk⟩
 |c::ifs,r,h,e=>λs φ β P m I R=>by
  rw[jdv];rw[tY,kT]at e
  induction hc:ev Φ σ ρ (ao T c)using ae with
  |none=>rw[hc]at e;exact ai e
  |some v =>
   rw[hc]at e
   induction v using AV.casesOn with
   |bool b =>
    induction b using ZH with
    |true =>
     refine Y9 (Y9 ((h c Zf true hc).post I R λak ay aw bd aI=>Zx ?_));exact up (zY (λc hc=>h c (Zw _ hc)) e ak ay β P m bd aI) λb aC ⟨e,aV,aP⟩=>⟨e,aV,aw.trans aP⟩
    |false =>
     have e:some false=some r:=e;cases e;refine Y9 (Y9 ((h c Zf false hc).post I R λak ay aw bd aI=>Zx ?_));show Y' _ _ (forIn ifs false (zX ab)) _ _ ak;refine aa (FZ _) ?_;exact Zx ⟨rfl,ay,aw⟩
   |_=>exact ai e
end
section
structure I3 (G:GD) (ab:Env) (T:Tb) (D:Ze) (s s':Y4):Prop where
 keep:∀b o,¬eH ab T D b->¬G.X b->s.heap.get? b=some o->s'.heap.get? b=some o
 size:s.heap.objs.size<=s'.heap.objs.size
theorem LS.moved {acc:List AV}(L:LS G sB aj ab T σ β D φ ρ acc P m s)(hI:¬P I)(ql:I∉β)(fI:¬eH ab T D I)(kh:sB.heap.get? I=none)(jb:∀x c,ab.cells.lookup x=some c->c≠I)(lV:¬G.X I)(hk:∀b o,b≠I->s.heap.get? b=some o->h'.get? b=some o)(u:Up s { s with heap:=h',toks:=t }):LS G sB aj ab T σ β D φ ρ acc P m { s with heap:=h',toks:=t }:=by
 refine dW L.base λhh tt e=>?_;refine au L.acc λxs a1 a2=>?_;have TT:=L.tabs.1.but (a:=I) hk lV λq=>hI (L.er.freshX I (.inr q));have R:=L.er.but (X:=(·=I)) (h':=h') (t:=t) L.tabs.1 (λb hb q=>lV (q▸hb)) (λb o hb e=>hk b o hb e) u.size u.toks (λa p q=>hI (q▸p)) (λa p q=>ql (q▸p)) (λq=>fI (.inr (.inl q.symm))) (λx c v hc hi q=>jb x c hc q);refine⟨⟨h',t,by refine aa e ?_;rfl⟩,λb o hb e=>hk b o (λq=>?_) (L.old b o hb e),Y1 L.size u.size,L.sub,R,L.fr,L.dP,L.dβ,⟨xs,a1.at λo e=>hk _ o (λq=>fI (.inl q.symm)) e,a2.mono (λY Y e=>e) (λa o p e=>⟨hk a o (λq=>hI (q▸p)) e,p⟩) (Zj _)⟩,TT.1,λc q=>L.tabs.2 c (TT.2 c q)⟩;subst q;rw[kh]at e;cases e
def RS (G:GD)(A:ZV)(sB:Y4)(aj:Gh)(ab:Env)(T:Tb)(σ:aA)(β:List Ze)(D:Ze)(P:Ze->Prop)(aD:Expr)(gens:List jai)(sc:jaB)(pos:Pos)(d:Nat)(ρ:aB)(res:List AV):Prop :=
 ∀φ acc m s (Q:Y4->Prop) (E:Value->Y4->Prop),LS G sB aj ab T σ β D φ ρ acc P m s->(acc++res).length<=100000 ->
  (∀am m' s',LS G sB aj ab T σ β D am ρ (acc++res) P m' s'->I3 G ab T D s s'->(∀t x,φ t x->am t x)->Q s') ->
  match gens[d]? with
  |some g'=>Y' (Zb af wd) A (jaa g'.iter ab) (λxv eE=>Y' (Zb af wd) A (jct g'.iter ab xv) (λyv dN=>Y' (Zb af wd) A (jdN yv) (λit qT =>
   Y' (Zb af wd) A (runOwn (.compStart (.ListComp aD gens sc pos) d it (.ref D) ab) ab) (λY lz=>Q lz) E qT) E dN) E eE) E s
  |none=>Y' (Zb af wd) A (jaa aD ab) (λy eE=>Y' (Zb af wd) A (call (.builtin "list.append") [.ref D,y]) (λY dN=>Q dN) E eE) E s
theorem N1 (h:fZ f (v::vs)=some res):∃bs cs,res=bs++cs/\f v=some bs/\fZ f vs=some cs:=by
 rw[u5]at h
 induction h1:f v using ae with
 |none=>rw[h1]at h;exact ai h
 |some bs =>
  rw[h1]at h
  induction h2:fZ f vs using ae with
  |none=>rw[h2]at h;exact ai h
  |some cs=>rw[h2]at h;exact m9 bs cs ((Y3 h).symm) rfl rfl
theorem Wl {o:Option Bool}{g:Option (List AV)}{bs:List AV}{Q:Prop}(h:(match o with|some true=>g|some false=>some []|none=>none)=some bs)(h1:o=some true->g=some bs->Q)(h2:o=some false->bs=[]->Q):Q:=by
 induction o using ae with
 |none=>exact ai h
 |some b=>induction b using ZH with
  |true=>exact h1 rfl h
  |false=>exact h2 rfl (Y3 h).symm
theorem Cz {ab:Env}{T:Tb}{ρ:aB}{G:GD}{sB:Y4}{Φ:cX}{aD iter:Expr}{gens:List jai}{sc:jaB}{pos px:Pos}{x:Str}{ifs:List Expr}{d i:Nat}{I:Ze}{fp:List Ze}{Pv:Nat->Value->Prop}{St:Nat->jak->Prop}{vs:List AV}{g:aB->Option (List AV)}{R:Result->Y4->Prop}(hE:bQ ab T)(hT:jx T)(hx:T.var x=some i)(hk:T.names.lookup x=some .local\/T.names.lookup x=some .cell)(fv:ρ[i]?=some none)(hg:gens[d]?=some ⟨.Name x px,iter,ifs,0⟩)(ha:∀g',gens[d+1]?=some g'->g'.is_async=0)(dZ:∀b,eH ab T D b->sB.heap.get? b=none)(IB:bh G sB.heap)(E5:∀v,∀c∈ifs,∀b,ev Φ σ (ρ.set i (some v)) (ao T c)=some (.bool b)->TS G A ab T (ρ.set i (some v)) σ (jbs c ab (jaa c ab)) b)(eR:∀v res,g (ρ.set i (some v))=some res->RS G A sB aj ab T σ β D P aD gens sc pos (d+1) (ρ.set i (some v)) res)(W:Walks af wd A I fp [I] vs.length Pv St)(la:∀b∈fp,b=I\/(¬eH ab T D b/\¬G.X b))(lV:¬G.X I)(hI:¬P I)(ql:I∉β)(fI:¬eH ab T D I)(kh:sB.heap.get? I=none)(jb:∀x c,ab.cells.lookup x=some c->c≠I):
 ∀(k j:Nat) (φ:Gh) (acc res:List AV) (m:Str->Option Value) (s:Y4),vs.length-j=k->j<=vs.length->LS G sB aj ab T σ β D φ ρ acc P m s->St j s.heap ->
  fZ (λv=>match cS Φ σ (ρ.set i (some v)) (bg T ifs)with|some true=>g (ρ.set i (some v))|some false=>some []|none=>none) (vs.drop j)=some res->(acc++res).length<=100000 ->
  (∀j x,Pv j x->∃v,vs[j]?=some v/\VR G.tok φ s.heap β P v x) ->
  (∀am m' s',LS G sB aj ab T σ β D am ρ (acc++res) P m' s'->(∀b o,b≠I->¬eH ab T D b->¬G.X b->s.heap.get? b=some o->s'.heap.get? b=some o)->s.heap.objs.size<=s'.heap.objs.size->(∀t x,φ t x->am t x)->R (.ok .next) s') ->
  jeT (Zb af wd) A (.compLoop (.ListComp aD gens sc pos) d (.ref I) (.ref D) ab) R s:=by
 intro k
 induction k with
 |zero =>
  intro j φ acc res m s hj E8 L cM iO aU jg hR;have jK:j=vs.length:=by lia
  rw[jK,jiy]at iO;rw[jK]at cM;clear jg aU hj E8;have e:res=[]:=(Y3 iO).symm;subst e;refine jgX ?_;show Y' _ A ((jiL (.ListComp aD gens sc pos) d (.ref I) (.ref D) ab).onRaise (λx=>do noteFrame x ab;theTreesLotGoes x)) _ _ s;refine wpAny_noted (Ip hg ?_ ha);refine eF (W.done s _ _ cM λh' t f8 u=>?_);have qt:∀b o,b≠I->s.heap.get? b=some o->h'.get? b=some o:=λb o hb e=>f8 b o (λq=>hb (Zq.mp q)) e;exact hR φ m _ ((Z2 acc).symm▸L.moved hI ql fI kh jb lV qt u) (λb o hb Y Y e=>qt b o hb e) u.size λY Y e=>e
 |succ k ih =>
  intro j φ acc res m s hj E8 L cM iO aU jg hR;have a0:j<vs.length:=BD hj;rw[jcw a0]at iO;refine bS (N1 iO) ?_;rintro bs cs rfl je EQ;clear iO;have rv:∀xv,Pv j xv->VR G.tok φ s.heap β P vs[j] xv:=λxv h=>(jg j xv h).elim λv e=>Y3 ((Zc a0).symm.trans e.1)▸e.2;generalize vs[j]=v at *;have fin:∀am m' s',LS G sB aj ab T σ β D am (ρ.set i (some v)) (acc++bs) P m' s'->St (j+1) s'.heap->(∀b o,b≠I->¬eH ab T D b->¬G.X b->s.heap.get? b=some o->s'.heap.get? b=some o)->s.heap.objs.size<=s'.heap.objs.size->(∀t x,φ t x->am t x) ->
   jeT (Zb af wd) A (.compLoop (.ListComp aD gens sc pos) d (.ref I) (.ref D) ab) R s':=λam m' s' rn st kk zz ss=>by
   refine ih (j+1) am (acc++bs) cs m' s' (X1 hj) a0 (rn.forget (by refine aa jbL ?_;rfl) λl u hl=>?_) st EQ (by rw[jaz];exact aU) (λj x hx=>(jg j x hx).elim λv e=>aN v e.1 (e.2.mono ss (λa o p e=>⟨kk a o (λq=>hI (q▸p)) (λq=>(L.own a q).1 p) (L.er.psafe a p).2 e,p⟩) (Zj _))) λml jQ eE wU R8 X2 A9=>?_
   ·by_cases q:i=l
    ·subst q;rw[fv]at hl;exact nomatch hl
    ·refine aa (jhu q) ?_;exact hl
   ·exact hR ml jQ eE (jaz acc bs cs▸wU) (λb o hb ho hX e=>R8 b o hb ho hX (kk b o hb ho hX e)) (Y1 zz X2) λt x e=>A9 t x (ss t x e)
  have vA:(acc++bs).length<=100000:=Y1 (by rewrite [<-jaz];refine aa (Za (as:=acc++bs)) ?_;exact ZD _ _) aU;clear ih jg EQ aU hR;refine jgX ?_;show Y' _ A ((jiL (.ListComp aD gens sc pos) d (.ref I) (.ref D) ab).onRaise (λx=>do noteFrame x ab;theTreesLotGoes x)) _ _ s;refine wpAny_noted (Ip hg ?_ ha);refine eF (W.item j s _ _ a0 cM λxv h' t vc oD f8 u=>?_);have qt:∀b o,b≠I->s.heap.get? b=some o->h'.get? b=some o:=λb o hb e=>f8 b o (λq=>hb (Zq.mp q)) e;have DY:∀am m' s',LS G sB aj ab T σ β D am (ρ.set i (some v)) (acc++bs) P m' s'->(∀b o,¬eH ab T D b->¬G.X b->h'.get? b=some o->s'.heap.get? b=some o)->h'.objs.size<=s'.heap.objs.size->(∀t x,φ t x->am t x) ->
   jeT (Zb af wd) A (.compLoop (.ListComp aD gens sc pos) d (.ref I) (.ref D) ab) R s':=λam m' s' rn kk zz ss =>
   fin am m' s' rn (W.frame _ _ _ oD λb hb o e=>kk b o ((la b hb).elim (λq=>q▸fI) (·.1)) ((la b hb).elim (λq=>q▸lV) (·.2)) e) (λb o hb ho hX e=>kk b o ho hX (qt b o hb e)) (Y1 u.size zz) ss
  dsimp only;refine(L.moved hI ql fI kh jb lV qt u).store hE hT hx hk dZ ((rv xv vc).mono (λY Y e=>e) (λa o p e=>⟨qt a o (λq=>hI (q▸p)) e,p⟩) (Zj _)) λaC dh kL Gm H2=>?_;clear fin rv oD vc;refine Wl je (λza je=>?_) λza je=>?_
  ·refine(zY (Φ:=Φ) (E5 v) za).post (kL.inv IB) kL.er λdj eU cn rm i3=>?_;refine aa (if_pos rfl) ?_;exact eR v bs je eU acc dh dj (λs'=>(Code.compLoop (.ListComp aD gens sc pos) d (.ref I) (.ref D) ab).quiet=true/\jeT (Zb af wd) A (.compLoop (.ListComp aD gens sc pos) d (.ref I) (.ref D) ab) R s') (notedBy (Zb af wd) A ab λe s'=>R (.error e) s') (kL.go cn) vA
    λml jQ eE wU Gn A9=>⟨rfl,DY ml jQ eE wU (λb o ho hX e=>Gn.keep b o ho hX (cn.ext b o hX (Gm b o ho e))) (Y1 H2 (Y1 cn.grows.size Gn.size)) λt x e=>A9 t x (cn.sub t x e)⟩
  ·refine(zY (Φ:=Φ) (E5 v) za).post (kL.inv IB) kL.er λdj eU cn rm i3=>?_;refine aa (if_neg Z1) ?_;exact⟨rfl,DY eU dh dj (by refine aa je ?_;refine aa (Z2 _) ?_;exact kL.go cn) (λb o ho hX e=>cn.ext b o hX (Gm b o ho e)) (Y1 H2 cn.grows.size) cn.sub⟩
end
section
def bl (G:GD)(A:ZV)(Φ:cX)(σ:aA)(e:Expr):Prop :=
 ∀ab T ρ v,bQ ab T->ev Φ σ ρ (ao T e)=some v->ES G A ab T ρ σ (jaa e ab) v/\∀b,v=.bool b->TS G A ab T ρ σ (jbs e ab (jaa e ab)) b
theorem tw (h:ev Φ σ ρ (ao T e)=some v):f9 e=true:=by
 cases e<;>first|rfl|exact ai h
theorem D8 (h:ev Φ σ ρ (ao T e)=some v):jct e ab x=pure x:=by
 cases e<;>first|rfl|exact ai h
theorem Ng (h:bX Φ σ ρ (bg T (e::es))=some vs):∃u us,vs=u::us/\ev Φ σ ρ (ao T e)=some u/\bX Φ σ ρ (bg T es)=some us:=by
 rw[tY,mM]at h
 induction hu:ev Φ σ ρ (ao T e)using ae with
 |none=>rw[hu]at h;exact ai h
 |some u =>
  induction cx:bX Φ σ ρ (bg T es)using ae with
  |none=>rw[hu,cx]at h;exact ai h
  |some us=>rw[hu,cx]at h;exact m9 u us ((Y3 h).symm) rfl rfl
theorem j8 (hE:bQ ab T):∀{vs:List AV},(∀e∈es,bl G A Φ σ e)->bX Φ σ ρ (bg T es)=some vs->es.all f9=true/\∀pos,gS G A ab T ρ σ (jcl (jcn pos (jas es ab))) vs:=by
 induction es with
 |nil=>exact λY e=>⟨rfl,λpos=>aG (show some []=some _ from e) MJ⟩
 |cons e es ih =>
  intro vs h he;refine bS (Ng he) ?_;rintro u us rfl h1 h2;refine bN (ih (λe he=>h e (Zw _ he)) h2) λi1 i2=>?_;have hs:=tw h1;exact⟨jbP.mpr ⟨hs,i1⟩,λpos=>MI (iV hs) (h e Zf ab T ρ u hE h1).1 (i2 pos)⟩
def Ga:Fn->Bool
 | .range=>true
 |_=>false
theorem Oa (h:gv.lookup x=some .range):x=("range" : Str):=
 eq_of_beq (Y6.mp (show gv.all (λe=>!Ga e.2||e.1==("range" : Str))=true by decide +kernel) _ (mem_of_lookup h))
theorem Th (h:iU.lookup x=some .range):False :=
 bP (Y6.mp (show iU.all (λe=>!Ga e.2)=true by decide +kernel) _ (mem_of_lookup h))
theorem Bp (h:ao T e=.call .range as):∃p b bs pos,e=.Call (.Name ("range" : Str) p) (b::bs) [] pos/\T.isGlobal ("range" : Str)=true/\as=bg T (b::bs):=by
 rcases wF h with⟨x,p,a,bs,pos,e1,hg,hl,e2⟩|⟨m,hl⟩|h|⟨h,_⟩
 ·have:=Oa hl;rw[this]at e1 hg;exact z0 _ _ _ _ e1 hg e2
 ·exact(Th hl).elim
 ·exact bP h
 ·exact bP h
theorem Gf (hA:A.handled=none)(hE:bQ ab T)(hG:dD G)(hI:bl G A Φ σ it)(EA:∀f p as pos,it=.Call (.Name f p) as [] pos->∀a∈as,bl G A Φ σ a)(e:dU Φ σ ρ (fR (ao T it))=some vs)(I:bh G s.heap)(R:ER G φ ab T ρ σ β P m s)(hQ:∀x s' am,GX G s φ s' am->(∀x,jct it ab x=pure x)->Y' (Zb af wd) A (jdN x) (jZ A G.tok am β P (λb=>P b\/b∈β) s' vs) ax s'->Q x s'):
 Y' (Zb af wd) A (jaa it ab) Q E s:=by
 induction hq:fR (ao T it)using It.casesOn with
 |range as =>
  refine kf (Bp (ti hq)) ?_;rintro p b bs pos rfl hg rfl;rw[hq,r9]at e;clear hq hI
  induction cx:bX Φ σ ρ (bg T (b::bs))using ae with
  |none=>rw[cx]at e;exact ai e
  |some us =>
   rw[cx]at e;refine au (Zs.mp e) ?_;rintro is eS rfl;refine bN (j8 (G:=G) (A:=A) hE (λa ha=>EA _ _ _ _ rfl a ha) cx) λh1 h2=>?_;exact xY hE hG hg h1 (h2 _) eS I R λv s' am k rr=>hQ v s' am k (λY=>rfl) (HP hA rr)
 |rev a=>rw[hq]at e;exact ai e
 |val x =>
  rw[hq,show x=ao T it from ti hq,sb]at e;clear hq EA
  induction hx:ev Φ σ ρ (ao T it)using ae with
  |none=>rw[hx]at e;exact ai e
  |some x =>
   rw[hx]at e;refine(hI ab T ρ x hE hx).1.post I R λv s' am k I' R' r=>hQ v s' am k (λY=>D8 hx) ?_;refine up (HQ hA R'.objs R'.psys e r) λit cO h=>?_;refine yq h λo fp Pv St h1 h2 h3 h4 h5 h6=>?_;exact⟨o,fp,Pv,St,h1,h2,h3,h4,λb hb=>(h5 b hb).imp id λq=>⟨q.1.imp id (·.2),q.2⟩,h6⟩
theorem Cx (hg:gens[d]?=some ⟨.Name x px,iter,ifs,0⟩)(h0:jeT (Zb af wd) A (.compLoop (.ListComp aD gens sc pos) d it acc ab) R s)(h:Y' (Zb af wd) A (jdN it) (λte s'=>jeT (Zb af wd) A (.compLoop (.ListComp aD gens sc pos) d te acc ab) R s') (notedBy (Zb af wd) A ab λx s'=>R (.error x) s') s):
 jeT (Zb af wd) A (.compStart (.ListComp aD gens sc pos) d it acc ab) R s:=by
 refine jgX ?_;show Y' _ _ ((compStart (.ListComp aD gens sc pos) d it acc ab).onRaise (λx=>do noteFrame x ab;jfr theWindowsPlace)) _ _ s;refine wpAny_notedAt ?_;unfold compStart;refine aa (show clausesOf (.ListComp aD gens sc pos)=gens from rfl) ?_;refine aa hg ?_;dsimp only[Option.elim];show Y' _ _ (ask >>= _) _ _ s;refine Y9 (wpAny_askSetting (wpAny_ite ?_));split
 ·first
   |exact Y9 (Zx (Zx (And.intro rfl h0)))
   |exact Zx (And.intro rfl h0)
 ·first
   |exact Y9 (jeS (Y9 (jaZ (Y9 (jar h (λte s' h'=>Zx (And.intro rfl h')) λY Y x=>x)))))
   |(refine Y9 (jeS ?_);show Y' _ _ (jfr iter.pos >>= _) _ _ s;exact Y9 (jaZ (Y9 (jar h (λte s' h'=>Zx (And.intro rfl h')) λY Y x=>x))))
end
section
set_option tactic.hygienic true in
theorem tA {T:Tb}(h:T.own x=some i):T.var x=some i/\(T.names.lookup x=some .local\/T.names.lookup x=some .cell):=by
 unfold Tb.own at h;split at h
 ·rename_i hk;rw[jbr]at hk;exact⟨h,hk.imp (λq=>eq_of_beq q) λq=>eq_of_beq q⟩
 ·cases h
theorem mm.sub (F:mm ab T β P)(hk:∀a,P' a->P a):mm ab T β P' :=
 ⟨λp=>F.ploc (hk _ p),F.bloc,λx hx=>let⟨c,a,b,d⟩:=F.own x hx;⟨c,a,λp=>b (hk _ p),d⟩⟩
theorem LS.push_out {acc:List AV}(L:LS G sB aj ab T σ β D φ ρ acc P m s):
 LS G sB aj ab T σ β D φ ρ acc (fN P s.heap.objs.size (s.heap.objs.size+1)) m { s with heap:=s.heap.push o }:=by
 have hz:(s.heap.push o).objs.size=s.heap.objs.size+1:=ZP ..;have ext:ce s.heap (s.heap.push o):=λb o e=>Zd _ e;have R:=L.er.grow_out (h':=s.heap.push o) (t:=s.toks) L.tabs.1 ext (by refine aa hz ?_;exact ZY _) (Y5 _);rw[hz]at R;refine au L.acc λxs a1 a2=>?_;refine⟨?_,λb o hb e=>ext b o (L.old b o hb e),Y1 L.size (by show _<=(s.heap.push o).objs.size;refine aa hz ?_;exact ZY _),L.sub,R,L.fr.sub λa p=>p.1,λp=>L.dP p.1,L.dβ,⟨xs,a1.at λo=>ext _ o,a2.mono (λY Y e=>e) (λa o p e=>⟨ext _ _ e,p,λq=>ZW.mpr q.1 (Zu e)⟩) (Zj _)⟩,L.tabs.1.keeps ext,λc q=>L.tabs.2 c (iW ext L.tabs.1 c q)⟩;refine dW L.base λhh tt e=>?_;exact jP (s.heap.push o) s.toks (by refine aa e ?_;rfl)
theorem WP {gens:List jai}(h:gens[d]?=none):iX T aD (gens.drop d)=.done aD:=by
 refine aa (jcS (jgJ.mp h)) ?_;rfl
theorem LR {gens:List jai}(h:gens[d]?=some g):gens.drop d=g::gens.drop (d+1):=by
 refine aX (ZA.mp h) ?_;rintro hl rfl;exact jcw hl
theorem MS (h:g8 Φ σ ρ (iX T aD (g::gs))=some res):∃x px it ifs i,g=⟨.Name x px,it,ifs,0⟩/\T.own x=some i/\g8 Φ σ ρ (.cons i (fR (ao T it)) (bg T ifs) (iX T aD gs))=some res:=by
 have t:=WO (T:=T) (aD:=aD) (g:=g) (gs:=gs);generalize iX T aD (g::gs)=z at t h;cases t with
 |bad=>exact ai h
 |mk hi=>exact F3 _ _ _ _ _ rfl hi h
theorem MR (h:g8 Φ σ ρ (.cons x it ifs az)=some res):∃vs,dU Φ σ ρ it=some vs/\ρ[x]?=some none/\vs.length<=100000/\fZ (λv=>match cS Φ σ (ρ.set x (some v)) ifs with
 |some true=>g8 Φ σ (ρ.set x (some v)) az
 |some false=>some []
 |none=>none) vs=some res:=by
 rw[C9]at h
 induction hv:dU Φ σ ρ it using ae with
 |none=>rw[hv]at h;exact ai h
 |some vs =>
  rw[hv]at h
  induction hx:ρ[x]? using ae with
  |none=>rw[hx]at h;exact ai h
  |some o =>
   rw[hx]at h
   induction o using ae with
   |none=>exact bR h λhl e=>vT vs rfl rfl hl e
   |some _=>exact ai h
theorem U' {A:ZV}{ab:Env}{T:Tb}{sB:Y4}{gens:List jai}(hA:A.handled=none)(hE:bQ ab T)(hT:jx T)(hG:dD G)(has:∀g∈gens,g.is_async=0)(hcl:∀x c,ab.cells.lookup x=some c->T.celled x=true)(dZ:∀b,eH ab T D b->sB.heap.get? b=none)(IB:bh G sB.heap)(oj:bl G A Φ σ aD)(jJ:∀g∈gens,bl G A Φ σ g.iter/\(∀f p as pos,g.iter=.Call (.Name f p) as [] pos->∀a∈as,bl G A Φ σ a)/\∀c∈g.ifs,bl G A Φ σ c):
 ∀(k d:Nat) (P:Ze->Prop) (ρ:aB) (res:List AV),gens.length-d=k->g8 Φ σ ρ (iX T (ao T aD) (gens.drop d))=some res->RS G A sB aj ab T σ β D P aD gens sc pos d ρ res:=by
 intro k
 induction k with
 |zero =>
  intro d P ρ res hk he φ acc m s Q E L aU hQ;have Fm:gens[d]?=none:=jgJ.mpr (by lia);rw[WP Fm]at he;refine aa Fm ?_;dsimp only;simp only[MT]at he;refine au (Zs.mp he) ?_;rintro v hv rfl;refine(oj ab T ρ v hE hv).1.post (L.inv IB) L.er λx ak ay aw bd aI aF=>?_;refine(L.go aw).append dZ aF (by rw[Za]at aU;exact ZM aU) λy aC kL kp sz=>?_;exact hQ ay m aC kL ⟨λb o hb hX e=>kp b o hb (aw.ext b o hX e),Y1 aw.grows.size sz⟩ aw.sub
 |succ k ih =>
  intro d P ρ res hk he φ acc m s Q E L aU hQ;have a0:d<gens.length:=BD hk;obtain⟨g,hg⟩:∃g,gens[d]?=some g:=⟨_,Zc a0⟩
  rw[LR hg]at he;refine aa hg ?_;dsimp only;refine sm (MS he) ?_;rintro x px iter ifs i rfl jN he;refine bN (tA jN) λhx qu=>?_;refine fY (jJ _ (ZG hg)) λg1 g2 g3=>?_;obtain⟨vs,b0,fv,YF,he⟩:=MR he;refine Gf hA hE hG g1 g2 b0 (L.inv IB) L.er λxv ak ay aw hf zN=>?_;refine aa (hf xv) ?_;refine Zx ?_;have ix:=L.go aw;refine up zN λoH aC hs=>?_;obtain⟨o,fp,Pv,St,rfl,rfl,W,cM,la,jg⟩:=hs;have kL:=ix.push_out (o:=o);have Yh:ak.heap.objs.size≠D:=λq=>by
   obtain⟨xs,a1,_⟩:=ix.acc;obtain⟨n,ho⟩:=a1;exact Zr _ (q▸Zu ho)
  have Ue:∀b,eH ab T D b->b<ak.heap.objs.size:=λb hb=>by
   rcases hb with rfl|rfl|⟨x,h1,h2⟩
   ·obtain⟨xs,a1,_⟩:=ix.acc;obtain⟨n,ho⟩:=a1;exact Zu ho
   ·exact ix.er.ns.lt
   ·obtain⟨c,dk,e1,e2⟩:=ix.er.celled x (by unfold Tb.celled;refine aa h1 ?_;rfl);rw[h2]at e1;cases e1;exact e2.lt
  have fI:¬eH ab T D ak.heap.objs.size:=λq=>Zr _ (Ue _ q);have kh:sB.heap.get? ak.heap.objs.size=none:=AG ix.size;have jb:∀x c,ab.cells.lookup x=some c->c≠ak.heap.objs.size:=λx c hc q=>by
   obtain⟨c',dk,e1,e2⟩:=ix.er.celled x (hcl x c hc);rw[hc]at e1;cases e1;exact Zr _ (q▸e2.lt)
  have ext:ce ak.heap (ak.heap.push o):=λb o e=>Zd _ e;have GB:∀R:Result->Y4->Prop,(∀am m' s',LS G sB aj ab T σ β D am ρ (acc++res) (fN P ak.heap.objs.size (ak.heap.objs.size+1)) m' s'->(∀b o',b≠ak.heap.objs.size->¬eH ab T D b->¬G.X b->(ak.heap.push o).get? b=some o'->s'.heap.get? b=some o')->(ak.heap.push o).objs.size<=s'.heap.objs.size->(∀t x,ay t x->am t x)->R (.ok .next) s') ->
   jeT (Zb af wd) A (.compLoop (.ListComp aD gens sc pos) d (.ref ak.heap.objs.size) (.ref D) ab) R { ak with heap:=ak.heap.push o }:=λR hR =>
   Cz (Φ:=Φ) (g:=λρ=>g8 Φ σ ρ (iX T (ao T aD) (gens.drop (d+1)))) hE hT hx qu fv hg
    (λg' mZ=>has g' (ZG mZ))
    dZ IB (λv c hc b hb=>(g3 c hc ab T _ _ hE hb).2 b rfl) (λv res iO=>ih (d+1) _ _ res (by rewrite [Nat.sub_add_eq];refine aa hk ?_;rfl) iO)
    W (λb hb=>(la b hb).imp id λq=>⟨λq'=>by
     rcases q.1 with p|p
     ·exact(ix.own b q').1 p
     ·exact(ix.own b q').2 p,q.1.elim (λp=>(ix.er.psafe b p).2) λp=>(ix.er.bsafe b (.inl p)).2⟩) (ix.er.psafe _ (ix.er.fresh _ (Y5 _))).2
    (λp=>p.2 ⟨Y5 _,jaj _⟩) (λp=>Zr _ (ix.er.blt _ p)) fI kh jb
    vs.length 0 ay acc res m _ rfl (jbj _) kL cM he aU
    (λj x hx=>by
     obtain⟨v,h1,h2⟩:=jg j x hx;exact aN v h1 (h2.mono (λY Y e=>e) (λa o p e=>⟨ext _ _ e,p,λq=>ZW.mpr q.1 (Zu e)⟩) (Zj _)))
    hR
  have back:∀am m' s',LS G sB aj ab T σ β D am ρ (acc++res) (fN P ak.heap.objs.size (ak.heap.objs.size+1)) m' s'->(∀b o',b≠ak.heap.objs.size->¬eH ab T D b->¬G.X b->(ak.heap.push o).get? b=some o'->s'.heap.get? b=some o')->(ak.heap.push o).objs.size<=s'.heap.objs.size->(∀t x,ay t x->am t x)->Q s':=λam m' s' rn kk zz ss =>
   hQ am m' s' (rn.weak (λa p=>p.1) L.er.psafe L.fr L.dP) ⟨λb o' hb hX e=>kk b o' (λq=>Zr _ (bf (q▸Zu e:ak.heap.objs.size<s.heap.objs.size) aw.grows.size)) hb hX (ext _ _ (aw.ext _ _ hX e)),Y1 aw.grows.size (Y1 (by refine aa (ZP _ _) ?_;exact ZY _) zz)⟩ λt x e=>ss t x (aw.sub t x e)
  refine wpAny_runOwn ?_ (λq=>nomatch q);refine aa (Around.mark_none _) ?_;exact Cx hg (GB _ back) (W.self 0 _ _ _ cM (GB _ back))
end
section
structure CD (G:GD) (s:Y4) (φ:Gh) (β:List Ze) (P:Ze->Prop) (vs:List AV) (am:Gh) (s':Y4) (D C:Ze) (m':Str->Option Value) (P':Ze->Prop):Prop where
 go:GX G s φ s' am
 cNew:s.heap.objs.size<=C
 dNew:s.heap.objs.size<=D
 cd:C≠D
 ns:s'.heap.Ns C m'
 sub:∀a,P' a->P a
 pC:¬P' C
 pD:¬P' D
 items:∃xs,s'.heap.PlainList D xs.toArray/\ar G.tok am s'.heap β P' vs xs
theorem MQ {T T':Tb}{n:Nat}{aD:Ex}{gens:List jai}{res:List AV}{Q:List jai->Prop}(h:fF Φ σ ρ n (iY T T' aD gens)=some res)(k:∀x px it ifs gs i,T'.own x=some i->fF Φ σ ρ n (.cons i (fR (ao T it)) (bg T' ifs) (iX T' aD gs))=some res->Q (⟨.Name x px,it,ifs,0⟩::gs)):Q gens:=by
 induction gens using Y2 with
 |nil=>exact ai h
 |cons g gs =>
  have t:=WN (T:=T) (T':=T') (aD:=aD) (g:=g) (gs:=gs);generalize iY T T' aD (g::gs)=z at t h;cases t with
  |bad=>exact ai h
  |mk hi=>exact k _ _ _ _ _ _ hi h
theorem MP {x n:Nat}{it:It}{ifs:bV}{az:jY}{res:List AV}{Q:Prop}(h:fF Φ σ ρ n (.cons x it ifs az)=some res)(k:∀vs,dU Φ σ ρ it=some vs->(ρ++Zh n none)[x]?=some none->vs.length<=100000->fZ (λv=>match cS Φ σ ((ρ++Zh n none).set x (some v)) ifs with
 |some true=>g8 Φ σ ((ρ++Zh n none).set x (some v)) az
 |some false=>some []
 |none=>none) vs=some res->res.length<=100000->Q):Q:=by
 rw[x0]at h
 induction hv:dU Φ σ ρ it using ae with
 |none=>rw[hv]at h;exact ai h
 |some vs =>
  rw[hv]at h
  induction hx:(ρ++Zh n none)[x]? using ae with
  |none=>rw[hx]at h;exact ai h
  |some o =>
   rw[hx]at h
   induction o using ae with
   |none =>
    refine bR h λhl e=>?_;generalize hr:fZ _ vs=r at e
    induction r using ae with
    |none=>exact ai e
    |some rs=>exact bR e λh1 h2=>k vs hv hx hl (Y3 h2▸hr) (Y3 h2▸h1)
   |some _=>exact ai h
theorem Ou (h:dU Φ σ ρ (fR (ao T iter))=some vs):jct iter ab x=pure x:=by
 cases iter<;>first|rfl|exact ai h
structure IS (G:GD) (s:Y4) (φ:Gh) (gZ:Env) (T:Tb) (σ:aA) (β:List Ze) (I D L:Ze) (ay:Gh) (ρ:aB) (P:Ze->Prop) (aY h:jak) (s':Y4):Prop where
 hE:bQ gZ T
 ls:LS G s φ gZ T σ β D ay ρ [] P (λY=>none) s'
 own:∀b,eH gZ T D b->I<b
 cel:∀y c,gZ.cells.lookup y=some c->T.celled y=true/\c≠I
 loc:gZ.locals=L
 ext:ce aY h
 ne:L≠D
 new:s.heap.objs.size<=I/\I<D/\I<L
 pI:¬P I
 nb:I∉β
 psub:∀a,P a->a<I\/¬a<h.objs.size
theorem Le (hE:bQ ab T)(C:kG T sc)(I:bh G s.heap)(R:ER G φ ab T ρ σ β P m s)(aw:GX G s φ ak ay)(qk:(ak.heap.push o).push { cls:=.type "list",dict:=none,data:=.seq ([]:List Value).toArray }=cf):
 IS G s φ (nM sc (dr ab sc.names []) cf.objs.size ab) (T.comp sc) σ β ak.heap.objs.size (ak.heap.push o).objs.size cf.objs.size ay (ρ++Zh (eB sc).length none) (fN P ak.heap.objs.size (ft cf sc).objs.size) (ak.heap.push o) (ft cf sc) { ak with heap:=ft cf sc }:=by
 have hD:(ak.heap.push o).objs.size=ak.heap.objs.size+1:=ZP ..;have hC:cf.objs.size=ak.heap.objs.size+2:=by refine rwj qk ?_;refine aa (ZP _ _) ?_;refine aa (ZP _ _) ?_;rfl
 have n8:ce ak.heap (ak.heap.push o):=λb o e=>Zd _ e;have mP:ce (ak.heap.push o) cf:=λb o e=>qk▸Zd _ e;have mQ:ce cf (ft cf sc):=Ed cf sc;have YL:=Ee cf sc;have rC:bz G ak.heap:=(aw.tabs I.tabs).1;have aI:=R.go aw I.tabs;have i3:ER G ay ab T ρ σ β P m { ak with heap:=cf }:=aI.go (GX.same aI.tk ⟨⟨cf,ak.toks,rfl,n8.trans mP⟩,by show _<=cf.objs.size;simp[*]⟩ (Y5 _)) rC;have I8:ER G ay ab T ρ σ β (fN P ak.heap.objs.size (ft cf sc).objs.size) m { ak with heap:=ft cf sc }:=aI.grow_out rC ((n8.trans mP).trans mQ) (by lia) (Y5 _);have y1:=Me (s:={ ak with heap:=cf }) hE C i3;have RC:=Mo (s:={ ak with heap:=cf }) hE C i3 I8;have FC:=OA (s:={ ak with heap:=cf }) C i3 (P':=fN P ak.heap.objs.size (ft cf sc).objs.size) λa p q=>p.2 ⟨by have:=q.1;show ak.heap.objs.size<=a;have:cf.objs.size<=a:=q.1;lia,q.2⟩;refine pY (wg (s:={ ak with heap:=cf }) C i3) λc1 c2 c3 c4=>?_;dsimp only at c1 c2 c3 c4 y1 RC FC;generalize vg:nM sc (dr ab sc.names []) cf.objs.size ab=gZ at y1 RC FC;have hcl:gZ.cells=kQ sc (dr ab sc.names []) cf.objs.size:=by refine rwj vg ?_;rfl
 have vE:gZ.locals=cf.objs.size:=by refine rwj vg ?_;rfl
 have O5:(ft cf sc).PlainList (ak.heap.push o).objs.size #[]:=⟨_,mQ _ _ (by refine rwj qk ?_;exact ZZ _ rfl)⟩
 have be:s.heap.objs.size<=ak.heap.objs.size:=aw.grows.size;have nb:∀b,ak.heap.objs.size<=b->b∉β:=λb hb hm=>Zr _ (bf (R.blt b hm) (Y1 be hb));have q1:ak.heap.objs.size<=(ak.heap.push o).objs.size:=by simp
 have q2:(ak.heap.push o).objs.size<(ft cf sc).objs.size:=by lia
 have q3:ak.heap.objs.size<(ak.heap.push o).objs.size:=ZK (id (jfk hD));have q4:ak.heap.objs.size<cf.objs.size:=by simp[*]
 have q7:cf.objs.size≠(ak.heap.push o).objs.size:=by lia
 exact{
  hE:=y1
  ls:={
   base:=by
    refine bB aw.grows.keeps λhh tt e Y=>?_;exact jP (ft cf sc) ak.toks (by refine aa e ?_;rfl)
   old:=λb o hb e=>mQ _ _ (mP _ _ (n8 _ _ (aw.ext _ _ hb e)))
   size:=by show s.heap.objs.size<=(ft cf sc).objs.size;lia
   sub:=aw.sub
   er:=RC
   fr:=FC
   dP:=λp=>p.2 ⟨q1,q2⟩
   dβ:=nb _ q1
   acc:=aN [] O5 (.nil)
   tabs:=⟨rC.keeps ((n8.trans mP).trans mQ),λc q=>(aw.tabs I.tabs).2 c (iW ((n8.trans mP).trans mQ) rC c q)⟩ }
  own:=λb hb=>by
   rcases hb with rfl|rfl|⟨y,h1,h2⟩
   ·exact q3
   ·refine aa vE ?_;exact q4
   ·rw[hcl]at h2;refine fq (c2 y (mem_of_lookup h1)) λc h3 h4 Y=>?_;refine aa (Y3 (h2.symm.trans h3)) ?_;exact jam q4 h4
  cel:=λy c hc=>by
   rw[hcl]at hc;have cl:∀{k},(y,k)∈sc.names->(k==.cell||k==.free)=true->(T.comp sc).celled y=true:=λq hk=>by
    show(sc.names.lookup y==_||sc.names.lookup y==_)=true;refine aa (lu C.nodup q) ?_;exact hk
   rcases c1 y c hc with⟨q,q5,_⟩|⟨q,q',_⟩
   ·exact⟨cl q rfl,λz=>jeA q4 (z▸q5)⟩
   ·refine⟨cl q rfl,λz=>?_⟩;refine bB (aI.celled y (C.free y q)) λc' dk e1 e2=>?_;exact Zr _ ((Y3 (q'.symm.trans e1)).symm.trans z▸e2.lt)
  loc:=vE
  ext:=λb o e=>mQ _ _ (mP _ _ e)
  ne:=q7
  new:=cz be q3 q4
  pI:=λp=>p.2 ⟨Y5 _,jam q3 q2⟩
  nb:=nb _ (Y5 _)
  psub:=λa p=>(jca a ak.heap.objs.size).imp id λh q=>p.2 ⟨h,q⟩ }
theorem Lc (hA:A.handled=none)(hE:bQ ab T)(hG:dD G)(C:kG T sc)(has:∀g∈(⟨.Name x px,iter,ifs,0⟩::gs:List jai),g.is_async=0)(oj:bl G A Φ σ aD)(jJ:∀g∈(⟨.Name x px,iter,ifs,0⟩::gs:List jai),bl G A Φ σ g.iter/\(∀f p as pos,g.iter=.Call (.Name f p) as [] pos->∀a∈as,bl G A Φ σ a)/\∀c∈g.ifs,bl G A Φ σ c)(jN:(T.comp sc).own x=some i)(cx:dU Φ σ ρ (fR (ao T iter))=some us)(fv:(ρ++Zh (eB sc).length none)[i]?=some none)(iO:fZ (λv=>match cS Φ σ ((ρ++Zh (eB sc).length none).set i (some v)) (bg (T.comp sc) ifs)with
 |some true=>g8 Φ σ ((ρ++Zh (eB sc).length none).set i (some v)) (iX (T.comp sc) (ao (T.comp sc) aD) gs)
 |some false=>some []
 |none=>none) us=some vs) (aO:vs.length<=100000) (I:bh G s.heap) (R:ER G φ ab T ρ σ β P m s) (hQ:∀am s' D C m' P',CD G s φ β P vs am s' D C m' P'->compPost (Zb af wd) A E mj Q (.ref D) C (.ok .next) s'):
 Y' (Zb af wd) A (jfI (.ListComp aD (⟨.Name x px,iter,ifs,0⟩::gs) sc pos) sc ab nq (newList []) false (jhR (⟨.Name x px,iter,ifs,0⟩::gs) ab) mj) Q E s:=by
 have qu:=tA jN;have hg:=jJ _ Zf;have Px:jcU sc ab=pure (dr ab sc.names []):=Ct λn hn=>(R.celled n (C.free n hn)).elim λc e=>⟨c,e.elim λY e=>e.1⟩
 refine wpAny_comprehension_free rfl (λy=>Ou cx) Px C.kind (λy hy hl=>lu C.nodup (hl▸hy)) ?_;show Y' _ _ (jaa iter ab) _ _ _;refine Gf hA hE hG hg.1 hg.2.1 cx I R λxv ak ay aw hf zN=>up zN λoH aC hs=>?_;refine src_elim hs λo fp Pv St W cM la jg=>?_;refine jga (Tx ?_);generalize qk:(ak.heap.push o).push { cls:=.type "list",dict:=none,data:=.seq ([]:List Value).toArray }=cf;have ew:=Le (o:=o) hE C I R aw qk;have rC:bz G ak.heap:=(aw.tabs I.tabs).1;have aI:=R.go aw I.tabs;generalize vg:nM sc (dr ab sc.names []) cf.objs.size ab=gZ at ew;have oD:St 0 (ft cf sc):=W.frame _ _ _ cM λb Y o e=>ew.ext _ _ e;have dZ:∀b,eH gZ (T.comp sc) (ak.heap.push o).objs.size b->s.heap.get? b=none:=λb hb=>AG (Y1 ew.new.1 (ZM (ew.own b hb)));have Fc:∀R:Result->Y4->Prop,(∀am m' s',LS G s φ gZ (T.comp sc) σ β (ak.heap.push o).objs.size am (ρ++Zh (eB sc).length none) vs (fN P ak.heap.objs.size (ft cf sc).objs.size) m' s'->R (.ok .next) s') ->
  jeT (Zb af wd) A (.compLoop (.ListComp aD (⟨.Name x px,iter,ifs,0⟩::gs) sc pos) 0 (.ref ak.heap.objs.size) (.ref (ak.heap.push o).objs.size) gZ) R { ak with heap:=ft cf sc }:=λRR Pe =>
  Cz (Φ:=Φ) (g:=λρ=>g8 Φ σ ρ (iX (T.comp sc) (ao (T.comp sc) aD) gs)) ew.hE C.tb qu.1 qu.2 fv (by rfl) (λg' mZ=>has g' (ZG mZ)) dZ I
   (λv c hc b hb=>(hg.2.2 c hc gZ (T.comp sc) _ _ ew.hE hb).2 b rfl) (λv res iO=>U' hA ew.hE C.tb hG has (λy c hc=>(ew.cel y c hc).1) dZ I oj jJ _ 1 _ _ res rfl iO) W (λb hb=>(la b hb).imp id λq=>⟨λq'=>jeA q.2 (ew.own b q'),q.1.elim (λp=>(aI.psafe b p).2) λp=>(aI.bsafe b (.inl p)).2⟩) (aI.psafe _ (aI.fresh _ (Y5 _))).2
   ew.pI ew.nb (λq=>Zr _ (ew.own _ q)) (AG ew.new.1) (λy c hc=>(ew.cel y c hc).2)
   us.length 0 ay [] vs _ _ rfl (jbj _) ew.ls oD iO (by simpa using aO) (λj y hy=>(jg j y hy).elim λv e=>aN v e.1 (e.2.mono (λY Y e=>e) (λa o p e=>⟨ew.ext _ _ (Zd _ e),p,λq=>ZW.mpr q.1 (Zu e)⟩) (Zj _))) λam m' s' L' Y Y Y=>Pe am m' s' (by simpa using L')
 have EY:∀am m' s',LS G s φ gZ (T.comp sc) σ β (ak.heap.push o).objs.size am (ρ++Zh (eB sc).length none) vs (fN P ak.heap.objs.size (ft cf sc).objs.size) m' s'->compPost (Zb af wd) A E mj Q (.ref (ak.heap.push o).objs.size) cf.objs.size (.ok .next) s':=λam m' s' L' =>
  hQ am s' _ _ m' _ ⟨L'.done,Y1 ew.new.1 (ZM ew.new.2.2),Y1 ew.new.1 (ZM ew.new.2.1),ew.ne,ew.loc▸L'.er.ns,λa p=>p.1,ew.loc▸L'.fr.ploc,L'.dP,L'.acc⟩
 have:=Cx (ab:=gZ) (gens:=⟨.Name x px,iter,ifs,0⟩::gs) (d:=0) rfl (Fc _ EY) (W.self 0 _ _ _ oD (Fc _ EY));rw[<-vg]at this;subst qk;exact this
theorem xK {A:ZV}{T:Tb}{s:Y4}{aD:Expr}{gens:List jai}{sc:jaB}{pos nq:Pos}{vs:List AV}{mj:Option (Value->Sem Unit)}{Q:Value->Y4->Prop}{E:Value->Y4->Prop}(hA:A.handled=none)(hE:bQ ab T)(hG:dD G)(C:kG T sc)(has:∀g∈gens,g.is_async=0)(oj:bl G A Φ σ aD)(jJ:∀g∈gens,bl G A Φ σ g.iter/\(∀f p as pos,g.iter=.Call (.Name f p) as [] pos->∀a∈as,bl G A Φ σ a)/\∀c∈g.ifs,bl G A Φ σ c)(e:fF Φ σ ρ (eB sc).length (iY T (T.comp sc) (ao (T.comp sc) aD) gens)=some vs)(I:bh G s.heap)(R:ER G φ ab T ρ σ β P m s)(hQ:∀am s' D C m' P',CD G s φ β P vs am s' D C m' P'->compPost (Zb af wd) A E mj Q (.ref D) C (.ok .next) s'):
 firstAsync gens=false/\Y' (Zb af wd) A (jfI (.ListComp aD gens sc pos) sc ab nq (newList []) false (jhR gens ab) mj) Q E s :=
 MQ (Q:=λgens=>(∀g∈gens,g.is_async=0)->(∀g∈gens,bl G A Φ σ g.iter/\(∀f p as pos,g.iter=.Call (.Name f p) as [] pos->∀a∈as,bl G A Φ σ a)/\∀c∈g.ifs,bl G A Φ σ c)->firstAsync gens=false/\Y' (Zb af wd) A (jfI (.ListComp aD gens sc pos) sc ab nq (newList []) false (jhR gens ab) mj) Q E s) e
  (λx px iter ifs gs i jN e has jJ=>⟨rfl,MP e λus cx fv Y iO aO=>Lc hA hE hG C has oj jJ jN cx fv iO aO I R hQ⟩) has jJ
end
section
variable {A:ZV}{ab:Env}{T:Tb}{ρ:aB}{σ:aA}{G:GD}{s:Y4}{φ am:Gh}{β aH:List Ze}{P P':Ze->Prop}{m:Str->Option Value}{tk:Ze}{h h':jak}
variable {D:Ze}{Φ:cX}
theorem bz.noHas_ns (x:bz G h)(n:h.Ns a m):¬bM G h a:=by
 refine ka n λo es ep ho hd Y=>?_;exact x.noHas ho λvs q=>by rw[hd]at q;cases q
theorem Mv (hA:A.handled=none)(hE:bQ ab T)(hG:dD G)(C:kG T sc)(has:∀g∈gens,g.is_async=0)(oj:bl G A Φ σ aD)(jJ:∀g∈gens,bl G A Φ σ g.iter/\(∀f p as pos,g.iter=.Call (.Name f p) as [] pos->∀a∈as,bl G A Φ σ a)/\∀c∈g.ifs,bl G A Φ σ c)(e:fF Φ σ ρ (eB sc).length (iY T (T.comp sc) (ao (T.comp sc) aD) gens)=some vs):ES G A ab T ρ σ (jaa (.ListComp aD gens sc pos) ab) (.lst vs):=λs φ β P m I R=>by
 obtain⟨h1,h2⟩:=xK (mj:=none) (pos:=pos) (nq:=jge gens pos) (Q:=lH G φ s β P (.lst vs)) (E:=ax) hA hE hG C has oj jJ e I R λam s' D C m' P' cd=>⟨m',cd.ns,λh' hs=>by
  have TB:=(cd.go.tabs I.tabs).1;refine au cd.items λxs a1 a2=>?_;exact⟨am,cd.go.then_but I.tabs cd.cNew (λb o hb e=>hs.extBut b o hb e) (TB.noHas_ns cd.ns) (TB.notX_ns cd.ns) (ZK hs.1.symm) (Y5 _),.lst (a1.at λo e=>hs.extBut _ o (jeC cd.cd) e) (R.fresh _ cd.dNew)
   (a2.mono (λY Y e=>e) (λa o p e=>⟨hs.extBut a o (λq=>cd.pC (q▸p)) e,cd.sub a p⟩) (Zj _))⟩⟩
 rewrite [eval_ListComp];refine aa h1 ?_;exact h2
structure fT (G:GD) (A:ZV) (Φ:cX):Prop where
 hA:A.handled=none
 hu:A.units<jhg
 hG:dD G
 hN:gE G
 hΦ:uh G A Φ
theorem xf {a:Ex}{es:bV}{b:Bool}{Q:Prop}(e:cS Φ σ ρ (.cons a es)=some b)(h1:ev Φ σ ρ a=some (.bool true)->cS Φ σ ρ es=some b->Q)(h2:ev Φ σ ρ a=some (.bool false)->false=b->Q):Q:=by
 rw[kT]at e
 induction ha:ev Φ σ ρ a using ae with
 |none=>rw[ha]at e;exact ai e
 |some v =>
  rw[ha]at e
  induction v using AV.casesOn with
  |bool c =>
   induction c using ZH with
   |true=>exact h1 ha e
   |false=>exact h2 ha (Y3 e)
  |_=>exact ai e
theorem AK {a:Ex}{es:bV}{b:Bool}{Q:Prop}(e:kU Φ σ ρ (.cons a es)=some b)(h1:ev Φ σ ρ a=some (.bool false)->kU Φ σ ρ es=some b->Q)(h2:ev Φ σ ρ a=some (.bool true)->true=b->Q):Q:=by
 rw[pR]at e
 induction ha:ev Φ σ ρ a using ae with
 |none=>rw[ha]at e;exact ai e
 |some v =>
  rw[ha]at e
  induction v using AV.casesOn with
  |bool c =>
   induction c using ZH with
   |false=>exact h1 ha e
   |true=>exact h2 ha (Y3 e)
  |_=>exact ai e
theorem Jj {es:List Expr}{b:Bool}{pos:Pos}{whole:Sem Value}(hE:bQ ab T):(∀e∈es,bl G A Φ σ e)->cS Φ σ ρ (bg T es)=some b->TS G A ab T ρ σ (jbs (.BoolOp .And es pos) ab whole) b:=by
 induction es with
 |nil=>exact λY e=>aG (show some true=some b from e) W8
 |cons a es ih =>
  exact λh e=>xf e (λhc e=>Ij ((h a Zf ab T ρ _ hE hc).2 _ rfl) (λq=>nomatch q) λY=>ih (λe he=>h e (Zw _ he)) e)
   λhc e=>e▸Ij ((h a Zf ab T ρ _ hE hc).2 _ rfl) (λY=>rfl) λq=>nomatch q
theorem Ud {es:List Expr}{b:Bool}{pos:Pos}{whole:Sem Value}(hE:bQ ab T):(∀e∈es,bl G A Φ σ e)->kU Φ σ ρ (bg T es)=some b->TS G A ab T ρ σ (jbs (.BoolOp .Or es pos) ab whole) b:=by
 induction es with
 |nil=>exact λY e=>aG (show some false=some b from e) Xa
 |cons a es ih =>
  exact λh e=>AK e (λhc e=>Il ((h a Zf ab T ρ _ hE hc).2 _ rfl) (λq=>nomatch q) λY=>ih (λe he=>h e (Zw _ he)) e)
   λhc e=>e▸Il ((h a Zf ab T ρ _ hE hc).2 _ rfl) (λY=>rfl) λq=>nomatch q
theorem Jh {es:List Expr}:∀{a:Expr}{b:Bool}{pos:Pos},bQ ab T->(∀e∈a::es,bl G A Φ σ e)->cS Φ σ ρ (bg T (a::es))=some b->ES G A ab T ρ σ (jaa (.BoolOp .And (a::es) pos) ab) (.bool b):=by
 induction es with
 |nil=>exact λhE h e=>xf e (λhc e=>aG (Q:=λb=>ES G A ab T ρ σ _ (.bool b)) (show some true=some _ from e) (h _ Zf ab T ρ _ hE hc).1) λhc e=>e▸(h _ Zf ab T ρ _ hE hc).1
 |cons a' es ih =>
  exact λhE h e=>xf e (λhc e=>C2 (h _ Zf ab T ρ _ hE hc).1 (λq=>nomatch q) λY=>ih hE (λe he=>h e (Zw _ he)) e)
   λhc e=>e▸C2 (h _ Zf ab T ρ _ hE hc).1 (λY=>rfl) λq=>nomatch q
theorem Uc {es:List Expr}:∀{a:Expr}{b:Bool}{pos:Pos},bQ ab T->(∀e∈a::es,bl G A Φ σ e)->kU Φ σ ρ (bg T (a::es))=some b->ES G A ab T ρ σ (jaa (.BoolOp .Or (a::es) pos) ab) (.bool b):=by
 induction es with
 |nil=>exact λhE h e=>AK e (λhc e=>aG (Q:=λb=>ES G A ab T ρ σ _ (.bool b)) (show some false=some _ from e) (h _ Zf ab T ρ _ hE hc).1) λhc e=>e▸(h _ Zf ab T ρ _ hE hc).1
 |cons a' es ih =>
  exact λhE h e=>AK e (λhc e=>C6 (h _ Zf ab T ρ _ hE hc).1 (λq=>nomatch q) λY=>ih hE (λe he=>h e (Zw _ he)) e)
   λhc e=>e▸C6 (h _ Zf ab T ρ _ hE hc).1 (λY=>rfl) λq=>nomatch q
theorem Mt (hE:bQ ab T)(hx:T.isGlobal x=true)(hs:(e::az).all f9=true)(ha:∀pos,gS G A ab T ρ σ (jcl (jcn pos (jas (e::az) ab))) vs)(hc:ug G A σ x vs r):ES G A ab T ρ σ (jaa (.Call (.Name x p) (e::az) [] pos) ab) r:=by
 cases hc with
 |builtin id hl h=>exact Mq hE hx hl hs (ha _) h
 |type id hl h=>exact Ms hE hx hl hs (ha _) h
 |def_ k fd hk h=>exact Mr hE hx hk hs (ha _) h
theorem Hn (hE:bQ ab T){lo:Option Expr}{l:Option Int}(h:∀e,lo=some e->bl G A Φ σ e)(jI:fG Φ σ ρ (mi T lo)=some l):PS G A ab T ρ σ (jhf lo ab) l:=by
 induction lo using ae with
 |none=>rw[WQ,Dc]at jI;exact aG jI UG
 |some e =>
  rw[WR,pQ]at jI
  induction hi:ev Φ σ ρ (ao T e)using ae with
  |none=>rw[hi]at jI;exact ai jI
  |some v =>
   rw[hi]at jI
   induction v using AV.casesOn with
   |int i=>exact aG jI (UH (h e rfl ab T ρ _ hE hi).1)
   |_=>exact ai jI
abbrev EV (Φ:cX)(σ:aA)(ρ:aB)(x:Ex)(v:AV):Prop:=ev Φ σ ρ x=some v
theorem R3 (h:EV Φ σ ρ (.var i) v):ρ[i]?=some (some v):=by
 rw[EV,Dw]at h
 induction hx:ρ[i]? using ae with
 |none=>rw[hx]at h;exact ai h
 |some u=>rw[hx]at h;exact congrArg some h
theorem RU {op:Operator}{a b:Ex}{v:AV}{Q:Prop}(h:EV Φ σ ρ (.bin op a b) v)(k:∀x y,EV Φ σ ρ a x->EV Φ σ ρ b y->dE σ op x y=some v->Q):Q:=by
 rw[EV,Dx]at h
 induction hx:ev Φ σ ρ a using ae with
 |none=>rw[hx]at h;exact ai h
 |some x =>
  induction hy:ev Φ σ ρ b using ae with
  |none=>rw[hx,hy]at h;exact ai h
  |some y=>rw[hx,hy]at h;exact k x y hx hy h
theorem RX {a b:Ex}{v:AV}{Q:Prop}(h:EV Φ σ ρ (.idx a b) v)(k:∀x y,EV Φ σ ρ a x->EV Φ σ ρ b y->m8 σ x y=some v->Q):Q:=by
 rw[EV,Dv]at h
 induction hx:ev Φ σ ρ a using ae with
 |none=>rw[hx]at h;exact ai h
 |some x =>
  induction hy:ev Φ σ ρ b using ae with
  |none=>rw[hx,hy]at h;exact ai h
  |some y=>rw[hx,hy]at h;exact k x y hx hy h
theorem RV {op:CmpOp}{a b:Ex}{v:AV}{Q:Prop}(h:EV Φ σ ρ (.cmp op a b) v)(k:∀x y r,EV Φ σ ρ a x->EV Φ σ ρ b y->j4 σ op x y=some r->v=.bool r->Q):Q:=by
 rw[EV,Dy]at h
 induction hx:ev Φ σ ρ a using ae with
 |none=>rw[hx]at h;exact ai h
 |some x =>
  induction hy:ev Φ σ ρ b using ae with
  |none=>rw[hx,hy]at h;exact ai h
  |some y =>
   rw[hx,hy]at h;refine au (Zs.mp h) λr hr e=>?_;exact k x y r hx hy hr e.symm
theorem R2 {op:UnaryOp}{a:Ex}{v:AV}{Q:Prop}(h:EV Φ σ ρ (.un op a) v)(k:∀x,EV Φ σ ρ a x->qV op x=some v->Q):Q:=by
 rw[EV,yk]at h
 induction hx:ev Φ σ ρ a using ae with
 |none=>rw[hx]at h;exact ai h
 |some x=>rw[hx]at h;exact k x hx h
theorem RY {c a b:Ex}{v:AV}{Q:Prop}(h:EV Φ σ ρ (.ite c a b) v)(h1:EV Φ σ ρ c (.bool true)->EV Φ σ ρ a v->Q)(h2:EV Φ σ ρ c (.bool false)->EV Φ σ ρ b v->Q):Q:=by
 rw[EV,ym]at h
 induction hx:ev Φ σ ρ c using ae with
 |none=>rw[hx]at h;exact ai h
 |some x =>
  rw[hx]at h
  induction x using AV.casesOn with
  |bool r =>
   induction r using ZH with
   |true=>exact h1 hx h
   |false=>exact h2 hx h
  |_=>exact ai h
theorem RZ {es:bV}{v:AV}{Q:Prop}(h:EV Φ σ ρ (.list es) v)(k:∀vs,bX Φ σ ρ es=some vs->vs.length<=100000->.lst vs=v->Q):Q:=by
 rw[EV,Dt]at h
 induction hx:bX Φ σ ρ es using ae with
 |none=>rw[hx]at h;exact ai h
 |some x=>rw[hx]at h;exact bR h λhl e=>k x hx hl (Y3 e)
theorem R1 {es:bV}{v:AV}{Q:Prop}(h:EV Φ σ ρ (.tup es) v)(k:∀vs,bX Φ σ ρ es=some vs->vs.length<=100000->.tup vs=v->Q):Q:=by
 rw[EV,Du]at h
 induction hx:bX Φ σ ρ es using ae with
 |none=>rw[hx]at h;exact ai h
 |some x=>rw[hx]at h;exact bR h λhl e=>k x hx hl (Y3 e)
theorem RW {a b:Ex}{v:AV}{Q:Prop}(h:EV Φ σ ρ (.dict (.cons a .nil) (.cons b .nil)) v)(k:∀i x,EV Φ σ ρ a (.int i)->EV Φ σ ρ b x->x.scalar=true->.dct [(i,x)]=v->Q):Q:=by
 rw[EV,Nd]at h
 induction hx:ev Φ σ ρ a using ae with
 |none=>rw[hx]at h;exact ai h
 |some x =>
  rw[hx]at h
  induction x using AV.casesOn with
  |int i =>
   induction hy:ev Φ σ ρ b using ae with
   |none=>rw[hy]at h;exact ai h
   |some y=>rw[hy]at h;exact bR h λhs e=>k i y hx hy hs (Y3 e)
  |_=>exact ai h
theorem R0 {a:Ex}{lo hi:uk}{v:AV}{Q:Prop}(h:EV Φ σ ρ (.slice a lo hi) v)(k:∀x l u,EV Φ σ ρ a x->fG Φ σ ρ lo=some l->fG Φ σ ρ hi=some u->qQ σ x l u=some v->Q):Q:=by
 rw[EV,pX]at h
 induction hx:ev Φ σ ρ a using ae with
 |none=>rw[hx]at h;exact ai h
 |some x =>
  induction hl:fG Φ σ ρ lo using ae with
  |none=>rw[hx,hl]at h;exact ai h
  |some l =>
   induction hu:fG Φ σ ρ hi using ae with
   |none=>rw[hx,hl,hu]at h;exact ai h
   |some u=>rw[hx,hl,hu]at h;exact k x l u hx hl hu h
theorem oI {f:Fn}{es:bV}{v:AV}{Q:Prop}(h:EV Φ σ ρ (.call f es) v)(k:∀vs,bX Φ σ ρ es=some vs->nQ Φ σ f vs=some v->Q):Q:=by
 rw[EV,kW]at h
 induction hx:bX Φ σ ρ es using ae with
 |none=>rw[hx]at h;exact ai h
 |some x=>rw[hx]at h;exact k x hx h
theorem Gl {e:Ex}{es:bV}{vs:List AV}{Q:Prop}(h:bX Φ σ ρ (.cons e es)=some vs)(k:∀u us,EV Φ σ ρ e u->bX Φ σ ρ es=some us->u::us=vs->Q):Q:=by
 rw[mM]at h
 induction hu:ev Φ σ ρ e using ae with
 |none=>rw[hu]at h;exact ai h
 |some u =>
  induction cx:bX Φ σ ρ es using ae with
  |none=>rw[hu,cx]at h;exact ai h
  |some us=>rw[hu,cx]at h;exact k u us hu cx (Y3 h)
theorem Ah {e:Ex}{vs:List AV}{Q:Prop}(h:bX Φ σ ρ (.cons e .nil)=some vs)(k:∀u,EV Φ σ ρ e u->[u]=vs->Q):Q :=
 Gl h λu us hu cx e=>k u hu (by rw[show us=[]from(Y3 (show some []=some us from cx)).symm]at e;exact e)
def fj (G:GD)(A:ZV)(ab:Env)(T:Tb)(ρ:aB)(σ:aA)(e:Expr)(v:AV):Prop:=ES G A ab T ρ σ (jaa e ab) v/\∀b,v=.bool b->TS G A ab T ρ σ (jbs e ab (jaa e ab)) b
theorem gG (h:ES G A ab T ρ σ (jaa e ab) v)(he:jbs e ab (jaa e ab)=(do let v <-jaa e ab;jfr e.pos;jfu [v] (truthy v))):fj G A ab T ρ σ e v :=
 ⟨h,λb hb=>Im he (hb▸h)⟩
theorem Oc (h:gv.lookup x=some .values):False :=
 bP (Y6.mp (show gv.all (λe=>!Ad e.2)=true by decide +kernel) _ (mem_of_lookup h))
theorem Tk (h:iU.lookup x=some .values):False :=
 bP (Y6.mp (show iU.all (λe=>!Ad e.2)=true by decide +kernel) _ (mem_of_lookup h))
theorem W7 (h:ao T a=.call .values es):∃o ap p,a=.Call (.Attribute o ("values" : Str) ap) [] [] p/\ff o 0 ap p=true/\es=.cons (ao T o) .nil:=by
 rcases wF h with⟨x,p,a,bs,pos,e1,hg,hl,e2⟩|⟨m,hl⟩|h|⟨_,o,m,ap,p,e1,hm,ho,e2⟩
 ·exact(Oc hl).elim
 ·exact(Tk hl).elim
 ·exact bP h
 ·exact zZ o ap p (hm▸e1) ho e2
theorem Ss {vs:List AV}{v:AV}{Q:Prop}(h:nQ Φ σ .listVals vs=some v)(k:∀es,vs=[.dct es]->es.length<=100000->.lst (es.map (·.2))=v->Q):Q:=by
 induction vs using Y2 with
 |nil=>exact ai h
 |cons x vs =>
  induction x using AV.casesOn with
  |dct es =>
   induction vs using Y2 with
   |nil=>exact bR (show(if es.length<=100000 then some (AV.lst (es.map (·.2)))else none)=some v from h) λhl e=>k es rfl hl (Y3 e)
   |cons=>exact ai h
  |_=>exact ai h
section
variable {v:AV}{pos:Pos}(hE:bQ ab T)
include hE
theorem TO (hO:fT G A Φ){a b:Expr}{op:Operator}(ha:bl G A Φ σ a)(hb:bl G A Φ σ b)(h:EV Φ σ ρ (.bin op (ao T a) (ao T b)) v):fj G A ab T ρ σ (.BinOp a op b pos) v :=
 RU h λx y hx hy h=>gG (Mp hO.hA (ha ab T ρ x hE hx).1 (hb ab T ρ y hE hy).1 h) rfl
theorem T6 (ha:bl G A Φ σ a)(h:EV Φ σ ρ (.un op (ao T a)) v):fj G A ab T ρ σ (.UnaryOp op a pos) v :=
 R2 h λx hx h=>by
  have ha:=ha ab T ρ x hE hx;have hs:=MG (pos:=pos) ha.1 h;refine⟨hs,λb hb=>?_⟩
  induction op using jfJ with
  |Not =>
   induction x using AV.casesOn with
   |bool c =>
    have e:v=.bool (!c):=(Y3 h).symm;rw[e]at hb;injection hb with hb
    exact hb▸W' (ha.2 c rfl)
   |_=>exact ai h
  |_=>exact Im rfl (hb▸hs)
theorem TZ (hc:bl G A Φ σ c)(ha:bl G A Φ σ a)(hb:bl G A Φ σ b)(h:EV Φ σ ρ (.ite (ao T c) (ao T a) (ao T b)) v):fj G A ab T ρ σ (.IfExp c a b pos) v :=
 RY h (λh1 h=>have gN:=(hc ab T ρ _ hE h1).2 true rfl;have ha:=ha ab T ρ _ hE h;⟨C4 gN (λY=>ha.1) (λq=>nomatch q),λr hr=>Ik gN (λY=>ha.2 r hr) (λq=>nomatch q)⟩)
  λh1 h=>have gN:=(hc ab T ρ _ hE h1).2 false rfl;have hb:=hb ab T ρ _ hE h;⟨C4 gN (λq=>nomatch q) (λY=>hb.1),λr hr=>Ik gN (λq=>nomatch q) (λY=>hb.2 r hr)⟩
theorem TP (hO:fT G A Φ)(hm:jev op b=false)(ha:bl G A Φ σ a)(hb:bl G A Φ σ b)(h:EV Φ σ ρ (.cmp op (ao T a) (ao T b)) v):fj G A ab T ρ σ (.Compare a [op] [b] pos) v :=
 RV h λx y r hx hy hr e=>by
  refine aa e ?_;have ha:=(ha ab T ρ x hE hx).1;have hb:=(hb ab T ρ y hE hy).1;refine⟨Mu hO.hu hm ha hb hr,λb gM=>?_⟩;injection gM with gM
  exact gM▸W9 hO.hu hm ha hb hr
theorem TN (hs:∀e∈a::es,bl G A Φ σ e)(h:EV Φ σ ρ (.and (bg T (a::es))) v):fj G A ab T ρ σ (.BoolOp .And (a::es) pos) v:=by
 rw[EV,uV]at h;refine au (Zs.mp h) λb hb e=>?_;refine rwj e ?_;refine⟨Jh hE hs hb,λb' gM=>?_⟩;injection gM with gM
 exact gM▸Jj hE hs hb
theorem T3 (hs:∀e∈a::es,bl G A Φ σ e)(h:EV Φ σ ρ (.or (bg T (a::es))) v):fj G A ab T ρ σ (.BoolOp .Or (a::es) pos) v:=by
 rw[EV,yl]at h;refine au (Zs.mp h) λb hb e=>?_;refine rwj e ?_;refine⟨Uc hE hs hb,λb' gM=>?_⟩;injection gM with gM
 exact gM▸Ud hE hs hb
theorem T0 (hs:∀e∈es,bl G A Φ σ e)(h:EV Φ σ ρ (.list (bg T es)) v):fj G A ab T ρ σ (.List es pos) v :=
 RZ h λvs b0 hl e=>e▸gG (MA hl (j8 hE hs b0).2) rfl
theorem T5 (hs:∀e∈es,bl G A Φ σ e)(h:EV Φ σ ρ (.tup (bg T es)) v):fj G A ab T ρ σ (.Tuple es k pos) v :=
 R1 h λvs b0 hl e=>e▸gG (MF hl (j8 hE hs b0).2) rfl
theorem TU (gx:ks.all jgs=true)(hk:∀k,some k∈ks->bl G A Φ σ k)(hs:∀e∈vs,bl G A Φ σ e)(h:EV Φ σ ρ (.dict (tZ T ks) (bg T vs)) v):fj G A ab T ρ σ (.Dict ks vs pos) v:=by
 induction ks using Y2 with
 |nil=>exact ai h
 |cons k ks =>
  induction k using ae with
  |none=>exact bP gx
  |some k =>
   induction ks using Y2 with
   |cons k2 ks=>cases k2<;>exact ai h
   |nil =>
    induction vs using Y2 with
    |nil=>exact ai h
    |cons x vs =>
     induction vs using Y2 with
     |cons y vs=>exact ai h
     |nil=>exact RW h λi y hi hy fJ e=>e▸gG (Mx fJ (hk k Zf ab T ρ _ hE hi).1 (hs x Zf ab T ρ _ hE hy).1) rfl
theorem T4 {a:Expr}{lo hi:Option Expr}{p:Pos}(ha:bl G A Φ σ a)(hl:∀e,lo=some e->bl G A Φ σ e)(hu:∀e,hi=some e->bl G A Φ σ e)(h:EV Φ σ ρ (.slice (ao T a) (mi T lo) (mi T hi)) v):fj G A ab T ρ σ (.Subscript a (.Slice lo hi none p) pos) v :=
 R0 h λY Y Y hx h1 h2 h=>gG (ME (ha ab T ρ _ hE hx).1 (Hn hE hl h1) (Hn hE hu h2) h) rfl
theorem TW (ha:bl G A Φ σ a)(hb:bl G A Φ σ b)(h:EV Φ σ ρ (.idx (ao T a) (ao T b)) v):fj G A ab T ρ σ (.Subscript a b pos) v :=
 RX h λY Y hx hy h=>gG (Mz (ha ab T ρ _ hE hx).1 (hb ab T ρ _ hE hy).1 h) rfl
theorem T8 (hO:fT G A Φ)(hg:T.isGlobal f=true)(hf:f = "list") (ht:ao T a=.call .values es) (hs:∀o m ap p,a=.Call (.Attribute o m ap) [] [] p->bl G A Φ σ o) (h:EV Φ σ ρ (.call .listVals es) v):fj G A ab T ρ σ (.Call (.Name f p) [a] [] pos) v:=by
 refine ka (W7 ht) λo ap p' e1 ho e2=>?_;rw[e2]at h;refine oI h λvs b0 h=>Ah b0 λu hu e=>Ss h λes e3 hl e4=>?_;refine rwj e4 ?_;refine aa e1 ?_;refine aa hf ?_;rw[<-e]at e3;injection e3 with e3
 rw[e3]at hu;exact gG (MC hO.hA hE hO.hG (hf▸hg) ho hl (hs o _ ap p' e1 ab T ρ _ hE hu).1) rfl
theorem T1 (hO:fT G A Φ)(hg:T.isGlobal f=true)(hf:f = "list") (ht:ao T a=.call .range es) (hs:∀g as p p',a=.Call (.Name g p) as [] p'->∀e∈as,bl G A Φ σ e) (h:EV Φ σ ρ (.call .listRange es) v):fj G A ab T ρ σ (.Call (.Name f p) [a] [] pos) v:=by
 refine kf (Bp ht) λp' b bs p2 e1 hr e2=>?_;rw[e2]at h;refine oI h λvs b0 h=>?_;refine au (Zs.mp (show(nr vs).map (λis=>AV.lst (is.map .int))=some v from h)) λis eS e=>?_;refine bN (j8 (G:=G) (A:=A) hE (hs _ _ _ _ e1) b0) λh1 h2=>?_;refine rwj e ?_;refine aa e1 ?_;refine aa hf ?_;exact gG (MB hO.hA hE hO.hG (hf▸hg) hr h1 h2 eS) rfl
theorem TX (hO:fT G A Φ)(hg:T.isGlobal f=true)(hf:f = "isinstance") (ht:T.isGlobal t=true) (eT:t = "bool") (ha:bl G A Φ σ a) (h:EV Φ σ ρ (.call .isBool (.cons (ao T a) .nil)) v):fj G A ab T ρ σ (.Call (.Name f p) [a,.Name t p'] [] pos) v :=
 oI h λvs b0 h=>Ah b0 λu hu e=>by
  rw[<-e]at h;rw[hf,eT];exact gG (C3 hE hO.hG (hf▸hg) (eT▸ht) (.inr (hO.hG.types "bool" (by simp))) (tw hu) (ha ab T ρ _ hE hu).1 λs φ β P x K r=>Ko K (show uF [_]=some _ from h) (.cons r .nil)) rfl
theorem TY (hO:fT G A Φ)(hg:T.isGlobal f=true)(hf:f = "isinstance") (ht:T.isGlobal t=true) (eT:t = "int") (ha:bl G A Φ σ a) (h:EV Φ σ ρ (.call .isInt (.cons (ao T a) .nil)) v):fj G A ab T ρ σ (.Call (.Name f p) [a,.Name t p'] [] pos) v :=
 oI h λvs b0 h=>Ah b0 λu hu e=>by
  rw[<-e]at h;rw[hf,eT];exact gG (C3 hE hO.hG (hf▸hg) (eT▸ht) (.inr (hO.hG.types "int" (by simp))) (tw hu) (ha ab T ρ _ hE hu).1 λs φ β P x K r=>Kq K (show uG [_]=some _ from h) (.cons r .nil)) rfl
theorem T7 (hO:fT G A Φ)(hg:T.isGlobal f=true)(hl:gv.lookup f=some g)(hs:∀e∈a::as,bl G A Φ σ e)(h:EV Φ σ ρ (.call g (bg T (a::as))) v):fj G A ab T ρ σ (.Call (.Name f p) (a::as) [] pos) v :=
 oI h λvs b0 h=>by
  refine bN (j8 (G:=G) (A:=A) hE hs b0) λh1 h2=>?_;exact gG (Mt hE hg h1 h2 (KE hO.hA hO.hG hO.hN hO.hΦ hl h)) rfl
theorem T2 (hO:fT G A Φ){o:Expr}{as:List Expr}{m:Str}{g:Fn}{ap:Pos}(hl:iU.lookup m=some g)(bY:ff o as.length ap pos=true)(ho:bl G A Φ σ o)(hs:∀e∈as,bl G A Φ σ e)(h:EV Φ σ ρ (.call g (.cons (ao T o) (bg T as))) v):fj G A ab T ρ σ (.Call (.Attribute o m ap) as [] pos) v :=
 oI h λvs b0 h=>Gl b0 λu us hu cx e=>by
  rw[<-e]at h;refine bN (j8 (G:=G) (A:=A) hE hs cx) λh1 h2=>?_;refine bS (Tg (G:=G) (A:=A) hO.hA hl h) λT' id hM hT hb=>?_;refine gG (MD bY hM h1 (ho ab T ρ _ hE hu).1 hT (h2 _) (λq=>?_) hb) rfl;rw[q]at cx;exact(Y3 (show some []=some us from cx)).symm
theorem TQ (hO:fT G A Φ)(oh:(sc.kind==.function&&AD sc.names&&gens.all (λg=>g.is_async==0)&&(qf sc).all T.celled&&oQ (T.comp sc))=true)(he:bl G A Φ σ aD)(hg:∀g∈gens,bl G A Φ σ g.iter/\(∀f p as pos,g.iter=.Call (.Name f p) as [] pos->∀a∈as,bl G A Φ σ a)/\∀c∈g.ifs,bl G A Φ σ c)(h:EV Φ σ ρ (.comp (eB sc).length (iY T (T.comp sc) (ao (T.comp sc) aD) gens)) v):fj G A ab T ρ σ (.ListComp aD gens sc pos) v:=by
 rw[EV,yj]at h;refine au (Zs.mp h) λus cx e=>?_;refine rwj e ?_;refine cu oh λc c5=>cu c λc c4=>cu c λc c3=>cu c λc1 c2=>gG (Mv hO.hA hE hO.hG ⟨eq_of_beq c1,of_decide_eq_true c2,λx hx=>?_,tU c5⟩ (λg hg=>eq_of_beq (Y6.mp c3 g hg)) he hg cx) rfl;exact Y6.mp c4 x (jdJ.mpr ⟨_,hx,rfl⟩)
end
theorem ls {s t n:Nat}(e:s=t)(h:s<n+1):t<=n:=e▸jaV h
theorem q1 (h:1+a<=n):a<n:=by lia
theorem q2 (h:1+a+b<=n):b<n:=by lia
theorem q3 (h:1+a+b+c<=n):c<n:=by lia
theorem zr {t x n:Nat}(h:t+x<=n):t<=n:=Y1 (ZD t x) h
theorem l1 (h:a<n):a<n+1:=jcW h
theorem Mg (hO:fT G A Φ)(n:Nat):∀(e:Expr),sizeOf e<n->bl G A Φ σ e:=by
 induction n with
 |zero=>exact λe he=>absurd he (jeE _)
 |succ n ih =>
  have gg:∀{es:List Expr},sizeOf es<n->∀a∈es,bl G A Φ σ a:=λh a ha=>ih a (jam (jbI ha) h);intro e hn ab T ρ v hE;have t:=Ii T e;show EV Φ σ ρ (ao T e) v->fj G A ab T ρ σ e v;generalize ao T e=x at t;cases t with
  |c=>exact λh=>gG (Mw h) rfl
  |var hx=>exact λh=>gG (xZ hE hx (R3 h)) rfl
  |glob hg hl=>exact λh=>gG (aG (show some (sD _)=some v from h) (My hE hO.hG hg hl)) rfl
  |bin=>have h:=ls (Expr.BinOp.sizeOf_spec ..) hn;exact TO hE hO (ih _ (q1 (zr (zr (zr h))))) (ih _ (q3 (zr h)))
  |un=>have h:=ls (Expr.UnaryOp.sizeOf_spec ..) hn;exact T6 hE (ih _ (q2 (zr h)))
  |cmp hm=>have h:=ls (Expr.Compare.sizeOf_spec ..) hn;exact TP hE hO hm (ih _ (q1 (zr (zr (zr h))))) (gg (q3 (zr h)) _ Zf)
  |and=>have h:=ls (jfP ..) hn;exact TN hE (gg (q2 (zr h)))
  |or=>have h:=ls (jfP ..) hn;exact T3 hE (gg (q2 (zr h)))
  |ite=>have h:=ls (Expr.IfExp.sizeOf_spec ..) hn;exact TZ hE (ih _ (q1 (zr (zr (zr h))))) (ih _ (q2 (zr (zr h)))) (ih _ (q3 (zr h)))
  |list=>have h:=ls (Expr.List.sizeOf_spec ..) hn;exact T0 hE (gg (q1 (zr h)))
  |tup=>have h:=ls (Expr.Tuple.sizeOf_spec ..) hn;exact T5 hE (gg (q1 (zr (zr h))))
  |dict gx =>
   have h:=ls (Expr.Dict.sizeOf_spec ..) hn;exact TU hE gx (λk hk=>ih _ (q1 (ls (jdH k) (l1 (jam (jbI hk) (q1 (zr (zr h)))))))) (gg (q2 (zr h)))
  |slice =>
   have h:=ls (jff ..) hn;have h':=ls (Expr.Slice.sizeOf_spec ..) (l1 (q2 (zr h)));exact T4 hE (ih _ (q1 (zr (zr h)))) (λe he=>ih _ (q1 (ls (jdH e) (he▸l1 (q1 (zr (zr (zr h')))))))) (λe he=>ih _ (q1 (ls (jdH e) (he▸l1 (q2 (zr (zr h')))))))
  |idx=>have h:=ls (jff ..) hn;exact TW hE (ih _ (q1 (zr (zr h)))) (ih _ (q2 (zr h)))
  | @vals a _ _ _ _ hg hf ha =>
   have h:=ls (jat ..) hn;have h':=jam (jbI (a:=a) Zf) (q2 (zr (zr h)));exact T8 hE hO hg hf ha λo m ap p e=>ih _ (q1 (zr (zr (ls (jfg o m ap) (l1 (q1 (zr (zr (zr (ls (jat (.Attribute o m ap) [] [] p) (e▸l1 h')))))))))))
  | @lrange a _ _ _ _ hg hf ha =>
   have h:=ls (jat ..) hn;have h':=jam (jbI (a:=a) Zf) (q2 (zr (zr h)));exact T1 hE hO hg hf ha λg as p p' e=>gg (q2 (zr (zr (ls (jat (.Name g p) as [] p') (e▸l1 h')))))
  |isBool hg hf ht eT=>have h:=ls (jat ..) hn;exact TX hE hO hg hf ht eT (gg (q2 (zr (zr h))) _ Zf)
  |isInt hg hf ht eT=>have h:=ls (jat ..) hn;exact TY hE hO hg hf ht eT (gg (q2 (zr (zr h))) _ Zf)
  |user hg hl=>have h:=ls (jat ..) hn;exact T7 hE hO hg hl (gg (q2 (zr (zr h))))
  |meth hl ho =>
   have h:=ls (jat ..) hn;exact T2 hE hO hl ho (ih _ (q1 (zr (zr (ls (jfg ..) (l1 (q1 (zr (zr (zr h)))))))))) (gg (q2 (zr (zr h))))
  |values=>exact λh=>oI h λvs Y h=>ai h
  |comp hc =>
   have h:=ls (Expr.ListComp.sizeOf_spec ..) hn;refine TQ hE hO hc (ih _ (q1 (zr (zr (zr h))))) λg hg=>?_;have h:=ls (show sizeOf g=1+sizeOf g.target+sizeOf g.iter+sizeOf g.ifs+sizeOf g.is_async by cases g;exact jjc ..) (l1 (jam (jbI hg) (q2 (zr (zr h)))));exact cz (ih _ (q2 (zr (zr h)))) (λf p as nq he=>gg (q2 (zr (zr (ls (jat (.Name f p) as [] nq) (he▸l1 (q2 (zr (zr h))))))))) (gg (q3 (zr h)))
  |bad=>exact λh=>ai h
theorem cH (hO:fT G A Φ)(n:Nat)(e:Expr)(h:sizeOf e<=n):bl G A Φ σ e:=Mg hO (n+1) e (jfE h)
end
section
structure SR (G:GD) (sB:Y4) (aj:Gh) (ah:Ze->Prop) (ab:Env) (T:Tb) (φ:Gh) (ρ:aB) (σ:aA) (β:List Ze) (P:Ze->Prop) (m:Str->Option Value) (s:Y4):Prop where
 base:∃h t,s={ sB with heap:=h,toks:=t }
 old:∀b o,¬G.X b->sB.heap.get? b=some o->s.heap.get? b=some o
 size:sB.heap.objs.size<=s.heap.objs.size
 sub:∀t x,aj t x->φ t x
 er:ER G φ ab T ρ σ β P m s
 fr:mm ab T β P
 newL:sB.heap.objs.size<=ab.locals
 newC:∀x b,T.names.lookup x=some .cell->ab.cells.lookup x=some b->sB.heap.objs.size<=b
 newB:∀b∈β,sB.heap.objs.size<=b
 nodup:β.Nodup
 lenB:β.length=σ.length
 live:∀(j:Nat) (a:Ze) (o:AO),β[j]?=some a->σ[j]?=some o->o≠AO.gone->¬P a
 psub:∀a,P a->ah a
 tabs:bz G s.heap/\∀c,bM G s.heap c->bM G sB.heap c\/sB.heap.objs.size<=c
theorem SR.inv (S:SR G sB aj ah ab T φ ρ σ β P m s)(I:bh G sB.heap):bh G s.heap:=I.keepsX S.old S.tabs.1
theorem SR.go (S:SR G sB aj ah ab T φ ρ σ β P m s)(k:GX G s φ s' am):SR G sB aj ah ab T am ρ σ β P m s' :=
 { S with
   base:=by
    refine dW S.base ?_;rintro h t rfl;refine bB k.grows.keeps λh' t' e Y=>?_;exact jP h' t' e
   old:=λb o hb e=>k.ext b o hb (S.old b o hb e)
   size:=Y1 S.size k.grows.size
   sub:=λt x e=>k.sub t x (S.sub t x e)
   er:=S.er.go k S.tabs.1
   tabs:=by
    refine bN (k.tabs S.tabs.1) λh1 h2=>?_;exact⟨h1,λc hc=>(h2 c hc).elim (S.tabs.2 c) λq=>.inr (Y1 S.size q)⟩ }
theorem SR.done (S:SR G sB aj ah ab T φ ρ σ β P m s):GX G sB aj s φ:=by
 have o:=S.old;have z:=S.size;have k:=S.er.tk;have tb:=S.tabs;refine dW S.base ?_;rintro h t rfl;exact⟨⟨⟨h,t,rfl,o⟩,z⟩,S.sub,k,λY=>tb⟩
theorem SR.frozen (S:SR G sB aj ah ab T φ ρ σ β P m s)(hP₀:∀a,sB.heap.objs.size<=a->ah a)(e:aZ σ 6 v=some v')(r:VR G.tok φ s.heap β P v x):VR G.tok φ s.heap [] ah v' x :=
 yQ S.er.objs S.psub (λi a Y hb=>hP₀ a (S.newB a (ZG hb))) 6 e r
theorem sC {sB:Y4}(hn:sB.heap.objs.size<=n)(e:sB.heap.get? b=some o):b≠n:=λq=>Zr _ (bf (q▸Zu e:n<sB.heap.objs.size) hn)
theorem SR.store {ab:Env}{T:Tb}{ρ:aB}{G:GD}{s:Y4}(hE:bQ ab T)(hT:jx T)(hx:T.own x=some i)(S:SR G sB aj ah ab T φ ρ σ β P m s)(r:VR G.tok φ s.heap β P v xv)(hQ:∀s' m',SR G sB aj ah ab T φ (ρ.set i (some v)) σ β P m' s'->(∀b o,¬(b=ab.locals\/∃y,T.names.lookup y=some .cell/\ab.cells.lookup y=some b)->s.heap.get? b=some o->s'.heap.get? b=some o)->s.heap.objs.size<=s'.heap.objs.size->Q () s'):
 Y' (Zb af wd) A (jdw ab x xv) Q E s:=by
 refine bN (tA hx) λvP hk=>?_;refine HS S.tabs.1 hE hT vP hk S.er S.fr r λh' t m' ir ht hs jj R TT=>?_;refine dW S.base λhh tt e=>?_;have hn:sB.heap.objs.size<=ir:=by
  rcases ht with rfl|⟨h1,h2⟩
  ·exact S.newL
  ·exact S.newC x ir h2 h1
 refine hQ _ m' { S with base:=jP h' t (by refine aa e ?_;rfl),old:=λb o hb e=>hs.extBut b o (sC hn e) (S.old b o hb e),size:=Y1 S.size (ZK hs.1.symm),er:=R,tabs:=⟨TT.1,λc q=>S.tabs.2 c (TT.2 c q)⟩ }
  (λb o hb e=>hs.extBut b o (λq=>hb ?_) e) (ZK hs.1.symm)
 subst q;rcases ht with rfl|⟨h1,h2⟩
 ·exact .inl rfl
 ·exact .inr ⟨x,h2,h1⟩
theorem SR.alloc {G:GD}{s:Y4}{s':Y4}{os:List AO}{as:List Ze}(S:SR G sB aj ah ab T φ ρ σ β P m s)(k:GX G s φ s' am)(zx:∀a,bM G s'.heap a->s.heap.objs.size<=a->P' a)(jO:∀a,P' a->P a)(oA:∀a,P a->a<s.heap.objs.size->P' a)(sO:∀a,s'.heap.objs.size<=a->P' a)(dZ:∀a∈as,s.heap.objs.size<=a/\a<s'.heap.objs.size/\¬P' a)(df:as.Nodup)(aO:os.length=as.length)(Yw:∀o∈os,o≠AO.gone)(Qn:∀(j:Nat) (o:AO),os[j]?=some o->∃a,as[j]?=some a/\OR G.tok am s'.heap (β++as) P' o a):
 SR G sB aj ah ab T am ρ (σ++os) (β++as) P' m s':=by
 have R:=S.er;have hk:∀a o,P a->s.heap.get? a=some o->s'.heap.get? a=some o/\P' a:=λa o p e=>⟨k.ext a o (R.psafe a p).2 e,oA a p (Zu e)⟩
 have lZ:β <+: β++as:=jcH _ _;refine{ S.go k with er:=?_,fr:=?_,newB:=?_,nodup:=?_,lenB:=?_,live:=?_,psub:=λa p=>S.psub a (jO a p) }
 ·refine⟨R.ns.at' λo e=>k.ext _ o (R.bsafe _ (.inr (.inl rfl))).2 e,R.len,λy j u hy hj=>?_,λy hy=>?_,λj o hj ho=>?_,λa ha=>?_,λa p=>R.psafe a (jO a p),λa ha=>?_,λa ha=>?_,k.tk⟩
  ·refine au (R.names y j u hy hj) λv' a b=>?_;refine aN v' (a.mono k.sub hk lZ) ?_;rcases b with b|⟨c,b1,b2,o,ho,hd⟩
   ·exact .inl b
   ·exact .inr ⟨c,b1,b2,o,k.ext c o (R.bsafe c (.inr (.inr ⟨y,b1⟩))).2 ho,hd⟩
  ·obtain⟨c,dk,h1,o,ho,hd⟩:=R.celled y hy;exact⟨c,dk,h1,o,k.ext c o (R.bsafe c (.inr (.inr ⟨y,h1⟩))).2 ho,hd⟩
  ·rcases jca j σ.length with q|q
   ·rw[Zt q]at hj;refine au (R.objs j o hj ho) λa h1 h2=>?_;refine aN a ?_ (h2.mono k.sub hk lZ λo e=>k.ext a o (R.bsafe a (.inl (ZG h1))).2 e);rw[Zt (by refine aa S.lenB ?_;exact q)];exact h1
   ·rw[Zg q]at hj;refine au (Qn _ o hj) λa h1 h2=>?_;refine aN a ?_ h2;rw[Zg (by refine aa S.lenB ?_;exact q),S.lenB];exact h1
  ·rcases ha with ha|ha
   ·exact sO a ha
   ·rcases(k.tabs S.tabs.1).2 a ha with q|q
    ·exact oA a (R.freshX a (.inr q)) (bM.lt S.tabs.1 q)
    ·exact zx a ha q
  ·rcases ha with ha|ha
   ·rcases ZE.mp ha with q|q
    ·exact R.bsafe a (.inl q)
    ·exact R.psafe a (R.fresh a (dZ a q).1)
   ·exact R.bsafe a (.inr ha)
  ·rcases ZE.mp ha with q|q
   ·exact bf (R.blt a q) k.grows.size
   ·exact(dZ a q).2.1
 ·refine⟨λp=>S.fr.ploc (jO _ p),λq=>?_,λx hx=>?_⟩
  ·rcases ZE.mp q with q|q
   ·exact S.fr.bloc q
   ·exact Zr _ (bf R.ns.lt (dZ _ q).1)
  ·refine fq (S.fr.own x hx) λc e1 e2 e3=>?_;refine li c e1 (λp=>e2 (jO _ p)) (λq=>?_);rcases ZE.mp q with q|q
   ·exact e3 q
   ·refine bB (R.celled x (by unfold Tb.celled;refine aa hx ?_;rfl)) λc' dk e4 e5=>?_;rw[e1]at e4;cases e4;exact Zr _ (bf e5.lt (dZ _ q).1)
 ·intro b hb;rcases ZE.mp hb with q|q
  ·exact S.newB b q
  ·exact Y1 S.size (dZ b q).1
 ·rw[jbm];exact cz S.nodup df (λa ha b hb q=>Zr _ (bf (q▸R.blt a ha:b<s.heap.objs.size) (dZ b hb).1))
 ·refine aa Za ?_;refine aa Za ?_;refine aa S.lenB ?_;refine aa aO ?_;rfl
 ·intro j a o hb ho hg;rcases jca j σ.length with q|q
  ·rw[Zt q]at ho;rw[Zt (by refine aa S.lenB ?_;exact q)]at hb;exact λp=>S.live j a o hb ho hg (jO a p)
  ·rw[Zg (by refine aa S.lenB ?_;exact q)]at hb;exact(dZ a (ZG hb)).2.2
set_option tactic.hygienic true in
theorem SR.mutate {σ:aA}{G:GD}{s:Y4}(S:SR G sB aj ah ab T φ ρ σ β P m s)(hi:σ[i]?=some o)(hg:o≠AO.gone)(ha:β[i]?=some a)(mZ:o'≠AO.gone)(hs:Z6 a s.heap h')(ht:s.toks<=t)(Ql:∃ob,s.heap.get? a=some ob/\∀v,ob.data≠.cell v)(r:OR G.tok φ h' β P o' a):SR G sB aj ah ab T φ ρ (σ.set i o') β P m { s with heap:=h',toks:=t }:=by
 have oa:=S.live i a o ha hi hg;have R:=S.er;have hz:h'.objs.size=s.heap.objs.size:=hs.1;have hk:∀b o,P b->s.heap.get? b=some o->h'.get? b=some o/\P b:=λb o p e=>⟨hs.extBut b o (λq=>oa (q▸p)) e,p⟩
 have mW:=ZG ha;have EP:∀c v,s.heap.IsCell c v->c≠a:=λc v hc q=>by
  refine au Ql λob h1 h2=>?_;refine au hc λG5 h3 h4=>?_;subst q;rw[h1]at h3;cases h3;exact h2 v h4
 have vE:ab.locals≠a:=λq=>S.fr.bloc (q▸mW);have TT:=S.tabs.1.but (λb o hb e=>hs.extBut b o hb e) (R.bsafe a (.inl mW)).2 λq=>oa (R.freshX a (.inr q));refine dW S.base λhh tt e=>?_;refine{ S with base:=jP h' t (by refine aa e ?_;rfl),old:=λb o hb e=>hs.extBut b o (sC (S.newB a mW) e) (S.old b o hb e),tabs:=⟨TT.1,λc q=>S.tabs.2 c (TT.2 c q)⟩,size:=Y1 S.size (ZK hz.symm),er:=?_,lenB:=by refine aa jbL ?_;exact S.lenB,live:=?_ }
 ·refine⟨R.ns.at' λo e=>hs.extBut _ o vE e,R.len,λy j u hy hj=>?_,λy hy=>?_,λj o hj ho=>?_,λb hb=>R.freshX b (hb.imp (λhb=>by refine rwj hz ?_;exact hb) (TT.2 b)),R.psafe,R.bsafe,λb hb=>by show b<h'.objs.size;refine aa hz ?_;exact R.blt b hb,R.tk.fn,R.tk.pos,λt' y e=>bf (R.tk.lt t' y e) ht,bf R.tk.one ht⟩
  ·refine au (R.names y j u hy hj) λv' q b=>?_;refine aN v' (q.mono (λY Y e=>e) hk (Zj _)) ?_;rcases b with b|⟨c,b1,b2,b3⟩
   ·exact .inl b
   ·exact .inr ⟨c,b1,b2,b3.sameBut hs (EP c _ b3)⟩
  ·refine bB (R.celled y hy) λc dk h1 h2=>?_;exact cZ c dk h1 (h2.sameBut hs (EP c _ h2))
  ·rw[jbn]at hj;split at hj
   ·rename_i fb;subst fb;split at hj
    ·cases hj;exact aN a ha r
    ·cases hj
   ·rename_i fb;refine au (R.objs j o hj ho) λb h1 h2=>?_;refine aN b h1 (h2.mono (λY Y e=>e) hk (Zj _) λo e=>hs.extBut b o (λq=>fb ?_) e);subst q;exact(jil (ZA.mp ha).1 S.nodup).mp (ha.trans h1.symm)
 ·intro j b u hb hu vq;rw[jbn]at hu;split at hu
  ·rename_i fb;subst fb;rw[ha]at hb;cases hb;exact oa
  ·exact S.live j b u hb hu vq
set_option tactic.hygienic true in
theorem SR.settle (S:SR G sB aj ah ab T φ ρ σ β P m s)(hP₀:∀a,sB.heap.objs.size<=a->ah a)(hi:(σ[i]?).isSome=true)(ha:β[i]?=some a):
 SR G sB aj ah ab T φ ρ (σ.set i .gone) β (λb=>P b\/b=a) m s:=by
 have mW:=ZG ha;have R:=S.er;have R':ER G φ ab T ρ σ β (λb=>P b\/b=a) m s:=R.weak (λY p=>.inl p) (λb p=>p.elim (R.psafe b) λq=>q▸R.bsafe a (.inl mW));refine{ S with er:={ R' with objs:=λj o hj ho=>?_ },fr:=⟨λp=>p.elim S.fr.ploc λq=>S.fr.bloc (q▸mW),S.fr.bloc,λx hx=>?_⟩,lenB:=by refine aa jbL ?_;exact S.lenB,live:=?_,psub:=λb p=>p.elim (S.psub b) λq=>q▸hP₀ a (S.newB a mW) }
 ·rw[jbn]at hj;split at hj
  ·split at hj
   ·cases hj;exact absurd rfl ho
   ·cases hj
  ·exact R'.objs j o hj ho
 ·refine fq (S.fr.own x hx) λc e1 e2 e3=>?_;exact li c e1 (λp=>p.elim e2 λq=>e3 (q▸mW)) e3
 ·intro j b u hb hu vq;rw[jbn]at hu;split at hu
  ·split at hu
   ·cases hu;exact absurd rfl vq
   ·cases hu
  ·rename_i fb;rintro(p|rfl)
   ·exact S.live j b u hb hu vq p
   ·exact fb ((jil (ZA.mp ha).1 S.nodup).mp (ha.trans hb.symm))
end
section
theorem Gy:typeLookup (.type "list") (dunderI "add")=pure (some (.builtin "list.__iadd__")):=jgG.lookup
theorem HE:isSeqSlot (some (.builtin "list.__iadd__"))=true:=by decide +kernel
theorem TA (h:a+b<=100000):¬((c&&jfz (a+b))=true):=by
 rw[Zv];rintro⟨_,q⟩;have:a+b>jcO:=of_decide_eq_true q;exact ZW.mpr (d9 h) this
theorem GI (Gk:Array Value)(n:Nat)(f:Array Value->Array Value):
 ∃n',jcK f { cls:=.type "list",dict:=none,data:=.seq Gk n,slots:=#[] }={ cls:=.type "list",dict:=none,data:=.seq (f Gk) n',slots:=#[] }:=⟨_,rfl⟩
theorem Rm {s:Y4}{vs ws:List Value}(hl:s.heap.PlainList l vs.toArray)(hb:s.heap.PlainList b ws.toArray)(be:vs.length+ws.length<=100000)(h:∀h',h'.PlainList l (vs++ws).toArray->Z6 l s.heap h'->Q (.ref l) { s with heap:=h' }):
 Y' (Zb af wd) A (jec .Add (.ref l) (.ref b)) Q E s:=by
 refine aX (id hl) λn ho=>?_;refine aX (id hb) λn2 jM=>?_;have ha:s.TypeIs (.ref l) "list" := ⟨_,ho,rfl⟩
 have gM:s.TypeIs (.ref b) "list" := ⟨_,jM,rfl⟩
 unfold jec;refine jaO ?_;have PK:fillsInplaceSlot (.type "list") "add" (jiu==.Add)=pure false:=by
  unfold fillsInplaceSlot;show(typeLookup (.type "list") (dunderI "add") >>= λfi=>pure (fi.isSome&&!isSeqSlot fi))=pure false;refine aa Gy ?_;refine aa (pure_bind _ _) ?_;refine aa HE ?_;rfl
 have QH:seqSlot? (.type "list") (dunderI "add")=pure (some (.builtin "list.__iadd__")):=by
  unfold seqSlot?;refine aa Gy ?_;refine aa (pure_bind _ _) ?_;refine aa HE ?_;rfl
 refine Y9 (wpAny_typeOf ha (Y9 (jiD PK ?_)));show Y' _ A (if false=true then _ else _) Q E s;refine aa (if_neg Z1) ?_;refine Y9 (PySem.wpAny_binaryOp1_none (nm := "add") ha gM noFill_list_add ?_);refine Y9 (jiD QH ?_);refine Y9 (jeS ?_);refine(jdx jgG ha PySem.F.entry_list_iadd (PySem.F.args_list_iadd_2 _ _) (AutoSeq1.list___iadd___list_list_0 l vs.toArray n b ws.toArray n2 ?_ ?_ ?_) ⟨ho,jM,?_⟩)
 ·simpa using TA (c:=!vs.isEmpty) be
 ·exact d9 (by simp;exact Bz be)
 ·have:=d9 be;simp;exact jcF this
 ·have hs:Z6 l s.heap (s.heap.update l (jcK λx=>x++ws.toArray)):=jck ..;refine h _ ?_ hs;obtain⟨n',ji⟩:∃n',jcK (λx=>x++ws.toArray) { cls:=jgi "list",data:=jhx vs.toArray n }={ cls:=jgi "list",data:=jhx (vs++ws).toArray n' }:=by
   refine aX (GI vs.toArray n (λx=>x++ws.toArray)) λn' h1=>?_;exact⟨n',by refine aa h1 ?_;simp⟩
  exact⟨n',ji▸jcj _ ho (by refine aa ji ?_;rfl)⟩
theorem Sx {s:Y4}{vs:List Value}(hl:s.heap.PlainList l vs.toArray)(be:vs.length<=100000)(h:∀h',h'.PlainList l vs.reverse.toArray->Z6 l s.heap h'->Q .none { s with heap:=h' }):Y' (Zb af wd) A (call (.builtin "list.reverse") [.ref l]) Q E s:=by
 refine aX (id hl) λn ho=>?_;refine jdx jfV ⟨_,ho,rfl⟩ PySem.F.entry_list_reverse (PySem.F.args_list_reverse_1 _) (AutoSeq1.list_reverse_list_0 l vs.toArray n (d9 (by simpa using be))) ⟨ho,?_⟩;have hs:Z6 l s.heap (s.heap.update l (jcK λx=>x.reverse)):=jck ..;refine h _ ?_ hs;obtain⟨n',ji⟩:∃n',jcK (λx=>x.reverse) { cls:=jgi "list",data:=jhx vs.toArray n }={ cls:=jgi "list",data:=jhx vs.reverse.toArray n' }:=by
  refine aX (GI vs.toArray n (λx=>x.reverse)) λn' h1=>?_;exact⟨n',by refine aa h1 ?_;simp⟩
 exact⟨n',ji▸jcj _ ho (by refine aa ji ?_;rfl)⟩
theorem VL (hA:A.handled=none)(hl:s.heap.IsList l xs.toArray)(hF:F l)(r:ar tk φ s.heap β P vs xs)(hQ:∀it s',jZ A tk φ β P F s vs.reverse it s'->Y' (Zb af wd) A (jdN it) (λte cO=>te=it/\cO=s') ax s'->Q it s'):
 Y' (Zb af wd) A (call (.type "reversed") [.ref l]) Q E s:=by
 have a0:l<s.heap.objs.size:=by refine au hl λY e Y=>?_;exact Zu e
 refine call_reversed_list hl ?_;have FD:({ s with heap:=s.heap.push (revObj l ((xs.toArray.size:Int)-1)) }:Y4).heap.IsRevIter s.heap.objs.size l ((xs.toArray.size:Int)-1):=⟨_,ZZ _ rfl,rfl,rfl⟩
 have W:=Walks.listRev (prog:=af) (w:=wd) hA s.heap.objs.size l (jaE a0) xs.toArray;have be:xs.toArray.size=vs.reverse.length:=by refine aa Zk ?_;refine aa List.length_reverse ?_;refine rwj r.length ?_;rfl
 refine hQ _ _ ⟨revObj l ((xs.toArray.size:Int)-1),[s.heap.objs.size,l],λi v=>i<xs.toArray.size/\xs.toArray[xs.toArray.size-1-i]?=some v,
  λi h=>i<=xs.toArray.size/\h.IsRevIter s.heap.objs.size l ((xs.toArray.size:Int)-1-(i:Int))/\h.IsList l xs.toArray,rfl,rfl,?_,⟨jbj _,?_,hl.push _⟩,λb hb=>?_,λi x hx=>?_⟩ ?_
 ·refine rwj be ?_;exact⟨W.sub,W.frame,λi s Q E hi st hQ=>W.item i s Q E hi st λv h' t hv=>hQ v h' t ⟨hi,hv⟩,W.done,W.self⟩
 ·simpa using FD
 ·simp only[ZQ,jen,or_false]at hb;rcases hb with rfl|rfl
  ·exact .inl rfl
  ·exact .inr ⟨hF,a0⟩
 ·refine bN hx λhi hx=>?_;obtain⟨v,h1,h2⟩:=r.reverse.getr (i:=i) (x:=x) (by
   rw[Zk]at hi;refine aa (jeG hi) ?_;simpa using hx)
  exact aN v h1 h2
 ·exact wpAny_pyIter_revIter FD ⟨rfl,rfl⟩
end
def mv (G:GD)(ab:Env)(T:Tb)(b:Ze):Prop:=b=ab.locals\/(∃y,T.names.lookup y=some .cell/\ab.cells.lookup y=some b)\/G.X b
def ph (G:GD)(ab:Env)(T:Tb)(σ:aA)(β:List Ze)(b:Ze):Prop:=¬mv G ab T b/\∀j:Nat,β[j]?=some b->σ[j]?=some .gone
structure bu (G:GD) (ab:Env) (T:Tb) (s:Y4) (φ:Gh) (σ:aA) (β:List Ze) (P:Ze->Prop) (s':Y4) (am:Gh) (an:aA) (aH:List Ze) (P':Ze->Prop):Prop where
 keep:∀b o,ph G ab T σ β b->s.heap.get? b=some o->s'.heap.get? b=some o
 still:∀b,b<s.heap.objs.size->ph G ab T σ β b->ph G ab T an aH b
 pm:∀a,P a->a<s.heap.objs.size->P' a
 sub:∀t x,φ t x->am t x
 pre:β <+: aH
 size:s.heap.objs.size<=s'.heap.objs.size
 pn:∀a,a<s.heap.objs.size->P' a->P a\/a∈β
 bn:∀a∈aH,a<s.heap.objs.size->a∈β
section
theorem bu.refl:bu G ab T s φ σ β P s φ σ β P:=⟨λY Y Y e=>e,λY Y h=>h,λY p Y=>p,λY Y e=>e,Zj _,Y5 _,λY Y p=>.inl p,λY h Y=>h⟩
theorem bu.trans (x:bu G ab T s φ σ β P s' am an aH P')(y:bu G ab T s' am an aH P' cO kE iv uf rt):bu G ab T s φ σ β P cO kE iv uf rt where
 keep:=λb o hb e=>y.keep b o (x.still b (Zu e) hb) (x.keep b o hb e)
 still:=λb hb h=>y.still b (bf hb x.size) (x.still b hb h)
 pm:=λa p hl=>y.pm a (x.pm a p hl) (bf hl x.size)
 sub:=λt z e=>y.sub t z (x.sub t z e)
 pre:=x.pre.trans y.pre
 size:=Y1 x.size y.size
 pn:=λa hl p=>(y.pn a (bf hl x.size) p).elim (x.pn a hl) λq=>.inr (x.bn a q hl)
 bn:=λa h hl=>x.bn a (y.bn a h (bf hl x.size)) hl
theorem bu.go (k:GX G s φ s' am):bu G ab T s φ σ β P s' am σ β P:=⟨λb o hb e=>k.ext b o (λq=>hb.1 (.inr (.inr q))) e,λY Y h=>h,λY p Y=>p,k.sub,Zj _,k.grows.size,λY Y p=>.inl p,λY h Y=>h⟩
theorem SR.stillP (S:SR G sB aj ah ab T φ ρ σ β P m s)(p:P a):ph G ab T σ β a:=by
 refine⟨λq=>?_,λj hj=>?_⟩
 ·rcases q with rfl|⟨y,h1,h2⟩|q
  ·exact S.fr.ploc p
  rotate_left
  ·exact(S.er.psafe a p).2 q
  ·refine fq (S.fr.own y h1) λc e1 e2 Y=>?_;rw[h2]at e1;cases e1;exact e2 p
 ·have hl:j<σ.length:=by refine rwj S.lenB ?_;exact(ZA.mp hj).1
  induction ho:σ[j]? using ae with
  |none=>rw[Zc hl]at ho;cases ho
  |some o =>
   by_cases hg:o=.gone
   ·refine aa hg ?_;rfl
   ·exact absurd p (S.live j a o hj ho hg)
theorem SR.carryK (S:SR G sB aj ah ab T φ ρ σ β P m s)(C:bu G ab T s φ σ β P s' am an aH P'):∀a o,P a->s.heap.get? a=some o->s'.heap.get? a=some o/\P' a :=
 λa o p e=>⟨C.keep a o (S.stillP p) e,C.pm a p (Zu e)⟩
theorem SR.carry (S:SR G sB aj ah ab T φ ρ σ β P m s)(C:bu G ab T s φ σ β P s' am an aH P')(r:VR tk φ s.heap β P v x):VR tk am s'.heap aH P' v x :=
 r.mono C.sub (S.carryK C) C.pre
theorem SR.carrys (S:SR G sB aj ah ab T φ ρ σ β P m s)(C:bu G ab T s φ σ β P s' am an aH P')(r:ar tk φ s.heap β P v x):ar tk am s'.heap aH P' v x :=
 r.mono C.sub (S.carryK C) C.pre
structure bb (G:GD) (A:ZV) (Φ:cX) (sB:Y4) (ah:Ze->Prop) (ab:Env) (T:Tb):Prop where
 hO:fT G A Φ
 hE:bQ ab T
 hT:jx T
 IB:bh G sB.heap
 hP₀:∀a,sB.heap.objs.size<=a->ah a
 hI:jiK ab=false
 hcl:∀x c,ab.cells.lookup x=some c->T.celled x=true
def Step (G:GD)(sB:Y4)(aj:Gh)(ah:Ze->Prop)(ab:Env)(T:Tb)(s:Y4)(φ:Gh)(σ:aA)(β:List Ze)(P:Ze->Prop)(av:aB)(an:aA)(s':Y4)(K:Gh->List Ze->(Ze->Prop)->Prop):Prop :=
 ∃am aH P' m',SR G sB aj ah ab T am av an aH P' m' s'/\bu G ab T s φ σ β P s' am an aH P'/\K am aH P'
def ET (G:GD)(A:ZV)(sB:Y4)(aj:Gh)(ah:Ze->Prop)(ab:Env)(T:Tb)(ρ:aB)(σ:aA)(t:Sem Value)(v:AV)(an:aA):Prop :=
 ∀s φ β P m,SR G sB aj ah ab T φ ρ σ β P m s->Y' (Zb af wd) A t (λx s'=>Step G sB aj ah ab T s φ σ β P ρ an s' λam aH P'=>VR G.tok am s'.heap aH P' v x) ax s
theorem MN (F:bb G A Φ sB ah ab T)(h:ES G A ab T ρ σ t v):ET G A sB aj ah ab T ρ σ t v σ:=λs φ β P m S =>
 h.post (S.inv F.IB) S.er λx s' am k I' R' r=>⟨am,β,P,m,S.go k,.go k,r⟩
theorem SR.scratch (S:SR G sB aj ah ab T φ ρ σ β P m s)(hC:sB.heap.objs.size<=C)(hp:¬P C)(hb:C∉β)(hl:C≠ab.locals)(hn:s.heap.Ns C m')(hs:Z6 C s.heap h'):
 SR G sB aj ah ab T φ ρ σ β P m { s with heap:=h' }:=by
 have EE:=S.tabs.1.notX_ns hn;have TT:=S.tabs.1.but (λb o hb e=>hs.extBut b o hb e) EE (S.tabs.1.noHas_ns hn);have R:=S.er.but (X:=(·=C)) (h':=h') (t:=s.toks) S.tabs.1 (λb hb q=>EE (q▸hb)) (λb o hb e=>hs.extBut b o hb e) (ZK hs.1.symm) (Y5 _) (λa p q=>hp (q▸p)) (λa p q=>hb (q▸p)) (λq=>hl q.symm)
  (λx c v hc hi q=>rT hn hi q.symm)
 refine dW S.base λhh tt e=>?_;exact{ S with base:=jP h' s.toks (by refine aa e ?_;rfl),old:=λb o hb e=>hs.extBut b o (sC hC e) (S.old b o hb e),size:=Y1 S.size (ZK hs.1.symm),er:=R,tabs:=⟨TT.1,λc q=>S.tabs.2 c (TT.2 c q)⟩ }
theorem SR.alloc1 (S:SR G sB aj ah ab T φ ρ σ β P m s)(k:GX G s φ s' am)(zx:∀a,bM G s'.heap a->s.heap.objs.size<=a->P' a)(jO:∀a,P' a->P a)(oA:∀a,P a->a<s.heap.objs.size->P' a)(sO:∀a,s'.heap.objs.size<=a->P' a)(h1:s.heap.objs.size<=a)(h2:a<s'.heap.objs.size)(h3:¬P' a)(hg:o≠.gone)(ho:OR G.tok am s'.heap (β++[a]) P' o a):
 SR G sB aj ah ab T am ρ (σ++[o]) (β++[a]) P' m s'/\bu G ab T s φ σ β P s' am (σ++[o]) (β++[a]) P'/\VR G.tok am s'.heap (β++[a]) P' (.ref σ.length) (.ref a):=by
 refine cz (S.alloc (os:=[o]) (as:=[a]) k zx jO oA sO (λb hb=>?_) (by simp) rfl (λu hu=>?_) (λj u hu=>?_)) ⟨λb o hb e=>k.ext b o (λq=>hb.1 (.inr (.inr q))) e,λb hb cM=>⟨cM.1,λj hj=>?_⟩,oA,k.sub,jcH _ _,k.grows.size,λa Y p=>.inl (jO a p),λb hb hl=>?_⟩ (.ref ?_)
 ·refine aa (Zq.mp hb) ?_;exact cz h1 h2 h3
 ·refine aa (Zq.mp hu) ?_;exact hg
 ·induction j using jaw with
  |zero=>cases hu;exact aN a rfl ho
  |succ j=>simp at hu
 ·rcases jca j β.length with q|q
  ·rw[Zt q]at hj;have:=cM.2 j hj;rw[Zt (by refine rwj S.lenB ?_;exact q)];exact this
  ·rw[Zg q]at hj;have:b=a:=by
    have:=ZG hj;simpa using this
   exact absurd hb (ZW.mpr (this▸h1))
 ·rcases ZE.mp hb with q|q
  ·exact q
  ·exact absurd hl (ZW.mpr ((Zq.mp q)▸h1))
 ·rw[Zg (by refine aa S.lenB ?_;exact Y5 _),S.lenB,jaA];rfl
theorem CB (S:SR G sB aj ah ab T φ ρ σ β P m s)(cd:CD G s φ β P vs am s' D C da P')(th:Bool):
 Step G sB aj ah ab T s φ σ β P ρ (if th then σ++[.list vs]else σ) s' λam aH P'=>VR G.tok am s'.heap aH P' (if th then .ref σ.length else .lst vs) (.ref D)/\¬P' C/\C∉aH:=by
 refine au cd.items λxs a1 a2=>?_;have hD:D<s'.heap.objs.size:=by refine aX a1 λn ho=>?_;exact Zu ho
 have Ew:C<s'.heap.objs.size:=cd.ns.lt;have TB:=(cd.go.tabs S.tabs.1).1;have Fg:∀c,bM G s'.heap c->c≠C:=λc h q=>TB.noHas_ns cd.ns (q▸h);have Qf:∀c,bM G s'.heap c->c≠D:=λc h q=>(TB.notX_list a1).2 (q▸h);have Ey:C∉β:=λq=>Zr _ (bf (S.er.blt C q) cd.cNew)
 induction th using ZH with
 |false =>
  have S':=S.alloc (os:=[]) (as:=[]) (P':=λa=>P a/\a≠C) cd.go (λa h1 h2=>⟨S.er.fresh a h2,Fg a h1⟩) (λa p=>p.1) (λa p hl=>⟨p,λq=>Zr _ (bf (q▸hl) cd.cNew)⟩)
   (λa ha=>⟨S.er.fresh a (Y1 cd.go.grows.size ha),λq=>Zr _ (bf (q▸Ew) ha)⟩) (λa ha=>nomatch ha) jaR rfl (λo ho=>nomatch ho) (λj o ho=>by simp at ho)
  rw[Z2,Z2]at S';refine⟨am,β,_,m,S',⟨λb o hb e=>cd.go.ext b o (λq=>hb.1 (.inr (.inr q))) e,λb Y h=>h,λa p hl=>⟨p,λq=>Zr _ (bf (q▸hl) cd.cNew)⟩,cd.go.sub,Zj _,cd.go.grows.size,λa Y p=>.inl p.1,λY h Y=>h⟩,?_,λp=>p.2 rfl,Ey⟩;exact .lst a1 ⟨S.er.fresh D cd.dNew,jeC cd.cd⟩ (a2.weak λa p=>⟨cd.sub a p,λq=>cd.pC (q▸p)⟩)
 |true =>
  obtain⟨aM,bU,aF⟩:=S.alloc1 (o:=.list vs) (a:=D) (P':=λa=>P a/\a≠C/\a≠D) cd.go (λa h1 h2=>cz (S.er.fresh a h2) (Fg a h1) (Qf a h1)) (λa p=>p.1) (λa p hl=>cz p (λq=>Zr _ (bf (q▸hl) cd.cNew)) (λq=>Zr _ (bf (q▸hl) cd.dNew)))
   (λa ha=>cz (S.er.fresh a (Y1 cd.go.grows.size ha)) (λq=>Zr _ (bf (q▸Ew) ha)) (λq=>Zr _ (bf (q▸hD) ha))) cd.dNew hD (λp=>p.2.2 rfl) (λq=>nomatch q)
   (.list a1 (a2.mono (λY Y e=>e) (λa o p e=>⟨e,cd.sub a p,λq=>cd.pC (q▸p),λq=>cd.pD (q▸p)⟩) (jcH _ _)))
  refine⟨am,_,_,m,aM,bU,aF,λp=>p.2.1 rfl,λq=>?_⟩;rcases ZE.mp q with q|q
  ·exact Ey q
  ·exact cd.cd (Zq.mp q)
end
section
theorem H' (S:SR G sB aj ah ab T φ ρ σ β P m s)(r:ar G.tok φ s.heap β P vs xs):
 Step G sB aj ah ab T s φ σ β P ρ (σ++[.list vs]) { s with heap:=s.heap.push { cls:=.type "list",dict:=none,data:=.seq xs.toArray } } λam aH P'=>VR G.tok am (s.heap.push { cls:=.type "list",dict:=none,data:=.seq xs.toArray }) aH P' (.ref σ.length) (.ref s.heap.objs.size):=by
 have hz:(s.heap.push { cls:=.type "list",dict:=none,data:=.seq xs.toArray }).objs.size=s.heap.objs.size+1:=ZP ..;have k:GX G s φ { s with heap:=s.heap.push { cls:=.type "list",dict:=none,data:=.seq xs.toArray } } φ:=.same S.er.tk bF.push (Y5 _);obtain⟨aM,bU,aF⟩:=S.alloc1 (o:=.list vs) (a:=s.heap.objs.size) (P':=λa=>P a/\a≠s.heap.objs.size) k (λa h1 h2=>absurd (bM.lt S.tabs.1 (iW (λb o e=>Zd _ e) S.tabs.1 a h1)) (ZW.mpr h2)) (λa p=>p.1) (λa p hl=>⟨p,jaE hl⟩)
  (λa ha=>⟨S.er.fresh a (Y1 k.grows.size ha),λq=>Zr _ (bf (jaj _) (hz▸q▸ha))⟩) (Y5 _) (by show _<(s.heap.push _).objs.size;refine aa hz ?_;exact jaj _) (λp=>p.2 rfl) (λq=>nomatch q)
  (.list (oK s.heap) (r.mono (λY Y e=>e) (λa o p e=>⟨Zd _ e,p,jaE (Zu e)⟩) (jcH _ _)))
 exact⟨φ,_,_,m,aM,bU,aF⟩
theorem Wr (S:SR G sB aj ah ab T φ ρ σ β P m s):
 Step G sB aj ah ab T s φ σ β P ρ (σ++[.dict []]) { s with heap:=s.heap.push { cls:=.type "dict",data:=.dict #[] } } λam aH P'=>VR G.tok am (s.heap.push { cls:=.type "dict",data:=.dict #[] }) aH P' (.ref σ.length) (.ref s.heap.objs.size):=by
 have hz:(s.heap.push { cls:=.type "dict",data:=.dict #[] }).objs.size=s.heap.objs.size+1:=ZP ..;have k:GX G s φ { s with heap:=s.heap.push { cls:=.type "dict",data:=.dict #[] } } φ:=.same S.er.tk bF.push (Y5 _);obtain⟨aM,bU,aF⟩:=S.alloc1 (o:=.dict []) (a:=s.heap.objs.size) (P':=λa=>P a/\a≠s.heap.objs.size) k (λa h1 h2=>absurd (bM.lt S.tabs.1 (iW (λb o e=>Zd _ e) S.tabs.1 a h1)) (ZW.mpr h2)) (λa p=>p.1) (λa p hl=>⟨p,jaE hl⟩)
  (λa ha=>⟨S.er.fresh a (Y1 k.grows.size ha),λq=>Zr _ (bf (jaj _) (hz▸q▸ha))⟩) (Y5 _) (by show _<(s.heap.push _).objs.size;refine aa hz ?_;exact jaj _) (λp=>p.2 rfl) (λq=>nomatch q)
  (OR.dict (ks:=[]) (vs:=[]) (xs:=[]) (jfj ..) rfl .nil)
 exact⟨φ,_,_,m,aM,bU,aF⟩
theorem WZ (h:ao T e=.list .nil):∃p,e=.List [] p:=by
 refine bB (wF h) λxs p e1 e2=>?_
 induction xs using Y2 with
 |nil=>exact⟨p,e1⟩
 |cons=>exact GY e2
theorem L3 (h:pP (.cons x es)=true):x=.list .nil/\pP es=true:=by
 cases x with
 |list ys =>
  cases ys with
  |nil=>exact⟨rfl,h⟩
  |cons=>exact bP h
 |_=>exact bP h
theorem L2:∀{pos:Pos}{s:Y4}{Q:List Value->Y4->Prop},pP (bg T elts)=true ->
 (∀(as:List Ze) (s':Y4),as.length=elts.length->s'={ s with heap:=s'.heap }->ce s.heap s'.heap->s.heap.objs.size<=s'.heap.objs.size->as.Nodup->(∀a∈as,s.heap.objs.size<=a/\a<s'.heap.objs.size/\s'.heap.PlainList a #[])->Q (as.map jbz) s') ->
 Y' (Zb af wd) A (jcl (jcn pos (jas elts ab))) Q E s:=by
 induction elts with
 |nil=>exact λY hQ=>jdk (hQ [] _ rfl rfl (ce.refl _) (Y5 _) jaR λa ha=>nomatch ha)
 |cons e elts ih =>
  intro pos s Q he hQ;refine bN (L3 he) λh1 he=>?_;refine aX (WZ h1) ?_;rintro p rfl;refine jcE (jcZ (jdk ⟨by decide,?_⟩)) rfl;have hL:=oK (xs:=[]) s.heap;have hz:(s.heap.push { cls:=.type "list",dict:=none,data:=.seq ([]:List Value).toArray }).objs.size=s.heap.objs.size+1:=ZP ..;have hX:ce s.heap (s.heap.push { cls:=.type "list",dict:=none,data:=.seq ([]:List Value).toArray }):=λb o e=>Zd _ e;generalize s.heap.push { cls:=.type "list",dict:=none,data:=.seq ([]:List Value).toArray }=H at hL hz hX;have aU:s.heap.objs.size<=H.objs.size:=hz▸ZY _;refine ih he λas s' hl hs hx be df has=>?_;refine hQ (s.heap.objs.size::as) s' (congrArg (·+1) hl) hs (ce.trans hX hx) (Y1 aU be) (jaL.mpr ⟨λq=>jhE _ (hz▸(has _ q).1),df⟩) λa ha=>?_;rcases ZQ.mp ha with rfl|q
  ·exact cz (Y5 _) (bf (hz▸jaj _) be) (hL.at λo e=>hx _ o e)
  ·exact⟨Y1 aU (has a q).1,(has a q).2⟩
end
section
theorem DP:∀(es:List Expr),(bg T es).len=es.length
 | []=>rfl
 |e::es=>by simp only[tY,Nu,DP es,Zo]
theorem Hy:∀(as:List Ze) (k:Nat),(∀j a,as[j]?=some a->β[n+(k+j)]?=some a)->ar tk φ h β P ((ZT k as.length).map λj=>.ref (n+j)) (as.map jbz)
 | [],_,_=>.nil
 |a::as,k,hb=>by
  refine aa Zo ?_;refine aa jdc ?_;refine .cons (.ref (by simpa using hb 0 a rfl)) (Hy as (k+1) λj a ha=>?_);have:=hb (j+1) a (by simpa using ha);refine aa (show k+1+j=k+(j+1)from jdU k 1 j) ?_;exact this
theorem Wt {σ:aA}{G:GD}{s s':Y4}{as:List Ze}(S:SR G sB aj ah ab T φ ρ σ β P m s)(hs:s'={ s with heap:=s'.heap })(hx:ce s.heap s'.heap)(hz:s.heap.objs.size<=s'.heap.objs.size)(df:as.Nodup)(has:∀a∈as,s.heap.objs.size<=a/\a<s'.heap.objs.size/\s'.heap.PlainList a #[]):
 Step G sB aj ah ab T s φ σ β P ρ (σ++Zh as.length (.list [])++[.list ((Y7 as.length).map λj=>.ref (σ.length+j))])
  { s' with heap:=s'.heap.push { cls:=.type "list",dict:=none,data:=.seq (as.map jbz).toArray } } λam aH P'=>VR G.tok am (s'.heap.push { cls:=.type "list",dict:=none,data:=.seq (as.map jbz).toArray }) aH P' (.ref (σ.length+as.length)) (.ref s'.heap.objs.size):=by
 have Fw:(s'.heap.push { cls:=.type "list",dict:=none,data:=.seq (as.map jbz).toArray }).objs.size=s'.heap.objs.size+1:=ZP ..;have sV:ce s'.heap (s'.heap.push { cls:=.type "list",dict:=none,data:=.seq (as.map jbz).toArray }):=λb o e=>Zd _ e;generalize hH:s'.heap.push { cls:=.type "list",dict:=none,data:=.seq (as.map jbz).toArray }=H at Fw sV ⊢;have hL:H.PlainList s'.heap.objs.size (as.map jbz).toArray:=hH▸oK s'.heap;have k:GX G s φ { s' with heap:=H } φ:=.same S.er.tk ⟨by refine aa hs ?_;exact⟨H,s.toks,rfl,hx.trans sV⟩,by show _<=H.objs.size;lia⟩ (by refine aa hs ?_;exact Y5 _);have q5:s'.heap.objs.size<H.objs.size:=ZK (id (jfk Fw));have m4:s.heap.objs.size<H.objs.size:=by lia
 rw[jaz];have aM:=S.alloc (os:=Zh as.length (.list [])++[.list ((Y7 as.length).map λj=>.ref (σ.length+j))]) (as:=as++[s'.heap.objs.size]) (P':=fN P s.heap.objs.size H.objs.size) k (λa h1 h2=>absurd (bM.lt S.tabs.1 (iW (hx.trans sV) S.tabs.1 a h1)) (ZW.mpr h2)) (λa p=>p.1)
  (λa p hl=>⟨p,λq=>ZW.mpr q.1 hl⟩) (λa ha=>⟨S.er.fresh a (Y1 k.grows.size ha),λq=>ZW.mpr (show H.objs.size<=a from ha) q.2⟩)
  (λa ha=>?_) ?_ (by simp) (λo ho=>?_) (λj o ho=>?_)
 ·refine⟨φ,_,_,m,aM,⟨λb o Y e=>(hx.trans sV) b o e,λb hb cM=>⟨cM.1,λj hj=>?_⟩,λa p hl=>⟨p,λq=>ZW.mpr q.1 hl⟩,λY Y e=>e,jcH _ _,k.grows.size,λa Y p=>.inl p.1,λb hb hl=>?_⟩,.ref ?_⟩
  ·rcases jca j β.length with q|q
   ·rw[Zt q]at hj;have:=cM.2 j hj;rw[Zt (by refine rwj S.lenB ?_;exact q)];exact this
   ·rw[Zg q]at hj;have hm:=ZG hj;exfalso;rcases ZE.mp hm with q|q
    ·exact ZW.mpr (has b q).1 hb
    ·rw[Zq.mp q]at hb;exact ZW.mpr hz hb
  ·rcases ZE.mp hb with q|q
   ·exact q
   ·rcases ZE.mp q with q|q
    ·exact absurd hl (ZW.mpr (has b q).1)
    ·rw[Zq.mp q]at hl;exact absurd hl (ZW.mpr hz)
  ·rw[Zg (by refine aa S.lenB ?_;exact ZD _ _),S.lenB,jbU,Zg (Y5 _),jaA];rfl
 ·rcases ZE.mp ha with q|q
  ·refine fY (has a q) λh1 h2 Y=>?_;have h3:a<H.objs.size:=jam h2 (q5);exact cz h1 h3 (λp=>p.2 ⟨h1,h3⟩)
  ·have:=Zq.mp q;subst this;exact cz hz q5 (λp=>p.2 ⟨hz,q5⟩)
 ·rw[jbm];refine cz df (by simp) (λa ha b hb q=>?_);have:=Zq.mp hb;subst this;subst q;exact Zr _ (has _ ha).2.1
 ·rcases ZE.mp ho with q|q
  ·refine aa ((List.mem_replicate.mp q).2) ?_;exact λq=>nomatch q
  ·refine aa (Zq.mp q) ?_;exact λq=>nomatch q
 ·rcases jca j as.length with q|q
  ·rw[Zt (by simpa using q),jcL]at ho;rw[if_pos q]at ho;cases ho;refine aN (as[j]) (by refine aa (Zt q) ?_;refine aa (Zc q) ?_;rfl) (.list (xs:=[]) ((has _ (jbF q)).2.2.at λo e=>sV _ o e) .nil)
  ·rw[Zg (by simpa using q)]at ho;have hj:j-as.length=0:=by
    rcases jii (j-as.length)with z|z
    ·exact z
    ·exfalso;rw[jax]at ho;rw[jci (by simp;exact z)]at ho;cases ho
   rw[jax,hj]at ho;cases ho;refine aN s'.heap.objs.size (by refine aa (Zg q) ?_;refine aa hj ?_;rfl) (.list hL ?_);refine aa jdp ?_;refine Hy as 0 λi a ha=>?_;rw[Zg (by refine aa S.lenB ?_;exact ZD _ _),S.lenB,jey,jbU,Zt (ZA.mp ha).1];exact ha
theorem KJ {C:Expr->Prop}{e:Expr}(h:eK e=true)(h1:∀es p,C (.List es p))(h2:∀p,C (.Dict [] [] p))(h3:∀a gs sc p,C (.ListComp a gs sc p)):C e:=by
 induction e using ZU with
 |List=>exact h1 ..
 |ListComp=>exact h3 ..
 |Dict ks vs =>
  induction ks using Y2 with
  |nil=>induction vs using Y2 with
   |nil=>exact h2 _
   |cons=>exact bP h
  |cons=>exact bP h
 |_=>exact bP h
theorem Rt [Decidable c](h:(if c then Ex.comp n gs else .bad)=.comp n' gs'):c/\n'=n/\gs'=gs:=by
 by_cases q:c
 ·rw[if_pos q]at h;exact cz q ((Ex.comp.inj h).1.symm) ((Ex.comp.inj h).2.symm)
 ·rw[if_neg q]at h;exact TD h
theorem FX [Decidable c]:(if c then x else y)=x\/(if c then x else y)=y:=by
 by_cases q:c
 ·exact .inl (if_pos q)
 ·exact .inr (if_neg q)
theorem CA (hO:fT G A Φ)(h:ao T (.ListComp aD gens sc pos)=.comp n gs):
 kG T sc/\(∀g∈gens,g.is_async=0)/\bl G A Φ σ aD/\(∀g∈gens,bl G A Φ σ g.iter/\(∀f p as pos,g.iter=.Call (.Name f p) as [] pos->∀a∈as,bl G A Φ σ a)/\∀c∈g.ifs,bl G A Φ σ c) /\
 n=(eB sc).length/\gs=iY T (T.comp sc) (ao (T.comp sc) aD) gens :=
 have all:∀e,bl G A Φ σ e:=λe=>cH hO _ e (Y5 _)
 (Rt h).elim λhc r=>cu hc λhc c5=>cu hc λhc c4=>cu hc λhc c3=>cu hc λc1 c2 =>
  ⟨⟨eq_of_beq c1,of_decide_eq_true c2,λx hx=>Y6.mp c4 x (jdJ.mpr ⟨_,hx,rfl⟩),tU c5⟩,λg hg=>eq_of_beq (Y6.mp c3 g hg),all _,λg hg=>cz (all _) (λf p as pos he a ha=>all _) (λc hc=>all _),r⟩
theorem MM (F:bb G A Φ sB ah ab T)(he:oR Φ ρ σ (.list (bg T elts))=some (v,an)):ET G A sB aj ah ab T ρ σ (jaa (.List elts pos) ab) v an:=by
 by_cases hem:(pP (bg T elts)&&decide (0<(bg T elts).len/\(bg T elts).len<=1000))=true
 ·refine aG (Q:=λr=>ET G A sB aj ah ab T ρ σ (jaa (.List elts pos) ab) r.1 r.2) ((if_pos hem).symm.trans he) λs φ β P m S=>?_;refine cu hem λh1 hn=>jcZ (L2 h1 λas s' hl hs hx hz df has=>?_);replace hn:=(of_decide_eq_true hn).2;rw[DP]at hn ⊢;rw[<-hl]at hn ⊢;exact⟨d9 (by refine aa (Y0 _) ?_;exact Y1 hn (by decide)),Wt S hs hx hz df has⟩
 ·replace he:=(if_neg hem).symm.trans he
  induction b0:bX Φ σ ρ (bg T elts)using ae with
  |none=>rw[b0]at he;exact ai he
  |some vs =>
   rw[b0]at he;refine bR he λaU he=>aG (Q:=λr=>ET G A sB aj ah ab T ρ σ (jaa (.List elts pos) ab) r.1 r.2) he λs φ β P m S=>?_;refine jcZ (((j8 F.hE (λe Y=>cH F.hO _ e (Y5 _)) b0).2 pos).post (S.inv F.IB) S.er λxs ak ay aw bd aI aF=>⟨d9 (by refine rwj aF.length ?_;exact aU),?_⟩);refine kf (H' (S.go aw) aF) λaV dm ck dh br cY bI=>?_;exact⟨aV,dm,ck,dh,br,(bu.go aw).trans cY,bI⟩
theorem Ve (S:SR G sB aj ah ab T φ ρ σ β P m s)(cd:CD G s φ β P vs ay ak D C da cC)(hs:Z6 C ak.heap h')(St:∃am aH P' m',SR G sB aj ah ab T am ρ an aH P' m' ak/\bu G ab T s φ σ β P ak am an aH P'/\VR G.tok am ak.heap aH P' v x/\¬P' C/\C∉aH):
 Step G sB aj ah ab T s φ σ β P ρ an { ak with heap:=h' } λam aH P'=>VR G.tok am h' aH P' v x:=by
 refine sk St λay dc cC da aM bU aF hp hb=>?_;have hC:s.heap.objs.size<=C:=cd.cNew;refine⟨ay,dc,cC,da,aM.scratch (Y1 S.size hC) hp hb (λq=>Zr _ (bf (q▸S.er.ns.lt:C<s.heap.objs.size) hC)) cd.ns hs,⟨λb o hb e=>hs.extBut b o (λq=>Zr _ (bf (q▸Zu e:C<s.heap.objs.size) hC)) (bU.keep b o hb e),bU.still,bU.pm,bU.sub,bU.pre,Y1 bU.size (ZK hs.1.symm),bU.pn,bU.bn⟩,?_⟩;exact aF.mono (λY Y e=>e) (λa o p e=>⟨hs.extBut a o (λq=>hp (q▸p)) e,p⟩) (Zj _)
theorem MK (F:bb G A Φ sB ah ab T)(h:ao T (.ListComp aD gens sc pos)=.comp n gs)(b0:fF Φ σ ρ n gs=some vs):
 ET G A sB aj ah ab T ρ σ (jaa (.ListComp aD gens sc pos) ab) (.ref σ.length) (σ++[.list vs]):=λs φ β P m S=>by
 refine DB (CA (σ:=σ) F.hO h) λc1 c2 c3 c4 c5 c6=>?_;rw[c5,c6]at b0;have sL:=xK (mj:=none) (pos:=pos) (nq:=jge gens pos) (E:=ax) (Q:=λx s'=>Step G sB aj ah ab T s φ σ β P ρ (σ++[.list vs]) s' λam aH P'=>VR G.tok am s'.heap aH P' (.ref σ.length) x)
  F.hO.hA F.hE F.hO.hG c1 c2 c3 c4 b0 (S.inv F.IB) S.er λam s' D C m' P' cd=>⟨m',cd.ns,λh' hs=>Ve (an:=σ++[AO.list vs]) (v:=AV.ref σ.length) (x:=jbz D) S cd hs (CB S cd true)⟩
 rw[eval_ListComp,sL.1];exact sL.2
theorem ML (F:bb G A Φ sB ah ab T)(he:oR Φ ρ σ (ao T (.ListComp aD gens sc pos))=some (v,an)):ET G A sB aj ah ab T ρ σ (jaa (.ListComp aD gens sc pos) ab) v an:=by
 have k:ao T (.ListComp aD gens sc pos)=.comp (eB sc).length (iY T (T.comp sc) (ao (T.comp sc) aD) gens)\/ao T (.ListComp aD gens sc pos)=.bad:=FX;rcases k with h|h
 ·have PD:=h▸he;replace he:(match fF Φ σ ρ (eB sc).length (iY T (T.comp sc) (ao (T.comp sc) aD) gens)with|some vs=>some (AV.ref σ.length,σ++[AO.list vs])|none=>none)=some (v,an):=PD
  induction b0:fF Φ σ ρ (eB sc).length (iY T (T.comp sc) (ao (T.comp sc) aD) gens)using ae with
  |none=>rw[b0]at he;exact ai he
  |some vs =>
   rw[b0]at he;exact aG (Q:=λr=>ET G A sB aj ah ab T ρ σ (jaa (.ListComp aD gens sc pos) ab) r.1 r.2) he (MK F h b0)
 ·rw[h]at he;exact ai he
theorem C7 (F:bb G A Φ sB ah ab T){e:Expr}{th:Bool}{v:AV}(hc:th=true->eK e=true)(he:gq Φ ρ σ th (ao T e)=some (v,an)):ET G A sB aj ah ab T ρ σ (jaa e ab) v an:=by
 induction th using ZH with
 |false =>
  refine lP (Q:=λr=>ET G A sB aj ah ab T ρ σ (jaa e ab) r.1 r.2) he λu hu=>?_;exact MN F (cH F.hO _ e (Y5 _) ab T ρ _ F.hE hu).1
 |true =>
  revert he;refine KJ (C:=λe=>gq Φ ρ σ true (ao T e)=some (v,an)->ET G A sB aj ah ab T ρ σ (jaa e ab) v an) (hc rfl) (λes p he=>MM F he) (λp he=>?_) λa gs sc p he=>ML F he;exact aG (Q:=λr=>ET G A sB aj ah ab T ρ σ (jaa (.Dict [] [] p) ab) r.1 r.2) he λs φ β P m S=>wpAny_Dict_empty (Wr S)
end
section
variable {A:ZV}{ab:Env}{T:Tb}{ρ av:aB}{σ an iv:aA}{G:GD}{s s' cO:Y4}{φ am kE:Gh}{β aH uf:List Ze}{P P' rt ah:Ze->Prop}{m m':Str->Option Value}{tk:Ze}{h h':jak}
variable {sB:Y4}{aj:Gh}{Φ:cX}
abbrev gk (G:GD)(sB:Y4)(aj:Gh)(ah:Ze->Prop)(ab:Env)(T:Tb)(s:Y4)(φ:Gh)(σ:aA)(β:List Ze)(P:Ze->Prop)(av:aB)(an:aA)(s':Y4):Prop :=
 ∃am aH P' m',SR G sB aj ah ab T am av an aH P' m' s'/\bu G ab T s φ σ β P s' am an aH P'
def o7 (G:GD)(sB:Y4)(aj:Gh)(ah:Ze->Prop)(ab:Env)(T:Tb)(s:Y4)(φ:Gh)(σ:aA)(β:List Ze)(P:Ze->Prop):Fl->jeB->Y4->Prop
 | .next av an,f,s'=>f=.next/\gk G sB aj ah ab T s φ σ β P av an s'
 | .ret v,f,s'=>∃x,f=.ret x/\∃am,GX G sB aj s' am/\VR G.tok am s'.heap [] ah v x
def ca (G:GD)(A:ZV)(sB:Y4)(aj:Gh)(ah:Ze->Prop)(ab:Env)(T:Tb)(ρ:aB)(σ:aA)(t:Sem jeB)(fl:Fl):Prop :=
 ∀s φ β P m,SR G sB aj ah ab T φ ρ σ β P m s->Y' (Zb af wd) A t (o7 G sB aj ah ab T s φ σ β P fl) ax s
theorem nw {x:Str}{i:Nat}{v:AV}{xv:Value}{Q:Unit->Y4->Prop}{E:Value->Y4->Prop}(F:bb G A Φ sB ah ab T)(hx:T.own x=some i)(S:SR G sB aj ah ab T φ ρ σ β P m s)(r:VR G.tok φ s.heap β P v xv)
 (hQ:∀s' m',SR G sB aj ah ab T φ (ρ.set i (some v)) σ β P m' s'->bu G ab T s φ σ β P s' φ σ β P->(∀b o,¬mv G ab T b->s.heap.get? b=some o->s'.heap.get? b=some o)->Q () s'):Y' (Zb af wd) A (jdw ab x xv) Q E s :=
 S.store F.hE F.hT hx r λs' m' S' kp sz=>hQ s' m' S' ⟨λb o hb e=>kp b o (λq=>hb.1 (q.elim .inl λq=>.inr (.inl q))) e,λY Y h=>h,λY p Y=>p,λY Y e=>e,Zj _,sz,λY Y p=>.inl p,λY h Y=>h⟩ λb o hb e=>kp b o (λq=>hb (q.elim .inl λq=>.inr (.inl q))) e
inductive lJ (A:ZV) (ab:Env):List Str->List (Value->Sem Unit)->Prop
 |nil:lJ A ab [] []
 |cons {x:Str}{xs:List Str}{g:Value->Sem Unit}{gs:List (Value->Sem Unit)} (h:∀v (Q:Unit->Y4->Prop) (E:Value->Y4->Prop) s,Y' (Zb af wd) A (jdw ab x v) Q E s->Y' (Zb af wd) A (g v) Q E s) (r:lJ A ab xs gs):lJ A ab (x::xs) (g::gs)
theorem tq {α γ:Type}{f:α->Option γ}{a:α}{as:List α}{bs:List γ}(h:(a::as).mapM f=some bs):∃b cs,bs=b::cs/\f a=some b/\as.mapM f=some cs:=by
 rw[jgu]at h;exact pN (f:=λb=>(as.mapM f).bind λcs=>some (b::cs)) h λb h1 h=>pN (f:=λcs=>some (b::cs)) h λcs h2 h=>m9 b cs ((Y3 h).symm) h1 h2
theorem ww {C:List Nat->List AV->aB->aB->Prop}(h0:∀ρ,C [] [] ρ ρ)(h1:∀i is v vs ρ av,eC (ρ.set i (some v)) is vs=some av->C is vs (ρ.set i (some v)) av->C (i::is) (v::vs) ρ av){is:List Nat}:∀{vs:List AV}{ρ av:aB},eC ρ is vs=some av->C is vs ρ av:=by
 induction is with
 |nil =>
  intro vs ρ av h
  induction vs using Y2 with
  |nil=>exact aG (Q:=C [] [] ρ) h (h0 ρ)
  |cons=>exact ai h
 |cons i is ih =>
  intro vs ρ av h
  induction vs using Y2 with
  |nil=>exact ai h
  |cons v vs=>exact h1 i is v vs ρ av h (ih h)
theorem Bd (F:bb G A Φ sB ah ab T){is:List Nat}{vs:List AV}{ρ av:aB}(hs:eC ρ is vs=some av){E:Value->Y4->Prop}:∀{xs:List Str}{gs:List (Value->Sem Unit)}{ys:List Value}{s:Y4}{m:Str->Option Value}{Q:Unit->Y4->Prop},
 lJ A ab xs gs->xs.mapM T.own=some is->SR G sB aj ah ab T φ ρ σ β P m s->ar G.tok φ s.heap β P vs ys ->
 (∀s' m',SR G sB aj ah ab T φ av σ β P m' s'->bu G ab T s φ σ β P s' φ σ β P->Q () s')->Y' (Zb af wd) A (jhA gs ys) Q E s:=by
 refine ww (C:=λis vs ρ av=>∀{xs:List Str}{gs:List (Value->Sem Unit)}{ys:List Value}{s:Y4}{m:Str->Option Value}{Q:Unit->Y4->Prop},lJ A ab xs gs->xs.mapM T.own=some is->SR G sB aj ah ab T φ ρ σ β P m s->ar G.tok φ s.heap β P vs ys ->
  (∀s' m',SR G sB aj ah ab T φ av σ β P m' s'->bu G ab T s φ σ β P s' φ σ β P->Q () s')->Y' (Zb af wd) A (jhA gs ys) Q E s) (λρ xs gs ys s m Q hg hm S r hQ=>?_) (λi is v vs ρ av Y ih xs gs ys s m Q hg hm S r hQ=>?_) hs
 ·refine aa r.unnil ?_;cases hg with
  |nil=>exact Zx (hQ s m S .refl)
  |cons=>refine bB (tq hm) λY Y e Y=>?_;exact nomatch e
 ·refine bS r.uncons ?_;rintro y ys rfl ra rs;cases hg with
  |nil=>exact nomatch hm
  |cons hg az =>
   refine bS (tq hm) λj js e h1 h2=>?_;have e:=List.cons.inj e;rw[<-e.1]at h1;rw[<-e.2]at h2;exact Y9 (jaO (hg _ _ _ _ (nw F h1 S ra λak da aM bU Y=>ih az h2 aM (S.carrys bU rs) λaC dh br cY=>hQ aC dh br (bU.trans cY))))
theorem H8 {C:Expr->List Str->Prop}{e:Expr}{ts:List Expr}{xs:List Str}(h:gh (e::ts)=some xs)(k:∀x p ys,gh ts=some ys->C (.Name x p) (x::ys)):C e xs:=by
 induction e using ZU with
 |Name x p=>exact lP h (k x p)
 |_=>exact ai h
theorem H9 {ts:List Expr}:∀{xs:List Str},gh ts=some xs->∃gs,jdy ts ab=gs.map (λg=>(false,g))/\lJ A ab xs gs/\gs.length=ts.length/\xs.length=ts.length:=by
 induction ts with
 |nil=>exact λh=>aG (Q:=λxs=>∃gs,jdy [] ab=gs.map (λg=>(false,g))/\lJ A ab xs gs/\gs.length=0/\xs.length=0) h ⟨[],rfl,.nil,rfl,rfl⟩
 |cons e ts ih =>
  refine λh=>H8 (C:=λe xs=>∃gs,jdy (e::ts) ab=gs.map (λg=>(false,g))/\lJ A ab xs gs/\gs.length=(e::ts).length/\xs.length=(e::ts).length) h λx p ys hy=>?_;refine yn (ih hy) λgs h1 h2 h3 h4=>?_;exact vT (jhh (.Name x p) ab::gs) (congrArg (List.cons (false,jhh (.Name x p) ab)) h1) (.cons (λv Q E s hh=>jeu hh) h2) (congrArg jcf h3) (congrArg jcf h4)
theorem TE (gs:List (Value->Sem Unit)):(gs.map λg=>(false,g)).findIdx? (·.1)=none:=by
 rw[jgK];intro x hx;refine au (Zn.mp hx) ?_;rintro g _ rfl;rfl
theorem V7 {e:Expr}{x:Str}{px:Pos}{line:Nat}:jfq e (some (.Name x px)) line ab=pure false\/(∃aD gens sc p,e=.ListComp aD gens sc p/\jfq e (some (.Name x px)) line ab=pure true)\/ao T e=.bad:=by
 induction e using ZU with
 |ListComp aD gens sc p =>
  have:∃b,jfq (.ListComp aD gens sc p) (some (.Name x px)) line ab=pure b:=⟨_,rfl⟩
  refine aX this λb hb=>?_
  induction b using ZH with
  |false=>exact .inl hb
  |true=>exact .inr (.inl ⟨aD,gens,sc,p,rfl,hb⟩)
 |SetComp=>exact .inr (.inr rfl)
 |DictComp=>exact .inr (.inr rfl)
 |_=>exact .inl rfl
theorem x6 {th:Bool}{v:AV}{Q:Prop}(h:gq Φ ρ σ th .bad=some (v,an)):Q:=by
 cases th<;>exact ai h
theorem MV {C:AV->aA->Prop}{aD:Expr}{gens:List jai}{sc:jaB}{p:Pos}{th:Bool}{v:AV}(he:gq Φ ρ σ th (ao T (.ListComp aD gens sc p))=some (v,an))
 (k:∀n gs vs,ao T (.ListComp aD gens sc p)=.comp n gs->fF Φ σ ρ n gs=some vs->C (if th then .ref σ.length else .lst vs) (if th then σ++[.list vs]else σ)):C v an:=by
 have q:ao T (.ListComp aD gens sc p)=.comp (eB sc).length (iY T (T.comp sc) (ao (T.comp sc) aD) gens)\/ao T (.ListComp aD gens sc p)=.bad:=FX;rcases q with h|h
 ·rw[h]at he;replace k:=λvs=>k _ _ vs h;generalize(eB sc).length=n at *;generalize iY T (T.comp sc) (ao (T.comp sc) aD) gens=gs at *
  induction th using ZH with
  |false=>exact lP (Q:=λr=>C r.1 r.2) he λu hu=>lP (Q:=λu=>C u σ) hu k
  |true =>
   replace he:(match fF Φ σ ρ n gs with|some vs=>some (AV.ref σ.length,σ++[AO.list vs])|none=>none)=some (v,an):=he
   induction b0:fF Φ σ ρ n gs using ae with
   |none=>rw[b0]at he;exact ai he
   |some vs=>rw[b0]at he;exact aG (Q:=λr=>C r.1 r.2) he (k vs b0)
 ·rw[h]at he;exact x6 he
theorem Ha (S:SR G sB aj ah ab T φ ρ σ β P m s){b:Ze}(hb:mv G ab T b):b<s.heap.objs.size:=by
 rcases hb with rfl|⟨y,h1,h2⟩|q
 ·exact S.er.ns.lt
 ·refine bB (S.er.celled y (by unfold Tb.celled;refine aa h1 ?_;rfl)) λc dk e1 e2=>?_;exact Y3 (h2.symm.trans e1)▸e2.lt
 ·exact S.tabs.1.lt q
theorem Xm {x:Str}{px:Pos}{i:Nat}{vs:List AV}{v:AV}{X9:Gh}{fg:Y4}{D C:Ze}{gA:Str->Option Value}{cC:Ze->Prop}{E:Value->Y4->Prop}(F:bb G A Φ sB ah ab T)(hx:T.own x=some i)(S:SR G sB aj ah ab T φ ρ σ β P m s)(cd:CD G s φ β P vs X9 fg D C gA cC)
 (St:∃am aH P' m',SR G sB aj ah ab T am ρ an aH P' m' fg/\bu G ab T s φ σ β P fg am an aH P'/\VR G.tok am fg.heap aH P' v (.ref D)/\¬P' C/\C∉aH):
 Y' (Zb af wd) A (jhh (.Name x px) ab (.ref D)) (λY aC=>∃dh,aC.heap.Ns C dh/\∀h',Z6 C aC.heap h'->gk G sB aj ah ab T s φ σ β P (ρ.set i (some v)) an { aC with heap:=h' }) E fg:=by
 refine sk St λay dc cC da aM bU aF hp hb=>?_;have Ev:¬mv G ab T C:=λq=>Zr _ (bf (Ha S q) cd.cNew);refine jeu (nw F hx aM aF λaC dh br cY kp=>?_);have hn:aC.heap.Ns C gA:=cd.ns.at' λo e=>kp C o Ev e;have dp:=bU.trans cY;exact aN gA hn (λh' hs=>vW ay dc cC dh (br.scratch (Y1 S.size cd.cNew) hp hb (λq=>Ev (.inl q)) hn hs) ⟨λb o hb e=>hs.extBut b o (λq=>Zr _ (bf (q▸Zu e:C<s.heap.objs.size) cd.cNew)) (dp.keep b o hb e),dp.still,dp.pm,dp.sub,dp.pre,Y1 dp.size (ZK hs.1.symm),dp.pn,dp.bn⟩)
theorem VE (F:bb G A Φ sB ah ab T){x:Str}{px pos p:Pos}{aD:Expr}{gens:List jai}{sc:jaB}{i n:Nat}{gs:jY}{vs:List AV}{th:Bool}(hx:T.own x=some i)(hs:jfq (.ListComp aD gens sc p) (some (.Name x px)) pos.line ab=pure true)(h:ao T (.ListComp aD gens sc p)=.comp n gs)(b0:fF Φ σ ρ n gs=some vs):
 ca G A sB aj ah ab T ρ σ (Z0 (.Assign [.Name x px] (.ListComp aD gens sc p) pos) ab) (.next (ρ.set i (some (if th then .ref σ.length else .lst vs))) (if th then σ++[.list vs]else σ)):=λs φ β P m S=>by
 refine DB (CA (σ:=σ) F.hO h) λc1 c2 c3 c4 c5 c6=>?_;rw[c5,c6]at b0;refine aa (exec_Assign_Name_used _ _ _ _ hs) ?_;refine Y9 (jaZ (Y9 ?_));show Y' _ A (do let _ <-jfI (.ListComp aD gens sc p) sc ab (jge gens p) (newList []) (firstAsync gens) (jhR gens ab) (some (jhh (.Name x px) ab))) _ _ s;have sL:=xK (mj:=some (jhh (.Name x px) ab)) (pos:=p) (nq:=jge gens p) (E:=ax) (Q:=λY s'=>gk G sB aj ah ab T s φ σ β P (ρ.set i (some (if th then .ref σ.length else .lst vs))) (if th then σ++[AO.list vs]else σ) s')
  F.hO.hA F.hE F.hO.hG c1 c2 c3 c4 b0 (S.inv F.IB) S.er λam s' D C m' P' cd=>by
   show Y' _ A (jhh (.Name x px) ab (.ref D)) _ _ _;exact Xm F hx S cd (CB S cd th)
 refine aa sL.1 ?_;exact Y9 (jar sL.2 (λY s' hq=>Zx (Zx ⟨rfl,hq⟩)) λY Y e=>e)
theorem HJ (F:bb G A Φ sB ah ab T){x:Str}{px pos:Pos}{e:Expr}{i:Nat}{th:Bool}{v:AV}(hx:T.own x=some i)(hc:th=true->eK e=true)(he:gq Φ ρ σ th (ao T e)=some (v,an)):
 ca G A sB aj ah ab T ρ σ (Z0 (.Assign [.Name x px] e pos) ab) (.next (ρ.set i (some v)) an):=by
 rcases V7 (ab:=ab) (T:=T) (e:=e) (x:=x) (px:=px) (line:=pos.line)with hs|⟨aD,gens,sc,p,rfl,hs⟩|hb
 ·refine λs φ β P m S=>jby (up (C7 F hc he s φ β P m S) λxv ak aY=>?_) hs;refine kf aY λay dc cC da aM bU aF=>?_;exact nw F hx aM aF λaC dh br cY Y=>⟨rfl,ay,dc,cC,dh,br,bU.trans cY⟩
 ·exact MV (C:=λv an=>ca G A sB aj ah ab T ρ σ (Z0 (.Assign [.Name x px] (.ListComp aD gens sc p) pos) ab) (.next (ρ.set i (some v)) an)) he λn gs vs h b0=>VE F hx hs h b0
 ·rw[hb]at he;exact x6 he
end
section
theorem A8:swapsWithSole [.Tuple ts k tp] e line ab=pure false:=by
 unfold swapsWithSole jfq;cases e<;>rfl
theorem Ux (h:∀vs k p,e≠.Tuple vs k p):jfH [.Tuple ts k tp] e ab=pure none:=by
 cases e<;>first|rfl|exact absurd rfl (h _ _ _)
theorem HF (h:eC ρ is vs=some av):is.length=vs.length :=
 ww (C:=λis vs Y Y=>is.length=vs.length) (λY=>rfl) (λY Y Y Y Y Y Y e=>congrArg jcf e) h
theorem As {α γ:Type}{f:α->Option γ}{as:List α}:∀{bs:List γ},as.mapM f=some bs->as.length=bs.length:=by
 induction as with
 |nil=>exact λh=>aG (Q:=λbs=>0=bs.length) h rfl
 |cons a as ih =>
  intro bs h;refine bS (tq h) ?_;rintro b cs rfl _ h2;exact congrArg jcf (ih h2)
theorem Iq (hA:A.handled=none)(g1:jdy ts ab=gs.map λg=>(false,g))(aO:gs.length=ys.length)(ht:jgn s.heap a ys.toArray)(hQ:∀h',(∀b o,b≠s.heap.objs.size->s.heap.get? b=some o->h'.get? b=some o)->s.heap.objs.size<=h'.objs.size->Y' (Zb af wd) A (jhA gs ys) Q E { s with heap:=h' }):Y' (Zb af wd) A (unpack (.ref a) (jdy ts ab)) Q E s:=by
 unfold unpack;have hn:(jdy ts ab).length=ys.toArray.size:=by refine aa g1 ?_;refine aa (Y0 _) ?_;exact aO
 have cM:(jdy ts ab).findIdx? (·.1)=none:=by refine aa g1 ?_;exact TE gs
 have E0:(jdy ts ab).map (·.2)=gs:=by
  refine aa g1 ?_;refine aa ZJ ?_;refine aa (show((λx:Bool×(Value->Sem Unit)=>x.2)∘λg=>(false,g))=id from rfl) ?_;refine aa (jbX _) ?_;rfl
 refine aa hn ?_;refine aa cM ?_;refine aa E0 ?_;exact Y9 (jaO (eF (unpackItems_tuple hA ht λh' hx u=>by simpa using hQ h' hx u.size)))
theorem VD {T:Tb}(F:bb G A Φ sB ah ab T){ts:List Expr}{k:Nat}{tp pos:Pos}{e:Expr}{xs:List Str}{is:List Nat}{vs:List AV}(lc:gh ts=some xs)(eS:xs.mapM T.own=some is)(cV:∀vs k p,e≠.Tuple vs k p)(he:ev Φ σ ρ (ao T e)=some (.tup vs))(hs:eC ρ is vs=some av):ca G A sB aj ah ab T ρ σ (Z0 (.Assign [.Tuple ts k tp] e pos) ab) (.next av σ):=by
 intro s φ β P m S;refine jfp ((cH F.hO _ e (Y5 _) ab T ρ _ F.hE he).1.post (S.inv F.IB) S.er λx ak ay aw bd aI aF=>aF.e_tup λa ys ht p r=>?_) A8 (Ux cV);have aM:=S.go aw;refine yn (H9 (A:=A) (ab:=ab) lc) λgs g1 g2 g3 g4=>?_;rw[assign_Tuple];refine Y9 (jaZ (Iq F.hO.hA g1 (by refine rwj r.length ?_;refine rwj (HF hs) ?_;refine rwj (As eS) ?_;refine aa g4 ?_;refine aa g3 ?_;rfl) ht λh' hx hz=>?_));have aP:GX G ak ay { ak with heap:=h' } ay:=.same aw.tk ⟨⟨h',ak.toks,rfl,λb o e=>hx b o (jaE (Zu e)) e⟩,hz⟩ (Y5 _);exact Bd F hs g2 eS (aM.go aP) (aM.er.vrs aP r) λdj ky ey dp=>⟨rfl,ay,β,P,ky,ey,(bu.go aw).trans ((bu.go aP).trans dp)⟩
theorem MW {C:List (Nat×Bool)->List AV->Prop}{xs:List (Nat×Bool)}{vs:List AV}{e:Ex}{es:bV}(h:eO Φ ρ σ xs (.cons e es)=some (vs,an))(k:∀x xs v gR us,gq Φ ρ σ x.2 e=some (v,gR)->eO Φ ρ gR xs es=some (us,an)->C (x::xs) (v::us)):C xs vs:=by
 induction xs using Y2 with
 |nil=>exact ai h
 |cons x xs =>
  replace h:(match gq Φ ρ σ x.2 e with|some (v,gR)=>(match eO Φ ρ gR xs es with|some (us,nB)=>some (v::us,nB)|none=>none)|none=>none)=some (vs,an):=h
  induction h1:gq Φ ρ σ x.2 e using ae with
  |none=>rw[h1]at h;exact ai h
  |some r =>
   rw[h1]at h;replace h:(match eO Φ ρ r.2 xs es with|some (us,nB)=>some (r.1::us,nB)|none=>none)=some (vs,an):=h
   induction h2:eO Φ ρ r.2 xs es using ae with
   |none=>rw[h2]at h;exact ai h
   |some r' =>
    rw[h2]at h;have e:=jiY (Y3 h);exact e.1▸k x xs r.1 r.2 r'.1 h1 (h2.trans (congrArg (λz=>some (r'.1,z)) e.2))
theorem TJ (h:gq Φ ρ σ th (ao T e)=some (v,an)):f9 e=true:=by
 cases e<;>first|rfl|exact x6 h
theorem MO {G:GD}(F:bb G A Φ sB ah ab T){pos:Pos}{es:List Expr}:∀{xs:List (Nat×Bool)}{σ an:aA}{vs:List AV},eO Φ ρ σ xs (bg T es)=some (vs,an)->(∀x e,(x,e)∈xs.zip es->x.2=true->eK e=true) ->
 es.all f9=true/\∀{s:Y4}{φ:Gh}{β:List Ze}{P:Ze->Prop}{m:Str->Option Value},SR G sB aj ah ab T φ ρ σ β P m s ->
  Y' (Zb af wd) A (jcl (jcn pos (jas es ab))) (λys s'=>Step G sB aj ah ab T s φ σ β P ρ an s' λam aH P'=>ar G.tok am s'.heap aH P' vs ys) ax s:=by
 induction es with
 |nil =>
  intro xs σ an vs he hc
  induction xs using Y2 with
  |nil=>exact⟨rfl,λ{s φ β P m} S=>jdk (aG (Q:=λr=>Step G sB aj ah ab T s φ σ β P ρ r.2 s λam aH P'=>ar G.tok am s.heap aH P' r.1 []) he ⟨φ,β,P,m,S,.refl,.nil⟩)⟩
  |cons=>exact ai he
 |cons e es ih =>
  intro xs σ an vs he hc;revert hc;refine MW (C:=λxs vs=>(∀x e',(x,e')∈xs.zip (e::es)->x.2=true->eK e'=true)->(e::es).all f9=true/\∀{s:Y4}{φ:Gh}{β:List Ze}{P:Ze->Prop}{m:Str->Option Value},SR G sB aj ah ab T φ ρ σ β P m s ->
   Y' (Zb af wd) A (jcl (jcn pos (jas (e::es) ab))) (λys s'=>Step G sB aj ah ab T s φ σ β P ρ an s' λam aH P'=>ar G.tok am s'.heap aH P' vs ys) ax s) he λx xs v gR us hv cx hc=>?_
  have iL:=TJ hv;have h:=ih cx λx e hm=>hc x e (Zw _ hm);refine⟨(congrArg (·&&es.all f9) iL).trans ((jcC _).trans h.1),λ{s φ β P m} S=>jcE (up (C7 F (hc x e Zf) hv s φ β P m S) λy ak aY=>?_) (iV iL)⟩;refine kf aY λay dc cC da aM bU aF=>?_;refine up (h.2 aM) λys aC cy=>?_;refine kf cy λaV dm ck dh br cY bI=>?_;exact⟨aV,dm,ck,dh,br,bU.trans cY,.cons (aM.carry cY aF) bI⟩
theorem Vg (h1:eC ρ is vs=some kC):∀{js:List Nat}{us:List AV}{av:aB},eC kC js us=some av->eC ρ (is++js) (vs++us)=some av :=
 ww (C:=λis vs ρ kC=>∀{js us av},eC kC js us=some av->eC ρ (is++js) (vs++us)=some av) (λY Y Y Y h=>h) (λY Y Y Y Y Y Y ih Y Y Y h=>ih h) h1
theorem Vh:∀{ρ av:aB},i∉is->eC (ρ.set i (some v)) is vs=some av->∃kC,eC ρ is vs=some kC/\av=kC.set i (some v):=by
 induction is generalizing vs with
 |nil =>
  intro ρ av _ h
  induction vs using Y2 with
  |nil=>exact aN ρ rfl ((Y3 h).symm)
  |cons=>exact ai h
 |cons j is ih =>
  intro ρ av hn h
  induction vs using Y2 with
  |nil=>exact ai h
  |cons u vs =>
   refine ih (ρ:=ρ.set j (some u)) (λq=>hn (Zw _ q)) ?_;have fb:i≠j:=λq=>hn (q▸Zf);refine rwj (List.set_comm _ _ fb) ?_;exact h
theorem Vi (hn:is.Nodup)(h:eC ρ is vs=some av):eC ρ is.reverse vs.reverse=some av:=by
 refine ww (C:=λis vs ρ av=>is.Nodup->eC ρ is.reverse vs.reverse=some av) (λY Y=>rfl) (λi is v vs ρ av h ih hn=>?_) h hn;rw[jaL]at hn;refine aa jbM ?_;refine aa jbM ?_;refine au (Vh (λq=>hn.1 (jfM.mp q)) (ih hn.2)) ?_;rintro kC h1 rfl;exact Vg h1 rfl
end
section
def jW (ab:Env)(line:Nat):Expr->Option Str
 | .Name id pos=>if ab.kindOf id==some .local&&pos.line==line then some id else none
 |_=>none
theorem Wp (h:jW ab line (.Name x p)=some z):z=x:=bR h λY h=>(Y3 h).symm
theorem Wo:∀{xs:List Str},gh ts=some xs->(ts.filterMap (jW ab line)).length=ts.length->ts.filterMap (jW ab line)=xs:=by
 induction ts with
 |nil=>exact λh Y=>Y3 h
 |cons t ts ih =>
  refine λh=>H8 (C:=λt xs=>((t::ts).filterMap (jW ab line)).length=(t::ts).length->(t::ts).filterMap (jW ab line)=xs) h λx p ys hy hl=>?_
  induction hq:jW ab line (.Name x p)using ae with
  |none =>
   rw[List.filterMap_cons_none hq]at hl;exact absurd (List.length_filterMap_le (jW ab line) ts) (by refine aa hl ?_;exact jhE _)
  |some z =>
   rw[List.filterMap_cons_some hq]at hl ⊢;refine aa (ih hy (Z4 hl)) ?_;refine aa (Wp hq) ?_;rfl
set_option tactic.hygienic true in
theorem V6 (lc:gh ts=some xs)(oh:(!vs.all (jdj 8)||vs.all (jdC 8))=true):
 jfH [.Tuple ts k tp] (.Tuple vs k2 p2) ab=pure none\/jfH [.Tuple ts k tp] (.Tuple vs k2 p2) ab=pure (some xs):=by
 unfold jfH;dsimp only;split
 ·exact .inl rfl
 split
 ·exact .inl rfl
 split
 ·exact .inl rfl
 rename_i c3;split
 ·exact .inl rfl
 rename_i c4;split
 ·rename_i c5;exfalso;rw[c5]at oh;simp at oh;exact c4 (by simpa using oh)
 right;have Cf:¬((ts.filterMap (jW ab ((ts.head?.map (·.pos.line)).getD 0))).length != ts.length||(ts.filterMap (jW ab ((ts.head?.map (·.pos.line)).getD 0))).eraseDups.length != (ts.filterMap (jW ab ((ts.head?.map (·.pos.line)).getD 0))).length)=true:=c3;have hl:(ts.filterMap (jW ab ((ts.head?.map (·.pos.line)).getD 0))).length=ts.length:=by
  simp only[jbr,not_or]at Cf;exact Decidable.byContradiction λq=>Cf.1 (bne_iff_ne.mpr q)
 have:=Wo lc hl;show(pure (some (ts.filterMap (jW ab ((ts.head?.map (·.pos.line)).getD 0)))):Sem (Option (List Str)))=_;refine aa this ?_;rfl
theorem VU:lJ A ab xs (xs.map λn=>bindName ab n):=by
 induction xs with
 |nil=>exact .nil
 |cons x xs ih=>exact .cons (λv Q E s h=>wpAny_bindName h) ih
theorem S1 {α γ:Type}{f:α->Option γ}{xg:List α}{xq:List γ}(h2:xg.mapM f=some xq){as:List α}:∀{bs:List γ},as.mapM f=some bs->(as++xg).mapM f=some (bs++xq):=by
 induction as with
 |nil=>exact λh1=>aG (Q:=λbs=>xg.mapM f=some (bs++xq)) h1 h2
 |cons a as ih =>
  intro bs h1;refine bS (tq h1) ?_;rintro b cs rfl e1 e2;refine aa jdf ?_;refine aa jgu ?_;refine aa e1 ?_;refine aa (ih e2) ?_;rfl
theorem S2 {α γ:Type}{f:α->Option γ}{as:List α}:∀{bs:List γ},as.mapM f=some bs->as.reverse.mapM f=some bs.reverse:=by
 induction as with
 |nil =>
  intro bs h;refine aa (show bs=[]from(Y3 h).symm) ?_;rfl
 |cons a as ih =>
  intro bs h;refine bS (tq h) ?_;rintro b cs rfl e1 e2;refine aa jbM ?_;refine aa jbM ?_;refine S1 ?_ (ih e2);refine aa jgu ?_;refine aa e1 ?_;rfl
theorem Io (S:SR G sB aj ah ab T φ ρ σ β P m s)(hx:∀b o,b≠s.heap.objs.size->s.heap.get? b=some o->h'.get? b=some o)(hz:s.heap.objs.size<=h'.objs.size):GX G s φ { s with heap:=h' } φ :=
 .same S.er.tk ⟨⟨h',s.toks,rfl,λb o e=>hx b o (jaE (Zu e)) e⟩,hz⟩ (Y5 _)
theorem Xe (F:bb G A Φ sB ah ab T)(he:eO Φ ρ σ xs (bg T es)=some (vs,an))(hc:∀x e,(x,e)∈xs.zip es->x.2=true->eK e=true)(S:SR G sB aj ah ab T φ ρ σ β P m s)(hl:∀{h:jak}{φ:Gh}{β:List Ze}{P:Ze->Prop}{ys:List Value},ar G.tok φ h β P vs ys->ys.length<=1000)(hQ:∀a ys ak ay dc cC da,SR G sB aj ah ab T ay ρ an dc cC da ak->bu G ab T s φ σ β P ak ay an dc cC->jgn ak.heap a ys.toArray->ar G.tok ay ak.heap dc cC vs ys->Q (.ref a) ak):
 Y' (Zb af wd) A (jaa (.Tuple es k2 p2) ab) Q ax s:=by
 refine jhS (up ((MO F he hc).2 S) λys ak aY=>?_);refine kf aY λay dc cC da aM bU aF=>?_;have aP:GX G ak ay { ak with heap:=ak.heap.push { cls:=.type "tuple",data:=.seq ys.toArray } } ay:=.same aM.er.tk bF.push (Y5 _);exact⟨d9 (Y1 (hl aF) (by decide)),hQ _ ys _ ay dc cC da (aM.go aP) (bU.trans (.go aP)) (AB _) (aM.er.vrs aP aF)⟩
theorem Vv {T:Tb}(F:bb G A Φ sB ah ab T){ts es:List Expr}{k k2:Nat}{tp p2 pos:Pos}{xs:List Str}{is:List Nat}{tV:List Bool}{vs:List AV}(lc:gh ts=some xs)(eS:xs.mapM T.own=some is)(df:is.Nodup)(aU:es.length<=1000)(PG:es.length=xs.length)(oh:(!es.all (jdj 8)||es.all (jdC 8))=true)(vK:tV.length=is.length)(hc:∀x e,(x,e)∈(is.zip tV).zip es->x.2=true->eK e=true)(he:eO Φ ρ σ (is.zip tV) (bg T es)=some (vs,an))(hs:eC ρ is vs=some av):ca G A sB aj ah ab T ρ σ (Z0 (.Assign [.Tuple ts k tp] (.Tuple es k2 p2) pos) ab) (.next av an):=by
 intro s φ β P m S;have vQ:∀{h:jak}{φ:Gh}{β:List Ze}{P:Ze->Prop}{ys:List Value},ar G.tok φ h β P vs ys->ys.length=xs.length:=λr=>by refine rwj r.length ?_;refine rwj (HF hs) ?_;refine rwj (As eS) ?_;rfl
 have vM:=λ{Q}=>Xe F (k2:=k2) (p2:=p2) he hc S (Q:=Q) λr=>(vQ r).symm▸PG▸aU;rcases V6 (ab:=ab) (k:=k) (k2:=k2) (tp:=tp) (p2:=p2) lc oh with zO|zO
 ·refine jfp (vM λa ys ak ay dc cC da aM bU ht r=>?_) A8 zO;refine yn (H9 (A:=A) (ab:=ab) lc) λgs g1 g2 g3 g4=>?_;rw[assign_Tuple];refine Y9 (jaZ (Iq F.hO.hA g1 (by refine aa (vQ r) ?_;refine aa g3 ?_;refine aa g4 ?_;rfl) ht λh' hx hz=>?_));have aP:=Io aM hx hz;exact Bd F hs g2 eS (aM.go aP) (aM.er.vrs aP r) λdj ky ey dp=>⟨rfl,ay,dc,cC,ky,ey,bU.trans ((bu.go aP).trans dp)⟩
 ·refine PyProof.Rows.Assign_Tuple_swapped (names:=xs) (vM λa ys ak ay dc cC da aM bU ht r=>?_) A8 zO;rw[show xs.length=ys.toArray.size by refine aa Zk ?_;refine aa (vQ r) ?_;rfl];refine eF (unpackItems_tuple F.hO.hA ht λh' hx u=>?_);have aP:=Io aM hx u.size;exact Bd F (Vi df hs) VU (S2 eS) (aM.go aP) (by simpa using(aM.er.vrs aP r).reverse) λdj ky ey dp=>⟨rfl,ay,dc,cC,ky,ey,bU.trans ((bu.go aP).trans dp)⟩
end
section
set_option tactic.hygienic true in
theorem bu.mutate (hi:σ[i]?=some o)(hg:o≠AO.gone)(ha:β[i]?=some a)(hs:Z6 a s.heap h'):bu G ab T s φ σ β P { s with heap:=h',toks:=t } φ (σ.set i o') β P where
 keep:=λb ob hb e=>hs.extBut b ob (λq=>by
  subst q;have:=hb.2 i ha;rw[hi]at this;exact hg (Y3 this)) e
 still:=λb Y hb=>⟨hb.1,λj hj=>by
  have:=hb.2 j hj;refine aa jbn ?_;split
  ·rename_i q;subst q;rw[hi]at this;exact absurd (Y3 this) hg
  ·exact this⟩
 pm:=λY p Y=>p
 sub:=λY Y e=>e
 pre:=Zj _
 size:=ZK hs.1.symm
 pn:=λY Y p=>.inl p
 bn:=λY h Y=>h
set_option tactic.hygienic true in
theorem bu.settle (ha:β[i]?=some a):bu G ab T s φ σ β P s φ (σ.set i .gone) β (λb=>P b\/b=a) where
 keep:=λY Y Y e=>e
 still:=λb Y hb=>⟨hb.1,λj hj=>by
  have:=hb.2 j hj;refine aa jbn ?_;split
  ·rename_i q;subst q;have hl:=(ZA.mp this).1;refine aa (if_pos hl) ?_;rfl
  ·exact this⟩
 pm:=λY p Y=>.inl p
 sub:=λY Y e=>e
 pre:=Zj _
 size:=Y5 _
 pn:=λb Y p=>p.elim .inl λq=>.inr (by refine aa q ?_;exact ZG ha)
 bn:=λY h Y=>h
theorem Gu {h:jak}(hl:h.PlainList a xs):∃ob,h.get? a=some ob/\∀v,ob.data≠.cell v:=let⟨n,e⟩:=hl;⟨_,e,λv q=>nomatch q⟩
theorem SR.listAt {G:GD}{s:Y4}{i:Nat}{a:Ze}{xs:List AV}{Q:Prop}(S:SR G sB aj ah ab T φ ρ σ β P m s)(hi:σ[i]?=some (.list xs))(ha:β[i]?=some a)(k:∀ys,s.heap.PlainList a ys.toArray->ar G.tok φ s.heap β P xs ys->Q):Q:=by
 refine au (S.er.objs i _ hi (λq=>nomatch q)) λb h1 h2=>?_;exact OR.e_list (Y3 (ha.symm.trans h1)▸h2) k
theorem SR.relist {σ:aA}{G:GD}{s:Y4}{h':jak}{ys t9:List Value}(S:SR G sB aj ah ab T φ ρ σ β P m s)(hi:σ[i]?=some (.list xs))(ha:β[i]?=some a)(hs:Z6 a s.heap h')(ht:s.toks<=t)(hl:s.heap.PlainList a ys.toArray)(hZ:h'.PlainList a t9.toArray)(r:ar G.tok φ s.heap β P iZ t9):
 gk G sB aj ah ab T s φ σ β P ρ (σ.set i (.list iZ)) { s with heap:=h',toks:=t }:=
 have oa:=S.live i a _ ha hi (λq=>nomatch q)
 ⟨φ,β,P,m,S.mutate hi (λq=>nomatch q) ha (λq=>nomatch q) hs ht (Gu hl) (.list hZ (r.mono (λY Y e=>e) (λb o p e=>⟨hs.extBut b o (λq=>oa (q▸p)) e,p⟩) (Zj _))),.mutate hi (λq=>nomatch q) ha hs⟩
theorem gk.after (C:bu G ab T s φ σ β P s' am an aH P')(h:gk G sB aj ah ab T s' am an aH P' kC gR aC):gk G sB aj ah ab T s φ σ β P kC gR aC :=
 h.elim λeU h=>h.elim λoZ h=>h.elim λo8 h=>h.elim λky h=>vW eU oZ o8 ky h.1 (C.trans h.2)
theorem Ej {φ:Gh}{β:List Ze}{P:Ze->Prop}{tk:Ze}{h:jak}{a:Ze}{u r:AV}(e:aZ [] 6 u=some r)(r':VR tk φ h β (λb=>P b\/b=a) u (.ref a)):VR tk φ h β (λb=>P b\/b=a) r (.ref a):=
 (yQ cr.nil (λa p=>p) (λi a e=>by simp at e) 6 e r').anyβ
theorem Ei {j:Nat}{r:AV}{Q:Prop}(e:lS σ j=some r)(k1:∀vs,σ[j]?=some (.list vs)->aZ [] 6 (.lst vs)=some r->Q)(k2:∀es,σ[j]?=some (.dict es)->aZ [] 6 (.dct es)=some r->Q):Q:=by
 unfold lS at e
 induction hj:σ[j]? using ae with
 |none=>rw[hj]at e;exact ai e
 |some o =>
  rw[hj]at e
  induction o using AO.casesOn with
  |list vs=>exact k1 vs hj e
  |dict es=>exact k2 es hj e
  |gone=>exact ai e
theorem OH {σ:aA}{φ:Gh}{β:List Ze}{P:Ze->Prop}{tk:Ze}{h:jak}{j:Nat}{a:Ze}{r:AV}(O:cr tk φ h β P σ)(ha:β[j]?=some a)(e:lS σ j=some r):VR tk φ h β (λb=>P b\/b=a) r (.ref a):=by
 refine Ei e (λvs hj e=>?_) λes hj e=>?_
 ·refine au (O j _ hj (λq=>nomatch q)) λb h1 h2=>?_;exact OR.e_list (Y3 (ha.symm.trans h1)▸h2) λys e' r'=>Ej e (.lst e' (.inr rfl) (r'.weak λY p=>.inl p))
 ·refine au (O j _ hj (λq=>nomatch q)) λb h1 h2=>?_;exact OR.e_dict (Y3 (ha.symm.trans h1)▸h2) λks vs xs e0 hl e' r'=>Ej (e0▸e) (.dct e' (.inr rfl) hl (r'.weak λY p=>.inl p))
theorem Ax:ro "list" "append" "list.append" := ⟨jcB,PySem.F.slot_list_append,PySem.F.type_list_append⟩
theorem Ay:ro "list" "reverse" "list.reverse" := ⟨jcB,jfV,PySem.F.type_list_reverse⟩
theorem B3 {σ:aA}{G:GD}{s:Y4}{i:Nat}{a:Ze}{xs:List AV}{v:AV}{y:Value}(S:SR G sB aj ah ab T φ ρ σ β P m s)(hi:σ[i]?=some (.list xs))(ha:β[i]?=some a)(aU:xs.length<=100000)(r:VR G.tok φ s.heap β P v y){Q:Value->Y4->Prop}{E:Value->Y4->Prop}(hQ:∀s',gk G sB aj ah ab T s φ σ β P ρ (σ.set i (.list (xs++[v]))) s'->Q .none s'):Y' (Zb af wd) A (call (.builtin "list.append") [.ref a,y]) Q E s :=
 S.listAt hi ha λys e rs=>jhP e (λh' hZ hs=>hQ _ (S.relist (t:=s.toks) hi ha hs (Y5 _) e (t9:=ys++[y]) (by simpa using hZ) (rs.append (.single r)))) (by refine aa Zk ?_;refine rwj rs.length ?_;exact d9 aU)
theorem G0 {Q:jeB->Y4->Prop}{t:Sem Value}(h:Y' (Zb af wd) A t (λv s'=>v=.none/\Q .next s') ax s):Y' (Zb af wd) A t (λv s'=>match v with | .ref _=>False|_=>Q .next s') ax s :=
 up h λv s' qq=>bN qq λe q=>by subst e;exact q
theorem VR.refOf (r:VR tk φ h β P (.ref i) x):∃a,x=.ref a/\β[i]?=some a:=r.e_ref λa e=>aN a rfl e
theorem Hx (hi:σ[i]?=some (.list xs)):aQ σ (.ref i)=some xs:=by
 show(match σ[i]? with|some (.list vs)=>some vs|_=>none)=_;refine aa hi ?_;rfl
theorem Jm (F:bb G A Φ sB ah ab T)(bY:ff o 1 ap p=true)(ho:ev Φ σ ρ (ao T o)=some (.ref i))(he:ev Φ σ ρ (ao T e)=some v)(hi:σ[i]?=some (.list xs))(S:SR G sB aj ah ab T φ ρ σ β P m s)(hQ:∀a y s' am,SR G sB aj ah ab T am ρ σ β P m s'->bu G ab T s φ σ β P s' am σ β P->β[i]?=some a->VR G.tok am s'.heap β P v y->Y' (Zb af wd) A (call (.builtin "list.append") [.ref a,y]) Q ax s'):Y' (Zb af wd) A (jaa (.Call (.Attribute o "append" ap) [e] [] p) ab) Q ax s :=
 cu bY λbY h3=>cu bY λh1 h2=>by
  have iL:=tw he;have zJ:[e].all f9=true:=(jfl _).trans iL;refine jbx (pr h1) ?_ h2 ((cH F.hO _ o (Y5 _) ab T ρ _ F.hE ho).1.post (S.inv F.IB) S.er λx ak ay aw bd aI aF=>?_)
  ·refine aa (Ba zJ) ?_;rfl
  ·have tR:=zP (s:=ak) aI.objs (Hx hi) aF;refine au (VR.refOf aF) ?_;rintro a rfl hb;refine⟨"list","list.append",Ax.pa,Ax.slot,Ax.ty,tR.1,tR.2,jaG (qS zJ) ?_⟩;have oC:=(j8 (G:=G) (A:=A) F.hE (es:=[e]) (vs:=[v]) (λe Y=>cH F.hO _ e (Y5 _)) (by rewrite [tY,Ig,mM];refine aa he ?_;rfl)).2 p;rw[iV iL]at oC ⊢;exact jdm (oC.post bd aI λys aC aV aP dJ bW bI=>bI.e1 λy ry=>hQ a y aC aV ((S.go aw).go aP) ((bu.go aw).trans (.go aP)) hb ry)
theorem Vu {σ:aA}(F:bb G A Φ sB ah ab T){o e:Expr}{ap p q:Pos}{i:Nat}{v:AV}{xs:List AV}{fl:Fl}(bY:ff o 1 ap p=true)(ho:ev Φ σ ρ (ao T o)=some (.ref i))(he:ev Φ σ ρ (ao T e)=some v)(hi:σ[i]?=some (.list xs))(aU:xs.length<=100000)(PN:(∃j r,v=.ref j/\i≠j/\lS σ j=some r/\fl=.next ρ ((σ.set j .gone).set i (.list (xs++[r]))))\/fl=.next ρ (σ.set i (.list (xs++[v])))):
 ca G A sB aj ah ab T ρ σ (Z0 (.Expr (.Call (.Attribute o "append" ap) [e] [] p) q) ab) fl:=λs φ β P m S=>by
 refine jie (G0 (Jm F bY ho he hi S λa y aC aV br cY hb ry=>?_)) F.hI rfl;rcases PN with⟨j,r,rfl,fb,hf,rfl⟩|rfl
 ·refine au (VR.refOf ry) ?_;rintro b rfl zc;have hj:(σ[j]?).isSome=true:=Ei hf (λY h Y=>by refine aa h ?_;rfl) λY h Y=>by refine aa h ?_;rfl
  exact B3 (br.settle F.hP₀ hj zc) (i:=i) (xs:=xs) (by refine aa (jhu (jeC fb)) ?_;exact hi) hb aU (OH br.er.objs zc hf) λdj h=>⟨rfl,rfl,h.after (cY.trans (bu.settle zc))⟩
 ·exact B3 br hi hb aU ry λdj h=>⟨rfl,rfl,h.after cY⟩
theorem VC {σ:aA}(F:bb G A Φ sB ah ab T){o:Expr}{ap p q:Pos}{i:Nat}{xs:List AV}(bY:ff o 0 ap p=true)(ho:ev Φ σ ρ (ao T o)=some (.ref i))(hi:σ[i]?=some (.list xs))(aU:xs.length<=100000):
 ca G A sB aj ah ab T ρ σ (Z0 (.Expr (.Call (.Attribute o "reverse" ap) [] [] p) q) ab) (.next ρ (σ.set i (.list xs.reverse))):=λs φ β P m S =>
 cu bY λbY h3=>cu bY λh1 h2=>by
  refine jie (G0 (jbx (pr h1) rfl h2 ((cH F.hO _ o (Y5 _) ab T ρ _ F.hE ho).1.post (S.inv F.IB) S.er λx ak ay aw bd aI aF=>?_))) F.hI rfl;have tR:=zP (s:=ak) aI.objs (Hx hi) aF;refine au (VR.refOf aF) ?_;rintro a rfl ha;refine⟨"list","list.reverse",Ay.pa,Ay.slot,Ay.ty,tR.1,tR.2,jaG rfl (jbY ?_)⟩;have aM:=S.go aw;exact aM.listAt hi ha λys e rs=>Sx e (by refine rwj rs.length ?_;exact aU) λh' hZ hs=>⟨rfl,rfl,(aM.relist (t:=ak.toks) hi ha hs (Y5 _) e hZ rs.reverse).after (.go aw)⟩
end
section
variable {A:ZV}{ab:Env}{T:Tb}{ρ av:aB}{σ an iv:aA}{G:GD}{s s' cO:Y4}{φ am kE:Gh}{β aH uf:List Ze}{P P' rt ah:Ze->Prop}{m m':Str->Option Value}{tk:Ze}{h h':jak}
variable {sB:Y4}{aj:Gh}{Φ:cX}
theorem B2 {γ:Type}{k:Int}{ks:List Int}{vs:List γ}(h:ks.length<=vs.length):(ks.zip vs).any (λe=>decide (e.1=k))=ks.any (λe=>decide (e=k)):=by
 have:((ks.zip vs).map jhr).any (λe=>decide (e=k))=(ks.zip vs).any (λe=>decide (e.1=k)):=List.any_map;refine rwj this ?_;refine aa (jiw h) ?_;rfl
theorem Jl {γ δ:Type}{k:Int}{ks:List Int}{vs:List γ}{xs:List δ}(hl:ks.length=vs.length)(h:vs.length=xs.length):(ks.zip vs).any (λe=>decide (e.1=k))=(ks.zip xs).any (λe=>decide (e.1=k)):=
 (B2 (ZK hl)).trans (B2 (ZK (hl.trans h))).symm
theorem Hq {γ:Type}{k k':Int}{u v:γ}{ks:List Int}{vs cW:List γ}(h:(ks.zip vs).map (λe=>if e.1=k then(e.1,u)else e)=ks.zip cW):((k'::ks).zip (v::vs)).map (λe=>if e.1=k then(e.1,u)else e)=(k'::ks).zip ((if k'=k then u else v)::cW):=by
 refine aa jbh ?_;refine aa ZC ?_;refine aa h ?_;refine aa jbh ?_;by_cases q:k'=k
 ·refine aa (if_pos q) ?_;refine aa (if_pos q) ?_;rfl
 ·refine aa (if_neg q) ?_;refine aa (if_neg q) ?_;rfl
theorem S8 {k:Int}{u:AV}{y:Value}(ry:VR tk φ h β P u y){vs:List AV}{xs:List Value}(r:ar tk φ h β P vs xs):∀{ks:List Int},ks.length=vs.length ->
 ∃cW iZ,(ks.zip vs).map (λe=>if e.1=k then(e.1,u)else e)=ks.zip cW/\(ks.zip xs).map (λe=>if e.1=k then(e.1,y)else e)=ks.zip iZ/\ks.length=cW.length/\ar tk φ h β P cW iZ:=by
 refine ar.ind (motive:=λvs xs=>∀{ks:List Int},ks.length=vs.length->∃cW iZ,(ks.zip vs).map (λe=>if e.1=k then(e.1,u)else e)=ks.zip cW/\(ks.zip xs).map (λe=>if e.1=k then(e.1,y)else e)=ks.zip iZ/\ks.length=cW.length/\ar tk φ h β P cW iZ) (λ{ks} hl=>?_) (λ{v x vs xs} a r ih ks hl=>?_) r
 ·induction ks using Y2 with
  |nil=>exact vU [] [] rfl rfl rfl (.nil)
  |cons=>cases hl
 ·induction ks using Y2 with
  |nil=>cases hl
  |cons k' ks =>
   refine n4 (ih (Z4 hl)) λcW iZ h1 h2 h3 h4=>?_;refine vU _ _ (Hq h1) (Hq h2) (congrArg jcf h3) (.cons ?_ h4);by_cases q:k'=k
   ·refine aa (if_pos q) ?_;refine aa (if_pos q) ?_;exact ry
   ·refine aa (if_neg q) ?_;refine aa (if_neg q) ?_;exact a
theorem IL {γ:Type}{k:Int}{v:γ}{ks:List Int}{vs:List γ}(h:ks.length=vs.length):ks.zip vs++[(k,v)]=(ks++[k]).zip (vs++[v]):=(List.zip_append (r₁:=[k]) (r₂:=[v]) h).symm
theorem UQ {k:Int}{u:AV}{y:Value}{ks:List Int}{vs:List AV}{xs:List Value}(ry:VR tk φ h β P u y)(hl:ks.length=vs.length)(r:ar tk φ h β P vs xs):
 ∃(nc:List Int) (cW:List AV) (iZ:List Value),dictPut (ks.zip vs) k u=nc.zip cW/\stored (ks.zip xs) k y=nc.zip iZ/\nc.length=cW.length/\ar tk φ h β P cW iZ:=by
 have ha:=Jl (k:=k) (ks:=ks) hl r.length;unfold dictPut stored;by_cases q:((ks.zip vs).any λe=>decide (e.1=k))=true
 ·refine aa (if_pos q) ?_;refine aa (if_pos (ha▸q)) ?_;refine n4 (S8 (k:=k) ry r hl) λcW iZ h1 h2 h3 h4=>?_;exact vV ks cW iZ h1 h2 h3 h4
 ·refine aa (if_neg q) ?_;refine aa (if_neg (ha▸q)) ?_;exact vV (ks++[k]) (vs++[u]) (xs++[y]) (IL hl) (IL (hl.trans r.length)) (by simp[hl]) (r.append (.single ry))
theorem H1 {e o i:Expr}{p:Pos}{line:Nat}:jfq e (some (.Subscript o i p)) line ab=pure false:=by
 cases e<;>rfl
theorem CW {a:Ze}{aJ:List (Int×Value)}(hd:h.DictOf (jap af wd) a aJ):∃ob,h.get? a=some ob/\∀v,ob.data≠.cell v:=by
 refine kX hd λo es ep ho Y zh Y=>?_;exact aN o ho (λv q=>by rw[zh]at q;cases q)
theorem SR.dictAt {i:Nat}{a:Ze}{es:List (Int×AV)}{Q:Prop}(S:SR G sB aj ah ab T φ ρ σ β P m s)(hi:σ[i]?=some (.dict es))(ha:β[i]?=some a)(k:∀(ks:List Int) (vs:List AV) (xs:List Value),es=ks.zip vs->ks.length=vs.length->s.heap.DictOf (jap af wd) a (ks.zip xs)->ar G.tok φ s.heap β P vs xs->Q):Q:=by
 refine au (S.er.objs i _ hi (λq=>nomatch q)) λb h1 h2=>?_;exact OR.e_dict (Y3 (ha.symm.trans h1)▸h2) k
theorem UN {i:Nat}{a:Ze}{kk:Int}{t:Tok}{u:AV}{xv:Value}{es:List (Int×AV)}(S:SR G sB aj ah ab T φ ρ σ β P m s)(hi:σ[i]?=some (.dict es))(ha:β[i]?=some a)(aU:es.length<=100000)(ru:VR G.tok φ s.heap β P u xv):
 Y' (Zb af wd) A (setItem (.ref a) (.int kk t) xv) (λY s'=>gk G sB aj ah ab T s φ σ β P ρ (σ.set i (.dict (dictPut es kk u))) s') ax s :=
 S.dictAt hi ha λks vs ys e0 hl e rs=>by
  have oa:=S.live i a _ ha hi (λq=>nomatch q);refine kX (UQ (k:=kk) ru hl rs) λnc cW t9 p1 p2 p3 p4=>?_;refine aa e0 ?_;refine aa p1 ?_;refine wpAny_setItem_pairs (knd:=jap af wd) (k:=kk) (jeh _ _ _ _) e (λh' hd hs=>?_) (d9 (Y1 (ZK ?_) aU))
  ·rw[p2]at hd;exact vW φ β P m (S.mutate (t:=s.toks+1) hi (λq=>nomatch q) ha (λq=>nomatch q) hs (ZY _) (CW e) (.dict hd p3 (p4.mono (λY Y e=>e) (λb o p e=>⟨hs.extBut b o (λq=>oa (q▸p)) e,p⟩) (Zj _)))) (.mutate hi (λq=>nomatch q) ha hs)
  ·refine aa e0 ?_;refine aa jbo ?_;refine aa jbo ?_;refine aa rs.length ?_;rfl
theorem Vz (F:bb G A Φ sB ah ab T){x:Str}{px sp pos:Pos}{k v:Expr}{n i:Nat}{kk:Int}{u:AV}{es:List (Int×AV)}(hx:T.var x=some n)(fv:ρ[n]?=some (some (.ref i)))
 (hv:ev Φ σ ρ (ao T v)=some u) (fJ:u.scalar=true) (hk:ev Φ σ ρ (ao T k)=some (.int kk)) (hi:σ[i]?=some (.dict es)) (aU:es.length<=100000):
 ca G A sB aj ah ab T ρ σ (Z0 (.Assign [.Subscript (.Name x px) k sp] v pos) ab) (.next ρ (σ.set i (.dict (dictPut es kk u)))):=λs φ β P m S =>
 jhW ((cH F.hO _ v (Y5 _) ab T ρ _ F.hE hv).1.post (S.inv F.IB) S.er λxv ak ay aw bd aI aF=>(xZ F.hE hx fv).post bd aI λxo aC aV aP dJ bW bI =>
  (cH F.hO _ k (Y5 _) ab T ρ _ F.hE hk).1.post dJ bW λxk dj eU cn rm i3 jn=>by
   refine au (VR.refOf bI) ?_;rintro a rfl ha;have qw:=(aw.trans aP).trans cn;exact jn.e_int λt=>up (UN (S.go qw) hi ha aU (aF.scalar fJ λt y e=>cn.sub t y (aP.sub t y e))) λY s' h=>⟨rfl,h.after (.go qw)⟩) H1
theorem C5 {x:Str}{i:Nat}{v:AV}(hE:bQ ab T)(hx:T.var x=some i)(hv:ρ[i]?=some (some v)):ES G A ab T ρ σ (loadName ab x) v:=by
 intro s φ β P m I R;refine au (R.names x i v hx hv) λv' r n=>?_;have hd:=Hl hx;rcases n with⟨k,e⟩|⟨c,e,k,i⟩
 ·exact jiF hE.kind k R.ns e ⟨φ,GX.refl R.tk,r⟩
 ·rcases k with k|k
  ·exact jfC hE.kind k e i ⟨φ,GX.refl R.tk,r⟩
  ·exact jfB hE.kind k e i ⟨φ,GX.refl R.tk,r⟩ hd.2
theorem Jt {C:Operator->AV->AV->Prop}{op:Operator}{a b:AV}(h:lK op a b=true)(h1:∀i j,C .FloorDiv (.int i) (.int j))(h2:∀x y,C .Add (.str x) (.str y)):C op a b:=by
 induction op using jdD with
 |FloorDiv =>
  induction a using AV.casesOn with
  |int i=>induction b using AV.casesOn with
   |int j=>exact h1 i j
   |_=>exact bP h
  |_=>exact bP h
 |Add =>
  induction a using AV.casesOn with
  |str i=>induction b using AV.casesOn with
   |str j=>exact h2 i j
   |_=>exact bP h
  |_=>exact bP h
 |_=>exact bP h
theorem Ju {i j:Int}{r:AV}{x y:Value}(hr:dE σ .FloorDiv (.int i) (.int j)=some r)(K:aW φ s)(aF:VR G.tok am s'.heap β P (.int i) x)(bI:VR G.tok φ s.heap β P (.int j) y):Y' (Zb af wd) A (jec .FloorDiv x y) (aK G.tok φ s β P r) ax s :=
 mG hr λhc hr=>aG (Q:=λr=>Y' (Zb af wd) A (jec .FloorDiv x y) (aK G.tok φ s β P r) ax s) hr<|aF.e_int λgi=>bI.e_int λoV=>by
  have hs:small j=true:=by
   induction hq:small j using ZH with
   |true=>rfl
   |false=>exact absurd (.inr (by refine aa hq ?_;rfl)) hc
  exact jiX (λq=>hc (.inl (of_decide_eq_true q))) (by refine aa (AC hs) ?_;exact Z1) (fA K)
theorem Bf {u:List Nat}(h:(jbH ⟨u.toArray⟩==0)=true):u=[]:=Z3.mp (Zk▸(eq_of_beq h:u.toArray.size=0))
theorem Jx {u v:List Nat}{r:AV}{x y:Value}(hr:dE σ .Add (.str u) (.str v)=some r)(K:aW φ s)(aF:VR G.tok am s'.heap β P (.str u) x)(bI:VR G.tok φ s.heap β P (.str v) y):Y' (Zb af wd) A (jec .Add x y) (aK G.tok φ s β P r) ax s :=
 bR hr λaU hr=>aG (Q:=λr=>Y' (Zb af wd) A (jec .Add x y) (aK G.tok φ s β P r) ax s) hr<|aF.e_str λgi=>bI.e_str λoV=>by
  refine PySem.P.iadd_str ?_;by_cases hu:u=[]
  ·subst hu;exact jU K (.str _ _)
  by_cases hv:v=[]
  ·subst hv;refine aa (Z2 _) ?_;refine aa (if_neg (mt Bf hu)) ?_;exact jU K (.str _ _)
  refine aa (if_neg (mt Bf hu)) ?_;refine aa (if_neg (mt Bf hv)) ?_;refine aa (HV _ _) ?_;exact⟨d9 (Y1 (ZK (Zk.trans Za)) aU),nu K (ZY _)⟩
theorem Jw {op:Operator}{a b r:AV}{x y:Value}(bY:lK op a b=true)(hr:dE σ op a b=some r)(K:aW φ s)(aF:VR G.tok am s'.heap β P a x)(bI:VR G.tok φ s.heap β P b y):Y' (Zb af wd) A (jec op x y) (aK G.tok φ s β P r) ax s :=
 Jt (C:=λop a b=>dE σ op a b=some r->VR G.tok am s'.heap β P a x->VR G.tok φ s.heap β P b y->Y' (Zb af wd) A (jec op x y) (aK G.tok φ s β P r) ax s) bY (λi j hr aF bI=>Ju hr K aF bI) (λu v hr aF bI=>Jx hr K aF bI) hr aF bI
theorem Vw (F:bb G A Φ sB ah ab T){x:Str}{px pos:Pos}{op:Operator}{e:Expr}{i:Nat}{old v r:AV}(hx:T.own x=some i)(fv:ρ[i]?=some (some old))(he:ev Φ σ ρ (ao T e)=some v)(bY:lK op old v=true)
 (hr:dE σ op old v=some r):ca G A sB aj ah ab T ρ σ (Z0 (.AugAssign (.Name x px) op e pos) ab) (.next (ρ.set i (some r)) σ):=λs φ β P m S =>
 jiH ((C5 F.hE (tA hx).1 fv).post (S.inv F.IB) S.er λxo ak ay aw bd aI aF=>(cH F.hO _ e (Y5 _) ab T ρ _ F.hE he).1.post bd aI λxv aC aV aP dJ bW bI =>
  up (Jw bY hr aP.tk aF bI) λxr dj ⟨eU,cn,jn⟩=>nw F hx (((S.go aw).go aP).go cn.x) jn λeE jQ gl jX Y=>⟨rfl,eU,β,P,jQ,gl,(bu.go ((aw.trans aP).trans cn.x)).trans jX⟩)
theorem Vn {i j:Nat}(fv:ρ[i]?=some (some (.ref j))):ρ.set i (some (.ref j))=ρ:=by
 refine aX (ZA.mp fv) λhl hg=>?_;refine rwj hg ?_;exact List.set_getElem_self hl
theorem Vx (F:bb G A Φ sB ah ab T){x:Str}{px pos:Pos}{e:Expr}{i j:Nat}{v:AV}{xs ys:List AV}(hx:T.own x=some i)(fv:ρ[i]?=some (some (.ref j)))(he:ev Φ σ ρ (ao T e)=some v)(hi:σ[j]?=some (.list xs))
 (hv:aQ σ v=some ys) (aU:xs.length+ys.length<=100000):ca G A sB aj ah ab T ρ σ (Z0 (.AugAssign (.Name x px) .Add e pos) ab) (.next ρ (σ.set j (.list (xs++ys)))):=λs φ β P m S =>
 jiH ((C5 F.hE (tA hx).1 fv).post (S.inv F.IB) S.er λxo ak ay aw bd aI aF=>(cH F.hO _ e (Y5 _) ab T ρ _ F.hE he).1.post bd aI λxv aC aV aP dJ bW bI=>by
  have br:=(S.go aw).go aP;refine au (VR.refOf aF) ?_;rintro a rfl ha;refine bS (Ao bW.objs hv bI) ?_;rintro b zs rfl hb rb;refine br.listAt hi ha λus e rs=>Rm e hb (by refine rwj rs.length ?_;refine rwj rb.length ?_;exact aU) λh' hZ hs=>?_;refine n5 (br.relist (t:=aC.toks) hi ha hs (Y5 _) e hZ (rs.append rb)) λeU oZ o8 ky ey dp=>?_;have hc:oZ[j]?=some a:=dp.pre.elim λt e=>e▸(Zt (ZA.mp ha).1).trans ha;refine nw F hx ey (.ref hc) λeE jQ gl jX Y=>⟨rfl,eU,oZ,o8,jQ,?_,(bu.go (aw.trans aP)).trans (dp.trans jX)⟩
  rw[Vn fv]at gl;exact gl)
end
section
def Gb:Fn->Bool
 | .reversed=>true
 |_=>false
theorem Ob (h:gv.lookup x=some .reversed):x=("reversed" : Str):=
 eq_of_beq (Y6.mp (show gv.all (λe=>!Gb e.2||e.1==("reversed" : Str))=true by decide +kernel) _ (mem_of_lookup h))
theorem Tj (h:iU.lookup x=some .reversed):False :=
 bP (Y6.mp (show iU.all (λe=>!Gb e.2)=true by decide +kernel) _ (mem_of_lookup h))
theorem W5 (h:ao T e=.call .reversed (.cons a .nil)):∃p b pos,e=.Call (.Name ("reversed" : Str) p) [b] [] pos/\T.isGlobal ("reversed" : Str)=true/\a=ao T b:=by
 rcases wF h with⟨x,p,b,bs,pos,e1,hg,hl,e2⟩|⟨m,hl⟩|h|⟨h,_⟩
 ·have:=Ob hl;rw[this]at e1 hg
  induction bs using Y2 with
  |cons=>exact GY (bV.cons.inj e2).2
  |nil=>exact zZ p b pos e1 hg (by injection e2)
 ·exact(Tj hl).elim
 ·exact bP h
 ·exact bP h
def uq (G:GD)(A:ZV)(s:Y4)(φ:Gh)(β:List Ze)(P:Ze->Prop)(it:Expr)(ab:Env)(vs:List AV):Prop :=
 (∀x,jct it ab x=pure x)/\Y' (Zb af wd) A (jaa it ab) (λx s'=>Y' (Zb af wd) A (jdN x) (λoH cO=>∃ak ay,GX G s φ ak ay/\jZ A G.tok ay β P P ak vs oH cO) ax s') ax s
theorem RO (F:bb G A Φ sB ah ab T)(hq:ao T it=.call .range as)(e:dU Φ σ ρ (.range as)=some vs)(I:bh G s.heap)(R:ER G φ ab T ρ σ β P m s):uq G A s φ β P it ab vs:=by
 refine kf (Bp hq) ?_;rintro p b bs pos rfl hg rfl;rw[r9]at e
 induction cx:bX Φ σ ρ (bg T (b::bs))using ae with
 |none=>rw[cx]at e;exact ai e
 |some us =>
  rw[cx]at e;refine au (Zs.mp e) ?_;rintro is eS rfl;refine bN (j8 (G:=G) (A:=A) F.hE (λa Y=>cH F.hO _ a (Y5 _)) cx) λh1 h2=>?_;exact⟨λY=>rfl,xY F.hE F.hO.hG hg h1 (h2 _) eS I R λv s' am k rr=>up (HP F.hO.hA rr) λoH cO h=>cZ s' am k h⟩
theorem RP (F:bb G A Φ sB ah ab T)(hq:ao T it=.call .reversed (.cons a .nil))(cx:ev Φ σ ρ a=some (.lst us))(I:bh G s.heap)(R:ER G φ ab T ρ σ β P m s):uq G A s φ β P it ab us.reverse:=by
 refine ka (W5 hq) ?_;rintro p b pos rfl hg rfl;have iL:=tw cx;refine⟨λY=>rfl,jaH (jR F.hE hg (.inr (F.hO.hG.types "reversed" (by simp))) I ?_)⟩;refine jbi (jcE ((cH F.hO _ b (Y5 _) ab T ρ _ F.hE cx).1.post I R λx ak ay aw bd aI aF=>jdk ?_) (iV iL)) (iV iL) rfl;refine aF.e_lst λa xs hl p r=>VL F.hO.hA hl.isList p r λoH s' hs hp=>up hp λYI cO q=>?_;refine aa q.1 ?_;refine aa q.2 ?_;exact cZ ak ay aw hs
theorem RQ (F:bb G A Φ sB ah ab T)(Qh:x.isRef=false)(hx:ev Φ σ ρ (ao T it)=some x)(e:oG σ x=some vs)(I:bh G s.heap)(R:ER G φ ab T ρ σ β P m s):uq G A s φ β P it ab vs:=by
 refine⟨λY=>D8 hx,(cH F.hO _ it (Y5 _) ab T ρ _ F.hE hx).1.post I R λv ak ay aw bd aI aF=>?_⟩;refine up (HQ F.hO.hA aI.objs aI.psys e aF) λoH aC h=>?_;refine yq h λo fp Pv St h1 h2 h3 h4 h5 h6=>?_;refine⟨ak,ay,aw,o,fp,Pv,St,h1,h2,h3,h4,λb hb=>(h5 b hb).imp id λq=>⟨q.1.elim id λq=>?_,q.2⟩,h6⟩;exact bP (Qh.symm.trans q.1)
theorem RN (F:bb G A Φ sB ah ab T)(e:lQ Φ ρ σ (fR (ao T it))=some vs)(I:bh G s.heap)(R:ER G φ ab T ρ σ β P m s):uq G A s φ β P it ab vs:=by
 induction hq:fR (ao T it)using It.casesOn with
 |range as=>rw[hq]at e;exact RO F (ti hq) e I R
 |rev a =>
  rw[hq,MU]at e
  induction hu:ev Φ σ ρ a using ae with
  |none=>rw[hu]at e;exact ai e
  |some u =>
   rw[hu]at e
   induction u using AV.casesOn with
   |lst us=>exact Y3 e▸RP F (ti hq) hu I R
   |_=>exact ai e
 |val x =>
  rw[hq,show x=ao T it from ti hq,Db]at e;clear hq
  induction hx:ev Φ σ ρ (ao T it)using ae with
  |none=>rw[hx]at e;exact ai e
  |some x =>
   rw[hx]at e
   induction x using AV.casesOn with
   |ref i=>exact ai e
   |_=>exact RQ F rfl hx e I R
theorem SR.moved (S:SR G sB aj ah ab T φ ρ σ β P m s)(hn:sB.heap.objs.size<=I)(hI:¬P I)(ql:I∉β)(fI:¬mv G ab T I)(jb:∀x c,ab.cells.lookup x=some c->c≠I)(hk:∀b o,b≠I->s.heap.get? b=some o->h'.get? b=some o)(u:Up s { s with heap:=h',toks:=t }):SR G sB aj ah ab T φ ρ σ β P m { s with heap:=h',toks:=t }:=by
 have lV:¬G.X I:=λq=>fI (.inr (.inr q));have TT:=S.tabs.1.but (a:=I) hk lV λq=>hI (S.er.freshX I (.inr q));have R:=S.er.but (X:=(·=I)) (h':=h') (t:=t) S.tabs.1 (λb hb q=>lV (q▸hb)) (λb o hb e=>hk b o hb e) u.size u.toks (λa p q=>hI (q▸p)) (λa p q=>ql (q▸p)) (λq=>fI (.inl q.symm)) (λx c v hc hi q=>jb x c hc q);refine dW S.base λhh tt e=>?_;exact{ S with base:=jP h' t (by refine aa e ?_;rfl),old:=λb o hb e=>hk b o (sC hn e) (S.old b o hb e),size:=Y1 S.size u.size,er:=R,tabs:=⟨TT.1,λc q=>S.tabs.2 c (TT.2 c q)⟩ }
theorem bu.moved (C:bu G ab T ak ay gR dc cC s φ σ β P)(hI:ak.heap.objs.size<=I)(hk:∀b o,b≠I->s.heap.get? b=some o->h'.get? b=some o)(u:Up s { s with heap:=h',toks:=t }):bu G ab T ak ay gR dc cC { s with heap:=h',toks:=t } φ σ β P :=
 { C with keep:=λb o hb e=>hk b o (λq=>Zr _ (bf (q▸Zu e:I<ak.heap.objs.size) hI)) (C.keep b o hb e),size:=Y1 C.size u.size }
theorem SR.push_out (S:SR G sB aj ah ab T φ ρ σ β P m s):
 SR G sB aj ah ab T φ ρ σ β (fN P s.heap.objs.size (s.heap.objs.size+1)) m { s with heap:=s.heap.push o }/\bu G ab T s φ σ β P { s with heap:=s.heap.push o } φ σ β (fN P s.heap.objs.size (s.heap.objs.size+1)):=by
 have hz:(s.heap.push o).objs.size=s.heap.objs.size+1:=ZP ..;have ext:ce s.heap (s.heap.push o):=λb o e=>Zd _ e;have R:=S.er.grow_out (h':=s.heap.push o) (t:=s.toks) S.tabs.1 ext (by refine aa hz ?_;exact ZY _) (Y5 _);rw[hz]at R;refine dW S.base λhh tt e=>?_;refine⟨{ S with base:=jP (s.heap.push o) s.toks (by refine aa e ?_;rfl),old:=λb o hb e=>ext b o (S.old b o hb e),tabs:=⟨S.tabs.1.keeps ext,λc q=>S.tabs.2 c (iW ext S.tabs.1 c q)⟩,size:=Y1 S.size (by show _<=(s.heap.push o).objs.size;refine aa hz ?_;exact ZY _),er:=R,fr:=S.fr.sub λa p=>p.1,live:=λj a o h1 h2 h3 p=>S.live j a o h1 h2 h3 p.1,psub:=λa p=>S.psub a p.1 },
  ⟨λb o Y e=>ext b o e,λY Y h=>h,λa p hl=>⟨p,λq=>ZW.mpr q.1 hl⟩,λY Y e=>e,Zj _,by show _<=(s.heap.push o).objs.size;refine aa hz ?_;exact ZY _,λY Y p=>.inl p.1,λY h Y=>h⟩⟩
theorem Ox {f:aB->aA->AV->Option Fl}{v:AV}{vs:List AV}{fl:Fl}{Q:Prop}(h:eQ f (v::vs) ρ σ=some fl)(h1:∀av an,f ρ σ v=some (.next av an)->eQ f vs av an=some fl->Q)(h2:∀r,f ρ σ v=some (.ret r)->.ret r=fl->Q):Q:=by
 replace h:(match f ρ σ v with|some (.next av an)=>eQ f vs av an|some (.ret r)=>some (.ret r)|none=>none)=some fl:=h
 induction hb:f ρ σ v using ae with
 |none=>rw[hb]at h;exact ai h
 |some x =>
  rw[hb]at h
  induction x using Fl.casesOn with
  |next av an=>exact h1 av an hb h
  |ret r=>exact h2 r hb (Y3 h)
theorem Oz {T:Tb}{ρ:aB}{G:GD}{s:Y4}(F:bb G A Φ sB ah ab T){x:Str}{px:Pos}{body:List Stmt}{i:Nat}{v:AV}{vs:List AV}{xv:Value}{f:aB->aA->AV->Option Fl}{fl:Fl}{R:jeB->Y4->Prop}{E E':Value->Y4->Prop}(hx:T.own x=some i)(jd:∀v ρ σ fl,f ρ σ v=some fl->ca G A sB aj ah ab T (ρ.set i (some v)) σ (ZN body ab) fl)(S:SR G sB aj ah ab T φ ρ σ β P m s)(rv:VR G.tok φ s.heap β P v xv)(hf:eQ f (v::vs) ρ σ=some fl)(h1:∀av an s',eQ f vs av an=some fl->gk G sB aj ah ab T s φ σ β P av an s'->R .next s')(h2:∀r fw s',.ret r=fl->o7 G sB aj ah ab T s φ σ β P (.ret r) fw s'->R fw s'):
 Y' (Zb af wd) A (jhh (.Name x px) ab xv) (λY s'=>Y' (Zb af wd) A (ZN body ab) R E' s') E s :=
 jeu (nw F hx S rv λak da aM bU Y=>Ox hf
  (λav an hb hf=>up (jd v ρ σ _ hb ak φ β P da aM) λfw aC cy=>cy.1▸h1 av an aC hf (gk.after bU cy.2))
  (λr hb e=>up (jd v ρ σ _ hb ak φ β P da aM) λfw aC cy=>h2 r fw aC e cy))
structure o5 (G:GD) (sB:Y4) (aj:Gh) (ah:Ze->Prop) (ab:Env) (T:Tb) (ak:Y4) (ay:Gh) (σ:aA) (β:List Ze) (P:Ze->Prop) (I:Ze) (St:Nat->jak->Prop) (run:Nat->aB->aA->Prop) (j:Nat) (am:Gh) (av:aB) (an:aA) (aH:List Ze) (P':Ze->Prop) (m':Str->Option Value) (s':Y4):Prop where
 S:SR G sB aj ah ab T am av an aH P' m' s'
 C:bu G ab T ak ay σ β P s' am an aH P'
 st:St j s'.heap
 nb:I∉aH
 np:¬P' I
 lt:I<s'.heap.objs.size
 run:run j av an
def BK (G:GD)(sB:Y4)(aj:Gh)(ah:Ze->Prop)(ab:Env)(T:Tb)(ak:Y4)(ay:Gh)(σ:aA)(β:List Ze)(P:Ze->Prop)(I:Ze)(St:Nat->jak->Prop)(run:Nat->aB->aA->Prop)(len n:Nat)(s':Y4):Prop :=
 ∃j am av an aH P' m',(n=len-j/\j<=len)/\o5 G sB aj ah ab T ak ay σ β P I St run j am av an aH P' m' s'
theorem Ow {ak:Y4}{ay:Gh}{I:Ze}{St:Nat->jak->Prop}{run:Nat->aB->aA->Prop}{len n:Nat}{Q:Prop}(h:BK G sB aj ah ab T ak ay σ β P I St run len n s')(k:∀j am av an aH P' m',n=len-j->j<=len->o5 G sB aj ah ab T ak ay σ β P I St run j am av an aH P' m' s'->Q):Q :=
 h.elim λj h=>h.elim λam h=>h.elim λav h=>h.elim λan h=>h.elim λaH h=>h.elim λP' h=>h.elim λm' h=>k j am av an aH P' m' h.1.1 h.1.2 h.2
theorem Tw (F:bb G A Φ sB ah ab T)(S:SR G sB aj ah ab T φ ρ σ β P m s):¬mv G ab T s.heap.objs.size/\∀x c,ab.cells.lookup x=some c->c≠s.heap.objs.size :=
 ⟨λq=>Zr _ (Ha S q),λx c hc q=>by
  refine bB (S.er.celled x (F.hcl x c hc)) λc' dk e1 e2=>?_;exact Zr _ ((Y3 (hc.symm.trans e1)).symm.trans q▸e2.lt)⟩
section
theorem o5.moved {ab:Env}{T:Tb}{ρ:aB}{σ an:aA}{G:GD}{s:Y4}{φ:Gh}{β aH:List Ze}{P P' ah:Ze->Prop}{m:Str->Option Value}{h':jak}{sB:Y4}{aj:Gh}{ak:Y4}{ay:Gh}{I:Ze}{St:Nat->jak->Prop}{run:Nat->aB->aA->Prop}{j:Nat}{t:Tok}(H:o5 G sB aj ah ab T ak ay an aH P' I St run j φ ρ σ β P m s)(kh:sB.heap.objs.size<=I)(hI:ak.heap.objs.size<=I)(fI:¬mv G ab T I)(jb:∀x c,ab.cells.lookup x=some c->c≠I)(hk:∀b o,b ∉ [I]->s.heap.get? b=some o->h'.get? b=some o)(u:Up s { s with heap:=h',toks:=t }):
 SR G sB aj ah ab T φ ρ σ β P m { s with heap:=h',toks:=t }/\bu G ab T ak ay an aH P' { s with heap:=h',toks:=t } φ σ β P :=
 have f8:∀b o,b≠I->s.heap.get? b=some o->h'.get? b=some o:=λb o hb e=>hk b o (λq=>hb (Zq.mp q)) e
 ⟨H.S.moved kh H.np H.nb fI jb f8 u,H.C.moved hI f8 u⟩
theorem o5.still {ab:Env}{T:Tb}{ρ:aB}{σ an:aA}{G:GD}{s:Y4}{φ:Gh}{β aH:List Ze}{P P' ah:Ze->Prop}{m:Str->Option Value}{sB:Y4}{aj:Gh}{ak:Y4}{ay:Gh}{I:Ze}{St:Nat->jak->Prop}{run:Nat->aB->aA->Prop}{j:Nat}{fp:List Ze}(H:o5 G sB aj ah ab T ak ay an aH P' I St run j φ ρ σ β P m s){kC:aB}{da:Str->Option Value}(aM:SR G sB aj ah ab T ay kC an aH P' da ak)(fI:¬mv G ab T I)(la:∀b∈fp,b=I\/P' b/\b<ak.heap.objs.size):∀b∈fp,ph G ab T σ β b:=λb hb =>
 (la b hb).elim (λe=>e▸⟨fI,λk hk=>absurd (ZG hk) H.nb⟩) λq=>H.C.still b q.2 (aM.stillP q.1)
end
theorem J6 {α:Type}{t:Sem α}{K:α->Y4->Prop}{E:Value->Y4->Prop}(h:∀Q:α->Y4->Prop,(∀a s',K a s'->Q a s')->Y' (Zb af wd) A t Q E s):Y' (Zb af wd) A t K E s:=h K λY Y h=>h
theorem Vy {T:Tb}{ρ:aB}(F:bb G A Φ sB ah ab T){x:Str}{px pos:Pos}{iter:Expr}{body:List Stmt}{i:Nat}{vs:List AV}{f:aB->aA->AV->Option Fl}{fl:Fl}(hx:T.own x=some i)(jg:lQ Φ ρ σ (fR (ao T iter))=some vs)(jd:∀v ρ σ fl,f ρ σ v=some fl->ca G A sB aj ah ab T (ρ.set i (some v)) σ (ZN body ab) fl)(hf:eQ f vs ρ σ=some fl):ca G A sB aj ah ab T ρ σ (Z0 (.For (.Name x px) iter body [] pos) ab) fl:=by
 intro s φ β P m S;refine J6 λK hK=>?_;have hs:=RN F jg (S.inv F.IB) S.er;refine PySem.wpAny_For (jar hs.2 (λxv fg aL=>jar aL (λoH aC cy=>cy.elim λak cy=>cy.elim λay cy=>?_) λY Y e=>e) λY Y e=>e) hs.1;have aw:=cy.1;refine src_elim cy.2 λo fp Pv St W cM la P2=>?_;clear cy hs;have aM:=S.go aw;refine bN (aM.push_out (o:=o)) λbr cY=>?_;refine bN (Tw F aM) λfI jb=>?_;have kh:=aM.size;refine codeAny_forLoop (BK G sB aj ah ab T ak ay σ β P ak.heap.objs.size St (λj ρ σ=>eQ f (vs.drop j) ρ σ=some fl) vs.length)
  (λn s' hI=>?_) vs.length ⟨0,ay,ρ,σ,β,_,m,⟨rfl,jbj _⟩,br,cY,cM,λq=>Zr _ (aM.er.blt _ q),λp=>p.2 ⟨Y5 _,jaj _⟩,by show _<(ak.heap.push o).objs.size;refine aa (ZP _ _) ?_;exact jaj _,hf⟩ (λY=>rfl)
 refine Ow hI λj am av an aH P' m' hn hj H=>?_;subst hn;clear hI;have om:=H.run;rcases Nat.eq_or_lt_of_le hj with jK|jK
 ·rw[jK,jiy]at om;refine eF (W.done s' _ _ (jK▸H.st) λh' t hk u=>?_);refine bN (H.moved kh (Y5 _) fI jb hk u) λey dp=>?_;exact wpAny_execs_nil (hK _ _ (aG (Q:=λfl=>o7 G sB aj ah ab T s φ σ β P fl .next _) om ⟨rfl,am,aH,P',m',ey,(bu.go aw).trans dp⟩))
 ·rw[jcw jK]at om;refine eF (W.item j s' _ _ jK H.st λxv h' t vc oD hk u=>?_);refine bN (H.moved kh (Y5 _) fI jb hk u) λey dp=>?_;refine au (P2 j xv vc) λv hv rv=>?_;rw[Zc jK]at hv;have zv:ak.heap.objs.size<h'.objs.size:=bf H.lt u.size;refine Oz F hx jd ey (aM.carry dp (Y3 hv▸rv)) om (λX6 X8 dN PR lg=>?_) λr fw dN e lg=>?_
  ·refine n5 lg λwN IQ BM Az rB nE=>?_;exact⟨vs.length-(j+1),Nat.sub_succ_lt_self _ _ jK,j+1,wN,X6,X8,IQ,BM,Az,⟨rfl,jK⟩,rB,dp.trans nE,W.frame _ _ _ oD λb hb o e=>nE.keep b o (H.still aM fI la b hb) e,λq=>H.nb (nE.bn _ q zv),λp=>(nE.pn _ zv p).elim H.np H.nb,bf zv nE.size,PR⟩
  ·refine au lg ?_;rintro y rfl lg;exact hK _ _ (e▸⟨y,rfl,lg⟩)
theorem XF {c:aB->aA->Option AV}{f:aB->aA->Option Fl}{k:Nat}{fl:Fl}{Q:Prop}(h:jr c f (k+1) ρ σ=some fl)(h1:∀av an,c ρ σ=some (.bool true)->f ρ σ=some (.next av an)->jr c f k av an=some fl->Q)(h2:∀r,c ρ σ=some (.bool true)->f ρ σ=some (.ret r)->.ret r=fl->Q)(h3:c ρ σ=some (.bool false)->.next ρ σ=fl->Q):Q:=by
 rw[Bt]at h
 induction hc:c ρ σ using ae with
 |none=>rw[hc]at h;exact ai h
 |some v =>
  rw[hc]at h
  induction v using AV.casesOn with
  |bool b =>
   induction b using ZH with
   |false=>exact h3 hc (Y3 h)
   |true =>
    induction hb:f ρ σ using ae with
    |none=>rw[hb]at h;exact ai h
    |some x =>
     rw[hb]at h
     induction x using Fl.casesOn with
     |next av an=>exact h1 av an hc hb h
     |ret r=>exact h2 r hc hb (Y3 h)
  |_=>exact ai h
theorem XG (F:bb G A Φ sB ah ab T){c:Expr}{body:List Stmt}{f:aB->aA->Option Fl}{fl:Fl}{k:Nat}{R R':jeB->Y4->Prop}{E:Value->Y4->Prop}(jd:∀ρ σ fl,f ρ σ=some fl->ca G A sB aj ah ab T ρ σ (ZN body ab) fl)(hf:jr (λρ σ=>ev Φ σ ρ (ao T c)) f (k+1) ρ σ=some fl)(S:SR G sB aj ah ab T φ ρ σ β P m s)(h1:∀av an s',jr (λρ σ=>ev Φ σ ρ (ao T c)) f k av an=some fl->gk G sB aj ah ab T s φ σ β P av an s'->R .next s')(h2:∀r fw s',.ret r=fl->o7 G sB aj ah ab T s φ σ β P (.ret r) fw s'->R fw s')(h3:∀s',.next ρ σ=fl->gk G sB aj ah ab T s φ σ β P ρ σ s'->R' .next s'):
 Y' (Zb af wd) A (jbs c ab (jaa c ab)) (λb aC=>if b then Y' (Zb af wd) A (ZN body ab) R E aC else Y' (Zb af wd) A (ZN [] ab) R' E aC) E s:=by
 refine XF hf (λav an hc hb hf=>?_) (λr hc hb e=>?_) λhc e=>?_
 ·refine((cH F.hO _ c (Y5 _) ab T ρ _ F.hE hc).2 true rfl).post (S.inv F.IB) S.er λak ay aw bd aI=>?_;rw[if_pos rfl];refine up (jd ρ σ _ hb ak ay β P m (S.go aw)) λfw aC cy=>?_;obtain⟨rfl,aV,dm,ck,dh,br,cY⟩:=cy;exact h1 av an aC hf ⟨aV,dm,ck,dh,br,(bu.go aw).trans cY⟩
 ·refine((cH F.hO _ c (Y5 _) ab T ρ _ F.hE hc).2 true rfl).post (S.inv F.IB) S.er λak ay aw bd aI=>?_;rw[if_pos rfl];exact up (jd ρ σ _ hb ak ay β P m (S.go aw)) λfw aC cy=>h2 r fw aC e cy
 ·refine((cH F.hO _ c (Y5 _) ab T ρ _ F.hE hc).2 false rfl).post (S.inv F.IB) S.er λak ay aw bd aI=>?_;rw[if_neg Z1];exact wpAny_execs_nil (h3 ak e ⟨ay,β,P,m,S.go aw,.go aw⟩)
theorem gk.carry (C:bu G ab T ak ay gR dc cC s φ σ β P)(h:gk G sB aj ah ab T s φ σ β P av an s'):gk G sB aj ah ab T ak ay gR dc cC av an s':=by
 refine n5 h λaV dm ck dh br cY=>?_;exact vW aV dm ck dh br (C.trans cY)
theorem VF (F:bb G A Φ sB ah ab T)(jd:∀ρ σ fl,f ρ σ=some fl->ca G A sB aj ah ab T ρ σ (ZN body ab) fl)(hf:jr (λρ σ=>ev Φ σ ρ (ao T c)) f n ρ σ=some fl):ca G A sB aj ah ab T ρ σ (Z0 (.While c body [] pos) ab) fl:=by
 intro s φ β P m S;refine PySem.wpAny_While ?_;refine codeAny_whileLoop (λk s'=>∃av an,gk G sB aj ah ab T s φ σ β P av an s'/\jr (λρ σ=>ev Φ σ ρ (ao T c)) f k av an=some fl)
  (λk s' hI=>?_) n ⟨ρ,σ,⟨φ,β,P,m,S,.refl⟩,hf⟩
 clear S hf;refine bB hI λav an z2 om=>?_;obtain⟨am,aH,P',m',S',C'⟩:=z2
 induction k using jaw with
 |zero=>exact ai om
 |succ k =>
  refine XG F jd om S' (λo0 nB aC hf h=>⟨k,jaj _,o0,nB,h.carry C',hf⟩) (λr fw aC e h=>?_) λaC e h=>e▸⟨rfl,h.carry C'⟩;refine au h ?_;rintro y rfl h;exact e▸⟨y,rfl,h⟩
end
section
theorem VB (F:bb G A Φ sB ah ab T)(he:ev Φ σ ρ (ao T e)=some v)(hr:aZ σ 6 v=some r):ca G A sB aj ah ab T ρ σ (Z0 (.Return (some e) pos) ab) (.ret r):=by
 intro s φ β P m S;refine jbw ((cH F.hO _ e (Y5 _) ab T ρ _ F.hE he).1.post (S.inv F.IB) S.er λx ak ay aw bd aI aF=>?_);have aM:=S.go aw;exact⟨x,rfl,ay,aM.done,aM.frozen F.hP₀ hr aF⟩
theorem Nr {s:St}{ss:dw}{fl:Fl}{Q:Prop}(e:aE Φ ρ σ (.cons s ss)=some fl)(h1:∀av an,cU Φ ρ σ s=some (.next av an)->aE Φ av an ss=some fl->Q)(h2:∀v,cU Φ ρ σ s=some (.ret v)->.ret v=fl->Q):Q:=by
 rw[yy]at e
 induction h:cU Φ ρ σ s using ae with
 |none=>rw[h]at e;exact ai e
 |some f =>
  rw[h]at e
  induction f using Fl.casesOn with
  |next av an=>exact h1 av an h e
  |ret v=>exact h2 v h (Y3 e)
theorem A7 (C:bu G ab T s φ σ β P ak ay gR dc cC)(h:o7 G sB aj ah ab T ak ay gR dc cC fl f aC):o7 G sB aj ah ab T s φ σ β P fl f aC:=by
 induction fl using Fl.casesOn with
 |next o0 nB =>
  obtain⟨e,aV,dm,ck,dh,br,cY⟩:=h;exact⟨e,aV,dm,ck,dh,br,C.trans cY⟩
 |ret r=>exact h
theorem Ws {mu:List Str}:(mu.contains x&&eK v)=true->eK v=true:=λh=>(jbP.mp h).2
theorem HK (F:bb G A Φ sB ah ab T){gQ:List Stmt}:∀{ρ:aB}{σ:aA}{fl:Fl},(∀st∈gQ,∀ρ σ fl,cU Φ ρ σ (oT T mu st)=some fl->ca G A sB aj ah ab T ρ σ (Z0 st ab) fl) ->
 aE Φ ρ σ (et T mu gQ)=some fl->ca G A sB aj ah ab T ρ σ (ZN gQ ab) fl:=by
 induction gQ with
 |nil=>exact λ{ρ σ fl} Y e=>aG (Q:=λfl=>ca G A sB aj ah ab T ρ σ (ZN [] ab) fl) (show some (Fl.next ρ σ)=some fl from e) λs φ β P m S=>wpAny_execs_nil ⟨rfl,φ,β,P,m,S,.refl⟩
 |cons st gQ ih =>
  intro ρ σ fl h e s φ β P m S;refine Nr (e:aE Φ ρ σ (.cons (oT T mu st) (et T mu gQ))=some fl) (λav an he e=>?_) λr he e=>?_
  ·refine Zy (up (h st Zf ρ σ _ he s φ β P m S) λf ak aY=>?_);obtain⟨rfl,ay,dc,cC,da,aM,bU⟩:=aY;exact up (ih (λst hs=>h st (Zw _ hs)) e ak ay dc cC da aM) λf aC cy=>A7 bU cy
  ·refine rwj e ?_;refine Zy (up (h st Zf ρ σ _ he s φ β P m S) λf ak aY=>?_);refine au aY ?_;rintro y rfl cy;exact⟨y,rfl,cy⟩
section
theorem V9 (F:bb G A Φ sB ah ab T)(hi:T.own x=some i)(ht:th=true->eK v=true)(e:cU Φ ρ σ (.asg i th (ao T v))=some fl):ca G A sB aj ah ab T ρ σ (Z0 (.Assign [.Name x px] v pos) ab) fl:=by
 rw[yu]at e
 induction hu:gq Φ ρ σ th (ao T v)using ae with
 |none=>rw[hu]at e;exact ai e
 |some r =>
  obtain⟨u,an⟩:=r;rw[hu]at e;exact aG (Q:=ca G A sB aj ah ab T ρ σ _) e (HJ F hi ht hu)
theorem V' {T:Tb}{mu:List Str}(F:bb G A Φ sB ah ab T){vs:List Expr}{xs:List Str}{is:List Nat}(h1:gh ts=some xs)(h2:T.vars? xs=some is)(h3:(vs.length==xs.length&&decide (vs.length<=1000)&&decide is.Nodup&&(!vs.all (jdj 8)||vs.all (jdC 8)))=true)(e:cU Φ ρ σ (.asgT (is.zip ((xs.zip vs).map λ(x,v)=>mu.contains x&&eK v)) (bg T vs))=some fl):ca G A sB aj ah ab T ρ σ (Z0 (.Assign [.Tuple ts k tp] (.Tuple vs k2 p2) pos) ab) fl:=by
 refine cu h3 λh c4=>cu h λh c3=>cu h λc1 c2=>?_;have c1:=eq_of_beq c1;have E7:xs.mapM T.own=some is:=h2;have aO:((xs.zip vs).map λ(x,v)=>mu.contains x&&eK v).length=is.length:=by
  rw[Y0,jbo,c1,jhm,As E7]
 have PQ:(is.zip ((xs.zip vs).map λ(x,v)=>mu.contains x&&eK v)).map (·.1)=is:=jiw (by rw[aO];exact Y5 _);have vK:∀x e,(x,e)∈(is.zip ((xs.zip vs).map λ(x,v)=>mu.contains x&&eK v)).zip vs->x.2=true->eK e=true:=λx e hm vK=>by
  obtain⟨j,hj,lY⟩:=jdq.mp hm;rw[jfO,jfO,jbR,jfO]at lY;cases lY;exact(jbP.mp vK).2
 generalize(xs.zip vs).map (λ(x,v)=>mu.contains x&&eK v)=tV at *;rw[DL]at e
 induction cx:eO Φ ρ σ (is.zip tV) (bg T vs)using ae with
 |none=>rw[cx]at e;exact ai e
 |some r =>
  obtain⟨us,an⟩:=r;rw[cx]at e;refine au (Zs.mp e) λav vR e=>?_;rw[PQ]at vR;exact e▸Vv F h1 E7 (of_decide_eq_true c3) (of_decide_eq_true c2) c1 c4 aO vK cx vR
theorem Wg (F:bb G A Φ sB ah ab T)(h1:gh ts=some xs)(h2:T.vars? xs=some is)(hn:∀vs k p,v≠.Tuple vs k p)(e:cU Φ ρ σ (.unp is (ao T v))=some fl):ca G A sB aj ah ab T ρ σ (Z0 (.Assign [.Tuple ts k tp] v pos) ab) fl:=by
 rw[DK]at e
 induction hu:ev Φ σ ρ (ao T v)using ae with
 |none=>rw[hu]at e;exact ai e
 |some u =>
  rw[hu]at e
  induction u using AV.casesOn with
  |tup us =>
   refine au (Zs.mp e) λav vR e=>?_;exact e▸VD F h1 h2 hn hu vR
  |_=>exact ai e
theorem Wd (F:bb G A Φ sB ah ab T)(hi:T.var x=some i)(e:cU Φ ρ σ (.put i (ao T k) (ao T v))=some fl):ca G A sB aj ah ab T ρ σ (Z0 (.Assign [.Subscript (.Name x px) k sp] v pos) ab) fl:=by
 rw[DN]at e
 induction hu:ev Φ σ ρ (ao T v)using ae with
 |none=>rw[hu]at e;exact ai e
 |some u =>
  rw[hu]at e;refine bR e λfJ e=>?_
  induction hj:ρ[i]? using ae with
  |none=>rw[hj]at e;exact ai e
  |some o =>
   rw[hj]at e
   induction o using ae with
   |none=>exact ai e
   |some o =>
    induction o using AV.casesOn with
    |ref j =>
     induction hk:ev Φ σ ρ (ao T k)using ae with
     |none=>rw[hk]at e;exact ai e
     |some kv =>
      rw[hk]at e
      induction kv using AV.casesOn with
      |int kk =>
       dsimp only at e
       induction ho:σ[j]? using ae with
       |none=>rw[ho]at e;exact ai e
       |some ob =>
        rw[ho]at e
        induction ob using AO.casesOn with
        |dict es=>exact bR e λaU e=>aG (Q:=ca G A sB aj ah ab T ρ σ _) e (Vz F hi hj hu fJ hk ho aU)
        |_=>exact ai e
      |_=>exact ai e
    |_=>exact ai e
theorem Jv {ρ:aB}{σ:aA}{i:Nat}{op:Operator}{x:Ex}{Q:Prop}(e:cU Φ ρ σ (.aug i op x)=some fl)(h1:∀j v xs ys,ρ[i]?=some (some (.ref j))->ev Φ σ ρ x=some v->op=.Add->σ[j]?=some (.list xs)->aQ σ v=some ys->xs.length+ys.length<=100000->.next ρ (σ.set j (.list (xs++ys)))=fl->Q)(h2:∀old v r,ρ[i]?=some (some old)->ev Φ σ ρ x=some v->lK op old v=true->dE σ op old v=some r->.next (ρ.set i (some r)) σ=fl->Q):Q:=by
 rw[yw]at e
 induction ho:ρ[i]? using ae with
 |none=>rw[ho]at e;exact ai e
 |some o =>
  rw[ho]at e
  induction o using ae with
  |none=>exact ai e
  |some old =>
   induction hv:ev Φ σ ρ x using ae with
   |none=>rw[hv]at e;exact ai e
   |some v =>
    rw[hv]at e;have hb:(if lK op old v then(match dE σ op old v with
     |some r=>some (Fl.next (ρ.set i (some r)) σ)
     |none=>none)else none)=some fl->Q:=λe=>bR e λbY e=>by
     induction hr:dE σ op old v using ae with
     |none=>rw[hr]at e;exact ai e
     |some r=>rw[hr]at e;exact h2 old v r ho hv bY hr (Y3 e)
    induction old using AV.casesOn with
    |ref j =>
     clear hb h2
     induction op using jdD with
     |Add =>
      dsimp only at e
      induction hs:σ[j]? using ae with
      |none=>rw[hs]at e;exact ai e
      |some ob =>
       rw[hs]at e
       induction ob using AO.casesOn with
       |list xs =>
        induction hl:aQ σ v using ae with
        |none=>rw[hl]at e;exact ai e
        |some ys=>rw[hl]at e;exact bR e λaU e=>h1 j v xs ys ho hv rfl hs hl aU (Y3 e)
       |_=>exact ai e
     |_=>exact ai e
    |_=>exact hb e
theorem Wa {T:Tb}(F:bb G A Φ sB ah ab T){x:Str}{px:Pos}{v:Expr}{op:Operator}{i:Nat}(hi:T.own x=some i)(e:cU Φ ρ σ (.aug i op (ao T v))=some fl):ca G A sB aj ah ab T ρ σ (Z0 (.AugAssign (.Name x px) op v pos) ab) fl :=
 Jv e (λj u xs ys h1 h2 h3 h4 h5 h6 e=>e▸h3▸Vx F hi h1 h2 h4 h5 h6) λold u r h1 h2 h3 h4 e=>e▸Vw F hi h1 h2 h3 h4
theorem V8 (F:bb G A Φ sB ah ab T)(bY:ff o 1 ap p=true)(e:cU Φ ρ σ (.app (ao T o) (ao T v))=some fl):ca G A sB aj ah ab T ρ σ (Z0 (.Expr (.Call (.Attribute o "append" ap) [v] [] p) pos) ab) fl:=by
 rw[yx]at e
 induction ho:ev Φ σ ρ (ao T o)using ae with
 |none=>rw[ho]at e;exact ai e
 |some ov =>
  rw[ho]at e
  induction ov using AV.casesOn with
  |ref i =>
   induction hv:ev Φ σ ρ (ao T v)using ae with
   |none=>rw[hv]at e;exact ai e
   |some u =>
    rw[hv]at e;dsimp only at e
    induction hx:σ[i]? using ae with
    |none=>rw[hx]at e;exact ai e
    |some ob =>
     rw[hx]at e
     induction ob using AO.casesOn with
     |list xs =>
      refine bR e λaU e=>Vu F bY ho hv hx aU ?_;clear ho hv hx
      induction u using AV.casesOn with
      |ref j =>
       refine mG e λfb e=>?_
       induction hr:lS σ j using ae with
       |none=>rw[hr]at e;exact ai e
       |some r=>rw[hr]at e;exact .inl ⟨j,r,rfl,fb,hr,(Y3 e).symm⟩
      |_=>exact .inr (Y3 e).symm
     |_=>exact ai e
  |_=>exact ai e
theorem Wf (F:bb G A Φ sB ah ab T)(bY:ff o 0 ap p=true)(e:cU Φ ρ σ (.rev (ao T o))=some fl):ca G A sB aj ah ab T ρ σ (Z0 (.Expr (.Call (.Attribute o "reverse" ap) [] [] p) pos) ab) fl:=by
 rw[DM]at e
 induction ho:ev Φ σ ρ (ao T o)using ae with
 |none=>rw[ho]at e;exact ai e
 |some ov =>
  rw[ho]at e
  induction ov using AV.casesOn with
  |ref i =>
   dsimp only at e
   induction hx:σ[i]? using ae with
   |none=>rw[hx]at e;exact ai e
   |some ob =>
    rw[hx]at e
    induction ob using AO.casesOn with
    |list xs=>exact bR e λaU e=>aG (Q:=ca G A sB aj ah ab T ρ σ _) e (VC F bY ho hx aU)
    |_=>exact ai e
  |_=>exact ai e
theorem Wc (F:bb G A Φ sB ah ab T)(ha:aE Φ ρ σ (et T mu a)=some fl->ca G A sB aj ah ab T ρ σ (ZN a ab) fl)(hb:aE Φ ρ σ (et T mu b)=some fl->ca G A sB aj ah ab T ρ σ (ZN b ab) fl)(e:cU Φ ρ σ (.ife (ao T c) (et T mu a) (et T mu b))=some fl):ca G A sB aj ah ab T ρ σ (Z0 (.If c a b pos) ab) fl:=by
 rw[so]at e
 induction hc:ev Φ σ ρ (ao T c)using ae with
 |none=>rw[hc]at e;exact ai e
 |some cv =>
  rw[hc]at e
  induction cv using AV.casesOn with
  |bool r =>
   intro s φ β P m S;refine jeJ (((cH F.hO _ c (Y5 _) ab T ρ _ F.hE hc).2 r rfl).post (S.inv F.IB) S.er λak ay aw bd aI=>?_)
   induction r using ZH with
   |true=>rw[if_pos rfl];exact up (ha e ak ay β P m (S.go aw)) λf aC cy=>A7 (bu.go aw) cy
   |false=>rw[if_neg Z1];exact up (hb e ak ay β P m (S.go aw)) λf aC cy=>A7 (bu.go aw) cy
  |_=>exact ai e
theorem Wb (F:bb G A Φ sB ah ab T)(hi:T.own x=some i)(jd:∀ρ σ fl,aE Φ ρ σ (et T mu body)=some fl->ca G A sB aj ah ab T ρ σ (ZN body ab) fl)(e:cU Φ ρ σ (.for_ i (fR (ao T it)) (et T mu body))=some fl):ca G A sB aj ah ab T ρ σ (Z0 (.For (.Name x px) it body [] pos) ab) fl:=by
 rw[DO]at e
 induction b0:lQ Φ ρ σ (fR (ao T it))using ae with
 |none=>rw[b0]at e;exact ai e
 |some vs=>rw[b0]at e;exact Vy F hi b0 (λv ρ σ fl hb=>jd _ _ _ hb) e
theorem We (F:bb G A Φ sB ah ab T)(e:cU Φ ρ σ (.ret (ao T x))=some fl):ca G A sB aj ah ab T ρ σ (Z0 (.Return (some x) pos) ab) fl:=by
 rw[DJ]at e
 induction hv:ev Φ σ ρ (ao T x)using ae with
 |none=>rw[hv]at e;exact ai e
 |some v =>
  rw[hv]at e;refine au (Zs.mp e) λr hr e=>?_;exact e▸VB F hv hr
end
theorem VH (F:bb G A Φ sB ah ab T)(n:Nat):∀(st:Stmt),sizeOf st<n->∀ρ σ fl,cU Φ ρ σ (oT T mu st)=some fl->ca G A sB aj ah ab T ρ σ (Z0 st ab) fl:=by
 induction n with
 |zero=>exact λst cM=>absurd cM (jeE _)
 |succ n ih =>
  have gg:∀{gQ:List Stmt},sizeOf gQ<n->∀ρ σ fl,aE Φ ρ σ (et T mu gQ)=some fl->ca G A sB aj ah ab T ρ σ (ZN gQ ab) fl:=λh ρ σ fl e =>
   HK F (λst hs=>ih st (jam (jbI hs) h)) e
  intro st hn ρ σ fl;have t:=WS T mu st;generalize oT T mu st=x at t;cases t with
  |asg hi=>exact V9 F hi Ws
  |asgT h1 h2 h3=>exact V' F h1 h2 h3
  |unp h1 h2 hnt=>exact Wg F h1 h2 hnt
  |put hi=>exact Wd F hi
  |aug hi=>exact Wa F hi
  |app hm ho=>refine aa hm ?_;exact V8 F ho
  |rev hm ho=>refine aa hm ?_;exact Wf F ho
  |ife=>have h:=ls (Stmt.If.sizeOf_spec ..) hn;exact Wc F (gg (q2 (zr (zr h))) ρ σ fl) (gg (q3 (zr h)) ρ σ fl)
  |for_ hi=>have h:=ls (Stmt.For.sizeOf_spec ..) hn;exact Wb F hi (gg (q3 (zr (zr h))))
  |while_ =>
   have h:=ls (Stmt.While.sizeOf_spec ..) hn;exact λe=>VF F (λρ σ fl hb=>gg (q2 (zr (zr h))) ρ σ fl hb) (by rw[DI]at e;exact e)
  |ret=>exact We F
  |bad=>exact λe=>ai e
theorem VG (F:bb G A Φ sB ah ab T)(n:Nat)(st:Stmt)(h:sizeOf st<=n):∀ρ σ fl,cU Φ ρ σ (oT T mu st)=some fl->ca G A sB aj ah ab T ρ σ (Z0 st ab) fl:=VH F (n+1) st (jfE h)
end
def dy (ps:List Str)(sc:jaB):Tb :=
 { names:=sc.names,vars:=(ps++(eB sc).filter λx=>!ps.contains x).zipIdx,next:=(ps++(eB sc).filter λx=>!ps.contains x).length }
structure eu (fd:jay) (d:dC) (ps:List Str) (body:List Stmt) (mu:List Str):Prop where
 stmts:fd.body=.stmts body
 glob:fd.globals=Zp
 bi:fd.builtins=jae
 clo:fd.closure=[]
 co:fd.scope.isCoroutine=false
 gen:fd.scope.isGenerator=false
 kind:fd.scope.kind=.function
 bind:∀vals:List Value,vals.length=ps.length->jbQ fd ⟨vals,[]⟩=pure (ps.zip vals)
 nargs:d.nargs=ps.length
 nvars:d.nvars=(dy ps fd.scope).next
 tree:d.body=et (dy ps fd.scope) mu body
 tb:oQ (dy ps fd.scope)=true
 nodup:(fd.scope.names.map (·.1)).Nodup
 psNodup:ps.Nodup
 nofree:fd.scope.names.all (λx=>x.2 != .free)=true
 psKind:ps.all (λx=>fd.scope.names.lookup x==some .local||fd.scope.names.lookup x==some .cell)=true
section
theorem AE {names:List (Str×jbd)}(hn:names.all (λx=>x.2 != .free)=true)(h:names.lookup x=some .free):False:=by
 rw[Y6]at hn;have:=hn _ (mem_of_lookup h);simp at this
theorem Cb {K:Str->Option jbd}:∀{ps:List Str}{vals:List Value}{gA:Str->Option Value}{x:Str},x∉ps->bindL K (ps.zip vals) gA x=gA x
 | [],_,_,_,_=>rfl
 |_::_,[],_,_,_=>rfl
 |p::ps,v::vals,gA,x,hx=>by
  rw[jbh];unfold bindL;rw[Cb λq=>hx (Zw _ q)];split
  ·exact if_neg λq=>hx (by rw[q];exact Zf)
  ·rfl
theorem B' {K:Str->Option jbd}:∀{ps:List Str}{vals:List Value}{gA:Str->Option Value}{x:Str},x∉ps->bindC K (ps.zip vals) gA x=gA x
 | [],_,_,_,_=>rfl
 |_::_,[],_,_,_=>rfl
 |p::ps,v::vals,gA,x,hx=>by
  rw[jbh];unfold bindC;rw[B' λq=>hx (Zw _ q)];split
  ·rfl
  ·exact if_neg λq=>hx (by rw[q];exact Zf)
theorem Ca {K:Str->Option jbd}:∀{ps:List Str}{vals:List Value}{gA:Str->Option Value}{x:Str}{i:Nat}{v:Value},ps.Nodup->ps[i]?=some x->vals[i]?=some v->K x=some .local->bindL K (ps.zip vals) gA x=some v
 | [],_,_,_,_,_,_,h,_,_=>by simp at h
 |_::_,[],_,_,_,_,_,_,h,_=>by simp at h
 |p::ps,u::vals,gA,x,i,v,hn,hx,hv,hk=>by
  rw[jaL]at hn;refine aa jbh ?_;unfold bindL
  induction i using jaw with
  |zero =>
   have e1:p=x:=by simpa using hx
   have e2:u=v:=by simpa using hv
   subst e1 e2;refine aa (Cb hn.1) ?_;refine aa (if_pos hk) ?_;simp
  |succ i=>exact Ca hn.2 (by simpa using hx) (by simpa using hv) hk
theorem B9 {K:Str->Option jbd}:∀{ps:List Str}{vals:List Value}{gA:Str->Option Value}{x:Str}{i:Nat}{v:Value},ps.Nodup->ps[i]?=some x->vals[i]?=some v->K x≠some .local->bindC K (ps.zip vals) gA x=some v
 | [],_,_,_,_,_,_,h,_,_=>by simp at h
 |_::_,[],_,_,_,_,_,_,h,_=>by simp at h
 |p::ps,u::vals,gA,x,i,v,hn,hx,hv,hk=>by
  rw[jaL]at hn;refine aa jbh ?_;unfold bindC
  induction i using jaw with
  |zero =>
   have e1:p=x:=by simpa using hx
   have e2:u=v:=by simpa using hv
   subst e1 e2;refine aa (B' hn.1) ?_;refine aa (if_neg hk) ?_;simp
  |succ i=>exact B9 hn.2 (by simpa using hx) (by simpa using hv) hk
theorem II {α:Type}{x:α}{i:Nat}:∀{l:List α}{k:Nat},(x,i)∈l.zipIdx k->k<=i/\l[i-k]?=some x
 | [],_,h=>by simp at h
 |a::l,k,h=>by
  rw[List.zipIdx_cons]at h;rcases ZQ.mp h with h|h
  ·cases h;exact⟨Y5 _,by simp⟩
  ·refine bN (II h) λh1 h2=>?_;refine⟨ZM h1,?_⟩;refine aa (show i-k=(i-(k+1))+1 from ud h1) ?_;simpa using h2
theorem N9 {G:GD}{s:Y4}{fd:jay}{d:dC}{ps:List Str}{body:List Stmt}{a:Ze}{vs:List AV}{xs:List Value}{ak:Y4}{cm:Str->Option Value}(D:eu fd d ps body mu)(I:bh G s.heap)(K:aW φ s)(F:kJ G s P)(hp:∀a,P a->eY G a)(r:ar G.tok φ s.heap [] P vs xs)(aO:vs.length=ps.length)(u:Up s ak)(hm:m=bindL (jbb fd s.heap.objs.size a).kindOf (ps.zip xs) λY=>none)(vk:cm=bindC (jbb fd s.heap.objs.size a).kindOf (ps.zip xs) λY=>none)(x:InCallC s (jbb fd s.heap.objs.size a).locals m (jbb fd s.heap.objs.size a).cells cm ak):
 SR G s φ P (jbb fd s.heap.objs.size a) (dy ps fd.scope) φ (vs.map some++Zh ((dy ps fd.scope).next-ps.length) none) [] [] (fN P s.heap.objs.size ak.heap.objs.size) m ak:=by
 have hL:(jbb fd s.heap.objs.size a).locals=s.heap.objs.size:=rfl;have vw:∀y,(jbb fd s.heap.objs.size a).kindOf y=fd.scope.names.lookup y:=λy=>rfl;have ext:ce s.heap ak.heap:=x.toInCall.keep;have jgA:∀y,fd.scope.names.lookup y=some .cell->∃c,(jbb fd s.heap.objs.size a).cells.lookup y=some c/\ak.heap.IsCell c (cm y)/\s.heap.objs.size<c:=λy hy=>by
  have h2:=jgh fd.scope.names (s.heap.objs.size+1) [] (.inl hy);refine aX (jcy.mp h2) λc hc=>?_;exact li c hc (x.cell y c hc) (x.above y c (mem_of_lookup hc))
 have O9:s.heap.objs.size<ak.heap.objs.size:=by have:=x.toInCall.ns.lt;rw[hL]at this;exact this
 have Yx:ps.length<=(dy ps fd.scope).next:=by
  show _<=(ps++_).length;refine aa Za ?_;exact ZD _ _
 refine⟨x.toInCall.same,λb o Y e=>ext b o e,u.size,λY Y e=>e,?_,?_,Y5 _,λy b h1 h2=>?_,(λb hb=>nomatch hb),jaR,rfl,(λj b o hb=>by simp at hb),λb p=>p.1,I.tabs.keeps ext,λc q=>.inl (iW ext I.tabs c q)⟩
 ·refine⟨x.toInCall.ns,?_,λy i v hy hv=>?_,λy hy=>?_,(λj o ho=>by simp at ho),(λb hb=>hb.elim (λhb=>⟨F b (.inl (Y1 u.size hb)),λq=>ZW.mpr hb q.2⟩) λhb=>⟨F b (.inr (iW ext I.tabs b hb)),λq=>ZW.mpr q.1 (bM.lt I.tabs (iW ext I.tabs b hb))⟩),λb p=>hp b p.1,(λb hb=>?_),(λb hb=>nomatch hb),K.fn,K.pos,λt z e=>bf (K.lt t z e) u.toks,bf K.one u.toks⟩
  ·refine aa Za ?_;refine aa (Y0 _) ?_;refine aa jax ?_;refine aa aO ?_;simp[*]
  ·have hi:i<ps.length:=by
    rcases jca i ps.length with q|q
    ·exact q
    ·rw[Zg (by refine aa (Y0 _) ?_;refine aa aO ?_;exact q),jcL]at hv;split at hv<;>cases hv
   rw[Zt (by refine aa (Y0 _) ?_;refine aa aO ?_;exact hi),ZO]at hv;refine au (Zs.mp hv) λv' QX e=>?_;cases e;refine au (r.get QX) λxv vP rv=>?_;have oz:=II (qW hy);have Fv:ps[i]?=some y:=by
    have:=oz.2;rw[jhl,Zt hi]at this;exact this
   refine aN xv (rv.mono (λY Y e=>e) (λb o p e=>⟨ext b o e,p,λq=>ZW.mpr q.1 (Zu e)⟩) (Zj _)) ?_;rcases Xw hy with q|q|q
   ·refine .inl ⟨(vw y).trans q,?_⟩;refine aa hm ?_;exact Ca D.psNodup Fv vP ((vw y).trans q)
   ·refine fq (jgA y q) λc e1 e2 e3=>?_;refine .inr ⟨c,e1,.inl ((vw y).trans q),?_⟩;have:cm y=some xv:=by
     refine aa vk ?_;exact B9 D.psNodup Fv vP (by refine aa (vw y) ?_;intro z;rw[show fd.scope.names.lookup y=some .cell from q]at z;cases z)
    refine rwj this ?_;exact e2
   ·exact(AE D.nofree q).elim
  ·unfold Tb.celled at hy;rw[jbr]at hy;rcases hy with q|q
   ·refine fq (jgA y (eq_of_beq q)) λc e1 e2 Y=>?_;exact cZ c _ e1 e2
   ·exact(AE D.nofree (eq_of_beq q)).elim
  ·have safe:∀b,s.heap.objs.size<=b->eY G b:=λb hb=>hp b (F b (.inl hb));rcases hb with hb|hb|⟨y,hy⟩
   ·cases hb
   ·refine aa hb ?_;exact safe _ (Y5 _)
   ·exact safe b (ZM (x.above y b (mem_of_lookup hy)))
 ·refine⟨λp=>p.2 ⟨Y5 _,O9⟩,(λq=>nomatch q),λy hy=>?_⟩;refine fq (jgA y hy) λc e1 e2 e3=>?_;exact li c e1 (λp=>p.2 ⟨ZM e3,e2.lt⟩) (λq=>nomatch q)
 ·refine fq (jgA y h1) λc e1 e2 e3=>?_;rw[h2]at e1;cases e1;exact ZM e3
end
section
theorem Md (D:eu fd d ps body mu)(vf:(jbb fd L a).cells.Pairwise λx y=>x.2≠y.2):bQ (jbb fd L a) (dy ps fd.scope) where
 kind:=D.kind
 loc:=λx hx=>hx
 cel:=λx hx=>hx
 fre:=λx hx=>(AE D.nofree hx).elim
 inj:=λx y c hx hy=>name_of_addr vf (mem_of_lookup hx) (mem_of_lookup hy)
 glob:=λx hx=>hx
 g:=D.glob
 b:=D.bi
theorem R6 (D:eu fd d ps body mu)(y:Str×Value)(hy:y∈ps.zip xs):fd.scope.names.lookup y.1=some .local\/fd.scope.names.lookup y.1=some .cell/\((jbJ (L+1) fd.scope.names []).lookup y.1).isSome=true :=
 (Bool.or_eq_true_iff.mp (Y6.mp D.psKind y.1 (List.of_mem_zip hy).1)).elim (λq=>.inl (eq_of_beq q)) λq=>.inr ⟨eq_of_beq q,jgh fd.scope.names _ [] (.inl (eq_of_beq q))⟩
theorem N8 (D:eu fd d ps body mu)(I:bh G s.heap)(hP:∀a,s.heap.objs.size<=a->P a)(hO:fT G A Φ)(hE:bQ (jbb fd L a) (dy ps fd.scope)):bb G A Φ s P (jbb fd L a) (dy ps fd.scope) where
 hO:=hO
 hE:=hE
 hT:=tU D.tb
 IB:=I
 hP₀:=hP
 hI:=by
  unfold jiK;refine aa (show(jbb fd L a).scope.kind=.function from D.kind) ?_;rfl
 hcl:=λy c hc=>(rU (mem_of_lookup hc)).elim (λhm=>nomatch hm) λhm=>by
  show(fd.scope.names.lookup y==_||_)=true;refine aa (lu D.nodup hm) ?_;rfl
def nC (G:GD)(s:Y4)(φ:Gh)(P:Ze->Prop)(r:AV)(fl:jeB)(s':Y4):Prop:=∃x,fl=.ret x/\∃am,GX G s φ s' am/\VR G.tok am s'.heap [] P r x
theorem sw (D:eu fd d ps body mu)(hk:G.fns k=some (x,fd))(sW:A.depth<jdi)(hO:∀ab,fT G (A.deeper ab) Φ)(hl:vs.length=ps.length)(l0:∀L fa s φ P P' m ak,bb G (A.deeper (jbb fd L fa)) Φ s P (jbb fd L fa) (dy ps fd.scope)->SR G s φ P (jbb fd L fa) (dy ps fd.scope) φ (vs.map some++Zh ((dy ps fd.scope).next-ps.length) none) [] [] P' m ak ->
 Y' (Zb af wd) (A.deeper (jbb fd L fa)) (ZN body (jbb fd L fa)) (nC G s φ P r) ax ak) (ha:G.mg x=some (.ref a)):kF G A (.ref a) vs r:=by
 intro s φ P xs I K F hp rv;refine n4 (I.fns k x fd hk) λa' o h1 h2 h3 h4=>?_;have e:=jdG (Y3 (h1.symm.trans ha));subst e;refine wpAny_call (jit sW h2 h3 D.co D.gen D.stmts h4 ?_);refine aa (D.bind xs (rv.length.symm.trans hl)) ?_;refine aa D.clo ?_;refine Zx (eF (wpAny_newFunctionEnv_cells D.kind (R6 D) λab he ak wJ u=>?_));replace he:ab=jbb fd s.heap.objs.size a':=he;subst he;refine⟨I.lim.keeps wJ.toInCall.keep,codeAny_func (up (l0 _ _ s φ P _ _ ak (N8 D I F.f (hO _) (Md D wJ.apart)) (N9 (mu:=mu) D I K F hp rv hl u rfl rfl wJ)) λf aC cy=>?_)⟩;obtain⟨y,rfl,aV,OX,bI⟩:=cy;exact⟨aV,OX,bI⟩
theorem N' (D:eu fd d ps body mu)(hk:G.fns k=some (x,fd))(sW:A.depth<jdi)(hO:∀ab,fT G (A.deeper ab) Φ)(e:oN Φ d vs=some r)(ha:G.mg x=some (.ref a)):kF G A (.ref a) vs r:=by
 refine bR e λaO e=>?_;have Qa:vs.length=ps.length:=aO.trans D.nargs;refine sw D hk sW hO Qa (λL fa s φ P P' m ak FC S=>?_) ha;have fv:d.nvars-d.nargs=(dy ps fd.scope).next-ps.length:=by rw[D.nvars,D.nargs]
 rw[fv,D.tree]at e
 induction hv:aE Φ (vs.map some++Zh ((dy ps fd.scope).next-ps.length) none) [] (et (dy ps fd.scope) mu body)using ae with
 |none=>rw[hv]at e;exact ai e
 |some fl =>
  rw[hv]at e
  induction fl using Fl.casesOn with
  |next=>exact ai e
  |ret v=>exact aG (Q:=λr=>Y' _ _ _ (nC G s φ P r) _ _) e (HK FC (mu:=mu) (λst Y ρ σ fl e=>VG FC _ st (Y5 _) ρ σ fl e) hv ak φ [] _ _ S)
structure dQ (A:ZV) (n:Nat):Prop where
 handled:A.handled=none
 depth:A.depth+n<jdi
 units:A.units+3*n<jhg
theorem dQ.deeper (D:dQ A (n+1))(ab:Env):dQ (A.deeper ab) n where
 handled:=D.handled
 depth:=by
  have:=D.depth;show A.depth+1+n<jdi;exact XS this
 units:=by
  have:=D.units;show A.units+3+3*n<jhg
  lia
theorem dQ.le (D:dQ A n)(h:k<=n):dQ A k:=⟨D.handled,Zz (jdF h _) D.depth,by have:=D.units;lia⟩
theorem KG (hG:dD G)(hN:gE G)(c:Nat)(zi:∀k d,fns k=some d->∃x fd ps body mu,G.fns k=some (x,fd)/\eu fd d ps body mu)(Qs:∀A,dQ A c->∀k vs r,fns k=none->gb k vs=some r->∃x fd,G.fns k=some (x,fd)/\∀a,G.mg x=some (.ref a)->kF G A (.ref a) vs r):
 ∀(n:Nat) (A:ZV),dQ A (n+c)->uh G A (nP gb fns n):=by
 intro n
 induction n with
 |zero=>exact λA D k vs r e=>ai e
 |succ n ih =>
  intro A D k vs r e;replace e:(match fns k with|some d=>oN (nP gb fns n) d vs|none=>gb k vs)=some r:=e
  induction hd:fns k using ae with
  |none=>rw[hd]at e;exact Qs A (D.le (jcg ..)) k vs r hd e
  |some d =>
   rw[hd]at e;refine Nk (zi k d hd) λx fd ps body mu h1 h2=>?_;refine cZ x fd h1 (λa ha=>N' h2 h1 (by have:=D.depth;exact qZ this) (λab=>?_) e ha);have D':dQ (A.deeper ab) (n+c):=dQ.deeper (by refine aa (show n+c+1=n+1+c from jfk (jdU n 1 c)) ?_;exact D) ab;exact⟨D'.handled,by have:=D'.units;exact qZ this,hG,hN,ih _ D'⟩
end
section
def lF (G:GD)(σ:aA)(β:List Ze)(b:Ze):Prop:=(∀j:Nat,β[j]?=some b->σ[j]?=some .gone)/\¬G.X b
structure o6 (T:Tb) (sc:jaB):Prop where
 names:T.names=sc.names
 nocell:∀x∈sc.names,x.2≠.cell
 kind:sc.kind=.function
 tb:jx T
theorem wh {sc:jaB}(h:∀x∈sc.names,x.2≠.cell)(e:sc.names.lookup x=some .cell):False:=h _ (mem_of_lookup e) rfl
def jk (sc:jaB)(L:Ze)(cg:List (Str×Ze))(qual:Str)(f:Ze)(code:Value):Env:=newEnv sc L Zp cg qual (some f) code none jae
theorem Mf {sc:jaB}{L f:Ze}{cg:List (Str×Ze)}{qual:Str}{code:Value}(I:o6 T sc)(P1:∀x y c,cg.lookup x=some c->cg.lookup y=some c->x=y):bQ (jk sc L cg qual f code) T where
 kind:=I.kind
 loc:=λx hx=>by rw[I.names]at hx;exact hx
 cel:=λx hx=>by rw[I.names]at hx;exact hx
 fre:=λx hx=>.inr (by rw[I.names]at hx;exact hx)
 inj:=P1
 glob:=λx hx=>by rw[I.names]at hx;exact hx
 g:=rfl
 b:=rfl
theorem SR.calmCell (S:SR G sB aj ah ab T φ ρ σ β P m s)(hc:s.heap.IsCell c v):lF G σ β c:=by
 refine⟨λj hj=>?_,S.tabs.1.notX_cell hc⟩;have hl:j<σ.length:=by refine rwj S.lenB ?_;exact(ZA.mp hj).1
 induction ho:σ[j]? using ae with
 |none=>rw[Zc hl]at ho;cases ho
 |some o =>
  by_cases hg:o=.gone
  ·refine aa hg ?_;rfl
  ·exfalso;refine au (S.er.objs j o ho hg) λa h1 h2=>?_;rw[hj]at h1;cases h1;refine au hc λob kl hd=>?_;cases h2 with
   |list e _ =>
    refine au (Gu e) λG5 e1 e2=>?_;rw[kl]at e1;cases e1;exact e2 v hd
   |dict e _ _ =>
    refine au (CW e) λG5 e1 e2=>?_;rw[kl]at e1;cases e1;exact e2 v hd
theorem SR.enter {G:GD}{s:Y4}{h':jak}{T':Tb}{sc:jaB}{av:aB}{cg:List (Str×Ze)}{qual:Str}{code:Value}{f:Ze}{binds:List (Str×Value)}{t:Tok}(S:SR G sB aj ah ab T φ ρ σ β P m s)(I:o6 T' sc)(iL:h'.Ns s.heap.objs.size (λx=>binds.reverse.lookup x))(m6:Z6 s.heap.objs.size (s.heap.push { cls:=.type "frame",data:=.dict #[] }) h') (ht:s.toks<=t) (aO:av.length=T'.next) (hn:∀x i v,T'.var x=some i->av[i]?=some (some v)->∃v',VR G.tok φ s.heap β P v v'/\((sc.names.lookup x=some .local/\binds.reverse.lookup x=some v')\/(sc.names.lookup x=some .free/\∃c,cg.lookup x=some c/\s.heap.IsCell c (some v')))) (zf:∀x,sc.names.lookup x=some .free->∃c v,cg.lookup x=some c/\s.heap.IsCell c v) (zL:∀x c,cg.lookup x=some c->eY G c):
 SR G sB aj ah (jk sc s.heap.objs.size cg qual f code) T' φ av σ β (fN P s.heap.objs.size h'.objs.size) (λx=>binds.reverse.lookup x) { s with heap:=h',toks:=t }:=by
 have R:=S.er;have hz:h'.objs.size=s.heap.objs.size+1:=by refine aa m6.1 ?_;refine aa (ZP _ _) ?_;rfl
 have ext:ce s.heap h':=λb o e=>m6.extBut b o (jaE (Zu e)) (Zd _ e);have hk:∀a o,P a->s.heap.get? a=some o->h'.get? a=some o/\fN P s.heap.objs.size h'.objs.size a:=λa o p e=>⟨ext a o e,p,λq=>ZW.mpr q.1 (Zu e)⟩
 have safe:∀b,s.heap.objs.size<=b->eY G b:=λb hb=>R.psafe b (R.fresh b hb);have hL:s.heap.objs.size<h'.objs.size:=by refine aa hz ?_;exact jaj _
 refine dW S.base λhh tt e=>?_;refine⟨⟨h',t,by refine aa e ?_;rfl⟩,λb o hb e=>ext b o (S.old b o hb e),Y1 S.size (ZM hL),S.sub,?_,?_,S.size,λx b h1 Y=>?_,S.newB,S.nodup,S.lenB,λj a o h1 h2 h3 p=>S.live j a o h1 h2 h3 p.1,λa p=>S.psub a p.1,S.tabs.1.keeps ext,λc q=>S.tabs.2 c (iW ext S.tabs.1 c q)⟩
 ·refine⟨iL,aO,λx i v hx hv=>?_,λx hx=>?_,λj o hj ho=>?_,λb hb=>?_,λb p=>R.psafe b p.1,λb hb=>?_,λb hb=>jam (R.blt b hb) hL,R.tk.fn,R.tk.pos,λt' x e=>bf (R.tk.lt t' x e) ht,bf R.tk.one ht⟩
  ·refine au (hn x i v hx hv) λv' r q=>?_;refine aN v' (r.mono (λY Y e=>e) hk (Zj _)) ?_;rcases q with⟨q1,q2⟩|⟨q1,c,q2,q3⟩
   ·exact .inl ⟨q1,q2⟩
   ·exact .inr ⟨c,q2,.inr q1,q3.keeps ext⟩
  ·unfold Tb.celled at hx;rw[I.names,jbr]at hx;rcases hx with hx|hx
   ·exact(wh I.nocell (eq_of_beq hx)).elim
   ·refine bB (zf x (eq_of_beq hx)) λc v h1 h2=>?_;exact cZ c v h1 (h2.keeps ext)
  ·refine au (R.objs j o hj ho) λa h1 h2=>?_;exact aN a h1 (h2.mono (λY Y e=>e) hk (Zj _) λo e=>ext a o e)
  ·rcases hb with hb|hb
   ·exact⟨R.fresh b (Y1 (ZM hL) hb),λq=>ZW.mpr hb q.2⟩
   ·have:=iW ext S.tabs.1 b hb;exact⟨R.freshX b (.inr this),λq=>ZW.mpr q.1 (bM.lt S.tabs.1 this)⟩
  ·rcases hb with hb|hb|⟨x,hx⟩
   ·exact R.bsafe b (.inl hb)
   ·refine aa hb ?_;exact safe _ (Y5 _)
   ·exact zL x b hx
 ·refine⟨λp=>p.2 ⟨Y5 _,hL⟩,λq=>Zr _ (R.blt _ q),λx hx=>?_⟩;rw[I.names]at hx;exact(wh I.nocell hx).elim
 ·rw[I.names]at h1;exact(wh I.nocell h1).elim
theorem SR.back {s:Y4}{sc:jaB}{T':Tb}{cg:List (Str×Ze)}{qual:Str}{code:Value}{f:Ze}{dh:Str->Option Value}{ak aC:Y4}{aV:Gh}{o0:aB}{ck:Ze->Prop}(S:SR G sB aj ah ab T φ ρ σ β P m s)(I:o6 T' sc)(vo:ce s.heap ak.heap)(be:s.heap.objs.size<=ak.heap.objs.size)(mX:∃h t,ak={ s with heap:=h,toks:=t })(br:SR G sB aj ah (jk sc s.heap.objs.size cg qual f code) T' aV o0 an aH ck dh aC)(C:bu G (jk sc s.heap.objs.size cg qual f code) T' ak φ σ β (fN P s.heap.objs.size ak.heap.objs.size) aC aV an aH ck):
 SR G sB aj ah ab T aV ρ an aH ck m aC/\bu G ab T s φ σ β P aC aV an aH ck/\∀b o,lF G σ β b->s.heap.get? b=some o->aC.heap.get? b=some o:=by
 have R:=S.er;have bW:=br.er;have still:∀b,b<s.heap.objs.size->lF G σ β b->ph G (jk sc s.heap.objs.size cg qual f code) T' σ β b:=λb hb hc=>⟨λq=>by
  rcases q with q|⟨y,h1,_⟩|q
  ·exact Zr s.heap.objs.size (by have q':b=s.heap.objs.size:=q;rw[q']at hb;exact hb)
  ·rw[I.names]at h1;exact wh I.nocell h1
  ·exact hc.2 q,hc.1⟩
 have keep:∀b o,lF G σ β b->s.heap.get? b=some o->aC.heap.get? b=some o:=λb o hc e=>C.keep b o (still b (Zu e) hc) (vo b o e);have KH:∀b,b∉β->¬G.X b->lF G σ β b:=λb h1 h2=>⟨λj hj=>absurd (ZG hj) h1,h2⟩
 have KI:∀a,P a->lF G σ β a:=λa p=>⟨(S.stillP p).2,(R.psafe a p).2⟩
 have hk:∀a o,P a->s.heap.get? a=some o->aC.heap.get? a=some o/\ck a:=λa o p e=>⟨keep a o (KI a p) e,C.pm a ⟨p,λq=>ZW.mpr q.1 (Zu e)⟩ (bf (Zu e) be)⟩
 have G3:∀a,a<s.heap.objs.size->a∉β->¬P a->¬ck a:=λa hl hb hp p=>(C.pn a (bf hl be) p).elim (λq=>hp q.1) hb;have G2:∀a,a<s.heap.objs.size->a∉β->a∉aH:=λa hl hb q=>hb (C.bn a q (bf hl be));refine cz ({ br with er:=?_,fr:=?_,newL:=S.newL,newC:=S.newC }) ?_ keep
 ·have P9:=R.bsafe _ (.inr (.inl rfl));refine⟨R.ns.at' λo e=>keep _ o (KH _ S.fr.bloc P9.2) e,R.len,λx i v hx hv=>?_,λx hx=>?_,bW.objs,bW.freshX,bW.psafe,λa ha=>?_,bW.blt,bW.tk⟩
  ·refine au (R.names x i v hx hv) λv' r q=>?_;refine aN v' (r.mono C.sub hk C.pre) ?_;rcases q with q|⟨c,q1,q2,o,ho,hd⟩
   ·exact .inl q
   ·refine .inr ⟨c,q1,q2,o,keep c o (S.calmCell ⟨o,ho,hd⟩) ho,hd⟩
  ·obtain⟨c,dk,h1,o,ho,hd⟩:=R.celled x hx;refine⟨c,dk,h1,o,keep c o (S.calmCell ⟨o,ho,hd⟩) ho,hd⟩
  ·rcases ha with ha|ha
   ·exact bW.bsafe a (.inl ha)
   ·exact R.bsafe a (.inr ha)
 ·refine⟨G3 _ R.ns.lt S.fr.bloc S.fr.ploc,G2 _ R.ns.lt S.fr.bloc,λx hx=>?_⟩;refine fq (S.fr.own x hx) λc e1 e2 e3=>?_;refine bB (R.celled x (by unfold Tb.celled;refine aa hx ?_;rfl)) λc' dk e4 e5=>?_;rw[e1]at e4;cases e4;exact li c e1 (G3 c e5.lt e3 e2) (G2 c e5.lt e3)
 ·refine⟨λb o hb e=>keep b o ⟨hb.2,λq=>hb.1 (.inr (.inr q))⟩ e,λb hl hb=>⟨hb.1,(C.still b (bf hl be) (still b hl ⟨hb.2,λq=>hb.1 (.inr (.inr q))⟩)).2⟩,λa p hl=>C.pm a ⟨p,λq=>ZW.mpr q.1 hl⟩ (bf hl be),C.sub,C.pre,Y1 be C.size,λa hl p=>(C.pn a (bf hl be) p).imp (·.1) id,λa hb hl=>C.bn a hb (bf hl be)⟩
end
section
def n9:jeB->Value
 | .ret v=>v
 |_=>.none
theorem Tt {A:ZV}{av:aB}{G:GD}{s sB:Y4}{T':Tb}{sc:jaB}{cg:List (Str×Ze)}{f:Ze}{o:Obj}{fd:jay}{body:List Stmt}{xs:List Value}{binds:List (Str×Value)}{K:Value->Gh->List Ze->(Ze->Prop)->Y4->Prop}(IB:bh G sB.heap)(S:SR G sB aj ah ab T φ ρ σ β P m s)(I:o6 T' sc)(ho:s.heap.get? f=some o)(hd:o.data=.func fd)(sM:s.heap.CodeRec fd.code fd.qualname)(jd:fd.body=.stmts body)(fJ:fd.scope=sc)(PV:fd.globals=Zp)(zb:fd.builtins=jae)(hcl:fd.closure=cg)(zg:fd.scope.isCoroutine=false)(jJ:fd.scope.isGenerator=false)(sW:A.depth<jdi)(jc:jbQ fd ⟨xs,[]⟩=pure binds)(ze:∀x∈binds,sc.names.lookup x.1=some .local)(aO:av.length=T'.next)(hn:∀x i v,T'.var x=some i->av[i]?=some (some v)->∃v',VR G.tok φ s.heap β P v v'/\((sc.names.lookup x=some .local/\binds.reverse.lookup x=some v')\/(sc.names.lookup x=some .free/\∃c,cg.lookup x=some c/\s.heap.IsCell c (some v'))))(zf:∀x,sc.names.lookup x=some .free->∃c v,cg.lookup x=some c/\s.heap.IsCell c v)(zL:∀x c,cg.lookup x=some c->eY G c)(l0:∀h' t da,ce s.heap h'->SR G sB aj ah (jk sc s.heap.objs.size cg (fd.qualname ++ ".<locals>.") f fd.code) T' φ av σ β (fN P s.heap.objs.size h'.objs.size) da { s with heap:=h',toks:=t } ->
 Y' (Zb af wd) (A.deeper (jk sc s.heap.objs.size cg (fd.qualname ++ ".<locals>.") f fd.code)) (ZN body (jk sc s.heap.objs.size cg (fd.qualname ++ ".<locals>.") f fd.code))
  (λfl aC=>∃aV o0 dm ck dh,SR G sB aj ah (jk sc s.heap.objs.size cg (fd.qualname ++ ".<locals>.") f fd.code) T' aV o0 an dm ck dh aC /\
   bu G (jk sc s.heap.objs.size cg (fd.qualname ++ ".<locals>.") f fd.code) T' { s with heap:=h',toks:=t } φ σ β (fN P s.heap.objs.size h'.objs.size) aC aV an dm ck/\K (n9 fl) aV dm ck aC) ax { s with heap:=h',toks:=t }):
 Y' (Zb af wd) A (call (.ref f) xs) (λv aC=>∃aV dm ck,SR G sB aj ah ab T aV ρ an dm ck m aC/\bu G ab T s φ σ β P aC aV an dm ck/\(∀b o,lF G σ β b->s.heap.get? b=some o->aC.heap.get? b=some o)/\K v aV dm ck aC) ax s:=by
 subst fJ hcl;refine wpAny_call (jit sW ho hd zg jJ jd sM ?_);refine aa jc ?_;refine Zx (eF (wpAny_newFunctionEnv I.nocell ze (λh' iL m6 u=>?_) I.kind));have ext:ce s.heap h':=λb o e=>m6.extBut b o (jaE (Zu e)) (Zd _ e);refine⟨(S.inv IB).lim.keeps ext,codeAny_func ?_⟩;refine aa PV ?_;refine aa zb ?_;have aM:=S.enter (f:=f) (qual:=fd.qualname ++ ".<locals>.") (code:=fd.code) (cg:=fd.closure) (t:=s.toks+binds.length) I iL m6 (ZD _ _) aO hn zf zL;refine up (l0 h' _ _ ext aM) λfl aC qq=>sm qq λaV o0 dm ck dh br C k=>?_;refine fY (S.back I ext u.size ⟨h',_,rfl⟩ br C) λey dp keep=>?_;have e:(match fl with | .ret v=>v|_=>Value.none)=n9 fl:=by cases fl<;>rfl
 show∃aV dm ck,_;exact vV aV dm ck ey dp keep k
end
section
theorem SR.cellSet (S:SR G sB aj ah ab T φ ρ σ β P m s)(hE:bQ ab T)(hk:T.names.lookup name=some .cell)(hc:ab.cells.lookup name=some c)(hx:∀i v,T.var name=some i->ρ[i]?=some (some v)->False)(h0:s.heap.IsCell c dk)(hs:Z6 c s.heap h')(h1:h'.IsCell c oX):SR G sB aj ah ab T φ ρ σ β P m { s with heap:=h' }:=by
 have R:=S.er;refine fq (S.fr.own name hk) λc' e1 hP s4=>?_;rw[hc]at e1;cases e1;have hX:¬G.X c:=(R.bsafe c (.inr (.inr ⟨name,hc⟩))).2;have TT:=S.tabs.1.but (λb o hb e=>hs.extBut b o hb e) hX λq=>hP (R.freshX c (.inr q));have sP:∀a o,P a->s.heap.get? a=some o->h'.get? a=some o/\P a:=λa o p e=>⟨hs.extBut a o (λq=>hP (q▸p)) e,p⟩
 have hz:h'.objs.size=s.heap.objs.size:=hs.1;refine dW S.base λhh tt e=>?_;refine{ S with base:=jP h' s.toks (by refine aa e ?_;rfl),old:=λb o hb e=>hs.extBut b o (sC (S.newC name c hk hc) e) (S.old b o hb e),size:=Y1 S.size (ZK hz.symm),er:=?_,tabs:=⟨TT.1,λc q=>S.tabs.2 c (TT.2 c q)⟩ };refine⟨R.ns.sameBut hs (rT R.ns h0),R.len,λy j u hy hj=>?_,λy hy=>?_,λj o hj ho=>?_,λb hb=>R.freshX b (hb.imp (λhb=>by refine rwj hz ?_;exact hb) (TT.2 b)),R.psafe,R.bsafe,λb hb=>by show b<h'.objs.size;refine aa hz ?_;exact R.blt b hb,R.tk.fn,R.tk.pos,R.tk.lt,R.tk.one⟩
 ·refine au (R.names y j u hy hj) λv' r q=>?_;refine aN v' (r.mono (λY Y e=>e) sP (Zj _)) ?_;rcases q with q|⟨g7,q1,q2,q3⟩
  ·exact .inl q
  ·refine .inr ⟨g7,q1,q2,q3.sameBut hs λz=>?_⟩;subst z;have:=hE.inj y name g7 q1 hc;subst this;exact hx j u hy hj
 ·refine bB (R.celled y hy) λg7 v q1 q2=>?_;by_cases z:g7=c
  ·subst z;exact cZ g7 oX q1 h1
  ·exact cZ g7 v q1 (q2.sameBut hs z)
 ·refine au (R.objs j o hj ho) λa q1 q2=>?_;exact aN a q1 (q2.mono (λY Y e=>e) sP (Zj _) λo e=>hs.extBut a o (λz=>s4 (z▸ZG q1)) e)
theorem LB (IB:bh G sB.heap)(S:SR G sB aj ah ab T φ ρ σ β P m s)(hE:bQ ab T)(kn:t∈G.tabs)(hu:∀t'∈G.tabs,t'.2.1=t.2.1->t'=t)(mY:ab.code=.ref t.1)(km:t.2.2.1=pos)(hq:jeg ab name name=t.2.2.2)(k9:params.defaults=[])(zq:params.kw_defaults=[])(ha:jhi params none ab=[])(hcl:jcU sc ab=pure cg)(hk:T.names.lookup name=some .cell)(hc:ab.cells.lookup name=some c)(hx:∀i v,T.var name=some i->ρ[i]?=some (some v)->False)(hQ:∀(f:Ze) (s':Y4) (bZ bG pm:Value) (c':Ze),SR G sB aj ah ab T φ ρ σ β P m s'->s.heap.objs.size<=f->P f->s'.heap.get? f=some (jia name t.2.2.2 params body sc cg bG pm c' bZ)->s'.heap.CodeRec (.ref c') t.2.2.2->s'.heap.IsCell c (some (.ref f))->Q .next s'):
 Y' (Zb af wd) A (Z0 (.FunctionDef name params body [] none [] sc none name pos) ab) Q E s:=by
 have I:=S.inv IB;refine nestDef_K k9 zq ha ?_;refine aa hq ?_;refine pZ I.bmain λbm ob b1 b2 b3 b4 b5 b6=>?_;have Pm:bm≠Zp:=λq=>by
  refine ka I.g λo es ep e hd Y=>?_;rw[q,e]at b3;cases b3;rw[hd]at b6;cases b6
 have vd:G.X t.2.1:=⟨t,kn,rfl⟩
 have zn:Zp≠t.2.1:=λq=>I.tabs.notX_ns I.g (q▸vd);have Pn:bm≠t.2.1:=λq=>I.tabs.notX_data b3 (λvs z=>by rw[b6]at z;cases z) (q▸vd);have hB:s.heap.BuiltinsAt G.mg t.2.1:=⟨bm,ob,b1,b2,Pm,Pn,b3,b4,b5,b6⟩
 have fin:∀(aY:jak) (tk:Tok) (bZ bG:Value) (c':Ze),GX G s φ { s with heap:=aY.push (jia name t.2.2.2 params body sc cg bG ((G.mg "__name__").getD .none) c' bZ),toks:=tk } φ->s.heap.objs.size<=aY.objs.size->aY.CodeRec (.ref c') t.2.2.2 ->
  Y' (Zb af wd) A (jdw ab name (.ref aY.objs.size)) (λY cO=>Q .next cO) E { s with heap:=aY.push (jia name t.2.2.2 params body sc cg bG ((G.mg "__name__").getD .none) c' bZ),toks:=tk }:=λaY tk bZ bG c' k be lb=>by
  have aM:=S.go k;refine bB (aM.er.celled name (by unfold Tb.celled;refine aa hk ?_;rfl)) λg7 dk e1 e2=>?_;rw[hc]at e1;cases e1;refine jiC hE.kind (hE.cel name hk) hc e2 λh' gN ej=>?_;have PJ:aY.objs.size≠c:=λq=>by
   refine au e2 λo ho hd=>?_;have:=ZZ (o:=jia name t.2.2.2 params body sc cg bG ((G.mg "__name__").getD .none) c' bZ) aY rfl;rw[q]at this;rw[show({ s with heap:=aY.push (jia name t.2.2.2 params body sc cg bG ((G.mg "__name__").getD .none) c' bZ),toks:=tk }:Y4).heap.get? c=_ from this]at ho;cases ho;cases hd
  have mY:h'.CodeRec (.ref c') t.2.2.2:=by
   refine qa lb λCE oc vs tt e3 e4 e5 e6=>?_;cases e3;refine⟨c',oc,vs,tt,rfl,ej.extBut c' oc (λq=>?_) (Zd _ e4),e5,e6⟩;refine au e2 λo ho hd=>?_;rw[<-q]at ho;rw[show({ s with heap:=aY.push (jia name t.2.2.2 params body sc cg bG ((G.mg "__name__").getD .none) c' bZ),toks:=tk }:Y4).heap.get? c'=_ from Zd _ e4]at ho;cases ho;rw[e5]at hd;cases hd
  have br:=aM.cellSet hE hk hc hx e2 ej gN;exact hQ _ _ bZ bG _ c' br be (S.er.fresh _ be) (ej.extBut _ _ PJ (ZZ aY rfl)) mY gN
 rcases I.tabs t kn with hP|⟨g7,hP,sM⟩
 ·refine eF (makeFunction_K (mg:=G.mg) (P:=t.2.1) hcl hE.g I.g mY (I.heads t kn) hP trivial rfl zn hB λc' bZ bG aY tk fe lX a0 lb Pb u=>?_);refine fin aY tk bZ bG c' ?_ ?_ lb
  ·have be:s.heap.objs.size<=aY.objs.size:=Y1 lX (ZM a0);have EB:aY.get? t.2.1=some (qi t c'):=by
    subst km;simpa using Pb
   refine⟨⟨⟨_,_,rfl,λb o hb e=>Zd _ (fe b o (λq=>hb (q▸vd)) e)⟩,u.size⟩,λY Y e=>e,⟨S.er.tk.fn,S.er.tk.pos,λt' x e=>bf (S.er.tk.lt t' x e) u.toks,bf S.er.tk.one u.toks⟩,λY=>⟨λt' eT=>?_,λd ⟨t',eT,e⟩=>?_⟩⟩
   ·by_cases q:t'.2.1=t.2.1
    ·have:=hu t' eT q;subst this;exact .inr ⟨c',Zd _ EB,lb.push _⟩
    ·rcases I.tabs t' eT with z|⟨d,z,d',o,vs,tt,z1,z2,z3⟩
     ·exact .inl (Zd _ (fe _ _ q z))
     ·cases z1;have cV:d≠t.2.1:=λr=>I.tabs.notX_code (q:=t'.2.2.2) ⟨d,o,vs,tt,rfl,z2,z3⟩ (r▸vd);exact .inr ⟨d,Zd _ (fe _ _ q z),d,o,vs,tt,rfl,Zd _ (fe _ _ cV z2),z3⟩
   ·by_cases q:t'.2.1=t.2.1
    ·have:=hu t' eT q;subst this;have e1:some (qi t' c')=some (qi t' d):=(Zd _ EB).symm.trans e;have:c'=d:=by
      have:=congrArg (λo:Option Obj=>o.map (·.data)) e1;simpa using this
     subst this;exact .inr lX
    ·refine .inl ⟨t',eT,?_⟩;rcases I.tabs t' eT with z|⟨d',z,_⟩
     ·have:=(Zd _ (fe _ _ q z)).symm.trans e;refine aa z ?_;refine rwj this ?_;rfl
     ·have:=(Zd _ (fe _ _ q z)).symm.trans e;refine aa z ?_;refine rwj this ?_;rfl
  ·exact Y1 lX (ZM a0)
 ·refine eF (makeFunction_hit (mg:=G.mg) (P:=t.2.1) (cv:=.ref g7) hcl hE.g I.g mY (I.heads t kn) hP (by simp[TriplesOk,jef]) ?_ hB λbZ bG aY tk fe be u=>?_)
  ·subst km;simp[codeAmong,jef]
  ·refine fin aY tk bZ bG g7 (GX.same S.er.tk ⟨⟨_,_,rfl,λb o e=>Zd _ (fe b o e)⟩,u.size⟩ u.toks) be (sM.keeps fe)
end
def cB (n:Int)(ds:List Int):Int:=ds.foldr (λd acc=>d+acc*2^n.toNat) 0
theorem CG (n:Int):∀(as bs:List Int),cB n (as++bs)=cB n as+cB n bs*2^(n.toNat*as.length)
 | [],bs=>by simp[cB]
 |a::as,bs=>by
  have ih:=CG n as bs;unfold cB at ih ⊢;rw[jdf,jiS,jiS,ih,Zo,Int.add_mul,Int.add_assoc,Int.mul_assoc,<-Int.pow_add,jdI]
theorem CI (hn:n.toNat<=64):∀(ds:List Int),(∀d∈ds,d.natAbs<2^64)->(cB n ds).natAbs<2^(65*(ds.length+1))
 | [],_=>by show(0:Int).natAbs<_;exact jaC _
 |d::ds,h=>by
  have ih:=CI hn ds λx hx=>h x (Zw _ hx);have h1:=h d Zf;have e:cB n (d::ds)=d+cB n ds*2^n.toNat:=rfl;rw[e];have h2:(cB n ds*2^n.toNat).natAbs=(cB n ds).natAbs*2^n.toNat:=by
   rw[Int.natAbs_mul,Int.natAbs_pow];rfl
  have h3:(2:Nat)^n.toNat<=2^64:=Zl (by decide) hn;have h4:(cB n ds).natAbs*2^n.toNat<=2^(65*(ds.length+1))*2^64:=jbk (ZM ih) h3;have h5:(2:Nat)^(65*((d::ds).length+1))=2^(65*(ds.length+1))*2^64+2^(65*(ds.length+1))*2^64:=by
   rw[Zo,show 65*(ds.length+1+1)=65*(ds.length+1)+65 from rfl,jed,show(2:Nat)^65=2^64+2^64 by decide,jfW]
  have h6:(2:Nat)^64<=2^(65*(ds.length+1))*2^64:=Nat.le_mul_of_pos_left _ (jaC _);have:=Int.natAbs_add_le d (cB n ds*2^n.toNat);rw[h2]at this;rw[h5];exact Zz this (Nat.add_lt_add_of_lt_of_le (bf h1 h6) h4)
theorem ag (h:ρ[i]?=some (some v)):ev Φ σ ρ (.var i)=some v:=by rw[Dw,h]
theorem bK:ev Φ σ ρ (.c (.int i))=some (.int i):=rfl
theorem cK (h1:ev Φ σ ρ a=some x)(h2:ev Φ σ ρ b=some y)(h:j4 σ op x y=some c):ev Φ σ ρ (.cmp op a b)=some (.bool c):=by
 rewrite [Dy];refine aa h1 ?_;dsimp only;refine aa h2 ?_;simp only[h];rfl
theorem cb (h1:ev Φ σ ρ a=some x)(h2:ev Φ σ ρ b=some y)(h:dE σ op x y=some z):ev Φ σ ρ (.bin op a b)=some z:=by
 rewrite [Dx];refine aa h1 ?_;dsimp only;refine aa h2 ?_;exact h
theorem cT (h1:ev Φ σ ρ a=some x):bX Φ σ ρ (.cons a .nil)=some [x]:=by
 rw[mM,h1];rfl
theorem dL (h1:ev Φ σ ρ a=some x)(h2:ev Φ σ ρ b=some y):bX Φ σ ρ (.cons a (.cons b .nil))=some [x,y]:=by
 rw[mM,h1];dsimp only;rw[cT h2]
theorem gJ (h1:ev Φ σ ρ a=some x)(h2:ev Φ σ ρ b=some y)(h3:ev Φ σ ρ c=some z):bX Φ σ ρ (.cons a (.cons b (.cons c .nil)))=some [x,y,z]:=by
 rw[mM,h1];dsimp only;rw[dL h2 h3]
theorem mJ (h1:ev Φ σ ρ a=some x)(h2:ev Φ σ ρ i=some y)(h:m8 σ x y=some z):ev Φ σ ρ (.idx a i)=some z:=by
 rewrite [Dv];refine aa h1 ?_;dsimp only;refine aa h2 ?_;exact h
def CF:List (Str×jbd):=[("L",.local),("R",.local),("mid",.local),("shift",.local),("digits",.free),("inner",.free),("n",.free)]
def j6:Tb:={ names:=CF,vars:=[("L",0),("R",1),("mid",2),("shift",3),("digits",4),("n",5)],next:=6 }
def rV (p:Nat->Pos):List Stmt :=
 [.If (.Compare (.BinOp (.Name "L" (p 0)) .Add (.Constant (.int 1) 0 (p 1)) (p 2)) [.Eq] [.Name "R" (p 3)] (p 4)) [.Return (some (.Subscript (.Name "digits" (p 5)) (.Name "L" (p 6)) (p 7))) (p 8)] [] (p 9),
  .Assign [.Name "mid" (p 10)] (.BinOp (.BinOp (.Name "L" (p 11)) .Add (.Name "R" (p 12)) (p 13)) .RShift (.Constant (.int 1) 0 (p 14)) (p 15)) (p 16),
  .Assign [.Name "shift" (p 17)] (.BinOp (.BinOp (.Name "mid" (p 18)) .Sub (.Name "L" (p 19)) (p 20)) .Mult (.Name "n" (p 21)) (p 22)) (p 23),
  .Return (some (.BinOp (.BinOp (.Call (.Name "inner" (p 24)) [.Name "mid" (p 25),.Name "R" (p 26)] [] (p 27)) .LShift (.Name "shift" (p 28)) (p 29)) .Add (.Call (.Name "inner" (p 30)) [.Name "L" (p 31),.Name "mid" (p 32)] [] (p 33)) (p 34))) (p 35)]
theorem Lh:jx j6:=tU (by decide +kernel)
section
theorem vX (h:a.natAbs<2^k):Zm a<=k:=by
 unfold Zm;split
 ·exact jbj _
 ·exact(jeX (Int.natAbs_ne_zero.mpr λe=>‹¬(a==0)=true› (beq_iff_eq.mpr e))).mpr h
def bE:cX:=λY Y=>none
theorem rG (D:dQ A n)(hG:dD G)(hN:gE G):fT G A bE:=⟨D.handled,by have:=D.units;exact qZ this,hG,hN,λk vs r e=>nomatch e⟩
structure cj (G:GD) (s:Y4) (φ:Gh) (β:List Ze) (P:Ze->Prop) (f cD cN cI:Ze) (fd:jay) (V:AV) (n:Int):Prop where
 fo:∃o,s.heap.get? f=some o/\o.data=.func fd
 fc:s.heap.CodeRec fd.code fd.qualname
 iD:∃v,s.heap.IsCell cD (some v)/\VR G.tok φ s.heap β P V v
 iN:∃t,s.heap.IsCell cN (some (.int n t))
 iI:s.heap.IsCell cI (some (.ref f))
structure kK (G:GD) (fd:jay) (Ti:Tb) (body:List Stmt) (dn:Str) (cD cN cI:Ze):Prop where
 stmts:fd.body=.stmts body
 tb:o6 Ti fd.scope
 co:fd.scope.isCoroutine=false
 gen:fd.scope.isGenerator=false
 glob:fd.globals=Zp
 bi:fd.builtins=jae
 lN:fd.closure.lookup ("n" : Str)=some cN
 lI:fd.closure.lookup ("inner" : Str)=some cI
 lD:fd.closure.lookup dn=some cD
 all:∀{C:Str->Ze->Prop},C "n" cN->C "inner" cI->C dn cD->∀x c,fd.closure.lookup x=some c->C x c
 ne1:cN≠cI
 ne2:cN≠cD
 ne3:cI≠cD
 safe:eY G cD/\eY G cN/\eY G cI
 cell:Ti.celled "n" = true/\Ti.celled "inner" = true/\Ti.celled dn=true
 free:Ti.names.lookup ("n" : Str)=some .free/\Ti.names.lookup ("inner" : Str)=some .free/\Ti.names.lookup dn=some .free
 only:∀{C:Str->Prop},C "n" -> C "inner" -> C dn->∀x,Ti.names.lookup x=some .free->C x
theorem SR.calmObj {s:Y4}{o:Obj}(e:s.heap.get? b=some o)(h1:∀xs n,o.data≠.seq xs n)(h2:∀es ep,o.data≠.dict es ep)(r:OR tk φ s.heap β P u a):b≠a:=λq=>by
 cases r with
 |list r _=>refine aX r λn r=>?_;exact h1 _ _ (congrArg Obj.data (Y3 (e.symm.trans (q▸r))))
 |dict r _ _=>refine kX r λo' es ep r Y r2 Y=>?_;exact h2 _ _ ((congrArg Obj.data (Y3 (e.symm.trans (q▸r)))).trans r2)
theorem SR.calmShape {s:Y4}{o:Obj}(S:SR G sB aj ah ab T φ ρ σ β P m s)(e:s.heap.get? b=some o)(h1:∀xs n,o.data≠.seq xs n)(h2:∀es ep,o.data≠.dict es ep):∀j:Nat,β[j]?=some b->σ[j]?=some .gone:=λj hj=>by
 have hl:j<σ.length:=by refine rwj S.lenB ?_;exact(ZA.mp hj).1
 refine aa (Zc hl) ?_;by_cases hg:σ[j]=.gone
 ·refine aa hg ?_;rfl
 ·refine au (S.er.objs j _ (Zc hl) hg) λa e1 e2=>?_;exact absurd (Y3 (hj.symm.trans e1)) (SR.calmObj e h1 h2 e2)
theorem AI {o:Obj}(hd:o.data=d)(h:∀xs n,d≠.seq xs n):∀xs n,o.data≠.seq xs n:=λxs n=>hd▸h xs n
theorem AH {o:Obj}(hd:o.data=d)(h:∀xs n,d≠.dict xs n):∀xs n,o.data≠.dict xs n:=λxs n=>hd▸h xs n
theorem cj.on {G:GD}{s s':Y4}(F:cj G s φ β P f cD cN cI fd V n)(hk:∀b o,s.heap.get? b=some o->(∀xs n,o.data≠.seq xs n)->(∀es ep,o.data≠.dict es ep)->¬G.X b->s'.heap.get? b=some o)(TB:bz G s.heap)(hv:∀v,VR G.tok φ s.heap β P V v->VR G.tok am s'.heap aH P' V v):cj G s' am aH P' f cD cN cI fd V n :=
 have cell:∀c v,s.heap.IsCell c v->s'.heap.IsCell c v:=λc v ⟨o,ho,hd⟩=>⟨o,hk c o ho (AI hd λY Y=>nofun) (AH hd λY Y=>nofun) (TB.notX_cell ⟨o,ho,hd⟩),hd⟩
 { fo:=F.fo.elim λo qq=>bN qq λho hd=>aN o (hk f o ho (AI hd λY Y=>nofun) (AH hd λY Y=>nofun) (TB.notX_data ho λY q=>nomatch hd.symm.trans q)) hd
   fc:=F.fc.elim λc r=>r.elim λo r=>r.elim λvs r=>r.elim λt r=>⟨c,o,vs,t,r.1,hk c o r.2.1 (AI r.2.2.1 λY Y=>nofun) (AH r.2.2.1 λY Y=>nofun) (TB.notX_code (q:=fd.qualname) ⟨c,o,vs,t,rfl,r.2⟩),r.2.2⟩
   iD:=F.iD.elim λv r=>aN v (cell _ _ r.1) (hv v r.2)
   iN:=F.iN.elim λt r=>⟨t,cell _ _ r⟩
   iI:=cell _ _ F.iI }
theorem cj.go (F:cj G s φ β P f cD cN cI fd V n)(R:ER G φ ab T ρ σ β P m s)(k:GX G s φ s' am)(TB:bz G s.heap):cj G s' am β P f cD cN cI fd V n :=
 F.on (λb o e Y Y hX=>k.ext b o hX e) TB λv r=>R.vr k r
theorem cj.carry (F:cj G s φ β P f cD cN cI fd V n)(S:SR G sB aj ah ab T φ ρ σ β P m s)(hT:∀x,T.names.lookup x≠some .cell)(C:bu G ab T s φ σ β P s' am an aH P'):cj G s' am aH P' f cD cN cI fd V n :=
 F.on (λb o e h1 h2 hX=>C.keep b o ⟨λq=>by
  rcases q with rfl|⟨y,q,_⟩|q
  ·refine ka S.er.ns λo' es ep e' hd Y=>?_;exact h2 _ _ (Y3 (e.symm.trans e')▸hd)
  ·exact hT y q
  ·exact hX q,S.calmShape e h1 h2⟩ e) S.tabs.1 λv r=>S.carry C r
theorem cj.calm (F:cj G s φ β P f cD cN cI fd V n)(S:SR G sB aj ah ab T φ ρ σ β P m s)(C:bu G ab T s φ σ β P s' am an aH P')(hk:∀b o,lF G σ β b->s.heap.get? b=some o->s'.heap.get? b=some o):cj G s' am aH P' f cD cN cI fd V n :=
 F.on (λb o e h1 h2 hX=>hk b o ⟨S.calmShape e h1 h2,hX⟩ e) S.tabs.1 λv r=>S.carry C r
theorem kK.inj (F:kK G fd Ti body dn cD cN cI):∀x y c,fd.closure.lookup x=some c->fd.closure.lookup y=some c->x=y:=λx y c hx hy =>
 F.all (C:=λx c=>∀y,fd.closure.lookup y=some c->x=y)
  (λy hy=>F.all (C:=λy c=>cN=c -> "n" = y) (λY=>rfl) (λq=>absurd q F.ne1) (λq=>absurd q F.ne2) y _ hy rfl)
  (λy hy=>F.all (C:=λy c=>cI=c -> "inner" = y) (λq=>absurd q.symm F.ne1) (λY=>rfl) (λq=>absurd q F.ne3) y _ hy rfl)
  (λy hy=>F.all (C:=λy c=>cD=c->dn=y) (λq=>absurd q.symm F.ne2) (λq=>absurd q.symm F.ne3) (λY=>rfl) y _ hy rfl) x c hx y hy
def jw (A:ZV)(ab:Env)(f cI:Ze):Prop:=∀(s:Y4) (Q:Value->Y4->Prop) (E:Value->Y4->Prop),s.heap.IsCell cI (some (.ref f))->Q (.ref f) s->Y' (Zb af wd) A (loadName ab "inner") Q E s
theorem RE {sB:Y4}{fd:jay}(Fd:kK G fd Ti body dn cD cN cI)(IB:bh G sB.heap)(hP₀:∀a,sB.heap.objs.size<=a->ah a)(hO:fT G A bE){z:Ze}{qual:Str}{code:Value}:
 bb G A bE sB ah (jk fd.scope z fd.closure qual f code) Ti where
 hO:=hO
 hE:=Mf Fd.tb Fd.inj
 hT:=Fd.tb.tb
 IB:=IB
 hP₀:=hP₀
 hI:=by
  unfold jiK;refine aa (show(jk fd.scope z fd.closure qual f code).scope.kind=.function from Fd.tb.kind) ?_;rfl
 hcl:=Fd.all (C:=λx Y=>Ti.celled x=true) Fd.cell.1 Fd.cell.2.1 Fd.cell.2.2
theorem RF {fd:jay}(Fd:kK G fd Ti body dn cD cN cI){z:Ze}{qual:Str}{code:Value}:jw A (jk fd.scope z fd.closure qual f code) f cI:=λs Q E hc hQ =>
 jfB Fd.tb.kind ((congrArg (jeb ("inner" : Str)) Fd.tb.names).symm.trans Fd.free.2.1) Fd.lI hc hQ (by decide)
def uo (G:GD)(sB:Y4)(aj:Gh)(ah:Ze->Prop)(ab:Env)(T:Tb)(φ:Gh)(ρ:aB)(σ:aA)(β:List Ze)(P:Ze->Prop)(m:Str->Option Value)(s:Y4)(an:aA)(K:Value->Prop)(v:Value)(aC:Y4):Prop :=
 ∃aV dm ck,SR G sB aj ah ab T aV ρ an dm ck m aC/\bu G ab T s φ σ β P aC aV an dm ck/\(∀b o,lF G σ β b->s.heap.get? b=some o->aC.heap.get? b=some o)/\K v
def um (G:GD)(A:ZV)(sB:Y4)(aj:Gh)(ah:Ze->Prop)(f cD cN cI:Ze)(fd:jay)(V:AV)(n:Int)(σ an:aA)(as:List AV)(K:Value->Prop):Prop :=
 ∀ab T φ ρ β P m s xs,SR G sB aj ah ab T φ ρ σ β P m s->cj G s φ β P f cD cN cI fd V n->ar G.tok φ s.heap β P as xs ->
  Y' (Zb af wd) A (call (.ref f) xs) (uo G sB aj ah ab T φ ρ σ β P m s an K) ax s
def gT (G:GD)(sB:Y4)(aj:Gh)(ah:Ze->Prop)(ab:Env)(T:Tb)(f cD cN cI:Ze)(fd:jay)(V:AV)(n:Int)(φ:Gh)(σ:aA)(β:List Ze)(P:Ze->Prop)(s:Y4)(av:aB)(an:aA)(Q:Y4->Prop):Prop :=
 ∀am aH P' m' s',SR G sB aj ah ab T am av an aH P' m' s'->cj G s' am aH P' f cD cN cI fd V n->bu G ab T s φ σ β P s' am an aH P'->Q s'
theorem gT.go (k:GX G s φ s' am)(h:gT G sB aj ah ab T f cD cN cI fd V n φ σ β P s av iv Q):gT G sB aj ah ab T f cD cN cI fd V n am σ β P s' av iv Q :=
 λay dc cC da ak S F C=>h ay dc cC da ak S F ((bu.go k).trans C)
theorem xD {lL:Expr}{args:List Expr}{as:List AV}{pa pe:Pos}{Q:Value->Y4->Prop}{K:Value->Prop}(cM:jas (lL::args) ab=(false,jaa lL ab)::jas args ab)(FC:bb G A bE sB ah ab T)(L:jw A ab f cI)(jI:bX bE σ ρ (bg T (lL::args))=some as)(H:um G A sB aj ah f cD cN cI fd V n σ an as K)(S:SR G sB aj ah ab T φ ρ σ β P m s)(F:cj G s φ β P f cD cN cI fd V n)(hQ:∀v,K v->gT G sB aj ah ab T f cD cN cI fd V n φ σ β P s ρ an (Q v)):Y' (Zb af wd) A (jaa (.Call (.Name ("inner" : Str) pa) (lL::args) [] pe) ab) Q ax s:=by
 refine jaH (wpAny_Name (L _ _ _ F.iI ?_) (by decide));refine au F.fo λo ho hd=>?_;refine jfo hd (((j8 FC.hE (λe Y=>cH FC.hO _ e (Y5 _)) jI).2 pe).post (S.inv FC.IB) S.er λxs ak ay aw Y Y aF=>?_) cM;have aM:=S.go aw;have fU:=F.go S.er aw S.tabs.1;refine⟨aw.ext _ _ (S.tabs.1.notX_data ho λY q=>nomatch hd.symm.trans q) ho,up (H _ _ _ _ _ _ _ _ xs aM fU aF) λv aC cy=>?_⟩;refine kX cy λaV dm ck br cY kp hK=>?_;exact hQ v hK aV dm ck _ aC br (fU.calm aM cY kp) ((bu.go aw).trans cY)
theorem pq (FC:bb G A bE sB ah ab T)(hT:∀x,T.names.lookup x≠some .cell)(hx:T.own x=some i)(he:ev bE σ ρ (ao T e)=some v)(S:SR G sB aj ah ab T φ ρ σ β P m s)(F:cj G s φ β P f cD cN cI fd V n)(hQ:gT G sB aj ah ab T f cD cN cI fd V n φ σ β P s (ρ.set i (some v)) σ λs'=>Y' (Zb af wd) A (ZN az ab) Q ax s'):Y' (Zb af wd) A (ZN (.Assign [.Name x px] e pos::az) ab) Q ax s :=
 have c:gq bE ρ σ false (ao T e)=some (v,σ):=congrArg (Z' (·,σ)) he
 Zy (up (HJ FC hx (λq=>absurd q Z1) c s φ β P m S) λfw ak aY=>by
  obtain⟨rfl,ay,dc,cC,da,aM,bU⟩:=aY;exact hQ ay dc cC da ak aM (F.carry S hT bU) bU)
def wB (A:ZV)(ab:Env)(az:List Stmt)(Q:jeB->Y4->Prop)(f:jeB)(s:Y4):Prop:=match f with
 | .next=>Y' (Zb af wd) A (ZN az ab) Q ax s
 |f=>Q f s
theorem FY (FC:bb G A bE sB ah ab T)(he:ev bE σ ρ (ao T c)=some (.bool b))(S:SR G sB aj ah ab T φ ρ σ β P m s)(F:cj G s φ β P f cD cN cI fd V n)(h1:b=true->∀am s',GX G s φ s' am->SR G sB aj ah ab T am ρ σ β P m s'->cj G s' am β P f cD cN cI fd V n->Y' (Zb af wd) A (ZN th ab) (wB A ab az Q) ax s')(h2:b=false->∀am s',GX G s φ s' am->SR G sB aj ah ab T am ρ σ β P m s'->cj G s' am β P f cD cN cI fd V n->Y' (Zb af wd) A (ZN el ab) (wB A ab az Q) ax s'):
 Y' (Zb af wd) A (ZN (.If c th el pos::az) ab) Q ax s :=
 Zy (jeJ (((cH FC.hO _ c (Y5 _) _ _ _ _ FC.hE he).2 _ rfl).post (S.inv FC.IB) S.er λaC aV aP dJ bW=>by
  have br:=S.go aP;have gD:=F.go S.er aP S.tabs.1
  induction b using ZH with
  |true=>exact h1 rfl aV aC aP br gD
  |false=>exact h2 rfl aV aC aP br gD))
theorem t6 (FC:bb G A bE sB ah ab T)(he:ev bE σ ρ (ao T e)=some v)(S:SR G sB aj ah ab T φ ρ σ β P m s)(F:cj G s φ β P f cD cN cI fd V n)(hQ:∀x am s',GX G s φ s' am->SR G sB aj ah ab T am ρ σ β P m s'->cj G s' am β P f cD cN cI fd V n->VR G.tok am s'.heap β P v x->Q x s'):Y' (Zb af wd) A (jaa e ab) Q ax s :=
 (cH FC.hO _ e (Y5 _) _ _ _ _ FC.hE he).1.post (S.inv FC.IB) S.er λx ak ay aw Y Y aF=>hQ x ay ak aw (S.go aw) (F.go S.er aw S.tabs.1) aF
def kM (G:GD)(φ:Gh)(h:jak)(β:List Ze)(P:Ze->Prop)(Ti:Tb)(binds:List (Str×Value))(dn:Str)(V:AV)(n:Int)(x:Str)(v:AV):Prop :=
 (Ti.names.lookup x=some .local/\∃v',binds.reverse.lookup x=some v'/\VR G.tok φ h β P v v')\/(x=dn/\v=V)\/(x = "n" /\ v=.int n)
theorem kM.loc (e:(some (some u):Option (Option AV))=some (some v))(h1:Ti.names.lookup x=some .local)(h2:binds.reverse.lookup x=some v')(h3:VR G.tok φ h β P u v'):kM G φ h β P Ti binds dn V n x v :=
 xV (Q:=kM G φ h β P Ti binds dn V n x) e (.inl ⟨h1,v',h2,h3⟩)
theorem kM.dig (e:(some (some V):Option (Option AV))=some (some v)):kM G φ h β P Ti binds dn V n dn v:=xV (Q:=kM G φ h β P Ti binds dn V n dn) e (.inr (.inl ⟨rfl,rfl⟩))
theorem kM.num (e:(some (some (.int n)):Option (Option AV))=some (some v)):kM G φ h β P Ti binds dn V n "n" v:=xV (Q:=kM G φ h β P Ti binds dn V n "n") e (.inr (.inr ⟨rfl,rfl⟩))
theorem F4 {av:aB}{s sB:Y4}{Ti:Tb}{xs:List Value}{binds:List (Str×Value)}{K:Value->Prop}{k:Nat}(Fd:kK G fd Ti body dn cD cN cI)(IB:bh G sB.heap)(hG:dD G)(hN:gE G)(hP₀:∀a,sB.heap.objs.size<=a->ah a)(D:dQ A (k+1))(S:SR G sB aj ah ab T φ ρ σ β P m s)(F:cj G s φ β P f cD cN cI fd V n)(jc:jbQ fd ⟨xs,[]⟩=pure binds)(ze:∀x∈binds,Ti.names.lookup x.1=some .local)(aO:av.length=Ti.next)(hn:∀e∈Ti.vars,∀v,av[e.2]?=some (some v)->kM G φ s.heap β P Ti binds dn V n e.1 v)(l0:∀(A':ZV) (eZ:Env) (s':Y4) (P':Ze->Prop) (m':Str->Option Value) (Q:jeB->Y4->Prop),dQ A' k->bb G A' bE sB ah eZ Ti->jw A' eZ f cI->SR G sB aj ah eZ Ti φ av σ β P' m' s'->cj G s' φ β P' f cD cN cI fd V n ->
 (∀fl eG,K (n9 fl)->gT G sB aj ah eZ Ti f cD cN cI fd V n φ σ β P' s' eG an (Q fl))->Y' (Zb af wd) A' (ZN body eZ) Q ax s'):
 Y' (Zb af wd) A (call (.ref f) xs) (uo G sB aj ah ab T φ ρ σ β P m s an K) ax s:=by
 refine au F.fo λo ho hd=>?_;have zB:fd.scope.names=Ti.names:=Fd.tb.names.symm;refine Tt (av:=av) (K:=λv Y Y Y Y=>K v) IB S Fd.tb ho hd F.fc Fd.stmts rfl Fd.glob Fd.bi rfl Fd.co Fd.gen (by have:=D.depth;exact qZ this) jc (by refine aa zB ?_;exact ze) aO (λx i v hx hv=>?_) (λx hx=>?_) (Fd.all (C:=λY c=>eY G c) Fd.safe.2.1 Fd.safe.2.2 Fd.safe.1) (λh' t da vo aM=>?_)
 ·refine aa zB ?_;rcases hn (x,i) (qW hx) v hv with⟨h1,v',h2,h3⟩|⟨rfl,rfl⟩|⟨rfl,rfl⟩
  ·exact aN v' h3 (.inl ⟨h1,h2⟩)
  ·refine au F.iD λvD d1 d2=>?_;exact aN vD d2 (.inr ⟨Fd.free.2.2,cD,Fd.lD,d1⟩)
  ·refine aX F.iN λtN n1=>?_;exact aN _ (.int _ tN) (.inr ⟨Fd.free.1,cN,Fd.lN,n1⟩)
 ·rw[zB]at hx;exact Fd.only (C:=λx=>∃c v,fd.closure.lookup x=some c/\s.heap.IsCell c v) (F.iN.elim λY n1=>cZ cN _ Fd.lN n1) ⟨cI,_,Fd.lI,F.iI⟩ (F.iD.elim λY d=>cZ cD _ Fd.lD d.1) x hx
 ·refine l0 _ _ _ _ da _ (D.deeper _) (RE Fd IB hP₀ (rG (D.deeper _) hG hN)) (RF Fd) aM (F.on (λb o e Y Y Y=>vo b o e) S.tabs.1 λv r=>r.mono (λY Y e=>e) (λa o p e=>⟨vo a o e,p,λq=>ZW.mpr q.1 (Zu e)⟩) (Zj _)) λfl eG hK aV dm ck dh aC br Y cY=>?_;exact F3 aV eG dm ck dh br cY hK
def xO (ds:List Int)(lo hi:Nat)(n:Int):aB:=[some (.int lo),some (.int hi),none,none,some (.lst (ds.map .int)),some (.int n)]
theorem Ro {ds:List Int}(h:k<ds.length)(hl:ds.length<=1000):m8 σ (.lst (ds.map .int)) (.int k)=some (.int ds[k]):=by
 have Ft:fO (k:Int) (ds.map AV.int).length=some k:=wl (by rw[Y0];exact h) (by rw[Y0];exact Y1 hl (by decide));refine(congrArg (λo=>Option.bind o λj=>(ds.map AV.int)[j]?) Ft).trans ?_;show(ds.map AV.int)[k]?=_;refine aa ZO ?_;refine aa (Zc h) ?_;rfl
theorem EJ {x y:Nat}:dE σ .RShift (.int ((x:Int)+y)) (.int 1)=some (.int ((x+y)/2:Nat)):=by
 show some (AV.int (Int.fdiv ((x:Int)+y) 2))=_;refine aa (jao _ (by decide)) ?_;rfl
theorem GO (h:n.natAbs<2^64):dE σ .Mult (.int x) (.int n)=some (.int (x*n)):=by
 show(if small x||small n then _ else _)=_;rw[if_pos (by rw[show small n=true from decide_eq_true h,Bool.or_true])]
end
section
variable {A:ZV}{ab:Env}{T:Tb}{ρ av:aB}{σ an iv:aA}{G:GD}{s s' cO:Y4}{φ am kE:Gh}{β aH uf:List Ze}{P P' rt ah:Ze->Prop}{m m':Str->Option Value}{tk:Ze}{h h':jak}
variable {sB:Y4}{aj:Gh}{f cD cN cI:Ze}{fd:jay}{n:Int}{p:Nat->Pos}{ds:List Int}{lo hi bv:Nat}{sh:Int}
theorem GW {l:List (Str×jbd)}{x:Str}(h:l.all (λe=>e.2 != .cell)=true)(q:l.lookup x=some .cell):False:=bP (Y6.mp h _ (mem_of_lookup q))
theorem CK (x:Str):j6.names.lookup x≠some .cell:=λq=>GW (by decide +kernel) q
theorem Ls {x y:Int}(h0:ρ[0]?=some (some (.int x)))(h1:ρ[1]?=some (some (.int y))):ev bE σ ρ (.cmp .Eq (.bin .Add (.var 0) (.c (.int 1))) (.var 1))=some (.bool (decide (x+1=y))):=
 cK (cb (ag h0) bK rfl) (ag h1) rfl
theorem Lj {x y:Nat}(h0:ρ[0]?=some (some (.int x)))(h1:ρ[1]?=some (some (.int y))):ev bE σ ρ (.bin .RShift (.bin .Add (.var 0) (.var 1)) (.c (.int 1)))=some (.int ((x+y)/2:Nat)):=
 cb (cb (ag h0) (ag h1) rfl) bK EJ
theorem Lq {x y:Int}(hn:n.natAbs<2^64)(h0:ρ[0]?=some (some (.int x)))(h2:ρ[2]?=some (some (.int y)))(h5:ρ[5]?=some (some (.int n))):ev bE σ ρ (.bin .Mult (.bin .Sub (.var 2) (.var 0)) (.var 5))=some (.int ((y-x)*n)):=
 cb (cb (ag h2) (ag h0) rfl) (ag h5) (GO hn)
theorem Lu (dv:0<=n)(h1:lo<=bv)(h2:bv<=hi)(h3:hi<=ds.length):cB n ((ds.drop bv).take (hi-bv))*2^(((bv:Int)-lo)*n).toNat+cB n ((ds.drop lo).take (bv-lo))=cB n ((ds.drop lo).take (hi-lo)):=by
 have e:(((bv:Int)-lo)*n).toNat=n.toNat*((ds.drop lo).take (bv-lo)).length:=by
  rw[jbD,jbE,jeF (Nat.sub_le_sub_right (Y1 h2 h3) _),<-jdr h1,Int.toNat_mul (Zi _) dv,ZB,jaN]
 have hs:(ds.drop lo).take (hi-lo)=(ds.drop lo).take (bv-lo)++(ds.drop bv).take (hi-bv):=by
  rw[((jbA _ _).trans (jez h2 h1)).symm,List.take_add,jja,jcz h1]
 rw[hs,CG,e,Int.add_comm]
theorem Lp (hY:∀d∈ds,d.natAbs<2^64)(aO:ds.length<=1000)(dv:0<=n)(hn:n.toNat<=64)(h1:lo<=bv)(h2:bv<=hi)(h3:hi<=ds.length):
 Zm (cB n ((ds.drop bv).take (hi-bv)))<=65*1001/\((bv:Int)-lo)*n<=64000/\0<=((bv:Int)-lo)*n:=by
 refine cz (Y1 (vX (CI hn _ λd hd=>hY d (jeO (jeN hd)))) (jfh _ (jiO ?_))) ?_ (Int.mul_nonneg (jfb (jcb.mpr h1)) dv)
 ·refine aa jbD ?_;refine aa jbE ?_;lia
 ·exact jho (Int.mul_le_mul (show(bv:Int)-lo<=1000 by lia) (show n<=64 by lia) dv (by decide)) (by decide)
def ui (G:GD)(A:ZV)(sB:Y4)(aj:Gh)(ah:Ze->Prop)(f cD cN cI:Ze)(fd:jay)(n:Int)(ds:List Int)(i j:Nat):Prop:=∀σ,um G A sB aj ah f cD cN cI fd (.lst (ds.map .int)) n σ σ [.int i,.int j] λv=>∃t,v=.int (cB n ((ds.drop i).take (j-i))) t
theorem Lm {Q:jeB->Y4->Prop}{e:Expr}{pos:Pos}{az:List Stmt}(FC:bb G A bE sB ah ab T)(S:SR G sB aj ah ab T φ ρ σ β P m s)(F:cj G s φ β P f cD cN cI fd (.lst (ds.map .int)) n)
 (he:ao T e=.idx (.var 4) (.var 0)) (h0:ρ[0]?=some (some (.int lo))) (h4:ρ[4]?=some (some (.lst (ds.map .int)))) (sS:lo<ds.length) (aO:ds.length<=1000)
 (hQ:∀fl eG,(∃t,n9 fl=.int (cB n ((ds.drop lo).take (lo+1-lo))) t)->gT G sB aj ah ab T f cD cN cI fd (.lst (ds.map .int)) n φ σ β P s eG σ (Q fl)):Y' (Zb af wd) A (ZN [.Return (some e) pos] ab) (wB A ab az Q) ax s:=by
 refine Zy (jbw (t6 FC (v:=.int ds[lo]) (by refine aa he ?_;exact mJ (ag h4) (ag h0) (Ro sS aO)) S F λx ay ak aw aM fU aF=>?_));refine hQ (.ret x) ρ (aF.e_int λt=>⟨t,?_⟩) _ _ _ _ _ aM fU (.go aw);have:(ds.drop lo).take (lo+1-lo)=[ds[lo]]:=by refine aa (jbU _ _) ?_;refine aa (jcw sS) ?_;rfl
 refine aa this ?_;show Value.int ds[lo] t=.int (ds[lo]+0*2^n.toNat) t;refine aa (Int.zero_mul _) ?_;refine aa (Int.add_zero _) ?_;rfl
def wQ (G:GD)(A:ZV)(sB:Y4)(aj:Gh)(ah:Ze->Prop)(ab:Env)(T:Tb)(f cD cN cI:Ze)(fd:jay)(n:Int)(ds:List Int)(ρ:aB)(σ:aA)(c:Expr)(a:Int):Prop:=∀φ β P m s (Q:Value->Y4->Prop),SR G sB aj ah ab T φ ρ σ β P m s->cj G s φ β P f cD cN cI fd (.lst (ds.map .int)) n->(∀t,gT G sB aj ah ab T f cD cN cI fd (.lst (ds.map .int)) n φ σ β P s ρ σ (Q (.int a t)))->Y' (Zb af wd) A (jaa c ab) Q ax s
theorem Lr {Q:Value->Y4->Prop}{c1 c2 e:Expr}{p1 p2:Pos}{a b:Int}(FC:bb G A bE sB ah ab T)(S:SR G sB aj ah ab T φ ρ σ β P m s)(F:cj G s φ β P f cD cN cI fd (.lst (ds.map .int)) n)
 (zM:ev bE σ ρ (ao T e)=some (.int sh)) (zI:0<=sh) (zJ:sh<=64000) (hb:Zm a<=65*1001) (h1:wQ G A sB aj ah ab T f cD cN cI fd n ds ρ σ c1 a) (h2:wQ G A sB aj ah ab T f cD cN cI fd n ds ρ σ c2 b)
 (hQ:∀t,gT G sB aj ah ab T f cD cN cI fd (.lst (ds.map .int)) n φ σ β P s ρ σ (Q (.int (a*2^sh.toNat+b) t))):Y' (Zb af wd) A (jaa (.BinOp (.BinOp c1 .LShift e p1) .Add c2 p2) ab) Q ax s:=by
 refine jcP (jcP (h1 _ _ _ _ _ _ S F λt ay dc cC da ak aM fU bU=>t6 FC zM aM fU λx aV aC aP br gD bI=>bI.e_int λt'=>lshift_int zI (by lia) ?_));have cn:GX G aC aV { aC with toks:=aC.toks+1 } aV:=.same br.er.tk bF.tok (ZY _);refine h2 _ _ _ _ _ _ (br.go cn) (gD.go br.er cn br.tabs.1) λYN ml BG wY jQ eE gl rj jX=>add_int ?_;have qx:GX G eE ml { eE with toks:=eE.toks+1 } ml:=.same gl.er.tk bF.tok (ZY _);exact hQ _ _ _ _ _ _ (gl.go qx) (rj.go gl.er qx gl.tabs.1) (bU.trans ((bu.go (aP.trans cn)).trans (jX.trans (.go qx))))
theorem CJ {i j:Nat}{x y:Str}{pa pb pc pd:Pos}(FC:bb G A bE sB ah ab T)(L:jw A ab f cI)(H:ui G A sB aj ah f cD cN cI fd n ds i j)(hx:ev bE σ ρ (ao T (.Name x pb))=some (.int i))(hy:ev bE σ ρ (ao T (.Name y pc))=some (.int j)):
 wQ G A sB aj ah ab T f cD cN cI fd n ds ρ σ (.Call (.Name ("inner" : Str) pa) [.Name x pb,.Name y pc] [] pd) (cB n ((ds.drop i).take (j-i))):=λφ β P m s Q S F hQ =>
 xD rfl FC L (dL hx hy) (H σ) S F λv qq=>aX qq λt e=>e▸hQ t
theorem BW {n:Int}(h0:0<=n)(h:n.toNat<=64):n.natAbs<2^64:=by lia
theorem EK {lo hi:Nat}(e:lo+1<hi):lo<(lo+hi)/2/\(lo+hi)/2<hi/\2*(hi-(lo+hi)/2)<=hi-lo+1/\2*((lo+hi)/2-lo)<=hi-lo+1:=by
 have h1:=jbt (lo+hi) 2;have h2:=ZL (lo+hi) (show 0<2 by decide);generalize(lo+hi)/2=m at *;generalize(lo+hi)%2=r at *;exact lh (by lia) (by lia) (by lia) (by lia)
theorem CH {Q:jeB->Y4->Prop}(FC:bb G A bE sB ah ab j6)(L:jw A ab f cI)(S:SR G sB aj ah ab j6 φ (xO ds lo hi n) σ β P m s)(F:cj G s φ β P f cD cN cI fd (.lst (ds.map .int)) n)
 (hY:∀d∈ds,d.natAbs<2^64) (aO:ds.length<=1000) (dv:0<=n) (hn:n.toNat<=64) (Fb:lo<hi) (jf:hi<=ds.length) (ih:lo+1<hi->∀i j,i<j->j<=ds.length->2*(j-i)<=hi-lo+1->ui G A sB aj ah f cD cN cI fd n ds i j)
 (hQ:∀fl eG,(∃t,n9 fl=.int (cB n ((ds.drop lo).take (hi-lo))) t)->gT G sB aj ah ab j6 f cD cN cI fd (.lst (ds.map .int)) n φ σ β P s eG σ (Q fl)):Y' (Zb af wd) A (ZN (rV p) ab) Q ax s:=by
 refine FY FC (Ls (x:=lo) (y:=hi) rfl rfl) S F (λhb ay ak aw aM fU=>?_) (λhb ay ak aw aM fU=>jbc ?_)
 ·have e:hi=lo+1:=by have:=of_decide_eq_true hb;lia
  subst e;exact Lm FC aM fU rfl rfl rfl jf aO λfl eG hv=>(hQ fl eG hv).go aw
 ·have e:lo+1<hi:=by have:=of_decide_eq_false hb;lia
  have ih:=ih e;clear hb;refine pY (EK e) λh1 h2 h3 h4=>?_;have hm:=Lj (σ:=σ) (ρ:=xO ds lo hi n) (x:=lo) (y:=hi) rfl rfl;generalize(lo+hi)/2=bv at *;refine pq FC CK (i:=2) rfl hm aM fU λaV dm ck dh aC br gD cY=>?_;refine pq FC CK (i:=3) rfl (Lq (x:=lo) (y:=bv) (BW dv hn) rfl rfl rfl) br gD λeU oZ o8 ky dj ey rh dp=>?_;refine fY (Lp hY aO dv hn (ZM h1) (ZM h2) jf) λb1 b2 b3=>?_;refine Zy (jbw (Lr FC ey rh (ag rfl) b3 b2 b1 (CJ FC L (ih bv hi h2 jf h3) (ag rfl) (ag rfl)) (CJ FC L (ih lo bv h1 (Y1 (ZM h2) jf) h4) (ag rfl) (ag rfl)) λt ml BG wY jQ eE gl rj jX=>?_));rw[Lu dv (ZM h1) (ZM h2) jf]at *;exact hQ (.ret _) _ ⟨t,rfl⟩ _ _ _ _ _ gl rj ((bu.go aw).trans (cY.trans (dp.trans jX)))
theorem CL {x y:Value}{K:Value->Prop}{k:Nat}(Fd:kK G fd j6 (rV p) "digits" cD cN cI) (jc:∀x y:Value,jbQ fd ⟨[x,y],[]⟩=pure [(("L" : Str),x),(("R" : Str),y)]) (IB:bh G sB.heap) (hG:dD G) (hN:gE G) (hP₀:∀a,sB.heap.objs.size<=a->ah a) (D:dQ A (k+1))
 (S:SR G sB aj ah ab T φ ρ σ β P m s) (F:cj G s φ β P f cD cN cI fd (.lst (ds.map .int)) n) (rx:VR G.tok φ s.heap β P (.int lo) x) (ry:VR G.tok φ s.heap β P (.int hi) y)
 (l0:∀(A':ZV) (eZ:Env) (s':Y4) (P':Ze->Prop) (m':Str->Option Value) (Q:jeB->Y4->Prop),dQ A' k->bb G A' bE sB ah eZ j6->jw A' eZ f cI->SR G sB aj ah eZ j6 φ (xO ds lo hi n) σ β P' m' s'->cj G s' φ β P' f cD cN cI fd (.lst (ds.map .int)) n ->
  (∀fl eG,K (n9 fl)->gT G sB aj ah eZ j6 f cD cN cI fd (.lst (ds.map .int)) n φ σ β P' s' eG σ (Q fl))->Y' (Zb af wd) A' (ZN (rV p) eZ) Q ax s'):
 Y' (Zb af wd) A (call (.ref f) [x,y]) (uo G sB aj ah ab T φ ρ σ β P m s σ K) ax s :=
 F4 Fd IB hG hN hP₀ D S F (jc x y) (aS rfl (aS rfl jA)) rfl
  (aS (λv e=>.loc e rfl rfl rx) (aS (λv e=>.loc e rfl rfl ry) (aS (λv e=>nn e) (aS (λv e=>nn e) (aS (λv e=>.dig e) (aS (λv e=>.num e) jA)))))) l0
theorem Li (Fd:kK G fd j6 (rV p) "digits" cD cN cI) (jc:∀x y:Value,jbQ fd ⟨[x,y],[]⟩=pure [(("L" : Str),x),(("R" : Str),y)]) (IB:bh G sB.heap) (hG:dD G) (hN:gE G) (hP₀:∀a,sB.heap.objs.size<=a->ah a) (hY:∀d∈ds,d.natAbs<2^64) (aO:ds.length<=1000) (dv:0<=n) (hn:n.toNat<=64):
 ∀(k:Nat) (A:ZV),dQ A (k+1)->∀(lo hi:Nat),lo<hi->hi<=ds.length->hi-lo<=2^k->ui G A sB aj ah f cD cN cI fd n ds lo hi:=by
 intro k
 induction k with
 |zero =>
  intro A D lo hi h1 h2 h3 σ ab T φ ρ β P m s xs S F r;refine r.e2 λx y rx ry=>?_;exact CL Fd jc IB hG hN hP₀ D S F rx ry λA' eZ s' P' m' Q D' FC L S' F' hQ=>CH FC L S' F' hY aO dv hn h1 h2 (λq=>absurd h3 (by lia)) hQ
 |succ k ih =>
  intro A D lo hi h1 h2 h3 σ ab T φ ρ β P m s xs S F r;refine r.e2 λx y rx ry=>?_;exact CL Fd jc IB hG hN hP₀ D S F rx ry λA' eZ s' P' m' Q D' FC L S' F' hQ=>CH FC L S' F' hY aO dv hn h1 h2 (λY i j q1 q2 q3=>ih A' D' i j q1 q2 (by rw[jcV]at h3;lia)) hQ
end
def wk (x y:Str)(p q:Pos):jbl:=⟨[],[⟨x,none,p⟩,⟨y,none,q⟩],none,[],[],none,[]⟩
def xP:jaB:={ kind:=.function,names:=CF,isGenerator:=false,isCoroutine:=false }
def rW:jaB:={ kind:=.function,names:=[("digits",.cell),("n",.cell),("inner",.cell),("len",.globalImplicit)],isGenerator:=false,isCoroutine:=false }
def xN (p q:Nat->Pos):List Stmt :=
 [.FunctionDef "inner" (wk "L" "R" (q 40) (q 41)) (rV q) [] none [] xP none "inner" (q 42),
  .Return (some (.IfExp (.Name "digits" (p 0)) (.Call (.Name "inner" (p 1)) [.Constant (.int 0) 0 (p 2),.Call (.Name "len" (p 3)) [.Name "digits" (p 4)] [] (p 5)] [] (p 6)) (.Constant (.int 0) 0 (p 7)) (p 8))) (p 9)]
def qK (l:List (Nat×Nat×Nat×Nat))(i:Nat):Pos:=match l[i]? with
 |some (a,b,c,d)=>⟨a,b,c,d⟩
 |none=>⟨0,0,0,0⟩
theorem JO :
 jbQ (fnX "inner" qual (wk "L" "R" p q) body sc cg .none .none bG pm none cv bZ) ⟨[u,v],[]⟩=pure [(("L" : Str),u),(("R" : Str),v)]:=by rfl
def rX:Tb:=dy ["digits","n"] rW
theorem Lg:rX.var "inner" = some 2:=by rfl
section
structure ut (G:GD) (fd:jay) (ps:List Str) (body:List Stmt) (t:Ze×Ze×Pos×Str) (pos:Pos):Prop where
 ok:eu fd ⟨ps.length,(dy ps fd.scope).next,et (dy ps fd.scope) [] body⟩ ps body []
 tm:t∈G.tabs
 tu:∀t'∈G.tabs,t'.2.1=t.2.1->t'=t
 code:fd.code=.ref t.1
 pos:t.2.2.1=pos
 qual:(fd.qualname++(".<locals>." : Str))++("inner" : Str)=t.2.2.2
theorem KR (h:l.all (λe=>e.2==.local)=true):dr ab (l++r) acc=dr ab r acc:=by
 induction l with
 |nil=>rfl
 |cons e l ih =>
  obtain⟨x,k⟩:=e;refine cu h λh1 h2=>?_;have:k=.local:=eq_of_beq h1;subst this;exact ih h2
theorem KY {ab:Env}{sc:jaB}{l:List (Str×jbd)}{dn:Str}{cD cN cI:Ze}(hs:sc.names=l++[(dn,.free),("inner",.free),("n",.free)]) (hl:l.all (λe=>e.2==.local)=true) (hD:ab.cells.lookup dn=some cD) (hI:ab.cells.lookup ("inner" : Str)=some cI) (hN:ab.cells.lookup ("n" : Str)=some cN):
 jcU sc ab=pure [(("n" : Str),cN),(("inner" : Str),cI),(dn,cD)]:=by
 rw[Ct (sc:=sc) (ab:=ab) λy hy=>?_,hs,KR hl]
 ·show pure [(("n" : Str),(ab.cells.lookup ("n" : Str)).getD 0),(("inner" : Str),(ab.cells.lookup ("inner" : Str)).getD 0),(dn,(ab.cells.lookup dn).getD 0)]=_;refine aa hN ?_;refine aa hI ?_;refine aa hD ?_;rfl
 ·rw[hs]at hy;rcases ZE.mp hy with q|q
  ·exact bP (Y6.mp hl _ q)
  ·exact aS (C:=λe=>∃c,ab.cells.lookup e.1=some c) ⟨cD,hD⟩ (aS ⟨cI,hI⟩ (aS ⟨cN,hN⟩ jA)) _ q
theorem xF (S:SR G sB aj ah ab To φ ρ σ β P m s)(hy:To.names.lookup y=some .cell):∃c,ab.cells.lookup y=some c:=(S.er.celled y (by unfold Tb.celled;refine aa hy ?_;rfl)).elim λc e=>⟨c,e.elim λY r=>r.1⟩
theorem Cq (S:SR G sB aj ah ab To φ ρ σ β P m s)(hE:bQ ab To)(hy:To.names.lookup y=some .cell)(hc:ab.cells.lookup y=some c)(hv:To.var y=some i)(hr:ρ[i]?=some (some v)):∃v',s.heap.IsCell c (some v')/\VR G.tok φ s.heap β P v v':=by
 refine au (S.er.names y i v hv hr) λv' rv nm=>?_;rcases nm with⟨k,_⟩|⟨c',e1,_,e2⟩
 ·exact nomatch k.symm.trans (hE.cel y hy)
 ·exact aN v' (Y3 (e1.symm.trans hc)▸e2) rv
structure rq (To Ti:Tb) (dn:Str) (sc:jaB) (l:List (Str×jbd)) (iN iD:Nat):Prop where
 hs:sc.names=l++[(dn,.free),("inner",.free),("n",.free)]
 hl:l.all (λe=>e.2==.local)=true
 tb:o6 Ti sc
 co:sc.isCoroutine=false
 gen:sc.isGenerator=false
 cell:Ti.celled "n" = true/\Ti.celled "inner" = true/\Ti.celled dn=true
 free:Ti.names.lookup ("n" : Str)=some .free/\Ti.names.lookup ("inner" : Str)=some .free/\Ti.names.lookup dn=some .free
 kI:To.names.lookup ("inner" : Str)=some .cell
 kN:To.names.lookup ("n" : Str)=some .cell
 kD:To.names.lookup dn=some .cell
 vN:To.var "n" = some iN
 vD:To.var dn=some iD
 ne:("n" : Str)≠dn/\("inner" : Str)≠dn
 look:∀a b c:Ze,jeb dn [(("n" : Str),a),(("inner" : Str),b),(dn,c)]=some c
theorem rq.only {Ti:Tb}(O:rq To Ti dn sc l iN iD){C:Str->Prop}(h1:C "n") (h2:C "inner") (h3:C dn) (x:Str) (hx:Ti.names.lookup x=some .free):C x:=by
 have q:=mem_of_lookup hx;rw[O.tb.names,O.hs]at q;rcases ZE.mp q with q|q
 ·exact bP (Y6.mp O.hl _ q)
 ·exact aS (C:=λe=>C e.1) h3 (aS h2 (aS h1 jA)) _ q
theorem G9 {ab:Env}{G:GD}{To:Tb}{params:jbl}(O:rq To Ti dn sc l iN iD)(FC:bb G A bE sB ah ab To)(S:SR G sB aj ah ab To φ ρ σ β P m s)(kn:t∈G.tabs)(zQ:∀t'∈G.tabs,t'.2.1=t.2.1->t'=t)(mY:ab.code=.ref t.1)(hq:jeg ab "inner" "inner" = t.2.2.2) (km:t.2.2.1=pos) (Qp:params.defaults=[]) (zF:params.kw_defaults=[]) (Fq:jhi params none ab=[]) (vI:∀i v,To.var "inner" = some i->ρ[i]?=some (some v)->False) (rN:ρ[iN]?=some (some (.int n))) (rD:ρ[iD]?=some (some V)) (hQ:∀i9 f s' cD cN cI,(∃cg bG pm c' bZ,i9=fnX "inner" t.2.2.2 params bi sc cg .none .none bG pm none (.ref c') bZ)->kK G i9 Ti bi dn cD cN cI->jw A ab f cI->SR G sB aj ah ab To φ ρ σ β P m s'->cj G s' φ β P f cD cN cI i9 V n->Q .next s'):
 Y' (Zb af wd) A (Z0 (.FunctionDef "inner" params bi [] none [] sc none "inner" pos) ab) Q ax s:=by
 refine aX (xF S O.kD) λcD hD=>?_;refine aX (xF S O.kN) λcN hN=>?_;refine aX (xF S O.kI) λcI hI=>?_;refine LB (t:=t) (c:=cI) FC.IB S FC.hE kn zQ mY km hq Qp zF Fq (KY O.hs O.hl hD hI hN) O.kI hI vI λf aC bZ bG pm c' br Yo Yi PO sM Pq=>?_;have sf:∀{y:Str}{c:Ze},ab.cells.lookup y=some c->eY G c:=λhc=>S.er.bsafe _ (.inr (.inr ⟨_,hc⟩));refine hQ _ f aC cD cN cI ⟨_,bG,pm,c',bZ,rfl⟩ {
  stmts:=rfl
  tb:=O.tb
  co:=O.co
  gen:=O.gen
  glob:=rfl
  bi:=rfl
  lN:=rfl
  lI:=rfl
  lD:=O.look cN cI cD
  all:=λ{C} h1 h2 h3 x c h=>aS (C:=λe=>C e.1 e.2) h1 (aS h2 (aS h3 jA)) (x,c) (mem_of_lookup h)
  ne1:=λz=>absurd (FC.hE.inj "n" "inner" cN hN (z▸hI)) (by decide)
  ne2:=λz=>O.ne.1 (FC.hE.inj "n" dn cN hN (z▸hD))
  ne3:=λz=>O.ne.2 (FC.hE.inj "inner" dn cI hI (z▸hD))
  safe:=cz (sf hD) (sf hN) (sf hI)
  cell:=O.cell
  free:=O.free
  only:=O.only } (λs Q E hc hQ=>jfC FC.hE.kind (FC.hE.cel _ O.kI) hI hc hQ) br {
  fo:=aN _ PO rfl
  fc:=sM
  iD:=Cq br FC.hE O.kD hD O.vD rD
  iN:=(Cq br FC.hE O.kN hN O.vN rN).elim λv' e=>e.2.inv.elim λt q=>⟨t,q▸e.1⟩
  iI:=Pq }
theorem Ln:rq rX j6 "digits" xP [("L",.local),("R",.local),("mid",.local),("shift",.local)] 1 0 where
 hs:=rfl
 hl:=by decide +kernel
 tb:=⟨rfl,λx hx q=>absurd (Y6.mp (by decide +kernel:xP.names.all (λe=>e.2 != .cell)=true) x hx) (by refine aa q ?_;decide),rfl,Lh⟩
 co:=rfl
 gen:=rfl
 cell:=cz rfl rfl rfl
 free:=cz rfl rfl rfl
 kI:=rfl
 kN:=rfl
 kD:=rfl
 vN:=rfl
 vD:=rfl
 ne:=by decide
 look:=λY Y Y=>rfl
theorem Xy {ds:List Int}{xs:List Value}(r:ar tk φ h β P (ds.map .int) xs):(!xs.toArray.isEmpty)=!ds.isEmpty:=by
 induction ds using Y2 with
 |nil=>refine aa r.unnil ?_;rfl
 |cons d ds=>refine bB r.uncons λy ys e Y=>?_;refine aa e ?_;rfl
theorem So {ds:List Int}(h0:ρ[i]?=some (some (.lst (ds.map .int))))(hl:ds.length<=1000):ev bE σ ρ (.call .len (.cons (.var i) .nil))=some (.int ds.length):=by
 rewrite [kW];refine aa (cT (ag h0)) ?_;show(if(ds.map AV.int).length<=100000 then some (AV.int ((ds.map AV.int).length:Nat))else none)=_;refine aa (Y0 _) ?_;refine aa (if_pos (Y1 hl (by decide))) ?_;rfl
theorem Lo {A:ZV}{ab:Env}{G:GD}{s:Y4}{φ:Gh}{P ah:Ze->Prop}{m:Str->Option Value}{sB:Y4}{aj:Gh}{p:Nat->Pos}{ds:List Int}{n:Int}{f cD cN cI:Ze}{i9:jay}(FC:bb G A bE sB ah ab rX)(L:jw A ab f cI)(S:SR G sB aj ah ab rX φ [some (.lst (ds.map .int)),some (.int n),none] [] [] P m s)(F:cj G s φ [] P f cD cN cI i9 (.lst (ds.map .int)) n)(aO:ds.length<=1000)(H:0<ds.length->ui G A sB aj ah f cD cN cI i9 n ds 0 ds.length):
 Y' (Zb af wd) A (jaa (.IfExp (.Name "digits" (p 0)) (.Call (.Name "inner" (p 1)) [.Constant (.int 0) 0 (p 2),.Call (.Name "len" (p 3)) [.Name "digits" (p 4)] [] (p 5)] [] (p 6)) (.Constant (.int 0) 0 (p 7)) (p 8)) ab) (λx s'=>∃am,GX G sB aj s' am/\VR G.tok am s'.heap [] ah (.int (cB n ds)) x) ax s:=by
 refine PyProof.Rows.IfExp_ (jfn (t6 FC (v:=.lst (ds.map .int)) rfl S F λx ay ak aw aM fU aF=>aF.e_lst λl xs hl pl rl=>?_) rfl);refine wpAny_truthy_list hl.isList (by refine aa Zk ?_;refine rwj rl.length ?_;refine aa (Y0 _) ?_;exact q8 aO rfl) ?_;refine aa (Xy rl) ?_;have aP:GX G ak ay { ak with toks:=ak.toks+1+1 } ay:=.same aw.tk bF.tok (ZD _ 2);have br:=aM.go aP;have gD:=fU.go aM.er aP aM.tabs.1
 induction hb:ds.isEmpty using ZH with
 |true =>
  refine(if_neg (by decide)).mpr (t6 FC (v:=.int 0) rfl br gD λx eU dj cn ey rh jn=>?_);refine aa (jde.mp hb) ?_;exact aN eU ey.done (jn.scalar rfl λY Y e=>e)
 |false =>
  refine(if_pos rfl).mpr (xD (K:=λv=>∃t,v=.int (cB n ((ds.drop 0).take (ds.length-0))) t) rfl FC L (as:=[.int 0,.int ds.length]) (dL bK (So rfl aO)) (H (jfe.mpr λe=>by rw[e]at hb;cases hb) []) br gD λv qq eU oZ o8 ky dj ey rh dp=>aX qq λt e=>?_);rw[List.drop_zero,jhl,jfL]at e;refine aa e ?_;exact aN eU ey.done (.int _ _)
theorem Lk {A:ZV}{G:GD}{p q:Nat->Pos}{ds:List Int}{n:Int}{fd:jay}{t:Ze×Ze×Pos×Str}{x:Str}{k:Nat}(O:ut G fd ["digits","n"] (xN p q) t (q 42)) (fJ:fd.scope=rW) (hk:G.fns k=some (x,fd)) (hG:dD G) (hN:gE G) (D:dQ A 13) (hY:∀d∈ds,d.natAbs<2^64) (aO:ds.length<=1000) (dv:0<=n) (hn:n.toNat<=64) {a:Ze} (ha:G.mg x=some (.ref a)):kF G A (.ref a) [.lst (ds.map .int),.int n] (.int (cB n ds)):=by
 have hT:dy ["digits","n"] fd.scope=rX:=by refine aa fJ ?_;rfl
 refine sw (Φ:=bE) O.ok hk (by have:=D.depth;exact qZ this) (λab=>rG (D.deeper ab) hG hN) rfl (λL fa s φ P P' m ak FC S=>?_) ha;rw[hT]at FC S;refine Zy (G9 Ln FC S O.tm O.tu O.code ?_ O.pos rfl rfl rfl (λi v hi hv=>?_) rfl rfl λi9 f s' cD cN cI oq Fd Ld br gD=>?_)
 ·unfold jeg;refine aa (show(jbb fd L fa).kindOf ("inner" : Str)=rW.names.lookup ("inner" : Str)from congrArg (λsc:jaB=>sc.names.lookup ("inner" : Str)) fJ) ?_;refine aa (if_neg (by decide)) ?_;exact O.qual
 ·cases Lg.symm.trans hi;exact nn hv
 ·refine Zy (jbw (up (Lo FC Ld br gD aO λkm=>Li Fd (λx y=>?_) FC.IB hG hN FC.hP₀ hY aO dv hn 10 _ ((D.deeper _).le (by decide)) 0 ds.length km (Y5 _) (Y1 aO (by decide))) λx dj r=>⟨x,rfl,r⟩));refine uX oq ?_;rintro cg bG pm c' bZ rfl;exact JO
end
def dg (n:Nat):Nat->Nat->List Int
 |0,_=>[]
 |k+1,a=>((a%2^n:Nat):Int)::dg n k (a/2^n)
theorem CV:dg n 0 x=[]:=rfl
theorem nR:dg n (k+1) x=↑(x%2^n)::dg n k (x/2^n):=rfl
theorem r6 (n:Nat):∀k a,(dg n k a).length=k
 |0,_=>rfl
 |k+1,a=>by rw[nR,Zo,r6 n k]
theorem CS (n:Nat):∀j a m,j<=m->dg n j (a%2^(n*m))=dg n j a
 |0,_,_,_=>rfl
 |j+1,a,m,h=>by
  obtain⟨m',rfl⟩:∃m',m=m'+1:=⟨m-1,by lia⟩
  rw[nR,nR,jdI,jbA (n*m') n,jed];rw[Nat.mod_mul_right_mod,Nat.mod_mul_right_div_self,CS n j (a/2^n) m' (jaV h)]
theorem CR (n:Nat):∀j k a,dg n (j+k) a=dg n j a++dg n k (a/2^(n*j))
 |0,k,a=>by simp[CV]
 |j+1,k,a=>by
  rw[show j+1+k=(j+k)+1 from jfk (jdU j k 1),nR,nR,CR n j k,jdf,Nat.div_div_eq_div_mul,<-jed,jdI,jbA n]
theorem LI (n:Nat)(j k a:Nat):dg n (j+k) a=dg n j (a%2^(n*j))++dg n k (a/2^(n*j)):=by
 rw[CR,CS n j a j (Y5 _)]
theorem Ji (x k:Nat):x &&& (x/2^k*2^k)=x/2^k*2^k:=by
 apply jeY;intro i;rw[jeD,Nat.testBit_mul_two_pow];by_cases h:k<=i
 ·refine aa (Nat.testBit_div_two_pow _ _) ?_;refine aa (show i-k+k=i by simp[*]) ?_;cases x.testBit i<;>simp[h]
 ·simp[h]
theorem XP (x k:Nat):jfT (x:Int) ((x/2^k:Nat)*2^k)=((x%2^k:Nat):Int):=by
 have e:(((x/2^k:Nat):Int)*2^k)=((x/2^k*2^k:Nat):Int):=by
  refine aa (jba _ _) ?_;refine aa (jbN _ _) ?_;rfl
 refine aa e ?_;refine aa (bitXor_and _ _) ?_;have h:jiq (x:Int) ((x/2^k*2^k:Nat):Int)=((x/2^k*2^k:Nat):Int):=by
  unfold jiq;have h1:decide (0<=(x:Int))=true:=decide_eq_true (Zi _);have h2:decide (0<=((x/2^k*2^k:Nat):Int))=true:=decide_eq_true (Zi _);refine aa h1 ?_;refine aa h2 ?_;show((Int.toNat _ &&& Int.toNat _:Nat):Int)=_;refine aa (ZB _) ?_;refine aa (ZB _) ?_;refine aa (Ji _ _) ?_;rfl
 refine aa h ?_;have:=jbt x (2^k);rw[jaN]at this
 lia
def FQ:List (Str×jbd):=[("x",.local),("L",.local),("R",.local),("mid",.local),("shift",.local),("upper",.local),("lower",.local),("a_digits",.free),("inner",.free),("n",.free)]
def iP:Tb:={ names:=FQ,vars:=[("x",0),("L",1),("R",2),("mid",3),("shift",4),("upper",5),("lower",6),("a_digits",7),("n",8)],next:=9 }
def s5 (p:Nat->Pos):List Stmt :=
 [.If (.Compare (.BinOp (.Name "L" (p 0)) .Add (.Constant (.int 1) 0 (p 1)) (p 2)) [.Eq] [.Name "R" (p 3)] (p 4)) [.Assign [.Subscript (.Name "a_digits" (p 5)) (.Name "L" (p 6)) (p 7)] (.Name "x" (p 8)) (p 9),.Return none (p 10)] [] (p 11),
  .Assign [.Name "mid" (p 12)] (.BinOp (.BinOp (.Name "L" (p 13)) .Add (.Name "R" (p 14)) (p 15)) .RShift (.Constant (.int 1) 0 (p 16)) (p 17)) (p 18),
  .Assign [.Name "shift" (p 19)] (.BinOp (.BinOp (.Name "mid" (p 20)) .Sub (.Name "L" (p 21)) (p 22)) .Mult (.Name "n" (p 23)) (p 24)) (p 25),
  .Assign [.Name "upper" (p 26)] (.BinOp (.Name "x" (p 27)) .RShift (.Name "shift" (p 28)) (p 29)) (p 30),
  .Assign [.Name "lower" (p 31)] (.BinOp (.Name "x" (p 32)) .BitXor (.BinOp (.Name "upper" (p 33)) .LShift (.Name "shift" (p 34)) (p 35)) (p 36)) (p 37),
  .Expr (.Call (.Name "inner" (p 38)) [.Name "lower" (p 39),.Name "L" (p 40),.Name "mid" (p 41)] [] (p 42)) (p 43),
  .Expr (.Call (.Name "inner" (p 44)) [.Name "upper" (p 45),.Name "mid" (p 46),.Name "R" (p 47)] [] (p 48)) (p 49)]
theorem Rb:jx iP:=tU (by decide +kernel)
section
theorem ar.set (ry:VR tk φ h β P u y)(r:ar tk φ h β P vs xs):∀k,ar tk φ h β P (vs.set k u) (xs.set k y):=by
 refine ar.ind (motive:=λvs xs=>∀k,ar tk φ h β P (vs.set k u) (xs.set k y)) (λY=>.nil) (λ{v x vs xs} a r ih k=>?_) r
 induction k using jaw with
 |zero=>exact .cons ry r
 |succ k=>exact .cons a (ih k)
theorem Vj {s:Y4}{a:Ze}{ys:List Value}{tx kk:Nat}{xv:Value}(e:s.heap.get? a=some { cls:=.type "list",data:=.seq ys.toArray tx }):
 (s.heap.update a (jcK (·.setIfInBounds (kk:Int).toNat xv))).PlainList a (ys.set kk xv).toArray:=by
 have hd:(jcK (·.setIfInBounds (kk:Int).toNat xv) ({ cls:=.type "list",data:=.seq ys.toArray tx }:Obj)).data=.seq (ys.set kk xv).toArray tx:=by simp[jcK]
 refine⟨tx,?_⟩;refine aa (jcj _ e (Obj.isFreed_of_seq hd)) ?_;simp[jcK]
theorem VA {T:Tb}{σ:aA}(F:bb G A Φ sB ah ab T){x:Str}{px sp pos:Pos}{k v:Expr}{n i:Nat}{kk:Nat}{u:AV}{vs:List AV}(hx:T.var x=some n)(fv:ρ[n]?=some (some (.ref i)))(hv:ev Φ σ ρ (ao T v)=some u)(fJ:u.scalar=true)(hk:ev Φ σ ρ (ao T k)=some (.int kk))(hi:σ[i]?=some (.list vs))(a0:kk<vs.length)(aU:vs.length<=100000):
 ca G A sB aj ah ab T ρ σ (Z0 (.Assign [.Subscript (.Name x px) k sp] v pos) ab) (.next ρ (σ.set i (.list (vs.set kk u)))):=λs φ β P m S =>
 jhW ((cH F.hO _ v (Y5 _) ab T ρ _ F.hE hv).1.post (S.inv F.IB) S.er λxv ak ay aw bd aI aF=>(xZ F.hE hx fv).post bd aI λxo aC aV aP dJ bW bI =>
  (cH F.hO _ k (Y5 _) ab T ρ _ F.hE hk).1.post dJ bW λxk dj eU cn rm i3 jn=>by
   refine au (VR.refOf bI) ?_;rintro a rfl ha;have qw:=(aw.trans aP).trans cn;refine jn.e_int λt=>(S.go qw).listAt hi ha λys e rs=>?_;have hl:ys.length=vs.length:=rs.length.symm;rw[<-hl]at a0 aU;refine aX (id e) λtx e'=>?_;exact ki_setAt e' (Zi _) (by lia) (by refine aa Zk ?_;exact oY a0) ⟨rfl,((S.go qw).relist (t:=dj.toks) hi ha (jck ..) (Y5 _) e (Vj e') (rs.set (aF.scalar fJ λt y e=>cn.sub t y (aP.sub t y e)) kk)).after (.go qw)⟩) H1
end
section
def fP (n:Nat)(ds:List Int)(lo hi x:Nat):List Int:=ds.take lo++dg n (hi-lo) x++ds.drop hi
theorem UK {n:Nat}{ds:List Int}{lo hi x:Nat}(h1:lo<=hi)(h2:hi<=ds.length):(fP n ds lo hi x).length=ds.length:=by
 simp only[fP,Za,jbD,jbE,r6];rw[jeF (Y1 h1 h2),jcz h1,jcz h2]
theorem UL {n:Nat}{ds:List Int}{lo x:Nat}(h:lo<ds.length)(hx:x<2^n):fP n ds lo (lo+1) x=ds.set lo x:=by
 rw[fP,jbU,nR,CV,jfQ hx];rw[List.set_eq_take_append_cons_drop,if_pos h];simp
theorem UM {n:Nat}{ds:List Int}{lo bv hi x:Nat}(h1:lo<=bv)(h2:bv<=hi)(h3:hi<=ds.length):
 fP n (fP n ds lo bv (x%2^(n*(bv-lo)))) bv hi (x/2^(n*(bv-lo)))=fP n ds lo hi x:=by
 have e1:(fP n ds lo bv (x%2^(n*(bv-lo)))).take bv=ds.take lo++dg n (bv-lo) (x%2^(n*(bv-lo))):=by
  unfold fP;apply jfX;simp only[Za,jbD,r6];rw[jeF (Y1 h1 (Y1 h2 h3)),jcz h1]
 have e2:(fP n ds lo bv (x%2^(n*(bv-lo)))).drop hi=ds.drop hi:=by
  unfold fP;have hl:(ds.take lo++dg n (bv-lo) (x%2^(n*(bv-lo)))).length=bv:=by simp only[Za,jbD,r6];rw[jeF (Y1 h1 (Y1 h2 h3)),jcz h1]
  rw[List.drop_append,jcS (by refine aa hl ?_;exact h2),hl,jja,jaY,show bv+(hi-bv)=hi by simp[*]]
 unfold fP at e1 e2 ⊢;refine aa e1 ?_;refine aa e2 ?_
 conv=>rhs;rw[show hi-lo=(bv-lo)+(hi-bv)by rw[jbA,jez h2 h1],LI]
 simp only[jaz]
end
section
variable {A:ZV}{ab:Env}{T:Tb}{ρ av:aB}{σ an iv:aA}{G:GD}{s s' cO:Y4}{φ am kE:Gh}{β aH uf:List Ze}{P P' rt ah:Ze->Prop}{m m':Str->Option Value}{tk:Ze}{h h':jak}
variable {sB:Y4}{aj:Gh}{Φ:cX}{mu:List Str}
variable {f cD cN cI:Ze}{fd:jay}{V:AV}{n:Nat}{p:Nat->Pos}{ds:List Int}{lo hi bv x:Nat}
abbrev gB (ds:List Int):aA:=[.list (ds.map .int)]
def vS (x lo hi n:Nat):aB:=[some (.int x),some (.int lo),some (.int hi),none,none,none,none,some (.ref 0),some (.int n)]
theorem s7 (x:Str):iP.names.lookup x≠some .cell:=λq=>GW (by decide +kernel) q
theorem Va {x k:Nat}(h:k<=1000000):dE σ .RShift (.int x) (.int k)=some (.int (x/2^k:Nat)):=
 (if_pos ⟨Zi _,jcb.mpr h⟩).trans (by rw[ZB,jao _ (Int.pow_nonneg (by decide)),jcx,jbN];rfl)
theorem GC {x k:Nat}(h:k<=1000000)(hx:x<2^4096):dE σ .LShift (.int x) (.int k)=some (.int ((x:Int)*2^k)):=
 (if_pos ⟨Zi _,jcb.mpr h,decide_eq_true (by rw[ZR];exact hx)⟩).trans (by rw[ZB])
theorem Rh {k:Nat}(hk:k<=1000000)(hx:x<2^4096)(h0:ρ[0]?=some (some (.int x)))(h4:ρ[4]?=some (some (.int k)))(h5:ρ[5]?=some (some (.int (x/2^k:Nat)))):ev bE σ ρ (.bin .BitXor (.var 0) (.bin .LShift (.var 5) (.var 4)))=some (.int (x%2^k:Nat)):=
 cb (ag h0) (cb (ag h5) (ag h4) (GC hk (Zz (jgm _ _) hx))) (congrArg (λi=>some (AV.int i)) (XP x k))
theorem Rl (hm:lo<=bv)(hn:n<=64)(h1:ρ[1]?=some (some (.int lo)))(h3:ρ[3]?=some (some (.int bv)))(h8:ρ[8]?=some (some (.int n))):ev bE σ ρ (.bin .Mult (.bin .Sub (.var 3) (.var 1)) (.var 8))=some (.int (n*(bv-lo):Nat)):=by
 rw[jaN,jba,jdr hm];exact cb (cb (ag h3) (ag h1) rfl) (ag h8) (GO (BW (Zi _) hn))
theorem Re (h1:lo<=bv)(h2:bv<=hi)(hx:x<2^(n*(hi-lo))):x/2^(n*(bv-lo))<2^(n*(hi-bv)):=by
 refine jeZ ?_;rw[<-jed,<-jfW,jbA,jez h2 h1];exact hx
def wT (G:GD)(A:ZV)(sB:Y4)(aj:Gh)(ah:Ze->Prop)(f cD cN cI:Ze)(fd:jay)(n:Nat)(ds:List Int)(i j x:Nat):Prop :=
 um G A sB aj ah f cD cN cI fd (.ref 0) n (gB ds) (gB (fP n ds i j x)) [.int x,.int i,.int j] λY=>True
theorem xE {lL:Expr}{args:List Expr}{as:List AV}{pa pe pf:Pos}{az:List Stmt}{Q:jeB->Y4->Prop}{K:Value->Prop}{n:Int}(cM:jas (lL::args) ab=(false,jaa lL ab)::jas args ab)(FC:bb G A bE sB ah ab T)(L:jw A ab f cI)
 (jI:bX bE σ ρ (bg T (lL::args))=some as) (H:um G A sB aj ah f cD cN cI fd V n σ an as K) (S:SR G sB aj ah ab T φ ρ σ β P m s) (F:cj G s φ β P f cD cN cI fd V n)
 (hQ:gT G sB aj ah ab T f cD cN cI fd V n φ σ β P s ρ an λs'=>Y' (Zb af wd) A (ZN az ab) Q ax s'):Y' (Zb af wd) A (ZN (.Expr (.Call (.Name ("inner" : Str) pa) (lL::args) [] pe) pf::az) ab) Q ax s :=
 Zy (wpAny_Expr_any (xD cM FC L jI H S F λY Y=>hQ) FC.hI)
theorem Rj {Q:jeB->Y4->Prop}{p0 p1 p2 p3 p4 p5:Pos}{az:List Stmt}(FC:bb G A bE sB ah ab iP)(S:SR G sB aj ah ab iP φ (vS x lo (lo+1) n) (gB ds) β P m s)(F:cj G s φ β P f cD cN cI fd (.ref 0) n)
 (sS:lo<ds.length) (aO:ds.length<=1000) (hx:x<2^n) (hQ:∀fl eG,gT G sB aj ah ab iP f cD cN cI fd (.ref 0) n φ (gB ds) β P s eG (gB (fP n ds lo (lo+1) x)) (Q fl)):
 Y' (Zb af wd) A (ZN [.Assign [.Subscript (.Name "a_digits" p0) (.Name "L" p1) p2] (.Name "x" p3) p4,.Return none p5] ab) (wB A ab az Q) ax s:=by
 refine Zy (up (VA FC (n:=7) (i:=0) (kk:=lo) (vs:=ds.map .int) (u:=.int x) rfl rfl rfl rfl rfl rfl (by rw[Y0];exact sS) (by rw[Y0];exact Y1 aO (by decide)) s φ β _ m S) λfw ak aY=>?_);obtain⟨rfl,ay,dc,cC,da,aM,bU⟩:=aY;have hs:([AO.list (ds.map .int)]:aA).set 0 (.list ((ds.map .int).set lo (.int x)))=gB (fP n ds lo (lo+1) x):=by
  rw[UL sS hx,gB,List.map_set];rfl
 rw[hs]at aM bU;exact Zy (wpAny_Return_none (hQ (.ret .none) _ _ _ _ _ _ aM (F.carry S s7 bU) bU))
theorem FS {Q:jeB->Y4->Prop}(FC:bb G A bE sB ah ab iP)(L:jw A ab f cI)(S:SR G sB aj ah ab iP φ (vS x lo hi n) (gB ds) β P m s)(F:cj G s φ β P f cD cN cI fd (.ref 0) n)
 (hn:n<=64) (aO:ds.length<=1000) (Fb:lo<hi) (jf:hi<=ds.length) (hx:x<2^(n*(hi-lo))) (s0:x<2^4096)
 (ih:lo+1<hi->∀ds i j x,ds.length<=1000->i<j->j<=ds.length->2*(j-i)<=hi-lo+1->x<2^(n*(j-i))->x<2^4096->wT G A sB aj ah f cD cN cI fd n ds i j x)
 (hQ:∀fl eG,gT G sB aj ah ab iP f cD cN cI fd (.ref 0) n φ (gB ds) β P s eG (gB (fP n ds lo hi x)) (Q fl)):Y' (Zb af wd) A (ZN (s5 p) ab) Q ax s:=by
 refine FY FC (b:=decide ((lo:Int)+1=hi)) (cK (cb (ag (i:=1) rfl) bK rfl) (ag (i:=2) rfl) rfl) S F (λhb ay ak aw aM fU=>?_) (λhb ay ak aw aM fU=>jbc ?_)
 ·have e:hi=lo+1:=(jeI (of_decide_eq_true hb)).symm;subst e;rw[jbU,Nat.mul_one]at hx;exact Rj FC aM fU jf aO hx λfl eG=>(hQ fl eG).go aw
 ·have e:lo+1<hi:=Nat.lt_of_le_of_ne Fb λq=>of_decide_eq_false hb (q▸rfl);have ih:=ih e;clear hb;refine pY (EK e) λh1 h2 h3 h4=>?_;have hm:ev bE (gB ds) (vS x lo hi n) (.bin .RShift (.bin .Add (.var 1) (.var 2)) (.c (.int 1)))=some (.int ((lo+hi)/2:Nat)):=cb (cb (ag (i:=1) rfl) (ag (i:=2) rfl) rfl) bK EJ;generalize(lo+hi)/2=bv at *;have g1:=ZM h1;have g2:=ZM h2;have hs:n*(bv-lo)<=1000000:=Y1 (jbk hn (Y1 (jih _ _) (Y1 g2 (Y1 jf aO)))) (by decide);refine pq FC s7 (i:=3) rfl hm aM fU λaV dm ck dh aC br gD cY=>?_;refine pq FC s7 (i:=4) rfl (Rl (lo:=lo) (bv:=bv) g1 hn rfl rfl rfl) br gD λeU oZ o8 ky dj ey rh dp=>?_;refine pq FC s7 (i:=5) rfl (cb (ag (i:=0) rfl) (ag (i:=4) rfl) (Va hs)) ey rh λml BG wY jQ eE gl rj jX=>?_;refine pq FC s7 (i:=6) rfl (Rh hs s0 rfl rfl rfl) gl rj λwN IQ BM Az dN rB IT BI=>?_;refine xE rfl FC L (gJ (ag rfl) (ag rfl) (ag rfl)) (ih ds lo bv _ aO h1 (Y1 g2 jf) h4 (ZL _ (jaC _)) (Zz (Nat.mod_le _ _) s0)) rB IT λX' YY Ya YJ qT uu IU nE=>?_;have hl:(fP n ds lo bv (x%2^(n*(bv-lo)))).length=ds.length:=UK g1 (Y1 g2 jf);refine xE rfl FC L (gJ (ag rfl) (ag rfl) (ag rfl)) (ih _ bv hi _ (hl▸aO) h2 (hl▸jf) h3 (Re g1 g2 hx) (Zz (jgm _ _) s0)) uu IU λq9 YZ Yb YK lz BN IV BJ=>jbc ?_;rw[UM g1 g2 jf]at BN BJ;exact hQ .next _ _ _ _ _ _ BN IV ((bu.go aw).trans (cY.trans (dp.trans (jX.trans (BI.trans (nE.trans BJ))))))
theorem FT {t8 ua ue:Value}{K:Value->Prop}{k:Nat}(Fd:kK G fd iP (s5 p) "a_digits" cD cN cI) (jc:∀x y z:Value,jbQ fd ⟨[x,y,z],[]⟩=pure [(("x" : Str),x),(("L" : Str),y),(("R" : Str),z)]) (IB:bh G sB.heap) (hG:dD G) (hN:gE G) (hP₀:∀a,sB.heap.objs.size<=a->ah a) (D:dQ A (k+1))
 (S:SR G sB aj ah ab T φ ρ σ β P m s) (F:cj G s φ β P f cD cN cI fd (.ref 0) n) (rx:VR G.tok φ s.heap β P (.int x) t8) (ry:VR G.tok φ s.heap β P (.int lo) ua) (rz:VR G.tok φ s.heap β P (.int hi) ue)
 (l0:∀(A':ZV) (eZ:Env) (s':Y4) (P':Ze->Prop) (m':Str->Option Value) (Q:jeB->Y4->Prop),dQ A' k->bb G A' bE sB ah eZ iP->jw A' eZ f cI->SR G sB aj ah eZ iP φ (vS x lo hi n) σ β P' m' s'->cj G s' φ β P' f cD cN cI fd (.ref 0) n ->
  (∀fl eG,K (n9 fl)->gT G sB aj ah eZ iP f cD cN cI fd (.ref 0) n φ σ β P' s' eG an (Q fl))->Y' (Zb af wd) A' (ZN (s5 p) eZ) Q ax s'):
 Y' (Zb af wd) A (call (.ref f) [t8,ua,ue]) (uo G sB aj ah ab T φ ρ σ β P m s an K) ax s :=
 F4 Fd IB hG hN hP₀ D S F (jc t8 ua ue) (aS rfl (aS rfl (aS rfl jA))) rfl
  (aS (λv e=>.loc e rfl rfl rx) (aS (λv e=>.loc e rfl rfl ry) (aS (λv e=>.loc e rfl rfl rz) (aS (λv e=>nn e) (aS (λv e=>nn e) (aS (λv e=>nn e) (aS (λv e=>nn e) (aS (λv e=>.dig e) (aS (λv e=>.num e) jA))))))))) l0
theorem Rg (Fd:kK G fd iP (s5 p) "a_digits" cD cN cI) (jc:∀x y z:Value,jbQ fd ⟨[x,y,z],[]⟩=pure [(("x" : Str),x),(("L" : Str),y),(("R" : Str),z)]) (IB:bh G sB.heap) (hG:dD G) (hN:gE G) (hP₀:∀a,sB.heap.objs.size<=a->ah a) (hn:n<=64):
 ∀(k:Nat) (A:ZV),dQ A (k+1)->∀(ds:List Int) (lo hi x:Nat),ds.length<=1000->lo<hi->hi<=ds.length->hi-lo<=2^k->x<2^(n*(hi-lo))->x<2^4096->wT G A sB aj ah f cD cN cI fd n ds lo hi x:=by
 intro k
 induction k with
 |zero =>
  intro A D ds lo hi x h0 h1 h2 h3 h4 h5 ab T φ ρ β P m s xs S F r;refine r.e3 λt8 ua ue rx ry rz=>?_;exact FT Fd jc IB hG hN hP₀ D S F rx ry rz λA' eZ s' P' m' Q D' FC L S' F' hQ=>FS FC L S' F' hn h0 h1 h2 h4 h5 (λq=>absurd h3 (by lia)) λfl eG=>hQ fl eG trivial
 |succ k ih =>
  intro A D ds lo hi x h0 h1 h2 h3 h4 h5 ab T φ ρ β P m s xs S F r;refine r.e3 λt8 ua ue rx ry rz=>?_;exact FT Fd jc IB hG hN hP₀ D S F rx ry rz λA' eZ s' P' m' Q D' FC L S' F' hQ=>FS FC L S' F' hn h0 h1 h2 h4 h5 (λY ds i j x q0 q1 q2 q3 q4 q5=>ih A' D' ds i j x q0 q1 q2 (by rw[jcV]at h3;lia) q4 q5) λfl eG=>hQ fl eG trivial
end
def Hg (x y z:Str)(p q r:Pos):jbl:=⟨[],[⟨x,none,p⟩,⟨y,none,q⟩,⟨z,none,r⟩],none,[],[],none,[]⟩
def zW:jaB:={ kind:=.function,names:=FQ,isGenerator:=false,isCoroutine:=false }
def s6:jaB:={ kind:=.function,names:=[("a",.local),("n",.cell),("a_digits",.cell),("inner",.cell),("len",.globalImplicit)],isGenerator:=false,isCoroutine:=false }
def zV (p q:Nat->Pos):List Stmt :=
 [.Assign [.Name "a_digits" (p 0)] (.BinOp (.List [.Constant (.int 0) 0 (p 1)] (p 2)) .Mult (.BinOp (.BinOp (.BinOp (.Call (.Attribute (.Name "a" (p 3)) "bit_length" (p 4)) [] [] (p 5)) .Add (.Name "n" (p 6)) (p 7)) .Sub (.Constant (.int 1) 0 (p 8)) (p 9)) .FloorDiv (.Name "n" (p 10)) (p 11)) (p 12)) (p 13),
  .FunctionDef "inner" (Hg "x" "L" "R" (q 50) (q 51) (q 52)) (s5 q) [] none [] zW none "inner" (q 53),
  .If (.Name "a" (p 14)) [.Expr (.Call (.Name "inner" (p 15)) [.Name "a" (p 16),.Constant (.int 0) 0 (p 17),.Call (.Name "len" (p 18)) [.Name "a_digits" (p 19)] [] (p 20)] [] (p 21)) (p 22)] [] (p 23),
  .Return (some (.Name "a_digits" (p 24))) (p 25)]
theorem JP :
 jbQ (fnX "inner" qual (Hg "x" "L" "R" p q r) body sc cg .none .none bG pm none cv bZ) ⟨[u,v,x],[]⟩=pure [(("x" : Str),u),(("L" : Str),v),(("R" : Str),x)]:=by rfl
def kr:Tb:=dy ["a","n"] s6
theorem Ra:kr.var "inner" = some 3:=by rfl
def bA (n a:Nat):Nat:=(Zm a+n-1)/n
set_option tactic.hygienic true in
theorem z9 {a:Nat}:a<2^Zm a:=by
 unfold Zm;split
 ·rename_i h;have:a=0:=by simpa using h
  subst this;decide
 ·refine aa (ZR _) ?_;exact Nat.lt_log2_self
theorem xR {n a:Nat}(hn:0<n):a<2^(n*bA n a):=by
 refine bf z9 (Zl (by decide) ?_);unfold bA;generalize Zm a=b;have:=jbt (b+n-1) n;have h2:=ZL (b+n-1) hn
 lia
theorem xS (hn:0<n)(ha:a<2^1000):bA n a<=1000:=by
 have:=vX (a:=a) (k:=1000) (by rwa [ZR]);unfold bA;generalize Zm a=b at this;have h1:(b+n-1)/n<1001:=by
  rw[jdb hn];have:1000*n >= 1000:=Nat.le_mul_of_pos_right _ hn
  lia
 exact jaV h1
theorem LH (hn:0<n):bA n 0=0:=by
 unfold bA;have:Zm (0:Nat)=0:=rfl;refine aa this ?_;exact jet (by omega)
theorem LG (hn:0<n)(ha:a≠0):0<bA n a:=by
 refine jdR λe=>?_;have:=xR (a:=a) hn;rw[e]at this;simp at this;exact ha this
theorem yP (σ:aA)(k:Nat):∀ds:List Int,bj (aZ σ (k+1)) (ds.map AV.int)=some (ds.map AV.int)
 | []=>rfl
 |d::ds=>by
  rw[ZC,gO,yP σ k ds];rfl
section
theorem Sw (hl:s.heap.IsList l vs.toArray)(h0:0<=x)(jf:x<=100000)(be:vs.length<=1)(h:Q (.ref s.heap.objs.size) { s with heap:=s.heap.push { cls:=.type "list",dict:=none,data:=.seq (Zh x.toNat vs).flatten.toArray } }):Y' (Zb af wd) A (jej .Mult (.ref l) (.int x u)) Q E s:=by
 obtain⟨⟨cls,d,data,sl⟩,ho,hcl,k,hd⟩:=id hl;simp only at hcl hd;subst hcl hd;have QM:vs.toArray.size*x.toNat<=100000:=by
  have:vs.toArray.size<=1:=by simpa using be
  exact Y1 (jbk this (Y5 _)) (by simp[*])
 have YD:vs.length*x.toNat<=100000:=by simpa using QM
 refine wpAny_binaryOp_repeat_ref (T := "list") (U := "int") (by decide) ⟨_,ho,rfl⟩ (λs'=>typeIs_int s' x u) noFill_list_mul F.fills_int_mul F.slot_int_rmul repeat_list F.slot_int_index.lookup
  (jdx F.slot_int_rmul (typeIs_int s x u) F.entry_int_rmul (F.args_int_rmul_2 _ _) (lm_int_rmul_list_any x u l vs.toArray k d sl)
   ⟨ho,rfl,⟨_,ho,rfl⟩,jdx F.slot_list_mul ⟨_,ho,rfl⟩ F.entry_list_mul (F.args_list_mul_2 _ _)
    (lm_list_mul_any l vs.toArray k d sl x u (by simp[Builtin.List.listFitsIndex];lia) (by lia) (by simp[jfz,jcO];lia))
    ⟨ho,?_⟩⟩)
 refine aa (listMul_foldl_if _ _) ?_;exact h
theorem D0 {α:Type}(x:α):∀k:Nat,(Zh k [x]).flatten=Zh k x
 |0=>rfl
 |k+1=>by refine aa List.replicate_succ ?_;refine aa jin ?_;refine aa (D0 x k) ?_;rfl
theorem Iy:∀k:Nat,ar tk φ h β P ((Zh k (0:Int)).map .int) (Zh k (.int 0 t))
 |0=>.nil
 |k+1=>.cons (.int _ _) (Iy k)
theorem UJ (ds:List Int)(h:ds.length=k):fP n ds 0 k x=dg n k x:=by
 rw[fP,List.take_zero,jaY,jhl,jcS (ZK h),Z2]
theorem Rk:rq kr iP "a_digits" zW [("x",.local),("L",.local),("R",.local),("mid",.local),("shift",.local),("upper",.local),("lower",.local)] 1 2 where
 hs:=rfl
 hl:=by decide +kernel
 tb:=⟨rfl,λx hx q=>absurd (Y6.mp (by decide +kernel:zW.names.all (λe=>e.2 != .cell)=true) x hx) (by refine aa q ?_;decide),rfl,Rb⟩
 co:=rfl
 gen:=rfl
 cell:=cz rfl rfl rfl
 free:=cz rfl rfl rfl
 kI:=rfl
 kN:=rfl
 kD:=rfl
 vN:=rfl
 vD:=rfl
 ne:=by decide
 look:=λY Y Y=>rfl
def m7 (a n:Nat)(v:Option AV):aB:=[some (.int a),some (.int n),v,none]
theorem K2 {σ:aA}{a n:Nat}(dv:0<n)(hn:n<=64):dE σ .FloorDiv (.int ((Zm a:Int)+n-1)) (.int n)=some (.int (bA n a)):=by
 refine(if_neg λq=>?_).trans ?_
 ·rw[show small (n:Int)=true from decide_eq_true (by rw[ZR];exact Zz hn (by decide))]at q;exact q.elim (λq=>absurd (jeI q) (jaU dv)) λq=>nomatch q
 ·rw[jao _ (Zi _),bA,jcx,jdr (Y1 dv (jcg _ _)),jbu];rfl
theorem Rc (dv:0<n)(hn:n<=64)(sR:p4.endLine=p5.line):
 ev bE σ (m7 a n v) (ao kr (.BinOp (.BinOp (.BinOp (.Call (.Attribute (.Name "a" p3) "bit_length" p4) [] [] p5) .Add (.Name "n" p6) p7) .Sub (.Constant (.int 1) 0 p8) p9) .FloorDiv (.Name "n" p10) p11))=some (.int (bA n a)):=by
 have hm:ff (.Name "a" p3) 0 p4 p5=true:=by
  show(true&&(p4.endLine==p5.line)&&true)=true;rw[sR,jcC,jfl];exact beq_self_eq_true _
 refine(congrArg (λb=>ev bE σ (m7 a n v) (.bin .FloorDiv (.bin .Sub (.bin .Add (Aw ("bit_length" : Str) b (.var 0) true .nil) (.var 1)) (.c (.int 1))) (.var 1))) hm).trans ?_;have hb:ev bE σ (m7 a n v) (.call .bitLength (.cons (.var 0) .nil))=some (.int (Zm a)):=by rw[kW,cT (ag rfl)];rfl
 exact cb (cb (cb hb (ag (i:=1) rfl) rfl) bK rfl) (ag (i:=1) rfl) (K2 dv hn)
theorem Rd {A:ZV}{ab:Env}{G:GD}{s:Y4}{φ:Gh}{P ah:Ze->Prop}{m:Str->Option Value}{sB:Y4}{aj:Gh}{p:Nat->Pos}{a n:Nat}{Q:jeB->Y4->Prop}(FC:bb G A bE sB ah ab kr)(S:SR G sB aj ah ab kr φ (m7 a n none) [] [] P m s)(dv:0<n)(hn:n<=64)(sI:a<2^1000)(sR:(p 4).endLine=(p 5).line)(hQ:∀am aH P' m' s',SR G sB aj ah ab kr am (m7 a n (some (.ref 0))) (gB (Zh (bA n a) 0)) aH P' m' s'->Q .next s'):
 Y' (Zb af wd) A (Z0 (.Assign [.Name "a_digits" (p 0)] (.BinOp (.List [.Constant (.int 0) 0 (p 1)] (p 2)) .Mult (.BinOp (.BinOp (.BinOp (.Call (.Attribute (.Name "a" (p 3)) "bit_length" (p 4)) [] [] (p 5)) .Add (.Name "n" (p 6)) (p 7)) .Sub (.Constant (.int 1) 0 (p 8)) (p 9)) .FloorDiv (.Name "n" (p 10)) (p 11)) (p 12)) (p 13)) ab) Q ax s:=by
 have oi:=xS dv sI;refine jby (jcP ((cH FC.hO _ _ (Y5 _) _ _ _ (.lst [.int 0]) FC.hE rfl).1.post (S.inv FC.IB) S.er λxl aC aV aP dJ bW bI=>(cH FC.hO _ _ (Y5 _) _ _ _ _ FC.hE (Rc dv hn sR)).1.post dJ bW λxc dj eU cn rm i3 jn=>?_)) rfl;have ey:=(S.go aP).go cn;refine jn.e_int λt3=>(bW.vr cn bI).e_lst λl IC hl pl rl=>rl.e1 (motive:=λIC=>dj.heap.PlainList l IC.toArray->_) (λy ry=>ry.e_int λty hl=>?_) hl;refine Sw hl.isList (Zi _) (jcb.mpr (Y1 oi (by decide))) (Y5 _) ?_;refine aa (ZB _) ?_;refine aa (D0 _ _) ?_;refine kf (H' ey (Iy (t:=ty) (bA n a))) λml BG wY jQ gl jX Vb=>?_;exact nw FC (x := "a_digits") (i:=2) rfl gl Vb λdN Az rB BI Y=>hQ _ _ _ _ _ rB
theorem FR (FC:bb G A bE sB ah ab kr)(S:SR G sB aj ah ab kr φ (m7 a n (some (.ref 0))) (gB ds) β P m s):Y' (Zb af wd) A (ZN [.Return (some (.Name "a_digits" p1)) p2] ab) (nC G sB aj ah (.lst (ds.map .int))) ax s :=
 Zy (jbw ((cH FC.hO _ _ (Y5 _) _ _ _ (.ref 0) FC.hE rfl).1.post (S.inv FC.IB) S.er λxv ak ay aw bd aI aF=>⟨xv,rfl,ay,(S.go aw).done,(S.go aw).frozen (v:=.ref 0) FC.hP₀ (congrArg (Z' AV.lst) (yP (gB ds) 4 ds)) aF⟩))
theorem Sp (h0:ρ[i]?=some (some (.ref 0)))(hl:ds.length<=1000):ev bE (gB ds) ρ (.call .len (.cons (.var i) .nil))=some (.int ds.length):=by
 rewrite [kW];refine aa (cT (ag h0)) ?_;show(if(ds.map AV.int).length<=100000 then some (AV.int ((ds.map AV.int).length:Nat))else none)=_;refine aa (Y0 _) ?_;refine aa (if_pos (Y1 hl (by decide))) ?_;rfl
theorem Rf {A:ZV}{ab:Env}{G:GD}{s:Y4}{φ:Gh}{β:List Ze}{P ah:Ze->Prop}{m:Str->Option Value}{sB:Y4}{aj:Gh}{p:Nat->Pos}{a n:Nat}{f cD cN cI:Ze}{i9:jay}(FC:bb G A bE sB ah ab kr)(L:jw A ab f cI)(S:SR G sB aj ah ab kr φ (m7 a n (some (.ref 0))) (gB (Zh (bA n a) 0)) β P m s)(F:cj G s φ β P f cD cN cI i9 (.ref 0) n)(dv:0<n)(oi:bA n a<=1000)(H:a≠0->wT G A sB aj ah f cD cN cI i9 n (Zh (bA n a) 0) 0 (bA n a) a):
 Y' (Zb af wd) A (ZN [.If (.Name "a" (p 14)) [.Expr (.Call (.Name "inner" (p 15)) [.Name "a" (p 16),.Constant (.int 0) 0 (p 17),.Call (.Name "len" (p 18)) [.Name "a_digits" (p 19)] [] (p 20)] [] (p 21)) (p 22)] [] (p 23),.Return (some (.Name "a_digits" (p 24))) (p 25)] ab) (nC G sB aj ah (.lst ((dg n (bA n a) a).map .int))) ax s:=by
 refine Zy (jeJ (jfn (t6 FC (v:=.int a) rfl S F λx ay ak aw aM fU aF=>aF.e_int λt=>truthy_int ?_) rfl));by_cases hz:a=0
 ·subst hz;refine aa (if_neg (by decide)) ?_;rw[LH dv]at aM ⊢;exact jbc (FR FC aM)
 ·refine aa (if_pos (by simpa using hz)) ?_;have el:ev bE (gB (Zh (bA n a) 0)) (m7 a n (some (.ref 0))) (.call .len (.cons (.var 2) .nil))=some (.int (bA n a)):=(Sp rfl (by refine aa jax ?_;exact oi)).trans (by refine aa jax ?_;rfl);refine xE (az:=[]) rfl FC L (gJ (ag (i:=0) rfl) bK el) (H hz) aM fU λaV dm ck dh aC br gD cY=>jbc ?_;rw[UJ _ jax]at br;exact FR FC br
theorem Ri {A:ZV}{G:GD}{p q:Nat->Pos}{a n:Nat}{fd:jay}{t:Ze×Ze×Pos×Str}{x:Str}{k:Nat}(O:ut G fd ["a","n"] (zV p q) t (q 53)) (fJ:fd.scope=s6) (hk:G.fns k=some (x,fd)) (hG:dD G) (hN:gE G) (D:dQ A 13) (sI:a<2^1000) (dv:0<n) (hn:n<=64) (sR:(p 4).endLine=(p 5).line) {fa:Ze} (ha:G.mg x=some (.ref fa)):kF G A (.ref fa) [.int a,.int n] (.lst ((dg n (bA n a) a).map .int)):=by
 have hT:dy ["a","n"] fd.scope=kr:=by refine aa fJ ?_;rfl
 refine sw (Φ:=bE) O.ok hk (Zz (ZD _ _) D.depth) (λab=>rG (D.deeper ab) hG hN) rfl (λL fa s φ P P' m ak FC S=>?_) ha;rw[hT]at FC S;refine Zy (Rd FC S dv hn sI sR λay dc cC da ak aM=>?_);refine Zy (G9 Rk FC aM O.tm O.tu O.code ?_ O.pos rfl rfl rfl (λi v hi hv=>?_) rfl rfl λi9 f s' cD cN cI oq Fd Ld br gD=>?_)
 ·unfold jeg;refine aa (show(jbb fd L fa).kindOf ("inner" : Str)=s6.names.lookup ("inner" : Str)from congrArg (λsc:jaB=>sc.names.lookup ("inner" : Str)) fJ) ?_;refine aa (if_neg (by decide)) ?_;exact O.qual
 ·cases Ra.symm.trans hi;exact nn hv
 ·have oi:=xS dv sI;have hl:(Zh (bA n a) (0:Int)).length=bA n a:=jax;refine Rf FC Ld br gD dv oi λhz=>Rg Fd (λx y z=>?_) FC.IB hG hN FC.hP₀ hn 10 _ ((D.deeper _).le (by decide)) _ 0 (bA n a) a (hl.symm▸oi) (LG dv hz) (ZK hl.symm) (Y1 oi (by decide)) (xR dv) (bf sI (Zl (by decide) (by decide)));refine uX oq ?_;rintro cg bG pm c' bZ rfl;exact JP
end
def uA:jaB:={ kind:=.function,names:=[("code",.local),("ord",.globalImplicit),("b1_set",.globalImplicit)],isGenerator:=false,isCoroutine:=false }
def uy (p:Nat->Pos):List Stmt:=[.Return (some (.Compare (.Call (.Name "ord" (p 0)) [.Name "code" (p 1)] [] (p 2)) [.In] [.Name "b1_set" (p 3)] (p 4))) (p 5)]
def uB:jaB:={ kind:=.function,names:=[("code",.local),("r",.local),("b3_exceptions",.globalImplicit),("ord",.globalImplicit)],isGenerator:=false,isCoroutine:=false }
def xm (p:Nat->Pos):List Stmt :=
 [.Assign [.Name "r" (p 0)] (.Call (.Attribute (.Name "b3_exceptions" (p 1)) "get" (p 2)) [.Call (.Name "ord" (p 3)) [.Name "code" (p 4)] [] (p 5)] [] (p 6)) (p 7),
  .If (.Compare (.Name "r" (p 8)) [.IsNot] [.Constant .none 0 (p 9)] (p 10)) [.Return (some (.Name "r" (p 11))) (p 12)] [] (p 13),
  .Return (some (.Call (.Attribute (.Name "code" (p 14)) "lower" (p 15)) [] [] (p 16))) (p 17)]
def iy (c:Nat):List Nat:=match j2 c with
 |some x=>x.cps.toList
 |none=>(jiM ⟨[c].toArray⟩).cps.toList
section
def xh:Tb:=dy ["code"] uA
theorem Jy (FC:bb G A bE sB ah ab xh)(S:SR G sB aj ah ab xh φ [some (.str [c])] [] [] P m s):Y' (Zb af wd) A (ZN (uy p) ab) (nC G sB aj ah (.bool (dz c))) ax s:=by
 refine Zy (jbw (jhj ((cH FC.hO _ _ (Y5 _) _ _ _ (.int c) FC.hE rfl).1.post (S.inv FC.IB) S.er λxo aC aV aP dJ bW bI=>bI.e_int λt=>?_) rfl));refine bB dJ.b1 λsa n g1 g2=>?_;have cn:GX G aC aV { aC with toks:=aC.toks+1 } aV:=.same aP.tk bF.tok (ZY _);exact jR FC.hE rfl (.inl g1) dJ (wpAny_inSet_of (jeh _ _ _ _) rfl g2 ⟨_,rfl,aV,((S.go aP).go cn).done,.bool _⟩)
theorem RD (O:eu fd d ["code"] (uy p) mu) (fJ:fd.scope=uA) (hk:G.fns k=some (x,fd)) (hG:dD G) (hN:gE G) (D:dQ A 2) (ha:G.mg x=some (.ref fa)):kF G A (.ref fa) [.str [c]] (.bool (dz c)):=by
 have hT:dy ["code"] fd.scope=xh:=by refine aa fJ ?_;rfl
 refine sw (Φ:=bE) O hk (Zz (ZD _ _) D.depth) (λab=>rG (D.deeper ab) hG hN) rfl (λL fa s φ P P' m ak FC S=>?_) ha;rw[hT]at FC S;exact Jy FC S
def mB:Tb:=dy ["code"] uB
def wO (c:Nat)(r:AV):Prop:=(∃x,j2 c=some x/\r=.str x.cps.toList)\/(j2 c=none/\r=.none)
theorem JC {G:GD}{c:Nat}{g:Int->Option Value}(g4:∀k x,j2 k=some x->∃t,g k=some (.str x t))(g5:∀k,j2 k=none->g k=none):∃r:AV,VR G.tok φ h β P r ((g c).getD .none)/\wO c r:=by
 induction hb:j2 c using ae with
 |some x =>
  refine aX (g4 _ _ hb) λt' ht=>?_;exact aN (.str x.cps.toList) (ht▸.str _ _) (.inl ⟨x,hb,rfl⟩)
 |none=>exact aN (.none) (g5 _ hb▸.none) (.inr ⟨hb,rfl⟩)
theorem S6 (g3:s.heap.MapOf (jap af wd) ba g)(TB:bz G s.heap)(k:GX G s φ s' am):s'.heap.MapOf (jap af wd) ba g:=by
 refine kX g3 λo es ep ho hx hd r=>?_;exact⟨o,es,ep,k.ext _ _ (TB.notX_data ho λvs q=>nomatch hd.symm.trans q) ho,hx,hd,r⟩
theorem S7 {s:Y4}(g3:s.heap.MapOf (jap af wd) ba g)(a:Ze)(e:jbz ba=.ref a):∃ob,s.heap.get? a=some ob/\ob.dict=none:=by
 refine ka g3 λo es ep ho hx Y=>?_;exact aN o (jdG e▸ho) hx.2.1
theorem JA {c:Nat}{Q:jeB->Y4->Prop}{p0 p1 p2 p3 p4 p5 p6 p7:Pos}(FC:bb G A bE sB ah ab mB)(S:SR G sB aj ah ab mB φ [some (.str [c]),none] [] [] P m s)(hl:p2.endLine=p6.line)(hQ:∀r am m' s',wO c r->SR G sB aj ah ab mB am [some (.str [c]),some r] [] [] P m' s'->Q .next s'):
 Y' (Zb af wd) A (Z0 (.Assign [.Name "r" p0] (.Call (.Attribute (.Name "b3_exceptions" p1) "get" p2) [.Call (.Name "ord" p3) [.Name "code" p4] [] p5] [] p6) p7) ab) Q ax s:=by
 refine DC ((S.inv FC.IB).b3) λba g g1 g2 g3 g4 g5=>?_;refine jby (jbx (pr rfl) rfl (by refine aa hl ?_;exact beq_self_eq_true _) (jR FC.hE rfl (.inl g1) (S.inv FC.IB) ?_)) rfl;refine⟨"dict","dict.get",jdY,jbZ,jgQ,g3.typeIs,S7 g3,jaG rfl ?_⟩;have oC:=(j8 FC.hE (λe Y=>cH FC.hO _ e (Y5 _)) (σ:=[]) (ρ:=[some (.str [c]),none]) (es:=[.Call (.Name "ord" p3) [.Name "code" p4] [] p5]) (vs:=[.int c]) rfl).2 p6;refine jdm (oC.post (S.inv FC.IB) S.er λxs aC aV aP dJ bW bI=>bI.e1 λwJ q1=>q1.e_int λt=>?_);have Eo:=S6 g3 S.tabs.1 aP;refine jgg jbZ Eo.typeIs jel (PySem.F.args_dict_get_2 _ _) (meets_dict_get (jap af wd) ba (jeh af wd c t) g2) ⟨_,Eo,?_⟩;have cn:GX G aC aV { aC with toks:=aC.toks+1 } aV:=.same aP.tk bF.tok (ZY _);refine au (JC (G:=G) (φ:=aV) (h:=aC.heap) (β:=[]) (P:=P) (c:=c) g4 g5) λr rr hr=>?_;exact nw FC (x := "r") (i:=1) rfl ((S.go aP).go cn) rr λeE jQ gl jX Y=>hQ _ _ _ _ hr gl
theorem JD (FC:bb G A bE sB ah ab mB)(S:SR G sB aj ah ab mB φ [some (.str [c]),r] [] [] P m s)(hl:p1.endLine=p2.line)(hx:j2 c=none):
 Y' (Zb af wd) A (ZN [.Return (some (.Call (.Attribute (.Name "code" p0) "lower" p1) [] [] p2)) p3] ab) (nC G sB aj ah (.str (iy c))) ax s:=by
 refine Zy (jbw (jbx (pr rfl) rfl (by refine aa hl ?_;exact beq_self_eq_true _) ((cH FC.hO _ _ (Y5 _) _ _ _ (.str [c]) FC.hE rfl).1.post (S.inv FC.IB) S.er λxc lz q9 v5 I2 Jb A4=>A4.e_str λt'=>?_)));refine⟨"str","str.lower",jbT,jgE,PySem.F.type_str_lower,jcT _ _ _,(λa e=>nomatch e),jaG rfl (jbY ?_)⟩;have vp:jgv (jiM ⟨[c].toArray⟩).length=false:=by
  have:=len_lower ⟨[c].toArray⟩;have e1:(⟨[c].toArray⟩:Str).length=1:=rfl;rw[e1]at this;exact decide_eq_false (ZW.mpr (Y1 this (by decide)))
 refine call_gives jgE (jcT _ _ _) PySem.F.entry_str_lower (PySem.F.args_str_lower_1 _) (gives_str_lower _ t' vp) ⟨fit_le vp,?_⟩;have Sa:GX G lz q9 { lz with toks:=lz.toks+1 } q9:=.same v5.tk bF.tok (ZY _);have:iy c=(jiM ⟨[c].toArray⟩).cps.toList:=by unfold iy;refine aa hx ?_;rfl
 refine aa this ?_;exact⟨_,rfl,q9,((S.go v5).go Sa).done,.str _ _⟩
theorem JE {A:ZV}{ab:Env}{G:GD}{s:Y4}{φ:Gh}{P ah:Ze->Prop}{m:Str->Option Value}{sB:Y4}{aj:Gh}{p:Nat->Pos}{c:Nat}{r:AV}(FC:bb G A bE sB ah ab mB)(S:SR G sB aj ah ab mB φ [some (.str [c]),some r] [] [] P m s)(hr:wO c r)(hl:(p 15).endLine=(p 16).line):
 Y' (Zb af wd) A (ZN [.If (.Compare (.Name "r" (p 8)) [.IsNot] [.Constant .none 0 (p 9)] (p 10)) [.Return (some (.Name "r" (p 11))) (p 12)] [] (p 13),.Return (some (.Call (.Attribute (.Name "code" (p 14)) "lower" (p 15)) [] [] (p 16))) (p 17)] ab) (nC G sB aj ah (.str (iy c))) ax s:=by
 refine Zy (jeJ (jfU ((cH FC.hO _ _ (Y5 _) _ _ _ r FC.hE rfl).1.post (S.inv FC.IB) S.er λxr dN wN qx I0 I9 wu=>(cH FC.hO _ _ (Y5 _) _ _ _ .none FC.hE rfl).1.post I0 I9 λxn qT X' R9 I1 Ja Vc=>?_) rfl));have uu:=(S.go qx).go R9;refine aa (show xn=.none from Vc.inv) ?_;rcases hr with⟨x,hx,rfl⟩|⟨hx,rfl⟩
 ·refine wu.e_str λt'=>wpAny_isNot_plain rfl (jaJ ?_);refine aa (if_pos (by rfl)) ?_;refine Zy (jbw ((cH FC.hO _ _ (Y5 _) _ _ _ (.str x.cps.toList) FC.hE rfl).1.post I1 Ja λxr lz q9 v5 I2 Jb A4=>?_));have:iy c=x.cps.toList:=by unfold iy;refine aa hx ?_;rfl
  refine aa this ?_;exact⟨_,rfl,q9,(uu.go v5).done,A4.scalar rfl λY Y e=>e⟩
 ·refine aa (show xr=.none from wu.inv) ?_;refine wpAny_isNot_plain rfl (jaJ ?_);refine aa (if_neg (by decide)) ?_;exact jbc (JD FC uu hl hx)
theorem S5 {A:ZV}{G:GD}{mu:List Str}{p:Nat->Pos}{fd:jay}{d:dC}{x:Str}{k:Nat}{c:Nat}(O:eu fd d ["code"] (xm p) mu) (fJ:fd.scope=uB) (hk:G.fns k=some (x,fd)) (hG:dD G) (hN:gE G) (D:dQ A 2) (P7:(p 2).endLine=(p 6).line) (vy:(p 15).endLine=(p 16).line) {fa:Ze} (ha:G.mg x=some (.ref fa)):kF G A (.ref fa) [.str [c]] (.str (iy c)):=by
 have hT:dy ["code"] fd.scope=mB:=by refine aa fJ ?_;rfl
 refine sw (Φ:=bE) O hk (Zz (ZD _ _) D.depth) (λab=>rG (D.deeper ab) hG hN) rfl (λL fa s φ P P' m ak FC S=>?_) ha;rw[hT]at FC S;exact Zy (JA FC S P7 λr am m' s' hr S'=>JE FC S' hr vy)
end
def tD:List AV->Option AV
 | [.int a,.int n]=>if 0<=a/\a<2^1000/\0<n/\n<=64 then some (.lst ((dg n.toNat (bA n.toNat a.toNat) a.toNat).map .int))else none
 |_=>none
def tE:List AV->Option AV
 | [.lst ds,.int n]=>match cQ ds with
  |some is=>if is.length<=1000/\0<=n/\n<=64/\is.all (λd=>decide (d.natAbs<2^64))=true then some (.int (cB n is))else none
  |none=>none
 |_=>none
def tM (f:Nat->AV):List AV->Option AV
 | [.str [c]]=>some (f c)
 |_=>none
def gb:cX:=λk as=>if k=1 then tD as else if k=2 then tE as else if k=8 then tM (λc=>.bool (dz c)) as else if k=9 then tM (λc=>.str (iy c)) as else none
theorem UB:tD [.int a,.int n]=if 0<=a/\a<2^1000/\0<n/\n<=64 then some (.lst ((dg n.toNat (bA n.toNat a.toNat) a.toNat).map .int))else none:=rfl
theorem UD:tE [.lst ds,.int n]=match cQ ds with
 |some is=>if is.length<=1000/\0<=n/\n<=64/\is.all (λd=>decide (d.natAbs<2^64))=true then some (.int (cB n is))else none
 |none=>none:=rfl
structure wW (G:GD):Prop where
 p1:∃x fd t p q,G.fns 1=some (x,fd)/\ut G fd ["a","n"] (zV p q) t (q 53)/\fd.scope=s6/\(p 4).endLine=(p 5).line
 p2:∃x fd t p q,G.fns 2=some (x,fd)/\ut G fd ["digits","n"] (xN p q) t (q 42)/\fd.scope=rW
 p8:∃x fd d p mu,G.fns 8=some (x,fd)/\eu fd d ["code"] (uy p) mu/\fd.scope=uA
 p9:∃x fd d p mu,G.fns 9=some (x,fd)/\eu fd d ["code"] (xm p) mu/\fd.scope=uB/\(p 2).endLine=(p 6).line/\(p 15).endLine=(p 16).line
theorem S4:∀{is:List Int},bj Ac ds=some is->ds=is.map .int:=by
 induction ds with
 |nil=>exact λh=>aG (Q:=λis=>[]=is.map AV.int) h rfl
 |cons d ds ih =>
  intro is h;refine bS (wb h) ?_;rintro b cs rfl h1 h2;refine aa ZC ?_;refine rwj (ih h2) ?_
  induction d using AV.casesOn with
  |int i=>refine aa (Y3 h1) ?_;rfl
  |_=>exact ai h1
theorem Jr (h:cQ ds=some is):ds=is.map .int:=S4 h
section
theorem UC {C:List AV->AV->Prop}(e:tD vs=some r)(h:∀a n:Nat,a<2^1000->0<n->n<=64->C [.int a,.int n] (.lst ((dg n (bA n a) a).map .int))):C vs r:=by
 induction vs using Y2 with
 |nil=>exact ai e
 |cons x vs=>induction x using AV.casesOn with
  |int a=>induction vs using Y2 with
   |nil=>exact ai e
   |cons y vs=>induction y using AV.casesOn with
    |int n=>induction vs using Y2 with
     |cons=>exact ai e
     |nil =>
      refine bR e λhc e=>aG e ?_;refine aX (jbq hc.1) ?_;rintro a' rfl;refine aX (jbq (Int.le_of_lt hc.2.2.1)) ?_;rintro n' rfl;have h1:(a':Int)<((2^1000:Nat):Int):=by rw[jbN];exact hc.2.1
      exact h a' n' (jbB.mp h1) (jbB.mp hc.2.2.1) (jcb.mp hc.2.2.2)
    |_=>exact ai e
  |_=>exact ai e
theorem UE {C:List AV->AV->Prop}(e:tE vs=some r)(h:∀(is:List Int) (n:Int),is.length<=1000->0<=n->n<=64->(∀d∈is,d.natAbs<2^64)->C [.lst (is.map .int),.int n] (.int (cB n is))):C vs r:=by
 induction vs using Y2 with
 |nil=>exact ai e
 |cons x vs=>induction x using AV.casesOn with
  |lst ds=>induction vs using Y2 with
   |nil=>exact ai e
   |cons y vs=>induction y using AV.casesOn with
    |int n=>induction vs using Y2 with
     |cons=>exact ai e
     |nil =>
      exact Ab (F:=λis=>if is.length<=1000/\0<=n/\n<=64/\is.all (λd=>decide (d.natAbs<2^64))=true then some (.int (cB n is))else none) e λis eS e=>bR e λhc e=>aG e (Jr eS▸h is n hc.1 hc.2.1 hc.2.2.1 λd hd=>of_decide_eq_true (Y6.mp hc.2.2.2 d hd))
    |_=>exact ai e
  |_=>exact ai e
theorem HU {C:List AV->AV->Prop}{f:Nat->AV}(e:tM f vs=some r)(h:∀c,C [.str [c]] (f c)):C vs r:=by
 induction vs using Y2 with
 |nil=>exact ai e
 |cons x vs=>induction x using AV.casesOn with
  |str l=>induction l using Y2 with
   |nil=>cases vs<;>exact ai e
   |cons c l=>induction l using Y2 with
    |cons=>cases vs<;>exact ai e
    |nil=>induction vs using Y2 with
     |nil=>exact aG e (h c)
     |cons=>exact ai e
  |_=>exact ai e
theorem UF {C:Nat->List AV->AV->Prop}{k:Nat}(e:gb k vs=some r)(h1:tD vs=some r->C 1 vs r)(h2:tE vs=some r->C 2 vs r)(h8:tM (λc=>.bool (dz c)) vs=some r->C 8 vs r)(h9:tM (λc=>.str (iy c)) vs=some r->C 9 vs r):C k vs r:=by
 by_cases q:k=1
 ·subst q;exact h1 e
 replace e:=(if_neg q).symm.trans e;by_cases q:k=2
 ·subst q;exact h2 e
 replace e:=(if_neg q).symm.trans e;by_cases q:k=8
 ·subst q;exact h8 e
 replace e:=(if_neg q).symm.trans e;by_cases q:k=9
 ·subst q;exact h9 e
 exact ai ((if_neg q).symm.trans e)
def rA (G:GD)(A:ZV)(k:Nat)(vs:List AV)(r:AV):Prop:=∃x fd,G.fns k=some (x,fd)/\∀a,G.mg x=some (.ref a)->kF G A (.ref a) vs r
theorem Qt {G:GD}{fns:Nat->Option dC}(H:wW G)(hG:dD G)(hN:gE G)(A:ZV)(D:dQ A 13)(k:Nat)(vs:List AV)(r:AV)(_:fns k=none)(e:gb k vs=some r):∃x fd,G.fns k=some (x,fd)/\∀a,G.mg x=some (.ref a)->kF G A (.ref a) vs r:=by
 refine UF (C:=rA G A) e (λe=>?_) (λe=>?_) (λe=>?_) λe=>?_
 ·refine DF H.p1 λx fd t p q k1 k2 k3 k4=>?_;exact UC (C:=rA G A 1) e λa n ha hn ji=>⟨x,fd,k1,λfa h=>Ri k2 k3 k1 hG hN D ha hn ji k4 h⟩
 ·refine sm H.p2 λx fd t p q k1 k2 k3=>?_;exact UE (C:=rA G A 2) e λis n hl hn ji hd=>⟨x,fd,k1,λfa h=>Lk k2 k3 k1 hG hN D hd hl hn (Int.toNat_le.mpr ji) h⟩
 ·refine sm H.p8 λx fd d p mu k1 k2 k3=>?_;exact HU (C:=rA G A 8) e λc=>⟨x,fd,k1,λfa h=>RD k2 k3 k1 hG hN (D.le (by decide)) h⟩
 ·refine Nl H.p9 λx fd d p mu k1 k2 k3 k4 k5=>?_;exact HU (C:=rA G A 9) e λc=>⟨x,fd,k1,λfa h=>S5 k2 k3 k1 hG hN (D.le (by decide)) k4 k5 h⟩
end
set_option backward.match.sparseCases false
set_option genInjectivity true in
inductive TV where
 |int (i:Int)
 |str (x:Str)
 |fn (name:Str) (params:jbl) (body:List Stmt) (sc:jaB)
 |dictI (l:List (Int×Str))
 |dictS (l:List (Str×Int))
 |set (l:List Int) (a b:Int)
def re (fd:jay)(name:Str)(params:jbl)(body:List Stmt)(sc:jaB)(c':Ze):Prop:=∃bG pm bZ,fd=fnX name name params body sc [] .none .none bG pm none (.ref c') bZ
def rf (ts:List (Ze×Ze))(h:jak)(name:Str)(params:jbl)(body:List Stmt)(sc:jaB)(v:Value):Prop :=
 ∃a fd c' P',v=.ref a/\h.get? a=some { cls:=.type "function",data:=.func fd }/\re fd name params body sc c'/\h.CodeRec (.ref c') name/\jfS h c' P'/\h.get? P'=some (jdM #[])/\(c',P')∈ts
def i4 (ts:List (Ze×Ze))(h:jak):TV->Value->Prop
 | .int i,v=>∃t,v=.int i t
 | .str x,v=>∃t,v=.str x t
 | .fn name params body sc,v=>rf ts h name params body sc v
 | .dictI l,v=>∃a aJ,v=.ref a/\a≠Zp/\(a==jad)=false/\h.DictOf (jap af wd) a aJ/\eV (l.map λe=>(e.1,λu=>∃t,u=.str e.2 t)) aJ
 | .dictS l,v=>∃a aJ,v=.ref a/\a≠Zp/\(a==jad)=false/\h.DictOf (strKind af wd) a aJ/\eV (l.map λe=>(e.1,λu=>∃t,u=.int e.2 t)) aJ
 | .set l a b,v=>∃d S n,v=.ref d/\h.SetOf (jap af wd) d S n/\∀k,S k=(l++gP a 1 (b-a).toNat).any (·==k)
structure gX (mg:Str->Option Value) (c Pl:Ze) (ps:Array Value) (h:jak):Prop where
 g:h.Ns Zp mg
 code:jfS h c Pl
 tab:h.get? Pl=some (jdM ps)
 tri:TriplesOk ps.toList
 low:Zp<c/\Zp<Pl
 bmod:h.BuiltinsAt mg Pl
structure gW (aL:jak) (bD:Str->Option Value) (c Pl:Ze) (E:List (Str×TV)) (lp:List Pos) (h:jak):Prop where
 ex:∃mg ps ts l,gX mg c Pl ps h/\ps.toList=triples l/\l.map (·.1)=lp/\(ts.map (·.2)).Nodup/\(∀t∈ts,t.2≠Pl/\t.2<h.objs.size) /\
  (∀x tv,E.lookup x=some tv->∃v,mg x=some v/\i4 ts h tv v)/\(∀x,E.lookup x=none->mg x=bD x)
 old:∀b o,b≠Zp->aL.get? b=some o->h.get? b=some o
 sz:aL.objs.size<=h.objs.size
 pl:aL.objs.size<=Pl
 sys:jad<aL.objs.size
section
def rd (Pl:Ze)(h h':jak):Prop:=∀b o,b≠Pl->b≠Zp->h.get? b=some o->h'.get? b=some o
theorem uY (T:gX mg c Pl ps h)(hk:rd Pl h h')(e:h.get? b=some o)(hb:b≠Zp)(hd:(∀vs,o.data≠.fields vs)\/o.cls≠.none):h'.get? b=some o :=
 hk b o (λq=>by
  have eo:o=jdM ps:=Y3 (e.symm.trans (q▸T.tab));rw[eo]at hd;exact hd.elim (λhd=>hd _ rfl) λhd=>hd rfl) hb e
theorem wi (T:gX mg c Pl ps h)(e:h.get? b=some o)(hd:∀es ep,o.data≠.dict es ep):b≠Zp:=λq=>by
 refine ka T.g λog es ep eg Pz Y=>?_;exact hd _ _ (Y3 (e.symm.trans (q▸eg))▸Pz)
theorem rf.keeps (T:gX mg c Pl ps h)(lc:∀t∈ts,t.2≠Pl)(hk:rd Pl h h')(jO:∀t∈ts,t∈t0)(r:rf ts h name params body sc v):rf t0 h' name params body sc v:=by
 refine n6 r λa fd c' P' e1 e2 e3 e4 e5 e6 e7=>?_;obtain⟨o,vs,su,tf,flags,tg,s9,dO,tt,f1,f2,f3,f4⟩:=e5;have kc:h'.get? c'=some o:=uY T hk f1 (wi T f1 λY Y q=>nomatch f3.symm.trans q) (.inr (by refine aa f2 ?_;exact λq=>nomatch q));refine⟨a,fd,c',P',e1,uY T hk e2 (wi T e2 λY Y q=>nomatch q) (.inl λY q=>nomatch q),e3,?_,⟨o,vs,su,tf,flags,tg,s9,dO,tt,kc,f2,f3,f4⟩,hk P' _ (lc _ e7) (wi T e6 λY Y q=>nomatch q) e6,jO _ e7⟩;refine qa e4 λCE Hb Xz oV g1 g2 g3 g4=>?_;have gc:=jdG g1;have go:=Y3 ((gc▸f1).symm.trans g2);exact⟨c',o,Xz,oV,rfl,kc,go▸g3,g4⟩
theorem DictOf.top {h h':jak}{K:Type}[DecidableEq K]{bo:KeyKind af wd K}(T:gX mg c Pl ps h)(hk:rd Pl h h'){a:Ze}{aJ:List (K×Value)}(ha:a≠Zp)(r:h.DictOf bo a aJ):h'.DictOf bo a aJ:=by
 refine kX r λo es ep e hx hd r=>?_;exact⟨o,es,ep,uY T hk e ha (.inl λY q=>nomatch hd.symm.trans q),hx,hd,r⟩
theorem SetOf.top {h h':jak}{K:Type}[DecidableEq K]{bo:KeyKind af wd K}(T:gX mg c Pl ps h)(hk:rd Pl h h'){a:Ze}{S:K->Bool}{n:Nat}(r:h.SetOf bo a S n):h'.SetOf bo a S n:=by
 refine qa r λo es ep t e hx hd r=>?_;exact⟨o,es,ep,t,uY T hk e (wi T e λY Y q=>nomatch hd.symm.trans q) (.inl λY q=>nomatch hd.symm.trans q),hx,hd,r⟩
theorem i4.keeps (T:gX mg c Pl ps h)(lc:∀t∈ts,t.2≠Pl)(hk:rd Pl h h')(jO:∀t∈ts,t∈t0){tv:TV}{v:Value}(r:i4 ts h tv v):i4 t0 h' tv v:=by
 cases tv with
 |int i=>exact r
 |str x=>exact r
 |fn name params body sc=>exact rf.keeps T lc hk jO r
 |dictI l=>exact r.elim λa r=>r.elim λaJ r=>⟨a,aJ,r.1,r.2.1,r.2.2.1,DictOf.top T hk r.2.1 r.2.2.2.1,r.2.2.2.2⟩
 |dictS l=>exact r.elim λa r=>r.elim λaJ r=>⟨a,aJ,r.1,r.2.1,r.2.2.1,DictOf.top T hk r.2.1 r.2.2.2.1,r.2.2.2.2⟩
 |set l a b=>exact r.elim λd r=>r.elim λS r=>r.elim λn r=>⟨d,S,n,r.1,SetOf.top T hk r.2.1,r.2.2⟩
structure lG (x:Str):Prop where
 loc:af.main.scope.names.lookup x=some .local
 nb:x ≠ "__builtins__"
 qual:jeg { scope:=af.main.scope,locals:=Zp,globals:=Zp,cells:=[] } x x=x
theorem gX.store {h':jak}{x:Str}{v:Value}(T:gX mg c Pl ps h)(hx:x ≠ "__builtins__") (hn:h'.Ns Zp (λy=>if y=x then some v else mg y)) (hs:Z6 Zp h h'):gX (λy=>if y=x then some v else mg y) c Pl ps h':=by
 have ex:=hs.extBut;have kp:∀b o,b≠Zp->h.get? b=some o->h'.get? b=some o:=ex;refine pZ T.bmod λbm o b1 b2 b3 b4 b5 b6=>?_;refine⟨hn,?_,kp _ _ (jaU T.low.2) T.tab,T.tri,T.low,bm,o,?_,b2,b3,b4,kp _ _ b3 b5,b6⟩
 ·obtain⟨o,vs,su,tf,flags,tg,s9,dO,tt,f1,r⟩:=T.code;exact⟨o,vs,su,tf,flags,tg,s9,dO,tt,kp _ _ (jaU T.low.1) f1,r⟩
 ·show(if("__builtins__" : Str)=x then _ else _)=_;refine aa (if_neg (jeC hx)) ?_;exact b1
theorem gX.keeps (T:gX mg c Pl ps h)(hk:gj h h'):gX mg c Pl ps h':=by
 refine pZ T.bmod λbm o b1 b2 b3 b4 b5 b6=>?_;exact⟨T.g.keeps hk,T.code.keeps hk,hk _ _ T.tab,T.tri,T.low,bm,o,b1,b2,b3,b4,hk _ _ b5,b6⟩
structure i5 (aL:jak) (bD:Str->Option Value) (c Pl:Ze) (E:List (Str×TV)) (lp:List Pos) (h:jak) (mg:Str->Option Value) (ps:Array Value) (ts:List (Ze×Ze)) (l:List (Pos×Ze)):Prop where
 S:gX mg c Pl ps h
 e1:ps.toList=triples l
 e2:l.map (·.1)=lp
 e3:(ts.map (·.2)).Nodup
 e4:∀t∈ts,t.2≠Pl/\t.2<h.objs.size
 e5:∀x tv,E.lookup x=some tv->∃v,mg x=some v/\i4 ts h tv v
 e6:∀x,E.lookup x=none->mg x=bD x
 old:∀b o,b≠Zp->aL.get? b=some o->h.get? b=some o
 sz:aL.objs.size<=h.objs.size
 pl:aL.objs.size<=Pl
 sys:jad<aL.objs.size
theorem gW.x (R:gW aL bD c Pl E lp h):∃mg ps ts l,i5 aL bD c Pl E lp h mg ps ts l :=
 R.ex.elim λmg r=>r.elim λps r=>r.elim λts r=>r.elim λl r=>⟨mg,ps,ts,l,r.1,r.2.1,r.2.2.1,r.2.2.2.1,r.2.2.2.2.1,r.2.2.2.2.2.1,r.2.2.2.2.2.2,R.old,R.sz,R.pl,R.sys⟩
theorem i5.r (X:i5 aL bD c Pl E lp h mg ps ts l):gW aL bD c Pl E lp h:=⟨⟨mg,ps,ts,l,X.S,X.e1,X.e2,X.e3,X.e4,X.e5,X.e6⟩,X.old,X.sz,X.pl,X.sys⟩
theorem i5.keeps (X:i5 aL bD c Pl E lp h mg ps ts l)(hk:gj h h')(hz:h.objs.size<=h'.objs.size):i5 aL bD c Pl E lp h' mg ps ts l :=
 { X with
   S:=X.S.keeps hk
   e4:=λt ht=>⟨(X.e4 t ht).1,bf (X.e4 t ht).2 hz⟩
   e5:=λx tv e=>(X.e5 x tv e).elim λv r=>aN v r.1 (r.2.keeps X.S (λt ht=>(X.e4 t ht).1) (λb o Y Y e=>hk b o e) λY h=>h)
   old:=λb o hb e=>hk b o (X.old b o hb e)
   sz:=Y1 X.sz hz }
theorem SJ {E:List (Str×TV)}{x:Str}{tv:TV}{C:Str->TV->Prop}(h0:C x tv)(h:∀y nA,y≠x->E.lookup y=some nA->C y nA)(y:Str)(nA:TV)(e:jeb y ((x,tv)::E)=some nA):C y nA:=by
 rw[ZX]at e;by_cases q:y=x
 ·subst q;rw[beq_self_eq_true]at e;exact aG e h0
 ·rw[beq_eq_false_iff_ne.mpr q]at e;exact h y nA q e
theorem Gz {E:List (Str×TV)}(e:jeb y ((x,tv)::E)=none):y≠x/\E.lookup y=none:=by
 rw[ZX]at e;by_cases q:y=x
 ·subst q;rw[beq_self_eq_true]at e;exact nomatch e
 ·rw[beq_eq_false_iff_ne.mpr q]at e;exact⟨q,e⟩
theorem i5.store {h':jak}{l:List (Pos×Ze)}{x:Str}{v:Value}{tv:TV}(X:i5 aL bD c Pl E lp h mg ps ts l)(hx:x ≠ "__builtins__") (hv:i4 ts h tv v) (hn:h'.Ns Zp (λy=>if y=x then some v else mg y)) (hs:Z6 Zp h h'):
 i5 aL bD c Pl ((x,tv)::E) lp h' (λy=>if y=x then some v else mg y) ps ts l :=
 have kp:∀{tv v},i4 ts h tv v->i4 ts h' tv v:=λr=>r.keeps X.S (λt ht=>(X.e4 t ht).1) (λb o Y hb e=>hs.extBut b o hb e) λY h=>h
 { X with
   S:=X.S.store hx hn hs
   e4:=λt ht=>⟨(X.e4 t ht).1,by rw[hs.1];exact(X.e4 t ht).2⟩
   e5:=SJ (C:=λy tv=>∃u,(if y=x then some v else mg y)=some u/\i4 ts h' tv u) ⟨v,if_pos rfl,kp hv⟩ λy nA q e=>(X.e5 y nA e).elim λu r=>aN u ((if_neg q).trans r.1) (kp r.2)
   e6:=λy e=>(if_neg (Gz e).1).trans (X.e6 y (Gz e).2)
   old:=λb o hb e=>hs.extBut b o hb (X.old b o hb e)
   sz:=Y1 X.sz (ZK hs.1.symm) }
theorem Ie {s:Y4}{l:List (Pos×Ze)}{x:Str}{v:Value}{tv:TV}{Q:Unit->Y4->Prop}{Er:Value->Y4->Prop}(cF:af.main.scope.kind=.module)(N:lG x)(X:i5 aL bD c Pl E lp s.heap mg ps ts l)(hv:i4 ts s.heap tv v)(hQ:∀h' tk,gW aL bD c Pl ((x,tv)::E) lp h'->Q () { s with heap:=h',toks:=tk }):Y' (Zb af wd) A (jdw (jcm af c F) x v) Q Er s :=
 jir (m:=mg) N.loc X.S.g (λh' hn hs=>hQ _ _ (X.store N.nb hv hn hs).r) (by
  show(af.main.scope.kind==.class||(af.main.scope.kind==.module&&Zp != Zp))=false;refine aa cF ?_;rfl)
theorem tX (cF:af.main.scope.kind=.module)(N:lG x)(R:gW aL bD c Pl E lp aY)(hk:gj aY s.heap)(hz:aY.objs.size<=s.heap.objs.size)(hv:∀ts,i4 ts s.heap tv v)(hQ:∀h' tk,gW aL bD c Pl ((x,tv)::E) lp h'->Q () { s with heap:=h',toks:=tk }):
 Y' (Zb af wd) A (jdw (jcm af c F) x v) Q Er s :=
 R.x.elim λmg r=>r.elim λps r=>r.elim λts r=>r.elim λl X=>Ie cF N (X.keeps hk hz) (hv ts) hQ
def mz (aL:jak)(bD:Str->Option Value)(c Pl F:Ze)(st:Stmt)(E:List (Str×TV))(lp:List Pos)(E':List (Str×TV))(SN:List Pos):Prop :=
 ∀(A:ZV) (s:Y4) (Q:jeB->Y4->Prop) (Er:Value->Y4->Prop),A.handled=none->0<s.toks->gW aL bD c Pl E lp s.heap->(∀h' tk,gW aL bD c Pl E' SN h'->Q .next { s with heap:=h',toks:=tk }) ->
  Y' (Zb af wd) A (Z0 st (jcm af c F)) Q Er s
theorem WJ (cF:af.main.scope.kind=.module)(N:lG x):mz aL bD c Pl F (.Assign [.Name x p] (.Constant (.int i) k q) r) E lp ((x,.int i)::E) lp:=by
 intro A s Q Er _ _ R h;refine jby (jcD rfl λv tk hv=>?_) rfl;exact tX (tv:=.int i) cF N R (λY Y e=>e) (Y5 _) (λts=>hv) λh' tk R'=>h h' tk R'
theorem WL (cF:af.main.scope.kind=.module)(N:lG x):mz aL bD c Pl F (.Assign [.Name x p] (.Constant (.str i) k q) r) E lp ((x,.str i)::E) lp:=by
 intro A s Q Er _ _ R h;refine jby (jcD rfl λv tk hv=>?_) rfl;exact tX (tv:=.str i) cF N R (λY Y e=>e) (Y5 _) (λts=>hv) λh' tk R'=>h h' tk R'
theorem i5.made (X:i5 aL bD c Pl E lp h mg ps ts l)(Qk:ob={ cls:=.type "function",dict:=none,data:=.func (fnX name name params body sc [] .none .none bG nm none (.ref c') .none) }) (hx:∀b o,b≠Pl->h.get? b=some o->aY.get? b=some o) (hz:h.objs.size<=aY.objs.size) (y3:jfS aY c Pl) (y8:aY.get? Pl=some (jdM (ps++#[jef pos.line,jef pos.col,.ref c']))) (lb:aY.CodeRec (.ref c') name) (hP:h.objs.size<=P') (y4:jfS aY c' P') (ht:aY.get? P'=some (jdM #[])):
 i5 aL bD c Pl E (lp++[pos]) (aY.push ob) mg (ps++#[jef pos.line,jef pos.col,.ref c']) ((c',P')::ts) (l++[(pos,c')])/\i4 ((c',P')::ts) (aY.push ob) (.fn name params body sc) (.ref aY.objs.size):=by
 have up:∀{b o},aY.get? b=some o->(aY.push ob).get? b=some o:=λe=>Zd _ e;have Pa:Pl<h.objs.size:=Zu X.S.tab;have be:(aY.push ob).objs.size=aY.objs.size+1:=ZP ..;have zn:Zp≠Pl:=jaE X.S.low.2;refine⟨{
  S:=?_
  e1:=by rewrite [triples_append];refine rwj X.e1 ?_;simp
  e2:=by refine aa ZS ?_;refine aa X.e2 ?_;rfl
  e3:=jaL.mpr ⟨λq=>(Zn.mp q).elim λt e=>Zr _ (bf (X.e4 t e.1).2 (Y1 hP (ZK e.2.symm))),X.e3⟩
  e4:=jhv.mpr ⟨⟨jaU (bf Pa hP),by refine aa be ?_;exact jcW (Zu ht)⟩,λt ht=>⟨(X.e4 t ht).1,by refine aa be ?_;exact jcW (bf (X.e4 t ht).2 hz)⟩⟩
  e5:=λx tv e=>(X.e5 x tv e).elim λv r=>aN v r.1 (r.2.keeps X.S (λt ht=>(X.e4 t ht).1) (λb o hb Y e=>up (hx b o hb e)) λt ht=>Zw _ ht)
  e6:=X.e6
  old:=λb o hb e=>up (hx b o (λq=>ZW.mpr X.pl (q▸Zu e)) (X.old b o hb e))
  sz:=by refine aa be ?_;exact jfF (Y1 X.sz hz)
  pl:=X.pl
  sys:=X.sys },aY.objs.size,_,c',P',rfl,?_,⟨bG,nm,.none,rfl⟩,lb.push _,y4.keeps λb o e=>up e,up ht,Zf⟩
 ·refine pZ X.S.bmod λbm o b1 b2 b3 b4 b5 b6=>?_;exact⟨(X.S.g.extBut hx zn).push _,y3.keeps λb o e=>up e,up y8,by simpa using TriplesOk_snoc _ _ _ _ X.S.tri,X.S.low,bm,o,b1,b2,b3,b4,up (hx _ _ b4 b5),b6⟩
 ·refine aa Qk ?_;exact ZZ _ rfl
theorem S0 (T:gX mg c Pl ps s.heap)(zl:jcU sc (jcm af c F)=pure [])(zA:codeAmong pos ps.toList=none)(h:∀c' P' aY tk bG nm,(∀b o,b≠Pl->s.heap.get? b=some o->aY.get? b=some o)->s.heap.objs.size<=aY.objs.size->jfS aY c Pl->aY.get? Pl=some (jdM (ps++#[jef pos.line,jef pos.col,.ref c']))->aY.CodeRec (.ref c') name->s.heap.objs.size<=P'->jfS aY c' P'->aY.get? P'=some (jdM #[]) ->
 Q (.ref aY.objs.size) { s with heap:=aY.push { cls:=.type "function",dict:=none,data:=.func (fnX name name params body sc [] .none .none bG nm none (.ref c') .none) },toks:=tk }):
 Y' (Zb af wd) A (makeFunction name name params (.stmts body) sc (jcm af c F) [] [] [] pos fl) Q Er s:=by
 rw[makeFunction_eq];simp only[jfm,List.filterMap_nil,jix,if_true,pure_bind];unfold makeTail;refine aa zl ?_;refine Y9 (Zx ?_);simp only[jix,if_true];refine Y9 (Zx (Y9 (wpAny_functionCodeX (env:=jcm af c F) rfl (T.code.code T.tab T.tri) (T.code.tab T.tab) zA λc' aY tk hx lX a0 bY lb FK dZ=>?_)));refine fq dZ λP' n1 n2 n3=>?_;have E1:=T.g.extBut hx (jaE T.low.2);have hh:=λtk bG nm=>h c' P' aY tk bG nm hx (Y1 lX (ZM a0)) (jhV bY FK) FK.2 lb n1 (jhV n2 n3) n3.2;refine DD T.bmod λbm o b1 b2 b3 b4 b5 b6 b7 b8=>?_;refine Y9 (wpAny_builtinsFor (globals:=Zp) E1 b1 b2 (hx _ _ b4 b5) b6 b7 b8 (Y9 (jiE (a:=Zp) E1 ?_)))
 induction docOf body using ae with
 |none=>exact Y9 (Zx (jga (hh _ _ _) (by size_fits)))
 |some t=>exact Y9 (wpAny_mkText (jga (hh _ _ _) (by size_fits)))
theorem WF (cF:af.main.scope.kind=.module)(N:lG name)(k9:params.defaults=[])(zq:params.kw_defaults=[])(ha:jhi params none (jcm af c F)=[])(zl:jcU sc (jcm af c F)=pure [])(km:∀q∈lp,¬(q.line=pos.line/\q.col=pos.col)):mz aL bD c Pl F (.FunctionDef name params body [] none [] sc none name pos) E lp ((name,.fn name params body sc)::E) (lp++[pos]):=by
 intro A s Q Er _ _ R h;refine DE R.x λmg ps ts l X=>?_;have T:=X.S;refine nestDef_K k9 zq ha ?_;refine aa (show jeg (jcm af c F) name name=name from N.qual) ?_;have zA:codeAmong pos ps.toList=none:=by
  refine aa X.e1 ?_;exact codeAmong_triples pos l λq hq=>km q.1 (X.e2▸Zn.mpr ⟨q,hq,rfl⟩)
 refine S0 T zl zA λc' P' aY tk bG nm hx hz y3 y8 lb n1 y4 ht=>?_;have XM:=X.made (ob:=_) (bG:=bG) (nm:=nm) rfl hx hz y3 y8 lb n1 y4 ht (params:=params) (body:=body) (sc:=sc);exact Ie cF N XM.1 XM.2 h
end
theorem B0:∀{l:List Arg},l.all (λa=>a.annotation.isNone)=true->annotationsOf l ab=[]
 | [],_=>rfl
 |⟨_,none,_⟩::l,h=>B0 (l:=l) h
 |⟨_,some _,_⟩::_,h=>nomatch (show false=true from h)
theorem Jk (h1:params.args.all (λa=>a.annotation.isNone)=true)(h2:params.posonlyargs=[])(h3:params.vararg=none)(h4:params.kwonlyargs=[])(h5:params.kwarg=none):jhi params none ab=[]:=by
 obtain⟨po,a,va,ko,kd,R7,d⟩:=params;cases(h2:po=[]);cases(h3:va=none);cases(h4:ko=[]);cases(h5:R7=none);unfold jhi;show annotationsOf (a++[]++[]++[]++[]) ab++_=[];rw[Z2,Z2,Z2,Z2,B0 h1];rfl
inductive nD:List (Option Expr)->List Expr->List (Int×Str)->Prop
 |nil:nD [] [] []
 |cons {k:Int}{x:Str}{u u':Nat}{p p':Pos}{ks:List (Option Expr)}{vs:List Expr}{l:List (Int×Str)} (r:nD ks vs l):nD (some (.Constant (.int k) u p)::ks) (.Constant (.str x) u' p'::vs) ((k,x)::l)
def CC:(ks:List (Option Expr))->(vs:List Expr)->Option { l:List (Int×Str)//nD ks vs l }
 | [],[]=>some ⟨[],.nil⟩
 |some (.Constant (.int k) _ _)::ks,.Constant (.str x) _ _::vs=>match CC ks vs with
  |some ⟨l,h⟩=>some ⟨(k,x)::l,.cons h⟩
  |none=>none
 |_,_=>none
def nv:List (Int×Str)->Bool
 |a::b::l=>decide (a.1<b.1)&&nv (b::l)
 |_=>true
theorem HN:nv (a::b::l)=(decide (a.fst<b.fst)&&nv (b::l)):=rfl
theorem HL:∀{a:Int×Str}{l:List (Int×Str)},nv (a::l)=true->∀b∈l,a.1<b.1
 |a,[],_=>λb hb=>nomatch hb
 |a,c::l,h=>λb hb=>by
  rw[HN]at h;rw[Zv]at h;have h1:=of_decide_eq_true h.1;rcases ZQ.mp hb with rfl|hb
  ·exact h1
  ·exact Int.lt_trans h1 (HL h.2 b hb)
theorem HM:∀{l:List (Int×Str)},nv l=true->(l.map (·.1)).Nodup
 | [],_=>jaR
 | [a],_=>by simp
 |a::b::l,h=>by
  have h0:=h;rw[HN]at h;rw[Zv]at h;rw[ZC,jaL];refine⟨λq=>?_,HM h.2⟩;refine au (Zn.mp q) λe he e1=>?_;have:=HL h0 e he
  lia
section
def vZ (ab:Env)(pos:Pos)(ks:List (Option Expr))(vs:List Expr):List (Option (Sem Value)×Sem Value):=(evalEachOpt ks ab).zip ((evalEach vs ab).map λv=>do let x <-v;jfr pos;pure x)
theorem LK (h:nD ks vs l):
 ∃ps,vZ ab pos ks vs=ps.map (λp=>(some p.1,p.2))/\eX (jap af wd) A hh ps (l.map λe=>(e.1,λu=>∃t,u=.str e.2 t)):=by
 induction h with
 |nil=>exact aN [] rfl (.nil)
 | @cons k x u1 u2 p1 p2 ks vs m _ ih =>
  refine au ih λps e1 e2=>?_;refine aN ((jaa (.Constant (.int k) u1 p1) ab,do let x <-jaa (.Constant (.str x) u2 p2) ab;jfr pos;pure x)::ps) (congrArg (_::·) e1) (.cons (λE s Q hx hQ=>?_) e2);refine jcD rfl λv tk hv=>Y9 (jcD rfl λu iu hu=>Y9 (jaZ (Zx ?_)));refine aX (show∃t,v=.int k t from hv) ?_;rintro t rfl;exact hQ _ _ _ (jeh _ _ _ _) hu
theorem WG (cF:af.main.scope.kind=.module)(N:lG x)(hl:nD ks vs l)(hs:nv l=true)(aO:l.length<=1000)(cV:l≠[]):
 mz aL bD c Pl F (.Assign [.Name x p] (.Dict ks vs q) r) E lp ((x,.dictI l)::E) lp:=by
 intro A s Q Er _ _ R h;refine au (LK (A:=A) (ab:=jcm af c F) (pos:=q) (hh:=s.heap) hl) λps e1 e2=>?_;refine jby ?_ (by rfl);rw[arm_eval_Dict];refine Y9 (jaZ ?_);have iK:jad<s.heap.objs.size:=bf R.sys R.sz;have ox:=e2.length;rw[Y0]at ox;show Y' (Zb af wd) A (jgN (vZ (jcm af c F) q ks vs)) _ Er _;rw[e1];refine CY e2 iK (wL ox aO) (λq=>?_) ?_ λD aJ h' tk g1 g2 g3 g4 g5=>?_
 ·subst q;exact cV (Z3.mp ox.symm)
 ·rw[ZJ];exact HM hs
 ·have hg:Zp<s.heap.objs.size:=by
   refine n5 R.ex λmg ps ts l T Y=>?_;exact T.g.lt
  exact tX (tv:=.dictI l) cF N R g4 g5 (λts=>⟨D,aJ,rfl,jaU (bf hg g1),beq_eq_false_iff_ne.mpr (jaU (bf iK g1)),g3,g2⟩) λh' tk R'=>h h' tk R'
inductive nI (E:List (Str×TV)):List (Option Expr)->List Expr->List (Str×Int)->Prop
 |nil:nI E [] [] []
 |cons {k x:Str}{i:Int}{u:Nat}{p p':Pos}{ks:List (Option Expr)}{vs:List Expr}{l:List (Str×Int)} (hx:E.lookup x=some (.int i)) (hd:(x==("__debug__" : Str))=false) (r:nI E ks vs l):
  nI E (some (.Constant (.str k) u p)::ks) (.Name x p'::vs) ((k,i)::l)
def RI (E:List (Str×TV))(x:Str):Option { i:Int//E.lookup x=some (.int i) }:=match E.lookup x with
 |some (.int i)=>some ⟨i,rfl⟩
 |_=>none
def GR (E:List (Str×TV)):(ks:List (Option Expr))->(vs:List Expr)->Option { l:List (Str×Int)//nI E ks vs l }
 | [],[]=>some ⟨[],.nil⟩
 |some (.Constant (.str k) _ _)::ks,.Name x _::vs=>match RI E x with
  |some ⟨i,hx⟩=>if hd:(x==("__debug__" : Str))=false then(match GR E ks vs with
   |some ⟨l,h⟩=>some ⟨(k,i)::l,.cons hx hd h⟩
   |none=>none)else none
  |none=>none
 |_,_=>none
theorem LN (cF:af.main.scope.kind=.module)(R:gW aL bD c Pl E lp hh)(h:nI E ks vs l):
 ∃ps,vZ (jcm af c F) pos ks vs=ps.map (λp=>(some p.1,p.2))/\eX (strKind af wd) A hh ps (l.map λe=>(e.1,λu=>∃t,u=.int e.2 t)):=by
 refine n6 R.ex λmg qs ts l T Y Y Y Y e5 Y=>?_;clear R
 induction h with
 |nil=>exact aN [] rfl (.nil)
 | @cons k x i u1 p1 p2 ks vs m hx hd _ ih =>
  refine au ih λps e1 e2=>?_;refine aN ((jaa (.Constant (.str k) u1 p1) (jcm af c F),do let x <-jaa (.Name x p2) (jcm af c F);jfr pos;pure x)::ps) (congrArg (_::·) e1) (.cons (λEr s Q hk hQ=>?_) e2);obtain⟨v,hv,tv,rfl⟩:=e5 x _ hx;refine jcD rfl λu tk hu=>Y9 (jfK cF rfl (jfd (mg:=mg) ((T.keeps hk).g) hv (Y9 (jaZ (Zx ?_)))) hd);refine aX (show∃t,u=.str k t from hu) ?_;rintro t rfl;exact hQ _ _ _ (strKind_is _ _ _ _) ⟨tv,rfl⟩
theorem WH (cF:af.main.scope.kind=.module)(N:lG x)(hl:nI E ks vs l)(hs:(l.map (·.1)).Nodup)(aO:l.length<=1000)(cV:l≠[]):
 mz aL bD c Pl F (.Assign [.Name x p] (.Dict ks vs q) r) E lp ((x,.dictS l)::E) lp:=by
 intro A s Q Er _ _ R h;refine au (LN (A:=A) (F:=F) (pos:=q) cF R hl) λps e1 e2=>?_;refine jby ?_ (by rfl);rw[arm_eval_Dict];refine Y9 (jaZ ?_);have iK:jad<s.heap.objs.size:=bf R.sys R.sz;have ox:=e2.length;rw[Y0]at ox;show Y' (Zb af wd) A (jgN (vZ (jcm af c F) q ks vs)) _ Er _;rw[e1];refine CY e2 iK (wL ox aO) (λq=>?_) ?_ λD aJ h' tk g1 g2 g3 g4 g5=>?_
 ·subst q;exact cV (Z3.mp ox.symm)
 ·rw[ZJ];exact hs
 ·have hg:Zp<s.heap.objs.size:=by
   refine n5 R.ex λmg ps ts l T Y=>?_;exact T.g.lt
  exact tX (tv:=.dictS l) cF N R g4 g5 (λts=>⟨D,aJ,rfl,jaU (bf hg g1),beq_eq_false_iff_ne.mpr (jaU (bf iK g1)),g3,g2⟩) λh' tk R'=>h h' tk R'
end
inductive nG:List Expr->List Int->Prop
 |nil:nG [] []
 |cons {k:Int}{u:Nat}{p:Pos}{es:List Expr}{l:List Int} (r:nG es l):nG (.Constant (.int k) u p::es) (k::l)
def F6:(es:List Expr)->Option { l:List Int//nG es l }
 | []=>some ⟨[],.nil⟩
 | .Constant (.int k) _ _::es=>match F6 es with
  |some ⟨l,h⟩=>some ⟨k::l,.cons h⟩
  |none=>none
 |_=>none
section
abbrev φ0:Gh:=λY Y=>False
abbrev P0:Ze->Prop:=λY=>True
theorem Ia (h:0<s.toks):aW φ0 s:=⟨λY Y Y h=>h.elim,λY Y h=>h.elim,λY Y h=>h.elim,h⟩
theorem OG:fD s P0:=λY Y=>trivial
theorem F7 (h:nG es is):∀{s:Y4},
 Y' (Zb af wd) A (jcl (jcn pos (jas es ab))) (λxs s'=>(∃tk,s'={ s with toks:=tk })/\ar 0 φ0 s'.heap [] P0 (is.map .int) xs) ax s:=by
 induction h with
 |nil=>exact jdk ⟨⟨_,rfl⟩,.nil⟩
 | @cons k u p es is _ ih =>
  intro s;refine jcE (jcD rfl λv tk hv=>?_) rfl;refine aX (show∃t,v=.int k t from hv) ?_;rintro t rfl;refine up ih λxs s' ⟨⟨iu,e⟩,r⟩=>?_;subst e;exact⟨⟨_,rfl⟩,.cons (.int _ _) r⟩
theorem Aa:∀{is:List Int}{xs:List Value},ar 0 φ h [] P0 (is.map .int) xs->jio xs is
 | [],_,r=>by refine aa r.unnil ?_;exact .nil
 |i::is,_,r=>by
  refine bS r.uncons ?_;rintro x ys rfl a q;refine aX a.intv ?_;rintro t rfl;exact .cons i t (Aa q)
theorem RK (q:jio xs is)(r:jio ys js):jio (xs++ys) (is++js):=by
 induction q with
 |nil=>exact r
 |cons i t _ ih=>exact .cons i t ih
theorem AA (cF:af.main.scope.kind=.module)(hg:s.heap.Ns Zp mg)(hn:mg x=none)(hb:s.heap.Ns jae mb)(hv:mb x=some v)(hd:(x==("__debug__" : Str))=false) (h:Q v s):
 Y' (Zb af wd) A (jaa (.Name x p) (jcm af c F)) Q Er s :=
 jfK cF rfl (jeU hg hn hb hv h) hd
theorem NZ (ns:List Int)(k:Int):(firstMet (λi=>ns.getD i 0) ns.length).any (·==k)=ns.any (·==k):=by
 rw[firstMet_any]
 congr 1
 apply jep
 ·simp
 ·intro i h1 h2;simp at h1;simp[h2]
theorem WK (cF:af.main.scope.kind=.module)(N:lG x)(hl:nG es is)(QA:fQ a b 1=some rs)(QB:rs=gP a 1 (b-a).toNat)(aO:is.length+rs.length<=1000)(hb:aL.Ns jae mb)(m1:mb "set" = some (.type "set")) (m2:mb "list" = some (.type "list")) (m3:mb "range" = some (.type "range")) (n1:E.lookup ("set" : Str)=none/\bD "set" = none) (n2:E.lookup ("list" : Str)=none/\bD "list" = none) (n3:E.lookup ("range" : Str)=none/\bD "range" = none):
 mz aL bD c Pl F (.Assign [.Name x p] (.Call (.Name "set" p1) [.BinOp (.List es p2) .Add (.Call (.Name "list" p3) [.Call (.Name "range" p4) [.Constant (.int a) k1 p5,.Constant (.int b) k2 p6] [] p7] [] p8) p9] [] pa) r) E lp ((x,.set is a b)::E) lp:=by
 intro A s Q Er hA jj R h;refine n6 R.ex λmg ps ts l T Y Y Y Y Y e6=>?_;have je:s.heap.Ns jae mb:=hb.at' λo e=>R.old _ _ (by decide) e;refine jby ?_ (by rfl);refine Call_ (AA cF T.g ((e6 _ n1.1).trans n1.2) je m1 (by decide) (callWith_type1 (jcE ?_ rfl) rfl rfl));refine jcP (jcZ (eF (jar (F7 hl) (λxs ak aY Xn=>?_) λY Y e=>e.elim)));refine bN aY λz2 aF=>?_;obtain⟨YM,rfl⟩:=z2;have YH:xs.length=is.length:=by have:=aF.length;simpa using this.symm
 refine⟨d9 (by lia),?_⟩;have kp:∀{h':jak},gj s.heap h'->h'.Ns Zp mg/\h'.Ns jae mb:=λk=>⟨T.g.keeps k,je.keeps k⟩
 generalize hH:s.heap.push { cls:=.type "list",data:=.seq xs.toArray }=H₂;have kH:gj s.heap H₂:=λb o e=>hH▸Zd _ e;have hL:H₂.PlainList s.heap.objs.size xs.toArray:=hH▸oK s.heap;have bI:ar 0 φ0 H₂ [] P0 (is.map .int) xs:=aF.ext kH;refine Call_ (AA cF (kp kH).1 ((e6 _ n2.1).trans n2.2) (kp kH).2 m2 (by decide) (callWith_type1 (jcE ?_ rfl) rfl rfl));refine Call_ (AA cF (kp kH).1 ((e6 _ n3.1).trans n3.2) (kp kH).2 m3 (by decide) (callWith_type1 (eF (jar (F7 (.cons (.cons .nil))) (λys dj lf Xo=>?_) λY Y e=>e.elim)) rfl rfl));refine bN lf λz1 jn=>?_;obtain⟨Wx,rfl⟩:=z1;have I4:aW φ0 ({ s with heap:=H₂,toks:=Wx }:Y4):=Ia (bf (bf jj Xn.toks) Xo.toks);refine up (Hu (tk:=0) (β:=[]) (P:=P0) (A:=A) I4 (as:=[.int a,.int b]) (is:=rs) QA jn) λv eE qq=>bN qq λBL rv=>jdk ?_;refine up (Gw (tk:=0) (β:=[]) (P:=P0) hA BL.tk OG rv) λYQ dN ⟨wN,IX,wu⟩=>?_;have G':=BL.trans IX;refine bB G'.grows.keeps λlg YO Nv qx=>?_;cases wu with
 | @lst _ l₅ ys hl₅ _ rl₅ =>
 have O':dN.heap.PlainList s.heap.objs.size xs.toArray:=hL.at λo e=>G'.ext _ _ e;have vQ:ys.length=rs.length:=by have:=rl₅.length;simpa using this.symm
 refine BZ O'.isList hl₅.isList (d9 (by lia)) ?_;generalize y2:dN.heap.push { cls:=.type "list",data:=.seq (xs++ys).toArray }=H₆;have k6:gj dN.heap H₆:=λb o e=>y2▸Zd _ e;have O8:H₆.PlainList dN.heap.objs.size (xs++ys).toArray:=y2▸oK dN.heap;refine jdk ?_;have hi:jio (xs++ys).toArray.toList (is++rs):=by
  refine aa jhF ?_;exact RK (Aa bI) (Aa rl₅)
 have Q6:s.heap.objs.size<=H₆.objs.size:=by
  have q1:H₂.objs.size=s.heap.objs.size+1:=by refine rwj hH ?_;refine aa (ZP _ _) ?_;rfl
  have q2:H₂.objs.size<=dN.heap.objs.size:=G'.grows.size;have q3:H₆.objs.size=dN.heap.objs.size+1:=by refine rwj y2 ?_;refine aa (ZP _ _) ?_;rfl
  lia
 refine call_set_list (l:=dN.heap.objs.size) (items:=(xs++ys).toArray) (ns:=is++rs) hA O8.isList hi ?_ λh' iu hS f8=>?_
 ·unfold scanBound;simp;lia
 ·have R5:gj s.heap h':=λb o e=>f8 b o (Zu (k6 _ _ (G'.ext _ _ (kH _ _ e)))) (k6 _ _ (G'.ext _ _ (kH _ _ e)));have Nw:dN={ s with heap:=dN.heap,toks:=dN.toks }:=by refine aa Nv ?_;rfl
  refine aa Nw ?_;refine tX (s:={ s with heap:=h',toks:=iu }) (tv:=.set is a b) cF N R R5 ?_ (λts=>⟨_,_,_,rfl,hS,λk=>?_⟩) λh' tk R'=>h h' tk R'
  ·refine n5 hS λo Y Y Y e Y=>?_;exact Y1 Q6 (ZM (Zu e))
  ·have:(xs++ys).toArray.size=(is++rs).length:=by simp;lia
   rw[this,NZ,<-QB]
end
def ig (p:jdn)(x:Str):Bool:=p.main.scope.names.lookup x==some .local&&x != ("__builtins__" : Str)
def wm (a:jbl)(sc:jaB):Bool:=a.defaults.isEmpty&&a.kw_defaults.isEmpty&&a.args.all (λa=>a.annotation.isNone)&&a.posonlyargs.isEmpty&&a.vararg.isNone&&a.kwonlyargs.isEmpty&&a.kwarg.isNone&&sc.names.all (λx=>x.2 != .free)
def AQ (lp:List Pos)(pos:Pos):Bool:=lp.all λq=>!(q.line==pos.line&&q.col==pos.col)
abbrev gF:=List (Str×TV)×List Pos
inductive j0 (p:jdn) (e:gF):Stmt->gF->Prop
 |int {x:Str}{i:Int}{k:Nat}{p1 p2 p3:Pos} (h:ig p x=true):j0 p e (.Assign [.Name x p1] (.Constant (.int i) k p2) p3) ((x,.int i)::e.1,e.2)
 |str {x i:Str}{k:Nat}{p1 p2 p3:Pos} (h:ig p x=true):j0 p e (.Assign [.Name x p1] (.Constant (.str i) k p2) p3) ((x,.str i)::e.1,e.2)
 |fn {name wf:Str}{params:jbl}{body:List Stmt}{sc:jaB}{pos:Pos} (hn:wf=name) (h1:ig p name=true) (h2:wm params sc=true) (h3:AQ e.2 pos=true):
  j0 p e (.FunctionDef name params body [] none [] sc none wf pos) ((name,.fn name params body sc)::e.1,e.2++[pos])
 |dictI {x:Str}{ks:List (Option Expr)}{vs:List Expr}{l:List (Int×Str)}{p1 p2 p3:Pos} (hl:nD ks vs l) (h1:ig p x=true) (h2:nv l=true) (h3:l.length<=1000) (h4:l≠[]):j0 p e (.Assign [.Name x p1] (.Dict ks vs p2) p3) ((x,.dictI l)::e.1,e.2)
 |dictS {x:Str}{ks:List (Option Expr)}{vs:List Expr}{l:List (Str×Int)}{p1 p2 p3:Pos} (hl:nI e.1 ks vs l) (h1:ig p x=true) (h2:(l.map (·.1)).Nodup) (h3:l.length<=1000) (h4:l≠[]):j0 p e (.Assign [.Name x p1] (.Dict ks vs p2) p3) ((x,.dictS l)::e.1,e.2)
 |set {x f g h:Str}{es:List Expr}{is:List Int}{a b:Int}{k1 k2:Nat}{p1 p2 p3 p4 p5 p6 p7 p8 p9 pa pb pc:Pos} (hl:nG es is) (h1:ig p x=true) (h2:f = "set" /\ g = "list" /\ h = "range") (h5:fQ a b 1=some (gP a 1 (b-a).toNat)) (h6:is.length+(gP a 1 (b-a).toNat).length<=1000)
  (h7:e.1.lookup ("set" : Str)=none/\e.1.lookup ("list" : Str)=none/\e.1.lookup ("range" : Str)=none):
  j0 p e (.Assign [.Name x p1] (.Call (.Name f p2) [.BinOp (.List es p3) .Add (.Call (.Name g p4) [.Call (.Name h p5) [.Constant (.int a) k1 p6,.Constant (.int b) k2 p7] [] p8] [] p9) pa] [] pb) pc) ((x,.set is a b)::e.1,e.2)
theorem G1 {α:Type}{l:List α}(h:l.isEmpty=false):l≠[]:=λq=>nomatch (q▸h:([]:List α).isEmpty=false)
theorem AF {α:Type}{o:Option α}(h:o.isNone=true):o=none:=jcr.mp h
def Vl (p:jdn)(e:gF)(x:Str)(px:Pos)(l:List Expr)(pl:Pos)(gn:Str)(pg:Pos)(AN:Pos)(pos:Pos)(f:Str)(pf pb pc:Pos):(c:Expr)->Option { e':gF//j0 p e (.Assign [.Name x px] (.Call (.Name f pf) [.BinOp (.List l pl) .Add (.Call (.Name gn pg) [c] [] AN) pb] [] pc) pos) e' }
 | .Call (.Name h _) [.Constant (.int a) _ _,.Constant (.int b) _ _] [] _=>match F6 l with
  |some ⟨is,hl⟩=>if q:((ig p x=true/\f=("set" : Str)/\gn=("list" : Str)/\h=("range" : Str))/\fQ a b 1=some (gP a 1 (b-a).toNat)/\is.length+(gP a 1 (b-a).toNat).length<=1000) /\
   (e.1.lookup ("set" : Str)).isNone=true/\(e.1.lookup ("list" : Str)).isNone=true/\(e.1.lookup ("range" : Str)).isNone=true then some ⟨_,.set hl q.1.1.1 q.1.1.2 q.1.2.1 q.1.2.2 ⟨AF q.2.1,AF q.2.2.1,AF q.2.2.2⟩⟩else none
  |none=>none
 |_=>none
def Vk (p:jdn)(e:gF)(x:Str)(px pos:Pos)(f:Str)(pf pb pc:Pos):(l r:Expr)->Option { e':gF//j0 p e (.Assign [.Name x px] (.Call (.Name f pf) [.BinOp l .Add r pb] [] pc) pos) e' }
 | .List l pl,.Call (.Name gn pg) [c] [] AN=>Vl p e x px l pl gn pg AN pos f pf pb pc c
 |_,_=>none
def Js (p:jdn)(e:gF)(x:Str)(px pos:Pos):(v:Expr)->Option { e':gF//j0 p e (.Assign [.Name x px] v pos) e' }
 | .Constant (.int i) _ _=>if h:ig p x=true then some ⟨_,.int h⟩else none
 | .Constant (.str i) _ _=>if h:ig p x=true then some ⟨_,.str h⟩else none
 | .Dict ks vs _=>match CC ks vs with
  |some ⟨l,hl⟩=>if h:((ig p x=true/\nv l=true)/\l.length<=1000)/\l.isEmpty=false then some ⟨_,.dictI hl h.1.1.1 h.1.1.2 h.1.2 (G1 h.2)⟩else none
  |none=>match GR e.1 ks vs with
   |some ⟨l,hl⟩=>if h:((ig p x=true/\(l.map (·.1)).Nodup)/\l.length<=1000)/\l.isEmpty=false then some ⟨_,.dictS hl h.1.1.1 h.1.1.2 h.1.2 (G1 h.2)⟩else none
   |none=>none
 | .Call (.Name f pf) [.BinOp l .Add r pb] [] pc=>Vk p e x px pos f pf pb pc l r
 |_=>none
def WD (p:jdn)(e:gF):(st:Stmt)->Option { e':gF//j0 p e st e' }
 | .Assign [.Name x px] v pos=>Js p e x px pos v
 | .FunctionDef name params body [] none [] sc none wf pos=>if hn:wf=name then(if h:(ig p name=true/\wm params sc=true)/\AQ e.2 pos=true then some ⟨_,.fn hn h.1.1 h.1.2 h.2⟩else none)else none
 |_=>none
def wD (p:jdn):List Stmt->gF->Option gF
 | [],e=>some e
 |s::ss,e=>(WD p e s).bind λr=>wD p ss r.1
section
variable {A:ZV}{s:Y4}{h h' aL hh:jak}{mg bD mb:Str->Option Value}{c Pl F:Ze}{ps:Array Value}{ts t0:List (Ze×Ze)}{E:List (Str×TV)}{lp:List Pos}{ab:Env}
theorem qE {x:Str}(h:ig af x=true):lG x:=by
 unfold ig at h;rw[Zv]at h;have hl:=eq_of_beq h.1;refine⟨hl,by simpa using h.2,?_⟩;unfold jeg;have:(({ scope:=af.main.scope,locals:=Zp,globals:=Zp,cells:=[] }:Env).kindOf x)=some .local:=hl;refine aa this ?_;refine aa (if_neg (by decide)) ?_;show("" : Str)++x=x;apply jhB;refine aa (jje _ _) ?_;simp;rfl
theorem TC {sc:jaB}{ab:Env}(h:sc.names.all (λx=>x.2 != .free)=true):jcU sc ab=pure []:=by
 simp only[jcU];refine aa (forIn_yield_id [] (λx hx c=>by
  obtain⟨n,kind⟩:=x;rw[Y6]at h;have:=h _ hx;have:(kind==jag)=false:=by simpa using this
  simp only[this,jcI,if_false])) ?_
 rfl
structure Names0 (aL:jak) (bD mb:Str->Option Value):Prop where
 b:aL.Ns jae mb
 m1:mb "set" = some (.type "set")
 m2:mb "list" = some (.type "list")
 m3:mb "range" = some (.type "range")
 n1:bD "set" = none
 n2:bD "list" = none
 n3:bD "range" = none
theorem LC {name:Str}{params:jbl}{body:List Stmt}{sc:jaB}{pos:Pos}(cF:af.main.scope.kind=.module)(h1:ig af name=true)(h3:wm params sc=true)(h4:AQ lp pos=true):
 mz aL bD c Pl F (.FunctionDef name params body [] none [] sc none name pos) E lp ((name,.fn name params body sc)::E) (lp++[pos]):=by
 unfold wm at h3;simp only[Zv,jde,jcr]at h3;refine bN h3 λz1 d8=>?_;obtain⟨⟨⟨⟨⟨⟨d1,d2⟩,d3⟩,d4⟩,d5⟩,d6⟩,d7⟩:=z1;refine WF cF (qE h1) d1 d2 (Jk d3 d4 d5 d6 d7) (TC d8) λq hq ⟨a,b⟩=>?_;have:=Y6.mp h4 q hq;rw[a,b,beq_self_eq_true,beq_self_eq_true]at this;exact bP this
theorem VQ (cF:af.main.scope.kind=.module)(N:Names0 aL bD mb){e e':gF}{st:Stmt}(h:j0 af e st e'):mz aL bD c Pl F st e.1 e.2 e'.1 e'.2:=by
 cases h with
 |int h=>exact WJ cF (qE h)
 |str h=>exact WL cF (qE h)
 |fn hn h1 h2 h3=>refine aa hn ?_;exact LC cF h1 h2 h3
 |dictI hl h1 h2 h3 h4=>exact WG cF (qE h1) hl h2 h3 h4
 |dictS hl h1 h2 h3 h4=>exact WH cF (qE h1) hl h2 h3 h4
 |set hl h1 h2 h5 h6 h7 =>
  refine aa h2.1 ?_;refine aa h2.2.1 ?_;refine aa h2.2.2 ?_;exact WK cF (qE h1) hl h5 rfl h6 N.b N.m1 N.m2 N.m3 ⟨h7.1,N.n1⟩ ⟨h7.2.1,N.n2⟩ ⟨h7.2.2,N.n3⟩
theorem VS (cF:af.main.scope.kind=.module)(N:Names0 aL bD mb)(hA:A.handled=none){e':gF}{Q:jeB->Y4->Prop}{Er:Value->Y4->Prop}:∀{gQ:List Stmt}{e:gF}{s:Y4},wD af gQ e=some e'->0<s.toks->gW aL bD c Pl e.1 e.2 s.heap ->
 (∀h' tk,gW aL bD c Pl e'.1 e'.2 h'->s.toks<=tk->Q .next { s with heap:=h',toks:=tk })->Y' (Zb af wd) A (ZN gQ (jcm af c F)) Q Er s:=by
 intro gQ
 induction gQ with
 |nil =>
  intro e s h ht R hQ;exact jbc (hQ s.heap s.toks (Y3 h▸R) (Y5 _))
 |cons st gQ ih =>
  intro e s h ht R hQ;refine au (jgH.mp h) λr Y h=>?_;exact Zy (eF (VQ cF N r.2 A s _ _ hA ht R λh' tk R' u=>ih h (bf ht u.toks) R' λhV iu I6 eT=>hQ hV iu I6 (Y1 u.toks eT)))
end
abbrev pw:jdn:=jcJ
def wC:Option gF:=wD pw pw.main.body ([],[])
theorem WC:wC.isSome=true:=by decide +kernel
def eM:List (Str×TV):=(wC.getD ([],[])).1
def r7:List Pos:=(wC.getD ([],[])).2
theorem WB:wD pw pw.main.body ([],[])=some (eM,r7):=by
 have:=WC;unfold eM r7
 induction h:wC using ae with
 |none=>rw[h]at this;cases this
 |some e=>exact h
def LQ:PySem.Step->Bool
 | .halt (.done _) _=>true
 |_=>false
theorem VP {fE:Code->Sem Fin}{p:jdn}{heap:jak}{gens:Array GenState}{drawn:Drawn}{toks:Tok}{os:OsState}{cur:Sem Fin}{code:Code}{pos:Pos}{stack:List Frame}:
 LQ (step fE p wd ⟨heap,gens,drawn,toks,os⟩ ⟨cur,code,pos,stack⟩)=true->through ⟨cur,code,pos,stack⟩=true:=by
 cases cur with
 |pure a =>
  cases a with
  |done f' =>
   induction stack using Y2 with
   |nil=>exact λY=>rfl
   |cons fr az=>cases fr<;>exact λh=>bP h
  |again c=>exact λh=>bP h
 |raise e =>
  induction stack using Y2 with
  |nil=>delta step finish;dsimp only;cases jdO gens<;>exact λh=>bP h
  |cons fr az=>cases fr<;>exact λh=>bP h
 |load a _ k=>delta step;dsimp only;cases heap.get? a<;>exact λh=>bP h
 |genState g k=>delta step;dsimp only;cases gens[g]?<;>exact λh=>bP h
 |finish e=>delta step;dsimp only;cases jdO gens<;>exact λh=>bP h
 |update a _ f k=>delta step;dsimp only;cases(heap.get? a).isSome<;>exact λh=>bP h
 |choose src n k=>delta step;dsimp only;cases n<;>exact λh=>bP h
 | «yield» v l p k=>delta step;dsimp only;cases splitAtGen stack<;>exact λh=>bP h
 |resume g r l k =>
  delta step;dsimp only
  induction gens[g]? using ae with
  |none=>exact λh=>bP h
  |some st =>
   cases st<;>first|exact λh=>bP h|skip
   ·cases r with
    |throw e=>exact λh=>bP h
    |send v=>cases v<;>exact λh=>bP h
 |_=>exact λh=>bP h
theorem Wv {fE:Code->Sem Fin}{p:jdn}{s s':Y4}{t:Thread}{f:jeB}(h:step fE p wd s t=.halt (.done f) s'):through t=true :=
 VP (fE:=fE) (p:=p) (heap:=s.heap) (gens:=s.gens) (drawn:=s.drawn) (toks:=s.toks) (os:=s.os) (by refine aa (show step fE p wd ⟨s.heap,s.gens,s.drawn,s.toks,s.os⟩ ⟨t.cur,t.code,t.pos,t.stack⟩=.halt (.done f) s' from h) ?_;rfl)
theorem HB:∀{n:Nat}{s:Y4}{t:Thread},runN fE p wd n s t=.halted (.done f) s'->∃m gi,runN fE p wd m s t=.running s' gi/\through gi=true
 |0,s,t,h=>by cases h
 |n+1,s,t,h=>by
  unfold runN at h;cases hs:step fE p wd s t with
  |go ak gi =>
   rw[hs]at h;refine bB (HB h) λm oV h1 h2=>?_;exact cZ (m+1) oV (by unfold runN;refine aa hs ?_;exact h1) h2
  |halt o ak =>
   rw[hs]at h;have e1:o=.done f:=by injection h
   have e2:ak=s':=by injection h
   subst e1 e2;have:=step_halt_same (den:=fE) (prog:=p) (w:=wd) _ _ _ _ hs;subst this;exact cZ 0 t rfl (Wv hs)
theorem HD:∀{m:Nat}{s:Y4}{t:Thread},s.asleep->(∀k ak gi,runN fE p wd k s t=.running ak gi->gi.calm=true)->runN fE p wd m s t=.running s' t'->schedN fE p wd m (.single s t)=.running (.single s' t')
 |0,s,t,_,_,h=>by
  injection h with h1 h2
  subst h1 h2;rfl
 |m+1,s,t,hz,hc,h=>by
  unfold runN at h;cases hs:step fE p wd s t with
  |go ak gi =>
   rw[hs]at h;have Pr:=hc 0 s t rfl;have e:sstep fE p wd (.single s t)=.go (.single ak gi):=by
    rcases sstep_single (den:=fE) (prog:=p) (w:=wd) s t Pr hz with e|e
    ·refine aa e ?_;refine aa hs ?_;rfl
    ·rw[hs]at e;cases e
   unfold schedN;refine aa e ?_;refine HD (jgZ (step_life fE p wd s ak t gi hs) hz) (λk aC oV hk=>hc (k+1) aC oV ?_) h;unfold runN;refine aa hs ?_;exact hk
  |halt o ak=>rw[hs]at h;cases h
theorem Wu {t:Sem Fin}{s:Y4}{f:jeB}{R:Y4->Prop}(Qv:s.asleep)(h:Y' (Zb af wd) jib t (λfin s'=>fin=.done f/\R s'/\jdO s'.gens=false) (λY Y=>False) s):
 ∃n gi s' cO,schedN (denote table) af wd n (.single s ⟨t,.builtin "claim.caller" {},default,[]⟩)=.running (.single s' gi)/\through gi=true/\s'.forget=cO.forget/\R cO/\s'.heap.life=s.heap.life:=by
 have h':=wp_of_wpAny_done (R:=λr s'=>(r=.ok f/\R s')/\jdO s'.gens=false) caller_in
  (jar h (λY Y qq=>fY qq λe a b=>li f e ⟨rfl,a⟩ b) λY Y x=>x.elim) default
 refine uW ((wp_iff_halts (M:=Zb af wd) (R:=λr s'=>r=.ok f/\R s') ..).mp h') λn r ak hn hR=>?_;refine fq (runNI_real _ _ _ hn (outcomeOf_ends r)) λaC hr hf hc=>?_;refine bN hR ?_;rintro rfl hR;refine bB (HB hr) λm gi h1 h2=>?_;exact z7 m gi aC ak (HD Qv hc h1) h2 hf hR (runN_life _ _ _ hr)
structure BH (aL:jak) (bD mb:Str->Option Value):Prop extends Names0 aL bD mb where
 g:aL.Ns Zp bD
 bmod:∃bm o,bD "__builtins__" = some (.ref bm)/\bm≠jae/\bm≠Zp/\aL.get? bm=some o/\o.cls=.type "module" /\ o.dict=some jae/\o.data=.plain
 sys:jad<aL.objs.size
def wE (p:jdn):Sem Fin:=do
 let code <-moduleCode p.main;let frame <-newBodyFrame code mainNs mainNs;let _ <-run (.body (behindTheImports p) { scope:=p.main.scope,locals:=mainNs,globals:=mainNs,cells:=[],code,frame:=some frame })
 ret .none
theorem WE (p:jdn):topStub p=⟨wE p,.builtin "claim.caller" {},default,[]⟩:=rfl
theorem JL:behindTheImports pw=pw.main.body:=by rfl
theorem WM (B:BH s.heap bD mb)(ht:0<s.toks):
 Y' (Zb pw wd) jib (wE pw) (λfin s'=>fin=.done (.ret .none)/\∃h tk c Pl,s'={ s with heap:=h,toks:=tk }/\0<tk/\gW s.heap bD c Pl eM r7 h) (λY Y=>False) s:=by
 unfold wE moduleCode;refine Y9 (Y9 (wpAny_fresh (eF (wpAny_newCodeX λc P h' tk hk hc hP mY FJ Y u=>?_))));unfold newBodyFrame;have hg:h'.Ns Zp bD:=B.g.keeps hk;refine Y9 (Y9 (jiE (a:=Zp) hg (jiG ?_)));dsimp only;generalize hH:h'.push _=H;have zt:gj s.heap H:=λb o e=>hH▸Zd _ (hk b o e);have sP:∀b o,h'.get? b=some o->H.get? b=some o:=λb o e=>hH▸Zd _ e;have jj:0<tk:=bf (jhk _) u.toks;have EZ:Zp<s.heap.objs.size:=B.g.lt;have Pw:s.heap.objs.size<=c:=hc;have y7:s.heap.objs.size<=P:=hP;have R:gW s.heap bD c P [] [] H:=by
  refine DC B.bmod λbm o b1 b2 b3 b4 b5=>?_;refine⟨⟨bD,#[],[],[],⟨B.g.keeps zt,(jhV mY FJ).keeps sP,sP _ _ FJ.2,trivial,⟨bf EZ Pw,bf EZ y7⟩,bm,o,b1,b2,b3,λq=>ZW.mpr y7 (q▸Zu b4),zt _ _ b4,b5⟩,rfl,rfl,jaR,(λt ht=>nomatch ht),(λx tv hx=>nomatch hx),λY Y=>rfl⟩,λb o Y e=>zt b o e,?_,y7,B.sys⟩;have q1:H.objs.size=h'.objs.size+1:=by refine rwj hH ?_;refine aa (ZP _ _) ?_;rfl
  have q2:s.heap.objs.size<=h'.objs.size:=u.size
  lia
 refine aa JL ?_;refine Y9 (wpAny_run (codeAny_body (by rfl) (by rfl) ?_));refine VS (F:=h'.objs.size) (by rfl) B.toNames0 (by rfl) WB jj R λcy Ww bW QS=>?_;exact Zx ⟨rfl,cy,Ww,c,P,rfl,bf jj QS,bW⟩
theorem J0 (P:jdQ):(jah P).isNs Zp=true:=by kernel_rfl
theorem Cd (P:jdQ):(jah P).isNs jae=true:=by kernel_rfl
theorem JZ (P:jdQ):(jah P).isNs jei=true:=by kernel_rfl
theorem JW (P:jdQ):(jah P).nsKeys jei=[]:=by kernel_rfl
theorem JV (P:jdQ):(jah P).nsMap Zp "__builtins__" = some (.ref 4):=by kernel_rfl
theorem JU (P:jdQ):(jah P).get? 4=some { cls:=.type "module",dict:=some jae }:=by kernel_rfl
theorem J1 (P:jdQ):decide (jad<(jah P).objs.size)=true:=by kernel_rfl
theorem JY (P:jdQ):((jah P).nsKeys Zp).all (λk=>jgd.contains k)=true:=by kernel_rfl
theorem J4 (P:jdQ):(jah P).bltView=bltViewBooted:=by kernel_rfl
theorem pA (P:jdQ)(x:Str)(h:x ≠ "__name__"):(jah P).nsMap jae x=jic x:=Heap.of_bltView (Cd P) (J4 P) x h
theorem rL (P:jdQ)(h:jgd.contains x=false):(jah P).nsMap Zp x=none:=jiU λhk=>by
 have:=Y6.mp (JY P) x hk;rw[h]at this;cases this
theorem J2:0<boot_toks:=by decide
theorem uC (P:jdQ):(jah P).Ns jei (λY=>none):=by
 have h:=jfG (JZ P);have:(jah P).nsMap jei=λY=>none:=by
  funext x;exact jiU (by refine aa (JW _) ?_;exact λq=>nomatch q)
 rw[this]at h;exact h
theorem xp (P:jdQ):BH (jah P) ((jah P).nsMap Zp) ((jah P).nsMap jae) where
 b:=jfG (Cd P)
 m1:=(pA P _ (by decide)).trans (by decide +kernel)
 m2:=(pA P _ (by decide)).trans (by decide +kernel)
 m3:=(pA P _ (by decide)).trans (by decide +kernel)
 n1:=rL P (by decide +kernel)
 n2:=rL P (by decide +kernel)
 n3:=rL P (by decide +kernel)
 g:=jfG (J0 P)
 bmod:=Rx 4 _ (JV P) (by decide) (by decide) (JU P) rfl rfl rfl
 sys:=of_decide_eq_true (J1 P)
theorem UR:opening pw=plainProg pw.main.scope.names:=by rfl
theorem AT (s:Y4):fenceModules? pw s=some s:=by rfl
theorem vb (hn:h.Ns Zp mg)(x:Str):globalOf h x=mg x:=jew hn x
structure uv (ak:Y4):Prop where
 top:∃c Pl,gW (jah wd.params) ((jah wd.params).nsMap Zp) c Pl eM r7 ak.heap
 gens:ak.gens=#[]
 toks:0<ak.toks
theorem L6:eM.all (λe=>pw.boundNames.contains e.1)=true:=by decide +kernel
theorem Ma:laidNames.all (λx=>(eM.lookup x).isNone)=true:=by decide +kernel
theorem SM {γ:Type}{x:Str}{v:γ}:∀{l:List (Str×γ)},l.lookup x=some v->(x,v)∈l:=λh=>mem_of_lookup h
theorem head:(∃s,AfterRun (opening pw) wd s)/\∀s,AfterRun (opening pw) wd s->∃fg,fenceModules? pw s=some fg/\fg.gens=#[]/\∃ak,TopRan pw wd fg ak/\ak.asleep/\uv ak:=by
 refine au (Zs.mp (boot_open (p:=pw) (N:=600) UR (by decide) AT wd)) λfg h0 hv=>?_;unfold fencedOpening at h0;refine au (jgH.mp h0) λs h1 h2=>?_;rw[AT]at h2;have zI:s=fg:=Y3 h2;subst zI;rw[<-table_eq_tree]at h1;have A:AfterImport (opening pw) wd s:=AfterImport.of_importEnds h1;refine⟨⟨s,A⟩,λs' ej=>?_⟩;obtain rfl:s'=s:=AfterImport.unique ej A;have e1:s'.heap=jah wd.params:=congrArg (·.1) hv;have e2:s'.gens=#[]:=congrArg (·.2.1) hv;have e3:s'.toks=boot_toks:=congrArg (·.2.2.2) hv;have B:=xp wd.params;rw[<-e1]at B;have hz:s'.asleep:=A.life;obtain⟨n,gi,ak,aC,r1,r2,r3,r4,r5⟩:=Wu (t:=wE pw) (s:=s') (f:=.ret .none) (R:=λcO=>∃h tk c Pl,cO={ s' with heap:=h,toks:=tk }/\0<tk/\gW s'.heap ((jah wd.params).nsMap Zp) c Pl eM r7 h) hz
  (jar (WM (bD:=(jah wd.params).nsMap Zp) (mb:=(jah wd.params).nsMap jae) (e1▸B) (by refine aa e3 ?_;exact J2)) (λfin cO ⟨a,h,tk,c,Pl,b,d,e⟩=>cz a ⟨h,tk,c,Pl,b,d,e⟩ (by refine aa b ?_;show jdO s'.gens=false;refine aa e2 ?_;decide +kernel)) λY Y x=>x)
 refine kf r4 ?_;rintro h tk c Pl rfl jj T;have es:ak={ s' with heap:=h,toks:=tk }:=Shared.eq_of_forget_eq r3 e2;subst es;have he:(jah wd.params)=s'.heap:=e1.symm;have T':=T;rw[e1]at T';refine⟨s',AT s',e2,_,⟨⟨n,gi,by refine aa (WE _) ?_;exact r1,r2⟩,r5,Shared.rest_eq rfl,λb o hb hn=>T.old b o (λq=>hn (.inl q)) hb,?_,?_,?_,?_,?_,?_,?_,?_⟩,jgZ r5 hz,⟨⟨c,Pl,T'⟩,e2,jj⟩⟩
 ·
  have cM:h.Ns jei (λY=>none):=(uC wd.params).at' λo e=>T'.old _ _ (by decide) e;intro key v hv;have:jgc h key=none:=by
   refine kX cM λo es ep ho hd Y hf=>?_;unfold jgc;refine aa ho ?_;simp only[hd];exact hf key
  rw[show({ s' with heap:=h,toks:=tk }:Y4).heap=h from rfl,this]at hv;cases hv
 ·intro key;left;have cM:h.Ns jei (λY=>none):=(uC wd.params).at' λo e=>T'.old _ _ (by decide) e;have QI:s'.heap.Ns jei (λY=>none):=by refine aa e1 ?_;exact uC wd.params
  have st:∀{h:jak},h.Ns jei (λY=>none)->jgc h key=none:=λhn=>by
   refine kX hn λo es ep ho hd Y hf=>?_;unfold jgc;refine aa ho ?_;simp only[hd];exact hf key
  show jgc h key=jgc s'.heap key;refine aa (st cM) ?_;refine aa (st QI) ?_;rfl
 ·refine n5 T'.ex λmg ps ts l S Y=>?_;exact PySem.Pin.keysAreStrs_of_ns S.g
 ·have hb:h.Ns jae ((jah wd.params).nsMap jae):=(xp wd.params).b.at' λo e=>T'.old _ _ (by decide) e;intro name hn;have:builtinOf h name=(jah wd.params).nsMap jae name:=by
   refine kX hb λo es ep ho hd Y hf=>?_;unfold builtinOf;refine aa ho ?_;simp only[hd];exact hf name
  refine aa (show({ s' with heap:=h,toks:=tk }:Y4).heap=h from rfl) ?_;refine aa this ?_;exact pA _ name hn
 ·refine n6 T'.ex λmg ps ts l S Y Y Y Y e5 e6=>?_;refine DD S.bmod λbm o b1 b2 b3 b4 b5 b6 b7 b8=>?_;exact⟨bm,o,(vb S.g _).trans b1,b5,b6,b7⟩
 ·intro g hg;rw[show({ s' with heap:=h,toks:=tk }:Y4).gens=#[]from e2]at hg;simp at hg
 ·intro x v hx;refine n6 T'.ex λmg ps ts l S Y Y Y Y e5 e6=>?_;have fe:mg x=some v:=(vb S.g x).symm.trans hx
  induction hl:eM.lookup x using ae with
  |some tv =>
   right;have:=Y6.mp L6 _ (SM hl);exact jeH.mp this
  |none =>
   left;rw[e6 x hl]at fe
   induction hc:jgd.contains x using ZH with
   |true=>exact jeH.mp hc
   |false=>rw[rL _ hc]at fe;cases fe
 ·intro x hx;refine n6 T'.ex λmg ps ts l S Y Y Y Y e5 e6=>?_;have hl:eM.lookup x=none:=jcr.mp (Y6.mp Ma x hx);refine aa (show({ s' with heap:=h,toks:=tk }:Y4).heap=h from rfl) ?_;refine aa (vb S.g _) ?_;refine aa (e6 x hl) ?_;refine aa (vb B.g _) ?_;refine aa e1 ?_;rfl
def fS:Stmt->TV
 | .FunctionDef n p b _ _ _ sc _ _ _=>.fn n p b sc
 |_=>.int 0
def Jo:List Arg->Bool
 | [⟨_,none,_⟩]=>true
 | [⟨_,none,_⟩,⟨_,none,_⟩]=>true
 | [⟨_,none,_⟩,⟨_,none,_⟩,⟨_,none,_⟩]=>true
 |_=>false
def Hh (p:jbl):Bool:=p.posonlyargs.isEmpty&&Jo p.args&&p.vararg.isNone&&p.kwonlyargs.isEmpty&&p.kw_defaults.isEmpty&&p.kwarg.isNone&&p.defaults.isEmpty
def HC (ps:List Str)(sc:jaB):Bool:=!sc.isCoroutine&&!sc.isGenerator&&sc.kind==.function&&oQ (dy ps sc)&&decide (sc.names.map (·.1)).Nodup&&decide ps.Nodup&&sc.names.all (λx=>x.2 != .free)&&ps.all (λx=>sc.names.lookup x==some .local||sc.names.lookup x==some .cell)
def uM:Stmt->Bool
 | .FunctionDef n p b _ _ _ sc _ _ _=>Hh p&&HC (p.args.map (·.arg)) sc
 |_=>false
def jT:Stmt->jbl
 | .FunctionDef _ p _ _ _ _ _ _ _ _=>p
 |_=>⟨[],[],none,[],[],none,[]⟩
def o3 (st:Stmt):Prop:=∀(n:Str) (b:List Stmt) (sc:jaB) (bG pm bZ:Value) (c':Ze) (vals:List Value),vals.length=((jT st).args.map (·.arg)).length->jbQ (fnX n n (jT st) b sc [] .none .none bG pm none (.ref c') bZ) ⟨vals,[]⟩=pure (((jT st).args.map (·.arg)).zip vals)
theorem CO {C:Stmt->Prop}{st:Stmt}(h:uM st=true)(k:∀n p b d r tc sc x y z,Hh p=true->HC (p.args.map (·.arg)) sc=true->C (.FunctionDef n p b d r tc sc x y z)):C st:=by
 induction st using jgO with
 |FunctionDef=>exact cu h λh1 h2=>k _ _ _ _ _ _ _ _ _ _ h1 h2
 |_=>exact bP h
theorem LA {st:Stmt}(hB:o3 st){fd:jay}{name:Str}{p:jbl}{b:List Stmt}{sc:jaB}{c':Ze}{mu:List Str}(h:uM st=true)(e:fS st=.fn name p b sc)(F:re fd name p b sc c'):eu fd (qd mu st) (p.args.map (·.arg)) b mu:=by
 revert hB e;refine CO (C:=λst=>o3 st->fS st=.fn name p b sc->eu fd (qd mu st) (p.args.map (·.arg)) b mu) h λn' p' b' Y Y Y tH Y Y Y h1 h2 hB e=>?_;refine TV.fn.inj e|>.elim λe1 r=>r.elim λe2 r=>r.elim λe3 e4=>?_;subst e1 e2 e3 e4;refine yo F ?_;rintro bG pm bZ rfl;exact cu h2 λh2 k8=>cu h2 λh2 k7=>cu h2 λh2 k6=>cu h2 λh2 k5=>cu h2 λh2 k4=>cu h2 λh2 k3=>cu h2 λk1 k2 =>
  ⟨rfl,rfl,rfl,rfl,(jbO _).mp k1,(jbO _).mp k2,eq_of_beq k3,hB n' b' tH bG pm bZ c',rfl,rfl,rfl,k4,of_decide_eq_true k5,of_decide_eq_true k6,k7,k8⟩
def CP:List (Nat×Nat×List Str):=[(0,2,[]),(3,6,["q_digits"]),(4,7,[]),(5,9,[]),(6,10,[]),(7,11,[]),(10,69,[]),(11,70,[]),(12,71,[]),(13,73,[]),(14,74,["row"]),(15,75,["row"]),(16,76,["names","near"]),(17,77,["told"]),(18,78,[]),(19,79,["tables","table"]),(20,80,[]),(21,81,[])]
def gw:List (Nat×Str×Nat):=[(0,"_div2n1n",2),(1,"_int2digits",4),(2,"_digits2int",5),(3,"_divmod_pos",6),(4,"int_divmod",7),(5,"rgb_to_hls",9),(6,"rgb_to_hsv",10),(7,"hsv_to_rgb",11),
 (8,"in_table_b1",14),(9,"map_table_b3",16),(10,"ISTERMINAL",69),(11,"ISNONTERMINAL",70),(12,"ISEOF",71),(13,"_law_word",73),(14,"_law_page",74),(15,"_law_read",75),
 (16,"_law_net",76),(17,"_law_lamps",77),(18,"_law_paintings",78),(19,"_law_classes",79),(20,"_law_plain",80),(21,"law",81)]
def fns (k:Nat):Option dC:=(CP.lookup k).map λ(i,m)=>qd m (fC i)
theorem j3 {st:Stmt}(h:((jT st).args.map (·.arg)).length=1)(hb:∀n b sc bG pm bZ c' u,jbQ (fnX n n (jT st) b sc [] .none .none bG pm none (.ref c') bZ) ⟨[u],[]⟩=pure (((jT st).args.map (·.arg)).zip [u])):o3 st:=λn b sc bG pm bZ c' vals hl =>
 Gr (Q:=λvals=>jbQ _ ⟨vals,[]⟩=pure (jiZ _ vals)) (hl.trans h) (hb n b sc bG pm bZ c')
theorem pz {st:Stmt}(h:((jT st).args.map (·.arg)).length=2)(hb:∀n b sc bG pm bZ c' u v,jbQ (fnX n n (jT st) b sc [] .none .none bG pm none (.ref c') bZ) ⟨[u,v],[]⟩=pure (((jT st).args.map (·.arg)).zip [u,v])):o3 st:=λn b sc bG pm bZ c' vals hl =>
 Gs (Q:=λvals=>jbQ _ ⟨vals,[]⟩=pure (jiZ _ vals)) (hl.trans h) (hb n b sc bG pm bZ c')
theorem rJ {st:Stmt}(h:((jT st).args.map (·.arg)).length=3)(hb:∀n b sc bG pm bZ c' u v wd,jbQ (fnX n n (jT st) b sc [] .none .none bG pm none (.ref c') bZ) ⟨[u,v,wd],[]⟩=pure (((jT st).args.map (·.arg)).zip [u,v,wd])):o3 st:=λn b sc bG pm bZ c' vals hl =>
 Sn (Q:=λvals=>jbQ _ ⟨vals,[]⟩=pure (jiZ _ vals)) (hl.trans h) (hb n b sc bG pm bZ c')
def IR (x:Nat×Str×Nat):Prop:=o3 (fC x.2.2)
theorem N4:∀x∈gw,IR x :=
 aS (rJ (by kernel_rfl) (λY Y Y Y Y Y Y Y Y Y=>by kernel_rfl))<|aS (pz (by kernel_rfl) (λY Y Y Y Y Y Y Y Y=>by kernel_rfl))<|aS (pz (by kernel_rfl) (λY Y Y Y Y Y Y Y Y=>by kernel_rfl))<|aS (pz (by kernel_rfl) (λY Y Y Y Y Y Y Y Y=>by kernel_rfl))<|aS (pz (by kernel_rfl) (λY Y Y Y Y Y Y Y Y=>by kernel_rfl))<|aS (rJ (by kernel_rfl) (λY Y Y Y Y Y Y Y Y Y=>by kernel_rfl))<|aS (rJ (by kernel_rfl) (λY Y Y Y Y Y Y Y Y Y=>by kernel_rfl))<|aS (rJ (by kernel_rfl) (λY Y Y Y Y Y Y Y Y Y=>by kernel_rfl))<|aS (j3 (by kernel_rfl) (λY Y Y Y Y Y Y Y=>by kernel_rfl))<|aS (j3 (by kernel_rfl) (λY Y Y Y Y Y Y Y=>by kernel_rfl))<|aS (j3 (by kernel_rfl) (λY Y Y Y Y Y Y Y=>by kernel_rfl))<|aS (j3 (by kernel_rfl) (λY Y Y Y Y Y Y Y=>by kernel_rfl))<|aS (j3 (by kernel_rfl) (λY Y Y Y Y Y Y Y=>by kernel_rfl))<|aS (j3 (by kernel_rfl) (λY Y Y Y Y Y Y Y=>by kernel_rfl))<|aS (j3 (by kernel_rfl) (λY Y Y Y Y Y Y Y=>by kernel_rfl))<|aS (j3 (by kernel_rfl) (λY Y Y Y Y Y Y Y=>by kernel_rfl))<|aS (j3 (by kernel_rfl) (λY Y Y Y Y Y Y Y=>by kernel_rfl))<|aS (pz (by kernel_rfl) (λY Y Y Y Y Y Y Y Y=>by kernel_rfl))<|aS (rJ (by kernel_rfl) (λY Y Y Y Y Y Y Y Y Y=>by kernel_rfl))<|aS (j3 (by kernel_rfl) (λY Y Y Y Y Y Y Y=>by kernel_rfl))<|aS (pz (by kernel_rfl) (λY Y Y Y Y Y Y Y Y=>by kernel_rfl))<|aS (j3 (by kernel_rfl) (λY Y Y Y Y Y Y Y=>by kernel_rfl))<|jA
theorem D4:gw.all (λx=>uM (fC x.2.2))=true:=by decide +kernel
def F9 (x:Str):TV->Bool
 | .fn n _ _ _=>n==x
 |_=>false
theorem RL (h:F9 x v=true):∃p b sc,v=.fn x p b sc:=by
 cases v with
 |fn n p b sc=>exact Ry p b sc (eq_of_beq h▸rfl)
 |_=>exact bP h
theorem N7:gw.all (λx=>F9 x.2.1 (fS (fC x.2.2)))=true:=by decide +kernel
theorem N6:gw.map (λx=>eM.lookup x.2.1)=gw.map (λx=>some (fS (fC x.2.2))):=by kernel_rfl
theorem N5 (x:Nat×Str×Nat)(hx:x∈gw):eM.lookup x.2.1=some (fS (fC x.2.2))/\(∃p b sc,fS (fC x.2.2)=.fn x.2.1 p b sc):=
 ⟨List.map_inj_left.mp N6 x hx,RL (Y6.mp N7 x hx)⟩
def FU:Nat->Pos:=qK [(30,4,30,12),(30,16,30,17),(30,15,30,18),(30,23,30,24),(30,23,30,35),(30,23,30,37),(30,40,30,41),(30,23,30,41),(30,44,30,45),(30,23,30,45),(30,50,30,51),(30,22,30,51),(30,15,30,52),(30,4,30,52),(42,7,42,8),(43,8,43,13),(43,14,43,15),(43,17,43,18),(43,20,43,23),(43,24,43,32),(43,20,43,33),(43,8,43,34),(43,8,43,34),(42,4,43,34),(44,11,44,19),(44,4,44,19)]
def s8:Nat->Pos:=qK [(33,11,33,12),(33,15,33,16),(33,11,33,16),(33,20,33,21),(33,11,33,21),(34,12,34,20),(34,21,34,22),(34,12,34,23),(34,26,34,27),(34,12,34,27),(35,12,35,18),(33,8,35,18),(36,8,36,11),(36,14,36,15),(36,18,36,19),(36,14,36,19),(36,23,36,24),(36,14,36,24),(36,8,36,24),(37,8,37,13),(37,17,37,20),(37,23,37,24),(37,17,37,24),(37,28,37,29),(37,16,37,29),(37,8,37,29),(38,8,38,13),(38,16,38,17),(38,21,38,26),(38,16,38,26),(38,8,38,26),(39,8,39,13),(39,16,39,17),(39,20,39,25),(39,29,39,34),(39,20,39,34),(39,16,39,34),(39,8,39,34),(40,8,40,13),(40,14,40,19),(40,21,40,22),(40,24,40,27),(40,8,40,28),(40,8,40,28),(41,8,41,13),(41,14,41,19),(41,21,41,24),(41,26,41,27),(41,8,41,28),(41,8,41,28),(32,14,32,15),(32,17,32,18),(32,20,32,21),(32,4,41,28)]
def CM:Nat->Pos:=qK [(53,36,53,42),(53,11,53,16),(53,17,53,18),(53,20,53,23),(53,24,53,30),(53,20,53,31),(53,11,53,32),(53,48,53,49),(53,11,53,49),(53,4,53,49)]
def rY:Nat->Pos:=qK [(48,11,48,12),(48,15,48,16),(48,11,48,16),(48,20,48,21),(48,11,48,21),(49,19,49,25),(49,26,49,27),(49,19,49,28),(49,12,49,28),(48,8,49,28),(50,8,50,11),(50,14,50,15),(50,18,50,19),(50,14,50,19),(50,23,50,24),(50,14,50,24),(50,8,50,24),(51,8,51,13),(51,17,51,20),(51,23,51,24),(51,17,51,24),(51,28,51,29),(51,16,51,29),(51,8,51,29),(52,16,52,21),(52,22,52,25),(52,27,52,28),(52,16,52,29),(52,33,52,38),(52,16,52,38),(52,42,52,47),(52,48,52,49),(52,51,52,54),(52,42,52,55),(52,15,52,55),(52,8,52,55),(0,0,0,0),(0,0,0,0),(0,0,0,0),(0,0,0,0),(47,14,47,15),(47,17,47,18),(47,4,52,55)]
def B5:Nat->Pos:=qK [(143,11,143,14),(143,15,143,19),(143,11,143,20),(143,24,143,30),(143,11,143,30),(143,4,143,30)]
def B7:Nat->Pos:=qK [(146,4,146,5),(146,8,146,21),(146,8,146,25),(146,26,146,29),(146,30,146,34),(146,26,146,35),(146,8,146,36),(146,4,146,36),(147,7,147,8),(147,16,147,20),(147,7,147,20),(148,15,148,16),(148,8,148,16),(147,4,148,16),(149,11,149,15),(149,11,149,21),(149,11,149,23),(149,4,149,23)]
theorem Xh:fS (fC 4)=.fn "_int2digits" (wk "a" "n" ⟨29,16,29,17⟩ ⟨29,19,29,20⟩) (zV FU s8) s6:=by kernel_rfl
theorem Xi:fS (fC 5)=.fn "_digits2int" (wk "digits" "n" ⟨45,16,45,22⟩ ⟨45,24,45,25⟩) (xN CM rY) rW:=by kernel_rfl
theorem Xf:fS (fC 14)=.fn "in_table_b1" ⟨[],[⟨"code",none,⟨142,16,142,20⟩⟩],none,[],[],none,[]⟩ (uy B5) uA:=by kernel_rfl
theorem Xg:fS (fC 16)=.fn "map_table_b3" ⟨[],[⟨"code",none,⟨145,17,145,21⟩⟩],none,[],[],none,[]⟩ (xm B7) uB:=by kernel_rfl
theorem L7:eM.lookup ("_DIV_LIMIT" : Str)=some (.int 4000):=by kernel_rfl
theorem Mb:eM.lookup ("NT_OFFSET" : Str)=some (.int 256):=by kernel_rfl
theorem L8:eM.lookup ("ENDMARKER" : Str)=some (.int 0):=by kernel_rfl
theorem L4:eM.lookup ("b1_set" : Str)=some (.set uz 65024 65040):=by kernel_rfl
theorem L5:eM.lookup ("b3_exceptions" : Str)=some (.dictI B6):=by kernel_rfl
def tW:List (Str×Int):=match eM.lookup ("EXACT_TOKEN_TYPES" : Str)with
 |some (.dictS l)=>l
 |_=>[]
theorem Mc:eM.lookup ("EXACT_TOKEN_TYPES" : Str)=some (.dictS tW):=by kernel_rfl
theorem Ib:tW.all (λe=>cA.lookup e.1.cps.toList==some e.2)=true/\cA.all (λe=>tW.lookup ⟨e.1.toArray⟩==some e.2)=true:=by decide +kernel
theorem L9:(["range","list","int","bool","reversed","len","sum","max","min","ord","chr","divmod","isinstance"]:List Str).all (λx=>(eM.lookup x).isNone&&!jgd.contains x)=true:=by decide +kernel
theorem Tq:gv.all (λe=>match e.2 with | .user k=>(gw.lookup k).map (·.1)==some e.1|_=>true)=true:=by decide +kernel
theorem Aj {K:Type}[DecidableEq K][BEq K][LawfulBEq K]{γ:Type}{Pv:γ->Value->Prop}:∀{l:List (K×γ)}{aJ:List (K×Value)},eV (l.map λe=>(e.1,Pv e.2)) aJ->∀x,(∀v,l.lookup x=some v->∃u,jdh aJ x=some u/\Pv v u)/\(l.lookup x=none->jdh aJ x=none)
 | [],_,.nil,x=>⟨λv h=>by simp at h,λY=>rfl⟩
 |(k,g)::l,_,.cons (v:=u) h r,x=>by
  have ih:=Aj r x;unfold jdh at ih ⊢;refine aa ZX ?_;refine aa List.find?_cons ?_;by_cases q:x=k
  ·subst q;simp only[beq_self_eq_true,decide_true,jif];exact⟨λv e=>by cases e;exact aN u rfl h,λe=>nomatch e⟩
  ·have q':¬k=x:=λe=>q e.symm;simp only[beq_eq_false_iff_ne.mpr q,decide_eq_false q'];exact ih
theorem Hs:∀(n:Nat) (a k:Int),(gP a 1 n).any (·==k)=(decide (a<=k)&&decide (k<a+n))
 |0,a,k=>by
  show false=_;by_cases h:a<=k
  ·simp[h]
  ·simp[h]
 |n+1,a,k=>by
  rewrite [tG];refine aa jfi ?_;refine aa (Hs n (a+1) k) ?_;by_cases h:a=k
  ·subst h;simp;lia
  ·have:(a==k)=false:=beq_eq_false_iff_ne.mpr h;refine aa this ?_;refine aa (jjj _) ?_
   congr 1
   ·exact decide_eq_decide.mpr (by lia)
   ·exact decide_eq_decide.mpr (by lia)
theorem B1 (k:Int):∀l:List Int,l.any (·==k)=l.contains k
 | []=>rfl
 |a::l=>by
  refine aa jfi ?_;refine aa (B1 k l) ?_;refine aa List.contains_cons ?_
  congr 1
  exact Bool.beq_comm
set_option tactic.hygienic true in
theorem l9 {α β:Type}[BEq α][LawfulBEq α]{x:α}{v:β}:∀{l:List (α×β)},l.lookup x=some v->(x,v)∈l
 | [],h=>by cases h
 |(k,u)::l,h=>by
  rw[ZX]at h;split at h
  ·rename_i q;cases h;refine aa (eq_of_beq q) ?_;exact Zf
  ·exact Zw _ (l9 h)
theorem Jz:(λk=>(uz++gP 65024 1 ((65040:Int)-65024).toNat).any (·==k))=dz:=by
 funext k;refine aa List.any_append ?_;rw[Hs];unfold dz
 congr 1
 exact B1 k uz
theorem Ic {x:Str}:nz x=tW.lookup x:=by
 unfold nz
 induction h:tW.lookup x using ae with
 |some i =>
  have:=Y6.mp Ib.1 _ (l9 h);exact eq_of_beq this
 |none =>
  induction h2:cA.lookup x.cps.toList using ae with
  |none=>rfl
  |some i =>
   exfalso;have:=Y6.mp Ib.2 _ (l9 h2);have e:=eq_of_beq this;have ex:(⟨x.cps.toList.toArray⟩:Str)=x:=by simp
   rw[ex,h]at e;cases e
theorem J3:(["range","list","int","bool","reversed"]:List String).all (λx=>decide (jaT x≠("__name__" : Str))&&decide (jic (jaT x)=some (.type x)))=true:=by decide +kernel
theorem JX:(["len","sum","max","min","ord","chr","divmod","isinstance"]:List String).all (λx=>decide (jaT x≠("__name__" : Str))&&decide (jic (jaT x)=some (.builtin x)))=true:=by decide +kernel
theorem OC:(["range","list","int","bool","reversed"]:List String).all (λx=>decide (jaT x∈(["range","list","int","bool","reversed","len","sum","max","min","ord","chr","divmod","isinstance"]:List Str)))=true:=by decide +kernel
theorem OB:(["len","sum","max","min","ord","chr","divmod","isinstance"]:List String).all (λx=>decide (jaT x∈(["range","list","int","bool","reversed","len","sum","max","min","ord","chr","divmod","isinstance"]:List Str)))=true:=by decide +kernel
def mS (mg:Str->Option Value)(h:jak)(k:Nat):Option (Str×jay):=(gw.lookup k).bind λx=>match mg x.1 with
 |some (.ref a)=>(match h.get? a with
  |some o=>(match o.data with
   | .func fd=>some (x.1,fd)
   |_=>none)
  |none=>none)
 |_=>none
theorem Ot (h1:gw.lookup k=some (x,i))(h2:mg x=some (.ref a))(h3:h.get? a=some o)(h4:o.data=.func fd):mS mg h k=some (x,fd):=by
 delta mS
 refine aa h1 ?_;dsimp only[Option.bind_some];refine aa h2 ?_;dsimp only;refine aa h3 ?_;dsimp only;refine aa h4 ?_;rfl
theorem TL {h:jak}(e:(match h.get? a with
 |some o=>(match o.data with
  | .func fd=>some (x,fd)
  |_=>none)
 |none=>none)=some (y,fd)):y=x/\∃o,h.get? a=some o/\o.data=.func fd:=by
 induction h3:h.get? a using ae with
 |none=>rw[h3]at e;exact ai e
 |some o =>
  rw[h3]at e;replace e:(match o.data with | .func fd=>some (x,fd)|_=>none)=some (y,fd):=e
  induction h4:o.data using PySem.Data.casesOn with
  |func i9=>rw[h4]at e;exact aG (Q:=λr=>r.1=x/\∃u:Obj,some o=some u/\u.data=.func r.2) e ⟨rfl,o,rfl,h4⟩
  |_=>rw[h4]at e;exact ai e
theorem G7 {h:jak}(e:mS mg h k=some (x,fd)):∃i a o,gw.lookup k=some (x,i)/\mg x=some (.ref a)/\h.get? a=some o/\o.data=.func fd:=by
 refine pN e λy h1 e=>?_;replace e:(match mg y.1 with
  |some (.ref a)=>(match h.get? a with
   |some o=>(match o.data with
    | .func fd=>some (y.1,fd)
    |_=>none)
   |none=>none)
  |_=>none)=some (x,fd):=e
 induction h2:mg y.1 using ae with
 |none=>rw[h2]at e;exact ai e
 |some v =>
  rw[h2]at e;cases v with
  |ref a =>
   obtain⟨rfl,o,h3,h4⟩:=TL e;exact vV y.2 a o h1 h2 h3 h4
  |_=>exact ai e
theorem K3 {h:jak}(h1:h.CodeRec (.ref c) x)(h2:h.CodeRec (.ref c) y):x=y:=by
 refine qa h1 λc1 o1 v1 t1 e1 g1 d1 k1=>?_;refine qa h2 λc2 o2 v2 t2 e2 g2 d2 k2=>?_;cases e1;cases e2;rw[g1]at g2;cases g2;rw[d1]at d2;cases d2;rw[k1]at k2;cases k2;rfl
theorem TG {ts:List (Ze×Ze)}(hn:(ts.map (·.2)).Nodup)(ha:a∈ts)(hb:b∈ts)(e:a.2=b.2):a=b:=by
 induction ts with
 |nil=>cases ha
 |cons t ts ih =>
  rw[ZC,jaL]at hn;rcases ZQ.mp ha with e1|EH<;>rcases ZQ.mp hb with e2|gM
  ·refine aa e1 ?_;refine aa e2 ?_;rfl
  ·subst e1;exact absurd (Zn.mpr ⟨b,gM,e.symm⟩) hn.1
  ·subst e2;exact absurd (Zn.mpr ⟨a,EH,e⟩) hn.1
  ·exact ih hn.2 EH gM
def na (x:Str):Str:=(x++(".<locals>." : Str))++("inner" : Str)
theorem Lz:CP.all (λe=>(gw.lookup e.1).map (·.2)==some e.2.1)=true:=by decide +kernel
structure nF where
 a:Ze
 fd:jay
 c:Ze
 P:Ze
 p:jbl
 b:List Stmt
 sc:jaB
structure gU (mg:Str->Option Value) (h:jak) (ts:List (Ze×Ze)) (x:Str) (i:Nat) (d:nF):Prop where
 m:mg x=some (.ref d.a)
 g:h.get? d.a=some { cls:=.type "function",data:=.func d.fd }
 f:re d.fd x d.p d.b d.sc d.c
 r:h.CodeRec (.ref d.c) x
 hd:jfS h d.c d.P
 t:h.get? d.P=some (jdM #[])
 ts:(d.c,d.P)∈ts
 tv:fS (fC i)=.fn x d.p d.b d.sc
structure dI (h:jak) (mg:Str->Option Value) (ts:List (Ze×Ze)):Prop where
 g:h.Ns Zp mg
 bi:∃Pl,h.BuiltinsAt mg Pl
 nd:(ts.map (·.2)).Nodup
 e:∀x tv,eM.lookup x=some tv->∃v,mg x=some v/\i4 ts h tv v
 no:∀x,eM.lookup x=none->mg x=(jah wd.params).nsMap Zp x
 old:∀b o,b≠Zp->(jah wd.params).get? b=some o->h.get? b=some o
def gd (h:jak)(mg:Str->Option Value)(tok:Ze)(d1 d2:nF):GD:=⟨mg,(jah wd.params).nsMap jae,tok,mS mg h,[(d1.c,d1.P,s8 53,na "_int2digits"),(d2.c,d2.P,rY 42,na "_digits2int")]⟩
section
theorem dI.fn (T:dI h mg ts)(hk:gw.lookup k=some (x,i)):∃d,gU mg h ts x i d:=by
 obtain⟨h1,p,b,sc,h2⟩:=N5 (k,x,i) (l9 hk);rw[h2]at h1;obtain⟨v,hv,a,fd,c,P,rfl,k2,k3,k4,k5,k6,k7⟩:=T.e _ _ h1;exact⟨⟨a,fd,c,P,p,b,sc⟩,hv,k2,k3,k4,k5,k6,k7,h2⟩
theorem gU.at {ts:List (Ze×Ze)}(D:gU mg h ts x i d)(hk:gw.lookup k=some (x,i)):mS mg h k=some (x,d.fd):=Ot hk D.m D.g rfl
theorem gU.ok {ts:List (Ze×Ze)}{d:nF}(D:gU mg h ts x i d)(hk:gw.lookup k=some (x,i))(mu:List Str):eu d.fd (qd mu (fC i)) (d.p.args.map (·.arg)) d.b mu :=
 LA (N4 (k,x,i) (l9 hk)) (Y6.mp D4 (k,x,i) (l9 hk)) D.tv D.f
theorem tS {d1 d2:nF}{C:(Ze×Ze×Pos×Str)->Prop}(h1:C (d1.c,d1.P,s8 53,na "_int2digits")) (h2:C (d2.c,d2.P,rY 42,na "_digits2int")):∀t∈(gd h mg tok d1 d2).tabs,C t :=
 aS h1 (aS h2 jA)
theorem dI.ne {d1 d2:nF}(T:dI h mg ts)(D1:gU mg h ts "_int2digits" 4 d1) (D2:gU mg h ts "_digits2int" 5 d2):d1.P≠d2.P:=λq =>
 have e:=jiY (TG T.nd D1.ts D2.ts q)
 absurd (K3 D1.r (e.1▸D2.r)) (by decide)
theorem dI.free (T:dI h mg ts)(x:Str)(hx:x∈(["range","list","int","bool","reversed","len","sum","max","min","ord","chr","divmod","isinstance"]:List Str)):mg x=none :=
 cu (Y6.mp L9 x hx) λh1 h2=>(T.no x (jcr.mp h1)).trans (rL _ ((jbO _).mp h2))
theorem dI.bm (T:dI h mg ts):∃bm ob,mg "__builtins__" = some (.ref bm)/\bm≠jae/\h.get? bm=some ob/\ob.cls=.type "module" /\ ob.dict=some jae/\ob.data=.plain:=by
 refine Nj T.bi λPl bm o b1 b2 b3 b4 b5 b6 b7 b8=>?_;exact F1 bm o b1 b2 b5 b6 b7 b8
theorem dI.tokAt {h:jak}(T:dI h mg ts):∃a,mg ("EXACT_TOKEN_TYPES" : Str)=some (.ref a)/\(a==jad)=false/\∃f,h.MapOf (strKind pw wd) a f/\(∀x k,nz x=some k->∃t,f x=some (.int k t))/\(∀x,nz x=none->f x=none):=by
 obtain⟨v,hv,a,aJ,rfl,n1,n2,dt,kt⟩:=T.e _ _ Mc;have H:=λx=>Aj (Pv:=λ(i:Int) u=>∃t,u=.int i t) kt x;exact⟨a,hv,n2,_,dt.mapOf,λx k hx=>((H x).1 k (Ic▸hx)).elim λu ⟨h1,t,h2⟩=>⟨t,h1.trans (congrArg some h2)⟩,λx hx=>(H x).2 (Ic▸hx)⟩
theorem dI.b1At (T:dI h mg ts):∃a n,mg ("b1_set" : Str)=some (.ref a)/\h.SetOf (jap pw wd) a dz n:=by
 obtain⟨v,hv,a,S,n,rfl,db,kb⟩:=T.e _ _ L4;exact cZ a n hv ((funext kb).trans Jz▸db)
theorem dI.b3At {h:jak}(T:dI h mg ts):∃a f,mg ("b3_exceptions" : Str)=some (.ref a)/\(a==jad)=false/\h.MapOf (jap pw wd) a f/\(∀k x,j2 k=some x->∃t,f k=some (.str x t))/\∀k,j2 k=none->f k=none:=by
 obtain⟨v,hv,a,aJ,rfl,n1,n2,dt,kt⟩:=T.e _ _ L5;have H:=λx=>Aj (Pv:=λ(i:Str) u=>∃t,u=.str i t) kt x;exact Rw a _ hv n2 dt.mapOf (λk x hx=>((H k).1 x hx).elim λu ⟨h1,t,h2⟩=>⟨t,h1.trans (congrArg some h2)⟩) (λk hx=>(H k).2 hx)
theorem dI.fns (T:dI h mg ts)(k:Nat)(x:Str)(fd:jay)(e:mS mg h k=some (x,fd)):∃a o,mg x=some (.ref a)/\h.get? a=some o/\o.data=.func fd/\h.CodeRec fd.code fd.qualname:=by
 refine kX (G7 e) λi a o k1 k2 k3 k4=>?_;refine aX (T.fn k1) λd D=>?_;have ea:=jdG (Y3 (k2.symm.trans D.m));have eo:=Y3 ((ea▸k3).symm.trans D.g);have ed:fd=d.fd:=Data.func.inj ((eo▸k4).symm);refine yo D.f λbG pm bZ f=>?_;exact vU a o k2 k3 k4 (ed▸f▸D.r)
theorem dI.inv {h:jak}(T:dI h mg ts)(D1:gU mg h ts "_int2digits" 4 d1) (D2:gU mg h ts "_digits2int" 5 d2) (tokMod:(tok==jad)=false) (QR:∃f,h.MapOf (strKind pw wd) tok f/\(∀x k,nz x=some k->∃t,f x=some (.int k t))/\(∀x,nz x=none->f x=none)):bh (gd h mg tok d1 d2) h where
 g:=T.g
 b:=(xp wd.params).b.at' λo e=>T.old _ _ (by decide) e
 stat:=(uC wd.params).at' λo e=>T.old _ _ (by decide) e
 tok:=QR
 tokMod:=tokMod
 fns:=T.fns
 heads:=tS (C:=λt=>jfS h t.1 t.2.1) D1.hd D2.hd
 tabs:=tS (C:=λt=>_\/_) (.inl D1.t) (.inl D2.t)
 bmain:=T.bm
 b1:=T.b1At
 b3:=T.b3At
theorem dI.num (T:dI h mg ts)(e:eM.lookup x=some (.int n)):∃t,mg x=some (.int n t):=(T.e _ _ e).elim λv ⟨h1,t,h2⟩=>⟨t,h1.trans (congrArg some h2)⟩
theorem dI.gok (T:dI h mg ts)(ht:mg ("EXACT_TOKEN_TYPES" : Str)=some (.ref tok)):dD (gd h mg tok d1 d2) where
 divLimit:=T.num L7
 ntOffset:=T.num Mb
 endMarker:=T.num L8
 tok:=ht
 types:=λx hx=>⟨T.free _ (of_decide_eq_true (Y6.mp OC x hx)),cu (Y6.mp J3 x hx) λh1 h2=>(pA _ _ (of_decide_eq_true h1)).trans (of_decide_eq_true h2)⟩
 builtins:=λx hx=>⟨T.free _ (of_decide_eq_true (Y6.mp OB x hx)),cu (Y6.mp JX x hx) λh1 h2=>(pA _ _ (of_decide_eq_true h1)).trans (of_decide_eq_true h2)⟩
theorem ON:gE (gd h mg tok d1 d2):=λx k y fd hx e=>by
 refine uW (G7 e) λi a o k1 Y=>?_;have this:(gw.lookup k).map jhr=some x:=eq_of_beq (Y6.mp Tq _ (l9 hx));exact Y3 ((congrArg (Z' jhr) k1).symm.trans this)
theorem Xj {p p':jbl}{b b':List Stmt}{sc tH:jaB}{C:jbl->List Stmt->jaB->Prop}{st:Stmt}(h1:fS st=.fn x p b sc)(h2:fS st=.fn x p' b' tH)(k:C p' b' tH):C p b sc:=by
 have e:=TV.fn.inj (h1.symm.trans h2);refine aa e.2.1 ?_;refine aa e.2.2.1 ?_;refine aa e.2.2.2 ?_;exact k
theorem yE (f:re fd x p b sc c):fd.scope=sc/\fd.code=.ref c/\fd.qualname=x/\fd.name=x:=by
 refine yo f ?_;rintro _ _ _ rfl;exact lh rfl rfl rfl rfl
theorem gU.as {ts:List (Ze×Ze)}{d:nF}{p:jbl}{b:List Stmt}{sc:jaB}(D:gU mg h ts x i d)(hk:gw.lookup k=some (x,i))(tv:fS (fC i)=.fn x p b sc)(mu:List Str):eu d.fd (qd mu (fC i)) (p.args.map (·.arg)) b mu/\d.fd.scope=sc :=
 Xj (C:=λp b sc=>eu d.fd (qd mu (fC i)) (p.args.map (·.arg)) b mu/\d.fd.scope=sc) tv D.tv ⟨D.ok hk mu,(yE D.f).1⟩
theorem eu.self (D:eu fd f ps body mu):eu fd ⟨ps.length,(dy ps fd.scope).next,et (dy ps fd.scope) mu body⟩ ps body mu:={ D with nargs:=rfl,nvars:=rfl,tree:=rfl }
theorem H3 {d1 d2:nF}{h:jak}{mg:Str->Option Value}{tok:Ze}(hP:d1.P≠d2.P):(∀t'∈(gd h mg tok d1 d2).tabs,t'.2.1=d1.P->t'=(d1.c,d1.P,s8 53,na "_int2digits"))/\∀t'∈(gd h mg tok d1 d2).tabs,t'.2.1=d2.P->t'=(d2.c,d2.P,rY 42,na "_digits2int"):=
 ⟨tS (C:=λt'=>t'.2.1=d1.P->t'=_) (λY=>rfl) λe=>absurd e.symm hP,tS (C:=λt'=>t'.2.1=d2.P->t'=_) (λe=>absurd e hP) λY=>rfl⟩
theorem dI.prims (T:dI h mg ts)(D1:gU mg h ts "_int2digits" 4 d1) (D2:gU mg h ts "_digits2int" 5 d2):wW (gd h mg tok d1 d2) where
 p1:=have o:=D1.as (k:=1) rfl Xh [];have q:=yE D1.f;⟨_,_,_,FU,s8,D1.at (k:=1) rfl,⟨o.1.self,Zf,(H3 (T.ne D1 D2)).1,q.2.1,rfl,congrArg na q.2.2.1⟩,o.2,rfl⟩
 p2:=have o:=D2.as (k:=2) rfl Xi [];have q:=yE D2.f;⟨_,_,_,CM,rY,D2.at (k:=2) rfl,⟨o.1.self,Zw _ Zf,(H3 (T.ne D1 D2)).2,q.2.1,rfl,congrArg na q.2.2.1⟩,o.2⟩
 p8:=(T.fn (k:=8) rfl).elim λY D=>have o:=D.as (k:=8) rfl Xf [];⟨_,_,_,B5,[],D.at (k:=8) rfl,o.1,o.2⟩
 p9:=(T.fn (k:=9) rfl).elim λY D=>have o:=D.as (k:=9) rfl Xg [];⟨_,_,_,B7,[],D.at (k:=9) rfl,o.1,o.2,rfl,rfl⟩
theorem OM (T:dI h mg ts)(k:Nat)(d:dC)(hk:fns k=some d):∃x fd ps body mu,mS mg h k=some (x,fd)/\eu fd d ps body mu:=by
 refine lP (Q:=λd=>∃x fd ps body mu,mS mg h k=some (x,fd)/\eu fd d ps body mu) hk λ⟨i',mu⟩ h1=>?_;refine au (Zs.mp (eq_of_beq (Y6.mp Lz _ (l9 h1)))) λz1 h2 h3=>?_;obtain⟨x,i⟩:=z1;refine aX (T.fn h2) λd D=>?_;have h3:i=i':=h3;exact Rz x d.fd _ d.b mu (D.at h2) (h3▸D.ok h2 mu)
theorem OO (D1:gU mg h ts "_int2digits" 4 d1) (D2:gU mg h ts "_digits2int" 5 d2) (c:Ze):¬bM (gd h mg tok d1 d2) h c:=λ⟨t,ht,e⟩ =>
 have e':h.get? t.2.1=some (jdM #[]):=tS (C:=λt=>h.get? t.2.1=some (jdM #[])) D1.t D2.t t ht
 absurd (congrArg (λo:Option Obj=>o.map (·.data)) (e'.symm.trans e)) (by simp)
end
theorem Ep (T:uv ak):∃G:GD,bh G ak.heap/\dD G/\gE G/\wW G/\(∀k d,fns k=some d->∃x fd ps body mu,G.fns k=some (x,fd)/\eu fd d ps body mu) /\
 (∃a fd p b sc c',G.mg ("law" : Str)=some (.ref a)/\ak.heap.get? a=some { cls:=.type "function",data:=.func fd }/\re fd ("law" : Str) p b sc c'/\fS (fC 81)=.fn ("law" : Str) p b sc/\G.fns 21=some (("law" : Str),fd))/\(∀c,¬bM G ak.heap c)/\jad<ak.heap.objs.size:=by
 refine dW T.top λc Pl R=>?_;refine n6 R.ex λmg ps ts l S e1 e2 e3 e4 e5 e6=>?_;have E:dI ak.heap mg ts:=⟨S.g,⟨Pl,S.bmod⟩,e3,e5,e6,R.old⟩
 refine aX (E.fn (k:=1) rfl) λd1 D1=>?_;refine aX (E.fn (k:=2) rfl) λd2 D2=>?_;refine aX (E.fn (k:=21) rfl) λd D=>?_;refine fq E.tokAt λtok t1 t2 t3=>?_;exact Rv (gd ak.heap mg tok d1 d2) (E.inv D1 D2 t2 t3) (E.gok t1) ON (E.prims D1 D2) (OM E) ⟨d.a,d.fd,d.p,d.b,d.sc,d.c,D.m,D.g,D.f,D.tv,D.at (k:=21) rfl⟩ (OO D1 D2) (bf R.sys R.sz)
abbrev lx:RowW:=(jex jan).toRowW
abbrev v6:ClaimW:=lx.claim
theorem Gg:∀{xs:List WData},jid R xs .int=true->∃is:List Int,xs=is.map .int
 | [],_=>⟨[],rfl⟩
 |x::xs,h=>by
  simp only[jid,Zv]at h;refine aX (hasW_int h.1) ?_;rintro i rfl;refine aX (Gg h.2) ?_;rintro is rfl;exact⟨i::is,rfl⟩
theorem Jp (h:v6.pre args=true):∃is:List Int,args=[.list (is.map .int)]/\is.length<=63:=by
 refine bN (pre_splitW h) λh1 h2=>?_;refine bS (hasAllW_cons (e:=.list .int) (es:=[]) h1) ?_;rintro d r rfl h3 h4;cases hasAllW_nil h4;refine au (hasW_list h3) ?_;rintro xs rfl h5;refine aX (Gg h5) ?_;rintro is rfl;refine aN is rfl ?_;have h6:(WTm.and (.not (.lt (.lit (.int (63:Nat))) (.len (.arg 0)))) (.lit (.bool true))).holds lx.records { args:=[.list (is.map .int)] }=true:=h2;have h7:=(holds_andW h6).1;have h8:=condW_of h7 (by wtm_val);simp only[Y0,jbO,decide_eq_false_iff_not]at h8
 lia
theorem Iz {P:jdQ}:∀{is:List Int}{vs:List Value},WellAll P h vs (is.map .int)->ar tk φ h [] Pv (is.map .int) vs
 | [],_,.nil=>.nil
 |i::is,_,.cons a r=>by
  cases a;exact .cons (.int _ _) (Iz r)
def wX:Prop:=∀dM:List Int,dM.length<=63->nP gb fns 8 21 [.lst (dM.map .int)]=some (.bool true)
theorem Ly:dQ jib (8+13):=⟨rfl,by decide +kernel,by decide +kernel⟩
theorem Cy (I:bh G s.heap)(m5:∀c,¬bM G s.heap c)(k:GX G s φ s' am)(b:Ze)(o:Obj)(e:s.heap.get? b=some o):
 s'.heap.get? b=some o\/(isCodeTable s.heap b/\o.cls=.none/\∃vs fM,o.data=.fields vs/\s'.heap.get? b=some { o with data:=.fields (vs++fM) }):=by
 by_cases hX:G.X b
 ·refine au hX ?_;rintro t kn rfl;have e0:s.heap.get? t.2.1=some (jdM #[]):=(I.tabs t kn).elim id λq=>q.elim λc q=>absurd ⟨t,kn,q.1⟩ (m5 c);have eo:=Y3 (e.symm.trans e0);refine aa eo ?_;rcases(k.tabs I.tabs).1 t kn with q|⟨c,q,_⟩
  ·exact .inl q
  ·refine .inr ⟨((I.heads t kn).tab e0).isCodeTable,rfl,#[],#[jef t.2.2.1.line,jef t.2.2.1.col,.ref c],rfl,?_⟩;refine aa q ?_;refine aa Array.empty_append ?_;rfl
 ·exact .inl (k.ext b o hX e)
theorem T9 (I:bh G s.heap)(m5:∀c,¬bM G s.heap c)(k:GX G s φ s' am):OldK s.heap s'.heap :=
 ⟨λb o e=>(Cy I m5 k b o e).imp id .inl,λb o e=>(Cy I m5 k b o e).elim (λq=>⟨_,q⟩) λ⟨_,_,vs,fM,_,q⟩=>⟨_,q⟩⟩
theorem Vf {s:Y4}{is:List Int}(hw:WellAll wd.params s.heap vs [.list (is.map .int)])(hP:∀a,vs=[.ref a]->Pv a):ar tk φ0 s.heap [] Pv [.lst (is.map .int)] vs:=by
 cases hw with
 |cons sZ oF =>
  cases oF;cases sZ with
  | @list al cW xs e r=>exact .cons (.lst (xs:=cW) ⟨0,e⟩ (hP _ rfl) (Iz r)) .nil
theorem Sh (PL:wX){fg s:Y4}(T:uv fg)(hk:∀b o,fg.heap.get? b=some o->s.heap.get? b=some o)(hz:fg.heap.objs.size<=s.heap.objs.size)(ht:fg.toks<=s.toks){is:List Int}(aO:is.length<=63)(hw:WellAll wd.params s.heap vs [.list (is.map .int)])(dZ:∀a,vs=[.ref a]->fg.heap.objs.size<=a):
 ∃mg f,s.heap.Ns Zp mg/\mg ("law" : Str)=some f/\Y' (Zb pw wd) jib (call f vs) (λv s'=>v=.bool true/\OldK s.heap s'.heap/\s'.os=s.os/\s'.gens=s.gens) ax s:=by
 refine Ni (Ep T) λG rk hG hN hP zi z6 m5 sX=>?_;obtain⟨a,fd,p,b,sc,c',m1,g1,f1,Bq,N3⟩:=z6;have I:bh G s.heap:=rk.keeps hk;have Fk:∀c,¬bM G s.heap c:=λc hc=>m5 c (iW hk rk.tabs c hc);refine m9 G.mg (.ref a) I.g m1 ?_;refine bB (KG hG hN 13 zi (Qt hP hG hN) 8 jib Ly 21 _ _ (PL is aO)) λx i9 h1 h2=>?_;have hx:x=("law" : Str):=congrArg jhr (Y3 (h1.symm.trans N3));have safe:∀a,fg.heap.objs.size<=a->eY G a:=λa ha=>⟨beq_eq_false_iff_ne.mpr (jaU (bf sX ha)),λq=>ZW.mpr ha (bz.lt rk.tabs q)⟩
 refine up (h2 a (hx▸m1) s φ0 (eY G) vs I (Ia (bf T.toks ht)) (λa ha=>ha.elim (λh=>safe a (Y1 hz h)) λh=>absurd h (Fk a)) (λY h=>h) (Vf hw λa e=>safe a (dZ a e))) λv s' h=>?_;refine au h λam k r=>?_;have ok:=T9 I Fk k;refine bB k.grows.keeps ?_;rintro h' t' rfl _;exact lh r.inv ok rfl rfl
theorem Uq {st:Stmt}{name:Str}{p:jbl}{b:List Stmt}{sc:jaB}(h:uM st=true)(e:fS st=.fn name p b sc):p.defaults=[]/\p.kwonlyargs=[]/\p.kw_defaults=[]:=by
 refine CO (C:=λst=>fS st=.fn name p b sc->p.defaults=[]/\p.kwonlyargs=[]/\p.kw_defaults=[]) h (λn' p' b' Y Y Y tH Y Y Y h1 Y e=>?_) e;refine rwj ((TV.fn.inj e).2.1) ?_;exact cu h1 λh1 k7=>cu h1 λh1 k6=>cu h1 λh1 k5=>cu h1 λh1 k4=>cz (jde.mp k7) (jde.mp k4) (jde.mp k5)
theorem Si (e:fS (fC 81)=.fn ("law" : Str) p b sc):pw.theDef ("law" : Str)=some (p,b,sc):=by
 have e2:(pw.theDef ("law" : Str)).map (λx=>TV.fn ("law" : Str) x.1 x.2.1 x.2.2)=some (fS (fC 81)):=by kernel_rfl
 rw[e]at e2;refine au (Zs.mp e2) λz4 hx h=>?_;obtain⟨x1,x2,x3⟩:=z4;have h:=(TV.fn.inj h).2;refine aa hx ?_;exact congrArg some (Prod.ext h.1 (Prod.ext h.2.1 h.2.2))
theorem Sj {s:Y4}(T:uv s):isTheDefsW pw s.heap ("law" : Str):=by
 refine Nh (Ep T) λG rk Y Y Y Y z3 Y=>?_;obtain⟨a,fd,p,b,sc,c',m1,g1,⟨bG,pm,bZ,rfl⟩,Bq,_⟩:=z3;refine fY (Uq (Y6.mp D4 (21,"law",81) (l9 (rfl:gw.lookup 21=some (("law" : Str),81)))) Bq) λd1 d2 d3=>?_;exact⟨a,_,_,p,b,sc,(jew rk.g _).trans m1,g1,rfl,Si Bq,rfl,rfl,rfl,rfl,rfl,rfl,rfl,rfl,.inl ⟨d1,rfl⟩,[],by refine aa d2 ?_;refine aa d3 ?_;rfl,.inl ⟨rfl,rfl⟩⟩
theorem Uy (args:List WData):v6.post args (.bool true) args=true:=by
 show(WShape.has lx.records (.bool true) .bool&&(WTm.eq .res (.lit (.bool true))).holds lx.records { args:=args,res:=some (.bool true),after:=args })=true;refine aa (holdsW_of_value (show(WTm.eq .res (.lit (.bool true))).value lx.records { args:=args,res:=some (.bool true),after:=args }=some (.bool true)by simp[WTm.value,same])) ?_;rfl
theorem U5 (PL:wX)(Vd:(jex jan).wellSaid=true)(hw:lx.promised)(hb:pw.bare)(ho:opensWell pw=true):(jex jan).Holds:=by
 refine⟨Vd,hw,⟨hb,ho,rfl⟩,hw.witness,Jg (And.intro head.1 λs hs=>?_)⟩;obtain⟨fg,f1,f2,ak,hT,hz,T⟩:=(head).2 s hs;refine⟨fg,f1,f2,ak,hT,λn hn=>?_,(λx hx=>nomatch hx),(λx hx=>nomatch hx),?_⟩
 ·have:n=jan.name:=by simpa [jex]using hn
  refine aa this ?_;exact Sj T
 ·refine ClaimW.callFrom_of_specG (c:=v6) (tree:=λvs=>do match <-nsGet mainNs ("law" : Str)with
   |some f=>do ret (<-PySem.call f vs)
   |none=>unsupported "claim.caller:no-such-global") hz T.gens λargs lZ P8 ord zE=>?_
  refine au (Jp lZ) ?_;rintro is rfl aO;refine aX (jcy.mp (layAllW_isSome (R:=lx.records) (cl:=classAt ak.heap) (P:=wd.params) (ord:=ord) (λc hc=>by cases hc) _ lx.args ak (pre_splitW lZ).1)) λz1 ow=>?_;obtain⟨vs,aC⟩:=z1;have keeps:=layAllW_keeps _ _ _ ow;have mV:=layAllW_rest _ _ _ ow;refine fq (reads_layAllW zE _ _ _ ow P8 aC.heap (λY Y e=>e)) λas FA eR oA=>?_;have L:Laid lx.records wd ak aC [.list (is.map .int)] vs as:=⟨⟨ord,zE,ow⟩,FA,eR,oA,keeps,mV.1.trans T.gens,mV.2.2.1⟩
  have gr:=layAllW_grows _ _ _ ow;have FN:=well_layAllW zE _ _ _ ow aC.heap (λY Y e=>e);have dZ:∀a,vs=[.ref a]->ak.heap.objs.size<=a:=λa e=>by
   subst e;cases FA with
   |cons r1 r2 =>
    cases r1 with
    |list e1 e2 e3 e4=>exact(eR.2.2 a (by simp)).1
  refine bS (Sh PL T keeps gr.size gr.toks aO FN dZ) λmg f n1 n2 sK=>?_;refine cZ vs aC ow (Y9 (jiE (a:=Zp) n1 ?_));refine aa n2 ?_;refine Y9 (jar sK (λv s' ⟨e1,e2,e3,e4⟩=>Zx ?_) λY Y x=>x.elim);subst e1;refine Ru (.ret (.bool true)) rfl ?_ (e3.trans mV.2.2.1) (jiB (e4.trans (mV.1.trans T.gens))) (λq=>nomatch q);have g:GoodWG v6 (classAt ak.heap) (ExcName.means ak.heap) [.list (is.map .int)] aC (.ok (.ret (.bool true))) s' :=
   ⟨.inl ⟨.bool true,.bool true,[],rfl,λY=>rfl,.bool true,Uy _,λY=>⟨jaR,λa ha=>nomatch ha⟩⟩,e2,e3,jiB (e4.trans (mV.1.trans T.gens))⟩
  exact(g.laid rfl rfl (λa b=>ident_freeW (r:=lx) rfl rfl rfl a b) L).1
end
section
open PySem
set_option backward.match.sparseCases true
def f0:dC:=⟨3,11,(.cons (.ife (.cmp .LtE (.bin .Sub (.call .bitLength (.cons (.var 0) .nil)) (.var 2)) (.glob .divLimit))
 (.cons (.ret (.call .divmod (.cons (.var 0) (.cons (.var 1) .nil))))
 .nil)
 .nil)
 (.cons (.asg 3 false (.bin .BitAnd (.var 2) (.c (.int 1))))
 (.cons (.ife (.var 3)
  (.cons (.aug 0 .LShift (.c (.int 1)))
  (.cons (.aug 1 .LShift (.c (.int 1)))
  (.cons (.aug 2 .Add (.c (.int 1)))
  .nil)))
  .nil)
 (.cons (.asg 4 false (.bin .RShift (.var 2) (.c (.int 1))))
 (.cons (.asg 5 false (.bin .Sub (.bin .LShift (.c (.int 1)) (.var 4)) (.c (.int 1))))
 (.cons (.asgT [(6,false),(7,false)] (.cons (.bin .RShift (.var 1) (.var 4)) (.cons (.bin .BitAnd (.var 1) (.var 5)) .nil)))
 (.cons (.unp [8,9] .bad)
 (.cons (.unp [10,9] .bad)
 (.cons (.ife (.var 3)
  (.cons (.aug 9 .RShift (.c (.int 1)))
  .nil)
  .nil)
 (.cons (.ret (.tup (.cons (.bin .BitOr (.bin .LShift (.var 8) (.var 4)) (.var 10)) (.cons (.var 9) .nil))))
 .nil))))))))))⟩
def f3:dC:=⟨2,9,(.cons (.asg 2 false (.call .bitLength (.cons (.var 1) .nil)))
 (.cons (.asg 3 false (.call (.user 1) (.cons (.var 0) (.cons (.var 2) .nil))))
 (.cons (.asg 4 false (.c (.int 0)))
 (.cons (.asg 5 true (.list .nil))
 (.cons (.for_ 6 (.rev (.var 3))
  (.cons (.unp [7,4] (.call (.user 0) (.cons (.bin .Add (.bin .LShift (.var 4) (.var 2)) (.var 6)) (.cons (.var 1) (.cons (.var 2) .nil)))))
  (.cons (.app (.var 5) (.var 7))
  .nil)))
 (.cons (.rev (.var 5))
 (.cons (.asg 8 false (.call (.user 2) (.cons (.var 5) (.cons (.var 2) .nil))))
 (.cons (.ret (.tup (.cons (.var 8) (.cons (.var 4) .nil))))
 .nil))))))))⟩
def f4:dC:=⟨2,4,(.cons (.ife (.cmp .Eq (.var 1) (.c (.int 0)))
 (.cons .bad
 .nil)
 (.cons (.ife (.cmp .Lt (.var 1) (.c (.int 0)))
  (.cons (.unp [2,3] (.call (.user 4) (.cons (.un .USub (.var 0)) (.cons (.un .USub (.var 1)) .nil))))
  (.cons (.ret (.tup (.cons (.var 2) (.cons (.un .USub (.var 3)) .nil))))
  .nil))
  (.cons (.ife (.cmp .Lt (.var 0) (.c (.int 0)))
   (.cons (.unp [2,3] (.call (.user 4) (.cons (.un .Invert (.var 0)) (.cons (.var 1) .nil))))
   (.cons (.ret (.tup (.cons (.un .Invert (.var 2)) (.cons (.bin .Add (.var 1) (.un .Invert (.var 3))) .nil))))
   .nil))
   (.cons (.ret (.call (.user 3) (.cons (.var 0) (.cons (.var 1) .nil))))
   .nil))
  .nil))
 .nil))
 .nil)⟩
def f5:dC:=⟨3,13,(.cons (.asg 3 false (.call .max (.cons (.var 0) (.cons (.var 1) (.cons (.var 2) .nil)))))
 (.cons (.asg 4 false (.call .min (.cons (.var 0) (.cons (.var 1) (.cons (.var 2) .nil)))))
 (.cons (.asg 5 false (.bin .Add (.var 3) (.var 4)))
 (.cons (.asg 6 false (.bin .Sub (.var 3) (.var 4)))
 (.cons (.asg 7 false (.bin .Div (.var 5) (.c (.float 4611686018427387904))))
 (.cons (.ife (.cmp .Eq (.var 4) (.var 3))
  (.cons (.ret (.tup (.cons (.c (.float 0)) (.cons (.var 7) (.cons (.c (.float 0)) .nil)))))
  .nil)
  .nil)
 (.cons (.ife (.cmp .LtE (.var 7) (.c (.float 4602678819172646912)))
  (.cons (.asg 8 false (.bin .Div (.var 6) (.var 5)))
  .nil)
  (.cons (.asg 8 false (.bin .Div (.var 6) (.bin .Sub (.bin .Sub (.c (.float 4611686018427387904)) (.var 3)) (.var 4))))
  .nil))
 (.cons (.asg 9 false (.bin .Div (.bin .Sub (.var 3) (.var 0)) (.var 6)))
 (.cons (.asg 10 false (.bin .Div (.bin .Sub (.var 3) (.var 1)) (.var 6)))
 (.cons (.asg 11 false (.bin .Div (.bin .Sub (.var 3) (.var 2)) (.var 6)))
 (.cons (.ife (.cmp .Eq (.var 0) (.var 3))
  (.cons (.asg 12 false (.bin .Sub (.var 11) (.var 10)))
  .nil)
  (.cons (.ife (.cmp .Eq (.var 1) (.var 3))
   (.cons (.asg 12 false (.bin .Sub (.bin .Add (.c (.float 4611686018427387904)) (.var 9)) (.var 11)))
   .nil)
   (.cons (.asg 12 false (.bin .Sub (.bin .Add (.c (.float 4616189618054758400)) (.var 10)) (.var 9)))
   .nil))
  .nil))
 (.cons (.asg 12 false (.bin .Mod (.bin .Div (.var 12) (.c (.float 4618441417868443648))) (.c (.float 4607182418800017408))))
 (.cons (.ret (.tup (.cons (.var 12) (.cons (.var 7) (.cons (.var 8) .nil)))))
 .nil)))))))))))))⟩
def f6:dC:=⟨3,12,(.cons (.asg 3 false (.call .max (.cons (.var 0) (.cons (.var 1) (.cons (.var 2) .nil)))))
 (.cons (.asg 4 false (.call .min (.cons (.var 0) (.cons (.var 1) (.cons (.var 2) .nil)))))
 (.cons (.asg 5 false (.bin .Sub (.var 3) (.var 4)))
 (.cons (.asg 6 false (.var 3))
 (.cons (.ife (.cmp .Eq (.var 4) (.var 3))
  (.cons (.ret (.tup (.cons (.c (.float 0)) (.cons (.c (.float 0)) (.cons (.var 6) .nil)))))
  .nil)
  .nil)
 (.cons (.asg 7 false (.bin .Div (.var 5) (.var 3)))
 (.cons (.asg 8 false (.bin .Div (.bin .Sub (.var 3) (.var 0)) (.var 5)))
 (.cons (.asg 9 false (.bin .Div (.bin .Sub (.var 3) (.var 1)) (.var 5)))
 (.cons (.asg 10 false (.bin .Div (.bin .Sub (.var 3) (.var 2)) (.var 5)))
 (.cons (.ife (.cmp .Eq (.var 0) (.var 3))
  (.cons (.asg 11 false (.bin .Sub (.var 10) (.var 9)))
  .nil)
  (.cons (.ife (.cmp .Eq (.var 1) (.var 3))
   (.cons (.asg 11 false (.bin .Sub (.bin .Add (.c (.float 4611686018427387904)) (.var 8)) (.var 10)))
   .nil)
   (.cons (.asg 11 false (.bin .Sub (.bin .Add (.c (.float 4616189618054758400)) (.var 9)) (.var 8)))
   .nil))
  .nil))
 (.cons (.asg 11 false (.bin .Mod (.bin .Div (.var 11) (.c (.float 4618441417868443648))) (.c (.float 4607182418800017408))))
 (.cons (.ret (.tup (.cons (.var 11) (.cons (.var 7) (.cons (.var 6) .nil)))))
 .nil))))))))))))⟩
def f7:dC:=⟨3,8,(.cons (.ife (.cmp .Eq (.var 1) (.c (.float 0)))
 (.cons (.ret (.tup (.cons (.var 2) (.cons (.var 2) (.cons (.var 2) .nil)))))
 .nil)
 .nil)
 (.cons (.asg 3 false (.call .int (.cons (.bin .Mult (.var 0) (.c (.float 4618441417868443648))) .nil)))
 (.cons (.asg 4 false (.bin .Sub (.bin .Mult (.var 0) (.c (.float 4618441417868443648))) (.var 3)))
 (.cons (.asg 5 false (.bin .Mult (.var 2) (.bin .Sub (.c (.float 4607182418800017408)) (.var 1))))
 (.cons (.asg 6 false (.bin .Mult (.var 2) (.bin .Sub (.c (.float 4607182418800017408)) (.bin .Mult (.var 1) (.var 4)))))
 (.cons (.asg 7 false (.bin .Mult (.var 2) (.bin .Sub (.c (.float 4607182418800017408)) (.bin .Mult (.var 1) (.bin .Sub (.c (.float 4607182418800017408)) (.var 4))))))
 (.cons (.asg 3 false (.bin .Mod (.var 3) (.c (.int 6))))
 (.cons (.ife (.cmp .Eq (.var 3) (.c (.int 0)))
  (.cons (.ret (.tup (.cons (.var 2) (.cons (.var 7) (.cons (.var 5) .nil)))))
  .nil)
  .nil)
 (.cons (.ife (.cmp .Eq (.var 3) (.c (.int 1)))
  (.cons (.ret (.tup (.cons (.var 6) (.cons (.var 2) (.cons (.var 5) .nil)))))
  .nil)
  .nil)
 (.cons (.ife (.cmp .Eq (.var 3) (.c (.int 2)))
  (.cons (.ret (.tup (.cons (.var 5) (.cons (.var 2) (.cons (.var 7) .nil)))))
  .nil)
  .nil)
 (.cons (.ife (.cmp .Eq (.var 3) (.c (.int 3)))
  (.cons (.ret (.tup (.cons (.var 5) (.cons (.var 6) (.cons (.var 2) .nil)))))
  .nil)
  .nil)
 (.cons (.ife (.cmp .Eq (.var 3) (.c (.int 4)))
  (.cons (.ret (.tup (.cons (.var 7) (.cons (.var 5) (.cons (.var 2) .nil)))))
  .nil)
  .nil)
 (.cons (.ife (.cmp .Eq (.var 3) (.c (.int 5)))
  (.cons (.ret (.tup (.cons (.var 2) (.cons (.var 5) (.cons (.var 6) .nil)))))
  .nil)
  .nil)
 .nil)))))))))))))⟩
def Nx:dC:=⟨1,1,(.cons (.ret (.cmp .Lt (.var 0) (.glob .ntOffset)))
 .nil)⟩
def Ny:dC:=⟨1,1,(.cons (.ret (.cmp .GtE (.var 0) (.glob .ntOffset)))
 .nil)⟩
def Nz:dC:=⟨1,1,(.cons (.ret (.cmp .Eq (.var 0) (.glob .endMarker)))
 .nil)⟩
def DQ:dC:=⟨1,13,(.cons (.asg 1 false (.list (.cons (.tup (.cons (.c (.int 64256)) (.cons (.c (.str "ff")) .nil))) (.cons (.tup (.cons (.c (.int 64257)) (.cons (.c (.str "fi")) .nil))) (.cons (.tup (.cons (.c (.int 64258)) (.cons (.c (.str "fl")) .nil))) (.cons (.tup (.cons (.c (.int 64259)) (.cons (.c (.str "ffi")) .nil))) (.cons (.tup (.cons (.c (.int 64260)) (.cons (.c (.str "ffl")) .nil))) (.cons (.tup (.cons (.c (.int 64261)) (.cons (.c (.str "st")) .nil))) (.cons (.tup (.cons (.c (.int 64262)) (.cons (.c (.str "st")) .nil))) (.cons (.tup (.cons (.c (.int 223)) (.cons (.c (.str "ss")) .nil))) .nil))))))))))
 (.cons (.asg 2 false (.list (.cons (.c (.int 97)) (.cons (.c (.int 65)) (.cons (.c (.int 119808)) (.cons (.c (.int 119860)) (.cons (.c (.int 119912)) (.cons (.c (.int 120016)) (.cons (.c (.int 120172)) (.cons (.c (.int 120224)) (.cons (.c (.int 120276)) (.cons (.c (.int 120328)) (.cons (.c (.int 120380)) (.cons (.c (.int 120432)) .nil))))))))))))))
 (.cons (.asg 3 false (.bin .Add (.list (.cons (.c (.int 173)) (.cons (.c (.int 847)) (.cons (.c (.int 6150)) (.cons (.c (.int 6155)) (.cons (.c (.int 6156)) (.cons (.c (.int 6157)) (.cons (.c (.int 8203)) (.cons (.c (.int 8204)) (.cons (.c (.int 8205)) (.cons (.c (.int 8288)) (.cons (.c (.int 65279)) .nil)))))))))))) (.call .listRange (.cons (.c (.int 65024)) (.cons (.c (.int 65040)) .nil)))))
 (.cons (.asgT [(4,false),(5,false),(6,false)] (.cons (.c (.str "")) (.cons (.c (.str "")) (.cons (.bin .FloorDiv (.var 0) (.c (.int 3))) .nil))))
 (.cons (.for_ 7 (.range (.cons (.bin .Add (.c (.int 1)) (.bin .Mod (.var 0) (.c (.int 3)))) .nil))
  (.cons (.asgT [(8,false),(9,false),(10,false)] (.cons (.bin .Mod (.var 6) (.c (.int 15))) (.cons (.bin .Mod (.bin .FloorDiv (.var 6) (.c (.int 15))) (.c (.int 40))) (.cons (.bin .Mod (.bin .FloorDiv (.var 6) (.c (.int 600))) (.c (.int 28))) .nil))))
  (.cons (.aug 6 .FloorDiv (.c (.int 16800)))
  (.cons (.asg 11 false (.idx (.c (.str "filst")) (.bin .Mod (.var 9) (.c (.int 5)))))
  (.cons (.asg 12 false (.idx (.list (.cons (.c (.int 8497)) (.cons (.c (.int 8464)) (.cons (.c (.int 8466)) (.cons (.c (.int 383)) (.cons (.c (.int 120139)) .nil)))))) (.bin .Mod (.var 9) (.c (.int 5)))))
  (.cons (.ife (.cmp .Lt (.var 8) (.c (.int 2)))
   (.cons (.unp [12,11] (.idx (.var 1) (.bin .Mod (.var 9) (.c (.int 8)))))
   .nil)
   (.cons (.ife (.cmp .Lt (.var 8) (.c (.int 14)))
    (.cons (.asg 12 false (.bin .Sub (.bin .Add (.idx (.var 2) (.bin .Sub (.var 8) (.c (.int 2)))) (.call .ord (.cons (.var 11) .nil))) (.c (.int 97))))
    .nil)
    .nil)
   .nil))
  (.cons (.aug 4 .Add (.bin .Add (.ite (.cmp .Eq (.var 10) (.c (.int 0))) (.c (.str "")) (.call .chr (.cons (.idx (.var 3) (.bin .Sub (.var 10) (.c (.int 1)))) .nil))) (.call .chr (.cons (.var 12) .nil))))
  (.cons (.aug 5 .Add (.var 11))
  .nil))))))))
 (.cons (.ret (.tup (.cons (.var 4) (.cons (.var 5) .nil))))
 .nil))))))⟩
def yz:dC:=⟨1,8,(.cons (.asg 1 false (.call .split (.cons (.c (.str "( ) [ ] : , ; + - * / | & < > = . % { } == != <= >= ~ ^ << >> ** += -= *= /= %= &= |= ^= <<= >>= **= // //= @ @= -> ... := !")) .nil)))
 (.cons (.asgT [(2,false),(3,true)] (.cons (.c (.str "")) (.cons (.list .nil) .nil)))
 (.cons (.for_ 4 (.range (.cons (.c (.int 5)) .nil))
  (.cons (.unp [5,6] (.call (.user 13) (.cons (.idx (.var 0) (.var 4)) .nil)))
  (.cons (.asg 7 false (.bin .Mod (.bin .FloorDiv (.idx (.var 0) (.c (.int 5))) (.bin .Pow (.c (.int 48)) (.var 4))) (.c (.int 48))))
  (.cons (.aug 2 .Add (.bin .Add (.var 5) (.ite (.cmp .Lt (.var 4) (.c (.int 4))) (.idx (.var 1) (.var 7)) (.c (.str "")))))
  (.cons (.aug 3 .Add (.bin .Add (.comp 1 (.cons 8 (.val (.var 6)) .nil (.done (.bin .Add (.c (.int 256)) (.call .index (.cons (.c (.str "filst")) (.cons (.var 8) .nil))))))) (.list (.cons (.ite (.cmp .Lt (.var 4) (.c (.int 4))) (.bin .Add (.c (.int 7)) (.var 7)) (.c (.int 0))) .nil))))
  .nil)))))
 (.cons (.ret (.tup (.cons (.var 2) (.cons (.var 3) .nil))))
 .nil))))⟩
def DR:dC:=⟨1,5,(.cons (.asg 1 false (.comp 1 (.cons 5 (.val (.var 0)) .nil (.done (.call (.user 8) (.cons (.var 5) .nil))))))
 (.cons (.asg 2 false (.call .join (.cons (.c (.str "")) (.cons (.comp 1 (.cons 5 (.range (.cons (.call .len (.cons (.var 0) .nil)) .nil)) (.cons (.cmp .Is (.idx (.var 1) (.var 5)) (.c (.bool false))) .nil) (.done (.call (.user 9) (.cons (.idx (.var 0) (.var 5)) .nil))))) .nil))))
 (.cons (.asg 3 true (.comp 1 (.cons 5 (.val (.var 1)) (.cons (.and (.cons (.cmp .IsNot (.var 5) (.c (.bool true))) (.cons (.cmp .IsNot (.var 5) (.c (.bool false))) .nil))) .nil) (.done (.var 5)))))
 (.cons (.while_ (.cmp .NotEq (.var 2) (.c (.str "")))
  (.cons (.asg 4 false (.call .max (.cons (.bin .Add (.list (.cons (.c (.int 1)) .nil)) (.comp 1 (.cons 5 (.val (.tup (.cons (.c (.int 2)) (.cons (.c (.int 3)) .nil)))) (.cons (.cmp .In (.slice (.var 2) .none (.some (.var 5))) (.glob .tok)) .nil) (.done (.var 5))))) .nil)))
  (.cons (.app (.var 3) (.call .get (.cons (.glob .tok) (.cons (.slice (.var 2) .none (.some (.var 4))) (.cons (.bin .Add (.c (.int 256)) (.call .find (.cons (.c (.str "filst")) (.cons (.slice (.var 2) .none (.some (.var 4))) .nil)))) .nil)))))
  (.cons (.asg 2 false (.slice (.var 2) (.some (.var 4)) .none))
  .nil))))
 (.cons (.ret (.bin .Add (.var 3) (.list (.cons (.c (.int 0)) .nil))))
 .nil)))))⟩
def yA:dC:=⟨1,6,(.cons (.asgT [(1,true),(2,true),(3,false)] (.cons (.list .nil) (.cons (.list (.cons (.list .nil) (.cons (.list .nil) (.cons (.list .nil) (.cons (.list .nil) (.cons (.list .nil) .nil)))))) (.cons (.un .USub (.c (.int 1))) .nil))))
 (.cons (.for_ 4 (.val (.var 0))
  (.cons (.ife (.or (.cons (.cmp .IsNot (.call (.user 10) (.cons (.var 4) .nil)) (.cmp .Lt (.var 4) (.c (.int 256)))) (.cons (.cmp .IsNot (.call (.user 11) (.cons (.var 4) .nil)) (.cmp .Gt (.var 4) (.c (.int 255)))) (.cons (.cmp .IsNot (.call (.user 12) (.cons (.var 4) .nil)) (.cmp .Eq (.var 4) (.c (.int 0)))) .nil))))
   (.cons (.ret (.list .nil))
   .nil)
   .nil)
  (.cons (.ife (.and (.cons (.cmp .Gt (.var 4) (.c (.int 255))) (.cons (.cmp .NotIn (.var 4) (.var 1)) .nil)))
   (.cons (.app (.var 1) (.var 4))
   .nil)
   .nil)
  (.cons (.asg 5 false (.ite (.cmp .Gt (.var 4) (.c (.int 255))) (.call .index (.cons (.var 1) (.cons (.var 4) .nil))) (.un .USub (.c (.int 1)))))
  (.cons (.ife (.and (.cons (.cmp .GtE (.var 5) (.c (.int 0))) (.cons (.cmp .GtE (.var 3) (.c (.int 0))) (.cons (.cmp .NotEq (.var 5) (.var 3)) (.cons (.cmp .NotIn (.var 5) (.idx (.var 2) (.var 3))) .nil)))))
   (.cons (.app (.idx (.var 2) (.var 3)) (.var 5))
   (.cons (.app (.idx (.var 2) (.var 5)) (.var 3))
   .nil))
   .nil)
  (.cons (.asg 3 false (.var 5))
  .nil))))))
 (.cons (.ret (.slice (.var 2) .none (.some (.call .len (.cons (.var 1) .nil)))))
 .nil)))⟩
def yB:dC:=⟨2,14,(.cons (.asg 2 true (.list .nil))
 (.cons (.for_ 3 (.range (.cons (.bin .Mult (.c (.int 3)) (.var 1)) .nil))
  (.cons (.asg 4 false (.bin .FloorDiv (.bin .FloorDiv (.var 0) (.c (.int 1984))) (.bin .Pow (.c (.int 16)) (.bin .FloorDiv (.var 3) (.c (.int 3))))))
  (.cons (.asgT [(5,false),(6,false)] (.cons (.bin .Add (.c (.int 1)) (.bin .Mod (.var 4) (.c (.int 4)))) (.cons (.bin .Add (.c (.int 1)) (.bin .Mod (.bin .FloorDiv (.var 4) (.c (.int 4))) (.c (.int 4)))) .nil)))
  (.cons (.asg 7 false (.bin .Mult (.var 6) (.bin .Sub (.c (.int 8)) (.var 5))))
  (.cons (.asg 8 false (.bin .Div (.bin .Mod (.bin .Add (.bin .Mod (.var 0) (.c (.int 64))) (.bin .Mult (.bin .Mod (.var 3) (.c (.int 3))) (.bin .Add (.c (.int 1)) (.bin .Mod (.bin .FloorDiv (.var 0) (.c (.int 64))) (.c (.int 31)))))) (.c (.int 64))) (.c (.int 64))))
  (.cons (.unp [9,10,11] (.call (.user 7) (.cons (.bin .Add (.bin .Mod (.var 3) (.c (.int 4))) (.var 8)) (.cons (.bin .Div (.var 5) (.c (.int 4))) (.cons (.bin .Div (.var 6) (.c (.int 4))) .nil)))))
  (.cons (.asgT [(12,false),(13,false)] (.cons (.call (.user 6) (.cons (.var 9) (.cons (.var 10) (.cons (.var 11) .nil)))) (.cons (.call (.user 5) (.cons (.var 9) (.cons (.var 10) (.cons (.var 11) .nil)))) .nil)))
  (.cons (.ife (.or (.cons (.cmp .NotEq (.var 12) (.tup (.cons (.var 8) (.cons (.bin .Div (.var 5) (.c (.int 4))) (.cons (.bin .Div (.var 6) (.c (.int 4))) .nil))))) (.cons (.cmp .NotEq (.var 13) (.tup (.cons (.var 8) (.cons (.bin .Div (.var 7) (.c (.int 32))) (.cons (.bin .Div (.bin .Mult (.var 5) (.var 6)) (.call .min (.cons (.var 7) (.cons (.bin .Sub (.c (.int 32)) (.var 7)) .nil)))) .nil))))) .nil)))
   (.cons (.ret (.list .nil))
   .nil)
   .nil)
  (.cons (.app (.var 2) (.idx (.idx (.tup (.cons (.var 12) (.cons (.var 13) .nil))) (.bin .Mod (.var 3) (.c (.int 2)))) (.c (.int 0))))
  .nil)))))))))
 (.cons (.ret (.var 2))
 .nil)))⟩
def yC:dC:=⟨3,5,(.cons (.asg 3 false (.list (.cons (.list .nil) .nil)))
 (.cons (.for_ 4 (.range (.cons (.call .len (.cons (.var 0) .nil)) .nil))
  (.cons (.asg 3 false (.comp 2 (.cons 5 (.val (.var 3)) .nil (.cons 6 (.range (.cons (.var 2) .nil)) (.cons (.cmp .Eq (.comp 1 (.cons 7 (.val (.idx (.var 0) (.var 4))) (.cons (.and (.cons (.cmp .Lt (.var 7) (.var 4)) (.cons (.cmp .Eq (.idx (.var 5) (.var 7)) (.idx (.var 1) (.bin .Add (.bin .Mult (.c (.int 3)) (.var 4)) (.var 6)))) .nil))) .nil) (.done (.var 7)))) (.list .nil)) .nil) (.done (.bin .Add (.var 5) (.list (.cons (.idx (.var 1) (.bin .Add (.bin .Mult (.c (.int 3)) (.var 4)) (.var 6))) .nil))))))))
  .nil))
 (.cons (.ret (.call .len (.cons (.var 3) .nil)))
 .nil)))⟩
def yD:dC:=⟨1,9,(.cons (.asg 1 true (.list (.cons (.dict (.cons (.c (.int 0)) .nil) (.cons (.c (.int 0)) .nil)) .nil)))
 (.cons (.for_ 2 (.range (.cons (.c (.int 1)) (.cons (.bin .Pow (.c (.int 2)) (.call .len (.cons (.var 0) .nil))) .nil)))
  (.cons (.asg 3 true (.dict .nil .nil))
  (.cons (.for_ 4 (.range (.cons (.call .len (.cons (.var 0) .nil)) .nil))
   (.cons (.ife (.cmp .Eq (.bin .Mod (.bin .FloorDiv (.var 2) (.bin .Pow (.c (.int 2)) (.var 4))) (.c (.int 2))) (.c (.int 1)))
    (.cons (.asg 5 false (.bin .Sub (.var 2) (.bin .Pow (.c (.int 2)) (.var 4))))
    (.cons (.asg 6 false (.bin .Mult (.bin .Pow (.c (.int 32)) (.var 4)) (.call .sum (.cons (.comp 1 (.cons 9 (.val (.idx (.var 0) (.var 4))) (.cons (.cmp .Eq (.bin .Mod (.bin .FloorDiv (.var 5) (.bin .Pow (.c (.int 2)) (.var 9))) (.c (.int 2))) (.c (.int 1))) .nil) (.done (.bin .Pow (.c (.int 2)) (.var 9))))) .nil))))
    (.cons (.asg 7 false (.ite (.cmp .Eq (.bin .Mod (.var 5) (.bin .Pow (.c (.int 2)) (.var 4))) (.c (.int 0))) (.c (.int 1)) (.c (.int 0))))
    (.cons (.for_ 8 (.val (.idx (.var 1) (.var 5)))
     (.cons (.put 3 (.bin .Add (.var 8) (.var 6)) (.call .max (.cons (.call .get (.cons (.var 3) (.cons (.bin .Add (.var 8) (.var 6)) (.cons (.c (.int 0)) .nil)))) (.cons (.bin .Add (.idx (.idx (.var 1) (.var 5)) (.var 8)) (.var 7)) .nil))))
     .nil))
    .nil))))
    .nil)
   .nil))
  (.cons (.app (.var 1) (.var 3))
  .nil))))
 (.cons (.ret (.var 1))
 .nil)))⟩
def NA:dC:=⟨2,2,(.cons (.ret (.and (.cons (.cmp .Eq (.var 0) (.var 1)) (.cons (.cmp .Eq (.comp 1 (.cons 2 (.val (.var 0)) (.cons (.or (.cons (.call .isBool (.cons (.var 2) .nil)) (.cons (.un .Not (.call .isInt (.cons (.var 2) .nil))) .nil))) .nil) (.done (.var 2)))) (.list .nil)) .nil))))
 .nil)⟩
def mR:dC:=⟨1,24,(.cons (.asg 1 false (.list (.cons (.c (.int 1715446)) (.cons (.c (.int 365853733)) (.cons (.c (.int 816530545)) (.cons (.c (.int 225)) (.cons (.c (.int 318)) (.cons (.c (.int 5174684)) (.cons (.c (.int 75120764)) (.cons (.c (.int 123)) .nil))))))))))
 (.cons (.asg 2 false (.slice (.var 0) .none (.some (.c (.int 60)))))
 (.cons (.asg 3 false (.comp 1 (.cons 24 (.range (.cons (.c (.int 8)) .nil)) .nil (.done (.bin .Add (.idx (.var 1) (.var 24)) (.call .sum (.cons (.comp 1 (.cons 25 (.range (.cons (.var 24) (.cons (.call .len (.cons (.var 2) .nil)) (.cons (.c (.int 8)) .nil)))) .nil (.done (.bin .Mod (.idx (.var 2) (.var 25)) (.bin .Pow (.c (.int 10)) (.c (.int 15))))))) .nil)))))))
 (.cons (.unp [4,5] (.call (.user 14) (.cons (.var 3) .nil)))
 (.cons (.asg 6 false (.call (.user 15) (.cons (.var 4) .nil)))
 (.cons (.ife (.cmp .NotEq (.var 6) (.var 5))
  (.cons (.ret (.c (.bool false)))
  .nil)
  .nil)
 (.cons (.asg 7 false (.call (.user 16) (.cons (.bin .Add (.var 6) (.list (.cons (.c (.int 255)) (.cons (.un .USub (.c (.int 1))) .nil)))) .nil)))
 (.cons (.asg 8 false (.call (.user 17) (.cons (.idx (.var 3) (.c (.int 6))) (.cons (.call .len (.cons (.var 7) .nil)) .nil))))
 (.cons (.asg 9 false (.bin .Div (.bin .Mod (.idx (.var 3) (.c (.int 6))) (.c (.int 5))) (.c (.int 4))))
 (.cons (.ife (.or (.cons (.cmp .Eq (.var 8) (.list .nil)) (.cons (.cmp .NotEq (.bin .Add (.bin .Add (.call (.user 6) (.cons (.var 9) (.cons (.var 9) (.cons (.var 9) .nil)))) (.call (.user 5) (.cons (.var 9) (.cons (.var 9) (.cons (.var 9) .nil))))) (.call (.user 7) (.cons (.bin .Add (.var 9) (.bin .Div (.c (.int 1)) (.c (.int 8)))) (.cons (.c (.int 0)) (.cons (.var 9) .nil))))) (.tup (.cons (.c (.int 0)) (.cons (.c (.int 0)) (.cons (.var 9) (.cons (.c (.int 0)) (.cons (.var 9) (.cons (.c (.int 0)) (.cons (.var 9) (.cons (.var 9) (.cons (.var 9) .nil))))))))))) .nil)))
  (.cons (.ret (.c (.bool false)))
  .nil)
  .nil)
 (.cons (.asgT [(10,false),(11,false)] (.cons (.call .len (.cons (.var 7) .nil)) (.cons (.call (.user 19) (.cons (.var 7) .nil)) .nil)))
 (.cons (.asg 12 false (.comp 1 (.cons 24 (.val (.idx (.var 11) (.un .USub (.c (.int 1))))) (.cons (.cmp .Eq (.comp 1 (.cons 25 (.range (.cons (.var 10) .nil)) (.cons (.cmp .Eq (.bin .Mod (.bin .FloorDiv (.var 24) (.bin .Pow (.c (.int 32)) (.var 25))) (.c (.int 32))) (.c (.int 0))) .nil) (.done (.var 25)))) (.list (.cons (.bin .Mod (.idx (.var 3) (.c (.int 7))) (.var 10)) .nil))) .nil) (.done (.var 24)))))
 (.cons (.asg 13 false (.call .listVals (.cons (.idx (.var 11) (.un .USub (.c (.int 1)))) .nil)))
 (.cons (.asg 14 false (.bin .Add (.list (.cons (.c (.int 0)) (.cons (.call .len (.cons (.var 12) .nil)) .nil))) (.comp 1 (.cons 24 (.range (.cons (.c (.int 2)) (.cons (.bin .Add (.var 10) (.c (.int 1))) .nil))) .nil (.done (.call .count (.cons (.var 13) (.cons (.var 24) .nil))))))))
 (.cons (.asg 15 false (.bin .Add (.c (.int 10)) (.bin .Mod (.bin .FloorDiv (.idx (.var 3) (.c (.int 7))) (.c (.int 60))) (.c (.int 23)))))
 (.cons (.asgT [(16,false),(17,false)] (.cons (.bin .Pow (.c (.int 2)) (.var 15)) (.cons (.call (.user 2) (.cons (.var 14) (.cons (.var 15) .nil))) .nil)))
 (.cons (.asg 18 false (.ite (.cmp .Eq (.bin .Mod (.var 10) (.c (.int 2))) (.c (.int 1))) (.un .USub (.var 17)) (.var 17)))
 (.cons (.for_ 19 (.range (.cons (.c (.int 1)) (.cons (.c (.int 4)) .nil)))
  (.cons (.asg 20 false (.call (.user 18) (.cons (.var 7) (.cons (.var 8) (.cons (.var 19) .nil)))))
  (.cons (.asg 21 false (.bin .Sub (.c (.int 1)) (.bin .Mult (.c (.int 2)) (.bin .Mod (.bin .Add (.var 19) (.idx (.var 3) (.c (.int 7)))) (.c (.int 2))))))
  (.cons (.ife (.or (.cons (.un .Not (.call (.user 20) (.cons (.call (.user 4) (.cons (.bin .Mult (.var 21) (.var 18)) (.cons (.bin .Mult (.var 21) (.bin .Add (.var 16) (.var 19))) .nil))) (.cons (.tup (.cons (.bin .FloorDiv (.bin .Sub (.var 18) (.var 20)) (.bin .Add (.var 16) (.var 19))) (.cons (.bin .Mult (.var 21) (.var 20)) .nil))) .nil)))) (.cons (.cmp .NotEq (.call (.user 2) (.cons (.call (.user 1) (.cons (.var 20) (.cons (.var 19) .nil))) (.cons (.var 19) .nil))) (.var 20)) .nil)))
   (.cons (.ret (.c (.bool false)))
   .nil)
   .nil)
  .nil))))
 (.cons (.asg 22 false (.bin .FloorDiv (.bin .Sub (.var 17) (.call .len (.cons (.var 13) .nil))) (.bin .Sub (.var 16) (.c (.int 1)))))
 (.cons (.ife (.or (.cons (.un .Not (.call (.user 20) (.cons (.call (.user 3) (.cons (.var 17) (.cons (.bin .Sub (.var 16) (.c (.int 1))) .nil))) (.cons (.tup (.cons (.var 22) (.cons (.call .len (.cons (.var 13) .nil)) .nil))) .nil)))) (.cons (.un .Not (.call (.user 20) (.cons (.call (.user 1) (.cons (.var 22) (.cons (.var 15) .nil))) (.cons (.comp 1 (.cons 24 (.range (.cons (.var 10) .nil)) .nil (.done (.call .sum (.cons (.slice (.var 14) (.some (.bin .Add (.var 24) (.c (.int 1)))) .none) .nil))))) .nil)))) .nil)))
  (.cons (.ret (.c (.bool false)))
  .nil)
  .nil)
 (.cons (.asg 23 false (.call .sum (.cons (.comp 1 (.cons 24 (.range (.cons (.bin .Pow (.c (.int 2)) (.var 10)) .nil)) .nil (.done (.bin .Mult (.call .len (.cons (.idx (.var 11) (.var 24)) .nil)) (.call .len (.cons (.idx (.var 11) (.bin .Sub (.un .USub (.c (.int 1))) (.var 24))) .nil)))))) .nil)))
 (.cons (.ret (.and (.cons (.call (.user 20) (.cons (.call (.user 1) (.cons (.var 17) (.cons (.var 15) .nil))) (.cons (.var 14) .nil))) (.cons (.call (.user 20) (.cons (.bin .Add (.call (.user 4) (.cons (.c (.int 0)) (.cons (.bin .Sub (.c (.int 2)) (.var 16)) .nil))) (.call (.user 4) (.cons (.var 17) (.cons (.bin .Sub (.c (.int 2)) (.var 16)) .nil)))) (.cons (.tup (.cons (.c (.int 0)) (.cons (.c (.int 0)) (.cons (.bin .Sub (.bin .FloorDiv (.bin .Sub (.var 23) (.var 17)) (.bin .Sub (.var 16) (.c (.int 2)))) (.c (.int 1))) (.cons (.bin .Sub (.bin .Add (.var 23) (.c (.int 2))) (.var 16)) .nil))))) .nil))) .nil))))
 .nil))))))))))))))))))))))⟩
theorem Od:fns 0=some f0:=by kernel_rfl
theorem Oq:fns 3=some f3:=by kernel_rfl
theorem yJ:fns 4=some f4:=by kernel_rfl
theorem D5:fns 5=some f5:=by kernel_rfl
theorem D6:fns 6=some f6:=by kernel_rfl
theorem D7:fns 7=some f7:=by kernel_rfl
theorem Oe:fns 10=some Nx:=by kernel_rfl
theorem Of:fns 11=some Ny:=by kernel_rfl
theorem Og:fns 12=some Nz:=by kernel_rfl
theorem Oh:fns 13=some DQ:=by kernel_rfl
theorem Oi:fns 14=some yz:=by kernel_rfl
theorem Oj:fns 15=some DR:=by kernel_rfl
theorem Ok:fns 16=some yA:=by kernel_rfl
theorem Ol:fns 17=some yB:=by kernel_rfl
theorem Om:fns 18=some yC:=by kernel_rfl
theorem On:fns 19=some yD:=by kernel_rfl
theorem Oo:fns 20=some NA:=by kernel_rfl
theorem Op:fns 21=some mR:=by kernel_rfl
theorem u8:fns 1=none/\fns 2=none/\fns 8=none/\fns 9=none:=lh (by kernel_rfl) (by kernel_rfl) (by kernel_rfl) (by kernel_rfl)
abbrev Fi (n:Nat):cX:=nP gb fns n
theorem u0 (h:fns k=some d):Fi (n+1) k as=oN (Fi n) d as:=by
 show(match fns k with|some d=>oN (nP gb fns n) d as|none=>gb k as)=_;refine aa h ?_;rfl
theorem u3 (h:fns k=none):Fi (n+1) k as=gb k as:=by
 show(match fns k with|some d=>oN (nP gb fns n) d as|none=>gb k as)=_;refine aa h ?_;rfl
theorem ND:Fi (n+1) 10 [.int x]=some (.bool (decide (x<256))):=by
 refine aa (u0 Oe) ?_;rfl
theorem NE:Fi (n+1) 11 [.int x]=some (.bool (decide (256<=x))):=by
 refine aa (u0 Of) ?_;rfl
theorem NF:Fi (n+1) 12 [.int x]=some (.bool (decide (x=0))):=by
 refine aa (u0 Og) ?_;rfl
theorem uZ {n a m:Nat}(ha:a<2^1000)(hm:0<m)(oy:m<=64):Fi (n+1) 1 [.int a,.int m]=some (.lst ((dg m (bA m a) a).map .int)):=by
 refine aa (u3 u8.1) ?_;refine aa (show gb 1=tD from rfl) ?_;refine aa UB ?_;have h1:(a:Int)<2^1000:=by
  have:(a:Int)<((2^1000:Nat):Int):=jbB.mpr ha
  rwa [jbN]at this
 refine aa (if_pos ⟨Zi _,h1,jbB.mpr hm,jcb.mpr oy⟩) ?_;rfl
theorem rH (is:List Int):cQ (is.map AV.int)=some is:=by
 unfold cQ
 induction is with
 |nil=>rfl
 |cons i is ih=>rw[ZC,gO,ih];rfl
theorem yF {n m:Nat}{is:List Int}(hl:is.length<=1000)(oy:m<=64)(hd:∀d∈is,d.natAbs<2^64):Fi (n+1) 2 [.lst (is.map .int),.int m]=some (.int (cB m is)):=by
 refine aa (u3 u8.2.1) ?_;refine aa (show gb 2=tE from rfl) ?_;refine aa UD ?_;refine aa (rH _) ?_;exact if_pos ⟨hl,Zi _,jcb.mpr oy,Y6.mpr λd h=>decide_eq_true (hd d h)⟩
theorem NV:Fi (n+1) 8 [.str [c]]=some (.bool (dz c)):=by
 refine aa (u3 u8.2.2.1) ?_;rfl
theorem NW:Fi (n+1) 9 [.str [c]]=some (.str (iy c)):=by
 refine aa (u3 u8.2.2.2) ?_;rfl
section
theorem fB (hf:fns k=some d)(hl:as.length=d.nargs)(h:aE (Fi N) (as.map some++Zh (d.nvars-d.nargs) none) [] d.body=some (.ret v)):Fi (N+1) k as=some v:=by
 rw[u0 hf];unfold oN;rw[if_pos hl,h]
theorem iH (h:cU Φ ρ σ s=some (.next av an))(h2:aE Φ av an ss=r):aE Φ ρ σ (.cons s ss)=r:=by
 rewrite [yy];refine aa h ?_;exact h2
theorem yt (h:cU Φ ρ σ s=some (.ret v)):aE Φ ρ σ (.cons s ss)=some (.ret v):=by
 rw[yy,h]
theorem bH:aE Φ ρ σ .nil=some (.next ρ σ):=by rw[Nt]
theorem aT (h:ev Φ σ ρ e=some v)(h2:aE Φ (ρ.set x (some v)) σ ss=r):aE Φ ρ σ (.cons (.asg x false e) ss)=r:=by
 refine iH ?_ h2;rw[yu,De,if_neg Z1,h];rfl
theorem sn (h:oR Φ ρ σ e=some (v,an))(h2:aE Φ (ρ.set x (some v)) an ss=r):aE Φ ρ σ (.cons (.asg x true e) ss)=r:=by
 refine iH ?_ h2;rw[yu,De,if_pos rfl,h]
theorem n7 (h:ev Φ σ ρ e=some (.tup vs))(hs:eC ρ xs vs=some av)(h2:aE Φ av σ ss=r):aE Φ ρ σ (.cons (.unp xs e) ss)=r:=by
 refine iH ?_ h2;rw[DK,h];simp only[hs];rfl
theorem mN (h:eO Φ ρ σ xs es=some (vs,an))(hs:eC ρ (xs.map (·.1)) vs=some av)(h2:aE Φ av an ss=r):aE Φ ρ σ (.cons (.asgT xs es) ss)=r:=by
 refine iH ?_ h2;rw[DL,h];simp only[hs];rfl
theorem dX (h:ev Φ σ ρ e=some v)(hf:aZ σ 6 v=some u):aE Φ ρ σ (.cons (.ret e) ss)=some (.ret u):=by
 refine yt ?_;rw[DJ,h];simp only[hf];rfl
theorem mO (h:ev Φ σ ρ c=some (.bool true))(ha:aE Φ ρ σ a=some (.next av an))(h2:aE Φ av an ss=r):aE Φ ρ σ (.cons (.ife c a b) ss)=r:=by
 refine iH ?_ h2;rw[so,h];exact ha
theorem du (h:ev Φ σ ρ c=some (.bool false))(ha:aE Φ ρ σ b=some (.next av an))(h2:aE Φ av an ss=r):aE Φ ρ σ (.cons (.ife c a b) ss)=r:=by
 refine iH ?_ h2;rw[so,h];exact ha
theorem jG (h:ev Φ σ ρ c=some (.bool true))(ha:aE Φ ρ σ a=some (.ret v)):aE Φ ρ σ (.cons (.ife c a b) ss)=some (.ret v):=by
 refine yt ?_;rw[so,h];exact ha
theorem qc (h:ev Φ σ ρ c=some (.bool false))(ha:aE Φ ρ σ b=some (.ret v)):aE Φ ρ σ (.cons (.ife c a b) ss)=some (.ret v):=by
 refine yt ?_;rw[so,h];exact ha
theorem kY (h:lQ Φ ρ σ it=some vs)(hf:eQ (λρ σ v=>aE Φ (ρ.set x (some v)) σ body) vs ρ σ=some (.next av an))(h2:aE Φ av an ss=r):aE Φ ρ σ (.cons (.for_ x it body) ss)=r:=by
 refine iH ?_ h2;rewrite [DO];refine aa h ?_;exact hf
theorem Nq (hf:jr (λρ σ=>ev Φ σ ρ c) (λρ σ=>aE Φ ρ σ body) 100 ρ σ=some (.next av an))(h2:aE Φ av an ss=r):aE Φ ρ σ (.cons (.while_ c body) ss)=r:=by
 refine iH ?_ h2;rw[DI];exact hf
theorem xB (h:¬x=y):j4 σ .Eq (.int x) (.int y)=some false:=congrArg some (decide_eq_false h)
theorem Cn (h:x<y):j4 σ .Lt (.int x) (.int y)=some true:=congrArg some (decide_eq_true h)
theorem xC (h:¬x<y):j4 σ .Lt (.int x) (.int y)=some false:=congrArg some (decide_eq_false h)
theorem Oy (h:f ρ σ u=some (.next av an))(h2:eQ f vs av an=r):eQ f (u::vs) ρ σ=r:=by rewrite [yK];refine aa h ?_;exact h2
theorem qb (h1:ev Φ σ ρ o=some (.ref i))(h2:ev Φ σ ρ e=some v)(h3:σ[i]?=some (.list xs))(hl:xs.length<=100000)(hs:∀j,v≠.ref j)(h4:aE Φ ρ (σ.set i (.list (xs++[v]))) ss=r):aE Φ ρ σ (.cons (.app o e) ss)=r:=by
 refine iH ?_ h4;rw[yx,h1];dsimp only;rw[h2];simp only[h3];rw[if_pos hl]
theorem cL (h:bX Φ σ ρ as=some vs)(hf:bj (aZ [] 6) vs=some vs)(hc:Φ k vs=some v):ev Φ σ ρ (.call (.user k) as)=some v:=by
 rewrite [kW];refine aa h ?_;show nO Φ σ k vs=_;unfold nO;refine aa hf ?_;exact hc
theorem Nb (h:bX Φ σ ρ as=some vs)(hn:bj (aZ [] 6) vs=none)(hf:bj (aZ σ 6) vs=some us)(hc:Φ k us=some v)(hs:v.scalar=true):ev Φ σ ρ (.call (.user k) as)=some v:=by
 rewrite [kW];refine aa h ?_;show nO Φ σ k vs=_;unfold nO;refine aa hn ?_;refine aa hf ?_;simp only[hc,hs,if_true]
end
theorem NC (h:(Zm a:Int)-k<=4000)(hb:b≠0)(hs:small b=true):Fi (n+1) 0 [.int a,.int b,.int k]=some (.tup [.int (a.fdiv b),.int (a.fmod b)]):=by
 refine fB Od rfl (jG ?_ (dX (v:=.tup [.int (a.fdiv b),.int (a.fmod b)]) ?_ rfl))
 ·have e:ev (Fi n) [] [some (.int a),some (.int b),some (.int k),none,none,none,none,none,none,none,none] (.call .bitLength (.cons (.var 0) .nil))=some (.int (Zm a)):=by rw[kW,cT (ag rfl)];rfl
  exact cK (cb e (ag (i:=2) rfl) rfl) (y:=.int 4000) rfl (congrArg some (decide_eq_true h))
 ·rw[kW,dL (ag rfl) (ag rfl)];exact if_neg λq=>q.elim hb λq=>by rw[hs]at q;exact nomatch q
def i7 (n:Nat):Nat->Nat->List Nat
 |0,_=>[]
 |k+1,a=>a%2^n::i7 n k (a/2^n)
theorem LJ:i7 n 0 x=[]:=rfl
theorem pJ:i7 n (k+1) x=x%2^n::i7 n k (x/2^n):=rfl
theorem r0 (n:Nat):∀k a,dg n k a=(i7 n k a).map Z5
 |0,_=>rfl
 |k+1,a=>by rw[nR,pJ,ZC,r0 n k];rfl
theorem xT (n:Nat):∀k a,∀d∈i7 n k a,d<2^n
 |0,_,d,h=>nomatch h
 |k+1,a,d,h=>by
  rw[pJ]at h;rcases ZQ.mp h with rfl|h
  ·exact ZL _ (jaC _)
  ·exact xT n k _ d h
theorem CU (n:Nat):∀k a,(i7 n k a).length=k
 |0,_=>rfl
 |k+1,a=>by rw[pJ,Zo,CU n k]
def i8 (n b:Nat)(st:Nat×List Nat)(d:Nat):Nat×List Nat:=((st.1*2^n+d)%b,st.2++[(st.1*2^n+d)/b])
def j7 (n b k a:Nat):Nat×List Nat:=(i7 n k a).reverse.foldl (i8 n b) (0,[])
theorem LD (n b k a:Nat):j7 n b (k+1) a=i8 n b (j7 n b k (a/2^n)) (a%2^n):=by
 unfold j7;rw[pJ,jbM,jim];rfl
theorem G6 (n q:Nat)(l:List Nat):cB n (((q::l)).map Z5)=q+cB n (l.map Z5)*2^n:=by
 show(q:Int)+_*2^((n:Int)).toNat=_;refine aa (ZB _) ?_;rfl
theorem CQ (n b:Nat)(hb:0<b):∀k a,a<2^(n*k)->(j7 n b k a).1=a%b/\cB n ((j7 n b k a).2.reverse.map Z5)=((a/b:Nat):Int)/\(j7 n b k a).2.length=k
 |0,a,h=>by
  have:a=0:=by simpa using h
  subst this;simp[j7,LJ,cB]
 |k+1,a,h=>by
  have h':a/2^n<2^(n*k):=by
   rw[jdb (jaC _),<-jed]
   rwa [jdI]at h
  refine fY (CQ n b hb k (a/2^n) h') λe1 e2 e3=>?_;rw[LD];unfold i8;refine aa e1 ?_;have hx:a/2^n%b*2^n+a%2^n+a/2^n/b*b*2^n=a:=by
   have h1:=jbt (a/2^n) b;have h2:=jbt a (2^n);have h3:(b*(a/2^n/b)+a/2^n%b)*2^n=a/2^n*2^n:=by refine aa h1 ?_;rfl
   rw[jds]at h3;have h4:a/2^n/b*b*2^n=b*(a/2^n/b)*2^n:=by refine aa (jaN b _) ?_;rfl
   have h5:a/2^n*2^n=2^n*(a/2^n):=jaN _ _
   lia
  generalize hX:a/2^n%b*2^n+a%2^n=X at hx;have fe:X+b*(a/2^n/b*2^n)=a:=by
   rw[jaN (a/2^n/b) b,Nat.mul_assoc]at hx;exact hx
  refine cz ?_ ?_ ?_
  ·show X%b=a%b;have e:(X+b*(a/2^n/b*2^n))%b=a%b:=congrArg (·%b) fe;rw[jea]at e;exact e
  ·show cB n ((((j7 n b k (a/2^n)).2++[X/b]).reverse).map Z5)=_;refine aa jhG ?_;refine aa List.reverse_singleton ?_;refine aa List.singleton_append ?_;rewrite [G6];refine aa e2 ?_;have:a/b=X/b+a/2^n/b*2^n:=by
    have e:(X+b*(a/2^n/b*2^n))/b=a/b:=congrArg (·/b) fe;rw[jfa _ _ hb]at e;exact e.symm
   refine aa this ?_;refine aa (jbu _ _) ?_;refine aa (jba _ _) ?_;refine aa (jbN _ _) ?_;rfl
  ·simp[e3]
theorem LU (hb:0<b)(hr:st.1<b)(hd:d<2^n):(i8 n b st d).1<b/\(st.1*2^n+d)/b<2^n:=by
 refine⟨ZL _ hb,?_⟩;rw[jdb hb];have:(st.1+1)*2^n<=b*2^n:=jeW _ hr;rw[jds,jee]at this;refine aa (jaN (2^n) b) ?_
 lia
def CN:dw:=.cons (.unp [7,4] (.call (.user 0) (.cons (.bin .Add (.bin .LShift (.var 4) (.var 2)) (.var 6)) (.cons (.var 1) (.cons (.var 2) .nil))))) (.cons (.app (.var 5) (.var 7)) .nil)
theorem Lv {N n b x d:Nat}(hb:0<b)(qn:b<2^n)(hn:n<=64)(hr:x<b)(hd:d<2^n):Fi (N+1) 0 [.int ((x:Int)*2^n+d),.int b,.int n]=some (.tup [.int (((x*2^n+d)/b:Nat):Int),.int (((x*2^n+d)%b:Nat):Int)]):=by
 have EM:b<2^64:=bf qn (Zl (by decide) hn);have hX:x*2^n+d<2^128:=by
  have e1:(x+1)*2^n<=2^64*2^64:=jbk (Y1 hr (ZM EM)) (Zl (by decide) hn);rw[jds,jee]at e1;exact bf (Nat.add_lt_add_left hd _) e1
 have e:((x:Int)*2^n+d)=((x*2^n+d:Nat):Int):=by rw[jbu,jba,jbN];rfl
 generalize x*2^n+d=X at *;have:=vX (a:=(X:Int)) (k:=128) (by rwa [ZR]);rw[e,NC (by lia) (uc hb) (decide_eq_true (by rw[ZR];exact EM)),jao _ (Zi _),jcs _ (Zi _),<-jcx,<-jfR]
theorem LV {N n b x d:Nat}{l:List Nat}{A D v:Option AV}(hb:0<b)(qn:b<2^n)(hn:n<=64)(hr:x<b)(hd:d<2^n)(hl:l.length<=1000):
 aE (Fi (N+1)) [A,some (.int b),some (.int n),D,some (.int x),some (.ref 0),some (.int d),v,none] [.list ((l.map Z5).map .int)] CN =
  some (.next [A,some (.int b),some (.int n),D,some (.int (i8 n b (x,l) d).1),some (.ref 0),some (.int d),some (.int (((x*2^n+d)/b:Nat):Int)),none] [.list (((i8 n b (x,l) d).2.map Z5).map .int)]):=by
 have s0:x<2^4096:=bf (jam hr qn) (Zl (by decide) (Y1 hn (by decide)));have ec:bX (Fi (N+1)) [.list ((l.map Z5).map .int)] [A,some (.int b),some (.int n),D,some (.int x),some (.ref 0),some (.int d),v,none] (.cons (.bin .Add (.bin .LShift (.var 4) (.var 2)) (.var 6)) (.cons (.var 1) (.cons (.var 2) .nil)))=some [.int ((x:Int)*2^n+d),.int b,.int n]:=
  gJ (cb (cb (ag (i:=4) rfl) (ag (i:=2) rfl) (GC (Y1 hn (by decide)) s0)) (ag (i:=6) rfl) rfl) (ag rfl) (ag rfl)
 refine n7 (cL ec rfl (Lv hb qn hn hr hd)) rfl (qb (i:=0) (xs:=(l.map Z5).map .int) (v:=.int (((x*2^n+d)/b:Nat):Int)) (ag rfl) (ag rfl) rfl (by refine aa (Y0 _) ?_;refine aa (Y0 _) ?_;exact Y1 hl (by decide)) (λj=>nofun) (bH.trans ?_));rewrite [i8];refine aa ZS ?_;refine aa ZS ?_;rfl
theorem LP {N n b:Nat}{A D:Option AV}(hb:0<b)(qn:b<2^n)(hn:n<=64)(L:List Nat):∀(st:Nat×List Nat) (u v:Option AV),st.1<b->(∀d∈L,d<2^n)->st.2.length+L.length<=1000->(∀q∈st.2,q<2^n) ->
 ∃u' v',eQ (λρ σ v=>aE (Fi (N+1)) (ρ.set 6 (some v)) σ CN) (L.map λ(d:Nat)=>AV.int d) [A,some (.int b),some (.int n),D,some (.int st.1),some (.ref 0),u,v,none] [.list ((st.2.map Z5).map .int)] =
  some (.next [A,some (.int b),some (.int n),D,some (.int (L.foldl (i8 n b) st).1),some (.ref 0),u',v',none] [.list ((((L.foldl (i8 n b) st).2).map Z5).map .int)])/\(∀q∈(L.foldl (i8 n b) st).2,q<2^n):=by
 induction L with
 |nil=>exact λst u v Y Y Y hq=>cZ u v rfl hq
 |cons d L ih =>
  intro st u v hr hd hl hq;have k9:=hd d Zf;refine bN (LU hb hr k9) λh1 h2=>?_;rw[Zo]at hl;refine bB (ih (i8 n b st d) (some (.int d)) (some (.int (((st.1*2^n+d)/b:Nat):Int))) h1 (λx hx=>hd x (Zw _ hx)) (by rw[i8,Za,jbf];exact ub hl) (λq Qu=>(ZE.mp Qu).elim (hq q) λh=>Zq.mp h▸h2)) λu' v' e q=>?_;exact cZ u' v' (Oy (LV (l:=st.2) hb qn hn hr k9 (Y1 (ZD _ _) hl)) e) q
theorem DV {N a b:Nat}(ha:a<2^1000)(hb:0<b)(kj:b<2^64):Fi (N+2) 3 [.int a,.int b]=some (.tup [.int ((a/b:Nat):Int),.int ((a%b:Nat):Int)]):=by
 generalize hm:Zm (b:Int)=m;have EN:b<2^m:=hm▸z9;have vG:m<=64:=by refine rwj hm ?_;exact vX (by rwa [ZR])
 have vF:0<m:=by
  rcases jii m with h|h
  ·subst h;simp at EN;lia
  ·exact h
 have hk:=xS vF ha;have vp:=xR (a:=a) vF;refine fY (CQ m b hb (bA m a) a vp) λs1 s2 s3=>?_;refine bB (LP (N:=N) (A:=some (.int a)) (D:=some (.lst ((dg m (bA m a) a).map .int))) hb EN vG (i7 m (bA m a) a).reverse (0,[]) none none hb (λd hd=>xT m _ _ d (jfM.mp hd)) (by simp[CU];exact hk) (λq h=>nomatch h)) λu' v' hl hq=>?_;have hL:((dg m (bA m a) a).map AV.int).reverse=(i7 m (bA m a) a).reverse.map λ(d:Nat)=>AV.int d:=by
  rewrite [r0];refine aa ZJ ?_;refine rwj jfN ?_;rfl
 have PP:(i7 m (bA m a) a).reverse.foldl (i8 m b) (0,[])=j7 m b (bA m a) a:=rfl;rw[PP]at hl hq;have sO:∀l:List Int,bj (aZ [AO.list (l.map .int)] 6) [AV.ref 0,.int m]=some [.lst (l.map .int),.int m]:=λl=>by
  have h5:aZ [AO.list (l.map .int)] 6 (.ref 0)=some (.lst (l.map .int)):=by
   show(bj (aZ [AO.list (l.map .int)] 5) (l.map .int)).map AV.lst=_;rw[yP];rfl
  simp only[gO,h5];rfl
 have Yp:∀l:List Int,bj (aZ [] 6) [AV.ref 0,.int m]=none:=λl=>rfl;have h2:=yF (n:=N) (m:=m) (is:=(j7 m b (bA m a) a).2.reverse.map Z5) (by simp[s3];exact hk) vG (λd hd=>by
  refine au (Zn.mp hd) ?_;rintro q h1 rfl;exact bf (hq q (jfM.mp h1)) (Zl (by decide) vG))
 rw[s2]at h2;rw[s1]at hl;have PI:bj (aZ [] 6) [AV.int (a:Int),.int m]=some [AV.int (a:Int),.int m]:=rfl;refine fB Oq rfl ?_;show aE (Fi (N+1)) [some (.int a),some (.int b),none,none,none,none,none,none,none] [] f3.body=_;refine aT (v:=.int m) ?_ (aT (v:=.lst ((dg m (bA m a) a).map .int)) (cL (vs:=[.int a,.int m]) rfl PI (uZ ha vF vG)) (aT (v:=.int 0) rfl (sn (v:=.ref 0) (an:=[.list []]) rfl (kY (vs:=((dg m (bA m a) a).map AV.int).reverse) rfl (by refine aa hL ?_;exact hl) ?_))))
 ·rewrite [kW];refine aa (cT (ag rfl)) ?_;exact congrArg (λi:Nat=>some (AV.int i)) hm
 generalize YB:(j7 m b (bA m a) a).2=qs at *;have aU:((qs.map Z5).map AV.int).length<=100000:=by simp[s3];lia
 refine iH (av:=[some (.int a),some (.int b),some (.int m),some (.lst ((dg m (bA m a) a).map .int)),some (.int ((a%b:Nat):Int)),some (.ref 0),u',v',none]) (an:=[.list ((qs.reverse.map Z5).map .int)]) ?_ ?_
 ·rewrite [DM];refine aa (ag (i:=5) (v:=.ref 0) rfl) ?_;simp only[List.getElem?_cons_zero];refine aa (if_pos aU) ?_;simp[jfN]
 ·refine aT (v:=.int ((a/b:Nat):Int)) (Nb (vs:=[.ref 0,.int m]) rfl rfl (sO _) h2 rfl) ?_;exact dX (v:=.tup [.int ((a/b:Nat):Int),.int ((a%b:Nat):Int)]) rfl rfl
theorem yS (a b:Int):bj (aZ [] 6) [AV.int a,.int b]=some [AV.int a,.int b]:=rfl
theorem yT (σ:aA)(a b:Int):aZ σ 6 (.tup [.int a,.int b])=some (.tup [.int a,.int b]):=rfl
theorem M5 (h:ev Φ σ ρ e=some (.int i)):ev Φ σ ρ (.un .USub e)=some (.int (-i)):=by rw[yk,h];rfl
theorem DW {N a b:Nat}(ha:a<2^1000)(hb:0<b)(kj:b<2^64):Fi (N+3) 4 [.int a,.int b]=some (.tup [.int ((a/b:Nat):Int),.int ((a%b:Nat):Int)]):=by
 refine fB yJ rfl ?_;show aE (Fi (N+2)) [some (.int a),some (.int b),none,none] [] f4.body=_;refine qc (v:=.tup [.int ((a/b:Nat):Int),.int ((a%b:Nat):Int)]) ?_ (qc ?_ (qc ?_ (dX (cL (vs:=[.int a,.int b]) rfl (yS _ _) (DV ha hb kj)) (yT _ _ _))))
 ·exact cK (ag rfl) bK (xB (uc hb))
 ·exact cK (ag rfl) bK (xC (by simp))
 ·exact cK (ag rfl) bK (xC (by simp))
theorem NO {N:Nat}{a:Int}{b:Nat}(ha:a.natAbs<2^1000)(Pg:a<0)(hb:0<b)(kj:b<2^64):Fi (N+4) 4 [.int a,.int b]=some (.tup [.int (a.fdiv b),.int (a.fmod b)]):=by
 obtain⟨c,hc⟩:∃c:Nat,-a-1=(c:Int):=⟨(-a-1).toNat,by lia⟩
 have oe:c<2^1000:=by omega
 refine fB yJ rfl ?_;show aE (Fi (N+3)) [some (.int a),some (.int b),none,none] [] f4.body=_;have e1:a.fdiv b=-((c/b:Nat):Int)-1:=by
  refine aa (jao _ (Zi b)) ?_;have:a=-((c:Int)+1):=by lia
  refine aa this ?_;refine aa (jcx _ _) ?_;have h1:=Int.mul_ediv_add_emod c b;have h2:=Int.emod_nonneg c (b:=(b:Int)) (uc hb);have h3:=Int.emod_lt_of_pos c (b:=(b:Int)) (oY hb);generalize hq:(c:Int)/b=q at *;generalize hr:(c:Int)%b=r at *;have:-((c:Int)+1)=(b-r-1)+b*(-q-1):=by
   rewrite [jfZ];refine aa (jfc _ _) ?_;refine aa (jhN _) ?_;lia
  refine aa this ?_;refine aa (jhw _ _ (uc hb)) ?_;refine aa (jhp (by lia) (by lia)) ?_;simp
 have e2:a.fmod b=(b:Int)+(-((c%b:Nat):Int)-1):=by
  have h1:=jeL a b;rw[e1]at h1;have h2:((c%b:Nat):Int)=c-b*((c/b:Nat):Int):=by
   have:=jbt c b;have h3:(b:Int)*((c/b:Nat):Int)=((b*(c/b):Nat):Int):=by refine aa (jba _ _) ?_;rfl
   refine aa h3 ?_;lia
  refine aa h2 ?_;rw[jfZ,jfc,jhN]at h1;omega
 have sK:Fi (N+3) 4 [.int (-a-1),.int b]=some (.tup [.int ((c/b:Nat):Int),.int ((c%b:Nat):Int)]):=by refine aa hc ?_;exact DW oe hb kj
 refine qc (v:=.tup [.int (a.fdiv b),.int (a.fmod b)]) ?_ (qc ?_ (jG ?_ (n7 (vs:=[.int ((c/b:Nat):Int),.int ((c%b:Nat):Int)]) (cL (vs:=[.int (-a-1),.int b]) rfl (yS _ _) sK) rfl (dX (v:=.tup [.int (a.fdiv b),.int (a.fmod b)]) ?_ (yT _ _ _)))))
 ·exact cK (ag rfl) bK (xB (uc hb))
 ·exact cK (ag rfl) bK (xC (by simp))
 ·exact cK (ag rfl) bK (Cn Pg)
 ·refine aa e1 ?_;refine aa e2 ?_;rfl
theorem DX {N:Nat}{a:Int}{b:Nat}(ha:a.natAbs<2^1000)(hb:0<b)(kj:b<2^64):Fi (N+4) 4 [.int a,.int b]=some (.tup [.int (a.fdiv b),.int (a.fmod b)]):=by
 rcases(by omega:a<0\/0<=a)with h|h
 ·exact NO ha h hb kj
 ·refine aX (jbq h) ?_;rintro c rfl;refine aa (DW (N:=N+1) (by simpa using ha) hb kj) ?_;refine aa (jao _ (Zi b)) ?_;refine aa (jcs _ (Zi b)) ?_;refine aa (jcx _ _) ?_;refine aa (jfR _ _) ?_;rfl
theorem yG {N:Nat}{a b:Int}(ha:a.natAbs<2^1000)(hb:b≠0)(kj:b.natAbs<2^64):Fi (N+5) 4 [.int a,.int b]=some (.tup [.int (a.fdiv b),.int (a.fmod b)]):=by
 rcases(by omega:b<0\/0<=b)with h|h
 ·obtain⟨c,hc⟩:∃c:Nat,-b=(c:Int):=⟨(-b).toNat,by lia⟩
  have sK:Fi (N+4) 4 [.int (-a),.int (-b)]=some (.tup [.int ((-a).fdiv c),.int ((-a).fmod c)]):=by
   refine aa hc ?_;exact DX (by rwa [jdV]) (by lia) (by omega)
  have e:b=-c:=by lia
  have e1:a.fdiv b=(-a).fdiv c:=by
   refine aa e ?_
   conv=>lhs;rw[<-jhK a]
   refine aa (jiT _ _) ?_;rfl
  have e2:a.fmod b=-((-a).fmod c):=by
   have h1:=jeL a b;have h2:=jeL (-a) c;rw[e1,e]at h1;rw[jhL]at h1;refine aa e ?_;omega
  refine fB yJ rfl ?_;show aE (Fi (N+4)) [some (.int a),some (.int b),none,none] [] f4.body=_;refine qc (v:=.tup [.int (a.fdiv b),.int (a.fmod b)]) ?_ (jG ?_ (n7 (vs:=[.int ((-a).fdiv c),.int ((-a).fmod c)]) (cL (vs:=[.int (-a),.int (-b)]) rfl (yS _ _) sK) rfl (dX (v:=.tup [.int (a.fdiv b),.int (a.fmod b)]) ?_ (yT _ _ _))))
  ·exact cK (ag rfl) bK (xB hb)
  ·exact cK (ag rfl) bK (Cn h)
  ·refine aa e1 ?_;refine aa e2 ?_;rfl
 ·refine aX (jbq h) ?_;rintro c rfl;exact DX (N:=N+1) ha (by lia) (by simpa using kj)
theorem u4 {α β:Type}{f:α->Option (List β)}{g:α->List β}:∀{vs:List α},(∀v∈vs,f v=some (g v))->fZ f vs=some (vs.flatMap g)
 | [],_=>rfl
 |v::vs,h=>by
  rw[u5,h v Zf,u4 λu hu=>h u (Zw _ hu)];rfl
theorem yI {α β:Type}{p:α->Bool}{g:α->β}:∀vs:List α,(vs.flatMap λv=>if p v then[g v]else[])=(vs.filter p).map g
 | []=>rfl
 |a::l=>by
  refine aa jaq ?_;refine aa jcv ?_;refine aa (yI l) ?_;cases p a<;>simp
section
theorem yb {ρ:aB}{x:Nat}{it:It}{ifs:bV}{aD:Ex}{vs:List AV}{g:AV->List AV}(h:dU Φ σ ρ it=some vs)(hx:ρ.length=x)(hl:vs.length<=1000)(hg:∀v∈vs,(match cS Φ σ (ρ++[some v]) ifs with
 |some true=>(ev Φ σ (ρ++[some v]) aD).map λu=>[u]
 |some false=>some []
 |none=>none)=some (g v)) (PT:∀v,(g v).length<=100):ev Φ σ ρ (.comp 1 (.cons x it ifs (.done aD)))=some (.lst (vs.flatMap g)):=by
 have hs:∀v,(ρ++Zh 1 none).set x (some v)=ρ++[some v]:=λv=>by
  refine rwj hx ?_;simp[jcc]
 rewrite [yj,x0];refine aa h ?_;have h0:(ρ++Zh 1 none)[x]?=some none:=by
  refine rwj hx ?_;refine aa (Zg (Y5 _)) ?_;refine aa (jaA _) ?_;rfl
 simp only[h0];rw[if_pos (by lia),u4 (g:=g) (λv hv=>by
  refine aa (hs v) ?_;refine rwj (hg v hv) ?_
  induction cS Φ σ (ρ++[some v]) ifs using ae with
  |none=>rfl
  |some b=>cases b<;>rfl)]
 unfold sF;have:(vs.flatMap g).length<=100000:=by
  refine aa List.length_flatMap ?_;have:∀(l:List AV),(l.map λv=>(g v).length).sum<=100*l.length:=λl=>by
   induction l with
   |nil=>simp
   |cons a l ih =>
    have:=PT a;simp only[ZC,jal,Zo]
    lia
  have:=this vs
  lia
 show Z' AV.lst (if _ then _ else _)=_;refine aa (if_pos this) ?_;rfl
theorem nY (h:dU Φ σ ρ it=some vs)(hx:ρ.length=x)(hl:vs.length<=1000)(hg:∀v∈vs,ev Φ σ (ρ++[some v]) aD=some (g v)):ev Φ σ ρ (.comp 1 (.cons x it .nil (.done aD)))=some (.lst (vs.map g)):=by
 refine aa (yb (g:=λv=>[g v]) h hx hl (λv hv=>by rw[nU,hg v hv];rfl) (λv=>by simp)) ?_;refine aa List.map_eq_flatMap ?_;rfl
theorem nX {ρ:aB}{x:Nat}{it:It}{ifs:bV}{aD:Ex}{vs:List AV}{p:AV->Bool}{g:AV->AV}(h:dU Φ σ ρ it=some vs)(hx:ρ.length=x)(hl:vs.length<=1000)(hp:∀v∈vs,cS Φ σ (ρ++[some v]) ifs=some (p v))(hg:∀v∈vs,p v=true->ev Φ σ (ρ++[some v]) aD=some (g v)):ev Φ σ ρ (.comp 1 (.cons x it ifs (.done aD)))=some (.lst ((vs.filter p).map g)):=by
 rw[yb (g:=λv=>if p v then[g v]else[]) h hx hl (λv hv=>by
  refine aa (hp v hv) ?_
  induction hpv:p v using ZH with
  |true=>simp[hg v hv hpv]
  |false=>simp) (λv=>by split<;>simp)]
 refine aa (yI _) ?_;rfl
end
theorem xX:∀is:List Int,eN cJ (is.map AV.int) (is.map AV.int)=some true
 | []=>rfl
 |i::is=>by
  have e:cJ (.int i) (.int i)=some true:=congrArg some (decide_eq_true rfl);refine aa ZC ?_;rewrite [r8];refine aa e ?_;refine aa (xX is) ?_;rfl
theorem Dg (h1:ev Φ σ ρ a=some (.bool true))(h2:ev Φ σ ρ b=some (.bool true)):ev Φ σ ρ (.and (.cons a (.cons b .nil)))=some (.bool true):=by
 rw[uV,kT,h1];simp only[];rw[kT,h2];simp only[];rw[nU];rfl
theorem uT (h1:ev Φ σ ρ a=some (.bool false))(h2:ev Φ σ ρ b=some (.bool false)):ev Φ σ ρ (.or (.cons a (.cons b .nil)))=some (.bool false):=by
 rw[yl,pR,h1];simp only[];rw[pR,h2];simp only[];rw[Dd];rfl
theorem M6 (h1:ev Φ σ ρ a=some (.bool false))(h2:ev Φ σ ρ b=some (.bool false))(h3:ev Φ σ ρ c=some (.bool false)):ev Φ σ ρ (.or (.cons a (.cons b (.cons c .nil))))=some (.bool false):=by
 rw[yl,pR,h1];simp only[];rw[pR,h2];simp only[];rw[pR,h3];simp only[];rw[Dd];rfl
theorem yh (h1:ev Φ σ ρ a=some (.bool b)):ev Φ σ ρ (.un .Not a)=some (.bool (!b)):=by
 rw[yk,h1];rfl
theorem dK (h1:bX Φ σ ρ as=some vs)(h:nQ Φ σ f vs=some z):ev Φ σ ρ (.call f as)=some z:=by
 rewrite [kW];refine aa h1 ?_;exact h
theorem sj (h1:bX Φ σ ρ as=some vs)(hl:vs.length<=100000):ev Φ σ ρ (.tup as)=some (.tup vs):=by
 rw[Du,h1];simp only[];rw[if_pos hl]
theorem se (h1:bX Φ σ ρ as=some vs)(hl:vs.length<=100000):ev Φ σ ρ (.list as)=some (.lst vs):=by
 rw[Dt,h1];simp only[];rw[if_pos hl]
theorem pU (h1:ev Φ σ ρ c=some (.bool true))(h2:ev Φ σ ρ a=some z):ev Φ σ ρ (.ite c a b)=some z:=by
 rw[ym,h1];exact h2
theorem pT (h1:ev Φ σ ρ c=some (.bool false))(h2:ev Φ σ ρ b=some z):ev Φ σ ρ (.ite c a b)=some z:=by
 rw[ym,h1];exact h2
theorem NN {N:Nat}(is:List Int)(hl:is.length<=1000){c:List AV->AV}(hc:c=.tup\/c=.lst):Fi (N+1) 20 [c (is.map .int),c (is.map .int)]=some (.bool true):=by
 refine fB Oo rfl (dX (v:=.bool true) ?_ rfl);have e1:dU (Fi N) [] [some (c (is.map AV.int)),some (c (is.map .int))] (.val (.var 0))=some (is.map .int):=by
  rcases hc with rfl|rfl<;>rfl
 have e2:ev (Fi N) [] [some (c (is.map AV.int)),some (c (is.map .int))] (.comp 1 (.cons 2 (.val (.var 0)) (.cons (.or (.cons (.call .isBool (.cons (.var 2) .nil)) (.cons (.un .Not (.call .isInt (.cons (.var 2) .nil))) .nil))) .nil) (.done (.var 2))))=some (.lst []):=by
  refine(yb (x:=2) (g:=λY=>[]) e1 rfl (by refine aa (Y0 _) ?_;exact hl) (λv hv=>?_) (λv=>by simp)).trans (by simp);refine au (Zn.mp hv) ?_;rintro i _ rfl;rfl
 have e3:jB [] (c (is.map AV.int)) (c (is.map .int))=some true:=by
  rcases hc with rfl|rfl
  ·exact(if_pos rfl).trans (xX is)
  ·exact(if_pos rfl).trans (xX is)
 have e4:jB [] (.lst []) (.lst [])=some true:=rfl;show ev (Fi N) [] [some (c (is.map AV.int)),some (c (is.map .int))] (.and (.cons (.cmp .Eq (.var 0) (.var 1)) (.cons (.cmp .Eq (.comp 1 (.cons 2 (.val (.var 0)) (.cons (.or (.cons (.call .isBool (.cons (.var 2) .nil)) (.cons (.un .Not (.call .isInt (.cons (.var 2) .nil))) .nil))) .nil) (.done (.var 2)))) (.list .nil)) .nil)))=_;have e5:ev (Fi N) [] [some (c (is.map AV.int)),some (c (is.map .int))] (.cmp .Eq (.var 0) (.var 1))=some (.bool true):=by
  exact cK (ag rfl) (ag rfl) e3
 have e6:ev (Fi N) [] [some (c (is.map AV.int)),some (c (is.map .int))] (.cmp .Eq (.comp 1 (.cons 2 (.val (.var 0)) (.cons (.or (.cons (.call .isBool (.cons (.var 2) .nil)) (.cons (.un .Not (.call .isInt (.cons (.var 2) .nil))) .nil))) .nil) (.done (.var 2)))) (.list .nil))=some (.bool true):=by
  exact cK e2 (y:=.lst []) rfl e4
 exact Dg e5 e6
section
theorem mI:eO Φ ρ σ [] .nil=some ([],σ):=rfl
theorem Df (h:gq Φ ρ σ x.2 e=some (v,gR))(h2:eO Φ ρ gR xs es=some (vs,nB)):eO Φ ρ σ (x::xs) (.cons e es)=some (v::vs,nB):=by
 show(match gq Φ ρ σ x.2 e with|some (v,an)=>(match eO Φ ρ an xs es with|some (vs,iv)=>some (v::vs,iv)|none=>none)|none=>none)=_;refine aa h ?_;show(match eO Φ ρ gR xs es with|some (vs,iv)=>some (v::vs,iv)|none=>none)=_;refine aa h2 ?_;rfl
theorem gI (h:ev Φ σ ρ e=some v)(h2:eO Φ ρ σ xs es=some (vs,an)):eO Φ ρ σ ((x,false)::xs) (.cons e es)=some (v::vs,an):=
 Df (x:=(x,false)) (congrArg (Z' (·,σ)) h) h2
theorem x7 (h:oR Φ ρ σ e=some (v,an))(h2:eO Φ ρ an xs es=some (vs,iv)):eO Φ ρ σ ((x,true)::xs) (.cons e es)=some (v::vs,iv):=
 Df (x:=(x,true)) h h2
theorem dV {a b:Ex}{x y:Nat}(h1:ev Φ σ ρ a=some (.int x))(h2:ev Φ σ ρ b=some (.int y))(hy:y≠0):ev Φ σ ρ (.bin .Mod a b)=some (.int ((x%y:Nat):Int)):=by
 refine cb h1 h2 ?_;show(if(y:Int)=0 then none else some (AV.int ((x:Int).fmod y)))=_;rw[if_neg (by simp[*]),jcs _ (Zi y),jfR]
theorem DU {x y:Nat}(hy:y≠0)(hs:y<2^64):dE σ .FloorDiv (.int x) (.int y)=some (.int ((x/y:Nat):Int)):=by
 show(if(y:Int)=0\/!small (y:Int)then none else some (AV.int ((x:Int).fdiv y)))=_;rw[if_neg (by rw[show small (y:Int)=true from decide_eq_true (by rw[ZR];exact hs)];simp;exact hy),jao _ (Zi _),jcx]
theorem jC {a b:Ex}{x y:Nat}(h1:ev Φ σ ρ a=some (.int x))(h2:ev Φ σ ρ b=some (.int y))(hy:y≠0)(hs:y<2^64):ev Φ σ ρ (.bin .FloorDiv a b)=some (.int ((x/y:Nat):Int)):=cb h1 h2 (DU hy hs)
theorem nW (h1:ev Φ σ ρ a=some (.int x))(h2:ev Φ σ ρ b=some (.int y)):ev Φ σ ρ (.bin .Add a b)=some (.int (x+y)):=cb h1 h2 rfl
theorem jF (h1:ev Φ σ ρ a=some (.int x))(h2:ev Φ σ ρ b=some (.int y)):ev Φ σ ρ (.bin .Sub a b)=some (.int (x-y)):=cb h1 h2 rfl
theorem si {a b:Ex}{x y:Nat}(h1:ev Φ σ ρ a=some (.int x))(h2:ev Φ σ ρ b=some (.int y))(h:y<=x):ev Φ σ ρ (.bin .Sub a b)=some (.int ((x-y:Nat):Int)):=by
 refine aa (Int.natCast_sub h) ?_;exact jF h1 h2
theorem uS (h1:ev Φ σ ρ a=some (.int x))(h2:ev Φ σ ρ b=some (.int y))(hs:small x=true\/small y=true):ev Φ σ ρ (.bin .Mult a b)=some (.int (x*y)):=by
 refine cb h1 h2 ?_;show(if(small x||small y)=true then _ else _)=_;refine aa (if_pos (by simpa using hs)) ?_;rfl
theorem M8 {a b:Ex}{x:Int}{y:Nat}(h1:ev Φ σ ρ a=some (.int x))(h2:ev Φ σ ρ b=some (.int y))(hs:small x=true)(hy:y<=1000):ev Φ σ ρ (.bin .Pow a b)=some (.int (x^y)):=by
 refine cb h1 h2 ?_;show(if 0<=(y:Int)/\(y:Int)<=1000/\small x then some (AV.int (x^((y:Int)).toNat))else none)=_;rw[if_pos ⟨Zi y,oY hy,hs⟩,ZB]
theorem Dj (h1:ev Φ σ ρ a=some (.str x))(h2:ev Φ σ ρ b=some (.str y))(hl:x.length+y.length<=100000):ev Φ σ ρ (.bin .Add a b)=some (.str (x++y)):=by
 refine cb h1 h2 ?_;show(if _ then _ else _)=_;refine aa (if_pos hl) ?_;rfl
theorem aR:ev Φ σ ρ (.c (.int (n:Int)))=some (.int (n:Int)):=bK
theorem mL:ev Φ σ ρ (.c (.str x))=some (.str x.cps.toList):=by rw[Ds];rfl
theorem nZ (h1:ev Φ σ ρ a=some (.int x))(h2:ev Φ σ ρ b=some (.int y)):ev Φ σ ρ (.cmp .Lt a b)=some (.bool (decide (x<y))):=cK h1 h2 rfl
theorem uQ (h1:ev Φ σ ρ a=some (.int x))(h2:ev Φ σ ρ b=some (.int y)):ev Φ σ ρ (.cmp .Eq a b)=some (.bool (decide (x=y))):=cK h1 h2 rfl
theorem fX {a i:Ex}{l:List AV}{k:Nat}{v:AV}(h1:ev Φ σ ρ a=some (.lst l))(h2:ev Φ σ ρ i=some (.int k))(hv:l[k]?=some v)(hn:l.length<=100000):ev Φ σ ρ (.idx a i)=some v:=by
 refine mJ h1 h2 ?_;show(fO (k:Int) l.length).bind _=_;refine aa (wl (ZA.mp hv).1 hn) ?_;exact hv
theorem Dh {a i:Ex}{l:List Nat}{k:Nat}{c:Nat}(h1:ev Φ σ ρ a=some (.str l))(h2:ev Φ σ ρ i=some (.int k))(hv:l[k]?=some c)(hn:l.length<=100000):ev Φ σ ρ (.idx a i)=some (.str [c]):=by
 refine mJ h1 h2 ?_;show(fO (k:Int) l.length).bind _=_;refine aa (wl (ZA.mp hv).1 hn) ?_;show l[k]?.map _=_;refine aa hv ?_;rfl
theorem M7 (h1:ev Φ σ ρ a=some (.str [c])):ev Φ σ ρ (.call .ord (.cons a .nil))=some (.int c):=dK (cT h1) rfl
theorem Dl {a:Ex}{c:Nat}(h1:ev Φ σ ρ a=some (.int c))(h:c<=0x10FFFF):ev Φ σ ρ (.call .chr (.cons a .nil))=some (.str [c]):=by
 refine dK (cT h1) ?_;show(if 0<=(c:Int)/\(c:Int)<=0x10FFFF then _ else _)=_;rw[if_pos ⟨Zi c,oY h⟩,ZB]
end
theorem DH (h0:ρ[x]?=some (some a))(ha:a.isRef=false)(h:ev Φ σ ρ e=some b)(bY:lK op a b=true)(hr:dE σ op a b=some c)(h2:aE Φ (ρ.set x (some c)) σ ss=r):aE Φ ρ σ (.cons (.aug x op e) ss)=r:=by
 refine iH ?_ h2;rewrite [yw];refine aa h0 ?_;dsimp only;refine aa h ?_
 induction a using AV.casesOn with
 |ref=>exact nomatch ha
 |_ =>
  show(if lK op _ b=true then _ else _)=_;refine aa (if_pos bY) ?_;refine aa hr ?_;rfl
theorem Nn {Φ:cX}{ρ:aB}{σ:aA}{ss:dw}{r:Option Fl}{x:Nat}{e:Ex}{a b:Nat}(h0:ρ[x]?=some (some (.int a)))(h:ev Φ σ ρ e=some (.int b))(hb:b≠0)(hs:b<2^64)(h2:aE Φ (ρ.set x (some (.int ((a/b:Nat):Int)))) σ ss=r):aE Φ ρ σ (.cons (.aug x .FloorDiv e) ss)=r :=
 DH h0 rfl h rfl (DU hb hs) h2
theorem yr (h0:ρ[x]?=some (some (.str a)))(h:ev Φ σ ρ e=some (.str b))(hl:a.length+b.length<=100000)(h2:aE Φ (ρ.set x (some (.str (a++b)))) σ ss=r):aE Φ ρ σ (.cons (.aug x .Add e) ss)=r :=
 DH h0 rfl h rfl (if_pos hl) h2
def ch:List Nat:=[102,105,108,115,116]
def uK:List Nat:=[8497,8464,8466,383,120139]
def tI:List (Nat×List Nat):=[(64256,[102,102]),(64257,[102,105]),(64258,[102,108]),(64259,[102,102,105]),(64260,[102,102,108]),(64261,[115,116]),(64262,[115,116]),(223,[115,115])]
def jH:List Nat:=[97,65,119808,119860,119912,120016,120172,120224,120276,120328,120380,120432]
def iJ:List Nat:=[173,847,6150,6155,6156,6157,8203,8204,8205,8288,65279]++ZT 65024 16
def dB (d w:Nat):Nat×List Nat :=
 if d<2 then tI.getD (w%8) (0,[])else if d<14 then(jH.getD (d-2) 0+ch.getD (w%5) 0-97,[ch.getD (w%5) 0])else(uK.getD (w%5) 0,[ch.getD (w%5) 0])
def lA (v:Nat):List Nat:=if v=0 then[]else[iJ.getD (v-1) 0]
def kA (r:Nat):List Nat:=lA (r/600%28)++[(dB (r%15) (r/15%40)).1]
def io (r:Nat):List Nat:=(dB (r%15) (r/15%40)).2
def lB:Nat->Nat->List Nat
 |0,_=>[]
 |k+1,r=>kA r++lB k (r/16800)
theorem XI:lB 0 x=[]:=rfl
theorem By:lB (k+1) x=kA x++lB k (x/16800):=rfl
def jt:Nat->Nat->List Nat
 |0,_=>[]
 |k+1,r=>io r++jt k (r/16800)
theorem XH:jt 0 x=[]:=rfl
theorem t7:jt (k+1) x=io x++jt k (x/16800):=rfl
theorem Vq:(Y7 15).all (λd=>(Y7 40).all λw=>decide ((dB d w).1<=0x10FFFF)&&decide ((dB d w).2.length<=3))=true:=by decide +kernel
theorem PZ:iJ.all (λc=>decide (c<=0x10FFFF))=true:=by decide +kernel
theorem A6 (r:Nat):(dB (r%15) (r/15%40)).1<=0x10FFFF/\(dB (r%15) (r/15%40)).2.length<=3:=by
 have h1:=Y6.mp Vq (r%15) (ZI.mpr (ZL _ (by decide)));have h2:=Y6.mp h1 (r/15%40) (ZI.mpr (ZL _ (by decide)));rw[Zv]at h2;exact⟨of_decide_eq_true h2.1,of_decide_eq_true h2.2⟩
def Bs:dw :=
 (.cons (.asgT [(8,false),(9,false),(10,false)] (.cons (.bin .Mod (.var 6) (.c (.int 15))) (.cons (.bin .Mod (.bin .FloorDiv (.var 6) (.c (.int 15))) (.c (.int 40))) (.cons (.bin .Mod (.bin .FloorDiv (.var 6) (.c (.int 600))) (.c (.int 28))) .nil))))
  (.cons (.aug 6 .FloorDiv (.c (.int 16800)))
  (.cons (.asg 11 false (.idx (.c (.str "filst")) (.bin .Mod (.var 9) (.c (.int 5)))))
  (.cons (.asg 12 false (.idx (.list (.cons (.c (.int 8497)) (.cons (.c (.int 8464)) (.cons (.c (.int 8466)) (.cons (.c (.int 383)) (.cons (.c (.int 120139)) .nil)))))) (.bin .Mod (.var 9) (.c (.int 5)))))
  (.cons (.ife (.cmp .Lt (.var 8) (.c (.int 2)))
   (.cons (.unp [12,11] (.idx (.var 1) (.bin .Mod (.var 9) (.c (.int 8)))))
   .nil)
   (.cons (.ife (.cmp .Lt (.var 8) (.c (.int 14)))
    (.cons (.asg 12 false (.bin .Sub (.bin .Add (.idx (.var 2) (.bin .Sub (.var 8) (.c (.int 2)))) (.call .ord (.cons (.var 11) .nil))) (.c (.int 97))))
    .nil)
    .nil)
   .nil))
  (.cons (.aug 4 .Add (.bin .Add (.ite (.cmp .Eq (.var 10) (.c (.int 0))) (.c (.str "")) (.call .chr (.cons (.idx (.var 3) (.bin .Sub (.var 10) (.c (.int 1)))) .nil))) (.call .chr (.cons (.var 12) .nil))))
  (.cons (.aug 5 .Add (.var 11))
  .nil)))))))
def tJ:AV:=.lst (tI.map λp=>.tup [.int p.1,.str p.2])
def jl (l:List Nat):AV:=.lst (l.map λ(n:Nat)=>AV.int n)
abbrev wI (h:AV)(t m:List Nat)(r:Nat)(a b c d e f:Option AV):aB:=[some h,some tJ,some (jl jH),some (jl iJ),some (.str t),some (.str m),some (.int r),a,b,c,d,e,f]
theorem yU {l:List Nat}(h:k<l.length):l[k]?=some (l.getD k 0):=by
 refine aa Y8 ?_;refine aa (Zc h) ?_;rfl
theorem nk {l:List Nat}(h:k<l.length):(l.map λ(n:Nat)=>AV.int n)[k]?=some (.int (l.getD k 0:Nat)):=by
 refine aa ZO ?_;refine aa (yU h) ?_;rfl
theorem Sq (k:Nat)(h:k<5):97<=ch.getD k 0:=by
 have:=Y6.mp (by decide:(Y7 5).all (λk=>decide (97<=ch.getD k 0))=true) k (ZI.mpr h);exact of_decide_eq_true this
theorem XK (ht:t.length<=100)(hm:m.length<=100):
 ∃b' c' d' e' f',aE Φ ((wI h t m r a b c q e f).set 7 (some (.int j))) [] Bs=some (.next (wI h (t++kA r) (m++io r) (r/16800) (some (.int j)) b' c' d' e' f') []):=by
 have k0:=A6 r;have Yg:∀{ρ:aB},ρ[6]?=some (some (.int (r:Int)))->ev Φ [] ρ (.var 6)=some (.int (r:Int)):=λh=>ag h;refine z8 (some (.int ((r%15:Nat):Int))) (some (.int ((r/15%40:Nat):Int))) (some (.int ((r/600%28:Nat):Int))) (some (.str (io r))) (some (.int ((dB (r%15) (r/15%40)).1:Int))) ?_;generalize hd:r%15=d at *;generalize hw:r/15%40=w at *;generalize hv:r/600%28=v at *;have YE:v<28:=by refine rwj hv ?_;exact ZL _ (by decide)
 have Yk:d<15:=by refine rwj hd ?_;exact ZL _ (by decide)
 have zT:w%5<5:=ZL _ (by decide);have Q2:w%8<8:=ZL _ (by decide);show aE Φ [some h,some tJ,some (jl jH),some (jl iJ),some (.str t),some (.str m),some (.int r),some (.int j),b,c,q,e,f] [] Bs=_;have k1:∀{ρ:aB}{n:Nat},ev Φ [] ρ (.c (.int (n:Int)))=some (.int (n:Int)):=bK;refine mN (vs:=[.int d,.int w,.int v]) (gI (hd▸dV (x:=r) (y:=15) (ag rfl) k1 (by decide)) (gI (hw▸dV (x:=r/15) (y:=40) (jC (x:=r) (y:=15) (ag rfl) k1 (by decide) (by decide)) k1 (by decide)) (gI (hv▸dV (x:=r/600) (y:=28) (jC (x:=r) (y:=600) (ag rfl) k1 (by decide) (by decide)) k1 (by decide)) mI))) rfl ?_;refine Nn (a:=r) (b:=16800) rfl k1 (by decide) (by decide) ?_;refine aT (v:=.str [ch.getD (w%5) 0]) (Dh (l:=ch) (k:=w%5) mL (dV (x:=w) (y:=5) (ag rfl) k1 (by decide)) (yU zT) (by decide)) ?_;refine aT (v:=.int (uK.getD (w%5) 0:Nat)) (fX (l:=uK.map λ(n:Nat)=>AV.int n) (k:=w%5) rfl (dV (x:=w) (y:=5) (ag rfl) k1 (by decide)) (nk zT) (by decide)) ?_;have fin:∀(c1:Nat) (o1:List Nat),c1<=0x10FFFF->o1.length<=3->aE Φ [some h,some tJ,some (jl jH),some (jl iJ),some (.str t),some (.str m),some (.int ((r/16800:Nat):Int)),some (.int j),some (.int d),some (.int w),some (.int v),some (.str o1),some (.int c1)] []
  (.cons (.aug 4 .Add (.bin .Add (.ite (.cmp .Eq (.var 10) (.c (.int 0))) (.c (.str "")) (.call .chr (.cons (.idx (.var 3) (.bin .Sub (.var 10) (.c (.int 1)))) .nil))) (.call .chr (.cons (.var 12) .nil)))) (.cons (.aug 5 .Add (.var 11)) .nil)) =
  some (.next [some h,some tJ,some (jl jH),some (jl iJ),some (.str (t++(lA v++[c1]))),some (.str (m++o1)),some (.int ((r/16800:Nat):Int)),some (.int j),some (.int d),some (.int w),some (.int v),some (.str o1),some (.int c1)] []):=λc1 o1 Pp Yy=>by
  have Q1:(lA v).length<=1:=by unfold lA;split<;>simp
  refine yr (a:=t) (b:=lA v++[c1]) rfl (Dj ?_ (Dl (ag rfl) Pp) (by simp;exact bw Q1 rfl)) (by simp;lia) (yr (a:=m) (b:=o1) rfl (ag rfl) (by lia) bH);by_cases hv0:v=0
  ·subst hv0;exact pU (uQ (x:=(0:Int)) (y:=0) (ag rfl) bK) mL
  ·have Q0:lA v=[iJ.getD (v-1) 0]:=by unfold lA;refine aa (if_neg hv0) ?_;rfl
   refine aa Q0 ?_;have a0:v-1<iJ.length:=by
    have:iJ.length=27:=by decide
    rw[this];exact jhD (jdR hv0) (show v<28 from hv▸ZL _ (by decide))
   have e1:((v:Int)-1)=((v-1:Nat):Int):=(jdr (jdR hv0)).symm;have hc:iJ.getD (v-1) 0<=0x10FFFF:=by
    have:=Y6.mp PZ (iJ.getD (v-1) 0) (by refine aa Y8 ?_;refine aa (Zc a0) ?_;exact jbF a0);exact of_decide_eq_true this
   refine pT (by refine aa (uQ (x:=(v:Int)) (y:=0) (ag rfl) bK) ?_;refine aa (decide_eq_false (by simp[*])) ?_;rfl) (Dl (fX (l:=iJ.map λ(n:Nat)=>AV.int n) (k:=v-1) (ag rfl) (e1▸jF (ag rfl) bK) (nk a0) (by decide)) hc)
 have LY:kA r=lA v++[(dB d w).1]:=by unfold kA;refine aa hd ?_;refine aa hw ?_;refine aa hv ?_;rfl
 have LZ:io r=(dB d w).2:=by unfold io;refine aa hd ?_;refine aa hw ?_;rfl
 refine aa LY ?_;refine aa LZ ?_;by_cases h2:d<2
 ·have hs:dB d w=tI.getD (w%8) (0,[]):=by unfold dB;refine aa (if_pos h2) ?_;rfl
  have fu:(tI.map λp=>AV.tup [.int (p.1:Nat),.str p.2])[w%8]?=some (.tup [.int ((dB d w).1:Nat),.str (dB d w).2]):=by
   refine aa ZO ?_;refine aa hs ?_;refine aa Y8 ?_;refine aa (Zc Q2) ?_;rfl
  refine mO (by refine aa (nZ (x:=(d:Int)) (y:=2) (ag rfl) bK) ?_;refine aa (decide_eq_true (oY h2)) ?_;rfl) (n7 (vs:=[.int ((dB d w).1:Nat),.str (dB d w).2]) (fX (l:=tI.map λp=>AV.tup [.int (p.1:Nat),.str p.2]) (k:=w%8) (ag rfl) (dV (x:=w) (y:=8) (ag rfl) k1 (by decide)) fu (by decide)) rfl bH) ?_;exact fin _ _ k0.1 k0.2
 ·by_cases h14':d<14
  ·have hs:dB d w=(jH.getD (d-2) 0+ch.getD (w%5) 0-97,[ch.getD (w%5) 0]):=by unfold dB;refine aa (if_neg h2) ?_;refine aa (if_pos h14') ?_;rfl
   have a0:d-2<jH.length:=by
    have:jH.length=12:=by decide
    rw[this];exact jhD (q6 h2) h14'
   have e1:((d:Int)-2)=((d-2:Nat):Int):=(jdr (q6 h2)).symm;have lX:=Sq (w%5) zT;refine du (by refine aa (nZ (x:=(d:Int)) (y:=2) (ag rfl) bK) ?_;refine aa (decide_eq_false λq=>h2 (jbB.mp q)) ?_;rfl) (mO (by refine aa (nZ (x:=(d:Int)) (y:=14) (ag rfl) bK) ?_;refine aa (decide_eq_true (oY h14')) ?_;rfl) (aT (v:=.int ((dB d w).1:Nat)) ?_ bH) bH) ?_
   ·refine jgV (jF (nW (fX (l:=jH.map λ(n:Nat)=>AV.int n) (k:=d-2) (ag rfl) (si (x:=d) (y:=2) (ag rfl) bK (q6 h2)) (nk a0) (by decide)) (M7 (c:=ch.getD (w%5) 0) (ag rfl))) (bK (i:=97))) ?_;refine aa hs ?_;exact congrArg (λz=>some (AV.int z)) (by show((jH.getD (d-2) 0:Nat):Int)+((ch.getD (w%5) 0:Nat):Int)-97=((jH.getD (d-2) 0+ch.getD (w%5) 0-97:Nat):Int);rw[jdr (Y1 lX (jcg _ _))];rfl)
   ·have e2:(dB d w).2=[ch.getD (w%5) 0]:=by refine aa hs ?_;rfl
    have:=fin _ _ k0.1 k0.2;rw[e2]at this ⊢;exact this
  ·have hs:dB d w=(uK.getD (w%5) 0,[ch.getD (w%5) 0]):=by unfold dB;refine aa (if_neg h2) ?_;refine aa (if_neg h14') ?_;rfl
   refine du (by refine aa (nZ (x:=(d:Int)) (y:=2) (ag rfl) bK) ?_;refine aa (decide_eq_false λq=>h2 (jbB.mp q)) ?_;rfl) (du (by refine aa (nZ (x:=(d:Int)) (y:=14) (ag rfl) bK) ?_;refine aa (decide_eq_false λq=>h14' (jbB.mp q)) ?_;rfl) bH bH) ?_;have:=fin _ _ k0.1 k0.2;rw[hs]at this ⊢;exact this
theorem Ht:∀(n a:Nat),gP (a:Int) 1 n=(ZT a n).map λ(i:Nat)=>(i:Int)
 |0,_=>rfl
 |n+1,a=>by
  rw[tG,jdc,ZC,<-Ht n (a+1)];rfl
theorem A0 {a b:Nat}(h:b<=100000)(ha:a<=100000):fQ (a:Int) (b:Int) 1=some ((ZT a (b-a)).map λ(i:Nat)=>(i:Int)):=by
 have hs:jaI (a:Int) (b:Int) 1=((b-a:Nat):Int):=by
  unfold jaI;rw[if_pos (by decide)];split<;>lia
 have oB:jem (a:Int) (b:Int) 1=true:=small_one (Int.NonNeg.mk (a+jcf 4611686018427387903)) (q8 ha rfl) (Int.NonNeg.mk (b+jcf 4611686018427387903)) (q8 h rfl);unfold fQ;rw[if_pos ⟨by decide,by decide,oB,by rw[hs];lia⟩,hs,ZB,Ht]
abbrev aq (l:List Nat):List AV:=l.map λ(i:Nat)=>AV.int i
section
theorem j9 {e:Ex}{n:Nat}(h:ev Φ σ ρ e=some (.int n))(hn:n<=100000):dU Φ σ ρ (.range (.cons e .nil))=some (aq (Y7 n)):=by
 rewrite [r9];refine aa (cT h) ?_;show(fQ 0 (n:Int) 1).map _=_;refine aa (show(0:Int)=((0:Nat):Int)from rfl) ?_;refine aa (A0 hn (jbj 100000)) ?_;refine aa jdp ?_;simp[aq]
theorem x5 {e f:Ex}{a n:Nat}(h0:ev Φ σ ρ f=some (.int a))(h:ev Φ σ ρ e=some (.int n))(hn:n<=100000)(ha:a<=100000):dU Φ σ ρ (.range (.cons f (.cons e .nil)))=some (aq (ZT a (n-a))):=by
 rw[r9,dL h0 h];show(fQ (a:Int) (n:Int) 1).map _=_;rw[A0 hn ha];simp[aq]
theorem nV (h:dU Φ σ ρ (.range as)=r):lQ Φ ρ σ (.range as)=r:=h
end
theorem sx {β:Type}{f:aB->aA->AV->Option Fl}{g:β->AV}{I:List β->aB->aA->Prop}:∀(vs pre:List β) (ρ:aB) (σ:aA),
 I pre ρ σ->(∀p x q ρ σ,pre++vs=p++x::q->I p ρ σ->∃av an,f ρ σ (g x)=some (.next av an)/\I (p++[x]) av an) ->
 ∃av an,eQ f (vs.map g) ρ σ=some (.next av an)/\I (pre++vs) av an
 | [],pre,ρ,σ,h,_=>cZ ρ σ rfl (by rwa [Z2])
 |x::vs,pre,ρ,σ,h,hs=>by
  refine bB (hs pre x vs ρ σ rfl h) λav an h1 h2=>?_;refine bB (sx (f:=f) (I:=I) vs (pre++[x]) av an h2 (λp y q ρ σ e hI=>hs p y q ρ σ (by refine rwj e ?_;simp) hI)) λX5 X7 h3 h4=>?_;refine cZ X5 X7 ?_ (by simpa using h4);refine aa ZC ?_;rewrite [yK];refine aa h1 ?_;exact h3
theorem sy {f:aB->aA->AV->Option Fl}{I:Nat->aB->aA->Prop}{n:Nat}{ρ:aB}{σ:aA}(h0:I 0 ρ σ)(hs:∀k ρ σ,k<n->I k ρ σ->∃av an,f ρ σ (.int k)=some (.next av an)/\I (k+1) av an):
 ∃av an,eQ f (aq (Y7 n)) ρ σ=some (.next av an)/\I n av an:=by
 have:=sx (f:=f) (g:=λ(i:Nat)=>AV.int i) (I:=λl=>I l.length) (Y7 n) [] ρ σ h0 (λp x q ρ σ e hI=>by
  have e':p++x::q=Y7 n:=by refine rwj e ?_;rfl
  have hx:x=p.length:=by
   have h1:(Y7 n)[p.length]?=some x:=by refine rwj e' ?_;simp
   rw[ZA]at h1;refine aX h1 λY h1=>?_;simpa using h1.symm
  have a0:p.length<n:=by
   have:=congrArg jaP e';simp at this;exact X0 this
  refine bB (hs p.length ρ σ a0 hI) λav an h1 h2=>?_;refine cZ av an (by refine aa hx ?_;exact h1) (by simpa using h2))
 refine bB this λav an h1 h2=>?_;refine cZ av an h1 (by simpa using h2)
theorem HH (r:Nat):(kA r).length<=2:=by
 unfold kA lA;split<;>simp
theorem PY:∀{Φ:cX}{ρ:aB},ev Φ [] ρ (.bin .Add (.list (.cons (.c (.int 173)) (.cons (.c (.int 847)) (.cons (.c (.int 6150)) (.cons (.c (.int 6155)) (.cons (.c (.int 6156)) (.cons (.c (.int 6157)) (.cons (.c (.int 8203)) (.cons (.c (.int 8204)) (.cons (.c (.int 8205)) (.cons (.c (.int 8288)) (.cons (.c (.int 65279)) .nil)))))))))))) (.call .listRange (.cons (.c (.int 65024)) (.cons (.c (.int 65040)) .nil))))=some (jl iJ):=by
 intro Φ ρ;refine cb (x:=jl [173,847,6150,6155,6156,6157,8203,8204,8205,8288,65279]) (y:=jl (ZT 65024 16)) rfl (dK (vs:=[.int 65024,.int 65040]) rfl ?_) rfl;show((fQ ((65024:Nat):Int) ((65040:Nat):Int) 1).map λis=>AV.lst (is.map AV.int))=_;refine aa (A0 (by decide) (by decide)) ?_;rfl
structure BV where
 t:List Nat
 m:List Nat
 r:Nat
 a:Option AV
 b:Option AV
 c:Option AV
 d:Option AV
 e:Option AV
 f:Option AV
def wR (h:AV)(x:BV):aB:=wI h x.t x.m x.r x.a x.b x.c x.d x.e x.f
structure WI (n heap k:Nat) (x:BV):Prop where
 h1:x.t.length<=2*k
 h2:x.m.length<=3*k
 h3:x.t++lB (n-k) x.r=lB n (heap/3)
 h4:x.m++jt (n-k) x.r=jt n (heap/3)
theorem WI.next (H:WI n heap k x)(hk:k<n):WI n heap (k+1) ⟨x.t++kA x.r,x.m++io x.r,x.r/16800,a,b,c,d,e,f⟩ where
 h1:=by
  have:=HH x.r;have:=H.h1;show(x.t++kA x.r).length<=_;refine aa Za ?_;lia
 h2:=by
  have:(io x.r).length<=3:=(A6 x.r).2;have:=H.h2;show(x.m++io x.r).length<=_;refine aa Za ?_;lia
 h3:=by
  have e:=H.h3;rw[show n-k=(n-(k+1))+1 from ud hk,By,<-jaz]at e;exact e
 h4:=by
  have e:=H.h4;rw[show n-k=(n-(k+1))+1 from ud hk,t7,<-jaz]at e;exact e
theorem XJ {Φ:cX}{heap n:Nat}(hn:n<=3):∃av an,eQ (λρ σ v=>aE Φ (ρ.set 7 (some v)) σ Bs) (aq (Y7 n)) (wI (.int heap) [] [] (heap/3) none none none none none none) []=some (.next av an)/\∃x,(av=wR (.int heap) x/\an=[])/\WI n heap n x:=by
 refine sy (I:=λk ρ σ=>∃x,(ρ=wR (.int heap) x/\σ=[])/\WI n heap k x) ⟨⟨[],[],heap/3,none,none,none,none,none,none⟩,⟨rfl,rfl⟩,by simp,by simp,rfl,rfl⟩ λk ρ σ hk h=>?_;refine au h λx z1 H=>?_;obtain⟨rfl,rfl⟩:=z1;have h1:=H.h1;have h2:=H.h2;refine uX (XK (Φ:=Φ) (h:=.int heap) (t:=x.t) (m:=x.m) (r:=x.r) (j:=k) (a:=x.a) (b:=x.b) (c:=x.c) (q:=x.d) (e:=x.e) (f:=x.f) (by lia) (by lia)) λb' c' d' e' f' hw=>?_;exact⟨_,_,hw,_,⟨rfl,rfl⟩,H.next hk⟩
theorem NG {N:Nat}(heap:Nat):Fi (N+1) 13 [.int heap]=some (.tup [.str (lB (1+heap%3) (heap/3)),.str (jt (1+heap%3) (heap/3))]):=by
 refine fB Oh rfl ?_;show aE (Fi N) ([some (.int heap)]++Zh 12 none) [] DQ.body=_;have hn:heap%3<3:=ZL _ (by decide);have en:∀{ρ:aB},ρ[0]?=some (some (.int heap))->ev (Fi N) [] ρ (.bin .Add (.c (.int 1)) (.bin .Mod (.var 0) (.c (.int 3))))=some (.int ((1+heap%3:Nat):Int)):=λh=>by
  refine aa (jbu _ _) ?_;exact nW bK (dV (x:=heap) (y:=3) (ag h) aR (by decide))
 have ln:1+heap%3<=3:=by lia
 clear hn;generalize 1+heap%3=n at *;refine aT (v:=tJ) rfl (aT (v:=jl jH) rfl (aT (v:=jl iJ) PY ?_));refine mN (vs:=[.str [],.str [],.int ((heap/3:Nat):Int)]) (gI rfl (gI rfl (gI (jC (x:=heap) (y:=3) (ag rfl) aR (by decide) (by decide)) mI))) rfl ?_;obtain⟨av,an,h1,x,⟨rfl,rfl⟩,H⟩:=XJ (Φ:=Fi N) (heap:=heap) ln;refine kY (vs:=aq (Y7 n)) (nV (j9 (en rfl) (bw ln rfl))) h1 ((dX (v:=.tup [.str x.t,.str x.m]) rfl rfl).trans ?_);have ht:=H.h3;have hm:=H.h4;rw[jaA,XI,Z2]at ht;rw[jaA,XH,Z2]at hm;refine aa ht ?_;refine aa hm ?_;rfl
def qP:AV:=.lst (cA.map λp=>.str p.1)
theorem VJ:rS [.str (jaT "( ) [ ] : , ; + - * / | & < > = . % { } == != <= >= ~ ^ << >> ** += -= *= /= %= &= |= ^= <<= >>= **= // //= @ @= -> ... := !").cps.toList]=some qP:=by kernel_rfl
theorem Vs {Φ:cX}{ρ:aB}:ev Φ [] ρ (.call .split (.cons (.c (.str "( ) [ ] : , ; + - * / | & < > = . % { } == != <= >= ~ ^ << >> ** += -= *= /= %= &= |= ^= <<= >>= **= // //= @ @= -> ... := !")) .nil))=some qP:=dK (cT mL) VJ
def iQ (c:Nat):Nat:=if c=102 then 0 else if c=105 then 1 else if c=108 then 2 else if c=115 then 3 else 4
theorem Rn:∀c∈ch,nN [] [.str ch,.str [c]]=some (.int (iQ c)):=by
 intro c hc;have:c=102\/c=105\/c=108\/c=115\/c=116:=by simpa [ch]using hc
 rcases this with rfl|rfl|rfl|rfl|rfl<;>kernel_rfl
theorem NY:∀c∈ch,mC [.str ch,.str [c]]=some (.int (iQ c)):=by
 intro c hc;have:c=102\/c=105\/c=108\/c=115\/c=116:=by simpa [ch]using hc
 rcases this with rfl|rfl|rfl|rfl|rfl<;>kernel_rfl
theorem Vp:(Y7 15).all (λd=>(Y7 40).all λw=>(dB d w).2.all (λc=>ch.contains c))=true:=by decide +kernel
theorem HG (r:Nat):∀c∈io r,c∈ch:=by
 have h1:=Y6.mp Vp (r%15) (ZI.mpr (ZL _ (by decide)));have h2:=Y6.mp h1 (r/15%40) (ZI.mpr (ZL _ (by decide)));intro c hc;have:=Y6.mp h2 c hc;simpa using this
theorem Bw:∀k r,∀c∈jt k r,c∈ch
 |0,_=>λY h=>nomatch h
 |k+1,r=>by
  intro c hc;rw[t7,ZE]at hc;rcases hc with hc|hc
  ·exact HG r c hc
  ·exact Bw k _ c hc
theorem Bv:∀k r,(jt k r).length<=3*k
 |0,_=>jbj _
 |k+1,r=>by
  have h1:=Bv k (r/16800);have h2:(io r).length<=3:=(A6 r).2;rw[t7,Za];lia
theorem Bx:∀k r,(lB k r).length<=2*k
 |0,_=>jbj _
 |k+1,r=>by
  have h1:=Bx k (r/16800);have h2:=HH r;rw[By,Za];lia
section
variable (hs:List Nat)
def pW (i:Nat):List Nat:=lB (1+hs.getD i 0%3) (hs.getD i 0/3)
def pM (i:Nat):List Nat:=jt (1+hs.getD i 0%3) (hs.getD i 0/3)
def pO (i:Nat):Nat:=hs.getD 5 0/48^i%48
def ii (w:Nat):List Nat:=(cA.getD w ([],0)).1
def im (i:Nat):List Nat:=pW hs i++if i<4 then ii (pO hs i)else[]
def jo (i:Nat):List Nat:=(pM hs i).map (λc=>256+iQ c)++[if i<4 then 7+pO hs i else 0]
def ij:List Nat:=(Y7 5).flatMap (im hs)
def dA:List Nat:=(Y7 5).flatMap (jo hs)
end
theorem No {Φ:cX}{ρ:aB}{σ:aA}{ss:dw}{r:Option Fl}{x i:Nat}{e:Ex}{a b:List AV}(h0:ρ[x]?=some (some (.ref i)))(hi:σ[i]?=some (.list a))(h:ev Φ σ ρ e=some (.lst b))(hl:a.length+b.length<=100000)(h2:aE Φ ρ (σ.set i (.list (a++b))) ss=r):aE Φ ρ σ (.cons (.aug x .Add e) ss)=r:=by
 refine iH ?_ h2;rw[yw,h0];dsimp only;rw[h];dsimp only;rw[hi];exact if_pos hl
section
variable {Φ:cX}{ρ av:aB}{σ an:aA}
theorem jE {a b:Ex}{x y:Nat}(h1:ev Φ σ ρ a=some (.int x))(h2:ev Φ σ ρ b=some (.int y))(hs:x<2^64)(hy:y<=1000):ev Φ σ ρ (.bin .Pow a b)=some (.int ((x^y:Nat):Int)):=by
 refine aa (jbN _ _) ?_;exact M8 h1 h2 (by unfold small;refine aa (ZR _) ?_;exact decide_eq_true hs) hy
theorem iF {a b:Ex}{x y:Nat}(h1:ev Φ σ ρ a=some (.int x))(h2:ev Φ σ ρ b=some (.int y)):ev Φ σ ρ (.bin .Add a b)=some (.int ((x+y:Nat):Int)):=by
 refine aa (jbu _ _) ?_;exact nW h1 h2
theorem mK {a b:Ex}{x y:Nat}(h1:ev Φ σ ρ a=some (.int x))(h2:ev Φ σ ρ b=some (.int y))(hs:x<2^64\/y<2^64):ev Φ σ ρ (.bin .Mult a b)=some (.int ((x*y:Nat):Int)):=by
 refine aa (jba _ _) ?_;refine uS h1 h2 ?_;unfold small;refine aa (ZR _) ?_;refine aa (ZR _) ?_;simpa using hs
theorem sd {a b:Ex}{x y:List AV}(h1:ev Φ σ ρ a=some (.lst x))(h2:ev Φ σ ρ b=some (.lst y))(hl:x.length+y.length<=100000):ev Φ σ ρ (.bin .Add a b)=some (.lst (x++y)):=by
 refine cb h1 h2 ?_;show(if _ then _ else _)=_;refine aa (if_pos hl) ?_;rfl
theorem pV {a b:Ex}{x y:Nat}(h1:ev Φ σ ρ a=some (.int x))(h2:ev Φ σ ρ b=some (.int y)):ev Φ σ ρ (.cmp .Lt a b)=some (.bool (decide (x<y))):=by
 refine aa (nZ h1 h2) ?_;exact congrArg (λb=>some (AV.bool b)) (decide_eq_decide.mpr (by simp))
theorem pS {a b:Ex}{x y:Nat}(h1:ev Φ σ ρ a=some (.int x))(h2:ev Φ σ ρ b=some (.int y)):ev Φ σ ρ (.cmp .Eq a b)=some (.bool (decide (x=y))):=by
 refine aa (uQ h1 h2) ?_;exact congrArg (λb=>some (AV.bool b)) (decide_eq_decide.mpr (IH))
end
theorem Ua (w:Nat)(h:w<48):(cA.map λp=>AV.str p.1)[w]?=some (.str (ii w)):=by
 have hl:w<cA.length:=h;refine aa ZO ?_;refine aa (Zc hl) ?_;unfold ii;refine aa Y8 ?_;refine aa (Zc hl) ?_;rfl
theorem qg (k:Nat)(σ:aA):∀l:List Nat,bj (aZ σ (k+1)) (aq l)=some (aq l)
 | []=>rfl
 |a::l=>by
  show bj (aZ σ (k+1)) (AV.int (a:Nat)::aq l)=_;rw[gO];have:aZ σ (k+1) (.int (a:Nat))=some (.int (a:Nat)):=rfl;refine aa this ?_;simp only[qg k σ l];rfl
theorem G8:∀w,w<48->(ii w).length<=3:=by decide +kernel
theorem NH {N:Nat}(hs:List Nat)(hl:hs.length=8):Fi (N+2) 14 [.lst (aq hs)]=some (.tup [.str (ij hs),.lst (aq (dA hs))]):=by
 refine fB Oi rfl ?_;show aE (Fi (N+1)) ([some (.lst (aq hs))]++Zh 7 none) [] yz.body=_;refine aT (v:=qP) Vs (mN (vs:=[.str [],.ref 0]) (an:=[.list []]) (gI rfl (x7 rfl mI)) rfl ?_);have lp:=sy (f:=λρ σ v=>aE (Fi (N+1)) (ρ.set 4 (some v)) σ (match yz.body with | .cons _ (.cons _ (.cons (.for_ _ _ b) _))=>b|_=>.nil)) (n:=5) (ρ:=[some (.lst (aq hs)),some qP,some (.str []),some (.ref 0),none,none,none,none]) (σ:=[.list []])
  (I:=λk ρ σ=>∃a b c d,ρ=[some (.lst (aq hs)),some qP,some (.str ((Y7 k).flatMap (im hs))),some (.ref 0),a,b,c,d]/\σ=[.list (aq ((Y7 k).flatMap (jo hs)))]/\((Y7 k).flatMap (im hs)).length<=9*k/\((Y7 k).flatMap (jo hs)).length<=10*k)
  ⟨none,none,none,none,rfl,rfl,by simp,by simp⟩ ?_
 ·obtain⟨av,an,h1,a,b,c,d,rfl,rfl,_,_⟩:=lp;refine kY (vs:=aq (Y7 5)) (nV (j9 aR (jcg 5 99995))) h1 ?_;refine dX (v:=.tup [.str (ij hs),.ref 0]) rfl ?_;have:=qg 3 [.list (aq (dA hs))] (dA hs);show(bj (aZ _ 5) [.str (ij hs),.ref 0]).map AV.tup=_;have e1:aZ [.list (aq (dA hs))] 5 (.str (ij hs))=some (.str (ij hs)):=rfl;have e2:aZ [.list (aq (dA hs))] 5 (.ref 0)=some (.lst (aq (dA hs))):=by
   rw[yR];show(bj _ _).map AV.lst=_;rw[this];rfl
  show Z' AV.tup (bj (aZ [.list (aq (dA hs))] 5) [.str (ij hs),.ref 0])=_;rw[gO,e1];dsimp only;rw[gO,e2];rfl
 ·rintro k ρ σ hk ⟨a,b,c,d,rfl,rfl,h1,h2⟩;have fu:∀i,i<8->(aq hs)[i]?=some (.int (hs.getD i 0:Nat)):=λi hi=>nk (by simp[*]);have Ff:(aq hs).length<=100000:=by simp[aq];simp[*]
  have FN:=Bx (1+hs.getD k 0%3) (hs.getD k 0/3);have Yv:=Bv (1+hs.getD k 0%3) (hs.getD k 0/3);have Yu:hs.getD k 0%3<3:=ZL _ (by decide);have ho:pO hs k<48:=ZL _ (by decide);have Yz:=G8 _ ho;have cM:(im hs k).length<=9:=by
   have:(pW hs k).length<=6:=by unfold pW;lia
   unfold im;rw[Za];split
   ·lia
   ·show(pW hs k).length+0<=9;exact bw this rfl
  have oB:(jo hs k).length<=10:=by
   have:(pM hs k).length<=9:=by unfold pM;lia
   unfold jo;rw[Za,Y0,jbf];exact BB this rfl
  refine⟨_,_,?_,some (.int k),some (.str (pW hs k)),some (.str (pM hs k)),some (.int (pO hs k:Nat)),rfl,rfl,?_,?_⟩
  ·refine n7 (vs:=[.str (pW hs k),.str (pM hs k)]) (cL (vs:=[.int (hs.getD k 0:Nat)]) (cT (fX (l:=aq hs) (k:=k) (ag rfl) (ag rfl) (fu k (bw hk rfl)) Ff)) rfl (NG _)) rfl ?_;refine aT (v:=.int (pO hs k:Nat)) (dV (y:=48) (jC (y:=48^k) (fX (l:=aq hs) (k:=5) (ag rfl) aR (fu 5 (bw jbK rfl)) Ff) (jE aR (ag rfl) (by decide) (IN hk rfl)) (by simp) ?_) aR (by decide)) ?_
   ·exact Zz (Zl (by decide) (show k<=4 from jaV hk)) (by decide)
   refine yr (a:=(Y7 k).flatMap (im hs)) (b:=im hs k) rfl (Dj (ag rfl) ?_ ?_) (by lia) ?_
   ·by_cases h4:k<4
    ·refine pU ((pV (x:=k) (y:=4) (ag rfl) aR).trans (by rw[decide_eq_true h4])) ?_;rw[if_pos h4];exact fX (l:=cA.map λp=>AV.str p.1) (k:=pO hs k) (ag rfl) (ag rfl) (Ua _ ho) (by decide)
    ·refine pT ((pV (x:=k) (y:=4) (ag rfl) aR).trans (by rw[decide_eq_false h4])) ?_;rw[if_neg h4];exact mL
   ·have:=cM;unfold im at this;rw[Za]at this;exact bw this rfl
   refine No (i:=0) (a:=aq ((Y7 k).flatMap (jo hs))) (b:=aq (jo hs k)) rfl rfl ?_ (by rw[Y0,Y0];lia) ?_
   ·have hc:∀v∈((pM hs k).map λc=>AV.str [c]),ev (Fi (N+1)) [.list (aq ((Y7 k).flatMap (jo hs)))] ([some (.lst (aq hs)),some qP,some (.str ((Y7 k).flatMap (im hs)++im hs k)),some (.ref 0),some (.int k),some (.str (pW hs k)),some (.str (pM hs k)),some (.int (pO hs k:Nat))]++[some v]) (.bin .Add (.c (.int 256)) (.call .index (.cons (.c (.str "filst")) (.cons (.var 8) .nil))))=some ((λv=>match v with | .str (c::_)=>AV.int ((256+iQ c:Nat))|v=>v) v):=by
     intro v hv;refine au (Zn.mp hv) ?_;rintro c hc rfl;have hcl:=Bw _ _ c hc;exact iF (x:=256) (y:=iQ c) aR (dK (vs:=[.str ch,.str [c]]) (dL mL (ag rfl)) (Rn c hcl))
    refine(sd (x:=aq ((pM hs k).map λc=>256+iQ c)) (y:=aq [if k<4 then 7+pO hs k else 0]) ?_ ?_ ?_).trans ?_
    ·refine(nY (x:=8) (vs:=(pM hs k).map λc=>AV.str [c]) rfl rfl ?_ hc).trans ?_
     ·have:(pM hs k).length<=9:=by unfold pM;lia
      rw[Y0];exact bw this rfl
     ·rw[ZJ];unfold aq;rw[ZJ];rfl
    ·refine se (cT ?_) (show 1<=100000 by decide);by_cases h4:k<4
     ·refine pU ((pV (x:=k) (y:=4) (ag rfl) aR).trans (by rw[decide_eq_true h4])) ?_;rw[if_pos h4];exact iF (x:=7) aR (ag rfl)
     ·refine pT ((pV (x:=k) (y:=4) (ag rfl) aR).trans (by rw[decide_eq_false h4])) ?_;rw[if_neg h4];exact aR
    ·have:=oB;unfold jo at this;rw[Za,Y0,jbf]at this;show(aq _).length+(aq _).length<=_;rw[Y0,Y0,Y0];show _+1<=_;exact bw this rfl
    ·unfold jo aq;rw[ZS]
   refine bH.trans ?_;rw[jaK,jaX,jaX,jcR,jcR];unfold aq;rw[ZS];rfl
  ·rw[jaK,jaX,Za,jcR];lia
  ·rw[jaK,jaX,Za,jcR];lia
def fW (T:List Nat):List Nat:=(T.filter λ(c:Nat)=>!dz (c:Int)).flatMap iy
theorem uJ (a b:List Nat):fW (a++b)=fW a++fW b:=by
 unfold fW;rw[jdL,jaX]
theorem KX:((Y7 15).all (λd=>(Y7 (if d<2 then 8 else 5)).all λw=>fW [(dB d w).1]==(dB d w).2)&&(Y7 28).all (λv=>fW (lA v)==[]))=true:=by decide +kernel
theorem KV:∀w,w<48->fW (ii w)=ii w:=by decide +kernel
theorem KW (r:Nat):fW (kA r)=io r:=by
 have h:=KX;rw[Zv]at h;have h1:=Y6.mp h.1 (r%15) (ZI.mpr (ZL _ (by decide)));have e:∀d w,dB d w=dB d (w%(if d<2 then 8 else 5)):=λd w=>by
  unfold dB;by_cases hd:d<2
  ·rw[if_pos hd,if_pos hd,if_pos hd,Nat.mod_mod]
  ·rw[if_neg hd,if_neg hd,if_neg hd,Nat.mod_mod]
 have h2:=Y6.mp h1 (r/15%40%(if r%15<2 then 8 else 5)) (ZI.mpr (ZL _ (by split<;>decide)));rw[<-e]at h2;have h3:=Y6.mp h.2 (r/600%28) (ZI.mpr (ZL _ (by decide)));unfold kA io;rw[uJ,eq_of_beq h2,eq_of_beq h3,jaY]
theorem Cs:∀k r,fW (lB k r)=jt k r
 |0,_=>rfl
 |k+1,r=>by rw[By,t7,uJ,KW,Cs k]
def qy (l:List Nat):List (List Nat×Nat):=l.map λc=>([c],256+iQ c)
def tQ (L:List Nat):Nat:=if(cA.lookup (L.take 3)).isSome then 3 else if(cA.lookup (L.take 2)).isSome then 2 else 1
def jv:List (List Nat×Nat)->Prop
 | []=>True
 |x::xs=>x.1≠[]/\tQ (x.1++xs.flatMap (·.1))=x.1.length/\x.1.length<=3/\(match cA.lookup x.1 with|some k=>k=x.2|none=>mC [.str ch,.str x.1]=some (.int ((x.2:Int)-256)))/\jv xs
theorem Wz:cA.all (λp=>p.1.all λc=>!ch.contains c)=true:=by decide +kernel
theorem qA (hc:c∈l)(hl:c∈ch):cA.lookup l=none:=by
 rw[jha];intro p hp;rw[bne_iff_ne];rintro rfl;have:=Y6.mp (Y6.mp Wz p hp) c hc;simp[hl]at this
theorem yY (h:jv az):∀l:List Nat,(∀c∈l,c∈ch)->jv (qy l++az)
 | [],_=>h
 |c::l,hl=>by
  have hc:=hl c (by simp);have ih:=yY h l (λc hc=>hl c (by simp[hc]));refine⟨by simp,?_,by simp,?_,ih⟩
  ·unfold tQ;refine aa (qA (c:=c) (by simp) hc) ?_;refine aa (qA (c:=c) (by simp) hc) ?_;rfl
  ·refine aa (qA (c:=c) (by simp) hc) ?_;show mC [.str ch,.str [c]]=_;refine aa (NY c hc) ?_;exact congrArg (λz=>some (AV.int z)) (by show(iQ c:Int)=((256+iQ c:Nat):Int)-256;lia)
theorem Ub:∀w,w<48->ii w≠[]/\(ii w).length<=3/\cA.lookup (ii w)=some ((7+w:Nat):Int):=by decide +kernel
theorem OS (hw:w<48)(h:jv az)(hr:az.flatMap (·.1)=c::l)(hc:c∈ch):jv ((ii w,7+w)::az):=by
 refine fY (Ub w hw) λh1 h2 h3=>?_;refine⟨h1,?_,h2,by show(match cA.lookup (ii w)with|some k=>k=((7+w:Nat):Int)|none=>_);refine aa h3 ?_;rfl,h⟩;show tQ (ii w++az.flatMap (·.1))=(ii w).length;refine aa hr ?_;generalize ii w=o at *;have eR:∀k,o.length<k->c∈(o++c::l).take k:=λk hk=>by
  refine aa List.take_append ?_;rw[ZE];right;have:k-o.length=(k-o.length-1)+1:=ud hk;refine aa this ?_;refine aa List.take_succ_cons ?_;simp
 have vO:(o++c::l).take o.length=o:=by rw[jfX];rfl
 unfold tQ;have h0:o.length≠0:=λe=>h1 (Z3.mp e);have:o.length=1\/o.length=2\/o.length=3:=XV (jdR h0) h2;rcases this with e|e|e
 ·refine aa (qA (eR 3 (by simp[*])) hc) ?_;refine aa (qA (eR 2 (IF e jbK)) hc) ?_;simp[e]
 ·refine aa (qA (eR 3 (IF e jbK)) hc) ?_;rw[e]at vO;refine aa vO ?_;refine aa h3 ?_;refine aa e ?_;rfl
 ·rw[e]at vO;refine aa vO ?_;refine aa h3 ?_;refine aa e ?_;rfl
section
variable (hs:List Nat)
def fK (i:Nat):List (List Nat×Nat):=qy (pM hs i)++if i<4 then[(ii (pO hs i),7+pO hs i)]else[]
def items:List (List Nat×Nat):=(Y7 5).flatMap (fK hs)
end
theorem Vr:(Y7 15).all (λd=>(Y7 40).all λw=>(dB d w).2 != [])=true:=by decide +kernel
theorem IA (k r:Nat):∃c l,jt (k+1) r=c::l/\c∈ch:=by
 have h1:=Y6.mp Vr (r%15) (ZI.mpr (ZL _ (by decide)));have h2:=Y6.mp h1 (r/15%40) (ZI.mpr (ZL _ (by decide)));have h3:io r≠[]:=by unfold io;simpa using h2
 refine dW (List.exists_cons_of_ne_nil h3) λc l e=>?_;refine cZ c (l++jt k (r/16800)) (by rewrite [t7];refine aa e ?_;rfl) (HG r c (by refine aa e ?_;simp))
theorem Am (l:List Nat):(qy l).flatMap (·.1)=l:=by
 induction l with
 |nil=>rfl
 |cons a l ih =>
  show[a]++(qy l).flatMap (·.1)=_;refine aa ih ?_;rfl
theorem Es (hs:List Nat):jv (items hs):=by
 have hM:∀i,∃c l,pM hs i=c::l/\c∈ch:=λi=>by
  unfold pM;refine aa (jbA _ _) ?_;exact IA _ _
 have ho:∀i,pO hs i<48:=λi=>ZL _ (by decide);have oz:∀i,∀c∈pM hs i,c∈ch:=λi=>Bw _ _;have step:∀i az,i<4->jv az->(∃c l,az.flatMap (·.1)=c::l/\c∈ch)->jv (fK hs i++az)/\∃c l,(fK hs i++az).flatMap (·.1)=c::l/\c∈ch:=by
  rintro i az hi hg ⟨c,l,e,hc⟩;unfold fK;refine aa (if_pos hi) ?_;rw[jaz];refine⟨yY (OS (ho i) hg e hc) _ (oz i),?_⟩;refine bB (hM i) λc' l' e' gN=>?_;refine aa jaX ?_;refine aa (Am _) ?_;refine aa e' ?_;exact cZ c' _ rfl gN
 have lm:jv (fK hs 4)/\∃c l,(fK hs 4).flatMap (·.1)=c::l/\c∈ch:=by
  unfold fK;refine aa (if_neg (by decide)) ?_;refine⟨yY (az:=[]) trivial _ (oz 4),?_⟩;refine aa (Z2 _) ?_;refine aa (Am _) ?_;exact hM 4
 have h3:=step 3 _ (by decide) lm.1 lm.2;have h2:=step 2 _ (by decide) h3.1 h3.2;have h1:=step 1 _ (by decide) h2.1 h2.2;have h0:=step 0 _ (by decide) h1.1 h1.2;have:items hs=fK hs 0++(fK hs 1++(fK hs 2++(fK hs 3++fK hs 4))):=by
  unfold items;refine aa (show Y7 5=[0,1,2,3,4]from rfl) ?_;simp[jaq]
 refine aa this ?_;exact h0.1
theorem Ag (hs:List Nat):(items hs).flatMap (·.1)=fW (ij hs):=by
 have ho:∀i,pO hs i<48:=λi=>ZL _ (by decide);have:∀i,(fK hs i).flatMap (·.1)=fW (im hs i):=λi=>by
  unfold fK im pW;rw[jaX,Am,uJ,Cs];split
  ·rw[KV _ (ho i)];simp[pM]
  ·simp[pM,fW]
 have h2:∀l:List Nat,(l.flatMap (fK hs)).flatMap (·.1)=fW (l.flatMap (im hs)):=λl=>by
  induction l with
  |nil=>rfl
  |cons a l ih=>rw[jaq,jaq,jaX,uJ,ih,this]
 exact h2 _
theorem Gi (hs:List Nat):(items hs).map (·.2)++[0]=dA hs:=by
 have e:∀i,(fK hs i).map (·.2)=(pM hs i).map (λc=>256+iQ c)++if i<4 then[7+pO hs i]else[]:=λi=>by
  unfold fK qy;refine aa ZS ?_;refine aa ZJ ?_
  congr 1
  split<;>rfl
 unfold items dA;refine aa (show Y7 5=[0,1,2,3,4]from rfl) ?_;simp[jaq,e,jo]
theorem tj (hs:List Nat):(items hs).length<=99:=by
 have hm:∀i,(pM hs i).length<=9:=λi=>by
  have h1:=Bv (1+hs.getD i 0%3) (hs.getD i 0/3);have h2:hs.getD i 0%3<3:=ZL _ (by decide);unfold pM;lia
 have h:∀i,(fK hs i).length<=10:=λi=>by
  have:=hm i;unfold fK qy;refine aa Za ?_;refine aa (Y0 _) ?_;split
  ·show _+1<=10;exact BB (hm i) rfl
  ·show _+0<=10;exact jcF (hm i)
 unfold items;refine aa (show Y7 5=[0,1,2,3,4]from rfl) ?_;have:=h 0;have:=h 1;have:=h 2;have:=h 3;have:=h 4;simp[jaq]
 lia
section
theorem Wq (h:ev Φ σ ρ (.comp n gs)=some (.lst vs)):oR Φ ρ σ (.comp n gs)=some (.ref σ.length,σ++[.list vs]):=by
 replace h:(fF Φ σ ρ n gs).map AV.lst=some (.lst vs):=h;show(match fF Φ σ ρ n gs with|some vs=>some (AV.ref σ.length,σ++[AO.list vs])|none=>none)=_
 induction e:fF Φ σ ρ n gs using ae with
 |none=>rw[e]at h;exact ai h
 |some us=>rw[e]at h;refine aa (AV.lst.inj (Y3 h)) ?_;rfl
theorem Dq {a e:Ex}{k:Nat}{x:List Nat}(h1:ev Φ σ ρ a=some (.str x))(h2:ev Φ σ ρ e=some (.int k))(hl:x.length<=100000):ev Φ σ ρ (.slice a .none (.some e))=some (.str (x.take k)):=by
 rw[pX,h1];dsimp only;rw[Dc];dsimp only;rw[pQ,h2];dsimp only;show(if 0<=(k:Int)then md σ (λl=>l.take (k:Int).toNat) (.str x)else none)=_;rw[if_pos (Zi k),ZB];show(if _ then _ else _)=_;rw[if_pos hl]
theorem M9 {a e:Ex}{k:Nat}{x:List Nat}(h1:ev Φ σ ρ a=some (.str x))(h2:ev Φ σ ρ e=some (.int k))(hl:x.length<=100000):ev Φ σ ρ (.slice a (.some e) .none)=some (.str (x.drop k)):=by
 have hn:fG Φ σ ρ .none=some none:=rfl;have hs:fG Φ σ ρ (.some e)=some (some (k:Int)):=by rw[pQ,h2]
 rw[pX,h1];simp only[hn,hs];show(if 0<=(k:Int)then md σ (λl=>l.drop (k:Int).toNat) (.str x)else none)=_;rw[if_pos (Zi k),ZB];show(if _ then _ else _)=_;rw[if_pos hl]
theorem MX (h1:ev Φ σ ρ a=some (.bool x))(h2:ev Φ σ ρ b=some (.bool y)):ev Φ σ ρ (.and (.cons a (.cons b .nil)))=some (.bool (x&&y)):=by
 rewrite [uV,kT];refine aa h1 ?_;cases x
 ·rfl
 ·dsimp only;rewrite [kT];refine aa h2 ?_;cases y
  ·rfl
  ·dsimp only;rw[nU];rfl
theorem kS (h1:ev Φ σ ρ a=some (.bool x)):cS Φ σ ρ (.cons a .nil)=some x:=by
 rw[kT,h1];cases x
 ·rfl
 ·dsimp only;rw[nU]
end
theorem HX:∀l:List (List Nat),ip (l.map AV.str)=some l
 | []=>rfl
 |a::l=>by rw[ZC,V0,HX l];rfl
theorem UV (T:List Nat):(Y7 T.length).map (λi=>T.getD i 0)=T:=by
 refine jep (by simp) λi h1 h2=>?_;rw[jbR,jdK,Y8,Zc h2];rfl
theorem xH (T:List Nat):((((Y7 T.length).filter λi=>!dz (T.getD i 0:Nat)).map λi=>iy (T.getD i 0)).flatten)=fW T:=by
 unfold fW;have:T.filter (λ(c:Nat)=>!dz (c:Int))=((Y7 T.length).filter λi=>!dz (T.getD i 0:Nat)).map λi=>T.getD i 0:=by
  have h:=jce (f:=λi=>T.getD i 0) (p:=λ(c:Nat)=>!dz (c:Int)) (l:=Y7 T.length);rw[UV]at h;exact h
 refine aa this ?_;refine aa List.flatMap_def ?_;refine aa ZJ ?_;rfl
def Hr:dw :=
 (.cons (.asg 4 false (.call .max (.cons (.bin .Add (.list (.cons (.c (.int 1)) .nil)) (.comp 1 (.cons 5 (.val (.tup (.cons (.c (.int 2)) (.cons (.c (.int 3)) .nil)))) (.cons (.cmp .In (.slice (.var 2) .none (.some (.var 5))) (.glob .tok)) .nil) (.done (.var 5))))) .nil)))
  (.cons (.app (.var 3) (.call .get (.cons (.glob .tok) (.cons (.slice (.var 2) .none (.some (.var 4))) (.cons (.bin .Add (.c (.int 256)) (.call .find (.cons (.c (.str "filst")) (.cons (.slice (.var 2) .none (.some (.var 4))) .nil)))) .nil)))))
  (.cons (.asg 2 false (.slice (.var 2) (.some (.var 4)) .none))
  .nil)))
theorem UZ {Φ:cX}{a b u:Option AV}{L:List Nat}{row:List AV}{x:List Nat×Nat}{xs:List (List Nat×Nat)}(hL:L=x.1++xs.flatMap (·.1))(hg:jv (x::xs))(hr:row.length<=1000)(hl:L.length<=1000):
 ∃u',aE Φ [a,b,some (.str L),some (.ref 0),u] [.list row] Hr=some (.next [a,b,some (.str (xs.flatMap (·.1))),some (.ref 0),u'] [.list (row++[.int (x.2:Nat)])]):=by
 refine DA hg λg1 g2 g3 g4 g5=>?_;rw[<-hL]at g2;have jj:L.take x.1.length=x.1:=by refine aa hL ?_;exact jfX rfl
 have PC:L.drop x.1.length=xs.flatMap (·.1):=by refine aa hL ?_;exact List.drop_left' rfl
 refine⟨some (.int (x.1.length:Nat)),?_⟩;refine aT (v:=.int (x.1.length:Nat)) ?_ ?_
 ·have hc:ev Φ [.list row] [a,b,some (.str L),some (.ref 0),u] (.comp 1 (.cons 5 (.val (.tup (.cons (.c (.int 2)) (.cons (.c (.int 3)) .nil)))) (.cons (.cmp .In (.slice (.var 2) .none (.some (.var 5))) (.glob .tok)) .nil) (.done (.var 5))))=some (.lst (aq ([2,3].filter λk=>(cA.lookup (L.take k)).isSome))):=by
   refine(nX (x:=5) (vs:=aq [2,3]) (p:=λv=>match v with | .int k=>(cA.lookup (L.take k.toNat)).isSome|_=>false) (g:=id) rfl rfl (by decide) (λv hv=>?_) (λv hv Y=>?_)).trans ?_
   ·refine au (Zn.mp hv) ?_;rintro k hk rfl;refine kS (cK (x:=.str (L.take k)) (y:=.tok) (Dq (ag rfl) (ag rfl) (bw hl rfl)) rfl ?_);rfl
   ·rfl
   ·show some (AV.lst (jfy id (List.filter _ (aq [2,3]))))=_;refine aa (jbX _) ?_;unfold aq;refine aa jce ?_;rfl
  refine dK (cT (sd (x:=aq [1]) rfl hc ?_)) ?_
  ·show 1+_<=100000;unfold aq;refine aa (Y0 _) ?_;have:([2,3].filter λk=>(cA.lookup (L.take k)).isSome).length<=2:=jda _ _
   lia
  ·refine rwj g2 ?_;unfold tQ;refine aa jcv ?_;refine aa jcv ?_;cases(cA.lookup (L.take 3)).isSome<;>cases(cA.lookup (L.take 2)).isSome<;>rfl
 refine qb (i:=0) (xs:=row) (v:=.int (x.2:Nat)) (ag rfl) ?_ rfl (bw hr rfl) (λj=>by simp) ?_
 ·have ht:∀{ρ:aB},ρ[2]?=some (some (.str L))->ρ[4]?=some (some (.int (x.1.length:Nat)))->ev Φ [.list row] ρ (.slice (.var 2) .none (.some (.var 4)))=some (.str x.1):=λh2 h4=>by
   have:=Dq (Φ:=Φ) (σ:=[.list row]) (ag h2) (ag h4) (bw hl rfl)
   rwa [jj]at this
  have PM:∃d:Int,mC [.str ch,.str x.1]=some (.int d):=⟨_,rfl⟩
  refine aX PM λd hd=>?_;refine dK (vs:=[.tok,.str x.1,.int (256+d)]) (gJ rfl (ht rfl rfl) (nW (x:=256) bK (dK (vs:=[.str ch,.str x.1]) (dL mL (ht rfl rfl)) hd))) ?_;show some (match cA.lookup x.1 with|some k=>AV.int k|none=>.int (256+d))=_
  induction e:cA.lookup x.1 using ae with
  |some k=>rw[e]at g4;dsimp only at g4;refine aa g4 ?_;rfl
  |none =>
   rw[e]at g4;dsimp only at g4;rw[hd]at g4;simp only[jdt,AV.int.injEq]at g4;simp only[jdt,AV.int.injEq]
   lia
 ·refine aT (v:=.str (xs.flatMap (·.1))) ?_ bH;refine rwj PC ?_;exact M9 (ag rfl) (ag rfl) (bw hl rfl)
theorem Hw:∀(xs:List (List Nat×Nat)) (row:List AV) (u:Option AV) (n:Nat),jv xs->xs.length<n->row.length+xs.length<=1000->(xs.flatMap (·.1)).length<=1000 ->
 ∃u',jr (λρ σ=>ev Φ σ ρ (.cmp .NotEq (.var 2) (.c (.str "")))) (λρ σ=>aE Φ ρ σ Hr) n [a,b,some (.str (xs.flatMap (·.1))),some (.ref 0),u] [.list row]=some (.next [a,b,some (.str []),some (.ref 0),u'] [.list (row++aq (xs.map (·.2)))])
 |_,_,_,0,_,h,_,_=>by lia
 | [],row,u,n+1,hg,_,hr,hl=>by
  refine⟨u,?_⟩;rw[Bt];have:ev Φ [.list row] [a,b,some (.str (([]:List (List Nat×Nat)).flatMap (·.1))),some (.ref 0),u] (.cmp .NotEq (.var 2) (.c (.str "")))=some (.bool false):=rfl;simp only[this];simp
 |x::xs,row,u,n+1,hg,hn,hr,hl=>by
  rw[Zo]at hn hr;have vy:(xs.flatMap (·.1)).length<=1000:=by
   rw[jaq,Za]at hl;exact wK hl
  refine aX (UZ (Φ:=Φ) (a:=a) (b:=b) (u:=u) (L:=(x::xs).flatMap (·.1)) (row:=row) rfl hg (Bz hr) hl) λu1 h1=>?_;refine aX (Hw (Φ:=Φ) (a:=a) (b:=b) xs (row++[.int (x.2:Nat)]) u1 n hg.2.2.2.2 (by lia) (by refine aa Za ?_;refine aa jbf ?_;exact ub hr) vy) λu2 h2=>?_;refine⟨u2,?_⟩;rw[Bt];have:ev Φ [.list row] [a,b,some (.str ((x::xs).flatMap (·.1))),some (.ref 0),u] (.cmp .NotEq (.var 2) (.c (.str "")))=some (.bool true):=by
   refine(cK (x:=.str ((x::xs).flatMap (·.1))) (y:=.str []) (c:=true) rfl mL ?_);show some (!decide _)=_;rw[decide_eq_false];rfl;intro e;refine bN hg λg1 Y=>?_;rw[jaq]at e;exact g1 (List.append_eq_nil_iff.mp e).1
  simp only[this,h1,h2];rw[jaz];rfl
theorem JB:((fW (ij hs)).length<=1000):=by
 refine rwj (Ag _) ?_;have hg:∀xs:List (List Nat×Nat),jv xs->(xs.flatMap (·.1)).length<=3*xs.length:=λxs=>by
  induction xs with
  |nil=>intro _;simp
  |cons x xs ih =>
   intro h;have:=ih h.2.2.2.2;have:=h.2.2.1;refine aa jaq ?_;refine aa Za ?_;refine aa Zo ?_;lia
 have:=hg _ (Es hs);have:=tj hs
 lia
theorem Um (hs:List Nat):(ij hs).length<=45:=by
 have h:∀i,(im hs i).length<=9:=λi=>by
  have h1:=Bx (1+hs.getD i 0%3) (hs.getD i 0/3);have h2:hs.getD i 0%3<3:=ZL _ (by decide);have h3:=G8 (pO hs i) (ZL _ (by decide));have:(pW hs i).length<=6:=by unfold pW;lia
  unfold im;refine aa Za ?_;split
  ·lia
  ·show _+0<=9;exact bw this rfl
 unfold ij;refine aa (show Y7 5=[0,1,2,3,4]from rfl) ?_;have:=h 0;have:=h 1;have:=h 2;have:=h 3;have:=h 4;simp only[jaq,List.flatMap_nil,Za,jbp]
 lia
theorem NI (hs:List Nat):Fi (N+2) 15 [.str (ij hs)]=some (.lst (aq (dA hs))):=by
 refine fB Oj rfl ?_;have hT:=Um hs;have hC:=JB (hs:=hs);rw[<-xH]at hC;generalize EC:ij hs=T at *;show aE (Fi (N+1)) ([some (.str T)]++Zh 4 none) [] DR.body=_;have Bo:ev (Fi (N+1)) [] [some (.str T),none,none,none,none] (.comp 1 (.cons 5 (.val (.var 0)) .nil (.done (.call (.user 8) (.cons (.var 5) .nil)))))=some (.lst (T.map λ(c:Nat)=>.bool (dz c))):=by
  refine(nY (x:=5) (vs:=T.map λc=>AV.str [c]) (g:=λv=>match v with | .str (c::_)=>.bool (dz c)|v=>v) rfl rfl (by rw[Y0];exact bw hT rfl) (λv hv=>?_)).trans ?_
  ·refine au (Zn.mp hv) ?_;rintro c hc rfl;exact cL (vs:=[.str [c]]) (cT (ag rfl)) rfl NV
  ·rw[ZJ];rfl
 refine aT Bo ?_;have qr:∀i,i<T.length->T[i]?=some (T.getD i 0):=λi hi=>yU hi;have plain:ev (Fi (N+1)) [] [some (.str T),some (.lst (T.map λ(c:Nat)=>.bool (dz c))),none,none,none] (.call .join (.cons (.c (.str "")) (.cons (.comp 1 (.cons 5 (.range (.cons (.call .len (.cons (.var 0) .nil)) .nil)) (.cons (.cmp .Is (.idx (.var 1) (.var 5)) (.c (.bool false))) .nil) (.done (.call (.user 9) (.cons (.idx (.var 0) (.var 5)) .nil))))) .nil)))=some (.str (fW T)):=by
  have hc:ev (Fi (N+1)) [] [some (.str T),some (.lst (T.map λ(c:Nat)=>.bool (dz c))),none,none,none] (.comp 1 (.cons 5 (.range (.cons (.call .len (.cons (.var 0) .nil)) .nil)) (.cons (.cmp .Is (.idx (.var 1) (.var 5)) (.c (.bool false))) .nil) (.done (.call (.user 9) (.cons (.idx (.var 0) (.var 5)) .nil)))))=some (.lst (((((Y7 T.length).filter λi=>!dz (T.getD i 0:Nat)).map λi=>iy (T.getD i 0))).map AV.str)):=by
   refine(nX (x:=5) (vs:=aq (Y7 T.length)) (p:=λv=>match v with | .int k=>!dz (T.getD k.toNat 0:Nat)|_=>false) (g:=λv=>match v with | .int k=>.str (iy (T.getD k.toNat 0))|v=>v) (j9 ?_ (bw hT rfl)) rfl (by rw[Y0,jaf];exact bw hT rfl) (λv hv=>?_) (λv hv Y=>?_)).trans ?_
   ·exact dK (vs:=[.str T]) rfl (by show(if T.length<=100000 then _ else _)=_;rw[if_pos (bw hT rfl)])
   ·refine au (Zn.mp hv) ?_;rintro k hk rfl;have hk:=ZI.mp hk;refine kS (cK (x:=.bool (dz (T.getD k 0:Nat))) (y:=.bool false) (fX (l:=T.map λ(c:Nat)=>AV.bool (dz c)) (k:=k) (ag rfl) (ag rfl) (by rw[ZO,qr k hk];rfl) (by rw[Y0];exact bw hT rfl)) rfl ?_);have hb:∀b:Bool,some (b==false)=some (!b):=λb=>by cases b<;>rfl
    exact hb _
   ·refine au (Zn.mp hv) ?_;rintro k hk rfl;have hk:=ZI.mp hk;exact cL (vs:=[.str [T.getD k 0]]) (cT (Dh (l:=T) (k:=k) (ag rfl) (ag rfl) (qr k hk) (bw hT rfl))) rfl NW
   ·unfold aq;rw[jce,ZJ,ZJ];rfl
  refine dK (dL mL hc) ?_;show(match ip _ with|some xs=>_|none=>_)=_;rw[HX];simp only[];rw[if_pos (bw hC rfl),xH]
 refine aT plain ?_;have U2:ev (Fi (N+1)) [] [some (.str T),some (.lst (T.map λ(c:Nat)=>.bool (dz c))),some (.str (fW T)),none,none] (.comp 1 (.cons 5 (.val (.var 1)) (.cons (.and (.cons (.cmp .IsNot (.var 5) (.c (.bool true))) (.cons (.cmp .IsNot (.var 5) (.c (.bool false))) .nil))) .nil) (.done (.var 5))))=some (.lst []):=by
  refine(nX (x:=5) (vs:=T.map λ(c:Nat)=>.bool (dz c)) (p:=λv=>false) (g:=id) rfl rfl (by rw[Y0];exact bw hT rfl) (λv hv=>?_) (λv hv h=>by cases h)).trans ?_
  ·refine au (Zn.mp hv) ?_;rintro c hc rfl;refine kS ((MX (x:=!(dz c==true)) (y:=!(dz c==false)) rfl rfl).trans ?_);cases dz c<;>rfl
  ·simp
 refine sn (Wq U2) ?_;refine aX (Hw (Φ:=Fi (N+1)) (a:=some (.str T)) (b:=some (.lst (T.map λ(c:Nat)=>.bool (dz c)))) (items hs) [] none 100 (Es hs) (by have:=tj hs;lia) (by have:=tj hs;simp;exact bw this rfl) (by rw[Ag,EC,<-xH];exact hC)) λu' hw=>?_;rw[Ag,EC]at hw;refine Nq hw ?_;refine dX (v:=.lst (aq (dA hs))) ?_ ?_
 ·have:dE [.list (aq ((items hs).map (·.2)))] .Add (.ref 0) (.lst [.int 0])=some (.lst (aq (dA hs))):=by
   show(if(aq ((items hs).map (·.2))).length+1<=100000 then some (AV.lst (aq ((items hs).map (·.2))++[.int 0]))else none)=_;have:=tj hs;rw[if_pos (by rw[Y0,Y0];lia),<-Gi];unfold aq;rw[ZS];rfl
  exact cb (x:=.ref 0) (y:=.lst [.int 0]) rfl rfl this
 ·show(bj _ _).map AV.lst=_;have h:=qg 4 [.list ([]++aq ((items hs).map (·.2)))] (dA hs);exact(congrArg (Z' AV.lst) h).trans rfl
theorem tr:∀(n:Nat) (l:List Nat),l.Nodup->(∀x∈l,x<n)->l.length<=n
 |0,[],_,_=>by simp
 |0,a::l,_,h=>by have:=h a (by simp);lia
 |n+1,l,hd,h=>by
  have h1:=tr n (l.erase n) (hd.erase n) (λx hx=>by
   rw[hd.mem_erase_iff]at hx;have:=h x hx.2;have:=hx.1
   lia)
  have:=List.length_erase (a:=n) (l:=l);split at this<;>lia
abbrev bC (l:List Int):List AV:=l.map AV.int
def nt:List AV:=[.ref 1,.ref 2,.ref 3,.ref 4,.ref 5]
def cp (nm:List Int)(ne:List (List Nat)):aA:=.list (bC nm)::(ne.map (λl=>AO.list (aq l))++[.list nt])
theorem wx (h:ne.length=5)(hp:p<5):(cp nm ne)[p+1]?=some (.list (aq (ne.getD p []))):=by
 unfold cp;rw[jeo,Zt (by rw[Y0];simp[*]),ZO,Y8,Zc (by simp[*])];rfl
theorem HR (h:ne.length=5)(hp:p<5):(cp nm ne).set (p+1) (.list (aq l))=cp nm (ne.set p l):=by
 unfold cp;rw[List.set_cons_succ,jcc,if_pos (by rw[Y0];simp[*]),List.map_set]
theorem Bc (h:ne.length=5):(cp nm ne)[6]?=some (.list nt):=by
 unfold cp;rw[jeo,Zg (by rw[Y0];exact ZK h),Y0,h];rfl
def ge:Option Nat->Int
 |none=>-1
 |some k=>k
structure eW (nm:List Int) (ne:List (List Nat)) (pv:Option Nat):Prop where
 nm1:∀x∈nm,256<=x/\x<261
 nd:nm.Nodup
 len:ne.length=5
 pv:∀p,pv=some p->p<nm.length
 sym:∀i,∀j∈ne.getD i [],j<nm.length/\i<nm.length/\j≠i/\i∈ne.getD j []
 ndp:∀i,(ne.getD i []).Nodup
theorem eW.le {pv:Option Nat}(h:eW nm ne pv):nm.length<=5:=by
 have:=tr 5 (nm.map λx=>(x-256).toNat) (by
  have:=h.nd;unfold List.Nodup at this ⊢;rw[List.pairwise_map];refine this.imp_of_mem λ{a b} ha hb hab e=>hab ?_;exact(Int.sub_left_inj 256).mp ((jbS (jfb (h.nm1 a ha).1)).symm.trans ((congrArg Z5 e).trans (jbS (jfb (h.nm1 b hb).1))))) (λx hx=>by
   refine au (Zn.mp hx) ?_;rintro y hy rfl;have:=h.nm1 y hy;omega)
 rwa [Y0]at this
theorem eW.le2 {pv:Option Nat}(h:eW nm ne pv)(i:Nat):(ne.getD i []).length<=5 :=
 tr 5 _ (h.ndp i) (λj hj=>by have:=(h.sym i j hj).1;have:=h.le;lia)
theorem yV {α:Type}(l:List α)(i j:Nat)(a d:α):(l.set i a).getD j d=if i=j/\i<l.length then a else l.getD j d:=by
 refine aa Y8 ?_;refine aa jbn ?_;refine aa Y8 ?_;by_cases h:i=j
 ·subst h;by_cases h2:i<l.length
  ·simp[h2]
  ·simp[h2,jci (jiP h2)]
 ·simp[h]
theorem eW.wire {pv:Option Nat}(h:eW nm ne pv)(hp:p<nm.length)(hk:k<nm.length)(zG:k≠p)(hn:k∉ne.getD p []):
 eW nm ((ne.set p (ne.getD p []++[k])).set k (ne.getD k []++[p])) pv:=by
 have aU:=h.le;have aO:=h.len;have Qq:p<ne.length:=by lia
 have P4:k<ne.length:=by lia
 have vH:p∉ne.getD k []:=λhc=>hn (h.sym k p hc).2.2.2;have e:∀i,((ne.set p (ne.getD p []++[k])).set k (ne.getD k []++[p])).getD i []=if i=k then ne.getD k []++[p]else if i=p then ne.getD p []++[k]else ne.getD i []:=λi=>by
  rw[yV,yV,jbL];by_cases h1:i=k
  ·rw[if_pos ⟨h1.symm,P4⟩,if_pos h1]
  ·rw[if_neg (λc=>h1 c.1.symm),if_neg h1];by_cases h2:i=p
   ·rw[if_pos ⟨h2.symm,Qq⟩,if_pos h2]
   ·rw[if_neg (λc=>h2 c.1.symm),if_neg h2]
 have hm:∀i j,j∈ne.getD i []->j∈((ne.set p (ne.getD p []++[k])).set k (ne.getD k []++[p])).getD i []:=λi j hj=>by
  rw[e];by_cases h1:i=k
  ·rw[if_pos h1,ZE];left;rw[<-h1];exact hj
  ·rw[if_neg h1];by_cases h2:i=p
   ·rw[if_pos h2,ZE];left;rw[<-h2];exact hj
   ·rw[if_neg h2];exact hj
 refine⟨h.nm1,h.nd,by rw[jbL,jbL];exact aO,h.pv,?_,?_⟩
 ·intro i j hj;rw[e]at hj;by_cases h1:i=k
  ·rw[if_pos h1,ZE,Zq]at hj;rcases hj with hj|rfl
   ·have:=h.sym k j hj;subst h1;exact lh this.1 this.2.1 this.2.2.1 (hm _ _ this.2.2.2)
   ·subst h1;refine lh hp hk (λc=>zG c.symm) ?_;rw[e,if_neg (λc=>zG c.symm),if_pos rfl];simp
  ·rw[if_neg h1]at hj;by_cases h2:i=p
   ·rw[if_pos h2,ZE,Zq]at hj;rcases hj with hj|rfl
    ·have:=h.sym p j hj;subst h2;exact lh this.1 this.2.1 this.2.2.1 (hm _ _ this.2.2.2)
    ·subst h2;refine lh hk hp zG ?_;rw[e,if_pos rfl];simp
   ·rw[if_neg h2]at hj;have:=h.sym i j hj;exact lh this.1 this.2.1 this.2.2.1 (hm _ _ this.2.2.2)
 ·intro i;have vf:∀(l:List Nat) (x:Nat),l.Nodup->x∉l->(l++[x]).Nodup:=λl x hl hx=>by
   rw[jbm];refine cz hl (by simp) (λa ha b hb=>?_);rw[Zq]at hb;rintro rfl;exact hx (hb▸ha)
  rw[e];split
  ·exact vf _ _ (h.ndp k) vH
  ·split
   ·exact vf _ _ (h.ndp p) hn
   ·exact h.ndp i
theorem eW.pv' {pv pv':Option Nat}(h:eW nm ne pv)(h2:∀p,pv'=some p->p<nm.length):eW nm ne pv' :=
 ⟨h.nm1,h.nd,h.len,h2,h.sym,h.ndp⟩
theorem eW.name {pv:Option Nat}(h:eW nm ne pv)(hx:256<=x/\x<261)(hn:x∉nm):eW (nm++[x]) ne pv:=by
 refine⟨λy hy=>?_,?_,h.len,λp hp=>?_,λi j hj=>?_,h.ndp⟩
 ·rw[ZE,Zq]at hy;rcases hy with hy|rfl
  ·exact h.nm1 y hy
  ·exact hx
 ·rw[jbm];refine cz h.nd (by simp) (λa ha b hb=>?_);rw[Zq]at hb;rintro rfl;exact hn (hb▸ha)
 ·have:=h.pv p hp;refine aa Za ?_;exact jcF this
 ·have:=h.sym i j hj;refine aa Za ?_;exact cz (by lia) (by lia) this.2.2
section
theorem iE (h:ev Φ σ ρ a=some (.bool true))(h2:cS Φ σ ρ es=b):cS Φ σ ρ (.cons a es)=b:=by
 rewrite [kT];refine aa h ?_;exact h2
theorem nT (h:ev Φ σ ρ a=some (.bool false)):cS Φ σ ρ (.cons a es)=some false:=by
 rw[kT,h]
theorem C8:cS Φ σ ρ .nil=some true:=by rw[nU]
theorem kV (h:cS Φ σ ρ es=some b):ev Φ σ ρ (.and es)=some (.bool b):=by
 rw[uV,h];rfl
theorem ye (h1:ev Φ σ ρ a=some (.int x))(h2:ev Φ σ ρ b=some (.int y)):ev Φ σ ρ (.cmp .Gt a b)=some (.bool (decide (y<x))):=cK h1 h2 rfl
theorem yd (h1:ev Φ σ ρ a=some (.int x))(h2:ev Φ σ ρ b=some (.int y)):ev Φ σ ρ (.cmp .GtE a b)=some (.bool (decide (y<=x))):=cK h1 h2 rfl
theorem yg (h1:ev Φ σ ρ a=some (.int x))(h2:ev Φ σ ρ b=some (.int y)):ev Φ σ ρ (.cmp .NotEq a b)=some (.bool (!decide (x=y))):=cK h1 h2 rfl
theorem yi (h1:ev Φ σ ρ a=some (.int x))(h2:ev Φ σ ρ b=some (.ref j))(h3:σ[j]?=some (.list (bC is))):ev Φ σ ρ (.cmp .NotIn a b)=some (.bool (!decide (x∈is))):=by
 refine cK h1 h2 ?_;have hl:aQ σ (.ref j)=some (bC is):=Ap h3;show(match aQ σ (.ref j)with|some vs=>(nh x vs).map (!·)|none=>none)=_;refine aa hl ?_;show(nh x (is.map AV.int)).map (!·)=_;unfold nh;refine aa (rH _) ?_;simp only[jif,jdt]
 congr 1
 rw[jaM,jer,decide_eq_true_iff];constructor
 ·rintro⟨y,hy,e⟩;refine rwj (eq_of_beq e) ?_;exact hy
 ·intro h;exact aN x h (by simp)
theorem uR {a i:Ex}{j k:Nat}{l:List AV}{v:AV}(h1:ev Φ σ ρ a=some (.ref j))(h2:ev Φ σ ρ i=some (.int k))(h3:σ[j]?=some (.list l))(hv:l[k]?=some v)(hn:l.length<=100000):ev Φ σ ρ (.idx a i)=some v:=by
 refine mJ h1 h2 ?_;have hl:aQ σ (.ref j)=some l:=Ap h3;show(match aQ σ (.ref j)with|some vs=>(fO (k:Int) vs.length).bind λj=>vs[j]?|none=>_)=_;refine aa hl ?_;simp only[];refine aa (wl (ZA.mp hv).1 hn) ?_;exact hv
theorem M1 (h1:ev Φ σ ρ a=some (.ref j))(h2:ev Φ σ ρ i=some (.int x))(h3:σ[j]?=some (.list (bC is)))(hk:is.findIdx? (·==x)=some k)(hn:k<=100000):ev Φ σ ρ (.call .index (.cons a (.cons i .nil)))=some (.int k):=by
 refine dK (dL h1 h2) ?_;have hl:aQ σ (.ref j)=some (bC is):=Ap h3;show nN σ [.ref j,.int x]=_;unfold nN;simp only[hl,rH,hk];rw[if_pos hn]
end
def GQ:dw:=match yA.body with | .cons _ (.cons (.for_ _ _ b) _)=>b|_=>.nil
theorem qG (l:List Nat):aq l=bC (l.map Z5):=by
 unfold aq bC;refine aa ZJ ?_;rfl
theorem Tv (h:eW nm ne pv)(hx:256<=x->x<261):
 ∃dG mc pv' k',aE (Fi (N+1)) [some row,some (.ref 0),some (.ref 6),some (.int (ge pv)),some (.int x),k] (cp nm ne) GQ=some (.next [some row,some (.ref 0),some (.ref 6),some (.int (ge pv')),some (.int x),k'] (cp dG mc))/\eW dG mc pv'/\((nm≠[]\/256<=x)->dG≠[]):=by
 have c0:∀{ρ:aB},ρ[4]?=some (some (.int x))->ev (Fi (N+1)) (cp nm ne) ρ (.or (.cons (.cmp .IsNot (.call (.user 10) (.cons (.var 4) .nil)) (.cmp .Lt (.var 4) (.c (.int 256)))) (.cons (.cmp .IsNot (.call (.user 11) (.cons (.var 4) .nil)) (.cmp .Gt (.var 4) (.c (.int 255)))) (.cons (.cmp .IsNot (.call (.user 12) (.cons (.var 4) .nil)) (.cmp .Eq (.var 4) (.c (.int 0)))) .nil))))=some (.bool false):=λ{ρ} h4=>by
  have hb:∀b:Bool,some (!(b==b))=some false:=λb=>by cases b<;>rfl
  refine M6 (cK (x:=.bool (decide (x<256))) (y:=.bool (decide (x<256))) (cL (vs:=[.int x]) (cT (ag h4)) rfl ND) (nZ (ag h4) bK) (hb _)) (cK (x:=.bool (decide (256<=x))) (y:=.bool (decide (256<=x))) (cL (vs:=[.int x]) (cT (ag h4)) rfl NE) ?_ (hb _)) (cK (x:=.bool (decide (x=0))) (y:=.bool (decide (x=0))) (cL (vs:=[.int x]) (cT (ag h4)) rfl NF) (uQ (ag h4) bK) (hb _));refine aa (ye (ag h4) (bK (i:=255))) ?_;exact congrArg (λb=>some (AV.bool b)) (decide_eq_decide.mpr (by rfl))
 have aU:=h.le;have g0:(cp nm ne)[0]?=some (.list (bC nm)):=rfl;by_cases qj:256<=x
 ·have gt:∀{ρ:aB}{σ:aA},ρ[4]?=some (some (.int x))->ev (Fi (N+1)) σ ρ (.cmp .Gt (.var 4) (.c (.int 255)))=some (.bool true):=λh4=>by
   refine aa (ye (ag h4) (bK (i:=255))) ?_;refine aa (decide_eq_true (qj)) ?_;rfl
  obtain⟨dG,jh,f8,ji,cM⟩:∃dG,(eW dG ne pv)/\x∈dG/\dG≠[]/\∀{u:Option Fl}{ss:dw},aE (Fi (N+1)) [some row,some (.ref 0),some (.ref 6),some (.int (ge pv)),some (.int x),k] (cp dG ne) ss=u ->
   aE (Fi (N+1)) [some row,some (.ref 0),some (.ref 6),some (.int (ge pv)),some (.int x),k] (cp nm ne) (.cons (.ife (.and (.cons (.cmp .Gt (.var 4) (.c (.int 255))) (.cons (.cmp .NotIn (.var 4) (.var 1)) .nil))) (.cons (.app (.var 1) (.var 4)) .nil) .nil) ss)=u:=by
   by_cases eR:x∈nm
   ·refine vT nm h eR (List.ne_nil_of_mem eR) (λhu=>?_);refine du (kV (iE (gt rfl) (nT ?_))) bH hu;refine aa (yi (ag rfl) (ag rfl) g0) ?_;refine aa (decide_eq_true eR) ?_;rfl
   ·refine vT (nm++[x]) (h.name ⟨qj,hx qj⟩ eR) (by simp) (by simp) (λhu=>?_);refine mO (an:=cp (nm++[x]) ne) (kV (iE (gt rfl) (iE ?_ C8))) (qb (i:=0) (v:=.int x) (ag rfl) (ag rfl) g0 (by refine aa (Y0 _) ?_;exact bw aU rfl) (λj=>by simp) ?_) hu
    ·refine aa (yi (ag rfl) (ag rfl) g0) ?_;refine aa (decide_eq_false eR) ?_;rfl
    ·refine aa bH ?_;unfold cp bC;refine aa ZS ?_;rfl
  have OJ:(cp dG ne)[0]?=some (.list (bC dG)):=rfl;have vA:=jh.le;obtain⟨q,hq⟩:∃q,dG.findIdx? (·==x)=some q:=by
   induction e:dG.findIdx? (·==x)using ae with
   |some q=>exact⟨q,rfl⟩
   |none =>
    rw[jgK]at e;have:=e x f8;simp at this
  have Fy:q<dG.length:=by
   have:=List.findIdx?_eq_some_iff_findIdx_eq.mp hq;simp[*]
  have aO:=jh.len;have TK:ev (Fi (N+1)) (cp dG ne) [some row,some (.ref 0),some (.ref 6),some (.int (ge pv)),some (.int x),k] (.ite (.cmp .Gt (.var 4) (.c (.int 255))) (.call .index (.cons (.var 1) (.cons (.var 4) .nil))) (.un .USub (.c (.int 1))))=some (.int q):=
   pU (gt rfl) (M1 (ag rfl) (ag rfl) OJ hq (by lia))
  have u9:∀{ρ:aB}{σ:aA},ρ[5]?=some (some (.int q))->ev (Fi (N+1)) σ ρ (.cmp .GtE (.var 5) (.c (.int 0)))=some (.bool true):=λh5=>by
   refine aa (yd (ag h5) (bK (i:=0))) ?_;refine aa (decide_eq_true (Zi q)) ?_;rfl
  obtain⟨mc,oy,QJ⟩:∃mc,eW dG mc pv/\∀{u:Option Fl}{ss:dw},aE (Fi (N+1)) [some row,some (.ref 0),some (.ref 6),some (.int (ge pv)),some (.int x),some (.int q)] (cp dG mc) ss=u ->
   aE (Fi (N+1)) [some row,some (.ref 0),some (.ref 6),some (.int (ge pv)),some (.int x),some (.int q)] (cp dG ne) (.cons (.ife (.and (.cons (.cmp .GtE (.var 5) (.c (.int 0))) (.cons (.cmp .GtE (.var 3) (.c (.int 0))) (.cons (.cmp .NotEq (.var 5) (.var 3)) (.cons (.cmp .NotIn (.var 5) (.idx (.var 2) (.var 3))) .nil))))) (.cons (.app (.idx (.var 2) (.var 3)) (.var 5)) (.cons (.app (.idx (.var 2) (.var 5)) (.var 3)) .nil)) .nil) ss)=u:=by
   induction hpv:pv using ae with
   |none =>
    refine aN ne (hpv▸jh) (λhu=>du (kV (iE (u9 rfl) (nT ?_))) bH hu);exact(yd (x:=-1) (ag rfl) (bK (i:=0))).trans rfl
   |some p =>
    have hp:=jh.pv p hpv;subst hpv;have gp:∀{σ:aA},ev (Fi (N+1)) σ [some row,some (.ref 0),some (.ref 6),some (.int (ge (some p))),some (.int x),some (.int q)] (.cmp .GtE (.var 3) (.c (.int 0)))=some (.bool true):=by
     intro σ;refine(yd (x:=(p:Int)) (ag rfl) (bK (i:=0))).trans ?_;refine aa (decide_eq_true (Zi p)) ?_;rfl
    have Qy:nt[p]?=some (.ref (p+1)):=by
     have:p=0\/p=1\/p=2\/p=3\/p=4:=by lia
     rcases this with rfl|rfl|rfl|rfl|rfl<;>rfl
    have Qz:nt[q]?=some (.ref (q+1)):=by
     have:q=0\/q=1\/q=2\/q=3\/q=4:=by lia
     rcases this with rfl|rfl|rfl|rfl|rfl<;>rfl
    have FW:∀{ne2:List (List Nat)},ne2.length=5->ev (Fi (N+1)) (cp dG ne2) [some row,some (.ref 0),some (.ref 6),some (.int (ge (some p))),some (.int x),some (.int q)] (.idx (.var 2) (.var 3))=some (.ref (p+1)):=λh2 =>
     uR (j:=6) (k:=p) (ag rfl) (ag rfl) (Bc h2) Qy (by decide)
    have Rs:∀{ne2:List (List Nat)},ne2.length=5->ev (Fi (N+1)) (cp dG ne2) [some row,some (.ref 0),some (.ref 6),some (.int (ge (some p))),some (.int x),some (.int q)] (.idx (.var 2) (.var 5))=some (.ref (q+1)):=λh2 =>
     uR (j:=6) (k:=q) (ag rfl) (ag rfl) (Bc h2) Qz (by decide)
    by_cases hqp:q=p
    ·refine aN ne jh (λhu=>du (kV (iE (u9 rfl) (iE gp (nT ?_)))) bH hu);refine(yg (x:=q) (y:=p) (ag rfl) (ag rfl)).trans ?_;refine aa (decide_eq_true (by simp[*])) ?_;rfl
    have GU:∀{σ:aA},ev (Fi (N+1)) σ [some row,some (.ref 0),some (.ref 6),some (.int (ge (some p))),some (.int x),some (.int q)] (.cmp .NotEq (.var 5) (.var 3))=some (.bool true):=by
     intro σ;refine(yg (x:=q) (y:=p) (ag rfl) (ag rfl)).trans ?_;refine aa (decide_eq_false (IE hqp)) ?_;rfl
    have OT:(cp dG ne)[p+1]?=some (.list (bC ((ne.getD p []).map Z5))):=by
     refine aa (wx aO (bf hp vA)) ?_;refine aa (qG _) ?_;rfl
    have GV:ev (Fi (N+1)) (cp dG ne) [some row,some (.ref 0),some (.ref 6),some (.int (ge (some p))),some (.int x),some (.int q)] (.cmp .NotIn (.var 5) (.idx (.var 2) (.var 3)))=some (.bool (!decide (q∈ne.getD p []))):=by
     refine(yi (x:=q) (ag rfl) (FW aO) OT).trans ?_;refine congrArg (λb=>some (AV.bool (!b))) (decide_eq_decide.mpr ?_);rw[Zn];constructor
     ·rintro⟨y,hy,e⟩;have:y=q:=by simp only[Int.ofNat_eq_natCast]at e;lia
      refine rwj this ?_;exact hy
     ·intro hy;exact aN q hy rfl
    by_cases eR:q∈ne.getD p []
    ·refine aN ne jh (λhu=>du (kV (iE (u9 rfl) (iE gp (iE GU (nT ?_))))) bH hu);refine aa GV ?_;refine aa (decide_eq_true eR) ?_;rfl
    ·refine aN ((ne.set p (ne.getD p []++[q])).set q (ne.getD q []++[p])) (jh.wire hp Fy hqp eR) (λhu=>?_);refine mO (an:=cp dG ((ne.set p (ne.getD p []++[q])).set q (ne.getD q []++[p]))) (kV (iE (u9 rfl) (iE gp (iE GU (iE ?_ C8))))) ?_ hu
     ·refine aa GV ?_;refine aa (decide_eq_false eR) ?_;rfl
     have l1:=jh.le2 p;have l2:=jh.le2 q;refine qb (i:=p+1) (v:=.int q) (FW aO) (ag rfl) (wx aO (bf hp vA)) (by refine aa (Y0 _) ?_;exact bw l1 rfl) (λj=>by simp) ?_;have e1:aq (ne.getD p [])++[AV.int q]=aq (ne.getD p []++[q]):=by unfold aq;refine aa ZS ?_;rfl
     refine aa e1 ?_;refine aa (HR aO (by lia)) ?_;have zu:(ne.set p (ne.getD p []++[q])).length=5:=by refine aa jbL ?_;exact aO
     have e2:(ne.set p (ne.getD p []++[q])).getD q []=ne.getD q []:=by rewrite [yV];refine aa (if_neg (λc=>hqp c.1.symm)) ?_;rfl
     have sg:=wx (nm:=dG) zu (p:=q) (by lia);rw[e2]at sg;refine qb (i:=q+1) (v:=.int p) (Rs zu) (ag rfl) sg (by refine aa (Y0 _) ?_;exact bw l2 rfl) (λj=>by simp) ?_;have e3:aq (ne.getD q [])++[AV.int p]=aq (ne.getD q []++[p]):=by unfold aq;refine aa ZS ?_;rfl
     refine aa e3 ?_;refine aa (HR zu (by lia)) ?_;exact bH
  refine z0 dG mc (some q) (some (.int q)) ?_ (oy.pv' (λp hp=>by cases hp;exact Fy)) (λY=>ji);refine du (c0 rfl) bH (cM (aT TK (QJ (aT (v:=.int q) (ag rfl) bH))))
 ·refine z0 nm ne none (some (.int (-1))) ?_ (h.pv' (λp hp=>by cases hp)) (λhh=>hh.resolve_right qj);have gf:∀{ρ:aB}{σ:aA},ρ[4]?=some (some (.int x))->ev (Fi (N+1)) σ ρ (.cmp .Gt (.var 4) (.c (.int 255)))=some (.bool false):=λh4=>by
   refine aa (ye (ag h4) (bK (i:=255))) ?_;refine aa (decide_eq_false (qj)) ?_;rfl
  refine du (c0 rfl) bH (du (kV (nT (gf rfl))) bH (aT (v:=.int (-1)) (pT (gf rfl) rfl) (du (kV (nT rfl)) bH (aT (v:=.int (-1)) (ag rfl) bH))))
structure iw (ac:List (List Nat)):Prop where
 pos:1<=ac.length
 le:ac.length<=5
 sym:∀i,∀j∈ac.getD i [],j<ac.length/\j≠i/\i∈ac.getD j []
 nd:∀i,(ac.getD i []).Nodup
abbrev b9 (ac:List (List Nat)):AV:=.lst (ac.map λl=>.lst (aq l))
theorem yW {α:Type}(l:List α)(n i:Nat)(d:α):(l.take n).getD i d=if i<n then l.getD i d else d:=by
 refine aa Y8 ?_;refine aa List.getElem?_take ?_;refine aa Y8 ?_;split<;>rfl
theorem eW.graph {pv:Option Nat}(h:eW nm ne pv)(hn:nm≠[]):iw (ne.take nm.length):=by
 have aU:=h.le;have hl:(ne.take nm.length).length=nm.length:=by rw[jbD,h.len];simp[*]
 refine⟨by rw[hl];exact jfe.mpr hn,wL hl aU,λi j hj=>?_,λi=>?_⟩
 ·rw[yW]at hj;split at hj
  ·have:=h.sym i j hj;rw[hl,yW,if_pos this.1];exact⟨this.1,this.2.2⟩
  ·cases hj
 ·rw[yW];split
  ·exact h.ndp i
  ·exact jaR
theorem oJ {α β:Type}{f:α->Option β}{g:α->β}:∀l:List α,(∀a∈l,f a=some (g a))->bj f l=some (l.map g)
 | [],_=>rfl
 |a::l,h=>by
  rw[gO,h a (by simp)];simp only[oJ (f:=f) (g:=g) l (λb hb=>h b (by simp[hb]))];rfl
theorem Tu {nm:List Int}{ne:List (List Nat)}(h:ne.length=5)(n:Nat)(k:Nat):aZ (cp nm ne) (k+3) (.lst (nt.take n))=some (b9 (ne.take n)):=by
 have hf:∀p,p<5->aZ (cp nm ne) (k+2) (.ref (p+1))=some (.lst (aq (ne.getD p []))):=λp hp=>by
  rw[yR,wx h hp];show(bj _ _).map AV.lst=_;rw[qg k];rfl
 obtain⟨a,b,c,d,e,rfl⟩:∃a b c d e,ne=[a,b,c,d,e]:=by
  refine dW (jaD h) ?_;rintro a l rfl;refine dW (jaD (Z4 h)) ?_;rintro b l rfl;refine dW (jaD (Z4 (Z4 h))) ?_;rintro c l rfl;refine dW (jaD (Z4 (Z4 (Z4 h)))) ?_;rintro d l rfl;refine dW (jaD (Z4 (Z4 (Z4 (Z4 h))))) ?_;rintro e l rfl;have:=Z3.mp (Z4 (Z4 (Z4 (Z4 (Z4 h)))));subst this;exact z8 a b c d e rfl
 have h0:=hf 0 (by decide);have h1:=hf 1 (by decide);have h2:=hf 2 (by decide);have h3:=hf 3 (by decide);have h4:=hf 4 (by decide);have gx:bj (aZ (cp nm [a,b,c,d,e]) (k+2)) (nt.take n)=some (([a,b,c,d,e].take n).map λl=>.lst (aq l)):=by
  have e5:nt=(Y7 5).map λp=>AV.ref (p+1):=rfl;have e6:[a,b,c,d,e]=(Y7 5).map λp=>[a,b,c,d,e].getD p []:=rfl;have:=oJ (f:=λp=>aZ (cp nm [a,b,c,d,e]) (k+2) (.ref (p+1))) (g:=λp=>AV.lst (aq ([a,b,c,d,e].getD p []))) ((Y7 5).take n) (λp hp=>hf p (ZI.mp (jeN hp)));have hm:∀{α β γ:Type} (f:β->Option γ) (g:α->β) (l:List α),bj f (l.map g)=bj (λa=>f (g a)) l:=λf g l=>by
   induction l with
   |nil=>rfl
   |cons a l ih=>rw[ZC,gO,gO,ih]
  rw[e5,<-jgU,hm,this]
  conv=>rhs;rw[e6,<-jgU,ZJ]
  rfl
 rw[OE,gx];rfl
theorem M2 (h1:ev Φ σ ρ a=some (.ref j))(h3:σ[j]?=some (.list l))(hl:l.length<=100000):ev Φ σ ρ (.call .len (.cons a .nil))=some (.int (l.length:Nat)):=by
 refine dK (cT h1) ?_;show rR σ [.ref j]=_;unfold rR;simp only[aQ,h3,fL];rw[if_pos hl]
theorem NJ (xs:List Int)(hx:∀x∈xs,256<=x->x<261)(he:∃x∈xs,256<=x):∃ac,iw ac/\Fi (N+2) 16 [.lst (bC xs)]=some (b9 ac):=by
 have h0:eW [] [[],[],[],[],[]] none:=by
  have e:∀i,([[],[],[],[],[]]:List (List Nat)).getD i []=[]:=λi=>by
   refine aa Y8 ?_;by_cases h:i<5
   ·have:i=0\/i=1\/i=2\/i=3\/i=4:=XX h;rcases this with rfl|rfl|rfl|rfl|rfl<;>rfl
   ·refine aa (jci (by simp;exact q6 h)) ?_;rfl
  refine⟨by simp,jaR,rfl,λp hp=>by(cases hp),λi j hj=>?_,λi=>?_⟩
  ·rw[e]at hj;cases hj
  ·refine aa (e _) ?_;exact jaR
 obtain⟨av,an,hf,nm,ne,pv,x4,k,rfl,rfl,bY,cV⟩:=sx (f:=λρ σ v=>aE (Fi (N+1)) (ρ.set 4 (some v)) σ GQ) (g:=AV.int)
  (I:=λpre ρ σ=>∃nm ne pv x4 k,ρ=[some (.lst (bC xs)),some (.ref 0),some (.ref 6),some (.int (ge pv)),x4,k]/\σ=cp nm ne/\eW nm ne pv/\((∃x∈pre,256<=x)->nm≠[])) xs [] [some (.lst (bC xs)),some (.ref 0),some (.ref 6),some (.int (-1)),none,none] (cp [] [[],[],[],[],[]])
  ⟨[],_,none,none,none,rfl,rfl,h0,by simp⟩ (by
   rintro p x q ρ σ e ⟨nm,ne,pv,x4,k,rfl,rfl,bY,cV⟩;have Q4:x∈xs:=by
    have e:xs=p++x::q:=e;refine aa e ?_;simp
   refine kf (Tv (N:=N) (row:=.lst (bC xs)) (k:=k) bY (hx x Q4)) λdG mc pv' k' h1 h2 h3=>?_;refine⟨_,_,h1,dG,mc,pv',_,k',rfl,rfl,h2,?_⟩;rintro⟨y,hy,FP⟩;rw[ZE,Zq]at hy;rcases hy with hy|rfl
   ·exact h3 (jcu (cV ⟨y,hy,FP⟩))
   ·exact h3 (jfw FP))
 refine aN (ne.take nm.length) (bY.graph (cV he)) (fB Ok rfl ?_);show aE (Fi (N+1)) ([some (.lst (bC xs))]++Zh 5 none) [] yA.body=_;refine mN (vs:=[.ref 0,.ref 6,.int (-1)]) (an:=cp [] [[],[],[],[],[]]) (x7 (an:=[.list []]) rfl (x7 (an:=cp [] [[],[],[],[],[]]) rfl (gI rfl mI))) rfl ?_;refine kY (vs:=bC xs) rfl hf ?_;have hl:ev (Fi (N+1)) (cp nm ne) [some (.lst (bC xs)),some (.ref 0),some (.ref 6),some (.int (ge pv)),x4,k] (.call .len (.cons (.var 1) .nil))=some (.int (nm.length:Nat)):=by
  have:=M2 (Φ:=Fi (N+1)) (σ:=cp nm ne) (ρ:=[some (.lst (bC xs)),some (.ref 0),some (.ref 6),some (.int (ge pv)),x4,k]) (a:=.var 1) (j:=0) (l:=bC nm) (ag rfl) rfl (by refine aa (Y0 _) ?_;have:=bY.le;exact bw this rfl)
  rwa [Y0]at this
 refine dX (v:=.lst (nt.take nm.length)) ?_ (Tu bY.len nm.length 3);have hn:fG (Fi (N+1)) (cp nm ne) [some (.lst (bC xs)),some (.ref 0),some (.ref 6),some (.int (ge pv)),x4,k] .none=some none:=rfl;have hs:fG (Fi (N+1)) (cp nm ne) [some (.lst (bC xs)),some (.ref 0),some (.ref 6),some (.int (ge pv)),x4,k] (.some (.call .len (.cons (.var 1) .nil)))=some (some (nm.length:Int)):=by rw[pQ,hl]
 rw[pX];have hv:ev (Fi (N+1)) (cp nm ne) [some (.lst (bC xs)),some (.ref 0),some (.ref 6),some (.int (ge pv)),x4,k] (.var 2)=some (.ref 6):=ag rfl;simp only[hv,hn,hs];unfold qQ;dsimp only;refine aa (if_pos (Zi nm.length)) ?_;unfold md;simp only[aQ,Bc bY.len,ZB];refine aa (if_pos (by decide)) ?_;rfl
abbrev F:=UInt64
def nj (x y z:F):F:=(if gK z (if gK y x then y else x)then z else(if gK y x then y else x))
def ni (x y z:F):F:=(if gL z (if gL y x then y else x)then z else(if gL y x then y else x))
def bO (x y:F):Bool:=jac x y==some .eq
def u6 (x y:F):Bool:=jac x y==some .lt||jac x y==some .eq
def two:F:=4611686018427387904
def Ec:F:=4616189618054758400
def ly:F:=4618441417868443648
def one:F:=4607182418800017408
def sJ:F:=4602678819172646912
def qL (r g mx rc gc bc:F):F:=if bO r mx then ZF bc gc else if bO g mx then ZF (Z8 two rc) bc else ZF (Z8 Ec gc) rc
def sY (h:F):F:=(jdB (jab h ly) one).2
def vL (r g b mx d:F):F:=sY (qL r g mx (jab (ZF mx r) d) (jab (ZF mx g) d) (jab (ZF mx b) d))
section
theorem jD (h1:ev Φ σ ρ a=some (.flt x))(h2:ev Φ σ ρ b=some (.flt y))(hz:Z7 y=false):ev Φ σ ρ (.bin .Div a b)=some (.flt (jab x y)):=by
 refine cb h1 h2 ?_;show(if Z7 y=true then none else some (AV.flt (jab x y)))=_;rw[if_neg (by rw[hz];decide)]
theorem M3 (h1:ev Φ σ ρ a=some (.flt x))(h2:ev Φ σ ρ b=some (.flt y))(hz:Z7 y=false):ev Φ σ ρ (.bin .Mod a b)=some (.flt (jdB x y).2):=by
 refine cb h1 h2 ?_;show(if Z7 y=true then none else some (AV.flt (jdB x y).2))=_;rw[if_neg (by rw[hz];decide)]
theorem g9 (h1:ev Φ σ ρ a=some (.flt x))(h2:ev Φ σ ρ b=some (.flt y)):ev Φ σ ρ (.bin .Sub a b)=some (.flt (ZF x y)):=cb h1 h2 rfl
theorem x8 (h1:ev Φ σ ρ a=some (.flt x))(h2:ev Φ σ ρ b=some (.flt y)):ev Φ σ ρ (.bin .Add a b)=some (.flt (Z8 x y)):=cb h1 h2 rfl
theorem n0 (h1:ev Φ σ ρ a=some (.flt x))(h2:ev Φ σ ρ b=some (.flt y)):ev Φ σ ρ (.bin .Mult a b)=some (.flt (jaF x y)):=cb h1 h2 rfl
theorem gu:ev Φ σ ρ (.c (.float x))=some (.flt x):=by rw[Ds];rfl
theorem j' (h1:ev Φ σ ρ a=some (.flt x))(h2:ev Φ σ ρ b=some (.flt y))(hx:bO x x=true):ev Φ σ ρ (.cmp .Eq a b)=some (.bool (bO x y)):=by
 refine cK h1 h2 ?_;show(if(jac x x==some .eq)=true then some (jac x y==some .eq)else none)=_;exact if_pos hx
theorem Dn (h1:ev Φ σ ρ a=some (.flt x))(h2:ev Φ σ ρ b=some (.flt y)):ev Φ σ ρ (.cmp .LtE a b)=some (.bool (u6 x y)):=cK h1 h2 rfl
end
theorem ID:Z7 two=false:=by decide +kernel
theorem XR:Z7 ly=false:=by decide +kernel
theorem XQ:Z7 one=false:=by decide +kernel
theorem FM (hr:bO r r=true)(hg:bO g g=true)(hx:pre.length=x)(h1:pre[iR]?=some (some (.flt r)))(h2:pre[iG]?=some (some (.flt g)))(h3:pre[iM]?=some (some (.flt mx)))(h4:pre[ia]?=some (some (.flt rc)))(h5:pre[ib]?=some (some (.flt gc)))(h6:pre[ic]?=some (some (.flt bc)))(hu:aE Φ (pre++[some (.flt (sY (qL r g mx rc gc bc)))]) [] ss=u):
 aE Φ (pre++[v0]) [] (.cons (.ife (.cmp .Eq (.var iR) (.var iM))
 (.cons (.asg x false (.bin .Sub (.var ic) (.var ib)))
 .nil)
 (.cons (.ife (.cmp .Eq (.var iG) (.var iM))
  (.cons (.asg x false (.bin .Sub (.bin .Add (.c (.float 4611686018427387904)) (.var ia)) (.var ic)))
  .nil)
  (.cons (.asg x false (.bin .Sub (.bin .Add (.c (.float 4616189618054758400)) (.var ib)) (.var ia)))
  .nil))
 .nil))
 (.cons (.asg x false (.bin .Mod (.bin .Div (.var x) (.c (.float 4618441417868443648))) (.c (.float 4607182418800017408)))) ss))=u:=by
 have gt:∀{i:Nat}{w:Option AV}{a:AV},pre[i]?=some (some a)->(pre++[w])[i]?=some (some a):=λ{i w a} h=>by
  refine aa (Zt (ZA.mp h).1) ?_;exact h
 have st:∀{w w':Option AV},(pre++[w]).set x w'=pre++[w']:=λ{w w'}=>by
  refine rwj hx ?_;refine aa jcc ?_;refine aa (if_neg (Zr pre.length)) ?_;refine aa (jaA _) ?_;rfl
 have lm:∀{h:F},aE Φ (pre++[some (.flt (sY h))]) [] ss=u->aE Φ (pre++[some (.flt h)]) [] (.cons (.asg x false (.bin .Mod (.bin .Div (.var x) (.c (.float 4618441417868443648))) (.c (.float 4607182418800017408)))) ss)=u:=λ{h} hh=>by
  refine aT (v:=.flt (sY h)) (M3 (jD (ag ?_) gu XR) gu XQ) (by refine aa st ?_;exact hh);refine aa (Zg (ZK hx)) ?_;refine rwj hx ?_;refine aa (jaA _) ?_;rfl
 by_cases c1:bO r mx=true
 ·refine mO (av:=pre++[some (.flt (ZF bc gc))]) (an:=[]) ((j' (ag (gt h1)) (ag (gt h3)) hr).trans (by refine aa c1 ?_;rfl)) (aT (g9 (ag (gt h6)) (ag (gt h5))) (by refine aa st ?_;exact bH)) (lm ?_);refine rwj hu ?_;unfold qL;refine aa (if_pos c1) ?_;rfl
 ·have Ce:bO r mx=false:=by simpa using c1
  by_cases c2:bO g mx=true
  ·refine du (av:=pre++[some (.flt (ZF (Z8 two rc) bc))]) (an:=[]) ((j' (ag (gt h1)) (ag (gt h3)) hr).trans (by refine aa Ce ?_;rfl)) (mO ((j' (ag (gt h2)) (ag (gt h3)) hg).trans (by refine aa c2 ?_;rfl)) (aT (g9 (x8 gu (ag (gt h4))) (ag (gt h6))) (by refine aa st ?_;exact bH)) bH) (lm ?_);refine rwj hu ?_;unfold qL;refine aa (if_neg c1) ?_;refine aa (if_pos c2) ?_;rfl
  ·have J':bO g mx=false:=by simpa using c2
   refine du (av:=pre++[some (.flt (ZF (Z8 Ec gc) rc))]) (an:=[]) ((j' (ag (gt h1)) (ag (gt h3)) hr).trans (by refine aa Ce ?_;rfl)) (du ((j' (ag (gt h2)) (ag (gt h3)) hg).trans (by refine aa J' ?_;rfl)) (aT (g9 (x8 gu (ag (gt h5))) (ag (gt h4))) (by refine aa st ?_;exact bH)) bH) (lm ?_);refine rwj hu ?_;unfold qL;refine aa (if_neg c1) ?_;refine aa (if_neg c2) ?_;rfl
structure wP (r g b mx mn d:F):Prop where
 emx:nj r g b=mx
 emn:ni r g b=mn
 ed:ZF mx mn=d
 hr:bO r r=true
 hg:bO g g=true
 m:bO mn mn=true
 ne:bO mn mx=false
 zd:Z7 d=false
 zm:Z7 mx=false
theorem NR (c:wP r g b mx mn d):Fi (N+1) 6 [.flt r,.flt g,.flt b]=some (.tup [.flt (vL r g b mx d),.flt (jab d mx),.flt mx]):=by
 refine fB D6 rfl ?_;show aE (Fi N) ([some (.flt r),some (.flt g),some (.flt b)]++Zh 9 none) [] f6.body=_;refine aT (v:=.flt mx) (c.emx▸rfl) (aT (v:=.flt mn) (c.emn▸rfl) (aT (v:=.flt d) (c.ed▸rfl) (aT (v:=.flt mx) (ag rfl) ?_)));refine du ((j' (ag rfl) (ag rfl) c.m).trans (by rw[c.ne])) bH ?_;refine aT (jD (ag rfl) (ag rfl) c.zm) (aT (jD (g9 (ag rfl) (ag rfl)) (ag rfl) c.zd) (aT (jD (g9 (ag rfl) (ag rfl)) (ag rfl) c.zd) (aT (jD (g9 (ag rfl) (ag rfl)) (ag rfl) c.zd) ?_)));refine FM (pre:=[some (.flt r),some (.flt g),some (.flt b),some (.flt mx),some (.flt mn),some (.flt d),some (.flt mx),some (.flt (jab d mx)),some (.flt (jab (ZF mx r) d)),some (.flt (jab (ZF mx g) d)),some (.flt (jab (ZF mx b) d))]) c.hr c.hg rfl rfl rfl rfl rfl rfl rfl ?_;exact dX rfl rfl
def iT (mx mn:F):F:=jab (Z8 mx mn) two
def qO (mx mn d:F):F:=if u6 (iT mx mn) sJ then jab d (Z8 mx mn)else jab d (ZF (ZF two mx) mn)
theorem NP (c:wP r g b mx mn d)(z1:Z7 (Z8 mx mn)=false)(z2:Z7 (ZF (ZF two mx) mn)=false):
 Fi (N+1) 5 [.flt r,.flt g,.flt b]=some (.tup [.flt (vL r g b mx d),.flt (iT mx mn),.flt (qO mx mn d)]):=by
 refine fB D5 rfl ?_;show aE (Fi N) ([some (.flt r),some (.flt g),some (.flt b)]++Zh 10 none) [] f5.body=_;refine aT (v:=.flt mx) (c.emx▸rfl) (aT (v:=.flt mn) (c.emn▸rfl) (aT (v:=.flt (Z8 mx mn)) rfl (aT (v:=.flt d) (c.ed▸rfl) (aT (v:=.flt (iT mx mn)) (jD (ag rfl) gu ID) ?_))));refine du ((j' (ag rfl) (ag rfl) c.m).trans (by refine aa c.ne ?_;rfl)) bH ?_;have hs:∀{ss:dw}{u:Option Fl}{w1 w2 w3 w4 w5:Option AV},aE (Fi N) [some (.flt r),some (.flt g),some (.flt b),some (.flt mx),some (.flt mn),some (.flt (Z8 mx mn)),some (.flt d),some (.flt (iT mx mn)),some (.flt (qO mx mn d)),w2,w3,w4,w5] [] ss=u ->
  aE (Fi N) [some (.flt r),some (.flt g),some (.flt b),some (.flt mx),some (.flt mn),some (.flt (Z8 mx mn)),some (.flt d),some (.flt (iT mx mn)),w1,w2,w3,w4,w5] [] (.cons (.ife (.cmp .LtE (.var 7) (.c (.float 4602678819172646912)))
  (.cons (.asg 8 false (.bin .Div (.var 6) (.var 5)))
  .nil)
  (.cons (.asg 8 false (.bin .Div (.var 6) (.bin .Sub (.bin .Sub (.c (.float 4611686018427387904)) (.var 3)) (.var 4))))
  .nil)) ss)=u:=by
  intro ss u w1 w2 w3 w4 w5 hu;by_cases h:u6 (iT mx mn) sJ=true
  ·refine mO ((Dn (x:=iT mx mn) (y:=sJ) (ag rfl) gu).trans (by refine aa h ?_;rfl)) (aT (jD (ag rfl) (ag rfl) z1) bH) ?_;refine rwj hu ?_;unfold qO;refine aa (if_pos h) ?_;rfl
  ·have h':u6 (iT mx mn) sJ=false:=by simpa using h
   refine du ((Dn (x:=iT mx mn) (y:=sJ) (ag rfl) gu).trans (by refine aa h' ?_;rfl)) (aT (jD (ag rfl) (g9 (g9 gu (ag rfl)) (ag rfl)) z2) bH) ?_;refine rwj hu ?_;unfold qO;refine aa (if_neg h) ?_;rfl
 refine hs ?_;refine aT (jD (g9 (ag rfl) (ag rfl)) (ag rfl) c.zd) (aT (jD (g9 (ag rfl) (ag rfl)) (ag rfl) c.zd) (aT (jD (g9 (ag rfl) (ag rfl)) (ag rfl) c.zd) ?_));refine FM (pre:=[some (.flt r),some (.flt g),some (.flt b),some (.flt mx),some (.flt mn),some (.flt (Z8 mx mn)),some (.flt d),some (.flt (iT mx mn)),some (.flt (qO mx mn d)),some (.flt (jab (ZF mx r) d)),some (.flt (jab (ZF mx g) d)),some (.flt (jab (ZF mx b) d))]) c.hr c.hg rfl rfl rfl rfl rfl rfl rfl ?_;exact dX rfl rfl
def td (x:F):Option Int:=match jcp x with
 | .fin jS m e=>some (jes jS m e)
 |_=>none
def A5 (i:Nat)(v p q t:F):F×F×F:=if i=0 then(v,t,p)else if i=1 then(q,v,p)else if i=2 then(p,v,t)else if i=3 then(p,q,v)else if i=4 then(t,p,v)else(v,p,q)
def pF (s v:F):F:=jaF v (ZF one s)
def qF (s v f:F):F:=jaF v (ZF one (jaF s f))
def tF (s v f:F):F:=jaF v (ZF one (jaF s (ZF one f)))
def Vo (x:F×F×F):AV:=.tup [.flt x.1,.flt x.2.1,.flt x.2.2]
def BA:F:=0
theorem NT {N:Nat}{h s v f:F}{i:Nat}(hs:bO s s=true)(hz:bO s BA=false)(hi:td (jaF h ly)=some (i:Int))(PX:i<1000)(hf:ZF (jaF h ly) (jaQ (i:Int))=f):
 Fi (N+1) 7 [.flt h,.flt s,.flt v]=some (Vo (A5 (i%6) v (pF s v) (qF s v f) (tF s v f))):=by
 refine fB D7 rfl ?_;show aE (Fi N) ([some (.flt h),some (.flt s),some (.flt v)]++Zh 5 none) [] f7.body=_;refine du ((j' (y:=BA) (ag rfl) gu hs).trans (by rw[hz])) bH ?_;refine aT (v:=.int i) (dK (cT (n0 (ag rfl) gu)) ?_) ?_
 ·show rQ [.flt (jaF h ly)]=_;unfold rQ;unfold td at hi;cases hD:jcp (jaF h ly)with
  |fin jS m e =>
   rw[hD]at hi;simp only[jdt]at hi;simp only[hD,hi]
  |nan=>rw[hD]at hi;cases hi
  |inf s=>rw[hD]at hi;cases hi
 refine aT (v:=.flt f) (cb (n0 (ag rfl) gu) (ag rfl) ?_) ?_
 ·have y0:hJ (i:Int)=true:=by
   unfold hJ;rw[ZR];exact decide_eq_true (bw PX rfl)
  show(if hJ (i:Int)=true then some (AV.flt (ZF (jaF h ly) (jaQ (i:Int))))else none)=_;rw[if_pos y0,hf]
 refine aT (v:=.flt (pF s v)) (n0 (ag rfl) (g9 gu (ag rfl))) ?_;refine aT (v:=.flt (qF s v f)) (n0 (ag rfl) (g9 gu (n0 (ag rfl) (ag rfl)))) ?_;refine aT (v:=.flt (tF s v f)) (n0 (ag rfl) (g9 gu (n0 (ag rfl) (g9 gu (ag rfl))))) ?_;refine aT (v:=.int ((i%6:Nat):Int)) (dV (y:=6) (ag rfl) aR (by decide)) ?_;have hj:i%6<6:=ZL _ (by decide);generalize i%6=j at *;have no:∀{c:Nat}{σ:aA}{ρ:aB},ρ[3]?=some (some (.int (j:Int)))->j≠c->ev (Fi N) σ ρ (.cmp .Eq (.var 3) (.c (.int (c:Int))))=some (.bool false):=λh3 hc=>(pS (ag h3) aR).trans (by rw[decide_eq_false hc]);have qY:∀{c:Nat}{σ:aA}{ρ:aB},ρ[3]?=some (some (.int (j:Int)))->j=c->ev (Fi N) σ ρ (.cmp .Eq (.var 3) (.c (.int (c:Int))))=some (.bool true):=λh3 hc=>(pS (ag h3) aR).trans (by rw[decide_eq_true hc]);by_cases c0:j=0
 ·refine(jG (qY (c:=0) rfl c0) (dX rfl rfl)).trans ?_;subst c0;rfl
 refine du (no (c:=0) rfl c0) bH ?_;by_cases c1:j=1
 ·refine(jG (qY (c:=1) rfl c1) (dX rfl rfl)).trans ?_;subst c1;rfl
 refine du (no (c:=1) rfl c1) bH ?_;by_cases c2:j=2
 ·refine(jG (qY (c:=2) rfl c2) (dX rfl rfl)).trans ?_;subst c2;rfl
 refine du (no (c:=2) rfl c2) bH ?_;by_cases c3:j=3
 ·refine(jG (qY (c:=3) rfl c3) (dX rfl rfl)).trans ?_;subst c3;rfl
 refine du (no (c:=3) rfl c3) bH ?_;by_cases c4:j=4
 ·refine(jG (qY (c:=4) rfl c4) (dX rfl rfl)).trans ?_;subst c4;rfl
 refine du (no (c:=4) rfl c4) bH ?_;have c5:j=5:=by lia
 refine(jG (qY (c:=5) rfl c5) (dX rfl rfl)).trans ?_;subst c5;rfl
def dY {β:Type}(n:Nat)(k:Nat->β):β:=match n with
 |0=>k 0
 |n+1=>k (n+1)
theorem kg {β:Type}(n:Nat)(k:Nat->β):dY n k=k n:=by cases n<;>rfl
def fH {β:Type}(x:UInt64)(k:UInt64->β):β:=dY x.toNat λn=>k (UInt64.ofNat n)
theorem qe {β:Type}(x:UInt64)(k:UInt64->β):fH x k=k x:=by
 unfold fH;rw[kg]
 congr 1
 exact UInt64.ofNat_toNat
def mH (x y:F):Bool:=x.toNat==y.toNat
theorem nS (h:mH x y=true):x=y:=UInt64.toNat_inj.mp (eq_of_beq h)
def bT (a:Nat):F:=Z9 false a 64
def qB (a:Nat):F:=Z9 false a 4
def qD (sh va:Nat):F:=Z9 false (va*(8-sh)) 32
def qN (sh va:Nat):F:=Z9 false (sh*va) (min (va*(8-sh)) (32-va*(8-sh)))
def pt (k a:Nat):Bool:=fH (jaF (Z8 (jaQ (k:Int)) (bT a)) ly) λm=>(match td m with|some i=>i==((6*k+6*a/64:Nat):Int)|none=>false)&&mH (ZF m (jaQ ((6*k+6*a/64:Nat):Int))) (bT (6*a%64))
def zR (r g b mx d:F):F:=fH (jab (ZF mx r) d) λrc=>fH (jab (ZF mx g) d) λgc=>fH (jab (ZF mx b) d) λbc=>fH (qL r g mx rc gc bc) λh=>sY h
theorem QT (r g b mx d:F):zR r g b mx d=vL r g b mx d:=by
 unfold zR vL;simp only[qe]
def uL (a sh va:Nat):Bool:=fH (qB sh) λs=>fH (qB va) λv=>fH (bT (6*a%64)) λf=>fH (pF s v) λp=>fH (qF s v f) λq=>fH (tF s v f) λt =>
 match A5 (6*a/64%6) v p q t with
 |(r,g,b)=>fH (nj r g b) λmx=>fH (ni r g b) λmn=>fH (ZF mx mn) λd =>
  bO s s&&!bO s BA&&bO r r&&bO g g&&bO mn mn&&!bO mn mx&&!Z7 d&&!Z7 mx&&!Z7 (Z8 mx mn)&&!Z7 (ZF (ZF two mx) mn) &&
  mH (zR r g b mx d) (bT a)&&mH (jab d mx) (qB sh)&&mH mx (qB va)&&mH (iT mx mn) (qD sh va)&&mH (qO mx mn d) (qN sh va)
def kP (a n:Nat):Bool:=(ZT a n).all λa=>(ZT 1 4).all λsh=>(ZT 1 4).all λva=>uL a sh va
theorem K4:kP 0 8=true:=by decide +kernel
theorem K5:kP 8 8=true:=by decide +kernel
theorem K6:kP 16 8=true:=by decide +kernel
theorem K7:kP 24 8=true:=by decide +kernel
theorem K8:kP 32 8=true:=by decide +kernel
theorem K9:kP 40 8=true:=by decide +kernel
theorem K':kP 48 8=true:=by decide +kernel
theorem La:kP 56 8=true:=by decide +kernel
theorem JG:(ZT 0 64).all (λa=>pt 0 a)=true:=by decide +kernel
theorem JH:(ZT 0 64).all (λa=>pt 1 a)=true:=by decide +kernel
theorem JI:(ZT 0 64).all (λa=>pt 2 a)=true:=by decide +kernel
theorem JJ:(ZT 0 64).all (λa=>pt 3 a)=true:=by decide +kernel
theorem Lb (ha:a<64)(h1:1<=sh)(h2:sh<=4)(h3:1<=va)(h4:va<=4):uL a sh va=true:=by
 have go:∀i,kP (8*i) 8=true->8*i<=a->a<8*i+8->uL a sh va=true:=λi h l u=>by
  have e1:=Y6.mp h a (by rw[jaS];exact⟨l,u⟩);have e2:=Y6.mp e1 sh (by rw[jaS];exact⟨h1,Zz h2 (by decide)⟩);exact Y6.mp e2 va (by rw[jaS];exact⟨h3,Zz h4 (by decide)⟩)
 have H:∀i∈Y7 8,kP (8*i) 8=true:=aS K4 (aS K5 (aS K6 (aS K7 (aS K8 (aS K9 (aS K' (aS La jA)))))));exact go _ (H _ (ZI.mpr (jeZ ha))) (Nat.mul_div_le a 8) (Nat.lt_mul_div_succ a (by decide))
theorem JK (hk:k<4)(ha:a<64):pt k a=true:=by
 have:k=0\/k=1\/k=2\/k=3:=XW hk;rcases this with rfl|rfl|rfl|rfl
 ·exact Y6.mp JG a (by rw[jaS];simp[*])
 ·exact Y6.mp JH a (by rw[jaS];simp[*])
 ·exact Y6.mp JI a (by rw[jaS];simp[*])
 ·exact Y6.mp JJ a (by rw[jaS];simp[*])
theorem Sc {N:Nat}{k a sh va:Nat}(hk:k<4)(ha:a<64)(h1:1<=sh)(h2:sh<=4)(h3:1<=va)(h4:va<=4):
 ∃r g b:F,Fi (N+1) 7 [.flt (Z8 (jaQ (k:Int)) (bT a)),.flt (qB sh),.flt (qB va)]=some (.tup [.flt r,.flt g,.flt b]) /\
  Fi (N+1) 6 [.flt r,.flt g,.flt b]=some (.tup [.flt (bT a),.flt (qB sh),.flt (qB va)]) /\
  Fi (N+1) 5 [.flt r,.flt g,.flt b]=some (.tup [.flt (bT a),.flt (qD sh va),.flt (qN sh va)]):=by
 have hb:=JK hk ha;have hc:=Lb ha h1 h2 h3 h4;unfold pt at hb;rw[qe,Zv]at hb;unfold uL at hc;simp only[qe]at hc;generalize Qx:A5 (6*a/64%6) (qB va) (pF (qB sh) (qB va)) (qF (qB sh) (qB va) (bT (6*a%64))) (tF (qB sh) (qB va) (bT (6*a%64)))=rgb at hc;obtain⟨r,g,b⟩:=rgb;simp only[Zv,jbO]at hc;refine bN hc λz1 J9=>?_;obtain⟨⟨⟨⟨⟨⟨⟨⟨⟨⟨⟨⟨⟨c1,c2⟩,c3⟩,c4⟩,c5⟩,c6⟩,c7⟩,c8⟩,c9⟩,rM⟩,pB⟩,rO⟩,rP⟩,J8⟩:=z1;have col:wP r g b (nj r g b) (ni r g b) (ZF (nj r g b) (ni r g b)):=⟨rfl,rfl,rfl,c3,c4,c5,c6,c7,c8⟩
 rw[QT]at pB;have lO:=nS pB;have mE:=nS rO;have mF:=nS rP;have LW:=nS J8;have LX:=nS J9;refine zZ r g b ?_ ?_ ?_
 ·have hi:td (jaF (Z8 (jaQ (k:Int)) (bT a)) ly)=some ((6*k+6*a/64:Nat):Int):=by
   have:=hb.1
   induction e:td (jaF (Z8 (jaQ (k:Int)) (bT a)) ly)using ae with
   |none=>rw[e]at this;cases this
   |some i=>rw[e]at this;rw[eq_of_beq this]
  have:=NT (N:=N) (v:=qB va) c1 c2 hi (by lia) (nS hb.2);rw[this,show(6*k+6*a/64)%6=6*a/64%6 by lia,Qx];rfl
 ·rw[NR col,lO,mE];rw[mF]
 ·rw[NP col c9 rM,lO,LW,LX]
section
theorem lR {a b:Ex}{x y:Nat}(h1:ev Φ σ ρ a=some (.int x))(h2:ev Φ σ ρ b=some (.int y))(hy:0<y)(hx:x<2^64):ev Φ σ ρ (.bin .Div a b)=some (.flt (Z9 false x y)):=by
 refine cb h1 h2 ?_;have e1:(decide ((x:Int)<0) != decide ((y:Int)<0))=false:=by
  rw[decide_eq_false (by simp),decide_eq_false (by simp)];rfl
 show(if(y:Int)=0\/jdW (Z9 (decide ((x:Int)<0) != decide ((y:Int)<0)) (x:Int).natAbs (y:Int).natAbs)=true then none else some (AV.flt (Z9 (decide ((x:Int)<0) != decide ((y:Int)<0)) (x:Int).natAbs (y:Int).natAbs)))=_;refine aa e1 ?_;refine aa (ZR _) ?_;refine aa (ZR _) ?_;rw[if_neg];rintro(h|h)
 ·lia
 ·exact jgP hy (bf hx (Zl (by decide) (by decide))) h
theorem Dr (h1:ev Φ σ ρ a=some x)(h2:ev Φ σ ρ b=some y)(h3:ev Φ σ ρ c=some z):ev Φ σ ρ (.tup (.cons a (.cons b (.cons c .nil))))=some (.tup [x,y,z]):=sj (gJ h1 h2 h3) (show 3<=100000 by decide)
theorem Dp (h1:ev Φ σ ρ a=some (.tup [.flt x,.flt y,.flt z]))(h2:ev Φ σ ρ b=some (.tup [.flt x,.flt y,.flt z]))(hx:bO x x=true)(hy:bO y y=true)(hz:bO z z=true):ev Φ σ ρ (.cmp .NotEq a b)=some (.bool false):=by
 refine cK h1 h2 ?_;have e0:∀u:F,bO u u=true->cJ (.flt u) (.flt u)=some true:=λu hu=>by
  show(if(jac u u==some .eq)=true then some (jac u u==some .eq)else none)=_;unfold bO at hu;refine aa hu ?_;rfl
 show(eN cJ [.flt x,.flt y,.flt z] [.flt x,.flt y,.flt z]).map (!·)=_;simp only[r8,e0 x hx,e0 y hy,e0 z hz];rfl
end
theorem sr (x y:Nat)(hy:0<y)(hx:x<2^64):bO (Z9 false x y) (Z9 false x y)=true:=by
 have h1:jdW (Z9 false x y)=false:=by
  have:=jgP (sg:=false) (n:=x) hy (bf hx (Zl (by decide) (by decide)));simpa using this
 have h2:jeP (Z9 false x y)=false:=by unfold Z9;exact PySem.W.isNaN_pack false (PySem.W.roundMag_le x y)
 unfold bO jac;unfold jdW at h1;unfold jeP at h2;cases e:jcp (Z9 false x y)with
 |nan=>rw[e]at h2;cases h2
 |inf s=>rw[e]at h1;cases h1
 |fin s m ex =>
  show(some (compare (jeQ s m ex s m ex).1 (jeQ s m ex s m ex).2.1)==some jgT)=true;have:(jeQ s m ex s m ex).1=(jeQ s m ex s m ex).2.1:=rfl;refine aa this ?_;have:∀z:Int,compare z z=jgT:=λz=>by
   refine aa (Int.compare_eq_ite_lt _ _) ?_;simp
  refine aa (this _) ?_;rfl
section
variable (A:Nat)
def dF (t:Nat):Nat:=(A%64+t%3*(1+A/64%31))%64
def ku (t:Nat):Nat:=A/1984/16^(t/3)
def mh (t:Nat):Nat:=1+ku A t%4
def oW (t:Nat):Nat:=1+ku A t/4%4
def cq (n:Nat):List AV:=(Y7 n).map λt=>.flt (bT (dF A t))
end
def Gp:dw:=match yB.body with | .cons _ (.cons (.for_ _ _ b) _)=>b|_=>.nil
theorem Sd {N:Nat}{A t:Nat}{n:AV}{c4 c5 c6 c7 c8 c9 rM pB rO rP:Option AV}(ht:t<15){row:List AV}(hr:row.length<=1000):
 ∃e4 e5 e6 e7 e8 e9 pL lO mE mF,aE (Fi (N+1)) [some (.int A),some n,some (.ref 0),some (.int t),c4,c5,c6,c7,c8,c9,rM,pB,rO,rP] [.list row] Gp =
  some (.next [some (.int A),some n,some (.ref 0),some (.int t),e4,e5,e6,e7,e8,e9,pL,lO,mE,mF] [.list (row++[.flt (bT (dF A t))])]):=by
 have QD:ku A t%4<4:=ZL _ (by decide);have QY:ku A t/4%4<4:=ZL _ (by decide);have hh:dF A t<64:=ZL _ (by decide);have zM:mh A t=1+ku A t%4:=rfl;have QZ:oW A t=1+ku A t/4%4:=rfl;have zK:mh A t<=4:=jdF (jaV QD) 1;have zS:oW A t<=4:=jdF (jaV QY) 1;refine ka (Sc (N:=N) (k:=t%4) (a:=dF A t) (sh:=mh A t) (va:=oW A t) (ZL _ (by decide)) hh (ZD 1 (ku A t%4)) zK (ZD 1 (ku A t/4%4)) zS) λr g b l7 l6 l5=>?_;have e1:8-mh A t=8-mh A t:=rfl;have Ug:16^(t/3)<2^64:=Zz (Zl (by decide) (show t/3<=4 by lia)) (by decide);have v7:oW A t*(8-mh A t)<=28:=Y1 (jbk zS (jhU (ZD 1 (ku A t%4)) 8)) (by decide);have YP:4<=oW A t*(8-mh A t):=jbk (ZD 1 (ku A t/4%4)) (jhU zK 8);have sv:mh A t*oW A t<=16:=jbk zK zS;generalize PW:ku A t=mo at *;generalize E0:mh A t=s at *;generalize Yq:oW A t=v at *;generalize PU:dF A t=h at *;refine⟨some (.int mo),some (.int s),some (.int v),some (.int ((v*(8-s):Nat):Int)),some (.flt (bT h)),some (.flt r),some (.flt g),some (.flt b),some (.tup [.flt (bT h),.flt (qB s),.flt (qB v)]),some (.tup [.flt (bT h),.flt (qD s v),.flt (qN s v)]),?_⟩;have a0:∀{x:Nat},x<64->x<2^64:=λh=>jam h (by decide);have w4:ev (Fi (N+1)) [.list row] [some (.int A),some n,some (.ref 0),some (.int t),c4,c5,c6,c7,c8,c9,rM,pB,rO,rP] (.bin .FloorDiv (.bin .FloorDiv (.var 0) (.c (.int 1984))) (.bin .Pow (.c (.int 16)) (.bin .FloorDiv (.var 3) (.c (.int 3)))))=some (.int (mo:Nat)):=by
  refine rwj PW ?_;exact jC (jC (y:=1984) (ag rfl) aR (by decide) (by decide)) (jE (x:=16) aR (jC (y:=3) (ag rfl) aR (by decide) (by decide)) (by decide) (by lia)) (by have:=jcM (n:=t/3) (show 0<16 by decide);lia) Ug
 refine aT w4 ?_;refine mN (vs:=[.int s,.int v]) (gI ?_ (gI ?_ mI)) rfl ?_
 ·refine aa zM ?_;exact iF (x:=1) aR (dV (y:=4) (ag rfl) aR (by decide))
 ·refine aa QZ ?_;exact iF (x:=1) aR (dV (y:=4) (jC (y:=4) (ag rfl) aR (by decide) (by decide)) aR (by decide))
 refine aT (v:=.int ((v*(8-s):Nat):Int)) (mK (ag rfl) (si (x:=8) aR (ag rfl) (by lia)) (jcu (a0 (by lia)))) ?_;refine aT (v:=.flt (bT h)) ?_ ?_
 ·refine lR (x:=h) (y:=64) ?_ aR (by decide) (a0 hh);refine rwj PU ?_;exact dV (y:=64) (iF (dV (y:=64) (ag rfl) aR (by decide)) (mK (dV (y:=3) (ag rfl) aR (by decide)) (iF (x:=1) aR (dV (y:=31) (jC (y:=64) (ag rfl) aR (by decide) (by decide)) aR (by decide))) (jcu (a0 (by lia))))) aR (by decide)
 refine n7 (vs:=[.flt r,.flt g,.flt b]) (cL (vs:=[.flt (Z8 (jaQ ((t%4:Nat):Int)) (bT h)),.flt (qB s),.flt (qB v)]) (gJ ?_ ?_ ?_) rfl l7) rfl ?_
 ·refine cb (dV (y:=4) (ag rfl) aR (by decide)) (ag rfl) ?_;have y0:hJ ((t%4:Nat):Int)=true:=by
   unfold hJ;refine aa (ZR _) ?_;exact decide_eq_true (by lia)
  show(if hJ ((t%4:Nat):Int)=true then _ else _)=_;refine aa (if_pos y0) ?_;rfl
 ·exact lR (y:=4) (ag rfl) aR (by decide) (a0 (by lia))
 ·exact lR (y:=4) (ag rfl) aR (by decide) (a0 (by lia))
 refine mN (vs:=[.tup [.flt (bT h),.flt (qB s),.flt (qB v)],.tup [.flt (bT h),.flt (qD s v),.flt (qN s v)]]) (gI (cL (vs:=[.flt r,.flt g,.flt b]) (gJ (ag rfl) (ag rfl) (ag rfl)) rfl l6) (gI (cL (vs:=[.flt r,.flt g,.flt b]) (gJ (ag rfl) (ag rfl) (ag rfl)) rfl l5) mI)) rfl ?_;have fh:bO (bT h) (bT h)=true:=sr _ _ (by decide) (a0 hh);refine du (uT (Dp (ag rfl) (Dr (ag rfl) (lR (y:=4) (ag rfl) aR (by decide) (a0 (by lia))) (lR (y:=4) (ag rfl) aR (by decide) (a0 (by lia)))) fh (sr _ _ (by decide) (a0 (by lia))) (sr _ _ (by decide) (a0 (by lia)))) (Dp (ag rfl) (Dr (ag rfl) (lR (y:=32) (ag rfl) aR (by decide) (a0 (by lia))) (lR (x:=s*v) (y:=min (v*(8-s)) (32-v*(8-s))) (mK (ag rfl) (ag rfl) (jcu (a0 (by lia)))) ?_ (by lia) (a0 (by lia)))) fh (sr _ _ (by decide) (a0 (by lia))) (sr _ _ (by lia) (a0 (by lia))))) bH ?_
 ·refine dK (dL (ag rfl) (si (x:=32) aR (ag rfl) (by lia))) ?_;show some (AV.int (if((32-v*(8-s):Nat):Int)<((v*(8-s):Nat):Int)then((32-v*(8-s):Nat):Int)else((v*(8-s):Nat):Int)))=_;refine congrArg (λz=>some (AV.int z)) ?_;split<;>lia
 refine qb (i:=0) (xs:=row) (v:=.flt (bT h)) (ag rfl) ?_ rfl (by lia) (λj=>by simp) bH;have h2:t%2=0\/t%2=1:=by lia
 refine mJ (x:=if t%2=0 then .tup [.flt (bT h),.flt (qB s),.flt (qB v)]else .tup [.flt (bT h),.flt (qD s v),.flt (qN s v)]) (y:=.int 0) (mJ (x:=.tup [.tup [.flt (bT h),.flt (qB s),.flt (qB v)],.tup [.flt (bT h),.flt (qD s v),.flt (qN s v)]]) (y:=.int ((t%2:Nat):Int)) rfl (dV (y:=2) (ag rfl) aR (by decide)) ?_) rfl ?_
 ·rcases h2 with e|e<;>rw[e]<;>rfl
 ·rcases h2 with e|e<;>rw[e]<;>rfl
theorem yO (k:Nat)(σ:aA){α:Type}(f:α->F):∀l:List α,bj (aZ σ (k+1)) (l.map λx=>AV.flt (f x))=some (l.map λx=>AV.flt (f x))
 | []=>rfl
 |a::l=>by
  refine aa ZC ?_;rw[gO];have:aZ σ (k+1) (.flt (f a))=some (.flt (f a)):=rfl;refine aa this ?_;simp only[yO k σ f l]
theorem NK (A n:Nat)(hn:n<=5):Fi (N+2) 17 [.int A,.int n]=some (.lst (cq A (3*n))):=by
 refine fB (N:=N+1) Ol rfl ?_;show aE (Fi (N+1)) [some (.int A),some (.int n),none,none,none,none,none,none,none,none,none,none,none,none] [] yB.body=_;refine sn (v:=.ref 0) (an:=[.list []]) rfl ?_;have lp:=sy (f:=λρ σ v=>aE (Fi (N+1)) (ρ.set 3 (some v)) σ Gp) (n:=3*n) (ρ:=[some (.int A),some (.int n),some (.ref 0),none,none,none,none,none,none,none,none,none,none,none]) (σ:=[.list []])
  (I:=λk ρ σ=>∃e3 e4 e5 e6 e7 e8 e9 pL lO mE mF,ρ=[some (.int A),some (.int n),some (.ref 0),e3,e4,e5,e6,e7,e8,e9,pL,lO,mE,mF]/\σ=[.list (cq A k)])
  ⟨none,none,none,none,none,none,none,none,none,none,none,rfl,rfl⟩ ?_
 ·obtain⟨av,an,h1,e3,e4,e5,e6,e7,e8,e9,pL,lO,mE,mF,rfl,rfl⟩:=lp;refine kY (vs:=aq (Y7 (3*n))) (nV (j9 (mK (x:=3) aR (ag rfl) (jcu (by decide))) (by lia))) h1 ?_;refine dX (v:=.ref 0) rfl ?_;show(bj (aZ [.list (cq A (3*n))] 5) (cq A (3*n))).map AV.lst=_;have:=yO 4 [.list (cq A (3*n))] (λt=>bT (dF A t)) (Y7 (3*n));exact(congrArg (Z' AV.lst) this).trans rfl
 ·rintro k ρ σ hk ⟨e3,e4,e5,e6,e7,e8,e9,pL,lO,mE,mF,rfl,rfl⟩;obtain⟨w4,w5,w6,w7,w8,w9,XA,XB,XC,XD,hw⟩:=Sd (N:=N) (A:=A) (t:=k) (n:=.int n) (c4:=e4) (c5:=e5) (c6:=e6) (c7:=e7) (c8:=e8) (c9:=e9) (rM:=pL) (pB:=lO) (rO:=mE) (rP:=mF) (by lia) (row:=cq A k) (by unfold cq;refine aa (Y0 _) ?_;refine aa jaf ?_;lia);refine⟨_,_,hw,some (.int k),w4,w5,w6,w7,w8,w9,XA,XB,XC,XD,rfl,?_⟩;unfold cq;refine aa jaK ?_;refine aa ZS ?_;rfl
def ga (nl:List Nat)(i:Nat)(c:List Nat)(l:Nat):Bool:=nl.all λj=>!(decide (j<i)&&decide (c.getD j 0=l))
def ci (h:Nat)(ac:List (List Nat)):Nat->List (List Nat)
 |0=>[[]]
 |i+1=>(ci h ac i).flatMap λc=>((Y7 h).filter λl=>ga (ac.getD i []) i c l).map λl=>c++[l]
theorem Un:ci h ac 0=[[]]:=rfl
theorem qJ:ci h ac (i+1) =
 jhe
  (λc=>jfy (λl=>c++[l]) (List.filter (λl=>ga (List.getD ac i []) i c l) (Y7 h)))
  (ci h ac i):=rfl
theorem Hd (h:Nat)(ac:List (List Nat)):∀i,∀c∈ci h ac i,c.length=i/\∀l∈c,l<h
 |0,c,hc=>by
  rw[Un,Zq]at hc;subst hc;exact⟨rfl,λl hl=>by cases hl⟩
 |i+1,c,hc=>by
  rw[qJ]at hc;refine au (jdd.mp hc) λc0 h0 h1=>?_;refine au (Zn.mp h1) ?_;rintro l hl rfl;have ih:=Hd h ac i c0 h0;have a0:=ZI.mp (jdu.mp hl).1;refine⟨by refine aa Za ?_;refine aa ih.1 ?_;rfl,λl' hZ=>?_⟩;rw[ZE,Zq]at hZ;rcases hZ with h|rfl
  ·exact ih.2 l' h
  ·exact a0
theorem DZ {α β:Type}(k:Nat)(f:α->List β):∀l:List α,(∀a∈l,(f a).length<=k)->(l.flatMap f).length<=l.length*k
 | [],_=>by simp
 |a::l,h=>by
  have h1:=h a (by simp);have h2:=DZ k f l (λb hb=>h b (by simp[hb]));rw[jaq,Za,Zo,jds,jee]
  lia
theorem tB (h:Nat)(ac:List (List Nat)):∀i,(ci h ac i).length<=h^i
 |0=>Y5 1
 |i+1=>by
  have ih:=tB h ac i;rw[qJ];refine Y1 (DZ h _ _ λc Y=>?_) ?_
  ·refine aa (Y0 _) ?_;exact Y1 (jda _ _) (by refine aa jaf ?_;exact Y5 _)
  ·refine aa (jcV _ _) ?_;exact jbk ih (Y5 _)
section
theorem MY {ρ:aB}{α β:Type}{x:Nat}{Gd Ge:It}{ifs:bV}{aD:Ex}{cs:List α}{f1:α->AV}{ds:List β}{f2:β->AV}{G:α->β->List AV}(h1:dU Φ σ ρ Gd=some (cs.map f1))(hx:ρ.length=x)(hl:cs.length<=100000)(h2:∀v,dU Φ σ (ρ++[some v,none]) Ge=some (ds.map f2))(hW:ds.length<=100000)(h3:∀c∈cs,∀d∈ds,(match cS Φ σ (ρ++[some (f1 c),some (f2 d)]) ifs with
 |some true=>(ev Φ σ (ρ++[some (f1 c),some (f2 d)]) aD).map λu=>[u]
 |some false=>some []
 |none=>none)=some (G c d)) (hr:(cs.flatMap λc=>ds.flatMap (G c)).length<=100000):
 ev Φ σ ρ (.comp 2 (.cons x Gd .nil (.cons (x+1) Ge ifs (.done aD))))=some (.lst (cs.flatMap λc=>ds.flatMap (G c))):=by
 subst hx;have hs:∀v,(ρ++Zh 2 none).set ρ.length (some v)=ρ++[some v,none]:=λv=>by
  rw[jcc,if_neg (Zr (jaP ρ)),jaA];rfl
 have QC:∀v w,(ρ++[some v,none]).set (ρ.length+1) (some w)=ρ++[some v,some w]:=λv w=>by
  rw[jcc,if_neg (by simp)];rw[show ρ.length+1-ρ.length=1 by simp];rfl
 have h0:(ρ++Zh 2 none)[ρ.length]?=some none:=by
  rw[Zg (Y5 _),jaA];rfl
 have OY:∀v,(ρ++[some v,none])[ρ.length+1]?=some none:=λv=>by
  rw[Zg (jcF jbK),show ρ.length+1-ρ.length=1 by simp];rfl
 have fm:∀{γ:Type}{δ:Type} (f:AV->Option (List δ)) (g:γ->AV) (l:List γ),fZ f (l.map g)=fZ (λa=>f (g a)) l:=λf g l=>by
  induction l with
  |nil=>rfl
  |cons a l ih=>rw[ZC,u5,u5,ih]
 rw[yj,x0,h1];simp only[h0];rw[if_pos (by rw[Y0];exact hl),fm,u4 (g:=λc=>ds.flatMap (G c)) (λc hc=>?_)]
 ·show Z' AV.lst (sF (some _))=_;unfold sF;simp only[];rw[if_pos hr];rfl
 ·rw[hs (f1 c)];have e1:cS Φ σ (ρ++[some (f1 c),none]) .nil=some true:=by rw[nU]
  simp only[e1];rw[C9,h2 (f1 c)];simp only[OY (f1 c)];rw[if_pos (by rw[Y0];exact hW),fm];refine u4 (λd hd=>?_);rw[QC (f1 c) (f2 d),<-h3 c hc d hd]
  induction cS Φ σ (ρ++[some (f1 c),some (f2 d)]) ifs using ae with
  |none=>rfl
  |some b=>cases b<;>rfl
theorem Dm (h1:ev Φ σ ρ a=some (.lst l)):ev Φ σ ρ (.cmp .Eq a (.list .nil))=some (.bool (decide (l.length=0))):=by
 refine cK (y:=.lst []) h1 (se (vs:=[]) (by rw[Dz]) (by decide)) ?_;show(if l.length=([]:List AV).length then eN cJ l []else some false)=_
 induction l using Y2 with
 |nil=>rfl
 |cons a l=>simp
end
def wS (A:Nat):Prop:=∀l l',l<3->l'<3->bO (bT (dF A l)) (bT (dF A l'))=decide (l=l')
def ei (A:Nat)(c:List Nat):AV:=.lst (c.map λl=>.flt (bT (dF A l)))
theorem WA (hi:i<n)(hl:l<3):(cq A (3*n))[3*i+l]?=some (.flt (bT (dF A l))):=by
 unfold cq;refine aa ZO ?_;refine aa (jdA (by lia)) ?_;have:dF A (3*i+l)=dF A l:=by
  unfold dF;refine aa (show(3*i+l)%3=l%3 by simp) ?_;rfl
 show some (AV.flt (bT (dF A (3*i+l))))=_;refine aa this ?_;rfl
theorem Uo {N:Nat}{ac:List (List Nat)}{A h i:Nat}(hi:i<ac.length)(hn:ac.length<=5)(hh:h<=3)(H:wS A)(sU:∀j∈ac.getD i [],j<ac.length)(jL:(ac.getD i []).length<=5):
 ev (Fi N) [] [some (b9 ac),some (.lst (cq A (3*ac.length))),some (.int h),some (.lst ((ci h ac i).map (ei A))),some (.int i)]
  (.comp 2 (.cons 5 (.val (.var 3)) .nil (.cons 6 (.range (.cons (.var 2) .nil)) (.cons (.cmp .Eq (.comp 1 (.cons 7 (.val (.idx (.var 0) (.var 4))) (.cons (.and (.cons (.cmp .Lt (.var 7) (.var 4)) (.cons (.cmp .Eq (.idx (.var 5) (.var 7)) (.idx (.var 1) (.bin .Add (.bin .Mult (.c (.int 3)) (.var 4)) (.var 6)))) .nil))) .nil) (.done (.var 7)))) (.list .nil)) .nil) (.done (.bin .Add (.var 5) (.list (.cons (.idx (.var 1) (.bin .Add (.bin .Mult (.c (.int 3)) (.var 4)) (.var 6))) .nil)))))))
  = some (.lst ((ci h ac (i+1)).map (ei A))):=by
 have Ft:=tB h ac i;have YA:=tB h ac (i+1);have zF:h^i<=1000:=Y1 (jdE hh i) (Y1 (Zl (by decide) (show i<=5 by lia)) (by decide));have Fq:h^(i+1)<=1000:=Y1 (jdE hh (i+1)) (Y1 (Zl (by decide) (show i+1<=5 from bf hi hn)) (by decide));have oE:(cq A (3*ac.length)).length<=15:=by unfold cq;refine aa (Y0 _) ?_;refine aa jaf ?_;lia
 have H7:∀{ρ:aB}{l:Nat},l<3->ρ[1]?=some (some (.lst (cq A (3*ac.length))))->ρ[4]?=some (some (.int (i:Int)))->ρ[6]?=some (some (.int (l:Int)))->ev (Fi N) [] ρ (.idx (.var 1) (.bin .Add (.bin .Mult (.c (.int 3)) (.var 4)) (.var 6)))=some (.flt (bT (dF A l))):=λ{ρ l} hl g1 g4 g6 =>
  fX (k:=3*i+l) (ag g1) (iF (mK (x:=3) aR (ag g4) (jcu (by decide))) (ag g6)) (WA hi hl) (bw oE rfl)
 have body:∀c∈ci h ac i,∀l,l<h->(match cS (Fi N) [] ([some (b9 ac),some (.lst (cq A (3*ac.length))),some (.int h),some (.lst ((ci h ac i).map (ei A))),some (.int i)]++[some (ei A c),some (.int l)]) (.cons (.cmp .Eq (.comp 1 (.cons 7 (.val (.idx (.var 0) (.var 4))) (.cons (.and (.cons (.cmp .Lt (.var 7) (.var 4)) (.cons (.cmp .Eq (.idx (.var 5) (.var 7)) (.idx (.var 1) (.bin .Add (.bin .Mult (.c (.int 3)) (.var 4)) (.var 6)))) .nil))) .nil) (.done (.var 7)))) (.list .nil)) .nil)with
  |some true=>(ev (Fi N) [] ([some (b9 ac),some (.lst (cq A (3*ac.length))),some (.int h),some (.lst ((ci h ac i).map (ei A))),some (.int i)]++[some (ei A c),some (.int l)]) (.bin .Add (.var 5) (.list (.cons (.idx (.var 1) (.bin .Add (.bin .Mult (.c (.int 3)) (.var 4)) (.var 6))) .nil)))).map λu=>[u]
  |some false=>some []
  |none=>none)=some (if ga (ac.getD i []) i c l then[ei A (c++[l])]else[]):=by
  intro c hc l hl;refine bN (Hd h ac i c hc) λhcl vk=>?_;have inner:ev (Fi N) [] ([some (b9 ac),some (.lst (cq A (3*ac.length))),some (.int h),some (.lst ((ci h ac i).map (ei A))),some (.int i)]++[some (ei A c),some (.int l)]) (.comp 1 (.cons 7 (.val (.idx (.var 0) (.var 4))) (.cons (.and (.cons (.cmp .Lt (.var 7) (.var 4)) (.cons (.cmp .Eq (.idx (.var 5) (.var 7)) (.idx (.var 1) (.bin .Add (.bin .Mult (.c (.int 3)) (.var 4)) (.var 6)))) .nil))) .nil) (.done (.var 7))))=some (.lst (aq ((ac.getD i []).filter λj=>decide (j<i)&&decide (c.getD j 0=l)))):=by
   have jg:dU (Fi N) [] ([some (b9 ac),some (.lst (cq A (3*ac.length))),some (.int h),some (.lst ((ci h ac i).map (ei A))),some (.int i)]++[some (ei A c),some (.int l)]) (.val (.idx (.var 0) (.var 4)))=some (aq (ac.getD i [])):=by
    have:ev (Fi N) [] ([some (b9 ac),some (.lst (cq A (3*ac.length))),some (.int h),some (.lst ((ci h ac i).map (ei A))),some (.int i)]++[some (ei A c),some (.int l)]) (.idx (.var 0) (.var 4))=some (.lst (aq (ac.getD i []))):=by
     refine fX (l:=ac.map λl=>.lst (aq l)) (k:=i) (ag rfl) (ag rfl) ?_ (by refine aa (Y0 _) ?_;exact bw hn rfl);refine aa ZO ?_;refine aa Y8 ?_;refine aa (Zc hi) ?_;rfl
    rewrite [sb];refine aa this ?_;rfl
   refine(nX (x:=7) (vs:=aq (ac.getD i [])) (p:=λv=>match v with | .int j=>decide (j.toNat<i)&&decide (c.getD j.toNat 0=l)|_=>false) (g:=id) jg rfl (by refine aa (Y0 _) ?_;exact bw jL rfl) (λv hv=>?_) (λv hv Y=>rfl)).trans ?_
   ·refine au (Zn.mp hv) ?_;rintro j hj rfl;have jK:=sU j hj;show _=some (decide ((j:Int).toNat<i)&&decide (c.getD (j:Int).toNat 0=l));refine aa (ZB _) ?_;by_cases hji:j<i
    ·refine kS (kV (iE ((pV (x:=j) (y:=i) (ag rfl) (ag rfl)).trans (by refine aa (decide_eq_true hji) ?_;rfl)) ?_));refine(kS (j' (x:=bT (dF A (c.getD j 0))) (y:=bT (dF A l)) (fX (l:=c.map λl=>.flt (bT (dF A l))) (k:=j) (ag rfl) (ag rfl) ?_ (by refine aa (Y0 _) ?_;lia)) (H7 (bf hl hh) rfl rfl rfl) ?_)).trans ?_
     ·refine aa ZO ?_;refine aa Y8 ?_;refine aa (Zc (by simp[*])) ?_;rfl
     ·have vh:c.getD j 0<3:=by
       have:c.getD j 0∈c:=by
        refine aa Y8 ?_;refine aa (Zc (by lia)) ?_;exact jbF _
       have:=vk _ this
       lia
      refine aa (H _ _ vh vh) ?_;simp
     ·have vh:c.getD j 0<3:=by
       have:c.getD j 0∈c:=by
        refine aa Y8 ?_;refine aa (Zc (by lia)) ?_;exact jbF _
       have:=vk _ this
       lia
      refine aa (H _ _ vh (by lia)) ?_;refine aa (decide_eq_true hji) ?_;refine aa (jcC _) ?_;rfl
    ·refine aa (decide_eq_false hji) ?_;refine aa (jgw _) ?_;exact kS (kV (nT ((pV (x:=j) (y:=i) (ag rfl) (ag rfl)).trans (by refine aa (decide_eq_false hji) ?_;rfl))))
   ·refine aa (jbX _) ?_;unfold aq;refine aa jce ?_
    congr 3
  have bY:decide ((aq ((ac.getD i []).filter λj=>decide (j<i)&&decide (c.getD j 0=l))).length=0)=ga (ac.getD i []) i c l:=by
   rewrite [jaM,decide_eq_true_iff];refine aa (Y0 _) ?_;rw[Z3,List.filter_eq_nil_iff];unfold ga;rw[Y6];constructor
   ·intro hx j hj;have:=hx j hj
    induction e:(decide (j<i)&&decide (c.getD j 0=l))using ZH with
    |true=>exact absurd e this
    |false=>rfl
   ·intro hx j hj e;have:=hx j hj;rw[e]at this;cases this
  rw[kS ((Dm inner).trans (by refine aa bY ?_;rfl))]
  induction ga (ac.getD i []) i c l using ZH with
  |false=>rfl
  |true =>
   have:ev (Fi N) [] ([some (b9 ac),some (.lst (cq A (3*ac.length))),some (.int h),some (.lst ((ci h ac i).map (ei A))),some (.int i)]++[some (ei A c),some (.int l)]) (.bin .Add (.var 5) (.list (.cons (.idx (.var 1) (.bin .Add (.bin .Mult (.c (.int 3)) (.var 4)) (.var 6))) .nil)))=some (ei A (c++[l])):=by
    refine(sd (x:=c.map λl=>.flt (bT (dF A l))) (y:=[.flt (bT (dF A l))]) (ag rfl) (se (cT (H7 (by lia) rfl rfl rfl)) (show 1<=100000 by decide)) (by refine aa (Y0 _) ?_;show _+1<=_;lia)).trans ?_;unfold ei;refine aa ZS ?_;rfl
   simp only[this];rfl
 let G:List Nat->Nat->List AV:=λc l=>if ga (ac.getD i []) i c l then[ei A (c++[l])]else[]
 have e2:(ci h ac (i+1)).map (ei A)=(ci h ac i).flatMap λc=>(Y7 h).flatMap (G c):=by
  conv=>lhs;rw[qJ]
  refine aa List.map_flatMap ?_
  congr 1
  funext c;refine aa ZJ ?_;have:=yI (p:=λl=>ga (ac.getD i []) i c l) (g:=λl=>ei A (c++[l])) (Y7 h);exact this.symm
 have aO:((ci h ac i).flatMap λc=>(Y7 h).flatMap (G c)).length<=100000:=by
  refine rwj e2 ?_;refine aa (Y0 _) ?_;lia
 refine aa e2 ?_;refine MY (x:=5) (cs:=ci h ac i) (f1:=ei A) (ds:=Y7 h) (f2:=λ(l:Nat)=>AV.int l) (G:=G) ?_ rfl (by lia) (λv=>?_) (by refine aa jaf ?_;exact bw hh rfl) (λc hc l hl=>body c hc l (ZI.mp hl)) aO
 ·rewrite [sb];refine aa (ag (v:=.lst ((ci h ac i).map (ei A))) rfl) ?_;rfl
 ·exact j9 (ag rfl) (bw hh rfl)
theorem NL {N:Nat}{ac:List (List Nat)}{A h:Nat}(g:iw ac)(hh:h<=3)(H:wS A):Fi (N+1) 18 [b9 ac,.lst (cq A (3*ac.length)),.int h]=some (.int ((ci h ac ac.length).length:Nat)):=by
 refine fB (N:=N) Om rfl ?_;show aE (Fi N) [some (b9 ac),some (.lst (cq A (3*ac.length))),some (.int h),none,none] [] yC.body=_;refine aT (v:=.lst [.lst []]) rfl ?_;have aU:=g.le;have lp:=sy (f:=λρ σ v=>aE (Fi N) (ρ.set 4 (some v)) σ (match yC.body with | .cons _ (.cons (.for_ _ _ b) _)=>b|_=>.nil)) (n:=ac.length) (ρ:=[some (b9 ac),some (.lst (cq A (3*ac.length))),some (.int h),some (.lst [.lst []]),none]) (σ:=[])
  (I:=λk ρ σ=>∃e4,ρ=[some (b9 ac),some (.lst (cq A (3*ac.length))),some (.int h),some (.lst ((ci h ac k).map (ei A))),e4]/\σ=[])
  ⟨none,rfl,rfl⟩ ?_
 ·obtain⟨av,an,h1,e4,rfl,rfl⟩:=lp;refine kY (vs:=aq (Y7 ac.length)) (nV (j9 (dK (vs:=[b9 ac]) rfl ?_) (bw aU rfl))) h1 ?_
  ·show fL (ac.map λl=>AV.lst (aq l)).length=_;refine aa (Y0 _) ?_;unfold fL;refine aa (if_pos (bw aU rfl)) ?_;rfl
  have hp:=tB h ac ac.length;have zF:h^ac.length<=1000:=Y1 (jdE hh _) (Y1 (Zl (by decide) aU) (by decide));refine dX (v:=.int ((ci h ac ac.length).length:Nat)) (dK (cT (ag rfl)) ?_) rfl;show fL ((ci h ac ac.length).map (ei A)).length=_;refine aa (Y0 _) ?_;unfold fL;refine aa (if_pos (by omega)) ?_;rfl
 ·rintro k ρ σ hk ⟨e4,rfl,rfl⟩;refine⟨_,_,aT (Uo hk aU hh H (λj hj=>(g.sym k j hj).1) ?_) bH,some (.int k),rfl,rfl⟩;exact tr 5 _ (g.nd k) (λj hj=>by have:=(g.sym k j hj).1;lia)
abbrev Dk:=List (Nat×Nat)
def gC:Dk->Nat->Nat->Dk
 | [],k,v=>[(k,v)]
 |(k',v')::t,k,v=>if k'=k then(k',max v' v)::t else(k',v')::gC t k v
theorem wG:gC ((k',v')::t) y x=if k'=y then(k',max v' x)::t else(k',v')::gC t y x:=rfl
def cG (D:Dk):List (Int×AV):=D.map λe=>((e.1:Int),AV.int (e.2:Int))
def iS (D:Dk)(k:Nat):Nat:=(D.lookup k).getD 0
def d0 (D:Dk):Prop:=(D.map (·.1)).Nodup
theorem Aq (k:Nat):∀D:Dk,(cG D).lookup (k:Int)=(D.lookup k).map λ(v:Nat)=>AV.int (v:Int)
 | []=>rfl
 |(k',v')::t=>by
  show jeb (k:Int) (((k':Int),AV.int (v':Int))::cG t)=_;refine aa ZX ?_;refine aa ZX ?_;refine aa (Aq k t) ?_;have:((k:Int)==(k':Int))=(k==k'):=by
   rw[jaM,beq_iff_eq,beq_iff_eq];exact IH
  refine aa this ?_;cases(k==k')<;>rfl
theorem Gx {k v:Nat}:∀D:Dk,d0 D->(k,v)∈D->D.lookup k=some v
 |(k',v')::t,hn,hm=>by
  unfold d0 at hn;rw[ZC,jaL]at hn;refine aa ZX ?_;rcases ZQ.mp hm with e|hm
  ·cases e;simp
  ·have cV:k≠k':=λe=>hn.1 (Zn.mpr ⟨(k,v),hm,e⟩);refine aa (beq_eq_false_iff_ne.mpr cV) ?_;exact Gx t hn.2 hm
theorem Br (k v:Nat):∀D:Dk,(gC D k v).map (·.1)=if k∈D.map (·.1)then D.map (·.1)else D.map (·.1)++[k]
 | []=>rfl
 |(k',v')::t=>by
  have ih:=Br k v t;rw[wG];by_cases e:k'=k
  ·refine aa (if_pos e) ?_;refine aa (if_pos (by simp[e])) ?_;rfl
  ·refine aa (if_neg e) ?_;refine aa ZC ?_;refine aa ih ?_;refine aa ZC ?_;by_cases h:k∈t.map (·.1)
   ·refine aa (if_pos h) ?_;refine aa (if_pos (Zw _ h)) ?_;rfl
   ·refine aa (if_neg h) ?_;refine aa (if_neg (λhm=>(ZQ.mp hm).elim (λh'=>e h'.symm) h)) ?_;rfl
set_option tactic.hygienic true in
theorem Iw {k v:Nat}{D:Dk}(h:d0 D):d0 (gC D k v):=by
 unfold d0 at *;rw[Br];split
 ·exact h
 ·rename_i hn;rw[jbm];refine cz h (by simp) (λa ha b hb=>?_);rw[Zq]at hb;rintro rfl;exact hn (hb▸ha)
theorem Iv {k v:Nat}:∀D:Dk,k∉D.map (·.1)->gC D k v=D++[(k,v)]
 | [],_=>rfl
 |(k',v')::t,h=>by
  rw[ZC,ZQ,not_or]at h;rw[wG];refine aa (if_neg (λe=>h.1 e.symm)) ?_;refine aa (Iv t h.2) ?_;rfl
theorem GJ {k:Nat}{w:AV}:∀D:Dk,k∉D.map (·.1)->(cG D).map (λe=>if e.1=(k:Int)then(e.1,w)else e)=cG D
 | [],_=>rfl
 |(k',v')::t,h=>by
  rw[ZC,ZQ,not_or]at h;show(if(k':Int)=(k:Int)then((k':Int),w)else((k':Int),AV.int (v':Int)))::(cG t).map _=_;refine aa (if_neg (by have:=h.1;lia)) ?_;refine aa (GJ t h.2) ?_;rfl
theorem Hp {k v:Nat}:∀D:Dk,d0 D->k∈D.map (·.1)->(cG D).map (λe=>if e.1=(k:Int)then(e.1,AV.int ((max (iS D k) v:Nat):Int))else e)=cG (gC D k v)
 | [],_,h=>by cases h
 |(k',v')::t,hn,h=>by
  unfold d0 at hn;rw[ZC,jaL]at hn;rw[wG];by_cases e:k'=k
  ·subst e;refine aa (if_pos rfl) ?_;have hl:iS ((k',v')::t) k'=v':=by unfold iS;refine aa ZX ?_;simp
   refine aa hl ?_;show(if(k':Int)=(k':Int)then((k':Int),AV.int ((max v' v:Nat):Int))else _)::(cG t).map _=_;refine aa (if_pos rfl) ?_;refine aa (GJ t hn.1) ?_;rfl
  ·refine aa (if_neg e) ?_;have hk:k∈t.map (·.1):=by
    rw[ZC]at h;rcases ZQ.mp h with h'|h'
    ·exact absurd h'.symm e
    ·exact h'
   have hl:iS ((k',v')::t) k=iS t k:=by
    unfold iS;refine aa ZX ?_;refine aa (beq_eq_false_iff_ne.mpr (λc=>e c.symm)) ?_;rfl
   refine aa hl ?_;show(if(k':Int)=(k:Int)then _ else((k':Int),AV.int (v':Int)))::(cG t).map _=_;refine aa (if_neg (IE e)) ?_;refine aa (Hp t hn.2 hk) ?_;rfl
theorem UP {D:Dk}(k v:Nat)(h:d0 D):dictPut (cG D) (k:Int) (.int ((max (iS D k) v:Nat):Int))=cG (gC D k v):=by
 unfold dictPut;by_cases hk:k∈D.map (·.1)
 ·have:(cG D).any (λe=>decide (e.1=(k:Int)))=true:=by
   rw[jer];refine au (Zn.mp hk) ?_;rintro e he rfl;exact aN _ (Zn.mpr ⟨e,he,rfl⟩) (by simp)
  refine aa (if_pos this) ?_;refine aa (Hp D h hk) ?_;rfl
 ·have:¬(cG D).any (λe=>decide (e.1=(k:Int)))=true:=by
   rw[jer];rintro⟨x,hx,hd⟩;refine au (Zn.mp hx) ?_;rintro e he rfl;have h5:(e.1:Int)=(k:Int):=of_decide_eq_true hd;have:e.1=k:=by lia
   exact hk (Zn.mpr ⟨e,he,this⟩)
  have hl:iS D k=0:=by
   unfold iS;have:D.lookup k=none:=by
    rw[jha];intro p hp;rw[bne_iff_ne];rintro rfl;exact hk (Zn.mpr ⟨p,hp,rfl⟩)
   refine aa this ?_;rfl
  refine aa (if_neg this) ?_;refine aa (Iv D hk) ?_;refine aa hl ?_;refine aa (Nat.zero_max _) ?_;unfold cG;refine aa ZS ?_;rfl
def fk (S j:Nat):Bool:=decide (S/2^j%2=1)
def ie (nl:List Nat)(S:Nat):Nat:=((nl.filter (fk S)).map (2^·)).sum
def nL (sh lo:Nat)(acc D:Dk):Dk:=D.foldl (λacc e=>gC acc (e.1+sh) (e.2+lo)) acc
def lq (S i:Nat):Nat:=if S%2^i=0 then 1 else 0
def di (ac:List (List Nat))(T:List Dk)(S:Nat)(acc:Dk)(i:Nat):Dk :=
 if fk S i then nL (32^i*ie (ac.getD i []) (S-2^i)) (lq (S-2^i) i) acc (T.getD (S-2^i) [])else acc
def mf (ac:List (List Nat))(T:List Dk)(S:Nat):Dk:=(Y7 ac.length).foldl (di ac T S) []
def bL (ac:List (List Nat)):Nat->List Dk
 |0=>[[(0,0)]]
 |s+1=>bL ac s++[mf ac (bL ac s) (s+1)]
theorem Wj:bL ac 0=[[(0,0)]]:=rfl
theorem oP:bL ac (s+1)=bL ac s++[mf ac (bL ac s) (s+1)]:=rfl
theorem xd {sh lo:Nat}:∀(D acc:Dk),d0 acc->d0 (nL sh lo acc D)
 | [],_,h=>h
 |e::D,acc,h=>xd D _ (Iw h)
theorem Iu (k v:Nat)(D:Dk):(gC D k v).length<=D.length+1:=by
 have:=congrArg jaP (Br k v D);rw[Y0]at this;refine aa this ?_;split
 ·refine aa (Y0 _) ?_;exact jcF jbK
 ·refine aa Za ?_;refine aa (Y0 _) ?_;exact Y5 _
theorem xb {sh lo:Nat}:∀(D acc:Dk),(nL sh lo acc D).length<=acc.length+D.length
 | [],_=>Y5 _
 |e::D,acc=>by
  have h1:=xb (sh:=sh) (lo:=lo) D (gC acc (e.1+sh) (e.2+lo));have h2:=Iu (e.1+sh) (e.2+lo) acc;show(nL sh lo (gC acc (e.1+sh) (e.2+lo)) D).length<=_;refine aa Zo ?_;lia
theorem U7 (ac:List (List Nat))(T:List Dk)(S:Nat):d0 (mf ac T S):=by
 have:∀(l:List Nat) (acc:Dk),d0 acc->d0 (l.foldl (di ac T S) acc):=λl=>by
  induction l with
  |nil=>exact λY h=>h
  |cons i l ih =>
   intro acc h;refine ih _ ?_;unfold di;split
   ·exact xd _ _ h
   ·exact h
 exact this _ _ jaR
theorem nx (ac:List (List Nat)):∀s,(bL ac s).length=s+1
 |0=>rfl
 |s+1=>by
  rw[oP];refine aa Za ?_;refine aa (nx ac s) ?_;rfl
theorem H5 (ac:List (List Nat)):∀s,∀D∈bL ac s,d0 D
 |0,D,h=>by
  rw[Wj,Zq]at h;subst h;unfold d0;simp
 |s+1,D,h=>by
  rw[oP,ZE,Zq]at h;rcases h with h|rfl
  ·exact H5 ac s D h
  ·exact U7 _ _ _
theorem tT (ac:List (List Nat)){k:Nat}:∀s,k<=s->(bL ac s).getD k []=(bL ac k).getD k []
 |0,h=>by refine aa (Nat.le_zero.mp h) ?_;rfl
 |s+1,h=>by
  by_cases e:k=s+1
  ·refine aa e ?_;rfl
  ·have ih:=tT ac s (by lia:k<=s);refine rwj ih ?_
   conv=>lhs;rw[oP]
   rw[Y8,Zt (by refine aa (nx _ _) ?_;lia),Y8]
def tab (ac:List (List Nat))(S:Nat):Dk:=(bL ac S).getD S []
theorem Wi (ac:List (List Nat))(s:Nat):tab ac (s+1)=mf ac (bL ac s) (s+1):=by
 unfold tab
 conv=>lhs;rw[oP]
 have:=nx ac s;refine aa Y8 ?_;refine aa (Zg (ZK this)) ?_;refine aa this ?_;refine aa (jaA _) ?_;rfl
def pc (S:Nat):Nat:=(Y7 5).countP (fk S)
theorem Hk:∀S,S<32->∀i,i<5->fk S i=true->pc (S-2^i)+1=pc S/\2^i<=S/\S-2^i<S:=by decide +kernel
theorem Hj (S:Nat):pc S<=5:=by
 unfold pc;exact Y1 List.countP_le_length (by simp)
theorem Wh {ac:List (List Nat)}(hn:ac.length<=5):∀S,S<32->(tab ac S).length<=5^pc S:=by
 intro S
 induction S using Nat.strongRecOn with
 |_ S ih =>
  intro hS
  induction S using jaw with
  |zero=>exact jcM (by decide)
  |succ s =>
   refine aa (Wi _ _) ?_;have QK:∀(l:List Nat) (acc:Dk),(∀i∈l,i<5)->(l.foldl (di ac (bL ac s) (s+1)) acc).length<=acc.length+l.countP (fk (s+1))*5^(pc (s+1)-1):=λl=>by
    induction l with
    |nil=>intro acc _;simp
    |cons i l ihl =>
     intro acc hl;have h1:=ihl (di ac (bL ac s) (s+1) acc i) (λj hj=>hl j (by simp[hj]));refine aa jcG ?_;refine Y1 h1 ?_;refine aa jeq ?_;unfold di;by_cases hb:fk (s+1) i=true
     ·refine aa (if_pos hb) ?_;refine aa (if_pos hb) ?_;have hp:=Hk (s+1) hS i (hl i (by simp)) hb;have h2:=xb (sh:=32^i*ie (ac.getD i []) (s+1-2^i)) (lo:=lq (s+1-2^i) i) ((bL ac s).getD (s+1-2^i) []) acc;have h3:=ih (s+1-2^i) hp.2.2 (by lia);have h4:(bL ac s).getD (s+1-2^i) []=tab ac (s+1-2^i):=tT ac s (by lia);rw[<-h4,show pc (s+1-2^i)=pc (s+1)-1 by lia]at h3;rewrite [jds];refine aa (jee _) ?_
      lia
     ·refine aa (if_neg hb) ?_;refine aa (if_neg hb) ?_;refine aa (Nat.add_zero _) ?_;exact Y5 _
   have h1:=QK (Y7 ac.length) [] (λi hi=>by have:=ZI.mp hi;exact bf this hn);have h2:(Y7 ac.length).countP (fk (s+1))<=pc (s+1):=by
    exact List.Sublist.countP_le (List.range_sublist.mpr hn)
   have h3:pc (s+1)≠0->5^pc (s+1)=5*5^(pc (s+1)-1):=λh=>by
    conv=>lhs;rw[show pc (s+1)=pc (s+1)-1+1 by lia]
    refine aa (jcV _ _) ?_;refine aa (jaN _ _) ?_;rfl
   have h5:=Hj (s+1);unfold mf;refine Y1 h1 ?_;show 0+_<=_;by_cases h0:pc (s+1)=0
   ·rw[h0]at h2;refine aa (Nat.le_zero.mp h2) ?_;refine aa (Nat.zero_mul _) ?_;exact jbj _
   ·refine aa (h3 h0) ?_;refine aa (jey _) ?_;exact jbk (by lia) (Y5 _)
theorem Bk {ac:List (List Nat)}(hn:ac.length<=5){S:Nat}(hS:S<32):(tab ac S).length<=3125 :=
 Y1 (Wh hn S hS) (Y1 (Zl (by decide) (Hj S)) (by decide))
def cR (D:Dk):AV:=.dct (cG D)
def jq (T:List Dk)(g:Nat):aA:=.list (T.map cR)::Zh g .gone
def cP (T:List Dk)(g:Nat)(acc:Dk):aA:=jq T g++[.dict (cG acc)]
theorem oO (T:List Dk)(g:Nat):(jq T g).length=g+1:=by
 unfold jq;refine aa Zo ?_;refine aa jax ?_;rfl
theorem Bb (T:List Dk)(g:Nat)(acc:Dk):(cP T g acc)[g+1]?=some (.dict (cG acc)):=by
 unfold cP;rw[Zg (by rw[oO];exact Y5 _),oO,jaA];rfl
theorem VT (T:List Dk)(g:Nat)(acc BX:Dk):(cP T g acc).set (g+1) (.dict (cG BX))=cP T g BX:=by
 unfold cP;rw[jcc,if_neg (by rw[oO];exact Zr (g+1)),oO,jaA];rfl
section
theorem Np (h1:ev Φ σ ρ ve=some w)(hs:w.scalar=true)(h2:ρ[x]?=some (some (.ref i)))(h3:ev Φ σ ρ ke=some (.int k))(h4:σ[i]?=some (.dict es))(hl:es.length<=100000)(h5:aE Φ ρ (σ.set i (.dict (dictPut es k w))) ss=r):aE Φ ρ σ (.cons (.put x ke ve) ss)=r:=by
 refine iH ?_ h5;rewrite [DN];refine aa h1 ?_;refine(if_pos hs).trans ?_;refine aa h2 ?_;refine aa h3 ?_;dsimp only;refine aa h4 ?_;exact if_pos hl
theorem Bi:∀l:List Nat,em (l.map Z5)=((l.sum:Nat):Int)
 | []=>rfl
 |a::l=>by
  rw[ZC,wy,Bi l,jal,jbu];rfl
theorem uU (h1:ev Φ σ ρ a=some (.lst (aq l)))(hs:l.sum<2^53):ev Φ σ ρ (.call .sum (.cons a .nil))=some (.int (l.sum:Nat)):=by
 refine dK (cT h1) ?_;show(tO (aq l)).map AV.int=_;unfold tO;refine aa (qG _) ?_;unfold bC;refine aa (rH _) ?_;simp only[];have k1:(l.map Z5).all (λi=>decide (0<=i))=true:=by
  rw[Y6];intro i hi;refine au (Zn.mp hi) ?_;rintro j _ rfl;exact decide_eq_true (Zi j)
 have k2:em (l.map Z5)<2^53:=by
  refine aa (Bi _) ?_;have:((l.sum:Nat):Int)<((2^53:Nat):Int):=jbB.mpr hs;exact this
 show(if _ then _ else _:Option Int).map AV.int=_;refine aa (if_pos (And.intro k1 k2)) ?_;refine aa (Bi _) ?_;rfl
end
theorem wz (M:Nat):∀l:List Nat,(∀x∈l,x<=M)->l.sum<=l.length*M
 | [],_=>by simp
 |a::l,h=>by
  have h1:=h a (by simp);have h2:=wz M l (λx hx=>h x (by simp[hx]));rw[jal,Zo,jds,jee];lia
theorem Tr (h:∀j∈nl,j<5)(hl:nl.length<=5):ie nl S<=80:=by
 unfold ie;have h1:=wz 16 ((nl.filter (fk S)).map (2^·)) (λx hx=>by
  refine au (Zn.mp hx) ?_;rintro j hj rfl;have:=h j (jdu.mp hj).1;exact Y1 (Zl (by decide) (show j<=4 from jaV this)) (by decide))
 rw[Y0]at h1;have:=jda (fk S) nl
 lia
def wo:dw:=(.cons (.put 3 (.bin .Add (.var 8) (.var 6)) (.call .max (.cons (.call .get (.cons (.var 3) (.cons (.bin .Add (.var 8) (.var 6)) (.cons (.c (.int 0)) .nil)))) (.cons (.bin .Add (.idx (.idx (.var 1) (.var 5)) (.var 8)) (.var 7)) .nil)))) .nil)
abbrev mD (ac:List (List Nat))(S g i S' sh lo:Nat)(v8:Option AV):aB:=[some (b9 ac),some (.ref 0),some (.int S),some (.ref (g+1)),some (.int i),some (.int S'),some (.int sh),some (.int lo),v8]
theorem UO (hT:S'<T.length)(ki:T.length<=1000)(he:e∈T.getD S' [])(hn:d0 (T.getD S' []))(ha:d0 acc)(mV:acc.length<=100000):
 aE Φ (mD ac S g i S' sh lo (some (.int (e.1:Nat)))) (cP T g acc) wo=some (.next (mD ac S g i S' sh lo (some (.int (e.1:Nat)))) (cP T g (gC acc (e.1+sh) (e.2+lo)))):=by
 have hk:ev Φ (cP T g acc) (mD ac S g i S' sh lo (some (.int (e.1:Nat)))) (.bin .Add (.var 8) (.var 6))=some (.int ((e.1+sh:Nat):Int)):=iF (ag rfl) (ag rfl);have hg:ev Φ (cP T g acc) (mD ac S g i S' sh lo (some (.int (e.1:Nat)))) (.call .get (.cons (.var 3) (.cons (.bin .Add (.var 8) (.var 6)) (.cons (.c (.int 0)) .nil))))=some (.int (iS acc (e.1+sh):Nat)):=by
  refine dK (gJ (ag rfl) hk aR) ?_;have hd:gH (cP T g acc) (.ref (g+1))=some (cG acc):=LL (Bb ..);show(match gH (cP T g acc) (.ref (g+1))with|some es=>some (match es.lookup ((e.1+sh:Nat):Int)with|some v=>v|none=>.int ((0:Nat):Int))|none=>none)=_;refine aa hd ?_;simp only[Aq];unfold iS;cases acc.lookup (e.1+sh)<;>rfl
 have fu:(T.map cR)[S']?=some (cR (T.getD S' [])):=by
  refine aa ZO ?_;refine aa Y8 ?_;refine aa (Zc hT) ?_;rfl
 have hv:ev Φ (cP T g acc) (mD ac S g i S' sh lo (some (.int (e.1:Nat)))) (.idx (.idx (.var 1) (.var 5)) (.var 8))=some (.int (e.2:Nat)):=by
  refine mJ (uR (j:=0) (k:=S') (l:=T.map cR) (ag rfl) (ag rfl) rfl fu (by refine aa (Y0 _) ?_;exact bw ki rfl)) (ag rfl) ?_;show(cG (T.getD S' [])).lookup ((e.1:Nat):Int)=_;refine aa (Aq _ _) ?_;refine aa (Gx (k:=e.1) (v:=e.2) _ hn he) ?_;rfl
 refine Np (w:=.int ((max (iS acc (e.1+sh)) (e.2+lo):Nat):Int)) (i:=g+1) (k:=((e.1+sh:Nat):Int)) (es:=cG acc) ?_ rfl rfl hk (Bb T g acc) (by unfold cG;refine aa (Y0 _) ?_;exact mV) ?_
 ·refine dK (dL hg (iF hv (ag rfl))) ?_;show some (AV.int (if((iS acc (e.1+sh):Nat):Int)<((e.2+lo:Nat):Int)then((e.2+lo:Nat):Int)else((iS acc (e.1+sh):Nat):Int)))=_;refine congrArg (λz=>some (AV.int z)) ?_;split<;>lia
 ·refine aa (UP _ _ ha) ?_;rw[VT];exact bH
theorem Ho (hT:S'<T.length)(ki:T.length<=1000)(hn:d0 (T.getD S' [])):∀(es:Dk) (acc:Dk) (v8:Option AV),(∀e∈es,e∈T.getD S' [])->d0 acc->acc.length+es.length<=100000 ->
 ∃t5,eQ (λρ σ v=>aE Φ (ρ.set 8 (some v)) σ wo) (es.map λe=>AV.int (e.1:Nat)) (mD ac S g i S' sh lo v8) (cP T g acc)=some (.next (mD ac S g i S' sh lo t5) (cP T g (nL sh lo acc es)))
 | [],acc,v8,_,_,_=>⟨v8,rfl⟩
 |e::es,acc,v8,he,ha,hl=>by
  rw[Zo]at hl;have hu:=Iu (e.1+sh) (e.2+lo) acc;refine aX (Ho (Φ:=Φ) (ac:=ac) (S:=S) (g:=g) (i:=i) (sh:=sh) (lo:=lo) hT ki hn es (gC acc (e.1+sh) (e.2+lo)) (some (.int (e.1:Nat))) (λx hx=>he x (by simp[hx])) (Iw ha) (by lia)) λt5 h2=>?_;refine⟨t5,?_⟩;refine aa ZC ?_;rw[yK];have h1:=UO (Φ:=Φ) (ac:=ac) (T:=T) (S:=S) (g:=g) (i:=i) (S':=S') (sh:=sh) (lo:=lo) (acc:=acc) (e:=e) hT ki (he e (by simp)) hn ha (Bz hl);show(match aE Φ (mD ac S g i S' sh lo (some (.int (e.1:Nat)))) (cP T g acc) wo with|some (.next av an)=>eQ _ _ av an|some (.ret r)=>some (.ret r)|none=>none)=_;refine aa h1 ?_;exact h2
theorem Eg (σ:aA)(k:Nat)(D:Dk):aZ σ (k+2) (cR D)=some (cR D):=by
 unfold cR;rw[OF];have:bj (λe=>(aZ σ (k+1) e.2).map (e.1,·)) (cG D)=some ((cG D).map id):=by
  refine oJ _ (λe he=>?_);refine au (Zn.mp he) ?_;rintro d _ rfl;rfl
 refine aa this ?_;refine aa (jbX _) ?_;rfl
def Ki:dw:=(.cons (.asg 5 false (.bin .Sub (.var 2) (.bin .Pow (.c (.int 2)) (.var 4))))
 (.cons (.asg 6 false (.bin .Mult (.bin .Pow (.c (.int 32)) (.var 4)) (.call .sum (.cons (.comp 1 (.cons 9 (.val (.idx (.var 0) (.var 4))) (.cons (.cmp .Eq (.bin .Mod (.bin .FloorDiv (.var 5) (.bin .Pow (.c (.int 2)) (.var 9))) (.c (.int 2))) (.c (.int 1))) .nil) (.done (.bin .Pow (.c (.int 2)) (.var 9))))) .nil))))
 (.cons (.asg 7 false (.ite (.cmp .Eq (.bin .Mod (.var 5) (.bin .Pow (.c (.int 2)) (.var 4))) (.c (.int 0))) (.c (.int 1)) (.c (.int 0))))
 (.cons (.for_ 8 (.val (.idx (.var 1) (.var 5))) wo)
 .nil))))
def xt:dw:=(.cons (.ife (.cmp .Eq (.bin .Mod (.bin .FloorDiv (.var 2) (.bin .Pow (.c (.int 2)) (.var 4))) (.c (.int 2))) (.c (.int 1))) Ki .nil) .nil)
section
theorem Uh (h:i<60):(2:Nat)^i<2^64:=Nat.pow_lt_pow_right (by decide) (bw h rfl)
theorem x9 {a b:Ex}{S i:Nat}(h1:ev Φ σ ρ a=some (.int S))(h2:ev Φ σ ρ b=some (.int i))(hi:i<60):ev Φ σ ρ (.cmp .Eq (.bin .Mod (.bin .FloorDiv a (.bin .Pow (.c (.int 2)) b)) (.c (.int 2))) (.c (.int 1)))=some (.bool (fk S i)):=
 pS (x:=S/2^i%2) (y:=1) (dV (y:=2) (jC h1 (jE (x:=2) aR h2 (by decide) (IN hi rfl)) (by have:=jcM (n:=i) (show 0<2 by decide);simp) (Uh hi)) aR (by decide)) aR
end
theorem KS {Φ:cX}{ac:List (List Nat)}{T:List Dk}{S g i:Nat}{acc:Dk}{e5 e6 e7 e8:Option AV}(hn:ac.length<=5)(hi:i<ac.length)(hS:S<32)(hT:T.length=S)(df:∀D∈T,d0 D)(ki:∀D∈T,D.length<=3125)(ha:d0 acc)(mV:acc.length<=20000)(sU:∀j∈ac.getD i [],j<ac.length)(jL:(ac.getD i []).length<=5):
 ∃iz iA iB iC,aE Φ [some (b9 ac),some (.ref 0),some (.int S),some (.ref (g+1)),some (.int i),e5,e6,e7,e8] (cP T g acc) xt=some (.next [some (b9 ac),some (.ref 0),some (.int S),some (.ref (g+1)),some (.int i),iz,iA,iB,iC] (cP T g (di ac T S acc i))):=by
 by_cases hb:fk S i=true
 ·have hp:=Hk S hS i (bf hi hn) hb;have e1:di ac T S acc i=nL (32^i*ie (ac.getD i []) (S-2^i)) (lq (S-2^i) i) acc (T.getD (S-2^i) []):=by unfold di;refine aa (if_pos hb) ?_;rfl
  refine aa e1 ?_;have Fh:=Tr (S:=S-2^i) (λj hj=>bf (sU j hj) hn) jL;have y9:S-2^i<T.length:=by simp[*]
  have oz:T.getD (S-2^i) []∈T:=by
   refine aa Y8 ?_;refine aa (Zc y9) ?_;exact jbF _
  have Yj:=ki _ oz;refine aX (Ho (Φ:=Φ) (ac:=ac) (T:=T) (S:=S) (g:=g) (i:=i) (S':=S-2^i) (sh:=32^i*ie (ac.getD i []) (S-2^i)) (lo:=lq (S-2^i) i) y9 (by lia) (df _ oz) (T.getD (S-2^i) []) acc e8 (λY h=>h) ha (by lia)) λt5 hf=>?_;refine F2 (some (.int (S-2^i:Nat))) (some (.int (32^i*ie (ac.getD i []) (S-2^i):Nat))) (some (.int (lq (S-2^i) i:Nat))) t5 ?_;refine mO ((x9 (ag rfl) (ag rfl) (by lia)).trans (by refine aa hb ?_;rfl)) ?_ bH;refine aT (v:=.int (S-2^i:Nat)) (si (ag rfl) (jE (x:=2) aR (ag rfl) (by decide) (by lia)) hp.2.1) ?_;refine aT (v:=.int (32^i*ie (ac.getD i []) (S-2^i):Nat)) ?_ ?_
  ·refine mK (jE (x:=32) aR (ag rfl) (by decide) (by lia)) (uU (l:=((ac.getD i []).filter (fk (S-2^i))).map (2^·)) ?_ ?_) (jfw (Zz Fh (by decide)))
   ·refine(nX (x:=9) (vs:=aq (ac.getD i [])) (p:=λv=>match v with | .int j=>fk (S-2^i) j.toNat|_=>false) (g:=λv=>match v with | .int j=>.int ((2^j.toNat:Nat):Int)|v=>v) ?_ rfl (by refine aa (Y0 _) ?_;exact bw jL rfl) (λv hv=>?_) (λv hv Y=>?_)).trans ?_
    ·have:∀{ρ:aB},ρ[0]?=some (some (b9 ac))->ρ[4]?=some (some (.int (i:Int)))->ev Φ (cP T g acc) ρ (.idx (.var 0) (.var 4))=some (.lst (aq (ac.getD i []))):=λg0 g4=>by
      refine fX (l:=ac.map λl=>.lst (aq l)) (k:=i) (ag g0) (ag g4) ?_ (by refine aa (Y0 _) ?_;exact bw hn rfl);refine aa ZO ?_;refine aa Y8 ?_;refine aa (Zc hi) ?_;rfl
     rewrite [sb];refine aa (this rfl rfl) ?_;rfl
    ·refine au (Zn.mp hv) ?_;rintro j hj rfl;have:=sU j hj;show _=some (fk (S-2^i) (j:Int).toNat);refine aa (ZB _) ?_;exact kS (x9 (ag rfl) (ag rfl) (by lia))
    ·refine au (Zn.mp hv) ?_;rintro j hj rfl;have:=sU j hj;show _=some (AV.int ((2^(j:Int).toNat:Nat):Int));refine aa (ZB _) ?_;exact jE (x:=2) aR (ag rfl) (by decide) (by lia)
    ·unfold aq;refine aa jce ?_;refine aa ZJ ?_;refine aa ZJ ?_
     congr 2
   ·have:ie (ac.getD i []) (S-2^i)<2^53:=Zz Fh (by decide);exact this
  refine aT (v:=.int (lq (S-2^i) i:Nat)) ?_ ?_
  ·have hc:∀{ρ:aB},ρ[5]?=some (some (.int ((S-2^i:Nat):Int)))->ρ[4]?=some (some (.int (i:Int)))->ev Φ (cP T g acc) ρ (.cmp .Eq (.bin .Mod (.var 5) (.bin .Pow (.c (.int 2)) (.var 4))) (.c (.int 0)))=some (.bool (decide ((S-2^i)%2^i=0))):=λg5 g4 =>
    pS (y:=0) (dV (ag g5) (jE (x:=2) aR (ag g4) (by decide) (by lia)) (by have:=jcM (n:=i) (show 0<2 by decide);exact XZ this)) aR
   unfold lq;by_cases h0:(S-2^i)%2^i=0
   ·refine aa (if_pos h0) ?_;exact pU ((hc rfl rfl).trans (by refine aa (decide_eq_true h0) ?_;rfl)) aR
   ·refine aa (if_neg h0) ?_;exact pT ((hc rfl rfl).trans (by refine aa (decide_eq_false h0) ?_;rfl)) aR
  refine kY (vs:=(T.getD (S-2^i) []).map λe=>AV.int (e.1:Nat)) ?_ hf bH;have hv:∀{ρ:aB},ρ[1]?=some (some (.ref 0))->ρ[5]?=some (some (.int ((S-2^i:Nat):Int)))->ev Φ (cP T g acc) ρ (.idx (.var 1) (.var 5))=some (cR (T.getD (S-2^i) [])):=λg1 g5=>by
   refine uR (j:=0) (k:=S-2^i) (l:=T.map cR) (ag g1) (ag g5) rfl ?_ (by refine aa (Y0 _) ?_;lia);refine aa ZO ?_;refine aa Y8 ?_;refine aa (Zc y9) ?_;rfl
  rw[Db,hv rfl rfl];show some ((cG _).map λe=>AV.int e.1)=_;unfold cG;refine aa ZJ ?_;rfl
 ·have e1:di ac T S acc i=acc:=by unfold di;refine aa (if_neg hb) ?_;rfl
  refine aa e1 ?_;exact F2 e5 e6 e7 e8 (du ((x9 (ag rfl) (ag rfl) (by lia)).trans (by refine aa (jfA.mpr hb) ?_;rfl)) bH bH)
theorem U3 (h:(T.getD (S-2^i) []).length<=3125):(di ac T S acc i).length<=acc.length+3125:=by
 unfold di;split
 ·have:=xb (sh:=32^i*ie (ac.getD i []) (S-2^i)) (lo:=lq (S-2^i) i) (T.getD (S-2^i) []) acc
  lia
 ·exact ZD (jaP acc) 3125
theorem U4 (h:d0 acc):d0 (di ac T S acc i):=by
 unfold di;split
 ·exact xd _ _ h
 ·exact h
theorem U6 {ac:List (List Nat)}{T:List Dk}(gr:iw ac)(hS:S<32)(hT:T.length=S)(df:∀D∈T,d0 D)(ki:∀D∈T,D.length<=3125):
 ∃kR iz iA iB iC,eQ (λρ σ v=>aE Φ (ρ.set 4 (some v)) σ xt) (aq (Y7 ac.length)) [some (b9 ac),some (.ref 0),some (.int S),some (.ref (g+1)),e4,e5,e6,e7,e8] (cP T g []) =
  some (.next [some (b9 ac),some (.ref 0),some (.int S),some (.ref (g+1)),kR,iz,iA,iB,iC] (cP T g (mf ac T S))):=by
 have hn:=gr.le;obtain⟨av,an,h1,kR,iz,iA,iB,iC,rfl,rfl,_,_⟩:=sy (f:=λρ σ v=>aE Φ (ρ.set 4 (some v)) σ xt) (n:=ac.length) (ρ:=[some (b9 ac),some (.ref 0),some (.int S),some (.ref (g+1)),e4,e5,e6,e7,e8]) (σ:=cP T g [])
  (I:=λk ρ σ=>∃e4 e5 e6 e7 e8,ρ=[some (b9 ac),some (.ref 0),some (.int S),some (.ref (g+1)),e4,e5,e6,e7,e8]/\σ=cP T g ((Y7 k).foldl (di ac T S) [])/\d0 ((Y7 k).foldl (di ac T S) [])/\((Y7 k).foldl (di ac T S) []).length<=3125*k)
  ⟨e4,e5,e6,e7,e8,rfl,rfl,jaR,by simp⟩ (by
   rintro k ρ σ hk ⟨e4,e5,e6,e7,e8,rfl,rfl,E9,Yr⟩;refine DE (KS (Φ:=Φ) (ac:=ac) (T:=T) (S:=S) (g:=g) (i:=k) (acc:=(Y7 k).foldl (di ac T S) []) (e5:=e5) (e6:=e6) (e7:=e7) (e8:=e8) hn hk hS hT df ki E9 (by lia) (λj hj=>(gr.sym k j hj).1) (tr 5 _ (gr.nd k) (λj hj=>by have:=(gr.sym k j hj).1;exact bf this hn))) λiz iA iB iC hs=>?_;have e:(Y7 (k+1)).foldl (di ac T S) []=di ac T S ((Y7 k).foldl (di ac T S) []) k:=by
    refine aa jaK ?_;refine aa jim ?_;rfl
   have hl:(T.getD (S-2^k) []).length<=3125:=by
    refine aa Y8 ?_
    induction hh:T[S-2^k]? using ae with
    |none=>simp
    |some D=>exact ki D (ZG hh)
   refine⟨_,_,hs,some (.int k),iz,iA,iB,iC,rfl,by refine aa e ?_;rfl,by refine aa e ?_;exact U4 E9,?_⟩;refine aa e ?_;have:=U3 (ac:=ac) (acc:=(Y7 k).foldl (di ac T S) []) hl
   lia)
 exact z8 kR iz iA iB iC h1
theorem Jn (h1:ρ[1]?=some (some (.ref 0)))(h3:ρ[3]?=some (some (.ref (g+1))))(hl:T.length<=1000)(h:aE Φ ρ (jq (T++[row]) (g+1)) ss=r):
 aE Φ ρ (cP T g row) (.cons (.app (.var 1) (.var 3)) ss)=r:=by
 refine iH ?_ h;have f1:ev Φ (cP T g row) ρ (.var 1)=some (.ref 0):=ag h1;have f3:ev Φ (cP T g row) ρ (.var 3)=some (.ref (g+1)):=ag h3;have fz:lS (cP T g row) (g+1)=some (cR row):=by
  unfold lS;rw[Bb];exact Eg [] 4 row
 have e0:(cP T g row)[0]?=some (.list (T.map cR)):=rfl;rewrite [yx];refine aa f1 ?_;simp only[f3,e0];rw[if_pos (by refine aa (Y0 _) ?_;exact bw hl rfl),if_neg (by lia),fz];show some (Fl.next ρ (((cP T g row).set (g+1) .gone).set 0 (.list (T.map cR++[cR row]))))=_;have:((cP T g row).set (g+1) .gone).set 0 (.list (T.map cR++[cR row]))=jq (T++[row]) (g+1):=by
  unfold cP;rw[jcc,if_neg (by refine aa (oO _ _) ?_;exact Zr (g+1)),oO,jaA];unfold jq;refine aa List.replicate_succ' ?_;refine aa ZS ?_;rfl
 refine aa this ?_;rfl
def Cr:dw:=match yD.body with | .cons _ (.cons (.for_ _ _ b) _)=>b|_=>.nil
theorem KU (gr:iw ac)(hS:s+1<32):
 ∃uN kR iz iA iB iC,aE Φ [some (b9 ac),some (.ref 0),some (.int (s+1:Nat)),e3,e4,e5,e6,e7,e8] (jq (bL ac s) s) Cr =
  some (.next [some (b9 ac),some (.ref 0),some (.int (s+1:Nat)),uN,kR,iz,iA,iB,iC] (jq (bL ac (s+1)) (s+1))):=by
 have hn:=gr.le;have hT:=nx ac s;have df:=H5 ac s;have ki:∀D∈bL ac s,D.length<=3125:=λD hD=>by
  obtain⟨k,hk,rfl⟩:=jhH hD;have h1:=Bk hn (S:=k) (by lia);have h2:=tT ac (k:=k) s (by lia);unfold tab at h1;rw[<-h2,Y8,Zc hk]at h1;exact h1
 refine uX (U6 (Φ:=Φ) (ac:=ac) (T:=bL ac s) (S:=s+1) (g:=s) (e4:=e4) (e5:=e5) (e6:=e6) (e7:=e7) (e8:=e8) gr hS hT df ki) λkR iz iA iB iC hr=>?_;refine RA (some (.ref (s+1))) kR iz iA iB iC ?_;refine sn (v:=.ref (s+1)) (an:=cP (bL ac s) s []) ?_ ?_
 ·show some (AV.ref (jq (bL ac s) s).length,jq (bL ac s) s++[.dict []])=_;refine aa (oO _ _) ?_;rfl
 refine kY (vs:=aq (Y7 ac.length)) (nV (j9 (dK (vs:=[b9 ac]) rfl ?_) (bw hn rfl))) hr ?_
 ·show fL (ac.map λl=>AV.lst (aq l)).length=_;refine aa (Y0 _) ?_;unfold fL;refine aa (if_pos (bw hn rfl)) ?_;rfl
 exact Jn rfl rfl (by lia) bH
theorem NM (gr:iw ac):Fi (N+1) 19 [b9 ac]=some (.lst ((bL ac (2^ac.length-1)).map cR)):=by
 have hn:=gr.le;have mU:2^ac.length<=32:=Y1 (Zl (by decide) hn) (by decide);refine fB (N:=N) On rfl ?_;show aE (Fi N) [some (b9 ac),none,none,none,none,none,none,none,none] [] yD.body=_;refine sn (v:=.ref 0) (an:=jq (bL ac 0) 0) rfl ?_;obtain⟨av,an,h1,Yd,uN,kR,iz,iA,iB,iC,rfl,rfl⟩:=sx (f:=λρ σ v=>aE (Fi N) (ρ.set 2 (some v)) σ Cr) (g:=λ(i:Nat)=>AV.int i)
  (I:=λpre ρ σ=>∃e2 e3 e4 e5 e6 e7 e8,ρ=[some (b9 ac),some (.ref 0),e2,e3,e4,e5,e6,e7,e8]/\σ=jq (bL ac pre.length) pre.length) (ZT 1 (2^ac.length-1)) [] [some (b9 ac),some (.ref 0),none,none,none,none,none,none,none] (jq (bL ac 0) 0)
  ⟨none,none,none,none,none,none,none,rfl,rfl⟩ (by
   rintro p x q ρ σ e ⟨e2,e3,e4,e5,e6,e7,e8,rfl,rfl⟩;have e:ZT 1 (2^ac.length-1)=p++x::q:=e;have hx:x=p.length+1:=by
    have h1:(ZT 1 (2^ac.length-1))[p.length]?=some x:=by refine aa e ?_;simp
    rw[ZA]at h1;refine aX h1 λY h1=>?_;rw[List.getElem_range']at h1
    lia
   have a0:p.length<2^ac.length-1:=by
    have:=congrArg jaP e;rw[jbG,Za,Zo]at this;simp[*]
   refine Nm (KU (Φ:=Fi N) (ac:=ac) (s:=p.length) (e3:=e3) (e4:=e4) (e5:=e5) (e6:=e6) (e7:=e7) (e8:=e8) gr (by omega)) λuN kR iz iA iB iC ht=>?_;subst hx;refine⟨_,_,ht,some (.int (p.length+1:Nat)),uN,kR,iz,iA,iB,iC,rfl,?_⟩;refine aa Za ?_;rfl)
 rw[jaY,jbG]at *;refine kY (vs:=aq (ZT 1 (2^ac.length-1))) (nV (x5 (a:=1) aR (jE (x:=2) aR (dK (vs:=[b9 ac]) rfl ?_) (by decide) (bw hn rfl)) (bw mU rfl) (jcg 1 99999))) h1 ?_
 ·show fL (ac.map λl=>AV.lst (aq l)).length=_;refine aa (Y0 _) ?_;unfold fL;refine aa (if_pos (bw hn rfl)) ?_;rfl
 refine dX (v:=.ref 0) rfl ?_;show(bj (aZ _ 5) ((bL ac (2^ac.length-1)).map cR)).map AV.lst=_;rw[oJ (g:=id) _ (λa ha=>?_),jbX];rfl;refine au (Zn.mp ha) ?_;rintro D _ rfl;exact Eg _ 3 D
def mA (D:Dk)(n c:Nat):Nat:=D.countP λe=>decide ((Y7 n).filter (λi=>decide (e.1/32^i%32=0))=[c])
def dT (D:Dk)(n:Nat):List Nat:=mA D n 0::(ZT 2 (n-1)).map λk=>D.countP λe=>decide (e.2=k)
def hN (b:Nat)(ds:List Nat):Nat:=ds.foldr (λd s=>b*(d+s)) 0
def hI (h:Int)(ds:List Nat):Int:=ds.foldr (λ(d:Nat) (s:Int)=>h*((d:Int)-s)) 0
def i6 (ac:List (List Nat)):Nat:=((Y7 (2^ac.length)).map λS=>(tab ac S).length*(tab ac (2^ac.length-1-S)).length).sum
def tK (n:Nat)(a:Int):Int:=if n%2=1 then a else -a
structure o4 (ac:List (List Nat)):Prop where
 alone:∀c,c<ac.length->mA (tab ac (2^ac.length-1)) ac.length c=mA (tab ac (2^ac.length-1)) ac.length 0
 sum:(dT (tab ac (2^ac.length-1)) ac.length).sum=(tab ac (2^ac.length-1)).length
 lm:(dT (tab ac (2^ac.length-1)) ac.length).getD (ac.length-1) 0=1
 deals:hN 2 (dT (tab ac (2^ac.length-1)) ac.length)=i6 ac
 dpos:0<i6 ac
 dlt:i6 ac<1000
 paint:∀h:Nat,h=1\/h=2\/h=3->hI (h:Int) (dT (tab ac (2^ac.length-1)) ac.length)=tK ac.length ((ci h ac ac.length).length:Nat)
abbrev gm {α:Type}(f t:α)(b:Bool):α:=Bool.rec (motive:=λY=>α) f t b
abbrev oL {α:Type}(z s:α)(n:Nat):α:=Nat.rec (motive:=λY=>α) z (λY Y=>s) n
def sA {β:Type}(l:Dk):(Dk->β)->β:=jcd (motive:=λY=>(Dk->β)->β) (λk=>k []) (λe Y ih k=>dY e.1 λa=>dY e.2 λb=>ih λt=>k ((a,b)::t)) l
theorem yN {β:Type}:∀(l:Dk) (k:Dk->β),sA l k=k l
 | [],k=>rfl
 |e::l,k=>by
  show dY e.1 (λa=>dY e.2 λb=>sA l λt=>k ((a,b)::t))=_;rw[kg,kg,yN l]
def mT {β:Type}(l:List Nat):(List Nat->β)->β:=jcd (motive:=λY=>(List Nat->β)->β) (λk=>k []) (λe Y ih k=>dY e λa=>ih λt=>k (a::t)) l
theorem yM {β:Type}:∀(l:List Nat) (k:List Nat->β),mT l k=k l
 | [],k=>rfl
 |e::l,k=>by
  show dY e (λa=>mT l λt=>k (a::t))=_;rw[kg,yM l]
def yL {β:Type}(l:List (List Nat)):(List (List Nat)->β)->β:=jcd (motive:=λY=>(List (List Nat)->β)->β) (λk=>k []) (λe Y ih k=>mT e λa=>ih λt=>k (a::t)) l
theorem Eb {β:Type}:∀(l:List (List Nat)) (k:List (List Nat)->β),yL l k=k l
 | [],k=>rfl
 |e::l,k=>by
  show mT e (λa=>yL l λt=>k (a::t))=_;rw[yM,Eb l]
theorem py (a b:Nat):jaW a b=decide (a=b):=by
 rw[jaM,decide_eq_true_iff];exact⟨jco,λh=>h▸Nat.beq_refl a⟩
def wH (l:Dk):Nat->Nat->Dk:=jcd (motive:=λY=>Nat->Nat->Dk) (λk v=>[(k,v)]) (λe t ih k v=>gm (e::ih k v) ((e.1,oL e.2 v (v-e.2))::t) (jaW e.1 k)) l
theorem Ir:∀(l:Dk) (k v:Nat),wH l k v=gC l k v
 | [],k,v=>rfl
 |(a,b)::t,k,v=>by
  show gm ((a,b)::wH t k v) ((a,oL b v (v-b))::t) (jaW a k)=_;refine aa (Ir t _ _) ?_;have e:gC ((a,b)::t) k v=if a=k then(a,max b v)::t else(a,b)::gC t k v:=by rw[wG]
  refine aa e ?_;refine aa (py _ _) ?_;by_cases h:a=k
  ·refine aa (if_pos h) ?_;refine aa (decide_eq_true h) ?_;show((a,oL b v (v-b))::t:Dk)=_
   congr 2
   induction hv:v-b using jaw with
   |zero=>exact(Nat.max_eq_left (Nat.le_of_sub_eq_zero hv)).symm
   |succ m=>exact(Nat.max_eq_right (ZM (BD hv))).symm
  ·refine aa (if_neg h) ?_;refine aa (decide_eq_false h) ?_;rfl
def rF {β:Type}(sh lo:Nat)(l:Dk):Dk->(Dk->β)->β:=jcd (motive:=λY=>Dk->(Dk->β)->β) (λacc k=>k acc) (λe Y ih acc k=>dY (e.1+sh) λx=>dY (e.2+lo) λv=>ih (wH acc x v) k) l
theorem BY {β:Type}(sh lo:Nat):∀(l acc:Dk) (k:Dk->β),rF sh lo l acc k=k (nL sh lo acc l)
 | [],acc,k=>rfl
 |e::l,acc,k=>by
  show dY (e.1+sh) (λx=>dY (e.2+lo) λv=>rF sh lo l (wH acc x v) k)=_;rw[kg,kg,BY sh lo l,Ir];rfl
def qI {α:Type}(d:α)(l:List α):Nat->α:=jcd (motive:=λY=>Nat->α) (λY=>d) (λa Y ih n=>Nat.rec a (λm Y=>ih m) n) l
theorem AJ {α:Type}(d:α):∀(l:List α) (n:Nat),qI d l n=l.getD n d
 | [],n=>rfl
 |a::l,0=>rfl
 |a::l,n+1=>by
  show qI d l n=_;refine aa (AJ d l _) ?_;rfl
def rK (S j:Nat):Bool:=jaW (S/2^j%2) 1
theorem Cc (S j:Nat):rK S j=fk S j:=py _ _
def qH (nl:List Nat)(S:Nat):Nat:=jcd 0 (λj Y ih=>gm ih (2^j+ih) (rK S j)) nl
theorem GS (S:Nat):∀nl:List Nat,qH nl S=ie nl S
 | []=>rfl
 |j::nl=>by
  show gm (qH nl S) (2^j+qH nl S) (rK S j)=_;refine aa (GS S nl) ?_;refine aa (Cc _ _) ?_;unfold ie;refine aa jcv ?_
  induction fk S j using ZH with
  |true=>rfl
  |false=>rfl
def oM {β:Type}(ac:List (List Nat))(TR:List Dk)(S:Nat)(i:Nat)(acc:Dk)(k:Dk->β):β :=
 jcd (motive:=λY=>Nat->Dk->β) (λY acc=>sA acc k)
  (λnl Y ih i acc=>gm (ih (i+1) acc) (dY (S-2^i) λS'=>dY (32^i*qH nl S') λsh=>rF sh (oL 1 0 (S'%2^i)) (qI [] TR (S-1-S')) acc λacc=>ih (i+1) acc) (rK S i)) ac i acc
theorem HA {β:Type}(hT:T.length=S)(k:Dk->β):∀(az pre:List (List Nat)) (acc:Dk),(∀i,fk S i=true->2^i<=S/\0<S) ->
 oM az T.reverse S pre.length acc k=k ((ZT pre.length az.length).foldl (di (pre++az) T S) acc)
 | [],pre,acc,_=>by
  show sA acc k=_;refine aa (yN _ _) ?_;rfl
 |nl::az,pre,acc,hb=>by
  have ih:=λacc=>HA hT k az (pre++[nl]) acc hb;have hl:(pre++[nl]).length=pre.length+1:=by refine aa Za ?_;rfl
  rw[hl]at ih;have lZ:pre++[nl]++az=pre++nl::az:=by rw[jaz];rfl
  rw[lZ]at ih;refine aa Zo ?_;refine aa jdc ?_;refine aa jcG ?_;have qr:(pre++nl::az).getD pre.length []=nl:=by
   refine aa Y8 ?_;refine aa (Zg (Y5 _)) ?_;refine aa (jaA _) ?_;rfl
  show gm (oM az T.reverse S (pre.length+1) acc k) (dY (S-2^pre.length) λS'=>dY (32^pre.length*qH nl S') λsh=>rF sh (oL 1 0 (S'%2^pre.length)) (qI [] T.reverse (S-1-S')) acc λacc=>oM az T.reverse S (pre.length+1) acc k) (rK S pre.length)=_;refine aa (Cc _ _) ?_;unfold di;refine aa qr ?_
  induction zb:fk S pre.length using ZH with
  |false =>
   show oM az T.reverse S (pre.length+1) acc k=_;refine aa (ih _) ?_;rfl
  |true =>
   show(dY (S-2^pre.length) λS'=>dY (32^pre.length*qH nl S') λsh=>rF sh (oL 1 0 (S'%2^pre.length)) (qI [] T.reverse (S-1-S')) acc λacc=>oM az T.reverse S (pre.length+1) acc k)=_;refine bN (hb pre.length zb) λh1 h2=>?_;have hp:=jcM (n:=pre.length) (show 0<2 by decide);refine aa (kg _ _) ?_;refine aa (kg _ _) ?_;rewrite [BY];refine aa (ih _) ?_;refine aa (GS _ _) ?_;rw[AJ];have e1:T.reverse.getD (S-1-(S-2^pre.length)) []=T.getD (S-2^pre.length) []:=by
    refine aa Y8 ?_;refine aa (jeG (by rw[hT];exact Zz (jih _ _) (jig h2 Nat.one_pos))) ?_;refine aa Y8 ?_
    congr 2
    rw[hT];exact Nat.sub_sub_self (Nat.le_sub_one_of_lt (jig h2 hp))
   have e2:(oL 1 0 ((S-2^pre.length)%2^pre.length):Nat)=lq (S-2^pre.length) pre.length:=by
    unfold lq
    induction(S-2^pre.length)%2^pre.length using jaw with
    |zero=>rfl
    |succ m=>rfl
   refine aa e1 ?_;refine aa e2 ?_;rfl
def Bl {β:Type}(ac:List (List Nat))(n:Nat):(List Dk->β)->β:=Nat.rec (motive:=λY=>(List Dk->β)->β) (λk=>k [[(0,0)]]) (λs ih k=>ih λTR=>dY (s+1) λS=>oM ac TR S 0 [] λr=>k (r::TR)) n
theorem JT (h:fk S i=true):2^i<=S/\0<S:=by
 unfold fk at h;have h:=of_decide_eq_true h;have hp:=jcM (n:=i) (show 0<2 by decide);have:2^i<=S:=by
  rcases jca S (2^i)with a0|lX
  ·rw[jet a0]at h;cases h
  ·exact lX
 lia
theorem H4 {β:Type}(ac:List (List Nat)):∀(n:Nat) (k:List Dk->β),Bl ac n k=k (bL ac n).reverse
 |0,k=>rfl
 |s+1,k=>by
  show Bl ac s (λTR=>dY (s+1) λS=>oM ac TR S 0 [] λr=>k (r::TR))=_;refine aa (H4 ac s _) ?_;refine aa (kg _ _) ?_;have:=HA (T:=bL ac s) (S:=s+1) (nx ac s) (λr=>k (r::(bL ac s).reverse)) ac [] [] (λi hi=>JT hi);rw[jbp,jaY]at this;refine aa this ?_
  conv=>rhs;rw[oP]
  refine aa jhG ?_;refine rwj jdp ?_;rfl
def lM (h:Nat):List (List Nat)->Nat->List Nat->Nat
 | [],_,_=>1
 |nl::az,i,c=>((Y7 h).map λl=>if ga nl i c l then lM h az (i+1) (c++[l])else 0).sum
theorem K1:lM h [] y x=1:=rfl
theorem Cv:lM h (nl::az) y x =
 List.sum (jfy (λl=>if ga nl y x l=true then lM h az (y+1) (x++[l])else 0) (Y7 h)):=rfl
theorem H0 {α β:Type}(f:β->Nat)(g:α->List β):∀l:List α,((l.flatMap g).map f).sum=(l.map λa=>((g a).map f).sum).sum
 | []=>rfl
 |a::l=>by
  refine aa jaq ?_;refine aa ZS ?_;refine aa jiR ?_;refine aa (H0 f g l) ?_;refine aa ZC ?_;refine aa jal ?_;rfl
theorem HZ {α:Type}(p:α->Bool)(f:α->Nat):∀l:List α,((l.filter p).map f).sum=(l.map λa=>if p a then f a else 0).sum
 | []=>rfl
 |a::l=>by
  refine aa jcv ?_;refine aa ZC ?_;refine aa jal ?_;refine rwj (HZ p f l) ?_
  induction p a using ZH with
  |true=>rfl
  |false=>simp
theorem Hc (h:Nat):∀(az pre:List (List Nat)),((ci h (pre++az) pre.length).map (lM h az pre.length)).sum=(ci h (pre++az) (pre.length+az.length)).length
 | [],pre=>by
  have:∀l:List (List Nat),(l.map (lM h [] pre.length)).sum=l.length:=λl=>by
   induction l with
   |nil=>rfl
   |cons a l ih=>refine aa ZC ?_;refine aa jal ?_;refine aa ih ?_;refine aa Zo ?_;rw[K1];exact jfk (jbA l.length 1)
  exact this _
 |nl::az,pre=>by
  have ih:=Hc h az (pre++[nl]);have hl:(pre++[nl]).length=pre.length+1:=by refine aa Za ?_;rfl
  have lZ:pre++[nl]++az=pre++nl::az:=by rw[jaz];rfl
  rw[hl,lZ]at ih;refine aa Zo ?_;refine aa (show pre.length+(az.length+1)=pre.length+1+az.length from jfk (jdU pre.length 1 az.length)) ?_;refine rwj ih ?_
  conv=>rhs;rw[qJ]
  rw[H0]
  congr 1
  refine jdz λc Y=>?_;have qr:(pre++nl::az).getD pre.length []=nl:=by
   refine aa Y8 ?_;refine aa (Zg (Y5 _)) ?_;refine aa (jaA _) ?_;rfl
  refine aa qr ?_;refine aa ZJ ?_;rw[HZ]
  conv=>lhs;rw[Cv]
  rfl
def j5 (ms:List Nat):Nat->Nat->Nat->Nat->Nat:=jcd (motive:=λY=>Nat->Nat->Nat->Nat->Nat) (λY Y Y Y=>1)
 (λm Y ih b x y z=>Nat.add (gm 0 (ih (2*b) (jcY x b) y z) (jaW (jdS m x) 0)) (Nat.add (gm 0 (ih (2*b) x (jcY y b) z) (jaW (jdS m y) 0)) (gm 0 (ih (2*b) x y (jcY z b)) (jaW (jdS m z) 0)))) ms
def fy (nl:List Nat):Nat:=jcd 32 (λj Y ih=>jcY (2^j) ih) nl
theorem we (i:Nat):∀nl:List Nat,(fy nl).testBit i=(decide (i∈nl)||decide (i=5))
 | []=>by
  show(2^5:Nat).testBit i=_;rw[jbv];have:decide (i∈([]:List Nat))=false:=by simp
  rw[this,jjj];exact decide_eq_decide.mpr ⟨λh=>h.symm,λh=>h.symm⟩
 |j::nl=>by
  show(2^j ||| fy nl).testBit i=_;rw[jgI,we i nl,jbv,<-Bool.or_assoc]
  congr 1
  rw[jaM,jbr,decide_eq_true_iff,decide_eq_true_iff,decide_eq_true_iff,ZQ];exact⟨λh=>h.elim (λh=>jcu h.symm) jfw,λh=>h.elim (λh=>jcu h.symm) jfw⟩
def fV (h:Nat)(c:List Nat)(l x:Nat):Prop:=if l<h then∀j,x.testBit j=(decide (j<c.length)&&decide (c.getD j 0=l))else∀j,5<=j->x.testBit j=decide (j=5)
theorem Ak (hx:fV h c l x)(hc:c.length<=5)(jL:∀j∈nl,j<5):jaW (jdS (fy nl) x) 0=(decide (l<h)&&ga nl c.length c l):=by
 unfold fV at hx;rw[py,jaM,decide_eq_true_iff,Zv,decide_eq_true_iff];by_cases hl:l<h
 ·rw[if_pos hl]at hx;unfold ga;rw[Y6];constructor
  ·intro h0;refine⟨hl,λj hj=>?_⟩;have:(fy nl &&& x).testBit j=false:=by
    show(jdS (fy nl) x).testBit j=false;rw[h0];exact jdo j
   rw[jeD,we,hx j,decide_eq_true hj,Bool.true_or,jcC]at this;rw[this];rfl
  ·rintro⟨_,h0⟩;refine jeY λj=>?_;rw[jdo];show(fy nl &&& x).testBit j=false;rw[jeD,we,hx j];by_cases hj:j∈nl
   ·have:=h0 j hj;rw[jbO]at this;rw[this,jgx]
   ·by_cases h5:j<c.length
    ·rw[decide_eq_false hj,decide_eq_false (by lia)];rfl
    ·rw[decide_eq_false h5,jgw,jgx]
 ·rw[if_neg hl]at hx;constructor
  ·intro h0;exfalso;have:(fy nl &&& x).testBit 5=false:=by
    show(jdS (fy nl) x).testBit 5=false;rw[h0];exact jdo 5
   rw[jeD,we,hx 5 (jbK)]at this;simp at this
  ·rintro⟨h0,_⟩;exact absurd h0 hl
theorem ma (hx:fV h c l x)(hc:c.length<5)(hZ:l'<h):fV h (c++[l']) l (if l=l' then jcY x (2^c.length)else x):=by
 unfold fV at *;by_cases hl:l<h
 ·rw[if_pos hl]at hx ⊢;intro j;have hg:(c++[l']).getD j 0=if j=c.length then l' else c.getD j 0:=by
   refine aa Y8 ?_;refine aa Y8 ?_;by_cases hj:j<c.length
   ·refine aa (Zt hj) ?_;refine aa (if_neg (by lia)) ?_;rfl
   ·refine aa (Zg (q6 hj)) ?_;by_cases e:j=c.length
    ·refine aa (if_pos e) ?_;refine aa e ?_;refine aa (jaA _) ?_;rfl
    ·refine aa (if_neg e) ?_;refine aa (jci (by simp;lia)) ?_;refine aa (jci (q6 hj)) ?_;rfl
  refine aa hg ?_;refine aa Za ?_;refine aa jbf ?_;by_cases e:l=l'
  ·refine aa (if_pos e) ?_;show(x ||| 2^c.length).testBit j=_;rewrite [jgI];refine aa jbv ?_;refine aa (hx j) ?_;by_cases hj:j=c.length
   ·subst hj;refine aa (if_pos rfl) ?_;refine aa (decide_eq_true e.symm) ?_;simp
   ·have h9:decide (c.length=j)=false:=decide_eq_false (λh=>hj h.symm);refine aa (if_neg hj) ?_;refine aa h9 ?_;refine aa (Bool.or_false _) ?_
    congr 1
    exact decide_eq_decide.mpr (by lia)
  ·refine aa (if_neg e) ?_;refine aa (hx j) ?_;by_cases hj:j=c.length
   ·subst hj;have h9:decide (l'=l)=false:=decide_eq_false (λh=>e h.symm);refine aa (if_pos rfl) ?_;refine aa (decide_eq_false (Zr _)) ?_;refine aa h9 ?_;refine aa (jgw _) ?_;refine aa (jgx _) ?_;rfl
   ·refine aa (if_neg hj) ?_
    congr 1
    exact decide_eq_decide.mpr (by lia)
 ·rw[if_neg hl]at hx ⊢;have e:l≠l':=by lia
  refine aa (if_neg e) ?_;exact hx
theorem Cw (h1:1<=h)(h3:h<=3):∀(az:List (List Nat)) (c:List Nat) (x y z:Nat),c.length+az.length<=5->(∀nl∈az,∀j∈nl,j<5)->fV h c 0 x->fV h c 1 y->fV h c 2 z ->
 j5 (az.map fy) (2^c.length) x y z=lM h az c.length c
 | [],c,x,y,z,_,_,_,_,_=>rfl
 |nl::az,c,x,y,z,aO,hn,hx,hy,hz=>by
  rw[Zo]at aO;have hc:c.length<5:=qZ aO;have jL:=hn nl (by simp);have ih:∀l' x' y' z',fV h (c++[l']) 0 x'->fV h (c++[l']) 1 y'->fV h (c++[l']) 2 z'->j5 (az.map fy) (2*2^c.length) x' y' z'=lM h az (c.length+1) (c++[l']):=λl' x' y' z' a1 a2 a3=>by
   have:=Cw h1 h3 az (c++[l']) x' y' z' (by refine aa Za ?_;refine aa jbf ?_;exact ub aO) (λTz hm=>hn Tz (by simp[hm])) a1 a2 a3;rw[Za,jbf,jcV,jaN]at this;exact this
  show gm 0 (j5 (az.map fy) (2*2^c.length) (jcY x (2^c.length)) y z) (jaW (jdS (fy nl) x) 0)+(gm 0 (j5 (az.map fy) (2*2^c.length) x (jcY y (2^c.length)) z) (jaW (jdS (fy nl) y) 0)+gm 0 (j5 (az.map fy) (2*2^c.length) x y (jcY z (2^c.length))) (jaW (jdS (fy nl) z) 0))=_;refine aa (Ak hx (ZM hc) jL) ?_;refine aa (Ak hy (ZM hc) jL) ?_;refine aa (Ak hz (ZM hc) jL) ?_;have Bm:∀l x' y' z',(l<h->fV h (c++[l]) 0 x'/\fV h (c++[l]) 1 y'/\fV h (c++[l]) 2 z')->gm 0 (j5 (az.map fy) (2*2^c.length) x' y' z') (decide (l<h)&&ga nl c.length c l)=if l<h then(if ga nl c.length c l then lM h az (c.length+1) (c++[l])else 0)else 0:=λl x' y' z' hm=>by
   by_cases hl:l<h
   ·refine fY (hm hl) λa1 a2 a3=>?_;refine aa (decide_eq_true hl) ?_;refine aa (if_pos hl) ?_;refine aa (jcC _) ?_;refine aa (ih l x' y' z' a1 a2 a3) ?_;cases ga nl c.length c l<;>rfl
   ·refine aa (decide_eq_false hl) ?_;refine aa (if_neg hl) ?_;rfl
  refine aa (Bm 0 (jcY x (2^c.length)) y z (λhl=>cz (ma hx hc hl) (ma hy hc hl) (ma hz hc hl))) ?_;refine aa (Bm 1 x (jcY y (2^c.length)) z (λhl=>cz (ma hx hc hl) (ma hy hc hl) (ma hz hc hl))) ?_;refine aa (Bm 2 x y (jcY z (2^c.length)) (λhl=>cz (ma hx hc hl) (ma hy hc hl) (ma hz hc hl))) ?_
  conv=>rhs;rw[Cv]
  have:h=1\/h=2\/h=3:=by lia
  rcases this with rfl|rfl|rfl
  ·simp[jaK]
  ·simp[jaK]
  ·simp[jaK]
theorem AM (h1:1<=h)(h3:h<=3)(hn:ac.length<=5)(hj:∀nl∈ac,∀j∈nl,j<5):
 j5 (ac.map fy) 1 0 (if 1<h then 0 else 32) (if 2<h then 0 else 32)=(ci h ac ac.length).length:=by
 have m0:∀l,l<h->fV h [] l 0:=λl hl=>by
  unfold fV;refine aa (if_pos hl) ?_;intro j;refine aa (jdo _) ?_;rfl
 have m1:∀l,¬l<h->fV h [] l 32:=λl hl=>by
  unfold fV;refine aa (if_neg hl) ?_;intro j _;show(2^5:Nat).testBit j=_;refine aa jbv ?_;exact decide_eq_decide.mpr ⟨λh=>h.symm,λh=>h.symm⟩
 have:=Cw h1 h3 ac [] 0 (if 1<h then 0 else 32) (if 2<h then 0 else 32) (by simpa using hn) hj (m0 0 (h1)) (by split;exact m0 1 (by omega);exact m1 1 (by omega)) (by split;exact m0 2 (by omega);exact m1 2 (by omega));have p:=Hc h ac [];rw[jaY,jbp,jey]at p;refine rwj p ?_;show j5 (ac.map fy) (2^0) 0 _ _=_;rw[jbp]at this;refine aa this ?_;rfl
def to {α:Type}(l:List α):Nat:=jcd 0 (λY Y ih=>jcf ih) l
theorem Al {α:Type}:∀l:List α,to l=l.length
 | []=>rfl
 |a::l=>by
  show jcf (to l)=_;refine aa (Al l) ?_;rfl
def kO {α:Type}(p:α->Bool)(l:List α):Nat:=jcd 0 (λa Y ih=>gm ih (jcf ih) (p a)) l
theorem xJ {α:Type}(p:α->Bool):∀l:List α,kO p l=l.countP p
 | []=>rfl
 |a::l=>by
  show gm (kO p l) (jcf (kO p l)) (p a)=_;refine aa (xJ p l) ?_;refine aa jeq ?_;cases p a<;>rfl
def lE (l:List Nat)(k:Nat):Nat:=jcd 0 (λi Y ih=>gm ih (jcY (2^i) ih) (jaW (k/32^i%32) 0)) l
theorem wM (k j:Nat):∀l:List Nat,(lE l k).testBit j=decide (j∈l.filter λi=>decide (k/32^i%32=0))
 | []=>by
  show(0:Nat).testBit j=_;rw[jdo];simp
 |i::l=>by
  show(gm (lE l k) (jcY (2^i) (lE l k)) (jaW (k/32^i%32) 0)).testBit j=_;rw[py,jcv]
  induction decide (k/32^i%32=0)using ZH with
  |false=>exact wM k j l
  |true =>
   show(2^i ||| lE l k).testBit j=decide (j∈i::_);rw[jgI,wM k j l,jbv,jaM,jbr,decide_eq_true_iff,decide_eq_true_iff,decide_eq_true_iff,ZQ];exact⟨λh=>h.elim (λh=>jcu h.symm) jfw,λh=>h.elim (λh=>jcu h.symm) jfw⟩
theorem TF (hd:l.Nodup)(h:∀x,x∈l↔x=c):l=[c]:=by
 match l,hd,h with
 | [],_,h=>exact absurd ((h c).mpr rfl) (by simp)
 | [a],_,h=>refine aa ((h a).mp (by simp)) ?_;rfl
 |a::b::l,hd,h =>
  have h1:=(h a).mp (by simp);have h2:=(h b).mp (by simp);rw[jaL]at hd;exact absurd (by refine aa h1 ?_;refine aa h2 ?_;simp:a∈b::l) hd.1
theorem XY (n k c:Nat):jaW (lE (Y7 n) k) (2^c)=decide ((Y7 n).filter (λi=>decide (k/32^i%32=0))=[c]):=by
 rw[py];refine decide_eq_decide.mpr ⟨λh=>TF (jiv.filter _) λx=>?_,λh=>jeY λj=>?_⟩
 ·have:=wM k x (Y7 n);rw[h,jbv]at this;rw[decide_eq_decide]at this;exact⟨λhx=>(this.mpr hx).symm,λhx=>this.mp hx.symm⟩
 ·rw[wM,h,jbv];exact decide_eq_decide.mpr (by rw[Zq];exact⟨λh=>h.symm,λh=>h.symm⟩)
def BE {β:Type}(rg:List Nat)(d:Dk):(List Nat->β)->β:=jcd (motive:=λY=>(List Nat->β)->β) (λk=>k []) (λe Y ih k=>dY (lE rg e.1) λz=>ih λt=>k (z::t)) d
theorem IP {β:Type}(rg:List Nat):∀(d:Dk) (k:List Nat->β),BE rg d k=k (d.map λe=>lE rg e.1)
 | [],k=>rfl
 |e::d,k=>by
  show dY (lE rg e.1) (λz=>BE rg d λt=>k (z::t))=_;rw[kg,IP rg d];rfl
def dS (ac:List (List Nat)):Bool :=
 yL ac λac=>dY ac.length λn=>dY (2^n-1) λF=>mT (Y7 n) λrg =>
 Bl ac F λTR=>sA (qI [] TR 0) λD=>BE rg D λzs =>
 mT (kO (λz=>jaW z (2^0)) zs::(ZT 2 (n-1)).map λk=>kO (λe=>jaW e.2 k) D) λds =>
 mT (TR.map to) λls=>dY ((List.zipWith (·*·) ls ls.reverse).sum) λde=>mT (ac.map fy) λms =>
 rg.all (λc=>jaW (kO (λz=>jaW z (2^c)) zs) (kO (λz=>jaW z (2^0)) zs))&&jaW ds.sum (to D)&&jaW (ds.getD (n-1) 0) 1 &&
 jaW (hN 2 ds) de&&jgt 1 de&&jgt de 999&&decide (hI (1:Nat) ds=tK n (j5 ms 1 0 32 32:Nat))&&decide (hI (2:Nat) ds=tK n (j5 ms 1 0 0 32:Nat))&&decide (hI (3:Nat) ds=tK n (j5 ms 1 0 0 0:Nat))
theorem Lw (f:Nat->Nat)(N:Nat):(List.zipWith (·*·) ((Y7 N).map f).reverse ((Y7 N).map f).reverse.reverse)=(Y7 N).map λS=>f S*f (N-1-S):=by
 rw[List.reverse_reverse];refine jep (by simp) λi h1 h2=>?_;simp only[Y0,jaf]at h2;rw[List.getElem_zipWith,List.getElem_reverse,jbR,jbR,jbR,jdK,jdK,jaN];simp
theorem KP (h0:1<=ac.length)(hn:ac.length<=5)(hj:∀nl∈ac,∀j∈nl,j<5)(h:dS ac=true):o4 ac:=by
 unfold dS at h;simp only[Eb,kg,yM,yN,H4,IP,AJ]at h;have hp:=jcM (n:=ac.length) (show 0<2 by decide);have aO:=nx ac (2^ac.length-1);have eD:(bL ac (2^ac.length-1)).reverse.getD 0 []=tab ac (2^ac.length-1):=by
  unfold tab;refine aa Y8 ?_;refine aa (jeG (by simp[*])) ?_;refine aa Y8 ?_
  congr 2
  simp[*]
 rw[eD]at h;have eA:∀c,kO (λz=>jaW z (2^c)) ((tab ac (2^ac.length-1)).map λe=>lE (Y7 ac.length) e.1)=mA (tab ac (2^ac.length-1)) ac.length c:=λc=>by
  refine aa (xJ _ _) ?_;refine aa jfY ?_;unfold mA
  congr 1
  funext e;exact XY _ _ _
 have L1:(kO (λz=>jaW z (2^0)) ((tab ac (2^ac.length-1)).map λe=>lE (Y7 ac.length) e.1)::(ZT 2 (ac.length-1)).map λk=>kO (λe=>jaW e.2 k) (tab ac (2^ac.length-1)))=dT (tab ac (2^ac.length-1)) ac.length:=by
  refine aa (eA 0) ?_;unfold dT
  congr 1
  refine jdz λk Y=>?_;refine aa (xJ _ _) ?_
  congr 1
  funext e;exact py _ _
 rw[L1]at h;simp only[eA]at h;have eL:(bL ac (2^ac.length-1)).reverse.map to=((Y7 (2^ac.length)).map λS=>(tab ac S).length).reverse:=by
  refine aa jfN ?_
  congr 1
  refine jep (by refine aa (Y0 _) ?_;refine aa (Y0 _) ?_;refine aa jaf ?_;lia) λi h1 h2=>?_;rw[Y0]at h1;refine aa (jbR _) ?_;refine aa (jbR _) ?_;refine aa (jdK _) ?_;refine aa (Al _) ?_;have e1:=tT ac (k:=i) (2^ac.length-1) (by lia);rw[Y8,Zc h1]at e1;unfold tab;refine rwj e1 ?_;rfl
 rw[eL,Lw (λS=>(tab ac S).length) (2^ac.length)]at h;have L0:((Y7 (2^ac.length)).map λS=>(tab ac S).length*(tab ac (2^ac.length-1-S)).length).sum=i6 ac:=rfl;rw[L0,Al]at h;simp only[Zv]at h;refine bN h λz1 c9=>?_;obtain⟨⟨⟨⟨⟨⟨⟨c1,c2⟩,c3⟩,c4⟩,c5⟩,c6⟩,c7⟩,c8⟩:=z1;have p1:=AM (h:=1) (by decide) (by decide) hn hj;have p2:=AM (h:=2) (by decide) (by decide) hn hj;have p3:=AM (h:=3) (by decide) (by decide) hn hj;refine⟨λc hc=>?_,jco c2,jco c3,jco c4,jbg c5,jfE (jbg c6),?_⟩
 ·exact jco (Y6.mp c1 c (ZI.mpr hc))
 ·rintro h (rfl|rfl|rfl)
  ·refine rwj p1 ?_;exact of_decide_eq_true c7
  ·refine rwj p2 ?_;exact of_decide_eq_true c8
  ·refine rwj p3 ?_;exact of_decide_eq_true c9
def ek:Nat->List (List Nat)
 |0=>[[]]
 |n+1=>(ek n).flatMap λs=>[s,s++[n]]
theorem V2:ek (n+1)=jhe (λs=>[s,s++[n]]) (ek n):=rfl
def eP (n:Nat)(g:List (List Nat))(S:List Nat):List (List Nat):=((Y7 n).map λi=>if S.contains i then g.getD i []++[n]else g.getD i [])++[S]
def dq:Nat->List (List (List Nat))
 |0=>[[]]
 |n+1=>(dq n).flatMap λg=>(ek n).map λS=>eP n g S
theorem Jf:dq (n+1)=jhe (λg=>jfy (λS=>eP n g S) (ek n)) (dq n):=rfl
def gY (eh:Nat->Nat->Bool)(n:Nat):List (List Nat):=(Y7 n).map λi=>(Y7 n).filter (eh i)
theorem Bg (p:Nat->Bool):∀n,(Y7 n).filter p∈ek n
 |0=>Zq.mpr rfl
 |n+1=>by
  rw[V2,jdd];refine⟨_,Bg p n,?_⟩;rw[jaK,jdL];cases h:p n<;>simp[h]
theorem Co {eh:Nat->Nat->Bool}(hs:∀i j,eh i j=eh j i)(hi:∀i,eh i i=false)(n:Nat):gY eh (n+1)=eP n (gY eh n) ((Y7 n).filter (eh n)):=by
 unfold gY eP;rw[jaK,ZS]
 congr 1
 ·refine jdz λi E6=>?_;have eR:=ZI.mp E6;have hg:((Y7 n).map λi=>(Y7 n).filter (eh i)).getD i []=(Y7 n).filter (eh i):=by
   rw[Y8,ZO,jdA eR];rfl
  rw[hg,jdL];have hc:((Y7 n).filter (eh n)).contains i=eh i n:=by
   rw[jaM,jeH,jdu,hs n i];exact⟨λh=>h.2,λh=>⟨E6,h⟩⟩
  rw[hc];cases h:eh i n<;>simp[h]
 ·show[((Y7 n)++[n]).filter (eh n)]=_;rw[jdL];simp[hi n]
theorem pj {eh:Nat->Nat->Bool}(hs:∀i j,eh i j=eh j i)(hi:∀i,eh i i=false):∀n,gY eh n∈dq n
 |0=>Zq.mpr rfl
 |n+1=>by
  rw[Co hs hi];rw[Jf,jdd];exact⟨_,pj hs hi n,Zn.mpr ⟨_,Bg _ n,rfl⟩⟩
theorem g1:(dq 1).all (λg=>dS g)=true:=by decide +kernel
theorem g2:(dq 2).all (λg=>dS g)=true:=by decide +kernel
theorem g3:(dq 3).all (λg=>dS g)=true:=by decide +kernel
theorem g4:(dq 4).all (λg=>dS g)=true:=by decide +kernel
theorem h0:(((dq 4).drop (4*0)).take 4).all (λg=>(ek 4).all λS=>dS (eP 4 g S))=true:=by decide +kernel
theorem h1:(((dq 4).drop (4*1)).take 4).all (λg=>(ek 4).all λS=>dS (eP 4 g S))=true:=by decide +kernel
theorem h2:(((dq 4).drop (4*2)).take 4).all (λg=>(ek 4).all λS=>dS (eP 4 g S))=true:=by decide +kernel
theorem h3:(((dq 4).drop (4*3)).take 4).all (λg=>(ek 4).all λS=>dS (eP 4 g S))=true:=by decide +kernel
theorem h4:(((dq 4).drop (4*4)).take 4).all (λg=>(ek 4).all λS=>dS (eP 4 g S))=true:=by decide +kernel
theorem h5:(((dq 4).drop (4*5)).take 4).all (λg=>(ek 4).all λS=>dS (eP 4 g S))=true:=by decide +kernel
theorem h6:(((dq 4).drop (4*6)).take 4).all (λg=>(ek 4).all λS=>dS (eP 4 g S))=true:=by decide +kernel
theorem h7:(((dq 4).drop (4*7)).take 4).all (λg=>(ek 4).all λS=>dS (eP 4 g S))=true:=by decide +kernel
theorem h8:(((dq 4).drop (4*8)).take 4).all (λg=>(ek 4).all λS=>dS (eP 4 g S))=true:=by decide +kernel
theorem h9:(((dq 4).drop (4*9)).take 4).all (λg=>(ek 4).all λS=>dS (eP 4 g S))=true:=by decide +kernel
theorem lT:(((dq 4).drop (4*10)).take 4).all (λg=>(ek 4).all λS=>dS (eP 4 g S))=true:=by decide +kernel
theorem kZ:(((dq 4).drop (4*11)).take 4).all (λg=>(ek 4).all λS=>dS (eP 4 g S))=true:=by decide +kernel
theorem sG:(((dq 4).drop (4*12)).take 4).all (λg=>(ek 4).all λS=>dS (eP 4 g S))=true:=by decide +kernel
theorem sH:(((dq 4).drop (4*13)).take 4).all (λg=>(ek 4).all λS=>dS (eP 4 g S))=true:=by decide +kernel
theorem k0:(((dq 4).drop (4*14)).take 4).all (λg=>(ek 4).all λS=>dS (eP 4 g S))=true:=by decide +kernel
theorem O0:(((dq 4).drop (4*15)).take 4).all (λg=>(ek 4).all λS=>dS (eP 4 g S))=true:=by decide +kernel
theorem xe:(dq 4).length=64:=by decide +kernel
theorem g5 {g:List (List Nat)}(hg:g∈dq 4){S:List Nat}(hS:S∈ek 4):dS (eP 4 g S)=true:=by
 obtain⟨i,hi,rfl⟩:=jhH hg;rw[xe]at hi;have H:∀k∈Y7 16,(((dq 4).drop (4*k)).take 4).all (λg=>(ek 4).all λS=>dS (eP 4 g S))=true:=aS h0 (aS h1 (aS h2 (aS h3 (aS h4 (aS h5 (aS h6 (aS h7 (aS h8 (aS h9 (aS lT (aS kZ (aS sG (aS sH (aS k0 (aS O0 jA)))))))))))))));have hm:(dq 4)[i]'(by rw[xe];exact hi)∈((dq 4).drop (4*(i/4))).take 4:=by
  rw[jdq];refine⟨i%4,by rw[jbD,jbE,xe];exact Nat.lt_min.mpr ⟨ZL _ (by decide),Nat.lt_sub_of_add_lt (by rw[jbA,jbt];exact hi)⟩,?_⟩;rw[List.getElem_take,jij]
  congr 1
  exact jbt i 4
 exact Y6.mp (Y6.mp (H _ (ZI.mpr (jeZ hi))) _ hm) S hS
theorem KL {eh:Nat->Nat->Bool}(hs:∀i j,eh i j=eh j i)(hi:∀i,eh i i=false){n:Nat}(h1:1<=n)(h5:n<=5):dS (gY eh n)=true:=by
 have:n=1\/n=2\/n=3\/n=4\/n=5:=by lia
 rcases this with rfl|rfl|rfl|rfl|rfl
 ·exact Y6.mp g1 _ (pj hs hi 1)
 ·exact Y6.mp g2 _ (pj hs hi 2)
 ·exact Y6.mp g3 _ (pj hs hi 3)
 ·exact Y6.mp g4 _ (pj hs hi 4)
 ·rw[Co hs hi];exact g5 (pj hs hi 4) (Bg _ 4)
def jz (ac:List (List Nat))(i j:Nat):Bool:=decide (j∈ac.getD i [])
theorem KN {ac:List (List Nat)}(g:iw ac)(i:Nat)(hi:i<ac.length):(ac.getD i []).Perm ((gY (jz ac) ac.length).getD i []):=by
 have e:(gY (jz ac) ac.length).getD i []=(Y7 ac.length).filter (jz ac i):=by
  unfold gY;rw[Y8,ZO,jdA hi];rfl
 rw[e,List.perm_ext_iff_of_nodup (g.nd i) (jiv.filter _)];intro j;rw[jdu,ZI];unfold jz;rw[decide_eq_true_iff];exact⟨λh=>⟨(g.sym i j h).1,h⟩,λh=>h.2⟩
theorem Uu {l l':List Nat}(h:l.Perm l'):l.sum=l'.sum:=by
 induction h with
 |nil=>rfl
 |cons x _ ih=>rw[jal,jal,ih]
 |swap x y l=>rw[jal,jal,jal,jal];lia
 |trans _ _ ih1 ih2=>rw[ih1,ih2]
theorem Ts {l l':List Nat}(h:l.Perm l')(S:Nat):ie l S=ie l' S:=by
 unfold ie;exact Uu ((h.filter _).map _)
theorem TM {l l':List Nat}(h:l.Perm l')(i:Nat)(c:List Nat)(m:Nat):ga l i c m=ga l' i c m:=by
 unfold ga;rw[jaM,Y6,Y6];exact⟨λhh j hj=>hh j (h.mem_iff.mpr hj),λhh j hj=>hh j (h.mem_iff.mp hj)⟩
theorem U9 {ac near':List (List Nat)}(hl:ac.length=near'.length)(h:∀i,i<ac.length->(ac.getD i []).Perm (near'.getD i []))(T:List Dk)(S:Nat):mf ac T S=mf near' T S:=by
 unfold mf;rw[<-hl];have:∀(l:List Nat) (acc:Dk),(∀i∈l,i<ac.length)->l.foldl (di ac T S) acc=l.foldl (di near' T S) acc:=λl=>by
  induction l with
  |nil=>intro acc _;rfl
  |cons i l ih =>
   intro acc hi;rw[jcG,jcG];have e:di ac T S acc i=di near' T S acc i:=by
    unfold di;rw[Ts (h i (hi i (by simp)))]
   rw[e];exact ih _ (λj hj=>hi j (by simp[hj]))
 exact this _ _ (λi hi=>ZI.mp hi)
theorem H6 {ac near':List (List Nat)}(hl:ac.length=near'.length)(h:∀i,i<ac.length->(ac.getD i []).Perm (near'.getD i [])):∀s,bL ac s=bL near' s
 |0=>rfl
 |s+1=>by
  rw[oP,oP,H6 hl h s,U9 hl h]
theorem He {ac near':List (List Nat)}(k:Nat)(h:∀i,i<ac.length->(ac.getD i []).Perm (near'.getD i [])):∀i,i<=ac.length->ci k ac i=ci k near' i
 |0,_=>rfl
 |i+1,hi=>by
  rw[qJ,qJ,He k h i (ZM hi)]
  congr 1
  funext c
  congr 1
  congr 1
  funext l;exact TM (h i (hi)) _ _ _
theorem OU {ac:List (List Nat)}(g:iw ac):o4 ac:=by
 have hs:∀i j,jz ac i j=jz ac j i:=λi j=>decide_eq_decide.mpr ⟨λh=>(g.sym i j h).2.2,λh=>(g.sym j i h).2.2⟩;have hi:∀i,jz ac i i=false:=λi=>decide_eq_false λh=>(g.sym i i h).2.1 rfl;have hc:=KL hs hi g.pos g.le;have hl:(gY (jz ac) ac.length).length=ac.length:=by unfold gY;rw[Y0,jaf]
 have f:=KP (ac:=gY (jz ac) ac.length) (by rw[hl];exact g.pos) (by rw[hl];exact g.le) (λnl jL j hj=>by
  unfold gY at jL;refine au (Zn.mp jL) ?_;rintro i _ rfl;have:=ZI.mp (jdu.mp hj).1;have:=g.le
  lia) hc
 have hp:=KN g;have ht:∀S,tab ac S=tab (gY (jz ac) ac.length) S:=λS=>by
  unfold tab;rw[H6 hl.symm hp]
 have Qr:∀h,ci h ac ac.length=ci h (gY (jz ac) ac.length) ac.length:=λh=>He h hp _ (Y5 _);have hd:i6 ac=i6 (gY (jz ac) ac.length):=by
  unfold i6;rw[hl]
  congr 1
  refine jdz λS Y=>?_;rw[ht,ht]
 obtain⟨f1,f2,f3,f4,f5,f6,f7⟩:=f;rw[hl]at f1 f2 f3 f4 f7;refine⟨?_,?_,?_,?_,by rw[hd];exact f5,by rw[hd];exact f6,?_⟩
 ·rw[ht];exact f1
 ·rw[ht];exact f2
 ·rw[ht];exact f3
 ·rw[ht,hd];exact f4
 ·rw[ht];intro h hh;rw[Qr];exact f7 h hh
def VN (b:Nat)(l:List Nat):Nat:=l.foldr (λd s=>d+b*s) 0
def VI (x:Int)(l:List Nat):Int:=l.foldr (λ(d:Nat) (s:Int)=>(d:Int)+x*s) 0
theorem jy (b d:Nat)(l:List Nat):VN b (d::l)=d+b*VN b l:=rfl
theorem pi (x:Int)(d:Nat)(l:List Nat):VI x (d::l)=(d:Int)+x*VI x l:=rfl
theorem uw (b:Nat):∀l:List Nat,((VN b l:Nat):Int)=VI b l
 | []=>rfl
 |d::l=>by rw[jy,pi,<-uw b l,jbu,jba]
theorem xQ (w:Nat):∀l:List Nat,cB w (l.map Z5)=((VN (2^w) l:Nat):Int)
 | []=>rfl
 |d::l=>by
  rw[G6,xQ w l,jy,jbu,jba,jbN,Int.mul_comm];rfl
theorem y6 (b:Nat):∀l:List Nat,hN b l=b*VN b l
 | []=>rfl
 |d::l=>by
  show b*(d+hN b l)=_;refine aa (y6 b l) ?_;rw[jy]
theorem Ez (h:Int):∀l:List Nat,hI h l=h*VI (-h) l
 | []=>by show(0:Int)=h*0;simp
 |d::l=>by
  show h*((d:Int)-hI h l)=_;rw[Ez h l,pi,jhL];rfl
theorem w0 (b x:Int):∀l:List Nat,∃q,VI b l=VI x l+(b-x)*q
 | []=>⟨0,by show(0:Int)=0+(b-x)*0;simp⟩
 |d::l=>by
  refine aX (w0 b x l) λq hq=>?_;refine⟨VI x l+b*q,?_⟩;rw[pi,pi,hq,Int.mul_add,Int.mul_add,jhI,jhI,jhI];have e1:b*(b*q-x*q)=b*(b*q)-x*(b*q):=by
   rw[jfZ,Int.mul_left_comm b x q]
  rw[e1]
  lia
theorem wZ (hb:0<b):∀l:List Nat,(∀d∈l,d<b)->VN b l<b^l.length
 | [],_=>by show 0<1;decide
 |d::l,h=>by
  have h1:=h d (by simp);have h2:=wZ hb l (λx hx=>h x (by simp[hx]));rw[jy,Zo,jcV];have h3:b*VN b l+b<=b^l.length*b:=by
   rw[jaN (b^l.length) b,<-jdI];exact jfh b h2
  lia
theorem BP (b:Nat):∀l:List Nat,l≠[]->1<=l.getD (l.length-1) 0->b^(l.length-1)<=VN b l
 | [],h,_=>absurd rfl h
 | [d],_,h=>by
  rw[jy];have h:1<=d:=h;show 1<=d+b*0;exact h
 |d::e::l,_,h=>by
  have ih:=BP b (e::l) (by simp) h;rw[jy];have:b^((d::e::l).length-1)=b*b^((e::l).length-1):=by
   show b^(l.length+1)=b*b^l.length;rw[jcV,jaN]
  rw[this];have:=jfh b ih;omega
theorem CT:∀l:List Nat,(∀d∈l,d<2^w)->i7 w l.length (VN (2^w) l)=l
 | [],_=>rfl
 |d::l,h=>by
  have h1:=h d (by simp);rw[Zo,pJ,jy,jea,jfQ h1,jfa _ _ (jaC w),jet h1,jey,CT l (λx hx=>h x (by simp[hx]))]
theorem LF (hw:0<w)(h1:2^(w*k)<=a)(h2:a<2^(w*(k+1))):bA w a=k+1:=by
 have ha:a≠0:=by have:=jaC (w*k);lia
 have Po:Zm (a:Int)=a.log2+1:=by
  unfold Zm;refine aa (if_neg (by simp;exact ha)) ?_;refine aa (ZR _) ?_;rfl
 have l1:w*k<=a.log2:=(Nat.le_log2 ha).mpr h1;have l2:a.log2<w*(k+1):=(jeX ha).mpr h2;unfold bA;refine aa Po ?_;refine aa (show a.log2+1+w-1=a.log2+w by simp) ?_;refine aa (Nat.add_div_right _ hw) ?_
 congr 1
 exact Nat.div_eq_of_lt_le (by refine aa (jaN _ _) ?_;exact l1) (by refine aa (jaN _ _) ?_;exact l2)
theorem CX (hw:0<w)(hl:l≠[])(a0:∀d∈l,d<2^w)(vz:1<=l.getD (l.length-1) 0):dg w (bA w (VN (2^w) l)) (VN (2^w) l)=l.map Z5:=by
 have km:0<l.length:=jfe.mpr hl;have h1:=BP (2^w) l hl vz;have h2:=wZ (jaC w) l a0;rw[<-Nat.pow_mul]at h1 h2;have:=LF (k:=l.length-1) hw h1 (by refine aa (show l.length-1+1=l.length from BC km) ?_;exact h2);refine aa this ?_;refine aa (show l.length-1+1=l.length from BC km) ?_;rewrite [r0];refine aa (CT l a0) ?_;rfl
def oU (l:List Nat):List Nat:=(Y7 l.length).map λm=>(l.drop (m+1)).sum
theorem Xb (d:Nat)(t:List Nat):oU (d::t)=t.sum::oU t:=by
 unfold oU;refine aa Zo ?_;refine aa jhd ?_;refine aa ZC ?_;refine aa ZJ ?_;rfl
theorem xa (b:Nat)(hb:1<=b):∀l:List Nat,VN b l=l.sum+(b-1)*VN b (oU l)
 | []=>by show 0=0+(b-1)*0;exact rfl
 |d::t=>by
  have ih:=xa b hb t;rw[Xb,jy,jy,jal];obtain⟨c,rfl⟩:∃c,b=c+1:=⟨b-1,by simp[*]⟩
  rw[jdT]at ih ⊢;rw[ih];generalize VN (c+1) (oU t)=X;generalize t.sum=s;rw[jfW,jds,jee,jfW c s,Nat.mul_left_comm (c+1) c X]
  lia
theorem BQ (b:Nat):∀l:List Nat,VN b (l++[0])=VN b l
 | []=>by show 0+b*0=0;simp
 |d::l=>by rw[jdf,jy,jy,BQ b l]
theorem Xc (h:l.length=n+1):oU l=((Y7 n).map λm=>(l.drop (m+1)).sum)++[0]:=by
 unfold oU;refine aa h ?_;refine aa jaK ?_;refine aa ZS ?_
 congr 1
 show[(l.drop (n+1)).sum]=[0];refine aa (jcS (ZK h)) ?_;rfl
theorem V4 (l:List Nat)(m:Nat):(l.drop m).sum<=l.sum:=by
 conv=>rhs;rw[<-jhn m l]
 refine aa jiR ?_;exact jcg (List.drop m l).sum (List.take m l).sum
theorem sq {m q r:Int}(h0:0<=r)(h1:r<m):(r+m*q).fdiv m=q/\(r+m*q).fmod m=r:=by
 have hm:0<m:=by lia
 rw[jao _ (by lia),jcs _ (by lia),jhw _ _ (by lia),jhp h0 h1,Int.add_mul_emod_self_left,Int.emod_eq_of_lt h0 h1];exact⟨by simp,rfl⟩
theorem DT {m q r:Int}(h0:0<=r)(h1:r<m):(-(r+m*q)).fdiv (-m)=q/\(-(r+m*q)).fmod (-m)=-r:=by
 have:=sq (q:=q) h0 h1;refine aa (jiT _ _) ?_;refine aa (Int.neg_fmod_neg _ _) ?_;refine aa this.1 ?_;refine aa this.2 ?_;exact⟨rfl,rfl⟩
theorem BO (w:Nat):∀k a,a<2^(w*k)->VN (2^w) (i7 w k a)=a
 |0,a,h=>by
  have:a=0:=by simpa using h
  refine aa this ?_;rfl
 |k+1,a,h=>by
  have h2:a/2^w<2^(w*k):=by
   rw[jdb (jaC w),<-jed];exact bf h (Zl (by decide) (by refine aa (jdI _ _) ?_;exact Y5 _))
  rewrite [pJ,jy];refine aa (BO w k _ h2) ?_;exact Nat.mod_add_div a (2^w)
theorem back (w a:Nat)(hw:0<w):cB w (dg w (bA w a) a)=a:=by
 rw[r0,xQ];have h1:=z9 (a:=a);have h2:Zm (a:Int)<=w*bA w a:=by
  unfold bA;have:=jbt (Zm (a:Int)+w-1) w;have:=ZL (Zm (a:Int)+w-1) hw
  lia
 rw[BO w _ a (bf h1 (Zl (by decide) h2))]
def jV (p L:Nat):List Nat:=(Y7 ((L+7-p)/8)).map λk=>p+8*k
theorem U1:(Y7 8).all (λp=>(Y7 61).all λL=>fQ (p:Int) (L:Int) 8==some ((jV p L).map Z5)&&(jV p L).all (λj=>decide (j<L))&&decide ((jV p L).length<=8))=true:=by decide +kernel
theorem U0 {p L:Nat}(hp:p<8)(hL:L<=60):fQ (p:Int) (L:Int) 8=some ((jV p L).map Z5)/\(∀j∈jV p L,j<L)/\(jV p L).length<=8:=by
 have h1:=Y6.mp U1 p (ZI.mpr hp);have h2:=Y6.mp h1 L (ZI.mpr (by lia));simp only[Zv]at h2;exact cz (eq_of_beq h2.1.1) (λj hj=>of_decide_eq_true (Y6.mp h2.1.2 j hj)) (of_decide_eq_true h2.2)
def kz:List Nat:=[1715446,365853733,816530545,225,318,5174684,75120764,123]
def zj (bJ:List Int)(p:Nat):Nat:=kz.getD p 0+((jV p bJ.length).map λj=>((bJ.getD j 0).fmod (10^15)).toNat).sum
def qp (bJ:List Int):List Nat:=(Y7 8).map (zj bJ)
theorem PF {Φ:cX}{s:AV}{bJ:List Int}(hn:bJ.length<=60){az:aB}(hr:az.length=21):
 ev Φ [] (some s::some (.lst (aq kz))::some (.lst (bC bJ))::az) (.comp 1 (.cons 24 (.range (.cons (.c (.int 8)) .nil)) .nil (.done (.bin .Add (.idx (.var 1) (.var 24)) (.call .sum (.cons (.comp 1 (.cons 25 (.range (.cons (.var 24) (.cons (.call .len (.cons (.var 2) .nil)) (.cons (.c (.int 8)) .nil)))) .nil (.done (.bin .Mod (.idx (.var 2) (.var 25)) (.bin .Pow (.c (.int 10)) (.c (.int 15))))))) .nil))))))
  = some (.lst (aq (qp bJ))):=by
 refine(nY (x:=24) (vs:=aq (Y7 8)) (g:=λv=>match v with | .int k=>.int (zj bJ k.toNat:Nat)|v=>v) (j9 aR (by decide)) (by simp[hr]) (by simp) (λv hv=>?_)).trans ?_
 ·refine au (Zn.mp hv) ?_;rintro p hp rfl;have hp:=ZI.mp hp;refine fY (U0 hp hn) λh1 h2 h3=>?_;show _=some (AV.int (zj bJ (p:Int).toNat:Nat));rw[ZB];have t4:∀{w:List (Option AV)},((some s::some (AV.lst (aq kz))::some (AV.lst (bC bJ))::az)++some (.int (p:Int))::w)[24]?=some (some (.int (p:Int))):=λ{w}=>by
   rw[Zg (by simp[hr])];simp[hr]
  refine iF (x:=kz.getD p 0) (fX (l:=aq kz) (k:=p) (ag rfl) (ag t4) (nk hp) (by simp[kz])) ?_;refine uU (l:=(jV p bJ.length).map λj=>((bJ.getD j 0).fmod (10^15)).toNat) ?_ ?_
  ·refine(nY (x:=25) (vs:=aq (jV p bJ.length)) (g:=λv=>match v with | .int k=>.int (((bJ.getD k.toNat 0).fmod (10^15)).toNat:Nat)|v=>v) ?_ (by simp[hr]) (by rw[Y0];lia) (λv hv=>?_)).trans ?_
   ·rw[r9,gJ (x:=.int p) (y:=.int (bJ.length:Nat)) (z:=.int 8) (ag t4) ?_ bK]
    ·show(fQ (p:Int) (bJ.length:Int) 8).map _=_;rw[h1];show some (((jV p bJ.length).map Z5).map AV.int)=_;rw[ZJ];rfl
    ·refine dK (vs:=[.lst (bC bJ)]) (cT (ag rfl)) ?_;show fL (bC bJ).length=_;rw[Y0];unfold fL;rw[if_pos (by lia)]
   ·refine au (Zn.mp hv) ?_;rintro j hj rfl;have hj:=h2 j hj;show _=some (AV.int (((bJ.getD (j:Int).toNat 0).fmod (10^15)).toNat:Nat));rw[ZB];have Xu:((((some s::some (AV.lst (aq kz))::some (AV.lst (bC bJ))::az)++[some (.int (p:Int))])++[some (.int (j:Int))]))[25]?=some (some (.int (j:Int))):=by
     rw[Zg (by simp[hr])];simp[hr]
    have fu:(bC bJ)[j]?=some (.int (bJ.getD j 0)):=by
     rw[ZO,Zc hj,Y8,Zc hj];rfl
    refine cb (fX (l:=bC bJ) (k:=j) (ag rfl) (ag Xu) fu (by rw[Y0];lia)) (jE (x:=10) (y:=15) aR aR (by decide) (by decide)) ?_;show(if(((10^15:Nat):Int))=0 then none else some (AV.int ((bJ.getD j 0).fmod ((10^15:Nat):Int))))=_;rw[if_neg (by decide)];have Qg:0<=(bJ.getD j 0).fmod (10^15):=Int.fmod_nonneg_of_pos _ (by decide);have:(((bJ.getD j 0).fmod (10^15)).toNat:Int)=(bJ.getD j 0).fmod (10^15):=jbS Qg;rw[this];rfl
   ·unfold aq;rw[ZJ,ZJ];rfl
  ·have hs:=wz (10^15) ((jV p bJ.length).map λj=>((bJ.getD j 0).fmod (10^15)).toNat) (λx hx=>by
    refine au (Zn.mp hx) ?_;rintro j _ rfl;have:=Int.fmod_lt_of_pos (bJ.getD j 0) (b:=10^15) (by decide)
    lia)
   rw[Y0]at hs;have:(jV p bJ.length).length*10^15<=8*10^15:=jeW _ h3;have:8*10^15<2^53:=by decide
   lia
 ·unfold aq qp;rw[ZJ,ZJ];rfl
theorem EW (bJ:List Int):(qp bJ).length=8:=by
 unfold qp;refine aa (Y0 _) ?_;rfl
theorem GP (g:F):nj g g g=g:=by unfold nj;split<;>(try split)<;>rfl
theorem GN (g:F):ni g g g=g:=by unfold ni;split<;>(try split)<;>rfl
theorem NS (h:bO g g=true):Fi (N+1) 6 [.flt g,.flt g,.flt g]=some (.tup [.flt 0,.flt 0,.flt g]):=by
 refine fB (N:=N) D6 rfl ?_;show aE (Fi N) [some (.flt g),some (.flt g),some (.flt g),none,none,none,none,none,none,none,none,none] [] f6.body=_;refine aT (v:=.flt g) (jgV (b:=some (AV.flt (nj g g g))) rfl (by rw[GP])) (aT (v:=.flt g) (jgV (b:=some (AV.flt (ni g g g))) rfl (by rw[GN])) (aT (v:=.flt (ZF g g)) rfl (aT (v:=.flt g) (ag rfl) ?_)));exact jG ((j' (ag rfl) (ag rfl) h).trans (by rw[h])) (dX rfl rfl)
theorem NQ (h:bO g g=true):Fi (N+1) 5 [.flt g,.flt g,.flt g]=some (.tup [.flt 0,.flt (iT g g),.flt 0]):=by
 refine fB (N:=N) D5 rfl ?_;show aE (Fi N) [some (.flt g),some (.flt g),some (.flt g),none,none,none,none,none,none,none,none,none,none] [] f5.body=_;refine aT (v:=.flt g) (jgV (b:=some (AV.flt (nj g g g))) rfl (by rw[GP])) (aT (v:=.flt g) (jgV (b:=some (AV.flt (ni g g g))) rfl (by rw[GN])) (aT (v:=.flt (Z8 g g)) rfl (aT (v:=.flt (ZF g g)) rfl (aT (v:=.flt (iT g g)) (jD (ag rfl) gu ID) ?_))));exact jG ((j' (ag rfl) (ag rfl) h).trans (by rw[h])) (dX rfl rfl)
theorem IG:(jbC 0 0==some .eq)=true:=by decide +kernel
theorem NU:Fi (N+1) 7 [.flt h,.int 0,.flt g]=some (.tup [.flt g,.flt g,.flt g]):=by
 refine fB (N:=N) D7 rfl ?_;show aE (Fi N) [some (.flt h),some (.int 0),some (.flt g),none,none,none,none,none] [] f7.body=_;refine jG (cK (x:=.int 0) (y:=.flt 0) (ag rfl) gu ?_) (dX rfl rfl);show some (jbC 0 0==some .eq)=_;rw[IG]
theorem OW:∀k,k<5->bO (qB k) (qB k)=true/\mH (iT (qB k) (qB k)) (qB k)=true:=by decide +kernel
theorem ya (h1:ev Φ σ ρ a=some (.tup x))(h2:ev Φ σ ρ b=some (.tup y))(hl:x.length+y.length<=100000):ev Φ σ ρ (.bin .Add a b)=some (.tup (x++y)):=by
 refine cb h1 h2 ?_;show(if _ then _ else _)=_;refine aa (if_pos hl) ?_;rfl
theorem OV (hk:k<5)(h9:ρ[9]?=some (some (.flt (qB k)))):ev (Fi (N+1)) [] ρ (.cmp .NotEq (.bin .Add (.bin .Add (.call (.user 6) (.cons (.var 9) (.cons (.var 9) (.cons (.var 9) .nil)))) (.call (.user 5) (.cons (.var 9) (.cons (.var 9) (.cons (.var 9) .nil))))) (.call (.user 7) (.cons (.bin .Add (.var 9) (.bin .Div (.c (.int 1)) (.c (.int 8)))) (.cons (.c (.int 0)) (.cons (.var 9) .nil))))) (.tup (.cons (.c (.int 0)) (.cons (.c (.int 0)) (.cons (.var 9) (.cons (.c (.int 0)) (.cons (.var 9) (.cons (.c (.int 0)) (.cons (.var 9) (.cons (.var 9) (.cons (.var 9) .nil)))))))))))=some (.bool false):=by
 refine bN (OW k hk) λg1 g2=>?_;have g2:=nS g2;generalize qB k=g at *;have v9:ev (Fi (N+1)) [] ρ (.var 9)=some (.flt g):=ag h9;have c6:ev (Fi (N+1)) [] ρ (.call (.user 6) (.cons (.var 9) (.cons (.var 9) (.cons (.var 9) .nil))))=some (.tup [.flt 0,.flt 0,.flt g]):=cL (vs:=[.flt g,.flt g,.flt g]) (gJ v9 v9 v9) rfl (NS g1);have c5:ev (Fi (N+1)) [] ρ (.call (.user 5) (.cons (.var 9) (.cons (.var 9) (.cons (.var 9) .nil))))=some (.tup [.flt 0,.flt g,.flt 0]):=by
  have:=cL (k:=5) (Φ:=Fi (N+1)) (ρ:=ρ) (vs:=[.flt g,.flt g,.flt g]) (gJ v9 v9 v9) rfl (NQ (N:=N) g1);rw[g2]at this;exact this
 have c7:ev (Fi (N+1)) [] ρ (.call (.user 7) (.cons (.bin .Add (.var 9) (.bin .Div (.c (.int 1)) (.c (.int 8)))) (.cons (.c (.int 0)) (.cons (.var 9) .nil))))=some (.tup [.flt g,.flt g,.flt g]):=
  cL (vs:=[.flt (Z8 g (Z9 false 1 8)),.int 0,.flt g]) (gJ (x8 v9 (lR (x:=1) (y:=8) aR aR (by decide) (by decide))) bK v9) rfl NU
 have i0:ev (Fi (N+1)) [] ρ (.c (.int 0))=some (.int 0):=bK;have ct:ev (Fi (N+1)) [] ρ (.tup (.cons (.c (.int 0)) (.cons (.c (.int 0)) (.cons (.var 9) (.cons (.c (.int 0)) (.cons (.var 9) (.cons (.c (.int 0)) (.cons (.var 9) (.cons (.var 9) (.cons (.var 9) .nil))))))))))=some (.tup [.int 0,.int 0,.flt g,.int 0,.flt g,.int 0,.flt g,.flt g,.flt g]):=by
  refine sj (vs:=[.int 0,.int 0,.flt g,.int 0,.flt g,.int 0,.flt g,.flt g,.flt g]) ?_ (show 9<=100000 by decide);simp only[mM,Dz,i0,v9]
 refine cK (ya (ya c6 c5 (show 6<=100000 by decide)) c7 (show 9<=100000 by decide)) ct ?_;have ez:cJ (.flt 0) (.int 0)=some true:=by
  show some (jbC 0 0==some .eq)=_;rw[IG]
 have eg:cJ (.flt g) (.flt g)=some true:=by
  show(if(jac g g==some .eq)=true then some (jac g g==some .eq)else none)=_;unfold bO at g1;rw[g1];rfl
 show(eN cJ [.flt 0,.flt 0,.flt g,.flt 0,.flt g,.flt 0,.flt g,.flt g,.flt g] [.int 0,.int 0,.flt g,.int 0,.flt g,.int 0,.flt g,.flt g,.flt g]).map (!·)=_;simp only[r8,ez,eg];rfl
theorem QW:(Y7 64).all (λa=>fH (bT a) λx=>(ZT 1 31).all λst=>fH (bT ((a+st)%64)) λy=>fH (bT ((a+2*st)%64)) λz=>bO x x&&bO y y&&bO z z&&!bO x y&&!bO y x&&!bO x z&&!bO z x&&!bO y z&&!bO z y)=true:=by decide +kernel
theorem QU (A:Nat):wS A:=by
 have h1:=Y6.mp QW (A%64) (ZI.mpr (ZL _ (by decide)));rw[qe]at h1;have h2:=Y6.mp h1 (1+A/64%31) (by rw[jaS];lia);rw[qe,qe]at h2;simp only[Zv,jbO]at h2;refine bN h2 λz1 a9=>?_;obtain⟨⟨⟨⟨⟨⟨⟨a1,a2⟩,a3⟩,a4⟩,a5⟩,a6⟩,a7⟩,a8⟩:=z1;have e0:dF A 0=A%64:=by unfold dF;simp
 have e1:dF A 1=(A%64+(1+A/64%31))%64:=by unfold dF;simp
 have e2:dF A 2=(A%64+2*(1+A/64%31))%64:=by unfold dF;exact rfl
 intro l l' hl hZ;have:l=0\/l=1\/l=2:=IM hl;have:l'=0\/l'=1\/l'=2:=IM hZ;rcases‹l=0\/l=1\/l=2› with rfl|rfl|rfl<;>rcases‹l'=0\/l'=1\/l'=2› with rfl|rfl|rfl<;>simp only[e0,e1,e2]<;>first|exact a1|exact a2|exact a3|exact a4|exact a5|exact a6|exact a7|exact a8|exact a9
def pK:Nat->dw->dw
 |0,s=>s
 |k+1,.cons _ s=>pK k s
 |_+1,.nil=>.nil
section
theorem Na {a e:Ex}{k:Nat}{x:List AV}(h1:ev Φ σ ρ a=some (.lst x))(h2:ev Φ σ ρ e=some (.int k))(hl:x.length<=100000):ev Φ σ ρ (.slice a .none (.some e))=some (.lst (x.take k)):=by
 have hn:fG Φ σ ρ .none=some none:=rfl;have hs:fG Φ σ ρ (.some e)=some (some (k:Int)):=by rw[pQ,h2]
 rw[pX,h1];simp only[hn,hs];show(if 0<=(k:Int)then md σ (λl=>l.take (k:Int).toNat) (.lst x)else none)=_;rw[if_pos (Zi k),ZB];show(if _ then _ else _)=_;rw[if_pos hl]
theorem M' {a e:Ex}{k:Nat}{x:List AV}(h1:ev Φ σ ρ a=some (.lst x))(h2:ev Φ σ ρ e=some (.int k))(hl:x.length<=100000):ev Φ σ ρ (.slice a (.some e) .none)=some (.lst (x.drop k)):=by
 have hn:fG Φ σ ρ .none=some none:=rfl;have hs:fG Φ σ ρ (.some e)=some (some (k:Int)):=by rw[pQ,h2]
 rw[pX,h1];simp only[hn,hs];show(if 0<=(k:Int)then md σ (λl=>l.drop (k:Int).toNat) (.lst x)else none)=_;rw[if_pos (Zi k),ZB];show(if _ then _ else _)=_;rw[if_pos hl]
theorem yf (h1:ev Φ σ ρ a=some (.lst l))(hl:l.length<=100000):ev Φ σ ρ (.call .len (.cons a .nil))=some (.int (l.length:Nat)):=by
 refine dK (cT h1) ?_;show fL l.length=_;unfold fL;refine aa (if_pos hl) ?_;rfl
theorem Do (h1:ev Φ σ ρ a=some (cR D))(hl:D.length<=100000):ev Φ σ ρ (.call .len (.cons a .nil))=some (.int (D.length:Nat)):=by
 refine dK (cT h1) ?_;show fL (cG D).length=_;unfold fL cG;refine aa (Y0 _) ?_;refine aa (if_pos hl) ?_;rfl
theorem Di {a i:Ex}{l:List AV}{k:Nat}{v:AV}(h1:ev Φ σ ρ a=some (.lst l))(h2:ev Φ σ ρ i=some (.int (-1-(k:Int))))(hk:k<l.length)(hv:l[l.length-1-k]?=some v)(hn:l.length<=100000):ev Φ σ ρ (.idx a i)=some v:=by
 refine mJ h1 h2 ?_;have hp:fO (-1-(k:Int)) l.length=some (l.length-1-k):=by
  unfold fO;have hs:-1-(k:Int)=jhM k:=by rw[jji];lia
  have hm:jhM k+(l.length:Int)=((l.length-1-k:Nat):Int):=by rw[jji];lia
  have hl:=Zz (jih (l.length-1) k) (jig (Zz (jbj k) hk) Nat.one_pos);rw[hs];refine aa (if_pos (show hJ (jhM k)=true from decide_eq_true (show k+1<2^53 from Zz (Y1 hk hn) (by decide)))) ?_;unfold jfs;simp only[if_pos (Int.negSucc_lt_zero k),hm];refine aa (if_pos (show(decide (0<=((l.length-1-k:Nat):Int))&&decide (((l.length-1-k:Nat):Int)<(l.length:Int)))=true by rw[decide_eq_true (Zi _),decide_eq_true (jbB.mpr hl)];rfl)) ?_;rfl
 show(fO (-1-(k:Int)) l.length).bind (λj=>l[j]?)=_;refine aa hp ?_;exact hv
theorem CZ:∀a b:List Nat,a.length=b.length->eN cJ (aq a) (aq b)=some (decide (a=b))
 | [],[],_=>rfl
 |a::as,b::bs,h=>by
  have ih:=CZ as bs (by simpa using h);have e:eN cJ (aq (a::as)) (aq (b::bs))=some (decide ((a:Int)=(b:Int))&&decide (as=bs)):=by
   show eN cJ (AV.int (a:Int)::aq as) (AV.int (b:Int)::aq bs)=_;rw[r8];rw[ih];rfl
  rw[e]
  congr 1
  rw[jaM,Zv,decide_eq_true_iff,decide_eq_true_iff,decide_eq_true_iff,List.cons.injEq];constructor
  ·rintro⟨h1,h2⟩;exact⟨by lia,h2⟩
  ·rintro⟨h1,h2⟩;exact⟨by simp[*],h2⟩
theorem C1 (a b:List Nat):jB σ (.lst (aq a)) (.lst (aq b))=some (decide (a=b)):=by
 show(if(aq a).length=(aq b).length then eN cJ (aq a) (aq b)else some false)=_;refine aa (Y0 _) ?_;refine aa (Y0 _) ?_;by_cases h:a.length=b.length
 ·refine aa (if_pos h) ?_;refine aa (CZ a b h) ?_;rfl
 ·rw[if_neg h,decide_eq_false (λe=>h (by refine aa e ?_;rfl))]
theorem M0 (h1:ev Φ σ ρ a=some (.lst (aq x)))(h2:ev Φ σ ρ b=some (.lst (aq y))):ev Φ σ ρ (.cmp .Eq a b)=some (.bool (decide (x=y))):=by
 refine cK h1 h2 ?_;show jB σ (.lst (aq x)) (.lst (aq y))=_;exact C1 x y
theorem M4 (h1:ev Φ σ ρ a=some (.lst (aq x)))(h2:ev Φ σ ρ b=some (.lst (aq x))):ev Φ σ ρ (.cmp .NotEq a b)=some (.bool false):=by
 refine cK h1 h2 ?_;show(jB σ (.lst (aq x)) (.lst (aq x))).map (!·)=_;refine aa (C1 _ _) ?_;refine aa (decide_eq_true rfl) ?_;rfl
end
theorem El (l:List Nat):aZ [] 6 (.lst (aq l))=some (.lst (aq l)):=by
 show(bj (aZ [] 5) (aq l)).map AV.lst=_;refine aa (qg 4 _ _) ?_;rfl
theorem Ek (l:List Int):aZ [] 6 (.lst (bC l))=some (.lst (bC l)):=by
 show(bj (aZ [] 5) (l.map AV.int)).map AV.lst=_;refine aa (oJ (g:=id) _ (λa ha=>by refine au (Zn.mp ha) ?_;rintro i _ rfl;rfl)) ?_;refine aa (jbX _) ?_;rfl
theorem Em (ac:List (List Nat)):aZ [] 6 (b9 ac)=some (b9 ac):=by
 show(bj (aZ [] 5) (ac.map λl=>AV.lst (aq l))).map AV.lst=_;rw[oJ (g:=id) _ (λa ha=>by
  refine au (Zn.mp ha) ?_;rintro i _ rfl;show(bj (aZ [] 4) (aq i)).map AV.lst=_;refine aa (qg 3 _ _) ?_;rfl),jbX];rfl
theorem OI (A n:Nat):aZ [] 6 (.lst (cq A n))=some (.lst (cq A n)):=by
 show(bj (aZ [] 5) (cq A n)).map AV.lst=_;have:=yO 4 [] (λt=>bT (dF A t)) (Y7 n);unfold cq;refine aa this ?_;rfl
theorem At (h:f a=some b):bj f [a]=some [b]:=by simp only[gO,h];rfl
theorem Au (h:f a=some a')(h2:f b=some b'):bj f [a,b]=some [a',b']:=by simp only[gO,h,h2];rfl
theorem S3 (h:f a=some a')(h2:f b=some b')(h3:f c=some c'):bj f [a,b,c]=some [a',b',c']:=by simp only[gO,h,h2,h3];rfl
theorem Sb (c:Nat):iQ c<=4:=by unfold iQ;(repeat' split)<;>exact bw jbK rfl
theorem Ul (hs:List Nat):∀x∈dA hs,x<=260:=by
 intro x hx;unfold dA at hx;refine au (jdd.mp hx) λi Y hx=>?_;unfold jo at hx;rw[ZE]at hx;rcases hx with hx|hx
 ·refine au (Zn.mp hx) ?_;rintro c _ rfl;have:=Sb c
  lia
 ·rw[Zq]at hx;have:pO hs i<48:=ZL _ (by decide);rw[hx];split<;>lia
theorem Uj (hs:List Nat):∃x∈dA hs,256<=x:=by
 refine bB (IA (hs.getD 0 0%3) (hs.getD 0 0/3)) λc l e Y=>?_;refine aN (256+iQ c) ?_ (ZD 256 (iQ c));unfold dA;rw[jdd];refine aN 0 (by simp) ?_;unfold jo pM;refine aa (jbA 1 _) ?_;refine aa e ?_;simp
theorem Uk (hs:List Nat):(dA hs).length<=1000:=by
 refine rwj (Gi _) ?_;refine aa Za ?_;refine aa (Y0 _) ?_;have:=tj hs;show _+1<=_;exact BB this rfl
abbrev AZ (s bJ PE dO row ac Bo ja count tables:AV):aB:=[some s,some (.lst (aq kz)),some bJ,some PE,some dO,some row,some row,some ac,some Bo,some ja,some count,some tables,none,none,none,none,none,none,none,none,none,none,none,none]
theorem Se {N:Nat}(dM:List Int)(aO:dM.length<=100000)(hs:List Nat)(vt:hs=qp (dM.take 60)):∃ac dO,iw ac/\∀r,aE (Fi (N+2)) (AZ (.lst (bC dM)) (.lst (bC (dM.take 60))) (.lst (aq hs)) dO (.lst (aq (dA hs))) (b9 ac) (.lst (cq (hs.getD 6 0) (3*ac.length))) (.flt (qB (hs.getD 6 0%5))) (.int (ac.length:Nat)) (.lst ((bL ac (2^ac.length-1)).map cR))) [] (pK 11 mR.body)=r ->
 aE (Fi (N+2)) (some (.lst (bC dM))::Zh 23 none) [] mR.body=r:=by
 have h8:hs.length=8:=by rw[vt];exact EW _
 have Qi:(dM.take 60).length<=60:=by rw[jbD];lia
 obtain⟨ac,hg,lU⟩:=NJ (N:=N) ((dA hs).map Z5++[255,-1]) (λx hx qj=>by
  rw[ZE]at hx;rcases hx with hx|hx
  ·refine au (Zn.mp hx) ?_;rintro y hy rfl;have:=Ul hs y hy;show(y:Int)<261
   lia
  ·simp at hx;lia) (by
  refine au (Uj hs) λx hx h=>?_;exact aN (x:Int) (by rw[ZE];left;exact Zn.mpr ⟨x,hx,rfl⟩) (oY h))
 have hn:=hg.le;have sT:=hg.pos;refine cZ ac (.str (ij hs)) hg (λr hr=>?_);refine aT (v:=.lst (aq kz)) rfl (aT (v:=.lst (bC (dM.take 60))) ?_ ?_)
 ·refine(Na (k:=60) (ag rfl) aR (by rw[Y0];exact aO)).trans ?_;unfold bC;rw[jgU]
 refine aT (v:=.lst (aq hs)) (by rw[vt];exact PF Qi (az:=Zh 21 none) rfl) ?_;refine n7 (vs:=[.str (ij hs),.lst (aq (dA hs))]) (cL (vs:=[.lst (aq hs)]) (cT (ag rfl)) (At (El hs)) (NH hs h8)) rfl ?_;refine aT (v:=.lst (aq (dA hs))) (cL (vs:=[.str (ij hs)]) (cT (ag rfl)) rfl (NI hs)) ?_;refine du (M4 (ag rfl) (ag rfl)) bH ?_;refine aT (v:=b9 ac) (cL (vs:=[.lst (bC ((dA hs).map Z5++[255,-1]))]) (cT ?_) (At (Ek _)) lU) ?_
 ·refine(sd (x:=aq (dA hs)) (y:=[.int 255,.int (-1)]) (ag rfl) rfl ?_).trans ?_
  ·rw[Y0];have:=Uk hs;show _+2<=_
   lia
  ·rw[qG];unfold bC;rw[ZS];rfl
 have Fa:∀{ρ:aB},ρ[7]?=some (some (b9 ac))->ev (Fi (N+2)) [] ρ (.call .len (.cons (.var 7) .nil))=some (.int (ac.length:Nat)):=λh7=>by
  have:=yf (Φ:=Fi (N+2)) (σ:=[]) (l:=ac.map λl=>AV.lst (aq l)) (ag h7) (by rw[Y0];lia)
  rwa [Y0]at this
 have fu:∀i,i<8->(aq hs)[i]?=some (.int (hs.getD i 0:Nat)):=λi hi=>nk (by lia);have E2:∀{ρ:aB},ρ[3]?=some (some (.lst (aq hs)))->ev (Fi (N+2)) [] ρ (.idx (.var 3) (.c (.int 6)))=some (.int (hs.getD 6 0:Nat)):=λh3=>fX (l:=aq hs) (k:=6) (ag h3) aR (fu 6 (by lia)) (by rw[Y0];lia);refine aT (v:=.lst (cq (hs.getD 6 0) (3*ac.length))) (cL (vs:=[.int (hs.getD 6 0:Nat),.int (ac.length:Nat)]) (dL (E2 rfl) (Fa rfl)) rfl (NK _ _ hn)) ?_;refine aT (v:=.flt (qB (hs.getD 6 0%5))) (lR (y:=4) (dV (y:=5) (E2 rfl) aR (by decide)) aR (by decide) (jam (ZL _ (by decide)) (by decide:5<2^64))) ?_;refine du (uT ((Dm (ag rfl)).trans ?_) (OV (N:=N+1) (ZL _ (by decide)) rfl)) bH ?_
 ·have:(cq (hs.getD 6 0) (3*ac.length)).length=3*ac.length:=by unfold cq;rw[Y0,jaf]
  rw[this,decide_eq_false (by lia)]
 refine mN (vs:=[.int (ac.length:Nat),.lst ((bL ac (2^ac.length-1)).map cR)]) (gI (Fa rfl) (gI (cL (vs:=[b9 ac]) (cT (ag rfl)) (At (Em ac)) (NM (N:=N+1) hg)) mI)) rfl ?_;exact hr
theorem Av:∀(l:List Nat),∀x∈l,x<=l.sum
 |a::l,x,h=>by
  refine aa jal ?_;rcases ZQ.mp h with rfl|h
  ·exact ZD x l.sum
  ·have:=Av l x h
   lia
def jp (n:Nat)(W:Int):Int:=if n%2=1 then -W else W
def iq (ds:List Nat)(n:Nat):List Nat:=(Y7 n).map λm=>(ds.drop (m+1)).sum
structure ur (n w L de:Nat) (ds:List Nat) (P:Nat->Nat):Prop where
 W1:VN (2^w) ds<2^1000
 dl:∀d∈ds,d<1000
 back:dg w (bA w (VN (2^w) ds)) (VN (2^w) ds)=ds.map Z5
 side:∀h:Nat,h=1\/h=2\/h=3->∃q:Int,jp n (VN (2^w) ds:Nat)=(P h:Nat)+(((2^w:Nat):Int)+h)*q
 quo:VN (2^w) ds=L+(2^w-1)*VN (2^w) (iq ds n)
 tback:dg w (bA w (VN (2^w) (iq ds n))) (VN (2^w) (iq ds n))=(iq ds n).map Z5
 two:∃q:Int,((VN (2^w) ds:Nat):Int)=(de:Int)+(((2^w:Nat):Int)-2)*q
 Ll:L<1000
 q1:VN (2^w) (iq ds n)<2^1000
theorem Sk (f:o4 ac)(g:iw ac)(hw:10<=w)(oF:w<=32):
 ur ac.length w (tab ac (2^ac.length-1)).length (i6 ac) (0::dT (tab ac (2^ac.length-1)) ac.length) (λh=>(ci h ac ac.length).length):=by
 obtain⟨f1,f2,f3,f4,f5,f6,f7⟩:=f;have hn:=g.le;have sT:=g.pos;have hb:1024<=2^w:=Y1 (by decide:1024<=2^10) (Zl (by decide) hw);have qo:(dT (tab ac (2^ac.length-1)) ac.length).length=ac.length:=by
  unfold dT;rw[Zo,Y0,jbG];simp[*]
 generalize hL:(tab ac (2^ac.length-1)).length=L at *;generalize dT (tab ac (2^ac.length-1)) ac.length=ds at *;generalize ac.length=n at *;have vB:(0::ds).length=n+1:=by rw[Zo,qo]
 have y5:L<1000:=by
  rw[y6]at f4;have:=xa 2 (by decide) ds;rw[f2]at this;have:L<=VN 2 ds:=by rw[this];exact ZD _ _
  lia
 have vm:∀d∈(0::ds),d<1000:=λd hd=>by
  rcases ZQ.mp hd with rfl|hd
  ·decide
  ·have:=Av ds d hd
   lia
 have vz:1<=(0::ds).getD ((0::ds).length-1) 0:=by
  rw[vB,jdT];obtain⟨m,rfl⟩:∃m,n=m+1:=⟨n-1,by simp[*]⟩
  rw[jdT]at f3;show 1<=ds.getD m 0;rw[f3];exact Y5 1
 have ED:∀l:List Nat,l.length<=6->(∀d∈l,d<1000)->VN (2^w) l<2^1000:=λl hl hd=>by
  have h1:=wZ (jaC w) l (λd h=>by have:=hd d h;lia);rw[<-Nat.pow_mul]at h1;exact bf h1 (Zl (by decide) (Y1 (jbk oF hl) (by decide)))
 have QL:(0::ds).sum=L:=by rw[jal,f2,jey]
 have FL:∀d∈iq (0::ds) n,d<1000:=λd hd=>by
  unfold iq at hd;refine au (Zn.mp hd) ?_;rintro m _ rfl;have:=V4 (0::ds) (m+1)
  lia
 have oE:(iq (0::ds) n).length=n:=by unfold iq;rw[Y0,jaf]
 refine⟨ED _ (by lia) vm,vm,?_,?_,?_,?_,?_,y5,ED _ (by lia) FL⟩
 ·exact CX (wK hw) (by simp) (λd hd=>by have:=vm d hd;lia) vz
 ·intro h hh;have e:=f7 h hh;have hv:=uw (2^w) (0::ds);refine aX (w0 ((2^w:Nat):Int) (-(h:Int)) (0::ds)) λq hq=>?_;have e2:VI (-(h:Int)) (0::ds)=-hI h ds:=by
   rw[pi,Ez,jhL];show(0:Int)+_=_
   lia
  rw[<-hv,e2,e]at hq;unfold jp tK at *;by_cases ho:n%2=1
  ·rw[if_pos ho]at hq ⊢;refine⟨-q,?_⟩;rw[hq,jfc,Int.neg_add,jhK,Int.sub_neg]
  ·rw[if_neg ho]at hq ⊢;refine⟨q,?_⟩;rw[hq,jhK,Int.sub_neg]
 ·have:=xa (2^w) (wK hb) (0::ds);rw[Xc vB,BQ,QL]at this;exact this
 ·refine CX (wK hw) (λe=>?_) (λd hd=>by have:=FL d hd;lia) ?_
  ·rw[e]at oE;have:n=0:=oE.symm
   lia
  ·rw[oE];unfold iq;rw[Y8,ZO,jdA (by lia)];show 1<=((0::ds).drop (n-1+1)).sum;rw[show n-1+1=n from BC sT];have:(0::ds).getD n 0∈(0::ds).drop n:=by
    rw[Y8,Zc (ZK (id (jfk vB)))];rw[jdq];exact⟨0,by rw[jbE];lia,by rw[jij];rfl⟩
   have h2:=Av _ _ this;rw[vB,jdT]at vz
   lia
 ·refine aX (w0 ((2^w:Nat):Int) 2 (0::ds)) λq hq=>?_;refine⟨q,?_⟩;rw[uw,hq]
  congr 1
  rw[pi,<-f4,y6,jba,uw];show(0:Int)+2*_=_;rw[Int.zero_add];rfl
section
theorem tC {N:Nat}{a b:Ex}{is:List Int}{c:List AV->AV}(hc:c=.tup\/c=.lst)(ha:ev (Fi (N+1)) [] ρ a=some (c (is.map .int)))(hb:ev (Fi (N+1)) [] ρ b=some (c (is.map .int)))(hl:is.length<=1000):ev (Fi (N+1)) [] ρ (.call (.user 20) (.cons a (.cons b .nil)))=some (.bool true):=by
 have hz:aZ [] 6 (c (is.map .int))=some (c (is.map .int)):=by
  have hm:bj (aZ [] 5) (is.map AV.int)=some (is.map AV.int):=by
   refine aa (oJ (g:=id) _ (λa ha=>by refine au (Zn.mp ha) ?_;rintro i _ rfl;rfl)) ?_;refine aa (jbX _) ?_;rfl
  rcases hc with rfl|rfl
  ·show(bj (aZ [] 5) (is.map AV.int)).map AV.tup=_;refine aa hm ?_;rfl
  ·show(bj (aZ [] 5) (is.map AV.int)).map AV.lst=_;refine aa hm ?_;rfl
 exact cL (vs:=[c (is.map .int),c (is.map .int)]) (dL ha hb) (Au hz hz) (NN is hl hc)
theorem yc (h1:ev Φ σ ρ a=some (.int x))(h2:ev Φ σ ρ b=some (.int y))(hy:y≠0)(hs:y.natAbs<2^64):ev Φ σ ρ (.bin .FloorDiv a b)=some (.int (x.fdiv y)):=by
 refine cb h1 h2 ?_;show(if y=0\/!small y then none else some (AV.int (x.fdiv y)))=_;have:small y=true:=by unfold small;exact decide_eq_true hs
 rw[if_neg (by refine aa this ?_;simp;exact hy)]
theorem MZ {a b:Ex}{l:List Nat}{k:Nat}(h1:ev Φ σ ρ a=some (.lst (aq l)))(h2:ev Φ σ ρ b=some (.int k)):ev Φ σ ρ (.call .count (.cons a (.cons b .nil)))=some (.int (l.countP λx=>decide (x=k):Nat)):=by
 refine dK (dL h1 h2) ?_;show pE σ [.lst (aq l),.int k]=_
 delta pE;dsimp only;rw[show aQ σ (.lst (aq l))=some (aq l)from rfl];dsimp only
 refine aa (qG _) ?_;unfold bC;simp only[rH];refine aa jfY ?_
 congr 3
 congr 1
 funext x;rw[jaM];show((Z5 x==(k:Int))=true)↔_;rw[beq_iff_eq,decide_eq_true_iff];show((x:Int)=(k:Int))↔_
 lia
end
abbrev qM (s bJ:AV)(hs:List Nat)(dO row:AV)(ac:List (List Nat))(ja j1:AV)(ng ds:List Nat)(w:Nat)(W side:Int)(Xp Xq Xr Xs Xt:Option AV):aB :=
 [some s,some (.lst (aq kz)),some bJ,some (.lst (aq hs)),some dO,some row,some row,some (b9 ac),some (.lst (cq (hs.getD 6 0) (3*ac.length))),some ja,some (.int (ac.length:Nat)),some (.lst ((bL ac (2^ac.length-1)).map cR)),some j1,some (.lst (aq ng)),some (.lst (aq ds)),some (.int w),some (.int (2^w:Nat)),some (.int W),some (.int side),Xp,Xq,Xr,Xs,Xt]
section
theorem oS (ac:List (List Nat)):((bL ac (2^ac.length-1)).map cR).length=2^ac.length:=by
 have:=jaC ac.length;rw[Y0,nx];lia
theorem Bn (ac:List (List Nat))(h:S<2^ac.length):((bL ac (2^ac.length-1)).map cR)[S]?=some (cR (tab ac S)):=by
 have hl:=nx ac (2^ac.length-1);have e:=tT ac (k:=S) (2^ac.length-1) (by lia);refine aa ZO ?_;rw[Y8,Zc (by lia)]at e;refine aa (Zc (by lia)) ?_;unfold tab;refine rwj e ?_;rfl
theorem Sf {ac:List (List Nat)}{hs:List Nat}{s bJ dO row ja:AV}{w:Nat}(g:iw ac)(f:o4 ac)(h8:hs.length=8)(hw:w=10+hs.getD 7 0/60%23)(M:ur ac.length w (tab ac (2^ac.length-1)).length (i6 ac) (0::dT (tab ac (2^ac.length-1)) ac.length) (λh=>(ci h ac ac.length).length)):
 ∃j1,∀r,aE (Fi (N+2)) (qM s bJ hs dO row ac ja j1 ((tab ac (2^ac.length-1)).map (·.2)) (0::dT (tab ac (2^ac.length-1)) ac.length) w (VN (2^w) (0::dT (tab ac (2^ac.length-1)) ac.length):Nat) (jp ac.length (VN (2^w) (0::dT (tab ac (2^ac.length-1)) ac.length):Nat)) none none none none none) [] (pK 17 mR.body)=r ->
  aE (Fi (N+2)) (AZ s bJ (.lst (aq hs)) dO row (b9 ac) (.lst (cq (hs.getD 6 0) (3*ac.length))) ja (.int (ac.length:Nat)) (.lst ((bL ac (2^ac.length-1)).map cR))) [] (pK 11 mR.body)=r:=by
 have hn:=g.le;have sT:=g.pos;have hp:=jaC ac.length;have mU:2^ac.length<=32:=Y1 (Zl (by decide) hn) (by decide);have y5:=M.Ll;have Pj:=f.alone (hs.getD 7 0%ac.length) (ZL _ sT);have qo:(dT (tab ac (2^ac.length-1)) ac.length).length=ac.length:=by
  unfold dT;refine aa Zo ?_;refine aa (Y0 _) ?_;refine aa jbG ?_;simp[*]
 have PA:=M.dl;have YG:w<=32:=by
  have:=ZL (hs.getD 7 0/60) (show 0<23 by decide)
  lia
 have fu:∀i,i<8->(aq hs)[i]?=some (.int (hs.getD i 0:Nat)):=λi hi=>nk (by simp[*]);have E3:∀{ρ:aB},ρ[3]?=some (some (.lst (aq hs)))->ev (Fi (N+2)) [] ρ (.idx (.var 3) (.c (.int 7)))=some (.int (hs.getD 7 0:Nat)):=λh3=>fX (l:=aq hs) (k:=7) (ag h3) aR (fu 7 (jbK)) (by refine aa (Y0 _) ?_;simp[*]);have lm:∀{ρ:aB},ρ[11]?=some (some (.lst ((bL ac (2^ac.length-1)).map cR)))->ev (Fi (N+2)) [] ρ (.idx (.var 11) (.un .USub (.c (.int 1))))=some (cR (tab ac (2^ac.length-1))):=λkZ=>by
  refine Di (l:=(bL ac (2^ac.length-1)).map cR) (k:=0) (ag kZ) rfl ?_ ?_ ?_
  ·refine aa (oS _) ?_;exact hp
  ·refine aa (oS _) ?_;exact Bn ac (by lia)
  ·refine aa (oS _) ?_;lia
 generalize hD:tab ac (2^ac.length-1)=D at *;generalize hT:(bL ac (2^ac.length-1)).map cR=T at *;generalize hY:dT D ac.length=ds at *;have alone:ev (Fi (N+2)) [] (AZ s bJ (.lst (aq hs)) dO row (b9 ac) (.lst (cq (hs.getD 6 0) (3*ac.length))) ja (.int (ac.length:Nat)) (.lst T)) (.comp 1 (.cons 24 (.val (.idx (.var 11) (.un .USub (.c (.int 1))))) (.cons (.cmp .Eq (.comp 1 (.cons 25 (.range (.cons (.var 10) .nil)) (.cons (.cmp .Eq (.bin .Mod (.bin .FloorDiv (.var 24) (.bin .Pow (.c (.int 32)) (.var 25))) (.c (.int 32))) (.c (.int 0))) .nil) (.done (.var 25)))) (.list (.cons (.bin .Mod (.idx (.var 3) (.c (.int 7))) (.var 10)) .nil))) .nil) (.done (.var 24)))) =
  some (.lst ((D.filter λe=>decide ((Y7 ac.length).filter (λi=>decide (e.1/32^i%32=0))=[hs.getD 7 0%ac.length])).map λe=>AV.int (e.1:Nat))):=by
  refine(nX (x:=24) (vs:=D.map λe=>AV.int (e.1:Nat)) (p:=λv=>match v with | .int k=>decide ((Y7 ac.length).filter (λi=>decide (k.toNat/32^i%32=0))=[hs.getD 7 0%ac.length])|_=>false) (g:=id) ?_ rfl (by refine aa (Y0 _) ?_;lia) (λv hv=>?_) (λv hv Y=>?_)).trans ?_
  ·rewrite [sb];refine aa (lm rfl) ?_;show some ((cG D).map λe=>AV.int e.1)=_;unfold cG;refine aa ZJ ?_;rfl
  ·refine au (Zn.mp hv) ?_;rintro e he rfl;show _=some (decide ((Y7 ac.length).filter (λi=>decide ((e.1:Int).toNat/32^i%32=0))=[hs.getD 7 0%ac.length]));refine aa (ZB _) ?_;refine kS (M0 ?_ ?_)
   ·refine(nX (x:=25) (vs:=aq (Y7 ac.length)) (p:=λv=>match v with | .int i=>decide (e.1/32^i.toNat%32=0)|_=>false) (g:=id) (j9 (ag rfl) (by lia)) rfl (by refine aa (Y0 _) ?_;refine aa jaf ?_;lia) (λv hv=>?_) (λv hv Y=>?_)).trans ?_
    ·refine au (Zn.mp hv) ?_;rintro i hi rfl;have hi:=ZI.mp hi;show _=some (decide (e.1/32^(i:Int).toNat%32=0));refine aa (ZB _) ?_;have Ui:32^i<2^64:=Zz (Zl (by decide) (show i<=5 by lia)) (by decide);have p0:=jcM (n:=i) (show 0<32 by decide);exact kS (pS (y:=0) (dV (y:=32) (jC (ag rfl) (jE (x:=32) aR (ag rfl) (by decide) (by lia)) (by lia) Ui) aR (by decide)) aR)
    ·refine au (Zn.mp hv) ?_;rintro i hi rfl;exact ag rfl
    ·refine aa (jbX _) ?_;unfold aq;refine aa jce ?_
     congr 3
   ·exact se (cT (dV (E3 rfl) (ag rfl) (by lia))) (show 1<=100000 by decide)
  ·refine au (Zn.mp hv) ?_;rintro e he rfl;exact ag rfl
  ·refine aa (jbX _) ?_;refine aa jce ?_
   congr 3
 refine⟨.lst ((D.filter λe=>decide ((Y7 ac.length).filter (λi=>decide (e.1/32^i%32=0))=[hs.getD 7 0%ac.length])).map λe=>AV.int (e.1:Nat)),λr hr=>?_⟩;refine aT alone ?_;refine aT (v:=.lst (aq (D.map (·.2)))) (dK (cT (lm rfl)) ?_) ?_
 ·show(if(cG D).length<=100000 then some (AV.lst ((cG D).map (·.2)))else none)=_;unfold cG aq;refine aa (Y0 _) ?_;refine aa (if_pos (by lia)) ?_;refine aa ZJ ?_;refine aa ZJ ?_;rfl
 refine aT (v:=.lst (aq (0::ds))) ?_ ?_
 ·have e:(0::ds)=[0,mA D ac.length (hs.getD 7 0%ac.length)]++(ZT 2 (ac.length-1)).map λk=>D.countP λe=>decide (e.2=k):=by
   refine rwj hY ?_;refine aa Pj ?_;rfl
  refine aa e ?_;refine(sd (x:=aq [0,mA D ac.length (hs.getD 7 0%ac.length)]) (y:=aq ((ZT 2 (ac.length-1)).map λk=>D.countP λe=>decide (e.2=k))) ?_ ?_ ?_).trans ?_
  ·refine se (vs:=[.int 0,.int (mA D ac.length (hs.getD 7 0%ac.length):Nat)]) (dL bK ?_) (show 2<=100000 by decide);have:=yf (Φ:=Fi (N+2)) (σ:=[]) (a:=.var 12) (l:=(D.filter λe=>decide ((Y7 ac.length).filter (λi=>decide (e.1/32^i%32=0))=[hs.getD 7 0%ac.length])).map λe=>AV.int (e.1:Nat)) (ρ:=[some s,some (.lst (aq kz)),some bJ,some (.lst (aq hs)),some dO,some row,some row,some (b9 ac),some (.lst (cq (hs.getD 6 0) (3*ac.length))),some ja,some (.int (ac.length:Nat)),some (.lst T),some (.lst ((D.filter λe=>decide ((Y7 ac.length).filter (λi=>decide (e.1/32^i%32=0))=[hs.getD 7 0%ac.length])).map λe=>AV.int (e.1:Nat))),some (.lst (aq (D.map (·.2)))),none,none,none,none,none,none,none,none,none,none]) (ag rfl) (by refine aa (Y0 _) ?_;have:=jda (λ(e:Nat×Nat)=>decide ((Y7 ac.length).filter (λi=>decide (e.1/32^i%32=0))=[hs.getD 7 0%ac.length])) D;lia);rw[Y0,<-List.countP_eq_length_filter]at this;exact this
  ·refine(nY (x:=24) (vs:=aq (ZT 2 (ac.length+1-2))) (g:=λv=>match v with | .int k=>.int (D.countP (λe=>decide (e.2=k.toNat)):Nat)|v=>v) (x5 (a:=2) aR (iF (y:=1) (ag rfl) aR) (by lia) (by lia)) rfl (by refine aa (Y0 _) ?_;refine aa jbG ?_;lia) (λv hv=>?_)).trans ?_
   ·refine au (Zn.mp hv) ?_;rintro k hk rfl;show _=some (AV.int (D.countP (λe=>decide (e.2=(k:Int).toNat)):Nat));refine aa (ZB _) ?_;refine(MZ (l:=D.map (·.2)) (k:=k) (ag rfl) (ag rfl)).trans ?_;refine aa jfY ?_;rfl
   ·unfold aq;refine aa ZJ ?_;refine aa ZJ ?_;refine aa (show ac.length+1-2=ac.length-1 by lia) ?_;rfl
  ·refine aa (Y0 _) ?_;refine aa (Y0 _) ?_;refine aa (Y0 _) ?_;refine aa jbG ?_;show 2+_<=_
   lia
  ·unfold aq;refine aa ZS ?_;rfl
 have Q3:∀{ρ:aB},ρ[3]?=some (some (.lst (aq hs)))->ev (Fi (N+2)) [] ρ (.bin .Add (.c (.int 10)) (.bin .Mod (.bin .FloorDiv (.idx (.var 3) (.c (.int 7))) (.c (.int 60))) (.c (.int 23))))=some (.int (w:Nat)):=λh3=>by
  refine aa hw ?_;exact iF (x:=10) aR (dV (y:=23) (jC (y:=60) (E3 h3) aR (by decide) (by decide)) aR (by decide))
 refine aT (Q3 rfl) ?_;refine mN (vs:=[.int (2^w:Nat),.int (VN (2^w) (0::ds):Nat)]) (gI (jE (x:=2) aR (ag rfl) (by decide) (by lia)) (gI ?_ mI)) rfl ?_
 ·have h2:=yF (n:=N+1) (m:=w) (is:=(0::ds).map Z5) (by refine aa (Y0 _) ?_;refine aa Zo ?_;lia) (by lia) (λd hd=>by
   refine au (Zn.mp hd) ?_;rintro x hx rfl;have:=PA x hx;show x<2^64;exact jam this (by decide))
  rw[xQ]at h2;refine cL (vs:=[.lst (aq (0::ds)),.int w]) (dL (ag rfl) (ag rfl)) (Au (El _) rfl) ?_;refine aa (qG _) ?_;exact h2
 subst hT;refine aT (v:=.int (jp ac.length (VN (2^w) (0::ds):Nat))) ?_ hr;unfold jp;have hc:∀{ρ:aB},ρ[10]?=some (some (.int (ac.length:Nat)))->ev (Fi (N+2)) [] ρ (.cmp .Eq (.bin .Mod (.var 10) (.c (.int 2))) (.c (.int 1)))=some (.bool (decide (ac.length%2=1))):=λlT=>pS (y:=1) (dV (y:=2) (ag lT) aR (by decide)) aR;by_cases ho:ac.length%2=1
 ·refine aa (if_pos ho) ?_;exact pU ((hc rfl).trans (by refine aa (decide_eq_true ho) ?_;rfl)) (M5 (ag rfl))
 ·refine aa (if_neg ho) ?_;exact pT ((hc rfl).trans (by refine aa (decide_eq_false ho) ?_;rfl)) (ag rfl)
end
def Ov:dw->dw
 | .cons (.for_ _ _ b) _=>b
 |_=>.nil
def Eu:dw:=Ov (pK 17 mR.body)
section
theorem QV (g:iw ac)(h8:hs.length=8)(sZ:10<=w)(oF:w<=32)(M:ur ac.length w L de ds (λh=>(ci h ac ac.length).length))(hh:h=1\/h=2\/h=3):
 ∃xi xj,aE (Fi (N+5)) (qM s bJ hs dO row ac ja j1 ng ds w (VN (2^w) ds:Nat) (jp ac.length (VN (2^w) ds:Nat)) (some (.int (h:Nat))) nJ nK none none) [] Eu =
  some (.next (qM s bJ hs dO row ac ja j1 ng ds w (VN (2^w) ds:Nat) (jp ac.length (VN (2^w) ds:Nat)) (some (.int (h:Nat))) xi xj none none) []):=by
 have hn:=g.le;have zo:h<=3:=by lia
 refine aX (M.side h hh) λq hq=>?_;have qm:=M.W1;have Pk:1024<=2^w:=Y1 (by decide:1024<=2^10) (Zl (by decide) sZ);have kj:2^w<=4294967296:=Y1 (Zl (by decide) oF) (by decide);have hP:(ci h ac ac.length).length<=243:=by
  refine Y1 (tB h ac ac.length) (Y1 (jdE zo _) (Y1 (Zl (by decide) hn) (by decide)))
 have fu:(aq hs)[7]?=some (.int (hs.getD 7 0:Nat)):=nk (ZK (id (jfk h8)));have EI:(jp ac.length (VN (2^w) ds:Nat)).natAbs=VN (2^w) ds:=by unfold jp;split<;>simp
 have O2:=NL (N:=N+4) (ac:=ac) (A:=hs.getD 6 0) (h:=h) g zo (QU _);generalize YC:jp ac.length (VN (2^w) ds:Nat)=side at *;generalize Yn:(ci h ac ac.length).length=dx at *;have hq:side=(dx:Int)+(((2^w:Nat):Int)+h)*q:=hq;generalize mX:2^w=base at *;have oq:=sq (m:=(base:Int)+h) (q:=q) (r:=dx) (Zi dx) (by lia);have zk:=DT (m:=(base:Int)+h) (q:=q) (r:=dx) (Zi dx) (by lia);have hz:=sq (m:=(base:Int)+h) (q:=q) (r:=0) (Zi 0) (by lia);rw[<-hq]at oq zk;have QE:(side-dx).fdiv ((base:Int)+h)=q:=by
  have e:side-dx=0+((base:Int)+h)*q:=by lia
  refine aa e ?_;exact hz.1
 have QF:∃sg:Int,(sg=1\/sg=-1)/\sg=1-((2*((h+hs.getD 7 0)%2):Nat):Int):=aN _ (by lia) rfl;refine au QF λsg FG QG=>?_;have key:(sg*side).fdiv (sg*((base:Int)+h))=q/\(sg*side).fmod (sg*((base:Int)+h))=sg*dx/\sg*((base:Int)+h)≠0/\(sg*((base:Int)+h)).natAbs<2^64/\(sg*side).natAbs<2^1000:=by
  have a0:((base:Int)+h).natAbs<2^64:=by
   have:((base:Int)+h).natAbs=base+h:=rfl;refine aa this ?_;lia
  rcases FG with rfl|rfl
  ·refine aa (jhJ _) ?_;refine aa (jhJ _) ?_;refine aa (jhJ _) ?_;exact F0 oq.1 oq.2 (by lia) a0 (by refine aa EI ?_;exact qm)
  ·refine aa (jgo _) ?_;refine aa (jgo _) ?_;refine aa (jgo _) ?_;exact F0 zk.1 zk.2 (by lia) (by refine aa (jdV _) ?_;exact a0) (by refine aa (jdV _) ?_;refine aa EI ?_;exact qm)
 refine DA key λk1 k2 k3 k4 k5=>?_;have oB:small sg=true:=by
  unfold small;refine decide_eq_true ?_;rcases FG with rfl|rfl<;>decide
 refine jP (some (.int (dx:Nat))) (some (.int sg)) ?_;refine aT (v:=.int (dx:Nat)) (cL (vs:=[b9 ac,.lst (cq (hs.getD 6 0) (3*ac.length)),.int (h:Nat)]) (gJ (ag rfl) (ag rfl) (ag rfl)) (S3 (Em ac) (OI _ _) rfl) O2) ?_;refine aT (v:=.int sg) ?_ ?_
 ·refine aa QG ?_;exact jF bK (mK (x:=2) aR (dV (y:=2) (iF (ag rfl) (fX (l:=aq hs) (k:=7) (ag rfl) aR fu (by refine aa (Y0 _) ?_;lia))) aR (by decide)) (jcu (by decide)))
 refine du (uT ?_ ?_) bH ?_
 ·refine(yh (b:=true) (tC (N:=N+4) (is:=[q,sg*dx]) (jcu rfl) ?_ ?_ (by simp))).trans rfl
  ·have h4:=yG (N:=N) (a:=sg*side) (b:=sg*((base:Int)+h)) k5 k3 k4;rw[k1,k2]at h4;refine cL (vs:=[.int (sg*side),.int (sg*((base:Int)+h))]) (dL (uS (ag rfl) (ag rfl) (jcu oB)) (uS (ag rfl) (nW (x:=(base:Int)) (y:=(h:Int)) ?_ (ag rfl)) (jcu oB))) rfl h4;refine rwj mX ?_;exact ag rfl
  ·refine sj (vs:=[.int q,.int (sg*dx)]) (dL ?_ (uS (ag rfl) (ag rfl) (jcu oB))) (show 2<=100000 by decide);refine rwj QE ?_;refine yc (jF (ag rfl) (ag rfl)) (nW (x:=(base:Int)) (y:=(h:Int)) ?_ (ag rfl)) (by lia) ?_
   ·refine rwj mX ?_;exact ag rfl
   ·have:((base:Int)+h).natAbs=base+h:=rfl;refine aa this ?_;lia
 ·have qo:(dg h (bA h dx) dx).length<=1000:=by
   rw[r6];unfold bA Zm;have:dx.log2<8\/dx=0:=by
    by_cases h0:dx=0
    ·exact jfw h0
    ·exact jcu ((jeX h0).mpr (by lia))
   refine Y1 (jgm _ _) ?_;split
   ·lia
   ·refine aa (ZR _) ?_;rcases this with h1|h1
    ·lia
    ·have h0:Nat.log2 0=0:=by decide
     refine aa h1 ?_;refine aa h0 ?_;lia
  have h1:=uZ (n:=N+4) (a:=dx) (m:=h) (Zz hP (bf (by decide:243<2^8) (Zl (by decide) (by decide)))) (by lia) (bw zo rfl);have h2:=yF (n:=N+4) (m:=h) (is:=dg h (bA h dx) dx) qo (by lia) (λd hd=>by
   rw[r0]at hd;refine au (Zn.mp hd) ?_;rintro x hx rfl;have:=xT h _ _ x hx;show x<2^64;exact bf this (Zl (by decide) (by lia)))
  rw[back h dx (by lia)]at h2;have c1:∀{ρ:aB},ρ[20]?=some (some (.int (dx:Nat)))->ρ[19]?=some (some (.int (h:Nat)))->ev (Fi (N+5)) [] ρ (.call (.user 2) (.cons (.call (.user 1) (.cons (.var 20) (.cons (.var 19) .nil))) (.cons (.var 19) .nil)))=some (.int (dx:Nat)):=λOK En =>
   cL (vs:=[.lst (bC (dg h (bA h dx) dx)),.int (h:Nat)]) (dL (cL (vs:=[.int (dx:Nat),.int (h:Nat)]) (dL (ag OK) (ag En)) rfl h1) (ag En)) (Au (Ek _) rfl) h2
  refine(yg (x:=(dx:Int)) (y:=dx) (c1 rfl rfl) (ag rfl)).trans ?_;refine aa (decide_eq_true rfl) ?_;rfl
 ·exact bH
end
theorem Nf (h1:ev Φ σ ρ a=some x)(h2:ev Φ σ ρ b=some y)(h3:ev Φ σ ρ c=some z)(h4:ev Φ σ ρ d=some u):bX Φ σ ρ (.cons a (.cons b (.cons c (.cons d .nil))))=some [x,y,z,u]:=by
 rw[mM,h1];dsimp only;rw[gJ h2 h3 h4]
section
theorem Lx (gr:iw ac)(f:o4 ac)(hr:ρ.length=24)(lT:∀w:List (Option AV),(ρ++w)[10]?=some (some (.int (ac.length:Nat))))(kZ:∀w:List (Option AV),(ρ++w)[11]?=some (some (.lst ((bL ac (2^ac.length-1)).map cR)))):
 ev (Fi N) [] ρ (.call .sum (.cons (.comp 1 (.cons 24 (.range (.cons (.bin .Pow (.c (.int 2)) (.var 10)) .nil)) .nil (.done (.bin .Mult (.call .len (.cons (.idx (.var 11) (.var 24)) .nil)) (.call .len (.cons (.idx (.var 11) (.bin .Sub (.un .USub (.c (.int 1))) (.var 24))) .nil)))))) .nil))=some (.int (i6 ac:Nat)):=by
 have hn:=gr.le;have mU:2^ac.length<=32:=Y1 (Zl (by decide) hn) (by decide);have Et:=lT [];rw[Z2]at Et;refine uU (l:=(Y7 (2^ac.length)).map λS=>(tab ac S).length*(tab ac (2^ac.length-1-S)).length) ?_ (jam f.dlt (by decide));refine(nY (x:=24) (vs:=aq (Y7 (2^ac.length))) (g:=λv=>match v with | .int k=>.int ((tab ac k.toNat).length*(tab ac (2^ac.length-1-k.toNat)).length:Nat)|v=>v) (j9 (jE (x:=2) aR (ag Et) (by decide) (bw hn rfl)) (bw mU rfl)) hr (by refine aa (Y0 _) ?_;refine aa jaf ?_;exact bw mU rfl) (λv hv=>?_)).trans ?_
 ·refine au (Zn.mp hv) ?_;rintro S hS rfl;have hS:=ZI.mp hS;show _=some (AV.int ((tab ac (S:Int).toNat).length*(tab ac (2^ac.length-1-(S:Int).toNat)).length:Nat));refine aa (ZB _) ?_;have t4:(ρ++[some (AV.int (S:Int))])[24]?=some (some (.int (S:Int))):=by
   refine aa (Zg (ZK hr)) ?_;refine aa hr ?_;rfl
  have l1:=Bk hn (S:=S) (bf hS mU);have l2:=Bk hn (S:=2^ac.length-1-S) (by omega);refine mK (Do (D:=tab ac S) (fX (l:=(bL ac (2^ac.length-1)).map cR) (k:=S) (ag (kZ _)) (ag t4) (Bn ac hS) (by refine aa (oS _) ?_;exact bw mU rfl)) (bw l1 rfl)) (Do (D:=tab ac (2^ac.length-1-S)) (Di (l:=(bL ac (2^ac.length-1)).map cR) (k:=S) (ag (kZ _)) (jF rfl (ag t4)) (by refine aa (oS _) ?_;exact hS) (by refine aa (oS _) ?_;exact Bn ac (by omega)) (by refine aa (oS _) ?_;exact bw mU rfl)) (by lia)) (jcu (Zz l1 (by decide)))
 ·unfold aq;refine aa ZJ ?_;refine aa ZJ ?_;rfl
theorem Sg (g:iw ac)(f:o4 ac)(sZ:10<=w)(oF:w<=32)(iK:ng.length=L)(hY:ds.length=ac.length+1)(M:ur ac.length w L (i6 ac) ds (λh=>(ci h ac ac.length).length)):
 aE (Fi (N+5)) (qM s bJ hs dO row ac ja j1 ng ds w (VN (2^w) ds:Nat) (jp ac.length (VN (2^w) ds:Nat)) ux nJ nK none none) [] (pK 18 mR.body)=some (.ret (.bool true)):=by
 have hn:=g.le;have Pk:1024<=2^w:=Y1 (by decide:1024<=2^10) (Zl (by decide) sZ);have kj:2^w<=4294967296:=Y1 (Zl (by decide) oF) (by decide);have y5:=M.Ll;have Fz:=M.quo;have qm:=M.W1;have Pc:=M.q1;have Ym:=f.dpos;have vm:=f.dlt;refine aX M.two λq2 Fx=>?_;have tb:=M.tback;have bk:=M.back;generalize hQ:VN (2^w) (iq ds ac.length)=Q at *;have mX:∀{ρ:aB},ρ[16]?=some (some (.int ((2^w:Nat):Int)))->ev (Fi (N+5)) [] ρ (.var 16)=some (.int ((2^w:Nat):Int)):=λh=>ag h;generalize hW:VN (2^w) ds=W at *;have Fe:∀{ρ:aB},ρ[13]?=some (some (.lst (aq ng)))->ev (Fi (N+5)) [] ρ (.call .len (.cons (.var 13) .nil))=some (.int (L:Nat)):=λsH=>by
  have:=yf (Φ:=Fi (N+5)) (σ:=[]) (l:=aq ng) (ag sH) (by refine aa (Y0 _) ?_;lia)
  rwa [Y0,iK]at this
 have EO:∀{ρ:aB},ρ[16]?=some (some (.int ((2^w:Nat):Int)))->ev (Fi (N+5)) [] ρ (.bin .Sub (.var 16) (.c (.int 1)))=some (.int ((2^w-1:Nat):Int)):=λh=>si (y:=1) (mX h) aR (by lia);have Pd:((W:Int)-(L:Int)).fdiv ((2^w-1:Nat):Int)=(Q:Int):=by
  have e:(W:Int)-(L:Int)=0+((2^w-1:Nat):Int)*(Q:Int):=by
   refine aa Fz ?_;refine aa (jbu _ _) ?_;refine aa (jba _ _) ?_;lia
  refine aa e ?_;exact(sq (Zi 0) (by lia)).1
 refine aT (v:=.int (Q:Nat)) ?_ ?_
 ·refine rwj Pd ?_;exact yc (jF (ag rfl) (Fe rfl)) (EO rfl) (by lia) (by refine aa (ZR _) ?_;lia)
 have EU:W/(2^w-1)=Q/\W%(2^w-1)=L:=by
  refine aa Fz ?_;refine aa (jfa _ _ (by lia)) ?_;refine aa (jet (by lia)) ?_;rewrite [jea];refine aa (jfQ (by lia)) ?_;exact⟨by lia,rfl⟩
 have h3:=DV (N:=N+3) (a:=W) (b:=2^w-1) qm (by lia) (by lia);rw[EU.1,EU.2]at h3;have oE:(iq ds ac.length).length=ac.length:=by unfold iq;refine aa (Y0 _) ?_;refine aa jaf ?_;rfl
 refine du (uT ?_ ?_) bH ?_
 ·refine(yh (b:=true) (tC (N:=N+4) (is:=[(Q:Int),(L:Int)]) (jcu rfl) ?_ ?_ (by simp))).trans rfl
  ·exact cL (vs:=[.int W,.int ((2^w-1:Nat):Int)]) (dL (ag rfl) (EO rfl)) rfl h3
  ·exact sj (vs:=[.int Q,.int L]) (dL (ag rfl) (Fe rfl)) (show 2<=100000 by decide)
 ·refine(yh (b:=true) (tC (N:=N+4) (is:=(iq ds ac.length).map Z5) (jfw rfl) ?_ ?_ (by refine aa (Y0 _) ?_;refine aa oE ?_;lia))).trans rfl
  ·have h1:=uZ (n:=N+4) (a:=Q) (m:=w) Pc (by lia) (by lia);rw[tb]at h1;exact cL (vs:=[.int Q,.int w]) (dL (ag rfl) (ag rfl)) rfl h1
  ·refine(nY (x:=24) (vs:=aq (Y7 ac.length)) (g:=λv=>match v with | .int k=>.int ((ds.drop (k.toNat+1)).sum:Nat)|v=>v) (j9 (ag rfl) (by lia)) rfl (by refine aa (Y0 _) ?_;refine aa jaf ?_;lia) (λv hv=>?_)).trans ?_
   ·refine au (Zn.mp hv) ?_;rintro k hk rfl;have hk:=ZI.mp hk;show _=some (AV.int ((ds.drop ((k:Int).toNat+1)).sum:Nat));refine aa (ZB _) ?_;refine uU (l:=ds.drop (k+1)) ((M' (x:=aq ds) (k:=k+1) (ag rfl) (iF (y:=1) (ag rfl) aR) (by refine aa (Y0 _) ?_;lia)).trans ?_) ?_
    ·unfold aq;refine aa List.map_drop ?_;rfl
    ·have h1:=wz 1000 (ds.drop (k+1)) (λx hx=>ZM (M.dl x (jeO hx)));have h2:(ds.drop (k+1)).length<=6:=by refine aa jbE ?_;lia
     have h3:(ds.drop (k+1)).length*1000<=6*1000:=jeW _ h2;exact Zz h1 (Zz h3 (by decide))
   ·unfold aq iq;refine aa ZJ ?_;refine aa ZJ ?_;refine aa ZJ ?_;rfl
 refine aT (v:=.int (i6 ac:Nat)) (Lx g f rfl (λY=>rfl) (λY=>rfl)) ?_;refine dX (v:=.bool true) (Dg ?_ ?_) rfl
 ·refine tC (N:=N+4) (is:=ds.map Z5) (jfw rfl) ?_ ?_ (by refine aa (Y0 _) ?_;lia)
  ·have h1:=uZ (n:=N+4) (a:=W) (m:=w) qm (by lia) (by lia);rw[bk]at h1;exact cL (vs:=[.int W,.int w]) (dL (ag rfl) (ag rfl)) rfl h1
  ·refine(ag (v:=.lst (aq ds)) rfl).trans ?_;refine aa (qG _) ?_;rfl
 ·generalize Yl:i6 ac=de at *;generalize hm:((2^w:Nat):Int)-2=m at *;have vF:(de:Int)<m:=by lia
  have oy:(2:Int)-((2^w:Nat):Int)=-m:=by lia
  have e1:(W:Int)=-((m-de)+m*(-q2-1)):=by
   refine aa Fx ?_;rewrite [jfZ];refine aa (jfc _ _) ?_;refine aa (jhN _) ?_
   lia
  have hd:=DT (m:=m) (q:=-q2-1) (r:=m-de) (by lia) (by lia);rw[<-e1]at hd;have hz:((de:Int)-W).fdiv m=-q2:=by
   have e:(de:Int)-W=0+m*(-q2):=by refine aa Fx ?_;refine aa (jfc _ _) ?_;lia
   refine aa e ?_;exact(sq (by lia) (by lia)).1
  have zw:m.natAbs<2^64:=by lia
  have a1:=yG (N:=N) (a:=0) (b:=-m) (by decide) (by lia) (by refine aa (jdV _) ?_;exact zw);have a2:=yG (N:=N) (a:=(W:Int)) (b:=-m) (by refine aa (ZR _) ?_;exact qm) (by lia) (by refine aa (jdV _) ?_;exact zw);rw[Int.zero_fdiv,Int.zero_fmod]at a1;rw[hd.1,hd.2]at a2;have Ix:∀{ρ:aB},ρ[16]?=some (some (.int ((2^w:Nat):Int)))->ev (Fi (N+5)) [] ρ (.bin .Sub (.c (.int 2)) (.var 16))=some (.int (-m)):=λlU=>by
   refine rwj oy ?_;exact jF bK (mX lU)
  have Xx:∀{ρ:aB},ρ[16]?=some (some (.int ((2^w:Nat):Int)))->ev (Fi (N+5)) [] ρ (.bin .Sub (.var 16) (.c (.int 2)))=some (.int m):=λlU=>by
   refine rwj hm ?_;exact jF (mX lU) bK
  refine tC (N:=N+4) (is:=[0,0,-q2-1,-(m-de)]) (jcu rfl) ?_ ?_ (by simp)
  ·exact ya (x:=[.int 0,.int 0]) (y:=[.int (-q2-1),.int (-(m-de))]) (cL (vs:=[.int 0,.int (-m)]) (dL bK (Ix rfl)) rfl a1) (cL (vs:=[.int W,.int (-m)]) (dL (ag rfl) (Ix rfl)) rfl a2) (show 4<=100000 by decide)
  ·have t1:∀{ρ:aB},ρ[23]?=some (some (.int (de:Nat)))->ρ[17]?=some (some (.int (W:Nat)))->ρ[16]?=some (some (.int ((2^w:Nat):Int)))->ev (Fi (N+5)) [] ρ (.bin .Sub (.bin .FloorDiv (.bin .Sub (.var 23) (.var 17)) (.bin .Sub (.var 16) (.c (.int 2)))) (.c (.int 1)))=some (.int (-q2-1)):=λyZ O1 lU=>by
    refine rwj hz ?_;exact jF (yc (jF (ag yZ) (ag O1)) (Xx lU) (by lia) zw) bK
   have t2:∀{ρ:aB},ρ[23]?=some (some (.int (de:Nat)))->ρ[16]?=some (some (.int ((2^w:Nat):Int)))->ev (Fi (N+5)) [] ρ (.bin .Sub (.bin .Add (.var 23) (.c (.int 2))) (.var 16))=some (.int (-(m-de))):=λyZ lU=>by
    refine(jF (nW (ag yZ) bK) (mX lU)).trans ?_;exact congrArg (λz=>some (AV.int z)) (by lia)
   have i0:∀{ρ:aB},ev (Fi (N+5)) [] ρ (.c (.int 0))=some (.int 0):=bK;exact sj (vs:=[.int 0,.int 0,.int (-q2-1),.int (-(m-de))]) (Nf i0 i0 (t1 rfl rfl rfl) (t2 rfl rfl)) (show 4<=100000 by decide)
end
theorem Sl (dM:List Int)(aO:dM.length<=100000):aE (Fi (N+5)) (some (.lst (bC dM))::Zh 23 none) [] mR.body=some (.ret (.bool true)):=by
 refine bB (Se (N:=N+3) dM aO _ rfl) λac dO g hA=>?_;refine hA _ ?_;generalize vt:qp (dM.take 60)=hs;have h8:hs.length=8:=by refine rwj vt ?_;exact EW _
 have f:=OU g;have Yt:=ZL (hs.getD 7 0/60) (show 0<23 by decide);have M:=Sk f g (w:=10+hs.getD 7 0/60%23) (ZD 10 (hs.getD 7 0/60%23)) (by lia);refine aX (Sf (N:=N+3) (ac:=ac) (hs:=hs) (s:=.lst (bC dM)) (bJ:=.lst (bC (dM.take 60))) (dO:=dO) (row:=.lst (aq (dA hs))) (ja:=.flt (qB (hs.getD 6 0%5))) (w:=10+hs.getD 7 0/60%23) g f h8 rfl M) λj1 hB=>?_;refine hB _ ?_;have qo:(dT (tab ac (2^ac.length-1)) ac.length).length=ac.length:=by
  have:=g.pos;unfold dT;refine aa Zo ?_;refine aa (Y0 _) ?_;refine aa jbG ?_;simp[*]
 generalize hw:10+hs.getD 7 0/60%23=w at *;obtain⟨av,an,h1,ux,nJ,nK,rfl,rfl⟩:=sx (f:=λρ σ v=>aE (Fi (N+5)) (ρ.set 19 (some v)) σ Eu) (g:=λ(i:Nat)=>AV.int i)
  (I:=λY ρ σ=>∃ux nJ nK,ρ=qM (.lst (bC dM)) (.lst (bC (dM.take 60))) hs dO (.lst (aq (dA hs))) ac (.flt (qB (hs.getD 6 0%5))) j1 ((tab ac (2^ac.length-1)).map (·.2)) (0::dT (tab ac (2^ac.length-1)) ac.length) w (VN (2^w) (0::dT (tab ac (2^ac.length-1)) ac.length):Nat) (jp ac.length (VN (2^w) (0::dT (tab ac (2^ac.length-1)) ac.length):Nat)) ux nJ nK none none/\σ=[]) (ZT 1 3) [] (qM (.lst (bC dM)) (.lst (bC (dM.take 60))) hs dO (.lst (aq (dA hs))) ac (.flt (qB (hs.getD 6 0%5))) j1 ((tab ac (2^ac.length-1)).map (·.2)) (0::dT (tab ac (2^ac.length-1)) ac.length) w (VN (2^w) (0::dT (tab ac (2^ac.length-1)) ac.length):Nat) (jp ac.length (VN (2^w) (0::dT (tab ac (2^ac.length-1)) ac.length):Nat)) none none none none none) []
  ⟨none,none,none,rfl,rfl⟩ (by
   rintro p x q ρ σ e ⟨ux,nJ,nK,rfl,rfl⟩;have hx:x∈ZT 1 3:=by
    have e:ZT 1 3=p++x::q:=e;refine aa e ?_;simp
   have hx:=jaS.mp hx;refine dW (QV (N:=N) (ac:=ac) (hs:=hs) (s:=.lst (bC dM)) (bJ:=.lst (bC (dM.take 60))) (dO:=dO) (row:=.lst (aq (dA hs))) (ja:=.flt (qB (hs.getD 6 0%5))) (j1:=j1) (ng:=(tab ac (2^ac.length-1)).map (·.2)) (h:=x) (nJ:=nJ) (nK:=nK) g h8 (by lia) (by lia) M (by lia)) λxi xj ht=>?_;exact⟨_,_,ht,_,xi,xj,rfl,rfl⟩)
 refine kY (vs:=aq (ZT 1 3)) (nV (x5 (a:=1) (n:=4) aR aR (bw jbK rfl) (bw jbK rfl))) h1 ?_;exact Sg g f (by lia) (by lia) (by refine aa (Y0 _) ?_;rfl) (by refine aa Zo ?_;refine aa qo ?_;rfl) M
theorem UI:wX:=λdM aO=>by
 have:=fB (N:=7) (as:=[.lst (dM.map .int)]) (v:=.bool true) Op rfl (Sl (N:=2) dM (bw aO rfl));exact this
end
section
open PySem PySem.W PyProof.Rows
set_option backward.match.sparseCases true
abbrev lw:=jan
abbrev lr:=lw.row
theorem JF:(["vars","dir","locals"]:List Str).filter (readsOut lw.prog lw.prog.main.body)=[]:=by decide +kernel
theorem SD:sreFenced lw.prog.main=true:=by decide +kernel
theorem SE:((moduleNames lw.prog.main.body).isEmpty||lookedIntoSs (moduleNames lw.prog.main.body) lw.prog.main.body)=true:=by decide +kernel
theorem SF:namesResolve lw.prog=true:=by decide +kernel
theorem SG:lw.prog.boundNames.all (λn=>!worldNames.contains n)=true:=by decide +kernel
theorem SH:noRoadLSs { strict:=!(importedModules lw.prog.main.body).all cThrough.contains,foot:=none,bare:=(["vars","dir","locals"]:List Str).filter (readsOut lw.prog lw.prog.main.body) } lw.prog.main.body=true:=by
 rw[JF];decide +kernel
theorem SI:namesMeet lw.prog lw.prog.main.body (λY n=>attrL n)=true:=by decide +kernel
theorem dR {a b:Bool}(x:a=true)(y:b=true):(a&&b)=true:=by rw[x,y];rfl
theorem SK:looksOpen lr.prog=true:=dR (dR (dR (dR (dR SD SE) SF) SG) SH) SI
theorem Us:lr.partSaid=true:=by
 unfold OpenRow.partSaid;rw[show looksOpen lr.prog=true from SK];decide +kernel
theorem U8:lr.wellSaid=true:=dR (dR Us (by decide +kernel)) (by decide +kernel)
theorem Gq:lw.wellSaid=true:=by
 unfold OpenLaw.wellSaid;refine dR (dR (dR (dR (dR (dR (dR (dR (dR (dR (dR (dR (dR (dR (dR (dR (dR (dR U8 ?_) ?_) ?_) ?_) ?_) ?_) ?_) ?_) ?_) ?_) ?_) ?_) ?_) ?_) ?_) ?_) ?_) ?_<;>decide +kernel
set_option maxHeartbeats 8000000 in
theorem cw:jan.Holds :=
 ⟨Gq,U5 UI (row_said Gq) ⟨[.list []],by decide +kernel,by decide +kernel⟩ ⟨rfl,rfl,rfl,rfl,rfl,by decide +kernel⟩ (by decide +kernel)⟩
end
end Mine.Tactic
theorem PySem.Challenge.cw_ta0127_01_holds : PySem.Challenge.rw_ta0127_01.Holds := by
 exact Mine.Tactic.cw
