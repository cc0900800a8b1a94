import PyProof.Rows.All
import Wide.All
import OpenK.AllK
import Wide.FinOn
import PySem.Challenge.RW_ta0127_01
set_option maxRecDepth 100000
set_option Elab.async false
set_option linter.all false
set_option bootstrap.genMatcherCode false
set_option genSizeOf false
set_option genCtorIdx false
set_option autoImplicit true
set_option backward.match.sparseCases false
set_option genInjectivity false
set_option tactic.hygienic false
open Array renaming length_toList->jhq
open Bool renaming and_eq_true->Zs,casesOn->ZC,false_ne_true->ZY,eq_iff_iff->jaH,or_eq_true->jbl,not_eq_true'->jbF,and_eq_true_iff->jbG,true_and->jcw,false_eq_true->jcE,or_eq_false_iff->jeJ,and_true->jfc,eq_false_iff->jfr,false_and->jgn,and_false->jgo,false_or->jiZ
open Eq renaming symm->jfb,trans->jgM
open Exists renaming elim->jdc
open ForInStep renaming yield->jbO
open Int renaming natCast_nonneg->Zf,toNat_natCast->Zx,natAbs_natCast->ZN,ofNat->Z0,fdiv_eq_ediv_of_nonneg->jak,natCast_mul->jaV,eq_ofNat_of_zero_le->jbk,natCast_add->jbn,natCast_pow->jbE,toNat_of_nonneg->jbL,ofNat_le->jbU,fmod_eq_emod_of_nonneg->jcl,ofNat_lt->jcq,natCast_ediv->jcr,natAbs_neg->jdO,mul_fdiv_add_fmod->jeD,sub_nonneg_of_le->jeS,mul_neg->jeT,natCast_emod->jfI,mul_sub->jfQ,neg_one_mul->jgf,ofNat_sub->jgT,le_trans->jhg,ediv_eq_zero_of_lt->jhh,add_mul_ediv_left->jho,sub_mul->jhz,one_mul->jhA,neg_neg->jhB,neg_mul->jhC,negSucc->jhD,mul_one->jhE,le_refl->jhF,neg_fdiv_neg->jiJ,max_eq_left->jiR,negSucc_eq->jiY
open Int.ofNat renaming inj->jeB
open List renaming length_map->YX,casesOn->YZ,all_eq_true->Y3,range->Y4,getD_eq_getElem?_getD->Y5,length_append->Y8,getElem?_eq_getElem->Y',mem_cons_self->Zc,getElem?_append_right->Zd,replicate->Ze,prefix_refl->Zg,size_toArray->Zh,mem_map->Zk,length_cons->Zl,mem_singleton->Zn,getElem?_append_left->Zq,mem_cons_of_mem->Zt,getElem?_eq_some_iff->Zw,map_cons->Zy,mem_append->Zz,mem_of_getElem?->ZB,map_map->ZF,mem_range->ZH,getElem?_map->ZK,mem_cons->ZM,map_append->ZO,range'->ZP,lookup_cons->ZU,append_nil->ZZ,length_eq_zero_iff->Z3,length_range->jab,sum_cons->jah,flatMap_cons->jam,length_replicate->jat,append_assoc->jav,range_succ->jaF,nodup_cons->jaG,length->jaK,nodup_nil->jaM,mem_range'_1->jaN,flatMap_append->jaR,nil_append->jaS,length_singleton->jba,zip_cons_cons->jbc,nodup_append->jbg,getElem?_set->jbh,length_zip->jbi,length_nil->jbj,length_take->jbu,length_drop->jbv,getElem_mem->jbw,length_range'->jbx,sizeOf_lt_of_mem->jbz,length_set->jbC,reverse_cons->jbD,getElem_map->jbK,map_id->jbQ,set_append->jbV,rec->jbW,filter_map->jbX,all_cons->jca,getElem?_eq_none->jcb,set->jcj,filter_cons->jco,drop_eq_getElem_cons->jcp,foldl_cons->jcA,prefix_append->jcD,getElem?_replicate->jcH,forIn_nil->jcM,flatMap_singleton->jcN,drop_eq_nil_of_le->jcO,length_filter_le->jcW,range'_succ->jcY,mem_flatMap->jcZ,isEmpty_iff->jda,cons_append->jdb,range_eq_range'->jdl,mem_iff_getElem->jdm,mem_filter->jdp,forIn_cons->jdq,map_congr_left->jdu,getElem?_range->jdv,mem_filterMap->jdD,getElem_range->jdE,filter_append->jdF,getElem?_zip_eq_some->jdQ,lookup->jdU,not_mem_nil->jeg,getElem?_cons_succ->jeh,ext_getElem->jei,countP_cons->jej,any_eq_true->jek,getElem?_reverse->jez,contains_iff_mem->jeA,mem_of_mem_take->jeF,mem_of_mem_drop->jeG,length_pos_iff->jeV,any_cons->jeZ,zip_nil_right->jfd,map->jfp,take_length->jfC,mem_reverse->jfD,map_reverse->jfE,getElem_zip->jfF,take_left'->jfO,countP_map->jfP,mapM_cons->jgl,getElem?_eq_none_iff->jgA,findIdx?_eq_none_iff->jgB,map_take->jgL,lookup_eq_none_iff->jgR,take_of_length_le->jgU,range_succ_eq_map->jgV,flatMap->jgW,take_append_drop->jhf,length_take_le'->jhk,getElem_toArray->jhl,getElem?_set_ne->jhm,forall_mem_cons->jhn,toList_toArray->jhw,reverse_append->jhx,getElem_of_mem->jhy,getElem_drop->jhZ,getElem?_nil->jia,getElem?_inj->jib,foldl_append->jic,flatten_cons->jid,nodup_range->jil,map_fst_zip->jim,isEmpty_nil->jin,drop_length->jio,any_toArray->jip,sum_append->jiH,foldr_cons->jiI,zip->jiP,drop_drop->jiQ,take_nil->jiW,drop_nil->jiX
open Nat renaming lt_of_lt_of_le->be,le_trans->YY,le_refl->Y2,pow_le_pow_right->Zi,lt_irrefl->Zo,le_add_right->ZD,lt_of_le_of_lt->ZE,le_of_eq->ZG,le_of_lt->ZI,mod_lt->ZQ,not_lt->ZT,le_succ->ZV,lt_succ_self->jaf,lt_trans->jai,casesOn->jas,sub_self->jaw,two_pow_pos->jay,ne_of_lt->jaz,mul_comm->jaI,ne_of_gt->jaP,beq->jaQ,zero_le->jaU,le_of_ble_eq_true->jbb,mul_le_mul->jbe,testBit_two_pow->jbo,le_of_lt_succ->jbH,add_comm->jbI,add_sub_cancel_left->jbN,lt_or_ge->jbT,succ->jbY,div_add_mod->jbZ,eq_of_beq_eq_true->jch,add_sub_cancel'->jct,le_add_left->jcC,pow_pos->jcI,pow_succ->jcR,lt_succ_of_lt->jcS,lt_of_succ_lt_succ->jcT,lor->jcU,div_lt_iff_lt_mul->jcX,zero_testBit->jdk,add_mul->jdn,pow_le_pow_left->jdz,mul_succ->jdC,land->jdL,add_sub_cancel->jdM,add_right_comm->jdN,add_mul_mod_self_left->jdT,pow_add->jdW,one_mul->jdX,div_eq_of_lt->jem,zero_add->jer,sub_add_sub_cancel->jes,lt_asymm->jet,testBit_and->jew,not_lt_zero->jex,min_eq_left->jey,mul_le_mul_right->jeO,log2_lt->jeP,eq_of_testBit_eq->jeQ,add_mul_div_left->jeR,mul_le_mul_left->jeY,lt_succ_of_le->jfv,le_succ_of_le->jfw,mod_eq_of_lt->jfH,mul_add->jfN,div_le_self->jgd,ble->jgk,testBit_or->jgz,succ_pos->jhc,sub_zero->jhd,min_self->jhe,not_succ_le_self->jhv,add_le_add_left->jhL,pos_of_ne_zero->jhX,eq_zero_or_pos->jhY,succ_le_succ->jiE,le_of_not_lt->jiF,le_of_not_le->jiG,add_le_add->jiV
open Nat.le renaming refl->jbB,step->jcz
open Nat.succ renaming inj->jcB
open Ne renaming symm->jev
open Option renaming casesOn->ae,map_eq_some_iff->Zp,map->Z6,isNone_iff_eq_none->jck,isSome_iff_exists->jcs,getD_some->jfo,isSome->jgj,bind_eq_some_iff->jgy,map_some->jhW
open Option.some renaming inj->Y0,injEq->jdo,sizeOf_spec->jdB
open Or renaming inl->jcn,inr->jfn
open Ordering renaming eq->jgK
open PUnit renaming unit->jgc
open Prod renaming fst->jhj
open Prod.mk renaming inj->jiO
open PyProof renaming noPylong_of_log2->jgb
open PyProof.Rows renaming Call_->jaC,callWith_type1->jbd,evalArgs_none->jbR,args_cons->jcy,subscriptTail->jcJ,args_nil->jdg,callWith_builtin1->jeE,isTrue_plain->jfe,callWith_def->jff,Assign_Tuple->jfg,Subscript_->jfu,IsTup->jge,IntsAre->jie
open PyProof.Rows.AllBare renaming of_eq->jir
open PySem renaming Shared->Y1,wpAny_bind->Y6,wpAny->Y7,model->Y9,Addr->Zb,mainGlobals->Zm,wpAny_pure->Zu,wpAny_execs_cons->Zv,execs->ZJ,Around->ZS,exec->ZX,eval->Z7,sysModules->Z',builtinsNs->jaa,Comprehension->jae,Heap->jag,intKind->jal,wpAny_mono->jan,starEach->jao,FuncData->jau,Scope->jax,wpAny_truthy_bool->jaE,wpAny_holding->jaJ,wpAny_standAt->jaT,callEnvC->jaW,wpAny_execs_nil->jaX,NameKind->jaY,partValue->jaZ,Arguments->jbf,isTrue->jbm,wpAny_Return_some->jbp,wpAny_Call_method_lateS->jbq,wpAny_Assign_Name->jbr,cellsFrom->jbA,bindArgs->jbJ,spliced->jce,mainEnv->jcf,backTo->jcg,foldedSetIterable->jcm,wpAny_eval_const->jcx,sizeLine->jcK,wpAny_BinOp->jcL,typeIs_str->jcP,closureFor->jcQ,wpAny_List->jcV,valueAt->jdd,recursionLimit->jde,constantsAlone->jdf,Program->jdj,storeName->jdr,call_meets->jds,assignEach->jdt,foldedForSure->jdx,pyIter->jdH,leftWithCleanup->jdI,Params->jdK,inplaceOp->jdV,rawInt->jdY,qualnameIn->jdZ,intKind_is->jea,cStatics->jeb,binaryOp->jec,wpAny_assign_Name->jen,behindInMarks->jeo,Flow->jeu,wpAny_If->jeC,wpAny_rule->jeK,codeAny->jeL,NoneBooked->jeN,swapsWith->jfh,standAt->jfi,seqIndex?->jfj,pushCells->jfk,holding->jfl,argBest->jfm,wpAny_loadName_free->jfs,wpAny_loadName_cell->jft,swappedStores->jfy,comprehension->jfz,wpAny_isTrue_Compare1->jfL,wpAny_newObj_type->jfR,wpAny_dictEntries->jfS,staticOf->jfT,startupNames->jfU,firstIterPos->jfV,concat_meets->jfW,call_meetsIn->jfX,noFill_tuple_add->jgp,compareOp->jgq,cellOf->jgr,numAt->jgD,dictDisplay->jgE,codeAny_of_tree->jgO,evalPart->jgX,cLine->jgY,assign->jgZ,annTrees->jha,wpAny_Compare1->jhb,wpAny_sharingNotTold_none->jhi,seq_tuple_add->jhr,assignInOrder->jhs,wpAny_list_append_plain->jhG,slicePick->jhH,firstIter->jhI,wpAny_Tuple->jhJ,wpAny_Assign_Subscript->jhN,mergeMapping->jhO,meets_dict_get_default->jhP,getItem->jhQ,callerA->jhS,bootBuiltins->jhT,wpAny_Expr->jhV,wpAny_storeName_local->jih,codeAny_call_function->jij,wpAny_storeName_cell->jis,wpAny_of_eq->jit,wpAny_nsGet->jiu,wpAny_loadName_local->jiv,wpAny_alloc->jiw,wpAny_AugAssign_Name->jix,subscripted->jiy,sizeLine_eq->jiz,interactive->jiA,compTurn->jiB,any_of_findIdx_some->jiL,wpAny_pyIter_tuple->jiT
open PySem.AutoIntOps renaming ifloordiv_1->jiN
open PySem.Builtin renaming bitXor->jfK,bitNot->jif,bitAnd->jig
open PySem.Builtin.Int renaming intBits->Zj
open PySem.Builtin.List renaming listTooLong->jfq
open PySem.Builtin.Range renaming rangeSize->jaD,small->jef
open PySem.Builtin.Str renaming occurrences->jaq,spaceWords->jcu,tooLong->jgm,glued->jgN
open PySem.Calls renaming callWith_builtin->jaB,evalArgs_plain->jdi,loadGlobal_builtin->jeM,loadGlobal_global->jeU,Name_module->jfB
open PySem.Challenge renaming rw_ta0127_01->jaj,pw_ta0127_01->jcF
open PySem.Claim2Try renaming globalOf_of_ns->jep
open PySem.Comprehension.mk renaming sizeOf_spec->jiS
open PySem.Data renaming seq->jhp
open PySem.Expr renaming casesOn->ZR
open PySem.Expr.Attribute renaming sizeOf_spec->jeX
open PySem.Expr.BoolOp renaming sizeOf_spec->jfG
open PySem.Expr.Call renaming sizeOf_spec->jap
open PySem.Expr.Subscript renaming sizeOf_spec->jeW
open PySem.F renaming plainAttrs_str->jbM,slot_dict_get->jbS,plainAttrs_list->jcv,args_tuple_add_2->jdJ,plainAttrs_dict->jdR,entry_tuple_add->jdS,slot_tuple_add->jed,entry_dict_get->jee,slot_list_reverse->jfM,slot_dict_values->jga,slot_list_index->jgg,slot_list_count->jgh,args_dict_get_3->jgi,slot_str_split->jgu,slot_str_lower->jgv,slot_str_index->jgw,slot_list_iadd->jgx,type_dict_get->jgH,slot_str_join->jgI,slot_str_find->jgJ
open PySem.Float64 renaming sub->ZA,isZero->Z2,add->Z4,ofFrac->Z5,div->Z8,cmp->Z9,mul->jaA,ofInt->jaL,cmpInt->jbt,decode->jci,divmod->jdw,isInf->jdP,truncOf->jel,isNaN->jeH,align->jeI
open PySem.Flt renaming quot_fits->jgG
open PySem.Heap renaming get?_push_of_some->Za,lt_size->Zr,size_push->ZL,get?_push_size->ZW,SameBut->Z1,get?_update_self->jcc,size_update->jiq,nsMap_none->jiK
open PySem.Heap.DictOf renaming new->jfa
open PySem.Heap.IsSliceOf renaming new->jja
open PySem.Heap.Ns renaming of_isNs->jfx
open PySem.Heap.SameBut renaming update->jcd,refl->jgC
open PySem.IsRange renaming new->jgS
open PySem.NameKind renaming free->jac,cell->jbP
open PySem.Obj renaming mapSeq->jcG,data_mapDictKeys->jhu,isFreed_of_dict->jhK,data_mapDict->jiD
open PySem.Operator renaming casesOn->jdy,Add->jik
open PySem.Shared renaming asleep_of_life->jgQ
open PySem.Stmt renaming casesOn->jgF
open PySem.Str renaming ofString->jaO,length->jby,ext'->jht,cps_append->jiU
open PySem.StrLaws renaming sliceText->jar,sliceText_from->jgt,sliceText_to->jgP
open PySem.Txt renaming lower->jiC
open PySem.UnaryOp renaming casesOn->jfA
open PySem.Value renaming ref->jbs,float->jdh,type->jfZ,casesOn->jgs,builtin->jiM
open PySem.Value.ref renaming inj->jdA
open PySem.W renaming boot_heap->jad,tabObj->jdG,CodeHd->jfJ,cellsFrom_some->jfY,fnMade->jhR
open PySem.W.CodeHd renaming of->jhM
open PySem.W.OpenLaw renaming row->jeq
open PySem.W.WShape renaming hasItems->jhU
open PySem.isSame renaming created->jii
namespace Mine.Tactic
open Lean in
local macro_rules (kind:=Lean.Parser.Command.declaration)|s=>if s.getPos?.isNone then Macro.throwUnsupported else
 let t:=s.rewriteBottomUp (·.setInfo .none)
 return if t[1].getKind==``Lean.Parser.Command.definition||t[1].getKind==``Lean.Parser.Command.abbrev then t.setArg 0 (t[0].setArg 4 (mkNullNode #[mkNode ``Lean.Parser.Command.noncomputable #[mkAtom "noncomputable"]])) else t
section
open PySem PySem.W
abbrev af:jdj:=jcF
def wo:(Q:World->Prop) ×' ∃a b c d,(jeq jaj).Holds=(a/\b/\c/\d/\∀w,Q w):=⟨_,_,_,_,_,rfl⟩
theorem TD:Nonempty World:=⟨{ draws:=λY Y=>0,params:={ strHash:=λY=>0,shareClass:=λY=>0,mergeTok:=id,idOf:=λY=>0,idOfShared:=λY Y=>0,followText:=λY=>false,idOfImm:=λY=>0 } }⟩
def wd:World:=@Classical.epsilon _ TD λw=>¬wo.1 w
theorem Je (h:wo.1 wd)(w:World):wo.1 w:=Classical.byContradiction λn=>(Classical.epsilon_spec (⟨w,n⟩:∃w,¬wo.1 w)) h
theorem bw {a m n:Nat}(h:a<=m)(k:jgk m n=true):a<=n:=YY h (jbb k)
theorem Bz {a m n:Nat}(h:a<=m)(k:Nat.blt m n=true):a<n:=ZE h (jbb k)
theorem IL {a m n:Nat}(h:a<m)(k:jgk m n=true):a<=n:=YY (ZI h) (jbb k)
theorem YT {a m n:Nat}(h:a<m)(k:jgk m n=true):a<n:=be h (jbb k)
theorem wK {a m n:Nat}(h:a=m)(k:m<=n):a<=n:=h▸k
theorem ID {a m n:Nat}(h:a=m)(k:m<n):a<n:=h▸k
theorem YP {a m n:Nat}(k:a<=m)(h:m=n):a<=n:=h▸k
theorem YR {a m n:Nat}(k:a<m)(h:m=n):a<n:=h▸k
theorem YS {a m n:Nat}(k:a<m)(h:n=m):a<n:=h▸k
theorem YQ {a m n:Nat}(k:a<=m)(h:n=m):a<=n:=h▸k
theorem XU {a:Nat}(h:0<a):¬a=0:=jaP h
theorem oY {a b:Nat}(h:a<=b):(a:Int)<=b:=jbU.mpr h
theorem IC {a b:Nat}(h:¬a=b):¬(a:Int)=b:=λe=>h (jeB e)
theorem ub {a:Nat}(h:0<a):¬(a:Int)=0:=λe=>jaP h (jeB e)
theorem wN {k n:Nat}(h:k<n):n-k=n-(k+1)+1:=by lia
theorem BA {n:Nat}(h:0<n):n-1+1=n:=Nat.sub_add_cancel h
theorem BB {k n m:Nat}(h:n-k=m+1):k<n:=by lia
theorem XW {k n m:Nat}(h:n-k=m+1):n-(k+1)=m:=by lia
theorem XR {i:Nat}(h:i<4):i=0\/i=1\/i=2\/i=3:=by lia
theorem XS {i:Nat}(h:i<5):i=0\/i=1\/i=2\/i=3\/i=4:=by lia
theorem q6 {a m:Nat}{b:Int}(h:a<=m)(e:decide ((m:Int)<b)=true):(a:Int)<b:=Int.lt_of_le_of_lt (jbU.mpr h) (of_decide_eq_true e)
theorem YO {a b m n k:Nat}(h:a<=m)(h2:b<=n)(e:jgk (m+n) k=true):a+b<=k:=YY (jiV h h2) (jbb e)
theorem Bx {a b k:Nat}(h:a+b<=k):a<=k:=YY (ZD _ _) h
theorem wJ {a b k:Nat}(h:a+b<=k):b<=k:=YY (jcC _ _) h
theorem qZ {a b k:Nat}(h:a+b<k):a<k:=ZE (ZD _ _) h
theorem YU {a b c k:Nat}(h:a<=c*k)(h2:b<=c):a+b<=c*(k+1):=jiV h h2
theorem IK {i:Nat}(h:i<3):i=0\/i=1\/i=2:=by lia
theorem XO {a n c:Nat}(h:a+(n+1)<c):a+1+n<c:=by rwa [Nat.add_assoc,jbI 1]
theorem ua {a n c:Nat}(h:a+(n+1)<=c):a+1+n<=c:=by rwa [Nat.add_assoc,jbI 1]
theorem XV {a b c:Nat}(h:a+(b+1)=c):a<c:=h▸Nat.lt_add_of_pos_right (jhc b)
theorem IF {a b:Nat}:(a:Int)=b↔a=b:=Int.ofNat_inj
theorem wL {a b:Nat}(h:¬a<b):b<=a:=jiF h
theorem zip {a:Nat}(h:0<a):(0:Int)<a:=jcq.mpr h
theorem cz {p1 p2 p3:Prop}(h1:p1)(h2:p2)(h3:p3):p1/\p2/\p3:=⟨h1,h2,h3⟩
theorem lg {p1 p2 p3 p4:Prop}(h1:p1)(h2:p2)(h3:p3)(h4:p4):p1/\p2/\p3/\p4:=⟨h1,h2,h3,h4⟩
theorem FY {p1 p2 p3 p4 p5:Prop}(h1:p1)(h2:p2)(h3:p3)(h4:p4)(h5:p5):p1/\p2/\p3/\p4/\p5:=⟨h1,h2,h3,h4,h5⟩
theorem aN {A:Sort _}{p1 p2:A->Prop}(a:A)(h1:p1 a)(h2:p2 a):∃a,p1 a/\p2 a:=⟨a,h1,h2⟩
theorem lh {A:Sort _}{p1 p2 p3:A->Prop}(a:A)(h1:p1 a)(h2:p2 a)(h3:p3 a):∃a,p1 a/\p2 a/\p3 a:=⟨a,h1,h2,h3⟩
theorem vS {A:Sort _}{p1 p2 p3 p4:A->Prop}(a:A)(h1:p1 a)(h2:p2 a)(h3:p3 a)(h4:p4 a):∃a,p1 a/\p2 a/\p3 a/\p4 a:=⟨a,h1,h2,h3,h4⟩
theorem Rq {A:Sort _}{p1 p2 p3 p4 p5:A->Prop}(a:A)(h1:p1 a)(h2:p2 a)(h3:p3 a)(h4:p4 a)(h5:p5 a):∃a,p1 a/\p2 a/\p3 a/\p4 a/\p5 a:=⟨a,h1,h2,h3,h4,h5⟩
theorem Rr {A:Sort _}{p1 p2 p3 p4 p5 p6 p7 p8:A->Prop}(a:A)(h1:p1 a)(h2:p2 a)(h3:p3 a)(h4:p4 a)(h5:p5 a)(h6:p6 a)(h7:p7 a)(h8:p8 a):∃a,p1 a/\p2 a/\p3 a/\p4 a/\p5 a/\p6 a/\p7 a/\p8 a:=⟨a,h1,h2,h3,h4,h5,h6,h7,h8⟩
theorem jO {A:Sort _}{B:Sort _}{p1:A->B->Prop}(a:A)(b:B)(h1:p1 a b):∃a b,p1 a b:=⟨a,b,h1⟩
theorem cZ {A:Sort _}{B:Sort _}{p1 p2:A->B->Prop}(a:A)(b:B)(h1:p1 a b)(h2:p2 a b):∃a b,p1 a b/\p2 a b:=⟨a,b,h1,h2⟩
theorem na {A:Sort _}{B:Sort _}{p1 p2 p3:A->B->Prop}(a:A)(b:B)(h1:p1 a b)(h2:p2 a b)(h3:p3 a b):∃a b,p1 a b/\p2 a b/\p3 a b:=⟨a,b,h1,h2,h3⟩
theorem vT {A:Sort _}{B:Sort _}{p1 p2 p3 p4:A->B->Prop}(a:A)(b:B)(h1:p1 a b)(h2:p2 a b)(h3:p3 a b)(h4:p4 a b):∃a b,p1 a b/\p2 a b/\p3 a b/\p4 a b:=⟨a,b,h1,h2,h3,h4⟩
theorem Rs {A:Sort _}{B:Sort _}{p1 p2 p3 p4 p5:A->B->Prop}(a:A)(b:B)(h1:p1 a b)(h2:p2 a b)(h3:p3 a b)(h4:p4 a b)(h5:p5 a b):∃a b,p1 a b/\p2 a b/\p3 a b/\p4 a b/\p5 a b:=⟨a,b,h1,h2,h3,h4,h5⟩
theorem FZ {A:Sort _}{B:Sort _}{p1 p2 p3 p4 p5 p6:A->B->Prop}(a:A)(b:B)(h1:p1 a b)(h2:p2 a b)(h3:p3 a b)(h4:p4 a b)(h5:p5 a b)(h6:p6 a b):∃a b,p1 a b/\p2 a b/\p3 a b/\p4 a b/\p5 a b/\p6 a b:=⟨a,b,h1,h2,h3,h4,h5,h6⟩
theorem Rt {A:Sort _}{B:Sort _}{p1 p2 p3 p4 p5 p6 p7:A->B->Prop}(a:A)(b:B)(h1:p1 a b)(h2:p2 a b)(h3:p3 a b)(h4:p4 a b)(h5:p5 a b)(h6:p6 a b)(h7:p7 a b):∃a b,p1 a b/\p2 a b/\p3 a b/\p4 a b/\p5 a b/\p6 a b/\p7 a b:=⟨a,b,h1,h2,h3,h4,h5,h6,h7⟩
theorem Ru {A:Sort _}{B:Sort _}{C:Sort _}{p1:A->B->C->Prop}(a:A)(b:B)(c:C)(h1:p1 a b c):∃a b c,p1 a b c:=⟨a,b,c,h1⟩
theorem zX {A:Sort _}{B:Sort _}{C:Sort _}{p1 p2 p3:A->B->C->Prop}(a:A)(b:B)(c:C)(h1:p1 a b c)(h2:p2 a b c)(h3:p3 a b c):∃a b c,p1 a b c/\p2 a b c/\p3 a b c:=⟨a,b,c,h1,h2,h3⟩
theorem vU {A:Sort _}{B:Sort _}{C:Sort _}{p1 p2 p3 p4:A->B->C->Prop}(a:A)(b:B)(c:C)(h1:p1 a b c)(h2:p2 a b c)(h3:p3 a b c)(h4:p4 a b c):∃a b c,p1 a b c/\p2 a b c/\p3 a b c/\p4 a b c:=⟨a,b,c,h1,h2,h3,h4⟩
theorem F0 {A:Sort _}{B:Sort _}{C:Sort _}{D:Sort _}{p1:A->B->C->D->Prop}(a:A)(b:B)(c:C)(d:D)(h1:p1 a b c d):∃a b c d,p1 a b c d:=⟨a,b,c,d,h1⟩
theorem vV {A:Sort _}{B:Sort _}{C:Sort _}{D:Sort _}{p1 p2:A->B->C->D->Prop}(a:A)(b:B)(c:C)(d:D)(h1:p1 a b c d)(h2:p2 a b c d):∃a b c d,p1 a b c d/\p2 a b c d:=⟨a,b,c,d,h1,h2⟩
theorem zY {A:Sort _}{B:Sort _}{C:Sort _}{D:Sort _}{p1 p2 p3:A->B->C->D->Prop}(a:A)(b:B)(c:C)(d:D)(h1:p1 a b c d)(h2:p2 a b c d)(h3:p3 a b c d):∃a b c d,p1 a b c d/\p2 a b c d/\p3 a b c d:=⟨a,b,c,d,h1,h2,h3⟩
theorem zZ {A:Sort _}{B:Sort _}{C:Sort _}{D:Sort _}{p1 p2 p3 p4 p5:A->B->C->D->Prop}(a:A)(b:B)(c:C)(d:D)(h1:p1 a b c d)(h2:p2 a b c d)(h3:p3 a b c d)(h4:p4 a b c d)(h5:p5 a b c d):∃a b c d,p1 a b c d/\p2 a b c d/\p3 a b c d/\p4 a b c d/\p5 a b c d:=⟨a,b,c,d,h1,h2,h3,h4,h5⟩
theorem z0 {A:Sort _}{B:Sort _}{C:Sort _}{D:Sort _}{E:Sort _}{p1:A->B->C->D->E->Prop}(a:A)(b:B)(c:C)(d:D)(e:E)(h1:p1 a b c d e):∃a b c d e,p1 a b c d e:=⟨a,b,c,d,e,h1⟩
theorem Rv {A:Sort _}{B:Sort _}{C:Sort _}{D:Sort _}{E:Sort _}{p1 p2:A->B->C->D->E->Prop}(a:A)(b:B)(c:C)(d:D)(e:E)(h1:p1 a b c d e)(h2:p2 a b c d e):∃a b c d e,p1 a b c d e/\p2 a b c d e:=⟨a,b,c,d,e,h1,h2⟩
theorem F1 {A:Sort _}{B:Sort _}{C:Sort _}{D:Sort _}{E:Sort _}{p1 p2 p3:A->B->C->D->E->Prop}(a:A)(b:B)(c:C)(d:D)(e:E)(h1:p1 a b c d e)(h2:p2 a b c d e)(h3:p3 a b c d e):∃a b c d e,p1 a b c d e/\p2 a b c d e/\p3 a b c d e:=⟨a,b,c,d,e,h1,h2,h3⟩
theorem Rw {A:Sort _}{B:Sort _}{C:Sort _}{D:Sort _}{E:Sort _}{F:Sort _}{p1:A->B->C->D->E->F->Prop}(a:A)(b:B)(c:C)(d:D)(e:E)(f:F)(h1:p1 a b c d e f):∃a b c d e f,p1 a b c d e f:=⟨a,b,c,d,e,f,h1⟩
theorem Rx {A:Sort _}{B:Sort _}{C:Sort _}{D:Sort _}{E:Sort _}{F:Sort _}{G:Sort _}{p1 p2 p3 p4 p5 p6 p7:A->B->C->D->E->F->G->Prop}(a:A)(b:B)(c:C)(d:D)(e:E)(f:F)(g:G)(h1:p1 a b c d e f g)(h2:p2 a b c d e f g)(h3:p3 a b c d e f g)(h4:p4 a b c d e f g)(h5:p5 a b c d e f g)(h6:p6 a b c d e f g)(h7:p7 a b c d e f g):∃a b c d e f g,p1 a b c d e f g/\p2 a b c d e f g/\p3 a b c d e f g/\p4 a b c d e f g/\p5 a b c d e f g/\p6 a b c d e f g/\p7 a b c d e f g:=⟨a,b,c,d,e,f,g,h1,h2,h3,h4,h5,h6,h7⟩
theorem bN {p1 p2:Prop}{Q:Prop}(h:p1/\p2)(f:p1->p2->Q):Q:=f h.1 h.2
theorem fY {p1 p2 p3:Prop}{Q:Prop}(h:p1/\p2/\p3)(f:p1->p2->p3->Q):Q:=f h.1 h.2.1 h.2.2
theorem pY {p1 p2 p3 p4:Prop}{Q:Prop}(h:p1/\p2/\p3/\p4)(f:p1->p2->p3->p4->Q):Q:=f h.1 h.2.1 h.2.2.1 h.2.2.2
theorem Dy {p1 p2 p3 p4 p5:Prop}{Q:Prop}(h:p1/\p2/\p3/\p4/\p5)(f:p1->p2->p3->p4->p5->Q):Q:=f h.1 h.2.1 h.2.2.1 h.2.2.2.1 h.2.2.2.2
theorem Dz {p1 p2 p3 p4 p5 p6:Prop}{Q:Prop}(h:p1/\p2/\p3/\p4/\p5/\p6)(f:p1->p2->p3->p4->p5->p6->Q):Q:=f h.1 h.2.1 h.2.2.1 h.2.2.2.1 h.2.2.2.2.1 h.2.2.2.2.2
theorem aW {bo:Sort _}{p1:bo->Prop}{Q:Prop}(h:∃a,p1 a)(f:∀a,p1 a->Q):Q:=h.elim λa h=>f a h
theorem au {bo:Sort _}{p1 p2:bo->Prop}{Q:Prop}(h:∃a,p1 a/\p2 a)(f:∀a,p1 a->p2 a->Q):Q:=h.elim λa h=>f a h.1 h.2
theorem fk {bo:Sort _}{p1 p2 p3:bo->Prop}{Q:Prop}(h:∃a,p1 a/\p2 a/\p3 a)(f:∀a,p1 a->p2 a->p3 a->Q):Q:=h.elim λa h=>f a h.1 h.2.1 h.2.2
theorem yn {bo:Sort _}{p1 p2 p3 p4:bo->Prop}{Q:Prop}(h:∃a,p1 a/\p2 a/\p3 a/\p4 a)(f:∀a,p1 a->p2 a->p3 a->p4 a->Q):Q:=h.elim λa h=>f a h.1 h.2.1 h.2.2.1 h.2.2.2
theorem Nf {bo:Sort _}{p1 p2 p3 p4 p5 p6 p7:bo->Prop}{Q:Prop}(h:∃a,p1 a/\p2 a/\p3 a/\p4 a/\p5 a/\p6 a/\p7 a)(f:∀a,p1 a->p2 a->p3 a->p4 a->p5 a->p6 a->p7 a->Q):Q:=h.elim λa h=>f a h.1 h.2.1 h.2.2.1 h.2.2.2.1 h.2.2.2.2.1 h.2.2.2.2.2.1 h.2.2.2.2.2.2
theorem Ng {bo:Sort _}{p1 p2 p3 p4 p5 p6 p7 p8:bo->Prop}{Q:Prop}(h:∃a,p1 a/\p2 a/\p3 a/\p4 a/\p5 a/\p6 a/\p7 a/\p8 a)(f:∀a,p1 a->p2 a->p3 a->p4 a->p5 a->p6 a->p7 a->p8 a->Q):Q:=h.elim λa h=>f a h.1 h.2.1 h.2.2.1 h.2.2.2.1 h.2.2.2.2.1 h.2.2.2.2.2.1 h.2.2.2.2.2.2.1 h.2.2.2.2.2.2.2
theorem fq {bo:Sort _}{bx:Sort _}{p1:bo->bx->Prop}{Q:Prop}(h:∃a b,p1 a b)(f:∀a b,p1 a b->Q):Q:=h.elim λa h=>h.elim λb h=>f a b h
theorem bB {bo:Sort _}{bx:Sort _}{p1 p2:bo->bx->Prop}{Q:Prop}(h:∃a b,p1 a b/\p2 a b)(f:∀a b,p1 a b->p2 a b->Q):Q:=h.elim λa h=>h.elim λb h=>f a b h.1 h.2
theorem bS {bo:Sort _}{bx:Sort _}{p1 p2 p3:bo->bx->Prop}{Q:Prop}(h:∃a b,p1 a b/\p2 a b/\p3 a b)(f:∀a b,p1 a b->p2 a b->p3 a b->Q):Q:=h.elim λa h=>h.elim λb h=>f a b h.1 h.2.1 h.2.2
theorem n5 {bo:Sort _}{bx:Sort _}{p1 p2 p3 p4:bo->bx->Prop}{Q:Prop}(h:∃a b,p1 a b/\p2 a b/\p3 a b/\p4 a b)(f:∀a b,p1 a b->p2 a b->p3 a b->p4 a b->Q):Q:=h.elim λa h=>h.elim λb h=>f a b h.1 h.2.1 h.2.2.1 h.2.2.2
theorem DA {bo:Sort _}{bx:Sort _}{p1 p2 p3 p4 p5:bo->bx->Prop}{Q:Prop}(h:∃a b,p1 a b/\p2 a b/\p3 a b/\p4 a b/\p5 a b)(f:∀a b,p1 a b->p2 a b->p3 a b->p4 a b->p5 a b->Q):Q:=h.elim λa h=>h.elim λb h=>f a b h.1 h.2.1 h.2.2.1 h.2.2.2.1 h.2.2.2.2
theorem pZ {bo:Sort _}{bx:Sort _}{p1 p2 p3 p4 p5 p6:bo->bx->Prop}{Q:Prop}(h:∃a b,p1 a b/\p2 a b/\p3 a b/\p4 a b/\p5 a b/\p6 a b)(f:∀a b,p1 a b->p2 a b->p3 a b->p4 a b->p5 a b->p6 a b->Q):Q:=h.elim λa h=>h.elim λb h=>f a b h.1 h.2.1 h.2.2.1 h.2.2.2.1 h.2.2.2.2.1 h.2.2.2.2.2
theorem DB {bo:Sort _}{bx:Sort _}{p1 p2 p3 p4 p5 p6 p7 p8:bo->bx->Prop}{Q:Prop}(h:∃a b,p1 a b/\p2 a b/\p3 a b/\p4 a b/\p5 a b/\p6 a b/\p7 a b/\p8 a b)(f:∀a b,p1 a b->p2 a b->p3 a b->p4 a b->p5 a b->p6 a b->p7 a b->p8 a b->Q):Q:=h.elim λa h=>h.elim λb h=>f a b h.1 h.2.1 h.2.2.1 h.2.2.2.1 h.2.2.2.2.1 h.2.2.2.2.2.1 h.2.2.2.2.2.2.1 h.2.2.2.2.2.2.2
theorem yo {bo:Sort _}{bx:Sort _}{cc:Sort _}{p1:bo->bx->cc->Prop}{Q:Prop}(h:∃a b c,p1 a b c)(f:∀a b c,p1 a b c->Q):Q:=h.elim λa h=>h.elim λb h=>h.elim λc h=>f a b c h
theorem uV {bo:Sort _}{bx:Sort _}{cc:Sort _}{p1 p2:bo->bx->cc->Prop}{Q:Prop}(h:∃a b c,p1 a b c/\p2 a b c)(f:∀a b c,p1 a b c->p2 a b c->Q):Q:=h.elim λa h=>h.elim λb h=>h.elim λc h=>f a b c h.1 h.2
theorem j' {bo:Sort _}{bx:Sort _}{cc:Sort _}{p1 p2 p3:bo->bx->cc->Prop}{Q:Prop}(h:∃a b c,p1 a b c/\p2 a b c/\p3 a b c)(f:∀a b c,p1 a b c->p2 a b c->p3 a b c->Q):Q:=h.elim λa h=>h.elim λb h=>h.elim λc h=>f a b c h.1 h.2.1 h.2.2
theorem kW {bo:Sort _}{bx:Sort _}{cc:Sort _}{p1 p2 p3 p4:bo->bx->cc->Prop}{Q:Prop}(h:∃a b c,p1 a b c/\p2 a b c/\p3 a b c/\p4 a b c)(f:∀a b c,p1 a b c->p2 a b c->p3 a b c->p4 a b c->Q):Q:=h.elim λa h=>h.elim λb h=>h.elim λc h=>f a b c h.1 h.2.1 h.2.2.1 h.2.2.2
theorem yp {bo:Sort _}{bx:Sort _}{cc:Sort _}{p1 p2 p3 p4 p5 p6:bo->bx->cc->Prop}{Q:Prop}(h:∃a b c,p1 a b c/\p2 a b c/\p3 a b c/\p4 a b c/\p5 a b c/\p6 a b c)(f:∀a b c,p1 a b c->p2 a b c->p3 a b c->p4 a b c->p5 a b c->p6 a b c->Q):Q:=h.elim λa h=>h.elim λb h=>h.elim λc h=>f a b c h.1 h.2.1 h.2.2.1 h.2.2.2.1 h.2.2.2.2.1 h.2.2.2.2.2
theorem Nh {bo:Sort _}{bx:Sort _}{cc:Sort _}{p1 p2 p3 p4 p5 p6 p7 p8:bo->bx->cc->Prop}{Q:Prop}(h:∃a b c,p1 a b c/\p2 a b c/\p3 a b c/\p4 a b c/\p5 a b c/\p6 a b c/\p7 a b c/\p8 a b c)(f:∀a b c,p1 a b c->p2 a b c->p3 a b c->p4 a b c->p5 a b c->p6 a b c->p7 a b c->p8 a b c->Q):Q:=h.elim λa h=>h.elim λb h=>h.elim λc h=>f a b c h.1 h.2.1 h.2.2.1 h.2.2.2.1 h.2.2.2.2.1 h.2.2.2.2.2.1 h.2.2.2.2.2.2.1 h.2.2.2.2.2.2.2
theorem DC {bo:Sort _}{bx:Sort _}{cc:Sort _}{dH:Sort _}{p1:bo->bx->cc->dH->Prop}{Q:Prop}(h:∃a b c d,p1 a b c d)(f:∀a b c d,p1 a b c d->Q):Q:=h.elim λa h=>h.elim λb h=>h.elim λc h=>h.elim λd h=>f a b c d h
theorem n6 {bo:Sort _}{bx:Sort _}{cc:Sort _}{dH:Sort _}{p1 p2:bo->bx->cc->dH->Prop}{Q:Prop}(h:∃a b c d,p1 a b c d/\p2 a b c d)(f:∀a b c d,p1 a b c d->p2 a b c d->Q):Q:=h.elim λa h=>h.elim λb h=>h.elim λc h=>h.elim λd h=>f a b c d h.1 h.2
theorem ka {bo:Sort _}{bx:Sort _}{cc:Sort _}{dH:Sort _}{p1 p2 p3:bo->bx->cc->dH->Prop}{Q:Prop}(h:∃a b c d,p1 a b c d/\p2 a b c d/\p3 a b c d)(f:∀a b c d,p1 a b c d->p2 a b c d->p3 a b c d->Q):Q:=h.elim λa h=>h.elim λb h=>h.elim λc h=>h.elim λd h=>f a b c d h.1 h.2.1 h.2.2
theorem qa {bo:Sort _}{bx:Sort _}{cc:Sort _}{dH:Sort _}{p1 p2 p3 p4:bo->bx->cc->dH->Prop}{Q:Prop}(h:∃a b c d,p1 a b c d/\p2 a b c d/\p3 a b c d/\p4 a b c d)(f:∀a b c d,p1 a b c d->p2 a b c d->p3 a b c d->p4 a b c d->Q):Q:=h.elim λa h=>h.elim λb h=>h.elim λc h=>h.elim λd h=>f a b c d h.1 h.2.1 h.2.2.1 h.2.2.2
theorem sj {bo:Sort _}{bx:Sort _}{cc:Sort _}{dH:Sort _}{p1 p2 p3 p4 p5:bo->bx->cc->dH->Prop}{Q:Prop}(h:∃a b c d,p1 a b c d/\p2 a b c d/\p3 a b c d/\p4 a b c d/\p5 a b c d)(f:∀a b c d,p1 a b c d->p2 a b c d->p3 a b c d->p4 a b c d->p5 a b c d->Q):Q:=h.elim λa h=>h.elim λb h=>h.elim λc h=>h.elim λd h=>f a b c d h.1 h.2.1 h.2.2.1 h.2.2.2.1 h.2.2.2.2
theorem yq {bo:Sort _}{bx:Sort _}{cc:Sort _}{dH:Sort _}{p1 p2 p3 p4 p5 p6:bo->bx->cc->dH->Prop}{Q:Prop}(h:∃a b c d,p1 a b c d/\p2 a b c d/\p3 a b c d/\p4 a b c d/\p5 a b c d/\p6 a b c d)(f:∀a b c d,p1 a b c d->p2 a b c d->p3 a b c d->p4 a b c d->p5 a b c d->p6 a b c d->Q):Q:=h.elim λa h=>h.elim λb h=>h.elim λc h=>h.elim λd h=>f a b c d h.1 h.2.1 h.2.2.1 h.2.2.2.1 h.2.2.2.2.1 h.2.2.2.2.2
theorem n7 {bo:Sort _}{bx:Sort _}{cc:Sort _}{dH:Sort _}{p1 p2 p3 p4 p5 p6 p7:bo->bx->cc->dH->Prop}{Q:Prop}(h:∃a b c d,p1 a b c d/\p2 a b c d/\p3 a b c d/\p4 a b c d/\p5 a b c d/\p6 a b c d/\p7 a b c d)(f:∀a b c d,p1 a b c d->p2 a b c d->p3 a b c d->p4 a b c d->p5 a b c d->p6 a b c d->p7 a b c d->Q):Q:=h.elim λa h=>h.elim λb h=>h.elim λc h=>h.elim λd h=>f a b c d h.1 h.2.1 h.2.2.1 h.2.2.2.1 h.2.2.2.2.1 h.2.2.2.2.2.1 h.2.2.2.2.2.2
theorem uW {bo:Sort _}{bx:Sort _}{cc:Sort _}{dH:Sort _}{ju:Sort _}{p1:bo->bx->cc->dH->ju->Prop}{Q:Prop}(h:∃a b c d e,p1 a b c d e)(f:∀a b c d e,p1 a b c d e->Q):Q:=h.elim λa h=>h.elim λb h=>h.elim λc h=>h.elim λd h=>h.elim λe h=>f a b c d e h
theorem Ni {bo:Sort _}{bx:Sort _}{cc:Sort _}{dH:Sort _}{ju:Sort _}{p1 p2:bo->bx->cc->dH->ju->Prop}{Q:Prop}(h:∃a b c d e,p1 a b c d e/\p2 a b c d e)(f:∀a b c d e,p1 a b c d e->p2 a b c d e->Q):Q:=h.elim λa h=>h.elim λb h=>h.elim λc h=>h.elim λd h=>h.elim λe h=>f a b c d e h.1 h.2
theorem sk {bo:Sort _}{bx:Sort _}{cc:Sort _}{dH:Sort _}{ju:Sort _}{p1 p2 p3:bo->bx->cc->dH->ju->Prop}{Q:Prop}(h:∃a b c d e,p1 a b c d e/\p2 a b c d e/\p3 a b c d e)(f:∀a b c d e,p1 a b c d e->p2 a b c d e->p3 a b c d e->Q):Q:=h.elim λa h=>h.elim λb h=>h.elim λc h=>h.elim λd h=>h.elim λe h=>f a b c d e h.1 h.2.1 h.2.2
theorem DD {bo:Sort _}{bx:Sort _}{cc:Sort _}{dH:Sort _}{ju:Sort _}{p1 p2 p3 p4:bo->bx->cc->dH->ju->Prop}{Q:Prop}(h:∃a b c d e,p1 a b c d e/\p2 a b c d e/\p3 a b c d e/\p4 a b c d e)(f:∀a b c d e,p1 a b c d e->p2 a b c d e->p3 a b c d e->p4 a b c d e->Q):Q:=h.elim λa h=>h.elim λb h=>h.elim λc h=>h.elim λd h=>h.elim λe h=>f a b c d e h.1 h.2.1 h.2.2.1 h.2.2.2
theorem Nj {bo:Sort _}{bx:Sort _}{cc:Sort _}{dH:Sort _}{ju:Sort _}{p1 p2 p3 p4 p5:bo->bx->cc->dH->ju->Prop}{Q:Prop}(h:∃a b c d e,p1 a b c d e/\p2 a b c d e/\p3 a b c d e/\p4 a b c d e/\p5 a b c d e)(f:∀a b c d e,p1 a b c d e->p2 a b c d e->p3 a b c d e->p4 a b c d e->p5 a b c d e->Q):Q:=h.elim λa h=>h.elim λb h=>h.elim λc h=>h.elim λd h=>h.elim λe h=>f a b c d e h.1 h.2.1 h.2.2.1 h.2.2.2.1 h.2.2.2.2
theorem Nk {bo:Sort _}{bx:Sort _}{cc:Sort _}{dH:Sort _}{ju:Sort _}{BD:Sort _}{p1:bo->bx->cc->dH->ju->BD->Prop}{Q:Prop}(h:∃a b c d e i,p1 a b c d e i)(f:∀a b c d e i,p1 a b c d e i->Q):Q:=h.elim λa h=>h.elim λb h=>h.elim λc h=>h.elim λd h=>h.elim λe h=>h.elim λi h=>f a b c d e i h
theorem DE {bo:Sort _}{bx:Sort _}{cc:Sort _}{dH:Sort _}{ju:Sort _}{BD:Sort _}{XY:Sort _}{XZ:Sort _}{p1 p2 p3 p4 p5 p6:bo->bx->cc->dH->ju->BD->XY->XZ->Prop}{Q:Prop}(h:∃a b c d e i j k,p1 a b c d e i j k/\p2 a b c d e i j k/\p3 a b c d e i j k/\p4 a b c d e i j k/\p5 a b c d e i j k/\p6 a b c d e i j k)(f:∀a b c d e i j k,p1 a b c d e i j k->p2 a b c d e i j k->p3 a b c d e i j k->p4 a b c d e i j k->p5 a b c d e i j k->p6 a b c d e i j k->Q):Q:=h.elim λa h=>h.elim λb h=>h.elim λc h=>h.elim λd h=>h.elim λe h=>h.elim λi h=>h.elim λj h=>h.elim λk h=>f a b c d e i j k h.1 h.2.1 h.2.2.1 h.2.2.2.1 h.2.2.2.2.1 h.2.2.2.2.2
universe u
@[elab_as_elim] theorem aa {α:Sort u}{a b:α}{p:α->Prop} (h:a=b) (x:p b):p a:=h.symm.rec x
@[elab_as_elim] theorem rwj {α:Sort u}{a b:α}{p:α->Prop} (h:b=a) (x:p b):p a:=h.rec x
theorem ai {α:Type _}{r:α}{Q:Prop}(e:none=some r):Q:=nomatch e
theorem GW {α:Type _}{r:α}{Q:Prop}(e:some r=none):Q:=nomatch e
theorem bP {Q:Prop}(e:false=true):Q:=nomatch e
theorem aG {α:Type _}{a r:α}{Q:α->Prop}(e:some a=some r)(k:Q a):Q r:=Y0 e▸k
theorem lP {α β:Type _}{f:α->β}{o:Option α}{r:β}{Q:β->Prop}(e:o.map f=some r)(k:∀a,o=some a->Q (f a)):Q r:=by
 induction o using ae with
 |none=>exact ai e
 |some a=>exact aG (Q:=Q) e (k a rfl)
theorem bR {α:Type _}{c:Prop}[Decidable c]{a:Option α}{r:α}{Q:Prop}(e:(if c then a else none)=some r)(k:c->a=some r->Q):Q:=by
 by_cases h:c
 ·rw[if_pos h]at e;exact k h e
 ·rw[if_neg h]at e;exact ai e
theorem mG {α:Type _}{c:Prop}[Decidable c]{a:Option α}{r:α}{Q:Prop}(e:(if c then none else a)=some r)(k:¬c->a=some r->Q):Q:=by
 by_cases h:c
 ·rw[if_pos h]at e;exact ai e
 ·rw[if_neg h]at e;exact k h e
theorem pN {α β:Type _}{o:Option α}{f:α->Option β}{r:β}{Q:Prop}(e:o.bind f=some r)(k:∀a,o=some a->f a=some r->Q):Q:=by
 induction o using ae with
 |none=>exact ai e
 |some a=>exact k a rfl e
theorem cu {a b:Bool}{Q:Prop}(e:(a&&b)=true)(k:a=true->b=true->Q):Q:=k (jbG.mp e).1 (jbG.mp e).2
theorem J5 {α:Type}{M:Model}{A:ZS}{t:Sem α}{K:α->Y1->Prop}{E:Value->Y1->Prop}{s:Y1}(h:∀Q:α->Y1->Prop,(∀a s',K a s'->Q a s')->Y7 M A t Q E s):Y7 M A t K E s:=h K λY Y h=>h
theorem kM {α:Type _}{C:α->Prop}:∀x∈([]:List α),C x:=λY h=>nomatch h
theorem bv {α:Type _}{C:α->Prop}{a:α}{l:List α}(h:C a)(r:∀x∈l,C x):∀x∈a::l,C x:=jhn.mpr ⟨h,r⟩
theorem nq {α:Type _}{r:α}{Q:Prop}(e:some none=some (some r)):Q:=nomatch e
theorem xV {α:Type _}{a r:α}{Q:α->Prop}(e:some (some a)=some (some r))(k:Q a):Q r:=Y0 (Y0 e)▸k
theorem Gp {α:Type _}{Q:List α->Prop}{l:List α}(h:l.length=1)(k:∀a,Q [a]):Q l:=by
 induction l using YZ with
 |nil=>cases h
 |cons a l=>induction l using YZ with
  |nil=>exact k a
  |cons=>cases h
theorem Gq {α:Type _}{Q:List α->Prop}{l:List α}(h:l.length=2)(k:∀a b,Q [a,b]):Q l:=by
 induction l using YZ with
 |nil=>cases h
 |cons a l=>exact Gp (Q:=λl=>Q (a::l)) (jcB h) (k a)
theorem Sj {α:Type _}{Q:List α->Prop}{l:List α}(h:l.length=3)(k:∀a b c,Q [a,b,c]):Q l:=by
 induction l using YZ with
 |nil=>cases h
 |cons a l=>exact Gq (Q:=λl=>Q (a::l)) (jcB h) (k a)
def fC (k:Nat):Stmt:=(jcF.main.body[k]?).getD (.Pass default)
def Hd:List (Option Expr)->List Expr->List (Int×Str)
 |some (.Constant (.int k) _ _)::ks,.Constant (.str x) _ _::vs=>(k,x)::Hd ks vs
 |_,_=>[]
def B4:List (Int×Str):=match fC 15 with
 | .Assign _ (.Dict ks vs _) _=>Hd ks vs
 |_=>[]
def j1 (k:Int):Option Str:=B4.lookup k
def uy:List Int:=[173,847,6150,6155,6156,6157,8203,8204,8205,8288,65279]
def dz (k:Int):Bool:=uy.contains k||(decide (65024<=k)&&decide (k<65040))
end
section
open PySem PySem.W PyProof.Rows
section
variable {K:Type}[DecidableEq K]{bl:KeyKind af wd K}{A:ZS}{E:Value->Y1->Prop}{s:Y1}
theorem LK (qv:bl.is k key=true)(hm:s.heap.DictOf bl d aJ)(hQ:∀h',h'.DictOf bl d (stored aJ k v)->Z1 d s.heap h'->Q () { s with heap:=h' })(bd:aJ.length<=jcK:=by size_fits):
 Y7 (Y9 af wd) A (dictPut d (bl.hash k) key v) Q E s:=by
 refine yp hm λo es ep ho hc hd hk hp hn=>?_;have om:es.size<=jcK:=by
  have e1:=hp.length;have e2:es.toList.length=es.size:=by simp
  exact wK e1 bd
 unfold dictPut;refine Y6 (wpAny_dictFind_of qv ho hd hk ?_);have zp:(es.findIdx? λe=>bl.is k e.key)=aJ.findIdx? λkv=>decide (kv.1=k):=by
  rw[<-hp.findIdx k];obtain⟨l⟩:=es;simp
 induction hi:es.findIdx? λe=>bl.is k e.key using ae with
 |some i =>
  refine wpAny_updateDict ho hd (hQ _ ⟨_,_,ep,jcc _ ho (jhK (jiD hd _)),
   hc.mapDict _,jiD hd _,hk.modify _ _,?_,?_⟩ (jcd ..))
  ·rw[stored,if_pos (jiL (zp▸hi))];have hl:(es.toList.findIdx? λe=>bl.is k e.key)=some i:=by rw[<-hi];obtain⟨l⟩:=es;simp
   have:=hp.modify hn hl v;obtain⟨l⟩:=es;simpa using this
  ·rw[stored,if_pos (jiL (zp▸hi)),keys_map_store];exact hn
 |none =>
  have Fk:k∉aJ.map (·.1):=not_mem_of_findIdx_none (zp▸hi);have EJ:¬(aJ.any λkv=>decide (kv.1=k))=true:=by
   rw[jek];rintro⟨kv,sP,he⟩;exact Fk (Zk.mpr ⟨kv,sP,of_decide_eq_true he⟩)
  refine wpAny_updateDictKeys (hz:=om) ho hd (hQ _ ⟨_,_,ep+1,jcc _ ho (jhK (jhu hd _)),
   hc.mapDictKeys _,jhu hd _,hk.push qv _,?_,?_⟩ (jcd ..))
  ·rw[stored,if_neg EJ];have:=hp.append qv (bl.hash k) v;obtain⟨l⟩:=es;simpa using this
  ·rw[stored,if_neg EJ,ZO,jbg];refine cz hn (by simp) ?_;intro a ha b hb;simp only[Zy,List.map_nil,Zn]at hb;subst hb;exact λe=>Fk (e▸ha)
theorem US (h:x::az=ZP i (n-i)):x=i/\az=ZP (i+1) (n-(i+1))/\i<n:=by
 induction e:n-i using jas with
 |zero=>rw[e]at h;exact nomatch h
 |succ k =>
  rw[e,jcY]at h;injection h with h1 h2
  refine cz h1 ?_ (Nat.lt_of_sub_eq_succ e);refine aa h2 ?_;refine aa (Nat.sub_succ _ _) ?_;refine aa e ?_;rfl
theorem UQ (h:[]=ZP i (n-i))(hi:i<=n):i=n:=by
 induction e:n-i using jas with
 |zero=>exact Nat.le_antisymm hi (Nat.sub_eq_zero_iff_le.mp e)
 |succ k=>rw[e,jcY]at h;exact nomatch h
def wW (bl:KeyKind af wd K)(d o:Zb)(oo:Obj)(n:Nat)(aJ fM:List (K×Value))(s:Y1)(az:List Nat)(s':Y1):Prop :=
 ∃h' i,s'={ s with heap:=h' }/\az=ZP i (n-i)/\i<=n/\h'.DictOf bl d (merged aJ (fM.take i))/\h'.get? o=some oo/\Z1 d s.heap h'
theorem wW.elim {d o:Zb}{oo:Obj}{n:Nat}{aJ fM:List (K×Value)}{az:List Nat}{s':Y1}{Q:Y1->Prop}(h:wW bl d o oo n aJ fM s az s')(k:∀h' i,az=ZP i (n-i)->i<=n->h'.DictOf bl d (merged aJ (fM.take i))->h'.get? o=some oo->Z1 d s.heap h'->Q { s with heap:=h' }):Q s':=by
 refine pZ h λh' i e h1 h2 h3 h4 h5=>?_;refine aa e ?_;exact k h' i h1 h2 h3 h4 h5
theorem Ta {d o:Zb}{aJ fM:List (K×Value)}{Q:Unit->Y1->Prop}(Pz:d≠o)(Qh:(o==Z')=false)(cV:aJ≠[])(hd:s.heap.DictOf bl d aJ)(ho:s.heap.DictOf bl o fM)(hQ:∀h',h'.DictOf bl d (merged aJ fM)->Z1 d s.heap h'->Q () { s with heap:=h' })(bd:aJ.length+fM.length<=jcK):
 Y7 (Y9 af wd) A (jhO d (.ref o) false) Q E s:=by
 refine yp (id hd) λod MF X' Qk Pr zh qu Fp dh=>?_;refine yp (id ho) λoo uO Ya zC zg vm P4 Fs m6=>?_;have aO:fM.length=uO.size:=Fs.length.symm.trans jhq;have PF:MF.isEmpty=false:=jfr.mpr λhe=>cV (Z3.mp (Fp.length.symm.trans (by refine aa (Array.isEmpty_iff.mp he) ?_;rfl)));clear dh Pr qu Fp zg m6 cV;refine J5 λR hR=>?_;unfold jhO;refine Y6 (wpAny_isInstance ho.typeIs F.sub_dict_dict ?_);refine aa (if_pos rfl) ?_;refine Y6 (wpAny_specialOf ho.typeIs F.slot_dict_iter.lookup ?_);refine Y6 (Zu ?_);have h1:(some (jiM "dict.__iter__")==some (jiM "dict.__iter__"))=true:=by decide
 refine aa h1 ?_;dsimp only;rw[if_neg (by refine aa Qh ?_;exact ZY)];refine Y6 (jfS Qk zh ?_);refine aa PF ?_;refine aa (if_neg ZY) ?_;refine Y6 (jfS zC vm ?_);refine Y6 (wpAny_dictEpoch zC vm ?_);refine Y6 ?_;refine aa jdl ?_;refine wpAny_forIn_list _ (λaz Y s'=>wW bl d o oo uO.size aJ fM s az s') _ (λx az b s' H=>?_) (λb s' H=>?_) _ _ ⟨s.heap,0,rfl,by simp,jaU _,by simpa [merged]using hd,zC,jgC _ _⟩
 ·refine H.elim λh' i hr hi lW zD ei=>?_;refine fY (US hr) ?_;rintro rfl Qu aZ;refine Y6 (jfS zD vm ?_);refine aa (Array.getElem?_eq_getElem aZ) ?_;have sP:fM[x]?=some (fM[x]'(by refine aa aO ?_;exact aZ)):=Y' _;generalize fM[x]'(by refine aa aO ?_;exact aZ)=kv at sP;refine bN (Fs.get? (e:=uO[x]) (by simp[aZ]) (v:=kv.2) (k:=kv.1) sP) λqv vL=>?_;refine au (P4 uO[x] (Array.getElem_mem aZ)) λk' P2 E2=>?_;rw[bl.inj _ _ _ P2 qv]at E2;dsimp only;refine aa (if_neg ZY) ?_;have Qb:(merged aJ (fM.take x)).length<=jcK:=YY (merged_length_le aJ (fM.take x)) (YY (jhL (jhk _ _) _) bd);refine aa E2 ?_;refine aa vL ?_;refine Y6 (jaJ (LK (bd:=Qb) qv lW λhV Pw FA=>?_));have Fm:hV.get? o=some oo:=(FA.2 o (jev Pz)).trans zD;refine Y6 (wpAny_dictEpoch Fm vm ?_);refine aa (if_neg (by simp)) ?_;exact Zu ⟨hV,x+1,rfl,Qu,aZ,by refine aa (merged_take_succ aJ fM x kv sP) ?_;exact Pw,Fm,ei.trans FA⟩
 ·refine H.elim λh' i hr hi lW zD ei=>Zu (hR _ _ (hQ h' ?_ ei));rw[UQ hr hi,<-aO,jfC]at lW;exact lW
end
section
variable {K:Type}[DecidableEq K]
inductive eU:List (K×(Value->Prop))->List (K×Value)->Prop
 |nil:eU [] []
 |cons {k:K}{P:Value->Prop}{v:Value}{l:List (K×(Value->Prop))}{aJ:List (K×Value)} (h:P v) (r:eU l aJ):eU ((k,P)::l) ((k,v)::aJ)
theorem eU.length (r:eU l aJ):aJ.length=l.length:=by
 induction r with
 |nil=>rfl
 |cons _ _ ih=>exact congrArg jbY ih
theorem eU.append (r:eU l aJ)(q:eU l' tl):eU (l++l') (aJ++tl):=by
 induction r with
 |nil=>exact q
 |cons h _ ih=>exact .cons h ih
end
section
variable {K:Type}[DecidableEq K]{bl:KeyKind af wd K}{A:ZS}{E:Value->Y1->Prop}{s:Y1}{aL:jag}
abbrev gj (h h':jag):Prop:=∀b o,h.get? b=some o->h'.get? b=some o
def I3 (bl:KeyKind af wd K)(A:ZS)(aL:jag)(p:Sem Value×Sem Value)(k:K×(Value->Prop)):Prop :=
 ∀(E:Value->Y1->Prop) (s:Y1) (Q:Value->Value->Y1->Prop),gj aL s.heap->(∀kv vv tk,bl.is k.1 kv=true->k.2 vv->Q kv vv { s with toks:=tk }) ->
  Y7 (Y9 af wd) A p.1 (λkv ak=>Y7 (Y9 af wd) A p.2 (λvv aC=>Q kv vv aC) E ak) E s
inductive eW (bl:KeyKind af wd K) (A:ZS) (aL:jag):List (Sem Value×Sem Value)->List (K×(Value->Prop))->Prop
 |nil:eW bl A aL [] []
 |cons {p:Sem Value×Sem Value}{k:K×(Value->Prop)}{ps:List (Sem Value×Sem Value)}{ks:List (K×(Value->Prop))} (h:I3 bl A aL p k) (r:eW bl A aL ps ks):eW bl A aL (p::ps) (k::ks)
theorem eW.length (r:eW bl A aL ps ks):ps.length=ks.length:=by
 induction r with
 |nil=>rfl
 |cons _ _ ih=>exact congrArg jbY ih
theorem eW.append (r:eW bl A aL ps ks)(q:eW bl A aL ps' nf):eW bl A aL (ps++ps') (ks++nf):=by
 induction r with
 |nil=>exact q
 |cons h _ ih=>exact .cons h ih
theorem Na (r:eW bl A aL ps ks):∀{s:Y1}{Q:List (Value×Value)->Y1->Prop},gj aL s.heap ->
 (∀vs aJ tk,Carries bl vs aJ->eU ks aJ->vs.length=ps.length->Q vs { s with toks:=tk })->Y7 (Y9 af wd) A (evalPairs ps) Q E s:=by
 induction r with
 |nil=>exact λ{s Q} hx h=>Zu (h [] [] s.toks trivial .nil rfl)
 | @cons p k ps ks hp r ih =>
  exact λ{s Q} hx h=>evalPairs_cons (hp E s _ hx λkv vv tk h1 h2=>ih hx λvs aJ iu h3 h4 h5=>h ((kv,vv)::vs) ((k.1,vv)::aJ) iu ⟨h1,rfl,h3⟩ (.cons h2 h4) (congrArg jbY h5))
theorem wu (hx:gj aL h)(hs:Z1 d h h')(hd:aL.objs.size<=d):gj aL h':=λb o e=>hs.extBut b o (λq=>ZT.mpr hd (q▸Zr e)) (hx b o e)
theorem Sw (k0:aL.objs.size<=d)(r:eW bl A aL ps ks):∀{acc:List (K×Value)}{s:Y1}{Q:PUnit->Y1->Prop},gj aL s.heap->s.heap.DictOf bl d acc->acc.length+ps.length<=jcK ->
 (∀aJ h' tk,eU ks aJ->h'.DictOf bl d (merged acc aJ)->Z1 d s.heap h'->Q jgc { s with heap:=h',toks:=tk }) ->
 Y7 (Y9 af wd) A (forIn ps jgc λ(x:Sem Value×Sem Value) (_:PUnit)=>(do
  let kv <-x.1;let vv <-jfl [kv] x.2
  jfl [kv,vv] (dictSet d kv vv)
  pure (jbO jgc):Sem (ForInStep PUnit))) Q E s:=by
 induction r with
 |nil =>
  intro acc s Q hx hm bd h;refine aa jcM ?_;exact Zu (h [] s.heap s.toks .nil (by simpa [merged]using hm) (jgC _ _))
 | @cons p k ps ks hp r ih =>
  intro acc s Q hx hm bd h;rw[jdq];refine Y6 (Y6 (jan (hp E s (λkv vv s'=>Y7 (Y9 af wd) A (do jfl [kv,vv] (dictSet d kv vv);pure (jbO jgc)) (λa cO=>Y7 (Y9 af wd) A _ Q E cO) E s') hx λkv vv tk h1 h2=>?_) (λkv ak aX=>Y6 (jaJ aX)) λY Y e=>e));rw[Zl]at bd;refine Y6 (jaJ (wpAny_dictSet_pairs (hsz:=YY (ZD _ _) bd) h1 hm λaX Qc FF=>Zu ?_));exact ih (wu hx FF k0) Qc (YY (Nat.add_le_add_right (stored_length_le acc k.1 vv) _) (by refine aa (Nat.succ_add _ _) ?_;exact bd)) λaJ h' iu h3 h4 h5=>h ((k.1,vv)::aJ) h' iu (.cons h2 h3) (by simpa [merged]using h4) (FF.trans h5)
theorem HW (hP:eW bl A aL ps ks)(hx:gj aL s.heap)(k0:aL.objs.size<=s.heap.objs.size)(bd:ps.length<=1000)(h:∀aJ h' tk,eU ks aJ->h'.DictOf bl s.heap.objs.size (merged [] aJ)->Z1 s.heap.objs.size (s.heap.push { cls:=.type "dict",data:=.dict #[] }) h'->Q s.heap.objs.size { s with heap:=h',toks:=tk }):
 Y7 (Y9 af wd) A (subDict ps) Q E s:=by
 unfold subDict;refine Y6 (jiw ?_);have hm:(s.heap.push { cls:=.type "dict",data:=.dict #[] }).DictOf bl s.heap.objs.size []:=jfa ..;have fb:gj aL (s.heap.push { cls:=.type "dict",data:=.dict #[] }):=λb o e=>Za _ (hx b o e);refine Y6 (jaJ ?_);by_cases hl:ps.length<=15
 ·refine aa (if_pos hl) ?_;refine Y6 (Na hP fb λvs aJ tk h1 h2 h3=>jaJ ?_);refine Y6 (wpAny_storeAll (knd:=bl) vs aJ [] _ _ h1 hm (by have:=h1.length;refine aa jiz ?_;refine aa jbj ?_;lia) λh' jh ei=>Zu (Zu ?_));exact h aJ h' _ h2 jh ei
 ·refine aa (if_neg hl) ?_;refine Y6 (jeK ?_);refine Y6 (Sw k0 hP fb hm (by refine aa jiz ?_;refine aa jbj ?_;lia) λaJ h' tk h1 h2 h3=>Zu (Zu ?_));exact h aJ h' tk h1 h2 h3
end
section
variable {K:Type}[DecidableEq K]{bl:KeyKind af wd K}{A:ZS}{E:Value->Y1->Prop}{s:Y1}{aL:jag}
theorem eU.keys {l:List (K×(Value->Prop))}{aJ:List (K×Value)}(r:eU l aJ):aJ.map (·.1)=l.map (·.1):=by
 induction r with
 |nil=>rfl
 |cons _ _ ih=>exact congrArg (List.cons _) ih
theorem eU.merged {l:List (K×(Value->Prop))}(r:eU l aJ)(hn:(l.map (·.1)).Nodup):merged [] aJ=aJ:=merged_nil_of_nodup _ (by refine aa r.keys ?_;exact hn)
def u6 (run:List (Sem Value×Sem Value))(main:Option Zb):Sem (Option Zb):=
 if run.isEmpty=true then pure main
 else match main with
  |none=>do
   let __do_lift <-subDict run
   pure (some __do_lift)
  |some d=>do
   let sub <-jfl [jbs d] (subDict run)
   (jfl [jbs d,jbs sub] (jhO d (jbs sub) false)).onRaise λx=>do
    let _ <-jfl [jbs d,x] (runValue (Code.builtin "proto.let_go" { }))
    pure ()
   pure (some d)
structure uh (bl:KeyKind af wd K) (aL:jag) (main:Option Zb) (ks:List (K×(Value->Prop))) (s:Y1):Prop where
 ex:gj aL s.heap
 sz:aL.objs.size<=s.heap.objs.size
 st:(main=none/\ks=[])\/∃D aJ,main=some D/\eU ks aJ/\aJ≠[]/\aL.objs.size<=D/\s.heap.DictOf bl D aJ
theorem DZ {main:Option Zb}{run:List (Sem Value×Sem Value)}{ks gy:List (K×(Value->Prop))}{Q:Option Zb->Y1->Prop}(S:uh bl aL main ks s)(hP:eW bl A aL run gy)(iK:Z'<aL.objs.size)(bd:ks.length+gy.length<=1000)(dh:((ks++gy).map (·.1)).Nodup)(h:∀m' h' tk,uh bl aL m' (ks++gy) { s with heap:=h',toks:=tk }->Q m' { s with heap:=h',toks:=tk }):Y7 (Y9 af wd) A (u6 run main) Q E s:=by
 unfold u6;cases hP with
 |nil=>exact Zu (h main s.heap s.toks (by refine aa (ZZ _) ?_;exact S))
 | @cons p k ps nf hp r =>
  refine aa (if_neg (by simp)) ?_;have hP:eW bl A aL (p::ps) (k::nf):=.cons hp r;have Yn:=hP.length;have Fg:=dh;rw[ZO,jbg]at Fg;refine fY Fg λsS vG Y=>?_;rcases S.st with⟨rfl,rfl⟩|⟨D,aJ,rfl,h1,h2,h3,h4⟩
  ·refine Y6 (HW hP S.ex S.sz (by lia) λaJ h' tk k1 k2 k3=>Zu ?_);have hz:h'.objs.size=s.heap.objs.size+1:=by refine aa k3.1 ?_;refine aa (ZL _ _) ?_;rfl
   refine h _ _ _ ⟨wu (λb o e=>Za _ (S.ex b o e)) k3 S.sz,by show _<=h'.objs.size;refine aa hz ?_;exact jfw S.sz,.inr ⟨_,aJ,rfl,by refine aa (jaS _) ?_;exact k1,?_,S.sz,by rw[k1.merged vG]at k2;exact k2⟩⟩;intro q;subst q;cases k1
  ·refine Y6 (jaJ (HW hP S.ex S.sz (by lia) λtl h' tk k1 k2 k3=>?_));have hz:h'.objs.size=s.heap.objs.size+1:=by refine aa k3.1 ?_;refine aa (ZL _ _) ?_;rfl
   have O4:D<s.heap.objs.size:=by
    refine uV h4 λo Y Y e Y=>?_;exact Zr e
   have cV:D≠s.heap.objs.size:=jaz O4;have O2:h'.DictOf bl D aJ:=by
    refine uV h4 λo es ep e r=>?_;exact⟨o,es,ep,k3.extBut _ _ cV (Za _ e),r⟩
   rw[k1.merged vG]at k2;have l3:=h1.length;have l4:=k1.length;refine Y6 (wpAny_onRaise (jaJ (Ta cV ?_ h2 O2 k2 (λhV m1 m2=>Zu ?_) (by refine aa jiz ?_;lia))))
   ·exact beq_eq_false_iff_ne.mpr (jaP (be iK S.sz))
   ·refine h _ _ _ ⟨wu (wu (λb o e=>Za _ (S.ex b o e)) k3 S.sz) m2 h3,by show _<=hV.objs.size;refine aa m2.1 ?_;refine aa hz ?_;exact jfw S.sz,.inr ⟨D,aJ++tl,rfl,h1.append k1,by simp[h2],h3,?_⟩⟩;have e:merged aJ tl=aJ++tl:=merged_append_of_fresh _ _ (by refine aa ZO ?_;refine aa h1.keys ?_;refine aa k1.keys ?_;refine rwj ZO ?_;exact dh);refine rwj e ?_;exact m1
theorem OJ (f:(Option (Sem Value)×Sem Value)->(Option Zb×List (Sem Value×Sem Value))->Sem (ForInStep (Option Zb×List (Sem Value×Sem Value))))(hf:∀(p:Sem Value×Sem Value) (st:Option Zb×List (Sem Value×Sem Value)),f (some p.1,p.2) st=(if((st.2++[p]).length==17)=true then(do
 let main <-u6 (st.2++[p]) st.1
 pure (.yield (main,[])))else pure (.yield (st.1,st.2++[p])))) (iK:Z'<aL.objs.size) {ps:List (Sem Value×Sem Value)}{ks:List (K×(Value->Prop))} (rr:eW bl A aL ps ks):∀{main:Option Zb}{run:List (Sem Value×Sem Value)}{li gy:List (K×(Value->Prop))}{s:Y1}{Q:(Option Zb×List (Sem Value×Sem Value))->Y1->Prop},uh bl aL main li s->eW bl A aL run gy->li.length+gy.length+ks.length<=1000->((li++gy++ks).map (·.1)).Nodup ->
 (∀m' wq ng vZ h' tk,uh bl aL m' ng { s with heap:=h',toks:=tk }->eW bl A aL wq vZ->ng++vZ=li++gy++ks->Q (m',wq) { s with heap:=h',toks:=tk }) ->
 Y7 (Y9 af wd) A (forIn (ps.map λp=>(some p.1,p.2)) (main,run) f) Q E s:=by
 induction rr with
 |nil =>
  intro main run li gy s Q S hr bd dh h;refine aa List.map_nil ?_;refine aa jcM ?_;exact Zu (h main run li gy s.heap s.toks S hr (by refine aa (ZZ _) ?_;rfl))
 | @cons p k ps ks hp r ih =>
  intro main run li gy s Q S hr bd dh h;refine aa Zy ?_;rewrite [jdq];refine aa (hf _ _) ?_;dsimp only;have vH:eW bl A aL (run++[p]) (gy++[k]):=hr.append (.cons hp .nil);rw[Zl]at bd;have e1:li++gy++k::ks=li++(gy++[k])++ks:=by simp
  rw[e1]at dh h;have l1:(gy++[k]).length=gy.length+1:=Y8;split
  ·refine Y6 (Y6 (DZ S vH iK (by lia) (by rw[ZO,jbg]at dh;exact dh.1) λm' h' tk S'=>Zu ?_));refine ih S' .nil (by simp only[Y8,Zl,jbj];exact ua bd) (by simpa using dh) λv6 A0 ng Ag hV iu my zH e=>?_;exact h v6 A0 ng Ag hV iu my zH (by refine aa e ?_;simp)
  ·refine Y6 (Zu ?_);refine ih S vH (by simp only[Y8,Zl,jbj];exact ua bd) (by simpa using dh) λv6 A0 ng Ag hV iu my zH e=>?_;exact h v6 A0 ng Ag hV iu my zH e
theorem CW {ps:List (Sem Value×Sem Value)}{ks:List (K×(Value->Prop))}{Q:Value->Y1->Prop}(hP:eW bl A s.heap ps ks)(iK:Z'<s.heap.objs.size)(bd:ps.length<=1000)(cV:ps≠[])(dh:(ks.map (·.1)).Nodup)(h:∀D aJ h' tk,s.heap.objs.size<=D->eU ks aJ->h'.DictOf bl D aJ->gj s.heap h'->s.heap.objs.size<=h'.objs.size->Q (.ref D) { s with heap:=h',toks:=tk }):
 Y7 (Y9 af wd) A (jgE (ps.map λp=>(some p.1,p.2))) Q E s:=by
 unfold jgE;dsimp only;have hl:=hP.length;refine Y6 (OJ (aL:=s.heap) _ (λp st=>rfl) iK hP (li:=[]) ⟨λY Y e=>e,Y2 _,.inl ⟨rfl,rfl⟩⟩ .nil (by simp only[jbj];lia) (by simpa using dh) λm' wq ng vZ h' tk S' vH e=>?_);rw[jaS,jaS]at e;have vw:ng.length+vZ.length=ks.length:=by refine rwj Y8 ?_;refine aa e ?_;rfl
 refine Y6 (?_:Y7 (Y9 af wd) A (u6 wq m') _ E _);refine DZ S' vH iK (by lia) (by refine aa e ?_;exact dh) λv6 hV iu my=>?_;rw[e]at my;rcases my.st with⟨_,e2⟩|⟨D,aJ,rfl,h1,h2,h3,h4⟩
 ·exfalso;rw[e2]at hl;exact cV (Z3.mp hl)
 ·exact Zu (h D aJ hV iu h3 h1 h4 my.ex my.sz)
end
end
section
open PySem
set_option genInjectivity true in
set_option genCtorIdx true in
inductive AV where
 |none
 |bool (b:Bool)
 |int (i:Int)
 |flt (x:UInt64)
 |str (cs:List Nat)
 |tup (vs:List AV)
 |lst (vs:List AV)
 |dct (es:List (Int×AV))
 |ref (i:Nat)
 |tok
set_option genInjectivity true in
set_option genCtorIdx true in
inductive AO where
 |list (vs:List AV)
 |dict (es:List (Int×AV))
 |gone
inductive Fn where
 |range|len|sum|max|min|listVals|listRange|ord|chr|int|divmod|isBool|isInt|reversed
 |bitLength|index|find|join|split|count|get|values
 |user (k:Nat)
set_option genInjectivity true in
set_option genCtorIdx true in
inductive uj where
 |divLimit|ntOffset|endMarker|tok
set_option genInjectivity true in
mutual
inductive Ex where
 |c (v:Const)
 |var (i:Nat)
 |glob (g:uj)
 |bin (op:Operator) (a b:Ex)
 |un (op:UnaryOp) (a:Ex)
 |cmp (op:CmpOp) (a b:Ex)
 |and (es:bV)
 |or (es:bV)
 |ite (c a b:Ex)
 |list (es:bV)
 |tup (es:bV)
 |dict (ks vs:bV)
 |idx (a i:Ex)
 |slice (a:Ex) (lo hi:ui)
 |call (f:Fn) (as:bV)
 |comp (n:Nat) (gs:jX)
 |bad
inductive bV where
 |nil
 |cons (e:Ex) (es:bV)
inductive ui where
 |none
 |some (e:Ex)
inductive jX where
 |done (e:Ex)
 |cons (x:Nat) (it:It) (ifs:bV) (az:jX)
inductive It where
 |range (as:bV)
 |rev (e:Ex)
 |val (e:Ex)
end
def fR:Ex->It
 | .call .range as=>.range as
 | .call .reversed (.cons a .nil)=>.rev a
 |e=>.val e
mutual
inductive St where
 |asg (x:Nat) (wz:Bool) (e:Ex)
 |unp (xs:List Nat) (e:Ex)
 |asgT (xs:List (Nat×Bool)) (es:bV)
 |aug (x:Nat) (op:Operator) (e:Ex)
 |app (o e:Ex)
 |rev (o:Ex)
 |put (x:Nat) (k v:Ex)
 |ife (c:Ex) (a b:dw)
 |for_ (x:Nat) (it:It) (body:dw)
 |while_ (c:Ex) (body:dw)
 |ret (e:Ex)
 |bad
inductive dw where
 |nil
 |cons (s:St) (ss:dw)
end
def gv:List (Str×Fn):=[("range",.range),("len",.len),("sum",.sum),("max",.max),("min",.min),("ord",.ord),("chr",.chr),("int",.int),("divmod",.divmod),("reversed",.reversed),
 ("_div2n1n",.user 0),("_int2digits",.user 1),("_digits2int",.user 2),("_divmod_pos",.user 3),("int_divmod",.user 4),("rgb_to_hls",.user 5),("rgb_to_hsv",.user 6),("hsv_to_rgb",.user 7),
 ("in_table_b1",.user 8),("map_table_b3",.user 9),("ISTERMINAL",.user 10),("ISNONTERMINAL",.user 11),("ISEOF",.user 12),("_law_word",.user 13),("_law_page",.user 14),("_law_read",.user 15),
 ("_law_net",.user 16),("_law_lamps",.user 17),("_law_paintings",.user 18),("_law_classes",.user 19),("_law_plain",.user 20),("law",.user 21)]
def iU:List (Str×Fn):=[("bit_length",.bitLength),("index",.index),("find",.find),("join",.join),("split",.split),("count",.count),("get",.get)]
def sD:List (Str×uj):=[("_DIV_LIMIT",.divLimit),("NT_OFFSET",.ntOffset),("ENDMARKER",.endMarker),("EXACT_TOKEN_TYPES",.tok)]
structure Tb where
 names:List (Str×jaY)
 vars:List (Str×Nat)
 next:Nat
def wm (x:Str):Bool:=!(x==("__debug__" : Str))&&!(x==("__classdict__" : Str))
def Tb.celled (T:Tb)(x:Str):Bool:=T.names.lookup x==some .cell||T.names.lookup x==some .free
def Tb.var (T:Tb)(x:Str):Option Nat:=match T.names.lookup x with
 |some .local|some .cell|some .free=>if wm x then T.vars.lookup x else none
 |_=>none
def Tb.own (T:Tb)(x:Str):Option Nat:=if T.names.lookup x==some .local||T.names.lookup x==some .cell then T.var x else none
def Tb.isGlobal (T:Tb)(x:Str):Bool:=T.names.lookup x==some .globalImplicit&&wm x
def AB (l:List (Str×jaY)):Bool:=decide (l.map (·.1)).Nodup
def ey (sc:jax):List Str:=sc.names.filterMap λ(n,k)=>if(k==.local||k==.cell)&&n != (".0" : Str)then some n else none
def qf (sc:jax):List Str:=sc.names.filterMap λ(n,k)=>if k==.free then some n else none
def Tb.comp (T:Tb)(sc:jax):Tb :=
 { names:=sc.names,vars:=(ey sc).zipIdx.map (λ(n,j)=>(n,T.next+j))++(qf sc).filterMap (λn=>(T.var n).map (n,·)),next:=T.next+(ey sc).length }
def oR (T:Tb):Bool:=T.vars.all λa=>decide (a.2<T.next)&&T.vars.all λb=>a.2 != b.2||a.1==b.1
def B2:Expr->Bool
 | .Call (.Name _ _) [] [] _=>false
 |_=>true
def fe (o:Expr)(n:Nat)(pk pos:Pos):Bool:=B2 o&&(pk.endLine==pos.line)&&decide (n<20)
def xL (o:Option Nat)(it:It)(ifs:bV)(gs:jX):jX:=match o with
 |some i=>.cons i it ifs gs
 |none=>.done .bad
def Al:bV->Ex
 | .cons (.call .values as) .nil=>.call .listVals as
 | .cons (.call .range as) .nil=>.call .listRange as
 |_=>.bad
def Ga (T:Tb):List Expr->Option Fn
 | [_,.Name t _]=>if T.isGlobal t&&t==("bool" : Str)then some .isBool else if T.isGlobal t&&t==("int" : Str)then some .isInt else none
 |_=>none
def Ac (g:Fn):bV->Ex
 | .cons e _=>.call g (.cons e .nil)
 | .nil=>.bad
def Tk (T:Tb)(f:Str)(as:List Expr)(es:bV):Ex :=
 if f==("list" : Str)then Al es
 else if f==("isinstance" : Str)then(match Ga T as with|some g=>Ac g es|none=>.bad)
 else match gv.lookup f with
  |some g=>if as.isEmpty then .bad else .call g es
  |none=>.bad
def Au (m:Str)(ok:Bool)(o:Ex)(none_:Bool)(es:bV):Ex :=
 if ok then(if m==("values" : Str)then(if none_ then .call .values (.cons o .nil)else .bad)else match iU.lookup m with
  |some g=>.call g (.cons o es)
  |none=>.bad)else .bad
mutual
noncomputable def ao (T:Tb):Expr->Ex
 | .Constant c _ _=>.c c
 | .Name x _=>match T.var x with
  |some i=>.var i
  |none=>if T.isGlobal x then(match sD.lookup x with|some g=>.glob g|none=>.bad)else .bad
 | .BinOp a op b _=>.bin op (ao T a) (ao T b)
 | .UnaryOp op a _=>.un op (ao T a)
 | .Compare a [op] [b] _=>if jeo op b then .bad else .cmp op (ao T a) (ao T b)
 | .BoolOp .And (e::es) _=>.and (.cons (ao T e) (bf T es))
 | .BoolOp .Or (e::es) _=>.or (.cons (ao T e) (bf T es))
 | .IfExp c a b _=>.ite (ao T c) (ao T a) (ao T b)
 | .List es _=>.list (bf T es)
 | .Tuple es _ _=>.tup (bf T es)
 | .Dict ks vs _=>if ks.all jgj then .dict (tY T ks) (bf T vs)else .bad
 | .Subscript a (.Slice lo hi none _) _=>.slice (ao T a) (mh T lo) (mh T hi)
 | .Subscript a i _=>.idx (ao T a) (ao T i)
 | .Call (.Name f _) as [] _=>if T.isGlobal f then Tk T f as (bf T as)else .bad
 | .Call (.Attribute o m pk) as [] pos=>Au m (fe o as.length pk pos) (ao T o) as.isEmpty (bf T as)
 | .ListComp aD gens sc _=>if sc.kind==.function&&AB sc.names&&gens.all (λg=>g.is_async==0)&&(qf sc).all T.celled&&oR (T.comp sc)then .comp (ey sc).length (iY T (T.comp sc) (ao (T.comp sc) aD) gens)else .bad
 |_=>.bad
noncomputable def bf (T:Tb):List Expr->bV
 | []=>.nil
 |e::es=>.cons (ao T e) (bf T es)
noncomputable def tY (T:Tb):List (Option Expr)->bV
 | []=>.nil
 |some e::es=>.cons (ao T e) (tY T es)
 |none::es=>.cons .bad (tY T es)
noncomputable def mh (T:Tb):Option Expr->ui
 |none=>.none
 |some e=>.some (ao T e)
noncomputable def iY (T T':Tb)(aD:Ex):List jae->jX
 |⟨.Name x _,it,ifs,0⟩::gs=>xL (T'.own x) (fR (ao T it)) (bf T' ifs) (iX T' aD gs)
 |_=>.done .bad
noncomputable def iX (T':Tb)(aD:Ex):List jae->jX
 | []=>.done aD
 |⟨.Name x _,it,ifs,0⟩::gs=>xL (T'.own x) (fR (ao T' it)) (bf T' ifs) (iX T' aD gs)
 |_::_=>.done .bad
end
def gh:List Expr->Option (List Str)
 | []=>some []
 | .Name x _::es=>(gh es).map (x::·)
 |_=>none
def eK:Expr->Bool
 | .List ..=>true
 | .Dict [] [] _=>true
 | .ListComp ..=>true
 |_=>false
def Tb.vars? (T:Tb)(xs:List Str):Option (List Nat):=xs.mapM T.own
def D8 (o:Option Nat)(it:It)(b:dw):St:=match o with
 |some i=>.for_ i it b
 |none=>.bad
mutual
noncomputable def oU (T:Tb)(kr:List Str):Stmt->St
 | .Assign [.Name x _] v _=>match T.own x with
  |some i=>.asg i (kr.contains x&&eK v) (ao T v)
  |none=>.bad
 | .Assign [.Tuple ts _ _] (.Tuple vs _ _) _=>match gh ts with
  |some xs=>(match T.vars? xs with
   |some is=>if vs.length==xs.length&&decide (vs.length<=1000)&&decide is.Nodup&&(!vs.all (jdf 8)||vs.all (jdx 8))then .asgT (is.zip ((xs.zip vs).map λ(x,v)=>kr.contains x&&eK v)) (bf T vs)else .bad
   |none=>.bad)
  |none=>.bad
 | .Assign [.Tuple ts _ _] v _=>match gh ts with
  |some xs=>(match T.vars? xs with
   |some is=>.unp is (ao T v)
   |none=>.bad)
  |none=>.bad
 | .Assign [.Subscript (.Name x _) k _] v _=>match T.var x with
  |some i=>.put i (ao T k) (ao T v)
  |none=>.bad
 | .AugAssign (.Name x _) op v _=>match T.own x with
  |some i=>.aug i op (ao T v)
  |none=>.bad
 | .Expr (.Call (.Attribute o m ap) as [] p) _=>match as with
  | [e]=>if m==("append" : Str)&&fe o 1 ap p then .app (ao T o) (ao T e)else .bad
  | []=>if m==("reverse" : Str)&&fe o 0 ap p then .rev (ao T o)else .bad
  |_=>.bad
 | .If c a b _=>.ife (ao T c) (em T kr a) (em T kr b)
 | .For (.Name x _) it body [] _=>D8 (T.own x) (fR (ao T it)) (em T kr body)
 | .While c body [] _=>.while_ (ao T c) (em T kr body)
 | .Return (some e) _=>.ret (ao T e)
 |_=>.bad
noncomputable def em (T:Tb)(kr:List Str):List Stmt->dw
 | []=>.nil
 |s::ss=>.cons (oU T kr s) (em T kr ss)
end
set_option backward.match.sparseCases true
inductive cE (T:Tb):Expr->Ex->Prop
 |c {c:Const}{k:Nat}{p:Pos}:cE T (.Constant c k p) (.c c)
 |var {x:Str}{i:Nat}{p:Pos} (h:T.var x=some i):cE T (.Name x p) (.var i)
 |glob {x:Str}{g:uj}{p:Pos} (hg:T.isGlobal x=true) (hl:sD.lookup x=some g):cE T (.Name x p) (.glob g)
 |bin {a b:Expr}{op:Operator}{p:Pos}:cE T (.BinOp a op b p) (.bin op (ao T a) (ao T b))
 |un {a:Expr}{op:UnaryOp}{p:Pos}:cE T (.UnaryOp op a p) (.un op (ao T a))
 |cmp {a b:Expr}{op:CmpOp}{p:Pos} (h:jeo op b=false):cE T (.Compare a [op] [b] p) (.cmp op (ao T a) (ao T b))
 |and {e:Expr}{es:List Expr}{p:Pos}:cE T (.BoolOp .And (e::es) p) (.and (bf T (e::es)))
 |or {e:Expr}{es:List Expr}{p:Pos}:cE T (.BoolOp .Or (e::es) p) (.or (bf T (e::es)))
 |ite {c a b:Expr}{p:Pos}:cE T (.IfExp c a b p) (.ite (ao T c) (ao T a) (ao T b))
 |list {es:List Expr}{p:Pos}:cE T (.List es p) (.list (bf T es))
 |tup {es:List Expr}{k:Nat}{p:Pos}:cE T (.Tuple es k p) (.tup (bf T es))
 |dict {ks:List (Option Expr)}{vs:List Expr}{p:Pos} (h:ks.all jgj=true):cE T (.Dict ks vs p) (.dict (tY T ks) (bf T vs))
 |slice {a:Expr}{lo hi:Option Expr}{p p':Pos}:cE T (.Subscript a (.Slice lo hi none p) p') (.slice (ao T a) (mh T lo) (mh T hi))
 |idx {a i:Expr}{p:Pos}:cE T (.Subscript a i p) (.idx (ao T a) (ao T i))
 |vals {a:Expr}{f:Str}{es:bV}{p p':Pos} (hg:T.isGlobal f=true) (hf:f = "list") (ha:ao T a=.call .values es):cE T (.Call (.Name f p) [a] [] p') (.call .listVals es)
 |lrange {a:Expr}{f:Str}{es:bV}{p p':Pos} (hg:T.isGlobal f=true) (hf:f = "list") (ha:ao T a=.call .range es):cE T (.Call (.Name f p) [a] [] p') (.call .listRange es)
 |isBool {e:Expr}{f t:Str}{p p' AJ:Pos} (hg:T.isGlobal f=true) (hf:f = "isinstance") (ht:T.isGlobal t=true) (eS:t = "bool"):cE T (.Call (.Name f p) [e,.Name t p'] [] AJ) (.call .isBool (.cons (ao T e) .nil))
 |isInt {e:Expr}{f t:Str}{p p' AJ:Pos} (hg:T.isGlobal f=true) (hf:f = "isinstance") (ht:T.isGlobal t=true) (eS:t = "int"):cE T (.Call (.Name f p) [e,.Name t p'] [] AJ) (.call .isInt (.cons (ao T e) .nil))
 |user {f:Str}{g:Fn}{a:Expr}{as:List Expr}{p p':Pos} (hg:T.isGlobal f=true) (hl:gv.lookup f=some g):cE T (.Call (.Name f p) (a::as) [] p') (.call g (bf T (a::as)))
 |meth {o:Expr}{m:Str}{g:Fn}{as:List Expr}{ap p:Pos} (hl:iU.lookup m=some g) (ho:fe o as.length ap p=true):cE T (.Call (.Attribute o m ap) as [] p) (.call g (.cons (ao T o) (bf T as)))
 |values {o:Expr}{m:Str}{ap p:Pos} (hm:m = "values") (ho:fe o 0 ap p=true):cE T (.Call (.Attribute o m ap) [] [] p) (.call .values (.cons (ao T o) .nil))
 |comp {aD:Expr}{gens:List jae}{sc:jax}{p:Pos} (h:(sc.kind==.function&&AB sc.names&&gens.all (λg=>g.is_async==0)&&(qf sc).all T.celled&&oR (T.comp sc))=true):
  cE T (.ListComp aD gens sc p) (.comp (ey sc).length (iY T (T.comp sc) (ao (T.comp sc) aD) gens))
 |bad {e:Expr}:cE T e .bad
theorem l0 [Decidable c](h1:c->cE T e x)(h2:¬c->cE T e y):cE T e (if c then x else y):=by
 by_cases h:c
 ·rw[if_pos h];exact h1 h
 ·rw[if_neg h];exact h2 h
theorem WX {T:Tb}(hg:T.isGlobal f=true)(hf:f = "list") (as:List Expr):cE T (.Call (.Name f p) as [] pos) (Al (bf T as)):=by
 induction as using YZ with
 |nil=>exact .bad
 |cons a as =>
  show cE T _ (Al (.cons (ao T a) (bf T as)))
  induction h:ao T a using Ex.casesOn with
  |call g es =>
   induction as using YZ with
   |cons=>cases g<;>exact .bad
   |nil =>
    induction g using Fn.casesOn with
    |range=>exact .lrange hg hf h
    |values=>exact .vals hg hf h
    |_=>exact .bad
  |_=>exact .bad
theorem WW {T:Tb}(hg:T.isGlobal f=true)(hf:f = "isinstance") (as:List Expr):cE T (.Call (.Name f p) as [] pos) (match Ga T as with|some g=>Ac g (bf T as)|none=>.bad):=by
 induction as using YZ with
 |nil=>exact .bad
 |cons e as =>
  induction as using YZ with
  |nil=>exact .bad
  |cons b as =>
   induction b using ZR with
   |Name t p2 =>
    induction as using YZ with
    |cons=>exact .bad
    |nil =>
     show cE T _ (match(if T.isGlobal t&&t==("bool" : Str)then some Fn.isBool else if T.isGlobal t&&t==("int" : Str)then some .isInt else none)with|some g=>Ac g (bf T [e,_])|none=>.bad);by_cases h:(T.isGlobal t&&t==("bool" : Str))=true
     ·refine aa (if_pos h) ?_;exact cu h λh1 h2=>.isBool hg hf h1 (eq_of_beq h2)
     ·refine aa (if_neg h) ?_;by_cases h:(T.isGlobal t&&t==("int" : Str))=true
      ·refine aa (if_pos h) ?_;exact cu h λh1 h2=>.isInt hg hf h1 (eq_of_beq h2)
      ·refine aa (if_neg h) ?_;exact .bad
   |_=>exact .bad
theorem W2 (hg:T.isGlobal f=true):cE T (.Call (.Name f p) as [] pos) (match gv.lookup f with
 |some g=>if as.isEmpty then .bad else .call g (bf T as)
 |none=>.bad):=by
 induction h:gv.lookup f using ae with
 |none=>exact .bad
 |some g =>
  induction as using YZ with
  |nil=>exact .bad
  |cons=>exact .user hg h
theorem WY:cE T (.Call (.Attribute o m ap) as [] pos) (Au m (fe o as.length ap pos) (ao T o) as.isEmpty (bf T as)):=by
 refine l0 (λho=>l0 (λhm=>?_) λY=>?_) λY=>.bad
 ·induction as using YZ with
  |nil=>exact .values (eq_of_beq hm) ho
  |cons=>exact .bad
 ·induction h:iU.lookup m using ae with
  |none=>exact .bad
  |some g=>exact .meth h ho
theorem WZ:cE T (.Name x p) (match T.var x with
 |some i=>.var i
 |none=>if T.isGlobal x then(match sD.lookup x with|some g=>.glob g|none=>.bad)else .bad):=by
 induction h:T.var x using ae with
 |some i=>exact .var h
 |none =>
  refine l0 (λhg=>?_) λY=>.bad
  induction h:sD.lookup x using ae with
  |some g=>exact .glob hg h
  |none=>exact .bad
theorem Ig (T:Tb)(e:Expr):cE T e (ao T e):=by
 induction e using ZR with
 |Constant=>exact .c
 |Name=>exact WZ
 |BinOp=>exact .bin
 |UnaryOp=>exact .un
 |Compare a tx cs p =>
  induction tx using YZ with
  |nil=>exact .bad
  |cons op tx =>
   induction tx using YZ with
   |cons=>exact .bad
   |nil =>
    induction cs using YZ with
    |nil=>exact .bad
    |cons b cs =>
     induction cs using YZ with
     |cons=>exact .bad
     |nil=>exact l0 (λY=>.bad) λh=>.cmp (jfr.mpr h)
 |BoolOp op es p=>cases op<;>cases es<;>first|exact .bad|exact .and|exact .or
 |IfExp=>exact .ite
 |List=>exact .list
 |Tuple=>exact .tup
 |Dict=>exact l0 (λh=>.dict h) λY=>.bad
 |Subscript a i p =>
  induction i using ZR with
  |Slice lo hi st p' =>
   induction st using ae with
   |none=>exact .slice
   |some=>exact .idx
  |_=>exact .idx
 |Call f as kws p =>
  induction f using ZR with
  |Name f p' =>
   induction kws using YZ with
   |cons=>exact .bad
   |nil =>
    refine l0 (λhg=>?_) λY=>.bad;refine l0 (λhf=>WX hg (eq_of_beq hf) as) λY=>?_;exact l0 (λhf=>WW hg (eq_of_beq hf) as) λY=>W2 hg
  |Attribute o m ap =>
   induction kws using YZ with
   |cons=>exact .bad
   |nil=>exact WY
  |_=>exact .bad
 |ListComp=>exact l0 (λh=>.comp h) λY=>.bad
 |_=>exact .bad
def RI:Fn->Bool
 | .listVals | .listRange | .isBool | .isInt=>true
 |_=>false
def Ab:Fn->Bool
 | .values=>true
 |_=>false
def Ja (T:Tb)(e:Expr):Ex->Prop
 | .call f as=>(∃x p a bs pos,e=.Call (.Name x p) (a::bs) [] pos/\T.isGlobal x=true/\gv.lookup x=some f/\as=bf T (a::bs))\/(∃m,iU.lookup m=some f)\/RI f=true\/Ab f=true/\∃o m ap p,e=.Call (.Attribute o m ap) [] [] p/\m = "values" /\ fe o 0 ap p=true/\as=.cons (ao T o) .nil
 | .list es=>∃xs p,e=.List xs p/\es=bf T xs
 |_=>True
theorem wE (h:ao T e=x):Ja T e x:=by
 have t:=Ig T e;rw[h]at t;clear h;cases t with
 |user hg hl=>exact .inl ⟨_,_,_,_,_,rfl,hg,hl,rfl⟩
 |meth hl=>exact .inr (.inl ⟨_,hl⟩)
 |list=>exact⟨_,_,rfl,rfl⟩
 |vals|lrange|isBool|isInt=>exact .inr (.inr (.inl rfl))
 |values hm ho=>exact .inr (.inr (.inr ⟨rfl,_,_,_,_,rfl,hm,ho,rfl⟩))
 |_=>exact True.intro
def IX (e:Ex):It->Prop
 | .range as=>e=.call .range as
 | .rev a=>e=.call .reversed (.cons a .nil)
 | .val x=>x=e
theorem te (h:fR e=t):IX e t:=by
 subst h
 induction e using Ex.casesOn with
 |call f as =>
  induction f using Fn.casesOn with
  |range=>rfl
  |reversed =>
   cases as with
   |nil=>rfl
   |cons a as=>cases as<;>rfl
  |_=>rfl
 |_=>rfl
inductive rC (T T':Tb) (aD:Ex) (gs:List jae):jae->jX->Prop
 |bad {g:jae}:rC T T' aD gs g (.done .bad)
 |mk {x:Str}{px:Pos}{it:Expr}{ifs:List Expr}{i:Nat} (h:T'.own x=some i):rC T T' aD gs ⟨.Name x px,it,ifs,0⟩ (.cons i (fR (ao T it)) (bf T' ifs) (iX T' aD gs))
theorem Ie:rC T T' aD gs ⟨.Name x px,it,ifs,0⟩ (xL (T'.own x) (fR (ao T it)) (bf T' ifs) (iX T' aD gs)):=by
 induction h:T'.own x using ae with
 |none=>exact .bad
 |some i=>exact .mk h
theorem WK:rC T T aD gs g (iX T aD (g::gs)):=by
 obtain⟨t,it,ifs,n⟩:=g
 induction t using ZR with
 |Name x px =>
  induction n using Int.casesOn with
  |ofNat n =>
   induction n using jas with
   |zero=>exact Ie
   |succ=>exact .bad
  |negSucc=>exact .bad
 |_=>exact .bad
theorem WJ:rC T T' aD gs g (iY T T' aD (g::gs)):=by
 obtain⟨t,it,ifs,n⟩:=g
 induction t using ZR with
 |Name x px =>
  induction n using Int.casesOn with
  |ofNat n =>
   induction n using jas with
   |zero=>exact Ie
   |succ=>exact .bad
  |negSucc=>exact .bad
 |_=>exact .bad
inductive eI (T:Tb) (mu:List Str):Stmt->St->Prop
 |asg {x:Str}{px pos:Pos}{v:Expr}{i:Nat} (h:T.own x=some i):eI T mu (.Assign [.Name x px] v pos) (.asg i (mu.contains x&&eK v) (ao T v))
 |asgT {ts vs:List Expr}{k k2:Nat}{tp p2 pos:Pos}{xs:List Str}{is:List Nat} (h1:gh ts=some xs) (h2:T.vars? xs=some is)
  (h3:(vs.length==xs.length&&decide (vs.length<=1000)&&decide is.Nodup&&(!vs.all (jdf 8)||vs.all (jdx 8)))=true):eI T mu (.Assign [.Tuple ts k tp] (.Tuple vs k2 p2) pos) (.asgT (is.zip ((xs.zip vs).map λ(x,v)=>mu.contains x&&eK v)) (bf T vs))
 |unp {ts:List Expr}{v:Expr}{k:Nat}{tp pos:Pos}{xs:List Str}{is:List Nat} (h1:gh ts=some xs) (h2:T.vars? xs=some is) (hn:∀vs k p,v≠.Tuple vs k p):eI T mu (.Assign [.Tuple ts k tp] v pos) (.unp is (ao T v))
 |put {x:Str}{px sp pos:Pos}{k v:Expr}{i:Nat} (h:T.var x=some i):eI T mu (.Assign [.Subscript (.Name x px) k sp] v pos) (.put i (ao T k) (ao T v))
 |aug {x:Str}{px pos:Pos}{v:Expr}{op:Operator}{i:Nat} (h:T.own x=some i):eI T mu (.AugAssign (.Name x px) op v pos) (.aug i op (ao T v))
 |app {o e:Expr}{m:Str}{ap p q:Pos} (hm:m = "append") (ho:fe o 1 ap p=true):eI T mu (.Expr (.Call (.Attribute o m ap) [e] [] p) q) (.app (ao T o) (ao T e))
 |rev {o:Expr}{m:Str}{ap p q:Pos} (hm:m = "reverse") (ho:fe o 0 ap p=true):eI T mu (.Expr (.Call (.Attribute o m ap) [] [] p) q) (.rev (ao T o))
 |ife {c:Expr}{a b:List Stmt}{pos:Pos}:eI T mu (.If c a b pos) (.ife (ao T c) (em T mu a) (em T mu b))
 |for_ {x:Str}{px pos:Pos}{it:Expr}{body:List Stmt}{i:Nat} (h:T.own x=some i):eI T mu (.For (.Name x px) it body [] pos) (.for_ i (fR (ao T it)) (em T mu body))
 |while_ {c:Expr}{body:List Stmt}{pos:Pos}:eI T mu (.While c body [] pos) (.while_ (ao T c) (em T mu body))
 |ret {e:Expr}{pos:Pos}:eI T mu (.Return (some e) pos) (.ret (ao T e))
 |bad {st:Stmt}:eI T mu st .bad
theorem Ad [Decidable c](h1:c->eI T mu st x)(h2:¬c->eI T mu st y):eI T mu st (if c then x else y):=by
 by_cases h:c
 ·refine aa (if_pos h) ?_;exact h1 h
 ·refine aa (if_neg h) ?_;exact h2 h
theorem WR:eI T mu (.Assign [.Name x px] v pos) (match T.own x with
 |some i=>.asg i (mu.contains x&&eK v) (ao T v)
 |none=>.bad):=by
 induction h:T.own x using ae with
 |some i=>exact .asg h
 |none=>exact .bad
theorem WT:eI T mu (.Assign [.Tuple ts k tp] (.Tuple vs k2 p2) pos) (match gh ts with
 |some xs=>(match T.vars? xs with
  |some is=>if vs.length==xs.length&&decide (vs.length<=1000)&&decide is.Nodup&&(!vs.all (jdf 8)||vs.all (jdx 8))then .asgT (is.zip ((xs.zip vs).map λ(x,v)=>mu.contains x&&eK v)) (bf T vs)else .bad
  |none=>.bad)
 |none=>.bad):=by
 induction h:gh ts using ae with
 |none=>exact .bad
 |some xs =>
  dsimp only
  induction h2:T.vars? xs using ae with
  |none=>exact .bad
  |some is=>exact Ad (λh3=>.asgT h h2 h3) λY=>.bad
theorem WU (hn:∀vs k p,v≠.Tuple vs k p):eI T mu (.Assign [.Tuple ts k tp] v pos) (match gh ts with
 |some xs=>(match T.vars? xs with
  |some is=>.unp is (ao T v)
  |none=>.bad)
 |none=>.bad):=by
 induction h:gh ts using ae with
 |none=>exact .bad
 |some xs =>
  dsimp only
  induction h2:T.vars? xs using ae with
  |none=>exact .bad
  |some is=>exact .unp h h2 hn
theorem WS:eI T mu (.Assign [.Subscript (.Name x px) k sp] v pos) (match T.var x with
 |some i=>.put i (ao T k) (ao T v)
 |none=>.bad):=by
 induction h:T.var x using ae with
 |some i=>exact .put h
 |none=>exact .bad
theorem WP:eI T mu (.AugAssign (.Name x px) op v pos) (match T.own x with
 |some i=>.aug i op (ao T v)
 |none=>.bad):=by
 induction h:T.own x using ae with
 |some i=>exact .aug h
 |none=>exact .bad
theorem WQ:eI T mu (.For (.Name x px) it body [] pos) (D8 (T.own x) (fR (ao T it)) (em T mu body)):=by
 induction h:T.own x using ae with
 |some i=>exact .for_ h
 |none=>exact .bad
theorem WO (T:Tb)(mu:List Str)(st:Stmt):eI T mu st (oU T mu st):=by
 induction st using jgF with
 |Assign ts v pos =>
  induction ts using YZ with
  |nil=>exact .bad
  |cons t ts =>
   induction t using ZR with
   |Name x px =>
    induction ts using YZ with
    |nil=>exact WR
    |cons=>exact .bad
   |Tuple tZ k tp =>
    induction ts using YZ with
    |cons=>cases v<;>exact .bad
    |nil=>cases v<;>first|exact WT|exact WU λY Y Y q=>nomatch q
   |Subscript a k sp =>
    induction a using ZR with
    |Name x px =>
     induction ts using YZ with
     |nil=>exact WS
     |cons=>exact .bad
    |_=>exact .bad
   |_=>exact .bad
 |AugAssign t op v pos =>
  induction t using ZR with
  |Name x px=>exact WP
  |_=>exact .bad
 |Expr e q =>
  induction e using ZR with
  |Call f as kws p =>
   induction f using ZR with
   |Attribute o m ap =>
    induction kws using YZ with
    |cons=>exact .bad
    |nil =>
     induction as using YZ with
     |nil=>exact Ad (λh=>cu h λh1 h2=>.rev (eq_of_beq h1) h2) λY=>.bad
     |cons e as =>
      induction as using YZ with
      |nil=>exact Ad (λh=>cu h λh1 h2=>.app (eq_of_beq h1) h2) λY=>.bad
      |cons=>exact .bad
   |_=>exact .bad
  |_=>exact .bad
 |If=>exact .ife
 |For t it body orelse pos =>
  induction t using ZR with
  |Name x px =>
   induction orelse using YZ with
   |nil=>exact WQ
   |cons=>exact .bad
  |_=>exact .bad
 |While c body orelse pos =>
  induction orelse using YZ with
  |nil=>exact .while_
  |cons=>exact .bad
 |Return e pos =>
  induction e using ae with
  |some=>exact .ret
  |none=>exact .bad
 |_=>exact .bad
abbrev aA:=List AO
abbrev aB:=List (Option AV)
def aQ (σ:aA):AV->Option (List AV)
 | .lst vs=>some vs
 | .ref i=>match σ[i]? with
  |some (.list vs)=>some vs
  |_=>none
 |_=>none
def gH (σ:aA):AV->Option (List (Int×AV))
 | .dct es=>some es
 | .ref i=>match σ[i]? with
  |some (.dict es)=>some es
  |_=>none
 |_=>none
def oH (σ:aA):AV->Option (List AV)
 | .tup vs=>some vs
 | .str cs=>some (cs.map λc=>.str [c])
 | .dct es=>some (es.map λe=>.int e.1)
 |v=>aQ σ v
def bh {α β:Type}(f:α->Option β):List α->Option (List β)
 | []=>some []
 |a::as=>match f a with
  |some b=>match bh f as with
   |some bs=>some (b::bs)
   |none=>none
  |none=>none
def aY (σ:aA):Nat->AV->Option AV
 |0,_=>none
 |n+1,v=>match v with
  | .ref i=>match σ[i]? with
   |some (.list vs)=>(bh (aY σ n) vs).map .lst
   |some (.dict es)=>(bh (λe=>(aY σ n e.2).map (e.1,·)) es).map .dct
   |_=>none
  | .lst vs=>(bh (aY σ n) vs).map .lst
  | .tup vs=>(bh (aY σ n) vs).map .tup
  | .dct es=>(bh (λe=>(aY σ n e.2).map (e.1,·)) es).map .dct
  |v=>some v
def AV.scalar:AV->Bool
 | .none | .bool _ | .int _ | .flt _ | .str _=>true
 |_=>false
def AV.isRef:AV->Bool
 | .ref _=>true
 |_=>false
def eN (eq:AV->AV->Option Bool):List AV->List AV->Option Bool
 | [],[]=>some true
 |a::as,b::bs=>match eq a b with
  |some r=>match eN eq as bs with
   |some q=>some (r&&q)
   |none=>none
  |none=>none
 |_,_=>some false
def cJ:AV->AV->Option Bool
 | .int i,.int j=>some (decide (i=j))
 | .flt x,.flt y=>if Z9 x x==some .eq then some (Z9 x y==some .eq)else none
 | .flt x,.int j=>some (jbt x j==some .eq)
 | .int i,.flt y=>some (jbt y i==some .eq)
 | .str x,.str y=>some (decide (x=y))
 |_,_=>none
def jA (σ:aA)(a b:AV):Option Bool :=
 match a,b with
 | .tup as,.tup bs=>if as.length=bs.length then eN cJ as bs else none
 | .tup _,_=>none
 |_,.tup _=>none
 |a,b=>match aQ σ a with
  |some as=>match aQ σ b with
   |some bs=>if as.length=bs.length then eN cJ as bs else some false
   |none=>none
  |none=>cJ a b
def small (a:Int):Bool:=decide (a.natAbs<2^64)
def Bs (a:Int):Bool:=decide (a.natAbs<2^4096)
def hJ (a:Int):Bool:=decide (a.natAbs<2^53)
def dE (σ:aA)(op:Operator)(a b:AV):Option AV :=
 match op,a,b with
 | .Add,.int i,.int j=>some (.int (i+j))
 | .Sub,.int i,.int j=>some (.int (i-j))
 | .Mult,.int i,.int j=>if small i||small j then some (.int (i*j))else none
 | .FloorDiv,.int i,.int j=>if j=0\/!small j then none else some (.int (i.fdiv j))
 | .Mod,.int i,.int j=>if j=0 then none else some (.int (i.fmod j))
 | .Pow,.int i,.int j=>if 0<=j/\j<=1000/\small i then some (.int (i^j.toNat))else none
 | .LShift,.int i,.int j=>if 0<=j/\j<=1000000/\Bs i then some (.int (i*2^j.toNat))else none
 | .RShift,.int i,.int j=>if 0<=j/\j<=1000000 then some (.int (i.fdiv (2^j.toNat)))else none
 | .BitXor,.int i,.int j=>some (.int (jfK i j))
 | .Div,.int i,.int j=>if j=0\/jdP (Z5 (decide (i<0) != decide (j<0)) i.natAbs j.natAbs)then none else some (.flt (Z5 (decide (i<0) != decide (j<0)) i.natAbs j.natAbs))
 | .Div,.flt x,.flt y=>if Z2 y then none else some (.flt (Z8 x y))
 | .Add,.flt x,.flt y=>some (.flt (Z4 x y))
 | .Add,.int i,.flt y=>if hJ i then some (.flt (Z4 (jaL i) y))else none
 | .Sub,.flt x,.flt y=>some (.flt (ZA x y))
 | .Sub,.flt x,.int j=>if hJ j then some (.flt (ZA x (jaL j)))else none
 | .Mult,.flt x,.flt y=>some (.flt (jaA x y))
 | .Mod,.flt x,.flt y=>if Z2 y then none else some (.flt (jdw x y).2)
 | .Add,.str x,.str y=>if x.length+y.length<=100000 then some (.str (x++y))else none
 | .Add,.tup x,.tup y=>if x.length+y.length<=100000 then some (.tup (x++y))else none
 | .Add,a,b=>match aQ σ a,aQ σ b with
  |some x,some y=>if x.length+y.length<=100000 then some (.lst (x++y))else none
  |_,_=>none
 |_,_,_=>none
def qV (op:UnaryOp)(a:AV):Option AV :=
 match op,a with
 | .USub,.int i=>some (.int (-i))
 | .Invert,.int i=>some (.int (-i-1))
 | .Not,.bool b=>some (.bool (!b))
 |_,_=>none
def Aa:AV->Option Int
 | .int i=>some i
 |_=>none
def cQ:List AV->Option (List Int):=bh Aa
def ni (i:Int)(vs:List AV):Option Bool:=(cQ vs).map λis=>is.any (·==i)
def cA:List (List Nat×Int):=[([40],7),([41],8),([91],9),([93],10),([58],11),([44],12),([59],13),([43],14),([45],15),([42],16),([47],17),([124],18),([38],19),([60],20),([62],21),([61],22),([46],23),([37],24),([123],25),([125],26),([61,61],27),([33,61],28),([60,61],29),([62,61],30),([126],31),([94],32),([60,60],33),([62,62],34),([42,42],35),([43,61],36),([45,61],37),([42,61],38),([47,61],39),([37,61],40),([38,61],41),([124,61],42),([94,61],43),([60,60,61],44),([62,62,61],45),([42,42,61],46),([47,47],47),([47,47,61],48),([64],49),([64,61],50),([45,62],51),([46,46,46],52),([58,61],53),([33],54)]
def j3 (σ:aA)(op:CmpOp)(a b:AV):Option Bool :=
 match op,a,b with
 | .Eq,a,b=>jA σ a b
 | .NotEq,a,b=>(jA σ a b).map (!·)
 | .Lt,.int i,.int j=>some (decide (i<j))
 | .LtE,.int i,.int j=>some (decide (i<=j))
 | .Gt,.int i,.int j=>some (decide (j<i))
 | .GtE,.int i,.int j=>some (decide (j<=i))
 | .LtE,.flt x,.flt y=>some (Z9 x y==some .lt||Z9 x y==some .eq)
 | .Is,.bool x,.bool y=>some (x==y)
 | .IsNot,.bool x,.bool y=>some (!(x==y))
 | .In,.str x,.tok=>some (cA.lookup x).isSome
 | .In,.int i,l=>match aQ σ l with
  |some vs=>ni i vs
  |none=>none
 | .NotIn,.int i,l=>match aQ σ l with
  |some vs=>(ni i vs).map (!·)
  |none=>none
 |_,_,_=>none
def fO (k:Int)(n:Nat):Option Nat:=if hJ k then jfj k n else none
def m9 (σ:aA)(a i:AV):Option AV :=
 match a,i with
 | .tup vs,.int k=>(fO k vs.length).bind λj=>vs[j]?
 | .str cs,.int k=>(fO k cs.length).bind λj=>cs[j]?.map λc=>.str [c]
 |a,.int k=>match aQ σ a with
  |some vs=>(fO k vs.length).bind λj=>vs[j]?
  |none=>match gH σ a with
   |some es=>es.lookup k
   |none=>none
 |_,_=>none
def md (σ:aA)(f:{α:Type}->List α->List α)(a:AV):Option AV :=
 match a with
 | .str cs=>if cs.length<=100000 then some (.str (f cs))else none
 |a=>match aQ σ a with
  |some vs=>if vs.length<=100000 then some (.lst (f vs))else none
  |none=>none
def qQ (σ:aA)(a:AV)(lo hi:Option Int):Option AV :=
 match lo,hi with
 |none,some h=>if 0<=h then md σ (λl=>l.take h.toNat) a else none
 |some l,none=>if 0<=l then md σ (λxs=>xs.drop l.toNat) a else none
 |_,_=>none
def ek:List Int->Int
 | []=>0
 |i::is=>i+ek is
def tM (vs:List AV):Option Int:=match cQ vs with
 |some is=>if is.all (λi=>decide (0<=i))=true/\ek is<2^53 then some (ek is)else none
 |none=>none
def gz (i:Int):List Int->Int
 | []=>i
 |j::js=>gz (if i<j then j else i) js
def gP (a c:Int):Nat->List Int
 |0=>[]
 |n+1=>a::gP (a+c) c n
def fQ (a b c:Int):Option (List Int):=if 0<c/\small c=true/\jef a b c=true/\jaD a b c<=100000 then some (gP a c (jaD a b c).toNat)else none
def nt:List AV->Option (List Int)
 | [.int b]=>fQ 0 b 1
 | [.int a,.int b]=>fQ a b 1
 | [.int a,.int b,.int c]=>fQ a b c
 |_=>none
def gK (x y:UInt64):Bool:=Z9 x y==some .gt
def gL (x y:UInt64):Bool:=Z9 x y==some .lt
abbrev cX:=Nat->List AV->Option AV
def fL (n:Nat):Option AV:=if n<=100000 then some (.int n)else none
def rQ (σ:aA):List AV->Option AV
 | [.str cs]=>fL cs.length
 | [.dct es]=>fL es.length
 | [l]=>match aQ σ l with
  |some vs=>fL vs.length
  |none=>none
 |_=>none
def xA (σ:aA):List AV->Option AV
 | [l]=>match aQ σ l with
  |some vs=>(tM vs).map .int
  |none=>none
 |_=>none
def xx (σ:aA):List AV->Option AV
 | [.int i,.int j]=>some (.int (if i<j then j else i))
 | [.flt x,.flt y,.flt z]=>some (.flt (if gK z (if gK y x then y else x)then z else(if gK y x then y else x)))
 | [l]=>match aQ σ l with
  |some vs=>match cQ vs with
   |some (i::js)=>some (.int (gz i js))
   |_=>none
  |none=>none
 |_=>none
def xy:List AV->Option AV
 | [.int i,.int j]=>some (.int (if j<i then j else i))
 | [.flt x,.flt y,.flt z]=>some (.flt (if gL z (if gL y x then y else x)then z else(if gL y x then y else x)))
 |_=>none
def xz:List AV->Option AV
 | [.str [c]]=>some (.int c)
 |_=>none
def xu:List AV->Option AV
 | [.int i]=>if 0<=i/\i<=0x10FFFF then some (.str [i.toNat])else none
 |_=>none
def rP:List AV->Option AV
 | [.flt x]=>match jci x with
  | .fin jR m e=>some (.int (jel jR m e))
  |_=>none
 |_=>none
def xw:List AV->Option AV
 | [.int i,.int j]=>if j=0\/!small j then none else some (.tup [.int (i.fdiv j),.int (i.fmod j)])
 |_=>none
def uE:List AV->Option AV
 | [.int _]=>some (.bool false)
 |_=>none
def uF:List AV->Option AV
 | [.int _]=>some (.bool true)
 |_=>none
def uC:List AV->Option AV
 | [.int i]=>some (.int (Zj i))
 |_=>none
def bp (cs:List Nat):Str:=⟨cs.toArray⟩
def nO (σ:aA):List AV->Option AV
 | [.str x,.str y]=>match jaq (bp x) (bp y) 0 (bp x).length 1 with
  |k::_=>some (.int k)
  | []=>none
 | [l,.int i]=>match aQ σ l with
  |some vs=>match cQ vs with
   |some is=>match is.findIdx? (·==i)with
    |some k=>if k<=100000 then some (.int k)else none
    |none=>none
   |none=>none
  |none=>none
 |_=>none
def mC:List AV->Option AV
 | [.str x,.str y]=>some (.int (match jaq (bp x) (bp y) 0 (bp x).length 1 with|k::_=>(k:Int) | []=>-1))
 |_=>none
def ip:List AV->Option (List (List Nat))
 | []=>some []
 | .str x::vs=>(ip vs).map (x::·)
 |_=>none
def uG (σ:aA):List AV->Option AV
 | [.str [],l]=>match aQ σ l with
  |some vs=>match ip vs with
   |some xs=>if xs.flatten.length<=100000 then some (.str xs.flatten)else none
   |none=>none
  |none=>none
 |_=>none
def rR:List AV->Option AV
 | [.str x]=>if(bp x).length<=100000/\(jcu (bp x) ((bp x).length+1)).length<=100000/\(jcu (bp x) ((bp x).length+1)==[(0,(bp x).length)])=false then
  some (.lst ((wordsOf (bp x)).map λy=>.str y.cps.toList))else none
 |_=>none
def pE (σ:aA):List AV->Option AV
 | [l,.int i]=>match aQ σ l with
  |some vs=>match cQ vs with
   |some is=>some (.int (is.countP (·==i)))
   |none=>none
  |none=>none
 |_=>none
def uD (σ:aA):List AV->Option AV
 | [.tok,.str x,d]=>some (match cA.lookup x with|some k=>.int k|none=>d)
 | [.ref j,.int k,d]=>match gH σ (.ref j)with
  |some es=>some (match es.lookup k with|some v=>v|none=>d)
  |none=>none
 |_=>none
def nP (Φ:cX)(σ:aA)(k:Nat)(as:List AV):Option AV:=match bh (aY [] 6) as with
 |some bs=>Φ k bs
 |none=>match bh (aY σ 6) as with
  |some bs=>match Φ k bs with
   |some r=>if r.scalar then some r else none
   |none=>none
  |none=>none
def nR (Φ:cX)(σ:aA)(f:Fn)(as:List AV):Option AV :=
 match f with
 | .len=>rQ σ as
 | .sum=>xA σ as
 | .max=>xx σ as
 | .min=>xy as
 | .listVals=>match as with
  | [.dct es]=>if es.length<=100000 then some (.lst (es.map (·.2)))else none
  |_=>none
 | .listRange=>(nt as).map λis=>.lst (is.map .int)
 | .ord=>xz as
 | .chr=>xu as
 | .int=>rP as
 | .divmod=>xw as
 | .isBool=>uE as
 | .isInt=>uF as
 | .bitLength=>uC as
 | .index=>nO σ as
 | .find=>mC as
 | .join=>uG σ as
 | .split=>rR as
 | .count=>pE σ as
 | .get=>uD σ as
 | .user k=>nP Φ σ k as
 |_=>none
def xM:Const->Option AV
 | .none=>some .none
 | .bool b=>some (.bool b)
 | .int i=>some (.int i)
 | .float x=>some (.flt x)
 | .str x=>some (.str x.cps.toList)
 |_=>none
def sC:uj->AV
 | .divLimit=>.int 4000
 | .ntOffset=>.int 256
 | .endMarker=>.int 0
 | .tok=>.tok
def fZ {α β:Type}(f:α->Option (List β)):List α->Option (List β)
 | []=>some []
 |a::as=>match f a with
  |some bs=>match fZ f as with
   |some cs=>some (bs++cs)
   |none=>none
  |none=>none
def sE:Option (List AV)->Option (List AV)
 |some r=>if r.length<=100000 then some r else none
 |none=>none
section
variable (Φ:cX)(σ:aA)
mutual
noncomputable def ev (ρ:aB):Ex->Option AV
 | .c v=>xM v
 | .var i=>match ρ[i]? with
  |some v=>v
  |none=>none
 | .glob g=>some (sC g)
 | .bin op a b=>match ev ρ a with
  |some x=>match ev ρ b with
   |some y=>dE σ op x y
   |none=>none
  |none=>none
 | .un op a=>match ev ρ a with
  |some x=>qV op x
  |none=>none
 | .cmp op a b=>match ev ρ a with
  |some x=>match ev ρ b with
   |some y=>(j3 σ op x y).map .bool
   |none=>none
  |none=>none
 | .and es=>(cS ρ es).map .bool
 | .or es=>(kT ρ es).map .bool
 | .ite c a b=>match ev ρ c with
  |some (.bool true)=>ev ρ a
  |some (.bool false)=>ev ρ b
  |_=>none
 | .list es=>match bX ρ es with
  |some vs=>if vs.length<=100000 then some (.lst vs)else none
  |none=>none
 | .tup es=>match bX ρ es with
  |some vs=>if vs.length<=100000 then some (.tup vs)else none
  |none=>none
 | .dict (.cons k .nil) (.cons v .nil)=>match ev ρ k with
  |some (.int i)=>match ev ρ v with
   |some x=>if x.scalar then some (.dct [(i,x)])else none
   |none=>none
  |_=>none
 | .dict _ _=>none
 | .idx a i=>match ev ρ a with
  |some x=>match ev ρ i with
   |some y=>m9 σ x y
   |none=>none
  |none=>none
 | .slice a lo hi=>match ev ρ a with
  |some x=>match fG ρ lo with
   |some l=>match fG ρ hi with
    |some h=>qQ σ x l h
    |none=>none
   |none=>none
  |none=>none
 | .call f as=>match bX ρ as with
  |some vs=>nR Φ σ f vs
  |none=>none
 | .comp n gs=>(fF ρ n gs).map .lst
 | .bad=>none
noncomputable def dU (ρ:aB):It->Option (List AV)
 | .range as=>match bX ρ as with
  |some vs=>(nt vs).map λis=>is.map AV.int
  |none=>none
 | .rev _=>none
 | .val e=>match ev ρ e with
  |some x=>oH σ x
  |none=>none
noncomputable def bX (ρ:aB):bV->Option (List AV)
 | .nil=>some []
 | .cons e es=>match ev ρ e with
  |some v=>match bX ρ es with
   |some vs=>some (v::vs)
   |none=>none
  |none=>none
noncomputable def cS (ρ:aB):bV->Option Bool
 | .nil=>some true
 | .cons e es=>match ev ρ e with
  |some (.bool true)=>cS ρ es
  |some (.bool false)=>some false
  |_=>none
noncomputable def kT (ρ:aB):bV->Option Bool
 | .nil=>some false
 | .cons e es=>match ev ρ e with
  |some (.bool false)=>kT ρ es
  |some (.bool true)=>some true
  |_=>none
noncomputable def fG (ρ:aB):ui->Option (Option Int)
 | .none=>some none
 | .some e=>match ev ρ e with
  |some (.int i)=>some (some i)
  |_=>none
noncomputable def fF (ρ:aB)(n:Nat):jX->Option (List AV)
 | .cons x it ifs az=>match dU ρ it with
  |some vs=>match(ρ++Ze n none)[x]? with
   |some none=>if vs.length<=100000 then sE (fZ (λv=>match cS ((ρ++Ze n none).set x (some v)) ifs with
    |some true=>g8 ((ρ++Ze n none).set x (some v)) az
    |some false=>some []
    |none=>none) vs)else none
   |_=>none
  |none=>none
 | .done _=>none
noncomputable def g8 (ρ:aB):jX->Option (List AV)
 | .done aD=>(ev ρ aD).map λv=>[v]
 | .cons x it ifs az=>match dU ρ it with
  |some vs=>match ρ[x]? with
   |some none=>if vs.length<=100000 then fZ (λv=>match cS (ρ.set x (some v)) ifs with
    |some true=>g8 (ρ.set x (some v)) az
    |some false=>some []
    |none=>none) vs else none
   |_=>none
  |none=>none
end
end
section
variable {σ:aA}{C:Operator->AV->AV->AV->Prop}{r:AV}
theorem JL {a b:AV}(h6:∀a b x y,aQ σ a=some x->aQ σ b=some y->x.length+y.length<=100000->C .Add a b (.lst (x++y)))(e:(match aQ σ a,aQ σ b with
 |some x,some y=>if x.length+y.length<=100000 then some (AV.lst (x++y))else none
 |_,_=>none)=some r):C .Add a b r:=by
 induction hx:aQ σ a using ae with
 |none=>rw[hx]at e;exact ai e
 |some x =>
  induction hy:aQ σ b using ae with
  |none=>rw[hx,hy]at e;exact ai e
  |some y=>rw[hx,hy]at e;exact bR e λhl e=>aG e (h6 _ _ x y hx hy hl)
theorem JK (h1:∀i j,C .Add (.int i) (.int j) (.int (i+j)))(h2:∀x y,C .Add (.flt x) (.flt y) (.flt (Z4 x y)))(h3:∀i y,hJ i=true->C .Add (.int i) (.flt y) (.flt (Z4 (jaL i) y)))
 (h4:∀x y,x.length+y.length<=100000->C .Add (.str x) (.str y) (.str (x++y))) (h5:∀x y,x.length+y.length<=100000->C .Add (.tup x) (.tup y) (.tup (x++y)))
 (h6:∀a b x y,aQ σ a=some x->aQ σ b=some y->x.length+y.length<=100000->C .Add a b (.lst (x++y))) {a b:AV} (e:dE σ .Add a b=some r):C .Add a b r:=by
 induction a using AV.casesOn with
 |int i =>
  induction b using AV.casesOn with
  |int j=>exact aG e (h1 i j)
  |flt y=>exact bR e λhf e=>aG e (h3 i y hf)
  |_=>exact ai e
 |flt x =>
  induction b using AV.casesOn with
  |flt y=>exact aG e (h2 x y)
  |_=>exact ai e
 |str x =>
  induction b using AV.casesOn with
  |str y=>exact bR e λhl e=>aG e (h4 x y hl)
  |_=>exact ai e
 |tup x =>
  induction b using AV.casesOn with
  |tup y=>exact bR e λhl e=>aG e (h5 x y hl)
  |_=>exact ai e
 |_=>exact JL h6 e
theorem JO {op:Operator}{a b:AV}(Pf:∀a b,dE σ .Add a b=some r->C .Add a b r)
 (h1:∀i j,C .Sub (.int i) (.int j) (.int (i-j))) (h2:∀i j,(small i||small j)=true->C .Mult (.int i) (.int j) (.int (i*j))) (h3:∀i j,¬(j=0\/(!small j)=true)->C .FloorDiv (.int i) (.int j) (.int (i.fdiv j)))
 (h4:∀i j,¬j=0->C .Mod (.int i) (.int j) (.int (i.fmod j))) (h5:∀i j,0<=j/\j<=1000/\small i=true->C .Pow (.int i) (.int j) (.int (i^j.toNat))) (h6:∀i j,0<=j/\j<=1000000/\Bs i=true->C .LShift (.int i) (.int j) (.int (i*2^j.toNat)))
 (h7:∀i j,0<=j/\j<=1000000->C .RShift (.int i) (.int j) (.int (i.fdiv (2^j.toNat)))) (h8:∀i j,C .BitXor (.int i) (.int j) (.int (jfK i j)))
 (h9:∀i j,¬(j=0\/jdP (Z5 (decide (i<0) != decide (j<0)) i.natAbs j.natAbs)=true)->C .Div (.int i) (.int j) (.flt (Z5 (decide (i<0) != decide (j<0)) i.natAbs j.natAbs)))
 (lT:∀x y,¬Z2 y=true->C .Div (.flt x) (.flt y) (.flt (Z8 x y))) (kY:∀x y,C .Sub (.flt x) (.flt y) (.flt (ZA x y))) (sF:∀x j,hJ j=true->C .Sub (.flt x) (.int j) (.flt (ZA x (jaL j))))
 (sG:∀x y,C .Mult (.flt x) (.flt y) (.flt (jaA x y))) (kZ:∀x y,¬Z2 y=true->C .Mod (.flt x) (.flt y) (.flt (jdw x y).2)) (e:dE σ op a b=some r):C op a b r:=by
 induction op using jdy with
 |Add=>exact Pf a b e
 |Sub =>
  induction a using AV.casesOn with
  |int i =>
   induction b using AV.casesOn with
   |int j=>exact aG e (h1 i j)
   |_=>exact ai e
  |flt x =>
   induction b using AV.casesOn with
   |int j=>exact bR e λhf e=>aG e (sF x j hf)
   |flt y=>exact aG e (kY x y)
   |_=>exact ai e
  |_=>exact ai e
 |Mult =>
  induction a using AV.casesOn with
  |int i =>
   induction b using AV.casesOn with
   |int j=>exact bR e λhf e=>aG e (h2 i j hf)
   |_=>exact ai e
  |flt x =>
   induction b using AV.casesOn with
   |flt y=>exact aG e (sG x y)
   |_=>exact ai e
  |_=>exact ai e
 |Mod =>
  induction a using AV.casesOn with
  |int i =>
   induction b using AV.casesOn with
   |int j=>exact mG e λhf e=>aG e (h4 i j hf)
   |_=>exact ai e
  |flt x =>
   induction b using AV.casesOn with
   |flt y=>exact mG e λhf e=>aG e (kZ x y hf)
   |_=>exact ai e
  |_=>exact ai e
 |Div =>
  induction a using AV.casesOn with
  |int i =>
   induction b using AV.casesOn with
   |int j=>exact mG e λhf e=>aG e (h9 i j hf)
   |_=>exact ai e
  |flt x =>
   induction b using AV.casesOn with
   |flt y=>exact mG e λhf e=>aG e (lT x y hf)
   |_=>exact ai e
  |_=>exact ai e
 |FloorDiv =>
  induction a using AV.casesOn with
  |int i =>
   induction b using AV.casesOn with
   |int j=>exact mG e λhf e=>aG e (h3 i j hf)
   |_=>exact ai e
  |_=>exact ai e
 |Pow =>
  induction a using AV.casesOn with
  |int i =>
   induction b using AV.casesOn with
   |int j=>exact bR e λhf e=>aG e (h5 i j hf)
   |_=>exact ai e
  |_=>exact ai e
 |LShift =>
  induction a using AV.casesOn with
  |int i =>
   induction b using AV.casesOn with
   |int j=>exact bR e λhf e=>aG e (h6 i j hf)
   |_=>exact ai e
  |_=>exact ai e
 |RShift =>
  induction a using AV.casesOn with
  |int i =>
   induction b using AV.casesOn with
   |int j=>exact bR e λhf e=>aG e (h7 i j hf)
   |_=>exact ai e
  |_=>exact ai e
 |BitXor =>
  induction a using AV.casesOn with
  |int i =>
   induction b using AV.casesOn with
   |int j=>exact aG e (h8 i j)
   |_=>exact ai e
  |_=>exact ai e
 |_=>exact ai e
end
section
variable {σ:aA}{r:Bool}
theorem xW {C:AV->AV->Bool->Prop}{a b:AV}(h1:∀i j,C (.int i) (.int j) (decide (i=j)))(h2:∀x y,(Z9 x x==some .eq)=true->C (.flt x) (.flt y) (Z9 x y==some .eq))(h3:∀x j,C (.flt x) (.int j) (jbt x j==some .eq))
 (h4:∀i y,C (.int i) (.flt y) (jbt y i==some .eq)) (h5:∀x y,C (.str x) (.str y) (decide (x=y))) (e:cJ a b=some r):C a b r:=by
 induction a using AV.casesOn with
 |int i =>
  induction b using AV.casesOn with
  |int j=>exact aG e (h1 i j)
  |flt y=>exact aG e (h4 i y)
  |_=>exact ai e
 |flt x =>
  induction b using AV.casesOn with
  |flt y=>exact bR e λh e=>aG e (h2 x y h)
  |int j=>exact aG e (h3 x j)
  |_=>exact ai e
 |str x =>
  induction b using AV.casesOn with
  |str y=>exact aG e (h5 x y)
  |_=>exact ai e
 |_=>exact ai e
theorem Mj {C:AV->AV->Bool->Prop}{a b:AV}(h2:∀a b as bs r,aQ σ a=some as->aQ σ b=some bs->as.length=bs.length->eN cJ as bs=some r->C a b r)
 (h3:∀a b as bs,aQ σ a=some as->aQ σ b=some bs->¬as.length=bs.length->C a b false) (h4:∀a b r,cJ a b=some r->C a b r) (e:(match aQ σ a with
 |some as=>match aQ σ b with
  |some bs=>if as.length=bs.length then eN cJ as bs else some false
  |none=>none
 |none=>cJ a b)=some r):C a b r:=by
 induction hx:aQ σ a using ae with
 |none=>rw[hx]at e;exact h4 a b r e
 |some as =>
  induction hy:aQ σ b using ae with
  |none=>rw[hx,hy]at e;exact ai e
  |some bs =>
   rw[hx,hy]at e;have e:(if as.length=bs.length then eN cJ as bs else some false)=some r:=e;by_cases h:as.length=bs.length
   ·rw[if_pos h]at e;exact h2 a b as bs r hx hy h e
   ·rw[if_neg h]at e;exact aG e (h3 a b as bs hx hy h)
theorem CY {C:AV->AV->Bool->Prop}{a b:AV}(h1:∀as bs r,as.length=bs.length->eN cJ as bs=some r->C (.tup as) (.tup bs) r)(h2:∀a b as bs r,aQ σ a=some as->aQ σ b=some bs->as.length=bs.length->eN cJ as bs=some r->C a b r)
 (h3:∀a b as bs,aQ σ a=some as->aQ σ b=some bs->¬as.length=bs.length->C a b false) (h4:∀a b r,cJ a b=some r->C a b r) (e:jA σ a b=some r):C a b r:=by
 induction a using AV.casesOn with
 |tup as =>
  induction b using AV.casesOn with
  |tup bs=>exact bR e λh e=>h1 as bs r h e
  |_=>exact ai e
 |_ =>
  induction b using AV.casesOn with
  |tup bs=>exact ai e
  |_=>exact Mj h2 h3 h4 e
theorem GJ {i:Int}{vs:List AV}{Q:Bool->Prop}(e:ni i vs=some r)(k:∀is,cQ vs=some is->Q (is.any (·==i))):Q r:=by
 refine au (Zp.mp e) λis h e=>?_;exact e▸k is h
theorem KY {C:CmpOp->AV->AV->Bool->Prop}{op:CmpOp}{a b:AV}(h1:∀a b r,jA σ a b=some r->C .Eq a b r)(h2:∀a b r,jA σ a b=some r->C .NotEq a b (!r))(h3:∀i j,C .Lt (.int i) (.int j) (decide (i<j)))(h4:∀i j,C .LtE (.int i) (.int j) (decide (i<=j)))
 (h5:∀i j,C .Gt (.int i) (.int j) (decide (j<i))) (h6:∀i j,C .GtE (.int i) (.int j) (decide (j<=i))) (h7:∀x y,C .LtE (.flt x) (.flt y) (Z9 x y==some .lt||Z9 x y==some .eq)) (h8:∀x y,C .Is (.bool x) (.bool y) (x==y)) (h9:∀x y,C .IsNot (.bool x) (.bool y) (!(x==y)))
 (lT:∀x,C .In (.str x) .tok (cA.lookup x).isSome) (kY:∀i l vs is,aQ σ l=some vs->cQ vs=some is->C .In (.int i) l (is.any (·==i))) (sF:∀i l vs is,aQ σ l=some vs->cQ vs=some is->C .NotIn (.int i) l (!is.any (·==i))) (e:j3 σ op a b=some r):C op a b r:=by
 induction op using PySem.CmpOp.casesOn with
 |Eq=>exact h1 a b r e
 |NotEq=>exact lP (f:=(!·)) e λq h=>h2 a b q h
 |Lt =>
  induction a using AV.casesOn with
  |int i =>
   induction b using AV.casesOn with
   |int j=>exact aG e (h3 i j)
   |_=>exact ai e
  |_=>exact ai e
 |LtE =>
  induction a using AV.casesOn with
  |int i =>
   induction b using AV.casesOn with
   |int j=>exact aG e (h4 i j)
   |_=>exact ai e
  |flt x =>
   induction b using AV.casesOn with
   |flt y=>exact aG e (h7 x y)
   |_=>exact ai e
  |_=>exact ai e
 |Gt =>
  induction a using AV.casesOn with
  |int i =>
   induction b using AV.casesOn with
   |int j=>exact aG e (h5 i j)
   |_=>exact ai e
  |_=>exact ai e
 |GtE =>
  induction a using AV.casesOn with
  |int i =>
   induction b using AV.casesOn with
   |int j=>exact aG e (h6 i j)
   |_=>exact ai e
  |_=>exact ai e
 |Is =>
  induction a using AV.casesOn with
  |bool x =>
   induction b using AV.casesOn with
   |bool y=>exact aG e (h8 x y)
   |_=>exact ai e
  |_=>exact ai e
 |IsNot =>
  induction a using AV.casesOn with
  |bool x =>
   induction b using AV.casesOn with
   |bool y=>exact aG e (h9 x y)
   |_=>exact ai e
  |_=>exact ai e
 |In =>
  induction a using AV.casesOn with
  |int i =>
   have e:(match aQ σ b with|some vs=>ni i vs|none=>none)=some r:=by cases b<;>exact e
   induction hl:aQ σ b using ae with
   |none=>rw[hl]at e;exact ai e
   |some vs=>rw[hl]at e;exact GJ e λis h=>kY i b vs is hl h
  |str x =>
   induction b using AV.casesOn with
   |tok=>exact aG e (lT x)
   |_=>exact ai e
  |_=>exact ai e
 |NotIn =>
  induction a using AV.casesOn with
  |int i =>
   have e:(match aQ σ b with|some vs=>(ni i vs).map (!·)|none=>none)=some r:=e
   induction hl:aQ σ b using ae with
   |none=>rw[hl]at e;exact ai e
   |some vs=>rw[hl]at e;exact lP (f:=(!·)) e λq h=>GJ (Q:=λq=>C .NotIn (.int i) b (!q)) h λis h=>sF i b vs is hl h
  |_=>exact ai e
theorem Xg {C:UnaryOp->AV->AV->Prop}{op:UnaryOp}{a r:AV}(h1:∀i,C .USub (.int i) (.int (-i)))(h2:∀i,C .Invert (.int i) (.int (-i-1)))(h3:∀b,C .Not (.bool b) (.bool (!b)))(e:qV op a=some r):C op a r:=by
 induction op using jfA with
 |USub =>
  induction a using AV.casesOn with
  |int i=>exact aG e (h1 i)
  |_=>exact ai e
 |Invert =>
  induction a using AV.casesOn with
  |int i=>exact aG e (h2 i)
  |_=>exact ai e
 |Not =>
  induction a using AV.casesOn with
  |bool b=>exact aG e (h3 b)
  |_=>exact ai e
 |_=>exact ai e
end
section
variable {σ:aA}{C:List AV->AV->Prop}{as:List AV}{r:AV}
theorem qz {a:AV}{F:List AV->Option AV}{Q:Prop}(e:(match aQ σ a with|some vs=>F vs|none=>none)=some r)(k:∀vs,aQ σ a=some vs->F vs=some r->Q):Q:=by
 induction h:aQ σ a using ae with
 |none=>rw[h]at e;exact ai e
 |some vs=>rw[h]at e;exact k vs h e
theorem z9 {vs:List AV}{F:List Int->Option AV}{Q:Prop}(e:(match cQ vs with|some is=>F is|none=>none)=some r)(k:∀is,cQ vs=some is->F is=some r->Q):Q:=by
 induction h:cQ vs using ae with
 |none=>rw[h]at e;exact ai e
 |some is=>rw[h]at e;exact k is h e
theorem Kq (h1:∀cs,cs.length<=100000->C [.str cs] (.int cs.length))(h2:∀es,es.length<=100000->C [.dct es] (.int es.length))(h3:∀l vs,aQ σ l=some vs->vs.length<=100000->C [l] (.int vs.length))(e:rQ σ as=some r):C as r:=by
 induction as using YZ with
 |nil=>exact ai e
 |cons a as =>
  have hl:(match aQ σ a with|some vs=>fL vs.length|none=>none)=some r->C [a] r:=λe=>qz e λvs hv e=>bR e λhl e=>aG e (h3 a vs hv hl)
  induction as using YZ with
  |cons b as=>cases a<;>exact ai e
  |nil =>
   induction a using AV.casesOn with
   |str cs=>exact bR e λhl e=>aG e (h1 cs hl)
   |dct es=>exact bR e λhl e=>aG e (h2 es hl)
   |_=>exact hl e
theorem Kz (h:∀l vs is,aQ σ l=some vs->cQ vs=some is->is.all (λi=>decide (0<=i))=true->ek is<2^53->C [l] (.int (ek is)))(e:xA σ as=some r):C as r:=by
 induction as using YZ with
 |nil=>exact ai e
 |cons a as =>
  induction as using YZ with
  |cons b as=>exact ai e
  |nil =>
   refine qz (F:=λvs=>(tM vs).map .int) e λvs hv e=>lP e λi hi=>?_;unfold tM at hi
   induction hs:cQ vs using ae with
   |none=>rw[hs]at hi;exact ai hi
   |some is=>rw[hs]at hi;exact bR hi λhc e=>aG (Q:=λi=>C [a] (.int i)) e (h a vs is hv hs hc.1 hc.2)
theorem Ks (h1:∀i j,C [.int i,.int j] (.int (if i<j then j else i)))(h2:∀x y z,C [.flt x,.flt y,.flt z] (.flt (if gK z (if gK y x then y else x)then z else(if gK y x then y else x))))(h3:∀l vs i js,aQ σ l=some vs->cQ vs=some (i::js)->C [l] (.int (gz i js)))(e:xx σ as=some r):C as r:=by
 induction as using YZ with
 |nil=>exact ai e
 |cons a as =>
  induction as using YZ with
  |nil =>
   have e:(match aQ σ a with
    |some vs=>match cQ vs with
     |some (i::js)=>some (.int (gz i js))
     |_=>none
    |none=>none)=some r:=by cases a<;>exact e
   refine qz (F:=λvs=>match cQ vs with|some (i::js)=>some (.int (gz i js))|_=>none) e λvs hv e=>?_
   induction hs:cQ vs using ae with
   |none=>rw[hs]at e;exact ai e
   |some is =>
    rw[hs]at e
    induction is using YZ with
    |nil=>exact ai e
    |cons i js=>exact aG e (h3 a vs i js hv hs)
  |cons b as =>
   induction a using AV.casesOn with
   |int i =>
    induction b using AV.casesOn with
    |int j =>
     induction as using YZ with
     |nil=>exact aG e (h1 i j)
     |cons=>exact ai e
    |_=>exact ai e
   |flt x =>
    induction b using AV.casesOn with
    |flt y =>
     induction as using YZ with
     |nil=>exact ai e
     |cons c as =>
      induction c using AV.casesOn with
      |flt z =>
       induction as using YZ with
       |nil=>exact aG e (h2 x y z)
       |cons=>exact ai e
      |_=>exact ai e
    |_=>exact ai e
   |_=>exact ai e
theorem Ku (h1:∀i j,C [.int i,.int j] (.int (if j<i then j else i)))(h2:∀x y z,C [.flt x,.flt y,.flt z] (.flt (if gL z (if gL y x then y else x)then z else(if gL y x then y else x))))(e:xy as=some r):C as r:=by
 induction as using YZ with
 |nil=>exact ai e
 |cons a as =>
  induction as using YZ with
  |nil=>cases a<;>exact ai e
  |cons b as =>
   induction a using AV.casesOn with
   |int i =>
    induction b using AV.casesOn with
    |int j =>
     induction as using YZ with
     |nil=>exact aG e (h1 i j)
     |cons=>exact ai e
    |_=>exact ai e
   |flt x =>
    induction b using AV.casesOn with
    |flt y =>
     induction as using YZ with
     |nil=>exact ai e
     |cons c as =>
      induction c using AV.casesOn with
      |flt z =>
       induction as using YZ with
       |nil=>exact aG e (h2 x y z)
       |cons=>exact ai e
      |_=>exact ai e
    |_=>exact ai e
   |_=>exact ai e
theorem Kw (h:∀c,C [.str [c]] (.int c))(e:xz as=some r):C as r:=by
 induction as using YZ with
 |nil=>exact ai e
 |cons a as =>
  induction a using AV.casesOn with
  |str cs =>
   induction cs using YZ with
   |nil=>exact ai e
   |cons c cs =>
    induction cs using YZ with
    |cons=>exact ai e
    |nil =>
     induction as using YZ with
     |nil=>exact aG e (h c)
     |cons=>exact ai e
  |_=>exact ai e
theorem J' (h:∀i,0<=i/\i<=0x10FFFF->C [.int i] (.str [i.toNat]))(e:xu as=some r):C as r:=by
 induction as using YZ with
 |nil=>exact ai e
 |cons a as =>
  induction a using AV.casesOn with
  |int i =>
   induction as using YZ with
   |nil=>exact bR e λhc e=>aG e (h i hc)
   |cons=>exact ai e
  |_=>exact ai e
theorem Kj (h:∀x jR m ex,jci x=.fin jR m ex->C [.flt x] (.int (jel jR m ex)))(e:rP as=some r):C as r:=by
 induction as using YZ with
 |nil=>exact ai e
 |cons a as =>
  induction a using AV.casesOn with
  |flt x =>
   induction as using YZ with
   |cons=>exact ai e
   |nil =>
    have e:(match jci x with | .fin jR m e=>some (.int (jel jR m e))|_=>none)=some r:=e;cases hd:jci x with
    |fin jR m ex=>rw[hd]at e;exact aG e (h x jR m ex hd)
    |_=>rw[hd]at e;exact ai e
  |_=>exact ai e
theorem Kc (h:∀i j,¬(j=0\/(!small j)=true)->C [.int i,.int j] (.tup [.int (i.fdiv j),.int (i.fmod j)]))(e:xw as=some r):C as r:=by
 induction as using YZ with
 |nil=>exact ai e
 |cons a as =>
  induction a using AV.casesOn with
  |int i =>
   induction as using YZ with
   |nil=>exact ai e
   |cons b as =>
    induction b using AV.casesOn with
    |int j =>
     induction as using YZ with
     |nil=>exact mG e λhc e=>aG e (h i j hc)
     |cons=>exact ai e
    |_=>exact ai e
  |_=>exact ai e
theorem Kl (h:∀i,C [.int i] (.bool false))(e:uE as=some r):C as r:=by
 induction as using YZ with
 |nil=>exact ai e
 |cons a as =>
  induction a using AV.casesOn with
  |int i =>
   induction as using YZ with
   |nil=>exact aG e (h i)
   |cons=>exact ai e
  |_=>exact ai e
theorem Kn (h:∀i,C [.int i] (.bool true))(e:uF as=some r):C as r:=by
 induction as using YZ with
 |nil=>exact ai e
 |cons a as =>
  induction a using AV.casesOn with
  |int i =>
   induction as using YZ with
   |nil=>exact aG e (h i)
   |cons=>exact ai e
  |_=>exact ai e
theorem Ce (h:∀i,C [.int i] (.int (Zj i)))(e:uC as=some r):C as r:=by
 induction as using YZ with
 |nil=>exact ai e
 |cons a as =>
  induction a using AV.casesOn with
  |int i =>
   induction as using YZ with
   |nil=>exact aG e (h i)
   |cons=>exact ai e
  |_=>exact ai e
theorem UO {C:List AV->List Int->Prop}{is:List Int}(h1:∀b is,fQ 0 b 1=some is->C [.int b] is)(h2:∀a b is,fQ a b 1=some is->C [.int a,.int b] is)(h3:∀a b c is,fQ a b c=some is->C [.int a,.int b,.int c] is)(e:nt as=some is):C as is:=by
 induction as using YZ with
 |nil=>exact ai e
 |cons a as =>
  induction a using AV.casesOn with
  |int a =>
   induction as using YZ with
   |nil=>exact h1 a is e
   |cons b as =>
    induction b using AV.casesOn with
    |int b =>
     induction as using YZ with
     |nil=>exact h2 a b is e
     |cons c as =>
      induction c using AV.casesOn with
      |int c =>
       induction as using YZ with
       |nil=>exact h3 a b c is e
       |cons=>exact ai e
      |_=>exact ai e
    |_=>exact ai e
  |_=>exact ai e
theorem RD {a:AV}{i:Int}(h2:∀l i vs is (k:Nat),aQ σ l=some vs->cQ vs=some is->is.findIdx? (·==i)=some k->k<=100000->C [l,.int i] (.int k))(e:(match aQ σ a with
 |some vs=>match cQ vs with
  |some is=>match is.findIdx? (·==i)with
   |some k=>if k<=100000 then some (.int k)else none
   |none=>none
  |none=>none
 |none=>none)=some r):C [a,.int i] r :=
 qz e λvs hv e=>z9 (F:=λis=>match is.findIdx? (·==i)with
  |some k=>if k<=100000 then some (.int k)else none
  |none=>none) e λis hs e=>by
  induction hk:is.findIdx? (·==i)using ae with
  |none=>rw[hk]at e;exact ai e
  |some k=>rw[hk]at e;exact bR e λhc e=>aG e (h2 a i vs is k hv hs hk hc)
theorem Kh (h1:∀x y k az,jaq (bp x) (bp y) 0 (bp x).length 1=k::az->C [.str x,.str y] (.int k))(h2:∀l i vs is (k:Nat),aQ σ l=some vs->cQ vs=some is->is.findIdx? (·==i)=some k->k<=100000->C [l,.int i] (.int k))(e:nO σ as=some r):C as r:=by
 induction as using YZ with
 |nil=>exact ai e
 |cons a as =>
  induction as using YZ with
  |nil=>cases a<;>exact ai e
  |cons b as =>
   induction b using AV.casesOn with
   |int i =>
    induction as using YZ with
    |nil=>cases a<;>exact RD h2 e
    |cons=>cases a<;>exact ai e
   |str y =>
    induction a using AV.casesOn with
    |str x =>
     induction as using YZ with
     |cons=>exact ai e
     |nil =>
      have e:(match jaq (bp x) (bp y) 0 (bp x).length 1 with|k::_=>some (.int k) | []=>none)=some r:=e
      induction ho:jaq (bp x) (bp y) 0 (bp x).length 1 using YZ with
      |nil=>rw[ho]at e;exact ai e
      |cons k az=>rw[ho]at e;exact aG e (h1 x y k az ho)
    |_=>exact ai e
   |_=>cases a<;>exact ai e
theorem Cg (h:∀x y,C [.str x,.str y] (.int (match jaq (bp x) (bp y) 0 (bp x).length 1 with|k::_=>(k:Int) | []=>-1)))(e:mC as=some r):C as r:=by
 induction as using YZ with
 |nil=>exact ai e
 |cons a as =>
  induction a using AV.casesOn with
  |str x =>
   induction as using YZ with
   |nil=>exact ai e
   |cons b as =>
    induction b using AV.casesOn with
    |str y =>
     induction as using YZ with
     |nil=>exact aG e (h x y)
     |cons=>exact ai e
    |_=>exact ai e
  |_=>exact ai e
theorem Ci (h:∀l vs xs,aQ σ l=some vs->ip vs=some xs->xs.flatten.length<=100000->C [.str [],l] (.str xs.flatten))(e:uG σ as=some r):C as r:=by
 induction as using YZ with
 |nil=>exact ai e
 |cons a as =>
  induction a using AV.casesOn with
  |str x =>
   induction x using YZ with
   |cons=>exact ai e
   |nil =>
    induction as using YZ with
    |nil=>exact ai e
    |cons l as =>
     induction as using YZ with
     |cons=>exact ai e
     |nil =>
      refine qz (F:=λvs=>match ip vs with
       |some xs=>if xs.flatten.length<=100000 then some (.str xs.flatten)else none
       |none=>none) e λvs hv e=>?_
      induction hs:ip vs using ae with
      |none=>rw[hs]at e;exact ai e
      |some xs=>rw[hs]at e;exact bR e λhc e=>aG e (h l vs xs hv hs hc)
  |_=>exact ai e
theorem Cj (h:∀x,((bp x).length<=100000/\(jcu (bp x) ((bp x).length+1)).length<=100000/\(jcu (bp x) ((bp x).length+1)==[(0,(bp x).length)])=false)->C [.str x] (.lst ((wordsOf (bp x)).map λy=>.str y.cps.toList)))(e:rR as=some r):C as r:=by
 induction as using YZ with
 |nil=>exact ai e
 |cons a as =>
  induction a using AV.casesOn with
  |str x =>
   induction as using YZ with
   |nil=>exact bR e λhc e=>aG e (h x hc)
   |cons=>exact ai e
  |_=>exact ai e
theorem Cf (h:∀l i vs is,aQ σ l=some vs->cQ vs=some is->C [l,.int i] (.int (is.countP (·==i))))(e:pE σ as=some r):C as r:=by
 induction as using YZ with
 |nil=>exact ai e
 |cons a as =>
  induction as using YZ with
  |nil=>exact ai e
  |cons b as =>
   induction b using AV.casesOn with
   |int i =>
    induction as using YZ with
    |nil=>exact qz e λvs hv e=>z9 e λis hs e=>aG e (h a i vs is hv hs)
    |cons=>exact ai e
   |_=>exact ai e
theorem Ch (h1:∀x d,C [.tok,.str x,d] (match cA.lookup x with|some k=>.int k|none=>d))(h2:∀j k d es,gH σ (.ref j)=some es->C [.ref j,.int k,d] (match es.lookup k with|some v=>v|none=>d))(e:uD σ as=some r):C as r:=by
 induction as using YZ with
 |nil=>exact ai e
 |cons a as =>
  induction a using AV.casesOn with
  |tok =>
   induction as using YZ with
   |nil=>exact ai e
   |cons b as =>
    induction b using AV.casesOn with
    |str x =>
     induction as using YZ with
     |nil=>exact ai e
     |cons d as =>
      induction as using YZ with
      |nil=>exact aG e (h1 x d)
      |cons=>exact ai e
    |_=>exact ai e
  |ref j =>
   induction as using YZ with
   |nil=>exact ai e
   |cons b as =>
    induction b using AV.casesOn with
    |int k =>
     induction as using YZ with
     |nil=>exact ai e
     |cons d as =>
      induction as using YZ with
      |cons=>exact ai e
      |nil =>
       have e:(match gH σ (.ref j)with
        |some es=>some (match es.lookup k with|some v=>v|none=>d)
        |none=>none)=some r:=e
       induction hd:gH σ (.ref j)using ae with
       |none=>rw[hd]at e;exact ai e
       |some es=>rw[hd]at e;exact aG e (h2 j k d es hd)
    |_=>exact ai e
  |_=>exact ai e
theorem Rl {C:AV->AV->AV->Prop}{a:AV}{k:Int}(h3:∀a k vs j r,aQ σ a=some vs->fO k vs.length=some j->vs[j]?=some r->C a (.int k) r)(h4:∀a k es r,gH σ a=some es->es.lookup k=some r->C a (.int k) r)(e:(match aQ σ a with
 |some vs=>(fO k vs.length).bind λj=>vs[j]?
 |none=>match gH σ a with
  |some es=>es.lookup k
  |none=>none)=some r):C a (.int k) r:=by
 induction hv:aQ σ a using ae with
 |some vs=>rw[hv]at e;exact pN e λj hj e=>h3 a k vs j r hv hj e
 |none =>
  rw[hv]at e
  induction hd:gH σ a using ae with
  |none=>rw[hd]at e;exact ai e
  |some es=>rw[hd]at e;exact h4 a k es r hd e
theorem Rm {C:AV->AV->AV->Prop}{a i:AV}(h1:∀vs k j r,fO k vs.length=some j->vs[j]?=some r->C (.tup vs) (.int k) r)(h2:∀cs k j c,fO k cs.length=some j->cs[j]?=some c->C (.str cs) (.int k) (.str [c]))
 (h3:∀a k vs j r,aQ σ a=some vs->fO k vs.length=some j->vs[j]?=some r->C a (.int k) r) (h4:∀a k es r,gH σ a=some es->es.lookup k=some r->C a (.int k) r) (e:m9 σ a i=some r):C a i r:=by
 induction i using AV.casesOn with
 |int k =>
  induction a using AV.casesOn with
  |tup vs=>exact pN e λj hj e=>h1 vs k j r hj e
  |str cs=>exact pN e λj hj e=>lP e λc hc=>h2 cs k j c hj hc
  |_=>exact Rl h3 h4 e
 |_=>cases a<;>exact ai e
end
def lJ:Operator->AV->AV->Bool
 | .FloorDiv,.int _,.int _=>true
 | .Add,.str _,.str _=>true
 |_,_,_=>false
def lS (σ:aA)(j:Nat):Option AV:=match σ[j]? with
 |some (.list vs)=>aY [] 6 (.lst vs)
 |some (.dict es)=>aY [] 6 (.dct es)
 |_=>none
inductive Fl where
 |next (ρ:aB) (σ:aA)
 |ret (v:AV)
def pP:bV->Bool
 | .nil=>true
 | .cons (.list .nil) es=>pP es
 |_=>false
def bV.len:bV->Nat
 | .nil=>0
 | .cons _ es=>es.len+1
def dictPut (es:List (Int×AV))(k:Int)(v:AV):List (Int×AV):=
 if es.any (λe=>decide (e.1=k))then es.map (λe=>if e.1=k then(e.1,v)else e)else es++[(k,v)]
def eP (f:aB->aA->AV->Option Fl):List AV->aB->aA->Option Fl
 | [],ρ,σ=>some (.next ρ σ)
 |v::vs,ρ,σ=>match f ρ σ v with
  |some (.next av an)=>eP f vs av an
  |some (.ret r)=>some (.ret r)
  |none=>none
def jr (c:aB->aA->Option AV)(f:aB->aA->Option Fl):Nat->aB->aA->Option Fl
 |0,_,_=>none
 |n+1,ρ,σ=>match c ρ σ with
  |some (.bool true)=>match f ρ σ with
   |some (.next av an)=>jr c f n av an
   |some (.ret r)=>some (.ret r)
   |none=>none
  |some (.bool false)=>some (.next ρ σ)
  |_=>none
section
variable (Φ:cX)
def oS (ρ:aB)(σ:aA):Ex->Option (AV×aA)
 | .list es=>if pP es&&decide (0<es.len/\es.len<=1000)then
  some (.ref (σ.length+es.len),σ++Ze es.len (.list [])++[.list ((Y4 es.len).map λj=>.ref (σ.length+j))])
  else match bX Φ σ ρ es with
   |some vs=>if vs.length<=100000 then some (.ref σ.length,σ++[.list vs])else none
   |none=>none
 | .dict .nil .nil=>some (.ref σ.length,σ++[.dict []])
 | .comp n gs=>match fF Φ σ ρ n gs with
  |some vs=>some (.ref σ.length,σ++[.list vs])
  |none=>none
 |_=>none
def gq (ρ:aB)(σ:aA)(wz:Bool)(e:Ex):Option (AV×aA):=
 if wz then oS Φ ρ σ e else(ev Φ σ ρ e).map (·,σ)
def eO (ρ:aB):aA->List (Nat×Bool)->bV->Option (List AV×aA)
 | σ,[],.nil=>some ([],σ)
 | σ,x::xs,.cons e es=>match gq Φ ρ σ x.2 e with
  |some (v,an)=>match eO ρ an xs es with
   |some (vs,iv)=>some (v::vs,iv)
   |none=>none
  |none=>none
 |_,_,_=>none
def eC (ρ:aB):List Nat->List AV->Option aB
 | [],[]=>some ρ
 |x::xs,v::vs=>eC (ρ.set x (some v)) xs vs
 |_,_=>none
def lQ (ρ:aB)(σ:aA)(it:It):Option (List AV):=
 match it with
 | .val e=>match ev Φ σ ρ e with
  |some (.ref _)=>none
  |some x=>oH σ x
  |none=>none
 | .rev e=>match ev Φ σ ρ e with
  |some (.lst vs)=>some vs.reverse
  |_=>none
 | .range as=>dU Φ σ ρ (.range as)
mutual
noncomputable def cU (ρ:aB)(σ:aA):St->Option Fl
 | .asg x th e=>match gq Φ ρ σ th e with
  |some (v,an)=>some (.next (ρ.set x (some v)) an)
  |none=>none
 | .unp xs e=>match ev Φ σ ρ e with
  |some (.tup vs)=>(eC ρ xs vs).map (.next · σ)
  |_=>none
 | .asgT xs es=>match eO Φ ρ σ xs es with
  |some (vs,an)=>(eC ρ (xs.map (·.1)) vs).map (.next · an)
  |none=>none
 | .aug x op e=>match ρ[x]? with
  |some (some old)=>match ev Φ σ ρ e with
   |some v=>match old with
    | .ref i=>match op,σ[i]?,aQ σ v with
     | .Add,some (.list xs),some ys=>if xs.length+ys.length<=100000 then some (.next ρ (σ.set i (.list (xs++ys))))else none
     |_,_,_=>none
    |old=>if lJ op old v then(match dE σ op old v with
     |some r=>some (.next (ρ.set x (some r)) σ)
     |none=>none)else none
   |none=>none
  |_=>none
 | .app o e=>match ev Φ σ ρ o with
  |some (.ref i)=>match ev Φ σ ρ e with
   |some v=>match σ[i]? with
    |some (.list xs)=>if xs.length<=100000 then(match v with
     | .ref j=>if i=j then none else match lS σ j with
      |some r=>some (.next ρ ((σ.set j .gone).set i (.list (xs++[r]))))
      |none=>none
     |v=>some (.next ρ (σ.set i (.list (xs++[v])))))else none
    |_=>none
   |none=>none
  |_=>none
 | .rev o=>match ev Φ σ ρ o with
  |some (.ref i)=>match σ[i]? with
   |some (.list xs)=>if xs.length<=100000 then some (.next ρ (σ.set i (.list xs.reverse)))else none
   |_=>none
  |_=>none
 | .put x k v=>match ev Φ σ ρ v with
  |some wd=>if wd.scalar then(match ρ[x]? with
   |some (some (.ref i))=>match ev Φ σ ρ k with
    |some (.int k)=>match σ[i]? with
     |some (.dict es)=>if es.length<=100000 then some (.next ρ (σ.set i (.dict (dictPut es k wd))))else none
     |_=>none
    |_=>none
   |_=>none)else none
  |none=>none
 | .ife c a b=>match ev Φ σ ρ c with
  |some (.bool true)=>aE ρ σ a
  |some (.bool false)=>aE ρ σ b
  |_=>none
 | .for_ x it body=>match lQ Φ ρ σ it with
  |some vs=>eP (λρ σ v=>aE (ρ.set x (some v)) σ body) vs ρ σ
  |none=>none
 | .while_ c body=>jr (λρ σ=>ev Φ σ ρ c) (λρ σ=>aE ρ σ body) 100 ρ σ
 | .ret e=>match ev Φ σ ρ e with
  |some v=>(aY σ 6 v).map .ret
  |none=>none
 | .bad=>none
noncomputable def aE (ρ:aB)(σ:aA):dw->Option Fl
 | .nil=>some (.next ρ σ)
 | .cons s ss=>match cU ρ σ s with
  |some (.next av an)=>aE av an ss
  |some (.ret v)=>some (.ret v)
  |none=>none
end
end
structure dC where
 nargs:Nat
 nvars:Nat
 body:dw
def oO (Φ:cX)(d:dC)(as:List AV):Option AV :=
 if as.length=d.nargs then
  match aE Φ (as.map some++Ze (d.nvars-d.nargs) none) [] d.body with
  |some (.ret v)=>some v
  |_=>none
 else none
def nQ (gb:cX)(fns:Nat->Option dC):Nat->cX
 |0=>λY Y=>none
 |n+1=>λk as=>match fns k with
  |some d=>oO (nQ gb fns n) d as
  |none=>gb k as
def qd (kr:List Str):Stmt->dC
 | .FunctionDef _ a b _ _ _ sc _ _ _ =>
  let ps:=a.args.map (·.arg);let vs:=ps++(ey sc).filter λx=>!ps.contains x
  ⟨ps.length,vs.length,em { names:=sc.names,vars:=vs.zipIdx,next:=vs.length } kr b⟩
 |_=>⟨0,0,.cons .bad .nil⟩
theorem Ic:bf T []=.nil:=rfl
theorem tX:bf T (e::es)=.cons (ao T e) (bf T es):=rfl
theorem WM:mh T none=.none:=rfl
theorem WN:mh T (some e)=.some (ao T e):=rfl
theorem gO {f:α->Option β}:bh f (a::as) =
 match f a with
 |some b =>
  match bh f as with
  |some bs=>some (b::bs)
  |none=>none
 |none=>none:=rfl
theorem yR:aY σ (n+1) (.ref i) =
 match σ[i]? with
 |some (.list vs)=>Z6 .lst (bh (aY σ n) vs)
 |some (.dict es)=>Z6 .dct (bh (λe=>Z6 (λx=>(e.fst,x)) (aY σ n e.snd)) es)
 |x=>none:=rfl
theorem OC:aY σ (n+1) (.lst vs)=Z6 .lst (bh (aY σ n) vs):=rfl
theorem OD:aY σ (n+1) (.dct es) =
 Z6 .dct (bh (λe=>Z6 (λx=>(e.fst,x)) (aY σ n e.snd)) es):=rfl
theorem r7:eN eq (a::as) (b::bs) =
 match eq a b with
 |some r =>
  match eN eq as bs with
  |some q=>some (r&&q)
  |none=>none
 |none=>none:=rfl
theorem u4 {f:α->Option (List β)}:fZ f (a::as) =
 match f a with
 |some bs =>
  match fZ f as with
  |some cs=>some (bs++cs)
  |none=>none
 |none=>none:=rfl
theorem Bh:ek []=0:=rfl
theorem wx:ek (i::is)=i+ek is:=rfl
theorem S7:gz i []=i:=rfl
theorem S8:gz i (FT::is)=gz (if i<FT then FT else i) is:=rfl
theorem tE:gP a c (n+1)=a::gP (a+c) c n:=rfl
theorem VW:ip (.str i::vs)=Z6 (λx=>i::x) (ip vs):=rfl
theorem Nr:bV.len (.cons e es)=bV.len es+1:=rfl
theorem yK:eP f (v::vs) y x =
 match f y x v with
 |some (.next av an)=>eP f vs av an
 |some (.ret r)=>some (.ret r)
 |none=>none:=rfl
theorem Br:jr c f (n+1) y x =
 match c y x with
 |some (.bool true) =>
  match f y x with
  |some (.next av an)=>jr c f n av an
  |some (.ret r)=>some (.ret r)
  |none=>none
 |some (.bool false)=>some (.next y x)
 |x=>none:=rfl
theorem Dc:gq Φ ρ σ wz e=if wz=true then oS Φ ρ σ e else Z6 (λx=>(x,σ)) (ev Φ σ ρ e):=rfl
theorem Dq:ev Φ σ ρ (.c v)=xM v:=rfl
theorem Du:ev Φ σ ρ (.var i) =
 match ρ[i]? with
 |some v=>v
 |none=>none:=rfl
theorem Dv:ev Φ σ ρ (.bin op a b) =
 match ev Φ σ ρ a with
 |some x =>
  match ev Φ σ ρ b with
  |some y=>dE σ op x y
  |none=>none
 |none=>none:=rfl
theorem yk:ev Φ σ ρ (.un op a) =
 match ev Φ σ ρ a with
 |some x=>qV op x
 |none=>none:=rfl
theorem Dw:ev Φ σ ρ (.cmp op a b) =
 match ev Φ σ ρ a with
 |some x =>
  match ev Φ σ ρ b with
  |some y=>Z6 .bool (j3 σ op x y)
  |none=>none
 |none=>none:=rfl
theorem uU:ev Φ σ ρ (.and es)=Z6 .bool (cS Φ σ ρ es):=rfl
theorem yl:ev Φ σ ρ (.or es)=Z6 .bool (kT Φ σ ρ es):=rfl
theorem ym:ev Φ σ ρ (.ite c a b) =
 match ev Φ σ ρ c with
 |some (.bool true)=>ev Φ σ ρ a
 |some (.bool false)=>ev Φ σ ρ b
 |x=>none:=rfl
theorem Dr:ev Φ σ ρ (.list es) =
 match bX Φ σ ρ es with
 |some vs=>if jaK vs<=100000 then some (.lst vs)else none
 |none=>none:=rfl
theorem Ds:ev Φ σ ρ (.tup es) =
 match bX Φ σ ρ es with
 |some vs=>if jaK vs<=100000 then some (.tup vs)else none
 |none=>none:=rfl
theorem Nb:ev Φ σ ρ (.dict (.cons k .nil) (.cons v .nil)) =
 match ev Φ σ ρ k with
 |some (.int i) =>
  match ev Φ σ ρ v with
  |some x=>if x.scalar=true then some (.dct [(i,x)])else none
  |none=>none
 |x=>none:=rfl
theorem Dt:ev Φ σ ρ (.idx a i) =
 match ev Φ σ ρ a with
 |some x =>
  match ev Φ σ ρ i with
  |some y=>m9 σ x y
  |none=>none
 |none=>none:=rfl
theorem pX:ev Φ σ ρ (.slice a lo hi) =
 match ev Φ σ ρ a with
 |some x =>
  match fG Φ σ ρ lo with
  |some l =>
   match fG Φ σ ρ hi with
   |some h=>qQ σ x l h
   |none=>none
  |none=>none
 |none=>none:=rfl
theorem kV:ev Φ σ ρ (.call f as) =
 match bX Φ σ ρ as with
 |some vs=>nR Φ σ f vs
 |none=>none:=rfl
theorem yj:ev Φ σ ρ (.comp n gs)=Z6 .lst (fF Φ σ ρ n gs):=rfl
theorem Dx:bX Φ σ ρ .nil=some []:=rfl
theorem mM:bX Φ σ ρ (.cons e es) =
 match ev Φ σ ρ e with
 |some v =>
  match bX Φ σ ρ es with
  |some vs=>some (v::vs)
  |none=>none
 |none=>none:=rfl
theorem x0:fF Φ σ ρ n (.cons i it ifs az) =
 match dU Φ σ ρ it with
 |some vs =>
  match(ρ++Ze n none)[i]? with
  |some none =>
   if jaK vs<=100000 then
    sE
     (fZ
      (λv =>
       match cS Φ σ (jcj (ρ++Ze n none) i (some v)) ifs with
       |some true=>g8 Φ σ (jcj (ρ++Ze n none) i (some v)) az
       |some false=>some []
       |none=>none)
      vs)
   else none
  |x=>none
 |none=>none:=rfl
theorem MR:g8 Φ σ ρ (.done aD)=Z6 (λv=>[v]) (ev Φ σ ρ aD):=rfl
theorem C7:g8 Φ σ ρ (.cons i it ifs az) =
 match dU Φ σ ρ it with
 |some vs =>
  match ρ[i]? with
  |some none =>
   if jaK vs<=100000 then
    fZ
     (λv =>
      match cS Φ σ (jcj ρ i (some v)) ifs with
      |some true=>g8 Φ σ (jcj ρ i (some v)) az
      |some false=>some []
      |none=>none)
     vs
   else none
  |x=>none
 |none=>none:=rfl
theorem C9:fG Φ σ ρ .none=some none:=rfl
theorem pQ:fG Φ σ ρ (.some e) =
 match ev Φ σ ρ e with
 |some (.int i)=>some (some i)
 |x=>none:=rfl
theorem nV:cS Φ σ ρ .nil=some true:=rfl
theorem kS:cS Φ σ ρ (.cons e es) =
 match ev Φ σ ρ e with
 |some (.bool true)=>cS Φ σ ρ es
 |some (.bool false)=>some false
 |x=>none:=rfl
theorem Db:kT Φ σ ρ .nil=some false:=rfl
theorem pR:kT Φ σ ρ (.cons e es) =
 match ev Φ σ ρ e with
 |some (.bool false)=>kT Φ σ ρ es
 |some (.bool true)=>some true
 |x=>none:=rfl
theorem r8:dU Φ σ ρ (.range as) =
 match bX Φ σ ρ as with
 |some vs=>Z6 (λis=>jfp .int is) (nt vs)
 |none=>none:=rfl
theorem r9:dU Φ σ ρ (.val e) =
 match ev Φ σ ρ e with
 |some x=>oH σ x
 |none=>none:=rfl
theorem C8:lQ Φ ρ σ (.val e) =
 match ev Φ σ ρ e with
 |some (.ref i)=>none
 |some x=>oH σ x
 |none=>none:=rfl
theorem MS:lQ Φ ρ σ (.rev e) =
 match ev Φ σ ρ e with
 |some (.lst vs)=>some (List.reverse vs)
 |x=>none:=rfl
theorem yu:cU Φ ρ σ (.asg i th e) =
 match gq Φ ρ σ th e with
 |some (v,an)=>some (.next (jcj ρ i (some v)) an)
 |none=>none:=rfl
theorem DI:cU Φ ρ σ (.unp xs e) =
 match ev Φ σ ρ e with
 |some (.tup vs)=>Z6 (λx=>.next x σ) (eC ρ xs vs)
 |x=>none:=rfl
theorem DJ:cU Φ ρ σ (.asgT xs es) =
 match eO Φ ρ σ xs es with
 |some (vs,an)=>Z6 (λx=>.next x an) (eC ρ (jfp (λx=>x.fst) xs) vs)
 |none=>none:=rfl
theorem yw:cU Φ ρ σ (.aug i op e) =
 match ρ[i]? with
 |some (some old) =>
  match ev Φ σ ρ e with
  |some v =>
   match old with
   | .ref i =>
    match op,σ[i]?,aQ σ v with
    |jik,some (.list xs),some ys =>
     if jaK xs+jaK ys<=100000 then some (.next ρ (jcj σ i (.list (xs++ys))))
     else none
    |x,x_2,x_3=>none
   |old =>
    if lJ op old v=true then
     match dE σ op old v with
     |some r=>some (.next (jcj ρ i (some r)) σ)
     |none=>none
    else none
  |none=>none
 |x=>none:=rfl
theorem yx:cU Φ ρ σ (.app o e) =
 match ev Φ σ ρ o with
 |some (.ref i) =>
  match ev Φ σ ρ e with
  |some v =>
   match σ[i]? with
   |some (.list xs) =>
    if jaK xs<=100000 then
     match v with
     | .ref j =>
      if i=j then none
      else
       match lS σ j with
       |some r=>some (.next ρ (jcj (jcj σ j .gone) i (.list (xs++[r]))))
       |none=>none
     |v=>some (.next ρ (jcj σ i (.list (xs++[v]))))
    else none
   |x=>none
  |none=>none
 |x=>none:=rfl
theorem DK:cU Φ ρ σ (.rev o) =
 match ev Φ σ ρ o with
 |some (.ref i) =>
  match σ[i]? with
  |some (.list xs) =>
   if jaK xs<=100000 then some (.next ρ (jcj σ i (.list (List.reverse xs))))else none
  |x=>none
 |x=>none:=rfl
theorem DL:cU Φ ρ σ (.put i k v) =
 match ev Φ σ ρ v with
 |some wd =>
  if wd.scalar=true then
   match ρ[i]? with
   |some (some (.ref i)) =>
    match ev Φ σ ρ k with
    |some (.int k) =>
     match σ[i]? with
     |some (.dict es) =>
      if jaK es<=100000 then some (.next ρ (jcj σ i (.dict (dictPut es k wd))))else none
     |x=>none
    |x=>none
   |x=>none
  else none
 |none=>none:=rfl
theorem sn:cU Φ ρ σ (.ife c a b) =
 match ev Φ σ ρ c with
 |some (.bool true)=>aE Φ ρ σ a
 |some (.bool false)=>aE Φ ρ σ b
 |x=>none:=rfl
theorem DM:cU Φ ρ σ (.for_ i it body) =
 match lQ Φ ρ σ it with
 |some vs=>eP (λρ σ v=>aE Φ (jcj ρ i (some v)) σ body) vs ρ σ
 |none=>none:=rfl
theorem DG:cU Φ ρ σ (.while_ c body) =
 jr (λρ σ=>ev Φ σ ρ c) (λρ σ=>aE Φ ρ σ body) 100 ρ σ:=rfl
theorem DH:cU Φ ρ σ (.ret e) =
 match ev Φ σ ρ e with
 |some v=>Z6 .ret (aY σ 6 v)
 |none=>none:=rfl
theorem Nq:aE Φ ρ σ .nil=some (.next ρ σ):=rfl
theorem yy:aE Φ ρ σ (.cons s ss) =
 match cU Φ ρ σ s with
 |some (.next av an)=>aE Φ av an ss
 |some (.ret v)=>some (.ret v)
 |none=>none:=rfl
theorem GV {Q:Prop}(h:bV.nil=.cons e es):Q:=absurd (congrArg bV.len h) (Nat.succ_ne_zero _).symm
def F6 (e:Ex):Prop:=Ex.casesOn (motive_1:=λY=>Prop) e (λY=>False) (λY=>False) (λY=>False) (λY Y Y=>False) (λY Y=>False) (λY Y Y=>False) (λY=>False) (λY=>False) (λY Y Y=>False) (λY=>False) (λY=>False) (λY Y=>False) (λY Y=>False) (λY Y Y=>False) (λY Y=>False) (λY Y=>False) True
theorem Tx {Q:Prop}(h:Ex.bad=.comp n gs):Q:=False.elim (show F6 (.comp n gs)from h▸(trivial:F6 .bad))
theorem LJ (h:σ[j]?=some (.dict es)):gH σ (.ref j)=some es:=by
 delta gH;dsimp only;rw[h]
theorem An (h:σ[j]?=some (.list vs)):aQ σ (.ref j)=some vs:=by
 delta aQ;dsimp only;rw[h]
theorem Sn (e:aQ σ (.ref j)=some vs):σ[j]?=some (.list vs):=by
 delta aQ at e;dsimp only at e
 induction hq:σ[j]? using ae with
 |none=>rw[hq]at e;exact ai e
 |some o =>
  rw[hq]at e
  induction o using AO.casesOn with
  |list us=>exact congrArg (λx=>some (AO.list x)) (Y0 e)
  |_=>exact ai e
theorem wk {k n:Nat}(h:k<n)(hn:n<=100000):fO (k:Int) n=some k:=by
 unfold fO;have:hJ (k:Int)=true:=decide_eq_true (by rw[ZN];exact be h (YY hn (by decide)));refine aa (if_pos this) ?_;unfold jfj;simp only[if_neg (Int.not_lt.mpr (Zf k))];refine aa (if_pos (show(decide (0<=(k:Int))&&decide ((k:Int)<n))=true by rw[decide_eq_true (Zf k),decide_eq_true (jcq.mpr h)];rfl)) ?_;rfl
theorem A1 {M:Model}{Γ:Ctx}{p:Pos}{t:Sem Fin}{fs:List Frame}{s s':Y1}{e:End}(h:Runs M Γ p t fs s e s'):s.heap.objs.size<=s'.heap.objs.size:=by
 induction h<;>(try simp only[Shared.setGen,jiq,ZL]at *)<;>omega
theorem XA {M:Model}{Γ:Ctx}{p:Pos}{g:Nat}{r:Resume}{s s':Y1}{res:GenResult}(h:Wakes M Γ p g r s res s'):s.heap.objs.size<=s'.heap.objs.size:=by
 delta Wakes at h
 induction hg:s.gens[g]? using ae with
 |none=>rw[hg]at h;exact h.elim
 |some st =>
  rw[hg]at h
  induction st using GenState.casesOn with
  |fresh c =>
   induction r using Resume.casesOn with
   |throw x=>refine aa h.2 ?_;exact Y2 _
   |send v =>
    induction v using jgs with
    |none=>refine n5 h ?_;rintro n9 ak hr _ _ rfl;exact(A1 hr:(s.setGen g .running).heap.objs.size<=ak.heap.objs.size)
    |_=>refine aa h.2 ?_;exact Y2 _
  |suspended=>refine n5 h ?_;rintro n9 ak hr _ _ rfl;exact(A1 hr:(s.setGen g .running).heap.objs.size<=ak.heap.objs.size)
  |_=>refine aa h.2 ?_;exact Y2 _
theorem XI {α:Type}(M:Model)(Γ:Ctx)(n:Nat)(t:Sem α):∀(Q:α->Pos->Y1->Prop) (E:Value->Pos->Y1->Prop) (p:Pos) (s:Y1),n<=s.heap.objs.size->Sem.wp M Γ t Q E p s ->
 Sem.wp M Γ t (λa p' s'=>n<=s'.heap.objs.size/\Q a p' s') (λe p' s'=>n<=s'.heap.objs.size/\E e p' s') p s:=by
 induction t with
 |pure a=>intro Q E p s hn h;exact⟨hn,h⟩
 |raise e=>intro Q E p s hn h;exact⟨hn,h⟩
 |unsupported _=>intro Q E p s _ h;exact h
 |finish _=>intro Q E p s _ h;exact h
 |rule _ k ih=>intro Q E p s hn h;exact ih () Q E p s hn h
 | «at» p' k ih=>intro Q E p s hn h;exact ih () Q E p' s hn h
 |load a _ k ih=>intro Q E p s hn h;refine au h λo ho h=>?_;exact⟨o,ho,ih o Q E p s hn h⟩
 |update a _ f k ih=>intro Q E p s hn h;exact⟨h.1,ih () Q E p _ (by simp only[jiq];exact hn) h.2⟩
 |loadIfAlive a k ih=>intro Q E p s hn h;exact ih _ Q E p s hn h
 |point _ k ih=>intro Q E p s hn h;exact ih () Q E p s hn h
 |register _ _=>intro Q E p s _ h;exact h
 |alloc o k ih=>intro Q E p s hn h;exact ih _ Q E p _ (by simp only[ZL];exact jcz hn) h
 |fresh k ih=>intro Q E p s hn h;exact ih _ Q E p { s with toks:=s.toks+1 } hn h
 |ask k ih=>intro Q E p s hn h;exact ih _ Q E p s hn h
 |choose src m k ih=>intro Q E p s hn h;exact⟨h.1,ih _ Q E p _ hn h.2⟩
 |os q _ k ih=>intro Q E p s hn h;exact ih _ Q E p _ hn h
 |call c hd _ _ k ih=>intro Q E p s hn h;refine bB h λr s' hr h=>?_;exact⟨r,s',hr,ih r Q E p s' (YY hn (A1 hr)) h⟩
 |handled own k ih=>intro Q E p s hn h;exact ih _ Q E p s hn h
 |genState g k ih=>intro Q E p s hn h;refine au h λst hs h=>?_;exact⟨st,hs,ih _ Q E p s hn h⟩
 |newGen c k ih=>intro Q E p s hn h;exact ih _ Q E p _ hn h
 |resume g r _ k ih=>intro Q E p s hn h;refine bB h λres s' hw h=>?_;exact⟨res,s',hw,ih res Q E p s' (YY hn (XA hw)) h⟩
 |yield _ _ _ _=>intro Q E p s _ h;exact h
 |stack k ih=>intro Q E p s hn h;exact ih _ Q E p s hn h
 |fork _ _=>intro Q E p s _ h;exact h
 |thread k ih=>intro Q E p s hn h;exact ih _ Q E p s hn h
 |await _ _ _ _ _=>intro Q E p s _ h;exact h
structure Up (s s':Y1):Prop where
 size:s.heap.objs.size<=s'.heap.objs.size
 toks:s.toks<=s'.toks
theorem XH {α:Type}{M:Model}{A:ZS}{s:Y1}{t:Sem α}{Q:α->Y1->Prop}{E:Value->Y1->Prop}{n:Nat}(hn:n<=s.heap.objs.size)(h:Y7 M A t Q E s):
 Y7 M A t (λa s'=>n<=s'.heap.objs.size/\Q a s') (λe s'=>n<=s'.heap.objs.size/\E e s') s :=
 λΓ p Q4=>XI M Γ n t _ _ p s hn (h Γ p Q4)
theorem eF {α:Type}{M:Model}{A:ZS}{s:Y1}{t:Sem α}{Q:α->Y1->Prop}{E:Value->Y1->Prop}(h:Y7 M A t (λa s'=>Up s s'->Q a s') (λe s'=>Up s s'->E e s') s):Y7 M A t Q E s :=
 jan (wpAny_toks_of (Y2 s.toks) (XH (Y2 s.heap.objs.size) h)) (λY Y x=>x.2.2 ⟨x.2.1,x.1⟩) λY Y x=>x.2.2 ⟨x.2.1,x.1⟩
end
section
open PySem PySem.W PyProof.Rows
set_option backward.match.sparseCases true
abbrev ax:Value->Y1->Prop:=λY Y=>False
abbrev ce (h h':jag):Prop:=∀b o,h.get? b=some o->h'.get? b=some o
theorem ce.refl (h:jag):ce h h:=λY Y e=>e
theorem ce.trans {h h' hV:jag}(x:ce h h')(y:ce h' hV):ce h hV:=λb o e=>y b o (x b o e)
theorem AE {h:jag}{a:Zb}(e:h.objs.size<=a):h.get? a=none:=by
 induction q:h.get? a using ae with
 |none=>rfl
 |some o=>exact absurd (Zr q) (ZT.mpr e)
theorem Keeps.refl (s:Y1):Keeps s s:=⟨s.heap,s.toks,rfl,λY Y e=>e⟩
theorem Keeps.trans {s s' cO:Y1}(x:Keeps s s')(y:Keeps s' cO):Keeps s cO:=by
 refine bB x ?_;rintro h t rfl k;refine bB y ?_;rintro h' t' rfl k';exact⟨h',t',rfl,λb o e=>k' b o (k b o e)⟩
theorem Keeps.ext {s s':Y1}(x:Keeps s s'):ce s.heap s'.heap:=by
 refine bB x ?_;rintro h t rfl k;exact k
section up
variable {α:Type}{M:Model}{A:ZS}{s:Y1}
theorem up {t:Sem α}{P Q:α->Y1->Prop}{E:Value->Y1->Prop}(h:Y7 M A t P ax s)(hQ:∀a s',P a s'->Q a s'):Y7 M A t Q E s :=
 jan h hQ λY Y x=>x.elim
end up
abbrev Gh:=Tok->UInt64->Prop
mutual
inductive VR (tk:Zb) (φ:Gh) (h:jag) (β:List Zb) (P:Zb->Prop):AV->Value->Prop
 |none:VR tk φ h β P .none .none
 |bool (b:Bool):VR tk φ h β P (.bool b) (.bool b)
 |int (i:Int) (t:Tok):VR tk φ h β P (.int i) (.int i t)
 |flt (x:UInt64) (t:Tok) (ht:φ t x):VR tk φ h β P (.flt x) (.float x t)
 |str (cs:List Nat) (t:Tok):VR tk φ h β P (.str cs) (.str ⟨cs.toArray⟩ t)
 |tup {vs:List AV}{a:Zb}{xs:List Value} (e:jge h a xs.toArray) (p:P a) (r:ar tk φ h β P vs xs):VR tk φ h β P (.tup vs) (.ref a)
 |lst {vs:List AV}{a:Zb}{xs:List Value} (e:h.PlainList a xs.toArray) (p:P a) (r:ar tk φ h β P vs xs):VR tk φ h β P (.lst vs) (.ref a)
 |dct {vs:List AV}{ks:List Int}{a:Zb}{xs:List Value} (e:h.DictOf (jal af wd) a (ks.zip xs)) (p:P a) (hl:ks.length=vs.length) (r:ar tk φ h β P vs xs):VR tk φ h β P (.dct (ks.zip vs)) (.ref a)
 |ref {i:Nat}{a:Zb} (e:β[i]?=some a):VR tk φ h β P (.ref i) (.ref a)
 |tok:VR tk φ h β P .tok (.ref tk)
inductive ar (tk:Zb) (φ:Gh) (h:jag) (β:List Zb) (P:Zb->Prop):List AV->List Value->Prop
 |nil:ar tk φ h β P [] []
 |cons {v:AV}{x:Value}{vs:List AV}{xs:List Value} (a:VR tk φ h β P v x) (r:ar tk φ h β P vs xs):ar tk φ h β P (v::vs) (x::xs)
end
section
variable {tk:Zb}{φ am:Gh}{h h':jag}{β aH:List Zb}{P P':Zb->Prop}
theorem Uw {β aH:List Zb}(hb:β <+: aH){i:Nat}{a:Zb}(e:β[i]?=some a):aH[i]?=some a:=by
 refine aW hb ?_;rintro t rfl;rw[Zq]
 ·exact e
 ·exact(Zw.mp e).1
theorem IsTup.at {a:Zb}{xs:Array Value}(x:jge h a xs)(e:∀o,h.get? a=some o->h'.get? a=some o):jge h' a xs:=let⟨o,ho,r⟩:=x;⟨o,e _ ho,r⟩
theorem DictOf.at {a:Zb}{aJ:List (Int×Value)}(x:h.DictOf (jal af wd) a aJ)(e:∀o,h.get? a=some o->h'.get? a=some o):h'.DictOf (jal af wd) a aJ :=
 let⟨o,es,ep,ho,r⟩:=x;⟨o,es,ep,e _ ho,r⟩
theorem VR.mono (kn:∀t x,φ t x->am t x)(hk:∀a o,P a->h.get? a=some o->h'.get? a=some o/\P' a)(hb:β <+: aH){v:AV}{x:Value}(r:VR tk φ h β P v x):VR tk am h' aH P' v x :=
 VR.rec (motive_1:=λv x Y=>VR tk am h' aH P' v x) (motive_2:=λvs xs Y=>ar tk am h' aH P' vs xs) .none .bool .int (λx t ht=>.flt x t (kn t x ht)) .str
  (λe p Y r=>e.elim λo ho=>.tup (IsTup.at e λo ho=>(hk _ o p ho).1) (hk _ o p ho.1).2 r)
  (λe p Y r=>e.elim λn ho=>.lst (e.at λo ho=>(hk _ _ p ho).1) (hk _ _ p ho).2 r)
  (λe p hl Y r=>e.elim λo q=>q.elim λY q=>q.elim λY ho=>.dct (DictOf.at e λo ho=>(hk _ o p ho).1) (hk _ o p ho.1).2 hl r)
  (λe=>.ref (Uw hb e)) .tok .nil (λY Y a r=>.cons a r) r
theorem ar.ind {motive:List AV->List Value->Prop}(nil:motive [] [])(cons:∀{v x vs xs},VR tk φ h β P v x->ar tk φ h β P vs xs->motive vs xs->motive (v::vs) (x::xs)){vs:List AV}{xs:List Value}(r:ar tk φ h β P vs xs):motive vs xs :=
 ar.rec (motive_1:=λY Y Y=>True) (motive_2:=λvs xs Y=>motive vs xs) trivial (λY=>trivial) (λY Y=>trivial) (λY Y Y=>trivial) (λY Y=>trivial) (λY Y Y Y=>trivial) (λY Y Y Y=>trivial) (λY Y Y Y Y=>trivial) (λY=>trivial) trivial nil (λa r Y ih=>cons a r ih) r
theorem ar.mono (kn:∀t x,φ t x->am t x)(hk:∀a o,P a->h.get? a=some o->h'.get? a=some o/\P' a)(hb:β <+: aH){vs:List AV}{xs:List Value}(r:ar tk φ h β P vs xs):ar tk am h' aH P' vs xs :=
 r.ind .nil λa Y r=>.cons (a.mono kn hk hb) r
theorem ar.ext (hk:ce h h'){v:List AV}{x:List Value}(r:ar tk φ h β P v x):ar tk φ h' β P v x:=r.mono (λY Y e=>e) (λa o p e=>⟨hk a o e,p⟩) (Zg _)
theorem VR.weak (hk:∀a,P a->P' a){v:AV}{x:Value}(r:VR tk φ h β P v x):VR tk φ h β P' v x:=r.mono (λY Y e=>e) (λa o p e=>⟨e,hk a p⟩) (Zg _)
theorem ar.weak (hk:∀a,P a->P' a){v:List AV}{x:List Value}(r:ar tk φ h β P v x):ar tk φ h β P' v x:=r.mono (λY Y e=>e) (λa o p e=>⟨e,hk a p⟩) (Zg _)
theorem ar.length {vs:List AV}{xs:List Value}(r:ar tk φ h β P vs xs):vs.length=xs.length:=r.ind (motive:=λvs xs=>vs.length=xs.length) rfl λY Y e=>congrArg (·+1) e
theorem ar.get {vs:List AV}{xs:List Value}{i:Nat}{v:AV}(r:ar tk φ h β P vs xs):vs[i]?=some v->∃x,xs[i]?=some x/\VR tk φ h β P v x :=
 r.ind (motive:=λvs xs=>∀i,vs[i]?=some v->∃x,xs[i]?=some x/\VR tk φ h β P v x) (λY e=>ai (jia▸e)) (λa Y ih i e=>by
  induction i using jas with
  |zero=>exact aN _ rfl (Y0 e▸a)
  |succ i=>exact ih i e) i
theorem ar.getr {vs:List AV}{xs:List Value}{i:Nat}{x:Value}(r:ar tk φ h β P vs xs):xs[i]?=some x->∃v,vs[i]?=some v/\VR tk φ h β P v x :=
 r.ind (motive:=λvs xs=>∀i,xs[i]?=some x->∃v,vs[i]?=some v/\VR tk φ h β P v x) (λY e=>ai (jia▸e)) (λa Y ih i e=>by
  induction i using jas with
  |zero=>exact aN _ rfl (Y0 e▸a)
  |succ i=>exact ih i e) i
theorem ar.append {vs us:List AV}{xs ys:List Value}(r:ar tk φ h β P vs xs)(q:ar tk φ h β P us ys):ar tk φ h β P (vs++us) (xs++ys):=
 r.ind (motive:=λvs xs=>ar tk φ h β P (vs++us) (xs++ys)) q λa Y ih=>.cons a ih
theorem ar.single {v:AV}{x:Value}(a:VR tk φ h β P v x):ar tk φ h β P [v] [x]:=.cons a .nil
theorem ar.reverse {vs:List AV}{xs:List Value}(r:ar tk φ h β P vs xs):ar tk φ h β P vs.reverse xs.reverse :=
 r.ind (motive:=λvs xs=>ar tk φ h β P vs.reverse xs.reverse) .nil λa Y ih=>by refine aa jbD ?_;refine aa jbD ?_;exact ih.append (.single a)
theorem ar.take {vs:List AV}{xs:List Value}(n:Nat)(r:ar tk φ h β P vs xs):ar tk φ h β P (vs.take n) (xs.take n):=
 r.ind (motive:=λvs xs=>∀n,ar tk φ h β P (vs.take n) (xs.take n)) (λY=>by refine aa jiW ?_;refine aa jiW ?_;exact .nil) (λa Y ih n=>by
  induction n using jas with
  |zero=>exact .nil
  |succ n=>exact .cons a (ih n)) n
theorem ar.drop {vs:List AV}{xs:List Value}(n:Nat)(r:ar tk φ h β P vs xs):ar tk φ h β P (vs.drop n) (xs.drop n):=
 r.ind (motive:=λvs xs=>∀n,ar tk φ h β P (vs.drop n) (xs.drop n)) (λY=>by refine aa jiX ?_;refine aa jiX ?_;exact .nil) (λa r ih n=>by
  induction n using jas with
  |zero=>exact .cons a r
  |succ n=>exact ih n) n
def BQ (tk:Zb)(φ:Gh)(h:jag)(β:List Zb)(P:Zb->Prop):List AV->List Value->Prop
 | [],xs=>xs=[]
 |v::vs,xs=>∃x ys,xs=x::ys/\VR tk φ h β P v x/\ar tk φ h β P vs ys
theorem ar.uncons {v:AV}{vs:List AV}{xs:List Value}(r:ar tk φ h β P (v::vs) xs):∃x ys,xs=x::ys/\VR tk φ h β P v x/\ar tk φ h β P vs ys :=
 r.ind (motive:=BQ tk φ h β P) rfl λa r Y=>⟨_,_,rfl,a,r⟩
theorem ar.unnil {xs:List Value}(r:ar tk φ h β P [] xs):xs=[]:=r.ind (motive:=BQ tk φ h β P) rfl λa r Y=>⟨_,_,rfl,a,r⟩
def BP (tk:Zb)(φ:Gh)(h:jag)(β:List Zb)(P:Zb->Prop)(v:AV)(x:Value):Prop:=match v with
 | .none=>x=.none
 | .bool b=>x=.bool b
 | .int i=>∃t,x=.int i t
 | .flt y=>∃t,x=.float y t/\φ t y
 | .str cs=>∃t,x=.str ⟨cs.toArray⟩ t
 | .tup vs=>∃a,x=.ref a/\∃xs:List Value,jge h a xs.toArray/\P a/\ar tk φ h β P vs xs
 | .lst vs=>∃a,x=.ref a/\∃xs:List Value,h.PlainList a xs.toArray/\P a/\ar tk φ h β P vs xs
 | .dct es=>∃a,x=.ref a/\∃(ks:List Int) (vs:List AV) (xs:List Value),es=ks.zip vs/\ks.length=vs.length/\h.DictOf (jal af wd) a (ks.zip xs)/\P a/\ar tk φ h β P vs xs
 | .ref i=>∃a,x=.ref a/\β[i]?=some a
 | .tok=>x=.ref tk
theorem VR.inv {v:AV}{x:Value}(r:VR tk φ h β P v x):BP tk φ h β P v x :=
 VR.casesOn (motive_1:=λv x Y=>BP tk φ h β P v x) r rfl (λY=>rfl) (λY t=>⟨t,rfl⟩) (λY t ht=>⟨t,rfl,ht⟩) (λY t=>⟨t,rfl⟩) (λe p r=>⟨_,rfl,_,e,p,r⟩) (λe p r=>⟨_,rfl,_,e,p,r⟩) (λe p hl r=>⟨_,rfl,_,_,_,rfl,hl,e,p,r⟩) (λe=>⟨_,rfl,e⟩) rfl
theorem VR.intv {i:Int}{x:Value}(r:VR tk φ h β P (.int i) x):∃t,x=.int i t:=r.inv
section
variable {x:Value}{motive:Value->Prop}
@[elab_as_elim] theorem VR.e_none (r:VR tk φ h β P .none x) (k:motive .none):motive x:=(show x=_ from r.inv)▸k
@[elab_as_elim] theorem VR.e_bool {b:Bool} (r:VR tk φ h β P (.bool b) x) (k:motive (.bool b)):motive x:=(show x=_ from r.inv)▸k
@[elab_as_elim] theorem VR.e_int {i:Int} (r:VR tk φ h β P (.int i) x) (k:∀t,motive (.int i t)):motive x:=jdc r.inv λt e=>e▸k t
@[elab_as_elim] theorem VR.e_flt {y:UInt64} (r:VR tk φ h β P (.flt y) x) (k:∀t,φ t y->motive (.float y t)):motive x:=jdc r.inv λt e=>e.1▸k t e.2
@[elab_as_elim] theorem VR.e_str {cs:List Nat} (r:VR tk φ h β P (.str cs) x) (k:∀t,motive (.str ⟨cs.toArray⟩ t)):motive x:=jdc r.inv λt e=>e▸k t
@[elab_as_elim] theorem VR.e_tup {vs:List AV} (r:VR tk φ h β P (.tup vs) x) (k:∀a (xs:List Value),jge h a xs.toArray->P a->ar tk φ h β P vs xs->motive (.ref a)):motive x :=
 jdc r.inv λY e=>e.1▸e.2.elim λY q=>k _ _ q.1 q.2.1 q.2.2
@[elab_as_elim] theorem VR.e_lst {vs:List AV} (r:VR tk φ h β P (.lst vs) x) (k:∀a (xs:List Value),h.PlainList a xs.toArray->P a->ar tk φ h β P vs xs->motive (.ref a)):motive x :=
 jdc r.inv λY e=>e.1▸e.2.elim λY q=>k _ _ q.1 q.2.1 q.2.2
@[elab_as_elim] theorem VR.e_dct {es:List (Int×AV)} (r:VR tk φ h β P (.dct es) x) (k:∀a (ks:List Int) (vs:List AV) (xs:List Value),es=ks.zip vs->ks.length=vs.length->h.DictOf (jal af wd) a (ks.zip xs)->P a->ar tk φ h β P vs xs->motive (.ref a)):motive x :=
 jdc r.inv λY e=>e.1▸e.2.elim λY q=>q.elim λY q=>q.elim λY q=>k _ _ _ _ q.1 q.2.1 q.2.2.1 q.2.2.2.1 q.2.2.2.2
@[elab_as_elim] theorem VR.e_ref {i:Nat} (r:VR tk φ h β P (.ref i) x) (k:∀a,β[i]?=some a->motive (.ref a)):motive x:=jdc r.inv λY e=>e.1▸k _ e.2
@[elab_as_elim] theorem VR.e_tok (r:VR tk φ h β P .tok x) (k:motive (.ref tk)):motive x:=(show x=_ from r.inv)▸k
end
section
variable {xs:List Value}{motive:List Value->Prop}{u v z:AV}
@[elab_as_elim] theorem ar.e1 (r:ar tk φ h β P [v] xs) (k:∀x,VR tk φ h β P v x->motive [x]):motive xs:=by
 refine bS r.uncons λx ys e a q=>?_;refine aa e ?_;refine aa q.unnil ?_;exact k x a
@[elab_as_elim] theorem ar.e2 (r:ar tk φ h β P [v,u] xs) (k:∀x y,VR tk φ h β P v x->VR tk φ h β P u y->motive [x,y]):motive xs:=by
 refine bS r.uncons λx ys e a q=>?_;refine aa e ?_;exact q.e1 λy b=>k x y a b
@[elab_as_elim] theorem ar.e3 (r:ar tk φ h β P [v,u,z] xs) (k:∀x y t,VR tk φ h β P v x->VR tk φ h β P u y->VR tk φ h β P z t->motive [x,y,t]):motive xs:=by
 refine bS r.uncons λx ys e a q=>?_;refine aa e ?_;exact q.e2 λy t b c=>k x y t a b c
end
end
inductive OR (tk:Zb) (φ:Gh) (h:jag) (β:List Zb) (P:Zb->Prop):AO->Zb->Prop
 |list {vs:List AV}{a:Zb}{xs:List Value} (e:h.PlainList a xs.toArray) (r:ar tk φ h β P vs xs):OR tk φ h β P (.list vs) a
 |dict {vs:List AV}{ks:List Int}{a:Zb}{xs:List Value} (e:h.DictOf (jal af wd) a (ks.zip xs)) (hl:ks.length=vs.length) (r:ar tk φ h β P vs xs):OR tk φ h β P (.dict (ks.zip vs)) a
section
variable {tk:Zb}{φ:Gh}{h:jag}{β:List Zb}{P:Zb->Prop}
theorem OR.e_list {vs:List AV}{a:Zb}{Q:Prop}(r:OR tk φ h β P (.list vs) a)(k:∀xs:List Value,h.PlainList a xs.toArray->ar tk φ h β P vs xs->Q):Q:=by
 cases r with|list e r=>exact k _ e r
theorem OR.e_dict {es:List (Int×AV)}{a:Zb}{Q:Prop}(r:OR tk φ h β P (.dict es) a)(k:∀(ks:List Int) (vs:List AV) (xs:List Value),es=ks.zip vs->ks.length=vs.length->h.DictOf (jal af wd) a (ks.zip xs)->ar tk φ h β P vs xs->Q):Q:=by
 cases r with|dict e hl r=>exact k _ _ _ rfl hl e r
end
structure GD where
 mg:Str->Option Value
 mb:Str->Option Value
 tok:Zb
 fns:Nat->Option (Str×jau)
 tabs:List (Zb×Zb×Pos×Str)
def GD.X (G:GD)(b:Zb):Prop:=∃t∈G.tabs,t.2.1=b
abbrev qi (t:Zb×Zb×Pos×Str)(c:Zb):Obj:=jdG #[jdY t.2.2.1.line,jdY t.2.2.1.col,.ref c]
def bz (G:GD)(h:jag):Prop:=∀t∈G.tabs,h.get? t.2.1=some (jdG #[])\/∃c,h.get? t.2.1=some (qi t c)/\h.CodeRec (.ref c) t.2.2.2
def bM (G:GD)(h:jag)(c:Zb):Prop:=∃t∈G.tabs,h.get? t.2.1=some (qi t c)
def nA (x:Str):Option Int:=cA.lookup x.cps.toList
structure bg (G:GD) (h:jag):Prop where
 g:h.Ns Zm G.mg
 b:h.Ns jaa G.mb
 stat:h.Ns jeb (λY=>none)
 tok:∃f,h.MapOf (strKind af wd) G.tok f/\(∀x k,nA x=some k->∃t,f x=some (.int k t))/\(∀x,nA x=none->f x=none)
 tokMod:(G.tok==Z')=false
 fns:∀k x fd,G.fns k=some (x,fd)->∃a o,G.mg x=some (.ref a)/\h.get? a=some o/\o.data=.func fd/\h.CodeRec fd.code fd.qualname
 heads:∀t∈G.tabs,jfJ h t.1 t.2.1
 tabs:bz G h
 bmain:∃bm ob,G.mg "__builtins__" = some (.ref bm)/\bm≠jaa/\h.get? bm=some ob/\ob.cls=.type "module" /\ ob.dict=some jaa/\ob.data=.plain
 b1:∃a n,G.mg "b1_set" = some (.ref a)/\h.SetOf (jal af wd) a dz n
 b3:∃a f,G.mg "b3_exceptions" = some (.ref a)/\(a==Z')=false/\h.MapOf (jal af wd) a f/\(∀k x,j1 k=some x->∃t,f k=some (.str x t))/\∀k,j1 k=none->f k=none
theorem bz.keeps (x:bz G h)(hk:ce h h'):bz G h':=λt ht=>(x t ht).imp (hk _ _) λ⟨c,a,b⟩=>aN c (hk _ _ a) (b.keeps hk)
theorem bg.lim (x:bg G h):h.NoLimit:=⟨_,x.stat,rfl⟩
theorem bg.booked (x:bg G h):jeN h:=⟨_,x.stat,rfl⟩
theorem MapOf.keeps (hm:h.MapOf (strKind af wd) a f)(hk:ce h h'):h'.MapOf (strKind af wd) a f :=
 let⟨o,es,ep,ho,r⟩:=hm;⟨o,es,ep,hk _ _ ho,r⟩
theorem MapOf.keepsI (hm:h.MapOf (jal af wd) a f)(hk:ce h h'):h'.MapOf (jal af wd) a f :=
 let⟨o,es,ep,ho,r⟩:=hm;⟨o,es,ep,hk _ _ ho,r⟩
theorem SetOf.keeps (hm:h.SetOf (jal af wd) a S n)(hk:ce h h'):h'.SetOf (jal af wd) a S n :=
 let⟨o,es,ep,t,ho,r⟩:=hm;⟨o,es,ep,t,hk _ _ ho,r⟩
theorem bg.keeps (x:bg G h)(hk:ce h h'):bg G h' where
 g:=x.g.keeps hk
 b:=x.b.keeps hk
 stat:=x.stat.keeps hk
 tok:=let⟨f,m,r⟩:=x.tok;⟨f,MapOf.keeps m hk,r⟩
 tokMod:=x.tokMod
 fns:=λk y fd e=>let⟨a,o,h1,h2,h3,h4⟩:=x.fns k y fd e;⟨a,o,h1,hk _ _ h2,h3,h4.keeps hk⟩
 heads:=λt ht=>(x.heads t ht).keeps hk
 tabs:=x.tabs.keeps hk
 bmain:=let⟨bm,ob,h1,h2,h3,r⟩:=x.bmain;⟨bm,ob,h1,h2,hk _ _ h3,r⟩
 b1:=let⟨a,n,h1,h2⟩:=x.b1;⟨a,n,h1,SetOf.keeps h2 hk⟩
 b3:=let⟨a,f,h1,h2,h3,r⟩:=x.b3;⟨a,f,h1,h2,MapOf.keepsI h3 hk,r⟩
structure dD (G:GD):Prop where
 divLimit:∃t,G.mg "_DIV_LIMIT" = some (.int 4000 t)
 ntOffset:∃t,G.mg "NT_OFFSET" = some (.int 256 t)
 endMarker:∃t,G.mg "ENDMARKER" = some (.int 0 t)
 tok:G.mg "EXACT_TOKEN_TYPES" = some (.ref G.tok)
 types:∀x∈(["range","list","int","bool","reversed"]:List String),G.mg (jaO x)=none/\G.mb (jaO x)=some (.type x)
 builtins:∀x∈(["len","sum","max","min","ord","chr","divmod","isinstance"]:List String),G.mg (jaO x)=none/\G.mb (jaO x)=some (.builtin x)
structure bQ (ab:Env) (T:Tb):Prop where
 kind:ab.scope.kind=.function
 loc:∀x,T.names.lookup x=some .local->ab.kindOf x=some .local
 cel:∀x,T.names.lookup x=some .cell->ab.kindOf x=some .cell
 fre:∀x,T.names.lookup x=some .free->ab.kindOf x=some .cell\/ab.kindOf x=some .free
 inj:∀x y c,ab.cells.lookup x=some c->ab.cells.lookup y=some c->x=y
 glob:∀x,T.names.lookup x=some .globalImplicit->ab.kindOf x=some .globalImplicit
 g:ab.globals=Zm
 b:ab.builtins=jaa
structure jx (T:Tb):Prop where
 inj:∀x y i,T.var x=some i->T.var y=some i->x=y
 lt:∀x i,T.var x=some i->i<T.next
def nI (ab:Env)(m:Str->Option Value)(h:jag)(x:Str)(v:Value):Prop :=
 (ab.kindOf x=some .local/\m x=some v) \/
 ∃c,ab.cells.lookup x=some c/\(ab.kindOf x=some .cell\/ab.kindOf x=some .free)/\h.IsCell c (some v)
theorem nI.keeps (n:nI ab m h x v)(hk:ce h h'):nI ab m h' x v :=
 n.imp id λ⟨c,e,k,i⟩=>lh c e k (i.keeps hk)
structure aV (φ:Gh) (s:Y1):Prop where
 fn:∀t x y,φ t x->φ t y->x=y
 pos:∀t x,φ t x->t≠0
 lt:∀t x,φ t x->t<s.toks
 one:0<s.toks
section
structure bF (s s':Y1):Prop where
 keeps:Keeps s s'
 size:s.heap.objs.size<=s'.heap.objs.size
theorem bF.refl (s:Y1):bF s s:=⟨Keeps.refl s,Y2 _⟩
theorem bF.trans (x:bF s s')(y:bF s' cO):bF s cO:=⟨Keeps.trans x.keeps y.keeps,YY x.size y.size⟩
theorem bF.ext (x:bF s s'):ce s.heap s'.heap:=Keeps.ext x.keeps
theorem bF.tok:bF s { s with toks:=t }:=⟨⟨s.heap,t,rfl,λY Y e=>e⟩,Y2 _⟩
structure Go (s:Y1) (φ:Gh) (s':Y1) (am:Gh):Prop where
 grows:bF s s'
 sub:∀t x,φ t x->am t x
 tk:aV am s'
theorem Go.ext (x:Go s φ s' am):ce s.heap s'.heap:=x.grows.ext
theorem Go.trans (x:Go s φ s' am)(y:Go s' am cO kC):Go s φ cO kC:=⟨x.grows.trans y.grows,λt z e=>y.sub t z (x.sub t z e),y.tk⟩
theorem Go.refl (k:aV φ s):Go s φ s φ:=⟨bF.refl s,λY Y e=>e,k⟩
theorem Go.same (k:aV φ s)(g:bF s s')(ht:s.toks<=s'.toks):Go s φ s' φ :=
 ⟨g,λY Y e=>e,k.fn,k.pos,λt x e=>be (k.lt t x e) ht,be k.one ht⟩
theorem Go.flt {x:UInt64}(k:aV φ s):Go s φ { s with toks:=s.toks+1 } (λt y=>φ t y\/(t=s.toks/\y=x)):=by
 refine⟨bF.tok,λY Y e=>.inl e,λt a b h1 h2=>?_,λt a h=>?_,λt a h=>?_,jhc _⟩
 ·rcases h1 with h1|⟨h1,rfl⟩<;>rcases h2 with h2|⟨h2,rfl⟩
  ·exact k.fn t a b h1 h2
  ·exact absurd (k.lt t a h1) (by refine aa h2 ?_;exact Zo _)
  ·exact absurd (k.lt t b h2) (by refine aa h1 ?_;exact Zo _)
  ·rfl
 ·rcases h with h|⟨h,_⟩
  ·exact k.pos t a h
  ·refine aa h ?_;exact jaP k.one
 ·rcases h with h|⟨h,_⟩
  ·exact jcS (k.lt t a h)
  ·refine aa h ?_;exact jaf _
end
theorem Hk (h:wm x=true):(x==("__debug__" : Str))=false/\(x==("__classdict__" : Str))=false:=by
 unfold wm at h;rw[Zs]at h;exact⟨by simpa using h.1,by simpa using h.2⟩
theorem Hj {T:Tb}(hx:T.var x=some i):(x==("__debug__" : Str))=false/\(x==("__classdict__" : Str))=false:=by
 refine Hk ?_;unfold Tb.var at hx;split at hx
 ·split at hx
  ·assumption
  ·cases hx
 ·split at hx
  ·assumption
  ·cases hx
 ·split at hx
  ·assumption
  ·cases hx
 ·cases hx
structure X8 (A:ZS) (n:Nat):Prop where
 handled:A.handled=none
 depth:A.depth+n<jde
 units:A.units+40*(n+1)<jgY
def aK (tk:Zb)(φ:Gh)(s:Y1)(β:List Zb)(P:Zb->Prop)(r:AV):Value->Y1->Prop :=
 λv' s'=>∃am,Go s φ s' am/\VR tk am s'.heap β P r v'
def cr (tk:Zb)(φ:Gh)(h:jag)(β:List Zb)(P:Zb->Prop)(σ:aA):Prop :=
 ∀(i:Nat) (o:AO),σ[i]?=some o->o≠AO.gone->∃a,β[i]?=some a/\OR tk φ h β P o a
def fD (s:Y1)(P:Zb->Prop):Prop:=∀a,s.heap.objs.size<=a->P a
theorem fD.go (F:fD s P)(k:Go s φ s' am):fD s' P:=λa h=>F a (YY k.grows.size h)
theorem fA (K:aV φ s):aK tk φ s β P (.int i) (.int i t) { s with toks:=s.toks+1 }:=⟨φ,.same K bF.tok (ZV _),.int _ _⟩
theorem me (K:aV φ s):aK tk φ s β P (.flt x) (.float x s.toks) { s with toks:=s.toks+1 }:=⟨_,.flt K,.flt _ _ (.inr ⟨rfl,rfl⟩)⟩
theorem nv (K:aV φ s)(h:s.toks<=t'):aK tk φ s β P (.str x) (.str ⟨x.toArray⟩ t) { s with toks:=t' }:=⟨φ,.same K bF.tok h,.str _ _⟩
theorem jm (K:aV φ s):aK tk φ s β P (.bool b) (.bool b) s:=⟨φ,.refl K,.bool _⟩
theorem jT (K:aV φ s)(h:VR tk φ s.heap β P r v):aK tk φ s β P r v s:=⟨φ,.refl K,h⟩
theorem bF.push:bF s { s with heap:=s.heap.push o }:=
 ⟨⟨_,s.toks,rfl,λY Y e=>Za _ e⟩,by simp⟩
theorem bF.pushT:bF s { s with heap:=s.heap.push o,toks:=t }:=
 ⟨⟨_,t,rfl,λY Y e=>Za _ e⟩,by simp⟩
theorem Am (O:cr tk φ h β P σ)(e:aQ σ v=some vs)(r:VR tk φ h β P v x):
 ∃a xs,x=.ref a/\h.PlainList a xs.toArray/\ar tk φ h β P vs xs:=by
 cases r with
 |lst e' p r'=>cases e;exact na _ _ rfl e' r'
 | @ref i a hb =>
  refine au (O i _ (Sn e) (by simp)) λa' h1 h2=>?_;rw[hb]at h1;cases h1;cases h2 with
  |list e' r'=>exact na _ _ rfl e' r'
 |_=>cases e
theorem fx (O:cr tk φ h β P σ)(e:aQ σ v=some vs)(r:VR tk φ h β P v x):
 ∃a xs,x=.ref a/\h.IsList a xs.toArray/\ar tk φ h β P vs xs:=by
 refine bS (Am O e r) λa xs h1 h2 h3=>?_;exact na a xs h1 h2.isList h3
theorem BX {s:Y1}{vs ws:List Value}(hl:s.heap.IsList l vs.toArray)(hb:s.heap.IsList b ws.toArray)(bd:vs.length+ws.length<=jcK)(h:Q (.ref s.heap.objs.size) { s with heap:=s.heap.push { cls:=.type "list",data:=.seq (vs++ws).toArray } }):
 Y7 (Y9 af wd) A (jec .Add (.ref l) (.ref b)) Q E s:=by
 obtain⟨⟨cls,dd,data,sl⟩,ho,hc,n,hd⟩:=id hl;obtain⟨⟨KX,rY,data2,tK⟩,jL,oh,n2,sM⟩:=id hb;simp only at hc hd oh sM;subst hc hd oh sM;have e:vs.toArray++ws.toArray=(vs++ws).toArray:=by simp
 refine jfW ⟨_,ho,rfl⟩ ⟨_,jL,rfl⟩ noFill_list_add seq_list_add PySem.F.slot_list_add PySem.F.entry_list_add (PySem.F.args_list_add_2 _ _) (list_addW l b vs.toArray ws.toArray n n2 dd rY sl tK (by simpa using bd)) ⟨ho,jL,?_⟩;refine aa e ?_;exact h
theorem Jc (ht:jge s.heap t vs.toArray)(hb:jge s.heap b ws.toArray)(bd:vs.length+ws.length<=jcK)(h0:vs=[]->Q (.ref b) s)(h1:ws=[]->Q (.ref t) s)(h2:Q (.ref s.heap.objs.size) { s with heap:=s.heap.push { cls:=.type "tuple",data:=.seq (vs++ws).toArray } }):
 Y7 (Y9 af wd) A (jec .Add (.ref t) (.ref b)) Q E s:=by
 obtain⟨⟨cls,dd,data,sl⟩,ho,hc,n,hd⟩:=id ht;obtain⟨⟨KX,rY,data2,tK⟩,jL,oh,n2,sM⟩:=id hb;simp only at hc hd oh sM;subst hc hd oh sM;have e:vs.toArray++ws.toArray=(vs++ws).toArray:=by simp
 by_cases hv:vs=[]
 ·exact jfW ⟨_,ho,rfl⟩ ⟨_,jL,rfl⟩ jgp jhr jed jdS (jdJ _ _)
   (tuple_addW0 t b vs.toArray ws.toArray n n2 dd rY sl tK (by simp[hv])) ⟨ho,jL,h0 hv⟩
 ·by_cases hw:ws=[]
  ·exact jfW ⟨_,ho,rfl⟩ ⟨_,jL,rfl⟩ jgp jhr jed jdS (jdJ _ _)
    (tuple_addW1 t b vs.toArray ws.toArray n n2 dd rY sl tK (by simpa using hv) (by simp[hw])) ⟨ho,jL,h1 hw⟩
  ·refine jfW ⟨_,ho,rfl⟩ ⟨_,jL,rfl⟩ jgp jhr jed jdS (jdJ _ _)
    (tuple_addW2 t b vs.toArray ws.toArray n n2 dd rY sl tK (by simpa using hv) (by simpa using hw) (by refine aa Zh ?_;refine aa Zh ?_;exact bd)) ⟨ho,jL,?_⟩
   refine aa e ?_;exact h2
theorem d0 (h:n<=100000):n<=jcK:=YY h (by decide)
theorem oL {xs:List Value}(h:jag):(h.push { cls:=.type "list",data:=.seq xs.toArray }).PlainList h.objs.size xs.toArray:=⟨0,ZW _ rfl⟩
theorem Az {xs:List Value}(h:jag):jge (h.push { cls:=.type "tuple",data:=.seq xs.toArray }) h.objs.size xs.toArray:=⟨_,ZW _ rfl,rfl,0,rfl⟩
theorem AW (K:aV φ s)(F:fD s P)(r:ar tk φ s.heap β P vs xs):
 aK tk φ s β P (.lst vs) (.ref s.heap.objs.size) { s with heap:=s.heap.push { cls:=.type "list",data:=.seq xs.toArray } }:=
 ⟨φ,.same K bF.push (Y2 _),.lst (oL _) (F _ (Y2 _)) (r.ext bF.push.ext)⟩
theorem Hx (K:aV φ s)(F:fD s P)(r:ar tk φ s.heap β P vs xs):
 aK tk φ s β P (.tup vs) (.ref s.heap.objs.size) { s with heap:=s.heap.push { cls:=.type "tuple",data:=.seq xs.toArray } }:=
 ⟨φ,.same K bF.push (Y2 _),.tup (Az _) (F _ (Y2 _)) (r.ext bF.push.ext)⟩
theorem s9 (h:small a=true):Zj a<=64:=by
 have h':a.natAbs<2^64:=by simpa [small]using h
 unfold Zj;split
 ·exact jaU _
 ·have cV:a.natAbs≠0:=by intro e;simp_all
  have:=(jeP cV).mpr h';exact this
theorem RF (h:Bs a=true):Zj a<=4096:=by
 have h':a.natAbs<2^4096:=of_decide_eq_true h;unfold Zj;split
 ·exact jaU _
 ·have cV:a.natAbs≠0:=by intro e;simp_all
  have:=(jeP cV).mpr h';exact this
theorem HS (x y:List Nat):(⟨x.toArray⟩:Str)++⟨y.toArray⟩=⟨(x++y).toArray⟩:=by
 apply jht;refine aa (jiU _ _) ?_;simp
theorem Jb {s:Y1}{vs ws:List AV}(K:aV φ s)(O:cr tk φ s.heap β P σ)(F:fD s P)(ha:aQ σ a=some vs)(hb:aQ σ b=some ws)(aT:vs.length+ws.length<=100000)(ra:VR tk φ s.heap β P a x)(rb:VR tk φ s.heap β P b y):Y7 (Y9 af wd) A (jec .Add x y) (aK tk φ s β P (.lst (vs++ws))) ax s:=by
 refine bS (fx O ha ra) ?_;rintro l xs rfl h1 r1;refine bS (fx O hb rb) ?_;rintro l' ys rfl h2 r2;exact BX h1 h2 (d0 (by refine rwj r1.length ?_;refine rwj r2.length ?_;exact aT)) (AW K F (r1.append r2))
theorem yH (h:hJ i=true):i.natAbs<2^53:=by simpa [hJ]using h
theorem qC (h:Q (.float x s.toks) { s with toks:=s.toks+1 }):(Made.float x).post Q s:=h
set_option tactic.hygienic true in
theorem VT (K:aV φ s)(hl:a.length+b.length<=100000)(hQ:∀v s',aK tk φ s β P (.str (a++b)) v s'->Q v s'):
 Y7 (Y9 af wd) A (jec .Add (.str ⟨a.toArray⟩ x) (.str ⟨b.toArray⟩ y)) Q ax s:=by
 refine PySem.P.add_str ?_;split
 ·rename_i hu;have:=(by simpa [jby]using hu:a=([]:List Nat))
  subst this;exact hQ _ _ (jT K (.str _ _))
 ·split
  ·rename_i hv;have:=(by simpa [jby]using hv:b=([]:List Nat))
   subst this;rw[ZZ]at hQ;exact hQ _ _ (jT K (.str _ _))
  ·refine aa (HS _ _) ?_;exact⟨by simp only[jby,Zh,Y8];exact d0 hl,hQ _ _ (nv K (ZV _))⟩
theorem W' (K:aV φ s)(F:fD s P)(hl:xs.length+ys.length<=100000)(ra:VR tk φ s.heap β P (.tup xs) x)(rb:VR tk φ s.heap β P (.tup ys) y):
 Y7 (Y9 af wd) A (jec .Add x y) (aK tk φ s β P (.tup (xs++ys))) ax s:=by
 refine ra.e_tup λa us ea pa il=>rb.e_tup λb vs eb pb lu=>?_;refine Jc ea eb (d0 (by refine rwj il.length ?_;refine rwj lu.length ?_;exact hl)) (λq=>?_) (λq=>?_) (Hx K F (il.append lu))
 ·subst q;refine aa (Z3.mp il.length) ?_;refine aa (jaS _) ?_;exact jT K (.tup eb pb lu)
 ·subst q;refine aa (Z3.mp lu.length) ?_;refine aa (ZZ _) ?_;exact jT K (.tup ea pa il)
theorem Tj (h:(small i||small j)=true):IntMulOk i j:=by
 rcases(jbl _ _).mp h with h|h
 ·exact .of_left (s9 h)
 ·exact .of_right (s9 h)
theorem HG (h:¬(j=0\/(!small j)=true)):small j=true:=by
 induction q:small j using ZC with
 |true=>rfl
 |false=>exact absurd (.inr (by refine aa q ?_;rfl)) h
theorem Sv (h:small j=true):j.natAbs.log2<64:=by
 have h3:=s9 h;unfold Zj at h3;split at h3<;>simp_all<;>exact jiE h3
theorem Uv (h:0<=j/\j<=1000/\small i=true):((Zj i:Nat):Int)*j<=2^27:=by
 have h3:((Zj i:Nat):Int)<=64:=by exact_mod_cast s9 h.2.2
 have h4:((Zj i:Nat):Int)*j<=64*j:=Int.mul_le_mul_of_nonneg_right h3 h.1;have h2:=h.2.1;have h5:(2:Int)^27=134217728:=by decide
 lia
theorem JP (hA:A.handled=none)(K:aV φ s)(O:cr tk φ s.heap β P σ)(F:fD s P)(e:dE σ op a b=some r)(ra:VR tk φ s.heap β P a x)(rb:VR tk φ s.heap β P b y):Y7 (Y9 af wd) A (jec op x y) (aK tk φ s β P r) ax s:=by
 revert x y;refine JO (C:=λop a b r=>∀{x y:Value},VR tk φ s.heap β P a x->VR tk φ s.heap β P b y->Y7 (Y9 af wd) A (jec op x y) (aK tk φ s β P r) ax s)
  (λa b e=>JK (C:=λop a b r=>∀{x y:Value},VR tk φ s.heap β P a x->VR tk φ s.heap β P b y->Y7 (Y9 af wd) A (jec op x y) (aK tk φ s β P r) ax s) ?_ ?_ ?_ ?_ ?_ ?_ e)
  ?_ ?_ ?_ ?_ ?_ ?_ ?_ ?_ ?_ ?_ ?_ ?_ ?_ ?_ e
 ·exact λi j x y ra rb=>ra.e_int λt=>rb.e_int λu=>add_int (fA K)
 ·exact λi j x y ra rb=>ra.e_flt λt Y=>rb.e_flt λu Y=>AutoFloatOps.add_0 (qC (me K))
 ·exact λi j h x y ra rb=>ra.e_int λt=>rb.e_flt λu Y=>add_if_fits (jai (yH h) (by decide +kernel)) (me K)
 ·exact λi j h x y ra rb=>ra.e_str λt=>rb.e_str λu=>VT K h λY Y h=>h
 ·exact λi j h x y ra rb=>W' K F h ra rb
 ·exact λa b xs ys h1 h2 h3 x y ra rb=>Jb K O F h1 h2 h3 ra rb
 ·exact λi j x y ra rb=>ra.e_int λt=>rb.e_int λu=>sub_int (fA K)
 ·exact λi j h x y ra rb=>ra.e_int λt=>rb.e_int λu=>mul_int (fA K) (Tj h)
 ·exact λi j h x y ra rb=>ra.e_int λt=>rb.e_int λu=>floordiv_int (λq=>h (.inl q)) (fA K) (.inl (jgb (jai (Sv (HG h)) (by decide))))
 ·exact λi j h x y ra rb=>ra.e_int λt=>rb.e_int λu=>mod_int' h (fA K)
 ·exact λi j h x y ra rb=>ra.e_int λt=>rb.e_int λu=>pow_int h.1 (Uv h) (fA K)
 ·exact λi j h x y ra rb=>ra.e_int λt=>rb.e_int λu=>lshift_int h.1 (by have:=RF h.2.2;have:=h.2.1;lia) (fA K)
 ·exact λi j h x y ra rb=>ra.e_int λt=>rb.e_int λu=>rshift_int h.1 (fA K)
 ·exact λi j x y ra rb=>ra.e_int λt=>rb.e_int λu=>xor_int (fA K)
 ·exact λi j h x y ra rb=>ra.e_int λt=>rb.e_int λu=>AutoIntOps.truediv_2 (λq=>h (.inl (by simpa using q))) (λq=>h (.inr q)) (qC (me K))
 ·exact λi j h x y ra rb=>ra.e_flt λt Y=>rb.e_flt λu Y=>AutoFloatOps.truediv_1 h (qC (me K))
 ·exact λi j x y ra rb=>ra.e_flt λt Y=>rb.e_flt λu Y=>AutoFloatOps.sub_0 (qC (me K))
 ·exact λi j h x y ra rb=>ra.e_flt λt Y=>rb.e_int λu=>sub_fi_sharp hA (λq=>absurd q (Nat.not_le.mpr (jai (yH h) (by decide +kernel)))) λY=>(me K)
 ·exact λi j x y ra rb=>ra.e_flt λt Y=>rb.e_flt λu Y=>AutoFloatOps.mul_0 (qC (me K))
 ·exact λi j h x y ra rb=>ra.e_flt λt Y=>rb.e_flt λu Y=>AutoFloatOps.mod_1 h (qC (me K))
end
section
open PySem PySem.W PyProof.Rows PySem.SeqAt
set_option backward.match.sparseCases true
theorem RcAt.flt_flt (x y:UInt64)(t u:Tok):RcAt A s (.float x t) (.float y u) (Z9 x y==some .eq):=λaf wd E Q h=>AutoFloatOps.eq_0 (prog:=af) (w:=wd) h
theorem RcAt.flt_int (x:UInt64)(j:Int)(t u:Tok):RcAt A s (.float x t) (.int j u) (jbt x j==some .eq):=λaf wd E Q h=>eq_fi (prog:=af) (w:=wd) h
theorem RcAt.int_flt (x:UInt64)(j:Int)(t u:Tok):RcAt A s (.int j u) (.float x t) (jbt x j==some .eq):=λaf wd E Q h=>eq_if (prog:=af) (w:=wd) h
theorem EqAt.of_rc (cV:(x==y)=false)(hf:∀p t q u,¬(x=.float p t/\y=.float q u))(h:RcAt A s x y b):EqAt A s x y b:=λaf wd E Q hq=>by
 unfold eqBool;refine jaJ ?_;rw[if_neg (by refine aa cV ?_;exact ZY)];revert hf
 induction x using jgs with
 |float p t =>
  induction y using jgs with
  |float q u=>exact λhf=>absurd ⟨rfl,rfl⟩ (hf p t q u)
  |_=>exact λY=>Y6 (h af wd E _ (jaE hq))
 |_=>exact λY=>Y6 (h af wd E _ (jaE hq))
theorem EqAt.flt_flt (K:aV φ s)(hB:jeN s.heap)(hx:φ t x)(hy:φ u y)(FD:(Z9 x x==some jgK)=true):
 EqAt A s (.float x t) (.float y u) (Z9 x y==some .eq):=λaf wd E Q hq=>by
 unfold eqBool;refine jaJ ?_;by_cases hab:((jdh x t)==(.float y u))=true
 ·have:jdh x t=.float y u:=eq_of_beq hab;injection this with h1 h2
  subst h1 h2;refine aa (if_pos hab) ?_;rw[FD]at hq;exact Y6 (jeK (Zu hq))
 ·refine aa (if_neg hab) ?_;show Y7 _ A (do
   let same <-isSame (.float x t) (.float y u)
   if same=true then pure true else do
    let r <-richCompare .Eq (.float x t) (.float y u)
    truthOfDropped r) Q E s
  have h0:(t==0||u==0)=false:=by
   rw[jeJ];exact⟨by simpa using K.pos t x hx,by simpa using K.pos u y hy⟩
  have zP:(t==u)=false:=by
   induction q:t==u using ZC with
   |false=>rfl
   |true =>
    exfalso;have e:=eq_of_beq q;subst e;have:=K.fn t x y hx hy;subst this;exact hab (beq_self_eq_true _)
  have go:∀b:Bool,(b=true->x=y)->Y7 (Y9 af wd) A (if b=true then(pure true:Sem Bool)else do
   let r <-richCompare .Eq (.float x t) (.float y u)
   truthOfDropped r) Q E s:=λb hb=>by
   induction b using ZC with
   |true =>
    have:=hb rfl;subst this;rw[FD]at hq;exact Zu hq
   |false=>exact Y6 (RcAt.flt_flt x y t u af wd E _ (jaE hq))
  refine Y6 (m:=isSame (.float x t) (.float y u)) ?_;show Y7 _ A (jii (x==y&&!jeH x) t u) _ E s;unfold jii;refine aa h0 ?_;refine aa (if_neg ZY) ?_;refine aa zP ?_;refine aa (if_neg ZY) ?_
  induction hc:(x==y&&!jeH x)using ZC with
  |false =>
   simp only[Bool.not_false,if_true];exact Zu (go false λe=>nomatch e)
  |true =>
   have Q1:x=y:=eq_of_beq (jbG.mp hc).1;simp only[Bool.not_true,jcE,if_false];refine Y6 (jhi hB ?_);simp only[jcE,if_false];refine Y6 (jhi hB ?_);simp only[jcE,if_false];exact Y6 (jeK (Y6 (wpAny_askSetting (Zu (go _ λY=>Q1)))))
theorem Bc {x y:List Nat}:((⟨x.toArray⟩:Str)==⟨y.toArray⟩)=decide (x=y):=by
 refine rwj (str_beq _ _) ?_;by_cases h:x=y
 ·subst h;simp
 ·refine aa (decide_eq_false h) ?_;simpa using h
theorem Mg {s:Y1}(K:aV φ s)(hB:jeN s.heap)(e:cJ a b=some r)(ra:VR tk φ s.heap β P a x)(rb:VR tk φ s.heap β P b y):EqAt A s x y r :=
 xW (C:=λa b r=>∀{x y:Value},VR tk φ s.heap β P a x->VR tk φ s.heap β P b y->EqAt A s x y r) (λi j x y ra rb=>ra.e_int λt=>rb.e_int λu=>EqAt.int_int _ _ _ _)
  (λi j h x y ra rb=>ra.e_flt λt h1=>rb.e_flt λu h2=>EqAt.flt_flt K hB h1 h2 h) (λi j x y ra rb=>ra.e_flt λt Y=>rb.e_int λu=>EqAt.of_rc rfl (λY Y Y Y h=>nomatch h.2) (RcAt.flt_int _ _ _ _))
  (λi j x y ra rb=>ra.e_int λt=>rb.e_flt λu Y=>EqAt.of_rc rfl (λY Y Y Y h=>nomatch h.1) (RcAt.int_flt _ _ _ _)) (λi j x y ra rb=>ra.e_str λt=>rb.e_str λu=>Bc▸EqAt.str_str _ _ _ _) e ra rb
theorem Mh {s:Y1}(e:cJ a b=some r)(ra:VR tk φ s.heap β P a x)(rb:VR tk φ s.heap β P b y):RcAt A s x y r :=
 xW (C:=λa b r=>∀{x y:Value},VR tk φ s.heap β P a x->VR tk φ s.heap β P b y->RcAt A s x y r) (λi j x y ra rb=>ra.e_int λt=>rb.e_int λu=>RcAt.int_int _ _ _ _)
  (λi j h x y ra rb=>ra.e_flt λt h1=>rb.e_flt λu h2=>RcAt.flt_flt _ _ _ _) (λi j x y ra rb=>ra.e_flt λt Y=>rb.e_int λu=>RcAt.flt_int _ _ _ _)
  (λi j x y ra rb=>ra.e_int λt=>rb.e_flt λu Y=>RcAt.int_flt _ _ _ _) (λi j x y ra rb=>ra.e_str λt=>rb.e_str λu=>Bc▸RcAt.str_str _ _ _ _) e ra rb
theorem Mi {a b:AV}{as bs:List AV}{r:Bool}{Q:Prop}(h:eN cJ (a::as) (b::bs)=some r)(k:∀r1 r2,cJ a b=some r1->eN cJ as bs=some r2->(r1&&r2)=r->Q):Q:=by
 rw[r7]at h
 induction h1:cJ a b using ae with
 |none=>rw[h1]at h;exact ai h
 |some r1 =>
  induction h2:eN cJ as bs using ae with
  |none=>rw[h1,h2]at h;exact ai h
  |some r2=>rw[h1,h2]at h;exact k r1 r2 h1 h2 (Y0 h)
theorem uN {s:Y1}(K:aV φ s)(hB:jeN s.heap){as:List AV}:∀{bs:List AV}{xs ys:List Value}{r:Bool},as.length=bs.length->eN cJ as bs=some r->ar tk φ s.heap β P as xs->ar tk φ s.heap β P bs ys ->
 ∃e:Nat->Bool,(∀j (h1:j<xs.length) (h2:j<ys.length),EqAt A s xs[j] ys[j] (e j))/\(Y4 xs.length).all e=r:=by
 induction as with
 |nil =>
  intro bs xs ys r hl h ra rb
  induction bs using YZ with
  |cons=>exact nomatch hl
  |nil =>
   refine aa ra.unnil ?_;exact aN (λY=>true) (λj h1=>absurd h1 (jex _)) (Y0 h)
 |cons a as ih =>
  intro bs xs ys r hl h ra rb
  induction bs using YZ with
  |nil=>exact nomatch hl
  |cons b bs =>
   refine bS ra.uncons λx iZ e1 ra UT=>?_;refine bS rb.uncons λy t8 e2 rb UU=>?_;refine aa e1 ?_;refine aa e2 ?_;refine Mi h λr1 r2 h1 h2 e3=>?_;refine au (ih (jcB hl) h2 UT UU) λe he gx=>?_;refine aN (λj=>match j with|0=>r1|j+1=>e j) (λj OX O1=>?_) ?_
   ·induction j using jas with
    |zero=>exact Mg K hB h1 ra rb
    |succ j=>exact he j (jcT OX) (jcT O1)
   ·refine aa Zl ?_;refine aa jgV ?_;refine aa jca ?_;refine aa List.all_map ?_;refine rwj e3 ?_;refine rwj gx ?_;rfl
theorem nz {xs:List Value}(h:j<xs.toArray.size):xs.toArray[j]=xs[j]'(by simpa using h):=by simp
theorem Ml {A:ZS}{s:Y1}(K:aV φ s)(hB:jeN s.heap)(O:cr tk φ s.heap β P σ)(hu:A.units<jgY)(e:jA σ a b=some r)(ra:VR tk φ s.heap β P a x)(rb:VR tk φ s.heap β P b y):RcAt A s x y r:=by
 refine CY (C:=λa b r=>∀{x y:Value},VR tk φ s.heap β P a x->VR tk φ s.heap β P b y->RcAt A s x y r) ?_ ?_ ?_ (λa b r e x y=>Mh e) e ra rb
 ·refine λas bs r hl e x y ra rb=>ra.e_tup λa us ea pa il=>rb.e_tup λb vs eb pb lu=>?_;refine au (uN (A:=A.in1) K hB hl e il lu) λef he gx=>?_;have:=RcAt.tuples (A:=A) (s:=s) (e:=ef) ea eb hu (λj h1 h2=>by refine aa (nz h1) ?_;refine aa (nz h2) ?_;exact he j _ _);rw[Zh,Zh,<-il.length,<-lu.length,hl,jhe,beq_self_eq_true,jfc]at this;rw[<-il.length,hl]at gx;exact gx▸this
 ·intro a b as bs r ow m5 hl e x y ra rb;refine bS (fx O ow ra) ?_;rintro l xs rfl h1 r1;refine bS (fx O m5 rb) ?_;rintro l' ys rfl h2 r2;refine au (uN (A:=A.in1) K hB hl e r1 r2) λef he gx=>?_;have:=RcAt.lists (A:=A) (s:=s) (e:=ef) h1 h2 (by refine aa Zh ?_;refine aa Zh ?_;refine rwj r1.length ?_;refine rwj r2.length ?_;refine aa hl ?_;rfl) hu (λj h1 h2=>by refine aa (nz h1) ?_;refine aa (nz h2) ?_;exact he j _ _);rw[Zh,gx]at this;exact this
 ·intro a b as bs ow m5 hl x y ra rb;refine bS (fx O ow ra) ?_;rintro l xs rfl h1 r1;refine bS (fx O m5 rb) ?_;rintro l' ys rfl h2 r2;exact RcAt.lists_lengths h1 h2 (by refine aa Zh ?_;refine aa Zh ?_;refine rwj r1.length ?_;refine rwj r2.length ?_;simpa using hl) hu
theorem Mf (e:cJ a b=some r)(ra:VR tk φ s.heap β P a x)(rb:VR tk φ s.heap β P b y):RcNeAt A s x y (!r):=
 xW (C:=λa b r=>∀{x y:Value},VR tk φ s.heap β P a x->VR tk φ s.heap β P b y->RcNeAt A s x y (!r)) (λi j x y ra rb=>ra.e_int λt=>rb.e_int λu=>RcNeAt.int_int _ _ _ _)
  (λi j h x y ra rb=>ra.e_flt λt h1=>rb.e_flt λu h2=>λaf wd E Q h=>AutoFloatOps.ne_0 (prog:=af) (w:=wd) h) (λi j x y ra rb=>ra.e_flt λt Y=>rb.e_int λu=>λaf wd E Q h=>ne_fi (prog:=af) (w:=wd) h)
  (λi j x y ra rb=>ra.e_int λt=>rb.e_flt λu Y=>λaf wd E Q h=>ne_if h) (λi j x y ra rb=>ra.e_str λt=>rb.e_str λu=>Bc▸RcNeAt.str_str _ _ _ _) e ra rb
theorem Mk (K:aV φ s)(hB:jeN s.heap)(O:cr tk φ s.heap β P σ)(hu:A.units<jgY)(e:jA σ a b=some r)(ra:VR tk φ s.heap β P a x)(rb:VR tk φ s.heap β P b y):RcNeAt A s x y (!r):=by
 refine CY (C:=λa b r=>∀{x y:Value},VR tk φ s.heap β P a x->VR tk φ s.heap β P b y->RcNeAt A s x y (!r)) ?_ ?_ ?_ (λa b r e x y=>Mf e) e ra rb
 ·refine λas bs r hl e x y ra rb=>ra.e_tup λa us ea pa il=>rb.e_tup λb vs eb pb lu=>?_;refine au (uN (A:=A.in1) K hB hl e il lu) λef he gx=>?_;have:=RcNeAt.tuples (A:=A) (s:=s) (e:=ef) ea eb hu (λj h1 h2=>by refine aa (nz h1) ?_;refine aa (nz h2) ?_;exact he j _ _);rw[Zh,Zh,<-il.length,<-lu.length,hl,jhe,beq_self_eq_true,jfc]at this;rw[<-il.length,hl]at gx;exact gx▸this
 ·intro a b as bs r ow m5 hl e x y ra rb;refine bS (fx O ow ra) ?_;rintro l xs rfl h1 r1;refine bS (fx O m5 rb) ?_;rintro l' ys rfl h2 r2;refine au (uN (A:=A.in1) K hB hl e r1 r2) λef he gx=>?_;have:=RcNeAt.lists (A:=A) (s:=s) (e:=ef) h1 h2 (by refine aa Zh ?_;refine aa Zh ?_;refine rwj r1.length ?_;refine rwj r2.length ?_;refine aa hl ?_;rfl) hu (λj h1 h2=>by refine aa (nz h1) ?_;refine aa (nz h2) ?_;exact he j _ _);rw[Zh,gx]at this;exact this
 ·intro a b as bs ow m5 hl x y ra rb;refine bS (fx O ow ra) ?_;rintro l xs rfl h1 r1;refine bS (fx O m5 rb) ?_;rintro l' ys rfl h2 r2;exact RcNeAt.lists_lengths h1 h2 (by refine aa Zh ?_;refine aa Zh ?_;refine rwj r1.length ?_;refine rwj r2.length ?_;simpa using hl) hu
inductive d9:List Int->List Value->Prop
 |nil:d9 [] []
 |cons {i:Int}{t:Tok}{is:List Int}{xs:List Value} (r:d9 is xs):d9 (i::is) (.int i t::xs)
theorem Jo {v:AV}{vs:List AV}{is:List Int}{Q:Prop}(e:cQ (v::vs)=some is)(k:∀i js,v=.int i->cQ vs=some js->i::js=is->Q):Q:=by
 induction v using AV.casesOn with
 |int i =>
  rw[cQ,gO]at e
  induction h:bh Aa vs using ae with
  |none=>rw[h]at e;exact ai e
  |some js=>rw[h]at e;exact k i js rfl h (Y0 e)
 |_=>exact ai e
theorem rH {vs:List AV}{is:List Int}{xs:List Value}(e:cQ vs=some is)(r:ar tk φ h β P vs xs):d9 is xs :=
 r.ind (motive:=λvs xs=>∀is,cQ vs=some is->d9 is xs) (λis e=>aG (Q:=λis=>d9 is []) (show some []=some is from e) .nil)
  (λa Y ih is e=>Jo e λi js e1 e2 e3=>by
   refine aW ((e1▸a).intv) λt e4=>?_;refine rwj e3 ?_;refine aa e4 ?_;exact .cons (ih js e2)) is e
def pp:Value->Option Int
 | .int i _=>some i
 |_=>none
theorem d9.any (r:d9 is xs):(xs.any λy=>pp y==some i)=is.any (·==i):=by
 induction r with
 |nil=>rfl
 |cons _ ih=>refine aa jeZ ?_;refine aa jeZ ?_;refine aa ih ?_;rfl
theorem d9.mem (r:d9 is xs):∀y∈xs,∃j u,y=.int j u:=by
 induction r with
 |nil=>exact λy hy=>nomatch hy
 |cons _ ih=>exact λy hy=>(ZM.mp hy).elim (λe=>jO _ _ e) (ih y)
theorem d9.at (r:d9 is xs):∀y,y∈xs.toArray->EqAt A s y (.int i t) (pp y==some i):=λy hy=>by
 refine fq (r.mem y (by simpa using hy)) ?_;rintro j u rfl;exact EqAt.int_int _ _ _ _
theorem d9.length (r:d9 is xs):is.length=xs.length:=by
 induction r with
 |nil=>rfl
 |cons _ ih=>exact congrArg (·+1) ih
theorem RB (K:aV φ s)(I:bg G s.heap)(ra:VR G.tok φ s.heap β P (.str cs) x)(rb:VR G.tok φ s.heap β P .tok y):Y7 (Y9 af wd) A (jgq .In x y) (aK G.tok φ s β P (.bool (cA.lookup cs).isSome)) ax s:=by
 refine ra.e_str λt=>rb.e_tok ?_;refine fk I.tok λf hm h1 h2=>?_;refine wpAny_in_of (k:=⟨cs.toArray⟩) (strKind_is af wd _ t) I.tokMod hm ?_;have:(f ⟨cs.toArray⟩).isSome=(cA.lookup cs).isSome:=by
  induction q:cA.lookup cs using ae with
  |none=>refine aa (h2 ⟨cs.toArray⟩ (show cA.lookup _=none from q)) ?_;rfl
  |some k=>refine aW (h1 ⟨cs.toArray⟩ k (show cA.lookup _=some k from q)) λt ht=>?_;refine aa ht ?_;rfl
 refine aa this ?_;exact⟨φ,.same K bF.tok (ZV _),.bool _⟩
theorem F3 (O:cr tk φ s.heap β P σ)(hl:aQ σ l=some vs)(h:cQ vs=some is)(ra:VR tk φ s.heap β P (.int i) x)(rb:VR tk φ s.heap β P l y):
 (Q (.bool (is.any (·==i))) s->Y7 (Y9 af wd) A (jgq .In x y) Q ax s)/\(Q (.bool (!is.any (·==i))) s->Y7 (Y9 af wd) A (jgq .NotIn x y) Q ax s):=by
 refine aW ra.intv ?_;rintro t rfl;refine bS (fx O hl rb) ?_;rintro l xs rfl h1 r1;have hi:=rH h r1;refine rwj hi.any ?_;exact⟨λhQ=>in_listAt _ h1 hi.at (by refine aa jip ?_;exact hQ),λhQ=>notIn_listAt _ h1 hi.at (by refine aa jip ?_;exact hQ)⟩
theorem Cs (K:aV φ s)(I:bg G s.heap)(O:cr G.tok φ s.heap β P σ)(hu:A.units<jgY)(e:j3 σ op a b=some r)(ra:VR G.tok φ s.heap β P a x)(rb:VR G.tok φ s.heap β P b y):Y7 (Y9 af wd) A (jgq op x y) (aK G.tok φ s β P (.bool r)) ax s:=by
 refine KY (C:=λop a b r=>∀{x y:Value},VR G.tok φ s.heap β P a x->VR G.tok φ s.heap β P b y->Y7 (Y9 af wd) A (jgq op x y) (aK G.tok φ s β P (.bool r)) ax s) ?_ ?_ ?_ ?_ ?_ ?_ ?_ ?_ ?_ ?_ ?_ ?_ e ra rb
 ·exact λa b r e x y ra rb=>cmp_ofEq (Ml K I.booked O hu e ra rb af wd _ _ (jm K))
 ·exact λa b r e x y ra rb=>cmp_ofNotEq (Mk K I.booked O hu e ra rb af wd _ _ (jm K))
 ·exact λi j x y ra rb=>ra.e_int λt=>rb.e_int λu=>PyProof.Rows.lt_int (jm K)
 ·exact λi j x y ra rb=>ra.e_int λt=>rb.e_int λu=>PyProof.Rows.le_int (jm K)
 ·exact λi j x y ra rb=>ra.e_int λt=>rb.e_int λu=>PyProof.Rows.gt_int (jm K)
 ·exact λi j x y ra rb=>ra.e_int λt=>rb.e_int λu=>PyProof.Rows.ge_int (jm K)
 ·exact λi j x y ra rb=>ra.e_flt λt Y=>rb.e_flt λu Y=>AutoFloatOps.le_0 (jm K)
 ·exact λi j x y ra rb=>ra.e_bool (rb.e_bool (is_bool (jm K)))
 ·exact λi j x y ra rb=>ra.e_bool (rb.e_bool (isnot_bool (jm K)))
 ·exact λi x y ra rb=>RB K I ra rb
 ·exact λi l vs is hl h x y ra rb=>(F3 O hl h ra rb).1 (jm K)
 ·exact λi l vs is hl h x y ra rb=>(F3 O hl h ra rb).2 (jm K)
theorem JQ (i:Int):jif i=-i-1:=by unfold jif;exact rfl
theorem Xh (K:aV φ s)(e:qV op a=some r)(ra:VR tk φ s.heap β P a x):Y7 (Y9 af wd) A (unaryOp op x) (aK tk φ s β P r) ax s :=
 Xg (C:=λop a r=>∀{x:Value},VR tk φ s.heap β P a x->Y7 (Y9 af wd) A (unaryOp op x) (aK tk φ s β P r) ax s) (λi x ra=>ra.e_int λt=>PyProof.Rows.neg_int (fA K))
  (λi x ra=>ra.e_int λt=>invert_int (JQ i▸fA K)) (λb x ra=>ra.e_bool (not_of (jaE (jm K)))) e ra
theorem VX (slice:Expr)(o i:Value):∃tx,jiy slice false o i=operate tx (jhQ o i):=by
 have two:jiy slice false o i=operate [o,i] (jhQ o i)\/jiy slice false o i=operate [i,o] (jhQ o i):=by
  induction slice using ZR with
  |Slice a b c d=>induction c using ae with
   |none=>exact .inr rfl
   |some=>exact .inl rfl
  |_=>exact .inl rfl
 exact two.elim (λe=>⟨_,e⟩) λe=>⟨_,e⟩
theorem qU {s:Y1}{value slice:Expr}{o i:Value}{T id:String}{Q:Value->Y1->Prop}{E:Value->Y1->Prop}(hT:s.TypeIs o T)(hl:typeLookup (.type T) "__getitem__" = pure (some (.builtin id))) (hg:Y7 (Y9 af wd) A (jhQ o i) Q E s):Y7 (Y9 af wd) A (jcJ value slice o i) Q E s :=
 let⟨_,e⟩:=VX slice o i
 tail_any hT hl hg e
theorem xU (O:cr tk φ h β P σ)(e:gH σ v=some es)(r:VR tk φ h β P v x):
 ∃(a:Zb) (ks:List Int) (vs:List AV) (xs:List Value),x=.ref a/\es=ks.zip vs/\ks.length=vs.length/\h.DictOf (jal af wd) a (ks.zip xs)/\ar tk φ h β P vs xs:=by
 induction v using AV.casesOn with
 |dct es' =>
  have e:es'=es:=Y0 e;exact e▸r.e_dct λa ks vs xs h1 h2 h3 Y h5=>zZ a ks vs xs rfl h1 h2 h3 h5
 |ref i =>
  have e:(match σ[i]? with|some (.dict es)=>some es|_=>none)=some es:=e
  induction hi:σ[i]? using ae with
  |none=>rw[hi]at e;exact ai e
  |some o =>
   rw[hi]at e
   induction o using AO.casesOn with
   |dict es' =>
    have e:es'=es:=Y0 e;refine au (O i _ hi (λq=>nomatch q)) λa' h1 h2=>?_;refine r.e_ref λa hb=>h2.e_dict λks vs xs e1 e2 e3 e4=>?_;cases hb.symm.trans h1;exact zZ a' ks vs xs rfl (e▸e1) e2 e3 e4
   |_=>exact ai e
 |_=>exact ai e
theorem Xr {K:Type}[DecidableEq K]{a k:K}{x:Value}{l:List (K×Value)}(h:(k==a)=false):jdd ((a,x)::l) k=jdd l k:=by
 have:¬a=k:=λz=>by rw[z,beq_self_eq_true]at h;exact nomatch h
 unfold jdd;refine aa (List.find?_cons_of_neg (by simpa using this)) ?_;rfl
theorem IH {k:Int}{vs:List AV}{xs:List Value}(r:ar tk φ h β P vs xs):∀ks:List Int,(∀v,(ks.zip vs).lookup k=some v->∃x,jdd (ks.zip xs) k=some x/\VR tk φ h β P v x)/\((ks.zip vs).lookup k=none->jdd (ks.zip xs) k=none):=
 r.ind (motive:=λvs xs=>∀ks:List Int,(∀v,(ks.zip vs).lookup k=some v->∃x,jdd (ks.zip xs) k=some x/\VR tk φ h β P v x)/\((ks.zip vs).lookup k=none->jdd (ks.zip xs) k=none))
  (λks=>by refine aa jfd ?_;refine aa jfd ?_;exact⟨λY e=>ai e,λY=>rfl⟩) (λ{v x vs xs} ra Y ih ks=>by
   induction ks using YZ with
   |nil=>exact⟨λY e=>ai e,λY=>rfl⟩
   |cons a ks =>
    refine aa jbc ?_;refine aa jbc ?_;refine aa ZU ?_
    induction q:k==a using ZC with
    |true =>
     refine⟨λv' e=>aN x ?_ (Y0 e▸ra),λe=>GW e⟩;refine aa (eq_of_beq q) ?_;unfold jdd;refine aa (List.find?_cons_of_pos (by simp)) ?_;rfl
    |false=>refine aa (Xr q) ?_;exact ih ks)
theorem II {ks:List Int}(e:(ks.zip vs).lookup k=some v)(r:ar tk φ h β P vs xs):∃x,jdd (ks.zip xs) k=some x/\VR tk φ h β P v x:=(IH r ks).1 v e
theorem XP {ks:List Int}(e:(ks.zip vs).lookup k=none)(r:ar tk φ h β P vs xs):jdd (ks.zip xs) k=none:=(IH r ks).2 e
theorem NY (h:k.natAbs<2^53):-(2^63)<=k/\k<2^63:=by omega
theorem AM (e:fO k n=some j):jfj k n=some j/\-(2^63)<=k/\k<2^63:=bR e λh e=>⟨e,NY (yH h)⟩
set_option tactic.hygienic true in
theorem ON {s:Y1}{xs:List Value}(hl:s.heap.IsList l xs.toArray)(e:fO k xs.length=some j)(hx:xs[j]?=some x)(h:Q x s):Y7 (Y9 af wd) A (jhQ (.ref l) (.int k t)) Q E s:=by
 refine fY (AM e) λh1 h2 h3=>?_;unfold jfj at h1;by_cases h0:k<0
 ·simp only[h0,if_true]at h1;split at h1
  ·rename_i h4;cases h1;simp only[Zs,decide_eq_true_eq]at h4;exact wpAny_getItem_list_neg hl h0 (by simp only[Zh];lia) h2 (by simpa using hx) h
  ·cases h1
 ·simp only[h0,if_false]at h1;split at h1
  ·cases h1;exact wpAny_getItem_list hl (by lia) h3 (by simpa using hx) h
  ·cases h1
theorem Rn {s:Y1}(K:aV φ s)(O:cr tk φ s.heap β P σ)(e:m9 σ a i=some r)(ra:VR tk φ s.heap β P a x)(ri:VR tk φ s.heap β P i y):Y7 (Y9 af wd) A (jcJ value slice x y) (aK tk φ s β P r) ax s:=by
 refine Rm (C:=λa i r=>∀{x y:Value},VR tk φ s.heap β P a x->VR tk φ s.heap β P i y->Y7 (Y9 af wd) A (jcJ value slice x y) (aK tk φ s β P r) ax s) ?_ ?_ ?_ ?_ e ra ri
 ·refine λvs k j r h1 h2 x y ra ri=>ra.e_tup λa xs ea pa il=>ri.e_int λt=>?_;refine fY (AM h1) λp1 p2 p3=>?_;refine au (il.get h2) λz hz rz=>?_;exact qU ea.typeIs slot_tuple_getitem.lookup (getItem_tuple ea p2 p3 (by rw[il.length]at p1;exact p1) (by simpa using hz) (jT K rz))
 ·refine λcs k j c h1 hc x y ra ri=>ra.e_str λt=>ri.e_int λu=>?_;refine fY (AM h1) λp1 p2 p3=>?_;refine qU (jcP _ _ _) slot_str_getitem.lookup (PyProof.Rows.getItem_str ?_ (c:=c) ?_ (nv (x:=[c]) K (ZV _)))
  ·rw[jeJ,decide_eq_false_iff_not,decide_eq_false_iff_not];exact⟨Int.not_lt.mpr p2,Int.not_le.mpr p3⟩
  ·show(jfj k cs.toArray.size).bind _=_;refine aa Zh ?_;refine aa p1 ?_;simpa using hc
 ·refine λa k vs j r hl h3 h2 x y ra ri=>ri.e_int λu=>?_;refine bS (fx O hl ra) ?_;rintro l xs rfl h1 r1;refine au (r1.get h2) λz hz rz=>?_;exact qU h1.typeIs slot_list_getitem.lookup (ON h1 (r1.length▸h3) hz (jT K rz))
 ·refine λa k es r hd e x y ra ri=>ri.e_int λu=>?_;refine sj (xU O hd ra) ?_;rintro d ks vs xs rfl rfl hl h1 r1;refine au (II e r1) λz hz rz=>?_;exact qU h1.mapOf.typeIs slot_dict_getitem.lookup (wpAny_getItem_of (jea _ _ _ _) h1.mapOf hz ⟨φ,.same K bF.tok (ZV _),rz⟩)
theorem aK.after (k:Go s φ ak ay)(h:Y7 (Y9 af wd) A t (aK tk ay ak β P r) ax ak):Y7 (Y9 af wd) A t (aK tk φ s β P r) ax ak :=
 up h λ_ _ ⟨am,k',r'⟩=>⟨am,k.trans k',r'⟩
abbrev kA (vl vu:Value):Obj:={ cls:=.type "slice",data:=.fields #[vl,vu,.none] }
theorem Um {s:Y1}{f:{α:Type}->List α->List α}{lo hi:Option Int}{vl vu x:Value}{value slice:Expr}{vs:List AV}{a:AV}(K:aV φ s)(O:cr tk φ s.heap β P σ)(F:fD s P)(hl:aQ σ a=some vs)(aT:vs.length<=100000)(ra:VR tk φ s.heap β P a x)(pl:IsPart vl lo)(pu:IsPart vu hi)(hf:∀xs:List Value,jhH xs.toArray lo hi none=(f xs).toArray)(hr:∀{xs:List Value},ar tk φ s.heap β P vs xs->ar tk φ s.heap β P (f vs) (f xs)):
 Y7 (Y9 af wd) A (jcJ value slice x (.ref s.heap.objs.size)) (aK tk φ s β P (.lst (f vs))) ax { s with heap:=s.heap.push (kA vl vu) }:=by
 refine bS (fx O hl ra) ?_;rintro l xs rfl h1 r1;have k:Go s φ { s with heap:=s.heap.push (kA vl vu) } φ:=.same K bF.push (Y2 _);refine aK.after k (qU (Heap.IsList.typeIs (s:={ s with heap:=s.heap.push (kA vl vu) }) (h1.push _)) slot_list_getitem.lookup
  (wpAny_getItem_list_slice (h1.push _) (jja ..) pl pu .none (by simp) ?_ (d0 (by refine aa Zh ?_;refine rwj r1.length ?_;exact aT))))
 refine aa (hf _) ?_;exact AW (s:={ s with heap:=s.heap.push (kA vl vu) }) k.tk (F.go k) ((hr r1).ext k.ext)
theorem SU (hl:x.length<=jcK)(h:Q (.str x s.toks) { s with toks:=s.toks+1 }):(Made.str x).post Q s:=⟨hl,h⟩
set_option tactic.hygienic true in
theorem Uo {s:Y1}{cs ds:List Nat}{lo hi:Option (Int×Tok)}(K:aV φ s)(aT:ds.length<=100000)(hf:jar ⟨cs.toArray⟩ (lo.map (·.1)) (hi.map (·.1))=⟨ds.toArray⟩):
 Y7 (Y9 af wd) A (jcJ value slice (.str ⟨cs.toArray⟩ t) (.ref s.heap.objs.size)) (aK tk φ s β P (.str ds)) ax { s with heap:=s.heap.push (kA (jaZ lo) (jaZ hi)) }:=by
 have k:Go s φ { s with heap:=s.heap.push (kA (jaZ lo) (jaZ hi)) } φ:=.same K bF.push (Y2 _);refine aK.after k (qU (jcP _ _ _) slot_str_getitem.lookup (wpAny_getItem_str_slice (l:=lo) (u:=hi) (st:=none) ⟨_,ZW _ rfl,rfl,rfl⟩ rfl ?_));unfold jar at hf;unfold sliceMade slicePicked;simp only[Option.map_none,Option.getD_none,beq_self_eq_true,jcw];split
 ·rename_i hw;rw[if_pos (by simpa using hw)]at hf;have:cs=ds:=by
   have:=congrArg (λx:Str=>x.cps.toList) hf;simpa using this
  subst this;exact jT (s:={ s with heap:=s.heap.push (kA (jaZ lo) (jaZ hi)) }) k.tk (.str _ _)
 ·rename_i hw;rw[if_neg (by simpa using hw)]at hf;refine aa hf ?_;exact SU (d0 (by simpa [jby]using aT)) (nv (s:={ s with heap:=s.heap.push (kA (jaZ lo) (jaZ hi)) }) k.tk (ZV _))
theorem Wj (cs:List Nat)(h:0<=j):jar ⟨cs.toArray⟩ none (some j)=⟨(cs.take j.toNat).toArray⟩:=by
 obtain⟨n,rfl⟩:=jbk h;rw[Zx];by_cases hj:n<=cs.length
 ·refine aa (jgP (x:=⟨cs.toArray⟩) ⟨h,by simpa using hj⟩) ?_;simp
 ·have e:jar ⟨cs.toArray⟩ none (some (n:Int))=jar ⟨cs.toArray⟩ none (some (cs.length:Int)):=by
   unfold jar;refine aa (sliceIdx_hi_beyond _ (j:=(n:Int)) (by simp only[jby,Zh];lia)) ?_;simp[jby]
  refine aa e ?_;refine aa (jgP (x:=⟨cs.toArray⟩) ⟨Zf cs.length,by simp⟩) ?_;refine aa (jgU (jiG hj)) ?_;simp
theorem Wi (cs:List Nat)(h:0<=j):jar ⟨cs.toArray⟩ (some j) none=⟨(cs.drop j.toNat).toArray⟩:=by
 obtain⟨n,rfl⟩:=jbk h;rw[Zx];by_cases hj:n<=cs.length
 ·refine aa (jgt (x:=⟨cs.toArray⟩) ⟨h,by simpa using hj⟩) ?_;show(⟨((cs.drop n).take ((cs.length:Int)-n).toNat).toArray⟩:Str)=_;rw[jgU (by refine aa jbv ?_;refine aa (Int.toNat_sub ..) ?_;exact Y2 _)]
 ·have e:jar ⟨cs.toArray⟩ (some (n:Int)) none=jar ⟨cs.toArray⟩ (some (cs.length:Int)) none:=by
   unfold jar;refine aa (sliceIdx_lo_beyond _ (i:=(n:Int)) (by simp only[jby,Zh];lia)) ?_;simp[jby]
  refine aa e ?_;refine aa (jgt (x:=⟨cs.toArray⟩) ⟨Zf cs.length,by simp⟩) ?_;refine aa (List.drop_of_length_le (jiG hj)) ?_;simp
theorem Us (xs:List Value)(h:0<=j):jhH xs.toArray none (some j) none=(xs.take j.toNat).toArray:=by
 have:j=(j.toNat:Int):=(jbL h).symm;refine aa this ?_;refine aa (slicePick_upto' _ _) ?_;simp[jiR h]
theorem Ur (xs:List Value)(h:0<=j):jhH xs.toArray (some j) none none=(xs.drop j.toNat).toArray:=by
 have:j=(j.toNat:Int):=(jbL h).symm;refine aa this ?_;refine aa (slicePick_from' _ _) ?_;simp[jiR h]
set_option tactic.hygienic true in
theorem Hg {s:Y1}{f:{α:Type}->List α->List α}{lo hi:Option (Int×Tok)}(K:aV φ s)(O:cr tk φ s.heap β P σ)(F:fD s P)(e:md σ f a=some r)(ra:VR tk φ s.heap β P a x)(pl:IsPart (jaZ lo) (lo.map (·.1)))(pu:IsPart (jaZ hi) (hi.map (·.1)))(h1:∀xs:List Value,jhH xs.toArray (lo.map (·.1)) (hi.map (·.1)) none=(f xs).toArray)(aO:∀cs:List Nat,(f cs).length<=cs.length)(h2:∀cs,jar ⟨cs.toArray⟩ (lo.map (·.1)) (hi.map (·.1))=⟨(f cs).toArray⟩)(hr:∀{vs:List AV}{xs:List Value},ar tk φ s.heap β P vs xs->ar tk φ s.heap β P (f vs) (f xs)):
 Y7 (Y9 af wd) A (jcJ value slice x (.ref s.heap.objs.size)) (aK tk φ s β P r) ax { s with heap:=s.heap.push (kA (jaZ lo) (jaZ hi)) }:=by
 unfold md at e;split at e
 ·split at e
  ·rename_i aT;cases e;cases ra;exact Uo K (YY (aO _) aT) (h2 _)
  ·cases e
 ·split at e
  ·rename_i hl;split at e
   ·rename_i aT;cases e;exact Um (f:=f) K O F hl aT ra pl pu h1 hr
   ·cases e
  ·cases e
theorem Vp {s:Y1}{lo hi:Option (Int×Tok)}(K:aV φ s)(O:cr tk φ s.heap β P σ)(F:fD s P)(e:qQ σ a (lo.map (·.1)) (hi.map (·.1))=some r)(ra:VR tk φ s.heap β P a x):
 Y7 (Y9 af wd) A (jcJ value slice x (.ref s.heap.objs.size)) (aK tk φ s β P r) ax { s with heap:=s.heap.push (kA (jaZ lo) (jaZ hi)) }:=by
 induction lo using ae with
 |none =>
  induction hi using ae with
  |none=>exact ai e
  |some u =>
   obtain⟨u,t⟩:=u;exact bR (show(if 0<=u then _ else none)=some r from e) λh0 e=>Hg K O F e ra .none (.int _ _) (λxs=>Us xs h0) (λcs=>jhk _ _) (λcs=>Wj cs h0) λr=>r.take _
 |some l =>
  induction hi using ae with
  |none =>
   obtain⟨u,t⟩:=l;exact bR (show(if 0<=u then _ else none)=some r from e) λh0 e=>Hg K O F e ra (.int _ _) .none (λxs=>Ur xs h0) (λcs=>by refine aa jbv ?_;simp) (λcs=>Wi cs h0) λr=>r.drop _
  |some u=>exact ai e
theorem ik (K:aV φ s)(ext:∀b o,s.heap.get? b=some o->h'.get? b=some o)(u:Up s { s with heap:=h',toks:=t })(hr:VR tk φ h' β P r v):aK tk φ s β P r v { s with heap:=h',toks:=t }:=
 ⟨φ,.same K ⟨⟨h',t,rfl,ext⟩,u.size⟩ u.toks,hr⟩
theorem d9.items:∀{is:List Int}{xs:List Value},d9 is xs->∃eJ:Array (Int×Tok),xs.toArray=intItems eJ/\eJ.toList.map (·.1)=is
 |_,_,.nil=>aN (#[]) (by simp[intItems]) rfl
 |_,_,.cons (i:=i) (t:=t) r=>by
  refine au r.items λeJ h1 h2=>?_;refine aN (((i,t)::eJ.toList).toArray) ?_ ?_
  ·apply Array.toList_inj.mp;have:=congrArg Array.toList h1;simp[intItems]at this ⊢;exact this
  ·simp[h2]
theorem wi (h:eJ.toList.map (·.1)=is)(j:Nat):jgD eJ j=(is[j]?).getD 0:=by
 subst h;simp[jgD]
theorem Bf (a b:List Int):ek (a++b)=ek a+ek b:=by
 induction a with
 |nil=>exact(Int.zero_add _).symm
 |cons i a ih=>exact(congrArg (i+·) ih).trans (Int.add_assoc ..).symm
theorem tO:∀{is:List Int},(∀i∈is,0<=i)->0<=ek is
 | [],_=>jhF _
 |i::is,h=>by
  exact Int.add_nonneg (h i (.head _)) (tO λj hj=>h j (.tail _ hj))
theorem AP (h:eJ.toList.map (·.1)=is):∀n,preSum (jgD eJ) n=ek (is.take n)
 |0=>rfl
 |n+1=>by
  rw[preSum,AP h n,wi h,List.take_add_one,Bf]
  induction is[n]? using ae with
  |none=>simp[Bh,wx]
  |some i=>simp[Bh,wx]
theorem VZ (hp:∀i∈is,0<=i)(n:Nat):0<=ek (is.take n)/\ek (is.take n)<=ek is:=by
 have e:ek is=ek (is.take n)+ek (is.drop n):=by rw[<-Bf,jhf]
 have h1:=tO (is:=is.take n) λi hi=>hp i (jeF hi);have h2:=tO (is:=is.drop n) λi hi=>hp i (jeG hi)
 lia
theorem Si (hp:∀i∈is,0<=i)(hi:i∈is):i<=ek is:=by
 refine fq (List.append_of_mem hi) ?_;rintro a b rfl;have h1:=tO (is:=a) λi hi=>hp i (by simp[hi]);have h2:=tO (is:=b) λi hi=>hp i (by simp[hi]);rw[Bf];simp only[Bh,wx]
 lia
theorem V1 (hA:A.handled=none)(K:aV φ s)(hl:s.heap.IsList l xs.toArray)(hi:d9 is xs)(hp:∀i∈is,0<=i)(hs:ek is<2^53):
 Y7 (Y9 af wd) A (call (.builtin "sum") [.ref l]) (aK tk φ s β P (.int (ek is))) ax s:=by
 refine au hi.items λeJ h1 h2=>?_;rw[h1]at hl;have bd:eJ.size=is.length:=by refine rwj h2 ?_;simp
 refine eF (sum_intList hA hl (λj hj=>?_) λh' t t' ext u=>?_)
 ·refine⟨?_,?_⟩
  ·refine aa (wi h2 _) ?_;have lX:j<is.length:=by lia
   refine aa (Y' lX) ?_;refine aa jfo ?_;have a1:=hp _ (jbw lX);have a2:=Si hp (jbw lX);exact⟨by lia,by lia⟩
  ·refine aa (AP h2 _) ?_;have:=VZ hp (j+1);exact⟨by lia,by lia⟩
 ·refine aa (AP h2 _) ?_;refine aa bd ?_;refine aa jfC ?_;exact ik K ext u (.int _ _)
theorem GI:∀(js:List Int) (i:Int),i<=gz i js/\(∀j∈js,j<=gz i js)/\(gz i js=i\/gz i js∈js)
 | [],i=>cz (jhF _) (λY h=>(nomatch h)) (.inl rfl)
 |j::js,i=>by
  refine fY (GI js (if i<j then j else i)) λh1 h2 h3=>?_;have hm:i<=(if i<j then j else i)/\j<=(if i<j then j else i):=by split<;>lia
  simp only[S7,S8];refine cz (jhg hm.1 h1) ?_ ?_
  ·intro k hk;rcases ZM.mp hk with rfl|hk
   ·exact jhg hm.2 h1
   ·exact h2 k hk
  ·rcases h3 with h3|h3
   ·refine aa h3 ?_;split
    ·exact .inr (.head _)
    ·exact .inl rfl
   ·exact .inr (.tail _ h3)
theorem S9 (hA:A.handled=none)(K:aV φ s)(hl:s.heap.IsList l xs.toArray)(hi:d9 (i::is) xs):
 Y7 (Y9 af wd) A (call (.builtin "max") [.ref l]) (aK tk φ s β P (.int (gz i is))) ax s:=by
 refine au hi.items λeJ h1 h2=>?_;rw[h1]at hl;have bd:eJ.size=is.length+1:=by
  have:=congrArg jaK h2;simpa using this
 refine eF (max_intList hA hl (by simp[*]) λv h' t hv ext u=>?_);refine aW (intItems_at hv) ?_;rintro tt rfl;refine bN (argBest_gt (jgD eJ) (eJ.size-1)) λb1 b2=>?_;have e:jgD eJ (jfm (λi j=>decide (jgD eJ i>jgD eJ j)) (eJ.size-1))=gz i is:=by
  refine fY (GI is i) λm1 m2 m3=>?_;have up:∀x∈(i::is),x<=gz i is:=λx hx=>by
   rcases ZM.mp hx with rfl|hx
   ·exact m1
   ·exact m2 x hx
  have eQ:gz i is∈(i::is):=by
   rcases m3 with m3|m3
   ·refine aa m3 ?_;exact .head _
   ·exact .tail _ m3
  obtain⟨k,hk,f8⟩:=jdm.mp eQ;have c1:=b2 k (by refine aa bd ?_;simp only[Zl]at hk;exact jbH hk);rw[wi h2 k,Y' hk,f8,jfo]at c1;have c2:jgD eJ (jfm (λi j=>decide (jgD eJ i>jgD eJ j)) (eJ.size-1))<=gz i is:=by
   refine aa (wi h2 _) ?_;refine aa (Y' (by simp only[Zl];omega)) ?_;refine aa jfo ?_;exact up _ (jbw _)
  lia
 refine aa e ?_;exact ik K ext u (.int _ _)
set_option tactic.hygienic true in
theorem AA (hb:small b=true):Builtin.divisionGoesByPylong a b=false:=by
 refine jgb ?_;have h3:=s9 hb;unfold Zj at h3;split at h3
 ·rename_i hz;simp_all
 ·exact bw h3 rfl
def o9 (s:Y1)(is:List Int)(v:Value):Prop :=
 ∃(r:Zb) (a b c:Int) (t u x:Tok) (n:Nat),v=.ref r/\IsRange s.heap r a b c t u x/\jef a b c=true/\jaD a b c=n/\n<=100000/\is=gP a c n
theorem UP (hc:0<c):0<=jaD a b c:=by
 unfold jaD;refine aa (if_pos (hc)) ?_;split
 ·have:0<=(b-a-1)/c:=Int.ediv_nonneg (by lia) (by lia);omega
 ·exact jhF _
set_option tactic.hygienic true in
theorem AZ (e:fQ a b c=some is)(hr:IsRange s.heap r a b c t u x):o9 s is (.ref r):=by
 unfold fQ at e;split at e
 ·rename_i h;cases e;have:=UP (a:=a) (b:=b) h.1;exact⟨r,a,b,c,t,u,x,_,rfl,hr,h.2.2.1,(jbL this).symm,by simp[*],rfl⟩
 ·cases e
theorem Hs (K:aV φ s)(e:nt as=some is)(r:ar tk φ s.heap β P as xs):
 Y7 (Y9 af wd) A (call (.type "range") xs) (λv s'=>Go s φ s' φ/\o9 s' is v) ax s :=
 UO (C:=λas is=>∀{xs:List Value},ar tk φ s.heap β P as xs->Y7 (Y9 af wd) A (call (.type "range") xs) (λv s'=>Go s φ s' φ/\o9 s' is v) ax s)
  (λb is e xs r=>r.e1 λx r1=>r1.e_int λt=>call_range_1 ⟨.same K bF.pushT (ZD s.toks 2),AZ e (jgS ..)⟩)
  (λa b is e xs r=>r.e2 λx y r1 r3=>r1.e_int λt=>r3.e_int λu=>call_range_2 ⟨.same K bF.pushT (ZV _),AZ e (jgS ..)⟩)
  (λa b c is e xs r=>r.e3 λx y z r1 r3 r5=>r1.e_int λt=>r3.e_int λu=>r5.e_int λv=>bR (show(if 0<c/\small c=true/\_ then some _ else none)=some is from e) λhh Y =>
   call_range_3 (Int.ne_of_gt hh.1) ⟨.same K bF.pushT (Y2 _),AZ e (jgS ..)⟩ (.inl (AA hh.2.1))) e r
theorem AT (a c:Int)(n:Nat):(gP a c n).length=n:=by
 induction n generalizing a with
 |zero=>rfl
 |succ n ih=>rw[tE,Zl,ih]
theorem AS (c:Int):∀(n:Nat) (a:Int) (j:Nat),j<n->(gP a c n)[j]?=some (a+j*c)
 |n+1,a,0,_=>by simp[tE]
 |n+1,a,j+1,h=>by
  rw[tE,jeh,AS c n (a+c) j (jbH h)]
  congr 1
  push_cast
  rw[Int.add_mul];lia
theorem ar.of_get:∀{xs:List Value},vs.length=xs.length->(∀(j:Nat) (v:AV) (x:Value),vs[j]?=some v->xs[j]?=some x->VR tk φ h β P v x)->ar tk φ h β P vs xs:=by
 induction vs with
 |nil=>intro xs hl _;refine aa (Z3.mp hl.symm) ?_;exact .nil
 |cons v vs ih =>
  intro xs hl hr
  induction xs using YZ with
  |nil=>exact nomatch hl
  |cons x xs=>exact .cons (hr 0 v x rfl rfl) (ih (jcB hl) λj v x h1 h2=>hr (j+1) v x h1 h2)
theorem Gs (K:aV φ s)(F:fD s P)(ext:∀b o,s.heap.get? b=some o->h'.get? b=some o)(u:Up s { s with heap:=h',toks:=t })(hS:h'.get? s.heap.objs.size=some { cls:=.type "list",dict:=none,data:=.seq acc c',slots:=#[] }) (hi:ItemsOf Pv acc n) (hl:vs.length=n) (hr:∀(j:Nat) (v:AV) (x:Value),vs[j]?=some v->Pv j x->VR tk φ h' β P v x):aK tk φ s β P (.lst vs) (.ref s.heap.objs.size) { s with heap:=h',toks:=t }:=by
 refine ik K ext u (.lst (xs:=acc.toList) ⟨c',by refine aa hS ?_;refine aa Array.toArray_toList ?_;rfl⟩ (F _ (Y2 _)) (ar.of_get (by refine aa hl ?_;refine aa jhq ?_;refine aa hi.1 ?_;rfl) λj v x h1 h2=>hr j v x h1 (hi.2 j x (by simpa using h2))))
theorem Gu (hA:A.handled=none)(K:aV φ s)(F:fD s P)(R:o9 s is v):
 Y7 (Y9 af wd) A (call (.type "list") [v]) (aK tk φ s β P (.lst (is.map .int))) ax s:=by
 refine DE R ?_;rintro r a b c t u x n rfl hr hs hn aT rfl;refine eF (call_list_range hA hr hs hn (YY aT (by decide)) λh' t' acc c' ext hS hi up=>?_);refine Gs K F ext up hS hi (by rw[YX,AT]) λj v x h1 h2=>?_;refine aW h2 ?_;rintro tt rfl;have hj:j<n:=by
  have:=(Zw.mp h1).1
  rwa [YX,AT]at this
 rw[ZK,AS c n a j hj]at h1;cases h1;exact .int _ _
theorem XQ {ks:List Int}{vs:List AV}(h:ks.length=vs.length):(ks.zip vs).map (·.2)=vs:=List.map_snd_zip (ZG h.symm)
theorem Su {A:ZS}{s:Y1}{es:List (Int×AV)}(hA:A.handled=none)(K:aV φ s)(F:fD s P)(sW:∀a,P a->(a==Z')=false)(aT:es.length<=100000)(r:VR tk φ s.heap β P (.dct es) x):
 Y7 (Y9 af wd) A (call (.builtin "dict.values") [x]) (λv ak=>Y7 (Y9 af wd) A (call (.type "list") [v]) (aK tk φ s β P (.lst (es.map (·.2)))) ax ak) ax s:=by
 refine r.e_dct λa ks vs xs om hl e p r1=>?_;clear r;subst om
 ·have r:=r1;refine jfX jga e.typeIs PySem.F.entry_dict_values (PySem.F.args_dict_values_1 _) (meets_dict_values (jal af wd) a (sW a p)) ⟨⟨_,e⟩,?_⟩;have k:Go s φ { s with heap:=s.heap.push { cls:=.type "dict_values",data:=.fields #[.ref a] } } φ:=.same K bF.push (Y2 _);refine aW e.dictAt λep fu=>?_;refine aK.after k ?_;have Q3:(ks.zip xs).length<=100000:=by
   have:=r.length;rw[jbi]at aT ⊢
   lia
  refine eF (kdl_call (kdl_values (knd:=jal af wd) (kvs:=ks.zip xs) (ep:=ep)) hA ⟨⟨_,ZW _ rfl,rfl,rfl⟩,fu.push _⟩ (d0 Q3) λh' t' acc c' ext hS hi up=>?_);have rr:=(r.ext k.ext).ext ext;refine Gs (s:={ s with heap:=s.heap.push { cls:=.type "dict_values",data:=.fields #[.ref a] } }) k.tk (F.go k) ext up hS hi (by simp[jbi,hl,r.length]) λj v x h1 h2=>?_;rw[XQ hl]at h1;refine aW h2 λk' hk=>?_;refine au (rr.get h1) λx' hx rx=>?_;have:x=x':=by
   rw[jdQ]at hk;rw[hx]at hk;exact(Y0 hk.2).symm
  refine aa this ?_;exact rx
def hU (x y z:UInt64):Nat->UInt64
 |0=>x
 |1=>y
 |_=>z
theorem vX {x y z:UInt64}{t u v:Tok}{i:Nat}{r:Value}(e:(#[jdh x t,.float y u,.float z v])[i]?=some r):∃t',r=.float (hU x y z i) t':=by
 match i,e with
 |0,e=>cases e;exact⟨_,rfl⟩
 |1,e=>cases e;exact⟨_,rfl⟩
 |2,e=>cases e;exact⟨_,rfl⟩
 |n+3,e=>simp at e
theorem Gg {A:ZS}{s:Y1}{x y z:UInt64}{t u v:Tok}{op:CmpOp}{bt:Nat->Nat->Bool}{Q:Value->Y1->Prop}{E:Value->Y1->Prop}(hA:A.handled=none)(hc:CmpOf af wd A.in1 op (λi r=>(#[jdh x t,.float y u,.float z v])[i]?=some r) bt)(h:∀r h' tk,(#[jdh x t,.float y u,.float z v])[jfm bt 2]?=some r->(∀b o,s.heap.get? b=some o->h'.get? b=some o)->Q r { s with heap:=h',toks:=tk }):
 Y7 (Y9 af wd) A.in1 (jdH (.ref s.heap.objs.size)) (λit aC=>∃I fp wr n P St bt,it=.ref I/\Walks af wd A.in1 I fp wr n P St/\St 0 aC.heap/\(∀b∈fp,b<aC.heap.objs.size)/\0<n/\CmpOf af wd A.in1 op P bt /\
  ∀v h' tk,P (jfm bt (n-1)) v->(∀b o,b∉wr->aC.heap.get? b=some o->h'.get? b=some o)->Q v { aC with heap:=h',toks:=tk }) E
  { s with heap:=s.heap.push { cls:=.type "tuple",data:=.seq #[.float x t,.float y u,.float z v] } }:=by
 have hT:(s.heap.push { cls:=.type "tuple",data:=.seq #[.float x t,.float y u,.float z v] }).IsTuple s.heap.objs.size #[.float x t,.float y u,.float z v]:=⟨_,ZW _ rfl,rfl,0,rfl⟩
 refine jiT hT ?_;have bd:(s.heap.push { cls:=.type "tuple",data:=.seq #[.float x t,.float y u,.float z v] }).objs.size=s.heap.objs.size+1:=ZL ..;refine Rx _ [_,s.heap.objs.size] [_] _ _ _ bt rfl (Walks.tuple (A:=A.in1) hA _ s.heap.objs.size (by refine aa bd ?_;exact jaz (jaf _)) #[.float x t,.float y u,.float z v]) ⟨⟨_,ZW _ rfl,rfl,rfl⟩,hT.push _⟩ (λd hd=>?_) (by simp) hc (λr h' tk hP hk=>?_)
 ·show d<((s.heap.push _).push _).objs.size;refine aa (ZL _ _) ?_;refine aa bd ?_;rcases ZM.mp hd with rfl|hd
  ·refine aa bd ?_;exact jaf _
  ·rcases ZM.mp hd with rfl|hd
   ·exact jcS (jaf _)
   ·cases hd
 ·refine h r h' tk hP λb o e=>hk b o (λhm=>?_) (Za _ (Za _ e));rcases ZM.mp hm with e1|hm
  ·have:=Zr e;rw[e1,bd]at this;exact Zo _ (Nat.lt_of_succ_lt this)
  ·cases hm
theorem S5 {A:ZS}{s:Y1}{x y z:UInt64}{t u v:Tok}{Q:Value->Y1->Prop}{E:Value->Y1->Prop}(hA:A.handled=none)(h:∀r h' tk,(#[jdh x t,.float y u,.float z v])[jfm (λi j=>gK (hU x y z i) (hU x y z j)) 2]?=some r->(∀b o,s.heap.get? b=some o->h'.get? b=some o)->Q r { s with heap:=h',toks:=tk }):
 Y7 (Y9 af wd) A (call (.builtin "max") [.float x t,.float y u,.float z v]) Q E s :=
 call_max_three (Gg (Q:=Q) (E:=E) (op:=.Gt) hA (λi j vi vj s Q E hi hj h=>by
  refine aW (vX hi) ?_;rintro _ rfl;refine aW (vX hj) ?_;rintro _ rfl;exact AutoFloatOps.gt_0 h) h)
theorem S6 (hA:A.handled=none)(K:aV φ s)(h1:φ t x)(h2:φ u y)(h3:φ v z):
 Y7 (Y9 af wd) A (call (.builtin "max") [.float x t,.float y u,.float z v])
  (aK tk φ s β P (.flt (if gK z (if gK y x then y else x)then z else(if gK y x then y else x)))) ax s:=by
 refine eF (S5 hA λr h' t' hr ext up=>?_);simp only[jfm,hU]at hr;by_cases c1:gK y x=true
 ·by_cases c2:gK z y=true
  ·simp[c1,c2,hU]at hr ⊢;subst hr;exact ik K ext up (.flt _ _ h3)
  ·simp[c1,c2,hU]at hr ⊢;subst hr;exact ik K ext up (.flt _ _ h2)
 ·by_cases c2:gK z x=true
  ·simp[c1,c2,hU]at hr ⊢;subst hr;exact ik K ext up (.flt _ _ h3)
  ·simp[c1,c2,hU]at hr ⊢;subst hr;exact ik K ext up (.flt _ _ h1)
theorem Tg {A:ZS}{s:Y1}{x y z:UInt64}{t u v:Tok}{Q:Value->Y1->Prop}{E:Value->Y1->Prop}(hA:A.handled=none)(h:∀r h' tk,(#[jdh x t,.float y u,.float z v])[jfm (λi j=>gL (hU x y z i) (hU x y z j)) 2]?=some r->(∀b o,s.heap.get? b=some o->h'.get? b=some o)->Q r { s with heap:=h',toks:=tk }):
 Y7 (Y9 af wd) A (call (.builtin "min") [.float x t,.float y u,.float z v]) Q E s :=
 call_min_three (Gg (Q:=Q) (E:=E) (op:=.Lt) hA (λi j vi vj s Q E hi hj h=>by
  refine aW (vX hi) ?_;rintro _ rfl;refine aW (vX hj) ?_;rintro _ rfl;exact AutoFloatOps.lt_0 h) h)
theorem Th (hA:A.handled=none)(K:aV φ s)(h1:φ t x)(h2:φ u y)(h3:φ v z):
 Y7 (Y9 af wd) A (call (.builtin "min") [.float x t,.float y u,.float z v])
  (aK tk φ s β P (.flt (if gL z (if gL y x then y else x)then z else(if gL y x then y else x)))) ax s:=by
 refine eF (Tg hA λr h' t' hr ext up=>?_);simp only[jfm,hU]at hr;by_cases c1:gL y x=true
 ·by_cases c2:gL z y=true
  ·simp[c1,c2,hU]at hr ⊢;subst hr;exact ik K ext up (.flt _ _ h3)
  ·simp[c1,c2,hU]at hr ⊢;subst hr;exact ik K ext up (.flt _ _ h2)
 ·by_cases c2:gL z x=true
  ·simp[c1,c2,hU]at hr ⊢;subst hr;exact ik K ext up (.flt _ _ h3)
  ·simp[c1,c2,hU]at hr ⊢;subst hr;exact ik K ext up (.flt _ _ h1)
variable {A:ZS}{s:Y1}{tk:Zb}{φ:Gh}{h:jag}{β:List Zb}{P:Zb->Prop}{σ:aA}{G:GD}
theorem AU {i:Int}(K:aV φ s):aK tk φ s β P (.int i) (.int i (s.toks+1)) { s with toks:=s.toks+1+1 }:=
 ⟨φ,.same K bF.tok (by show s.toks<=s.toks+1+1;exact jcz (jcz jbB)),.int _ _⟩
theorem Kr {as:List AV}{r:AV}{xs:List Value}(K:aV φ s)(O:cr tk φ s.heap β P σ)(sW:∀a,P a->(a==Z')=false)(e:rQ σ as=some r)(ra:ar tk φ s.heap β P as xs):
 Y7 (Y9 af wd) A (call (.builtin "len") xs) (aK tk φ s β P r) ax s:=by
 refine Kq (C:=λas r=>∀{xs:List Value},ar tk φ s.heap β P as xs->Y7 (Y9 af wd) A (call (.builtin "len") xs) (aK tk φ s β P r) ax s) ?_ ?_ ?_ e ra
 ·refine λcs hn xs ra=>ra.e1 λx r1=>r1.e_str λt=>len_str (by simp only[jby,Zh];lia) ?_;refine aa (show((⟨cs.toArray⟩:Str).length:Int)=cs.length by simp[jby]) ?_;exact AU K
 ·refine λes hn xs ra=>ra.e1 λx r1=>r1.e_dct λa ks us zs om hl e' p r=>?_;have aO:(ks.zip zs).length=es.length:=by refine aa om ?_;refine aa jbi ?_;refine aa jbi ?_;refine aa r.length ?_;rfl
  refine call_len_dict (sW _ p) e' (by refine aa aO ?_;exact q6 hn rfl) ?_;refine aa aO ?_;exact AU K
 ·refine λl vs hl hn xs ra=>ra.e1 λx r1=>?_;refine bS (fx O hl r1) ?_;rintro l zs rfl h1 r1;refine PySem.Calls.call_len_list h1 (by refine aa Zh ?_;refine rwj r1.length ?_;exact q6 hn rfl) ?_;refine aa Zh ?_;refine rwj r1.length ?_;exact AU K
theorem KA {as:List AV}{r:AV}{xs:List Value}(hA:A.handled=none)(K:aV φ s)(O:cr tk φ s.heap β P σ)(e:xA σ as=some r)(ra:ar tk φ s.heap β P as xs):
 Y7 (Y9 af wd) A (call (.builtin "sum") xs) (aK tk φ s β P r) ax s :=
 Kz (C:=λas r=>∀{xs:List Value},ar tk φ s.heap β P as xs->Y7 (Y9 af wd) A (call (.builtin "sum") xs) (aK tk φ s β P r) ax s) (λl vs is hl eR h1 h2 xs ra=>ra.e1 λx r1=>by
  refine bS (fx O hl r1) ?_;rintro l zs rfl hp r1;exact V1 hA K hp (rH eR r1) (λi hi=>of_decide_eq_true (Y3.mp h1 i hi)) h2) e ra
theorem Kt {as:List AV}{r:AV}{xs:List Value}(hA:A.handled=none)(K:aV φ s)(O:cr tk φ s.heap β P σ)(e:xx σ as=some r)(ra:ar tk φ s.heap β P as xs):
 Y7 (Y9 af wd) A (call (.builtin "max") xs) (aK tk φ s β P r) ax s:=by
 refine Ks (C:=λas r=>∀{xs:List Value},ar tk φ s.heap β P as xs->Y7 (Y9 af wd) A (call (.builtin "max") xs) (aK tk φ s β P r) ax s) ?_ ?_ ?_ e ra
 ·refine λi j xs ra=>ra.e2 λx y r1 r3=>r1.e_int λt=>r3.e_int λu=>eF (max_two_ints hA λh' t ext up=>?_);by_cases hc:i<j
  ·refine aa (if_pos hc) ?_;refine aa (if_pos hc) ?_;exact ik K ext up (.int _ _)
  ·refine aa (if_neg hc) ?_;refine aa (if_neg hc) ?_;exact ik K ext up (.int _ _)
 ·exact λx y z xs ra=>ra.e3 λa b c r1 r2 r3=>r1.e_flt λt h1=>r2.e_flt λu h2=>r3.e_flt λv h3=>S6 hA K h1 h2 h3
 ·refine λl vs i js hl eR xs ra=>ra.e1 λx r1=>?_;refine bS (fx O hl r1) ?_;rintro l zs rfl h1 r1;exact S9 hA K h1 (rH eR r1)
theorem Kv {as:List AV}{r:AV}{xs:List Value}(hA:A.handled=none)(K:aV φ s)(e:xy as=some r)(ra:ar tk φ s.heap β P as xs):
 Y7 (Y9 af wd) A (call (.builtin "min") xs) (aK tk φ s β P r) ax s:=by
 refine Ku (C:=λas r=>∀{xs:List Value},ar tk φ s.heap β P as xs->Y7 (Y9 af wd) A (call (.builtin "min") xs) (aK tk φ s β P r) ax s) ?_ ?_ e ra
 ·refine λi j xs ra=>ra.e2 λx y r1 r3=>r1.e_int λt=>r3.e_int λu=>eF (min_two_ints hA λh' t ext up=>?_);by_cases hc:j<i
  ·refine aa (if_pos hc) ?_;refine aa (if_pos hc) ?_;exact ik K ext up (.int _ _)
  ·refine aa (if_neg hc) ?_;refine aa (if_neg hc) ?_;exact ik K ext up (.int _ _)
 ·exact λx y z xs ra=>ra.e3 λa b c r1 r2 r3=>r1.e_flt λt h1=>r2.e_flt λu h2=>r3.e_flt λv h3=>Th hA K h1 h2 h3
theorem Kx {as:List AV}{r:AV}{xs:List Value}(K:aV φ s)(e:xz as=some r)(ra:ar tk φ s.heap β P as xs):
 Y7 (Y9 af wd) A (call (.builtin "ord") xs) (aK tk φ s β P r) ax s :=
 Kw (C:=λas r=>∀{xs:List Value},ar tk φ s.heap β P as xs->Y7 (Y9 af wd) A (call (.builtin "ord") xs) (aK tk φ s β P r) ax s) (λc xs ra=>ra.e1 λx r1=>r1.e_str λt=>PySem.P.ord_of_char (fA K)) e ra
theorem KO {i:Int}(h:0<=i/\i<=0x10FFFF):(decide (i<0)||decide (i>0x10FFFF))=false:=by
 rw[jeJ,decide_eq_false_iff_not,decide_eq_false_iff_not];simp[*]
theorem Ka {as:List AV}{r:AV}{xs:List Value}(K:aV φ s)(e:xu as=some r)(ra:ar tk φ s.heap β P as xs):
 Y7 (Y9 af wd) A (call (.builtin "chr") xs) (aK tk φ s β P r) ax s :=
 J' (C:=λas r=>∀{xs:List Value},ar tk φ s.heap β P as xs->Y7 (Y9 af wd) A (call (.builtin "chr") xs) (aK tk φ s β P r) ax s) (λi hc xs ra=>ra.e1 λx r1=>r1.e_int λt=>PySem.P.chr_of_int (KO hc) (nv (x:=[_]) K (ZV _))) e ra
theorem Kk {as:List AV}{r:AV}{xs:List Value}(K:aV φ s)(e:rP as=some r)(ra:ar tk φ s.heap β P as xs):
 Y7 (Y9 af wd) A (call (.type "int") xs) (aK tk φ s β P r) ax s :=
 Kj (C:=λas r=>∀{xs:List Value},ar tk φ s.heap β P as xs->Y7 (Y9 af wd) A (call (.type "int") xs) (aK tk φ s β P r) ax s) (λy jR m ex hd xs ra=>ra.e1 λx r1=>r1.e_flt λt Y=>call_int_float hd (fA K)) e ra
theorem Kd {as:List AV}{r:AV}{xs:List Value}(K:aV φ s)(F:fD s P)(e:xw as=some r)(ra:ar tk φ s.heap β P as xs):
 Y7 (Y9 af wd) A (call (.builtin "divmod") xs) (aK tk φ s β P r) ax s :=
 Kc (C:=λas r=>∀{xs:List Value},ar tk φ s.heap β P as xs->Y7 (Y9 af wd) A (call (.builtin "divmod") xs) (aK tk φ s β P r) ax s) (λi j hc xs ra=>ra.e2 λx y r1 r3=>r1.e_int λt=>r3.e_int λu =>
  divmod_int (λq=>hc (.inl q)) ⟨φ,.same K bF.pushT (ZD s.toks 2),.tup (Az (xs:=[_,_]) _) (F _ (Y2 _)) (.cons (.int _ _) (.cons (.int _ _) .nil))⟩ (.inl (AA (HG hc)))) e ra
theorem Km {as:List AV}{r:AV}{xs:List Value}(K:aV φ s)(e:uE as=some r)(ra:ar tk φ s.heap β P as xs):
 Y7 (Y9 af wd) A (call (.builtin "isinstance") (xs++[.type "bool"])) (aK tk φ s β P r) ax s :=
 Kl (C:=λas r=>∀{xs:List Value},ar tk φ s.heap β P as xs->Y7 (Y9 af wd) A (call (.builtin "isinstance") (xs++[.type "bool"])) (aK tk φ s β P r) ax s) (λi xs ra=>ra.e1 λx r1=>r1.e_int λt=>IsiPair.int_bool ⟨φ,.same K bF.tok (ZV _),.bool _⟩) e ra
theorem Ko {as:List AV}{r:AV}{xs:List Value}(K:aV φ s)(e:uF as=some r)(ra:ar tk φ s.heap β P as xs):
 Y7 (Y9 af wd) A (call (.builtin "isinstance") (xs++[.type "int"])) (aK tk φ s β P r) ax s :=
 Kn (C:=λas r=>∀{xs:List Value},ar tk φ s.heap β P as xs->Y7 (Y9 af wd) A (call (.builtin "isinstance") (xs++[.type "int"])) (aK tk φ s β P r) ax s) (λi xs ra=>ra.e1 λx r1=>r1.e_int λt=>IsiPair.int_int (jm K)) e ra
theorem J9 {as:List AV}{r:AV}{xs:List Value}(K:aV φ s)(e:uC as=some r)(ra:ar tk φ s.heap β P as xs):
 Y7 (Y9 af wd) A (call (.builtin "int.bit_length") xs) (aK tk φ s β P r) ax s :=
 Ce (C:=λas r=>∀{xs:List Value},ar tk φ s.heap β P as xs->Y7 (Y9 af wd) A (call (.builtin "int.bit_length") xs) (aK tk φ s β P r) ax s) (λi xs ra=>ra.e1 λx r1=>r1.e_int λt=>call_int_bit_length (fA K)) e ra
theorem VS (K:aV φ s)(e:jaq (bp x) (bp y) 0 (bp x).length 1=k::az):
 Y7 (Y9 af wd) A (call (.builtin "str.index") [.str ⟨x.toArray⟩ t,.str ⟨y.toArray⟩ u]) (aK tk φ s β P (.int k)) ax s :=
 call_gives jgw (jcP _ _ _) PySem.F.entry_str_index (PySem.F.args_str_index_2 _ _) (gives_str_index (bp x) (bp y) t u k az e) (fA K)
theorem VQ (K:aV φ s):
 Y7 (Y9 af wd) A (call (.builtin "str.find") [.str ⟨x.toArray⟩ t,.str ⟨y.toArray⟩ u]) (aK tk φ s β P (.int (match jaq (bp x) (bp y) 0 (bp x).length 1 with|k::_=>(k:Int) | []=>-1))) ax s :=
 call_gives jgJ (jcP _ _ _) PySem.F.entry_str_find (PySem.F.args_str_find_2 _ _) (gives_str_find (bp x) (bp y) t u) (fA K)
theorem d9.countP (r:d9 is xs):(xs.countP λy=>pp y==some i)=is.countP (·==i):=by
 induction r with
 |nil=>rfl
 |cons _ ih=>refine aa jej ?_;refine aa jej ?_;refine aa ih ?_;rfl
theorem Sp (K:aV φ s)(hl:s.heap.IsList l xs.toArray)(hi:d9 is xs):
 Y7 (Y9 af wd) A (call (.builtin "list.count") [.ref l,.int i t]) (aK tk φ s β P (.int (is.countP (·==i)))) ax s:=by
 obtain⟨⟨cls,dd,data,sl⟩,ho,hc,n,hd⟩:=id hl;simp only at hc hd;subst hc hd;refine jds jgh hl.typeIs PySem.F.entry_list_count (PySem.F.args_list_count_2 _ _) (list_countAt l xs.toArray n dd sl (.int i t) (λy=>pp y==some i)) ⟨ho,hi.at,?_⟩;have:=hi.countP (i:=i);refine aa jhw ?_;refine aa this ?_;exact fA K
theorem d9.get (r:d9 is xs):∀{j:Nat} (hj:j<xs.length) (lX:j<is.length),pp xs[j]=some is[j]:=by
 induction r with
 |nil=>exact λhj=>absurd hj (jex _)
 |cons _ ih =>
  intro j hj lX
  induction j using jas with
  |zero=>rfl
  |succ j=>exact ih (jcT hj) (jcT lX)
theorem Sq (K:aV φ s)(hl:s.heap.IsList l xs.toArray)(hi:d9 is xs)(e:is.findIdx? (·==i)=some k)(hk:k<=100000):
 Y7 (Y9 af wd) A (call (.builtin "list.index") [.ref l,.int i t]) (aK tk φ s β P (.int k)) ax s:=by
 obtain⟨⟨cls,dd,data,sl⟩,ho,hc,n,hd⟩:=id hl;simp only at hc hd;subst hc hd;refine au (List.findIdx?_eq_some_iff_getElem.mp e) λh1 h2 h3=>?_;have aO:=hi.length;refine jds jgg hl.typeIs PySem.F.entry_list_index (PySem.F.args_list_index_2 _ _)
  (list_indexAt l xs.toArray n dd sl (.int i t) (λy=>pp y==some i) k (by simp;lia) (q6 hk rfl) ?_ λm hm Qa=>?_) ⟨ho,hi.at,fA K⟩
 ·have:=hi.get (j:=k) (by lia) h1;simp only[jhl];refine aa this ?_;simpa using h2
 ·have jh:m<xs.length:=by simpa using hm
  have:=hi.get (j:=m) jh (by simp[*]);simp only[jhl];refine aa this ?_;have:=h3 m Qa;simpa using this
theorem VU {v:AV}{vs:List AV}{ss:List (List Nat)}{Q:Prop}(e:ip (v::vs)=some ss)(k:∀x qR,v=.str x->ip vs=some qR->x::qR=ss->Q):Q:=by
 induction v using AV.casesOn with
 |str x =>
  refine au (Zp.mp (show(ip vs).map (x::·)=some ss from e)) λqR h1 h2=>?_;exact k x qR rfl h1 h2
 |_=>exact ai e
theorem VV {vs:List AV}{xs:List Value}{ss:List (List Nat)}(e:ip vs=some ss)(r:ar tk φ h β P vs xs):∃l:List (Str×Tok),xs=strValues l/\l.map (·.1)=ss.map bp :=
 r.ind (motive:=λvs xs=>∀ss,ip vs=some ss->∃l:List (Str×Tok),xs=strValues l/\l.map (·.1)=ss.map bp) (λss e=>Y0 (show some []=some ss from e)▸⟨[],rfl,rfl⟩)
  (λra Y ih ss e=>VU e λx qR e1 h1 e2=>by
   refine au (ih qR h1) λl e3 h2=>?_;refine(e1▸ra).e_str λt=>?_;refine rwj e2 ?_;refine aa e3 ?_;exact aN ((bp x,t)::l) rfl (congrArg (_::·) h2)) ss e
theorem yX (ss:List (List Nat)):jgN (bp []) (ss.map bp)=bp ss.flatten:=by
 have key:∀(l:List (List Nat)) (acc:Array Nat),(l.map bp).foldl (λacc p=>acc++(bp []).cps++p.cps) acc=acc++l.flatten.toArray:=by
  intro l
  induction l with
  |nil=>intro acc;simp
  |cons a l ih =>
   intro acc;refine aa Zy ?_;refine aa jcA ?_;refine aa (ih _) ?_;simp[bp]
 induction ss using YZ with
 |nil=>rfl
 |cons a l =>
  unfold jgN;show(⟨((l.map bp)).foldl _ (bp a).cps⟩:Str)=_;refine aa (key _ _) ?_;apply jht;simp[bp]
theorem D7:∀(l:List Str) (n:Nat),l.foldl (λa y=>a+y.length+(bp []).length) n=n+(l.map (·.length)).sum
 | [],n=>by simp
 |a::l,n=>by
  refine aa jcA ?_;refine aa (D7 l _) ?_;refine aa Zy ?_;refine aa jah ?_;simp[bp,jby];lia
theorem N0 (ss:List (List Nat)):((ss.map bp).map (·.length)).sum=ss.flatten.length:=by
 induction ss with
 |nil=>rfl
 |cons a l ih=>rw[Zy,Zy,jah,ih,jid,Y8];rfl
theorem R0 (K:aV φ s)(h1:s.heap.IsList l us.toArray)(hs:ip vs=some ss)(aT:ss.flatten.length<=100000)(r5:ar tk φ s.heap β P vs us):
 Y7 (Y9 af wd) A (call (.builtin "str.join") [.str (bp []) t,.ref l]) (aK tk φ s β P (.str ss.flatten)) ax s:=by
 refine au (VV hs r5) ?_;rintro ll rfl vB;clear hs r5;refine jds jgI (jcP _ _ _) PySem.F.entry_str_join (PySem.F.args_str_join_2 _ _) (meets_str_join_list (bp []) _ l ll ?_) ⟨h1,?_⟩
 ·rw[vB,List.foldl_toArray,D7,N0];unfold jgm;have:=d0 aT;simpa using this
 ·delta joinMade
  have B6:(bp ss.flatten).length<=jcK:=by simpa [bp,jby]using d0 aT
  induction ll using YZ with
  |nil=>dsimp only;rw[vB,yX];exact⟨B6,nv K (ZV _)⟩
  |cons p l =>
   induction l using YZ with
   |nil =>
    have hp:ss.map bp=[p.1]:=vB.symm;have:bp ss.flatten=p.1:=by
     rw[<-yX,hp];rfl
    obtain⟨p1,p2⟩:=p;simp only at this;subst this;exact jT K (.str _ _)
   |cons q l=>dsimp only;rw[vB,yX];exact⟨B6,nv K (ZV _)⟩
theorem Kp (K:aV φ s)(O:cr tk φ s.heap β P σ)(e:uG σ as=some r)(ra:ar tk φ s.heap β P as xs):
 Y7 (Y9 af wd) A (call (.builtin "str.join") xs) (aK tk φ s β P r) ax s :=
 Ci (C:=λas r=>∀{xs:List Value},ar tk φ s.heap β P as xs->Y7 (Y9 af wd) A (call (.builtin "str.join") xs) (aK tk φ s β P r) ax s) (λl vs ss hl hs aT xs ra=>ra.e2 λa b r1 r3=>r1.e_str λt=>by
  refine bS (fx O hl r3) ?_;rintro l us rfl h1 r5;exact R0 K h1 hs aT r5) e ra
theorem HU:∀(l:List Str) (t:Tok),ar tk φ h β P (l.map λy=>.str y.cps.toList) (strsFrom t l)
 | [],_=>.nil
 |y::l,t=>.cons (.str _ _) (HU l (t+1))
theorem Ky (K:aV φ s)(F:fD s P)(e:rR as=some r)(ra:ar tk φ s.heap β P as xs):
 Y7 (Y9 af wd) A (call (.builtin "str.split") xs) (aK tk φ s β P r) ax s :=
 Cj (C:=λas r=>∀{xs:List Value},ar tk φ s.heap β P as xs->Y7 (Y9 af wd) A (call (.builtin "str.split") xs) (aK tk φ s β P r) ax s) (λx hc xs ra=>ra.e1 λa r1=>r1.e_str λt=>by
  refine jds jgu (jcP _ _ _) PySem.F.entry_str_split (PySem.F.args_str_split_1 _) (meets_str_split_space (bp x) _ (d0 hc.1) (d0 hc.2.1)) ?_;show if _ then _ else _
  rw[if_neg (by refine aa hc.2.2 ?_;exact ZY)];exact⟨φ,.same K bF.pushT (ZD _ _),.lst (oL _) (F _ (Y2 _)) (HU _ _)⟩) e ra
theorem LM {s:Y1}{ks:List Int}(K:aV φ s)(hd:s.heap.DictOf (jal af wd) d (ks.zip ys))(hY:(d==Z')=false)(rs:ar tk φ s.heap β P vs ys)(rv:VR tk φ s.heap β P v x):Y7 (Y9 af wd) A (call (.builtin "dict.get") [.ref d,.int k t,x]) (aK tk φ s β P (match(ks.zip vs).lookup k with|some v=>v|none=>v)) ax s:=by
 refine jfX jbS hd.mapOf.typeIs jee (jgi _ _ _) (jhP (jal af wd) d (jea af wd k t) hY x) ⟨_,hd.mapOf,?_⟩;refine⟨φ,.same K bF.tok (ZV _),?_⟩
 induction q:(ks.zip vs).lookup k using ae with
 |none=>refine aa (XP q rs) ?_;exact rv
 |some v' =>
  refine au (II q rs) λz hz rz=>?_;refine aa hz ?_;exact rz
theorem Wu (K:aV φ s)(I:bg G s.heap)(rv:VR G.tok φ s.heap β P v y):
 Y7 (Y9 af wd) A (call (.builtin "dict.get") [.ref G.tok,.str ⟨x.toArray⟩ t,y]) (aK G.tok φ s β P (match cA.lookup x with|some k=>.int k|none=>v)) ax s:=by
 refine fk I.tok λf hm h1 h2=>?_;refine jfX jbS hm.typeIs jee (jgi _ _ _) (jhP (strKind af wd) G.tok (strKind_is af wd ⟨x.toArray⟩ t) I.tokMod y) ⟨_,hm,?_⟩;refine⟨φ,.same K bF.tok (ZV _),?_⟩
 induction q:cA.lookup x using ae with
 |none=>refine aa (h2 ⟨x.toArray⟩ (show cA.lookup _=none from q)) ?_;exact rv
 |some k=>refine aW (h1 ⟨x.toArray⟩ k (show cA.lookup _=some k from q)) λt ht=>?_;refine aa ht ?_;exact .int _ _
section
theorem bz.notX (x:bz G h)(e:h.get? b=some o)(h0:o≠jdG #[])(h1:∀t c,o≠qi t c):¬G.X b:=by
 rintro⟨t,ht,rfl⟩;rcases x t ht with q|⟨c,q,_⟩
 ·rw[e]at q;exact h0 (Y0 q)
 ·rw[e]at q;exact h1 t c (Y0 q)
theorem bz.notX_data (x:bz G h)(e:h.get? b=some o)(hd:∀vs,o.data≠.fields vs):¬G.X b :=
 x.notX e (λq=>hd _ (by rw[q])) λt c q=>hd _ (by rw[q])
theorem bz.notX_ns (x:bz G h)(n:h.Ns a m):¬G.X a:=by
 refine j' n λo es ep ho hd Y=>?_;exact x.notX_data ho λvs q=>by rw[hd]at q;cases q
theorem bz.notX_cell (x:bz G h)(n:h.IsCell a v):¬G.X a:=by
 refine au n λo ho hd=>?_;exact x.notX_data ho λvs q=>by rw[hd]at q;cases q
theorem bz.notX_code (x:bz G h)(n:h.CodeRec (.ref c) q):¬G.X c:=by
 refine qa n λc' o vs t e ho hd hv=>?_;cases e;refine x.notX ho (λq=>?_) λt c q=>?_
 ·rw[q]at hd;cases hd;simp at hv
 ·rw[q]at hd;cases hd;simp[jdY]at hv
theorem bz.lt (x:bz G h)(hb:G.X b):b<h.objs.size:=by
 refine au hb ?_;rintro t ht rfl;rcases x t ht with q|⟨c,q,_⟩
 ·exact Zr q
 ·exact Zr q
theorem bM.code (x:bz G h)(hc:bM G h c):∃q,h.CodeRec (.ref c) q:=by
 refine au hc λt ht e=>?_;rcases x t ht with q|⟨c',q,r⟩
 ·rw[e]at q;have:=congrArg (λo:Option Obj=>o.map (·.data)) q;simp at this
 ·rw[e]at q;have:c=c':=by
   have:=congrArg (λo:Option Obj=>o.map (·.data)) q;simpa using this
  subst this;exact⟨_,r⟩
theorem bM.lt (x:bz G h)(hc:bM G h c):c<h.objs.size:=by
 refine sk (bM.code x hc) λq c' o vs t e ho Y=>?_;cases e;exact Zr ho
theorem bz.noHas (x:bz G h)(e:h.get? a=some o)(hd:∀vs,o.data≠.fields vs):¬bM G h a:=λhc=>by
 refine DD (bM.code x hc) λq c' o' vs t e' ho lW Y=>?_;cases e';rw[e]at ho;cases ho;exact hd vs lW
theorem bz.butS {G:GD}{h h':jag}{X:Zb->Prop}(x:bz G h)(hk:∀b o,¬X b->h.get? b=some o->h'.get? b=some o)(hX:∀b,G.X b->¬X b)(hc:∀c,bM G h c->¬X c):bz G h'/\∀c,bM G h' c->bM G h c:=by
 have cV:∀t∈G.tabs,¬X t.2.1:=λt ht=>hX _ ⟨t,ht,rfl⟩;refine⟨λt ht=>?_,λc ⟨t,ht,e⟩=>⟨t,ht,?_⟩⟩
 ·rcases x t ht with q|⟨c,q,c',o,vs,tt,e',ho,r⟩
  ·exact .inl (hk _ _ (cV t ht) q)
  ·cases e';exact .inr ⟨c,hk _ _ (cV t ht) q,c,o,vs,tt,rfl,hk _ _ (hc c ⟨t,ht,q⟩) ho,r⟩
 ·rcases x t ht with q|⟨c',q,_⟩
  ·have:=hk _ _ (cV t ht) q;rw[e]at this;rw[q,<-this]
  ·have:=hk _ _ (cV t ht) q;rw[e]at this;rw[q,<-this]
theorem bz.but (x:bz G h)(hk:∀b o,b≠a->h.get? b=some o->h'.get? b=some o)(hX:¬G.X a)(hc:¬bM G h a):bz G h'/\∀c,bM G h' c->bM G h c :=
 x.butS (X:=(·=a)) (λb o hb e=>hk b o hb e) (λb hb q=>hX (q▸hb)) λc h q=>hc (q▸h)
theorem bg.keepsX (x:bg G h)(hk:∀b o,¬G.X b->h.get? b=some o->h'.get? b=some o)(ht:bz G h'):bg G h' where
 g:=x.g.at' λo e=>hk _ o (x.tabs.notX_ns x.g) e
 b:=x.b.at' λo e=>hk _ o (x.tabs.notX_ns x.b) e
 stat:=x.stat.at' λo e=>hk _ o (x.tabs.notX_ns x.stat) e
 tok:=by
  refine au x.tok λf z6 q=>?_;obtain⟨o,es,ep,ho,hx,hd,r⟩:=z6;exact aN f ⟨o,es,ep,hk _ o (x.tabs.notX_data ho λvs q=>by rw[hd]at q;cases q) ho,hx,hd,r⟩ q
 tokMod:=x.tokMod
 fns:=λk y fd e=>by
  obtain⟨a,o,h1,h2,h3,c,oc,vs,t,e1,e2,e3,e4⟩:=x.fns k y fd e;refine⟨a,o,h1,hk _ o (x.tabs.notX_data h2 λvs q=>by rw[h3]at q;cases q) h2,h3,c,oc,vs,t,e1,hk _ _ (x.tabs.notX_code (q:=fd.qualname) ⟨c,oc,vs,t,rfl,e2,e3,e4⟩) e2,e3,e4⟩
 heads:=λt eS=>by
  obtain⟨o,vs,sr,tf,flags,tg,s8,dQ,tt,e,hc,r⟩:=x.heads t eS;exact⟨o,vs,sr,tf,flags,tg,s8,dQ,tt,hk _ o (x.tabs.notX e (λq=>by rw[q]at hc;cases hc) λt c q=>by rw[q]at hc;cases hc) e,hc,r⟩
 tabs:=ht
 bmain:=by
  refine pZ x.bmain λbm ob h1 h2 h3 h4 h5 h6=>?_;exact FZ bm ob h1 h2 (hk _ _ (x.tabs.notX_data h3 λvs q=>by rw[h6]at q;cases q) h3) h4 h5 h6
 b1:=by
  obtain⟨a,n,h1,o,es,ep,t,ho,hx,hd,r⟩:=x.b1;exact⟨a,n,h1,o,es,ep,t,hk _ _ (x.tabs.notX_data ho λvs q=>by rw[hd]at q;cases q) ho,hx,hd,r⟩
 b3:=by
  refine n5 x.b3 λa f h1 h2 z5 q=>?_;obtain⟨o,es,ep,ho,hx,hd,r⟩:=z5;exact vT a f h1 h2 ⟨o,es,ep,hk _ _ (x.tabs.notX_data ho λvs q=>by rw[hd]at q;cases q) ho,hx,hd,r⟩ q
end
structure IU (G:GD) (s s':Y1):Prop where
 keeps:∃h t,s'={ s with heap:=h,toks:=t }/\∀b o,¬G.X b->s.heap.get? b=some o->h.get? b=some o
 size:s.heap.objs.size<=s'.heap.objs.size
structure GX (G:GD) (s:Y1) (φ:Gh) (s':Y1) (am:Gh):Prop where
 grows:IU G s s'
 sub:∀t x,φ t x->am t x
 tk:aV am s'
 tabs:bz G s.heap->bz G s'.heap/\∀c,bM G s'.heap c->bM G s.heap c\/s.heap.objs.size<=c
section
theorem GX.ext (x:GX G s φ s' am):∀b o,¬G.X b->s.heap.get? b=some o->s'.heap.get? b=some o:=by
 refine bB x.grows.keeps ?_;rintro h t rfl k;exact k
theorem Wg {s s':Y1}(hx:ce s.heap s'.heap)(x:bz G s.heap):bz G s'.heap/\∀c,bM G s'.heap c->bM G s.heap c\/s.heap.objs.size<=c:=by
 refine⟨x.keeps hx,λc ⟨t,ht,e⟩=>.inl ⟨t,ht,?_⟩⟩;rcases x t ht with q|⟨c',q,_⟩
 ·have:=hx _ _ q;rw[e]at this;rw[q,<-this]
 ·have:=hx _ _ q;rw[e]at this;rw[q,<-this]
theorem iW (hx:ce h h')(x:bz G h):∀c,bM G h' c->bM G h c:=λc ⟨t,ht,e⟩=>⟨t,ht,by
 rcases x t ht with q|⟨c',q,_⟩
 ·have:=hx _ _ q;rw[e]at this;rw[q,<-this]
 ·have:=hx _ _ q;rw[e]at this;rw[q,<-this]⟩
theorem Go.x (k:Go s φ s' am):GX G s φ s' am where
 grows:=⟨let⟨h,t,e,k⟩:=k.grows.keeps;⟨h,t,e,λb o Y e=>k b o e⟩,k.grows.size⟩
 sub:=k.sub
 tk:=k.tk
 tabs:=Wg k.ext
theorem GX.trans (x:GX G s φ s' am)(y:GX G s' am cO kC):GX G s φ cO kC where
 grows:=⟨by
  refine bB x.grows.keeps ?_;rintro h t rfl k;refine bB y.grows.keeps ?_;rintro h' t' rfl k';exact cZ h' t' rfl (λb o hb e=>k' b o hb (k b o hb e)),YY x.grows.size y.grows.size⟩
 sub:=λt z e=>y.sub t z (x.sub t z e)
 tk:=y.tk
 tabs:=λh=>by
  refine bN (x.tabs h) λh1 h2=>?_;refine bN (y.tabs h1) λh3 h4=>?_;exact⟨h3,λc hc=>(h4 c hc).elim (h2 c) λq=>.inr (YY x.grows.size q)⟩
theorem GX.refl (k:aV φ s):GX G s φ s φ:=(Go.refl k).x
theorem GX.same (k:aV φ s)(g:bF s s')(ht:s.toks<=s'.toks):GX G s φ s' φ:=(Go.same k g ht).x
theorem GX.then_but (k:GX G s φ s' am)(ht:bz G s.heap)(ha:s.heap.objs.size<=a)(hk:∀b o,b≠a->s'.heap.get? b=some o->h'.get? b=some o)(hc:¬bM G s'.heap a)(hX:¬G.X a)(hz:s'.heap.objs.size<=h'.objs.size)(jj:s'.toks<=t):GX G s φ { s' with heap:=h',toks:=t } am where
 grows:=⟨by
  refine bB k.grows.keeps ?_;rintro hh tt rfl kk;exact cZ h' t rfl (λb o hb e=>hk b o (λq=>Zo _ (be (q▸Zr e:a<s.heap.objs.size) ha)) (kk b o hb e)),YY k.grows.size hz⟩
 sub:=k.sub
 tk:=⟨k.tk.fn,k.tk.pos,λt' x e=>be (k.tk.lt t' x e) jj,be k.tk.one jj⟩
 tabs:=λh=>by
  refine bN (k.tabs h) λh1 h2=>?_;refine bN (h1.but hk hX hc) λh3 h4=>?_;exact⟨h3,λc q=>h2 c (h4 c q)⟩
def eX (G:GD)(a:Zb):Prop:=(a==Z')=false/\¬G.X a
def IW (ab:Env)(β:List Zb)(a:Zb):Prop:=a∈β\/a=ab.locals\/∃x,ab.cells.lookup x=some a
def kG (G:GD)(s:Y1)(P:Zb->Prop):Prop:=∀a,(s.heap.objs.size<=a\/bM G s.heap a)->P a
theorem kG.f (F:kG G s P):fD s P:=λa h=>F a (.inl h)
theorem kG.go (F:kG G s P)(k:GX G s φ s' am)(ht:bz G s.heap):kG G s' P:=λa h=>h.elim (λh=>F a (.inl (YY k.grows.size h))) λh=>((k.tabs ht).2 a h).elim (λq=>F a (.inr q)) λq=>F a (.inl q)
structure ER (G:GD) (φ:Gh) (ab:Env) (T:Tb) (ρ:aB) (σ:aA) (β:List Zb) (P:Zb->Prop) (m:Str->Option Value) (s:Y1):Prop where
 ns:s.heap.Ns ab.locals m
 len:ρ.length=T.next
 names:∀(x:Str) (i:Nat) (v:AV),T.var x=some i->ρ[i]?=some (some v)->∃v',VR G.tok φ s.heap β P v v'/\nI ab m s.heap x v'
 celled:∀x,T.celled x=true->∃c dm,ab.cells.lookup x=some c/\s.heap.IsCell c dm
 objs:∀(i:Nat) (o:AO),σ[i]?=some o->o≠AO.gone->∃a,β[i]?=some a/\OR G.tok φ s.heap β P o a
 freshX:kG G s P
 psafe:∀a,P a->eX G a
 bsafe:∀a,IW ab β a->eX G a
 blt:∀a,a∈β->a<s.heap.objs.size
 tk:aV φ s
theorem ER.fresh (R:ER G φ ab T ρ σ β P m s):fD s P:=R.freshX.f
theorem ER.psys (R:ER G φ ab T ρ σ β P m s):∀a,P a->(a==Z')=false:=λa p=>(R.psafe a p).1
theorem ER.keepP (R:ER G φ ab T ρ σ β P m s)(k:GX G s φ s' am):∀a o,P a->s.heap.get? a=some o->s'.heap.get? a=some o/\P a:=λa o p e=>⟨k.ext a o (R.psafe a p).2 e,p⟩
theorem ER.vr (R:ER G φ ab T ρ σ β P m s)(k:GX G s φ s' am)(r:VR G.tok φ s.heap β P v x):VR G.tok am s'.heap β P v x:=r.mono k.sub (R.keepP k) (Zg _)
theorem ER.vrs (R:ER G φ ab T ρ σ β P m s)(k:GX G s φ s' am)(r:ar G.tok φ s.heap β P v x):ar G.tok am s'.heap β P v x:=r.mono k.sub (R.keepP k) (Zg _)
theorem OR.at (kn:∀t x,φ t x->am t x)(hk:∀a o,P a->h.get? a=some o->h'.get? a=some o/\P a)(ha:∀o,h.get? a=some o->h'.get? a=some o)(r:OR tk φ h β P o a):OR tk am h' β P o a:=by
 cases r with
 |list e r=>exact .list (e.at ha) (r.mono kn hk (Zg _))
 |dict e hl r=>exact .dict (DictOf.at e ha) hl (r.mono kn hk (Zg _))
theorem ER.go (R:ER G φ ab T ρ σ β P m s)(k:GX G s φ s' am)(ht:bz G s.heap):ER G am ab T ρ σ β P m s' where
 ns:=R.ns.at' λo e=>k.ext _ o (R.bsafe _ (.inr (.inl rfl))).2 e
 len:=R.len
 names:=λx i v h1 h2=>by
  refine au (R.names x i v h1 h2) λv' a b=>?_;refine aN v' (R.vr k a) ?_;rcases b with b|⟨c,b1,b2,o,ho,hd⟩
  ·exact .inl b
  ·exact .inr ⟨c,b1,b2,o,k.ext c o (R.bsafe c (.inr (.inr ⟨x,b1⟩))).2 ho,hd⟩
 celled:=λx h=>by
  obtain⟨c,v,a,o,ho,hd⟩:=R.celled x h;exact⟨c,v,a,o,k.ext c o (R.bsafe c (.inr (.inr ⟨x,a⟩))).2 ho,hd⟩
 objs:=λi o h1 h2=>let⟨a,h3,h4⟩:=R.objs i o h1 h2;⟨a,h3,h4.at k.sub (R.keepP k) λo e=>k.ext a o (R.bsafe a (.inl (ZB h3))).2 e⟩
 freshX:=R.freshX.go k ht
 psafe:=R.psafe
 bsafe:=R.bsafe
 blt:=λa h=>be (R.blt a h) k.grows.size
 tk:=k.tk
def lG (G:GD)(φ:Gh)(s:Y1)(β:List Zb)(P:Zb->Prop)(r:AV):Value->Y1->Prop :=
 λv' s'=>∃am,GX G s φ s' am/\VR G.tok am s'.heap β P r v'
def I5 (G:GD)(φ:Gh)(s:Y1)(β:List Zb)(P:Zb->Prop)(r:List AV):List Value->Y1->Prop :=
 λv' s'=>∃am,GX G s φ s' am/\ar G.tok am s'.heap β P r v'
theorem aK.x (h:aK G.tok φ s β P r v' s'):lG G φ s β P r v' s':=let⟨am,k,q⟩:=h;⟨am,k.x,q⟩
def ES (G:GD)(A:ZS)(ab:Env)(T:Tb)(ρ:aB)(σ:aA)(t:Sem Value)(v:AV):Prop :=
 ∀s φ β P m,bg G s.heap->ER G φ ab T ρ σ β P m s->Y7 (Y9 af wd) A t (lG G φ s β P v) ax s
end
section
theorem xZ (hE:bQ ab T)(hx:T.var x=some i)(hv:ρ[i]?=some (some v)):ES G A ab T ρ σ (Z7 (.Name x pos) ab) v:=by
 intro s φ β P m I R;refine au (R.names x i v hx hv) λv' r n=>?_;have hd:=Hj hx;refine wpAny_Name ?_ hd.1;rcases n with⟨k,e⟩|⟨c,e,k,i⟩
 ·exact jiv hE.kind k R.ns e ⟨φ,.refl R.tk,r⟩
 ·rcases k with k|k
  ·exact jft hE.kind k e i ⟨φ,.refl R.tk,r⟩
  ·exact jfs hE.kind k e i ⟨φ,.refl R.tk,r⟩ hd.2
end
section
def gS (G:GD)(A:ZS)(ab:Env)(T:Tb)(ρ:aB)(σ:aA)(t:Sem (List Value))(v:List AV):Prop :=
 ∀s φ β P m,bg G s.heap->ER G φ ab T ρ σ β P m s->Y7 (Y9 af wd) A t (I5 G φ s β P v) ax s
def TS (G:GD)(A:ZS)(ab:Env)(T:Tb)(ρ:aB)(σ:aA)(t:Sem Bool)(b:Bool):Prop :=
 ∀s φ β P m,bg G s.heap->ER G φ ab T ρ σ β P m s->Y7 (Y9 af wd) A t (λc s'=>c=b/\∃am,GX G s φ s' am) ax s
theorem bg.go (I:bg G s.heap)(k:GX G s φ s' am):bg G s'.heap:=I.keepsX k.ext (k.tabs I.tabs).1
theorem ES.post (h:ES G A ab T ρ σ t v)(I:bg G s.heap)(R:ER G φ ab T ρ σ β P m s)(hQ:∀x s' am,GX G s φ s' am->bg G s'.heap->ER G am ab T ρ σ β P m s'->VR G.tok am s'.heap β P v x->Q x s'):
 Y7 (Y9 af wd) A t Q E s :=
 up (h s φ β P m I R) λx s' ⟨am,k,r⟩=>hQ x s' am k (I.go k) (R.go k I.tabs) r
theorem gS.post (h:gS G A ab T ρ σ t v)(I:bg G s.heap)(R:ER G φ ab T ρ σ β P m s)(hQ:∀x s' am,GX G s φ s' am->bg G s'.heap->ER G am ab T ρ σ β P m s'->ar G.tok am s'.heap β P v x->Q x s'):
 Y7 (Y9 af wd) A t Q E s :=
 up (h s φ β P m I R) λx s' ⟨am,k,r⟩=>hQ x s' am k (I.go k) (R.go k I.tabs) r
theorem TS.post (h:TS G A ab T ρ σ t b)(I:bg G s.heap)(R:ER G φ ab T ρ σ β P m s)(hQ:∀s' am,GX G s φ s' am->bg G s'.heap->ER G am ab T ρ σ β P m s'->Q b s'):Y7 (Y9 af wd) A t Q E s :=
 up (h s φ β P m I R) λx s' ⟨e,am,k⟩=>by subst e;exact hQ s' am k (I.go k) (R.go k I.tabs)
theorem lB (k:GX G s φ s' am)(h:Y7 (Y9 af wd) A t (lG G am s' β P r) ax s'):Y7 (Y9 af wd) A t (lG G φ s β P r) ax s' :=
 up h λx cO ⟨kC,k',q⟩=>⟨kC,k.trans k',q⟩
theorem qX (k:GX G s φ s' am)(h:Y7 (Y9 af wd) A t (aK G.tok am s' β P r) ax s'):Y7 (Y9 af wd) A t (lG G φ s β P r) ax s' :=
 lB k (up h λx cO q=>q.x)
theorem Mu (e:xM c=some v):ES G A ab T ρ σ (Z7 (.Constant c k pos) ab) v:=by
 intro s φ β P m I R;revert e
 induction c using Const.casesOn with
 |none=>exact λe=>Y0 e▸Constant_none (jT R.tk .none).x
 |bool b=>exact λe=>Y0 e▸Constant_bool (jT R.tk (.bool _)).x
 |int i=>exact λe=>Y0 e▸wpAny_Constant_int (fA R.tk).x
 |float x=>exact λe=>Y0 e▸PySem.wpAny_Constant_float (me R.tk).x
 |str x =>
  refine λe=>Y0 e▸wpAny_Constant_str ?_;have:=nv (tk:=G.tok) (β:=β) (P:=P) (x:=x.cps.toList) (t:=s.toks) R.tk (ZV s.toks);have e:(⟨x.cps.toList.toArray⟩:Str)=x:=by apply jht;simp
  rw[e]at this;exact this.x
 |_=>exact λe=>ai e
theorem Mn (hA:A.handled=none)(ha:ES G A ab T ρ σ (Z7 a ab) x)(hb:ES G A ab T ρ σ (Z7 b ab) y)(e:dE σ op x y=some r):
 ES G A ab T ρ σ (Z7 (.BinOp a op b pos) ab) r:=λs φ β P m I R =>
 jcL (ha.post I R λx' ak ay aw bb aI aF=>hb.post bb aI λy' aC aU aP dJ bW bI =>
  qX (aw.trans aP) (JP hA bW.tk bW.objs bW.fresh e (aI.vr aP aF) bI))
theorem ME (ha:ES G A ab T ρ σ (Z7 a ab) x)(e:qV op x=some r):
 ES G A ab T ρ σ (Z7 (.UnaryOp op a pos) ab) r:=λs φ β P m I R =>
 UnaryOp_ (ha.post I R λx' ak ay aw bb aI aF=>qX aw (Xh aI.tk e aF))
theorem Ms (hu:A.units<jgY)(hm:jeo op b=false)(ha:ES G A ab T ρ σ (Z7 a ab) x)(hb:ES G A ab T ρ σ (Z7 b ab) y)(e:j3 σ op x y=some r):ES G A ab T ρ σ (Z7 (.Compare a [op] [b] pos) ab) (.bool r):=λs φ β P m I R =>
 jhb (ha.post I R λx' ak ay aw bb aI aF=>hb.post bb aI λy' aC aU aP dJ bW bI =>
  qX (aw.trans aP) (Cs bW.tk dJ bW.objs hu e (aI.vr aP aF) bI)) hm
theorem W5 (hu:A.units<jgY)(hm:jeo op b=false)(ha:ES G A ab T ρ σ (Z7 a ab) x)(hb:ES G A ab T ρ σ (Z7 b ab) y)(e:j3 σ op x y=some r):TS G A ab T ρ σ (jbm (.Compare a [op] [b] pos) ab whole) r:=λs φ β P m I R =>
 jfL (ha.post I R λx' ak ay aw bb aI aF=>hb.post bb aI λy' aC aU aP dJ bW bI =>
  up (Cs bW.tk dJ bW.objs hu e (aI.vr aP aF) bI) λv dk ⟨eT,cn,jn⟩=>by
   cases jn;exact jaE ⟨rfl,eT,(aw.trans aP).trans cn.x⟩) hm
theorem W6 (ha:TS G A ab T ρ σ (jbm a ab (Z7 a ab)) b):TS G A ab T ρ σ (jbm (.UnaryOp .Not a pos) ab whole) (!b):=λs φ β P m I R =>
 isTrue_not (ha.post I R λs' am k Y Y=>⟨rfl,am,k⟩)
theorem Ik (he:jbm e ab whole=(do let v <-whole;jfi e.pos;jfl [v] (truthy v)))(ha:ES G A ab T ρ σ whole (.bool b)):
 TS G A ab T ρ σ (jbm e ab whole) b:=λs φ β P m I R =>
 isTrue_plain (ha.post I R λx s' am k Y Y r=>by cases r;exact jaE ⟨rfl,am,k⟩) he
theorem C2 (hc:TS G A ab T ρ σ (jbm c ab (Z7 c ab)) t)(ha:t=true->ES G A ab T ρ σ (Z7 a ab) v)(hb:t=false->ES G A ab T ρ σ (Z7 b ab) v):
 ES G A ab T ρ σ (Z7 (.IfExp c a b pos) ab) v:=λs φ β P m I R =>
 IfExp_ (hc.post I R λak ay aw bb aI=>by
  induction t using ZC with
  |true=>exact lB aw (ha rfl ak ay β P m bb aI)
  |false=>exact lB aw (hb rfl ak ay β P m bb aI))
theorem Ii (hc:TS G A ab T ρ σ (jbm c ab (Z7 c ab)) t)(ha:t=true->TS G A ab T ρ σ (jbm a ab (Z7 a ab)) r)(hb:t=false->TS G A ab T ρ σ (jbm b ab (Z7 b ab)) r):TS G A ab T ρ σ (jbm (.IfExp c a b pos) ab whole) r:=λs φ β P m I R =>
 isTrue_IfExp (hc.post I R λak ay aw bb aI=>by
  induction t using ZC with
  |true=>exact(ha rfl).post bb aI λaC aU aP Y Y=>⟨rfl,aU,aw.trans aP⟩
  |false=>exact(hb rfl).post bb aI λaC aU aP Y Y=>⟨rfl,aU,aw.trans aP⟩)
theorem W4:TS G A ab T ρ σ (jbm (.BoolOp .And [] pos) ab whole) true:=λs φ β P m I R=>isTrue_and_nil ⟨rfl,φ,.refl R.tk⟩
theorem Ih (hc:TS G A ab T ρ σ (jbm a ab (Z7 a ab)) t)(hf:t=false->r=false)(ha:t=true->TS G A ab T ρ σ (jbm (.BoolOp .And az pos) ab whole) r):TS G A ab T ρ σ (jbm (.BoolOp .And (a::az) pos) ab whole) r:=λs φ β P m I R =>
 isTrue_and (hc.post I R λak ay aw bb aI=>by
  induction t using ZC with
  |true=>exact(ha rfl).post bb aI λaC aU aP Y Y=>⟨rfl,aU,aw.trans aP⟩
  |false=>exact⟨(hf rfl).symm,ay,aw⟩)
theorem W7:TS G A ab T ρ σ (jbm (.BoolOp .Or [] pos) ab whole) false:=λs φ β P m I R=>isTrue_or_nil ⟨rfl,φ,.refl R.tk⟩
theorem Ij (hc:TS G A ab T ρ σ (jbm a ab (Z7 a ab)) t)(hf:t=true->r=true)(ha:t=false->TS G A ab T ρ σ (jbm (.BoolOp .Or az pos) ab whole) r):TS G A ab T ρ σ (jbm (.BoolOp .Or (a::az) pos) ab whole) r:=λs φ β P m I R =>
 isTrue_or (hc.post I R λak ay aw bb aI=>by
  induction t using ZC with
  |false=>exact(ha rfl).post bb aI λaC aU aP Y Y=>⟨rfl,aU,aw.trans aP⟩
  |true=>exact⟨(hf rfl).symm,ay,aw⟩)
theorem C0 (hc:ES G A ab T ρ σ (Z7 a ab) (.bool t))(hf:t=false->r=false)(ha:t=true->ES G A ab T ρ σ (Z7 (.BoolOp .And (b::az) pos) ab) (.bool r)):ES G A ab T ρ σ (Z7 (.BoolOp .And (a::b::az) pos) ab) (.bool r):=λs φ β P m I R =>
 BoolOp_and (hc.post I R λx ak ay aw bb aI aF=>by
  cases aF;refine jaE ?_
  induction t using ZC with
  |true=>exact lB aw (ha rfl ak ay β P m bb aI)
  |false=>refine aa (hf rfl) ?_;exact⟨ay,aw,.bool _⟩)
theorem C4 (hc:ES G A ab T ρ σ (Z7 a ab) (.bool t))(hf:t=true->r=true)(ha:t=false->ES G A ab T ρ σ (Z7 (.BoolOp .Or (b::az) pos) ab) (.bool r)):ES G A ab T ρ σ (Z7 (.BoolOp .Or (a::b::az) pos) ab) (.bool r):=λs φ β P m I R =>
 BoolOp_or (hc.post I R λx ak ay aw bb aI aF=>by
  cases aF;refine jaE ?_
  induction t using ZC with
  |false=>exact lB aw (ha rfl ak ay β P m bb aI)
  |true=>refine aa (hf rfl) ?_;exact⟨ay,aw,.bool _⟩)
theorem MH:gS G A ab T ρ σ (jce (jcg pos (jao [] ab))) []:=λs φ β P m I R=>jdg ⟨φ,.refl R.tk,.nil⟩
theorem MG (he:jao (e::az) ab=(false,Z7 e ab)::jao az ab)(h:ES G A ab T ρ σ (Z7 e ab) v)(hr:gS G A ab T ρ σ (jce (jcg pos (jao az ab))) vs):gS G A ab T ρ σ (jce (jcg pos (jao (e::az) ab))) (v::vs):=λs φ β P m I R =>
 jcy (h.post I R λx ak ay aw bb aI aF=>hr.post bb aI λys aC aU aP dJ bW bI=>⟨aU,aw.trans aP,.cons (aI.vr aP aF) bI⟩) he
theorem My (hs:vs.length<=100000)(h:∀pos,gS G A ab T ρ σ (jce (jcg pos (jao elts ab))) vs):ES G A ab T ρ σ (Z7 (.List elts pos) ab) (.lst vs):=λs φ β P m I R =>
 jcV ((h pos).post I R λxs ak ay aw bb aI aF=>⟨d0 (by rw[<-aF.length];exact hs),by
  refine au (AW (s:=ak) aI.tk aI.fresh aF) λam k r=>?_;exact⟨am,aw.trans k.x,r⟩⟩)
theorem MD (hs:vs.length<=100000)(h:∀pos,gS G A ab T ρ σ (jce (jcg pos (jao elts ab))) vs):ES G A ab T ρ σ (Z7 (.Tuple elts n pos) ab) (.tup vs):=λs φ β P m I R =>
 jhJ ((h pos).post I R λxs ak ay aw bb aI aF=>⟨d0 (by rw[<-aF.length];exact hs),by
  refine au (Hx (s:=ak) aI.tk aI.fresh aF) λam k r=>?_;exact⟨am,aw.trans k.x,r⟩⟩)
theorem Mx (ha:ES G A ab T ρ σ (Z7 a ab) x)(hb:ES G A ab T ρ σ (Z7 i ab) y)(e:m9 σ x y=some r):
 ES G A ab T ρ σ (Z7 (.Subscript a i pos) ab) r:=λs φ β P m I R =>
 jfu (ha.post I R λx' ak ay aw bb aI aF=>hb.post bb aI λy' aC aU aP dJ bW bI =>
  qX (aw.trans aP) (Rn bW.tk bW.objs e (aI.vr aP aF) bI))
def PS (G:GD)(A:ZS)(ab:Env)(T:Tb)(ρ:aB)(σ:aA)(t:Sem Value)(v:Option Int):Prop :=
 ∀s φ β P m,bg G s.heap->ER G φ ab T ρ σ β P m s->Y7 (Y9 af wd) A t (λx s'=>(∃o:Option (Int×Tok),x=jaZ o/\o.map (·.1)=v)/\∃am,GX G s φ s' am) ax s
theorem PS.post (h:PS G A ab T ρ σ t v)(I:bg G s.heap)(R:ER G φ ab T ρ σ β P m s)(hQ:∀o s' am,o.map (·.1)=v->GX G s φ s' am->bg G s'.heap->ER G am ab T ρ σ β P m s'->Q (jaZ o) s'):Y7 (Y9 af wd) A t Q E s :=
 up (h s φ β P m I R) λx s' ⟨⟨o,e,e'⟩,am,k⟩=>by subst e;exact hQ o s' am e' k (I.go k) (R.go k I.tabs)
theorem UC:PS G A ab T ρ σ (jgX none ab) none:=λs φ β P m I R=>Zu ⟨⟨none,rfl,rfl⟩,φ,.refl R.tk⟩
theorem UD (h:ES G A ab T ρ σ (Z7 e ab) (.int i)):PS G A ab T ρ σ (jgX (some e) ab) (some i):=λs φ β P m I R =>
 h.post I R λx ak ay aw bb aI aF=>by cases aF;exact⟨⟨some (_,_),rfl,rfl⟩,ay,aw⟩
theorem MC {a:Expr}{lo hi:Option Expr}{p pos:Pos}{x r:AV}{l u:Option Int}(ha:ES G A ab T ρ σ (Z7 a ab) x)(hl:PS G A ab T ρ σ (jgX lo ab) l)(hu:PS G A ab T ρ σ (jgX hi ab) u)(e:qQ σ x l u=some r):ES G A ab T ρ σ (Z7 (.Subscript a (.Slice lo hi none p) pos) ab) r:=λs φ β P m I R =>
 jfu (ha.post I R λx' ak ay aw bb aI aF=>wpAny_Slice (hl.post bb aI λUb aC aU mP aP dJ bW=>hu.post dJ bW λG9 dk eT mQ cn rk i3=>by
  refine aa (evalPart_none _) ?_;refine Zu ?_;subst mP mQ;have r':=bW.vr cn (aI.vr aP aF);have k:GX G s φ { dk with heap:=dk.heap.push (kA (jaZ Ub) (jaZ G9)) } eT:=((aw.trans aP).trans cn).trans (.same cn.tk bF.push (Y2 _));exact up (Vp i3.tk i3.objs i3.fresh e r') λv s' ⟨am,k',q⟩=>⟨am,((aw.trans aP).trans cn).trans k'.x,q⟩))
end
def f9:Expr->Bool
 | .Starred ..=>false
 |_=>true
theorem iV (h:f9 e=true):jao (e::az) ab=(false,Z7 e ab)::jao az ab:=by
 cases e<;>first|rfl|cases h
theorem qS:∀{as:List Expr},as.all f9=true->(jcg pos (jao as ab)).any (·.1)=false
 | [],_=>rfl
 |e::as,h=>by
  rw[jca,Zs]at h;refine aa (iV h.1) ?_;show(false||(jcg pos (jao as ab)).any (·.1))=false;refine aa (qS h.2) ?_;rfl
theorem A8:∀{as:List Expr},as.all f9=true->(jcg pos (jao as ab)).all (λx=>!x.1)=true
 | [],_=>rfl
 |e::as,h=>by
  rw[jca,Zs]at h;refine aa (iV h.1) ?_;show(true&&(jcg pos (jao as ab)).all (λx=>!x.1))=true;refine aa (A8 h.2) ?_;rfl
section
theorem VR.scalar (hs:v.scalar=true)(r:VR tk φ h β P v x)(kn:∀t y,φ t y->am t y):VR tk am h' aH P' v x:=by
 cases r with
 |none=>exact .none
 |bool b=>exact .bool b
 |int i t=>exact .int i t
 |flt y t ht=>exact .flt y t (kn _ _ ht)
 |str y t=>exact .str y t
 |_=>cases hs
def mr (G:GD)(x:Str)(v:Value):Prop:=G.mg x=some v\/(G.mg x=none/\G.mb x=some v)
theorem OO (h:T.isGlobal x=true)(hE:bQ ab T):ab.kindOf x=some .globalImplicit/\(x==("__debug__" : Str))=false:=by
 unfold Tb.isGlobal at h;rw[Zs]at h;exact⟨hE.glob x (eq_of_beq h.1),(Hk h.2).1⟩
theorem jQ (hE:bQ ab T)(h:T.isGlobal x=true)(hl:mr G x v)(I:bg G s.heap)(hq:Q v s):
 Y7 (Y9 af wd) A (Z7 (.Name x pos) ab) Q E s:=by
 refine bN (OO h hE) λh1 h2=>?_;refine PySem.Calls.Name_function_global hE.kind h1 ?_ h2;have hg:=I.g;have hb:=I.b;rw[<-hE.g]at hg;rw[<-hE.b]at hb;rcases hl with hl|hl
 ·exact jeU hg hl hq
 ·exact jeM hg hl.1 hb hl.2 hq
theorem Mw (hE:bQ ab T)(hG:dD G)(h:T.isGlobal x=true)(hl:sD.lookup x=some g):ES G A ab T ρ σ (Z7 (.Name x pos) ab) (sC g):=by
 intro s φ β P m I R;obtain⟨v,h1,h2⟩:∃v,mr G x v/\VR G.tok φ s.heap β P (sC g) v:=bv (C:=λe=>∃v,mr G e.1 v/\VR G.tok φ s.heap β P (sC e.2) v) (hG.divLimit.elim λt ht=>aN _ (.inl ht) (.int _ _))
  (bv (hG.ntOffset.elim λt ht=>aN _ (.inl ht) (.int _ _)) (bv (hG.endMarker.elim λt ht=>aN _ (.inl ht) (.int _ _)) (bv ⟨_,.inl hG.tok,.tok⟩ kM))) (x,g) (mem_of_lookup hl)
 exact jQ hE h h1 I ⟨φ,.refl R.tk,h2⟩
def BR (G:GD)(A:ZS)(σ:aA)(f:Value)(vs:List AV)(r:AV):Prop :=
 ∀s φ β P xs,bg G s.heap->aV φ s->cr G.tok φ s.heap β P σ->kG G s P->(∀a,P a->eX G a)->(∀a,a∈β->eX G a)->ar G.tok φ s.heap β P vs xs ->
  Y7 (Y9 af wd) A (call f xs) (lG G φ s β P r) ax s
theorem BR.on (h:BR G A σ f vs r)(I:bg G s.heap)(R:ER G φ ab T ρ σ β P m s)(r':ar G.tok φ s.heap β P vs xs):
 Y7 (Y9 af wd) A (call f xs) (lG G φ s β P r) ax s:=h s φ β P xs I R.tk R.objs R.freshX R.psafe (λa h=>R.bsafe a (.inl h)) r'
theorem Mo {T:Tb}{x:Str}{p pos:Pos}{e:Expr}{az:List Expr}{id:String}{vs:List AV}{r:AV}(hE:bQ ab T)(hx:T.isGlobal x=true)(hl:mr G x (.builtin id))(hs:(e::az).all f9=true)(ha:gS G A ab T ρ σ (jce (jcg pos (jao (e::az) ab))) vs)(hb:BR G A σ (.builtin id) vs r):ES G A ab T ρ σ (Z7 (.Call (.Name x p) (e::az) [] pos) ab) r:=λs φ β P m I R =>
 jaC (jQ hE hx hl I (by
  rw[jca,Zs]at hs;exact jeE (ha.post I R λxs ak ay aw bb aI aF=>lB aw (hb.on bb aI aF)) (iV hs.1) (qS hs.2)))
theorem Mq {T:Tb}{x:Str}{p pos:Pos}{e:Expr}{az:List Expr}{id:String}{vs:List AV}{r:AV}(hE:bQ ab T)(hx:T.isGlobal x=true)(hl:mr G x (.type id))(hs:(e::az).all f9=true)(ha:gS G A ab T ρ σ (jce (jcg pos (jao (e::az) ab))) vs)(hb:BR G A σ (.type id) vs r):ES G A ab T ρ σ (Z7 (.Call (.Name x p) (e::az) [] pos) ab) r:=λs φ β P m I R =>
 jaC (jQ hE hx hl I (by
  rw[jca,Zs]at hs;exact jbd (ha.post I R λxs ak ay aw bb aI aF=>lB aw (hb.on bb aI aF)) (iV hs.1) (qS hs.2)))
theorem Mp (hE:bQ ab T)(hx:T.isGlobal x=true)(hk:G.fns k=some (x,fd))(hs:(e::az).all f9=true)(ha:gS G A ab T ρ σ (jce (jcg pos (jao (e::az) ab))) vs)(hb:∀a,G.mg x=some (.ref a)->BR G A σ (.ref a) vs r):ES G A ab T ρ σ (Z7 (.Call (.Name x p) (e::az) [] pos) ab) r:=λs φ β P m I R=>by
 refine n5 (I.fns k x fd hk) λa o h1 h2 h3 h4=>?_;refine jaC (jQ hE hx (.inl h1) I ?_);rw[jca,Zs]at hs;exact jff h3 (ha.post I R λxs ak ay aw bb aI aF=>⟨aw.ext _ _ (I.tabs.notX_data h2 λvs q=>by rw[h3]at q;cases q) h2,lB aw ((hb a h1).on bb aI aF)⟩) (iV hs.1)
structure rn (T:String) (name:Str) (id:String):Prop where
 pa:PlainAttrs T
 slot:Slot T name id
 ty:typeOf (.builtin id)=pure (.type "method_descriptor")
def mq (s:Y1)(x:Value)(T:String):Prop:=s.TypeIs x T/\∀a,x=.ref a->∃ob,s.heap.get? a=some ob/\ob.dict=none
theorem pr (h:B2 o=true):attributeBase o name ab whole=whole:=by
 induction o using ZR with
 |Call f as kws p =>
  induction f using ZR with
  |Name =>
   induction as using YZ with
   |nil=>induction kws using YZ with
    |nil=>exact bP h
    |cons=>rfl
   |cons=>rfl
  |_=>rfl
 |_=>rfl
theorem MB {G:GD}{o:Expr}{name:Str}{pk pos:Pos}{args:List Expr}{T' id:String}{v:AV}{vs:List AV}{r:AV}(bY:fe o args.length pk pos=true)(hM:rn T' name id)(hs:args.all f9=true)(ho:ES G A ab T ρ σ (Z7 o ab) v)(hT:∀s φ β P x,cr G.tok φ s.heap β P σ->VR G.tok φ s.heap β P v x->bg G s.heap->mq s x T')(ha:gS G A ab T ρ σ (jce (jcg pos (jao args ab))) vs)(hn:args=[]->vs=[])(hb:BR G A σ (.builtin id) (v::vs) r):ES G A ab T ρ σ (Z7 (.Call (.Attribute o name pk) args [] pos) ab) r:=λs φ β P m I R=>by
 unfold fe at bY;rw[Zs,Zs]at bY;refine bN bY λz1 h3=>?_;obtain⟨h1,h2⟩:=z1;refine jbq (pr h1) ?_ h2 (ho.post I R λx ak ay aw bb aI aF=>?_)
 ·refine aa (A8 hs) ?_;exact(jcw _).trans (decide_eq_true (be (of_decide_eq_true h3) (by decide)))
 ·refine bN (hT ak ay β P x aI.objs aF bb) λt1 t2=>?_;refine⟨T',id,hM.pa,hM.slot,hM.ty,t1,t2,?_⟩;refine jaB (qS hs) ?_
  induction args using YZ with
  |nil =>
   have:=hn rfl;subst this;exact jbR (lB aw (hb.on bb aI (.cons aF .nil)))
  |cons e az =>
   rw[jca,Zs]at hs;have oD:=ha;rw[iV hs.1]at oD ⊢;exact jdi (oD.post bb aI λxs aC aU aP dJ bW bI=>lB (aw.trans aP) (hb.on dJ bW (.cons (aI.vr aP aF) bI)))
end
section
variable {A:ZS}{ab:Env}{T:Tb}{ρ:aB}{σ:aA}{G:GD}{s:Y1}{φ:Gh}{β:List Zb}{P:Zb->Prop}{m:Str->Option Value}{tk:Zb}{h:jag}
theorem wa {α γ:Type}{f:α->Option γ}{a:α}{as:List α}{bs:List γ}(e:bh f (a::as)=some bs):∃b cs,bs=b::cs/\f a=some b/\bh f as=some cs:=by
 rw[gO]at e
 induction hb:f a using ae with
 |none=>rw[hb]at e;exact ai e
 |some b =>
  induction hc:bh f as using ae with
  |none=>rw[hb,hc]at e;exact ai e
  |some cs=>rw[hb,hc]at e;exact na b cs ((Y0 e).symm) rfl rfl
theorem GF {f:AV->Option AV}{ks:List Int}:∀{vs:List AV}{es:List (Int×AV)},ks.length=vs.length->bh (λe:Int×AV=>(f e.2).map (e.1,·)) (ks.zip vs)=some es->∃us,es=ks.zip us/\bh f vs=some us:=by
 induction ks with
 |nil=>exact λ{vs es} hl e=>aN [] ((Y0 e).symm) (by refine aa (Z3.mp hl.symm) ?_;rfl)
 |cons k ks ih =>
  intro vs es hl e
  induction vs using YZ with
  |nil=>exact nomatch hl
  |cons v vs =>
   refine bS (wa e) λb cs e1 h1 h2=>?_;refine au (Zp.mp h1) λu hu e2=>?_;refine au (ih (jcB hl) h2) λus e3 h3=>?_;exact aN (u::us) (by refine aa e1 ?_;refine rwj e2 ?_;refine aa e3 ?_;rfl) (by rewrite [gO];refine aa hu ?_;refine aa h3 ?_;rfl)
theorem GC {α γ:Type}{f:α->Option γ}{as:List α}:∀{bs:List γ},bh f as=some bs->as.length=bs.length:=by
 induction as with
 |nil=>exact λe=>Y0 e▸rfl
 |cons a as ih=>exact λe=>by refine bS (wa e) ?_;rintro b cs rfl _ h;exact congrArg (·+1) (ih h)
section
variable {P':Zb->Prop}
theorem qh {f:AV->Option AV}(hf:∀{v v':AV}{x:Value},f v=some v'->VR tk φ h β P v x->VR tk φ h [] P' v' x){vs cW:List AV}{xs:List Value}(e:bh f vs=some cW)(r:ar tk φ h β P vs xs):ar tk φ h [] P' cW xs :=
 r.ind (motive:=λvs xs=>∀cW,bh f vs=some cW->ar tk φ h [] P' cW xs) (λcW e=>Y0 e▸.nil) (λra Y ih cW e=>by
  refine bS (wa e) λb cs e1 h1 h2=>?_;exact e1▸.cons (hf h1 ra) (ih cs h2)) cW e
theorem OB {f:AV->Option AV}{o:AO}{a:Zb}{v':AV}(hf:∀{v v':AV}{x:Value},f v=some v'->VR tk φ h β P v x->VR tk φ h [] P' v' x)(hp:P' a)(e:(match some o with
 |some (.list vs)=>(bh f vs).map AV.lst
 |some (.dict es)=>(bh (λe=>(f e.2).map (e.1,·)) es).map .dct
 |_=>none)=some v') (r:OR tk φ h β P o a):VR tk φ h [] P' v' (.ref a):=by
 cases r with
 |list e' r' =>
  refine au (Zp.mp e) λws hw e=>?_;exact e▸.lst e' hp (qh hf hw r')
 |dict e' hl r' =>
  refine au (Zp.mp e) λws hw e=>?_;refine au (GF hl hw) λzs e2 hz=>?_;exact e▸e2▸.dct e' hp (hl.trans (GC hz)) (qh hf hz r')
theorem yQ (O:cr tk φ h β P σ)(hP:∀a,P a->P' a)(hB:∀(i:Nat) (a:Zb),σ[i]?.isSome=true->β[i]?=some a->P' a)(n:Nat):∀{v v':AV}{x:Value},aY σ n v=some v'->VR tk φ h β P v x->VR tk φ h [] P' v' x:=by
 induction n with
 |zero=>exact λe=>ai e
 |succ n ih =>
  intro v v' x e r
  induction v using AV.casesOn with
  |none=>exact Y0 e▸r.e_none .none
  |bool b=>exact Y0 e▸r.e_bool (.bool b)
  |int i=>exact Y0 e▸r.e_int λt=>.int i t
  |flt y=>exact Y0 e▸r.e_flt λt ht=>.flt y t ht
  |str y=>exact Y0 e▸r.e_str λt=>.str y t
  |tok=>exact Y0 e▸r.e_tok .tok
  |tup vs =>
   refine au (Zp.mp (show(bh (aY σ n) vs).map .tup=some v' from e)) λus hu e=>?_;exact e▸r.e_tup λa xs e' p r=>.tup e' (hP _ p) (qh ih hu r)
  |lst vs =>
   refine au (Zp.mp (show(bh (aY σ n) vs).map .lst=some v' from e)) λus hu e=>?_;exact e▸r.e_lst λa xs e' p r=>.lst e' (hP _ p) (qh ih hu r)
  |dct es =>
   refine au (Zp.mp (show(bh (λe:Int×AV=>(aY σ n e.2).map (e.1,·)) es).map .dct=some v' from e)) λus hu e=>?_;refine e▸r.e_dct λa ks vs xs om hl e' p r=>?_;rw[om]at hu;refine au (GF hl hu) λws e2 hw=>?_;exact e2▸.dct e' (hP _ p) (hl.trans (GC hw)) (qh ih hw r)
  |ref i =>
   refine r.e_ref λa hb=>?_;rw[yR]at e
   induction hi:σ[i]? using ae with
   |none=>rw[hi]at e;exact ai e
   |some o =>
    rw[hi]at e;have hg:o≠.gone:=λq=>by rw[q]at e;exact ai e
    refine au (O i _ hi hg) λa' h1 h2=>?_;refine aa (Y0 (hb.symm.trans h1)) ?_;exact OB ih (hB i a' (by refine aa hi ?_;rfl) h1) e h2
theorem Ef (O:cr tk φ h β P σ)(hP:∀a,P a->P' a)(hB:∀(i:Nat) (a:Zb),σ[i]?.isSome=true->β[i]?=some a->P' a)(n:Nat){vs cW:List AV}{xs:List Value}(e:bh (aY σ n) vs=some cW)(r:ar tk φ h β P vs xs):ar tk φ h [] P' cW xs :=
 qh (yQ O hP hB n) e r
end
theorem cr.nil:cr tk φ h β P []:=λi o e=>nomatch e
theorem VR.anyβ {v:AV}{x:Value}(r:VR tk φ h [] P v x):VR tk φ h β P v x:=r.mono (λY Y e=>e) (λY Y p e=>⟨e,p⟩) (List.nil_prefix)
def kE (G:GD)(A:ZS)(f:Value)(vs:List AV)(r:AV):Prop :=
 ∀s φ P xs,bg G s.heap->aV φ s->kG G s P->(∀a,P a->eX G a)->ar G.tok φ s.heap [] P vs xs ->
  Y7 (Y9 af wd) A (call f xs) (lG G φ s [] P r) ax s
def uf (G:GD)(A:ZS)(Φ:cX):Prop :=
 ∀k vs r,Φ k vs=some r->∃x fd,G.fns k=some (x,fd)/\∀a,G.mg x=some (.ref a)->kE G A (.ref a) vs r
theorem J3 {Φ:cX}{k:Nat}{vs:List AV}{r:AV}(hΦ:uf G A Φ)(e:nP Φ σ k vs=some r):∃x fd,G.fns k=some (x,fd)/\∀a,G.mg x=some (.ref a)->BR G A σ (.ref a) vs r:=by
 unfold nP at e
 induction hb:bh (aY [] 6) vs using ae with
 |some bs =>
  rw[hb]at e;refine bB (hΦ k bs r e) λx fd h1 h2=>?_;exact cZ x fd h1 (λa ha s φ β P xs I K O F hp je r'=>up (h2 a ha s φ P xs I K F hp (Ef (cr.nil (β:=β) (P:=P)) (λa p=>p) (λi a e=>by simp at e) 6 hb r')) λv s' ⟨am,k',q⟩=>⟨am,k',q.anyβ⟩)
 |none =>
  rw[hb]at e;clear hb
  induction hb:bh (aY σ 6) vs using ae with
  |none=>rw[hb]at e;exact ai e
  |some bs =>
   rw[hb]at e;dsimp only at e
   induction hr:Φ k bs using ae with
   |none=>rw[hr]at e;exact ai e
   |some r' =>
    rw[hr]at e;refine bR e λhs e=>?_;rw[Y0 e]at hs hr;refine bB (hΦ k bs r hr) λx fd h1 h2=>?_;exact cZ x fd h1 (λa ha s φ β P xs I K O F hp je r'=>up (h2 a ha s φ (λa=>P a\/a∈β) xs I K (λa e=>.inl (F a e)) (λa e=>e.elim (hp a) (je a)) (Ef (P':=λa=>P a\/a∈β) O (λa p=>.inl p) (λi a Y e=>.inr (ZB e)) 6 hb r'))
     λv s' ⟨am,k',q⟩=>⟨am,k',q.scalar hs λY Y e=>e⟩)
inductive ue (G:GD) (A:ZS) (σ:aA) (x:Str) (vs:List AV) (r:AV):Prop
 |builtin (id:String) (hl:mr G x (.builtin id)) (h:BR G A σ (.builtin id) vs r)
 |type (id:String) (hl:mr G x (.type id)) (h:BR G A σ (.type id) vs r)
 |def_ (k:Nat) (fd:jau) (hk:G.fns k=some (x,fd)) (h:∀a,G.mg x=some (.ref a)->BR G A σ (.ref a) vs r)
def gE (G:GD):Prop:=∀x k y fd,gv.lookup x=some (.user k)->G.fns k=some (y,fd)->y=x
def DQ:Fn->Str->Bool
 | .range,x=>x==("range" : Str)
 | .len,x=>x==("len" : Str)
 | .sum,x=>x==("sum" : Str)
 | .max,x=>x==("max" : Str)
 | .min,x=>x==("min" : Str)
 | .ord,x=>x==("ord" : Str)
 | .chr,x=>x==("chr" : Str)
 | .int,x=>x==("int" : Str)
 | .divmod,x=>x==("divmod" : Str)
 | .reversed,_=>true
 | .user _,_=>true
 |_,_=>false
theorem Nz {x:Str}{f:Fn}(h:gv.lookup x=some f):DQ f x=true :=
 Y3.mp (show gv.all (λe=>DQ e.2 e.1)=true by decide +kernel) _ (mem_of_lookup h)
theorem ue.bi {x:Str}{vs:List AV}{r:AV}{y:String}(hG:dD G)(hy:y∈(["len","sum","max","min","ord","chr","divmod","isinstance"]:List String)) (hx:(x==jaO y)=true)
 (h:∀s φ β P xs,bg G s.heap->aV φ s->cr G.tok φ s.heap β P σ->kG G s P->(∀a,P a->eX G a)->ar G.tok φ s.heap β P vs xs->Y7 (Y9 af wd) A (call (.builtin y) xs) (aK G.tok φ s β P r) ax s):ue G A σ x vs r :=
 .builtin y (eq_of_beq hx▸.inr (hG.builtins y hy)) λs φ β P xs I K O F hp Y r'=>up (h s φ β P xs I K O F hp r') λY Y q=>q.x
theorem KC {Φ:cX}{x:Str}{f:Fn}{vs:List AV}{r:AV}(hA:A.handled=none)(hG:dD G)(hN:gE G)(hΦ:uf G A Φ)(hx:gv.lookup x=some f)(e:nR Φ σ f vs=some r):ue G A σ x vs r:=by
 have hn:=Nz hx
 induction f using Fn.casesOn with
 |len=>exact .bi hG (by simp) hn λs φ β P xs I K O F hp r'=>Kr K O (λa p=>(hp a p).1) e r'
 |sum=>exact .bi hG (by simp) hn λs φ β P xs I K O F hp r'=>KA hA K O e r'
 |max=>exact .bi hG (by simp) hn λs φ β P xs I K O F hp r'=>Kt hA K O e r'
 |min=>exact .bi hG (by simp) hn λs φ β P xs I K O F hp r'=>Kv hA K e r'
 |ord=>exact .bi hG (by simp) hn λs φ β P xs I K O F hp r'=>Kx K e r'
 |chr=>exact .bi hG (by simp) hn λs φ β P xs I K O F hp r'=>Ka K e r'
 |divmod=>exact .bi hG (by simp) hn λs φ β P xs I K O F hp r'=>Kd K F.f e r'
 |int=>exact .type "int" (eq_of_beq (show(x==jaO "int")=true from hn)▸.inr (hG.types "int" (by simp))) λs φ β P xs I K O F hp hb r'=>up (Kk K e r') λY Y q=>q.x
 |user k =>
  refine bB (J3 hΦ e) λy fd h1 h2=>?_;exact .def_ k fd (hN x k y fd hx h1▸h1) (hN x k y fd hx h1▸h2)
 |range=>exact ai e
 |reversed=>exact ai e
 |_=>exact bP hn
end
section
theorem QM (r:VR tk φ h β P (.str cs) x):mq s x "str" := r.e_str λY=>⟨jcP _ _ _,λY e=>nomatch e⟩
theorem QL (r:VR tk φ h β P (.int i) x):mq s x "int" := r.e_int λY=>⟨typeIs_int _ _ _,λY e=>nomatch e⟩
theorem zO (O:cr tk φ s.heap β P σ)(e:aQ σ v=some vs)(r:VR tk φ s.heap β P v x):mq s x "list" := by
 refine bS (Am O e r) ?_;rintro a xs rfl h1 h2;refine⟨h1.isList.typeIs,λb e=>?_⟩;cases e;refine aW h1 λn ho=>?_;exact aN _ ho rfl
theorem FG (O:cr tk φ s.heap β P σ)(e:gH σ v=some es)(r:VR tk φ s.heap β P v x):mq s x "dict" := by
 refine sj (xU O e r) ?_;rintro a ks vs xs rfl _ _ h1 _;refine⟨h1.mapOf.typeIs,h1.mapOf.noDict⟩
theorem QN (I:bg G s.heap)(r:VR G.tok φ h β P .tok x):mq s x "dict" := by
 refine au I.tok λf hm Y=>?_;exact r.e_tok ⟨hm.typeIs,hm.noDict⟩
def HT (G:GD)(σ:aA)(v:AV)(T':String):Prop:=∀s φ β P x,cr G.tok φ s.heap β P σ->VR G.tok φ s.heap β P v x->bg G s.heap->mq s x T'
theorem HT.str:HT G σ (.str cs) "str" := λY Y Y Y Y Y r Y=>QM r
theorem HT.list (e:aQ σ v=some vs):HT G σ v "list" := λY Y Y Y Y O r Y=>zO O e r
theorem Ki (e:nO σ (v::vs)=some r):(HT G σ v "str" /\ ∀s φ β P xs,aV φ s->ar G.tok φ s.heap β P (v::vs) xs->Y7 (Y9 af wd) A (call (.builtin "str.index") xs) (aK G.tok φ s β P r) ax s) \/
 (HT G σ v "list" /\ ∀s φ β P xs,aV φ s->cr G.tok φ s.heap β P σ->ar G.tok φ s.heap β P (v::vs) xs->Y7 (Y9 af wd) A (call (.builtin "list.index") xs) (aK G.tok φ s β P r) ax s):=by
 generalize hq:v::vs=as at e ⊢;revert hq;refine Kh (C:=λas r=>v::vs=as->(HT G σ v "str" /\ ∀s φ β P xs,aV φ s->ar G.tok φ s.heap β P as xs->Y7 (Y9 af wd) A (call (.builtin "str.index") xs) (aK G.tok φ s β P r) ax s) \/
  (HT G σ v "list" /\ ∀s φ β P xs,aV φ s->cr G.tok φ s.heap β P σ->ar G.tok φ s.heap β P as xs->Y7 (Y9 af wd) A (call (.builtin "list.index") xs) (aK G.tok φ s β P r) ax s)) ?_ ?_ e
 ·intro x y k az ho q;injection q with q
  subst q;exact .inl ⟨.str,λs φ β P xs K ra=>ra.e2 λa b r1 r3=>r1.e_str λt=>r3.e_str λu=>VS K ho⟩
 ·intro l i vs is k hl eR hk aT q;injection q with q
  refine .inr ⟨q▸.list hl,λs φ β P xs K O ra=>ra.e2 λa b r1 r3=>r3.e_int λu=>?_⟩;refine bS (fx O hl r1) ?_;rintro a xs rfl h1 h2;exact Sq K h1 (rH eR h2) hk aT
theorem Kb (K:aV φ s)(O:cr tk φ s.heap β P σ)(e:pE σ as=some r)(ra:ar tk φ s.heap β P as xs):
 Y7 (Y9 af wd) A (call (.builtin "list.count") xs) (aK tk φ s β P r) ax s :=
 Cf (C:=λas r=>∀{xs:List Value},ar tk φ s.heap β P as xs->Y7 (Y9 af wd) A (call (.builtin "list.count") xs) (aK tk φ s β P r) ax s) (λl i vs is hl eR xs ra=>ra.e2 λa b r1 r3=>r3.e_int λu=>by
  refine bS (fx O hl r1) ?_;rintro a xs rfl h1 h2;exact Sp K h1 (rH eR h2)) e ra
theorem Ke (K:aV φ s)(e:mC as=some r)(ra:ar tk φ s.heap β P as xs):
 Y7 (Y9 af wd) A (call (.builtin "str.find") xs) (aK tk φ s β P r) ax s :=
 Cg (C:=λas r=>∀{xs:List Value},ar tk φ s.heap β P as xs->Y7 (Y9 af wd) A (call (.builtin "str.find") xs) (aK tk φ s β P r) ax s) (λx y xs ra=>ra.e2 λa b r1 r3=>r1.e_str λt=>r3.e_str λu=>VQ K) e ra
theorem Kf (I:bg G s.heap)(K:aV φ s)(O:cr G.tok φ s.heap β P σ)(je:∀a,a∈β->(a==Z')=false)(e:uD σ as=some r)(ra:ar G.tok φ s.heap β P as xs):
 Y7 (Y9 af wd) A (call (.builtin "dict.get") xs) (aK G.tok φ s β P r) ax s:=by
 refine Ch (C:=λas r=>∀{xs:List Value},ar G.tok φ s.heap β P as xs->Y7 (Y9 af wd) A (call (.builtin "dict.get") xs) (aK G.tok φ s β P r) ax s) ?_ ?_ e ra
 ·exact λx d xs ra=>ra.e3 λa b c r1 r3 r5=>r1.e_tok (r3.e_str λt=>Wu K I r5)
 ·refine λj k d es hd xs ra=>ra.e3 λa b c r1 r3 r5=>r3.e_int λt=>?_;refine sj (xU O hd r1) ?_;rintro a' ks vs xs EU rfl hl h1 h2;refine au r1.inv λa2 e2 hb=>?_;cases EU.symm.trans e2;exact EU▸LM K h1 (je _ (ZB hb)) h2 r5
def GB:Fn->Option Str
 | .bitLength=>some "bit_length"
 | .index=>some "index"
 | .find=>some "find"
 | .join=>some "join"
 | .split=>some "split"
 | .count=>some "count"
 | .get=>some "get"
 |_=>none
theorem SJ (h:iU.lookup x=some f):GB f=some x :=
 eq_of_beq (Y3.mp (show iU.all (λe=>GB e.2==some e.1)=true by decide +kernel) _ (mem_of_lookup h))
def gV (G:GD)(A:ZS)(σ:aA)(name:Str)(v:AV)(vs:List AV)(r:AV):Prop:=∃T' id,rn T' name id/\HT G σ v T'/\BR G A σ (.builtin id) (v::vs) r
section
theorem SK (e:uC (v::vs)=some r):gV G A σ "bit_length" v vs r :=
 ⟨"int","int.bit_length",⟨PySem.F.plainAttrs_int,slot_int_bit_length,type_int_bit_length⟩,Ce (C:=λas Y=>∀v vs,v::vs=as->HT G σ v "int") (λi v vs q=>by injection q with q;exact q▸λY Y Y Y Y Y r Y=>QL r) e v vs rfl,λs φ β P xs I K O F hp hb r'=>up (J9 K e r') λY Y q=>q.x⟩
theorem SP (e:nO σ (v::vs)=some r):gV G A σ "index" v vs r:=by
 rcases Ki (G:=G) (A:=A) e with⟨h1,h2⟩|⟨h1,h2⟩
 ·exact⟨"str","str.index",⟨jbM,jgw,PySem.F.type_str_index⟩,h1,λs φ β P xs I K O F hp hb r'=>up (h2 s φ β P xs K r') λY Y q=>q.x⟩
 ·exact⟨"list","list.index",⟨jcv,jgg,PySem.F.type_list_index⟩,h1,λs φ β P xs I K O F hp hb r'=>up (h2 s φ β P xs K O r') λY Y q=>q.x⟩
theorem SN (e:mC (v::vs)=some r):gV G A σ "find" v vs r :=
 ⟨"str","str.find",⟨jbM,jgJ,PySem.F.type_str_find⟩,Cg (C:=λas Y=>∀v vs,v::vs=as->HT G σ v "str") (λx y v vs q=>by injection q with q;exact q▸.str) e v vs rfl,λs φ β P xs I K O F hp hb r'=>up (Ke K e r') λY Y q=>q.x⟩
theorem SQ (e:uG σ (v::vs)=some r):gV G A σ "join" v vs r :=
 ⟨"str","str.join",⟨jbM,jgI,PySem.F.type_str_join⟩,Ci (C:=λas Y=>∀v vs,v::vs=as->HT G σ v "str") (λl ws xs Y Y Y v vs q=>by injection q with q;exact q▸.str) e v vs rfl,λs φ β P xs I K O F hp hb r'=>up (Kp K O e r') λY Y q=>q.x⟩
theorem SS (e:rR (v::vs)=some r):gV G A σ "split" v vs r :=
 ⟨"str","str.split",⟨jbM,jgu,PySem.F.type_str_split⟩,Cj (C:=λas Y=>∀v vs,v::vs=as->HT G σ v "str") (λx Y v vs q=>by injection q with q;exact q▸.str) e v vs rfl,λs φ β P xs I K O F hp hb r'=>up (Ky K F.f e r') λY Y q=>q.x⟩
theorem SM (e:pE σ (v::vs)=some r):gV G A σ "count" v vs r :=
 ⟨"list","list.count",⟨jcv,jgh,PySem.F.type_list_count⟩,Cf (C:=λas Y=>∀v vs,v::vs=as->HT G σ v "list") (λl i ws is hl Y v vs q=>by injection q with q;exact q▸.list hl) e v vs rfl,λs φ β P xs I K O F hp hb r'=>up (Kb K O e r') λY Y q=>q.x⟩
theorem SO (e:uD σ (v::vs)=some r):gV G A σ "get" v vs r :=
 ⟨"dict","dict.get",⟨jdR,jbS,jgH⟩,Ch (C:=λas Y=>∀v vs,v::vs=as->HT G σ v "dict") (λx d v vs q=>by injection q with q;exact q▸λY Y Y Y Y Y r I=>QN I r)
  (λj k d es hd v vs q=>by injection q with q;exact q▸λY Y Y Y Y O r Y=>FG O hd r) e v vs rfl,λs φ β P xs I K O F hp hb r'=>up (Kf I K O (λa h=>(hb a h).1) e r') λY Y q=>q.x⟩
end
theorem Tc (hA:A.handled=none)(hl:iU.lookup name=some f)(e:nR Φ σ f (v::vs)=some r):
 ∃T' id,rn T' name id/\(∀s φ β P x,cr G.tok φ s.heap β P σ->VR G.tok φ s.heap β P v x->bg G s.heap->mq s x T')/\BR G A σ (.builtin id) (v::vs) r:=by
 have hn:=SJ hl;show gV G A σ name v vs r;clear hl
 induction f using Fn.casesOn with
 |bitLength=>exact aG (Q:=λn=>gV G A σ n v vs r) hn (SK e)
 |index=>exact aG (Q:=λn=>gV G A σ n v vs r) hn (SP e)
 |find=>exact aG (Q:=λn=>gV G A σ n v vs r) hn (SN e)
 |join=>exact aG (Q:=λn=>gV G A σ n v vs r) hn (SQ e)
 |split=>exact aG (Q:=λn=>gV G A σ n v vs r) hn (SS e)
 |count=>exact aG (Q:=λn=>gV G A σ n v vs r) hn (SM e)
 |get=>exact aG (Q:=λn=>gV G A σ n v vs r) hn (SO e)
 |_=>exact GW hn.symm
end
section
theorem C1 (hE:bQ ab T)(hG:dD G)(hf:T.isGlobal ("isinstance" : Str)=true) (ht:T.isGlobal t=true) (hl:mr G t (.type ty)) (hs:f9 e=true) (he:ES G A ab T ρ σ (Z7 e ab) v) (hc:∀s φ β P x,aV φ s->VR G.tok φ s.heap β P v x->Y7 (Y9 af wd) A (call (.builtin "isinstance") [x,.type ty]) (aK G.tok φ s β P r) ax s):
 ES G A ab T ρ σ (Z7 (.Call (.Name ("isinstance" : Str) p) [e,.Name t tp] [] pos) ab) r:=λs φ β P m I R =>
 jaC (jQ hE hf (.inr (hG.builtins "isinstance" (by simp))) I (jeE
  (jcy (he.post I R λx ak ay aw bb aI aF=>jcy (jQ hE ht hl bb (jdg (qX aw (hc ak ay β P x aI.tk aF)))) rfl) (iV hs)) (iV hs) rfl))
theorem MA (hA:A.handled=none)(hE:bQ ab T)(hG:dD G)(hf:T.isGlobal ("list" : Str)=true) (bY:fe d 0 ap mp=true) (aT:es.length<=100000) (he:ES G A ab T ρ σ (Z7 d ab) (.dct es)):
 ES G A ab T ρ σ (Z7 (.Call (.Name ("list" : Str) p) [.Call (.Attribute d ("values" : Str) ap) [] [] mp] [] pos) ab) (.lst (es.map (·.2))):=λs φ β P m I R=>by
 refine jaC (jQ hE hf (.inr (hG.types "list" (by simp))) I (jbd (jcy ?_ rfl) rfl rfl));unfold fe at bY;rw[Zs,Zs]at bY;refine bN bY λz1 h3=>?_;obtain⟨h1,h2⟩:=z1;refine jbq (pr h1) rfl h2 (he.post I R λx ak ay aw bb aI aF=>?_);have:=FG aI.objs (show gH σ (.dct es)=some es from rfl) aF;refine⟨"dict","dict.values",jdR,jga,PySem.F.type_dict_values,this.1,this.2,?_⟩;refine jaB rfl (jbR ?_);exact up (Su hA aI.tk aI.fresh aI.psys aT aF) λv aC cy=>jdg (up cy λv' dk ⟨am,k',r'⟩=>⟨am,aw.trans k'.x,r'⟩)
theorem xY (hE:bQ ab T)(hG:dD G)(hf:T.isGlobal ("range" : Str)=true) (hs:(e::bs).all f9=true) (ha:gS G A ab T ρ σ (jce (jcg pos (jao (e::bs) ab))) vs) (he:nt vs=some is) (I:bg G s.heap) (R:ER G φ ab T ρ σ β P m s) (hQ:∀v s' am,GX G s φ s' am->o9 s' is v->Q v s'):Y7 (Y9 af wd) A (Z7 (.Call (.Name ("range" : Str) p) (e::bs) [] pos) ab) Q E s:=by
 refine jaC (jQ hE hf (.inr (hG.types "range" (by simp))) I ?_);rw[jca,Zs]at hs;exact jbd (ha.post I R λxs ak ay aw bb aI aF=>up (Hs aI.tk he aF) λv aC qq=>bN qq λaP rr=>hQ v aC ay (aw.trans aP.x) rr) (iV hs.1) (qS hs.2)
theorem Mz (hA:A.handled=none)(hE:bQ ab T)(hG:dD G)(hl:T.isGlobal ("list" : Str)=true) (hf:T.isGlobal ("range" : Str)=true) (hs:(e::bs).all f9=true) (ha:∀pos,gS G A ab T ρ σ (jce (jcg pos (jao (e::bs) ab))) vs) (he:nt vs=some is):
 ES G A ab T ρ σ (Z7 (.Call (.Name ("list" : Str) p) [.Call (.Name ("range" : Str) rp) (e::bs) [] rpos] [] pos) ab) (.lst (is.map .int)):=λs φ β P m I R =>
 jaC (jQ hE hl (.inr (hG.types "list" (by simp))) I (jbd (jcy
  (xY hE hG hf hs (ha _) he I R λv ak ay aw rr=>jdg (qX aw (Gu hA aw.tk (R.freshX.go aw I.tabs).f rr))) rfl) rfl rfl))
set_option tactic.hygienic true in
theorem Mv (hx:x.scalar=true)(hk:ES G A ab T ρ σ (Z7 k ab) (.int i))(hv:ES G A ab T ρ σ (Z7 v ab) x):
 ES G A ab T ρ σ (Z7 (.Dict [some k] [v] pos) ab) (.dct [(i,x)]):=λs φ β P m I R=>by
 refine eF (wpAny_Dict_pairs (knd:=jal af wd) (pairs:=[(Z7 k ab,do let x <-Z7 v ab;jfi pos;pure x)]) rfl (by simp) (by simp) ?_);have v3:GX G s φ { s with heap:=s.heap.push { cls:=.type "dict",data:=.dict #[] } } φ:=.same R.tk bF.push (Y2 _);refine evalPairs_cons (hk.post (I.go v3) (R.go v3 I.tabs) λkx ak ay aw bb aI aF=>Y6 (hv.post bb aI λvx aC aU aP dJ bW bI=>Y6 (jaT (Zu (evalPairs_nil ?_)))));cases aF;rename_i t;have hD:=ZW (o:={ cls:=.type "dict",data:=.dict #[] }) s.heap rfl;have zy:¬G.X s.heap.objs.size:=(I.go v3).tabs.notX_data hD λvs q=>nomatch q;have O5:=(aw.trans aP).ext _ _ zy hD;refine lh [(i,vx)] ⟨jea _ _ _ _,rfl,trivial⟩ ?_ (λh' hm m7 up=>?_)
 ·refine DictOf.at (h:=s.heap.push { cls:=.type "dict",data:=.dict #[] }) ?_ λo ho=>(aw.trans aP).ext _ _ zy ho;exact jfa ..
 ·have kk:=(v3.trans aw).trans aP;refine⟨aU,kk.then_but I.tabs (Y2 _) (λb o hb e=>m7.extBut b o hb e) (dJ.tabs.noHas O5 λvs q=>nomatch q) zy (ZG m7.1.symm) (ZD _ _),?_⟩;have hr:VR G.tok aU h' β P x vx:=bI.scalar hx λY Y e=>e;exact .dct (ks:=[i]) (vs:=[x]) (xs:=[vx]) hm (R.fresh _ (Y2 _)) rfl (.cons hr .nil)
end
section
theorem OR.mono {G:GD}{h h':jag}(kn:∀t x,φ t x->am t x)(hk:∀a o,P a->h.get? a=some o->h'.get? a=some o/\P' a)(hb:β <+: aH)(ha:∀o,h.get? a=some o->h'.get? a=some o)(r:OR G.tok φ h β P o a):
 OR G.tok am h' aH P' o a:=by
 cases r with
 |list e r=>exact .list (e.at ha) (r.mono kn hk hb)
 |dict e hl r=>exact .dict (DictOf.at e ha) hl (r.mono kn hk hb)
structure mm (ab:Env) (T:Tb) (β:List Zb) (P:Zb->Prop):Prop where
 ploc:¬P ab.locals
 bloc:ab.locals∉β
 own:∀x,T.names.lookup x=some .cell->∃c,ab.cells.lookup x=some c/\¬P c/\c∉β
theorem rS {h:jag}(hn:h.Ns a m)(hc:h.IsCell c v):a≠c:=by
 rintro rfl;refine j' hn λo es ep ho hd Y=>?_;refine au hc λo' kj lW=>?_;rw[ho]at kj;cases kj;rw[hd]at lW;cases lW
set_option tactic.hygienic true in
theorem Xs {T:Tb}(hx:T.var x=some i):T.names.lookup x=some .local\/T.names.lookup x=some .cell\/T.names.lookup x=some .free:=by
 unfold Tb.var at hx;split at hx
 ·rename_i e;exact .inl e
 ·rename_i e;exact .inr (.inl e)
 ·rename_i e;exact .inr (.inr e)
 ·cases hx
set_option tactic.hygienic true in
theorem Vi {ρ:aB}(e:(ρ.set i (some v))[j]?=some (some u)):(i=j/\u=v)\/(i≠j/\ρ[j]?=some (some u)):=by
 rw[jbh]at e;split at e
 ·rename_i eZ;split at e
  ·cases e;exact .inl ⟨eZ,rfl⟩
  ·cases e
 ·rename_i eZ;exact .inr ⟨eZ,e⟩
theorem ER.stored {ab:Env}{T:Tb}{ρ:aB}{G:GD}{s:Y1}{h':jag}(hT:jx T)(hx:T.var x=some i)(R:ER G φ ab T ρ σ β P m s)(r:VR G.tok φ s.heap β P v xv)(hP:¬P ir)(s0:ir∉β)(hs:Z1 ir s.heap h')(ht:s.toks<=t)(TB:bz G s.heap)(hX:¬G.X ir)(iL:h'.Ns ab.locals m')(Ps:∀y c dm,ab.cells.lookup y=some c->s.heap.IsCell c dm->∃oX,h'.IsCell c oX)(P9:nI ab m' h' x xv)(Qm:∀y v',y≠x->nI ab m s.heap y v'->nI ab m' h' y v'):
 ER G φ ab T (ρ.set i (some v)) σ β P m' { s with heap:=h',toks:=t }:=by
 have hk:∀a o,P a->s.heap.get? a=some o->h'.get? a=some o/\P a:=λa o p e=>⟨hs.extBut a o (λq=>hP (q▸p)) e,p⟩
 refine⟨iL,by refine aa jbC ?_;exact R.len,λy j u hy hj=>?_,λy hy=>?_,λj o hj ho=>?_,λa ha=>R.freshX a (ha.imp (λha=>?_) ((TB.but (λb o hb e=>hs.extBut b o hb e) hX λq=>hP (R.freshX ir (.inr q))).2 a)),R.psafe,R.bsafe,λa ha=>show a<h'.objs.size from(show h'.objs.size=s.heap.objs.size from hs.1)▸R.blt a ha,R.tk.fn,R.tk.pos,λt' y e=>be (R.tk.lt t' y e) ht,be R.tk.one ht⟩
 ·rcases Vi hj with⟨eZ,rfl⟩|⟨eZ,hj⟩
  ·subst eZ;have:=hT.inj _ _ _ hx hy;subst this;exact aN xv (r.mono (λY Y e=>e) hk (Zg _)) P9
  ·refine au (R.names y j u hy hj) λv' a b=>?_;refine aN v' (a.mono (λY Y e=>e) hk (Zg _)) (Qm y v' (λq=>eZ ?_) b);subst q;rw[hx]at hy;exact Y0 hy
 ·refine bB (R.celled y hy) λc dm h1 h2=>?_;refine aW (Ps y c dm h1 h2) λoX h3=>?_;exact cZ c oX h1 h3
 ·refine au (R.objs j o hj ho) λa h1 h2=>?_;exact aN a h1 (h2.mono (λY Y e=>e) hk (Zg _) λo e=>hs.extBut a o (λq=>s0 (q▸ZB h1)) e)
 ·have:h'.objs.size=s.heap.objs.size:=hs.1;refine rwj this ?_;exact ha
theorem HQ (TB:bz G s.heap)(hE:bQ ab T)(hT:jx T)(hx:T.var x=some i)(hk:T.names.lookup x=some .local\/T.names.lookup x=some .cell)(R:ER G φ ab T ρ σ β P m s)(FO:mm ab T β P)(r:VR G.tok φ s.heap β P v xv)(hQ:∀h' t m' ir,(ir=ab.locals\/(ab.cells.lookup x=some ir/\T.names.lookup x=some .cell))->Z1 ir s.heap h'->s.toks<=t->ER G φ ab T (ρ.set i (some v)) σ β P m' { s with heap:=h',toks:=t }->(bz G h'/\∀c,bM G h' c->bM G s.heap c)->Q () { s with heap:=h',toks:=t }):
 Y7 (Y9 af wd) A (jdr ab x xv) Q E s:=by
 rcases hk with hk|hk
 ·have ou:=hE.loc x hk;refine jih ou R.ns (λh' ji ei=>?_) (by refine aa hE.kind ?_;rfl);have EE:¬G.X ab.locals:=(R.bsafe _ (.inr (.inl rfl))).2;refine hQ h' _ _ ab.locals (.inl rfl) ei (ZV _) (R.stored hT hx r FO.ploc FO.bloc ei (ZV _) TB EE ji (λy c dm h1 h2=>⟨dm,h2.sameBut ei (jev (rS R.ns h2))⟩) (.inl ⟨ou,by simp⟩) λy v' hy n=>?_) (TB.but (λb o hb e=>ei.extBut b o hb e) EE λq=>FO.ploc (R.freshX _ (.inr q)));rcases n with⟨a,b⟩|⟨c,a,b,d⟩
  ·exact .inl ⟨a,by simp[hy,b]⟩
  ·exact .inr ⟨c,a,b,d.sameBut ei (jev (rS R.ns d))⟩
 ·have ou:=hE.cel x hk;refine fk (FO.own x hk) λc h1 h2 h3=>?_;refine bB (R.celled x (by unfold Tb.celled;refine aa hk ?_;rfl)) λc' dm h4 h5=>?_;rw[h1]at h4;cases h4;refine jis hE.kind ou h1 h5 λh' gN ei=>?_;have ED:¬G.X c:=(R.bsafe _ (.inr (.inr ⟨x,h1⟩))).2;refine hQ h' s.toks m c (.inr ⟨h1,hk⟩) ei (Y2 _) (R.stored hT hx r h2 h3 ei (Y2 _) TB ED (R.ns.sameBut ei (rS R.ns h5)) (λy g7 oX e1 e2=>?_) (.inr ⟨c,h1,.inl ou,gN⟩) λy v' hy n=>?_) (TB.but (λb o hb e=>ei.extBut b o hb e) ED λq=>h2 (R.freshX _ (.inr q)))
  ·by_cases q:g7=c
   ·subst q;exact⟨_,gN⟩
   ·exact⟨oX,e2.sameBut ei q⟩
  ·rcases n with⟨a,b⟩|⟨g7,a,b,d⟩
   ·exact .inl ⟨a,b⟩
   ·exact .inr ⟨g7,a,b,d.sameBut ei λq=>hy (hE.inj y x g7 a (q▸h1))⟩
theorem ER.forget (R:ER G φ ab T av σ β P m s)(hl:ρ.length=av.length)(h:∀(i:Nat) (v:AV),ρ[i]?=some (some v)->av[i]?=some (some v)):ER G φ ab T ρ σ β P m s :=
 { R with len:=hl.trans R.len,names:=λx i v h1 h2=>R.names x i v h1 (h i v h2) }
theorem ER.but {ab:Env}{G:GD}{s:Y1}{h':jag}{X:Zb->Prop}{t:Tok}(TB:bz G s.heap)(Pd:∀b,G.X b->¬X b)(R:ER G φ ab T ρ σ β P m s)(hk:∀b o,¬X b->s.heap.get? b=some o->h'.get? b=some o)(hz:s.heap.objs.size<=h'.objs.size)(ht:s.toks<=t)(hP:∀a,P a->¬X a)(s0:∀a,a∈β->¬X a)(hl:¬X ab.locals)(hc:∀x c v,ab.cells.lookup x=some c->s.heap.IsCell c v->¬X c):ER G φ ab T ρ σ β P m { s with heap:=h',toks:=t }:=by
 have f8:∀a o,P a->s.heap.get? a=some o->h'.get? a=some o/\P a:=λa o p e=>⟨hk a o (hP a p) e,p⟩
 have hn:h'.Ns ab.locals m:=R.ns.at' λo e=>hk _ o hl e;refine⟨hn,R.len,λy j u hy hj=>?_,λy hy=>?_,λj o hj ho=>?_,λa ha=>R.freshX a (ha.imp (YY hz) ((TB.butS hk Pd λc q=>hP c (R.freshX c (.inr q))).2 a)),R.psafe,R.bsafe,λa ha=>be (R.blt a ha) hz,R.tk.fn,R.tk.pos,λt' y e=>be (R.tk.lt t' y e) ht,be R.tk.one ht⟩
 ·refine au (R.names y j u hy hj) λv' a b=>?_;refine aN v' (a.mono (λY Y e=>e) f8 (Zg _)) ?_;rcases b with b|⟨c,a,b,o,ho,hd⟩
  ·exact .inl b
  ·exact .inr ⟨c,a,b,o,hk c o (hc _ c _ a ⟨o,ho,hd⟩) ho,hd⟩
 ·obtain⟨c,dm,h1,o,ho,hd⟩:=R.celled y hy;exact⟨c,dm,h1,o,hk c o (hc _ c _ h1 ⟨o,ho,hd⟩) ho,hd⟩
 ·refine au (R.objs j o hj ho) λa h1 h2=>?_;exact aN a h1 (h2.mono (λY Y e=>e) f8 (Zg _) λo e=>hk a o (s0 a (ZB h1)) e)
end
section
def jY (A:ZS)(tk:Zb)(φ:Gh)(β:List Zb)(P:Zb->Prop)(F:Zb->Prop)(s:Y1)(vs:List AV)(it:Value)(s':Y1):Prop :=
 ∃(o:Obj) (fp:List Zb) (Pv:Nat->Value->Prop) (St:Nat->jag->Prop),it=.ref s.heap.objs.size/\s'={ s with heap:=s.heap.push o } /\
  Walks af wd A s.heap.objs.size fp [s.heap.objs.size] vs.length Pv St/\St 0 s'.heap/\(∀b∈fp,b=s.heap.objs.size\/(F b/\b<s.heap.objs.size)) /\
  ∀i x,Pv i x->∃v,vs[i]?=some v/\VR tk φ s.heap β P v x
@[elab_as_elim] theorem src_elim {s:Y1}{s':Y1}{F:Zb->Prop}{vs:List AV}{it:Value}{Q:Value->Y1->Prop} (h:jY A tk φ β P F s vs it s') (k:∀(o:Obj) (fp:List Zb) (Pv:Nat->Value->Prop) (St:Nat->jag->Prop),Walks af wd A s.heap.objs.size fp [s.heap.objs.size] vs.length Pv St->St 0 (s.heap.push o)->(∀b∈fp,b=s.heap.objs.size\/(F b/\b<s.heap.objs.size))->(∀i x,Pv i x->∃v,vs[i]?=some v/\VR tk φ s.heap β P v x)->Q (.ref s.heap.objs.size) { s with heap:=s.heap.push o }):Q it s':=by
 refine yq h ?_;rintro o fp Pv St rfl rfl h1 h2 h3 h4;exact k o fp Pv St h1 h2 h3 h4
theorem HM (hA:A.handled=none)(hl:s.heap.IsList l xs.toArray)(hF:F l)(r:ar tk φ s.heap β P vs xs):
 Y7 (Y9 af wd) A (jdH (.ref l)) (jY A tk φ β P F s vs) ax s:=by
 have aZ:l<s.heap.objs.size:=by refine au hl λY e Y=>?_;exact Zr e
 refine wpAny_pyIter_list hl ⟨_,[s.heap.objs.size,l],λi v=>xs.toArray[i]?=some v,λi h=>h.IsListIter s.heap.objs.size l i/\h.IsList l xs.toArray,rfl,rfl,?_,⟨⟨_,ZW _ rfl,rfl,rfl⟩,hl.push _⟩,λb hb=>?_,λi x hx=>?_⟩
 ·have:=Walks.list (prog:=af) (w:=wd) hA s.heap.objs.size l (jaz aZ) xs.toArray;have bd:xs.toArray.size=vs.length:=by rw[Zh,<-r.length]
  rw[bd]at this;exact this
 ·simp only[ZM,jeg,or_false]at hb;rcases hb with rfl|rfl
  ·exact .inl rfl
  ·exact .inr ⟨hF,aZ⟩
 ·refine au (r.getr (i:=i) (by simpa using hx)) λv h1 h2=>?_;exact aN v h1 h2
theorem VJ (hA:A.handled=none)(hl:jge s.heap l xs.toArray)(hF:F l)(r:ar tk φ s.heap β P vs xs):
 Y7 (Y9 af wd) A (jdH (.ref l)) (jY A tk φ β P F s vs) ax s:=by
 have aZ:l<s.heap.objs.size:=by refine au hl λY e Y=>?_;exact Zr e
 refine jiT hl ⟨_,[s.heap.objs.size,l],λi v=>xs.toArray[i]?=some v,λi h=>h.IsTupleIter s.heap.objs.size l i/\h.IsTuple l xs.toArray,rfl,rfl,?_,⟨⟨_,ZW _ rfl,rfl,rfl⟩,Heap.IsTuple.push hl _⟩,λb hb=>?_,λi x hx=>?_⟩
 ·have:=Walks.tuple (prog:=af) (w:=wd) hA s.heap.objs.size l (jaz aZ) xs.toArray;have bd:xs.toArray.size=vs.length:=by rw[Zh,<-r.length]
  rw[bd]at this;exact this
 ·simp only[ZM,jeg,or_false]at hb;rcases hb with rfl|rfl
  ·exact .inl rfl
  ·exact .inr ⟨hF,aZ⟩
 ·refine au (r.getr (i:=i) (by simpa using hx)) λv h1 h2=>?_;exact aN v h1 h2
theorem VH {A:ZS}{cs:List Nat}(hA:A.handled=none):
 Y7 (Y9 af wd) A (jdH (.str ⟨cs.toArray⟩ t)) (jY A tk φ β P F s (cs.map λc=>.str [c])) ax s:=by
 refine wpAny_pyIter_str λo St W h0=>⟨o,[s.heap.objs.size],SignAt ⟨cs.toArray⟩,St,rfl,rfl,?_,h0,λb hb=>.inl (Zn.mp hb),λi x hx=>?_⟩
 ·have:=W A hA;simp only[Zh]at this;refine aa (YX _) ?_;exact this
 ·refine bB hx ?_;rintro c t' h1 rfl;refine aN (.str [c]) ?_ (.str [c] t');refine aa ZK ?_;have:cs[i]?=some c:=by simpa using h1
  refine aa this ?_;rfl
theorem VF {A:ZS}{s:Y1}{ks:List Int}{vs:List AV}(hA:A.handled=none)(hd:s.heap.DictOf (jal af wd) d (ks.zip xs))(hY:(d==Z')=false)(hF:F d)(hl:ks.length=vs.length)(r:ar tk φ s.heap β P vs xs):
 Y7 (Y9 af wd) A (jdH (.ref d)) (jY A tk φ β P F s ((ks.zip vs).map λe=>.int e.1)) ax s:=by
 refine aW hd.dictAt λep fu=>?_;have aZ:=fu.lt_size;refine wpAny_pyIter_dict hY fu ⟨_,[s.heap.objs.size,d],λi v=>∃k x,(ks.zip xs)[i]?=some (k,x)/\(jal af wd).is k v=true,λi h=>h.IsKeyIter s.heap.objs.size d i (ks.zip xs).length ep/\h.DictAt (jal af wd) d (ks.zip xs) ep,rfl,rfl,?_,⟨⟨_,ZW _ rfl,rfl,rfl⟩,fu.push _⟩,λb hb=>?_,λi x hx=>?_⟩
 ·have:=Walks.dictKeys hA s.heap.objs.size d (jaz aZ) (ks.zip xs) ep (knd:=jal af wd);have aO:(ks.zip xs).length=((ks.zip vs).map λe=>AV.int e.1).length:=by refine aa (YX _) ?_;refine aa jbi ?_;refine aa jbi ?_;refine aa r.length ?_;rfl
  refine rwj aO ?_;exact this
 ·simp only[ZM,jeg,or_false]at hb;rcases hb with rfl|rfl
  ·exact .inl rfl
  ·exact .inr ⟨hF,aZ⟩
 ·refine bB hx λk y h1 h2=>?_;refine aW (Value.isInt_shape h2) ?_;rintro t rfl;rw[jdQ]at h1;refine au (r.getr h1.2) λv hv Y=>?_;refine aN (.int k) ?_ (.int k t);refine aa ZK ?_;have:(ks.zip vs)[i]?=some (k,v):=by rw[jdQ];exact⟨h1.1,hv⟩
  refine aa this ?_;rfl
theorem HN (hA:A.handled=none)(R:o9 s is v):Y7 (Y9 af wd) A (jdH v) (jY A tk φ β P F s (is.map .int)) ax s:=by
 refine DE R ?_;rintro r a b c t u x n rfl hr hs hn aT rfl;refine wpAny_pyIter_range hr hs ⟨_,[s.heap.objs.size],λi v=>i<n/\∃t,v=.int (a+i*c) t,λi h=>IsRangeIter h s.heap.objs.size (a+(i:Nat)*c) ((n:Int)-(i:Nat)) c,rfl,rfl,?_,?_,λb hb=>.inl (Zn.mp hb),λi x hx=>?_⟩
 ·have W:=Walks.range (prog:=af) (w:=wd) hA s.heap.objs.size a c n;refine aa (YX _) ?_;rw[AT];exact⟨W.sub,W.frame,λi s Q E hi st hQ=>W.item i s Q E hi st λv h' t hv=>hQ v h' t ⟨hi,hv⟩,W.done,W.self⟩
 ·show IsRangeIter _ _ _ _ _;refine aa hn ?_;simpa using ZW _ rfl
 ·obtain⟨hi,tt,rfl⟩:=hx;refine aN (.int (a+i*c)) ?_ (.int _ _);refine aa ZK ?_;refine aa (AS c n a i hi) ?_;rfl
theorem RN {C:AV->List AV->Prop}{v:AV}{vs:List AV}(e:oH σ v=some vs)(h1:∀l,C (.tup l) l)(h2:∀cs:List Nat,C (.str cs) (cs.map λc=>.str [c]))(h3:∀es:List (Int×AV),C (.dct es) (es.map λe=>.int e.1))(h4:∀l,C (.lst l) l)(h5:∀i vs,aQ σ (.ref i)=some vs->C (.ref i) vs):C v vs:=by
 induction v using AV.casesOn with
 |tup l=>exact aG e (h1 l)
 |str cs=>exact aG e (h2 cs)
 |dct es=>exact aG e (h3 es)
 |lst l=>exact aG e (h4 l)
 |ref i=>exact h5 i vs e
 |_=>exact ai e
theorem HO {A:ZS}{s:Y1}{v:AV}{vs:List AV}{x:Value}(hA:A.handled=none)(O:cr tk φ s.heap β P σ)(hp:∀a,P a->(a==Z')=false)(e:oH σ v=some vs)(r:VR tk φ s.heap β P v x):
 Y7 (Y9 af wd) A (jdH x) (jY A tk φ β P (λb=>P b\/(v.isRef=true/\b∈β)) s vs) ax s:=by
 refine RN (C:=λv vs=>VR tk φ s.heap β P v x->Y7 (Y9 af wd) A (jdH x) (jY A tk φ β P (λb=>P b\/(v.isRef=true/\b∈β)) s vs) ax s) e (λl r=>?_) (λcs r=>?_) (λes r=>?_) (λl r=>?_) (λi vs e r=>?_) r
 ·exact r.e_tup λa xs e' p r=>VJ hA e' (.inl p) r
 ·exact r.e_str λt=>VH hA
 ·exact r.e_dct λa ks vs xs e0 hl e' p r=>e0▸VF hA e' (hp _ p) (.inl p) hl r
 ·exact r.e_lst λa xs e' p r=>HM hA e'.isList (.inl p) r
 ·refine bS (fx O e r) ?_;rintro l xs rfl h1 r1;exact r.inv.elim λa q=>HM hA h1 (.inr ⟨rfl,ZB (jdA q.1▸q.2)⟩) r1
end
section
def kP (sc:jax)(cl:List (Str×Zb))(n:Nat):List (Str×Zb):=jbA (n+1) sc.names cl
def Ht (sc:jax)(cl:List (Str×Zb))(C:Zb)(ab:Env):Env :=
 { scope:=sc,locals:=C,globals:=ab.globals,cells:=kP sc cl C,qual:=ab.qual,func:=none,code:=ab.code,frame:=ab.frame,builtins:=ab.builtins }
def nN (sc:jax)(cl:List (Str×Zb))(C:Zb)(ab:Env):Env:={ Ht sc cl C ab with scope:=relabel sc ab }
theorem Tt (h:Q (Ht sc cl s.heap.objs.size ab) { s with heap:=jfk (s.heap.push { cls:=.type "dict",data:=.dict #[] }) sc.names }):
 Y7 M A (newFunctionEnv sc ab.globals cl [] ab.qual none .none (some ab)) Q E s:=by
 simp only[newFunctionEnv,Option.isSome_some,if_true];refine Y6 (jiw ?_);refine Y6 (wpAny_layCells _ (λname kind cells=>by cases hkc:kind==jbP<;>simp[hkc]) _ _ _ _ ?_);refine aa (show({ s with heap:=s.heap.push { cls:=.type "dict",data:=.dict #[] } }:Y1).heap.objs.size=s.heap.objs.size+1 from ZL ..) ?_;simp only[jcM];exact Y6 (Zu (Zu h))
def dr (ab:Env):List (Str×jaY)->List (Str×Zb)->List (Str×Zb)
 | [],acc=>acc
 |(n,k)::r,acc=>if k==.free then dr ab r ((n,(ab.cells.lookup n).getD 0)::acc)else dr ab r acc
theorem uH:dr ab ((n,k)::r) x =
 if(k==jac)=true then dr ab r ((n,Option.getD (jdU n ab.cells) 0)::x)
 else dr ab r x:=rfl
theorem xI (hf:∀n k acc,f (n,k) acc=if k==.free then(do let c <-jgr ab n;pure (.yield ((n,c)::acc)))else pure (.yield acc)):
 ∀(names:List (Str×jaY)) (acc:List (Str×Zb)),(∀n,(n,jac)∈names->∃c,ab.cells.lookup n=some c)->forIn names acc f=pure (dr ab names acc)
 | [],acc,_=>by refine aa jcM ?_;rfl
 |(n,k)::r,acc,h=>by
  rw[jdq,hf];have hr:∀n,(n,jac)∈r->∃c,ab.cells.lookup n=some c:=λn hn=>h n (Zt _ hn)
  induction hk:k==jac using ZC with
  |true =>
   have:k=.free:=eq_of_beq hk;subst this;refine aW (h n Zc) λc hc=>?_;have e:jgr ab n=pure c:=by unfold jgr;refine aa hc ?_;rfl
   rw[if_pos rfl,e,pure_bind,pure_bind];show forIn r ((n,c)::acc) f=_;refine aa (xI hf r _ hr) ?_
   conv=>rhs;rw[uH]
   refine aa (if_pos hk) ?_;refine aa hc ?_;rfl
  |false =>
   refine aa (if_neg ZY) ?_;refine aa (pure_bind _ _) ?_;show forIn r acc f=_;refine aa (xI hf r _ hr) ?_
   conv=>rhs;rw[uH]
   rw[if_neg (by refine aa hk ?_;exact ZY)]
theorem Cr (h:∀n,(n,jac)∈sc.names->∃c,ab.cells.lookup n=some c):jcQ sc ab=pure (dr ab sc.names []):=by
 simp only[jcQ];rw[xI (ab:=ab) (λn k acc=>by cases hk:k==jac<;>simp[hk]) sc.names [] h];rfl
set_option tactic.hygienic true in
theorem pH:∀{names:List (Str×jaY)}{acc:List (Str×Zb)}{x:Str}{c:Zb},(dr ab names acc).lookup x=some c ->
 acc.lookup x=some c\/((x,jac)∈names/\(ab.cells.lookup x).getD 0=c)
 | [],acc,x,c,e=>.inl e
 |(n,k)::r,acc,x,c,e=>by
  rw[uH]at e;split at e
  ·rename_i hk;rcases pH e with e|e
   ·rw[ZU]at e;split at e
    ·rename_i hx;have:=eq_of_beq hx;have:=eq_of_beq hk
     subst_vars
     cases e;exact .inr ⟨Zc,rfl⟩
    ·exact .inl e
   ·exact .inr ⟨Zt _ e.1,e.2⟩
  ·rcases pH e with e|e
   ·exact .inl e
   ·exact .inr ⟨Zt _ e.1,e.2⟩
set_option tactic.hygienic true in
theorem xG:∀{names:List (Str×jaY)}{acc:List (Str×Zb)}{x:Str},(x,jac)∈names\/(acc.lookup x).isSome=true->((dr ab names acc).lookup x).isSome=true
 | [],acc,x,h=>by
  rcases h with h|h
  ·cases h
  ·exact h
 |(n,k)::r,acc,x,h=>by
  rw[uH];split
  ·rename_i hk;refine xG ?_;by_cases hx:x=n
   ·subst hx;right;simp
   ·rcases h with h|h
    ·rcases ZM.mp h with h|h
     ·cases h;exact absurd rfl hx
     ·exact .inl h
    ·right;refine aa ZU ?_;have:(x==n)=false:=by simpa using hx
     refine aa this ?_;exact h
  ·rename_i hk;refine xG ?_;rcases h with h|h
   ·rcases ZM.mp h with h|h
    ·cases h;exact absurd rfl hk
    ·exact .inl h
   ·exact .inr h
theorem pG:∀(names:List (Str×jaY)) (n:Nat) (acc:List (Str×Zb)),jbA n names acc=jbA n names []++acc
 | [],_,_=>rfl
 |(x,k)::r,n,acc=>by
  unfold jbA;split
  ·rw[pG r (n+1) ((x,n)::acc),pG r (n+1) [(x,n)]];simp
  ·exact pG r n acc
theorem Ap {l l':List (Str×Zb)}:(l++l').lookup x=(l.lookup x).or (l'.lookup x):=by
 induction l with
 |nil=>rfl
 |cons a l ih =>
  obtain⟨y,c⟩:=a;refine aa jdb ?_;refine aa ZU ?_;refine aa ZU ?_;split
  ·rfl
  ·exact ih
set_option tactic.hygienic true in
theorem rT:∀{names:List (Str×jaY)}{n:Nat}{acc:List (Str×Zb)}{x:Str}{c:Zb},(x,c)∈jbA n names acc->(x,c)∈acc\/(x,jbP)∈names
 | [],_,_,_,_,h=>.inl h
 |(y,k)::r,n,acc,x,c,h=>by
  unfold jbA at h;split at h
  ·rename_i hk;rcases rT h with h|h
   ·rcases ZM.mp h with h|h
    ·cases h;have:=eq_of_beq hk;subst this;exact .inr Zc
    ·exact .inl h
   ·exact .inr (Zt _ h)
  ·rcases rT h with h|h
   ·exact .inl h
   ·exact .inr (Zt _ h)
theorem lq {names:List (Str×jaY)}(hn:(names.map (·.1)).Nodup)(h:(x,k)∈names):names.lookup x=some k:=by
 induction names with
 |nil=>cases h
 |cons a r ih =>
  obtain⟨y,k'⟩:=a;rw[Zy,jaG]at hn;refine aa ZU ?_;rcases ZM.mp h with h|h
  ·cases h;simp
  ·have:x≠y:=λq=>hn.1 (q▸Zk.mpr ⟨_,h,rfl⟩);have:(x==y)=false:=by simpa using this
   refine aa this ?_;exact ih hn.2 h
end
section
theorem Gy {ab:Env}:∀{names:List (Str×jaY)},names.lookup x=some k ->
 (names.map λ(n,k)=>if(k==jac&&ab.scope.kind==.function&&ab.kindOf n==some .cell)then(n,jbP)else(n,k)).lookup x =
  some (if(k==jac&&ab.scope.kind==.function&&ab.kindOf x==some .cell)then jbP else k)
 | [],h=>by simp at h
 |(n,k')::r,h=>by
  rw[ZU]at h;refine aa Zy ?_
  induction hx:x==n using ZC with
  |true =>
   rw[hx]at h;cases h;have:=eq_of_beq hx;subst this;dsimp only;split<;>simp[ZU, *]
  |false =>
   rw[hx]at h;have ih:=Gy (ab:=ab) h;dsimp only;split
   ·refine aa ZU ?_;refine aa hx ?_;exact ih
   ·refine aa ZU ?_;refine aa hx ?_;exact ih
theorem tj {ab:Env}{sc:jax}(h:sc.names.lookup x=some k):
 (nN sc cl C ab).kindOf x=some (if(k==jac&&ab.scope.kind==.function&&ab.kindOf x==some .cell)then jbP else k):=Gy h
set_option tactic.hygienic true in
theorem wb:∀{l:List (Str×Nat)},l.lookup x=some i->(x,i)∈l
 |(y,j)::l,h=>by
  rw[ZU]at h;split at h
  ·rename_i e;have:=eq_of_beq e;subst this;cases h;exact Zc
  ·exact Zt _ (wb h)
theorem qW {T:Tb}(h:T.var x=some i):(x,i)∈T.vars:=by
 unfold Tb.var at h;split at h
 ·split at h
  ·exact wb h
  ·cases h
 ·split at h
  ·exact wb h
  ·cases h
 ·split at h
  ·exact wb h
  ·cases h
 ·cases h
theorem tT (h:oR T=true):jx T:=by
 unfold oR at h;rw[Y3]at h;refine⟨λx y i hx hy=>?_,λx i hx=>?_⟩
 ·have h1:=h _ (qW hx);rw[Zs,Y3]at h1;have h2:=h1.2 _ (qW hy);simpa using h2
 ·have h1:=h _ (qW hx);rw[Zs]at h1;simpa using h1.1
def fN (P:Zb->Prop)(n n':Nat):Zb->Prop:=λa=>P a/\¬(n<=a/\a<n')
theorem ER.grow_out (TB:bz G s.heap)(R:ER G φ ab T ρ σ β P m s)(hk:ce s.heap h')(hz:s.heap.objs.size<=h'.objs.size)(ht:s.toks<=t):
 ER G φ ab T ρ σ β (fN P s.heap.objs.size h'.objs.size) m { s with heap:=h',toks:=t }:=by
 have f8:∀a o,P a->s.heap.get? a=some o->h'.get? a=some o/\fN P s.heap.objs.size h'.objs.size a:=λa o p e=>⟨hk a o e,p,λq=>ZT.mpr q.1 (Zr e)⟩
 refine⟨R.ns.keeps hk,R.len,λy j u hy hj=>?_,λy hy=>?_,λj o hj ho=>?_,λa ha=>ha.elim (λha=>⟨R.fresh a (YY hz ha),λq=>ZT.mpr (show h'.objs.size<=a from ha) q.2⟩) (λha=>⟨R.freshX a (.inr (iW hk TB a ha)),λq=>ZT.mpr q.1 (bM.lt TB (iW hk TB a ha))⟩),λa p=>R.psafe a p.1,R.bsafe,λa ha=>be (R.blt a ha) hz,R.tk.fn,R.tk.pos,λt' y e=>be (R.tk.lt t' y e) ht,be R.tk.one ht⟩
 ·refine au (R.names y j u hy hj) λv' a b=>?_;exact aN v' (a.mono (λY Y e=>e) f8 (Zg _)) (b.keeps hk)
 ·refine bB (R.celled y hy) λc dm h1 h2=>?_;exact cZ c dm h1 (h2.keeps hk)
 ·refine au (R.objs j o hj ho) λa h1 h2=>?_;exact aN a h1 (h2.mono (λY Y e=>e) f8 (Zg _) λo e=>hk a o e)
structure kF (T:Tb) (sc:jax):Prop where
 kind:sc.kind=.function
 nodup:(sc.names.map (·.1)).Nodup
 free:∀x,(x,jac)∈sc.names->T.celled x=true
 tb:jx (T.comp sc)
theorem AQ:∀(names:List (Str×jaY)) (h:jag),h.objs.size<=(jfk h names).objs.size
 | [],h=>Y2 _
 |(_,k)::r,h=>by
  unfold jfk;split
  ·have:=AQ r (h.push { cls:=.type "cell",data:=.cell none });rw[ZL]at this;exact ZI this
  ·exact AQ r h
theorem KL (hE:bQ ab T)(h:T.celled x=true):ab.kindOf x=some .cell\/ab.kindOf x=some .free:=by
 unfold Tb.celled at h;rw[jbl]at h;rcases h with h|h
 ·exact .inl (hE.cel x (by simpa using h))
 ·exact hE.fre x (by simpa using h)
theorem wf (C:kF T sc)(R:ER G φ ab T ρ σ β P m s):
 (∀x c,(kP sc (dr ab sc.names []) s.heap.objs.size).lookup x=some c ->
  ((x,jbP)∈sc.names/\s.heap.objs.size<c/\(jfk (s.heap.push { cls:=.type "dict",data:=.dict #[] }) sc.names).IsCell c none) \/
  ((x,jac)∈sc.names/\ab.cells.lookup x=some c/\c<s.heap.objs.size)) /\
 (∀x,(x,jbP)∈sc.names->∃c,(kP sc (dr ab sc.names []) s.heap.objs.size).lookup x=some c/\s.heap.objs.size<c/\(jfk (s.heap.push { cls:=.type "dict",data:=.dict #[] }) sc.names).IsCell c none) /\
 (∀x,(x,jac)∈sc.names->∃c,(kP sc (dr ab sc.names []) s.heap.objs.size).lookup x=some c/\ab.cells.lookup x=some c) /\
 (∀x y c,(x,c)∈jbA (s.heap.objs.size+1) sc.names []->(y,c)∈jbA (s.heap.objs.size+1) sc.names []->x=y):=by
 have ok:=cellsFrom_ok sc.names (s.heap.push { cls:=.type "dict",data:=.dict #[] }) (s.heap.objs.size+1) [] ⟨λY Y hm=>(nomatch hm),List.Pairwise.nil⟩ (by rw[ZL];exact Y2 _);rw[ZL]at ok;have split:∀x c,(kP sc (dr ab sc.names []) s.heap.objs.size).lookup x=some c->(x,c)∈jbA (s.heap.objs.size+1) sc.names []\/((jbA (s.heap.objs.size+1) sc.names []).lookup x=none/\(dr ab sc.names []).lookup x=some c):=by
  intro x c e;unfold kP at e;rw[pG,Ap]at e
  induction q:(jbA (s.heap.objs.size+1) sc.names []).lookup x using ae with
  |some c'=>rw[q]at e;cases e;exact .inl (mem_of_lookup q)
  |none=>rw[q]at e;exact .inr ⟨rfl,e⟩
 have Ed:∀x,(x,jac)∈sc.names->∃c,ab.cells.lookup x=some c/\c<s.heap.objs.size:=λx hx=>by
  refine bB (R.celled x (C.free x hx)) λc v h1 h2=>?_;exact aN c h1 h2.lt
 refine lg (λx c e=>?_) (λx hx=>?_) (λx hx=>?_) (λx y c h1 h2=>name_of_addr ok.apart h1 h2)
 ·rcases split x c e with h|⟨_,h⟩
  ·have:=ok.empty x c h;rcases rT h with q|q
   ·cases q
   ·exact .inl ⟨q,this.2,this.1⟩
  ·rcases pH h with q|⟨q,q'⟩
   ·cases q
   ·refine au (Ed x q) λc' h1 h2=>?_;rw[h1]at q';cases q';exact .inr ⟨q,h1,h2⟩
 ·have h1:=lq C.nodup hx;have h2:=jfY sc.names (s.heap.objs.size+1) (dr ab sc.names []) (.inl h1);refine aW (jcs.mp h2) λc hc=>?_;refine aN c hc ?_;rcases split x c hc with h|⟨_,h⟩
  ·have:=ok.empty x c h;exact⟨this.2,this.1⟩
  ·rcases pH h with q|⟨q,q'⟩
   ·cases q
   ·have:=lq C.nodup q;rw[h1]at this;cases this
 ·have h1:=lq C.nodup hx;refine au (Ed x hx) λc hc aZ=>?_;have h2:=xG (ab:=ab) (names:=sc.names) (acc:=[]) (x:=x) (.inl hx);refine aW (jcs.mp h2) λc' gN=>?_;have Pq:c'=c:=by
   rcases pH gN with q|⟨q,q'⟩
   ·cases q
   ·rw[hc]at q';exact q'.symm
  subst Pq;refine aN c' ?_ hc;unfold kP;rw[pG,Ap]
  induction q:(jbA (s.heap.objs.size+1) sc.names []).lookup x using ae with
  |none=>exact gN
  |some CB =>
   rcases rT (mem_of_lookup q)with q|q
   ·cases q
   ·have:=lq C.nodup q;rw[h1]at this;cases this
end
section
abbrev ft (h:jag)(sc:jax):jag:=jfk (h.push { cls:=.type "dict",data:=.dict #[] }) sc.names
theorem Eb (h:jag)(sc:jax):ce h (ft h sc):=λb o e=>pushCells_keeps _ _ b o (Za _ e)
theorem Ec (h:jag)(sc:jax):h.objs.size<(ft h sc).objs.size:=by
 have:=AQ sc.names (h.push { cls:=.type "dict",data:=.dict #[] });rw[ZL]at this;exact this
theorem Mc (hE:bQ ab T)(C:kF T sc)(R:ER G φ ab T ρ σ β P m s):bQ (nN sc (dr ab sc.names []) s.heap.objs.size ab) (T.comp sc):=by
 refine pY (wf (s:=s) C R) λc1 c2 c3 c4=>?_;refine⟨C.kind,λx hx=>?_,λx hx=>?_,λx hx=>?_,λx y c hx hy=>?_,λx hx=>?_,hE.g,hE.b⟩
 ·exact tj hx
 ·exact tj hx
 ·have:=tj (ab:=ab) (cl:=dr ab sc.names []) (C:=s.heap.objs.size) (sc:=sc) hx;refine aa this ?_;split
  ·exact .inl rfl
  ·exact .inr rfl
 ·rcases c1 x c hx with⟨a1,a2,a3⟩|⟨a1,a2,a3⟩<;>rcases c1 y c hy with⟨b1,b2,b3⟩|⟨b1,b2,b3⟩
  ·have key:∀z,(z,jbP)∈sc.names->(kP sc (dr ab sc.names []) s.heap.objs.size).lookup z=some c->(z,c)∈jbA (s.heap.objs.size+1) sc.names []:=by
    intro z hz e;unfold kP at e;rw[pG,Ap]at e
    induction q:(jbA (s.heap.objs.size+1) sc.names []).lookup z using ae with
    |some c'=>rw[q]at e;cases e;exact mem_of_lookup q
    |none =>
     rw[q]at e;rcases pH (show(dr ab sc.names []).lookup z=some c from e)with q|⟨q,_⟩
     ·cases q
     ·have h1:=lq C.nodup hz;have h2:=lq C.nodup q;rw[h1]at h2;cases h2
   exact c4 x y c (key x a1 hx) (key y b1 hy)
  ·exact absurd a2 (jet b3)
  ·exact absurd b2 (jet a3)
  ·exact hE.inj x y c a2 b2
 ·exact tj hx
set_option tactic.hygienic true in
theorem NV (h:x∈qf sc):(x,jac)∈sc.names:=by
 unfold qf at h;refine au (jdD.mp h) λz1 h1 h2=>?_;obtain⟨n,k⟩:=z1;simp only at h2;split at h2
 ·rename_i hk;cases h2;have:=eq_of_beq hk;subst this;exact h1
 ·cases h2
theorem Lc (C:kF T sc)(h:(T.comp sc).var x=some i):
 (T.next<=i)\/((x,jac)∈sc.names/\T.var x=some i):=by
 have hm:=qW h;simp only[Tb.comp,Zz,Zk,jdD]at hm;rcases hm with⟨⟨n,j⟩,_,e⟩|⟨n,hn,e⟩
 ·cases e;exact .inl (ZD _ _)
 ·refine au (Zp.mp e) λi' hi e=>?_;cases e;exact .inr ⟨NV hn,hi⟩
theorem Mm (hE:bQ ab T)(C:kF T sc)(mw:ER G φ ab T ρ σ β P m s)(R:ER G φ ab T ρ σ β P' m { s with heap:=ft s.heap sc }):
 ER G φ (nN sc (dr ab sc.names []) s.heap.objs.size ab) (T.comp sc) (ρ++Ze (ey sc).length none) σ β P' (λY=>none) { s with heap:=ft s.heap sc }:=by
 refine pY (wf (s:=s) C mw) λc1 c2 c3 c4=>?_;refine⟨(Heap.Ns.new s.heap (.type "dict")).keeps (pushCells_keeps _ _),?_,λx i v hx hv=>?_,λx hx=>?_,R.objs,R.freshX,R.psafe,λa ha=>?_,R.blt,R.tk⟩
 ·refine aa Y8 ?_;refine aa jat ?_;refine aa R.len ?_;rfl
 ·rcases Lc C hx with h|⟨h1,h2⟩
  ·rw[Zd (by refine aa R.len ?_;exact h)]at hv;rw[jcH]at hv;split at hv
   ·cases hv
   ·cases hv
  ·have aZ:i<ρ.length:=by
    rcases jbT i ρ.length with q|q
    ·exact q
    ·rw[Zd q,jcH]at hv;split at hv<;>cases hv
   rw[Zq aZ]at hv;refine au (R.names x i v h2 hv) λv' a b=>?_;refine aN v' a (.inr ?_);have hk:=KL hE (C.free x h1);refine au (c3 x h1) λc e1 e2=>?_;have ou:=tj (ab:=ab) (cl:=dr ab sc.names []) (C:=s.heap.objs.size) (lq C.nodup h1);refine lh c e1 ?_ ?_
   ·refine aa ou ?_;split
    ·exact .inl rfl
    ·exact .inr rfl
   ·rcases b with⟨b,_⟩|⟨c',b1,b2,b3⟩
    ·rcases hk with hk|hk<;>rw[hk]at b<;>cases b
    ·rw[e2]at b1;cases b1;exact b3
 ·have fb:sc.names.lookup x=some .cell\/sc.names.lookup x=some .free:=by
   unfold Tb.celled at hx;rw[jbl]at hx;exact hx.imp (λq=>eq_of_beq q) λq=>eq_of_beq q
  rcases fb with q|q
  ·refine fk (c2 x (mem_of_lookup q)) λc e1 e2 e3=>?_;exact cZ c none e1 e3
  ·refine au (c3 x (mem_of_lookup q)) λc e1 e2=>?_;refine bB (mw.celled x (C.free x (mem_of_lookup q))) λc' dm e3 e4=>?_;rw[e2]at e3;cases e3;exact cZ c dm e1 (e4.keeps (Eb _ _))
 ·have safe:∀b,s.heap.objs.size<=b->eX G b:=λb hb=>mw.psafe b (mw.fresh b hb);rcases ha with ha|ha|⟨x,hx⟩
  ·exact R.bsafe a (.inl ha)
  ·refine aa ha ?_;exact safe _ (Y2 _)
  ·rcases c1 x a hx with⟨_,q,_⟩|⟨_,q,_⟩
   ·exact safe a (ZI q)
   ·exact R.bsafe a (.inr (.inr ⟨x,q⟩))
theorem Oy (C:kF T sc)(mw:ER G φ ab T ρ σ β P m s)(hP:∀a,P' a->¬(s.heap.objs.size<=a/\a<(ft s.heap sc).objs.size)):
 mm (nN sc (dr ab sc.names []) s.heap.objs.size ab) (T.comp sc) β P':=by
 refine pY (wf (s:=s) C mw) λc1 c2 c3 c4=>?_;refine⟨λp=>hP _ p ⟨Y2 _,Ec _ _⟩,λhb=>Zo _ (mw.blt _ hb),λx hx=>?_⟩;refine fk (c2 x (mem_of_lookup hx)) λc e1 e2 e3=>?_;refine lh c e1 (λp=>hP _ p ⟨ZI e2,e3.lt⟩) (λhb=>?_);exact jet e2 (mw.blt _ hb)
end
section
theorem Im (hg:gens[d]?=some ⟨.Name x px,iter,ifs,0⟩)(h:Y7 (Y9 af wd) A (pyNext I) (λr ak=>match r with
 |none=>Q (.done .next) ak
 |some v=>Y7 (Y9 af wd) A (jdr ab x v) (λY aC =>
  Y7 (Y9 af wd) A (forIn ifs true λc r=>if r=true then do let ok <-jbm c ab (Z7 c ab);pure (jbO ok)else pure (jbO r)) (λok dk =>
   if ok=true then(match gens[d+1]? with
    |some g'=>Y7 (Y9 af wd) A (Z7 g'.iter ab) (λxv eE=>Y7 (Y9 af wd) A (jcm g'.iter ab xv) (λyv dO=>Y7 (Y9 af wd) A (jdH yv) (λit qT =>
     Y7 (Y9 af wd) A (runOwn (.compStart (.ListComp aD gens sc pos) (d+1) it acc ab) ab) (λY ly=>Q (.again (.compLoop (.ListComp aD gens sc pos) d I acc ab)) ly) E qT) E dO) E eE) E dk
    |none=>Y7 (Y9 af wd) A (Z7 aD ab) (λy eE=>Y7 (Y9 af wd) A (call (.builtin "list.append") [acc,y]) (λY dO=>Q (.again (.compLoop (.ListComp aD gens sc pos) d I acc ab)) dO) E eE) E dk)
   else Q (.again (.compLoop (.ListComp aD gens sc pos) d I acc ab)) dk) E aC) E ak) E s) (ha:∀g',gens[d+1]?=some g'->g'.is_async=0):
 Y7 (Y9 af wd) A (jiB (.ListComp aD gens sc pos) d I acc ab) Q E s:=by
 unfold jiB;dsimp only;refine aa hg ?_;dsimp only;refine Y6 (jaT ?_);refine Y6 (jan h (λr ak aX=>?_) λY Y e=>e)
 induction r using ae with
 |none=>exact Zu aX
 |some v =>
  dsimp only at aX ⊢;refine Y6 (jit (a:=()) rfl ?_);refine Y6 (jen (jan aX (λY aC cy=>?_) λY Y e=>e));refine Y6 (jan cy (λok dk lc=>?_) λY Y e=>e)
  induction ok using ZC with
  |false=>exact Zu lc
  |true =>
   rw[if_pos rfl]at lc
   induction mZ:gens[d+1]? using ae with
   |none =>
    rw[mZ]at lc;dsimp only at lc ⊢;exact Y6 (Y6 (jan lc (λy eE zS=>Y6 (jan zS (λY dO lf=>Zu (Zu lf)) λY Y e=>e)) λY Y e=>e))
   |some g' =>
    rw[mZ]at lc;have h0:(g'.is_async != 0)=false:=by refine aa (ha g' mZ) ?_;rfl
    dsimp only at lc ⊢;simp only[h0,jcE,if_false];refine Y6 (jan lc (λxv eE zS=>Y6 (jaT (Y6 (jan zS (λyv dO lf=>?_) λY Y e=>e)))) λY Y e=>e);exact Y6 (jaJ (jan lf (λit qT Q5=>Y6 (jan Q5 (λY ly Q6=>Zu Q6) λY Y e=>e)) λY Y e=>e))
end
section
def eH (ab:Env)(T:Tb)(D:Zb)(b:Zb):Prop:=b=D\/b=ab.locals\/∃x,T.names.lookup x=some .cell/\ab.cells.lookup x=some b
structure LS (G:GD) (sB:Y1) (aj:Gh) (ab:Env) (T:Tb) (σ:aA) (β:List Zb) (D:Zb) (φ:Gh) (ρ:aB) (acc:List AV) (P:Zb->Prop) (m:Str->Option Value) (s:Y1):Prop where
 base:∃h t,s={ sB with heap:=h,toks:=t }
 old:∀b o,¬G.X b->sB.heap.get? b=some o->s.heap.get? b=some o
 size:sB.heap.objs.size<=s.heap.objs.size
 sub:∀t x,aj t x->φ t x
 er:ER G φ ab T ρ σ β P m s
 fr:mm ab T β P
 dP:¬P D
 dβ:D∉β
 acc:∃xs,s.heap.PlainList D xs.toArray/\ar G.tok φ s.heap β P acc xs
 tabs:bz G s.heap/\∀c,bM G s.heap c->bM G sB.heap c\/sB.heap.objs.size<=c
theorem LS.own {acc:List AV}(L:LS G sB aj ab T σ β D φ ρ acc P m s):∀b,eH ab T D b->¬P b/\b∉β:=by
 intro b hb;rcases hb with rfl|rfl|⟨x,h1,h2⟩
 ·exact⟨L.dP,L.dβ⟩
 ·exact⟨L.fr.ploc,L.fr.bloc⟩
 ·refine fk (L.fr.own x h1) λc e1 e2 e3=>?_;rw[h2]at e1;cases e1;exact⟨e2,e3⟩
theorem LS.inv {acc:List AV}(L:LS G sB aj ab T σ β D φ ρ acc P m s)(I:bg G sB.heap):bg G s.heap:=I.keepsX L.old L.tabs.1
theorem bz.notX_list (x:bz G h)(n:h.PlainList a xs):¬G.X a/\¬bM G h a:=let⟨n,e⟩:=n;⟨x.notX_data e (λvs q=>nomatch q),x.noHas e (λvs q=>nomatch q)⟩
theorem LS.go {acc:List AV}(L:LS G sB aj ab T σ β D φ ρ acc P m s)(k:GX G s φ s' am):LS G sB aj ab T σ β D am ρ acc P m s' where
 base:=by
  refine fq L.base ?_;rintro h t rfl;refine bB k.grows.keeps λh' t' e Y=>?_;exact jO h' t' e
 old:=λb o hb e=>k.ext b o hb (L.old b o hb e)
 size:=YY L.size k.grows.size
 sub:=λt x e=>k.sub t x (L.sub t x e)
 er:=L.er.go k L.tabs.1
 fr:=L.fr
 dP:=L.dP
 dβ:=L.dβ
 acc:=let⟨xs,h1,h2⟩:=L.acc;⟨xs,h1.at λo=>k.ext _ o (L.tabs.1.notX_list h1).1,L.er.vrs k h2⟩
 tabs:=by
  refine bN (k.tabs L.tabs.1) λh1 h2=>?_;exact⟨h1,λc hc=>(h2 c hc).elim (L.tabs.2 c) λq=>.inr (YY L.size q)⟩
theorem LS.done {acc:List AV}(L:LS G sB aj ab T σ β D φ ρ acc P m s):GX G sB aj s φ:=by
 have o:=L.old;have z:=L.size;have k:=L.er.tk;have tb:=L.tabs;refine fq L.base ?_;rintro h t rfl;exact⟨⟨⟨h,t,rfl,o⟩,z⟩,L.sub,k,λY=>tb⟩
theorem LS.forget {acc:List AV}(L:LS G sB aj ab T σ β D φ av acc P m s)(hl:ρ.length=av.length)(h:∀(i:Nat) (v:AV),ρ[i]?=some (some v)->av[i]?=some (some v)):LS G sB aj ab T σ β D φ ρ acc P m s :=
 { L with er:=L.er.forget hl h }
theorem G2 {h:jag}(hn:h.Ns a m)(hc:h.PlainList D xs):a≠D:=by
 rintro rfl;refine j' hn λo es ep ho hd Y=>?_;refine aW hc λn kj=>?_;rw[ho]at kj;cases kj;cases hd
theorem Cn {h:jag}(hn:h.IsCell c v)(hc:h.PlainList D xs):c≠D:=by
 rintro rfl;refine au hn λo ho hd=>?_;refine aW hc λn kj=>?_;rw[ho]at kj;cases kj;cases hd
theorem LS.store {acc:List AV}(hE:bQ ab T)(hT:jx T)(hx:T.var x=some i)(hk:T.names.lookup x=some .local\/T.names.lookup x=some .cell)(dY:∀b,eH ab T D b->sB.heap.get? b=none)(L:LS G sB aj ab T σ β D φ ρ acc P m s)(r:VR G.tok φ s.heap β P v xv)(hQ:∀s' m',LS G sB aj ab T σ β D φ (ρ.set i (some v)) acc P m' s'->(∀b o,¬eH ab T D b->s.heap.get? b=some o->s'.heap.get? b=some o)->s.heap.objs.size<=s'.heap.objs.size->Q () s'):
 Y7 (Y9 af wd) A (jdr ab x xv) Q E s:=by
 refine HQ L.tabs.1 hE hT hx hk L.er L.fr r λh' t m' ir ht hs jj R TT=>?_;have jM:eH ab T D ir:=by
  rcases ht with rfl|⟨h1,h2⟩
  ·exact .inr (.inl rfl)
  ·exact .inr (.inr ⟨x,h2,h1⟩)
 refine fq L.base λhh tt e=>?_;refine au L.acc λxs a1 a2=>?_;have QK:D≠ir:=by
  rcases ht with rfl|⟨h1,h2⟩
  ·exact jev (G2 L.er.ns a1)
  ·refine bB (L.er.celled x (by unfold Tb.celled;refine aa h2 ?_;rfl)) λc dm e1 e2=>?_;rw[h1]at e1;cases e1;exact jev (Cn e2 a1)
 refine hQ _ m' ⟨⟨h',t,by refine aa e ?_;rfl⟩,λb o hb e=>hs.extBut b o (λq=>?_) (L.old b o hb e),?_,L.sub,R,L.fr,L.dP,L.dβ,⟨xs,a1.at λo e=>hs.extBut _ o QK e,a2.mono (λY Y e=>e) (λa o p e=>⟨hs.extBut a o (λq=>(L.own ir jM).1 (q▸p)) e,p⟩) (Zg _)⟩,TT.1,λc q=>L.tabs.2 c (TT.2 c q)⟩
  (λb o hb e=>hs.extBut b o (λq=>hb (q▸jM)) e) ?_
 ·subst q;rw[dY b jM]at e;cases e
 ·exact YY L.size (ZG hs.1.symm)
 ·exact ZG hs.1.symm
theorem LS.append {acc:List AV}(dY:∀b,eH ab T D b->sB.heap.get? b=none)(L:LS G sB aj ab T σ β D φ ρ acc P m s)(r:VR G.tok φ s.heap β P v xv)(aT:acc.length<=100000)(hQ:∀x s',LS G sB aj ab T σ β D φ ρ (acc++[v]) P m s'->(∀b o,¬eH ab T D b->s.heap.get? b=some o->s'.heap.get? b=some o)->s.heap.objs.size<=s'.heap.objs.size->Q x s'):
 Y7 (Y9 af wd) A (call (.builtin "list.append") [.ref D,xv]) Q E s:=by
 refine au L.acc λxs a1 a2=>?_;refine jhG a1 (λh' hZ hs=>?_) (by refine aa Zh ?_;refine rwj a2.length ?_;exact d0 aT);have jM:eH ab T D D:=.inl rfl;refine fq L.base λhh tt e=>?_;have hk:∀a o,P a->s.heap.get? a=some o->h'.get? a=some o/\P a:=λa o p e=>⟨hs.extBut a o (λq=>L.dP (q▸p)) e,p⟩
 have R:ER G φ ab T ρ σ β P m { s with heap:=h',toks:=s.toks }:=L.er.but (X:=(·=D)) L.tabs.1 (λb hb q=>(L.tabs.1.notX_list a1).1 (q▸hb)) (λb o hb e=>hs.extBut b o hb e) (ZG hs.1.symm) (Y2 _)
  (λa p q=>L.dP (q▸p)) (λa p q=>L.dβ (q▸p)) (G2 L.er.ns a1) (λx c v hc hi q=>Cn hi a1 q)
 have TT:=L.tabs.1.but (λb o hb e=>hs.extBut b o hb e) (L.tabs.1.notX_list a1).1 (L.tabs.1.notX_list a1).2;refine hQ _ _ ⟨⟨h',s.toks,by refine aa e ?_;rfl⟩,λb o hb e=>hs.extBut b o (λq=>?_) (L.old b o hb e),YY L.size (ZG hs.1.symm),L.sub,R,L.fr,L.dP,L.dβ,⟨xs++[xv],by simpa using hZ,(a2.append (.single r)).mono (λY Y e=>e) hk (Zg _)⟩,TT.1,λc q=>L.tabs.2 c (TT.2 c q)⟩
  (λb o hb e=>hs.extBut b o (λq=>hb (q▸jM)) e) (ZG hs.1.symm)
 subst q;rw[dY _ jM]at e;cases e
end
section
theorem OR.weak {G:GD}(hk:∀a,P a->P' a)(r:OR G.tok φ h β P o a):OR G.tok φ h β P' o a :=
 r.mono (λY Y e=>e) (λa o p e=>⟨e,hk a p⟩) (Zg _) λY e=>e
theorem ER.weak (R:ER G φ ab T ρ σ β P m s)(hk:∀a,P a->P' a)(hp:∀a,P' a->eX G a):ER G φ ab T ρ σ β P' m s :=
 { R with names:=λx i v h1 h2=>(let⟨v',a,b⟩:=R.names x i v h1 h2;⟨v',a.weak hk,b⟩),objs:=λj o h1 h2=>(let⟨a,h3,h4⟩:=R.objs j o h1 h2;⟨a,h3,h4.weak hk⟩),freshX:=λa h=>hk a (R.freshX a h),psafe:=hp }
theorem LS.weak {acc:List AV}(L:LS G sB aj ab T σ β D φ ρ acc P m s)(hk:∀a,P a->P' a)(hp:∀a,P' a->eX G a)(hf:mm ab T β P')(hd:¬P' D):LS G sB aj ab T σ β D φ ρ acc P' m s :=
 { L with er:=L.er.weak hk hp,fr:=hf,dP:=hd,acc:=let⟨xs,h1,h2⟩:=L.acc;⟨xs,h1,h2.weak hk⟩ }
abbrev zV (ab:Env):Expr->Bool->Sem (ForInStep Bool):=λc r=>if r=true then do let ok <-jbm c ab (Z7 c ab);pure (jbO ok)else pure (jbO r)
theorem FX:∀(ifs:List Expr),forIn ifs false (zV ab)=pure false
 | []=>by refine aa jcM ?_;rfl
 |c::r=>by
  rw[jdq];show(pure (jbO false) >>= _)=_;refine aa (pure_bind _ _) ?_;exact FX r
theorem zW:∀{ifs:List Expr}{r:Bool},(∀c∈ifs,∀b,ev Φ σ ρ (ao T c)=some (.bool b)->TS G A ab T ρ σ (jbm c ab (Z7 c ab)) b) ->
 cS Φ σ ρ (bf T ifs)=some r->TS G A ab T ρ σ (forIn ifs true (zV ab)) r
 | [],r,_,e=>λs φ β P m I R=>by
  refine aa jcM ?_;simp only[Ic,tX,nV,kS]at e;cases e;exact Zu ⟨rfl,φ,.refl R.tk⟩
 |c::ifs,r,h,e=>λs φ β P m I R=>by
  rw[jdq];rw[tX,kS]at e
  induction hc:ev Φ σ ρ (ao T c)using ae with
  |none=>rw[hc]at e;exact ai e
  |some v =>
   rw[hc]at e
   induction v using AV.casesOn with
   |bool b =>
    induction b using ZC with
    |true =>
     refine Y6 (Y6 ((h c Zc true hc).post I R λak ay aw bb aI=>Zu ?_));exact up (zW (λc hc=>h c (Zt _ hc)) e ak ay β P m bb aI) λb aC ⟨e,aU,aP⟩=>⟨e,aU,aw.trans aP⟩
    |false =>
     have e:some false=some r:=e;cases e;refine Y6 (Y6 ((h c Zc false hc).post I R λak ay aw bb aI=>Zu ?_));show Y7 _ _ (forIn ifs false (zV ab)) _ _ ak;refine aa (FX _) ?_;exact Zu ⟨rfl,ay,aw⟩
   |_=>exact ai e
end
section
structure I1 (G:GD) (ab:Env) (T:Tb) (D:Zb) (s s':Y1):Prop where
 keep:∀b o,¬eH ab T D b->¬G.X b->s.heap.get? b=some o->s'.heap.get? b=some o
 size:s.heap.objs.size<=s'.heap.objs.size
theorem LS.moved {acc:List AV}(L:LS G sB aj ab T σ β D φ ρ acc P m s)(hI:¬P I)(ql:I∉β)(fI:¬eH ab T D I)(kg:sB.heap.get? I=none)(jb:∀x c,ab.cells.lookup x=some c->c≠I)(lV:¬G.X I)(hk:∀b o,b≠I->s.heap.get? b=some o->h'.get? b=some o)(u:Up s { s with heap:=h',toks:=t }):LS G sB aj ab T σ β D φ ρ acc P m { s with heap:=h',toks:=t }:=by
 refine fq L.base λhh tt e=>?_;refine au L.acc λxs a1 a2=>?_;have TT:=L.tabs.1.but (a:=I) hk lV λq=>hI (L.er.freshX I (.inr q));have R:=L.er.but (X:=(·=I)) (h':=h') (t:=t) L.tabs.1 (λb hb q=>lV (q▸hb)) (λb o hb e=>hk b o hb e) u.size u.toks (λa p q=>hI (q▸p)) (λa p q=>ql (q▸p)) (λq=>fI (.inr (.inl q.symm))) (λx c v hc hi q=>jb x c hc q);refine⟨⟨h',t,by refine aa e ?_;rfl⟩,λb o hb e=>hk b o (λq=>?_) (L.old b o hb e),YY L.size u.size,L.sub,R,L.fr,L.dP,L.dβ,⟨xs,a1.at λo e=>hk _ o (λq=>fI (.inl q.symm)) e,a2.mono (λY Y e=>e) (λa o p e=>⟨hk a o (λq=>hI (q▸p)) e,p⟩) (Zg _)⟩,TT.1,λc q=>L.tabs.2 c (TT.2 c q)⟩;subst q;rw[kg]at e;cases e
def RS (G:GD)(A:ZS)(sB:Y1)(aj:Gh)(ab:Env)(T:Tb)(σ:aA)(β:List Zb)(D:Zb)(P:Zb->Prop)(aD:Expr)(gens:List jae)(sc:jax)(pos:Pos)(d:Nat)(ρ:aB)(res:List AV):Prop :=
 ∀φ acc m s (Q:Y1->Prop) (E:Value->Y1->Prop),LS G sB aj ab T σ β D φ ρ acc P m s->(acc++res).length<=100000 ->
  (∀am m' s',LS G sB aj ab T σ β D am ρ (acc++res) P m' s'->I1 G ab T D s s'->(∀t x,φ t x->am t x)->Q s') ->
  match gens[d]? with
  |some g'=>Y7 (Y9 af wd) A (Z7 g'.iter ab) (λxv eE=>Y7 (Y9 af wd) A (jcm g'.iter ab xv) (λyv dO=>Y7 (Y9 af wd) A (jdH yv) (λit qT =>
   Y7 (Y9 af wd) A (runOwn (.compStart (.ListComp aD gens sc pos) d it (.ref D) ab) ab) (λY ly=>Q ly) E qT) E dO) E eE) E s
  |none=>Y7 (Y9 af wd) A (Z7 aD ab) (λy eE=>Y7 (Y9 af wd) A (call (.builtin "list.append") [.ref D,y]) (λY dO=>Q dO) E eE) E s
theorem NZ (h:fZ f (v::vs)=some res):∃bs cs,res=bs++cs/\f v=some bs/\fZ f vs=some cs:=by
 rw[u4]at h
 induction h1:f v using ae with
 |none=>rw[h1]at h;exact ai h
 |some bs =>
  rw[h1]at h
  induction h2:fZ f vs using ae with
  |none=>rw[h2]at h;exact ai h
  |some cs=>rw[h2]at h;exact na bs cs ((Y0 h).symm) rfl rfl
theorem Wh {o:Option Bool}{g:Option (List AV)}{bs:List AV}{Q:Prop}(h:(match o with|some true=>g|some false=>some []|none=>none)=some bs)(h1:o=some true->g=some bs->Q)(h2:o=some false->bs=[]->Q):Q:=by
 induction o using ae with
 |none=>exact ai h
 |some b=>induction b using ZC with
  |true=>exact h1 rfl h
  |false=>exact h2 rfl (Y0 h).symm
theorem Cx {ab:Env}{T:Tb}{ρ:aB}{G:GD}{sB:Y1}{Φ:cX}{aD iter:Expr}{gens:List jae}{sc:jax}{pos px:Pos}{x:Str}{ifs:List Expr}{d i:Nat}{I:Zb}{fp:List Zb}{Pv:Nat->Value->Prop}{St:Nat->jag->Prop}{vs:List AV}{g:aB->Option (List AV)}{R:Result->Y1->Prop}(hE:bQ ab T)(hT:jx T)(hx:T.var x=some i)(hk:T.names.lookup x=some .local\/T.names.lookup x=some .cell)(fv:ρ[i]?=some none)(hg:gens[d]?=some ⟨.Name x px,iter,ifs,0⟩)(ha:∀g',gens[d+1]?=some g'->g'.is_async=0)(dY:∀b,eH ab T D b->sB.heap.get? b=none)(IB:bg G sB.heap)(E3:∀v,∀c∈ifs,∀b,ev Φ σ (ρ.set i (some v)) (ao T c)=some (.bool b)->TS G A ab T (ρ.set i (some v)) σ (jbm c ab (Z7 c ab)) b)(eQ:∀v res,g (ρ.set i (some v))=some res->RS G A sB aj ab T σ β D P aD gens sc pos (d+1) (ρ.set i (some v)) res)(W:Walks af wd A I fp [I] vs.length Pv St)(k9:∀b∈fp,b=I\/(¬eH ab T D b/\¬G.X b))(lV:¬G.X I)(hI:¬P I)(ql:I∉β)(fI:¬eH ab T D I)(kg:sB.heap.get? I=none)(jb:∀x c,ab.cells.lookup x=some c->c≠I):
 ∀(k j:Nat) (φ:Gh) (acc res:List AV) (m:Str->Option Value) (s:Y1),vs.length-j=k->j<=vs.length->LS G sB aj ab T σ β D φ ρ acc P m s->St j s.heap ->
  fZ (λv=>match cS Φ σ (ρ.set i (some v)) (bf T ifs)with|some true=>g (ρ.set i (some v))|some false=>some []|none=>none) (vs.drop j)=some res->(acc++res).length<=100000 ->
  (∀j x,Pv j x->∃v,vs[j]?=some v/\VR G.tok φ s.heap β P v x) ->
  (∀am m' s',LS G sB aj ab T σ β D am ρ (acc++res) P m' s'->(∀b o,b≠I->¬eH ab T D b->¬G.X b->s.heap.get? b=some o->s'.heap.get? b=some o)->s.heap.objs.size<=s'.heap.objs.size->(∀t x,φ t x->am t x)->R (.ok .next) s') ->
  jeL (Y9 af wd) A (.compLoop (.ListComp aD gens sc pos) d (.ref I) (.ref D) ab) R s:=by
 intro k
 induction k with
 |zero =>
  intro j φ acc res m s hj E6 L cM iO aT jg hR;have jJ:j=vs.length:=by lia
  rw[jJ,jio]at iO;rw[jJ]at cM;clear jg aT hj E6;have e:res=[]:=(Y0 iO).symm;subst e;refine jgO ?_;show Y7 _ A ((jiB (.ListComp aD gens sc pos) d (.ref I) (.ref D) ab).onRaise (λx=>do noteFrame x ab;theTreesLotGoes x)) _ _ s;refine wpAny_noted (Im hg ?_ ha);refine eF (W.done s _ _ cM λh' t f8 u=>?_);have qt:∀b o,b≠I->s.heap.get? b=some o->h'.get? b=some o:=λb o hb e=>f8 b o (λq=>hb (Zn.mp q)) e;exact hR φ m _ ((ZZ acc).symm▸L.moved hI ql fI kg jb lV qt u) (λb o hb Y Y e=>qt b o hb e) u.size λY Y e=>e
 |succ k ih =>
  intro j φ acc res m s hj E6 L cM iO aT jg hR;have aZ:j<vs.length:=BB hj;rw[jcp aZ]at iO;refine bS (NZ iO) ?_;rintro bs cs rfl je EO;clear iO;have rv:∀xv,Pv j xv->VR G.tok φ s.heap β P vs[j] xv:=λxv h=>(jg j xv h).elim λv e=>Y0 ((Y' aZ).symm.trans e.1)▸e.2;generalize vs[j]=v at *;have fin:∀am m' s',LS G sB aj ab T σ β D am (ρ.set i (some v)) (acc++bs) P m' s'->St (j+1) s'.heap->(∀b o,b≠I->¬eH ab T D b->¬G.X b->s.heap.get? b=some o->s'.heap.get? b=some o)->s.heap.objs.size<=s'.heap.objs.size->(∀t x,φ t x->am t x) ->
   jeL (Y9 af wd) A (.compLoop (.ListComp aD gens sc pos) d (.ref I) (.ref D) ab) R s':=λam m' s' rm st kk zz ss=>by
   refine ih (j+1) am (acc++bs) cs m' s' (XW hj) aZ (rm.forget (by refine aa jbC ?_;rfl) λl u hl=>?_) st EO (by rw[jav];exact aT) (λj x hx=>(jg j x hx).elim λv e=>aN v e.1 (e.2.mono ss (λa o p e=>⟨kk a o (λq=>hI (q▸p)) (λq=>(L.own a q).1 p) (L.er.psafe a p).2 e,p⟩) (Zg _))) λml jP eE wV R4 XX A7=>?_
   ·by_cases q:i=l
    ·subst q;rw[fv]at hl;exact nomatch hl
    ·refine aa (jhm q) ?_;exact hl
   ·exact hR ml jP eE (jav acc bs cs▸wV) (λb o hb ho hX e=>R4 b o hb ho hX (kk b o hb ho hX e)) (YY zz XX) λt x e=>A7 t x (ss t x e)
  have vz:(acc++bs).length<=100000:=YY (by rewrite [<-jav];refine aa (Y8 (as:=acc++bs)) ?_;exact ZD _ _) aT;clear ih jg EO aT hR;refine jgO ?_;show Y7 _ A ((jiB (.ListComp aD gens sc pos) d (.ref I) (.ref D) ab).onRaise (λx=>do noteFrame x ab;theTreesLotGoes x)) _ _ s;refine wpAny_noted (Im hg ?_ ha);refine eF (W.item j s _ _ aZ cM λxv h' t vb oE f8 u=>?_);have qt:∀b o,b≠I->s.heap.get? b=some o->h'.get? b=some o:=λb o hb e=>f8 b o (λq=>hb (Zn.mp q)) e;have DW:∀am m' s',LS G sB aj ab T σ β D am (ρ.set i (some v)) (acc++bs) P m' s'->(∀b o,¬eH ab T D b->¬G.X b->h'.get? b=some o->s'.heap.get? b=some o)->h'.objs.size<=s'.heap.objs.size->(∀t x,φ t x->am t x) ->
   jeL (Y9 af wd) A (.compLoop (.ListComp aD gens sc pos) d (.ref I) (.ref D) ab) R s':=λam m' s' rm kk zz ss =>
   fin am m' s' rm (W.frame _ _ _ oE λb hb o e=>kk b o ((k9 b hb).elim (λq=>q▸fI) (·.1)) ((k9 b hb).elim (λq=>q▸lV) (·.2)) e) (λb o hb ho hX e=>kk b o ho hX (qt b o hb e)) (YY u.size zz) ss
  dsimp only;refine(L.moved hI ql fI kg jb lV qt u).store hE hT hx hk dY ((rv xv vb).mono (λY Y e=>e) (λa o p e=>⟨qt a o (λq=>hI (q▸p)) e,p⟩) (Zg _)) λaC di kK Gk H0=>?_;clear fin rv oE vb;refine Wh je (λza je=>?_) λza je=>?_
  ·refine(zW (Φ:=Φ) (E3 v) za).post (kK.inv IB) kK.er λdk eT cn rk i3=>?_;refine aa (if_pos rfl) ?_;exact eQ v bs je eT acc di dk (λs'=>(Code.compLoop (.ListComp aD gens sc pos) d (.ref I) (.ref D) ab).quiet=true/\jeL (Y9 af wd) A (.compLoop (.ListComp aD gens sc pos) d (.ref I) (.ref D) ab) R s') (notedBy (Y9 af wd) A ab λe s'=>R (.error e) s') (kK.go cn) vz
    λml jP eE wV Gl A7=>⟨rfl,DW ml jP eE wV (λb o ho hX e=>Gl.keep b o ho hX (cn.ext b o hX (Gk b o ho e))) (YY H0 (YY cn.grows.size Gl.size)) λt x e=>A7 t x (cn.sub t x e)⟩
  ·refine(zW (Φ:=Φ) (E3 v) za).post (kK.inv IB) kK.er λdk eT cn rk i3=>?_;refine aa (if_neg ZY) ?_;exact⟨rfl,DW eT di dk (by refine aa je ?_;refine aa (ZZ _) ?_;exact kK.go cn) (λb o ho hX e=>cn.ext b o hX (Gk b o ho e)) (YY H0 cn.grows.size) cn.sub⟩
end
section
def bj (G:GD)(A:ZS)(Φ:cX)(σ:aA)(e:Expr):Prop :=
 ∀ab T ρ v,bQ ab T->ev Φ σ ρ (ao T e)=some v->ES G A ab T ρ σ (Z7 e ab) v/\∀b,v=.bool b->TS G A ab T ρ σ (jbm e ab (Z7 e ab)) b
theorem tr (h:ev Φ σ ρ (ao T e)=some v):f9 e=true:=by
 cases e<;>first|rfl|exact ai h
theorem D6 (h:ev Φ σ ρ (ao T e)=some v):jcm e ab x=pure x:=by
 cases e<;>first|rfl|exact ai h
theorem Nd (h:bX Φ σ ρ (bf T (e::es))=some vs):∃u us,vs=u::us/\ev Φ σ ρ (ao T e)=some u/\bX Φ σ ρ (bf T es)=some us:=by
 rw[tX,mM]at h
 induction hu:ev Φ σ ρ (ao T e)using ae with
 |none=>rw[hu]at h;exact ai h
 |some u =>
  induction cx:bX Φ σ ρ (bf T es)using ae with
  |none=>rw[hu,cx]at h;exact ai h
  |some us=>rw[hu,cx]at h;exact na u us ((Y0 h).symm) rfl rfl
theorem j7 (hE:bQ ab T):∀{vs:List AV},(∀e∈es,bj G A Φ σ e)->bX Φ σ ρ (bf T es)=some vs->es.all f9=true/\∀pos,gS G A ab T ρ σ (jce (jcg pos (jao es ab))) vs:=by
 induction es with
 |nil=>exact λY e=>⟨rfl,λpos=>aG (show some []=some _ from e) MH⟩
 |cons e es ih =>
  intro vs h he;refine bS (Nd he) ?_;rintro u us rfl h1 h2;refine bN (ih (λe he=>h e (Zt _ he)) h2) λi1 i2=>?_;have hs:=tr h1;exact⟨jbG.mpr ⟨hs,i1⟩,λpos=>MG (iV hs) (h e Zc ab T ρ u hE h1).1 (i2 pos)⟩
def F8:Fn->Bool
 | .range=>true
 |_=>false
theorem N9 (h:gv.lookup x=some .range):x=("range" : Str):=
 eq_of_beq (Y3.mp (show gv.all (λe=>!F8 e.2||e.1==("range" : Str))=true by decide +kernel) _ (mem_of_lookup h))
theorem Td (h:iU.lookup x=some .range):False :=
 bP (Y3.mp (show iU.all (λe=>!F8 e.2)=true by decide +kernel) _ (mem_of_lookup h))
theorem Bn (h:ao T e=.call .range as):∃p b bs pos,e=.Call (.Name ("range" : Str) p) (b::bs) [] pos/\T.isGlobal ("range" : Str)=true/\as=bf T (b::bs):=by
 rcases wE h with⟨x,p,a,bs,pos,e1,hg,hl,e2⟩|⟨m,hl⟩|h|⟨h,_⟩
 ·have:=N9 hl;rw[this]at e1 hg;exact zY _ _ _ _ e1 hg e2
 ·exact(Td hl).elim
 ·exact bP h
 ·exact bP h
theorem Gd (hA:A.handled=none)(hE:bQ ab T)(hG:dD G)(hI:bj G A Φ σ it)(Ey:∀f p as pos,it=.Call (.Name f p) as [] pos->∀a∈as,bj G A Φ σ a)(e:dU Φ σ ρ (fR (ao T it))=some vs)(I:bg G s.heap)(R:ER G φ ab T ρ σ β P m s)(hQ:∀x s' am,GX G s φ s' am->(∀x,jcm it ab x=pure x)->Y7 (Y9 af wd) A (jdH x) (jY A G.tok am β P (λb=>P b\/b∈β) s' vs) ax s'->Q x s'):
 Y7 (Y9 af wd) A (Z7 it ab) Q E s:=by
 induction hq:fR (ao T it)using It.casesOn with
 |range as =>
  refine ka (Bn (te hq)) ?_;rintro p b bs pos rfl hg rfl;rw[hq,r8]at e;clear hq hI
  induction cx:bX Φ σ ρ (bf T (b::bs))using ae with
  |none=>rw[cx]at e;exact ai e
  |some us =>
   rw[cx]at e;refine au (Zp.mp e) ?_;rintro is eR rfl;refine bN (j7 (G:=G) (A:=A) hE (λa ha=>Ey _ _ _ _ rfl a ha) cx) λh1 h2=>?_;exact xY hE hG hg h1 (h2 _) eR I R λv s' am k rr=>hQ v s' am k (λY=>rfl) (HN hA rr)
 |rev a=>rw[hq]at e;exact ai e
 |val x =>
  rw[hq,show x=ao T it from te hq,r9]at e;clear hq Ey
  induction hx:ev Φ σ ρ (ao T it)using ae with
  |none=>rw[hx]at e;exact ai e
  |some x =>
   rw[hx]at e;refine(hI ab T ρ x hE hx).1.post I R λv s' am k I' R' r=>hQ v s' am k (λY=>D6 hx) ?_;refine up (HO hA R'.objs R'.psys e r) λit cO h=>?_;refine yq h λo fp Pv St h1 h2 h3 h4 h5 h6=>?_;exact⟨o,fp,Pv,St,h1,h2,h3,h4,λb hb=>(h5 b hb).imp id λq=>⟨q.1.imp id (·.2),q.2⟩,h6⟩
theorem Cv (hg:gens[d]?=some ⟨.Name x px,iter,ifs,0⟩)(h0:jeL (Y9 af wd) A (.compLoop (.ListComp aD gens sc pos) d it acc ab) R s)(h:Y7 (Y9 af wd) A (jdH it) (λtd s'=>jeL (Y9 af wd) A (.compLoop (.ListComp aD gens sc pos) d td acc ab) R s') (notedBy (Y9 af wd) A ab λx s'=>R (.error x) s') s):
 jeL (Y9 af wd) A (.compStart (.ListComp aD gens sc pos) d it acc ab) R s:=by
 refine jgO ?_;show Y7 _ _ ((compStart (.ListComp aD gens sc pos) d it acc ab).onRaise (λx=>do noteFrame x ab;jfi theWindowsPlace)) _ _ s;refine wpAny_notedAt ?_;unfold compStart;refine aa (show clausesOf (.ListComp aD gens sc pos)=gens from rfl) ?_;refine aa hg ?_;dsimp only[Option.elim];show Y7 _ _ (ask >>= _) _ _ s;refine Y6 (wpAny_askSetting (wpAny_ite ?_));split
 ·first
   |exact Y6 (Zu (Zu (And.intro rfl h0)))
   |exact Zu (And.intro rfl h0)
 ·first
   |exact Y6 (jeK (Y6 (jaT (Y6 (jan h (λtd s' h'=>Zu (And.intro rfl h')) λY Y x=>x)))))
   |(refine Y6 (jeK ?_);show Y7 _ _ (jfi iter.pos >>= _) _ _ s;exact Y6 (jaT (Y6 (jan h (λtd s' h'=>Zu (And.intro rfl h')) λY Y x=>x))))
end
section
set_option tactic.hygienic true in
theorem tz {T:Tb}(h:T.own x=some i):T.var x=some i/\(T.names.lookup x=some .local\/T.names.lookup x=some .cell):=by
 unfold Tb.own at h;split at h
 ·rename_i hk;rw[jbl]at hk;exact⟨h,hk.imp (λq=>eq_of_beq q) λq=>eq_of_beq q⟩
 ·cases h
theorem mm.sub (F:mm ab T β P)(hk:∀a,P' a->P a):mm ab T β P' :=
 ⟨λp=>F.ploc (hk _ p),F.bloc,λx hx=>let⟨c,a,b,d⟩:=F.own x hx;⟨c,a,λp=>b (hk _ p),d⟩⟩
theorem LS.push_out {acc:List AV}(L:LS G sB aj ab T σ β D φ ρ acc P m s):
 LS G sB aj ab T σ β D φ ρ acc (fN P s.heap.objs.size (s.heap.objs.size+1)) m { s with heap:=s.heap.push o }:=by
 have hz:(s.heap.push o).objs.size=s.heap.objs.size+1:=ZL ..;have ext:ce s.heap (s.heap.push o):=λb o e=>Za _ e;have R:=L.er.grow_out (h':=s.heap.push o) (t:=s.toks) L.tabs.1 ext (by refine aa hz ?_;exact ZV _) (Y2 _);rw[hz]at R;refine au L.acc λxs a1 a2=>?_;refine⟨?_,λb o hb e=>ext b o (L.old b o hb e),YY L.size (by show _<=(s.heap.push o).objs.size;refine aa hz ?_;exact ZV _),L.sub,R,L.fr.sub λa p=>p.1,λp=>L.dP p.1,L.dβ,⟨xs,a1.at λo=>ext _ o,a2.mono (λY Y e=>e) (λa o p e=>⟨ext _ _ e,p,λq=>ZT.mpr q.1 (Zr e)⟩) (Zg _)⟩,L.tabs.1.keeps ext,λc q=>L.tabs.2 c (iW ext L.tabs.1 c q)⟩;refine fq L.base λhh tt e=>?_;exact jO (s.heap.push o) s.toks (by refine aa e ?_;rfl)
theorem WL {gens:List jae}(h:gens[d]?=none):iX T aD (gens.drop d)=.done aD:=by
 refine aa (jcO (jgA.mp h)) ?_;rfl
theorem LP {gens:List jae}(h:gens[d]?=some g):gens.drop d=g::gens.drop (d+1):=by
 refine aW (Zw.mp h) ?_;rintro hl rfl;exact jcp hl
theorem MQ (h:g8 Φ σ ρ (iX T aD (g::gs))=some res):∃x px it ifs i,g=⟨.Name x px,it,ifs,0⟩/\T.own x=some i/\g8 Φ σ ρ (.cons i (fR (ao T it)) (bf T ifs) (iX T aD gs))=some res:=by
 have t:=WK (T:=T) (aD:=aD) (g:=g) (gs:=gs);generalize iX T aD (g::gs)=z at t h;cases t with
 |bad=>exact ai h
 |mk hi=>exact F1 _ _ _ _ _ rfl hi h
theorem MP (h:g8 Φ σ ρ (.cons x it ifs az)=some res):∃vs,dU Φ σ ρ it=some vs/\ρ[x]?=some none/\vs.length<=100000/\fZ (λv=>match cS Φ σ (ρ.set x (some v)) ifs with
 |some true=>g8 Φ σ (ρ.set x (some v)) az
 |some false=>some []
 |none=>none) vs=some res:=by
 rw[C7]at h
 induction hv:dU Φ σ ρ it using ae with
 |none=>rw[hv]at h;exact ai h
 |some vs =>
  rw[hv]at h
  induction hx:ρ[x]? using ae with
  |none=>rw[hx]at h;exact ai h
  |some o =>
   rw[hx]at h
   induction o using ae with
   |none=>exact bR h λhl e=>vS vs rfl rfl hl e
   |some _=>exact ai h
theorem U6 {A:ZS}{ab:Env}{T:Tb}{sB:Y1}{gens:List jae}(hA:A.handled=none)(hE:bQ ab T)(hT:jx T)(hG:dD G)(has:∀g∈gens,g.is_async=0)(hcl:∀x c,ab.cells.lookup x=some c->T.celled x=true)(dY:∀b,eH ab T D b->sB.heap.get? b=none)(IB:bg G sB.heap)(ol:bj G A Φ σ aD)(jI:∀g∈gens,bj G A Φ σ g.iter/\(∀f p as pos,g.iter=.Call (.Name f p) as [] pos->∀a∈as,bj G A Φ σ a)/\∀c∈g.ifs,bj G A Φ σ c):
 ∀(k d:Nat) (P:Zb->Prop) (ρ:aB) (res:List AV),gens.length-d=k->g8 Φ σ ρ (iX T (ao T aD) (gens.drop d))=some res->RS G A sB aj ab T σ β D P aD gens sc pos d ρ res:=by
 intro k
 induction k with
 |zero =>
  intro d P ρ res hk he φ acc m s Q E L aT hQ;have Fj:gens[d]?=none:=jgA.mpr (by lia);rw[WL Fj]at he;refine aa Fj ?_;dsimp only;simp only[MR]at he;refine au (Zp.mp he) ?_;rintro v hv rfl;refine(ol ab T ρ v hE hv).1.post (L.inv IB) L.er λx ak ay aw bb aI aF=>?_;refine(L.go aw).append dY aF (by rw[Y8]at aT;exact ZI aT) λy aC kK kp sz=>?_;exact hQ ay m aC kK ⟨λb o hb hX e=>kp b o hb (aw.ext b o hX e),YY aw.grows.size sz⟩ aw.sub
 |succ k ih =>
  intro d P ρ res hk he φ acc m s Q E L aT hQ;have aZ:d<gens.length:=BB hk;obtain⟨g,hg⟩:∃g,gens[d]?=some g:=⟨_,Y' aZ⟩
  rw[LP hg]at he;refine aa hg ?_;dsimp only;refine sk (MQ he) ?_;rintro x px iter ifs i rfl jM he;refine bN (tz jM) λhx qu=>?_;refine fY (jI _ (ZB hg)) λg1 g2 g3=>?_;obtain⟨vs,b0,fv,YC,he⟩:=MP he;refine Gd hA hE hG g1 g2 b0 (L.inv IB) L.er λxv ak ay aw hf zM=>?_;refine aa (hf xv) ?_;refine Zu ?_;have ix:=L.go aw;refine up zM λoI aC hs=>?_;obtain⟨o,fp,Pv,St,rfl,rfl,W,cM,k9,jg⟩:=hs;have kK:=ix.push_out (o:=o);have Yc:ak.heap.objs.size≠D:=λq=>by
   obtain⟨xs,a1,_⟩:=ix.acc;obtain⟨n,ho⟩:=a1;exact Zo _ (q▸Zr ho)
  have Ua:∀b,eH ab T D b->b<ak.heap.objs.size:=λb hb=>by
   rcases hb with rfl|rfl|⟨x,h1,h2⟩
   ·obtain⟨xs,a1,_⟩:=ix.acc;obtain⟨n,ho⟩:=a1;exact Zr ho
   ·exact ix.er.ns.lt
   ·obtain⟨c,dm,e1,e2⟩:=ix.er.celled x (by unfold Tb.celled;refine aa h1 ?_;rfl);rw[h2]at e1;cases e1;exact e2.lt
  have fI:¬eH ab T D ak.heap.objs.size:=λq=>Zo _ (Ua _ q);have kg:sB.heap.get? ak.heap.objs.size=none:=AE ix.size;have jb:∀x c,ab.cells.lookup x=some c->c≠ak.heap.objs.size:=λx c hc q=>by
   obtain⟨c',dm,e1,e2⟩:=ix.er.celled x (hcl x c hc);rw[hc]at e1;cases e1;exact Zo _ (q▸e2.lt)
  have ext:ce ak.heap (ak.heap.push o):=λb o e=>Za _ e;have Gz:∀R:Result->Y1->Prop,(∀am m' s',LS G sB aj ab T σ β D am ρ (acc++res) (fN P ak.heap.objs.size (ak.heap.objs.size+1)) m' s'->(∀b o',b≠ak.heap.objs.size->¬eH ab T D b->¬G.X b->(ak.heap.push o).get? b=some o'->s'.heap.get? b=some o')->(ak.heap.push o).objs.size<=s'.heap.objs.size->(∀t x,ay t x->am t x)->R (.ok .next) s') ->
   jeL (Y9 af wd) A (.compLoop (.ListComp aD gens sc pos) d (.ref ak.heap.objs.size) (.ref D) ab) R { ak with heap:=ak.heap.push o }:=λR hR =>
   Cx (Φ:=Φ) (g:=λρ=>g8 Φ σ ρ (iX T (ao T aD) (gens.drop (d+1)))) hE hT hx qu fv hg
    (λg' mZ=>has g' (ZB mZ))
    dY IB (λv c hc b hb=>(g3 c hc ab T _ _ hE hb).2 b rfl) (λv res iO=>ih (d+1) _ _ res (by rewrite [Nat.sub_add_eq];refine aa hk ?_;rfl) iO)
    W (λb hb=>(k9 b hb).imp id λq=>⟨λq'=>by
     rcases q.1 with p|p
     ·exact(ix.own b q').1 p
     ·exact(ix.own b q').2 p,q.1.elim (λp=>(ix.er.psafe b p).2) λp=>(ix.er.bsafe b (.inl p)).2⟩) (ix.er.psafe _ (ix.er.fresh _ (Y2 _))).2
    (λp=>p.2 ⟨Y2 _,jaf _⟩) (λp=>Zo _ (ix.er.blt _ p)) fI kg jb
    vs.length 0 ay acc res m _ rfl (jaU _) kK cM he aT
    (λj x hx=>by
     obtain⟨v,h1,h2⟩:=jg j x hx;exact aN v h1 (h2.mono (λY Y e=>e) (λa o p e=>⟨ext _ _ e,p,λq=>ZT.mpr q.1 (Zr e)⟩) (Zg _)))
    hR
  have back:∀am m' s',LS G sB aj ab T σ β D am ρ (acc++res) (fN P ak.heap.objs.size (ak.heap.objs.size+1)) m' s'->(∀b o',b≠ak.heap.objs.size->¬eH ab T D b->¬G.X b->(ak.heap.push o).get? b=some o'->s'.heap.get? b=some o')->(ak.heap.push o).objs.size<=s'.heap.objs.size->(∀t x,ay t x->am t x)->Q s':=λam m' s' rm kk zz ss =>
   hQ am m' s' (rm.weak (λa p=>p.1) L.er.psafe L.fr L.dP) ⟨λb o' hb hX e=>kk b o' (λq=>Zo _ (be (q▸Zr e:ak.heap.objs.size<s.heap.objs.size) aw.grows.size)) hb hX (ext _ _ (aw.ext _ _ hX e)),YY aw.grows.size (YY (by refine aa (ZL _ _) ?_;exact ZV _) zz)⟩ λt x e=>ss t x (aw.sub t x e)
  refine wpAny_runOwn ?_ (λq=>nomatch q);refine aa (Around.mark_none _) ?_;exact Cv hg (Gz _ back) (W.self 0 _ _ _ cM (Gz _ back))
end
section
structure CD (G:GD) (s:Y1) (φ:Gh) (β:List Zb) (P:Zb->Prop) (vs:List AV) (am:Gh) (s':Y1) (D C:Zb) (m':Str->Option Value) (P':Zb->Prop):Prop where
 go:GX G s φ s' am
 cNew:s.heap.objs.size<=C
 dNew:s.heap.objs.size<=D
 cd:C≠D
 ns:s'.heap.Ns C m'
 sub:∀a,P' a->P a
 pC:¬P' C
 pD:¬P' D
 items:∃xs,s'.heap.PlainList D xs.toArray/\ar G.tok am s'.heap β P' vs xs
theorem MO {T T':Tb}{n:Nat}{aD:Ex}{gens:List jae}{res:List AV}{Q:List jae->Prop}(h:fF Φ σ ρ n (iY T T' aD gens)=some res)(k:∀x px it ifs gs i,T'.own x=some i->fF Φ σ ρ n (.cons i (fR (ao T it)) (bf T' ifs) (iX T' aD gs))=some res->Q (⟨.Name x px,it,ifs,0⟩::gs)):Q gens:=by
 induction gens using YZ with
 |nil=>exact ai h
 |cons g gs =>
  have t:=WJ (T:=T) (T':=T') (aD:=aD) (g:=g) (gs:=gs);generalize iY T T' aD (g::gs)=z at t h;cases t with
  |bad=>exact ai h
  |mk hi=>exact k _ _ _ _ _ _ hi h
theorem MN {x n:Nat}{it:It}{ifs:bV}{az:jX}{res:List AV}{Q:Prop}(h:fF Φ σ ρ n (.cons x it ifs az)=some res)(k:∀vs,dU Φ σ ρ it=some vs->(ρ++Ze n none)[x]?=some none->vs.length<=100000->fZ (λv=>match cS Φ σ ((ρ++Ze n none).set x (some v)) ifs with
 |some true=>g8 Φ σ ((ρ++Ze n none).set x (some v)) az
 |some false=>some []
 |none=>none) vs=some res->res.length<=100000->Q):Q:=by
 rw[x0]at h
 induction hv:dU Φ σ ρ it using ae with
 |none=>rw[hv]at h;exact ai h
 |some vs =>
  rw[hv]at h
  induction hx:(ρ++Ze n none)[x]? using ae with
  |none=>rw[hx]at h;exact ai h
  |some o =>
   rw[hx]at h
   induction o using ae with
   |none =>
    refine bR h λhl e=>?_;generalize hr:fZ _ vs=r at e
    induction r using ae with
    |none=>exact ai e
    |some rs=>exact bR e λh1 h2=>k vs hv hx hl (Y0 h2▸hr) (Y0 h2▸h1)
   |some _=>exact ai h
theorem Oq (h:dU Φ σ ρ (fR (ao T iter))=some vs):jcm iter ab x=pure x:=by
 cases iter<;>first|rfl|exact ai h
structure IQ (G:GD) (s:Y1) (φ:Gh) (gZ:Env) (T:Tb) (σ:aA) (β:List Zb) (I D L:Zb) (ay:Gh) (ρ:aB) (P:Zb->Prop) (aX h:jag) (s':Y1):Prop where
 hE:bQ gZ T
 ls:LS G s φ gZ T σ β D ay ρ [] P (λY=>none) s'
 own:∀b,eH gZ T D b->I<b
 cel:∀y c,gZ.cells.lookup y=some c->T.celled y=true/\c≠I
 loc:gZ.locals=L
 ext:ce aX h
 ne:L≠D
 new:s.heap.objs.size<=I/\I<D/\I<L
 pI:¬P I
 nb:I∉β
 psub:∀a,P a->a<I\/¬a<h.objs.size
theorem Lb (hE:bQ ab T)(C:kF T sc)(I:bg G s.heap)(R:ER G φ ab T ρ σ β P m s)(aw:GX G s φ ak ay)(qk:(ak.heap.push o).push { cls:=.type "list",dict:=none,data:=.seq ([]:List Value).toArray }=cf):
 IQ G s φ (nN sc (dr ab sc.names []) cf.objs.size ab) (T.comp sc) σ β ak.heap.objs.size (ak.heap.push o).objs.size cf.objs.size ay (ρ++Ze (ey sc).length none) (fN P ak.heap.objs.size (ft cf sc).objs.size) (ak.heap.push o) (ft cf sc) { ak with heap:=ft cf sc }:=by
 have hD:(ak.heap.push o).objs.size=ak.heap.objs.size+1:=ZL ..;have hC:cf.objs.size=ak.heap.objs.size+2:=by refine rwj qk ?_;refine aa (ZL _ _) ?_;refine aa (ZL _ _) ?_;rfl
 have n9:ce ak.heap (ak.heap.push o):=λb o e=>Za _ e;have mP:ce (ak.heap.push o) cf:=λb o e=>qk▸Za _ e;have mQ:ce cf (ft cf sc):=Eb cf sc;have YI:=Ec cf sc;have rB:bz G ak.heap:=(aw.tabs I.tabs).1;have aI:=R.go aw I.tabs;have i3:ER G ay ab T ρ σ β P m { ak with heap:=cf }:=aI.go (GX.same aI.tk ⟨⟨cf,ak.toks,rfl,n9.trans mP⟩,by show _<=cf.objs.size;simp[*]⟩ (Y2 _)) rB;have I6:ER G ay ab T ρ σ β (fN P ak.heap.objs.size (ft cf sc).objs.size) m { ak with heap:=ft cf sc }:=aI.grow_out rB ((n9.trans mP).trans mQ) (by lia) (Y2 _);have y1:=Mc (s:={ ak with heap:=cf }) hE C i3;have RC:=Mm (s:={ ak with heap:=cf }) hE C i3 I6;have FC:=Oy (s:={ ak with heap:=cf }) C i3 (P':=fN P ak.heap.objs.size (ft cf sc).objs.size) λa p q=>p.2 ⟨by have:=q.1;show ak.heap.objs.size<=a;have:cf.objs.size<=a:=q.1;lia,q.2⟩;refine pY (wf (s:={ ak with heap:=cf }) C i3) λc1 c2 c3 c4=>?_;dsimp only at c1 c2 c3 c4 y1 RC FC;generalize vf:nN sc (dr ab sc.names []) cf.objs.size ab=gZ at y1 RC FC;have hcl:gZ.cells=kP sc (dr ab sc.names []) cf.objs.size:=by refine rwj vf ?_;rfl
 have vC:gZ.locals=cf.objs.size:=by refine rwj vf ?_;rfl
 have O3:(ft cf sc).PlainList (ak.heap.push o).objs.size #[]:=⟨_,mQ _ _ (by refine rwj qk ?_;exact ZW _ rfl)⟩
 have bd:s.heap.objs.size<=ak.heap.objs.size:=aw.grows.size;have nb:∀b,ak.heap.objs.size<=b->b∉β:=λb hb hm=>Zo _ (be (R.blt b hm) (YY bd hb));have q1:ak.heap.objs.size<=(ak.heap.push o).objs.size:=by simp
 have q2:(ak.heap.push o).objs.size<(ft cf sc).objs.size:=by lia
 have q3:ak.heap.objs.size<(ak.heap.push o).objs.size:=ZG (id (jfb hD));have q4:ak.heap.objs.size<cf.objs.size:=by simp[*]
 have q7:cf.objs.size≠(ak.heap.push o).objs.size:=by lia
 exact{
  hE:=y1
  ls:={
   base:=by
    refine bB aw.grows.keeps λhh tt e Y=>?_;exact jO (ft cf sc) ak.toks (by refine aa e ?_;rfl)
   old:=λb o hb e=>mQ _ _ (mP _ _ (n9 _ _ (aw.ext _ _ hb e)))
   size:=by show s.heap.objs.size<=(ft cf sc).objs.size;lia
   sub:=aw.sub
   er:=RC
   fr:=FC
   dP:=λp=>p.2 ⟨q1,q2⟩
   dβ:=nb _ q1
   acc:=aN [] O3 (.nil)
   tabs:=⟨rB.keeps ((n9.trans mP).trans mQ),λc q=>(aw.tabs I.tabs).2 c (iW ((n9.trans mP).trans mQ) rB c q)⟩ }
  own:=λb hb=>by
   rcases hb with rfl|rfl|⟨y,h1,h2⟩
   ·exact q3
   ·refine aa vC ?_;exact q4
   ·rw[hcl]at h2;refine fk (c2 y (mem_of_lookup h1)) λc h3 h4 Y=>?_;refine aa (Y0 (h2.symm.trans h3)) ?_;exact jai q4 h4
  cel:=λy c hc=>by
   rw[hcl]at hc;have cl:∀{k},(y,k)∈sc.names->(k==.cell||k==.free)=true->(T.comp sc).celled y=true:=λq hk=>by
    show(sc.names.lookup y==_||sc.names.lookup y==_)=true;refine aa (lq C.nodup q) ?_;exact hk
   rcases c1 y c hc with⟨q,q5,_⟩|⟨q,q',_⟩
   ·exact⟨cl q rfl,λz=>jet q4 (z▸q5)⟩
   ·refine⟨cl q rfl,λz=>?_⟩;refine bB (aI.celled y (C.free y q)) λc' dm e1 e2=>?_;exact Zo _ ((Y0 (q'.symm.trans e1)).symm.trans z▸e2.lt)
  loc:=vC
  ext:=λb o e=>mQ _ _ (mP _ _ e)
  ne:=q7
  new:=cz bd q3 q4
  pI:=λp=>p.2 ⟨Y2 _,jai q3 q2⟩
  nb:=nb _ (Y2 _)
  psub:=λa p=>(jbT a ak.heap.objs.size).imp id λh q=>p.2 ⟨h,q⟩ }
theorem La (hA:A.handled=none)(hE:bQ ab T)(hG:dD G)(C:kF T sc)(has:∀g∈(⟨.Name x px,iter,ifs,0⟩::gs:List jae),g.is_async=0)(ol:bj G A Φ σ aD)(jI:∀g∈(⟨.Name x px,iter,ifs,0⟩::gs:List jae),bj G A Φ σ g.iter/\(∀f p as pos,g.iter=.Call (.Name f p) as [] pos->∀a∈as,bj G A Φ σ a)/\∀c∈g.ifs,bj G A Φ σ c)(jM:(T.comp sc).own x=some i)(cx:dU Φ σ ρ (fR (ao T iter))=some us)(fv:(ρ++Ze (ey sc).length none)[i]?=some none)(iO:fZ (λv=>match cS Φ σ ((ρ++Ze (ey sc).length none).set i (some v)) (bf (T.comp sc) ifs)with
 |some true=>g8 Φ σ ((ρ++Ze (ey sc).length none).set i (some v)) (iX (T.comp sc) (ao (T.comp sc) aD) gs)
 |some false=>some []
 |none=>none) us=some vs) (aO:vs.length<=100000) (I:bg G s.heap) (R:ER G φ ab T ρ σ β P m s) (hQ:∀am s' D C m' P',CD G s φ β P vs am s' D C m' P'->compPost (Y9 af wd) A E mi Q (.ref D) C (.ok .next) s'):
 Y7 (Y9 af wd) A (jfz (.ListComp aD (⟨.Name x px,iter,ifs,0⟩::gs) sc pos) sc ab nr (newList []) false (jhI (⟨.Name x px,iter,ifs,0⟩::gs) ab) mi) Q E s:=by
 have qu:=tz jM;have hg:=jI _ Zc;have Pu:jcQ sc ab=pure (dr ab sc.names []):=Cr λn hn=>(R.celled n (C.free n hn)).elim λc e=>⟨c,e.elim λY e=>e.1⟩
 refine wpAny_comprehension_free rfl (λy=>Oq cx) Pu C.kind (λy hy hl=>lq C.nodup (hl▸hy)) ?_;show Y7 _ _ (Z7 iter ab) _ _ _;refine Gd hA hE hG hg.1 hg.2.1 cx I R λxv ak ay aw hf zM=>up zM λoI aC hs=>?_;refine src_elim hs λo fp Pv St W cM k9 jg=>?_;refine jfR (Tt ?_);generalize qk:(ak.heap.push o).push { cls:=.type "list",dict:=none,data:=.seq ([]:List Value).toArray }=cf;have eu:=Lb (o:=o) hE C I R aw qk;have rB:bz G ak.heap:=(aw.tabs I.tabs).1;have aI:=R.go aw I.tabs;generalize vf:nN sc (dr ab sc.names []) cf.objs.size ab=gZ at eu;have oE:St 0 (ft cf sc):=W.frame _ _ _ cM λb Y o e=>eu.ext _ _ e;have dY:∀b,eH gZ (T.comp sc) (ak.heap.push o).objs.size b->s.heap.get? b=none:=λb hb=>AE (YY eu.new.1 (ZI (eu.own b hb)));have Fa:∀R:Result->Y1->Prop,(∀am m' s',LS G s φ gZ (T.comp sc) σ β (ak.heap.push o).objs.size am (ρ++Ze (ey sc).length none) vs (fN P ak.heap.objs.size (ft cf sc).objs.size) m' s'->R (.ok .next) s') ->
  jeL (Y9 af wd) A (.compLoop (.ListComp aD (⟨.Name x px,iter,ifs,0⟩::gs) sc pos) 0 (.ref ak.heap.objs.size) (.ref (ak.heap.push o).objs.size) gZ) R { ak with heap:=ft cf sc }:=λRR Pc =>
  Cx (Φ:=Φ) (g:=λρ=>g8 Φ σ ρ (iX (T.comp sc) (ao (T.comp sc) aD) gs)) eu.hE C.tb qu.1 qu.2 fv (by rfl) (λg' mZ=>has g' (ZB mZ)) dY I
   (λv c hc b hb=>(hg.2.2 c hc gZ (T.comp sc) _ _ eu.hE hb).2 b rfl) (λv res iO=>U6 hA eu.hE C.tb hG has (λy c hc=>(eu.cel y c hc).1) dY I ol jI _ 1 _ _ res rfl iO) W (λb hb=>(k9 b hb).imp id λq=>⟨λq'=>jet q.2 (eu.own b q'),q.1.elim (λp=>(aI.psafe b p).2) λp=>(aI.bsafe b (.inl p)).2⟩) (aI.psafe _ (aI.fresh _ (Y2 _))).2
   eu.pI eu.nb (λq=>Zo _ (eu.own _ q)) (AE eu.new.1) (λy c hc=>(eu.cel y c hc).2)
   us.length 0 ay [] vs _ _ rfl (jaU _) eu.ls oE iO (by simpa using aO) (λj y hy=>(jg j y hy).elim λv e=>aN v e.1 (e.2.mono (λY Y e=>e) (λa o p e=>⟨eu.ext _ _ (Za _ e),p,λq=>ZT.mpr q.1 (Zr e)⟩) (Zg _))) λam m' s' L' Y Y Y=>Pc am m' s' (by simpa using L')
 have EW:∀am m' s',LS G s φ gZ (T.comp sc) σ β (ak.heap.push o).objs.size am (ρ++Ze (ey sc).length none) vs (fN P ak.heap.objs.size (ft cf sc).objs.size) m' s'->compPost (Y9 af wd) A E mi Q (.ref (ak.heap.push o).objs.size) cf.objs.size (.ok .next) s':=λam m' s' L' =>
  hQ am s' _ _ m' _ ⟨L'.done,YY eu.new.1 (ZI eu.new.2.2),YY eu.new.1 (ZI eu.new.2.1),eu.ne,eu.loc▸L'.er.ns,λa p=>p.1,eu.loc▸L'.fr.ploc,L'.dP,L'.acc⟩
 have:=Cv (ab:=gZ) (gens:=⟨.Name x px,iter,ifs,0⟩::gs) (d:=0) rfl (Fa _ EW) (W.self 0 _ _ _ oE (Fa _ EW));rw[<-vf]at this;subst qk;exact this
theorem xK {A:ZS}{T:Tb}{s:Y1}{aD:Expr}{gens:List jae}{sc:jax}{pos nr:Pos}{vs:List AV}{mi:Option (Value->Sem Unit)}{Q:Value->Y1->Prop}{E:Value->Y1->Prop}(hA:A.handled=none)(hE:bQ ab T)(hG:dD G)(C:kF T sc)(has:∀g∈gens,g.is_async=0)(ol:bj G A Φ σ aD)(jI:∀g∈gens,bj G A Φ σ g.iter/\(∀f p as pos,g.iter=.Call (.Name f p) as [] pos->∀a∈as,bj G A Φ σ a)/\∀c∈g.ifs,bj G A Φ σ c)(e:fF Φ σ ρ (ey sc).length (iY T (T.comp sc) (ao (T.comp sc) aD) gens)=some vs)(I:bg G s.heap)(R:ER G φ ab T ρ σ β P m s)(hQ:∀am s' D C m' P',CD G s φ β P vs am s' D C m' P'->compPost (Y9 af wd) A E mi Q (.ref D) C (.ok .next) s'):
 firstAsync gens=false/\Y7 (Y9 af wd) A (jfz (.ListComp aD gens sc pos) sc ab nr (newList []) false (jhI gens ab) mi) Q E s :=
 MO (Q:=λgens=>(∀g∈gens,g.is_async=0)->(∀g∈gens,bj G A Φ σ g.iter/\(∀f p as pos,g.iter=.Call (.Name f p) as [] pos->∀a∈as,bj G A Φ σ a)/\∀c∈g.ifs,bj G A Φ σ c)->firstAsync gens=false/\Y7 (Y9 af wd) A (jfz (.ListComp aD gens sc pos) sc ab nr (newList []) false (jhI gens ab) mi) Q E s) e
  (λx px iter ifs gs i jM e has jI=>⟨rfl,MN e λus cx fv Y iO aO=>La hA hE hG C has ol jI jM cx fv iO aO I R hQ⟩) has jI
end
section
variable {A:ZS}{ab:Env}{T:Tb}{ρ:aB}{σ:aA}{G:GD}{s:Y1}{φ am:Gh}{β aH:List Zb}{P P':Zb->Prop}{m:Str->Option Value}{tk:Zb}{h h':jag}
variable {D:Zb}{Φ:cX}
theorem bz.noHas_ns (x:bz G h)(n:h.Ns a m):¬bM G h a:=by
 refine j' n λo es ep ho hd Y=>?_;exact x.noHas ho λvs q=>by rw[hd]at q;cases q
theorem Mt (hA:A.handled=none)(hE:bQ ab T)(hG:dD G)(C:kF T sc)(has:∀g∈gens,g.is_async=0)(ol:bj G A Φ σ aD)(jI:∀g∈gens,bj G A Φ σ g.iter/\(∀f p as pos,g.iter=.Call (.Name f p) as [] pos->∀a∈as,bj G A Φ σ a)/\∀c∈g.ifs,bj G A Φ σ c)(e:fF Φ σ ρ (ey sc).length (iY T (T.comp sc) (ao (T.comp sc) aD) gens)=some vs):ES G A ab T ρ σ (Z7 (.ListComp aD gens sc pos) ab) (.lst vs):=λs φ β P m I R=>by
 obtain⟨h1,h2⟩:=xK (mi:=none) (pos:=pos) (nr:=jfV gens pos) (Q:=lG G φ s β P (.lst vs)) (E:=ax) hA hE hG C has ol jI e I R λam s' D C m' P' cd=>⟨m',cd.ns,λh' hs=>by
  have TB:=(cd.go.tabs I.tabs).1;refine au cd.items λxs a1 a2=>?_;exact⟨am,cd.go.then_but I.tabs cd.cNew (λb o hb e=>hs.extBut b o hb e) (TB.noHas_ns cd.ns) (TB.notX_ns cd.ns) (ZG hs.1.symm) (Y2 _),.lst (a1.at λo e=>hs.extBut _ o (jev cd.cd) e) (R.fresh _ cd.dNew)
   (a2.mono (λY Y e=>e) (λa o p e=>⟨hs.extBut a o (λq=>cd.pC (q▸p)) e,cd.sub a p⟩) (Zg _))⟩⟩
 rewrite [eval_ListComp];refine aa h1 ?_;exact h2
structure fT (G:GD) (A:ZS) (Φ:cX):Prop where
 hA:A.handled=none
 hu:A.units<jgY
 hG:dD G
 hN:gE G
 hΦ:uf G A Φ
theorem xf {a:Ex}{es:bV}{b:Bool}{Q:Prop}(e:cS Φ σ ρ (.cons a es)=some b)(h1:ev Φ σ ρ a=some (.bool true)->cS Φ σ ρ es=some b->Q)(h2:ev Φ σ ρ a=some (.bool false)->false=b->Q):Q:=by
 rw[kS]at e
 induction ha:ev Φ σ ρ a using ae with
 |none=>rw[ha]at e;exact ai e
 |some v =>
  rw[ha]at e
  induction v using AV.casesOn with
  |bool c =>
   induction c using ZC with
   |true=>exact h1 ha e
   |false=>exact h2 ha (Y0 e)
  |_=>exact ai e
theorem AI {a:Ex}{es:bV}{b:Bool}{Q:Prop}(e:kT Φ σ ρ (.cons a es)=some b)(h1:ev Φ σ ρ a=some (.bool false)->kT Φ σ ρ es=some b->Q)(h2:ev Φ σ ρ a=some (.bool true)->true=b->Q):Q:=by
 rw[pR]at e
 induction ha:ev Φ σ ρ a using ae with
 |none=>rw[ha]at e;exact ai e
 |some v =>
  rw[ha]at e
  induction v using AV.casesOn with
  |bool c =>
   induction c using ZC with
   |false=>exact h1 ha e
   |true=>exact h2 ha (Y0 e)
  |_=>exact ai e
theorem Jh {es:List Expr}{b:Bool}{pos:Pos}{whole:Sem Value}(hE:bQ ab T):(∀e∈es,bj G A Φ σ e)->cS Φ σ ρ (bf T es)=some b->TS G A ab T ρ σ (jbm (.BoolOp .And es pos) ab whole) b:=by
 induction es with
 |nil=>exact λY e=>aG (show some true=some b from e) W4
 |cons a es ih =>
  exact λh e=>xf e (λhc e=>Ih ((h a Zc ab T ρ _ hE hc).2 _ rfl) (λq=>nomatch q) λY=>ih (λe he=>h e (Zt _ he)) e)
   λhc e=>e▸Ih ((h a Zc ab T ρ _ hE hc).2 _ rfl) (λY=>rfl) λq=>nomatch q
theorem T9 {es:List Expr}{b:Bool}{pos:Pos}{whole:Sem Value}(hE:bQ ab T):(∀e∈es,bj G A Φ σ e)->kT Φ σ ρ (bf T es)=some b->TS G A ab T ρ σ (jbm (.BoolOp .Or es pos) ab whole) b:=by
 induction es with
 |nil=>exact λY e=>aG (show some false=some b from e) W7
 |cons a es ih =>
  exact λh e=>AI e (λhc e=>Ij ((h a Zc ab T ρ _ hE hc).2 _ rfl) (λq=>nomatch q) λY=>ih (λe he=>h e (Zt _ he)) e)
   λhc e=>e▸Ij ((h a Zc ab T ρ _ hE hc).2 _ rfl) (λY=>rfl) λq=>nomatch q
theorem Jf {es:List Expr}:∀{a:Expr}{b:Bool}{pos:Pos},bQ ab T->(∀e∈a::es,bj G A Φ σ e)->cS Φ σ ρ (bf T (a::es))=some b->ES G A ab T ρ σ (Z7 (.BoolOp .And (a::es) pos) ab) (.bool b):=by
 induction es with
 |nil=>exact λhE h e=>xf e (λhc e=>aG (Q:=λb=>ES G A ab T ρ σ _ (.bool b)) (show some true=some _ from e) (h _ Zc ab T ρ _ hE hc).1) λhc e=>e▸(h _ Zc ab T ρ _ hE hc).1
 |cons a' es ih =>
  exact λhE h e=>xf e (λhc e=>C0 (h _ Zc ab T ρ _ hE hc).1 (λq=>nomatch q) λY=>ih hE (λe he=>h e (Zt _ he)) e)
   λhc e=>e▸C0 (h _ Zc ab T ρ _ hE hc).1 (λY=>rfl) λq=>nomatch q
theorem T8 {es:List Expr}:∀{a:Expr}{b:Bool}{pos:Pos},bQ ab T->(∀e∈a::es,bj G A Φ σ e)->kT Φ σ ρ (bf T (a::es))=some b->ES G A ab T ρ σ (Z7 (.BoolOp .Or (a::es) pos) ab) (.bool b):=by
 induction es with
 |nil=>exact λhE h e=>AI e (λhc e=>aG (Q:=λb=>ES G A ab T ρ σ _ (.bool b)) (show some false=some _ from e) (h _ Zc ab T ρ _ hE hc).1) λhc e=>e▸(h _ Zc ab T ρ _ hE hc).1
 |cons a' es ih =>
  exact λhE h e=>AI e (λhc e=>C4 (h _ Zc ab T ρ _ hE hc).1 (λq=>nomatch q) λY=>ih hE (λe he=>h e (Zt _ he)) e)
   λhc e=>e▸C4 (h _ Zc ab T ρ _ hE hc).1 (λY=>rfl) λq=>nomatch q
theorem Mr (hE:bQ ab T)(hx:T.isGlobal x=true)(hs:(e::az).all f9=true)(ha:∀pos,gS G A ab T ρ σ (jce (jcg pos (jao (e::az) ab))) vs)(hc:ue G A σ x vs r):ES G A ab T ρ σ (Z7 (.Call (.Name x p) (e::az) [] pos) ab) r:=by
 cases hc with
 |builtin id hl h=>exact Mo hE hx hl hs (ha _) h
 |type id hl h=>exact Mq hE hx hl hs (ha _) h
 |def_ k fd hk h=>exact Mp hE hx hk hs (ha _) h
theorem Hl (hE:bQ ab T){lo:Option Expr}{l:Option Int}(h:∀e,lo=some e->bj G A Φ σ e)(jH:fG Φ σ ρ (mh T lo)=some l):PS G A ab T ρ σ (jgX lo ab) l:=by
 induction lo using ae with
 |none=>rw[WM,C9]at jH;exact aG jH UC
 |some e =>
  rw[WN,pQ]at jH
  induction hi:ev Φ σ ρ (ao T e)using ae with
  |none=>rw[hi]at jH;exact ai jH
  |some v =>
   rw[hi]at jH
   induction v using AV.casesOn with
   |int i=>exact aG jH (UD (h e rfl ab T ρ _ hE hi).1)
   |_=>exact ai jH
abbrev EV (Φ:cX)(σ:aA)(ρ:aB)(x:Ex)(v:AV):Prop:=ev Φ σ ρ x=some v
theorem RZ (h:EV Φ σ ρ (.var i) v):ρ[i]?=some (some v):=by
 rw[EV,Du]at h
 induction hx:ρ[i]? using ae with
 |none=>rw[hx]at h;exact ai h
 |some u=>rw[hx]at h;exact congrArg some h
theorem RO {op:Operator}{a b:Ex}{v:AV}{Q:Prop}(h:EV Φ σ ρ (.bin op a b) v)(k:∀x y,EV Φ σ ρ a x->EV Φ σ ρ b y->dE σ op x y=some v->Q):Q:=by
 rw[EV,Dv]at h
 induction hx:ev Φ σ ρ a using ae with
 |none=>rw[hx]at h;exact ai h
 |some x =>
  induction hy:ev Φ σ ρ b using ae with
  |none=>rw[hx,hy]at h;exact ai h
  |some y=>rw[hx,hy]at h;exact k x y hx hy h
theorem RT {a b:Ex}{v:AV}{Q:Prop}(h:EV Φ σ ρ (.idx a b) v)(k:∀x y,EV Φ σ ρ a x->EV Φ σ ρ b y->m9 σ x y=some v->Q):Q:=by
 rw[EV,Dt]at h
 induction hx:ev Φ σ ρ a using ae with
 |none=>rw[hx]at h;exact ai h
 |some x =>
  induction hy:ev Φ σ ρ b using ae with
  |none=>rw[hx,hy]at h;exact ai h
  |some y=>rw[hx,hy]at h;exact k x y hx hy h
theorem RP {op:CmpOp}{a b:Ex}{v:AV}{Q:Prop}(h:EV Φ σ ρ (.cmp op a b) v)(k:∀x y r,EV Φ σ ρ a x->EV Φ σ ρ b y->j3 σ op x y=some r->v=.bool r->Q):Q:=by
 rw[EV,Dw]at h
 induction hx:ev Φ σ ρ a using ae with
 |none=>rw[hx]at h;exact ai h
 |some x =>
  induction hy:ev Φ σ ρ b using ae with
  |none=>rw[hx,hy]at h;exact ai h
  |some y =>
   rw[hx,hy]at h;refine au (Zp.mp h) λr hr e=>?_;exact k x y r hx hy hr e.symm
theorem RY {op:UnaryOp}{a:Ex}{v:AV}{Q:Prop}(h:EV Φ σ ρ (.un op a) v)(k:∀x,EV Φ σ ρ a x->qV op x=some v->Q):Q:=by
 rw[EV,yk]at h
 induction hx:ev Φ σ ρ a using ae with
 |none=>rw[hx]at h;exact ai h
 |some x=>rw[hx]at h;exact k x hx h
theorem RU {c a b:Ex}{v:AV}{Q:Prop}(h:EV Φ σ ρ (.ite c a b) v)(h1:EV Φ σ ρ c (.bool true)->EV Φ σ ρ a v->Q)(h2:EV Φ σ ρ c (.bool false)->EV Φ σ ρ b v->Q):Q:=by
 rw[EV,ym]at h
 induction hx:ev Φ σ ρ c using ae with
 |none=>rw[hx]at h;exact ai h
 |some x =>
  rw[hx]at h
  induction x using AV.casesOn with
  |bool r =>
   induction r using ZC with
   |true=>exact h1 hx h
   |false=>exact h2 hx h
  |_=>exact ai h
theorem RV {es:bV}{v:AV}{Q:Prop}(h:EV Φ σ ρ (.list es) v)(k:∀vs,bX Φ σ ρ es=some vs->vs.length<=100000->.lst vs=v->Q):Q:=by
 rw[EV,Dr]at h
 induction hx:bX Φ σ ρ es using ae with
 |none=>rw[hx]at h;exact ai h
 |some x=>rw[hx]at h;exact bR h λhl e=>k x hx hl (Y0 e)
theorem RX {es:bV}{v:AV}{Q:Prop}(h:EV Φ σ ρ (.tup es) v)(k:∀vs,bX Φ σ ρ es=some vs->vs.length<=100000->.tup vs=v->Q):Q:=by
 rw[EV,Ds]at h
 induction hx:bX Φ σ ρ es using ae with
 |none=>rw[hx]at h;exact ai h
 |some x=>rw[hx]at h;exact bR h λhl e=>k x hx hl (Y0 e)
theorem RQ {a b:Ex}{v:AV}{Q:Prop}(h:EV Φ σ ρ (.dict (.cons a .nil) (.cons b .nil)) v)(k:∀i x,EV Φ σ ρ a (.int i)->EV Φ σ ρ b x->x.scalar=true->.dct [(i,x)]=v->Q):Q:=by
 rw[EV,Nb]at h
 induction hx:ev Φ σ ρ a using ae with
 |none=>rw[hx]at h;exact ai h
 |some x =>
  rw[hx]at h
  induction x using AV.casesOn with
  |int i =>
   induction hy:ev Φ σ ρ b using ae with
   |none=>rw[hy]at h;exact ai h
   |some y=>rw[hy]at h;exact bR h λhs e=>k i y hx hy hs (Y0 e)
  |_=>exact ai h
theorem RW {a:Ex}{lo hi:ui}{v:AV}{Q:Prop}(h:EV Φ σ ρ (.slice a lo hi) v)(k:∀x l u,EV Φ σ ρ a x->fG Φ σ ρ lo=some l->fG Φ σ ρ hi=some u->qQ σ x l u=some v->Q):Q:=by
 rw[EV,pX]at h
 induction hx:ev Φ σ ρ a using ae with
 |none=>rw[hx]at h;exact ai h
 |some x =>
  induction hl:fG Φ σ ρ lo using ae with
  |none=>rw[hx,hl]at h;exact ai h
  |some l =>
   induction hu:fG Φ σ ρ hi using ae with
   |none=>rw[hx,hl,hu]at h;exact ai h
   |some u=>rw[hx,hl,hu]at h;exact k x l u hx hl hu h
theorem oJ {f:Fn}{es:bV}{v:AV}{Q:Prop}(h:EV Φ σ ρ (.call f es) v)(k:∀vs,bX Φ σ ρ es=some vs->nR Φ σ f vs=some v->Q):Q:=by
 rw[EV,kV]at h
 induction hx:bX Φ σ ρ es using ae with
 |none=>rw[hx]at h;exact ai h
 |some x=>rw[hx]at h;exact k x hx h
theorem Gj {e:Ex}{es:bV}{vs:List AV}{Q:Prop}(h:bX Φ σ ρ (.cons e es)=some vs)(k:∀u us,EV Φ σ ρ e u->bX Φ σ ρ es=some us->u::us=vs->Q):Q:=by
 rw[mM]at h
 induction hu:ev Φ σ ρ e using ae with
 |none=>rw[hu]at h;exact ai h
 |some u =>
  induction cx:bX Φ σ ρ es using ae with
  |none=>rw[hu,cx]at h;exact ai h
  |some us=>rw[hu,cx]at h;exact k u us hu cx (Y0 h)
theorem Af {e:Ex}{vs:List AV}{Q:Prop}(h:bX Φ σ ρ (.cons e .nil)=some vs)(k:∀u,EV Φ σ ρ e u->[u]=vs->Q):Q :=
 Gj h λu us hu cx e=>k u hu (by rw[show us=[]from(Y0 (show some []=some us from cx)).symm]at e;exact e)
def fg (G:GD)(A:ZS)(ab:Env)(T:Tb)(ρ:aB)(σ:aA)(e:Expr)(v:AV):Prop:=ES G A ab T ρ σ (Z7 e ab) v/\∀b,v=.bool b->TS G A ab T ρ σ (jbm e ab (Z7 e ab)) b
theorem gG (h:ES G A ab T ρ σ (Z7 e ab) v)(he:jbm e ab (Z7 e ab)=(do let v <-Z7 e ab;jfi e.pos;jfl [v] (truthy v))):fg G A ab T ρ σ e v :=
 ⟨h,λb hb=>Ik he (hb▸h)⟩
theorem Oa (h:gv.lookup x=some .values):False :=
 bP (Y3.mp (show gv.all (λe=>!Ab e.2)=true by decide +kernel) _ (mem_of_lookup h))
theorem Tf (h:iU.lookup x=some .values):False :=
 bP (Y3.mp (show iU.all (λe=>!Ab e.2)=true by decide +kernel) _ (mem_of_lookup h))
theorem W3 (h:ao T a=.call .values es):∃o ap p,a=.Call (.Attribute o ("values" : Str) ap) [] [] p/\fe o 0 ap p=true/\es=.cons (ao T o) .nil:=by
 rcases wE h with⟨x,p,a,bs,pos,e1,hg,hl,e2⟩|⟨m,hl⟩|h|⟨_,o,m,ap,p,e1,hm,ho,e2⟩
 ·exact(Oa hl).elim
 ·exact(Tf hl).elim
 ·exact bP h
 ·exact zX o ap p (hm▸e1) ho e2
theorem So {vs:List AV}{v:AV}{Q:Prop}(h:nR Φ σ .listVals vs=some v)(k:∀es,vs=[.dct es]->es.length<=100000->.lst (es.map (·.2))=v->Q):Q:=by
 induction vs using YZ with
 |nil=>exact ai h
 |cons x vs =>
  induction x using AV.casesOn with
  |dct es =>
   induction vs using YZ with
   |nil=>exact bR (show(if es.length<=100000 then some (AV.lst (es.map (·.2)))else none)=some v from h) λhl e=>k es rfl hl (Y0 e)
   |cons=>exact ai h
  |_=>exact ai h
section
variable {v:AV}{pos:Pos}(hE:bQ ab T)
include hE
theorem TK (hO:fT G A Φ){a b:Expr}{op:Operator}(ha:bj G A Φ σ a)(hb:bj G A Φ σ b)(h:EV Φ σ ρ (.bin op (ao T a) (ao T b)) v):fg G A ab T ρ σ (.BinOp a op b pos) v :=
 RO h λx y hx hy h=>gG (Mn hO.hA (ha ab T ρ x hE hx).1 (hb ab T ρ y hE hy).1 h) rfl
theorem T2 (ha:bj G A Φ σ a)(h:EV Φ σ ρ (.un op (ao T a)) v):fg G A ab T ρ σ (.UnaryOp op a pos) v :=
 RY h λx hx h=>by
  have ha:=ha ab T ρ x hE hx;have hs:=ME (pos:=pos) ha.1 h;refine⟨hs,λb hb=>?_⟩
  induction op using jfA with
  |Not =>
   induction x using AV.casesOn with
   |bool c =>
    have e:v=.bool (!c):=(Y0 h).symm;rw[e]at hb;injection hb with hb
    exact hb▸W6 (ha.2 c rfl)
   |_=>exact ai h
  |_=>exact Ik rfl (hb▸hs)
theorem TU (hc:bj G A Φ σ c)(ha:bj G A Φ σ a)(hb:bj G A Φ σ b)(h:EV Φ σ ρ (.ite (ao T c) (ao T a) (ao T b)) v):fg G A ab T ρ σ (.IfExp c a b pos) v :=
 RU h (λh1 h=>have gN:=(hc ab T ρ _ hE h1).2 true rfl;have ha:=ha ab T ρ _ hE h;⟨C2 gN (λY=>ha.1) (λq=>nomatch q),λr hr=>Ii gN (λY=>ha.2 r hr) (λq=>nomatch q)⟩)
  λh1 h=>have gN:=(hc ab T ρ _ hE h1).2 false rfl;have hb:=hb ab T ρ _ hE h;⟨C2 gN (λq=>nomatch q) (λY=>hb.1),λr hr=>Ii gN (λq=>nomatch q) (λY=>hb.2 r hr)⟩
theorem TL (hO:fT G A Φ)(hm:jeo op b=false)(ha:bj G A Φ σ a)(hb:bj G A Φ σ b)(h:EV Φ σ ρ (.cmp op (ao T a) (ao T b)) v):fg G A ab T ρ σ (.Compare a [op] [b] pos) v :=
 RP h λx y r hx hy hr e=>by
  refine aa e ?_;have ha:=(ha ab T ρ x hE hx).1;have hb:=(hb ab T ρ y hE hy).1;refine⟨Ms hO.hu hm ha hb hr,λb gM=>?_⟩;injection gM with gM
  exact gM▸W5 hO.hu hm ha hb hr
theorem TJ (hs:∀e∈a::es,bj G A Φ σ e)(h:EV Φ σ ρ (.and (bf T (a::es))) v):fg G A ab T ρ σ (.BoolOp .And (a::es) pos) v:=by
 rw[EV,uU]at h;refine au (Zp.mp h) λb hb e=>?_;refine rwj e ?_;refine⟨Jf hE hs hb,λb' gM=>?_⟩;injection gM with gM
 exact gM▸Jh hE hs hb
theorem TZ (hs:∀e∈a::es,bj G A Φ σ e)(h:EV Φ σ ρ (.or (bf T (a::es))) v):fg G A ab T ρ σ (.BoolOp .Or (a::es) pos) v:=by
 rw[EV,yl]at h;refine au (Zp.mp h) λb hb e=>?_;refine rwj e ?_;refine⟨T8 hE hs hb,λb' gM=>?_⟩;injection gM with gM
 exact gM▸T9 hE hs hb
theorem TW (hs:∀e∈es,bj G A Φ σ e)(h:EV Φ σ ρ (.list (bf T es)) v):fg G A ab T ρ σ (.List es pos) v :=
 RV h λvs b0 hl e=>e▸gG (My hl (j7 hE hs b0).2) rfl
theorem T1 (hs:∀e∈es,bj G A Φ σ e)(h:EV Φ σ ρ (.tup (bf T es)) v):fg G A ab T ρ σ (.Tuple es k pos) v :=
 RX h λvs b0 hl e=>e▸gG (MD hl (j7 hE hs b0).2) rfl
theorem TN (gx:ks.all jgj=true)(hk:∀k,some k∈ks->bj G A Φ σ k)(hs:∀e∈vs,bj G A Φ σ e)(h:EV Φ σ ρ (.dict (tY T ks) (bf T vs)) v):fg G A ab T ρ σ (.Dict ks vs pos) v:=by
 induction ks using YZ with
 |nil=>exact ai h
 |cons k ks =>
  induction k using ae with
  |none=>exact bP gx
  |some k =>
   induction ks using YZ with
   |cons k2 ks=>cases k2<;>exact ai h
   |nil =>
    induction vs using YZ with
    |nil=>exact ai h
    |cons x vs =>
     induction vs using YZ with
     |cons y vs=>exact ai h
     |nil=>exact RQ h λi y hi hy fJ e=>e▸gG (Mv fJ (hk k Zc ab T ρ _ hE hi).1 (hs x Zc ab T ρ _ hE hy).1) rfl
theorem T0 {a:Expr}{lo hi:Option Expr}{p:Pos}(ha:bj G A Φ σ a)(hl:∀e,lo=some e->bj G A Φ σ e)(hu:∀e,hi=some e->bj G A Φ σ e)(h:EV Φ σ ρ (.slice (ao T a) (mh T lo) (mh T hi)) v):fg G A ab T ρ σ (.Subscript a (.Slice lo hi none p) pos) v :=
 RW h λY Y Y hx h1 h2 h=>gG (MC (ha ab T ρ _ hE hx).1 (Hl hE hl h1) (Hl hE hu h2) h) rfl
theorem TO (ha:bj G A Φ σ a)(hb:bj G A Φ σ b)(h:EV Φ σ ρ (.idx (ao T a) (ao T b)) v):fg G A ab T ρ σ (.Subscript a b pos) v :=
 RT h λY Y hx hy h=>gG (Mx (ha ab T ρ _ hE hx).1 (hb ab T ρ _ hE hy).1 h) rfl
theorem T4 (hO:fT G A Φ)(hg:T.isGlobal f=true)(hf:f = "list") (ht:ao T a=.call .values es) (hs:∀o m ap p,a=.Call (.Attribute o m ap) [] [] p->bj G A Φ σ o) (h:EV Φ σ ρ (.call .listVals es) v):fg G A ab T ρ σ (.Call (.Name f p) [a] [] pos) v:=by
 refine j' (W3 ht) λo ap p' e1 ho e2=>?_;rw[e2]at h;refine oJ h λvs b0 h=>Af b0 λu hu e=>So h λes e3 hl e4=>?_;refine rwj e4 ?_;refine aa e1 ?_;refine aa hf ?_;rw[<-e]at e3;injection e3 with e3
 rw[e3]at hu;exact gG (MA hO.hA hE hO.hG (hf▸hg) ho hl (hs o _ ap p' e1 ab T ρ _ hE hu).1) rfl
theorem TX (hO:fT G A Φ)(hg:T.isGlobal f=true)(hf:f = "list") (ht:ao T a=.call .range es) (hs:∀g as p p',a=.Call (.Name g p) as [] p'->∀e∈as,bj G A Φ σ e) (h:EV Φ σ ρ (.call .listRange es) v):fg G A ab T ρ σ (.Call (.Name f p) [a] [] pos) v:=by
 refine ka (Bn ht) λp' b bs p2 e1 hr e2=>?_;rw[e2]at h;refine oJ h λvs b0 h=>?_;refine au (Zp.mp (show(nt vs).map (λis=>AV.lst (is.map .int))=some v from h)) λis eR e=>?_;refine bN (j7 (G:=G) (A:=A) hE (hs _ _ _ _ e1) b0) λh1 h2=>?_;refine rwj e ?_;refine aa e1 ?_;refine aa hf ?_;exact gG (Mz hO.hA hE hO.hG (hf▸hg) hr h1 h2 eR) rfl
theorem TP (hO:fT G A Φ)(hg:T.isGlobal f=true)(hf:f = "isinstance") (ht:T.isGlobal t=true) (eS:t = "bool") (ha:bj G A Φ σ a) (h:EV Φ σ ρ (.call .isBool (.cons (ao T a) .nil)) v):fg G A ab T ρ σ (.Call (.Name f p) [a,.Name t p'] [] pos) v :=
 oJ h λvs b0 h=>Af b0 λu hu e=>by
  rw[<-e]at h;rw[hf,eS];exact gG (C1 hE hO.hG (hf▸hg) (eS▸ht) (.inr (hO.hG.types "bool" (by simp))) (tr hu) (ha ab T ρ _ hE hu).1 λs φ β P x K r=>Km K (show uE [_]=some _ from h) (.cons r .nil)) rfl
theorem TQ (hO:fT G A Φ)(hg:T.isGlobal f=true)(hf:f = "isinstance") (ht:T.isGlobal t=true) (eS:t = "int") (ha:bj G A Φ σ a) (h:EV Φ σ ρ (.call .isInt (.cons (ao T a) .nil)) v):fg G A ab T ρ σ (.Call (.Name f p) [a,.Name t p'] [] pos) v :=
 oJ h λvs b0 h=>Af b0 λu hu e=>by
  rw[<-e]at h;rw[hf,eS];exact gG (C1 hE hO.hG (hf▸hg) (eS▸ht) (.inr (hO.hG.types "int" (by simp))) (tr hu) (ha ab T ρ _ hE hu).1 λs φ β P x K r=>Ko K (show uF [_]=some _ from h) (.cons r .nil)) rfl
theorem T3 (hO:fT G A Φ)(hg:T.isGlobal f=true)(hl:gv.lookup f=some g)(hs:∀e∈a::as,bj G A Φ σ e)(h:EV Φ σ ρ (.call g (bf T (a::as))) v):fg G A ab T ρ σ (.Call (.Name f p) (a::as) [] pos) v :=
 oJ h λvs b0 h=>by
  refine bN (j7 (G:=G) (A:=A) hE hs b0) λh1 h2=>?_;exact gG (Mr hE hg h1 h2 (KC hO.hA hO.hG hO.hN hO.hΦ hl h)) rfl
theorem TY (hO:fT G A Φ){o:Expr}{as:List Expr}{m:Str}{g:Fn}{ap:Pos}(hl:iU.lookup m=some g)(bY:fe o as.length ap pos=true)(ho:bj G A Φ σ o)(hs:∀e∈as,bj G A Φ σ e)(h:EV Φ σ ρ (.call g (.cons (ao T o) (bf T as))) v):fg G A ab T ρ σ (.Call (.Attribute o m ap) as [] pos) v :=
 oJ h λvs b0 h=>Gj b0 λu us hu cx e=>by
  rw[<-e]at h;refine bN (j7 (G:=G) (A:=A) hE hs cx) λh1 h2=>?_;refine bS (Tc (G:=G) (A:=A) hO.hA hl h) λT' id hM hT hb=>?_;refine gG (MB bY hM h1 (ho ab T ρ _ hE hu).1 hT (h2 _) (λq=>?_) hb) rfl;rw[q]at cx;exact(Y0 (show some []=some us from cx)).symm
theorem TM (hO:fT G A Φ)(oi:(sc.kind==.function&&AB sc.names&&gens.all (λg=>g.is_async==0)&&(qf sc).all T.celled&&oR (T.comp sc))=true)(he:bj G A Φ σ aD)(hg:∀g∈gens,bj G A Φ σ g.iter/\(∀f p as pos,g.iter=.Call (.Name f p) as [] pos->∀a∈as,bj G A Φ σ a)/\∀c∈g.ifs,bj G A Φ σ c)(h:EV Φ σ ρ (.comp (ey sc).length (iY T (T.comp sc) (ao (T.comp sc) aD) gens)) v):fg G A ab T ρ σ (.ListComp aD gens sc pos) v:=by
 rw[EV,yj]at h;refine au (Zp.mp h) λus cx e=>?_;refine rwj e ?_;refine cu oi λc c5=>cu c λc c4=>cu c λc c3=>cu c λc1 c2=>gG (Mt hO.hA hE hO.hG ⟨eq_of_beq c1,of_decide_eq_true c2,λx hx=>?_,tT c5⟩ (λg hg=>eq_of_beq (Y3.mp c3 g hg)) he hg cx) rfl;exact Y3.mp c4 x (jdD.mpr ⟨_,hx,rfl⟩)
end
theorem ls {s t n:Nat}(e:s=t)(h:s<n+1):t<=n:=e▸jbH h
theorem q1 (h:1+a<=n):a<n:=by lia
theorem q2 (h:1+a+b<=n):b<n:=by lia
theorem q3 (h:1+a+b+c<=n):c<n:=by lia
theorem zr {t x n:Nat}(h:t+x<=n):t<=n:=YY (ZD t x) h
theorem l1 (h:a<n):a<n+1:=jcS h
theorem Me (hO:fT G A Φ)(n:Nat):∀(e:Expr),sizeOf e<n->bj G A Φ σ e:=by
 induction n with
 |zero=>exact λe he=>absurd he (jex _)
 |succ n ih =>
  have gg:∀{es:List Expr},sizeOf es<n->∀a∈es,bj G A Φ σ a:=λh a ha=>ih a (jai (jbz ha) h);intro e hn ab T ρ v hE;have t:=Ig T e;show EV Φ σ ρ (ao T e) v->fg G A ab T ρ σ e v;generalize ao T e=x at t;cases t with
  |c=>exact λh=>gG (Mu h) rfl
  |var hx=>exact λh=>gG (xZ hE hx (RZ h)) rfl
  |glob hg hl=>exact λh=>gG (aG (show some (sC _)=some v from h) (Mw hE hO.hG hg hl)) rfl
  |bin=>have h:=ls (Expr.BinOp.sizeOf_spec ..) hn;exact TK hE hO (ih _ (q1 (zr (zr (zr h))))) (ih _ (q3 (zr h)))
  |un=>have h:=ls (Expr.UnaryOp.sizeOf_spec ..) hn;exact T2 hE (ih _ (q2 (zr h)))
  |cmp hm=>have h:=ls (Expr.Compare.sizeOf_spec ..) hn;exact TL hE hO hm (ih _ (q1 (zr (zr (zr h))))) (gg (q3 (zr h)) _ Zc)
  |and=>have h:=ls (jfG ..) hn;exact TJ hE (gg (q2 (zr h)))
  |or=>have h:=ls (jfG ..) hn;exact TZ hE (gg (q2 (zr h)))
  |ite=>have h:=ls (Expr.IfExp.sizeOf_spec ..) hn;exact TU hE (ih _ (q1 (zr (zr (zr h))))) (ih _ (q2 (zr (zr h)))) (ih _ (q3 (zr h)))
  |list=>have h:=ls (Expr.List.sizeOf_spec ..) hn;exact TW hE (gg (q1 (zr h)))
  |tup=>have h:=ls (Expr.Tuple.sizeOf_spec ..) hn;exact T1 hE (gg (q1 (zr (zr h))))
  |dict gx =>
   have h:=ls (Expr.Dict.sizeOf_spec ..) hn;exact TN hE gx (λk hk=>ih _ (q1 (ls (jdB k) (l1 (jai (jbz hk) (q1 (zr (zr h)))))))) (gg (q2 (zr h)))
  |slice =>
   have h:=ls (jeW ..) hn;have h':=ls (Expr.Slice.sizeOf_spec ..) (l1 (q2 (zr h)));exact T0 hE (ih _ (q1 (zr (zr h)))) (λe he=>ih _ (q1 (ls (jdB e) (he▸l1 (q1 (zr (zr (zr h')))))))) (λe he=>ih _ (q1 (ls (jdB e) (he▸l1 (q2 (zr (zr h')))))))
  |idx=>have h:=ls (jeW ..) hn;exact TO hE (ih _ (q1 (zr (zr h)))) (ih _ (q2 (zr h)))
  | @vals a _ _ _ _ hg hf ha =>
   have h:=ls (jap ..) hn;have h':=jai (jbz (a:=a) Zc) (q2 (zr (zr h)));exact T4 hE hO hg hf ha λo m ap p e=>ih _ (q1 (zr (zr (ls (jeX o m ap) (l1 (q1 (zr (zr (zr (ls (jap (.Attribute o m ap) [] [] p) (e▸l1 h')))))))))))
  | @lrange a _ _ _ _ hg hf ha =>
   have h:=ls (jap ..) hn;have h':=jai (jbz (a:=a) Zc) (q2 (zr (zr h)));exact TX hE hO hg hf ha λg as p p' e=>gg (q2 (zr (zr (ls (jap (.Name g p) as [] p') (e▸l1 h')))))
  |isBool hg hf ht eS=>have h:=ls (jap ..) hn;exact TP hE hO hg hf ht eS (gg (q2 (zr (zr h))) _ Zc)
  |isInt hg hf ht eS=>have h:=ls (jap ..) hn;exact TQ hE hO hg hf ht eS (gg (q2 (zr (zr h))) _ Zc)
  |user hg hl=>have h:=ls (jap ..) hn;exact T3 hE hO hg hl (gg (q2 (zr (zr h))))
  |meth hl ho =>
   have h:=ls (jap ..) hn;exact TY hE hO hl ho (ih _ (q1 (zr (zr (ls (jeX ..) (l1 (q1 (zr (zr (zr h)))))))))) (gg (q2 (zr (zr h))))
  |values=>exact λh=>oJ h λvs Y h=>ai h
  |comp hc =>
   have h:=ls (Expr.ListComp.sizeOf_spec ..) hn;refine TM hE hO hc (ih _ (q1 (zr (zr (zr h))))) λg hg=>?_;have h:=ls (show sizeOf g=1+sizeOf g.target+sizeOf g.iter+sizeOf g.ifs+sizeOf g.is_async by cases g;exact jiS ..) (l1 (jai (jbz hg) (q2 (zr (zr h)))));exact cz (ih _ (q2 (zr (zr h)))) (λf p as nr he=>gg (q2 (zr (zr (ls (jap (.Name f p) as [] nr) (he▸l1 (q2 (zr (zr h))))))))) (gg (q3 (zr h)))
  |bad=>exact λh=>ai h
theorem cH (hO:fT G A Φ)(n:Nat)(e:Expr)(h:sizeOf e<=n):bj G A Φ σ e:=Me hO (n+1) e (jfv h)
end
section
structure SR (G:GD) (sB:Y1) (aj:Gh) (ah:Zb->Prop) (ab:Env) (T:Tb) (φ:Gh) (ρ:aB) (σ:aA) (β:List Zb) (P:Zb->Prop) (m:Str->Option Value) (s:Y1):Prop where
 base:∃h t,s={ sB with heap:=h,toks:=t }
 old:∀b o,¬G.X b->sB.heap.get? b=some o->s.heap.get? b=some o
 size:sB.heap.objs.size<=s.heap.objs.size
 sub:∀t x,aj t x->φ t x
 er:ER G φ ab T ρ σ β P m s
 fr:mm ab T β P
 newL:sB.heap.objs.size<=ab.locals
 newC:∀x b,T.names.lookup x=some .cell->ab.cells.lookup x=some b->sB.heap.objs.size<=b
 newB:∀b∈β,sB.heap.objs.size<=b
 nodup:β.Nodup
 lenB:β.length=σ.length
 live:∀(j:Nat) (a:Zb) (o:AO),β[j]?=some a->σ[j]?=some o->o≠AO.gone->¬P a
 psub:∀a,P a->ah a
 tabs:bz G s.heap/\∀c,bM G s.heap c->bM G sB.heap c\/sB.heap.objs.size<=c
theorem SR.inv (S:SR G sB aj ah ab T φ ρ σ β P m s)(I:bg G sB.heap):bg G s.heap:=I.keepsX S.old S.tabs.1
theorem SR.go (S:SR G sB aj ah ab T φ ρ σ β P m s)(k:GX G s φ s' am):SR G sB aj ah ab T am ρ σ β P m s' :=
 { S with
   base:=by
    refine fq S.base ?_;rintro h t rfl;refine bB k.grows.keeps λh' t' e Y=>?_;exact jO h' t' e
   old:=λb o hb e=>k.ext b o hb (S.old b o hb e)
   size:=YY S.size k.grows.size
   sub:=λt x e=>k.sub t x (S.sub t x e)
   er:=S.er.go k S.tabs.1
   tabs:=by
    refine bN (k.tabs S.tabs.1) λh1 h2=>?_;exact⟨h1,λc hc=>(h2 c hc).elim (S.tabs.2 c) λq=>.inr (YY S.size q)⟩ }
theorem SR.done (S:SR G sB aj ah ab T φ ρ σ β P m s):GX G sB aj s φ:=by
 have o:=S.old;have z:=S.size;have k:=S.er.tk;have tb:=S.tabs;refine fq S.base ?_;rintro h t rfl;exact⟨⟨⟨h,t,rfl,o⟩,z⟩,S.sub,k,λY=>tb⟩
theorem SR.frozen (S:SR G sB aj ah ab T φ ρ σ β P m s)(hP₀:∀a,sB.heap.objs.size<=a->ah a)(e:aY σ 6 v=some v')(r:VR G.tok φ s.heap β P v x):VR G.tok φ s.heap [] ah v' x :=
 yQ S.er.objs S.psub (λi a Y hb=>hP₀ a (S.newB a (ZB hb))) 6 e r
theorem sA {sB:Y1}(hn:sB.heap.objs.size<=n)(e:sB.heap.get? b=some o):b≠n:=λq=>Zo _ (be (q▸Zr e:n<sB.heap.objs.size) hn)
theorem SR.store {ab:Env}{T:Tb}{ρ:aB}{G:GD}{s:Y1}(hE:bQ ab T)(hT:jx T)(hx:T.own x=some i)(S:SR G sB aj ah ab T φ ρ σ β P m s)(r:VR G.tok φ s.heap β P v xv)(hQ:∀s' m',SR G sB aj ah ab T φ (ρ.set i (some v)) σ β P m' s'->(∀b o,¬(b=ab.locals\/∃y,T.names.lookup y=some .cell/\ab.cells.lookup y=some b)->s.heap.get? b=some o->s'.heap.get? b=some o)->s.heap.objs.size<=s'.heap.objs.size->Q () s'):
 Y7 (Y9 af wd) A (jdr ab x xv) Q E s:=by
 refine bN (tz hx) λvO hk=>?_;refine HQ S.tabs.1 hE hT vO hk S.er S.fr r λh' t m' ir ht hs jj R TT=>?_;refine fq S.base λhh tt e=>?_;have hn:sB.heap.objs.size<=ir:=by
  rcases ht with rfl|⟨h1,h2⟩
  ·exact S.newL
  ·exact S.newC x ir h2 h1
 refine hQ _ m' { S with base:=jO h' t (by refine aa e ?_;rfl),old:=λb o hb e=>hs.extBut b o (sA hn e) (S.old b o hb e),size:=YY S.size (ZG hs.1.symm),er:=R,tabs:=⟨TT.1,λc q=>S.tabs.2 c (TT.2 c q)⟩ }
  (λb o hb e=>hs.extBut b o (λq=>hb ?_) e) (ZG hs.1.symm)
 subst q;rcases ht with rfl|⟨h1,h2⟩
 ·exact .inl rfl
 ·exact .inr ⟨x,h2,h1⟩
theorem SR.alloc {G:GD}{s:Y1}{s':Y1}{os:List AO}{as:List Zb}(S:SR G sB aj ah ab T φ ρ σ β P m s)(k:GX G s φ s' am)(zx:∀a,bM G s'.heap a->s.heap.objs.size<=a->P' a)(jN:∀a,P' a->P a)(oB:∀a,P a->a<s.heap.objs.size->P' a)(sN:∀a,s'.heap.objs.size<=a->P' a)(dY:∀a∈as,s.heap.objs.size<=a/\a<s'.heap.objs.size/\¬P' a)(dh:as.Nodup)(aO:os.length=as.length)(Yr:∀o∈os,o≠AO.gone)(Ql:∀(j:Nat) (o:AO),os[j]?=some o->∃a,as[j]?=some a/\OR G.tok am s'.heap (β++as) P' o a):
 SR G sB aj ah ab T am ρ (σ++os) (β++as) P' m s':=by
 have R:=S.er;have hk:∀a o,P a->s.heap.get? a=some o->s'.heap.get? a=some o/\P' a:=λa o p e=>⟨k.ext a o (R.psafe a p).2 e,oB a p (Zr e)⟩
 have lY:β <+: β++as:=jcD _ _;refine{ S.go k with er:=?_,fr:=?_,newB:=?_,nodup:=?_,lenB:=?_,live:=?_,psub:=λa p=>S.psub a (jN a p) }
 ·refine⟨R.ns.at' λo e=>k.ext _ o (R.bsafe _ (.inr (.inl rfl))).2 e,R.len,λy j u hy hj=>?_,λy hy=>?_,λj o hj ho=>?_,λa ha=>?_,λa p=>R.psafe a (jN a p),λa ha=>?_,λa ha=>?_,k.tk⟩
  ·refine au (R.names y j u hy hj) λv' a b=>?_;refine aN v' (a.mono k.sub hk lY) ?_;rcases b with b|⟨c,b1,b2,o,ho,hd⟩
   ·exact .inl b
   ·exact .inr ⟨c,b1,b2,o,k.ext c o (R.bsafe c (.inr (.inr ⟨y,b1⟩))).2 ho,hd⟩
  ·obtain⟨c,dm,h1,o,ho,hd⟩:=R.celled y hy;exact⟨c,dm,h1,o,k.ext c o (R.bsafe c (.inr (.inr ⟨y,h1⟩))).2 ho,hd⟩
  ·rcases jbT j σ.length with q|q
   ·rw[Zq q]at hj;refine au (R.objs j o hj ho) λa h1 h2=>?_;refine aN a ?_ (h2.mono k.sub hk lY λo e=>k.ext a o (R.bsafe a (.inl (ZB h1))).2 e);rw[Zq (by refine aa S.lenB ?_;exact q)];exact h1
   ·rw[Zd q]at hj;refine au (Ql _ o hj) λa h1 h2=>?_;refine aN a ?_ h2;rw[Zd (by refine aa S.lenB ?_;exact q),S.lenB];exact h1
  ·rcases ha with ha|ha
   ·exact sN a ha
   ·rcases(k.tabs S.tabs.1).2 a ha with q|q
    ·exact oB a (R.freshX a (.inr q)) (bM.lt S.tabs.1 q)
    ·exact zx a ha q
  ·rcases ha with ha|ha
   ·rcases Zz.mp ha with q|q
    ·exact R.bsafe a (.inl q)
    ·exact R.psafe a (R.fresh a (dY a q).1)
   ·exact R.bsafe a (.inr ha)
  ·rcases Zz.mp ha with q|q
   ·exact be (R.blt a q) k.grows.size
   ·exact(dY a q).2.1
 ·refine⟨λp=>S.fr.ploc (jN _ p),λq=>?_,λx hx=>?_⟩
  ·rcases Zz.mp q with q|q
   ·exact S.fr.bloc q
   ·exact Zo _ (be R.ns.lt (dY _ q).1)
  ·refine fk (S.fr.own x hx) λc e1 e2 e3=>?_;refine lh c e1 (λp=>e2 (jN _ p)) (λq=>?_);rcases Zz.mp q with q|q
   ·exact e3 q
   ·refine bB (R.celled x (by unfold Tb.celled;refine aa hx ?_;rfl)) λc' dm e4 e5=>?_;rw[e1]at e4;cases e4;exact Zo _ (be e5.lt (dY _ q).1)
 ·intro b hb;rcases Zz.mp hb with q|q
  ·exact S.newB b q
  ·exact YY S.size (dY b q).1
 ·rw[jbg];exact cz S.nodup dh (λa ha b hb q=>Zo _ (be (q▸R.blt a ha:b<s.heap.objs.size) (dY b hb).1))
 ·refine aa Y8 ?_;refine aa Y8 ?_;refine aa S.lenB ?_;refine aa aO ?_;rfl
 ·intro j a o hb ho hg;rcases jbT j σ.length with q|q
  ·rw[Zq q]at ho;rw[Zq (by refine aa S.lenB ?_;exact q)]at hb;exact λp=>S.live j a o hb ho hg (jN a p)
  ·rw[Zd (by refine aa S.lenB ?_;exact q)]at hb;exact(dY a (ZB hb)).2.2
set_option tactic.hygienic true in
theorem SR.mutate {σ:aA}{G:GD}{s:Y1}(S:SR G sB aj ah ab T φ ρ σ β P m s)(hi:σ[i]?=some o)(hg:o≠AO.gone)(ha:β[i]?=some a)(mZ:o'≠AO.gone)(hs:Z1 a s.heap h')(ht:s.toks<=t)(Qj:∃ob,s.heap.get? a=some ob/\∀v,ob.data≠.cell v)(r:OR G.tok φ h' β P o' a):SR G sB aj ah ab T φ ρ (σ.set i o') β P m { s with heap:=h',toks:=t }:=by
 have oe:=S.live i a o ha hi hg;have R:=S.er;have hz:h'.objs.size=s.heap.objs.size:=hs.1;have hk:∀b o,P b->s.heap.get? b=some o->h'.get? b=some o/\P b:=λb o p e=>⟨hs.extBut b o (λq=>oe (q▸p)) e,p⟩
 have mW:=ZB ha;have EN:∀c v,s.heap.IsCell c v->c≠a:=λc v hc q=>by
  refine au Qj λob h1 h2=>?_;refine au hc λG3 h3 h4=>?_;subst q;rw[h1]at h3;cases h3;exact h2 v h4
 have vC:ab.locals≠a:=λq=>S.fr.bloc (q▸mW);have TT:=S.tabs.1.but (λb o hb e=>hs.extBut b o hb e) (R.bsafe a (.inl mW)).2 λq=>oe (R.freshX a (.inr q));refine fq S.base λhh tt e=>?_;refine{ S with base:=jO h' t (by refine aa e ?_;rfl),old:=λb o hb e=>hs.extBut b o (sA (S.newB a mW) e) (S.old b o hb e),tabs:=⟨TT.1,λc q=>S.tabs.2 c (TT.2 c q)⟩,size:=YY S.size (ZG hz.symm),er:=?_,lenB:=by refine aa jbC ?_;exact S.lenB,live:=?_ }
 ·refine⟨R.ns.at' λo e=>hs.extBut _ o vC e,R.len,λy j u hy hj=>?_,λy hy=>?_,λj o hj ho=>?_,λb hb=>R.freshX b (hb.imp (λhb=>by refine rwj hz ?_;exact hb) (TT.2 b)),R.psafe,R.bsafe,λb hb=>by show b<h'.objs.size;refine aa hz ?_;exact R.blt b hb,R.tk.fn,R.tk.pos,λt' y e=>be (R.tk.lt t' y e) ht,be R.tk.one ht⟩
  ·refine au (R.names y j u hy hj) λv' q b=>?_;refine aN v' (q.mono (λY Y e=>e) hk (Zg _)) ?_;rcases b with b|⟨c,b1,b2,b3⟩
   ·exact .inl b
   ·exact .inr ⟨c,b1,b2,b3.sameBut hs (EN c _ b3)⟩
  ·refine bB (R.celled y hy) λc dm h1 h2=>?_;exact cZ c dm h1 (h2.sameBut hs (EN c _ h2))
  ·rw[jbh]at hj;split at hj
   ·rename_i eZ;subst eZ;split at hj
    ·cases hj;exact aN a ha r
    ·cases hj
   ·rename_i eZ;refine au (R.objs j o hj ho) λb h1 h2=>?_;refine aN b h1 (h2.mono (λY Y e=>e) hk (Zg _) λo e=>hs.extBut b o (λq=>eZ ?_) e);subst q;exact(jib (Zw.mp ha).1 S.nodup).mp (ha.trans h1.symm)
 ·intro j b u hb hu vp;rw[jbh]at hu;split at hu
  ·rename_i eZ;subst eZ;rw[ha]at hb;cases hb;exact oe
  ·exact S.live j b u hb hu vp
set_option tactic.hygienic true in
theorem SR.settle (S:SR G sB aj ah ab T φ ρ σ β P m s)(hP₀:∀a,sB.heap.objs.size<=a->ah a)(hi:(σ[i]?).isSome=true)(ha:β[i]?=some a):
 SR G sB aj ah ab T φ ρ (σ.set i .gone) β (λb=>P b\/b=a) m s:=by
 have mW:=ZB ha;have R:=S.er;have R':ER G φ ab T ρ σ β (λb=>P b\/b=a) m s:=R.weak (λY p=>.inl p) (λb p=>p.elim (R.psafe b) λq=>q▸R.bsafe a (.inl mW));refine{ S with er:={ R' with objs:=λj o hj ho=>?_ },fr:=⟨λp=>p.elim S.fr.ploc λq=>S.fr.bloc (q▸mW),S.fr.bloc,λx hx=>?_⟩,lenB:=by refine aa jbC ?_;exact S.lenB,live:=?_,psub:=λb p=>p.elim (S.psub b) λq=>q▸hP₀ a (S.newB a mW) }
 ·rw[jbh]at hj;split at hj
  ·split at hj
   ·cases hj;exact absurd rfl ho
   ·cases hj
  ·exact R'.objs j o hj ho
 ·refine fk (S.fr.own x hx) λc e1 e2 e3=>?_;exact lh c e1 (λp=>p.elim e2 λq=>e3 (q▸mW)) e3
 ·intro j b u hb hu vp;rw[jbh]at hu;split at hu
  ·split at hu
   ·cases hu;exact absurd rfl vp
   ·cases hu
  ·rename_i eZ;rintro(p|rfl)
   ·exact S.live j b u hb hu vp p
   ·exact eZ ((jib (Zw.mp ha).1 S.nodup).mp (ha.trans hb.symm))
end
section
theorem Gw:typeLookup (.type "list") (dunderI "add")=pure (some (.builtin "list.__iadd__")):=jgx.lookup
theorem HC:isSeqSlot (some (.builtin "list.__iadd__"))=true:=by decide +kernel
theorem Tv (h:a+b<=100000):¬((c&&jfq (a+b))=true):=by
 rw[Zs];rintro⟨_,q⟩;have:a+b>jcK:=of_decide_eq_true q;exact ZT.mpr (d0 h) this
theorem GG (Gi:Array Value)(n:Nat)(f:Array Value->Array Value):
 ∃n',jcG f { cls:=.type "list",dict:=none,data:=.seq Gi n,slots:=#[] }={ cls:=.type "list",dict:=none,data:=.seq (f Gi) n',slots:=#[] }:=⟨_,rfl⟩
theorem Ri {s:Y1}{vs ws:List Value}(hl:s.heap.PlainList l vs.toArray)(hb:s.heap.PlainList b ws.toArray)(bd:vs.length+ws.length<=100000)(h:∀h',h'.PlainList l (vs++ws).toArray->Z1 l s.heap h'->Q (.ref l) { s with heap:=h' }):
 Y7 (Y9 af wd) A (jdV .Add (.ref l) (.ref b)) Q E s:=by
 refine aW (id hl) λn ho=>?_;refine aW (id hb) λn2 jL=>?_;have ha:s.TypeIs (.ref l) "list" := ⟨_,ho,rfl⟩
 have gM:s.TypeIs (.ref b) "list" := ⟨_,jL,rfl⟩
 unfold jdV;refine jaJ ?_;have PI:fillsInplaceSlot (.type "list") "add" (jik==.Add)=pure false:=by
  unfold fillsInplaceSlot;show(typeLookup (.type "list") (dunderI "add") >>= λfi=>pure (fi.isSome&&!isSeqSlot fi))=pure false;refine aa Gw ?_;refine aa (pure_bind _ _) ?_;refine aa HC ?_;rfl
 have QE:seqSlot? (.type "list") (dunderI "add")=pure (some (.builtin "list.__iadd__")):=by
  unfold seqSlot?;refine aa Gw ?_;refine aa (pure_bind _ _) ?_;refine aa HC ?_;rfl
 refine Y6 (wpAny_typeOf ha (Y6 (jit PI ?_)));show Y7 _ A (if false=true then _ else _) Q E s;refine aa (if_neg ZY) ?_;refine Y6 (PySem.wpAny_binaryOp1_none (nm := "add") ha gM noFill_list_add ?_);refine Y6 (jit QE ?_);refine Y6 (jeK ?_);refine(jds jgx ha PySem.F.entry_list_iadd (PySem.F.args_list_iadd_2 _ _) (AutoSeq1.list___iadd___list_list_0 l vs.toArray n b ws.toArray n2 ?_ ?_ ?_) ⟨ho,jL,?_⟩)
 ·simpa using Tv (c:=!vs.isEmpty) bd
 ·exact d0 (by simp;exact Bx bd)
 ·have:=d0 bd;simp;exact jcz this
 ·have hs:Z1 l s.heap (s.heap.update l (jcG λx=>x++ws.toArray)):=jcd ..;refine h _ ?_ hs;obtain⟨n',ji⟩:∃n',jcG (λx=>x++ws.toArray) { cls:=jfZ "list",data:=jhp vs.toArray n }={ cls:=jfZ "list",data:=jhp (vs++ws).toArray n' }:=by
   refine aW (GG vs.toArray n (λx=>x++ws.toArray)) λn' h1=>?_;exact⟨n',by refine aa h1 ?_;simp⟩
  exact⟨n',ji▸jcc _ ho (by refine aa ji ?_;rfl)⟩
theorem Ss {s:Y1}{vs:List Value}(hl:s.heap.PlainList l vs.toArray)(bd:vs.length<=100000)(h:∀h',h'.PlainList l vs.reverse.toArray->Z1 l s.heap h'->Q .none { s with heap:=h' }):Y7 (Y9 af wd) A (call (.builtin "list.reverse") [.ref l]) Q E s:=by
 refine aW (id hl) λn ho=>?_;refine jds jfM ⟨_,ho,rfl⟩ PySem.F.entry_list_reverse (PySem.F.args_list_reverse_1 _) (AutoSeq1.list_reverse_list_0 l vs.toArray n (d0 (by simpa using bd))) ⟨ho,?_⟩;have hs:Z1 l s.heap (s.heap.update l (jcG λx=>x.reverse)):=jcd ..;refine h _ ?_ hs;obtain⟨n',ji⟩:∃n',jcG (λx=>x.reverse) { cls:=jfZ "list",data:=jhp vs.toArray n }={ cls:=jfZ "list",data:=jhp vs.reverse.toArray n' }:=by
  refine aW (GG vs.toArray n (λx=>x.reverse)) λn' h1=>?_;exact⟨n',by refine aa h1 ?_;simp⟩
 exact⟨n',ji▸jcc _ ho (by refine aa ji ?_;rfl)⟩
theorem VG (hA:A.handled=none)(hl:s.heap.IsList l xs.toArray)(hF:F l)(r:ar tk φ s.heap β P vs xs)(hQ:∀it s',jY A tk φ β P F s vs.reverse it s'->Y7 (Y9 af wd) A (jdH it) (λtd cO=>td=it/\cO=s') ax s'->Q it s'):
 Y7 (Y9 af wd) A (call (.type "reversed") [.ref l]) Q E s:=by
 have aZ:l<s.heap.objs.size:=by refine au hl λY e Y=>?_;exact Zr e
 refine call_reversed_list hl ?_;have Fz:({ s with heap:=s.heap.push (revObj l ((xs.toArray.size:Int)-1)) }:Y1).heap.IsRevIter s.heap.objs.size l ((xs.toArray.size:Int)-1):=⟨_,ZW _ rfl,rfl,rfl⟩
 have W:=Walks.listRev (prog:=af) (w:=wd) hA s.heap.objs.size l (jaz aZ) xs.toArray;have bd:xs.toArray.size=vs.reverse.length:=by refine aa Zh ?_;refine aa List.length_reverse ?_;refine rwj r.length ?_;rfl
 refine hQ _ _ ⟨revObj l ((xs.toArray.size:Int)-1),[s.heap.objs.size,l],λi v=>i<xs.toArray.size/\xs.toArray[xs.toArray.size-1-i]?=some v,
  λi h=>i<=xs.toArray.size/\h.IsRevIter s.heap.objs.size l ((xs.toArray.size:Int)-1-(i:Int))/\h.IsList l xs.toArray,rfl,rfl,?_,⟨jaU _,?_,hl.push _⟩,λb hb=>?_,λi x hx=>?_⟩ ?_
 ·refine rwj bd ?_;exact⟨W.sub,W.frame,λi s Q E hi st hQ=>W.item i s Q E hi st λv h' t hv=>hQ v h' t ⟨hi,hv⟩,W.done,W.self⟩
 ·simpa using Fz
 ·simp only[ZM,jeg,or_false]at hb;rcases hb with rfl|rfl
  ·exact .inl rfl
  ·exact .inr ⟨hF,aZ⟩
 ·refine bN hx λhi hx=>?_;obtain⟨v,h1,h2⟩:=r.reverse.getr (i:=i) (x:=x) (by
   rw[Zh]at hi;refine aa (jez hi) ?_;simpa using hx)
  exact aN v h1 h2
 ·exact wpAny_pyIter_revIter Fz ⟨rfl,rfl⟩
end
def mv (G:GD)(ab:Env)(T:Tb)(b:Zb):Prop:=b=ab.locals\/(∃y,T.names.lookup y=some .cell/\ab.cells.lookup y=some b)\/G.X b
def ph (G:GD)(ab:Env)(T:Tb)(σ:aA)(β:List Zb)(b:Zb):Prop:=¬mv G ab T b/\∀j:Nat,β[j]?=some b->σ[j]?=some .gone
structure br (G:GD) (ab:Env) (T:Tb) (s:Y1) (φ:Gh) (σ:aA) (β:List Zb) (P:Zb->Prop) (s':Y1) (am:Gh) (an:aA) (aH:List Zb) (P':Zb->Prop):Prop where
 keep:∀b o,ph G ab T σ β b->s.heap.get? b=some o->s'.heap.get? b=some o
 still:∀b,b<s.heap.objs.size->ph G ab T σ β b->ph G ab T an aH b
 pm:∀a,P a->a<s.heap.objs.size->P' a
 sub:∀t x,φ t x->am t x
 pre:β <+: aH
 size:s.heap.objs.size<=s'.heap.objs.size
 pn:∀a,a<s.heap.objs.size->P' a->P a\/a∈β
 bn:∀a∈aH,a<s.heap.objs.size->a∈β
section
theorem br.refl:br G ab T s φ σ β P s φ σ β P:=⟨λY Y Y e=>e,λY Y h=>h,λY p Y=>p,λY Y e=>e,Zg _,Y2 _,λY Y p=>.inl p,λY h Y=>h⟩
theorem br.trans (x:br G ab T s φ σ β P s' am an aH P')(y:br G ab T s' am an aH P' cO kC iv ud rq):br G ab T s φ σ β P cO kC iv ud rq where
 keep:=λb o hb e=>y.keep b o (x.still b (Zr e) hb) (x.keep b o hb e)
 still:=λb hb h=>y.still b (be hb x.size) (x.still b hb h)
 pm:=λa p hl=>y.pm a (x.pm a p hl) (be hl x.size)
 sub:=λt z e=>y.sub t z (x.sub t z e)
 pre:=x.pre.trans y.pre
 size:=YY x.size y.size
 pn:=λa hl p=>(y.pn a (be hl x.size) p).elim (x.pn a hl) λq=>.inr (x.bn a q hl)
 bn:=λa h hl=>x.bn a (y.bn a h (be hl x.size)) hl
theorem br.go (k:GX G s φ s' am):br G ab T s φ σ β P s' am σ β P:=⟨λb o hb e=>k.ext b o (λq=>hb.1 (.inr (.inr q))) e,λY Y h=>h,λY p Y=>p,k.sub,Zg _,k.grows.size,λY Y p=>.inl p,λY h Y=>h⟩
theorem SR.stillP (S:SR G sB aj ah ab T φ ρ σ β P m s)(p:P a):ph G ab T σ β a:=by
 refine⟨λq=>?_,λj hj=>?_⟩
 ·rcases q with rfl|⟨y,h1,h2⟩|q
  ·exact S.fr.ploc p
  rotate_left
  ·exact(S.er.psafe a p).2 q
  ·refine fk (S.fr.own y h1) λc e1 e2 Y=>?_;rw[h2]at e1;cases e1;exact e2 p
 ·have hl:j<σ.length:=by refine rwj S.lenB ?_;exact(Zw.mp hj).1
  induction ho:σ[j]? using ae with
  |none=>rw[Y' hl]at ho;cases ho
  |some o =>
   by_cases hg:o=.gone
   ·refine aa hg ?_;rfl
   ·exact absurd p (S.live j a o hj ho hg)
theorem SR.carryK (S:SR G sB aj ah ab T φ ρ σ β P m s)(C:br G ab T s φ σ β P s' am an aH P'):∀a o,P a->s.heap.get? a=some o->s'.heap.get? a=some o/\P' a :=
 λa o p e=>⟨C.keep a o (S.stillP p) e,C.pm a p (Zr e)⟩
theorem SR.carry (S:SR G sB aj ah ab T φ ρ σ β P m s)(C:br G ab T s φ σ β P s' am an aH P')(r:VR tk φ s.heap β P v x):VR tk am s'.heap aH P' v x :=
 r.mono C.sub (S.carryK C) C.pre
theorem SR.carrys (S:SR G sB aj ah ab T φ ρ σ β P m s)(C:br G ab T s φ σ β P s' am an aH P')(r:ar tk φ s.heap β P v x):ar tk am s'.heap aH P' v x :=
 r.mono C.sub (S.carryK C) C.pre
structure a0 (G:GD) (A:ZS) (Φ:cX) (sB:Y1) (ah:Zb->Prop) (ab:Env) (T:Tb):Prop where
 hO:fT G A Φ
 hE:bQ ab T
 hT:jx T
 IB:bg G sB.heap
 hP₀:∀a,sB.heap.objs.size<=a->ah a
 hI:jiA ab=false
 hcl:∀x c,ab.cells.lookup x=some c->T.celled x=true
def Step (G:GD)(sB:Y1)(aj:Gh)(ah:Zb->Prop)(ab:Env)(T:Tb)(s:Y1)(φ:Gh)(σ:aA)(β:List Zb)(P:Zb->Prop)(av:aB)(an:aA)(s':Y1)(K:Gh->List Zb->(Zb->Prop)->Prop):Prop :=
 ∃am aH P' m',SR G sB aj ah ab T am av an aH P' m' s'/\br G ab T s φ σ β P s' am an aH P'/\K am aH P'
def ET (G:GD)(A:ZS)(sB:Y1)(aj:Gh)(ah:Zb->Prop)(ab:Env)(T:Tb)(ρ:aB)(σ:aA)(t:Sem Value)(v:AV)(an:aA):Prop :=
 ∀s φ β P m,SR G sB aj ah ab T φ ρ σ β P m s->Y7 (Y9 af wd) A t (λx s'=>Step G sB aj ah ab T s φ σ β P ρ an s' λam aH P'=>VR G.tok am s'.heap aH P' v x) ax s
theorem ML (F:a0 G A Φ sB ah ab T)(h:ES G A ab T ρ σ t v):ET G A sB aj ah ab T ρ σ t v σ:=λs φ β P m S =>
 h.post (S.inv F.IB) S.er λx s' am k I' R' r=>⟨am,β,P,m,S.go k,.go k,r⟩
theorem SR.scratch (S:SR G sB aj ah ab T φ ρ σ β P m s)(hC:sB.heap.objs.size<=C)(hp:¬P C)(hb:C∉β)(hl:C≠ab.locals)(hn:s.heap.Ns C m')(hs:Z1 C s.heap h'):
 SR G sB aj ah ab T φ ρ σ β P m { s with heap:=h' }:=by
 have EC:=S.tabs.1.notX_ns hn;have TT:=S.tabs.1.but (λb o hb e=>hs.extBut b o hb e) EC (S.tabs.1.noHas_ns hn);have R:=S.er.but (X:=(·=C)) (h':=h') (t:=s.toks) S.tabs.1 (λb hb q=>EC (q▸hb)) (λb o hb e=>hs.extBut b o hb e) (ZG hs.1.symm) (Y2 _) (λa p q=>hp (q▸p)) (λa p q=>hb (q▸p)) (λq=>hl q.symm)
  (λx c v hc hi q=>rS hn hi q.symm)
 refine fq S.base λhh tt e=>?_;exact{ S with base:=jO h' s.toks (by refine aa e ?_;rfl),old:=λb o hb e=>hs.extBut b o (sA hC e) (S.old b o hb e),size:=YY S.size (ZG hs.1.symm),er:=R,tabs:=⟨TT.1,λc q=>S.tabs.2 c (TT.2 c q)⟩ }
theorem SR.alloc1 (S:SR G sB aj ah ab T φ ρ σ β P m s)(k:GX G s φ s' am)(zx:∀a,bM G s'.heap a->s.heap.objs.size<=a->P' a)(jN:∀a,P' a->P a)(oB:∀a,P a->a<s.heap.objs.size->P' a)(sN:∀a,s'.heap.objs.size<=a->P' a)(h1:s.heap.objs.size<=a)(h2:a<s'.heap.objs.size)(h3:¬P' a)(hg:o≠.gone)(ho:OR G.tok am s'.heap (β++[a]) P' o a):
 SR G sB aj ah ab T am ρ (σ++[o]) (β++[a]) P' m s'/\br G ab T s φ σ β P s' am (σ++[o]) (β++[a]) P'/\VR G.tok am s'.heap (β++[a]) P' (.ref σ.length) (.ref a):=by
 refine cz (S.alloc (os:=[o]) (as:=[a]) k zx jN oB sN (λb hb=>?_) (by simp) rfl (λu hu=>?_) (λj u hu=>?_)) ⟨λb o hb e=>k.ext b o (λq=>hb.1 (.inr (.inr q))) e,λb hb cM=>⟨cM.1,λj hj=>?_⟩,oB,k.sub,jcD _ _,k.grows.size,λa Y p=>.inl (jN a p),λb hb hl=>?_⟩ (.ref ?_)
 ·refine aa (Zn.mp hb) ?_;exact cz h1 h2 h3
 ·refine aa (Zn.mp hu) ?_;exact hg
 ·induction j using jas with
  |zero=>cases hu;exact aN a rfl ho
  |succ j=>simp at hu
 ·rcases jbT j β.length with q|q
  ·rw[Zq q]at hj;have:=cM.2 j hj;rw[Zq (by refine rwj S.lenB ?_;exact q)];exact this
  ·rw[Zd q]at hj;have:b=a:=by
    have:=ZB hj;simpa using this
   exact absurd hb (ZT.mpr (this▸h1))
 ·rcases Zz.mp hb with q|q
  ·exact q
  ·exact absurd hl (ZT.mpr ((Zn.mp q)▸h1))
 ·rw[Zd (by refine aa S.lenB ?_;exact Y2 _),S.lenB,jaw];rfl
theorem Cz (S:SR G sB aj ah ab T φ ρ σ β P m s)(cd:CD G s φ β P vs am s' D C da P')(th:Bool):
 Step G sB aj ah ab T s φ σ β P ρ (if th then σ++[.list vs]else σ) s' λam aH P'=>VR G.tok am s'.heap aH P' (if th then .ref σ.length else .lst vs) (.ref D)/\¬P' C/\C∉aH:=by
 refine au cd.items λxs a1 a2=>?_;have hD:D<s'.heap.objs.size:=by refine aW a1 λn ho=>?_;exact Zr ho
 have Eu:C<s'.heap.objs.size:=cd.ns.lt;have TB:=(cd.go.tabs S.tabs.1).1;have Fe:∀c,bM G s'.heap c->c≠C:=λc h q=>TB.noHas_ns cd.ns (q▸h);have Qd:∀c,bM G s'.heap c->c≠D:=λc h q=>(TB.notX_list a1).2 (q▸h);have Ev:C∉β:=λq=>Zo _ (be (S.er.blt C q) cd.cNew)
 induction th using ZC with
 |false =>
  have S':=S.alloc (os:=[]) (as:=[]) (P':=λa=>P a/\a≠C) cd.go (λa h1 h2=>⟨S.er.fresh a h2,Fe a h1⟩) (λa p=>p.1) (λa p hl=>⟨p,λq=>Zo _ (be (q▸hl) cd.cNew)⟩)
   (λa ha=>⟨S.er.fresh a (YY cd.go.grows.size ha),λq=>Zo _ (be (q▸Eu) ha)⟩) (λa ha=>nomatch ha) jaM rfl (λo ho=>nomatch ho) (λj o ho=>by simp at ho)
  rw[ZZ,ZZ]at S';refine⟨am,β,_,m,S',⟨λb o hb e=>cd.go.ext b o (λq=>hb.1 (.inr (.inr q))) e,λb Y h=>h,λa p hl=>⟨p,λq=>Zo _ (be (q▸hl) cd.cNew)⟩,cd.go.sub,Zg _,cd.go.grows.size,λa Y p=>.inl p.1,λY h Y=>h⟩,?_,λp=>p.2 rfl,Ev⟩;exact .lst a1 ⟨S.er.fresh D cd.dNew,jev cd.cd⟩ (a2.weak λa p=>⟨cd.sub a p,λq=>cd.pC (q▸p)⟩)
 |true =>
  obtain⟨aM,bU,aF⟩:=S.alloc1 (o:=.list vs) (a:=D) (P':=λa=>P a/\a≠C/\a≠D) cd.go (λa h1 h2=>cz (S.er.fresh a h2) (Fe a h1) (Qd a h1)) (λa p=>p.1) (λa p hl=>cz p (λq=>Zo _ (be (q▸hl) cd.cNew)) (λq=>Zo _ (be (q▸hl) cd.dNew)))
   (λa ha=>cz (S.er.fresh a (YY cd.go.grows.size ha)) (λq=>Zo _ (be (q▸Eu) ha)) (λq=>Zo _ (be (q▸hD) ha))) cd.dNew hD (λp=>p.2.2 rfl) (λq=>nomatch q)
   (.list a1 (a2.mono (λY Y e=>e) (λa o p e=>⟨e,cd.sub a p,λq=>cd.pC (q▸p),λq=>cd.pD (q▸p)⟩) (jcD _ _)))
  refine⟨am,_,_,m,aM,bU,aF,λp=>p.2.1 rfl,λq=>?_⟩;rcases Zz.mp q with q|q
  ·exact Ev q
  ·exact cd.cd (Zn.mp q)
end
section
theorem H8 (S:SR G sB aj ah ab T φ ρ σ β P m s)(r:ar G.tok φ s.heap β P vs xs):
 Step G sB aj ah ab T s φ σ β P ρ (σ++[.list vs]) { s with heap:=s.heap.push { cls:=.type "list",dict:=none,data:=.seq xs.toArray } } λam aH P'=>VR G.tok am (s.heap.push { cls:=.type "list",dict:=none,data:=.seq xs.toArray }) aH P' (.ref σ.length) (.ref s.heap.objs.size):=by
 have hz:(s.heap.push { cls:=.type "list",dict:=none,data:=.seq xs.toArray }).objs.size=s.heap.objs.size+1:=ZL ..;have k:GX G s φ { s with heap:=s.heap.push { cls:=.type "list",dict:=none,data:=.seq xs.toArray } } φ:=.same S.er.tk bF.push (Y2 _);obtain⟨aM,bU,aF⟩:=S.alloc1 (o:=.list vs) (a:=s.heap.objs.size) (P':=λa=>P a/\a≠s.heap.objs.size) k (λa h1 h2=>absurd (bM.lt S.tabs.1 (iW (λb o e=>Za _ e) S.tabs.1 a h1)) (ZT.mpr h2)) (λa p=>p.1) (λa p hl=>⟨p,jaz hl⟩)
  (λa ha=>⟨S.er.fresh a (YY k.grows.size ha),λq=>Zo _ (be (jaf _) (hz▸q▸ha))⟩) (Y2 _) (by show _<(s.heap.push _).objs.size;refine aa hz ?_;exact jaf _) (λp=>p.2 rfl) (λq=>nomatch q)
  (.list (oL s.heap) (r.mono (λY Y e=>e) (λa o p e=>⟨Za _ e,p,jaz (Zr e)⟩) (jcD _ _)))
 exact⟨φ,_,_,m,aM,bU,aF⟩
theorem Wn (S:SR G sB aj ah ab T φ ρ σ β P m s):
 Step G sB aj ah ab T s φ σ β P ρ (σ++[.dict []]) { s with heap:=s.heap.push { cls:=.type "dict",data:=.dict #[] } } λam aH P'=>VR G.tok am (s.heap.push { cls:=.type "dict",data:=.dict #[] }) aH P' (.ref σ.length) (.ref s.heap.objs.size):=by
 have hz:(s.heap.push { cls:=.type "dict",data:=.dict #[] }).objs.size=s.heap.objs.size+1:=ZL ..;have k:GX G s φ { s with heap:=s.heap.push { cls:=.type "dict",data:=.dict #[] } } φ:=.same S.er.tk bF.push (Y2 _);obtain⟨aM,bU,aF⟩:=S.alloc1 (o:=.dict []) (a:=s.heap.objs.size) (P':=λa=>P a/\a≠s.heap.objs.size) k (λa h1 h2=>absurd (bM.lt S.tabs.1 (iW (λb o e=>Za _ e) S.tabs.1 a h1)) (ZT.mpr h2)) (λa p=>p.1) (λa p hl=>⟨p,jaz hl⟩)
  (λa ha=>⟨S.er.fresh a (YY k.grows.size ha),λq=>Zo _ (be (jaf _) (hz▸q▸ha))⟩) (Y2 _) (by show _<(s.heap.push _).objs.size;refine aa hz ?_;exact jaf _) (λp=>p.2 rfl) (λq=>nomatch q)
  (OR.dict (ks:=[]) (vs:=[]) (xs:=[]) (jfa ..) rfl .nil)
 exact⟨φ,_,_,m,aM,bU,aF⟩
theorem WV (h:ao T e=.list .nil):∃p,e=.List [] p:=by
 refine bB (wE h) λxs p e1 e2=>?_
 induction xs using YZ with
 |nil=>exact⟨p,e1⟩
 |cons=>exact GV e2
theorem L1 (h:pP (.cons x es)=true):x=.list .nil/\pP es=true:=by
 cases x with
 |list ys =>
  cases ys with
  |nil=>exact⟨rfl,h⟩
  |cons=>exact bP h
 |_=>exact bP h
theorem L0:∀{pos:Pos}{s:Y1}{Q:List Value->Y1->Prop},pP (bf T elts)=true ->
 (∀(as:List Zb) (s':Y1),as.length=elts.length->s'={ s with heap:=s'.heap }->ce s.heap s'.heap->s.heap.objs.size<=s'.heap.objs.size->as.Nodup->(∀a∈as,s.heap.objs.size<=a/\a<s'.heap.objs.size/\s'.heap.PlainList a #[])->Q (as.map jbs) s') ->
 Y7 (Y9 af wd) A (jce (jcg pos (jao elts ab))) Q E s:=by
 induction elts with
 |nil=>exact λY hQ=>jdg (hQ [] _ rfl rfl (ce.refl _) (Y2 _) jaM λa ha=>nomatch ha)
 |cons e elts ih =>
  intro pos s Q he hQ;refine bN (L1 he) λh1 he=>?_;refine aW (WV h1) ?_;rintro p rfl;refine jcy (jcV (jdg ⟨by decide,?_⟩)) rfl;have hL:=oL (xs:=[]) s.heap;have hz:(s.heap.push { cls:=.type "list",dict:=none,data:=.seq ([]:List Value).toArray }).objs.size=s.heap.objs.size+1:=ZL ..;have hX:ce s.heap (s.heap.push { cls:=.type "list",dict:=none,data:=.seq ([]:List Value).toArray }):=λb o e=>Za _ e;generalize s.heap.push { cls:=.type "list",dict:=none,data:=.seq ([]:List Value).toArray }=H at hL hz hX;have aT:s.heap.objs.size<=H.objs.size:=hz▸ZV _;refine ih he λas s' hl hs hx bd dh has=>?_;refine hQ (s.heap.objs.size::as) s' (congrArg (·+1) hl) hs (ce.trans hX hx) (YY aT bd) (jaG.mpr ⟨λq=>jhv _ (hz▸(has _ q).1),dh⟩) λa ha=>?_;rcases ZM.mp ha with rfl|q
  ·exact cz (Y2 _) (be (hz▸jaf _) bd) (hL.at λo e=>hx _ o e)
  ·exact⟨YY aT (has a q).1,(has a q).2⟩
end
section
theorem DN:∀(es:List Expr),(bf T es).len=es.length
 | []=>rfl
 |e::es=>by simp only[tX,Nr,DN es,Zl]
theorem Hw:∀(as:List Zb) (k:Nat),(∀j a,as[j]?=some a->β[n+(k+j)]?=some a)->ar tk φ h β P ((ZP k as.length).map λj=>.ref (n+j)) (as.map jbs)
 | [],_,_=>.nil
 |a::as,k,hb=>by
  refine aa Zl ?_;refine aa jcY ?_;refine .cons (.ref (by simpa using hb 0 a rfl)) (Hw as (k+1) λj a ha=>?_);have:=hb (j+1) a (by simpa using ha);refine aa (show k+1+j=k+(j+1)from jdN k 1 j) ?_;exact this
theorem Wp {σ:aA}{G:GD}{s s':Y1}{as:List Zb}(S:SR G sB aj ah ab T φ ρ σ β P m s)(hs:s'={ s with heap:=s'.heap })(hx:ce s.heap s'.heap)(hz:s.heap.objs.size<=s'.heap.objs.size)(dh:as.Nodup)(has:∀a∈as,s.heap.objs.size<=a/\a<s'.heap.objs.size/\s'.heap.PlainList a #[]):
 Step G sB aj ah ab T s φ σ β P ρ (σ++Ze as.length (.list [])++[.list ((Y4 as.length).map λj=>.ref (σ.length+j))])
  { s' with heap:=s'.heap.push { cls:=.type "list",dict:=none,data:=.seq (as.map jbs).toArray } } λam aH P'=>VR G.tok am (s'.heap.push { cls:=.type "list",dict:=none,data:=.seq (as.map jbs).toArray }) aH P' (.ref (σ.length+as.length)) (.ref s'.heap.objs.size):=by
 have Fu:(s'.heap.push { cls:=.type "list",dict:=none,data:=.seq (as.map jbs).toArray }).objs.size=s'.heap.objs.size+1:=ZL ..;have sU:ce s'.heap (s'.heap.push { cls:=.type "list",dict:=none,data:=.seq (as.map jbs).toArray }):=λb o e=>Za _ e;generalize hH:s'.heap.push { cls:=.type "list",dict:=none,data:=.seq (as.map jbs).toArray }=H at Fu sU ⊢;have hL:H.PlainList s'.heap.objs.size (as.map jbs).toArray:=hH▸oL s'.heap;have k:GX G s φ { s' with heap:=H } φ:=.same S.er.tk ⟨by refine aa hs ?_;exact⟨H,s.toks,rfl,hx.trans sU⟩,by show _<=H.objs.size;lia⟩ (by refine aa hs ?_;exact Y2 _);have q5:s'.heap.objs.size<H.objs.size:=ZG (id (jfb Fu));have m5:s.heap.objs.size<H.objs.size:=by lia
 rw[jav];have aM:=S.alloc (os:=Ze as.length (.list [])++[.list ((Y4 as.length).map λj=>.ref (σ.length+j))]) (as:=as++[s'.heap.objs.size]) (P':=fN P s.heap.objs.size H.objs.size) k (λa h1 h2=>absurd (bM.lt S.tabs.1 (iW (hx.trans sU) S.tabs.1 a h1)) (ZT.mpr h2)) (λa p=>p.1)
  (λa p hl=>⟨p,λq=>ZT.mpr q.1 hl⟩) (λa ha=>⟨S.er.fresh a (YY k.grows.size ha),λq=>ZT.mpr (show H.objs.size<=a from ha) q.2⟩)
  (λa ha=>?_) ?_ (by simp) (λo ho=>?_) (λj o ho=>?_)
 ·refine⟨φ,_,_,m,aM,⟨λb o Y e=>(hx.trans sU) b o e,λb hb cM=>⟨cM.1,λj hj=>?_⟩,λa p hl=>⟨p,λq=>ZT.mpr q.1 hl⟩,λY Y e=>e,jcD _ _,k.grows.size,λa Y p=>.inl p.1,λb hb hl=>?_⟩,.ref ?_⟩
  ·rcases jbT j β.length with q|q
   ·rw[Zq q]at hj;have:=cM.2 j hj;rw[Zq (by refine rwj S.lenB ?_;exact q)];exact this
   ·rw[Zd q]at hj;have hm:=ZB hj;exfalso;rcases Zz.mp hm with q|q
    ·exact ZT.mpr (has b q).1 hb
    ·rw[Zn.mp q]at hb;exact ZT.mpr hz hb
  ·rcases Zz.mp hb with q|q
   ·exact q
   ·rcases Zz.mp q with q|q
    ·exact absurd hl (ZT.mpr (has b q).1)
    ·rw[Zn.mp q]at hl;exact absurd hl (ZT.mpr hz)
  ·rw[Zd (by refine aa S.lenB ?_;exact ZD _ _),S.lenB,jbN,Zd (Y2 _),jaw];rfl
 ·rcases Zz.mp ha with q|q
  ·refine fY (has a q) λh1 h2 Y=>?_;have h3:a<H.objs.size:=jai h2 (q5);exact cz h1 h3 (λp=>p.2 ⟨h1,h3⟩)
  ·have:=Zn.mp q;subst this;exact cz hz q5 (λp=>p.2 ⟨hz,q5⟩)
 ·rw[jbg];refine cz dh (by simp) (λa ha b hb q=>?_);have:=Zn.mp hb;subst this;subst q;exact Zo _ (has _ ha).2.1
 ·rcases Zz.mp ho with q|q
  ·refine aa ((List.mem_replicate.mp q).2) ?_;exact λq=>nomatch q
  ·refine aa (Zn.mp q) ?_;exact λq=>nomatch q
 ·rcases jbT j as.length with q|q
  ·rw[Zq (by simpa using q),jcH]at ho;rw[if_pos q]at ho;cases ho;refine aN (as[j]) (by refine aa (Zq q) ?_;refine aa (Y' q) ?_;rfl) (.list (xs:=[]) ((has _ (jbw q)).2.2.at λo e=>sU _ o e) .nil)
  ·rw[Zd (by simpa using q)]at ho;have hj:j-as.length=0:=by
    rcases jhY (j-as.length)with z|z
    ·exact z
    ·exfalso;rw[jat]at ho;rw[jcb (by simp;exact z)]at ho;cases ho
   rw[jat,hj]at ho;cases ho;refine aN s'.heap.objs.size (by refine aa (Zd q) ?_;refine aa hj ?_;rfl) (.list hL ?_);refine aa jdl ?_;refine Hw as 0 λi a ha=>?_;rw[Zd (by refine aa S.lenB ?_;exact ZD _ _),S.lenB,jer,jbN,Zq (Zw.mp ha).1];exact ha
theorem KH {C:Expr->Prop}{e:Expr}(h:eK e=true)(h1:∀es p,C (.List es p))(h2:∀p,C (.Dict [] [] p))(h3:∀a gs sc p,C (.ListComp a gs sc p)):C e:=by
 induction e using ZR with
 |List=>exact h1 ..
 |ListComp=>exact h3 ..
 |Dict ks vs =>
  induction ks using YZ with
  |nil=>induction vs using YZ with
   |nil=>exact h2 _
   |cons=>exact bP h
  |cons=>exact bP h
 |_=>exact bP h
theorem Rp [Decidable c](h:(if c then Ex.comp n gs else .bad)=.comp n' gs'):c/\n'=n/\gs'=gs:=by
 by_cases q:c
 ·rw[if_pos q]at h;exact cz q ((Ex.comp.inj h).1.symm) ((Ex.comp.inj h).2.symm)
 ·rw[if_neg q]at h;exact Tx h
theorem FV [Decidable c]:(if c then x else y)=x\/(if c then x else y)=y:=by
 by_cases q:c
 ·exact .inl (if_pos q)
 ·exact .inr (if_neg q)
theorem Cy (hO:fT G A Φ)(h:ao T (.ListComp aD gens sc pos)=.comp n gs):
 kF T sc/\(∀g∈gens,g.is_async=0)/\bj G A Φ σ aD/\(∀g∈gens,bj G A Φ σ g.iter/\(∀f p as pos,g.iter=.Call (.Name f p) as [] pos->∀a∈as,bj G A Φ σ a)/\∀c∈g.ifs,bj G A Φ σ c) /\
 n=(ey sc).length/\gs=iY T (T.comp sc) (ao (T.comp sc) aD) gens :=
 have all:∀e,bj G A Φ σ e:=λe=>cH hO _ e (Y2 _)
 (Rp h).elim λhc r=>cu hc λhc c5=>cu hc λhc c4=>cu hc λhc c3=>cu hc λc1 c2 =>
  ⟨⟨eq_of_beq c1,of_decide_eq_true c2,λx hx=>Y3.mp c4 x (jdD.mpr ⟨_,hx,rfl⟩),tT c5⟩,λg hg=>eq_of_beq (Y3.mp c3 g hg),all _,λg hg=>cz (all _) (λf p as pos he a ha=>all _) (λc hc=>all _),r⟩
theorem MK (F:a0 G A Φ sB ah ab T)(he:oS Φ ρ σ (.list (bf T elts))=some (v,an)):ET G A sB aj ah ab T ρ σ (Z7 (.List elts pos) ab) v an:=by
 by_cases hem:(pP (bf T elts)&&decide (0<(bf T elts).len/\(bf T elts).len<=1000))=true
 ·refine aG (Q:=λr=>ET G A sB aj ah ab T ρ σ (Z7 (.List elts pos) ab) r.1 r.2) ((if_pos hem).symm.trans he) λs φ β P m S=>?_;refine cu hem λh1 hn=>jcV (L0 h1 λas s' hl hs hx hz dh has=>?_);replace hn:=(of_decide_eq_true hn).2;rw[DN]at hn ⊢;rw[<-hl]at hn ⊢;exact⟨d0 (by refine aa (YX _) ?_;exact YY hn (by decide)),Wp S hs hx hz dh has⟩
 ·replace he:=(if_neg hem).symm.trans he
  induction b0:bX Φ σ ρ (bf T elts)using ae with
  |none=>rw[b0]at he;exact ai he
  |some vs =>
   rw[b0]at he;refine bR he λaT he=>aG (Q:=λr=>ET G A sB aj ah ab T ρ σ (Z7 (.List elts pos) ab) r.1 r.2) he λs φ β P m S=>?_;refine jcV (((j7 F.hE (λe Y=>cH F.hO _ e (Y2 _)) b0).2 pos).post (S.inv F.IB) S.er λxs ak ay aw bb aI aF=>⟨d0 (by refine rwj aF.length ?_;exact aT),?_⟩);refine ka (H8 (S.go aw) aF) λaU dp ck di bq cY bI=>?_;exact⟨aU,dp,ck,di,bq,(br.go aw).trans cY,bI⟩
theorem Va (S:SR G sB aj ah ab T φ ρ σ β P m s)(cd:CD G s φ β P vs ay ak D C da cC)(hs:Z1 C ak.heap h')(St:∃am aH P' m',SR G sB aj ah ab T am ρ an aH P' m' ak/\br G ab T s φ σ β P ak am an aH P'/\VR G.tok am ak.heap aH P' v x/\¬P' C/\C∉aH):
 Step G sB aj ah ab T s φ σ β P ρ an { ak with heap:=h' } λam aH P'=>VR G.tok am h' aH P' v x:=by
 refine sj St λay dc cC da aM bU aF hp hb=>?_;have hC:s.heap.objs.size<=C:=cd.cNew;refine⟨ay,dc,cC,da,aM.scratch (YY S.size hC) hp hb (λq=>Zo _ (be (q▸S.er.ns.lt:C<s.heap.objs.size) hC)) cd.ns hs,⟨λb o hb e=>hs.extBut b o (λq=>Zo _ (be (q▸Zr e:C<s.heap.objs.size) hC)) (bU.keep b o hb e),bU.still,bU.pm,bU.sub,bU.pre,YY bU.size (ZG hs.1.symm),bU.pn,bU.bn⟩,?_⟩;exact aF.mono (λY Y e=>e) (λa o p e=>⟨hs.extBut a o (λq=>hp (q▸p)) e,p⟩) (Zg _)
theorem MI (F:a0 G A Φ sB ah ab T)(h:ao T (.ListComp aD gens sc pos)=.comp n gs)(b0:fF Φ σ ρ n gs=some vs):
 ET G A sB aj ah ab T ρ σ (Z7 (.ListComp aD gens sc pos) ab) (.ref σ.length) (σ++[.list vs]):=λs φ β P m S=>by
 refine Dz (Cy (σ:=σ) F.hO h) λc1 c2 c3 c4 c5 c6=>?_;rw[c5,c6]at b0;have sK:=xK (mi:=none) (pos:=pos) (nr:=jfV gens pos) (E:=ax) (Q:=λx s'=>Step G sB aj ah ab T s φ σ β P ρ (σ++[.list vs]) s' λam aH P'=>VR G.tok am s'.heap aH P' (.ref σ.length) x)
  F.hO.hA F.hE F.hO.hG c1 c2 c3 c4 b0 (S.inv F.IB) S.er λam s' D C m' P' cd=>⟨m',cd.ns,λh' hs=>Va (an:=σ++[AO.list vs]) (v:=AV.ref σ.length) (x:=jbs D) S cd hs (Cz S cd true)⟩
 rw[eval_ListComp,sK.1];exact sK.2
theorem MJ (F:a0 G A Φ sB ah ab T)(he:oS Φ ρ σ (ao T (.ListComp aD gens sc pos))=some (v,an)):ET G A sB aj ah ab T ρ σ (Z7 (.ListComp aD gens sc pos) ab) v an:=by
 have k:ao T (.ListComp aD gens sc pos)=.comp (ey sc).length (iY T (T.comp sc) (ao (T.comp sc) aD) gens)\/ao T (.ListComp aD gens sc pos)=.bad:=FV;rcases k with h|h
 ·have PB:=h▸he;replace he:(match fF Φ σ ρ (ey sc).length (iY T (T.comp sc) (ao (T.comp sc) aD) gens)with|some vs=>some (AV.ref σ.length,σ++[AO.list vs])|none=>none)=some (v,an):=PB
  induction b0:fF Φ σ ρ (ey sc).length (iY T (T.comp sc) (ao (T.comp sc) aD) gens)using ae with
  |none=>rw[b0]at he;exact ai he
  |some vs =>
   rw[b0]at he;exact aG (Q:=λr=>ET G A sB aj ah ab T ρ σ (Z7 (.ListComp aD gens sc pos) ab) r.1 r.2) he (MI F h b0)
 ·rw[h]at he;exact ai he
theorem C5 (F:a0 G A Φ sB ah ab T){e:Expr}{th:Bool}{v:AV}(hc:th=true->eK e=true)(he:gq Φ ρ σ th (ao T e)=some (v,an)):ET G A sB aj ah ab T ρ σ (Z7 e ab) v an:=by
 induction th using ZC with
 |false =>
  refine lP (Q:=λr=>ET G A sB aj ah ab T ρ σ (Z7 e ab) r.1 r.2) he λu hu=>?_;exact ML F (cH F.hO _ e (Y2 _) ab T ρ _ F.hE hu).1
 |true =>
  revert he;refine KH (C:=λe=>gq Φ ρ σ true (ao T e)=some (v,an)->ET G A sB aj ah ab T ρ σ (Z7 e ab) v an) (hc rfl) (λes p he=>MK F he) (λp he=>?_) λa gs sc p he=>MJ F he;exact aG (Q:=λr=>ET G A sB aj ah ab T ρ σ (Z7 (.Dict [] [] p) ab) r.1 r.2) he λs φ β P m S=>wpAny_Dict_empty (Wn S)
end
section
variable {A:ZS}{ab:Env}{T:Tb}{ρ av:aB}{σ an iv:aA}{G:GD}{s s' cO:Y1}{φ am kC:Gh}{β aH ud:List Zb}{P P' rq ah:Zb->Prop}{m m':Str->Option Value}{tk:Zb}{h h':jag}
variable {sB:Y1}{aj:Gh}{Φ:cX}
abbrev gk (G:GD)(sB:Y1)(aj:Gh)(ah:Zb->Prop)(ab:Env)(T:Tb)(s:Y1)(φ:Gh)(σ:aA)(β:List Zb)(P:Zb->Prop)(av:aB)(an:aA)(s':Y1):Prop :=
 ∃am aH P' m',SR G sB aj ah ab T am av an aH P' m' s'/\br G ab T s φ σ β P s' am an aH P'
def o7 (G:GD)(sB:Y1)(aj:Gh)(ah:Zb->Prop)(ab:Env)(T:Tb)(s:Y1)(φ:Gh)(σ:aA)(β:List Zb)(P:Zb->Prop):Fl->jeu->Y1->Prop
 | .next av an,f,s'=>f=.next/\gk G sB aj ah ab T s φ σ β P av an s'
 | .ret v,f,s'=>∃x,f=.ret x/\∃am,GX G sB aj s' am/\VR G.tok am s'.heap [] ah v x
def ca (G:GD)(A:ZS)(sB:Y1)(aj:Gh)(ah:Zb->Prop)(ab:Env)(T:Tb)(ρ:aB)(σ:aA)(t:Sem jeu)(fl:Fl):Prop :=
 ∀s φ β P m,SR G sB aj ah ab T φ ρ σ β P m s->Y7 (Y9 af wd) A t (o7 G sB aj ah ab T s φ σ β P fl) ax s
theorem nx {x:Str}{i:Nat}{v:AV}{xv:Value}{Q:Unit->Y1->Prop}{E:Value->Y1->Prop}(F:a0 G A Φ sB ah ab T)(hx:T.own x=some i)(S:SR G sB aj ah ab T φ ρ σ β P m s)(r:VR G.tok φ s.heap β P v xv)
 (hQ:∀s' m',SR G sB aj ah ab T φ (ρ.set i (some v)) σ β P m' s'->br G ab T s φ σ β P s' φ σ β P->(∀b o,¬mv G ab T b->s.heap.get? b=some o->s'.heap.get? b=some o)->Q () s'):Y7 (Y9 af wd) A (jdr ab x xv) Q E s :=
 S.store F.hE F.hT hx r λs' m' S' kp sz=>hQ s' m' S' ⟨λb o hb e=>kp b o (λq=>hb.1 (q.elim .inl λq=>.inr (.inl q))) e,λY Y h=>h,λY p Y=>p,λY Y e=>e,Zg _,sz,λY Y p=>.inl p,λY h Y=>h⟩ λb o hb e=>kp b o (λq=>hb (q.elim .inl λq=>.inr (.inl q))) e
inductive lH (A:ZS) (ab:Env):List Str->List (Value->Sem Unit)->Prop
 |nil:lH A ab [] []
 |cons {x:Str}{xs:List Str}{g:Value->Sem Unit}{gs:List (Value->Sem Unit)} (h:∀v (Q:Unit->Y1->Prop) (E:Value->Y1->Prop) s,Y7 (Y9 af wd) A (jdr ab x v) Q E s->Y7 (Y9 af wd) A (g v) Q E s) (r:lH A ab xs gs):lH A ab (x::xs) (g::gs)
theorem to {α γ:Type}{f:α->Option γ}{a:α}{as:List α}{bs:List γ}(h:(a::as).mapM f=some bs):∃b cs,bs=b::cs/\f a=some b/\as.mapM f=some cs:=by
 rw[jgl]at h;exact pN (f:=λb=>(as.mapM f).bind λcs=>some (b::cs)) h λb h1 h=>pN (f:=λcs=>some (b::cs)) h λcs h2 h=>na b cs ((Y0 h).symm) h1 h2
theorem wv {C:List Nat->List AV->aB->aB->Prop}(h0:∀ρ,C [] [] ρ ρ)(h1:∀i is v vs ρ av,eC (ρ.set i (some v)) is vs=some av->C is vs (ρ.set i (some v)) av->C (i::is) (v::vs) ρ av){is:List Nat}:∀{vs:List AV}{ρ av:aB},eC ρ is vs=some av->C is vs ρ av:=by
 induction is with
 |nil =>
  intro vs ρ av h
  induction vs using YZ with
  |nil=>exact aG (Q:=C [] [] ρ) h (h0 ρ)
  |cons=>exact ai h
 |cons i is ih =>
  intro vs ρ av h
  induction vs using YZ with
  |nil=>exact ai h
  |cons v vs=>exact h1 i is v vs ρ av h (ih h)
theorem Bb (F:a0 G A Φ sB ah ab T){is:List Nat}{vs:List AV}{ρ av:aB}(hs:eC ρ is vs=some av){E:Value->Y1->Prop}:∀{xs:List Str}{gs:List (Value->Sem Unit)}{ys:List Value}{s:Y1}{m:Str->Option Value}{Q:Unit->Y1->Prop},
 lH A ab xs gs->xs.mapM T.own=some is->SR G sB aj ah ab T φ ρ σ β P m s->ar G.tok φ s.heap β P vs ys ->
 (∀s' m',SR G sB aj ah ab T φ av σ β P m' s'->br G ab T s φ σ β P s' φ σ β P->Q () s')->Y7 (Y9 af wd) A (jhs gs ys) Q E s:=by
 refine wv (C:=λis vs ρ av=>∀{xs:List Str}{gs:List (Value->Sem Unit)}{ys:List Value}{s:Y1}{m:Str->Option Value}{Q:Unit->Y1->Prop},lH A ab xs gs->xs.mapM T.own=some is->SR G sB aj ah ab T φ ρ σ β P m s->ar G.tok φ s.heap β P vs ys ->
  (∀s' m',SR G sB aj ah ab T φ av σ β P m' s'->br G ab T s φ σ β P s' φ σ β P->Q () s')->Y7 (Y9 af wd) A (jhs gs ys) Q E s) (λρ xs gs ys s m Q hg hm S r hQ=>?_) (λi is v vs ρ av Y ih xs gs ys s m Q hg hm S r hQ=>?_) hs
 ·refine aa r.unnil ?_;cases hg with
  |nil=>exact Zu (hQ s m S .refl)
  |cons=>refine bB (to hm) λY Y e Y=>?_;exact nomatch e
 ·refine bS r.uncons ?_;rintro y ys rfl ra rs;cases hg with
  |nil=>exact nomatch hm
  |cons hg az =>
   refine bS (to hm) λj js e h1 h2=>?_;have e:=List.cons.inj e;rw[<-e.1]at h1;rw[<-e.2]at h2;exact Y6 (jaJ (hg _ _ _ _ (nx F h1 S ra λak da aM bU Y=>ih az h2 aM (S.carrys bU rs) λaC di bq cY=>hQ aC di bq (bU.trans cY))))
theorem H6 {C:Expr->List Str->Prop}{e:Expr}{ts:List Expr}{xs:List Str}(h:gh (e::ts)=some xs)(k:∀x p ys,gh ts=some ys->C (.Name x p) (x::ys)):C e xs:=by
 induction e using ZR with
 |Name x p=>exact lP h (k x p)
 |_=>exact ai h
theorem H7 {ts:List Expr}:∀{xs:List Str},gh ts=some xs->∃gs,jdt ts ab=gs.map (λg=>(false,g))/\lH A ab xs gs/\gs.length=ts.length/\xs.length=ts.length:=by
 induction ts with
 |nil=>exact λh=>aG (Q:=λxs=>∃gs,jdt [] ab=gs.map (λg=>(false,g))/\lH A ab xs gs/\gs.length=0/\xs.length=0) h ⟨[],rfl,.nil,rfl,rfl⟩
 |cons e ts ih =>
  refine λh=>H6 (C:=λe xs=>∃gs,jdt (e::ts) ab=gs.map (λg=>(false,g))/\lH A ab xs gs/\gs.length=(e::ts).length/\xs.length=(e::ts).length) h λx p ys hy=>?_;refine yn (ih hy) λgs h1 h2 h3 h4=>?_;exact vS (jgZ (.Name x p) ab::gs) (congrArg (List.cons (false,jgZ (.Name x p) ab)) h1) (.cons (λv Q E s hh=>jen hh) h2) (congrArg jbY h3) (congrArg jbY h4)
theorem Tz (gs:List (Value->Sem Unit)):(gs.map λg=>(false,g)).findIdx? (·.1)=none:=by
 rw[jgB];intro x hx;refine au (Zk.mp hx) ?_;rintro g _ rfl;rfl
theorem V3 {e:Expr}{x:Str}{px:Pos}{line:Nat}:jfh e (some (.Name x px)) line ab=pure false\/(∃aD gens sc p,e=.ListComp aD gens sc p/\jfh e (some (.Name x px)) line ab=pure true)\/ao T e=.bad:=by
 induction e using ZR with
 |ListComp aD gens sc p =>
  have:∃b,jfh (.ListComp aD gens sc p) (some (.Name x px)) line ab=pure b:=⟨_,rfl⟩
  refine aW this λb hb=>?_
  induction b using ZC with
  |false=>exact .inl hb
  |true=>exact .inr (.inl ⟨aD,gens,sc,p,rfl,hb⟩)
 |SetComp=>exact .inr (.inr rfl)
 |DictComp=>exact .inr (.inr rfl)
 |_=>exact .inl rfl
theorem x6 {th:Bool}{v:AV}{Q:Prop}(h:gq Φ ρ σ th .bad=some (v,an)):Q:=by
 cases th<;>exact ai h
theorem MT {C:AV->aA->Prop}{aD:Expr}{gens:List jae}{sc:jax}{p:Pos}{th:Bool}{v:AV}(he:gq Φ ρ σ th (ao T (.ListComp aD gens sc p))=some (v,an))
 (k:∀n gs vs,ao T (.ListComp aD gens sc p)=.comp n gs->fF Φ σ ρ n gs=some vs->C (if th then .ref σ.length else .lst vs) (if th then σ++[.list vs]else σ)):C v an:=by
 have q:ao T (.ListComp aD gens sc p)=.comp (ey sc).length (iY T (T.comp sc) (ao (T.comp sc) aD) gens)\/ao T (.ListComp aD gens sc p)=.bad:=FV;rcases q with h|h
 ·rw[h]at he;replace k:=λvs=>k _ _ vs h;generalize(ey sc).length=n at *;generalize iY T (T.comp sc) (ao (T.comp sc) aD) gens=gs at *
  induction th using ZC with
  |false=>exact lP (Q:=λr=>C r.1 r.2) he λu hu=>lP (Q:=λu=>C u σ) hu k
  |true =>
   replace he:(match fF Φ σ ρ n gs with|some vs=>some (AV.ref σ.length,σ++[AO.list vs])|none=>none)=some (v,an):=he
   induction b0:fF Φ σ ρ n gs using ae with
   |none=>rw[b0]at he;exact ai he
   |some vs=>rw[b0]at he;exact aG (Q:=λr=>C r.1 r.2) he (k vs b0)
 ·rw[h]at he;exact x6 he
theorem G8 (S:SR G sB aj ah ab T φ ρ σ β P m s){b:Zb}(hb:mv G ab T b):b<s.heap.objs.size:=by
 rcases hb with rfl|⟨y,h1,h2⟩|q
 ·exact S.er.ns.lt
 ·refine bB (S.er.celled y (by unfold Tb.celled;refine aa h1 ?_;rfl)) λc dm e1 e2=>?_;exact Y0 (h2.symm.trans e1)▸e2.lt
 ·exact S.tabs.1.lt q
theorem Xi {x:Str}{px:Pos}{i:Nat}{vs:List AV}{v:AV}{X4:Gh}{ff:Y1}{D C:Zb}{gA:Str->Option Value}{cC:Zb->Prop}{E:Value->Y1->Prop}(F:a0 G A Φ sB ah ab T)(hx:T.own x=some i)(S:SR G sB aj ah ab T φ ρ σ β P m s)(cd:CD G s φ β P vs X4 ff D C gA cC)
 (St:∃am aH P' m',SR G sB aj ah ab T am ρ an aH P' m' ff/\br G ab T s φ σ β P ff am an aH P'/\VR G.tok am ff.heap aH P' v (.ref D)/\¬P' C/\C∉aH):
 Y7 (Y9 af wd) A (jgZ (.Name x px) ab (.ref D)) (λY aC=>∃di,aC.heap.Ns C di/\∀h',Z1 C aC.heap h'->gk G sB aj ah ab T s φ σ β P (ρ.set i (some v)) an { aC with heap:=h' }) E ff:=by
 refine sj St λay dc cC da aM bU aF hp hb=>?_;have Et:¬mv G ab T C:=λq=>Zo _ (be (G8 S q) cd.cNew);refine jen (nx F hx aM aF λaC di bq cY kp=>?_);have hn:aC.heap.Ns C gA:=cd.ns.at' λo e=>kp C o Et e;have dq:=bU.trans cY;exact aN gA hn (λh' hs=>vV ay dc cC di (bq.scratch (YY S.size cd.cNew) hp hb (λq=>Et (.inl q)) hn hs) ⟨λb o hb e=>hs.extBut b o (λq=>Zo _ (be (q▸Zr e:C<s.heap.objs.size) cd.cNew)) (dq.keep b o hb e),dq.still,dq.pm,dq.sub,dq.pre,YY dq.size (ZG hs.1.symm),dq.pn,dq.bn⟩)
theorem VA (F:a0 G A Φ sB ah ab T){x:Str}{px pos p:Pos}{aD:Expr}{gens:List jae}{sc:jax}{i n:Nat}{gs:jX}{vs:List AV}{th:Bool}(hx:T.own x=some i)(hs:jfh (.ListComp aD gens sc p) (some (.Name x px)) pos.line ab=pure true)(h:ao T (.ListComp aD gens sc p)=.comp n gs)(b0:fF Φ σ ρ n gs=some vs):
 ca G A sB aj ah ab T ρ σ (ZX (.Assign [.Name x px] (.ListComp aD gens sc p) pos) ab) (.next (ρ.set i (some (if th then .ref σ.length else .lst vs))) (if th then σ++[.list vs]else σ)):=λs φ β P m S=>by
 refine Dz (Cy (σ:=σ) F.hO h) λc1 c2 c3 c4 c5 c6=>?_;rw[c5,c6]at b0;refine aa (exec_Assign_Name_used _ _ _ _ hs) ?_;refine Y6 (jaT (Y6 ?_));show Y7 _ A (do let _ <-jfz (.ListComp aD gens sc p) sc ab (jfV gens p) (newList []) (firstAsync gens) (jhI gens ab) (some (jgZ (.Name x px) ab))) _ _ s;have sK:=xK (mi:=some (jgZ (.Name x px) ab)) (pos:=p) (nr:=jfV gens p) (E:=ax) (Q:=λY s'=>gk G sB aj ah ab T s φ σ β P (ρ.set i (some (if th then .ref σ.length else .lst vs))) (if th then σ++[AO.list vs]else σ) s')
  F.hO.hA F.hE F.hO.hG c1 c2 c3 c4 b0 (S.inv F.IB) S.er λam s' D C m' P' cd=>by
   show Y7 _ A (jgZ (.Name x px) ab (.ref D)) _ _ _;exact Xi F hx S cd (Cz S cd th)
 refine aa sK.1 ?_;exact Y6 (jan sK.2 (λY s' hq=>Zu (Zu ⟨rfl,hq⟩)) λY Y e=>e)
theorem HH (F:a0 G A Φ sB ah ab T){x:Str}{px pos:Pos}{e:Expr}{i:Nat}{th:Bool}{v:AV}(hx:T.own x=some i)(hc:th=true->eK e=true)(he:gq Φ ρ σ th (ao T e)=some (v,an)):
 ca G A sB aj ah ab T ρ σ (ZX (.Assign [.Name x px] e pos) ab) (.next (ρ.set i (some v)) an):=by
 rcases V3 (ab:=ab) (T:=T) (e:=e) (x:=x) (px:=px) (line:=pos.line)with hs|⟨aD,gens,sc,p,rfl,hs⟩|hb
 ·refine λs φ β P m S=>jbr (up (C5 F hc he s φ β P m S) λxv ak aX=>?_) hs;refine ka aX λay dc cC da aM bU aF=>?_;exact nx F hx aM aF λaC di bq cY Y=>⟨rfl,ay,dc,cC,di,bq,bU.trans cY⟩
 ·exact MT (C:=λv an=>ca G A sB aj ah ab T ρ σ (ZX (.Assign [.Name x px] (.ListComp aD gens sc p) pos) ab) (.next (ρ.set i (some v)) an)) he λn gs vs h b0=>VA F hx hs h b0
 ·rw[hb]at he;exact x6 he
end
section
theorem A6:swapsWithSole [.Tuple ts k tp] e line ab=pure false:=by
 unfold swapsWithSole jfh;cases e<;>rfl
theorem Ut (h:∀vs k p,e≠.Tuple vs k p):jfy [.Tuple ts k tp] e ab=pure none:=by
 cases e<;>first|rfl|exact absurd rfl (h _ _ _)
theorem HD (h:eC ρ is vs=some av):is.length=vs.length :=
 wv (C:=λis vs Y Y=>is.length=vs.length) (λY=>rfl) (λY Y Y Y Y Y Y e=>congrArg jbY e) h
theorem Aq {α γ:Type}{f:α->Option γ}{as:List α}:∀{bs:List γ},as.mapM f=some bs->as.length=bs.length:=by
 induction as with
 |nil=>exact λh=>aG (Q:=λbs=>0=bs.length) h rfl
 |cons a as ih =>
  intro bs h;refine bS (to h) ?_;rintro b cs rfl _ h2;exact congrArg jbY (ih h2)
theorem Io (hA:A.handled=none)(g1:jdt ts ab=gs.map λg=>(false,g))(aO:gs.length=ys.length)(ht:jge s.heap a ys.toArray)(hQ:∀h',(∀b o,b≠s.heap.objs.size->s.heap.get? b=some o->h'.get? b=some o)->s.heap.objs.size<=h'.objs.size->Y7 (Y9 af wd) A (jhs gs ys) Q E { s with heap:=h' }):Y7 (Y9 af wd) A (unpack (.ref a) (jdt ts ab)) Q E s:=by
 unfold unpack;have hn:(jdt ts ab).length=ys.toArray.size:=by refine aa g1 ?_;refine aa (YX _) ?_;exact aO
 have cM:(jdt ts ab).findIdx? (·.1)=none:=by refine aa g1 ?_;exact Tz gs
 have EY:(jdt ts ab).map (·.2)=gs:=by
  refine aa g1 ?_;refine aa ZF ?_;refine aa (show((λx:Bool×(Value->Sem Unit)=>x.2)∘λg=>(false,g))=id from rfl) ?_;refine aa (jbQ _) ?_;rfl
 refine aa hn ?_;refine aa cM ?_;refine aa EY ?_;exact Y6 (jaJ (eF (unpackItems_tuple hA ht λh' hx u=>by simpa using hQ h' hx u.size)))
theorem Vz {T:Tb}(F:a0 G A Φ sB ah ab T){ts:List Expr}{k:Nat}{tp pos:Pos}{e:Expr}{xs:List Str}{is:List Nat}{vs:List AV}(lb:gh ts=some xs)(eR:xs.mapM T.own=some is)(cV:∀vs k p,e≠.Tuple vs k p)(he:ev Φ σ ρ (ao T e)=some (.tup vs))(hs:eC ρ is vs=some av):ca G A sB aj ah ab T ρ σ (ZX (.Assign [.Tuple ts k tp] e pos) ab) (.next av σ):=by
 intro s φ β P m S;refine jfg ((cH F.hO _ e (Y2 _) ab T ρ _ F.hE he).1.post (S.inv F.IB) S.er λx ak ay aw bb aI aF=>aF.e_tup λa ys ht p r=>?_) A6 (Ut cV);have aM:=S.go aw;refine yn (H7 (A:=A) (ab:=ab) lb) λgs g1 g2 g3 g4=>?_;rw[assign_Tuple];refine Y6 (jaT (Io F.hO.hA g1 (by refine rwj r.length ?_;refine rwj (HD hs) ?_;refine rwj (Aq eR) ?_;refine aa g4 ?_;refine aa g3 ?_;rfl) ht λh' hx hz=>?_));have aP:GX G ak ay { ak with heap:=h' } ay:=.same aw.tk ⟨⟨h',ak.toks,rfl,λb o e=>hx b o (jaz (Zr e)) e⟩,hz⟩ (Y2 _);exact Bb F hs g2 eR (aM.go aP) (aM.er.vrs aP r) λdk ku ew dq=>⟨rfl,ay,β,P,ku,ew,(br.go aw).trans ((br.go aP).trans dq)⟩
theorem MU {C:List (Nat×Bool)->List AV->Prop}{xs:List (Nat×Bool)}{vs:List AV}{e:Ex}{es:bV}(h:eO Φ ρ σ xs (.cons e es)=some (vs,an))(k:∀x xs v gR us,gq Φ ρ σ x.2 e=some (v,gR)->eO Φ ρ gR xs es=some (us,an)->C (x::xs) (v::us)):C xs vs:=by
 induction xs using YZ with
 |nil=>exact ai h
 |cons x xs =>
  replace h:(match gq Φ ρ σ x.2 e with|some (v,gR)=>(match eO Φ ρ gR xs es with|some (us,nC)=>some (v::us,nC)|none=>none)|none=>none)=some (vs,an):=h
  induction h1:gq Φ ρ σ x.2 e using ae with
  |none=>rw[h1]at h;exact ai h
  |some r =>
   rw[h1]at h;replace h:(match eO Φ ρ r.2 xs es with|some (us,nC)=>some (r.1::us,nC)|none=>none)=some (vs,an):=h
   induction h2:eO Φ ρ r.2 xs es using ae with
   |none=>rw[h2]at h;exact ai h
   |some r' =>
    rw[h2]at h;have e:=jiO (Y0 h);exact e.1▸k x xs r.1 r.2 r'.1 h1 (h2.trans (congrArg (λz=>some (r'.1,z)) e.2))
theorem TE (h:gq Φ ρ σ th (ao T e)=some (v,an)):f9 e=true:=by
 cases e<;>first|rfl|exact x6 h
theorem MM {G:GD}(F:a0 G A Φ sB ah ab T){pos:Pos}{es:List Expr}:∀{xs:List (Nat×Bool)}{σ an:aA}{vs:List AV},eO Φ ρ σ xs (bf T es)=some (vs,an)->(∀x e,(x,e)∈xs.zip es->x.2=true->eK e=true) ->
 es.all f9=true/\∀{s:Y1}{φ:Gh}{β:List Zb}{P:Zb->Prop}{m:Str->Option Value},SR G sB aj ah ab T φ ρ σ β P m s ->
  Y7 (Y9 af wd) A (jce (jcg pos (jao es ab))) (λys s'=>Step G sB aj ah ab T s φ σ β P ρ an s' λam aH P'=>ar G.tok am s'.heap aH P' vs ys) ax s:=by
 induction es with
 |nil =>
  intro xs σ an vs he hc
  induction xs using YZ with
  |nil=>exact⟨rfl,λ{s φ β P m} S=>jdg (aG (Q:=λr=>Step G sB aj ah ab T s φ σ β P ρ r.2 s λam aH P'=>ar G.tok am s.heap aH P' r.1 []) he ⟨φ,β,P,m,S,.refl,.nil⟩)⟩
  |cons=>exact ai he
 |cons e es ih =>
  intro xs σ an vs he hc;revert hc;refine MU (C:=λxs vs=>(∀x e',(x,e')∈xs.zip (e::es)->x.2=true->eK e'=true)->(e::es).all f9=true/\∀{s:Y1}{φ:Gh}{β:List Zb}{P:Zb->Prop}{m:Str->Option Value},SR G sB aj ah ab T φ ρ σ β P m s ->
   Y7 (Y9 af wd) A (jce (jcg pos (jao (e::es) ab))) (λys s'=>Step G sB aj ah ab T s φ σ β P ρ an s' λam aH P'=>ar G.tok am s'.heap aH P' vs ys) ax s) he λx xs v gR us hv cx hc=>?_
  have iL:=TE hv;have h:=ih cx λx e hm=>hc x e (Zt _ hm);refine⟨(congrArg (·&&es.all f9) iL).trans ((jcw _).trans h.1),λ{s φ β P m} S=>jcy (up (C5 F (hc x e Zc) hv s φ β P m S) λy ak aX=>?_) (iV iL)⟩;refine ka aX λay dc cC da aM bU aF=>?_;refine up (h.2 aM) λys aC cy=>?_;refine ka cy λaU dp ck di bq cY bI=>?_;exact⟨aU,dp,ck,di,bq,bU.trans cY,.cons (aM.carry cY aF) bI⟩
theorem Vc (h1:eC ρ is vs=some kB):∀{js:List Nat}{us:List AV}{av:aB},eC kB js us=some av->eC ρ (is++js) (vs++us)=some av :=
 wv (C:=λis vs ρ kB=>∀{js us av},eC kB js us=some av->eC ρ (is++js) (vs++us)=some av) (λY Y Y Y h=>h) (λY Y Y Y Y Y Y ih Y Y Y h=>ih h) h1
theorem Vd:∀{ρ av:aB},i∉is->eC (ρ.set i (some v)) is vs=some av->∃kB,eC ρ is vs=some kB/\av=kB.set i (some v):=by
 induction is generalizing vs with
 |nil =>
  intro ρ av _ h
  induction vs using YZ with
  |nil=>exact aN ρ rfl ((Y0 h).symm)
  |cons=>exact ai h
 |cons j is ih =>
  intro ρ av hn h
  induction vs using YZ with
  |nil=>exact ai h
  |cons u vs =>
   refine ih (ρ:=ρ.set j (some u)) (λq=>hn (Zt _ q)) ?_;have eZ:i≠j:=λq=>hn (q▸Zc);refine rwj (List.set_comm _ _ eZ) ?_;exact h
theorem Ve (hn:is.Nodup)(h:eC ρ is vs=some av):eC ρ is.reverse vs.reverse=some av:=by
 refine wv (C:=λis vs ρ av=>is.Nodup->eC ρ is.reverse vs.reverse=some av) (λY Y=>rfl) (λi is v vs ρ av h ih hn=>?_) h hn;rw[jaG]at hn;refine aa jbD ?_;refine aa jbD ?_;refine au (Vd (λq=>hn.1 (jfD.mp q)) (ih hn.2)) ?_;rintro kB h1 rfl;exact Vc h1 rfl
end
section
def jV (ab:Env)(line:Nat):Expr->Option Str
 | .Name id pos=>if ab.kindOf id==some .local&&pos.line==line then some id else none
 |_=>none
theorem Wl (h:jV ab line (.Name x p)=some z):z=x:=bR h λY h=>(Y0 h).symm
theorem Wk:∀{xs:List Str},gh ts=some xs->(ts.filterMap (jV ab line)).length=ts.length->ts.filterMap (jV ab line)=xs:=by
 induction ts with
 |nil=>exact λh Y=>Y0 h
 |cons t ts ih =>
  refine λh=>H6 (C:=λt xs=>((t::ts).filterMap (jV ab line)).length=(t::ts).length->(t::ts).filterMap (jV ab line)=xs) h λx p ys hy hl=>?_
  induction hq:jV ab line (.Name x p)using ae with
  |none =>
   rw[List.filterMap_cons_none hq]at hl;exact absurd (List.length_filterMap_le (jV ab line) ts) (by refine aa hl ?_;exact jhv _)
  |some z =>
   rw[List.filterMap_cons_some hq]at hl ⊢;refine aa (ih hy (jcB hl)) ?_;refine aa (Wl hq) ?_;rfl
set_option tactic.hygienic true in
theorem V2 (lb:gh ts=some xs)(oi:(!vs.all (jdf 8)||vs.all (jdx 8))=true):
 jfy [.Tuple ts k tp] (.Tuple vs k2 p2) ab=pure none\/jfy [.Tuple ts k tp] (.Tuple vs k2 p2) ab=pure (some xs):=by
 unfold jfy;dsimp only;split
 ·exact .inl rfl
 split
 ·exact .inl rfl
 split
 ·exact .inl rfl
 rename_i c3;split
 ·exact .inl rfl
 rename_i c4;split
 ·rename_i c5;exfalso;rw[c5]at oi;simp at oi;exact c4 (by simpa using oi)
 right;have Cd:¬((ts.filterMap (jV ab ((ts.head?.map (·.pos.line)).getD 0))).length != ts.length||(ts.filterMap (jV ab ((ts.head?.map (·.pos.line)).getD 0))).eraseDups.length != (ts.filterMap (jV ab ((ts.head?.map (·.pos.line)).getD 0))).length)=true:=c3;have hl:(ts.filterMap (jV ab ((ts.head?.map (·.pos.line)).getD 0))).length=ts.length:=by
  simp only[jbl,not_or]at Cd;exact Decidable.byContradiction λq=>Cd.1 (bne_iff_ne.mpr q)
 have:=Wk lb hl;show(pure (some (ts.filterMap (jV ab ((ts.head?.map (·.pos.line)).getD 0)))):Sem (Option (List Str)))=_;refine aa this ?_;rfl
theorem VP:lH A ab xs (xs.map λn=>bindName ab n):=by
 induction xs with
 |nil=>exact .nil
 |cons x xs ih=>exact .cons (λv Q E s h=>wpAny_bindName h) ih
theorem SW {α γ:Type}{f:α->Option γ}{xg:List α}{xq:List γ}(h2:xg.mapM f=some xq){as:List α}:∀{bs:List γ},as.mapM f=some bs->(as++xg).mapM f=some (bs++xq):=by
 induction as with
 |nil=>exact λh1=>aG (Q:=λbs=>xg.mapM f=some (bs++xq)) h1 h2
 |cons a as ih =>
  intro bs h1;refine bS (to h1) ?_;rintro b cs rfl e1 e2;refine aa jdb ?_;refine aa jgl ?_;refine aa e1 ?_;refine aa (ih e2) ?_;rfl
theorem SX {α γ:Type}{f:α->Option γ}{as:List α}:∀{bs:List γ},as.mapM f=some bs->as.reverse.mapM f=some bs.reverse:=by
 induction as with
 |nil =>
  intro bs h;refine aa (show bs=[]from(Y0 h).symm) ?_;rfl
 |cons a as ih =>
  intro bs h;refine bS (to h) ?_;rintro b cs rfl e1 e2;refine aa jbD ?_;refine aa jbD ?_;refine SW ?_ (ih e2);refine aa jgl ?_;refine aa e1 ?_;rfl
theorem Il (S:SR G sB aj ah ab T φ ρ σ β P m s)(hx:∀b o,b≠s.heap.objs.size->s.heap.get? b=some o->h'.get? b=some o)(hz:s.heap.objs.size<=h'.objs.size):GX G s φ { s with heap:=h' } φ :=
 .same S.er.tk ⟨⟨h',s.toks,rfl,λb o e=>hx b o (jaz (Zr e)) e⟩,hz⟩ (Y2 _)
theorem Xa (F:a0 G A Φ sB ah ab T)(he:eO Φ ρ σ xs (bf T es)=some (vs,an))(hc:∀x e,(x,e)∈xs.zip es->x.2=true->eK e=true)(S:SR G sB aj ah ab T φ ρ σ β P m s)(hl:∀{h:jag}{φ:Gh}{β:List Zb}{P:Zb->Prop}{ys:List Value},ar G.tok φ h β P vs ys->ys.length<=1000)(hQ:∀a ys ak ay dc cC da,SR G sB aj ah ab T ay ρ an dc cC da ak->br G ab T s φ σ β P ak ay an dc cC->jge ak.heap a ys.toArray->ar G.tok ay ak.heap dc cC vs ys->Q (.ref a) ak):
 Y7 (Y9 af wd) A (Z7 (.Tuple es k2 p2) ab) Q ax s:=by
 refine jhJ (up ((MM F he hc).2 S) λys ak aX=>?_);refine ka aX λay dc cC da aM bU aF=>?_;have aP:GX G ak ay { ak with heap:=ak.heap.push { cls:=.type "tuple",data:=.seq ys.toArray } } ay:=.same aM.er.tk bF.push (Y2 _);exact⟨d0 (YY (hl aF) (by decide)),hQ _ ys _ ay dc cC da (aM.go aP) (bU.trans (.go aP)) (Az _) (aM.er.vrs aP aF)⟩
theorem Vr {T:Tb}(F:a0 G A Φ sB ah ab T){ts es:List Expr}{k k2:Nat}{tp p2 pos:Pos}{xs:List Str}{is:List Nat}{tU:List Bool}{vs:List AV}(lb:gh ts=some xs)(eR:xs.mapM T.own=some is)(dh:is.Nodup)(aT:es.length<=1000)(PE:es.length=xs.length)(oi:(!es.all (jdf 8)||es.all (jdx 8))=true)(vJ:tU.length=is.length)(hc:∀x e,(x,e)∈(is.zip tU).zip es->x.2=true->eK e=true)(he:eO Φ ρ σ (is.zip tU) (bf T es)=some (vs,an))(hs:eC ρ is vs=some av):ca G A sB aj ah ab T ρ σ (ZX (.Assign [.Tuple ts k tp] (.Tuple es k2 p2) pos) ab) (.next av an):=by
 intro s φ β P m S;have vP:∀{h:jag}{φ:Gh}{β:List Zb}{P:Zb->Prop}{ys:List Value},ar G.tok φ h β P vs ys->ys.length=xs.length:=λr=>by refine rwj r.length ?_;refine rwj (HD hs) ?_;refine rwj (Aq eR) ?_;rfl
 have vL:=λ{Q}=>Xa F (k2:=k2) (p2:=p2) he hc S (Q:=Q) λr=>(vP r).symm▸PE▸aT;rcases V2 (ab:=ab) (k:=k) (k2:=k2) (tp:=tp) (p2:=p2) lb oi with zN|zN
 ·refine jfg (vL λa ys ak ay dc cC da aM bU ht r=>?_) A6 zN;refine yn (H7 (A:=A) (ab:=ab) lb) λgs g1 g2 g3 g4=>?_;rw[assign_Tuple];refine Y6 (jaT (Io F.hO.hA g1 (by refine aa (vP r) ?_;refine aa g3 ?_;refine aa g4 ?_;rfl) ht λh' hx hz=>?_));have aP:=Il aM hx hz;exact Bb F hs g2 eR (aM.go aP) (aM.er.vrs aP r) λdk ku ew dq=>⟨rfl,ay,dc,cC,ku,ew,bU.trans ((br.go aP).trans dq)⟩
 ·refine PyProof.Rows.Assign_Tuple_swapped (names:=xs) (vL λa ys ak ay dc cC da aM bU ht r=>?_) A6 zN;rw[show xs.length=ys.toArray.size by refine aa Zh ?_;refine aa (vP r) ?_;rfl];refine eF (unpackItems_tuple F.hO.hA ht λh' hx u=>?_);have aP:=Il aM hx u.size;exact Bb F (Ve dh hs) VP (SX eR) (aM.go aP) (by simpa using(aM.er.vrs aP r).reverse) λdk ku ew dq=>⟨rfl,ay,dc,cC,ku,ew,bU.trans ((br.go aP).trans dq)⟩
end
section
set_option tactic.hygienic true in
theorem br.mutate (hi:σ[i]?=some o)(hg:o≠AO.gone)(ha:β[i]?=some a)(hs:Z1 a s.heap h'):br G ab T s φ σ β P { s with heap:=h',toks:=t } φ (σ.set i o') β P where
 keep:=λb ob hb e=>hs.extBut b ob (λq=>by
  subst q;have:=hb.2 i ha;rw[hi]at this;exact hg (Y0 this)) e
 still:=λb Y hb=>⟨hb.1,λj hj=>by
  have:=hb.2 j hj;refine aa jbh ?_;split
  ·rename_i q;subst q;rw[hi]at this;exact absurd (Y0 this) hg
  ·exact this⟩
 pm:=λY p Y=>p
 sub:=λY Y e=>e
 pre:=Zg _
 size:=ZG hs.1.symm
 pn:=λY Y p=>.inl p
 bn:=λY h Y=>h
set_option tactic.hygienic true in
theorem br.settle (ha:β[i]?=some a):br G ab T s φ σ β P s φ (σ.set i .gone) β (λb=>P b\/b=a) where
 keep:=λY Y Y e=>e
 still:=λb Y hb=>⟨hb.1,λj hj=>by
  have:=hb.2 j hj;refine aa jbh ?_;split
  ·rename_i q;subst q;have hl:=(Zw.mp this).1;refine aa (if_pos hl) ?_;rfl
  ·exact this⟩
 pm:=λY p Y=>.inl p
 sub:=λY Y e=>e
 pre:=Zg _
 size:=Y2 _
 pn:=λb Y p=>p.elim .inl λq=>.inr (by refine aa q ?_;exact ZB ha)
 bn:=λY h Y=>h
theorem Gr {h:jag}(hl:h.PlainList a xs):∃ob,h.get? a=some ob/\∀v,ob.data≠.cell v:=let⟨n,e⟩:=hl;⟨_,e,λv q=>nomatch q⟩
theorem SR.listAt {G:GD}{s:Y1}{i:Nat}{a:Zb}{xs:List AV}{Q:Prop}(S:SR G sB aj ah ab T φ ρ σ β P m s)(hi:σ[i]?=some (.list xs))(ha:β[i]?=some a)(k:∀ys,s.heap.PlainList a ys.toArray->ar G.tok φ s.heap β P xs ys->Q):Q:=by
 refine au (S.er.objs i _ hi (λq=>nomatch q)) λb h1 h2=>?_;exact OR.e_list (Y0 (ha.symm.trans h1)▸h2) k
theorem SR.relist {σ:aA}{G:GD}{s:Y1}{h':jag}{ys t8:List Value}(S:SR G sB aj ah ab T φ ρ σ β P m s)(hi:σ[i]?=some (.list xs))(ha:β[i]?=some a)(hs:Z1 a s.heap h')(ht:s.toks<=t)(hl:s.heap.PlainList a ys.toArray)(hZ:h'.PlainList a t8.toArray)(r:ar G.tok φ s.heap β P iZ t8):
 gk G sB aj ah ab T s φ σ β P ρ (σ.set i (.list iZ)) { s with heap:=h',toks:=t }:=
 have oe:=S.live i a _ ha hi (λq=>nomatch q)
 ⟨φ,β,P,m,S.mutate hi (λq=>nomatch q) ha (λq=>nomatch q) hs ht (Gr hl) (.list hZ (r.mono (λY Y e=>e) (λb o p e=>⟨hs.extBut b o (λq=>oe (q▸p)) e,p⟩) (Zg _))),.mutate hi (λq=>nomatch q) ha hs⟩
theorem gk.after (C:br G ab T s φ σ β P s' am an aH P')(h:gk G sB aj ah ab T s' am an aH P' kB gR aC):gk G sB aj ah ab T s φ σ β P kB gR aC :=
 h.elim λeT h=>h.elim λoZ h=>h.elim λo8 h=>h.elim λku h=>vV eT oZ o8 ku h.1 (C.trans h.2)
theorem Eh {φ:Gh}{β:List Zb}{P:Zb->Prop}{tk:Zb}{h:jag}{a:Zb}{u r:AV}(e:aY [] 6 u=some r)(r':VR tk φ h β (λb=>P b\/b=a) u (.ref a)):VR tk φ h β (λb=>P b\/b=a) r (.ref a):=
 (yQ cr.nil (λa p=>p) (λi a e=>by simp at e) 6 e r').anyβ
theorem Eg {j:Nat}{r:AV}{Q:Prop}(e:lS σ j=some r)(k1:∀vs,σ[j]?=some (.list vs)->aY [] 6 (.lst vs)=some r->Q)(k2:∀es,σ[j]?=some (.dict es)->aY [] 6 (.dct es)=some r->Q):Q:=by
 unfold lS at e
 induction hj:σ[j]? using ae with
 |none=>rw[hj]at e;exact ai e
 |some o =>
  rw[hj]at e
  induction o using AO.casesOn with
  |list vs=>exact k1 vs hj e
  |dict es=>exact k2 es hj e
  |gone=>exact ai e
theorem OF {σ:aA}{φ:Gh}{β:List Zb}{P:Zb->Prop}{tk:Zb}{h:jag}{j:Nat}{a:Zb}{r:AV}(O:cr tk φ h β P σ)(ha:β[j]?=some a)(e:lS σ j=some r):VR tk φ h β (λb=>P b\/b=a) r (.ref a):=by
 refine Eg e (λvs hj e=>?_) λes hj e=>?_
 ·refine au (O j _ hj (λq=>nomatch q)) λb h1 h2=>?_;exact OR.e_list (Y0 (ha.symm.trans h1)▸h2) λys e' r'=>Eh e (.lst e' (.inr rfl) (r'.weak λY p=>.inl p))
 ·refine au (O j _ hj (λq=>nomatch q)) λb h1 h2=>?_;exact OR.e_dict (Y0 (ha.symm.trans h1)▸h2) λks vs xs e0 hl e' r'=>Eh (e0▸e) (.dct e' (.inr rfl) hl (r'.weak λY p=>.inl p))
theorem Av:rn "list" "append" "list.append" := ⟨jcv,PySem.F.slot_list_append,PySem.F.type_list_append⟩
theorem Aw:rn "list" "reverse" "list.reverse" := ⟨jcv,jfM,PySem.F.type_list_reverse⟩
theorem B1 {σ:aA}{G:GD}{s:Y1}{i:Nat}{a:Zb}{xs:List AV}{v:AV}{y:Value}(S:SR G sB aj ah ab T φ ρ σ β P m s)(hi:σ[i]?=some (.list xs))(ha:β[i]?=some a)(aT:xs.length<=100000)(r:VR G.tok φ s.heap β P v y){Q:Value->Y1->Prop}{E:Value->Y1->Prop}(hQ:∀s',gk G sB aj ah ab T s φ σ β P ρ (σ.set i (.list (xs++[v]))) s'->Q .none s'):Y7 (Y9 af wd) A (call (.builtin "list.append") [.ref a,y]) Q E s :=
 S.listAt hi ha λys e rs=>jhG e (λh' hZ hs=>hQ _ (S.relist (t:=s.toks) hi ha hs (Y2 _) e (t8:=ys++[y]) (by simpa using hZ) (rs.append (.single r)))) (by refine aa Zh ?_;refine rwj rs.length ?_;exact d0 aT)
theorem GY {Q:jeu->Y1->Prop}{t:Sem Value}(h:Y7 (Y9 af wd) A t (λv s'=>v=.none/\Q .next s') ax s):Y7 (Y9 af wd) A t (λv s'=>match v with | .ref _=>False|_=>Q .next s') ax s :=
 up h λv s' qq=>bN qq λe q=>by subst e;exact q
theorem VR.refOf (r:VR tk φ h β P (.ref i) x):∃a,x=.ref a/\β[i]?=some a:=r.e_ref λa e=>aN a rfl e
theorem Hv (hi:σ[i]?=some (.list xs)):aQ σ (.ref i)=some xs:=by
 show(match σ[i]? with|some (.list vs)=>some vs|_=>none)=_;refine aa hi ?_;rfl
theorem Jk (F:a0 G A Φ sB ah ab T)(bY:fe o 1 ap p=true)(ho:ev Φ σ ρ (ao T o)=some (.ref i))(he:ev Φ σ ρ (ao T e)=some v)(hi:σ[i]?=some (.list xs))(S:SR G sB aj ah ab T φ ρ σ β P m s)(hQ:∀a y s' am,SR G sB aj ah ab T am ρ σ β P m s'->br G ab T s φ σ β P s' am σ β P->β[i]?=some a->VR G.tok am s'.heap β P v y->Y7 (Y9 af wd) A (call (.builtin "list.append") [.ref a,y]) Q ax s'):Y7 (Y9 af wd) A (Z7 (.Call (.Attribute o "append" ap) [e] [] p) ab) Q ax s :=
 cu bY λbY h3=>cu bY λh1 h2=>by
  have iL:=tr he;have zJ:[e].all f9=true:=(jfc _).trans iL;refine jbq (pr h1) ?_ h2 ((cH F.hO _ o (Y2 _) ab T ρ _ F.hE ho).1.post (S.inv F.IB) S.er λx ak ay aw bb aI aF=>?_)
  ·refine aa (A8 zJ) ?_;rfl
  ·have tQ:=zO (s:=ak) aI.objs (Hv hi) aF;refine au (VR.refOf aF) ?_;rintro a rfl hb;refine⟨"list","list.append",Av.pa,Av.slot,Av.ty,tQ.1,tQ.2,jaB (qS zJ) ?_⟩;have oD:=(j7 (G:=G) (A:=A) F.hE (es:=[e]) (vs:=[v]) (λe Y=>cH F.hO _ e (Y2 _)) (by rewrite [tX,Ic,mM];refine aa he ?_;rfl)).2 p;rw[iV iL]at oD ⊢;exact jdi (oD.post bb aI λys aC aU aP dJ bW bI=>bI.e1 λy ry=>hQ a y aC aU ((S.go aw).go aP) ((br.go aw).trans (.go aP)) hb ry)
theorem Vq {σ:aA}(F:a0 G A Φ sB ah ab T){o e:Expr}{ap p q:Pos}{i:Nat}{v:AV}{xs:List AV}{fl:Fl}(bY:fe o 1 ap p=true)(ho:ev Φ σ ρ (ao T o)=some (.ref i))(he:ev Φ σ ρ (ao T e)=some v)(hi:σ[i]?=some (.list xs))(aT:xs.length<=100000)(PK:(∃j r,v=.ref j/\i≠j/\lS σ j=some r/\fl=.next ρ ((σ.set j .gone).set i (.list (xs++[r]))))\/fl=.next ρ (σ.set i (.list (xs++[v])))):
 ca G A sB aj ah ab T ρ σ (ZX (.Expr (.Call (.Attribute o "append" ap) [e] [] p) q) ab) fl:=λs φ β P m S=>by
 refine jhV (GY (Jk F bY ho he hi S λa y aC aU bq cY hb ry=>?_)) F.hI rfl;rcases PK with⟨j,r,rfl,eZ,hf,rfl⟩|rfl
 ·refine au (VR.refOf ry) ?_;rintro b rfl zc;have hj:(σ[j]?).isSome=true:=Eg hf (λY h Y=>by refine aa h ?_;rfl) λY h Y=>by refine aa h ?_;rfl
  exact B1 (bq.settle F.hP₀ hj zc) (i:=i) (xs:=xs) (by refine aa (jhm (jev eZ)) ?_;exact hi) hb aT (OF bq.er.objs zc hf) λdk h=>⟨rfl,rfl,h.after (cY.trans (br.settle zc))⟩
 ·exact B1 bq hi hb aT ry λdk h=>⟨rfl,rfl,h.after cY⟩
theorem Vy {σ:aA}(F:a0 G A Φ sB ah ab T){o:Expr}{ap p q:Pos}{i:Nat}{xs:List AV}(bY:fe o 0 ap p=true)(ho:ev Φ σ ρ (ao T o)=some (.ref i))(hi:σ[i]?=some (.list xs))(aT:xs.length<=100000):
 ca G A sB aj ah ab T ρ σ (ZX (.Expr (.Call (.Attribute o "reverse" ap) [] [] p) q) ab) (.next ρ (σ.set i (.list xs.reverse))):=λs φ β P m S =>
 cu bY λbY h3=>cu bY λh1 h2=>by
  refine jhV (GY (jbq (pr h1) rfl h2 ((cH F.hO _ o (Y2 _) ab T ρ _ F.hE ho).1.post (S.inv F.IB) S.er λx ak ay aw bb aI aF=>?_))) F.hI rfl;have tQ:=zO (s:=ak) aI.objs (Hv hi) aF;refine au (VR.refOf aF) ?_;rintro a rfl ha;refine⟨"list","list.reverse",Aw.pa,Aw.slot,Aw.ty,tQ.1,tQ.2,jaB rfl (jbR ?_)⟩;have aM:=S.go aw;exact aM.listAt hi ha λys e rs=>Ss e (by refine rwj rs.length ?_;exact aT) λh' hZ hs=>⟨rfl,rfl,(aM.relist (t:=ak.toks) hi ha hs (Y2 _) e hZ rs.reverse).after (.go aw)⟩
end
section
variable {A:ZS}{ab:Env}{T:Tb}{ρ av:aB}{σ an iv:aA}{G:GD}{s s' cO:Y1}{φ am kC:Gh}{β aH ud:List Zb}{P P' rq ah:Zb->Prop}{m m':Str->Option Value}{tk:Zb}{h h':jag}
variable {sB:Y1}{aj:Gh}{Φ:cX}
theorem B0 {γ:Type}{k:Int}{ks:List Int}{vs:List γ}(h:ks.length<=vs.length):(ks.zip vs).any (λe=>decide (e.1=k))=ks.any (λe=>decide (e=k)):=by
 have:((ks.zip vs).map jhj).any (λe=>decide (e=k))=(ks.zip vs).any (λe=>decide (e.1=k)):=List.any_map;refine rwj this ?_;refine aa (jim h) ?_;rfl
theorem Jj {γ δ:Type}{k:Int}{ks:List Int}{vs:List γ}{xs:List δ}(hl:ks.length=vs.length)(h:vs.length=xs.length):(ks.zip vs).any (λe=>decide (e.1=k))=(ks.zip xs).any (λe=>decide (e.1=k)):=
 (B0 (ZG hl)).trans (B0 (ZG (hl.trans h))).symm
theorem Ho {γ:Type}{k k':Int}{u v:γ}{ks:List Int}{vs cW:List γ}(h:(ks.zip vs).map (λe=>if e.1=k then(e.1,u)else e)=ks.zip cW):((k'::ks).zip (v::vs)).map (λe=>if e.1=k then(e.1,u)else e)=(k'::ks).zip ((if k'=k then u else v)::cW):=by
 refine aa jbc ?_;refine aa Zy ?_;refine aa h ?_;refine aa jbc ?_;by_cases q:k'=k
 ·refine aa (if_pos q) ?_;refine aa (if_pos q) ?_;rfl
 ·refine aa (if_neg q) ?_;refine aa (if_neg q) ?_;rfl
theorem S4 {k:Int}{u:AV}{y:Value}(ry:VR tk φ h β P u y){vs:List AV}{xs:List Value}(r:ar tk φ h β P vs xs):∀{ks:List Int},ks.length=vs.length ->
 ∃cW iZ,(ks.zip vs).map (λe=>if e.1=k then(e.1,u)else e)=ks.zip cW/\(ks.zip xs).map (λe=>if e.1=k then(e.1,y)else e)=ks.zip iZ/\ks.length=cW.length/\ar tk φ h β P cW iZ:=by
 refine ar.ind (motive:=λvs xs=>∀{ks:List Int},ks.length=vs.length->∃cW iZ,(ks.zip vs).map (λe=>if e.1=k then(e.1,u)else e)=ks.zip cW/\(ks.zip xs).map (λe=>if e.1=k then(e.1,y)else e)=ks.zip iZ/\ks.length=cW.length/\ar tk φ h β P cW iZ) (λ{ks} hl=>?_) (λ{v x vs xs} a r ih ks hl=>?_) r
 ·induction ks using YZ with
  |nil=>exact vT [] [] rfl rfl rfl (.nil)
  |cons=>cases hl
 ·induction ks using YZ with
  |nil=>cases hl
  |cons k' ks =>
   refine n5 (ih (jcB hl)) λcW iZ h1 h2 h3 h4=>?_;refine vT _ _ (Ho h1) (Ho h2) (congrArg jbY h3) (.cons ?_ h4);by_cases q:k'=k
   ·refine aa (if_pos q) ?_;refine aa (if_pos q) ?_;exact ry
   ·refine aa (if_neg q) ?_;refine aa (if_neg q) ?_;exact a
theorem IJ {γ:Type}{k:Int}{v:γ}{ks:List Int}{vs:List γ}(h:ks.length=vs.length):ks.zip vs++[(k,v)]=(ks++[k]).zip (vs++[v]):=(List.zip_append (r₁:=[k]) (r₂:=[v]) h).symm
theorem UM {k:Int}{u:AV}{y:Value}{ks:List Int}{vs:List AV}{xs:List Value}(ry:VR tk φ h β P u y)(hl:ks.length=vs.length)(r:ar tk φ h β P vs xs):
 ∃(nf:List Int) (cW:List AV) (iZ:List Value),dictPut (ks.zip vs) k u=nf.zip cW/\stored (ks.zip xs) k y=nf.zip iZ/\nf.length=cW.length/\ar tk φ h β P cW iZ:=by
 have ha:=Jj (k:=k) (ks:=ks) hl r.length;unfold dictPut stored;by_cases q:((ks.zip vs).any λe=>decide (e.1=k))=true
 ·refine aa (if_pos q) ?_;refine aa (if_pos (ha▸q)) ?_;refine n5 (S4 (k:=k) ry r hl) λcW iZ h1 h2 h3 h4=>?_;exact vU ks cW iZ h1 h2 h3 h4
 ·refine aa (if_neg q) ?_;refine aa (if_neg (ha▸q)) ?_;exact vU (ks++[k]) (vs++[u]) (xs++[y]) (IJ hl) (IJ (hl.trans r.length)) (by simp[hl]) (r.append (.single ry))
theorem HZ {e o i:Expr}{p:Pos}{line:Nat}:jfh e (some (.Subscript o i p)) line ab=pure false:=by
 cases e<;>rfl
theorem CU {a:Zb}{aJ:List (Int×Value)}(hd:h.DictOf (jal af wd) a aJ):∃ob,h.get? a=some ob/\∀v,ob.data≠.cell v:=by
 refine kW hd λo es ep ho Y zh Y=>?_;exact aN o ho (λv q=>by rw[zh]at q;cases q)
theorem SR.dictAt {i:Nat}{a:Zb}{es:List (Int×AV)}{Q:Prop}(S:SR G sB aj ah ab T φ ρ σ β P m s)(hi:σ[i]?=some (.dict es))(ha:β[i]?=some a)(k:∀(ks:List Int) (vs:List AV) (xs:List Value),es=ks.zip vs->ks.length=vs.length->s.heap.DictOf (jal af wd) a (ks.zip xs)->ar G.tok φ s.heap β P vs xs->Q):Q:=by
 refine au (S.er.objs i _ hi (λq=>nomatch q)) λb h1 h2=>?_;exact OR.e_dict (Y0 (ha.symm.trans h1)▸h2) k
theorem UJ {i:Nat}{a:Zb}{kk:Int}{t:Tok}{u:AV}{xv:Value}{es:List (Int×AV)}(S:SR G sB aj ah ab T φ ρ σ β P m s)(hi:σ[i]?=some (.dict es))(ha:β[i]?=some a)(aT:es.length<=100000)(ru:VR G.tok φ s.heap β P u xv):
 Y7 (Y9 af wd) A (setItem (.ref a) (.int kk t) xv) (λY s'=>gk G sB aj ah ab T s φ σ β P ρ (σ.set i (.dict (dictPut es kk u))) s') ax s :=
 S.dictAt hi ha λks vs ys e0 hl e rs=>by
  have oe:=S.live i a _ ha hi (λq=>nomatch q);refine kW (UM (k:=kk) ru hl rs) λnf cW t8 p1 p2 p3 p4=>?_;refine aa e0 ?_;refine aa p1 ?_;refine wpAny_setItem_pairs (knd:=jal af wd) (k:=kk) (jea _ _ _ _) e (λh' hd hs=>?_) (d0 (YY (ZG ?_) aT))
  ·rw[p2]at hd;exact vV φ β P m (S.mutate (t:=s.toks+1) hi (λq=>nomatch q) ha (λq=>nomatch q) hs (ZV _) (CU e) (.dict hd p3 (p4.mono (λY Y e=>e) (λb o p e=>⟨hs.extBut b o (λq=>oe (q▸p)) e,p⟩) (Zg _)))) (.mutate hi (λq=>nomatch q) ha hs)
  ·refine aa e0 ?_;refine aa jbi ?_;refine aa jbi ?_;refine aa rs.length ?_;rfl
theorem Vv (F:a0 G A Φ sB ah ab T){x:Str}{px sp pos:Pos}{k v:Expr}{n i:Nat}{kk:Int}{u:AV}{es:List (Int×AV)}(hx:T.var x=some n)(fv:ρ[n]?=some (some (.ref i)))
 (hv:ev Φ σ ρ (ao T v)=some u) (fJ:u.scalar=true) (hk:ev Φ σ ρ (ao T k)=some (.int kk)) (hi:σ[i]?=some (.dict es)) (aT:es.length<=100000):
 ca G A sB aj ah ab T ρ σ (ZX (.Assign [.Subscript (.Name x px) k sp] v pos) ab) (.next ρ (σ.set i (.dict (dictPut es kk u)))):=λs φ β P m S =>
 jhN ((cH F.hO _ v (Y2 _) ab T ρ _ F.hE hv).1.post (S.inv F.IB) S.er λxv ak ay aw bb aI aF=>(xZ F.hE hx fv).post bb aI λxo aC aU aP dJ bW bI =>
  (cH F.hO _ k (Y2 _) ab T ρ _ F.hE hk).1.post dJ bW λxk dk eT cn rk i3 jn=>by
   refine au (VR.refOf bI) ?_;rintro a rfl ha;have qw:=(aw.trans aP).trans cn;exact jn.e_int λt=>up (UJ (S.go qw) hi ha aT (aF.scalar fJ λt y e=>cn.sub t y (aP.sub t y e))) λY s' h=>⟨rfl,h.after (.go qw)⟩) HZ
theorem C3 {x:Str}{i:Nat}{v:AV}(hE:bQ ab T)(hx:T.var x=some i)(hv:ρ[i]?=some (some v)):ES G A ab T ρ σ (loadName ab x) v:=by
 intro s φ β P m I R;refine au (R.names x i v hx hv) λv' r n=>?_;have hd:=Hj hx;rcases n with⟨k,e⟩|⟨c,e,k,i⟩
 ·exact jiv hE.kind k R.ns e ⟨φ,GX.refl R.tk,r⟩
 ·rcases k with k|k
  ·exact jft hE.kind k e i ⟨φ,GX.refl R.tk,r⟩
  ·exact jfs hE.kind k e i ⟨φ,GX.refl R.tk,r⟩ hd.2
theorem Jr {C:Operator->AV->AV->Prop}{op:Operator}{a b:AV}(h:lJ op a b=true)(h1:∀i j,C .FloorDiv (.int i) (.int j))(h2:∀x y,C .Add (.str x) (.str y)):C op a b:=by
 induction op using jdy with
 |FloorDiv =>
  induction a using AV.casesOn with
  |int i=>induction b using AV.casesOn with
   |int j=>exact h1 i j
   |_=>exact bP h
  |_=>exact bP h
 |Add =>
  induction a using AV.casesOn with
  |str i=>induction b using AV.casesOn with
   |str j=>exact h2 i j
   |_=>exact bP h
  |_=>exact bP h
 |_=>exact bP h
theorem Js {i j:Int}{r:AV}{x y:Value}(hr:dE σ .FloorDiv (.int i) (.int j)=some r)(K:aV φ s)(aF:VR G.tok am s'.heap β P (.int i) x)(bI:VR G.tok φ s.heap β P (.int j) y):Y7 (Y9 af wd) A (jdV .FloorDiv x y) (aK G.tok φ s β P r) ax s :=
 mG hr λhc hr=>aG (Q:=λr=>Y7 (Y9 af wd) A (jdV .FloorDiv x y) (aK G.tok φ s β P r) ax s) hr<|aF.e_int λgi=>bI.e_int λoW=>by
  have hs:small j=true:=by
   induction hq:small j using ZC with
   |true=>rfl
   |false=>exact absurd (.inr (by refine aa hq ?_;rfl)) hc
  exact jiN (λq=>hc (.inl (of_decide_eq_true q))) (by refine aa (AA hs) ?_;exact ZY) (fA K)
theorem Bd {u:List Nat}(h:(jby ⟨u.toArray⟩==0)=true):u=[]:=Z3.mp (Zh▸(eq_of_beq h:u.toArray.size=0))
theorem Jv {u v:List Nat}{r:AV}{x y:Value}(hr:dE σ .Add (.str u) (.str v)=some r)(K:aV φ s)(aF:VR G.tok am s'.heap β P (.str u) x)(bI:VR G.tok φ s.heap β P (.str v) y):Y7 (Y9 af wd) A (jdV .Add x y) (aK G.tok φ s β P r) ax s :=
 bR hr λaT hr=>aG (Q:=λr=>Y7 (Y9 af wd) A (jdV .Add x y) (aK G.tok φ s β P r) ax s) hr<|aF.e_str λgi=>bI.e_str λoW=>by
  refine PySem.P.iadd_str ?_;by_cases hu:u=[]
  ·subst hu;exact jT K (.str _ _)
  by_cases hv:v=[]
  ·subst hv;refine aa (ZZ _) ?_;refine aa (if_neg (mt Bd hu)) ?_;exact jT K (.str _ _)
  refine aa (if_neg (mt Bd hu)) ?_;refine aa (if_neg (mt Bd hv)) ?_;refine aa (HS _ _) ?_;exact⟨d0 (YY (ZG (Zh.trans Y8)) aT),nv K (ZV _)⟩
theorem Ju {op:Operator}{a b r:AV}{x y:Value}(bY:lJ op a b=true)(hr:dE σ op a b=some r)(K:aV φ s)(aF:VR G.tok am s'.heap β P a x)(bI:VR G.tok φ s.heap β P b y):Y7 (Y9 af wd) A (jdV op x y) (aK G.tok φ s β P r) ax s :=
 Jr (C:=λop a b=>dE σ op a b=some r->VR G.tok am s'.heap β P a x->VR G.tok φ s.heap β P b y->Y7 (Y9 af wd) A (jdV op x y) (aK G.tok φ s β P r) ax s) bY (λi j hr aF bI=>Js hr K aF bI) (λu v hr aF bI=>Jv hr K aF bI) hr aF bI
theorem Vs (F:a0 G A Φ sB ah ab T){x:Str}{px pos:Pos}{op:Operator}{e:Expr}{i:Nat}{old v r:AV}(hx:T.own x=some i)(fv:ρ[i]?=some (some old))(he:ev Φ σ ρ (ao T e)=some v)(bY:lJ op old v=true)
 (hr:dE σ op old v=some r):ca G A sB aj ah ab T ρ σ (ZX (.AugAssign (.Name x px) op e pos) ab) (.next (ρ.set i (some r)) σ):=λs φ β P m S =>
 jix ((C3 F.hE (tz hx).1 fv).post (S.inv F.IB) S.er λxo ak ay aw bb aI aF=>(cH F.hO _ e (Y2 _) ab T ρ _ F.hE he).1.post bb aI λxv aC aU aP dJ bW bI =>
  up (Ju bY hr aP.tk aF bI) λxr dk ⟨eT,cn,jn⟩=>nx F hx (((S.go aw).go aP).go cn.x) jn λeE jP gl jW Y=>⟨rfl,eT,β,P,jP,gl,(br.go ((aw.trans aP).trans cn.x)).trans jW⟩)
theorem Vj {i j:Nat}(fv:ρ[i]?=some (some (.ref j))):ρ.set i (some (.ref j))=ρ:=by
 refine aW (Zw.mp fv) λhl hg=>?_;refine rwj hg ?_;exact List.set_getElem_self hl
theorem Vt (F:a0 G A Φ sB ah ab T){x:Str}{px pos:Pos}{e:Expr}{i j:Nat}{v:AV}{xs ys:List AV}(hx:T.own x=some i)(fv:ρ[i]?=some (some (.ref j)))(he:ev Φ σ ρ (ao T e)=some v)(hi:σ[j]?=some (.list xs))
 (hv:aQ σ v=some ys) (aT:xs.length+ys.length<=100000):ca G A sB aj ah ab T ρ σ (ZX (.AugAssign (.Name x px) .Add e pos) ab) (.next ρ (σ.set j (.list (xs++ys)))):=λs φ β P m S =>
 jix ((C3 F.hE (tz hx).1 fv).post (S.inv F.IB) S.er λxo ak ay aw bb aI aF=>(cH F.hO _ e (Y2 _) ab T ρ _ F.hE he).1.post bb aI λxv aC aU aP dJ bW bI=>by
  have bq:=(S.go aw).go aP;refine au (VR.refOf aF) ?_;rintro a rfl ha;refine bS (Am bW.objs hv bI) ?_;rintro b zs rfl hb rb;refine bq.listAt hi ha λus e rs=>Ri e hb (by refine rwj rs.length ?_;refine rwj rb.length ?_;exact aT) λh' hZ hs=>?_;refine n6 (bq.relist (t:=aC.toks) hi ha hs (Y2 _) e hZ (rs.append rb)) λeT oZ o8 ku ew dq=>?_;have hc:oZ[j]?=some a:=dq.pre.elim λt e=>e▸(Zq (Zw.mp ha).1).trans ha;refine nx F hx ew (.ref hc) λeE jP gl jW Y=>⟨rfl,eT,oZ,o8,jP,?_,(br.go (aw.trans aP)).trans (dq.trans jW)⟩
  rw[Vj fv]at gl;exact gl)
end
section
def F9:Fn->Bool
 | .reversed=>true
 |_=>false
theorem N' (h:gv.lookup x=some .reversed):x=("reversed" : Str):=
 eq_of_beq (Y3.mp (show gv.all (λe=>!F9 e.2||e.1==("reversed" : Str))=true by decide +kernel) _ (mem_of_lookup h))
theorem Te (h:iU.lookup x=some .reversed):False :=
 bP (Y3.mp (show iU.all (λe=>!F9 e.2)=true by decide +kernel) _ (mem_of_lookup h))
theorem W0 (h:ao T e=.call .reversed (.cons a .nil)):∃p b pos,e=.Call (.Name ("reversed" : Str) p) [b] [] pos/\T.isGlobal ("reversed" : Str)=true/\a=ao T b:=by
 rcases wE h with⟨x,p,b,bs,pos,e1,hg,hl,e2⟩|⟨m,hl⟩|h|⟨h,_⟩
 ·have:=N' hl;rw[this]at e1 hg
  induction bs using YZ with
  |cons=>exact GV (bV.cons.inj e2).2
  |nil=>exact zX p b pos e1 hg (by injection e2)
 ·exact(Te hl).elim
 ·exact bP h
 ·exact bP h
def um (G:GD)(A:ZS)(s:Y1)(φ:Gh)(β:List Zb)(P:Zb->Prop)(it:Expr)(ab:Env)(vs:List AV):Prop :=
 (∀x,jcm it ab x=pure x)/\Y7 (Y9 af wd) A (Z7 it ab) (λx s'=>Y7 (Y9 af wd) A (jdH x) (λoI cO=>∃ak ay,GX G s φ ak ay/\jY A G.tok ay β P P ak vs oI cO) ax s') ax s
theorem RK (F:a0 G A Φ sB ah ab T)(hq:ao T it=.call .range as)(e:dU Φ σ ρ (.range as)=some vs)(I:bg G s.heap)(R:ER G φ ab T ρ σ β P m s):um G A s φ β P it ab vs:=by
 refine ka (Bn hq) ?_;rintro p b bs pos rfl hg rfl;rw[r8]at e
 induction cx:bX Φ σ ρ (bf T (b::bs))using ae with
 |none=>rw[cx]at e;exact ai e
 |some us =>
  rw[cx]at e;refine au (Zp.mp e) ?_;rintro is eR rfl;refine bN (j7 (G:=G) (A:=A) F.hE (λa Y=>cH F.hO _ a (Y2 _)) cx) λh1 h2=>?_;exact⟨λY=>rfl,xY F.hE F.hO.hG hg h1 (h2 _) eR I R λv s' am k rr=>up (HN F.hO.hA rr) λoI cO h=>cZ s' am k h⟩
theorem RL (F:a0 G A Φ sB ah ab T)(hq:ao T it=.call .reversed (.cons a .nil))(cx:ev Φ σ ρ a=some (.lst us))(I:bg G s.heap)(R:ER G φ ab T ρ σ β P m s):um G A s φ β P it ab us.reverse:=by
 refine j' (W0 hq) ?_;rintro p b pos rfl hg rfl;have iL:=tr cx;refine⟨λY=>rfl,jaC (jQ F.hE hg (.inr (F.hO.hG.types "reversed" (by simp))) I ?_)⟩;refine jbd (jcy ((cH F.hO _ b (Y2 _) ab T ρ _ F.hE cx).1.post I R λx ak ay aw bb aI aF=>jdg ?_) (iV iL)) (iV iL) rfl;refine aF.e_lst λa xs hl p r=>VG F.hO.hA hl.isList p r λoI s' hs hp=>up hp λYF cO q=>?_;refine aa q.1 ?_;refine aa q.2 ?_;exact cZ ak ay aw hs
theorem RM (F:a0 G A Φ sB ah ab T)(Qf:x.isRef=false)(hx:ev Φ σ ρ (ao T it)=some x)(e:oH σ x=some vs)(I:bg G s.heap)(R:ER G φ ab T ρ σ β P m s):um G A s φ β P it ab vs:=by
 refine⟨λY=>D6 hx,(cH F.hO _ it (Y2 _) ab T ρ _ F.hE hx).1.post I R λv ak ay aw bb aI aF=>?_⟩;refine up (HO F.hO.hA aI.objs aI.psys e aF) λoI aC h=>?_;refine yq h λo fp Pv St h1 h2 h3 h4 h5 h6=>?_;refine⟨ak,ay,aw,o,fp,Pv,St,h1,h2,h3,h4,λb hb=>(h5 b hb).imp id λq=>⟨q.1.elim id λq=>?_,q.2⟩,h6⟩;exact bP (Qf.symm.trans q.1)
theorem RJ (F:a0 G A Φ sB ah ab T)(e:lQ Φ ρ σ (fR (ao T it))=some vs)(I:bg G s.heap)(R:ER G φ ab T ρ σ β P m s):um G A s φ β P it ab vs:=by
 induction hq:fR (ao T it)using It.casesOn with
 |range as=>rw[hq]at e;exact RK F (te hq) e I R
 |rev a =>
  rw[hq,MS]at e
  induction hu:ev Φ σ ρ a using ae with
  |none=>rw[hu]at e;exact ai e
  |some u =>
   rw[hu]at e
   induction u using AV.casesOn with
   |lst us=>exact Y0 e▸RL F (te hq) hu I R
   |_=>exact ai e
 |val x =>
  rw[hq,show x=ao T it from te hq,C8]at e;clear hq
  induction hx:ev Φ σ ρ (ao T it)using ae with
  |none=>rw[hx]at e;exact ai e
  |some x =>
   rw[hx]at e
   induction x using AV.casesOn with
   |ref i=>exact ai e
   |_=>exact RM F rfl hx e I R
theorem SR.moved (S:SR G sB aj ah ab T φ ρ σ β P m s)(hn:sB.heap.objs.size<=I)(hI:¬P I)(ql:I∉β)(fI:¬mv G ab T I)(jb:∀x c,ab.cells.lookup x=some c->c≠I)(hk:∀b o,b≠I->s.heap.get? b=some o->h'.get? b=some o)(u:Up s { s with heap:=h',toks:=t }):SR G sB aj ah ab T φ ρ σ β P m { s with heap:=h',toks:=t }:=by
 have lV:¬G.X I:=λq=>fI (.inr (.inr q));have TT:=S.tabs.1.but (a:=I) hk lV λq=>hI (S.er.freshX I (.inr q));have R:=S.er.but (X:=(·=I)) (h':=h') (t:=t) S.tabs.1 (λb hb q=>lV (q▸hb)) (λb o hb e=>hk b o hb e) u.size u.toks (λa p q=>hI (q▸p)) (λa p q=>ql (q▸p)) (λq=>fI (.inl q.symm)) (λx c v hc hi q=>jb x c hc q);refine fq S.base λhh tt e=>?_;exact{ S with base:=jO h' t (by refine aa e ?_;rfl),old:=λb o hb e=>hk b o (sA hn e) (S.old b o hb e),size:=YY S.size u.size,er:=R,tabs:=⟨TT.1,λc q=>S.tabs.2 c (TT.2 c q)⟩ }
theorem br.moved (C:br G ab T ak ay gR dc cC s φ σ β P)(hI:ak.heap.objs.size<=I)(hk:∀b o,b≠I->s.heap.get? b=some o->h'.get? b=some o)(u:Up s { s with heap:=h',toks:=t }):br G ab T ak ay gR dc cC { s with heap:=h',toks:=t } φ σ β P :=
 { C with keep:=λb o hb e=>hk b o (λq=>Zo _ (be (q▸Zr e:I<ak.heap.objs.size) hI)) (C.keep b o hb e),size:=YY C.size u.size }
theorem SR.push_out (S:SR G sB aj ah ab T φ ρ σ β P m s):
 SR G sB aj ah ab T φ ρ σ β (fN P s.heap.objs.size (s.heap.objs.size+1)) m { s with heap:=s.heap.push o }/\br G ab T s φ σ β P { s with heap:=s.heap.push o } φ σ β (fN P s.heap.objs.size (s.heap.objs.size+1)):=by
 have hz:(s.heap.push o).objs.size=s.heap.objs.size+1:=ZL ..;have ext:ce s.heap (s.heap.push o):=λb o e=>Za _ e;have R:=S.er.grow_out (h':=s.heap.push o) (t:=s.toks) S.tabs.1 ext (by refine aa hz ?_;exact ZV _) (Y2 _);rw[hz]at R;refine fq S.base λhh tt e=>?_;refine⟨{ S with base:=jO (s.heap.push o) s.toks (by refine aa e ?_;rfl),old:=λb o hb e=>ext b o (S.old b o hb e),tabs:=⟨S.tabs.1.keeps ext,λc q=>S.tabs.2 c (iW ext S.tabs.1 c q)⟩,size:=YY S.size (by show _<=(s.heap.push o).objs.size;refine aa hz ?_;exact ZV _),er:=R,fr:=S.fr.sub λa p=>p.1,live:=λj a o h1 h2 h3 p=>S.live j a o h1 h2 h3 p.1,psub:=λa p=>S.psub a p.1 },
  ⟨λb o Y e=>ext b o e,λY Y h=>h,λa p hl=>⟨p,λq=>ZT.mpr q.1 hl⟩,λY Y e=>e,Zg _,by show _<=(s.heap.push o).objs.size;refine aa hz ?_;exact ZV _,λY Y p=>.inl p.1,λY h Y=>h⟩⟩
theorem Ov {f:aB->aA->AV->Option Fl}{v:AV}{vs:List AV}{fl:Fl}{Q:Prop}(h:eP f (v::vs) ρ σ=some fl)(h1:∀av an,f ρ σ v=some (.next av an)->eP f vs av an=some fl->Q)(h2:∀r,f ρ σ v=some (.ret r)->.ret r=fl->Q):Q:=by
 replace h:(match f ρ σ v with|some (.next av an)=>eP f vs av an|some (.ret r)=>some (.ret r)|none=>none)=some fl:=h
 induction hb:f ρ σ v using ae with
 |none=>rw[hb]at h;exact ai h
 |some x =>
  rw[hb]at h
  induction x using Fl.casesOn with
  |next av an=>exact h1 av an hb h
  |ret r=>exact h2 r hb (Y0 h)
theorem Ox {T:Tb}{ρ:aB}{G:GD}{s:Y1}(F:a0 G A Φ sB ah ab T){x:Str}{px:Pos}{body:List Stmt}{i:Nat}{v:AV}{vs:List AV}{xv:Value}{f:aB->aA->AV->Option Fl}{fl:Fl}{R:jeu->Y1->Prop}{E E':Value->Y1->Prop}(hx:T.own x=some i)(jd:∀v ρ σ fl,f ρ σ v=some fl->ca G A sB aj ah ab T (ρ.set i (some v)) σ (ZJ body ab) fl)(S:SR G sB aj ah ab T φ ρ σ β P m s)(rv:VR G.tok φ s.heap β P v xv)(hf:eP f (v::vs) ρ σ=some fl)(h1:∀av an s',eP f vs av an=some fl->gk G sB aj ah ab T s φ σ β P av an s'->R .next s')(h2:∀r fw s',.ret r=fl->o7 G sB aj ah ab T s φ σ β P (.ret r) fw s'->R fw s'):
 Y7 (Y9 af wd) A (jgZ (.Name x px) ab xv) (λY s'=>Y7 (Y9 af wd) A (ZJ body ab) R E' s') E s :=
 jen (nx F hx S rv λak da aM bU Y=>Ov hf
  (λav an hb hf=>up (jd v ρ σ _ hb ak φ β P da aM) λfw aC cy=>cy.1▸h1 av an aC hf (gk.after bU cy.2))
  (λr hb e=>up (jd v ρ σ _ hb ak φ β P da aM) λfw aC cy=>h2 r fw aC e cy))
structure o5 (G:GD) (sB:Y1) (aj:Gh) (ah:Zb->Prop) (ab:Env) (T:Tb) (ak:Y1) (ay:Gh) (σ:aA) (β:List Zb) (P:Zb->Prop) (I:Zb) (St:Nat->jag->Prop) (run:Nat->aB->aA->Prop) (j:Nat) (am:Gh) (av:aB) (an:aA) (aH:List Zb) (P':Zb->Prop) (m':Str->Option Value) (s':Y1):Prop where
 S:SR G sB aj ah ab T am av an aH P' m' s'
 C:br G ab T ak ay σ β P s' am an aH P'
 st:St j s'.heap
 nb:I∉aH
 np:¬P' I
 lt:I<s'.heap.objs.size
 run:run j av an
def BI (G:GD)(sB:Y1)(aj:Gh)(ah:Zb->Prop)(ab:Env)(T:Tb)(ak:Y1)(ay:Gh)(σ:aA)(β:List Zb)(P:Zb->Prop)(I:Zb)(St:Nat->jag->Prop)(run:Nat->aB->aA->Prop)(len n:Nat)(s':Y1):Prop :=
 ∃j am av an aH P' m',(n=len-j/\j<=len)/\o5 G sB aj ah ab T ak ay σ β P I St run j am av an aH P' m' s'
theorem Ou {ak:Y1}{ay:Gh}{I:Zb}{St:Nat->jag->Prop}{run:Nat->aB->aA->Prop}{len n:Nat}{Q:Prop}(h:BI G sB aj ah ab T ak ay σ β P I St run len n s')(k:∀j am av an aH P' m',n=len-j->j<=len->o5 G sB aj ah ab T ak ay σ β P I St run j am av an aH P' m' s'->Q):Q :=
 h.elim λj h=>h.elim λam h=>h.elim λav h=>h.elim λan h=>h.elim λaH h=>h.elim λP' h=>h.elim λm' h=>k j am av an aH P' m' h.1.1 h.1.2 h.2
theorem Ts (F:a0 G A Φ sB ah ab T)(S:SR G sB aj ah ab T φ ρ σ β P m s):¬mv G ab T s.heap.objs.size/\∀x c,ab.cells.lookup x=some c->c≠s.heap.objs.size :=
 ⟨λq=>Zo _ (G8 S q),λx c hc q=>by
  refine bB (S.er.celled x (F.hcl x c hc)) λc' dm e1 e2=>?_;exact Zo _ ((Y0 (hc.symm.trans e1)).symm.trans q▸e2.lt)⟩
section
theorem o5.moved {ab:Env}{T:Tb}{ρ:aB}{σ an:aA}{G:GD}{s:Y1}{φ:Gh}{β aH:List Zb}{P P' ah:Zb->Prop}{m:Str->Option Value}{h':jag}{sB:Y1}{aj:Gh}{ak:Y1}{ay:Gh}{I:Zb}{St:Nat->jag->Prop}{run:Nat->aB->aA->Prop}{j:Nat}{t:Tok}(H:o5 G sB aj ah ab T ak ay an aH P' I St run j φ ρ σ β P m s)(kg:sB.heap.objs.size<=I)(hI:ak.heap.objs.size<=I)(fI:¬mv G ab T I)(jb:∀x c,ab.cells.lookup x=some c->c≠I)(hk:∀b o,b ∉ [I]->s.heap.get? b=some o->h'.get? b=some o)(u:Up s { s with heap:=h',toks:=t }):
 SR G sB aj ah ab T φ ρ σ β P m { s with heap:=h',toks:=t }/\br G ab T ak ay an aH P' { s with heap:=h',toks:=t } φ σ β P :=
 have f8:∀b o,b≠I->s.heap.get? b=some o->h'.get? b=some o:=λb o hb e=>hk b o (λq=>hb (Zn.mp q)) e
 ⟨H.S.moved kg H.np H.nb fI jb f8 u,H.C.moved hI f8 u⟩
theorem o5.still {ab:Env}{T:Tb}{ρ:aB}{σ an:aA}{G:GD}{s:Y1}{φ:Gh}{β aH:List Zb}{P P' ah:Zb->Prop}{m:Str->Option Value}{sB:Y1}{aj:Gh}{ak:Y1}{ay:Gh}{I:Zb}{St:Nat->jag->Prop}{run:Nat->aB->aA->Prop}{j:Nat}{fp:List Zb}(H:o5 G sB aj ah ab T ak ay an aH P' I St run j φ ρ σ β P m s){kB:aB}{da:Str->Option Value}(aM:SR G sB aj ah ab T ay kB an aH P' da ak)(fI:¬mv G ab T I)(k9:∀b∈fp,b=I\/P' b/\b<ak.heap.objs.size):∀b∈fp,ph G ab T σ β b:=λb hb =>
 (k9 b hb).elim (λe=>e▸⟨fI,λk hk=>absurd (ZB hk) H.nb⟩) λq=>H.C.still b q.2 (aM.stillP q.1)
end
theorem J4 {α:Type}{t:Sem α}{K:α->Y1->Prop}{E:Value->Y1->Prop}(h:∀Q:α->Y1->Prop,(∀a s',K a s'->Q a s')->Y7 (Y9 af wd) A t Q E s):Y7 (Y9 af wd) A t K E s:=h K λY Y h=>h
theorem Vu {T:Tb}{ρ:aB}(F:a0 G A Φ sB ah ab T){x:Str}{px pos:Pos}{iter:Expr}{body:List Stmt}{i:Nat}{vs:List AV}{f:aB->aA->AV->Option Fl}{fl:Fl}(hx:T.own x=some i)(jg:lQ Φ ρ σ (fR (ao T iter))=some vs)(jd:∀v ρ σ fl,f ρ σ v=some fl->ca G A sB aj ah ab T (ρ.set i (some v)) σ (ZJ body ab) fl)(hf:eP f vs ρ σ=some fl):ca G A sB aj ah ab T ρ σ (ZX (.For (.Name x px) iter body [] pos) ab) fl:=by
 intro s φ β P m S;refine J4 λK hK=>?_;have hs:=RJ F jg (S.inv F.IB) S.er;refine PySem.wpAny_For (jan hs.2 (λxv ff aL=>jan aL (λoI aC cy=>cy.elim λak cy=>cy.elim λay cy=>?_) λY Y e=>e) λY Y e=>e) hs.1;have aw:=cy.1;refine src_elim cy.2 λo fp Pv St W cM k9 PZ=>?_;clear cy hs;have aM:=S.go aw;refine bN (aM.push_out (o:=o)) λbq cY=>?_;refine bN (Ts F aM) λfI jb=>?_;have kg:=aM.size;refine codeAny_forLoop (BI G sB aj ah ab T ak ay σ β P ak.heap.objs.size St (λj ρ σ=>eP f (vs.drop j) ρ σ=some fl) vs.length)
  (λn s' hI=>?_) vs.length ⟨0,ay,ρ,σ,β,_,m,⟨rfl,jaU _⟩,bq,cY,cM,λq=>Zo _ (aM.er.blt _ q),λp=>p.2 ⟨Y2 _,jaf _⟩,by show _<(ak.heap.push o).objs.size;refine aa (ZL _ _) ?_;exact jaf _,hf⟩ (λY=>rfl)
 refine Ou hI λj am av an aH P' m' hn hj H=>?_;subst hn;clear hI;have oq:=H.run;rcases Nat.eq_or_lt_of_le hj with jJ|jJ
 ·rw[jJ,jio]at oq;refine eF (W.done s' _ _ (jJ▸H.st) λh' t hk u=>?_);refine bN (H.moved kg (Y2 _) fI jb hk u) λew dq=>?_;exact wpAny_execs_nil (hK _ _ (aG (Q:=λfl=>o7 G sB aj ah ab T s φ σ β P fl .next _) oq ⟨rfl,am,aH,P',m',ew,(br.go aw).trans dq⟩))
 ·rw[jcp jJ]at oq;refine eF (W.item j s' _ _ jJ H.st λxv h' t vb oE hk u=>?_);refine bN (H.moved kg (Y2 _) fI jb hk u) λew dq=>?_;refine au (PZ j xv vb) λv hv rv=>?_;rw[Y' jJ]at hv;have zv:ak.heap.objs.size<h'.objs.size:=be H.lt u.size;refine Ox F hx jd ew (aM.carry dq (Y0 hv▸rv)) oq (λX1 X3 dO PP lf=>?_) λr fw dO e lf=>?_
  ·refine n6 lf λwO IN BK Ax rA nF=>?_;exact⟨vs.length-(j+1),Nat.sub_succ_lt_self _ _ jJ,j+1,wO,X1,X3,IN,BK,Ax,⟨rfl,jJ⟩,rA,dq.trans nF,W.frame _ _ _ oE λb hb o e=>nF.keep b o (H.still aM fI k9 b hb) e,λq=>H.nb (nF.bn _ q zv),λp=>(nF.pn _ zv p).elim H.np H.nb,be zv nF.size,PP⟩
  ·refine au lf ?_;rintro y rfl lf;exact hK _ _ (e▸⟨y,rfl,lf⟩)
theorem XB {c:aB->aA->Option AV}{f:aB->aA->Option Fl}{k:Nat}{fl:Fl}{Q:Prop}(h:jr c f (k+1) ρ σ=some fl)(h1:∀av an,c ρ σ=some (.bool true)->f ρ σ=some (.next av an)->jr c f k av an=some fl->Q)(h2:∀r,c ρ σ=some (.bool true)->f ρ σ=some (.ret r)->.ret r=fl->Q)(h3:c ρ σ=some (.bool false)->.next ρ σ=fl->Q):Q:=by
 rw[Br]at h
 induction hc:c ρ σ using ae with
 |none=>rw[hc]at h;exact ai h
 |some v =>
  rw[hc]at h
  induction v using AV.casesOn with
  |bool b =>
   induction b using ZC with
   |false=>exact h3 hc (Y0 h)
   |true =>
    induction hb:f ρ σ using ae with
    |none=>rw[hb]at h;exact ai h
    |some x =>
     rw[hb]at h
     induction x using Fl.casesOn with
     |next av an=>exact h1 av an hc hb h
     |ret r=>exact h2 r hc hb (Y0 h)
  |_=>exact ai h
theorem XC (F:a0 G A Φ sB ah ab T){c:Expr}{body:List Stmt}{f:aB->aA->Option Fl}{fl:Fl}{k:Nat}{R R':jeu->Y1->Prop}{E:Value->Y1->Prop}(jd:∀ρ σ fl,f ρ σ=some fl->ca G A sB aj ah ab T ρ σ (ZJ body ab) fl)(hf:jr (λρ σ=>ev Φ σ ρ (ao T c)) f (k+1) ρ σ=some fl)(S:SR G sB aj ah ab T φ ρ σ β P m s)(h1:∀av an s',jr (λρ σ=>ev Φ σ ρ (ao T c)) f k av an=some fl->gk G sB aj ah ab T s φ σ β P av an s'->R .next s')(h2:∀r fw s',.ret r=fl->o7 G sB aj ah ab T s φ σ β P (.ret r) fw s'->R fw s')(h3:∀s',.next ρ σ=fl->gk G sB aj ah ab T s φ σ β P ρ σ s'->R' .next s'):
 Y7 (Y9 af wd) A (jbm c ab (Z7 c ab)) (λb aC=>if b then Y7 (Y9 af wd) A (ZJ body ab) R E aC else Y7 (Y9 af wd) A (ZJ [] ab) R' E aC) E s:=by
 refine XB hf (λav an hc hb hf=>?_) (λr hc hb e=>?_) λhc e=>?_
 ·refine((cH F.hO _ c (Y2 _) ab T ρ _ F.hE hc).2 true rfl).post (S.inv F.IB) S.er λak ay aw bb aI=>?_;rw[if_pos rfl];refine up (jd ρ σ _ hb ak ay β P m (S.go aw)) λfw aC cy=>?_;obtain⟨rfl,aU,dp,ck,di,bq,cY⟩:=cy;exact h1 av an aC hf ⟨aU,dp,ck,di,bq,(br.go aw).trans cY⟩
 ·refine((cH F.hO _ c (Y2 _) ab T ρ _ F.hE hc).2 true rfl).post (S.inv F.IB) S.er λak ay aw bb aI=>?_;rw[if_pos rfl];exact up (jd ρ σ _ hb ak ay β P m (S.go aw)) λfw aC cy=>h2 r fw aC e cy
 ·refine((cH F.hO _ c (Y2 _) ab T ρ _ F.hE hc).2 false rfl).post (S.inv F.IB) S.er λak ay aw bb aI=>?_;rw[if_neg ZY];exact wpAny_execs_nil (h3 ak e ⟨ay,β,P,m,S.go aw,.go aw⟩)
theorem gk.carry (C:br G ab T ak ay gR dc cC s φ σ β P)(h:gk G sB aj ah ab T s φ σ β P av an s'):gk G sB aj ah ab T ak ay gR dc cC av an s':=by
 refine n6 h λaU dp ck di bq cY=>?_;exact vV aU dp ck di bq (C.trans cY)
theorem VB (F:a0 G A Φ sB ah ab T)(jd:∀ρ σ fl,f ρ σ=some fl->ca G A sB aj ah ab T ρ σ (ZJ body ab) fl)(hf:jr (λρ σ=>ev Φ σ ρ (ao T c)) f n ρ σ=some fl):ca G A sB aj ah ab T ρ σ (ZX (.While c body [] pos) ab) fl:=by
 intro s φ β P m S;refine PySem.wpAny_While ?_;refine codeAny_whileLoop (λk s'=>∃av an,gk G sB aj ah ab T s φ σ β P av an s'/\jr (λρ σ=>ev Φ σ ρ (ao T c)) f k av an=some fl)
  (λk s' hI=>?_) n ⟨ρ,σ,⟨φ,β,P,m,S,.refl⟩,hf⟩
 clear S hf;refine bB hI λav an z2 oq=>?_;obtain⟨am,aH,P',m',S',C'⟩:=z2
 induction k using jas with
 |zero=>exact ai oq
 |succ k =>
  refine XC F jd oq S' (λo0 nC aC hf h=>⟨k,jaf _,o0,nC,h.carry C',hf⟩) (λr fw aC e h=>?_) λaC e h=>e▸⟨rfl,h.carry C'⟩;refine au h ?_;rintro y rfl h;exact e▸⟨y,rfl,h⟩
end
section
theorem Vx (F:a0 G A Φ sB ah ab T)(he:ev Φ σ ρ (ao T e)=some v)(hr:aY σ 6 v=some r):ca G A sB aj ah ab T ρ σ (ZX (.Return (some e) pos) ab) (.ret r):=by
 intro s φ β P m S;refine jbp ((cH F.hO _ e (Y2 _) ab T ρ _ F.hE he).1.post (S.inv F.IB) S.er λx ak ay aw bb aI aF=>?_);have aM:=S.go aw;exact⟨x,rfl,ay,aM.done,aM.frozen F.hP₀ hr aF⟩
theorem Np {s:St}{ss:dw}{fl:Fl}{Q:Prop}(e:aE Φ ρ σ (.cons s ss)=some fl)(h1:∀av an,cU Φ ρ σ s=some (.next av an)->aE Φ av an ss=some fl->Q)(h2:∀v,cU Φ ρ σ s=some (.ret v)->.ret v=fl->Q):Q:=by
 rw[yy]at e
 induction h:cU Φ ρ σ s using ae with
 |none=>rw[h]at e;exact ai e
 |some f =>
  rw[h]at e
  induction f using Fl.casesOn with
  |next av an=>exact h1 av an h e
  |ret v=>exact h2 v h (Y0 e)
theorem A5 (C:br G ab T s φ σ β P ak ay gR dc cC)(h:o7 G sB aj ah ab T ak ay gR dc cC fl f aC):o7 G sB aj ah ab T s φ σ β P fl f aC:=by
 induction fl using Fl.casesOn with
 |next o0 nC =>
  obtain⟨e,aU,dp,ck,di,bq,cY⟩:=h;exact⟨e,aU,dp,ck,di,bq,C.trans cY⟩
 |ret r=>exact h
theorem Wo {mu:List Str}:(mu.contains x&&eK v)=true->eK v=true:=λh=>(jbG.mp h).2
theorem HI (F:a0 G A Φ sB ah ab T){gQ:List Stmt}:∀{ρ:aB}{σ:aA}{fl:Fl},(∀st∈gQ,∀ρ σ fl,cU Φ ρ σ (oU T mu st)=some fl->ca G A sB aj ah ab T ρ σ (ZX st ab) fl) ->
 aE Φ ρ σ (em T mu gQ)=some fl->ca G A sB aj ah ab T ρ σ (ZJ gQ ab) fl:=by
 induction gQ with
 |nil=>exact λ{ρ σ fl} Y e=>aG (Q:=λfl=>ca G A sB aj ah ab T ρ σ (ZJ [] ab) fl) (show some (Fl.next ρ σ)=some fl from e) λs φ β P m S=>wpAny_execs_nil ⟨rfl,φ,β,P,m,S,.refl⟩
 |cons st gQ ih =>
  intro ρ σ fl h e s φ β P m S;refine Np (e:aE Φ ρ σ (.cons (oU T mu st) (em T mu gQ))=some fl) (λav an he e=>?_) λr he e=>?_
  ·refine Zv (up (h st Zc ρ σ _ he s φ β P m S) λf ak aX=>?_);obtain⟨rfl,ay,dc,cC,da,aM,bU⟩:=aX;exact up (ih (λst hs=>h st (Zt _ hs)) e ak ay dc cC da aM) λf aC cy=>A5 bU cy
  ·refine rwj e ?_;refine Zv (up (h st Zc ρ σ _ he s φ β P m S) λf ak aX=>?_);refine au aX ?_;rintro y rfl cy;exact⟨y,rfl,cy⟩
section
theorem V5 (F:a0 G A Φ sB ah ab T)(hi:T.own x=some i)(ht:th=true->eK v=true)(e:cU Φ ρ σ (.asg i th (ao T v))=some fl):ca G A sB aj ah ab T ρ σ (ZX (.Assign [.Name x px] v pos) ab) fl:=by
 rw[yu]at e
 induction hu:gq Φ ρ σ th (ao T v)using ae with
 |none=>rw[hu]at e;exact ai e
 |some r =>
  obtain⟨u,an⟩:=r;rw[hu]at e;exact aG (Q:=ca G A sB aj ah ab T ρ σ _) e (HH F hi ht hu)
theorem V6 {T:Tb}{mu:List Str}(F:a0 G A Φ sB ah ab T){vs:List Expr}{xs:List Str}{is:List Nat}(h1:gh ts=some xs)(h2:T.vars? xs=some is)(h3:(vs.length==xs.length&&decide (vs.length<=1000)&&decide is.Nodup&&(!vs.all (jdf 8)||vs.all (jdx 8)))=true)(e:cU Φ ρ σ (.asgT (is.zip ((xs.zip vs).map λ(x,v)=>mu.contains x&&eK v)) (bf T vs))=some fl):ca G A sB aj ah ab T ρ σ (ZX (.Assign [.Tuple ts k tp] (.Tuple vs k2 p2) pos) ab) fl:=by
 refine cu h3 λh c4=>cu h λh c3=>cu h λc1 c2=>?_;have c1:=eq_of_beq c1;have E5:xs.mapM T.own=some is:=h2;have aO:((xs.zip vs).map λ(x,v)=>mu.contains x&&eK v).length=is.length:=by
  rw[YX,jbi,c1,jhe,Aq E5]
 have PO:(is.zip ((xs.zip vs).map λ(x,v)=>mu.contains x&&eK v)).map (·.1)=is:=jim (by rw[aO];exact Y2 _);have vJ:∀x e,(x,e)∈(is.zip ((xs.zip vs).map λ(x,v)=>mu.contains x&&eK v)).zip vs->x.2=true->eK e=true:=λx e hm vJ=>by
  obtain⟨j,hj,lX⟩:=jdm.mp hm;rw[jfF,jfF,jbK,jfF]at lX;cases lX;exact(jbG.mp vJ).2
 generalize(xs.zip vs).map (λ(x,v)=>mu.contains x&&eK v)=tU at *;rw[DJ]at e
 induction cx:eO Φ ρ σ (is.zip tU) (bf T vs)using ae with
 |none=>rw[cx]at e;exact ai e
 |some r =>
  obtain⟨us,an⟩:=r;rw[cx]at e;refine au (Zp.mp e) λav vQ e=>?_;rw[PO]at vQ;exact e▸Vr F h1 E5 (of_decide_eq_true c3) (of_decide_eq_true c2) c1 c4 aO vJ cx vQ
theorem Wc (F:a0 G A Φ sB ah ab T)(h1:gh ts=some xs)(h2:T.vars? xs=some is)(hn:∀vs k p,v≠.Tuple vs k p)(e:cU Φ ρ σ (.unp is (ao T v))=some fl):ca G A sB aj ah ab T ρ σ (ZX (.Assign [.Tuple ts k tp] v pos) ab) fl:=by
 rw[DI]at e
 induction hu:ev Φ σ ρ (ao T v)using ae with
 |none=>rw[hu]at e;exact ai e
 |some u =>
  rw[hu]at e
  induction u using AV.casesOn with
  |tup us =>
   refine au (Zp.mp e) λav vQ e=>?_;exact e▸Vz F h1 h2 hn hu vQ
  |_=>exact ai e
theorem V' (F:a0 G A Φ sB ah ab T)(hi:T.var x=some i)(e:cU Φ ρ σ (.put i (ao T k) (ao T v))=some fl):ca G A sB aj ah ab T ρ σ (ZX (.Assign [.Subscript (.Name x px) k sp] v pos) ab) fl:=by
 rw[DL]at e
 induction hu:ev Φ σ ρ (ao T v)using ae with
 |none=>rw[hu]at e;exact ai e
 |some u =>
  rw[hu]at e;refine bR e λfJ e=>?_
  induction hj:ρ[i]? using ae with
  |none=>rw[hj]at e;exact ai e
  |some o =>
   rw[hj]at e
   induction o using ae with
   |none=>exact ai e
   |some o =>
    induction o using AV.casesOn with
    |ref j =>
     induction hk:ev Φ σ ρ (ao T k)using ae with
     |none=>rw[hk]at e;exact ai e
     |some kv =>
      rw[hk]at e
      induction kv using AV.casesOn with
      |int kk =>
       dsimp only at e
       induction ho:σ[j]? using ae with
       |none=>rw[ho]at e;exact ai e
       |some ob =>
        rw[ho]at e
        induction ob using AO.casesOn with
        |dict es=>exact bR e λaT e=>aG (Q:=ca G A sB aj ah ab T ρ σ _) e (Vv F hi hj hu fJ hk ho aT)
        |_=>exact ai e
      |_=>exact ai e
    |_=>exact ai e
theorem Jt {ρ:aB}{σ:aA}{i:Nat}{op:Operator}{x:Ex}{Q:Prop}(e:cU Φ ρ σ (.aug i op x)=some fl)(h1:∀j v xs ys,ρ[i]?=some (some (.ref j))->ev Φ σ ρ x=some v->op=.Add->σ[j]?=some (.list xs)->aQ σ v=some ys->xs.length+ys.length<=100000->.next ρ (σ.set j (.list (xs++ys)))=fl->Q)(h2:∀old v r,ρ[i]?=some (some old)->ev Φ σ ρ x=some v->lJ op old v=true->dE σ op old v=some r->.next (ρ.set i (some r)) σ=fl->Q):Q:=by
 rw[yw]at e
 induction ho:ρ[i]? using ae with
 |none=>rw[ho]at e;exact ai e
 |some o =>
  rw[ho]at e
  induction o using ae with
  |none=>exact ai e
  |some old =>
   induction hv:ev Φ σ ρ x using ae with
   |none=>rw[hv]at e;exact ai e
   |some v =>
    rw[hv]at e;have hb:(if lJ op old v then(match dE σ op old v with
     |some r=>some (Fl.next (ρ.set i (some r)) σ)
     |none=>none)else none)=some fl->Q:=λe=>bR e λbY e=>by
     induction hr:dE σ op old v using ae with
     |none=>rw[hr]at e;exact ai e
     |some r=>rw[hr]at e;exact h2 old v r ho hv bY hr (Y0 e)
    induction old using AV.casesOn with
    |ref j =>
     clear hb h2
     induction op using jdy with
     |Add =>
      dsimp only at e
      induction hs:σ[j]? using ae with
      |none=>rw[hs]at e;exact ai e
      |some ob =>
       rw[hs]at e
       induction ob using AO.casesOn with
       |list xs =>
        induction hl:aQ σ v using ae with
        |none=>rw[hl]at e;exact ai e
        |some ys=>rw[hl]at e;exact bR e λaT e=>h1 j v xs ys ho hv rfl hs hl aT (Y0 e)
       |_=>exact ai e
     |_=>exact ai e
    |_=>exact hb e
theorem V7 {T:Tb}(F:a0 G A Φ sB ah ab T){x:Str}{px:Pos}{v:Expr}{op:Operator}{i:Nat}(hi:T.own x=some i)(e:cU Φ ρ σ (.aug i op (ao T v))=some fl):ca G A sB aj ah ab T ρ σ (ZX (.AugAssign (.Name x px) op v pos) ab) fl :=
 Jt e (λj u xs ys h1 h2 h3 h4 h5 h6 e=>e▸h3▸Vt F hi h1 h2 h4 h5 h6) λold u r h1 h2 h3 h4 e=>e▸Vs F hi h1 h2 h3 h4
theorem V4 (F:a0 G A Φ sB ah ab T)(bY:fe o 1 ap p=true)(e:cU Φ ρ σ (.app (ao T o) (ao T v))=some fl):ca G A sB aj ah ab T ρ σ (ZX (.Expr (.Call (.Attribute o "append" ap) [v] [] p) pos) ab) fl:=by
 rw[yx]at e
 induction ho:ev Φ σ ρ (ao T o)using ae with
 |none=>rw[ho]at e;exact ai e
 |some ov =>
  rw[ho]at e
  induction ov using AV.casesOn with
  |ref i =>
   induction hv:ev Φ σ ρ (ao T v)using ae with
   |none=>rw[hv]at e;exact ai e
   |some u =>
    rw[hv]at e;dsimp only at e
    induction hx:σ[i]? using ae with
    |none=>rw[hx]at e;exact ai e
    |some ob =>
     rw[hx]at e
     induction ob using AO.casesOn with
     |list xs =>
      refine bR e λaT e=>Vq F bY ho hv hx aT ?_;clear ho hv hx
      induction u using AV.casesOn with
      |ref j =>
       refine mG e λeZ e=>?_
       induction hr:lS σ j using ae with
       |none=>rw[hr]at e;exact ai e
       |some r=>rw[hr]at e;exact .inl ⟨j,r,rfl,eZ,hr,(Y0 e).symm⟩
      |_=>exact .inr (Y0 e).symm
     |_=>exact ai e
  |_=>exact ai e
theorem Wb (F:a0 G A Φ sB ah ab T)(bY:fe o 0 ap p=true)(e:cU Φ ρ σ (.rev (ao T o))=some fl):ca G A sB aj ah ab T ρ σ (ZX (.Expr (.Call (.Attribute o "reverse" ap) [] [] p) pos) ab) fl:=by
 rw[DK]at e
 induction ho:ev Φ σ ρ (ao T o)using ae with
 |none=>rw[ho]at e;exact ai e
 |some ov =>
  rw[ho]at e
  induction ov using AV.casesOn with
  |ref i =>
   dsimp only at e
   induction hx:σ[i]? using ae with
   |none=>rw[hx]at e;exact ai e
   |some ob =>
    rw[hx]at e
    induction ob using AO.casesOn with
    |list xs=>exact bR e λaT e=>aG (Q:=ca G A sB aj ah ab T ρ σ _) e (Vy F bY ho hx aT)
    |_=>exact ai e
  |_=>exact ai e
theorem V9 (F:a0 G A Φ sB ah ab T)(ha:aE Φ ρ σ (em T mu a)=some fl->ca G A sB aj ah ab T ρ σ (ZJ a ab) fl)(hb:aE Φ ρ σ (em T mu b)=some fl->ca G A sB aj ah ab T ρ σ (ZJ b ab) fl)(e:cU Φ ρ σ (.ife (ao T c) (em T mu a) (em T mu b))=some fl):ca G A sB aj ah ab T ρ σ (ZX (.If c a b pos) ab) fl:=by
 rw[sn]at e
 induction hc:ev Φ σ ρ (ao T c)using ae with
 |none=>rw[hc]at e;exact ai e
 |some cv =>
  rw[hc]at e
  induction cv using AV.casesOn with
  |bool r =>
   intro s φ β P m S;refine jeC (((cH F.hO _ c (Y2 _) ab T ρ _ F.hE hc).2 r rfl).post (S.inv F.IB) S.er λak ay aw bb aI=>?_)
   induction r using ZC with
   |true=>rw[if_pos rfl];exact up (ha e ak ay β P m (S.go aw)) λf aC cy=>A5 (br.go aw) cy
   |false=>rw[if_neg ZY];exact up (hb e ak ay β P m (S.go aw)) λf aC cy=>A5 (br.go aw) cy
  |_=>exact ai e
theorem V8 (F:a0 G A Φ sB ah ab T)(hi:T.own x=some i)(jd:∀ρ σ fl,aE Φ ρ σ (em T mu body)=some fl->ca G A sB aj ah ab T ρ σ (ZJ body ab) fl)(e:cU Φ ρ σ (.for_ i (fR (ao T it)) (em T mu body))=some fl):ca G A sB aj ah ab T ρ σ (ZX (.For (.Name x px) it body [] pos) ab) fl:=by
 rw[DM]at e
 induction b0:lQ Φ ρ σ (fR (ao T it))using ae with
 |none=>rw[b0]at e;exact ai e
 |some vs=>rw[b0]at e;exact Vu F hi b0 (λv ρ σ fl hb=>jd _ _ _ hb) e
theorem Wa (F:a0 G A Φ sB ah ab T)(e:cU Φ ρ σ (.ret (ao T x))=some fl):ca G A sB aj ah ab T ρ σ (ZX (.Return (some x) pos) ab) fl:=by
 rw[DH]at e
 induction hv:ev Φ σ ρ (ao T x)using ae with
 |none=>rw[hv]at e;exact ai e
 |some v =>
  rw[hv]at e;refine au (Zp.mp e) λr hr e=>?_;exact e▸Vx F hv hr
end
theorem VD (F:a0 G A Φ sB ah ab T)(n:Nat):∀(st:Stmt),sizeOf st<n->∀ρ σ fl,cU Φ ρ σ (oU T mu st)=some fl->ca G A sB aj ah ab T ρ σ (ZX st ab) fl:=by
 induction n with
 |zero=>exact λst cM=>absurd cM (jex _)
 |succ n ih =>
  have gg:∀{gQ:List Stmt},sizeOf gQ<n->∀ρ σ fl,aE Φ ρ σ (em T mu gQ)=some fl->ca G A sB aj ah ab T ρ σ (ZJ gQ ab) fl:=λh ρ σ fl e =>
   HI F (λst hs=>ih st (jai (jbz hs) h)) e
  intro st hn ρ σ fl;have t:=WO T mu st;generalize oU T mu st=x at t;cases t with
  |asg hi=>exact V5 F hi Wo
  |asgT h1 h2 h3=>exact V6 F h1 h2 h3
  |unp h1 h2 hnt=>exact Wc F h1 h2 hnt
  |put hi=>exact V' F hi
  |aug hi=>exact V7 F hi
  |app hm ho=>refine aa hm ?_;exact V4 F ho
  |rev hm ho=>refine aa hm ?_;exact Wb F ho
  |ife=>have h:=ls (Stmt.If.sizeOf_spec ..) hn;exact V9 F (gg (q2 (zr (zr h))) ρ σ fl) (gg (q3 (zr h)) ρ σ fl)
  |for_ hi=>have h:=ls (Stmt.For.sizeOf_spec ..) hn;exact V8 F hi (gg (q3 (zr (zr h))))
  |while_ =>
   have h:=ls (Stmt.While.sizeOf_spec ..) hn;exact λe=>VB F (λρ σ fl hb=>gg (q2 (zr (zr h))) ρ σ fl hb) (by rw[DG]at e;exact e)
  |ret=>exact Wa F
  |bad=>exact λe=>ai e
theorem VC (F:a0 G A Φ sB ah ab T)(n:Nat)(st:Stmt)(h:sizeOf st<=n):∀ρ σ fl,cU Φ ρ σ (oU T mu st)=some fl->ca G A sB aj ah ab T ρ σ (ZX st ab) fl:=VD F (n+1) st (jfv h)
end
def dy (ps:List Str)(sc:jax):Tb :=
 { names:=sc.names,vars:=(ps++(ey sc).filter λx=>!ps.contains x).zipIdx,next:=(ps++(ey sc).filter λx=>!ps.contains x).length }
structure et (fd:jau) (d:dC) (ps:List Str) (body:List Stmt) (mu:List Str):Prop where
 stmts:fd.body=.stmts body
 glob:fd.globals=Zm
 bi:fd.builtins=jaa
 clo:fd.closure=[]
 co:fd.scope.isCoroutine=false
 gen:fd.scope.isGenerator=false
 kind:fd.scope.kind=.function
 bind:∀vals:List Value,vals.length=ps.length->jbJ fd ⟨vals,[]⟩=pure (ps.zip vals)
 nargs:d.nargs=ps.length
 nvars:d.nvars=(dy ps fd.scope).next
 tree:d.body=em (dy ps fd.scope) mu body
 tb:oR (dy ps fd.scope)=true
 nodup:(fd.scope.names.map (·.1)).Nodup
 psNodup:ps.Nodup
 nofree:fd.scope.names.all (λx=>x.2 != .free)=true
 psKind:ps.all (λx=>fd.scope.names.lookup x==some .local||fd.scope.names.lookup x==some .cell)=true
section
theorem AC {names:List (Str×jaY)}(hn:names.all (λx=>x.2 != .free)=true)(h:names.lookup x=some .free):False:=by
 rw[Y3]at hn;have:=hn _ (mem_of_lookup h);simp at this
theorem B' {K:Str->Option jaY}:∀{ps:List Str}{vals:List Value}{gA:Str->Option Value}{x:Str},x∉ps->bindL K (ps.zip vals) gA x=gA x
 | [],_,_,_,_=>rfl
 |_::_,[],_,_,_=>rfl
 |p::ps,v::vals,gA,x,hx=>by
  rw[jbc];unfold bindL;rw[B' λq=>hx (Zt _ q)];split
  ·exact if_neg λq=>hx (by rw[q];exact Zc)
  ·rfl
theorem B8 {K:Str->Option jaY}:∀{ps:List Str}{vals:List Value}{gA:Str->Option Value}{x:Str},x∉ps->bindC K (ps.zip vals) gA x=gA x
 | [],_,_,_,_=>rfl
 |_::_,[],_,_,_=>rfl
 |p::ps,v::vals,gA,x,hx=>by
  rw[jbc];unfold bindC;rw[B8 λq=>hx (Zt _ q)];split
  ·rfl
  ·exact if_neg λq=>hx (by rw[q];exact Zc)
theorem B9 {K:Str->Option jaY}:∀{ps:List Str}{vals:List Value}{gA:Str->Option Value}{x:Str}{i:Nat}{v:Value},ps.Nodup->ps[i]?=some x->vals[i]?=some v->K x=some .local->bindL K (ps.zip vals) gA x=some v
 | [],_,_,_,_,_,_,h,_,_=>by simp at h
 |_::_,[],_,_,_,_,_,_,h,_=>by simp at h
 |p::ps,u::vals,gA,x,i,v,hn,hx,hv,hk=>by
  rw[jaG]at hn;refine aa jbc ?_;unfold bindL
  induction i using jas with
  |zero =>
   have e1:p=x:=by simpa using hx
   have e2:u=v:=by simpa using hv
   subst e1 e2;refine aa (B' hn.1) ?_;refine aa (if_pos hk) ?_;simp
  |succ i=>exact B9 hn.2 (by simpa using hx) (by simpa using hv) hk
theorem B7 {K:Str->Option jaY}:∀{ps:List Str}{vals:List Value}{gA:Str->Option Value}{x:Str}{i:Nat}{v:Value},ps.Nodup->ps[i]?=some x->vals[i]?=some v->K x≠some .local->bindC K (ps.zip vals) gA x=some v
 | [],_,_,_,_,_,_,h,_,_=>by simp at h
 |_::_,[],_,_,_,_,_,_,h,_=>by simp at h
 |p::ps,u::vals,gA,x,i,v,hn,hx,hv,hk=>by
  rw[jaG]at hn;refine aa jbc ?_;unfold bindC
  induction i using jas with
  |zero =>
   have e1:p=x:=by simpa using hx
   have e2:u=v:=by simpa using hv
   subst e1 e2;refine aa (B8 hn.1) ?_;refine aa (if_neg hk) ?_;simp
  |succ i=>exact B7 hn.2 (by simpa using hx) (by simpa using hv) hk
theorem IG {α:Type}{x:α}{i:Nat}:∀{l:List α}{k:Nat},(x,i)∈l.zipIdx k->k<=i/\l[i-k]?=some x
 | [],_,h=>by simp at h
 |a::l,k,h=>by
  rw[List.zipIdx_cons]at h;rcases ZM.mp h with h|h
  ·cases h;exact⟨Y2 _,by simp⟩
  ·refine bN (IG h) λh1 h2=>?_;refine⟨ZI h1,?_⟩;refine aa (show i-k=(i-(k+1))+1 from wN h1) ?_;simpa using h2
theorem N7 {G:GD}{s:Y1}{fd:jau}{d:dC}{ps:List Str}{body:List Stmt}{a:Zb}{vs:List AV}{xs:List Value}{ak:Y1}{cm:Str->Option Value}(D:et fd d ps body mu)(I:bg G s.heap)(K:aV φ s)(F:kG G s P)(hp:∀a,P a->eX G a)(r:ar G.tok φ s.heap [] P vs xs)(aO:vs.length=ps.length)(u:Up s ak)(hm:m=bindL (jaW fd s.heap.objs.size a).kindOf (ps.zip xs) λY=>none)(vh:cm=bindC (jaW fd s.heap.objs.size a).kindOf (ps.zip xs) λY=>none)(x:InCallC s (jaW fd s.heap.objs.size a).locals m (jaW fd s.heap.objs.size a).cells cm ak):
 SR G s φ P (jaW fd s.heap.objs.size a) (dy ps fd.scope) φ (vs.map some++Ze ((dy ps fd.scope).next-ps.length) none) [] [] (fN P s.heap.objs.size ak.heap.objs.size) m ak:=by
 have hL:(jaW fd s.heap.objs.size a).locals=s.heap.objs.size:=rfl;have vt:∀y,(jaW fd s.heap.objs.size a).kindOf y=fd.scope.names.lookup y:=λy=>rfl;have ext:ce s.heap ak.heap:=x.toInCall.keep;have jgr:∀y,fd.scope.names.lookup y=some .cell->∃c,(jaW fd s.heap.objs.size a).cells.lookup y=some c/\ak.heap.IsCell c (cm y)/\s.heap.objs.size<c:=λy hy=>by
  have h2:=jfY fd.scope.names (s.heap.objs.size+1) [] (.inl hy);refine aW (jcs.mp h2) λc hc=>?_;exact lh c hc (x.cell y c hc) (x.above y c (mem_of_lookup hc))
 have O7:s.heap.objs.size<ak.heap.objs.size:=by have:=x.toInCall.ns.lt;rw[hL]at this;exact this
 have Ys:ps.length<=(dy ps fd.scope).next:=by
  show _<=(ps++_).length;refine aa Y8 ?_;exact ZD _ _
 refine⟨x.toInCall.same,λb o Y e=>ext b o e,u.size,λY Y e=>e,?_,?_,Y2 _,λy b h1 h2=>?_,(λb hb=>nomatch hb),jaM,rfl,(λj b o hb=>by simp at hb),λb p=>p.1,I.tabs.keeps ext,λc q=>.inl (iW ext I.tabs c q)⟩
 ·refine⟨x.toInCall.ns,?_,λy i v hy hv=>?_,λy hy=>?_,(λj o ho=>by simp at ho),(λb hb=>hb.elim (λhb=>⟨F b (.inl (YY u.size hb)),λq=>ZT.mpr hb q.2⟩) λhb=>⟨F b (.inr (iW ext I.tabs b hb)),λq=>ZT.mpr q.1 (bM.lt I.tabs (iW ext I.tabs b hb))⟩),λb p=>hp b p.1,(λb hb=>?_),(λb hb=>nomatch hb),K.fn,K.pos,λt z e=>be (K.lt t z e) u.toks,be K.one u.toks⟩
  ·refine aa Y8 ?_;refine aa (YX _) ?_;refine aa jat ?_;refine aa aO ?_;simp[*]
  ·have hi:i<ps.length:=by
    rcases jbT i ps.length with q|q
    ·exact q
    ·rw[Zd (by refine aa (YX _) ?_;refine aa aO ?_;exact q),jcH]at hv;split at hv<;>cases hv
   rw[Zq (by refine aa (YX _) ?_;refine aa aO ?_;exact hi),ZK]at hv;refine au (Zp.mp hv) λv' QU e=>?_;cases e;refine au (r.get QU) λxv vO rv=>?_;have oA:=IG (qW hy);have Ft:ps[i]?=some y:=by
    have:=oA.2;rw[jhd,Zq hi]at this;exact this
   refine aN xv (rv.mono (λY Y e=>e) (λb o p e=>⟨ext b o e,p,λq=>ZT.mpr q.1 (Zr e)⟩) (Zg _)) ?_;rcases Xs hy with q|q|q
   ·refine .inl ⟨(vt y).trans q,?_⟩;refine aa hm ?_;exact B9 D.psNodup Ft vO ((vt y).trans q)
   ·refine fk (jgr y q) λc e1 e2 e3=>?_;refine .inr ⟨c,e1,.inl ((vt y).trans q),?_⟩;have:cm y=some xv:=by
     refine aa vh ?_;exact B7 D.psNodup Ft vO (by refine aa (vt y) ?_;intro z;rw[show fd.scope.names.lookup y=some .cell from q]at z;cases z)
    refine rwj this ?_;exact e2
   ·exact(AC D.nofree q).elim
  ·unfold Tb.celled at hy;rw[jbl]at hy;rcases hy with q|q
   ·refine fk (jgr y (eq_of_beq q)) λc e1 e2 Y=>?_;exact cZ c _ e1 e2
   ·exact(AC D.nofree (eq_of_beq q)).elim
  ·have safe:∀b,s.heap.objs.size<=b->eX G b:=λb hb=>hp b (F b (.inl hb));rcases hb with hb|hb|⟨y,hy⟩
   ·cases hb
   ·refine aa hb ?_;exact safe _ (Y2 _)
   ·exact safe b (ZI (x.above y b (mem_of_lookup hy)))
 ·refine⟨λp=>p.2 ⟨Y2 _,O7⟩,(λq=>nomatch q),λy hy=>?_⟩;refine fk (jgr y hy) λc e1 e2 e3=>?_;exact lh c e1 (λp=>p.2 ⟨ZI e3,e2.lt⟩) (λq=>nomatch q)
 ·refine fk (jgr y h1) λc e1 e2 e3=>?_;rw[h2]at e1;cases e1;exact ZI e3
end
section
theorem Mb (D:et fd d ps body mu)(vd:(jaW fd L a).cells.Pairwise λx y=>x.2≠y.2):bQ (jaW fd L a) (dy ps fd.scope) where
 kind:=D.kind
 loc:=λx hx=>hx
 cel:=λx hx=>hx
 fre:=λx hx=>(AC D.nofree hx).elim
 inj:=λx y c hx hy=>name_of_addr vd (mem_of_lookup hx) (mem_of_lookup hy)
 glob:=λx hx=>hx
 g:=D.glob
 b:=D.bi
theorem R2 (D:et fd d ps body mu)(y:Str×Value)(hy:y∈ps.zip xs):fd.scope.names.lookup y.1=some .local\/fd.scope.names.lookup y.1=some .cell/\((jbA (L+1) fd.scope.names []).lookup y.1).isSome=true :=
 (Bool.or_eq_true_iff.mp (Y3.mp D.psKind y.1 (List.of_mem_zip hy).1)).elim (λq=>.inl (eq_of_beq q)) λq=>.inr ⟨eq_of_beq q,jfY fd.scope.names _ [] (.inl (eq_of_beq q))⟩
theorem N6 (D:et fd d ps body mu)(I:bg G s.heap)(hP:∀a,s.heap.objs.size<=a->P a)(hO:fT G A Φ)(hE:bQ (jaW fd L a) (dy ps fd.scope)):a0 G A Φ s P (jaW fd L a) (dy ps fd.scope) where
 hO:=hO
 hE:=hE
 hT:=tT D.tb
 IB:=I
 hP₀:=hP
 hI:=by
  unfold jiA;refine aa (show(jaW fd L a).scope.kind=.function from D.kind) ?_;rfl
 hcl:=λy c hc=>(rT (mem_of_lookup hc)).elim (λhm=>nomatch hm) λhm=>by
  show(fd.scope.names.lookup y==_||_)=true;refine aa (lq D.nodup hm) ?_;rfl
def nD (G:GD)(s:Y1)(φ:Gh)(P:Zb->Prop)(r:AV)(fl:jeu)(s':Y1):Prop:=∃x,fl=.ret x/\∃am,GX G s φ s' am/\VR G.tok am s'.heap [] P r x
theorem su (D:et fd d ps body mu)(hk:G.fns k=some (x,fd))(sV:A.depth<jde)(hO:∀ab,fT G (A.deeper ab) Φ)(hl:vs.length=ps.length)(lZ:∀L fa s φ P P' m ak,a0 G (A.deeper (jaW fd L fa)) Φ s P (jaW fd L fa) (dy ps fd.scope)->SR G s φ P (jaW fd L fa) (dy ps fd.scope) φ (vs.map some++Ze ((dy ps fd.scope).next-ps.length) none) [] [] P' m ak ->
 Y7 (Y9 af wd) (A.deeper (jaW fd L fa)) (ZJ body (jaW fd L fa)) (nD G s φ P r) ax ak) (ha:G.mg x=some (.ref a)):kE G A (.ref a) vs r:=by
 intro s φ P xs I K F hp rv;refine n5 (I.fns k x fd hk) λa' o h1 h2 h3 h4=>?_;have e:=jdA (Y0 (h1.symm.trans ha));subst e;refine wpAny_call (jij sV h2 h3 D.co D.gen D.stmts h4 ?_);refine aa (D.bind xs (rv.length.symm.trans hl)) ?_;refine aa D.clo ?_;refine Zu (eF (wpAny_newFunctionEnv_cells D.kind (R2 D) λab he ak wI u=>?_));replace he:ab=jaW fd s.heap.objs.size a':=he;subst he;refine⟨I.lim.keeps wI.toInCall.keep,codeAny_func (up (lZ _ _ s φ P _ _ ak (N6 D I F.f (hO _) (Mb D wI.apart)) (N7 (mu:=mu) D I K F hp rv hl u rfl rfl wI)) λf aC cy=>?_)⟩;obtain⟨y,rfl,aU,OV,bI⟩:=cy;exact⟨aU,OV,bI⟩
theorem N8 (D:et fd d ps body mu)(hk:G.fns k=some (x,fd))(sV:A.depth<jde)(hO:∀ab,fT G (A.deeper ab) Φ)(e:oO Φ d vs=some r)(ha:G.mg x=some (.ref a)):kE G A (.ref a) vs r:=by
 refine bR e λaO e=>?_;have P8:vs.length=ps.length:=aO.trans D.nargs;refine su D hk sV hO P8 (λL fa s φ P P' m ak FC S=>?_) ha;have fv:d.nvars-d.nargs=(dy ps fd.scope).next-ps.length:=by rw[D.nvars,D.nargs]
 rw[fv,D.tree]at e
 induction hv:aE Φ (vs.map some++Ze ((dy ps fd.scope).next-ps.length) none) [] (em (dy ps fd.scope) mu body)using ae with
 |none=>rw[hv]at e;exact ai e
 |some fl =>
  rw[hv]at e
  induction fl using Fl.casesOn with
  |next=>exact ai e
  |ret v=>exact aG (Q:=λr=>Y7 _ _ _ (nD G s φ P r) _ _) e (HI FC (mu:=mu) (λst Y ρ σ fl e=>VC FC _ st (Y2 _) ρ σ fl e) hv ak φ [] _ _ S)
structure dR (A:ZS) (n:Nat):Prop where
 handled:A.handled=none
 depth:A.depth+n<jde
 units:A.units+3*n<jgY
theorem dR.deeper (D:dR A (n+1))(ab:Env):dR (A.deeper ab) n where
 handled:=D.handled
 depth:=by
  have:=D.depth;show A.depth+1+n<jde;exact XO this
 units:=by
  have:=D.units;show A.units+3+3*n<jgY
  lia
theorem dR.le (D:dR A n)(h:k<=n):dR A k:=⟨D.handled,ZE (jhL h _) D.depth,by have:=D.units;lia⟩
theorem KD (hG:dD G)(hN:gE G)(c:Nat)(zi:∀k d,fns k=some d->∃x fd ps body mu,G.fns k=some (x,fd)/\et fd d ps body mu)(Qq:∀A,dR A c->∀k vs r,fns k=none->gb k vs=some r->∃x fd,G.fns k=some (x,fd)/\∀a,G.mg x=some (.ref a)->kE G A (.ref a) vs r):
 ∀(n:Nat) (A:ZS),dR A (n+c)->uf G A (nQ gb fns n):=by
 intro n
 induction n with
 |zero=>exact λA D k vs r e=>ai e
 |succ n ih =>
  intro A D k vs r e;replace e:(match fns k with|some d=>oO (nQ gb fns n) d vs|none=>gb k vs)=some r:=e
  induction hd:fns k using ae with
  |none=>rw[hd]at e;exact Qq A (D.le (jcC ..)) k vs r hd e
  |some d =>
   rw[hd]at e;refine Ni (zi k d hd) λx fd ps body mu h1 h2=>?_;refine cZ x fd h1 (λa ha=>N8 h2 h1 (by have:=D.depth;exact qZ this) (λab=>?_) e ha);have D':dR (A.deeper ab) (n+c):=dR.deeper (by refine aa (show n+c+1=n+1+c from jfb (jdN n 1 c)) ?_;exact D) ab;exact⟨D'.handled,by have:=D'.units;exact qZ this,hG,hN,ih _ D'⟩
end
section
def lE (G:GD)(σ:aA)(β:List Zb)(b:Zb):Prop:=(∀j:Nat,β[j]?=some b->σ[j]?=some .gone)/\¬G.X b
structure o6 (T:Tb) (sc:jax):Prop where
 names:T.names=sc.names
 nocell:∀x∈sc.names,x.2≠.cell
 kind:sc.kind=.function
 tb:jx T
theorem wg {sc:jax}(h:∀x∈sc.names,x.2≠.cell)(e:sc.names.lookup x=some .cell):False:=h _ (mem_of_lookup e) rfl
def jk (sc:jax)(L:Zb)(cg:List (Str×Zb))(qual:Str)(f:Zb)(code:Value):Env:=newEnv sc L Zm cg qual (some f) code none jaa
theorem Md {sc:jax}{L f:Zb}{cg:List (Str×Zb)}{qual:Str}{code:Value}(I:o6 T sc)(PY:∀x y c,cg.lookup x=some c->cg.lookup y=some c->x=y):bQ (jk sc L cg qual f code) T where
 kind:=I.kind
 loc:=λx hx=>by rw[I.names]at hx;exact hx
 cel:=λx hx=>by rw[I.names]at hx;exact hx
 fre:=λx hx=>.inr (by rw[I.names]at hx;exact hx)
 inj:=PY
 glob:=λx hx=>by rw[I.names]at hx;exact hx
 g:=rfl
 b:=rfl
theorem SR.calmCell (S:SR G sB aj ah ab T φ ρ σ β P m s)(hc:s.heap.IsCell c v):lE G σ β c:=by
 refine⟨λj hj=>?_,S.tabs.1.notX_cell hc⟩;have hl:j<σ.length:=by refine rwj S.lenB ?_;exact(Zw.mp hj).1
 induction ho:σ[j]? using ae with
 |none=>rw[Y' hl]at ho;cases ho
 |some o =>
  by_cases hg:o=.gone
  ·refine aa hg ?_;rfl
  ·exfalso;refine au (S.er.objs j o ho hg) λa h1 h2=>?_;rw[hj]at h1;cases h1;refine au hc λob kj hd=>?_;cases h2 with
   |list e _ =>
    refine au (Gr e) λG3 e1 e2=>?_;rw[kj]at e1;cases e1;exact e2 v hd
   |dict e _ _ =>
    refine au (CU e) λG3 e1 e2=>?_;rw[kj]at e1;cases e1;exact e2 v hd
theorem SR.enter {G:GD}{s:Y1}{h':jag}{T':Tb}{sc:jax}{av:aB}{cg:List (Str×Zb)}{qual:Str}{code:Value}{f:Zb}{binds:List (Str×Value)}{t:Tok}(S:SR G sB aj ah ab T φ ρ σ β P m s)(I:o6 T' sc)(iL:h'.Ns s.heap.objs.size (λx=>binds.reverse.lookup x))(m7:Z1 s.heap.objs.size (s.heap.push { cls:=.type "frame",data:=.dict #[] }) h') (ht:s.toks<=t) (aO:av.length=T'.next) (hn:∀x i v,T'.var x=some i->av[i]?=some (some v)->∃v',VR G.tok φ s.heap β P v v'/\((sc.names.lookup x=some .local/\binds.reverse.lookup x=some v')\/(sc.names.lookup x=some .free/\∃c,cg.lookup x=some c/\s.heap.IsCell c (some v')))) (zf:∀x,sc.names.lookup x=some .free->∃c v,cg.lookup x=some c/\s.heap.IsCell c v) (zK:∀x c,cg.lookup x=some c->eX G c):
 SR G sB aj ah (jk sc s.heap.objs.size cg qual f code) T' φ av σ β (fN P s.heap.objs.size h'.objs.size) (λx=>binds.reverse.lookup x) { s with heap:=h',toks:=t }:=by
 have R:=S.er;have hz:h'.objs.size=s.heap.objs.size+1:=by refine aa m7.1 ?_;refine aa (ZL _ _) ?_;rfl
 have ext:ce s.heap h':=λb o e=>m7.extBut b o (jaz (Zr e)) (Za _ e);have hk:∀a o,P a->s.heap.get? a=some o->h'.get? a=some o/\fN P s.heap.objs.size h'.objs.size a:=λa o p e=>⟨ext a o e,p,λq=>ZT.mpr q.1 (Zr e)⟩
 have safe:∀b,s.heap.objs.size<=b->eX G b:=λb hb=>R.psafe b (R.fresh b hb);have hL:s.heap.objs.size<h'.objs.size:=by refine aa hz ?_;exact jaf _
 refine fq S.base λhh tt e=>?_;refine⟨⟨h',t,by refine aa e ?_;rfl⟩,λb o hb e=>ext b o (S.old b o hb e),YY S.size (ZI hL),S.sub,?_,?_,S.size,λx b h1 Y=>?_,S.newB,S.nodup,S.lenB,λj a o h1 h2 h3 p=>S.live j a o h1 h2 h3 p.1,λa p=>S.psub a p.1,S.tabs.1.keeps ext,λc q=>S.tabs.2 c (iW ext S.tabs.1 c q)⟩
 ·refine⟨iL,aO,λx i v hx hv=>?_,λx hx=>?_,λj o hj ho=>?_,λb hb=>?_,λb p=>R.psafe b p.1,λb hb=>?_,λb hb=>jai (R.blt b hb) hL,R.tk.fn,R.tk.pos,λt' x e=>be (R.tk.lt t' x e) ht,be R.tk.one ht⟩
  ·refine au (hn x i v hx hv) λv' r q=>?_;refine aN v' (r.mono (λY Y e=>e) hk (Zg _)) ?_;rcases q with⟨q1,q2⟩|⟨q1,c,q2,q3⟩
   ·exact .inl ⟨q1,q2⟩
   ·exact .inr ⟨c,q2,.inr q1,q3.keeps ext⟩
  ·unfold Tb.celled at hx;rw[I.names,jbl]at hx;rcases hx with hx|hx
   ·exact(wg I.nocell (eq_of_beq hx)).elim
   ·refine bB (zf x (eq_of_beq hx)) λc v h1 h2=>?_;exact cZ c v h1 (h2.keeps ext)
  ·refine au (R.objs j o hj ho) λa h1 h2=>?_;exact aN a h1 (h2.mono (λY Y e=>e) hk (Zg _) λo e=>ext a o e)
  ·rcases hb with hb|hb
   ·exact⟨R.fresh b (YY (ZI hL) hb),λq=>ZT.mpr hb q.2⟩
   ·have:=iW ext S.tabs.1 b hb;exact⟨R.freshX b (.inr this),λq=>ZT.mpr q.1 (bM.lt S.tabs.1 this)⟩
  ·rcases hb with hb|hb|⟨x,hx⟩
   ·exact R.bsafe b (.inl hb)
   ·refine aa hb ?_;exact safe _ (Y2 _)
   ·exact zK x b hx
 ·refine⟨λp=>p.2 ⟨Y2 _,hL⟩,λq=>Zo _ (R.blt _ q),λx hx=>?_⟩;rw[I.names]at hx;exact(wg I.nocell hx).elim
 ·rw[I.names]at h1;exact(wg I.nocell h1).elim
theorem SR.back {s:Y1}{sc:jax}{T':Tb}{cg:List (Str×Zb)}{qual:Str}{code:Value}{f:Zb}{di:Str->Option Value}{ak aC:Y1}{aU:Gh}{o0:aB}{ck:Zb->Prop}(S:SR G sB aj ah ab T φ ρ σ β P m s)(I:o6 T' sc)(vn:ce s.heap ak.heap)(bd:s.heap.objs.size<=ak.heap.objs.size)(mX:∃h t,ak={ s with heap:=h,toks:=t })(bq:SR G sB aj ah (jk sc s.heap.objs.size cg qual f code) T' aU o0 an aH ck di aC)(C:br G (jk sc s.heap.objs.size cg qual f code) T' ak φ σ β (fN P s.heap.objs.size ak.heap.objs.size) aC aU an aH ck):
 SR G sB aj ah ab T aU ρ an aH ck m aC/\br G ab T s φ σ β P aC aU an aH ck/\∀b o,lE G σ β b->s.heap.get? b=some o->aC.heap.get? b=some o:=by
 have R:=S.er;have bW:=bq.er;have still:∀b,b<s.heap.objs.size->lE G σ β b->ph G (jk sc s.heap.objs.size cg qual f code) T' σ β b:=λb hb hc=>⟨λq=>by
  rcases q with q|⟨y,h1,_⟩|q
  ·exact Zo s.heap.objs.size (by have q':b=s.heap.objs.size:=q;rw[q']at hb;exact hb)
  ·rw[I.names]at h1;exact wg I.nocell h1
  ·exact hc.2 q,hc.1⟩
 have keep:∀b o,lE G σ β b->s.heap.get? b=some o->aC.heap.get? b=some o:=λb o hc e=>C.keep b o (still b (Zr e) hc) (vn b o e);have KE:∀b,b∉β->¬G.X b->lE G σ β b:=λb h1 h2=>⟨λj hj=>absurd (ZB hj) h1,h2⟩
 have KG:∀a,P a->lE G σ β a:=λa p=>⟨(S.stillP p).2,(R.psafe a p).2⟩
 have hk:∀a o,P a->s.heap.get? a=some o->aC.heap.get? a=some o/\ck a:=λa o p e=>⟨keep a o (KG a p) e,C.pm a ⟨p,λq=>ZT.mpr q.1 (Zr e)⟩ (be (Zr e) bd)⟩
 have G1:∀a,a<s.heap.objs.size->a∉β->¬P a->¬ck a:=λa hl hb hp p=>(C.pn a (be hl bd) p).elim (λq=>hp q.1) hb;have G0:∀a,a<s.heap.objs.size->a∉β->a∉aH:=λa hl hb q=>hb (C.bn a q (be hl bd));refine cz ({ bq with er:=?_,fr:=?_,newL:=S.newL,newC:=S.newC }) ?_ keep
 ·have P7:=R.bsafe _ (.inr (.inl rfl));refine⟨R.ns.at' λo e=>keep _ o (KE _ S.fr.bloc P7.2) e,R.len,λx i v hx hv=>?_,λx hx=>?_,bW.objs,bW.freshX,bW.psafe,λa ha=>?_,bW.blt,bW.tk⟩
  ·refine au (R.names x i v hx hv) λv' r q=>?_;refine aN v' (r.mono C.sub hk C.pre) ?_;rcases q with q|⟨c,q1,q2,o,ho,hd⟩
   ·exact .inl q
   ·refine .inr ⟨c,q1,q2,o,keep c o (S.calmCell ⟨o,ho,hd⟩) ho,hd⟩
  ·obtain⟨c,dm,h1,o,ho,hd⟩:=R.celled x hx;refine⟨c,dm,h1,o,keep c o (S.calmCell ⟨o,ho,hd⟩) ho,hd⟩
  ·rcases ha with ha|ha
   ·exact bW.bsafe a (.inl ha)
   ·exact R.bsafe a (.inr ha)
 ·refine⟨G1 _ R.ns.lt S.fr.bloc S.fr.ploc,G0 _ R.ns.lt S.fr.bloc,λx hx=>?_⟩;refine fk (S.fr.own x hx) λc e1 e2 e3=>?_;refine bB (R.celled x (by unfold Tb.celled;refine aa hx ?_;rfl)) λc' dm e4 e5=>?_;rw[e1]at e4;cases e4;exact lh c e1 (G1 c e5.lt e3 e2) (G0 c e5.lt e3)
 ·refine⟨λb o hb e=>keep b o ⟨hb.2,λq=>hb.1 (.inr (.inr q))⟩ e,λb hl hb=>⟨hb.1,(C.still b (be hl bd) (still b hl ⟨hb.2,λq=>hb.1 (.inr (.inr q))⟩)).2⟩,λa p hl=>C.pm a ⟨p,λq=>ZT.mpr q.1 hl⟩ (be hl bd),C.sub,C.pre,YY bd C.size,λa hl p=>(C.pn a (be hl bd) p).imp (·.1) id,λa hb hl=>C.bn a hb (be hl bd)⟩
end
section
def oa:jeu->Value
 | .ret v=>v
 |_=>.none
theorem Tp {A:ZS}{av:aB}{G:GD}{s sB:Y1}{T':Tb}{sc:jax}{cg:List (Str×Zb)}{f:Zb}{o:Obj}{fd:jau}{body:List Stmt}{xs:List Value}{binds:List (Str×Value)}{K:Value->Gh->List Zb->(Zb->Prop)->Y1->Prop}(IB:bg G sB.heap)(S:SR G sB aj ah ab T φ ρ σ β P m s)(I:o6 T' sc)(ho:s.heap.get? f=some o)(hd:o.data=.func fd)(sL:s.heap.CodeRec fd.code fd.qualname)(jd:fd.body=.stmts body)(fJ:fd.scope=sc)(PT:fd.globals=Zm)(zb:fd.builtins=jaa)(hcl:fd.closure=cg)(zg:fd.scope.isCoroutine=false)(jI:fd.scope.isGenerator=false)(sV:A.depth<jde)(jc:jbJ fd ⟨xs,[]⟩=pure binds)(ze:∀x∈binds,sc.names.lookup x.1=some .local)(aO:av.length=T'.next)(hn:∀x i v,T'.var x=some i->av[i]?=some (some v)->∃v',VR G.tok φ s.heap β P v v'/\((sc.names.lookup x=some .local/\binds.reverse.lookup x=some v')\/(sc.names.lookup x=some .free/\∃c,cg.lookup x=some c/\s.heap.IsCell c (some v'))))(zf:∀x,sc.names.lookup x=some .free->∃c v,cg.lookup x=some c/\s.heap.IsCell c v)(zK:∀x c,cg.lookup x=some c->eX G c)(lZ:∀h' t da,ce s.heap h'->SR G sB aj ah (jk sc s.heap.objs.size cg (fd.qualname ++ ".<locals>.") f fd.code) T' φ av σ β (fN P s.heap.objs.size h'.objs.size) da { s with heap:=h',toks:=t } ->
 Y7 (Y9 af wd) (A.deeper (jk sc s.heap.objs.size cg (fd.qualname ++ ".<locals>.") f fd.code)) (ZJ body (jk sc s.heap.objs.size cg (fd.qualname ++ ".<locals>.") f fd.code))
  (λfl aC=>∃aU o0 dp ck di,SR G sB aj ah (jk sc s.heap.objs.size cg (fd.qualname ++ ".<locals>.") f fd.code) T' aU o0 an dp ck di aC /\
   br G (jk sc s.heap.objs.size cg (fd.qualname ++ ".<locals>.") f fd.code) T' { s with heap:=h',toks:=t } φ σ β (fN P s.heap.objs.size h'.objs.size) aC aU an dp ck/\K (oa fl) aU dp ck aC) ax { s with heap:=h',toks:=t }):
 Y7 (Y9 af wd) A (call (.ref f) xs) (λv aC=>∃aU dp ck,SR G sB aj ah ab T aU ρ an dp ck m aC/\br G ab T s φ σ β P aC aU an dp ck/\(∀b o,lE G σ β b->s.heap.get? b=some o->aC.heap.get? b=some o)/\K v aU dp ck aC) ax s:=by
 subst fJ hcl;refine wpAny_call (jij sV ho hd zg jI jd sL ?_);refine aa jc ?_;refine Zu (eF (wpAny_newFunctionEnv I.nocell ze (λh' iL m7 u=>?_) I.kind));have ext:ce s.heap h':=λb o e=>m7.extBut b o (jaz (Zr e)) (Za _ e);refine⟨(S.inv IB).lim.keeps ext,codeAny_func ?_⟩;refine aa PT ?_;refine aa zb ?_;have aM:=S.enter (f:=f) (qual:=fd.qualname ++ ".<locals>.") (code:=fd.code) (cg:=fd.closure) (t:=s.toks+binds.length) I iL m7 (ZD _ _) aO hn zf zK;refine up (lZ h' _ _ ext aM) λfl aC qq=>sk qq λaU o0 dp ck di bq C k=>?_;refine fY (S.back I ext u.size ⟨h',_,rfl⟩ bq C) λew dq keep=>?_;have e:(match fl with | .ret v=>v|_=>Value.none)=oa fl:=by cases fl<;>rfl
 show∃aU dp ck,_;exact vU aU dp ck ew dq keep k
end
section
theorem SR.cellSet (S:SR G sB aj ah ab T φ ρ σ β P m s)(hE:bQ ab T)(hk:T.names.lookup name=some .cell)(hc:ab.cells.lookup name=some c)(hx:∀i v,T.var name=some i->ρ[i]?=some (some v)->False)(h0:s.heap.IsCell c dm)(hs:Z1 c s.heap h')(h1:h'.IsCell c oX):SR G sB aj ah ab T φ ρ σ β P m { s with heap:=h' }:=by
 have R:=S.er;refine fk (S.fr.own name hk) λc' e1 hP s0=>?_;rw[hc]at e1;cases e1;have hX:¬G.X c:=(R.bsafe c (.inr (.inr ⟨name,hc⟩))).2;have TT:=S.tabs.1.but (λb o hb e=>hs.extBut b o hb e) hX λq=>hP (R.freshX c (.inr q));have sO:∀a o,P a->s.heap.get? a=some o->h'.get? a=some o/\P a:=λa o p e=>⟨hs.extBut a o (λq=>hP (q▸p)) e,p⟩
 have hz:h'.objs.size=s.heap.objs.size:=hs.1;refine fq S.base λhh tt e=>?_;refine{ S with base:=jO h' s.toks (by refine aa e ?_;rfl),old:=λb o hb e=>hs.extBut b o (sA (S.newC name c hk hc) e) (S.old b o hb e),size:=YY S.size (ZG hz.symm),er:=?_,tabs:=⟨TT.1,λc q=>S.tabs.2 c (TT.2 c q)⟩ };refine⟨R.ns.sameBut hs (rS R.ns h0),R.len,λy j u hy hj=>?_,λy hy=>?_,λj o hj ho=>?_,λb hb=>R.freshX b (hb.imp (λhb=>by refine rwj hz ?_;exact hb) (TT.2 b)),R.psafe,R.bsafe,λb hb=>by show b<h'.objs.size;refine aa hz ?_;exact R.blt b hb,R.tk.fn,R.tk.pos,R.tk.lt,R.tk.one⟩
 ·refine au (R.names y j u hy hj) λv' r q=>?_;refine aN v' (r.mono (λY Y e=>e) sO (Zg _)) ?_;rcases q with q|⟨g7,q1,q2,q3⟩
  ·exact .inl q
  ·refine .inr ⟨g7,q1,q2,q3.sameBut hs λz=>?_⟩;subst z;have:=hE.inj y name g7 q1 hc;subst this;exact hx j u hy hj
 ·refine bB (R.celled y hy) λg7 v q1 q2=>?_;by_cases z:g7=c
  ·subst z;exact cZ g7 oX q1 h1
  ·exact cZ g7 v q1 (q2.sameBut hs z)
 ·refine au (R.objs j o hj ho) λa q1 q2=>?_;exact aN a q1 (q2.mono (λY Y e=>e) sO (Zg _) λo e=>hs.extBut a o (λz=>s0 (z▸ZB q1)) e)
theorem Lz (IB:bg G sB.heap)(S:SR G sB aj ah ab T φ ρ σ β P m s)(hE:bQ ab T)(km:t∈G.tabs)(hu:∀t'∈G.tabs,t'.2.1=t.2.1->t'=t)(mY:ab.code=.ref t.1)(kl:t.2.2.1=pos)(hq:jdZ ab name name=t.2.2.2)(k0:params.defaults=[])(zq:params.kw_defaults=[])(ha:jha params none ab=[])(hcl:jcQ sc ab=pure cg)(hk:T.names.lookup name=some .cell)(hc:ab.cells.lookup name=some c)(hx:∀i v,T.var name=some i->ρ[i]?=some (some v)->False)(hQ:∀(f:Zb) (s':Y1) (bZ bG pm:Value) (c':Zb),SR G sB aj ah ab T φ ρ σ β P m s'->s.heap.objs.size<=f->P f->s'.heap.get? f=some (jhR name t.2.2.2 params body sc cg bG pm c' bZ)->s'.heap.CodeRec (.ref c') t.2.2.2->s'.heap.IsCell c (some (.ref f))->Q .next s'):
 Y7 (Y9 af wd) A (ZX (.FunctionDef name params body [] none [] sc none name pos) ab) Q E s:=by
 have I:=S.inv IB;refine nestDef_K k0 zq ha ?_;refine aa hq ?_;refine pZ I.bmain λbm ob b1 b2 b3 b4 b5 b6=>?_;have Pj:bm≠Zm:=λq=>by
  refine j' I.g λo es ep e hd Y=>?_;rw[q,e]at b3;cases b3;rw[hd]at b6;cases b6
 have vc:G.X t.2.1:=⟨t,km,rfl⟩
 have zn:Zm≠t.2.1:=λq=>I.tabs.notX_ns I.g (q▸vc);have Pk:bm≠t.2.1:=λq=>I.tabs.notX_data b3 (λvs z=>by rw[b6]at z;cases z) (q▸vc);have hB:s.heap.BuiltinsAt G.mg t.2.1:=⟨bm,ob,b1,b2,Pj,Pk,b3,b4,b5,b6⟩
 have fin:∀(aX:jag) (tk:Tok) (bZ bG:Value) (c':Zb),GX G s φ { s with heap:=aX.push (jhR name t.2.2.2 params body sc cg bG ((G.mg "__name__").getD .none) c' bZ),toks:=tk } φ->s.heap.objs.size<=aX.objs.size->aX.CodeRec (.ref c') t.2.2.2 ->
  Y7 (Y9 af wd) A (jdr ab name (.ref aX.objs.size)) (λY cO=>Q .next cO) E { s with heap:=aX.push (jhR name t.2.2.2 params body sc cg bG ((G.mg "__name__").getD .none) c' bZ),toks:=tk }:=λaX tk bZ bG c' k bd la=>by
  have aM:=S.go k;refine bB (aM.er.celled name (by unfold Tb.celled;refine aa hk ?_;rfl)) λg7 dm e1 e2=>?_;rw[hc]at e1;cases e1;refine jis hE.kind (hE.cel name hk) hc e2 λh' gN ei=>?_;have PH:aX.objs.size≠c:=λq=>by
   refine au e2 λo ho hd=>?_;have:=ZW (o:=jhR name t.2.2.2 params body sc cg bG ((G.mg "__name__").getD .none) c' bZ) aX rfl;rw[q]at this;rw[show({ s with heap:=aX.push (jhR name t.2.2.2 params body sc cg bG ((G.mg "__name__").getD .none) c' bZ),toks:=tk }:Y1).heap.get? c=_ from this]at ho;cases ho;cases hd
  have mY:h'.CodeRec (.ref c') t.2.2.2:=by
   refine qa la λCB oc vs tt e3 e4 e5 e6=>?_;cases e3;refine⟨c',oc,vs,tt,rfl,ei.extBut c' oc (λq=>?_) (Za _ e4),e5,e6⟩;refine au e2 λo ho hd=>?_;rw[<-q]at ho;rw[show({ s with heap:=aX.push (jhR name t.2.2.2 params body sc cg bG ((G.mg "__name__").getD .none) c' bZ),toks:=tk }:Y1).heap.get? c'=_ from Za _ e4]at ho;cases ho;rw[e5]at hd;cases hd
  have bq:=aM.cellSet hE hk hc hx e2 ei gN;exact hQ _ _ bZ bG _ c' bq bd (S.er.fresh _ bd) (ei.extBut _ _ PH (ZW aX rfl)) mY gN
 rcases I.tabs t km with hP|⟨g7,hP,sL⟩
 ·refine eF (makeFunction_K (mg:=G.mg) (P:=t.2.1) hcl hE.g I.g mY (I.heads t km) hP trivial rfl zn hB λc' bZ bG aX tk fb m4 aZ la O' u=>?_);refine fin aX tk bZ bG c' ?_ ?_ la
  ·have bd:s.heap.objs.size<=aX.objs.size:=YY m4 (ZI aZ);have Ez:aX.get? t.2.1=some (qi t c'):=by
    subst kl;simpa using O'
   refine⟨⟨⟨_,_,rfl,λb o hb e=>Za _ (fb b o (λq=>hb (q▸vc)) e)⟩,u.size⟩,λY Y e=>e,⟨S.er.tk.fn,S.er.tk.pos,λt' x e=>be (S.er.tk.lt t' x e) u.toks,be S.er.tk.one u.toks⟩,λY=>⟨λt' eS=>?_,λd ⟨t',eS,e⟩=>?_⟩⟩
   ·by_cases q:t'.2.1=t.2.1
    ·have:=hu t' eS q;subst this;exact .inr ⟨c',Za _ Ez,la.push _⟩
    ·rcases I.tabs t' eS with z|⟨d,z,d',o,vs,tt,z1,z2,z3⟩
     ·exact .inl (Za _ (fb _ _ q z))
     ·cases z1;have cV:d≠t.2.1:=λr=>I.tabs.notX_code (q:=t'.2.2.2) ⟨d,o,vs,tt,rfl,z2,z3⟩ (r▸vc);exact .inr ⟨d,Za _ (fb _ _ q z),d,o,vs,tt,rfl,Za _ (fb _ _ cV z2),z3⟩
   ·by_cases q:t'.2.1=t.2.1
    ·have:=hu t' eS q;subst this;have e1:some (qi t' c')=some (qi t' d):=(Za _ Ez).symm.trans e;have:c'=d:=by
      have:=congrArg (λo:Option Obj=>o.map (·.data)) e1;simpa using this
     subst this;exact .inr m4
    ·refine .inl ⟨t',eS,?_⟩;rcases I.tabs t' eS with z|⟨d',z,_⟩
     ·have:=(Za _ (fb _ _ q z)).symm.trans e;refine aa z ?_;refine rwj this ?_;rfl
     ·have:=(Za _ (fb _ _ q z)).symm.trans e;refine aa z ?_;refine rwj this ?_;rfl
  ·exact YY m4 (ZI aZ)
 ·refine eF (makeFunction_hit (mg:=G.mg) (P:=t.2.1) (cv:=.ref g7) hcl hE.g I.g mY (I.heads t km) hP (by simp[TriplesOk,jdY]) ?_ hB λbZ bG aX tk fb bd u=>?_)
  ·subst kl;simp[codeAmong,jdY]
  ·refine fin aX tk bZ bG g7 (GX.same S.er.tk ⟨⟨_,_,rfl,λb o e=>Za _ (fb b o e)⟩,u.size⟩ u.toks) bd (sL.keeps fb)
end
def cB (n:Int)(ds:List Int):Int:=ds.foldr (λd acc=>d+acc*2^n.toNat) 0
theorem CE (n:Int):∀(as bs:List Int),cB n (as++bs)=cB n as+cB n bs*2^(n.toNat*as.length)
 | [],bs=>by simp[cB]
 |a::as,bs=>by
  have ih:=CE n as bs;unfold cB at ih ⊢;rw[jdb,jiI,jiI,ih,Zl,Int.add_mul,Int.add_assoc,Int.mul_assoc,<-Int.pow_add,jdC]
theorem CG (hn:n.toNat<=64):∀(ds:List Int),(∀d∈ds,d.natAbs<2^64)->(cB n ds).natAbs<2^(65*(ds.length+1))
 | [],_=>by show(0:Int).natAbs<_;exact jay _
 |d::ds,h=>by
  have ih:=CG hn ds λx hx=>h x (Zt _ hx);have h1:=h d Zc;have e:cB n (d::ds)=d+cB n ds*2^n.toNat:=rfl;rw[e];have h2:(cB n ds*2^n.toNat).natAbs=(cB n ds).natAbs*2^n.toNat:=by
   rw[Int.natAbs_mul,Int.natAbs_pow];rfl
  have h3:(2:Nat)^n.toNat<=2^64:=Zi (by decide) hn;have h4:(cB n ds).natAbs*2^n.toNat<=2^(65*(ds.length+1))*2^64:=jbe (ZI ih) h3;have h5:(2:Nat)^(65*((d::ds).length+1))=2^(65*(ds.length+1))*2^64+2^(65*(ds.length+1))*2^64:=by
   rw[Zl,show 65*(ds.length+1+1)=65*(ds.length+1)+65 from rfl,jdW,show(2:Nat)^65=2^64+2^64 by decide,jfN]
  have h6:(2:Nat)^64<=2^(65*(ds.length+1))*2^64:=Nat.le_mul_of_pos_left _ (jay _);have:=Int.natAbs_add_le d (cB n ds*2^n.toNat);rw[h2]at this
  lia
theorem ag (h:ρ[i]?=some (some v)):ev Φ σ ρ (.var i)=some v:=by rw[Du,h]
theorem bK:ev Φ σ ρ (.c (.int i))=some (.int i):=rfl
theorem cK (h1:ev Φ σ ρ a=some x)(h2:ev Φ σ ρ b=some y)(h:j3 σ op x y=some c):ev Φ σ ρ (.cmp op a b)=some (.bool c):=by
 rewrite [Dw];refine aa h1 ?_;dsimp only;refine aa h2 ?_;simp only[h];rfl
theorem cb (h1:ev Φ σ ρ a=some x)(h2:ev Φ σ ρ b=some y)(h:dE σ op x y=some z):ev Φ σ ρ (.bin op a b)=some z:=by
 rewrite [Dv];refine aa h1 ?_;dsimp only;refine aa h2 ?_;exact h
theorem cT (h1:ev Φ σ ρ a=some x):bX Φ σ ρ (.cons a .nil)=some [x]:=by
 rw[mM,h1];rfl
theorem dM (h1:ev Φ σ ρ a=some x)(h2:ev Φ σ ρ b=some y):bX Φ σ ρ (.cons a (.cons b .nil))=some [x,y]:=by
 rw[mM,h1];dsimp only;rw[cT h2]
theorem gJ (h1:ev Φ σ ρ a=some x)(h2:ev Φ σ ρ b=some y)(h3:ev Φ σ ρ c=some z):bX Φ σ ρ (.cons a (.cons b (.cons c .nil)))=some [x,y,z]:=by
 rw[mM,h1];dsimp only;rw[dM h2 h3]
theorem mJ (h1:ev Φ σ ρ a=some x)(h2:ev Φ σ ρ i=some y)(h:m9 σ x y=some z):ev Φ σ ρ (.idx a i)=some z:=by
 rewrite [Dt];refine aa h1 ?_;dsimp only;refine aa h2 ?_;exact h
def CC:List (Str×jaY):=[("L",.local),("R",.local),("mid",.local),("shift",.local),("digits",.free),("inner",.free),("n",.free)]
def j5:Tb:={ names:=CC,vars:=[("L",0),("R",1),("mid",2),("shift",3),("digits",4),("n",5)],next:=6 }
def rU (p:Nat->Pos):List Stmt :=
 [.If (.Compare (.BinOp (.Name "L" (p 0)) .Add (.Constant (.int 1) 0 (p 1)) (p 2)) [.Eq] [.Name "R" (p 3)] (p 4)) [.Return (some (.Subscript (.Name "digits" (p 5)) (.Name "L" (p 6)) (p 7))) (p 8)] [] (p 9),
  .Assign [.Name "mid" (p 10)] (.BinOp (.BinOp (.Name "L" (p 11)) .Add (.Name "R" (p 12)) (p 13)) .RShift (.Constant (.int 1) 0 (p 14)) (p 15)) (p 16),
  .Assign [.Name "shift" (p 17)] (.BinOp (.BinOp (.Name "mid" (p 18)) .Sub (.Name "L" (p 19)) (p 20)) .Mult (.Name "n" (p 21)) (p 22)) (p 23),
  .Return (some (.BinOp (.BinOp (.Call (.Name "inner" (p 24)) [.Name "mid" (p 25),.Name "R" (p 26)] [] (p 27)) .LShift (.Name "shift" (p 28)) (p 29)) .Add (.Call (.Name "inner" (p 30)) [.Name "L" (p 31),.Name "mid" (p 32)] [] (p 33)) (p 34))) (p 35)]
theorem Lf:jx j5:=tT (by decide +kernel)
section
theorem vW (h:a.natAbs<2^k):Zj a<=k:=by
 unfold Zj;split
 ·exact jaU _
 ·exact(jeP (Int.natAbs_ne_zero.mpr λe=>‹¬(a==0)=true› (beq_iff_eq.mpr e))).mpr h
def bE:cX:=λY Y=>none
theorem rF (D:dR A n)(hG:dD G)(hN:gE G):fT G A bE:=⟨D.handled,by have:=D.units;exact qZ this,hG,hN,λk vs r e=>nomatch e⟩
structure cj (G:GD) (s:Y1) (φ:Gh) (β:List Zb) (P:Zb->Prop) (f cD cN cI:Zb) (fd:jau) (V:AV) (n:Int):Prop where
 fo:∃o,s.heap.get? f=some o/\o.data=.func fd
 fc:s.heap.CodeRec fd.code fd.qualname
 iD:∃v,s.heap.IsCell cD (some v)/\VR G.tok φ s.heap β P V v
 iN:∃t,s.heap.IsCell cN (some (.int n t))
 iI:s.heap.IsCell cI (some (.ref f))
structure kJ (G:GD) (fd:jau) (Ti:Tb) (body:List Stmt) (dn:Str) (cD cN cI:Zb):Prop where
 stmts:fd.body=.stmts body
 tb:o6 Ti fd.scope
 co:fd.scope.isCoroutine=false
 gen:fd.scope.isGenerator=false
 glob:fd.globals=Zm
 bi:fd.builtins=jaa
 lN:fd.closure.lookup ("n" : Str)=some cN
 lI:fd.closure.lookup ("inner" : Str)=some cI
 lD:fd.closure.lookup dn=some cD
 all:∀{C:Str->Zb->Prop},C "n" cN->C "inner" cI->C dn cD->∀x c,fd.closure.lookup x=some c->C x c
 ne1:cN≠cI
 ne2:cN≠cD
 ne3:cI≠cD
 safe:eX G cD/\eX G cN/\eX G cI
 cell:Ti.celled "n" = true/\Ti.celled "inner" = true/\Ti.celled dn=true
 free:Ti.names.lookup ("n" : Str)=some .free/\Ti.names.lookup ("inner" : Str)=some .free/\Ti.names.lookup dn=some .free
 only:∀{C:Str->Prop},C "n" -> C "inner" -> C dn->∀x,Ti.names.lookup x=some .free->C x
theorem SR.calmObj {s:Y1}{o:Obj}(e:s.heap.get? b=some o)(h1:∀xs n,o.data≠.seq xs n)(h2:∀es ep,o.data≠.dict es ep)(r:OR tk φ s.heap β P u a):b≠a:=λq=>by
 cases r with
 |list r _=>refine aW r λn r=>?_;exact h1 _ _ (congrArg Obj.data (Y0 (e.symm.trans (q▸r))))
 |dict r _ _=>refine kW r λo' es ep r Y r2 Y=>?_;exact h2 _ _ ((congrArg Obj.data (Y0 (e.symm.trans (q▸r)))).trans r2)
theorem SR.calmShape {s:Y1}{o:Obj}(S:SR G sB aj ah ab T φ ρ σ β P m s)(e:s.heap.get? b=some o)(h1:∀xs n,o.data≠.seq xs n)(h2:∀es ep,o.data≠.dict es ep):∀j:Nat,β[j]?=some b->σ[j]?=some .gone:=λj hj=>by
 have hl:j<σ.length:=by refine rwj S.lenB ?_;exact(Zw.mp hj).1
 refine aa (Y' hl) ?_;by_cases hg:σ[j]=.gone
 ·refine aa hg ?_;rfl
 ·refine au (S.er.objs j _ (Y' hl) hg) λa e1 e2=>?_;exact absurd (Y0 (hj.symm.trans e1)) (SR.calmObj e h1 h2 e2)
theorem AG {o:Obj}(hd:o.data=d)(h:∀xs n,d≠.seq xs n):∀xs n,o.data≠.seq xs n:=λxs n=>hd▸h xs n
theorem AF {o:Obj}(hd:o.data=d)(h:∀xs n,d≠.dict xs n):∀xs n,o.data≠.dict xs n:=λxs n=>hd▸h xs n
theorem cj.on {G:GD}{s s':Y1}(F:cj G s φ β P f cD cN cI fd V n)(hk:∀b o,s.heap.get? b=some o->(∀xs n,o.data≠.seq xs n)->(∀es ep,o.data≠.dict es ep)->¬G.X b->s'.heap.get? b=some o)(TB:bz G s.heap)(hv:∀v,VR G.tok φ s.heap β P V v->VR G.tok am s'.heap aH P' V v):cj G s' am aH P' f cD cN cI fd V n :=
 have cell:∀c v,s.heap.IsCell c v->s'.heap.IsCell c v:=λc v ⟨o,ho,hd⟩=>⟨o,hk c o ho (AG hd λY Y=>nofun) (AF hd λY Y=>nofun) (TB.notX_cell ⟨o,ho,hd⟩),hd⟩
 { fo:=F.fo.elim λo qq=>bN qq λho hd=>aN o (hk f o ho (AG hd λY Y=>nofun) (AF hd λY Y=>nofun) (TB.notX_data ho λY q=>nomatch hd.symm.trans q)) hd
   fc:=F.fc.elim λc r=>r.elim λo r=>r.elim λvs r=>r.elim λt r=>⟨c,o,vs,t,r.1,hk c o r.2.1 (AG r.2.2.1 λY Y=>nofun) (AF r.2.2.1 λY Y=>nofun) (TB.notX_code (q:=fd.qualname) ⟨c,o,vs,t,rfl,r.2⟩),r.2.2⟩
   iD:=F.iD.elim λv r=>aN v (cell _ _ r.1) (hv v r.2)
   iN:=F.iN.elim λt r=>⟨t,cell _ _ r⟩
   iI:=cell _ _ F.iI }
theorem cj.go (F:cj G s φ β P f cD cN cI fd V n)(R:ER G φ ab T ρ σ β P m s)(k:GX G s φ s' am)(TB:bz G s.heap):cj G s' am β P f cD cN cI fd V n :=
 F.on (λb o e Y Y hX=>k.ext b o hX e) TB λv r=>R.vr k r
theorem cj.carry (F:cj G s φ β P f cD cN cI fd V n)(S:SR G sB aj ah ab T φ ρ σ β P m s)(hT:∀x,T.names.lookup x≠some .cell)(C:br G ab T s φ σ β P s' am an aH P'):cj G s' am aH P' f cD cN cI fd V n :=
 F.on (λb o e h1 h2 hX=>C.keep b o ⟨λq=>by
  rcases q with rfl|⟨y,q,_⟩|q
  ·refine j' S.er.ns λo' es ep e' hd Y=>?_;exact h2 _ _ (Y0 (e.symm.trans e')▸hd)
  ·exact hT y q
  ·exact hX q,S.calmShape e h1 h2⟩ e) S.tabs.1 λv r=>S.carry C r
theorem cj.calm (F:cj G s φ β P f cD cN cI fd V n)(S:SR G sB aj ah ab T φ ρ σ β P m s)(C:br G ab T s φ σ β P s' am an aH P')(hk:∀b o,lE G σ β b->s.heap.get? b=some o->s'.heap.get? b=some o):cj G s' am aH P' f cD cN cI fd V n :=
 F.on (λb o e h1 h2 hX=>hk b o ⟨S.calmShape e h1 h2,hX⟩ e) S.tabs.1 λv r=>S.carry C r
theorem kJ.inj (F:kJ G fd Ti body dn cD cN cI):∀x y c,fd.closure.lookup x=some c->fd.closure.lookup y=some c->x=y:=λx y c hx hy =>
 F.all (C:=λx c=>∀y,fd.closure.lookup y=some c->x=y)
  (λy hy=>F.all (C:=λy c=>cN=c -> "n" = y) (λY=>rfl) (λq=>absurd q F.ne1) (λq=>absurd q F.ne2) y _ hy rfl)
  (λy hy=>F.all (C:=λy c=>cI=c -> "inner" = y) (λq=>absurd q.symm F.ne1) (λY=>rfl) (λq=>absurd q F.ne3) y _ hy rfl)
  (λy hy=>F.all (C:=λy c=>cD=c->dn=y) (λq=>absurd q.symm F.ne2) (λq=>absurd q.symm F.ne3) (λY=>rfl) y _ hy rfl) x c hx y hy
def jw (A:ZS)(ab:Env)(f cI:Zb):Prop:=∀(s:Y1) (Q:Value->Y1->Prop) (E:Value->Y1->Prop),s.heap.IsCell cI (some (.ref f))->Q (.ref f) s->Y7 (Y9 af wd) A (loadName ab "inner") Q E s
theorem Rz {sB:Y1}{fd:jau}(Fd:kJ G fd Ti body dn cD cN cI)(IB:bg G sB.heap)(hP₀:∀a,sB.heap.objs.size<=a->ah a)(hO:fT G A bE){z:Zb}{qual:Str}{code:Value}:
 a0 G A bE sB ah (jk fd.scope z fd.closure qual f code) Ti where
 hO:=hO
 hE:=Md Fd.tb Fd.inj
 hT:=Fd.tb.tb
 IB:=IB
 hP₀:=hP₀
 hI:=by
  unfold jiA;refine aa (show(jk fd.scope z fd.closure qual f code).scope.kind=.function from Fd.tb.kind) ?_;rfl
 hcl:=Fd.all (C:=λx Y=>Ti.celled x=true) Fd.cell.1 Fd.cell.2.1 Fd.cell.2.2
theorem RA {fd:jau}(Fd:kJ G fd Ti body dn cD cN cI){z:Zb}{qual:Str}{code:Value}:jw A (jk fd.scope z fd.closure qual f code) f cI:=λs Q E hc hQ =>
 jfs Fd.tb.kind ((congrArg (jdU ("inner" : Str)) Fd.tb.names).symm.trans Fd.free.2.1) Fd.lI hc hQ (by decide)
def ul (G:GD)(sB:Y1)(aj:Gh)(ah:Zb->Prop)(ab:Env)(T:Tb)(φ:Gh)(ρ:aB)(σ:aA)(β:List Zb)(P:Zb->Prop)(m:Str->Option Value)(s:Y1)(an:aA)(K:Value->Prop)(v:Value)(aC:Y1):Prop :=
 ∃aU dp ck,SR G sB aj ah ab T aU ρ an dp ck m aC/\br G ab T s φ σ β P aC aU an dp ck/\(∀b o,lE G σ β b->s.heap.get? b=some o->aC.heap.get? b=some o)/\K v
def uk (G:GD)(A:ZS)(sB:Y1)(aj:Gh)(ah:Zb->Prop)(f cD cN cI:Zb)(fd:jau)(V:AV)(n:Int)(σ an:aA)(as:List AV)(K:Value->Prop):Prop :=
 ∀ab T φ ρ β P m s xs,SR G sB aj ah ab T φ ρ σ β P m s->cj G s φ β P f cD cN cI fd V n->ar G.tok φ s.heap β P as xs ->
  Y7 (Y9 af wd) A (call (.ref f) xs) (ul G sB aj ah ab T φ ρ σ β P m s an K) ax s
def gT (G:GD)(sB:Y1)(aj:Gh)(ah:Zb->Prop)(ab:Env)(T:Tb)(f cD cN cI:Zb)(fd:jau)(V:AV)(n:Int)(φ:Gh)(σ:aA)(β:List Zb)(P:Zb->Prop)(s:Y1)(av:aB)(an:aA)(Q:Y1->Prop):Prop :=
 ∀am aH P' m' s',SR G sB aj ah ab T am av an aH P' m' s'->cj G s' am aH P' f cD cN cI fd V n->br G ab T s φ σ β P s' am an aH P'->Q s'
theorem gT.go (k:GX G s φ s' am)(h:gT G sB aj ah ab T f cD cN cI fd V n φ σ β P s av iv Q):gT G sB aj ah ab T f cD cN cI fd V n am σ β P s' av iv Q :=
 λay dc cC da ak S F C=>h ay dc cC da ak S F ((br.go k).trans C)
theorem xD {lK:Expr}{args:List Expr}{as:List AV}{pa pe:Pos}{Q:Value->Y1->Prop}{K:Value->Prop}(cM:jao (lK::args) ab=(false,Z7 lK ab)::jao args ab)(FC:a0 G A bE sB ah ab T)(L:jw A ab f cI)(jH:bX bE σ ρ (bf T (lK::args))=some as)(H:uk G A sB aj ah f cD cN cI fd V n σ an as K)(S:SR G sB aj ah ab T φ ρ σ β P m s)(F:cj G s φ β P f cD cN cI fd V n)(hQ:∀v,K v->gT G sB aj ah ab T f cD cN cI fd V n φ σ β P s ρ an (Q v)):Y7 (Y9 af wd) A (Z7 (.Call (.Name ("inner" : Str) pa) (lK::args) [] pe) ab) Q ax s:=by
 refine jaC (wpAny_Name (L _ _ _ F.iI ?_) (by decide));refine au F.fo λo ho hd=>?_;refine jff hd (((j7 FC.hE (λe Y=>cH FC.hO _ e (Y2 _)) jH).2 pe).post (S.inv FC.IB) S.er λxs ak ay aw Y Y aF=>?_) cM;have aM:=S.go aw;have fU:=F.go S.er aw S.tabs.1;refine⟨aw.ext _ _ (S.tabs.1.notX_data ho λY q=>nomatch hd.symm.trans q) ho,up (H _ _ _ _ _ _ _ _ xs aM fU aF) λv aC cy=>?_⟩;refine kW cy λaU dp ck bq cY kp hK=>?_;exact hQ v hK aU dp ck _ aC bq (fU.calm aM cY kp) ((br.go aw).trans cY)
theorem pq (FC:a0 G A bE sB ah ab T)(hT:∀x,T.names.lookup x≠some .cell)(hx:T.own x=some i)(he:ev bE σ ρ (ao T e)=some v)(S:SR G sB aj ah ab T φ ρ σ β P m s)(F:cj G s φ β P f cD cN cI fd V n)(hQ:gT G sB aj ah ab T f cD cN cI fd V n φ σ β P s (ρ.set i (some v)) σ λs'=>Y7 (Y9 af wd) A (ZJ az ab) Q ax s'):Y7 (Y9 af wd) A (ZJ (.Assign [.Name x px] e pos::az) ab) Q ax s :=
 have c:gq bE ρ σ false (ao T e)=some (v,σ):=congrArg (Z6 (·,σ)) he
 Zv (up (HH FC hx (λq=>absurd q ZY) c s φ β P m S) λfw ak aX=>by
  obtain⟨rfl,ay,dc,cC,da,aM,bU⟩:=aX;exact hQ ay dc cC da ak aM (F.carry S hT bU) bU)
def wA (A:ZS)(ab:Env)(az:List Stmt)(Q:jeu->Y1->Prop)(f:jeu)(s:Y1):Prop:=match f with
 | .next=>Y7 (Y9 af wd) A (ZJ az ab) Q ax s
 |f=>Q f s
theorem FW (FC:a0 G A bE sB ah ab T)(he:ev bE σ ρ (ao T c)=some (.bool b))(S:SR G sB aj ah ab T φ ρ σ β P m s)(F:cj G s φ β P f cD cN cI fd V n)(h1:b=true->∀am s',GX G s φ s' am->SR G sB aj ah ab T am ρ σ β P m s'->cj G s' am β P f cD cN cI fd V n->Y7 (Y9 af wd) A (ZJ th ab) (wA A ab az Q) ax s')(h2:b=false->∀am s',GX G s φ s' am->SR G sB aj ah ab T am ρ σ β P m s'->cj G s' am β P f cD cN cI fd V n->Y7 (Y9 af wd) A (ZJ el ab) (wA A ab az Q) ax s'):
 Y7 (Y9 af wd) A (ZJ (.If c th el pos::az) ab) Q ax s :=
 Zv (jeC (((cH FC.hO _ c (Y2 _) _ _ _ _ FC.hE he).2 _ rfl).post (S.inv FC.IB) S.er λaC aU aP dJ bW=>by
  have bq:=S.go aP;have gD:=F.go S.er aP S.tabs.1
  induction b using ZC with
  |true=>exact h1 rfl aU aC aP bq gD
  |false=>exact h2 rfl aU aC aP bq gD))
theorem t5 (FC:a0 G A bE sB ah ab T)(he:ev bE σ ρ (ao T e)=some v)(S:SR G sB aj ah ab T φ ρ σ β P m s)(F:cj G s φ β P f cD cN cI fd V n)(hQ:∀x am s',GX G s φ s' am->SR G sB aj ah ab T am ρ σ β P m s'->cj G s' am β P f cD cN cI fd V n->VR G.tok am s'.heap β P v x->Q x s'):Y7 (Y9 af wd) A (Z7 e ab) Q ax s :=
 (cH FC.hO _ e (Y2 _) _ _ _ _ FC.hE he).1.post (S.inv FC.IB) S.er λx ak ay aw Y Y aF=>hQ x ay ak aw (S.go aw) (F.go S.er aw S.tabs.1) aF
def kL (G:GD)(φ:Gh)(h:jag)(β:List Zb)(P:Zb->Prop)(Ti:Tb)(binds:List (Str×Value))(dn:Str)(V:AV)(n:Int)(x:Str)(v:AV):Prop :=
 (Ti.names.lookup x=some .local/\∃v',binds.reverse.lookup x=some v'/\VR G.tok φ h β P v v')\/(x=dn/\v=V)\/(x = "n" /\ v=.int n)
theorem kL.loc (e:(some (some u):Option (Option AV))=some (some v))(h1:Ti.names.lookup x=some .local)(h2:binds.reverse.lookup x=some v')(h3:VR G.tok φ h β P u v'):kL G φ h β P Ti binds dn V n x v :=
 xV (Q:=kL G φ h β P Ti binds dn V n x) e (.inl ⟨h1,v',h2,h3⟩)
theorem kL.dig (e:(some (some V):Option (Option AV))=some (some v)):kL G φ h β P Ti binds dn V n dn v:=xV (Q:=kL G φ h β P Ti binds dn V n dn) e (.inr (.inl ⟨rfl,rfl⟩))
theorem kL.num (e:(some (some (.int n)):Option (Option AV))=some (some v)):kL G φ h β P Ti binds dn V n "n" v:=xV (Q:=kL G φ h β P Ti binds dn V n "n") e (.inr (.inr ⟨rfl,rfl⟩))
theorem F2 {av:aB}{s sB:Y1}{Ti:Tb}{xs:List Value}{binds:List (Str×Value)}{K:Value->Prop}{k:Nat}(Fd:kJ G fd Ti body dn cD cN cI)(IB:bg G sB.heap)(hG:dD G)(hN:gE G)(hP₀:∀a,sB.heap.objs.size<=a->ah a)(D:dR A (k+1))(S:SR G sB aj ah ab T φ ρ σ β P m s)(F:cj G s φ β P f cD cN cI fd V n)(jc:jbJ fd ⟨xs,[]⟩=pure binds)(ze:∀x∈binds,Ti.names.lookup x.1=some .local)(aO:av.length=Ti.next)(hn:∀e∈Ti.vars,∀v,av[e.2]?=some (some v)->kL G φ s.heap β P Ti binds dn V n e.1 v)(lZ:∀(A':ZS) (eY:Env) (s':Y1) (P':Zb->Prop) (m':Str->Option Value) (Q:jeu->Y1->Prop),dR A' k->a0 G A' bE sB ah eY Ti->jw A' eY f cI->SR G sB aj ah eY Ti φ av σ β P' m' s'->cj G s' φ β P' f cD cN cI fd V n ->
 (∀fl eG,K (oa fl)->gT G sB aj ah eY Ti f cD cN cI fd V n φ σ β P' s' eG an (Q fl))->Y7 (Y9 af wd) A' (ZJ body eY) Q ax s'):
 Y7 (Y9 af wd) A (call (.ref f) xs) (ul G sB aj ah ab T φ ρ σ β P m s an K) ax s:=by
 refine au F.fo λo ho hd=>?_;have zB:fd.scope.names=Ti.names:=Fd.tb.names.symm;refine Tp (av:=av) (K:=λv Y Y Y Y=>K v) IB S Fd.tb ho hd F.fc Fd.stmts rfl Fd.glob Fd.bi rfl Fd.co Fd.gen (by have:=D.depth;exact qZ this) jc (by refine aa zB ?_;exact ze) aO (λx i v hx hv=>?_) (λx hx=>?_) (Fd.all (C:=λY c=>eX G c) Fd.safe.2.1 Fd.safe.2.2 Fd.safe.1) (λh' t da vn aM=>?_)
 ·refine aa zB ?_;rcases hn (x,i) (qW hx) v hv with⟨h1,v',h2,h3⟩|⟨rfl,rfl⟩|⟨rfl,rfl⟩
  ·exact aN v' h3 (.inl ⟨h1,h2⟩)
  ·refine au F.iD λvD d1 d2=>?_;exact aN vD d2 (.inr ⟨Fd.free.2.2,cD,Fd.lD,d1⟩)
  ·refine aW F.iN λtN n1=>?_;exact aN _ (.int _ tN) (.inr ⟨Fd.free.1,cN,Fd.lN,n1⟩)
 ·rw[zB]at hx;exact Fd.only (C:=λx=>∃c v,fd.closure.lookup x=some c/\s.heap.IsCell c v) (F.iN.elim λY n1=>cZ cN _ Fd.lN n1) ⟨cI,_,Fd.lI,F.iI⟩ (F.iD.elim λY d=>cZ cD _ Fd.lD d.1) x hx
 ·refine lZ _ _ _ _ da _ (D.deeper _) (Rz Fd IB hP₀ (rF (D.deeper _) hG hN)) (RA Fd) aM (F.on (λb o e Y Y Y=>vn b o e) S.tabs.1 λv r=>r.mono (λY Y e=>e) (λa o p e=>⟨vn a o e,p,λq=>ZT.mpr q.1 (Zr e)⟩) (Zg _)) λfl eG hK aU dp ck di aC bq Y cY=>?_;exact F1 aU eG dp ck di bq cY hK
def xO (ds:List Int)(lo hi:Nat)(n:Int):aB:=[some (.int lo),some (.int hi),none,none,some (.lst (ds.map .int)),some (.int n)]
theorem Rk {ds:List Int}(h:k<ds.length)(hl:ds.length<=1000):m9 σ (.lst (ds.map .int)) (.int k)=some (.int ds[k]):=by
 have Fq:fO (k:Int) (ds.map AV.int).length=some k:=wk (by rw[YX];exact h) (by rw[YX];exact YY hl (by decide));refine(congrArg (λo=>Option.bind o λj=>(ds.map AV.int)[j]?) Fq).trans ?_;show(ds.map AV.int)[k]?=_;refine aa ZK ?_;refine aa (Y' h) ?_;rfl
theorem EH {x y:Nat}:dE σ .RShift (.int ((x:Int)+y)) (.int 1)=some (.int ((x+y)/2:Nat)):=by
 show some (AV.int (Int.fdiv ((x:Int)+y) 2))=_;refine aa (jak _ (by decide)) ?_;rfl
theorem GL (h:n.natAbs<2^64):dE σ .Mult (.int x) (.int n)=some (.int (x*n)):=by
 show(if small x||small n then _ else _)=_;rw[if_pos (by rw[show small n=true from decide_eq_true h,Bool.or_true])]
end
section
variable {A:ZS}{ab:Env}{T:Tb}{ρ av:aB}{σ an iv:aA}{G:GD}{s s' cO:Y1}{φ am kC:Gh}{β aH ud:List Zb}{P P' rq ah:Zb->Prop}{m m':Str->Option Value}{tk:Zb}{h h':jag}
variable {sB:Y1}{aj:Gh}{f cD cN cI:Zb}{fd:jau}{n:Int}{p:Nat->Pos}{ds:List Int}{lo hi bu:Nat}{sh:Int}
theorem GU {l:List (Str×jaY)}{x:Str}(h:l.all (λe=>e.2 != .cell)=true)(q:l.lookup x=some .cell):False:=bP (Y3.mp h _ (mem_of_lookup q))
theorem CI (x:Str):j5.names.lookup x≠some .cell:=λq=>GU (by decide +kernel) q
theorem Lq {x y:Int}(h0:ρ[0]?=some (some (.int x)))(h1:ρ[1]?=some (some (.int y))):ev bE σ ρ (.cmp .Eq (.bin .Add (.var 0) (.c (.int 1))) (.var 1))=some (.bool (decide (x+1=y))):=
 cK (cb (ag h0) bK rfl) (ag h1) rfl
theorem Lh {x y:Nat}(h0:ρ[0]?=some (some (.int x)))(h1:ρ[1]?=some (some (.int y))):ev bE σ ρ (.bin .RShift (.bin .Add (.var 0) (.var 1)) (.c (.int 1)))=some (.int ((x+y)/2:Nat)):=
 cb (cb (ag h0) (ag h1) rfl) bK EH
theorem Lo {x y:Int}(hn:n.natAbs<2^64)(h0:ρ[0]?=some (some (.int x)))(h2:ρ[2]?=some (some (.int y)))(h5:ρ[5]?=some (some (.int n))):ev bE σ ρ (.bin .Mult (.bin .Sub (.var 2) (.var 0)) (.var 5))=some (.int ((y-x)*n)):=
 cb (cb (ag h2) (ag h0) rfl) (ag h5) (GL hn)
theorem Lr (dv:0<=n)(h1:lo<=bu)(h2:bu<=hi)(h3:hi<=ds.length):cB n ((ds.drop bu).take (hi-bu))*2^(((bu:Int)-lo)*n).toNat+cB n ((ds.drop lo).take (bu-lo))=cB n ((ds.drop lo).take (hi-lo)):=by
 have e:(((bu:Int)-lo)*n).toNat=n.toNat*((ds.drop lo).take (bu-lo)).length:=by
  rw[jbu,jbv,jey (Nat.sub_le_sub_right (YY h2 h3) _),<-jgT h1,Int.toNat_mul (Zf _) dv,Zx,jaI]
 have hs:(ds.drop lo).take (hi-lo)=(ds.drop lo).take (bu-lo)++(ds.drop bu).take (hi-bu):=by
  rw[((jbI _ _).trans (jes h2 h1)).symm,List.take_add,jiQ,jct h1]
 rw[hs,CE,e,Int.add_comm]
theorem Ln (hY:∀d∈ds,d.natAbs<2^64)(aO:ds.length<=1000)(dv:0<=n)(hn:n.toNat<=64)(h1:lo<=bu)(h2:bu<=hi)(h3:hi<=ds.length):
 Zj (cB n ((ds.drop bu).take (hi-bu)))<=65*1001/\((bu:Int)-lo)*n<=64000/\0<=((bu:Int)-lo)*n:=by
 refine cz (YY (vW (CG hn _ λd hd=>hY d (jeG (jeF hd)))) (jeY _ (jiE ?_))) ?_ (Int.mul_nonneg (jeS (jbU.mpr h1)) dv)
 ·refine aa jbu ?_;refine aa jbv ?_;lia
 ·exact jhg (Int.mul_le_mul (show(bu:Int)-lo<=1000 by lia) (show n<=64 by lia) dv (by decide)) (by decide)
def ug (G:GD)(A:ZS)(sB:Y1)(aj:Gh)(ah:Zb->Prop)(f cD cN cI:Zb)(fd:jau)(n:Int)(ds:List Int)(i j:Nat):Prop:=∀σ,uk G A sB aj ah f cD cN cI fd (.lst (ds.map .int)) n σ σ [.int i,.int j] λv=>∃t,v=.int (cB n ((ds.drop i).take (j-i))) t
theorem Lj {Q:jeu->Y1->Prop}{e:Expr}{pos:Pos}{az:List Stmt}(FC:a0 G A bE sB ah ab T)(S:SR G sB aj ah ab T φ ρ σ β P m s)(F:cj G s φ β P f cD cN cI fd (.lst (ds.map .int)) n)
 (he:ao T e=.idx (.var 4) (.var 0)) (h0:ρ[0]?=some (some (.int lo))) (h4:ρ[4]?=some (some (.lst (ds.map .int)))) (sR:lo<ds.length) (aO:ds.length<=1000)
 (hQ:∀fl eG,(∃t,oa fl=.int (cB n ((ds.drop lo).take (lo+1-lo))) t)->gT G sB aj ah ab T f cD cN cI fd (.lst (ds.map .int)) n φ σ β P s eG σ (Q fl)):Y7 (Y9 af wd) A (ZJ [.Return (some e) pos] ab) (wA A ab az Q) ax s:=by
 refine Zv (jbp (t5 FC (v:=.int ds[lo]) (by refine aa he ?_;exact mJ (ag h4) (ag h0) (Rk sR aO)) S F λx ay ak aw aM fU aF=>?_));refine hQ (.ret x) ρ (aF.e_int λt=>⟨t,?_⟩) _ _ _ _ _ aM fU (.go aw);have:(ds.drop lo).take (lo+1-lo)=[ds[lo]]:=by refine aa (jbN _ _) ?_;refine aa (jcp sR) ?_;rfl
 refine aa this ?_;show Value.int ds[lo] t=.int (ds[lo]+0*2^n.toNat) t;refine aa (Int.zero_mul _) ?_;refine aa (Int.add_zero _) ?_;rfl
def wS (G:GD)(A:ZS)(sB:Y1)(aj:Gh)(ah:Zb->Prop)(ab:Env)(T:Tb)(f cD cN cI:Zb)(fd:jau)(n:Int)(ds:List Int)(ρ:aB)(σ:aA)(c:Expr)(a:Int):Prop:=∀φ β P m s (Q:Value->Y1->Prop),SR G sB aj ah ab T φ ρ σ β P m s->cj G s φ β P f cD cN cI fd (.lst (ds.map .int)) n->(∀t,gT G sB aj ah ab T f cD cN cI fd (.lst (ds.map .int)) n φ σ β P s ρ σ (Q (.int a t)))->Y7 (Y9 af wd) A (Z7 c ab) Q ax s
theorem Lp {Q:Value->Y1->Prop}{c1 c2 e:Expr}{p1 p2:Pos}{a b:Int}(FC:a0 G A bE sB ah ab T)(S:SR G sB aj ah ab T φ ρ σ β P m s)(F:cj G s φ β P f cD cN cI fd (.lst (ds.map .int)) n)
 (zL:ev bE σ ρ (ao T e)=some (.int sh)) (zI:0<=sh) (zJ:sh<=64000) (hb:Zj a<=65*1001) (h1:wS G A sB aj ah ab T f cD cN cI fd n ds ρ σ c1 a) (h2:wS G A sB aj ah ab T f cD cN cI fd n ds ρ σ c2 b)
 (hQ:∀t,gT G sB aj ah ab T f cD cN cI fd (.lst (ds.map .int)) n φ σ β P s ρ σ (Q (.int (a*2^sh.toNat+b) t))):Y7 (Y9 af wd) A (Z7 (.BinOp (.BinOp c1 .LShift e p1) .Add c2 p2) ab) Q ax s:=by
 refine jcL (jcL (h1 _ _ _ _ _ _ S F λt ay dc cC da ak aM fU bU=>t5 FC zL aM fU λx aU aC aP bq gD bI=>bI.e_int λt'=>lshift_int zI (by lia) ?_));have cn:GX G aC aU { aC with toks:=aC.toks+1 } aU:=.same bq.er.tk bF.tok (ZV _);refine h2 _ _ _ _ _ _ (bq.go cn) (gD.go bq.er cn bq.tabs.1) λYK ml BE wZ jP eE gl rh jW=>add_int ?_;have qx:GX G eE ml { eE with toks:=eE.toks+1 } ml:=.same gl.er.tk bF.tok (ZV _);exact hQ _ _ _ _ _ _ (gl.go qx) (rh.go gl.er qx gl.tabs.1) (bU.trans ((br.go (aP.trans cn)).trans (jW.trans (.go qx))))
theorem CH {i j:Nat}{x y:Str}{pa pb pc pd:Pos}(FC:a0 G A bE sB ah ab T)(L:jw A ab f cI)(H:ug G A sB aj ah f cD cN cI fd n ds i j)(hx:ev bE σ ρ (ao T (.Name x pb))=some (.int i))(hy:ev bE σ ρ (ao T (.Name y pc))=some (.int j)):
 wS G A sB aj ah ab T f cD cN cI fd n ds ρ σ (.Call (.Name ("inner" : Str) pa) [.Name x pb,.Name y pc] [] pd) (cB n ((ds.drop i).take (j-i))):=λφ β P m s Q S F hQ =>
 xD rfl FC L (dM hx hy) (H σ) S F λv qq=>aW qq λt e=>e▸hQ t
theorem BU {n:Int}(h0:0<=n)(h:n.toNat<=64):n.natAbs<2^64:=by lia
theorem EI {lo hi:Nat}(e:lo+1<hi):lo<(lo+hi)/2/\(lo+hi)/2<hi/\2*(hi-(lo+hi)/2)<=hi-lo+1/\2*((lo+hi)/2-lo)<=hi-lo+1:=by
 have h1:=jbZ (lo+hi) 2;have h2:=ZQ (lo+hi) (show 0<2 by decide);generalize(lo+hi)/2=m at *;generalize(lo+hi)%2=r at *;exact lg (by lia) (by lia) (by lia) (by lia)
theorem CF {Q:jeu->Y1->Prop}(FC:a0 G A bE sB ah ab j5)(L:jw A ab f cI)(S:SR G sB aj ah ab j5 φ (xO ds lo hi n) σ β P m s)(F:cj G s φ β P f cD cN cI fd (.lst (ds.map .int)) n)
 (hY:∀d∈ds,d.natAbs<2^64) (aO:ds.length<=1000) (dv:0<=n) (hn:n.toNat<=64) (E9:lo<hi) (jf:hi<=ds.length) (ih:lo+1<hi->∀i j,i<j->j<=ds.length->2*(j-i)<=hi-lo+1->ug G A sB aj ah f cD cN cI fd n ds i j)
 (hQ:∀fl eG,(∃t,oa fl=.int (cB n ((ds.drop lo).take (hi-lo))) t)->gT G sB aj ah ab j5 f cD cN cI fd (.lst (ds.map .int)) n φ σ β P s eG σ (Q fl)):Y7 (Y9 af wd) A (ZJ (rU p) ab) Q ax s:=by
 refine FW FC (Lq (x:=lo) (y:=hi) rfl rfl) S F (λhb ay ak aw aM fU=>?_) (λhb ay ak aw aM fU=>jaX ?_)
 ·have e:hi=lo+1:=by have:=of_decide_eq_true hb;lia
  subst e;exact Lj FC aM fU rfl rfl rfl jf aO λfl eG hv=>(hQ fl eG hv).go aw
 ·have e:lo+1<hi:=by have:=of_decide_eq_false hb;lia
  have ih:=ih e;clear hb;refine pY (EI e) λh1 h2 h3 h4=>?_;have hm:=Lh (σ:=σ) (ρ:=xO ds lo hi n) (x:=lo) (y:=hi) rfl rfl;generalize(lo+hi)/2=bu at *;refine pq FC CI (i:=2) rfl hm aM fU λaU dp ck di aC bq gD cY=>?_;refine pq FC CI (i:=3) rfl (Lo (x:=lo) (y:=bu) (BU dv hn) rfl rfl rfl) bq gD λeT oZ o8 ku dk ew rf dq=>?_;refine fY (Ln hY aO dv hn (ZI h1) (ZI h2) jf) λb1 b2 b3=>?_;refine Zv (jbp (Lp FC ew rf (ag rfl) b3 b2 b1 (CH FC L (ih bu hi h2 jf h3) (ag rfl) (ag rfl)) (CH FC L (ih lo bu h1 (YY (ZI h2) jf) h4) (ag rfl) (ag rfl)) λt ml BE wZ jP eE gl rh jW=>?_));rw[Lr dv (ZI h1) (ZI h2) jf]at *;exact hQ (.ret _) _ ⟨t,rfl⟩ _ _ _ _ _ gl rh ((br.go aw).trans (cY.trans (dq.trans jW)))
theorem CJ {x y:Value}{K:Value->Prop}{k:Nat}(Fd:kJ G fd j5 (rU p) "digits" cD cN cI) (jc:∀x y:Value,jbJ fd ⟨[x,y],[]⟩=pure [(("L" : Str),x),(("R" : Str),y)]) (IB:bg G sB.heap) (hG:dD G) (hN:gE G) (hP₀:∀a,sB.heap.objs.size<=a->ah a) (D:dR A (k+1))
 (S:SR G sB aj ah ab T φ ρ σ β P m s) (F:cj G s φ β P f cD cN cI fd (.lst (ds.map .int)) n) (rx:VR G.tok φ s.heap β P (.int lo) x) (ry:VR G.tok φ s.heap β P (.int hi) y)
 (lZ:∀(A':ZS) (eY:Env) (s':Y1) (P':Zb->Prop) (m':Str->Option Value) (Q:jeu->Y1->Prop),dR A' k->a0 G A' bE sB ah eY j5->jw A' eY f cI->SR G sB aj ah eY j5 φ (xO ds lo hi n) σ β P' m' s'->cj G s' φ β P' f cD cN cI fd (.lst (ds.map .int)) n ->
  (∀fl eG,K (oa fl)->gT G sB aj ah eY j5 f cD cN cI fd (.lst (ds.map .int)) n φ σ β P' s' eG σ (Q fl))->Y7 (Y9 af wd) A' (ZJ (rU p) eY) Q ax s'):
 Y7 (Y9 af wd) A (call (.ref f) [x,y]) (ul G sB aj ah ab T φ ρ σ β P m s σ K) ax s :=
 F2 Fd IB hG hN hP₀ D S F (jc x y) (bv rfl (bv rfl kM)) rfl
  (bv (λv e=>.loc e rfl rfl rx) (bv (λv e=>.loc e rfl rfl ry) (bv (λv e=>nq e) (bv (λv e=>nq e) (bv (λv e=>.dig e) (bv (λv e=>.num e) kM)))))) lZ
theorem Lg (Fd:kJ G fd j5 (rU p) "digits" cD cN cI) (jc:∀x y:Value,jbJ fd ⟨[x,y],[]⟩=pure [(("L" : Str),x),(("R" : Str),y)]) (IB:bg G sB.heap) (hG:dD G) (hN:gE G) (hP₀:∀a,sB.heap.objs.size<=a->ah a) (hY:∀d∈ds,d.natAbs<2^64) (aO:ds.length<=1000) (dv:0<=n) (hn:n.toNat<=64):
 ∀(k:Nat) (A:ZS),dR A (k+1)->∀(lo hi:Nat),lo<hi->hi<=ds.length->hi-lo<=2^k->ug G A sB aj ah f cD cN cI fd n ds lo hi:=by
 intro k
 induction k with
 |zero =>
  intro A D lo hi h1 h2 h3 σ ab T φ ρ β P m s xs S F r;refine r.e2 λx y rx ry=>?_;exact CJ Fd jc IB hG hN hP₀ D S F rx ry λA' eY s' P' m' Q D' FC L S' F' hQ=>CF FC L S' F' hY aO dv hn h1 h2 (λq=>absurd h3 (by lia)) hQ
 |succ k ih =>
  intro A D lo hi h1 h2 h3 σ ab T φ ρ β P m s xs S F r;refine r.e2 λx y rx ry=>?_;exact CJ Fd jc IB hG hN hP₀ D S F rx ry λA' eY s' P' m' Q D' FC L S' F' hQ=>CF FC L S' F' hY aO dv hn h1 h2 (λY i j q1 q2 q3=>ih A' D' i j q1 q2 (by rw[jcR]at h3;lia)) hQ
end
def wj (x y:Str)(p q:Pos):jbf:=⟨[],[⟨x,none,p⟩,⟨y,none,q⟩],none,[],[],none,[]⟩
def xP:jax:={ kind:=.function,names:=CC,isGenerator:=false,isCoroutine:=false }
def rV:jax:={ kind:=.function,names:=[("digits",.cell),("n",.cell),("inner",.cell),("len",.globalImplicit)],isGenerator:=false,isCoroutine:=false }
def xN (p q:Nat->Pos):List Stmt :=
 [.FunctionDef "inner" (wj "L" "R" (q 40) (q 41)) (rU q) [] none [] xP none "inner" (q 42),
  .Return (some (.IfExp (.Name "digits" (p 0)) (.Call (.Name "inner" (p 1)) [.Constant (.int 0) 0 (p 2),.Call (.Name "len" (p 3)) [.Name "digits" (p 4)] [] (p 5)] [] (p 6)) (.Constant (.int 0) 0 (p 7)) (p 8))) (p 9)]
def qK (l:List (Nat×Nat×Nat×Nat))(i:Nat):Pos:=match l[i]? with
 |some (a,b,c,d)=>⟨a,b,c,d⟩
 |none=>⟨0,0,0,0⟩
theorem JM :
 jbJ (fnX "inner" qual (wj "L" "R" p q) body sc cg .none .none bG pm none cv bZ) ⟨[u,v],[]⟩=pure [(("L" : Str),u),(("R" : Str),v)]:=by rfl
def rW:Tb:=dy ["digits","n"] rV
theorem Le:rW.var "inner" = some 2:=by rfl
section
structure uq (G:GD) (fd:jau) (ps:List Str) (body:List Stmt) (t:Zb×Zb×Pos×Str) (pos:Pos):Prop where
 ok:et fd ⟨ps.length,(dy ps fd.scope).next,em (dy ps fd.scope) [] body⟩ ps body []
 tm:t∈G.tabs
 tu:∀t'∈G.tabs,t'.2.1=t.2.1->t'=t
 code:fd.code=.ref t.1
 pos:t.2.2.1=pos
 qual:(fd.qualname++(".<locals>." : Str))++("inner" : Str)=t.2.2.2
theorem KP (h:l.all (λe=>e.2==.local)=true):dr ab (l++r) acc=dr ab r acc:=by
 induction l with
 |nil=>rfl
 |cons e l ih =>
  obtain⟨x,k⟩:=e;refine cu h λh1 h2=>?_;have:k=.local:=eq_of_beq h1;subst this;exact ih h2
theorem KW {ab:Env}{sc:jax}{l:List (Str×jaY)}{dn:Str}{cD cN cI:Zb}(hs:sc.names=l++[(dn,.free),("inner",.free),("n",.free)]) (hl:l.all (λe=>e.2==.local)=true) (hD:ab.cells.lookup dn=some cD) (hI:ab.cells.lookup ("inner" : Str)=some cI) (hN:ab.cells.lookup ("n" : Str)=some cN):
 jcQ sc ab=pure [(("n" : Str),cN),(("inner" : Str),cI),(dn,cD)]:=by
 rw[Cr (sc:=sc) (ab:=ab) λy hy=>?_,hs,KP hl]
 ·show pure [(("n" : Str),(ab.cells.lookup ("n" : Str)).getD 0),(("inner" : Str),(ab.cells.lookup ("inner" : Str)).getD 0),(dn,(ab.cells.lookup dn).getD 0)]=_;refine aa hN ?_;refine aa hI ?_;refine aa hD ?_;rfl
 ·rw[hs]at hy;rcases Zz.mp hy with q|q
  ·exact bP (Y3.mp hl _ q)
  ·exact bv (C:=λe=>∃c,ab.cells.lookup e.1=some c) ⟨cD,hD⟩ (bv ⟨cI,hI⟩ (bv ⟨cN,hN⟩ kM)) _ q
theorem xF (S:SR G sB aj ah ab To φ ρ σ β P m s)(hy:To.names.lookup y=some .cell):∃c,ab.cells.lookup y=some c:=(S.er.celled y (by unfold Tb.celled;refine aa hy ?_;rfl)).elim λc e=>⟨c,e.elim λY r=>r.1⟩
theorem Co (S:SR G sB aj ah ab To φ ρ σ β P m s)(hE:bQ ab To)(hy:To.names.lookup y=some .cell)(hc:ab.cells.lookup y=some c)(hv:To.var y=some i)(hr:ρ[i]?=some (some v)):∃v',s.heap.IsCell c (some v')/\VR G.tok φ s.heap β P v v':=by
 refine au (S.er.names y i v hv hr) λv' rv nm=>?_;rcases nm with⟨k,_⟩|⟨c',e1,_,e2⟩
 ·exact nomatch k.symm.trans (hE.cel y hy)
 ·exact aN v' (Y0 (e1.symm.trans hc)▸e2) rv
structure ro (To Ti:Tb) (dn:Str) (sc:jax) (l:List (Str×jaY)) (iN iD:Nat):Prop where
 hs:sc.names=l++[(dn,.free),("inner",.free),("n",.free)]
 hl:l.all (λe=>e.2==.local)=true
 tb:o6 Ti sc
 co:sc.isCoroutine=false
 gen:sc.isGenerator=false
 cell:Ti.celled "n" = true/\Ti.celled "inner" = true/\Ti.celled dn=true
 free:Ti.names.lookup ("n" : Str)=some .free/\Ti.names.lookup ("inner" : Str)=some .free/\Ti.names.lookup dn=some .free
 kI:To.names.lookup ("inner" : Str)=some .cell
 kN:To.names.lookup ("n" : Str)=some .cell
 kD:To.names.lookup dn=some .cell
 vN:To.var "n" = some iN
 vD:To.var dn=some iD
 ne:("n" : Str)≠dn/\("inner" : Str)≠dn
 look:∀a b c:Zb,jdU dn [(("n" : Str),a),(("inner" : Str),b),(dn,c)]=some c
theorem ro.only {Ti:Tb}(O:ro To Ti dn sc l iN iD){C:Str->Prop}(h1:C "n") (h2:C "inner") (h3:C dn) (x:Str) (hx:Ti.names.lookup x=some .free):C x:=by
 have q:=mem_of_lookup hx;rw[O.tb.names,O.hs]at q;rcases Zz.mp q with q|q
 ·exact bP (Y3.mp O.hl _ q)
 ·exact bv (C:=λe=>C e.1) h3 (bv h2 (bv h1 kM)) _ q
theorem G7 {ab:Env}{G:GD}{To:Tb}{params:jbf}(O:ro To Ti dn sc l iN iD)(FC:a0 G A bE sB ah ab To)(S:SR G sB aj ah ab To φ ρ σ β P m s)(km:t∈G.tabs)(zP:∀t'∈G.tabs,t'.2.1=t.2.1->t'=t)(mY:ab.code=.ref t.1)(hq:jdZ ab "inner" "inner" = t.2.2.2) (kl:t.2.2.1=pos) (Qn:params.defaults=[]) (zF:params.kw_defaults=[]) (Fo:jha params none ab=[]) (vI:∀i v,To.var "inner" = some i->ρ[i]?=some (some v)->False) (rN:ρ[iN]?=some (some (.int n))) (rD:ρ[iD]?=some (some V)) (hQ:∀i9 f s' cD cN cI,(∃cg bG pm c' bZ,i9=fnX "inner" t.2.2.2 params bi sc cg .none .none bG pm none (.ref c') bZ)->kJ G i9 Ti bi dn cD cN cI->jw A ab f cI->SR G sB aj ah ab To φ ρ σ β P m s'->cj G s' φ β P f cD cN cI i9 V n->Q .next s'):
 Y7 (Y9 af wd) A (ZX (.FunctionDef "inner" params bi [] none [] sc none "inner" pos) ab) Q ax s:=by
 refine aW (xF S O.kD) λcD hD=>?_;refine aW (xF S O.kN) λcN hN=>?_;refine aW (xF S O.kI) λcI hI=>?_;refine Lz (t:=t) (c:=cI) FC.IB S FC.hE km zP mY kl hq Qn zF Fo (KW O.hs O.hl hD hI hN) O.kI hI vI λf aC bZ bG pm c' bq Yj Yd PM sL Po=>?_;have sf:∀{y:Str}{c:Zb},ab.cells.lookup y=some c->eX G c:=λhc=>S.er.bsafe _ (.inr (.inr ⟨_,hc⟩));refine hQ _ f aC cD cN cI ⟨_,bG,pm,c',bZ,rfl⟩ {
  stmts:=rfl
  tb:=O.tb
  co:=O.co
  gen:=O.gen
  glob:=rfl
  bi:=rfl
  lN:=rfl
  lI:=rfl
  lD:=O.look cN cI cD
  all:=λ{C} h1 h2 h3 x c h=>bv (C:=λe=>C e.1 e.2) h1 (bv h2 (bv h3 kM)) (x,c) (mem_of_lookup h)
  ne1:=λz=>absurd (FC.hE.inj "n" "inner" cN hN (z▸hI)) (by decide)
  ne2:=λz=>O.ne.1 (FC.hE.inj "n" dn cN hN (z▸hD))
  ne3:=λz=>O.ne.2 (FC.hE.inj "inner" dn cI hI (z▸hD))
  safe:=cz (sf hD) (sf hN) (sf hI)
  cell:=O.cell
  free:=O.free
  only:=O.only } (λs Q E hc hQ=>jft FC.hE.kind (FC.hE.cel _ O.kI) hI hc hQ) bq {
  fo:=aN _ PM rfl
  fc:=sL
  iD:=Co bq FC.hE O.kD hD O.vD rD
  iN:=(Co bq FC.hE O.kN hN O.vN rN).elim λv' e=>e.2.inv.elim λt q=>⟨t,q▸e.1⟩
  iI:=Po }
theorem Lk:ro rW j5 "digits" xP [("L",.local),("R",.local),("mid",.local),("shift",.local)] 1 0 where
 hs:=rfl
 hl:=by decide +kernel
 tb:=⟨rfl,λx hx q=>absurd (Y3.mp (by decide +kernel:xP.names.all (λe=>e.2 != .cell)=true) x hx) (by refine aa q ?_;decide),rfl,Lf⟩
 co:=rfl
 gen:=rfl
 cell:=cz rfl rfl rfl
 free:=cz rfl rfl rfl
 kI:=rfl
 kN:=rfl
 kD:=rfl
 vN:=rfl
 vD:=rfl
 ne:=by decide
 look:=λY Y Y=>rfl
theorem Xu {ds:List Int}{xs:List Value}(r:ar tk φ h β P (ds.map .int) xs):(!xs.toArray.isEmpty)=!ds.isEmpty:=by
 induction ds using YZ with
 |nil=>refine aa r.unnil ?_;rfl
 |cons d ds=>refine bB r.uncons λy ys e Y=>?_;refine aa e ?_;rfl
theorem Sk {ds:List Int}(h0:ρ[i]?=some (some (.lst (ds.map .int))))(hl:ds.length<=1000):ev bE σ ρ (.call .len (.cons (.var i) .nil))=some (.int ds.length):=by
 rewrite [kV];refine aa (cT (ag h0)) ?_;show(if(ds.map AV.int).length<=100000 then some (AV.int ((ds.map AV.int).length:Nat))else none)=_;refine aa (YX _) ?_;refine aa (if_pos (YY hl (by decide))) ?_;rfl
theorem Lm {A:ZS}{ab:Env}{G:GD}{s:Y1}{φ:Gh}{P ah:Zb->Prop}{m:Str->Option Value}{sB:Y1}{aj:Gh}{p:Nat->Pos}{ds:List Int}{n:Int}{f cD cN cI:Zb}{i9:jau}(FC:a0 G A bE sB ah ab rW)(L:jw A ab f cI)(S:SR G sB aj ah ab rW φ [some (.lst (ds.map .int)),some (.int n),none] [] [] P m s)(F:cj G s φ [] P f cD cN cI i9 (.lst (ds.map .int)) n)(aO:ds.length<=1000)(H:0<ds.length->ug G A sB aj ah f cD cN cI i9 n ds 0 ds.length):
 Y7 (Y9 af wd) A (Z7 (.IfExp (.Name "digits" (p 0)) (.Call (.Name "inner" (p 1)) [.Constant (.int 0) 0 (p 2),.Call (.Name "len" (p 3)) [.Name "digits" (p 4)] [] (p 5)] [] (p 6)) (.Constant (.int 0) 0 (p 7)) (p 8)) ab) (λx s'=>∃am,GX G sB aj s' am/\VR G.tok am s'.heap [] ah (.int (cB n ds)) x) ax s:=by
 refine PyProof.Rows.IfExp_ (jfe (t5 FC (v:=.lst (ds.map .int)) rfl S F λx ay ak aw aM fU aF=>aF.e_lst λl xs hl pl rl=>?_) rfl);refine wpAny_truthy_list hl.isList (by refine aa Zh ?_;refine rwj rl.length ?_;refine aa (YX _) ?_;exact q6 aO rfl) ?_;refine aa (Xu rl) ?_;have aP:GX G ak ay { ak with toks:=ak.toks+1+1 } ay:=.same aw.tk bF.tok (ZD _ 2);have bq:=aM.go aP;have gD:=fU.go aM.er aP aM.tabs.1
 induction hb:ds.isEmpty using ZC with
 |true =>
  refine(if_neg (by decide)).mpr (t5 FC (v:=.int 0) rfl bq gD λx eT dk cn ew rf jn=>?_);refine aa (jda.mp hb) ?_;exact aN eT ew.done (jn.scalar rfl λY Y e=>e)
 |false =>
  refine(if_pos rfl).mpr (xD (K:=λv=>∃t,v=.int (cB n ((ds.drop 0).take (ds.length-0))) t) rfl FC L (as:=[.int 0,.int ds.length]) (dM bK (Sk rfl aO)) (H (jeV.mpr λe=>by rw[e]at hb;cases hb) []) bq gD λv qq eT oZ o8 ku dk ew rf dq=>aW qq λt e=>?_);rw[List.drop_zero,jhd,jfC]at e;refine aa e ?_;exact aN eT ew.done (.int _ _)
theorem Li {A:ZS}{G:GD}{p q:Nat->Pos}{ds:List Int}{n:Int}{fd:jau}{t:Zb×Zb×Pos×Str}{x:Str}{k:Nat}(O:uq G fd ["digits","n"] (xN p q) t (q 42)) (fJ:fd.scope=rV) (hk:G.fns k=some (x,fd)) (hG:dD G) (hN:gE G) (D:dR A 13) (hY:∀d∈ds,d.natAbs<2^64) (aO:ds.length<=1000) (dv:0<=n) (hn:n.toNat<=64) {a:Zb} (ha:G.mg x=some (.ref a)):kE G A (.ref a) [.lst (ds.map .int),.int n] (.int (cB n ds)):=by
 have hT:dy ["digits","n"] fd.scope=rW:=by refine aa fJ ?_;rfl
 refine su (Φ:=bE) O.ok hk (by have:=D.depth;exact qZ this) (λab=>rF (D.deeper ab) hG hN) rfl (λL fa s φ P P' m ak FC S=>?_) ha;rw[hT]at FC S;refine Zv (G7 Lk FC S O.tm O.tu O.code ?_ O.pos rfl rfl rfl (λi v hi hv=>?_) rfl rfl λi9 f s' cD cN cI ot Fd Ld bq gD=>?_)
 ·unfold jdZ;refine aa (show(jaW fd L fa).kindOf ("inner" : Str)=rV.names.lookup ("inner" : Str)from congrArg (λsc:jax=>sc.names.lookup ("inner" : Str)) fJ) ?_;refine aa (if_neg (by decide)) ?_;exact O.qual
 ·cases Le.symm.trans hi;exact nq hv
 ·refine Zv (jbp (up (Lm FC Ld bq gD aO λkl=>Lg Fd (λx y=>?_) FC.IB hG hN FC.hP₀ hY aO dv hn 10 _ ((D.deeper _).le (by decide)) 0 ds.length kl (Y2 _) (YY aO (by decide))) λx dk r=>⟨x,rfl,r⟩));refine uW ot ?_;rintro cg bG pm c' bZ rfl;exact JM
end
def dg (n:Nat):Nat->Nat->List Int
 |0,_=>[]
 |k+1,a=>((a%2^n:Nat):Int)::dg n k (a/2^n)
theorem CT:dg n 0 x=[]:=rfl
theorem nS:dg n (k+1) x=↑(x%2^n)::dg n k (x/2^n):=rfl
theorem r0 (n:Nat):∀k a,(dg n k a).length=k
 |0,_=>rfl
 |k+1,a=>by rw[nS,Zl,r0 n k]
theorem CQ (n:Nat):∀j a m,j<=m->dg n j (a%2^(n*m))=dg n j a
 |0,_,_,_=>rfl
 |j+1,a,m,h=>by
  obtain⟨m',rfl⟩:∃m',m=m'+1:=⟨m-1,by lia⟩
  rw[nS,nS,jdC,jbI (n*m') n,jdW];rw[Nat.mod_mul_right_mod,Nat.mod_mul_right_div_self,CQ n j (a/2^n) m' (jbH h)]
theorem CP (n:Nat):∀j k a,dg n (j+k) a=dg n j a++dg n k (a/2^(n*j))
 |0,k,a=>by simp[CT]
 |j+1,k,a=>by
  rw[show j+1+k=(j+k)+1 from jfb (jdN j k 1),nS,nS,CP n j k,jdb,Nat.div_div_eq_div_mul,<-jdW,jdC,jbI n]
theorem LG (n:Nat)(j k a:Nat):dg n (j+k) a=dg n j (a%2^(n*j))++dg n k (a/2^(n*j)):=by
 rw[CP,CQ n j a j (Y2 _)]
theorem Jg (x k:Nat):x &&& (x/2^k*2^k)=x/2^k*2^k:=by
 apply jeQ;intro i;rw[jew,Nat.testBit_mul_two_pow];by_cases h:k<=i
 ·refine aa (Nat.testBit_div_two_pow _ _) ?_;refine aa (show i-k+k=i by simp[*]) ?_;cases x.testBit i<;>simp[h]
 ·simp[h]
theorem XJ (x k:Nat):jfK (x:Int) ((x/2^k:Nat)*2^k)=((x%2^k:Nat):Int):=by
 have e:(((x/2^k:Nat):Int)*2^k)=((x/2^k*2^k:Nat):Int):=by
  refine aa (jaV _ _) ?_;refine aa (jbE _ _) ?_;rfl
 refine aa e ?_;refine aa (bitXor_and _ _) ?_;have h:jig (x:Int) ((x/2^k*2^k:Nat):Int)=((x/2^k*2^k:Nat):Int):=by
  unfold jig;have h1:decide (0<=(x:Int))=true:=decide_eq_true (Zf _);have h2:decide (0<=((x/2^k*2^k:Nat):Int))=true:=decide_eq_true (Zf _);refine aa h1 ?_;refine aa h2 ?_;show((Int.toNat _ &&& Int.toNat _:Nat):Int)=_;refine aa (Zx _) ?_;refine aa (Zx _) ?_;refine aa (Jg _ _) ?_;rfl
 refine aa h ?_;have:=jbZ x (2^k);rw[jaI]at this
 lia
def FN:List (Str×jaY):=[("x",.local),("L",.local),("R",.local),("mid",.local),("shift",.local),("upper",.local),("lower",.local),("a_digits",.free),("inner",.free),("n",.free)]
def iP:Tb:={ names:=FN,vars:=[("x",0),("L",1),("R",2),("mid",3),("shift",4),("upper",5),("lower",6),("a_digits",7),("n",8)],next:=9 }
def s4 (p:Nat->Pos):List Stmt :=
 [.If (.Compare (.BinOp (.Name "L" (p 0)) .Add (.Constant (.int 1) 0 (p 1)) (p 2)) [.Eq] [.Name "R" (p 3)] (p 4)) [.Assign [.Subscript (.Name "a_digits" (p 5)) (.Name "L" (p 6)) (p 7)] (.Name "x" (p 8)) (p 9),.Return none (p 10)] [] (p 11),
  .Assign [.Name "mid" (p 12)] (.BinOp (.BinOp (.Name "L" (p 13)) .Add (.Name "R" (p 14)) (p 15)) .RShift (.Constant (.int 1) 0 (p 16)) (p 17)) (p 18),
  .Assign [.Name "shift" (p 19)] (.BinOp (.BinOp (.Name "mid" (p 20)) .Sub (.Name "L" (p 21)) (p 22)) .Mult (.Name "n" (p 23)) (p 24)) (p 25),
  .Assign [.Name "upper" (p 26)] (.BinOp (.Name "x" (p 27)) .RShift (.Name "shift" (p 28)) (p 29)) (p 30),
  .Assign [.Name "lower" (p 31)] (.BinOp (.Name "x" (p 32)) .BitXor (.BinOp (.Name "upper" (p 33)) .LShift (.Name "shift" (p 34)) (p 35)) (p 36)) (p 37),
  .Expr (.Call (.Name "inner" (p 38)) [.Name "lower" (p 39),.Name "L" (p 40),.Name "mid" (p 41)] [] (p 42)) (p 43),
  .Expr (.Call (.Name "inner" (p 44)) [.Name "upper" (p 45),.Name "mid" (p 46),.Name "R" (p 47)] [] (p 48)) (p 49)]
theorem Q8:jx iP:=tT (by decide +kernel)
section
theorem ar.set (ry:VR tk φ h β P u y)(r:ar tk φ h β P vs xs):∀k,ar tk φ h β P (vs.set k u) (xs.set k y):=by
 refine ar.ind (motive:=λvs xs=>∀k,ar tk φ h β P (vs.set k u) (xs.set k y)) (λY=>.nil) (λ{v x vs xs} a r ih k=>?_) r
 induction k using jas with
 |zero=>exact .cons ry r
 |succ k=>exact .cons a (ih k)
theorem Vf {s:Y1}{a:Zb}{ys:List Value}{tw kk:Nat}{xv:Value}(e:s.heap.get? a=some { cls:=.type "list",data:=.seq ys.toArray tw }):
 (s.heap.update a (jcG (·.setIfInBounds (kk:Int).toNat xv))).PlainList a (ys.set kk xv).toArray:=by
 have hd:(jcG (·.setIfInBounds (kk:Int).toNat xv) ({ cls:=.type "list",data:=.seq ys.toArray tw }:Obj)).data=.seq (ys.set kk xv).toArray tw:=by simp[jcG]
 refine⟨tw,?_⟩;refine aa (jcc _ e (Obj.isFreed_of_seq hd)) ?_;simp[jcG]
theorem Vw {T:Tb}{σ:aA}(F:a0 G A Φ sB ah ab T){x:Str}{px sp pos:Pos}{k v:Expr}{n i:Nat}{kk:Nat}{u:AV}{vs:List AV}(hx:T.var x=some n)(fv:ρ[n]?=some (some (.ref i)))(hv:ev Φ σ ρ (ao T v)=some u)(fJ:u.scalar=true)(hk:ev Φ σ ρ (ao T k)=some (.int kk))(hi:σ[i]?=some (.list vs))(aZ:kk<vs.length)(aT:vs.length<=100000):
 ca G A sB aj ah ab T ρ σ (ZX (.Assign [.Subscript (.Name x px) k sp] v pos) ab) (.next ρ (σ.set i (.list (vs.set kk u)))):=λs φ β P m S =>
 jhN ((cH F.hO _ v (Y2 _) ab T ρ _ F.hE hv).1.post (S.inv F.IB) S.er λxv ak ay aw bb aI aF=>(xZ F.hE hx fv).post bb aI λxo aC aU aP dJ bW bI =>
  (cH F.hO _ k (Y2 _) ab T ρ _ F.hE hk).1.post dJ bW λxk dk eT cn rk i3 jn=>by
   refine au (VR.refOf bI) ?_;rintro a rfl ha;have qw:=(aw.trans aP).trans cn;refine jn.e_int λt=>(S.go qw).listAt hi ha λys e rs=>?_;have hl:ys.length=vs.length:=rs.length.symm;rw[<-hl]at aZ aT;refine aW (id e) λtw e'=>?_;exact ki_setAt e' (Zf _) (by lia) (by refine aa Zh ?_;exact oY aZ) ⟨rfl,((S.go qw).relist (t:=dk.toks) hi ha (jcd ..) (Y2 _) e (Vf e') (rs.set (aF.scalar fJ λt y e=>cn.sub t y (aP.sub t y e)) kk)).after (.go qw)⟩) HZ
end
section
def fP (n:Nat)(ds:List Int)(lo hi x:Nat):List Int:=ds.take lo++dg n (hi-lo) x++ds.drop hi
theorem UG {n:Nat}{ds:List Int}{lo hi x:Nat}(h1:lo<=hi)(h2:hi<=ds.length):(fP n ds lo hi x).length=ds.length:=by
 simp only[fP,Y8,jbu,jbv,r0];rw[jey (YY h1 h2),jct h1,jct h2]
theorem UH {n:Nat}{ds:List Int}{lo x:Nat}(h:lo<ds.length)(hx:x<2^n):fP n ds lo (lo+1) x=ds.set lo x:=by
 rw[fP,jbN,nS,CT,jfH hx];rw[List.set_eq_take_append_cons_drop,if_pos h];simp
theorem UI {n:Nat}{ds:List Int}{lo bu hi x:Nat}(h1:lo<=bu)(h2:bu<=hi)(h3:hi<=ds.length):
 fP n (fP n ds lo bu (x%2^(n*(bu-lo)))) bu hi (x/2^(n*(bu-lo)))=fP n ds lo hi x:=by
 have e1:(fP n ds lo bu (x%2^(n*(bu-lo)))).take bu=ds.take lo++dg n (bu-lo) (x%2^(n*(bu-lo))):=by
  unfold fP;apply jfO;simp only[Y8,jbu,r0];rw[jey (YY h1 (YY h2 h3)),jct h1]
 have e2:(fP n ds lo bu (x%2^(n*(bu-lo)))).drop hi=ds.drop hi:=by
  unfold fP;have hl:(ds.take lo++dg n (bu-lo) (x%2^(n*(bu-lo)))).length=bu:=by simp only[Y8,jbu,r0];rw[jey (YY h1 (YY h2 h3)),jct h1]
  rw[List.drop_append,jcO (by refine aa hl ?_;exact h2),hl,jiQ,jaS,show bu+(hi-bu)=hi by simp[*]]
 unfold fP at e1 e2 ⊢;refine aa e1 ?_;refine aa e2 ?_
 conv=>rhs;rw[show hi-lo=(bu-lo)+(hi-bu)by rw[jbI,jes h2 h1],LG]
 simp only[jav]
end
section
variable {A:ZS}{ab:Env}{T:Tb}{ρ av:aB}{σ an iv:aA}{G:GD}{s s' cO:Y1}{φ am kC:Gh}{β aH ud:List Zb}{P P' rq ah:Zb->Prop}{m m':Str->Option Value}{tk:Zb}{h h':jag}
variable {sB:Y1}{aj:Gh}{Φ:cX}{mu:List Str}
variable {f cD cN cI:Zb}{fd:jau}{V:AV}{n:Nat}{p:Nat->Pos}{ds:List Int}{lo hi bu x:Nat}
abbrev gB (ds:List Int):aA:=[.list (ds.map .int)]
def vR (x lo hi n:Nat):aB:=[some (.int x),some (.int lo),some (.int hi),none,none,none,none,some (.ref 0),some (.int n)]
theorem s6 (x:Str):iP.names.lookup x≠some .cell:=λq=>GU (by decide +kernel) q
theorem U7 {x k:Nat}(h:k<=1000000):dE σ .RShift (.int x) (.int k)=some (.int (x/2^k:Nat)):=
 (if_pos ⟨Zf _,jbU.mpr h⟩).trans (by rw[Zx,jak _ (Int.pow_nonneg (by decide)),jcr,jbE];rfl)
theorem GA {x k:Nat}(h:k<=1000000)(hx:x<2^4096):dE σ .LShift (.int x) (.int k)=some (.int ((x:Int)*2^k)):=
 (if_pos ⟨Zf _,jbU.mpr h,decide_eq_true (by rw[ZN];exact hx)⟩).trans (by rw[Zx])
theorem Rd {k:Nat}(hk:k<=1000000)(hx:x<2^4096)(h0:ρ[0]?=some (some (.int x)))(h4:ρ[4]?=some (some (.int k)))(h5:ρ[5]?=some (some (.int (x/2^k:Nat)))):ev bE σ ρ (.bin .BitXor (.var 0) (.bin .LShift (.var 5) (.var 4)))=some (.int (x%2^k:Nat)):=
 cb (ag h0) (cb (ag h5) (ag h4) (GA hk (ZE (jgd _ _) hx))) (congrArg (λi=>some (AV.int i)) (XJ x k))
theorem Rh (hm:lo<=bu)(hn:n<=64)(h1:ρ[1]?=some (some (.int lo)))(h3:ρ[3]?=some (some (.int bu)))(h8:ρ[8]?=some (some (.int n))):ev bE σ ρ (.bin .Mult (.bin .Sub (.var 3) (.var 1)) (.var 8))=some (.int (n*(bu-lo):Nat)):=by
 rw[jaI,jaV,jgT hm];exact cb (cb (ag h3) (ag h1) rfl) (ag h8) (GL (BU (Zf _) hn))
theorem Ra (h1:lo<=bu)(h2:bu<=hi)(hx:x<2^(n*(hi-lo))):x/2^(n*(bu-lo))<2^(n*(hi-bu)):=by
 refine Nat.div_lt_of_lt_mul ?_;rw[<-jdW,<-jfN,jbI,jes h2 h1];exact hx
def wU (G:GD)(A:ZS)(sB:Y1)(aj:Gh)(ah:Zb->Prop)(f cD cN cI:Zb)(fd:jau)(n:Nat)(ds:List Int)(i j x:Nat):Prop :=
 uk G A sB aj ah f cD cN cI fd (.ref 0) n (gB ds) (gB (fP n ds i j x)) [.int x,.int i,.int j] λY=>True
theorem xE {lK:Expr}{args:List Expr}{as:List AV}{pa pe pf:Pos}{az:List Stmt}{Q:jeu->Y1->Prop}{K:Value->Prop}{n:Int}(cM:jao (lK::args) ab=(false,Z7 lK ab)::jao args ab)(FC:a0 G A bE sB ah ab T)(L:jw A ab f cI)
 (jH:bX bE σ ρ (bf T (lK::args))=some as) (H:uk G A sB aj ah f cD cN cI fd V n σ an as K) (S:SR G sB aj ah ab T φ ρ σ β P m s) (F:cj G s φ β P f cD cN cI fd V n)
 (hQ:gT G sB aj ah ab T f cD cN cI fd V n φ σ β P s ρ an λs'=>Y7 (Y9 af wd) A (ZJ az ab) Q ax s'):Y7 (Y9 af wd) A (ZJ (.Expr (.Call (.Name ("inner" : Str) pa) (lK::args) [] pe) pf::az) ab) Q ax s :=
 Zv (wpAny_Expr_any (xD cM FC L jH H S F λY Y=>hQ) FC.hI)
theorem Rf {Q:jeu->Y1->Prop}{p0 p1 p2 p3 p4 p5:Pos}{az:List Stmt}(FC:a0 G A bE sB ah ab iP)(S:SR G sB aj ah ab iP φ (vR x lo (lo+1) n) (gB ds) β P m s)(F:cj G s φ β P f cD cN cI fd (.ref 0) n)
 (sR:lo<ds.length) (aO:ds.length<=1000) (hx:x<2^n) (hQ:∀fl eG,gT G sB aj ah ab iP f cD cN cI fd (.ref 0) n φ (gB ds) β P s eG (gB (fP n ds lo (lo+1) x)) (Q fl)):
 Y7 (Y9 af wd) A (ZJ [.Assign [.Subscript (.Name "a_digits" p0) (.Name "L" p1) p2] (.Name "x" p3) p4,.Return none p5] ab) (wA A ab az Q) ax s:=by
 refine Zv (up (Vw FC (n:=7) (i:=0) (kk:=lo) (vs:=ds.map .int) (u:=.int x) rfl rfl rfl rfl rfl rfl (by rw[YX];exact sR) (by rw[YX];exact YY aO (by decide)) s φ β _ m S) λfw ak aX=>?_);obtain⟨rfl,ay,dc,cC,da,aM,bU⟩:=aX;have hs:([AO.list (ds.map .int)]:aA).set 0 (.list ((ds.map .int).set lo (.int x)))=gB (fP n ds lo (lo+1) x):=by
  rw[UH sR hx,gB,List.map_set];rfl
 rw[hs]at aM bU;exact Zv (wpAny_Return_none (hQ (.ret .none) _ _ _ _ _ _ aM (F.carry S s6 bU) bU))
theorem FQ {Q:jeu->Y1->Prop}(FC:a0 G A bE sB ah ab iP)(L:jw A ab f cI)(S:SR G sB aj ah ab iP φ (vR x lo hi n) (gB ds) β P m s)(F:cj G s φ β P f cD cN cI fd (.ref 0) n)
 (hn:n<=64) (aO:ds.length<=1000) (E9:lo<hi) (jf:hi<=ds.length) (hx:x<2^(n*(hi-lo))) (sZ:x<2^4096)
 (ih:lo+1<hi->∀ds i j x,ds.length<=1000->i<j->j<=ds.length->2*(j-i)<=hi-lo+1->x<2^(n*(j-i))->x<2^4096->wU G A sB aj ah f cD cN cI fd n ds i j x)
 (hQ:∀fl eG,gT G sB aj ah ab iP f cD cN cI fd (.ref 0) n φ (gB ds) β P s eG (gB (fP n ds lo hi x)) (Q fl)):Y7 (Y9 af wd) A (ZJ (s4 p) ab) Q ax s:=by
 refine FW FC (b:=decide ((lo:Int)+1=hi)) (cK (cb (ag (i:=1) rfl) bK rfl) (ag (i:=2) rfl) rfl) S F (λhb ay ak aw aM fU=>?_) (λhb ay ak aw aM fU=>jaX ?_)
 ·have e:hi=lo+1:=(jeB (of_decide_eq_true hb)).symm;subst e;rw[jbN,Nat.mul_one]at hx;exact Rf FC aM fU jf aO hx λfl eG=>(hQ fl eG).go aw
 ·have e:lo+1<hi:=Nat.lt_of_le_of_ne E9 λq=>of_decide_eq_false hb (q▸rfl);have ih:=ih e;clear hb;refine pY (EI e) λh1 h2 h3 h4=>?_;have hm:ev bE (gB ds) (vR x lo hi n) (.bin .RShift (.bin .Add (.var 1) (.var 2)) (.c (.int 1)))=some (.int ((lo+hi)/2:Nat)):=cb (cb (ag (i:=1) rfl) (ag (i:=2) rfl) rfl) bK EH;generalize(lo+hi)/2=bu at *;have g1:=ZI h1;have g2:=ZI h2;have hs:n*(bu-lo)<=1000000:=YY (jbe hn (YY (Nat.sub_le _ _) (YY g2 (YY jf aO)))) (by decide);refine pq FC s6 (i:=3) rfl hm aM fU λaU dp ck di aC bq gD cY=>?_;refine pq FC s6 (i:=4) rfl (Rh (lo:=lo) (bu:=bu) g1 hn rfl rfl rfl) bq gD λeT oZ o8 ku dk ew rf dq=>?_;refine pq FC s6 (i:=5) rfl (cb (ag (i:=0) rfl) (ag (i:=4) rfl) (U7 hs)) ew rf λml BE wZ jP eE gl rh jW=>?_;refine pq FC s6 (i:=6) rfl (Rd hs sZ rfl rfl rfl) gl rh λwO IN BK Ax dO rA IR BG=>?_;refine xE rfl FC L (gJ (ag rfl) (ag rfl) (ag rfl)) (ih ds lo bu _ aO h1 (YY g2 jf) h4 (ZQ _ (jay _)) (ZE (Nat.mod_le _ _) sZ)) rA IR λX5 YV X6 YG qT ur IS nF=>?_;have hl:(fP n ds lo bu (x%2^(n*(bu-lo)))).length=ds.length:=UG g1 (YY g2 jf);refine xE rfl FC L (gJ (ag rfl) (ag rfl) (ag rfl)) (ih _ bu hi _ (hl▸aO) h2 (hl▸jf) h3 (Ra g1 g2 hx) (ZE (jgd _ _) sZ)) ur IS λq8 YW X7 YH ly BL IT BH=>jaX ?_;rw[UI g1 g2 jf]at BL BH;exact hQ .next _ _ _ _ _ _ BL IT ((br.go aw).trans (cY.trans (dq.trans (jW.trans (BG.trans (nF.trans BH))))))
theorem FR {t7 t9 uc:Value}{K:Value->Prop}{k:Nat}(Fd:kJ G fd iP (s4 p) "a_digits" cD cN cI) (jc:∀x y z:Value,jbJ fd ⟨[x,y,z],[]⟩=pure [(("x" : Str),x),(("L" : Str),y),(("R" : Str),z)]) (IB:bg G sB.heap) (hG:dD G) (hN:gE G) (hP₀:∀a,sB.heap.objs.size<=a->ah a) (D:dR A (k+1))
 (S:SR G sB aj ah ab T φ ρ σ β P m s) (F:cj G s φ β P f cD cN cI fd (.ref 0) n) (rx:VR G.tok φ s.heap β P (.int x) t7) (ry:VR G.tok φ s.heap β P (.int lo) t9) (rz:VR G.tok φ s.heap β P (.int hi) uc)
 (lZ:∀(A':ZS) (eY:Env) (s':Y1) (P':Zb->Prop) (m':Str->Option Value) (Q:jeu->Y1->Prop),dR A' k->a0 G A' bE sB ah eY iP->jw A' eY f cI->SR G sB aj ah eY iP φ (vR x lo hi n) σ β P' m' s'->cj G s' φ β P' f cD cN cI fd (.ref 0) n ->
  (∀fl eG,K (oa fl)->gT G sB aj ah eY iP f cD cN cI fd (.ref 0) n φ σ β P' s' eG an (Q fl))->Y7 (Y9 af wd) A' (ZJ (s4 p) eY) Q ax s'):
 Y7 (Y9 af wd) A (call (.ref f) [t7,t9,uc]) (ul G sB aj ah ab T φ ρ σ β P m s an K) ax s :=
 F2 Fd IB hG hN hP₀ D S F (jc t7 t9 uc) (bv rfl (bv rfl (bv rfl kM))) rfl
  (bv (λv e=>.loc e rfl rfl rx) (bv (λv e=>.loc e rfl rfl ry) (bv (λv e=>.loc e rfl rfl rz) (bv (λv e=>nq e) (bv (λv e=>nq e) (bv (λv e=>nq e) (bv (λv e=>nq e) (bv (λv e=>.dig e) (bv (λv e=>.num e) kM))))))))) lZ
theorem Rc (Fd:kJ G fd iP (s4 p) "a_digits" cD cN cI) (jc:∀x y z:Value,jbJ fd ⟨[x,y,z],[]⟩=pure [(("x" : Str),x),(("L" : Str),y),(("R" : Str),z)]) (IB:bg G sB.heap) (hG:dD G) (hN:gE G) (hP₀:∀a,sB.heap.objs.size<=a->ah a) (hn:n<=64):
 ∀(k:Nat) (A:ZS),dR A (k+1)->∀(ds:List Int) (lo hi x:Nat),ds.length<=1000->lo<hi->hi<=ds.length->hi-lo<=2^k->x<2^(n*(hi-lo))->x<2^4096->wU G A sB aj ah f cD cN cI fd n ds lo hi x:=by
 intro k
 induction k with
 |zero =>
  intro A D ds lo hi x h0 h1 h2 h3 h4 h5 ab T φ ρ β P m s xs S F r;refine r.e3 λt7 t9 uc rx ry rz=>?_;exact FR Fd jc IB hG hN hP₀ D S F rx ry rz λA' eY s' P' m' Q D' FC L S' F' hQ=>FQ FC L S' F' hn h0 h1 h2 h4 h5 (λq=>absurd h3 (by lia)) λfl eG=>hQ fl eG trivial
 |succ k ih =>
  intro A D ds lo hi x h0 h1 h2 h3 h4 h5 ab T φ ρ β P m s xs S F r;refine r.e3 λt7 t9 uc rx ry rz=>?_;exact FR Fd jc IB hG hN hP₀ D S F rx ry rz λA' eY s' P' m' Q D' FC L S' F' hQ=>FQ FC L S' F' hn h0 h1 h2 h4 h5 (λY ds i j x q0 q1 q2 q3 q4 q5=>ih A' D' ds i j x q0 q1 q2 (by rw[jcR]at h3;lia) q4 q5) λfl eG=>hQ fl eG trivial
end
def He (x y z:Str)(p q r:Pos):jbf:=⟨[],[⟨x,none,p⟩,⟨y,none,q⟩,⟨z,none,r⟩],none,[],[],none,[]⟩
def zU:jax:={ kind:=.function,names:=FN,isGenerator:=false,isCoroutine:=false }
def s5:jax:={ kind:=.function,names:=[("a",.local),("n",.cell),("a_digits",.cell),("inner",.cell),("len",.globalImplicit)],isGenerator:=false,isCoroutine:=false }
def zT (p q:Nat->Pos):List Stmt :=
 [.Assign [.Name "a_digits" (p 0)] (.BinOp (.List [.Constant (.int 0) 0 (p 1)] (p 2)) .Mult (.BinOp (.BinOp (.BinOp (.Call (.Attribute (.Name "a" (p 3)) "bit_length" (p 4)) [] [] (p 5)) .Add (.Name "n" (p 6)) (p 7)) .Sub (.Constant (.int 1) 0 (p 8)) (p 9)) .FloorDiv (.Name "n" (p 10)) (p 11)) (p 12)) (p 13),
  .FunctionDef "inner" (He "x" "L" "R" (q 50) (q 51) (q 52)) (s4 q) [] none [] zU none "inner" (q 53),
  .If (.Name "a" (p 14)) [.Expr (.Call (.Name "inner" (p 15)) [.Name "a" (p 16),.Constant (.int 0) 0 (p 17),.Call (.Name "len" (p 18)) [.Name "a_digits" (p 19)] [] (p 20)] [] (p 21)) (p 22)] [] (p 23),
  .Return (some (.Name "a_digits" (p 24))) (p 25)]
theorem JN :
 jbJ (fnX "inner" qual (He "x" "L" "R" p q r) body sc cg .none .none bG pm none cv bZ) ⟨[u,v,x],[]⟩=pure [(("x" : Str),u),(("L" : Str),v),(("R" : Str),x)]:=by rfl
def kq:Tb:=dy ["a","n"] s5
theorem Q7:kq.var "inner" = some 3:=by rfl
def bA (n a:Nat):Nat:=(Zj a+n-1)/n
set_option tactic.hygienic true in
theorem z7 {a:Nat}:a<2^Zj a:=by
 unfold Zj;split
 ·rename_i h;have:a=0:=by simpa using h
  subst this;decide
 ·refine aa (ZN _) ?_;exact Nat.lt_log2_self
theorem xR {n a:Nat}(hn:0<n):a<2^(n*bA n a):=by
 refine be z7 (Zi (by decide) ?_);unfold bA;generalize Zj a=b;have:=jbZ (b+n-1) n;have h2:=ZQ (b+n-1) hn
 lia
theorem xS (hn:0<n)(ha:a<2^1000):bA n a<=1000:=by
 have:=vW (a:=a) (k:=1000) (by rwa [ZN]);unfold bA;generalize Zj a=b at this;have h1:(b+n-1)/n<1001:=by
  rw[jcX hn];have:1000*n >= 1000:=Nat.le_mul_of_pos_right _ hn
  lia
 exact jbH h1
theorem LF (hn:0<n):bA n 0=0:=by
 unfold bA;have:Zj (0:Nat)=0:=rfl;refine aa this ?_;exact jem (by omega)
theorem LD (hn:0<n)(ha:a≠0):0<bA n a:=by
 refine jhX λe=>?_;have:=xR (a:=a) hn;rw[e]at this;simp at this;exact ha this
theorem yP (σ:aA)(k:Nat):∀ds:List Int,bh (aY σ (k+1)) (ds.map AV.int)=some (ds.map AV.int)
 | []=>rfl
 |d::ds=>by
  rw[Zy,gO,yP σ k ds];rfl
section
theorem Sr (hl:s.heap.IsList l vs.toArray)(h0:0<=x)(jf:x<=100000)(bd:vs.length<=1)(h:Q (.ref s.heap.objs.size) { s with heap:=s.heap.push { cls:=.type "list",dict:=none,data:=.seq (Ze x.toNat vs).flatten.toArray } }):Y7 (Y9 af wd) A (jec .Mult (.ref l) (.int x u)) Q E s:=by
 obtain⟨⟨cls,d,data,sl⟩,ho,hcl,k,hd⟩:=id hl;simp only at hcl hd;subst hcl hd;have QJ:vs.toArray.size*x.toNat<=100000:=by
  have:vs.toArray.size<=1:=by simpa using bd
  exact YY (jbe this (Y2 _)) (by simp[*])
 have Yz:vs.length*x.toNat<=100000:=by simpa using QJ
 refine wpAny_binaryOp_repeat_ref (T := "list") (U := "int") (by decide) ⟨_,ho,rfl⟩ (λs'=>typeIs_int s' x u) noFill_list_mul F.fills_int_mul F.slot_int_rmul repeat_list F.slot_int_index.lookup
  (jds F.slot_int_rmul (typeIs_int s x u) F.entry_int_rmul (F.args_int_rmul_2 _ _) (lm_int_rmul_list_any x u l vs.toArray k d sl)
   ⟨ho,rfl,⟨_,ho,rfl⟩,jds F.slot_list_mul ⟨_,ho,rfl⟩ F.entry_list_mul (F.args_list_mul_2 _ _)
    (lm_list_mul_any l vs.toArray k d sl x u (by simp[Builtin.List.listFitsIndex];lia) (by lia) (by simp[jfq,jcK];lia))
    ⟨ho,?_⟩⟩)
 refine aa (listMul_foldl_if _ _) ?_;exact h
theorem DY {α:Type}(x:α):∀k:Nat,(Ze k [x]).flatten=Ze k x
 |0=>rfl
 |k+1=>by refine aa List.replicate_succ ?_;refine aa jid ?_;refine aa (DY x k) ?_;rfl
theorem Iw:∀k:Nat,ar tk φ h β P ((Ze k (0:Int)).map .int) (Ze k (.int 0 t))
 |0=>.nil
 |k+1=>.cons (.int _ _) (Iw k)
theorem UF (ds:List Int)(h:ds.length=k):fP n ds 0 k x=dg n k x:=by
 rw[fP,List.take_zero,jaS,jhd,jcO (ZG h),ZZ]
theorem Rg:ro kq iP "a_digits" zU [("x",.local),("L",.local),("R",.local),("mid",.local),("shift",.local),("upper",.local),("lower",.local)] 1 2 where
 hs:=rfl
 hl:=by decide +kernel
 tb:=⟨rfl,λx hx q=>absurd (Y3.mp (by decide +kernel:zU.names.all (λe=>e.2 != .cell)=true) x hx) (by refine aa q ?_;decide),rfl,Q8⟩
 co:=rfl
 gen:=rfl
 cell:=cz rfl rfl rfl
 free:=cz rfl rfl rfl
 kI:=rfl
 kN:=rfl
 kD:=rfl
 vN:=rfl
 vD:=rfl
 ne:=by decide
 look:=λY Y Y=>rfl
def m8 (a n:Nat)(v:Option AV):aB:=[some (.int a),some (.int n),v,none]
theorem K0 {σ:aA}{a n:Nat}(dv:0<n)(hn:n<=64):dE σ .FloorDiv (.int ((Zj a:Int)+n-1)) (.int n)=some (.int (bA n a)):=by
 refine(if_neg λq=>?_).trans ?_
 ·rw[show small (n:Int)=true from decide_eq_true (by rw[ZN];exact ZE hn (by decide))]at q;exact q.elim (λq=>absurd (jeB q) (jaP dv)) λq=>nomatch q
 ·rw[jak _ (Zf _),bA,jcr,jgT (YY dv (jcC _ _)),jbn];rfl
theorem Q9 (dv:0<n)(hn:n<=64)(sQ:p4.endLine=p5.line):
 ev bE σ (m8 a n v) (ao kq (.BinOp (.BinOp (.BinOp (.Call (.Attribute (.Name "a" p3) "bit_length" p4) [] [] p5) .Add (.Name "n" p6) p7) .Sub (.Constant (.int 1) 0 p8) p9) .FloorDiv (.Name "n" p10) p11))=some (.int (bA n a)):=by
 have hm:fe (.Name "a" p3) 0 p4 p5=true:=by
  show(true&&(p4.endLine==p5.line)&&true)=true;rw[sQ,jcw,jfc];exact beq_self_eq_true _
 refine(congrArg (λb=>ev bE σ (m8 a n v) (.bin .FloorDiv (.bin .Sub (.bin .Add (Au ("bit_length" : Str) b (.var 0) true .nil) (.var 1)) (.c (.int 1))) (.var 1))) hm).trans ?_;have hb:ev bE σ (m8 a n v) (.call .bitLength (.cons (.var 0) .nil))=some (.int (Zj a)):=by rw[kV,cT (ag rfl)];rfl
 exact cb (cb (cb hb (ag (i:=1) rfl) rfl) bK rfl) (ag (i:=1) rfl) (K0 dv hn)
theorem Q' {A:ZS}{ab:Env}{G:GD}{s:Y1}{φ:Gh}{P ah:Zb->Prop}{m:Str->Option Value}{sB:Y1}{aj:Gh}{p:Nat->Pos}{a n:Nat}{Q:jeu->Y1->Prop}(FC:a0 G A bE sB ah ab kq)(S:SR G sB aj ah ab kq φ (m8 a n none) [] [] P m s)(dv:0<n)(hn:n<=64)(sH:a<2^1000)(sQ:(p 4).endLine=(p 5).line)(hQ:∀am aH P' m' s',SR G sB aj ah ab kq am (m8 a n (some (.ref 0))) (gB (Ze (bA n a) 0)) aH P' m' s'->Q .next s'):
 Y7 (Y9 af wd) A (ZX (.Assign [.Name "a_digits" (p 0)] (.BinOp (.List [.Constant (.int 0) 0 (p 1)] (p 2)) .Mult (.BinOp (.BinOp (.BinOp (.Call (.Attribute (.Name "a" (p 3)) "bit_length" (p 4)) [] [] (p 5)) .Add (.Name "n" (p 6)) (p 7)) .Sub (.Constant (.int 1) 0 (p 8)) (p 9)) .FloorDiv (.Name "n" (p 10)) (p 11)) (p 12)) (p 13)) ab) Q ax s:=by
 have oj:=xS dv sH;refine jbr (jcL ((cH FC.hO _ _ (Y2 _) _ _ _ (.lst [.int 0]) FC.hE rfl).1.post (S.inv FC.IB) S.er λxl aC aU aP dJ bW bI=>(cH FC.hO _ _ (Y2 _) _ _ _ _ FC.hE (Q9 dv hn sQ)).1.post dJ bW λxc dk eT cn rk i3 jn=>?_)) rfl;have ew:=(S.go aP).go cn;refine jn.e_int λt3=>(bW.vr cn bI).e_lst λl Iz hl pl rl=>rl.e1 (motive:=λIz=>dk.heap.PlainList l Iz.toArray->_) (λy ry=>ry.e_int λty hl=>?_) hl;refine Sr hl.isList (Zf _) (jbU.mpr (YY oj (by decide))) (Y2 _) ?_;refine aa (Zx _) ?_;refine aa (DY _ _) ?_;refine ka (H8 ew (Iw (t:=ty) (bA n a))) λml BE wZ jP gl jW U8=>?_;exact nx FC (x := "a_digits") (i:=2) rfl gl U8 λdO Ax rA BG Y=>hQ _ _ _ _ _ rA
theorem FP (FC:a0 G A bE sB ah ab kq)(S:SR G sB aj ah ab kq φ (m8 a n (some (.ref 0))) (gB ds) β P m s):Y7 (Y9 af wd) A (ZJ [.Return (some (.Name "a_digits" p1)) p2] ab) (nD G sB aj ah (.lst (ds.map .int))) ax s :=
 Zv (jbp ((cH FC.hO _ _ (Y2 _) _ _ _ (.ref 0) FC.hE rfl).1.post (S.inv FC.IB) S.er λxv ak ay aw bb aI aF=>⟨xv,rfl,ay,(S.go aw).done,(S.go aw).frozen (v:=.ref 0) FC.hP₀ (congrArg (Z6 AV.lst) (yP (gB ds) 4 ds)) aF⟩))
theorem Sl (h0:ρ[i]?=some (some (.ref 0)))(hl:ds.length<=1000):ev bE (gB ds) ρ (.call .len (.cons (.var i) .nil))=some (.int ds.length):=by
 rewrite [kV];refine aa (cT (ag h0)) ?_;show(if(ds.map AV.int).length<=100000 then some (AV.int ((ds.map AV.int).length:Nat))else none)=_;refine aa (YX _) ?_;refine aa (if_pos (YY hl (by decide))) ?_;rfl
theorem Rb {A:ZS}{ab:Env}{G:GD}{s:Y1}{φ:Gh}{β:List Zb}{P ah:Zb->Prop}{m:Str->Option Value}{sB:Y1}{aj:Gh}{p:Nat->Pos}{a n:Nat}{f cD cN cI:Zb}{i9:jau}(FC:a0 G A bE sB ah ab kq)(L:jw A ab f cI)(S:SR G sB aj ah ab kq φ (m8 a n (some (.ref 0))) (gB (Ze (bA n a) 0)) β P m s)(F:cj G s φ β P f cD cN cI i9 (.ref 0) n)(dv:0<n)(oj:bA n a<=1000)(H:a≠0->wU G A sB aj ah f cD cN cI i9 n (Ze (bA n a) 0) 0 (bA n a) a):
 Y7 (Y9 af wd) A (ZJ [.If (.Name "a" (p 14)) [.Expr (.Call (.Name "inner" (p 15)) [.Name "a" (p 16),.Constant (.int 0) 0 (p 17),.Call (.Name "len" (p 18)) [.Name "a_digits" (p 19)] [] (p 20)] [] (p 21)) (p 22)] [] (p 23),.Return (some (.Name "a_digits" (p 24))) (p 25)] ab) (nD G sB aj ah (.lst ((dg n (bA n a) a).map .int))) ax s:=by
 refine Zv (jeC (jfe (t5 FC (v:=.int a) rfl S F λx ay ak aw aM fU aF=>aF.e_int λt=>truthy_int ?_) rfl));by_cases hz:a=0
 ·subst hz;refine aa (if_neg (by decide)) ?_;rw[LF dv]at aM ⊢;exact jaX (FP FC aM)
 ·refine aa (if_pos (by simpa using hz)) ?_;have el:ev bE (gB (Ze (bA n a) 0)) (m8 a n (some (.ref 0))) (.call .len (.cons (.var 2) .nil))=some (.int (bA n a)):=(Sl rfl (by refine aa jat ?_;exact oj)).trans (by refine aa jat ?_;rfl);refine xE (az:=[]) rfl FC L (gJ (ag (i:=0) rfl) bK el) (H hz) aM fU λaU dp ck di aC bq gD cY=>jaX ?_;rw[UF _ jat]at bq;exact FP FC bq
theorem Re {A:ZS}{G:GD}{p q:Nat->Pos}{a n:Nat}{fd:jau}{t:Zb×Zb×Pos×Str}{x:Str}{k:Nat}(O:uq G fd ["a","n"] (zT p q) t (q 53)) (fJ:fd.scope=s5) (hk:G.fns k=some (x,fd)) (hG:dD G) (hN:gE G) (D:dR A 13) (sH:a<2^1000) (dv:0<n) (hn:n<=64) (sQ:(p 4).endLine=(p 5).line) {fa:Zb} (ha:G.mg x=some (.ref fa)):kE G A (.ref fa) [.int a,.int n] (.lst ((dg n (bA n a) a).map .int)):=by
 have hT:dy ["a","n"] fd.scope=kq:=by refine aa fJ ?_;rfl
 refine su (Φ:=bE) O.ok hk (ZE (ZD _ _) D.depth) (λab=>rF (D.deeper ab) hG hN) rfl (λL fa s φ P P' m ak FC S=>?_) ha;rw[hT]at FC S;refine Zv (Q' FC S dv hn sH sQ λay dc cC da ak aM=>?_);refine Zv (G7 Rg FC aM O.tm O.tu O.code ?_ O.pos rfl rfl rfl (λi v hi hv=>?_) rfl rfl λi9 f s' cD cN cI ot Fd Ld bq gD=>?_)
 ·unfold jdZ;refine aa (show(jaW fd L fa).kindOf ("inner" : Str)=s5.names.lookup ("inner" : Str)from congrArg (λsc:jax=>sc.names.lookup ("inner" : Str)) fJ) ?_;refine aa (if_neg (by decide)) ?_;exact O.qual
 ·cases Q7.symm.trans hi;exact nq hv
 ·have oj:=xS dv sH;have hl:(Ze (bA n a) (0:Int)).length=bA n a:=jat;refine Rb FC Ld bq gD dv oj λhz=>Rc Fd (λx y z=>?_) FC.IB hG hN FC.hP₀ hn 10 _ ((D.deeper _).le (by decide)) _ 0 (bA n a) a (hl.symm▸oj) (LD dv hz) (ZG hl.symm) (YY oj (by decide)) (xR dv) (be sH (Zi (by decide) (by decide)));refine uW ot ?_;rintro cg bG pm c' bZ rfl;exact JN
end
def uz:jax:={ kind:=.function,names:=[("code",.local),("ord",.globalImplicit),("b1_set",.globalImplicit)],isGenerator:=false,isCoroutine:=false }
def ux (p:Nat->Pos):List Stmt:=[.Return (some (.Compare (.Call (.Name "ord" (p 0)) [.Name "code" (p 1)] [] (p 2)) [.In] [.Name "b1_set" (p 3)] (p 4))) (p 5)]
def uA:jax:={ kind:=.function,names:=[("code",.local),("r",.local),("b3_exceptions",.globalImplicit),("ord",.globalImplicit)],isGenerator:=false,isCoroutine:=false }
def xm (p:Nat->Pos):List Stmt :=
 [.Assign [.Name "r" (p 0)] (.Call (.Attribute (.Name "b3_exceptions" (p 1)) "get" (p 2)) [.Call (.Name "ord" (p 3)) [.Name "code" (p 4)] [] (p 5)] [] (p 6)) (p 7),
  .If (.Compare (.Name "r" (p 8)) [.IsNot] [.Constant .none 0 (p 9)] (p 10)) [.Return (some (.Name "r" (p 11))) (p 12)] [] (p 13),
  .Return (some (.Call (.Attribute (.Name "code" (p 14)) "lower" (p 15)) [] [] (p 16))) (p 17)]
def iy (c:Nat):List Nat:=match j1 c with
 |some x=>x.cps.toList
 |none=>(jiC ⟨[c].toArray⟩).cps.toList
section
def xh:Tb:=dy ["code"] uz
theorem Jw (FC:a0 G A bE sB ah ab xh)(S:SR G sB aj ah ab xh φ [some (.str [c])] [] [] P m s):Y7 (Y9 af wd) A (ZJ (ux p) ab) (nD G sB aj ah (.bool (dz c))) ax s:=by
 refine Zv (jbp (jhb ((cH FC.hO _ _ (Y2 _) _ _ _ (.int c) FC.hE rfl).1.post (S.inv FC.IB) S.er λxo aC aU aP dJ bW bI=>bI.e_int λt=>?_) rfl));refine bB dJ.b1 λsa n g1 g2=>?_;have cn:GX G aC aU { aC with toks:=aC.toks+1 } aU:=.same aP.tk bF.tok (ZV _);exact jQ FC.hE rfl (.inl g1) dJ (wpAny_inSet_of (jea _ _ _ _) rfl g2 ⟨_,rfl,aU,((S.go aP).go cn).done,.bool _⟩)
theorem Ry (O:et fd d ["code"] (ux p) mu) (fJ:fd.scope=uz) (hk:G.fns k=some (x,fd)) (hG:dD G) (hN:gE G) (D:dR A 2) (ha:G.mg x=some (.ref fa)):kE G A (.ref fa) [.str [c]] (.bool (dz c)):=by
 have hT:dy ["code"] fd.scope=xh:=by refine aa fJ ?_;rfl
 refine su (Φ:=bE) O hk (ZE (ZD _ _) D.depth) (λab=>rF (D.deeper ab) hG hN) rfl (λL fa s φ P P' m ak FC S=>?_) ha;rw[hT]at FC S;exact Jw FC S
def mB:Tb:=dy ["code"] uA
def wP (c:Nat)(r:AV):Prop:=(∃x,j1 c=some x/\r=.str x.cps.toList)\/(j1 c=none/\r=.none)
theorem JA {G:GD}{c:Nat}{g:Int->Option Value}(g4:∀k x,j1 k=some x->∃t,g k=some (.str x t))(g5:∀k,j1 k=none->g k=none):∃r:AV,VR G.tok φ h β P r ((g c).getD .none)/\wP c r:=by
 induction hb:j1 c using ae with
 |some x =>
  refine aW (g4 _ _ hb) λt' ht=>?_;exact aN (.str x.cps.toList) (ht▸.str _ _) (.inl ⟨x,hb,rfl⟩)
 |none=>exact aN (.none) (g5 _ hb▸.none) (.inr ⟨hb,rfl⟩)
theorem S2 (g3:s.heap.MapOf (jal af wd) ba g)(TB:bz G s.heap)(k:GX G s φ s' am):s'.heap.MapOf (jal af wd) ba g:=by
 refine kW g3 λo es ep ho hx hd r=>?_;exact⟨o,es,ep,k.ext _ _ (TB.notX_data ho λvs q=>nomatch hd.symm.trans q) ho,hx,hd,r⟩
theorem S3 {s:Y1}(g3:s.heap.MapOf (jal af wd) ba g)(a:Zb)(e:jbs ba=.ref a):∃ob,s.heap.get? a=some ob/\ob.dict=none:=by
 refine j' g3 λo es ep ho hx Y=>?_;exact aN o (jdA e▸ho) hx.2.1
theorem Jy {c:Nat}{Q:jeu->Y1->Prop}{p0 p1 p2 p3 p4 p5 p6 p7:Pos}(FC:a0 G A bE sB ah ab mB)(S:SR G sB aj ah ab mB φ [some (.str [c]),none] [] [] P m s)(hl:p2.endLine=p6.line)(hQ:∀r am m' s',wP c r->SR G sB aj ah ab mB am [some (.str [c]),some r] [] [] P m' s'->Q .next s'):
 Y7 (Y9 af wd) A (ZX (.Assign [.Name "r" p0] (.Call (.Attribute (.Name "b3_exceptions" p1) "get" p2) [.Call (.Name "ord" p3) [.Name "code" p4] [] p5] [] p6) p7) ab) Q ax s:=by
 refine DA ((S.inv FC.IB).b3) λba g g1 g2 g3 g4 g5=>?_;refine jbr (jbq (pr rfl) rfl (by refine aa hl ?_;exact beq_self_eq_true _) (jQ FC.hE rfl (.inl g1) (S.inv FC.IB) ?_)) rfl;refine⟨"dict","dict.get",jdR,jbS,jgH,g3.typeIs,S3 g3,jaB rfl ?_⟩;have oD:=(j7 FC.hE (λe Y=>cH FC.hO _ e (Y2 _)) (σ:=[]) (ρ:=[some (.str [c]),none]) (es:=[.Call (.Name "ord" p3) [.Name "code" p4] [] p5]) (vs:=[.int c]) rfl).2 p6;refine jdi (oD.post (S.inv FC.IB) S.er λxs aC aU aP dJ bW bI=>bI.e1 λwI q1=>q1.e_int λt=>?_);have Em:=S2 g3 S.tabs.1 aP;refine jfX jbS Em.typeIs jee (PySem.F.args_dict_get_2 _ _) (meets_dict_get (jal af wd) ba (jea af wd c t) g2) ⟨_,Em,?_⟩;have cn:GX G aC aU { aC with toks:=aC.toks+1 } aU:=.same aP.tk bF.tok (ZV _);refine au (JA (G:=G) (φ:=aU) (h:=aC.heap) (β:=[]) (P:=P) (c:=c) g4 g5) λr rr hr=>?_;exact nx FC (x := "r") (i:=1) rfl ((S.go aP).go cn) rr λeE jP gl jW Y=>hQ _ _ _ _ hr gl
theorem JB (FC:a0 G A bE sB ah ab mB)(S:SR G sB aj ah ab mB φ [some (.str [c]),r] [] [] P m s)(hl:p1.endLine=p2.line)(hx:j1 c=none):
 Y7 (Y9 af wd) A (ZJ [.Return (some (.Call (.Attribute (.Name "code" p0) "lower" p1) [] [] p2)) p3] ab) (nD G sB aj ah (.str (iy c))) ax s:=by
 refine Zv (jbp (jbq (pr rfl) rfl (by refine aa hl ?_;exact beq_self_eq_true _) ((cH FC.hO _ _ (Y2 _) _ _ _ (.str [c]) FC.hE rfl).1.post (S.inv FC.IB) S.er λxc ly q8 v4 I0 I9 A2=>A2.e_str λt'=>?_)));refine⟨"str","str.lower",jbM,jgv,PySem.F.type_str_lower,jcP _ _ _,(λa e=>nomatch e),jaB rfl (jbR ?_)⟩;have vo:jgm (jiC ⟨[c].toArray⟩).length=false:=by
  have:=len_lower ⟨[c].toArray⟩;have e1:(⟨[c].toArray⟩:Str).length=1:=rfl;rw[e1]at this;exact decide_eq_false (ZT.mpr (YY this (by decide)))
 refine call_gives jgv (jcP _ _ _) PySem.F.entry_str_lower (PySem.F.args_str_lower_1 _) (gives_str_lower _ t' vo) ⟨fit_le vo,?_⟩;have R6:GX G ly q8 { ly with toks:=ly.toks+1 } q8:=.same v4.tk bF.tok (ZV _);have:iy c=(jiC ⟨[c].toArray⟩).cps.toList:=by unfold iy;refine aa hx ?_;rfl
 refine aa this ?_;exact⟨_,rfl,q8,((S.go v4).go R6).done,.str _ _⟩
theorem JC {A:ZS}{ab:Env}{G:GD}{s:Y1}{φ:Gh}{P ah:Zb->Prop}{m:Str->Option Value}{sB:Y1}{aj:Gh}{p:Nat->Pos}{c:Nat}{r:AV}(FC:a0 G A bE sB ah ab mB)(S:SR G sB aj ah ab mB φ [some (.str [c]),some r] [] [] P m s)(hr:wP c r)(hl:(p 15).endLine=(p 16).line):
 Y7 (Y9 af wd) A (ZJ [.If (.Compare (.Name "r" (p 8)) [.IsNot] [.Constant .none 0 (p 9)] (p 10)) [.Return (some (.Name "r" (p 11))) (p 12)] [] (p 13),.Return (some (.Call (.Attribute (.Name "code" (p 14)) "lower" (p 15)) [] [] (p 16))) (p 17)] ab) (nD G sB aj ah (.str (iy c))) ax s:=by
 refine Zv (jeC (jfL ((cH FC.hO _ _ (Y2 _) _ _ _ r FC.hE rfl).1.post (S.inv FC.IB) S.er λxr dO wO qx IY I7 wt=>(cH FC.hO _ _ (Y2 _) _ _ _ .none FC.hE rfl).1.post IY I7 λxn qT X5 R5 IZ I8 U9=>?_) rfl));have ur:=(S.go qx).go R5;refine aa (show xn=.none from U9.inv) ?_;rcases hr with⟨x,hx,rfl⟩|⟨hx,rfl⟩
 ·refine wt.e_str λt'=>wpAny_isNot_plain rfl (jaE ?_);refine aa (if_pos (by rfl)) ?_;refine Zv (jbp ((cH FC.hO _ _ (Y2 _) _ _ _ (.str x.cps.toList) FC.hE rfl).1.post IZ I8 λxr ly q8 v4 I0 I9 A2=>?_));have:iy c=x.cps.toList:=by unfold iy;refine aa hx ?_;rfl
  refine aa this ?_;exact⟨_,rfl,q8,(ur.go v4).done,A2.scalar rfl λY Y e=>e⟩
 ·refine aa (show xr=.none from wt.inv) ?_;refine wpAny_isNot_plain rfl (jaE ?_);refine aa (if_neg (by decide)) ?_;exact jaX (JB FC ur hl hx)
theorem S1 {A:ZS}{G:GD}{mu:List Str}{p:Nat->Pos}{fd:jau}{d:dC}{x:Str}{k:Nat}{c:Nat}(O:et fd d ["code"] (xm p) mu) (fJ:fd.scope=uA) (hk:G.fns k=some (x,fd)) (hG:dD G) (hN:gE G) (D:dR A 2) (P5:(p 2).endLine=(p 6).line) (vw:(p 15).endLine=(p 16).line) {fa:Zb} (ha:G.mg x=some (.ref fa)):kE G A (.ref fa) [.str [c]] (.str (iy c)):=by
 have hT:dy ["code"] fd.scope=mB:=by refine aa fJ ?_;rfl
 refine su (Φ:=bE) O hk (ZE (ZD _ _) D.depth) (λab=>rF (D.deeper ab) hG hN) rfl (λL fa s φ P P' m ak FC S=>?_) ha;rw[hT]at FC S;exact Zv (Jy FC S P5 λr am m' s' hr S'=>JC FC S' hr vw)
end
def tC:List AV->Option AV
 | [.int a,.int n]=>if 0<=a/\a<2^1000/\0<n/\n<=64 then some (.lst ((dg n.toNat (bA n.toNat a.toNat) a.toNat).map .int))else none
 |_=>none
def tD:List AV->Option AV
 | [.lst ds,.int n]=>match cQ ds with
  |some is=>if is.length<=1000/\0<=n/\n<=64/\is.all (λd=>decide (d.natAbs<2^64))=true then some (.int (cB n is))else none
  |none=>none
 |_=>none
def tL (f:Nat->AV):List AV->Option AV
 | [.str [c]]=>some (f c)
 |_=>none
def gb:cX:=λk as=>if k=1 then tC as else if k=2 then tD as else if k=8 then tL (λc=>.bool (dz c)) as else if k=9 then tL (λc=>.str (iy c)) as else none
theorem Ux:tC [.int a,.int n]=if 0<=a/\a<2^1000/\0<n/\n<=64 then some (.lst ((dg n.toNat (bA n.toNat a.toNat) a.toNat).map .int))else none:=rfl
theorem Uz:tD [.lst ds,.int n]=match cQ ds with
 |some is=>if is.length<=1000/\0<=n/\n<=64/\is.all (λd=>decide (d.natAbs<2^64))=true then some (.int (cB n is))else none
 |none=>none:=rfl
structure wX (G:GD):Prop where
 p1:∃x fd t p q,G.fns 1=some (x,fd)/\uq G fd ["a","n"] (zT p q) t (q 53)/\fd.scope=s5/\(p 4).endLine=(p 5).line
 p2:∃x fd t p q,G.fns 2=some (x,fd)/\uq G fd ["digits","n"] (xN p q) t (q 42)/\fd.scope=rV
 p8:∃x fd d p mu,G.fns 8=some (x,fd)/\et fd d ["code"] (ux p) mu/\fd.scope=uz
 p9:∃x fd d p mu,G.fns 9=some (x,fd)/\et fd d ["code"] (xm p) mu/\fd.scope=uA/\(p 2).endLine=(p 6).line/\(p 15).endLine=(p 16).line
theorem S0:∀{is:List Int},bh Aa ds=some is->ds=is.map .int:=by
 induction ds with
 |nil=>exact λh=>aG (Q:=λis=>[]=is.map AV.int) h rfl
 |cons d ds ih =>
  intro is h;refine bS (wa h) ?_;rintro b cs rfl h1 h2;refine aa Zy ?_;refine rwj (ih h2) ?_
  induction d using AV.casesOn with
  |int i=>refine aa (Y0 h1) ?_;rfl
  |_=>exact ai h1
theorem Jp (h:cQ ds=some is):ds=is.map .int:=S0 h
section
theorem Uy {C:List AV->AV->Prop}(e:tC vs=some r)(h:∀a n:Nat,a<2^1000->0<n->n<=64->C [.int a,.int n] (.lst ((dg n (bA n a) a).map .int))):C vs r:=by
 induction vs using YZ with
 |nil=>exact ai e
 |cons x vs=>induction x using AV.casesOn with
  |int a=>induction vs using YZ with
   |nil=>exact ai e
   |cons y vs=>induction y using AV.casesOn with
    |int n=>induction vs using YZ with
     |cons=>exact ai e
     |nil =>
      refine bR e λhc e=>aG e ?_;refine aW (jbk hc.1) ?_;rintro a' rfl;refine aW (jbk (Int.le_of_lt hc.2.2.1)) ?_;rintro n' rfl;have h1:(a':Int)<((2^1000:Nat):Int):=by rw[jbE];exact hc.2.1
      exact h a' n' (jcq.mp h1) (jcq.mp hc.2.2.1) (jbU.mp hc.2.2.2)
    |_=>exact ai e
  |_=>exact ai e
theorem UA {C:List AV->AV->Prop}(e:tD vs=some r)(h:∀(is:List Int) (n:Int),is.length<=1000->0<=n->n<=64->(∀d∈is,d.natAbs<2^64)->C [.lst (is.map .int),.int n] (.int (cB n is))):C vs r:=by
 induction vs using YZ with
 |nil=>exact ai e
 |cons x vs=>induction x using AV.casesOn with
  |lst ds=>induction vs using YZ with
   |nil=>exact ai e
   |cons y vs=>induction y using AV.casesOn with
    |int n=>induction vs using YZ with
     |cons=>exact ai e
     |nil =>
      exact z9 (F:=λis=>if is.length<=1000/\0<=n/\n<=64/\is.all (λd=>decide (d.natAbs<2^64))=true then some (.int (cB n is))else none) e λis eR e=>bR e λhc e=>aG e (Jp eR▸h is n hc.1 hc.2.1 hc.2.2.1 λd hd=>of_decide_eq_true (Y3.mp hc.2.2.2 d hd))
    |_=>exact ai e
  |_=>exact ai e
theorem HR {C:List AV->AV->Prop}{f:Nat->AV}(e:tL f vs=some r)(h:∀c,C [.str [c]] (f c)):C vs r:=by
 induction vs using YZ with
 |nil=>exact ai e
 |cons x vs=>induction x using AV.casesOn with
  |str l=>induction l using YZ with
   |nil=>cases vs<;>exact ai e
   |cons c l=>induction l using YZ with
    |cons=>cases vs<;>exact ai e
    |nil=>induction vs using YZ with
     |nil=>exact aG e (h c)
     |cons=>exact ai e
  |_=>exact ai e
theorem UB {C:Nat->List AV->AV->Prop}{k:Nat}(e:gb k vs=some r)(h1:tC vs=some r->C 1 vs r)(h2:tD vs=some r->C 2 vs r)(h8:tL (λc=>.bool (dz c)) vs=some r->C 8 vs r)(h9:tL (λc=>.str (iy c)) vs=some r->C 9 vs r):C k vs r:=by
 by_cases q:k=1
 ·subst q;exact h1 e
 replace e:=(if_neg q).symm.trans e;by_cases q:k=2
 ·subst q;exact h2 e
 replace e:=(if_neg q).symm.trans e;by_cases q:k=8
 ·subst q;exact h8 e
 replace e:=(if_neg q).symm.trans e;by_cases q:k=9
 ·subst q;exact h9 e
 exact ai ((if_neg q).symm.trans e)
def rt (G:GD)(A:ZS)(k:Nat)(vs:List AV)(r:AV):Prop:=∃x fd,G.fns k=some (x,fd)/\∀a,G.mg x=some (.ref a)->kE G A (.ref a) vs r
theorem Qr {G:GD}{fns:Nat->Option dC}(H:wX G)(hG:dD G)(hN:gE G)(A:ZS)(D:dR A 13)(k:Nat)(vs:List AV)(r:AV)(_:fns k=none)(e:gb k vs=some r):∃x fd,G.fns k=some (x,fd)/\∀a,G.mg x=some (.ref a)->kE G A (.ref a) vs r:=by
 refine UB (C:=rt G A) e (λe=>?_) (λe=>?_) (λe=>?_) λe=>?_
 ·refine DD H.p1 λx fd t p q k1 k2 k3 k4=>?_;exact Uy (C:=rt G A 1) e λa n ha hn ji=>⟨x,fd,k1,λfa h=>Re k2 k3 k1 hG hN D ha hn ji k4 h⟩
 ·refine sk H.p2 λx fd t p q k1 k2 k3=>?_;exact UA (C:=rt G A 2) e λis n hl hn ji hd=>⟨x,fd,k1,λfa h=>Li k2 k3 k1 hG hN D hd hl hn (Int.toNat_le.mpr ji) h⟩
 ·refine sk H.p8 λx fd d p mu k1 k2 k3=>?_;exact HR (C:=rt G A 8) e λc=>⟨x,fd,k1,λfa h=>Ry k2 k3 k1 hG hN (D.le (by decide)) h⟩
 ·refine Nj H.p9 λx fd d p mu k1 k2 k3 k4 k5=>?_;exact HR (C:=rt G A 9) e λc=>⟨x,fd,k1,λfa h=>S1 k2 k3 k1 hG hN (D.le (by decide)) k4 k5 h⟩
end
set_option backward.match.sparseCases false
set_option genInjectivity true in
inductive TV where
 |int (i:Int)
 |str (x:Str)
 |fn (name:Str) (params:jbf) (body:List Stmt) (sc:jax)
 |dictI (l:List (Int×Str))
 |dictS (l:List (Str×Int))
 |set (l:List Int) (a b:Int)
def rd (fd:jau)(name:Str)(params:jbf)(body:List Stmt)(sc:jax)(c':Zb):Prop:=∃bG pm bZ,fd=fnX name name params body sc [] .none .none bG pm none (.ref c') bZ
def re (ts:List (Zb×Zb))(h:jag)(name:Str)(params:jbf)(body:List Stmt)(sc:jax)(v:Value):Prop :=
 ∃a fd c' P',v=.ref a/\h.get? a=some { cls:=.type "function",data:=.func fd }/\rd fd name params body sc c'/\h.CodeRec (.ref c') name/\jfJ h c' P'/\h.get? P'=some (jdG #[])/\(c',P')∈ts
def i4 (ts:List (Zb×Zb))(h:jag):TV->Value->Prop
 | .int i,v=>∃t,v=.int i t
 | .str x,v=>∃t,v=.str x t
 | .fn name params body sc,v=>re ts h name params body sc v
 | .dictI l,v=>∃a aJ,v=.ref a/\a≠Zm/\(a==Z')=false/\h.DictOf (jal af wd) a aJ/\eU (l.map λe=>(e.1,λu=>∃t,u=.str e.2 t)) aJ
 | .dictS l,v=>∃a aJ,v=.ref a/\a≠Zm/\(a==Z')=false/\h.DictOf (strKind af wd) a aJ/\eU (l.map λe=>(e.1,λu=>∃t,u=.int e.2 t)) aJ
 | .set l a b,v=>∃d S n,v=.ref d/\h.SetOf (jal af wd) d S n/\∀k,S k=(l++gP a 1 (b-a).toNat).any (·==k)
structure gX (mg:Str->Option Value) (c Pl:Zb) (ps:Array Value) (h:jag):Prop where
 g:h.Ns Zm mg
 code:jfJ h c Pl
 tab:h.get? Pl=some (jdG ps)
 tri:TriplesOk ps.toList
 low:Zm<c/\Zm<Pl
 bmod:h.BuiltinsAt mg Pl
structure gW (aL:jag) (bD:Str->Option Value) (c Pl:Zb) (E:List (Str×TV)) (lp:List Pos) (h:jag):Prop where
 ex:∃mg ps ts l,gX mg c Pl ps h/\ps.toList=triples l/\l.map (·.1)=lp/\(ts.map (·.2)).Nodup/\(∀t∈ts,t.2≠Pl/\t.2<h.objs.size) /\
  (∀x tv,E.lookup x=some tv->∃v,mg x=some v/\i4 ts h tv v)/\(∀x,E.lookup x=none->mg x=bD x)
 old:∀b o,b≠Zm->aL.get? b=some o->h.get? b=some o
 sz:aL.objs.size<=h.objs.size
 pl:aL.objs.size<=Pl
 sys:Z'<aL.objs.size
section
def q9 (Pl:Zb)(h h':jag):Prop:=∀b o,b≠Pl->b≠Zm->h.get? b=some o->h'.get? b=some o
theorem uX (T:gX mg c Pl ps h)(hk:q9 Pl h h')(e:h.get? b=some o)(hb:b≠Zm)(hd:(∀vs,o.data≠.fields vs)\/o.cls≠.none):h'.get? b=some o :=
 hk b o (λq=>by
  have eo:o=jdG ps:=Y0 (e.symm.trans (q▸T.tab));rw[eo]at hd;exact hd.elim (λhd=>hd _ rfl) λhd=>hd rfl) hb e
theorem wh (T:gX mg c Pl ps h)(e:h.get? b=some o)(hd:∀es ep,o.data≠.dict es ep):b≠Zm:=λq=>by
 refine j' T.g λog es ep eg Px Y=>?_;exact hd _ _ (Y0 (e.symm.trans (q▸eg))▸Px)
theorem re.keeps (T:gX mg c Pl ps h)(lb:∀t∈ts,t.2≠Pl)(hk:q9 Pl h h')(jN:∀t∈ts,t∈tZ)(r:re ts h name params body sc v):re tZ h' name params body sc v:=by
 refine n7 r λa fd c' P' e1 e2 e3 e4 e5 e6 e7=>?_;obtain⟨o,vs,sr,tf,flags,tg,s8,dQ,tt,f1,f2,f3,f4⟩:=e5;have kc:h'.get? c'=some o:=uX T hk f1 (wh T f1 λY Y q=>nomatch f3.symm.trans q) (.inr (by refine aa f2 ?_;exact λq=>nomatch q));refine⟨a,fd,c',P',e1,uX T hk e2 (wh T e2 λY Y q=>nomatch q) (.inl λY q=>nomatch q),e3,?_,⟨o,vs,sr,tf,flags,tg,s8,dQ,tt,kc,f2,f3,f4⟩,hk P' _ (lb _ e7) (wh T e6 λY Y q=>nomatch q) e6,jN _ e7⟩;refine qa e4 λCB G9 Xv oW g1 g2 g3 g4=>?_;have gc:=jdA g1;have go:=Y0 ((gc▸f1).symm.trans g2);exact⟨c',o,Xv,oW,rfl,kc,go▸g3,g4⟩
theorem DictOf.top {h h':jag}{K:Type}[DecidableEq K]{bl:KeyKind af wd K}(T:gX mg c Pl ps h)(hk:q9 Pl h h'){a:Zb}{aJ:List (K×Value)}(ha:a≠Zm)(r:h.DictOf bl a aJ):h'.DictOf bl a aJ:=by
 refine kW r λo es ep e hx hd r=>?_;exact⟨o,es,ep,uX T hk e ha (.inl λY q=>nomatch hd.symm.trans q),hx,hd,r⟩
theorem SetOf.top {h h':jag}{K:Type}[DecidableEq K]{bl:KeyKind af wd K}(T:gX mg c Pl ps h)(hk:q9 Pl h h'){a:Zb}{S:K->Bool}{n:Nat}(r:h.SetOf bl a S n):h'.SetOf bl a S n:=by
 refine qa r λo es ep t e hx hd r=>?_;exact⟨o,es,ep,t,uX T hk e (wh T e λY Y q=>nomatch hd.symm.trans q) (.inl λY q=>nomatch hd.symm.trans q),hx,hd,r⟩
theorem i4.keeps (T:gX mg c Pl ps h)(lb:∀t∈ts,t.2≠Pl)(hk:q9 Pl h h')(jN:∀t∈ts,t∈tZ){tv:TV}{v:Value}(r:i4 ts h tv v):i4 tZ h' tv v:=by
 cases tv with
 |int i=>exact r
 |str x=>exact r
 |fn name params body sc=>exact re.keeps T lb hk jN r
 |dictI l=>exact r.elim λa r=>r.elim λaJ r=>⟨a,aJ,r.1,r.2.1,r.2.2.1,DictOf.top T hk r.2.1 r.2.2.2.1,r.2.2.2.2⟩
 |dictS l=>exact r.elim λa r=>r.elim λaJ r=>⟨a,aJ,r.1,r.2.1,r.2.2.1,DictOf.top T hk r.2.1 r.2.2.2.1,r.2.2.2.2⟩
 |set l a b=>exact r.elim λd r=>r.elim λS r=>r.elim λn r=>⟨d,S,n,r.1,SetOf.top T hk r.2.1,r.2.2⟩
structure lF (x:Str):Prop where
 loc:af.main.scope.names.lookup x=some .local
 nb:x ≠ "__builtins__"
 qual:jdZ { scope:=af.main.scope,locals:=Zm,globals:=Zm,cells:=[] } x x=x
theorem gX.store {h':jag}{x:Str}{v:Value}(T:gX mg c Pl ps h)(hx:x ≠ "__builtins__") (hn:h'.Ns Zm (λy=>if y=x then some v else mg y)) (hs:Z1 Zm h h'):gX (λy=>if y=x then some v else mg y) c Pl ps h':=by
 have ex:=hs.extBut;have kp:∀b o,b≠Zm->h.get? b=some o->h'.get? b=some o:=ex;refine pZ T.bmod λbm o b1 b2 b3 b4 b5 b6=>?_;refine⟨hn,?_,kp _ _ (jaP T.low.2) T.tab,T.tri,T.low,bm,o,?_,b2,b3,b4,kp _ _ b3 b5,b6⟩
 ·obtain⟨o,vs,sr,tf,flags,tg,s8,dQ,tt,f1,r⟩:=T.code;exact⟨o,vs,sr,tf,flags,tg,s8,dQ,tt,kp _ _ (jaP T.low.1) f1,r⟩
 ·show(if("__builtins__" : Str)=x then _ else _)=_;refine aa (if_neg (jev hx)) ?_;exact b1
theorem gX.keeps (T:gX mg c Pl ps h)(hk:gj h h'):gX mg c Pl ps h':=by
 refine pZ T.bmod λbm o b1 b2 b3 b4 b5 b6=>?_;exact⟨T.g.keeps hk,T.code.keeps hk,hk _ _ T.tab,T.tri,T.low,bm,o,b1,b2,b3,b4,hk _ _ b5,b6⟩
structure i5 (aL:jag) (bD:Str->Option Value) (c Pl:Zb) (E:List (Str×TV)) (lp:List Pos) (h:jag) (mg:Str->Option Value) (ps:Array Value) (ts:List (Zb×Zb)) (l:List (Pos×Zb)):Prop where
 S:gX mg c Pl ps h
 e1:ps.toList=triples l
 e2:l.map (·.1)=lp
 e3:(ts.map (·.2)).Nodup
 e4:∀t∈ts,t.2≠Pl/\t.2<h.objs.size
 e5:∀x tv,E.lookup x=some tv->∃v,mg x=some v/\i4 ts h tv v
 e6:∀x,E.lookup x=none->mg x=bD x
 old:∀b o,b≠Zm->aL.get? b=some o->h.get? b=some o
 sz:aL.objs.size<=h.objs.size
 pl:aL.objs.size<=Pl
 sys:Z'<aL.objs.size
theorem gW.x (R:gW aL bD c Pl E lp h):∃mg ps ts l,i5 aL bD c Pl E lp h mg ps ts l :=
 R.ex.elim λmg r=>r.elim λps r=>r.elim λts r=>r.elim λl r=>⟨mg,ps,ts,l,r.1,r.2.1,r.2.2.1,r.2.2.2.1,r.2.2.2.2.1,r.2.2.2.2.2.1,r.2.2.2.2.2.2,R.old,R.sz,R.pl,R.sys⟩
theorem i5.r (X:i5 aL bD c Pl E lp h mg ps ts l):gW aL bD c Pl E lp h:=⟨⟨mg,ps,ts,l,X.S,X.e1,X.e2,X.e3,X.e4,X.e5,X.e6⟩,X.old,X.sz,X.pl,X.sys⟩
theorem i5.keeps (X:i5 aL bD c Pl E lp h mg ps ts l)(hk:gj h h')(hz:h.objs.size<=h'.objs.size):i5 aL bD c Pl E lp h' mg ps ts l :=
 { X with
   S:=X.S.keeps hk
   e4:=λt ht=>⟨(X.e4 t ht).1,be (X.e4 t ht).2 hz⟩
   e5:=λx tv e=>(X.e5 x tv e).elim λv r=>aN v r.1 (r.2.keeps X.S (λt ht=>(X.e4 t ht).1) (λb o Y Y e=>hk b o e) λY h=>h)
   old:=λb o hb e=>hk b o (X.old b o hb e)
   sz:=YY X.sz hz }
theorem SF {E:List (Str×TV)}{x:Str}{tv:TV}{C:Str->TV->Prop}(h0:C x tv)(h:∀y nB,y≠x->E.lookup y=some nB->C y nB)(y:Str)(nB:TV)(e:jdU y ((x,tv)::E)=some nB):C y nB:=by
 rw[ZU]at e;by_cases q:y=x
 ·subst q;rw[beq_self_eq_true]at e;exact aG e h0
 ·rw[beq_eq_false_iff_ne.mpr q]at e;exact h y nB q e
theorem Gx {E:List (Str×TV)}(e:jdU y ((x,tv)::E)=none):y≠x/\E.lookup y=none:=by
 rw[ZU]at e;by_cases q:y=x
 ·subst q;rw[beq_self_eq_true]at e;exact nomatch e
 ·rw[beq_eq_false_iff_ne.mpr q]at e;exact⟨q,e⟩
theorem i5.store {h':jag}{l:List (Pos×Zb)}{x:Str}{v:Value}{tv:TV}(X:i5 aL bD c Pl E lp h mg ps ts l)(hx:x ≠ "__builtins__") (hv:i4 ts h tv v) (hn:h'.Ns Zm (λy=>if y=x then some v else mg y)) (hs:Z1 Zm h h'):
 i5 aL bD c Pl ((x,tv)::E) lp h' (λy=>if y=x then some v else mg y) ps ts l :=
 have kp:∀{tv v},i4 ts h tv v->i4 ts h' tv v:=λr=>r.keeps X.S (λt ht=>(X.e4 t ht).1) (λb o Y hb e=>hs.extBut b o hb e) λY h=>h
 { X with
   S:=X.S.store hx hn hs
   e4:=λt ht=>⟨(X.e4 t ht).1,by rw[hs.1];exact(X.e4 t ht).2⟩
   e5:=SF (C:=λy tv=>∃u,(if y=x then some v else mg y)=some u/\i4 ts h' tv u) ⟨v,if_pos rfl,kp hv⟩ λy nB q e=>(X.e5 y nB e).elim λu r=>aN u ((if_neg q).trans r.1) (kp r.2)
   e6:=λy e=>(if_neg (Gx e).1).trans (X.e6 y (Gx e).2)
   old:=λb o hb e=>hs.extBut b o hb (X.old b o hb e)
   sz:=YY X.sz (ZG hs.1.symm) }
theorem Ib {s:Y1}{l:List (Pos×Zb)}{x:Str}{v:Value}{tv:TV}{Q:Unit->Y1->Prop}{Er:Value->Y1->Prop}(cF:af.main.scope.kind=.module)(N:lF x)(X:i5 aL bD c Pl E lp s.heap mg ps ts l)(hv:i4 ts s.heap tv v)(hQ:∀h' tk,gW aL bD c Pl ((x,tv)::E) lp h'->Q () { s with heap:=h',toks:=tk }):Y7 (Y9 af wd) A (jdr (jcf af c F) x v) Q Er s :=
 jih (m:=mg) N.loc X.S.g (λh' hn hs=>hQ _ _ (X.store N.nb hv hn hs).r) (by
  show(af.main.scope.kind==.class||(af.main.scope.kind==.module&&Zm != Zm))=false;refine aa cF ?_;rfl)
theorem tW (cF:af.main.scope.kind=.module)(N:lF x)(R:gW aL bD c Pl E lp aX)(hk:gj aX s.heap)(hz:aX.objs.size<=s.heap.objs.size)(hv:∀ts,i4 ts s.heap tv v)(hQ:∀h' tk,gW aL bD c Pl ((x,tv)::E) lp h'->Q () { s with heap:=h',toks:=tk }):
 Y7 (Y9 af wd) A (jdr (jcf af c F) x v) Q Er s :=
 R.x.elim λmg r=>r.elim λps r=>r.elim λts r=>r.elim λl X=>Ib cF N (X.keeps hk hz) (hv ts) hQ
def mz (aL:jag)(bD:Str->Option Value)(c Pl F:Zb)(st:Stmt)(E:List (Str×TV))(lp:List Pos)(E':List (Str×TV))(SI:List Pos):Prop :=
 ∀(A:ZS) (s:Y1) (Q:jeu->Y1->Prop) (Er:Value->Y1->Prop),A.handled=none->0<s.toks->gW aL bD c Pl E lp s.heap->(∀h' tk,gW aL bD c Pl E' SI h'->Q .next { s with heap:=h',toks:=tk }) ->
  Y7 (Y9 af wd) A (ZX st (jcf af c F)) Q Er s
theorem WE (cF:af.main.scope.kind=.module)(N:lF x):mz aL bD c Pl F (.Assign [.Name x p] (.Constant (.int i) k q) r) E lp ((x,.int i)::E) lp:=by
 intro A s Q Er _ _ R h;refine jbr (jcx rfl λv tk hv=>?_) rfl;exact tW (tv:=.int i) cF N R (λY Y e=>e) (Y2 _) (λts=>hv) λh' tk R'=>h h' tk R'
theorem WG (cF:af.main.scope.kind=.module)(N:lF x):mz aL bD c Pl F (.Assign [.Name x p] (.Constant (.str i) k q) r) E lp ((x,.str i)::E) lp:=by
 intro A s Q Er _ _ R h;refine jbr (jcx rfl λv tk hv=>?_) rfl;exact tW (tv:=.str i) cF N R (λY Y e=>e) (Y2 _) (λts=>hv) λh' tk R'=>h h' tk R'
theorem i5.made (X:i5 aL bD c Pl E lp h mg ps ts l)(Qi:ob={ cls:=.type "function",dict:=none,data:=.func (fnX name name params body sc [] .none .none bG nm none (.ref c') .none) }) (hx:∀b o,b≠Pl->h.get? b=some o->aX.get? b=some o) (hz:h.objs.size<=aX.objs.size) (y3:jfJ aX c Pl) (y8:aX.get? Pl=some (jdG (ps++#[jdY pos.line,jdY pos.col,.ref c']))) (la:aX.CodeRec (.ref c') name) (hP:h.objs.size<=P') (y4:jfJ aX c' P') (ht:aX.get? P'=some (jdG #[])):
 i5 aL bD c Pl E (lp++[pos]) (aX.push ob) mg (ps++#[jdY pos.line,jdY pos.col,.ref c']) ((c',P')::ts) (l++[(pos,c')])/\i4 ((c',P')::ts) (aX.push ob) (.fn name params body sc) (.ref aX.objs.size):=by
 have up:∀{b o},aX.get? b=some o->(aX.push ob).get? b=some o:=λe=>Za _ e;have O9:Pl<h.objs.size:=Zr X.S.tab;have bd:(aX.push ob).objs.size=aX.objs.size+1:=ZL ..;have zn:Zm≠Pl:=jaz X.S.low.2;refine⟨{
  S:=?_
  e1:=by rewrite [triples_append];refine rwj X.e1 ?_;simp
  e2:=by refine aa ZO ?_;refine aa X.e2 ?_;rfl
  e3:=jaG.mpr ⟨λq=>(Zk.mp q).elim λt e=>Zo _ (be (X.e4 t e.1).2 (YY hP (ZG e.2.symm))),X.e3⟩
  e4:=jhn.mpr ⟨⟨jaP (be O9 hP),by refine aa bd ?_;exact jcS (Zr ht)⟩,λt ht=>⟨(X.e4 t ht).1,by refine aa bd ?_;exact jcS (be (X.e4 t ht).2 hz)⟩⟩
  e5:=λx tv e=>(X.e5 x tv e).elim λv r=>aN v r.1 (r.2.keeps X.S (λt ht=>(X.e4 t ht).1) (λb o hb Y e=>up (hx b o hb e)) λt ht=>Zt _ ht)
  e6:=X.e6
  old:=λb o hb e=>up (hx b o (λq=>ZT.mpr X.pl (q▸Zr e)) (X.old b o hb e))
  sz:=by refine aa bd ?_;exact jfw (YY X.sz hz)
  pl:=X.pl
  sys:=X.sys },aX.objs.size,_,c',P',rfl,?_,⟨bG,nm,.none,rfl⟩,la.push _,y4.keeps λb o e=>up e,up ht,Zc⟩
 ·refine pZ X.S.bmod λbm o b1 b2 b3 b4 b5 b6=>?_;exact⟨(X.S.g.extBut hx zn).push _,y3.keeps λb o e=>up e,up y8,by simpa using TriplesOk_snoc _ _ _ _ X.S.tri,X.S.low,bm,o,b1,b2,b3,b4,up (hx _ _ b4 b5),b6⟩
 ·refine aa Qi ?_;exact ZW _ rfl
theorem SV (T:gX mg c Pl ps s.heap)(zl:jcQ sc (jcf af c F)=pure [])(zA:codeAmong pos ps.toList=none)(h:∀c' P' aX tk bG nm,(∀b o,b≠Pl->s.heap.get? b=some o->aX.get? b=some o)->s.heap.objs.size<=aX.objs.size->jfJ aX c Pl->aX.get? Pl=some (jdG (ps++#[jdY pos.line,jdY pos.col,.ref c']))->aX.CodeRec (.ref c') name->s.heap.objs.size<=P'->jfJ aX c' P'->aX.get? P'=some (jdG #[]) ->
 Q (.ref aX.objs.size) { s with heap:=aX.push { cls:=.type "function",dict:=none,data:=.func (fnX name name params body sc [] .none .none bG nm none (.ref c') .none) },toks:=tk }):
 Y7 (Y9 af wd) A (makeFunction name name params (.stmts body) sc (jcf af c F) [] [] [] pos fl) Q Er s:=by
 rw[makeFunction_eq];simp only[jfd,List.filterMap_nil,jin,if_true,pure_bind];unfold makeTail;refine aa zl ?_;refine Y6 (Zu ?_);simp only[jin,if_true];refine Y6 (Zu (Y6 (wpAny_functionCodeX (env:=jcf af c F) rfl (T.code.code T.tab T.tri) (T.code.tab T.tab) zA λc' aX tk hx m4 aZ bY la FI dY=>?_)));refine fk dY λP' n1 n2 n3=>?_;have EZ:=T.g.extBut hx (jaz T.low.2);have hh:=λtk bG nm=>h c' P' aX tk bG nm hx (YY m4 (ZI aZ)) (jhM bY FI) FI.2 la n1 (jhM n2 n3) n3.2;refine DB T.bmod λbm o b1 b2 b3 b4 b5 b6 b7 b8=>?_;refine Y6 (wpAny_builtinsFor (globals:=Zm) EZ b1 b2 (hx _ _ b4 b5) b6 b7 b8 (Y6 (jiu (a:=Zm) EZ ?_)))
 induction docOf body using ae with
 |none=>exact Y6 (Zu (jfR (hh _ _ _) (by size_fits)))
 |some t=>exact Y6 (wpAny_mkText (jfR (hh _ _ _) (by size_fits)))
theorem WB (cF:af.main.scope.kind=.module)(N:lF name)(k0:params.defaults=[])(zq:params.kw_defaults=[])(ha:jha params none (jcf af c F)=[])(zl:jcQ sc (jcf af c F)=pure [])(kl:∀q∈lp,¬(q.line=pos.line/\q.col=pos.col)):mz aL bD c Pl F (.FunctionDef name params body [] none [] sc none name pos) E lp ((name,.fn name params body sc)::E) (lp++[pos]):=by
 intro A s Q Er _ _ R h;refine DC R.x λmg ps ts l X=>?_;have T:=X.S;refine nestDef_K k0 zq ha ?_;refine aa (show jdZ (jcf af c F) name name=name from N.qual) ?_;have zA:codeAmong pos ps.toList=none:=by
  refine aa X.e1 ?_;exact codeAmong_triples pos l λq hq=>kl q.1 (X.e2▸Zk.mpr ⟨q,hq,rfl⟩)
 refine SV T zl zA λc' P' aX tk bG nm hx hz y3 y8 la n1 y4 ht=>?_;have XM:=X.made (ob:=_) (bG:=bG) (nm:=nm) rfl hx hz y3 y8 la n1 y4 ht (params:=params) (body:=body) (sc:=sc);exact Ib cF N XM.1 XM.2 h
end
theorem BY:∀{l:List Arg},l.all (λa=>a.annotation.isNone)=true->annotationsOf l ab=[]
 | [],_=>rfl
 |⟨_,none,_⟩::l,h=>BY (l:=l) h
 |⟨_,some _,_⟩::_,h=>nomatch (show false=true from h)
theorem Ji (h1:params.args.all (λa=>a.annotation.isNone)=true)(h2:params.posonlyargs=[])(h3:params.vararg=none)(h4:params.kwonlyargs=[])(h5:params.kwarg=none):jha params none ab=[]:=by
 obtain⟨po,a,va,ko,kd,R3,d⟩:=params;cases(h2:po=[]);cases(h3:va=none);cases(h4:ko=[]);cases(h5:R3=none);unfold jha;show annotationsOf (a++[]++[]++[]++[]) ab++_=[];rw[ZZ,ZZ,ZZ,ZZ,BY h1];rfl
inductive nE:List (Option Expr)->List Expr->List (Int×Str)->Prop
 |nil:nE [] [] []
 |cons {k:Int}{x:Str}{u u':Nat}{p p':Pos}{ks:List (Option Expr)}{vs:List Expr}{l:List (Int×Str)} (r:nE ks vs l):nE (some (.Constant (.int k) u p)::ks) (.Constant (.str x) u' p'::vs) ((k,x)::l)
def CA:(ks:List (Option Expr))->(vs:List Expr)->Option { l:List (Int×Str)//nE ks vs l }
 | [],[]=>some ⟨[],.nil⟩
 |some (.Constant (.int k) _ _)::ks,.Constant (.str x) _ _::vs=>match CA ks vs with
  |some ⟨l,h⟩=>some ⟨(k,x)::l,.cons h⟩
  |none=>none
 |_,_=>none
def nw:List (Int×Str)->Bool
 |a::b::l=>decide (a.1<b.1)&&nw (b::l)
 |_=>true
theorem HL:nw (a::b::l)=(decide (a.fst<b.fst)&&nw (b::l)):=rfl
theorem HJ:∀{a:Int×Str}{l:List (Int×Str)},nw (a::l)=true->∀b∈l,a.1<b.1
 |a,[],_=>λb hb=>nomatch hb
 |a,c::l,h=>λb hb=>by
  rw[HL]at h;rw[Zs]at h;have h1:=of_decide_eq_true h.1;rcases ZM.mp hb with rfl|hb
  ·exact h1
  ·exact Int.lt_trans h1 (HJ h.2 b hb)
theorem HK:∀{l:List (Int×Str)},nw l=true->(l.map (·.1)).Nodup
 | [],_=>jaM
 | [a],_=>by simp
 |a::b::l,h=>by
  have h0:=h;rw[HL]at h;rw[Zs]at h;rw[Zy,jaG];refine⟨λq=>?_,HK h.2⟩;refine au (Zk.mp q) λe he e1=>?_;have:=HJ h0 e he
  lia
section
def vY (ab:Env)(pos:Pos)(ks:List (Option Expr))(vs:List Expr):List (Option (Sem Value)×Sem Value):=(evalEachOpt ks ab).zip ((evalEach vs ab).map λv=>do let x <-v;jfi pos;pure x)
theorem LI (h:nE ks vs l):
 ∃ps,vY ab pos ks vs=ps.map (λp=>(some p.1,p.2))/\eW (jal af wd) A hh ps (l.map λe=>(e.1,λu=>∃t,u=.str e.2 t)):=by
 induction h with
 |nil=>exact aN [] rfl (.nil)
 | @cons k x u1 u2 p1 p2 ks vs m _ ih =>
  refine au ih λps e1 e2=>?_;refine aN ((Z7 (.Constant (.int k) u1 p1) ab,do let x <-Z7 (.Constant (.str x) u2 p2) ab;jfi pos;pure x)::ps) (congrArg (_::·) e1) (.cons (λE s Q hx hQ=>?_) e2);refine jcx rfl λv tk hv=>Y6 (jcx rfl λu iu hu=>Y6 (jaT (Zu ?_)));refine aW (show∃t,v=.int k t from hv) ?_;rintro t rfl;exact hQ _ _ _ (jea _ _ _ _) hu
theorem WC (cF:af.main.scope.kind=.module)(N:lF x)(hl:nE ks vs l)(hs:nw l=true)(aO:l.length<=1000)(cV:l≠[]):
 mz aL bD c Pl F (.Assign [.Name x p] (.Dict ks vs q) r) E lp ((x,.dictI l)::E) lp:=by
 intro A s Q Er _ _ R h;refine au (LI (A:=A) (ab:=jcf af c F) (pos:=q) (hh:=s.heap) hl) λps e1 e2=>?_;refine jbr ?_ (by rfl);rw[arm_eval_Dict];refine Y6 (jaT ?_);have iK:Z'<s.heap.objs.size:=be R.sys R.sz;have oy:=e2.length;rw[YX]at oy;show Y7 (Y9 af wd) A (jgE (vY (jcf af c F) q ks vs)) _ Er _;rw[e1];refine CW e2 iK (wK oy aO) (λq=>?_) ?_ λD aJ h' tk g1 g2 g3 g4 g5=>?_
 ·subst q;exact cV (Z3.mp oy.symm)
 ·rw[ZF];exact HK hs
 ·have hg:Zm<s.heap.objs.size:=by
   refine n6 R.ex λmg ps ts l T Y=>?_;exact T.g.lt
  exact tW (tv:=.dictI l) cF N R g4 g5 (λts=>⟨D,aJ,rfl,jaP (be hg g1),beq_eq_false_iff_ne.mpr (jaP (be iK g1)),g3,g2⟩) λh' tk R'=>h h' tk R'
inductive nJ (E:List (Str×TV)):List (Option Expr)->List Expr->List (Str×Int)->Prop
 |nil:nJ E [] [] []
 |cons {k x:Str}{i:Int}{u:Nat}{p p':Pos}{ks:List (Option Expr)}{vs:List Expr}{l:List (Str×Int)} (hx:E.lookup x=some (.int i)) (hd:(x==("__debug__" : Str))=false) (r:nJ E ks vs l):
  nJ E (some (.Constant (.str k) u p)::ks) (.Name x p'::vs) ((k,i)::l)
def RE (E:List (Str×TV))(x:Str):Option { i:Int//E.lookup x=some (.int i) }:=match E.lookup x with
 |some (.int i)=>some ⟨i,rfl⟩
 |_=>none
def GP (E:List (Str×TV)):(ks:List (Option Expr))->(vs:List Expr)->Option { l:List (Str×Int)//nJ E ks vs l }
 | [],[]=>some ⟨[],.nil⟩
 |some (.Constant (.str k) _ _)::ks,.Name x _::vs=>match RE E x with
  |some ⟨i,hx⟩=>if hd:(x==("__debug__" : Str))=false then(match GP E ks vs with
   |some ⟨l,h⟩=>some ⟨(k,i)::l,.cons hx hd h⟩
   |none=>none)else none
  |none=>none
 |_,_=>none
theorem LL (cF:af.main.scope.kind=.module)(R:gW aL bD c Pl E lp hh)(h:nJ E ks vs l):
 ∃ps,vY (jcf af c F) pos ks vs=ps.map (λp=>(some p.1,p.2))/\eW (strKind af wd) A hh ps (l.map λe=>(e.1,λu=>∃t,u=.int e.2 t)):=by
 refine n7 R.ex λmg qs ts l T Y Y Y Y e5 Y=>?_;clear R
 induction h with
 |nil=>exact aN [] rfl (.nil)
 | @cons k x i u1 p1 p2 ks vs m hx hd _ ih =>
  refine au ih λps e1 e2=>?_;refine aN ((Z7 (.Constant (.str k) u1 p1) (jcf af c F),do let x <-Z7 (.Name x p2) (jcf af c F);jfi pos;pure x)::ps) (congrArg (_::·) e1) (.cons (λEr s Q hk hQ=>?_) e2);obtain⟨v,hv,tv,rfl⟩:=e5 x _ hx;refine jcx rfl λu tk hu=>Y6 (jfB cF rfl (jeU (mg:=mg) ((T.keeps hk).g) hv (Y6 (jaT (Zu ?_)))) hd);refine aW (show∃t,u=.str k t from hu) ?_;rintro t rfl;exact hQ _ _ _ (strKind_is _ _ _ _) ⟨tv,rfl⟩
theorem WD (cF:af.main.scope.kind=.module)(N:lF x)(hl:nJ E ks vs l)(hs:(l.map (·.1)).Nodup)(aO:l.length<=1000)(cV:l≠[]):
 mz aL bD c Pl F (.Assign [.Name x p] (.Dict ks vs q) r) E lp ((x,.dictS l)::E) lp:=by
 intro A s Q Er _ _ R h;refine au (LL (A:=A) (F:=F) (pos:=q) cF R hl) λps e1 e2=>?_;refine jbr ?_ (by rfl);rw[arm_eval_Dict];refine Y6 (jaT ?_);have iK:Z'<s.heap.objs.size:=be R.sys R.sz;have oy:=e2.length;rw[YX]at oy;show Y7 (Y9 af wd) A (jgE (vY (jcf af c F) q ks vs)) _ Er _;rw[e1];refine CW e2 iK (wK oy aO) (λq=>?_) ?_ λD aJ h' tk g1 g2 g3 g4 g5=>?_
 ·subst q;exact cV (Z3.mp oy.symm)
 ·rw[ZF];exact hs
 ·have hg:Zm<s.heap.objs.size:=by
   refine n6 R.ex λmg ps ts l T Y=>?_;exact T.g.lt
  exact tW (tv:=.dictS l) cF N R g4 g5 (λts=>⟨D,aJ,rfl,jaP (be hg g1),beq_eq_false_iff_ne.mpr (jaP (be iK g1)),g3,g2⟩) λh' tk R'=>h h' tk R'
end
inductive nH:List Expr->List Int->Prop
 |nil:nH [] []
 |cons {k:Int}{u:Nat}{p:Pos}{es:List Expr}{l:List Int} (r:nH es l):nH (.Constant (.int k) u p::es) (k::l)
def F4:(es:List Expr)->Option { l:List Int//nH es l }
 | []=>some ⟨[],.nil⟩
 | .Constant (.int k) _ _::es=>match F4 es with
  |some ⟨l,h⟩=>some ⟨k::l,.cons h⟩
  |none=>none
 |_=>none
section
abbrev φ0:Gh:=λY Y=>False
abbrev P0:Zb->Prop:=λY=>True
theorem H9 (h:0<s.toks):aV φ0 s:=⟨λY Y Y h=>h.elim,λY Y h=>h.elim,λY Y h=>h.elim,h⟩
theorem OE:fD s P0:=λY Y=>trivial
theorem F5 (h:nH es is):∀{s:Y1},
 Y7 (Y9 af wd) A (jce (jcg pos (jao es ab))) (λxs s'=>(∃tk,s'={ s with toks:=tk })/\ar 0 φ0 s'.heap [] P0 (is.map .int) xs) ax s:=by
 induction h with
 |nil=>exact jdg ⟨⟨_,rfl⟩,.nil⟩
 | @cons k u p es is _ ih =>
  intro s;refine jcy (jcx rfl λv tk hv=>?_) rfl;refine aW (show∃t,v=.int k t from hv) ?_;rintro t rfl;refine up ih λxs s' ⟨⟨iu,e⟩,r⟩=>?_;subst e;exact⟨⟨_,rfl⟩,.cons (.int _ _) r⟩
theorem z8:∀{is:List Int}{xs:List Value},ar 0 φ h [] P0 (is.map .int) xs->jie xs is
 | [],_,r=>by refine aa r.unnil ?_;exact .nil
 |i::is,_,r=>by
  refine bS r.uncons ?_;rintro x ys rfl a q;refine aW a.intv ?_;rintro t rfl;exact .cons i t (z8 q)
theorem RG (q:jie xs is)(r:jie ys js):jie (xs++ys) (is++js):=by
 induction q with
 |nil=>exact r
 |cons i t _ ih=>exact .cons i t ih
theorem Ay (cF:af.main.scope.kind=.module)(hg:s.heap.Ns Zm mg)(hn:mg x=none)(hb:s.heap.Ns jaa mb)(hv:mb x=some v)(hd:(x==("__debug__" : Str))=false) (h:Q v s):
 Y7 (Y9 af wd) A (Z7 (.Name x p) (jcf af c F)) Q Er s :=
 jfB cF rfl (jeM hg hn hb hv h) hd
theorem NX (ns:List Int)(k:Int):(firstMet (λi=>ns.getD i 0) ns.length).any (·==k)=ns.any (·==k):=by
 rw[firstMet_any]
 congr 1
 apply jei
 ·simp
 ·intro i h1 h2;simp at h1;simp[h2]
theorem WF (cF:af.main.scope.kind=.module)(N:lF x)(hl:nH es is)(Qy:fQ a b 1=some rs)(Qz:rs=gP a 1 (b-a).toNat)(aO:is.length+rs.length<=1000)(hb:aL.Ns jaa mb)(m1:mb "set" = some (.type "set")) (m2:mb "list" = some (.type "list")) (m3:mb "range" = some (.type "range")) (n1:E.lookup ("set" : Str)=none/\bD "set" = none) (n2:E.lookup ("list" : Str)=none/\bD "list" = none) (n3:E.lookup ("range" : Str)=none/\bD "range" = none):
 mz aL bD c Pl F (.Assign [.Name x p] (.Call (.Name "set" p1) [.BinOp (.List es p2) .Add (.Call (.Name "list" p3) [.Call (.Name "range" p4) [.Constant (.int a) k1 p5,.Constant (.int b) k2 p6] [] p7] [] p8) p9] [] pa) r) E lp ((x,.set is a b)::E) lp:=by
 intro A s Q Er hA jj R h;refine n7 R.ex λmg ps ts l T Y Y Y Y Y e6=>?_;have je:s.heap.Ns jaa mb:=hb.at' λo e=>R.old _ _ (by decide) e;refine jbr ?_ (by rfl);refine Call_ (Ay cF T.g ((e6 _ n1.1).trans n1.2) je m1 (by decide) (callWith_type1 (jcy ?_ rfl) rfl rfl));refine jcL (jcV (eF (jan (F5 hl) (λxs ak aX Xj=>?_) λY Y e=>e.elim)));refine bN aX λz2 aF=>?_;obtain⟨YJ,rfl⟩:=z2;have YE:xs.length=is.length:=by have:=aF.length;simpa using this.symm
 refine⟨d0 (by lia),?_⟩;have kp:∀{h':jag},gj s.heap h'->h'.Ns Zm mg/\h'.Ns jaa mb:=λk=>⟨T.g.keeps k,je.keeps k⟩
 generalize hH:s.heap.push { cls:=.type "list",data:=.seq xs.toArray }=H₂;have kH:gj s.heap H₂:=λb o e=>hH▸Za _ e;have hL:H₂.PlainList s.heap.objs.size xs.toArray:=hH▸oL s.heap;have bI:ar 0 φ0 H₂ [] P0 (is.map .int) xs:=aF.ext kH;refine Call_ (Ay cF (kp kH).1 ((e6 _ n2.1).trans n2.2) (kp kH).2 m2 (by decide) (callWith_type1 (jcy ?_ rfl) rfl rfl));refine Call_ (Ay cF (kp kH).1 ((e6 _ n3.1).trans n3.2) (kp kH).2 m3 (by decide) (callWith_type1 (eF (jan (F5 (.cons (.cons .nil))) (λys dk lc Xk=>?_) λY Y e=>e.elim)) rfl rfl));refine bN lc λz1 jn=>?_;obtain⟨Wt,rfl⟩:=z1;have I2:aV φ0 ({ s with heap:=H₂,toks:=Wt }:Y1):=H9 (be (be jj Xj.toks) Xk.toks);refine up (Hs (tk:=0) (β:=[]) (P:=P0) (A:=A) I2 (as:=[.int a,.int b]) (is:=rs) Qy jn) λv eE qq=>bN qq λBJ rv=>jdg ?_;refine up (Gu (tk:=0) (β:=[]) (P:=P0) hA BJ.tk OE rv) λYN dO ⟨wO,IV,wt⟩=>?_;have G':=BJ.trans IV;refine bB G'.grows.keeps λlf YL Nt qx=>?_;cases wt with
 | @lst _ l₅ ys hl₅ _ rl₅ =>
 have O8:dO.heap.PlainList s.heap.objs.size xs.toArray:=hL.at λo e=>G'.ext _ _ e;have vP:ys.length=rs.length:=by have:=rl₅.length;simpa using this.symm
 refine BX O8.isList hl₅.isList (d0 (by lia)) ?_;generalize y2:dO.heap.push { cls:=.type "list",data:=.seq (xs++ys).toArray }=H₆;have k6:gj dO.heap H₆:=λb o e=>y2▸Za _ e;have O6:H₆.PlainList dO.heap.objs.size (xs++ys).toArray:=y2▸oL dO.heap;refine jdg ?_;have hi:jie (xs++ys).toArray.toList (is++rs):=by
  refine aa jhw ?_;exact RG (z8 bI) (z8 rl₅)
 have Q2:s.heap.objs.size<=H₆.objs.size:=by
  have q1:H₂.objs.size=s.heap.objs.size+1:=by refine rwj hH ?_;refine aa (ZL _ _) ?_;rfl
  have q2:H₂.objs.size<=dO.heap.objs.size:=G'.grows.size;have q3:H₆.objs.size=dO.heap.objs.size+1:=by refine rwj y2 ?_;refine aa (ZL _ _) ?_;rfl
  lia
 refine call_set_list (l:=dO.heap.objs.size) (items:=(xs++ys).toArray) (ns:=is++rs) hA O6.isList hi ?_ λh' iu hS f8=>?_
 ·unfold scanBound;simp;lia
 ·have R1:gj s.heap h':=λb o e=>f8 b o (Zr (k6 _ _ (G'.ext _ _ (kH _ _ e)))) (k6 _ _ (G'.ext _ _ (kH _ _ e)));have Nu:dO={ s with heap:=dO.heap,toks:=dO.toks }:=by refine aa Nt ?_;rfl
  refine aa Nu ?_;refine tW (s:={ s with heap:=h',toks:=iu }) (tv:=.set is a b) cF N R R1 ?_ (λts=>⟨_,_,_,rfl,hS,λk=>?_⟩) λh' tk R'=>h h' tk R'
  ·refine n6 hS λo Y Y Y e Y=>?_;exact YY Q2 (ZI (Zr e))
  ·have:(xs++ys).toArray.size=(is++rs).length:=by simp;lia
   rw[this,NX,<-Qz]
end
def ig (p:jdj)(x:Str):Bool:=p.main.scope.names.lookup x==some .local&&x != ("__builtins__" : Str)
def wl (a:jbf)(sc:jax):Bool:=a.defaults.isEmpty&&a.kw_defaults.isEmpty&&a.args.all (λa=>a.annotation.isNone)&&a.posonlyargs.isEmpty&&a.vararg.isNone&&a.kwonlyargs.isEmpty&&a.kwarg.isNone&&sc.names.all (λx=>x.2 != .free)
def AN (lp:List Pos)(pos:Pos):Bool:=lp.all λq=>!(q.line==pos.line&&q.col==pos.col)
abbrev gF:=List (Str×TV)×List Pos
inductive jZ (p:jdj) (e:gF):Stmt->gF->Prop
 |int {x:Str}{i:Int}{k:Nat}{p1 p2 p3:Pos} (h:ig p x=true):jZ p e (.Assign [.Name x p1] (.Constant (.int i) k p2) p3) ((x,.int i)::e.1,e.2)
 |str {x i:Str}{k:Nat}{p1 p2 p3:Pos} (h:ig p x=true):jZ p e (.Assign [.Name x p1] (.Constant (.str i) k p2) p3) ((x,.str i)::e.1,e.2)
 |fn {name we:Str}{params:jbf}{body:List Stmt}{sc:jax}{pos:Pos} (hn:we=name) (h1:ig p name=true) (h2:wl params sc=true) (h3:AN e.2 pos=true):
  jZ p e (.FunctionDef name params body [] none [] sc none we pos) ((name,.fn name params body sc)::e.1,e.2++[pos])
 |dictI {x:Str}{ks:List (Option Expr)}{vs:List Expr}{l:List (Int×Str)}{p1 p2 p3:Pos} (hl:nE ks vs l) (h1:ig p x=true) (h2:nw l=true) (h3:l.length<=1000) (h4:l≠[]):jZ p e (.Assign [.Name x p1] (.Dict ks vs p2) p3) ((x,.dictI l)::e.1,e.2)
 |dictS {x:Str}{ks:List (Option Expr)}{vs:List Expr}{l:List (Str×Int)}{p1 p2 p3:Pos} (hl:nJ e.1 ks vs l) (h1:ig p x=true) (h2:(l.map (·.1)).Nodup) (h3:l.length<=1000) (h4:l≠[]):jZ p e (.Assign [.Name x p1] (.Dict ks vs p2) p3) ((x,.dictS l)::e.1,e.2)
 |set {x f g h:Str}{es:List Expr}{is:List Int}{a b:Int}{k1 k2:Nat}{p1 p2 p3 p4 p5 p6 p7 p8 p9 pa pb pc:Pos} (hl:nH es is) (h1:ig p x=true) (h2:f = "set" /\ g = "list" /\ h = "range") (h5:fQ a b 1=some (gP a 1 (b-a).toNat)) (h6:is.length+(gP a 1 (b-a).toNat).length<=1000)
  (h7:e.1.lookup ("set" : Str)=none/\e.1.lookup ("list" : Str)=none/\e.1.lookup ("range" : Str)=none):
  jZ p e (.Assign [.Name x p1] (.Call (.Name f p2) [.BinOp (.List es p3) .Add (.Call (.Name g p4) [.Call (.Name h p5) [.Constant (.int a) k1 p6,.Constant (.int b) k2 p7] [] p8] [] p9) pa] [] pb) pc) ((x,.set is a b)::e.1,e.2)
theorem GZ {α:Type}{l:List α}(h:l.isEmpty=false):l≠[]:=λq=>nomatch (q▸h:([]:List α).isEmpty=false)
theorem AD {α:Type}{o:Option α}(h:o.isNone=true):o=none:=jck.mp h
def Vh (p:jdj)(e:gF)(x:Str)(px:Pos)(l:List Expr)(pl:Pos)(gn:Str)(pg:Pos)(AL:Pos)(pos:Pos)(f:Str)(pf pb pc:Pos):(c:Expr)->Option { e':gF//jZ p e (.Assign [.Name x px] (.Call (.Name f pf) [.BinOp (.List l pl) .Add (.Call (.Name gn pg) [c] [] AL) pb] [] pc) pos) e' }
 | .Call (.Name h _) [.Constant (.int a) _ _,.Constant (.int b) _ _] [] _=>match F4 l with
  |some ⟨is,hl⟩=>if q:((ig p x=true/\f=("set" : Str)/\gn=("list" : Str)/\h=("range" : Str))/\fQ a b 1=some (gP a 1 (b-a).toNat)/\is.length+(gP a 1 (b-a).toNat).length<=1000) /\
   (e.1.lookup ("set" : Str)).isNone=true/\(e.1.lookup ("list" : Str)).isNone=true/\(e.1.lookup ("range" : Str)).isNone=true then some ⟨_,.set hl q.1.1.1 q.1.1.2 q.1.2.1 q.1.2.2 ⟨AD q.2.1,AD q.2.2.1,AD q.2.2.2⟩⟩else none
  |none=>none
 |_=>none
def Vg (p:jdj)(e:gF)(x:Str)(px pos:Pos)(f:Str)(pf pb pc:Pos):(l r:Expr)->Option { e':gF//jZ p e (.Assign [.Name x px] (.Call (.Name f pf) [.BinOp l .Add r pb] [] pc) pos) e' }
 | .List l pl,.Call (.Name gn pg) [c] [] AL=>Vh p e x px l pl gn pg AL pos f pf pb pc c
 |_,_=>none
def Jq (p:jdj)(e:gF)(x:Str)(px pos:Pos):(v:Expr)->Option { e':gF//jZ p e (.Assign [.Name x px] v pos) e' }
 | .Constant (.int i) _ _=>if h:ig p x=true then some ⟨_,.int h⟩else none
 | .Constant (.str i) _ _=>if h:ig p x=true then some ⟨_,.str h⟩else none
 | .Dict ks vs _=>match CA ks vs with
  |some ⟨l,hl⟩=>if h:((ig p x=true/\nw l=true)/\l.length<=1000)/\l.isEmpty=false then some ⟨_,.dictI hl h.1.1.1 h.1.1.2 h.1.2 (GZ h.2)⟩else none
  |none=>match GP e.1 ks vs with
   |some ⟨l,hl⟩=>if h:((ig p x=true/\(l.map (·.1)).Nodup)/\l.length<=1000)/\l.isEmpty=false then some ⟨_,.dictS hl h.1.1.1 h.1.1.2 h.1.2 (GZ h.2)⟩else none
   |none=>none
 | .Call (.Name f pf) [.BinOp l .Add r pb] [] pc=>Vg p e x px pos f pf pb pc l r
 |_=>none
def Wz (p:jdj)(e:gF):(st:Stmt)->Option { e':gF//jZ p e st e' }
 | .Assign [.Name x px] v pos=>Jq p e x px pos v
 | .FunctionDef name params body [] none [] sc none we pos=>if hn:we=name then(if h:(ig p name=true/\wl params sc=true)/\AN e.2 pos=true then some ⟨_,.fn hn h.1.1 h.1.2 h.2⟩else none)else none
 |_=>none
def wC (p:jdj):List Stmt->gF->Option gF
 | [],e=>some e
 |s::ss,e=>(Wz p e s).bind λr=>wC p ss r.1
section
variable {A:ZS}{s:Y1}{h h' aL hh:jag}{mg bD mb:Str->Option Value}{c Pl F:Zb}{ps:Array Value}{ts tZ:List (Zb×Zb)}{E:List (Str×TV)}{lp:List Pos}{ab:Env}
theorem qE {x:Str}(h:ig af x=true):lF x:=by
 unfold ig at h;rw[Zs]at h;have hl:=eq_of_beq h.1;refine⟨hl,by simpa using h.2,?_⟩;unfold jdZ;have:(({ scope:=af.main.scope,locals:=Zm,globals:=Zm,cells:=[] }:Env).kindOf x)=some .local:=hl;refine aa this ?_;refine aa (if_neg (by decide)) ?_;show("" : Str)++x=x;apply jht;refine aa (jiU _ _) ?_;simp;rfl
theorem Tw {sc:jax}{ab:Env}(h:sc.names.all (λx=>x.2 != .free)=true):jcQ sc ab=pure []:=by
 simp only[jcQ];refine aa (forIn_yield_id [] (λx hx c=>by
  obtain⟨n,kind⟩:=x;rw[Y3]at h;have:=h _ hx;have:(kind==jac)=false:=by simpa using this
  simp only[this,jcE,if_false])) ?_
 rfl
structure Names0 (aL:jag) (bD mb:Str->Option Value):Prop where
 b:aL.Ns jaa mb
 m1:mb "set" = some (.type "set")
 m2:mb "list" = some (.type "list")
 m3:mb "range" = some (.type "range")
 n1:bD "set" = none
 n2:bD "list" = none
 n3:bD "range" = none
theorem LA {name:Str}{params:jbf}{body:List Stmt}{sc:jax}{pos:Pos}(cF:af.main.scope.kind=.module)(h1:ig af name=true)(h3:wl params sc=true)(h4:AN lp pos=true):
 mz aL bD c Pl F (.FunctionDef name params body [] none [] sc none name pos) E lp ((name,.fn name params body sc)::E) (lp++[pos]):=by
 unfold wl at h3;simp only[Zs,jda,jck]at h3;refine bN h3 λz1 d8=>?_;obtain⟨⟨⟨⟨⟨⟨d1,d2⟩,d3⟩,d4⟩,d5⟩,d6⟩,d7⟩:=z1;refine WB cF (qE h1) d1 d2 (Ji d3 d4 d5 d6 d7) (Tw d8) λq hq ⟨a,b⟩=>?_;have:=Y3.mp h4 q hq;rw[a,b,beq_self_eq_true,beq_self_eq_true]at this;exact bP this
theorem VL (cF:af.main.scope.kind=.module)(N:Names0 aL bD mb){e e':gF}{st:Stmt}(h:jZ af e st e'):mz aL bD c Pl F st e.1 e.2 e'.1 e'.2:=by
 cases h with
 |int h=>exact WE cF (qE h)
 |str h=>exact WG cF (qE h)
 |fn hn h1 h2 h3=>refine aa hn ?_;exact LA cF h1 h2 h3
 |dictI hl h1 h2 h3 h4=>exact WC cF (qE h1) hl h2 h3 h4
 |dictS hl h1 h2 h3 h4=>exact WD cF (qE h1) hl h2 h3 h4
 |set hl h1 h2 h5 h6 h7 =>
  refine aa h2.1 ?_;refine aa h2.2.1 ?_;refine aa h2.2.2 ?_;exact WF cF (qE h1) hl h5 rfl h6 N.b N.m1 N.m2 N.m3 ⟨h7.1,N.n1⟩ ⟨h7.2.1,N.n2⟩ ⟨h7.2.2,N.n3⟩
theorem VM (cF:af.main.scope.kind=.module)(N:Names0 aL bD mb)(hA:A.handled=none){e':gF}{Q:jeu->Y1->Prop}{Er:Value->Y1->Prop}:∀{gQ:List Stmt}{e:gF}{s:Y1},wC af gQ e=some e'->0<s.toks->gW aL bD c Pl e.1 e.2 s.heap ->
 (∀h' tk,gW aL bD c Pl e'.1 e'.2 h'->s.toks<=tk->Q .next { s with heap:=h',toks:=tk })->Y7 (Y9 af wd) A (ZJ gQ (jcf af c F)) Q Er s:=by
 intro gQ
 induction gQ with
 |nil =>
  intro e s h ht R hQ;exact jaX (hQ s.heap s.toks (Y0 h▸R) (Y2 _))
 |cons st gQ ih =>
  intro e s h ht R hQ;refine au (jgy.mp h) λr Y h=>?_;exact Zv (eF (VL cF N r.2 A s _ _ hA ht R λh' tk R' u=>ih h (be ht u.toks) R' λhV iu I4 eS=>hQ hV iu I4 (YY u.toks eS)))
end
abbrev pw:jdj:=jcF
def wB:Option gF:=wC pw pw.main.body ([],[])
theorem Wy:wB.isSome=true:=by decide +kernel
def eM:List (Str×TV):=(wB.getD ([],[])).1
def r6:List Pos:=(wB.getD ([],[])).2
theorem Wx:wC pw pw.main.body ([],[])=some (eM,r6):=by
 have:=Wy;unfold eM r6
 induction h:wB using ae with
 |none=>rw[h]at this;cases this
 |some e=>exact h
def LO:PySem.Step->Bool
 | .halt (.done _) _=>true
 |_=>false
theorem VK {fE:Code->Sem Fin}{p:jdj}{heap:jag}{gens:Array GenState}{drawn:Drawn}{toks:Tok}{os:OsState}{cur:Sem Fin}{code:Code}{pos:Pos}{stack:List Frame}:
 LO (step fE p wd ⟨heap,gens,drawn,toks,os⟩ ⟨cur,code,pos,stack⟩)=true->through ⟨cur,code,pos,stack⟩=true:=by
 cases cur with
 |pure a =>
  cases a with
  |done f' =>
   induction stack using YZ with
   |nil=>exact λY=>rfl
   |cons fr az=>cases fr<;>exact λh=>bP h
  |again c=>exact λh=>bP h
 |raise e =>
  induction stack using YZ with
  |nil=>delta step finish;dsimp only;cases jdI gens<;>exact λh=>bP h
  |cons fr az=>cases fr<;>exact λh=>bP h
 |load a _ k=>delta step;dsimp only;cases heap.get? a<;>exact λh=>bP h
 |genState g k=>delta step;dsimp only;cases gens[g]?<;>exact λh=>bP h
 |finish e=>delta step;dsimp only;cases jdI gens<;>exact λh=>bP h
 |update a _ f k=>delta step;dsimp only;cases(heap.get? a).isSome<;>exact λh=>bP h
 |choose src n k=>delta step;dsimp only;cases n<;>exact λh=>bP h
 | «yield» v l p k=>delta step;dsimp only;cases splitAtGen stack<;>exact λh=>bP h
 |resume g r l k =>
  delta step;dsimp only
  induction gens[g]? using ae with
  |none=>exact λh=>bP h
  |some st =>
   cases st<;>first|exact λh=>bP h|skip
   ·cases r with
    |throw e=>exact λh=>bP h
    |send v=>cases v<;>exact λh=>bP h
 |_=>exact λh=>bP h
theorem Wr {fE:Code->Sem Fin}{p:jdj}{s s':Y1}{t:Thread}{f:jeu}(h:step fE p wd s t=.halt (.done f) s'):through t=true :=
 VK (fE:=fE) (p:=p) (heap:=s.heap) (gens:=s.gens) (drawn:=s.drawn) (toks:=s.toks) (os:=s.os) (by refine aa (show step fE p wd ⟨s.heap,s.gens,s.drawn,s.toks,s.os⟩ ⟨t.cur,t.code,t.pos,t.stack⟩=.halt (.done f) s' from h) ?_;rfl)
theorem Hz:∀{n:Nat}{s:Y1}{t:Thread},runN fE p wd n s t=.halted (.done f) s'->∃m gi,runN fE p wd m s t=.running s' gi/\through gi=true
 |0,s,t,h=>by cases h
 |n+1,s,t,h=>by
  unfold runN at h;cases hs:step fE p wd s t with
  |go ak gi =>
   rw[hs]at h;refine bB (Hz h) λm oW h1 h2=>?_;exact cZ (m+1) oW (by unfold runN;refine aa hs ?_;exact h1) h2
  |halt o ak =>
   rw[hs]at h;have e1:o=.done f:=by injection h
   have e2:ak=s':=by injection h
   subst e1 e2;have:=step_halt_same (den:=fE) (prog:=p) (w:=wd) _ _ _ _ hs;subst this;exact cZ 0 t rfl (Wr hs)
theorem HB:∀{m:Nat}{s:Y1}{t:Thread},s.asleep->(∀k ak gi,runN fE p wd k s t=.running ak gi->gi.calm=true)->runN fE p wd m s t=.running s' t'->schedN fE p wd m (.single s t)=.running (.single s' t')
 |0,s,t,_,_,h=>by
  injection h with h1 h2
  subst h1 h2;rfl
 |m+1,s,t,hz,hc,h=>by
  unfold runN at h;cases hs:step fE p wd s t with
  |go ak gi =>
   rw[hs]at h;have Pp:=hc 0 s t rfl;have e:sstep fE p wd (.single s t)=.go (.single ak gi):=by
    rcases sstep_single (den:=fE) (prog:=p) (w:=wd) s t Pp hz with e|e
    ·refine aa e ?_;refine aa hs ?_;rfl
    ·rw[hs]at e;cases e
   unfold schedN;refine aa e ?_;refine HB (jgQ (step_life fE p wd s ak t gi hs) hz) (λk aC oW hk=>hc (k+1) aC oW ?_) h;unfold runN;refine aa hs ?_;exact hk
  |halt o ak=>rw[hs]at h;cases h
theorem Wq {t:Sem Fin}{s:Y1}{f:jeu}{R:Y1->Prop}(Qt:s.asleep)(h:Y7 (Y9 af wd) jhS t (λfin s'=>fin=.done f/\R s'/\jdI s'.gens=false) (λY Y=>False) s):
 ∃n gi s' cO,schedN (denote table) af wd n (.single s ⟨t,.builtin "claim.caller" {},default,[]⟩)=.running (.single s' gi)/\through gi=true/\s'.forget=cO.forget/\R cO/\s'.heap.life=s.heap.life:=by
 have h':=wp_of_wpAny_done (R:=λr s'=>(r=.ok f/\R s')/\jdI s'.gens=false) caller_in
  (jan h (λY Y qq=>fY qq λe a b=>lh f e ⟨rfl,a⟩ b) λY Y x=>x.elim) default
 refine uV ((wp_iff_halts (M:=Y9 af wd) (R:=λr s'=>r=.ok f/\R s') ..).mp h') λn r ak hn hR=>?_;refine fk (runNI_real _ _ _ hn (outcomeOf_ends r)) λaC hr hf hc=>?_;refine bN hR ?_;rintro rfl hR;refine bB (Hz hr) λm gi h1 h2=>?_;exact zZ m gi aC ak (HB Qt hc h1) h2 hf hR (runN_life _ _ _ hr)
structure BF (aL:jag) (bD mb:Str->Option Value):Prop extends Names0 aL bD mb where
 g:aL.Ns Zm bD
 bmod:∃bm o,bD "__builtins__" = some (.ref bm)/\bm≠jaa/\bm≠Zm/\aL.get? bm=some o/\o.cls=.type "module" /\ o.dict=some jaa/\o.data=.plain
 sys:Z'<aL.objs.size
def wD (p:jdj):Sem Fin:=do
 let code <-moduleCode p.main;let frame <-newBodyFrame code mainNs mainNs;let _ <-run (.body (behindTheImports p) { scope:=p.main.scope,locals:=mainNs,globals:=mainNs,cells:=[],code,frame:=some frame })
 ret .none
theorem WA (p:jdj):topStub p=⟨wD p,.builtin "claim.caller" {},default,[]⟩:=rfl
theorem JJ:behindTheImports pw=pw.main.body:=by rfl
theorem WH (B:BF s.heap bD mb)(ht:0<s.toks):
 Y7 (Y9 pw wd) jhS (wD pw) (λfin s'=>fin=.done (.ret .none)/\∃h tk c Pl,s'={ s with heap:=h,toks:=tk }/\0<tk/\gW s.heap bD c Pl eM r6 h) (λY Y=>False) s:=by
 unfold wD moduleCode;refine Y6 (Y6 (wpAny_fresh (eF (wpAny_newCodeX λc P h' tk hk hc hP mY FH Y u=>?_))));unfold newBodyFrame;have hg:h'.Ns Zm bD:=B.g.keeps hk;refine Y6 (Y6 (jiu (a:=Zm) hg (jiw ?_)));dsimp only;generalize hH:h'.push _=H;have zt:gj s.heap H:=λb o e=>hH▸Za _ (hk b o e);have sO:∀b o,h'.get? b=some o->H.get? b=some o:=λb o e=>hH▸Za _ e;have jj:0<tk:=be (jhc _) u.toks;have EX:Zm<s.heap.objs.size:=B.g.lt;have Pt:s.heap.objs.size<=c:=hc;have y7:s.heap.objs.size<=P:=hP;have R:gW s.heap bD c P [] [] H:=by
  refine DA B.bmod λbm o b1 b2 b3 b4 b5=>?_;refine⟨⟨bD,#[],[],[],⟨B.g.keeps zt,(jhM mY FH).keeps sO,sO _ _ FH.2,trivial,⟨be EX Pt,be EX y7⟩,bm,o,b1,b2,b3,λq=>ZT.mpr y7 (q▸Zr b4),zt _ _ b4,b5⟩,rfl,rfl,jaM,(λt ht=>nomatch ht),(λx tv hx=>nomatch hx),λY Y=>rfl⟩,λb o Y e=>zt b o e,?_,y7,B.sys⟩;have q1:H.objs.size=h'.objs.size+1:=by refine rwj hH ?_;refine aa (ZL _ _) ?_;rfl
  have q2:s.heap.objs.size<=h'.objs.size:=u.size
  lia
 refine aa JJ ?_;refine Y6 (wpAny_run (codeAny_body (by rfl) (by rfl) ?_));refine VM (F:=h'.objs.size) (by rfl) B.toNames0 (by rfl) Wx jj R λcy Ws bW QP=>?_;exact Zu ⟨rfl,cy,Ws,c,P,rfl,be jj QP,bW⟩
theorem JY (P:jdK):(jad P).isNs Zm=true:=by kernel_rfl
theorem Cb (P:jdK):(jad P).isNs jaa=true:=by kernel_rfl
theorem JX (P:jdK):(jad P).isNs jeb=true:=by kernel_rfl
theorem JU (P:jdK):(jad P).nsKeys jeb=[]:=by kernel_rfl
theorem JT (P:jdK):(jad P).nsMap Zm "__builtins__" = some (.ref 4):=by kernel_rfl
theorem JS (P:jdK):(jad P).get? 4=some { cls:=.type "module",dict:=some jaa }:=by kernel_rfl
theorem JZ (P:jdK):decide (Z'<(jad P).objs.size)=true:=by kernel_rfl
theorem JW (P:jdK):((jad P).nsKeys Zm).all (λk=>jfU.contains k)=true:=by kernel_rfl
theorem J2 (P:jdK):(jad P).bltView=bltViewBooted:=by kernel_rfl
theorem pA (P:jdK)(x:Str)(h:x ≠ "__name__"):(jad P).nsMap jaa x=jhT x:=Heap.of_bltView (Cb P) (J2 P) x h
theorem rK (P:jdK)(h:jfU.contains x=false):(jad P).nsMap Zm x=none:=jiK λhk=>by
 have:=Y3.mp (JW P) x hk;rw[h]at this;cases this
theorem J0:0<boot_toks:=by decide
theorem uB (P:jdK):(jad P).Ns jeb (λY=>none):=by
 have h:=jfx (JX P);have:(jad P).nsMap jeb=λY=>none:=by
  funext x;exact jiK (by refine aa (JU _) ?_;exact λq=>nomatch q)
 rw[this]at h;exact h
theorem xp (P:jdK):BF (jad P) ((jad P).nsMap Zm) ((jad P).nsMap jaa) where
 b:=jfx (Cb P)
 m1:=(pA P _ (by decide)).trans (by decide +kernel)
 m2:=(pA P _ (by decide)).trans (by decide +kernel)
 m3:=(pA P _ (by decide)).trans (by decide +kernel)
 n1:=rK P (by decide +kernel)
 n2:=rK P (by decide +kernel)
 n3:=rK P (by decide +kernel)
 g:=jfx (JY P)
 bmod:=Rt 4 _ (JT P) (by decide) (by decide) (JS P) rfl rfl rfl
 sys:=of_decide_eq_true (JZ P)
theorem UN:opening pw=plainProg pw.main.scope.names:=by rfl
theorem AR (s:Y1):fenceModules? pw s=some s:=by rfl
theorem u9 (hn:h.Ns Zm mg)(x:Str):globalOf h x=mg x:=jep hn x
structure ut (ak:Y1):Prop where
 top:∃c Pl,gW (jad wd.params) ((jad wd.params).nsMap Zm) c Pl eM r6 ak.heap
 gens:ak.gens=#[]
 toks:0<ak.toks
theorem L4:eM.all (λe=>pw.boundNames.contains e.1)=true:=by decide +kernel
theorem L8:laidNames.all (λx=>(eM.lookup x).isNone)=true:=by decide +kernel
theorem SH {γ:Type}{x:Str}{v:γ}:∀{l:List (Str×γ)},l.lookup x=some v->(x,v)∈l:=λh=>mem_of_lookup h
theorem head:(∃s,AfterRun (opening pw) wd s)/\∀s,AfterRun (opening pw) wd s->∃ff,fenceModules? pw s=some ff/\ff.gens=#[]/\∃ak,TopRan pw wd ff ak/\ak.asleep/\ut ak:=by
 refine au (Zp.mp (boot_open (p:=pw) (N:=600) UN (by decide) AR wd)) λff h0 hv=>?_;unfold fencedOpening at h0;refine au (jgy.mp h0) λs h1 h2=>?_;rw[AR]at h2;have zI:s=ff:=Y0 h2;subst zI;rw[<-table_eq_tree]at h1;have A:AfterImport (opening pw) wd s:=AfterImport.of_importEnds h1;refine⟨⟨s,A⟩,λs' ei=>?_⟩;obtain rfl:s'=s:=AfterImport.unique ei A;have e1:s'.heap=jad wd.params:=congrArg (·.1) hv;have e2:s'.gens=#[]:=congrArg (·.2.1) hv;have e3:s'.toks=boot_toks:=congrArg (·.2.2.2) hv;have B:=xp wd.params;rw[<-e1]at B;have hz:s'.asleep:=A.life;obtain⟨n,gi,ak,aC,r1,r2,r3,r4,r5⟩:=Wq (t:=wD pw) (s:=s') (f:=.ret .none) (R:=λcO=>∃h tk c Pl,cO={ s' with heap:=h,toks:=tk }/\0<tk/\gW s'.heap ((jad wd.params).nsMap Zm) c Pl eM r6 h) hz
  (jan (WH (bD:=(jad wd.params).nsMap Zm) (mb:=(jad wd.params).nsMap jaa) (e1▸B) (by refine aa e3 ?_;exact J0)) (λfin cO ⟨a,h,tk,c,Pl,b,d,e⟩=>cz a ⟨h,tk,c,Pl,b,d,e⟩ (by refine aa b ?_;show jdI s'.gens=false;refine aa e2 ?_;decide +kernel)) λY Y x=>x)
 refine ka r4 ?_;rintro h tk c Pl rfl jj T;have es:ak={ s' with heap:=h,toks:=tk }:=Shared.eq_of_forget_eq r3 e2;subst es;have he:(jad wd.params)=s'.heap:=e1.symm;have T':=T;rw[e1]at T';refine⟨s',AR s',e2,_,⟨⟨n,gi,by refine aa (WA _) ?_;exact r1,r2⟩,r5,Shared.rest_eq rfl,λb o hb hn=>T.old b o (λq=>hn (.inl q)) hb,?_,?_,?_,?_,?_,?_,?_,?_⟩,jgQ r5 hz,⟨⟨c,Pl,T'⟩,e2,jj⟩⟩
 ·
  have cM:h.Ns jeb (λY=>none):=(uB wd.params).at' λo e=>T'.old _ _ (by decide) e;intro key v hv;have:jfT h key=none:=by
   refine kW cM λo es ep ho hd Y hf=>?_;unfold jfT;refine aa ho ?_;simp only[hd];exact hf key
  rw[show({ s' with heap:=h,toks:=tk }:Y1).heap=h from rfl,this]at hv;cases hv
 ·intro key;left;have cM:h.Ns jeb (λY=>none):=(uB wd.params).at' λo e=>T'.old _ _ (by decide) e;have QF:s'.heap.Ns jeb (λY=>none):=by refine aa e1 ?_;exact uB wd.params
  have st:∀{h:jag},h.Ns jeb (λY=>none)->jfT h key=none:=λhn=>by
   refine kW hn λo es ep ho hd Y hf=>?_;unfold jfT;refine aa ho ?_;simp only[hd];exact hf key
  show jfT h key=jfT s'.heap key;refine aa (st cM) ?_;refine aa (st QF) ?_;rfl
 ·refine n6 T'.ex λmg ps ts l S Y=>?_;exact PySem.Pin.keysAreStrs_of_ns S.g
 ·have hb:h.Ns jaa ((jad wd.params).nsMap jaa):=(xp wd.params).b.at' λo e=>T'.old _ _ (by decide) e;intro name hn;have:builtinOf h name=(jad wd.params).nsMap jaa name:=by
   refine kW hb λo es ep ho hd Y hf=>?_;unfold builtinOf;refine aa ho ?_;simp only[hd];exact hf name
  refine aa (show({ s' with heap:=h,toks:=tk }:Y1).heap=h from rfl) ?_;refine aa this ?_;exact pA _ name hn
 ·refine n7 T'.ex λmg ps ts l S Y Y Y Y e5 e6=>?_;refine DB S.bmod λbm o b1 b2 b3 b4 b5 b6 b7 b8=>?_;exact⟨bm,o,(u9 S.g _).trans b1,b5,b6,b7⟩
 ·intro g hg;rw[show({ s' with heap:=h,toks:=tk }:Y1).gens=#[]from e2]at hg;simp at hg
 ·intro x v hx;refine n7 T'.ex λmg ps ts l S Y Y Y Y e5 e6=>?_;have fb:mg x=some v:=(u9 S.g x).symm.trans hx
  induction hl:eM.lookup x using ae with
  |some tv =>
   right;have:=Y3.mp L4 _ (SH hl);exact jeA.mp this
  |none =>
   left;rw[e6 x hl]at fb
   induction hc:jfU.contains x using ZC with
   |true=>exact jeA.mp hc
   |false=>rw[rK _ hc]at fb;cases fb
 ·intro x hx;refine n7 T'.ex λmg ps ts l S Y Y Y Y e5 e6=>?_;have hl:eM.lookup x=none:=jck.mp (Y3.mp L8 x hx);refine aa (show({ s' with heap:=h,toks:=tk }:Y1).heap=h from rfl) ?_;refine aa (u9 S.g _) ?_;refine aa (e6 x hl) ?_;refine aa (u9 B.g _) ?_;refine aa e1 ?_;rfl
def fS:Stmt->TV
 | .FunctionDef n p b _ _ _ sc _ _ _=>.fn n p b sc
 |_=>.int 0
def Jm:List Arg->Bool
 | [⟨_,none,_⟩]=>true
 | [⟨_,none,_⟩,⟨_,none,_⟩]=>true
 | [⟨_,none,_⟩,⟨_,none,_⟩,⟨_,none,_⟩]=>true
 |_=>false
def Hf (p:jbf):Bool:=p.posonlyargs.isEmpty&&Jm p.args&&p.vararg.isNone&&p.kwonlyargs.isEmpty&&p.kw_defaults.isEmpty&&p.kwarg.isNone&&p.defaults.isEmpty
def HA (ps:List Str)(sc:jax):Bool:=!sc.isCoroutine&&!sc.isGenerator&&sc.kind==.function&&oR (dy ps sc)&&decide (sc.names.map (·.1)).Nodup&&decide ps.Nodup&&sc.names.all (λx=>x.2 != .free)&&ps.all (λx=>sc.names.lookup x==some .local||sc.names.lookup x==some .cell)
def uL:Stmt->Bool
 | .FunctionDef n p b _ _ _ sc _ _ _=>Hf p&&HA (p.args.map (·.arg)) sc
 |_=>false
def jS:Stmt->jbf
 | .FunctionDef _ p _ _ _ _ _ _ _ _=>p
 |_=>⟨[],[],none,[],[],none,[]⟩
def o3 (st:Stmt):Prop:=∀(n:Str) (b:List Stmt) (sc:jax) (bG pm bZ:Value) (c':Zb) (vals:List Value),vals.length=((jS st).args.map (·.arg)).length->jbJ (fnX n n (jS st) b sc [] .none .none bG pm none (.ref c') bZ) ⟨vals,[]⟩=pure (((jS st).args.map (·.arg)).zip vals)
theorem CM {C:Stmt->Prop}{st:Stmt}(h:uL st=true)(k:∀n p b d r tc sc x y z,Hf p=true->HA (p.args.map (·.arg)) sc=true->C (.FunctionDef n p b d r tc sc x y z)):C st:=by
 induction st using jgF with
 |FunctionDef=>exact cu h λh1 h2=>k _ _ _ _ _ _ _ _ _ _ h1 h2
 |_=>exact bP h
theorem Ly {st:Stmt}(hB:o3 st){fd:jau}{name:Str}{p:jbf}{b:List Stmt}{sc:jax}{c':Zb}{mu:List Str}(h:uL st=true)(e:fS st=.fn name p b sc)(F:rd fd name p b sc c'):et fd (qd mu st) (p.args.map (·.arg)) b mu:=by
 revert hB e;refine CM (C:=λst=>o3 st->fS st=.fn name p b sc->et fd (qd mu st) (p.args.map (·.arg)) b mu) h λn' p' b' Y Y Y tG Y Y Y h1 h2 hB e=>?_;refine TV.fn.inj e|>.elim λe1 r=>r.elim λe2 r=>r.elim λe3 e4=>?_;subst e1 e2 e3 e4;refine yo F ?_;rintro bG pm bZ rfl;exact cu h2 λh2 k8=>cu h2 λh2 k7=>cu h2 λh2 k6=>cu h2 λh2 k5=>cu h2 λh2 k4=>cu h2 λh2 k3=>cu h2 λk1 k2 =>
  ⟨rfl,rfl,rfl,rfl,(jbF _).mp k1,(jbF _).mp k2,eq_of_beq k3,hB n' b' tG bG pm bZ c',rfl,rfl,rfl,k4,of_decide_eq_true k5,of_decide_eq_true k6,k7,k8⟩
def CN:List (Nat×Nat×List Str):=[(0,2,[]),(3,6,["q_digits"]),(4,7,[]),(5,9,[]),(6,10,[]),(7,11,[]),(10,69,[]),(11,70,[]),(12,71,[]),(13,73,[]),(14,74,["row"]),(15,75,["row"]),(16,76,["names","near"]),(17,77,["told"]),(18,78,[]),(19,79,["tables","table"]),(20,80,[]),(21,81,[])]
def gw:List (Nat×Str×Nat):=[(0,"_div2n1n",2),(1,"_int2digits",4),(2,"_digits2int",5),(3,"_divmod_pos",6),(4,"int_divmod",7),(5,"rgb_to_hls",9),(6,"rgb_to_hsv",10),(7,"hsv_to_rgb",11),
 (8,"in_table_b1",14),(9,"map_table_b3",16),(10,"ISTERMINAL",69),(11,"ISNONTERMINAL",70),(12,"ISEOF",71),(13,"_law_word",73),(14,"_law_page",74),(15,"_law_read",75),
 (16,"_law_net",76),(17,"_law_lamps",77),(18,"_law_paintings",78),(19,"_law_classes",79),(20,"_law_plain",80),(21,"law",81)]
def fns (k:Nat):Option dC:=(CN.lookup k).map λ(i,m)=>qd m (fC i)
theorem j2 {st:Stmt}(h:((jS st).args.map (·.arg)).length=1)(hb:∀n b sc bG pm bZ c' u,jbJ (fnX n n (jS st) b sc [] .none .none bG pm none (.ref c') bZ) ⟨[u],[]⟩=pure (((jS st).args.map (·.arg)).zip [u])):o3 st:=λn b sc bG pm bZ c' vals hl =>
 Gp (Q:=λvals=>jbJ _ ⟨vals,[]⟩=pure (jiP _ vals)) (hl.trans h) (hb n b sc bG pm bZ c')
theorem pz {st:Stmt}(h:((jS st).args.map (·.arg)).length=2)(hb:∀n b sc bG pm bZ c' u v,jbJ (fnX n n (jS st) b sc [] .none .none bG pm none (.ref c') bZ) ⟨[u,v],[]⟩=pure (((jS st).args.map (·.arg)).zip [u,v])):o3 st:=λn b sc bG pm bZ c' vals hl =>
 Gq (Q:=λvals=>jbJ _ ⟨vals,[]⟩=pure (jiP _ vals)) (hl.trans h) (hb n b sc bG pm bZ c')
theorem rI {st:Stmt}(h:((jS st).args.map (·.arg)).length=3)(hb:∀n b sc bG pm bZ c' u v wd,jbJ (fnX n n (jS st) b sc [] .none .none bG pm none (.ref c') bZ) ⟨[u,v,wd],[]⟩=pure (((jS st).args.map (·.arg)).zip [u,v,wd])):o3 st:=λn b sc bG pm bZ c' vals hl =>
 Sj (Q:=λvals=>jbJ _ ⟨vals,[]⟩=pure (jiP _ vals)) (hl.trans h) (hb n b sc bG pm bZ c')
def IP (x:Nat×Str×Nat):Prop:=o3 (fC x.2.2)
theorem N2:∀x∈gw,IP x :=
 bv (rI (by kernel_rfl) (λY Y Y Y Y Y Y Y Y Y=>by kernel_rfl))<|bv (pz (by kernel_rfl) (λY Y Y Y Y Y Y Y Y=>by kernel_rfl))<|bv (pz (by kernel_rfl) (λY Y Y Y Y Y Y Y Y=>by kernel_rfl))<|bv (pz (by kernel_rfl) (λY Y Y Y Y Y Y Y Y=>by kernel_rfl))<|bv (pz (by kernel_rfl) (λY Y Y Y Y Y Y Y Y=>by kernel_rfl))<|bv (rI (by kernel_rfl) (λY Y Y Y Y Y Y Y Y Y=>by kernel_rfl))<|bv (rI (by kernel_rfl) (λY Y Y Y Y Y Y Y Y Y=>by kernel_rfl))<|bv (rI (by kernel_rfl) (λY Y Y Y Y Y Y Y Y Y=>by kernel_rfl))<|bv (j2 (by kernel_rfl) (λY Y Y Y Y Y Y Y=>by kernel_rfl))<|bv (j2 (by kernel_rfl) (λY Y Y Y Y Y Y Y=>by kernel_rfl))<|bv (j2 (by kernel_rfl) (λY Y Y Y Y Y Y Y=>by kernel_rfl))<|bv (j2 (by kernel_rfl) (λY Y Y Y Y Y Y Y=>by kernel_rfl))<|bv (j2 (by kernel_rfl) (λY Y Y Y Y Y Y Y=>by kernel_rfl))<|bv (j2 (by kernel_rfl) (λY Y Y Y Y Y Y Y=>by kernel_rfl))<|bv (j2 (by kernel_rfl) (λY Y Y Y Y Y Y Y=>by kernel_rfl))<|bv (j2 (by kernel_rfl) (λY Y Y Y Y Y Y Y=>by kernel_rfl))<|bv (j2 (by kernel_rfl) (λY Y Y Y Y Y Y Y=>by kernel_rfl))<|bv (pz (by kernel_rfl) (λY Y Y Y Y Y Y Y Y=>by kernel_rfl))<|bv (rI (by kernel_rfl) (λY Y Y Y Y Y Y Y Y Y=>by kernel_rfl))<|bv (j2 (by kernel_rfl) (λY Y Y Y Y Y Y Y=>by kernel_rfl))<|bv (pz (by kernel_rfl) (λY Y Y Y Y Y Y Y Y=>by kernel_rfl))<|bv (j2 (by kernel_rfl) (λY Y Y Y Y Y Y Y=>by kernel_rfl))<|kM
theorem D0:gw.all (λx=>uL (fC x.2.2))=true:=by decide +kernel
def F7 (x:Str):TV->Bool
 | .fn n _ _ _=>n==x
 |_=>false
theorem RH (h:F7 x v=true):∃p b sc,v=.fn x p b sc:=by
 cases v with
 |fn n p b sc=>exact Ru p b sc (eq_of_beq h▸rfl)
 |_=>exact bP h
theorem N5:gw.all (λx=>F7 x.2.1 (fS (fC x.2.2)))=true:=by decide +kernel
theorem N4:gw.map (λx=>eM.lookup x.2.1)=gw.map (λx=>some (fS (fC x.2.2))):=by kernel_rfl
theorem N3 (x:Nat×Str×Nat)(hx:x∈gw):eM.lookup x.2.1=some (fS (fC x.2.2))/\(∃p b sc,fS (fC x.2.2)=.fn x.2.1 p b sc):=
 ⟨List.map_inj_left.mp N4 x hx,RH (Y3.mp N5 x hx)⟩
def FS:Nat->Pos:=qK [(30,4,30,12),(30,16,30,17),(30,15,30,18),(30,23,30,24),(30,23,30,35),(30,23,30,37),(30,40,30,41),(30,23,30,41),(30,44,30,45),(30,23,30,45),(30,50,30,51),(30,22,30,51),(30,15,30,52),(30,4,30,52),(42,7,42,8),(43,8,43,13),(43,14,43,15),(43,17,43,18),(43,20,43,23),(43,24,43,32),(43,20,43,33),(43,8,43,34),(43,8,43,34),(42,4,43,34),(44,11,44,19),(44,4,44,19)]
def s7:Nat->Pos:=qK [(33,11,33,12),(33,15,33,16),(33,11,33,16),(33,20,33,21),(33,11,33,21),(34,12,34,20),(34,21,34,22),(34,12,34,23),(34,26,34,27),(34,12,34,27),(35,12,35,18),(33,8,35,18),(36,8,36,11),(36,14,36,15),(36,18,36,19),(36,14,36,19),(36,23,36,24),(36,14,36,24),(36,8,36,24),(37,8,37,13),(37,17,37,20),(37,23,37,24),(37,17,37,24),(37,28,37,29),(37,16,37,29),(37,8,37,29),(38,8,38,13),(38,16,38,17),(38,21,38,26),(38,16,38,26),(38,8,38,26),(39,8,39,13),(39,16,39,17),(39,20,39,25),(39,29,39,34),(39,20,39,34),(39,16,39,34),(39,8,39,34),(40,8,40,13),(40,14,40,19),(40,21,40,22),(40,24,40,27),(40,8,40,28),(40,8,40,28),(41,8,41,13),(41,14,41,19),(41,21,41,24),(41,26,41,27),(41,8,41,28),(41,8,41,28),(32,14,32,15),(32,17,32,18),(32,20,32,21),(32,4,41,28)]
def CK:Nat->Pos:=qK [(53,36,53,42),(53,11,53,16),(53,17,53,18),(53,20,53,23),(53,24,53,30),(53,20,53,31),(53,11,53,32),(53,48,53,49),(53,11,53,49),(53,4,53,49)]
def rX:Nat->Pos:=qK [(48,11,48,12),(48,15,48,16),(48,11,48,16),(48,20,48,21),(48,11,48,21),(49,19,49,25),(49,26,49,27),(49,19,49,28),(49,12,49,28),(48,8,49,28),(50,8,50,11),(50,14,50,15),(50,18,50,19),(50,14,50,19),(50,23,50,24),(50,14,50,24),(50,8,50,24),(51,8,51,13),(51,17,51,20),(51,23,51,24),(51,17,51,24),(51,28,51,29),(51,16,51,29),(51,8,51,29),(52,16,52,21),(52,22,52,25),(52,27,52,28),(52,16,52,29),(52,33,52,38),(52,16,52,38),(52,42,52,47),(52,48,52,49),(52,51,52,54),(52,42,52,55),(52,15,52,55),(52,8,52,55),(0,0,0,0),(0,0,0,0),(0,0,0,0),(0,0,0,0),(47,14,47,15),(47,17,47,18),(47,4,52,55)]
def B3:Nat->Pos:=qK [(143,11,143,14),(143,15,143,19),(143,11,143,20),(143,24,143,30),(143,11,143,30),(143,4,143,30)]
def B5:Nat->Pos:=qK [(146,4,146,5),(146,8,146,21),(146,8,146,25),(146,26,146,29),(146,30,146,34),(146,26,146,35),(146,8,146,36),(146,4,146,36),(147,7,147,8),(147,16,147,20),(147,7,147,20),(148,15,148,16),(148,8,148,16),(147,4,148,16),(149,11,149,15),(149,11,149,21),(149,11,149,23),(149,4,149,23)]
theorem Xd:fS (fC 4)=.fn "_int2digits" (wj "a" "n" ⟨29,16,29,17⟩ ⟨29,19,29,20⟩) (zT FS s7) s5:=by kernel_rfl
theorem Xe:fS (fC 5)=.fn "_digits2int" (wj "digits" "n" ⟨45,16,45,22⟩ ⟨45,24,45,25⟩) (xN CK rX) rV:=by kernel_rfl
theorem Xb:fS (fC 14)=.fn "in_table_b1" ⟨[],[⟨"code",none,⟨142,16,142,20⟩⟩],none,[],[],none,[]⟩ (ux B3) uz:=by kernel_rfl
theorem Xc:fS (fC 16)=.fn "map_table_b3" ⟨[],[⟨"code",none,⟨145,17,145,21⟩⟩],none,[],[],none,[]⟩ (xm B5) uA:=by kernel_rfl
theorem L5:eM.lookup ("_DIV_LIMIT" : Str)=some (.int 4000):=by kernel_rfl
theorem L9:eM.lookup ("NT_OFFSET" : Str)=some (.int 256):=by kernel_rfl
theorem L6:eM.lookup ("ENDMARKER" : Str)=some (.int 0):=by kernel_rfl
theorem L2:eM.lookup ("b1_set" : Str)=some (.set uy 65024 65040):=by kernel_rfl
theorem L3:eM.lookup ("b3_exceptions" : Str)=some (.dictI B4):=by kernel_rfl
def tV:List (Str×Int):=match eM.lookup ("EXACT_TOKEN_TYPES" : Str)with
 |some (.dictS l)=>l
 |_=>[]
theorem Ma:eM.lookup ("EXACT_TOKEN_TYPES" : Str)=some (.dictS tV):=by kernel_rfl
theorem H':tV.all (λe=>cA.lookup e.1.cps.toList==some e.2)=true/\cA.all (λe=>tV.lookup ⟨e.1.toArray⟩==some e.2)=true:=by decide +kernel
theorem L7:(["range","list","int","bool","reversed","len","sum","max","min","ord","chr","divmod","isinstance"]:List Str).all (λx=>(eM.lookup x).isNone&&!jfU.contains x)=true:=by decide +kernel
theorem Tl:gv.all (λe=>match e.2 with | .user k=>(gw.lookup k).map (·.1)==some e.1|_=>true)=true:=by decide +kernel
theorem Ah {K:Type}[DecidableEq K][BEq K][LawfulBEq K]{γ:Type}{Pv:γ->Value->Prop}:∀{l:List (K×γ)}{aJ:List (K×Value)},eU (l.map λe=>(e.1,Pv e.2)) aJ->∀x,(∀v,l.lookup x=some v->∃u,jdd aJ x=some u/\Pv v u)/\(l.lookup x=none->jdd aJ x=none)
 | [],_,.nil,x=>⟨λv h=>by simp at h,λY=>rfl⟩
 |(k,g)::l,_,.cons (v:=u) h r,x=>by
  have ih:=Ah r x;unfold jdd at ih ⊢;refine aa ZU ?_;refine aa List.find?_cons ?_;by_cases q:x=k
  ·subst q;simp only[beq_self_eq_true,decide_true,jhW];exact⟨λv e=>by cases e;exact aN u rfl h,λe=>nomatch e⟩
  ·have q':¬k=x:=λe=>q e.symm;simp only[beq_eq_false_iff_ne.mpr q,decide_eq_false q'];exact ih
theorem Hq:∀(n:Nat) (a k:Int),(gP a 1 n).any (·==k)=(decide (a<=k)&&decide (k<a+n))
 |0,a,k=>by
  show false=_;by_cases h:a<=k
  ·simp[h]
  ·simp[h]
 |n+1,a,k=>by
  rewrite [tE];refine aa jeZ ?_;refine aa (Hq n (a+1) k) ?_;by_cases h:a=k
  ·subst h;simp;lia
  ·have:(a==k)=false:=beq_eq_false_iff_ne.mpr h;refine aa this ?_;refine aa (jiZ _) ?_
   congr 1
   ·exact decide_eq_decide.mpr (by lia)
   ·exact decide_eq_decide.mpr (by lia)
theorem BZ (k:Int):∀l:List Int,l.any (·==k)=l.contains k
 | []=>rfl
 |a::l=>by
  refine aa jeZ ?_;refine aa (BZ k l) ?_;refine aa List.contains_cons ?_
  congr 1
  exact Bool.beq_comm
set_option tactic.hygienic true in
theorem l8 {α β:Type}[BEq α][LawfulBEq α]{x:α}{v:β}:∀{l:List (α×β)},l.lookup x=some v->(x,v)∈l
 | [],h=>by cases h
 |(k,u)::l,h=>by
  rw[ZU]at h;split at h
  ·rename_i q;cases h;refine aa (eq_of_beq q) ?_;exact Zc
  ·exact Zt _ (l8 h)
theorem Jx:(λk=>(uy++gP 65024 1 ((65040:Int)-65024).toNat).any (·==k))=dz:=by
 funext k;refine aa List.any_append ?_;rw[Hq];unfold dz
 congr 1
 exact BZ k uy
theorem Ia {x:Str}:nA x=tV.lookup x:=by
 unfold nA
 induction h:tV.lookup x using ae with
 |some i =>
  have:=Y3.mp H'.1 _ (l8 h);exact eq_of_beq this
 |none =>
  induction h2:cA.lookup x.cps.toList using ae with
  |none=>rfl
  |some i =>
   exfalso;have:=Y3.mp H'.2 _ (l8 h2);have e:=eq_of_beq this;have ex:(⟨x.cps.toList.toArray⟩:Str)=x:=by simp
   rw[ex,h]at e;cases e
theorem J1:(["range","list","int","bool","reversed"]:List String).all (λx=>decide (jaO x≠("__name__" : Str))&&decide (jhT (jaO x)=some (.type x)))=true:=by decide +kernel
theorem JV:(["len","sum","max","min","ord","chr","divmod","isinstance"]:List String).all (λx=>decide (jaO x≠("__name__" : Str))&&decide (jhT (jaO x)=some (.builtin x)))=true:=by decide +kernel
theorem OA:(["range","list","int","bool","reversed"]:List String).all (λx=>decide (jaO x∈(["range","list","int","bool","reversed","len","sum","max","min","ord","chr","divmod","isinstance"]:List Str)))=true:=by decide +kernel
theorem Oz:(["len","sum","max","min","ord","chr","divmod","isinstance"]:List String).all (λx=>decide (jaO x∈(["range","list","int","bool","reversed","len","sum","max","min","ord","chr","divmod","isinstance"]:List Str)))=true:=by decide +kernel
def mS (mg:Str->Option Value)(h:jag)(k:Nat):Option (Str×jau):=(gw.lookup k).bind λx=>match mg x.1 with
 |some (.ref a)=>(match h.get? a with
  |some o=>(match o.data with
   | .func fd=>some (x.1,fd)
   |_=>none)
  |none=>none)
 |_=>none
theorem Op (h1:gw.lookup k=some (x,i))(h2:mg x=some (.ref a))(h3:h.get? a=some o)(h4:o.data=.func fd):mS mg h k=some (x,fd):=by
 delta mS
 refine aa h1 ?_;dsimp only[Option.bind_some];refine aa h2 ?_;dsimp only;refine aa h3 ?_;dsimp only;refine aa h4 ?_;rfl
theorem TG {h:jag}(e:(match h.get? a with
 |some o=>(match o.data with
  | .func fd=>some (x,fd)
  |_=>none)
 |none=>none)=some (y,fd)):y=x/\∃o,h.get? a=some o/\o.data=.func fd:=by
 induction h3:h.get? a using ae with
 |none=>rw[h3]at e;exact ai e
 |some o =>
  rw[h3]at e;replace e:(match o.data with | .func fd=>some (x,fd)|_=>none)=some (y,fd):=e
  induction h4:o.data using PySem.Data.casesOn with
  |func i9=>rw[h4]at e;exact aG (Q:=λr=>r.1=x/\∃u:Obj,some o=some u/\u.data=.func r.2) e ⟨rfl,o,rfl,h4⟩
  |_=>rw[h4]at e;exact ai e
theorem G5 {h:jag}(e:mS mg h k=some (x,fd)):∃i a o,gw.lookup k=some (x,i)/\mg x=some (.ref a)/\h.get? a=some o/\o.data=.func fd:=by
 refine pN e λy h1 e=>?_;replace e:(match mg y.1 with
  |some (.ref a)=>(match h.get? a with
   |some o=>(match o.data with
    | .func fd=>some (y.1,fd)
    |_=>none)
   |none=>none)
  |_=>none)=some (x,fd):=e
 induction h2:mg y.1 using ae with
 |none=>rw[h2]at e;exact ai e
 |some v =>
  rw[h2]at e;cases v with
  |ref a =>
   obtain⟨rfl,o,h3,h4⟩:=TG e;exact vU y.2 a o h1 h2 h3 h4
  |_=>exact ai e
theorem K1 {h:jag}(h1:h.CodeRec (.ref c) x)(h2:h.CodeRec (.ref c) y):x=y:=by
 refine qa h1 λc1 o1 v1 t1 e1 g1 d1 k1=>?_;refine qa h2 λc2 o2 v2 t2 e2 g2 d2 k2=>?_;cases e1;cases e2;rw[g1]at g2;cases g2;rw[d1]at d2;cases d2;rw[k1]at k2;cases k2;rfl
theorem TC {ts:List (Zb×Zb)}(hn:(ts.map (·.2)).Nodup)(ha:a∈ts)(hb:b∈ts)(e:a.2=b.2):a=b:=by
 induction ts with
 |nil=>cases ha
 |cons t ts ih =>
  rw[Zy,jaG]at hn;rcases ZM.mp ha with e1|EF<;>rcases ZM.mp hb with e2|gM
  ·refine aa e1 ?_;refine aa e2 ?_;rfl
  ·subst e1;exact absurd (Zk.mpr ⟨b,gM,e.symm⟩) hn.1
  ·subst e2;exact absurd (Zk.mpr ⟨a,EF,e⟩) hn.1
  ·exact ih hn.2 EF gM
def nc (x:Str):Str:=(x++(".<locals>." : Str))++("inner" : Str)
theorem Lx:CN.all (λe=>(gw.lookup e.1).map (·.2)==some e.2.1)=true:=by decide +kernel
structure nG where
 a:Zb
 fd:jau
 c:Zb
 P:Zb
 p:jbf
 b:List Stmt
 sc:jax
structure gU (mg:Str->Option Value) (h:jag) (ts:List (Zb×Zb)) (x:Str) (i:Nat) (d:nG):Prop where
 m:mg x=some (.ref d.a)
 g:h.get? d.a=some { cls:=.type "function",data:=.func d.fd }
 f:rd d.fd x d.p d.b d.sc d.c
 r:h.CodeRec (.ref d.c) x
 hd:jfJ h d.c d.P
 t:h.get? d.P=some (jdG #[])
 ts:(d.c,d.P)∈ts
 tv:fS (fC i)=.fn x d.p d.b d.sc
structure dI (h:jag) (mg:Str->Option Value) (ts:List (Zb×Zb)):Prop where
 g:h.Ns Zm mg
 bi:∃Pl,h.BuiltinsAt mg Pl
 nd:(ts.map (·.2)).Nodup
 e:∀x tv,eM.lookup x=some tv->∃v,mg x=some v/\i4 ts h tv v
 no:∀x,eM.lookup x=none->mg x=(jad wd.params).nsMap Zm x
 old:∀b o,b≠Zm->(jad wd.params).get? b=some o->h.get? b=some o
def gd (h:jag)(mg:Str->Option Value)(tok:Zb)(d1 d2:nG):GD:=⟨mg,(jad wd.params).nsMap jaa,tok,mS mg h,[(d1.c,d1.P,s7 53,nc "_int2digits"),(d2.c,d2.P,rX 42,nc "_digits2int")]⟩
section
theorem dI.fn (T:dI h mg ts)(hk:gw.lookup k=some (x,i)):∃d,gU mg h ts x i d:=by
 obtain⟨h1,p,b,sc,h2⟩:=N3 (k,x,i) (l8 hk);rw[h2]at h1;obtain⟨v,hv,a,fd,c,P,rfl,k2,k3,k4,k5,k6,k7⟩:=T.e _ _ h1;exact⟨⟨a,fd,c,P,p,b,sc⟩,hv,k2,k3,k4,k5,k6,k7,h2⟩
theorem gU.at {ts:List (Zb×Zb)}(D:gU mg h ts x i d)(hk:gw.lookup k=some (x,i)):mS mg h k=some (x,d.fd):=Op hk D.m D.g rfl
theorem gU.ok {ts:List (Zb×Zb)}{d:nG}(D:gU mg h ts x i d)(hk:gw.lookup k=some (x,i))(mu:List Str):et d.fd (qd mu (fC i)) (d.p.args.map (·.arg)) d.b mu :=
 Ly (N2 (k,x,i) (l8 hk)) (Y3.mp D0 (k,x,i) (l8 hk)) D.tv D.f
theorem tR {d1 d2:nG}{C:(Zb×Zb×Pos×Str)->Prop}(h1:C (d1.c,d1.P,s7 53,nc "_int2digits")) (h2:C (d2.c,d2.P,rX 42,nc "_digits2int")):∀t∈(gd h mg tok d1 d2).tabs,C t :=
 bv h1 (bv h2 kM)
theorem dI.ne {d1 d2:nG}(T:dI h mg ts)(D1:gU mg h ts "_int2digits" 4 d1) (D2:gU mg h ts "_digits2int" 5 d2):d1.P≠d2.P:=λq =>
 have e:=jiO (TC T.nd D1.ts D2.ts q)
 absurd (K1 D1.r (e.1▸D2.r)) (by decide)
theorem dI.free (T:dI h mg ts)(x:Str)(hx:x∈(["range","list","int","bool","reversed","len","sum","max","min","ord","chr","divmod","isinstance"]:List Str)):mg x=none :=
 cu (Y3.mp L7 x hx) λh1 h2=>(T.no x (jck.mp h1)).trans (rK _ ((jbF _).mp h2))
theorem dI.bm (T:dI h mg ts):∃bm ob,mg "__builtins__" = some (.ref bm)/\bm≠jaa/\h.get? bm=some ob/\ob.cls=.type "module" /\ ob.dict=some jaa/\ob.data=.plain:=by
 refine Nh T.bi λPl bm o b1 b2 b3 b4 b5 b6 b7 b8=>?_;exact FZ bm o b1 b2 b5 b6 b7 b8
theorem dI.tokAt {h:jag}(T:dI h mg ts):∃a,mg ("EXACT_TOKEN_TYPES" : Str)=some (.ref a)/\(a==Z')=false/\∃f,h.MapOf (strKind pw wd) a f/\(∀x k,nA x=some k->∃t,f x=some (.int k t))/\(∀x,nA x=none->f x=none):=by
 obtain⟨v,hv,a,aJ,rfl,n1,n2,dt,kt⟩:=T.e _ _ Ma;have H:=λx=>Ah (Pv:=λ(i:Int) u=>∃t,u=.int i t) kt x;exact⟨a,hv,n2,_,dt.mapOf,λx k hx=>((H x).1 k (Ia▸hx)).elim λu ⟨h1,t,h2⟩=>⟨t,h1.trans (congrArg some h2)⟩,λx hx=>(H x).2 (Ia▸hx)⟩
theorem dI.b1At (T:dI h mg ts):∃a n,mg ("b1_set" : Str)=some (.ref a)/\h.SetOf (jal pw wd) a dz n:=by
 obtain⟨v,hv,a,S,n,rfl,db,kb⟩:=T.e _ _ L2;exact cZ a n hv ((funext kb).trans Jx▸db)
theorem dI.b3At {h:jag}(T:dI h mg ts):∃a f,mg ("b3_exceptions" : Str)=some (.ref a)/\(a==Z')=false/\h.MapOf (jal pw wd) a f/\(∀k x,j1 k=some x->∃t,f k=some (.str x t))/\∀k,j1 k=none->f k=none:=by
 obtain⟨v,hv,a,aJ,rfl,n1,n2,dt,kt⟩:=T.e _ _ L3;have H:=λx=>Ah (Pv:=λ(i:Str) u=>∃t,u=.str i t) kt x;exact Rs a _ hv n2 dt.mapOf (λk x hx=>((H k).1 x hx).elim λu ⟨h1,t,h2⟩=>⟨t,h1.trans (congrArg some h2)⟩) (λk hx=>(H k).2 hx)
theorem dI.fns (T:dI h mg ts)(k:Nat)(x:Str)(fd:jau)(e:mS mg h k=some (x,fd)):∃a o,mg x=some (.ref a)/\h.get? a=some o/\o.data=.func fd/\h.CodeRec fd.code fd.qualname:=by
 refine kW (G5 e) λi a o k1 k2 k3 k4=>?_;refine aW (T.fn k1) λd D=>?_;have ea:=jdA (Y0 (k2.symm.trans D.m));have eo:=Y0 ((ea▸k3).symm.trans D.g);have ed:fd=d.fd:=Data.func.inj ((eo▸k4).symm);refine yo D.f λbG pm bZ f=>?_;exact vT a o k2 k3 k4 (ed▸f▸D.r)
theorem dI.inv {h:jag}(T:dI h mg ts)(D1:gU mg h ts "_int2digits" 4 d1) (D2:gU mg h ts "_digits2int" 5 d2) (tokMod:(tok==Z')=false) (QO:∃f,h.MapOf (strKind pw wd) tok f/\(∀x k,nA x=some k->∃t,f x=some (.int k t))/\(∀x,nA x=none->f x=none)):bg (gd h mg tok d1 d2) h where
 g:=T.g
 b:=(xp wd.params).b.at' λo e=>T.old _ _ (by decide) e
 stat:=(uB wd.params).at' λo e=>T.old _ _ (by decide) e
 tok:=QO
 tokMod:=tokMod
 fns:=T.fns
 heads:=tR (C:=λt=>jfJ h t.1 t.2.1) D1.hd D2.hd
 tabs:=tR (C:=λt=>_\/_) (.inl D1.t) (.inl D2.t)
 bmain:=T.bm
 b1:=T.b1At
 b3:=T.b3At
theorem dI.num (T:dI h mg ts)(e:eM.lookup x=some (.int n)):∃t,mg x=some (.int n t):=(T.e _ _ e).elim λv ⟨h1,t,h2⟩=>⟨t,h1.trans (congrArg some h2)⟩
theorem dI.gok (T:dI h mg ts)(ht:mg ("EXACT_TOKEN_TYPES" : Str)=some (.ref tok)):dD (gd h mg tok d1 d2) where
 divLimit:=T.num L5
 ntOffset:=T.num L9
 endMarker:=T.num L6
 tok:=ht
 types:=λx hx=>⟨T.free _ (of_decide_eq_true (Y3.mp OA x hx)),cu (Y3.mp J1 x hx) λh1 h2=>(pA _ _ (of_decide_eq_true h1)).trans (of_decide_eq_true h2)⟩
 builtins:=λx hx=>⟨T.free _ (of_decide_eq_true (Y3.mp Oz x hx)),cu (Y3.mp JV x hx) λh1 h2=>(pA _ _ (of_decide_eq_true h1)).trans (of_decide_eq_true h2)⟩
theorem OL:gE (gd h mg tok d1 d2):=λx k y fd hx e=>by
 refine uV (G5 e) λi a o k1 Y=>?_;have this:(gw.lookup k).map jhj=some x:=eq_of_beq (Y3.mp Tl _ (l8 hx));exact Y0 ((congrArg (Z6 jhj) k1).symm.trans this)
theorem Xf {p p':jbf}{b b':List Stmt}{sc tG:jax}{C:jbf->List Stmt->jax->Prop}{st:Stmt}(h1:fS st=.fn x p b sc)(h2:fS st=.fn x p' b' tG)(k:C p' b' tG):C p b sc:=by
 have e:=TV.fn.inj (h1.symm.trans h2);refine aa e.2.1 ?_;refine aa e.2.2.1 ?_;refine aa e.2.2.2 ?_;exact k
theorem yE (f:rd fd x p b sc c):fd.scope=sc/\fd.code=.ref c/\fd.qualname=x/\fd.name=x:=by
 refine yo f ?_;rintro _ _ _ rfl;exact lg rfl rfl rfl rfl
theorem gU.as {ts:List (Zb×Zb)}{d:nG}{p:jbf}{b:List Stmt}{sc:jax}(D:gU mg h ts x i d)(hk:gw.lookup k=some (x,i))(tv:fS (fC i)=.fn x p b sc)(mu:List Str):et d.fd (qd mu (fC i)) (p.args.map (·.arg)) b mu/\d.fd.scope=sc :=
 Xf (C:=λp b sc=>et d.fd (qd mu (fC i)) (p.args.map (·.arg)) b mu/\d.fd.scope=sc) tv D.tv ⟨D.ok hk mu,(yE D.f).1⟩
theorem et.self (D:et fd f ps body mu):et fd ⟨ps.length,(dy ps fd.scope).next,em (dy ps fd.scope) mu body⟩ ps body mu:={ D with nargs:=rfl,nvars:=rfl,tree:=rfl }
theorem H1 {d1 d2:nG}{h:jag}{mg:Str->Option Value}{tok:Zb}(hP:d1.P≠d2.P):(∀t'∈(gd h mg tok d1 d2).tabs,t'.2.1=d1.P->t'=(d1.c,d1.P,s7 53,nc "_int2digits"))/\∀t'∈(gd h mg tok d1 d2).tabs,t'.2.1=d2.P->t'=(d2.c,d2.P,rX 42,nc "_digits2int"):=
 ⟨tR (C:=λt'=>t'.2.1=d1.P->t'=_) (λY=>rfl) λe=>absurd e.symm hP,tR (C:=λt'=>t'.2.1=d2.P->t'=_) (λe=>absurd e hP) λY=>rfl⟩
theorem dI.prims (T:dI h mg ts)(D1:gU mg h ts "_int2digits" 4 d1) (D2:gU mg h ts "_digits2int" 5 d2):wX (gd h mg tok d1 d2) where
 p1:=have o:=D1.as (k:=1) rfl Xd [];have q:=yE D1.f;⟨_,_,_,FS,s7,D1.at (k:=1) rfl,⟨o.1.self,Zc,(H1 (T.ne D1 D2)).1,q.2.1,rfl,congrArg nc q.2.2.1⟩,o.2,rfl⟩
 p2:=have o:=D2.as (k:=2) rfl Xe [];have q:=yE D2.f;⟨_,_,_,CK,rX,D2.at (k:=2) rfl,⟨o.1.self,Zt _ Zc,(H1 (T.ne D1 D2)).2,q.2.1,rfl,congrArg nc q.2.2.1⟩,o.2⟩
 p8:=(T.fn (k:=8) rfl).elim λY D=>have o:=D.as (k:=8) rfl Xb [];⟨_,_,_,B3,[],D.at (k:=8) rfl,o.1,o.2⟩
 p9:=(T.fn (k:=9) rfl).elim λY D=>have o:=D.as (k:=9) rfl Xc [];⟨_,_,_,B5,[],D.at (k:=9) rfl,o.1,o.2,rfl,rfl⟩
theorem OK (T:dI h mg ts)(k:Nat)(d:dC)(hk:fns k=some d):∃x fd ps body mu,mS mg h k=some (x,fd)/\et fd d ps body mu:=by
 refine lP (Q:=λd=>∃x fd ps body mu,mS mg h k=some (x,fd)/\et fd d ps body mu) hk λ⟨i',mu⟩ h1=>?_;refine au (Zp.mp (eq_of_beq (Y3.mp Lx _ (l8 h1)))) λz1 h2 h3=>?_;obtain⟨x,i⟩:=z1;refine aW (T.fn h2) λd D=>?_;have h3:i=i':=h3;exact Rv x d.fd _ d.b mu (D.at h2) (h3▸D.ok h2 mu)
theorem OM (D1:gU mg h ts "_int2digits" 4 d1) (D2:gU mg h ts "_digits2int" 5 d2) (c:Zb):¬bM (gd h mg tok d1 d2) h c:=λ⟨t,ht,e⟩ =>
 have e':h.get? t.2.1=some (jdG #[]):=tR (C:=λt=>h.get? t.2.1=some (jdG #[])) D1.t D2.t t ht
 absurd (congrArg (λo:Option Obj=>o.map (·.data)) (e'.symm.trans e)) (by simp)
end
theorem En (T:ut ak):∃G:GD,bg G ak.heap/\dD G/\gE G/\wX G/\(∀k d,fns k=some d->∃x fd ps body mu,G.fns k=some (x,fd)/\et fd d ps body mu) /\
 (∃a fd p b sc c',G.mg ("law" : Str)=some (.ref a)/\ak.heap.get? a=some { cls:=.type "function",data:=.func fd }/\rd fd ("law" : Str) p b sc c'/\fS (fC 81)=.fn ("law" : Str) p b sc/\G.fns 21=some (("law" : Str),fd))/\(∀c,¬bM G ak.heap c)/\Z'<ak.heap.objs.size:=by
 refine fq T.top λc Pl R=>?_;refine n7 R.ex λmg ps ts l S e1 e2 e3 e4 e5 e6=>?_;have E:dI ak.heap mg ts:=⟨S.g,⟨Pl,S.bmod⟩,e3,e5,e6,R.old⟩
 refine aW (E.fn (k:=1) rfl) λd1 D1=>?_;refine aW (E.fn (k:=2) rfl) λd2 D2=>?_;refine aW (E.fn (k:=21) rfl) λd D=>?_;refine fk E.tokAt λtok t1 t2 t3=>?_;exact Rr (gd ak.heap mg tok d1 d2) (E.inv D1 D2 t2 t3) (E.gok t1) OL (E.prims D1 D2) (OK E) ⟨d.a,d.fd,d.p,d.b,d.sc,d.c,D.m,D.g,D.f,D.tv,D.at (k:=21) rfl⟩ (OM D1 D2) (be R.sys R.sz)
abbrev lv:RowW:=(jeq jaj).toRowW
abbrev v5:ClaimW:=lv.claim
theorem Ge:∀{xs:List WData},jhU R xs .int=true->∃is:List Int,xs=is.map .int
 | [],_=>⟨[],rfl⟩
 |x::xs,h=>by
  simp only[jhU,Zs]at h;refine aW (hasW_int h.1) ?_;rintro i rfl;refine aW (Ge h.2) ?_;rintro is rfl;exact⟨i::is,rfl⟩
theorem Jn (h:v5.pre args=true):∃is:List Int,args=[.list (is.map .int)]/\is.length<=63:=by
 refine bN (pre_splitW h) λh1 h2=>?_;refine bS (hasAllW_cons (e:=.list .int) (es:=[]) h1) ?_;rintro d r rfl h3 h4;cases hasAllW_nil h4;refine au (hasW_list h3) ?_;rintro xs rfl h5;refine aW (Ge h5) ?_;rintro is rfl;refine aN is rfl ?_;have h6:(WTm.and (.not (.lt (.lit (.int (63:Nat))) (.len (.arg 0)))) (.lit (.bool true))).holds lv.records { args:=[.list (is.map .int)] }=true:=h2;have h7:=(holds_andW h6).1;have h8:=condW_of h7 (by wtm_val);simp only[YX,jbF,decide_eq_false_iff_not]at h8
 lia
theorem Ix {P:jdK}:∀{is:List Int}{vs:List Value},WellAll P h vs (is.map .int)->ar tk φ h [] Pv (is.map .int) vs
 | [],_,.nil=>.nil
 |i::is,_,.cons a r=>by
  cases a;exact .cons (.int _ _) (Ix r)
def wY:Prop:=∀dN:List Int,dN.length<=63->nQ gb fns 8 21 [.lst (dN.map .int)]=some (.bool true)
theorem Lw:dR jhS (8+13):=⟨rfl,by decide +kernel,by decide +kernel⟩
theorem Cw (I:bg G s.heap)(m6:∀c,¬bM G s.heap c)(k:GX G s φ s' am)(b:Zb)(o:Obj)(e:s.heap.get? b=some o):
 s'.heap.get? b=some o\/(isCodeTable s.heap b/\o.cls=.none/\∃vs fM,o.data=.fields vs/\s'.heap.get? b=some { o with data:=.fields (vs++fM) }):=by
 by_cases hX:G.X b
 ·refine au hX ?_;rintro t km rfl;have e0:s.heap.get? t.2.1=some (jdG #[]):=(I.tabs t km).elim id λq=>q.elim λc q=>absurd ⟨t,km,q.1⟩ (m6 c);have eo:=Y0 (e.symm.trans e0);refine aa eo ?_;rcases(k.tabs I.tabs).1 t km with q|⟨c,q,_⟩
  ·exact .inl q
  ·refine .inr ⟨((I.heads t km).tab e0).isCodeTable,rfl,#[],#[jdY t.2.2.1.line,jdY t.2.2.1.col,.ref c],rfl,?_⟩;refine aa q ?_;refine aa Array.empty_append ?_;rfl
 ·exact .inl (k.ext b o hX e)
theorem T5 (I:bg G s.heap)(m6:∀c,¬bM G s.heap c)(k:GX G s φ s' am):OldK s.heap s'.heap :=
 ⟨λb o e=>(Cw I m6 k b o e).imp id .inl,λb o e=>(Cw I m6 k b o e).elim (λq=>⟨_,q⟩) λ⟨_,_,vs,fM,_,q⟩=>⟨_,q⟩⟩
theorem Vb {s:Y1}{is:List Int}(hw:WellAll wd.params s.heap vs [.list (is.map .int)])(hP:∀a,vs=[.ref a]->Pv a):ar tk φ0 s.heap [] Pv [.lst (is.map .int)] vs:=by
 cases hw with
 |cons sY oG =>
  cases oG;cases sY with
  | @list al cW xs e r=>exact .cons (.lst (xs:=cW) ⟨0,e⟩ (hP _ rfl) (Ix r)) .nil
theorem Sd (PL:wY){ff s:Y1}(T:ut ff)(hk:∀b o,ff.heap.get? b=some o->s.heap.get? b=some o)(hz:ff.heap.objs.size<=s.heap.objs.size)(ht:ff.toks<=s.toks){is:List Int}(aO:is.length<=63)(hw:WellAll wd.params s.heap vs [.list (is.map .int)])(dY:∀a,vs=[.ref a]->ff.heap.objs.size<=a):
 ∃mg f,s.heap.Ns Zm mg/\mg ("law" : Str)=some f/\Y7 (Y9 pw wd) jhS (call f vs) (λv s'=>v=.bool true/\OldK s.heap s'.heap/\s'.os=s.os/\s'.gens=s.gens) ax s:=by
 refine Ng (En T) λG rj hG hN hP zi z6 m6 sW=>?_;obtain⟨a,fd,p,b,sc,c',m1,g1,f1,Bo,N1⟩:=z6;have I:bg G s.heap:=rj.keeps hk;have Fh:∀c,¬bM G s.heap c:=λc hc=>m6 c (iW hk rj.tabs c hc);refine na G.mg (.ref a) I.g m1 ?_;refine bB (KD hG hN 13 zi (Qr hP hG hN) 8 jhS Lw 21 _ _ (PL is aO)) λx i9 h1 h2=>?_;have hx:x=("law" : Str):=congrArg jhj (Y0 (h1.symm.trans N1));have safe:∀a,ff.heap.objs.size<=a->eX G a:=λa ha=>⟨beq_eq_false_iff_ne.mpr (jaP (be sW ha)),λq=>ZT.mpr ha (bz.lt rj.tabs q)⟩
 refine up (h2 a (hx▸m1) s φ0 (eX G) vs I (H9 (be T.toks ht)) (λa ha=>ha.elim (λh=>safe a (YY hz h)) λh=>absurd h (Fh a)) (λY h=>h) (Vb hw λa e=>safe a (dY a e))) λv s' h=>?_;refine au h λam k r=>?_;have ok:=T5 I Fh k;refine bB k.grows.keeps ?_;rintro h' t' rfl _;exact lg r.inv ok rfl rfl
theorem Ul {st:Stmt}{name:Str}{p:jbf}{b:List Stmt}{sc:jax}(h:uL st=true)(e:fS st=.fn name p b sc):p.defaults=[]/\p.kwonlyargs=[]/\p.kw_defaults=[]:=by
 refine CM (C:=λst=>fS st=.fn name p b sc->p.defaults=[]/\p.kwonlyargs=[]/\p.kw_defaults=[]) h (λn' p' b' Y Y Y tG Y Y Y h1 Y e=>?_) e;refine rwj ((TV.fn.inj e).2.1) ?_;exact cu h1 λh1 k7=>cu h1 λh1 k6=>cu h1 λh1 k5=>cu h1 λh1 k4=>cz (jda.mp k7) (jda.mp k4) (jda.mp k5)
theorem Se (e:fS (fC 81)=.fn ("law" : Str) p b sc):pw.theDef ("law" : Str)=some (p,b,sc):=by
 have e2:(pw.theDef ("law" : Str)).map (λx=>TV.fn ("law" : Str) x.1 x.2.1 x.2.2)=some (fS (fC 81)):=by kernel_rfl
 rw[e]at e2;refine au (Zp.mp e2) λz4 hx h=>?_;obtain⟨x1,x2,x3⟩:=z4;have h:=(TV.fn.inj h).2;refine aa hx ?_;exact congrArg some (Prod.ext h.1 (Prod.ext h.2.1 h.2.2))
theorem Sf {s:Y1}(T:ut s):isTheDefsW pw s.heap ("law" : Str):=by
 refine Nf (En T) λG rj Y Y Y Y z3 Y=>?_;obtain⟨a,fd,p,b,sc,c',m1,g1,⟨bG,pm,bZ,rfl⟩,Bo,_⟩:=z3;refine fY (Ul (Y3.mp D0 (21,"law",81) (l8 (rfl:gw.lookup 21=some (("law" : Str),81)))) Bo) λd1 d2 d3=>?_;exact⟨a,_,_,p,b,sc,(jep rj.g _).trans m1,g1,rfl,Se Bo,rfl,rfl,rfl,rfl,rfl,rfl,rfl,rfl,.inl ⟨d1,rfl⟩,[],by refine aa d2 ?_;refine aa d3 ?_;rfl,.inl ⟨rfl,rfl⟩⟩
theorem Uu (args:List WData):v5.post args (.bool true) args=true:=by
 show(WShape.has lv.records (.bool true) .bool&&(WTm.eq .res (.lit (.bool true))).holds lv.records { args:=args,res:=some (.bool true),after:=args })=true;refine aa (holdsW_of_value (show(WTm.eq .res (.lit (.bool true))).value lv.records { args:=args,res:=some (.bool true),after:=args }=some (.bool true)by simp[WTm.value,same])) ?_;rfl
theorem U1 (PL:wY)(U':(jeq jaj).wellSaid=true)(hw:lv.promised)(hb:pw.bare)(ho:opensWell pw=true):(jeq jaj).Holds:=by
 refine⟨U',hw,⟨hb,ho,rfl⟩,hw.witness,Je (And.intro head.1 λs hs=>?_)⟩;obtain⟨ff,f1,f2,ak,hT,hz,T⟩:=(head).2 s hs;refine⟨ff,f1,f2,ak,hT,λn hn=>?_,(λx hx=>nomatch hx),(λx hx=>nomatch hx),?_⟩
 ·have:n=jaj.name:=by simpa [jeq]using hn
  refine aa this ?_;exact Sf T
 ·refine ClaimW.callFrom_of_specG (c:=v5) (tree:=λvs=>do match <-nsGet mainNs ("law" : Str)with
   |some f=>do ret (<-PySem.call f vs)
   |none=>unsupported "claim.caller:no-such-global") hz T.gens λargs lY P6 ord zE=>?_
  refine au (Jn lY) ?_;rintro is rfl aO;refine aW (jcs.mp (layAllW_isSome (R:=lv.records) (cl:=classAt ak.heap) (P:=wd.params) (ord:=ord) (λc hc=>by cases hc) _ lv.args ak (pre_splitW lY).1)) λz1 ox=>?_;obtain⟨vs,aC⟩:=z1;have keeps:=layAllW_keeps _ _ _ ox;have mV:=layAllW_rest _ _ _ ox;refine fk (reads_layAllW zE _ _ _ ox P6 aC.heap (λY Y e=>e)) λas Fy eQ oB=>?_;have L:Laid lv.records wd ak aC [.list (is.map .int)] vs as:=⟨⟨ord,zE,ox⟩,Fy,eQ,oB,keeps,mV.1.trans T.gens,mV.2.2.1⟩
  have gr:=layAllW_grows _ _ _ ox;have FL:=well_layAllW zE _ _ _ ox aC.heap (λY Y e=>e);have dY:∀a,vs=[.ref a]->ak.heap.objs.size<=a:=λa e=>by
   subst e;cases Fy with
   |cons r1 r2 =>
    cases r1 with
    |list e1 e2 e3 e4=>exact(eQ.2.2 a (by simp)).1
  refine bS (Sd PL T keeps gr.size gr.toks aO FL dY) λmg f n1 n2 sJ=>?_;refine cZ vs aC ox (Y6 (jiu (a:=Zm) n1 ?_));refine aa n2 ?_;refine Y6 (jan sJ (λv s' ⟨e1,e2,e3,e4⟩=>Zu ?_) λY Y x=>x.elim);subst e1;refine Rq (.ret (.bool true)) rfl ?_ (e3.trans mV.2.2.1) (jir (e4.trans (mV.1.trans T.gens))) (λq=>nomatch q);have g:GoodWG v5 (classAt ak.heap) (ExcName.means ak.heap) [.list (is.map .int)] aC (.ok (.ret (.bool true))) s' :=
   ⟨.inl ⟨.bool true,.bool true,[],rfl,λY=>rfl,.bool true,Uu _,λY=>⟨jaM,λa ha=>nomatch ha⟩⟩,e2,e3,jir (e4.trans (mV.1.trans T.gens))⟩
  exact(g.laid rfl rfl (λa b=>ident_freeW (r:=lv) rfl rfl rfl a b) L).1
end
section
open PySem
set_option backward.match.sparseCases true
def f0:dC:=⟨3,11,(.cons (.ife (.cmp .LtE (.bin .Sub (.call .bitLength (.cons (.var 0) .nil)) (.var 2)) (.glob .divLimit))
 (.cons (.ret (.call .divmod (.cons (.var 0) (.cons (.var 1) .nil))))
 .nil)
 .nil)
 (.cons (.asg 3 false (.bin .BitAnd (.var 2) (.c (.int 1))))
 (.cons (.ife (.var 3)
  (.cons (.aug 0 .LShift (.c (.int 1)))
  (.cons (.aug 1 .LShift (.c (.int 1)))
  (.cons (.aug 2 .Add (.c (.int 1)))
  .nil)))
  .nil)
 (.cons (.asg 4 false (.bin .RShift (.var 2) (.c (.int 1))))
 (.cons (.asg 5 false (.bin .Sub (.bin .LShift (.c (.int 1)) (.var 4)) (.c (.int 1))))
 (.cons (.asgT [(6,false),(7,false)] (.cons (.bin .RShift (.var 1) (.var 4)) (.cons (.bin .BitAnd (.var 1) (.var 5)) .nil)))
 (.cons (.unp [8,9] .bad)
 (.cons (.unp [10,9] .bad)
 (.cons (.ife (.var 3)
  (.cons (.aug 9 .RShift (.c (.int 1)))
  .nil)
  .nil)
 (.cons (.ret (.tup (.cons (.bin .BitOr (.bin .LShift (.var 8) (.var 4)) (.var 10)) (.cons (.var 9) .nil))))
 .nil))))))))))⟩
def f3:dC:=⟨2,9,(.cons (.asg 2 false (.call .bitLength (.cons (.var 1) .nil)))
 (.cons (.asg 3 false (.call (.user 1) (.cons (.var 0) (.cons (.var 2) .nil))))
 (.cons (.asg 4 false (.c (.int 0)))
 (.cons (.asg 5 true (.list .nil))
 (.cons (.for_ 6 (.rev (.var 3))
  (.cons (.unp [7,4] (.call (.user 0) (.cons (.bin .Add (.bin .LShift (.var 4) (.var 2)) (.var 6)) (.cons (.var 1) (.cons (.var 2) .nil)))))
  (.cons (.app (.var 5) (.var 7))
  .nil)))
 (.cons (.rev (.var 5))
 (.cons (.asg 8 false (.call (.user 2) (.cons (.var 5) (.cons (.var 2) .nil))))
 (.cons (.ret (.tup (.cons (.var 8) (.cons (.var 4) .nil))))
 .nil))))))))⟩
def f4:dC:=⟨2,4,(.cons (.ife (.cmp .Eq (.var 1) (.c (.int 0)))
 (.cons .bad
 .nil)
 (.cons (.ife (.cmp .Lt (.var 1) (.c (.int 0)))
  (.cons (.unp [2,3] (.call (.user 4) (.cons (.un .USub (.var 0)) (.cons (.un .USub (.var 1)) .nil))))
  (.cons (.ret (.tup (.cons (.var 2) (.cons (.un .USub (.var 3)) .nil))))
  .nil))
  (.cons (.ife (.cmp .Lt (.var 0) (.c (.int 0)))
   (.cons (.unp [2,3] (.call (.user 4) (.cons (.un .Invert (.var 0)) (.cons (.var 1) .nil))))
   (.cons (.ret (.tup (.cons (.un .Invert (.var 2)) (.cons (.bin .Add (.var 1) (.un .Invert (.var 3))) .nil))))
   .nil))
   (.cons (.ret (.call (.user 3) (.cons (.var 0) (.cons (.var 1) .nil))))
   .nil))
  .nil))
 .nil))
 .nil)⟩
def f5:dC:=⟨3,13,(.cons (.asg 3 false (.call .max (.cons (.var 0) (.cons (.var 1) (.cons (.var 2) .nil)))))
 (.cons (.asg 4 false (.call .min (.cons (.var 0) (.cons (.var 1) (.cons (.var 2) .nil)))))
 (.cons (.asg 5 false (.bin .Add (.var 3) (.var 4)))
 (.cons (.asg 6 false (.bin .Sub (.var 3) (.var 4)))
 (.cons (.asg 7 false (.bin .Div (.var 5) (.c (.float 4611686018427387904))))
 (.cons (.ife (.cmp .Eq (.var 4) (.var 3))
  (.cons (.ret (.tup (.cons (.c (.float 0)) (.cons (.var 7) (.cons (.c (.float 0)) .nil)))))
  .nil)
  .nil)
 (.cons (.ife (.cmp .LtE (.var 7) (.c (.float 4602678819172646912)))
  (.cons (.asg 8 false (.bin .Div (.var 6) (.var 5)))
  .nil)
  (.cons (.asg 8 false (.bin .Div (.var 6) (.bin .Sub (.bin .Sub (.c (.float 4611686018427387904)) (.var 3)) (.var 4))))
  .nil))
 (.cons (.asg 9 false (.bin .Div (.bin .Sub (.var 3) (.var 0)) (.var 6)))
 (.cons (.asg 10 false (.bin .Div (.bin .Sub (.var 3) (.var 1)) (.var 6)))
 (.cons (.asg 11 false (.bin .Div (.bin .Sub (.var 3) (.var 2)) (.var 6)))
 (.cons (.ife (.cmp .Eq (.var 0) (.var 3))
  (.cons (.asg 12 false (.bin .Sub (.var 11) (.var 10)))
  .nil)
  (.cons (.ife (.cmp .Eq (.var 1) (.var 3))
   (.cons (.asg 12 false (.bin .Sub (.bin .Add (.c (.float 4611686018427387904)) (.var 9)) (.var 11)))
   .nil)
   (.cons (.asg 12 false (.bin .Sub (.bin .Add (.c (.float 4616189618054758400)) (.var 10)) (.var 9)))
   .nil))
  .nil))
 (.cons (.asg 12 false (.bin .Mod (.bin .Div (.var 12) (.c (.float 4618441417868443648))) (.c (.float 4607182418800017408))))
 (.cons (.ret (.tup (.cons (.var 12) (.cons (.var 7) (.cons (.var 8) .nil)))))
 .nil)))))))))))))⟩
def f6:dC:=⟨3,12,(.cons (.asg 3 false (.call .max (.cons (.var 0) (.cons (.var 1) (.cons (.var 2) .nil)))))
 (.cons (.asg 4 false (.call .min (.cons (.var 0) (.cons (.var 1) (.cons (.var 2) .nil)))))
 (.cons (.asg 5 false (.bin .Sub (.var 3) (.var 4)))
 (.cons (.asg 6 false (.var 3))
 (.cons (.ife (.cmp .Eq (.var 4) (.var 3))
  (.cons (.ret (.tup (.cons (.c (.float 0)) (.cons (.c (.float 0)) (.cons (.var 6) .nil)))))
  .nil)
  .nil)
 (.cons (.asg 7 false (.bin .Div (.var 5) (.var 3)))
 (.cons (.asg 8 false (.bin .Div (.bin .Sub (.var 3) (.var 0)) (.var 5)))
 (.cons (.asg 9 false (.bin .Div (.bin .Sub (.var 3) (.var 1)) (.var 5)))
 (.cons (.asg 10 false (.bin .Div (.bin .Sub (.var 3) (.var 2)) (.var 5)))
 (.cons (.ife (.cmp .Eq (.var 0) (.var 3))
  (.cons (.asg 11 false (.bin .Sub (.var 10) (.var 9)))
  .nil)
  (.cons (.ife (.cmp .Eq (.var 1) (.var 3))
   (.cons (.asg 11 false (.bin .Sub (.bin .Add (.c (.float 4611686018427387904)) (.var 8)) (.var 10)))
   .nil)
   (.cons (.asg 11 false (.bin .Sub (.bin .Add (.c (.float 4616189618054758400)) (.var 9)) (.var 8)))
   .nil))
  .nil))
 (.cons (.asg 11 false (.bin .Mod (.bin .Div (.var 11) (.c (.float 4618441417868443648))) (.c (.float 4607182418800017408))))
 (.cons (.ret (.tup (.cons (.var 11) (.cons (.var 7) (.cons (.var 6) .nil)))))
 .nil))))))))))))⟩
def f7:dC:=⟨3,8,(.cons (.ife (.cmp .Eq (.var 1) (.c (.float 0)))
 (.cons (.ret (.tup (.cons (.var 2) (.cons (.var 2) (.cons (.var 2) .nil)))))
 .nil)
 .nil)
 (.cons (.asg 3 false (.call .int (.cons (.bin .Mult (.var 0) (.c (.float 4618441417868443648))) .nil)))
 (.cons (.asg 4 false (.bin .Sub (.bin .Mult (.var 0) (.c (.float 4618441417868443648))) (.var 3)))
 (.cons (.asg 5 false (.bin .Mult (.var 2) (.bin .Sub (.c (.float 4607182418800017408)) (.var 1))))
 (.cons (.asg 6 false (.bin .Mult (.var 2) (.bin .Sub (.c (.float 4607182418800017408)) (.bin .Mult (.var 1) (.var 4)))))
 (.cons (.asg 7 false (.bin .Mult (.var 2) (.bin .Sub (.c (.float 4607182418800017408)) (.bin .Mult (.var 1) (.bin .Sub (.c (.float 4607182418800017408)) (.var 4))))))
 (.cons (.asg 3 false (.bin .Mod (.var 3) (.c (.int 6))))
 (.cons (.ife (.cmp .Eq (.var 3) (.c (.int 0)))
  (.cons (.ret (.tup (.cons (.var 2) (.cons (.var 7) (.cons (.var 5) .nil)))))
  .nil)
  .nil)
 (.cons (.ife (.cmp .Eq (.var 3) (.c (.int 1)))
  (.cons (.ret (.tup (.cons (.var 6) (.cons (.var 2) (.cons (.var 5) .nil)))))
  .nil)
  .nil)
 (.cons (.ife (.cmp .Eq (.var 3) (.c (.int 2)))
  (.cons (.ret (.tup (.cons (.var 5) (.cons (.var 2) (.cons (.var 7) .nil)))))
  .nil)
  .nil)
 (.cons (.ife (.cmp .Eq (.var 3) (.c (.int 3)))
  (.cons (.ret (.tup (.cons (.var 5) (.cons (.var 6) (.cons (.var 2) .nil)))))
  .nil)
  .nil)
 (.cons (.ife (.cmp .Eq (.var 3) (.c (.int 4)))
  (.cons (.ret (.tup (.cons (.var 7) (.cons (.var 5) (.cons (.var 2) .nil)))))
  .nil)
  .nil)
 (.cons (.ife (.cmp .Eq (.var 3) (.c (.int 5)))
  (.cons (.ret (.tup (.cons (.var 2) (.cons (.var 5) (.cons (.var 6) .nil)))))
  .nil)
  .nil)
 .nil)))))))))))))⟩
def Nv:dC:=⟨1,1,(.cons (.ret (.cmp .Lt (.var 0) (.glob .ntOffset)))
 .nil)⟩
def Nw:dC:=⟨1,1,(.cons (.ret (.cmp .GtE (.var 0) (.glob .ntOffset)))
 .nil)⟩
def Nx:dC:=⟨1,1,(.cons (.ret (.cmp .Eq (.var 0) (.glob .endMarker)))
 .nil)⟩
def DO:dC:=⟨1,13,(.cons (.asg 1 false (.list (.cons (.tup (.cons (.c (.int 64256)) (.cons (.c (.str "ff")) .nil))) (.cons (.tup (.cons (.c (.int 64257)) (.cons (.c (.str "fi")) .nil))) (.cons (.tup (.cons (.c (.int 64258)) (.cons (.c (.str "fl")) .nil))) (.cons (.tup (.cons (.c (.int 64259)) (.cons (.c (.str "ffi")) .nil))) (.cons (.tup (.cons (.c (.int 64260)) (.cons (.c (.str "ffl")) .nil))) (.cons (.tup (.cons (.c (.int 64261)) (.cons (.c (.str "st")) .nil))) (.cons (.tup (.cons (.c (.int 64262)) (.cons (.c (.str "st")) .nil))) (.cons (.tup (.cons (.c (.int 223)) (.cons (.c (.str "ss")) .nil))) .nil))))))))))
 (.cons (.asg 2 false (.list (.cons (.c (.int 97)) (.cons (.c (.int 65)) (.cons (.c (.int 119808)) (.cons (.c (.int 119860)) (.cons (.c (.int 119912)) (.cons (.c (.int 120016)) (.cons (.c (.int 120172)) (.cons (.c (.int 120224)) (.cons (.c (.int 120276)) (.cons (.c (.int 120328)) (.cons (.c (.int 120380)) (.cons (.c (.int 120432)) .nil))))))))))))))
 (.cons (.asg 3 false (.bin .Add (.list (.cons (.c (.int 173)) (.cons (.c (.int 847)) (.cons (.c (.int 6150)) (.cons (.c (.int 6155)) (.cons (.c (.int 6156)) (.cons (.c (.int 6157)) (.cons (.c (.int 8203)) (.cons (.c (.int 8204)) (.cons (.c (.int 8205)) (.cons (.c (.int 8288)) (.cons (.c (.int 65279)) .nil)))))))))))) (.call .listRange (.cons (.c (.int 65024)) (.cons (.c (.int 65040)) .nil)))))
 (.cons (.asgT [(4,false),(5,false),(6,false)] (.cons (.c (.str "")) (.cons (.c (.str "")) (.cons (.bin .FloorDiv (.var 0) (.c (.int 3))) .nil))))
 (.cons (.for_ 7 (.range (.cons (.bin .Add (.c (.int 1)) (.bin .Mod (.var 0) (.c (.int 3)))) .nil))
  (.cons (.asgT [(8,false),(9,false),(10,false)] (.cons (.bin .Mod (.var 6) (.c (.int 15))) (.cons (.bin .Mod (.bin .FloorDiv (.var 6) (.c (.int 15))) (.c (.int 40))) (.cons (.bin .Mod (.bin .FloorDiv (.var 6) (.c (.int 600))) (.c (.int 28))) .nil))))
  (.cons (.aug 6 .FloorDiv (.c (.int 16800)))
  (.cons (.asg 11 false (.idx (.c (.str "filst")) (.bin .Mod (.var 9) (.c (.int 5)))))
  (.cons (.asg 12 false (.idx (.list (.cons (.c (.int 8497)) (.cons (.c (.int 8464)) (.cons (.c (.int 8466)) (.cons (.c (.int 383)) (.cons (.c (.int 120139)) .nil)))))) (.bin .Mod (.var 9) (.c (.int 5)))))
  (.cons (.ife (.cmp .Lt (.var 8) (.c (.int 2)))
   (.cons (.unp [12,11] (.idx (.var 1) (.bin .Mod (.var 9) (.c (.int 8)))))
   .nil)
   (.cons (.ife (.cmp .Lt (.var 8) (.c (.int 14)))
    (.cons (.asg 12 false (.bin .Sub (.bin .Add (.idx (.var 2) (.bin .Sub (.var 8) (.c (.int 2)))) (.call .ord (.cons (.var 11) .nil))) (.c (.int 97))))
    .nil)
    .nil)
   .nil))
  (.cons (.aug 4 .Add (.bin .Add (.ite (.cmp .Eq (.var 10) (.c (.int 0))) (.c (.str "")) (.call .chr (.cons (.idx (.var 3) (.bin .Sub (.var 10) (.c (.int 1)))) .nil))) (.call .chr (.cons (.var 12) .nil))))
  (.cons (.aug 5 .Add (.var 11))
  .nil))))))))
 (.cons (.ret (.tup (.cons (.var 4) (.cons (.var 5) .nil))))
 .nil))))))⟩
def yz:dC:=⟨1,8,(.cons (.asg 1 false (.call .split (.cons (.c (.str "( ) [ ] : , ; + - * / | & < > = . % { } == != <= >= ~ ^ << >> ** += -= *= /= %= &= |= ^= <<= >>= **= // //= @ @= -> ... := !")) .nil)))
 (.cons (.asgT [(2,false),(3,true)] (.cons (.c (.str "")) (.cons (.list .nil) .nil)))
 (.cons (.for_ 4 (.range (.cons (.c (.int 5)) .nil))
  (.cons (.unp [5,6] (.call (.user 13) (.cons (.idx (.var 0) (.var 4)) .nil)))
  (.cons (.asg 7 false (.bin .Mod (.bin .FloorDiv (.idx (.var 0) (.c (.int 5))) (.bin .Pow (.c (.int 48)) (.var 4))) (.c (.int 48))))
  (.cons (.aug 2 .Add (.bin .Add (.var 5) (.ite (.cmp .Lt (.var 4) (.c (.int 4))) (.idx (.var 1) (.var 7)) (.c (.str "")))))
  (.cons (.aug 3 .Add (.bin .Add (.comp 1 (.cons 8 (.val (.var 6)) .nil (.done (.bin .Add (.c (.int 256)) (.call .index (.cons (.c (.str "filst")) (.cons (.var 8) .nil))))))) (.list (.cons (.ite (.cmp .Lt (.var 4) (.c (.int 4))) (.bin .Add (.c (.int 7)) (.var 7)) (.c (.int 0))) .nil))))
  .nil)))))
 (.cons (.ret (.tup (.cons (.var 2) (.cons (.var 3) .nil))))
 .nil))))⟩
def DP:dC:=⟨1,5,(.cons (.asg 1 false (.comp 1 (.cons 5 (.val (.var 0)) .nil (.done (.call (.user 8) (.cons (.var 5) .nil))))))
 (.cons (.asg 2 false (.call .join (.cons (.c (.str "")) (.cons (.comp 1 (.cons 5 (.range (.cons (.call .len (.cons (.var 0) .nil)) .nil)) (.cons (.cmp .Is (.idx (.var 1) (.var 5)) (.c (.bool false))) .nil) (.done (.call (.user 9) (.cons (.idx (.var 0) (.var 5)) .nil))))) .nil))))
 (.cons (.asg 3 true (.comp 1 (.cons 5 (.val (.var 1)) (.cons (.and (.cons (.cmp .IsNot (.var 5) (.c (.bool true))) (.cons (.cmp .IsNot (.var 5) (.c (.bool false))) .nil))) .nil) (.done (.var 5)))))
 (.cons (.while_ (.cmp .NotEq (.var 2) (.c (.str "")))
  (.cons (.asg 4 false (.call .max (.cons (.bin .Add (.list (.cons (.c (.int 1)) .nil)) (.comp 1 (.cons 5 (.val (.tup (.cons (.c (.int 2)) (.cons (.c (.int 3)) .nil)))) (.cons (.cmp .In (.slice (.var 2) .none (.some (.var 5))) (.glob .tok)) .nil) (.done (.var 5))))) .nil)))
  (.cons (.app (.var 3) (.call .get (.cons (.glob .tok) (.cons (.slice (.var 2) .none (.some (.var 4))) (.cons (.bin .Add (.c (.int 256)) (.call .find (.cons (.c (.str "filst")) (.cons (.slice (.var 2) .none (.some (.var 4))) .nil)))) .nil)))))
  (.cons (.asg 2 false (.slice (.var 2) (.some (.var 4)) .none))
  .nil))))
 (.cons (.ret (.bin .Add (.var 3) (.list (.cons (.c (.int 0)) .nil))))
 .nil)))))⟩
def yA:dC:=⟨1,6,(.cons (.asgT [(1,true),(2,true),(3,false)] (.cons (.list .nil) (.cons (.list (.cons (.list .nil) (.cons (.list .nil) (.cons (.list .nil) (.cons (.list .nil) (.cons (.list .nil) .nil)))))) (.cons (.un .USub (.c (.int 1))) .nil))))
 (.cons (.for_ 4 (.val (.var 0))
  (.cons (.ife (.or (.cons (.cmp .IsNot (.call (.user 10) (.cons (.var 4) .nil)) (.cmp .Lt (.var 4) (.c (.int 256)))) (.cons (.cmp .IsNot (.call (.user 11) (.cons (.var 4) .nil)) (.cmp .Gt (.var 4) (.c (.int 255)))) (.cons (.cmp .IsNot (.call (.user 12) (.cons (.var 4) .nil)) (.cmp .Eq (.var 4) (.c (.int 0)))) .nil))))
   (.cons (.ret (.list .nil))
   .nil)
   .nil)
  (.cons (.ife (.and (.cons (.cmp .Gt (.var 4) (.c (.int 255))) (.cons (.cmp .NotIn (.var 4) (.var 1)) .nil)))
   (.cons (.app (.var 1) (.var 4))
   .nil)
   .nil)
  (.cons (.asg 5 false (.ite (.cmp .Gt (.var 4) (.c (.int 255))) (.call .index (.cons (.var 1) (.cons (.var 4) .nil))) (.un .USub (.c (.int 1)))))
  (.cons (.ife (.and (.cons (.cmp .GtE (.var 5) (.c (.int 0))) (.cons (.cmp .GtE (.var 3) (.c (.int 0))) (.cons (.cmp .NotEq (.var 5) (.var 3)) (.cons (.cmp .NotIn (.var 5) (.idx (.var 2) (.var 3))) .nil)))))
   (.cons (.app (.idx (.var 2) (.var 3)) (.var 5))
   (.cons (.app (.idx (.var 2) (.var 5)) (.var 3))
   .nil))
   .nil)
  (.cons (.asg 3 false (.var 5))
  .nil))))))
 (.cons (.ret (.slice (.var 2) .none (.some (.call .len (.cons (.var 1) .nil)))))
 .nil)))⟩
def yB:dC:=⟨2,14,(.cons (.asg 2 true (.list .nil))
 (.cons (.for_ 3 (.range (.cons (.bin .Mult (.c (.int 3)) (.var 1)) .nil))
  (.cons (.asg 4 false (.bin .FloorDiv (.bin .FloorDiv (.var 0) (.c (.int 1984))) (.bin .Pow (.c (.int 16)) (.bin .FloorDiv (.var 3) (.c (.int 3))))))
  (.cons (.asgT [(5,false),(6,false)] (.cons (.bin .Add (.c (.int 1)) (.bin .Mod (.var 4) (.c (.int 4)))) (.cons (.bin .Add (.c (.int 1)) (.bin .Mod (.bin .FloorDiv (.var 4) (.c (.int 4))) (.c (.int 4)))) .nil)))
  (.cons (.asg 7 false (.bin .Mult (.var 6) (.bin .Sub (.c (.int 8)) (.var 5))))
  (.cons (.asg 8 false (.bin .Div (.bin .Mod (.bin .Add (.bin .Mod (.var 0) (.c (.int 64))) (.bin .Mult (.bin .Mod (.var 3) (.c (.int 3))) (.bin .Add (.c (.int 1)) (.bin .Mod (.bin .FloorDiv (.var 0) (.c (.int 64))) (.c (.int 31)))))) (.c (.int 64))) (.c (.int 64))))
  (.cons (.unp [9,10,11] (.call (.user 7) (.cons (.bin .Add (.bin .Mod (.var 3) (.c (.int 4))) (.var 8)) (.cons (.bin .Div (.var 5) (.c (.int 4))) (.cons (.bin .Div (.var 6) (.c (.int 4))) .nil)))))
  (.cons (.asgT [(12,false),(13,false)] (.cons (.call (.user 6) (.cons (.var 9) (.cons (.var 10) (.cons (.var 11) .nil)))) (.cons (.call (.user 5) (.cons (.var 9) (.cons (.var 10) (.cons (.var 11) .nil)))) .nil)))
  (.cons (.ife (.or (.cons (.cmp .NotEq (.var 12) (.tup (.cons (.var 8) (.cons (.bin .Div (.var 5) (.c (.int 4))) (.cons (.bin .Div (.var 6) (.c (.int 4))) .nil))))) (.cons (.cmp .NotEq (.var 13) (.tup (.cons (.var 8) (.cons (.bin .Div (.var 7) (.c (.int 32))) (.cons (.bin .Div (.bin .Mult (.var 5) (.var 6)) (.call .min (.cons (.var 7) (.cons (.bin .Sub (.c (.int 32)) (.var 7)) .nil)))) .nil))))) .nil)))
   (.cons (.ret (.list .nil))
   .nil)
   .nil)
  (.cons (.app (.var 2) (.idx (.idx (.tup (.cons (.var 12) (.cons (.var 13) .nil))) (.bin .Mod (.var 3) (.c (.int 2)))) (.c (.int 0))))
  .nil)))))))))
 (.cons (.ret (.var 2))
 .nil)))⟩
def yC:dC:=⟨3,5,(.cons (.asg 3 false (.list (.cons (.list .nil) .nil)))
 (.cons (.for_ 4 (.range (.cons (.call .len (.cons (.var 0) .nil)) .nil))
  (.cons (.asg 3 false (.comp 2 (.cons 5 (.val (.var 3)) .nil (.cons 6 (.range (.cons (.var 2) .nil)) (.cons (.cmp .Eq (.comp 1 (.cons 7 (.val (.idx (.var 0) (.var 4))) (.cons (.and (.cons (.cmp .Lt (.var 7) (.var 4)) (.cons (.cmp .Eq (.idx (.var 5) (.var 7)) (.idx (.var 1) (.bin .Add (.bin .Mult (.c (.int 3)) (.var 4)) (.var 6)))) .nil))) .nil) (.done (.var 7)))) (.list .nil)) .nil) (.done (.bin .Add (.var 5) (.list (.cons (.idx (.var 1) (.bin .Add (.bin .Mult (.c (.int 3)) (.var 4)) (.var 6))) .nil))))))))
  .nil))
 (.cons (.ret (.call .len (.cons (.var 3) .nil)))
 .nil)))⟩
def yD:dC:=⟨1,9,(.cons (.asg 1 true (.list (.cons (.dict (.cons (.c (.int 0)) .nil) (.cons (.c (.int 0)) .nil)) .nil)))
 (.cons (.for_ 2 (.range (.cons (.c (.int 1)) (.cons (.bin .Pow (.c (.int 2)) (.call .len (.cons (.var 0) .nil))) .nil)))
  (.cons (.asg 3 true (.dict .nil .nil))
  (.cons (.for_ 4 (.range (.cons (.call .len (.cons (.var 0) .nil)) .nil))
   (.cons (.ife (.cmp .Eq (.bin .Mod (.bin .FloorDiv (.var 2) (.bin .Pow (.c (.int 2)) (.var 4))) (.c (.int 2))) (.c (.int 1)))
    (.cons (.asg 5 false (.bin .Sub (.var 2) (.bin .Pow (.c (.int 2)) (.var 4))))
    (.cons (.asg 6 false (.bin .Mult (.bin .Pow (.c (.int 32)) (.var 4)) (.call .sum (.cons (.comp 1 (.cons 9 (.val (.idx (.var 0) (.var 4))) (.cons (.cmp .Eq (.bin .Mod (.bin .FloorDiv (.var 5) (.bin .Pow (.c (.int 2)) (.var 9))) (.c (.int 2))) (.c (.int 1))) .nil) (.done (.bin .Pow (.c (.int 2)) (.var 9))))) .nil))))
    (.cons (.asg 7 false (.ite (.cmp .Eq (.bin .Mod (.var 5) (.bin .Pow (.c (.int 2)) (.var 4))) (.c (.int 0))) (.c (.int 1)) (.c (.int 0))))
    (.cons (.for_ 8 (.val (.idx (.var 1) (.var 5)))
     (.cons (.put 3 (.bin .Add (.var 8) (.var 6)) (.call .max (.cons (.call .get (.cons (.var 3) (.cons (.bin .Add (.var 8) (.var 6)) (.cons (.c (.int 0)) .nil)))) (.cons (.bin .Add (.idx (.idx (.var 1) (.var 5)) (.var 8)) (.var 7)) .nil))))
     .nil))
    .nil))))
    .nil)
   .nil))
  (.cons (.app (.var 1) (.var 3))
  .nil))))
 (.cons (.ret (.var 1))
 .nil)))⟩
def Ny:dC:=⟨2,2,(.cons (.ret (.and (.cons (.cmp .Eq (.var 0) (.var 1)) (.cons (.cmp .Eq (.comp 1 (.cons 2 (.val (.var 0)) (.cons (.or (.cons (.call .isBool (.cons (.var 2) .nil)) (.cons (.un .Not (.call .isInt (.cons (.var 2) .nil))) .nil))) .nil) (.done (.var 2)))) (.list .nil)) .nil))))
 .nil)⟩
def mR:dC:=⟨1,24,(.cons (.asg 1 false (.list (.cons (.c (.int 1715446)) (.cons (.c (.int 365853733)) (.cons (.c (.int 816530545)) (.cons (.c (.int 225)) (.cons (.c (.int 318)) (.cons (.c (.int 5174684)) (.cons (.c (.int 75120764)) (.cons (.c (.int 123)) .nil))))))))))
 (.cons (.asg 2 false (.slice (.var 0) .none (.some (.c (.int 60)))))
 (.cons (.asg 3 false (.comp 1 (.cons 24 (.range (.cons (.c (.int 8)) .nil)) .nil (.done (.bin .Add (.idx (.var 1) (.var 24)) (.call .sum (.cons (.comp 1 (.cons 25 (.range (.cons (.var 24) (.cons (.call .len (.cons (.var 2) .nil)) (.cons (.c (.int 8)) .nil)))) .nil (.done (.bin .Mod (.idx (.var 2) (.var 25)) (.bin .Pow (.c (.int 10)) (.c (.int 15))))))) .nil)))))))
 (.cons (.unp [4,5] (.call (.user 14) (.cons (.var 3) .nil)))
 (.cons (.asg 6 false (.call (.user 15) (.cons (.var 4) .nil)))
 (.cons (.ife (.cmp .NotEq (.var 6) (.var 5))
  (.cons (.ret (.c (.bool false)))
  .nil)
  .nil)
 (.cons (.asg 7 false (.call (.user 16) (.cons (.bin .Add (.var 6) (.list (.cons (.c (.int 255)) (.cons (.un .USub (.c (.int 1))) .nil)))) .nil)))
 (.cons (.asg 8 false (.call (.user 17) (.cons (.idx (.var 3) (.c (.int 6))) (.cons (.call .len (.cons (.var 7) .nil)) .nil))))
 (.cons (.asg 9 false (.bin .Div (.bin .Mod (.idx (.var 3) (.c (.int 6))) (.c (.int 5))) (.c (.int 4))))
 (.cons (.ife (.or (.cons (.cmp .Eq (.var 8) (.list .nil)) (.cons (.cmp .NotEq (.bin .Add (.bin .Add (.call (.user 6) (.cons (.var 9) (.cons (.var 9) (.cons (.var 9) .nil)))) (.call (.user 5) (.cons (.var 9) (.cons (.var 9) (.cons (.var 9) .nil))))) (.call (.user 7) (.cons (.bin .Add (.var 9) (.bin .Div (.c (.int 1)) (.c (.int 8)))) (.cons (.c (.int 0)) (.cons (.var 9) .nil))))) (.tup (.cons (.c (.int 0)) (.cons (.c (.int 0)) (.cons (.var 9) (.cons (.c (.int 0)) (.cons (.var 9) (.cons (.c (.int 0)) (.cons (.var 9) (.cons (.var 9) (.cons (.var 9) .nil))))))))))) .nil)))
  (.cons (.ret (.c (.bool false)))
  .nil)
  .nil)
 (.cons (.asgT [(10,false),(11,false)] (.cons (.call .len (.cons (.var 7) .nil)) (.cons (.call (.user 19) (.cons (.var 7) .nil)) .nil)))
 (.cons (.asg 12 false (.comp 1 (.cons 24 (.val (.idx (.var 11) (.un .USub (.c (.int 1))))) (.cons (.cmp .Eq (.comp 1 (.cons 25 (.range (.cons (.var 10) .nil)) (.cons (.cmp .Eq (.bin .Mod (.bin .FloorDiv (.var 24) (.bin .Pow (.c (.int 32)) (.var 25))) (.c (.int 32))) (.c (.int 0))) .nil) (.done (.var 25)))) (.list (.cons (.bin .Mod (.idx (.var 3) (.c (.int 7))) (.var 10)) .nil))) .nil) (.done (.var 24)))))
 (.cons (.asg 13 false (.call .listVals (.cons (.idx (.var 11) (.un .USub (.c (.int 1)))) .nil)))
 (.cons (.asg 14 false (.bin .Add (.list (.cons (.c (.int 0)) (.cons (.call .len (.cons (.var 12) .nil)) .nil))) (.comp 1 (.cons 24 (.range (.cons (.c (.int 2)) (.cons (.bin .Add (.var 10) (.c (.int 1))) .nil))) .nil (.done (.call .count (.cons (.var 13) (.cons (.var 24) .nil))))))))
 (.cons (.asg 15 false (.bin .Add (.c (.int 10)) (.bin .Mod (.bin .FloorDiv (.idx (.var 3) (.c (.int 7))) (.c (.int 60))) (.c (.int 23)))))
 (.cons (.asgT [(16,false),(17,false)] (.cons (.bin .Pow (.c (.int 2)) (.var 15)) (.cons (.call (.user 2) (.cons (.var 14) (.cons (.var 15) .nil))) .nil)))
 (.cons (.asg 18 false (.ite (.cmp .Eq (.bin .Mod (.var 10) (.c (.int 2))) (.c (.int 1))) (.un .USub (.var 17)) (.var 17)))
 (.cons (.for_ 19 (.range (.cons (.c (.int 1)) (.cons (.c (.int 4)) .nil)))
  (.cons (.asg 20 false (.call (.user 18) (.cons (.var 7) (.cons (.var 8) (.cons (.var 19) .nil)))))
  (.cons (.asg 21 false (.bin .Sub (.c (.int 1)) (.bin .Mult (.c (.int 2)) (.bin .Mod (.bin .Add (.var 19) (.idx (.var 3) (.c (.int 7)))) (.c (.int 2))))))
  (.cons (.ife (.or (.cons (.un .Not (.call (.user 20) (.cons (.call (.user 4) (.cons (.bin .Mult (.var 21) (.var 18)) (.cons (.bin .Mult (.var 21) (.bin .Add (.var 16) (.var 19))) .nil))) (.cons (.tup (.cons (.bin .FloorDiv (.bin .Sub (.var 18) (.var 20)) (.bin .Add (.var 16) (.var 19))) (.cons (.bin .Mult (.var 21) (.var 20)) .nil))) .nil)))) (.cons (.cmp .NotEq (.call (.user 2) (.cons (.call (.user 1) (.cons (.var 20) (.cons (.var 19) .nil))) (.cons (.var 19) .nil))) (.var 20)) .nil)))
   (.cons (.ret (.c (.bool false)))
   .nil)
   .nil)
  .nil))))
 (.cons (.asg 22 false (.bin .FloorDiv (.bin .Sub (.var 17) (.call .len (.cons (.var 13) .nil))) (.bin .Sub (.var 16) (.c (.int 1)))))
 (.cons (.ife (.or (.cons (.un .Not (.call (.user 20) (.cons (.call (.user 3) (.cons (.var 17) (.cons (.bin .Sub (.var 16) (.c (.int 1))) .nil))) (.cons (.tup (.cons (.var 22) (.cons (.call .len (.cons (.var 13) .nil)) .nil))) .nil)))) (.cons (.un .Not (.call (.user 20) (.cons (.call (.user 1) (.cons (.var 22) (.cons (.var 15) .nil))) (.cons (.comp 1 (.cons 24 (.range (.cons (.var 10) .nil)) .nil (.done (.call .sum (.cons (.slice (.var 14) (.some (.bin .Add (.var 24) (.c (.int 1)))) .none) .nil))))) .nil)))) .nil)))
  (.cons (.ret (.c (.bool false)))
  .nil)
  .nil)
 (.cons (.asg 23 false (.call .sum (.cons (.comp 1 (.cons 24 (.range (.cons (.bin .Pow (.c (.int 2)) (.var 10)) .nil)) .nil (.done (.bin .Mult (.call .len (.cons (.idx (.var 11) (.var 24)) .nil)) (.call .len (.cons (.idx (.var 11) (.bin .Sub (.un .USub (.c (.int 1))) (.var 24))) .nil)))))) .nil)))
 (.cons (.ret (.and (.cons (.call (.user 20) (.cons (.call (.user 1) (.cons (.var 17) (.cons (.var 15) .nil))) (.cons (.var 14) .nil))) (.cons (.call (.user 20) (.cons (.bin .Add (.call (.user 4) (.cons (.c (.int 0)) (.cons (.bin .Sub (.c (.int 2)) (.var 16)) .nil))) (.call (.user 4) (.cons (.var 17) (.cons (.bin .Sub (.c (.int 2)) (.var 16)) .nil)))) (.cons (.tup (.cons (.c (.int 0)) (.cons (.c (.int 0)) (.cons (.bin .Sub (.bin .FloorDiv (.bin .Sub (.var 23) (.var 17)) (.bin .Sub (.var 16) (.c (.int 2)))) (.c (.int 1))) (.cons (.bin .Sub (.bin .Add (.var 23) (.c (.int 2))) (.var 16)) .nil))))) .nil))) .nil))))
 .nil))))))))))))))))))))))⟩
theorem Ob:fns 0=some f0:=by kernel_rfl
theorem Oo:fns 3=some f3:=by kernel_rfl
theorem yJ:fns 4=some f4:=by kernel_rfl
theorem D3:fns 5=some f5:=by kernel_rfl
theorem D4:fns 6=some f6:=by kernel_rfl
theorem D5:fns 7=some f7:=by kernel_rfl
theorem Oc:fns 10=some Nv:=by kernel_rfl
theorem Od:fns 11=some Nw:=by kernel_rfl
theorem Oe:fns 12=some Nx:=by kernel_rfl
theorem Of:fns 13=some DO:=by kernel_rfl
theorem Og:fns 14=some yz:=by kernel_rfl
theorem Oh:fns 15=some DP:=by kernel_rfl
theorem Oi:fns 16=some yA:=by kernel_rfl
theorem Oj:fns 17=some yB:=by kernel_rfl
theorem Ok:fns 18=some yC:=by kernel_rfl
theorem Ol:fns 19=some yD:=by kernel_rfl
theorem Om:fns 20=some Ny:=by kernel_rfl
theorem On:fns 21=some mR:=by kernel_rfl
theorem u7:fns 1=none/\fns 2=none/\fns 8=none/\fns 9=none:=lg (by kernel_rfl) (by kernel_rfl) (by kernel_rfl) (by kernel_rfl)
abbrev Fi (n:Nat):cX:=nQ gb fns n
theorem uZ (h:fns k=some d):Fi (n+1) k as=oO (Fi n) d as:=by
 show(match fns k with|some d=>oO (nQ gb fns n) d as|none=>gb k as)=_;refine aa h ?_;rfl
theorem u0 (h:fns k=none):Fi (n+1) k as=gb k as:=by
 show(match fns k with|some d=>oO (nQ gb fns n) d as|none=>gb k as)=_;refine aa h ?_;rfl
theorem NB:Fi (n+1) 10 [.int x]=some (.bool (decide (x<256))):=by
 refine aa (uZ Oc) ?_;rfl
theorem NC:Fi (n+1) 11 [.int x]=some (.bool (decide (256<=x))):=by
 refine aa (uZ Od) ?_;rfl
theorem ND:Fi (n+1) 12 [.int x]=some (.bool (decide (x=0))):=by
 refine aa (uZ Oe) ?_;rfl
theorem uY {n a m:Nat}(ha:a<2^1000)(hm:0<m)(oz:m<=64):Fi (n+1) 1 [.int a,.int m]=some (.lst ((dg m (bA m a) a).map .int)):=by
 refine aa (u0 u7.1) ?_;refine aa (show gb 1=tC from rfl) ?_;refine aa Ux ?_;have h1:(a:Int)<2^1000:=by
  have:(a:Int)<((2^1000:Nat):Int):=jcq.mpr ha
  rwa [jbE]at this
 refine aa (if_pos ⟨Zf _,h1,jcq.mpr hm,jbU.mpr oz⟩) ?_;rfl
theorem rG (is:List Int):cQ (is.map AV.int)=some is:=by
 unfold cQ
 induction is with
 |nil=>rfl
 |cons i is ih=>rw[Zy,gO,ih];rfl
theorem yF {n m:Nat}{is:List Int}(hl:is.length<=1000)(oz:m<=64)(hd:∀d∈is,d.natAbs<2^64):Fi (n+1) 2 [.lst (is.map .int),.int m]=some (.int (cB m is)):=by
 refine aa (u0 u7.2.1) ?_;refine aa (show gb 2=tD from rfl) ?_;refine aa Uz ?_;refine aa (rG _) ?_;exact if_pos ⟨hl,Zf _,jbU.mpr oz,Y3.mpr λd h=>decide_eq_true (hd d h)⟩
theorem NT:Fi (n+1) 8 [.str [c]]=some (.bool (dz c)):=by
 refine aa (u0 u7.2.2.1) ?_;rfl
theorem NU:Fi (n+1) 9 [.str [c]]=some (.str (iy c)):=by
 refine aa (u0 u7.2.2.2) ?_;rfl
section
theorem fB (hf:fns k=some d)(hl:as.length=d.nargs)(h:aE (Fi N) (as.map some++Ze (d.nvars-d.nargs) none) [] d.body=some (.ret v)):Fi (N+1) k as=some v:=by
 rw[uZ hf];unfold oO;rw[if_pos hl,h]
theorem iH (h:cU Φ ρ σ s=some (.next av an))(h2:aE Φ av an ss=r):aE Φ ρ σ (.cons s ss)=r:=by
 rewrite [yy];refine aa h ?_;exact h2
theorem yt (h:cU Φ ρ σ s=some (.ret v)):aE Φ ρ σ (.cons s ss)=some (.ret v):=by
 rw[yy,h]
theorem bH:aE Φ ρ σ .nil=some (.next ρ σ):=by rw[Nq]
theorem aS (h:ev Φ σ ρ e=some v)(h2:aE Φ (ρ.set x (some v)) σ ss=r):aE Φ ρ σ (.cons (.asg x false e) ss)=r:=by
 refine iH ?_ h2;rw[yu,Dc,if_neg ZY,h];rfl
theorem sm (h:oS Φ ρ σ e=some (v,an))(h2:aE Φ (ρ.set x (some v)) an ss=r):aE Φ ρ σ (.cons (.asg x true e) ss)=r:=by
 refine iH ?_ h2;rw[yu,Dc,if_pos rfl,h]
theorem n8 (h:ev Φ σ ρ e=some (.tup vs))(hs:eC ρ xs vs=some av)(h2:aE Φ av σ ss=r):aE Φ ρ σ (.cons (.unp xs e) ss)=r:=by
 refine iH ?_ h2;rw[DI,h];simp only[hs];rfl
theorem mN (h:eO Φ ρ σ xs es=some (vs,an))(hs:eC ρ (xs.map (·.1)) vs=some av)(h2:aE Φ av an ss=r):aE Φ ρ σ (.cons (.asgT xs es) ss)=r:=by
 refine iH ?_ h2;rw[DJ,h];simp only[hs];rfl
theorem dW (h:ev Φ σ ρ e=some v)(hf:aY σ 6 v=some u):aE Φ ρ σ (.cons (.ret e) ss)=some (.ret u):=by
 refine yt ?_;rw[DH,h];simp only[hf];rfl
theorem mO (h:ev Φ σ ρ c=some (.bool true))(ha:aE Φ ρ σ a=some (.next av an))(h2:aE Φ av an ss=r):aE Φ ρ σ (.cons (.ife c a b) ss)=r:=by
 refine iH ?_ h2;rw[sn,h];exact ha
theorem du (h:ev Φ σ ρ c=some (.bool false))(ha:aE Φ ρ σ b=some (.next av an))(h2:aE Φ av an ss=r):aE Φ ρ σ (.cons (.ife c a b) ss)=r:=by
 refine iH ?_ h2;rw[sn,h];exact ha
theorem jF (h:ev Φ σ ρ c=some (.bool true))(ha:aE Φ ρ σ a=some (.ret v)):aE Φ ρ σ (.cons (.ife c a b) ss)=some (.ret v):=by
 refine yt ?_;rw[sn,h];exact ha
theorem qc (h:ev Φ σ ρ c=some (.bool false))(ha:aE Φ ρ σ b=some (.ret v)):aE Φ ρ σ (.cons (.ife c a b) ss)=some (.ret v):=by
 refine yt ?_;rw[sn,h];exact ha
theorem kX (h:lQ Φ ρ σ it=some vs)(hf:eP (λρ σ v=>aE Φ (ρ.set x (some v)) σ body) vs ρ σ=some (.next av an))(h2:aE Φ av an ss=r):aE Φ ρ σ (.cons (.for_ x it body) ss)=r:=by
 refine iH ?_ h2;rewrite [DM];refine aa h ?_;exact hf
theorem No (hf:jr (λρ σ=>ev Φ σ ρ c) (λρ σ=>aE Φ ρ σ body) 100 ρ σ=some (.next av an))(h2:aE Φ av an ss=r):aE Φ ρ σ (.cons (.while_ c body) ss)=r:=by
 refine iH ?_ h2;rw[DG];exact hf
theorem xB (h:¬x=y):j3 σ .Eq (.int x) (.int y)=some false:=congrArg some (decide_eq_false h)
theorem Ck (h:x<y):j3 σ .Lt (.int x) (.int y)=some true:=congrArg some (decide_eq_true h)
theorem xC (h:¬x<y):j3 σ .Lt (.int x) (.int y)=some false:=congrArg some (decide_eq_false h)
theorem Ow (h:f ρ σ u=some (.next av an))(h2:eP f vs av an=r):eP f (u::vs) ρ σ=r:=by rewrite [yK];refine aa h ?_;exact h2
theorem qb (h1:ev Φ σ ρ o=some (.ref i))(h2:ev Φ σ ρ e=some v)(h3:σ[i]?=some (.list xs))(hl:xs.length<=100000)(hs:∀j,v≠.ref j)(h4:aE Φ ρ (σ.set i (.list (xs++[v]))) ss=r):aE Φ ρ σ (.cons (.app o e) ss)=r:=by
 refine iH ?_ h4;rw[yx,h1];dsimp only;rw[h2];simp only[h3];rw[if_pos hl]
theorem cL (h:bX Φ σ ρ as=some vs)(hf:bh (aY [] 6) vs=some vs)(hc:Φ k vs=some v):ev Φ σ ρ (.call (.user k) as)=some v:=by
 rewrite [kV];refine aa h ?_;show nP Φ σ k vs=_;unfold nP;refine aa hf ?_;exact hc
theorem M' (h:bX Φ σ ρ as=some vs)(hn:bh (aY [] 6) vs=none)(hf:bh (aY σ 6) vs=some us)(hc:Φ k us=some v)(hs:v.scalar=true):ev Φ σ ρ (.call (.user k) as)=some v:=by
 rewrite [kV];refine aa h ?_;show nP Φ σ k vs=_;unfold nP;refine aa hn ?_;refine aa hf ?_;simp only[hc,hs,if_true]
end
theorem NA (h:(Zj a:Int)-k<=4000)(hb:b≠0)(hs:small b=true):Fi (n+1) 0 [.int a,.int b,.int k]=some (.tup [.int (a.fdiv b),.int (a.fmod b)]):=by
 refine fB Ob rfl (jF ?_ (dW (v:=.tup [.int (a.fdiv b),.int (a.fmod b)]) ?_ rfl))
 ·have e:ev (Fi n) [] [some (.int a),some (.int b),some (.int k),none,none,none,none,none,none,none,none] (.call .bitLength (.cons (.var 0) .nil))=some (.int (Zj a)):=by rw[kV,cT (ag rfl)];rfl
  exact cK (cb e (ag (i:=2) rfl) rfl) (y:=.int 4000) rfl (congrArg some (decide_eq_true h))
 ·rw[kV,dM (ag rfl) (ag rfl)];exact if_neg λq=>q.elim hb λq=>by rw[hs]at q;exact nomatch q
def i7 (n:Nat):Nat->Nat->List Nat
 |0,_=>[]
 |k+1,a=>a%2^n::i7 n k (a/2^n)
theorem LH:i7 n 0 x=[]:=rfl
theorem pJ:i7 n (k+1) x=x%2^n::i7 n k (x/2^n):=rfl
theorem rZ (n:Nat):∀k a,dg n k a=(i7 n k a).map Z0
 |0,_=>rfl
 |k+1,a=>by rw[nS,pJ,Zy,rZ n k];rfl
theorem xT (n:Nat):∀k a,∀d∈i7 n k a,d<2^n
 |0,_,d,h=>nomatch h
 |k+1,a,d,h=>by
  rw[pJ]at h;rcases ZM.mp h with rfl|h
  ·exact ZQ _ (jay _)
  ·exact xT n k _ d h
theorem CS (n:Nat):∀k a,(i7 n k a).length=k
 |0,_=>rfl
 |k+1,a=>by rw[pJ,Zl,CS n k]
def i8 (n b:Nat)(st:Nat×List Nat)(d:Nat):Nat×List Nat:=((st.1*2^n+d)%b,st.2++[(st.1*2^n+d)/b])
def j6 (n b k a:Nat):Nat×List Nat:=(i7 n k a).reverse.foldl (i8 n b) (0,[])
theorem LB (n b k a:Nat):j6 n b (k+1) a=i8 n b (j6 n b k (a/2^n)) (a%2^n):=by
 unfold j6;rw[pJ,jbD,jic];rfl
theorem G4 (n q:Nat)(l:List Nat):cB n (((q::l)).map Z0)=q+cB n (l.map Z0)*2^n:=by
 show(q:Int)+_*2^((n:Int)).toNat=_;refine aa (Zx _) ?_;rfl
theorem CO (n b:Nat)(hb:0<b):∀k a,a<2^(n*k)->(j6 n b k a).1=a%b/\cB n ((j6 n b k a).2.reverse.map Z0)=((a/b:Nat):Int)/\(j6 n b k a).2.length=k
 |0,a,h=>by
  have:a=0:=by simpa using h
  subst this;simp[j6,LH,cB]
 |k+1,a,h=>by
  have h':a/2^n<2^(n*k):=by
   rw[jcX (jay _),<-jdW]
   rwa [jdC]at h
  refine fY (CO n b hb k (a/2^n) h') λe1 e2 e3=>?_;rw[LB];unfold i8;refine aa e1 ?_;have hx:a/2^n%b*2^n+a%2^n+a/2^n/b*b*2^n=a:=by
   have h1:=jbZ (a/2^n) b;have h2:=jbZ a (2^n);have h3:(b*(a/2^n/b)+a/2^n%b)*2^n=a/2^n*2^n:=by refine aa h1 ?_;rfl
   rw[jdn]at h3;have h4:a/2^n/b*b*2^n=b*(a/2^n/b)*2^n:=by refine aa (jaI b _) ?_;rfl
   have h5:a/2^n*2^n=2^n*(a/2^n):=jaI _ _
   lia
  generalize hX:a/2^n%b*2^n+a%2^n=X at hx;have fb:X+b*(a/2^n/b*2^n)=a:=by
   rw[jaI (a/2^n/b) b,Nat.mul_assoc]at hx;exact hx
  refine cz ?_ ?_ ?_
  ·show X%b=a%b;have e:(X+b*(a/2^n/b*2^n))%b=a%b:=congrArg (·%b) fb;rw[jdT]at e;exact e
  ·show cB n ((((j6 n b k (a/2^n)).2++[X/b]).reverse).map Z0)=_;refine aa jhx ?_;refine aa List.reverse_singleton ?_;refine aa List.singleton_append ?_;rewrite [G4];refine aa e2 ?_;have:a/b=X/b+a/2^n/b*2^n:=by
    have e:(X+b*(a/2^n/b*2^n))/b=a/b:=congrArg (·/b) fb;rw[jeR _ _ hb]at e;exact e.symm
   refine aa this ?_;refine aa (jbn _ _) ?_;refine aa (jaV _ _) ?_;refine aa (jbE _ _) ?_;rfl
  ·simp[e3]
theorem LQ (hb:0<b)(hr:st.1<b)(hd:d<2^n):(i8 n b st d).1<b/\(st.1*2^n+d)/b<2^n:=by
 refine⟨ZQ _ hb,?_⟩;rw[jcX hb];have:(st.1+1)*2^n<=b*2^n:=jeO _ hr;rw[jdn,jdX]at this;refine aa (jaI (2^n) b) ?_
 lia
def CL:dw:=.cons (.unp [7,4] (.call (.user 0) (.cons (.bin .Add (.bin .LShift (.var 4) (.var 2)) (.var 6)) (.cons (.var 1) (.cons (.var 2) .nil))))) (.cons (.app (.var 5) (.var 7)) .nil)
theorem Ls {N n b x d:Nat}(hb:0<b)(qn:b<2^n)(hn:n<=64)(hr:x<b)(hd:d<2^n):Fi (N+1) 0 [.int ((x:Int)*2^n+d),.int b,.int n]=some (.tup [.int (((x*2^n+d)/b:Nat):Int),.int (((x*2^n+d)%b:Nat):Int)]):=by
 have EK:b<2^64:=be qn (Zi (by decide) hn);have hX:x*2^n+d<2^128:=by
  have e1:(x+1)*2^n<=2^64*2^64:=jbe (YY hr (ZI EK)) (Zi (by decide) hn);rw[jdn,jdX]at e1;exact be (Nat.add_lt_add_left hd _) e1
 have e:((x:Int)*2^n+d)=((x*2^n+d:Nat):Int):=by rw[jbn,jaV,jbE];rfl
 generalize x*2^n+d=X at *;have:=vW (a:=(X:Int)) (k:=128) (by rwa [ZN]);rw[e,NA (by lia) (ub hb) (decide_eq_true (by rw[ZN];exact EK)),jak _ (Zf _),jcl _ (Zf _),<-jcr,<-jfI]
theorem LR {N n b x d:Nat}{l:List Nat}{A D v:Option AV}(hb:0<b)(qn:b<2^n)(hn:n<=64)(hr:x<b)(hd:d<2^n)(hl:l.length<=1000):
 aE (Fi (N+1)) [A,some (.int b),some (.int n),D,some (.int x),some (.ref 0),some (.int d),v,none] [.list ((l.map Z0).map .int)] CL =
  some (.next [A,some (.int b),some (.int n),D,some (.int (i8 n b (x,l) d).1),some (.ref 0),some (.int d),some (.int (((x*2^n+d)/b:Nat):Int)),none] [.list (((i8 n b (x,l) d).2.map Z0).map .int)]):=by
 have sZ:x<2^4096:=be (jai hr qn) (Zi (by decide) (YY hn (by decide)));have ec:bX (Fi (N+1)) [.list ((l.map Z0).map .int)] [A,some (.int b),some (.int n),D,some (.int x),some (.ref 0),some (.int d),v,none] (.cons (.bin .Add (.bin .LShift (.var 4) (.var 2)) (.var 6)) (.cons (.var 1) (.cons (.var 2) .nil)))=some [.int ((x:Int)*2^n+d),.int b,.int n]:=
  gJ (cb (cb (ag (i:=4) rfl) (ag (i:=2) rfl) (GA (YY hn (by decide)) sZ)) (ag (i:=6) rfl) rfl) (ag rfl) (ag rfl)
 refine n8 (cL ec rfl (Ls hb qn hn hr hd)) rfl (qb (i:=0) (xs:=(l.map Z0).map .int) (v:=.int (((x*2^n+d)/b:Nat):Int)) (ag rfl) (ag rfl) rfl (by refine aa (YX _) ?_;refine aa (YX _) ?_;exact YY hl (by decide)) (λj=>nofun) (bH.trans ?_));rewrite [i8];refine aa ZO ?_;refine aa ZO ?_;rfl
theorem LN {N n b:Nat}{A D:Option AV}(hb:0<b)(qn:b<2^n)(hn:n<=64)(L:List Nat):∀(st:Nat×List Nat) (u v:Option AV),st.1<b->(∀d∈L,d<2^n)->st.2.length+L.length<=1000->(∀q∈st.2,q<2^n) ->
 ∃u' v',eP (λρ σ v=>aE (Fi (N+1)) (ρ.set 6 (some v)) σ CL) (L.map λ(d:Nat)=>AV.int d) [A,some (.int b),some (.int n),D,some (.int st.1),some (.ref 0),u,v,none] [.list ((st.2.map Z0).map .int)] =
  some (.next [A,some (.int b),some (.int n),D,some (.int (L.foldl (i8 n b) st).1),some (.ref 0),u',v',none] [.list ((((L.foldl (i8 n b) st).2).map Z0).map .int)])/\(∀q∈(L.foldl (i8 n b) st).2,q<2^n):=by
 induction L with
 |nil=>exact λst u v Y Y Y hq=>cZ u v rfl hq
 |cons d L ih =>
  intro st u v hr hd hl hq;have k0:=hd d Zc;refine bN (LQ hb hr k0) λh1 h2=>?_;rw[Zl]at hl;refine bB (ih (i8 n b st d) (some (.int d)) (some (.int (((st.1*2^n+d)/b:Nat):Int))) h1 (λx hx=>hd x (Zt _ hx)) (by rw[i8,Y8,jba];exact ua hl) (λq Qs=>(Zz.mp Qs).elim (hq q) λh=>Zn.mp h▸h2)) λu' v' e q=>?_;exact cZ u' v' (Ow (LR (l:=st.2) hb qn hn hr k0 (YY (ZD _ _) hl)) e) q
theorem DT {N a b:Nat}(ha:a<2^1000)(hb:0<b)(ki:b<2^64):Fi (N+2) 3 [.int a,.int b]=some (.tup [.int ((a/b:Nat):Int),.int ((a%b:Nat):Int)]):=by
 generalize hm:Zj (b:Int)=m;have EL:b<2^m:=hm▸z7;have vF:m<=64:=by refine rwj hm ?_;exact vW (by rwa [ZN])
 have vE:0<m:=by
  rcases jhY m with h|h
  ·subst h;simp at EL;lia
  ·exact h
 have hk:=xS vE ha;have vo:=xR (a:=a) vE;refine fY (CO m b hb (bA m a) a vo) λs1 s2 s3=>?_;refine bB (LN (N:=N) (A:=some (.int a)) (D:=some (.lst ((dg m (bA m a) a).map .int))) hb EL vF (i7 m (bA m a) a).reverse (0,[]) none none hb (λd hd=>xT m _ _ d (jfD.mp hd)) (by simp[CS];exact hk) (λq h=>nomatch h)) λu' v' hl hq=>?_;have hL:((dg m (bA m a) a).map AV.int).reverse=(i7 m (bA m a) a).reverse.map λ(d:Nat)=>AV.int d:=by
  rewrite [rZ];refine aa ZF ?_;refine rwj jfE ?_;rfl
 have PN:(i7 m (bA m a) a).reverse.foldl (i8 m b) (0,[])=j6 m b (bA m a) a:=rfl;rw[PN]at hl hq;have sN:∀l:List Int,bh (aY [AO.list (l.map .int)] 6) [AV.ref 0,.int m]=some [.lst (l.map .int),.int m]:=λl=>by
  have h5:aY [AO.list (l.map .int)] 6 (.ref 0)=some (.lst (l.map .int)):=by
   show(bh (aY [AO.list (l.map .int)] 5) (l.map .int)).map AV.lst=_;rw[yP];rfl
  simp only[gO,h5];rfl
 have Yk:∀l:List Int,bh (aY [] 6) [AV.ref 0,.int m]=none:=λl=>rfl;have h2:=yF (n:=N) (m:=m) (is:=(j6 m b (bA m a) a).2.reverse.map Z0) (by simp[s3];exact hk) vF (λd hd=>by
  refine au (Zk.mp hd) ?_;rintro q h1 rfl;exact be (hq q (jfD.mp h1)) (Zi (by decide) vF))
 rw[s2]at h2;rw[s1]at hl;have PG:bh (aY [] 6) [AV.int (a:Int),.int m]=some [AV.int (a:Int),.int m]:=rfl;refine fB Oo rfl ?_;show aE (Fi (N+1)) [some (.int a),some (.int b),none,none,none,none,none,none,none] [] f3.body=_;refine aS (v:=.int m) ?_ (aS (v:=.lst ((dg m (bA m a) a).map .int)) (cL (vs:=[.int a,.int m]) rfl PG (uY ha vE vF)) (aS (v:=.int 0) rfl (sm (v:=.ref 0) (an:=[.list []]) rfl (kX (vs:=((dg m (bA m a) a).map AV.int).reverse) rfl (by refine aa hL ?_;exact hl) ?_))))
 ·rewrite [kV];refine aa (cT (ag rfl)) ?_;exact congrArg (λi:Nat=>some (AV.int i)) hm
 generalize Yw:(j6 m b (bA m a) a).2=qs at *;have aT:((qs.map Z0).map AV.int).length<=100000:=by simp[s3];lia
 refine iH (av:=[some (.int a),some (.int b),some (.int m),some (.lst ((dg m (bA m a) a).map .int)),some (.int ((a%b:Nat):Int)),some (.ref 0),u',v',none]) (an:=[.list ((qs.reverse.map Z0).map .int)]) ?_ ?_
 ·rewrite [DK];refine aa (ag (i:=5) (v:=.ref 0) rfl) ?_;simp only[List.getElem?_cons_zero];refine aa (if_pos aT) ?_;simp[jfE]
 ·refine aS (v:=.int ((a/b:Nat):Int)) (M' (vs:=[.ref 0,.int m]) rfl rfl (sN _) h2 rfl) ?_;exact dW (v:=.tup [.int ((a/b:Nat):Int),.int ((a%b:Nat):Int)]) rfl rfl
theorem yS (a b:Int):bh (aY [] 6) [AV.int a,.int b]=some [AV.int a,.int b]:=rfl
theorem yT (σ:aA)(a b:Int):aY σ 6 (.tup [.int a,.int b])=some (.tup [.int a,.int b]):=rfl
theorem M3 (h:ev Φ σ ρ e=some (.int i)):ev Φ σ ρ (.un .USub e)=some (.int (-i)):=by rw[yk,h];rfl
theorem DU {N a b:Nat}(ha:a<2^1000)(hb:0<b)(ki:b<2^64):Fi (N+3) 4 [.int a,.int b]=some (.tup [.int ((a/b:Nat):Int),.int ((a%b:Nat):Int)]):=by
 refine fB yJ rfl ?_;show aE (Fi (N+2)) [some (.int a),some (.int b),none,none] [] f4.body=_;refine qc (v:=.tup [.int ((a/b:Nat):Int),.int ((a%b:Nat):Int)]) ?_ (qc ?_ (qc ?_ (dW (cL (vs:=[.int a,.int b]) rfl (yS _ _) (DT ha hb ki)) (yT _ _ _))))
 ·exact cK (ag rfl) bK (xB (ub hb))
 ·exact cK (ag rfl) bK (xC (by simp))
 ·exact cK (ag rfl) bK (xC (by simp))
theorem NM {N:Nat}{a:Int}{b:Nat}(ha:a.natAbs<2^1000)(Pe:a<0)(hb:0<b)(ki:b<2^64):Fi (N+4) 4 [.int a,.int b]=some (.tup [.int (a.fdiv b),.int (a.fmod b)]):=by
 obtain⟨c,hc⟩:∃c:Nat,-a-1=(c:Int):=⟨(-a-1).toNat,by lia⟩
 have oh:c<2^1000:=by omega
 refine fB yJ rfl ?_;show aE (Fi (N+3)) [some (.int a),some (.int b),none,none] [] f4.body=_;have e1:a.fdiv b=-((c/b:Nat):Int)-1:=by
  refine aa (jak _ (Zf b)) ?_;have:a=-((c:Int)+1):=by lia
  refine aa this ?_;refine aa (jcr _ _) ?_;have h1:=Int.mul_ediv_add_emod c b;have h2:=Int.emod_nonneg c (b:=(b:Int)) (ub hb);have h3:=Int.emod_lt_of_pos c (b:=(b:Int)) (oY hb);generalize hq:(c:Int)/b=q at *;generalize hr:(c:Int)%b=r at *;have:-((c:Int)+1)=(b-r-1)+b*(-q-1):=by
   rewrite [jfQ];refine aa (jeT _ _) ?_;refine aa (jhE _) ?_;lia
  refine aa this ?_;refine aa (jho _ _ (ub hb)) ?_;refine aa (jhh (by lia) (by lia)) ?_;simp
 have e2:a.fmod b=(b:Int)+(-((c%b:Nat):Int)-1):=by
  have h1:=jeD a b;rw[e1]at h1;have h2:((c%b:Nat):Int)=c-b*((c/b:Nat):Int):=by
   have:=jbZ c b;have h3:(b:Int)*((c/b:Nat):Int)=((b*(c/b):Nat):Int):=by refine aa (jaV _ _) ?_;rfl
   refine aa h3 ?_;lia
  refine aa h2 ?_;rw[jfQ,jeT,jhE]at h1;omega
 have sJ:Fi (N+3) 4 [.int (-a-1),.int b]=some (.tup [.int ((c/b:Nat):Int),.int ((c%b:Nat):Int)]):=by refine aa hc ?_;exact DU oh hb ki
 refine qc (v:=.tup [.int (a.fdiv b),.int (a.fmod b)]) ?_ (qc ?_ (jF ?_ (n8 (vs:=[.int ((c/b:Nat):Int),.int ((c%b:Nat):Int)]) (cL (vs:=[.int (-a-1),.int b]) rfl (yS _ _) sJ) rfl (dW (v:=.tup [.int (a.fdiv b),.int (a.fmod b)]) ?_ (yT _ _ _)))))
 ·exact cK (ag rfl) bK (xB (ub hb))
 ·exact cK (ag rfl) bK (xC (by simp))
 ·exact cK (ag rfl) bK (Ck Pe)
 ·refine aa e1 ?_;refine aa e2 ?_;rfl
theorem DV {N:Nat}{a:Int}{b:Nat}(ha:a.natAbs<2^1000)(hb:0<b)(ki:b<2^64):Fi (N+4) 4 [.int a,.int b]=some (.tup [.int (a.fdiv b),.int (a.fmod b)]):=by
 rcases(by omega:a<0\/0<=a)with h|h
 ·exact NM ha h hb ki
 ·refine aW (jbk h) ?_;rintro c rfl;refine aa (DU (N:=N+1) (by simpa using ha) hb ki) ?_;refine aa (jak _ (Zf b)) ?_;refine aa (jcl _ (Zf b)) ?_;refine aa (jcr _ _) ?_;refine aa (jfI _ _) ?_;rfl
theorem yG {N:Nat}{a b:Int}(ha:a.natAbs<2^1000)(hb:b≠0)(ki:b.natAbs<2^64):Fi (N+5) 4 [.int a,.int b]=some (.tup [.int (a.fdiv b),.int (a.fmod b)]):=by
 rcases(by omega:b<0\/0<=b)with h|h
 ·obtain⟨c,hc⟩:∃c:Nat,-b=(c:Int):=⟨(-b).toNat,by lia⟩
  have sJ:Fi (N+4) 4 [.int (-a),.int (-b)]=some (.tup [.int ((-a).fdiv c),.int ((-a).fmod c)]):=by
   refine aa hc ?_;exact DV (by rwa [jdO]) (by lia) (by omega)
  have e:b=-c:=by lia
  have e1:a.fdiv b=(-a).fdiv c:=by
   refine aa e ?_
   conv=>lhs;rw[<-jhB a]
   refine aa (jiJ _ _) ?_;rfl
  have e2:a.fmod b=-((-a).fmod c):=by
   have h1:=jeD a b;have h2:=jeD (-a) c;rw[e1,e]at h1;rw[jhC]at h1;refine aa e ?_;omega
  refine fB yJ rfl ?_;show aE (Fi (N+4)) [some (.int a),some (.int b),none,none] [] f4.body=_;refine qc (v:=.tup [.int (a.fdiv b),.int (a.fmod b)]) ?_ (jF ?_ (n8 (vs:=[.int ((-a).fdiv c),.int ((-a).fmod c)]) (cL (vs:=[.int (-a),.int (-b)]) rfl (yS _ _) sJ) rfl (dW (v:=.tup [.int (a.fdiv b),.int (a.fmod b)]) ?_ (yT _ _ _))))
  ·exact cK (ag rfl) bK (xB hb)
  ·exact cK (ag rfl) bK (Ck h)
  ·refine aa e1 ?_;refine aa e2 ?_;rfl
 ·refine aW (jbk h) ?_;rintro c rfl;exact DV (N:=N+1) ha (by lia) (by simpa using ki)
theorem u3 {α β:Type}{f:α->Option (List β)}{g:α->List β}:∀{vs:List α},(∀v∈vs,f v=some (g v))->fZ f vs=some (vs.flatMap g)
 | [],_=>rfl
 |v::vs,h=>by
  rw[u4,h v Zc,u3 λu hu=>h u (Zt _ hu)];rfl
theorem yI {α β:Type}{p:α->Bool}{g:α->β}:∀vs:List α,(vs.flatMap λv=>if p v then[g v]else[])=(vs.filter p).map g
 | []=>rfl
 |a::l=>by
  refine aa jam ?_;refine aa jco ?_;refine aa (yI l) ?_;cases p a<;>simp
section
theorem yb {ρ:aB}{x:Nat}{it:It}{ifs:bV}{aD:Ex}{vs:List AV}{g:AV->List AV}(h:dU Φ σ ρ it=some vs)(hx:ρ.length=x)(hl:vs.length<=1000)(hg:∀v∈vs,(match cS Φ σ (ρ++[some v]) ifs with
 |some true=>(ev Φ σ (ρ++[some v]) aD).map λu=>[u]
 |some false=>some []
 |none=>none)=some (g v)) (PQ:∀v,(g v).length<=100):ev Φ σ ρ (.comp 1 (.cons x it ifs (.done aD)))=some (.lst (vs.flatMap g)):=by
 have hs:∀v,(ρ++Ze 1 none).set x (some v)=ρ++[some v]:=λv=>by
  refine rwj hx ?_;simp[jbV]
 rewrite [yj,x0];refine aa h ?_;have h0:(ρ++Ze 1 none)[x]?=some none:=by
  refine rwj hx ?_;refine aa (Zd (Y2 _)) ?_;refine aa (jaw _) ?_;rfl
 simp only[h0];rw[if_pos (by lia),u3 (g:=g) (λv hv=>by
  refine aa (hs v) ?_;refine rwj (hg v hv) ?_
  induction cS Φ σ (ρ++[some v]) ifs using ae with
  |none=>rfl
  |some b=>cases b<;>rfl)]
 unfold sE;have:(vs.flatMap g).length<=100000:=by
  refine aa List.length_flatMap ?_;have:∀(l:List AV),(l.map λv=>(g v).length).sum<=100*l.length:=λl=>by
   induction l with
   |nil=>simp
   |cons a l ih =>
    have:=PQ a;simp only[Zy,jah,Zl]
    lia
  have:=this vs
  lia
 show Z6 AV.lst (if _ then _ else _)=_;refine aa (if_pos this) ?_;rfl
theorem nZ (h:dU Φ σ ρ it=some vs)(hx:ρ.length=x)(hl:vs.length<=1000)(hg:∀v∈vs,ev Φ σ (ρ++[some v]) aD=some (g v)):ev Φ σ ρ (.comp 1 (.cons x it .nil (.done aD)))=some (.lst (vs.map g)):=by
 refine aa (yb (g:=λv=>[g v]) h hx hl (λv hv=>by rw[nV,hg v hv];rfl) (λv=>by simp)) ?_;refine aa List.map_eq_flatMap ?_;rfl
theorem nY {ρ:aB}{x:Nat}{it:It}{ifs:bV}{aD:Ex}{vs:List AV}{p:AV->Bool}{g:AV->AV}(h:dU Φ σ ρ it=some vs)(hx:ρ.length=x)(hl:vs.length<=1000)(hp:∀v∈vs,cS Φ σ (ρ++[some v]) ifs=some (p v))(hg:∀v∈vs,p v=true->ev Φ σ (ρ++[some v]) aD=some (g v)):ev Φ σ ρ (.comp 1 (.cons x it ifs (.done aD)))=some (.lst ((vs.filter p).map g)):=by
 rw[yb (g:=λv=>if p v then[g v]else[]) h hx hl (λv hv=>by
  refine aa (hp v hv) ?_
  induction hpv:p v using ZC with
  |true=>simp[hg v hv hpv]
  |false=>simp) (λv=>by split<;>simp)]
 refine aa (yI _) ?_;rfl
end
theorem xX:∀is:List Int,eN cJ (is.map AV.int) (is.map AV.int)=some true
 | []=>rfl
 |i::is=>by
  have e:cJ (.int i) (.int i)=some true:=congrArg some (decide_eq_true rfl);refine aa Zy ?_;rewrite [r7];refine aa e ?_;refine aa (xX is) ?_;rfl
theorem De (h1:ev Φ σ ρ a=some (.bool true))(h2:ev Φ σ ρ b=some (.bool true)):ev Φ σ ρ (.and (.cons a (.cons b .nil)))=some (.bool true):=by
 rw[uU,kS,h1];simp only[];rw[kS,h2];simp only[];rw[nV];rfl
theorem uS (h1:ev Φ σ ρ a=some (.bool false))(h2:ev Φ σ ρ b=some (.bool false)):ev Φ σ ρ (.or (.cons a (.cons b .nil)))=some (.bool false):=by
 rw[yl,pR,h1];simp only[];rw[pR,h2];simp only[];rw[Db];rfl
theorem M4 (h1:ev Φ σ ρ a=some (.bool false))(h2:ev Φ σ ρ b=some (.bool false))(h3:ev Φ σ ρ c=some (.bool false)):ev Φ σ ρ (.or (.cons a (.cons b (.cons c .nil))))=some (.bool false):=by
 rw[yl,pR,h1];simp only[];rw[pR,h2];simp only[];rw[pR,h3];simp only[];rw[Db];rfl
theorem yh (h1:ev Φ σ ρ a=some (.bool b)):ev Φ σ ρ (.un .Not a)=some (.bool (!b)):=by
 rw[yk,h1];rfl
theorem dL (h1:bX Φ σ ρ as=some vs)(h:nR Φ σ f vs=some z):ev Φ σ ρ (.call f as)=some z:=by
 rewrite [kV];refine aa h1 ?_;exact h
theorem si (h1:bX Φ σ ρ as=some vs)(hl:vs.length<=100000):ev Φ σ ρ (.tup as)=some (.tup vs):=by
 rw[Ds,h1];simp only[];rw[if_pos hl]
theorem sd (h1:bX Φ σ ρ as=some vs)(hl:vs.length<=100000):ev Φ σ ρ (.list as)=some (.lst vs):=by
 rw[Dr,h1];simp only[];rw[if_pos hl]
theorem pU (h1:ev Φ σ ρ c=some (.bool true))(h2:ev Φ σ ρ a=some z):ev Φ σ ρ (.ite c a b)=some z:=by
 rw[ym,h1];exact h2
theorem pT (h1:ev Φ σ ρ c=some (.bool false))(h2:ev Φ σ ρ b=some z):ev Φ σ ρ (.ite c a b)=some z:=by
 rw[ym,h1];exact h2
theorem NL {N:Nat}(is:List Int)(hl:is.length<=1000){c:List AV->AV}(hc:c=.tup\/c=.lst):Fi (N+1) 20 [c (is.map .int),c (is.map .int)]=some (.bool true):=by
 refine fB Om rfl (dW (v:=.bool true) ?_ rfl);have e1:dU (Fi N) [] [some (c (is.map AV.int)),some (c (is.map .int))] (.val (.var 0))=some (is.map .int):=by
  rcases hc with rfl|rfl<;>rfl
 have e2:ev (Fi N) [] [some (c (is.map AV.int)),some (c (is.map .int))] (.comp 1 (.cons 2 (.val (.var 0)) (.cons (.or (.cons (.call .isBool (.cons (.var 2) .nil)) (.cons (.un .Not (.call .isInt (.cons (.var 2) .nil))) .nil))) .nil) (.done (.var 2))))=some (.lst []):=by
  refine(yb (x:=2) (g:=λY=>[]) e1 rfl (by refine aa (YX _) ?_;exact hl) (λv hv=>?_) (λv=>by simp)).trans (by simp);refine au (Zk.mp hv) ?_;rintro i _ rfl;rfl
 have e3:jA [] (c (is.map AV.int)) (c (is.map .int))=some true:=by
  rcases hc with rfl|rfl
  ·exact(if_pos rfl).trans (xX is)
  ·exact(if_pos rfl).trans (xX is)
 have e4:jA [] (.lst []) (.lst [])=some true:=rfl;show ev (Fi N) [] [some (c (is.map AV.int)),some (c (is.map .int))] (.and (.cons (.cmp .Eq (.var 0) (.var 1)) (.cons (.cmp .Eq (.comp 1 (.cons 2 (.val (.var 0)) (.cons (.or (.cons (.call .isBool (.cons (.var 2) .nil)) (.cons (.un .Not (.call .isInt (.cons (.var 2) .nil))) .nil))) .nil) (.done (.var 2)))) (.list .nil)) .nil)))=_;have e5:ev (Fi N) [] [some (c (is.map AV.int)),some (c (is.map .int))] (.cmp .Eq (.var 0) (.var 1))=some (.bool true):=by
  exact cK (ag rfl) (ag rfl) e3
 have e6:ev (Fi N) [] [some (c (is.map AV.int)),some (c (is.map .int))] (.cmp .Eq (.comp 1 (.cons 2 (.val (.var 0)) (.cons (.or (.cons (.call .isBool (.cons (.var 2) .nil)) (.cons (.un .Not (.call .isInt (.cons (.var 2) .nil))) .nil))) .nil) (.done (.var 2)))) (.list .nil))=some (.bool true):=by
  exact cK e2 (y:=.lst []) rfl e4
 exact De e5 e6
section
theorem mI:eO Φ ρ σ [] .nil=some ([],σ):=rfl
theorem Dd (h:gq Φ ρ σ x.2 e=some (v,gR))(h2:eO Φ ρ gR xs es=some (vs,nC)):eO Φ ρ σ (x::xs) (.cons e es)=some (v::vs,nC):=by
 show(match gq Φ ρ σ x.2 e with|some (v,an)=>(match eO Φ ρ an xs es with|some (vs,iv)=>some (v::vs,iv)|none=>none)|none=>none)=_;refine aa h ?_;show(match eO Φ ρ gR xs es with|some (vs,iv)=>some (v::vs,iv)|none=>none)=_;refine aa h2 ?_;rfl
theorem gI (h:ev Φ σ ρ e=some v)(h2:eO Φ ρ σ xs es=some (vs,an)):eO Φ ρ σ ((x,false)::xs) (.cons e es)=some (v::vs,an):=
 Dd (x:=(x,false)) (congrArg (Z6 (·,σ)) h) h2
theorem x7 (h:oS Φ ρ σ e=some (v,an))(h2:eO Φ ρ an xs es=some (vs,iv)):eO Φ ρ σ ((x,true)::xs) (.cons e es)=some (v::vs,iv):=
 Dd (x:=(x,true)) h h2
theorem dV {a b:Ex}{x y:Nat}(h1:ev Φ σ ρ a=some (.int x))(h2:ev Φ σ ρ b=some (.int y))(hy:y≠0):ev Φ σ ρ (.bin .Mod a b)=some (.int ((x%y:Nat):Int)):=by
 refine cb h1 h2 ?_;show(if(y:Int)=0 then none else some (AV.int ((x:Int).fmod y)))=_;rw[if_neg (by simp[*]),jcl _ (Zf y),jfI]
theorem DS {x y:Nat}(hy:y≠0)(hs:y<2^64):dE σ .FloorDiv (.int x) (.int y)=some (.int ((x/y:Nat):Int)):=by
 show(if(y:Int)=0\/!small (y:Int)then none else some (AV.int ((x:Int).fdiv y)))=_;rw[if_neg (by rw[show small (y:Int)=true from decide_eq_true (by rw[ZN];exact hs)];simp;exact hy),jak _ (Zf _),jcr]
theorem jB {a b:Ex}{x y:Nat}(h1:ev Φ σ ρ a=some (.int x))(h2:ev Φ σ ρ b=some (.int y))(hy:y≠0)(hs:y<2^64):ev Φ σ ρ (.bin .FloorDiv a b)=some (.int ((x/y:Nat):Int)):=cb h1 h2 (DS hy hs)
theorem nX (h1:ev Φ σ ρ a=some (.int x))(h2:ev Φ σ ρ b=some (.int y)):ev Φ σ ρ (.bin .Add a b)=some (.int (x+y)):=cb h1 h2 rfl
theorem jE (h1:ev Φ σ ρ a=some (.int x))(h2:ev Φ σ ρ b=some (.int y)):ev Φ σ ρ (.bin .Sub a b)=some (.int (x-y)):=cb h1 h2 rfl
theorem se {a b:Ex}{x y:Nat}(h1:ev Φ σ ρ a=some (.int x))(h2:ev Φ σ ρ b=some (.int y))(h:y<=x):ev Φ σ ρ (.bin .Sub a b)=some (.int ((x-y:Nat):Int)):=by
 refine aa (Int.natCast_sub h) ?_;exact jE h1 h2
theorem uR (h1:ev Φ σ ρ a=some (.int x))(h2:ev Φ σ ρ b=some (.int y))(hs:small x=true\/small y=true):ev Φ σ ρ (.bin .Mult a b)=some (.int (x*y)):=by
 refine cb h1 h2 ?_;show(if(small x||small y)=true then _ else _)=_;refine aa (if_pos (by simpa using hs)) ?_;rfl
theorem M6 {a b:Ex}{x:Int}{y:Nat}(h1:ev Φ σ ρ a=some (.int x))(h2:ev Φ σ ρ b=some (.int y))(hs:small x=true)(hy:y<=1000):ev Φ σ ρ (.bin .Pow a b)=some (.int (x^y)):=by
 refine cb h1 h2 ?_;show(if 0<=(y:Int)/\(y:Int)<=1000/\small x then some (AV.int (x^((y:Int)).toNat))else none)=_;rw[if_pos ⟨Zf y,oY hy,hs⟩,Zx]
theorem Dh (h1:ev Φ σ ρ a=some (.str x))(h2:ev Φ σ ρ b=some (.str y))(hl:x.length+y.length<=100000):ev Φ σ ρ (.bin .Add a b)=some (.str (x++y)):=by
 refine cb h1 h2 ?_;show(if _ then _ else _)=_;refine aa (if_pos hl) ?_;rfl
theorem aR:ev Φ σ ρ (.c (.int (n:Int)))=some (.int (n:Int)):=bK
theorem mL:ev Φ σ ρ (.c (.str x))=some (.str x.cps.toList):=by rw[Dq];rfl
theorem n0 (h1:ev Φ σ ρ a=some (.int x))(h2:ev Φ σ ρ b=some (.int y)):ev Φ σ ρ (.cmp .Lt a b)=some (.bool (decide (x<y))):=cK h1 h2 rfl
theorem uP (h1:ev Φ σ ρ a=some (.int x))(h2:ev Φ σ ρ b=some (.int y)):ev Φ σ ρ (.cmp .Eq a b)=some (.bool (decide (x=y))):=cK h1 h2 rfl
theorem fX {a i:Ex}{l:List AV}{k:Nat}{v:AV}(h1:ev Φ σ ρ a=some (.lst l))(h2:ev Φ σ ρ i=some (.int k))(hv:l[k]?=some v)(hn:l.length<=100000):ev Φ σ ρ (.idx a i)=some v:=by
 refine mJ h1 h2 ?_;show(fO (k:Int) l.length).bind _=_;refine aa (wk (Zw.mp hv).1 hn) ?_;exact hv
theorem Df {a i:Ex}{l:List Nat}{k:Nat}{c:Nat}(h1:ev Φ σ ρ a=some (.str l))(h2:ev Φ σ ρ i=some (.int k))(hv:l[k]?=some c)(hn:l.length<=100000):ev Φ σ ρ (.idx a i)=some (.str [c]):=by
 refine mJ h1 h2 ?_;show(fO (k:Int) l.length).bind _=_;refine aa (wk (Zw.mp hv).1 hn) ?_;show l[k]?.map _=_;refine aa hv ?_;rfl
theorem M5 (h1:ev Φ σ ρ a=some (.str [c])):ev Φ σ ρ (.call .ord (.cons a .nil))=some (.int c):=dL (cT h1) rfl
theorem Di {a:Ex}{c:Nat}(h1:ev Φ σ ρ a=some (.int c))(h:c<=0x10FFFF):ev Φ σ ρ (.call .chr (.cons a .nil))=some (.str [c]):=by
 refine dL (cT h1) ?_;show(if 0<=(c:Int)/\(c:Int)<=0x10FFFF then _ else _)=_;rw[if_pos ⟨Zf c,oY h⟩,Zx]
end
theorem DF (h0:ρ[x]?=some (some a))(ha:a.isRef=false)(h:ev Φ σ ρ e=some b)(bY:lJ op a b=true)(hr:dE σ op a b=some c)(h2:aE Φ (ρ.set x (some c)) σ ss=r):aE Φ ρ σ (.cons (.aug x op e) ss)=r:=by
 refine iH ?_ h2;rewrite [yw];refine aa h0 ?_;dsimp only;refine aa h ?_
 induction a using AV.casesOn with
 |ref=>exact nomatch ha
 |_ =>
  show(if lJ op _ b=true then _ else _)=_;refine aa (if_pos bY) ?_;refine aa hr ?_;rfl
theorem Nl {Φ:cX}{ρ:aB}{σ:aA}{ss:dw}{r:Option Fl}{x:Nat}{e:Ex}{a b:Nat}(h0:ρ[x]?=some (some (.int a)))(h:ev Φ σ ρ e=some (.int b))(hb:b≠0)(hs:b<2^64)(h2:aE Φ (ρ.set x (some (.int ((a/b:Nat):Int)))) σ ss=r):aE Φ ρ σ (.cons (.aug x .FloorDiv e) ss)=r :=
 DF h0 rfl h rfl (DS hb hs) h2
theorem yr (h0:ρ[x]?=some (some (.str a)))(h:ev Φ σ ρ e=some (.str b))(hl:a.length+b.length<=100000)(h2:aE Φ (ρ.set x (some (.str (a++b)))) σ ss=r):aE Φ ρ σ (.cons (.aug x .Add e) ss)=r :=
 DF h0 rfl h rfl (if_pos hl) h2
def ch:List Nat:=[102,105,108,115,116]
def uJ:List Nat:=[8497,8464,8466,383,120139]
def tH:List (Nat×List Nat):=[(64256,[102,102]),(64257,[102,105]),(64258,[102,108]),(64259,[102,102,105]),(64260,[102,102,108]),(64261,[115,116]),(64262,[115,116]),(223,[115,115])]
def jG:List Nat:=[97,65,119808,119860,119912,120016,120172,120224,120276,120328,120380,120432]
def iJ:List Nat:=[173,847,6150,6155,6156,6157,8203,8204,8205,8288,65279]++ZP 65024 16
def dB (d w:Nat):Nat×List Nat :=
 if d<2 then tH.getD (w%8) (0,[])else if d<14 then(jG.getD (d-2) 0+ch.getD (w%5) 0-97,[ch.getD (w%5) 0])else(uJ.getD (w%5) 0,[ch.getD (w%5) 0])
def lz (v:Nat):List Nat:=if v=0 then[]else[iJ.getD (v-1) 0]
def kz (r:Nat):List Nat:=lz (r/600%28)++[(dB (r%15) (r/15%40)).1]
def io (r:Nat):List Nat:=(dB (r%15) (r/15%40)).2
def lA:Nat->Nat->List Nat
 |0,_=>[]
 |k+1,r=>kz r++lA k (r/16800)
theorem XE:lA 0 x=[]:=rfl
theorem Bw:lA (k+1) x=kz x++lA k (x/16800):=rfl
def jt:Nat->Nat->List Nat
 |0,_=>[]
 |k+1,r=>io r++jt k (r/16800)
theorem XD:jt 0 x=[]:=rfl
theorem t6:jt (k+1) x=io x++jt k (x/16800):=rfl
theorem Vm:(Y4 15).all (λd=>(Y4 40).all λw=>decide ((dB d w).1<=0x10FFFF)&&decide ((dB d w).2.length<=3))=true:=by decide +kernel
theorem PX:iJ.all (λc=>decide (c<=0x10FFFF))=true:=by decide +kernel
theorem A4 (r:Nat):(dB (r%15) (r/15%40)).1<=0x10FFFF/\(dB (r%15) (r/15%40)).2.length<=3:=by
 have h1:=Y3.mp Vm (r%15) (ZH.mpr (ZQ _ (by decide)));have h2:=Y3.mp h1 (r/15%40) (ZH.mpr (ZQ _ (by decide)));rw[Zs]at h2;exact⟨of_decide_eq_true h2.1,of_decide_eq_true h2.2⟩
def Bq:dw :=
 (.cons (.asgT [(8,false),(9,false),(10,false)] (.cons (.bin .Mod (.var 6) (.c (.int 15))) (.cons (.bin .Mod (.bin .FloorDiv (.var 6) (.c (.int 15))) (.c (.int 40))) (.cons (.bin .Mod (.bin .FloorDiv (.var 6) (.c (.int 600))) (.c (.int 28))) .nil))))
  (.cons (.aug 6 .FloorDiv (.c (.int 16800)))
  (.cons (.asg 11 false (.idx (.c (.str "filst")) (.bin .Mod (.var 9) (.c (.int 5)))))
  (.cons (.asg 12 false (.idx (.list (.cons (.c (.int 8497)) (.cons (.c (.int 8464)) (.cons (.c (.int 8466)) (.cons (.c (.int 383)) (.cons (.c (.int 120139)) .nil)))))) (.bin .Mod (.var 9) (.c (.int 5)))))
  (.cons (.ife (.cmp .Lt (.var 8) (.c (.int 2)))
   (.cons (.unp [12,11] (.idx (.var 1) (.bin .Mod (.var 9) (.c (.int 8)))))
   .nil)
   (.cons (.ife (.cmp .Lt (.var 8) (.c (.int 14)))
    (.cons (.asg 12 false (.bin .Sub (.bin .Add (.idx (.var 2) (.bin .Sub (.var 8) (.c (.int 2)))) (.call .ord (.cons (.var 11) .nil))) (.c (.int 97))))
    .nil)
    .nil)
   .nil))
  (.cons (.aug 4 .Add (.bin .Add (.ite (.cmp .Eq (.var 10) (.c (.int 0))) (.c (.str "")) (.call .chr (.cons (.idx (.var 3) (.bin .Sub (.var 10) (.c (.int 1)))) .nil))) (.call .chr (.cons (.var 12) .nil))))
  (.cons (.aug 5 .Add (.var 11))
  .nil)))))))
def tI:AV:=.lst (tH.map λp=>.tup [.int p.1,.str p.2])
def jl (l:List Nat):AV:=.lst (l.map λ(n:Nat)=>AV.int n)
abbrev wH (h:AV)(t m:List Nat)(r:Nat)(a b c d e f:Option AV):aB:=[some h,some tI,some (jl jG),some (jl iJ),some (.str t),some (.str m),some (.int r),a,b,c,d,e,f]
theorem yU {l:List Nat}(h:k<l.length):l[k]?=some (l.getD k 0):=by
 refine aa Y5 ?_;refine aa (Y' h) ?_;rfl
theorem nn {l:List Nat}(h:k<l.length):(l.map λ(n:Nat)=>AV.int n)[k]?=some (.int (l.getD k 0:Nat)):=by
 refine aa ZK ?_;refine aa (yU h) ?_;rfl
theorem Sm (k:Nat)(h:k<5):97<=ch.getD k 0:=by
 have:=Y3.mp (by decide:(Y4 5).all (λk=>decide (97<=ch.getD k 0))=true) k (ZH.mpr h);exact of_decide_eq_true this
theorem XG (ht:t.length<=100)(hm:m.length<=100):
 ∃b' c' d' e' f',aE Φ ((wH h t m r a b c q e f).set 7 (some (.int j))) [] Bq=some (.next (wH h (t++kz r) (m++io r) (r/16800) (some (.int j)) b' c' d' e' f') []):=by
 have kZ:=A4 r;have Yb:∀{ρ:aB},ρ[6]?=some (some (.int (r:Int)))->ev Φ [] ρ (.var 6)=some (.int (r:Int)):=λh=>ag h;refine z0 (some (.int ((r%15:Nat):Int))) (some (.int ((r/15%40:Nat):Int))) (some (.int ((r/600%28:Nat):Int))) (some (.str (io r))) (some (.int ((dB (r%15) (r/15%40)).1:Int))) ?_;generalize hd:r%15=d at *;generalize hw:r/15%40=w at *;generalize hv:r/600%28=v at *;have YA:v<28:=by refine rwj hv ?_;exact ZQ _ (by decide)
 have Yf:d<15:=by refine rwj hd ?_;exact ZQ _ (by decide)
 have zR:w%5<5:=ZQ _ (by decide);have QY:w%8<8:=ZQ _ (by decide);show aE Φ [some h,some tI,some (jl jG),some (jl iJ),some (.str t),some (.str m),some (.int r),some (.int j),b,c,q,e,f] [] Bq=_;have k1:∀{ρ:aB}{n:Nat},ev Φ [] ρ (.c (.int (n:Int)))=some (.int (n:Int)):=bK;refine mN (vs:=[.int d,.int w,.int v]) (gI (hd▸dV (x:=r) (y:=15) (ag rfl) k1 (by decide)) (gI (hw▸dV (x:=r/15) (y:=40) (jB (x:=r) (y:=15) (ag rfl) k1 (by decide) (by decide)) k1 (by decide)) (gI (hv▸dV (x:=r/600) (y:=28) (jB (x:=r) (y:=600) (ag rfl) k1 (by decide) (by decide)) k1 (by decide)) mI))) rfl ?_;refine Nl (a:=r) (b:=16800) rfl k1 (by decide) (by decide) ?_;refine aS (v:=.str [ch.getD (w%5) 0]) (Df (l:=ch) (k:=w%5) mL (dV (x:=w) (y:=5) (ag rfl) k1 (by decide)) (yU zR) (by decide)) ?_;refine aS (v:=.int (uJ.getD (w%5) 0:Nat)) (fX (l:=uJ.map λ(n:Nat)=>AV.int n) (k:=w%5) rfl (dV (x:=w) (y:=5) (ag rfl) k1 (by decide)) (nn zR) (by decide)) ?_;have fin:∀(c1:Nat) (o1:List Nat),c1<=0x10FFFF->o1.length<=3->aE Φ [some h,some tI,some (jl jG),some (jl iJ),some (.str t),some (.str m),some (.int ((r/16800:Nat):Int)),some (.int j),some (.int d),some (.int w),some (.int v),some (.str o1),some (.int c1)] []
  (.cons (.aug 4 .Add (.bin .Add (.ite (.cmp .Eq (.var 10) (.c (.int 0))) (.c (.str "")) (.call .chr (.cons (.idx (.var 3) (.bin .Sub (.var 10) (.c (.int 1)))) .nil))) (.call .chr (.cons (.var 12) .nil)))) (.cons (.aug 5 .Add (.var 11)) .nil)) =
  some (.next [some h,some tI,some (jl jG),some (jl iJ),some (.str (t++(lz v++[c1]))),some (.str (m++o1)),some (.int ((r/16800:Nat):Int)),some (.int j),some (.int d),some (.int w),some (.int v),some (.str o1),some (.int c1)] []):=λc1 o1 Pn Yt=>by
  have QX:(lz v).length<=1:=by unfold lz;split<;>simp
  refine yr (a:=t) (b:=lz v++[c1]) rfl (Dh ?_ (Di (ag rfl) Pn) (by simp;exact bw QX rfl)) (by simp;lia) (yr (a:=m) (b:=o1) rfl (ag rfl) (by lia) bH);by_cases hv0:v=0
  ·subst hv0;exact pU (uP (x:=(0:Int)) (y:=0) (ag rfl) bK) mL
  ·have QW:lz v=[iJ.getD (v-1) 0]:=by unfold lz;refine aa (if_neg hv0) ?_;rfl
   refine aa QW ?_;have aZ:v-1<iJ.length:=by
    have:iJ.length=27:=by decide
    lia
   have e1:((v:Int)-1)=((v-1:Nat):Int):=by lia
   have hc:iJ.getD (v-1) 0<=0x10FFFF:=by
    have:=Y3.mp PX (iJ.getD (v-1) 0) (by refine aa Y5 ?_;refine aa (Y' aZ) ?_;exact jbw aZ);exact of_decide_eq_true this
   refine pT (by refine aa (uP (x:=(v:Int)) (y:=0) (ag rfl) bK) ?_;refine aa (decide_eq_false (by simp[*])) ?_;rfl) (Di (fX (l:=iJ.map λ(n:Nat)=>AV.int n) (k:=v-1) (ag rfl) (e1▸jE (ag rfl) bK) (nn aZ) (by decide)) hc)
 have LW:kz r=lz v++[(dB d w).1]:=by unfold kz;refine aa hd ?_;refine aa hw ?_;refine aa hv ?_;rfl
 have LX:io r=(dB d w).2:=by unfold io;refine aa hd ?_;refine aa hw ?_;rfl
 refine aa LW ?_;refine aa LX ?_;by_cases h2:d<2
 ·have hs:dB d w=tH.getD (w%8) (0,[]):=by unfold dB;refine aa (if_pos h2) ?_;rfl
  have fu:(tH.map λp=>AV.tup [.int (p.1:Nat),.str p.2])[w%8]?=some (.tup [.int ((dB d w).1:Nat),.str (dB d w).2]):=by
   refine aa ZK ?_;refine aa hs ?_;refine aa Y5 ?_;refine aa (Y' QY) ?_;rfl
  refine mO (by refine aa (n0 (x:=(d:Int)) (y:=2) (ag rfl) bK) ?_;refine aa (decide_eq_true (oY h2)) ?_;rfl) (n8 (vs:=[.int ((dB d w).1:Nat),.str (dB d w).2]) (fX (l:=tH.map λp=>AV.tup [.int (p.1:Nat),.str p.2]) (k:=w%8) (ag rfl) (dV (x:=w) (y:=8) (ag rfl) k1 (by decide)) fu (by decide)) rfl bH) ?_;exact fin _ _ kZ.1 kZ.2
 ·by_cases h14':d<14
  ·have hs:dB d w=(jG.getD (d-2) 0+ch.getD (w%5) 0-97,[ch.getD (w%5) 0]):=by unfold dB;refine aa (if_neg h2) ?_;refine aa (if_pos h14') ?_;rfl
   have aZ:d-2<jG.length:=by
    have:jG.length=12:=by decide
    lia
   have e1:((d:Int)-2)=((d-2:Nat):Int):=by lia
   have m4:=Sm (w%5) zR;refine du (by refine aa (n0 (x:=(d:Int)) (y:=2) (ag rfl) bK) ?_;refine aa (decide_eq_false (by lia)) ?_;rfl) (mO (by refine aa (n0 (x:=(d:Int)) (y:=14) (ag rfl) bK) ?_;refine aa (decide_eq_true (oY h14')) ?_;rfl) (aS (v:=.int ((dB d w).1:Nat)) ?_ bH) bH) ?_
   ·refine jgM (jE (nX (fX (l:=jG.map λ(n:Nat)=>AV.int n) (k:=d-2) (ag rfl) (se (x:=d) (y:=2) (ag rfl) bK (wL h2)) (nn aZ) (by decide)) (M5 (c:=ch.getD (w%5) 0) (ag rfl))) (bK (i:=97))) ?_;refine aa hs ?_;exact congrArg (λz=>some (AV.int z)) (by show((jG.getD (d-2) 0:Nat):Int)+((ch.getD (w%5) 0:Nat):Int)-97=((jG.getD (d-2) 0+ch.getD (w%5) 0-97:Nat):Int);lia)
   ·have e2:(dB d w).2=[ch.getD (w%5) 0]:=by refine aa hs ?_;rfl
    have:=fin _ _ kZ.1 kZ.2;rw[e2]at this ⊢;exact this
  ·have hs:dB d w=(uJ.getD (w%5) 0,[ch.getD (w%5) 0]):=by unfold dB;refine aa (if_neg h2) ?_;refine aa (if_neg h14') ?_;rfl
   refine du (by refine aa (n0 (x:=(d:Int)) (y:=2) (ag rfl) bK) ?_;refine aa (decide_eq_false (by lia)) ?_;rfl) (du (by refine aa (n0 (x:=(d:Int)) (y:=14) (ag rfl) bK) ?_;refine aa (decide_eq_false (by lia)) ?_;rfl) bH bH) ?_;have:=fin _ _ kZ.1 kZ.2;rw[hs]at this ⊢;exact this
theorem Hr:∀(n a:Nat),gP (a:Int) 1 n=(ZP a n).map λ(i:Nat)=>(i:Int)
 |0,_=>rfl
 |n+1,a=>by
  rw[tE,jcY,Zy,<-Hr n (a+1)];rfl
theorem AY {a b:Nat}(h:b<=100000)(ha:a<=100000):fQ (a:Int) (b:Int) 1=some ((ZP a (b-a)).map λ(i:Nat)=>(i:Int)):=by
 have hs:jaD (a:Int) (b:Int) 1=((b-a:Nat):Int):=by
  unfold jaD;rw[if_pos (by decide)];split<;>lia
 have oC:jef (a:Int) (b:Int) 1=true:=small_one (Int.NonNeg.mk (a+jbY 4611686018427387903)) (q6 ha rfl) (Int.NonNeg.mk (b+jbY 4611686018427387903)) (q6 h rfl);unfold fQ;rw[if_pos ⟨by decide,by decide,oC,by rw[hs];lia⟩,hs,Zx,Hr]
abbrev aq (l:List Nat):List AV:=l.map λ(i:Nat)=>AV.int i
section
theorem j8 {e:Ex}{n:Nat}(h:ev Φ σ ρ e=some (.int n))(hn:n<=100000):dU Φ σ ρ (.range (.cons e .nil))=some (aq (Y4 n)):=by
 rewrite [r8];refine aa (cT h) ?_;show(fQ 0 (n:Int) 1).map _=_;refine aa (show(0:Int)=((0:Nat):Int)from rfl) ?_;refine aa (AY hn (jaU 100000)) ?_;refine aa jdl ?_;simp[aq]
theorem x5 {e f:Ex}{a n:Nat}(h0:ev Φ σ ρ f=some (.int a))(h:ev Φ σ ρ e=some (.int n))(hn:n<=100000)(ha:a<=100000):dU Φ σ ρ (.range (.cons f (.cons e .nil)))=some (aq (ZP a (n-a))):=by
 rw[r8,dM h0 h];show(fQ (a:Int) (n:Int) 1).map _=_;rw[AY hn ha];simp[aq]
theorem nW (h:dU Φ σ ρ (.range as)=r):lQ Φ ρ σ (.range as)=r:=h
end
theorem sw {β:Type}{f:aB->aA->AV->Option Fl}{g:β->AV}{I:List β->aB->aA->Prop}:∀(vs pre:List β) (ρ:aB) (σ:aA),
 I pre ρ σ->(∀p x q ρ σ,pre++vs=p++x::q->I p ρ σ->∃av an,f ρ σ (g x)=some (.next av an)/\I (p++[x]) av an) ->
 ∃av an,eP f (vs.map g) ρ σ=some (.next av an)/\I (pre++vs) av an
 | [],pre,ρ,σ,h,_=>cZ ρ σ rfl (by rwa [ZZ])
 |x::vs,pre,ρ,σ,h,hs=>by
  refine bB (hs pre x vs ρ σ rfl h) λav an h1 h2=>?_;refine bB (sw (f:=f) (I:=I) vs (pre++[x]) av an h2 (λp y q ρ σ e hI=>hs p y q ρ σ (by refine rwj e ?_;simp) hI)) λX0 X2 h3 h4=>?_;refine cZ X0 X2 ?_ (by simpa using h4);refine aa Zy ?_;rewrite [yK];refine aa h1 ?_;exact h3
theorem sx {f:aB->aA->AV->Option Fl}{I:Nat->aB->aA->Prop}{n:Nat}{ρ:aB}{σ:aA}(h0:I 0 ρ σ)(hs:∀k ρ σ,k<n->I k ρ σ->∃av an,f ρ σ (.int k)=some (.next av an)/\I (k+1) av an):
 ∃av an,eP f (aq (Y4 n)) ρ σ=some (.next av an)/\I n av an:=by
 have:=sw (f:=f) (g:=λ(i:Nat)=>AV.int i) (I:=λl=>I l.length) (Y4 n) [] ρ σ h0 (λp x q ρ σ e hI=>by
  have e':p++x::q=Y4 n:=by refine rwj e ?_;rfl
  have hx:x=p.length:=by
   have h1:(Y4 n)[p.length]?=some x:=by refine rwj e' ?_;simp
   rw[Zw]at h1;refine aW h1 λY h1=>?_;simpa using h1.symm
  have aZ:p.length<n:=by
   have:=congrArg jaK e';simp at this;exact XV this
  refine bB (hs p.length ρ σ aZ hI) λav an h1 h2=>?_;refine cZ av an (by refine aa hx ?_;exact h1) (by simpa using h2))
 refine bB this λav an h1 h2=>?_;refine cZ av an h1 (by simpa using h2)
theorem HF (r:Nat):(kz r).length<=2:=by
 unfold kz lz;split<;>simp
theorem PW:∀{Φ:cX}{ρ:aB},ev Φ [] ρ (.bin .Add (.list (.cons (.c (.int 173)) (.cons (.c (.int 847)) (.cons (.c (.int 6150)) (.cons (.c (.int 6155)) (.cons (.c (.int 6156)) (.cons (.c (.int 6157)) (.cons (.c (.int 8203)) (.cons (.c (.int 8204)) (.cons (.c (.int 8205)) (.cons (.c (.int 8288)) (.cons (.c (.int 65279)) .nil)))))))))))) (.call .listRange (.cons (.c (.int 65024)) (.cons (.c (.int 65040)) .nil))))=some (jl iJ):=by
 intro Φ ρ;refine cb (x:=jl [173,847,6150,6155,6156,6157,8203,8204,8205,8288,65279]) (y:=jl (ZP 65024 16)) rfl (dL (vs:=[.int 65024,.int 65040]) rfl ?_) rfl;show((fQ ((65024:Nat):Int) ((65040:Nat):Int) 1).map λis=>AV.lst (is.map AV.int))=_;refine aa (AY (by decide) (by decide)) ?_;rfl
structure BS where
 t:List Nat
 m:List Nat
 r:Nat
 a:Option AV
 b:Option AV
 c:Option AV
 d:Option AV
 e:Option AV
 f:Option AV
def wR (h:AV)(x:BS):aB:=wH h x.t x.m x.r x.a x.b x.c x.d x.e x.f
structure WI (n heap k:Nat) (x:BS):Prop where
 h1:x.t.length<=2*k
 h2:x.m.length<=3*k
 h3:x.t++lA (n-k) x.r=lA n (heap/3)
 h4:x.m++jt (n-k) x.r=jt n (heap/3)
theorem WI.next (H:WI n heap k x)(hk:k<n):WI n heap (k+1) ⟨x.t++kz x.r,x.m++io x.r,x.r/16800,a,b,c,d,e,f⟩ where
 h1:=by
  have:=HF x.r;have:=H.h1;show(x.t++kz x.r).length<=_;refine aa Y8 ?_;lia
 h2:=by
  have:(io x.r).length<=3:=(A4 x.r).2;have:=H.h2;show(x.m++io x.r).length<=_;refine aa Y8 ?_;lia
 h3:=by
  have e:=H.h3;rw[show n-k=(n-(k+1))+1 from wN hk,Bw,<-jav]at e;exact e
 h4:=by
  have e:=H.h4;rw[show n-k=(n-(k+1))+1 from wN hk,t6,<-jav]at e;exact e
theorem XF {Φ:cX}{heap n:Nat}(hn:n<=3):∃av an,eP (λρ σ v=>aE Φ (ρ.set 7 (some v)) σ Bq) (aq (Y4 n)) (wH (.int heap) [] [] (heap/3) none none none none none none) []=some (.next av an)/\∃x,(av=wR (.int heap) x/\an=[])/\WI n heap n x:=by
 refine sx (I:=λk ρ σ=>∃x,(ρ=wR (.int heap) x/\σ=[])/\WI n heap k x) ⟨⟨[],[],heap/3,none,none,none,none,none,none⟩,⟨rfl,rfl⟩,by simp,by simp,rfl,rfl⟩ λk ρ σ hk h=>?_;refine au h λx z1 H=>?_;obtain⟨rfl,rfl⟩:=z1;have h1:=H.h1;have h2:=H.h2;refine uW (XG (Φ:=Φ) (h:=.int heap) (t:=x.t) (m:=x.m) (r:=x.r) (j:=k) (a:=x.a) (b:=x.b) (c:=x.c) (q:=x.d) (e:=x.e) (f:=x.f) (by lia) (by lia)) λb' c' d' e' f' hw=>?_;exact⟨_,_,hw,_,⟨rfl,rfl⟩,H.next hk⟩
theorem NE {N:Nat}(heap:Nat):Fi (N+1) 13 [.int heap]=some (.tup [.str (lA (1+heap%3) (heap/3)),.str (jt (1+heap%3) (heap/3))]):=by
 refine fB Of rfl ?_;show aE (Fi N) ([some (.int heap)]++Ze 12 none) [] DO.body=_;have hn:heap%3<3:=ZQ _ (by decide);have en:∀{ρ:aB},ρ[0]?=some (some (.int heap))->ev (Fi N) [] ρ (.bin .Add (.c (.int 1)) (.bin .Mod (.var 0) (.c (.int 3))))=some (.int ((1+heap%3:Nat):Int)):=λh=>by
  refine aa (jbn _ _) ?_;exact nX bK (dV (x:=heap) (y:=3) (ag h) aR (by decide))
 have ln:1+heap%3<=3:=by lia
 clear hn;generalize 1+heap%3=n at *;refine aS (v:=tI) rfl (aS (v:=jl jG) rfl (aS (v:=jl iJ) PW ?_));refine mN (vs:=[.str [],.str [],.int ((heap/3:Nat):Int)]) (gI rfl (gI rfl (gI (jB (x:=heap) (y:=3) (ag rfl) aR (by decide) (by decide)) mI))) rfl ?_;obtain⟨av,an,h1,x,⟨rfl,rfl⟩,H⟩:=XF (Φ:=Fi N) (heap:=heap) ln;refine kX (vs:=aq (Y4 n)) (nW (j8 (en rfl) (bw ln rfl))) h1 ((dW (v:=.tup [.str x.t,.str x.m]) rfl rfl).trans ?_);have ht:=H.h3;have hm:=H.h4;rw[jaw,XE,ZZ]at ht;rw[jaw,XD,ZZ]at hm;refine aa ht ?_;refine aa hm ?_;rfl
def qP:AV:=.lst (cA.map λp=>.str p.1)
theorem VE:rR [.str (jaO "( ) [ ] : , ; + - * / | & < > = . % { } == != <= >= ~ ^ << >> ** += -= *= /= %= &= |= ^= <<= >>= **= // //= @ @= -> ... := !").cps.toList]=some qP:=by kernel_rfl
theorem Vo {Φ:cX}{ρ:aB}:ev Φ [] ρ (.call .split (.cons (.c (.str "( ) [ ] : , ; + - * / | & < > = . % { } == != <= >= ~ ^ << >> ** += -= *= /= %= &= |= ^= <<= >>= **= // //= @ @= -> ... := !")) .nil))=some qP:=dL (cT mL) VE
def iQ (c:Nat):Nat:=if c=102 then 0 else if c=105 then 1 else if c=108 then 2 else if c=115 then 3 else 4
theorem Rj:∀c∈ch,nO [] [.str ch,.str [c]]=some (.int (iQ c)):=by
 intro c hc;have:c=102\/c=105\/c=108\/c=115\/c=116:=by simpa [ch]using hc
 rcases this with rfl|rfl|rfl|rfl|rfl<;>kernel_rfl
theorem NW:∀c∈ch,mC [.str ch,.str [c]]=some (.int (iQ c)):=by
 intro c hc;have:c=102\/c=105\/c=108\/c=115\/c=116:=by simpa [ch]using hc
 rcases this with rfl|rfl|rfl|rfl|rfl<;>kernel_rfl
theorem Vl:(Y4 15).all (λd=>(Y4 40).all λw=>(dB d w).2.all (λc=>ch.contains c))=true:=by decide +kernel
theorem HE (r:Nat):∀c∈io r,c∈ch:=by
 have h1:=Y3.mp Vl (r%15) (ZH.mpr (ZQ _ (by decide)));have h2:=Y3.mp h1 (r/15%40) (ZH.mpr (ZQ _ (by decide)));intro c hc;have:=Y3.mp h2 c hc;simpa using this
theorem Bu:∀k r,∀c∈jt k r,c∈ch
 |0,_=>λY h=>nomatch h
 |k+1,r=>by
  intro c hc;rw[t6,Zz]at hc;rcases hc with hc|hc
  ·exact HE r c hc
  ·exact Bu k _ c hc
theorem Bt:∀k r,(jt k r).length<=3*k
 |0,_=>jaU _
 |k+1,r=>by
  have h1:=Bt k (r/16800);have h2:(io r).length<=3:=(A4 r).2;rw[t6,Y8];lia
theorem Bv:∀k r,(lA k r).length<=2*k
 |0,_=>jaU _
 |k+1,r=>by
  have h1:=Bv k (r/16800);have h2:=HF r;rw[Bw,Y8];lia
section
variable (hs:List Nat)
def pW (i:Nat):List Nat:=lA (1+hs.getD i 0%3) (hs.getD i 0/3)
def pM (i:Nat):List Nat:=jt (1+hs.getD i 0%3) (hs.getD i 0/3)
def pO (i:Nat):Nat:=hs.getD 5 0/48^i%48
def ii (w:Nat):List Nat:=(cA.getD w ([],0)).1
def im (i:Nat):List Nat:=pW hs i++if i<4 then ii (pO hs i)else[]
def jo (i:Nat):List Nat:=(pM hs i).map (λc=>256+iQ c)++[if i<4 then 7+pO hs i else 0]
def ij:List Nat:=(Y4 5).flatMap (im hs)
def dA:List Nat:=(Y4 5).flatMap (jo hs)
end
theorem Nm {Φ:cX}{ρ:aB}{σ:aA}{ss:dw}{r:Option Fl}{x i:Nat}{e:Ex}{a b:List AV}(h0:ρ[x]?=some (some (.ref i)))(hi:σ[i]?=some (.list a))(h:ev Φ σ ρ e=some (.lst b))(hl:a.length+b.length<=100000)(h2:aE Φ ρ (σ.set i (.list (a++b))) ss=r):aE Φ ρ σ (.cons (.aug x .Add e) ss)=r:=by
 refine iH ?_ h2;rw[yw,h0];dsimp only;rw[h];dsimp only;rw[hi];exact if_pos hl
section
variable {Φ:cX}{ρ av:aB}{σ an:aA}
theorem jD {a b:Ex}{x y:Nat}(h1:ev Φ σ ρ a=some (.int x))(h2:ev Φ σ ρ b=some (.int y))(hs:x<2^64)(hy:y<=1000):ev Φ σ ρ (.bin .Pow a b)=some (.int ((x^y:Nat):Int)):=by
 refine aa (jbE _ _) ?_;exact M6 h1 h2 (by unfold small;refine aa (ZN _) ?_;exact decide_eq_true hs) hy
theorem iF {a b:Ex}{x y:Nat}(h1:ev Φ σ ρ a=some (.int x))(h2:ev Φ σ ρ b=some (.int y)):ev Φ σ ρ (.bin .Add a b)=some (.int ((x+y:Nat):Int)):=by
 refine aa (jbn _ _) ?_;exact nX h1 h2
theorem mK {a b:Ex}{x y:Nat}(h1:ev Φ σ ρ a=some (.int x))(h2:ev Φ σ ρ b=some (.int y))(hs:x<2^64\/y<2^64):ev Φ σ ρ (.bin .Mult a b)=some (.int ((x*y:Nat):Int)):=by
 refine aa (jaV _ _) ?_;refine uR h1 h2 ?_;unfold small;refine aa (ZN _) ?_;refine aa (ZN _) ?_;simpa using hs
theorem sb {a b:Ex}{x y:List AV}(h1:ev Φ σ ρ a=some (.lst x))(h2:ev Φ σ ρ b=some (.lst y))(hl:x.length+y.length<=100000):ev Φ σ ρ (.bin .Add a b)=some (.lst (x++y)):=by
 refine cb h1 h2 ?_;show(if _ then _ else _)=_;refine aa (if_pos hl) ?_;rfl
theorem pV {a b:Ex}{x y:Nat}(h1:ev Φ σ ρ a=some (.int x))(h2:ev Φ σ ρ b=some (.int y)):ev Φ σ ρ (.cmp .Lt a b)=some (.bool (decide (x<y))):=by
 refine aa (n0 h1 h2) ?_;exact congrArg (λb=>some (AV.bool b)) (decide_eq_decide.mpr (by simp))
theorem pS {a b:Ex}{x y:Nat}(h1:ev Φ σ ρ a=some (.int x))(h2:ev Φ σ ρ b=some (.int y)):ev Φ σ ρ (.cmp .Eq a b)=some (.bool (decide (x=y))):=by
 refine aa (uP h1 h2) ?_;exact congrArg (λb=>some (AV.bool b)) (decide_eq_decide.mpr (IF))
end
theorem T6 (w:Nat)(h:w<48):(cA.map λp=>AV.str p.1)[w]?=some (.str (ii w)):=by
 have hl:w<cA.length:=h;refine aa ZK ?_;refine aa (Y' hl) ?_;unfold ii;refine aa Y5 ?_;refine aa (Y' hl) ?_;rfl
theorem qg (k:Nat)(σ:aA):∀l:List Nat,bh (aY σ (k+1)) (aq l)=some (aq l)
 | []=>rfl
 |a::l=>by
  show bh (aY σ (k+1)) (AV.int (a:Nat)::aq l)=_;rw[gO];have:aY σ (k+1) (.int (a:Nat))=some (.int (a:Nat)):=rfl;refine aa this ?_;simp only[qg k σ l];rfl
theorem G6:∀w,w<48->(ii w).length<=3:=by decide +kernel
theorem NF {N:Nat}(hs:List Nat)(hl:hs.length=8):Fi (N+2) 14 [.lst (aq hs)]=some (.tup [.str (ij hs),.lst (aq (dA hs))]):=by
 refine fB Og rfl ?_;show aE (Fi (N+1)) ([some (.lst (aq hs))]++Ze 7 none) [] yz.body=_;refine aS (v:=qP) Vo (mN (vs:=[.str [],.ref 0]) (an:=[.list []]) (gI rfl (x7 rfl mI)) rfl ?_);have lp:=sx (f:=λρ σ v=>aE (Fi (N+1)) (ρ.set 4 (some v)) σ (match yz.body with | .cons _ (.cons _ (.cons (.for_ _ _ b) _))=>b|_=>.nil)) (n:=5) (ρ:=[some (.lst (aq hs)),some qP,some (.str []),some (.ref 0),none,none,none,none]) (σ:=[.list []])
  (I:=λk ρ σ=>∃a b c d,ρ=[some (.lst (aq hs)),some qP,some (.str ((Y4 k).flatMap (im hs))),some (.ref 0),a,b,c,d]/\σ=[.list (aq ((Y4 k).flatMap (jo hs)))]/\((Y4 k).flatMap (im hs)).length<=9*k/\((Y4 k).flatMap (jo hs)).length<=10*k)
  ⟨none,none,none,none,rfl,rfl,by simp,by simp⟩ ?_
 ·obtain⟨av,an,h1,a,b,c,d,rfl,rfl,_,_⟩:=lp;refine kX (vs:=aq (Y4 5)) (nW (j8 aR (jcC 5 99995))) h1 ?_;refine dW (v:=.tup [.str (ij hs),.ref 0]) rfl ?_;have:=qg 3 [.list (aq (dA hs))] (dA hs);show(bh (aY _ 5) [.str (ij hs),.ref 0]).map AV.tup=_;have e1:aY [.list (aq (dA hs))] 5 (.str (ij hs))=some (.str (ij hs)):=rfl;have e2:aY [.list (aq (dA hs))] 5 (.ref 0)=some (.lst (aq (dA hs))):=by
   rw[yR];show(bh _ _).map AV.lst=_;rw[this];rfl
  show Z6 AV.tup (bh (aY [.list (aq (dA hs))] 5) [.str (ij hs),.ref 0])=_;rw[gO,e1];dsimp only;rw[gO,e2];rfl
 ·rintro k ρ σ hk ⟨a,b,c,d,rfl,rfl,h1,h2⟩;have fu:∀i,i<8->(aq hs)[i]?=some (.int (hs.getD i 0:Nat)):=λi hi=>nn (by simp[*]);have Fc:(aq hs).length<=100000:=by simp[aq];simp[*]
  have FL:=Bv (1+hs.getD k 0%3) (hs.getD k 0/3);have Yq:=Bt (1+hs.getD k 0%3) (hs.getD k 0/3);have Yp:hs.getD k 0%3<3:=ZQ _ (by decide);have ho:pO hs k<48:=ZQ _ (by decide);have Yu:=G6 _ ho;have cM:(im hs k).length<=9:=by
   have:(pW hs k).length<=6:=by unfold pW;lia
   unfold im;rw[Y8];split
   ·lia
   ·show(pW hs k).length+0<=9;exact bw this rfl
  have oC:(jo hs k).length<=10:=by
   have:(pM hs k).length<=9:=by unfold pM;lia
   unfold jo;rw[Y8,YX,jba];exact Bz this rfl
  refine⟨_,_,?_,some (.int k),some (.str (pW hs k)),some (.str (pM hs k)),some (.int (pO hs k:Nat)),rfl,rfl,?_,?_⟩
  ·refine n8 (vs:=[.str (pW hs k),.str (pM hs k)]) (cL (vs:=[.int (hs.getD k 0:Nat)]) (cT (fX (l:=aq hs) (k:=k) (ag rfl) (ag rfl) (fu k (bw hk rfl)) Fc)) rfl (NE _)) rfl ?_;refine aS (v:=.int (pO hs k:Nat)) (dV (y:=48) (jB (y:=48^k) (fX (l:=aq hs) (k:=5) (ag rfl) aR (fu 5 (bw jbB rfl)) Fc) (jD aR (ag rfl) (by decide) (IL hk rfl)) (by simp) ?_) aR (by decide)) ?_
   ·exact ZE (Zi (by decide) (show k<=4 from jbH hk)) (by decide)
   refine yr (a:=(Y4 k).flatMap (im hs)) (b:=im hs k) rfl (Dh (ag rfl) ?_ ?_) (by lia) ?_
   ·by_cases h4:k<4
    ·refine pU ((pV (x:=k) (y:=4) (ag rfl) aR).trans (by rw[decide_eq_true h4])) ?_;rw[if_pos h4];exact fX (l:=cA.map λp=>AV.str p.1) (k:=pO hs k) (ag rfl) (ag rfl) (T6 _ ho) (by decide)
    ·refine pT ((pV (x:=k) (y:=4) (ag rfl) aR).trans (by rw[decide_eq_false h4])) ?_;rw[if_neg h4];exact mL
   ·have:=cM;unfold im at this;rw[Y8]at this;exact bw this rfl
   refine Nm (i:=0) (a:=aq ((Y4 k).flatMap (jo hs))) (b:=aq (jo hs k)) rfl rfl ?_ (by rw[YX,YX];lia) ?_
   ·have hc:∀v∈((pM hs k).map λc=>AV.str [c]),ev (Fi (N+1)) [.list (aq ((Y4 k).flatMap (jo hs)))] ([some (.lst (aq hs)),some qP,some (.str ((Y4 k).flatMap (im hs)++im hs k)),some (.ref 0),some (.int k),some (.str (pW hs k)),some (.str (pM hs k)),some (.int (pO hs k:Nat))]++[some v]) (.bin .Add (.c (.int 256)) (.call .index (.cons (.c (.str "filst")) (.cons (.var 8) .nil))))=some ((λv=>match v with | .str (c::_)=>AV.int ((256+iQ c:Nat))|v=>v) v):=by
     intro v hv;refine au (Zk.mp hv) ?_;rintro c hc rfl;have hcl:=Bu _ _ c hc;exact iF (x:=256) (y:=iQ c) aR (dL (vs:=[.str ch,.str [c]]) (dM mL (ag rfl)) (Rj c hcl))
    refine(sb (x:=aq ((pM hs k).map λc=>256+iQ c)) (y:=aq [if k<4 then 7+pO hs k else 0]) ?_ ?_ ?_).trans ?_
    ·refine(nZ (x:=8) (vs:=(pM hs k).map λc=>AV.str [c]) rfl rfl ?_ hc).trans ?_
     ·have:(pM hs k).length<=9:=by unfold pM;lia
      rw[YX];exact bw this rfl
     ·rw[ZF];unfold aq;rw[ZF];rfl
    ·refine sd (cT ?_) (show 1<=100000 by decide);by_cases h4:k<4
     ·refine pU ((pV (x:=k) (y:=4) (ag rfl) aR).trans (by rw[decide_eq_true h4])) ?_;rw[if_pos h4];exact iF (x:=7) aR (ag rfl)
     ·refine pT ((pV (x:=k) (y:=4) (ag rfl) aR).trans (by rw[decide_eq_false h4])) ?_;rw[if_neg h4];exact aR
    ·have:=oC;unfold jo at this;rw[Y8,YX,jba]at this;show(aq _).length+(aq _).length<=_;rw[YX,YX,YX];show _+1<=_;exact bw this rfl
    ·unfold jo aq;rw[ZO]
   refine bH.trans ?_;rw[jaF,jaR,jaR,jcN,jcN];unfold aq;rw[ZO];rfl
  ·rw[jaF,jaR,Y8,jcN];lia
  ·rw[jaF,jaR,Y8,jcN];lia
def fW (T:List Nat):List Nat:=(T.filter λ(c:Nat)=>!dz (c:Int)).flatMap iy
theorem uI (a b:List Nat):fW (a++b)=fW a++fW b:=by
 unfold fW;rw[jdF,jaR]
theorem KV:((Y4 15).all (λd=>(Y4 (if d<2 then 8 else 5)).all λw=>fW [(dB d w).1]==(dB d w).2)&&(Y4 28).all (λv=>fW (lz v)==[]))=true:=by decide +kernel
theorem KS:∀w,w<48->fW (ii w)=ii w:=by decide +kernel
theorem KU (r:Nat):fW (kz r)=io r:=by
 have h:=KV;rw[Zs]at h;have h1:=Y3.mp h.1 (r%15) (ZH.mpr (ZQ _ (by decide)));have e:∀d w,dB d w=dB d (w%(if d<2 then 8 else 5)):=λd w=>by
  unfold dB;by_cases hd:d<2
  ·rw[if_pos hd,if_pos hd,if_pos hd,Nat.mod_mod]
  ·rw[if_neg hd,if_neg hd,if_neg hd,Nat.mod_mod]
 have h2:=Y3.mp h1 (r/15%40%(if r%15<2 then 8 else 5)) (ZH.mpr (ZQ _ (by split<;>decide)));rw[<-e]at h2;have h3:=Y3.mp h.2 (r/600%28) (ZH.mpr (ZQ _ (by decide)));unfold kz io;rw[uI,eq_of_beq h2,eq_of_beq h3,jaS]
theorem Cq:∀k r,fW (lA k r)=jt k r
 |0,_=>rfl
 |k+1,r=>by rw[Bw,t6,uI,KU,Cq k]
def qy (l:List Nat):List (List Nat×Nat):=l.map λc=>([c],256+iQ c)
def tP (L:List Nat):Nat:=if(cA.lookup (L.take 3)).isSome then 3 else if(cA.lookup (L.take 2)).isSome then 2 else 1
def jv:List (List Nat×Nat)->Prop
 | []=>True
 |x::xs=>x.1≠[]/\tP (x.1++xs.flatMap (·.1))=x.1.length/\x.1.length<=3/\(match cA.lookup x.1 with|some k=>k=x.2|none=>mC [.str ch,.str x.1]=some (.int ((x.2:Int)-256)))/\jv xs
theorem Wv:cA.all (λp=>p.1.all λc=>!ch.contains c)=true:=by decide +kernel
theorem qA (hc:c∈l)(hl:c∈ch):cA.lookup l=none:=by
 rw[jgR];intro p hp;rw[bne_iff_ne];rintro rfl;have:=Y3.mp (Y3.mp Wv p hp) c hc;simp[hl]at this
theorem yY (h:jv az):∀l:List Nat,(∀c∈l,c∈ch)->jv (qy l++az)
 | [],_=>h
 |c::l,hl=>by
  have hc:=hl c (by simp);have ih:=yY h l (λc hc=>hl c (by simp[hc]));refine⟨by simp,?_,by simp,?_,ih⟩
  ·unfold tP;refine aa (qA (c:=c) (by simp) hc) ?_;refine aa (qA (c:=c) (by simp) hc) ?_;rfl
  ·refine aa (qA (c:=c) (by simp) hc) ?_;show mC [.str ch,.str [c]]=_;refine aa (NW c hc) ?_;exact congrArg (λz=>some (AV.int z)) (by show(iQ c:Int)=((256+iQ c:Nat):Int)-256;lia)
theorem T7:∀w,w<48->ii w≠[]/\(ii w).length<=3/\cA.lookup (ii w)=some ((7+w:Nat):Int):=by decide +kernel
theorem OP (hw:w<48)(h:jv az)(hr:az.flatMap (·.1)=c::l)(hc:c∈ch):jv ((ii w,7+w)::az):=by
 refine fY (T7 w hw) λh1 h2 h3=>?_;refine⟨h1,?_,h2,by show(match cA.lookup (ii w)with|some k=>k=((7+w:Nat):Int)|none=>_);refine aa h3 ?_;rfl,h⟩;show tP (ii w++az.flatMap (·.1))=(ii w).length;refine aa hr ?_;generalize ii w=o at *;have eQ:∀k,o.length<k->c∈(o++c::l).take k:=λk hk=>by
  refine aa List.take_append ?_;rw[Zz];right;have:k-o.length=(k-o.length-1)+1:=wN hk;refine aa this ?_;refine aa List.take_succ_cons ?_;simp
 have vM:(o++c::l).take o.length=o:=by rw[jfO];rfl
 unfold tP;have h0:o.length≠0:=λe=>h1 (Z3.mp e);have:o.length=1\/o.length=2\/o.length=3:=zl13 (jhX h0) h2;rcases this with e|e|e
 ·refine aa (qA (eQ 3 (by simp[*])) hc) ?_;refine aa (qA (eQ 2 (ID e jbB)) hc) ?_;simp[e]
 ·refine aa (qA (eQ 3 (ID e jbB)) hc) ?_;rw[e]at vM;refine aa vM ?_;refine aa h3 ?_;refine aa e ?_;rfl
 ·rw[e]at vM;refine aa vM ?_;refine aa h3 ?_;refine aa e ?_;rfl
section
variable (hs:List Nat)
def fK (i:Nat):List (List Nat×Nat):=qy (pM hs i)++if i<4 then[(ii (pO hs i),7+pO hs i)]else[]
def items:List (List Nat×Nat):=(Y4 5).flatMap (fK hs)
end
theorem Vn:(Y4 15).all (λd=>(Y4 40).all λw=>(dB d w).2 != [])=true:=by decide +kernel
theorem Iy (k r:Nat):∃c l,jt (k+1) r=c::l/\c∈ch:=by
 have h1:=Y3.mp Vn (r%15) (ZH.mpr (ZQ _ (by decide)));have h2:=Y3.mp h1 (r/15%40) (ZH.mpr (ZQ _ (by decide)));have h3:io r≠[]:=by unfold io;simpa using h2
 refine fq (List.exists_cons_of_ne_nil h3) λc l e=>?_;refine cZ c (l++jt k (r/16800)) (by rewrite [t6];refine aa e ?_;rfl) (HE r c (by refine aa e ?_;simp))
theorem Ak (l:List Nat):(qy l).flatMap (·.1)=l:=by
 induction l with
 |nil=>rfl
 |cons a l ih =>
  show[a]++(qy l).flatMap (·.1)=_;refine aa ih ?_;rfl
theorem Eo (hs:List Nat):jv (items hs):=by
 have hM:∀i,∃c l,pM hs i=c::l/\c∈ch:=λi=>by
  unfold pM;refine aa (jbI _ _) ?_;exact Iy _ _
 have ho:∀i,pO hs i<48:=λi=>ZQ _ (by decide);have oA:∀i,∀c∈pM hs i,c∈ch:=λi=>Bu _ _;have step:∀i az,i<4->jv az->(∃c l,az.flatMap (·.1)=c::l/\c∈ch)->jv (fK hs i++az)/\∃c l,(fK hs i++az).flatMap (·.1)=c::l/\c∈ch:=by
  rintro i az hi hg ⟨c,l,e,hc⟩;unfold fK;refine aa (if_pos hi) ?_;rw[jav];refine⟨yY (OP (ho i) hg e hc) _ (oA i),?_⟩;refine bB (hM i) λc' l' e' gN=>?_;refine aa jaR ?_;refine aa (Ak _) ?_;refine aa e' ?_;exact cZ c' _ rfl gN
 have lj:jv (fK hs 4)/\∃c l,(fK hs 4).flatMap (·.1)=c::l/\c∈ch:=by
  unfold fK;refine aa (if_neg (by decide)) ?_;refine⟨yY (az:=[]) trivial _ (oA 4),?_⟩;refine aa (ZZ _) ?_;refine aa (Ak _) ?_;exact hM 4
 have h3:=step 3 _ (by decide) lj.1 lj.2;have h2:=step 2 _ (by decide) h3.1 h3.2;have h1:=step 1 _ (by decide) h2.1 h2.2;have h0:=step 0 _ (by decide) h1.1 h1.2;have:items hs=fK hs 0++(fK hs 1++(fK hs 2++(fK hs 3++fK hs 4))):=by
  unfold items;refine aa (show Y4 5=[0,1,2,3,4]from rfl) ?_;simp[jam]
 refine aa this ?_;exact h0.1
theorem Ae (hs:List Nat):(items hs).flatMap (·.1)=fW (ij hs):=by
 have ho:∀i,pO hs i<48:=λi=>ZQ _ (by decide);have:∀i,(fK hs i).flatMap (·.1)=fW (im hs i):=λi=>by
  unfold fK im pW;rw[jaR,Ak,uI,Cq];split
  ·rw[KS _ (ho i)];simp[pM]
  ·simp[pM,fW]
 have h2:∀l:List Nat,(l.flatMap (fK hs)).flatMap (·.1)=fW (l.flatMap (im hs)):=λl=>by
  induction l with
  |nil=>rfl
  |cons a l ih=>rw[jam,jam,jaR,uI,ih,this]
 exact h2 _
theorem Gf (hs:List Nat):(items hs).map (·.2)++[0]=dA hs:=by
 have e:∀i,(fK hs i).map (·.2)=(pM hs i).map (λc=>256+iQ c)++if i<4 then[7+pO hs i]else[]:=λi=>by
  unfold fK qy;refine aa ZO ?_;refine aa ZF ?_
  congr 1
  split<;>rfl
 unfold items dA;refine aa (show Y4 5=[0,1,2,3,4]from rfl) ?_;simp[jam,e,jo]
theorem ti (hs:List Nat):(items hs).length<=99:=by
 have hm:∀i,(pM hs i).length<=9:=λi=>by
  have h1:=Bt (1+hs.getD i 0%3) (hs.getD i 0/3);have h2:hs.getD i 0%3<3:=ZQ _ (by decide);unfold pM;lia
 have h:∀i,(fK hs i).length<=10:=λi=>by
  have:=hm i;unfold fK qy;refine aa Y8 ?_;refine aa (YX _) ?_;split
  ·show _+1<=10;exact Bz (hm i) rfl
  ·show _+0<=10;exact jcz (hm i)
 unfold items;refine aa (show Y4 5=[0,1,2,3,4]from rfl) ?_;have:=h 0;have:=h 1;have:=h 2;have:=h 3;have:=h 4;simp[jam]
 lia
section
theorem Wm (h:ev Φ σ ρ (.comp n gs)=some (.lst vs)):oS Φ ρ σ (.comp n gs)=some (.ref σ.length,σ++[.list vs]):=by
 replace h:(fF Φ σ ρ n gs).map AV.lst=some (.lst vs):=h;show(match fF Φ σ ρ n gs with|some vs=>some (AV.ref σ.length,σ++[AO.list vs])|none=>none)=_
 induction e:fF Φ σ ρ n gs using ae with
 |none=>rw[e]at h;exact ai h
 |some us=>rw[e]at h;refine aa (AV.lst.inj (Y0 h)) ?_;rfl
theorem Do {a e:Ex}{k:Nat}{x:List Nat}(h1:ev Φ σ ρ a=some (.str x))(h2:ev Φ σ ρ e=some (.int k))(hl:x.length<=100000):ev Φ σ ρ (.slice a .none (.some e))=some (.str (x.take k)):=by
 rw[pX,h1];dsimp only;rw[C9];dsimp only;rw[pQ,h2];dsimp only;show(if 0<=(k:Int)then md σ (λl=>l.take (k:Int).toNat) (.str x)else none)=_;rw[if_pos (Zf k),Zx];show(if _ then _ else _)=_;rw[if_pos hl]
theorem M7 {a e:Ex}{k:Nat}{x:List Nat}(h1:ev Φ σ ρ a=some (.str x))(h2:ev Φ σ ρ e=some (.int k))(hl:x.length<=100000):ev Φ σ ρ (.slice a (.some e) .none)=some (.str (x.drop k)):=by
 have hn:fG Φ σ ρ .none=some none:=rfl;have hs:fG Φ σ ρ (.some e)=some (some (k:Int)):=by rw[pQ,h2]
 rw[pX,h1];simp only[hn,hs];show(if 0<=(k:Int)then md σ (λl=>l.drop (k:Int).toNat) (.str x)else none)=_;rw[if_pos (Zf k),Zx];show(if _ then _ else _)=_;rw[if_pos hl]
theorem MV (h1:ev Φ σ ρ a=some (.bool x))(h2:ev Φ σ ρ b=some (.bool y)):ev Φ σ ρ (.and (.cons a (.cons b .nil)))=some (.bool (x&&y)):=by
 rewrite [uU,kS];refine aa h1 ?_;cases x
 ·rfl
 ·dsimp only;rewrite [kS];refine aa h2 ?_;cases y
  ·rfl
  ·dsimp only;rw[nV];rfl
theorem kR (h1:ev Φ σ ρ a=some (.bool x)):cS Φ σ ρ (.cons a .nil)=some x:=by
 rw[kS,h1];cases x
 ·rfl
 ·dsimp only;rw[nV]
end
theorem HV:∀l:List (List Nat),ip (l.map AV.str)=some l
 | []=>rfl
 |a::l=>by rw[Zy,VW,HV l];rfl
theorem UR (T:List Nat):(Y4 T.length).map (λi=>T.getD i 0)=T:=by
 refine jei (by simp) λi h1 h2=>?_;rw[jbK,jdE,Y5,Y' h2];rfl
theorem xH (T:List Nat):((((Y4 T.length).filter λi=>!dz (T.getD i 0:Nat)).map λi=>iy (T.getD i 0)).flatten)=fW T:=by
 unfold fW;have:T.filter (λ(c:Nat)=>!dz (c:Int))=((Y4 T.length).filter λi=>!dz (T.getD i 0:Nat)).map λi=>T.getD i 0:=by
  have h:=jbX (f:=λi=>T.getD i 0) (p:=λ(c:Nat)=>!dz (c:Int)) (l:=Y4 T.length);rw[UR]at h;exact h
 refine aa this ?_;refine aa List.flatMap_def ?_;refine aa ZF ?_;rfl
def Hp:dw :=
 (.cons (.asg 4 false (.call .max (.cons (.bin .Add (.list (.cons (.c (.int 1)) .nil)) (.comp 1 (.cons 5 (.val (.tup (.cons (.c (.int 2)) (.cons (.c (.int 3)) .nil)))) (.cons (.cmp .In (.slice (.var 2) .none (.some (.var 5))) (.glob .tok)) .nil) (.done (.var 5))))) .nil)))
  (.cons (.app (.var 3) (.call .get (.cons (.glob .tok) (.cons (.slice (.var 2) .none (.some (.var 4))) (.cons (.bin .Add (.c (.int 256)) (.call .find (.cons (.c (.str "filst")) (.cons (.slice (.var 2) .none (.some (.var 4))) .nil)))) .nil)))))
  (.cons (.asg 2 false (.slice (.var 2) (.some (.var 4)) .none))
  .nil)))
theorem UV {Φ:cX}{a b u:Option AV}{L:List Nat}{row:List AV}{x:List Nat×Nat}{xs:List (List Nat×Nat)}(hL:L=x.1++xs.flatMap (·.1))(hg:jv (x::xs))(hr:row.length<=1000)(hl:L.length<=1000):
 ∃u',aE Φ [a,b,some (.str L),some (.ref 0),u] [.list row] Hp=some (.next [a,b,some (.str (xs.flatMap (·.1))),some (.ref 0),u'] [.list (row++[.int (x.2:Nat)])]):=by
 refine Dy hg λg1 g2 g3 g4 g5=>?_;rw[<-hL]at g2;have jj:L.take x.1.length=x.1:=by refine aa hL ?_;exact jfO rfl
 have PA:L.drop x.1.length=xs.flatMap (·.1):=by refine aa hL ?_;exact List.drop_left' rfl
 refine⟨some (.int (x.1.length:Nat)),?_⟩;refine aS (v:=.int (x.1.length:Nat)) ?_ ?_
 ·have hc:ev Φ [.list row] [a,b,some (.str L),some (.ref 0),u] (.comp 1 (.cons 5 (.val (.tup (.cons (.c (.int 2)) (.cons (.c (.int 3)) .nil)))) (.cons (.cmp .In (.slice (.var 2) .none (.some (.var 5))) (.glob .tok)) .nil) (.done (.var 5))))=some (.lst (aq ([2,3].filter λk=>(cA.lookup (L.take k)).isSome))):=by
   refine(nY (x:=5) (vs:=aq [2,3]) (p:=λv=>match v with | .int k=>(cA.lookup (L.take k.toNat)).isSome|_=>false) (g:=id) rfl rfl (by decide) (λv hv=>?_) (λv hv Y=>?_)).trans ?_
   ·refine au (Zk.mp hv) ?_;rintro k hk rfl;refine kR (cK (x:=.str (L.take k)) (y:=.tok) (Do (ag rfl) (ag rfl) (bw hl rfl)) rfl ?_);rfl
   ·rfl
   ·show some (AV.lst (jfp id (List.filter _ (aq [2,3]))))=_;refine aa (jbQ _) ?_;unfold aq;refine aa jbX ?_;rfl
  refine dL (cT (sb (x:=aq [1]) rfl hc ?_)) ?_
  ·show 1+_<=100000;unfold aq;refine aa (YX _) ?_;have:([2,3].filter λk=>(cA.lookup (L.take k)).isSome).length<=2:=jcW _ _
   lia
  ·refine rwj g2 ?_;unfold tP;refine aa jco ?_;refine aa jco ?_;cases(cA.lookup (L.take 3)).isSome<;>cases(cA.lookup (L.take 2)).isSome<;>rfl
 refine qb (i:=0) (xs:=row) (v:=.int (x.2:Nat)) (ag rfl) ?_ rfl (bw hr rfl) (λj=>by simp) ?_
 ·have ht:∀{ρ:aB},ρ[2]?=some (some (.str L))->ρ[4]?=some (some (.int (x.1.length:Nat)))->ev Φ [.list row] ρ (.slice (.var 2) .none (.some (.var 4)))=some (.str x.1):=λh2 h4=>by
   have:=Do (Φ:=Φ) (σ:=[.list row]) (ag h2) (ag h4) (bw hl rfl)
   rwa [jj]at this
  have PJ:∃d:Int,mC [.str ch,.str x.1]=some (.int d):=⟨_,rfl⟩
  refine aW PJ λd hd=>?_;refine dL (vs:=[.tok,.str x.1,.int (256+d)]) (gJ rfl (ht rfl rfl) (nX (x:=256) bK (dL (vs:=[.str ch,.str x.1]) (dM mL (ht rfl rfl)) hd))) ?_;show some (match cA.lookup x.1 with|some k=>AV.int k|none=>.int (256+d))=_
  induction e:cA.lookup x.1 using ae with
  |some k=>rw[e]at g4;dsimp only at g4;refine aa g4 ?_;rfl
  |none =>
   rw[e]at g4;dsimp only at g4;rw[hd]at g4;simp only[jdo,AV.int.injEq]at g4;simp only[jdo,AV.int.injEq]
   lia
 ·refine aS (v:=.str (xs.flatMap (·.1))) ?_ bH;refine rwj PA ?_;exact M7 (ag rfl) (ag rfl) (bw hl rfl)
theorem Hu:∀(xs:List (List Nat×Nat)) (row:List AV) (u:Option AV) (n:Nat),jv xs->xs.length<n->row.length+xs.length<=1000->(xs.flatMap (·.1)).length<=1000 ->
 ∃u',jr (λρ σ=>ev Φ σ ρ (.cmp .NotEq (.var 2) (.c (.str "")))) (λρ σ=>aE Φ ρ σ Hp) n [a,b,some (.str (xs.flatMap (·.1))),some (.ref 0),u] [.list row]=some (.next [a,b,some (.str []),some (.ref 0),u'] [.list (row++aq (xs.map (·.2)))])
 |_,_,_,0,_,h,_,_=>by lia
 | [],row,u,n+1,hg,_,hr,hl=>by
  refine⟨u,?_⟩;rw[Br];have:ev Φ [.list row] [a,b,some (.str (([]:List (List Nat×Nat)).flatMap (·.1))),some (.ref 0),u] (.cmp .NotEq (.var 2) (.c (.str "")))=some (.bool false):=rfl;simp only[this];simp
 |x::xs,row,u,n+1,hg,hn,hr,hl=>by
  rw[Zl]at hn hr;have vw:(xs.flatMap (·.1)).length<=1000:=by
   rw[jam,Y8]at hl;exact wJ hl
  refine aW (UV (Φ:=Φ) (a:=a) (b:=b) (u:=u) (L:=(x::xs).flatMap (·.1)) (row:=row) rfl hg (Bx hr) hl) λu1 h1=>?_;refine aW (Hu (Φ:=Φ) (a:=a) (b:=b) xs (row++[.int (x.2:Nat)]) u1 n hg.2.2.2.2 (by lia) (by refine aa Y8 ?_;refine aa jba ?_;exact ua hr) vw) λu2 h2=>?_;refine⟨u2,?_⟩;rw[Br];have:ev Φ [.list row] [a,b,some (.str ((x::xs).flatMap (·.1))),some (.ref 0),u] (.cmp .NotEq (.var 2) (.c (.str "")))=some (.bool true):=by
   refine(cK (x:=.str ((x::xs).flatMap (·.1))) (y:=.str []) (c:=true) rfl mL ?_);show some (!decide _)=_;rw[decide_eq_false];rfl;intro e;refine bN hg λg1 Y=>?_;rw[jam]at e;exact g1 (List.append_eq_nil_iff.mp e).1
  simp only[this,h1,h2];rw[jav];rfl
theorem Jz:((fW (ij hs)).length<=1000):=by
 refine rwj (Ae _) ?_;have hg:∀xs:List (List Nat×Nat),jv xs->(xs.flatMap (·.1)).length<=3*xs.length:=λxs=>by
  induction xs with
  |nil=>intro _;simp
  |cons x xs ih =>
   intro h;have:=ih h.2.2.2.2;have:=h.2.2.1;refine aa jam ?_;refine aa Y8 ?_;refine aa Zl ?_;lia
 have:=hg _ (Eo hs);have:=ti hs
 lia
theorem Ui (hs:List Nat):(ij hs).length<=45:=by
 have h:∀i,(im hs i).length<=9:=λi=>by
  have h1:=Bv (1+hs.getD i 0%3) (hs.getD i 0/3);have h2:hs.getD i 0%3<3:=ZQ _ (by decide);have h3:=G6 (pO hs i) (ZQ _ (by decide));have:(pW hs i).length<=6:=by unfold pW;lia
  unfold im;refine aa Y8 ?_;split
  ·lia
  ·show _+0<=9;exact bw this rfl
 unfold ij;refine aa (show Y4 5=[0,1,2,3,4]from rfl) ?_;have:=h 0;have:=h 1;have:=h 2;have:=h 3;have:=h 4;simp only[jam,List.flatMap_nil,Y8,jbj]
 lia
theorem NG (hs:List Nat):Fi (N+2) 15 [.str (ij hs)]=some (.lst (aq (dA hs))):=by
 refine fB Oh rfl ?_;have hT:=Ui hs;have hC:=Jz (hs:=hs);rw[<-xH]at hC;generalize EA:ij hs=T at *;show aE (Fi (N+1)) ([some (.str T)]++Ze 4 none) [] DP.body=_;have Bm:ev (Fi (N+1)) [] [some (.str T),none,none,none,none] (.comp 1 (.cons 5 (.val (.var 0)) .nil (.done (.call (.user 8) (.cons (.var 5) .nil)))))=some (.lst (T.map λ(c:Nat)=>.bool (dz c))):=by
  refine(nZ (x:=5) (vs:=T.map λc=>AV.str [c]) (g:=λv=>match v with | .str (c::_)=>.bool (dz c)|v=>v) rfl rfl (by rw[YX];exact bw hT rfl) (λv hv=>?_)).trans ?_
  ·refine au (Zk.mp hv) ?_;rintro c hc rfl;exact cL (vs:=[.str [c]]) (cT (ag rfl)) rfl NT
  ·rw[ZF];rfl
 refine aS Bm ?_;have qr:∀i,i<T.length->T[i]?=some (T.getD i 0):=λi hi=>yU hi;have plain:ev (Fi (N+1)) [] [some (.str T),some (.lst (T.map λ(c:Nat)=>.bool (dz c))),none,none,none] (.call .join (.cons (.c (.str "")) (.cons (.comp 1 (.cons 5 (.range (.cons (.call .len (.cons (.var 0) .nil)) .nil)) (.cons (.cmp .Is (.idx (.var 1) (.var 5)) (.c (.bool false))) .nil) (.done (.call (.user 9) (.cons (.idx (.var 0) (.var 5)) .nil))))) .nil)))=some (.str (fW T)):=by
  have hc:ev (Fi (N+1)) [] [some (.str T),some (.lst (T.map λ(c:Nat)=>.bool (dz c))),none,none,none] (.comp 1 (.cons 5 (.range (.cons (.call .len (.cons (.var 0) .nil)) .nil)) (.cons (.cmp .Is (.idx (.var 1) (.var 5)) (.c (.bool false))) .nil) (.done (.call (.user 9) (.cons (.idx (.var 0) (.var 5)) .nil)))))=some (.lst (((((Y4 T.length).filter λi=>!dz (T.getD i 0:Nat)).map λi=>iy (T.getD i 0))).map AV.str)):=by
   refine(nY (x:=5) (vs:=aq (Y4 T.length)) (p:=λv=>match v with | .int k=>!dz (T.getD k.toNat 0:Nat)|_=>false) (g:=λv=>match v with | .int k=>.str (iy (T.getD k.toNat 0))|v=>v) (j8 ?_ (bw hT rfl)) rfl (by rw[YX,jab];exact bw hT rfl) (λv hv=>?_) (λv hv Y=>?_)).trans ?_
   ·exact dL (vs:=[.str T]) rfl (by show(if T.length<=100000 then _ else _)=_;rw[if_pos (bw hT rfl)])
   ·refine au (Zk.mp hv) ?_;rintro k hk rfl;have hk:=ZH.mp hk;refine kR (cK (x:=.bool (dz (T.getD k 0:Nat))) (y:=.bool false) (fX (l:=T.map λ(c:Nat)=>AV.bool (dz c)) (k:=k) (ag rfl) (ag rfl) (by rw[ZK,qr k hk];rfl) (by rw[YX];exact bw hT rfl)) rfl ?_);have hb:∀b:Bool,some (b==false)=some (!b):=λb=>by cases b<;>rfl
    exact hb _
   ·refine au (Zk.mp hv) ?_;rintro k hk rfl;have hk:=ZH.mp hk;exact cL (vs:=[.str [T.getD k 0]]) (cT (Df (l:=T) (k:=k) (ag rfl) (ag rfl) (qr k hk) (bw hT rfl))) rfl NU
   ·unfold aq;rw[jbX,ZF,ZF];rfl
  refine dL (dM mL hc) ?_;show(match ip _ with|some xs=>_|none=>_)=_;rw[HV];simp only[];rw[if_pos (bw hC rfl),xH]
 refine aS plain ?_;have UY:ev (Fi (N+1)) [] [some (.str T),some (.lst (T.map λ(c:Nat)=>.bool (dz c))),some (.str (fW T)),none,none] (.comp 1 (.cons 5 (.val (.var 1)) (.cons (.and (.cons (.cmp .IsNot (.var 5) (.c (.bool true))) (.cons (.cmp .IsNot (.var 5) (.c (.bool false))) .nil))) .nil) (.done (.var 5))))=some (.lst []):=by
  refine(nY (x:=5) (vs:=T.map λ(c:Nat)=>.bool (dz c)) (p:=λv=>false) (g:=id) rfl rfl (by rw[YX];exact bw hT rfl) (λv hv=>?_) (λv hv h=>by cases h)).trans ?_
  ·refine au (Zk.mp hv) ?_;rintro c hc rfl;refine kR ((MV (x:=!(dz c==true)) (y:=!(dz c==false)) rfl rfl).trans ?_);cases dz c<;>rfl
  ·simp
 refine sm (Wm UY) ?_;refine aW (Hu (Φ:=Fi (N+1)) (a:=some (.str T)) (b:=some (.lst (T.map λ(c:Nat)=>.bool (dz c)))) (items hs) [] none 100 (Eo hs) (by have:=ti hs;lia) (by have:=ti hs;simp;exact bw this rfl) (by rw[Ae,EA,<-xH];exact hC)) λu' hw=>?_;rw[Ae,EA]at hw;refine No hw ?_;refine dW (v:=.lst (aq (dA hs))) ?_ ?_
 ·have:dE [.list (aq ((items hs).map (·.2)))] .Add (.ref 0) (.lst [.int 0])=some (.lst (aq (dA hs))):=by
   show(if(aq ((items hs).map (·.2))).length+1<=100000 then some (AV.lst (aq ((items hs).map (·.2))++[.int 0]))else none)=_;have:=ti hs;rw[if_pos (by rw[YX,YX];lia),<-Gf];unfold aq;rw[ZO];rfl
  exact cb (x:=.ref 0) (y:=.lst [.int 0]) rfl rfl this
 ·show(bh _ _).map AV.lst=_;have h:=qg 4 [.list ([]++aq ((items hs).map (·.2)))] (dA hs);exact(congrArg (Z6 AV.lst) h).trans rfl
theorem tq:∀(n:Nat) (l:List Nat),l.Nodup->(∀x∈l,x<n)->l.length<=n
 |0,[],_,_=>by simp
 |0,a::l,_,h=>by have:=h a (by simp);lia
 |n+1,l,hd,h=>by
  have h1:=tq n (l.erase n) (hd.erase n) (λx hx=>by
   rw[hd.mem_erase_iff]at hx;have:=h x hx.2;have:=hx.1
   lia)
  have:=List.length_erase (a:=n) (l:=l);split at this<;>lia
abbrev bC (l:List Int):List AV:=l.map AV.int
def nu:List AV:=[.ref 1,.ref 2,.ref 3,.ref 4,.ref 5]
def cp (nm:List Int)(ne:List (List Nat)):aA:=.list (bC nm)::(ne.map (λl=>AO.list (aq l))++[.list nu])
theorem ww (h:ne.length=5)(hp:p<5):(cp nm ne)[p+1]?=some (.list (aq (ne.getD p []))):=by
 unfold cp;rw[jeh,Zq (by rw[YX];simp[*]),ZK,Y5,Y' (by simp[*])];rfl
theorem HP (h:ne.length=5)(hp:p<5):(cp nm ne).set (p+1) (.list (aq l))=cp nm (ne.set p l):=by
 unfold cp;rw[List.set_cons_succ,jbV,if_pos (by rw[YX];simp[*]),List.map_set]
theorem Ba (h:ne.length=5):(cp nm ne)[6]?=some (.list nu):=by
 unfold cp;rw[jeh,Zd (by rw[YX];exact ZG h),YX,h];rfl
def ge:Option Nat->Int
 |none=>-1
 |some k=>k
structure eV (nm:List Int) (ne:List (List Nat)) (pv:Option Nat):Prop where
 nm1:∀x∈nm,256<=x/\x<261
 nd:nm.Nodup
 len:ne.length=5
 pv:∀p,pv=some p->p<nm.length
 sym:∀i,∀j∈ne.getD i [],j<nm.length/\i<nm.length/\j≠i/\i∈ne.getD j []
 ndp:∀i,(ne.getD i []).Nodup
theorem eV.le {pv:Option Nat}(h:eV nm ne pv):nm.length<=5:=by
 have:=tq 5 (nm.map λx=>(x-256).toNat) (by
  have:=h.nd;unfold List.Nodup at this ⊢;rw[List.pairwise_map];refine this.imp_of_mem λ{a b} ha hb hab e=>hab ?_;exact(Int.sub_left_inj 256).mp ((jbL (jeS (h.nm1 a ha).1)).symm.trans ((congrArg Z0 e).trans (jbL (jeS (h.nm1 b hb).1))))) (λx hx=>by
   refine au (Zk.mp hx) ?_;rintro y hy rfl;have:=h.nm1 y hy;omega)
 rwa [YX]at this
theorem eV.le2 {pv:Option Nat}(h:eV nm ne pv)(i:Nat):(ne.getD i []).length<=5 :=
 tq 5 _ (h.ndp i) (λj hj=>by have:=(h.sym i j hj).1;have:=h.le;lia)
theorem yV {α:Type}(l:List α)(i j:Nat)(a d:α):(l.set i a).getD j d=if i=j/\i<l.length then a else l.getD j d:=by
 refine aa Y5 ?_;refine aa jbh ?_;refine aa Y5 ?_;by_cases h:i=j
 ·subst h;by_cases h2:i<l.length
  ·simp[h2]
  ·simp[h2,jcb (jiF h2)]
 ·simp[h]
theorem eV.wire {pv:Option Nat}(h:eV nm ne pv)(hp:p<nm.length)(hk:k<nm.length)(zG:k≠p)(hn:k∉ne.getD p []):
 eV nm ((ne.set p (ne.getD p []++[k])).set k (ne.getD k []++[p])) pv:=by
 have aT:=h.le;have aO:=h.len;have Qo:p<ne.length:=by lia
 have P1:k<ne.length:=by lia
 have vG:p∉ne.getD k []:=λhc=>hn (h.sym k p hc).2.2.2;have e:∀i,((ne.set p (ne.getD p []++[k])).set k (ne.getD k []++[p])).getD i []=if i=k then ne.getD k []++[p]else if i=p then ne.getD p []++[k]else ne.getD i []:=λi=>by
  rw[yV,yV,jbC];by_cases h1:i=k
  ·rw[if_pos ⟨h1.symm,P1⟩,if_pos h1]
  ·rw[if_neg (λc=>h1 c.1.symm),if_neg h1];by_cases h2:i=p
   ·rw[if_pos ⟨h2.symm,Qo⟩,if_pos h2]
   ·rw[if_neg (λc=>h2 c.1.symm),if_neg h2]
 have hm:∀i j,j∈ne.getD i []->j∈((ne.set p (ne.getD p []++[k])).set k (ne.getD k []++[p])).getD i []:=λi j hj=>by
  rw[e];by_cases h1:i=k
  ·rw[if_pos h1,Zz];left;rw[<-h1];exact hj
  ·rw[if_neg h1];by_cases h2:i=p
   ·rw[if_pos h2,Zz];left;rw[<-h2];exact hj
   ·rw[if_neg h2];exact hj
 refine⟨h.nm1,h.nd,by rw[jbC,jbC];exact aO,h.pv,?_,?_⟩
 ·intro i j hj;rw[e]at hj;by_cases h1:i=k
  ·rw[if_pos h1,Zz,Zn]at hj;rcases hj with hj|rfl
   ·have:=h.sym k j hj;subst h1;exact lg this.1 this.2.1 this.2.2.1 (hm _ _ this.2.2.2)
   ·subst h1;refine lg hp hk (λc=>zG c.symm) ?_;rw[e,if_neg (λc=>zG c.symm),if_pos rfl];simp
  ·rw[if_neg h1]at hj;by_cases h2:i=p
   ·rw[if_pos h2,Zz,Zn]at hj;rcases hj with hj|rfl
    ·have:=h.sym p j hj;subst h2;exact lg this.1 this.2.1 this.2.2.1 (hm _ _ this.2.2.2)
    ·subst h2;refine lg hk hp zG ?_;rw[e,if_pos rfl];simp
   ·rw[if_neg h2]at hj;have:=h.sym i j hj;exact lg this.1 this.2.1 this.2.2.1 (hm _ _ this.2.2.2)
 ·intro i;have vd:∀(l:List Nat) (x:Nat),l.Nodup->x∉l->(l++[x]).Nodup:=λl x hl hx=>by
   rw[jbg];refine cz hl (by simp) (λa ha b hb=>?_);rw[Zn]at hb;rintro rfl;exact hx (hb▸ha)
  rw[e];split
  ·exact vd _ _ (h.ndp k) vG
  ·split
   ·exact vd _ _ (h.ndp p) hn
   ·exact h.ndp i
theorem eV.pv' {pv pv':Option Nat}(h:eV nm ne pv)(h2:∀p,pv'=some p->p<nm.length):eV nm ne pv' :=
 ⟨h.nm1,h.nd,h.len,h2,h.sym,h.ndp⟩
theorem eV.name {pv:Option Nat}(h:eV nm ne pv)(hx:256<=x/\x<261)(hn:x∉nm):eV (nm++[x]) ne pv:=by
 refine⟨λy hy=>?_,?_,h.len,λp hp=>?_,λi j hj=>?_,h.ndp⟩
 ·rw[Zz,Zn]at hy;rcases hy with hy|rfl
  ·exact h.nm1 y hy
  ·exact hx
 ·rw[jbg];refine cz h.nd (by simp) (λa ha b hb=>?_);rw[Zn]at hb;rintro rfl;exact hn (hb▸ha)
 ·have:=h.pv p hp;refine aa Y8 ?_;exact jcz this
 ·have:=h.sym i j hj;refine aa Y8 ?_;exact cz (by lia) (by lia) this.2.2
section
theorem iE (h:ev Φ σ ρ a=some (.bool true))(h2:cS Φ σ ρ es=b):cS Φ σ ρ (.cons a es)=b:=by
 rewrite [kS];refine aa h ?_;exact h2
theorem nU (h:ev Φ σ ρ a=some (.bool false)):cS Φ σ ρ (.cons a es)=some false:=by
 rw[kS,h]
theorem C6:cS Φ σ ρ .nil=some true:=by rw[nV]
theorem kU (h:cS Φ σ ρ es=some b):ev Φ σ ρ (.and es)=some (.bool b):=by
 rw[uU,h];rfl
theorem ye (h1:ev Φ σ ρ a=some (.int x))(h2:ev Φ σ ρ b=some (.int y)):ev Φ σ ρ (.cmp .Gt a b)=some (.bool (decide (y<x))):=cK h1 h2 rfl
theorem yd (h1:ev Φ σ ρ a=some (.int x))(h2:ev Φ σ ρ b=some (.int y)):ev Φ σ ρ (.cmp .GtE a b)=some (.bool (decide (y<=x))):=cK h1 h2 rfl
theorem yg (h1:ev Φ σ ρ a=some (.int x))(h2:ev Φ σ ρ b=some (.int y)):ev Φ σ ρ (.cmp .NotEq a b)=some (.bool (!decide (x=y))):=cK h1 h2 rfl
theorem yi (h1:ev Φ σ ρ a=some (.int x))(h2:ev Φ σ ρ b=some (.ref j))(h3:σ[j]?=some (.list (bC is))):ev Φ σ ρ (.cmp .NotIn a b)=some (.bool (!decide (x∈is))):=by
 refine cK h1 h2 ?_;have hl:aQ σ (.ref j)=some (bC is):=An h3;show(match aQ σ (.ref j)with|some vs=>(ni x vs).map (!·)|none=>none)=_;refine aa hl ?_;show(ni x (is.map AV.int)).map (!·)=_;unfold ni;refine aa (rG _) ?_;simp only[jhW,jdo]
 congr 1
 rw[jaH,jek,decide_eq_true_iff];constructor
 ·rintro⟨y,hy,e⟩;refine rwj (eq_of_beq e) ?_;exact hy
 ·intro h;exact aN x h (by simp)
theorem uQ {a i:Ex}{j k:Nat}{l:List AV}{v:AV}(h1:ev Φ σ ρ a=some (.ref j))(h2:ev Φ σ ρ i=some (.int k))(h3:σ[j]?=some (.list l))(hv:l[k]?=some v)(hn:l.length<=100000):ev Φ σ ρ (.idx a i)=some v:=by
 refine mJ h1 h2 ?_;have hl:aQ σ (.ref j)=some l:=An h3;show(match aQ σ (.ref j)with|some vs=>(fO (k:Int) vs.length).bind λj=>vs[j]?|none=>_)=_;refine aa hl ?_;simp only[];refine aa (wk (Zw.mp hv).1 hn) ?_;exact hv
theorem MZ (h1:ev Φ σ ρ a=some (.ref j))(h2:ev Φ σ ρ i=some (.int x))(h3:σ[j]?=some (.list (bC is)))(hk:is.findIdx? (·==x)=some k)(hn:k<=100000):ev Φ σ ρ (.call .index (.cons a (.cons i .nil)))=some (.int k):=by
 refine dL (dM h1 h2) ?_;have hl:aQ σ (.ref j)=some (bC is):=An h3;show nO σ [.ref j,.int x]=_;unfold nO;simp only[hl,rG,hk];rw[if_pos hn]
end
def GO:dw:=match yA.body with | .cons _ (.cons (.for_ _ _ b) _)=>b|_=>.nil
theorem qG (l:List Nat):aq l=bC (l.map Z0):=by
 unfold aq bC;refine aa ZF ?_;rfl
theorem Tr (h:eV nm ne pv)(hx:256<=x->x<261):
 ∃dG mc pv' k',aE (Fi (N+1)) [some row,some (.ref 0),some (.ref 6),some (.int (ge pv)),some (.int x),k] (cp nm ne) GO=some (.next [some row,some (.ref 0),some (.ref 6),some (.int (ge pv')),some (.int x),k'] (cp dG mc))/\eV dG mc pv'/\((nm≠[]\/256<=x)->dG≠[]):=by
 have c0:∀{ρ:aB},ρ[4]?=some (some (.int x))->ev (Fi (N+1)) (cp nm ne) ρ (.or (.cons (.cmp .IsNot (.call (.user 10) (.cons (.var 4) .nil)) (.cmp .Lt (.var 4) (.c (.int 256)))) (.cons (.cmp .IsNot (.call (.user 11) (.cons (.var 4) .nil)) (.cmp .Gt (.var 4) (.c (.int 255)))) (.cons (.cmp .IsNot (.call (.user 12) (.cons (.var 4) .nil)) (.cmp .Eq (.var 4) (.c (.int 0)))) .nil))))=some (.bool false):=λ{ρ} h4=>by
  have hb:∀b:Bool,some (!(b==b))=some false:=λb=>by cases b<;>rfl
  refine M4 (cK (x:=.bool (decide (x<256))) (y:=.bool (decide (x<256))) (cL (vs:=[.int x]) (cT (ag h4)) rfl NB) (n0 (ag h4) bK) (hb _)) (cK (x:=.bool (decide (256<=x))) (y:=.bool (decide (256<=x))) (cL (vs:=[.int x]) (cT (ag h4)) rfl NC) ?_ (hb _)) (cK (x:=.bool (decide (x=0))) (y:=.bool (decide (x=0))) (cL (vs:=[.int x]) (cT (ag h4)) rfl ND) (uP (ag h4) bK) (hb _));refine aa (ye (ag h4) (bK (i:=255))) ?_;exact congrArg (λb=>some (AV.bool b)) (decide_eq_decide.mpr (by rfl))
 have aT:=h.le;have g0:(cp nm ne)[0]?=some (.list (bC nm)):=rfl;by_cases qj:256<=x
 ·have gt:∀{ρ:aB}{σ:aA},ρ[4]?=some (some (.int x))->ev (Fi (N+1)) σ ρ (.cmp .Gt (.var 4) (.c (.int 255)))=some (.bool true):=λh4=>by
   refine aa (ye (ag h4) (bK (i:=255))) ?_;refine aa (decide_eq_true (qj)) ?_;rfl
  obtain⟨dG,jh,f8,ji,cM⟩:∃dG,(eV dG ne pv)/\x∈dG/\dG≠[]/\∀{u:Option Fl}{ss:dw},aE (Fi (N+1)) [some row,some (.ref 0),some (.ref 6),some (.int (ge pv)),some (.int x),k] (cp dG ne) ss=u ->
   aE (Fi (N+1)) [some row,some (.ref 0),some (.ref 6),some (.int (ge pv)),some (.int x),k] (cp nm ne) (.cons (.ife (.and (.cons (.cmp .Gt (.var 4) (.c (.int 255))) (.cons (.cmp .NotIn (.var 4) (.var 1)) .nil))) (.cons (.app (.var 1) (.var 4)) .nil) .nil) ss)=u:=by
   by_cases eQ:x∈nm
   ·refine vS nm h eQ (List.ne_nil_of_mem eQ) (λhu=>?_);refine du (kU (iE (gt rfl) (nU ?_))) bH hu;refine aa (yi (ag rfl) (ag rfl) g0) ?_;refine aa (decide_eq_true eQ) ?_;rfl
   ·refine vS (nm++[x]) (h.name ⟨qj,hx qj⟩ eQ) (by simp) (by simp) (λhu=>?_);refine mO (an:=cp (nm++[x]) ne) (kU (iE (gt rfl) (iE ?_ C6))) (qb (i:=0) (v:=.int x) (ag rfl) (ag rfl) g0 (by refine aa (YX _) ?_;exact bw aT rfl) (λj=>by simp) ?_) hu
    ·refine aa (yi (ag rfl) (ag rfl) g0) ?_;refine aa (decide_eq_false eQ) ?_;rfl
    ·refine aa bH ?_;unfold cp bC;refine aa ZO ?_;rfl
  have OH:(cp dG ne)[0]?=some (.list (bC dG)):=rfl;have vz:=jh.le;obtain⟨q,hq⟩:∃q,dG.findIdx? (·==x)=some q:=by
   induction e:dG.findIdx? (·==x)using ae with
   |some q=>exact⟨q,rfl⟩
   |none =>
    rw[jgB]at e;have:=e x f8;simp at this
  have Fw:q<dG.length:=by
   have:=List.findIdx?_eq_some_iff_findIdx_eq.mp hq;simp[*]
  have aO:=jh.len;have TF:ev (Fi (N+1)) (cp dG ne) [some row,some (.ref 0),some (.ref 6),some (.int (ge pv)),some (.int x),k] (.ite (.cmp .Gt (.var 4) (.c (.int 255))) (.call .index (.cons (.var 1) (.cons (.var 4) .nil))) (.un .USub (.c (.int 1))))=some (.int q):=
   pU (gt rfl) (MZ (ag rfl) (ag rfl) OH hq (by lia))
  have u8:∀{ρ:aB}{σ:aA},ρ[5]?=some (some (.int q))->ev (Fi (N+1)) σ ρ (.cmp .GtE (.var 5) (.c (.int 0)))=some (.bool true):=λh5=>by
   refine aa (yd (ag h5) (bK (i:=0))) ?_;refine aa (decide_eq_true (Zf q)) ?_;rfl
  obtain⟨mc,oz,QG⟩:∃mc,eV dG mc pv/\∀{u:Option Fl}{ss:dw},aE (Fi (N+1)) [some row,some (.ref 0),some (.ref 6),some (.int (ge pv)),some (.int x),some (.int q)] (cp dG mc) ss=u ->
   aE (Fi (N+1)) [some row,some (.ref 0),some (.ref 6),some (.int (ge pv)),some (.int x),some (.int q)] (cp dG ne) (.cons (.ife (.and (.cons (.cmp .GtE (.var 5) (.c (.int 0))) (.cons (.cmp .GtE (.var 3) (.c (.int 0))) (.cons (.cmp .NotEq (.var 5) (.var 3)) (.cons (.cmp .NotIn (.var 5) (.idx (.var 2) (.var 3))) .nil))))) (.cons (.app (.idx (.var 2) (.var 3)) (.var 5)) (.cons (.app (.idx (.var 2) (.var 5)) (.var 3)) .nil)) .nil) ss)=u:=by
   induction hpv:pv using ae with
   |none =>
    refine aN ne (hpv▸jh) (λhu=>du (kU (iE (u8 rfl) (nU ?_))) bH hu);exact(yd (x:=-1) (ag rfl) (bK (i:=0))).trans rfl
   |some p =>
    have hp:=jh.pv p hpv;subst hpv;have gp:∀{σ:aA},ev (Fi (N+1)) σ [some row,some (.ref 0),some (.ref 6),some (.int (ge (some p))),some (.int x),some (.int q)] (.cmp .GtE (.var 3) (.c (.int 0)))=some (.bool true):=by
     intro σ;refine(yd (x:=(p:Int)) (ag rfl) (bK (i:=0))).trans ?_;refine aa (decide_eq_true (Zf p)) ?_;rfl
    have Qw:nu[p]?=some (.ref (p+1)):=by
     have:p=0\/p=1\/p=2\/p=3\/p=4:=by lia
     rcases this with rfl|rfl|rfl|rfl|rfl<;>rfl
    have Qx:nu[q]?=some (.ref (q+1)):=by
     have:q=0\/q=1\/q=2\/q=3\/q=4:=by lia
     rcases this with rfl|rfl|rfl|rfl|rfl<;>rfl
    have FU:∀{ne2:List (List Nat)},ne2.length=5->ev (Fi (N+1)) (cp dG ne2) [some row,some (.ref 0),some (.ref 6),some (.int (ge (some p))),some (.int x),some (.int q)] (.idx (.var 2) (.var 3))=some (.ref (p+1)):=λh2 =>
     uQ (j:=6) (k:=p) (ag rfl) (ag rfl) (Ba h2) Qw (by decide)
    have Ro:∀{ne2:List (List Nat)},ne2.length=5->ev (Fi (N+1)) (cp dG ne2) [some row,some (.ref 0),some (.ref 6),some (.int (ge (some p))),some (.int x),some (.int q)] (.idx (.var 2) (.var 5))=some (.ref (q+1)):=λh2 =>
     uQ (j:=6) (k:=q) (ag rfl) (ag rfl) (Ba h2) Qx (by decide)
    by_cases hqp:q=p
    ·refine aN ne jh (λhu=>du (kU (iE (u8 rfl) (iE gp (nU ?_)))) bH hu);refine(yg (x:=q) (y:=p) (ag rfl) (ag rfl)).trans ?_;refine aa (decide_eq_true (by simp[*])) ?_;rfl
    have GR:∀{σ:aA},ev (Fi (N+1)) σ [some row,some (.ref 0),some (.ref 6),some (.int (ge (some p))),some (.int x),some (.int q)] (.cmp .NotEq (.var 5) (.var 3))=some (.bool true):=by
     intro σ;refine(yg (x:=q) (y:=p) (ag rfl) (ag rfl)).trans ?_;refine aa (decide_eq_false (IC hqp)) ?_;rfl
    have OQ:(cp dG ne)[p+1]?=some (.list (bC ((ne.getD p []).map Z0))):=by
     refine aa (ww aO (be hp vz)) ?_;refine aa (qG _) ?_;rfl
    have GS:ev (Fi (N+1)) (cp dG ne) [some row,some (.ref 0),some (.ref 6),some (.int (ge (some p))),some (.int x),some (.int q)] (.cmp .NotIn (.var 5) (.idx (.var 2) (.var 3)))=some (.bool (!decide (q∈ne.getD p []))):=by
     refine(yi (x:=q) (ag rfl) (FU aO) OQ).trans ?_;refine congrArg (λb=>some (AV.bool (!b))) (decide_eq_decide.mpr ?_);rw[Zk];constructor
     ·rintro⟨y,hy,e⟩;have:y=q:=by simp only[Int.ofNat_eq_natCast]at e;lia
      refine rwj this ?_;exact hy
     ·intro hy;exact aN q hy rfl
    by_cases eQ:q∈ne.getD p []
    ·refine aN ne jh (λhu=>du (kU (iE (u8 rfl) (iE gp (iE GR (nU ?_))))) bH hu);refine aa GS ?_;refine aa (decide_eq_true eQ) ?_;rfl
    ·refine aN ((ne.set p (ne.getD p []++[q])).set q (ne.getD q []++[p])) (jh.wire hp Fw hqp eQ) (λhu=>?_);refine mO (an:=cp dG ((ne.set p (ne.getD p []++[q])).set q (ne.getD q []++[p]))) (kU (iE (u8 rfl) (iE gp (iE GR (iE ?_ C6))))) ?_ hu
     ·refine aa GS ?_;refine aa (decide_eq_false eQ) ?_;rfl
     have l1:=jh.le2 p;have l2:=jh.le2 q;refine qb (i:=p+1) (v:=.int q) (FU aO) (ag rfl) (ww aO (be hp vz)) (by refine aa (YX _) ?_;exact bw l1 rfl) (λj=>by simp) ?_;have e1:aq (ne.getD p [])++[AV.int q]=aq (ne.getD p []++[q]):=by unfold aq;refine aa ZO ?_;rfl
     refine aa e1 ?_;refine aa (HP aO (by lia)) ?_;have zu:(ne.set p (ne.getD p []++[q])).length=5:=by refine aa jbC ?_;exact aO
     have e2:(ne.set p (ne.getD p []++[q])).getD q []=ne.getD q []:=by rewrite [yV];refine aa (if_neg (λc=>hqp c.1.symm)) ?_;rfl
     have sg:=ww (nm:=dG) zu (p:=q) (by lia);rw[e2]at sg;refine qb (i:=q+1) (v:=.int p) (Ro zu) (ag rfl) sg (by refine aa (YX _) ?_;exact bw l2 rfl) (λj=>by simp) ?_;have e3:aq (ne.getD q [])++[AV.int p]=aq (ne.getD q []++[p]):=by unfold aq;refine aa ZO ?_;rfl
     refine aa e3 ?_;refine aa (HP zu (by lia)) ?_;exact bH
  refine zY dG mc (some q) (some (.int q)) ?_ (oz.pv' (λp hp=>by cases hp;exact Fw)) (λY=>ji);refine du (c0 rfl) bH (cM (aS TF (QG (aS (v:=.int q) (ag rfl) bH))))
 ·refine zY nm ne none (some (.int (-1))) ?_ (h.pv' (λp hp=>by cases hp)) (λhh=>hh.resolve_right qj);have gf:∀{ρ:aB}{σ:aA},ρ[4]?=some (some (.int x))->ev (Fi (N+1)) σ ρ (.cmp .Gt (.var 4) (.c (.int 255)))=some (.bool false):=λh4=>by
   refine aa (ye (ag h4) (bK (i:=255))) ?_;refine aa (decide_eq_false (qj)) ?_;rfl
  refine du (c0 rfl) bH (du (kU (nU (gf rfl))) bH (aS (v:=.int (-1)) (pT (gf rfl) rfl) (du (kU (nU rfl)) bH (aS (v:=.int (-1)) (ag rfl) bH))))
structure iw (ac:List (List Nat)):Prop where
 pos:1<=ac.length
 le:ac.length<=5
 sym:∀i,∀j∈ac.getD i [],j<ac.length/\j≠i/\i∈ac.getD j []
 nd:∀i,(ac.getD i []).Nodup
abbrev b9 (ac:List (List Nat)):AV:=.lst (ac.map λl=>.lst (aq l))
theorem yW {α:Type}(l:List α)(n i:Nat)(d:α):(l.take n).getD i d=if i<n then l.getD i d else d:=by
 refine aa Y5 ?_;refine aa List.getElem?_take ?_;refine aa Y5 ?_;split<;>rfl
theorem eV.graph {pv:Option Nat}(h:eV nm ne pv)(hn:nm≠[]):iw (ne.take nm.length):=by
 have aT:=h.le;have hl:(ne.take nm.length).length=nm.length:=by rw[jbu,h.len];simp[*]
 refine⟨by rw[hl];exact jeV.mpr hn,wK hl aT,λi j hj=>?_,λi=>?_⟩
 ·rw[yW]at hj;split at hj
  ·have:=h.sym i j hj;rw[hl,yW,if_pos this.1];exact⟨this.1,this.2.2⟩
  ·cases hj
 ·rw[yW];split
  ·exact h.ndp i
  ·exact jaM
theorem oK {α β:Type}{f:α->Option β}{g:α->β}:∀l:List α,(∀a∈l,f a=some (g a))->bh f l=some (l.map g)
 | [],_=>rfl
 |a::l,h=>by
  rw[gO,h a (by simp)];simp only[oK (f:=f) (g:=g) l (λb hb=>h b (by simp[hb]))];rfl
theorem Tq {nm:List Int}{ne:List (List Nat)}(h:ne.length=5)(n:Nat)(k:Nat):aY (cp nm ne) (k+3) (.lst (nu.take n))=some (b9 (ne.take n)):=by
 have hf:∀p,p<5->aY (cp nm ne) (k+2) (.ref (p+1))=some (.lst (aq (ne.getD p []))):=λp hp=>by
  rw[yR,ww h hp];show(bh _ _).map AV.lst=_;rw[qg k];rfl
 obtain⟨a,b,c,d,e,rfl⟩:∃a b c d e,ne=[a,b,c,d,e]:=by
  match ne,h with
  | [a,b,c,d,e],_=>exact z0 a b c d e rfl
 have h0:=hf 0 (by decide);have h1:=hf 1 (by decide);have h2:=hf 2 (by decide);have h3:=hf 3 (by decide);have h4:=hf 4 (by decide);have gx:bh (aY (cp nm [a,b,c,d,e]) (k+2)) (nu.take n)=some (([a,b,c,d,e].take n).map λl=>.lst (aq l)):=by
  have e5:nu=(Y4 5).map λp=>AV.ref (p+1):=rfl;have e6:[a,b,c,d,e]=(Y4 5).map λp=>[a,b,c,d,e].getD p []:=rfl;have:=oK (f:=λp=>aY (cp nm [a,b,c,d,e]) (k+2) (.ref (p+1))) (g:=λp=>AV.lst (aq ([a,b,c,d,e].getD p []))) ((Y4 5).take n) (λp hp=>hf p (ZH.mp (jeF hp)));have hm:∀{α β γ:Type} (f:β->Option γ) (g:α->β) (l:List α),bh f (l.map g)=bh (λa=>f (g a)) l:=λf g l=>by
   induction l with
   |nil=>rfl
   |cons a l ih=>rw[Zy,gO,gO,ih]
  rw[e5,<-jgL,hm,this]
  conv=>rhs;rw[e6,<-jgL,ZF]
  rfl
 rw[OC,gx];rfl
theorem M0 (h1:ev Φ σ ρ a=some (.ref j))(h3:σ[j]?=some (.list l))(hl:l.length<=100000):ev Φ σ ρ (.call .len (.cons a .nil))=some (.int (l.length:Nat)):=by
 refine dL (cT h1) ?_;show rQ σ [.ref j]=_;unfold rQ;simp only[aQ,h3,fL];rw[if_pos hl]
theorem NH (xs:List Int)(hx:∀x∈xs,256<=x->x<261)(he:∃x∈xs,256<=x):∃ac,iw ac/\Fi (N+2) 16 [.lst (bC xs)]=some (b9 ac):=by
 have h0:eV [] [[],[],[],[],[]] none:=by
  have e:∀i,([[],[],[],[],[]]:List (List Nat)).getD i []=[]:=λi=>by
   refine aa Y5 ?_;by_cases h:i<5
   ·have:i=0\/i=1\/i=2\/i=3\/i=4:=XS h;rcases this with rfl|rfl|rfl|rfl|rfl<;>rfl
   ·refine aa (jcb (by simp;exact wL h)) ?_;rfl
  refine⟨by simp,jaM,rfl,λp hp=>by(cases hp),λi j hj=>?_,λi=>?_⟩
  ·rw[e]at hj;cases hj
  ·refine aa (e _) ?_;exact jaM
 obtain⟨av,an,hf,nm,ne,pv,x4,k,rfl,rfl,bY,cV⟩:=sw (f:=λρ σ v=>aE (Fi (N+1)) (ρ.set 4 (some v)) σ GO) (g:=AV.int)
  (I:=λpre ρ σ=>∃nm ne pv x4 k,ρ=[some (.lst (bC xs)),some (.ref 0),some (.ref 6),some (.int (ge pv)),x4,k]/\σ=cp nm ne/\eV nm ne pv/\((∃x∈pre,256<=x)->nm≠[])) xs [] [some (.lst (bC xs)),some (.ref 0),some (.ref 6),some (.int (-1)),none,none] (cp [] [[],[],[],[],[]])
  ⟨[],_,none,none,none,rfl,rfl,h0,by simp⟩ (by
   rintro p x q ρ σ e ⟨nm,ne,pv,x4,k,rfl,rfl,bY,cV⟩;have Q0:x∈xs:=by
    have e:xs=p++x::q:=e;refine aa e ?_;simp
   refine ka (Tr (N:=N) (row:=.lst (bC xs)) (k:=k) bY (hx x Q0)) λdG mc pv' k' h1 h2 h3=>?_;refine⟨_,_,h1,dG,mc,pv',_,k',rfl,rfl,h2,?_⟩;rintro⟨y,hy,FM⟩;rw[Zz,Zn]at hy;rcases hy with hy|rfl
   ·exact h3 (jcn (cV ⟨y,hy,FM⟩))
   ·exact h3 (jfn FM))
 refine aN (ne.take nm.length) (bY.graph (cV he)) (fB Oi rfl ?_);show aE (Fi (N+1)) ([some (.lst (bC xs))]++Ze 5 none) [] yA.body=_;refine mN (vs:=[.ref 0,.ref 6,.int (-1)]) (an:=cp [] [[],[],[],[],[]]) (x7 (an:=[.list []]) rfl (x7 (an:=cp [] [[],[],[],[],[]]) rfl (gI rfl mI))) rfl ?_;refine kX (vs:=bC xs) rfl hf ?_;have hl:ev (Fi (N+1)) (cp nm ne) [some (.lst (bC xs)),some (.ref 0),some (.ref 6),some (.int (ge pv)),x4,k] (.call .len (.cons (.var 1) .nil))=some (.int (nm.length:Nat)):=by
  have:=M0 (Φ:=Fi (N+1)) (σ:=cp nm ne) (ρ:=[some (.lst (bC xs)),some (.ref 0),some (.ref 6),some (.int (ge pv)),x4,k]) (a:=.var 1) (j:=0) (l:=bC nm) (ag rfl) rfl (by refine aa (YX _) ?_;have:=bY.le;exact bw this rfl)
  rwa [YX]at this
 refine dW (v:=.lst (nu.take nm.length)) ?_ (Tq bY.len nm.length 3);have hn:fG (Fi (N+1)) (cp nm ne) [some (.lst (bC xs)),some (.ref 0),some (.ref 6),some (.int (ge pv)),x4,k] .none=some none:=rfl;have hs:fG (Fi (N+1)) (cp nm ne) [some (.lst (bC xs)),some (.ref 0),some (.ref 6),some (.int (ge pv)),x4,k] (.some (.call .len (.cons (.var 1) .nil)))=some (some (nm.length:Int)):=by rw[pQ,hl]
 rw[pX];have hv:ev (Fi (N+1)) (cp nm ne) [some (.lst (bC xs)),some (.ref 0),some (.ref 6),some (.int (ge pv)),x4,k] (.var 2)=some (.ref 6):=ag rfl;simp only[hv,hn,hs];unfold qQ;dsimp only;refine aa (if_pos (Zf nm.length)) ?_;unfold md;simp only[aQ,Ba bY.len,Zx];refine aa (if_pos (by decide)) ?_;rfl
abbrev F:=UInt64
def nk (x y z:F):F:=(if gK z (if gK y x then y else x)then z else(if gK y x then y else x))
def nj (x y z:F):F:=(if gL z (if gL y x then y else x)then z else(if gL y x then y else x))
def bO (x y:F):Bool:=Z9 x y==some .eq
def u5 (x y:F):Bool:=Z9 x y==some .lt||Z9 x y==some .eq
def two:F:=4611686018427387904
def Ea:F:=4616189618054758400
def lx:F:=4618441417868443648
def one:F:=4607182418800017408
def sI:F:=4602678819172646912
def qL (r g mx rc gc bc:F):F:=if bO r mx then ZA bc gc else if bO g mx then ZA (Z4 two rc) bc else ZA (Z4 Ea gc) rc
def sX (h:F):F:=(jdw (Z8 h lx) one).2
def vK (r g b mx d:F):F:=sX (qL r g mx (Z8 (ZA mx r) d) (Z8 (ZA mx g) d) (Z8 (ZA mx b) d))
section
theorem jC (h1:ev Φ σ ρ a=some (.flt x))(h2:ev Φ σ ρ b=some (.flt y))(hz:Z2 y=false):ev Φ σ ρ (.bin .Div a b)=some (.flt (Z8 x y)):=by
 refine cb h1 h2 ?_;show(if Z2 y=true then none else some (AV.flt (Z8 x y)))=_;rw[if_neg (by rw[hz];decide)]
theorem M1 (h1:ev Φ σ ρ a=some (.flt x))(h2:ev Φ σ ρ b=some (.flt y))(hz:Z2 y=false):ev Φ σ ρ (.bin .Mod a b)=some (.flt (jdw x y).2):=by
 refine cb h1 h2 ?_;show(if Z2 y=true then none else some (AV.flt (jdw x y).2))=_;rw[if_neg (by rw[hz];decide)]
theorem g9 (h1:ev Φ σ ρ a=some (.flt x))(h2:ev Φ σ ρ b=some (.flt y)):ev Φ σ ρ (.bin .Sub a b)=some (.flt (ZA x y)):=cb h1 h2 rfl
theorem x8 (h1:ev Φ σ ρ a=some (.flt x))(h2:ev Φ σ ρ b=some (.flt y)):ev Φ σ ρ (.bin .Add a b)=some (.flt (Z4 x y)):=cb h1 h2 rfl
theorem n4 (h1:ev Φ σ ρ a=some (.flt x))(h2:ev Φ σ ρ b=some (.flt y)):ev Φ σ ρ (.bin .Mult a b)=some (.flt (jaA x y)):=cb h1 h2 rfl
theorem gu:ev Φ σ ρ (.c (.float x))=some (.flt x):=by rw[Dq];rfl
theorem j9 (h1:ev Φ σ ρ a=some (.flt x))(h2:ev Φ σ ρ b=some (.flt y))(hx:bO x x=true):ev Φ σ ρ (.cmp .Eq a b)=some (.bool (bO x y)):=by
 refine cK h1 h2 ?_;show(if(Z9 x x==some .eq)=true then some (Z9 x y==some .eq)else none)=_;exact if_pos hx
theorem Dl (h1:ev Φ σ ρ a=some (.flt x))(h2:ev Φ σ ρ b=some (.flt y)):ev Φ σ ρ (.cmp .LtE a b)=some (.bool (u5 x y)):=cK h1 h2 rfl
end
theorem IA:Z2 two=false:=by decide +kernel
theorem XN:Z2 lx=false:=by decide +kernel
theorem XK:Z2 one=false:=by decide +kernel
theorem FK (hr:bO r r=true)(hg:bO g g=true)(hx:pre.length=x)(h1:pre[iR]?=some (some (.flt r)))(h2:pre[iG]?=some (some (.flt g)))(h3:pre[iM]?=some (some (.flt mx)))(h4:pre[ia]?=some (some (.flt rc)))(h5:pre[ib]?=some (some (.flt gc)))(h6:pre[ic]?=some (some (.flt bc)))(hu:aE Φ (pre++[some (.flt (sX (qL r g mx rc gc bc)))]) [] ss=u):
 aE Φ (pre++[v0]) [] (.cons (.ife (.cmp .Eq (.var iR) (.var iM))
 (.cons (.asg x false (.bin .Sub (.var ic) (.var ib)))
 .nil)
 (.cons (.ife (.cmp .Eq (.var iG) (.var iM))
  (.cons (.asg x false (.bin .Sub (.bin .Add (.c (.float 4611686018427387904)) (.var ia)) (.var ic)))
  .nil)
  (.cons (.asg x false (.bin .Sub (.bin .Add (.c (.float 4616189618054758400)) (.var ib)) (.var ia)))
  .nil))
 .nil))
 (.cons (.asg x false (.bin .Mod (.bin .Div (.var x) (.c (.float 4618441417868443648))) (.c (.float 4607182418800017408)))) ss))=u:=by
 have gt:∀{i:Nat}{w:Option AV}{a:AV},pre[i]?=some (some a)->(pre++[w])[i]?=some (some a):=λ{i w a} h=>by
  refine aa (Zq (Zw.mp h).1) ?_;exact h
 have st:∀{w w':Option AV},(pre++[w]).set x w'=pre++[w']:=λ{w w'}=>by
  refine rwj hx ?_;refine aa jbV ?_;refine aa (if_neg (Zo pre.length)) ?_;refine aa (jaw _) ?_;rfl
 have lj:∀{h:F},aE Φ (pre++[some (.flt (sX h))]) [] ss=u->aE Φ (pre++[some (.flt h)]) [] (.cons (.asg x false (.bin .Mod (.bin .Div (.var x) (.c (.float 4618441417868443648))) (.c (.float 4607182418800017408)))) ss)=u:=λ{h} hh=>by
  refine aS (v:=.flt (sX h)) (M1 (jC (ag ?_) gu XN) gu XK) (by refine aa st ?_;exact hh);refine aa (Zd (ZG hx)) ?_;refine rwj hx ?_;refine aa (jaw _) ?_;rfl
 by_cases c1:bO r mx=true
 ·refine mO (av:=pre++[some (.flt (ZA bc gc))]) (an:=[]) ((j9 (ag (gt h1)) (ag (gt h3)) hr).trans (by refine aa c1 ?_;rfl)) (aS (g9 (ag (gt h6)) (ag (gt h5))) (by refine aa st ?_;exact bH)) (lj ?_);refine rwj hu ?_;unfold qL;refine aa (if_pos c1) ?_;rfl
 ·have Cc:bO r mx=false:=by simpa using c1
  by_cases c2:bO g mx=true
  ·refine du (av:=pre++[some (.flt (ZA (Z4 two rc) bc))]) (an:=[]) ((j9 (ag (gt h1)) (ag (gt h3)) hr).trans (by refine aa Cc ?_;rfl)) (mO ((j9 (ag (gt h2)) (ag (gt h3)) hg).trans (by refine aa c2 ?_;rfl)) (aS (g9 (x8 gu (ag (gt h4))) (ag (gt h6))) (by refine aa st ?_;exact bH)) bH) (lj ?_);refine rwj hu ?_;unfold qL;refine aa (if_neg c1) ?_;refine aa (if_pos c2) ?_;rfl
  ·have J8:bO g mx=false:=by simpa using c2
   refine du (av:=pre++[some (.flt (ZA (Z4 Ea gc) rc))]) (an:=[]) ((j9 (ag (gt h1)) (ag (gt h3)) hr).trans (by refine aa Cc ?_;rfl)) (du ((j9 (ag (gt h2)) (ag (gt h3)) hg).trans (by refine aa J8 ?_;rfl)) (aS (g9 (x8 gu (ag (gt h5))) (ag (gt h4))) (by refine aa st ?_;exact bH)) bH) (lj ?_);refine rwj hu ?_;unfold qL;refine aa (if_neg c1) ?_;refine aa (if_neg c2) ?_;rfl
structure wQ (r g b mx mn d:F):Prop where
 emx:nk r g b=mx
 emn:nj r g b=mn
 ed:ZA mx mn=d
 hr:bO r r=true
 hg:bO g g=true
 m:bO mn mn=true
 ne:bO mn mx=false
 zd:Z2 d=false
 zm:Z2 mx=false
theorem NP (c:wQ r g b mx mn d):Fi (N+1) 6 [.flt r,.flt g,.flt b]=some (.tup [.flt (vK r g b mx d),.flt (Z8 d mx),.flt mx]):=by
 refine fB D4 rfl ?_;show aE (Fi N) ([some (.flt r),some (.flt g),some (.flt b)]++Ze 9 none) [] f6.body=_;refine aS (v:=.flt mx) (c.emx▸rfl) (aS (v:=.flt mn) (c.emn▸rfl) (aS (v:=.flt d) (c.ed▸rfl) (aS (v:=.flt mx) (ag rfl) ?_)));refine du ((j9 (ag rfl) (ag rfl) c.m).trans (by rw[c.ne])) bH ?_;refine aS (jC (ag rfl) (ag rfl) c.zm) (aS (jC (g9 (ag rfl) (ag rfl)) (ag rfl) c.zd) (aS (jC (g9 (ag rfl) (ag rfl)) (ag rfl) c.zd) (aS (jC (g9 (ag rfl) (ag rfl)) (ag rfl) c.zd) ?_)));refine FK (pre:=[some (.flt r),some (.flt g),some (.flt b),some (.flt mx),some (.flt mn),some (.flt d),some (.flt mx),some (.flt (Z8 d mx)),some (.flt (Z8 (ZA mx r) d)),some (.flt (Z8 (ZA mx g) d)),some (.flt (Z8 (ZA mx b) d))]) c.hr c.hg rfl rfl rfl rfl rfl rfl rfl ?_;exact dW rfl rfl
def iT (mx mn:F):F:=Z8 (Z4 mx mn) two
def qO (mx mn d:F):F:=if u5 (iT mx mn) sI then Z8 d (Z4 mx mn)else Z8 d (ZA (ZA two mx) mn)
theorem NN (c:wQ r g b mx mn d)(z1:Z2 (Z4 mx mn)=false)(z2:Z2 (ZA (ZA two mx) mn)=false):
 Fi (N+1) 5 [.flt r,.flt g,.flt b]=some (.tup [.flt (vK r g b mx d),.flt (iT mx mn),.flt (qO mx mn d)]):=by
 refine fB D3 rfl ?_;show aE (Fi N) ([some (.flt r),some (.flt g),some (.flt b)]++Ze 10 none) [] f5.body=_;refine aS (v:=.flt mx) (c.emx▸rfl) (aS (v:=.flt mn) (c.emn▸rfl) (aS (v:=.flt (Z4 mx mn)) rfl (aS (v:=.flt d) (c.ed▸rfl) (aS (v:=.flt (iT mx mn)) (jC (ag rfl) gu IA) ?_))));refine du ((j9 (ag rfl) (ag rfl) c.m).trans (by refine aa c.ne ?_;rfl)) bH ?_;have hs:∀{ss:dw}{u:Option Fl}{w1 w2 w3 w4 w5:Option AV},aE (Fi N) [some (.flt r),some (.flt g),some (.flt b),some (.flt mx),some (.flt mn),some (.flt (Z4 mx mn)),some (.flt d),some (.flt (iT mx mn)),some (.flt (qO mx mn d)),w2,w3,w4,w5] [] ss=u ->
  aE (Fi N) [some (.flt r),some (.flt g),some (.flt b),some (.flt mx),some (.flt mn),some (.flt (Z4 mx mn)),some (.flt d),some (.flt (iT mx mn)),w1,w2,w3,w4,w5] [] (.cons (.ife (.cmp .LtE (.var 7) (.c (.float 4602678819172646912)))
  (.cons (.asg 8 false (.bin .Div (.var 6) (.var 5)))
  .nil)
  (.cons (.asg 8 false (.bin .Div (.var 6) (.bin .Sub (.bin .Sub (.c (.float 4611686018427387904)) (.var 3)) (.var 4))))
  .nil)) ss)=u:=by
  intro ss u w1 w2 w3 w4 w5 hu;by_cases h:u5 (iT mx mn) sI=true
  ·refine mO ((Dl (x:=iT mx mn) (y:=sI) (ag rfl) gu).trans (by refine aa h ?_;rfl)) (aS (jC (ag rfl) (ag rfl) z1) bH) ?_;refine rwj hu ?_;unfold qO;refine aa (if_pos h) ?_;rfl
  ·have h':u5 (iT mx mn) sI=false:=by simpa using h
   refine du ((Dl (x:=iT mx mn) (y:=sI) (ag rfl) gu).trans (by refine aa h' ?_;rfl)) (aS (jC (ag rfl) (g9 (g9 gu (ag rfl)) (ag rfl)) z2) bH) ?_;refine rwj hu ?_;unfold qO;refine aa (if_neg h) ?_;rfl
 refine hs ?_;refine aS (jC (g9 (ag rfl) (ag rfl)) (ag rfl) c.zd) (aS (jC (g9 (ag rfl) (ag rfl)) (ag rfl) c.zd) (aS (jC (g9 (ag rfl) (ag rfl)) (ag rfl) c.zd) ?_));refine FK (pre:=[some (.flt r),some (.flt g),some (.flt b),some (.flt mx),some (.flt mn),some (.flt (Z4 mx mn)),some (.flt d),some (.flt (iT mx mn)),some (.flt (qO mx mn d)),some (.flt (Z8 (ZA mx r) d)),some (.flt (Z8 (ZA mx g) d)),some (.flt (Z8 (ZA mx b) d))]) c.hr c.hg rfl rfl rfl rfl rfl rfl rfl ?_;exact dW rfl rfl
def ta (x:F):Option Int:=match jci x with
 | .fin jR m e=>some (jel jR m e)
 |_=>none
def A3 (i:Nat)(v p q t:F):F×F×F:=if i=0 then(v,t,p)else if i=1 then(q,v,p)else if i=2 then(p,v,t)else if i=3 then(p,q,v)else if i=4 then(t,p,v)else(v,p,q)
def pF (s v:F):F:=jaA v (ZA one s)
def qF (s v f:F):F:=jaA v (ZA one (jaA s f))
def tF (s v f:F):F:=jaA v (ZA one (jaA s (ZA one f)))
def Vk (x:F×F×F):AV:=.tup [.flt x.1,.flt x.2.1,.flt x.2.2]
def By:F:=0
theorem NR {N:Nat}{h s v f:F}{i:Nat}(hs:bO s s=true)(hz:bO s By=false)(hi:ta (jaA h lx)=some (i:Int))(PV:i<1000)(hf:ZA (jaA h lx) (jaL (i:Int))=f):
 Fi (N+1) 7 [.flt h,.flt s,.flt v]=some (Vk (A3 (i%6) v (pF s v) (qF s v f) (tF s v f))):=by
 refine fB D5 rfl ?_;show aE (Fi N) ([some (.flt h),some (.flt s),some (.flt v)]++Ze 5 none) [] f7.body=_;refine du ((j9 (y:=By) (ag rfl) gu hs).trans (by rw[hz])) bH ?_;refine aS (v:=.int i) (dL (cT (n4 (ag rfl) gu)) ?_) ?_
 ·show rP [.flt (jaA h lx)]=_;unfold rP;unfold ta at hi;cases hD:jci (jaA h lx)with
  |fin jR m e =>
   rw[hD]at hi;simp only[jdo]at hi;simp only[hD,hi]
  |nan=>rw[hD]at hi;cases hi
  |inf s=>rw[hD]at hi;cases hi
 refine aS (v:=.flt f) (cb (n4 (ag rfl) gu) (ag rfl) ?_) ?_
 ·have y0:hJ (i:Int)=true:=by
   unfold hJ;rw[ZN];exact decide_eq_true (bw PV rfl)
  show(if hJ (i:Int)=true then some (AV.flt (ZA (jaA h lx) (jaL (i:Int))))else none)=_;rw[if_pos y0,hf]
 refine aS (v:=.flt (pF s v)) (n4 (ag rfl) (g9 gu (ag rfl))) ?_;refine aS (v:=.flt (qF s v f)) (n4 (ag rfl) (g9 gu (n4 (ag rfl) (ag rfl)))) ?_;refine aS (v:=.flt (tF s v f)) (n4 (ag rfl) (g9 gu (n4 (ag rfl) (g9 gu (ag rfl))))) ?_;refine aS (v:=.int ((i%6:Nat):Int)) (dV (y:=6) (ag rfl) aR (by decide)) ?_;have hj:i%6<6:=ZQ _ (by decide);generalize i%6=j at *;have no:∀{c:Nat}{σ:aA}{ρ:aB},ρ[3]?=some (some (.int (j:Int)))->j≠c->ev (Fi N) σ ρ (.cmp .Eq (.var 3) (.c (.int (c:Int))))=some (.bool false):=λh3 hc=>(pS (ag h3) aR).trans (by rw[decide_eq_false hc]);have qY:∀{c:Nat}{σ:aA}{ρ:aB},ρ[3]?=some (some (.int (j:Int)))->j=c->ev (Fi N) σ ρ (.cmp .Eq (.var 3) (.c (.int (c:Int))))=some (.bool true):=λh3 hc=>(pS (ag h3) aR).trans (by rw[decide_eq_true hc]);by_cases c0:j=0
 ·refine(jF (qY (c:=0) rfl c0) (dW rfl rfl)).trans ?_;subst c0;rfl
 refine du (no (c:=0) rfl c0) bH ?_;by_cases c1:j=1
 ·refine(jF (qY (c:=1) rfl c1) (dW rfl rfl)).trans ?_;subst c1;rfl
 refine du (no (c:=1) rfl c1) bH ?_;by_cases c2:j=2
 ·refine(jF (qY (c:=2) rfl c2) (dW rfl rfl)).trans ?_;subst c2;rfl
 refine du (no (c:=2) rfl c2) bH ?_;by_cases c3:j=3
 ·refine(jF (qY (c:=3) rfl c3) (dW rfl rfl)).trans ?_;subst c3;rfl
 refine du (no (c:=3) rfl c3) bH ?_;by_cases c4:j=4
 ·refine(jF (qY (c:=4) rfl c4) (dW rfl rfl)).trans ?_;subst c4;rfl
 refine du (no (c:=4) rfl c4) bH ?_;have c5:j=5:=by lia
 refine(jF (qY (c:=5) rfl c5) (dW rfl rfl)).trans ?_;subst c5;rfl
def dX {β:Type}(n:Nat)(k:Nat->β):β:=match n with
 |0=>k 0
 |n+1=>k (n+1)
theorem kf {β:Type}(n:Nat)(k:Nat->β):dX n k=k n:=by cases n<;>rfl
def fH {β:Type}(x:UInt64)(k:UInt64->β):β:=dX x.toNat λn=>k (UInt64.ofNat n)
theorem qe {β:Type}(x:UInt64)(k:UInt64->β):fH x k=k x:=by
 unfold fH;rw[kf]
 congr 1
 exact UInt64.ofNat_toNat
def mH (x y:F):Bool:=x.toNat==y.toNat
theorem nT (h:mH x y=true):x=y:=UInt64.toNat_inj.mp (eq_of_beq h)
def bT (a:Nat):F:=Z5 false a 64
def qB (a:Nat):F:=Z5 false a 4
def qD (sh va:Nat):F:=Z5 false (va*(8-sh)) 32
def qN (sh va:Nat):F:=Z5 false (sh*va) (min (va*(8-sh)) (32-va*(8-sh)))
def pt (k a:Nat):Bool:=fH (jaA (Z4 (jaL (k:Int)) (bT a)) lx) λm=>(match ta m with|some i=>i==((6*k+6*a/64:Nat):Int)|none=>false)&&mH (ZA m (jaL ((6*k+6*a/64:Nat):Int))) (bT (6*a%64))
def zQ (r g b mx d:F):F:=fH (Z8 (ZA mx r) d) λrc=>fH (Z8 (ZA mx g) d) λgc=>fH (Z8 (ZA mx b) d) λbc=>fH (qL r g mx rc gc bc) λh=>sX h
theorem QQ (r g b mx d:F):zQ r g b mx d=vK r g b mx d:=by
 unfold zQ vK;simp only[qe]
def uK (a sh va:Nat):Bool:=fH (qB sh) λs=>fH (qB va) λv=>fH (bT (6*a%64)) λf=>fH (pF s v) λp=>fH (qF s v f) λq=>fH (tF s v f) λt =>
 match A3 (6*a/64%6) v p q t with
 |(r,g,b)=>fH (nk r g b) λmx=>fH (nj r g b) λmn=>fH (ZA mx mn) λd =>
  bO s s&&!bO s By&&bO r r&&bO g g&&bO mn mn&&!bO mn mx&&!Z2 d&&!Z2 mx&&!Z2 (Z4 mx mn)&&!Z2 (ZA (ZA two mx) mn) &&
  mH (zQ r g b mx d) (bT a)&&mH (Z8 d mx) (qB sh)&&mH mx (qB va)&&mH (iT mx mn) (qD sh va)&&mH (qO mx mn d) (qN sh va)
def lM (a n:Nat):Bool:=(ZP a n).all λa=>(ZP 1 4).all λsh=>(ZP 1 4).all λva=>uK a sh va
theorem K2:lM 0 8=true:=by decide +kernel
theorem K3:lM 8 8=true:=by decide +kernel
theorem K4:lM 16 8=true:=by decide +kernel
theorem K5:lM 24 8=true:=by decide +kernel
theorem K6:lM 32 8=true:=by decide +kernel
theorem K7:lM 40 8=true:=by decide +kernel
theorem K8:lM 48 8=true:=by decide +kernel
theorem K9:lM 56 8=true:=by decide +kernel
theorem JE:(ZP 0 64).all (λa=>pt 0 a)=true:=by decide +kernel
theorem JF:(ZP 0 64).all (λa=>pt 1 a)=true:=by decide +kernel
theorem JG:(ZP 0 64).all (λa=>pt 2 a)=true:=by decide +kernel
theorem JH:(ZP 0 64).all (λa=>pt 3 a)=true:=by decide +kernel
theorem K' (ha:a<64)(h1:1<=sh)(h2:sh<=4)(h3:1<=va)(h4:va<=4):uK a sh va=true:=by
 have go:∀i,lM (8*i) 8=true->8*i<=a->a<8*i+8->uK a sh va=true:=λi h l u=>by
  have e1:=Y3.mp h a (by rw[jaN];exact⟨l,u⟩);have e2:=Y3.mp e1 sh (by rw[jaN];lia);exact Y3.mp e2 va (by rw[jaN];lia)
 have:a/8<8:=by lia
 have:a/8=0\/a/8=1\/a/8=2\/a/8=3\/a/8=4\/a/8=5\/a/8=6\/a/8=7:=by lia
 rcases this with e|e|e|e|e|e|e|e
 ·exact go 0 K2 (jaU a) (by lia)
 ·exact go 1 K3 (by lia) (by lia)
 ·exact go 2 K4 (by lia) (by lia)
 ·exact go 3 K5 (by lia) (by lia)
 ·exact go 4 K6 (by lia) (by lia)
 ·exact go 5 K7 (by lia) (by lia)
 ·exact go 6 K8 (by lia) (by lia)
 ·exact go 7 K9 (by lia) (ha)
theorem JI (hk:k<4)(ha:a<64):pt k a=true:=by
 have:k=0\/k=1\/k=2\/k=3:=XR hk;rcases this with rfl|rfl|rfl|rfl
 ·exact Y3.mp JE a (by rw[jaN];simp[*])
 ·exact Y3.mp JF a (by rw[jaN];simp[*])
 ·exact Y3.mp JG a (by rw[jaN];simp[*])
 ·exact Y3.mp JH a (by rw[jaN];simp[*])
theorem R8 {N:Nat}{k a sh va:Nat}(hk:k<4)(ha:a<64)(h1:1<=sh)(h2:sh<=4)(h3:1<=va)(h4:va<=4):
 ∃r g b:F,Fi (N+1) 7 [.flt (Z4 (jaL (k:Int)) (bT a)),.flt (qB sh),.flt (qB va)]=some (.tup [.flt r,.flt g,.flt b]) /\
  Fi (N+1) 6 [.flt r,.flt g,.flt b]=some (.tup [.flt (bT a),.flt (qB sh),.flt (qB va)]) /\
  Fi (N+1) 5 [.flt r,.flt g,.flt b]=some (.tup [.flt (bT a),.flt (qD sh va),.flt (qN sh va)]):=by
 have hb:=JI hk ha;have hc:=K' ha h1 h2 h3 h4;unfold pt at hb;rw[qe,Zs]at hb;unfold uK at hc;simp only[qe]at hc;generalize Qv:A3 (6*a/64%6) (qB va) (pF (qB sh) (qB va)) (qF (qB sh) (qB va) (bT (6*a%64))) (tF (qB sh) (qB va) (bT (6*a%64)))=rgb at hc;obtain⟨r,g,b⟩:=rgb;simp only[Zs,jbF]at hc;refine bN hc λz1 J7=>?_;obtain⟨⟨⟨⟨⟨⟨⟨⟨⟨⟨⟨⟨⟨c1,c2⟩,c3⟩,c4⟩,c5⟩,c6⟩,c7⟩,c8⟩,c9⟩,rL⟩,pB⟩,rM⟩,rO⟩,J6⟩:=z1;have col:wQ r g b (nk r g b) (nj r g b) (ZA (nk r g b) (nj r g b)):=⟨rfl,rfl,rfl,c3,c4,c5,c6,c7,c8⟩
 rw[QQ]at pB;have lO:=nT pB;have mE:=nT rM;have mF:=nT rO;have LU:=nT J6;have LV:=nT J7;refine zX r g b ?_ ?_ ?_
 ·have hi:ta (jaA (Z4 (jaL (k:Int)) (bT a)) lx)=some ((6*k+6*a/64:Nat):Int):=by
   have:=hb.1
   induction e:ta (jaA (Z4 (jaL (k:Int)) (bT a)) lx)using ae with
   |none=>rw[e]at this;cases this
   |some i=>rw[e]at this;rw[eq_of_beq this]
  have:=NR (N:=N) (v:=qB va) c1 c2 hi (by lia) (nT hb.2);rw[this,show(6*k+6*a/64)%6=6*a/64%6 by lia,Qv];rfl
 ·rw[NP col,lO,mE];rw[mF]
 ·rw[NN col c9 rL,lO,LU,LV]
section
theorem lR {a b:Ex}{x y:Nat}(h1:ev Φ σ ρ a=some (.int x))(h2:ev Φ σ ρ b=some (.int y))(hy:0<y)(hx:x<2^64):ev Φ σ ρ (.bin .Div a b)=some (.flt (Z5 false x y)):=by
 refine cb h1 h2 ?_;have e1:(decide ((x:Int)<0) != decide ((y:Int)<0))=false:=by
  rw[decide_eq_false (by simp),decide_eq_false (by simp)];rfl
 show(if(y:Int)=0\/jdP (Z5 (decide ((x:Int)<0) != decide ((y:Int)<0)) (x:Int).natAbs (y:Int).natAbs)=true then none else some (AV.flt (Z5 (decide ((x:Int)<0) != decide ((y:Int)<0)) (x:Int).natAbs (y:Int).natAbs)))=_;refine aa e1 ?_;refine aa (ZN _) ?_;refine aa (ZN _) ?_;rw[if_neg];rintro(h|h)
 ·lia
 ·exact jgG hy (be hx (Zi (by decide) (by decide))) h
theorem Dp (h1:ev Φ σ ρ a=some x)(h2:ev Φ σ ρ b=some y)(h3:ev Φ σ ρ c=some z):ev Φ σ ρ (.tup (.cons a (.cons b (.cons c .nil))))=some (.tup [x,y,z]):=si (gJ h1 h2 h3) (show 3<=100000 by decide)
theorem Dn (h1:ev Φ σ ρ a=some (.tup [.flt x,.flt y,.flt z]))(h2:ev Φ σ ρ b=some (.tup [.flt x,.flt y,.flt z]))(hx:bO x x=true)(hy:bO y y=true)(hz:bO z z=true):ev Φ σ ρ (.cmp .NotEq a b)=some (.bool false):=by
 refine cK h1 h2 ?_;have e0:∀u:F,bO u u=true->cJ (.flt u) (.flt u)=some true:=λu hu=>by
  show(if(Z9 u u==some .eq)=true then some (Z9 u u==some .eq)else none)=_;unfold bO at hu;refine aa hu ?_;rfl
 show(eN cJ [.flt x,.flt y,.flt z] [.flt x,.flt y,.flt z]).map (!·)=_;simp only[r7,e0 x hx,e0 y hy,e0 z hz];rfl
end
theorem sq (x y:Nat)(hy:0<y)(hx:x<2^64):bO (Z5 false x y) (Z5 false x y)=true:=by
 have h1:jdP (Z5 false x y)=false:=by
  have:=jgG (sg:=false) (n:=x) hy (be hx (Zi (by decide) (by decide)));simpa using this
 have h2:jeH (Z5 false x y)=false:=by unfold Z5;exact PySem.W.isNaN_pack false (PySem.W.roundMag_le x y)
 unfold bO Z9;unfold jdP at h1;unfold jeH at h2;cases e:jci (Z5 false x y)with
 |nan=>rw[e]at h2;cases h2
 |inf s=>rw[e]at h1;cases h1
 |fin s m ex =>
  show(some (compare (jeI s m ex s m ex).1 (jeI s m ex s m ex).2.1)==some jgK)=true;have:(jeI s m ex s m ex).1=(jeI s m ex s m ex).2.1:=rfl;refine aa this ?_;have:∀z:Int,compare z z=jgK:=λz=>by
   refine aa (Int.compare_eq_ite_lt _ _) ?_;simp
  refine aa (this _) ?_;rfl
section
variable (A:Nat)
def dF (t:Nat):Nat:=(A%64+t%3*(1+A/64%31))%64
def ma (t:Nat):Nat:=A/1984/16^(t/3)
def ky (t:Nat):Nat:=1+ma A t%4
def mj (t:Nat):Nat:=1+ma A t/4%4
def cq (n:Nat):List AV:=(Y4 n).map λt=>.flt (bT (dF A t))
end
def Gm:dw:=match yB.body with | .cons _ (.cons (.for_ _ _ b) _)=>b|_=>.nil
theorem R9 {N:Nat}{A t:Nat}{n:AV}{c4 c5 c6 c7 c8 c9 rL pB rM rO:Option AV}(ht:t<15){row:List AV}(hr:row.length<=1000):
 ∃e4 e5 e6 e7 e8 e9 pL lO mE mF,aE (Fi (N+1)) [some (.int A),some n,some (.ref 0),some (.int t),c4,c5,c6,c7,c8,c9,rL,pB,rM,rO] [.list row] Gm =
  some (.next [some (.int A),some n,some (.ref 0),some (.int t),e4,e5,e6,e7,e8,e9,pL,lO,mE,mF] [.list (row++[.flt (bT (dF A t))])]):=by
 have Yx:ma A t%4<4:=ZQ _ (by decide);have YB:ma A t/4%4<4:=ZQ _ (by decide);have hh:dF A t<64:=ZQ _ (by decide);have zL:ky A t=1+ma A t%4:=rfl;have QV:mj A t=1+ma A t/4%4:=rfl;refine j' (R8 (N:=N) (k:=t%4) (a:=dF A t) (sh:=ky A t) (va:=mj A t) (by lia) hh (ZD 1 (ma A t%4)) (by lia) (ZD 1 (ma A t/4%4)) (by lia)) λr g b l7 l6 l5=>?_;have e1:8-ky A t=8-ky A t:=rfl;have Uc:16^(t/3)<2^64:=ZE (Zi (by decide) (show t/3<=4 by lia)) (by decide);have v7:mj A t*(8-ky A t)<=28:=YY (jbe (show mj A t<=4 by lia) (show 8-ky A t<=7 by lia)) (by decide);have YM:4<=mj A t*(8-ky A t):=by
  have:=jbe (show 1<=mj A t by lia) (show 4<=8-ky A t by lia)
  lia
 have sv:ky A t*mj A t<=16:=jbe (show ky A t<=4 by lia) (show mj A t<=4 by lia);generalize PU:ma A t=mo at *;generalize EY:ky A t=s at *;generalize Yl:mj A t=v at *;generalize PR:dF A t=h at *;refine⟨some (.int mo),some (.int s),some (.int v),some (.int ((v*(8-s):Nat):Int)),some (.flt (bT h)),some (.flt r),some (.flt g),some (.flt b),some (.tup [.flt (bT h),.flt (qB s),.flt (qB v)]),some (.tup [.flt (bT h),.flt (qD s v),.flt (qN s v)]),?_⟩;have aZ:∀{x:Nat},x<64->x<2^64:=λh=>jai h (by decide);have w4:ev (Fi (N+1)) [.list row] [some (.int A),some n,some (.ref 0),some (.int t),c4,c5,c6,c7,c8,c9,rL,pB,rM,rO] (.bin .FloorDiv (.bin .FloorDiv (.var 0) (.c (.int 1984))) (.bin .Pow (.c (.int 16)) (.bin .FloorDiv (.var 3) (.c (.int 3)))))=some (.int (mo:Nat)):=by
  refine rwj PU ?_;exact jB (jB (y:=1984) (ag rfl) aR (by decide) (by decide)) (jD (x:=16) aR (jB (y:=3) (ag rfl) aR (by decide) (by decide)) (by decide) (by lia)) (by have:=jcI (n:=t/3) (show 0<16 by decide);lia) Uc
 refine aS w4 ?_;refine mN (vs:=[.int s,.int v]) (gI ?_ (gI ?_ mI)) rfl ?_
 ·refine aa zL ?_;exact iF (x:=1) aR (dV (y:=4) (ag rfl) aR (by decide))
 ·refine aa QV ?_;exact iF (x:=1) aR (dV (y:=4) (jB (y:=4) (ag rfl) aR (by decide) (by decide)) aR (by decide))
 refine aS (v:=.int ((v*(8-s):Nat):Int)) (mK (ag rfl) (se (x:=8) aR (ag rfl) (by lia)) (jcn (aZ (by lia)))) ?_;refine aS (v:=.flt (bT h)) ?_ ?_
 ·refine lR (x:=h) (y:=64) ?_ aR (by decide) (aZ hh);refine rwj PR ?_;exact dV (y:=64) (iF (dV (y:=64) (ag rfl) aR (by decide)) (mK (dV (y:=3) (ag rfl) aR (by decide)) (iF (x:=1) aR (dV (y:=31) (jB (y:=64) (ag rfl) aR (by decide) (by decide)) aR (by decide))) (jcn (aZ (by lia))))) aR (by decide)
 refine n8 (vs:=[.flt r,.flt g,.flt b]) (cL (vs:=[.flt (Z4 (jaL ((t%4:Nat):Int)) (bT h)),.flt (qB s),.flt (qB v)]) (gJ ?_ ?_ ?_) rfl l7) rfl ?_
 ·refine cb (dV (y:=4) (ag rfl) aR (by decide)) (ag rfl) ?_;have y0:hJ ((t%4:Nat):Int)=true:=by
   unfold hJ;refine aa (ZN _) ?_;exact decide_eq_true (by lia)
  show(if hJ ((t%4:Nat):Int)=true then _ else _)=_;refine aa (if_pos y0) ?_;rfl
 ·exact lR (y:=4) (ag rfl) aR (by decide) (aZ (by lia))
 ·exact lR (y:=4) (ag rfl) aR (by decide) (aZ (by lia))
 refine mN (vs:=[.tup [.flt (bT h),.flt (qB s),.flt (qB v)],.tup [.flt (bT h),.flt (qD s v),.flt (qN s v)]]) (gI (cL (vs:=[.flt r,.flt g,.flt b]) (gJ (ag rfl) (ag rfl) (ag rfl)) rfl l6) (gI (cL (vs:=[.flt r,.flt g,.flt b]) (gJ (ag rfl) (ag rfl) (ag rfl)) rfl l5) mI)) rfl ?_;have fh:bO (bT h) (bT h)=true:=sq _ _ (by decide) (aZ hh);refine du (uS (Dn (ag rfl) (Dp (ag rfl) (lR (y:=4) (ag rfl) aR (by decide) (aZ (by lia))) (lR (y:=4) (ag rfl) aR (by decide) (aZ (by lia)))) fh (sq _ _ (by decide) (aZ (by lia))) (sq _ _ (by decide) (aZ (by lia)))) (Dn (ag rfl) (Dp (ag rfl) (lR (y:=32) (ag rfl) aR (by decide) (aZ (by lia))) (lR (x:=s*v) (y:=min (v*(8-s)) (32-v*(8-s))) (mK (ag rfl) (ag rfl) (jcn (aZ (by lia)))) ?_ (by lia) (aZ (by lia)))) fh (sq _ _ (by decide) (aZ (by lia))) (sq _ _ (by lia) (aZ (by lia))))) bH ?_
 ·refine dL (dM (ag rfl) (se (x:=32) aR (ag rfl) (by lia))) ?_;show some (AV.int (if((32-v*(8-s):Nat):Int)<((v*(8-s):Nat):Int)then((32-v*(8-s):Nat):Int)else((v*(8-s):Nat):Int)))=_;refine congrArg (λz=>some (AV.int z)) ?_;split<;>lia
 refine qb (i:=0) (xs:=row) (v:=.flt (bT h)) (ag rfl) ?_ rfl (by lia) (λj=>by simp) bH;have h2:t%2=0\/t%2=1:=by lia
 refine mJ (x:=if t%2=0 then .tup [.flt (bT h),.flt (qB s),.flt (qB v)]else .tup [.flt (bT h),.flt (qD s v),.flt (qN s v)]) (y:=.int 0) (mJ (x:=.tup [.tup [.flt (bT h),.flt (qB s),.flt (qB v)],.tup [.flt (bT h),.flt (qD s v),.flt (qN s v)]]) (y:=.int ((t%2:Nat):Int)) rfl (dV (y:=2) (ag rfl) aR (by decide)) ?_) rfl ?_
 ·rcases h2 with e|e<;>rw[e]<;>rfl
 ·rcases h2 with e|e<;>rw[e]<;>rfl
theorem yO (k:Nat)(σ:aA){α:Type}(f:α->F):∀l:List α,bh (aY σ (k+1)) (l.map λx=>AV.flt (f x))=some (l.map λx=>AV.flt (f x))
 | []=>rfl
 |a::l=>by
  refine aa Zy ?_;rw[gO];have:aY σ (k+1) (.flt (f a))=some (.flt (f a)):=rfl;refine aa this ?_;simp only[yO k σ f l]
theorem NI (A n:Nat)(hn:n<=5):Fi (N+2) 17 [.int A,.int n]=some (.lst (cq A (3*n))):=by
 refine fB (N:=N+1) Oj rfl ?_;show aE (Fi (N+1)) [some (.int A),some (.int n),none,none,none,none,none,none,none,none,none,none,none,none] [] yB.body=_;refine sm (v:=.ref 0) (an:=[.list []]) rfl ?_;have lp:=sx (f:=λρ σ v=>aE (Fi (N+1)) (ρ.set 3 (some v)) σ Gm) (n:=3*n) (ρ:=[some (.int A),some (.int n),some (.ref 0),none,none,none,none,none,none,none,none,none,none,none]) (σ:=[.list []])
  (I:=λk ρ σ=>∃e3 e4 e5 e6 e7 e8 e9 pL lO mE mF,ρ=[some (.int A),some (.int n),some (.ref 0),e3,e4,e5,e6,e7,e8,e9,pL,lO,mE,mF]/\σ=[.list (cq A k)])
  ⟨none,none,none,none,none,none,none,none,none,none,none,rfl,rfl⟩ ?_
 ·obtain⟨av,an,h1,e3,e4,e5,e6,e7,e8,e9,pL,lO,mE,mF,rfl,rfl⟩:=lp;refine kX (vs:=aq (Y4 (3*n))) (nW (j8 (mK (x:=3) aR (ag rfl) (jcn (by decide))) (by lia))) h1 ?_;refine dW (v:=.ref 0) rfl ?_;show(bh (aY [.list (cq A (3*n))] 5) (cq A (3*n))).map AV.lst=_;have:=yO 4 [.list (cq A (3*n))] (λt=>bT (dF A t)) (Y4 (3*n));exact(congrArg (Z6 AV.lst) this).trans rfl
 ·rintro k ρ σ hk ⟨e3,e4,e5,e6,e7,e8,e9,pL,lO,mE,mF,rfl,rfl⟩;obtain⟨w4,w5,w6,w7,w8,w9,Xw,Xx,Xy,Xz,hw⟩:=R9 (N:=N) (A:=A) (t:=k) (n:=.int n) (c4:=e4) (c5:=e5) (c6:=e6) (c7:=e7) (c8:=e8) (c9:=e9) (rL:=pL) (pB:=lO) (rM:=mE) (rO:=mF) (by lia) (row:=cq A k) (by unfold cq;refine aa (YX _) ?_;refine aa jab ?_;lia);refine⟨_,_,hw,some (.int k),w4,w5,w6,w7,w8,w9,Xw,Xx,Xy,Xz,rfl,?_⟩;unfold cq;refine aa jaF ?_;refine aa ZO ?_;rfl
def ga (nl:List Nat)(i:Nat)(c:List Nat)(l:Nat):Bool:=nl.all λj=>!(decide (j<i)&&decide (c.getD j 0=l))
def ci (h:Nat)(ac:List (List Nat)):Nat->List (List Nat)
 |0=>[[]]
 |i+1=>(ci h ac i).flatMap λc=>((Y4 h).filter λl=>ga (ac.getD i []) i c l).map λl=>c++[l]
theorem Uj:ci h ac 0=[[]]:=rfl
theorem qJ:ci h ac (i+1) =
 jgW
  (λc=>jfp (λl=>c++[l]) (List.filter (λl=>ga (List.getD ac i []) i c l) (Y4 h)))
  (ci h ac i):=rfl
theorem Hb (h:Nat)(ac:List (List Nat)):∀i,∀c∈ci h ac i,c.length=i/\∀l∈c,l<h
 |0,c,hc=>by
  rw[Uj,Zn]at hc;subst hc;exact⟨rfl,λl hl=>by cases hl⟩
 |i+1,c,hc=>by
  rw[qJ]at hc;refine au (jcZ.mp hc) λc0 h0 h1=>?_;refine au (Zk.mp h1) ?_;rintro l hl rfl;have ih:=Hb h ac i c0 h0;have aZ:=ZH.mp (jdp.mp hl).1;refine⟨by refine aa Y8 ?_;refine aa ih.1 ?_;rfl,λl' hZ=>?_⟩;rw[Zz,Zn]at hZ;rcases hZ with h|rfl
  ·exact ih.2 l' h
  ·exact aZ
theorem DX {α β:Type}(k:Nat)(f:α->List β):∀l:List α,(∀a∈l,(f a).length<=k)->(l.flatMap f).length<=l.length*k
 | [],_=>by simp
 |a::l,h=>by
  have h1:=h a (by simp);have h2:=DX k f l (λb hb=>h b (by simp[hb]));rw[jam,Y8,Zl,jdn,jdX]
  lia
theorem tA (h:Nat)(ac:List (List Nat)):∀i,(ci h ac i).length<=h^i
 |0=>Y2 1
 |i+1=>by
  have ih:=tA h ac i;rw[qJ];refine YY (DX h _ _ λc Y=>?_) ?_
  ·refine aa (YX _) ?_;exact YY (jcW _ _) (by refine aa jab ?_;exact Y2 _)
  ·refine aa (jcR _ _) ?_;exact jbe ih (Y2 _)
section
theorem MW {ρ:aB}{α β:Type}{x:Nat}{Gb Gc:It}{ifs:bV}{aD:Ex}{cs:List α}{f1:α->AV}{ds:List β}{f2:β->AV}{G:α->β->List AV}(h1:dU Φ σ ρ Gb=some (cs.map f1))(hx:ρ.length=x)(hl:cs.length<=100000)(h2:∀v,dU Φ σ (ρ++[some v,none]) Gc=some (ds.map f2))(hW:ds.length<=100000)(h3:∀c∈cs,∀d∈ds,(match cS Φ σ (ρ++[some (f1 c),some (f2 d)]) ifs with
 |some true=>(ev Φ σ (ρ++[some (f1 c),some (f2 d)]) aD).map λu=>[u]
 |some false=>some []
 |none=>none)=some (G c d)) (hr:(cs.flatMap λc=>ds.flatMap (G c)).length<=100000):
 ev Φ σ ρ (.comp 2 (.cons x Gb .nil (.cons (x+1) Gc ifs (.done aD))))=some (.lst (cs.flatMap λc=>ds.flatMap (G c))):=by
 subst hx;have hs:∀v,(ρ++Ze 2 none).set ρ.length (some v)=ρ++[some v,none]:=λv=>by
  rw[jbV,if_neg (Zo (jaK ρ)),jaw];rfl
 have QA:∀v w,(ρ++[some v,none]).set (ρ.length+1) (some w)=ρ++[some v,some w]:=λv w=>by
  rw[jbV,if_neg (by simp)];rw[show ρ.length+1-ρ.length=1 by simp];rfl
 have h0:(ρ++Ze 2 none)[ρ.length]?=some none:=by
  rw[Zd (Y2 _),jaw];rfl
 have OW:∀v,(ρ++[some v,none])[ρ.length+1]?=some none:=λv=>by
  rw[Zd (jcz jbB),show ρ.length+1-ρ.length=1 by simp];rfl
 have fm:∀{γ:Type}{δ:Type} (f:AV->Option (List δ)) (g:γ->AV) (l:List γ),fZ f (l.map g)=fZ (λa=>f (g a)) l:=λf g l=>by
  induction l with
  |nil=>rfl
  |cons a l ih=>rw[Zy,u4,u4,ih]
 rw[yj,x0,h1];simp only[h0];rw[if_pos (by rw[YX];exact hl),fm,u3 (g:=λc=>ds.flatMap (G c)) (λc hc=>?_)]
 ·show Z6 AV.lst (sE (some _))=_;unfold sE;simp only[];rw[if_pos hr];rfl
 ·rw[hs (f1 c)];have e1:cS Φ σ (ρ++[some (f1 c),none]) .nil=some true:=by rw[nV]
  simp only[e1];rw[C7,h2 (f1 c)];simp only[OW (f1 c)];rw[if_pos (by rw[YX];exact hW),fm];refine u3 (λd hd=>?_);rw[QA (f1 c) (f2 d),<-h3 c hc d hd]
  induction cS Φ σ (ρ++[some (f1 c),some (f2 d)]) ifs using ae with
  |none=>rfl
  |some b=>cases b<;>rfl
theorem Dj (h1:ev Φ σ ρ a=some (.lst l)):ev Φ σ ρ (.cmp .Eq a (.list .nil))=some (.bool (decide (l.length=0))):=by
 refine cK (y:=.lst []) h1 (sd (vs:=[]) (by rw[Dx]) (by decide)) ?_;show(if l.length=([]:List AV).length then eN cJ l []else some false)=_
 induction l using YZ with
 |nil=>rfl
 |cons a l=>simp
end
def wT (A:Nat):Prop:=∀l l',l<3->l'<3->bO (bT (dF A l)) (bT (dF A l'))=decide (l=l')
def eh (A:Nat)(c:List Nat):AV:=.lst (c.map λl=>.flt (bT (dF A l)))
theorem Ww (hi:i<n)(hl:l<3):(cq A (3*n))[3*i+l]?=some (.flt (bT (dF A l))):=by
 unfold cq;refine aa ZK ?_;refine aa (jdv (by lia)) ?_;have:dF A (3*i+l)=dF A l:=by
  unfold dF;refine aa (show(3*i+l)%3=l%3 by simp) ?_;rfl
 show some (AV.flt (bT (dF A (3*i+l))))=_;refine aa this ?_;rfl
theorem Uk {N:Nat}{ac:List (List Nat)}{A h i:Nat}(hi:i<ac.length)(hn:ac.length<=5)(hh:h<=3)(H:wT A)(sT:∀j∈ac.getD i [],j<ac.length)(jK:(ac.getD i []).length<=5):
 ev (Fi N) [] [some (b9 ac),some (.lst (cq A (3*ac.length))),some (.int h),some (.lst ((ci h ac i).map (eh A))),some (.int i)]
  (.comp 2 (.cons 5 (.val (.var 3)) .nil (.cons 6 (.range (.cons (.var 2) .nil)) (.cons (.cmp .Eq (.comp 1 (.cons 7 (.val (.idx (.var 0) (.var 4))) (.cons (.and (.cons (.cmp .Lt (.var 7) (.var 4)) (.cons (.cmp .Eq (.idx (.var 5) (.var 7)) (.idx (.var 1) (.bin .Add (.bin .Mult (.c (.int 3)) (.var 4)) (.var 6)))) .nil))) .nil) (.done (.var 7)))) (.list .nil)) .nil) (.done (.bin .Add (.var 5) (.list (.cons (.idx (.var 1) (.bin .Add (.bin .Mult (.c (.int 3)) (.var 4)) (.var 6))) .nil)))))))
  = some (.lst ((ci h ac (i+1)).map (eh A))):=by
 have Fq:=tA h ac i;have Yv:=tA h ac (i+1);have zF:h^i<=1000:=YY (jdz hh i) (YY (Zi (by decide) (show i<=5 by lia)) (by decide));have Fo:h^(i+1)<=1000:=YY (jdz hh (i+1)) (YY (Zi (by decide) (show i+1<=5 from be hi hn)) (by decide));have oF:(cq A (3*ac.length)).length<=15:=by unfold cq;refine aa (YX _) ?_;refine aa jab ?_;lia
 have H5:∀{ρ:aB}{l:Nat},l<3->ρ[1]?=some (some (.lst (cq A (3*ac.length))))->ρ[4]?=some (some (.int (i:Int)))->ρ[6]?=some (some (.int (l:Int)))->ev (Fi N) [] ρ (.idx (.var 1) (.bin .Add (.bin .Mult (.c (.int 3)) (.var 4)) (.var 6)))=some (.flt (bT (dF A l))):=λ{ρ l} hl g1 g4 g6 =>
  fX (k:=3*i+l) (ag g1) (iF (mK (x:=3) aR (ag g4) (jcn (by decide))) (ag g6)) (Ww hi hl) (bw oF rfl)
 have body:∀c∈ci h ac i,∀l,l<h->(match cS (Fi N) [] ([some (b9 ac),some (.lst (cq A (3*ac.length))),some (.int h),some (.lst ((ci h ac i).map (eh A))),some (.int i)]++[some (eh A c),some (.int l)]) (.cons (.cmp .Eq (.comp 1 (.cons 7 (.val (.idx (.var 0) (.var 4))) (.cons (.and (.cons (.cmp .Lt (.var 7) (.var 4)) (.cons (.cmp .Eq (.idx (.var 5) (.var 7)) (.idx (.var 1) (.bin .Add (.bin .Mult (.c (.int 3)) (.var 4)) (.var 6)))) .nil))) .nil) (.done (.var 7)))) (.list .nil)) .nil)with
  |some true=>(ev (Fi N) [] ([some (b9 ac),some (.lst (cq A (3*ac.length))),some (.int h),some (.lst ((ci h ac i).map (eh A))),some (.int i)]++[some (eh A c),some (.int l)]) (.bin .Add (.var 5) (.list (.cons (.idx (.var 1) (.bin .Add (.bin .Mult (.c (.int 3)) (.var 4)) (.var 6))) .nil)))).map λu=>[u]
  |some false=>some []
  |none=>none)=some (if ga (ac.getD i []) i c l then[eh A (c++[l])]else[]):=by
  intro c hc l hl;refine bN (Hb h ac i c hc) λhcl vh=>?_;have inner:ev (Fi N) [] ([some (b9 ac),some (.lst (cq A (3*ac.length))),some (.int h),some (.lst ((ci h ac i).map (eh A))),some (.int i)]++[some (eh A c),some (.int l)]) (.comp 1 (.cons 7 (.val (.idx (.var 0) (.var 4))) (.cons (.and (.cons (.cmp .Lt (.var 7) (.var 4)) (.cons (.cmp .Eq (.idx (.var 5) (.var 7)) (.idx (.var 1) (.bin .Add (.bin .Mult (.c (.int 3)) (.var 4)) (.var 6)))) .nil))) .nil) (.done (.var 7))))=some (.lst (aq ((ac.getD i []).filter λj=>decide (j<i)&&decide (c.getD j 0=l)))):=by
   have jg:dU (Fi N) [] ([some (b9 ac),some (.lst (cq A (3*ac.length))),some (.int h),some (.lst ((ci h ac i).map (eh A))),some (.int i)]++[some (eh A c),some (.int l)]) (.val (.idx (.var 0) (.var 4)))=some (aq (ac.getD i [])):=by
    have:ev (Fi N) [] ([some (b9 ac),some (.lst (cq A (3*ac.length))),some (.int h),some (.lst ((ci h ac i).map (eh A))),some (.int i)]++[some (eh A c),some (.int l)]) (.idx (.var 0) (.var 4))=some (.lst (aq (ac.getD i []))):=by
     refine fX (l:=ac.map λl=>.lst (aq l)) (k:=i) (ag rfl) (ag rfl) ?_ (by refine aa (YX _) ?_;exact bw hn rfl);refine aa ZK ?_;refine aa Y5 ?_;refine aa (Y' hi) ?_;rfl
    rewrite [r9];refine aa this ?_;rfl
   refine(nY (x:=7) (vs:=aq (ac.getD i [])) (p:=λv=>match v with | .int j=>decide (j.toNat<i)&&decide (c.getD j.toNat 0=l)|_=>false) (g:=id) jg rfl (by refine aa (YX _) ?_;exact bw jK rfl) (λv hv=>?_) (λv hv Y=>rfl)).trans ?_
   ·refine au (Zk.mp hv) ?_;rintro j hj rfl;have jJ:=sT j hj;show _=some (decide ((j:Int).toNat<i)&&decide (c.getD (j:Int).toNat 0=l));refine aa (Zx _) ?_;by_cases hji:j<i
    ·refine kR (kU (iE ((pV (x:=j) (y:=i) (ag rfl) (ag rfl)).trans (by refine aa (decide_eq_true hji) ?_;rfl)) ?_));refine(kR (j9 (x:=bT (dF A (c.getD j 0))) (y:=bT (dF A l)) (fX (l:=c.map λl=>.flt (bT (dF A l))) (k:=j) (ag rfl) (ag rfl) ?_ (by refine aa (YX _) ?_;lia)) (H5 (be hl hh) rfl rfl rfl) ?_)).trans ?_
     ·refine aa ZK ?_;refine aa Y5 ?_;refine aa (Y' (by simp[*])) ?_;rfl
     ·have vg:c.getD j 0<3:=by
       have:c.getD j 0∈c:=by
        refine aa Y5 ?_;refine aa (Y' (by lia)) ?_;exact jbw _
       have:=vh _ this
       lia
      refine aa (H _ _ vg vg) ?_;simp
     ·have vg:c.getD j 0<3:=by
       have:c.getD j 0∈c:=by
        refine aa Y5 ?_;refine aa (Y' (by lia)) ?_;exact jbw _
       have:=vh _ this
       lia
      refine aa (H _ _ vg (by lia)) ?_;refine aa (decide_eq_true hji) ?_;refine aa (jcw _) ?_;rfl
    ·refine aa (decide_eq_false hji) ?_;refine aa (jgn _) ?_;exact kR (kU (nU ((pV (x:=j) (y:=i) (ag rfl) (ag rfl)).trans (by refine aa (decide_eq_false hji) ?_;rfl))))
   ·refine aa (jbQ _) ?_;unfold aq;refine aa jbX ?_
    congr 3
  have bY:decide ((aq ((ac.getD i []).filter λj=>decide (j<i)&&decide (c.getD j 0=l))).length=0)=ga (ac.getD i []) i c l:=by
   rewrite [jaH,decide_eq_true_iff];refine aa (YX _) ?_;rw[Z3,List.filter_eq_nil_iff];unfold ga;rw[Y3];constructor
   ·intro hx j hj;have:=hx j hj
    induction e:(decide (j<i)&&decide (c.getD j 0=l))using ZC with
    |true=>exact absurd e this
    |false=>rfl
   ·intro hx j hj e;have:=hx j hj;rw[e]at this;cases this
  rw[kR ((Dj inner).trans (by refine aa bY ?_;rfl))]
  induction ga (ac.getD i []) i c l using ZC with
  |false=>rfl
  |true =>
   have:ev (Fi N) [] ([some (b9 ac),some (.lst (cq A (3*ac.length))),some (.int h),some (.lst ((ci h ac i).map (eh A))),some (.int i)]++[some (eh A c),some (.int l)]) (.bin .Add (.var 5) (.list (.cons (.idx (.var 1) (.bin .Add (.bin .Mult (.c (.int 3)) (.var 4)) (.var 6))) .nil)))=some (eh A (c++[l])):=by
    refine(sb (x:=c.map λl=>.flt (bT (dF A l))) (y:=[.flt (bT (dF A l))]) (ag rfl) (sd (cT (H5 (by lia) rfl rfl rfl)) (show 1<=100000 by decide)) (by refine aa (YX _) ?_;show _+1<=_;lia)).trans ?_;unfold eh;refine aa ZO ?_;rfl
   simp only[this];rfl
 let G:List Nat->Nat->List AV:=λc l=>if ga (ac.getD i []) i c l then[eh A (c++[l])]else[]
 have e2:(ci h ac (i+1)).map (eh A)=(ci h ac i).flatMap λc=>(Y4 h).flatMap (G c):=by
  conv=>lhs;rw[qJ]
  refine aa List.map_flatMap ?_
  congr 1
  funext c;refine aa ZF ?_;have:=yI (p:=λl=>ga (ac.getD i []) i c l) (g:=λl=>eh A (c++[l])) (Y4 h);exact this.symm
 have aO:((ci h ac i).flatMap λc=>(Y4 h).flatMap (G c)).length<=100000:=by
  refine rwj e2 ?_;refine aa (YX _) ?_;lia
 refine aa e2 ?_;refine MW (x:=5) (cs:=ci h ac i) (f1:=eh A) (ds:=Y4 h) (f2:=λ(l:Nat)=>AV.int l) (G:=G) ?_ rfl (by lia) (λv=>?_) (by refine aa jab ?_;exact bw hh rfl) (λc hc l hl=>body c hc l (ZH.mp hl)) aO
 ·rewrite [r9];refine aa (ag (v:=.lst ((ci h ac i).map (eh A))) rfl) ?_;rfl
 ·exact j8 (ag rfl) (bw hh rfl)
theorem NJ {N:Nat}{ac:List (List Nat)}{A h:Nat}(g:iw ac)(hh:h<=3)(H:wT A):Fi (N+1) 18 [b9 ac,.lst (cq A (3*ac.length)),.int h]=some (.int ((ci h ac ac.length).length:Nat)):=by
 refine fB (N:=N) Ok rfl ?_;show aE (Fi N) [some (b9 ac),some (.lst (cq A (3*ac.length))),some (.int h),none,none] [] yC.body=_;refine aS (v:=.lst [.lst []]) rfl ?_;have aT:=g.le;have lp:=sx (f:=λρ σ v=>aE (Fi N) (ρ.set 4 (some v)) σ (match yC.body with | .cons _ (.cons (.for_ _ _ b) _)=>b|_=>.nil)) (n:=ac.length) (ρ:=[some (b9 ac),some (.lst (cq A (3*ac.length))),some (.int h),some (.lst [.lst []]),none]) (σ:=[])
  (I:=λk ρ σ=>∃e4,ρ=[some (b9 ac),some (.lst (cq A (3*ac.length))),some (.int h),some (.lst ((ci h ac k).map (eh A))),e4]/\σ=[])
  ⟨none,rfl,rfl⟩ ?_
 ·obtain⟨av,an,h1,e4,rfl,rfl⟩:=lp;refine kX (vs:=aq (Y4 ac.length)) (nW (j8 (dL (vs:=[b9 ac]) rfl ?_) (bw aT rfl))) h1 ?_
  ·show fL (ac.map λl=>AV.lst (aq l)).length=_;refine aa (YX _) ?_;unfold fL;refine aa (if_pos (bw aT rfl)) ?_;rfl
  have hp:=tA h ac ac.length;have zF:h^ac.length<=1000:=YY (jdz hh _) (YY (Zi (by decide) aT) (by decide));refine dW (v:=.int ((ci h ac ac.length).length:Nat)) (dL (cT (ag rfl)) ?_) rfl;show fL ((ci h ac ac.length).map (eh A)).length=_;refine aa (YX _) ?_;unfold fL;refine aa (if_pos (by omega)) ?_;rfl
 ·rintro k ρ σ hk ⟨e4,rfl,rfl⟩;refine⟨_,_,aS (Uk hk aT hh H (λj hj=>(g.sym k j hj).1) ?_) bH,some (.int k),rfl,rfl⟩;exact tq 5 _ (g.nd k) (λj hj=>by have:=(g.sym k j hj).1;lia)
abbrev Dk:=List (Nat×Nat)
def gC:Dk->Nat->Nat->Dk
 | [],k,v=>[(k,v)]
 |(k',v')::t,k,v=>if k'=k then(k',max v' v)::t else(k',v')::gC t k v
theorem wF:gC ((k',v')::t) y x=if k'=y then(k',max v' x)::t else(k',v')::gC t y x:=rfl
def cG (D:Dk):List (Int×AV):=D.map λe=>((e.1:Int),AV.int (e.2:Int))
def iS (D:Dk)(k:Nat):Nat:=(D.lookup k).getD 0
def dZ (D:Dk):Prop:=(D.map (·.1)).Nodup
theorem Ao (k:Nat):∀D:Dk,(cG D).lookup (k:Int)=(D.lookup k).map λ(v:Nat)=>AV.int (v:Int)
 | []=>rfl
 |(k',v')::t=>by
  show jdU (k:Int) (((k':Int),AV.int (v':Int))::cG t)=_;refine aa ZU ?_;refine aa ZU ?_;refine aa (Ao k t) ?_;have:((k:Int)==(k':Int))=(k==k'):=by
   rw[jaH,beq_iff_eq,beq_iff_eq];exact IF
  refine aa this ?_;cases(k==k')<;>rfl
theorem Gv {k v:Nat}:∀D:Dk,dZ D->(k,v)∈D->D.lookup k=some v
 |(k',v')::t,hn,hm=>by
  unfold dZ at hn;rw[Zy,jaG]at hn;refine aa ZU ?_;rcases ZM.mp hm with e|hm
  ·cases e;simp
  ·have cV:k≠k':=λe=>hn.1 (Zk.mpr ⟨(k,v),hm,e⟩);refine aa (beq_eq_false_iff_ne.mpr cV) ?_;exact Gv t hn.2 hm
theorem Bp (k v:Nat):∀D:Dk,(gC D k v).map (·.1)=if k∈D.map (·.1)then D.map (·.1)else D.map (·.1)++[k]
 | []=>rfl
 |(k',v')::t=>by
  have ih:=Bp k v t;rw[wF];by_cases e:k'=k
  ·refine aa (if_pos e) ?_;refine aa (if_pos (by simp[e])) ?_;rfl
  ·refine aa (if_neg e) ?_;refine aa Zy ?_;refine aa ih ?_;refine aa Zy ?_;by_cases h:k∈t.map (·.1)
   ·refine aa (if_pos h) ?_;refine aa (if_pos (Zt _ h)) ?_;rfl
   ·refine aa (if_neg h) ?_;refine aa (if_neg (λhm=>(ZM.mp hm).elim (λh'=>e h'.symm) h)) ?_;rfl
set_option tactic.hygienic true in
theorem Iu {k v:Nat}{D:Dk}(h:dZ D):dZ (gC D k v):=by
 unfold dZ at *;rw[Bp];split
 ·exact h
 ·rename_i hn;rw[jbg];refine cz h (by simp) (λa ha b hb=>?_);rw[Zn]at hb;rintro rfl;exact hn (hb▸ha)
theorem Ir {k v:Nat}:∀D:Dk,k∉D.map (·.1)->gC D k v=D++[(k,v)]
 | [],_=>rfl
 |(k',v')::t,h=>by
  rw[Zy,ZM,not_or]at h;rw[wF];refine aa (if_neg (λe=>h.1 e.symm)) ?_;refine aa (Ir t h.2) ?_;rfl
theorem GH {k:Nat}{w:AV}:∀D:Dk,k∉D.map (·.1)->(cG D).map (λe=>if e.1=(k:Int)then(e.1,w)else e)=cG D
 | [],_=>rfl
 |(k',v')::t,h=>by
  rw[Zy,ZM,not_or]at h;show(if(k':Int)=(k:Int)then((k':Int),w)else((k':Int),AV.int (v':Int)))::(cG t).map _=_;refine aa (if_neg (by have:=h.1;lia)) ?_;refine aa (GH t h.2) ?_;rfl
theorem Hn {k v:Nat}:∀D:Dk,dZ D->k∈D.map (·.1)->(cG D).map (λe=>if e.1=(k:Int)then(e.1,AV.int ((max (iS D k) v:Nat):Int))else e)=cG (gC D k v)
 | [],_,h=>by cases h
 |(k',v')::t,hn,h=>by
  unfold dZ at hn;rw[Zy,jaG]at hn;rw[wF];by_cases e:k'=k
  ·subst e;refine aa (if_pos rfl) ?_;have hl:iS ((k',v')::t) k'=v':=by unfold iS;refine aa ZU ?_;simp
   refine aa hl ?_;show(if(k':Int)=(k':Int)then((k':Int),AV.int ((max v' v:Nat):Int))else _)::(cG t).map _=_;refine aa (if_pos rfl) ?_;refine aa (GH t hn.1) ?_;rfl
  ·refine aa (if_neg e) ?_;have hk:k∈t.map (·.1):=by
    rw[Zy]at h;rcases ZM.mp h with h'|h'
    ·exact absurd h'.symm e
    ·exact h'
   have hl:iS ((k',v')::t) k=iS t k:=by
    unfold iS;refine aa ZU ?_;refine aa (beq_eq_false_iff_ne.mpr (λc=>e c.symm)) ?_;rfl
   refine aa hl ?_;show(if(k':Int)=(k:Int)then _ else((k':Int),AV.int (v':Int)))::(cG t).map _=_;refine aa (if_neg (IC e)) ?_;refine aa (Hn t hn.2 hk) ?_;rfl
theorem UL {D:Dk}(k v:Nat)(h:dZ D):dictPut (cG D) (k:Int) (.int ((max (iS D k) v:Nat):Int))=cG (gC D k v):=by
 unfold dictPut;by_cases hk:k∈D.map (·.1)
 ·have:(cG D).any (λe=>decide (e.1=(k:Int)))=true:=by
   rw[jek];refine au (Zk.mp hk) ?_;rintro e he rfl;exact aN _ (Zk.mpr ⟨e,he,rfl⟩) (by simp)
  refine aa (if_pos this) ?_;refine aa (Hn D h hk) ?_;rfl
 ·have:¬(cG D).any (λe=>decide (e.1=(k:Int)))=true:=by
   rw[jek];rintro⟨x,hx,hd⟩;refine au (Zk.mp hx) ?_;rintro e he rfl;have h5:(e.1:Int)=(k:Int):=of_decide_eq_true hd;have:e.1=k:=by lia
   exact hk (Zk.mpr ⟨e,he,this⟩)
  have hl:iS D k=0:=by
   unfold iS;have:D.lookup k=none:=by
    rw[jgR];intro p hp;rw[bne_iff_ne];rintro rfl;exact hk (Zk.mpr ⟨p,hp,rfl⟩)
   refine aa this ?_;rfl
  refine aa (if_neg this) ?_;refine aa (Ir D hk) ?_;refine aa hl ?_;refine aa (Nat.zero_max _) ?_;unfold cG;refine aa ZO ?_;rfl
def fj (S j:Nat):Bool:=decide (S/2^j%2=1)
def ie (nl:List Nat)(S:Nat):Nat:=((nl.filter (fj S)).map (2^·)).sum
def nM (sh lo:Nat)(acc D:Dk):Dk:=D.foldl (λacc e=>gC acc (e.1+sh) (e.2+lo)) acc
def lm (S i:Nat):Nat:=if S%2^i=0 then 1 else 0
def dj (ac:List (List Nat))(T:List Dk)(S:Nat)(acc:Dk)(i:Nat):Dk :=
 if fj S i then nM (32^i*ie (ac.getD i []) (S-2^i)) (lm (S-2^i) i) acc (T.getD (S-2^i) [])else acc
def mf (ac:List (List Nat))(T:List Dk)(S:Nat):Dk:=(Y4 ac.length).foldl (dj ac T S) []
def bL (ac:List (List Nat)):Nat->List Dk
 |0=>[[(0,0)]]
 |s+1=>bL ac s++[mf ac (bL ac s) (s+1)]
theorem Wf:bL ac 0=[[(0,0)]]:=rfl
theorem oQ:bL ac (s+1)=bL ac s++[mf ac (bL ac s) (s+1)]:=rfl
theorem xe {sh lo:Nat}:∀(D acc:Dk),dZ acc->dZ (nM sh lo acc D)
 | [],_,h=>h
 |e::D,acc,h=>xe D _ (Iu h)
theorem Iq (k v:Nat)(D:Dk):(gC D k v).length<=D.length+1:=by
 have:=congrArg jaK (Bp k v D);rw[YX]at this;refine aa this ?_;split
 ·refine aa (YX _) ?_;exact jcz jbB
 ·refine aa Y8 ?_;refine aa (YX _) ?_;exact Y2 _
theorem xd {sh lo:Nat}:∀(D acc:Dk),(nM sh lo acc D).length<=acc.length+D.length
 | [],_=>Y2 _
 |e::D,acc=>by
  have h1:=xd (sh:=sh) (lo:=lo) D (gC acc (e.1+sh) (e.2+lo));have h2:=Iq (e.1+sh) (e.2+lo) acc;show(nM sh lo (gC acc (e.1+sh) (e.2+lo)) D).length<=_;refine aa Zl ?_;lia
theorem U3 (ac:List (List Nat))(T:List Dk)(S:Nat):dZ (mf ac T S):=by
 have:∀(l:List Nat) (acc:Dk),dZ acc->dZ (l.foldl (dj ac T S) acc):=λl=>by
  induction l with
  |nil=>exact λY h=>h
  |cons i l ih =>
   intro acc h;refine ih _ ?_;unfold dj;split
   ·exact xe _ _ h
   ·exact h
 exact this _ _ jaM
theorem ny (ac:List (List Nat)):∀s,(bL ac s).length=s+1
 |0=>rfl
 |s+1=>by
  rw[oQ];refine aa Y8 ?_;refine aa (ny ac s) ?_;rfl
theorem H3 (ac:List (List Nat)):∀s,∀D∈bL ac s,dZ D
 |0,D,h=>by
  rw[Wf,Zn]at h;subst h;unfold dZ;simp
 |s+1,D,h=>by
  rw[oQ,Zz,Zn]at h;rcases h with h|rfl
  ·exact H3 ac s D h
  ·exact U3 _ _ _
theorem tS (ac:List (List Nat)){k:Nat}:∀s,k<=s->(bL ac s).getD k []=(bL ac k).getD k []
 |0,h=>by refine aa (Nat.le_zero.mp h) ?_;rfl
 |s+1,h=>by
  by_cases e:k=s+1
  ·refine aa e ?_;rfl
  ·have ih:=tS ac s (by lia:k<=s);refine rwj ih ?_
   conv=>lhs;rw[oQ]
   rw[Y5,Zq (by refine aa (ny _ _) ?_;lia),Y5]
def tab (ac:List (List Nat))(S:Nat):Dk:=(bL ac S).getD S []
theorem We (ac:List (List Nat))(s:Nat):tab ac (s+1)=mf ac (bL ac s) (s+1):=by
 unfold tab
 conv=>lhs;rw[oQ]
 have:=ny ac s;refine aa Y5 ?_;refine aa (Zd (ZG this)) ?_;refine aa this ?_;refine aa (jaw _) ?_;rfl
def pc (S:Nat):Nat:=(Y4 5).countP (fj S)
theorem Hi:∀S,S<32->∀i,i<5->fj S i=true->pc (S-2^i)+1=pc S/\2^i<=S/\S-2^i<S:=by decide +kernel
theorem Hh (S:Nat):pc S<=5:=by
 unfold pc;exact YY List.countP_le_length (by simp)
theorem Wd {ac:List (List Nat)}(hn:ac.length<=5):∀S,S<32->(tab ac S).length<=5^pc S:=by
 intro S
 induction S using Nat.strongRecOn with
 |_ S ih =>
  intro hS
  induction S using jas with
  |zero=>exact jcI (by decide)
  |succ s =>
   refine aa (We _ _) ?_;have QH:∀(l:List Nat) (acc:Dk),(∀i∈l,i<5)->(l.foldl (dj ac (bL ac s) (s+1)) acc).length<=acc.length+l.countP (fj (s+1))*5^(pc (s+1)-1):=λl=>by
    induction l with
    |nil=>intro acc _;simp
    |cons i l ihl =>
     intro acc hl;have h1:=ihl (dj ac (bL ac s) (s+1) acc i) (λj hj=>hl j (by simp[hj]));refine aa jcA ?_;refine YY h1 ?_;refine aa jej ?_;unfold dj;by_cases hb:fj (s+1) i=true
     ·refine aa (if_pos hb) ?_;refine aa (if_pos hb) ?_;have hp:=Hi (s+1) hS i (hl i (by simp)) hb;have h2:=xd (sh:=32^i*ie (ac.getD i []) (s+1-2^i)) (lo:=lm (s+1-2^i) i) ((bL ac s).getD (s+1-2^i) []) acc;have h3:=ih (s+1-2^i) hp.2.2 (by lia);have h4:(bL ac s).getD (s+1-2^i) []=tab ac (s+1-2^i):=tS ac s (by lia);rw[<-h4,show pc (s+1-2^i)=pc (s+1)-1 by lia]at h3;rewrite [jdn];refine aa (jdX _) ?_
      lia
     ·refine aa (if_neg hb) ?_;refine aa (if_neg hb) ?_;refine aa (Nat.add_zero _) ?_;exact Y2 _
   have h1:=QH (Y4 ac.length) [] (λi hi=>by have:=ZH.mp hi;exact be this hn);have h2:(Y4 ac.length).countP (fj (s+1))<=pc (s+1):=by
    exact List.Sublist.countP_le (List.range_sublist.mpr hn)
   have h3:pc (s+1)≠0->5^pc (s+1)=5*5^(pc (s+1)-1):=λh=>by
    conv=>lhs;rw[show pc (s+1)=pc (s+1)-1+1 by lia]
    refine aa (jcR _ _) ?_;refine aa (jaI _ _) ?_;rfl
   have h5:=Hh (s+1);unfold mf;refine YY h1 ?_;show 0+_<=_;by_cases h0:pc (s+1)=0
   ·rw[h0]at h2;refine aa (Nat.le_zero.mp h2) ?_;refine aa (Nat.zero_mul _) ?_;exact jaU _
   ·refine aa (h3 h0) ?_;refine aa (jer _) ?_;exact jbe (by lia) (Y2 _)
theorem Bi {ac:List (List Nat)}(hn:ac.length<=5){S:Nat}(hS:S<32):(tab ac S).length<=3125 :=
 YY (Wd hn S hS) (YY (Zi (by decide) (Hh S)) (by decide))
def cR (D:Dk):AV:=.dct (cG D)
def jq (T:List Dk)(g:Nat):aA:=.list (T.map cR)::Ze g .gone
def cP (T:List Dk)(g:Nat)(acc:Dk):aA:=jq T g++[.dict (cG acc)]
theorem oP (T:List Dk)(g:Nat):(jq T g).length=g+1:=by
 unfold jq;refine aa Zl ?_;refine aa jat ?_;rfl
theorem A9 (T:List Dk)(g:Nat)(acc:Dk):(cP T g acc)[g+1]?=some (.dict (cG acc)):=by
 unfold cP;rw[Zd (by rw[oP];exact Y2 _),oP,jaw];rfl
theorem VO (T:List Dk)(g:Nat)(acc BV:Dk):(cP T g acc).set (g+1) (.dict (cG BV))=cP T g BV:=by
 unfold cP;rw[jbV,if_neg (by rw[oP];exact Zo (g+1)),oP,jaw];rfl
section
theorem Nn (h1:ev Φ σ ρ ve=some w)(hs:w.scalar=true)(h2:ρ[x]?=some (some (.ref i)))(h3:ev Φ σ ρ ke=some (.int k))(h4:σ[i]?=some (.dict es))(hl:es.length<=100000)(h5:aE Φ ρ (σ.set i (.dict (dictPut es k w))) ss=r):aE Φ ρ σ (.cons (.put x ke ve) ss)=r:=by
 refine iH ?_ h5;rewrite [DL];refine aa h1 ?_;refine(if_pos hs).trans ?_;refine aa h2 ?_;refine aa h3 ?_;dsimp only;refine aa h4 ?_;exact if_pos hl
theorem Bg:∀l:List Nat,ek (l.map Z0)=((l.sum:Nat):Int)
 | []=>rfl
 |a::l=>by
  rw[Zy,wx,Bg l,jah,jbn];rfl
theorem uT (h1:ev Φ σ ρ a=some (.lst (aq l)))(hs:l.sum<2^53):ev Φ σ ρ (.call .sum (.cons a .nil))=some (.int (l.sum:Nat)):=by
 refine dL (cT h1) ?_;show(tM (aq l)).map AV.int=_;unfold tM;refine aa (qG _) ?_;unfold bC;refine aa (rG _) ?_;simp only[];have k1:(l.map Z0).all (λi=>decide (0<=i))=true:=by
  rw[Y3];intro i hi;refine au (Zk.mp hi) ?_;rintro j _ rfl;exact decide_eq_true (Zf j)
 have k2:ek (l.map Z0)<2^53:=by
  refine aa (Bg _) ?_;have:((l.sum:Nat):Int)<((2^53:Nat):Int):=jcq.mpr hs;exact this
 show(if _ then _ else _:Option Int).map AV.int=_;refine aa (if_pos (And.intro k1 k2)) ?_;refine aa (Bg _) ?_;rfl
end
theorem wy (M:Nat):∀l:List Nat,(∀x∈l,x<=M)->l.sum<=l.length*M
 | [],_=>by simp
 |a::l,h=>by
  have h1:=h a (by simp);have h2:=wy M l (λx hx=>h x (by simp[hx]));rw[jah,Zl,jdn,jdX];lia
theorem Tm (h:∀j∈nl,j<5)(hl:nl.length<=5):ie nl S<=80:=by
 unfold ie;have h1:=wy 16 ((nl.filter (fj S)).map (2^·)) (λx hx=>by
  refine au (Zk.mp hx) ?_;rintro j hj rfl;have:=h j (jdp.mp hj).1;exact YY (Zi (by decide) (show j<=4 from jbH this)) (by decide))
 rw[YX]at h1;have:=jcW (fj S) nl
 lia
def wn:dw:=(.cons (.put 3 (.bin .Add (.var 8) (.var 6)) (.call .max (.cons (.call .get (.cons (.var 3) (.cons (.bin .Add (.var 8) (.var 6)) (.cons (.c (.int 0)) .nil)))) (.cons (.bin .Add (.idx (.idx (.var 1) (.var 5)) (.var 8)) (.var 7)) .nil)))) .nil)
abbrev mD (ac:List (List Nat))(S g i S' sh lo:Nat)(v8:Option AV):aB:=[some (b9 ac),some (.ref 0),some (.int S),some (.ref (g+1)),some (.int i),some (.int S'),some (.int sh),some (.int lo),v8]
theorem UK (hT:S'<T.length)(kh:T.length<=1000)(he:e∈T.getD S' [])(hn:dZ (T.getD S' []))(ha:dZ acc)(mV:acc.length<=100000):
 aE Φ (mD ac S g i S' sh lo (some (.int (e.1:Nat)))) (cP T g acc) wn=some (.next (mD ac S g i S' sh lo (some (.int (e.1:Nat)))) (cP T g (gC acc (e.1+sh) (e.2+lo)))):=by
 have hk:ev Φ (cP T g acc) (mD ac S g i S' sh lo (some (.int (e.1:Nat)))) (.bin .Add (.var 8) (.var 6))=some (.int ((e.1+sh:Nat):Int)):=iF (ag rfl) (ag rfl);have hg:ev Φ (cP T g acc) (mD ac S g i S' sh lo (some (.int (e.1:Nat)))) (.call .get (.cons (.var 3) (.cons (.bin .Add (.var 8) (.var 6)) (.cons (.c (.int 0)) .nil))))=some (.int (iS acc (e.1+sh):Nat)):=by
  refine dL (gJ (ag rfl) hk aR) ?_;have hd:gH (cP T g acc) (.ref (g+1))=some (cG acc):=LJ (A9 ..);show(match gH (cP T g acc) (.ref (g+1))with|some es=>some (match es.lookup ((e.1+sh:Nat):Int)with|some v=>v|none=>.int ((0:Nat):Int))|none=>none)=_;refine aa hd ?_;simp only[Ao];unfold iS;cases acc.lookup (e.1+sh)<;>rfl
 have fu:(T.map cR)[S']?=some (cR (T.getD S' [])):=by
  refine aa ZK ?_;refine aa Y5 ?_;refine aa (Y' hT) ?_;rfl
 have hv:ev Φ (cP T g acc) (mD ac S g i S' sh lo (some (.int (e.1:Nat)))) (.idx (.idx (.var 1) (.var 5)) (.var 8))=some (.int (e.2:Nat)):=by
  refine mJ (uQ (j:=0) (k:=S') (l:=T.map cR) (ag rfl) (ag rfl) rfl fu (by refine aa (YX _) ?_;exact bw kh rfl)) (ag rfl) ?_;show(cG (T.getD S' [])).lookup ((e.1:Nat):Int)=_;refine aa (Ao _ _) ?_;refine aa (Gv (k:=e.1) (v:=e.2) _ hn he) ?_;rfl
 refine Nn (w:=.int ((max (iS acc (e.1+sh)) (e.2+lo):Nat):Int)) (i:=g+1) (k:=((e.1+sh:Nat):Int)) (es:=cG acc) ?_ rfl rfl hk (A9 T g acc) (by unfold cG;refine aa (YX _) ?_;exact mV) ?_
 ·refine dL (dM hg (iF hv (ag rfl))) ?_;show some (AV.int (if((iS acc (e.1+sh):Nat):Int)<((e.2+lo:Nat):Int)then((e.2+lo:Nat):Int)else((iS acc (e.1+sh):Nat):Int)))=_;refine congrArg (λz=>some (AV.int z)) ?_;split<;>lia
 ·refine aa (UL _ _ ha) ?_;rw[VO];exact bH
theorem Hm (hT:S'<T.length)(kh:T.length<=1000)(hn:dZ (T.getD S' [])):∀(es:Dk) (acc:Dk) (v8:Option AV),(∀e∈es,e∈T.getD S' [])->dZ acc->acc.length+es.length<=100000 ->
 ∃t4,eP (λρ σ v=>aE Φ (ρ.set 8 (some v)) σ wn) (es.map λe=>AV.int (e.1:Nat)) (mD ac S g i S' sh lo v8) (cP T g acc)=some (.next (mD ac S g i S' sh lo t4) (cP T g (nM sh lo acc es)))
 | [],acc,v8,_,_,_=>⟨v8,rfl⟩
 |e::es,acc,v8,he,ha,hl=>by
  rw[Zl]at hl;have hu:=Iq (e.1+sh) (e.2+lo) acc;refine aW (Hm (Φ:=Φ) (ac:=ac) (S:=S) (g:=g) (i:=i) (sh:=sh) (lo:=lo) hT kh hn es (gC acc (e.1+sh) (e.2+lo)) (some (.int (e.1:Nat))) (λx hx=>he x (by simp[hx])) (Iu ha) (by lia)) λt4 h2=>?_;refine⟨t4,?_⟩;refine aa Zy ?_;rw[yK];have h1:=UK (Φ:=Φ) (ac:=ac) (T:=T) (S:=S) (g:=g) (i:=i) (S':=S') (sh:=sh) (lo:=lo) (acc:=acc) (e:=e) hT kh (he e (by simp)) hn ha (Bx hl);show(match aE Φ (mD ac S g i S' sh lo (some (.int (e.1:Nat)))) (cP T g acc) wn with|some (.next av an)=>eP _ _ av an|some (.ret r)=>some (.ret r)|none=>none)=_;refine aa h1 ?_;exact h2
theorem Ee (σ:aA)(k:Nat)(D:Dk):aY σ (k+2) (cR D)=some (cR D):=by
 unfold cR;rw[OD];have:bh (λe=>(aY σ (k+1) e.2).map (e.1,·)) (cG D)=some ((cG D).map id):=by
  refine oK _ (λe he=>?_);refine au (Zk.mp he) ?_;rintro d _ rfl;rfl
 refine aa this ?_;refine aa (jbQ _) ?_;rfl
def Kg:dw:=(.cons (.asg 5 false (.bin .Sub (.var 2) (.bin .Pow (.c (.int 2)) (.var 4))))
 (.cons (.asg 6 false (.bin .Mult (.bin .Pow (.c (.int 32)) (.var 4)) (.call .sum (.cons (.comp 1 (.cons 9 (.val (.idx (.var 0) (.var 4))) (.cons (.cmp .Eq (.bin .Mod (.bin .FloorDiv (.var 5) (.bin .Pow (.c (.int 2)) (.var 9))) (.c (.int 2))) (.c (.int 1))) .nil) (.done (.bin .Pow (.c (.int 2)) (.var 9))))) .nil))))
 (.cons (.asg 7 false (.ite (.cmp .Eq (.bin .Mod (.var 5) (.bin .Pow (.c (.int 2)) (.var 4))) (.c (.int 0))) (.c (.int 1)) (.c (.int 0))))
 (.cons (.for_ 8 (.val (.idx (.var 1) (.var 5))) wn)
 .nil))))
def xt:dw:=(.cons (.ife (.cmp .Eq (.bin .Mod (.bin .FloorDiv (.var 2) (.bin .Pow (.c (.int 2)) (.var 4))) (.c (.int 2))) (.c (.int 1))) Kg .nil) .nil)
section
theorem Ud (h:i<60):(2:Nat)^i<2^64:=Nat.pow_lt_pow_right (by decide) (bw h rfl)
theorem x9 {a b:Ex}{S i:Nat}(h1:ev Φ σ ρ a=some (.int S))(h2:ev Φ σ ρ b=some (.int i))(hi:i<60):ev Φ σ ρ (.cmp .Eq (.bin .Mod (.bin .FloorDiv a (.bin .Pow (.c (.int 2)) b)) (.c (.int 2))) (.c (.int 1)))=some (.bool (fj S i)):=
 pS (x:=S/2^i%2) (y:=1) (dV (y:=2) (jB h1 (jD (x:=2) aR h2 (by decide) (IL hi rfl)) (by have:=jcI (n:=i) (show 0<2 by decide);simp) (Ud hi)) aR (by decide)) aR
end
theorem KQ {Φ:cX}{ac:List (List Nat)}{T:List Dk}{S g i:Nat}{acc:Dk}{e5 e6 e7 e8:Option AV}(hn:ac.length<=5)(hi:i<ac.length)(hS:S<32)(hT:T.length=S)(dh:∀D∈T,dZ D)(kh:∀D∈T,D.length<=3125)(ha:dZ acc)(mV:acc.length<=20000)(sT:∀j∈ac.getD i [],j<ac.length)(jK:(ac.getD i []).length<=5):
 ∃iz iA iB iC,aE Φ [some (b9 ac),some (.ref 0),some (.int S),some (.ref (g+1)),some (.int i),e5,e6,e7,e8] (cP T g acc) xt=some (.next [some (b9 ac),some (.ref 0),some (.int S),some (.ref (g+1)),some (.int i),iz,iA,iB,iC] (cP T g (dj ac T S acc i))):=by
 by_cases hb:fj S i=true
 ·have hp:=Hi S hS i (be hi hn) hb;have e1:dj ac T S acc i=nM (32^i*ie (ac.getD i []) (S-2^i)) (lm (S-2^i) i) acc (T.getD (S-2^i) []):=by unfold dj;refine aa (if_pos hb) ?_;rfl
  refine aa e1 ?_;have Ff:=Tm (S:=S-2^i) (λj hj=>be (sT j hj) hn) jK;have y9:S-2^i<T.length:=by simp[*]
  have oA:T.getD (S-2^i) []∈T:=by
   refine aa Y5 ?_;refine aa (Y' y9) ?_;exact jbw _
  have Ye:=kh _ oA;refine aW (Hm (Φ:=Φ) (ac:=ac) (T:=T) (S:=S) (g:=g) (i:=i) (S':=S-2^i) (sh:=32^i*ie (ac.getD i []) (S-2^i)) (lo:=lm (S-2^i) i) y9 (by lia) (dh _ oA) (T.getD (S-2^i) []) acc e8 (λY h=>h) ha (by lia)) λt4 hf=>?_;refine F0 (some (.int (S-2^i:Nat))) (some (.int (32^i*ie (ac.getD i []) (S-2^i):Nat))) (some (.int (lm (S-2^i) i:Nat))) t4 ?_;refine mO ((x9 (ag rfl) (ag rfl) (by lia)).trans (by refine aa hb ?_;rfl)) ?_ bH;refine aS (v:=.int (S-2^i:Nat)) (se (ag rfl) (jD (x:=2) aR (ag rfl) (by decide) (by lia)) hp.2.1) ?_;refine aS (v:=.int (32^i*ie (ac.getD i []) (S-2^i):Nat)) ?_ ?_
  ·refine mK (jD (x:=32) aR (ag rfl) (by decide) (by lia)) (uT (l:=((ac.getD i []).filter (fj (S-2^i))).map (2^·)) ?_ ?_) (jfn (ZE Ff (by decide)))
   ·refine(nY (x:=9) (vs:=aq (ac.getD i [])) (p:=λv=>match v with | .int j=>fj (S-2^i) j.toNat|_=>false) (g:=λv=>match v with | .int j=>.int ((2^j.toNat:Nat):Int)|v=>v) ?_ rfl (by refine aa (YX _) ?_;exact bw jK rfl) (λv hv=>?_) (λv hv Y=>?_)).trans ?_
    ·have:∀{ρ:aB},ρ[0]?=some (some (b9 ac))->ρ[4]?=some (some (.int (i:Int)))->ev Φ (cP T g acc) ρ (.idx (.var 0) (.var 4))=some (.lst (aq (ac.getD i []))):=λg0 g4=>by
      refine fX (l:=ac.map λl=>.lst (aq l)) (k:=i) (ag g0) (ag g4) ?_ (by refine aa (YX _) ?_;exact bw hn rfl);refine aa ZK ?_;refine aa Y5 ?_;refine aa (Y' hi) ?_;rfl
     rewrite [r9];refine aa (this rfl rfl) ?_;rfl
    ·refine au (Zk.mp hv) ?_;rintro j hj rfl;have:=sT j hj;show _=some (fj (S-2^i) (j:Int).toNat);refine aa (Zx _) ?_;exact kR (x9 (ag rfl) (ag rfl) (by lia))
    ·refine au (Zk.mp hv) ?_;rintro j hj rfl;have:=sT j hj;show _=some (AV.int ((2^(j:Int).toNat:Nat):Int));refine aa (Zx _) ?_;exact jD (x:=2) aR (ag rfl) (by decide) (by lia)
    ·unfold aq;refine aa jbX ?_;refine aa ZF ?_;refine aa ZF ?_
     congr 2
   ·have:ie (ac.getD i []) (S-2^i)<2^53:=ZE Ff (by decide);exact this
  refine aS (v:=.int (lm (S-2^i) i:Nat)) ?_ ?_
  ·have hc:∀{ρ:aB},ρ[5]?=some (some (.int ((S-2^i:Nat):Int)))->ρ[4]?=some (some (.int (i:Int)))->ev Φ (cP T g acc) ρ (.cmp .Eq (.bin .Mod (.var 5) (.bin .Pow (.c (.int 2)) (.var 4))) (.c (.int 0)))=some (.bool (decide ((S-2^i)%2^i=0))):=λg5 g4 =>
    pS (y:=0) (dV (ag g5) (jD (x:=2) aR (ag g4) (by decide) (by lia)) (by have:=jcI (n:=i) (show 0<2 by decide);exact XU this)) aR
   unfold lm;by_cases h0:(S-2^i)%2^i=0
   ·refine aa (if_pos h0) ?_;exact pU ((hc rfl rfl).trans (by refine aa (decide_eq_true h0) ?_;rfl)) aR
   ·refine aa (if_neg h0) ?_;exact pT ((hc rfl rfl).trans (by refine aa (decide_eq_false h0) ?_;rfl)) aR
  refine kX (vs:=(T.getD (S-2^i) []).map λe=>AV.int (e.1:Nat)) ?_ hf bH;have hv:∀{ρ:aB},ρ[1]?=some (some (.ref 0))->ρ[5]?=some (some (.int ((S-2^i:Nat):Int)))->ev Φ (cP T g acc) ρ (.idx (.var 1) (.var 5))=some (cR (T.getD (S-2^i) [])):=λg1 g5=>by
   refine uQ (j:=0) (k:=S-2^i) (l:=T.map cR) (ag g1) (ag g5) rfl ?_ (by refine aa (YX _) ?_;lia);refine aa ZK ?_;refine aa Y5 ?_;refine aa (Y' y9) ?_;rfl
  rw[C8,hv rfl rfl];show some ((cG _).map λe=>AV.int e.1)=_;unfold cG;refine aa ZF ?_;rfl
 ·have e1:dj ac T S acc i=acc:=by unfold dj;refine aa (if_neg hb) ?_;rfl
  refine aa e1 ?_;exact F0 e5 e6 e7 e8 (du ((x9 (ag rfl) (ag rfl) (by lia)).trans (by refine aa (jfr.mpr hb) ?_;rfl)) bH bH)
theorem UZ (h:(T.getD (S-2^i) []).length<=3125):(dj ac T S acc i).length<=acc.length+3125:=by
 unfold dj;split
 ·have:=xd (sh:=32^i*ie (ac.getD i []) (S-2^i)) (lo:=lm (S-2^i) i) (T.getD (S-2^i) []) acc
  lia
 ·exact ZD (jaK acc) 3125
theorem U0 (h:dZ acc):dZ (dj ac T S acc i):=by
 unfold dj;split
 ·exact xe _ _ h
 ·exact h
theorem U2 {ac:List (List Nat)}{T:List Dk}(gr:iw ac)(hS:S<32)(hT:T.length=S)(dh:∀D∈T,dZ D)(kh:∀D∈T,D.length<=3125):
 ∃kQ iz iA iB iC,eP (λρ σ v=>aE Φ (ρ.set 4 (some v)) σ xt) (aq (Y4 ac.length)) [some (b9 ac),some (.ref 0),some (.int S),some (.ref (g+1)),e4,e5,e6,e7,e8] (cP T g []) =
  some (.next [some (b9 ac),some (.ref 0),some (.int S),some (.ref (g+1)),kQ,iz,iA,iB,iC] (cP T g (mf ac T S))):=by
 have hn:=gr.le;obtain⟨av,an,h1,kQ,iz,iA,iB,iC,rfl,rfl,_,_⟩:=sx (f:=λρ σ v=>aE Φ (ρ.set 4 (some v)) σ xt) (n:=ac.length) (ρ:=[some (b9 ac),some (.ref 0),some (.int S),some (.ref (g+1)),e4,e5,e6,e7,e8]) (σ:=cP T g [])
  (I:=λk ρ σ=>∃e4 e5 e6 e7 e8,ρ=[some (b9 ac),some (.ref 0),some (.int S),some (.ref (g+1)),e4,e5,e6,e7,e8]/\σ=cP T g ((Y4 k).foldl (dj ac T S) [])/\dZ ((Y4 k).foldl (dj ac T S) [])/\((Y4 k).foldl (dj ac T S) []).length<=3125*k)
  ⟨e4,e5,e6,e7,e8,rfl,rfl,jaM,by simp⟩ (by
   rintro k ρ σ hk ⟨e4,e5,e6,e7,e8,rfl,rfl,E7,Ym⟩;refine DC (KQ (Φ:=Φ) (ac:=ac) (T:=T) (S:=S) (g:=g) (i:=k) (acc:=(Y4 k).foldl (dj ac T S) []) (e5:=e5) (e6:=e6) (e7:=e7) (e8:=e8) hn hk hS hT dh kh E7 (by lia) (λj hj=>(gr.sym k j hj).1) (tq 5 _ (gr.nd k) (λj hj=>by have:=(gr.sym k j hj).1;exact be this hn))) λiz iA iB iC hs=>?_;have e:(Y4 (k+1)).foldl (dj ac T S) []=dj ac T S ((Y4 k).foldl (dj ac T S) []) k:=by
    refine aa jaF ?_;refine aa jic ?_;rfl
   have hl:(T.getD (S-2^k) []).length<=3125:=by
    refine aa Y5 ?_
    induction hh:T[S-2^k]? using ae with
    |none=>simp
    |some D=>exact kh D (ZB hh)
   refine⟨_,_,hs,some (.int k),iz,iA,iB,iC,rfl,by refine aa e ?_;rfl,by refine aa e ?_;exact U0 E7,?_⟩;refine aa e ?_;have:=UZ (ac:=ac) (acc:=(Y4 k).foldl (dj ac T S) []) hl
   lia)
 exact z0 kQ iz iA iB iC h1
theorem Jl (h1:ρ[1]?=some (some (.ref 0)))(h3:ρ[3]?=some (some (.ref (g+1))))(hl:T.length<=1000)(h:aE Φ ρ (jq (T++[row]) (g+1)) ss=r):
 aE Φ ρ (cP T g row) (.cons (.app (.var 1) (.var 3)) ss)=r:=by
 refine iH ?_ h;have f1:ev Φ (cP T g row) ρ (.var 1)=some (.ref 0):=ag h1;have f3:ev Φ (cP T g row) ρ (.var 3)=some (.ref (g+1)):=ag h3;have fz:lS (cP T g row) (g+1)=some (cR row):=by
  unfold lS;rw[A9];exact Ee [] 4 row
 have e0:(cP T g row)[0]?=some (.list (T.map cR)):=rfl;rewrite [yx];refine aa f1 ?_;simp only[f3,e0];rw[if_pos (by refine aa (YX _) ?_;exact bw hl rfl),if_neg (by lia),fz];show some (Fl.next ρ (((cP T g row).set (g+1) .gone).set 0 (.list (T.map cR++[cR row]))))=_;have:((cP T g row).set (g+1) .gone).set 0 (.list (T.map cR++[cR row]))=jq (T++[row]) (g+1):=by
  unfold cP;rw[jbV,if_neg (by refine aa (oP _ _) ?_;exact Zo (g+1)),oP,jaw];unfold jq;refine aa List.replicate_succ' ?_;refine aa ZO ?_;rfl
 refine aa this ?_;rfl
def Cp:dw:=match yD.body with | .cons _ (.cons (.for_ _ _ b) _)=>b|_=>.nil
theorem KR (gr:iw ac)(hS:s+1<32):
 ∃uM kQ iz iA iB iC,aE Φ [some (b9 ac),some (.ref 0),some (.int (s+1:Nat)),e3,e4,e5,e6,e7,e8] (jq (bL ac s) s) Cp =
  some (.next [some (b9 ac),some (.ref 0),some (.int (s+1:Nat)),uM,kQ,iz,iA,iB,iC] (jq (bL ac (s+1)) (s+1))):=by
 have hn:=gr.le;have hT:=ny ac s;have dh:=H3 ac s;have kh:∀D∈bL ac s,D.length<=3125:=λD hD=>by
  obtain⟨k,hk,rfl⟩:=jhy hD;have h1:=Bi hn (S:=k) (by lia);have h2:=tS ac (k:=k) s (by lia);unfold tab at h1;rw[<-h2,Y5,Y' hk]at h1;exact h1
 refine uW (U2 (Φ:=Φ) (ac:=ac) (T:=bL ac s) (S:=s+1) (g:=s) (e4:=e4) (e5:=e5) (e6:=e6) (e7:=e7) (e8:=e8) gr hS hT dh kh) λkQ iz iA iB iC hr=>?_;refine Rw (some (.ref (s+1))) kQ iz iA iB iC ?_;refine sm (v:=.ref (s+1)) (an:=cP (bL ac s) s []) ?_ ?_
 ·show some (AV.ref (jq (bL ac s) s).length,jq (bL ac s) s++[.dict []])=_;refine aa (oP _ _) ?_;rfl
 refine kX (vs:=aq (Y4 ac.length)) (nW (j8 (dL (vs:=[b9 ac]) rfl ?_) (bw hn rfl))) hr ?_
 ·show fL (ac.map λl=>AV.lst (aq l)).length=_;refine aa (YX _) ?_;unfold fL;refine aa (if_pos (bw hn rfl)) ?_;rfl
 exact Jl rfl rfl (by lia) bH
theorem NK (gr:iw ac):Fi (N+1) 19 [b9 ac]=some (.lst ((bL ac (2^ac.length-1)).map cR)):=by
 have hn:=gr.le;have mU:2^ac.length<=32:=YY (Zi (by decide) hn) (by decide);refine fB (N:=N) Ol rfl ?_;show aE (Fi N) [some (b9 ac),none,none,none,none,none,none,none,none] [] yD.body=_;refine sm (v:=.ref 0) (an:=jq (bL ac 0) 0) rfl ?_;obtain⟨av,an,h1,X9,uM,kQ,iz,iA,iB,iC,rfl,rfl⟩:=sw (f:=λρ σ v=>aE (Fi N) (ρ.set 2 (some v)) σ Cp) (g:=λ(i:Nat)=>AV.int i)
  (I:=λpre ρ σ=>∃e2 e3 e4 e5 e6 e7 e8,ρ=[some (b9 ac),some (.ref 0),e2,e3,e4,e5,e6,e7,e8]/\σ=jq (bL ac pre.length) pre.length) (ZP 1 (2^ac.length-1)) [] [some (b9 ac),some (.ref 0),none,none,none,none,none,none,none] (jq (bL ac 0) 0)
  ⟨none,none,none,none,none,none,none,rfl,rfl⟩ (by
   rintro p x q ρ σ e ⟨e2,e3,e4,e5,e6,e7,e8,rfl,rfl⟩;have e:ZP 1 (2^ac.length-1)=p++x::q:=e;have hx:x=p.length+1:=by
    have h1:(ZP 1 (2^ac.length-1))[p.length]?=some x:=by refine aa e ?_;simp
    rw[Zw]at h1;refine aW h1 λY h1=>?_;rw[List.getElem_range']at h1
    lia
   have aZ:p.length<2^ac.length-1:=by
    have:=congrArg jaK e;rw[jbx,Y8,Zl]at this;simp[*]
   refine Nk (KR (Φ:=Fi N) (ac:=ac) (s:=p.length) (e3:=e3) (e4:=e4) (e5:=e5) (e6:=e6) (e7:=e7) (e8:=e8) gr (by omega)) λuM kQ iz iA iB iC ht=>?_;subst hx;refine⟨_,_,ht,some (.int (p.length+1:Nat)),uM,kQ,iz,iA,iB,iC,rfl,?_⟩;refine aa Y8 ?_;rfl)
 rw[jaS,jbx]at *;refine kX (vs:=aq (ZP 1 (2^ac.length-1))) (nW (x5 (a:=1) aR (jD (x:=2) aR (dL (vs:=[b9 ac]) rfl ?_) (by decide) (bw hn rfl)) (bw mU rfl) (jcC 1 99999))) h1 ?_
 ·show fL (ac.map λl=>AV.lst (aq l)).length=_;refine aa (YX _) ?_;unfold fL;refine aa (if_pos (bw hn rfl)) ?_;rfl
 refine dW (v:=.ref 0) rfl ?_;show(bh (aY _ 5) ((bL ac (2^ac.length-1)).map cR)).map AV.lst=_;rw[oK (g:=id) _ (λa ha=>?_),jbQ];rfl;refine au (Zk.mp ha) ?_;rintro D _ rfl;exact Ee _ 3 D
def mA (D:Dk)(n c:Nat):Nat:=D.countP λe=>decide ((Y4 n).filter (λi=>decide (e.1/32^i%32=0))=[c])
def dT (D:Dk)(n:Nat):List Nat:=mA D n 0::(ZP 2 (n-1)).map λk=>D.countP λe=>decide (e.2=k)
def hN (b:Nat)(ds:List Nat):Nat:=ds.foldr (λd s=>b*(d+s)) 0
def hI (h:Int)(ds:List Nat):Int:=ds.foldr (λ(d:Nat) (s:Int)=>h*((d:Int)-s)) 0
def i6 (ac:List (List Nat)):Nat:=((Y4 (2^ac.length)).map λS=>(tab ac S).length*(tab ac (2^ac.length-1-S)).length).sum
def tJ (n:Nat)(a:Int):Int:=if n%2=1 then a else -a
structure o4 (ac:List (List Nat)):Prop where
 alone:∀c,c<ac.length->mA (tab ac (2^ac.length-1)) ac.length c=mA (tab ac (2^ac.length-1)) ac.length 0
 sum:(dT (tab ac (2^ac.length-1)) ac.length).sum=(tab ac (2^ac.length-1)).length
 lj:(dT (tab ac (2^ac.length-1)) ac.length).getD (ac.length-1) 0=1
 deals:hN 2 (dT (tab ac (2^ac.length-1)) ac.length)=i6 ac
 dpos:0<i6 ac
 dlt:i6 ac<1000
 paint:∀h:Nat,h=1\/h=2\/h=3->hI (h:Int) (dT (tab ac (2^ac.length-1)) ac.length)=tJ ac.length ((ci h ac ac.length).length:Nat)
abbrev gm {α:Type}(f t:α)(b:Bool):α:=Bool.rec (motive:=λY=>α) f t b
abbrev oM {α:Type}(z s:α)(n:Nat):α:=Nat.rec (motive:=λY=>α) z (λY Y=>s) n
def sy {β:Type}(l:Dk):(Dk->β)->β:=jbW (motive:=λY=>(Dk->β)->β) (λk=>k []) (λe Y ih k=>dX e.1 λa=>dX e.2 λb=>ih λt=>k ((a,b)::t)) l
theorem yN {β:Type}:∀(l:Dk) (k:Dk->β),sy l k=k l
 | [],k=>rfl
 |e::l,k=>by
  show dX e.1 (λa=>dX e.2 λb=>sy l λt=>k ((a,b)::t))=_;rw[kf,kf,yN l]
def mT {β:Type}(l:List Nat):(List Nat->β)->β:=jbW (motive:=λY=>(List Nat->β)->β) (λk=>k []) (λe Y ih k=>dX e λa=>ih λt=>k (a::t)) l
theorem yM {β:Type}:∀(l:List Nat) (k:List Nat->β),mT l k=k l
 | [],k=>rfl
 |e::l,k=>by
  show dX e (λa=>mT l λt=>k (a::t))=_;rw[kf,yM l]
def yL {β:Type}(l:List (List Nat)):(List (List Nat)->β)->β:=jbW (motive:=λY=>(List (List Nat)->β)->β) (λk=>k []) (λe Y ih k=>mT e λa=>ih λt=>k (a::t)) l
theorem D9 {β:Type}:∀(l:List (List Nat)) (k:List (List Nat)->β),yL l k=k l
 | [],k=>rfl
 |e::l,k=>by
  show mT e (λa=>yL l λt=>k (a::t))=_;rw[yM,D9 l]
theorem py (a b:Nat):jaQ a b=decide (a=b):=by
 rw[jaH,decide_eq_true_iff];exact⟨jch,λh=>h▸Nat.beq_refl a⟩
def wG (l:Dk):Nat->Nat->Dk:=jbW (motive:=λY=>Nat->Nat->Dk) (λk v=>[(k,v)]) (λe t ih k v=>gm (e::ih k v) ((e.1,oM e.2 v (v-e.2))::t) (jaQ e.1 k)) l
theorem Ip:∀(l:Dk) (k v:Nat),wG l k v=gC l k v
 | [],k,v=>rfl
 |(a,b)::t,k,v=>by
  show gm ((a,b)::wG t k v) ((a,oM b v (v-b))::t) (jaQ a k)=_;refine aa (Ip t _ _) ?_;have e:gC ((a,b)::t) k v=if a=k then(a,max b v)::t else(a,b)::gC t k v:=by rw[wF]
  refine aa e ?_;refine aa (py _ _) ?_;by_cases h:a=k
  ·refine aa (if_pos h) ?_;refine aa (decide_eq_true h) ?_;show((a,oM b v (v-b))::t:Dk)=_
   congr 2
   induction hv:v-b using jas with
   |zero=>exact(Nat.max_eq_left (Nat.le_of_sub_eq_zero hv)).symm
   |succ m=>exact(Nat.max_eq_right (ZI (BB hv))).symm
  ·refine aa (if_neg h) ?_;refine aa (decide_eq_false h) ?_;rfl
def rE {β:Type}(sh lo:Nat)(l:Dk):Dk->(Dk->β)->β:=jbW (motive:=λY=>Dk->(Dk->β)->β) (λacc k=>k acc) (λe Y ih acc k=>dX (e.1+sh) λx=>dX (e.2+lo) λv=>ih (wG acc x v) k) l
theorem BW {β:Type}(sh lo:Nat):∀(l acc:Dk) (k:Dk->β),rE sh lo l acc k=k (nM sh lo acc l)
 | [],acc,k=>rfl
 |e::l,acc,k=>by
  show dX (e.1+sh) (λx=>dX (e.2+lo) λv=>rE sh lo l (wG acc x v) k)=_;rw[kf,kf,BW sh lo l,Ip];rfl
def qI {α:Type}(d:α)(l:List α):Nat->α:=jbW (motive:=λY=>Nat->α) (λY=>d) (λa Y ih n=>Nat.rec a (λm Y=>ih m) n) l
theorem AH {α:Type}(d:α):∀(l:List α) (n:Nat),qI d l n=l.getD n d
 | [],n=>rfl
 |a::l,0=>rfl
 |a::l,n+1=>by
  show qI d l n=_;refine aa (AH d l _) ?_;rfl
def rJ (S j:Nat):Bool:=jaQ (S/2^j%2) 1
theorem Ca (S j:Nat):rJ S j=fj S j:=py _ _
def qH (nl:List Nat)(S:Nat):Nat:=jbW 0 (λj Y ih=>gm ih (2^j+ih) (rJ S j)) nl
theorem GQ (S:Nat):∀nl:List Nat,qH nl S=ie nl S
 | []=>rfl
 |j::nl=>by
  show gm (qH nl S) (2^j+qH nl S) (rJ S j)=_;refine aa (GQ S nl) ?_;refine aa (Ca _ _) ?_;unfold ie;refine aa jco ?_
  induction fj S j using ZC with
  |true=>rfl
  |false=>rfl
def oN {β:Type}(ac:List (List Nat))(TR:List Dk)(S:Nat)(i:Nat)(acc:Dk)(k:Dk->β):β :=
 jbW (motive:=λY=>Nat->Dk->β) (λY acc=>sy acc k)
  (λnl Y ih i acc=>gm (ih (i+1) acc) (dX (S-2^i) λS'=>dX (32^i*qH nl S') λsh=>rE sh (oM 1 0 (S'%2^i)) (qI [] TR (S-1-S')) acc λacc=>ih (i+1) acc) (rJ S i)) ac i acc
theorem Hy {β:Type}(hT:T.length=S)(k:Dk->β):∀(az pre:List (List Nat)) (acc:Dk),(∀i,fj S i=true->2^i<=S/\0<S) ->
 oN az T.reverse S pre.length acc k=k ((ZP pre.length az.length).foldl (dj (pre++az) T S) acc)
 | [],pre,acc,_=>by
  show sy acc k=_;refine aa (yN _ _) ?_;rfl
 |nl::az,pre,acc,hb=>by
  have ih:=λacc=>Hy hT k az (pre++[nl]) acc hb;have hl:(pre++[nl]).length=pre.length+1:=by refine aa Y8 ?_;rfl
  rw[hl]at ih;have lY:pre++[nl]++az=pre++nl::az:=by rw[jav];rfl
  rw[lY]at ih;refine aa Zl ?_;refine aa jcY ?_;refine aa jcA ?_;have qr:(pre++nl::az).getD pre.length []=nl:=by
   refine aa Y5 ?_;refine aa (Zd (Y2 _)) ?_;refine aa (jaw _) ?_;rfl
  show gm (oN az T.reverse S (pre.length+1) acc k) (dX (S-2^pre.length) λS'=>dX (32^pre.length*qH nl S') λsh=>rE sh (oM 1 0 (S'%2^pre.length)) (qI [] T.reverse (S-1-S')) acc λacc=>oN az T.reverse S (pre.length+1) acc k) (rJ S pre.length)=_;refine aa (Ca _ _) ?_;unfold dj;refine aa qr ?_
  induction zb:fj S pre.length using ZC with
  |false =>
   show oN az T.reverse S (pre.length+1) acc k=_;refine aa (ih _) ?_;rfl
  |true =>
   show(dX (S-2^pre.length) λS'=>dX (32^pre.length*qH nl S') λsh=>rE sh (oM 1 0 (S'%2^pre.length)) (qI [] T.reverse (S-1-S')) acc λacc=>oN az T.reverse S (pre.length+1) acc k)=_;refine bN (hb pre.length zb) λh1 h2=>?_;have hp:=jcI (n:=pre.length) (show 0<2 by decide);refine aa (kf _ _) ?_;refine aa (kf _ _) ?_;rewrite [BW];refine aa (ih _) ?_;refine aa (GQ _ _) ?_;rw[AH];have e1:T.reverse.getD (S-1-(S-2^pre.length)) []=T.getD (S-2^pre.length) []:=by
    refine aa Y5 ?_;refine aa (jez (by omega)) ?_;refine aa Y5 ?_
    congr 2
    lia
   have e2:(oM 1 0 ((S-2^pre.length)%2^pre.length):Nat)=lm (S-2^pre.length) pre.length:=by
    unfold lm
    induction(S-2^pre.length)%2^pre.length using jas with
    |zero=>rfl
    |succ m=>rfl
   refine aa e1 ?_;refine aa e2 ?_;rfl
def Bj {β:Type}(ac:List (List Nat))(n:Nat):(List Dk->β)->β:=Nat.rec (motive:=λY=>(List Dk->β)->β) (λk=>k [[(0,0)]]) (λs ih k=>ih λTR=>dX (s+1) λS=>oN ac TR S 0 [] λr=>k (r::TR)) n
theorem JR (h:fj S i=true):2^i<=S/\0<S:=by
 unfold fj at h;have h:=of_decide_eq_true h;have hp:=jcI (n:=i) (show 0<2 by decide);have:2^i<=S:=by
  rcases jbT S (2^i)with aZ|m4
  ·rw[jem aZ]at h;cases h
  ·exact m4
 lia
theorem H2 {β:Type}(ac:List (List Nat)):∀(n:Nat) (k:List Dk->β),Bj ac n k=k (bL ac n).reverse
 |0,k=>rfl
 |s+1,k=>by
  show Bj ac s (λTR=>dX (s+1) λS=>oN ac TR S 0 [] λr=>k (r::TR))=_;refine aa (H2 ac s _) ?_;refine aa (kf _ _) ?_;have:=Hy (T:=bL ac s) (S:=s+1) (ny ac s) (λr=>k (r::(bL ac s).reverse)) ac [] [] (λi hi=>JR hi);rw[jbj,jaS]at this;refine aa this ?_
  conv=>rhs;rw[oQ]
  refine aa jhx ?_;refine rwj jdl ?_;rfl
def lL (h:Nat):List (List Nat)->Nat->List Nat->Nat
 | [],_,_=>1
 |nl::az,i,c=>((Y4 h).map λl=>if ga nl i c l then lL h az (i+1) (c++[l])else 0).sum
theorem KZ:lL h [] y x=1:=rfl
theorem Ct:lL h (nl::az) y x =
 List.sum (jfp (λl=>if ga nl y x l=true then lL h az (y+1) (x++[l])else 0) (Y4 h)):=rfl
theorem HY {α β:Type}(f:β->Nat)(g:α->List β):∀l:List α,((l.flatMap g).map f).sum=(l.map λa=>((g a).map f).sum).sum
 | []=>rfl
 |a::l=>by
  refine aa jam ?_;refine aa ZO ?_;refine aa jiH ?_;refine aa (HY f g l) ?_;refine aa Zy ?_;refine aa jah ?_;rfl
theorem HX {α:Type}(p:α->Bool)(f:α->Nat):∀l:List α,((l.filter p).map f).sum=(l.map λa=>if p a then f a else 0).sum
 | []=>rfl
 |a::l=>by
  refine aa jco ?_;refine aa Zy ?_;refine aa jah ?_;refine rwj (HX p f l) ?_
  induction p a using ZC with
  |true=>rfl
  |false=>simp
theorem Ha (h:Nat):∀(az pre:List (List Nat)),((ci h (pre++az) pre.length).map (lL h az pre.length)).sum=(ci h (pre++az) (pre.length+az.length)).length
 | [],pre=>by
  have:∀l:List (List Nat),(l.map (lL h [] pre.length)).sum=l.length:=λl=>by
   induction l with
   |nil=>rfl
   |cons a l ih=>refine aa Zy ?_;refine aa jah ?_;refine aa ih ?_;refine aa Zl ?_;rw[KZ];exact jfb (jbI l.length 1)
  exact this _
 |nl::az,pre=>by
  have ih:=Ha h az (pre++[nl]);have hl:(pre++[nl]).length=pre.length+1:=by refine aa Y8 ?_;rfl
  have lY:pre++[nl]++az=pre++nl::az:=by rw[jav];rfl
  rw[hl,lY]at ih;refine aa Zl ?_;refine aa (show pre.length+(az.length+1)=pre.length+1+az.length from jfb (jdN pre.length 1 az.length)) ?_;refine rwj ih ?_
  conv=>rhs;rw[qJ]
  rw[HY]
  congr 1
  refine jdu λc Y=>?_;have qr:(pre++nl::az).getD pre.length []=nl:=by
   refine aa Y5 ?_;refine aa (Zd (Y2 _)) ?_;refine aa (jaw _) ?_;rfl
  refine aa qr ?_;refine aa ZF ?_;rw[HX]
  conv=>lhs;rw[Ct]
  rfl
def j4 (ms:List Nat):Nat->Nat->Nat->Nat->Nat:=jbW (motive:=λY=>Nat->Nat->Nat->Nat->Nat) (λY Y Y Y=>1)
 (λm Y ih b x y z=>Nat.add (gm 0 (ih (2*b) (jcU x b) y z) (jaQ (jdL m x) 0)) (Nat.add (gm 0 (ih (2*b) x (jcU y b) z) (jaQ (jdL m y) 0)) (gm 0 (ih (2*b) x y (jcU z b)) (jaQ (jdL m z) 0)))) ms
def fy (nl:List Nat):Nat:=jbW 32 (λj Y ih=>jcU (2^j) ih) nl
theorem wc (i:Nat):∀nl:List Nat,(fy nl).testBit i=(decide (i∈nl)||decide (i=5))
 | []=>by
  show(2^5:Nat).testBit i=_;rw[jbo];have:decide (i∈([]:List Nat))=false:=by simp
  rw[this,jiZ];exact decide_eq_decide.mpr ⟨λh=>h.symm,λh=>h.symm⟩
 |j::nl=>by
  show(2^j ||| fy nl).testBit i=_;rw[jgz,wc i nl,jbo,<-Bool.or_assoc]
  congr 1
  rw[jaH,jbl,decide_eq_true_iff,decide_eq_true_iff,decide_eq_true_iff,ZM];exact⟨λh=>h.elim (λh=>jcn h.symm) jfn,λh=>h.elim (λh=>jcn h.symm) jfn⟩
def fV (h:Nat)(c:List Nat)(l x:Nat):Prop:=if l<h then∀j,x.testBit j=(decide (j<c.length)&&decide (c.getD j 0=l))else∀j,5<=j->x.testBit j=decide (j=5)
theorem Ai (hx:fV h c l x)(hc:c.length<=5)(jK:∀j∈nl,j<5):jaQ (jdL (fy nl) x) 0=(decide (l<h)&&ga nl c.length c l):=by
 unfold fV at hx;rw[py,jaH,decide_eq_true_iff,Zs,decide_eq_true_iff];by_cases hl:l<h
 ·rw[if_pos hl]at hx;unfold ga;rw[Y3];constructor
  ·intro h0;refine⟨hl,λj hj=>?_⟩;have:(fy nl &&& x).testBit j=false:=by
    show(jdL (fy nl) x).testBit j=false;rw[h0];exact jdk j
   rw[jew,wc,hx j,decide_eq_true hj,Bool.true_or,jcw]at this;rw[this];rfl
  ·rintro⟨_,h0⟩;refine jeQ λj=>?_;rw[jdk];show(fy nl &&& x).testBit j=false;rw[jew,wc,hx j];by_cases hj:j∈nl
   ·have:=h0 j hj;rw[jbF]at this;rw[this,jgo]
   ·by_cases h5:j<c.length
    ·rw[decide_eq_false hj,decide_eq_false (by lia)];rfl
    ·rw[decide_eq_false h5,jgn,jgo]
 ·rw[if_neg hl]at hx;constructor
  ·intro h0;exfalso;have:(fy nl &&& x).testBit 5=false:=by
    show(jdL (fy nl) x).testBit 5=false;rw[h0];exact jdk 5
   rw[jew,wc,hx 5 (jbB)]at this;simp at this
  ·rintro⟨h0,_⟩;exact absurd h0 hl
theorem l9 (hx:fV h c l x)(hc:c.length<5)(hZ:l'<h):fV h (c++[l']) l (if l=l' then jcU x (2^c.length)else x):=by
 unfold fV at *;by_cases hl:l<h
 ·rw[if_pos hl]at hx ⊢;intro j;have hg:(c++[l']).getD j 0=if j=c.length then l' else c.getD j 0:=by
   refine aa Y5 ?_;refine aa Y5 ?_;by_cases hj:j<c.length
   ·refine aa (Zq hj) ?_;refine aa (if_neg (by lia)) ?_;rfl
   ·refine aa (Zd (wL hj)) ?_;by_cases e:j=c.length
    ·refine aa (if_pos e) ?_;refine aa e ?_;refine aa (jaw _) ?_;rfl
    ·refine aa (if_neg e) ?_;refine aa (jcb (by simp;lia)) ?_;refine aa (jcb (wL hj)) ?_;rfl
  refine aa hg ?_;refine aa Y8 ?_;refine aa jba ?_;by_cases e:l=l'
  ·refine aa (if_pos e) ?_;show(x ||| 2^c.length).testBit j=_;rewrite [jgz];refine aa jbo ?_;refine aa (hx j) ?_;by_cases hj:j=c.length
   ·subst hj;refine aa (if_pos rfl) ?_;refine aa (decide_eq_true e.symm) ?_;simp
   ·have h9:decide (c.length=j)=false:=decide_eq_false (λh=>hj h.symm);refine aa (if_neg hj) ?_;refine aa h9 ?_;refine aa (Bool.or_false _) ?_
    congr 1
    exact decide_eq_decide.mpr (by lia)
  ·refine aa (if_neg e) ?_;refine aa (hx j) ?_;by_cases hj:j=c.length
   ·subst hj;have h9:decide (l'=l)=false:=decide_eq_false (λh=>e h.symm);refine aa (if_pos rfl) ?_;refine aa (decide_eq_false (Zo _)) ?_;refine aa h9 ?_;refine aa (jgn _) ?_;refine aa (jgo _) ?_;rfl
   ·refine aa (if_neg hj) ?_
    congr 1
    exact decide_eq_decide.mpr (by lia)
 ·rw[if_neg hl]at hx ⊢;have e:l≠l':=by lia
  refine aa (if_neg e) ?_;exact hx
theorem Cu (h1:1<=h)(h3:h<=3):∀(az:List (List Nat)) (c:List Nat) (x y z:Nat),c.length+az.length<=5->(∀nl∈az,∀j∈nl,j<5)->fV h c 0 x->fV h c 1 y->fV h c 2 z ->
 j4 (az.map fy) (2^c.length) x y z=lL h az c.length c
 | [],c,x,y,z,_,_,_,_,_=>rfl
 |nl::az,c,x,y,z,aO,hn,hx,hy,hz=>by
  rw[Zl]at aO;have hc:c.length<5:=qZ aO;have jK:=hn nl (by simp);have ih:∀l' x' y' z',fV h (c++[l']) 0 x'->fV h (c++[l']) 1 y'->fV h (c++[l']) 2 z'->j4 (az.map fy) (2*2^c.length) x' y' z'=lL h az (c.length+1) (c++[l']):=λl' x' y' z' a1 a2 a3=>by
   have:=Cu h1 h3 az (c++[l']) x' y' z' (by refine aa Y8 ?_;refine aa jba ?_;exact ua aO) (λTu hm=>hn Tu (by simp[hm])) a1 a2 a3;rw[Y8,jba,jcR,jaI]at this;exact this
  show gm 0 (j4 (az.map fy) (2*2^c.length) (jcU x (2^c.length)) y z) (jaQ (jdL (fy nl) x) 0)+(gm 0 (j4 (az.map fy) (2*2^c.length) x (jcU y (2^c.length)) z) (jaQ (jdL (fy nl) y) 0)+gm 0 (j4 (az.map fy) (2*2^c.length) x y (jcU z (2^c.length))) (jaQ (jdL (fy nl) z) 0))=_;refine aa (Ai hx (ZI hc) jK) ?_;refine aa (Ai hy (ZI hc) jK) ?_;refine aa (Ai hz (ZI hc) jK) ?_;have Bk:∀l x' y' z',(l<h->fV h (c++[l]) 0 x'/\fV h (c++[l]) 1 y'/\fV h (c++[l]) 2 z')->gm 0 (j4 (az.map fy) (2*2^c.length) x' y' z') (decide (l<h)&&ga nl c.length c l)=if l<h then(if ga nl c.length c l then lL h az (c.length+1) (c++[l])else 0)else 0:=λl x' y' z' hm=>by
   by_cases hl:l<h
   ·refine fY (hm hl) λa1 a2 a3=>?_;refine aa (decide_eq_true hl) ?_;refine aa (if_pos hl) ?_;refine aa (jcw _) ?_;refine aa (ih l x' y' z' a1 a2 a3) ?_;cases ga nl c.length c l<;>rfl
   ·refine aa (decide_eq_false hl) ?_;refine aa (if_neg hl) ?_;rfl
  refine aa (Bk 0 (jcU x (2^c.length)) y z (λhl=>cz (l9 hx hc hl) (l9 hy hc hl) (l9 hz hc hl))) ?_;refine aa (Bk 1 x (jcU y (2^c.length)) z (λhl=>cz (l9 hx hc hl) (l9 hy hc hl) (l9 hz hc hl))) ?_;refine aa (Bk 2 x y (jcU z (2^c.length)) (λhl=>cz (l9 hx hc hl) (l9 hy hc hl) (l9 hz hc hl))) ?_
  conv=>rhs;rw[Ct]
  have:h=1\/h=2\/h=3:=by lia
  rcases this with rfl|rfl|rfl
  ·simp[jaF]
  ·simp[jaF]
  ·simp[jaF]
theorem AK (h1:1<=h)(h3:h<=3)(hn:ac.length<=5)(hj:∀nl∈ac,∀j∈nl,j<5):
 j4 (ac.map fy) 1 0 (if 1<h then 0 else 32) (if 2<h then 0 else 32)=(ci h ac ac.length).length:=by
 have m0:∀l,l<h->fV h [] l 0:=λl hl=>by
  unfold fV;refine aa (if_pos hl) ?_;intro j;refine aa (jdk _) ?_;rfl
 have m1:∀l,¬l<h->fV h [] l 32:=λl hl=>by
  unfold fV;refine aa (if_neg hl) ?_;intro j _;show(2^5:Nat).testBit j=_;refine aa jbo ?_;exact decide_eq_decide.mpr ⟨λh=>h.symm,λh=>h.symm⟩
 have:=Cu h1 h3 ac [] 0 (if 1<h then 0 else 32) (if 2<h then 0 else 32) (by simpa using hn) hj (m0 0 (h1)) (by split;exact m0 1 (by omega);exact m1 1 (by omega)) (by split;exact m0 2 (by omega);exact m1 2 (by omega));have p:=Ha h ac [];rw[jaS,jbj,jer]at p;refine rwj p ?_;show j4 (ac.map fy) (2^0) 0 _ _=_;rw[jbj]at this;refine aa this ?_;rfl
def tn {α:Type}(l:List α):Nat:=jbW 0 (λY Y ih=>jbY ih) l
theorem Aj {α:Type}:∀l:List α,tn l=l.length
 | []=>rfl
 |a::l=>by
  show jbY (tn l)=_;refine aa (Aj l) ?_;rfl
def kO {α:Type}(p:α->Bool)(l:List α):Nat:=jbW 0 (λa Y ih=>gm ih (jbY ih) (p a)) l
theorem xJ {α:Type}(p:α->Bool):∀l:List α,kO p l=l.countP p
 | []=>rfl
 |a::l=>by
  show gm (kO p l) (jbY (kO p l)) (p a)=_;refine aa (xJ p l) ?_;refine aa jej ?_;cases p a<;>rfl
def lC (l:List Nat)(k:Nat):Nat:=jbW 0 (λi Y ih=>gm ih (jcU (2^i) ih) (jaQ (k/32^i%32) 0)) l
theorem wM (k j:Nat):∀l:List Nat,(lC l k).testBit j=decide (j∈l.filter λi=>decide (k/32^i%32=0))
 | []=>by
  show(0:Nat).testBit j=_;rw[jdk];simp
 |i::l=>by
  show(gm (lC l k) (jcU (2^i) (lC l k)) (jaQ (k/32^i%32) 0)).testBit j=_;rw[py,jco]
  induction decide (k/32^i%32=0)using ZC with
  |false=>exact wM k j l
  |true =>
   show(2^i ||| lC l k).testBit j=decide (j∈i::_);rw[jgz,wM k j l,jbo,jaH,jbl,decide_eq_true_iff,decide_eq_true_iff,decide_eq_true_iff,ZM];exact⟨λh=>h.elim (λh=>jcn h.symm) jfn,λh=>h.elim (λh=>jcn h.symm) jfn⟩
theorem TA (hd:l.Nodup)(h:∀x,x∈l↔x=c):l=[c]:=by
 match l,hd,h with
 | [],_,h=>exact absurd ((h c).mpr rfl) (by simp)
 | [a],_,h=>refine aa ((h a).mp (by simp)) ?_;rfl
 |a::b::l,hd,h =>
  have h1:=(h a).mp (by simp);have h2:=(h b).mp (by simp);rw[jaG]at hd;exact absurd (by refine aa h1 ?_;refine aa h2 ?_;simp:a∈b::l) hd.1
theorem XT (n k c:Nat):jaQ (lC (Y4 n) k) (2^c)=decide ((Y4 n).filter (λi=>decide (k/32^i%32=0))=[c]):=by
 rw[py];refine decide_eq_decide.mpr ⟨λh=>TA (jil.filter _) λx=>?_,λh=>jeQ λj=>?_⟩
 ·have:=wM k x (Y4 n);rw[h,jbo]at this;rw[decide_eq_decide]at this;exact⟨λhx=>(this.mpr hx).symm,λhx=>this.mp hx.symm⟩
 ·rw[wM,h,jbo];exact decide_eq_decide.mpr (by rw[Zn];exact⟨λh=>h.symm,λh=>h.symm⟩)
def BC {β:Type}(rg:List Nat)(d:Dk):(List Nat->β)->β:=jbW (motive:=λY=>(List Nat->β)->β) (λk=>k []) (λe Y ih k=>dX (lC rg e.1) λz=>ih λt=>k (z::t)) d
theorem IM {β:Type}(rg:List Nat):∀(d:Dk) (k:List Nat->β),BC rg d k=k (d.map λe=>lC rg e.1)
 | [],k=>rfl
 |e::d,k=>by
  show dX (lC rg e.1) (λz=>BC rg d λt=>k (z::t))=_;rw[kf,IM rg d];rfl
def dK (ac:List (List Nat)):Bool :=
 yL ac λac=>dX ac.length λn=>dX (2^n-1) λF=>mT (Y4 n) λrg =>
 Bj ac F λTR=>sy (qI [] TR 0) λD=>BC rg D λzs =>
 mT (kO (λz=>jaQ z (2^0)) zs::(ZP 2 (n-1)).map λk=>kO (λe=>jaQ e.2 k) D) λds =>
 mT (TR.map tn) λls=>dX ((List.zipWith (·*·) ls ls.reverse).sum) λde=>mT (ac.map fy) λms =>
 rg.all (λc=>jaQ (kO (λz=>jaQ z (2^c)) zs) (kO (λz=>jaQ z (2^0)) zs))&&jaQ ds.sum (tn D)&&jaQ (ds.getD (n-1) 0) 1 &&
 jaQ (hN 2 ds) de&&jgk 1 de&&jgk de 999&&decide (hI (1:Nat) ds=tJ n (j4 ms 1 0 32 32:Nat))&&decide (hI (2:Nat) ds=tJ n (j4 ms 1 0 0 32:Nat))&&decide (hI (3:Nat) ds=tJ n (j4 ms 1 0 0 0:Nat))
theorem Lu (f:Nat->Nat)(N:Nat):(List.zipWith (·*·) ((Y4 N).map f).reverse ((Y4 N).map f).reverse.reverse)=(Y4 N).map λS=>f S*f (N-1-S):=by
 rw[List.reverse_reverse];refine jei (by simp) λi h1 h2=>?_;simp only[YX,jab]at h2;rw[List.getElem_zipWith,List.getElem_reverse,jbK,jbK,jbK,jdE,jdE,jaI];simp
theorem KN (h0:1<=ac.length)(hn:ac.length<=5)(hj:∀nl∈ac,∀j∈nl,j<5)(h:dK ac=true):o4 ac:=by
 unfold dK at h;simp only[D9,kf,yM,yN,H2,IM,AH]at h;have hp:=jcI (n:=ac.length) (show 0<2 by decide);have aO:=ny ac (2^ac.length-1);have eD:(bL ac (2^ac.length-1)).reverse.getD 0 []=tab ac (2^ac.length-1):=by
  unfold tab;refine aa Y5 ?_;refine aa (jez (by simp[*])) ?_;refine aa Y5 ?_
  congr 2
  simp[*]
 rw[eD]at h;have eA:∀c,kO (λz=>jaQ z (2^c)) ((tab ac (2^ac.length-1)).map λe=>lC (Y4 ac.length) e.1)=mA (tab ac (2^ac.length-1)) ac.length c:=λc=>by
  refine aa (xJ _ _) ?_;refine aa jfP ?_;unfold mA
  congr 1
  funext e;exact XT _ _ _
 have LZ:(kO (λz=>jaQ z (2^0)) ((tab ac (2^ac.length-1)).map λe=>lC (Y4 ac.length) e.1)::(ZP 2 (ac.length-1)).map λk=>kO (λe=>jaQ e.2 k) (tab ac (2^ac.length-1)))=dT (tab ac (2^ac.length-1)) ac.length:=by
  refine aa (eA 0) ?_;unfold dT
  congr 1
  refine jdu λk Y=>?_;refine aa (xJ _ _) ?_
  congr 1
  funext e;exact py _ _
 rw[LZ]at h;simp only[eA]at h;have eL:(bL ac (2^ac.length-1)).reverse.map tn=((Y4 (2^ac.length)).map λS=>(tab ac S).length).reverse:=by
  refine aa jfE ?_
  congr 1
  refine jei (by refine aa (YX _) ?_;refine aa (YX _) ?_;refine aa jab ?_;lia) λi h1 h2=>?_;rw[YX]at h1;refine aa (jbK _) ?_;refine aa (jbK _) ?_;refine aa (jdE _) ?_;refine aa (Aj _) ?_;have e1:=tS ac (k:=i) (2^ac.length-1) (by lia);rw[Y5,Y' h1]at e1;unfold tab;refine rwj e1 ?_;rfl
 rw[eL,Lu (λS=>(tab ac S).length) (2^ac.length)]at h;have LY:((Y4 (2^ac.length)).map λS=>(tab ac S).length*(tab ac (2^ac.length-1-S)).length).sum=i6 ac:=rfl;rw[LY,Aj]at h;simp only[Zs]at h;refine bN h λz1 c9=>?_;obtain⟨⟨⟨⟨⟨⟨⟨c1,c2⟩,c3⟩,c4⟩,c5⟩,c6⟩,c7⟩,c8⟩:=z1;have p1:=AK (h:=1) (by decide) (by decide) hn hj;have p2:=AK (h:=2) (by decide) (by decide) hn hj;have p3:=AK (h:=3) (by decide) (by decide) hn hj;refine⟨λc hc=>?_,jch c2,jch c3,jch c4,jbb c5,jfv (jbb c6),?_⟩
 ·exact jch (Y3.mp c1 c (ZH.mpr hc))
 ·rintro h (rfl|rfl|rfl)
  ·refine rwj p1 ?_;exact of_decide_eq_true c7
  ·refine rwj p2 ?_;exact of_decide_eq_true c8
  ·refine rwj p3 ?_;exact of_decide_eq_true c9
def ej:Nat->List (List Nat)
 |0=>[[]]
 |n+1=>(ej n).flatMap λs=>[s,s++[n]]
theorem VY:ej (n+1)=jgW (λs=>[s,s++[n]]) (ej n):=rfl
def eB (n:Nat)(g:List (List Nat))(S:List Nat):List (List Nat):=((Y4 n).map λi=>if S.contains i then g.getD i []++[n]else g.getD i [])++[S]
def df:Nat->List (List (List Nat))
 |0=>[[]]
 |n+1=>(df n).flatMap λg=>(ej n).map λS=>eB n g S
theorem Jd:df (n+1)=jgW (λg=>jfp (λS=>eB n g S) (ej n)) (df n):=rfl
def gY (ee:Nat->Nat->Bool)(n:Nat):List (List Nat):=(Y4 n).map λi=>(Y4 n).filter (ee i)
theorem Be (p:Nat->Bool):∀n,(Y4 n).filter p∈ej n
 |0=>Zn.mpr rfl
 |n+1=>by
  rw[VY,jcZ];refine⟨_,Be p n,?_⟩;rw[jaF,jdF];cases h:p n<;>simp[h]
theorem Cm {ee:Nat->Nat->Bool}(hs:∀i j,ee i j=ee j i)(hi:∀i,ee i i=false)(n:Nat):gY ee (n+1)=eB n (gY ee n) ((Y4 n).filter (ee n)):=by
 unfold gY eB;rw[jaF,ZO]
 congr 1
 ·refine jdu λi E4=>?_;have eQ:=ZH.mp E4;have hg:((Y4 n).map λi=>(Y4 n).filter (ee i)).getD i []=(Y4 n).filter (ee i):=by
   rw[Y5,ZK,jdv eQ];rfl
  rw[hg,jdF];have hc:((Y4 n).filter (ee n)).contains i=ee i n:=by
   rw[jaH,jeA,jdp,hs n i];exact⟨λh=>h.2,λh=>⟨E4,h⟩⟩
  rw[hc];cases h:ee i n<;>simp[h]
 ·show[((Y4 n)++[n]).filter (ee n)]=_;rw[jdF];simp[hi n]
theorem pj {ee:Nat->Nat->Bool}(hs:∀i j,ee i j=ee j i)(hi:∀i,ee i i=false):∀n,gY ee n∈df n
 |0=>Zn.mpr rfl
 |n+1=>by
  rw[Cm hs hi];rw[Jd,jcZ];exact⟨_,pj hs hi n,Zk.mpr ⟨_,Be _ n,rfl⟩⟩
theorem g1:(df 1).all (λg=>dK g)=true:=by decide +kernel
theorem g2:(df 2).all (λg=>dK g)=true:=by decide +kernel
theorem g3:(df 3).all (λg=>dK g)=true:=by decide +kernel
theorem g4:(df 4).all (λg=>dK g)=true:=by decide +kernel
theorem h0:(((df 4).drop (4*0)).take 4).all (λg=>(ej 4).all λS=>dK (eB 4 g S))=true:=by decide +kernel
theorem h1:(((df 4).drop (4*1)).take 4).all (λg=>(ej 4).all λS=>dK (eB 4 g S))=true:=by decide +kernel
theorem h2:(((df 4).drop (4*2)).take 4).all (λg=>(ej 4).all λS=>dK (eB 4 g S))=true:=by decide +kernel
theorem h3:(((df 4).drop (4*3)).take 4).all (λg=>(ej 4).all λS=>dK (eB 4 g S))=true:=by decide +kernel
theorem h4:(((df 4).drop (4*4)).take 4).all (λg=>(ej 4).all λS=>dK (eB 4 g S))=true:=by decide +kernel
theorem h5:(((df 4).drop (4*5)).take 4).all (λg=>(ej 4).all λS=>dK (eB 4 g S))=true:=by decide +kernel
theorem h6:(((df 4).drop (4*6)).take 4).all (λg=>(ej 4).all λS=>dK (eB 4 g S))=true:=by decide +kernel
theorem h7:(((df 4).drop (4*7)).take 4).all (λg=>(ej 4).all λS=>dK (eB 4 g S))=true:=by decide +kernel
theorem h8:(((df 4).drop (4*8)).take 4).all (λg=>(ej 4).all λS=>dK (eB 4 g S))=true:=by decide +kernel
theorem h9:(((df 4).drop (4*9)).take 4).all (λg=>(ej 4).all λS=>dK (eB 4 g S))=true:=by decide +kernel
theorem lT:(((df 4).drop (4*10)).take 4).all (λg=>(ej 4).all λS=>dK (eB 4 g S))=true:=by decide +kernel
theorem kY:(((df 4).drop (4*11)).take 4).all (λg=>(ej 4).all λS=>dK (eB 4 g S))=true:=by decide +kernel
theorem sF:(((df 4).drop (4*12)).take 4).all (λg=>(ej 4).all λS=>dK (eB 4 g S))=true:=by decide +kernel
theorem sG:(((df 4).drop (4*13)).take 4).all (λg=>(ej 4).all λS=>dK (eB 4 g S))=true:=by decide +kernel
theorem kZ:(((df 4).drop (4*14)).take 4).all (λg=>(ej 4).all λS=>dK (eB 4 g S))=true:=by decide +kernel
theorem OY:(((df 4).drop (4*15)).take 4).all (λg=>(ej 4).all λS=>dK (eB 4 g S))=true:=by decide +kernel
theorem uw:(df 4).length=64:=by decide +kernel
theorem g5 {g:List (List Nat)}(hg:g∈df 4){S:List Nat}(hS:S∈ej 4):dK (eB 4 g S)=true:=by
 obtain⟨i,hi,rfl⟩:=jhy hg;rw[uw]at hi;have go:∀k,(((df 4).drop (4*k)).take 4).all (λg=>(ej 4).all λS=>dK (eB 4 g S))=true->i/4=k->dK (eB 4 ((df 4)[i]'(by rw[uw];exact hi)) S)=true:=λk h e=>by
  have hm:(df 4)[i]'(by rw[uw];exact hi)∈((df 4).drop (4*k)).take 4:=by
   rw[jdm];refine⟨i-4*k,by rw[jbu,jbv,uw];lia,?_⟩;rw[List.getElem_take,jhZ]
   congr 1
   lia
  exact Y3.mp (Y3.mp h _ hm) S hS
 have:i/4<16:=by lia
 have:i/4=0\/i/4=1\/i/4=2\/i/4=3\/i/4=4\/i/4=5\/i/4=6\/i/4=7\/i/4=8\/i/4=9\/i/4=10\/i/4=11\/i/4=12\/i/4=13\/i/4=14\/i/4=15:=by lia
 rcases this with e|e|e|e|e|e|e|e|e|e|e|e|e|e|e|e
 ·exact go 0 h0 e
 ·exact go 1 h1 e
 ·exact go 2 h2 e
 ·exact go 3 h3 e
 ·exact go 4 h4 e
 ·exact go 5 h5 e
 ·exact go 6 h6 e
 ·exact go 7 h7 e
 ·exact go 8 h8 e
 ·exact go 9 h9 e
 ·exact go 10 lT e
 ·exact go 11 kY e
 ·exact go 12 sF e
 ·exact go 13 sG e
 ·exact go 14 kZ e
 ·exact go 15 OY e
theorem KI {ee:Nat->Nat->Bool}(hs:∀i j,ee i j=ee j i)(hi:∀i,ee i i=false){n:Nat}(h1:1<=n)(h5:n<=5):dK (gY ee n)=true:=by
 have:n=1\/n=2\/n=3\/n=4\/n=5:=by lia
 rcases this with rfl|rfl|rfl|rfl|rfl
 ·exact Y3.mp g1 _ (pj hs hi 1)
 ·exact Y3.mp g2 _ (pj hs hi 2)
 ·exact Y3.mp g3 _ (pj hs hi 3)
 ·exact Y3.mp g4 _ (pj hs hi 4)
 ·rw[Cm hs hi];exact g5 (pj hs hi 4) (Be _ 4)
def jz (ac:List (List Nat))(i j:Nat):Bool:=decide (j∈ac.getD i [])
theorem KJ {ac:List (List Nat)}(g:iw ac)(i:Nat)(hi:i<ac.length):(ac.getD i []).Perm ((gY (jz ac) ac.length).getD i []):=by
 have e:(gY (jz ac) ac.length).getD i []=(Y4 ac.length).filter (jz ac i):=by
  unfold gY;rw[Y5,ZK,jdv hi];rfl
 rw[e,List.perm_ext_iff_of_nodup (g.nd i) (jil.filter _)];intro j;rw[jdp,ZH];unfold jz;rw[decide_eq_true_iff];exact⟨λh=>⟨(g.sym i j h).1,h⟩,λh=>h.2⟩
theorem Uq {l l':List Nat}(h:l.Perm l'):l.sum=l'.sum:=by
 induction h with
 |nil=>rfl
 |cons x _ ih=>rw[jah,jah,ih]
 |swap x y l=>rw[jah,jah,jah,jah];lia
 |trans _ _ ih1 ih2=>rw[ih1,ih2]
theorem Tn {l l':List Nat}(h:l.Perm l')(S:Nat):ie l S=ie l' S:=by
 unfold ie;exact Uq ((h.filter _).map _)
theorem TH {l l':List Nat}(h:l.Perm l')(i:Nat)(c:List Nat)(m:Nat):ga l i c m=ga l' i c m:=by
 unfold ga;rw[jaH,Y3,Y3];exact⟨λhh j hj=>hh j (h.mem_iff.mpr hj),λhh j hj=>hh j (h.mem_iff.mp hj)⟩
theorem U5 {ac near':List (List Nat)}(hl:ac.length=near'.length)(h:∀i,i<ac.length->(ac.getD i []).Perm (near'.getD i []))(T:List Dk)(S:Nat):mf ac T S=mf near' T S:=by
 unfold mf;rw[<-hl];have:∀(l:List Nat) (acc:Dk),(∀i∈l,i<ac.length)->l.foldl (dj ac T S) acc=l.foldl (dj near' T S) acc:=λl=>by
  induction l with
  |nil=>intro acc _;rfl
  |cons i l ih =>
   intro acc hi;rw[jcA,jcA];have e:dj ac T S acc i=dj near' T S acc i:=by
    unfold dj;rw[Tn (h i (hi i (by simp)))]
   rw[e];exact ih _ (λj hj=>hi j (by simp[hj]))
 exact this _ _ (λi hi=>ZH.mp hi)
theorem H4 {ac near':List (List Nat)}(hl:ac.length=near'.length)(h:∀i,i<ac.length->(ac.getD i []).Perm (near'.getD i [])):∀s,bL ac s=bL near' s
 |0=>rfl
 |s+1=>by
  rw[oQ,oQ,H4 hl h s,U5 hl h]
theorem Hc {ac near':List (List Nat)}(k:Nat)(h:∀i,i<ac.length->(ac.getD i []).Perm (near'.getD i [])):∀i,i<=ac.length->ci k ac i=ci k near' i
 |0,_=>rfl
 |i+1,hi=>by
  rw[qJ,qJ,Hc k h i (ZI hi)]
  congr 1
  funext c
  congr 1
  congr 1
  funext l;exact TH (h i (hi)) _ _ _
theorem OS {ac:List (List Nat)}(g:iw ac):o4 ac:=by
 have hs:∀i j,jz ac i j=jz ac j i:=λi j=>decide_eq_decide.mpr ⟨λh=>(g.sym i j h).2.2,λh=>(g.sym j i h).2.2⟩;have hi:∀i,jz ac i i=false:=λi=>decide_eq_false λh=>(g.sym i i h).2.1 rfl;have hc:=KI hs hi g.pos g.le;have hl:(gY (jz ac) ac.length).length=ac.length:=by unfold gY;rw[YX,jab]
 have f:=KN (ac:=gY (jz ac) ac.length) (by rw[hl];exact g.pos) (by rw[hl];exact g.le) (λnl jK j hj=>by
  unfold gY at jK;refine au (Zk.mp jK) ?_;rintro i _ rfl;have:=ZH.mp (jdp.mp hj).1;have:=g.le
  lia) hc
 have hp:=KJ g;have ht:∀S,tab ac S=tab (gY (jz ac) ac.length) S:=λS=>by
  unfold tab;rw[H4 hl.symm hp]
 have Qp:∀h,ci h ac ac.length=ci h (gY (jz ac) ac.length) ac.length:=λh=>Hc h hp _ (Y2 _);have hd:i6 ac=i6 (gY (jz ac) ac.length):=by
  unfold i6;rw[hl]
  congr 1
  refine jdu λS Y=>?_;rw[ht,ht]
 obtain⟨f1,f2,f3,f4,f5,f6,f7⟩:=f;rw[hl]at f1 f2 f3 f4 f7;refine⟨?_,?_,?_,?_,by rw[hd];exact f5,by rw[hd];exact f6,?_⟩
 ·rw[ht];exact f1
 ·rw[ht];exact f2
 ·rw[ht];exact f3
 ·rw[ht,hd];exact f4
 ·rw[ht];intro h hh;rw[Qp];exact f7 h hh
def VN (b:Nat)(l:List Nat):Nat:=l.foldr (λd s=>d+b*s) 0
def VI (x:Int)(l:List Nat):Int:=l.foldr (λ(d:Nat) (s:Int)=>(d:Int)+x*s) 0
theorem jy (b d:Nat)(l:List Nat):VN b (d::l)=d+b*VN b l:=rfl
theorem pi (x:Int)(d:Nat)(l:List Nat):VI x (d::l)=(d:Int)+x*VI x l:=rfl
theorem uu (b:Nat):∀l:List Nat,((VN b l:Nat):Int)=VI b l
 | []=>rfl
 |d::l=>by rw[jy,pi,<-uu b l,jbn,jaV]
theorem xQ (w:Nat):∀l:List Nat,cB w (l.map Z0)=((VN (2^w) l:Nat):Int)
 | []=>rfl
 |d::l=>by
  rw[G4,xQ w l,jy,jbn,jaV,jbE,Int.mul_comm];rfl
theorem y6 (b:Nat):∀l:List Nat,hN b l=b*VN b l
 | []=>rfl
 |d::l=>by
  show b*(d+hN b l)=_;refine aa (y6 b l) ?_;rw[jy]
theorem Ew (h:Int):∀l:List Nat,hI h l=h*VI (-h) l
 | []=>by show(0:Int)=h*0;simp
 |d::l=>by
  show h*((d:Int)-hI h l)=_;rw[Ew h l,pi,jhC];rfl
theorem xa (b x:Int):∀l:List Nat,∃q,VI b l=VI x l+(b-x)*q
 | []=>⟨0,by show(0:Int)=0+(b-x)*0;simp⟩
 |d::l=>by
  refine aW (xa b x l) λq hq=>?_;refine⟨VI x l+b*q,?_⟩;rw[pi,pi,hq,Int.mul_add,Int.mul_add,jhz,jhz,jhz];have e1:b*(b*q-x*q)=b*(b*q)-x*(b*q):=by
   rw[jfQ,Int.mul_left_comm b x q]
  rw[e1]
  lia
theorem w0 (hb:0<b):∀l:List Nat,(∀d∈l,d<b)->VN b l<b^l.length
 | [],_=>by show 0<1;decide
 |d::l,h=>by
  have h1:=h d (by simp);have h2:=w0 hb l (λx hx=>h x (by simp[hx]));rw[jy,Zl,jcR];have h3:b*VN b l+b<=b^l.length*b:=by
   rw[jaI (b^l.length) b,<-jdC];exact jeY b h2
  lia
theorem BN (b:Nat):∀l:List Nat,l≠[]->1<=l.getD (l.length-1) 0->b^(l.length-1)<=VN b l
 | [],h,_=>absurd rfl h
 | [d],_,h=>by
  rw[jy];have h:1<=d:=h;show 1<=d+b*0;exact h
 |d::e::l,_,h=>by
  have ih:=BN b (e::l) (by simp) h;rw[jy];have:b^((d::e::l).length-1)=b*b^((e::l).length-1):=by
   show b^(l.length+1)=b*b^l.length;rw[jcR,jaI]
  rw[this];have:=jeY b ih;omega
theorem CR:∀l:List Nat,(∀d∈l,d<2^w)->i7 w l.length (VN (2^w) l)=l
 | [],_=>rfl
 |d::l,h=>by
  have h1:=h d (by simp);rw[Zl,pJ,jy,jdT,jfH h1,jeR _ _ (jay w),jem h1,jer,CR l (λx hx=>h x (by simp[hx]))]
theorem LC (hw:0<w)(h1:2^(w*k)<=a)(h2:a<2^(w*(k+1))):bA w a=k+1:=by
 have ha:a≠0:=by have:=jay (w*k);lia
 have Pm:Zj (a:Int)=a.log2+1:=by
  unfold Zj;refine aa (if_neg (by simp;exact ha)) ?_;refine aa (ZN _) ?_;rfl
 have l1:w*k<=a.log2:=(Nat.le_log2 ha).mpr h1;have l2:a.log2<w*(k+1):=(jeP ha).mpr h2;unfold bA;refine aa Pm ?_;refine aa (show a.log2+1+w-1=a.log2+w by simp) ?_;refine aa (Nat.add_div_right _ hw) ?_
 congr 1
 exact Nat.div_eq_of_lt_le (by refine aa (jaI _ _) ?_;exact l1) (by refine aa (jaI _ _) ?_;exact l2)
theorem CV (hw:0<w)(hl:l≠[])(aZ:∀d∈l,d<2^w)(vy:1<=l.getD (l.length-1) 0):dg w (bA w (VN (2^w) l)) (VN (2^w) l)=l.map Z0:=by
 have kl:0<l.length:=jeV.mpr hl;have h1:=BN (2^w) l hl vy;have h2:=w0 (jay w) l aZ;rw[<-Nat.pow_mul]at h1 h2;have:=LC (k:=l.length-1) hw h1 (by refine aa (show l.length-1+1=l.length from BA kl) ?_;exact h2);refine aa this ?_;refine aa (show l.length-1+1=l.length from BA kl) ?_;rewrite [rZ];refine aa (CR l aZ) ?_;rfl
def oV (l:List Nat):List Nat:=(Y4 l.length).map λm=>(l.drop (m+1)).sum
theorem W8 (d:Nat)(t:List Nat):oV (d::t)=t.sum::oV t:=by
 unfold oV;refine aa Zl ?_;refine aa jgV ?_;refine aa Zy ?_;refine aa ZF ?_;rfl
theorem xb (b:Nat)(hb:1<=b):∀l:List Nat,VN b l=l.sum+(b-1)*VN b (oV l)
 | []=>by show 0=0+(b-1)*0;exact rfl
 |d::t=>by
  have ih:=xb b hb t;rw[W8,jy,jy,jah];obtain⟨c,rfl⟩:∃c,b=c+1:=⟨b-1,by simp[*]⟩
  rw[jdM]at ih ⊢;rw[ih];generalize VN (c+1) (oV t)=X;generalize t.sum=s;rw[jfN,jdn,jdX,jfN c s,Nat.mul_left_comm (c+1) c X]
  lia
theorem BO (b:Nat):∀l:List Nat,VN b (l++[0])=VN b l
 | []=>by show 0+b*0=0;simp
 |d::l=>by rw[jdb,jy,jy,BO b l]
theorem W9 (h:l.length=n+1):oV l=((Y4 n).map λm=>(l.drop (m+1)).sum)++[0]:=by
 unfold oV;refine aa h ?_;refine aa jaF ?_;refine aa ZO ?_
 congr 1
 show[(l.drop (n+1)).sum]=[0];refine aa (jcO (ZG h)) ?_;rfl
theorem V0 (l:List Nat)(m:Nat):(l.drop m).sum<=l.sum:=by
 conv=>rhs;rw[<-jhf m l]
 refine aa jiH ?_;exact jcC (List.drop m l).sum (List.take m l).sum
theorem so {m q r:Int}(h0:0<=r)(h1:r<m):(r+m*q).fdiv m=q/\(r+m*q).fmod m=r:=by
 have hm:0<m:=by lia
 rw[jak _ (by lia),jcl _ (by lia),jho _ _ (by lia),jhh h0 h1,Int.add_mul_emod_self_left,Int.emod_eq_of_lt h0 h1];exact⟨by simp,rfl⟩
theorem DR {m q r:Int}(h0:0<=r)(h1:r<m):(-(r+m*q)).fdiv (-m)=q/\(-(r+m*q)).fmod (-m)=-r:=by
 have:=so (q:=q) h0 h1;refine aa (jiJ _ _) ?_;refine aa (Int.neg_fmod_neg _ _) ?_;refine aa this.1 ?_;refine aa this.2 ?_;exact⟨rfl,rfl⟩
theorem BM (w:Nat):∀k a,a<2^(w*k)->VN (2^w) (i7 w k a)=a
 |0,a,h=>by
  have:a=0:=by simpa using h
  refine aa this ?_;rfl
 |k+1,a,h=>by
  have h2:a/2^w<2^(w*k):=by
   rw[jcX (jay w),<-jdW];exact be h (Zi (by decide) (by refine aa (jdC _ _) ?_;exact Y2 _))
  rewrite [pJ,jy];refine aa (BM w k _ h2) ?_;exact Nat.mod_add_div a (2^w)
theorem back (w a:Nat)(hw:0<w):cB w (dg w (bA w a) a)=a:=by
 rw[rZ,xQ];have h1:=z7 (a:=a);have h2:Zj (a:Int)<=w*bA w a:=by
  unfold bA;have:=jbZ (Zj (a:Int)+w-1) w;have:=ZQ (Zj (a:Int)+w-1) hw
  lia
 rw[BM w _ a (be h1 (Zi (by decide) h2))]
def jU (p L:Nat):List Nat:=(Y4 ((L+7-p)/8)).map λk=>p+8*k
theorem UX:(Y4 8).all (λp=>(Y4 61).all λL=>fQ (p:Int) (L:Int) 8==some ((jU p L).map Z0)&&(jU p L).all (λj=>decide (j<L))&&decide ((jU p L).length<=8))=true:=by decide +kernel
theorem UW {p L:Nat}(hp:p<8)(hL:L<=60):fQ (p:Int) (L:Int) 8=some ((jU p L).map Z0)/\(∀j∈jU p L,j<L)/\(jU p L).length<=8:=by
 have h1:=Y3.mp UX p (ZH.mpr hp);have h2:=Y3.mp h1 L (ZH.mpr (by lia));simp only[Zs]at h2;exact cz (eq_of_beq h2.1.1) (λj hj=>of_decide_eq_true (Y3.mp h2.1.2 j hj)) (of_decide_eq_true h2.2)
def kw:List Nat:=[1715446,365853733,816530545,225,318,5174684,75120764,123]
def zj (bJ:List Int)(p:Nat):Nat:=kw.getD p 0+((jU p bJ.length).map λj=>((bJ.getD j 0).fmod (10^15)).toNat).sum
def qp (bJ:List Int):List Nat:=(Y4 8).map (zj bJ)
theorem PD {Φ:cX}{s:AV}{bJ:List Int}(hn:bJ.length<=60){az:aB}(hr:az.length=21):
 ev Φ [] (some s::some (.lst (aq kw))::some (.lst (bC bJ))::az) (.comp 1 (.cons 24 (.range (.cons (.c (.int 8)) .nil)) .nil (.done (.bin .Add (.idx (.var 1) (.var 24)) (.call .sum (.cons (.comp 1 (.cons 25 (.range (.cons (.var 24) (.cons (.call .len (.cons (.var 2) .nil)) (.cons (.c (.int 8)) .nil)))) .nil (.done (.bin .Mod (.idx (.var 2) (.var 25)) (.bin .Pow (.c (.int 10)) (.c (.int 15))))))) .nil))))))
  = some (.lst (aq (qp bJ))):=by
 refine(nZ (x:=24) (vs:=aq (Y4 8)) (g:=λv=>match v with | .int k=>.int (zj bJ k.toNat:Nat)|v=>v) (j8 aR (by decide)) (by simp[hr]) (by simp) (λv hv=>?_)).trans ?_
 ·refine au (Zk.mp hv) ?_;rintro p hp rfl;have hp:=ZH.mp hp;refine fY (UW hp hn) λh1 h2 h3=>?_;show _=some (AV.int (zj bJ (p:Int).toNat:Nat));rw[Zx];have t0:∀{w:List (Option AV)},((some s::some (AV.lst (aq kw))::some (AV.lst (bC bJ))::az)++some (.int (p:Int))::w)[24]?=some (some (.int (p:Int))):=λ{w}=>by
   rw[Zd (by simp[hr])];simp[hr]
  refine iF (x:=kw.getD p 0) (fX (l:=aq kw) (k:=p) (ag rfl) (ag t0) (nn hp) (by simp[kw])) ?_;refine uT (l:=(jU p bJ.length).map λj=>((bJ.getD j 0).fmod (10^15)).toNat) ?_ ?_
  ·refine(nZ (x:=25) (vs:=aq (jU p bJ.length)) (g:=λv=>match v with | .int k=>.int (((bJ.getD k.toNat 0).fmod (10^15)).toNat:Nat)|v=>v) ?_ (by simp[hr]) (by rw[YX];lia) (λv hv=>?_)).trans ?_
   ·rw[r8,gJ (x:=.int p) (y:=.int (bJ.length:Nat)) (z:=.int 8) (ag t0) ?_ bK]
    ·show(fQ (p:Int) (bJ.length:Int) 8).map _=_;rw[h1];show some (((jU p bJ.length).map Z0).map AV.int)=_;rw[ZF];rfl
    ·refine dL (vs:=[.lst (bC bJ)]) (cT (ag rfl)) ?_;show fL (bC bJ).length=_;rw[YX];unfold fL;rw[if_pos (by lia)]
   ·refine au (Zk.mp hv) ?_;rintro j hj rfl;have hj:=h2 j hj;show _=some (AV.int (((bJ.getD (j:Int).toNat 0).fmod (10^15)).toNat:Nat));rw[Zx];have Xq:((((some s::some (AV.lst (aq kw))::some (AV.lst (bC bJ))::az)++[some (.int (p:Int))])++[some (.int (j:Int))]))[25]?=some (some (.int (j:Int))):=by
     rw[Zd (by simp[hr])];simp[hr]
    have fu:(bC bJ)[j]?=some (.int (bJ.getD j 0)):=by
     rw[ZK,Y' hj,Y5,Y' hj];rfl
    refine cb (fX (l:=bC bJ) (k:=j) (ag rfl) (ag Xq) fu (by rw[YX];lia)) (jD (x:=10) (y:=15) aR aR (by decide) (by decide)) ?_;show(if(((10^15:Nat):Int))=0 then none else some (AV.int ((bJ.getD j 0).fmod ((10^15:Nat):Int))))=_;rw[if_neg (by decide)];have Qe:0<=(bJ.getD j 0).fmod (10^15):=Int.fmod_nonneg_of_pos _ (by decide);have:(((bJ.getD j 0).fmod (10^15)).toNat:Int)=(bJ.getD j 0).fmod (10^15):=jbL Qe;rw[this];rfl
   ·unfold aq;rw[ZF,ZF];rfl
  ·have hs:=wy (10^15) ((jU p bJ.length).map λj=>((bJ.getD j 0).fmod (10^15)).toNat) (λx hx=>by
    refine au (Zk.mp hx) ?_;rintro j _ rfl;have:=Int.fmod_lt_of_pos (bJ.getD j 0) (b:=10^15) (by decide)
    lia)
   rw[YX]at hs;have:(jU p bJ.length).length*10^15<=8*10^15:=jeO _ h3;have:8*10^15<2^53:=by decide
   lia
 ·unfold aq qp;rw[ZF,ZF];rfl
theorem EQ (bJ:List Int):(qp bJ).length=8:=by
 unfold qp;refine aa (YX _) ?_;rfl
theorem GN (g:F):nk g g g=g:=by unfold nk;split<;>(try split)<;>rfl
theorem GK (g:F):nj g g g=g:=by unfold nj;split<;>(try split)<;>rfl
theorem NQ (h:bO g g=true):Fi (N+1) 6 [.flt g,.flt g,.flt g]=some (.tup [.flt 0,.flt 0,.flt g]):=by
 refine fB (N:=N) D4 rfl ?_;show aE (Fi N) [some (.flt g),some (.flt g),some (.flt g),none,none,none,none,none,none,none,none,none] [] f6.body=_;refine aS (v:=.flt g) (jgM (b:=some (AV.flt (nk g g g))) rfl (by rw[GN])) (aS (v:=.flt g) (jgM (b:=some (AV.flt (nj g g g))) rfl (by rw[GK])) (aS (v:=.flt (ZA g g)) rfl (aS (v:=.flt g) (ag rfl) ?_)));exact jF ((j9 (ag rfl) (ag rfl) h).trans (by rw[h])) (dW rfl rfl)
theorem NO (h:bO g g=true):Fi (N+1) 5 [.flt g,.flt g,.flt g]=some (.tup [.flt 0,.flt (iT g g),.flt 0]):=by
 refine fB (N:=N) D3 rfl ?_;show aE (Fi N) [some (.flt g),some (.flt g),some (.flt g),none,none,none,none,none,none,none,none,none,none] [] f5.body=_;refine aS (v:=.flt g) (jgM (b:=some (AV.flt (nk g g g))) rfl (by rw[GN])) (aS (v:=.flt g) (jgM (b:=some (AV.flt (nj g g g))) rfl (by rw[GK])) (aS (v:=.flt (Z4 g g)) rfl (aS (v:=.flt (ZA g g)) rfl (aS (v:=.flt (iT g g)) (jC (ag rfl) gu IA) ?_))));exact jF ((j9 (ag rfl) (ag rfl) h).trans (by rw[h])) (dW rfl rfl)
theorem IE:(jbt 0 0==some .eq)=true:=by decide +kernel
theorem NS:Fi (N+1) 7 [.flt h,.int 0,.flt g]=some (.tup [.flt g,.flt g,.flt g]):=by
 refine fB (N:=N) D5 rfl ?_;show aE (Fi N) [some (.flt h),some (.int 0),some (.flt g),none,none,none,none,none] [] f7.body=_;refine jF (cK (x:=.int 0) (y:=.flt 0) (ag rfl) gu ?_) (dW rfl rfl);show some (jbt 0 0==some .eq)=_;rw[IE]
theorem OU:∀k,k<5->bO (qB k) (qB k)=true/\mH (iT (qB k) (qB k)) (qB k)=true:=by decide +kernel
theorem ya (h1:ev Φ σ ρ a=some (.tup x))(h2:ev Φ σ ρ b=some (.tup y))(hl:x.length+y.length<=100000):ev Φ σ ρ (.bin .Add a b)=some (.tup (x++y)):=by
 refine cb h1 h2 ?_;show(if _ then _ else _)=_;refine aa (if_pos hl) ?_;rfl
theorem OT (hk:k<5)(h9:ρ[9]?=some (some (.flt (qB k)))):ev (Fi (N+1)) [] ρ (.cmp .NotEq (.bin .Add (.bin .Add (.call (.user 6) (.cons (.var 9) (.cons (.var 9) (.cons (.var 9) .nil)))) (.call (.user 5) (.cons (.var 9) (.cons (.var 9) (.cons (.var 9) .nil))))) (.call (.user 7) (.cons (.bin .Add (.var 9) (.bin .Div (.c (.int 1)) (.c (.int 8)))) (.cons (.c (.int 0)) (.cons (.var 9) .nil))))) (.tup (.cons (.c (.int 0)) (.cons (.c (.int 0)) (.cons (.var 9) (.cons (.c (.int 0)) (.cons (.var 9) (.cons (.c (.int 0)) (.cons (.var 9) (.cons (.var 9) (.cons (.var 9) .nil)))))))))))=some (.bool false):=by
 refine bN (OU k hk) λg1 g2=>?_;have g2:=nT g2;generalize qB k=g at *;have v9:ev (Fi (N+1)) [] ρ (.var 9)=some (.flt g):=ag h9;have c6:ev (Fi (N+1)) [] ρ (.call (.user 6) (.cons (.var 9) (.cons (.var 9) (.cons (.var 9) .nil))))=some (.tup [.flt 0,.flt 0,.flt g]):=cL (vs:=[.flt g,.flt g,.flt g]) (gJ v9 v9 v9) rfl (NQ g1);have c5:ev (Fi (N+1)) [] ρ (.call (.user 5) (.cons (.var 9) (.cons (.var 9) (.cons (.var 9) .nil))))=some (.tup [.flt 0,.flt g,.flt 0]):=by
  have:=cL (k:=5) (Φ:=Fi (N+1)) (ρ:=ρ) (vs:=[.flt g,.flt g,.flt g]) (gJ v9 v9 v9) rfl (NO (N:=N) g1);rw[g2]at this;exact this
 have c7:ev (Fi (N+1)) [] ρ (.call (.user 7) (.cons (.bin .Add (.var 9) (.bin .Div (.c (.int 1)) (.c (.int 8)))) (.cons (.c (.int 0)) (.cons (.var 9) .nil))))=some (.tup [.flt g,.flt g,.flt g]):=
  cL (vs:=[.flt (Z4 g (Z5 false 1 8)),.int 0,.flt g]) (gJ (x8 v9 (lR (x:=1) (y:=8) aR aR (by decide) (by decide))) bK v9) rfl NS
 have i0:ev (Fi (N+1)) [] ρ (.c (.int 0))=some (.int 0):=bK;have ct:ev (Fi (N+1)) [] ρ (.tup (.cons (.c (.int 0)) (.cons (.c (.int 0)) (.cons (.var 9) (.cons (.c (.int 0)) (.cons (.var 9) (.cons (.c (.int 0)) (.cons (.var 9) (.cons (.var 9) (.cons (.var 9) .nil))))))))))=some (.tup [.int 0,.int 0,.flt g,.int 0,.flt g,.int 0,.flt g,.flt g,.flt g]):=by
  refine si (vs:=[.int 0,.int 0,.flt g,.int 0,.flt g,.int 0,.flt g,.flt g,.flt g]) ?_ (show 9<=100000 by decide);simp only[mM,Dx,i0,v9]
 refine cK (ya (ya c6 c5 (show 6<=100000 by decide)) c7 (show 9<=100000 by decide)) ct ?_;have ez:cJ (.flt 0) (.int 0)=some true:=by
  show some (jbt 0 0==some .eq)=_;rw[IE]
 have eg:cJ (.flt g) (.flt g)=some true:=by
  show(if(Z9 g g==some .eq)=true then some (Z9 g g==some .eq)else none)=_;unfold bO at g1;rw[g1];rfl
 show(eN cJ [.flt 0,.flt 0,.flt g,.flt 0,.flt g,.flt 0,.flt g,.flt g,.flt g] [.int 0,.int 0,.flt g,.int 0,.flt g,.int 0,.flt g,.flt g,.flt g]).map (!·)=_;simp only[r7,ez,eg];rfl
theorem QT:(Y4 64).all (λa=>fH (bT a) λx=>(ZP 1 31).all λst=>fH (bT ((a+st)%64)) λy=>fH (bT ((a+2*st)%64)) λz=>bO x x&&bO y y&&bO z z&&!bO x y&&!bO y x&&!bO x z&&!bO z x&&!bO y z&&!bO z y)=true:=by decide +kernel
theorem QR (A:Nat):wT A:=by
 have h1:=Y3.mp QT (A%64) (ZH.mpr (ZQ _ (by decide)));rw[qe]at h1;have h2:=Y3.mp h1 (1+A/64%31) (by rw[jaN];lia);rw[qe,qe]at h2;simp only[Zs,jbF]at h2;refine bN h2 λz1 a9=>?_;obtain⟨⟨⟨⟨⟨⟨⟨a1,a2⟩,a3⟩,a4⟩,a5⟩,a6⟩,a7⟩,a8⟩:=z1;have e0:dF A 0=A%64:=by unfold dF;simp
 have e1:dF A 1=(A%64+(1+A/64%31))%64:=by unfold dF;simp
 have e2:dF A 2=(A%64+2*(1+A/64%31))%64:=by unfold dF;exact rfl
 intro l l' hl hZ;have:l=0\/l=1\/l=2:=IK hl;have:l'=0\/l'=1\/l'=2:=IK hZ;rcases‹l=0\/l=1\/l=2› with rfl|rfl|rfl<;>rcases‹l'=0\/l'=1\/l'=2› with rfl|rfl|rfl<;>simp only[e0,e1,e2]<;>first|exact a1|exact a2|exact a3|exact a4|exact a5|exact a6|exact a7|exact a8|exact a9
def pK:Nat->dw->dw
 |0,s=>s
 |k+1,.cons _ s=>pK k s
 |_+1,.nil=>.nil
section
theorem M9 {a e:Ex}{k:Nat}{x:List AV}(h1:ev Φ σ ρ a=some (.lst x))(h2:ev Φ σ ρ e=some (.int k))(hl:x.length<=100000):ev Φ σ ρ (.slice a .none (.some e))=some (.lst (x.take k)):=by
 have hn:fG Φ σ ρ .none=some none:=rfl;have hs:fG Φ σ ρ (.some e)=some (some (k:Int)):=by rw[pQ,h2]
 rw[pX,h1];simp only[hn,hs];show(if 0<=(k:Int)then md σ (λl=>l.take (k:Int).toNat) (.lst x)else none)=_;rw[if_pos (Zf k),Zx];show(if _ then _ else _)=_;rw[if_pos hl]
theorem M8 {a e:Ex}{k:Nat}{x:List AV}(h1:ev Φ σ ρ a=some (.lst x))(h2:ev Φ σ ρ e=some (.int k))(hl:x.length<=100000):ev Φ σ ρ (.slice a (.some e) .none)=some (.lst (x.drop k)):=by
 have hn:fG Φ σ ρ .none=some none:=rfl;have hs:fG Φ σ ρ (.some e)=some (some (k:Int)):=by rw[pQ,h2]
 rw[pX,h1];simp only[hn,hs];show(if 0<=(k:Int)then md σ (λl=>l.drop (k:Int).toNat) (.lst x)else none)=_;rw[if_pos (Zf k),Zx];show(if _ then _ else _)=_;rw[if_pos hl]
theorem yf (h1:ev Φ σ ρ a=some (.lst l))(hl:l.length<=100000):ev Φ σ ρ (.call .len (.cons a .nil))=some (.int (l.length:Nat)):=by
 refine dL (cT h1) ?_;show fL l.length=_;unfold fL;refine aa (if_pos hl) ?_;rfl
theorem Dm (h1:ev Φ σ ρ a=some (cR D))(hl:D.length<=100000):ev Φ σ ρ (.call .len (.cons a .nil))=some (.int (D.length:Nat)):=by
 refine dL (cT h1) ?_;show fL (cG D).length=_;unfold fL cG;refine aa (YX _) ?_;refine aa (if_pos hl) ?_;rfl
theorem Dg {a i:Ex}{l:List AV}{k:Nat}{v:AV}(h1:ev Φ σ ρ a=some (.lst l))(h2:ev Φ σ ρ i=some (.int (-1-(k:Int))))(hk:k<l.length)(hv:l[l.length-1-k]?=some v)(hn:l.length<=100000):ev Φ σ ρ (.idx a i)=some v:=by
 refine mJ h1 h2 ?_;have hp:fO (-1-(k:Int)) l.length=some (l.length-1-k):=by
  unfold fO;have hs:-1-(k:Int)=jhD k:=by rw[jiY];lia
  have hm:jhD k+(l.length:Int)=((l.length-1-k:Nat):Int):=by rw[jiY];lia
  have hl:=ZE (Nat.sub_le (l.length-1) k) (Nat.sub_lt (ZE (jaU k) hk) Nat.one_pos);rw[hs];refine aa (if_pos (show hJ (jhD k)=true from decide_eq_true (show k+1<2^53 from ZE (YY hk hn) (by decide)))) ?_;unfold jfj;simp only[if_pos (Int.negSucc_lt_zero k),hm];refine aa (if_pos (show(decide (0<=((l.length-1-k:Nat):Int))&&decide (((l.length-1-k:Nat):Int)<(l.length:Int)))=true by rw[decide_eq_true (Zf _),decide_eq_true (jcq.mpr hl)];rfl)) ?_;rfl
 show(fO (-1-(k:Int)) l.length).bind (λj=>l[j]?)=_;refine aa hp ?_;exact hv
theorem CX:∀a b:List Nat,a.length=b.length->eN cJ (aq a) (aq b)=some (decide (a=b))
 | [],[],_=>rfl
 |a::as,b::bs,h=>by
  have ih:=CX as bs (by simpa using h);have e:eN cJ (aq (a::as)) (aq (b::bs))=some (decide ((a:Int)=(b:Int))&&decide (as=bs)):=by
   show eN cJ (AV.int (a:Int)::aq as) (AV.int (b:Int)::aq bs)=_;rw[r7];rw[ih];rfl
  rw[e]
  congr 1
  rw[jaH,Zs,decide_eq_true_iff,decide_eq_true_iff,decide_eq_true_iff,List.cons.injEq];constructor
  ·rintro⟨h1,h2⟩;exact⟨by lia,h2⟩
  ·rintro⟨h1,h2⟩;exact⟨by simp[*],h2⟩
theorem CZ (a b:List Nat):jA σ (.lst (aq a)) (.lst (aq b))=some (decide (a=b)):=by
 show(if(aq a).length=(aq b).length then eN cJ (aq a) (aq b)else some false)=_;refine aa (YX _) ?_;refine aa (YX _) ?_;by_cases h:a.length=b.length
 ·refine aa (if_pos h) ?_;refine aa (CX a b h) ?_;rfl
 ·rw[if_neg h,decide_eq_false (λe=>h (by refine aa e ?_;rfl))]
theorem MY (h1:ev Φ σ ρ a=some (.lst (aq x)))(h2:ev Φ σ ρ b=some (.lst (aq y))):ev Φ σ ρ (.cmp .Eq a b)=some (.bool (decide (x=y))):=by
 refine cK h1 h2 ?_;show jA σ (.lst (aq x)) (.lst (aq y))=_;exact CZ x y
theorem M2 (h1:ev Φ σ ρ a=some (.lst (aq x)))(h2:ev Φ σ ρ b=some (.lst (aq x))):ev Φ σ ρ (.cmp .NotEq a b)=some (.bool false):=by
 refine cK h1 h2 ?_;show(jA σ (.lst (aq x)) (.lst (aq x))).map (!·)=_;refine aa (CZ _ _) ?_;refine aa (decide_eq_true rfl) ?_;rfl
end
theorem Ej (l:List Nat):aY [] 6 (.lst (aq l))=some (.lst (aq l)):=by
 show(bh (aY [] 5) (aq l)).map AV.lst=_;refine aa (qg 4 _ _) ?_;rfl
theorem Ei (l:List Int):aY [] 6 (.lst (bC l))=some (.lst (bC l)):=by
 show(bh (aY [] 5) (l.map AV.int)).map AV.lst=_;refine aa (oK (g:=id) _ (λa ha=>by refine au (Zk.mp ha) ?_;rintro i _ rfl;rfl)) ?_;refine aa (jbQ _) ?_;rfl
theorem Ek (ac:List (List Nat)):aY [] 6 (b9 ac)=some (b9 ac):=by
 show(bh (aY [] 5) (ac.map λl=>AV.lst (aq l))).map AV.lst=_;rw[oK (g:=id) _ (λa ha=>by
  refine au (Zk.mp ha) ?_;rintro i _ rfl;show(bh (aY [] 4) (aq i)).map AV.lst=_;refine aa (qg 3 _ _) ?_;rfl),jbQ];rfl
theorem OG (A n:Nat):aY [] 6 (.lst (cq A n))=some (.lst (cq A n)):=by
 show(bh (aY [] 5) (cq A n)).map AV.lst=_;have:=yO 4 [] (λt=>bT (dF A t)) (Y4 n);unfold cq;refine aa this ?_;rfl
theorem Ar (h:f a=some b):bh f [a]=some [b]:=by simp only[gO,h];rfl
theorem As (h:f a=some a')(h2:f b=some b'):bh f [a,b]=some [a',b']:=by simp only[gO,h,h2];rfl
theorem SY (h:f a=some a')(h2:f b=some b')(h3:f c=some c'):bh f [a,b,c]=some [a',b',c']:=by simp only[gO,h,h2,h3];rfl
theorem R7 (c:Nat):iQ c<=4:=by unfold iQ;(repeat' split)<;>exact bw jbB rfl
theorem Uh (hs:List Nat):∀x∈dA hs,x<=260:=by
 intro x hx;unfold dA at hx;refine au (jcZ.mp hx) λi Y hx=>?_;unfold jo at hx;rw[Zz]at hx;rcases hx with hx|hx
 ·refine au (Zk.mp hx) ?_;rintro c _ rfl;have:=R7 c
  lia
 ·rw[Zn]at hx;have:pO hs i<48:=ZQ _ (by decide);rw[hx];split<;>lia
theorem Uf (hs:List Nat):∃x∈dA hs,256<=x:=by
 refine bB (Iy (hs.getD 0 0%3) (hs.getD 0 0/3)) λc l e Y=>?_;refine aN (256+iQ c) ?_ (ZD 256 (iQ c));unfold dA;rw[jcZ];refine aN 0 (by simp) ?_;unfold jo pM;refine aa (jbI 1 _) ?_;refine aa e ?_;simp
theorem Ug (hs:List Nat):(dA hs).length<=1000:=by
 refine rwj (Gf _) ?_;refine aa Y8 ?_;refine aa (YX _) ?_;have:=ti hs;show _+1<=_;exact Bz this rfl
abbrev AX (s bJ PC dQ row ac Bm ja count tables:AV):aB:=[some s,some (.lst (aq kw)),some bJ,some PC,some dQ,some row,some row,some ac,some Bm,some ja,some count,some tables,none,none,none,none,none,none,none,none,none,none,none,none]
theorem Sa {N:Nat}(dN:List Int)(aO:dN.length<=100000)(hs:List Nat)(vq:hs=qp (dN.take 60)):∃ac dQ,iw ac/\∀r,aE (Fi (N+2)) (AX (.lst (bC dN)) (.lst (bC (dN.take 60))) (.lst (aq hs)) dQ (.lst (aq (dA hs))) (b9 ac) (.lst (cq (hs.getD 6 0) (3*ac.length))) (.flt (qB (hs.getD 6 0%5))) (.int (ac.length:Nat)) (.lst ((bL ac (2^ac.length-1)).map cR))) [] (pK 11 mR.body)=r ->
 aE (Fi (N+2)) (some (.lst (bC dN))::Ze 23 none) [] mR.body=r:=by
 have h8:hs.length=8:=by rw[vq];exact EQ _
 have Qg:(dN.take 60).length<=60:=by rw[jbu];lia
 obtain⟨ac,hg,lU⟩:=NH (N:=N) ((dA hs).map Z0++[255,-1]) (λx hx qj=>by
  rw[Zz]at hx;rcases hx with hx|hx
  ·refine au (Zk.mp hx) ?_;rintro y hy rfl;have:=Uh hs y hy;show(y:Int)<261
   lia
  ·simp at hx;lia) (by
  refine au (Uf hs) λx hx h=>?_;exact aN (x:Int) (by rw[Zz];left;exact Zk.mpr ⟨x,hx,rfl⟩) (oY h))
 have hn:=hg.le;have sS:=hg.pos;refine cZ ac (.str (ij hs)) hg (λr hr=>?_);refine aS (v:=.lst (aq kw)) rfl (aS (v:=.lst (bC (dN.take 60))) ?_ ?_)
 ·refine(M9 (k:=60) (ag rfl) aR (by rw[YX];exact aO)).trans ?_;unfold bC;rw[jgL]
 refine aS (v:=.lst (aq hs)) (by rw[vq];exact PD Qg (az:=Ze 21 none) rfl) ?_;refine n8 (vs:=[.str (ij hs),.lst (aq (dA hs))]) (cL (vs:=[.lst (aq hs)]) (cT (ag rfl)) (Ar (Ej hs)) (NF hs h8)) rfl ?_;refine aS (v:=.lst (aq (dA hs))) (cL (vs:=[.str (ij hs)]) (cT (ag rfl)) rfl (NG hs)) ?_;refine du (M2 (ag rfl) (ag rfl)) bH ?_;refine aS (v:=b9 ac) (cL (vs:=[.lst (bC ((dA hs).map Z0++[255,-1]))]) (cT ?_) (Ar (Ei _)) lU) ?_
 ·refine(sb (x:=aq (dA hs)) (y:=[.int 255,.int (-1)]) (ag rfl) rfl ?_).trans ?_
  ·rw[YX];have:=Ug hs;show _+2<=_
   lia
  ·rw[qG];unfold bC;rw[ZO];rfl
 have E8:∀{ρ:aB},ρ[7]?=some (some (b9 ac))->ev (Fi (N+2)) [] ρ (.call .len (.cons (.var 7) .nil))=some (.int (ac.length:Nat)):=λh7=>by
  have:=yf (Φ:=Fi (N+2)) (σ:=[]) (l:=ac.map λl=>AV.lst (aq l)) (ag h7) (by rw[YX];lia)
  rwa [YX]at this
 have fu:∀i,i<8->(aq hs)[i]?=some (.int (hs.getD i 0:Nat)):=λi hi=>nn (by lia);have E0:∀{ρ:aB},ρ[3]?=some (some (.lst (aq hs)))->ev (Fi (N+2)) [] ρ (.idx (.var 3) (.c (.int 6)))=some (.int (hs.getD 6 0:Nat)):=λh3=>fX (l:=aq hs) (k:=6) (ag h3) aR (fu 6 (by lia)) (by rw[YX];lia);refine aS (v:=.lst (cq (hs.getD 6 0) (3*ac.length))) (cL (vs:=[.int (hs.getD 6 0:Nat),.int (ac.length:Nat)]) (dM (E0 rfl) (E8 rfl)) rfl (NI _ _ hn)) ?_;refine aS (v:=.flt (qB (hs.getD 6 0%5))) (lR (y:=4) (dV (y:=5) (E0 rfl) aR (by decide)) aR (by decide) (jai (ZQ _ (by decide)) (by decide:5<2^64))) ?_;refine du (uS ((Dj (ag rfl)).trans ?_) (OT (N:=N+1) (ZQ _ (by decide)) rfl)) bH ?_
 ·have:(cq (hs.getD 6 0) (3*ac.length)).length=3*ac.length:=by unfold cq;rw[YX,jab]
  rw[this,decide_eq_false (by lia)]
 refine mN (vs:=[.int (ac.length:Nat),.lst ((bL ac (2^ac.length-1)).map cR)]) (gI (E8 rfl) (gI (cL (vs:=[b9 ac]) (cT (ag rfl)) (Ar (Ek ac)) (NK (N:=N+1) hg)) mI)) rfl ?_;exact hr
theorem At:∀(l:List Nat),∀x∈l,x<=l.sum
 |a::l,x,h=>by
  refine aa jah ?_;rcases ZM.mp h with rfl|h
  ·exact ZD x l.sum
  ·have:=At l x h
   lia
def jp (n:Nat)(W:Int):Int:=if n%2=1 then -W else W
def iq (ds:List Nat)(n:Nat):List Nat:=(Y4 n).map λm=>(ds.drop (m+1)).sum
structure uo (n w L de:Nat) (ds:List Nat) (P:Nat->Nat):Prop where
 W1:VN (2^w) ds<2^1000
 dl:∀d∈ds,d<1000
 back:dg w (bA w (VN (2^w) ds)) (VN (2^w) ds)=ds.map Z0
 side:∀h:Nat,h=1\/h=2\/h=3->∃q:Int,jp n (VN (2^w) ds:Nat)=(P h:Nat)+(((2^w:Nat):Int)+h)*q
 quo:VN (2^w) ds=L+(2^w-1)*VN (2^w) (iq ds n)
 tback:dg w (bA w (VN (2^w) (iq ds n))) (VN (2^w) (iq ds n))=(iq ds n).map Z0
 two:∃q:Int,((VN (2^w) ds:Nat):Int)=(de:Int)+(((2^w:Nat):Int)-2)*q
 Ll:L<1000
 q1:VN (2^w) (iq ds n)<2^1000
theorem Sg (f:o4 ac)(g:iw ac)(hw:10<=w)(oG:w<=32):
 uo ac.length w (tab ac (2^ac.length-1)).length (i6 ac) (0::dT (tab ac (2^ac.length-1)) ac.length) (λh=>(ci h ac ac.length).length):=by
 obtain⟨f1,f2,f3,f4,f5,f6,f7⟩:=f;have hn:=g.le;have sS:=g.pos;have hb:1024<=2^w:=YY (by decide:1024<=2^10) (Zi (by decide) hw);have qo:(dT (tab ac (2^ac.length-1)) ac.length).length=ac.length:=by
  unfold dT;rw[Zl,YX,jbx];simp[*]
 generalize hL:(tab ac (2^ac.length-1)).length=L at *;generalize dT (tab ac (2^ac.length-1)) ac.length=ds at *;generalize ac.length=n at *;have vA:(0::ds).length=n+1:=by rw[Zl,qo]
 have y5:L<1000:=by
  rw[y6]at f4;have:=xb 2 (by decide) ds;rw[f2]at this;have:L<=VN 2 ds:=by rw[this];exact ZD _ _
  lia
 have vk:∀d∈(0::ds),d<1000:=λd hd=>by
  rcases ZM.mp hd with rfl|hd
  ·decide
  ·have:=At ds d hd
   lia
 have vy:1<=(0::ds).getD ((0::ds).length-1) 0:=by
  rw[vA,jdM];obtain⟨m,rfl⟩:∃m,n=m+1:=⟨n-1,by simp[*]⟩
  rw[jdM]at f3;show 1<=ds.getD m 0;rw[f3];exact Y2 1
 have EB:∀l:List Nat,l.length<=6->(∀d∈l,d<1000)->VN (2^w) l<2^1000:=λl hl hd=>by
  have h1:=w0 (jay w) l (λd h=>by have:=hd d h;lia);rw[<-Nat.pow_mul]at h1;exact be h1 (Zi (by decide) (YY (jbe oG hl) (by decide)))
 have QI:(0::ds).sum=L:=by rw[jah,f2,jer]
 have FJ:∀d∈iq (0::ds) n,d<1000:=λd hd=>by
  unfold iq at hd;refine au (Zk.mp hd) ?_;rintro m _ rfl;have:=V0 (0::ds) (m+1)
  lia
 have oF:(iq (0::ds) n).length=n:=by unfold iq;rw[YX,jab]
 refine⟨EB _ (by lia) vk,vk,?_,?_,?_,?_,?_,y5,EB _ (by lia) FJ⟩
 ·exact CV (wJ hw) (by simp) (λd hd=>by have:=vk d hd;lia) vy
 ·intro h hh;have e:=f7 h hh;have hv:=uu (2^w) (0::ds);refine aW (xa ((2^w:Nat):Int) (-(h:Int)) (0::ds)) λq hq=>?_;have e2:VI (-(h:Int)) (0::ds)=-hI h ds:=by
   rw[pi,Ew,jhC];show(0:Int)+_=_
   lia
  rw[<-hv,e2,e]at hq;unfold jp tJ at *;by_cases ho:n%2=1
  ·rw[if_pos ho]at hq ⊢;refine⟨-q,?_⟩;rw[hq,jeT,Int.neg_add,jhB,Int.sub_neg]
  ·rw[if_neg ho]at hq ⊢;refine⟨q,?_⟩;rw[hq,jhB,Int.sub_neg]
 ·have:=xb (2^w) (wJ hb) (0::ds);rw[W9 vA,BO,QI]at this;exact this
 ·refine CV (wJ hw) (λe=>?_) (λd hd=>by have:=FJ d hd;lia) ?_
  ·rw[e]at oF;have:n=0:=oF.symm
   lia
  ·rw[oF];unfold iq;rw[Y5,ZK,jdv (by lia)];show 1<=((0::ds).drop (n-1+1)).sum;rw[show n-1+1=n from BA sS];have:(0::ds).getD n 0∈(0::ds).drop n:=by
    rw[Y5,Y' (ZG (id (jfb vA)))];rw[jdm];exact⟨0,by rw[jbv];lia,by rw[jhZ];rfl⟩
   have h2:=At _ _ this;rw[vA,jdM]at vy
   lia
 ·refine aW (xa ((2^w:Nat):Int) 2 (0::ds)) λq hq=>?_;refine⟨q,?_⟩;rw[uu,hq]
  congr 1
  rw[pi,<-f4,y6,jaV,uu];show(0:Int)+2*_=_;rw[Int.zero_add];rfl
section
theorem tB {N:Nat}{a b:Ex}{is:List Int}{c:List AV->AV}(hc:c=.tup\/c=.lst)(ha:ev (Fi (N+1)) [] ρ a=some (c (is.map .int)))(hb:ev (Fi (N+1)) [] ρ b=some (c (is.map .int)))(hl:is.length<=1000):ev (Fi (N+1)) [] ρ (.call (.user 20) (.cons a (.cons b .nil)))=some (.bool true):=by
 have hz:aY [] 6 (c (is.map .int))=some (c (is.map .int)):=by
  have hm:bh (aY [] 5) (is.map AV.int)=some (is.map AV.int):=by
   refine aa (oK (g:=id) _ (λa ha=>by refine au (Zk.mp ha) ?_;rintro i _ rfl;rfl)) ?_;refine aa (jbQ _) ?_;rfl
  rcases hc with rfl|rfl
  ·show(bh (aY [] 5) (is.map AV.int)).map AV.tup=_;refine aa hm ?_;rfl
  ·show(bh (aY [] 5) (is.map AV.int)).map AV.lst=_;refine aa hm ?_;rfl
 exact cL (vs:=[c (is.map .int),c (is.map .int)]) (dM ha hb) (As hz hz) (NL is hl hc)
theorem yc (h1:ev Φ σ ρ a=some (.int x))(h2:ev Φ σ ρ b=some (.int y))(hy:y≠0)(hs:y.natAbs<2^64):ev Φ σ ρ (.bin .FloorDiv a b)=some (.int (x.fdiv y)):=by
 refine cb h1 h2 ?_;show(if y=0\/!small y then none else some (AV.int (x.fdiv y)))=_;have:small y=true:=by unfold small;exact decide_eq_true hs
 rw[if_neg (by refine aa this ?_;simp;exact hy)]
theorem MX {a b:Ex}{l:List Nat}{k:Nat}(h1:ev Φ σ ρ a=some (.lst (aq l)))(h2:ev Φ σ ρ b=some (.int k)):ev Φ σ ρ (.call .count (.cons a (.cons b .nil)))=some (.int (l.countP λx=>decide (x=k):Nat)):=by
 refine dL (dM h1 h2) ?_;show pE σ [.lst (aq l),.int k]=_
 delta pE;dsimp only;rw[show aQ σ (.lst (aq l))=some (aq l)from rfl];dsimp only
 refine aa (qG _) ?_;unfold bC;simp only[rG];refine aa jfP ?_
 congr 3
 congr 1
 funext x;rw[jaH];show((Z0 x==(k:Int))=true)↔_;rw[beq_iff_eq,decide_eq_true_iff];show((x:Int)=(k:Int))↔_
 lia
end
abbrev qM (s bJ:AV)(hs:List Nat)(dQ row:AV)(ac:List (List Nat))(ja j0:AV)(nh ds:List Nat)(w:Nat)(W side:Int)(Xl Xm Xn Xo Xp:Option AV):aB :=
 [some s,some (.lst (aq kw)),some bJ,some (.lst (aq hs)),some dQ,some row,some row,some (b9 ac),some (.lst (cq (hs.getD 6 0) (3*ac.length))),some ja,some (.int (ac.length:Nat)),some (.lst ((bL ac (2^ac.length-1)).map cR)),some j0,some (.lst (aq nh)),some (.lst (aq ds)),some (.int w),some (.int (2^w:Nat)),some (.int W),some (.int side),Xl,Xm,Xn,Xo,Xp]
section
theorem oT (ac:List (List Nat)):((bL ac (2^ac.length-1)).map cR).length=2^ac.length:=by
 have:=jay ac.length;rw[YX,ny];lia
theorem Bl (ac:List (List Nat))(h:S<2^ac.length):((bL ac (2^ac.length-1)).map cR)[S]?=some (cR (tab ac S)):=by
 have hl:=ny ac (2^ac.length-1);have e:=tS ac (k:=S) (2^ac.length-1) (by lia);refine aa ZK ?_;rw[Y5,Y' (by lia)]at e;refine aa (Y' (by lia)) ?_;unfold tab;refine rwj e ?_;rfl
theorem Sb {ac:List (List Nat)}{hs:List Nat}{s bJ dQ row ja:AV}{w:Nat}(g:iw ac)(f:o4 ac)(h8:hs.length=8)(hw:w=10+hs.getD 7 0/60%23)(M:uo ac.length w (tab ac (2^ac.length-1)).length (i6 ac) (0::dT (tab ac (2^ac.length-1)) ac.length) (λh=>(ci h ac ac.length).length)):
 ∃j0,∀r,aE (Fi (N+2)) (qM s bJ hs dQ row ac ja j0 ((tab ac (2^ac.length-1)).map (·.2)) (0::dT (tab ac (2^ac.length-1)) ac.length) w (VN (2^w) (0::dT (tab ac (2^ac.length-1)) ac.length):Nat) (jp ac.length (VN (2^w) (0::dT (tab ac (2^ac.length-1)) ac.length):Nat)) none none none none none) [] (pK 17 mR.body)=r ->
  aE (Fi (N+2)) (AX s bJ (.lst (aq hs)) dQ row (b9 ac) (.lst (cq (hs.getD 6 0) (3*ac.length))) ja (.int (ac.length:Nat)) (.lst ((bL ac (2^ac.length-1)).map cR))) [] (pK 11 mR.body)=r:=by
 have hn:=g.le;have sS:=g.pos;have hp:=jay ac.length;have mU:2^ac.length<=32:=YY (Zi (by decide) hn) (by decide);have y5:=M.Ll;have Pg:=f.alone (hs.getD 7 0%ac.length) (ZQ _ sS);have qo:(dT (tab ac (2^ac.length-1)) ac.length).length=ac.length:=by
  unfold dT;refine aa Zl ?_;refine aa (YX _) ?_;refine aa jbx ?_;simp[*]
 have Py:=M.dl;have YD:w<=32:=by
  have:=ZQ (hs.getD 7 0/60) (show 0<23 by decide)
  lia
 have fu:∀i,i<8->(aq hs)[i]?=some (.int (hs.getD i 0:Nat)):=λi hi=>nn (by simp[*]);have E1:∀{ρ:aB},ρ[3]?=some (some (.lst (aq hs)))->ev (Fi (N+2)) [] ρ (.idx (.var 3) (.c (.int 7)))=some (.int (hs.getD 7 0:Nat)):=λh3=>fX (l:=aq hs) (k:=7) (ag h3) aR (fu 7 (jbB)) (by refine aa (YX _) ?_;simp[*]);have lj:∀{ρ:aB},ρ[11]?=some (some (.lst ((bL ac (2^ac.length-1)).map cR)))->ev (Fi (N+2)) [] ρ (.idx (.var 11) (.un .USub (.c (.int 1))))=some (cR (tab ac (2^ac.length-1))):=λkY=>by
  refine Dg (l:=(bL ac (2^ac.length-1)).map cR) (k:=0) (ag kY) rfl ?_ ?_ ?_
  ·refine aa (oT _) ?_;exact hp
  ·refine aa (oT _) ?_;exact Bl ac (by lia)
  ·refine aa (oT _) ?_;lia
 generalize hD:tab ac (2^ac.length-1)=D at *;generalize hT:(bL ac (2^ac.length-1)).map cR=T at *;generalize hY:dT D ac.length=ds at *;have alone:ev (Fi (N+2)) [] (AX s bJ (.lst (aq hs)) dQ row (b9 ac) (.lst (cq (hs.getD 6 0) (3*ac.length))) ja (.int (ac.length:Nat)) (.lst T)) (.comp 1 (.cons 24 (.val (.idx (.var 11) (.un .USub (.c (.int 1))))) (.cons (.cmp .Eq (.comp 1 (.cons 25 (.range (.cons (.var 10) .nil)) (.cons (.cmp .Eq (.bin .Mod (.bin .FloorDiv (.var 24) (.bin .Pow (.c (.int 32)) (.var 25))) (.c (.int 32))) (.c (.int 0))) .nil) (.done (.var 25)))) (.list (.cons (.bin .Mod (.idx (.var 3) (.c (.int 7))) (.var 10)) .nil))) .nil) (.done (.var 24)))) =
  some (.lst ((D.filter λe=>decide ((Y4 ac.length).filter (λi=>decide (e.1/32^i%32=0))=[hs.getD 7 0%ac.length])).map λe=>AV.int (e.1:Nat))):=by
  refine(nY (x:=24) (vs:=D.map λe=>AV.int (e.1:Nat)) (p:=λv=>match v with | .int k=>decide ((Y4 ac.length).filter (λi=>decide (k.toNat/32^i%32=0))=[hs.getD 7 0%ac.length])|_=>false) (g:=id) ?_ rfl (by refine aa (YX _) ?_;lia) (λv hv=>?_) (λv hv Y=>?_)).trans ?_
  ·rewrite [r9];refine aa (lj rfl) ?_;show some ((cG D).map λe=>AV.int e.1)=_;unfold cG;refine aa ZF ?_;rfl
  ·refine au (Zk.mp hv) ?_;rintro e he rfl;show _=some (decide ((Y4 ac.length).filter (λi=>decide ((e.1:Int).toNat/32^i%32=0))=[hs.getD 7 0%ac.length]));refine aa (Zx _) ?_;refine kR (MY ?_ ?_)
   ·refine(nY (x:=25) (vs:=aq (Y4 ac.length)) (p:=λv=>match v with | .int i=>decide (e.1/32^i.toNat%32=0)|_=>false) (g:=id) (j8 (ag rfl) (by lia)) rfl (by refine aa (YX _) ?_;refine aa jab ?_;lia) (λv hv=>?_) (λv hv Y=>?_)).trans ?_
    ·refine au (Zk.mp hv) ?_;rintro i hi rfl;have hi:=ZH.mp hi;show _=some (decide (e.1/32^(i:Int).toNat%32=0));refine aa (Zx _) ?_;have Ue:32^i<2^64:=ZE (Zi (by decide) (show i<=5 by lia)) (by decide);have p0:=jcI (n:=i) (show 0<32 by decide);exact kR (pS (y:=0) (dV (y:=32) (jB (ag rfl) (jD (x:=32) aR (ag rfl) (by decide) (by lia)) (by lia) Ue) aR (by decide)) aR)
    ·refine au (Zk.mp hv) ?_;rintro i hi rfl;exact ag rfl
    ·refine aa (jbQ _) ?_;unfold aq;refine aa jbX ?_
     congr 3
   ·exact sd (cT (dV (E1 rfl) (ag rfl) (by lia))) (show 1<=100000 by decide)
  ·refine au (Zk.mp hv) ?_;rintro e he rfl;exact ag rfl
  ·refine aa (jbQ _) ?_;refine aa jbX ?_
   congr 3
 refine⟨.lst ((D.filter λe=>decide ((Y4 ac.length).filter (λi=>decide (e.1/32^i%32=0))=[hs.getD 7 0%ac.length])).map λe=>AV.int (e.1:Nat)),λr hr=>?_⟩;refine aS alone ?_;refine aS (v:=.lst (aq (D.map (·.2)))) (dL (cT (lj rfl)) ?_) ?_
 ·show(if(cG D).length<=100000 then some (AV.lst ((cG D).map (·.2)))else none)=_;unfold cG aq;refine aa (YX _) ?_;refine aa (if_pos (by lia)) ?_;refine aa ZF ?_;refine aa ZF ?_;rfl
 refine aS (v:=.lst (aq (0::ds))) ?_ ?_
 ·have e:(0::ds)=[0,mA D ac.length (hs.getD 7 0%ac.length)]++(ZP 2 (ac.length-1)).map λk=>D.countP λe=>decide (e.2=k):=by
   refine rwj hY ?_;refine aa Pg ?_;rfl
  refine aa e ?_;refine(sb (x:=aq [0,mA D ac.length (hs.getD 7 0%ac.length)]) (y:=aq ((ZP 2 (ac.length-1)).map λk=>D.countP λe=>decide (e.2=k))) ?_ ?_ ?_).trans ?_
  ·refine sd (vs:=[.int 0,.int (mA D ac.length (hs.getD 7 0%ac.length):Nat)]) (dM bK ?_) (show 2<=100000 by decide);have:=yf (Φ:=Fi (N+2)) (σ:=[]) (a:=.var 12) (l:=(D.filter λe=>decide ((Y4 ac.length).filter (λi=>decide (e.1/32^i%32=0))=[hs.getD 7 0%ac.length])).map λe=>AV.int (e.1:Nat)) (ρ:=[some s,some (.lst (aq kw)),some bJ,some (.lst (aq hs)),some dQ,some row,some row,some (b9 ac),some (.lst (cq (hs.getD 6 0) (3*ac.length))),some ja,some (.int (ac.length:Nat)),some (.lst T),some (.lst ((D.filter λe=>decide ((Y4 ac.length).filter (λi=>decide (e.1/32^i%32=0))=[hs.getD 7 0%ac.length])).map λe=>AV.int (e.1:Nat))),some (.lst (aq (D.map (·.2)))),none,none,none,none,none,none,none,none,none,none]) (ag rfl) (by refine aa (YX _) ?_;have:=jcW (λ(e:Nat×Nat)=>decide ((Y4 ac.length).filter (λi=>decide (e.1/32^i%32=0))=[hs.getD 7 0%ac.length])) D;lia);rw[YX,<-List.countP_eq_length_filter]at this;exact this
  ·refine(nZ (x:=24) (vs:=aq (ZP 2 (ac.length+1-2))) (g:=λv=>match v with | .int k=>.int (D.countP (λe=>decide (e.2=k.toNat)):Nat)|v=>v) (x5 (a:=2) aR (iF (y:=1) (ag rfl) aR) (by lia) (by lia)) rfl (by refine aa (YX _) ?_;refine aa jbx ?_;lia) (λv hv=>?_)).trans ?_
   ·refine au (Zk.mp hv) ?_;rintro k hk rfl;show _=some (AV.int (D.countP (λe=>decide (e.2=(k:Int).toNat)):Nat));refine aa (Zx _) ?_;refine(MX (l:=D.map (·.2)) (k:=k) (ag rfl) (ag rfl)).trans ?_;refine aa jfP ?_;rfl
   ·unfold aq;refine aa ZF ?_;refine aa ZF ?_;refine aa (show ac.length+1-2=ac.length-1 by lia) ?_;rfl
  ·refine aa (YX _) ?_;refine aa (YX _) ?_;refine aa (YX _) ?_;refine aa jbx ?_;show 2+_<=_
   lia
  ·unfold aq;refine aa ZO ?_;rfl
 have QZ:∀{ρ:aB},ρ[3]?=some (some (.lst (aq hs)))->ev (Fi (N+2)) [] ρ (.bin .Add (.c (.int 10)) (.bin .Mod (.bin .FloorDiv (.idx (.var 3) (.c (.int 7))) (.c (.int 60))) (.c (.int 23))))=some (.int (w:Nat)):=λh3=>by
  refine aa hw ?_;exact iF (x:=10) aR (dV (y:=23) (jB (y:=60) (E1 h3) aR (by decide) (by decide)) aR (by decide))
 refine aS (QZ rfl) ?_;refine mN (vs:=[.int (2^w:Nat),.int (VN (2^w) (0::ds):Nat)]) (gI (jD (x:=2) aR (ag rfl) (by decide) (by lia)) (gI ?_ mI)) rfl ?_
 ·have h2:=yF (n:=N+1) (m:=w) (is:=(0::ds).map Z0) (by refine aa (YX _) ?_;refine aa Zl ?_;lia) (by lia) (λd hd=>by
   refine au (Zk.mp hd) ?_;rintro x hx rfl;have:=Py x hx;show x<2^64;exact jai this (by decide))
  rw[xQ]at h2;refine cL (vs:=[.lst (aq (0::ds)),.int w]) (dM (ag rfl) (ag rfl)) (As (Ej _) rfl) ?_;refine aa (qG _) ?_;exact h2
 subst hT;refine aS (v:=.int (jp ac.length (VN (2^w) (0::ds):Nat))) ?_ hr;unfold jp;have hc:∀{ρ:aB},ρ[10]?=some (some (.int (ac.length:Nat)))->ev (Fi (N+2)) [] ρ (.cmp .Eq (.bin .Mod (.var 10) (.c (.int 2))) (.c (.int 1)))=some (.bool (decide (ac.length%2=1))):=λlT=>pS (y:=1) (dV (y:=2) (ag lT) aR (by decide)) aR;by_cases ho:ac.length%2=1
 ·refine aa (if_pos ho) ?_;exact pU ((hc rfl).trans (by refine aa (decide_eq_true ho) ?_;rfl)) (M3 (ag rfl))
 ·refine aa (if_neg ho) ?_;exact pT ((hc rfl).trans (by refine aa (decide_eq_false ho) ?_;rfl)) (ag rfl)
end
def Ot:dw->dw
 | .cons (.for_ _ _ b) _=>b
 |_=>.nil
def Es:dw:=Ot (pK 17 mR.body)
section
theorem QS (g:iw ac)(h8:hs.length=8)(sY:10<=w)(oG:w<=32)(M:uo ac.length w L de ds (λh=>(ci h ac ac.length).length))(hh:h=1\/h=2\/h=3):
 ∃xi xj,aE (Fi (N+5)) (qM s bJ hs dQ row ac ja j0 nh ds w (VN (2^w) ds:Nat) (jp ac.length (VN (2^w) ds:Nat)) (some (.int (h:Nat))) nK nL none none) [] Es =
  some (.next (qM s bJ hs dQ row ac ja j0 nh ds w (VN (2^w) ds:Nat) (jp ac.length (VN (2^w) ds:Nat)) (some (.int (h:Nat))) xi xj none none) []):=by
 have hn:=g.le;have zo:h<=3:=by lia
 refine aW (M.side h hh) λq hq=>?_;have qm:=M.W1;have Ph:1024<=2^w:=YY (by decide:1024<=2^10) (Zi (by decide) sY);have ki:2^w<=4294967296:=YY (Zi (by decide) oG) (by decide);have hP:(ci h ac ac.length).length<=243:=by
  refine YY (tA h ac ac.length) (YY (jdz zo _) (YY (Zi (by decide) hn) (by decide)))
 have fu:(aq hs)[7]?=some (.int (hs.getD 7 0:Nat)):=nn (ZG (id (jfb h8)));have EG:(jp ac.length (VN (2^w) ds:Nat)).natAbs=VN (2^w) ds:=by unfold jp;split<;>simp
 have O0:=NJ (N:=N+4) (ac:=ac) (A:=hs.getD 6 0) (h:=h) g zo (QR _);generalize Yy:jp ac.length (VN (2^w) ds:Nat)=side at *;generalize Yi:(ci h ac ac.length).length=dx at *;have hq:side=(dx:Int)+(((2^w:Nat):Int)+h)*q:=hq;generalize mX:2^w=base at *;have ot:=so (m:=(base:Int)+h) (q:=q) (r:=dx) (Zf dx) (by lia);have zk:=DR (m:=(base:Int)+h) (q:=q) (r:=dx) (Zf dx) (by lia);have hz:=so (m:=(base:Int)+h) (q:=q) (r:=0) (Zf 0) (by lia);rw[<-hq]at ot zk;have QB:(side-dx).fdiv ((base:Int)+h)=q:=by
  have e:side-dx=0+((base:Int)+h)*q:=by lia
  refine aa e ?_;exact hz.1
 have QC:∃sg:Int,(sg=1\/sg=-1)/\sg=1-((2*((h+hs.getD 7 0)%2):Nat):Int):=aN _ (by lia) rfl;refine au QC λsg FE QD=>?_;have key:(sg*side).fdiv (sg*((base:Int)+h))=q/\(sg*side).fmod (sg*((base:Int)+h))=sg*dx/\sg*((base:Int)+h)≠0/\(sg*((base:Int)+h)).natAbs<2^64/\(sg*side).natAbs<2^1000:=by
  have aZ:((base:Int)+h).natAbs<2^64:=by
   have:((base:Int)+h).natAbs=base+h:=rfl;refine aa this ?_;lia
  rcases FE with rfl|rfl
  ·refine aa (jhA _) ?_;refine aa (jhA _) ?_;refine aa (jhA _) ?_;exact FY ot.1 ot.2 (by lia) aZ (by refine aa EG ?_;exact qm)
  ·refine aa (jgf _) ?_;refine aa (jgf _) ?_;refine aa (jgf _) ?_;exact FY zk.1 zk.2 (by lia) (by refine aa (jdO _) ?_;exact aZ) (by refine aa (jdO _) ?_;refine aa EG ?_;exact qm)
 refine Dy key λk1 k2 k3 k4 k5=>?_;have oC:small sg=true:=by
  unfold small;refine decide_eq_true ?_;rcases FE with rfl|rfl<;>decide
 refine jO (some (.int (dx:Nat))) (some (.int sg)) ?_;refine aS (v:=.int (dx:Nat)) (cL (vs:=[b9 ac,.lst (cq (hs.getD 6 0) (3*ac.length)),.int (h:Nat)]) (gJ (ag rfl) (ag rfl) (ag rfl)) (SY (Ek ac) (OG _ _) rfl) O0) ?_;refine aS (v:=.int sg) ?_ ?_
 ·refine aa QD ?_;exact jE bK (mK (x:=2) aR (dV (y:=2) (iF (ag rfl) (fX (l:=aq hs) (k:=7) (ag rfl) aR fu (by refine aa (YX _) ?_;lia))) aR (by decide)) (jcn (by decide)))
 refine du (uS ?_ ?_) bH ?_
 ·refine(yh (b:=true) (tB (N:=N+4) (is:=[q,sg*dx]) (jcn rfl) ?_ ?_ (by simp))).trans rfl
  ·have h4:=yG (N:=N) (a:=sg*side) (b:=sg*((base:Int)+h)) k5 k3 k4;rw[k1,k2]at h4;refine cL (vs:=[.int (sg*side),.int (sg*((base:Int)+h))]) (dM (uR (ag rfl) (ag rfl) (jcn oC)) (uR (ag rfl) (nX (x:=(base:Int)) (y:=(h:Int)) ?_ (ag rfl)) (jcn oC))) rfl h4;refine rwj mX ?_;exact ag rfl
  ·refine si (vs:=[.int q,.int (sg*dx)]) (dM ?_ (uR (ag rfl) (ag rfl) (jcn oC))) (show 2<=100000 by decide);refine rwj QB ?_;refine yc (jE (ag rfl) (ag rfl)) (nX (x:=(base:Int)) (y:=(h:Int)) ?_ (ag rfl)) (by lia) ?_
   ·refine rwj mX ?_;exact ag rfl
   ·have:((base:Int)+h).natAbs=base+h:=rfl;refine aa this ?_;lia
 ·have qo:(dg h (bA h dx) dx).length<=1000:=by
   rw[r0];unfold bA Zj;have:dx.log2<8\/dx=0:=by
    by_cases h0:dx=0
    ·exact jfn h0
    ·exact jcn ((jeP h0).mpr (by lia))
   refine YY (jgd _ _) ?_;split
   ·lia
   ·refine aa (ZN _) ?_;rcases this with h1|h1
    ·lia
    ·have h0:Nat.log2 0=0:=by decide
     refine aa h1 ?_;refine aa h0 ?_;lia
  have h1:=uY (n:=N+4) (a:=dx) (m:=h) (ZE hP (be (by decide:243<2^8) (Zi (by decide) (by decide)))) (by lia) (bw zo rfl);have h2:=yF (n:=N+4) (m:=h) (is:=dg h (bA h dx) dx) qo (by lia) (λd hd=>by
   rw[rZ]at hd;refine au (Zk.mp hd) ?_;rintro x hx rfl;have:=xT h _ _ x hx;show x<2^64;exact be this (Zi (by decide) (by lia)))
  rw[back h dx (by lia)]at h2;have c1:∀{ρ:aB},ρ[20]?=some (some (.int (dx:Nat)))->ρ[19]?=some (some (.int (h:Nat)))->ev (Fi (N+5)) [] ρ (.call (.user 2) (.cons (.call (.user 1) (.cons (.var 20) (.cons (.var 19) .nil))) (.cons (.var 19) .nil)))=some (.int (dx:Nat)):=λOI El =>
   cL (vs:=[.lst (bC (dg h (bA h dx) dx)),.int (h:Nat)]) (dM (cL (vs:=[.int (dx:Nat),.int (h:Nat)]) (dM (ag OI) (ag El)) rfl h1) (ag El)) (As (Ei _) rfl) h2
  refine(yg (x:=(dx:Int)) (y:=dx) (c1 rfl rfl) (ag rfl)).trans ?_;refine aa (decide_eq_true rfl) ?_;rfl
 ·exact bH
end
theorem Nc (h1:ev Φ σ ρ a=some x)(h2:ev Φ σ ρ b=some y)(h3:ev Φ σ ρ c=some z)(h4:ev Φ σ ρ d=some u):bX Φ σ ρ (.cons a (.cons b (.cons c (.cons d .nil))))=some [x,y,z,u]:=by
 rw[mM,h1];dsimp only;rw[gJ h2 h3 h4]
section
theorem Lv (gr:iw ac)(f:o4 ac)(hr:ρ.length=24)(lT:∀w:List (Option AV),(ρ++w)[10]?=some (some (.int (ac.length:Nat))))(kY:∀w:List (Option AV),(ρ++w)[11]?=some (some (.lst ((bL ac (2^ac.length-1)).map cR)))):
 ev (Fi N) [] ρ (.call .sum (.cons (.comp 1 (.cons 24 (.range (.cons (.bin .Pow (.c (.int 2)) (.var 10)) .nil)) .nil (.done (.bin .Mult (.call .len (.cons (.idx (.var 11) (.var 24)) .nil)) (.call .len (.cons (.idx (.var 11) (.bin .Sub (.un .USub (.c (.int 1))) (.var 24))) .nil)))))) .nil))=some (.int (i6 ac:Nat)):=by
 have hn:=gr.le;have mU:2^ac.length<=32:=YY (Zi (by decide) hn) (by decide);have Ep:=lT [];rw[ZZ]at Ep;refine uT (l:=(Y4 (2^ac.length)).map λS=>(tab ac S).length*(tab ac (2^ac.length-1-S)).length) ?_ (jai f.dlt (by decide));refine(nZ (x:=24) (vs:=aq (Y4 (2^ac.length))) (g:=λv=>match v with | .int k=>.int ((tab ac k.toNat).length*(tab ac (2^ac.length-1-k.toNat)).length:Nat)|v=>v) (j8 (jD (x:=2) aR (ag Ep) (by decide) (bw hn rfl)) (bw mU rfl)) hr (by refine aa (YX _) ?_;refine aa jab ?_;exact bw mU rfl) (λv hv=>?_)).trans ?_
 ·refine au (Zk.mp hv) ?_;rintro S hS rfl;have hS:=ZH.mp hS;show _=some (AV.int ((tab ac (S:Int).toNat).length*(tab ac (2^ac.length-1-(S:Int).toNat)).length:Nat));refine aa (Zx _) ?_;have t0:(ρ++[some (AV.int (S:Int))])[24]?=some (some (.int (S:Int))):=by
   refine aa (Zd (ZG hr)) ?_;refine aa hr ?_;rfl
  have l1:=Bi hn (S:=S) (be hS mU);have l2:=Bi hn (S:=2^ac.length-1-S) (by omega);refine mK (Dm (D:=tab ac S) (fX (l:=(bL ac (2^ac.length-1)).map cR) (k:=S) (ag (kY _)) (ag t0) (Bl ac hS) (by refine aa (oT _) ?_;exact bw mU rfl)) (bw l1 rfl)) (Dm (D:=tab ac (2^ac.length-1-S)) (Dg (l:=(bL ac (2^ac.length-1)).map cR) (k:=S) (ag (kY _)) (jE rfl (ag t0)) (by refine aa (oT _) ?_;exact hS) (by refine aa (oT _) ?_;exact Bl ac (by omega)) (by refine aa (oT _) ?_;exact bw mU rfl)) (by lia)) (jcn (ZE l1 (by decide)))
 ·unfold aq;refine aa ZF ?_;refine aa ZF ?_;rfl
theorem Sc (g:iw ac)(f:o4 ac)(sY:10<=w)(oG:w<=32)(iK:nh.length=L)(hY:ds.length=ac.length+1)(M:uo ac.length w L (i6 ac) ds (λh=>(ci h ac ac.length).length)):
 aE (Fi (N+5)) (qM s bJ hs dQ row ac ja j0 nh ds w (VN (2^w) ds:Nat) (jp ac.length (VN (2^w) ds:Nat)) uv nK nL none none) [] (pK 18 mR.body)=some (.ret (.bool true)):=by
 have hn:=g.le;have Ph:1024<=2^w:=YY (by decide:1024<=2^10) (Zi (by decide) sY);have ki:2^w<=4294967296:=YY (Zi (by decide) oG) (by decide);have y5:=M.Ll;have Fx:=M.quo;have qm:=M.W1;have Pa:=M.q1;have Yh:=f.dpos;have vk:=f.dlt;refine aW M.two λq2 Fv=>?_;have tb:=M.tback;have bk:=M.back;generalize hQ:VN (2^w) (iq ds ac.length)=Q at *;have mX:∀{ρ:aB},ρ[16]?=some (some (.int ((2^w:Nat):Int)))->ev (Fi (N+5)) [] ρ (.var 16)=some (.int ((2^w:Nat):Int)):=λh=>ag h;generalize hW:VN (2^w) ds=W at *;have Fb:∀{ρ:aB},ρ[13]?=some (some (.lst (aq nh)))->ev (Fi (N+5)) [] ρ (.call .len (.cons (.var 13) .nil))=some (.int (L:Nat)):=λsG=>by
  have:=yf (Φ:=Fi (N+5)) (σ:=[]) (l:=aq nh) (ag sG) (by refine aa (YX _) ?_;lia)
  rwa [YX,iK]at this
 have EM:∀{ρ:aB},ρ[16]?=some (some (.int ((2^w:Nat):Int)))->ev (Fi (N+5)) [] ρ (.bin .Sub (.var 16) (.c (.int 1)))=some (.int ((2^w-1:Nat):Int)):=λh=>se (y:=1) (mX h) aR (by lia);have Pb:((W:Int)-(L:Int)).fdiv ((2^w-1:Nat):Int)=(Q:Int):=by
  have e:(W:Int)-(L:Int)=0+((2^w-1:Nat):Int)*(Q:Int):=by
   refine aa Fx ?_;refine aa (jbn _ _) ?_;refine aa (jaV _ _) ?_;lia
  refine aa e ?_;exact(so (Zf 0) (by lia)).1
 refine aS (v:=.int (Q:Nat)) ?_ ?_
 ·refine rwj Pb ?_;exact yc (jE (ag rfl) (Fb rfl)) (EM rfl) (by lia) (by refine aa (ZN _) ?_;lia)
 have EP:W/(2^w-1)=Q/\W%(2^w-1)=L:=by
  refine aa Fx ?_;refine aa (jeR _ _ (by lia)) ?_;refine aa (jem (by lia)) ?_;rewrite [jdT];refine aa (jfH (by lia)) ?_;exact⟨by lia,rfl⟩
 have h3:=DT (N:=N+3) (a:=W) (b:=2^w-1) qm (by lia) (by lia);rw[EP.1,EP.2]at h3;have oF:(iq ds ac.length).length=ac.length:=by unfold iq;refine aa (YX _) ?_;refine aa jab ?_;rfl
 refine du (uS ?_ ?_) bH ?_
 ·refine(yh (b:=true) (tB (N:=N+4) (is:=[(Q:Int),(L:Int)]) (jcn rfl) ?_ ?_ (by simp))).trans rfl
  ·exact cL (vs:=[.int W,.int ((2^w-1:Nat):Int)]) (dM (ag rfl) (EM rfl)) rfl h3
  ·exact si (vs:=[.int Q,.int L]) (dM (ag rfl) (Fb rfl)) (show 2<=100000 by decide)
 ·refine(yh (b:=true) (tB (N:=N+4) (is:=(iq ds ac.length).map Z0) (jfn rfl) ?_ ?_ (by refine aa (YX _) ?_;refine aa oF ?_;lia))).trans rfl
  ·have h1:=uY (n:=N+4) (a:=Q) (m:=w) Pa (by lia) (by lia);rw[tb]at h1;exact cL (vs:=[.int Q,.int w]) (dM (ag rfl) (ag rfl)) rfl h1
  ·refine(nZ (x:=24) (vs:=aq (Y4 ac.length)) (g:=λv=>match v with | .int k=>.int ((ds.drop (k.toNat+1)).sum:Nat)|v=>v) (j8 (ag rfl) (by lia)) rfl (by refine aa (YX _) ?_;refine aa jab ?_;lia) (λv hv=>?_)).trans ?_
   ·refine au (Zk.mp hv) ?_;rintro k hk rfl;have hk:=ZH.mp hk;show _=some (AV.int ((ds.drop ((k:Int).toNat+1)).sum:Nat));refine aa (Zx _) ?_;refine uT (l:=ds.drop (k+1)) ((M8 (x:=aq ds) (k:=k+1) (ag rfl) (iF (y:=1) (ag rfl) aR) (by refine aa (YX _) ?_;lia)).trans ?_) ?_
    ·unfold aq;refine aa List.map_drop ?_;rfl
    ·have h1:=wy 1000 (ds.drop (k+1)) (λx hx=>ZI (M.dl x (jeG hx)));have h2:(ds.drop (k+1)).length<=6:=by refine aa jbv ?_;lia
     have h3:(ds.drop (k+1)).length*1000<=6*1000:=jeO _ h2;exact ZE h1 (ZE h3 (by decide))
   ·unfold aq iq;refine aa ZF ?_;refine aa ZF ?_;refine aa ZF ?_;rfl
 refine aS (v:=.int (i6 ac:Nat)) (Lv g f rfl (λY=>rfl) (λY=>rfl)) ?_;refine dW (v:=.bool true) (De ?_ ?_) rfl
 ·refine tB (N:=N+4) (is:=ds.map Z0) (jfn rfl) ?_ ?_ (by refine aa (YX _) ?_;lia)
  ·have h1:=uY (n:=N+4) (a:=W) (m:=w) qm (by lia) (by lia);rw[bk]at h1;exact cL (vs:=[.int W,.int w]) (dM (ag rfl) (ag rfl)) rfl h1
  ·refine(ag (v:=.lst (aq ds)) rfl).trans ?_;refine aa (qG _) ?_;rfl
 ·generalize Yg:i6 ac=de at *;generalize hm:((2^w:Nat):Int)-2=m at *;have vE:(de:Int)<m:=by lia
  have oz:(2:Int)-((2^w:Nat):Int)=-m:=by lia
  have e1:(W:Int)=-((m-de)+m*(-q2-1)):=by
   refine aa Fv ?_;rewrite [jfQ];refine aa (jeT _ _) ?_;refine aa (jhE _) ?_
   lia
  have hd:=DR (m:=m) (q:=-q2-1) (r:=m-de) (by lia) (by lia);rw[<-e1]at hd;have hz:((de:Int)-W).fdiv m=-q2:=by
   have e:(de:Int)-W=0+m*(-q2):=by refine aa Fv ?_;refine aa (jeT _ _) ?_;lia
   refine aa e ?_;exact(so (by lia) (by lia)).1
  have zw:m.natAbs<2^64:=by lia
  have a1:=yG (N:=N) (a:=0) (b:=-m) (by decide) (by lia) (by refine aa (jdO _) ?_;exact zw);have a2:=yG (N:=N) (a:=(W:Int)) (b:=-m) (by refine aa (ZN _) ?_;exact qm) (by lia) (by refine aa (jdO _) ?_;exact zw);rw[Int.zero_fdiv,Int.zero_fmod]at a1;rw[hd.1,hd.2]at a2;have Iv:∀{ρ:aB},ρ[16]?=some (some (.int ((2^w:Nat):Int)))->ev (Fi (N+5)) [] ρ (.bin .Sub (.c (.int 2)) (.var 16))=some (.int (-m)):=λlU=>by
   refine rwj oz ?_;exact jE bK (mX lU)
  have Xt:∀{ρ:aB},ρ[16]?=some (some (.int ((2^w:Nat):Int)))->ev (Fi (N+5)) [] ρ (.bin .Sub (.var 16) (.c (.int 2)))=some (.int m):=λlU=>by
   refine rwj hm ?_;exact jE (mX lU) bK
  refine tB (N:=N+4) (is:=[0,0,-q2-1,-(m-de)]) (jcn rfl) ?_ ?_ (by simp)
  ·exact ya (x:=[.int 0,.int 0]) (y:=[.int (-q2-1),.int (-(m-de))]) (cL (vs:=[.int 0,.int (-m)]) (dM bK (Iv rfl)) rfl a1) (cL (vs:=[.int W,.int (-m)]) (dM (ag rfl) (Iv rfl)) rfl a2) (show 4<=100000 by decide)
  ·have t1:∀{ρ:aB},ρ[23]?=some (some (.int (de:Nat)))->ρ[17]?=some (some (.int (W:Nat)))->ρ[16]?=some (some (.int ((2^w:Nat):Int)))->ev (Fi (N+5)) [] ρ (.bin .Sub (.bin .FloorDiv (.bin .Sub (.var 23) (.var 17)) (.bin .Sub (.var 16) (.c (.int 2)))) (.c (.int 1)))=some (.int (-q2-1)):=λyZ OZ lU=>by
    refine rwj hz ?_;exact jE (yc (jE (ag yZ) (ag OZ)) (Xt lU) (by lia) zw) bK
   have t2:∀{ρ:aB},ρ[23]?=some (some (.int (de:Nat)))->ρ[16]?=some (some (.int ((2^w:Nat):Int)))->ev (Fi (N+5)) [] ρ (.bin .Sub (.bin .Add (.var 23) (.c (.int 2))) (.var 16))=some (.int (-(m-de))):=λyZ lU=>by
    refine(jE (nX (ag yZ) bK) (mX lU)).trans ?_;exact congrArg (λz=>some (AV.int z)) (by lia)
   have i0:∀{ρ:aB},ev (Fi (N+5)) [] ρ (.c (.int 0))=some (.int 0):=bK;exact si (vs:=[.int 0,.int 0,.int (-q2-1),.int (-(m-de))]) (Nc i0 i0 (t1 rfl rfl rfl) (t2 rfl rfl)) (show 4<=100000 by decide)
end
theorem Sh (dN:List Int)(aO:dN.length<=100000):aE (Fi (N+5)) (some (.lst (bC dN))::Ze 23 none) [] mR.body=some (.ret (.bool true)):=by
 refine bB (Sa (N:=N+3) dN aO _ rfl) λac dQ g hA=>?_;refine hA _ ?_;generalize vq:qp (dN.take 60)=hs;have h8:hs.length=8:=by refine rwj vq ?_;exact EQ _
 have f:=OS g;have Yo:=ZQ (hs.getD 7 0/60) (show 0<23 by decide);have M:=Sg f g (w:=10+hs.getD 7 0/60%23) (ZD 10 (hs.getD 7 0/60%23)) (by lia);refine aW (Sb (N:=N+3) (ac:=ac) (hs:=hs) (s:=.lst (bC dN)) (bJ:=.lst (bC (dN.take 60))) (dQ:=dQ) (row:=.lst (aq (dA hs))) (ja:=.flt (qB (hs.getD 6 0%5))) (w:=10+hs.getD 7 0/60%23) g f h8 rfl M) λj0 hB=>?_;refine hB _ ?_;have qo:(dT (tab ac (2^ac.length-1)) ac.length).length=ac.length:=by
  have:=g.pos;unfold dT;refine aa Zl ?_;refine aa (YX _) ?_;refine aa jbx ?_;simp[*]
 generalize hw:10+hs.getD 7 0/60%23=w at *;obtain⟨av,an,h1,uv,nK,nL,rfl,rfl⟩:=sw (f:=λρ σ v=>aE (Fi (N+5)) (ρ.set 19 (some v)) σ Es) (g:=λ(i:Nat)=>AV.int i)
  (I:=λY ρ σ=>∃uv nK nL,ρ=qM (.lst (bC dN)) (.lst (bC (dN.take 60))) hs dQ (.lst (aq (dA hs))) ac (.flt (qB (hs.getD 6 0%5))) j0 ((tab ac (2^ac.length-1)).map (·.2)) (0::dT (tab ac (2^ac.length-1)) ac.length) w (VN (2^w) (0::dT (tab ac (2^ac.length-1)) ac.length):Nat) (jp ac.length (VN (2^w) (0::dT (tab ac (2^ac.length-1)) ac.length):Nat)) uv nK nL none none/\σ=[]) (ZP 1 3) [] (qM (.lst (bC dN)) (.lst (bC (dN.take 60))) hs dQ (.lst (aq (dA hs))) ac (.flt (qB (hs.getD 6 0%5))) j0 ((tab ac (2^ac.length-1)).map (·.2)) (0::dT (tab ac (2^ac.length-1)) ac.length) w (VN (2^w) (0::dT (tab ac (2^ac.length-1)) ac.length):Nat) (jp ac.length (VN (2^w) (0::dT (tab ac (2^ac.length-1)) ac.length):Nat)) none none none none none) []
  ⟨none,none,none,rfl,rfl⟩ (by
   rintro p x q ρ σ e ⟨uv,nK,nL,rfl,rfl⟩;have hx:x∈ZP 1 3:=by
    have e:ZP 1 3=p++x::q:=e;refine aa e ?_;simp
   have hx:=jaN.mp hx;refine fq (QS (N:=N) (ac:=ac) (hs:=hs) (s:=.lst (bC dN)) (bJ:=.lst (bC (dN.take 60))) (dQ:=dQ) (row:=.lst (aq (dA hs))) (ja:=.flt (qB (hs.getD 6 0%5))) (j0:=j0) (nh:=(tab ac (2^ac.length-1)).map (·.2)) (h:=x) (nK:=nK) (nL:=nL) g h8 (by lia) (by lia) M (by lia)) λxi xj ht=>?_;exact⟨_,_,ht,_,xi,xj,rfl,rfl⟩)
 refine kX (vs:=aq (ZP 1 3)) (nW (x5 (a:=1) (n:=4) aR aR (bw jbB rfl) (bw jbB rfl))) h1 ?_;exact Sc g f (by lia) (by lia) (by refine aa (YX _) ?_;rfl) (by refine aa Zl ?_;refine aa qo ?_;rfl) M
theorem UE:wY:=λdN aO=>by
 have:=fB (N:=7) (as:=[.lst (dN.map .int)]) (v:=.bool true) On rfl (Sh (N:=2) dN (bw aO rfl));exact this
end
section
open PySem PySem.W PyProof.Rows
set_option backward.match.sparseCases true
abbrev lw:=jaj
abbrev lr:=lw.row
theorem JD:(["vars","dir","locals"]:List Str).filter (readsOut lw.prog lw.prog.main.body)=[]:=by decide +kernel
theorem Sx:sreFenced lw.prog.main=true:=by decide +kernel
theorem Sy:((moduleNames lw.prog.main.body).isEmpty||lookedIntoSs (moduleNames lw.prog.main.body) lw.prog.main.body)=true:=by decide +kernel
theorem Sz:namesResolve lw.prog=true:=by decide +kernel
theorem SA:lw.prog.boundNames.all (λn=>!worldNames.contains n)=true:=by decide +kernel
theorem SD:noRoadLSs { strict:=!(importedModules lw.prog.main.body).all cThrough.contains,foot:=none,bare:=(["vars","dir","locals"]:List Str).filter (readsOut lw.prog lw.prog.main.body) } lw.prog.main.body=true:=by
 rw[JD];decide +kernel
theorem SE:namesMeet lw.prog lw.prog.main.body (λY n=>attrL n)=true:=by decide +kernel
theorem dS {a b:Bool}(x:a=true)(y:b=true):(a&&b)=true:=by rw[x,y];rfl
theorem SG:looksOpen lr.prog=true:=dS (dS (dS (dS (dS Sx Sy) Sz) SA) SD) SE
theorem Un:lr.partSaid=true:=by
 unfold OpenRow.partSaid;rw[show looksOpen lr.prog=true from SG];decide +kernel
theorem U4:lr.wellSaid=true:=dS (dS Un (by decide +kernel)) (by decide +kernel)
theorem Gn:lw.wellSaid=true:=by
 unfold OpenLaw.wellSaid;refine dS (dS (dS (dS (dS (dS (dS (dS (dS (dS (dS (dS (dS (dS (dS (dS (dS (dS U4 ?_) ?_) ?_) ?_) ?_) ?_) ?_) ?_) ?_) ?_) ?_) ?_) ?_) ?_) ?_) ?_) ?_) ?_<;>decide +kernel
set_option maxHeartbeats 8000000 in
theorem cw:jaj.Holds :=
 ⟨Gn,U1 UE (row_said Gn) ⟨[.list []],by decide +kernel,by decide +kernel⟩ ⟨rfl,rfl,rfl,rfl,rfl,by decide +kernel⟩ (by decide +kernel)⟩
end
end Mine.Tactic
theorem PySem.Challenge.cw_ta0127_01_holds : PySem.Challenge.rw_ta0127_01.Holds := by
 exact Mine.Tactic.cw
