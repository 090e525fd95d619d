import PyProof.Rows.All
import PyProof.FactsLen
import PyProof.Methods
import PyProof.TupleIter
import PyProof.FString4
import PyProof.CompFree
import PyProof.EqKinds
import PyProof.NeKinds
import PyProof.SliceStr2
import PyProof.GenQ
import PyProof.IsiH_tuple
import PyProof.NsDelKeeps
import PyProof.Rows.RuleIs2
import PyProof.SliceMore
import PyProof.Rows.RegTopCatchB
import PyProof.Rows.SeqMore
import PyProof.Rows.SeqItemCall
import PyProof.TupleOfSeq
import PyProof.Rows.SortRuns
import PyProof.Rows.RaiseClass
import PyProof.Rows.ChunkLeaf
import Flt.RightMore
import Flt.Ops
import Flt.RightSqrt
import Flt.Calls
import Flt.Calls2
import OpenK.KCell
import Open.Tree
import KE.KLam
import KE.KFmtOwn
import KE.KLcPair
import KE.KSetIn
import KE.KTryMore
import Wide.FinOn
import OpenK.AllK
import Wide.All
import Lean
import PySem.Challenge.RW_kq0026_03
set_option Elab.async false
set_option compiler.extract_closed false
set_option linter.all false
set_option maxHeartbeats 8000000
set_option maxRecDepth 100000
set_option autoImplicit false
set_option genInjectivity false
set_option genSizeOf false
namespace Mine
open Array renaming getElem?_eq_getElem->ZV,toList_append->YX,getElem?_toList->W3,perm_iff_toList_perm->UE,length_toList->Jj,toList_reverse->Va,toList_extract->Vb
open Bool renaming false_ne_true->Zn,false_eq_true->UH
open Eq renaming trans->ZF,symm->ZR
open ForInStep renaming yield->W0
open Int renaming natAbs_mul->Yu,natAbs_natCast->Y9,natCast_mul->YB,toNat_natCast->XM,eq_ofNat_of_zero_le->WM,natCast_nonneg->Ul,add_zero->U8,lt_trans->Jd,toNat_of_nonneg->Jt,natAbs_neg->Jy,zero_mul->JF,fmod_nonneg_of_pos->JG
open List renaming mem_singleton->Zk,getElem?_eq_some_iff->Z5,mem_cons->Z7,getElem?_eq_getElem->ZE,mem_of_getElem?->ZG,size_toArray->ZJ,replicate->ZM,mem_map->ZZ,getElem?_append_right->Yd,map_cons->YD,getElem?_append_left->YK,pairwise_iff_getElem->YU,length_map->YW,mem_append->Xn,sublist_append_right->X0,mem_append_left->X8,mem_append_right->XD,getElem?_toArray->XE,sum_cons->XF,mem_map_of_mem->XG,getElem?_eq_none->XS,nodup_cons->XT,getElem?_set_ne->XZ,not_mem_nil->Wf,eq_of_mem_replicate->Wg,forall_mem_cons->Wr,drop_eq_getElem_cons->Ww,append_nil->W9,perm_append_comm_assoc->WL,append_assoc->WR,of_mem_zip->WY,map_append->WZ,length_take->Uj,nodup_nil->Un,getElem?_map->Uv,length_append->UG,length_replicate->UJ,extract_eq_take_drop->UO,reverse_perm->UW,pairwise_append->UX,mem_cons_of_mem->UY,map_map->UZ,getElem_mem->Jq,countP_cons_of_pos->Jr,countP_cons_of_neg->Js,take_of_length_le->J8,forIn_cons->JK,take_append_drop->JO,take_length->Vi,length_cons->Vj,countP_cons->Vk,getElem?_eq_none_iff->Vm,getElem?_set->GX
open List.Sublist renaming refl->Yq,cons->WD
open Nat renaming le_trans->Zl,le_add_right->Zx,le_refl->Z6,lt_of_lt_of_le->Z9,lt_of_succ_lt->ZO,le_of_lt->ZU,lt_of_le_of_lt->Yg,add_le_add_left->Yh,mul_le_mul_right->Yn,ne_of_gt->Ys,zero_le->Yt,lt_trans->Yx,two_pow_pos->Y4,add_lt_add_left->YF,le_add_left->YL,lt_succ_self->YM,pow_add->Xb,mul_le_mul_left->Xc,not_lt->Xp,mul_le_mul->Xs,succ_le_succ->Xv,le_of_eq->Xw,lt_irrefl->Xy,lt_of_le_of_ne->Xz,ne_of_lt->X7,succ_ne_zero->XA,le_of_lt_succ->XU,mul_pos->Wa,le_succ->Wb,mul_assoc->Wj,le_of_ble_eq_true->Wk,add_le_add_right->Ws,add_le_add->Wt,pos_of_ne_zero->WH,mul_comm->WW,le_sub_one_of_lt->Ur,zero_lt_of_lt->Uw,lt_trichotomy->Ux,lt_add_of_pos_right->Uy,add_sub_of_le->Uz,not_lt_of_le->UC,not_le_of_lt->UD,succ_pos->Jb,pow_le_pow_right->Jc,add_assoc->Ji,one_pos->J6,one_mul->J7,le_of_succ_le_succ->JE,not_lt_zero->JM,lt_of_add_lt_add_left->Vq
open Option.some renaming inj->Zz
open PyProof.Rows renaming callWith_builtin1->Zs,args_nil->ZC,Keyed->ZQ,wpS_bind->ZX,SortSt->Yj,len_list->Yo,envOf->Y0,envOfC->Y3,arrOf->YI,wpS_pure->YO,pendingOf->YZ,item_listL->X9,Subscript_->Wd,add_str->W2,callWith_type1->W5,mod_int->J5,wpS_modify->JT,wpS->Vu,AllBare->VL
open PySem renaming wpAny_bind->Zf,Value->Zh,Shared->Zi,wpAny_pure->Zm,Addr->Zo,wpAny->Zp,recursionLimit->Zr,wpAny_truthy_bool->Zu,mainGlobals->Zw,wpAny_execs_nil->Z4,sizeLine_eq->ZW,wpAny_holding->Yc,codeAny->Yk,wpAny_mono->Yr,Str->Yz,wpAny_Constant_bool->Y8,wpAny_field->YA,Around->YE,wpAny_seqItems->YJ,TriplesOk->YQ,wpAny_callSpecial?_slot->YY,wpAny_newObj_type->Xa,slot_listiter_next->Xd,wpAny_Constant_float->Xf,cellsFrom->Xi,wpAny_of_eq->Xk,Obj->Xl,wpAny_rule->Xm,rawInt->Xr,Heap->Xx,Model->XJ,wpAny_setField->XY,wpAny_Constant_none->Wm,plainId_quiet->Wv,starEach->W4,Tok->W7,wpAny_pyIter_list->W8,Arguments->WE,cStatics->WQ,NoneBooked->Uc,World->Um,wpAny_Call_Name_kw->Up,seqItems?->Uq,wpAny_attempt->Ut,wpAny_UnaryOp->Uu,wpAny_isTrue_BoolOp->UA,entry_listiter_next->UB,args_listiter_next->UR,Scope->US,compEnvC->Jl,codeAny_call_builtin->Jm,builtinsNs->Jx,entryFor_of_fast->JD,Stmt->JL,wpAny_throw->JN,closureFor->JU,Params->JV,wpAny_updateSeq->JW,wpAny_specialOf->JX,binaryOp->JY,wpAny_handled->Vd,cLine->Vh,wpAny_newFunctionEnv->Vv,wpAny_allTrue_Or_nil->Vw,builtinKind->Vy,Expr->Vz,Env->V0,storeName->V6,Pos->V7,callSpecialIfBoundUnlessNone?->Gs
open PySem.BindsTo renaming of_eq->YG
open PySem.Builtin.List renaming listExtendWith->XI,listSameRef->WX,listLengthHint->Jz
open PySem.Builtin.Math renaming tlFma->Wz,tlToFloat->Jf
open PySem.Builtin.SmallTypes renaming nextOf->YN,ownedTupleIsFree->XN
open PySem.Builtin.Str renaming strSliceIndices->Wc
open PySem.Calls renaming getMethod_list_append->U5,evalArgs_plain->Vx
open PySem.F renaming slot_tuple_iterator_next->Vn
open PySem.Float64 renaming isZero->Yp,ofInt->Yy,mul->X3,div->X4,sub->Wx,add->WC,cmp->WS,zero->Uh,neg->U1,sqrt->UN
open PySem.Heap renaming get?_push_of_some->Z0,get?_push_size->ZK,get?_update_other->Yw,lt_size->YH,get?_update_self->YS,size_push->Xq,MadeExc->Ja,SameBut->J9
open PySem.Obj renaming mapFields->ZP,mapSeq->Yb
open PySem.SeqAt renaming EqAt->Bw
open PySem.Str renaming ofString->Zj
open PySem.Value renaming ref->ZS,none->Yl,type->Ug,float->J0,int->Vg
open PySem.W renaming tabObj->Ye,looks_findIn->WK,Looks->Ui,looks_mroIn->UK,callWith_K->UQ,handedIn->Jk,fnOf->JC
open PySem.W.Looks renaming ld->JZ
noncomputable abbrev Za:=PySem.Value->PySem.Shared->Prop
noncomputable abbrev Zb:=PySem.Flow->PySem.Shared->Prop
noncomputable abbrev Zc:=PySem.Result->PySem.Shared->Prop
noncomputable abbrev Zd:=List (PySem.Addr×PySem.Obj)
noncomputable abbrev Ze:=PySem.Str->Option PySem.Value
open PySem
section
theorem zA{p1:Prop}{p2:Prop}{b:Prop}(h:p1/\p2)(k:p1->p2->b):b:=by
 obtain ⟨h1,h2⟩:=h; exact k h1 h2
theorem zAA{p1:Prop}{p2:Prop}{p3:Prop}{b:Prop}(h:p1/\p2/\p3)(k:p1->p2->p3->b):b:=by
 obtain ⟨h1,h2,h3⟩:=h; exact k h1 h2 h3
theorem Fo{p1:Prop}{p2:Prop}{p3:Prop}{p4:Prop}{b:Prop}(h:p1/\p2/\p3/\p4)(k:p1->p2->p3->p4->b):b:=by
 obtain ⟨h1,h2,h3,h4⟩:=h; exact k h1 h2 h3 h4
theorem Zlc{p1:Prop}{p2:Prop}{p3:Prop}{p4:Prop}{p5:Prop}{b:Prop}(h:p1/\p2/\p3/\p4/\p5)(k:p1->p2->p3->p4->p5->b):b:=by
 obtain ⟨h1,h2,h3,h4,h5⟩:=h; exact k h1 h2 h3 h4 h5
theorem Zbi{p1:Prop}{p2:Prop}{p3:Prop}{p4:Prop}{p5:Prop}{p6:Prop}{b:Prop}(h:p1/\p2/\p3/\p4/\p5/\p6)(k:p1->p2->p3->p4->p5->p6->b):b:=by
 obtain ⟨h1,h2,h3,h4,h5,h6⟩:=h; exact k h1 h2 h3 h4 h5 h6
theorem Zii.{u1}{α1:Sort u1}{p1:Prop}{p2:Prop}{p3:α1->Prop}{p4:α1->Prop}{b:Prop}(h:p1/\p2/\∃ x1,p3 x1/\p4 x1)(k:p1->p2->∀ x1,p3 x1->p4 x1->b):b:=by
 obtain ⟨h1,h2,x1,h3,h4⟩:=h; exact k h1 h2 x1 h3 h4
theorem zAEA.{u1}{α1:Sort u1}{p1:Prop}{p2:α1->Prop}{p3:α1->Prop}{b:Prop}(h:p1/\∃ x1,p2 x1/\p3 x1)(k:p1->∀ x1,p2 x1->p3 x1->b):b:=by
 obtain ⟨h1,x1,h2,h3⟩:=h; exact k h1 x1 h2 h3
theorem Zlb.{u1}{α1:Sort u1}{p1:Prop}{p2:α1->Prop}{p3:α1->Prop}{p4:α1->Prop}{b:Prop}(h:p1/\∃ x1,p2 x1/\p3 x1/\p4 x1)(k:p1->∀ x1,p2 x1->p3 x1->p4 x1->b):b:=by
 obtain ⟨h1,x1,h2,h3,h4⟩:=h; exact k h1 x1 h2 h3 h4
theorem Zje.{u1,u2,u3}{α1:Sort u1}{α2:Sort u2}{α3:Sort u3}{p1:Prop}{p2:α1->α2->α3->Prop}{p3:α1->α2->α3->Prop}{b:Prop}(h:p1/\∃ x1,∃ x2,∃ x3,p2 x1 x2 x3/\p3 x1 x2 x3)(k:p1->∀ x1,∀ x2,∀ x3,p2 x1 x2 x3->p3 x1 x2 x3->b):b:=by
 obtain ⟨h1,x1,x2,x3,h2,h3⟩:=h; exact k h1 x1 x2 x3 h2 h3
theorem DN.{u1,u2,u3}{α1:Sort u1}{α2:Sort u2}{α3:Sort u3}{p1:Prop}{p2:α1->α2->α3->Prop}{p3:α1->α2->α3->Prop}{p4:α1->α2->α3->Prop}{b:Prop}(h:p1/\∃ x1,∃ x2,∃ x3,p2 x1 x2 x3/\p3 x1 x2 x3/\p4 x1 x2 x3)(k:p1->∀ x1,∀ x2,∀ x3,p2 x1 x2 x3->p3 x1 x2 x3->p4 x1 x2 x3->b):b:=by
 obtain ⟨h1,x1,x2,x3,h2,h3,h4⟩:=h; exact k h1 x1 x2 x3 h2 h3 h4
theorem U3.{u1,u2,u3,u4}{α1:Sort u1}{α2:Sort u2}{α3:Sort u3}{α4:Sort u4}{p1:Prop}{p2:α1->α2->α3->α4->Prop}{p3:α1->α2->α3->α4->Prop}{p4:α1->α2->α3->α4->Prop}{p5:α1->α2->α3->α4->Prop}{b:Prop}(h:p1/\∃ x1,∃ x2,∃ x3,∃ x4,p2 x1 x2 x3 x4/\p3 x1 x2 x3 x4/\p4 x1 x2 x3 x4/\p5 x1 x2 x3 x4)(k:p1->∀ x1,∀ x2,∀ x3,∀ x4,p2 x1 x2 x3 x4->p3 x1 x2 x3 x4->p4 x1 x2 x3 x4->p5 x1 x2 x3 x4->b):b:=by
 obtain ⟨h1,x1,x2,x3,x4,h2,h3,h4,h5⟩:=h; exact k h1 x1 x2 x3 x4 h2 h3 h4 h5
theorem zDA{n:Nat}{p1:∀ x1,x1<n->Prop}{p2:∀ x1,x1<n->Prop}{b:Prop}(h:∃ x1,∃ x2:x1<n,p1 x1 x2/\p2 x1 x2)(k:∀ x1,∀ x2:x1<n,p1 x1 x2->p2 x1 x2->b):b:=by
 obtain ⟨x1,x2,h1,h2⟩:=h; exact k x1 x2 h1 h2
theorem Zfo{n:Nat}{p1:∀ x1,x1<n->Prop}{p2:∀ x1,x1<n->Prop}{p3:∀ x1,x1<n->Prop}{b:Prop}(h:∃ x1,∃ x2:x1<n,p1 x1 x2/\p2 x1 x2/\p3 x1 x2)(k:∀ x1,∀ x2:x1<n,p1 x1 x2->p2 x1 x2->p3 x1 x2->b):b:=by
 obtain ⟨x1,x2,h1,h2,h3⟩:=h; exact k x1 x2 h1 h2 h3
theorem zE.{u1}{α1:Sort u1}{p1:α1->Prop}{b:Prop}(h:∃ x1,p1 x1)(k:∀ x1,p1 x1->b):b:=by
 obtain ⟨x1,h1⟩:=h; exact k x1 h1
theorem XW.{u1}{α1:Sort u1}{p1:α1->Prop}{p2:α1->Prop}{b:Prop}(h:∃ x1,p1 x1/\p2 x1)(k:∀ x1,p1 x1->p2 x1->b):b:=by
 obtain ⟨x1,h1,h2⟩:=h; exact k x1 h1 h2
theorem Gj.{u1}{α1:Sort u1}{p1:α1->Prop}{p2:α1->Prop}{p3:α1->Prop}{b:Prop}(h:∃ x1,p1 x1/\p2 x1/\p3 x1)(k:∀ x1,p1 x1->p2 x1->p3 x1->b):b:=by
 obtain ⟨x1,h1,h2,h3⟩:=h; exact k x1 h1 h2 h3
theorem Bt.{u1}{α1:Sort u1}{p1:α1->Prop}{p2:α1->Prop}{p3:α1->Prop}{p4:α1->Prop}{b:Prop}(h:∃ x1,p1 x1/\p2 x1/\p3 x1/\p4 x1)(k:∀ x1,p1 x1->p2 x1->p3 x1->p4 x1->b):b:=by
 obtain ⟨x1,h1,h2,h3,h4⟩:=h; exact k x1 h1 h2 h3 h4
theorem Gi.{u1}{α1:Sort u1}{p1:α1->Prop}{p2:α1->Prop}{p3:α1->Prop}{p4:α1->Prop}{p5:α1->Prop}{b:Prop}(h:∃ x1,p1 x1/\p2 x1/\p3 x1/\p4 x1/\p5 x1)(k:∀ x1,p1 x1->p2 x1->p3 x1->p4 x1->p5 x1->b):b:=by
 obtain ⟨x1,h1,h2,h3,h4,h5⟩:=h; exact k x1 h1 h2 h3 h4 h5
theorem Nm.{u1}{α1:Sort u1}{p1:α1->Prop}{p2:α1->Prop}{p3:α1->Prop}{p4:α1->Prop}{p5:α1->Prop}{p6:α1->Prop}{b:Prop}(h:∃ x1,p1 x1/\p2 x1/\p3 x1/\p4 x1/\p5 x1/\p6 x1)(k:∀ x1,p1 x1->p2 x1->p3 x1->p4 x1->p5 x1->p6 x1->b):b:=by
 obtain ⟨x1,h1,h2,h3,h4,h5,h6⟩:=h; exact k x1 h1 h2 h3 h4 h5 h6
theorem zEE.{u1,u2}{α1:Sort u1}{α2:Sort u2}{p1:α1->α2->Prop}{b:Prop}(h:∃ x1,∃ x2,p1 x1 x2)(k:∀ x1,∀ x2,p1 x1 x2->b):b:=by
 obtain ⟨x1,x2,h1⟩:=h; exact k x1 x2 h1
theorem G7.{u1,u2}{α1:Sort u1}{α2:Sort u2}{p1:α1->α2->Prop}{p2:α1->α2->Prop}{b:Prop}(h:∃ x1,∃ x2,p1 x1 x2/\p2 x1 x2)(k:∀ x1,∀ x2,p1 x1 x2->p2 x1 x2->b):b:=by
 obtain ⟨x1,x2,h1,h2⟩:=h; exact k x1 x2 h1 h2
theorem BO.{u1,u2}{α1:Sort u1}{α2:Sort u2}{p1:α1->α2->Prop}{p2:α1->α2->Prop}{p3:α1->α2->Prop}{b:Prop}(h:∃ x1,∃ x2,p1 x1 x2/\p2 x1 x2/\p3 x1 x2)(k:∀ x1,∀ x2,p1 x1 x2->p2 x1 x2->p3 x1 x2->b):b:=by
 obtain ⟨x1,x2,h1,h2,h3⟩:=h; exact k x1 x2 h1 h2 h3
theorem BZ.{u1,u2}{α1:Sort u1}{α2:Sort u2}{p1:α1->α2->Prop}{p2:α1->α2->Prop}{p3:α1->α2->Prop}{p4:α1->α2->Prop}{b:Prop}(h:∃ x1,∃ x2,p1 x1 x2/\p2 x1 x2/\p3 x1 x2/\p4 x1 x2)(k:∀ x1,∀ x2,p1 x1 x2->p2 x1 x2->p3 x1 x2->p4 x1 x2->b):b:=by
 obtain ⟨x1,x2,h1,h2,h3,h4⟩:=h; exact k x1 x2 h1 h2 h3 h4
theorem BB.{u1,u2}{α1:Sort u1}{α2:Sort u2}{p1:α1->α2->Prop}{p2:α1->α2->Prop}{p3:α1->α2->Prop}{p4:α1->α2->Prop}{p5:α1->α2->Prop}{b:Prop}(h:∃ x1,∃ x2,p1 x1 x2/\p2 x1 x2/\p3 x1 x2/\p4 x1 x2/\p5 x1 x2)(k:∀ x1,∀ x2,p1 x1 x2->p2 x1 x2->p3 x1 x2->p4 x1 x2->p5 x1 x2->b):b:=by
 obtain ⟨x1,x2,h1,h2,h3,h4,h5⟩:=h; exact k x1 x2 h1 h2 h3 h4 h5
theorem Ko.{u1,u2}{α1:Sort u1}{α2:Sort u2}{p1:α1->α2->Prop}{p2:α1->α2->Prop}{p3:α1->α2->Prop}{p4:α1->α2->Prop}{p5:α1->α2->Prop}{p6:α1->α2->Prop}{b:Prop}(h:∃ x1,∃ x2,p1 x1 x2/\p2 x1 x2/\p3 x1 x2/\p4 x1 x2/\p5 x1 x2/\p6 x1 x2)(k:∀ x1,∀ x2,p1 x1 x2->p2 x1 x2->p3 x1 x2->p4 x1 x2->p5 x1 x2->p6 x1 x2->b):b:=by
 obtain ⟨x1,x2,h1,h2,h3,h4,h5,h6⟩:=h; exact k x1 x2 h1 h2 h3 h4 h5 h6
theorem Tj.{u1,u2,u3}{α1:Sort u1}{α2:Sort u2}{α3:Sort u3}{p1:α1->α2->Prop}{p2:α1->α2->Prop}{p3:α1->α2->Prop}{p4:α1->α2->Prop}{p5:α1->α2->α3->Prop}{b:Prop}(h:∃ x1,∃ x2,p1 x1 x2/\p2 x1 x2/\p3 x1 x2/\p4 x1 x2/\∃ x3,p5 x1 x2 x3)(k:∀ x1,∀ x2,p1 x1 x2->p2 x1 x2->p3 x1 x2->p4 x1 x2->∀ x3,p5 x1 x2 x3->b):b:=by
 obtain ⟨x1,x2,h1,h2,h3,h4,x3,h5⟩:=h; exact k x1 x2 h1 h2 h3 h4 x3 h5
theorem V1.{u1,u2,u3}{α1:Sort u1}{α2:Sort u2}{α3:Sort u3}{p1:α1->α2->α3->Prop}{p2:α1->α2->α3->Prop}{b:Prop}(h:∃ x1,∃ x2,∃ x3,p1 x1 x2 x3/\p2 x1 x2 x3)(k:∀ x1,∀ x2,∀ x3,p1 x1 x2 x3->p2 x1 x2 x3->b):b:=by
 obtain ⟨x1,x2,x3,h1,h2⟩:=h; exact k x1 x2 x3 h1 h2
theorem WT.{u1,u2,u3}{α1:Sort u1}{α2:Sort u2}{α3:Sort u3}{p1:α1->α2->α3->Prop}{p2:α1->α2->α3->Prop}{p3:α1->α2->α3->Prop}{b:Prop}(h:∃ x1,∃ x2,∃ x3,p1 x1 x2 x3/\p2 x1 x2 x3/\p3 x1 x2 x3)(k:∀ x1,∀ x2,∀ x3,p1 x1 x2 x3->p2 x1 x2 x3->p3 x1 x2 x3->b):b:=by
 obtain ⟨x1,x2,x3,h1,h2,h3⟩:=h; exact k x1 x2 x3 h1 h2 h3
theorem Zfn.{u1,u2,u3}{α1:Sort u1}{α2:Sort u2}{α3:Sort u3}{p1:α1->α2->α3->Prop}{p2:α1->α2->α3->Prop}{p3:α1->α2->α3->Prop}{p4:α1->α2->α3->Prop}{b:Prop}(h:∃ x1,∃ x2,∃ x3,p1 x1 x2 x3/\p2 x1 x2 x3/\p3 x1 x2 x3/\p4 x1 x2 x3)(k:∀ x1,∀ x2,∀ x3,p1 x1 x2 x3->p2 x1 x2 x3->p3 x1 x2 x3->p4 x1 x2 x3->b):b:=by
 obtain ⟨x1,x2,x3,h1,h2,h3,h4⟩:=h; exact k x1 x2 x3 h1 h2 h3 h4
theorem DL.{u1,u2,u3,u4}{α1:Sort u1}{α2:Sort u2}{α3:Sort u3}{α4:Sort u4}{p1:α1->α2->α3->α4->Prop}{b:Prop}(h:∃ x1,∃ x2,∃ x3,∃ x4,p1 x1 x2 x3 x4)(k:∀ x1,∀ x2,∀ x3,∀ x4,p1 x1 x2 x3 x4->b):b:=by
 obtain ⟨x1,x2,x3,x4,h1⟩:=h; exact k x1 x2 x3 x4 h1
theorem By.{u1,u2,u3,u4}{α1:Sort u1}{α2:Sort u2}{α3:Sort u3}{α4:Sort u4}{p1:α1->α2->α3->α4->Prop}{p2:α1->α2->α3->α4->Prop}{b:Prop}(h:∃ x1,∃ x2,∃ x3,∃ x4,p1 x1 x2 x3 x4/\p2 x1 x2 x3 x4)(k:∀ x1,∀ x2,∀ x3,∀ x4,p1 x1 x2 x3 x4->p2 x1 x2 x3 x4->b):b:=by
 obtain ⟨x1,x2,x3,x4,h1,h2⟩:=h; exact k x1 x2 x3 x4 h1 h2
theorem Hs.{u1,u2,u3,u4}{α1:Sort u1}{α2:Sort u2}{α3:Sort u3}{α4:Sort u4}{p1:α1->α2->α3->α4->Prop}{p2:α1->α2->α3->α4->Prop}{p3:α1->α2->α3->α4->Prop}{b:Prop}(h:∃ x1,∃ x2,∃ x3,∃ x4,p1 x1 x2 x3 x4/\p2 x1 x2 x3 x4/\p3 x1 x2 x3 x4)(k:∀ x1,∀ x2,∀ x3,∀ x4,p1 x1 x2 x3 x4->p2 x1 x2 x3 x4->p3 x1 x2 x3 x4->b):b:=by
 obtain ⟨x1,x2,x3,x4,h1,h2,h3⟩:=h; exact k x1 x2 x3 x4 h1 h2 h3
theorem VS.{u1,u2,u3,u4}{α1:Sort u1}{α2:Sort u2}{α3:Sort u3}{α4:Sort u4}{p1:α1->α2->α3->α4->Prop}{p2:α1->α2->α3->α4->Prop}{p3:α1->α2->α3->α4->Prop}{p4:α1->α2->α3->α4->Prop}{b:Prop}(h:∃ x1,∃ x2,∃ x3,∃ x4,p1 x1 x2 x3 x4/\p2 x1 x2 x3 x4/\p3 x1 x2 x3 x4/\p4 x1 x2 x3 x4)(k:∀ x1,∀ x2,∀ x3,∀ x4,p1 x1 x2 x3 x4->p2 x1 x2 x3 x4->p3 x1 x2 x3 x4->p4 x1 x2 x3 x4->b):b:=by
 obtain ⟨x1,x2,x3,x4,h1,h2,h3,h4⟩:=h; exact k x1 x2 x3 x4 h1 h2 h3 h4
theorem GH.{u1,u2,u3,u4}{α1:Sort u1}{α2:Sort u2}{α3:Sort u3}{α4:Sort u4}{p1:α1->α2->α3->α4->Prop}{p2:α1->α2->α3->α4->Prop}{p3:α1->α2->α3->α4->Prop}{p4:α1->α2->α3->α4->Prop}{p5:α1->α2->α3->α4->Prop}{b:Prop}(h:∃ x1,∃ x2,∃ x3,∃ x4,p1 x1 x2 x3 x4/\p2 x1 x2 x3 x4/\p3 x1 x2 x3 x4/\p4 x1 x2 x3 x4/\p5 x1 x2 x3 x4)(k:∀ x1,∀ x2,∀ x3,∀ x4,p1 x1 x2 x3 x4->p2 x1 x2 x3 x4->p3 x1 x2 x3 x4->p4 x1 x2 x3 x4->p5 x1 x2 x3 x4->b):b:=by
 obtain ⟨x1,x2,x3,x4,h1,h2,h3,h4,h5⟩:=h; exact k x1 x2 x3 x4 h1 h2 h3 h4 h5
theorem Zjd.{u1,u2,u3,u4,u5}{α1:Sort u1}{α2:Sort u2}{α3:Sort u3}{α4:Sort u4}{α5:Sort u5}{p1:α1->α2->α3->α4->α5->Prop}{b:Prop}(h:∃ x1,∃ x2,∃ x3,∃ x4,∃ x5,p1 x1 x2 x3 x4 x5)(k:∀ x1,∀ x2,∀ x3,∀ x4,∀ x5,p1 x1 x2 x3 x4 x5->b):b:=by
 obtain ⟨x1,x2,x3,x4,x5,h1⟩:=h; exact k x1 x2 x3 x4 x5 h1
theorem Zfm.{u1,u2,u3,u4,u5}{α1:Sort u1}{α2:Sort u2}{α3:Sort u3}{α4:Sort u4}{α5:Sort u5}{p1:α1->α2->α3->α4->α5->Prop}{p2:α1->α2->α3->α4->α5->Prop}{b:Prop}(h:∃ x1,∃ x2,∃ x3,∃ x4,∃ x5,p1 x1 x2 x3 x4 x5/\p2 x1 x2 x3 x4 x5)(k:∀ x1,∀ x2,∀ x3,∀ x4,∀ x5,p1 x1 x2 x3 x4 x5->p2 x1 x2 x3 x4 x5->b):b:=by
 obtain ⟨x1,x2,x3,x4,x5,h1,h2⟩:=h; exact k x1 x2 x3 x4 x5 h1 h2
theorem G6.{u1,u2,u3,u4,u5,u6,u7,u8,u9,u10}{α1:Sort u1}{α2:Sort u2}{α3:Sort u3}{α4:Sort u4}{α5:Sort u5}{α6:Sort u6}{α7:Sort u7}{α8:Sort u8}{α9:Sort u9}{α10:Sort u10}{p1:α1->α2->α3->α4->α5->α6->α7->α8->α9->α10->Prop}{p2:α1->α2->α3->α4->α5->α6->α7->α8->α9->α10->Prop}{p3:α1->α2->α3->α4->α5->α6->α7->α8->α9->α10->Prop}{b:Prop}(h:∃ x1,∃ x2,∃ x3,∃ x4,∃ x5,∃ x6,∃ x7,∃ x8,∃ x9,∃ x10,p1 x1 x2 x3 x4 x5 x6 x7 x8 x9 x10/\p2 x1 x2 x3 x4 x5 x6 x7 x8 x9 x10/\p3 x1 x2 x3 x4 x5 x6 x7 x8 x9 x10)(k:∀ x1,∀ x2,∀ x3,∀ x4,∀ x5,∀ x6,∀ x7,∀ x8,∀ x9,∀ x10,p1 x1 x2 x3 x4 x5 x6 x7 x8 x9 x10->p2 x1 x2 x3 x4 x5 x6 x7 x8 x9 x10->p3 x1 x2 x3 x4 x5 x6 x7 x8 x9 x10->b):b:=by
 obtain ⟨x1,x2,x3,x4,x5,x6,x7,x8,x9,x10,h1,h2,h3⟩:=h; exact k x1 x2 x3 x4 x5 x6 x7 x8 x9 x10 h1 h2 h3
theorem zM{α:Type}{l:List α}{a:α}{b:Prop}(h:a∈l)(k:∀ i,∀ h:i<l.length,l[i]=a->b):b:=(List.mem_iff_getElem.mp h).elim λi h=>h.elim (k i)
end
variable {w:Um}{A:YE}{E:Za}{s sE s':Zi}{env:V0}{H0:Xx}{l:List V0}{M:List Zo}{L:Zo}{m:Ze}{led:Zd}{MM:XJ}
section
noncomputable abbrev PW:PySem.Program:=PySem.Challenge.pw_kq0026_03
open PySem PySem.W PySem.Calls PyProof.Rows PySem.Spec
theorem Wu{α:Type}{a:α}{P:Prop}(h:none=some a):P:=by cases h
theorem noN{α:Type}{a:α}{P:Prop}(h:some a=none):P:=by cases h
theorem noM{α:Type}{a:α}{P:Prop}(h:a∈([]:List α)):P:=absurd h Wf
theorem Wo{α:Type}{P:α->Prop}{a:α}(h:P a):∀ p∈[a],P p:=List.forall_mem_singleton.mpr h
theorem nd1{α:Type}{a:α}:[a].Nodup:=XT.mpr ⟨Wf,Un⟩
theorem Xu{α:Type}{P:α->Prop}{a:α}{l:List α}(h:P a)(r:∀ p∈l,P p):∀ p∈a::l,P p:=Wr.mpr ⟨h,r⟩
theorem Fv{α:Type}{x a:α}(h1:x=a->False):x∉[a]:=λh=>h1 (Zk.mp h)
theorem Vr{α:Type}{x a:α}{l:List α}(h1:x=a->False)(h2:x∉l):x∉a::l:=λh=>(Z7.mp h).elim h1 h2
theorem OH{α:Type}{x a b:α}{R:Prop}(h:x∈[a,b])(h1:x=a->R)(h2:x=b->R):R:=(Z7.mp h).elim h1 λh=>h2 (Zk.mp h)
theorem YC{α:Type}{P:α->Prop}:∀ p∈([]:List α),P p:=λuu h=>absurd h Wf
noncomputable def nd(o:Xl):Prop:=∀ es n,o.data ≠ .dict es n
noncomputable abbrev Nz(R:Zc):Zb:=λfl s''=>R (.ok (.ret (match fl with | .ret v=>v | _=>.none))) s''
noncomputable abbrev Fx(w:Um)(A:YE)(env:V0)(R:Zc):Za:=λe s''=>Zp (model PW w) A (leaving env e) (λuu s3=>R (.error e) s3) (λe' s3=>R (.error e') s3) s''
noncomputable abbrev TM(Q:Za)(E:Za):Zc:=λr s'=>match r with | .ok (.ret v)=>Q v s' | .ok _=>False | .error e=>E e s'
noncomputable abbrev Zjw(M:XJ)(A:YE)(env:V0)(rest:List JL)(Q:Zb)(E:Za):Zb:=λf s'=>match f with | .next=>Zp M A (execs rest env) Q E s' | f=>Q f s'
noncomputable abbrev eTry(w:Um)(A:YE)(env:V0)(hs:List ExceptHandler)(Q:Zb)(E:Za):Za :=
 λe s₁=>Zp (model PW w) A (noteFrame e env) (λuu s₂=>Zp (model PW w) A (setFlight e none) (λuu s₃=>Zp (model PW w) A (handleBy e env hs) Q E s₃) E s₂) E s₁
section
variable {M:XJ}
theorem Y7{f:Zh}{pos:List Zh}{kw:List (Yz×Zh)}{Q:Za}(hc:Yk M A (.call f ⟨pos,kw⟩) (TM Q E) s):Zp M A (call f pos kw) Q E s:=PySem.wpAny_call hc
theorem Zg{st:JL}{rest:List JL}{Q:Zb}(h:Zp M A (exec st env) (Zjw M A env rest Q E) E s):Zp M A (execs (st::rest) env) Q E s:=PySem.wpAny_execs_cons h
theorem U4{body orelse:List JL}{h₀:ExceptHandler}{hs:List ExceptHandler}{pos:V7}{Q:Zb}
  (h:Zp (model PW w) A (execs body env) (Zjw (model PW w) A env orelse Q E) (eTry w A env (h₀::hs) Q E) s):Zp (model PW w) A (exec (.Try body (h₀::hs) orelse [] pos) env) Q E s:=PySem.wpAny_Try_except h
end
noncomputable abbrev tk(s:Zi)(k:Nat):Zi:={ s with toks:=s.toks+k }
noncomputable abbrev Jh(m:Ze)(x:Yz)(v:Zh):Ze:=λy=>if y=x then some v else m y
noncomputable abbrev Zlq(v:Zh)(Q:List Zh->Zi->Prop):List Zh->Zi->Prop:=λvs s₂=>Q (v::vs) s₂
noncomputable abbrev qArg(M:XJ)(A:YE)(t:Sem (List Zh))(Q:List Zh->Zi->Prop)(E:Za):Za:=λv s₁=>Zp M A t (Zlq v Q) E s₁
noncomputable abbrev Zlt(M:XJ)(A:YE)(op:Operator)(a:Zh)(Q:Za)(E:Za):Za:=λb s₂=>Zp M A (JY op a b) Q E s₂
noncomputable abbrev qBin(M:XJ)(A:YE)(op:Operator)(r:PySem.Expr)(env:V0)(Q:Za)(E:Za):Za:=λa s₁=>Zp M A (eval r env) (Zlt M A op a Q E) E s₁
noncomputable abbrev Zgh(M:XJ)(A:YE)(pos:V7)(args:List PySem.Expr)(env:V0)(Q:Za)(E:Za):Za:=λf s₁=>Zp M A (callWith pos f [] (backTo pos (W4 args env)) []) Q E s₁
noncomputable abbrev qIf(M:XJ)(A:YE)(body orelse:List JL)(env:V0)(Q:Zb)(E:Za):Bool->Zi->Prop:=λb s₂=>if b then Zp M A (execs body env) Q E s₂ else Zp M A (execs orelse env) Q E s₂
noncomputable abbrev Zcs(Q:Zb):Unit->Zi->Prop:=λuu s=>Q .next s
noncomputable abbrev qSet(M:XJ)(A:YE)(env:V0)(x:Yz)(Q:Zb)(E:Za):Za:=λv s₁=>Zp M A (V6 env x v) (Zcs Q) E s₁
noncomputable abbrev Zjv(M:XJ)(A:YE)(attr:Yz)(v:Zh)(Q:Zb)(E:Za):Za:=λov s₂=>Zp M A (setAttr ov attr v) (Zcs Q) E s₂
noncomputable abbrev Zlm(M:XJ)(A:YE)(o:PySem.Expr)(attr:Yz)(env:V0)(Q:Zb)(E:Za):Za:=λv s₁=>Zp M A (eval o env) (Zjv M A attr v Q E) E s₁
noncomputable abbrev Zjx(M:XJ)(A:YE)(f:Zh)(Q:Za)(E:Za):List Zh->Zi->Prop:=λvs s₁=>Zp M A (call f vs) Q E s₁
noncomputable abbrev Sf(M:XJ)(A:YE)(Q:Bool->Zi->Prop)(E:Za):Za:=λv s₁=>Zp M A (truthy v) Q E s₁
noncomputable abbrev Zlr(M:XJ)(A:YE)(op:CmpOp)(a:Zh)(Q:Za)(E:Za):Za:=λb s₂=>Zp M A (compareOp op a b) Q E s₂
noncomputable abbrev qCmp(M:XJ)(A:YE)(op:CmpOp)(r:PySem.Expr)(env:V0)(Q:Za)(E:Za):Za:=λa s₁=>Zp M A (eval r env) (Zlr M A op a Q E) E s₁
noncomputable abbrev Zln(Q:Zb):Za:=λv s=>Q (.ret v) s
noncomputable abbrev qNot(Q:Bool->Zi->Prop):Bool->Zi->Prop:=λb s=>Q (!b) s
noncomputable abbrev qOr(M:XJ)(A:YE)(rest:List PySem.Expr)(env:V0)(Q:Bool->Zi->Prop)(E:Za):Bool->Zi->Prop:=λb s₁=>if b then Q true s₁ else Zp M A (allTrue .Or rest env) Q E s₁
noncomputable abbrev qAnd(M:XJ)(A:YE)(rest:List PySem.Expr)(env:V0)(Q:Bool->Zi->Prop)(E:Za):Bool->Zi->Prop:=λb s₁=>if b then Zp M A (allTrue .And rest env) Q E s₁ else Q false s₁
noncomputable abbrev Zct(Q:Za):Fin->Zi->Prop:=λfin s'=>∃ v,fin = .done (.ret v)/\Q v s'
noncomputable abbrev qFin(w:Um)(A:YE)(R:Zc):Fin->Zi->Prop:=λfin s'=>match fin with | .done f=>R (.ok f) s' | .again c'=>c'.quiet=true/\Yk (model PW w) A c' R s'
noncomputable abbrev NN(R:Zc):Za:=λe s'=>R (.error e) s'
noncomputable abbrev Zcq(M:XJ)(A:YE)(env:V0)(Q:Zb)(E:Za):Zc:=λr s'=>match r with | .ok f=>Q f s' | .error e=>cameBackBy M A env E e s'
noncomputable abbrev Zlp(w:Um)(A:YE)(target:PySem.Expr)(body orelse:List JL)(env:V0)(Q:Zb)(E:Za):Za:=λit s₂=>Yk (model PW w) A (.forLoop target it body orelse env) (Zcq (model PW w) A env Q E) s₂
noncomputable abbrev qFor(w:Um)(A:YE)(target:PySem.Expr)(body orelse:List JL)(env:V0)(Q:Zb)(E:Za):Za:=λx s₁=>Zp (model PW w) A (pyIter x) (Zlp w A target body orelse env Q E) E s₁
noncomputable abbrev Gp(w:Um)(A:YE)(env:V0)(R:Zc):Za:=notedBy (model PW w) A env (NN R)
noncomputable abbrev Se(I:Nat->Zi->Prop)(n:Nat)(R:Zc):Zb:=λf s₃=>match f with
 | .next | .cont=>∃ m,m<n/\I m s₃
 | .brk=>R (.ok .next) s₃
 | .ret v=>R (.ok (.ret v)) s₃
noncomputable abbrev qOk(R:Zc):Zb:=λf s₃=>R (.ok f) s₃
noncomputable abbrev Zju(w:Um)(A:YE)(body orelse:List JL)(env:V0)(I:Nat->Zi->Prop)(n:Nat)(R:Zc):Bool->Zi->Prop:=λb s₂=>
 if b then Zp (model PW w) A (execs body env) (Se I n R) (Gp w A env R) s₂
 else Zp (model PW w) A (execs orelse env) (qOk R) (Gp w A env R) s₂
noncomputable abbrev Zls(w:Um)(A:YE)(body:List JL)(env:V0)(I:Nat->Zi->Prop)(n:Nat)(R:Zc):Unit->Zi->Prop:=λuu s₂=>Zp (model PW w) A (execs body env) (Se I n R) (Gp w A env R) s₂
noncomputable abbrev Zis(w:Um)(A:YE)(target:PySem.Expr)(body:List JL)(env:V0)(I:Nat->Zi->Prop)(n:Nat)(R:Zc)(v:Zh):Unit->Zi->Prop:=λuu s₁'=>Zp (model PW w) A (assign target env v) (Zls w A body env I n R) (Gp w A env R) s₁'
noncomputable abbrev Zlo(w:Um)(A:YE)(target:PySem.Expr)(it:Zh)(body orelse:List JL)(env:V0)(I:Nat->Zi->Prop)(n:Nat)(R:Zc):Option Zh->Zi->Prop:=λr s₁=>match r with
 | none=>Zp (model PW w) A (execs orelse env) (qOk R) (Gp w A env R) s₁
 | some v=>Zp (model PW w) A (letOwnedTupleGo target it v) (Zis w A target body env I n R v) (Gp w A env R) s₁
section
variable {M:XJ}{R:Zc}
theorem Zq{e:PySem.Expr}{rest:List PySem.Expr}{pos:V7}{Q:List Zh->Zi->Prop}(h:Zp M A (eval e env) (qArg M A (spliced (backTo pos (W4 rest env))) Q E) E s)
  (he:W4 (e::rest) env=(false,eval e env)::W4 rest env:=by rfl):Zp M A (spliced (backTo pos (W4 (e::rest) env))) Q E s:=PyProof.Rows.args_cons h he
theorem Xj{func:PySem.Expr}{args:List PySem.Expr}{pos:V7}{Q:Za}(h:Zp M A (eval func env) (Zgh M A pos args env Q E) E s)
  (he:eval (.Call func args [] pos) env=(do callWith pos (<- eval func env) [] (backTo pos (W4 args env)) (backToKw pos (keywordEach [] env))):=by rfl):Zp M A (eval (.Call func args [] pos) env) Q E s:=PyProof.Rows.Call_ h he
theorem Yv{test:PySem.Expr}{body orelse:List JL}{pos:V7}{Q:Zb}(h:Zp M A (isTrue test env (eval test env)) (qIf M A body orelse env Q E) E s):Zp M A (exec (.If test body orelse pos) env) Q E s :=
 PySem.wpAny_If h
theorem Zv{x:Yz}{pos':V7}{value:PySem.Expr}{pos:V7}{Q:Zb}(h:Zp M A (eval value env) (qSet M A env x Q E) E s)
  (hs:swapsWith value (some (.Name x pos')) pos.line env=pure false:=by rfl):Zp M A (exec (.Assign [.Name x pos'] value pos) env) Q E s:=PySem.wpAny_Assign_Name h hs
theorem Zy{o:PySem.Expr}{attr:Yz}{pos':V7}{value:PySem.Expr}{pos:V7}{Q:Zb}(h:Zp M A (eval value env) (Zlm M A o attr env Q E) E s)
  (hs:swapsWith value (some (.Attribute o attr pos')) pos.line env=pure false:=by rfl):Zp M A (exec (.Assign [.Attribute o attr pos'] value pos) env) Q E s:=PySem.plainObj_wpAny_Assign_Attribute h hs
theorem Wi{pos:V7}{id:String}{e:PySem.Expr}{rest:List PySem.Expr}{Q:Za}(h:Zp M A (spliced (backTo pos (W4 (e::rest) env))) (Zjx M A (.builtin id) Q E) E s)
  (he:W4 (e::rest) env=(false,eval e env)::W4 rest env:=by rfl)(hplain:(backTo pos (W4 rest env)).any (λuu=>uu.1)=false:=by rfl) :
  Zp M A (callWith pos (.builtin id) [] (backTo pos (W4 (e::rest) env)) []) Q E s:=Zs h he hplain
theorem Z8{l:PySem.Expr}{op:CmpOp}{r:PySem.Expr}{pos:V7}{whole:Sem Zh}{Q:Bool->Zi->Prop}(h:Zp M A (eval l env) (qCmp M A op r env (Sf M A Q E) E) E s)
  (hm:behindInMarks op r=false:=by with_unfolding_all rfl):Zp M A (isTrue (.Compare l [op] [r] pos) env whole) Q E s:=PySem.wpAny_isTrue_Compare1 h hm
theorem U6{l:PySem.Expr}{op:CmpOp}{r:PySem.Expr}{pos:V7}{Q:Za}(h:Zp M A (eval l env) (qCmp M A op r env Q E) E s)
  (hm:behindInMarks op r=false:=by with_unfolding_all rfl):Zp M A (eval (.Compare l [op] [r] pos) env) Q E s:=PySem.wpAny_Compare1 h hm
theorem ZY{e:PySem.Expr}{whole:Sem Zh}{Q:Bool->Zi->Prop}(h:Zp M A whole (Sf M A Q E) E s)
  (he:isTrue e env whole=(do let v <- whole; standAt e.pos; holding [v] (truthy v)):=by rfl):Zp M A (isTrue e env whole) Q E s:=PySem.wpAny_isTrue_value h he
theorem Ym{e:PySem.Expr}{pos:V7}{Q:Zb}(h:Zp M A (eval e env) (Zln Q) E s):Zp M A (exec (.Return (some e) pos) env) Q E s:=PySem.wpAny_Return_some h
theorem Xg{x:PySem.Expr}{pos:V7}{whole:Sem Zh}{Q:Bool->Zi->Prop}(h:Zp M A (isTrue x env (eval x env)) (qNot Q) E s):Zp M A (isTrue (.UnaryOp .Not x pos) env whole) Q E s:=PySem.wpAny_isTrue_Not h
theorem Xo{x:PySem.Expr}{rest:List PySem.Expr}{Q:Bool->Zi->Prop}(h:Zp M A (isTrue x env (eval x env)) (qOr M A rest env Q E) E s):Zp M A (allTrue .Or (x::rest) env) Q E s :=
 PySem.wpAny_allTrue_Or_cons h
theorem V8{x:PySem.Expr}{rest:List PySem.Expr}{Q:Bool->Zi->Prop}(h:Zp M A (isTrue x env (eval x env)) (qAnd M A rest env Q E) E s):Zp M A (allTrue .And (x::rest) env) Q E s :=
 PySem.wpAny_allTrue_And_cons h
theorem Zt{i:Int}{k:Nat}{pos:V7}{Q:Za}(h:Q (.int i s.toks) (tk s 1)):Zp M A (eval (.Constant (.int i) k pos) env) Q E s:=PySem.wpAny_Constant_int h
theorem Yi{x:Yz}{k:Nat}{pos:V7}{Q:Za}(h:Q (.str x s.toks) (tk s 1)):Zp M A (eval (.Constant (.str x) k pos) env) Q E s:=PySem.wpAny_Constant_str h
theorem ZH{l:PySem.Expr}{op:Operator}{r:PySem.Expr}{pos:V7}{Q:Za}(h:Zp M A (eval l env) (qBin M A op r env Q E) E s):Zp M A (eval (.BinOp l op r pos) env) Q E s:=PySem.wpAny_BinOp h
theorem Xh{T:String}{name:Yz}{id:String}{b:Builtin}{self:Zh}{rest:List Zh}{Q:Za}(h:Slot T name id)(hT:s.TypeIs self T)(hb:entryFor table id=some b)
  (hc:Zp (model PW w) A.in1 (b ⟨self::rest,[]⟩) (Zct Q) E s)(ha:argsOk id ⟨self::rest,[]⟩:=by rfl):Zp (model PW w) A (call (.builtin id) (self::rest)) Q E s:=PySem.wpAny_call_entry h hT hb hc ha
theorem VZ{id:String}{args:Args}{b:Builtin}(hb:entryFor table id=some b)(h:Zp (model PW w) (A.under (.builtin id args)) (b args) (qFin w A R) (NN R) s):Yk (model PW w) A (.builtin id args) R s :=
 PySem.codeAny_builtin hb (Yr h (λf uu z=>by cases f<;>exact z) λuu uu z=>z)
theorem Gv{test:PySem.Expr}{body orelse:List JL}{pos:V7}{Q:Zb}(h:Yk M A (.whileLoop test body orelse env) (Zcq M A env Q E) s):Zp M A (exec (.While test body orelse pos) env) Q E s:=PySem.wpAny_While h
theorem Ie{target iter:PySem.Expr}{body orelse:List JL}{pos:V7}{Q:Zb}(h:Zp (model PW w) A (eval iter env) (qFor w A target body orelse env Q E) E s)
  (hs:∀ x,foldedSetIterable iter env x=pure x:=by intro _; rfl):Zp (model PW w) A (exec (.For target iter body orelse pos) env) Q E s:=PySem.wpAny_For h hs
theorem JJ{test:PySem.Expr}{body orelse:List JL}{env:V0}(I:Nat->Zi->Prop)(step:∀ n s,I n s->Zp (model PW w) A (isTrue test env (eval test env)) (Zju w A body orelse env I n R) (Gp w A env R) s)
  (n:Nat)(h:I n s):Yk (model PW w) A (.whileLoop test body orelse env) R s :=
 PySem.codeAny_whileLoop I (λn s hI=>Yr (step n s hI) (λb uu z=>by cases b with | true=>exact Yr (M:=model PW w) (A:=A) (t:=execs body env) (Q:=Se I n R) z (λf uu y=>by cases f<;>exact y) λuu uu y=>y | false=>exact z) λuu uu z=>z) n h
theorem Vf{target:PySem.Expr}{it:Zh}{body orelse:List JL}{env:V0}(I:Nat->Zi->Prop)(step:∀ n s,I n s->Zp (model PW w) A (pyNext it) (Zlo w A target it body orelse env I n R) (Gp w A env R) s)
  (n:Nat)(h:I n s):Yk (model PW w) A (.forLoop target it body orelse env) R s :=
 PySem.codeAny_forLoop_any I (λn s hI=>Yr (step n s hI) (λr uu z=>by
  cases r with
  | none=>exact z
  | some v=>exact Yr z (λuu uu y=>Yr y (λuu uu x=>Yr x (λf uu u=>by cases f<;>exact u) λuu uu u=>u) λuu uu u=>u) λuu uu u=>u) λuu uu z=>z) n h
end
theorem Y6{b:Bool}{p q:Prop}(h:b=false)(k:q):if b=true then p else q:=by exact h▸k
theorem YV{b:Bool}{p q:Prop}(h:b=true)(k:p):if b=true then p else q:=by exact ZR h▸k
theorem YR{α:Type}{M:XJ}{A:YE}{E:Za}{s:Zi}{c:Prop} [Decidable c]{t f:Sem α}{Q:α->Zi->Prop}(h:¬ c)(k:Zp M A f Q E s):Zp M A (if c then t else f) Q E s:=by exact(if_neg h)▸k
theorem YT{α:Type}{M:XJ}{A:YE}{E:Za}{s:Zi}{c:Prop} [Decidable c]{t f:Sem α}{Q:α->Zi->Prop}(h:c)(k:Zp M A t Q E s):Zp M A (if c then t else f) Q E s:=by exact(if_pos h)▸k
noncomputable abbrev qFI{α β:Type}(M:XJ)(A:YE)(l:List α)(f:α->β->Sem (ForInStep β))(Q:β->Zi->Prop)(E:Za):ForInStep β->Zi->Prop:=λr s'=>match r with | .done b=>Q b s' | .yield b=>Zp M A (forIn l b f) Q E s'
section
variable {α β:Type}{M:XJ}{x:α}{l:List α}{b:β}{f:α->β->Sem (ForInStep β)}{Q:β->Zi->Prop}
theorem J4(h:Zp M A (f x b) (qFI M A l f Q E) E s):Zp M A (forIn (x::l) b f) Q E s:=by
 rw [JK]
 exact Zf (Yr h (λr s' h'=>by cases r with | done=>exact Zm h' | yield=>exact h') λuu uu z=>z)
theorem Ht(h:Q b s):Zp M A (forIn [] b f) Q E s:=by exact Zm h
theorem Hu(h:Zp M A (forIn l b f) Q E s):Zp M A (forIn l.toArray b f) Q E s:=by rw [List.forIn_toArray]; exact h
end
structure Go (H0:Xx)(M:List Zo)(s s':Zi):Prop where
 glob:(∀ b o,H0.get? b=some o->s.heap.get? b=some o)->∀ b o,H0.get? b=some o->s'.heap.get? b=some o
 nd:∀ b o,s.heap.get? b=some o->b∉M->nd o->s'.heap.get? b=some o
 up:∀ b o es n,s.heap.get? b=some o->o.data = .dict es n->∃ sl,s'.heap.get? b=some { o with slots:=sl }
 pres:∀ b o,s.heap.get? b=some o->Mine.nd o->∃ o',s'.heap.get? b=some o'/\Mine.nd o'
 toks:s.toks<=s'.toks
 gens:VL s.gens->VL s'.gens
 os:s'.os=s.os
theorem Zlv(o:Xl):nd o\/∃ es n,o.data = .dict es n:=by
 cases hd:o.data<;>first | exact .inr ⟨_,_,rfl⟩ | exact .inl (λes n z=>by rw [hd] at z; cases z)
theorem Go.there{H0:Xx}{M:List Zo}{s s':Zi}(G:Go H0 M s s'):∀ b o,s.heap.get? b=some o->∃ o',s'.heap.get? b=some o':=λb o e=>
 (Zlv o).elim (λhn=>(G.pres b o e hn).elim λo' h=>⟨o',h.1⟩) λ⟨es,n,hd⟩=>(G.up b o es n e hd).elim λuu h=>⟨_,h⟩
theorem Go.refl(H0:Xx)(M:List Zo)(s:Zi):Go H0 M s s :=
 ⟨λh=>h,λuu uu h uu uu=>h,λuu o uu uu h uu=>⟨o.slots,h⟩,λuu o h hn=>⟨o,h,hn⟩,Z6 _,λh=>h,rfl⟩
theorem Go.trans{H0:Xx}{M:List Zo}{a b c:Zi}(x:Go H0 M a b)(y:Go H0 M b c):Go H0 M a c :=
 ⟨λh=>y.glob (x.glob h),λp o h hm hn=>y.nd p o (x.nd p o h hm hn) hm hn,λp o es n h hd=>by
  refine zE (x.up p o es n h hd) λsl h1=>?_
  refine zE (y.up p _ es n h1 hd) λsl' h2=>?_
  exact⟨sl',h2⟩,λb o h hn=>(x.pres b o h hn).elim λo' h'=>y.pres b o' h'.1 h'.2,Zl x.toks y.toks,λh=>y.gens (x.gens h),y.os.trans x.os⟩
theorem Go.step{H0:Xx}{M M':List Zo}{a b c:Zi}(x:Go H0 M a b)(y:Go H0 M' b c)(hM:∀ p∈M',p∈M\/a.heap.get? p=none):Go H0 M a c :=
 ⟨λh=>y.glob (x.glob h),λp o h hm hn=>y.nd p o (x.nd p o h hm hn) (λhp=>(hM p hp).elim hm λq=>by exact Wu (ZF (ZR q) h)) hn,λp o es n h hd=>by
  refine zE (x.up p o es n h hd) λsl h1=>?_
  refine zE (y.up p _ es n h1 hd) λsl' h2=>?_
  exact⟨sl',h2⟩,λb o h hn=>(x.pres b o h hn).elim λo' h'=>y.pres b o' h'.1 h'.2,Zl x.toks y.toks,λh=>y.gens (x.gens h),y.os.trans x.os⟩
theorem Go.mono{H0:Xx}{M M':List Zo}{a b:Zi}(x:Go H0 M a b)(h:∀ p∈M,p∈M'):Go H0 M' a b :=
 ⟨x.glob,λp o e hm hn=>x.nd p o e (λq=>hm (h p q)) hn,x.up,x.pres,x.toks,x.gens,x.os⟩
theorem Go.ext{H0:Xx}{s s':Zi}(hk:∀ b o,s.heap.get? b=some o->s'.heap.get? b=some o)(ht:s.toks<=s'.toks)(hg:s'.gens=s.gens)(ho:s'.os=s.os)(M:List Zo):Go H0 M s s' :=
 ⟨λh b o e=>hk b o (h b o e),λb o e uu uu=>hk b o e,λb o uu uu e uu=>⟨o.slots,hk b o e⟩,λb o e hn=>⟨o,hk b o e,hn⟩,ht,λh=>hg▸h,ho⟩
structure St (H0:Xx)(A:YE)(l:List V0)(s:Zi):Prop where
 glob:∀ b o,H0.get? b=some o->s.heap.get? b=some o
 frames:A.frames=some l
 fr:∀ env∈l,env.scope.kind ≠ .module/\∃ L o es n,env.frame=some L/\H0.get? L=none/\s.heap.get? L=some o/\o.data = .dict es n
 toks:0<s.toks
theorem St.go{H0:Xx}{A:YE}{l:List V0}{s s':Zi}{M:List Zo}(S:St H0 A l s)(G:Go H0 M s s'):St H0 A l s' :=
 ⟨G.glob S.glob,S.frames,λenv he=>by
  refine U3 (S.fr env he) λhk L o es n h1 h2 h3 h4=>?_
  refine zE (G.up L o es n h3 h4) λsl h5=>?_
  exact⟨hk,L,_,es,n,h1,h2,h5,h4⟩,Z9 S.toks G.toks⟩
theorem St.around{H0:Xx}{A A':YE}{l:List V0}{s:Zi}(S:St H0 A l s)(h:A'.frames=A.frames):St H0 A' l s:=⟨S.glob,h.trans S.frames,S.fr,S.toks⟩
noncomputable def Bs(h:Xx)(dx:Zo):Prop:=∃ o,h.get? dx=some o/\o.data = .dict #[]
structure Wy (h:Xx)(p:Zo×Xl):Prop where
 at_:h.get? p.1=some p.2
 nd:Mine.nd p.2
 dx:∀ dx,p.2.dict=some dx->Bs h dx
theorem Bs.go{H0:Xx}{M:List Zo}{s s':Zi}{dx:Zo}(D:Bs s.heap dx)(G:Go H0 M s s'):Bs s'.heap dx:=by
 refine XW D λo h1 h2=>?_
 refine zE (G.up dx o _ _ h1 h2) λsl h3=>?_
 exact⟨_,h3,h2⟩
theorem Wy.go{H0:Xx}{M:List Zo}{s s':Zi}{p:Zo×Xl}(x:Wy s.heap p)(G:Go H0 M s s')(h:p.1∉M):Wy s'.heap p :=
 ⟨G.nd p.1 p.2 x.at_ h x.nd,x.nd,λdx e=>(x.dx dx e).go G⟩
theorem Wy.of{h:Xx}{a:Zo}{o:Xl}(e:h.get? a=some o)(n:Mine.nd o)(d:o.dict=none):Wy h (a,o):=⟨e,n,λdx q=>by exact Wu (ZF (ZR d) q)⟩
structure Cx (H0:Xx)(A:YE)(l:List V0)(M:List Zo)(sE:Zi)(L:Zo)(m:Ze)(led:Zd)(s:Zi):Prop where
 st:St H0 A l s
 go:Go H0 M sE s
 ns:s.heap.Ns L m
 new:sE.heap.get? L=none
 top:H0.get? L=none
 has:∀ p∈led,Wy s.heap p
 dn:∀ p∈led,p.2.dict≠some L
 nodup:(led.map (λuu=>uu.1)).Nodup
section
variable {M':List Zo}
theorem Cx.at(C:Cx H0 A l M sE L m led s)(i:Nat){a:Zo}{o:Xl}(h:led[i]? = some (a,o)):s.heap.get? a=some o:=(C.has _ (ZG h)).at_
theorem Cx.ndAt(C:Cx H0 A l M sE L m led s)(i:Nat){a:Zo}{o:Xl}(h:led[i]? = some (a,o)):nd o:=(C.has _ (ZG h)).nd
theorem Cx.ok(C:Cx H0 A l M sE L m led s)(i:Nat){a:Zo}{o:Xl}(h:led[i]? = some (a,o)):Wy s.heap (a,o):=C.has _ (ZG h)
theorem JH{h:Xx}{L:Zo}{m:Ze}(n:h.Ns L m):∃ o es ep,h.get? L=some o/\o.data = .dict es ep:=by
 refine WT n λo es ep a b uu=>?_
 exact⟨o,es,ep,a,b⟩
theorem Cx.goN(C:Cx H0 A l M sE L m led s)(G:Go H0 M' s s')(hM:∀ p∈M',(p∈M\/sE.heap.get? p=none))(led':Zd)(hl:∀ p∈led',Wy s'.heap p)(hd:∀ p∈led',p.2.dict≠some L)(hn:(led'.map (λuu=>uu.1)).Nodup) :
  Cx H0 A l M sE L m led' s':=by
 refine⟨C.st.go G,C.go.step G hM,?_,C.new,C.top,hl,hd,hn⟩
 refine WT C.ns λo es ep h1 h2 r=>?_
 refine zE (G.up L o es ep h1 h2) λsl h3=>?_
 exact⟨_,es,ep,h3,h2,r⟩
theorem Cx.call(C:Cx H0 A l M sE L m led s)(G:Go H0 [] s s'):Cx H0 A l M sE L m led s' :=
 C.goN G YC led (λp hp=>(C.has p hp).go G (λh=>nomatch h)) C.dn C.nodup
theorem Cx.ext(C:Cx H0 A l M sE L m led s)(hk:∀ b o,s.heap.get? b=some o->s'.heap.get? b=some o)(ht:s.toks<=s'.toks)(hg:s'.gens=s.gens)(ho:s'.os=s.os) :
  Cx H0 A l M sE L m led s':=C.call (.ext hk ht hg ho _)
theorem Cx.tok(C:Cx H0 A l M sE L m led s)(k:Nat):Cx H0 A l M sE L m led (tk s k) :=
 C.ext (λuu uu h=>h) (Zx _ _) rfl rfl
theorem Cx.lt(C:Cx H0 A l M sE L m led s):∀ p∈led,p.1<s.heap.objs.size:=λp hp=>YH (C.has p hp).at_
theorem Cx.add(C:Cx H0 A l M sE L m led s){a:Zo}{o:Xl}(h:Wy s.heap (a,o))(hd:∀ p∈led,p.1≠a)(hL:o.dict≠some L):Cx H0 A l M sE L m ((a,o)::led) s:=by
 refine { C with has:=λp hp=>?_,dn:=λp hp=>(Z7.mp hp).elim (λe=>by exact e▸hL) (C.dn p),nodup:=?_ }
 ·rcases Z7.mp hp with rfl | hp
  ·exact h
  ·exact C.has p hp
 ·rw [YD]
  refine XT.mpr ⟨λhm=>?_,C.nodup⟩
  refine XW (ZZ.mp hm) λp hp e=>?_
  exact hd p hp e
theorem Cx.drop(C:Cx H0 A l M sE L m led s)(led':Zd)(h:led'.Sublist led):Cx H0 A l M sE L m led' s :=
 { C with has:=λp hp=>C.has p (h.subset hp),dn:=λp hp=>C.dn p (h.subset hp),nodup:=C.nodup.sublist (h.map _) }
theorem GN{led:Zd}(hn:(led.map (λuu=>uu.1)).Nodup){i j:Nat}{a b:Zo}{o o':Xl}(h:led[i]? = some (a,o))(h':led[j]? = some (b,o'))(hij:i≠j):a≠b:=by
 intro e
 subst e
 have h1:(led.map (λuu=>uu.1))[i]? = some a:=by rw [Uv,h]; rfl
 have h2:(led.map (λuu=>uu.1))[j]? = some a:=by rw [Uv,h']; rfl
 refine zE (Z5.mp h1) λhi h1=>?_
 refine zE (Z5.mp h2) λhj h2=>?_
 rcases Nat.lt_or_gt_of_ne hij with q | q
 ·exact YU.mp hn i j hi hj q (h1.trans h2.symm)
 ·exact YU.mp hn j i hj hi q (h2.trans h1.symm)
theorem Cx.ne(C:Cx H0 A l M sE L m led s){i j:Nat}{a b:Zo}{o o':Xl}(h:led[i]? = some (a,o))(h':led[j]? = some (b,o'))(hij:i≠j:=by decide):a≠b:=GN C.nodup h h' hij
theorem XO{led:Zd}{i:Nat}{a:Zo}{o o':Xl}(h:led[i]? = some (a,o)):(led.set i (a,o')).map (λuu=>uu.1)=led.map (λuu=>uu.1):=by
 rw [List.map_set]
 apply List.ext_getElem?
 intro j
 rw [GX]
 split
 ·rename_i e
  subst e
  refine zE (Z5.mp h) λhi h1=>?_
  rw [Uv,YW,if_pos hi,ZE hi,h1]; rfl
 ·rfl
theorem BE{l:Zd}{i:Nat}{a:Zo}{o o':Xl}{p:Zo×Xl}(hn:(l.map (λuu=>uu.1)).Nodup)(hi:l[i]? = some (a,o))(h:p∈l.set i (a,o')):p=(a,o')\/(p∈l/\p.1≠a):=by
 refine zM h λj hj e=>?_
 have hj':(l.set i (a,o'))[j]? = some p:=by rw [ZE hj,e]
 rw [GX] at hj'
 split at hj'
 ·split at hj'
  ·exact .inl (Zz hj').symm
  ·exact Wu hj'
 ·rename_i hij
  obtain ⟨x,y⟩:=p
  exact .inr ⟨ZG hj',λq=>GN hn hi hj' hij q.symm⟩
theorem Cx.callAt(C:Cx H0 A l M sE L m led s)(i:Nat){a:Zo}{o o':Xl}(hi:led[i]? = some (a,o))(G:Go H0 [a] s s')(ho:Wy s'.heap (a,o'))(hM:a∈M\/sE.heap.get? a=none)(hL:o'.dict≠some L) :
  Cx H0 A l M sE L m (led.set i (a,o')) s':=by
 refine C.goN G (λp hp=>by exact(Zk.mp hp)▸hM) _ (λp hp=>?_) (λp hp=>(List.mem_or_eq_of_mem_set hp).elim (C.dn p) (λe=>by exact e▸hL)) (by exact(XO hi)▸C.nodup)
 exact(BE C.nodup hi hp).elim (λe=>e▸ho) λq=>(C.has p q.1).go G λz=>q.2 (Zk.mp z)
theorem Cx.turn(C:Cx H0 A l M sE L m led s)(G:Go H0 M' s s')(hM:∀ p∈M',(p∈M\/sE.heap.get? p=none))(led':Zd)(hs:led'.map (λuu=>uu.1)=led.map (λuu=>uu.1))
  (h:∀ p∈led',(p∈led/\p.1∉M')\/(Wy s'.heap p/\p.2.dict≠some L)):Cx H0 A l M sE L m led' s' :=
 C.goN G hM led' (λp hp=>(h p hp).elim (λq=>(C.has p q.1).go G q.2) (λuu=>uu.1)) (λp hp=>(h p hp).elim (λq=>C.dn p q.1) (λuu=>uu.2)) (by exact hs▸C.nodup)
theorem Go.upd{H0:Xx}{s:Zi}{a:Zo}{f:Xl->Xl}(o:Xl)(ho:s.heap.get? a=some o)(hn:Mine.nd o)(hf:(f o).isFreed=false)(hn':Mine.nd (f o))(hH:H0.get? a=none):Go H0 [a] s { s with heap:=s.heap.update a f }:=by
 refine⟨λh b ob e=>?_,λb ob e hm uu=>?_,λb ob es n e hd=>?_,λb ob e hnb=>?_,Z6 _,λh=>h,rfl⟩
 ·have:a≠b:=λq=>by rw [<- q,hH] at e; exact Wu e
  exact(Yw _ _ this).trans (h b ob e)
 ·exact(Yw _ _ (λq=>hm (Zk.mpr q.symm))).trans e
 ·have:a≠b:=λq=>by rw [<- q,ho] at e; obtain rfl:=Zz e; exact hn es n hd
  exact⟨ob.slots,(Yw _ _ this).trans e⟩
 ·by_cases q:a=b
  ·subst q; obtain rfl:=Zz (ZF (ZR ho) e)
   exact⟨f o,YS f ho hf,hn'⟩
  ·exact⟨ob,(Yw _ _ q).trans e,hnb⟩
theorem Cx.upd(C:Cx H0 A l M sE L m led s)(i:Nat){a:Zo}{o:Xl}{f:Xl->Xl}(hi:led[i]? = some (a,o))(hf:(f o).isFreed=false)(hn:nd (f o))(hd:(f o).dict=o.dict)(hM:a∈M\/sE.heap.get? a=none)(hH:H0.get? a=none) :
  Cx H0 A l M sE L m (led.set i (a,f o)) { s with heap:=s.heap.update a f } :=
 have G:Go H0 [a] s { s with heap:=s.heap.update a f }:=.upd o (C.at i hi) (C.ndAt i hi) hf hn hH
 C.callAt i hi G ⟨by first | exact YS f (C.at i hi) hf | exact YS _ (C.at i hi) hf,hn,λdx e=>((C.ok i hi).dx dx (hd▸e)).go G⟩ hM (by exact hd▸C.dn _ (ZG hi))
structure Nw (H0:Xx)(sE:Zi)(a:Zo):Prop where
 e:sE.heap.get? a=none
 h:H0.get? a=none
theorem XC{h:Xx}:h.get? h.objs.size=none:=by
 cases q:h.get? h.objs.size with
 | none=>rfl
 | some o=>exact absurd (YH q) (Xy _)
theorem Cx.noE(C:Cx H0 A l M sE L m led s){a:Zo}(h:s.heap.get? a=none):Nw H0 sE a:=by
 constructor
 ·cases q:sE.heap.get? a with
  | none=>rfl
  | some o=>refine zE (C.go.there a o q) λo' z=>?_; exact Wu (ZF (ZR h) z)
 ·cases q:H0.get? a with
  | none=>rfl
  | some o=>have:=C.st.glob a o q; exact Wu (ZF (ZR h) this)
end
theorem Cx.store(C:Cx H0 A l M sE L m led s){env:V0}{x:Yz}{v:Zh}{Q:Unit->Zi->Prop}(hL:env.locals=L)
  (h:∀ s',Cx H0 A l M sE L (Jh m x v) led s'->Q () s')(hl:env.kindOf x=some .local:=by rfl)
  (hp:(env.scope.kind == .class||(env.scope.kind == .module&&env.locals != env.globals))=false:=by rfl):Zp MM A (V6 env x v) Q E s:=by
 subst hL
 refine wpAny_storeName_local hl C.ns (λh' hn hs=>h _ ?_) hp
 refine V1 (JH C.ns) λoL esL epL hoL hdL=>?_
 refine V1 (JH hn) λoL' esL' epL' hoL' hdL'=>?_
 have other:∀ b o,b≠env.locals->s.heap.get? b=some o->h'.get? b=some o:=λb o hb e=>(hs.2 b hb).trans e
 have neL:∀ b o,s.heap.get? b=some o->nd o->b≠env.locals:=λb o e hn' q=>by rw [q,hoL] at e; obtain rfl:=Zz e; exact hn' _ _ hdL
 have eL:sE.heap.get? env.locals=none:=C.new
 refine⟨⟨λb o e=>other b o (λq=>by rw [q,C.top] at e; exact Wu e) (C.st.glob b o e),C.st.frames,λev he=>?_,Nat.lt_succ_of_lt C.st.toks⟩,?_,hn,C.new,C.top,λp hp'=>⟨other _ _ (neL _ _ (C.has p hp').at_ (C.has p hp').nd) (C.has p hp').at_,(C.has p hp').nd,λdx e=>?_⟩,C.dn,C.nodup⟩
 ·refine U3 (C.st.fr ev he) λhk L' o es n h1 h2 h3 h4=>?_
  by_cases q:L'=env.locals
  ·subst q
   exact⟨hk,env.locals,oL',esL',epL',h1,h2,hoL',hdL'⟩
  ·exact⟨hk,L',o,es,n,h1,h2,other _ _ q h3,h4⟩
 ·refine⟨λhg b o e=>other b o (λq=>by rw [q,C.top] at e; exact Wu e) (C.go.glob hg b o e),λb o e hm hn'=>?_,λb o es n e hd=>?_,λb o e hn'=>?_,Zl C.go.toks (Wb _),C.go.gens,C.go.os⟩
  ·exact other b o (λq=>by rw [q,eL] at e; exact Wu e) (C.go.nd b o e hm hn')
  ·refine zE (C.go.up b o es n e hd) λsl h1=>?_
   exact⟨sl,other b _ (λq=>by rw [q,eL] at e; exact Wu e) h1⟩
  ·refine XW (C.go.pres b o e hn') λo' h1 h2=>?_
   exact⟨o',other b _ (λq=>by rw [q,eL] at e; exact Wu e) h1,h2⟩
 ·refine XW ((C.has p hp').dx dx e) λo h1 h2=>?_
  exact⟨o,other _ _ (λq=>C.dn p hp' (by rw [e,q])) h1,h2⟩
theorem Cx.ld(C:Cx H0 A l M sE L m led s){env:V0}{x:Yz}{v:Zh}{Q:Za}(hL:env.locals=L)(hv:m x=some v)(h:Q v s)
  (hk:env.scope.kind = .function:=by rfl)(hl:env.kindOf x=some .local:=by rfl):Zp MM A (loadName env x) Q E s:=by
 subst hL
 exact wpAny_loadName_local hk hl C.ns hv h
theorem Cx.push(C:Cx H0 A l M sE L m led s)(o:Xl)(hf:o.isFreed=false)(hn:nd o)(hd:o.dict=none):Cx H0 A l M sE L m ((s.heap.objs.size,o)::led) { s with heap:=s.heap.push o } :=
 (C.ext (s':={ s with heap:=s.heap.push o }) (λuu uu e=>Z0 _ e) (Z6 _) rfl rfl).add (.of (ZK _ hf) hn hd)
  (λp hp=>X7 (C.lt p hp)) (by exact hd▸λq=>by cases q)
theorem Xe{c:Zh}{d:Option Zo}{xs:Array Zh}{n:Nat}{sl:Array (Option Zh)}:nd ⟨c,d,.seq xs n,sl⟩:=λuu uu h=>by cases h
theorem Y5{c:Zh}{d:Option Zo}{xs:Array Zh}{sl:Array (Option Zh)}:nd ⟨c,d,.fields xs,sl⟩:=λuu uu h=>by cases h
theorem TX{c:Zh}{d:Option Zo}{sl:Array (Option Zh)}:nd ⟨c,d,.plain,sl⟩:=λuu uu h=>by cases h
theorem Sj{c:Zh}{d:Option Zo}{v:Option Zh}{sl:Array (Option Zh)}:nd ⟨c,d,.cell v,sl⟩:=λuu uu h=>by cases h
noncomputable abbrev XX(vs:List Zh):Xl:={ cls:=.type "tuple",data:=.seq vs.toArray }
noncomputable abbrev ZD(vs:List Zh)(n:Nat:=0):Xl:={ cls:=.type "list",data:=.seq vs.toArray n }
theorem Cx.newTuple(C:Cx H0 A l M sE L m led s){vs:List Zh}{Q:Za}(h:∀ a s',Cx H0 A l M sE L m ((a,XX vs)::led) s'->Nw H0 sE a->s.heap.get? a=none->Q (.ref a) s')
  (hsz:vs.length<=sizeLine):Zp MM A (newTuple vs) Q E s :=
 Xa (h _ _ (C.push _ rfl Xe rfl) (C.noE XC) XC) (by exact hsz)
theorem Zmg{R:Zc}{f:Zo}{o:Xl}{fd:FuncData}{body:List JL}{args:Args}{binds:List (Yz×Zh)}(S:St H0 A l s)(M:List Zo)(led:Zd)(hled:∀ p∈led,Wy s.heap p)(hnod:(led.map (λuu=>uu.1)).Nodup)
  (hroom:A.depth<Zr)(ho:s.heap.get? f=some o)(hdata:o.data = .func fd)(hlim:s.heap.NoLimit)(hcd:s.heap.CodeRec fd.code fd.qualname)
  (hbody:fd.body = .stmts body)(hbind:BindsTo s fd args binds)(hcell:∀ x∈fd.scope.names,x.2 ≠ .cell)(hloc:∀ x∈binds,fd.scope.names.lookup x.1=some .local)
  (h:∀ L s',L=s.heap.objs.size->Cx H0 (A.deeper (callEnv fd L f)) (callEnv fd L f::l) M s L (λx=>binds.reverse.lookup x) led s' ->
   Zp (model PW w) (A.deeper (callEnv fd L f)) (execs body (callEnv fd L f)) (Nz R)
    (Fx w (A.deeper (callEnv fd L f)) (callEnv fd L f) R) s')
  (hco:fd.scope.isCoroutine=false:=by rfl)(hgen:fd.scope.isGenerator=false:=by rfl)(hk:fd.scope.kind = .function:=by rfl) :
  Yk (model PW w) A (.call (.ref f) args) R s:=by
 refine codeAny_call_def hroom ho hdata hlim hcd hbody hbind hcell hloc (λh₀ hns hk₀=>?_) hco hgen hk
 have hH:H0.get? s.heap.objs.size=none:=by
  cases q:H0.get? s.heap.objs.size with
  | none=>rfl
  | some o=>exact absurd (YH (S.glob _ _ q)) (Xy _)
 refine h _ _ rfl ⟨⟨λb o e=>hk₀ b o (S.glob b o e),by unfold YE.deeper; rw [S.frames]; rfl,λenv he=>?_,Z9 S.toks (Zx _ _)⟩,Go.ext (s:=s) (s':={ s with heap:=h₀,toks:=s.toks+binds.length }) hk₀ (Zx _ _) rfl rfl _,hns,XC,hH,λp hp=>⟨hk₀ _ _ (hled p hp).at_,(hled p hp).nd,λdx e=>?_⟩,λp hp q=>?_,hnod⟩
 rcases Z7.mp he with rfl | he
 ·refine V1 (JH hns) λoL es n h1 h2=>?_
  exact⟨by show fd.scope.kind≠_; rw [hk]; decide,_,oL,es,n,rfl,hH,h1,h2⟩
 ·refine U3 (S.fr env he) λhk' L' o' es n h1 h2 h3 h4=>?_
  exact⟨hk',L',o',es,n,h1,h2,hk₀ _ _ h3,h4⟩
 ·refine XW ((hled p hp).dx dx e) λo h1 h2=>?_
  exact⟨o,hk₀ _ _ h1,h2⟩
 ·refine XW ((hled p hp).dx _ q) λo h1 h2=>?_
  exact Wu (ZF (ZR XC) h1)
end
section
open PySem
noncomputable def Zjl(n:Nat):JL:=PW.main.body.getD n (.Pass default)
noncomputable def fnP(s:JL):WE×List JL×US:=@Stmt.casesOn (λuu=>WE×List JL×US) s (λuu a b uu uu uu c uu uu uu=>(a,b,c)) (λuu uu uu uu uu uu uu uu uu uu=>default) (λuu uu uu b uu uu uu uu uu uu uu=>(default,b,default)) (λuu uu=>default) (λuu uu=>default) (λuu uu uu=>default) (λuu uu uu uu uu uu uu=>default) (λuu uu uu uu=>default) (λuu uu uu uu uu=>default) (λuu uu b uu uu=>(default,b,default)) (λuu uu uu uu uu=>default) (λuu uu uu uu=>default) (λuu uu uu uu=>default) (λuu uu uu=>default) (λuu uu uu=>default) (λuu uu uu=>default) (λuu uu uu=>default) (λuu uu uu uu uu=>default) (λuu uu uu uu uu=>default) (λuu uu uu=>default) (λuu uu=>default) (λuu uu uu uu=>default) (λuu uu=>default) (λuu uu=>default) (λuu uu=>default) (λuu=>default) (λuu=>default) (λuu=>default)
noncomputable abbrev BW(d:WE×List JL×US):WE×List JL×US:=(d.1,d.2.1.drop 1,d.2.2)
noncomputable abbrev D(n:Nat):=fnP (Zjl n)
noncomputable abbrev DM(c i:Nat):=fnP ((fnP (Zjl c)).2.1.getD i (.Pass default))
noncomputable abbrev NS:=DM 3 1
noncomputable abbrev HJ:=D 8
noncomputable abbrev B7:=D 9
noncomputable abbrev HP:=DM 10 1
noncomputable abbrev HO:=DM 10 2
noncomputable abbrev HN:=DM 10 3
noncomputable abbrev JI:=DM 10 4
noncomputable abbrev HM:=DM 11 1
noncomputable abbrev HL:=DM 11 2
noncomputable abbrev Vp:=DM 11 3
noncomputable abbrev O0:=D 12
noncomputable abbrev HS:=DM 13 1
noncomputable abbrev HR:=DM 13 2
noncomputable abbrev HQ:=DM 13 3
noncomputable abbrev H7:=DM 15 2
noncomputable abbrev HK:=BW H7
noncomputable abbrev H8:=DM 15 3
noncomputable abbrev Sy:=BW H8
noncomputable abbrev TH:=D 17
noncomputable abbrev XH:=BW TH
noncomputable abbrev TG:=D 18
noncomputable abbrev Ziz:=BW TG
noncomputable abbrev Zcr:=D 19
noncomputable abbrev Gf:=BW Zcr
noncomputable abbrev TJ:=D 20
noncomputable abbrev Wh:=BW TJ
noncomputable abbrev K8:=DM 21 4
noncomputable abbrev Zeo:=BW K8
noncomputable abbrev Zcp:=D 22
noncomputable abbrev Us:=BW Zcp
noncomputable abbrev Gd:=D 24
noncomputable abbrev JR:=D 25
end
section
open PySem PySem.W
section
variable {tb:String->Option Builtin}{p:Program}{n₀:Nat}{ann:Option Zh}
noncomputable def Zhf(tb:String->Option Builtin)(p:Program)(w:Um):Nat->SharedT->Thread->Option SharedT
 | 0,_,_=>none
 | n+1,s,t=>match t.atExitBegin with
  | some []=>some s
  | some (_::_)=>none
  | none=>match stepT (denote tb) p w s t with
   | some (s',t')=>Zhf tb p w n s' t'
   | none=>none
theorem Sp:∀ {n:Nat} {s s':SharedT} {t:Thread},Zhf tb p w n s t=some s'->importEnds tb p w n s.abs t=some s'.abs
 | 0,_,_,_,h=>by cases h
 | n+1,s,s',t,h=>by
  unfold Zhf at h
  unfold importEnds
  cases he:t.atExitBegin with
  | some l=>rw [he] at h; cases l<;>cases h; rfl
  | none=>
   rw [he] at h
   cases hs:stepT (denote tb) p w s t with
   | none=>rw [hs] at h; cases h
   | some r=>obtain ⟨s₂,t₂⟩:=r; rw [hs] at h; rw [stepT_spec hs]; exact Sp h
noncomputable def Zft(tb:String->Option Builtin)(p:Program)(w:Um)(n₀:Nat)(ann:Option Zh):Nat->SharedT->Thread->Option SharedT
 | 0,_,_=>none
 | n+1,s,t=>match through t with
  | true=>some s
  | false=>match stepOk n₀ ann t with
   | false=>none
   | true=>match stepT (denote tb) p w s t with
    | some (s',t')=>Zft tb p w n₀ ann n s' t'
    | none=>none
theorem DR:∀ {n:Nat} {s s':SharedT} {t:Thread},Zft tb p w n₀ ann n s t=some s'->topRun tb p w n₀ ann n s.abs t=some s'.abs
 | 0,_,_,_,h=>by cases h
 | n+1,s,s',t,h=>by
  unfold Zft at h
  unfold topRun
  cases he:through t with
  | true=>rw [he] at h; cases h; rfl
  | false=>
   rw [he] at h
   cases hk:stepOk n₀ ann t with
   | false=>rw [hk] at h; cases h
   | true=>
    rw [hk] at h
    cases hs:stepT (denote tb) p w s t with
    | none=>rw [hs] at h; cases h
    | some r=>obtain ⟨s₂,t₂⟩:=r; rw [hs] at h; rw [stepT_spec hs]; exact DR h
noncomputable def NB:BT->Nat->List Xl->Option (BT×Nat)
 | t,n,[]=>some (t,n)
 | t,n,o::l=>match ((t.ins n o).get n).isSome with
  | true=>NB (t.ins n o) (n+1) l
  | false=>none
theorem FT{life:Life}:∀ {l:List Xl} {t t':BT} {n n':Nat},NB t n l=some (t',n')->absHeap t' n' life=⟨(absHeap t n life).objs++l.toArray,life⟩
 | [],t,t',n,n',h=>by cases h; rw [Array.append_empty]; rfl
 | o::l,t,t',n,n',h=>by
  unfold NB at h
  cases hs:((t.ins n o).get n).isSome with
  | false=>rw [hs] at h; cases h
  | true=>
   rw [hs] at h
   rw [FT h,absHeap_ins hs]
   show Heap.mk ((absHeap t n life).objs.push o++_) _=_
   congr 1
   apply Array.toList_inj.mp
   simp
noncomputable def ofS(s:Zi):Option SharedT:=(NB .nil 0 s.heap.objs.toList).map λr=>⟨r.1,r.2,s.heap.life,s.gens,s.drawn,s.toks,s.os⟩
theorem Zjy{s:Zi}{r:SharedT}(h:ofS s=some r):r.abs=s:=by
 refine XW (Option.map_eq_some_iff.mp h) λzq0 h1 zr=>?_; obtain ⟨t,n⟩:=zq0; obtain rfl:=zr
 have:=FT (life:=s.heap.life) h1
 obtain ⟨⟨⟨os⟩,life⟩,g,d,k,o⟩:=s
 show Shared.mk (absHeap t n life) g d k o=_
 rw [this]
 show Shared.mk (Heap.mk (#[]++_) _) _ _ _ _=_
 rw [Array.empty_append]
noncomputable def Ziy(p:Program)(w:Um)(N:Nat):Option SharedT :=
 (Zhf treeTable (opening p) w N ⟨.nil,0,{},#[],{},(start (opening p)).1.toks,(start (opening p)).1.os⟩ (start (opening p)).2).bind λsT=>
  (fenceModules? p sT.abs).bind λs₀=>(ofS s₀).bind λs₀T=>match s₀.heap.isNs Zw&&s₀.gens.size==0 with
   | true=>(Zft treeTable p w s₀.heap.objs.size (s₀.heap.nsMap Zw "__annotations__") N s₀T (topStub p)).bind λs₁=>
    match staticsOk (importedModules p.main.body) s₀.heap s₁.abs.heap&&namesBound p s₁.abs.heap&&gensDone s₁.abs&&laidKept s₀.heap s₁.abs.heap with
    | true=>some s₁
    | false=>none
   | false=>none
theorem Zej{p:Program}{w:Um}{N:Nat}{r:SharedT}(h:Ziy p w N=some r):openEnds treeTable p w N=some r.abs:=by
 refine XW (Option.bind_eq_some_iff.mp h) λsT h1 h=>?_
 refine XW (Option.bind_eq_some_iff.mp h) λs₀ h2 h=>?_
 refine XW (Option.bind_eq_some_iff.mp h) λs₀T h3 h=>?_
 delta openEnds fencedOpening
 rw [show importEnds treeTable (opening p) w N (start (opening p)).1 (start (opening p)).2=some sT.abs from(Sp h1)]
 show((fenceModules? p sT.abs).bind _)=_
 rw [h2]
 show topFrom treeTable p w N s₀=_
 delta topFrom
 cases hg:(s₀.heap.isNs Zw&&s₀.gens.size==0) with
 | false=>rw [hg] at h; cases h
 | true=>
  rw [hg] at h
  refine XW (Option.bind_eq_some_iff.mp h) λs₁ h4 h=>?_
  have e4:=DR h4
  rw [(Zjy h3)] at e4
  show(topRun treeTable p w s₀.heap.objs.size _ N s₀ (topStub p)).bind _=_
  rw [e4]
  show(match _ with | true=>_ | false=>_)=_
  cases hk:(staticsOk (importedModules p.main.body) s₀.heap s₁.abs.heap&&namesBound p s₁.abs.heap&&gensDone s₁.abs&&laidKept s₀.heap s₁.abs.heap) with
  | false=>rw [hk] at h; cases h
  | true=>rw [hk] at h; cases h; rfl
theorem Zam{p q:Program}{loose:List Yz}{Xt:Zi->Bool}{α:Type}{Yf:Zi->α}{Ya:Um->α}{N:Nat}{g0:Bool}
  (h:∀ w,(Ziy p w N).map (λs=>(openSeen q loose (importedModules p.main.body) Xt g0 s.abs,Yf s.abs))=some (openGood q loose,Ya w)):LeftO p q loose Xt Yf Ya N g0:=λw=>by
 refine XW (Option.map_eq_some_iff.mp (h w)) λr h1 h2=>?_
 rw [Zej h1]
 exact congrArg some h2
end
end
section
open PySem PySem.W PySem.W.X
noncomputable def vS(s:Yz)(t:W7):Zh:=.str s t
noncomputable def dE(P:JV)(l:List (String×W7×Zh)):Array DictEntry:=(l.map λp=>⟨PyData.keyHash P (Zj p.1),.str (Zj p.1) p.2.1,p.2.2⟩).toArray
noncomputable def rf(a:Nat):Zh:=.ref a
noncomputable def nI(z t:Nat):Zh:=.int (Int.ofNat z) t
noncomputable def kH(P:JV):Frag:=[
 (nat_lit 2,⟨.none,none,(.dict (dE P [("\x69mport.loaded.math",nat_lit 189,(.bool true)),("class._frozen_\x69mportlib_external._LoaderBasics",nat_lit 194,(rf (nat_lit 16))),("watched.\x69mport",nat_lit 210,(rf (nat_lit 20))),("class._frozen_\x69mportlib_external.FileLoader",nat_lit 211,(rf (nat_lit 22))),("class._frozen_\x69mportlib_external.ExtensionFileLoader",nat_lit 232,(rf (nat_lit 27))),("class._frozen_\x69mportlib.ModuleSpec",nat_lit 260,(rf (nat_lit 33))),("sys.modules.booked-epoch",nat_lit 289,(nI (nat_lit 3) (nat_lit 0))),("\x69mport.later-laid.math",nat_lit 365,(.bool true)),("watched.library",nat_lit 367,(rf (nat_lit 38))),("watched.library-objects",nat_lit 0,(vS "\x0d" (nat_lit 0)))]) 10),#[]⟩),
 (nat_lit 3,⟨(.type "dict"),none,(.dict (dE P [("__name__",nat_lit 165,(vS "law_kq0026_03" (nat_lit 972))),("__doc__",nat_lit 166,.none),("__package__",nat_lit 167,.none),("__loader__",nat_lit 168,(.builtin "__main__.__loader__#opaque")),("__spec__",nat_lit 169,.none),("__annotations__",nat_lit 170,(rf (nat_lit 6))),("__builtins__",nat_lit 171,(rf (nat_lit 4))),("__file__",nat_lit 173,(vS "/claim/cut.py" (nat_lit 172))),("__cached__",nat_lit 174,.none),("fsum",nat_lit 373,(.builtin "math.fsum")),("isfinite",nat_lit 376,(.builtin "math.isfinite")),("isinf",nat_lit 379,(.builtin "math.isinf")),("sqrt",nat_lit 382,(.builtin "math.sqrt")),("sumprod",nat_lit 385,(.builtin "math.sumprod")),("_wall",nat_lit 398,(rf (nat_lit 49))),("_tuplegetter",nat_lit 457,(rf (nat_lit 88))),("StatisticsError",nat_lit 475,(rf (nat_lit 102))),("_MAXSIZE",nat_lit 479,(nI (nat_lit 9223372036854775807) (nat_lit 478))),("_is_int",nat_lit 487,(rf (nat_lit 112))),("_pull",nat_lit 494,(rf (nat_lit 119))),("_same",nat_lit 502,(rf (nat_lit 126))),("groupby",nat_lit 593,(rf (nat_lit 167))),("_grouper",nat_lit 647,(rf (nat_lit 212))),("_count_kind",nat_lit 655,(rf (nat_lit 224))),("count",nat_lit 720,(rf (nat_lit 265))),("itemgetter",nat_lit 784,(rf (nat_lit 310))),("_rank",nat_lit 814,(rf (nat_lit 321))),("_sqrtprod",nat_lit 826,(rf (nat_lit 328))),("covariance",nat_lit 839,(rf (nat_lit 335))),("correlation",nat_lit 848,(rf (nat_lit 341))),("LinearRegression",nat_lit 963,(rf (nat_lit 409))),("linear_regression",nat_lit 971,(rf (nat_lit 418))),("_law_told",nat_lit 989,(rf (nat_lit 425))),("law",nat_lit 995,(rf (nat_lit 430)))]) 34),#[]⟩),
 (nat_lit 64,⟨(.type "tuple"),none,(.seq #[.none] 0),#[]⟩),
 (nat_lit 70,⟨(.type "code"),none,(.fields #[(vS "__get__" (nat_lit 422)),(vS "_tuplegetter.__get__" (nat_lit 423)),(vS "/claim/cut.py" (nat_lit 424)),(nI (nat_lit 12) (nat_lit 0)),(nI (nat_lit 3) (nat_lit 0)),(nI (nat_lit 0) (nat_lit 0)),(nI (nat_lit 0) (nat_lit 0)),(nI (nat_lit 3) (nat_lit 0)),(rf (nat_lit 65)),(.bool true),(nI (nat_lit 386) (nat_lit 0)),(rf (nat_lit 66)),.none,(rf (nat_lit 67)),(rf (nat_lit 68)),(rf (nat_lit 69)),(nI (nat_lit 428) (nat_lit 0)),(nI (nat_lit 12) (nat_lit 0)),(vS "/claim/cut.py" (nat_lit 429))]),#[]⟩),
 (nat_lit 71,⟨(.type "function"),none,(.func (JC "__get__" "_tuplegetter.__get__" NS.1 NS.2.1 NS.2.2 (rf (nat_lit 64)) .none .none (vS "cpy313.statistics" (nat_lit 399)) none (rf (nat_lit 70)) .none)),#[]⟩),
 (nat_lit 87,⟨(.type "dict"),none,(.dict (dE P [("__module__",nat_lit 408,(vS "cpy313.statistics" (nat_lit 399))),("__firstlineno__",nat_lit 412,(nI (nat_lit 6) (nat_lit 411))),("__init__",nat_lit 421,(rf (nat_lit 63))),("__get__",nat_lit 430,(rf (nat_lit 71))),("__set__",nat_lit 439,(rf (nat_lit 78))),("__delete__",nat_lit 447,(rf (nat_lit 85))),("__static_attributes__",nat_lit 450,(rf (nat_lit 86))),("__dict__",nat_lit 452,(rf (nat_lit 89))),("__weakref__",nat_lit 454,(rf (nat_lit 90))),("__doc__",nat_lit 455,.none)]) 4),#[]⟩),
 (nat_lit 88,⟨(.type "type"),none,(.cls { name:="_tuplegetter",bases:=[(.type "object")],mro:=[(rf (nat_lit 88)),(.type "object")],ns:=87,qualname:="_tuplegetter",hasDict:=true,slotNames:=[],subclasses:=[],abstract:=false,collection:=none,hasDel:=false }),#[none,none,(some (vS "_tuplegetter" (nat_lit 401))),(some (vS "_tuplegetter" (nat_lit 409))),(some (.builtin "object.__new__")),(some (.bool true))]⟩),
 (nat_lit 101,⟨(.type "dict"),none,(.dict (dE P [("__module__",nat_lit 465,(vS "cpy313.statistics" (nat_lit 399))),("__firstlineno__",nat_lit 469,(nI (nat_lit 24) (nat_lit 468))),("__static_attributes__",nat_lit 470,(rf (nat_lit 100))),("__weakref__",nat_lit 472,(rf (nat_lit 103))),("__doc__",nat_lit 473,.none)]) 3),#[]⟩),
 (nat_lit 102,⟨(.type "type"),none,(.cls { name:="StatisticsError",bases:=[(.type "ValueError")],mro:=[(rf (nat_lit 102)),(.type "ValueError"),(.type "Exception"),(.type "BaseException"),(.type "object")],ns:=101,qualname:="StatisticsError",hasDict:=true,slotNames:=[],subclasses:=[],abstract:=false,collection:=none,hasDel:=false }),#[(some (rf (nat_lit 93))),none,(some (vS "StatisticsError" (nat_lit 458))),(some (vS "StatisticsError" (nat_lit 466))),(some (.builtin "ValueError.__new__")),(some (.bool true))]⟩),
 (nat_lit 118,⟨(.type "code"),none,(.fields #[(vS "_pull" (nat_lit 488)),(vS "_pull" (nat_lit 489)),(vS "/claim/cut.py" (nat_lit 490)),(nI (nat_lit 31) (nat_lit 0)),(nI (nat_lit 1) (nat_lit 0)),(nI (nat_lit 0) (nat_lit 0)),(nI (nat_lit 0) (nat_lit 0)),(nI (nat_lit 3) (nat_lit 0)),(rf (nat_lit 113)),(.bool true),(nI (nat_lit 386) (nat_lit 0)),(rf (nat_lit 114)),.none,(rf (nat_lit 115)),(rf (nat_lit 116)),(rf (nat_lit 117)),(nI (nat_lit 492) (nat_lit 0)),(nI (nat_lit 31) (nat_lit 0)),(vS "/claim/cut.py" (nat_lit 493))]),#[]⟩),
 (nat_lit 119,⟨(.type "function"),none,(.func (JC "_pull" "_pull" HJ.1 HJ.2.1 HJ.2.2 .none .none .none (vS "itertools" (nat_lit 476)) none (rf (nat_lit 118)) .none)),#[]⟩),
 (nat_lit 125,⟨(.type "code"),none,(.fields #[(vS "_same" (nat_lit 495)),(vS "_same" (nat_lit 496)),(vS "/claim/cut.py" (nat_lit 497)),(nI (nat_lit 36) (nat_lit 0)),(nI (nat_lit 2) (nat_lit 0)),(nI (nat_lit 0) (nat_lit 0)),(nI (nat_lit 0) (nat_lit 0)),(nI (nat_lit 3) (nat_lit 0)),(rf (nat_lit 120)),(.bool true),(nI (nat_lit 386) (nat_lit 0)),(rf (nat_lit 121)),.none,(rf (nat_lit 122)),(rf (nat_lit 123)),(rf (nat_lit 124)),(nI (nat_lit 500) (nat_lit 0)),(nI (nat_lit 36) (nat_lit 0)),(vS "/claim/cut.py" (nat_lit 501))]),#[]⟩),
 (nat_lit 126,⟨(.type "function"),none,(.func (JC "_same" "_same" B7.1 B7.2.1 B7.2.2 .none .none .none (vS "itertools" (nat_lit 476)) none (rf (nat_lit 125)) .none)),#[]⟩),
 (nat_lit 135,⟨(.type "tuple"),none,(.seq #[.none] 0),#[]⟩),
 (nat_lit 141,⟨(.type "code"),none,(.fields #[(vS "__init__" (nat_lit 526)),(vS "groupby.__init__" (nat_lit 527)),(vS "/claim/cut.py" (nat_lit 528)),(nI (nat_lit 45) (nat_lit 0)),(nI (nat_lit 3) (nat_lit 0)),(nI (nat_lit 0) (nat_lit 0)),(nI (nat_lit 0) (nat_lit 0)),(nI (nat_lit 3) (nat_lit 0)),(rf (nat_lit 136)),(.bool true),(nI (nat_lit 386) (nat_lit 0)),(rf (nat_lit 137)),.none,(rf (nat_lit 138)),(rf (nat_lit 139)),(rf (nat_lit 140)),(nI (nat_lit 532) (nat_lit 0)),(nI (nat_lit 45) (nat_lit 0)),(vS "/claim/cut.py" (nat_lit 533))]),#[]⟩),
 (nat_lit 142,⟨(.type "function"),none,(.func (JC "__init__" "groupby.__init__" HP.1 HP.2.1 HP.2.2 (rf (nat_lit 135)) .none .none (vS "itertools" (nat_lit 476)) none (rf (nat_lit 141)) .none)),#[]⟩),
 (nat_lit 148,⟨(.type "code"),none,(.fields #[(vS "__iter__" (nat_lit 535)),(vS "groupby.__iter__" (nat_lit 536)),(vS "/claim/cut.py" (nat_lit 537)),(nI (nat_lit 57) (nat_lit 0)),(nI (nat_lit 1) (nat_lit 0)),(nI (nat_lit 0) (nat_lit 0)),(nI (nat_lit 0) (nat_lit 0)),(nI (nat_lit 3) (nat_lit 0)),(rf (nat_lit 143)),(.bool true),(nI (nat_lit 386) (nat_lit 0)),(rf (nat_lit 144)),.none,(rf (nat_lit 145)),(rf (nat_lit 146)),(rf (nat_lit 147)),(nI (nat_lit 539) (nat_lit 0)),(nI (nat_lit 57) (nat_lit 0)),(vS "/claim/cut.py" (nat_lit 540))]),#[]⟩),
 (nat_lit 149,⟨(.type "function"),none,(.func (JC "__iter__" "groupby.__iter__" HO.1 HO.2.1 HO.2.2 .none .none .none (vS "itertools" (nat_lit 476)) none (rf (nat_lit 148)) .none)),#[]⟩),
 (nat_lit 155,⟨(.type "code"),none,(.fields #[(vS "_step" (nat_lit 542)),(vS "groupby._step" (nat_lit 543)),(vS "/claim/cut.py" (nat_lit 544)),(nI (nat_lit 60) (nat_lit 0)),(nI (nat_lit 1) (nat_lit 0)),(nI (nat_lit 0) (nat_lit 0)),(nI (nat_lit 0) (nat_lit 0)),(nI (nat_lit 3) (nat_lit 0)),(rf (nat_lit 150)),(.bool true),(nI (nat_lit 386) (nat_lit 0)),(rf (nat_lit 151)),.none,(rf (nat_lit 152)),(rf (nat_lit 153)),(rf (nat_lit 154)),(nI (nat_lit 549) (nat_lit 0)),(nI (nat_lit 60) (nat_lit 0)),(vS "/claim/cut.py" (nat_lit 550))]),#[]⟩),
 (nat_lit 156,⟨(.type "function"),none,(.func (JC "_step" "groupby._step" HN.1 HN.2.1 HN.2.2 .none .none .none (vS "itertools" (nat_lit 476)) none (rf (nat_lit 155)) .none)),#[]⟩),
 (nat_lit 162,⟨(.type "code"),none,(.fields #[(vS "__next__" (nat_lit 552)),(vS "groupby.__next__" (nat_lit 553)),(vS "/claim/cut.py" (nat_lit 554)),(nI (nat_lit 73) (nat_lit 0)),(nI (nat_lit 1) (nat_lit 0)),(nI (nat_lit 0) (nat_lit 0)),(nI (nat_lit 0) (nat_lit 0)),(nI (nat_lit 3) (nat_lit 0)),(rf (nat_lit 157)),(.bool true),(nI (nat_lit 386) (nat_lit 0)),(rf (nat_lit 158)),.none,(rf (nat_lit 159)),(rf (nat_lit 160)),(rf (nat_lit 161)),(nI (nat_lit 557) (nat_lit 0)),(nI (nat_lit 73) (nat_lit 0)),(vS "/claim/cut.py" (nat_lit 558))]),#[]⟩),
 (nat_lit 163,⟨(.type "function"),none,(.func (JC "__next__" "groupby.__next__" JI.1 JI.2.1 JI.2.2 .none .none .none (vS "itertools" (nat_lit 476)) none (rf (nat_lit 162)) .none)),#[]⟩),
 (nat_lit 166,⟨(.type "dict"),none,(.dict (dE P [("__module__",nat_lit 510,(vS "itertools" (nat_lit 476))),("__firstlineno__",nat_lit 514,(nI (nat_lit 42) (nat_lit 513))),("__slots__",nat_lit 525,(rf (nat_lit 134))),("__init__",nat_lit 534,(rf (nat_lit 142))),("__iter__",nat_lit 541,(rf (nat_lit 149))),("_step",nat_lit 551,(rf (nat_lit 156))),("__next__",nat_lit 559,(rf (nat_lit 163))),("__static_attributes__",nat_lit 570,(rf (nat_lit 164))),("_currgrouper",nat_lit 572,(rf (nat_lit 168))),("_currkey",nat_lit 574,(rf (nat_lit 169))),("_currvalue",nat_lit 576,(rf (nat_lit 170))),("_has_currkey",nat_lit 578,(rf (nat_lit 171))),("_has_currvalue",nat_lit 580,(rf (nat_lit 172))),("_has_tgtkey",nat_lit 582,(rf (nat_lit 173))),("_it",nat_lit 584,(rf (nat_lit 174))),("_keyfunc",nat_lit 586,(rf (nat_lit 175))),("_serial",nat_lit 588,(rf (nat_lit 176))),("_tgtkey",nat_lit 590,(rf (nat_lit 177))),("__doc__",nat_lit 591,.none)]) 12),#[]⟩),
 (nat_lit 167,⟨(.type "type"),none,(.cls { name:="groupby",bases:=[(.type "object")],mro:=[(rf (nat_lit 167)),(.type "object")],ns:=166,qualname:="groupby",hasDict:=false,slotNames:=["_currgrouper","_currkey","_currvalue","_has_currkey","_has_currvalue","_has_tgtkey","_it","_keyfunc","_serial","_tgtkey"],subclasses:=[],abstract:=false,collection:=none,hasDel:=false }),#[none,none,(some (vS "groupby" (nat_lit 503))),(some (vS "groupby" (nat_lit 511))),(some (.builtin "object.__new__")),(some (.bool false))]⟩),
 (nat_lit 168,⟨(.type "member_descriptor"),none,(.fields #[(vS "_currgrouper" (nat_lit 571)),(rf (nat_lit 167)),(.builtin "proto.slot"),(.builtin "proto.slot#set"),(nI (nat_lit 9) (nat_lit 0))]),#[]⟩),
 (nat_lit 169,⟨(.type "member_descriptor"),none,(.fields #[(vS "_currkey" (nat_lit 573)),(rf (nat_lit 167)),(.builtin "proto.slot"),(.builtin "proto.slot#set"),(nI (nat_lit 8) (nat_lit 0))]),#[]⟩),
 (nat_lit 170,⟨(.type "member_descriptor"),none,(.fields #[(vS "_currvalue" (nat_lit 575)),(rf (nat_lit 167)),(.builtin "proto.slot"),(.builtin "proto.slot#set"),(nI (nat_lit 7) (nat_lit 0))]),#[]⟩),
 (nat_lit 171,⟨(.type "member_descriptor"),none,(.fields #[(vS "_has_currkey" (nat_lit 577)),(rf (nat_lit 167)),(.builtin "proto.slot"),(.builtin "proto.slot#set"),(nI (nat_lit 6) (nat_lit 0))]),#[]⟩),
 (nat_lit 172,⟨(.type "member_descriptor"),none,(.fields #[(vS "_has_currvalue" (nat_lit 579)),(rf (nat_lit 167)),(.builtin "proto.slot"),(.builtin "proto.slot#set"),(nI (nat_lit 5) (nat_lit 0))]),#[]⟩),
 (nat_lit 173,⟨(.type "member_descriptor"),none,(.fields #[(vS "_has_tgtkey" (nat_lit 581)),(rf (nat_lit 167)),(.builtin "proto.slot"),(.builtin "proto.slot#set"),(nI (nat_lit 4) (nat_lit 0))]),#[]⟩),
 (nat_lit 174,⟨(.type "member_descriptor"),none,(.fields #[(vS "_it" (nat_lit 583)),(rf (nat_lit 167)),(.builtin "proto.slot"),(.builtin "proto.slot#set"),(nI (nat_lit 3) (nat_lit 0))]),#[]⟩),
 (nat_lit 175,⟨(.type "member_descriptor"),none,(.fields #[(vS "_keyfunc" (nat_lit 585)),(rf (nat_lit 167)),(.builtin "proto.slot"),(.builtin "proto.slot#set"),(nI (nat_lit 2) (nat_lit 0))]),#[]⟩),
 (nat_lit 176,⟨(.type "member_descriptor"),none,(.fields #[(vS "_serial" (nat_lit 587)),(rf (nat_lit 167)),(.builtin "proto.slot"),(.builtin "proto.slot#set"),(nI (nat_lit 1) (nat_lit 0))]),#[]⟩),
 (nat_lit 177,⟨(.type "member_descriptor"),none,(.fields #[(vS "_tgtkey" (nat_lit 589)),(rf (nat_lit 167)),(.builtin "proto.slot"),(.builtin "proto.slot#set"),(nI (nat_lit 0) (nat_lit 0))]),#[]⟩),
 (nat_lit 193,⟨(.type "code"),none,(.fields #[(vS "__init__" (nat_lit 610)),(vS "_grouper.__init__" (nat_lit 611)),(vS "/claim/cut.py" (nat_lit 612)),(nI (nat_lit 89) (nat_lit 0)),(nI (nat_lit 3) (nat_lit 0)),(nI (nat_lit 3) (nat_lit 0)),(nI (nat_lit 0) (nat_lit 0)),(nI (nat_lit 3) (nat_lit 0)),(rf (nat_lit 188)),(.bool true),(nI (nat_lit 386) (nat_lit 0)),(rf (nat_lit 189)),.none,(rf (nat_lit 190)),(rf (nat_lit 191)),(rf (nat_lit 192)),(nI (nat_lit 616) (nat_lit 0)),(nI (nat_lit 89) (nat_lit 0)),(vS "/claim/cut.py" (nat_lit 617))]),#[]⟩),
 (nat_lit 194,⟨(.type "function"),none,(.func (JC "__init__" "_grouper.__init__" HM.1 HM.2.1 HM.2.2 .none .none .none (vS "itertools" (nat_lit 476)) none (rf (nat_lit 193)) .none)),#[]⟩),
 (nat_lit 200,⟨(.type "code"),none,(.fields #[(vS "__iter__" (nat_lit 619)),(vS "_grouper.__iter__" (nat_lit 620)),(vS "/claim/cut.py" (nat_lit 621)),(nI (nat_lit 98) (nat_lit 0)),(nI (nat_lit 1) (nat_lit 0)),(nI (nat_lit 0) (nat_lit 0)),(nI (nat_lit 0) (nat_lit 0)),(nI (nat_lit 3) (nat_lit 0)),(rf (nat_lit 195)),(.bool true),(nI (nat_lit 386) (nat_lit 0)),(rf (nat_lit 196)),.none,(rf (nat_lit 197)),(rf (nat_lit 198)),(rf (nat_lit 199)),(nI (nat_lit 623) (nat_lit 0)),(nI (nat_lit 98) (nat_lit 0)),(vS "/claim/cut.py" (nat_lit 624))]),#[]⟩),
 (nat_lit 201,⟨(.type "function"),none,(.func (JC "__iter__" "_grouper.__iter__" HL.1 HL.2.1 HL.2.2 .none .none .none (vS "itertools" (nat_lit 476)) none (rf (nat_lit 200)) .none)),#[]⟩),
 (nat_lit 207,⟨(.type "code"),none,(.fields #[(vS "__next__" (nat_lit 626)),(vS "_grouper.__next__" (nat_lit 627)),(vS "/claim/cut.py" (nat_lit 628)),(nI (nat_lit 101) (nat_lit 0)),(nI (nat_lit 1) (nat_lit 0)),(nI (nat_lit 0) (nat_lit 0)),(nI (nat_lit 0) (nat_lit 0)),(nI (nat_lit 3) (nat_lit 0)),(rf (nat_lit 202)),(.bool true),(nI (nat_lit 386) (nat_lit 0)),(rf (nat_lit 203)),.none,(rf (nat_lit 204)),(rf (nat_lit 205)),(rf (nat_lit 206)),(nI (nat_lit 632) (nat_lit 0)),(nI (nat_lit 101) (nat_lit 0)),(vS "/claim/cut.py" (nat_lit 633))]),#[]⟩),
 (nat_lit 208,⟨(.type "function"),none,(.func (JC "__next__" "_grouper.__next__" Vp.1 Vp.2.1 Vp.2.2 .none .none .none (vS "itertools" (nat_lit 476)) none (rf (nat_lit 207)) .none)),#[]⟩),
 (nat_lit 211,⟨(.type "dict"),none,(.dict (dE P [("__module__",nat_lit 601,(vS "itertools" (nat_lit 476))),("__firstlineno__",nat_lit 605,(nI (nat_lit 86) (nat_lit 604))),("__slots__",nat_lit 609,(rf (nat_lit 187))),("__init__",nat_lit 618,(rf (nat_lit 194))),("__iter__",nat_lit 625,(rf (nat_lit 201))),("__next__",nat_lit 634,(rf (nat_lit 208))),("__static_attributes__",nat_lit 638,(rf (nat_lit 209))),("_number",nat_lit 640,(rf (nat_lit 213))),("_parent",nat_lit 642,(rf (nat_lit 214))),("_tgtkey",nat_lit 644,(rf (nat_lit 215))),("__doc__",nat_lit 645,.none)]) 5),#[]⟩),
 (nat_lit 212,⟨(.type "type"),none,(.cls { name:="_grouper",bases:=[(.type "object")],mro:=[(rf (nat_lit 212)),(.type "object")],ns:=211,qualname:="_grouper",hasDict:=false,slotNames:=["_number","_parent","_tgtkey"],subclasses:=[],abstract:=false,collection:=none,hasDel:=false }),#[none,none,(some (vS "_grouper" (nat_lit 594))),(some (vS "_grouper" (nat_lit 602))),(some (.builtin "object.__new__")),(some (.bool false))]⟩),
 (nat_lit 213,⟨(.type "member_descriptor"),none,(.fields #[(vS "_number" (nat_lit 639)),(rf (nat_lit 212)),(.builtin "proto.slot"),(.builtin "proto.slot#set"),(nI (nat_lit 2) (nat_lit 0))]),#[]⟩),
 (nat_lit 214,⟨(.type "member_descriptor"),none,(.fields #[(vS "_parent" (nat_lit 641)),(rf (nat_lit 212)),(.builtin "proto.slot"),(.builtin "proto.slot#set"),(nI (nat_lit 1) (nat_lit 0))]),#[]⟩),
 (nat_lit 215,⟨(.type "member_descriptor"),none,(.fields #[(vS "_tgtkey" (nat_lit 643)),(rf (nat_lit 212)),(.builtin "proto.slot"),(.builtin "proto.slot#set"),(nI (nat_lit 0) (nat_lit 0))]),#[]⟩),
 (nat_lit 223,⟨(.type "code"),none,(.fields #[(vS "_count_kind" (nat_lit 648)),(vS "_count_kind" (nat_lit 649)),(vS "/claim/cut.py" (nat_lit 650)),(nI (nat_lit 115) (nat_lit 0)),(nI (nat_lit 1) (nat_lit 0)),(nI (nat_lit 0) (nat_lit 0)),(nI (nat_lit 0) (nat_lit 0)),(nI (nat_lit 3) (nat_lit 0)),(rf (nat_lit 218)),(.bool true),(nI (nat_lit 386) (nat_lit 0)),(rf (nat_lit 219)),.none,(rf (nat_lit 220)),(rf (nat_lit 221)),(rf (nat_lit 222)),(nI (nat_lit 653) (nat_lit 0)),(nI (nat_lit 115) (nat_lit 0)),(vS "/claim/cut.py" (nat_lit 654))]),#[]⟩),
 (nat_lit 224,⟨(.type "function"),none,(.func (JC "_count_kind" "_count_kind" O0.1 O0.2.1 O0.2.2 .none .none .none (vS "itertools" (nat_lit 476)) none (rf (nat_lit 223)) .none)),#[]⟩),
 (nat_lit 233,⟨(.type "tuple"),none,(.seq #[(nI (nat_lit 0) (nat_lit 672)),(nI (nat_lit 1) (nat_lit 673))] 0),#[]⟩),
 (nat_lit 239,⟨(.type "code"),none,(.fields #[(vS "__init__" (nat_lit 674)),(vS "count.__init__" (nat_lit 675)),(vS "/claim/cut.py" (nat_lit 676)),(nI (nat_lit 127) (nat_lit 0)),(nI (nat_lit 3) (nat_lit 0)),(nI (nat_lit 0) (nat_lit 0)),(nI (nat_lit 0) (nat_lit 0)),(nI (nat_lit 3) (nat_lit 0)),(rf (nat_lit 234)),(.bool true),(nI (nat_lit 386) (nat_lit 0)),(rf (nat_lit 235)),.none,(rf (nat_lit 236)),(rf (nat_lit 237)),(rf (nat_lit 238)),(nI (nat_lit 683) (nat_lit 0)),(nI (nat_lit 127) (nat_lit 0)),(vS "/claim/cut.py" (nat_lit 684))]),#[]⟩),
 (nat_lit 240,⟨(.type "function"),none,(.func (JC "__init__" "count.__init__" HS.1 HS.2.1 HS.2.2 (rf (nat_lit 233)) .none .none (vS "itertools" (nat_lit 476)) none (rf (nat_lit 239)) .none)),#[]⟩),
 (nat_lit 246,⟨(.type "code"),none,(.fields #[(vS "__iter__" (nat_lit 686)),(vS "count.__iter__" (nat_lit 687)),(vS "/claim/cut.py" (nat_lit 688)),(nI (nat_lit 139) (nat_lit 0)),(nI (nat_lit 1) (nat_lit 0)),(nI (nat_lit 0) (nat_lit 0)),(nI (nat_lit 0) (nat_lit 0)),(nI (nat_lit 3) (nat_lit 0)),(rf (nat_lit 241)),(.bool true),(nI (nat_lit 386) (nat_lit 0)),(rf (nat_lit 242)),.none,(rf (nat_lit 243)),(rf (nat_lit 244)),(rf (nat_lit 245)),(nI (nat_lit 690) (nat_lit 0)),(nI (nat_lit 139) (nat_lit 0)),(vS "/claim/cut.py" (nat_lit 691))]),#[]⟩),
 (nat_lit 247,⟨(.type "function"),none,(.func (JC "__iter__" "count.__iter__" HR.1 HR.2.1 HR.2.2 .none .none .none (vS "itertools" (nat_lit 476)) none (rf (nat_lit 246)) .none)),#[]⟩),
 (nat_lit 253,⟨(.type "code"),none,(.fields #[(vS "__next__" (nat_lit 693)),(vS "count.__next__" (nat_lit 694)),(vS "/claim/cut.py" (nat_lit 695)),(nI (nat_lit 142) (nat_lit 0)),(nI (nat_lit 1) (nat_lit 0)),(nI (nat_lit 0) (nat_lit 0)),(nI (nat_lit 0) (nat_lit 0)),(nI (nat_lit 3) (nat_lit 0)),(rf (nat_lit 248)),(.bool true),(nI (nat_lit 386) (nat_lit 0)),(rf (nat_lit 249)),.none,(rf (nat_lit 250)),(rf (nat_lit 251)),(rf (nat_lit 252)),(nI (nat_lit 698) (nat_lit 0)),(nI (nat_lit 142) (nat_lit 0)),(vS "/claim/cut.py" (nat_lit 699))]),#[]⟩),
 (nat_lit 254,⟨(.type "function"),none,(.func (JC "__next__" "count.__next__" HQ.1 HQ.2.1 HQ.2.2 .none .none .none (vS "itertools" (nat_lit 476)) none (rf (nat_lit 253)) .none)),#[]⟩),
 (nat_lit 264,⟨(.type "dict"),none,(.dict (dE P [("__module__",nat_lit 663,(vS "itertools" (nat_lit 476))),("__firstlineno__",nat_lit 667,(nI (nat_lit 124) (nat_lit 666))),("__slots__",nat_lit 671,(rf (nat_lit 232))),("__init__",nat_lit 685,(rf (nat_lit 240))),("__iter__",nat_lit 692,(rf (nat_lit 247))),("__next__",nat_lit 700,(rf (nat_lit 254))),("__repr__",nat_lit 707,(rf (nat_lit 261))),("__static_attributes__",nat_lit 711,(rf (nat_lit 262))),("_cnt",nat_lit 713,(rf (nat_lit 266))),("_fast",nat_lit 715,(rf (nat_lit 267))),("_step",nat_lit 717,(rf (nat_lit 268))),("__doc__",nat_lit 718,.none)]) 5),#[]⟩),
 (nat_lit 265,⟨(.type "type"),none,(.cls { name:="count",bases:=[(.type "object")],mro:=[(rf (nat_lit 265)),(.type "object")],ns:=264,qualname:="count",hasDict:=false,slotNames:=["_cnt","_fast","_step"],subclasses:=[],abstract:=false,collection:=none,hasDel:=false }),#[none,none,(some (vS "count" (nat_lit 656))),(some (vS "count" (nat_lit 664))),(some (.builtin "object.__new__")),(some (.bool false))]⟩),
 (nat_lit 266,⟨(.type "member_descriptor"),none,(.fields #[(vS "_cnt" (nat_lit 712)),(rf (nat_lit 265)),(.builtin "proto.slot"),(.builtin "proto.slot#set"),(nI (nat_lit 2) (nat_lit 0))]),#[]⟩),
 (nat_lit 267,⟨(.type "member_descriptor"),none,(.fields #[(vS "_fast" (nat_lit 714)),(rf (nat_lit 265)),(.builtin "proto.slot"),(.builtin "proto.slot#set"),(nI (nat_lit 1) (nat_lit 0))]),#[]⟩),
 (nat_lit 268,⟨(.type "member_descriptor"),none,(.fields #[(vS "_step" (nat_lit 716)),(rf (nat_lit 265)),(.builtin "proto.slot"),(.builtin "proto.slot#set"),(nI (nat_lit 0) (nat_lit 0))]),#[]⟩),
 (nat_lit 284,⟨(.type "code"),none,(.fields #[(vS "__init__" (nat_lit 740)),(vS "itemgetter.__init__" (nat_lit 741)),(vS "/claim/cut.py" (nat_lit 742)),(nI (nat_lit 158) (nat_lit 0)),(nI (nat_lit 2) (nat_lit 0)),(nI (nat_lit 2) (nat_lit 0)),(nI (nat_lit 0) (nat_lit 0)),(nI (nat_lit 7) (nat_lit 0)),(rf (nat_lit 279)),(.bool true),(nI (nat_lit 386) (nat_lit 0)),(rf (nat_lit 280)),.none,(rf (nat_lit 281)),(rf (nat_lit 282)),(rf (nat_lit 283)),(nI (nat_lit 746) (nat_lit 0)),(nI (nat_lit 158) (nat_lit 0)),(vS "/claim/cut.py" (nat_lit 747))]),#[]⟩),
 (nat_lit 285,⟨(.type "function"),none,(.func (JC "__init__" "itemgetter.__init__" H7.1 H7.2.1 H7.2.2 .none .none (vS "Initialize self.  See help(type(self)) for accurate signature." (nat_lit 748)) (vS "operator" (nat_lit 721)) none (rf (nat_lit 284)) .none)),#[]⟩),
 (nat_lit 291,⟨(.type "code"),none,(.fields #[(vS "__call__" (nat_lit 750)),(vS "itemgetter.__call__" (nat_lit 751)),(vS "/claim/cut.py" (nat_lit 752)),(nI (nat_lit 162) (nat_lit 0)),(nI (nat_lit 2) (nat_lit 0)),(nI (nat_lit 2) (nat_lit 0)),(nI (nat_lit 0) (nat_lit 0)),(nI (nat_lit 3) (nat_lit 0)),(rf (nat_lit 286)),(.bool true),(nI (nat_lit 386) (nat_lit 0)),(rf (nat_lit 287)),.none,(rf (nat_lit 288)),(rf (nat_lit 289)),(rf (nat_lit 290)),(nI (nat_lit 758) (nat_lit 0)),(nI (nat_lit 162) (nat_lit 0)),(vS "/claim/cut.py" (nat_lit 759))]),#[]⟩),
 (nat_lit 292,⟨(.type "function"),none,(.func (JC "__call__" "itemgetter.__call__" H8.1 H8.2.1 H8.2.2 .none .none (vS "Call self as a function." (nat_lit 760)) (vS "operator" (nat_lit 721)) none (rf (nat_lit 291)) .none)),#[]⟩),
 (nat_lit 309,⟨(.type "dict"),none,(.dict (dE P [("__module__",nat_lit 730,(vS "operator" (nat_lit 721))),("__firstlineno__",nat_lit 734,(nI (nat_lit 152) (nat_lit 733))),("__doc__",nat_lit 736,(vS "Return a callable object that fetches the given item(s) from its operand.\nAfter f = itemgetter(2), the call f(r) returns r[2].\nAfter g = itemgetter(2, 5, 3), the call g(r) returns (r[2], r[5], r[3])" (nat_lit 735))),("__slots__",nat_lit 739,(rf (nat_lit 278))),("__init__",nat_lit 749,(rf (nat_lit 285))),("__call__",nat_lit 761,(rf (nat_lit 292))),("__repr__",nat_lit 770,(rf (nat_lit 299))),("__reduce__",nat_lit 778,(rf (nat_lit 306))),("__static_attributes__",nat_lit 780,(rf (nat_lit 307))),("_items",nat_lit 782,(rf (nat_lit 311)))]) 2),#[]⟩),
 (nat_lit 310,⟨(.type "type"),none,(.cls { name:="itemgetter",bases:=[(.type "object")],mro:=[(rf (nat_lit 310)),(.type "object")],ns:=309,qualname:="itemgetter",hasDict:=false,slotNames:=["_items"],subclasses:=[],abstract:=false,collection:=none,hasDel:=false }),#[none,none,(some (vS "itemgetter" (nat_lit 723))),(some (vS "itemgetter" (nat_lit 731))),(some (.builtin "object.__new__")),(some (.bool false))]⟩),
 (nat_lit 311,⟨(.type "member_descriptor"),none,(.fields #[(vS "_items" (nat_lit 781)),(rf (nat_lit 310)),(.builtin "proto.slot"),(.builtin "proto.slot#set"),(nI (nat_lit 0) (nat_lit 0))]),#[]⟩),
 (nat_lit 314,⟨(.type "dict"),none,(.dict (dE P [("key",nat_lit 789,.none),("reverse",nat_lit 790,(.bool false)),("ties",nat_lit 791,(vS "average" (nat_lit 787))),("start",nat_lit 792,(nI (nat_lit 1) (nat_lit 788)))]) 4),#[]⟩),
 (nat_lit 320,⟨(.type "code"),none,(.fields #[(vS "_rank" (nat_lit 793)),(vS "_rank" (nat_lit 794)),(vS "/claim/cut.py" (nat_lit 795)),(nI (nat_lit 185) (nat_lit 0)),(nI (nat_lit 1) (nat_lit 0)),(nI (nat_lit 1) (nat_lit 0)),(nI (nat_lit 4) (nat_lit 0)),(nI (nat_lit 3) (nat_lit 0)),(rf (nat_lit 315)),(.bool true),(nI (nat_lit 386) (nat_lit 0)),(rf (nat_lit 316)),.none,(rf (nat_lit 317)),(rf (nat_lit 318)),(rf (nat_lit 319)),(nI (nat_lit 811) (nat_lit 0)),(nI (nat_lit 185) (nat_lit 0)),(vS "/claim/cut.py" (nat_lit 812))]),#[]⟩),
 (nat_lit 321,⟨(.type "function"),none,(.func (JC "_rank" "_rank" TH.1 TH.2.1 TH.2.2 .none (rf (nat_lit 314)) (vS "Rank order a dataset. The lowest value has rank 1.\n\nTies are averaged so that equal values receive the same rank:\n\n    >>> data = [31, 56, 31, 25, 75, 18]\n    >>> _rank(data)\n    [3.5, 5.0, 3.5, 2.0, 6.0, 1.0]\n\nThe operation is idempotent:\n\n    >>> _rank([3.5, 5.0, 3.5, 2.0, 6.0, 1.0])\n    [3.5, 5.0, 3.5, 2.0, 6.0, 1.0]\n\nIt is possible to rank the data in reverse order so that the\nhighest value has rank 1.  Also, a key-function can extract\nthe field to be ranked:\n\n    >>> goals = [('eagles', 45), ('bears', 48), ('lions', 44)]\n    >>> _rank(goals, key=itemgetter(1), reverse=True)\n    [2.0, 1.0, 3.0]\n\nRanks are conventionally numbered starting from one; however,\nsetting *start* to zero allows the ranks to be used as array indices:\n\n    >>> prize = ['Gold', 'Silver', 'Bronze', 'Certificate']\n    >>> scores = [8.1, 7.3, 9.4, 8.3]\n    >>> [prize[int(i)] for i in _rank(scores, start=0, reverse=True)]\n    ['Bronze', 'Certificate', 'Gold', 'Silver']\n\n" (nat_lit 813)) (vS "cpy313.statistics" (nat_lit 785)) none (rf (nat_lit 320)) .none)),#[]⟩),
 (nat_lit 327,⟨(.type "code"),none,(.fields #[(vS "_sqrtprod" (nat_lit 815)),(vS "_sqrtprod" (nat_lit 816)),(vS "/claim/cut.py" (nat_lit 817)),(nI (nat_lit 231) (nat_lit 0)),(nI (nat_lit 2) (nat_lit 0)),(nI (nat_lit 0) (nat_lit 0)),(nI (nat_lit 0) (nat_lit 0)),(nI (nat_lit 3) (nat_lit 0)),(rf (nat_lit 322)),(.bool true),(nI (nat_lit 386) (nat_lit 0)),(rf (nat_lit 323)),.none,(rf (nat_lit 324)),(rf (nat_lit 325)),(rf (nat_lit 326)),(nI (nat_lit 823) (nat_lit 0)),(nI (nat_lit 231) (nat_lit 0)),(vS "/claim/cut.py" (nat_lit 824))]),#[]⟩),
 (nat_lit 328,⟨(.type "function"),none,(.func (JC "_sqrtprod" "_sqrtprod" TG.1 TG.2.1 TG.2.2 .none .none (vS "Return sqrt(x * y) computed with improved accuracy and without overflow/underflow." (nat_lit 825)) (vS "cpy313.statistics" (nat_lit 785)) none (rf (nat_lit 327)) .none)),#[]⟩),
 (nat_lit 334,⟨(.type "code"),none,(.fields #[(vS "covariance" (nat_lit 827)),(vS "covariance" (nat_lit 828)),(vS "/claim/cut.py" (nat_lit 829)),(nI (nat_lit 246) (nat_lit 0)),(nI (nat_lit 2) (nat_lit 0)),(nI (nat_lit 2) (nat_lit 0)),(nI (nat_lit 0) (nat_lit 0)),(nI (nat_lit 3) (nat_lit 0)),(rf (nat_lit 329)),(.bool true),(nI (nat_lit 386) (nat_lit 0)),(rf (nat_lit 330)),.none,(rf (nat_lit 331)),(rf (nat_lit 332)),(rf (nat_lit 333)),(nI (nat_lit 836) (nat_lit 0)),(nI (nat_lit 246) (nat_lit 0)),(vS "/claim/cut.py" (nat_lit 837))]),#[]⟩),
 (nat_lit 335,⟨(.type "function"),none,(.func (JC "covariance" "covariance" Zcr.1 Zcr.2.1 Zcr.2.2 .none .none (vS "Covariance\n\nReturn the sample covariance of two inputs *x* and *y*. Covariance\nis a measure of the joint variability of two inputs.\n\n>>> x = [1, 2, 3, 4, 5, 6, 7, 8, 9]\n>>> y = [1, 2, 3, 1, 2, 3, 1, 2, 3]\n>>> covariance(x, y)\n0.75\n>>> z = [9, 8, 7, 6, 5, 4, 3, 2, 1]\n>>> covariance(x, z)\n-7.5\n>>> covariance(z, x)\n-7.5\n\n" (nat_lit 838)) (vS "cpy313.statistics" (nat_lit 785)) none (rf (nat_lit 334)) .none)),#[]⟩),
 (nat_lit 336,⟨(.type "dict"),none,(.dict (dE P [("method",nat_lit 841,(vS "linear" (nat_lit 840)))]) 1),#[]⟩),
 (nat_lit 340,⟨(.type "code"),none,(.fields #[(vS "correlation" (nat_lit 842)),(vS "correlation" (nat_lit 843)),(vS "/claim/cut.py" (nat_lit 844)),(nI (nat_lit 272) (nat_lit 0)),(nI (nat_lit 2) (nat_lit 0)),(nI (nat_lit 2) (nat_lit 0)),(nI (nat_lit 1) (nat_lit 0)),(nI (nat_lit 3) (nat_lit 0)),(rf (nat_lit 337)),(.bool true),(nI (nat_lit 386) (nat_lit 0)),(rf (nat_lit 338)),.none,.none,.none,(rf (nat_lit 339)),(nI (nat_lit 845) (nat_lit 0)),(nI (nat_lit 272) (nat_lit 0)),(vS "/claim/cut.py" (nat_lit 846))]),#[]⟩),
 (nat_lit 341,⟨(.type "function"),none,(.func (JC "correlation" "correlation" TJ.1 TJ.2.1 TJ.2.2 .none (rf (nat_lit 336)) (vS "Pearson's correlation coefficient\n\nReturn the Pearson's correlation coefficient for two inputs. Pearson's\ncorrelation coefficient *r* takes values between -1 and +1. It measures\nthe strength and direction of a linear relationship.\n\n>>> x = [1, 2, 3, 4, 5, 6, 7, 8, 9]\n>>> y = [9, 8, 7, 6, 5, 4, 3, 2, 1]\n>>> correlation(x, x)\n1.0\n>>> correlation(x, y)\n-1.0\n\nIf *method* is \"ranked\", computes Spearman's rank correlation coefficient\nfor two inputs.  The data is replaced by ranks.  Ties are averaged\nso that equal values receive the same rank.  The resulting coefficient\nmeasures the strength of a monotonic relationship.\n\nSpearman's rank correlation coefficient is appropriate for ordinal\ndata or for continuous data that doesn't meet the linear proportion\nrequirement for Pearson's correlation coefficient.\n" (nat_lit 847)) (vS "cpy313.statistics" (nat_lit 785)) none (rf (nat_lit 340)) .none)),#[]⟩),
 (nat_lit 358,⟨(.type "code"),none,(.fields #[(vS "__new__" (nat_lit 869)),(vS "LinearRegression.__new__" (nat_lit 870)),(vS "/claim/cut.py" (nat_lit 871)),(nI (nat_lit 324) (nat_lit 0)),(nI (nat_lit 3) (nat_lit 0)),(nI (nat_lit 0) (nat_lit 0)),(nI (nat_lit 0) (nat_lit 0)),(nI (nat_lit 3) (nat_lit 0)),(rf (nat_lit 353)),(.bool true),(nI (nat_lit 386) (nat_lit 0)),(rf (nat_lit 354)),.none,(rf (nat_lit 355)),(rf (nat_lit 356)),(rf (nat_lit 357)),(nI (nat_lit 875) (nat_lit 0)),(nI (nat_lit 324) (nat_lit 0)),(vS "/claim/cut.py" (nat_lit 876))]),#[]⟩),
 (nat_lit 359,⟨(.type "function"),none,(.func (JC "__new__" "LinearRegression.__new__" K8.1 K8.2.1 K8.2.2 .none .none (vS "Create new instance of LinearRegression(slope, intercept)" (nat_lit 877)) (vS "cpy313.statistics" (nat_lit 785)) none (rf (nat_lit 358)) .none)),#[]⟩),
 (nat_lit 403,⟨(.type "dict"),none,(.dict (dE P [("index",nat_lit 955,(nI (nat_lit 1) (nat_lit 949))),("__doc__",nat_lit 957,(vS "Alias for field number 1" (nat_lit 950)))]) 2),#[]⟩),
 (nat_lit 404,⟨(rf (nat_lit 88)),(some (nat_lit 403)),.plain,#[]⟩),
 (nat_lit 408,⟨(.type "dict"),none,(.dict (dE P [("__module__",nat_lit 856,(vS "cpy313.statistics" (nat_lit 785))),("__firstlineno__",nat_lit 860,(nI (nat_lit 318) (nat_lit 859))),("__doc__",nat_lit 862,(vS "LinearRegression(slope, intercept)" (nat_lit 861))),("__slots__",nat_lit 864,(rf (nat_lit 350))),("_fields",nat_lit 867,(rf (nat_lit 351))),("_field_defaults",nat_lit 868,(rf (nat_lit 352))),("__new__",nat_lit 878,(rf (nat_lit 410))),("_make",nat_lit 900,(rf (nat_lit 368))),("_replace",nat_lit 911,(rf (nat_lit 377))),("__replace__",nat_lit 912,(rf (nat_lit 377))),("__repr__",nat_lit 920,(rf (nat_lit 384))),("_asdict",nat_lit 927,(rf (nat_lit 391))),("__getnewargs__",nat_lit 935,(rf (nat_lit 398))),("__match_args__",nat_lit 938,(rf (nat_lit 399))),("slope",nat_lit 948,(rf (nat_lit 401))),("intercept",nat_lit 958,(rf (nat_lit 404))),("__static_attributes__",nat_lit 959,(rf (nat_lit 406)))]) 2),#[]⟩),
 (nat_lit 409,⟨(.type "type"),none,(.cls { name:="LinearRegression",bases:=[(.type "tuple")],mro:=[(rf (nat_lit 409)),(.type "tuple"),(.type "object")],ns:=408,qualname:="LinearRegression",hasDict:=false,slotNames:=[],subclasses:=[],abstract:=false,collection:=none,hasDel:=false }),#[(some (rf (nat_lit 342))),none,(some (vS "LinearRegression" (nat_lit 849))),(some (vS "LinearRegression" (nat_lit 857))),(some .none),(some (.bool false))]⟩),
 (nat_lit 410,⟨(.type "staticmethod"),none,(.fields #[(rf (nat_lit 359))]),#[]⟩),
 (nat_lit 413,⟨(.type "dict"),none,(.dict (dE P [("proportional",nat_lit 964,(.bool false))]) 1),#[]⟩),
 (nat_lit 417,⟨(.type "code"),none,(.fields #[(vS "linear_regression" (nat_lit 965)),(vS "linear_regression" (nat_lit 966)),(vS "/claim/cut.py" (nat_lit 967)),(nI (nat_lit 360) (nat_lit 0)),(nI (nat_lit 2) (nat_lit 0)),(nI (nat_lit 2) (nat_lit 0)),(nI (nat_lit 1) (nat_lit 0)),(nI (nat_lit 3) (nat_lit 0)),(rf (nat_lit 414)),(.bool true),(nI (nat_lit 386) (nat_lit 0)),(rf (nat_lit 415)),.none,.none,.none,(rf (nat_lit 416)),(nI (nat_lit 968) (nat_lit 0)),(nI (nat_lit 360) (nat_lit 0)),(vS "/claim/cut.py" (nat_lit 969))]),#[]⟩),
 (nat_lit 418,⟨(.type "function"),none,(.func (JC "linear_regression" "linear_regression" Zcp.1 Zcp.2.1 Zcp.2.2 .none (rf (nat_lit 413)) (vS "Slope and intercept for simple linear regression.\n\nReturn the slope and intercept of simple linear regression\nparameters estimated using ordinary least squares. Simple linear\nregression describes relationship between an independent variable\n*x* and a dependent variable *y* in terms of a linear function:\n\n    y = slope * x + intercept + noise\n\nwhere *slope* and *intercept* are the regression parameters that are\nestimated, and noise represents the variability of the data that was\nnot explained by the linear regression (it is equal to the\ndifference between predicted and actual values of the dependent\nvariable).\n\nThe parameters are returned as a named tuple.\n\n>>> x = [1, 2, 3, 4, 5]\n>>> noise = NormalDist().samples(5, seed=42)\n>>> y = [3 * x[i] + 2 + noise[i] for i in range(5)]\n>>> linear_regression(x, y)  #doctest: +ELLIPSIS\nLinearRegression(slope=3.17495..., intercept=1.00925...)\n\nIf *proportional* is true, the independent variable *x* and the\ndependent variable *y* are assumed to be directly proportional.\nThe data is fit to a line passing through the origin.\n\nSince the *intercept* will always be 0.0, the underlying linear\nfunction simplifies to:\n\n    y = slope * x + noise\n\n>>> y = [3 * x[i] + noise[i] for i in range(5)]\n>>> linear_regression(x, y, proportional=True)  #doctest: +ELLIPSIS\nLinearRegression(slope=2.90475..., intercept=0.0)\n\n" (nat_lit 970)) (vS "cpy313.statistics" (nat_lit 785)) none (rf (nat_lit 417)) .none)),#[]⟩),
 (nat_lit 424,⟨(.type "code"),none,(.fields #[(vS "_law_told" (nat_lit 974)),(vS "_law_told" (nat_lit 975)),(vS "/claim/cut.py" (nat_lit 976)),(nI (nat_lit 417) (nat_lit 0)),(nI (nat_lit 3) (nat_lit 0)),(nI (nat_lit 0) (nat_lit 0)),(nI (nat_lit 0) (nat_lit 0)),(nI (nat_lit 3) (nat_lit 0)),(rf (nat_lit 419)),(.bool true),(nI (nat_lit 386) (nat_lit 0)),(rf (nat_lit 420)),.none,(rf (nat_lit 421)),(rf (nat_lit 422)),(rf (nat_lit 423)),(nI (nat_lit 987) (nat_lit 0)),(nI (nat_lit 417) (nat_lit 0)),(vS "/claim/cut.py" (nat_lit 988))]),#[]⟩),
 (nat_lit 425,⟨(.type "function"),none,(.func (JC "_law_told" "_law_told" Gd.1 Gd.2.1 Gd.2.2 .none .none .none (vS "law_kq0026_03" (nat_lit 972)) none (rf (nat_lit 424)) .none)),#[]⟩),
 (nat_lit 429,⟨(.type "code"),none,(.fields #[(vS "law" (nat_lit 990)),(vS "law" (nat_lit 991)),(vS "/claim/cut.py" (nat_lit 992)),(nI (nat_lit 434) (nat_lit 0)),(nI (nat_lit 1) (nat_lit 0)),(nI (nat_lit 0) (nat_lit 0)),(nI (nat_lit 0) (nat_lit 0)),(nI (nat_lit 3) (nat_lit 0)),(rf (nat_lit 426)),(.bool true),(nI (nat_lit 386) (nat_lit 0)),(rf (nat_lit 427)),.none,.none,.none,(rf (nat_lit 428)),(nI (nat_lit 993) (nat_lit 0)),(nI (nat_lit 434) (nat_lit 0)),(vS "/claim/cut.py" (nat_lit 994))]),#[]⟩),
 (nat_lit 430,⟨(.type "function"),none,(.func (JC "law" "law" JR.1 JR.2.1 JR.2.2 .none .none .none (vS "law_kq0026_03" (nat_lit 972)) none (rf (nat_lit 429)) .none)),#[]⟩)]
noncomputable def kT(_:JV):Frag:=[(nat_lit 330,⟨.none,none,.fields #[],#[]⟩),(nat_lit 415,⟨.none,none,.fields #[],#[]⟩),(nat_lit 420,⟨.none,none,.fields #[],#[]⟩)]
noncomputable def kHT(P:JV):Frag:=kH P++kT P
noncomputable def aH:List Zo:=[2,3,64,70,71,87,88,101,102,118,119,125,126,135,141,142,148,149,155,156,162,163,166,167,168,169,170,171,172,173,174,175,176,177,193,194,200,201,207,208,211,212,213,214,215,223,224,233,239,240,246,247,253,254,264,265,266,267,268,284,285,291,292,309,310,311,314,320,321,327,328,334,335,336,340,341,358,359,403,404,408,409,410,413,417,418,424,425,429,430,330,415,420]
noncomputable def vw:Program:={ PW with main:={ PW.main with body:=[Zjl 25] } }
noncomputable def lsH:List Yz:=["fsum","isfinite","isinf","sqrt","sumprod","_wall","_tuplegetter","StatisticsError","_MAXSIZE","_is_int","_pull","_same","groupby","_grouper","_count_kind","count","itemgetter","_rank","_sqrtprod","covariance","correlation","LinearRegression","linear_regression","_law_told"]
theorem left:LeftO PW vw lsH (λs=>xlAt vw [] s&&recOk PySem.Challenge.rw_kq0026_03.row.records s) (obsZ aH) (valZ kHT 431 996) 6000:=Zam λw=>by kernel_rfl
end
variable {K:W.Frag}{mg mb:Ze}{cs:US}{cdv:Zh}
section
open PySem PySem.W PySem.Calls PyProof.Rows PySem.Spec
structure Gl (K:Frag)(H0:Xx)(mg mb:Ze):Prop where
 X:K.In H0
 g:H0.Ns Zw mg
 b:H0.Ns Jx mb
 boot:∀ x:Yz,x≠"__name__"->mb x=bootBuiltins x
 lim:H0.NoLimit
 nob:Uc H0
noncomputable def Pre(pre:List JL):Prop:=pre = []\/∃ x k p q,pre = [.Expr (.Constant (.str x) k p) q]
structure Vo (K:Frag)(f:Zo)(qual:Yz)(d:WE×List JL×US)(dV kV:Zh):Prop where
 ex:∃ pre name doc pm an cdv ct oc od osl,K.lookup f=some ⟨oc,od,.func (JC name qual d.1 (pre++d.2.1) d.2.2 dV kV doc pm an cdv ct),osl⟩/\codeIn K cdv qual=true/\Pre pre
section
theorem St.X(S:St H0 A l s)(G:Gl K H0 mg mb):K.In s.heap:=λa o e=>S.glob a o (G.X a o e)
theorem St.lim(S:St H0 A l s)(G:Gl K H0 mg mb):s.heap.NoLimit:=G.lim.keeps S.glob
theorem St.nob(S:St H0 A l s)(G:Gl K H0 mg mb):Uc s.heap:=let ⟨mc,a,b⟩:=G.nob; ⟨mc,a.keeps S.glob,b⟩
theorem Cx.doc(C:Cx H0 A l M sE L m led s){env:V0}{pre body:List JL}{Q:Zb}(hp:Pre pre)(hk:env.scope.kind = .function)(h:∀ s',Cx H0 A l M sE L m led s'->Zp (model PW w) A (execs body env) Q E s'):Zp (model PW w) A (execs (pre++body) env) Q E s:=by
 rcases hp with rfl | ⟨x,k,p,q,rfl⟩
 ·exact h _ C
 ·refine Zg (PySem.wpAny_Expr (Yi (h _ (C.tok 1))) (by unfold interactive; rw [hk]; rfl) rfl)
theorem Ub{R:Zc}{f:Zo}{qual:Yz}{d:WE×List JL×US}{dV kV:Zh}{args:Args}{binds:List (Yz×Zh)}(G:Gl K H0 mg mb)(S:St H0 A l s)(fk:Vo K f qual d dV kV)(M:List Zo)(led:Zd)(hled:∀ p∈led,Wy s.heap p)(hnod:(led.map (λuu=>uu.1)).Nodup)
  (hroom:A.depth<Zr)(hbind:∀ name doc pm an cdv ct,BindsTo s (JC name qual d.1 d.2.1 d.2.2 dV kV doc pm an cdv ct) args binds)
  (hcell:∀ x∈d.2.2.names,x.2 ≠ .cell)(hloc:∀ x∈binds,d.2.2.names.lookup x.1=some .local)
  (h:∀ L cdv s',L=s.heap.objs.size->Cx H0 (A.deeper (Y0 qual d.2.2 L f cdv)) (Y0 qual d.2.2 L f cdv::l) M s L (λx=>binds.reverse.lookup x) led s' ->
   Zp (model PW w) (A.deeper (Y0 qual d.2.2 L f cdv)) (execs d.2.1 (Y0 qual d.2.2 L f cdv)) (Nz R)
    (Fx w (A.deeper (Y0 qual d.2.2 L f cdv)) (Y0 qual d.2.2 L f cdv) R) s')
  (hco:d.2.2.isCoroutine=false:=by rfl)(hgen:d.2.2.isGenerator=false:=by rfl)(hk:d.2.2.kind = .function:=by rfl) :
  Yk (model PW w) A (.call (.ref f) args) R s:=by
 refine G6 fk.ex λpre name doc pm an cdv ct oc od osl ho hcd hpre=>?_
 exact Zmg (fd:=JC name qual d.1 (pre++d.2.1) d.2.2 dV kV doc pm an cdv ct) S M led hled hnod hroom (S.X G _ _ ho) rfl (S.lim G) (codeRec_of (S.X G) hcd) rfl (hbind name doc pm an cdv ct) hcell hloc (λL s' e C=>C.doc hpre hk λs'' C'=>h L cdv s'' e C') hco hgen hk
variable {cn:Yz}{a:Zo}
theorem Cx.global(C:Cx H0 A l M sE L m led s)(G:Gl K H0 mg mb){x:Yz}{pos:V7}{v:Zh}{Q:Za}(e:nsIn K Zw x=some (some v))(h:Q v s)
  (hk:cs.kind = .function:=by rfl)(hx:cs.names.lookup x=some .globalImplicit:=by rfl)(hd:(x==("__debug__" : Yz))=false:=by decide):Zp (model PW w) A (eval (.Name x pos) (Y0 cn cs L a cdv)) Q E s :=
 Name_function_global hk hx (loadGlobal_global (env:=Y0 cn cs L a cdv) (G.g.keeps C.st.glob) (mg_of G.X G.g e) h) hd
theorem Cx.boot(C:Cx H0 A l M sE L m led s)(G:Gl K H0 mg mb){x:Yz}{pos:V7}{v:Zh}{Q:Za}(e:nsIn K Zw x=some none)(hv:bootBuiltins x=some v)(h:Q v s)(hn:x≠"__name__":=by decide)
  (hk:cs.kind = .function:=by rfl)(hx:cs.names.lookup x=some .globalImplicit:=by rfl)(hd:(x==("__debug__" : Yz))=false:=by decide):Zp (model PW w) A (eval (.Name x pos) (Y0 cn cs L a cdv)) Q E s :=
 Name_function_global hk hx (loadGlobal_builtin (env:=Y0 cn cs L a cdv) (G.g.keeps C.st.glob) (mg_none_of G.X G.g e) (G.b.keeps C.st.glob) ((G.boot x hn).trans hv) h) hd
theorem Cx.name(C:Cx H0 A l M sE L m led s){x:Yz}{pos:V7}{v:Zh}{Q:Za}(hv:m x=some v)(h:Q v s)
  (hk:cs.kind = .function:=by rfl)(hl:cs.names.lookup x=some .local:=by rfl)(hd:(x==("__debug__" : Yz))=false:=by decide):Zp (model PW w) A (eval (.Name x pos) (Y0 cn cs L a cdv)) Q E s :=
 wpAny_Name (C.ld (env:=Y0 cn cs L a cdv) rfl hv h hk hl) hd
theorem Cx.set(C:Cx H0 A l M sE L m led s){x:Yz}{v:Zh}{Q:Unit->Zi->Prop}(h:∀ s',Cx H0 A l M sE L (Jh m x v) led s'->Q () s')
  (hl:cs.names.lookup x=some .local:=by rfl)(hp:(cs.kind == .class||(cs.kind == .module&&L != Zw))=false:=by rfl):Zp (model PW w) A (V6 (Y0 cn cs L a cdv) x v) Q E s :=
 C.store (env:=Y0 cn cs L a cdv) rfl h hl hp
end
noncomputable def U0:Zh->W7
 | .int _ t | .float _ t | .str _ t | .bytes _ t=>t
 | _=>0
structure We where
 P:Zh->Prop
 lt:Zh->Zh->Bool
 eq:Zh->Zh->Bool
 ty:Zh
 eq_iff:∀ x y,P x->P y->(eq x y=true↔(lt x y=false/\lt y x=false))
 irrefl:∀ x,P x->lt x x=false
 trans:∀ x y z,P x->P y->P z->lt x y=true->lt y z=true->lt x z=true
 neg:∀ x y z,P x->P y->P z->lt x z=true->lt x y=true\/lt y z=true
 hty:∀ (M:XJ) (h:Xx) x,P x->Ui M h (typeOf x) ty
 nty:ty ≠ .type "tuple"
 hd:∀ x,P x->Jk x=true
 eqR:∀ (w:Um) (A:YE) (E:Za) (s:Zi) (x y:Zh) (Q:Bool->Zi->Prop),Uc s.heap->P x->P y->U0 x≠0->U0 y≠0->(U0 x=U0 y->eq x y=true)->Q (eq x y) s->Zp (model PW w) A (eqBool x y) Q E s
 ltR:∀ (w:Um) (A:YE) (E:Za) (s:Zi) (b:Bool) (x y:Zh) (Q:Bool->Zi->Prop),P x->P y->Q (lt x y) s->Zp (model PW w) A (oneLt' b x y) Q E s
 cmpR:∀ (w:Um) (A:YE) (E:Za) (s:Zi) (x y:Zh) (Q:Za),P x->P y->Q (.bool (eq x y)) s->Zp (model PW w) A (compareOp .Eq x y) Q E s
 isR:∀ (w:Um) (A:YE) (E:Za) (s:Zi) (x y:Zh) (Q:Za),Uc s.heap->P x->P y->U0 x≠0->U0 y≠0->(U0 x=U0 y->eq x y=true) ->
  (∀ r,(r=true->eq x y=true)->Q (.bool r) s)->Zp (model PW w) A (compareOp .Is x y) Q E s
structure GG (κ:We)(ks:List Zh):Prop where
 all:∀ x∈ks,κ.P x/\U0 x≠0
 tok:∀ x∈ks,∀ y∈ks,U0 x=U0 y->κ.eq x y=true
theorem IP{M:XJ}{e:Bool}{t u:W7}{Q:Bool->Zi->Prop}(hb:Uc s.heap)(ht:t≠0)(hu:u≠0)(h:∀ r,(r=true->t=u\/e=true)->Q r s):Zp M A (isSame.created e t u) Q E s:=by
 refine wpAny_ite ?_
 first | refine Y6 (by simp [ht,hu]) ?_ | refine YR (by simp [ht,hu]) ?_ | rw [if_neg (by simp [ht,hu])]
 refine wpAny_ite ?_
 split
 ·rename_i q
  exact Zm (h true λuu=>.inl (by simpa using q))
 refine wpAny_ite ?_
 split
 ·exact Zm (h false λq=>by exact absurd q Zn)
 rename_i q
 refine Zf (wpAny_sharingNotTold_none hb ?_)
 refine Zf (wpAny_sharingNotTold_none hb ?_)
 refine Zf (Xm (Zf (wpAny_askSetting (Zm (h _ λuu=>.inr (by simpa using q))))))
theorem Zkg{x y:Int}{t u:W7}{Q:Za}(hb:Uc s.heap)(ht:t≠0)(hu:u≠0)(hq:t=u->x=y)(h:∀ r,(r=true->x=y)->Q (.bool r) s):Zp (model PW w) A (compareOp .Is (.int x t) (.int y u)) Q E s:=by
 refine Zf ?_
 show Zp _ _ (if(x==y&&smallInt x)=true then isSame.cachedInt t u else isSame.created (x==y) t u) _ _ _
 split
 ·rename_i q
  have hxy:x=y:=by simp at q; exact q.1
  delta isSame.cachedInt
  first | refine Y6 (by simp [ht,hu]) ?_ | refine YR (by simp [ht,hu]) ?_ | rw [if_neg (by simp [ht,hu])]
  exact Zf (Xm (Zm (Zm (h true λuu=>hxy))))
 ·exact IP hb ht hu λr hr=>Zm (h r λe=>(hr e).elim hq λq=>by simpa using q)
noncomputable def Zmc:Zh->Zh->Bool
 | .int a _,.int b _=>decide (a<b)
 | _,_=>false
noncomputable def Zmd:Zh->Zh->Bool
 | .int a _,.int b _=>a==b
 | _,_=>false
theorem Zdx(a b:Int):(a==b)=true↔(decide (a<b)=false/\decide (b<a)=false) :=
 ⟨λh=>eq_of_beq h▸⟨decide_eq_false (Int.lt_irrefl _),decide_eq_false (Int.lt_irrefl _)⟩,λh=>beq_iff_eq.mpr (Int.le_antisymm (Int.not_lt.mp (of_decide_eq_false h.2)) (Int.not_lt.mp (of_decide_eq_false h.1)))⟩
theorem Zhd{a b c:Int}(h:a<c):decide (a<b)=true\/decide (b<c)=true :=
 (Int.lt_or_le a b).elim (λk=>.inl (decide_eq_true k)) λk=>.inr (decide_eq_true (Int.lt_of_le_of_lt k h))
noncomputable def Jw:We where
 P:=λv=>∃ n t,v = .int n t
 lt:=Zmc
 eq:=Zmd
 ty:=.type "int"
 eq_iff:=by rintro _ _ ⟨a,t,rfl⟩ ⟨b,u,rfl⟩; exact Zdx a b
 irrefl:=by rintro _ ⟨a,t,rfl⟩; exact decide_eq_false (Int.lt_irrefl a)
 trans:=by rintro _ _ _ ⟨a,t,rfl⟩ ⟨b,u,rfl⟩ ⟨c,v,rfl⟩ h k; exact decide_eq_true (Jd (of_decide_eq_true h) (of_decide_eq_true k))
 neg:=by rintro _ _ _ ⟨a,t,rfl⟩ ⟨b,u,rfl⟩ ⟨c,v,rfl⟩ h; exact Zhd (of_decide_eq_true h)
 hty:=by rintro M h _ ⟨a,t,rfl⟩; exact Looks.of_pure rfl
 nty:=by decide
 hd:=by rintro _ ⟨a,t,rfl⟩; rfl
 eqR:=by rintro w A E s _ _ Q _ ⟨a,t,rfl⟩ ⟨b,u,rfl⟩ _ _ _ h; exact wpAny_eqBool_int h
 ltR:=by
  rintro w A E s b _ _ Q ⟨x,t,rfl⟩ ⟨y,u,rfl⟩ h
  cases b with
  | true=>exact oneLt_int h
  | false=>exact kat_one _ _ (lt_int h)
 cmpR:=by rintro w A E s _ _ Q ⟨a,t,rfl⟩ ⟨b,u,rfl⟩ h; exact eq_int h
 isR:=by
  rintro w A E s _ _ Q hb ⟨a,t,rfl⟩ ⟨b,u,rfl⟩ ht hu hq h
  exact Zkg hb ht hu (λe=>eq_of_beq (hq e)) λr hr=>h r λe=>beq_iff_eq.mpr (hr e)
end
section
open PySem PySem.W PySem.Calls PyProof.Rows PySem.Spec Builtin Builtin.ObjectAttr Builtin.Getset_descriptor
structure BN (K:Frag)(c:Zo):Prop where
 mkk:makesIn K c=true
 ga:findIn K (.ref c) "__getattribute__"=some (some (.builtin "object.__getattribute__"))
 gt:findIn K (.ref c) "__getattr__"=some none
 sa:findIn K (.ref c) "__setattr__"=some (some (.builtin "object.__setattr__"))
 po:plainOver K c=true
 ic:isClsIn K c=true
structure W6 (K:Frag)(c:Zo)(name:Yz)(i:Nat):Prop where
 ex:∃ p,findIn K (.ref c) name=some (some (.ref p))/\specialIn K (.ref p) "__get__"=some (some (.builtin "member_descriptor.__get__"))/\takesIn K (.ref p)=some true /\
  takerIn K c name=some (some (.ref p))/\typeIn K (.ref p)=some (.type "member_descriptor")/\slotIn K p c=some i
 lt:i<1000
structure Ud (K:Frag)(c:Zo)(name:Yz)(f:Zo):Prop where
 fi:findIn K (.ref c) name=some (some (.ref f))
 ft:typeIn K (.ref f)=some (.type "function")
 kp:keepIn K (.ref f)=true
 fn:fnIn K f=true
noncomputable abbrev io(c dx:Zo)(sl:List (Option Zh)):Xl:={ cls:=.ref c,dict:=some dx,data:=.plain,slots:=sl.toArray }
noncomputable def H9(sl:List (Option Zh))(i:Nat)(v:Zh):List (Option Zh):=(sl++ZM (i+1-sl.length) none).set i (some v)
theorem Zgi(sl:List (Option Zh))(i:Nat)(v:Zh):(sl.toArray++Array.replicate (i+1-sl.toArray.size) none).setIfInBounds i (some v)=(H9 sl i v).toArray:=by
 apply Array.toList_inj.mp
 simp [H9]
theorem Gn{h:Xx}{x c dx:Zo}{sl:List (Option Zh)}(O:Wy h (x,io c dx sl)):∃ od,InstAt h x (io c dx sl) c (some od)/\od.data = .dict #[]:=by
 refine XW (O.dx dx rfl) λo a b=>?_
 exact⟨o,⟨O.at_,rfl,rfl,a⟩,b⟩
theorem Zde{od:Xl}(e:od.data = .dict #[])(name:Yz):shadowIn (some od) name=some false:=by
 obtain ⟨_,_,d,_⟩:=od
 subst e; rfl
theorem Cx.getS(C:Cx H0 A l M sE L m led s)(G:Gl K H0 mg mb){x c dx:Zo}{sl:List (Option Zh)}{name:Yz}{i:Nat}{v:Zh}{expr:Bool}{Q:Za}(j:Nat)(hj:led[j]? = some (x,io c dx sl))
  (ck:BN K c)(sk:W6 K c name i)(hv:sl[i]? = some (some v))(hh:Jk v=true)(h:∀ s',Cx H0 A l M sE L m led s'->Q v s'):Zp (model PW w) A (getAttr (.ref x) name expr) Q E s:=by
 refine XW (Gn (C.ok j hj)) λod I hod=>?_
 refine Nm sk.ex λp h1 h2 h3 h4 h5 h6=>?_
 exact get_bind (C.st.X G) I ck.ga (findObj_data ck.ic h1 h2 h3) ck.gt (Y7 (slot_get (s:={ s with toks:=s.toks+1 }) (C.st.X G) I h6 (by rw [XE,hv]; rfl) (handed_on hh (h _ (C.tok 1)))))
theorem ON{R:Zc}{x c p i:Nat}{ox:Xl}{od:Option Xl}{v:Zh}(X:K.In s.heap)(I:InstAt s.heap x ox c od)
  (hp:slotIn K p c=some i)(hi:i<1000)(h:R (.ok (.ret .none)) { s with heap:=s.heap.update x (λo=>{ o with slots:=(o.slots++Array.replicate (i+1-o.slots.size) none).setIfInBounds i (some v) }) }) :
  Yk (model PW w) A (.call (.builtin "member_descriptor.__set__") ⟨[.ref p,.ref x,v],[]⟩) R s:=by
 obtain ⟨n,tn,owner,behind,tb,d,sl,cd,ho,hc,hm,hb,rfl⟩:=slot_of X hp
 obtain ⟨hh,g,dr,t,os⟩:=s
 have L0:=I.type (M:=model PW w)
 have L1:=UK (M:=model PW w) X hm
 have L2:Ui (model PW w) hh (Slots.slotNamesOf (.ref c)) cd.slotNames:=(looks_clsIn X hc).andThen .now
 have f0:=looks_field (M:=model PW w) ho 0 (v:=.str n tn) rfl
 have f1:=looks_field (M:=model PW w) ho 1 (v:=owner) rfl
 have f3:=looks_field (M:=model PW w) ho 3 (v:=.builtin "proto.slot#set") rfl
 have f4:=looks_field (M:=model PW w) ho 4 (v:=.int behind tb) rfl
 refine Jm KF.slot_mset.plain KF.entry_mset (KF.slot_mset.check _ _ _ _ _ _ _ _ ⟨_,ho,rfl⟩ (KF.args_mset _ _ _) ?_)
 have f5:Ui (model PW w) hh (descrItself (.ref p)) [.ref p]:=((JZ (part:=none) ho).andThen .now).andThen (Looks.of_pure (by kernel_rfl))
 repeat lk
 refine⟨Code.quiet_builtin _ (by decide +kernel),VZ KF.entry_slotset ?_⟩
 repeat lk
 first | refine Y6 hb ?_ | refine YR hb ?_ | rw [if_neg hb]
 refine Zm (Zf ?_)
 first | refine Y6 (by rw [ZW]; lia) ?_ | refine YR (by rw [ZW]; lia) ?_ | rw [if_neg (by rw [ZW]; lia)]
 exact wpAny_updatePart I.at_ (Zm h)
theorem Cx.setS(C:Cx H0 A l M sE L m led s)(G:Gl K H0 mg mb){x c dx:Zo}{sl sl':List (Option Zh)}{name:Yz}{i:Nat}{v:Zh}{Q:Unit->Zi->Prop}(j:Nat)(hj:led[j]? = some (x,io c dx sl))
  (ck:BN K c)(sk:W6 K c name i)(hM:x∈M\/sE.heap.get? x=none)(hH:H0.get? x=none)(h:∀ s',Cx H0 A l M sE L m (led.set j (x,io c dx sl')) s'->Q () s')(he:H9 sl i v=sl':=by rfl):Zp (model PW w) A (setAttr (.ref x) name v) Q E s:=by
 refine XW (Gn (C.ok j hj)) λod I hod=>?_
 refine Nm sk.ex λp h1 h2 h3 h4 h5 h6=>?_
 refine set_plain (C.st.X G) I ck.sa (osa_descr (s:={ s with toks:=s.toks+1 }) KF.slot_mset (C.st.X G) I ck.po h4 h5 (ON (s:={ s with toks:=s.toks+1 }) (C.st.X G) I h6 sk.lt ?_))
 refine h _ ?_
 have:=(C.tok 1).upd j (f:=λo=>{ o with slots:=(o.slots++Array.replicate (i+1-o.slots.size) none).setIfInBounds i (some v) }) hj rfl TX rfl hM hH
 dsimp only at this
 rw [Zgi,he] at this
 exact this
theorem NU{M:XJ}{pos:V7}{f:Zh}{first:List Zh}{args:List (Bool×Sem Zh)}{keywords:List (Option Yz×Sem Zh)}{Q:Za}
  (h:Zp M A (evalArgs f true args keywords) (λa s₁=>(∃ k,Ui M s₁.heap (keeperOf f) k)/\Zp M A (call f (first++a.pos) a.kw) Q E s₁) E s):Zp M A (callWith pos f first args keywords) Q E s:=by
 refine Zf (Yc (Yr h (λa s₁ h₁=>Zf (wpAny_standAt ?_)) λuu uu x=>x))
 refine zE h₁.1 λk L=>?_
 refine Zf (L.here ?_)
 have tail:∀ {t:Sem Zh},Zp M A t Q E s₁->Zp M A (t >>= λr=>holding [r] point >>= λuu=>pure r) Q E s₁ :=
  λht=>Zf (Yr ht (λr s₂ hr=>Zf (Yc (wpAny_point (Zm hr)))) λuu uu x=>x)
 have marked (mk:Zh):Zp M A (callMarked mk f (first++a.pos) a.kw) Q E s₁:=by exact Calls.wpAny_keep h₁.2
 cases (args.any (λuu=>uu.1)||keywords.any (λuu=>uu.1.isNone))<;>cases k<;>dsimp only<;>first | exact tail h₁.2 | exact tail (marked _) | exact tail (wpAny_operate' h₁.2) | (split<;>first | exact tail h₁.2 | exact tail (marked _))
end
variable {e:Zo}{cls a0:Zh}
section
open PySem PySem.W PySem.Calls PyProof.Rows PySem.Spec
structure VY (H0:Xx)(M:List Zo)(s:Zi)(l:List V0)(e:Zo)(cls a0:Zh)(led:Zd)(s':Zi):Prop where
 ex:∃ B,Heap.FlyingW B l e cls a0 s'.heap/\H0.StaysIn B/\(∀ b o,s.heap.get? b=some o->b∉M->nd o->B.get? b=some o)/\(∀ b o,s.heap.get? b=some o->nd o->∃ o',B.get? b=some o'/\nd o')/\∀ p∈led,B.get? p.1=some p.2
 has:∀ p∈led,Wy s'.heap p
 up:∀ b o es n,s.heap.get? b=some o->o.data = .dict es n->∃ sl,s'.heap.get? b=some { o with slots:=sl }
 toks:s.toks<=s'.toks
 gens:VL s.gens->VL s'.gens
 os:s'.os=s.os
structure Zbc (H0:Xx)(M:List Zo)(s:Zi)(l:List V0)(e:Zo)(cls a0:Zh)(L:Zo)(led:Zd)(s':Zi):Prop where
 ex:∃ B,Heap.HeldW B l e cls a0 L s'.heap/\H0.StaysIn B/\(∀ b o,s.heap.get? b=some o->b∉M->nd o->B.get? b=some o)/\(∀ b o,s.heap.get? b=some o->nd o->∃ o',B.get? b=some o'/\nd o')/\∀ p∈led,B.get? p.1=some p.2
 has:∀ p∈led,Wy s'.heap p
 up:∀ b o es n,s.heap.get? b=some o->o.data = .dict es n->∃ sl,s'.heap.get? b=some { o with slots:=sl }
 toks:s.toks<=s'.toks
 gens:VL s.gens->VL s'.gens
 os:s'.os=s.os
theorem Bs.slots{h h':Xx}{dx:Zo}(D:Bs h dx)(k:h.UpToSlots h'):Bs h' dx:=by
 refine XW D λo h1 h2=>?_
 refine zE (k dx o h1 (λvs q=>by rw [h2] at q; cases q)) λsl h3=>?_
 exact⟨_,h3,h2⟩
theorem V9{h h':Xx}(k:h.UpToSlots h'){b:Zo}{o:Xl}{es:Array DictEntry}{n:Nat}(e:h.get? b=some o)(hd:o.data = .dict es n):∃ sl,h'.get? b=some { o with slots:=sl } :=
 k b o e (λvs q=>by rw [hd] at q; cases q)
section
variable {M':List Zo}
theorem VY.go(F:VY H0 M s l e cls a0 led s'):Go H0 M s s':=by
 refine Gi F.ex λB hB h0 h1 hp h2=>?_
 exact⟨λuu b o q=>hB.1 _ _ (h0 b o q),λb o q hm hn=>hB.1 _ _ (h1 b o q hm hn),F.up,λb o q hn=>(hp b o q hn).elim λo' z=>⟨o',hB.1 _ _ z.1,z.2⟩,F.toks,F.gens,F.os⟩
theorem VY.lift(F:VY H0 M' s l e cls a0 led s')(G:Go H0 M sE s)(hM:∀ p∈M',p∈M\/sE.heap.get? p=none):VY H0 M sE l e cls a0 led s':=by
 refine Gi F.ex λB hB h0 h1 hp h2=>?_
 refine⟨⟨B,hB,h0,λb o q hm hn=>h1 b o (G.nd b o q hm hn) (λhp=>(hM b hp).elim hm λz=>by exact Wu (ZF (ZR z) q)) hn,λb o q hn=>?_,h2⟩,F.has,λb o es n q hd=>?_,Zl G.toks F.toks,λz=>F.gens (G.gens z),F.os.trans G.os⟩
 ·refine XW (G.pres b o q hn) λo' z hz=>?_
  exact hp b o' z hz
 ·refine zE (G.up b o es n q hd) λsl h3=>?_
  refine zE (F.up b _ es n h3 hd) λsl' h4=>?_
  exact⟨sl',h4⟩
theorem VY.with(F:VY H0 M s l e cls a0 led s')(led':Zd)(h:∀ p∈led',p∈led\/(Wy s.heap p/\p.1∉M)):VY H0 M s l e cls a0 led' s':=by
 refine Gi F.ex λB hB h0 h1 hp h2=>?_
 refine⟨⟨B,hB,h0,h1,hp,λp hp=>(h p hp).elim (h2 p) λ⟨q,r⟩=>h1 _ _ q.at_ r q.nd⟩,λp hp=>(h p hp).elim (F.has p) λ⟨q,r⟩=>q.go F.go r,F.up,F.toks,F.gens,F.os⟩
end
section
variable {Q:Unit->Zi->Prop}
theorem VY.leave(F:VY H0 M s (env::l) e cls a0 led s')(hfr:A.frames=some (env::l))(hf:env.frame=some L)(hQ:∀ s'',VY H0 M s l e cls a0 led s''->Q () s''):Zp MM A (leaving env (.ref e)) Q E s':=by
 refine Gi F.ex λB hB h0 h1 hp h2=>?_
 refine wpAny_leaves_onW hfr hf hB λh' x1 x2=>hQ _ ⟨⟨B,x1,h0,h1,hp,h2⟩,λp hp'=>⟨x1.1 _ _ (h2 p hp'),(F.has p hp').nd,λdx q=>((F.has p hp').dx dx q).slots x2⟩,λb o es n q hd=>?_,F.toks,F.gens,F.os⟩
 refine zE (F.up b o es n q hd) λsl h3=>?_
 refine zE (V9 x2 h3 hd) λsl' h4=>?_
 exact⟨sl',h4⟩
theorem Zbc.lands(F:Zbc H0 M s l e cls a0 L led s')(hQ:∀ s'',VY H0 M s l e cls a0 led s''->Q () s''):Zp MM A (setFlight (.ref e) none) Q E s':=by
 refine Gi F.ex λB hB h0 h1 hp h2=>?_
 refine wpAny_landsW hB λh' x1 x2=>hQ _ ⟨⟨B,x1,h0,h1,hp,h2⟩,λp hp'=>⟨x1.1 _ _ (h2 p hp'),(F.has p hp').nd,λdx q=>((F.has p hp').dx dx q).slots x2⟩,λb o es n q hd=>?_,F.toks,F.gens,F.os⟩
 refine zE (F.up b o es n q hd) λsl h3=>?_
 refine zE (V9 x2 h3 hd) λsl' h4=>?_
 exact⟨sl',h4⟩
theorem HF{h B:Xx}:∀ {l:List V0},(∀ env∈l,env.scope.kind ≠ .module/\∃ L o es n,env.frame=some L/\B.get? L=none/\h.get? L=some o/\o.data = .dict es n)->h.FunFrames B l
 | [],_=>trivial
 | env::l,hl=>by
  refine U3 (hl env (.head _)) λhk L o es n h1 h2 h3 h4=>?_
  exact⟨hk,⟨L,o,h1,h2,h3,λvs q=>by rw [h4] at q; cases q⟩,HF λe he=>hl e (.tail _ he)⟩
noncomputable def VW(l:List V0):List Zo:=l.filterMap (λuu=>uu.frame)
theorem Cx.base(C:Cx H0 A l M s L m led s'):H0.StaysIn (hideAll s'.heap (VW l))/\(∀ b o,s'.heap.get? b=some o->nd o->(hideAll s'.heap (VW l)).get? b=some o)/\s'.heap.FunFrames (hideAll s'.heap (VW l)) l:=by
 have fr:∀ a∈VW l,H0.get? a=none/\∃ o es n,s'.heap.get? a=some o/\o.data = .dict es n:=by
  intro a ha
  refine XW (List.mem_filterMap.mp ha) λenv he hf=>?_
  refine U3 (C.st.fr env he) λuu L' o es n h1 h2 h3 h4=>?_
  obtain rfl:=Zz (ZF (ZR h1) hf)
  exact⟨h2,o,es,n,h3,h4⟩
 refine⟨λb o e=>hideAll_get _ (C.st.glob b o e) λhm=>?_,λb o e hn=>hideAll_get _ e λhm=>?_,HF λenv he=>?_⟩
 ·have:=(fr b hm).1; exact Wu (ZF (ZR this) e)
 ·refine Zje (fr b hm) λuu o' es n h1 h2=>?_
  obtain rfl:=Zz (ZF (ZR h1) e); exact hn es n h2
 ·refine U3 (C.st.fr env he) λhk L' o es n h1 h2 h3 h4=>?_
  exact⟨hk,L',o,es,n,h1,hideAll_none _ (List.mem_filterMap.mpr ⟨env,he,h1⟩),h3,h4⟩
theorem Cx.raised(C:Cx H0 A (env::l) M s L m led s'){h':Xx}{args:List Zh}(hx:Heap.MadeExcOf s'.heap h' e cls args)(hf:env.frame=some L)
  (hQ:∀ t s'',VY H0 M s l e cls (.ref t) led s''->s''.heap.TupAt t args->Q () s''):Zp MM A (leaving env (.ref e)) Q E { s' with heap:=h' }:=by
 refine zAA C.base λb1 b2 b3=>?_
 refine wpAny_leaves_madeW (s:={ s' with heap:=h' }) C.st.frames hf (λb o q=>of_hideAll _ q) b3 hx λh'' t x1 x2 x3 x4=>hQ t _ ⟨⟨_,x1,b1,λb o q hm hn=>b2 b o (C.go.nd b o q hm hn) hn,λb o q hn=>?_,λp hp=>b2 _ _ (C.has p hp).at_ (C.has p hp).nd⟩,λp hp=>⟨x1.1 _ _ (b2 _ _ (C.has p hp).at_ (C.has p hp).nd),(C.has p hp).nd,λdx q=>?_⟩,λb o es n q hd=>?_,C.go.toks,C.go.gens,C.go.os⟩ x2
 ·refine XW (C.go.pres b o q hn) λo' z hz=>?_
  exact⟨o',b2 _ _ z hz,hz⟩
 ·refine XW ((C.has p hp).dx dx q) λo h1 h2=>?_
  exact Bs.slots ⟨o,hx.keeps _ _ h1,h2⟩ x4
 ·refine zE (C.go.up b o es n q hd) λsl h3=>?_
  refine zE (V9 x4 (hx.keeps _ _ h3) hd) λsl' h4=>?_
  exact⟨sl',h4⟩
theorem VY.again(F:VY H0 M s l e cls a0 led s')(hQ:∀ s'',VY H0 M s l e cls a0 led s''->Q () s''):Zp MM A (setFlight (.ref e) none) Q E s':=by
 refine Gi F.ex λB hB h0 h1 hp h2=>?_
 refine lands_againW hB λh' x1 x2=>hQ _ ⟨⟨B,x1,h0,h1,hp,h2⟩,λp hp'=>⟨x1.1 _ _ (h2 p hp'),(F.has p hp').nd,λdx q=>((F.has p hp').dx dx q).slots x2⟩,λb o es n q hd=>?_,F.toks,F.gens,F.os⟩
 refine zE (F.up b o es n q hd) λsl h3=>?_
 refine zE (V9 x2 h3 hd) λsl' h4=>?_
 exact⟨sl',h4⟩
theorem VY.typ{X:String}(F:VY H0 M s l e (.type X) a0 led s'):s'.TypeIs (.ref e) X:=by
 refine XW F.ex λB hB uu=>?_
 refine XW hB.there λob h1 h2=>?_
 exact⟨ob,h1,h2⟩
theorem Cx.around{A':YE}(C:Cx H0 A l M s L m led s')(h:A'.frames=A.frames):Cx H0 A' l M s L m led s':={ C with st:=C.st.around h }
theorem Cx.noteMade(C:Cx H0 A (env::l) M s L m led s'){h':Xx}{args:List Zh}(hx:Heap.MadeExcOf s'.heap h' e cls args)(hf:env.frame=some L)
  (hQ:∀ t s'',Zbc H0 [] s' (env::l) e cls (.ref t) L [] s''->Q () s''):Zp MM A (noteFrame (.ref e) env) Q E { s' with heap:=h' }:=by
 refine zAA C.base λb1 b2 b3=>?_
 refine Gj hx.there λt ht1 ht2 ht3=>?_
 have hen:(hideAll s'.heap (VW (env::l))).get? e=none:=by
  cases q:(hideAll s'.heap (VW (env::l))).get? e with
  | none=>rfl
  | some o=>have:=of_hideAll _ q; exact Wu (ZF (ZR hx.new) this)
 delta noteFrame
 rw [hf]
 refine Zf (YA (s:={ s' with heap:=h' }) ht1 rfl (x:=.none) rfl ?_)
 first | refine Y6 (by decide) ?_ | refine YR (by decide) ?_ | rw [if_neg (by decide)]
 refine wpAny_entryW (s:={ s' with heap:=h' }) (a0:=.ref t) C.st.frames (b3.of_keeps λb o hb uu=>⟨o,hx.keeps b o hb,rfl⟩) hf ht1 (λb o q=>hx.keeps b o (of_hideAll _ q)) hen rfl (by show 1<6; decide) rfl λh'' hN=>?_
 refine Fo hN λk1 k2 k3 k4=>?_
 refine hQ t _ ⟨⟨_,⟨k1,hen,k2,k3⟩,b1,λb o q uu hn=>b2 b o q hn,λb o q hn=>⟨o,b2 b o q hn,hn⟩,YC⟩,YC,λb o es n q hd=>?_,Z6 _,λh=>h,rfl⟩
 exact k4 b o (hx.keeps _ _ q) (λvs z=>by rw [hd] at z; cases z)
end
noncomputable abbrev WV(l:Zo)(i:Nat):Xl:={ cls:=.type "list_iterator",data:=.fields #[.ref l,.int i 0] }
noncomputable abbrev itE(i:Nat):Xl:={ cls:=.type "list_iterator",data:=.fields #[.none,.int i 0] }
theorem Hl:entryFor table "next"=some Builtin.«next»:=JD (by kernel_rfl)
theorem Iz(v:Zh):argsOk "next" ⟨[v],[]⟩:=by unfold argsOk; kernel_rfl
theorem Zai{it l:Zo}{i:Nat}{ol:Xl}{vs:List Zh}{n:Nat}{x:Zh}{Q:Za}(hit:s.heap.get? it=some (WV l i))(hl:s.heap.get? l=some ol)(hd:ol.data = .seq vs.toArray n)(hx:vs[i]? = some x)
  (hQ:Q x { s with heap:=s.heap.update it (ZP (·.setIfInBounds 1 (Xr ((i:Int)+1)))) }):Zp (model PW w) A (call (.builtin "next") [.ref it]) Q E s:=by
 have hT:s.TypeIs (.ref it) "list_iterator":=⟨_,hit,rfl⟩
 refine call_function_entry (by decide +kernel) (by decide +kernel) Hl (Iz _) ?_
 refine Zf (m:=someArgs "next" 1 2 _) (Xk (a:=[ZS it]) (by first | rfl | kernel_rfl!) ?_)
 dsimp only
 refine Zf (JX (name:=Zj "__next__") hT Xd.lookup ?_)
 refine wpAny_ite_split (λhab=>absurd hab (by decide)) (λuu=>?_)
 refine Zf (YY (name:=Zj "__next__") hT Xd (Xh Xd hT UB ?_ (UR _)))
 show Zp _ _ (field (.ref it) 0 >>= _) _ _ s
 refine Zf (YA hit rfl (x:=.ref l) rfl ?_)
 show Zp _ _ (if(ZS l==Yl)=true then _ else _) _ _ s
 first | refine Y6 rfl ?_ | refine YR (show ¬ ((ZS l==Yl)=true) from Zn) ?_ | rw [if_neg (show ¬ ((ZS l==Yl)=true) from Zn)]
 show Zp _ _ (field (.ref it) 1 >>= _) _ _ s
 refine Zf (YA hit rfl (x:=.int i 0) rfl ?_)
 show Zp _ _ (Uq (.ref l) >>= _) _ _ s
 refine Zf (YJ hl hd ?_)
 simp only [XM,XE,hx]
 refine Zf (XY hit rfl (by exact Z6 _) (Zm ⟨x,rfl,Zm ⟨_,rfl,hQ⟩⟩))
theorem V3{M:XJ}{Q:Za}(h:∀ h' e,Ja s.heap h' e "StopIteration" []->Q (.ref e) { s with heap:=h' }):Zp M A (newExc (.type "StopIteration") []) Q E s:=by
 refine Zf (Xa ?_ (by size_fits))
 refine Zf (m:=firstArgMember _ _) (Xk (a:=Yl) (by first | rfl | (simp only [firstArgMember]; rfl)) ?_)
 refine Xa (h _ _ ⟨λb o hb=>Z0 _ (Z0 _ hb),Heap.get?_none_of_le (by simp),s.heap.objs.size,?_,Heap.get?_none_of_le (Z6 _),?_⟩) (by size_fits)
 ·exact ZK _ rfl
 ·exact Z0 _ (ZK _ rfl)
theorem Zdf{it l:Zo}{i:Nat}{ol:Xl}{vs:List Zh}{n:Nat}{Q:Za}(hh:A.handled=none)(hit:s.heap.get? it=some (WV l i))(hl:s.heap.get? l=some ol)(hd:ol.data = .seq vs.toArray n)(hx:vs[i]? = none)
  (hE:∀ h' e,Ja (s.heap.update it (ZP (·.setIfInBounds 0 .none))) h' e "StopIteration" []->E (.ref e) { s with heap:=h' }):Zp (model PW w) A (call (.builtin "next") [.ref it]) Q E s:=by
 have hT:s.TypeIs (.ref it) "list_iterator":=⟨_,hit,rfl⟩
 refine call_function_entry (by decide +kernel) (by decide +kernel) Hl (Iz _) ?_
 refine Zf (m:=someArgs "next" 1 2 _) (Xk (a:=[ZS it]) (by first | rfl | kernel_rfl!) ?_)
 dsimp only
 refine Zf (JX (name:=Zj "__next__") hT Xd.lookup ?_)
 refine wpAny_ite_split (λhab=>absurd hab (by decide)) (λuu=>?_)
 refine Zf (YY (name:=Zj "__next__") hT Xd (Xh Xd hT UB ?_ (UR _)))
 show Zp _ _ (field (.ref it) 0 >>= _) _ _ s
 refine Zf (YA hit rfl (x:=.ref l) rfl ?_)
 show Zp _ _ (if(ZS l==Yl)=true then _ else _) _ _ s
 first | refine Y6 rfl ?_ | refine YR (show ¬ ((ZS l==Yl)=true) from Zn) ?_ | rw [if_neg (show ¬ ((ZS l==Yl)=true) from Zn)]
 show Zp _ _ (field (.ref it) 1 >>= _) _ _ s
 refine Zf (YA hit rfl (x:=.int i 0) rfl ?_)
 show Zp _ _ (Uq (.ref l) >>= _) _ _ s
 refine Zf (YJ hl hd ?_)
 simp only [XM,XE,hx]
 refine Zf (Xm (Zf (XY hit rfl (by exact Jb _) ?_)))
 show Zp _ _ (newExc (.type "StopIteration") [] >>= _) _ _ _
 refine Zf (V3 (λh' e hm=>?_))
 refine Zf (Vd ?_)
 rw [show A.in1.in1.handled=none from hh]
 exact Zf (Zm (JN (hE _ _ hm)))
structure Tf where
 pull:Zo
 same:Zo
 gb:Zo
 gbInit:Zo
 gbIter:Zo
 gbStep:Zo
 gbNext:Zo
 gr:Zo
 grInit:Zo
 grIter:Zo
 grNext:Zo
 kind:Zo
 ct:Zo
 ctInit:Zo
 ctIter:Zo
 ctNext:Zo
 ig:Zo
 igInit:Zo
 igCall:Zo
 rank:Zo
 gbD:Zo
 ctD:Zo
 rankK:Zo
noncomputable def DfK(K:Frag)(d:Zo)(vs:List Zh):Prop:=∃ o n,K.lookup d=some o/\o.data = .seq vs.toArray n
noncomputable abbrev KF(K:Frag)(a:Tf):Prop :=
 Vo K a.pull "_pull" HJ .none .none/\Vo K a.same "_same" B7 .none .none/\Vo K a.kind "_count_kind" O0 .none .none/\Vo K a.gbInit "groupby.__init__" HP (.ref a.gbD) .none/\Vo K a.gbIter "groupby.__iter__" HO .none .none/\Vo K a.gbStep "groupby._step" HN .none .none/\Vo K a.gbNext "groupby.__next__" JI .none .none/\Vo K a.grInit "_grouper.__init__" HM .none .none/\Vo K a.grIter "_grouper.__iter__" HL .none .none/\Vo K a.grNext "_grouper.__next__" Vp .none .none/\Vo K a.ctInit "count.__init__" HS (.ref a.ctD) .none/\Vo K a.ctIter "count.__iter__" HR .none .none/\Vo K a.ctNext "count.__next__" HQ .none .none/\Vo K a.igInit "itemgetter.__init__" HK .none .none/\Vo K a.igCall "itemgetter.__call__" Sy .none .none/\Vo K a.rank "_rank" XH .none (.ref a.rankK)/\DfK K a.gbD [.none]/\(∃ t u,DfK K a.ctD [.int 0 t,.int 1 u])/\BN K a.gb/\BN K a.gr/\BN K a.ct/\BN K a.ig/\W6 K a.gb "_currgrouper" 0/\W6 K a.gb "_currkey" 1/\W6 K a.gb "_currvalue" 2/\W6 K a.gb "_has_currkey" 3/\W6 K a.gb "_has_currvalue" 4/\W6 K a.gb "_has_tgtkey" 5/\W6 K a.gb "_it" 6/\W6 K a.gb "_keyfunc" 7/\W6 K a.gb "_serial" 8/\W6 K a.gb "_tgtkey" 9/\W6 K a.gr "_number" 0/\W6 K a.gr "_parent" 1/\W6 K a.gr "_tgtkey" 2/\W6 K a.ct "_cnt" 0/\W6 K a.ct "_fast" 1/\W6 K a.ct "_step" 2/\W6 K a.ig "_items" 0/\Ud K a.gb "__init__" a.gbInit/\Ud K a.gb "__iter__" a.gbIter/\Ud K a.gb "_step" a.gbStep/\Ud K a.gb "__next__" a.gbNext/\Ud K a.gr "__init__" a.grInit/\Ud K a.gr "__iter__" a.grIter/\Ud K a.gr "__next__" a.grNext/\Ud K a.ct "__init__" a.ctInit/\Ud K a.ct "__iter__" a.ctIter/\Ud K a.ct "__next__" a.ctNext/\Ud K a.ig "__init__" a.igInit/\Ud K a.ig "__call__" a.igCall/\nsIn K Zw "_pull"=some (some (.ref a.pull))/\nsIn K Zw "_same"=some (some (.ref a.same))/\nsIn K Zw "_count_kind"=some (some (.ref a.kind))/\nsIn K Zw "groupby"=some (some (.ref a.gb))/\nsIn K Zw "_grouper"=some (some (.ref a.gr))/\nsIn K Zw "count"=some (some (.ref a.ct))/\nsIn K Zw "itemgetter"=some (some (.ref a.ig))/\(∃ t,nsIn K Zw "_MAXSIZE"=some (some (.int 9223372036854775807 t)))/\keepIn K (.ref a.pull)=true/\keepIn K (.ref a.same)=true/\keepIn K (.ref a.kind)=true/\keepIn K (.ref a.gb)=true/\keepIn K (.ref a.gr)=true/\keepIn K (.ref a.ct)=true/\keepIn K (.ref a.ig)=true/\nsIn K Zw "next"=some none/\nsIn K Zw "StopIteration"=some none/\nsIn K Zw "iter"=some none/\nsIn K Zw "type"=some none/\nsIn K Zw "len"=some none/\nsIn K Zw "int"=some none/\nsIn K Zw "bool"=some none/\nsIn K Zw "float"=some none/\nsIn K Zw "sorted"=some none/\nsIn K Zw "zip"=some none/\nsIn K Zw "map"=some none/\nsIn K Zw "list"=some none/\nsIn K Zw "ValueError"=some none/\nsIn K a.rankK "key"=some (some .none)/\nsIn K a.rankK "reverse"=some (some (.bool false))/\(∃ t,nsIn K a.rankK "ties"=some (some (.str "average" t)))/\(∃ t,nsIn K a.rankK "start"=some (some (.int 1 t)))/\findIn K (.ref a.gr) "__len__"=some none/\findIn K (.ref a.gr) "__length_hint__"=some none
section
variable {a:Tf}(F:KF K a)
include F
theorem KF.pull:Vo K a.pull "_pull" HJ .none .none:=F.1
theorem KF.same:Vo K a.same "_same" B7 .none .none:=F.2.1
theorem KF.kind:Vo K a.kind "_count_kind" O0 .none .none:=F.2.2.1
theorem KF.gbInit:Vo K a.gbInit "groupby.__init__" HP (.ref a.gbD) .none:=F.2.2.2.1
theorem KF.gbIter:Vo K a.gbIter "groupby.__iter__" HO .none .none:=F.2.2.2.2.1
theorem KF.gbStep:Vo K a.gbStep "groupby._step" HN .none .none:=F.2.2.2.2.2.1
theorem KF.gbNext:Vo K a.gbNext "groupby.__next__" JI .none .none:=F.2.2.2.2.2.2.1
theorem KF.grInit:Vo K a.grInit "_grouper.__init__" HM .none .none:=F.2.2.2.2.2.2.2.1
theorem KF.grIter:Vo K a.grIter "_grouper.__iter__" HL .none .none:=F.2.2.2.2.2.2.2.2.1
theorem KF.grNext:Vo K a.grNext "_grouper.__next__" Vp .none .none:=F.2.2.2.2.2.2.2.2.2.1
theorem KF.ctInit:Vo K a.ctInit "count.__init__" HS (.ref a.ctD) .none:=F.2.2.2.2.2.2.2.2.2.2.1
theorem KF.ctIter:Vo K a.ctIter "count.__iter__" HR .none .none:=F.2.2.2.2.2.2.2.2.2.2.2.1
theorem KF.ctNext:Vo K a.ctNext "count.__next__" HQ .none .none:=F.2.2.2.2.2.2.2.2.2.2.2.2.1
theorem KF.igInit:Vo K a.igInit "itemgetter.__init__" HK .none .none:=F.2.2.2.2.2.2.2.2.2.2.2.2.2.1
theorem KF.igCall:Vo K a.igCall "itemgetter.__call__" Sy .none .none:=F.2.2.2.2.2.2.2.2.2.2.2.2.2.2.1
theorem KF.rank:Vo K a.rank "_rank" XH .none (.ref a.rankK):=F.2.2.2.2.2.2.2.2.2.2.2.2.2.2.2.1
theorem KF.gbD:DfK K a.gbD [.none]:=F.2.2.2.2.2.2.2.2.2.2.2.2.2.2.2.2.1
theorem KF.ctD:∃ t u,DfK K a.ctD [.int 0 t,.int 1 u]:=F.2.2.2.2.2.2.2.2.2.2.2.2.2.2.2.2.2.1
theorem KF.gb:BN K a.gb:=F.2.2.2.2.2.2.2.2.2.2.2.2.2.2.2.2.2.2.1
theorem KF.gr:BN K a.gr:=F.2.2.2.2.2.2.2.2.2.2.2.2.2.2.2.2.2.2.2.1
theorem KF.ct:BN K a.ct:=F.2.2.2.2.2.2.2.2.2.2.2.2.2.2.2.2.2.2.2.2.1
theorem KF.ig:BN K a.ig:=F.2.2.2.2.2.2.2.2.2.2.2.2.2.2.2.2.2.2.2.2.2.1
theorem KF.gb0:W6 K a.gb "_currgrouper" 0:=F.2.2.2.2.2.2.2.2.2.2.2.2.2.2.2.2.2.2.2.2.2.2.1
theorem KF.gb1:W6 K a.gb "_currkey" 1:=F.2.2.2.2.2.2.2.2.2.2.2.2.2.2.2.2.2.2.2.2.2.2.2.1
theorem KF.gb2:W6 K a.gb "_currvalue" 2:=F.2.2.2.2.2.2.2.2.2.2.2.2.2.2.2.2.2.2.2.2.2.2.2.2.1
theorem KF.gb3:W6 K a.gb "_has_currkey" 3:=F.2.2.2.2.2.2.2.2.2.2.2.2.2.2.2.2.2.2.2.2.2.2.2.2.2.1
theorem KF.gb4:W6 K a.gb "_has_currvalue" 4:=F.2.2.2.2.2.2.2.2.2.2.2.2.2.2.2.2.2.2.2.2.2.2.2.2.2.2.1
theorem KF.gb5:W6 K a.gb "_has_tgtkey" 5:=F.2.2.2.2.2.2.2.2.2.2.2.2.2.2.2.2.2.2.2.2.2.2.2.2.2.2.2.1
theorem KF.gb6:W6 K a.gb "_it" 6:=F.2.2.2.2.2.2.2.2.2.2.2.2.2.2.2.2.2.2.2.2.2.2.2.2.2.2.2.2.1
theorem KF.gb7:W6 K a.gb "_keyfunc" 7:=F.2.2.2.2.2.2.2.2.2.2.2.2.2.2.2.2.2.2.2.2.2.2.2.2.2.2.2.2.2.1
theorem KF.gb8:W6 K a.gb "_serial" 8:=F.2.2.2.2.2.2.2.2.2.2.2.2.2.2.2.2.2.2.2.2.2.2.2.2.2.2.2.2.2.2.1
theorem KF.gb9:W6 K a.gb "_tgtkey" 9:=F.2.2.2.2.2.2.2.2.2.2.2.2.2.2.2.2.2.2.2.2.2.2.2.2.2.2.2.2.2.2.2.1
theorem KF.gr0:W6 K a.gr "_number" 0:=F.2.2.2.2.2.2.2.2.2.2.2.2.2.2.2.2.2.2.2.2.2.2.2.2.2.2.2.2.2.2.2.2.1
theorem KF.gr1:W6 K a.gr "_parent" 1:=F.2.2.2.2.2.2.2.2.2.2.2.2.2.2.2.2.2.2.2.2.2.2.2.2.2.2.2.2.2.2.2.2.2.1
theorem KF.gr2:W6 K a.gr "_tgtkey" 2:=F.2.2.2.2.2.2.2.2.2.2.2.2.2.2.2.2.2.2.2.2.2.2.2.2.2.2.2.2.2.2.2.2.2.2.1
theorem KF.ct0:W6 K a.ct "_cnt" 0:=F.2.2.2.2.2.2.2.2.2.2.2.2.2.2.2.2.2.2.2.2.2.2.2.2.2.2.2.2.2.2.2.2.2.2.2.1
theorem KF.ct1:W6 K a.ct "_fast" 1:=F.2.2.2.2.2.2.2.2.2.2.2.2.2.2.2.2.2.2.2.2.2.2.2.2.2.2.2.2.2.2.2.2.2.2.2.2.1
theorem KF.ct2:W6 K a.ct "_step" 2:=F.2.2.2.2.2.2.2.2.2.2.2.2.2.2.2.2.2.2.2.2.2.2.2.2.2.2.2.2.2.2.2.2.2.2.2.2.2.1
theorem KF.ig0:W6 K a.ig "_items" 0:=F.2.2.2.2.2.2.2.2.2.2.2.2.2.2.2.2.2.2.2.2.2.2.2.2.2.2.2.2.2.2.2.2.2.2.2.2.2.2.1
theorem KF.mgbI:Ud K a.gb "__init__" a.gbInit:=F.2.2.2.2.2.2.2.2.2.2.2.2.2.2.2.2.2.2.2.2.2.2.2.2.2.2.2.2.2.2.2.2.2.2.2.2.2.2.2.1
theorem KF.mgbT:Ud K a.gb "__iter__" a.gbIter:=F.2.2.2.2.2.2.2.2.2.2.2.2.2.2.2.2.2.2.2.2.2.2.2.2.2.2.2.2.2.2.2.2.2.2.2.2.2.2.2.2.1
theorem KF.mgbS:Ud K a.gb "_step" a.gbStep:=F.2.2.2.2.2.2.2.2.2.2.2.2.2.2.2.2.2.2.2.2.2.2.2.2.2.2.2.2.2.2.2.2.2.2.2.2.2.2.2.2.2.1
theorem KF.mgbN:Ud K a.gb "__next__" a.gbNext:=F.2.2.2.2.2.2.2.2.2.2.2.2.2.2.2.2.2.2.2.2.2.2.2.2.2.2.2.2.2.2.2.2.2.2.2.2.2.2.2.2.2.2.1
theorem KF.mgrI:Ud K a.gr "__init__" a.grInit:=F.2.2.2.2.2.2.2.2.2.2.2.2.2.2.2.2.2.2.2.2.2.2.2.2.2.2.2.2.2.2.2.2.2.2.2.2.2.2.2.2.2.2.2.1
theorem KF.mgrT:Ud K a.gr "__iter__" a.grIter:=F.2.2.2.2.2.2.2.2.2.2.2.2.2.2.2.2.2.2.2.2.2.2.2.2.2.2.2.2.2.2.2.2.2.2.2.2.2.2.2.2.2.2.2.2.1
theorem KF.mgrN:Ud K a.gr "__next__" a.grNext:=F.2.2.2.2.2.2.2.2.2.2.2.2.2.2.2.2.2.2.2.2.2.2.2.2.2.2.2.2.2.2.2.2.2.2.2.2.2.2.2.2.2.2.2.2.2.1
theorem KF.mctI:Ud K a.ct "__init__" a.ctInit:=F.2.2.2.2.2.2.2.2.2.2.2.2.2.2.2.2.2.2.2.2.2.2.2.2.2.2.2.2.2.2.2.2.2.2.2.2.2.2.2.2.2.2.2.2.2.2.1
theorem KF.mctT:Ud K a.ct "__iter__" a.ctIter:=F.2.2.2.2.2.2.2.2.2.2.2.2.2.2.2.2.2.2.2.2.2.2.2.2.2.2.2.2.2.2.2.2.2.2.2.2.2.2.2.2.2.2.2.2.2.2.2.1
theorem KF.mctN:Ud K a.ct "__next__" a.ctNext:=F.2.2.2.2.2.2.2.2.2.2.2.2.2.2.2.2.2.2.2.2.2.2.2.2.2.2.2.2.2.2.2.2.2.2.2.2.2.2.2.2.2.2.2.2.2.2.2.2.1
theorem KF.migI:Ud K a.ig "__init__" a.igInit:=F.2.2.2.2.2.2.2.2.2.2.2.2.2.2.2.2.2.2.2.2.2.2.2.2.2.2.2.2.2.2.2.2.2.2.2.2.2.2.2.2.2.2.2.2.2.2.2.2.2.1
theorem KF.migC:Ud K a.ig "__call__" a.igCall:=F.2.2.2.2.2.2.2.2.2.2.2.2.2.2.2.2.2.2.2.2.2.2.2.2.2.2.2.2.2.2.2.2.2.2.2.2.2.2.2.2.2.2.2.2.2.2.2.2.2.2.1
theorem KF.npull:nsIn K Zw "_pull"=some (some (.ref a.pull)):=F.2.2.2.2.2.2.2.2.2.2.2.2.2.2.2.2.2.2.2.2.2.2.2.2.2.2.2.2.2.2.2.2.2.2.2.2.2.2.2.2.2.2.2.2.2.2.2.2.2.2.2.1
theorem KF.nsame:nsIn K Zw "_same"=some (some (.ref a.same)):=F.2.2.2.2.2.2.2.2.2.2.2.2.2.2.2.2.2.2.2.2.2.2.2.2.2.2.2.2.2.2.2.2.2.2.2.2.2.2.2.2.2.2.2.2.2.2.2.2.2.2.2.2.1
theorem KF.nkind:nsIn K Zw "_count_kind"=some (some (.ref a.kind)):=F.2.2.2.2.2.2.2.2.2.2.2.2.2.2.2.2.2.2.2.2.2.2.2.2.2.2.2.2.2.2.2.2.2.2.2.2.2.2.2.2.2.2.2.2.2.2.2.2.2.2.2.2.2.1
theorem KF.ngb:nsIn K Zw "groupby"=some (some (.ref a.gb)):=F.2.2.2.2.2.2.2.2.2.2.2.2.2.2.2.2.2.2.2.2.2.2.2.2.2.2.2.2.2.2.2.2.2.2.2.2.2.2.2.2.2.2.2.2.2.2.2.2.2.2.2.2.2.2.1
theorem KF.ngr:nsIn K Zw "_grouper"=some (some (.ref a.gr)):=F.2.2.2.2.2.2.2.2.2.2.2.2.2.2.2.2.2.2.2.2.2.2.2.2.2.2.2.2.2.2.2.2.2.2.2.2.2.2.2.2.2.2.2.2.2.2.2.2.2.2.2.2.2.2.2.1
theorem KF.nct:nsIn K Zw "count"=some (some (.ref a.ct)):=F.2.2.2.2.2.2.2.2.2.2.2.2.2.2.2.2.2.2.2.2.2.2.2.2.2.2.2.2.2.2.2.2.2.2.2.2.2.2.2.2.2.2.2.2.2.2.2.2.2.2.2.2.2.2.2.2.1
theorem KF.nig:nsIn K Zw "itemgetter"=some (some (.ref a.ig)):=F.2.2.2.2.2.2.2.2.2.2.2.2.2.2.2.2.2.2.2.2.2.2.2.2.2.2.2.2.2.2.2.2.2.2.2.2.2.2.2.2.2.2.2.2.2.2.2.2.2.2.2.2.2.2.2.2.2.1
theorem KF.nmax:∃ t,nsIn K Zw "_MAXSIZE"=some (some (.int 9223372036854775807 t)):=F.2.2.2.2.2.2.2.2.2.2.2.2.2.2.2.2.2.2.2.2.2.2.2.2.2.2.2.2.2.2.2.2.2.2.2.2.2.2.2.2.2.2.2.2.2.2.2.2.2.2.2.2.2.2.2.2.2.2.1
theorem KF.kpull:keepIn K (.ref a.pull)=true:=F.2.2.2.2.2.2.2.2.2.2.2.2.2.2.2.2.2.2.2.2.2.2.2.2.2.2.2.2.2.2.2.2.2.2.2.2.2.2.2.2.2.2.2.2.2.2.2.2.2.2.2.2.2.2.2.2.2.2.2.1
theorem KF.ksame:keepIn K (.ref a.same)=true:=F.2.2.2.2.2.2.2.2.2.2.2.2.2.2.2.2.2.2.2.2.2.2.2.2.2.2.2.2.2.2.2.2.2.2.2.2.2.2.2.2.2.2.2.2.2.2.2.2.2.2.2.2.2.2.2.2.2.2.2.2.1
theorem KF.kkind:keepIn K (.ref a.kind)=true:=F.2.2.2.2.2.2.2.2.2.2.2.2.2.2.2.2.2.2.2.2.2.2.2.2.2.2.2.2.2.2.2.2.2.2.2.2.2.2.2.2.2.2.2.2.2.2.2.2.2.2.2.2.2.2.2.2.2.2.2.2.2.1
theorem KF.kgb:keepIn K (.ref a.gb)=true:=F.2.2.2.2.2.2.2.2.2.2.2.2.2.2.2.2.2.2.2.2.2.2.2.2.2.2.2.2.2.2.2.2.2.2.2.2.2.2.2.2.2.2.2.2.2.2.2.2.2.2.2.2.2.2.2.2.2.2.2.2.2.2.1
theorem KF.kgr:keepIn K (.ref a.gr)=true:=F.2.2.2.2.2.2.2.2.2.2.2.2.2.2.2.2.2.2.2.2.2.2.2.2.2.2.2.2.2.2.2.2.2.2.2.2.2.2.2.2.2.2.2.2.2.2.2.2.2.2.2.2.2.2.2.2.2.2.2.2.2.2.2.1
theorem KF.kct:keepIn K (.ref a.ct)=true:=F.2.2.2.2.2.2.2.2.2.2.2.2.2.2.2.2.2.2.2.2.2.2.2.2.2.2.2.2.2.2.2.2.2.2.2.2.2.2.2.2.2.2.2.2.2.2.2.2.2.2.2.2.2.2.2.2.2.2.2.2.2.2.2.2.1
theorem KF.kig:keepIn K (.ref a.ig)=true:=F.2.2.2.2.2.2.2.2.2.2.2.2.2.2.2.2.2.2.2.2.2.2.2.2.2.2.2.2.2.2.2.2.2.2.2.2.2.2.2.2.2.2.2.2.2.2.2.2.2.2.2.2.2.2.2.2.2.2.2.2.2.2.2.2.2.1
theorem KF.nnext:nsIn K Zw "next"=some none:=F.2.2.2.2.2.2.2.2.2.2.2.2.2.2.2.2.2.2.2.2.2.2.2.2.2.2.2.2.2.2.2.2.2.2.2.2.2.2.2.2.2.2.2.2.2.2.2.2.2.2.2.2.2.2.2.2.2.2.2.2.2.2.2.2.2.2.1
theorem KF.nstop:nsIn K Zw "StopIteration"=some none:=F.2.2.2.2.2.2.2.2.2.2.2.2.2.2.2.2.2.2.2.2.2.2.2.2.2.2.2.2.2.2.2.2.2.2.2.2.2.2.2.2.2.2.2.2.2.2.2.2.2.2.2.2.2.2.2.2.2.2.2.2.2.2.2.2.2.2.2.1
theorem KF.niter:nsIn K Zw "iter"=some none:=F.2.2.2.2.2.2.2.2.2.2.2.2.2.2.2.2.2.2.2.2.2.2.2.2.2.2.2.2.2.2.2.2.2.2.2.2.2.2.2.2.2.2.2.2.2.2.2.2.2.2.2.2.2.2.2.2.2.2.2.2.2.2.2.2.2.2.2.2.1
theorem KF.ntype:nsIn K Zw "type"=some none:=F.2.2.2.2.2.2.2.2.2.2.2.2.2.2.2.2.2.2.2.2.2.2.2.2.2.2.2.2.2.2.2.2.2.2.2.2.2.2.2.2.2.2.2.2.2.2.2.2.2.2.2.2.2.2.2.2.2.2.2.2.2.2.2.2.2.2.2.2.2.1
theorem KF.nlen:nsIn K Zw "len"=some none:=F.2.2.2.2.2.2.2.2.2.2.2.2.2.2.2.2.2.2.2.2.2.2.2.2.2.2.2.2.2.2.2.2.2.2.2.2.2.2.2.2.2.2.2.2.2.2.2.2.2.2.2.2.2.2.2.2.2.2.2.2.2.2.2.2.2.2.2.2.2.2.1
theorem KF.nint:nsIn K Zw "int"=some none:=F.2.2.2.2.2.2.2.2.2.2.2.2.2.2.2.2.2.2.2.2.2.2.2.2.2.2.2.2.2.2.2.2.2.2.2.2.2.2.2.2.2.2.2.2.2.2.2.2.2.2.2.2.2.2.2.2.2.2.2.2.2.2.2.2.2.2.2.2.2.2.2.1
theorem KF.nbool:nsIn K Zw "bool"=some none:=F.2.2.2.2.2.2.2.2.2.2.2.2.2.2.2.2.2.2.2.2.2.2.2.2.2.2.2.2.2.2.2.2.2.2.2.2.2.2.2.2.2.2.2.2.2.2.2.2.2.2.2.2.2.2.2.2.2.2.2.2.2.2.2.2.2.2.2.2.2.2.2.2.1
theorem KF.nfloat:nsIn K Zw "float"=some none:=F.2.2.2.2.2.2.2.2.2.2.2.2.2.2.2.2.2.2.2.2.2.2.2.2.2.2.2.2.2.2.2.2.2.2.2.2.2.2.2.2.2.2.2.2.2.2.2.2.2.2.2.2.2.2.2.2.2.2.2.2.2.2.2.2.2.2.2.2.2.2.2.2.2.1
theorem KF.nsorted:nsIn K Zw "sorted"=some none:=F.2.2.2.2.2.2.2.2.2.2.2.2.2.2.2.2.2.2.2.2.2.2.2.2.2.2.2.2.2.2.2.2.2.2.2.2.2.2.2.2.2.2.2.2.2.2.2.2.2.2.2.2.2.2.2.2.2.2.2.2.2.2.2.2.2.2.2.2.2.2.2.2.2.2.1
theorem KF.nzip:nsIn K Zw "zip"=some none:=F.2.2.2.2.2.2.2.2.2.2.2.2.2.2.2.2.2.2.2.2.2.2.2.2.2.2.2.2.2.2.2.2.2.2.2.2.2.2.2.2.2.2.2.2.2.2.2.2.2.2.2.2.2.2.2.2.2.2.2.2.2.2.2.2.2.2.2.2.2.2.2.2.2.2.2.1
theorem KF.nmap:nsIn K Zw "map"=some none:=F.2.2.2.2.2.2.2.2.2.2.2.2.2.2.2.2.2.2.2.2.2.2.2.2.2.2.2.2.2.2.2.2.2.2.2.2.2.2.2.2.2.2.2.2.2.2.2.2.2.2.2.2.2.2.2.2.2.2.2.2.2.2.2.2.2.2.2.2.2.2.2.2.2.2.2.2.1
theorem KF.nlist:nsIn K Zw "list"=some none:=F.2.2.2.2.2.2.2.2.2.2.2.2.2.2.2.2.2.2.2.2.2.2.2.2.2.2.2.2.2.2.2.2.2.2.2.2.2.2.2.2.2.2.2.2.2.2.2.2.2.2.2.2.2.2.2.2.2.2.2.2.2.2.2.2.2.2.2.2.2.2.2.2.2.2.2.2.2.1
theorem KF.nve:nsIn K Zw "ValueError"=some none:=F.2.2.2.2.2.2.2.2.2.2.2.2.2.2.2.2.2.2.2.2.2.2.2.2.2.2.2.2.2.2.2.2.2.2.2.2.2.2.2.2.2.2.2.2.2.2.2.2.2.2.2.2.2.2.2.2.2.2.2.2.2.2.2.2.2.2.2.2.2.2.2.2.2.2.2.2.2.2.1
theorem KF.dkey:nsIn K a.rankK "key"=some (some .none):=F.2.2.2.2.2.2.2.2.2.2.2.2.2.2.2.2.2.2.2.2.2.2.2.2.2.2.2.2.2.2.2.2.2.2.2.2.2.2.2.2.2.2.2.2.2.2.2.2.2.2.2.2.2.2.2.2.2.2.2.2.2.2.2.2.2.2.2.2.2.2.2.2.2.2.2.2.2.2.2.1
theorem KF.drev:nsIn K a.rankK "reverse"=some (some (.bool false)):=F.2.2.2.2.2.2.2.2.2.2.2.2.2.2.2.2.2.2.2.2.2.2.2.2.2.2.2.2.2.2.2.2.2.2.2.2.2.2.2.2.2.2.2.2.2.2.2.2.2.2.2.2.2.2.2.2.2.2.2.2.2.2.2.2.2.2.2.2.2.2.2.2.2.2.2.2.2.2.2.2.1
theorem KF.dties:∃ t,nsIn K a.rankK "ties"=some (some (.str "average" t)):=F.2.2.2.2.2.2.2.2.2.2.2.2.2.2.2.2.2.2.2.2.2.2.2.2.2.2.2.2.2.2.2.2.2.2.2.2.2.2.2.2.2.2.2.2.2.2.2.2.2.2.2.2.2.2.2.2.2.2.2.2.2.2.2.2.2.2.2.2.2.2.2.2.2.2.2.2.2.2.2.2.2.1
theorem KF.dstart:∃ t,nsIn K a.rankK "start"=some (some (.int 1 t)):=F.2.2.2.2.2.2.2.2.2.2.2.2.2.2.2.2.2.2.2.2.2.2.2.2.2.2.2.2.2.2.2.2.2.2.2.2.2.2.2.2.2.2.2.2.2.2.2.2.2.2.2.2.2.2.2.2.2.2.2.2.2.2.2.2.2.2.2.2.2.2.2.2.2.2.2.2.2.2.2.2.2.2.1
theorem KF.grLen:findIn K (.ref a.gr) "__len__"=some none:=F.2.2.2.2.2.2.2.2.2.2.2.2.2.2.2.2.2.2.2.2.2.2.2.2.2.2.2.2.2.2.2.2.2.2.2.2.2.2.2.2.2.2.2.2.2.2.2.2.2.2.2.2.2.2.2.2.2.2.2.2.2.2.2.2.2.2.2.2.2.2.2.2.2.2.2.2.2.2.2.2.2.2.2.1
theorem KF.grHint:findIn K (.ref a.gr) "__length_hint__"=some none:=F.2.2.2.2.2.2.2.2.2.2.2.2.2.2.2.2.2.2.2.2.2.2.2.2.2.2.2.2.2.2.2.2.2.2.2.2.2.2.2.2.2.2.2.2.2.2.2.2.2.2.2.2.2.2.2.2.2.2.2.2.2.2.2.2.2.2.2.2.2.2.2.2.2.2.2.2.2.2.2.2.2.2.2.2
end
section
variable {a:Tf}{f:Zo}
variable {cn:Yz}
inductive Zfh (o:Xl)(n:Nat)(Q:Za)(s':Zi):Prop
 | mk (H0:Xx) (A:YE) (l:List V0) (M:List Zo) (sE:Zi) (L:Zo) (m:Ze) (led:Zd) (C:Cx H0 A l M sE L m led s') (hz:n<=sizeLine)
  (h:∀ t s'',Cx H0 A l M sE L m ((t,o)::led) s''->Nw H0 sE t->s'.heap.get? t=none->Q (.ref t) s''):Zfh o n Q s'
noncomputable abbrev qTup(Q:Za):List Zh->Zi->Prop:=λvs s'=>Zfh (XX vs) vs.length Q s'
noncomputable abbrev qLst(Q:Za):List Zh->Zi->Prop:=λvs s'=>Zfh (ZD vs) vs.length Q s'
theorem U7{k:Nat}{pos:V7}{elts:List Vz}{env:V0}{Q:Za}(h:Zp (model PW w) A (spliced (backTo pos (W4 elts env))) (qTup Q) E s):Zp (model PW w) A (eval (.Tuple elts k pos) env) Q E s :=
 wpAny_Tuple (Yr h (λvs s' h=>by obtain ⟨H0,A,l,M,sE,L,m,led,C,hz,h⟩:=h; exact⟨hz,h _ _ (C.push _ rfl Xe rfl) (C.noE XC) XC⟩) λuu uu z=>z)
theorem WB{pos:V7}{elts:List Vz}{env:V0}{Q:Za}(h:Zp (model PW w) A (spliced (backTo pos (W4 elts env))) (qLst Q) E s):Zp (model PW w) A (eval (.List elts pos) env) Q E s :=
 wpAny_List (Yr h (λvs s' h=>by obtain ⟨H0,A,l,M,sE,L,m,led,C,hz,h⟩:=h; exact⟨hz,h _ _ (C.push _ rfl Xe rfl) (C.noE XC) XC⟩) λuu uu z=>z)
theorem Cx.unpack2(C:Cx H0 A l M sE L m led s){x y:Yz}{p1 p2 pos:V7}{k:Nat}{t:Zo}{u v:Zh}{Q:Unit->Zi->Prop}(j:Nat)(hj:led[j]? = some (t,XX [u,v]))(hh:A.handled=none)
  (h:∀ s',Cx H0 A l M sE L (Jh (Jh m x u) y v) led s'->Q () s')
  (hx:cs.names.lookup x=some .local:=by rfl)(hy:cs.names.lookup y=some .local:=by rfl)
  (hp:(cs.kind == .class||(cs.kind == .module&&L != Zw))=false:=by rfl) :
  Zp (model PW w) A (assign (.Tuple [.Name x p1,.Name y p2] k pos) (Y0 cn cs L f cdv) (.ref t)) Q E s:=by
 refine assign_Tuple_tuple hh ⟨_,C.at j hj,rfl,0,rfl⟩ rfl rfl λh' he=>?_
 have one:∀ {x:Yz} {p:V7} {v:Zh} {Q:Unit->Zi->Prop} {s:Zi},Zp (model PW w) A (V6 (Y0 cn cs L f cdv) x v) Q E s->Zp (model PW w) A (assign (.Name x p) (Y0 cn cs L f cdv) v) Q E s:=λh=>PyProof.Rows.assign_Name h
 refine wpAny_assignInOrder_more (one ((C.ext (s':={ s with heap:=h' }) (λb o e=>he b o (λq=>by rw [q,XC] at e; exact Wu e) e) (Z6 _) rfl rfl).set (λs1 C2=>?_) hx hp))
 refine wpAny_assignInOrder_more (one (C2.set (λs2 C3=>?_) hy hp))
 exact wpAny_assignInOrder_none (h _ C3)
theorem Cx.attr(C:Cx H0 A l M sE L m led s)(G:Gl K H0 mg mb){nm name:Yz}{np pos:V7}{x c dx:Zo}{sl:List (Option Zh)}{i:Nat}{v:Zh}{Q:Za}(j:Nat)(hj:led[j]? = some (x,io c dx sl))
  (hm:m nm=some (.ref x))(ck:BN K c)(sk:W6 K c name i)(hv:sl[i]? = some (some v))(hd:Jk v=true)(h:∀ s',Cx H0 A l M sE L m led s'->Q v s')
  (hk:cs.kind = .function:=by rfl)(hl:cs.names.lookup nm=some .local:=by rfl)(hdb:(nm==("__debug__" : Yz))=false:=by decide) :
  Zp (model PW w) A (eval (.Attribute (.Name nm np) name pos) (Y0 cn cs L f cdv)) Q E s :=
 Attribute_Name_ (C.name hm (C.getS G j hj ck sk hv hd h) hk hl hdb)
theorem Cx.setA(C:Cx H0 A l M sE L m led s)(G:Gl K H0 mg mb){nm name:Yz}{np:V7}{x c dx:Zo}{sl sl':List (Option Zh)}{i:Nat}{v:Zh}{Q:Unit->Zi->Prop}(j:Nat)(hj:led[j]? = some (x,io c dx sl))
  (hm:m nm=some (.ref x))(ck:BN K c)(sk:W6 K c name i)(hM:x∈M\/sE.heap.get? x=none)(hH:H0.get? x=none)(h:∀ s',Cx H0 A l M sE L m (led.set j (x,io c dx sl')) s'->Q () s')(he:H9 sl i v=sl':=by rfl)
  (hk:cs.kind = .function:=by rfl)(hl:cs.names.lookup nm=some .local:=by rfl)(hdb:(nm==("__debug__" : Yz))=false:=by decide) :
  Zp (model PW w) A (eval (.Name nm np) (Y0 cn cs L f cdv)) (λov s2=>Zp (model PW w) A (setAttr ov name v) Q E s2) E s :=
 C.name hm (C.setS G j hj ck sk hM hH h he) hk hl hdb
theorem Cx.meth(C:Cx H0 A l M sE L m led s)(G:Gl K H0 mg mb){name:Yz}{x c dx g:Zo}{sl:List (Option Zh)}{pl:Sem Bool}{Q:Zh×List Zh->Zi->Prop}(j:Nat)(hj:led[j]? = some (x,io c dx sl))
  (ck:BN K c)(mk:Ud K c name g)(h:Q (.ref g,[.ref x]) s):Zp (model PW w) A (getMethod (.ref x) name pl) Q E s:=by
 refine XW (Gn (C.ok j hj)) λod I hod=>?_
 exact method_fn (C.st.X G) I ck.ga ck.gt mk.fi mk.ft (Zde hod _) h
end
end
variable {a:Tf}
section
open PySem PySem.W PySem.Calls PyProof.Rows PySem.Spec
theorem VN{h:Xx}{it lst:Zo}{i:Nat}(e:h.get? it=some (WV lst i)):Wy h (it,WV lst i):=.of e Y5 rfl
theorem VD{h:Xx}{x:Zo}{vs:List Zh}{ep:Nat}(e:h.get? x=some (ZD vs ep)):Wy h (x,ZD vs ep):=.of e Xe rfl
theorem Gx{h:Xx}{x:Zo}{vs:List Zh}(e:h.get? x=some (XX vs)):Wy h (x,XX vs):=.of e Xe rfl
theorem JB{h:Xx}{x y:Zo}{o o':Xl}(e:h.get? x=some o)(e':h.get? y=some o')(hc:o.cls≠o'.cls):x≠y:=λq=>hc (by rw [q,e'] at e; obtain rfl:=Zz e; rfl)
theorem BX{h:Xx}{x y:Zo}{o:Xl}(e:h.get? x=some o)(e':h.get? y=none):x≠y:=λq=>by rw [q,e'] at e; exact Wu e
theorem Zad(G:Gl K H0 mg mb)(F:KF K a)(S:St H0 A l s){it lst:Zo}{i:Nat}{vs:List Zh}{ep:Nat}{x:Zh}(hit:s.heap.get? it=some (WV lst i))(hH:H0.get? it=none)(hl:s.heap.get? lst=some (ZD vs ep))(hx:vs[i]? = some x)
  (hroom:A.depth<Zr)(hh:A.handled=none){Q:Za}
  (k:∀ t s',Go H0 [it] s s'->s'.heap.get? it=some (WV lst (i+1))->s'.heap.get? t=some (XX [.bool true,x])->s.heap.get? t=none->Q (.ref t) s'):Zp (model PW w) A (call (.ref a.pull) [.ref it]) Q E s:=by
 refine Y7 (Ub (binds:=[(Zj "it",.ref it)]) G S F.pull [it] [(it,WV lst i),(lst,ZD vs ep)] (λp hp=>?_) (by simp [(JB hit hl (by show Ug "list_iterator" ≠ .type "list"; decide))]) hroom (λuu uu uu uu uu uu=>YG rfl) (by decide) (locs rfl) λL cdv s1 uu C=>?_)
 ·rcases Z7.mp hp with rfl | hp
  ·exact VN hit
  ·exact(Zk.mp hp)▸VD hl
 refine Zg (U4 (Zg (Ym (U7 (Zq (Y8 (Zq ?_)))))))
 refine Xj (C.boot G F.nnext Boot.«next» ?_)
 refine Wi (Zq (C.name rfl (ZC ?_)))
 refine Zai (C.at 0 rfl) (C.at 1 rfl) rfl hx ?_
 have C2:=C.upd 0 (f:=ZP (·.setIfInBounds 1 (Xr ((i:Int)+1)))) rfl rfl Y5 rfl (.inl (.head _)) hH
 refine ZC ⟨_,_,_,_,_,_,_,_,C2,by simp [ZW],λt s2 C3 n1 n2=>?_⟩
 refine k t _ C3.go ?_ (C3.at 0 rfl) n1.e
 exact C3.at 1 rfl
theorem Zcv(G:Gl K H0 mg mb)(F:KF K a)(S:St H0 A l s){it lst:Zo}{i:Nat}{vs:List Zh}{ep:Nat}(hit:s.heap.get? it=some (WV lst i))(hH:H0.get? it=none)(hl:s.heap.get? lst=some (ZD vs ep))(hx:vs[i]? = none)
  (hroom:A.depth<Zr)(hh:A.handled=none){Q:Za}
  (k:∀ t s',Go H0 [it] s s'->s'.heap.get? it=some (itE i)->s'.heap.get? t=some (XX [.bool false,.none])->s.heap.get? t=none->Q (.ref t) s'):Zp (model PW w) A (call (.ref a.pull) [.ref it]) Q E s:=by
 refine Y7 (Ub (binds:=[(Zj "it",.ref it)]) G S F.pull [it] [(it,WV lst i),(lst,ZD vs ep)] (λp hp=>?_) (by simp [(JB hit hl (by show Ug "list_iterator" ≠ .type "list"; decide))]) hroom (λuu uu uu uu uu uu=>YG rfl) (by decide) (locs rfl) λL cdv s1 uu C=>?_)
 ·rcases Z7.mp hp with rfl | hp
  ·exact VN hit
  ·exact(Zk.mp hp)▸VD hl
 refine Zg (U4 (Zg (Ym (U7 (Zq (Y8 (Zq ?_)))))))
 refine Xj (C.boot G F.nnext Boot.«next» ?_)
 refine Wi (Zq (C.name rfl (ZC ?_)))
 refine Zdf hh (C.at 0 rfl) (C.at 1 rfl) rfl hx λh' e hm=>?_
 have C2:=C.upd 0 (f:=ZP (·.setIfInBounds 0 .none)) rfl rfl Y5 rfl (.inl (.head _)) hH
 refine C2.noteMade (cls:=.type "StopIteration") ⟨hm.keeps,hm.new,hm.there⟩ rfl λt s2 hd=>?_
 refine hd.lands λs3 F3=>?_
 have C3:=(C2.call F3.go).around (A':=(A.deeper (Y0 "_pull" HJ.2.2 L a.pull cdv)).mark (some (.ref e))) rfl
 refine wpAny_handleBy_builtin (X:="StopIteration") (T:="StopIteration") (b:=true) owsi_raise.isExc (by rw [isSubtype_type]; kernel_rfl) owsi_facts.sub ?_
 refine C3.boot G F.nstop Boot.«StopIteration» ⟨rfl,F3.typ,?_⟩
 first | refine YV rfl ?_ | refine YT rfl ?_ | rw [if_pos rfl]
 refine F3.again λs4 F4=>?_
 have C4:=(C2.call F4.go).around (A':=(A.deeper (Y0 "_pull" HJ.2.2 L a.pull cdv)).mark (some (.ref e))) rfl
 refine Zg (Ym (U7 (Zq (Y8 (Zq (Wm (ZC ⟨_,_,_,_,_,_,_,_,C4,by simp [ZW],λt s2 C5 n1 n2=>?_⟩)))))))
 refine k t _ C5.go ?_ (C5.at 0 rfl) n1.e
 exact C5.at 1 rfl
inductive OD (s s₁:Zi)(loc:Prop)(Z:Zd->Prop):Prop
 | mk (k1:∀ b o,s.heap.get? b=some o->s₁.heap.get? b=some o) (k2:s.toks<=s₁.toks) (k3:s₁.gens=s.gens) (k4:s₁.os=s.os) (hloc:loc) (led:Zd) (hled:∀ p∈led,Wy s₁.heap p) (hnod:(led.map (λuu=>uu.1)).Nodup) (h:Z led)
theorem OD.imp{s s₁:Zi}{loc:Prop}{Z Z':Zd->Prop}(h:OD s s₁ loc Z)(k:∀ led,Z led->Z' led):OD s s₁ loc Z':=by
 obtain ⟨k1,k2,k3,k4,h1,led,h2,h3,h4⟩:=h
 exact⟨k1,k2,k3,k4,h1,led,h2,h3,k _ h4⟩
theorem Zko{R:Zc}{f:Zo}{o:Xl}{fd:FuncData}{body:List JL}{args:Args}(S:St H0 A l s)(M:List Zo)
  (hroom:A.depth<Zr)(ho:s.heap.get? f=some o)(hdata:o.data = .func fd)(hlim:s.heap.NoLimit)(hcd:s.heap.CodeRec fd.code fd.qualname)
  (hbody:fd.body = .stmts body)(hcell:∀ x∈fd.scope.names,x.2 ≠ .cell)
  (hbind:∀ E',Zp (model PW w) A.in1 (bindArgs fd args) (λbinds s₁=>OD s s₁ (∀ x∈binds,fd.scope.names.lookup x.1=some .local) λled=>
   ∀ L s',Cx H0 (A.deeper (callEnv fd L f)) (callEnv fd L f::l) M s L (λx=>binds.reverse.lookup x) led s' ->
   Zp (model PW w) (A.deeper (callEnv fd L f)) (execs body (callEnv fd L f)) (Nz R)
    (Fx w (A.deeper (callEnv fd L f)) (callEnv fd L f) R) s') E' s)
  (hco:fd.scope.isCoroutine=false:=by rfl)(hgen:fd.scope.isGenerator=false:=by rfl)(hk:fd.scope.kind = .function:=by rfl) :
  Yk (model PW w) A (.call (.ref f) args) R s:=by
 refine codeAny_call_function hroom ho hdata hco hgen hbody hcd (Yr (hbind _) (λbinds s₁ hq=>?_) λuu uu z=>z)
 obtain ⟨k1,k2,k3,k4,hloc,led,hled,hnod,h⟩:=hq
 refine Vv hcell hloc (λh₀ hns hsb₀=>⟨(hlim.keeps k1).fresh _ hsb₀,codeAny_func ?_⟩) hk
 have hk₀:∀ b o,s₁.heap.get? b=some o->h₀.get? b=some o:=λb o e=>hsb₀.extBut b o (X7 (YH e)) (Z0 _ e)
 have hH:H0.get? s₁.heap.objs.size=none:=by
  cases q:H0.get? s₁.heap.objs.size with
  | none=>rfl
  | some o=>exact absurd (YH (k1 _ _ (S.glob _ _ q))) (Xy _)
 have hE:s.heap.get? s₁.heap.objs.size=none:=by
  cases q:s.heap.get? s₁.heap.objs.size with
  | none=>rfl
  | some o=>exact absurd (YH (k1 _ _ q)) (Xy _)
 refine h _ _ ⟨⟨λb o e=>hk₀ b o (k1 _ _ (S.glob b o e)),by unfold YE.deeper; rw [S.frames]; rfl,λenv he=>?_,Z9 S.toks (Zl k2 (Zx _ _))⟩,
  Go.ext (s:=s) (s':={ s₁ with heap:=h₀,toks:=s₁.toks+binds.length }) (λb o e=>hk₀ _ _ (k1 _ _ e)) (Zl k2 (Zx _ _)) k3 k4 _,hns,hE,hH,λp hp=>⟨hk₀ _ _ (hled p hp).at_,(hled p hp).nd,λdx e=>?_⟩,λp hp q=>?_,hnod⟩
 ·rcases Z7.mp he with rfl | he
  ·refine V1 (JH hns) λoL es n h1 h2=>?_
   exact⟨by show fd.scope.kind≠_; rw [hk]; decide,_,oL,es,n,rfl,hH,h1,h2⟩
  ·refine U3 (S.fr env he) λhk' L' o' es n h1 h2 h3 h4=>?_
   exact⟨hk',L',o',es,n,h1,h2,hk₀ _ _ (k1 _ _ h3),h4⟩
 ·refine XW ((hled p hp).dx dx e) λo h1 h2=>?_
  exact⟨o,hk₀ _ _ h1,h2⟩
 ·refine XW ((hled p hp).dx _ q) λo h1 h2=>?_
  exact Wu (ZF (ZR XC) h1)
section
variable {f:Zo}
theorem Sw{R:Zc}{f:Zo}{qual:Yz}{d:WE×List JL×US}{dV kV:Zh}{args:Args}(G:Gl K H0 mg mb)(S:St H0 A l s)(fk:Vo K f qual d dV kV)(M:List Zo)
  (hroom:A.depth<Zr)(hcell:∀ x∈d.2.2.names,x.2 ≠ .cell)
  (hbind:∀ name doc pm an cdv ct E',Zp (model PW w) A.in1 (bindArgs (JC name qual d.1 d.2.1 d.2.2 dV kV doc pm an cdv ct) args) (λbinds s₁=>OD s s₁ (∀ x∈binds,d.2.2.names.lookup x.1=some .local) λled=>
   ∀ L cdv s',Cx H0 (A.deeper (Y0 qual d.2.2 L f cdv)) (Y0 qual d.2.2 L f cdv::l) M s L (λx=>binds.reverse.lookup x) led s' ->
   Zp (model PW w) (A.deeper (Y0 qual d.2.2 L f cdv)) (execs d.2.1 (Y0 qual d.2.2 L f cdv)) (Nz R)
    (Fx w (A.deeper (Y0 qual d.2.2 L f cdv)) (Y0 qual d.2.2 L f cdv) R) s') E' s)
  (hco:d.2.2.isCoroutine=false:=by rfl)(hgen:d.2.2.isGenerator=false:=by rfl)(hk:d.2.2.kind = .function:=by rfl) :
  Yk (model PW w) A (.call (.ref f) args) R s:=by
 refine G6 fk.ex λpre name doc pm an cdv ct oc od osl ho hcd hpre=>?_
 exact Zko (fd:=JC name qual d.1 (pre++d.2.1) d.2.2 dV kV doc pm an cdv ct) S M hroom (S.X G _ _ ho) rfl (S.lim G) (codeRec_of (S.X G) hcd) rfl hcell
  (λE'=>Yr (hbind name doc pm an cdv ct E') (λbinds s₁ hq=>hq.imp λled h L s' C=>C.doc hpre hk λs'' C'=>h L cdv s'' C') λuu uu z=>z) hco hgen hk
theorem St.make(S:St H0 A l s)(G:Gl K H0 mg mb){c g:Zo}(ck:BN K c)(mk:Ud K c "__init__" g){args:List Zh}{kw:List (Yz×Zh)}{R:Zc}
  (h:∀ x dx s1,Go H0 [] s s1->Wy s1.heap (x,io c dx [])->s.heap.get? x=none->s.heap.get? dx=none ->
   Yk (model PW w) (A.under (.builtin "type.__call__" ⟨.ref c::args,kw⟩)) (.call (.ref g) ⟨.ref x::args,kw⟩) (InitBack x R) s1):Yk (model PW w) A (.call (.ref c) ⟨args,kw⟩) R s:=by
 have nx:s.heap.get? (s.heap.objs.size+1)=none:=by
  cases q:s.heap.get? (s.heap.objs.size+1) with
  | none=>rfl
  | some o=>exact absurd (YH q) (Xp.mpr (Wb _))
 obtain ⟨hh,gg,d,t,os⟩:=s
 refine make_core (makes_of (S.X G) ck.mkk) (WK (S.X G) mk.fi) (λself=>bind_fn (S.X G) self mk.ft) (.inl rfl) (h _ hh.objs.size _ (Go.ext (s:=⟨hh,gg,d,t,os⟩) (s':=⟨(hh.push emptyDict).push (instObj c hh.objs.size),gg,d,t,os⟩) (λb o e=>Z0 _ (Z0 _ e)) (Z6 _) rfl rfl _) ⟨?_,TX,λdx e=>?_⟩ nx XC)
 ·have:=ZK (h:=hh.push emptyDict) (o:=instObj c hh.objs.size) rfl
  rwa [Xq] at this
 ·obtain rfl:=Zz e
  exact⟨emptyDict,Z0 _ (ZK _ rfl),rfl⟩
end
theorem Go.push{M:List Zo}(o:Xl):Go H0 M s { s with heap:=s.heap.push o }:=Go.ext (s':={ s with heap:=s.heap.push o }) (λuu uu q=>Z0 _ q) (Z6 _) rfl rfl _
theorem DI{t b:Zo}{v:Zh}{vs:List Zh}{Q:Za}(ht:s.heap.get? t=some (XX (v::vs)))(hb:s.heap.get? b=some (XX []))(h:Q (.ref t) s):Zp (model PW w) A (JY .Add (.ref t) (.ref b)) Q E s :=
 concat_meets ⟨_,ht,rfl⟩ ⟨_,hb,rfl⟩ noFill_tuple_add seq_tuple_add PySem.F.slot_tuple_add PySem.F.entry_tuple_add (PySem.F.args_tuple_add_2 _ _)
  (tuple_addW1 t b (v::vs).toArray ([]:List Zh).toArray 0 0 none none #[] #[] (by exact Zn) (by exact rfl)) ⟨ht,hb,h⟩
theorem Ob(G:Gl K H0 mg mb)(F:KF K a)(S:St H0 A l s){x dx:Zo}{v:Zh}(hx:Wy s.heap (x,io a.ig dx []))(hH:H0.get? x=none)(hroom:A.depth<Zr){R:Zc}
  (k:∀ tp s',Go H0 [x] s s'->Wy s'.heap (x,io a.ig dx [some (.ref tp)])->s'.heap.get? tp=some (XX [v])->s.heap.get? tp=none->R (.ok (.ret .none)) s') :
  Yk (model PW w) A (.call (.ref a.igInit) ⟨[.ref x,v],[]⟩) R s:=by
 refine Sw G S F.igInit [x] hroom (by decide) λname doc pm an cdv ct E'=>?_
 have e:∀ M,Zp M A.in1 (bindArgs (JC name "itemgetter.__init__" HK.1 HK.2.1 HK.2.2 .none .none doc pm an cdv ct) ⟨[.ref x,v],[]⟩)=Zp M A.in1 (newTuple [] >>= λt=>pure [(Zj "self",.ref x),(Zj "item",v),(Zj "items",t)]):=λuu=>rfl
 rw [e]
 refine Zf (Xa (Zm ?_) (by size_fits))
 refine⟨λb o q=>Z0 _ q,Z6 _,rfl,rfl,locs rfl,[(x,io a.ig dx []),(s.heap.objs.size,XX [])],λp hp=>?_,by simp [(BX hx.at_ XC)],λL cdv s1 C=>?_⟩
 ·rcases Z7.mp hp with rfl | hp
  ·exact hx.go (H0:=H0) (M:=[]) (s:=s) (s':={ s with heap:=s.heap.push (XX []) }) (Go.push _) (λh=>by exact noM h)
  ·exact(Zk.mp hp)▸Gx (ZK _ rfl)
 refine Zg (Zy (ZH (U7 (Zq (C.name rfl (ZC ⟨_,_,_,_,_,_,_,_,C,by simp [ZW],λt s2 C2 n1 n2=>?_⟩))))))
 refine C2.name rfl (DI (C2.at 0 rfl) (C2.at 2 rfl) ?_)
 refine C2.setA G 1 rfl rfl F.ig F.ig0 (.inl (.head _)) hH λs3 C3=>?_
 exact Z4 (k t s3 C3.go (C3.ok 1 rfl) (C3.at 0 rfl) n1.e)
theorem Zhg(G:Gl K H0 mg mb)(F:KF K a)(S:St H0 A l s){v:Zh}(hroom:A.depth+1<Zr){R:Zc}
  (k:∀ x dx tp s',Go H0 [] s s'->Wy s'.heap (x,io a.ig dx [some (.ref tp)])->s'.heap.get? tp=some (XX [v])->s.heap.get? x=none->s.heap.get? dx=none->s.heap.get? tp=none->x≠tp->R (.ok (.ret (.ref x))) s') :
  Yk (model PW w) A (.call (.ref a.ig) ⟨[v],[]⟩) R s:=by
 refine S.make G F.ig F.migI λx dx s1 g1 ox nx ndx=>?_
 have hH:H0.get? x=none:=by
  cases q:H0.get? x with
  | none=>rfl
  | some o=>have:=S.glob _ _ q; exact Wu (ZF (ZR nx) this)
 refine Ob G F ((S.go g1).around (A':=A.under (.builtin "type.__call__" ⟨[.ref a.ig,v],[]⟩)) rfl) ox hH hroom λtp s2 g2 ox2 ht nt=>⟨rfl,?_⟩
 have ntp:s.heap.get? tp=none:=by
  cases q:s.heap.get? tp with
  | none=>rfl
  | some o=>refine zE (g1.there _ _ q) λo' z=>?_; exact Wu (ZF (ZR nt) z)
 exact k x dx tp s2 (g1.step g2 λp hp=>.inr (by exact(Zk.mp hp)▸nx)) ox2 ht nx ndx ntp (λq=>by have:=ox.at_; rw [q] at this; dsimp only at this; exact Wu (ZF (ZR nt) this))
theorem Oc(G:Gl K H0 mg mb)(F:KF K a)(S:St H0 A l s){x dx tp r:Zo}{u:W7}{v:Zh}{vs:List Zh}(hx:Wy s.heap (x,io a.ig dx [some (.ref tp)]))(ht:s.heap.get? tp=some (XX [.int 0 u]))(hr:s.heap.get? r=some (XX (v::vs)))
  (hne:tp≠r)(hroom:A.depth<Zr){R:Zc}
  (k:∀ s',Go H0 [] s s'->R (.ok (.ret v)) s') :
  Yk (model PW w) A (.call (.ref a.igCall) ⟨[.ref x,.ref r],[]⟩) R s:=by
 have h1:x≠tp:=λq=>by have:=hx.at_; rw [q] at this; dsimp only at this; rw [ht] at this; cases this
 have h2:x≠r:=λq=>by have:=hx.at_; rw [q] at this; dsimp only at this; rw [hr] at this; cases this
 refine Ub (binds:=[(Zj "self",.ref x),(Zj "obj",.ref r)]) G S F.igCall [] [(x,io a.ig dx [some (.ref tp)]),(tp,XX [.int 0 u]),(r,XX (v::vs))] (λp hp=>?_) (by simp [h1,h2,hne]) hroom (λuu uu uu uu uu uu=>YG rfl) (by decide) (locs rfl) λL cdv s1 uu C=>?_
 ·rcases Z7.mp hp with rfl | hp
  ·exact hx
  rcases Z7.mp hp with rfl | hp
  ·exact Gx ht
  ·exact(Zk.mp hp)▸Gx hr
 refine Zg (Zv (C.attr G 0 rfl rfl F.ig F.ig0 rfl rfl λs2 C2=>C2.set λs3 C3=>?_))
 refine Zg (Yv (Z8 (Xj (C3.boot G F.nlen Boot.«len» (Wi (Zq (C3.name rfl (ZC (len_tuple ⟨_,C3.at 1 rfl,rfl,0,rfl⟩ (by simp) ?_)))))))))
 refine Zt (eq_int (Zu ?_))
 have C4:=C3.tok 3
 refine YV (by rfl) ?_
 refine Zg (Ym (Wd (C4.name rfl ?_)))
 refine Wd (C4.name rfl (Zt ?_))
 have C5:=C4.tok 1
 refine item_tupleL ⟨_,C5.at 1 rfl,rfl,0,rfl⟩ (by decide) (by decide) rfl rfl ?_
 refine item_tupleL ⟨_,C5.at 2 rfl,rfl,0,rfl⟩ (by decide) (by decide) (j:=0) (by simp [seqIndex?]) rfl ?_
 exact k _ C5.go
theorem Ow:entryFor table "iter"=some Builtin.«iter»:=JD (by kernel_rfl)
theorem DH(v:Zh):argsOk "iter" ⟨[v],[]⟩:=by unfold argsOk; kernel_rfl
theorem Cx.callAt2(C:Cx H0 A l M sE L m led s)(i j:Nat){x y:Zo}{ox oy ox' oy':Xl}(hi:led[i]? = some (x,ox))(hj:led[j]? = some (y,oy))(hij:i≠j)(G:Go H0 [x,y] s s')(hox:Wy s'.heap (x,ox'))(hoy:Wy s'.heap (y,oy'))
  (hM:∀ p∈[x,y],p∈M\/sE.heap.get? p=none)(hx:ox'.dict=ox.dict)(hy:oy'.dict=oy.dict):Cx H0 A l M sE L m ((led.set i (x,ox')).set j (y,oy')) s':=by
 have dx:ox'.dict≠some L:=by exact hx▸C.dn _ (ZG hi)
 have dy:oy'.dict≠some L:=by exact hy▸C.dn _ (ZG hj)
 refine C.turn G hM _ (by rw [XO (by exact ZF (XZ hij) (hj)),XO hi]) λp hp=>?_
 refine(BE (by rw [XO hi]; exact C.nodup) ((XZ hij).trans hj) hp).elim (λe=>.inr (e▸⟨hoy,dy⟩)) λq=>?_
 exact(BE C.nodup hi q.1).elim (λe=>.inr (e▸⟨hox,dx⟩)) λr=>.inl ⟨r.1,λz=>(Z7.mp z).elim r.2 λz=>q.2 (Zk.mp z)⟩
theorem Cx.notL(C:Cx H0 A l M sE L m led s){o:Xl}(h:∀ dx,o.dict=some dx->s.heap.get? dx=none):o.dict≠some L:=λq=>by
 refine V1 (JH C.ns) λoL es ep h1 uu=>?_
 exact Wu (ZF (ZR (h L q)) h1)
theorem Cx.neN(C:Cx H0 A l M sE L m led s){t:Zo}(nt:s.heap.get? t=none):∀ p∈led,p.1≠t:=λp hp=>BX (C.has p hp).at_ nt
theorem Cx.callN(C:Cx H0 A l M sE L m led s)(G:Go H0 [] s s'){t:Zo}{o:Xl}(ht:Wy s'.heap (t,o))(nt:s.heap.get? t=none)(hd:∀ dx,o.dict=some dx->s.heap.get? dx=none:=by intro _ q; cases q) :
  Cx H0 A l M sE L m ((t,o)::led) s':=(C.call G).add ht (C.neN nt) (C.notL hd)
theorem Cx.callAtN(C:Cx H0 A l M sE L m led s)(i:Nat){x:Zo}{ox ox':Xl}(hi:led[i]? = some (x,ox))(G:Go H0 [x] s s')(hox:Wy s'.heap (x,ox'))(hM:x∈M\/sE.heap.get? x=none)
  {t:Zo}{o:Xl}(ht:Wy s'.heap (t,o))(nt:s.heap.get? t=none)(hx:ox'.dict=ox.dict:=by rfl)(hd:∀ dx,o.dict=some dx->s.heap.get? dx=none:=by intro _ q; cases q) :
  Cx H0 A l M sE L m ((t,o)::led.set i (x,ox')) s':=by
 refine(C.callAt i hi G hox hM (by exact hx▸C.dn _ (ZG hi))).add ht (λp hp=>?_) (C.notL hd)
 have hm:p.1∈(led.set i (x,ox')).map (λuu=>uu.1):=XG hp
 rw [XO hi] at hm
 refine XW (ZZ.mp hm) λq hq e=>?_
 exact e▸C.neN nt q hq
theorem Zar{lst:Zo}{ol:Xl}{vs:List Zh}{n:Nat}{Q:Za}(hl:s.heap.get? lst=some ol)(hc:ol.cls = .type "list")(hd:ol.data = .seq vs.toArray n)
  (hQ:Q (.ref s.heap.objs.size) { s with heap:=s.heap.push (WV lst 0) }):Zp (model PW w) A (call (.builtin "iter") [.ref lst]) Q E s:=by
 refine call_function_entry (by decide +kernel) (by decide +kernel) Ow (DH _) ?_
 refine Zf (m:=someArgs "iter" 1 2 _) (Xk (a:=[ZS lst]) (by first | rfl | kernel_rfl!) ?_)
 exact Zf (W8 ⟨_,hl,hc,n,hd⟩ (Zm ⟨_,rfl,hQ⟩))
noncomputable def VK(cg ck cv:Zh)(hk hv ht:Bool)(it kf se tk:Zh):List (Option Zh):=[some cg,some ck,some cv,some (.bool hk),some (.bool hv),some (.bool ht),some it,some kf,some se,some tk]
theorem NI(kf it:Zh)(t u:W7): H9 (H9 (H9 (H9 (H9 (H9 (H9 (H9 (H9 (H9 [] 7 kf) 6 it) 5 (.bool false)) 9 .none) 3 (.bool false)) 1 .none) 4 (.bool false)) 2 .none) 0 (.int 0 t)) 8 (.int 0 u)=VK (.int 0 t) .none .none false false false it kf (.int 0 u) .none:=by
 kernel_rfl
theorem Om(G:Gl K H0 mg mb)(F:KF K a)(S:St H0 A l s){x dx lst:Zo}{vs:List Zh}{ep:Nat}{kf:Zh}(hx:Wy s.heap (x,io a.gb dx []))(hH:H0.get? x=none)(hl:s.heap.get? lst=some (ZD vs ep))(hroom:A.depth<Zr){R:Zc}
  (k:∀ it t u s',Go H0 [x] s s'->Wy s'.heap (x,io a.gb dx (VK (.int 0 t) .none .none false false false (.ref it) kf (.int 0 u) .none))->s'.heap.get? it=some (WV lst 0)->s.heap.get? it=none->R (.ok (.ret .none)) s') :
  Yk (model PW w) A (.call (.ref a.gbInit) ⟨[.ref x,.ref lst],[("key",kf)]⟩) R s:=by
 refine G7 F.gbD λo n ho hs=>?_
 refine Ub (binds:=[(Zj "self",.ref x),(Zj "iterable",.ref lst),(Zj "key",kf)]) G S F.gbInit [x] [(x,io a.gb dx []),(lst,ZD vs ep)] (λp hp=>?_) (by simp [(JB hx.at_ hl (by show ZS a.gb ≠ .type "list"; intro q; cases q))]) hroom (λuu uu uu uu uu uu=>binds_K (S.X G) rfl ho hs rfl rfl) (by decide) (locs rfl) λL cdv s1 uu C=>?_
 ·rcases Z7.mp hp with rfl | hp
  ·exact hx
  ·exact(Zk.mp hp)▸VD hl
 refine Zg (Zy (C.name rfl (C.setA G 0 rfl rfl F.gb F.gb7 (.inl (.head _)) hH λs2 C2=>?_)))
 refine Zg (Zy (Xj (C2.boot G F.niter Boot.«iter» (Wi (Zq (C2.name rfl (ZC (Zar (C2.at 1 rfl) rfl rfl ?_))))))))
 have nit:s2.heap.get? s2.heap.objs.size=none:=XC
 generalize hit:s2.heap.objs.size=it at nit
 have C3:=C2.push (WV lst 0) rfl Y5 rfl
 rw [hit] at C3
 refine C3.setA G 1 rfl rfl F.gb F.gb6 (.inl (.head _)) hH λs4 C4=>?_
 refine Zg (Zy (Y8 (C4.setA G 1 rfl rfl F.gb F.gb5 (.inl (.head _)) hH λs4 C4=>?_)))
 refine Zg (Zy (Wm (C4.setA G 1 rfl rfl F.gb F.gb9 (.inl (.head _)) hH λs4 C4=>?_)))
 refine Zg (Zy (Y8 (C4.setA G 1 rfl rfl F.gb F.gb3 (.inl (.head _)) hH λs4 C4=>?_)))
 refine Zg (Zy (Wm (C4.setA G 1 rfl rfl F.gb F.gb1 (.inl (.head _)) hH λs4 C4=>?_)))
 refine Zg (Zy (Y8 (C4.setA G 1 rfl rfl F.gb F.gb4 (.inl (.head _)) hH λs4 C4=>?_)))
 refine Zg (Zy (Wm (C4.setA G 1 rfl rfl F.gb F.gb2 (.inl (.head _)) hH λs4 C4=>?_)))
 refine Zg (Zy (Zt ((C4.tok 1).setA G 1 rfl rfl F.gb F.gb0 (.inl (.head _)) hH λs5 C5=>?_)))
 refine Zg (Zy (Zt ((C5.tok 1).setA G 1 rfl rfl F.gb F.gb8 (.inl (.head _)) hH (λs6 C6=>?_) (he:=NI _ _ _ _))))
 refine Z4 (k it _ _ s6 C6.go (C6.ok 1 rfl) (C6.at 0 rfl) ?_)
 exact(C2.noE nit).e
theorem Zhm(G:Gl K H0 mg mb)(F:KF K a)(S:St H0 A l s){lst:Zo}{vs:List Zh}{ep:Nat}{kf:Zh}(hl:s.heap.get? lst=some (ZD vs ep))(hroom:A.depth+1<Zr){R:Zc}
  (k:∀ x dx it t u s',Go H0 [] s s'->Wy s'.heap (x,io a.gb dx (VK (.int 0 t) .none .none false false false (.ref it) kf (.int 0 u) .none))->s'.heap.get? it=some (WV lst 0)->s.heap.get? x=none->s.heap.get? dx=none->s.heap.get? it=none->x≠it->R (.ok (.ret (.ref x))) s') :
  Yk (model PW w) A (.call (.ref a.gb) ⟨[.ref lst],[("key",kf)]⟩) R s:=by
 refine S.make G F.gb F.mgbI λx dx s1 g1 ox nx ndx=>?_
 have hH:H0.get? x=none:=by
  cases q:H0.get? x with
  | none=>rfl
  | some o=>have:=S.glob _ _ q; exact Wu (ZF (ZR nx) this)
 refine Om G F ((S.go g1).around (A':=A.under (.builtin "type.__call__" ⟨[.ref a.gb,.ref lst],[("key",kf)]⟩)) rfl) ox hH (g1.nd _ _ hl (λh=>nomatch h) Xe) hroom λit t u s2 g2 ox2 hit nit=>⟨rfl,?_⟩
 have nit':s.heap.get? it=none:=by
  cases q:s.heap.get? it with
  | none=>rfl
  | some o=>refine zE (g1.there _ _ q) λo' z=>?_; exact Wu (ZF (ZR nit) z)
 exact k x dx it t u s2 (g1.step g2 λp hp=>.inr (by exact(Zk.mp hp)▸nx)) ox2 hit nx ndx nit' (BX ox.at_ nit)
section
variable {f:Zo}
variable {cn:Yz}
theorem Zaz(X:K.In s.heap){x c dx g:Zo}{sl:List (Option Zh)}{pos:List Zh}{kw:List (Yz×Zh)}{R:Zc}(hx:Wy s.heap (x,io c dx sl))(mk:Ud K c "__call__" g)
  (h:Yk (model PW w) A (.call (.ref g) ⟨.ref x::pos,kw⟩) R s):Yk (model PW w) A (.call (.ref x) ⟨pos,kw⟩) R s :=
 (Gn hx).elim λ_ I=>kco_code X I.1 rfl mk.fi (beq_iff_eq.mpr mk.ft) mk.fn h
theorem Cx.callSlot(C:Cx H0 A l M sE L m led s)(G:Gl K H0 mg mb){nm name:Yz}{np ap pos:V7}{e:Vz}{rest:List Vz}{pl:Sem Bool}{x c dx:Zo}{sl:List (Option Zh)}{i:Nat}{v:Zh}{Q:Za}(j:Nat)(hj:led[j]? = some (x,io c dx sl))
  (hm:m nm=some (.ref x))(ck:BN K c)(sk:W6 K c name i)(hv:sl[i]? = some (some v))(hd:Jk v=true)
  (h:∀ s',Cx H0 A l M sE L m led s'->Zp (model PW w) A (spliced (backTo pos (W4 (e::rest) (Y0 cn cs L f cdv)))) (λvs s₁=>(∃ k,Ui (model PW w) s₁.heap (keeperOf v) k)/\Zp (model PW w) A (PySem.call v vs) Q E s₁) E s')
  (hk:cs.kind = .function:=by rfl)(hl:cs.names.lookup nm=some .local:=by rfl)(hdb:(nm==("__debug__" : Yz))=false:=by decide)
  (hst:W4 (e::rest) (Y0 cn cs L f cdv)=(false,eval e (Y0 cn cs L f cdv))::W4 rest (Y0 cn cs L f cdv):=by rfl)
  (he:eval (.Call (.Attribute (.Name nm np) name ap) (e::rest) [] pos) (Y0 cn cs L f cdv)=(do
   let ov <- eval (.Name nm np) (Y0 cn cs L f cdv)
   standAt ap.atName
   let (f',first) <- holding [ov] (getMethod ov name pl)
   callWith pos f' first (backTo pos (W4 (e::rest) (Y0 cn cs L f cdv))) (backToKw pos (keywordEach [] (Y0 cn cs L f cdv)))):=by rfl) :
  Zp (model PW w) A (eval (.Call (.Attribute (.Name nm np) name ap) (e::rest) [] pos) (Y0 cn cs L f cdv)) Q E s:=by
 refine methodCall_KW (C.name hm ?_ hk hl hdb) he
 refine XW (Gn (C.ok j hj)) λod I hod=>?_
 refine Nm sk.ex λp h1 h2 h3 h4 h5 h6=>?_
 refine method_usual (C.st.X G) I ck.ga ck.gt h1 (by simp [h5]) (C.getS G j hj ck sk hv hd λs' C'=>?_)
 refine NU ?_
 have:=h s' C'
 rw [hst] at this ⊢
 exact Vx this
theorem Cx.callMeth0(C:Cx H0 A l M sE L m led s)(G:Gl K H0 mg mb){nm name:Yz}{np ap pos:V7}{pl:Sem Bool}{x c dx g:Zo}{sl:List (Option Zh)}{Q:Za}(j:Nat)(hj:led[j]? = some (x,io c dx sl))
  (hm:m nm=some (.ref x))(ck:BN K c)(mk:Ud K c name g)(h:Zp (model PW w) A (PySem.call (.ref g) [.ref x]) Q E s)
  (hk:cs.kind = .function:=by rfl)(hl:cs.names.lookup nm=some .local:=by rfl)(hdb:(nm==("__debug__" : Yz))=false:=by decide)
  (he:eval (.Call (.Attribute (.Name nm np) name ap) [] [] pos) (Y0 cn cs L f cdv)=(do
   let ov <- eval (.Name nm np) (Y0 cn cs L f cdv)
   standAt ap.atName
   let (f',first) <- holding [ov] (getMethod ov name pl)
   callWith pos f' first (backTo pos (W4 [] (Y0 cn cs L f cdv))) (backToKw pos (keywordEach [] (Y0 cn cs L f cdv)))):=by rfl) :
  Zp (model PW w) A (eval (.Call (.Attribute (.Name nm np) name ap) [] [] pos) (Y0 cn cs L f cdv)) Q E s:=by
 refine methodCall_KW (C.name hm ?_ hk hl hdb) he
 refine C.meth G j hj ck mk ?_
 exact callWith_K0 (C.st.X G) mk.kp h
theorem Cx.callFn(C:Cx H0 A l M sE L m led s)(G:Gl K H0 mg mb){nm:Yz}{np pos:V7}{e:Vz}{rest:List Vz}{g:Zo}{Q:Za}(hn:nsIn K Zw nm=some (some (.ref g)))(hkp:keepIn K (.ref g)=true)
  (h:Zp (model PW w) A (spliced (backTo pos (W4 (e::rest) (Y0 cn cs L f cdv)))) (λvs s₁=>K.In s₁.heap/\Zp (model PW w) A (PySem.call (.ref g) vs) Q E s₁) E s)
  (hk:cs.kind = .function:=by rfl)(hl:cs.names.lookup nm=some .globalImplicit:=by rfl)(hdb:(nm==("__debug__" : Yz))=false:=by decide)
  (hst:W4 (e::rest) (Y0 cn cs L f cdv)=(false,eval e (Y0 cn cs L f cdv))::W4 rest (Y0 cn cs L f cdv):=by rfl)
  (hplain:(backTo pos (W4 rest (Y0 cn cs L f cdv))).any (λuu=>uu.1)=false:=by rfl) :
  Zp (model PW w) A (eval (.Call (.Name nm np) (e::rest) [] pos) (Y0 cn cs L f cdv)) Q E s :=
 Xj (C.global G hn (UQ (C.st.X G) hkp h hst hplain) hk hl hdb)
theorem Zaq{x c dx:Zo}{sl:List (Option Zh)}(M:XJ)(hx:Wy s.heap (x,io c dx sl)):∃ k,Ui M s.heap (keeperOf (.ref x)) k:=⟨.caller,(JZ (part:=none) hx.at_).andThen .now⟩
structure Zif (K:Frag)(a:Tf)(H0:Xx)(h:Xx)(x dg it lst ig di tp r:Zo)(i:Nat)(vs:List Zh)(ep:Nat)(key:Zh)(rest:List Zh)(u:W7)(sl:List (Option Zh)):Prop where
 has:∀ p∈[(x,io a.gb dg sl),(it,WV lst i),(lst,ZD vs ep),(ig,io a.ig di [some (.ref tp)]),(tp,XX [.int 0 u]),(r,XX (key::rest))],Wy h p
 nodup:[x,it,lst,ig,tp,r].Nodup
 hx:H0.get? x=none
 hit:H0.get? it=none
 row:vs[i]? = some (.ref r)
theorem F7(G:Gl K H0 mg mb)(F:KF K a)(S:St H0 A l s){x dg it lst ig di tp r:Zo}{i:Nat}{vs:List Zh}{ep:Nat}{key:Zh}{rest:List Zh}{u:W7}{cg ck cv se tk:Zh}{hk hv ht:Bool}
  (Z:Zif K a H0 s.heap x dg it lst ig di tp r i vs ep key rest u (VK cg ck cv hk hv ht (.ref it) (.ref ig) se tk))(hroom:A.depth+1<Zr)(hh:A.handled=none){R:Zc}
  (k:∀ s',Go H0 [x,it] s s'->Wy s'.heap (x,io a.gb dg (VK cg key (.ref r) true true ht (.ref it) (.ref ig) se tk))->s'.heap.get? it=some (WV lst (i+1))->R (.ok (.ret .none)) s') :
  Yk (model PW w) A (.call (.ref a.gbStep) ⟨[.ref x],[]⟩) R s:=by
 refine Ub (binds:=[(Zj "self",.ref x)]) G S F.gbStep [x,it] _ Z.has Z.nodup (ZO hroom) (λuu uu uu uu uu uu=>YG rfl) (by decide) (locs rfl) λL cdv s1 uu C=>?_
 refine Zg (Assign_Tuple (C.callFn G F.npull F.kpull (Zq (C.attr G 0 rfl rfl F.gb F.gb6 rfl rfl λs2 C2=>ZC ⟨C2.st.X G,?_⟩))))
 refine Zad G F C2.st (C2.at 1 rfl) Z.hit (C2.at 2 rfl) Z.row hroom hh λt s3 g3 hit3 ht3 nt3=>?_
 refine(C2.callAtN 1 rfl g3 (VN hit3) (.inl (by exact .tail _ (.head _))) (Gx ht3) nt3).unpack2 0 rfl hh λs4 C4=>?_
 refine Zg (Yv (Xg (ZY (C4.name rfl (Zu ?_)))))
 refine Z4 ?_
 refine Zg (Yv (Z8 (C4.attr G 1 rfl rfl F.gb F.gb7 rfl rfl λs5 C5=>Wm (is_none (Zu ?_)))))
 refine Y6 rfl ?_
 refine Zg (Zv (C5.callSlot G 1 rfl rfl F.gb F.gb7 rfl rfl λs6 C6=>Zq (C6.name rfl (ZC ⟨Zaq _ (C6.ok 4 rfl),?_⟩))))
 refine Y7 (Zaz (C6.st.X G) (C6.ok 4 rfl) F.migC (Oc G F C6.st (C6.ok 4 rfl) (C6.at 5 rfl) (C6.at 6 rfl) (C6.ne (i:=5) (j:=6) rfl rfl) hroom λs7 g7=>?_))
 refine(C6.call g7).set λs8 C8=>Z4 ?_
 refine Zg (Zy (C8.name rfl (C8.setA G 1 rfl rfl F.gb F.gb2 (.inl (by exact .head _)) Z.hx (λs9 C9=>?_) (sl':=VK cg ck (.ref r) hk hv ht (.ref it) (.ref ig) se tk) (he:=by kernel_rfl))))
 refine Zg (Zy (Y8 (C9.setA G 1 rfl rfl F.gb F.gb4 (.inl (by exact .head _)) Z.hx (λs10 C10=>?_) (sl':=VK cg ck (.ref r) hk true ht (.ref it) (.ref ig) se tk) (he:=by kernel_rfl))))
 refine Zg (Zy (C10.name rfl (C10.setA G 1 rfl rfl F.gb F.gb1 (.inl (by exact .head _)) Z.hx (λs11 C11=>?_) (sl':=VK cg key (.ref r) hk true ht (.ref it) (.ref ig) se tk) (he:=by kernel_rfl))))
 refine Zg (Zy (Y8 (C11.setA G 1 rfl rfl F.gb F.gb3 (.inl (by exact .head _)) Z.hx (λs12 C12=>?_) (sl':=VK cg key (.ref r) true true ht (.ref it) (.ref ig) se tk) (he:=by kernel_rfl))))
 exact Z4 (k s12 C12.go (C12.ok 1 rfl) (C12.at 2 rfl))
end
theorem Ii(G:Gl K H0 mg mb)(S:St H0 A l s){f:Zo}(fk:Vo K f "_same" B7 .none .none)(κ:We){x y:Zh}(hx:κ.P x)(hy:κ.P y)(tx:U0 x≠0)(ty:U0 y≠0)(ht:U0 x=U0 y->κ.eq x y=true)
  (hroom:A.depth<Zr){Q:Za}(k:∀ s',Go H0 [] s s'->Q (.bool (κ.eq x y)) s'):Zp (model PW w) A (call (.ref f) [x,y]) Q E s:=by
 refine Y7 (Ub (binds:=[(Zj "a",x),(Zj "b",y)]) G S fk [] [] YC Un hroom (λuu uu uu uu uu uu=>YG rfl) (by decide) (locs rfl) λL cdv s1 uu C=>?_)
 refine Zg (Yv (Z8 (C.name rfl (C.name rfl (κ.isR _ _ _ _ _ _ _ (C.st.nob G) hx hy tx ty ht λr hr=>Zu ?_)))))
 have fin:Zp (model PW w) (A.deeper (Y0 "_same" B7.2.2 L f cdv)) (execs (B7.2.1.drop 1) (Y0 "_same" B7.2.2 L f cdv))
   (Nz (TM Q E)) (Fx w (A.deeper (Y0 "_same" B7.2.2 L f cdv)) (Y0 "_same" B7.2.2 L f cdv) (TM Q E)) s1:=by
  refine Zg (Yv (Z8 (C.name rfl (C.name rfl (κ.cmpR _ _ _ _ _ _ _ hx hy (Zu ?_))))))
  cases he:κ.eq x y with
  | true=>
   exact Zg (Ym (Y8 (by show Q _ _; exact he▸k _ C.go)))
  | false=>
   exact Z4 (Zg (Ym (Y8 (by show Q _ _; exact he▸k _ C.go))))
 cases r with
 | true=>
  exact Zg (Ym (Y8 (by show Q _ _; exact(hr rfl)▸k _ C.go)))
 | false=>
  exact Z4 fin
noncomputable def Dq(nb par tk:Zh):List (Option Zh):=[some nb,some par,some tk]
theorem Dk{x:Zo}{Q:Za}(h:Q (.bool false) s):Zp (model PW w) A (compareOp .IsNot (.ref x) (.ref x)) Q E s:=by
 show Zp _ A (do return .bool (!(<- isSame (.ref x) (.ref x)))) Q E s
 have e:isSame (.ref x) (.ref x)=pure true:=by unfold isSame; simp
 exact e▸Zf (Zm (Zm h))
theorem To{x:Zo}{ox:Xl}{Q:Za}(he:s.heap.get? x=some ox)(hnb:(ox.cls == .type "builtin_function_or_method")=false)(hq:Q ox.cls s):Zp (model PW w) A (call (.type "type") [.ref x]) Q E s:=by
 obtain ⟨h,g,d,t,os⟩:=s; exact call_type_obj he hnb hq
theorem Oh(G:Gl K H0 mg mb)(F:KF K a)(S:St H0 A l s){x dg y dy:Zo}{cg ck cv it kf tk key:Zh}{hk hv ht:Bool}{n:Int}{t:W7}
  (hx:Wy s.heap (x,io a.gb dg (VK cg ck cv hk hv ht it kf (.int n t) tk)))(hy:Wy s.heap (y,io a.gr dy []))(hne:x≠y)(hHx:H0.get? x=none)(hHy:H0.get? y=none)(hroom:A.depth<Zr){R:Zc}
  (k:∀ u s',Go H0 [x,y] s s'->Wy s'.heap (x,io a.gb dg (VK (.int (n+1) u) ck cv hk hv ht it kf (.int (n+1) u) tk))->Wy s'.heap (y,io a.gr dy (Dq (.int (n+1) u) (.ref x) key))->R (.ok (.ret .none)) s') :
  Yk (model PW w) A (.call (.ref a.grInit) ⟨[.ref y,.ref x,key],[]⟩) R s:=by
 refine Ub (binds:=[(Zj "self",.ref y),(Zj "parent",.ref x),(Zj "tgtkey",key)]) G S F.grInit [x,y] [(x,io a.gb dg (VK cg ck cv hk hv ht it kf (.int n t) tk)),(y,io a.gr dy [])] (λp hp=>?_) (by simp [hne]) hroom (λuu uu uu uu uu uu=>YG rfl) (by decide) (locs rfl) λL cdv s1 uu C=>?_
 ·rcases Z7.mp hp with rfl | hp
  ·exact hx
  ·exact(Zk.mp hp)▸hy
 refine Zg (Yv (Z8 (Xj (C.boot G F.ntype Boot.«type» (PySem.callWith_type rfl (Vx (Zq (C.name rfl (ZC (To (C.at 0 rfl) rfl (C.global G F.ngb (Dk (Zu ?_)))))))))))))
 refine Z4 ?_
 refine Zg (Zy (C.name rfl (C.setA G 1 rfl rfl F.gr F.gr1 (.inl (by exact .tail _ (.head _))) hHy (λs2 C2=>?_) (sl':=[none,some (.ref x)]) (he:=by kernel_rfl))))
 refine Zg (Zy (C2.name rfl (C2.setA G 1 rfl rfl F.gr F.gr2 (.inl (by exact .tail _ (.head _))) hHy (λs3 C3=>?_) (sl':=[none,some (.ref x),some key]) (he:=by kernel_rfl))))
 refine Zg (wpAny_AugAssign_AttributeAny (C3.name rfl (C3.getS G 0 rfl F.gb F.gb8 rfl rfl λs4 C4=>Zt (iadd_int ?_))))
 refine(C4.tok 2).setS G 0 rfl F.gb F.gb8 (.inl (by exact .head _)) hHx (λs6 C6=>?_) (sl':=VK cg ck cv hk hv ht it kf (.int (n+1) (s4.toks+1)) tk) (he:=by kernel_rfl)
 refine Zg (Zy (C6.attr G 0 rfl rfl F.gb F.gb8 rfl rfl λs7 C7=>C7.setA G 1 rfl rfl F.gr F.gr0 (.inl (by exact .tail _ (.head _))) hHy (λs8 C8=>?_) (sl':=Dq (.int (n+1) (s4.toks+1)) (.ref x) key) (he:=by kernel_rfl)))
 refine Zg (Zy (C8.attr G 0 rfl rfl F.gb F.gb8 rfl rfl λs9 C9=>C9.setA G 0 rfl rfl F.gb F.gb0 (.inl (by exact .head _)) hHx (λs10 C10=>?_) (sl':=VK (.int (n+1) (s4.toks+1)) ck cv hk hv ht it kf (.int (n+1) (s4.toks+1)) tk) (he:=by kernel_rfl)))
 exact Z4 (k _ s10 C10.go (C10.ok 0 rfl) (C10.ok 1 rfl))
theorem Zhl(G:Gl K H0 mg mb)(F:KF K a)(S:St H0 A l s){x dg:Zo}{cg ck cv it kf tk key:Zh}{hk hv ht:Bool}{n:Int}{t:W7}
  (hx:Wy s.heap (x,io a.gb dg (VK cg ck cv hk hv ht it kf (.int n t) tk)))(hHx:H0.get? x=none)(hroom:A.depth+1<Zr){R:Zc}
  (k:∀ y dy u s',Go H0 [x] s s'->Wy s'.heap (x,io a.gb dg (VK (.int (n+1) u) ck cv hk hv ht it kf (.int (n+1) u) tk))->Wy s'.heap (y,io a.gr dy (Dq (.int (n+1) u) (.ref x) key))->s.heap.get? y=none->s.heap.get? dy=none->R (.ok (.ret (.ref y))) s') :
  Yk (model PW w) A (.call (.ref a.gr) ⟨[.ref x,key],[]⟩) R s:=by
 refine S.make G F.gr F.mgrI λy dy s1 g1 oy ny ndy=>?_
 have hH:H0.get? y=none:=by
  cases q:H0.get? y with
  | none=>rfl
  | some o=>have:=S.glob _ _ q; exact Wu (ZF (ZR ny) this)
 refine Oh G F ((S.go g1).around (A':=A.under (.builtin "type.__call__" ⟨[.ref a.gr,.ref x,key],[]⟩)) rfl) (hx.go g1 (λh=>nomatch h)) oy (BX hx.at_ ny) hHx hH hroom λu s2 g2 ox2 oy2=>⟨rfl,?_⟩
 exact k y dy u s2 ((g1.mono (M':=[x]) YC).step g2 λp hp=>by
  rcases Z7.mp hp with rfl | hp
  ·exact .inl (.head _)
  ·exact(Zk.mp hp) ▸ .inr ny) ox2 oy2 ny ndy
theorem Tr(G:Gl K H0 mg mb)(F:KF K a)(S:St H0 A l s){x dg it lst:Zo}{i:Nat}{vs:List Zh}{ep:Nat}{cg ck cv kf se tk:Zh}{hk hv ht:Bool}
  (hx:Wy s.heap (x,io a.gb dg (VK cg ck cv hk hv ht (.ref it) kf se tk)))(hit:s.heap.get? it=some (WV lst i))(hl:s.heap.get? lst=some (ZD vs ep))(hHit:H0.get? it=none)(hi:vs[i]? = none)
  (hroom:A.depth+1<Zr)(hh:A.handled=none){R:Zc}
  (k:∀ e t s',VY H0 [it] s l e (.type "StopIteration") (.ref t) [(x,io a.gb dg (VK cg ck cv hk hv ht (.ref it) kf se tk)),(it,itE i),(lst,ZD vs ep)] s'->R (.error (.ref e)) s') :
  Yk (model PW w) A (.call (.ref a.gbStep) ⟨[.ref x],[]⟩) R s:=by
 have h2:x≠lst:=JB hx.at_ hl (by show ZS a.gb ≠ .type _; intro q; cases q)
 have h3:it≠lst:=JB hit hl (by show Ug "list_iterator" ≠ .type "list"; decide)
 refine Ub (binds:=[(Zj "self",.ref x)]) G S F.gbStep [it] [(x,io a.gb dg (VK cg ck cv hk hv ht (.ref it) kf se tk)),(it,WV lst i),(lst,ZD vs ep)] (λp hp=>?_) (by simp [(JB hx.at_ hit (by show ZS a.gb ≠ .type _; intro q; cases q)),h2,h3]) (ZO hroom) (λuu uu uu uu uu uu=>YG rfl) (by decide) (locs rfl) λL cdv s1 uu C=>?_
 ·rcases Z7.mp hp with rfl | hp
  ·exact hx
  rcases Z7.mp hp with rfl | hp
  ·exact VN hit
  ·exact(Zk.mp hp)▸VD hl
 refine Zg (Assign_Tuple (C.callFn G F.npull F.kpull (Zq (C.attr G 0 rfl rfl F.gb F.gb6 rfl rfl λs2 C2=>ZC ⟨C2.st.X G,?_⟩))))
 refine Zcv G F C2.st (C2.at 1 rfl) hHit (C2.at 2 rfl) hi hroom hh λt s3 g3 hit3 ht3 nt3=>?_
 have C3:=C2.callAtN 1 rfl g3 (.of hit3 Y5 rfl) (.inl (by exact .head _)) (Gx ht3) nt3
 refine C3.unpack2 0 rfl hh λs4 C4=>?_
 refine Zg (Yv (Xg (ZY (C4.name rfl (Zu ?_)))))
 refine Zg (owsi_raiseC hh (C4.boot G F.nstop Boot.«StopIteration» ⟨rfl,rfl⟩) λh' e hm=>?_)
 refine C4.raised (cls:=.type "StopIteration") ⟨hm.keeps,hm.new,hm.there⟩ rfl λt s5 F5 uu=>?_
 exact k e t s5 { F5 with ex:=by refine Gi F5.ex λB q1 q2 q3 q4 q5=>?_; exact⟨B,q1,q2,q3,q4,λp hp=>q5 p (.tail _ hp)⟩,has:=λp hp=>F5.has p (.tail _ hp) }
section
variable {s1:Zi}
theorem Ol(G:Gl K H0 mg mb)(F:KF K a)(S:St H0 A l s){x:Zo}(hroom:A.depth<Zr){Q:Za}(k:∀ s',Go H0 [] s s'->Q (.ref x) s'):Zp (model PW w) A (call (.ref a.gbIter) [.ref x]) Q E s:=by
 refine Y7 (Ub (binds:=[(Zj "self",.ref x)]) G S F.gbIter [] [] YC Un hroom (λuu uu uu uu uu uu=>YG rfl) (by decide) (locs rfl) λL cdv s1 uu C=>?_)
 exact Zg (Ym (C.name rfl (k _ C.go)))
theorem Og(G:Gl K H0 mg mb)(F:KF K a)(S:St H0 A l s){x:Zo}(hroom:A.depth<Zr){Q:Za}(k:∀ s',Go H0 [] s s'->Q (.ref x) s'):Zp (model PW w) A (call (.ref a.grIter) [.ref x]) Q E s:=by
 refine Y7 (Ub (binds:=[(Zj "self",.ref x)]) G S F.grIter [] [] YC Un hroom (λuu uu uu uu uu uu=>YG rfl) (by decide) (locs rfl) λL cdv s1 uu C=>?_)
 exact Zg (Ym (C.name rfl (k _ C.go)))
theorem O1(G:Gl K H0 mg mb)(F:KF K a)(S:St H0 A l s){x:Zo}(hroom:A.depth<Zr){Q:Za}(k:∀ s',Go H0 [] s s'->Q (.ref x) s'):Zp (model PW w) A (call (.ref a.ctIter) [.ref x]) Q E s:=by
 refine Y7 (Ub (binds:=[(Zj "self",.ref x)]) G S F.ctIter [] [] YC Un hroom (λuu uu uu uu uu uu=>YG rfl) (by decide) (locs rfl) λL cdv s1 uu C=>?_)
 exact Zg (Ym (C.name rfl (k _ C.go)))
theorem IL(G:Gl K H0 mg mb)(F:KF K a){x dg:Zo}{cg ck cv it kf tk:Zh}{hv ht:Bool}{n:Int}{t₀:W7}{led:Zd}
  (C:Cx H0 (A.deeper (Y0 "groupby.__next__" JI.2.2 L a.gbNext cdv)) (Y0 "groupby.__next__" JI.2.2 L a.gbNext cdv::l) M s L m ((x,io a.gb dg (VK cg ck cv true hv ht it kf (.int n t₀) tk))::led) s1)
  (hm:m "self"=some (.ref x))(hM:x∈M)(hHx:H0.get? x=none)(hck:Jk ck=true)(hroom:A.depth+2<Zr){Q:Zb}
  (k:∀ y dy t u s',Cx H0 (A.deeper (Y0 "groupby.__next__" JI.2.2 L a.gbNext cdv)) (Y0 "groupby.__next__" JI.2.2 L a.gbNext cdv::l) M s L (Jh m "grouper" (.ref y))
   ((t,XX [ck,.ref y])::(y,io a.gr dy (Dq (.int (n+1) u) (.ref x) ck))::(x,io a.gb dg (VK (.int (n+1) u) ck cv true hv true it kf (.int (n+1) u) ck))::led) s' ->
   s.heap.get? y=none->s.heap.get? dy=none->s.heap.get? t=none->Q (.ret (.ref t)) s') :
  Zp (model PW w) (A.deeper (Y0 "groupby.__next__" JI.2.2 L a.gbNext cdv)) (execs (JI.2.1.drop 2) (Y0 "groupby.__next__" JI.2.2 L a.gbNext cdv)) Q E s1:=by
 refine Zg (Zy (C.attr G 0 rfl hm F.gb F.gb1 rfl hck λs2 C2=>C2.setA G 0 rfl hm F.gb F.gb9 (.inl hM) hHx (λs3 C3=>?_) (sl':=VK cg ck cv true hv ht it kf (.int n t₀) ck) (he:=by kernel_rfl)))
 refine Zg (Zy (Y8 (C3.setA G 0 rfl hm F.gb F.gb5 (.inl hM) hHx (λs4 C4=>?_) (sl':=VK cg ck cv true hv true it kf (.int n t₀) ck) (he:=by kernel_rfl))))
 refine Zg (Zv (C4.callFn G F.ngr F.kgr (Zq (C4.name hm (Zq (C4.attr G 0 rfl hm F.gb F.gb9 rfl hck λs5 C5=>ZC ⟨C5.st.X G,?_⟩))))))
 refine Y7 (Zhl G F C5.st (C5.ok 0 rfl) hHx hroom λy dy u s6 g6 ox6 oy6 ny ndy=>?_)
 refine(C5.callAtN 0 rfl g6 ox6 (.inl hM) oy6 ny (hd:=λdx q=>by obtain rfl:=Zz q; exact ndy)).set λs7 C7=>?_
 refine Zg (Ym (U7 (Zq (C7.attr G 1 rfl ((if_neg (by decide)).trans hm) F.gb F.gb1 rfl hck λs8 C8=>Zq (C8.name rfl (ZC ⟨_,_,_,_,_,_,_,_,C8,by simp [ZW],λt s9 C9 n1 n2=>?_⟩))))))
 exact k y dy t u s9 C9 (C5.noE ny).e (C5.noE ndy).e n1.e
theorem Oi(G:Gl K H0 mg mb)(F:KF K a)(S:St H0 A l s)(κ:We){x dg:Zo}{cg ck cv it kf tk:Zh}{hv:Bool}{n:Int}{t₀:W7}{led:Zd}
  (hled:∀ p∈(x,io a.gb dg (VK cg ck cv true hv true it kf (.int n t₀) tk))::led,Wy s.heap p)(hnod:(((x,io a.gb dg (VK cg ck cv true hv true it kf (.int n t₀) tk))::led).map (λuu=>uu.1)).Nodup)(hHx:H0.get? x=none)
  (hpk:κ.P ck)(hpt:κ.P tk)(h1:U0 ck≠0)(h2:U0 tk≠0)(htok:U0 tk=U0 ck->κ.eq tk ck=true)(hne:κ.eq tk ck=false)(hd:Jk ck=true)(hd':Jk tk=true)
  (hroom:A.depth+2<Zr){R:Zc}
  (k:∀ y dy t u s',Go H0 [x] s s'->Wy s'.heap (x,io a.gb dg (VK (.int (n+1) u) ck cv true hv true it kf (.int (n+1) u) ck))->Wy s'.heap (y,io a.gr dy (Dq (.int (n+1) u) (.ref x) ck))->Wy s'.heap (t,XX [ck,.ref y])->(∀ p∈led,Wy s'.heap p) ->
   s.heap.get? y=none->s.heap.get? dy=none->s.heap.get? t=none->y≠t->R (.ok (.ret (.ref t))) s') :
  Yk (model PW w) A (.call (.ref a.gbNext) ⟨[.ref x],[]⟩) R s:=by
 refine Ub (binds:=[(Zj "self",.ref x)]) G S F.gbNext [x] _ hled hnod (ZO (ZO hroom)) (λuu uu uu uu uu uu=>YG rfl) (by decide) (locs rfl) λL cdv s1 uu C=>?_
 refine Zg (Zy (Zt ((C.tok 1).setA G 0 rfl rfl F.gb F.gb0 (.inl (by exact .head _)) hHx (λs2 C2=>?_) (sl':=VK (.int 0 s1.toks) ck cv true hv true it kf (.int n t₀) tk) (he:=by kernel_rfl))))
 refine Zg (Gv (JJ (λn' s'=>n'=0/\s'=s2) (λn' s' hI=>?_) 0 ⟨rfl,rfl⟩))
 obtain ⟨-,rfl⟩:=hI
 refine ZY (Y8 (Zu ?_))
 refine YV rfl ?_
 refine Zg (Yv (ZY (C2.attr G 0 rfl rfl F.gb F.gb3 rfl rfl λs3 C3=>Zu ?_)))
 refine YV rfl ?_
 refine Zg (Yv (Xg (ZY (C3.attr G 0 rfl rfl F.gb F.gb5 rfl rfl λs4 C4=>Zu ?_))))
 refine Z4 ?_
 refine Zg (Yv (Xg (ZY (C4.callFn G F.nsame F.ksame (Zq (C4.attr G 0 rfl rfl F.gb F.gb9 rfl hd' λs5 C5=>Zq (C5.attr G 0 rfl rfl F.gb F.gb1 rfl hd λs6 C6=>ZC ⟨C6.st.X G,?_⟩)))))))
 refine Ii G C6.st F.same κ hpt hpk h2 h1 htok (ZO hroom) λs7 g7=>Zu ?_
 rw [hne]
 refine Zg (wpAny_Break ?_)
 refine IL G F (C6.call g7) rfl (.head _) hHx hd hroom λy dy t u s8 C8 ny ndy nt=>?_
 exact k y dy t u s8 C8.go (C8.ok 2 rfl) (C8.ok 1 rfl) (C8.ok 0 rfl) (λp hp=>C8.has p (.tail _ (.tail _ (.tail _ hp)))) ny ndy nt (C8.ne (i:=1) (j:=0) rfl rfl)
end
section
variable {s1:Zi}
theorem NH(G:Gl K H0 mg mb)(F:KF K a)(S:St H0 A l s){x dg it lst ig di tp r:Zo}{i:Nat}{vs:List Zh}{ep:Nat}{key:Zh}{rest:List Zh}{u:W7}{cg ck cv tk:Zh}{hv:Bool}{n:Int}{t₀:W7}
  (Z:Zif K a H0 s.heap x dg it lst ig di tp r i vs ep key rest u (VK cg ck cv false hv false (.ref it) (.ref ig) (.int n t₀) tk))(hd:Jk key=true)
  (hroom:A.depth+3<Zr)(hh:A.handled=none){R:Zc}
  (k:∀ y dy t u' s',Go H0 [x,it] s s'->Wy s'.heap (x,io a.gb dg (VK (.int (n+1) u') key (.ref r) true true true (.ref it) (.ref ig) (.int (n+1) u') key))->s'.heap.get? it=some (WV lst (i+1)) ->
   Wy s'.heap (y,io a.gr dy (Dq (.int (n+1) u') (.ref x) key))->Wy s'.heap (t,XX [key,.ref y]) ->
   s.heap.get? y=none->s.heap.get? dy=none->s.heap.get? t=none->y≠t->R (.ok (.ret (.ref t))) s') :
  Yk (model PW w) A (.call (.ref a.gbNext) ⟨[.ref x],[]⟩) R s:=by
 refine Ub (binds:=[(Zj "self",.ref x)]) G S F.gbNext [x,it] _ Z.has Z.nodup (ZO (ZO (ZO hroom))) (λuu uu uu uu uu uu=>YG rfl) (by decide) (locs rfl) λL cdv s1 uu C=>?_
 refine Zg (Zy (Zt ((C.tok 1).setA G 0 rfl rfl F.gb F.gb0 (.inl (by exact .head _)) Z.hx (λs2 C2=>?_) (sl':=VK (.int 0 s1.toks) ck cv false hv false (.ref it) (.ref ig) (.int n t₀) tk) (he:=by kernel_rfl))))
 refine Zg (Gv (JJ (λn' s'=>(n'=1/\s'=s2)\/(n'=0/\Cx H0 (A.deeper (Y0 "groupby.__next__" JI.2.2 L a.gbNext cdv)) (Y0 "groupby.__next__" JI.2.2 L a.gbNext cdv::l) [x,it] s L (λz=>([(Zj "self",ZS x)]:List (Yz×Zh)).reverse.lookup z)
  [(x,io a.gb dg (VK (.int 0 s1.toks) key (.ref r) true true false (.ref it) (.ref ig) (.int n t₀) tk)),(it,WV lst (i+1)),(lst,ZD vs ep),(ig,io a.ig di [some (.ref tp)]),(tp,XX [.int 0 u]),(r,XX (key::rest))] s')) (λn' s' hI=>?_) 1 (.inl ⟨rfl,rfl⟩)))
 rcases hI with ⟨rfl,rfl⟩ | ⟨rfl,C2⟩
 ·refine ZY (Y8 (Zu ?_))
  refine YV rfl ?_
  refine Zg (Yv (ZY (C2.attr G 0 rfl rfl F.gb F.gb3 rfl rfl λs3 C3=>Zu ?_)))
  refine Y6 (by decide) ?_
  refine Z4 ?_
  refine Zg (wpAny_Expr (C3.callMeth0 G 0 rfl rfl F.gb F.mgbS (Y7 ?_)))
  refine F7 G F C3.st (vs:=vs) ⟨C3.has,Z.nodup,Z.hx,Z.hit,Z.row⟩ (ZO hroom) hh λs4 g4 ox4 hit4=>?_
  exact Z4 ⟨0,Nat.zero_lt_one,.inr ⟨rfl,(C3.callAt2 0 1 rfl rfl (by decide) g4 ox4 (VN hit4) (λp hp=>.inl hp) rfl rfl)⟩⟩
 ·refine ZY (Y8 (Zu ?_))
  first | refine YV rfl ?_ | refine YT rfl ?_ | rw [if_pos rfl]
  refine Zg (Yv (ZY (C2.attr G 0 rfl rfl F.gb F.gb3 rfl rfl λs3 C3=>Zu ?_)))
  refine YV rfl ?_
  refine Zg (Yv (Xg (ZY (C3.attr G 0 rfl rfl F.gb F.gb5 rfl rfl λs4 C4=>Zu ?_))))
  refine Zg (wpAny_Break ?_)
  refine IL G F C4 rfl (.head _) Z.hx hd (ZO hroom) λy dy t u' s8 C8 ny ndy nt=>?_
  exact k y dy t u' s8 C8.go (C8.ok 2 rfl) (C8.at 3 rfl) (C8.ok 1 rfl) (C8.ok 0 rfl) ny ndy nt (C8.ne (i:=1) (j:=0) rfl rfl)
theorem Dv(G:Gl K H0 mg mb)(F:KF K a)(S:St H0 A l s){x dg it lst:Zo}{i:Nat}{vs:List Zh}{ep:Nat}{cg ck cv kf tk:Zh}{hv ht:Bool}{se:Zh}
  (hx:Wy s.heap (x,io a.gb dg (VK cg ck cv false hv ht (.ref it) kf se tk)))(hit:s.heap.get? it=some (WV lst i))(hl:s.heap.get? lst=some (ZD vs ep))(hHx:H0.get? x=none)(hHit:H0.get? it=none)(hi:vs[i]? = none)
  (hroom:A.depth+2<Zr)(hh:A.handled=none){R:Zc}
  (k:∀ e t s',VY H0 [x,it] s l e (.type "StopIteration") (.ref t) [(lst,ZD vs ep)] s'->R (.error (.ref e)) s') :
  Yk (model PW w) A (.call (.ref a.gbNext) ⟨[.ref x],[]⟩) R s:=by
 have h2:x≠lst:=JB hx.at_ hl (by show ZS a.gb ≠ .type _; intro q; cases q)
 have h3:it≠lst:=JB hit hl (by show Ug "list_iterator" ≠ .type "list"; decide)
 refine Ub (binds:=[(Zj "self",.ref x)]) G S F.gbNext [x,it] [(x,io a.gb dg (VK cg ck cv false hv ht (.ref it) kf se tk)),(it,WV lst i),(lst,ZD vs ep)] (λp hp=>?_) (by simp [(JB hx.at_ hit (by show ZS a.gb ≠ .type _; intro q; cases q)),h2,h3]) (ZO (ZO hroom)) (λuu uu uu uu uu uu=>YG rfl) (by decide) (locs rfl) λL cdv s1 uu C=>?_
 ·rcases Z7.mp hp with rfl | hp
  ·exact hx
  rcases Z7.mp hp with rfl | hp
  ·exact VN hit
  ·exact(Zk.mp hp)▸VD hl
 refine Zg (Zy (Zt ((C.tok 1).setA G 0 rfl rfl F.gb F.gb0 (.inl (by exact .head _)) hHx (λs2 C2=>?_) (sl':=VK (.int 0 s1.toks) ck cv false hv ht (.ref it) kf se tk) (he:=by kernel_rfl))))
 refine Zg (Gv (JJ (λn' s'=>n'=0/\s'=s2) (λn' s' hI=>?_) 0 ⟨rfl,rfl⟩))
 obtain ⟨-,rfl⟩:=hI
 refine ZY (Y8 (Zu ?_))
 refine YV rfl ?_
 refine wpAny_passesOwn PassesOwn.leaving ?_
 refine Zg (Yv (ZY (C2.attr G 0 rfl rfl F.gb F.gb3 rfl rfl λs3 C3=>Zu ?_)))
 refine Y6 (by decide) ?_
 refine Z4 ?_
 refine Zg (wpAny_Expr (C3.callMeth0 G 0 rfl rfl F.gb F.mgbS (Y7 ?_)))
 refine Tr G F C3.st (C3.ok 0 rfl) (C3.at 1 rfl) (C3.at 2 rfl) hHit hi hroom hh λe t s4 F4=>?_
 have F5:=(F4.lift C3.go (λp hp=>.inl (.tail _ hp))).with [(lst,ZD vs ep)] (λp hp=>.inl (.tail _ (.tail _ hp)))
 exact F5.leave C3.st.frames rfl λs5 F6=>k e t s5 F6
end
section
variable {s1:Zi}
theorem IK(G:Gl K H0 mg mb)(F:KF K a){x dg:Zo}{cg ck cv it kf se tk:Zh}{hk hv ht:Bool}{led:Zd}
  (C:Cx H0 (A.deeper (Y0 "_grouper.__next__" Vp.2.2 L a.grNext cdv)) (Y0 "_grouper.__next__" Vp.2.2 L a.grNext cdv::l) M s L m ((x,io a.gb dg (VK cg ck cv hk hv ht it kf se tk))::led) s1)
  (hm:m "gbo"=some (.ref x))(hM:x∈M)(hHx:H0.get? x=none)(hcv:Jk cv=true){Q:Zb}
  (k:∀ s',Cx H0 (A.deeper (Y0 "_grouper.__next__" Vp.2.2 L a.grNext cdv)) (Y0 "_grouper.__next__" Vp.2.2 L a.grNext cdv::l) M s L (Jh m "r" cv)
   ((x,io a.gb dg (VK cg .none .none false false ht it kf se tk))::led) s'->Q (.ret cv) s') :
  Zp (model PW w) (A.deeper (Y0 "_grouper.__next__" Vp.2.2 L a.grNext cdv)) (execs (Vp.2.1.drop 4) (Y0 "_grouper.__next__" Vp.2.2 L a.grNext cdv)) Q E s1:=by
 refine Zg (Zv (C.attr G 0 rfl hm F.gb F.gb2 rfl hcv λs2 C2=>C2.set λs3 C3=>?_))
 have hm3:(Jh m (Zj "r") cv) "gbo"=some (.ref x):=(if_neg (by decide)).trans hm
 refine Zg (Zy (Wm (C3.setA G 0 rfl hm3 F.gb F.gb2 (.inl hM) hHx (λs4 C4=>?_) (sl':=VK cg ck .none hk hv ht it kf se tk) (he:=by kernel_rfl))))
 refine Zg (Zy (Y8 (C4.setA G 0 rfl hm3 F.gb F.gb4 (.inl hM) hHx (λs5 C5=>?_) (sl':=VK cg ck .none hk false ht it kf se tk) (he:=by kernel_rfl))))
 refine Zg (Zy (Wm (C5.setA G 0 rfl hm3 F.gb F.gb1 (.inl hM) hHx (λs6 C6=>?_) (sl':=VK cg .none .none hk false ht it kf se tk) (he:=by kernel_rfl))))
 refine Zg (Zy (Y8 (C6.setA G 0 rfl hm3 F.gb F.gb3 (.inl hM) hHx (λs7 C7=>?_) (sl':=VK cg .none .none false false ht it kf se tk) (he:=by kernel_rfl))))
 exact Zg (Ym (C7.name rfl (k s7 C7)))
theorem Dr(G:Gl K H0 mg mb)(F:KF K a)(S:St H0 A l s)(κ:We){x dg y dy:Zo}{ck cv it kf se tk key:Zh}{hk ht:Bool}{n:Int}{t₁ t₂:W7}
  (hx:Wy s.heap (x,io a.gb dg (VK (.int n t₁) ck cv hk true ht it kf se tk)))(hy:Wy s.heap (y,io a.gr dy (Dq (.int n t₂) (.ref x) key)))(hxy:x≠y)(hHx:H0.get? x=none)
  (hpk:κ.P key)(hpt:κ.P ck)(h1:U0 key≠0)(h2:U0 ck≠0)(hee:κ.eq key ck=true)(hd:Jk ck=true)(hd':Jk key=true)(hcv:Jk cv=true)
  (hroom:A.depth+2<Zr){R:Zc}
  (k:∀ s',Go H0 [x] s s'->Wy s'.heap (x,io a.gb dg (VK (.int n t₁) .none .none false false ht it kf se tk))->R (.ok (.ret cv)) s') :
  Yk (model PW w) A (.call (.ref a.grNext) ⟨[.ref y],[]⟩) R s:=by
 refine Ub (binds:=[(Zj "self",.ref y)]) G S F.grNext [x] [(x,io a.gb dg (VK (.int n t₁) ck cv hk true ht it kf se tk)),(y,io a.gr dy (Dq (.int n t₂) (.ref x) key))] (λp hp=>?_) (by simp [hxy]) (ZO (ZO hroom)) (λuu uu uu uu uu uu=>YG rfl) (by decide) (locs rfl) λL cdv s1 uu C=>?_
 ·rcases Z7.mp hp with rfl | hp
  ·exact hx
  ·exact(Zk.mp hp)▸hy
 refine Zg (Zv (C.attr G 1 rfl rfl F.gr F.gr1 rfl rfl λs2 C2=>C2.set λs3 C3=>?_))
 refine Zg (Yv (Z8 (C3.attr G 0 rfl rfl F.gb F.gb0 rfl rfl λs4 C4=>C4.attr G 1 rfl rfl F.gr F.gr0 rfl rfl λs5 C5=>PyProof.Rows.ne_int (Zu ?_))))
 simp only [bne_self_eq_false,UH,if_false]
 refine Z4 ?_
 refine Zg (Yv (Xg (ZY (C5.attr G 0 rfl rfl F.gb F.gb4 rfl rfl λs6 C6=>Zu ?_))))
 refine Z4 ?_
 refine Zg (Yv (Xg (ZY (C6.callFn G F.nsame F.ksame (Zq (C6.attr G 1 rfl rfl F.gr F.gr2 rfl hd' λs7 C7=>Zq (C7.attr G 0 rfl rfl F.gb F.gb1 rfl hd λs8 C8=>ZC ⟨C8.st.X G,?_⟩)))))))
 refine Ii G C8.st F.same κ hpk hpt h1 h2 (λuu=>hee) (ZO hroom) λs9 g9=>Zu ?_
 rw [hee]
 refine Z4 ?_
 refine IK G F (C8.call g9) rfl (.head _) hHx hcv λs10 C10=>k s10 C10.go (C10.ok 0 rfl)
theorem Of(G:Gl K H0 mg mb)(F:KF K a)(S:St H0 A l s)(κ:We){x dg y dy it lst ig di tp r:Zo}{i:Nat}{vs:List Zh}{ep:Nat}{k₂:Zh}{rest:List Zh}{u:W7}{ck cv se tk key:Zh}{hk ht:Bool}{n:Int}{t₁ t₂:W7}
  (Z:Zif K a H0 s.heap x dg it lst ig di tp r i vs ep k₂ rest u (VK (.int n t₁) ck cv hk false ht (.ref it) (.ref ig) se tk))(hy:Wy s.heap (y,io a.gr dy (Dq (.int n t₂) (.ref x) key)))(hxy:∀ q∈[x,it,lst,ig,tp,r],q≠y)
  (hpk:κ.P key)(hpt:κ.P k₂)(h1:U0 key≠0)(h2:U0 k₂≠0)(htok:U0 key=U0 k₂->κ.eq key k₂=true)(hd:Jk k₂=true)(hd':Jk key=true)
  (hroom:A.depth+3<Zr)(hh:A.handled=none){R:Zc}
  (k1:κ.eq key k₂=true->∀ s',Go H0 [x,it] s s'->Wy s'.heap (x,io a.gb dg (VK (.int n t₁) .none .none false false ht (.ref it) (.ref ig) se tk))->s'.heap.get? it=some (WV lst (i+1))->R (.ok (.ret (.ref r))) s')
  (k2:κ.eq key k₂=false->∀ e t s',VY H0 [x,it] s l e (.type "StopIteration") (.ref t) [(x,io a.gb dg (VK (.int n t₁) k₂ (.ref r) true true ht (.ref it) (.ref ig) se tk)),(it,WV lst (i+1))] s'->R (.error (.ref e)) s') :
  Yk (model PW w) A (.call (.ref a.grNext) ⟨[.ref y],[]⟩) R s:=by
 refine Ub (binds:=[(Zj "self",.ref y)]) G S F.grNext [x,it] ([(x,io a.gb dg (VK (.int n t₁) ck cv hk false ht (.ref it) (.ref ig) se tk)),(it,WV lst i),(lst,ZD vs ep),(ig,io a.ig di [some (.ref tp)]),(tp,XX [.int 0 u]),(r,XX (k₂::rest)),(y,io a.gr dy (Dq (.int n t₂) (.ref x) key))]) (λp hp=>?_) ?_ (ZO (ZO (ZO hroom))) (λuu uu uu uu uu uu=>YG rfl) (by decide) (locs rfl) λL cdv s1 uu C=>?_
 ·rcases Xn.mp (show p∈[(x,io a.gb dg (VK (.int n t₁) ck cv hk false ht (.ref it) (.ref ig) se tk)),(it,WV lst i),(lst,ZD vs ep),(ig,io a.ig di [some (.ref tp)]),(tp,XX [.int 0 u]),(r,XX (k₂::rest))]++[(y,io a.gr dy (Dq (.int n t₂) (.ref x) key))] from hp) with hp | hp
  ·exact Z.has p hp
  ·exact(Zk.mp hp)▸hy
 ·show([x,it,lst,ig,tp,r]++[y]).Nodup
  exact List.nodup_append.mpr ⟨Z.nodup,by exact nd1,λp hp q hq=>by exact(Zk.mp hq)▸hxy p hp⟩
 refine Zg (Zv (C.attr G 6 rfl rfl F.gr F.gr1 rfl rfl λs2 C2=>C2.set λs3 C3=>?_))
 refine Zg (Yv (Z8 (C3.attr G 0 rfl rfl F.gb F.gb0 rfl rfl λs4 C4=>C4.attr G 6 rfl rfl F.gr F.gr0 rfl rfl λs5 C5=>PyProof.Rows.ne_int (Zu ?_))))
 simp only [bne_self_eq_false,UH,if_false]
 refine Z4 ?_
 refine Zg (Yv (Xg (ZY (C5.attr G 0 rfl rfl F.gb F.gb4 rfl rfl λs6 C6=>Zu ?_))))
 refine Zg (wpAny_Expr (C6.callMeth0 G 0 rfl rfl F.gb F.mgbS (Y7 ?_)))
 refine F7 G F C6.st (vs:=vs) ⟨λp hp=>C6.has p (X8 [(y,io a.gr dy (Dq (.int n t₂) (.ref x) key))] hp),Z.nodup,Z.hx,Z.hit,Z.row⟩ (ZO hroom) hh λs7 g7 ox7 hit7=>?_
 have C7:=C6.callAt2 0 1 rfl rfl (by decide) g7 ox7 (VN hit7) (λp hp=>.inl hp) rfl rfl
 refine Z4 ?_
 refine Zg (Yv (Xg (ZY (C7.callFn G F.nsame F.ksame (Zq (C7.attr G 6 rfl rfl F.gr F.gr2 rfl hd' λs7 C7=>Zq (C7.attr G 0 rfl rfl F.gb F.gb1 rfl hd λs8 C8=>ZC ⟨C8.st.X G,?_⟩)))))))
 refine Ii G C8.st F.same κ hpk hpt h1 h2 htok (ZO (ZO hroom)) λs9 g9=>Zu ?_
 have C9:=C8.call g9
 cases he:κ.eq key k₂ with
 | true=>
  refine Z4 ?_
  refine IK G F C9 rfl (.head _) Z.hx rfl λs10 C10=>k1 he s10 C10.go (C10.ok 0 rfl) (C10.at 1 rfl)
 | false=>
  refine Zg (owsi_raiseC hh (C9.boot G F.nstop Boot.«StopIteration» ⟨rfl,rfl⟩) λh' e hm=>?_)
  refine C9.raised (cls:=.type "StopIteration") ⟨hm.keeps,hm.new,hm.there⟩ rfl λt s5 F5 uu=>?_
  refine k2 he e t s5 (F5.with _ λp hp=>.inl ?_)
  rcases Z7.mp hp with rfl | hp
  ·exact .head _
  ·exact(Zk.mp hp) ▸ .tail _ (.head _)
theorem Ds(G:Gl K H0 mg mb)(F:KF K a)(S:St H0 A l s){x dg y dy it lst:Zo}{i:Nat}{vs:List Zh}{ep:Nat}{ck cv kf se tk key:Zh}{hk ht:Bool}{n:Int}{t₁ t₂:W7}
  (hx:Wy s.heap (x,io a.gb dg (VK (.int n t₁) ck cv hk false ht (.ref it) kf se tk)))(hit:s.heap.get? it=some (WV lst i))(hl:s.heap.get? lst=some (ZD vs ep))(hy:Wy s.heap (y,io a.gr dy (Dq (.int n t₂) (.ref x) key)))(hxy:x≠y)(hHit:H0.get? it=none)(hi:vs[i]? = none)
  (hroom:A.depth+2<Zr)(hh:A.handled=none){R:Zc}
  (k:∀ e t s',VY H0 [it] s l e (.type "StopIteration") (.ref t) [(it,itE i)] s'->R (.error (.ref e)) s') :
  Yk (model PW w) A (.call (.ref a.grNext) ⟨[.ref y],[]⟩) R s:=by
 have h2:x≠lst:=JB hx.at_ hl (by show ZS a.gb ≠ .type _; intro q; cases q)
 have h3:it≠lst:=JB hit hl (by show Ug "list_iterator" ≠ .type "list"; decide)
 have h4:y≠it:=JB hy.at_ hit (by show ZS a.gr ≠ .type _; intro q; cases q)
 have h5:y≠lst:=JB hy.at_ hl (by show ZS a.gr ≠ .type _; intro q; cases q)
 refine Ub (binds:=[(Zj "self",.ref y)]) G S F.grNext [it] [(x,io a.gb dg (VK (.int n t₁) ck cv hk false ht (.ref it) kf se tk)),(it,WV lst i),(lst,ZD vs ep),(y,io a.gr dy (Dq (.int n t₂) (.ref x) key))] (λp hp=>?_) (by simp [(JB hx.at_ hit (by show ZS a.gb ≠ .type _; intro q; cases q)),h2,h3,hxy,h4.symm,h5.symm]) (ZO (ZO hroom)) (λuu uu uu uu uu uu=>YG rfl) (by decide) (locs rfl) λL cdv s1 uu C=>?_
 ·rcases Z7.mp hp with rfl | hp
  ·exact hx
  rcases Z7.mp hp with rfl | hp
  ·exact VN hit
  rcases Z7.mp hp with rfl | hp
  ·exact VD hl
  ·exact(Zk.mp hp)▸hy
 refine Zg (Zv (C.attr G 3 rfl rfl F.gr F.gr1 rfl rfl λs2 C2=>C2.set λs3 C3=>?_))
 refine Zg (Yv (Z8 (C3.attr G 0 rfl rfl F.gb F.gb0 rfl rfl λs4 C4=>C4.attr G 3 rfl rfl F.gr F.gr0 rfl rfl λs5 C5=>PyProof.Rows.ne_int (Zu ?_))))
 simp only [bne_self_eq_false,UH,if_false]
 refine Z4 ?_
 refine Zg (Yv (Xg (ZY (C5.attr G 0 rfl rfl F.gb F.gb4 rfl rfl λs6 C6=>Zu ?_))))
 refine Zg (wpAny_Expr (C6.callMeth0 G 0 rfl rfl F.gb F.mgbS (Y7 ?_)))
 refine Tr G F C6.st (C6.ok 0 rfl) (C6.at 1 rfl) (C6.at 2 rfl) hHit hi hroom hh λe t s4 F4=>?_
 have F5:=(F4.lift C6.go (λp hp=>.inl hp)).with [(it,itE i)] (λp hp=>.inl (.tail _ (by exact(Zk.mp hp) ▸ .head _)))
 exact F5.leave C6.st.frames rfl λs5 F6=>k e t s5 F6
end
theorem Kq{M:XJ}{A:YE}{E:Za}{s:Zi}{c:Code}{Q:Za}(hc:Yk M A c (TM Q E) s):Zp M A (runValue c) Q E s:=PySem.wpAny_runValue hc
theorem Wq{w:Um}{A:YE}{s:Zi}{R:Zc}{id:String}{args:Args}{b:Builtin}(hb:entryFor table id=some b)(hp:plainId id=true)(h:Zp (model PW w) A.in1 (b args) (qFin w A R) (NN R) s):Yk (model PW w) A (.builtin id args) R s :=
 VZ hb (by exact(YE.under_plainId hp _)▸h)
structure Lg (h:Xx)(led:Zd):Prop where
 has:∀ p∈led,Wy h p
 nodup:(led.map (λuu=>uu.1)).Nodup
theorem Lg.at(C:Lg s.heap led)(i:Nat){a:Zo}{o:Xl}(h:led[i]? = some (a,o)):s.heap.get? a=some o:=(C.has _ (ZG h)).at_
theorem Lg.ok(C:Lg s.heap led)(i:Nat){a:Zo}{o:Xl}(h:led[i]? = some (a,o)):Wy s.heap (a,o):=C.has _ (ZG h)
theorem Lg.go(C:Lg s.heap led)(G:Go H0 [] s s'):Lg s'.heap led:=⟨λp hp=>(C.has p hp).go G (λh=>nomatch h),C.nodup⟩
theorem Lg.perm(C:Lg s.heap led){led':Zd}(h:led'.Perm led):Lg s.heap led':=⟨λp hp=>C.has p (h.subset hp),(h.map _).nodup_iff.mpr C.nodup⟩
theorem Lg.turn(C:Lg s.heap led)(G:Go H0 M s s')(led':Zd)(hs:led'.map (λuu=>uu.1)=led.map (λuu=>uu.1))(h:∀ p∈led',(p∈led/\p.1∉M)\/Wy s'.heap p):Lg s'.heap led' :=
 ⟨λp hp=>(h p hp).elim (λq=>(C.has p q.1).go G q.2) id,by exact hs▸C.nodup⟩
theorem Lg.turn1(C:Lg s.heap led)(i:Nat){x:Zo}{ox ox':Xl}(hi:led[i]? = some (x,ox))(G:Go H0 [x] s s')(hox:Wy s'.heap (x,ox')):Lg s'.heap (led.set i (x,ox')):=by
 refine C.turn G _ (XO hi) λp hp=>?_
 exact(BE C.nodup hi hp).elim (λe=>.inr (e▸hox)) λq=>.inl ⟨q.1,λz=>q.2 (Zk.mp z)⟩
theorem Lg.turn2(C:Lg s.heap led)(i j:Nat){x y:Zo}{ox oy ox' oy':Xl}(hi:led[i]? = some (x,ox))(hj:led[j]? = some (y,oy))(hij:i≠j)(G:Go H0 [x,y] s s')(hox:Wy s'.heap (x,ox'))(hoy:Wy s'.heap (y,oy')) :
  Lg s'.heap ((led.set i (x,ox')).set j (y,oy')):=by
 refine C.turn G _ (by rw [XO (by exact ZF (XZ hij) (hj)),XO hi]) λp hp=>?_
 refine(BE (by rw [XO hi]; exact C.nodup) ((XZ hij).trans hj) hp).elim (λe=>.inr (e▸hoy)) λq=>?_
 exact(BE C.nodup hi q.1).elim (λe=>.inr (e▸hox)) λr=>.inl ⟨r.1,λz=>(Z7.mp z).elim r.2 λz=>q.2 (Zk.mp z)⟩
theorem Lg.add(C:Lg s.heap led){a:Zo}{o:Xl}(h:Wy s.heap (a,o))(hd:∀ p∈led,p.1≠a):Lg s.heap ((a,o)::led):=by
 refine⟨λp hp=>(Z7.mp hp).elim (λe=>by exact e▸h) (C.has p),?_⟩
 rw [YD]
 refine XT.mpr ⟨λhm=>?_,C.nodup⟩
 refine XW (ZZ.mp hm) λp hp e=>?_
 exact hd p hp e
theorem Lg.sub(C:Lg s.heap led){led':Zd}(h:led'.Sublist led):Lg s.heap led':=⟨λp hp=>C.has p (h.subset hp),C.nodup.sublist (h.map _)⟩
theorem Lg.upd(C:Lg s.heap led)(i:Nat){a:Zo}{o:Xl}{f:Xl->Xl}(hi:led[i]? = some (a,o))(hf:(f o).isFreed=false)(hn:nd (f o))(hd:(f o).dict=o.dict)(hH:H0.get? a=none) :
  Go H0 [a] s { s with heap:=s.heap.update a f }/\Lg (s.heap.update a f) (led.set i (a,f o)):=by
 have G:Go H0 [a] s { s with heap:=s.heap.update a f }:=.upd o (C.at i hi) (C.ok i hi).nd hf hn hH
 exact⟨G,C.turn1 i hi G ⟨YS f (C.at i hi) hf,hn,λdx e=>((C.ok i hi).dx dx (hd▸e)).go G⟩⟩
theorem Lg.setF(C:Lg s.heap led)(i j:Nat){a:Zo}{o:Xl}{vs:Array Zh}{v:Zh}{Q:Unit->Zi->Prop}(hi:led[i]? = some (a,o))(hd:o.data = .fields vs)(hj:j<vs.size)(hdx:(ZP (·.setIfInBounds j v) o).dict=o.dict)(hH:H0.get? a=none)
  (k:∀ s1,Go H0 [a] s s1->Lg s1.heap (led.set i (a,ZP (·.setIfInBounds j v) o))->Q () s1):Zp MM A (setField (.ref a) j v) Q E s:=by
 have h:=C.upd (H0:=H0) (s:=s) i (f:=ZP (·.setIfInBounds j v)) hi (Obj.isFreed_of_fields (Obj.data_mapFields hd _)) (λes n e=>by rw [Obj.data_mapFields hd] at e; cases e) hdx hH
 exact XY (C.at i hi) hd hj (k _ h.1 h.2)
theorem Lg.setS(C:Lg s.heap led)(i j:Nat){a:Zo}{o:Xl}{vs:Array Zh}{n:Nat}{v:Zh}{Q:Unit->Zi->Prop}(hi:led[i]? = some (a,o))(hd:o.data = .seq vs n)(hz:vs.size<=sizeLine)(hf:(Yb (·.setIfInBounds j v) o).isFreed=false)(hn:nd (Yb (·.setIfInBounds j v) o))
  (hdx:(Yb (·.setIfInBounds j v) o).dict=o.dict)(hH:H0.get? a=none)
  (k:∀ s1,Go H0 [a] s s1->Lg s1.heap (led.set i (a,Yb (·.setIfInBounds j v) o))->Q () s1):Zp MM A (updateSeq a (·.setIfInBounds j v)) Q E s:=by
 have h:=C.upd (H0:=H0) (s:=s) i (f:=Yb (·.setIfInBounds j v)) hi hf hn hdx hH
 exact JW (C.at i hi) hd (k _ h.1 h.2) hz (by exact ZR Array.size_setIfInBounds▸Nat.le_succ_of_le hz)
theorem Lg.push(C:Lg s.heap led){o:Xl}{P:Zo->Zi->Prop}(hn:nd o)(hd:o.dict=none)(hf:o.isFreed=false)(k:∀ a s1,Go H0 [] s s1->Lg s1.heap ((a,o)::led)->s.heap.get? a=none->P a s1):P s.heap.objs.size { s with heap:=s.heap.push o }:=by
 have n1:s.heap.get? s.heap.objs.size=none:=XC
 have g:Go H0 [] s { s with heap:=s.heap.push o }:=Go.push _
 exact k _ _ g ((C.go g).add (s:={ s with heap:=s.heap.push o }) (.of (ZK _ hf) hn hd) (λp hp=>BX (C.has p hp).at_ n1)) n1
theorem Lg.new(C:Lg s.heap led){vs:List Zh}{Q:Za}(k:∀ a s1,Go H0 [] s s1->Lg s1.heap ((a,XX vs)::led)->s.heap.get? a=none->Q (.ref a) s1)(hsz:vs.length<=sizeLine):Zp MM A (newTuple vs) Q E s :=
 wpAny_newTuple (C.push (P:=λa s1=>Q (.ref a) s1) Xe rfl rfl k) hsz
theorem Si{vs:List Zh}{Q:Za}(k:∀ D s1,Go H0 [] s s1->s1.heap.get? D=some (ZD vs)->s.heap.get? D=none->Q (.ref D) s1)(hsz:vs.length<=sizeLine):Zp MM A (newList vs) Q E s :=
 Xa (k _ _ (Go.push _) (ZK _ rfl) XC) (by exact hsz)
theorem VO(X:K.In s.heap){x c dx g:Zo}{sl:List (Option Zh)}{Q:Option Zh->Zi->Prop}(hx:Wy s.heap (x,io c dx sl))(mk:Ud K c "__next__" g)
  (h:Yk (model PW w) A (.call (.ref g) ⟨[.ref x],[]⟩) (λr s'=>match r with | .ok (.ret v)=>Q (some v) s' | .ok _=>False | .error e=>OwitStop (model PW w) A Q E e s') s):Zp (model PW w) A (pyNext (.ref x)) Q E s:=by
 refine XW (Gn hx) λod I hod=>?_
 refine Zf (Ut (special_fn (name:="__next__") (args:=[]) X I mk.fi mk.ft (Yr (Y7 (Q:=λv s'=>Q (some v) s') (E:=OwitStop (model PW w) A Q E) h) (λv s' hq=>?_) (λe s' he=>?_))))
 ·exact Zm hq
 ·refine Zf (Yr he (λb s₂ hb=>?_) λuu uu z=>z)
  cases b with
  | true=>exact Zm hb
  | false=>exact JN hb
theorem Hz{M:List Zo}{s₀:Zi}{e:Zo}{a0:Zh}{led:Zd}{Q:Option Zh->Zi->Prop}(F:VY H0 M s₀ l e (.type "StopIteration") a0 led s)(h:Q none s):OwitStop (model PW w) A Q E (.ref e) s:=by
 refine wpAny_isInstance F.typ owsi_facts.sub ?_
 exact h
theorem Ir(X:K.In s.heap){x c dx g g':Zo}{sl:List (Option Zh)}{Q:Za}(hx:Wy s.heap (x,io c dx sl))(mk:Ud K c "__iter__" g)(mk':Ud K c "__next__" g')
  (h:Zp (model PW w) A (call (.ref g) [.ref x]) (λv s'=>v = .ref x/\K.In s'.heap/\Wy s'.heap (x,io c dx sl)/\Q (.ref x) s') E s):Zp (model PW w) A (pyIter (.ref x)) Q E s:=by
 refine XW (Gn hx) λod I hod=>?_
 have fin:Zp (model PW w) A (call (.ref g) [.ref x] >>= λv=>pure (some v)) (λr s'=>r=some (.ref x)/\K.In s'.heap/\Wy s'.heap (x,io c dx sl)/\Q (.ref x) s') E s :=
  Zf (Yr h (λv s' ⟨h1,h2⟩=>Zm ⟨by rw [h1],h2⟩) λuu uu z=>z)
 have one:∀ refuse:Sem Zh,Zp (model PW w) A (Gs (.ref x) "__iter__" refuse) (λr s'=>r=some (.ref x)/\K.In s'.heap/\Wy s'.heap (x,io c dx sl)/\Q (.ref x) s') E s:=by
  intro refuse
  delta Gs bindSpecialIfBound?
  refine Yc (Zf (Zf (Zf (I.type.here ((WK X mk.fi).here ?_)))))
  refine Zf (wpAny_askSetting (wpAny_ite ?_))
  have fin2:Zp (model PW w) A (if(ZS g==Yl)=true then(refuse >>= λv=>pure (some v)) else(call (.ref g) [.ref x] >>= λv=>pure (some v))) (λr s'=>r=some (.ref x)/\K.In s'.heap/\Wy s'.heap (x,io c dx sl)/\Q (.ref x) s') E s:=by
   first | refine Y6 rfl ?_ | refine YR (show ¬ ((ZS g==Yl)=true) from Zn) ?_ | rw [if_neg (show ¬ ((ZS g==Yl)=true) from Zn)]
   exact fin
  split
  ·exact Zf ((bind_fn X _ mk.ft).here (Zm (by exact fin2)))
  ·exact wpAny_tryCatch (Zf ((bind_fn X _ mk.ft).here (Zm (by exact fin2))))
 refine Zf (Zf (I.type.here ((WK X mk.fi).here ?_)))
 refine Zf (Yr (one _) (λr s' hr=>?_) λuu uu z=>z)
 obtain ⟨rfl,hX,hO,hq⟩:=hr
 refine XW (Gn hO) λod' I' uu=>?_
 refine Zf (m:=specialOf (.ref x) "__next__") (Zf (I'.type.here ((WK hX mk'.fi).here ?_)))
 exact Zm hq
inductive S9 (S:Zo)(Inv:Nat->List Zh->Zi->Prop)(n:Nat)(acc:List Zh)(v:Zh)(s':Zi):Prop
 | mk (c:Nat) (at_:s'.heap.get? S=some (ZD acc c)) (room:acc.length<sizeLine) (n':Nat) (lt:n'<n) (inv:Inv n' (acc++[v]) { s' with heap:=s'.heap.update S (Yb (·.push v)) }):S9 S Inv n acc v s'
noncomputable abbrev qExt(S:Zo)(res:Zh)(R:Zc)(Inv:Nat->List Zh->Zi->Prop)(n:Nat)(acc:List Zh):Option Zh->Zi->Prop:=λr s'=>match r with
 | none=>R (.ok (.ret res)) s'
 | some v=>S9 S Inv n acc v s'
theorem KV{S I:Zo}{res:Zh}{R:Zc}(Inv:Nat->List Zh->Zi->Prop)
  (turn:∀ n acc s,Inv n acc s->Zp (model PW w) A.in1 (pyNext (.ref I)) (qExt S res R Inv n acc) (NN R) s) :
  ∀ n acc s,Inv n acc s->Yk (model PW w) A (.builtin "list.extend.loop" ⟨[.ref S,.ref I,res],[]⟩) R s:=by
 intro n
 induction n using Nat.strongRecOn with
 | ind n ih=>
  intro acc s hI
  refine Wq F.entry_extend_loop F.plain_extend_loop ?_
  refine Zf (Yr (turn n acc s hI) (λr s' hr=>?_) λuu uu z=>z)
  cases r with
  | none=>exact Zm hr
  | some v=>
   obtain ⟨c,hS,hz,n',hn,hI'⟩:=hr
   refine Zf ?_
   exact JW hS rfl (Zm ⟨Wv F.plain_extend_loop _,ih n' hn _ _ hI'⟩) (by rw [ZJ]; exact ZU (by assumption)) (by rw [Array.size_push,ZJ]; exact Nat.lt_succ_of_lt (by assumption))
theorem B0{M:XJ}(X:K.In s.heap){x c dx:Zo}{sl:List (Option Zh)}{name:Yz}{r:Option Zh}(hx:Wy s.heap (x,io c dx sl))(e:findIn K (.ref c) name=some r):Ui M s.heap (specialOf (.ref x) name) r:=by
 refine XW (Gn hx) λod I hod=>?_
 exact I.type.andThen (WK X e)
theorem Nr{S:Zo}{c:Nat}(hS:s.heap.get? S=some (ZD [] c))(hH:H0.get? S=none){Q:Unit->Zi->Prop}{M:XJ}
  (h:∀ s' c',Go H0 [S] s s'->s'.heap.get? S=some (ZD [] c')->Q () s'):Zp M A (Builtin.List.listTouch (.ref S)) Q E s:=by
 refine Zf (JW hS rfl ?_)
 have hS₂:=YS (Yb (·.push Yl)) hS rfl
 refine JW (hz:=by seq_fits) hS₂ rfl ?_
 have G1:Go H0 [S] s { s with heap:=s.heap.update S (Yb (·.push Yl)) }:=.upd _ hS Xe rfl Xe hH
 have G2:Go H0 [S] { s with heap:=s.heap.update S (Yb (·.push Yl)) } { s with heap:=(s.heap.update S (Yb (·.push Yl))).update S (Yb (λuu=>uu.pop)) }:=.upd (s:={ s with heap:=s.heap.update S (Yb (·.push Yl)) }) _ hS₂ Xe rfl Xe hH
 exact h _ _ (G1.trans G2) (YS (Yb (λuu=>uu.pop)) hS₂ rfl)
theorem Ou{y c dy:Zo}{sl:List (Option Zh)}{S g g':Zo}{ep:Nat}{res:Zh}{R:Zc}(X:K.In s.heap)(hy:Wy s.heap (y,io c dy sl))(mk:Ud K c "__iter__" g)(mk':Ud K c "__next__" g')
  (hl:findIn K (.ref c) "__len__"=some none)(hh:findIn K (.ref c) "__length_hint__"=some none)(hS:s.heap.get? S=some (ZD [] ep))(hH:H0.get? S=none)(hne:S≠y)
  (hit:∀ (Q:Za) E,(∀ s',Go H0 [] s s'->Q (.ref y) s')->Zp (model PW w) A.in1 (call (.ref g) [.ref y]) Q E s)(hX:∀ s',Go H0 [] s s'->K.In s'.heap)
  (h:∀ s' c',Go H0 [S] s s'->s'.heap.get? S=some (ZD [] c')->Yk (model PW w) A (.builtin "list.extend.loop" ⟨[.ref S,.ref y,res],[]⟩) R s') :
  Zp (model PW w) A.in1 (XI (.ref S) (.ref y) res)
   (λfin s'=>match fin with | .done f=>R (.ok f) s' | .again c'=>c'.quiet=true/\Yk (model PW w) A c' R s') (NN R) s:=by
 refine XW (Gn hy) λod I hod=>?_
 refine Zf (I.type.here ?_)
 have h1:WX (.ref S) (.ref y)=false:=by simp [WX,hne]
 have h2:(ZS c==Ug "list")=false:=rfl
 have h3:(ZS c==Ug "tuple")=false:=rfl
 rw [h1,h2,h3]
 refine Zf (Ir X hy mk mk' (hit _ _ λs1 g1=>⟨rfl,hX s1 g1,hy.go g1 (λh=>nomatch h),?_⟩))
 have hy1:=hy.go g1 (λh=>nomatch h)
 have X1:=hX s1 g1
 refine Zf (Yc ?_)
 delta Jz
 refine Zf ((B0 X1 hy1 hl).here ?_)
 show Zp _ A.in1 (specialOf (ZS y) (Zj "__length_hint__") >>= _) _ _ _
 refine Zf ((B0 X1 hy1 hh).here ?_)
 refine Zm ?_
 show Zp _ A.in1 (rule "list.extend.makes-room" >>= λuu=>Builtin.List.listTouch (.ref S) >>= λuu=>
  again (.builtin "list.extend.loop" ⟨[.ref S,.ref y,res],[]⟩)) _ _ _
 refine Zf (Xm ?_)
 refine Zf (Nr (H0:=H0) (g1.nd _ _ hS (λh=>nomatch h) Xe) hH λs2 c2 g2 hS2=>?_)
 exact Zm ⟨Wv F.plain_extend_loop _,h s2 c2 ((g1.mono YC).trans g2) hS2⟩
theorem Zal{y c dy:Zo}{sl:List (Option Zh)}{g g':Zo}{Q:Za}(G:Gl K H0 mg mb)(S:St H0 A l s)(hy:Wy s.heap (y,io c dy sl))(mk:Ud K c "__iter__" g)(mk':Ud K c "__next__" g')
  (hl:findIn K (.ref c) "__len__"=some none)(hh:findIn K (.ref c) "__length_hint__"=some none)
  (hit:∀ (s:Zi)(Q:Za) E,St H0 A l s->(∀ s',Go H0 [] s s'->Q (.ref y) s')->Zp (model PW w) A.in1.in1 (call (.ref g) [.ref y]) Q E s)
  (h:∀ D s' c',Go H0 [] s s'->s.heap.get? D=none->s'.heap.get? D=some (ZD [] c')->Yk (model PW w) A.in1 (.builtin "list.extend.loop" ⟨[.ref D,.ref y,.none],[]⟩) (wants (λr s₂=>r = .none/\Q (.ref D) s₂) E) s') :
  Zp (model PW w) A (call (.type "list") [.ref y]) Q E s:=by
 refine callType_codes (Q₁:=λobj s₁=>obj = .ref s.heap.objs.size/\s₁ = { s with heap:=s.heap.push { cls:=.type "list",data:=.seq #[] } }) F.called_list (F.typeCall_list_1 _) F.entry_list_init
  (code_list_new _ ⟨rfl,rfl⟩) λobj s₁ h₁=>?_
 obtain ⟨rfl,rfl⟩:=h₁
 have nD:s.heap.get? s.heap.objs.size=none:=XC
 generalize hD:s.heap.objs.size=D at nD ⊢
 have hS:(s.heap.push (ZD [])).get? D=some (ZD []):=by exact hD▸ZK _ rfl
 have hHD:H0.get? D=none:=by
  cases q:H0.get? D with
  | none=>rfl
  | some o=>have:=S.glob _ _ q; exact Wu (ZF (ZR nD) this)
 refine⟨⟨_,hS,rfl⟩,F.args_list_init_2 _ _,?_⟩
 show Zp _ A.in1.in1 (do let old <- Builtin.List.listItems (.ref D); Builtin.List.listUpdate (.ref D) (λuu=>#[]); letGo old.toList.reverse; XI (.ref D) (.ref y) .none) _ _ _
 refine Zf ?_
 refine Zf (YJ (s:={ s with heap:=s.heap.push (ZD []) }) hS rfl (Zm ?_))
 show Zp _ A.in1.in1 (updateSeq D (λuu=>#[]) >>= λuu=>letGo (#[]:Array Zh).toList.reverse >>= λuu=>XI (.ref D) (.ref y) .none) _ _ _
 refine Zf (JW hS rfl ?_)
 have hS₂:=YS (Yb (λuu=>(#[]:Array Zh))) hS rfl
 refine Zf (wpAny_letGo ?_)
 have G0:Go H0 [] s { s with heap:=s.heap.push (ZD []) }:=Go.push _
 have G1:Go H0 [D] { s with heap:=s.heap.push (ZD []) } { s with heap:=(s.heap.push (ZD [])).update D (Yb (λuu=>(#[]:Array Zh))) }:=.upd (s:={ s with heap:=s.heap.push (ZD []) }) _ hS Xe rfl Xe hHD
 have hDn:∀ p∈[D],p∈([]:List Zo)\/s.heap.get? p=none:=λp hp=>.inr (by exact(Zk.mp hp)▸nD)
 have G2:=G0.step G1 hDn
 have S2:=S.go G2
 refine Ou (H0:=H0) (s:={ s with heap:=(s.heap.push (ZD [])).update D (Yb (λuu=>(#[]:Array Zh))) }) (S2.X G) (hy.go G2 (λh=>nomatch h)) mk mk' hl hh hS₂ hHD (λq=>BX hy.at_ nD q.symm) (λQ E hQ=>hit _ Q E S2 hQ) (λs' g=>(S2.go g).X G) λs' c' g hS'=>?_
 exact h D s' c' (G2.step g hDn) nD hS'
structure UU where
 r:Zo
 key:Zh
 pos:Zh
noncomputable def Hf(rows:List UU):Zd:=rows.map λq=>(q.r,XX [q.key,q.pos])
noncomputable def Wn(rows:List UU):List Zh:=rows.map λq=>.ref q.r
theorem T9{rows:List UU}{i:Nat}{q:UU}(h:rows[i]? = some q):(Wn rows)[i]? = some (.ref q.r):=by simp [Wn,h]
theorem Il{rows:List UU}{i:Nat}(h:rows[i]? = none):(Wn rows)[i]? = none:=by simpa [Wn] using h
structure GB where
 x:Zo
 dg:Zo
 it:Zo
 lst:Zo
 ig:Zo
 di:Zo
 tp:Zo
 u:W7
 ep:Nat
 rows:List UU
section
variable (a:Tf)(b:GB)
noncomputable def GB.ldg(sl:List (Option Zh))(ito:Xl):Zd :=
 (b.x,io a.gb b.dg sl)::(b.it,ito)::(b.lst,ZD (Wn b.rows) b.ep)::(b.ig,io a.ig b.di [some (.ref b.tp)])::(b.tp,XX [.int 0 b.u])::Hf b.rows
end
structure I0 (κ:We)(rows:List UU):Prop where
 all:∀ q∈rows,κ.P q.key/\U0 q.key≠0
 tok:∀ q∈rows,∀ q'∈rows,U0 q.key=U0 q'.key->κ.eq q.key q'.key=true
section
variable {b:GB}
theorem Lg.step{pre:Zd}{sl:List (Option Zh)}{i:Nat}{q:UU}(C:Lg s.heap (pre++b.ldg a sl (WV b.lst i)))(hq:b.rows[i]? = some q)(hx:H0.get? b.x=none)(hit:H0.get? b.it=none) :
  Zif K a H0 s.heap b.x b.dg b.it b.lst b.ig b.di b.tp q.r i (Wn b.rows) b.ep q.key [q.pos] b.u sl:=by
 have C':=C.sub (led':=[(b.x,io a.gb b.dg sl),(b.it,WV b.lst i),(b.lst,ZD (Wn b.rows) b.ep),(b.ig,io a.ig b.di [some (.ref b.tp)]),(b.tp,XX [.int 0 b.u]),(q.r,XX [q.key,q.pos])])
  (List.Sublist.trans (.cons_cons _ (.cons_cons _ (.cons_cons _ (.cons_cons _ (.cons_cons _ (List.singleton_sublist.mpr (ZZ.mpr ⟨q,ZG hq,rfl⟩))))))) (X0 _ _))
 exact⟨C'.has,C'.nodup,hx,hit,T9 hq⟩
noncomputable abbrev GB.gr(b:GB)(n:Int)(t:W7)(key:Zh):List (Option Zh):=Dq (.int n t) (.ref b.x) key
noncomputable abbrev GB.st(b:GB)(cg ck cv:Zh)(hk hv ht:Bool)(se tk:Zh):List (Option Zh):=VK cg ck cv hk hv ht (.ref b.it) (.ref b.ig) se tk
noncomputable def Zjc(a:Tf)(b:GB)(h:Xx)(pre:Zd)(cg se key:Zh)(j:Nat):Prop :=
 (∃ q,b.rows[j]? = some q/\Lg h (pre++b.ldg a (b.st cg q.key (.ref q.r) true true true se key) (WV b.lst (j+1)))) \/
 (b.rows[j]? = none/\j=b.rows.length/\Lg h (pre++b.ldg a (b.st cg .none .none false false true se key) (itE j)))
noncomputable abbrev GLI(a:Tf)(b:GB)(κ:We)(H0:Xx)(A:YE)(l:List V0)(s:Zi)(D y dy:Zo)(q:UU)(n:Int)(t₁ t₂:W7)(se:Zh)(i:Nat):Nat->List Zh->Zi->Prop:=λn' acc s'=>St H0 A l s'/\Go H0 [D,b.x,b.it] s s'/\∃ c,(n'=b.rows.length+1/\acc = []/\Lg s'.heap ((D,ZD acc c)::(y,io a.gr dy (b.gr n t₂ q.key))::b.ldg a (b.st (.int n t₁) q.key (.ref q.r) true true true se q.key) (WV b.lst (i+1)))) \/
   ∃ j,i<j/\j<=b.rows.length/\n'=b.rows.length-j/\acc=Wn ((b.rows.take j).drop i)/\(∀ m q',i<=m->m<j->b.rows[m]? = some q'->κ.eq q.key q'.key=true) /\
    Lg s'.heap ((D,ZD acc c)::(y,io a.gr dy (b.gr n t₂ q.key))::b.ldg a (b.st (.int n t₁) .none .none false false true se q.key) (WV b.lst j))
theorem Dp(G:Gl K H0 mg mb)(F:KF K a)(S:St H0 A l s)(κ:We)(KR:I0 κ b.rows){y dy D:Zo}{i:Nat}{q:UU}{n:Int}{t₁ t₂:W7}{se:Zh}{c:Nat}(hi:b.rows[i]? = some q)
  (C:Lg s.heap ((D,ZD [] c)::(y,io a.gr dy (b.gr n t₂ q.key))::b.ldg a (b.st (.int n t₁) q.key (.ref q.r) true true true se q.key) (WV b.lst (i+1))))
  (hHD:H0.get? D=none)(hHx:H0.get? b.x=none)(hHit:H0.get? b.it=none)(hz:b.rows.length<sizeLine)
  (hroom:A.depth+3<Zr)(hh:A.handled=none){R:Zc}{res:Zh}
  (k:∀ j c' s',i<j->(∀ m q',i<=m->m<j->b.rows[m]? = some q'->κ.eq q.key q'.key=true)->(∀ q',b.rows[j]? = some q'->κ.eq q.key q'.key=false)->j<=b.rows.length->Go H0 [D,b.x,b.it] s s' ->
   Zjc a b s'.heap [(D,ZD (Wn ((b.rows.take j).drop i)) c'),(y,io a.gr dy (b.gr n t₂ q.key))] (.int n t₁) se q.key j->R (.ok (.ret res)) s') :
  Yk (model PW w) A (.builtin "list.extend.loop" ⟨[.ref D,.ref y,res],[]⟩) R s:=by
 have hilt:i<b.rows.length:=(Z5.mp hi).1
 have hqm:q∈b.rows:=ZG hi
 have hqq:κ.eq q.key q.key=true:=KR.tok q hqm q hqm rfl
 have base:∀ j,∀ q',b.rows[j]? = some q'->(Wn ((b.rows.take j).drop i))++[ZS q'.r]=Wn ((b.rows.take (j+1)).drop i)\/j<i:=by
  intro j q' hj
  by_cases hij:j<i
  ·exact .inr hij
  ·left
   have hjl:j<b.rows.length:=(Z5.mp hj).1
   have e:(b.rows.take (j+1))=b.rows.take j++[q']:=by
    rw [List.take_add_one,hj]; rfl
   rw [e,List.drop_append_of_le_length (by rw [Uj]; grind)]
   simp [Wn]
 refine KV (GLI a b κ H0 A l s D y dy q n t₁ t₂ se i) ?_ (b.rows.length+1) [] s ⟨S,.refl ..,c,.inl ⟨rfl,rfl,C⟩⟩
 rintro n' acc s' ⟨S',g',c',⟨rfl,rfl,C'⟩ | ⟨j,hij,hjl,rfl,hacc,heq,C'⟩⟩
 ·refine VO (S'.X G) (C'.ok 1 rfl) F.mgrN ?_
  refine Dr G F (S'.around (A':=A.in1) rfl) κ (C'.ok 2 rfl) (C'.ok 1 rfl) (GN C'.nodup (i:=2) (j:=1) rfl rfl (by decide)) hHx (KR.all q hqm).1 (KR.all q hqm).1 (KR.all q hqm).2 (KR.all q hqm).2 hqq (κ.hd _ (KR.all q hqm).1) (κ.hd _ (KR.all q hqm).1) rfl (ZO hroom) λs2 g2 ox2=>?_
  have C2:=C'.turn1 2 rfl g2 ox2
  refine⟨c',C2.at 0 rfl,by rw [ZW]; decide,b.rows.length-(i+1),by omega,?_⟩
  refine zA (C2.upd (H0:=H0) (s:=s2) 0 (f:=Yb (·.push (.ref q.r))) rfl rfl Xe rfl hHD) λg3 C3=>?_
  have g4:=(g2.mono (M':=[D,b.x,b.it]) (by exact Wo (.tail _ (.head _)))).trans (g3.mono (M':=[D,b.x,b.it]) (by exact Wo (.head _)))
  refine⟨S'.go g4,g'.trans g4,c'+1,.inr ⟨i+1,YM i,hilt,rfl,?_,?_,C3⟩⟩
  ·have:=(base i q hi).resolve_right (Xy _)
   rw [<- this]
   simp [Wn]
  ·intro m q' h1 h2 h3
   have:m=i:=by lia
   subst this
   obtain rfl:=Zz (ZF (ZR hi) h3); exact hqq
 ·cases hj:b.rows[j]? with
  | none=>
   have hjN:j=b.rows.length:=by
    have:=Vm.mp hj
    exact Nat.le_antisymm (by assumption) (by assumption)
   refine VO (S'.X G) (C'.ok 1 rfl) F.mgrN ?_
   refine Ds G F (S'.around (A':=A.in1) rfl) (C'.ok 2 rfl) (C'.at 3 rfl) (C'.at 4 rfl) (C'.ok 1 rfl) (GN C'.nodup (i:=2) (j:=1) rfl rfl (by decide)) hHit (Il hj) (ZO hroom) hh λe t s2 F2=>?_
   refine Hz F2 ?_
   have C2:=C'.turn1 3 rfl F2.go (F2.has _ (.head _))
   rw [hacc] at C2
   exact k j c' s2 hij heq (λq' h=>by exact Wu (ZF (ZR hj) h)) hjl (g'.trans (F2.go.mono (by exact λuu h=>.tail _ (.tail _ h)))) (.inr ⟨hj,hjN,C2⟩)
  | some q'=>
   have hjN:j<b.rows.length:=(Z5.mp hj).1
   have hqm':q'∈b.rows:=ZG hj
   have Z:=Lg.step (K:=K) (H0:=H0) (s:=s') (pre:=[(D,ZD acc c'),(y,io a.gr dy (b.gr n t₂ q.key))]) (i:=j) (q:=q') C' hj hHx hHit
   refine VO (S'.X G) (C'.ok 1 rfl) F.mgrN ?_
   refine Of G F (S'.around (A':=A.in1) rfl) κ Z (C'.ok 1 rfl) ?_ (KR.all q hqm).1 (KR.all q' hqm').1 (KR.all q hqm).2 (KR.all q' hqm').2 (KR.tok q hqm q' hqm') (κ.hd _ (KR.all q' hqm').1) (κ.hd _ (KR.all q hqm).1) hroom hh (λhe s2 g2 ox2 hit2=>?_) (λhe e t s2 F2=>?_)
   ·intro p hp
    have C1:=C'.sub (led':=(y,io a.gr dy (b.gr n t₂ q.key))::[(b.x,io a.gb b.dg (b.st (.int n t₁) .none .none false false true se q.key)),(b.it,WV b.lst j),(b.lst,ZD (Wn b.rows) b.ep),(b.ig,io a.ig b.di [some (.ref b.tp)]),(b.tp,XX [.int 0 b.u]),(q'.r,XX [q'.key,q'.pos])])
     (.cons _ (.cons_cons _ (.cons_cons _ (.cons_cons _ (.cons_cons _ (.cons_cons _ (.cons_cons _ (List.singleton_sublist.mpr (ZZ.mpr ⟨q',hqm',rfl⟩)))))))))
    have:=(XT.mp C1.nodup).1
    exact λz=>this (by exact z▸hp)
   ·have C2:=C'.turn2 2 3 rfl rfl (by decide) g2 ox2 (VN hit2)
    refine⟨c',C2.at 0 rfl,?_,b.rows.length-(j+1),by grind,?_⟩
    ·rw [hacc]
     simp only [Wn,YW,List.length_drop,Uj]
     grind
    refine zA (C2.upd (H0:=H0) (s:=s2) 0 (f:=Yb (·.push (.ref q'.r))) rfl rfl Xe rfl hHD) λg3 C3=>?_
    have g4:=(g2.mono (M':=[D,b.x,b.it]) (by exact λuu h=>.tail _ h)).trans (g3.mono (M':=[D,b.x,b.it]) (by exact Wo (.head _)))
    refine⟨S'.go g4,g'.trans g4,c'+1,.inr ⟨j+1,by exact Nat.lt_succ_of_lt (by assumption),hjN,rfl,?_,?_,?_⟩⟩
    ·exact hacc▸(base j q' hj).resolve_right (by lia)
    ·intro m q'' h1 h2 h3
     by_cases hm:m<j
     ·exact heq m q'' h1 hm h3
     ·have:m=j:=by lia
      subst this
      obtain rfl:=Zz (ZF (ZR hj) h3); exact he
    ·have e:Yb (λx=>x.push (ZS q'.r)) (ZD acc c')=ZD (acc++[ZS q'.r]) (c'+1):=by simp [Yb]
     rw [e] at C3
     exact C3
   ·refine Hz F2 ?_
    have C2:=C'.turn2 2 3 rfl rfl (by decide) F2.go (F2.has _ (.head _)) (F2.has _ (.tail _ (.head _)))
    rw [hacc] at C2
    exact k j c' s2 hij heq (λq'' h=>by obtain rfl:=Zz (ZF (ZR hj) h); exact he) hjl (g'.trans (F2.go.mono (by exact λuu h=>.tail _ h))) (.inl ⟨q',hj,C2⟩)
end
theorem Zhc{x y:String}{b:Bool}{Q:Za}(e:(Ug x==Ug y)=b)(h:Q (.bool b) s):Zp (model PW w) A (compareOp .Is (.type x) (.type y)) Q E s:=by
 show Zp _ A (do return .bool (<- isSame (.type x) (.type y))) Q E s
 have e':isSame (.type x) (.type y)=pure b:=by rw [<- e]; rfl
 exact e'▸Zf (Zm (Zm h))
theorem TZ(G:Gl K H0 mg mb)(F:KF K a)(S:St H0 A l s){n:Int}{t:W7}(hroom:A.depth<Zr){Q:Za}(k:∀ u s',Go H0 [] s s'->Q (.int 0 u) s'):Zp (model PW w) A (call (.ref a.kind) [.int n t]) Q E s:=by
 refine Y7 (Ub (binds:=[(Zj "x",.int n t)]) G S F.kind [] [] YC Un hroom (λuu uu uu uu uu uu=>YG rfl) (by decide) (locs rfl) λL cdv s1 uu C=>?_)
 refine Zg (Zv (Xj (C.boot G F.ntype Boot.«type» (PySem.callWith_type rfl (Vx (Zq (C.name rfl (ZC (call_type_of (typeIs_int _ _ _) (by decide) (C.set λs2 C2=>?_))))))))))
 refine Zg (Yv (UA (Xo (Z8 (C2.name rfl (C2.boot G F.nint Boot.«int» (Zhc (b:=true) (by decide) (Zu ?_))))))))
 exact Zg (Ym (Zt (k _ _ (C2.tok 1).go)))
noncomputable def Sz(cnt fast step:Zh):List (Option Zh):=[some cnt,some fast,some step]
theorem VT{b:Bool}{Q:Bool->Zi->Prop}{M:XJ}(e:b=true)(h:Q true s):Zp M A (truthy (.bool b)) Q E s:=by subst e; exact Zu h
theorem O2(G:Gl K H0 mg mb)(F:KF K a)(S:St H0 A l s){x dx:Zo}(hx:Wy s.heap (x,io a.ct dx []))(hH:H0.get? x=none)(hroom:A.depth+1<Zr){R:Zc}
  (k:∀ t u s',Go H0 [x] s s'->Wy s'.heap (x,io a.ct dx (Sz (.int 0 t) (.bool true) (.int 1 u)))->R (.ok (.ret .none)) s') :
  Yk (model PW w) A (.call (.ref a.ctInit) ⟨[.ref x],[]⟩) R s:=by
 refine By F.ctD λt0 u0 o n ho hs=>?_
 refine zE F.nmax λtm hmax=>?_
 refine Ub (binds:=[(Zj "self",.ref x),(Zj "start",.int 0 t0),(Zj "step",.int 1 u0)]) G S F.ctInit [x] [(x,io a.ct dx [])] (λp hp=>by exact(Zk.mp hp)▸hx) (by exact nd1) (ZO hroom) (λuu uu uu uu uu uu=>binds_K (S.X G) rfl ho hs rfl rfl) (by decide) (locs rfl) λL cdv s1 uu C=>?_
 refine Zg (Zv (C.callFn G F.nkind F.kkind (Zq (C.name rfl (ZC ⟨C.st.X G,TZ G F C.st hroom λu1 s2 g2=>(C.call g2).set λs3 C3=>?_⟩)))))
 refine Zg (Zv (C3.callFn G F.nkind F.kkind (Zq (C3.name rfl (ZC ⟨C3.st.X G,TZ G F C3.st hroom λu2 s4 g4=>(C3.call g4).set λs5 C5=>?_⟩)))))
 refine Zg (Yv (UA (Xo (Z8 (C5.name rfl (Zt (PyProof.Rows.eq_int (Zu ?_))))))))
 refine Y6 (by decide) ?_
 have C6:=C5.tok 1
 refine Xo (Z8 (C6.name rfl (Zt (PyProof.Rows.eq_int (Zu ?_)))))
 refine Y6 (by decide) ?_
 have C7:=C6.tok 1
 refine Vw ?_
 refine Z4 ?_
 refine Zg (Zv (BoolOp_and (U6 (C7.name rfl (Zt (PyProof.Rows.eq_int (VT (by decide) ?_)))))))
 first | refine YV rfl ?_ | refine YT rfl ?_ | rw [if_pos rfl]
 have C8:=C7.tok 1
 refine BoolOp_and (U6 (C8.name rfl (Zt (PyProof.Rows.eq_int (VT (by decide) ?_)))))
 first | refine YV rfl ?_ | refine YT rfl ?_ | rw [if_pos rfl]
 have C9:=C8.tok 1
 refine BoolOp_and (U6 (C9.name rfl (Zt (PyProof.Rows.eq_int (VT (by decide) ?_)))))
 first | refine YV rfl ?_ | refine YT rfl ?_ | rw [if_pos rfl]
 have C10:=C9.tok 1
 refine BoolOp_and (U6 (ZH (Uu (C10.global G hmax (P.neg_int (Zt (P.sub_int ?_)))))))
 have C11:=C10.tok 3
 refine C11.name rfl (P.le_int (VT (by decide) ?_))
 first | refine YV rfl ?_ | refine YT rfl ?_ | rw [if_pos rfl]
 refine BoolOp_one (U6 (C11.name rfl (C11.global G hmax (P.le_int ?_))))
 refine C11.set λs12 C12=>?_
 refine Zg (Yv (ZY (C12.name rfl (VT (by decide) ?_))))
 refine YV rfl ?_
 refine Zg (Zv (ZH (C12.name rfl (Zt (P.add_int ?_)))))
 refine(C12.tok 2).set λs14 C14=>Z4 ?_
 refine Zg (Zy (C14.name rfl (C14.setA G 0 rfl rfl F.ct F.ct1 (.inl (.head _)) hH (λs15 C15=>?_) (sl':=[none,some (.bool true)]) (he:=by kernel_rfl))))
 refine Zg (Zy (C15.name rfl (C15.setA G 0 rfl rfl F.ct F.ct0 (.inl (.head _)) hH (λs16 C16=>?_) (sl':=[some (.int 0 (s12.toks+1)),some (.bool true)]) (he:=by kernel_rfl))))
 refine Zg (Zy (C16.name rfl (C16.setA G 0 rfl rfl F.ct F.ct2 (.inl (.head _)) hH (λs17 C17=>?_) (sl':=Sz (.int 0 (s12.toks+1)) (.bool true) (.int 1 u0)) (he:=by kernel_rfl))))
 exact Z4 (k _ _ s17 C17.go (C17.ok 0 rfl))
theorem Zhv(G:Gl K H0 mg mb)(F:KF K a)(S:St H0 A l s)(hroom:A.depth+2<Zr){R:Zc}
  (k:∀ x dx t u s',Go H0 [] s s'->Wy s'.heap (x,io a.ct dx (Sz (.int 0 t) (.bool true) (.int 1 u)))->s.heap.get? x=none->s.heap.get? dx=none->R (.ok (.ret (.ref x))) s') :
  Yk (model PW w) A (.call (.ref a.ct) ⟨[],[]⟩) R s:=by
 refine S.make G F.ct F.mctI λx dx s1 g1 ox nx ndx=>?_
 have hH:H0.get? x=none:=by
  cases q:H0.get? x with
  | none=>rfl
  | some o=>have:=S.glob _ _ q; exact Wu (ZF (ZR nx) this)
 refine O2 G F ((S.go g1).around (A':=A.under (.builtin "type.__call__" ⟨[.ref a.ct],[]⟩)) rfl) ox hH hroom λt u s2 g2 ox2=>⟨rfl,?_⟩
 exact k x dx t u s2 (g1.step g2 λp hp=>.inr (by exact(Zk.mp hp)▸nx)) ox2 nx ndx
theorem IM(G:Gl K H0 mg mb)(F:KF K a)(S:St H0 A l s){x dx:Zo}{n:Int}{t u:W7}{fa:Zh}(hx:Wy s.heap (x,io a.ct dx (Sz (.int n t) fa (.int 1 u))))(hH:H0.get? x=none)(hroom:A.depth<Zr){R:Zc}
  (k:∀ t' s',Go H0 [x] s s'->Wy s'.heap (x,io a.ct dx (Sz (.int (n+1) t') fa (.int 1 u)))->R (.ok (.ret (.int n t))) s') :
  Yk (model PW w) A (.call (.ref a.ctNext) ⟨[.ref x],[]⟩) R s:=by
 refine Ub (binds:=[(Zj "self",.ref x)]) G S F.ctNext [x] [(x,io a.ct dx (Sz (.int n t) fa (.int 1 u)))] (λp hp=>by exact(Zk.mp hp)▸hx) (by exact nd1) hroom (λuu uu uu uu uu uu=>YG rfl) (by decide) (locs rfl) λL cdv s1 uu C=>?_
 refine Zg (Zv (C.attr G 0 rfl rfl F.ct F.ct0 rfl rfl λs2 C2=>C2.set λs3 C3=>?_))
 refine Zg (Zy (ZH (C3.name rfl (C3.attr G 0 rfl rfl F.ct F.ct2 rfl rfl λs4 C4=>P.add_int ?_))))
 refine(C4.tok 1).setA G 0 rfl rfl F.ct F.ct0 (.inl (.head _)) hH (λs6 C6=>?_) (sl':=Sz (.int (n+1) s4.toks) fa (.int 1 u)) (he:=by kernel_rfl)
 exact Zg (Ym (C6.name rfl (k _ s6 C6.go (C6.ok 0 rfl))))
end
variable {ρ:Zh->Int}{kd:PyProof.Rows.SortKind}{st:PyProof.Rows.SortSt}
section
open PySem PyProof.Rows
noncomputable def kv(ρ:Zh->Int)(xs:Array ZQ)(i:Nat):Int:=match xs[i]? with
 | some p=>ρ p.1
 | none=>0
theorem VV{ρ:Zh->Int}{xs ys:Array ZQ}{i j:Nat}(h:xs[i]? = ys[j]?):kv ρ xs i=kv ρ ys j:=by unfold kv; rw [h]
theorem BG{ρ:Zh->Int}{xs:Array ZQ}{src d:Nat}(hs:src<xs.size)(hd:d<=src)(k:Nat) :
  kv ρ (bubble xs src d) k=if k=src-d then kv ρ xs src else if src-d<k/\k<=src then kv ρ xs (k-1) else kv ρ xs k:=by
 have e:=getElem?_bubble hs d hd k
 split
 ·rename_i h; rw [if_pos h] at e; exact VV e
 ·rename_i h
  rw [if_neg h] at e
  split
  ·rename_i h'; rw [if_pos h'] at e; exact VV e
  ·rename_i h'; rw [if_neg h'] at e; exact VV e
theorem Iq{ρ:Zh->Int}{xs:Array ZQ}{i j:Nat}(hj:j<=xs.size)(k:Nat) :
  kv ρ (mirror xs i j ((j-i)/2)) k=if i<=k/\k<j then kv ρ xs (i+j-1-k) else kv ρ xs k:=by
 have e:=getElem?_mirror_all (i:=i) hj k
 split
 ·rename_i h; rw [if_pos h] at e; exact VV e
 ·rename_i h; rw [if_neg h] at e; exact VV e
structure SB (ρ:Zh->Int)(kd:SortKind)(a₀:Array ZQ)(st:Yj):Prop where
 perm:(YI st).Perm a₀
 kind:kindOf st=kd
 failed:failedOf st=none
 pend:YZ st = #[]
structure SI (M:XJ)(A:YE)(s:Zi)(ρ:Zh->Int)(kd:SortKind)(a₀:Array ZQ):Prop where
 nodup:a₀.toList.Nodup
 inj:∀ x∈a₀.toList,∀ y∈a₀.toList,ρ x.1=ρ y.1->x=y
 cmp:∀ x∈a₀.toList,∀ y∈a₀.toList,∀ (E:Za) (Q:Bool->Zi->Prop),Q (decide (ρ x.1<ρ y.1)) s->Zp M A (keyLt' kd x.1 y.1) Q E s
section
variable {a₀:Array ZQ}
theorem SB.size(h:SB ρ kd a₀ st):(YI st).size=a₀.size:=h.perm.size_eq
theorem SB.setArr(h:SB ρ kd a₀ st){xs:Array ZQ}(hp:xs.Perm (YI st)):SB ρ kd a₀ (setArr st xs):=⟨hp.trans h.perm,h.kind,h.failed,h.pend⟩
theorem SB.mem(h:SB ρ kd a₀ st){i:Nat}(hi:i<a₀.size):∃ p,(YI st)[i]? = some p/\p∈a₀.toList/\kv ρ (YI st) i=ρ p.1:=by
 have hi':i<(YI st).size:=by exact h.size▸hi
 refine⟨(YI st)[i],getElem?_pos _ i hi',(UE.mp h.perm).mem_iff.mp (by exact Array.mem_toList_iff.mpr (Array.getElem_mem _)),?_⟩
 delta kv; rw [getElem?_pos _ i hi']
theorem SB.ne(h:SB ρ kd a₀ st){M:XJ}(I:SI M A s ρ kd a₀){i j:Nat}(hi:i<a₀.size)(hj:j<a₀.size)(hij:i≠j):kv ρ (YI st) i≠kv ρ (YI st) j:=by
 refine Gj (h.mem hi) λp h1 h2 h3=>?_
 refine Gj (h.mem hj) λq h4 h5 h6=>?_
 rw [h3,h6]
 intro e
 have:=I.inj p h2 q h5 e
 subst this
 have hn:(YI st).toList.Nodup:=(UE.mp h.perm).nodup_iff.mpr I.nodup
 rw [<- W3] at h1 h4
 refine zE (Z5.mp h1) λa1 b1=>?_
 refine zE (Z5.mp h4) λa2 b2=>?_
 rcases Nat.lt_or_gt_of_ne hij with z | z
 ·exact YU.mp hn i j a1 a2 z (b1.trans b2.symm)
 ·exact YU.mp hn j i a2 a1 z (b2.trans b1.symm)
noncomputable def Inc(ρ:Zh->Int)(xs:Array ZQ)(k:Nat):Prop:=∀ i j,i<j->j<k->kv ρ xs i<kv ρ xs j
end
end
section
open PySem PySem.W PySem.Calls PyProof.Rows PySem.Spec
theorem N4{α β:Type}{f:α->β}:∀ {l:List α} {m:List β},(l.map f).Perm m->∃ l',l.Perm l'/\l'.map f=m:=by
 intro l m h
 generalize hx:l.map f=x at h
 induction h generalizing l with
 | nil=>exact⟨[],by rw [List.map_eq_nil_iff.mp hx],rfl⟩
 | cons a _ ih=>
  refine zEE (List.map_eq_cons_iff.mp hx) λb r zr=>?_; obtain ⟨rfl,rfl,hr⟩:=zr
  refine XW (ih hr) λl' h1 h2=>?_
  exact⟨b::l',h1.cons b,by rw [YD,h2]⟩
 | swap a b t=>
  refine zEE (List.map_eq_cons_iff.mp hx) λb' r zr=>?_; obtain ⟨rfl,rfl,hr⟩:=zr
  refine zEE (List.map_eq_cons_iff.mp hr) λa' r' zr=>?_; obtain ⟨rfl,rfl,hr'⟩:=zr
  exact⟨a'::b'::r',List.Perm.swap _ _ _,by rw [YD,YD,hr']⟩
 | trans _ _ ih1 ih2=>
  refine XW (ih1 hx) λl1 h1 h2=>?_
  refine XW (ih2 h2) λl2 h3 h4=>?_
  exact⟨l2,h1.trans h3,h4⟩
noncomputable def Uk(q:UU):Int:=match q.pos with | .int i _=>i | _=>0
noncomputable def ltR(κ:We)(x y:UU):Bool:=κ.lt x.key y.key||(κ.eq x.key y.key&&decide (Uk x<Uk y))
structure IW (rows:List UU):Prop where
 int:∀ q∈rows,∃ t,q.pos = .int (Uk q) t
 ne:∀ q∈rows,∀ q'∈rows,Uk q=Uk q'->q=q'
theorem KN(κ:We){x:UU}(hx:κ.P x.key):ltR κ x x=false:=by simp [ltR,κ.irrefl x.key hx]
theorem Zak(κ:We){x y z:UU}(hx:κ.P x.key)(hy:κ.P y.key)(hz:κ.P z.key)(h1:ltR κ x y=true)(h2:ltR κ y z=true):ltR κ x z=true:=by
 simp only [ltR,Bool.or_eq_true,Bool.and_eq_true,decide_eq_true_eq] at h1 h2 ⊢
 have e1:=κ.eq_iff x.key y.key hx hy
 have e2:=κ.eq_iff y.key z.key hy hz
 rcases h1 with h1 | ⟨h1,p1⟩<;>rcases h2 with h2 | ⟨h2,p2⟩
 ·exact .inl (κ.trans _ _ _ hx hy hz h1 h2)
 ·refine zA (e2.mp h2) λa b=>?_
  rcases κ.neg x.key z.key y.key hx hz hy h1 with q | q
  ·exact .inl q
  ·exact absurd (ZF (ZR b) q) Zn
 ·refine zA (e1.mp h1) λa b=>?_
  rcases κ.neg y.key x.key z.key hy hx hz h2 with q | q
  ·exact absurd (ZF (ZR b) q) Zn
  ·exact .inl q
 ·refine .inr ⟨(κ.eq_iff x.key z.key hx hz).mpr ⟨?_,?_⟩,by lia⟩
  ·cases q:κ.lt x.key z.key
   ·rfl
   ·rcases κ.neg x.key y.key z.key hx hy hz q with r | r
    ·exact absurd (ZF (ZR ((e1.mp h1).1)) r) Zn
    ·exact absurd (ZF (ZR ((e2.mp h2).1)) r) Zn
  ·cases q:κ.lt z.key x.key
   ·rfl
   ·rcases κ.neg z.key y.key x.key hz hy hx q with r | r
    ·exact absurd (ZF (ZR ((e2.mp h2).2)) r) Zn
    ·exact absurd (ZF (ZR ((e1.mp h1).2)) r) Zn
theorem FN(κ:We){x y:UU}(hx:κ.P x.key)(hy:κ.P y.key)(hp:Uk x≠Uk y):ltR κ x y=true\/ltR κ y x=true:=by
 simp only [ltR,Bool.or_eq_true,Bool.and_eq_true,decide_eq_true_eq]
 cases q:κ.lt x.key y.key
 ·cases q':κ.lt y.key x.key
  ·rcases Int.lt_or_gt_of_ne hp with z | z
   ·exact .inl (.inr ⟨(κ.eq_iff x.key y.key hx hy).mpr ⟨q,q'⟩,z⟩)
   ·exact .inr (.inr ⟨(κ.eq_iff y.key x.key hy hx).mpr ⟨q',q⟩,z⟩)
  ·exact .inr (.inl rfl)
 ·exact .inl (.inl rfl)
noncomputable def rk(κ:We)(rows:List UU)(x:UU):Int:=((rows.countP λq=>ltR κ q x:Nat):Int)
noncomputable def rkV(κ:We)(rows:List UU)(v:Zh):Int:=match v with
 | .ref a=>match rows.find? (·.r==a) with
  | some q=>rk κ rows q
  | none=>0
 | _=>0
theorem HU{α:Type}{p q:α->Bool}:∀ {l:List α},(∀ x∈l,p x=true->q x=true)->l.countP p<=l.countP q
 | [],_=>Z6 _
 | x::l,h=>by
  rw [Vk,Vk]
  have ih:=HU (l:=l) λy hy=>h y (.tail _ hy)
  by_cases c:p x=true
  ·simp [c,(h x (.head _)) c]; exact ih
  ·simp [c]; split<;>(clear c; exact Nat.le_add_right_of_le (by assumption))
theorem HT{α:Type}{p q:α->Bool}{z:α}:∀ {l:List α},(∀ x∈l,p x=true->q x=true)->z∈l->p z=false->q z=true->l.countP p<l.countP q
 | [],_,h,_,_=>nomatch h
 | x::l,h,hz,h1,h2=>by
  rw [Vk,Vk]
  have le:=HU (l:=l) λy hy=>h y (.tail _ hy)
  rcases Z7.mp hz with rfl | hz
  ·simp [h1,h2]; exact Xv (by assumption)
  ·have ih:=HT (l:=l) (λy hy=>h y (.tail _ hy)) hz h1 h2
   by_cases c:p x=true
   ·simp [c,(h x (.head _)) c]; exact ih
   ·simp [c]; split<;>(clear c; exact Nat.lt_add_right _ (by assumption))
theorem Tv{κ:We}{rows:List UU}(hk:∀ q∈rows,κ.P q.key){x y:UU}(hx:x∈rows)(hy:y∈rows)(h:ltR κ x y=true):rk κ rows x<rk κ rows y:=by
 have:=HT (p:=λq=>ltR κ q x) (q:=λq=>ltR κ q y) (l:=rows) (z:=x) (λq hq hqx=>Zak κ (hk q hq) (hk x hx) (hk y hy) hqx h) hx (KN κ (hk x hx)) h
 exact Int.ofNat_lt.mpr this
theorem Zcj{κ:We}{rows:List UU}(hk:∀ q∈rows,κ.P q.key)(P:IW rows){x y:UU}(hx:x∈rows)(hy:y∈rows):decide (rk κ rows x<rk κ rows y)=ltR κ x y:=by
 by_cases hxy:x=y
 ·subst hxy; rw [KN κ (hk x hx)]; simp
 ·rcases FN κ (hk x hx) (hk y hy) (λe=>hxy (P.ne x hx y hy e)) with h | h
  ·exact ZF (decide_eq_true (Tv hk hx hy h)) (ZR h)
  ·have h2:=Tv hk hy hx h
   have:ltR κ x y=false:=by
    cases q:ltR κ x y
    ·rfl
    ·have:=Tv hk hx hy q; lia
   exact ZF (decide_eq_false (by lia)) (ZR this)
theorem Zeh{rows:List UU}(hn:(rows.map (λuu=>uu.r)).Nodup){q:UU}(hq:q∈rows):rows.find? (·.r==q.r)=some q:=by
 induction rows with
 | nil=>exact noM hq
 | cons x l ih=>
  rw [YD] at hn
  refine zA (XT.mp hn) λh1 h2=>?_
  rcases Z7.mp hq with rfl | hq
  ·simp
  ·rw [List.find?_cons]
   have:(x.r==q.r)=false:=by
    rw [beq_eq_false_iff_ne]
    exact λe=>h1 (e▸ZZ.mpr ⟨q,hq,rfl⟩)
   exact this▸ih h2 hq
theorem H6{κ:We}{rows:List UU}(hn:(rows.map (λuu=>uu.r)).Nodup){q:UU}(hq:q∈rows):rkV κ rows (.ref q.r)=rk κ rows q:=by
 delta rkV; dsimp only; rw [Zeh hn hq]
end
section
open PySem PyProof.Rows
noncomputable def Kg:Bool->ZQ->Array ZQ->Nat->Nat->Nat->StateT Yj Sem (Option Nat):=sortPriv% PySem.Builtin.gallop
noncomputable def Zdj:Array ZQ->Array ZQ->StateT Yj Sem (Array ZQ):=sortPriv% PySem.Builtin.mergeLo
noncomputable def Zdk:Array ZQ->Array ZQ->StateT Yj Sem (Array ZQ):=sortPriv% PySem.Builtin.mergeHi
noncomputable abbrev IE(st:Yj)(g:Nat):Yj:=SortSt.mk' (kindOf st) (YI st) (YZ st) g (failedOf st)
structure Cmp (M:XJ)(A:YE)(s:Zi)(ρ:Zh->Int)(kd:SortKind)(X:List ZQ):Prop where
 cmp:∀ x∈X,∀ y∈X,∀ (E:Za) (Q:Bool->Zi->Prop),Q (decide (ρ x.1<ρ y.1)) s->Zp M A (keyLt' kd x.1 y.1) Q E s
section
variable {M:XJ}{X:List ZQ}
theorem Ua{α:Type}{x y:StateT Yj Sem α}{c:Prop}{dc:Decidable c}{Q:α->Yj->Prop}(h:c->Vu M A E s x Q st)(h2:¬ c->Vu M A E s y Q st):Vu M A E s (if c then x else y) Q st:=by
 by_cases hc:c
 ·exact(if_pos hc)▸h hc
 ·exact(if_neg hc)▸h2 hc
theorem Kp{α:Type}{c:Prop}{dc:Decidable c}{t f:StateT Yj Sem α}{Q:α->Yj->Prop}(h:c)(k:Vu M A E s t Q st):Vu M A E s (if c then t else f) Q st:=Ua (λuu=>k) λn=>absurd h n
theorem BC{α:Type}{c:Prop}{dc:Decidable c}{t f:StateT Yj Sem α}{Q:α->Yj->Prop}(h:¬ c)(k:Vu M A E s f Q st):Vu M A E s (if c then t else f) Q st:=Ua (λy=>absurd y h) λuu=>k
theorem gLt(I:Cmp M A s ρ kd X)(hk:kindOf st=kd){x y:ZQ}{Q:Option Bool->Yj->Prop}(hx:x∈X)(hy:y∈X)(hq:Q (some (decide (ρ x.1<ρ y.1))) st):Vu M A E s (lt' x y) Q st:=by
 rw [lt'_eq]
 refine ZX (wpS_get ?_)
 rw [hk]
 exact ZX (wpS_lift (Ut (I.cmp x hx y hy _ _ ⟨rfl,YO hq⟩)))
theorem Vc{arr:Array ZQ}{i:Nat}{p:ZQ}{Q:ZQ->Yj->Prop}(h:arr[i]? = some p)(hq:Q p st):Vu M A E s (elem' arr i) Q st:=by
 rw [elem'_eq,h]; exact YO hq
theorem V4{x y:Int}(h:¬ y<x)(hne:x≠y):x<y:=by lia
theorem OU{x y:Int}(hne:x≠y):(!decide (y<x))=decide (x<y):=by
 by_cases h:x<y
 ·rw [decide_eq_true h,decide_eq_false (Int.not_lt.mpr (Int.le_of_lt h))]; rfl
 ·rw [decide_eq_false h,decide_eq_true (V4 h hne.symm)]; rfl
theorem Gb{xs:Array ZQ}{i:Nat}(h:i<xs.size):kv ρ xs i=ρ xs[i].1:=by unfold kv; rw [getElem?_pos _ i h]
theorem gBey(I:Cmp M A s ρ kd X)(hk:kindOf st=kd)(left:Bool){key:ZQ}{arr:Array ZQ}{i:Nat}{Q:Option Bool->Yj->Prop}(hkey:key∈X)(hi:i<arr.size)(hp:arr[i]∈X)(hne:kv ρ arr i≠ρ key.1)(hq:Q (some (decide (kv ρ arr i<ρ key.1))) st) :
  Vu M A E s (do
   let x <- elem' arr i
   if left=true then lt' x key
   else do
    let r <- lt' key x
    pure (Option.map (λx=>!x) r)) Q st:=by
 rw [Gb hi] at hne hq
 refine ZX (Vc (ZV hi) ?_)
 cases left with
 | true=>exact Kp rfl (gLt I hk hp hkey hq)
 | false=>exact BC Zn (ZX (gLt I hk hkey hp (YO (by rw [<- OU hne] at hq; exact hq))))
theorem Km{ω:Type}{n:Nat}{T:Nat->Nat->Prop}{R:Nat->Nat->Nat->Prop}{f:Nat->Option ω×Nat×Nat->StateT Yj Sem (ForInStep (Option ω×Nat×Nat))}{p q:Nat}{Q:Option ω×Nat×Nat->Yj->Prop}(h0:R 0 p q)(hend:∀ p q,R n p q->T p q)
  (hstep:∀ x p q (Q':ForInStep (Option ω×Nat×Nat)->Yj->Prop),R x p q->(∀ p q,T p q->Q' (.done (none,p,q)) st)->(∀ p q,R (x+1) p q->Q' (.yield (none,p,q)) st)->Vu M A E s (f x (none,p,q)) Q' st)
  (k:∀ p q,T p q->Q (none,p,q) st):Vu M A E s (forIn [:n] (none,p,q) f) Q st:=by
 refine wpS_forRange (I:=λx c st'=>st'=st/\∃ p q,c=(none,p,q)/\R x p q) (λx c st' uu hx hI=>?_) (λc st' hI=>?_) ⟨rfl,p,q,rfl,h0⟩
 ·obtain ⟨rfl,p,q,rfl,hr⟩:=hI
  exact hstep x p q _ hr k λp q h=>⟨rfl,p,q,rfl,h⟩
 ·obtain ⟨rfl,p,q,rfl,hr⟩:=hI
  exact k p q (hend p q (Nat.zero_max n▸hr))
structure BS (n:Nat)(b:Nat->Bool)(x lo hi:Nat):Prop where
 le:lo<=hi
 hn:hi<=n
 ms:hi+x<=lo+n
 h1:∀ i,i<lo->b i=true
 h2:∀ i,hi<=i->i<n->b i=false
structure GR (n hint:Nat)(b:Nat->Bool)(x la of:Nat):Prop where
 lt:la<of
 le:x<of
 hn:hint+la<n
 hb:b (hint+la)=true
structure GL (hint:Nat)(b:Nat->Bool)(x la of:Nat):Prop where
 lt:la<of
 le:x<of
 hn:la<=hint
 hb:b (hint-la)=false
theorem Zhj{lo hi:Nat}(h:¬ lo≥hi):lo+(hi-lo)/2<hi:=Nat.add_lt_of_lt_sub' (Nat.div_lt_self (Nat.sub_pos_of_lt (Nat.lt_of_not_le h)) (YM 1))
theorem Zhi{x lo hi n:Nat}(h:hi+x<=lo+n):hi+(x+1)<=lo+(hi-lo)/2+1+n:=by lia
theorem Sq{x m lo hi n:Nat}(hm:m<hi)(h:hi+x<=lo+n):m+(x+1)<=lo+n:=by lia
theorem dbl1{k:Nat}:k<2*k+1:=by lia
theorem dbl2{x k:Nat}(h:x<k):x+1<2*k+1:=by lia
theorem Zkj{n hint la of:Nat}(h1:la<of)(h2:hint+la<n):hint+la+1<=hint+min of (n-hint):=Yh (Nat.le_min.mpr ⟨h1,Nat.lt_sub_iff_add_lt'.mpr h2⟩) hint
theorem Zed{n hint of:Nat}(h:hint<n):hint+min of (n-hint)<=n:=Zl (Yh (Nat.min_le_right _ _) _) (Xw (Uz (ZU h)))
theorem Zki{n hint of i:Nat}(h:hint<n)(h1:hint+min of (n-hint)<=i)(h2:i<n):¬ of≥n-hint/\hint+of<=i:=by
 by_cases c:n-hint<=of
 ·rw [Nat.min_eq_right c,Uz (ZU h)] at h1; exact absurd h1 (UD h2)
 ·rw [Nat.min_eq_left (Nat.le_of_not_le c)] at h1; exact⟨c,h1⟩
theorem Zec{n hint of:Nat}(h:¬ of≥n-hint):hint+of<n:=Nat.lt_sub_iff_add_lt'.mp (Nat.lt_of_not_le h)
theorem Zkl{hint la of:Nat}(h1:la<of)(h2:la<=hint):hint+1-min of (hint+1)<=hint-la:=by exact(Nat.add_sub_add_right hint 1 la)▸Nat.sub_le_sub_left (Nat.le_min.mpr ⟨h1,Xv h2⟩) _
theorem Zkk{n hint of i:Nat}(h:hint<n)(h1:i<hint+1-min of (hint+1)):¬ of≥hint+1/\i<=hint-of/\hint-of<n:=by
 by_cases c:hint+1<=of
 ·rw [Nat.min_eq_right c,Nat.sub_self] at h1; exact absurd h1 (JM _)
 ·rw [Nat.min_eq_left (Nat.le_of_not_le c),Nat.succ_sub (Nat.le_of_not_lt c)] at h1
  exact⟨c,XU h1,Yg (Nat.sub_le _ _) h⟩
theorem galB{left:Bool}{key:ZQ}{arr:Array ZQ}{o n hint:Nat}{b:Nat->Bool}{Q:Option Nat->Yj->Prop}
  (HB:∀ i,i<n->∀ Q:Option Bool->Yj->Prop,Q (some (b i)) st->Vu M A E s (do
   let x <- elem' arr (o+i)
   if left=true then lt' x key
   else do
    let r <- lt' key x
    pure (Option.map (λx=>!x) r)) Q st)
  (mono:∀ i j,i<=j->j<n->b j=true->b i=true)(hh:hint<n)(k:∀ m,m<=n->(∀ i,i<m->b i=true)->(∀ i,m<=i->i<n->b i=false)->Q (some m) st):Vu M A E s (Kg left key arr o n hint) Q st:=by
 have mono2:∀ i j,i<=j->j<n->b i=false->b j=false:=λi j hij hj h=>Bool.eq_false_iff.mpr λe=>Zn (h.symm.trans (mono i j hij hj e))
 refine ZX (HB hint hh _ ?_)
 dsimp -zeta only
 extract_lets -underBinder jp m1 m2
 have J:∀ la of lo hi,BS n b 0 lo hi->Vu M A E s (jp () la of lo hi) Q st:=λla of lo hi h=>by
  refine ZX (Km (R:=BS n b) (T:=λlo hi=>BS n b n lo hi/\hi<=lo) h (λlo hi h=>⟨h,Nat.le_of_add_le_add_right h.ms⟩) (λx lo hi Q' h k1 k2=>?_) λlo hi h=>YO (k hi h.1.hn (λi hi'=>h.1.h1 i (Z9 hi' h.2)) h.1.h2))
  refine Ua (λhge=>YO (k1 _ _ ⟨⟨h.le,h.hn,Ws hge n,h.h1,h.h2⟩,hge⟩)) λhge=>?_
  have hm:=Zhj hge
  have hmn:=Z9 hm h.hn
  refine ZX (HB _ hmn _ (Ua (λe=>YO (k2 _ _ ?_)) λe=>YO (k2 _ _ ?_)))
  ·exact⟨hm,h.hn,Zhi h.ms,λi hi=>mono i _ (XU hi) hmn e,h.h2⟩
  ·exact⟨Zx _ _,ZU hmn,Sq hm h.ms,h.h1,λi hi hin=>mono2 _ i hi hin (Bool.eq_false_iff.mpr e)⟩
 refine Ua (λhb=>?_) λhb=>?_
 ·refine ZX (Km (R:=GR n hint b) (T:=λla of=>GR n hint b 0 la of/\(¬ of≥n-hint->b (hint+of)=false)) ⟨J6,J6,hh,hb⟩ (λla of h=>⟨⟨h.lt,Uw h.le,h.hn,h.hb⟩,λe=>absurd (Zl (Nat.sub_le n hint) (ZU h.le)) e⟩) (λx la of Q' h k1 k2=>?_) λla of h=>?_)
  ·have h0:GR n hint b 0 la of:=⟨h.lt,Uw h.le,h.hn,h.hb⟩
   refine Ua (λhge=>YO (k1 _ _ ⟨h0,λe=>absurd hge e⟩)) λhge=>?_
   refine ZX (HB _ (Zec hge) _ (Ua (λe=>YO (k1 _ _ ⟨h0,λuu=>by simpa using e⟩)) λe=>YO (k2 _ _ ?_)))
   exact⟨dbl1,dbl2 h.le,Zec hge,by simpa using e⟩
  ·refine J la of _ _ ⟨Zkj h.1.lt h.1.hn,Zed hh,Zl (Zed hh) (YL n _),λi hi=>mono i _ (XU hi) h.1.hn h.1.hb,λi hi hin=>?_⟩
   have:=Zki hh hi hin
   exact mono2 _ i this.2 hin (h.2 this.1)
 ·refine ZX (Km (R:=GL hint b) (T:=λla of=>GL hint b 0 la of/\(¬ of≥hint+1->b (hint-of)=true)) ⟨J6,J6,Yt _,Bool.eq_false_iff.mpr hb⟩ (λla of h=>⟨⟨h.lt,Uw h.le,h.hn,h.hb⟩,λe=>absurd (Zl hh (ZU h.le)) e⟩) (λx la of Q' h k1 k2=>?_) λla of h=>?_)
  ·have h0:GL hint b 0 la of:=⟨h.lt,Uw h.le,h.hn,h.hb⟩
   refine Ua (λhge=>YO (k1 _ _ ⟨h0,λe=>absurd hge e⟩)) λhge=>?_
   refine ZX (HB _ (Yg (Nat.sub_le _ _) hh) _ (Ua (λe=>YO (k1 _ _ ⟨h0,λuu=>e⟩)) λe=>YO (k2 _ _ ?_)))
   exact⟨dbl1,dbl2 h.le,Nat.le_of_not_lt hge,Bool.eq_false_iff.mpr e⟩
  ·refine J la of _ _ ⟨Zkl h.1.lt h.1.hn,Zl (Nat.sub_le _ _) (ZU hh),Zl (Zl (Nat.sub_le _ _) (ZU hh)) (YL n _),λi hi=>?_,λi hi hin=>mono2 _ i hi hin h.1.hb⟩
   have:=Zkk hh hi
   exact mono i _ this.2.1 this.2.2 (h.2 this.1)
theorem gal(I:Cmp M A s ρ kd X)(hk:kindOf st=kd)(left:Bool){key:ZQ}{a:Array ZQ}{o n h:Nat}{Q:Option Nat->Yj->Prop}(hkey:key∈X)(xa:∀ i (hi:i<a.size),a[i]∈X)(hs:o+n<=a.size)(inc:∀ j l,o<=j->j<l->l<o+n->kv ρ a j<kv ρ a l)
  (hne:∀ j,o<=j->j<o+n->kv ρ a j≠ρ key.1)(hh:h<n)(k:∀ m,m<=n->(∀ j,o<=j->j<o+m->kv ρ a j<ρ key.1)->(∀ j,o+m<=j->j<o+n->ρ key.1<kv ρ a j)->Q (some m) st):Vu M A E s (Kg left key a o n h) Q st:=by
 refine galB (b:=λi=>decide (kv ρ a (o+i)<ρ key.1)) (λi hi Q hq=>gBey I hk left hkey (Z9 (YF hi o) hs) (xa _ _) (hne _ (Zx _ _) (YF hi o)) hq) (λi j hij hj h=>decide_eq_true ?_) hh λm hm h1 h2=>k m hm (λj hj hjm=>?_) λj hj hjn=>?_
 ·rcases Nat.lt_or_eq_of_le hij with e | rfl
  ·exact Jd (inc _ _ (Zx _ _) (YF e o) (YF hj o)) (of_decide_eq_true h)
  ·exact of_decide_eq_true h
 ·refine zE (Nat.exists_eq_add_of_le hj) λi zr=>?_; obtain rfl:=zr
  exact of_decide_eq_true (h1 i (Vq hjm))
 ·refine zE (Nat.exists_eq_add_of_le (Zl (Zx o m) hj)) λi zr=>?_; obtain rfl:=zr
  exact V4 (of_decide_eq_false (h2 i (Nat.le_of_add_le_add_left hj) (Vq hjn))) (hne _ (Zx _ _) hjn).symm
end
structure MI (σ:ZQ->Int)(Z O A B:List ZQ):Prop where
 s1:(O++A).Pairwise λx y=>σ x<σ y
 s2:(O++B).Pairwise λx y=>σ x<σ y
 perm:(O++(A++B)).Perm Z
section
variable {σ:ZQ->Int}{Z O A B P:List ZQ}
theorem MI.takeA(h:MI σ Z O (P++A) B)(hp:∀ p∈P,∀ y∈B,σ p<σ y):MI σ Z (O++P) A B:=by
 refine⟨by rw [WR]; exact h.s1,?_,by simpa [WR] using h.perm⟩
 have h1:=UX.mp h.s1
 have h2:=UX.mp h.s2
 refine UX.mpr ⟨UX.mpr ⟨h1.1,(UX.mp h1.2.1).1,λx hx y hy=>h1.2.2 x hx y (X8 _ hy)⟩,h2.2.1,λx hx y hy=>?_⟩
 rcases Xn.mp hx with hx | hx
 ·exact h2.2.2 x hx y hy
 ·exact hp x hx y hy
theorem MI.swap(h:MI σ Z O A B):MI σ Z O B A:=⟨h.s2,h.s1,(List.perm_append_comm.append_left O).trans h.perm⟩
theorem MI.takeB(h:MI σ Z O A (P++B))(hp:∀ p∈P,∀ y∈A,σ p<σ y):MI σ Z (O++P) A B:=(h.swap.takeA hp).swap
theorem MI.doneA(h:MI σ Z O A []):(O++A).Pairwise (λx y=>σ x<σ y)/\(O++A).Perm Z:=⟨h.s1,by simpa using h.perm⟩
end
theorem Na{a:Array ZQ}{i:Nat}(h:i<a.size):a.toList.drop i=a[i]::a.toList.drop (i+1):=by
 rw [Ww (by simpa using h)]; simp
theorem FZ{a:Array ZQ}{i k:Nat}(h:i+k<=a.size):a.toList.drop i=(a.extract i (i+k)).toList++a.toList.drop (i+k):=by
 rw [Vb,UO,show i+k-i=k by exact Nat.add_sub_cancel_left ..,<- List.drop_drop,JO]
theorem GP{a:Array ZQ}{i:Nat}{y:ZQ}(h:y∈a.toList.drop i):∃ j,∃ hj:j<a.size,i<=j/\y=a[j]:=by
 refine zM h λj hj e=>?_
 rw [List.length_drop] at hj
 have hj':i+j<a.size:=by simp at hj; grind
 refine⟨i+j,hj',Zx _ _,?_⟩
 rw [<- e,List.getElem_drop]; simp
theorem Sk{a:Array ZQ}{i k:Nat}(h:i+k<=a.size){y:ZQ}(hy:y∈(a.extract i (i+k)).toList):∃ j,∃ hj:i+j<a.size,j<k/\y=a[i+j]:=by
 refine zM hy λj hj e=>?_
 have hj':j<k:=by simp at hj; omega
 refine⟨j,by lia,hj',?_⟩
 rw [<- e]; simp
noncomputable def Ris(σ:ZQ->Int)(a:Array ZQ):Prop:=∀ i j (hi:i<a.size) (hj:j<a.size),i<j->σ a[i]<σ a[j]
noncomputable abbrev ML(σ:ZQ->Int)(a b out:Array ZQ)(ia ib:Nat):Prop:=MI σ (a.toList++b.toList) out.toList (a.toList.drop ia) (b.toList.drop ib)
structure Mrg (σ:ZQ->Int)(a b r:Array ZQ):Prop where
 ris:r.toList.Pairwise λx y=>σ x<σ y
 perm:r.toList.Perm (a.toList++b.toList)
section
variable {σ:ZQ->Int}{a b out:Array ZQ}{ia ib k:Nat}
theorem ML.pb(h:ML σ a b out ia ib)(hb:ib<b.size)(hlt:∀ j (hj:j<a.size),ia<=j->σ b[ib]<σ a[j]):ML σ a b (out.push b[ib]) ia (ib+1):=by
 have h':MI σ (a.toList++b.toList) out.toList (a.toList.drop ia) ([b[ib]]++b.toList.drop (ib+1)):=by rw [List.singleton_append,<- Na hb]; exact h
 have:=h'.takeB λp hp y hy=>by
  rw [Zk.mp hp]
  refine zDA (GP hy) λj hj h1 zr=>?_; obtain rfl:=zr
  exact hlt j hj h1
 show MI _ _ _ _ _
 exact Array.toList_push▸this
theorem ML.pa(h:ML σ a b out ia ib)(ha:ia<a.size)(hlt:∀ j (hj:j<b.size),ib<=j->σ a[ia]<σ b[j]):ML σ a b (out.push a[ia]) (ia+1) ib:=by
 have h':MI σ (a.toList++b.toList) out.toList ([a[ia]]++a.toList.drop (ia+1)) (b.toList.drop ib):=by rw [List.singleton_append,<- Na ha]; exact h
 have:=h'.takeA λp hp y hy=>by
  rw [Zk.mp hp]
  refine zDA (GP hy) λj hj h1 zr=>?_; obtain rfl:=zr
  exact hlt j hj h1
 show MI _ _ _ _ _
 exact Array.toList_push▸this
theorem ML.ka(h:ML σ a b out ia ib)(ha:ia+k<=a.size)(hlt:∀ i (hi:ia+i<a.size),i<k->∀ j (hj:j<b.size),ib<=j->σ a[ia+i]<σ b[j]):ML σ a b (out++a.extract ia (ia+k)) (ia+k) ib:=by
 have h':MI σ (a.toList++b.toList) out.toList ((a.extract ia (ia+k)).toList++a.toList.drop (ia+k)) (b.toList.drop ib):=by exact(FZ ha)▸h
 have:=h'.takeA λp hp y hy=>by
  refine zDA (GP hy) λj hj h1 zr=>?_; obtain rfl:=zr
  refine zE (Sk ha hp) λi zr=>?_; obtain ⟨hi,h2,rfl⟩:=zr
  exact hlt i hi h2 j hj h1
 show MI _ _ _ _ _
 exact ZR YX▸this
theorem ML.kb(h:ML σ a b out ia ib)(hb:ib+k<=b.size)(hlt:∀ i (hi:ib+i<b.size),i<k->∀ j (hj:j<a.size),ia<=j->σ b[ib+i]<σ a[j]):ML σ a b (out++b.extract ib (ib+k)) ia (ib+k):=by
 have h':MI σ (a.toList++b.toList) out.toList (a.toList.drop ia) ((b.extract ib (ib+k)).toList++b.toList.drop (ib+k)):=by exact(FZ hb)▸h
 have:=h'.takeB λp hp y hy=>by
  refine zDA (GP hy) λj hj h1 zr=>?_; obtain rfl:=zr
  refine zE (Sk hb hp) λi zr=>?_; obtain ⟨hi,h2,rfl⟩:=zr
  exact hlt i hi h2 j hj h1
 show MI _ _ _ _ _
 exact ZR YX▸this
theorem GS(a:Array ZQ)(i:Nat):(a.extract i a.size).toList=a.toList.drop i:=by
 rw [Vb,UO]
 exact J8 (by simp)
theorem ML.doneB(h:ML σ a b out ia ib)(hb:ib=b.size):Mrg σ a b (out++a.extract ia a.size++b.extract ib b.size):=by
 have e:b.toList.drop ib = []:=by rw [hb]; simp
 have h':MI σ (a.toList++b.toList) out.toList (a.toList.drop ia) []:=by exact e▸h
 have:=h'.doneA
 refine⟨?_,?_⟩<;>rw [YX,YX,GS,GS,e,W9]
 ·exact this.1
 ·exact this.2
theorem ML.doneA'(h:ML σ a b out ia ib)(ha:ia=a.size):Mrg σ a b (out++a.extract ia a.size++b.extract ib b.size):=by
 have e:a.toList.drop ia = []:=by rw [ha]; simp
 have h':MI σ (a.toList++b.toList) out.toList [] (b.toList.drop ib):=by exact e▸h
 have:=h'.swap.doneA
 refine⟨?_,?_⟩<;>rw [YX,YX,GS,GS,e,W9]
 ·exact this.1
 ·exact this.2
theorem ML.last(h:ML σ a b out ia ib)(ha:ia+1=a.size)(hl:∀ j (hj:j<b.size),σ b[j]<σ a[ia]):Mrg σ a b (out++b.extract ib b.size++a.extract ia a.size):=by
 have h':MI σ (a.toList++b.toList) out.toList (a.toList.drop ia) (b.toList.drop ib++[]):=by rw [W9]; exact h
 have h2:=h'.takeB λp hp y hy=>by
  refine zDA (GP hp) λi hi h2 zr=>?_; obtain rfl:=zr
  refine zDA (GP hy) λj hj h1 zr=>?_; obtain rfl:=zr
  have:j=ia:=by lia
  subst this
  exact hl i hi
 have:=h2.doneA
 refine⟨?_,?_⟩<;>rw [YX,YX,GS,GS]
 ·exact this.1
 ·exact this.2
end
noncomputable abbrev sg(ρ:Zh->Int):ZQ->Int:=λp=>ρ p.1
structure MH (σ:ZQ->Int)(X:List ZQ)(a b:Array ZQ):Prop where
 ra:Ris σ a
 rb:Ris σ b
 ne:∀ i (hi:i<a.size) j (hj:j<b.size),σ a[i]≠σ b[j]
 na:0<a.size
 nb:0<b.size
 first:∀ i (hi:i<a.size),σ b[0]<σ a[i]
 last:∀ j (hj:j<b.size),σ b[j]<σ a[a.size-1]
 xa:∀ i (hi:i<a.size),a[i]∈X
 xb:∀ i (hi:i<b.size),b[i]∈X
theorem Ris.le{σ:ZQ->Int}{a:Array ZQ}(h:Ris σ a){i j:Nat}(hi:i<a.size)(hj:j<a.size)(hij:i<=j){z:Int}(hz:z<σ a[i]):z<σ a[j]:=by
 by_cases e:i=j
 ·subst e; exact hz
 ·have:=h i j hi hj (by exact Xz (by assumption) (by assumption)); lia
theorem MI.start{σ:ZQ->Int}{X:List ZQ}{a b:Array ZQ}(h:MH σ X a b):ML σ a b #[] 0 0:=by
 have pw:∀ {a:Array ZQ},Ris σ a->a.toList.Pairwise λx y=>σ x<σ y:=λ{a} h=>YU.mpr λi j hi hj hij=>by
  simp only [Array.getElem_toList]; exact h i j (by simpa using hi) (by simpa using hj) hij
 exact⟨by simpa using pw h.ra,by simpa using pw h.rb,by simp⟩
section
variable {M:XJ}{X:List ZQ}
theorem Ris.kv{a:Array ZQ}(h:Ris (sg ρ) a){j l:Nat}(hjl:j<l)(hl:l<a.size):kv ρ a j<kv ρ a l:=by
 rw [Gb hl,Gb (Yx hjl hl)]; exact h _ _ _ _ hjl
theorem galR(I:Cmp M A s ρ kd X)(hk:kindOf st=kd)(left:Bool){key:ZQ}{a:Array ZQ}{i:Nat}{Q:Option Nat->Yj->Prop}(hkey:key∈X)(ra:Ris (sg ρ) a)(xa:∀ i (hi:i<a.size),a[i]∈X)(hne:∀ j (hj:j<a.size),ρ a[j].1≠ρ key.1)(hi:i<a.size)
  (k:∀ m,i+m<=a.size->(∀ j (hj:i+j<a.size),j<m->ρ a[i+j].1<ρ key.1)->(∀ j (hj:j<a.size),i+m<=j->ρ key.1<ρ a[j].1)->Q (some m) st):Vu M A E s (Kg left key a i (a.size-i) 0) Q st:=by
 have e:=Uz (ZU hi)
 exact gal I hk left hkey xa (Xw e) (λj l uu hjl hl=>ra.kv hjl (e▸hl)) (λj uu hj=>by exact(Gb (e▸hj))▸hne _ _) (Nat.sub_pos_of_lt hi) λm hm h1 h2=>k m (e▸Yh hm i) (λj hj hjm=>Gb (ρ:=ρ) hj▸h1 _ (Zx _ _) (YF hjm i)) λj hj hmj=>Gb (ρ:=ρ) hj▸h2 j hmj (e.symm▸hj)
end
section
variable {M:XJ}{X:List ZQ}
theorem JP{α:Type}{x y:StateT Yj Sem α}{m n:Nat}{Q:α->Yj->Prop}(h:m=n->Vu M A E s x Q st)(h2:m≠n->Vu M A E s y Q st):Vu M A E s (if(m==n)=true then x else y) Q st :=
 Ua (λe=>h (eq_of_beq e)) λe=>h2 λz=>e (beq_iff_eq.mpr z)
theorem Gu{α:Type}{x y:StateT Yj Sem α}{c:Prop}{dc:Decidable c}{Q:α->Yj->Prop}(h:Vu M A E s x Q st)(h2:Vu M A E s y Q st):Vu M A E s (if c then x else y) Q st:=Ua (λuu=>h) λuu=>h2
theorem DO{α β:Type}{c:Prop}{dc:Decidable c}{Q:α->Yj->Prop}{J:Unit->β->StateT Yj Sem α}{x y:β}(h:∀ x,Vu M A E s (J () x) Q st):Vu M A E s (if c then J () x else J () y) Q st:=Gu (h _) (h _)
theorem Nn{α β γ:Type}{c:Prop}{dc:Decidable c}{Q:α->Yj->Prop}{t:StateT Yj Sem α}{J:Unit->β->γ->StateT Yj Sem α}{x:β}{y:γ}(P:β->γ->Prop)(hJ:∀ x y,P x y->Vu M A E s (J () x y) Q st)
  (h1:c->(∀ x y,P x y->Vu M A E s (J () x y) Q st)->Vu M A E s t Q st)(h2:¬ c->P x y):Vu M A E s (if c then t else J () x y) Q st:=Ua (λh=>h1 h hJ) λh=>hJ _ _ (h2 h)
structure Td (ρ:Zh->Int)(a b:Array ZQ)(st:Yj)(N:Nat)(out:Array ZQ)(ia ib:Nat)(st':Yj):Prop where
 hst:∃ g,st'=IE st g
 ml:ML (sg ρ) a b out ia ib
 ha:ia+1<a.size
 hb:ib<b.size
 rem:N<=ia+ib
structure LoF (ρ:Zh->Int)(a b:Array ZQ)(st:Yj)(r:Array ZQ)(st':Yj):Prop where
 hst:∃ g,st'=IE st g
 mg:Mrg (sg ρ) a b r
section
variable {a b out:Array ZQ}{N N' ia ib:Nat}{st':Yj}
theorem Td.kind(h:Td ρ a b st N out ia ib st')(hk:kindOf st=kd):kindOf st'=kd:=by
 refine zE h.hst λg zr=>?_; obtain rfl:=zr; exact hk
theorem Td.note(h:Td ρ a b st N out ia ib st')(g:Nat):Td ρ a b st N out ia ib (IE st' g):=by
 obtain ⟨⟨g,rfl⟩,h1,h2,h3,h4⟩:=h; exact⟨⟨_,rfl⟩,h1,h2,h3,h4⟩
theorem Td.less(h:Td ρ a b st N out ia ib st')(hN:N'<=N):Td ρ a b st N' out ia ib st':=⟨h.hst,h.ml,h.ha,h.hb,Zl hN h.rem⟩
end
structure MC {σ τ:Type}(I:Nat->σ->Yj->Prop)(F:Array ZQ->Yj->Prop)(tup:σ->τ)(N:Nat)(c:Option (Array ZQ)×τ)(st':Yj):Prop where
 ex:(∃ r,c.1=some r/\F r st')\/∃ x,c=(none,tup x)/\I N x st'
noncomputable def qMC{σ τ:Type}(I:Nat->σ->Yj->Prop)(F:Array ZQ->Yj->Prop)(tup:σ->τ)(N N':Nat)(r:ForInStep (Option (Array ZQ)×τ))(st':Yj):Prop :=
 match r with
 | .done c=>(∃ r,c.1=some r/\F r st')\/∃ x,c=(none,tup x)/\I N' x st'
 | .yield c=>∃ x,c=(none,tup x)/\I (N+1) x st'
theorem FJ{σ τ:Type}{I:Nat->σ->Yj->Prop}{F:Array ZQ->Yj->Prop}{tup:σ->τ}{N N' n:Nat}{f:Nat->Option (Array ZQ)×τ->StateT Yj Sem (ForInStep (Option (Array ZQ)×τ))}{x:σ}{Q:Option (Array ZQ)×τ->Yj->Prop}
  (h:I N x st)(hn:N'<=N+n)(less:∀ {N N' x st},I N x st->N'<=N->I N' x st)
  (hstep:∀ y x st',I (N+y) x st'->Vu M A E s (f y (none,tup x)) (qMC I F tup (N+y) N') st')
  (k1:∀ r c st',F r st'->Q (some r,c) st')(k2:∀ x st',I N' x st'->Q (none,tup x) st'):Vu M A E s (forIn [:n] (none,tup x) f) Q st:=by
 refine wpS_forRange (I:=λy c st'=>∃ x,c=(none,tup x)/\I (N+y) x st') (λy c st' uu uu hI=>?_) (λc st' hI=>?_) ⟨x,rfl,h⟩
 ·obtain ⟨x,rfl,hI⟩:=hI
  refine wpS_mono (hstep y x st' hI) λr st2 hq=>?_
  cases r with
  | done c=>
   rcases hq with ⟨r,h1,h2⟩ | ⟨x,rfl,h2⟩
   ·obtain ⟨c1,c2⟩:=c
    subst h1
    exact k1 _ _ _ h2
   ·exact k2 _ _ h2
  | yield c=>exact hq
 ·obtain ⟨x,rfl,hI⟩:=hI
  exact k2 _ _ (less hI (Zl hn (Yh (Nat.le_max_right _ _) _)))
theorem Nl{m i j:Nat}(h:¬ m>0)(hij:i<=j):i+m<=j:=by lia
theorem Zll{N i j:Nat}(h:N<=i+j):N+1<=i+1+j:=by rw [Nat.add_right_comm]; exact Xv h
theorem MH.lastE{a b:Array ZQ}(H:MH (sg ρ) X a b){i:Nat}(h:i+1=a.size){j:Nat}(hj:j<b.size)(hi:i<a.size):sg ρ b[j]<sg ρ a[i]:=by
 have:=H.last j hj
 simpa [<- h] using this
structure LoP1 (ρ:Zh->Int)(a b:Array ZQ)(N ib:Nat)(hb:ib<b.size)(out:Array ZQ)(ia:Nat):Prop where
 ml:ML (sg ρ) a b out ia ib
 ha:ia+1<a.size
 gt:∀ j (hj:j<a.size),ia<=j->ρ b[ib].1<ρ a[j].1
 rem:N<=ia+ib
structure LoP2 (ρ:Zh->Int)(a b:Array ZQ)(N ia:Nat)(ha:ia<a.size)(out:Array ZQ)(ib:Nat):Prop where
 ml:ML (sg ρ) a b out ia ib
 hb:ib<b.size
 gt:∀ j (hj:j<b.size),ib<=j->ρ a[ia].1<ρ b[j].1
 rem:N<=ia+ib
noncomputable abbrev LoJ{γ:Type}(ρ:Zh->Int)(a b:Array ZQ)(st:Yj)(N:Nat)(x:Array ZQ×Nat×Nat×γ)(st':Yj):Prop:=Td ρ a b st N x.1 x.2.1 x.2.2.1 st'
noncomputable abbrev KA{γ:Type}(ρ:Zh->Int)(a b:Array ZQ)(st:Yj)(N N':Nat):ForInStep (Option (Array ZQ)×Array ZQ×Nat×Nat×γ)->Yj->Prop:=qMC (LoJ ρ a b st) (LoF ρ a b st) id N N'
theorem KA.fin{γ:Type}{a b r:Array ZQ}{N N':Nat}{c:Array ZQ×Nat×Nat×γ}{st':Yj}(h1:∃ g,st'=IE st g)(h2:Mrg (sg ρ) a b r):Vu M A E s (pure (.done (some r,c))) (KA ρ a b st N N') st':=YO (.inl ⟨r,rfl,h1,h2⟩)
theorem KA.stop{γ:Type}{a b:Array ZQ}{N N':Nat}{out:Array ZQ}{ia ib:Nat}{r:γ}{st':Yj}(h:Td ρ a b st (N+1) out ia ib st')(hN:N'<=N+1):Vu M A E s (pure (.done (none,out,ia,ib,r))) (KA ρ a b st N N') st':=YO (.inr ⟨_,rfl,h.less hN⟩)
theorem KA.next{γ:Type}{a b:Array ZQ}{N N':Nat}{out:Array ZQ}{ia ib:Nat}{r:γ}{st':Yj}(h:Td ρ a b st (N+1) out ia ib st'):Vu M A E s (pure (.yield (none,out,ia,ib,r))) (KA ρ a b st N N') st':=YO ⟨_,rfl,h⟩
theorem OX{γ:Type}{a b:Array ZQ}{N N' n:Nat}{f:Nat->Option (Array ZQ)×Array ZQ×Nat×Nat×γ->StateT Yj Sem (ForInStep (Option (Array ZQ)×Array ZQ×Nat×Nat×γ))}{out:Array ZQ}{ia ib:Nat}{r:γ}{st':Yj}{Q:Option (Array ZQ)×Array ZQ×Nat×Nat×γ->Yj->Prop}
  (h:Td ρ a b st N out ia ib st')(hn:N'<=N+n)(hstep:∀ y out ia ib r st',Td ρ a b st (N+y) out ia ib st'->Vu M A E s (f y (none,out,ia,ib,r)) (KA ρ a b st (N+y) N') st')
  (k1:∀ r c st',LoF ρ a b st r st'->Q (some r,c) st')(k2:∀ out ia ib r st',Td ρ a b st N' out ia ib st'->Q (none,out,ia,ib,r) st'):Vu M A E s (forIn [:n] (none,out,ia,ib,r) f) Q st' :=
 FJ (I:=LoJ ρ a b st) (F:=LoF ρ a b st) (tup:=id) (x:=(out,ia,ib,r)) h hn (λh h'=>Td.less h h') (λy x st' h=>hstep y _ _ _ _ st' h) k1 λx st' h=>k2 _ _ _ _ st' h
theorem IJ{α:Type}{id:String}{arr:Array ZQ}{j m n m' n':Nat}{v:ZQ}{P1 P2:ZQ->StateT Yj Sem α}{F:ZQ->Yj->StateT Yj Sem α}{Q:α->Yj->Prop}(hr:∀ {Q:Unit->Zi->Prop}{E:Za},Q () s->Zp M A (rule id) Q E s)(he:arr[j]? = some v)
  (h1:m=n->Vu M A E s (P1 v) Q st)(h2:m'=n'->Vu M A E s (P2 v) Q st)(h3:m≠n->m'≠n'->Vu M A E s (F v st) Q st) :
  Vu M A E s ((liftM (rule id):StateT Yj Sem Unit) >>= λuu=>elem' arr j >>= λv=>if(m==n)=true then P1 v else if(m'==n')=true then P2 v else get >>= λst=>F v st) Q st :=
 ZX (wpS_lift (hr ⟨rfl,ZX (Vc he (JP h1 λe1=>JP h2 λe2=>ZX (wpS_get (h3 e1 e2))))⟩))
theorem mLo(I:Cmp M A s ρ kd X)(hk:kindOf st=kd){a b:Array ZQ}(H:MH (sg ρ) X a b){Q:Array ZQ->Yj->Prop}(k:∀ r st',LoF ρ a b st r st'->Q r st'):Vu M A E s (Zdj a b) Q st:=by
 have nb:=H.nb
 have na:=H.na
 have M0:ML (sg ρ) a b #[b[0]] 0 1:=(MI.start H).pb nb λj hj uu=>H.first j hj
 refine IJ (m:=1) (n:=b.size) (m':=0+1) (n':=a.size) Xm (ZV nb) (λh1=>YO (k _ _ ⟨⟨_,rfl⟩,M0.doneB h1⟩)) (λh2=>YO (k _ _ ⟨⟨_,rfl⟩,M0.last h2 λj hj=>H.lastE h2 hj na⟩)) λh1 h2=>?_
 refine ZX (OX (N':=a.size+b.size) ⟨⟨_,rfl⟩,M0,Xz na h2,Xz nb h1,Yt _⟩ (YL _ _) (λx out ia ib r st1 L=>?_) (λr c st' F=>YO (k _ _ F)) λout ia ib r st' L=>absurd L.rem (UD (Nat.add_lt_add (ZO L.ha) L.hb)))
 dsimp -zeta only
 extract_lets s1 o1 s2 i1 s3 i2 g1 p1 q1
 refine ZX (OX (N':=0+x+1) L (Yh (Zl nb (YL _ _)) _) (λy out ia ib r st2 L=>?_) (λr c st' F=>KA.fin F.hst F.mg) λout ia ib r st2 L=>?_)
 ·have ha:=ZO L.ha
  have hb:=L.hb
  dsimp -zeta only
  extract_lets s1 o1 s2 i1 s3 i2 s4 p1 q1
  refine ZX (Vc (ZV hb) ?_)
  refine ZX (Vc (ZV ha) ?_)
  refine ZX (gLt I (L.kind hk) (H.xb _ hb) (H.xa _ ha) ?_)
  refine Ua (λhc=>?_) λhc=>?_
  ·have ML':=L.ml.pb hb λj hj h=>H.ra.le ha hj h (of_decide_eq_true hc)
   refine ZX (Vc (ZV hb) ?_)
   refine JP (λhe=>KA.fin L.hst (ML'.doneB he)) λhe=>?_
   have LI:Td ρ a b st (0+x+y+1) _ ia (ib+1) st2:=⟨L.hst,ML',L.ha,Xz hb he,Xv L.rem⟩
   exact Gu (KA.stop LI (Xv (Zx _ _))) (KA.next LI)
  ·have ML':=L.ml.pa ha λj hj h=>H.rb.le hb hj h (V4 (λh=>hc (decide_eq_true h)) (H.ne ia ha ib hb))
   refine ZX (Vc (ZV ha) ?_)
   refine JP (λhe=>KA.fin L.hst (ML'.last he λj hj=>H.lastE he hj L.ha)) λhe=>?_
   have LI:Td ρ a b st (0+x+y+1) _ (ia+1) ib st2:=⟨L.hst,ML',Xz L.ha he,hb,Zll L.rem⟩
   exact Gu (KA.stop LI (Xv (Zx _ _))) (KA.next LI)
 refine ZX (wpS_lift (Xm ⟨rfl,?_⟩))
 refine ZX (OX (N':=0+x+1) L (Zx _ _) (λy out ia ib r st3 L=>?_) (λr c st' F=>KA.fin F.hst F.mg) λout ia ib r st2 L=>ZX (JT (KA.next (L.note _))))
 dsimp -zeta only
 extract_lets -underBinder s1 o1 s2 i1 s3 i2 s4 g1 s5 p1 q1 j1 g2
 refine DO λg=>?_
 refine ZX (JT ?_)
 have hst4:=(L.note g).hst
 have hk4:=(L.note g).kind hk
 have ha:=ZO L.ha
 have hb:=L.hb
 refine ZX (Vc (ZV hb) ?_)
 refine ZX (galR I hk4 false (H.xb _ hb) H.ra H.xa (λj hj=>H.ne j hj ib hb) ha λm hm h1 h2=>?_)
 have ML1:=L.ml.ka hm λi hi him j hj hij=>H.rb.le hb hj hij (h1 i hi him)
 dsimp -zeta only
 extract_lets -underBinder ac j2 o2 i3
 refine Nn (LoP1 ρ a b (0+x+1+y) ib hb) (λout ia P=>?_) (λuu J=>?_) λc0=>⟨L.ml,L.ha,λj hj hij=>h2 j hj (Nl c0 hij),L.rem⟩
 ·refine ZX (Vc (ZV hb) ?_)
  have ha:=ZO P.ha
  have M2:=P.ml.pb hb P.gt
  extract_lets -underBinder o3 i4
  refine JP (λe=>KA.fin hst4 (M2.doneB e)) λe=>?_
  have hb1:ib+1<b.size:=Xz hb e
  refine ZX (Vc (ZV ha) ?_)
  refine ZX (galR I hk4 true (H.xa _ ha) H.rb H.xb (λj hj e=>H.ne ia ha j hj e.symm) hb1 λm hm h1 h2=>?_)
  have M3:=M2.kb hm λi hi him j hj hij=>H.ra.le ha hj hij (h1 i hi him)
  dsimp -zeta only
  extract_lets -underBinder bc j3 o4 i5
  refine Nn (LoP2 ρ a b (0+x+1+y+1) ia ha) (λout ib R=>?_) (λuu J=>?_) λc0=>⟨M2,hb1,λj hj hij=>h2 j hj (Nl c0 hij),Xv P.rem⟩
  ·refine ZX (Vc (ZV ha) ?_)
   have M4:=R.ml.pa ha R.gt
   extract_lets -underBinder o5 i6
   refine JP (λe=>KA.fin hst4 (M4.last e λj hj=>H.lastE e hj P.ha)) λe=>?_
   have LI:Td ρ a b st (0+x+1+y+1) _ (ia+1) ib _:=⟨hst4,M4,Xz P.ha e,R.hb,Zl R.rem (Ws (Wb _) _)⟩
   exact Gu (KA.stop LI (Xv (Zl (Wb _) (Zx _ _)))) (KA.next LI)
  ·extract_lets -underBinder o5 i6
   exact JP (λe=>KA.fin hst4 (M3.doneB e)) λe=>J _ _ ⟨M3,Xz hm e,h2,Zl (m:=ia+(ib+1)) (Xv P.rem) (Yh (Zx _ _) _)⟩
 ·extract_lets -underBinder o3 i4
  refine JP (λe=>KA.fin hst4 (ML1.last e λj hj=>H.lastE e hj (e▸YM _))) λe1=>?_
  exact JP (λe=>KA.fin hst4 (ML1.doneA' e)) λe2=>J _ _ ⟨ML1,Xz (Xz hm e2) e1,h2,Zl L.rem (Ws (Zx _ _) _)⟩
end
noncomputable abbrev ng(σ:ZQ->Int):ZQ->Int:=λp=>-σ p
noncomputable abbrev IQ(σ:ZQ->Int)(a b out:Array ZQ)(na nb:Nat):Prop:=MI (ng σ) (a.toList++b.toList) out.toList (a.toList.take na).reverse (b.toList.take nb).reverse
theorem F0{a:Array ZQ}{n:Nat}(h:n<a.size):(a.toList.take (n+1)).reverse=a[n]::(a.toList.take n).reverse:=by
 rw [List.take_succ_eq_append_getElem (by simpa using h),List.reverse_append]; simp
theorem Tp{a:Array ZQ}{k n:Nat}(h:k<=n)(hn:n<=a.size):(a.toList.take n).reverse=(a.extract k n).toList.reverse++(a.toList.take k).reverse:=by
 rw [Vb,UO,<- List.reverse_append]
 congr 1
 rw [<- List.drop_take]
 have:=JO k (a.toList.take n)
 rw [List.take_take,show min k n=k by exact Nat.min_eq_left (by assumption)] at this
 exact this.symm
theorem GO{a:Array ZQ}{n:Nat}{y:ZQ}(hn:n<=a.size)(h:y∈(a.toList.take n).reverse):∃ j,∃ hj:j<a.size,j<n/\y=a[j]:=by
 refine zM (List.mem_reverse.mp h) λj hj e=>?_
 have hj':j<n:=by simp at hj; lia
 exact⟨j,by exact Z9 (by assumption) (by assumption),hj',by rw [<- e]; simp⟩
theorem Kd{a:Array ZQ}{k n:Nat}(hn:n<=a.size){y:ZQ}(hy:y∈(a.extract k n).toList.reverse):∃ j,∃ hj:j<a.size,k<=j/\j<n/\y=a[j]:=by
 refine zM (List.mem_reverse.mp hy) λj hj e=>?_
 have hj':k+j<n:=by simp at hj; omega
 exact⟨k+j,by exact Z9 (by assumption) (by assumption),by exact Zx _ _,hj',by rw [<- e]; simp⟩
section
variable {σ:ZQ->Int}{a b out:Array ZQ}{na nb k:Nat}
theorem IQ.pa(h:IQ σ a b out (na+1) nb)(ha:na<a.size)(hb:nb<=b.size)(hgt:∀ j (hj:j<b.size),j<nb->σ b[j]<σ a[na]):IQ σ a b (out.push a[na]) na nb:=by
 have h':MI (ng σ) (a.toList++b.toList) out.toList ([a[na]]++(a.toList.take na).reverse) (b.toList.take nb).reverse:=by rw [List.singleton_append,<- F0 ha]; exact h
 have:=h'.takeA λp hp y hy=>by
  rw [Zk.mp hp]
  refine zDA (GO hb hy) λj hj h1 zr=>?_; obtain rfl:=zr
  have:=hgt j hj h1
  show -σ _ < -σ _; lia
 show MI _ _ _ _ _
 exact Array.toList_push▸this
theorem IQ.pb(h:IQ σ a b out na (nb+1))(hb:nb<b.size)(ha:na<=a.size)(hgt:∀ j (hj:j<a.size),j<na->σ a[j]<σ b[nb]):IQ σ a b (out.push b[nb]) na nb:=by
 have h':MI (ng σ) (a.toList++b.toList) out.toList (a.toList.take na).reverse ([b[nb]]++(b.toList.take nb).reverse):=by rw [List.singleton_append,<- F0 hb]; exact h
 have:=h'.takeB λp hp y hy=>by
  rw [Zk.mp hp]
  refine zDA (GO ha hy) λj hj h1 zr=>?_; obtain rfl:=zr
  have:=hgt j hj h1
  show -σ _ < -σ _; lia
 show MI _ _ _ _ _
 exact Array.toList_push▸this
theorem IQ.ka(h:IQ σ a b out na nb)(hk:k<=na)(ha:na<=a.size)(hb:nb<=b.size)(hgt:∀ i (hi:i<a.size),k<=i->i<na->∀ j (hj:j<b.size),j<nb->σ b[j]<σ a[i]):IQ σ a b (out++(a.extract k na).reverse) k nb:=by
 have h':MI (ng σ) (a.toList++b.toList) out.toList ((a.extract k na).toList.reverse++(a.toList.take k).reverse) (b.toList.take nb).reverse:=by exact(Tp hk ha)▸h
 have:=h'.takeA λp hp y hy=>by
  refine Zfo (Kd ha hp) λi hi h2 h3 zr=>?_; obtain rfl:=zr
  refine zDA (GO hb hy) λj hj h1 zr=>?_; obtain rfl:=zr
  have:=hgt i hi h2 h3 j hj h1
  show -σ _ < -σ _; lia
 show MI _ _ _ _ _
 rw [YX,Va]; exact this
theorem IQ.kb(h:IQ σ a b out na nb)(hk:k<=nb)(ha:na<=a.size)(hb:nb<=b.size)(hgt:∀ i (hi:i<b.size),k<=i->i<nb->∀ j (hj:j<a.size),j<na->σ a[j]<σ b[i]):IQ σ a b (out++(b.extract k nb).reverse) na k:=by
 have h':MI (ng σ) (a.toList++b.toList) out.toList (a.toList.take na).reverse ((b.extract k nb).toList.reverse++(b.toList.take k).reverse):=by exact(Tp hk hb)▸h
 have:=h'.takeB λp hp y hy=>by
  refine Zfo (Kd hb hp) λi hi h2 h3 zr=>?_; obtain rfl:=zr
  refine zDA (GO ha hy) λj hj h1 zr=>?_; obtain rfl:=zr
  have:=hgt i hi h2 h3 j hj h1
  show -σ _ < -σ _; lia
 show MI _ _ _ _ _
 rw [YX,Va]; exact this
theorem HG(a:Array ZQ)(n:Nat):(a.extract 0 n).toList=a.toList.take n:=by
 rw [Vb,UO]; simp
theorem OS{l:List ZQ}(h:l.Pairwise λx y=>ng σ x<ng σ y):l.reverse.Pairwise λx y=>σ x<σ y :=
 List.pairwise_reverse.mpr (h.imp λ{x y} h=>by have:-σ x < -σ y:=h; lia)
theorem IQ.done(h:IQ σ a b out na nb)(he:na=0\/nb=0):Mrg σ a b (a.extract 0 na++b.extract 0 nb++out.reverse):=by
 have e:(a.extract 0 na++b.extract 0 nb++out.reverse).toList=(out.toList++((b.toList.take nb).reverse++(a.toList.take na).reverse)).reverse:=by
  rw [YX,YX,HG,HG,Va]; simp
 rcases he with rfl | rfl
 ·have:=h.swap.doneA
  refine⟨?_,?_⟩<;>rw [e]
  ·refine OS ?_
   simpa using this.1
  ·refine(UW _).trans ?_
   simpa using this.2
 ·have:=h.doneA
  refine⟨?_,?_⟩<;>rw [e]
  ·refine OS ?_
   simpa using this.1
  ·refine(UW _).trans ?_
   simpa using this.2
theorem IQ.first(h:IQ σ a b out na nb)(hn:nb=1)(hb:0<b.size)(ha:na<=a.size)(hl:∀ i (hi:i<a.size),σ b[0]<σ a[i]):Mrg σ a b (b.extract 0 nb++a.extract 0 na++out.reverse):=by
 subst hn
 have h':MI (ng σ) (a.toList++b.toList) out.toList ((a.toList.take na).reverse++[]) (b.toList.take 1).reverse:=by rw [W9]; exact h
 have h2:=h'.takeA λp hp y hy=>by
  refine zDA (GO ha hp) λi hi h2 zr=>?_; obtain rfl:=zr
  refine zDA (GO (by assumption) hy) λj hj h1 zr=>?_; obtain rfl:=zr
  have:j=0:=by lia
  subst this
  have:=hl i hi
  show -σ _ < -σ _; lia
 have:=h2.swap.doneA
 have e:(b.extract 0 1++a.extract 0 na++out.reverse).toList=(out.toList++(a.toList.take na).reverse++(b.toList.take 1).reverse).reverse:=by
  rw [YX,YX,HG,HG,Va]; simp
 refine⟨?_,?_⟩<;>rw [e]
 ·exact OS this.1
 ·exact(UW _).trans this.2
end
section
variable {M:XJ}{X:List ZQ}
theorem galP(I:Cmp M A s ρ kd X)(hk:kindOf st=kd)(left:Bool){key:ZQ}{a:Array ZQ}{n h:Nat}{Q:Option Nat->Yj->Prop}(hkey:key∈X)(ra:Ris (sg ρ) a)(xa:∀ i (hi:i<a.size),a[i]∈X)(hne:∀ j (hj:j<a.size),ρ a[j].1≠ρ key.1)(hn:n<=a.size)(hh:h<n)
  (k:∀ m,m<=n->(∀ j (hj:j<a.size),j<m->ρ a[j].1<ρ key.1)->(∀ j (hj:j<a.size),m<=j->j<n->ρ key.1<ρ a[j].1)->Q (some m) st):Vu M A E s (Kg left key a 0 n h) Q st:=by
 have e:=Nat.zero_add n
 exact gal I hk left hkey xa (e.symm▸hn) (λj l uu hjl hl=>ra.kv hjl (Z9 (e▸hl) hn)) (λj uu hj=>by exact(Gb (Z9 (e▸hj) hn))▸hne _ _) hh λm hm h1 h2=>k m hm (λj hj hjm=>Gb (ρ:=ρ) hj▸h1 j (Yt _) ((Nat.zero_add m).symm▸hjm)) λj hj hmj hjn=>Gb (ρ:=ρ) hj▸h2 j ((Nat.zero_add m).symm▸hmj) (e.symm▸hjn)
structure Te (ρ:Zh->Int)(a b:Array ZQ)(st:Yj)(N na nb:Nat)(out:Array ZQ)(st':Yj):Prop where
 hst:∃ g,st'=IE st g
 ml:IQ (sg ρ) a b out na nb
 ha:0<na
 ha':na<=a.size
 hb:1<nb
 hb':nb<=b.size
 rem:N+(na+nb)<=a.size+b.size
section
variable {a b out:Array ZQ}{N N' na nb:Nat}{st':Yj}
theorem Te.kind(h:Te ρ a b st N na nb out st')(hk:kindOf st=kd):kindOf st'=kd:=by
 refine zE h.hst λg zr=>?_; obtain rfl:=zr; exact hk
theorem Te.note(h:Te ρ a b st N na nb out st')(g:Nat):Te ρ a b st N na nb out (IE st' g):=by
 obtain ⟨⟨g,rfl⟩,h1,h2,h3,h4,h5,h6⟩:=h; exact⟨⟨_,rfl⟩,h1,h2,h3,h4,h5,h6⟩
theorem Te.less(h:Te ρ a b st N na nb out st')(hN:N'<=N):Te ρ a b st N' na nb out st':=⟨h.hst,h.ml,h.ha,h.ha',h.hb,h.hb',Zl (Ws hN _) h.rem⟩
end
noncomputable abbrev HiJ{γ:Type}(ρ:Zh->Int)(a b:Array ZQ)(st:Yj)(N:Nat)(x:Nat×Nat×Array ZQ×γ)(st':Yj):Prop:=Te ρ a b st N x.1 x.2.1 x.2.2.1 st'
noncomputable abbrev KC{γ:Type}(ρ:Zh->Int)(a b:Array ZQ)(st:Yj)(N N':Nat):ForInStep (Option (Array ZQ)×Nat×Nat×Array ZQ×γ)->Yj->Prop:=qMC (HiJ ρ a b st) (LoF ρ a b st) id N N'
theorem KC.fin{γ:Type}{a b r:Array ZQ}{N N':Nat}{c:Nat×Nat×Array ZQ×γ}{st':Yj}(h1:∃ g,st'=IE st g)(h2:Mrg (sg ρ) a b r):Vu M A E s (pure (.done (some r,c))) (KC ρ a b st N N') st':=YO (.inl ⟨r,rfl,h1,h2⟩)
theorem KC.stop{γ:Type}{a b:Array ZQ}{N N':Nat}{out:Array ZQ}{na nb:Nat}{r:γ}{st':Yj}(h:Te ρ a b st (N+1) na nb out st')(hN:N'<=N+1):Vu M A E s (pure (.done (none,na,nb,out,r))) (KC ρ a b st N N') st':=YO (.inr ⟨_,rfl,h.less hN⟩)
theorem KC.next{γ:Type}{a b:Array ZQ}{N N':Nat}{out:Array ZQ}{na nb:Nat}{r:γ}{st':Yj}(h:Te ρ a b st (N+1) na nb out st'):Vu M A E s (pure (.yield (none,na,nb,out,r))) (KC ρ a b st N N') st':=YO ⟨_,rfl,h⟩
theorem Dl{γ:Type}{a b:Array ZQ}{N N' k:Nat}{f:Nat->Option (Array ZQ)×Nat×Nat×Array ZQ×γ->StateT Yj Sem (ForInStep (Option (Array ZQ)×Nat×Nat×Array ZQ×γ))}{out:Array ZQ}{na nb:Nat}{r:γ}{st':Yj}{Q:Option (Array ZQ)×Nat×Nat×Array ZQ×γ->Yj->Prop}
  (h:Te ρ a b st N na nb out st')(hn:N'<=N+k)(hstep:∀ y n m out r st',Te ρ a b st (N+y) (n+1) (m+2) out st'->Vu M A E s (f y (none,n+1,m+2,out,r)) (KC ρ a b st (N+y) N') st')
  (k1:∀ r c st',LoF ρ a b st r st'->Q (some r,c) st')(k2:∀ na nb out r st',Te ρ a b st N' na nb out st'->Q (none,na,nb,out,r) st'):Vu M A E s (forIn [:k] (none,na,nb,out,r) f) Q st' :=
 FJ (I:=HiJ ρ a b st) (F:=LoF ρ a b st) (tup:=id) (x:=(na,nb,out,r)) h hn (λh h'=>Te.less h h') (λy x st' h=>by
  obtain ⟨_ | n,_ | _ | m,out,r⟩:=x
  ·cases h.ha
  ·cases h.ha
  ·cases h.ha
  ·cases h.hb
  ·exact absurd h.hb (Xy 1)
  ·exact hstep y n m out r st' h) k1 λx st' h=>k2 _ _ _ _ st' h
theorem Zfq{α β:Type}{c:Prop}{dc:Decidable c}{Q:α->Yj->Prop}{t:StateT Yj Sem α}{J:Unit->Nat->β->StateT Yj Sem α}{x n:Nat}{y:β}(P:Nat->β->Prop)(hJ:∀ n y,P n y->Vu M A E s (J () (n+1) y) Q st)
  (h1:c->(∀ n y,P n y->Vu M A E s (J () (n+1) y) Q st)->Vu M A E s t Q st)(h2:¬ c->P n y)(e:x=n+1):Vu M A E s (if c then t else J () x y) Q st :=
 Ua (λh=>h1 h hJ) λh=>e▸hJ _ _ (h2 h)
theorem FO{x p:Nat}(h:¬ x-p>0):x<=p:=by lia
theorem Zir{N n p m T:Nat}(hp:p<=n)(h:N+(n+m)<=T):N+(p+m)<=T:=Zl (Yh (Ws hp _) _) h
theorem Zlj{N n p m T:Nat}(hp:p<=m)(h:N+(n+m)<=T):N+(n+p)<=T:=Zl (Yh (Yh hp _) _) h
theorem Zlk{N n m T:Nat}(h:N+(n+1+m)<=T):N+1+(n+m)<=T:=by lia
theorem Zcl{N n m T:Nat}(h:N+(n+(m+1))<=T):N+1+(n+m)<=T:=by lia
theorem MI.startH{σ:ZQ->Int}{a b:Array ZQ}(h:MH σ X a b):IQ σ a b #[] a.size b.size:=by
 have pw:∀ {a:Array ZQ},Ris σ a->(a.toList.take a.size).reverse.Pairwise λx y=>ng σ x<ng σ y:=λ{a} h=>by
  rw [show a.toList.take a.size=a.toList from J8 (by exact Z6 _)]
  refine List.pairwise_reverse.mpr (YU.mpr λi j hi hj hij=>?_)
  simp only [Array.getElem_toList]
  have:=h i j (by simpa using hi) (by simpa using hj) hij
  lia
 refine⟨by simpa using pw h.ra,by simpa using pw h.rb,?_⟩
 rw [show a.toList.take a.size=a.toList from J8 (by exact Z6 _),show b.toList.take b.size=b.toList from J8 (by exact Z6 _)]
 show(a.toList.reverse++b.toList.reverse).Perm _
 exact(List.Perm.append (UW _) (UW _))
theorem Ris.ge{σ:ZQ->Int}{a:Array ZQ}(h:Ris σ a){i j:Nat}(hi:i<a.size)(hj:j<a.size)(hij:i<=j){z:Int}(hz:σ a[j]<z):σ a[i]<z:=by
 by_cases e:i=j
 ·subst e; exact hz
 ·have:=h i j hi hj (by exact Xz (by assumption) (by assumption)); lia
structure HiP1 (ρ:Zh->Int)(a b:Array ZQ)(N m:Nat)(hb:m+1<b.size)(n:Nat)(out:Array ZQ):Prop where
 ml:IQ (sg ρ) a b out (n+1) (m+2)
 ha:n<a.size
 gt:∀ j (hj:j<a.size),j<n+1->ρ a[j].1<ρ b[m+1].1
 rem:N+(n+1+(m+2))<=a.size+b.size
structure HiP2 (ρ:Zh->Int)(a b:Array ZQ)(N n:Nat)(ha:n<a.size)(nb:Nat)(out:Array ZQ):Prop where
 ml:IQ (sg ρ) a b out (n+1) nb
 hb:1<nb
 hb':nb<=b.size
 gt:∀ j (hj:j<b.size),j<nb->ρ b[j].1<ρ a[n].1
 rem:N+(n+1+nb)<=a.size+b.size
theorem BF{n:Nat}(h:n≠0)(h1:n≠1):1<n:=by lia
theorem mHi(I:Cmp M A s ρ kd X)(hk:kindOf st=kd){a b:Array ZQ}(H:MH (sg ρ) X a b){Q:Array ZQ->Yj->Prop}(k:∀ r st',LoF ρ a b st r st'->Q r st'):Vu M A E s (Zdk a b) Q st:=by
 have nb0:=H.nb
 have na0:=H.na
 have hl:a.size-1<a.size:=Nat.sub_lt na0 J6
 have e1:a.size-1+1=a.size:=Nat.sub_add_cancel na0
 have M0:IQ (sg ρ) a b #[a[a.size-1]] (a.size-1) b.size:=IQ.pa (out:=#[]) (e1.symm▸MI.startH H) hl (Z6 _) λj hj uu=>H.last j hj
 refine IJ (m:=a.size-1) (n:=0) (m':=b.size) (n':=1) Xm (ZV hl) (λh1=>YO (k _ _ ⟨⟨_,rfl⟩,M0.done (.inl h1)⟩)) (λh2=>YO (k _ _ ⟨⟨_,rfl⟩,M0.first h2 nb0 (ZU hl) H.first⟩)) λh1 h2=>?_
 refine ZX (Dl (N:=0) (N':=a.size+b.size) ⟨⟨_,rfl⟩,M0,WH h1,ZU hl,BF (Ys nb0) h2,Z6 _,by rw [Nat.zero_add]; exact Ws (ZU hl) _⟩ (YL _ _) (λx n m out r st1 L=>?_) (λr c st' F=>YO (k _ _ F)) λna nb out r st' L=>absurd L.rem (UD (Uy (Nat.add_pos_left L.ha _))))
 dsimp -zeta only
 extract_lets s1 i1 s2 i2 s3 o1 g1 p1 q1
 refine ZX (Dl (N':=0+x+1) L (Yh (Zl nb0 (YL _ _)) _) (λy n m out r st2 L=>?_) (λr c st' F=>KC.fin F.hst F.mg) λna nb out r st2 L=>?_)
 ·have ha:=L.ha'
  have hb:=L.hb'
  dsimp -zeta only
  extract_lets s1 i1 s2 i2 s3 o1 s4 p1 q1
  refine ZX (Vc (ZV hb) ?_)
  refine ZX (Vc (ZV ha) ?_)
  refine ZX (gLt I (L.kind hk) (H.xb _ hb) (H.xa _ ha) ?_)
  refine Ua (λhc=>?_) λhc=>?_
  ·have ML':=IQ.pa L.ml ha hb λj hj hjn=>H.rb.ge hj hb (XU hjn) (of_decide_eq_true hc)
   refine ZX (Vc (ZV ha) ?_)
   refine JP (λhe=>KC.fin L.hst (ML'.done (.inl he))) λhe=>?_
   have LI:Te ρ a b st (0+x+y+1) n (m+2) _ st2:=⟨L.hst,ML',WH he,ZU ha,L.hb,hb,Zlk L.rem⟩
   exact Gu (KC.stop LI (Xv (Zx _ _))) (KC.next LI)
  ·have ML':=IQ.pb (nb:=m+1) L.ml hb ha λj hj hjn=>H.ra.ge hj ha (XU hjn) (V4 (λh=>hc (decide_eq_true h)) (H.ne n ha (m+1) hb))
   refine ZX (Vc (ZV hb) ?_)
   refine JP (λhe=>KC.fin L.hst (ML'.first he nb0 ha H.first)) λhe=>?_
   have LI:Te ρ a b st (0+x+y+1) (n+1) (m+1) _ st2:=⟨L.hst,ML',L.ha,ha,BF (XA m) he,ZU hb,Zcl L.rem⟩
   exact Gu (KC.stop LI (Xv (Zx _ _))) (KC.next LI)
 refine ZX (wpS_lift (Xm ⟨rfl,?_⟩))
 refine ZX (Dl (N':=0+x+1) L (Zx _ _) (λy n m out r st3 L=>?_) (λr c st' F=>KC.fin F.hst F.mg) λna nb out r st2 L=>ZX (JT (KC.next (L.note _))))
 dsimp -zeta only
 extract_lets -underBinder s1 i1 s2 i2 s3 o1 s4 g1 s5 p1 q1 j1 g2
 refine DO λg=>?_
 refine ZX (JT ?_)
 have hst4:=(L.note g).hst
 have hk4:=(L.note g).kind hk
 have ha:=L.ha'
 have hb:=L.hb'
 refine ZX (Vc (ZV hb) ?_)
 refine ZX (galP I hk4 false (H.xb _ hb) H.ra H.xa (λj hj=>H.ne j hj _ hb) ha (YM n) λp hp h1 h2=>?_)
 have MLk:=L.ml.ka hp ha hb λi hi hmi hin j hj hjn=>H.rb.ge hj hb (XU hjn) (h2 i hi hmi hin)
 dsimp -zeta only
 extract_lets -underBinder k1 ac j2 o2 i3
 refine Zfq (HiP1 ρ a b (0+x+1+y) m hb) (λn out P=>?_) (λuu J=>?_) (λc0=>⟨L.ml,ha,λj hj hjn=>h1 j hj (Z9 hjn (FO c0)),L.rem⟩) rfl
 ·have ha:=P.ha
  dsimp -zeta only [j2]
  extract_lets -underBinder i4
  refine ZX (Vc (ZV hb) ?_)
  have M2:=IQ.pb (nb:=m+1) P.ml hb ha P.gt
  extract_lets -underBinder o3
  refine JP (λe=>KC.fin hst4 (M2.first e nb0 ha H.first)) λe=>?_
  refine ZX (Vc (ZV ha) ?_)
  refine ZX (galP I hk4 true (H.xa _ ha) H.rb H.xb (λj hj e=>H.ne n ha j hj e.symm) (n:=m+1) (ZU hb) (YM m) λq hq g1 g2=>?_)
  have M3:=M2.kb hq ha (ZU hb) λi hi' hmi hin j hj hjm=>H.ra.ge hj ha (XU hjm) (g2 i hi' hmi hin)
  dsimp -zeta only
  extract_lets -underBinder k2 bc j3 o4 i5
  refine Nn (HiP2 ρ a b (0+x+1+y+1) n ha) (λnb out R=>?_) (λuu J=>?_) λc0=>⟨M2,BF (XA m) e,ZU hb,λj hj hjn=>g1 j hj (Z9 hjn (FO c0)),Zcl P.rem⟩
  ·dsimp -zeta only [j3]
   extract_lets -underBinder i6
   refine ZX (Vc (ZV ha) ?_)
   have M4:=IQ.pa R.ml ha R.hb' R.gt
   extract_lets -underBinder o5
   refine JP (λe=>KC.fin hst4 (M4.done (.inl e))) λe=>?_
   have LI:Te ρ a b st (0+x+1+y+1) n nb _ _:=⟨hst4,M4,WH e,ZU ha,R.hb,R.hb',Zir (Wb n) R.rem⟩
   exact Gu (KC.stop LI (Xv (Zl (Wb _) (Zx _ _)))) (KC.next LI)
  ·extract_lets -underBinder o5 i6
   refine JP (λe=>KC.fin hst4 (M3.first e nb0 ha H.first)) λe1=>?_
   exact JP (λe=>KC.fin hst4 (M3.done (.inr e))) λe2=>J _ _ ⟨M3,BF e2 e1,Zl hq (ZU hb),g1,Zlj hq (Zcl P.rem)⟩
 ·extract_lets -underBinder o3 i4
  refine JP (λe=>KC.fin hst4 (MLk.done (.inl e))) λe=>?_
  refine zE (Nat.exists_eq_succ_of_ne_zero e) λp zr=>?_; obtain rfl:=zr
  exact J _ _ ⟨MLk,Zl hp ha,h1,Zir hp L.rem⟩
end
noncomputable def N3(arr:Array ZQ)(o:Nat)(l:List ZQ)(n:Nat):Array ZQ:=(l.zipIdx n).foldl (λa (p:ZQ×Nat)=>a.setIfInBounds (o+p.2) p.1) arr
theorem Im:∀ (l:List ZQ) (arr:Array ZQ) (o n:Nat),o+n+l.length<=arr.size->(N3 arr o l n).toList=arr.toList.take (o+n)++l++arr.toList.drop (o+n+l.length)
 | [],arr,o,n,h=>by simp [N3]
 | p::l,arr,o,n,h=>by
  have hl:o+n<arr.size:=by simp at h; exact Yg (Zx _ _) (by assumption)
  have h':o+(n+1)+l.length<=(arr.setIfInBounds (o+n) p).size:=by simp at h ⊢; lia
  have e:N3 arr o (p::l) n=N3 (arr.setIfInBounds (o+n) p) o l (n+1):=by
   delta N3; rw [List.zipIdx_cons,List.foldl_cons]
  rw [e,(Im l (arr.setIfInBounds (o+n) p) o (n+1) h'),Array.toList_setIfInBounds]
  have hL:o+n<arr.toList.length:=by simpa using hl
  have e1:(arr.toList.set (o+n) p).take (o+(n+1))=arr.toList.take (o+n)++[p]:=by
   rw [show o+(n+1)=o+n+1 by exact rfl,List.take_succ_eq_append_getElem (by simpa using hl),List.take_set_of_le (Z6 _)]
   simp
  have e2:(arr.toList.set (o+n) p).drop (o+(n+1)+l.length)=arr.toList.drop (o+n+(p::l).length):=by
   rw [List.drop_set_of_lt (by exact Zx _ _),show o+(n+1)+l.length=o+n+(p::l).length by simp; lia]
  rw [e1,e2]; simp
theorem Sg{arr:Array ZQ}{o:Nat}{l:List ZQ}(h:o+l.length<=arr.size)(j:Nat):(N3 arr o l 0)[j]? = if o<=j/\j<o+l.length then l[j-o]? else arr[j]? := by
 have e:=Im l arr o 0 (by omega)
 rw [Nat.add_zero] at e
 rw [<- W3,e]
 have hto:(arr.toList.take o).length=o:=by simp; lia
 by_cases h1:j<o
 ·rw [if_neg (by lia),WR,YK (by lia),List.getElem?_take_of_lt h1,W3]
 ·by_cases h2:j<o+l.length
  ·rw [if_pos ⟨by exact Nat.le_of_not_lt (by assumption),h2⟩,WR,Yd (by lia),hto,YK (by lia)]
  ·rw [if_neg (by lia),Yd (by simp; grind),List.getElem?_drop,<- W3]
   congr 1
   simp; grind
theorem Zcu{arr:Array ZQ}{o:Nat}{l:List ZQ}(h:o+l.length<=arr.size)(hp:l.Perm (arr.extract o (o+l.length)).toList):(N3 arr o l 0).Perm arr:=by
 rw [UE,Im l arr o 0 (by omega),Nat.add_zero]
 have e:arr.toList=arr.toList.take o++(arr.extract o (o+l.length)).toList++arr.toList.drop (o+l.length):=by
  rw [Vb,UO,Nat.add_sub_cancel_left,WR,<- List.drop_drop,JO,JO]
 refine List.Perm.trans ?_ (List.Perm.of_eq e.symm)
 exact(hp.append_left _).append_right _
structure BK (ρ:Zh->Int)(xs:Array ZQ)(i n:Nat):Prop where
 le:i+n<=xs.size
 inc:∀ j k,i<=j->j<k->k<i+n->kv ρ xs j<kv ρ xs k
structure SG (ρ:Zh->Int)(kd:SortKind)(a₀:Array ZQ)(st:Yj):Prop where
 perm:(YI st).Perm a₀
 kind:kindOf st=kd
 failed:failedOf st=none
section
variable {M:XJ}{a₀:Array ZQ}
theorem SG.size(h:SG ρ kd a₀ st):(YI st).size=a₀.size:=h.perm.size_eq
theorem SG.mem(h:SG ρ kd a₀ st){i:Nat}(hi:i<(YI st).size):(YI st)[i]∈a₀.toList:=(UE.mp h.perm).mem_iff.mp (by exact Array.mem_toList_iff.mpr (Array.getElem_mem _))
theorem SG.ne(h:SG ρ kd a₀ st)(I:SI M A s ρ kd a₀){i j:Nat}(hi:i<(YI st).size)(hj:j<(YI st).size)(hij:i≠j):kv ρ (YI st) i≠kv ρ (YI st) j :=
 SB.ne (st:=setPending st #[]) ⟨h.perm,h.kind,h.failed,rfl⟩ I (h.size▸hi) (h.size▸hj) hij
theorem SI.cmp'(I:SI M A s ρ kd a₀):Cmp M A s ρ kd a₀.toList:=⟨I.cmp⟩
end
section
variable {M:XJ}{a₀:Array ZQ}
theorem B4{xs:Array ZQ}{p q i:Nat}(h:i<(xs.extract p q).size):p+i<q/\p+i<xs.size:=by
 rw [Array.size_extract] at h
 have h:=Nat.add_lt_of_lt_sub' h
 exact⟨Z9 h (Nat.min_le_left _ _),Z9 h (Nat.min_le_right _ _)⟩
theorem GD{xs:Array ZQ}{p q i:Nat}(h:i<(xs.extract p q).size):sg ρ (xs.extract p q)[i]=kv ρ xs (p+i):=by rw [Gb (B4 h).2,Array.getElem_extract]
theorem KU{xs:Array ZQ}{p q:Nat}(hq:q<=xs.size):(xs.extract p q).size=q-p:=by rw [Array.size_extract,Nat.min_eq_left hq]
theorem Kh{xs:Array ZQ}{p q:Nat}(h:p<q)(hq:q<=xs.size):p+((xs.extract p q).size-1)=q-1/\0<(xs.extract p q).size:=by
 rw [KU hq,<- Nat.add_sub_assoc (Nat.sub_pos_of_lt h),Uz (ZU h)]
 exact⟨rfl,Nat.sub_pos_of_lt h⟩
theorem MH.of{xs:Array ZQ}{X:List ZQ}{p q r:Nat}(hp:p<q)(hq:q<r)(hr:r<=xs.size)(s1:∀ j k,p<=j->j<k->k<q->kv ρ xs j<kv ρ xs k)(s2:∀ j k,q<=j->j<k->k<r->kv ρ xs j<kv ρ xs k)(ne:∀ i j,i<xs.size->j<xs.size->i≠j->kv ρ xs i≠kv ρ xs j)
  (f:∀ t,p<=t->t<q->kv ρ xs q<kv ρ xs t)(l:∀ t,q<=t->t<r->kv ρ xs t<kv ρ xs (q-1))(hx:∀ i (hi:i<xs.size),xs[i]∈X):MH (sg ρ) X (xs.extract p q) (xs.extract q r) where
 ra i j hi hj hij:=by rw [GD hi,GD hj]; exact s1 _ _ (Zx _ _) (YF hij p) (B4 hj).1
 rb i j hi hj hij:=by rw [GD hi,GD hj]; exact s2 _ _ (Zx _ _) (YF hij q) (B4 hj).1
 ne i hi j hj:=by rw [GD hi,GD hj]; exact ne _ _ (B4 hi).2 (B4 hj).2 (X7 (Z9 (B4 hi).1 (Zx _ _)))
 na:=(Kh hp (Zl (ZU hq) hr)).2
 nb:=(Kh hq hr).2
 first i hi:=by rw [GD (Kh hq hr).2,GD hi]; exact f _ (Zx _ _) (B4 hi).1
 last j hj:=by
  have e:=Kh hp (Zl (ZU hq) hr)
  rw [GD hj,GD (Nat.sub_lt e.2 J6),e.1]; exact l _ (Zx _ _) (B4 hj).1
 xa i hi:=by rw [Array.getElem_extract]; exact hx _ _
 xb i hi:=by rw [Array.getElem_extract]; exact hx _ _
theorem BK.join{xs:Array ZQ}{i m n:Nat}(S1:BK ρ xs i m)(S2:BK ρ xs (i+m) n)(h:∀ t,i<=t->t<i+m->kv ρ xs t<kv ρ xs (i+m)):BK ρ xs i (m+n) where
 le:=Ji i m n▸S2.le
 inc j k hj hjk hk:=by
  rw [<- Ji] at hk
  by_cases h1:k<i+m
  ·exact S1.inc j k hj hjk h1
  ·by_cases h2:j<i+m
   ·rcases Nat.eq_or_lt_of_le (Xp.mp h1) with e | e
    ·exact e▸h j hj h2
    ·exact Jd (h j hj h2) (S2.inc _ _ (Z6 _) e hk)
   ·exact S2.inc j k (Xp.mp h2) hjk hk
theorem OP{xs ys:Array ZQ}{sa na nb c d:Nat}{r:List ZQ}(S1:BK ρ xs sa na)(S2:BK ρ xs (sa+na) nb)(hcs:c<sa+na)(hd:sa+na<d)
  (F2:∀ t,sa<=t->t<c->kv ρ xs t<kv ρ xs (sa+na))(F3:∀ t,d<=t->t<sa+na+nb->kv ρ xs (sa+na-1)<kv ρ xs t)(hcn:sa<=c)
  (hr:r.Pairwise λx y=>sg ρ x<sg ρ y)(hl:r.length=d-c)(hm:∀ p∈r,∃ t,c<=t/\t<d/\ρ p.1=kv ρ xs t)(hys:ys.size=xs.size)(hg:∀ j,ys[j]? = if c<=j/\j<d then r[j-c]? else xs[j]?)(hdn:d<=sa+na+nb):BK ρ ys sa (na+nb):=by
 have low:∀ {j},j<c->kv ρ ys j=kv ρ xs j:=λ{j} h=>VV (by rw [hg,if_neg λe=>absurd e.1 (UD h)])
 have high:∀ {j},d<=j->kv ρ ys j=kv ρ xs j:=λ{j} h=>VV (by rw [hg,if_neg λe=>absurd h (UD e.2)])
 have lr:∀ {j},c<=j->j<d->j-c<r.length:=λ{j} h1 h2=>hl▸Nat.sub_lt_sub_right h1 h2
 have at_:∀ {j} (h1:c<=j) (h2:j<d),kv ρ ys j=sg ρ (r[j-c]'(lr h1 h2)):=λ{j} h1 h2=>by
  delta kv; rw [hg,if_pos ⟨h1,h2⟩,ZE (lr h1 h2)]
 have mid:∀ {j},c<=j->j<d->∃ t,c<=t/\t<d/\kv ρ ys j=kv ρ xs t:=λ{j} h1 h2=>by
  exact(at_ h1 h2)▸hm _ (Jq _)
 have up:∀ {j t},sa<=j->j<c->j<t->t<sa+na+nb->kv ρ xs j<kv ρ xs t:=λ{j t} h0 h1 h2 h3=>by
  rcases Ux t (sa+na) with e | e | e
  ·exact S1.inc j t h0 h2 e
  ·exact e▸F2 j h0 h1
  ·exact Jd (F2 j h0 h1) (S2.inc _ t (Z6 _) e h3)
 refine⟨by rw [hys,<- Ji]; exact S2.le,λj k h1 hjk h2=>?_⟩
 rw [<- Ji] at h2
 by_cases j1:j<c
 ·rw [low j1]
  by_cases k1:k<c
  ·exact(low k1)▸up h1 j1 hjk h2
  ·by_cases k2:k<d
   ·refine Gj (mid (Xp.mp k1) k2) λt t1 t2 t3=>?_
    exact t3▸up h1 j1 (Z9 j1 t1) (Z9 t2 hdn)
   ·exact(high (Xp.mp k2))▸up h1 j1 hjk h2
 ·have j1:=Xp.mp j1
  have kc:=Zl j1 (ZU hjk)
  by_cases k2:k<d
  ·rw [at_ j1 (Yx hjk k2),at_ kc k2]
   exact YU.mp hr _ _ _ _ (Nat.sub_lt_sub_right j1 hjk)
  ·have k2:=Xp.mp k2
   rw [high k2]
   by_cases j2:j<d
   ·refine Gj (mid j1 j2) λt t1 t2 t3=>?_
    rw [t3]
    have tk:=Z9 t2 k2
    by_cases ht:t<sa+na
    ·rcases Nat.lt_or_eq_of_le (Ur ht) with e | e
     ·exact Jd (S1.inc t _ (Zl hcn t1) e (Nat.sub_lt (Uw ht) J6)) (F3 k k2 h2)
     ·exact e▸F3 k k2 h2
    ·exact S2.inc t k (Xp.mp ht) tk h2
   ·have j2:=Xp.mp j2
    exact(high j2)▸S2.inc j k (Zl (ZU hd) j2) hjk h2
theorem Zfp{M:XJ}{st st':Yj}{Q:PUnit->Yj->Prop}(h:Q ⟨⟩ st'):Vu M A E s (set st':StateT Yj Sem PUnit) Q st:=JT (f:=λuu=>st') h
theorem mx1{a m n:Nat}(h:m<=n):a+m+(n-m)-1=a+n-1:=by rw [Ji,Uz h]
theorem mx2{a n:Nat}(h:1<=n):a+n-1<a+n:=Nat.sub_lt (Z9 h (YL n a)) J6
theorem mx3{a m n:Nat}(h:m<n):a+m<=a+n-1:=Ur (YF h a)
theorem mx4{m n:Nat}(h:m<=n)(h2:¬ (n-m==0)=true):m<n:=Nat.lt_of_not_le λe=>h2 (beq_iff_eq.mpr (Nat.sub_eq_zero_iff_le.mpr e))
theorem mx5{a m n d:Nat}(h:m<=n):a+m+(a+n+d-(a+m))=a+n+d:=Uz (Zl (Yh h a) (Zx _ d))
theorem mx7{a m n d:Nat}(h:m<=n):a+n-(a+m)+(a+n+d-(a+n))=a+n+d-(a+m):=by rw [Nat.add_sub_cancel_left,Nat.add_sub_add_left,Ji,Nat.add_sub_add_left,Nat.sub_add_comm h]
theorem mx6{m n:Nat}(h:m<=n)(h2:(n-m==0)=true):m=n:=Nat.le_antisymm h (Nat.sub_eq_zero_iff_le.mp (eq_of_beq h2))
theorem mFin(h:SG ρ kd a₀ st){P':Array (Nat×Nat×Nat)}{sa na nb m d:Nat}(S1:BK ρ (YI st) sa na)(S2:BK ρ (YI st) (sa+na) nb)(hm:m<na)(hd:0<d)(hd2:d<=nb)(F2:∀ t,sa<=t->t<sa+m->kv ρ (YI st) t<kv ρ (YI st) (sa+na))(F3:∀ t,sa+na+d<=t->t<sa+na+nb->kv ρ (YI st) (sa+na-1)<kv ρ (YI st) t)
  {r:Array ZQ}{g:Nat}(R:Mrg (sg ρ) ((YI st).extract (sa+m) (sa+na)) ((YI st).extract (sa+na) (sa+na+d)) r){Q:Yj->Prop}
  (k:∀ st',SG ρ kd a₀ st'->YZ st'=P'->BK ρ (YI st') sa (na+nb)->(∀ j,(j<sa\/sa+na+nb<=j)->kv ρ (YI st') j=kv ρ (YI st) j)->Q st'):Q (PyProof.Rows.setArr (IE (setPending st P') g) (N3 (YI st) (sa+m) r.toList 0)):=by
 have hsz:=Zl (Yh hd2 (sa+na)) S2.le
 have hna:=Zl (Zx _ _) hsz
 have hrl:r.toList.length=sa+na+d-(sa+m):=by
  rw [R.perm.length_eq,UG,Jj,Jj,KU hna,KU hsz,mx7 (ZU hm)]
 have hrl':sa+m+r.toList.length=sa+na+d:=hrl▸mx5 (ZU hm)
 have hput:sa+m+r.toList.length<=(YI st).size:=hrl'▸hsz
 have hperm:(N3 (YI st) (sa+m) r.toList 0).Perm (YI st):=Zcu hput (by
  rw [hrl']
  refine R.perm.trans (List.Perm.of_eq ?_)
  rw [<- YX,Array.extract_append_extract,Nat.min_eq_left (Yh (ZU hm) sa),Nat.max_eq_right (Zx _ _)])
 refine k _ ⟨hperm.trans h.perm,h.kind,h.failed⟩ rfl ?_ λj hj=>?_
 ·refine OP (c:=sa+m) (d:=sa+na+d) S1 S2 (YF hm _) (Uy hd) F2 F3 (Zx _ _) R.ris hrl (λp hp=>?_) hperm.size_eq (λj=>?_) (Yh hd2 _)
  ·rcases Xn.mp (R.perm.mem_iff.mp hp) with hp | hp
   ·refine Zfo (Kd (n:=sa+na) hna (List.mem_reverse.mpr hp)) λt t0 t1 t2 zr=>?_; obtain rfl:=zr
    exact⟨t,t1,Z9 t2 (Zx _ _),(Gb _).symm⟩
   ·refine Zfo (Kd (n:=sa+na+d) hsz (List.mem_reverse.mpr hp)) λt t0 t1 t2 zr=>?_; obtain rfl:=zr
    exact⟨t,Zl (Yh (ZU hm) _) t1,t2,(Gb _).symm⟩
  ·rw [Sg hput,hrl']
 ·exact VV (by
   rw [Sg hput,hrl',if_neg λe=>hj.elim (λh=>absurd (Zl (Zx sa m) e.1) (UD h)) λh=>absurd (Z9 e.2 (Yh hd2 _)) (UC h)])
theorem mAt(I:SI (model PW w) A s ρ kd a₀)(h:SG ρ kd a₀ st){l1 l2:List (Nat×Nat×Nat)}{sa na pw nb pw2:Nat}(hp:(YZ st).toList=l1++(sa,na,pw)::(sa+na,nb,pw2)::l2)(S1:BK ρ (YI st) sa na)(S2:BK ρ (YI st) (sa+na) nb)(h1:1<=na)(h2:1<=nb){Q:Bool->Yj->Prop}
  (k:∀ st',SG ρ kd a₀ st'->(YZ st').toList=l1++(sa,na+nb,pw)::l2->BK ρ (YI st') sa (na+nb)->(∀ j,(j<sa\/sa+na+nb<=j)->kv ρ (YI st') j=kv ρ (YI st) j)->Q true st'):Vu (model PW w) A E s (mergeAt' l1.length) Q st:=by
 have e1:((sortPriv% PySem.Builtin.SortState.pending) st)[l1.length]? = some (sa,na,pw):=by
  rw [<- W3,hp,Yd (Z6 _),Nat.sub_self]; rfl
 have e2:((sortPriv% PySem.Builtin.SortState.pending) st)[l1.length+1]? = some (sa+na,nb,pw2):=by
  rw [<- W3,hp,Yd (Zx _ _),Nat.add_sub_cancel_left]; rfl
 have hPl:(((YZ st).setIfInBounds l1.length (sa,na+nb,pw)).eraseIdxIfInBounds (l1.length+1)).toList=l1++(sa,na+nb,pw)::l2:=by
  rw [Array.toList_eraseIdxIfInBounds,Array.toList_setIfInBounds,hp,List.set_append_right _ _ (Z6 _),Nat.sub_self,List.set_cons_zero,List.eraseIdx_append_of_length_le (Zx _ _),Nat.add_sub_cancel_left]
  rfl
 have hsb:sa+na<(YI st).size:=Z9 (Uy h2) S2.le
 have hlt:=Yg (Nat.sub_le (sa+na) 1) hsb
 have kb:=Gb (ρ:=ρ) hsb
 have hx:∀ i (hi:i<(YI st).size),(YI st)[i]∈a₀.toList:=λi hi=>h.mem hi
 have I':=I.cmp'
 have H1:SG ρ kd a₀ (setPending st (((YZ st).setIfInBounds l1.length (sa,na+nb,pw)).eraseIdxIfInBounds (l1.length+1))):=⟨h.perm,h.kind,h.failed⟩
 refine ZX (wpS_get ?_)
 dsimp -zeta only
 rw [e1,e2]
 dsimp -zeta only
 refine ZX (Zfp ?_)
 refine ZX (Vc (ZV hsb) ?_)
 refine ZX (gal I' H1.kind false (hx _ hsb) hx S1.le S1.inc (λj uu hj=>kb▸h.ne I (Yx hj hsb) hsb (X7 hj)) h1 λm hm f1 f2=>?_)
 dsimp -zeta only
 have F2:∀ t,sa<=t->t<sa+m->kv ρ (YI st) t<kv ρ (YI st) (sa+na):=λt t1 t2=>kb▸f1 t t1 t2
 refine Ua (λc1=>YO (k _ H1 hPl (S1.join S2 (mx6 hm c1▸F2)) λuu uu=>rfl)) λc1=>?_
 have hm':=mx4 hm c1
 have kl:∀ hq:sa+m+(na-m)-1<(YI st).size,ρ (YI st)[sa+m+(na-m)-1].1=kv ρ (YI st) (sa+na-1):=λhq=>by rw [<- Gb (ρ:=ρ) hq,mx1 hm]
 have hlast:sa+m+(na-m)-1<(YI st).size:=mx1 (a:=sa) hm▸hlt
 refine ZX (Vc (ZV hlast) ?_)
 refine ZX (gal I' H1.kind true (hx _ hlast) hx S2.le S2.inc (λj hj j2=>kl hlast▸h.ne I (Z9 j2 S2.le) hlt (Ys (Z9 (mx2 h1) hj))) (Nat.sub_lt h2 J6) λd hd g1 g2=>?_)
 rw [kl hlast] at g1 g2
 have F4:∀ t,sa+m<=t->t<sa+na->kv ρ (YI st) (sa+na)<kv ρ (YI st) t:=λt t1 t2=>kb▸f2 t t1 t2
 have hd0:0<d:=WH λe=>Int.lt_irrefl _ (Jd (g2 (sa+na) (e▸Z6 _) (Uy h2)) (F4 _ (mx3 hm') (mx2 h1)))
 dsimp -zeta only
 refine Ua (λc2=>absurd (eq_of_beq c2) (Ys hd0)) λc2=>?_
 have hMH:MH (sg ρ) a₀.toList ((YI st).extract (sa+m) (sa+na)) ((YI st).extract (sa+na) (sa+na+d)):=MH.of (YF hm' _) (Uy hd0) (Zl (Yh hd _) S2.le) (λj k hj=>S1.inc j k (Zl (Zx _ _) hj)) (λj k hj hjk hk=>S2.inc j k hj hjk (Z9 hk (Yh hd _))) (λi j=>h.ne I) F4 g1 hx
 extract_lets -underBinder x y jp
 have J:∀ (r:Array ZQ) st',LoF ρ ((YI st).extract (sa+m) (sa+na)) ((YI st).extract (sa+na) (sa+na+d)) (setPending st (((YZ st).setIfInBounds l1.length (sa,na+nb,pw)).eraseIdxIfInBounds (l1.length+1))) r st'->Vu (model PW w) A E s (jp r) Q st':=λr st' F=>by
  obtain ⟨⟨g,rfl⟩,R⟩:=F
  refine ZX (JT (ZX (wpS_get (YO ?_))))
  exact mFin (g:=g) (Q:=λst'=>Q (failedOf st').isNone st') h S1 S2 hm' hd0 hd F2 g2 R λst' G hp' S' o'=>by
   exact G.failed▸k st' G (hp'▸hPl) S' o'
 exact Gu (ZX (mLo I' H1.kind hMH J)) (ZX (mHi I' H1.kind hMH J))
end
section
variable {M:XJ}{a₀:Array ZQ}
theorem FY(h:SG ρ kd a₀ st)(I:SI M A s ρ kd a₀){i j:Nat}{Q:Option Bool->Yj->Prop}(hi:i<(YI st).size)(hj:j<(YI st).size)
  (hq:Q (some (decide (kv ρ (YI st) i<kv ρ (YI st) j))) st):Vu M A E s (ltAt' i j) Q st:=by
 rw [ltAt'_eq]
 refine ZX (wpS_get ?_)
 refine ZX (Vc (ZV hi) (ZX (Vc (ZV hj) ?_)))
 refine gLt I.cmp' h.kind (h.mem hi) (h.mem hj) ?_
 rw [Gb hi,Gb hj] at hq; exact hq
theorem Kv{R:Int->Int->Prop}(tr:∀ {a b c},R a b->R b c->R a c){f:Nat->Int}{lo x:Nat}(hx:1<=x)(h:∀ i j,lo<=i->i<j->j<lo+x->R (f i) (f j))(e:R (f (lo+x-1)) (f (lo+x)))(i j:Nat)(hi:lo<=i)(hij:i<j)(hj:j<lo+(x+1)):R (f i) (f j):=by
 rcases Nat.lt_or_eq_of_le (XU hj) with h1 | rfl
 ·exact h i j hi hij h1
 ·rcases Nat.lt_or_eq_of_le (Ur hij) with h2 | rfl
  ·exact tr (h i _ hi h2 (mx2 hx)) e
  ·exact e
theorem Nu{τ:Type}{tup:Nat->τ}{P D:Nat->Prop}{b nrem:Nat}{g:Nat->τ->StateT Yj Sem (ForInStep τ)}{Q:τ->Yj->Prop}(hb:b<=nrem)(h0:P b)
  (hstep:∀ x (Q':ForInStep τ->Yj->Prop),b<=x->x<nrem->P x->(D x->Q' (.done (tup x)) st)->(P (x+1)->Q' (.yield (tup (x+1))) st)->Vu M A E s (g x (tup x)) Q' st)
  (k:∀ n,b<=n->n<=nrem->P n->(n=nrem\/D n)->Q (tup n) st):Vu M A E s (forIn [b:nrem] (tup b) g) Q st:=by
 refine wpS_forRange (I:=λx c st'=>st'=st/\c=tup x/\P x) (λx c st' hx1 hx2 hI=>?_) (λc st' hI=>?_) ⟨rfl,rfl,h0⟩
 ·obtain ⟨rfl,rfl,hp⟩:=hI
  exact hstep x _ hx1 hx2 hp (λd=>k x hx1 (ZU hx2) hp (.inr d)) λp=>⟨rfl,rfl,p⟩
 ·obtain ⟨rfl,rfl,hp⟩:=hI
  rw [Nat.max_eq_right hb] at hp ⊢
  exact k nrem hb (Z6 _) hp (.inl rfl)
theorem BK.step(h:SG ρ kd a₀ st)(I:SI M A s ρ kd a₀){lo x:Nat}(S:BK ρ (YI st) lo x)(hx:1<=x)(hs:lo+x<(YI st).size)(hn:¬ kv ρ (YI st) (lo+x)<kv ρ (YI st) (lo+x-1)):BK ρ (YI st) lo (x+1) :=
 ⟨hs,Kv (R:=λa b=>a<b) Jd hx S.inc (V4 hn (h.ne I (Yx (mx2 hx) hs) hs (X7 (mx2 hx))))⟩
theorem Zgb{xs:Array ZQ}{lo:Nat}(h:lo<xs.size):BK ρ xs lo 1:=⟨h,λi j h1 h2 h3=>absurd h3 (UC (Yg h1 h2))⟩
noncomputable abbrev Fal(ρ:Zh->Int)(xs:Array ZQ)(lo n:Nat):Prop:=∀ i j:Nat,lo<=i->i<j->j<lo+n->kv ρ xs j<kv ρ xs i
theorem mir1{lo n j:Nat}(hj:j<lo+n):lo<=lo+(lo+n)-1-j:=Nat.le_sub_of_add_le (Ur (YF hj lo))
theorem mir2{lo n i j:Nat}(hij:i<j)(hj:j<lo+n):lo+(lo+n)-1-j<lo+(lo+n)-1-i:=Nat.sub_lt_sub_left (Z9 hij (Ur (Z9 hj (YL _ _)))) hij
theorem mir3{lo n i:Nat}(h:lo<=i)(hi:i<lo+n):lo+(lo+n)-1-i<lo+n:=by omega
theorem OO{xs:Array ZQ}{lo n:Nat}(h:lo+n<=xs.size)(D:Fal ρ xs lo n):BK ρ (mirror xs lo (lo+n) ((lo+n-lo)/2)) lo n:=by
 refine⟨by rw [mirror_size]; exact h,λi j hi hij hj=>?_⟩
 have hin:=Yx hij hj
 rw [Iq h,Iq h,if_pos ⟨hi,hin⟩,if_pos ⟨Zl hi (ZU hij),hj⟩]
 exact D _ _ (mir1 hj) (mir2 hij hj) (mir3 hi hin)
theorem Zge(I:SI (model PW w) A s ρ kd a₀)(h:SG ρ kd a₀ st){lo nrem:Nat}(hn:lo+nrem<=(YI st).size)(h1:1<=nrem){Q:Option Nat->Yj->Prop}
  (k:∀ m st',SG ρ kd a₀ st'->YZ st'=YZ st->1<=m->m<=nrem->BK ρ (YI st') lo m->(∀ j,(j<lo\/lo+nrem<=j)->kv ρ (YI st') j=kv ρ (YI st) j)->Q (some m) st'):Vu (model PW w) A E s (countRun' lo nrem) Q st:=by
 have lt:∀ {x},x<nrem->lo+x<(YI st).size:=λ{x} h=>Z9 (YF h lo) hn
 have lt':∀ {x},x<=nrem->1<=x->lo+x-1<(YI st).size:=λ{x} h h'=>Z9 (mx2 h') (Zl (Yh h lo) hn)
 refine ZX (Nu (tup:=λx=>(none,x)) (P:=BK ρ (YI st) lo) (D:=λx=>kv ρ (YI st) (lo+x)<kv ρ (YI st) (lo+x-1)) h1 (Zgb (lt h1)) (λx Q' x1 x2 S k1 k2=>ZX (FY h I (lt x2) (lt' (ZU x2) x1) (Ua (λc=>YO (k1 (of_decide_eq_true c))) λc=>YO (k2 (S.step h I x1 (lt x2) λe=>c (decide_eq_true e)))))) λn n1 n2 S hor=>?_)
 refine JP (λuu=>YO (k n st h rfl n1 n2 S λuu uu=>rfl)) λhne=>?_
 extract_lets -underBinder jp
 refine Ua (λc2=>?_) λc2=>?_
 ·exact ZX (FY h I (Z9 (Uy h1) hn) (lt' n2 n1) (Kp (decide_eq_true (S.inc _ _ (Z6 _) (Nat.lt_sub_of_add_lt (YF c2 lo)) (mx2 n1))) (YO (k n st h rfl n1 n2 S λuu uu=>rfl))))
 refine ZX (wpS_lift (Xm ⟨rfl,?_⟩))
 refine ZX (Nu (tup:=λx=>(none,x,0)) (P:=Fal ρ (YI st) lo) (D:=λuu=>True) (Xz n2 hne) (Kv (R:=λa b=>b<a) (λh h'=>Jd h' h) n1 (λi j i1 i2 i3=>absurd (Z9 i3 (Yh (Nat.le_of_not_lt c2) lo)) (UC (Yg i1 i2))) (hor.resolve_left hne)) (λx Q' x1 x2 F k1 k2=>?_) λn n1' n2 F uu=>?_)
 ·have x1:=Zl (YL 1 _) x1
  refine ZX (FY h I (lt x2) (lt' (ZU x2) x1) (Ua (λc=>BC (Xy 0) (YO (k2 (Kv (R:=λa b=>b<a) (λh h'=>Jd h' h) x1 F (of_decide_eq_true c))))) λc=>?_))
  exact ZX (FY h I (lt' (ZU x2) x1) (lt x2) (Kp (decide_eq_true (V4 (λe=>c (decide_eq_true e)) (h.ne I (lt' (ZU x2) x1) (lt x2) (X7 (mx2 x1))))) (YO (k1 trivial))))
 have n1:=Zl (YL 1 _) n1'
 have hs:=Zl (Yh n2 lo) hn
 refine BC (Xy 0) (ZX (wpS_reverse ?_))
 have h':SG ρ kd a₀ (PyProof.Rows.setArr st (mirror (YI st) lo (lo+n) ((lo+n-lo)/2))):=⟨(mirror_perm _ _ _ _).trans h.perm,h.kind,h.failed⟩
 have lt:∀ {x},x<nrem->lo+x<(mirror (YI st) lo (lo+n) ((lo+n-lo)/2)).size:=λ{x} h=>by rw [mirror_size]; exact lt h
 have lt':∀ {x},x<=nrem->1<=x->lo+x-1<(mirror (YI st) lo (lo+n) ((lo+n-lo)/2)).size:=λ{x} h h1=>by rw [mirror_size]; exact lt' h h1
 refine ZX (Nu (tup:=λx=>(none,x)) (P:=BK ρ (mirror (YI st) lo (lo+n) ((lo+n-lo)/2)) lo) (D:=λuu=>True) n2 (OO hs F) (λx Q' x1 x2 S k1 k2=>?_) λm m1 m2 S uu=>YO (k m _ h' rfl (Zl n1 m1) m2 S λj hj=>?_))
 ·have x1:=Zl n1 x1
  exact ZX (FY h' I (lt x2) (lt' (ZU x2) x1) (Ua (λc=>YO (k1 trivial)) λc=>YO (k2 (BK.step h' I S x1 (lt x2) λe=>c (decide_eq_true e)))))
 ·show kv ρ (mirror (YI st) lo (lo+n) ((lo+n-lo)/2)) j=_
  rw [Iq hs,if_neg λe=>hj.elim (UC e.1) λh=>UC (Zl (Yh n2 lo) h) e.2]
end
section
variable {a₀:Array ZQ}
theorem Zhe{l r:Nat}(h:¬ l≥r):(l+r)/2<r/\l<=(l+r)/2:=by lia
theorem Zkh{x y l m r:Nat}(hm:l<=m)(h:r+y<=l+x):r+(y+1)<=m+1+x:=by lia
theorem Ia{xs:Array ZQ}{p q k:Nat}(hs:p+q<xs.size)(h:k<p):kv ρ (bubble xs (p+q) q) k=kv ρ xs k:=by
 rw [BG hs (YL _ _),Nat.add_sub_cancel,if_neg (X7 h),if_neg λe=>Nat.lt_asymm h e.1]
theorem Zew{xs:Array ZQ}{p q:Nat}(hs:p+q<xs.size):kv ρ (bubble xs (p+q) q) p=kv ρ xs (p+q):=by
 rw [BG hs (YL _ _),Nat.add_sub_cancel,if_pos rfl]
theorem Zeu{xs:Array ZQ}{p q k:Nat}(hs:p+q<xs.size)(h:p<=k)(hk:k<p+q):kv ρ (bubble xs (p+q) q) (k+1)=kv ρ xs k:=by
 rw [BG hs (YL _ _),Nat.add_sub_cancel,if_neg (Ys (Nat.lt_succ_of_le h)),if_pos ⟨Nat.lt_succ_of_le h,hk⟩]; rfl
theorem Zev{xs:Array ZQ}{p q k:Nat}(hs:p+q<xs.size)(h:p+q<k):kv ρ (bubble xs (p+q) q) k=kv ρ xs k:=by
 rw [BG hs (YL _ _),Nat.add_sub_cancel,if_neg (Ys (Yg (Zx _ _) h)),if_neg λe=>UC e.2 h]
theorem OQ{xs:Array ZQ}{lo x p q:Nat}(hp:lo<=p)(hq:p+q=lo+x)(hs:p+q<xs.size)(S:BK ρ xs lo x)(h1:∀ i,lo<=i->i<p->kv ρ xs i<kv ρ xs (p+q))(h2:∀ i,p<=i->i<p+q->kv ρ xs (p+q)<kv ρ xs i):BK ρ (bubble xs (p+q) q) lo (x+1):=by
 refine⟨by rw [bubble_size]; show lo+x<_; exact hq▸hs,λi j hi hij hj=>?_⟩
 have hj:j<p+q+1:=hq▸hj
 rcases Ux j p with c | c | c
 ·rw [Ia hs c,Ia hs (Yx hij c)]
  exact S.inc i j hi hij (hq▸Z9 c (Zx _ _))
 ·subst c
  rw [Zew hs,Ia hs hij]; exact h1 i hi hij
 ·refine zE (Nat.exists_eq_succ_of_ne_zero (Ys (Uw c))) λj zr=>?_; obtain rfl:=zr
  have c:=XU c
  have hj:=Nat.lt_of_succ_lt_succ hj
  rw [Zeu hs c hj]
  rcases Ux i p with d | d | d
  ·exact(Ia hs d)▸S.inc i j hi (Z9 d c) (hq▸hj)
  ·subst d
   exact(Zew hs)▸h2 j c hj
  ·refine zE (Nat.exists_eq_succ_of_ne_zero (Ys (Uw d))) λi zr=>?_; obtain rfl:=zr
   have d:=XU d
   have hij:=Nat.lt_of_succ_lt_succ hij
   exact(Zeu hs d (Yx hij hj))▸S.inc i j (Zl hp d) hij (hq▸hj)
structure InsI (ρ:Zh->Int)(kd:SortKind)(a₀:Array ZQ)(st:Yj)(lo n x:Nat)(st':Yj):Prop where
 sg:SG ρ kd a₀ st'
 pend:YZ st'=YZ st
 seg:BK ρ (YI st') lo x
 old:∀ j,(j<lo\/lo+n<=j)->kv ρ (YI st') j=kv ρ (YI st) j
theorem Zli(I:SI (model PW w) A s ρ kd a₀)(h:SG ρ kd a₀ st){lo n ok:Nat}(hn:lo+n<=(YI st).size)(hok:ok<=n)(h1:1<=ok)(S:BK ρ (YI st) lo ok){Q:Bool->Yj->Prop}
  (k:∀ st',SG ρ kd a₀ st'->YZ st'=YZ st->BK ρ (YI st') lo n->(∀ j,(j<lo\/lo+n<=j)->kv ρ (YI st') j=kv ρ (YI st) j)->Q true st'):Vu (model PW w) A E s (binarySort' lo n ok) Q st:=by
 rw [binarySort'_eq,Nat.max_eq_left h1]
 refine ZX (wpS_mono (wpS_forRange (I:=λx c st'=>c=(none,())/\InsI ρ kd a₀ st lo n x st') (Q:=λc st'=>c=(none,())/\InsI ρ kd a₀ st lo n n st') (λx c st' hx1 hx2 hI=>?_) (λc st' hI=>by rw [Nat.max_eq_right hok] at hI; exact hI) ⟨rfl,h,rfl,S,λuu uu=>rfl⟩) λc st' hI=>?_)
 ·obtain ⟨rfl,Z⟩:=hI
  have hxs:lo+x<(YI st').size:=(Z.sg.size.trans h.size.symm)▸Z9 (YF hx2 lo) hn
  have mono:∀ i j,i<=j->j<x->kv ρ (YI st') (lo+i)<=kv ρ (YI st') (lo+j):=λi j hij hj=>(Nat.lt_or_eq_of_le hij).elim (λe=>Int.le_of_lt (Z.seg.inc _ _ (Zx _ _) (YF e lo) (YF hj lo))) λe=>e▸Int.le_refl _
  refine ZX (Km (R:=BS x λi=>decide (kv ρ (YI st') (lo+i)<kv ρ (YI st') (lo+x))) (T:=λl r=>BS x (λi=>decide (kv ρ (YI st') (lo+i)<kv ρ (YI st') (lo+x))) x l r/\r<=l) ⟨Yt _,Z6 _,Xw (Nat.add_comm x 0),λi hi=>absurd hi (JM i),λi h h'=>absurd h (UD h')⟩ (λl r h=>⟨h,Nat.le_of_add_le_add_right h.ms⟩) (λy l r Q' h k1 k2=>?_) λl r h=>?_)
  ·refine Ua (λhge=>YO (k1 _ _ ⟨⟨h.le,h.hn,Ws hge x,h.h1,h.h2⟩,hge⟩)) λhge=>?_
   refine zA (Zhe hge) λm1 m2=>?_
   have mx:=Z9 m1 h.hn
   refine ZX (FY Z.sg I hxs (Yx (YF mx lo) hxs) (Ua (λc=>YO (k2 _ _ ?_)) λc=>YO (k2 _ _ ?_)))
   ·exact⟨m2,ZU mx,Sq m1 h.ms,h.h1,λi h1 h2=>decide_eq_false (Int.not_lt.mpr (Int.le_trans (Int.le_of_lt (of_decide_eq_true c)) (mono _ i h1 h2)))⟩
   ·exact⟨m1,h.hn,Zkh m2 h.ms,λi hi=>decide_eq_true (Int.lt_of_le_of_lt (mono i _ (XU hi) mx) (V4 (λe=>c (decide_eq_true e)) (Z.sg.ne I (Yx (YF mx lo) hxs) hxs (X7 (YF mx lo))))),h.h2⟩
  ·have e1:lo+l+(x-l)=lo+x:=by rw [Ji,Uz (Zl h.1.le h.1.hn)]
   show Vu _ _ _ _ (do moveDown' (lo+x) (lo+l); pure (W0 (none,()))) _ _
   rw [moveDown'_eq,Nat.add_sub_add_left,<- e1]
   have hs:=e1▸hxs
   refine ZX (JT (YO ⟨rfl,⟨(bubble_perm _ _ _).trans Z.sg.perm,Z.sg.kind,Z.sg.failed⟩,Z.pend,OQ (Zx _ _) e1 hs Z.seg (λi h1 h2=>?_) λi h1 h2=>?_,λj hj=>ZF ?_ (Z.old j hj)⟩))
   ·refine zE (Nat.exists_eq_add_of_le h1) λi zr=>?_; obtain rfl:=zr
    exact e1▸of_decide_eq_true (h.1.h1 i (Vq h2))
   ·refine zE (Nat.exists_eq_add_of_le (Zl (Zx lo l) h1)) λi zr=>?_; obtain rfl:=zr
    rw [e1] at h2 ⊢
    exact V4 (of_decide_eq_false (h.1.h2 i (Zl h.2 (Nat.le_of_add_le_add_left h1)) (Vq h2))) (Z.sg.ne I hxs (Yx h2 hxs) (Ys h2))
   ·exact hj.elim (λe=>Ia hs (Z9 e (Zx _ _))) λe=>Zev hs (e1▸Z9 (YF hx2 lo) e)
 ·obtain ⟨rfl,Z⟩:=hI
  exact YO (k st' Z.sg Z.pend Z.seg Z.old)
end
noncomputable def Gr(ρ:Zh->Int)(xs:Array ZQ):List (Nat×Nat×Nat)->Nat->Nat->Prop
 | [],a,b=>a=b
 | p::r,a,b=>p.1=a/\1<=p.2.1/\BK ρ xs a p.2.1/\Gr ρ xs r (a+p.2.1) b
section
variable {M:XJ}{a₀:Array ZQ}{xs ys:Array ZQ}
theorem GW:∀ {l1 l2:List (Nat×Nat×Nat)} {a b:Nat},Gr ρ xs (l1++l2) a b↔∃ c,Gr ρ xs l1 a c/\Gr ρ xs l2 c b
 | [],l2,a,b=>⟨λh=>⟨a,rfl,h⟩,λ⟨c,h1,h2⟩=>by subst h1; exact h2⟩
 | p::l1,l2,a,b=>by
  constructor
  ·rintro ⟨h1,h2,h3,h4⟩
   refine XW (GW.mp h4) λc h5 h6=>?_
   exact⟨c,⟨h1,h2,h3,h5⟩,h6⟩
  ·rintro ⟨c,⟨h1,h2,h3,h5⟩,h6⟩
   exact⟨h1,h2,h3,GW.mpr ⟨c,h5,h6⟩⟩
theorem HZ:∀ {l:List (Nat×Nat×Nat)} {a b:Nat},Gr ρ xs l a b->a+l.length<=b
 | [],a,b,h=>by subst h; exact Z6 _
 | p::l,a,b,⟨_,h2,_,h4⟩=>by
  have:=HZ h4
  rw [Vj]; lia
theorem BK.congr{i n:Nat}(S:BK ρ xs i n)(hs:ys.size=xs.size)(h:∀ j,i<=j->j<i+n->kv ρ ys j=kv ρ xs j):BK ρ ys i n :=
 ⟨by exact hs▸S.le,λj k h1 h2 h3=>by rw [h j h1 (by exact Yx (by assumption) (by assumption)),h k (by exact Zl (by assumption) (ZU (by assumption))) h3]; exact S.inc j k h1 h2 h3⟩
theorem VX(hs:ys.size=xs.size):∀ {l:List (Nat×Nat×Nat)} {a b:Nat},(∀ j,a<=j->j<b->kv ρ ys j=kv ρ xs j)->Gr ρ xs l a b->Gr ρ ys l a b
 | [],a,b,_,h=>h
 | p::l,a,b,hj,⟨h1,h2,h3,h4⟩=>by
  have:=HZ h4
  exact⟨h1,h2,h3.congr hs λj j1 j2=>hj j j1 (by lia),VX hs (λj j1 j2=>hj j (by exact Zl (Zx _ _) (by assumption)) j2) h4⟩
theorem Nj{p:Nat×Nat×Nat}{a b:Nat}:Gr ρ xs [p] a b↔p.1=a/\1<=p.2.1/\BK ρ xs a p.2.1/\a+p.2.1=b:=⟨λ⟨h1,h2,h3,h4⟩=>⟨h1,h2,h3,h4⟩,λ⟨h1,h2,h3,h4⟩=>⟨h1,h2,h3,h4⟩⟩
theorem Ziv(I:SI (model PW w) A s ρ kd a₀)(h:SG ρ kd a₀ st){lo i:Nat}(hC:Gr ρ (YI st) (YZ st).toList 0 lo)(hi:i+1<(YZ st).size){Q:Bool->Yj->Prop}
  (k:∀ st',SG ρ kd a₀ st'->Gr ρ (YI st') (YZ st').toList 0 lo->(YZ st').size+1=(YZ st).size->(∀ j,lo<=j->kv ρ (YI st') j=kv ρ (YI st) j)->Q true st'):Vu (model PW w) A E s (mergeAt' i) Q st:=by
 obtain ⟨l1,x,y,l2,hp,hl⟩:∃ l1 x y l2,(YZ st).toList=l1++x::y::l2/\l1.length=i:=by
  refine⟨(YZ st).toList.take i,(YZ st)[i],(YZ st)[i+1],(YZ st).toList.drop (i+2),?_,by simp; lia⟩
  have e1:=JO i (YZ st).toList
  rw [Ww (by simp; exact ZO (by assumption)),Ww (by simp; omega)] at e1
  simpa using e1.symm
 obtain ⟨sa,na,pw⟩:=x
 obtain ⟨sb,nb,pw2⟩:=y
 rw [hp] at hC
 refine XW (GW.mp hC) λc C1 C2=>?_
 refine Fo C2 λe1 n1 S1 C3=>?_
 refine Fo C3 λe2 n2 S2 C4=>?_
 simp only at e1 n1 S1 e2 n2 S2 C4
 subst e1 e2
 have hle:=HZ C4
 rw [<- hl]
 refine mAt I h hp S1 S2 n1 n2 λst' h' hp' S' ho=>k st' h' ?_ ?_ λj hj=>ho j (.inr (by lia))
 ·rw [hp']
  have hs:(YI st').size=(YI st).size:=by rw [h'.size,h.size]
  exact GW.mpr ⟨sa,VX hs (λj uu j2=>ho j (.inl j2)) C1,rfl,by show 1<=na+nb; exact Nat.le_add_right_of_le (by assumption),S',VX hs (λj j1 uu=>ho j (.inr (by have:sa+(na+nb)<=j:=j1; lia))) (by show Gr ρ (YI st) l2 (sa+(na+nb)) lo; rw [<- Ji]; exact C4)⟩
 ·have a1:(YZ st').size=(YZ st').toList.length:=by exact rfl
  have a2:(YZ st).size=(YZ st).toList.length:=by exact rfl
  rw [a1,a2,hp',hp]; simp; exact Ji ..
theorem HY:∀ {l:List (Nat×Nat×Nat)} {a b i pw:Nat},Gr ρ xs l a b->Gr ρ xs (l.modify i λx=>(x.1,x.2.1,pw)) a b
 | [],a,b,i,pw,h=>by rw [List.modify_nil]; exact h
 | p::l,a,b,0,pw,h=>by exact h
 | p::l,a,b,i+1,pw,⟨h1,h2,h3,h4⟩=>by exact⟨h1,h2,h3,HY h4⟩
end
section
variable {M:XJ}{a₀:Array ZQ}{xs ys:Array ZQ}
structure BY (ρ:Zh->Int)(kd:SortKind)(a₀:Array ZQ)(lo:Nat)(st:Yj):Prop where
 sg:SG ρ kd a₀ st
 ch:Gr ρ (YI st) (YZ st).toList 0 lo
structure Ib (ρ:Zh->Int)(kd:SortKind)(a₀:Array ZQ)(lo n:Nat)(st:Yj):Prop where
 r:BY ρ kd a₀ lo st
 le:lo+n<=a₀.size
 pos:1<=n
 seg:BK ρ (YI st) lo n
theorem Ib.next{lo n:Nat}(h:Ib ρ kd a₀ lo n st):BY ρ kd a₀ (lo+n) (setPending st ((YZ st).push (lo,n,0))):=⟨⟨h.r.sg.perm,h.r.sg.kind,h.r.sg.failed⟩,by
 rw [Array.toList_push]
 exact GW.mpr ⟨lo,h.r.ch,Nj.mpr ⟨rfl,h.pos,h.seg,rfl⟩⟩⟩
theorem Ib.pow{lo n i pw:Nat}(h:Ib ρ kd a₀ lo n st):Ib ρ kd a₀ lo n (setPending st ((YZ st).modify i λx=>(x.1,x.2.1,pw))):=⟨⟨⟨h.r.sg.perm,h.r.sg.kind,h.r.sg.failed⟩,by
 show Gr ρ (YI st) ((YZ st).modify i λx=>(x.1,x.2.1,pw)).toList 0 lo
 rw [Array.toList_modify]
 exact HY h.r.ch⟩,h.le,h.pos,h.seg⟩
noncomputable def qRun(ρ:Zh->Int)(kd:SortKind)(a₀:Array ZQ)(x:Nat)(r:ForInStep (Option Unit×Nat))(st':Yj):Prop :=
 match r with
 | .done c=>c=(none,a₀.size)/\BY ρ kd a₀ a₀.size st'
 | .yield c=>∃ lo,c=(none,lo)/\BY ρ kd a₀ lo st'/\x+1<=lo/\lo<=a₀.size
theorem Zcf{M:XJ}{g:Nat->Option Unit×Nat->StateT Yj Sem (ForInStep (Option Unit×Nat))}{Q:Option Unit×Nat->Yj->Prop}(h:BY ρ kd a₀ 0 st)(hstep:∀ x lo st',BY ρ kd a₀ lo st'->x<=lo->lo<=a₀.size->Vu M A E s (g x (none,lo)) (qRun ρ kd a₀ x) st')
  (k:∀ st',BY ρ kd a₀ a₀.size st'->Q (none,a₀.size) st'):Vu M A E s (forIn [:a₀.size] (none,0) g) Q st:=by
 refine wpS_forRange (I:=λx c st'=>∃ lo,c=(none,lo)/\BY ρ kd a₀ lo st'/\x<=lo/\lo<=a₀.size) (λx c st' uu uu hI=>?_) (λc st' hI=>?_) ⟨0,rfl,h,Z6 _,Yt _⟩
 ·refine zE hI λlo zr=>?_; obtain ⟨rfl,R,h1,h2⟩:=zr
  refine wpS_mono (hstep x lo st' R h1 h2) λr st2 hq=>?_
  cases r with
  | done c=>obtain ⟨rfl,h⟩:=hq; exact k _ h
  | yield c=>exact hq
 ·refine zE hI λlo zr=>?_; obtain ⟨rfl,R,h1,h2⟩:=zr
  rw [Nat.zero_max] at h1
  rw [(Nat.le_antisymm h2 h1)] at R ⊢; exact k _ R
theorem Zjg{M:XJ}{α β:Type}{c:Prop}{dc:Decidable c}{Q:α->Yj->Prop}{t:StateT Yj Sem α}{J:Unit->β->StateT Yj Sem α}{x:β}(P:β->Yj->Prop)(hJ:∀ x st',P x st'->Vu M A E s (J () x) Q st')(h1:c->(∀ x st',P x st'->Vu M A E s (J () x) Q st')->Vu M A E s t Q st)(h2:¬ c->P x st):Vu M A E s (if c then t else J () x) Q st :=
 Ua (λh=>h1 h hJ) λh=>hJ _ _ (h2 h)
theorem Oa{M:XJ}{n:Nat}{g:Nat->Option Unit×Unit->StateT Yj Sem (ForInStep (Option Unit×Unit))}{Q:Option Unit×Unit->Yj->Prop}(P:Nat->Yj->Prop)(h:P 0 st)(he:∀ st',P n st'->Q (none,()) st')
  (hstep:∀ x st' (Q':ForInStep (Option Unit×Unit)->Yj->Prop),P x st'->(∀ st',Q (none,()) st'->Q' (.done (none,())) st')->(∀ st',P (x+1) st'->Q' (.yield (none,())) st')->Vu M A E s (g x (none,())) Q' st'):Vu M A E s (forIn [:n] (none,()) g) Q st:=by
 refine wpS_forRange (I:=λx c st'=>c=(none,())/\P x st') (λx c st' uu uu hI=>?_) (λc st' hI=>?_) ⟨rfl,h⟩
 ·obtain ⟨rfl,hp⟩:=hI
  exact hstep x st' _ hp (λuu h=>h) λuu h=>⟨rfl,h⟩
 ·obtain ⟨rfl,hp⟩:=hI
  exact he _ (Nat.zero_max n▸hp)
theorem FA(R:BY ρ kd a₀ a₀.size st)(h:(YZ st).size<=1):Inc ρ (YI st) a₀.size:=λi j hij hj=>by
 have hC:=R.ch
 rw [<- Jj] at h
 match hq:(YZ st).toList with
 | []=>rw [hq] at hC; exact absurd hj (by rw [<- show 0=a₀.size from hC]; exact JM j)
 | [x]=>
  rw [hq] at hC
  refine Fo (Nj.mp hC) λc1 c2 c3 c4=>?_
  exact c3.inc i j (Yt _) hij (c4▸hj)
 | x::y::r=>rw [hq] at h; exact absurd (JE h) (Nat.not_succ_le_zero _)
theorem Zha{c:Prop}{dc:Decidable c}{n:Nat}(h:¬ n<=1):(if c then n-2-1 else n-2)+1<n:=by split<;>omega
theorem Zdm{m n x N:Nat}(e:m+1=n)(h:n+x<=N):m+(x+1)<=N:=by lia
theorem DT{n:Nat}(h:n>1):n-2<n/\n-2+1<n:=by omega
theorem Zjm(I:SI (model PW w) A s ρ kd a₀)(h:SG ρ kd a₀ st)(hp:YZ st = #[])(h2:2<=a₀.size){Q:Unit->Yj->Prop}
  (k:∀ st',(YI st').Perm a₀->failedOf st'=none->Inc ρ (YI st') a₀.size->Q () st'):Vu (model PW w) A E s sortRuns' Q st:=by
 rw [sortRuns'_eq]
 refine ZX (wpS_get ?_)
 dsimp -zeta only
 rw [h.size]
 extract_lets -underBinder sz mr lo0
 refine ZX (Zcf ⟨h,(by exact hp▸rfl)⟩ (λx lo st1 R hlo1 hlo2=>?_) λst1 R=>?_)
 ·have e0:=Uz hlo2
  dsimp -zeta only
  refine Ua (λhge=>YO ⟨congrArg (Prod.mk none) (Nat.le_antisymm hlo2 hge),Nat.le_antisymm hlo2 hge▸R⟩) λhge=>?_
  have hpos:=Nat.sub_pos_of_lt (Nat.lt_of_not_le hge)
  refine ZX (Zge I R.sg (lo:=lo) (nrem:=a₀.size-lo) (by rw [e0,R.sg.size]; exact Z6 _) hpos λm st2 G2 p2 m1 m2 S2 o2=>?_)
  have N2:Ib ρ kd a₀ lo m st2:=⟨⟨G2,by exact p2▸VX (G2.size.trans R.sg.size.symm) (λj uu hj=>o2 j (.inl hj)) R.ch⟩,e0▸Yh m2 lo,m1,S2⟩
  dsimp -zeta only
  extract_lets -underBinder n0 jp fo
  refine Zjg (Ib ρ kd a₀ lo) (λn st3 N=>?_) (λhlt J=>?_) λuu=>N2
  ·refine ZX (wpS_get ?_)
   extract_lets -underBinder jp2
   have J2:∀ st3,Ib ρ kd a₀ lo n st3->Vu (model PW w) A E s (jp2 ()) (qRun ρ kd a₀ x) st3:=λst3 N=>ZX (JT (YO ⟨_,rfl,N.next,Zl (Xv hlo1) (Yh N.pos lo),N.le⟩))
   rcases (YZ st3).back? with _ | ⟨s1,n1,q1⟩
   ·exact J2 _ N
   ·dsimp -zeta only
    extract_lets -underBinder pw
    refine ZX (Oa (P:=λuu=>Ib ρ kd a₀ lo n) N (λst4 N=>ZX (JT (J2 _ N.pow))) λy st4 Q' N k1 k2=>?_)
    refine ZX (wpS_get ?_)
    extract_lets -underBinder p
    by_cases hz:(YZ st4).size>1
    ·rw [if_pos hz,ZV (DT hz).1]
     refine Ua (λuu=>YO (k1 _ ?_)) λuu=>?_
     ·exact ZX (JT (J2 _ N.pow))
     ·refine ZX (Ziv I N.r.sg N.r.ch (DT hz).2 λst5 G5 C5 e5 o5=>BC Zn (YO (k2 _ ⟨⟨G5,C5⟩,N.le,N.pos,N.seg.congr (G5.size.trans N.r.sg.size.symm) λj hj uu=>o5 j hj⟩)))
    ·rw [if_neg hz]
     exact YO (k1 _ (ZX (JT (J2 _ N.pow))))
  ·refine ZX (wpS_lift (Xm ⟨rfl,?_⟩))
   have hmin:min (a₀.size-lo) mr<=a₀.size-lo:=Nat.min_le_left _ _
   refine ZX (Zli I G2 (n:=min (a₀.size-lo) mr) (Zl (Yh hmin lo) (Xw (e0.trans G2.size.symm))) (Nat.le_min.mpr ⟨m2,ZU hlt⟩) m1 S2 λst3 G3 p3 S3 o3=>BC Zn (J _ _ ⟨⟨G3,?_⟩,Zl (Yh hmin lo) (Xw e0),Nat.le_min.mpr ⟨hpos,Zl m1 (ZU hlt)⟩,S3⟩))
   exact p3▸VX (G3.size.trans G2.size.symm) (λj uu hj=>o3 j (.inl hj)) N2.r.ch
 ·have hlen:=HZ R.ch
  rw [Jj] at hlen
  refine ZX (Oa (P:=λx st=>BY ρ kd a₀ a₀.size st/\((YZ st).size<=1\/(YZ st).size+x<=a₀.size)) (Q:=λc st=>Vu (model PW w) A E s _ Q st) ⟨R,.inr (Zl (Xw (Nat.zero_add _).symm) hlen)⟩ (λst2 h=>YO (k _ h.1.sg.perm h.1.sg.failed (FA h.1 (h.2.elim id λe=>Zl (Nat.le_of_add_le_add_right (Zl e (YL _ 0))) (Yt 1))))) λx st2 Q' h k1 k2=>?_)
  refine ZX (wpS_get ?_)
  extract_lets -underBinder p
  refine Ua (λhle=>YO (k1 _ (YO (k _ h.1.sg.perm h.1.sg.failed (FA h.1 hle))))) λhle=>?_
  extract_lets -underBinder
  exact ZX (Ziv I h.1.sg h.1.ch (Zha hle) λst3 G3 C3 e3 o3=>BC Zn (YO (k2 _ ⟨⟨G3,C3⟩,.inr (Zdm e3 (h.2.resolve_left hle))⟩)))
end
end
section
open PySem PySem.W PySem.Calls PyProof.Rows PySem.Spec
noncomputable def Bu(q:UU):ZQ:=(.ref q.r,.ref q.r)
noncomputable def Zbb(κ:We)(b:Bool)(rows:List UU):Prop:=if b=true then rows.Pairwise (λx y=>ltR κ y x=true) else rows.Pairwise (λx y=>ltR κ x y=true)
theorem Th(rows:List UU):(Wn rows).toArray.zip (Wn rows).toArray=(rows.map Bu).toArray:=by
 apply Array.toList_inj.mp
 rw [Array.toList_zip]
 delta Wn
 rw [List.zip_map',]
 rfl
theorem IA{α:Type}(l:List α)(h:l.length<2):l = []\/∃ q,l = [q]:=by
 cases l with
 | nil=>exact .inl rfl
 | cons q r=>
  cases r with
  | nil=>exact .inr ⟨q,rfl⟩
  | cons p t=>simp only [Vj] at h; lia
theorem Zbz(b:Bool){rows:List UU}(h:rows.length<2):(if b=true then((rows.map Bu).toArray).reverse else(rows.map Bu).toArray).map (λuu=>uu.2)=(Wn rows).toArray:=by
 rcases IA rows h with rfl | ⟨q,rfl⟩
 ·cases b<;>simp [Wn]
 ·cases b<;>simp [Bu,Wn]
theorem Zby{R:UU->UU->Prop}{rows:List UU}(h:rows.length<2):rows.Pairwise R:=by
 rcases IA rows h with rfl | ⟨q,rfl⟩
 ·exact List.Pairwise.nil
 ·exact List.pairwise_singleton _ _
theorem Zjo(κ:We){rows:List UU}(KR:I0 κ rows)(P:IW rows)(nb:Uc s.heap)(hr:∀ q∈rows,s.heap.get? q.r=some (XX [q.key,q.pos])){x y:UU}(hx:x∈rows)(hy:y∈rows){Q:Bool->Zi->Prop}(h:Q (ltR κ x y) s) :
  Zp (model PW w) A (keyLt' (tuples' true) (.ref x.r) (.ref y.r)) Q E s:=by
 refine zE (P.int x hx) λt ex=>?_
 refine zE (P.int y hy) λu ey=>?_
 refine kat_lt (hr x hx) rfl (hr y hy) rfl ?_
 show KatLex PW w A true (decide (2<2)) Q [(x.key,y.key),(x.pos,y.pos)] 0 s
 refine kat_cons (κ.eqR _ _ _ _ _ _ _ nb (KR.all x hx).1 (KR.all y hy).1 (KR.all x hx).2 (KR.all y hy).2 (KR.tok x hx y hy) ?_)
 delta ltR at h
 cases he:κ.eq x.key y.key with
 | true=>
  rw [he,((κ.eq_iff x.key y.key (KR.all x hx).1 (KR.all y hy).1).mp he).1,Bool.false_or,Bool.true_and] at h
  refine kat_yes (kat_cons ?_)
  rw [ex,ey]
  refine wpAny_eqBool_int ?_
  cases hp:Uk x==Uk y with
  | true=>
   have:Uk x=Uk y:=by simpa using hp
   refine kat_yes (kat_nil ?_)
   rw [this] at h
   simpa using h
  | false=>
   refine kat_no (kat_one _ _ (PyProof.Rows.lt_int ?_))
   exact h
 | false=>
  rw [he,Bool.false_and,Bool.or_false] at h
  exact kat_no (κ.ltR _ _ _ _ _ _ _ _ (KR.all x hx).1 (KR.all y hy).1 h)
theorem FD{h:Xx}:∀ {rows:List UU},(∀ q∈rows,h.get? q.r=some (XX [q.key,q.pos]))->KatTups h (Wn rows) (rows.map (λuu=>uu.key))
 | [],_=>.nil
 | q::r,hr=>KatTups.cons (hr q (.head _)) rfl rfl rfl (FD λp hp=>hr p (.tail _ hp))
theorem Zgf(κ:We){rows:List UU}(KR:I0 κ rows)(P:IW rows)(nb:Uc s.heap)(hr:∀ q∈rows,s.heap.get? q.r=some (XX [q.key,q.pos]))(hn:(rows.map (λuu=>uu.r)).Nodup){a₀:Array ZQ}(hp:a₀.toList.Perm (rows.map Bu)) :
  SI (model PW w) A s (rkV κ rows) (tuples' true) a₀:=by
 have hk:∀ q∈rows,κ.P q.key:=λq hq=>(KR.all q hq).1
 have mem:∀ x∈a₀.toList,∃ q∈rows,x=Bu q:=λx hx=>by
  refine XW (ZZ.mp (hp.mem_iff.mp hx)) λq hq e=>?_
  exact⟨q,hq,e.symm⟩
 refine⟨?_,?_,?_⟩
 ·refine hp.nodup_iff.mpr ?_
  have:(rows.map Bu)=(rows.map (λuu=>uu.r)).map (λa=>((.ref a,.ref a):ZQ)):=by rw [UZ]; rfl
  rw [this]
  exact List.Pairwise.map _ (λa b hab e=>hab (by cases e; rfl)) hn
 ·intro x hx y hy e
  refine XW (mem x hx) λq hq zr=>?_; obtain rfl:=zr
  refine XW (mem y hy) λq' hq' zr=>?_; obtain rfl:=zr
  have e':rk κ rows q=rk κ rows q':=by rw [<- H6 hn hq,<- H6 hn hq']; exact e
  by_cases hqq:q=q'
  ·rw [hqq]
  ·exfalso
   rcases FN κ (hk q hq) (hk q' hq') (λz=>hqq (P.ne q hq q' hq' z)) with z | z
   ·have:=Tv hk hq hq' z; lia
   ·have:=Tv hk hq' hq z; lia
 ·intro x hx y hy E Q hQ
  refine XW (mem x hx) λq hq zr=>?_; obtain rfl:=zr
  refine XW (mem y hy) λq' hq' zr=>?_; obtain rfl:=zr
  refine Zjo κ KR P nb hr hq hq' ?_
  have:decide (rkV κ rows (Bu q).1<rkV κ rows (Bu q').1)=ltR κ q q':=by
   show decide (rkV κ rows (.ref q.r)<rkV κ rows (.ref q'.r))=_
   rw [H6 hn hq,H6 hn hq',Zcj hk P hq hq']
  exact this▸hQ
theorem Zch(κ:We){rows:List UU}(KR:I0 κ rows)(P:IW rows)(hn:(rows.map (λuu=>uu.r)).Nodup){xs:Array ZQ}(hp:xs.toList.Perm (rows.map Bu))(hs:Inc (rkV κ rows) xs rows.length) :
  ∃ rows',rows'.Perm rows/\(xs.map (λuu=>uu.2))=(Wn rows').toArray/\rows'.Pairwise (λx y=>ltR κ x y=true):=by
 refine XW (N4 hp.symm) λrows' h1 h2=>?_
 have hm:∀ q∈rows',q∈rows:=λq hq=>h1.mem_iff.mpr hq
 have hl:rows'.length=rows.length:=h1.length_eq.symm
 refine⟨rows',h1.symm,?_,?_⟩
 ·apply Array.toList_inj.mp
  rw [Array.toList_map,<- h2,UZ]
  rfl
 ·have get:∀ i (hi:i<rows'.length),kv (rkV κ rows) xs i=rk κ rows rows'[i]:=by
   intro i hi
   have e:xs[i]? = some (Bu rows'[i]):=by
    rw [<- W3,<- h2,Uv,ZE hi]; rfl
   delta kv; rw [e]
   exact H6 hn (hm _ (Jq hi))
  refine YU.mpr λi j hi hj hij=>?_
  have:=hs i j hij (by lia)
  rw [get i hi,get j hj] at this
  have e:=Zcj (λq hq=>(KR.all q hq).1) P (hm _ (Jq hi)) (hm _ (Jq hj))
  exact ZF (ZR e) (decide_eq_true this)
theorem Tu(b:Bool){z:Array Zh}{n:Nat}(h:z.size<=n):(if b=true then z.reverse else z).size<=n:=by
 split
 ·exact ZR Array.size_reverse▸h
 ·exact h
theorem KP{z y:Array Zh}{n:Nat}(e:z=y)(h:y.size<=n):z.size<=n:=e▸h
theorem SP(κ:We){rows:List UU}(KR:I0 κ rows)(P:IW rows){D:Zo}{n:Nat}{b:Bool}(nb:Uc H0)(hg:∀ x o,H0.get? x=some o->s.heap.get? x=some o)(hD:s.heap.get? D=some (ZD (Wn rows) n))(hHD:H0.get? D=none)
  (hr:∀ q∈rows,s.heap.get? q.r=some (XX [q.key,q.pos]))(hn:(rows.map (λuu=>uu.r)).Nodup)(h64:rows.length<200){T:PySem.Fin->Zi->Prop}
  (h:∀ rows' n' s',rows'.Perm rows->Zbb κ b rows'->Go H0 [D] s s'->s'.heap.get? D=some (ZD (Wn rows') n')->T (.done (.ret .none)) s') :
  Zp (model PW w) A (Builtin.«list.sort» ⟨[.ref D],[(Zj "reverse",.bool b)]⟩) T E s:=by
 have hlen:(Wn rows).toArray.size=rows.length:=by simp [Wn]
 rw [list_sort_rev]
 refine Zf (listItems_at hD rfl ?_)
 refine Zf (listUpdate_at hD rfl ?_ (by rw [hlen,ZW]; lia) (Yt _))
 obtain ⟨e1,ho1⟩:∃ e1,(s.heap.update D (Yb λuu=>#[])).get? D=some (seqObj "list" #[] e1):=⟨_,get?_update_seq hD (λuu=>#[])⟩
 have g1:Go H0 [D] s { s with heap:=s.heap.update D (Yb λuu=>#[]) }:=.upd _ hD Xe rfl Xe hHD
 refine Zf (seqEpoch_at ho1 rfl ?_)
 refine Zf (wpAny_newTuple ?_ (by rw [Jj,hlen,ZW]; lia))
 refine Zf (wpAny_newList ?_ (Yt _))
 refine Yc ?_
 obtain ⟨s6,es6⟩:∃ s6:Zi,s6 = { s with heap:=((s.heap.update D (Yb λuu=>#[])).push { cls:=.type "tuple",data:=.seq (Wn rows).toArray.toList.toArray }).push { cls:=.type "list",data:=.seq ([]:List Zh).toArray } }:=⟨_,rfl⟩
 rw [<- es6]
 have g6:Go H0 [D] s s6:=by
  rw [es6]
  exact g1.trans ((Go.push (s:={ s with heap:=s.heap.update D (Yb λuu=>#[]) }) _).trans (Go.push (s:={ s with heap:=(s.heap.update D (Yb λuu=>#[])).push { cls:=.type "tuple",data:=.seq (Wn rows).toArray.toList.toArray } }) _))
 have ho6:s6.heap.get? D=some (seqObj "list" #[] e1):=by exact es6▸Z0 _ (Z0 _ ho1)
 have hr6:∀ q∈rows,s6.heap.get? q.r=some (XX [q.key,q.pos]):=λq hq=>g6.nd _ _ (hr q hq) (λhm=>JB (hr q hq) hD (by show Ug "tuple" ≠ .type "list"; decide) (Zk.mp hm)) Xe
 have nb6:Uc s6.heap:=let ⟨mc,p,q⟩:=nb; ⟨mc,p.keeps (g6.glob hg),q⟩
 have step:∀ t:Sem PySem.Fin,Zp (model PW w) A t T E s6->Zp (model PW w) A (if b=true then(do let _ <- rule "list.sort.reverse"; t) else t) T E s6:=by
  intro t ht
  split
  ·exact Zf (Xm ht)
  ·exact ht
 have fin:∀ rows':List UU,rows'.Perm rows->rows'.Pairwise (λx y=>ltR κ x y=true)->∀ xs:Array Zh,xs=(Wn rows').toArray ->
   T (.done (.ret .none)) { s6 with heap:=s6.heap.update D (Yb λuu=>if b=true then xs.reverse else xs) }:=by
  intro rows' h1 h2 xs hxs
  have g7:Go H0 [D] s6 { s6 with heap:=s6.heap.update D (Yb λuu=>if b=true then xs.reverse else xs) }:=.upd _ ho6 Xe rfl Xe hHD
  have ho7:=get?_update_seq ho6 λuu=>if b=true then xs.reverse else xs
  cases b with
  | false=>
   obtain ⟨n7,ho8⟩:∃ n7,(s6.heap.update D (Yb λuu=>if false=true then xs.reverse else xs)).get? D=some (ZD (Wn rows') n7):=⟨_,by rw [ho7]; simp only [UH,if_false,hxs]; rfl⟩
   exact h rows' n7 _ h1 h2 (g6.trans g7) ho8
  | true=>
   have e:xs.reverse=(Wn rows'.reverse).toArray:=by
    rw [hxs]; simp [Wn]
   obtain ⟨n7,ho8⟩:∃ n7,(s6.heap.update D (Yb λuu=>if true=true then xs.reverse else xs)).get? D=some (ZD (Wn rows'.reverse) n7):=⟨_,by rw [ho7]; simp only [if_true,e]; rfl⟩
   exact h rows'.reverse n7 _ ((UW _).trans h1) (List.pairwise_reverse.mpr h2) (g6.trans g7) ho8
 refine step _ ?_
 by_cases h2:(Wn rows).toArray.size<2
 ·rw [if_pos h2,if_pos h2]
  refine Zf (Zm (Zf ?_))
  rw [StateT.run_pure]
  refine Zm ?_
  dsimp only
  refine Zf (seqEpoch_at ho6 rfl ?_)
  have ez:(if b=true then((Wn rows).toArray.zip (Wn rows).toArray).reverse else(Wn rows).toArray.zip (Wn rows).toArray).map (λuu=>uu.2)=(Wn rows).toArray:=by
   rw [Th]
   exact Zbz b (by exact hlen▸h2)
  refine Zf (listUpdate_at ho6 rfl ?_ (Yt _) ?_)
  ·refine YR (by rw [bne_self_eq_false]; exact Zn) ?_
   refine Zm ?_
   exact fin rows (List.Perm.refl _) (Zby (by exact hlen▸h2)) _ ez
  ·exact Tu b (KP ez (by rw [hlen,ZW]; lia))
 ·rw [if_neg h2,if_neg h2]
  have hne:0<(rows.map (λuu=>uu.key)).length:=by rw [YW]; lia
  refine Zf (kat_kind (FD hr6) hne (T:=κ.ty) (λv hv=>?_) (by simp) ?_)
  ·refine XW (ZZ.mp hv) λq hq zr=>?_; obtain rfl:=zr
   exact κ.hty _ _ _ (KR.all q hq).1
  have hkt:(κ.ty != Ug "tuple")=true:=by simpa using κ.nty
  rw [hkt]
  have hperm:(if b=true then((Wn rows).toArray.zip (Wn rows).toArray).reverse else(Wn rows).toArray.zip (Wn rows).toArray).toList.Perm (rows.map Bu):=by
   rw [Th]
   split
   ·exact Va▸UW _
   ·exact List.Perm.refl _
  generalize (if b=true then((Wn rows).toArray.zip (Wn rows).toArray).reverse else(Wn rows).toArray.zip (Wn rows).toArray)=a₀ at hperm ⊢
  have ha0:a₀.size=rows.length:=by rw [<- Jj,hperm.length_eq,YW]
  have I:=Zgf (w:=w) (A:=A) κ KR P nb6 hr6 hn hperm
  refine Zf (Yr (Zjm (a₀:=a₀) (st:=SortSt.mk' (tuples' true) a₀ #[] 7 none) I ⟨Array.Perm.refl _,rfl,rfl⟩ rfl (by lia)
   (Q:=λuu st'=>(YI st').Perm a₀/\failedOf st'=none/\Inc (rkV κ rows) (YI st') a₀.size) λst' a1 a2 a3=>⟨a1,a2,a3⟩) ?_ λuu uu e=>e)
  rintro ⟨⟨⟩,st'⟩ s' ⟨rfl,hp,hf,hs⟩
  rw [ha0] at hs
  refine Gj (Zch κ KR P hn ((UE.mp hp).trans hperm) hs) λrows' r1 r2 r3=>?_
  dsimp only
  refine Zf (seqEpoch_at ho6 rfl ?_)
  refine Zf (listUpdate_at ho6 rfl ?_ (Yt _) ?_)
  ·rw [hf]
   refine YR (by rw [bne_self_eq_false]; exact Zn) ?_
   exact Zm (fin rows' r1 r3 _ r2)
  ·exact Tu b (KP r2 (by
    have:(Wn rows').toArray.size=rows.length:=by simp [Wn,r1.length_eq]
    rw [this,ZW]; lia))
structure Src (w:Um)(H0:Xx)(l:List V0)(d:Nat)(I:Zo)(own chg:List Zo)(n:Nat)(Inv Fi:List Zh->Zi->Prop):Prop where
 item:∀ (A:YE) (acc:List Zh) (s:Zi) (Q:Za) (E:Za),St H0 A l s->A.handled=none->A.depth+d<Zr->acc.length<n->Inv acc s ->
  (∀ v s',Go H0 chg s s'->Inv (acc++[v]) s'->Q v s')->Zp (model PW w) A (YN (.ref I)) Q E s
 done:∀ (A:YE) (acc:List Zh) (s:Zi) (Q:Za) (E:Za),St H0 A l s->A.handled=none->A.depth+d<Zr->acc.length=n->Inv acc s ->
  (∀ e s',Go H0 chg s s'->s'.TypeIs (.ref e) "StopIteration"->Fi acc s'->E (.ref e) s')->Zp (model PW w) A (YN (.ref I)) Q E s
 keepF:∀ acc s s' M,Fi acc s->Go H0 M s s'->(∀ p∈M,p∉own)->Fi acc s'
 keep:∀ acc s s' M,Inv acc s->Go H0 M s s'->(∀ p∈M,p∉own)->Inv acc s'
 sub:∀ p∈chg,p∈own
 there:∀ acc s p,Inv acc s->p∈own->∃ o,s.heap.get? p=some o
theorem TV{it lst:Zo}{i:Nat}{vs:List Zh}{n:Nat}{x:Zh}{Q:Za}(hit:s.heap.get? it=some (WV lst i))(hl:s.heap.get? lst=some (ZD vs n))(hx:vs[i]? = some x)
  (hQ:Q x { s with heap:=s.heap.update it (ZP (·.setIfInBounds 1 (Xr ((i:Int)+1)))) }):Zp (model PW w) A (YN (.ref it)) Q E s:=by
 have hT:s.TypeIs (.ref it) "list_iterator":=⟨_,hit,rfl⟩
 refine Zf (YY (name:=Zj "__next__") hT Xd (Xh Xd hT UB ?_ (UR _)))
 show Zp _ _ (field (.ref it) 0 >>= _) _ _ s
 refine Zf (YA hit rfl (x:=.ref lst) rfl ?_)
 show Zp _ _ (if(ZS lst==Yl)=true then _ else _) _ _ s
 first | refine Y6 rfl ?_ | refine YR (show ¬ ((ZS lst==Yl)=true) from Zn) ?_ | rw [if_neg (show ¬ ((ZS lst==Yl)=true) from Zn)]
 show Zp _ _ (field (.ref it) 1 >>= _) _ _ s
 refine Zf (YA hit rfl (x:=.int i 0) rfl ?_)
 show Zp _ _ (Uq (.ref lst) >>= _) _ _ s
 refine Zf (YJ hl rfl ?_)
 simp only [XM,XE,hx]
 exact Zf (XY hit rfl (by exact Z6 _) (Zm ⟨x,rfl,Zm hQ⟩))
theorem IU{it lst:Zo}{i:Nat}{vs:List Zh}{n:Nat}{Q:Za}(hh:A.handled=none)(hit:s.heap.get? it=some (WV lst i))(hl:s.heap.get? lst=some (ZD vs n))(hx:vs[i]? = none)
  (hE:∀ h' e,Ja (s.heap.update it (ZP (·.setIfInBounds 0 .none))) h' e "StopIteration" []->E (.ref e) { s with heap:=h' }):Zp (model PW w) A (YN (.ref it)) Q E s:=by
 have hT:s.TypeIs (.ref it) "list_iterator":=⟨_,hit,rfl⟩
 refine Zf (YY (name:=Zj "__next__") hT Xd (Xh Xd hT UB ?_ (UR _)))
 show Zp _ _ (field (.ref it) 0 >>= _) _ _ s
 refine Zf (YA hit rfl (x:=.ref lst) rfl ?_)
 show Zp _ _ (if(ZS lst==Yl)=true then _ else _) _ _ s
 first | refine Y6 rfl ?_ | refine YR (show ¬ ((ZS lst==Yl)=true) from Zn) ?_ | rw [if_neg (show ¬ ((ZS lst==Yl)=true) from Zn)]
 show Zp _ _ (field (.ref it) 1 >>= _) _ _ s
 refine Zf (YA hit rfl (x:=.int i 0) rfl ?_)
 show Zp _ _ (Uq (.ref lst) >>= _) _ _ s
 refine Zf (YJ hl rfl ?_)
 simp only [XM,XE,hx]
 refine Zf (Xm (Zf (XY hit rfl (by exact Jb _) ?_)))
 show Zp _ _ (newExc (.type "StopIteration") [] >>= _) _ _ _
 refine Zf (V3 (λh' e hm=>?_))
 refine Zf (Vd ?_)
 rw [show A.in1.handled=none from hh]
 exact Zf (Zm (JN (hE _ _ hm)))
theorem Bc{M:List Zo}{h':Xx}{e:Zo}{cls:String}{args:List Zh}(hm:Ja s.heap h' e cls args):Go H0 M s { s with heap:=h' }:=.ext (s':={ s with heap:=h' }) hm.keeps (Z6 _) rfl rfl _
theorem Zfy{I lst:Zo}{vals:List Zh}{ep:Nat}(d:Nat)(hI:H0.get? I=none) :
  Src w H0 l d I [I,lst] [I] vals.length (λacc s=>Lg s.heap [(I,WV lst acc.length),(lst,ZD vals ep)]/\acc=vals.take acc.length) (λacc uu=>acc=vals) where
 item:=λA acc s Q E S hh hd hlt ⟨C,ha⟩ k=>by
  obtain ⟨x,hx⟩:∃ x,vals[acc.length]? = some x:=⟨vals[acc.length],ZE hlt⟩
  refine TV (C.at 0 rfl) (C.at 1 rfl) hx ?_
  refine zA (C.upd (H0:=H0) (s:=s) 0 (f:=ZP (·.setIfInBounds 1 (Xr ((acc.length:Int)+1)))) rfl rfl Y5 rfl hI) λg C'=>?_
  refine k x _ (g.mono (by exact λuu h=>h)) ⟨?_,?_⟩
  ·have:(acc++[x]).length=acc.length+1:=by exact UG
   exact this▸C'
  ·have:(acc++[x]).length=acc.length+1:=by exact UG
   rw [this,List.take_add_one,hx,<- ha]; rfl
 done:=λA acc s Q E S hh hd hlt ⟨C,ha⟩ k=>by
  refine IU hh (C.at 0 rfl) (C.at 1 rfl) (XS (Xw hlt.symm)) λh' e hm=>?_
  refine zA (C.upd (H0:=H0) (s:=s) 0 (f:=ZP (·.setIfInBounds 0 .none)) rfl rfl Y5 rfl hI) λg C'=>?_
  refine XW hm.there λt ht uu=>?_
  exact k e _ ((g.mono (by exact λuu h=>h)).trans (Bc (s:={ s with heap:=s.heap.update I (ZP (·.setIfInBounds 0 .none)) }) hm)) ⟨_,ht,rfl⟩ (by rw [ha,hlt,Vi])
 keepF:=λuu uu uu uu h uu uu=>h
 keep:=λacc s s' M ⟨C,ha⟩ g hM=>⟨C.turn g _ rfl λp hp=>.inl ⟨hp,λq=>by
  rcases Z7.mp hp with rfl | hp
  ·exact hM _ q (by exact .head _)
  ·rw [Zk.mp hp] at q; exact hM _ q (by exact .tail _ (.head _))⟩,ha⟩
 sub:=by exact Wo (.head _)
 there:=λacc s p ⟨C,ha⟩ hp=>by
  rcases Z7.mp hp with rfl | hp
  ·exact⟨_,C.at 0 rfl⟩
  ·exact(Zk.mp hp)▸⟨_,C.at 1 rfl⟩
noncomputable abbrev zO(f0:Zh)(fl:Bool)(TI TO:Zo):Xl:={ cls:=.type "zip",data:=.fields #[f0,.bool fl,.bool false,.ref TI,.ref TO] }
noncomputable abbrev tO(xs:Array Zh)(n:Nat):Xl:={ cls:=.type "tuple",data:=.seq xs n }
structure ZA where
 z:Zo
 TI:Zo
 TO:Zo
 ct:Zo
 dc:Zo
 I:Zo
noncomputable abbrev zl(a:Tf)(b:ZA)(f0:Zh)(fl:Bool)(xs:Array Zh)(e:Nat)(c:List (Option Zh)):Zd:=[(b.z,zO f0 fl b.TI b.TO),(b.TI,XX [.ref b.I,.ref b.ct]),(b.TO,tO xs e),(b.ct,io a.ct b.dc c)]
structure ZSt (a:Tf)(b:ZA)(own:List Zo)(Inv:List Zh->Zi->Prop)(acc:List Zh)(f0:Zh)(fl:Bool)(s:Zi):Prop where
 lg:∃ xs e t u,Lg s.heap (zl a b f0 fl xs e (Sz (.int acc.length t) (.bool true) (.int 1 u)))/\xs.size=2
 inv:Inv acc s
 f0:(f0 = .none/\acc = [])\/∃ T o,f0 = .int (T:Nat) 0/\s.heap.get? T=some o
section
variable {b:ZA}{own chg:List Zo}{Inv Fi:List Zh->Zi->Prop}{n d:Nat}
theorem IF(X:K.In s.heap){x c dx g:Zo}{sl:List (Option Zh)}{Q:Za}(hx:Wy s.heap (x,io c dx sl))(mk:Ud K c "__next__" g)
  (h:Yk (model PW w) A (.call (.ref g) ⟨[.ref x],[]⟩) (λr s'=>match r with | .ok (.ret v)=>Q v s' | .ok _=>False | .error e=>E e s') s):Zp (model PW w) A (YN (.ref x)) Q E s:=by
 refine XW (Gn hx) λod I hod=>?_
 exact Zf (special_fn (name:="__next__") (args:=[]) X I mk.fi mk.ft (Yr (Y7 (Q:=Q) (E:=E) h) (λv s' hq=>Zm hq) λuu uu z=>z))
theorem J3(Sr:Src w H0 l d b.I own chg n Inv Fi){acc:List Zh}{M:List Zo}{s':Zi}(h:Inv acc s)(g:Go H0 M s s')(hM:∀ p∈M,p∉own):Inv acc s':=Sr.keep acc s s' M h g hM
theorem arr2{xs:Array Zh}(h:xs.size=2):∃ q0 q1,xs = #[q0,q1]:=by
 obtain ⟨ys⟩:=xs
 cases ys with
 | nil=>cases h
 | cons a r=>cases r with
  | nil=>cases h
  | cons c r=>cases r with
   | nil=>exact⟨a,c,rfl⟩
   | cons=>cases h
theorem Zbe{a:Tf}{b:ZA}{own:List Zo}{H0:Xx}{f0:Zh}{fl:Bool}{xs:Array Zh}{e:Nat}{c:List (Option Zh)}(hH:∀ p∈[b.z,b.TI,b.TO,b.ct],H0.get? p=none/\p∉own):∀ p∈zl a b f0 fl xs e c,p.1∉own :=
 Wr.mpr ⟨(hH _ (.head _)).2,Wr.mpr ⟨(hH _ (.tail _ (.head _))).2,Wr.mpr ⟨(hH _ (.tail _ (.tail _ (.head _)))).2,Wo (hH _ (.tail _ (.tail _ (.tail _ (.head _))))).2⟩⟩⟩
theorem SD(G:Gl K H0 mg mb)(F:KF K a)(S:St H0 A l s)(Sr:Src w H0 l d b.I own chg n Inv Fi)(Z:ZSt a b own Inv [] .none false s)(hn:0<n)(hH:∀ p∈[b.z,b.TI,b.TO,b.ct],H0.get? p=none/\p∉own)
  (hh:A.handled=none)(hd:A.depth+d<Zr)(hd1:A.depth<Zr){Q:Za}
  (k:∀ T v t s',Go H0 (b.z::b.TO::b.ct::chg) s s'->s'.heap.get? T=some (XX [v,.int 0 t])->s.heap.get? T=none->ZSt a b own Inv [v] (.int (T:Nat) 0) false s'->Q (.ref T) s') :
  Zp (model PW w) A (Builtin.«zip.__next__» ⟨[.ref b.z],[]⟩) (Zct Q) E s:=by
 refine By Z.lg λxs e t u C hxs=>?_
 refine zEE (arr2 hxs) λq0 q1 eq2=>?_
 subst eq2
 have hz:=hH b.z (by exact .head _)
 have hTO:=hH b.TO (by exact .tail _ (.tail _ (.head _)))
 have hct:=hH b.ct (by exact .tail _ (.tail _ (.tail _ (.head _))))
 have m1:∀ p∈[b.z],p∈b.z::b.TO::b.ct::chg:=by exact Wo (.head _)
 have m2:∀ p∈[b.TO],p∈b.z::b.TO::b.ct::chg:=by exact Wo (.tail _ (.head _))
 show Zp _ _ (field (.ref b.z) 2 >>= _) _ _ _
 refine Zf (YA (C.at 0 rfl) rfl (x:=.bool false) rfl ?_)
 show Zp _ _ (field (.ref b.z) 3 >>= _) _ _ _
 refine Zf (YA (C.at 0 rfl) rfl (x:=.ref b.TI) rfl ?_)
 refine Zf (YJ (C.at 1 rfl) rfl ?_)
 show Zp _ _ (XN (.ref b.z) >>= _) _ _ _
 refine Zf ?_
 delta XN
 refine Zf (YA (C.at 0 rfl) rfl (x:=.none) rfl (Zm ?_))
 refine Zf (Xm ?_)
 refine Zf (YA (C.at 0 rfl) rfl (x:=.ref b.TO) rfl ?_)
 refine Zf (C.setF (H0:=H0) 0 0 rfl rfl (by show 0<5; decide) rfl hz.1 λs1 g1 C1=>?_)
 have i1:=J3 Sr Z.inv g1 (λp hp=>by exact(Zk.mp hp)▸hz.2)
 have C1':Lg s1.heap (zl a b .ellipsis false #[q0,q1] e (Sz (.int 0 t) (.bool true) (.int 1 u))):=C1
 refine Zf (J4 (Zf (wpAny_onRaise ?_)))
 show Zp _ _ (YN (.ref b.I) >>= _) _ _ _
 refine Zf (Sr.item A [] s1 _ _ (S.go g1) hh hd hn i1 λv s2 g2 i2=>Zm ?_)
 have C2:=C1'.turn g2 _ rfl λp hp=>.inl ⟨hp,λq=>Zbe hH p hp (Sr.sub _ q)⟩
 refine Zf (YJ (C2.at 2 rfl) rfl ?_)
 refine Zf (C2.setS (H0:=H0) 2 0 rfl rfl (by show 2<=_; rw [ZW]; decide) rfl Xe rfl hTO.1 λs3 g3 C3=>?_)
 have i3:=J3 Sr i2 g3 (λp hp=>by exact(Zk.mp hp)▸hTO.2)
 refine Zf (wpAny_letGo (Zm ?_))
 obtain ⟨e3,C3'⟩:∃ e3,Lg s3.heap (zl a b .ellipsis false #[v,q1] e3 (Sz (.int 0 t) (.bool true) (.int 1 u))):=⟨_,C3⟩
 refine J4 (Zf (wpAny_onRaise ?_))
 show Zp _ _ (YN (.ref b.ct) >>= _) _ _ _
 have S3:=((S.go g1).go g2).go g3
 refine Zf (IF (S3.X G) (C3'.ok 3 rfl) F.mctN (IM G F S3 (C3'.ok 3 rfl) hct.1 hd1 λt' s4 g4 ox4=>Zm ?_))
 have C4:=C3'.turn1 3 rfl g4 ox4
 have i4:=J3 Sr i3 g4 (λp hp=>by exact(Zk.mp hp)▸hct.2)
 refine Zf (YJ (C4.at 2 rfl) rfl ?_)
 refine Zf (C4.setS (H0:=H0) 2 1 rfl rfl (by show 2<=_; rw [ZW]; decide) rfl Xe rfl hTO.1 λs5 g5 C5=>?_)
 have i5:=J3 Sr i4 g5 (λp hp=>by exact(Zk.mp hp)▸hTO.2)
 refine Zf (wpAny_letGo (Zm (Ht ?_)))
 obtain ⟨e5,C5'⟩:∃ e5,Lg s5.heap (zl a b .ellipsis false #[v,.int 0 t] e5 (Sz (.int (0+1) t') (.bool true) (.int 1 u))):=⟨_,C5⟩
 refine Zf (YJ (C5'.at 2 rfl) rfl ?_)
 have g05:Go H0 (b.z::b.TO::b.ct::chg) s s5:=((((g1.mono m1).trans (g2.mono (λp hp=>by simp [hp]))).trans (g3.mono m2)).trans (g4.mono (by exact Wo (.tail _ (.tail _ (.head _)))))).trans (g5.mono m2)
 refine Zf (C5'.new (H0:=H0) (λT s6 gp C6' nT=>?_) (by show 2<=_; rw [ZW]; decide))
 have C6:=C5'.go gp
 have hT6:=C6'.at 0 rfl
 have i6:=J3 Sr i5 gp YC
 show Zp _ _ (Builtin.SmallTypes.ownedTupleHandOut (.ref b.z) (.ref T) >>= _) _ _ s6
 refine Zf ?_
 delta Builtin.SmallTypes.ownedTupleHandOut
 refine Zf (C6.setF (H0:=H0) 0 0 rfl rfl (by show 0<5; decide) rfl hz.1 λs7 g7 C7=>?_)
 have i7:=J3 Sr i6 g7 (λp hp=>by exact(Zk.mp hp)▸hz.2)
 refine C7.setF (H0:=H0) 0 1 rfl rfl (by show 1<5; decide) rfl hz.1 λs8 g8 C8=>?_
 have i8:=J3 Sr i7 g8 (λp hp=>by exact(Zk.mp hp)▸hz.2)
 have hzT:T∉[b.z]:=λhm=>by
  have:=C5'.at 0 rfl
  rw [<- Zk.mp hm,nT] at this; exact Wu this
 have hT8:=g8.nd _ _ (g7.nd _ _ hT6 hzT Xe) hzT Xe
 have nTs:s.heap.get? T=none:=by
  cases q:s.heap.get? T with
  | none=>rfl
  | some o=>refine zE (g05.there _ _ q) λo' z=>?_; exact Wu (ZF (ZR nT) z)
 refine Zm ⟨_,rfl,k T v t _ (((g05.trans (gp.mono YC)).trans (g7.mono m1)).trans (g8.mono m1)) hT8 nTs ⟨⟨_,_,t',u,C8,rfl⟩,i8,.inr ⟨T,_,rfl,hT8⟩⟩⟩
theorem Tn{M:XJ}{x:Zo}{Q:Option Xl->Zi->Prop}(h:Q (s.heap.get? x) s):Zp M A (loadIfAlive x) Q E s:=λΓ p hΓ=>by
 delta loadIfAlive
 exact h
theorem own2{z TI TO T0:Zo}{fl:Bool}{oT:Xl}{M:XJ}{led:Zd}(C:Lg s.heap ((z,zO (.int (T0:Nat) 0) fl TI TO)::led))(hT0:s.heap.get? T0=some oT)(hz:H0.get? z=none) :
  Zp M A (XN (.ref z)) (λr s1=>r=false/\Go H0 [z] s s1/\Lg s1.heap ((z,zO (.int (T0:Nat) 0) true TI TO)::led)) E s:=by
 refine Zf (YA (C.at 0 rfl) rfl (x:=.int (T0:Nat) 0) rfl ?_)
 dsimp only
 refine Zf (Tn ?_)
 rw [XM,hT0]
 refine YR Zn ?_
 refine Zf (YA (C.at 0 rfl) rfl (x:=.bool fl) rfl ?_)
 cases fl with
 | true=>
  first | refine Y6 (by decide) ?_ | refine YR (by decide) ?_ | rw [if_neg (by decide)]
  exact Zm ⟨rfl,.refl ..,C⟩
 | false=>
  first | refine YV (by decide) ?_ | refine YT (by decide) ?_ | rw [if_pos (by decide)]
  refine zA (C.upd (H0:=H0) (s:=s) 0 (f:=ZP (·.setIfInBounds 1 (.bool true))) rfl rfl Y5 rfl hz) λg1 C1=>?_
  exact Zf (XY (C.at 0 rfl) rfl (by show 1<5; decide) (Zm ⟨rfl,g1,C1⟩))
theorem SA(G:Gl K H0 mg mb)(F:KF K a)(S:St H0 A l s)(Sr:Src w H0 l d b.I own chg n Inv Fi){acc:List Zh}{T0:Zo}{fl:Bool}{oT:Xl}(hT0:s.heap.get? T0=some oT)(ntT:nd oT)(Z:ZSt a b own Inv acc (.int (T0:Nat) 0) fl s)(hn:acc.length<n)(hH:∀ p∈[b.z,b.TI,b.TO,b.ct],H0.get? p=none/\p∉own)
  (hT0m:T0∉b.z::b.TO::b.ct::chg)
  (hh:A.handled=none)(hd:A.depth+d<Zr)(hd1:A.depth<Zr){Q:Za}
  (k:∀ T v t s',Go H0 (b.z::b.TO::b.ct::chg) s s'->s'.heap.get? T=some (XX [v,.int acc.length t])->s.heap.get? T=none->ZSt a b own Inv (acc++[v]) (.int (T0:Nat) 0) true s'->Q (.ref T) s') :
  Zp (model PW w) A (Builtin.«zip.__next__» ⟨[.ref b.z],[]⟩) (Zct Q) E s:=by
 refine By Z.lg λxs e t u C hxs=>?_
 have hz:=hH b.z (by exact .head _)
 have hTO:=hH b.TO (by exact .tail _ (.tail _ (.head _)))
 have hct:=hH b.ct (by exact .tail _ (.tail _ (.tail _ (.head _))))
 have m4:∀ p∈chg,p∈b.z::b.TO::b.ct::chg:=λp hp=>by simp [hp]
 show Zp _ _ (field (.ref b.z) 2 >>= _) _ _ _
 refine Zf (YA (C.at 0 rfl) rfl (x:=.bool false) rfl ?_)
 show Zp _ _ (field (.ref b.z) 3 >>= _) _ _ _
 refine Zf (YA (C.at 0 rfl) rfl (x:=.ref b.TI) rfl ?_)
 refine Zf (YJ (C.at 1 rfl) rfl ?_)
 show Zp _ _ (XN (.ref b.z) >>= _) _ _ _
 have rest:∀ s1:Zi,Go H0 (b.z::b.TO::b.ct::chg) s s1->Inv acc s1->Lg s1.heap (zl a b (.int (T0:Nat) 0) true xs e (Sz (.int acc.length t) (.bool true) (.int 1 u))) ->
   Zp (model PW w) A (YN (.ref b.I)) (λv s2=>Zp (model PW w) A (YN (.ref b.ct)) (λc s3=>Zp (model PW w) A (newTuple [v,c]) Q E s3) E s2) E s1:=by
  intro s1 g1 i1 C1
  refine Sr.item A acc s1 _ _ (S.go g1) hh hd hn i1 λv s2 g2 i2=>?_
  have C2:=C1.turn g2 _ rfl λp hp=>.inl ⟨hp,λq=>Zbe hH p hp (Sr.sub _ q)⟩
  have S2:=(S.go g1).go g2
  refine IF (S2.X G) (C2.ok 3 rfl) F.mctN (IM G F S2 (C2.ok 3 rfl) hct.1 hd1 λt' s4 g4 ox4=>?_)
  have C4:=C2.turn1 3 rfl g4 ox4
  have i4:=J3 Sr i2 g4 (λp hp=>by exact(Zk.mp hp)▸hct.2)
  have g04:=(g1.trans (g2.mono m4)).trans (g4.mono (by exact Wo (.tail _ (.tail _ (.head _)))))
  refine C4.new (H0:=H0) (λT s6 gp C6' nT=>?_) (by show 2<=_; rw [ZW]; decide)
  have nTs:s.heap.get? T=none:=by
   cases q:s.heap.get? T with
   | none=>rfl
   | some o=>refine zE (g04.there _ _ q) λo' z=>?_; exact Wu (ZF (ZR nT) z)
  have C6:=C4.go gp
  have i6:=J3 Sr i4 gp YC
  have hl:(acc++[v]).length=acc.length+1:=by exact UG
  exact k _ v t _ (g04.trans (gp.mono YC)) (C6'.at 0 rfl) nTs ⟨⟨xs,e,t',u,by exact hl▸C6,hxs⟩,i6,.inr ⟨T0,_,rfl,(gp.nd _ _ (g04.nd _ _ hT0 hT0m ntT) (λh=>nomatch h) ntT)⟩⟩
 refine Zf (Yr (own2 C hT0 hz.1) (λr s1 h1=>?_) λuu uu z=>z)
 obtain ⟨rfl,g1,C1⟩:=h1
 have R:=rest s1 (g1.mono (by exact Wo (.head _))) (J3 Sr Z.inv g1 (λp hp=>by exact(Zk.mp hp)▸hz.2)) C1
 first | refine Y6 (by decide) ?_ | refine YR (by decide) ?_ | rw [if_neg (by decide)]
 refine Zf (Hu (J4 (Zf (Yc ?_))))
 show Zp _ _ (YN (.ref b.I) >>= _) _ _ _
 refine Zf (Yr R (λv s2 h2=>Zm (Zm ?_)) λuu uu z=>z)
 refine J4 (Zf (Yc ?_))
 show Zp _ _ (YN (.ref b.ct) >>= _) _ _ _
 refine Zf (Yr h2 (λc s3 h3=>Zm (Zm (Ht ?_))) λuu uu z=>z)
 exact Zf (Yr h3 (λr s4 h4=>Zm ⟨_,rfl,h4⟩) λuu uu z=>z)
end
theorem OF:typeLookup (.type "zip") "__len__"=pure none:=by rw [typeLookup_type,builtinLookup_eq_fast]; kernel_rfl
theorem Ti:typeLookup (.type "zip") "__length_hint__"=pure none:=by rw [typeLookup_type,builtinLookup_eq_fast]; kernel_rfl
section
variable {b:ZA}{own chg:List Zo}{Inv Fi:List Zh->Zi->Prop}{n d:Nat}
noncomputable abbrev ZA.Mg(b:ZA)(chg:List Zo):List Zo:=b.z::b.TO::b.ct::chg
theorem ZSt.keep(Sr:Src w H0 l d b.I own chg n Inv Fi){acc:List Zh}{f0:Zh}{fl:Bool}{s':Zi}{M:List Zo}(Z:ZSt a b own Inv acc f0 fl s)(g:Go H0 M s s')(h1:∀ p∈M,p∉[b.z,b.TI,b.TO,b.ct])(h2:∀ p∈M,p∉own):ZSt a b own Inv acc f0 fl s':=by
 refine By Z.lg λxs e t u C hxs=>?_
 refine⟨⟨xs,e,t,u,C.turn g _ rfl λp hp=>.inl ⟨hp,λq=>h1 _ q ?_⟩,hxs⟩,Sr.keep _ _ _ _ Z.inv g h2,?_⟩
 ·obtain ⟨p1,p2⟩:=p
  simp only [Z7,Prod.mk.injEq,Wf,or_false] at hp ⊢
  rcases hp with ⟨rfl,_⟩ | ⟨rfl,_⟩ | ⟨rfl,_⟩ | ⟨rfl,_⟩<;>simp
 ·rcases Z.f0 with h | ⟨T,o,h,hT⟩
  ·exact .inl h
  ·refine zE (g.there _ _ hT) λo' ho'=>?_
   exact .inr ⟨T,o',h,ho'⟩
theorem Zbh(S:St H0 A l s)(Sr:Src w H0 l d b.I own chg n Inv Fi){acc:List Zh}{f0:Zh}{fl:Bool}(Z:ZSt a b own Inv acc f0 fl s)(hn:acc.length=n)(hH:∀ p∈[b.z,b.TI,b.TO,b.ct],H0.get? p=none/\p∉own)
  (hf:f0 = .none->fl=false)(hh:A.handled=none)(hd:A.depth+d<Zr){Q:PySem.Fin->Zi->Prop}
  (k:∀ e s',Go H0 (b.Mg chg) s s'->s'.TypeIs (.ref e) "StopIteration"->Fi acc s'->E (.ref e) s') :
  Zp (model PW w) A (Builtin.«zip.__next__» ⟨[.ref b.z],[]⟩) Q E s:=by
 refine By Z.lg λxs e t u C hxs=>?_
 have hz:=hH b.z (by exact .head _)
 have m1:∀ p∈[b.z],p∈b.Mg chg:=by simp [ZA.Mg]
 have m4:∀ p∈chg,p∈b.Mg chg:=λp hp=>by simp [ZA.Mg,hp]
 have hown:∀ p∈[b.z],p∉own:=λp hp=>by exact(Zk.mp hp)▸hz.2
 show Zp _ _ (field (.ref b.z) 2 >>= _) _ _ _
 refine Zf (YA (C.at 0 rfl) rfl (x:=.bool false) rfl ?_)
 refine Zf (YA (C.at 0 rfl) rfl (x:=.ref b.TI) rfl ?_)
 refine Zf (YJ (C.at 1 rfl) rfl ?_)
 show Zp _ _ (XN (.ref b.z) >>= _) _ _ _
 rcases Z.f0 with ⟨rfl,rfl⟩ | ⟨T,oT,rfl,hT⟩
 ·obtain rfl:=hf rfl
  refine Zf ?_
  delta XN
  refine Zf (YA (C.at 0 rfl) rfl (x:=.none) rfl (Zm ?_))
  refine Zf (Xm ?_)
  refine Zf (YA (C.at 0 rfl) rfl (x:=.ref b.TO) rfl ?_)
  refine Zf (C.setF (H0:=H0) 0 0 rfl rfl (by show 0<5; decide) rfl hz.1 λs1 g1 C1=>?_)
  have i1:=J3 Sr Z.inv g1 hown
  refine Zf (J4 (Zf (wpAny_onRaise ?_)))
  show Zp _ _ (YN (.ref b.I) >>= _) _ _ _
  refine Zf (Sr.done A [] s1 _ _ (S.go g1) hh hd hn i1 λe2 s2 g2 h2 hfi=>?_)
  have C2:Lg s2.heap [(b.z,zO .ellipsis false b.TI b.TO)]:=(C1.sub (led':=[(b.z,zO .ellipsis false b.TI b.TO)]) (.cons_cons _ (List.nil_sublist _))).turn (s:=s1) g2 _ rfl λp hp=>.inl ⟨hp,λq=>by
   rw [Zk.mp hp] at q; exact hz.2 (Sr.sub _ q)⟩
  refine XY (C2.at 0 rfl) rfl (by show 0<5; decide) ?_
  refine zA (C2.upd (H0:=H0) (s:=s2) 0 (f:=ZP (·.setIfInBounds 0 .none)) rfl rfl Y5 rfl hz.1) λg3 C3=>?_
  refine XW h2 λoe h3 h4=>?_
  refine k e2 _ (((g1.mono m1).trans (g2.mono m4)).trans (g3.mono m1)) ?_ ?_
  ·have hne:e2≠b.z:=JB h3 (C2.at 0 rfl) (by rw [h4]; show Ug "StopIteration" ≠ .type "zip"; decide)
   exact⟨oe,(Yw _ _ hne.symm).trans h3,h4⟩
  ·exact Sr.keepF _ _ _ _ hfi g3 hown
 ·refine Zf (Yr (own2 C hT hz.1) (λr s1 h1=>?_) λuu uu z=>z)
  obtain ⟨rfl,g1,C1⟩:=h1
  have i1:=J3 Sr Z.inv g1 hown
  first | refine Y6 (by decide) ?_ | refine YR (by decide) ?_ | rw [if_neg (by decide)]
  refine Zf (Hu (J4 (Zf (Yc ?_))))
  show Zp _ _ (YN (.ref b.I) >>= _) _ _ _
  exact Zf (Sr.done A acc s1 _ _ (S.go g1) hh hd hn i1 λe2 s2 g2 h2 hfi=>k e2 s2 ((g1.mono m1).trans (g2.mono m4)) h2 hfi)
structure ZL (a:Tf)(b:ZA)(own:List Zo)(Inv:List Zh->Zi->Prop)(rows:List UU)(s:Zi):Prop where
 st:∃ f0 fl,ZSt a b own Inv (rows.map (λuu=>uu.key)) f0 fl s/\((rows = []/\f0 = .none/\fl=false)\/∃ q,q∈rows/\f0 = .int (q.r:Nat) 0)
 lg:Lg s.heap (Hf rows)
 pos:∀ (j:Nat) (q:UU),rows[j]? = some q->∃ t,q.pos = .int j t
 out:∀ q∈rows,q.r∉b.z::b.TI::b.TO::b.ct::own
theorem ZL.keep(Sr:Src w H0 l d b.I own chg n Inv Fi){rows:List UU}{s':Zi}{M:List Zo}(Z:ZL a b own Inv rows s)(g:Go H0 M s s')(h1:∀ p∈M,p∉[b.z,b.TI,b.TO,b.ct])(h2:∀ p∈M,p∉own)(h3:∀ p∈M,∀ q∈rows,p≠q.r):ZL a b own Inv rows s':=by
 refine G7 Z.st λf0 fl Z1 Z2=>?_
 refine⟨⟨f0,fl,Z1.keep Sr g h1 h2,Z2⟩,Z.lg.turn g _ rfl λp hp=>.inl ⟨hp,λq=>?_⟩,Z.pos,Z.out⟩
 refine XW (ZZ.mp hp) λr hr zr=>?_; obtain rfl:=zr
 exact h3 _ q r hr rfl
theorem Zbf(G:Gl K H0 mg mb)(F:KF K a)(S:St H0 A l s)(Sr:Src w H0 l d b.I own chg n Inv Fi){rows:List UU}(Z:ZL a b own Inv rows s)(hH:∀ p∈[b.z,b.TI,b.TO,b.ct],H0.get? p=none/\p∉own)
  (hh:A.handled=none)(hd:A.depth+d<Zr)(hd1:A.depth<Zr){Q:Option Zh->Zi->Prop}(hn:rows.length<=n)
  (k1:rows.length<n->∀ (q:UU) s',Go H0 (b.Mg chg) s s'->s.heap.get? q.r=none->ZL a b own Inv (rows++[q]) s'->Q (some (.ref q.r)) s')
  (k2:rows.length=n->∀ s',Go H0 (b.Mg chg) s s'->(∀ p∈Hf rows,Wy s'.heap p)->Fi (rows.map (λuu=>uu.key)) s'->Q none s'):Zp (model PW w) A (pyNext (.ref b.z)) Q E s:=by
 refine G7 Z.st λf0 fl Z1 Z2=>?_
 have hT:s.TypeIs (.ref b.z) "zip":=by
  refine By Z1.lg λxs e t u C hxs=>?_
  exact⟨_,C.at 0 rfl,rfl⟩
 have hl:(rows.map (λuu=>uu.key)).length=rows.length:=YW _
 have fresh:∀ T,s.heap.get? T=none->T∉b.z::b.TI::b.TO::b.ct::own:=λT hT hm=>by
  refine By Z1.lg λxs e t u C hxs=>?_
  simp only [Z7] at hm
  rcases hm with rfl | rfl | rfl | rfl | hm
  ·have:=C.at 0 rfl; exact Wu (ZF (ZR hT) this)
  ·have:=C.at 1 rfl; exact Wu (ZF (ZR hT) this)
  ·have:=C.at 2 rfl; exact Wu (ZF (ZR hT) this)
  ·have:=C.at 3 rfl; exact Wu (ZF (ZR hT) this)
  ·refine zE (Sr.there _ _ T Z1.inv hm) λo ho=>?_; exact Wu (ZF (ZR hT) ho)
 have sub:∀ p,p∈b.Mg chg->p∈b.z::b.TI::b.TO::b.ct::own:=Xu (.head _) (Xu (.tail _ (.tail _ (.head _))) (Xu (.tail _ (.tail _ (.tail _ (.head _)))) λp h=>.tail _ (.tail _ (.tail _ (.tail _ (Sr.sub _ h))))))
 have rowsKeep:∀ s',Go H0 (b.Mg chg) s s'->Lg s'.heap (Hf rows):=λs' g=>Z.lg.turn g _ rfl λp hp=>.inl ⟨hp,λq=>by
  refine XW (ZZ.mp hp) λr hr zr=>?_; obtain rfl:=zr
  exact Z.out r hr (sub _ q)⟩
 have push:∀ T v t s',Go H0 (b.Mg chg) s s'->s'.heap.get? T=some (XX [v,.int rows.length t])->s.heap.get? T=none->(∃ f1 fl1,ZSt a b own Inv (rows.map (λuu=>uu.key)++[v]) f1 fl1 s'/\∃ q∈rows++[⟨T,v,.int rows.length t⟩],f1 = .int (q.r:Nat) 0) ->
   ZL a b own Inv (rows++[⟨T,v,.int rows.length t⟩]) s':=by
  rintro T v t s' g hTs nT ⟨f1,fl1,Z3,q,hq,rfl⟩
  refine⟨⟨_,fl1,by exact WZ▸Z3,.inr ⟨q,hq,rfl⟩⟩,?_,λj q' hj=>?_,λq' hq'=>?_⟩
  ·have L1:=rowsKeep s' g
   unfold Hf at L1 ⊢
   rw [WZ]
   refine⟨λp hp=>(Xn.mp hp).elim (L1.has p) λhp=>by exact(Zk.mp hp)▸Gx hTs,?_⟩
   rw [WZ]
   refine List.nodup_append.mpr ⟨L1.nodup,by exact nd1,λx hx y hy e=>?_⟩
   refine XW (ZZ.mp hx) λp hp zr=>?_; obtain rfl:=zr
   have hy':y=T:=by simpa using hy
   subst hy'
   have:=(Z.lg.has p hp).at_
   rw [e,nT] at this; exact Wu this
  ·rw [List.getElem?_append] at hj
   split at hj
   ·exact Z.pos j q' hj
   ·rename_i hlt
    have hj0:j=rows.length:=by
     refine zE (Z5.mp hj) λh1 uu=>?_
     simp at h1; grind
    subst hj0
    simp at hj
    subst hj
    exact⟨t,rfl⟩
  ·rcases Xn.mp hq' with h | h
   ·exact Z.out q' h
   ·exact(Zk.mp h)▸fresh T nT
 by_cases hlt:rows.length<n
 ·refine Zf (Ut (YY (name:=Zj "__next__") hT PySem.F.slot_zip_next (Xh PySem.F.slot_zip_next hT PySem.F.entry_zip_next ?_ (PySem.F.args_zip_next_1 _))))
  rcases Z2 with ⟨rfl,rfl,rfl⟩ | ⟨q,hq,rfl⟩
  ·refine SD G F (S.around (A':=A.in1) rfl) Sr Z1 (by simpa using hlt) hH hh hd hd1 λT v t s' g h1 h2 h3=>Zm ?_
   exact k1 hlt ⟨T,v,.int 0 t⟩ s' g h2 (push T v t s' g h1 h2 ⟨_,_,h3,⟨T,v,.int 0 t⟩,by exact .head _,rfl⟩)
  ·have hqo:=(Z.lg.has _ (ZZ.mpr ⟨q,hq,rfl⟩)).at_
   refine SA G F (S.around (A':=A.in1) rfl) Sr hqo Xe Z1 (by exact hl▸hlt) hH (λhm=>Z.out q hq (sub _ hm)) hh hd hd1 λT v t s' g h1 h2 h3=>Zm ?_
   rw [hl] at h1
   exact k1 hlt ⟨T,v,.int rows.length t⟩ s' g h2 (push T v t s' g h1 h2 ⟨_,_,h3,q,by simp [hq],rfl⟩)
 ·have hN:rows.length=n:=by lia
  refine Zf (Ut (YY (name:=Zj "__next__") hT PySem.F.slot_zip_next (Xh PySem.F.slot_zip_next hT PySem.F.entry_zip_next ?_ (PySem.F.args_zip_next_1 _))))
  refine Zbh (S.around (A':=A.in1) rfl) Sr Z1 (by exact ZF hl (hN)) hH (λe=>?_) hh hd λe s' g h hfi=>?_
  ·rcases Z2 with ⟨_,_,h⟩ | ⟨q,_,h⟩
   ·exact h
   ·rw [h] at e; cases e
  ·refine Zf (wpAny_isInstance h owsi_facts.sub ?_)
   exact Zm (k2 hN s' g (rowsKeep s' g).has hfi)
end
section
variable {b:ZA}{own chg:List Zo}{Inv Fi:List Zh->Zi->Prop}{n d:Nat}
theorem DZ{rows:List UU}(h:∀ (j:Nat)(q:UU),rows[j]? = some q->∃ t,q.pos = .int j t):IW rows where
 int:=λq hq=>by
  refine zM hq λj hj e=>?_
  refine zE (h j q (by rw [ZE hj,e])) λt ht=>?_
  exact⟨t,by unfold Uk; rw [ht]⟩
 ne:=λq hq q' hq' e=>by
  refine zM hq λj hj e1=>?_
  refine zM hq' λj' hj' e2=>?_
  refine zE (h j q (by rw [ZE hj,e1])) λt ht=>?_
  refine zE (h j' q' (by rw [ZE hj',e2])) λt' ht'=>?_
  delta Uk at e
  rw [ht,ht'] at e
  have:j=j':=Int.ofNat.inj e
  subst this
  rw [<- e1,<- e2]
inductive CZI (a:Tf)(b:ZA)(own chg:List Zo)(Inv:List Zh->Zi->Prop)(n:Nat)(H0:Xx)(A:YE)(l:List V0)(s:Zi)(D:Zo)(n':Nat)(acc:List Zh)(s':Zi):Prop
 | mk (rows:List UU) (c:Nat) (ha:acc=Wn rows) (hn:n'=n-rows.length) (hle:rows.length<=n) (S:St H0 A l s') (g:Go H0 (D::b.Mg chg) s s') (Z:ZL a b own Inv rows s') (hD:s'.heap.get? D=some (ZD acc c)) (hr:∀ q∈rows,q.r≠D/\s.heap.get? q.r=none):CZI a b own chg Inv n H0 A l s D n' acc s'
theorem O6(G:Gl K H0 mg mb)(F:KF K a)(S:St H0 A l s)(Sr:Src w H0 l d b.I own chg n Inv Fi)(Z:ZL a b own Inv [] s)(hH:∀ p∈[b.z,b.TI,b.TO,b.ct],H0.get? p=none/\p∉own)(hz:n<=1000)
  (hh:A.handled=none)(hd:A.depth+d<Zr)(hd1:A.depth<Zr){Q:List Zh->Zi->Prop}
  (k:∀ rows s',rows.length=n->Go H0 (b.Mg chg) s s'->Lg s'.heap (Hf rows)->(∀ (j:Nat)(q:UU),rows[j]? = some q->∃ t,q.pos = .int j t)->(∀ q∈rows,s.heap.get? q.r=none)->Fi (rows.map (λuu=>uu.key)) s'->Q (Wn rows) s') :
  Zp (model PW w) A (collect (.ref b.z)) Q E s:=by
 refine Zf (Kq (Wq PySem.F.entry_proto_collect PySem.F.plain_proto_collect ?_))
 refine Zf (Si (H0:=H0) (λD s1 g1 hD1 nD=>?_) (Yt _))
 have hHD:H0.get? D=none:=by
  cases q:H0.get? D with
  | none=>rfl
  | some o=>have:=S.glob _ _ q; exact Wu (ZF (ZR nD) this)
 refine G7 Z.st λf0 fl Z1 Z2=>?_
 refine By Z1.lg λxs e t u C hxs=>?_
 have hDm:D∉[b.z,b.TI,b.TO,b.ct] :=
  have ne:∀ {x o},s.heap.get? x=some o->D=x->False:=λe q=>Wu (nD.symm.trans (q▸e))
  Vr (ne (C.at 0 rfl)) (Vr (ne (C.at 1 rfl)) (Vr (ne (C.at 2 rfl)) (Fv (ne (C.at 3 rfl)))))
 have hDo:D∉own:=λhm=>by refine zE (Sr.there _ _ D Z1.inv hm) λo ho=>?_; exact Wu (ZF (ZR nD) ho)
 have hDM:D∉b.Mg chg:=Vr (λh=>hDm (h ▸ .head _)) (Vr (λh=>hDm (h ▸ .tail _ (.tail _ (.head _)))) (Vr (λh=>hDm (h ▸ .tail _ (.tail _ (.tail _ (.head _))))) λh=>hDo (Sr.sub _ h)))
 refine Zm ⟨Wv PySem.F.plain_list_iadd _,Wq PySem.F.entry_list_iadd PySem.F.plain_list_iadd ?_⟩
 show Zp _ A.in1 (XI (.ref D) (.ref b.z) (.ref D)) _ _ s1
 have hT1:s1.TypeIs (.ref b.z) "zip":=⟨_,(C.go g1).at 0 rfl,rfl⟩
 delta XI
 refine Zf (wpAny_typeOf hT1 ?_)
 have h1:WX (.ref D) (.ref b.z)=false:=by
  simp only [WX,beq_eq_false_iff_ne]; exact λe=>hDm (by simp [e])
 rw [h1]
 refine YR Zn ?_
 refine Zf (wpAny_pyIter_slot hT1 PySem.F.slot_zip_iter (Xh PySem.F.slot_zip_iter hT1 PySem.F.entry_zip_iter ?_ (PySem.F.args_zip_iter_1 _)))
 show Zp _ _ (ret (.ref b.z)) _ _ _
 refine Zm ⟨_,rfl,"zip",_,hT1,PySem.F.slot_zip_next.lookup,?_⟩
 refine Zf (Yc ?_)
 delta Jz
 refine Zf (JX hT1 OF ?_)
 show Zp _ A.in1 (specialOf (ZS b.z) (Zj "__length_hint__") >>= _) _ _ _
 refine Zf (JX hT1 Ti ?_)
 refine Zm ?_
 show Zp _ A.in1 (rule "list.extend.makes-room" >>= λuu=>Builtin.List.listTouch (.ref D) >>= λuu=>
  again (.builtin "list.extend.loop" ⟨[.ref D,.ref b.z,.ref D],[]⟩)) _ _ _
 refine Zf (Xm ?_)
 refine Zf (Nr (H0:=H0) (s:=s1) hD1 hHD λs2 c2 g2 hS2=>?_)
 have hDn:∀ p∈[D],p∈([D]:List Zo)\/s.heap.get? p=none:=λp hp=>.inl hp
 have g02:Go H0 [D] s s2:=(g1.mono (M':=[D]) YC).trans g2
 refine Zm ⟨Wv PySem.F.plain_extend_loop _,?_⟩
 refine KV (CZI a b own chg Inv n H0 A l s D) ?_ n [] s2
  ⟨[],c2,rfl,rfl,Yt _,S.go g02,g02.mono (by exact Wo (.head _)),(λs' g=>Z.keep Sr g (λp hp=>by exact(Zk.mp hp)▸hDm) (λp hp=>by exact(Zk.mp hp)▸hDo) (λp hp q hq=>nomatch hq)) s2 g02,hS2,YC⟩
 rintro n' acc s' ⟨rows,c,rfl,rfl,hle,S',g',Z',hD',hr⟩
 have hm:∀ p∈b.Mg chg,p∈D::b.Mg chg:=λp hp=>.tail _ hp
 refine Zbf G F (S'.around (A':=A.in1) rfl) Sr Z' hH hh hd hd1 hle (λhlt q s3 g3 nq Z3=>?_) (λhN s3 g3 hrows hfi=>?_)
 ·have hqD:q.r≠D:=λe=>by rw [e,hD'] at nq; exact noN nq
  have hD3:=g3.nd _ _ hD' hDM Xe
  have g4:Go H0 [D] s3 { s3 with heap:=s3.heap.update D (Yb (·.push (.ref q.r))) }:=.upd _ hD3 Xe rfl Xe hHD
  have nqs:s.heap.get? q.r=none:=by
   cases z:s.heap.get? q.r with
   | none=>rfl
   | some o=>refine zE (g'.there _ _ z) λo' y=>?_; exact Wu (ZF (ZR nq) y)
  have hr':∀ q'∈rows++[q],q'.r≠D/\s.heap.get? q'.r=none:=λq' hq'=>(Xn.mp hq').elim (hr q') λh=>by exact(Zk.mp h)▸⟨hqD,nqs⟩
  have e:Yb (λx=>x.push (ZS q.r)) (ZD (Wn rows) c)=ZD (Wn rows++[ZS q.r]) (c+1):=by simp [Yb]
  have hf:=YS (Yb (·.push (.ref q.r))) hD3 rfl
  rw [e] at hf
  exact⟨c,hD3,by simp only [Wn,YW]; rw [ZW]; lia,n-(rows.length+1),by grind,⟨rows++[q],c+1,by simp [Wn],by simp,by simp; assumption,(S'.go g3).go g4,(g'.trans (g3.mono hm)).trans (g4.mono (by exact Wo (.head _))),Z3.keep Sr g4 (λp hp=>by exact(Zk.mp hp)▸hDm) (λp hp=>by exact(Zk.mp hp)▸hDo) (λp hp q' hq'=>by exact(Zk.mp hp)▸(hr' q' hq').1.symm),hf,hr'⟩⟩
 ·have hD3:=g3.nd _ _ hD' hDM Xe
  show Zp _ A (load D >>= _) _ _ s3
  refine Zf (wpAny_load hD3 ?_)
  have g03:Go H0 (b.Mg chg) s s3:=by
   have g:=g'.trans (g3.mono hm)
   have:=(Go.refl H0 (b.Mg chg) s).step g (λp hp=>by
    rcases Z7.mp hp with rfl | hp
    ·exact .inr nD
    ·exact .inl hp)
   exact this
  exact Zm (k rows s3 hN g03 ⟨hrows,Z'.lg.nodup⟩ Z'.pos (λq hq=>(hr q hq).2) hfi)
theorem OM(G:Gl K H0 mg mb)(F:KF K a)(S:St H0 A l s)(κ:We)(Sr:Src w H0 l d b.I own chg n Inv Fi)(Z:ZL a b own Inv [] s)(hH:∀ p∈[b.z,b.TI,b.TO,b.ct],H0.get? p=none/\p∉own)(h64:n<200){rv:Bool}
  (hh:A.handled=none)(hd:A.depth+d<Zr)(hd1:A.depth<Zr){Q:Za}
  (hKR:∀ rows s',rows.length=n->Fi (rows.map (λuu=>uu.key)) s'->I0 κ rows)
  (k:∀ D rows rows' n' s',rows.length=n->(∀ (j:Nat)(q:UU),rows[j]? = some q->∃ t,q.pos = .int j t)->Fi (rows.map (λuu=>uu.key)) s'->rows'.Perm rows->Zbb κ rv rows'->Go H0 (b.Mg chg) s s'->Lg s'.heap ((D,ZD (Wn rows') n')::Hf rows')->(∀ q∈rows,s.heap.get? q.r=none)->s.heap.get? D=none->Q (.ref D) s') :
  Zp (model PW w) A (call (.builtin "sorted") [.ref b.z] [(Zj "reverse",.bool rv)]) Q E s:=by
 refine call_function_entry_kw kind_sorted plain_sorted entry_sorted (args_sorted_rev _ _) ?_
 refine Zf (m:=checkCount "sorted" 1 1 _) (Zm ?_)
 refine Zf (O6 G F (S.around (A':=A.in1) rfl) Sr Z hH (by lia) hh hd hd1 λrows s1 hN g1 L1 hp hf hfi=>?_)
 have hlen:(Wn rows).length=n:=by simp [Wn,hN]
 refine Zf (Si (H0:=H0) (λD s2 gp hD2 nD1=>?_) (by rw [hlen,ZW]; lia))
 have S1:=S.go g1
 have hHD:H0.get? D=none:=by
  cases q:H0.get? D with
  | none=>rfl
  | some o=>have:=S1.glob _ _ q; exact Wu (ZF (ZR nD1) this)
 have nD:s.heap.get? D=none:=by
  cases q:s.heap.get? D with
  | none=>rfl
  | some o=>refine zE (g1.there _ _ q) λo' z=>?_; exact Wu (ZF (ZR nD1) z)
 have L2:=L1.go gp
 have hrow:∀ q∈rows,s2.heap.get? q.r=some (XX [q.key,q.pos]):=λq hq=>(L2.has _ (ZZ.mpr ⟨q,hq,rfl⟩)).at_
 have hnod:(rows.map (λuu=>uu.r)).Nodup:=by
  have:=L1.nodup
  unfold Hf at this
  rw [UZ] at this
  exact this
 have KR:=hKR rows s1 hN hfi
 have hDown:∀ p∈[D],p∉own:=λp hp hm=>by
  rw [Zk.mp hp] at hm
  refine G7 Z.st λf0 fl Z1 uu=>?_
  refine zE (Sr.there _ _ D Z1.inv hm) λo ho=>?_
  exact Wu (ZF (ZR nD) ho)
 refine Zf (Yc (wpAny_call_entry_kw slot_list_sort ⟨_,hD2,rfl⟩ entry_list_sort (SP (s:=s2) κ KR (DZ hp) G.nob (λx o e=>(S1.go gp).glob x o e) hD2 hHD hrow hnod (by lia) λrows' n' s3 r1 r2 g3 hD3=>⟨_,rfl,?_⟩) (args_list_sort_rev _ _)))
 refine Zm ⟨_,rfl,?_⟩
 have g13:Go H0 [D] s1 s3:=(gp.mono (M':=[D]) YC).trans g3
 refine k D rows rows' n' s3 hN hp (Sr.keepF _ _ _ _ hfi g13 hDown) r1 r2 (g1.step g13 λp hp=>.inr (by exact(Zk.mp hp)▸nD)) ?_ hf nD
 have L3:Lg s3.heap (Hf rows):=L1.turn g13 _ rfl λp hp=>.inl ⟨hp,λq=>by
  have:=(L1.has p hp).at_
  rw [Zk.mp q,nD1] at this; exact Wu this⟩
 have pm:(Hf rows').Perm (Hf rows):=r1.map _
 refine⟨λp hp=>(Z7.mp hp).elim (λe=>by exact e▸VD hD3) λh=>L3.has p (pm.mem_iff.mp h),?_⟩
 rw [YD]
 refine XT.mpr ⟨λhm=>?_,(pm.map _).nodup_iff.mpr L3.nodup⟩
 refine XW (ZZ.mp hm) λp hp e=>?_
 have:=(L1.has p (pm.mem_iff.mp hp)).at_
 rw [e,nD1] at this; exact Wu this
end
theorem BV:plainId "zip.__new__"=true:=by decide +kernel
theorem Zfl{v:Zh}{ct:Zo}{Q:Za}
  (h:Zp (model PW w) A.in1 (pyIter v) (λi1 s1=>Zp (model PW w) A.in1 (pyIter (.ref ct)) (λi2 s2=>Zp (model PW w) A.in1 (newTuple [i1,i2]) (λTI s3=>Zp (model PW w) A.in1 (newTuple [.none,.none]) (λTO s4=>
   Q (.ref s4.heap.objs.size) { s4 with heap:=s4.heap.push { cls:=.type "zip",data:=.fields #[.none,.bool false,.bool false,TI,TO] } }) (λe s'=>wants Q E (.error e) s') s3) (λe s'=>wants Q E (.error e) s') s2) (λe s'=>wants Q E (.error e) s') s1) (λe s'=>wants Q E (.error e) s') s) :
  Yk (model PW w) A (.call (.builtin "zip.__new__") ⟨[.type "zip",v,.ref ct],[]⟩) (wants Q E) s:=by
 refine codeAny_of_tree ?_
 refine Zf (Xk (PySem.F.newCall_zip_2 _ _) (Zm ⟨Wv BV _,Wq PySem.F.entry_zip_new BV ?_⟩))
 refine Zf ?_
 delta Builtin.SmallTypes.newClass
 dsimp only
 refine Zf (m:=isType (.type "zip")) (Zm ?_)
 rw [sub_zip]
 refine Zf (Zm ?_)
 refine Zm ?_
 dsimp only
 first | refine Y6 (by decide) ?_ | refine YR (by decide) ?_ | rw [if_neg (by decide)]
 refine Zf ?_
 delta Builtin.SmallTypes.iterAll
 simp only [JK,List.forIn_nil]
 refine Zf (Zf (Zf (Yc (Yr h (λi1 s1 h1=>Zm ?_) λuu uu z=>z))))
 dsimp only
 refine Zf (Zf (Yc (Yr h1 (λi2 s2 h2=>Zm (Zm (Zm ?_))) λuu uu z=>z)))
 refine Zf (Yr h2 (λTI s3 h3=>Zf (Yr h3 (λTO s4 h4=>Zf ?_) λuu uu z=>z)) λuu uu z=>z)
 show Zp _ _ (newObj (.type "zip") (.fields #[.none,.bool false,.bool false,TI,TO])) _ _ _
 exact Xa (Zm h4) (by size_fits)
theorem Zbg{v:Zh}{I ct dc:Zo}{own chg:List Zo}{Inv Fi:List Zh->Zi->Prop}{n d:Nat}{t u:W7}(G:Gl K H0 mg mb)(F:KF K a)(S:St H0 A l s)(Sr:Src w H0 l d I own chg n Inv Fi)
  (hct:Wy s.heap (ct,io a.ct dc (Sz (.int 0 t) (.bool true) (.int 1 u))))(hHct:H0.get? ct=none)(hcto:ct∉own)(hroom:A.depth<Zr)
  (hit:∀ (A':YE)(Q:Za)(E:Za),A'.handled=A.handled->A'.depth=A.depth->A'.frames=A.frames->(∀ s1,Go H0 [] s s1->Inv [] s1->Q (.ref I) s1)->Zp (model PW w) A' (pyIter v) Q E s){Q:Za}
  (k:∀ b:ZA,∀ s',b.ct=ct->b.dc=dc->b.I=I->Go H0 [] s s'->ZL a b own Inv [] s'->(∀ p∈[b.z,b.TI,b.TO],s.heap.get? p=none)->(∀ p∈[b.z,b.TI,b.TO,b.ct],H0.get? p=none/\p∉own)->Q (.ref b.z) s') :
  Zp (model PW w) A (call (.type "zip") [v,.ref ct]) Q E s:=by
 refine callType_codes (Q₁:=λobj s₁=>s₁.TypeIs obj "zip"/\Q obj s₁) PySem.F.called_zip (PySem.F.typeCall_zip_2 _ _) PySem.F.entry_object_init (Zfl ?_) λobj s₁ h₁=>⟨h₁.1,PySem.F.args_object_init_3 obj _ _,?_⟩
 rotate_left
 ·exact object_init_meets (T:="zip") (newId:="zip.__new__") PySem.F.slot_zip_init.lookup PySem.F.called_zip.made (by decide) PW w A.in1 _ s₁ ⟨h₁.1,rfl,h₁.2⟩
 refine hit _ _ _ rfl rfl rfl λs1 g1 i1=>?_
 have hct1:=hct.go g1 (λh=>nomatch h)
 have S1:=S.go g1
 refine Ir (S1.X G) hct1 F.mctT F.mctN (O1 G F (S1.around (A':=A.in1.in1) rfl) hroom λs2 g2=>⟨rfl,((S1.go g2).X G),hct1.go g2 (λh=>nomatch h),?_⟩)
 have L0:Lg s2.heap [(ct,io a.ct dc (Sz (.int 0 t) (.bool true) (.int 1 u)))]:=⟨λp hp=>by exact(Zk.mp hp)▸(hct1.go g2 (λh=>nomatch h)),by exact nd1⟩
 refine L0.new (H0:=H0) (λTI s3 gp1 L1 n1=>?_) (by show 2<=_; rw [ZW]; decide)
 have i3:=Sr.keep _ _ _ _ (Sr.keep _ _ _ _ i1 g2 YC) gp1 YC
 refine L1.new (H0:=H0) (λTO s4 gp2 L2 n2=>?_) (by show 2<=_; rw [ZW]; decide)
 have i4:=Sr.keep _ _ _ _ i3 gp2 YC
 refine L2.push (H0:=H0) (P:=λz s'=>s'.TypeIs (.ref z) "zip"/\Q (.ref z) s') (o:=zO .none false TI TO) Y5 rfl rfl λz s5 gp3 L3 n3=>?_
 have i5:=Sr.keep _ _ _ _ i4 gp3 YC
 have h3:=L3.at 0 rfl
 have g04:=((g1.trans g2).trans gp1).trans gp2
 have fr:∀ {s₀ s':Zi} {p:Zo},Go H0 [] s₀ s'->s'.heap.get? p=none->s₀.heap.get? p=none:=λ{s₀ s' p} g hp=>by
  cases q:s₀.heap.get? p with
  | none=>rfl
  | some o=>refine zE (g.there _ _ q) λo' y=>?_; exact Wu (ZF (ZR hp) y)
 have hn1:∀ p∈[z,TI,TO],s1.heap.get? p=none:=by
  exact Xu (fr ((g2.trans gp1).trans gp2) n3) (Xu (fr g2 n1) (Wo (fr (g2.trans gp1) n2)))
 have hn:∀ p∈[z,TI,TO],s.heap.get? p=none:=λp hp=>fr g1 (hn1 p hp)
 have hin:∀ p,s1.heap.get? p=none->H0.get? p=none/\p∉own:=by
  intro p hp
  refine⟨?_,λhm=>?_⟩
  ·cases q:H0.get? p with
   | none=>rfl
   | some o=>have:=S1.glob _ _ q; exact Wu (ZF (ZR hp) this)
  ·refine zE (Sr.there _ _ p i1 hm) λo ho=>?_
   exact Wu (ZF (ZR hp) ho)
 refine⟨⟨_,h3,rfl⟩,k ⟨z,TI,TO,ct,dc,I⟩ _ rfl rfl rfl (g04.trans gp3) ⟨⟨.none,false,⟨⟨#[.none,.none],0,t,u,?_,rfl⟩,i5,.inl ⟨rfl,rfl⟩⟩,.inl ⟨rfl,rfl,rfl⟩⟩,⟨YC,Un⟩,λj q h=>(by exact Wu h),YC⟩ hn λp hp=>?_⟩
 ·exact L3.perm (.cons _ (.swap _ _ _))
 ·exact(Xu (hin _ (hn1 _ (.head _))) (Xu (hin _ (hn1 _ (.tail _ (.head _)))) (Xu (hin _ (hn1 _ (.tail _ (.tail _ (.head _))))) (Wo ⟨hHct,hcto⟩))):∀ p∈[z,TI,TO,ct],H0.get? p=none/\p∉own) p hp
theorem Zaj{it:Zo}{i:Nat}{Q:Za}(hh:A.handled=none)(hit:s.heap.get? it=some (itE i))
  (hE:∀ h' e,Ja s.heap h' e "StopIteration" []->E (.ref e) { s with heap:=h' }):Zp (model PW w) A (call (.builtin "next") [.ref it]) Q E s:=by
 have hT:s.TypeIs (.ref it) "list_iterator":=⟨_,hit,rfl⟩
 refine call_function_entry (by decide +kernel) (by decide +kernel) Hl (Iz _) ?_
 refine Zf (m:=someArgs "next" 1 2 _) (Xk (a:=[ZS it]) (by first | rfl | kernel_rfl!) ?_)
 dsimp only
 refine Zf (JX (name:=Zj "__next__") hT Xd.lookup ?_)
 refine wpAny_ite_split (λhab=>absurd hab (by decide)) (λuu=>?_)
 refine Zf (YY (name:=Zj "__next__") hT Xd (Xh Xd hT UB ?_ (UR _)))
 show Zp _ _ (field (.ref it) 0 >>= _) _ _ s
 refine Zf (YA hit rfl (x:=.none) rfl ?_)
 show Zp _ _ (if(Yl==Yl)=true then _ else _) _ _ s
 first | refine YV (by decide) ?_ | refine YT (by decide) ?_ | rw [if_pos (by decide)]
 refine Zf (Xm (Zf ?_))
 delta Builtin.SmallTypes.stopIteration
 refine Zf (V3 (λh' e hm=>?_))
 refine Zf (Vd ?_)
 rw [show A.in1.in1.handled=none from hh]
 exact Zf (Zm (JN (hE _ _ hm)))
theorem Zae(G:Gl K H0 mg mb)(F:KF K a)(S:St H0 A l s){it:Zo}{i:Nat}(hit:s.heap.get? it=some (itE i))(hroom:A.depth<Zr)(hh:A.handled=none){Q:Za}
  (k:∀ t s',Go H0 [] s s'->s'.heap.get? t=some (XX [.bool false,.none])->s.heap.get? t=none->Q (.ref t) s'):Zp (model PW w) A (call (.ref a.pull) [.ref it]) Q E s:=by
 refine Y7 (Ub (binds:=[(Zj "it",.ref it)]) G S F.pull [] [(it,itE i)] (λp hp=>by exact(Zk.mp hp) ▸ .of hit Y5 rfl) (by exact nd1) hroom (λuu uu uu uu uu uu=>YG rfl) (by decide) (locs rfl) λL cdv s1 uu C=>?_)
 refine Zg (U4 (Zg (Ym (U7 (Zq (Y8 (Zq ?_)))))))
 refine Xj (C.boot G F.nnext Boot.«next» ?_)
 refine Wi (Zq (C.name rfl (ZC ?_)))
 refine Zaj hh (C.at 0 rfl) λh' e hm=>?_
 refine C.noteMade (cls:=.type "StopIteration") ⟨hm.keeps,hm.new,hm.there⟩ rfl λt s2 hd=>?_
 refine hd.lands λs3 F3=>?_
 refine wpAny_handleBy_builtin (X:="StopIteration") (T:="StopIteration") (b:=true) owsi_raise.isExc (by rw [isSubtype_type]; kernel_rfl) owsi_facts.sub ?_
 refine((C.call F3.go).around (A':=(A.deeper (Y0 "_pull" HJ.2.2 L a.pull cdv)).mark (some (.ref e))) rfl).boot G F.nstop Boot.«StopIteration» ⟨rfl,F3.typ,?_⟩
 first | refine YV rfl ?_ | refine YT rfl ?_ | rw [if_pos rfl]
 refine F3.again λs4 F4=>?_
 refine Zg (Ym (U7 (Zq (Y8 (Zq (Wm (ZC ⟨_,_,_,_,_,_,_,_,((C.call F4.go).around (A':=(A.deeper (Y0 "_pull" HJ.2.2 L a.pull cdv)).mark (some (.ref e))) rfl),by simp [ZW],λt s2 C5 n1 n2=>?_⟩)))))))
 exact k t _ C5.go (C5.at 0 rfl) n1.e
theorem SO(G:Gl K H0 mg mb)(F:KF K a)(S:St H0 A l s){x dg it:Zo}{i:Nat}{cg ck cv kf se tk:Zh}{hk hv ht:Bool}
  (hx:Wy s.heap (x,io a.gb dg (VK cg ck cv hk hv ht (.ref it) kf se tk)))(hit:s.heap.get? it=some (itE i))
  (hroom:A.depth+1<Zr)(hh:A.handled=none){R:Zc}
  (k:∀ e t s',VY H0 [] s l e (.type "StopIteration") (.ref t) [] s'->R (.error (.ref e)) s') :
  Yk (model PW w) A (.call (.ref a.gbStep) ⟨[.ref x],[]⟩) R s:=by
 refine Ub (binds:=[(Zj "self",.ref x)]) G S F.gbStep [] [(x,io a.gb dg (VK cg ck cv hk hv ht (.ref it) kf se tk)),(it,itE i)] (λp hp=>?_) (by simp [(JB hx.at_ hit (by intro q; cases q))]) (ZO hroom) (λuu uu uu uu uu uu=>YG rfl) (by decide) (locs rfl) λL cdv s1 uu C=>?_
 ·rcases Z7.mp hp with rfl | hp
  ·exact hx
  ·exact(Zk.mp hp) ▸ .of hit Y5 rfl
 refine Zg (Assign_Tuple (C.callFn G F.npull F.kpull (Zq (C.attr G 0 rfl rfl F.gb F.gb6 rfl rfl λs2 C2=>ZC ⟨C2.st.X G,?_⟩))))
 refine Zae G F C2.st (C2.at 1 rfl) hroom hh λt s3 g3 ht3 nt3=>?_
 refine(C2.callN g3 (Gx ht3) nt3).unpack2 0 rfl hh λs4 C4=>?_
 refine Zg (Yv (Xg (ZY (C4.name rfl (Zu ?_)))))
 refine Zg (owsi_raiseC hh (C4.boot G F.nstop Boot.«StopIteration» ⟨rfl,rfl⟩) λh' e hm=>?_)
 refine C4.raised (cls:=.type "StopIteration") ⟨hm.keeps,hm.new,hm.there⟩ rfl λt s5 F5 uu=>?_
 exact k e t s5 (F5.with [] YC)
theorem Oj(G:Gl K H0 mg mb)(F:KF K a)(S:St H0 A l s){x dg it:Zo}{i:Nat}{cg ck cv kf tk:Zh}{hv ht:Bool}{se:Zh}
  (hx:Wy s.heap (x,io a.gb dg (VK cg ck cv false hv ht (.ref it) kf se tk)))(hit:s.heap.get? it=some (itE i))(hHx:H0.get? x=none)
  (hroom:A.depth+2<Zr)(hh:A.handled=none){R:Zc}
  (k:∀ e t s',VY H0 [x] s l e (.type "StopIteration") (.ref t) [] s'->R (.error (.ref e)) s') :
  Yk (model PW w) A (.call (.ref a.gbNext) ⟨[.ref x],[]⟩) R s:=by
 refine Ub (binds:=[(Zj "self",.ref x)]) G S F.gbNext [x] [(x,io a.gb dg (VK cg ck cv false hv ht (.ref it) kf se tk)),(it,itE i)] (λp hp=>?_) (by simp [(JB hx.at_ hit (by intro q; cases q))]) (ZO (ZO hroom)) (λuu uu uu uu uu uu=>YG rfl) (by decide) (locs rfl) λL cdv s1 uu C=>?_
 ·rcases Z7.mp hp with rfl | hp
  ·exact hx
  ·exact(Zk.mp hp) ▸ .of hit Y5 rfl
 refine Zg (Zy (Zt ((C.tok 1).setA G 0 rfl rfl F.gb F.gb0 (.inl (by exact .head _)) hHx (λs2 C2=>?_) (sl':=VK (.int 0 s1.toks) ck cv false hv ht (.ref it) kf se tk) (he:=by kernel_rfl))))
 refine Zg (Gv (JJ (λn' s'=>n'=0/\s'=s2) (λn' s' hI=>?_) 0 ⟨rfl,rfl⟩))
 obtain ⟨-,rfl⟩:=hI
 refine ZY (Y8 (Zu ?_))
 refine YV rfl ?_
 refine wpAny_passesOwn PassesOwn.leaving ?_
 refine Zg (Yv (ZY (C2.attr G 0 rfl rfl F.gb F.gb3 rfl rfl λs3 C3=>Zu ?_)))
 refine Y6 (by decide) ?_
 refine Z4 ?_
 refine Zg (wpAny_Expr (C3.callMeth0 G 0 rfl rfl F.gb F.mgbS (Y7 ?_)))
 refine SO G F C3.st (C3.ok 0 rfl) (C3.at 1 rfl) hroom hh λe t s4 F4=>?_
 exact((F4.lift C3.go YC).with [] YC).leave C3.st.frames rfl λs5 F6=>k e t s5 F6
section
variable {f:Zo}
variable {cn:Yz}
theorem VU{it lst:Zo}{i:Nat}{vs:List Zh}{n:Nat}{x:Zh}{Q:Option Zh->Zi->Prop}(hit:s.heap.get? it=some (WV lst i))(hl:s.heap.get? lst=some (ZD vs n))(hx:vs[i]? = some x)
  (hQ:Q (some x) { s with heap:=s.heap.update it (ZP (·.setIfInBounds 1 (Xr ((i:Int)+1)))) }):Zp (model PW w) A (pyNext (.ref it)) Q E s:=by
 have hT:s.TypeIs (.ref it) "list_iterator":=⟨_,hit,rfl⟩
 refine Zf (Ut (YY (name:=Zj "__next__") hT Xd (Xh Xd hT UB ?_ (UR _))))
 show Zp _ _ (field (.ref it) 0 >>= _) _ _ s
 refine Zf (YA hit rfl (x:=.ref lst) rfl ?_)
 show Zp _ _ (if(ZS lst==Yl)=true then _ else _) _ _ s
 first | refine Y6 rfl ?_ | refine YR (show ¬ ((ZS lst==Yl)=true) from Zn) ?_ | rw [if_neg (show ¬ ((ZS lst==Yl)=true) from Zn)]
 show Zp _ _ (field (.ref it) 1 >>= _) _ _ s
 refine Zf (YA hit rfl (x:=.int i 0) rfl ?_)
 show Zp _ _ (Uq (.ref lst) >>= _) _ _ s
 refine Zf (YJ hl rfl ?_)
 simp only [XM,XE,hx]
 exact Zf (XY hit rfl (by exact Z6 _) (Zm ⟨x,rfl,Zm hQ⟩))
theorem Gm{it lst:Zo}{i:Nat}{vs:List Zh}{n:Nat}{Q:Option Zh->Zi->Prop}(hh:A.handled=none)(hit:s.heap.get? it=some (WV lst i))(hl:s.heap.get? lst=some (ZD vs n))(hx:vs[i]? = none)
  (hQ:∀ h' e,Ja (s.heap.update it (ZP (·.setIfInBounds 0 .none))) h' e "StopIteration" []->Q none { s with heap:=h' }):Zp (model PW w) A (pyNext (.ref it)) Q E s:=by
 have hT:s.TypeIs (.ref it) "list_iterator":=⟨_,hit,rfl⟩
 refine Zf (Ut (YY (name:=Zj "__next__") hT Xd (Xh Xd hT UB ?_ (UR _))))
 show Zp _ _ (field (.ref it) 0 >>= _) _ _ s
 refine Zf (YA hit rfl (x:=.ref lst) rfl ?_)
 show Zp _ _ (if(ZS lst==Yl)=true then _ else _) _ _ s
 first | refine Y6 rfl ?_ | refine YR (show ¬ ((ZS lst==Yl)=true) from Zn) ?_ | rw [if_neg (show ¬ ((ZS lst==Yl)=true) from Zn)]
 show Zp _ _ (field (.ref it) 1 >>= _) _ _ s
 refine Zf (YA hit rfl (x:=.int i 0) rfl ?_)
 show Zp _ _ (Uq (.ref lst) >>= _) _ _ s
 refine Zf (YJ hl rfl ?_)
 simp only [XM,XE,hx]
 refine Zf (Xm (Zf (XY hit rfl (by exact Jb _) ?_)))
 show Zp _ _ (newExc (.type "StopIteration") [] >>= _) _ _ _
 refine Zf (V3 (λh' e hm=>?_))
 refine Zf (Vd ?_)
 rw [show A.in1.handled=none from hh]
 refine XW hm.there λt ht uu=>?_
 refine Zf (Zm (JN ?_))
 refine Zf (wpAny_isInstance (T:="StopIteration") (b:=true) (s:={ s with heap:=h' }) (show Shared.TypeIs { s with heap:=h' } (.ref e) "StopIteration" from⟨_,ht,rfl⟩) owsi_facts.sub ?_)
 exact Zm (hQ h' e hm)
theorem N5{elts:List Vz} {x1}{pos:V7}{I lst:Zo}{T:Zh}{i:Nat}{Q:Unit->Zi->Prop}(hit:s.heap.get? I=some (WV lst i))(hQ:Q () s) :
  Zp (model PW w) A (letOwnedTupleGo (.Tuple elts x1 pos) (.ref I) T) Q E s:=by
 cases T with
 | ref T=>exact wpAny_letOwnedTupleGo_listiter ⟨_,hit,rfl,rfl⟩ hQ
 | _=>exact Zm hQ
theorem Zcz{elts:List Vz} {x1}{pos:V7}{I c dx:Zo}{T:Zh}{sl:List (Option Zh)}{Q:Unit->Zi->Prop}(hit:s.heap.get? I=some (io c dx sl))(hQ:Q () s) :
  Zp (model PW w) A (letOwnedTupleGo (.Tuple elts x1 pos) (.ref I) T) Q E s:=by
 cases T with
 | ref T=>
  exact Zf (wpAny_load hit (Zm hQ))
 | _=>exact Zm hQ
theorem Nt{lst:Zo}{vs:List Zh}{n j:Nat}{k:Int}{t:W7}{v:Zh}{Q:Unit->Zi->Prop}(hk:k=(j:Int))(hl:s.heap.get? lst=some (ZD vs n))(hj:j<vs.length)(hfit:k<2^63)
  (hQ:Q () { s with heap:=s.heap.update lst (Yb (·.setIfInBounds j v)) }):Zp (model PW w) A (setItem (.ref lst) (.int k t) v) Q E s:=by
 have hT:s.TypeIs (.ref lst) "list":=⟨_,hl,rfl⟩
 delta setItem
 try with_reducible refine Yc ?_
 first | refine Zf (Zm ?_) | skip
 refine Zf (wpAny_sequenceKey hT (by decide) ?_)
 refine Zf (YY (name:=Zj "__setitem__") hT slot_list_setitem
  (Xh slot_list_setitem hT entry_list_setitem ?_ (args_list_setitem _ _ _)))
 show Zp _ _ (Builtin.List.listSubscript? (.int k t) >>= _) _ _ s
 refine Zf (wpAny_listSubscript_int (fitsIndex_of (by exact hk▸Ul j) hfit) ?_)
 clear hfit
 subst hk
 have hx':vs.toArray[j]? = some vs[j]:=by simp [hj]
 show Zp _ _ ((seqItemAt lst j >>= λr=>pure (r.map (j,·))) >>= _) _ _ s
 refine Zf (Zf (wpAny_seqItemAt hl rfl (Zm ?_)))
 rw [hx']
 show Zp _ _ (setSeqItemAt lst j v >>= _) _ _ s
 exact Zf (wpAny_setSeqItemAt hl rfl (Zm ⟨.none,rfl,Zm hQ⟩))
noncomputable def UI(rk:Zh)(grp:List UU)(rv:List Zh):List Zh:=grp.foldl (λacc q=>acc.set (Uk q).toNat rk) rv
theorem GA(rk:Zh):∀ (grp:List UU) (rv:List Zh),(UI rk grp rv).length=rv.length
 | [],_=>rfl
 | q::r,rv=>(GA rk r _).trans (by simp)
end
section
variable {f:Zo}{rest:Zd}
variable {cn:Yz}
theorem TQ(rk:Zh)(grp:List UU)(q:UU)(rv:List Zh):UI rk (grp++[q]) rv=(UI rk grp rv).set (Uk q).toNat rk:=by simp [UI]
inductive GInv (N:Nat)(F:Nat->(Ze)->Nat->Zi->Prop)(n:Nat)(s:Zi):Prop
 | mk (i:Nat) (m':Ze) (c':Nat) (hi:i<=N) (hn:n=N-i) (hF:F i m' c' s):GInv N F n s
theorem O7{vn pn dn rn kn:Yz}{p1 p2 p3 tp dp rp kp sp ap fp:V7}{k:Nat}{res D:Zo}{rv:List Zh}{c cD:Nat}{grp:List UU}{rk:Zh}{Q:Zb}
  (C:Cx H0 A l M sE L m ((res,ZD rv c)::rest) s)(jD:Nat)(hD:rest[jD]? = some (D,ZD (Wn grp) cD))(hrow:∀ q∈grp,(q.r,XX [q.key,q.pos])∈rest)
  (hmr:m rn=some (.ref res))(hmd:m dn=some (.ref D))(hmk:m kn=some rk)
  (hpos:∀ q∈grp,(∃ t,q.pos = .int (Uk q) t)/\0<=Uk q/\(Uk q).toNat<rv.length)(hz:rv.length<2^60)(hM:res∈M\/sE.heap.get? res=none)(hH:H0.get? res=none)(hh:A.handled=none)(hE:PassesOwn (model PW w) A (Y0 cn cs L f cdv) E)
  (h:∀ m' c' s',Cx H0 A l M sE L m' ((res,ZD (UI rk grp rv) c')::rest) s'->(∀ z,z≠vn->z≠pn->m' z=m z)->Q .next s')
  (n1:rn≠vn/\rn≠pn/\kn≠vn/\kn≠pn/\vn≠pn:=by decide)
  (hk:cs.kind = .function:=by rfl)(l1:cs.names.lookup vn=some .local:=by rfl)(l2:cs.names.lookup pn=some .local:=by rfl)(l3:cs.names.lookup dn=some .local:=by rfl)(l4:cs.names.lookup rn=some .local:=by rfl)(l5:cs.names.lookup kn=some .local:=by rfl)
  (d1:(dn==("__debug__" : Yz))=false:=by decide)(d2:(rn==("__debug__" : Yz))=false:=by decide)(d3:(kn==("__debug__" : Yz))=false:=by decide)(d4:(pn==("__debug__" : Yz))=false:=by decide)
  (hp:(cs.kind == .class||(cs.kind == .module&&L != Zw))=false:=by rfl)(hf:∀ x,foldedSetIterable (.Name dn dp) (Y0 cn cs L f cdv) x=pure x:=by intro _; rfl)
  (hs:swapsWith (.Name kn kp) (some (.Subscript (.Name rn rp) (.Name pn p3) sp)) ap.line (Y0 cn cs L f cdv)=pure false:=by rfl) :
  Zp (model PW w) A (exec (.For (.Tuple [.Name vn p1,.Name pn p2] k tp) (.Name dn dp) [.Assign [.Subscript (.Name rn rp) (.Name pn p3) sp] (.Name kn kp) ap] [] fp) (Y0 cn cs L f cdv)) Q E s:=by
 refine Ie (C.name hmd ?_ hk l3 d1) hf
 refine W8 ⟨_,C.at (jD+1) hD,rfl,cD,rfl⟩ ?_
 have C1:=C.push (WV D 0) rfl Y5 rfl
 have nIT:s.heap.get? s.heap.objs.size=none:=XC
 have nwIT:=C.noE nIT
 generalize s.heap.objs.size=IT at C1 nIT nwIT ⊢
 refine Vf (GInv grp.length λi m' c' s'=>(∀ z,z≠vn->z≠pn->m' z=m z)/\Cx H0 A l M sE L m' ((IT,WV D i)::(res,ZD (UI rk (grp.take i) rv) c')::rest) s') ?_ grp.length ⟨0,m,c,Yt _,rfl,λuu uu uu=>rfl,C1⟩
 rintro n' s' ⟨i,m',c',hi,rfl,hm,C2⟩
 have hDe:((IT,WV D i)::(res,ZD (UI rk (grp.take i) rv) c')::rest)[jD+2]? = some (D,ZD (Wn grp) cD):=hD
 by_cases hlt:i<grp.length
 ·have hq:grp[i]? = some grp[i]:=ZE hlt
  have hqm:grp[i]∈grp:=Jq hlt
  generalize grp[i]=q at hq hqm
  refine VU (C2.at 0 rfl) (C2.at (jD+2) hDe) (T9 hq) ?_
  have C3:=C2.upd 0 (f:=ZP (·.setIfInBounds 1 (Xr ((i:Int)+1)))) rfl rfl Y5 rfl (.inr nwIT.e) nwIT.h
  refine N5 (i:=i+1) (C3.at 0 rfl) ?_
  refine zAA (hpos q hqm) λzq0 hq0 hqn=>?_; obtain ⟨tq,eq⟩:=zq0
  refine zM (hrow q hqm) λjq hjq ejq=>?_
  have hjq':rest[jq]? = some (q.r,XX [q.key,q.pos]):=by rw [ZE hjq,ejq]
  refine C3.unpack2 (jq+2) hjq' hh (λs4 C4=>?_) l1 l2 hp
  have mk:∀ z,z≠vn->z≠pn->(Jh (Jh m' vn q.key) pn q.pos) z=m z:=λz h1 h2=>by
   show(if z=pn then _ else if z=vn then _ else m' z)=m z
   rw [if_neg h2,if_neg h1,hm z h1 h2]
  refine wpAny_passesOwn hE ?_
  refine Zg (wpAny_Assign_Subscript (C4.name ((mk kn n1.2.2.1 n1.2.2.2.1).trans hmk) (C4.name ((mk rn n1.1 n1.2.1).trans hmr) (C4.name (v:=q.pos) (if_pos rfl) ?_ hk l2 d4) hk l4 d2) hk l5 d3) hs)
  rw [eq]
  refine Nt (j:=(Uk q).toNat) (by lia) (C4.at 1 rfl) (by rw [GA]; exact hqn) (by
   have:(2:Nat)^60<=2^62:=by decide
   have h3:(Uk q)<2^62:=by lia
   have h4:(2:Int)^62<2^63:=by decide
   lia) ?_
  have C5:=C4.upd 1 (f:=Yb (·.setIfInBounds (Uk q).toNat rk)) rfl rfl Xe rfl hM hH
  refine Z4 ⟨grp.length-(i+1),by grind,i+1,_,c',hlt,rfl,mk,?_⟩
  have e:Yb (λx=>x.setIfInBounds (Uk q).toNat rk) (ZD (UI rk (grp.take i) rv) c')=ZD (UI rk (grp.take (i+1)) rv) c':=by
   rw [List.take_add_one,hq]
   show _=ZD (UI rk (grp.take i++[q]) rv) c'
   rw [TQ]
   simp [Yb]
  have e2:([(IT,WV D (i+1)),(res,ZD (UI rk (grp.take i) rv) c')]++rest).set 1 (res,Yb (λx=>x.setIfInBounds (Uk q).toNat rk) (ZD (UI rk (grp.take i) rv) c'))=(IT,WV D (i+1))::(res,ZD (UI rk (grp.take (i+1)) rv) c')::rest:=by
   rw [e]; rfl
  rw [<- e2]
  exact C5
 ·have hil:i=grp.length:=by lia
  subst hil
  refine Gm hh (C2.at 0 rfl) (C2.at (jD+2) hDe) (Il (XS (Z6 _))) λh' e hm'=>?_
  have C3:=C2.upd 0 (f:=ZP (·.setIfInBounds 0 .none)) rfl rfl Y5 rfl (.inr nwIT.e) nwIT.h
  have C4:=C3.call (Bc (H0:=H0) (M:=[]) (s:={ s' with heap:=s'.heap.update IT (ZP (·.setIfInBounds 0 .none)) }) hm')
  rw [Vi] at C4
  exact Z4 (h m' c' _ (C4.drop _ (.cons _ (Yq _))) hm)
end
end
section
open PySem PySem.Float64
theorem Sh:(2:Nat)^1074=2^1073*2:=Nat.pow_succ ..
noncomputable def hf(z:Int):UInt64:=Float64.ofFrac (decide (z<0)) z.natAbs 2
theorem rep{n:Nat}(h:n<=2^52):∃ t,t<infMag/\V t=n*2^1073:=by
 by_cases h0:n=0
 ·subst h0; exact⟨0,by decide,by rw [V_zero,Nat.zero_mul]⟩
 ·have h1:=Nat.log2_self_le h0
  have h2:n<2^(n.log2+1):=Nat.lt_log2_self
  have hl:n.log2<=52:=by
   rcases Nat.lt_or_ge 52 n.log2 with z | z
   ·have:=Jc (n:=2) (by decide) z
    have h53:(2:Nat)^53=2^52*2:=by decide
    have:(2:Nat)^(52+1)<=2^n.log2:=Jc (by decide) z
    lia
   ·exact z
  generalize n.log2=l at h1 h2 hl
  have q1:2^52<=n*2^(52-l):=by
   have:2^l*2^(52-l)<=n*2^(52-l):=Yn _ h1
   rw [<- Xb,show l+(52-l)=52 by grind] at this
   exact this
  have q2:n*2^(52-l)<2^53:=by
   have:n*2^(52-l)<2^(l+1)*2^(52-l):=Nat.mul_lt_mul_of_pos_right h2 (Y4 _)
   rw [<- Xb,show l+1+(52-l)=53 by grind] at this
   exact this
  refine⟨(1021+l)*2^52+n*2^(52-l),?_,?_⟩
  ·have:infMag=2047*2^52:=rfl
   have h53:(2:Nat)^53=2^52*2:=by decide
   have h3:(1021+l)*2^52<=1073*2^52:=Yn _ (by lia)
   lia
  ·rw [V_at (ZU q2) (.inl q1),Wj,<- Xb,show 52-l+(1021+l)=1073 by grind]
theorem Zmj{t t':Nat}(h:V t=V t'):t=t':=by
 rcases Ux t t' with z | z | z
 ·have:=V_lt z; lia
 ·exact z
 ·have:=V_lt z; lia
theorem Zic{W:Nat}(h:W<=2^1125):¬ (1*((2^54-1)*2^2045)<=2*W):=by
 intro hc
 have h1:2*W<=2^1126:=by
  have:(2:Nat)^1126=2*2^1125:=by rw [show(1126:Nat)=1125+1 from rfl,Nat.pow_succ,WW]
  lia
 have h2:(2:Nat)^1126<2^2045:=Nat.pow_lt_pow_right (by decide) (by decide)
 grind
theorem ID{r:UInt64}{neg:Bool}{W t₀:Nat}(R:Right r neg W 1)(hV:V t₀=W)(hW:W<=2^1125):r=pack neg t₀:=by
 refine Bt R λt hr hle hov hnear=>?_
 have hlt:t<infMag:=by
  rcases Nat.lt_or_ge t infMag with z | z
  ·exact z
  ·exact absurd (hov.mp (Nat.le_antisymm hle z)) (Zic hW)
 have h1:=(hnear hlt t₀).1
 have h2:dist W (1*V t₀)=0:=by rw [hV,J7]; unfold dist; lia
 have h3:V t=W:=by rw [h2,J7] at h1; unfold dist at h1; lia
 rw [hr,Zmj (h3.trans hV.symm)]
theorem Ss{n:Nat}(h:n<=2^52):n*2^1073<=2^1125:=by
 have:n*2^1073<=2^52*2^1073:=Yn _ h
 rw [<- Xb] at this
 exact this
theorem Zdy(z:Int):Right (hf z) (decide (z<0)) (z.natAbs*2^1073) 1 :=
 ofFrac_right (by decide) (by rw [Nat.mul_one,Sh,Wj]) (by decide)
theorem NF{z:Int}(h:z.natAbs<=2^52):∃ t,t<infMag/\hf z=pack (decide (z<0)) t/\V t=z.natAbs*2^1073:=by
 refine XW (rep h) λt h1 h2=>?_
 exact⟨t,h1,ID (Zdy z) h2 (Ss h),h2⟩
theorem ND{r:UInt64}{z:Int}(h:z.natAbs<=2^52)(R:Right r (decide (z<0)) (z.natAbs*2^1073) 1):r=hf z:=by
 refine Gj (NF h) λt h1 h2 h3=>?_
 rw [h2,ID R h3 (Ss h)]
theorem BD(z:Int):sgn (decide (z<0)) z.natAbs=z:=by
 delta sgn
 by_cases h:z<0
 ·simp [h]; grind
 ·simp [h]; lia
theorem Hj{z:Int}(h:z.natAbs<=2^52):∃ m e,decode (hf z) = .fin (decide (z<0)) m e/\val (hf z)=z*2^1073:=by
 refine Gj (NF h) λt h1 h2 h3=>?_
 refine G7 (decode_pack (decide (z<0)) h1) λm e h4 h5=>?_
 refine⟨m,e,by exact h2▸h4,?_⟩
 rw [h2,val_pack _ h1,h3,sgn_mul,BD]
 push_cast
 rfl
theorem NC:hf 0=zero false:=by decide +kernel
theorem Zbs(a b:Int):a*2^1073+b*2^1073=(a+b)*2^1073:=(Int.add_mul ..).symm
theorem FH:(0:Int)<2^1073:=Int.pow_pos (by decide)
theorem N8(z:Int):decide (z*2^1073<0)=decide (z<0):=by
 have hp:=FH
 generalize (2:Int)^1073=P at hp ⊢
 by_cases h:z<0
 ·have:z*P<0:=Int.mul_neg_of_neg_of_pos h hp
  simp [h,this]
 ·have:¬ z*P<0:=Int.not_lt.mpr (Int.mul_nonneg (Int.not_lt.mp h) (Int.le_of_lt hp))
  simp [h,this]
theorem Fd(z:Int):(z*2^1073).natAbs=z.natAbs*2^1073:=by
 rw [Yu,Int.natAbs_pow]; rfl
theorem Bx(z:Int):z*2^1073=0↔z=0:=by
 have hp:=FH
 constructor
 ·intro h
  rcases Int.mul_eq_zero.mp h with h | h
  ·exact h
  ·grind
 ·rintro rfl; simp
theorem Bd.up{a:Int}{m k:Nat}(ha:a.natAbs<=m)(h:m<=k):a.natAbs<=k:=Zl ha h
theorem Bd.add{a b:Int}{m n k:Nat}(ha:a.natAbs<=m)(hb:b.natAbs<=n)(h:m+n<=k):(a+b).natAbs<=k:=Zl (Int.natAbs_add_le a b) (Zl (Wt ha hb) h)
theorem Bd.sub{a b:Int}{m n k:Nat}(ha:a.natAbs<=m)(hb:b.natAbs<=n)(h:m+n<=k):(a-b).natAbs<=k:=Zl (Int.natAbs_sub_le a b) (Zl (Wt ha hb) h)
theorem Bd.dbl{a:Int}{m k:Nat}(ha:a.natAbs<=m)(h:2*m<=k):(2*a).natAbs<=k:=by rw [Yu]; exact Zl (Xc 2 ha) h
theorem Bd.of_dbl{a z:Int}{m:Nat}(h:z=2*a)(hz:z.natAbs<=m):(2*a).natAbs<=m:=h▸hz
theorem Bd.half{a:Int}{m:Nat}(h:(2*a).natAbs<=m):a.natAbs<=m:=by rw [Yu] at h; exact Zl (Nat.le_mul_of_pos_left _ Nat.two_pos) h
theorem NG{a b:Int}(ha:a.natAbs<=2^52)(hb:b.natAbs<=2^52)(hc:(a+b).natAbs<=2^52):WC (hf a) (hf b)=hf (a+b):=by
 refine G7 (Hj ha) λm e d1 v1=>?_
 refine G7 (Hj hb) λk f d2 v2=>?_
 refine zA (add_right d1 d2) λr1 r2=>?_
 rw [v1,v2,Zbs] at r1 r2
 by_cases hz:a+b=0
 ·rw [r1 ((Bx _).mpr hz),hz,NC]
  have:(decide (a<0)&&decide (b<0))=false:=by
   by_cases h:a<0
   ·simp [h]; lia
   ·simp [h]
  rw [this]
 ·have R:=r2 (λh=>hz ((Bx _).mp h))
  rw [N8,Fd] at R
  exact ND hc R
theorem GQ{n:Int}(h:(2*n).natAbs<=2^52):Yy n=hf (2*n):=by
 refine ND h ?_
 have R:=ofInt_right n
 rw [Sh] at R
 have e1:n.natAbs*(2^1073*2)=(2*n).natAbs*2^1073:=by
  rw [Yu]; show _=2*n.natAbs*2^1073
  rw [WW (2^1073) 2,<- Wj,WW n.natAbs 2]
 have e2:decide (n<0)=decide (2*n<0):=by
  by_cases h:n<0
  ·simp [h]; lia
  ·simp [h]; lia
 rw [e1,e2] at R
 exact R
theorem Iv{z:Int}(h:z.natAbs<=2^52):Float64.isInf (hf z)=false:=by
 refine G7 (Hj h) λm e d uu=>?_
 delta Float64.isInf; rw [d]
open PySem PySem.Float64
theorem Dm{a b:Int}(ha:a.natAbs<=2^52)(hb:b.natAbs<=2^52)(hc:(a-b).natAbs<=2^52):Wx (hf a) (hf b)=hf (a-b):=by
 refine G7 (Hj ha) λm e d1 v1=>?_
 refine G7 (Hj hb) λk f d2 v2=>?_
 refine zA (sub_right d1 d2) λr1 r2=>?_
 rw [v1,v2,<- Int.sub_mul] at r1 r2
 by_cases hz:a-b=0
 ·rw [r1 ((Bx _).mpr hz),hz,NC]
  have:a=b:=by lia
  subst this
  cases decide (a<0)<;>rfl
 ·have R:=r2 (λh=>hz ((Bx _).mp h))
  rw [N8,Fd] at R
  exact ND hc R
end
section
open PySem PySem.W PySem.Calls PyProof.Rows PySem.Spec
section
variable {b:GB}
theorem OY(G:Gl K H0 mg mb)(F:KF K a)(S:St H0 A l s)(κ:We)(KR:I0 κ b.rows){y dy:Zo}{i:Nat}{q:UU}{n:Int}{t₁ t₂:W7}{se:Zh}(hi:b.rows[i]? = some q)
  (C:Lg s.heap ((y,io a.gr dy (b.gr n t₂ q.key))::b.ldg a (b.st (.int n t₁) q.key (.ref q.r) true true true se q.key) (WV b.lst (i+1))))
  (hHx:H0.get? b.x=none)(hHit:H0.get? b.it=none)(hz:b.rows.length<sizeLine)
  (hroom:A.depth+3<Zr)(hh:A.handled=none){Q:Za}
  (k:∀ D j c' s',i<j->(∀ m q',i<=m->m<j->b.rows[m]? = some q'->κ.eq q.key q'.key=true)->(∀ q',b.rows[j]? = some q'->κ.eq q.key q'.key=false)->j<=b.rows.length->Go H0 [b.x,b.it] s s'->s.heap.get? D=none ->
   Zjc a b s'.heap [(D,ZD (Wn ((b.rows.take j).drop i)) c'),(y,io a.gr dy (b.gr n t₂ q.key))] (.int n t₁) se q.key j->Q (.ref D) s') :
  Zp (model PW w) A (call (.type "list") [.ref y]) Q E s:=by
 refine Zal G S (C.ok 0 rfl) F.mgrT F.mgrN F.grLen F.grHint (λs1 Q1 E1 S1 h1=>Og G F (S1.around (A':=A.in1.in1) rfl) (Yg (Zx _ 3) hroom) h1) λD s1 c1 g1 nD hD=>?_
 have S1:=S.go g1
 have hHD:H0.get? D=none:=by
  cases z:H0.get? D with
  | none=>rfl
  | some o=>have:=S.glob _ _ z; exact Wu (ZF (ZR nD) this)
 refine Dp G F (S1.around (A':=A.in1) rfl) κ KR hi ((C.go g1).add (s:=s1) (VD hD) (λp hp e=>BX (C.has p hp).at_ nD e)) hHD hHx hHit hz hroom hh λj c' s2 h1 h2 h3 h4 g2 h5=>?_
 refine⟨rfl,k D j c' s2 h1 h2 h3 h4 ?_ nD h5⟩
 exact(g1.mono (M':=[b.x,b.it]) YC).step g2 λp hp=>by
  rcases Z7.mp hp with rfl | hp
  ·exact .inr nD
  ·exact .inl hp
inductive Tc (v:Zh)(z:Int):Prop where
 | int (n:Int) (t:W7) (e:v = .int n t) (h:z=2*n)
 | float (t:W7) (e:v = .float (hf z) t)
theorem Zdb{v:Zh}{z:Int}(h:Tc v z)(hz:z.natAbs<=2^51){u:W7}{Q:Za}(k:∀ r,Tc r (z-2)->Q r { s with toks:=s.toks+1 }):Zp (model PW w) A (JY .Sub v (.int 1 u)) Q E s:=by
 cases h with
 | int n t e h=>subst e; exact P.sub_int (k _ (.int (n-1) _ rfl (by lia)))
 | float t e=>
  subst e
  refine sub_fi_fits (by decide) (k _ (.float s.toks ?_))
  rw [GQ (n:=1) (by decide),Dm (Bd.up hz (by decide)) (by decide) (Bd.sub hz (n:=2) (by decide) (by decide))]
  rfl
theorem Zdd{v:Zh}{z:Int}(h:Tc v z)(hz:z.natAbs<=2^50){m:Int}(hm:m.natAbs<=2^50){u:W7}{Q:Za}(k:Q (.float (hf (z+m)) s.toks) { s with toks:=s.toks+1 }):Zp (model PW w) A (JY .Add v (.float (hf m) u)) Q E s:=by
 cases h with
 | int n t e h=>
  subst e
  refine add_if_fits ?_ ?_
  ·have:(2:Nat)^50<2^1023:=Nat.pow_lt_pow_right (by decide) (by decide)
   exact Yg (Bd.half (Bd.of_dbl h hz)) this
  ·rw [GQ (n:=n) (Bd.up (Bd.of_dbl h hz) (by decide)),<- h,NG (Bd.up hz (by decide)) (Bd.up hm (by decide)) (Bd.add hz hm (by decide))]; exact k
 | float t e=>
  subst e
  refine add_float ?_
  exact(NG (Bd.up hz (by decide)) (Bd.up hm (by decide)) (Bd.add hz hm (by decide)))▸k
theorem Zdc{v:Zh}{z:Int}(h:Tc v z)(hz:z.natAbs<=2^50){m:Int}(hm:m.natAbs<=2^49){u:W7}{Q:Za}(k:∀ r,Tc r (z+2*m)->Q r { s with toks:=s.toks+1 }):Zp (model PW w) A (inplaceOp .Add v (.int m u)) Q E s:=by
 cases h with
 | int n t e h=>subst e; exact P.iadd_int (k _ (.int (n+m) _ rfl (by lia)))
 | float t e=>
  subst e
  refine PySem.Flt.iadd_fi_1 ?_ ?_
  ·rw [GQ (n:=m) (Bd.dbl hm (by decide)),Iv (Bd.dbl hm (by decide))]; decide
  ·show Q _ _
   rw [GQ (n:=m) (Bd.dbl hm (by decide)),NG (Bd.up hz (by decide)) (Bd.dbl hm (by decide)) (Bd.add hz (Bd.dbl hm (Z6 _)) (by decide))]
   exact k _ (.float _ rfl)
theorem Zas{n:Int}(h:n.natAbs<=2^50){t u:W7}{Q:Za}(k:Q (.float (hf n) s.toks) { s with toks:=s.toks+1 }):Zp (model PW w) A (JY .Div (.int n t) (.int 2 u)) Q E s:=by
 have e:Float64.ofFrac (decide (n<0) != decide ((2:Int)<0)) n.natAbs (2:Int).natAbs=hf n:=by
  have:(decide (n<0) != decide ((2:Int)<0))=decide (n<0):=by cases decide (n<0)<;>rfl
  rw [this]; rfl
 refine AutoIntOps.truediv_2 (by decide) ?_ ?_
 ·rw [e,Iv (Bd.up h (by decide))]; decide
 ·show Q _ _
  exact e▸k
end
end
variable {κ:We}
section
open PySem PySem.W PySem.Calls PyProof.Rows PySem.Spec
structure Grp (κ:We)(rows:List UU)(i j:Nat):Prop where
 lt:i<j
 le:j<=rows.length
 same:∀ q m q',rows[i]? = some q->i<=m->m<j->rows[m]? = some q'->κ.eq q.key q'.key=true
 stop:∀ q q',rows[i]? = some q->rows[j]? = some q'->κ.eq q.key q'.key=false
noncomputable def Zfe(κ:We)(rows:List UU)(j:Nat):Prop:=j=0\/∃ i,Grp κ rows i j
noncomputable def RK(κ:We)(rows:List UU)(z:Int)(j:Nat)(rv:List Zh):Prop :=
 rv.length=rows.length/\∀ (m:Nat) (q:UU),m<j->rows[m]? = some q->∃ i0 i1:Nat,Grp κ rows i0 i1/\Zfe κ rows i0/\i0<=m/\m<i1/\∃ t,rv[(Uk q).toNat]? = some (.float (hf (z+i0+i1+1)) t)
structure TK (rv:List Zh)(n:Nat):Prop where
 all:∀ v∈rv,(∃ t,v = .int 0 t)\/∃ x t,v = .float x t/\0<t/\t<n
 same:∀ x t x',J0 x t∈rv->J0 x' t∈rv->x=x'
theorem TK.mono{rv:List Zh}{n n':Nat}(h:TK rv n)(hn:n<=n'):TK rv n':=⟨λv hv=>(h.all v hv).imp id λ⟨x,t,e,h1,h2⟩=>⟨x,t,e,h1,Z9 h2 hn⟩,h.same⟩
theorem Hg{rk:Zh}:∀ {grp:List UU} {rv:List Zh} {v:Zh},v∈UI rk grp rv->v=rk\/v∈rv
 | [],_,_,h=>.inr h
 | q::r,rv,v,h=>by
  rcases Hg (grp:=r) h with h | h
  ·exact .inl h
  ·rcases List.mem_or_eq_of_mem_set h with h | h
   ·exact .inr h
   ·exact .inl h
theorem TK.put{rv:List Zh}{n n':Nat}{x:UInt64}{t:W7}{grp:List UU}(h:TK rv n)(h0:0<t)(h1:n<=t)(h2:t<n'):TK (UI (.float x t) grp rv) n':=by
 refine⟨λv hv=>?_,λy u y' hy hy'=>?_⟩
 ·rcases Hg hv with rfl | hv
  ·exact .inr ⟨x,t,rfl,h0,h2⟩
  ·exact(h.mono (ZU (Yg h1 h2))).all v hv
 ·have key:∀ z w,J0 z w∈UI (.float x t) grp rv->(z=x/\w=t)\/(J0 z w∈rv/\w<n):=by
   intro z w hz
   rcases Hg hz with e | hz
   ·cases e; exact .inl ⟨rfl,rfl⟩
   ·rcases h.all _ hz with ⟨_,e⟩ | ⟨_,_,e,_,hl⟩
    ·cases e
    ·cases e; exact .inr ⟨hz,hl⟩
  rcases key y u hy with ⟨rfl,rfl⟩ | ⟨a1,a2⟩<;>rcases key y' u hy' with ⟨rfl,b1⟩ | ⟨b1,b2⟩
  ·rfl
  ·exact absurd b2 (Xp.mpr h1)
  ·subst b1; exact absurd a2 (Xp.mpr h1)
  ·exact h.same y u y' a1 b1
theorem KH{rk:Zh}{rows:List UU}(P:IW rows):∀ {grp:List UU} {rv:List Zh} {q:UU},(∀ x∈grp,x∈rows/\0<=Uk x)->q∈rows->0<=Uk q->(Uk q).toNat<rv.length ->
  (q∈grp->(UI rk grp rv)[(Uk q).toNat]? = some rk)/\(q∉grp->(UI rk grp rv)[(Uk q).toNat]? = rv[(Uk q).toNat]?)
 | [],rv,q,_,_,_,_=>⟨λh=>(nomatch h),λuu=>rfl⟩
 | x::r,rv,q,hg,hq,h0,hl=>by
  have ih:=KH (rk:=rk) P (grp:=r) (rv:=rv.set (Uk x).toNat rk) (q:=q) (λy hy=>hg y (.tail _ hy)) hq h0 (by simpa using hl)
  refine zA (hg x (.head _)) λhx hx0=>?_
  show(_->(UI rk r (rv.set (Uk x).toNat rk))[(Uk q).toNat]? = _)/\(_->(UI rk r (rv.set (Uk x).toNat rk))[(Uk q).toNat]? = _)
  by_cases hqr:q∈r
  ·exact⟨λuu=>ih.1 hqr,λh=>absurd (.tail _ hqr) h⟩
  ·rw [ih.2 hqr,GX]
   by_cases hxq:q=x
   ·subst hxq; exact⟨λuu=>by rw [if_pos rfl,if_pos hl],λh=>absurd (.head _) h⟩
   ·have:Uk x≠Uk q:=λe=>hxq (P.ne x hx q hq e).symm
    exact⟨λh=>((Z7.mp h).elim hxq hqr).elim,λuu=>by rw [if_neg (by lia)]⟩
section
variable (a:Tf)(b:GB)(κ:We)(H0:Xx)(A:YE)(l:List V0)(M:List Zo)(sE:Zi)(L res:Zo)(z:Int)
noncomputable def GSt(j:Nat)(sl:List (Option Zh))(ito:Xl):Prop :=
 (j=0/\∃ t u,sl=b.st (.int 0 t) .none .none false false false (.int 0 u) .none/\ito=WV b.lst 0) \/
 (0<j/\∃ q qp cg n t,b.rows[j]? = some q/\qp∈b.rows/\κ.eq qp.key q.key=false/\sl=b.st cg q.key (.ref q.r) true true true (.int n t) qp.key/\ito=WV b.lst (j+1)) \/
 (0<j/\j=b.rows.length/\∃ cg se key,sl=b.st cg .none .none false false true se key/\ito=itE j)
inductive Zff (j:Nat)(s:Zi):Prop
 | mk (m:Ze) (rv:List Zh) (c:Nat) (iv:Zh) (sl:List (Option Zh)) (ito:Xl) (hr:m "result"=some (.ref res)) (hi:m "i"=some iv) (hn:Tc iv (z+2*j)) (hj:j<=b.rows.length) (hu:Zfe κ b.rows j) (hg:GSt b κ j sl ito)
  (hk:RK κ b.rows z j rv)(ht:TK rv s.toks)(C:Cx H0 A l M sE L m ((res,ZD rv c)::b.ldg a sl ito) s):Zff j s
end
theorem Cx.mark(C:Cx H0 A l M sE L m led s):Cx H0 A l M { sE with toks:=s.toks } L m led s:={ C with go:=⟨C.go.glob,C.go.nd,C.go.up,C.go.pres,Z6 _,C.go.gens,C.go.os⟩ }
theorem Cx.unmark{n:Nat}(C:Cx H0 A l M { sE with toks:=n } L m led s)(h:sE.toks<=n):Cx H0 A l M sE L m led s:={ C with go:=⟨C.go.glob,C.go.nd,C.go.up,C.go.pres,Zl h C.go.toks,C.go.gens,C.go.os⟩ }
theorem WG{n x:Yz}{v:Zh}{m:Ze}{r:Option Zh}(h:x≠n)(e:m x=r):(Jh m n v) x=r:=(if_neg h).trans e
theorem Zbk{n n' x:Yz}{v v':Zh}{m:Ze}{r:Option Zh}(h:x≠n)(h':x≠n')(e:m x=r):(Jh (Jh m n' v') n v) x=r:=(if_neg h).trans ((if_neg h').trans e)
theorem Kc{rows:List UU}{i j:Nat}{q:UU}(h:q∈(rows.take j).drop i):∃ m,i<=m/\m<j/\rows[m]? = some q:=by
 refine zM h λk hk e=>?_
 refine⟨i+k,by exact Zx _ _,by grind,?_⟩
 rw [List.getElem_drop,List.getElem_take] at e
 exact e▸ZE _
theorem Zhk{rows:List UU}{i j m:Nat}{q:UU}(h1:i<=m)(h2:m<j)(h:rows[m]? = some q):q∈(rows.take j).drop i:=by
 refine ZG (i:=m-i) ?_
 rw [List.getElem?_drop,show i+(m-i)=m by grind,List.getElem?_take,if_pos h2,h]
theorem Zah{rows:List UU}(hn:(rows.map (λuu=>uu.r)).Nodup){m m':Nat}{q:UU}(h:rows[m]? = some q)(h':rows[m']? = some q):m=m':=by
 rcases Ux m m' with z | z | z
 ·exfalso
  refine zE (Z5.mp h) λa1 b1=>?_
  refine zE (Z5.mp h') λa2 b2=>?_
  exact YU.mp hn m m' (by simpa using a1) (by simpa using a2) z (by simp [b1,b2])
 ·exact z
 ·exfalso
  refine zE (Z5.mp h) λa1 b1=>?_
  refine zE (Z5.mp h') λa2 b2=>?_
  exact YU.mp hn m' m (by simpa using a2) (by simpa using a1) z (by simp [b1,b2])
theorem RK.step{κ:We}{rows:List UU}{z:Int}{j j':Nat}{rv:List Zh}{t:W7}(P:IW rows)(hn:(rows.map (λuu=>uu.r)).Nodup)(hpn:∀ q∈rows,0<=Uk q/\(Uk q).toNat<rows.length)(h:RK κ rows z j rv)(hu:Zfe κ rows j)(hg:Grp κ rows j j') :
  RK κ rows z j' (UI (.float (hf (z+j+j'+1)) t) ((rows.take j').drop j) rv):=by
 refine⟨by rw [GA]; exact h.1,λm q hm hq=>?_⟩
 have hqm:=ZG hq
 have gm:∀ x∈(rows.take j').drop j,x∈rows/\0<=Uk x:=λx hx=>by
  refine Gj (Kc hx) λm' uu uu e=>?_
  exact⟨ZG e,(hpn x (ZG e)).1⟩
 have pg:=KH (rk:=.float (hf (z+j+j'+1)) t) P (grp:=(rows.take j').drop j) (rv:=rv) (q:=q) gm hqm (hpn q hqm).1 (by exact h.1▸(hpn q hqm).2)
 by_cases hmj:m<j
 ·refine Tj (h.2 m q hmj hq) λi0 i1 h1 h2 h3 h4 u h5=>?_
  refine⟨i0,i1,h1,h2,h3,h4,u,?_⟩
  rw [pg.2 λhx=>?_]
  ·exact h5
  ·refine Gj (Kc hx) λm' h6 h7 h8=>?_
   have:=Zah hn hq h8
   lia
 ·exact⟨j,j',hg,hu,by exact Nat.le_of_not_lt (by assumption),hm,t,pg.1 (Zhk (by lia) hm hq)⟩
noncomputable def K7:List JL:=(fnP (XH.2.1.getD 5 (.Pass default))).2.1
section
variable {b:GB}{res:Zo}{z:Int}
theorem GB.dn{L:Zo}{sl:List (Option Zh)}{ito:Xl}{pre:Zd}(h1:b.dg≠L)(h2:b.di≠L)(h3:ito.dict=none)(hp:∀ p∈pre,p.2.dict≠some L):∀ p∈pre++b.ldg a sl ito,p.2.dict≠some L:=by
 intro p hp'
 rcases Xn.mp hp' with h | h
 ·exact hp p h
 ·simp only [GB.ldg,Z7] at h
  rcases h with rfl | rfl | rfl | rfl | rfl | h
  ·exact λe=>h1 (Zz e)
  ·exact h3▸λe=>by cases e
  ·exact λe=>by exact Wu e
  ·exact λe=>h2 (Zz e)
  ·exact λe=>by exact Wu e
  ·refine XW (ZZ.mp h) λq uu zr=>?_; obtain rfl:=zr
   exact λe=>by exact Wu e
theorem SX(G:Gl K H0 mg mb)(F:KF K a)(KR:I0 κ b.rows)(P:IW b.rows)(hpn:∀ q∈b.rows,0<=Uk q/\(Uk q).toNat<b.rows.length){m:Ze}{rv:List Zh}{c:Nat}{iv:Zh}{j:Nat}{q:UU}{n:Int}{t₁ t₂:W7}{y dy t:Zo}{x1:Nat}{pu pg pt:V7}{Qf:Zb}
  (hq:b.rows[j]? = some q)(hup:Zfe κ b.rows j)(hmr:m "result"=some (.ref res))(hmi:m "i"=some iv)(hiv:Tc iv (z+2*j))(hrk:RK κ b.rows z j rv)(htk:TK rv s.toks)
  (C:Cx H0 (A.deeper (Y0 "_rank" XH.2.2 L a.rank cdv)) (Y0 "_rank" XH.2.2 L a.rank cdv::l) M sE L m ((t,XX [q.key,.ref y])::(y,io a.gr dy (b.gr n t₂ q.key))::(res,ZD rv c)::b.ldg a (b.st (.int n t₁) q.key (.ref q.r) true true true (.int n t₁) q.key) (WV b.lst (j+1))) s)
  (hHx:H0.get? b.x=none/\(b.x∈M\/sE.heap.get? b.x=none))(hHit:H0.get? b.it=none/\(b.it∈M\/sE.heap.get? b.it=none))(hres:H0.get? res=none/\(res∈M\/sE.heap.get? res=none))(hz:z.natAbs<=2^45)(hN:b.rows.length<2^20)
  (hroom:A.depth+5<Zr)(hh:A.handled=none)(hE:PassesOwn (model PW w) (A.deeper (Y0 "_rank" XH.2.2 L a.rank cdv)) (Y0 "_rank" XH.2.2 L a.rank cdv) E)
  (k:∀ j' s',j<j'->Zff a b κ H0 (A.deeper (Y0 "_rank" XH.2.2 L a.rank cdv)) (Y0 "_rank" XH.2.2 L a.rank cdv::l) M sE L res z j' s'->Qf .next s') :
  Zp (model PW w) (A.deeper (Y0 "_rank" XH.2.2 L a.rank cdv)) (assign (.Tuple [.Name "_" pu,.Name "g" pg] x1 pt) (Y0 "_rank" XH.2.2 L a.rank cdv) (.ref t)) (λuu s₂=>Zp (model PW w) (A.deeper (Y0 "_rank" XH.2.2 L a.rank cdv)) (execs K7 (Y0 "_rank" XH.2.2 L a.rank cdv)) Qf E s₂) E s:=by
 have hjN:j<b.rows.length:=(Z5.mp hq).1
 have htE:sE.toks<=s.toks:=C.go.toks
 replace C:=C.mark
 refine C.unpack2 0 rfl hh λs2 C2=>?_
 have hdi:b.di≠L:=λe=>C2.dn (b.ig,_) (.tail _ (.tail _ (.tail _ (.tail _ (.tail _ (.tail _ (.head _))))))) (by rw [<- e])
 have C3:=C2.drop ((y,io a.gr dy (b.gr n t₂ q.key))::b.ldg a (b.st (.int n t₁) q.key (.ref q.r) true true true (.int n t₁) q.key) (WV b.lst (j+1))) (.cons _ (.cons_cons _ (.cons _ (Yq _))))
 refine Zg (Zv (Xj (C2.boot G F.nlist Boot.«list» (PySem.callWith_type rfl (Vx (Zq (C2.name (v:=.ref y) rfl (ZC ?_))))))))
 refine OY G F C2.st κ KR hq ⟨C3.has,C3.nodup⟩ hHx.1 hHit.1 (by rw [ZW]; lia) (by show A.depth+1+3<_; exact ZO (by assumption)) hh λD j' c' s3 hj1 hj2 hj3 hj4 g3 nD hA=>?_
 have hM3:∀ p∈[b.x,b.it],p∈M\/sE.heap.get? p=none:=λp hp=>by
  rcases Z7.mp hp with rfl | hp
  ·exact hHx.2
  ·exact(Zk.mp hp)▸hHit.2
 have hgrp:Grp κ b.rows j j':=⟨hj1,hj4,λq0 m0 q' h1 h2 h3 h4=>by obtain rfl:=Zz (ZF (ZR hq) h1); exact hj2 m0 q' h2 h3 h4,λq0 q' h1 h2=>by obtain rfl:=Zz (ZF (ZR hq) h1); exact hj3 q' h2⟩
 obtain ⟨sl,ito,hgst,hito,hLg⟩:∃ sl ito,GSt b κ j' sl ito/\ito.dict=none/\Lg s3.heap ([(D,ZD (Wn ((b.rows.take j').drop j)) c'),(y,io a.gr dy (b.gr n t₂ q.key))]++b.ldg a sl ito):=by
  rcases hA with ⟨q',h1,h2⟩ | ⟨h1,h2,h3⟩
  ·exact⟨_,_,.inr (.inl ⟨by exact Yg (Yt _) (by assumption),q',q,_,n,t₁,h1,ZG hq,hj3 q' h1,rfl,rfl⟩),rfl,h2⟩
  ·exact⟨_,_,.inr (.inr ⟨by exact Yg (Yt _) (by assumption),h2,_,_,_,rfl,rfl⟩),rfl,h3⟩
 have had:∀ (sl₁ sl₂:List (Option Zh)) (i₁ i₂:Xl),(b.ldg a sl₁ i₁).map (λuu=>uu.1)=(b.ldg a sl₂ i₂).map (λuu=>uu.1):=λuu uu uu uu=>rfl
 have hxit:res∉[b.x,b.it]:=λhm=>by
  rcases Z7.mp hm with e | hm
  ·exact C2.ne (i:=2) (j:=3) rfl rfl (by decide) e
  ·exact C2.ne (i:=2) (j:=4) rfl rfl (by decide) (Zk.mp hm)
 have hresD:res≠D:=BX (C2.at 2 rfl) nD
 have hn2:((D,ZD (Wn ((b.rows.take j').drop j)) c')::b.ldg a sl ito).map (λuu=>uu.1) |>.Nodup:=(hLg.sub (.cons_cons _ (.cons _ (Yq _)))).nodup
 have hresL:res∉(b.ldg a sl ito).map (λuu=>uu.1):=by
  have h0:=C2.nodup
  have h1:((res,ZD rv c)::b.ldg a (b.st (.int n t₁) q.key (.ref q.r) true true true (.int n t₁) q.key) (WV b.lst (j+1))).map (λuu=>uu.1) |>.Nodup:=h0.sublist ((WD _ (WD _ (Yq _))).map _)
  rw [had sl (b.st (.int n t₁) q.key (.ref q.r) true true true (.int n t₁) q.key) ito (WV b.lst (j+1))]
  exact(XT.mp h1).1
 have C4:=C2.goN g3 hM3 ((res,ZD rv c)::(D,ZD (Wn ((b.rows.take j').drop j)) c')::b.ldg a sl ito) (λp hp=>by
  rcases Z7.mp hp with rfl | hp
  ·exact(C2.ok 2 rfl).go g3 hxit
  ·rcases Z7.mp hp with rfl | hp
   ·exact hLg.has _ (.head _)
   ·exact hLg.has _ (.tail _ (.tail _ hp))) (GB.dn (pre:=[(res,ZD rv c),(D,ZD (Wn ((b.rows.take j').drop j)) c')]) (λe=>C2.dn (b.x,_) (.tail _ (.tail _ (.tail _ (.head _)))) (by rw [<- e])) hdi hito (Xu (λe=>Wu e) (Wo λe=>Wu e))) (by
  rw [YD]
  refine XT.mpr ⟨λhm=>?_,hn2⟩
  rcases Z7.mp hm with e | hm
  ·exact hresD e
  ·exact hresL hm)
 have hlen:(Wn ((b.rows.take j').drop j)).length=j'-j:=by simp only [Wn,YW,List.length_drop,Uj]; lia
 refine C4.set λs5 C5=>?_
 refine Zg (Zv (Xj (C5.boot G F.nlen Boot.«len» (Wi (Zq (C5.name rfl (ZC (Yo ⟨_,C5.at 1 rfl,rfl,c',rfl⟩ (by rw [ZJ,hlen]; lia) ?_))))))))
 have C6:=C5.tok 2
 rw [ZJ,hlen]
 refine C6.set λs7 C7=>?_
 have hi7:=WG (n:="size") (x:="i") (v:=.int ((j'-j:Nat):Int) (s5.toks+1)) (by decide) (WG (n:="group") (v:=.ref D) (by decide) (Zbk (n:="g") (n':="_") (v:=.ref y) (v':=q.key) (by decide) (by decide) hmi))
 refine Zg (Zv (ZH (C7.name hi7 (ZH (ZH (C7.name rfl (Zt (PySem.P.add_int (Zt (Zas (by lia) (Zdd hiv (by lia) (by lia) ?_)))))))))))
 have ez:z+2*(j:Int)+(((j'-j:Nat):Int)+1)=z+j+j'+1:=by grind
 rw [ez]
 have hE7:s.toks<=s7.toks:=C7.go.toks
 have C8:=(C7.tok 5).mark
 refine C8.set λs9 C9=>?_
 have htk9:TK (UI (.float (hf (z+j+j'+1)) (s7.toks+4)) ((b.rows.take j').drop j) rv) (s7.toks+5) :=
  htk.put (Jb _) (Zl hE7 (Zx _ _)) (YM _)
 have hpos9:∀ q'∈(b.rows.take j').drop j,(∃ t,q'.pos = .int (Uk q') t)/\0<=Uk q'/\(Uk q').toNat<rv.length:=λq' hq'=>by
  refine Gj (Kc hq') λm' uu uu e=>?_
  have hm':=ZG e
  exact⟨P.int q' hm',(hpn q' hm').1,by exact hrk.1▸(hpn q' hm').2⟩
 have hi9:=WG (n:="rank") (x:="i") (v:=.float (hf (z+j+j'+1)) (s7.toks+4)) (by decide) (WG (n:="size") (v:=.int ((j'-j:Nat):Int) (s5.toks+1)) (by decide) (WG (n:="group") (v:=.ref D) (by decide) (Zbk (n:="g") (n':="_") (v:=.ref y) (v':=q.key) (by decide) (by decide) hmi)))
 have hr9:=WG (n:="rank") (x:="result") (v:=.float (hf (z+j+j'+1)) (s7.toks+4)) (by decide) (WG (n:="size") (v:=.int ((j'-j:Nat):Int) (s5.toks+1)) (by decide) (WG (n:="group") (v:=.ref D) (by decide) (Zbk (n:="g") (n':="_") (v:=.ref y) (v':=q.key) (by decide) (by decide) hmr)))
 refine Zg (O7 (vn:="value") (pn:="orig_pos") (dn:="group") (rn:="result") (kn:="rank") (rk:=.float (hf (z+j+j'+1)) (s7.toks+4)) C9 0 rfl (λq' hq'=>?_) hr9 rfl rfl hpos9 (by rw [hrk.1]; lia) hres.2 hres.1 hh hE λm' c9 s10 C10 hm10=>?_)
 ·refine Gj (Kc hq') λm' uu uu e=>?_
  exact .tail _ (.tail _ (.tail _ (.tail _ (.tail _ (.tail _ (ZZ.mpr ⟨q',ZG e,rfl⟩))))))
 have hi10:m' "i"=some iv:=(hm10 "i" (by decide) (by decide)).trans hi9
 have hs10:m' "size"=some (.int ((j'-j:Nat):Int) (s5.toks+1)):=(hm10 "size" (by decide) (by decide)).trans rfl
 have hr10:m' "result"=some (.ref res):=(hm10 "result" (by decide) (by decide)).trans hr9
 refine Zg (wpAny_AugAssign_Name (C10.ld (env:=Y0 "_rank" XH.2.2 L a.rank cdv) rfl hi10 (C10.name hs10 (Zdc hiv (by lia) (by lia) λr hr=>?_))))
 have C11:=C10.tok 1
 refine C11.set λs12 C12=>Z4 (k j' s12 hj1 ?_)
 have hnr:(b.rows.map (λuu=>uu.r)).Nodup:=by
  have h0:(Hf b.rows).map (λuu=>uu.1) |>.Nodup:=C12.nodup.sublist ((WD _ (WD _ (WD _ (WD _ (WD _ (WD _ (WD _ (Yq _)))))))).map _)
  delta Hf at h0
  rw [UZ] at h0
  exact h0
 refine⟨Jh m' (Zj "i") r,_,c9,r,sl,ito,WG (n:="i") (x:="result") (v:=r) (by decide) hr10,rfl,?_,hj4,.inr ⟨j,hgrp⟩,hgst,hrk.step P hnr hpn hup hgrp (t:=s7.toks+4),htk9.mono C12.go.toks,Cx.unmark (sE:=sE) (n:=s7.toks+5) (C12.drop _ (.cons_cons _ (.cons _ (Yq _)))) (Zl htE (Zl hE7 (Zx _ _)))⟩
 have e:z+2*(j:Int)+2*((j'-j:Nat):Int)=z+2*(j':Int):=by lia
 exact e▸hr
end
section
variable {led0:Zd}{s0:Zi}
theorem Cx.addF(C1:Cx H0 A l M sE L m led s){m0:Ze}(C0:Cx H0 A l M sE L m0 led0 s0)(hs:led.map (λuu=>uu.1)=led0.map (λuu=>uu.1)){t:Zo}{o:Xl}(ht:Wy s.heap (t,o))(nt:s0.heap.get? t=none)(hd:∀ dx,o.dict=some dx->s0.heap.get? dx=none:=by intro _ q; cases q) :
  Cx H0 A l M sE L m ((t,o)::led) s:=by
 refine C1.add ht (λp hp=>?_) (C0.notL hd)
 have hm:p.1∈led.map (λuu=>uu.1):=XG hp
 rw [hs] at hm
 refine XW (ZZ.mp hm) λq hq e=>?_
 exact e▸C0.neN nt q hq
end
section
variable {res:Zo}{z:Int}
noncomputable abbrev RI(a:Tf)(b:GB)(κ:We)(H0:Xx)(A:YE)(l:List V0)(M:List Zo)(sE:Zi)(L res:Zo)(z:Int):Nat->Zi->Prop:=λn' s'=>∃ j,n'=b.rows.length+1-j/\Zff a b κ H0 A l M sE L res z j s'
theorem Zaa(G:Gl K H0 mg mb)(F:KF K a){b:GB}(KR:I0 κ b.rows)(P:IW b.rows)(hpn:∀ q∈b.rows,0<=Uk q/\(Uk q).toNat<b.rows.length){x1:Nat}{pu pg pt:V7}{R:Zc}
  (hI:Zff a b κ H0 (A.deeper (Y0 "_rank" XH.2.2 L a.rank cdv)) (Y0 "_rank" XH.2.2 L a.rank cdv::l) M sE L res z 0 s)
  (hHx:H0.get? b.x=none/\(b.x∈M\/sE.heap.get? b.x=none))(hHit:H0.get? b.it=none/\(b.it∈M\/sE.heap.get? b.it=none))(hres:H0.get? res=none/\(res∈M\/sE.heap.get? res=none))(hz:z.natAbs<=2^45)(hN:b.rows.length<2^20)
  (hroom:A.depth+5<Zr)(hh:A.handled=none)(hE:PassesOwn (model PW w) (A.deeper (Y0 "_rank" XH.2.2 L a.rank cdv)) (Y0 "_rank" XH.2.2 L a.rank cdv) E)
  (k:∀ m rv c led s',m "result"=some (.ref res)->RK κ b.rows z b.rows.length rv->TK rv s'.toks->Cx H0 (A.deeper (Y0 "_rank" XH.2.2 L a.rank cdv)) (Y0 "_rank" XH.2.2 L a.rank cdv::l) M sE L m ((res,ZD rv c)::led) s'->R (.ok .next) s')
  (kE:∀ e s',cameBackBy (model PW w) (A.deeper (Y0 "_rank" XH.2.2 L a.rank cdv)) (Y0 "_rank" XH.2.2 L a.rank cdv) E e s'->R (.error e) s') :
  Yk (model PW w) (A.deeper (Y0 "_rank" XH.2.2 L a.rank cdv)) (.forLoop (.Tuple [.Name "_" pu,.Name "g" pg] x1 pt) (.ref b.x) K7 [] (Y0 "_rank" XH.2.2 L a.rank cdv)) R s:=by
 have toE:∀ {α:Type} {t:Sem α} {Q:α->Zi->Prop} {s:Zi},Zp (model PW w) (A.deeper (Y0 "_rank" XH.2.2 L a.rank cdv)) t Q E s ->
   Zp (model PW w) (A.deeper (Y0 "_rank" XH.2.2 L a.rank cdv)) t Q (Gp w (A.deeper (Y0 "_rank" XH.2.2 L a.rank cdv)) (Y0 "_rank" XH.2.2 L a.rank cdv) R) s:=λ{α t Q s} h=>
  Yr (wpAny_passesOwn hE h) (λuu uu z=>z) λe s' h=>Yr h (λuu s'' h'=>kE e s'' h') λe' s'' h'=>kE e' s'' h'
 refine Vf (RI a b κ H0 (A.deeper (Y0 "_rank" XH.2.2 L a.rank cdv)) (Y0 "_rank" XH.2.2 L a.rank cdv::l) M sE L res z) ?_ (b.rows.length+1) ⟨0,rfl,hI⟩
 rintro n' s1 ⟨j,rfl,m,rv,c,iv,sl,ito,hmr,hmi,hiv,hjN,hup,hg,hrk,htk,C⟩
 have next:∀ j' s',j<j'->Zff a b κ H0 (A.deeper (Y0 "_rank" XH.2.2 L a.rank cdv)) (Y0 "_rank" XH.2.2 L a.rank cdv::l) M sE L res z j' s'->∃ n,n<b.rows.length+1-j/\RI a b κ H0 (A.deeper (Y0 "_rank" XH.2.2 L a.rank cdv)) (Y0 "_rank" XH.2.2 L a.rank cdv::l) M sE L res z n s':=by
  intro j' s' h1 h2
  have:j'<=b.rows.length:=by obtain ⟨_,_,_,_,_,_,_,_,_,h,_⟩:=h2; exact h
  exact⟨b.rows.length+1-j',by grind,j',rfl,h2⟩
 have turn:∀ {q:UU} {n:Int} {t₁ t₂:W7} {y dy t:Zo} {s2:Zi} {iv':Zh},b.rows[j]? = some q->s1.toks<=s2.toks ->
   Cx H0 (A.deeper (Y0 "_rank" XH.2.2 L a.rank cdv)) (Y0 "_rank" XH.2.2 L a.rank cdv::l) M sE L m ((t,XX [q.key,.ref y])::(y,io a.gr dy (b.gr n t₂ q.key))::(res,ZD rv c)::b.ldg a (b.st (.int n t₁) q.key (.ref q.r) true true true (.int n t₁) q.key) (WV b.lst (j+1))) s2 ->
   Zp (model PW w) (A.deeper (Y0 "_rank" XH.2.2 L a.rank cdv)) (letOwnedTupleGo (.Tuple [.Name "_" pu,.Name "g" pg] x1 pt) (.ref b.x) (.ref t)) (Zis w (A.deeper (Y0 "_rank" XH.2.2 L a.rank cdv)) (.Tuple [.Name "_" pu,.Name "g" pg] x1 pt) K7 (Y0 "_rank" XH.2.2 L a.rank cdv) (RI a b κ H0 (A.deeper (Y0 "_rank" XH.2.2 L a.rank cdv)) (Y0 "_rank" XH.2.2 L a.rank cdv::l) M sE L res z) (b.rows.length+1-j) R (.ref t)) (Gp w (A.deeper (Y0 "_rank" XH.2.2 L a.rank cdv)) (Y0 "_rank" XH.2.2 L a.rank cdv) R) s2:=by
  intro q n t₁ t₂ y dy t s2 _ hq htk2 C2
  refine Zcz (C2.at 3 rfl) ?_
  refine toE (Yr (SX G F KR P hpn hq hup hmr hmi hiv hrk (htk.mono htk2) C2 hHx hHit hres hz hN hroom hh hE
   (Qf:=Se (RI a b κ H0 (A.deeper (Y0 "_rank" XH.2.2 L a.rank cdv)) (Y0 "_rank" XH.2.2 L a.rank cdv::l) M sE L res z) (b.rows.length+1-j) R) next) (λuu s3 h3=>toE h3) λuu uu z=>z)
 have hM3:∀ p∈[b.x,b.it],p∈M\/sE.heap.get? p=none:=λp hp=>by
  rcases Z7.mp hp with rfl | hp
  ·exact hHx.2
  ·exact(Zk.mp hp)▸hHit.2
 have fin:∀ {M':List Zo} {e:Zo} {a0:Zh} {led':Zd} {s':Zi},j=b.rows.length->VY H0 M' s1 (Y0 "_rank" XH.2.2 L a.rank cdv::l) e (.type "StopIteration") a0 led' s'->(∀ p∈M',p∈[b.x,b.it])->R (.ok .next) s':=by
  intro M' e a0 led' s' hj Fl hM'
  have C2:=C.drop [(res,ZD rv c)] (.cons_cons _ (List.nil_sublist _))
  have C3:=C2.goN Fl.go (λp hp=>hM3 p (hM' p hp)) [(res,ZD rv c)] (λp hp=>by
   rw [Zk.mp hp]
   refine(C2.ok 0 rfl).go Fl.go (λhm=>?_)
   rcases Z7.mp (hM' _ hm) with e | h
   ·exact C.ne (i:=0) (j:=1) rfl rfl (by decide) e
   ·exact C.ne (i:=0) (j:=2) rfl rfl (by decide) (Zk.mp h)) C2.dn C2.nodup
  exact k m rv c [] s' hmr (by exact hj▸hrk) (htk.mono Fl.toks) C3
 rcases hg with ⟨rfl,t,u,rfl,rfl⟩ | ⟨hj0,q,qp,cg,n,t,hq,hqp,hne,rfl,rfl⟩ | ⟨hj0,hjl,cg,se,key,rfl,rfl⟩
 ·cases hq:b.rows[0]? with
  | none=>
   refine VO (C.st.X G) (C.ok 1 rfl) F.mgbN ?_
   have hN0:0=b.rows.length:=by have:=Vm.mp hq; exact Nat.min_eq_right (by assumption)
   refine Dv G F C.st (C.ok 1 rfl) (C.at 2 rfl) (C.at 3 rfl) hHx.1 hHit.1 (Il hq) (by show A.depth+1+2<_; lia) hh λe a0 s2 F2=>?_
   exact Hz F2 (Z4 (fin hN0 F2 λp hp=>hp))
  | some q=>
   have Z:=Lg.step (K:=K) (H0:=H0) (s:=s1) (pre:=[(res,ZD rv c)]) (i:=0) (q:=q) ⟨C.has,C.nodup⟩ hq hHx.1 hHit.1
   refine VO (C.st.X G) (C.ok 1 rfl) F.mgbN ?_
   refine NH G F C.st Z (κ.hd _ (KR.all q (ZG hq)).1) (by show A.depth+1+3<_; exact ZO (by assumption)) hh λy dy t u' s2 g2 ox hit oy ot ny ndy nt hyt=>?_
   have C2:=C.callAt2 1 2 rfl rfl (by decide) g2 ox (VN hit) hM3 rfl rfl
   have C3:=C2.addF C (by rw [XO (i:=2) rfl,XO (i:=1) rfl]) oy ny (hd:=λdx e=>by obtain rfl:=Zz e; exact ndy)
   have C4:=C3.add ot (λp hp=>by
    rcases Z7.mp hp with rfl | hp
    ·exact hyt
    ·have hm:p.1∈_:=XG (f:=(λuu=>uu.1)) hp
     rw [XO (i:=2) rfl,XO (i:=1) rfl] at hm
     refine XW (ZZ.mp hm) λp' hp' e=>?_
     exact e▸C.neN nt p' hp') (by intro e; exact Wu e)
   exact turn (iv':=iv) hq g2.toks C4
 ·refine VO (C.st.X G) (C.ok 1 rfl) F.mgbN ?_
  have hqm:=ZG hq
  have C0:=C.drop (b.ldg a (b.st cg q.key (.ref q.r) true true true (.int n t) qp.key) (WV b.lst (j+1))) (.cons _ (Yq _))
  refine Oi G F C.st κ C0.has C0.nodup hHx.1 (KR.all q hqm).1 (KR.all qp hqp).1 (KR.all q hqm).2 (KR.all qp hqp).2 (KR.tok qp hqp q hqm) hne (κ.hd _ (KR.all q hqm).1) (κ.hd _ (KR.all qp hqp).1) (by show A.depth+1+2<_; lia) λy dy t' u' s2 g2 ox oy ot hl ny ndy nt hyt=>?_
  have C2:=C.callAt 1 rfl g2 ox hHx.2 (C.dn (b.x,io a.gb b.dg (b.st cg q.key (.ref q.r) true true true (.int n t) qp.key)) (.tail _ (.head _)))
  have C3:=C2.addF C (by rw [XO (i:=1) rfl]) oy ny (hd:=λdx e=>by obtain rfl:=Zz e; exact ndy)
  have C4:=C3.add ot (λp hp=>by
   rcases Z7.mp hp with rfl | hp
   ·exact hyt
   ·have hm:p.1∈_:=XG (f:=(λuu=>uu.1)) hp
    rw [XO (i:=1) rfl] at hm
    refine XW (ZZ.mp hm) λp' hp' e=>?_
    exact e▸C.neN nt p' hp') (by intro e; exact Wu e)
  exact turn (iv':=iv) hq g2.toks C4
 ·refine VO (C.st.X G) (C.ok 1 rfl) F.mgbN ?_
  refine Oj G F C.st (C.ok 1 rfl) (C.at 2 rfl) hHx.1 (by show A.depth+1+2<_; lia) hh λe a0 s2 F2=>?_
  exact Hz F2 (Z4 (fin hjl F2 λp hp=>by exact(Zk.mp hp) ▸ .head _))
end
theorem FI{l:Zo}{v:Zh}{n:Nat}{x:Int}{u:W7}{Q:Za}(hl:s.heap.get? l=some (ZD [v]))(hx:x=(n:Int))(hn:n<=1000)
  (h:Q (.ref s.heap.objs.size) { s with heap:=s.heap.push (ZD (ZM n v)) }):Zp (model PW w) A (JY .Mult (.ref l) (.int x u)) Q E s:=by
 have hxn:x.toNat=n:=by rw [hx]; rfl
 have e:List.foldl (λx1 x2=>x1++x2) (#[]:Array Zh) (ZM (if([v]:List Zh).toArray.isEmpty=true then 0 else x.toNat) [v].toArray)=(ZM n v).toArray:=by
  rw [listMul_foldl_if]
  have:∀ k:Nat,(ZM k [v]).flatten=ZM k v:=λk=>by
   induction k with
   | zero=>rfl
   | succ k ih=>rw [List.replicate_succ,List.flatten_cons,ih]; rfl
  rw [this,hxn]
 have h63:((2:Nat)^63-1)/8=1152921504606846975:=by decide
 have c1:¬(!Builtin.List.listFitsIndex x)=true:=by
  have:Builtin.List.listFitsIndex x=true:=fitsIndex_of (by lia) (by
   have:(1000:Int)<2^63:=by decide
   lia)
  rw [this]; decide
 have c2:¬([v]:List Zh).toArray.size*x.toNat>(2^63-1)/8:=by rw [h63,hxn]; show ¬ 1*n>_; lia
 have c3:¬Builtin.List.listTooLong (([v]:List Zh).toArray.size*x.toNat)=true:=by
  rw [hxn]; show ¬ Builtin.List.listTooLong (1*n)=true
  simp only [Builtin.List.listTooLong,ZW,decide_eq_true_eq]; lia
 clear hx
 refine wpAny_binaryOp_repeat_ref (T:="list") (U:="int") (by decide) ⟨_,hl,rfl⟩ (λs'=>typeIs_int s' x u) noFill_list_mul PySem.F.fills_int_mul PySem.F.slot_int_rmul repeat_list PySem.F.slot_int_index.lookup
  (call_meets PySem.F.slot_int_rmul (typeIs_int s x u) PySem.F.entry_int_rmul (PySem.F.args_int_rmul_2 _ _) (int___rmul___int_list x u l _ 0) ⟨hl,rfl,⟨_,hl,rfl⟩,?_⟩)
 refine call_meets PySem.F.slot_list_mul ⟨_,hl,rfl⟩ PySem.F.entry_list_mul (PySem.F.args_list_mul_2 _ _) (AutoListH.list___mul___list_int_3 l _ 0 x u c1 c2 c3) ⟨hl,?_⟩
 exact e▸h
section
variable {m':Ze}{led':Zd}
noncomputable def UL(s:Zi)(L:Zo):Zi:={ s with heap:=s.heap.update L λo=>{ o with data:=.freed } }
theorem Hw{L b:Zo}{o:Xl}(h:(UL s L).heap.get? b=some o):b≠L/\s.heap.get? b=some o:=by
 by_cases e:b=L
 ·subst e
  exfalso
  have q:(UL s b).heap.objs[b]? = s.heap.objs[b]?.map λo=>{ o with data:=.freed }:=Array.getElem?_modify.trans (if_pos rfl)
  delta Heap.get? at h
  rw [q] at h
  generalize s.heap.objs[b]? = z at h
  cases z<;>exact Wu h
 ·refine⟨e,?_⟩
  exact ZF ((Yw _ _ (λq=>e q.symm)).symm) h
theorem Jg{L b:Zo}(e:b≠L):(UL s L).heap.get? b=s.heap.get? b:=Yw _ _ (λq=>e q.symm)
theorem OG{L:Zo}:(UL s L).heap.get? L=none:=by
 cases q:(UL s L).heap.get? L with
 | none=>rfl
 | some o=>exact absurd rfl (Hw q).1
theorem Cx.rebase(C:Cx H0 A l M sE L m led s):Cx H0 A l [] (UL s L) L m led s :=
 { C with
  go:=⟨λuu=>C.st.glob,λb o e uu uu=>(Hw e).2,λb o uu uu e uu=>⟨o.slots,(Hw e).2⟩,λb o e hn=>⟨o,(Hw e).2,hn⟩,Z6 _,λh=>h,rfl⟩
  new:=OG }
theorem Cx.unbase(C:Cx H0 A l M sE L m led s)(C':Cx H0 A l [] (UL s L) L m' led' s'):Cx H0 A l M sE L m' led' s':=by
 have ne:∀ {b o},sE.heap.get? b=some o->b≠L:=λe q=>by rw [q,C.new] at e; exact Wu e
 refine { C' with
  new:=C.new
  go:=⟨λuu=>C'.st.glob,λb o e hm hn=>C'.go.nd b o ((Jg (ne e)).trans (C.go.nd b o e hm hn)) (λh=>nomatch h) hn,λb o es n e hd=>?_,λb o e hn=>?_,Zl C.go.toks C'.go.toks,λh=>C'.go.gens (C.go.gens h),C'.go.os.trans C.go.os⟩ }
 ·refine zE (C.go.up b o es n e hd) λsl h1=>?_
  refine zE (C'.go.up b _ es n ((Jg (ne e)).trans h1) hd) λsl' h2=>?_
  exact⟨sl',h2⟩
 ·refine XW (C.go.pres b o e hn) λo' h1 h2=>?_
  exact C'.go.pres b o' ((Jg (ne e)).trans h1) h2
theorem Cx.frame(C':Cx H0 A l [] (UL s L) L m' led' s'){p:Zo×Xl}(h:Wy s.heap p)(hL:p.1≠L)(hd:p.2.dict≠some L):Wy s'.heap p:=by
 have:Wy (UL s L).heap p:=⟨(Jg hL).trans h.at_,h.nd,λdx e=>by
  refine XW (h.dx dx e) λo h1 h2=>?_
  exact⟨o,(Jg (λq=>hd (by rw [e,q]))).trans h1,h2⟩⟩
 exact this.go C'.go (λh=>nomatch h)
theorem Cx.neL(C:Cx H0 A l M sE L m led s){p:Zo×Xl}(h:Wy s.heap p):p.1≠L:=λe=>by
 refine V1 (JH C.ns) λo es n h1 h2=>?_
 have:=h.at_
 rw [e,h1] at this; obtain rfl:=Zz this
 exact h.nd _ _ h2
end
structure Zjb (w:Um)(H0:Xx)(A:YE)(l:List V0)(κ:We)(v:Zh)(d n:Nat)(M:List Zo)(sE s0 s:Zi)(I:Zo)(own chg:List Zo)(Inv Fi:List Zh->Zi->Prop):Prop where
 src:Src w H0 l d I own chg n Inv Fi
 own:∀ p∈own,s.heap.get? p=none\/∃ o,s0.heap.get? p=some o
 chg:∀ p∈chg,p∈M\/sE.heap.get? p=none
 hit:∀ (A':YE) (Q:Za) (E:Za),A'.handled=A.handled->A'.depth=A.depth->A'.frames=A.frames->(∀ s1,Go H0 [] s s1->Inv [] s1->Q (.ref I) s1)->Zp (model PW w) A' (pyIter v) Q E s
 keys:∀ (rows:List UU) s',rows.length=n->Fi (rows.map (λuu=>uu.key)) s'->I0 κ rows
section
variable {z:Int}
theorem Zlu{α:Type}{a b c d e f g:α}{r:List α}:(e::b::a::g::d::c::f::r).Perm (a::b::c::d::e::f::g::r):=by
 haveI:DecidableEq α:=λa b=>Classical.propDecidable (a=b)
 refine List.perm_iff_count.mpr λp=>?_
 simp only [List.count_cons]
 lia
theorem Cx.perm(C:Cx H0 A l M sE L m led s){led':Zd}(h:led'.Perm led):Cx H0 A l M sE L m led' s :=
 { C with has:=λp hp=>C.has p (h.mem_iff.mp hp),dn:=λp hp=>C.dn p (h.mem_iff.mp hp),nodup:=(h.map _).nodup_iff.mpr C.nodup }
theorem SY(G:Gl K H0 mg mb)(F:KF K a){v sv:Zh}{rv:Bool}{n d:Nat}{P:List Zh->Zi->Prop}{Qf:Zb}
  (C:Cx H0 (A.deeper (Y0 "_rank" XH.2.2 L a.rank cdv)) (Y0 "_rank" XH.2.2 L a.rank cdv::l) M sE L m led s)
  (hmd:m "data"=some v)(hmv:m "reverse"=some (.bool rv))(hms:m "start"=some sv)(hsv:Tc sv (z+2))(hz:z.natAbs<=2^45)(hn:n<200)
  (draw:∀ s1,Go H0 [] s s1->∃ I own chg Inv Fi,Zjb w H0 (A.deeper (Y0 "_rank" XH.2.2 L a.rank cdv)) (Y0 "_rank" XH.2.2 L a.rank cdv::l) κ v d n M sE s s1 I own chg Inv Fi/\∀ acc s',Fi acc s'->P acc s')
  (hroom:A.depth+5+d<Zr)(hh:A.handled=none)(hE:PassesOwn (model PW w) (A.deeper (Y0 "_rank" XH.2.2 L a.rank cdv)) (Y0 "_rank" XH.2.2 L a.rank cdv) E)
  (k:∀ m' res rvals c (rows rows':List UU) s2 s',rows.length=n->(∀ (j:Nat) (q:UU),rows[j]? = some q->∃ t,q.pos = .int j t)->P (rows.map (λuu=>uu.key)) s2->I0 κ rows->rows'.Perm rows->Zbb κ rv rows'->RK κ rows' z n rvals->TK rvals s'.toks ->
   Cx H0 (A.deeper (Y0 "_rank" XH.2.2 L a.rank cdv)) (Y0 "_rank" XH.2.2 L a.rank cdv::l) M sE L m' [(res,ZD rvals c)] s'->Nw H0 sE res->(∀ p,Wy s2.heap p->p.2.dict≠some L->Wy s'.heap p/\p.1≠res)->Qf (.ret (.ref res)) s') :
  Zp (model PW w) (A.deeper (Y0 "_rank" XH.2.2 L a.rank cdv)) (execs (XH.2.1.drop 2) (Y0 "_rank" XH.2.2 L a.rank cdv)) Qf E s:=by
 refine Zg (Zv (Up ?_))
 refine C.boot G F.nsorted Boot.sorted (callWith_kw (Zq (Xj ?_)))
 refine C.boot G F.nzip Boot.zip (PySem.callWith_type rfl (Vx (Zq (C.name hmd (Zq (Xj ?_))))))
 refine C.global G F.nct (callWith_K0 (C.st.X G) F.kct (Y7 (Zhv G F C.st (by show A.depth+1+2<_; lia) λct dct t u s1 g1 oct nct ndct=>ZC ?_)))
 have C1:=C.call g1
 refine Zfm (draw s1 g1) λI own chg Inv Fi D hFi=>?_
 have hcto:ct∉own:=λhm=>(D.own ct hm).elim (λe=>by have:=oct.at_; exact Wu (ZF (ZR e) this)) λ⟨o,e⟩=>by exact Wu (ZF (ZR nct) e)
 have nwct:=C.noE nct
 refine Zbg G F C1.st D.src oct nwct.h hcto (by show A.depth+1<_; lia) D.hit λb s2 hb1 hb2 hb3 g2 Z nz hbH=>?_
 have C2:=C1.call g2
 refine ZC (kws_cons (C2.name hmv (kws_nil ?_)))
 rw [<- hb1] at hcto nwct
 have hbz:∀ p∈[b.z,b.TI,b.TO],Nw H0 sE p:=λp hp=>C1.noE (nz p hp)
 have hM:∀ p∈b.Mg chg,p∈M\/sE.heap.get? p=none:=Xu (.inr (hbz _ (.head _)).e) (Xu (.inr (hbz _ (.tail _ (.tail _ (.head _)))).e) (Xu (.inr nwct.e) D.chg))
 subst hb3
 refine OM G F C2.st κ D.src Z hbH hn hh (by show A.depth+1+d<_; lia) (by show A.depth+1<_; lia) D.keys λdl rows rows' n' s3 hN hpos hfi hperm hord g3 L3 nrow ndl=>?_
 have KR:=D.keys rows s3 hN hfi
 have C3:=C2.goN g3 hM _ L3.has (λp hp=>by
  rcases Z7.mp hp with rfl | hp
  ·exact λe=>by exact Wu e
  ·refine XW (ZZ.mp hp) λq uu zr=>?_; obtain rfl:=zr
   exact λe=>by exact Wu e) L3.nodup
 have CR:=C3.rebase
 refine CR.set λs4 CB=>?_
 refine Zg (Zv (ZH (CB.name (WG (n:="val_pos") (x:="start") (v:=.ref dl) (by decide) hms) (Zt (Zdb hsv (by grind) λiv hiv=>?_)))))
 have CB1:=CB.tok 2
 refine CB1.set λs5 C5=>?_
 have hNr:rows'.length=n:=by exact ZF hperm.length_eq (hN)
 have hlen:(Wn rows').length=n:=by simp [Wn,hNr]
 refine Zg (Zv (ZH (WB (Zq (Zt (ZC ?_))))))
 refine⟨H0,_,_,[],UL s3 L,L,_,_,C5.tok 1,by rw [ZW]; show 1<=_; decide,λt0 s6 C6 nt0 nt0'=>?_⟩
 refine Xj (C6.boot G F.nlen Boot.«len» (Wi (Zq (C6.name rfl (ZC (Yo ⟨_,C6.at 1 rfl,rfl,_,rfl⟩ (by rw [ZJ,hlen]; lia) ?_))))))
 have C7:=C6.tok 2
 rw [ZJ,hlen]
 refine FI (n:=n) (C7.at 0 rfl) rfl (by lia) ?_
 have C8:=C7.push (ZD (ZM n (.int 0 (s5.toks)))) rfl Xe rfl
 have nwr:=C7.noE XC
 show Zp _ _ (V6 _ _ (.ref s6.heap.objs.size)) _ _ _
 change Nw H0 (UL s3 L) s6.heap.objs.size at nwr
 change Cx _ _ _ _ _ _ _ ((s6.heap.objs.size,_)::_) _ at C8
 generalize s6.heap.objs.size=res at C8 nwr ⊢
 have nresE:sE.heap.get? res=none:=by
  cases q:sE.heap.get? res with
  | none=>rfl
  | some o=>
   refine zE (C3.go.there _ _ q) λo' h1=>?_
   have:res≠L:=λe=>by rw [e,C3.new] at q; exact Wu q
   have h2:=(Jg (s:=s3) this).trans h1
   exact Wu (ZF (ZR nwr.e) h2)
 have nres:Nw H0 sE res:=⟨nresE,nwr.h⟩
 refine C8.set λs9 C9=>?_
 refine Zg (Ie ?_)
 refine Up (C9.global G F.ngb (callWith_KW (C9.st.X G) F.kgb rfl (Zq (C9.name (v:=.ref dl) rfl (ZC (kws_cons ?_))))))
 refine C9.callFn G F.nig F.kig (Zq (Zt (ZC ⟨(C9.tok 1).st.X G,Y7 (Zhg G F (C9.tok 1).st (by show A.depth+1+1<_; lia) λig di tp s10 g10 oig otp nig ndig ntp hitp=>kws_nil ?_)⟩)))
 have D1:=(C9.tok 1).callN g10 oig nig (λdx e=>by obtain rfl:=Zz e; exact ndig)
 have D2:=D1.add (Gx otp) (λp hp=>by
  rcases Z7.mp hp with rfl | hp
  ·exact hitp
  ·exact(C9.tok 1).neN ntp p hp) (by intro e; exact Wu e)
 refine⟨D2.st.X G,Y7 (Zhm G F D2.st (D2.at 4 rfl) (by show A.depth+1+1<_; lia) λx dx it t1 u1 s11 g11 ox oit nx ndx nit hxit=>?_)⟩
 have D3:=D2.callN g11 ox nx (λdx e=>by obtain rfl:=Zz e; exact ndx)
 have D4:=D3.add (VN oit) (λp hp=>by
  rcases Z7.mp hp with rfl | hp
  ·exact hxit
  ·exact D2.neN nit p hp) (by intro e; exact Wu e)
 have nwx:=D2.noE nx
 have nwit:=D2.noE nit
 have hxO:Wy s11.heap (x,_):=ox
 refine Ir (D4.st.X G) ox F.mgbT F.mgbN (Ol G F D4.st (by show A.depth+1<_; lia) λs12 g12=>⟨rfl,(D4.st.go g12).X G,ox.go g12 (λh=>nomatch h),?_⟩)
 have D5:=D4.call g12
 have PR:IW rows:=DZ hpos
 have PR':IW rows':=⟨λq hq=>PR.int q (hperm.mem_iff.mp hq),λq hq q' hq'=>PR.ne q (hperm.mem_iff.mp hq) q' (hperm.mem_iff.mp hq')⟩
 have hpn:∀ q∈rows',0<=Uk q/\(Uk q).toNat<rows'.length:=λq hq=>by
  refine zM (hperm.mem_iff.mp hq) λj hj e=>?_
  refine zE (hpos j q (by rw [ZE hj,e])) λt' ht'=>?_
  have:Uk q=j:=by unfold Uk; rw [ht']
  exact this▸⟨by exact Ul _,by lia⟩
 have KR':I0 κ rows':=⟨λq hq=>KR.all q (hperm.mem_iff.mp hq),λq hq q' hq'=>KR.tok q (hperm.mem_iff.mp hq) q' (hperm.mem_iff.mp hq')⟩
 have D6:=D5.perm (led':=(res,ZD (ZM n (.int 0 s5.toks)))::(x,io a.gb dx (VK (Vg 0 t1) Yl Yl false false false (ZS it) (ZS ig) (Vg 0 u1) Yl))::(it,WV dl 0)::(dl,ZD (Wn rows') n')::(ig,io a.ig di [some (ZS tp)])::(tp,XX [Vg 0 s9.toks])::(t0,ZD [Vg 0 s5.toks])::Hf rows') Zlu
 have D7:=D6.drop (_::_::_::_::_::_::Hf rows') (.cons_cons _ (.cons_cons _ (.cons_cons _ (.cons_cons _ (.cons_cons _ (.cons_cons _ (.cons _ (Yq _))))))))
 refine Zaa (b:=⟨x,dx,it,dl,ig,di,tp,s9.toks,n',rows'⟩) (κ:=κ) (z:=z) (res:=res) (M:=[]) (sE:=UL s3 L) (E:=E) G F KR' PR' hpn ⟨_,_,_,iv,_,_,?_,?_,?_,Yt _,.inl rfl,.inl ⟨rfl,t1,u1,rfl,rfl⟩,⟨?_,λm q hm=>absurd hm (JM _)⟩,⟨λv hv=>?_,λx t x' hv=>?_⟩,D7⟩ ⟨nwx.h,.inr nwx.e⟩ ⟨nwit.h,.inr nwit.e⟩ ⟨nwr.h,.inr nwr.e⟩ hz (by show rows'.length<_; lia) (by exact Yg (Zx _ _) (by assumption)) hh hE ?_ λe s' h=>h
 ·rfl
 ·rfl
 ·have:z+2*((0:Nat):Int)=z+2-2:=by lia
  exact this▸hiv
 ·exact ZF UJ (hNr.symm)
 ·exact .inl ⟨_,(Wg hv)⟩
 ·have:=Wg hv
  cases this
 ·intro m' rvals c led' s' hm' hrk htk CF
  refine Zg (Ym (CF.name hm' ?_))
  have CU:=C3.unbase (CF.drop [(res,ZD rvals c)] (.cons_cons _ (List.nil_sublist _)))
  refine k m' res rvals c rows rows' s3 s' hN hpos (hFi _ _ hfi) KR hperm hord (by exact hNr▸hrk) htk CU nres λp hp hpd=>⟨CF.frame hp (C3.neL hp) hpd,λe=>?_⟩
  have h2:=(Jg (s:=s3) (C3.neL hp)).trans hp.at_
  rw [e,nwr.e] at h2; exact Wu h2
end
section
variable {z:Int}
noncomputable def Ip(dv:Yz->Zh):List Yz->List (Yz×Zh)->List (Yz×Zh)
 | [],sl=>sl
 | n::r,sl=>Ip dv r (if(List.lookup n sl).isNone=true then sl++[(n,dv n)] else sl)
theorem Ke{MM:XJ}{d:Zo}(dv:Yz->Zh){Q:List (Yz×Zh)×List Yz->Zi->Prop}:∀ (names:List Yz) (slots:List (Yz×Zh)) (mis:List Yz),(∀ n∈names,Ui MM s.heap (nsGet d n) (some (dv n)))->Q (Ip dv names slots,mis) s ->
  Zp MM A (forIn names (slots,mis) λname __s=>
   if(List.lookup name __s.fst).isNone=true then do
    let dflt <- nsGet d name
    match dflt with
     | some v=>pure (W0 (__s.fst++[(name,v)],__s.snd))
     | none=>pure (W0 (__s.fst,__s.snd++[name]))
   else pure (W0 (__s.fst,__s.snd))) Q E s
 | [],slots,mis,_,k=>Zm k
 | n::r,slots,mis,hd,k=>by
  rw [JK]
  have step:∀ sl',Ip dv r sl'=Ip dv (n::r) slots->Zp MM A (forIn r (sl',mis) λname __s=>
   if(List.lookup name __s.fst).isNone=true then do
    let dflt <- nsGet d name
    match dflt with
     | some v=>pure (W0 (__s.fst++[(name,v)],__s.snd))
     | none=>pure (W0 (__s.fst,__s.snd++[name]))
   else pure (W0 (__s.fst,__s.snd))) Q E s:=λsl' e=>Ke dv r sl' mis (λx hx=>hd x (.tail _ hx)) (by exact e▸k)
  refine Zf ?_
  split
  ·rename_i h
   exact Zf (hd n (.head _) _ _ _ _ (λuu uu e=>e) (Zm (step _ (by rw [Ip,if_pos h]))))
  ·rename_i h
   exact Zm (step _ (by rw [Ip,if_neg h]))
noncomputable def rkD(t u:W7)(n:Yz):Zh:=if n="key" then .none else if n="reverse" then .bool false else if n="ties" then .str "average" t else .int 1 u
theorem Zci(F:KF K a):∃ t u,∀ {MM:XJ} {h:Xx},K.In h->∀ n∈[Zj "key",Zj "reverse",Zj "ties",Zj "start"],Ui MM h (nsGet a.rankK n) (some (rkD t u n)):=by
 refine zE F.dties λt ht=>?_
 refine zE F.dstart λu hu=>?_
 refine⟨t,u,λ{MM h} X=>Xu (looks_nsIn X F.dkey) (Xu (looks_nsIn X F.drev) (Xu (looks_nsIn X ht) (Wo (looks_nsIn X hu))))⟩
theorem IS(F:KF K a)(X:K.In s.heap){v sv:Zh}{t u:W7}(hk:∀ {MM:XJ}{h:Xx},K.In h->∀ n∈[Zj "key",Zj "reverse",Zj "ties",Zj "start"],Ui MM h (nsGet a.rankK n) (some (rkD t u n))){name:Yz}{doc pm:Zh}{an:Option Zo}{cdv ct:Zh}{Q:List (Yz×Zh)->Zi->Prop}
  (k:Q [(Zj "data",v),(Zj "key",.none),(Zj "reverse",.bool false),(Zj "ties",.str "average" t),(Zj "start",sv)] s) :
  Zp (model PW w) A (bindArgs (JC name "_rank" XH.1 XH.2.1 XH.2.2 .none (.ref a.rankK) doc pm an cdv ct) ⟨[v],[(Zj "start",sv)]⟩) Q E s:=by
 refine Zf (Xk (a:=([(Zj "data",v),(Zj "start",sv)],[])) rfl ?_)
 refine Zf (Xk (a:=none) rfl ?_)
 refine YR Zn ?_
 refine YR Zn ?_
 refine Zf (Xk (a:=[(Zj "data",v),(Zj "start",sv)]) rfl ?_)
 refine Zf (Ke (rkD t u) _ _ _ (hk X) ?_)
 refine YR Zn ?_
 exact Zm k
end
section
variable {z:Int}
structure Fe (κ:We)(rv:Bool)(z:Int)(vals rvals:List Zh)(tk:Nat):Prop where
 ex:∃ rows rows':List UU,rows.map (λuu=>uu.key)=vals/\(∀ (j:Nat) (q:UU),rows[j]? = some q->∃ t,q.pos = .int j t)/\rows'.Perm rows/\Zbb κ rv rows'/\RK κ rows' z vals.length rvals
 tk:TK rvals tk
theorem Sn{κ:We}{vals:List Zh}(h:GG κ vals){rows:List UU}(e:rows.map (λuu=>uu.key)=vals):I0 κ rows :=
 ⟨λq hq=>h.all _ (e▸XG (f:=(λuu=>uu.key)) hq),λq hq q' hq'=>h.tok _ (e▸XG (f:=(λuu=>uu.key)) hq) _ (e▸XG (f:=(λuu=>uu.key)) hq')⟩
theorem DB{κ:We}{vals:List Zh}{ep:Nat}{lst:Zo}{M:List Zo}{sE s0 s:Zi}(S:St H0 A l s)(h0:Wy s0.heap (lst,ZD vals ep))(h:Wy s.heap (lst,ZD vals ep))(hnew:sE.heap.get? s.heap.objs.size=none)(KL:GG κ vals) :
  Zjb w H0 A l κ (.ref lst) 0 vals.length M sE s0 s s.heap.objs.size [s.heap.objs.size,lst] [s.heap.objs.size]
   (λacc s'=>Lg s'.heap [(s.heap.objs.size,WV lst acc.length),(lst,ZD vals ep)]/\acc=vals.take acc.length) (λacc uu=>acc=vals):=by
 have hI:H0.get? s.heap.objs.size=none:=by
  cases q:H0.get? s.heap.objs.size with
  | none=>rfl
  | some o=>exact absurd (YH (S.glob _ _ q)) (Xy _)
 refine⟨Zfy (w:=w) (l:=l) (lst:=lst) (vals:=vals) (ep:=ep) 0 hI,λp hp=>?_,λp hp=>?_,λA' Q E h1 h2 h3 h4=>?_,λrows s' hN e=>Sn KL e⟩
 ·rcases Z7.mp hp with rfl | hp
  ·exact .inl XC
  ·exact(Zk.mp hp) ▸ .inr ⟨_,h0.at_⟩
 ·exact(Zk.mp hp) ▸ .inr hnew
 ·have g:Go H0 [] s { s with heap:=s.heap.push (WV lst 0) }:=Go.push _
  refine W8 ⟨_,h.at_,rfl,_,rfl⟩ (h4 _ g ⟨⟨λp hp=>?_,?_⟩,rfl⟩)
  ·rcases Z7.mp hp with rfl | hp
   ·exact VN (ZK _ rfl)
   ·exact(Zk.mp hp)▸h.go g (λh=>nomatch h)
  ·have:s.heap.objs.size≠lst:=λe=>by have:=YH h.at_; rw [<- e] at this; exact absurd this (Xy _)
   simp [this]
theorem FG(G:Gl K H0 mg mb)(F:KF K a)(S:St H0 A l s)(κ:We){lst:Zo}{vals:List Zh}{ep:Nat}{sv:Zh}(hl:Wy s.heap (lst,ZD vals ep))(hsv:Tc sv (z+2))(hz:z.natAbs<=2^45)(hn:vals.length<200)(KL:GG κ vals)
  (hroom:A.depth+5<Zr)(hh:A.handled=none){R:Zc}
  (k:∀ res rvals c s',Fe κ false z vals rvals s'.toks->Go H0 [] s s'->Wy s'.heap (res,ZD rvals c)->s.heap.get? res=none->R (.ok (.ret (.ref res))) s') :
  Yk (model PW w) A (.call (.ref a.rank) ⟨[.ref lst],[(Zj "start",sv)]⟩) R s:=by
 refine Sw G S F.rank [] (by exact Yg (Zx _ _) (by assumption)) (by decide) λname doc pm an cdv ct E'=>?_
 refine zEE (Zci F) λt u hk=>?_
 refine IS F (S.X G) hk ⟨λb o h=>h,Z6 _,rfl,rfl,locs rfl,[(lst,ZD vals ep)],λp hp=>by exact(Zk.mp hp)▸hl,by exact nd1,λL cdv s1 C=>?_⟩
 refine Zg (Yv (Z8 (C.name rfl (Yi (PySem.P.ne_str (Zu ?_))))))
 refine Y6 (by decide) (Z4 ?_)
 have C1:=C.tok 1
 refine Zg (Yv (Z8 (C1.name (v:=.none) rfl (Wm (isNot_none (Zu ?_))))))
 refine Y6 (by decide) (Z4 ?_)
 refine SY (d:=0) (n:=vals.length) (P:=λacc uu=>acc=vals) (κ:=κ) G F C1 rfl rfl rfl hsv hz hn (λs2 g2=>⟨_,_,_,_,_,DB (C1.st.go g2) (C1.ok 0 rfl) ((C1.ok 0 rfl).go g2 (λh=>nomatch h)) ?_ KL,λuu uu h=>h⟩) (by omega) hh PassesOwn.leaving λm' res rvals c rows rows' s2 s3 hN hpos hP KR hperm hord hrk htk C3 nres hfr=>?_
 ·exact((C1.call g2).noE XC).e
 ·exact k res rvals c s3 ⟨⟨rows,rows',hP,hpos,hperm,hord,hrk⟩,htk⟩ C3.go (C3.ok 0 rfl) nres.e
end
theorem VF{α:Type}{p:α->Bool}:∀ {rows:List α} {i0 i1:Nat},i0<=i1->i1<=rows.length->(∀ m q,rows[m]? = some q->(p q=true↔i0<=m/\m<i1))->rows.countP p=i1-i0
 | [],i0,i1,_,h1,_=>by exact(Nat.eq_zero_of_le_zero h1)▸(Nat.zero_sub _).symm
 | x::r,i0,i1,h0,h1,h=>by
  cases i0 with
  | zero=>
   cases i1 with
   | zero=>exact ZF (Js λe=>Xy 0 ((h 0 x rfl).mp e).2) (VF (Z6 0) (Yt _) λm q hq=>(h (m+1) q hq).trans ⟨λe=>absurd e.2 (JM _),λe=>absurd e.2 (JM _)⟩)
   | succ i1=>rw [Jr ((h 0 x rfl).mpr ⟨Z6 0,Jb _⟩),VF (Yt i1) (JE h1) λm q hq=>(h (m+1) q hq).trans ⟨λe=>⟨Yt _,Nat.lt_of_succ_lt_succ e.2⟩,λe=>⟨Yt _,Nat.succ_lt_succ e.2⟩⟩]; rfl
  | succ i0=>
   cases i1 with
   | zero=>exact absurd h0 (Nat.not_succ_le_zero _)
   | succ i1=>rw [Js λe=>Nat.not_succ_le_zero _ ((h 0 x rfl).mp e).1,VF (JE h0) (JE h1) λm q hq=>(h (m+1) q hq).trans ⟨λe=>⟨JE e.1,Nat.lt_of_succ_lt_succ e.2⟩,λe=>⟨Xv e.1,Nat.succ_lt_succ e.2⟩⟩,Nat.add_sub_add_right]
section
theorem Zke{x y:UU}(hx:κ.P x.key)(hy:κ.P y.key)(h:ltR κ x y=true):κ.lt y.key x.key=false:=by
 simp only [ltR,Bool.or_eq_true,Bool.and_eq_true,decide_eq_true_eq] at h
 rcases h with h | ⟨h,_⟩
 ·cases q:κ.lt y.key x.key with
  | false=>rfl
  | true=>have:=κ.trans _ _ _ hx hy hx h q; exact absurd (ZF (ZR (κ.irrefl _ hx)) this) Zn
 ·exact((κ.eq_iff _ _ hx hy).mp h).2
theorem VQ{x y z:Zh}(hx:κ.P x)(hy:κ.P y)(hz:κ.P z)(h1:κ.lt y x=false)(h2:κ.lt z y=false):κ.lt z x=false:=by
 cases q:κ.lt z x with
 | false=>rfl
 | true=>
  rcases κ.neg z y x hz hy hx q with h | h
  ·exact absurd (ZF (ZR h2) h) Zn
  ·exact absurd (ZF (ZR h1) h) Zn
variable {rows:List UU}
theorem N7(hk:∀ q∈rows,κ.P q.key)(ho:Zbb κ false rows){i j:Nat}{x y:UU}(hij:i<=j)(hi:rows[i]? = some x)(hj:rows[j]? = some y):κ.lt y.key x.key=false:=by
 rcases Nat.eq_or_lt_of_le hij with e | h
 ·subst e; obtain rfl:=Zz (ZF (ZR hi) hj); exact κ.irrefl _ (hk _ (ZG hi))
 ·refine zE (Z5.mp hi) λa1 b1=>?_
  refine zE (Z5.mp hj) λa2 b2=>?_
  have:=YU.mp ho i j a1 a2 h
  rw [b1,b2] at this
  exact Zke (hk _ (ZG hi)) (hk _ (ZG hj)) this
theorem Dn(hk:∀ q∈rows,κ.P q.key)(ho:Zbb κ false rows){i0 i1 m:Nat}{q:UU}(hg:Grp κ rows i0 i1)(hu:Zfe κ rows i0)(hm:rows[m]? = some q)(h0:i0<=m)(h1:m<i1) :
  rows.countP (λr=>κ.lt r.key q.key)=i0/\rows.countP (λr=>κ.eq r.key q.key)=i1-i0:=by
 have get:∀ i,i<rows.length->∃ r,rows[i]? = some r:=λi hi=>⟨_,ZE hi⟩
 have P:∀ {i:Nat} {r:UU},rows[i]? = some r->κ.P r.key:=λh=>hk _ (ZG h)
 have hlt:=hg.lt
 have hle:=hg.le
 refine zE (get i0 (Z9 hlt hle)) λq0 hq0=>?_
 have hq0q:=(κ.eq_iff _ _ (P hq0) (P hm)).mp (hg.same q0 m q hq0 h0 h1 hm)
 have below:∀ i r,rows[i]? = some r->i<i0->κ.lt r.key q.key=true:=by
  intro i r hr hi
  cases hc:κ.lt r.key q.key with
  | true=>rfl
  | false=>
   exfalso
   rcases hu with rfl | ⟨ip,hp⟩
   ·exact JM _ hi
   ·have hl0:=Z9 hlt hle
    have hlo:=Nat.sub_lt (Uw hp.lt) J6
    refine zE (get ip (Yx hp.lt hl0)) λqp hqp=>?_
    refine zE (get (i0-1) (Yx hlo hl0)) λql hql=>?_
    have e2:=hp.stop qp q0 hqp hq0
    rw [(κ.eq_iff _ _ (P hqp) (P hq0)).mpr ⟨(VQ (P hq0) (P hql) (P hqp) (VQ (P hq0) (P hr) (P hql) (VQ (P hq0) (P hm) (P hr) hq0q.2 hc) (N7 hk ho (i:=i) (j:=i0-1) (Ur hi) hr hql)) ((κ.eq_iff _ _ (P hqp) (P hql)).mp (hp.same qp (i0-1) ql hqp (Ur hp.lt) hlo hql)).1),(N7 hk ho (i:=ip) (j:=i0) (ZU hp.lt) hqp hq0)⟩] at e2; exact absurd e2.symm Zn
 have same:∀ i r,rows[i]? = some r->i0<=i->i<i1->κ.eq r.key q.key=true:=by
  intro i r hr ha hb
  have e:=(κ.eq_iff _ _ (P hq0) (P hr)).mp (hg.same q0 i r hq0 ha hb hr)
  exact(κ.eq_iff _ _ (P hr) (P hm)).mpr ⟨VQ (P hm) (P hq0) (P hr) hq0q.1 e.2,VQ (P hr) (P hq0) (P hm) e.1 hq0q.2⟩
 have above:∀ i r,rows[i]? = some r->i1<=i->κ.lt q.key r.key=true:=by
  intro i r hr hi
  cases hc:κ.lt q.key r.key with
  | true=>rfl
  | false=>
   exfalso
   have hil:=(Z5.mp hr).1
   refine zE (get i1 (by exact Yg (by assumption) (by assumption))) λq1 hq1=>?_
   have e2:=hg.stop q0 q1 hq0 hq1
   have a3:κ.lt q0.key q1.key=false:=VQ (P hq1) (P hm) (P hq0) (VQ (P hq1) (P hr) (P hm) (N7 hk ho hi hq1 hr) hc) hq0q.1
   rw [(κ.eq_iff _ _ (P hq0) (P hq1)).mpr ⟨a3,(N7 hk ho (by exact ZU (by assumption)) hq0 hq1)⟩] at e2; exact absurd e2.symm Zn
 constructor
 ·have:=VF (p:=λr=>κ.lt r.key q.key) (rows:=rows) (i0:=0) (i1:=i0) (Yt _) (by lia) (λi r hr=>by
   constructor
   ·intro h
    refine⟨Yt _,?_⟩
    apply Classical.byContradiction
    intro hc
    by_cases h2:i<i1
    ·have:=(κ.eq_iff _ _ (P hr) (P hm)).mp (same i r hr (by exact Nat.le_of_not_lt (by assumption)) h2)
     rw [this.1] at h; exact absurd h Zn
    ·have h3:=above i r hr (by lia)
     have:=κ.trans _ _ _ (P hr) (P hm) (P hr) h h3
     rw [κ.irrefl _ (P hr)] at this; exact absurd this Zn
   ·intro h; exact below i r hr h.2)
  simpa using this
 ·refine VF (p:=λr=>κ.eq r.key q.key) (rows:=rows) (i0:=i0) (i1:=i1) (by exact ZU (by assumption)) (by omega) (λi r hr=>?_)
  constructor
  ·intro h
   have h':=(κ.eq_iff _ _ (P hr) (P hm)).mp h
   apply Classical.byContradiction
   intro hc
   by_cases h2:i<i0
   ·rw [below i r hr h2] at h'; cases h'.1
   ·rw [above i r hr (by lia)] at h'; cases h'.2
  ·intro h; exact same i r hr h.1 h.2
theorem Fe.at{z:Int}{vals rvals:List Zh}{tk:Nat}(h:Fe κ false z vals rvals tk)(KL:GG κ vals):rvals.length=vals.length/\∀ (j:Nat) (v:Zh),vals[j]? = some v ->
  ∃ t,rvals[j]? = some (.float (hf (z+2*(vals.countP λx=>κ.lt x v)+(vals.countP λx=>κ.eq x v)+1)) t):=by
 refine Ko h.ex λrows rows' hv hpos hperm hord hl hr=>?_
 have hlen:rows'.length=rows.length:=hperm.length_eq
 have hlr:rows.length=vals.length:=by rw [<- hv,YW]
 refine⟨by lia,λj v hj=>?_⟩
 obtain ⟨q,hq⟩:∃ q,rows[j]? = some q:=⟨_,ZE (by have:=(Z5.mp hj).1; lia)⟩
 have hqv:q.key=v:=by
  have:(rows.map (λuu=>uu.key))[j]? = some q.key:=by rw [Uv,hq]; rfl
  rw [hv,hj] at this; exact(Zz this).symm
 refine zE (hpos j q hq) λt' ht'=>?_
 have hpj:(Uk q).toNat=j:=by unfold Uk; rw [ht']; rfl
 refine zE (List.mem_iff_getElem?.mp (hperm.mem_iff.mpr (ZG hq))) λm hm=>?_
 have hk':∀ x∈rows',κ.P x.key:=λx hx=>((Sn KL hv).all x (hperm.mem_iff.mp hx)).1
 refine Tj (hr m q (by have:=(Z5.mp hm).1; lia) hm) λi0 i1 hg hu h0 h1 t ht=>?_
 refine zA (Dn hk' hord hg hu hm h0 h1) λc1 c2=>?_
 rw [hperm.countP_eq] at c1 c2
 have d1:vals.countP (λx=>κ.lt x v)=i0:=by rw [<- c1,<- hv,List.countP_map,<- hqv]; rfl
 have d2:vals.countP (λx=>κ.eq x v)=i1-i0:=by rw [<- c2,<- hv,List.countP_map,<- hqv]; rfl
 refine⟨t,?_⟩
 rw [hpj] at ht
 rw [ht,d1,d2]
 have:z+2*(i0:Int)+((i1-i0:Nat):Int)+1=z+i0+i1+1:=by have:=hg.lt; lia
 rw [this]
end
structure Itr (w:Um)(H0:Xx)(I:Zo)(own:List Zo)(vals:List Zh)(Inv:Nat->Zi->Prop):Prop where
 item:∀ (A:YE) (E:Za) (s:Zi) (Q:Option Zh->Zi->Prop) (i:Nat) (v:Zh),A.handled=none->Inv i s->vals[i]? = some v ->
  (∀ s',Go H0 [I] s s'->Inv (i+1) s'->Q (some v) s')->Zp (model PW w) A (pyNext (.ref I)) Q E s
 done:∀ (A:YE) (E:Za) (s:Zi) (Q:Option Zh->Zi->Prop) (i:Nat),A.handled=none->Inv i s->vals[i]? = none ->
  (∀ s',Go H0 [I] s s'->Q none s')->Zp (model PW w) A (pyNext (.ref I)) Q E s
 keep:∀ i s s' M,Inv i s->Go H0 M s s'->(∀ p∈M,p∉own)->Inv i s'
noncomputable abbrev Fj(tp:Zo)(i:Nat):Xl:={ cls:=.type "tuple_iterator",data:=.fields #[.ref tp,.int i 0] }
theorem N1{it tp:Zo}{i:Nat}{vs:List Zh}{x:Zh}{Q:Option Zh->Zi->Prop}(hit:s.heap.get? it=some (Fj tp i))(hl:s.heap.get? tp=some (XX vs))(hx:vs[i]? = some x)
  (hQ:Q (some x) { s with heap:=s.heap.update it (ZP (·.setIfInBounds 1 (Xr ((i:Int)+1)))) }):Zp (model PW w) A (pyNext (.ref it)) Q E s:=by
 have hT:s.TypeIs (.ref it) "tuple_iterator":=⟨_,hit,rfl⟩
 refine Zf (Ut (YY (name:=Zj "__next__") hT Vn (Xh Vn hT F.entry_tuple_iterator_next ?_ (F.args_tuple_iterator_next_1 _))))
 show Zp _ _ (field (.ref it) 0 >>= _) _ _ s
 refine Zf (YA hit rfl (x:=.ref tp) rfl ?_)
 show Zp _ _ (if(ZS tp==Yl)=true then _ else _) _ _ s
 first | refine Y6 rfl ?_ | refine YR (show ¬ ((ZS tp==Yl)=true) from Zn) ?_ | rw [if_neg (show ¬ ((ZS tp==Yl)=true) from Zn)]
 show Zp _ _ (field (.ref it) 1 >>= _) _ _ s
 refine Zf (YA hit rfl (x:=.int i 0) rfl ?_)
 show Zp _ _ (Uq (.ref tp) >>= _) _ _ s
 refine Zf (YJ hl rfl ?_)
 simp only [XM,XE,hx]
 exact Zf (XY hit rfl (by exact Z6 _) (Zm ⟨x,rfl,Zm hQ⟩))
theorem TN{it tp:Zo}{i:Nat}{vs:List Zh}{Q:Option Zh->Zi->Prop}(hh:A.handled=none)(hit:s.heap.get? it=some (Fj tp i))(hl:s.heap.get? tp=some (XX vs))(hx:vs[i]? = none)
  (hQ:∀ h' e,Ja (s.heap.update it (ZP (·.setIfInBounds 0 .none))) h' e "StopIteration" []->Q none { s with heap:=h' }):Zp (model PW w) A (pyNext (.ref it)) Q E s:=by
 have hT:s.TypeIs (.ref it) "tuple_iterator":=⟨_,hit,rfl⟩
 refine Zf (Ut (YY (name:=Zj "__next__") hT Vn (Xh Vn hT F.entry_tuple_iterator_next ?_ (F.args_tuple_iterator_next_1 _))))
 show Zp _ _ (field (.ref it) 0 >>= _) _ _ s
 refine Zf (YA hit rfl (x:=.ref tp) rfl ?_)
 show Zp _ _ (if(ZS tp==Yl)=true then _ else _) _ _ s
 first | refine Y6 rfl ?_ | refine YR (show ¬ ((ZS tp==Yl)=true) from Zn) ?_ | rw [if_neg (show ¬ ((ZS tp==Yl)=true) from Zn)]
 show Zp _ _ (field (.ref it) 1 >>= _) _ _ s
 refine Zf (YA hit rfl (x:=.int i 0) rfl ?_)
 show Zp _ _ (Uq (.ref tp) >>= _) _ _ s
 refine Zf (YJ hl rfl ?_)
 simp only [XM,XE,hx]
 refine Zf (Xm (Zf (XY hit rfl (by exact Jb _) ?_)))
 show Zp _ _ (newExc (.type "StopIteration") [] >>= _) _ _ _
 refine Zf (V3 (λh' e hm=>?_))
 refine Zf (Vd ?_)
 rw [show A.in1.handled=none from hh]
 refine XW hm.there λt ht uu=>?_
 refine Zf (Zm (JN ?_))
 refine Zf (wpAny_isInstance (T:="StopIteration") (b:=true) (s:={ s with heap:=h' }) (show Shared.TypeIs { s with heap:=h' } (.ref e) "StopIteration" from⟨_,ht,rfl⟩) owsi_facts.sub ?_)
 exact Zm (hQ h' e hm)
theorem Zgy{I lst:Zo}{vals:List Zh}{ep:Nat}(hI:H0.get? I=none):Itr w H0 I [I,lst] vals (λi s=>Lg s.heap [(I,WV lst i),(lst,ZD vals ep)]) where
 item:=λA E s Q i v hh C hx k=>by
  refine VU (C.at 0 rfl) (C.at 1 rfl) hx ?_
  refine zA (C.upd (H0:=H0) (s:=s) 0 (f:=ZP (·.setIfInBounds 1 (Xr ((i:Int)+1)))) rfl rfl Y5 rfl hI) λg C'=>?_
  exact k _ g C'
 done:=λA E s Q i hh C hx k=>by
  refine Gm hh (C.at 0 rfl) (C.at 1 rfl) hx λh' e hm=>?_
  refine zA (C.upd (H0:=H0) (s:=s) 0 (f:=ZP (·.setIfInBounds 0 .none)) rfl rfl Y5 rfl hI) λg C'=>?_
  exact k _ (g.trans (Bc (s:={ s with heap:=s.heap.update I (ZP (·.setIfInBounds 0 .none)) }) hm))
 keep:=λi s s' M C g hM=>C.turn g _ rfl λp hp=>.inl ⟨hp,λq=>by
  rcases Z7.mp hp with rfl | hp
  ·exact hM _ q (by exact .head _)
  ·rw [Zk.mp hp] at q; exact hM _ q (by exact .tail _ (.head _))⟩
theorem Zkf{I tp:Zo}{vals:List Zh}(hI:H0.get? I=none):Itr w H0 I [I,tp] vals (λi s=>Lg s.heap [(I,Fj tp i),(tp,XX vals)]) where
 item:=λA E s Q i v hh C hx k=>by
  refine N1 (C.at 0 rfl) (C.at 1 rfl) hx ?_
  refine zA (C.upd (H0:=H0) (s:=s) 0 (f:=ZP (·.setIfInBounds 1 (Xr ((i:Int)+1)))) rfl rfl Y5 rfl hI) λg C'=>?_
  exact k _ g C'
 done:=λA E s Q i hh C hx k=>by
  refine TN hh (C.at 0 rfl) (C.at 1 rfl) hx λh' e hm=>?_
  refine zA (C.upd (H0:=H0) (s:=s) 0 (f:=ZP (·.setIfInBounds 0 .none)) rfl rfl Y5 rfl hI) λg C'=>?_
  exact k _ (g.trans (Bc (s:={ s with heap:=s.heap.update I (ZP (·.setIfInBounds 0 .none)) }) hm))
 keep:=λi s s' M C g hM=>C.turn g _ rfl λp hp=>.inl ⟨hp,λq=>by
  rcases Z7.mp hp with rfl | hp
  ·exact hM _ q (by exact .head _)
  ·rw [Zk.mp hp] at q; exact hM _ q (by exact .tail _ (.head _))⟩
noncomputable abbrev T3:=UInt64×UInt64×UInt64
noncomputable def Ks:List (UInt64×UInt64)->T3->T3
 | [],t=>t
 | p::r,t=>Ks r (Wz p.1 p.2 t)
noncomputable def Gk:List (UInt64×UInt64)->T3->Prop
 | [],_=>True
 | p::r,t=>Float64.isFinite (Wz p.1 p.2 t).1=true/\Gk r (Wz p.1 p.2 t)
structure FV (vals:List Zh)(xs:List UInt64):Prop where
 len:vals.length=xs.length
 at_:∀ (i:Nat) x,xs[i]? = some x->∃ t,vals[i]? = some (.float x t)
noncomputable def t3V(t:T3):List Zh:=[Xr t.1.toNat,Xr t.2.1.toNat,Xr t.2.2.toNat]
theorem J1:plainId "math.sumprod.loop"=true:=by decide +kernel
theorem GU:entryFor table "math.sumprod.loop"=some Builtin.«math.sumprod.loop»:=JD (by kernel_rfl)
theorem Zga{I J:Zo}{ownI ownJ:List Zo}{ps qs:List Zh}{InvI InvJ:Nat->Zi->Prop}(hI:Itr w H0 I ownI ps InvI)(hJ:Itr w H0 J ownJ qs InvJ)(hIJ:I∉ownJ)(hJI:J∉ownI){xs ys:List UInt64}(hx:FV ps xs)(hy:FV qs ys)(hlen:xs.length=ys.length)
  (hh:A.handled=none){R:Zc} :
  ∀ (n i:Nat) (th:T3) (s:Zi) (T:Zo) (t0:W7) (io fu:Bool),xs.length-i=n->i<=xs.length->InvI i s->InvJ i s->s.heap.get? T=some (XX (t3V th))->Gk ((xs.zip ys).drop i) th->(i=xs.length->fu=true) ->
   (∀ t s',Go H0 [I,J] s s'->R (.ok (.ret (.float (WC (Yy 0) (Jf (Ks ((xs.zip ys).drop i) th))) t))) s') ->
   Yk (model PW w) A (.builtin "math.sumprod.loop" ⟨[.ref I,.ref J,.int 0 t0,.bool io,Xr 0,.bool false,.bool true,.ref T,.bool fu],[]⟩) R s:=by
 intro n
 induction n with
 | zero=>
  intro i th s T t0 io fu hn hi hIi hJi hT hok hfu k
  have hil:i=xs.length:=by grind
  have hfu:=hfu hil
  subst hfu
  have hd:(xs.zip ys).drop i = []:=List.drop_eq_nil_of_le (by rw [List.length_zip]; lia)
  rw [hd] at k
  have hpn:ps[i]? = none:=XS (by rw [hx.len]; exact Xw (ZR (by assumption)))
  have hqn:qs[i]? = none:=XS (by rw [hy.len]; lia)
  refine Wq GU J1 ?_
  delta Builtin.«math.sumprod.loop»
  show Zp _ A.in1 (Uq (.ref T) >>= _) _ _ s
  refine Zf (YJ hT rfl ?_)
  refine Zf (hI.done _ _ _ _ i hh hIi hpn λs1 g1=>?_)
  have hJ1:=hJ.keep _ _ _ _ hJi g1 (λp hp=>by exact(Zk.mp hp)▸hIJ)
  refine Zf (Yc (hJ.done _ _ _ _ i hh hJ1 hqn λs2 g2=>?_))
  refine YR Zn ?_
  have e3:((th.1.toNat:Int).toNat.toUInt64,(th.2.1.toNat:Int).toNat.toUInt64,(th.2.2.toNat:Int).toNat.toUInt64)=th:=by
   simp
  have g12:Go H0 [I,J] s s2:=(g1.mono (λp hp=>by rw [Zk.mp hp]; simp)).trans (g2.mono (λp hp=>by rw [Zk.mp hp]; simp))
  dsimp only
  rw [e3]
  have rest:Zp (model PW w) A.in1 (do
    let f <- mkFloat (Jf th)
    let total <- holding (Vg 0 t0::((none:Option Zh).toList++(none:Option Zh).toList)) (JY Operator.Add (Vg 0 t0) f)
    ret total) (λfin s'=>match fin with | .done f=>R (.ok f) s' | .again c'=>c'.quiet=true/\Yk (model PW w) A c' R s') (NN R) s2:=by
   refine Zf (wpAny_mkFloat (Zf (Yc (add_if_fits (by decide) ?_))))
   exact Zm (k _ _ (g12.trans (.ext (s:=s2) (s':={ s2 with toks:=s2.toks+1+1 }) (λuu uu h=>h) (Zx s2.toks 2) rfl rfl _)))
  cases io with
  | true=>exact YT rfl (Zf (Xm (YR Zn (YT rfl (Zf (Xm (YT rfl rest)))))))
  | false=>exact YR Zn (YT rfl (Zf (Xm (YT rfl rest))))
 | succ n ih=>
  intro i th s T t0 io fu hn hi hIi hJi hT hok hfu k
  refine Wq GU J1 ?_
  delta Builtin.«math.sumprod.loop»
  show Zp _ A.in1 (Uq (.ref T) >>= _) _ _ s
  refine Zf (YJ hT rfl ?_)
  obtain ⟨x,hxi⟩:∃ x,xs[i]? = some x:=⟨_,ZE (by grind)⟩
  obtain ⟨y,hyi⟩:∃ y,ys[i]? = some y:=⟨_,ZE (by grind)⟩
  refine zE (hx.at_ i x hxi) λtx hpx=>?_
  refine zE (hy.at_ i y hyi) λty hqy=>?_
  have hdrop:(xs.zip ys).drop i=(x,y)::(xs.zip ys).drop (i+1):=by
   have hz:(xs.zip ys)[i]? = some (x,y):=by rw [List.getElem?_zip_eq_some]; exact⟨hxi,hyi⟩
   refine zE (Z5.mp hz) λhl hz=>?_
   rw [Ww hl,hz]
  rw [hdrop] at hok k
  obtain ⟨hfin,hok⟩:=hok
  have e3:((th.1.toNat:Int).toNat.toUInt64,(th.2.1.toNat:Int).toNat.toUInt64,(th.2.2.toNat:Int).toNat.toUInt64)=th:=by
   simp
  refine Zf (hI.item _ _ _ _ i _ hh hIi hpx λs1 g1 hIi1=>?_)
  have hJ1:=hJ.keep _ _ _ _ hJi g1 (λp hp=>by exact(Zk.mp hp)▸hIJ)
  refine Zf (Yc (hJ.item _ _ _ _ i _ hh hJ1 hqy λs2 g2 hJ2=>?_))
  have hI2:=hI.keep _ _ _ _ hIi1 g2 (λp hp=>by exact(Zk.mp hp)▸hJI)
  refine YR Zn ?_
  have rest:Zp (model PW w) A.in1 (do
    let t <- newTuple (t3V (Wz x y th))
    again (Code.builtin "math.sumprod.loop" ⟨[.ref I,.ref J,.int 0 t0,.bool false,Xr 0,.bool false,.bool true,t,.bool true],[]⟩)) (λfin s'=>match fin with | .done f=>R (.ok f) s' | .again c'=>c'.quiet=true/\Yk (model PW w) A c' R s') (NN R) s2:=by
   have gp:Go H0 [] s2 { s2 with heap:=s2.heap.push (XX (t3V (Wz x y th))) }:=Go.push _
   refine Zf (Xa (Zm ⟨Wv J1 _,?_⟩) (by show 3<=_; rw [ZW]; decide))
   refine ih (i+1) (Wz x y th) _ s2.heap.objs.size t0 false true (by grind) (by grind) (hI.keep _ _ _ _ hI2 gp YC) (hJ.keep _ _ _ _ hJ2 gp YC) (ZK _ rfl) hok (λuu=>rfl) λt s' g=>?_
   exact k t s' (((g1.mono (λp hp=>by rw [Zk.mp hp]; simp)).trans (g2.mono (λp hp=>by rw [Zk.mp hp]; simp))).trans ((gp.mono YC).trans g))
  cases io with
  | true=>
   dsimp only
   rw [e3]
   refine YT rfl (Zf (Xm ?_))
   refine YR Zn (YT rfl (YT rfl (YT hfin ?_)))
   exact rest
  | false=>
   dsimp only
   rw [e3]
   refine YR Zn (YT rfl (YT rfl (YT hfin ?_)))
   exact rest
noncomputable def SqO(o:Xl)(vals:List Zh):Prop:=(∃ n,o=ZD vals n)\/o=XX vals
theorem Hh{h:Xx}{l:Zo}{o:Xl}(e:h.get? l=some o):h.objs.size≠l:=λq=>by have:=YH e; rw [<- q] at this; exact absurd this (Xy _)
theorem Su(S:∀ b o,H0.get? b=some o->s.heap.get? b=some o){I:Zo}(h:s.heap.get? I=none):H0.get? I=none:=by
 cases q:H0.get? I with
 | none=>rfl
 | some o=>exact noN (ZF (ZR (S _ _ q)) h)
theorem HE{l:Zo}{o:Xl}{vals:List Zh}(S:∀ b o,H0.get? b=some o->s.heap.get? b=some o)(h:Wy s.heap (l,o))(hs:SqO o vals) :
  ∃ Inv,Itr w H0 s.heap.objs.size [s.heap.objs.size,l] vals Inv/\∀ (A:YE) (Q:Za) (E:Za),(∀ s1,Go H0 [] s s1->Inv 0 s1->s1.heap.objs.size≠s.heap.objs.size->s1.heap.get? s.heap.objs.size≠none->Q (.ref s.heap.objs.size) s1)->Zp (model PW w) A (pyIter (.ref l)) Q E s:=by
 have hI:=Su S (XC (h:=s.heap))
 have hne:=Hh h.at_
 have sz:∀ o:Xl,(s.heap.push o).objs.size≠s.heap.objs.size:=λo=>by rw [Xq]; lia
 rcases hs with ⟨n,rfl⟩ | rfl
 ·refine⟨_,Zgy (lst:=l) (ep:=n) hI,λA Q E k=>?_⟩
  have g:Go H0 [] s { s with heap:=s.heap.push (WV l 0) }:=Go.push _
  refine W8 ⟨_,h.at_,rfl,_,rfl⟩ (k _ g ⟨λp hp=>?_,by simp [hne]⟩ (sz _) ?_)
  ·rcases Z7.mp hp with rfl | hp
   ·exact VN (ZK _ rfl)
   ·exact(Zk.mp hp)▸h.go g (λh=>nomatch h)
  ·show(s.heap.push (WV l 0)).get? s.heap.objs.size≠none
   rw [ZK _ rfl]; simp
 ·refine⟨_,Zkf (tp:=l) hI,λA Q E k=>?_⟩
  have g:Go H0 [] s { s with heap:=s.heap.push (Fj l 0) }:=Go.push _
  refine wpAny_pyIter_tuple ⟨_,h.at_,rfl,_,rfl⟩ (k _ g ⟨λp hp=>?_,by simp [hne]⟩ (sz _) ?_)
  ·rcases Z7.mp hp with rfl | hp
   ·exact .of (ZK _ rfl) Y5 rfl
   ·exact(Zk.mp hp)▸h.go g (λh=>nomatch h)
  ·show(s.heap.push (Fj l 0)).get? s.heap.objs.size≠none
   rw [ZK _ rfl]; simp
theorem Bq{id:String}{b:Builtin}{args:List Zh}{Q:Za}(hk:Vy id=none)(hp:plainId id=true)
  (hb:entryFor table id=some b)(ha:argsOk id ⟨args,[]⟩)
  (hc:Zp (model PW w) A.in1 (b ⟨args,[]⟩) (λfin s'=>match fin with
   | .done f=>wants Q E (.ok f) s'
   | .again c'=>c'.quiet=true/\Yk (model PW w) A c' (wants Q E) s') (λe s'=>wants Q E (.error e) s') s):Zp (model PW w) A (PySem.call (.builtin id) args) Q E s:=by
 refine Y7 (Jm hp hb ?_)
 delta checkBuiltinCall; rw [hk]
 cases hsig:Manifest.signature? id with
 | none=>exact Zm hc
 | some sig=>
  delta argsOk at ha; rw [hsig] at ha
  have ha:Bind.checkArgs id sig ⟨args,[]⟩=pure ():=ha
  show Zp _ A.in1 (Bind.checkArgs id sig ⟨args,[]⟩) _ _ s
  rw [ha]
  exact Zm hc
theorem Bf:Vy "math.sumprod"=none:=by decide +kernel
theorem GC:plainId "math.sumprod"=true:=by decide +kernel
theorem GF:entryFor table "math.sumprod"=some Builtin.«math.sumprod»:=JD (by kernel_rfl)
theorem Br(a b:Zh):argsOk "math.sumprod" ⟨[a,b],[]⟩:=by unfold argsOk; kernel_rfl
noncomputable def z3:T3:=(Uh false,Uh false,Uh false)
noncomputable def JQ(ps:List (UInt64×UInt64)):UInt64:=WC (Yy 0) (Jf (Ks ps z3))
theorem VA(S:∀ b o,H0.get? b=some o->s.heap.get? b=some o){l l':Zo}{o o':Xl}{ps qs:List Zh}{xs ys:List UInt64}(h:Wy s.heap (l,o))(h':Wy s.heap (l',o'))(hs:SqO o ps)(hs':SqO o' qs)(hx:FV ps xs)(hy:FV qs ys)(hlen:xs.length=ys.length)(h0:0<xs.length)
  (hok:Gk (xs.zip ys) z3)(hh:A.handled=none){Q:Za}(k:∀ t s',Go H0 [] s s'->Q (.float (JQ (xs.zip ys)) t) s'):Zp (model PW w) A (call (.builtin "math.sumprod") [.ref l,.ref l']) Q E s:=by
 refine Bq Bf GC GF (Br _ _) ?_
 refine Zf (Xk (a:=[.ref l,.ref l']) rfl ?_)
 refine XW (HE (w:=w) S h hs) λInvI hI hIit=>?_
 refine Zf (hIit _ _ _ λs1 g1 i1 hz1 hp1=>?_)
 refine XW (HE (w:=w) (s:=s1) (λb o e=>g1.glob S b o e) (h'.go g1 (λh=>nomatch h)) hs') λInvJ hJ hJit=>?_
 refine Zf (Yc (hJit _ _ _ λs2 g2 j2 hz2 hp2=>?_))
 refine Zf (wpAny_mkInt ?_)
 have gp:Go H0 [] s2 { s2 with toks:=s2.toks+1,heap:=s2.heap.push (XX (t3V z3)) }:=(Go.ext (s:=s2) (s':={ s2 with toks:=s2.toks+1 }) (λuu uu h=>h) (Zx s2.toks 1) rfl rfl []).trans (Go.push (s:={ s2 with toks:=s2.toks+1 }) _)
 have hJI:s1.heap.objs.size∉[s.heap.objs.size,l]:=by
  have:=Hh (h.go g1 (λh=>nomatch h)).at_
  simp [hz1,this]
 have hIJ:s.heap.objs.size∉[s1.heap.objs.size,l']:=by
  have:=Hh h'.at_
  simp [this,Ne.symm hz1]
 refine Zf (Xa (Zm ⟨Wv J1 _,?_⟩) (by show 3<=_; rw [ZW]; decide))
 refine Zga hI hJ hIJ hJI hx hy hlen hh _ 0 z3 _ s2.heap.objs.size _ true false rfl (Yt _) (hI.keep _ _ _ _ (hI.keep _ _ _ _ i1 g2 YC) gp YC) (hJ.keep _ _ _ _ j2 gp YC) (ZK _ rfl) hok (λe=>by lia) λt s' g=>?_
 refine k t s' (((g1.trans g2).trans gp).step g λp hp=>.inr ?_)
 rcases Z7.mp hp with rfl | hp
 ·exact XC
 ·rw [Zk.mp hp]
  cases q:s.heap.get? s1.heap.objs.size with
  | none=>rfl
  | some o=>refine zE (g1.there _ _ q) λo' z=>?_; exact Wu (ZF (ZR XC) z)
end
section
open PySem PySem.W PySem.Calls PyProof.Rows PySem.Spec
open PySem.Float64 (decode isZero isFinite fsumAdd fsumEnd fsumTop val sgn)
theorem Od{z:Int}(h:z.natAbs<=2^52):isFinite (hf z)=true:=by
 refine G7 (Hj h) λm e hd uu=>?_
 delta isFinite; rw [hd]
theorem FU{z:Int}(h:z.natAbs<=2^52):isZero (hf z)=decide (z=0):=by
 refine G7 (Hj h) λm e hd hv=>?_
 have h1:=PySem.Float64.val_natAbs hd
 rw [hv] at h1
 delta isZero; rw [hd]
 cases m with
 | zero=>
  simp only [Nat.zero_mul] at h1
  exact(decide_eq_true ((Bx z).mp (Int.natAbs_eq_zero.mp h1))).symm
 | succ m=>
  have:z≠0:=λq=>by
   rw [q] at h1; simp only [JF,Int.natAbs_zero] at h1
   have:=Wa (Jb m) (Y4 (e+1074).toNat)
   rw [Nat.succ_eq_add_one] at this
   rw [<- h1] at this; exact Xy _ this
  exact(decide_eq_false this).symm
noncomputable def Ft(S:Int):List UInt64:=if S=0 then [] else [hf (2*S)]
theorem Nk(a b:Int):a+b-a=b:=by lia
theorem Oo{a b:Int}(ha:a.natAbs<=2^51)(hb:b.natAbs<=2^51):isZero (Wx (hf b) (Wx (WC (hf a) (hf b)) (hf a)))=true/\WC (hf a) (hf b)=hf (a+b):=by
 have h1:WC (hf a) (hf b)=hf (a+b):=NG (Bd.up ha (by decide)) (Bd.up hb (by decide)) (Bd.add ha hb (by decide))
 refine⟨?_,h1⟩
 rw [h1,Dm (a:=a+b) (b:=a) (Bd.add ha hb (by decide)) (Bd.up ha (by decide)) (by rw [Nk]; exact Bd.up hb (by decide)),Nk,Dm (Bd.up hb (by decide)) (Bd.up hb (by decide)) (Bd.sub hb hb (by decide)),FU (Bd.sub hb hb (by decide))]
 simp
theorem Zef{S n:Int}(hS:S.natAbs<=2^50)(hn:n.natAbs<=2^50):fsumAdd (Ft S) (hf (2*n))=([],hf (2*(S+n))):=by
 delta Ft
 split
 ·rename_i h; subst h; simp [fsumAdd]
 ·refine zA (Oo (a:=2*S) (b:=2*n) (Bd.dbl hS (by decide)) (Bd.dbl hn (by decide))) λz1 s1=>?_
  refine zA (Oo (a:=2*n) (b:=2*S) (Bd.dbl hn (by decide)) (Bd.dbl hS (by decide))) λz2 s2=>?_
  unfold fsumAdd
  have e1:2*S+2*n=2*(S+n):=(Int.mul_add ..).symm
  have e2:2*n+2*S=2*(S+n):=by rw [<- Int.mul_add,Int.add_comm]
  by_cases hc:Float64.lt (Float64.abs (hf (2*n))) (Float64.abs (hf (2*S)))=true
  ·first | refine YV hc ?_ | refine YT hc ?_ | rw [if_pos hc]
   dsimp only
   rw [z1,s1,e1]; simp [fsumAdd]
  ·first | refine Y6 hc ?_ | refine YR hc ?_ | rw [if_neg hc]
   dsimp only
   rw [z2,s2,e2]; simp [fsumAdd]
theorem Zee(S:Int):fsumEnd (Ft S)=hf (2*S):=by
 delta Ft
 split
 ·rename_i h; subst h; simp only [fsumEnd,List.reverse_nil,Int.mul_zero]; rw [NC]
 ·simp [fsumEnd,fsumTop]
structure IV (vals:List Zh)(ns:List Int):Prop where
 len:vals.length=ns.length
 at_:∀ (i:Nat) n,ns[i]? = some n->∃ t,vals[i]? = some (.int n t)
noncomputable def Bv(xs:List UInt64):List Zh:=xs.map λx=>Xr x.toNat
theorem HA:plainId "math.fsum.loop"=true:=by decide +kernel
theorem Ox:entryFor table "math.fsum.loop"=some Builtin.«math.fsum.loop»:=JD (by kernel_rfl)
theorem Zap:Vy "math.fsum"=none:=by decide +kernel
theorem OT:plainId "math.fsum"=true:=by decide +kernel
theorem D0:entryFor table "math.fsum"=some Builtin.«math.fsum»:=JD (by kernel_rfl)
theorem Zba(a:Zh):argsOk "math.fsum" ⟨[a],[]⟩:=by unfold argsOk; kernel_rfl
theorem KJ{n:Int}(h:(2*n).natAbs<=2^52):¬ PySem.Flt.Over n:=by
 have:2^52<2^1024-2^970:=by decide +kernel
 exact UD (Yg (Bd.half h) this)
theorem G8{B:Nat}:∀ (ns:List Int),(∀ x∈ns,x.natAbs<=B)->ns.sum.natAbs<=ns.length*B
 | [],_=>by simp
 | x::r,h=>by
  rw [XF,Vj,Nat.add_mul,J7]
  exact Bd.add (h x (.head _)) (G8 r (λy hy=>h y (.tail _ hy))) (Xw (Nat.add_comm _ _))
theorem Zex(xs:List UInt64):(Bv xs).map (λ| .int i _=>i.toNat.toUInt64 | _=>0)=xs:=by
 delta Bv
 rw [UZ]
 conv=>rhs; rw [<- List.map_id xs]
 refine List.map_congr_left λx uu=>?_
 exact UInt64.ofNat_toNat
theorem Kn{P:Zo}{xs:List UInt64}{Q:List UInt64->Zi->Prop}(h:s.heap.get? P=some (XX (Bv xs)))(k:Q xs s) :
  Zp (model PW w) A (do return ((<- Uq (.ref P)).getD #[]).toList.map λ| .int i _=>i.toNat.toUInt64 | _=>0) Q E s:=by
 refine Zf (YJ h rfl (Zm ?_))
 simp only [Option.getD_some,List.toList_toArray]
 rw [Zex]; exact k
theorem NW{xs:List UInt64}{Q:Za}(hz:xs.length<=100)(k:Q (.ref s.heap.objs.size) { s with heap:=s.heap.push (XX (Bv xs)) }):Zp (model PW w) A (newTuple (xs.map λx=>Xr x.toNat)) Q E s :=
 Xa k (by show(List.map _ xs).toArray.size<=sizeLine; rw [ZJ,YW,ZW]; exact Nat.le_add_left_of_le (by assumption))
theorem Zhn{I:Zo}{own:List Zo}{vals:List Zh}{Inv:Nat->Zi->Prop}(hI:Itr w H0 I own vals Inv){ns:List Int}(hv:IV vals ns)(hb:∀ x∈ns,x.natAbs<=2^40)(hl:ns.length<=1000)
  (hh:A.handled=none){R:Zc} :
  ∀ (n i:Nat) (s:Zi) (P Z:Zo),ns.length-i=n->i<=ns.length->Inv i s->s.heap.get? P=some (XX (Bv (Ft (ns.take i).sum)))->s.heap.get? Z=some (XX (Bv [Uh false,Uh false]))->Z≠I ->
   (∀ t s',Go H0 [I] s s'->R (.ok (.ret (.float (hf (2*ns.sum)) t))) s') ->
   Yk (model PW w) A (.builtin "math.fsum.loop" ⟨[.ref I,.ref P,.ref Z],[]⟩) R s:=by
 intro n
 induction n with
 | zero=>
  intro i s P Z hn hi hIi hP hZ hZI k
  have hil:i=ns.length:=by grind
  subst hil
  have hvn:vals[ns.length]? = none:=XS (by rw [hv.len]; omega)
  refine Wq Ox HA ?_
  refine Zf (Kn hP ?_)
  refine Zf (Kn hZ ?_)
  refine Zf (hI.done _ _ _ _ _ hh hIi hvn λs1 g1=>?_)
  dsimp only
  rw [Vi,Zee]
  refine YR (by decide +kernel) ?_
  exact Zf (wpAny_mkFloat (Zm (k _ _ (g1.trans (.ext (s:=s1) (s':={ s1 with toks:=s1.toks+1 }) (λuu uu h=>h) (Zx s1.toks 1) rfl rfl _)))))
 | succ n ih=>
  intro i s P Z hn hi hIi hP hZ hZI k
  refine Wq Ox HA ?_
  delta Builtin.«math.fsum.loop»
  obtain ⟨x,hx⟩:∃ x,ns[i]? = some x:=⟨_,ZE (by lia)⟩
  refine zE (hv.at_ i x hx) λtx hvx=>?_
  have hxb:=hb x (ZG hx)
  refine Zf (Kn hP ?_)
  refine Zf (Kn hZ ?_)
  refine Zf (hI.item _ _ _ _ i _ hh hIi hvx λs1 g1 hI1=>?_)
  refine Zf (Yc (PySem.Flt.realArg_int hh (λh=>absurd h (KJ (Bd.dbl hxb (by decide)))) λuu=>?_))
  have hS:=G8 (B:=2^40) (ns.take i) (λy hy=>hb y (List.mem_of_mem_take hy))
  have hS':(ns.take i).sum.natAbs<=1000*2^40:=Zl hS (Yn _ (by rw [Uj]; lia))
  have hT:(ns.take (i+1)).sum=(ns.take i).sum+x:=by rw [List.take_add_one,hx,List.sum_append]; simp
  rw [GQ (Bd.dbl hxb (by decide)),Zef (Bd.up hS' (by decide)) (Bd.up hxb (by decide))]
  dsimp only
  refine YT (Od (Bd.dbl (Bd.add hS' hxb (Z6 _)) (by decide))) ?_
  have e4:(if isZero (hf (2*((ns.take i).sum+x)))=true then([]:List UInt64) else []++[hf (2*((ns.take i).sum+x))])=Ft (ns.take (i+1)).sum:=by
   rw [FU (Bd.dbl (Bd.add hS' hxb (Z6 _)) (by decide)),hT]
   delta Ft
   by_cases h0:(ns.take i).sum+x=0
   ·simp [h0]
   ·have:¬ 2*((ns.take i).sum+x)=0:=by lia
    simp [h0,this]
  rw [e4]
  have gp:Go H0 [] s1 { s1 with toks:=s1.toks+1,heap:=s1.heap.push (XX (Bv (Ft (ns.take (i+1)).sum))) }:=(Go.ext (s:=s1) (s':={ s1 with toks:=s1.toks+1 }) (λuu uu h=>h) (Zx s1.toks 1) rfl rfl []).trans (Go.push (s:={ s1 with toks:=s1.toks+1 }) _)
  refine Zf (NW (by unfold Ft; split<;>simp) (Zm ⟨Wv HA _,?_⟩))
  refine ih (i+1) _ s1.heap.objs.size Z (by grind) (by lia) (hI.keep _ _ _ _ hI1 gp YC) (ZK _ rfl) (gp.nd _ _ (g1.nd _ _ hZ (λh=>hZI (Zk.mp h)) Xe) (λh=>nomatch h) Xe) hZI λt s' g=>?_
  exact k t s' (g1.trans ((gp.mono YC).trans g))
theorem Gh(S:∀ b o,H0.get? b=some o->s.heap.get? b=some o){l:Zo}{o:Xl}{vals:List Zh}{ns:List Int}(h:Wy s.heap (l,o))(hs:SqO o vals)(hv:IV vals ns)(hb:∀ x∈ns,x.natAbs<=2^40)(hl:ns.length<=1000)
  (hh:A.handled=none){Q:Za}(k:∀ t s',Go H0 [] s s'->Q (.float (hf (2*ns.sum)) t) s'):Zp (model PW w) A (call (.builtin "math.fsum") [.ref l]) Q E s:=by
 refine Bq Zap OT D0 (Zba _) ?_
 refine Zf (Xk (a:=.ref l) rfl ?_)
 refine XW (HE (w:=w) S h hs) λInv hI hit=>?_
 refine Zf (hit _ _ _ λs1 g1 i1 hz1 hp1=>?_)
 have gp1:Go H0 [] s1 { s1 with heap:=s1.heap.push (XX (Bv [])) }:=Go.push _
 refine Zf (NW (xs:=[]) (by simp) ?_)
 have gp2:Go H0 [] { s1 with heap:=s1.heap.push (XX (Bv [])) } { s1 with heap:=(s1.heap.push (XX (Bv []))).push (XX (Bv [Uh false,Uh false])) }:=Go.push (s:={ s1 with heap:=s1.heap.push (XX (Bv [])) }) _
 refine Zf (NW (xs:=[Uh false,Uh false]) (by decide) (Zm ⟨Wv HA _,?_⟩))
 refine Zhn hI hv hb hl hh _ 0 _ s1.heap.objs.size _ rfl (Yt _) (hI.keep _ _ _ _ (hI.keep _ _ _ _ i1 gp1 YC) gp2 YC) (by simpa [Ft] using (Z0 _ (ZK _ rfl))) (ZK _ rfl) ?_ λt s' g=>?_
 ·intro e
  have:=YH (h:=s1.heap) (a:=s.heap.objs.size) (o:=(s1.heap.get? s.heap.objs.size).get (Option.isSome_iff_ne_none.mpr hp1)) (by simp)
  rw [<- e,Xq] at this
  exact absurd this (Xp.mpr (Wb _))
 ·exact k t s' (((g1.trans gp1).trans gp2).step g λp hp=>.inr (by exact(Zk.mp hp)▸XC))
end
section
open PySem PySem.W PySem.Calls PyProof.Rows PySem.Spec
structure Ad2 where
 sqrt:Zo
 corr:Zo
 cov:Zo
 reg:Zo
 told:Zo
 law:Zo
 regK:Zo
 lr:Zo
 lrNew:Zo
 se:Zo
 corrK:Zo
 rank:Zo
inductive Zfj (K:Frag)(C:Zo)(bmB:List Zh)(newId:String):Prop
 | mk {bm:List Zh} {N:Zo} {nm qn:Yz} {bs:List Zh} {hdct:Bool} {sn:List Yz} {sub:List Zh} {ab:Bool} {col:Option Bool} {dd:Option Zo} {k0 k1 k2 k3 k5:Option Zh} (h:K.lookup C=some (excClassObj nm qn C N bs bm hdct sn sub ab col dd k0 k1 k2 k3 k5 newId))
  (hok:nsOkIn K N=true)(hni:nsIn K N "__init__"=some none)(ht:tailIn K bmB bm=true):Zfj K C bmB newId
noncomputable abbrev KG(K:Frag)(b:Ad2):Prop :=
 Vo K b.sqrt "_sqrtprod" Ziz .none .none/\Vo K b.corr "correlation" Wh .none (.ref b.corrK)/\Vo K b.cov "covariance" Gf .none .none/\Vo K b.reg "linear_regression" Us .none (.ref b.regK)/\Vo K b.lrNew "LinearRegression.__new__" Zeo .none .none/\nsIn K Zw "fsum"=some (some (.builtin "math.fsum"))/\nsIn K Zw "isfinite"=some (some (.builtin "math.isfinite"))/\nsIn K Zw "sqrt"=some (some (.builtin "math.sqrt"))/\nsIn K Zw "sumprod"=some (some (.builtin "math.sumprod"))/\nsIn K Zw "_rank"=some (some (.ref b.rank))/\keepIn K (.ref b.rank)=true/\nsIn K Zw "_sqrtprod"=some (some (.ref b.sqrt))/\keepIn K (.ref b.sqrt)=true/\(∃ t,nsIn K b.corrK "method"=some (some (.str "linear" t)))/\nsIn K Zw "StatisticsError"=some (some (.ref b.se))/\Zfj K b.se [.type "ValueError",.type "Exception",.type "BaseException",.type "object"] "ValueError.__new__"/\findIn K (.ref b.se) "__str__"=some (some (.builtin "BaseException.__str__"))/\mroIn K b.se (.type "BaseException")=some true/\nsIn K Zw "correlation"=some (some (.ref b.corr))/\nsIn K Zw "covariance"=some (some (.ref b.cov))/\nsIn K Zw "linear_regression"=some (some (.ref b.reg))/\nsIn K Zw "LinearRegression"=some (some (.ref b.lr))/\nsIn K b.regK "proportional"=some (some (.bool false))/\nsIn K Zw "_law_told"=some (some (.ref b.told))/\keepIn K (.ref b.corr)=true/\keepIn K (.ref b.cov)=true/\keepIn K (.ref b.reg)=true/\keepIn K (.ref b.told)=true/\nsIn K Zw "ValueError"=some none/\nsIn K Zw "chr"=some none/\nsIn K Zw "ZeroDivisionError"=some none/\nsIn K Zw "min"=some none/\nsIn K Zw "max"=some none/\nsIn K Zw "abs"=some none/\nsIn K Zw "sum"=some none/\nsIn K Zw "str"=some none/\nsIn K Zw "len"=some none/\nsIn K Zw "type"=some none/\nsIn K Zw "float"=some none/\nsIn K Zw "zip"=some none/\nsIn K Zw "list"=some none
section
variable {b:Ad2}(F:KG K b)
include F
theorem KG.sqrt:Vo K b.sqrt "_sqrtprod" Ziz .none .none:=F.1
theorem KG.corr:Vo K b.corr "correlation" Wh .none (.ref b.corrK):=F.2.1
theorem KG.cov:Vo K b.cov "covariance" Gf .none .none:=F.2.2.1
theorem KG.reg:Vo K b.reg "linear_regression" Us .none (.ref b.regK):=F.2.2.2.1
theorem KG.lrn:Vo K b.lrNew "LinearRegression.__new__" Zeo .none .none:=F.2.2.2.2.1
theorem KG.nfsum:nsIn K Zw "fsum"=some (some (.builtin "math.fsum")):=F.2.2.2.2.2.1
theorem KG.nisfin:nsIn K Zw "isfinite"=some (some (.builtin "math.isfinite")):=F.2.2.2.2.2.2.1
theorem KG.nsqrt:nsIn K Zw "sqrt"=some (some (.builtin "math.sqrt")):=F.2.2.2.2.2.2.2.1
theorem KG.nsump:nsIn K Zw "sumprod"=some (some (.builtin "math.sumprod")):=F.2.2.2.2.2.2.2.2.1
theorem KG.nrank:nsIn K Zw "_rank"=some (some (.ref b.rank)):=F.2.2.2.2.2.2.2.2.2.1
theorem KG.krank:keepIn K (.ref b.rank)=true:=F.2.2.2.2.2.2.2.2.2.2.1
theorem KG.nsqp:nsIn K Zw "_sqrtprod"=some (some (.ref b.sqrt)):=F.2.2.2.2.2.2.2.2.2.2.2.1
theorem KG.ksqp:keepIn K (.ref b.sqrt)=true:=F.2.2.2.2.2.2.2.2.2.2.2.2.1
theorem KG.dmeth:∃ t,nsIn K b.corrK "method"=some (some (.str "linear" t)):=F.2.2.2.2.2.2.2.2.2.2.2.2.2.1
theorem KG.nse:nsIn K Zw "StatisticsError"=some (some (.ref b.se)):=F.2.2.2.2.2.2.2.2.2.2.2.2.2.2.1
theorem KG.exc:Zfj K b.se [.type "ValueError",.type "Exception",.type "BaseException",.type "object"] "ValueError.__new__":=F.2.2.2.2.2.2.2.2.2.2.2.2.2.2.2.1
theorem KG.sestr:findIn K (.ref b.se) "__str__"=some (some (.builtin "BaseException.__str__")):=F.2.2.2.2.2.2.2.2.2.2.2.2.2.2.2.2.1
theorem KG.semro:mroIn K b.se (.type "BaseException")=some true:=F.2.2.2.2.2.2.2.2.2.2.2.2.2.2.2.2.2.1
theorem KG.ncorr:nsIn K Zw "correlation"=some (some (.ref b.corr)):=F.2.2.2.2.2.2.2.2.2.2.2.2.2.2.2.2.2.2.1
theorem KG.ncov:nsIn K Zw "covariance"=some (some (.ref b.cov)):=F.2.2.2.2.2.2.2.2.2.2.2.2.2.2.2.2.2.2.2.1
theorem KG.nreg:nsIn K Zw "linear_regression"=some (some (.ref b.reg)):=F.2.2.2.2.2.2.2.2.2.2.2.2.2.2.2.2.2.2.2.2.1
theorem KG.nlr:nsIn K Zw "LinearRegression"=some (some (.ref b.lr)):=F.2.2.2.2.2.2.2.2.2.2.2.2.2.2.2.2.2.2.2.2.2.1
theorem KG.dprop:nsIn K b.regK "proportional"=some (some (.bool false)):=F.2.2.2.2.2.2.2.2.2.2.2.2.2.2.2.2.2.2.2.2.2.2.1
theorem KG.ntold:nsIn K Zw "_law_told"=some (some (.ref b.told)):=F.2.2.2.2.2.2.2.2.2.2.2.2.2.2.2.2.2.2.2.2.2.2.2.1
theorem KG.kcorr:keepIn K (.ref b.corr)=true:=F.2.2.2.2.2.2.2.2.2.2.2.2.2.2.2.2.2.2.2.2.2.2.2.2.1
theorem KG.kcov:keepIn K (.ref b.cov)=true:=F.2.2.2.2.2.2.2.2.2.2.2.2.2.2.2.2.2.2.2.2.2.2.2.2.2.1
theorem KG.kreg:keepIn K (.ref b.reg)=true:=F.2.2.2.2.2.2.2.2.2.2.2.2.2.2.2.2.2.2.2.2.2.2.2.2.2.2.1
theorem KG.ktold:keepIn K (.ref b.told)=true:=F.2.2.2.2.2.2.2.2.2.2.2.2.2.2.2.2.2.2.2.2.2.2.2.2.2.2.2.1
theorem KG.nve:nsIn K Zw "ValueError"=some none:=F.2.2.2.2.2.2.2.2.2.2.2.2.2.2.2.2.2.2.2.2.2.2.2.2.2.2.2.2.1
theorem KG.nchr:nsIn K Zw "chr"=some none:=F.2.2.2.2.2.2.2.2.2.2.2.2.2.2.2.2.2.2.2.2.2.2.2.2.2.2.2.2.2.1
theorem KG.nzde:nsIn K Zw "ZeroDivisionError"=some none:=F.2.2.2.2.2.2.2.2.2.2.2.2.2.2.2.2.2.2.2.2.2.2.2.2.2.2.2.2.2.2.1
theorem KG.nmin:nsIn K Zw "min"=some none:=F.2.2.2.2.2.2.2.2.2.2.2.2.2.2.2.2.2.2.2.2.2.2.2.2.2.2.2.2.2.2.2.1
theorem KG.nmax2:nsIn K Zw "max"=some none:=F.2.2.2.2.2.2.2.2.2.2.2.2.2.2.2.2.2.2.2.2.2.2.2.2.2.2.2.2.2.2.2.2.1
theorem KG.nabs:nsIn K Zw "abs"=some none:=F.2.2.2.2.2.2.2.2.2.2.2.2.2.2.2.2.2.2.2.2.2.2.2.2.2.2.2.2.2.2.2.2.2.1
theorem KG.nsum:nsIn K Zw "sum"=some none:=F.2.2.2.2.2.2.2.2.2.2.2.2.2.2.2.2.2.2.2.2.2.2.2.2.2.2.2.2.2.2.2.2.2.2.1
theorem KG.nstr:nsIn K Zw "str"=some none:=F.2.2.2.2.2.2.2.2.2.2.2.2.2.2.2.2.2.2.2.2.2.2.2.2.2.2.2.2.2.2.2.2.2.2.2.1
theorem KG.nlen2:nsIn K Zw "len"=some none:=F.2.2.2.2.2.2.2.2.2.2.2.2.2.2.2.2.2.2.2.2.2.2.2.2.2.2.2.2.2.2.2.2.2.2.2.2.1
theorem KG.ntype2:nsIn K Zw "type"=some none:=F.2.2.2.2.2.2.2.2.2.2.2.2.2.2.2.2.2.2.2.2.2.2.2.2.2.2.2.2.2.2.2.2.2.2.2.2.2.1
theorem KG.nfloat2:nsIn K Zw "float"=some none:=F.2.2.2.2.2.2.2.2.2.2.2.2.2.2.2.2.2.2.2.2.2.2.2.2.2.2.2.2.2.2.2.2.2.2.2.2.2.2.1
theorem KG.nzip2:nsIn K Zw "zip"=some none:=F.2.2.2.2.2.2.2.2.2.2.2.2.2.2.2.2.2.2.2.2.2.2.2.2.2.2.2.2.2.2.2.2.2.2.2.2.2.2.2.1
theorem KG.nlist2:nsIn K Zw "list"=some none:=F.2.2.2.2.2.2.2.2.2.2.2.2.2.2.2.2.2.2.2.2.2.2.2.2.2.2.2.2.2.2.2.2.2.2.2.2.2.2.2.2
end
noncomputable def Np:UInt64:=0x4000000000000000
noncomputable def hF(x y:UInt64):UInt64:=UN (X3 x y)
noncomputable def BQ(x y:UInt64):UInt64:=if Yp (hF x y)=true then hF x y else WC (hF x y) (X4 (JQ [(x,y),(hF x y,U1 (hF x y))]) (X3 Np (hF x y)))
structure Zig (x y:UInt64):Prop where
 nan:¬ (Float64.isNaN (hF x y) && !Float64.isNaN (X3 x y))=true
 fin:Float64.isFinite (hF x y)=true
 zero:Yp (hF x y)=true->Yp x=true\/Yp y=true
 ok:Yp (hF x y)≠true->Gk [(x,y),(hF x y,U1 (hF x y))] z3/\Yp (X3 Np (hF x y))=false
section
variable {b:Ad2}
theorem fv2{x y:UInt64}{t u:W7}:FV [.float x t,.float y u] [x,y]:=⟨rfl,λi z h=>by
 match i with
 | 0=>obtain rfl:=Zz h; exact⟨t,rfl⟩
 | 1=>obtain rfl:=Zz h; exact⟨u,rfl⟩
 | n+2=>exact Wu h⟩
theorem Fp(G:Gl K H0 mg mb)(F:KG K b)(S:St H0 A l s){x y:UInt64}{t u:W7}(ok:Zig x y)(hroom:A.depth<Zr)(hh:A.handled=none){Q:Za}
  (k:∀ t s',Go H0 [] s s'->Q (.float (BQ x y) t) s'):Zp (model PW w) A (call (.ref b.sqrt) [.float x t,.float y u]) Q E s:=by
 refine Y7 (Ub (binds:=[(Zj "x",.float x t),(Zj "y",.float y u)]) G S F.sqrt [] [] YC Un hroom (λuu uu uu uu uu uu=>YG rfl) (by decide) (locs rfl) λL cdv s1 uu C=>?_)
 refine Zg (Zv (Xj (C.global G F.nsqrt (Wi (Zq (ZH (C.name rfl (C.name rfl (mul_float (ZC ?_))))))))))
 refine PySem.Flt.call_sqrt_float hh (λh=>absurd h ok.nan) λuu=>?_
 refine(C.tok 2).set λs2 C2=>?_
 refine Zg (Yv (Xg (ZY (Xj (C2.global G F.nisfin (Wi (Zq (C2.name rfl (ZC (PySem.Flt.call_isfinite_float (Zu ?_)))))))))))
 refine Y6 (by rw [show Float64.isFinite (UN (X3 x y))=true from ok.fin]; rfl) (Z4 ?_)
 refine Zg (Yv (Xg (ZY (C2.name rfl (AutoFloatOps.truthy_0 ?_)))))
 by_cases hz:Yp (hF x y)=true
 ·have hz':Yp (UN (X3 x y))=true:=hz
  refine YV (by rw [hz']; rfl) ?_
  refine Zg (Yv (UA (V8 (ZY (C2.name rfl (AutoFloatOps.truthy_0 ?_))))))
  have kk:∀ tt,Q (.float (UN (X3 x y)) tt) s2:=λtt=>by
   have:=k tt s2 C2.go
   unfold BQ at this
   rw [if_pos hz] at this; exact this
  by_cases hx:Yp x=true
  ·refine Y6 (by rw [hx]; rfl) ?_
   refine Y6 rfl ?_
   exact Z4 (Zg (Ym (C2.name rfl (kk _))))
  ·have hy:Yp y=true:=(ok.zero hz).resolve_left hx
   refine YV (by rw [eq_false_of_ne_true hx]; rfl) ?_
   refine V8 (ZY (C2.name rfl (AutoFloatOps.truthy_0 ?_)))
   refine Y6 (by rw [hy]; rfl) ?_
   refine Y6 rfl ?_
   exact Z4 (Zg (Ym (C2.name rfl (kk _))))
 ·have hz':Yp (UN (X3 x y))=false:=eq_false_of_ne_true hz
  refine zA (ok.ok hz) λok1 ok2=>?_
  refine Y6 (by rw [hz']; rfl) (Z4 ?_)
  refine Zg (Zv (Xj (C2.global G F.nsump (Zs ?_))))
  refine Zq (U7 ?_)
  refine Zq (C2.name (v:=.float x t) rfl (Zq (C2.name (v:=.float (UN (X3 x y)) (s1.toks+1)) rfl (ZC ⟨_,_,_,_,_,_,_,_,C2,by rw [ZW]; show 2<=_; decide,λt1 s3 C3 n1 n1'=>?_⟩))))
  refine Zq (U7 ?_)
  refine Zq (C3.name (v:=.float y u) rfl (Zq (Uu (C3.name (v:=.float (UN (X3 x y)) (s1.toks+1)) rfl (neg_float (ZC ⟨_,_,_,_,_,_,_,_,C3.tok 1,by rw [ZW]; show 2<=_; decide,λt2 s4 C4 n2 n2'=>ZC ?_⟩))))))
  refine VA (H0:=H0) C4.st.glob (C4.ok 1 rfl) (C4.ok 0 rfl) (.inr rfl) (.inr rfl) fv2 fv2 rfl (by show 0<2; decide) ok1 (by exact hh) λt3 s5 g5=>?_
  have C5:=C4.call g5
  refine C5.set λs6 C6=>?_
  refine Zg (Ym (ZH (C6.name rfl (ZH (C6.name rfl (ZH (Xf ((C6.tok 1).name rfl (mul_float (truediv_float_or (by exact hh) (λh=>?_) λuu=>add_float ?_))))))))))
  ·have h2:Yp (X3 Np (hF x y))=true:=h
   exact absurd (ZF (ZR ok2) h2) Zn
  ·have:=k (s6.toks+1+1+1) _ (C6.tok 4).go
   unfold BQ at this
   rw [if_neg hz] at this
   exact this
end
theorem Vo.of{K:Frag}{f:Zo}{qual:Yz}{d:WE×List JL×US}{dV kV:Zh}{name:Yz}{doc pm:Zh}{an:Option Zo}{cdv ct oc:Zh}{od:Option Zo}{osl:Array (Option Zh)}
  (h:K.lookup f=some ⟨oc,od,.func (JC name qual d.1 d.2.1 d.2.2 dV kV doc pm an cdv ct),osl⟩)(h2:codeIn K cdv qual=true):Vo K f qual d dV kV:=⟨[],_,_,_,_,_,_,_,_,_,h,h2,.inl rfl⟩
theorem Vo.ofDoc{K:Frag}{f:Zo}{qual:Yz}{d:WE×List JL×US}{dV kV:Zh}{name:Yz}{doc pm:Zh}{an:Option Zo}{cdv ct oc:Zh}{od:Option Zo}{osl:Array (Option Zh)}
  (h:K.lookup f=some ⟨oc,od,.func (JC name qual d.1 d.2.1 d.2.2 dV kV doc pm an cdv ct),osl⟩)(h2:codeIn K cdv qual=true){x:Yz}{k:Nat}{p q:V7}{r:List JL}(e:d.2.1 = .Expr (.Constant (.str x) k p) q::r):Vo K f qual (BW d) dV kV :=
 ⟨[.Expr (.Constant (.str x) k p) q],_,_,_,_,_,_,_,_,_,by rw [h]; unfold BW; rw [e]; rfl,h2,.inr ⟨_,_,_,_,rfl⟩⟩
theorem W6.of{K:Frag}{c:Zo}{name:Yz}{i:Nat}{p:Zo}(h1:findIn K (.ref c) name=some (some (.ref p)))(h2:specialIn K (.ref p) "__get__"=some (some (.builtin "member_descriptor.__get__")))(h3:takesIn K (.ref p)=some true)
  (h4:takerIn K c name=some (some (.ref p)))(h5:typeIn K (.ref p)=some (.type "member_descriptor"))(h6:slotIn K p c=some i)(h7:i<1000):W6 K c name i:=⟨⟨p,h1,h2,h3,h4,h5,h6⟩,h7⟩
noncomputable def aA:Tf:=⟨119,126,167,142,149,156,163,212,194,201,208,224,265,240,247,254,310,285,292,321,135,233,314⟩
theorem kfH(P:JV):KF (kH P) aA:=by
 refine⟨?_,?_,?_,?_,?_,?_,?_,?_,?_,?_,?_,?_,?_,?_,?_,?_,?_,?_,?_,?_,?_,?_,?_,?_,?_,?_,?_,?_,?_,?_,?_,?_,?_,?_,?_,?_,?_,?_,?_,?_,?_,?_,?_,?_,?_,?_,?_,?_,?_,?_,?_,?_,?_,?_,?_,?_,?_,?_,?_,?_,?_,?_,?_,?_,?_,?_,?_,?_,?_,?_,?_,?_,?_,?_,?_,?_,?_,?_,?_,?_,?_,?_,?_,?_,?_⟩
 all_goals first
  | kernel_rfl
  | exact Vo.of (by with_unfolding_all rfl) (by kernel_rfl)
  | exact Vo.ofDoc (d:=TH) (by with_unfolding_all rfl) (by kernel_rfl) rfl
  | exact Vo.ofDoc (d:=H7) (by with_unfolding_all rfl) (by kernel_rfl) rfl
  | exact Vo.ofDoc (d:=H8) (by with_unfolding_all rfl) (by kernel_rfl) rfl
  | exact W6.of (by with_unfolding_all rfl) (by kernel_rfl) (by kernel_rfl) (by kernel_rfl) (by kernel_rfl) (by kernel_rfl) (by decide)
  | exact⟨_,_,by with_unfolding_all rfl,by with_unfolding_all rfl⟩
  | exact⟨_,_,_,_,by with_unfolding_all rfl,by with_unfolding_all rfl⟩
  | exact⟨_,by with_unfolding_all rfl⟩
  | (constructor<;>kernel_rfl)
noncomputable def aB:Ad2:=⟨328,341,335,418,425,430,413,409,359,102,336,321⟩
theorem kgH(P:JV):KG (kH P) aB:=by
 refine⟨?_,?_,?_,?_,?_,?_,?_,?_,?_,?_,?_,?_,?_,?_,?_,?_,?_,?_,?_,?_,?_,?_,?_,?_,?_,?_,?_,?_,?_,?_,?_,?_,?_,?_,?_,?_,?_,?_,?_,?_,?_⟩
 all_goals first
  | kernel_rfl
  | exact Vo.ofDoc (d:=TG) (by with_unfolding_all rfl) (by kernel_rfl) rfl
  | exact Vo.ofDoc (d:=TJ) (by with_unfolding_all rfl) (by kernel_rfl) rfl
  | exact Vo.ofDoc (d:=Zcr) (by with_unfolding_all rfl) (by kernel_rfl) rfl
  | exact Vo.ofDoc (d:=Zcp) (by with_unfolding_all rfl) (by kernel_rfl) rfl
  | exact Vo.ofDoc (d:=K8) (by with_unfolding_all rfl) (by kernel_rfl) rfl
  | exact⟨_,by with_unfolding_all rfl⟩
  | exact Zfj.mk (by with_unfolding_all rfl) (by kernel_rfl) (by kernel_rfl) (by kernel_rfl)
noncomputable abbrev UM(v:Option Zh):Xl:={ cls:=.type "cell",data:=.cell v }
noncomputable def VJ(cs:List (Yz×Zo))(cm:Ze):Zd:=cs.map λx=>(x.2,UM (cm x.1))
theorem Cx.setCell(C:Cx H0 A l M sE L m led s){x:Yz}{v:Zh}{c:Zo}{v₀:Option Zh}{Q:Unit->Zi->Prop}(i:Nat)(hi:led[i]? = some (c,UM v₀))(hc:env.cells.lookup x=some c)(hM:c∈M\/sE.heap.get? c=none)(hH:H0.get? c=none)
  (h:∀ s',Cx H0 A l M sE L m (led.set i (c,UM (some v))) s'->Q () s')(hk:env.scope.kind = .function:=by rfl)(hl:env.kindOf x=some .cell:=by rfl):Zp MM A (V6 env x v) Q E s:=by
 delta V6
 rw [hl]
 show Zp MM A (if(env.scope.kind == .class&&(some NameKind.cell==some NameKind.cell))=true then localSet env x v else do cellSet (<- cellOf env x) (some v)) Q E s
 rw [hk]
 refine Zf (wpAny_cellOf hc ?_)
 refine Zf (wpAny_load (C.at i hi) ?_)
 refine wpAny_update (C.at i hi) (h _ ?_)
 exact C.upd i (f:=λo=>{ o with data:=.cell (some v) }) hi rfl Sj rfl hM hH
theorem Cx.ldCell(C:Cx H0 A l M sE L m led s){x:Yz}{pos:V7}{v:Zh}{c:Zo}{Q:Za}(i:Nat)(hi:led[i]? = some (c,UM (some v)))(hc:env.cells.lookup x=some c)(h:Q v s)
  (hk:env.scope.kind = .function:=by rfl)(hl:env.kindOf x=some .cell:=by rfl)(hb:(x==("__debug__" : Yz))=false:=by decide):Zp MM A (eval (.Name x pos) env) Q E s :=
 wpAny_Name (wpAny_loadName_cell hk hl hc ⟨_,C.at i hi,rfl⟩ h) hb
theorem Cx.ldFree(C:Cx H0 A l M sE L m led s){x:Yz}{pos:V7}{v:Zh}{c:Zo}{Q:Za}(i:Nat)(hi:led[i]? = some (c,UM (some v)))(hc:env.cells.lookup x=some c)(h:Q v s)
  (hk:env.scope.kind = .function:=by rfl)(hl:env.kindOf x=some .free:=by rfl)(hb:(x==("__debug__" : Yz))=false:=by decide)(hn:(x==("__classdict__" : Yz))=false:=by decide):Zp MM A (eval (.Name x pos) env) Q E s :=
 wpAny_Name (wpAny_loadName_free hk hl hc ⟨_,C.at i hi,rfl⟩ h hn) hb
theorem Zdn{cs:List (Yz×Zo)}(hn:(cs.map (λuu=>uu.1)).Nodup){cm:Ze}{x:Yz}{v:Zh}{c:Zo}(hc:cs.lookup x=some c) :
  ∃ i,(VJ cs cm)[i]? = some (c,UM (cm x))/\(VJ cs cm).set i (c,UM (some v))=VJ cs (Jh cm x v):=by
 induction cs with
 | nil=>exact Wu hc
 | cons p r ih=>
  obtain ⟨n,a⟩:=p
  rw [YD,XT] at hn
  rw [List.lookup_cons] at hc
  cases hb:x==n with
  | true=>
   rw [hb] at hc
   cases hc
   have e:x=n:=beq_iff_eq.mp hb
   subst e
   refine⟨0,rfl,?_⟩
   show(c,UM (some v))::VJ r cm=(c,UM (if x=x then some v else cm x))::VJ r (Jh cm x v)
   first | refine YV rfl ?_ | refine YT rfl ?_ | rw [if_pos rfl]
   congr 1
   refine List.map_congr_left λy hy=>?_
   have:y.1≠x:=λe=>hn.1 (e▸XG (f:=(λuu=>uu.1)) hy)
   simp only [if_neg this]
  | false=>
   rw [hb] at hc
   refine XW (ih hn.2 hc) λi h1 h2=>?_
   refine⟨i+1,h1,?_⟩
   have:n≠x:=λe=>by rw [e] at hb; simp at hb
   show(a,UM (cm n))::(VJ r cm).set i (c,UM (some v))=(a,UM (if n=x then some v else cm n))::VJ r (Jh cm x v)
   rw [h2,if_neg this]
theorem NX(f:Yz×Zh->PUnit->Sem (ForInStep PUnit))(hf:∀ n v u,f (n,v) u=(do V6 env n v; pure (.yield ⟨⟩)))(hk:env.scope.kind = .function)(hL:env.locals=L)(hnd:(env.cells.map (λuu=>uu.1)).Nodup)
  (hM:∀ x∈env.cells,sE.heap.get? x.2=none/\H0.get? x.2=none) :
  ∀ (binds:List (Yz×Zh)) (m cm:Ze) (s:Zi) (Q:PUnit->Zi->Prop),Cx H0 A l M sE L m (VJ env.cells cm++led) s ->
   (∀ x∈binds,env.kindOf x.1=some .local\/(env.kindOf x.1=some .cell/\(env.cells.lookup x.1).isSome=true)) ->
   (∀ s',Cx H0 A l M sE L (bindL env.kindOf binds m) (VJ env.cells (bindC env.kindOf binds cm)++led) s'->Q ⟨⟩ s')->Zp MM A (forIn binds ⟨⟩ f) Q E s
 | [],m,cm,s,Q,C,_,h=>by exact Zm (h s C)
 | (n,v)::r,m,cm,s,Q,C,hkind,h=>by
  rw [JK,hf]
  have hr:∀ y∈r,env.kindOf y.1=some .local\/(env.kindOf y.1=some .cell/\(env.cells.lookup y.1).isSome=true):=λy hy=>hkind y (UY _ hy)
  rcases hkind (n,v) List.mem_cons_self with hl | ⟨hl,hc⟩
  ·refine Zf (Zf (C.store (env:=env) hL (λs' C'=>Zm (NX f hf hk hL hnd hM r _ _ s' Q C' hr λs'' C''=>h s'' ?_)) hl (by rw [hk]; rfl)))
   unfold bindL bindC; rw [if_pos hl,if_pos hl]; exact C''
  ·refine zE (Option.isSome_iff_exists.mp hc) λc hc=>?_
   have hnl:¬ env.kindOf n=some .local:=by rw [hl]; decide
   refine XW (Zdn (cm:=cm) (v:=v) hnd hc) λi h1 h2=>?_
   have hil:i<(VJ env.cells cm).length:=(Z5.mp h1).1
   have hcm:=hM _ (mem_of_lookup hc)
   refine Zf (Zf (C.setCell i (by exact ZF (YK hil) (h1)) hc (.inr hcm.1) hcm.2 (λs' C'=>Zm (NX f hf hk hL hnd hM r m (Jh cm n v) s' Q (by rw [List.set_append_left _ _ hil,h2] at C'; exact C') hr λs'' C''=>h s'' (by unfold bindL bindC; rw [if_neg hnl,if_neg hnl]; exact C''))) hk hl))
theorem Hp:∀ (names:List (Yz×NameKind)) (h:Xx) (lo:Nat) (acc:List (Yz×Zo)),(∀ x∈acc,h.get? x.2=some (UM none)/\lo<=x.2)->(acc.map (λuu=>uu.2)).Nodup->lo<=h.objs.size ->
  (∀ x∈Xi h.objs.size names acc,(pushCells h names).get? x.2=some (UM none)/\lo<=x.2)/\((Xi h.objs.size names acc).map (λuu=>uu.2)).Nodup
 | [],_,_,_,x,hn,_=>⟨x,hn⟩
 | (name,kind)::r,h,lo,acc,x,hn,hlo=>by
  unfold pushCells Xi
  split
  ·have:=Hp r (h.push (UM none)) lo ((name,h.objs.size)::acc) (λy hy=>by
    rcases Z7.mp hy with rfl | hy
    ·exact⟨ZK _ rfl,hlo⟩
    ·exact⟨Z0 _ (x y hy).1,(x y hy).2⟩) (by
    rw [YD]
    refine XT.mpr ⟨λhm=>?_,hn⟩
    refine XW (ZZ.mp hm) λy hy e=>?_
    have:=YH (x y hy).1
    rw [e] at this
    exact Xy _ this) (by rw [Xq]; exact Nat.le_succ_of_le hlo)
   rwa [Xq] at this
  ·exact Hp r h lo acc x hn hlo
theorem Zei{R:Zc}{f:Zo}{qual:Yz}{d:WE×List JL×US}{dV kV:Zh}{args:Args}{pre:List JL}{name:Yz}{doc pm:Zh}{an:Option Zo}{cdv ct:Zh}{oc:Zh}{od:Option Zo}{osl:Array (Option Zh)}{B:W7->List (Yz×Zh)}{led:Zd}(G:Gl K H0 mg mb)(S:St H0 A l s)
  (ho:K.lookup f=some ⟨oc,od,.func (JC name qual d.1 (pre++d.2.1) d.2.2 dV kV doc pm an cdv ct),osl⟩)(hpre:Pre pre)(hcd:codeIn K cdv qual=true)(M:List Zo)(hroom:A.depth<Zr)(hnd:∀ n,((Xi n d.2.2.names []).map (λuu=>uu.1)).Nodup)
  (hB:∀ (Q:List (Yz×Zh)->Zi->Prop)(E':Za),(∀ t,Q (B t) s)->Zp (model PW w) A.in1 (bindArgs (JC name qual d.1 d.2.1 d.2.2 dV kV doc pm an cdv ct) args) Q E' s)
  (hkind:∀ t n,∀ x∈B t,d.2.2.names.lookup x.1=some .local\/(d.2.2.names.lookup x.1=some .cell/\((Xi n d.2.2.names []).lookup x.1).isSome=true))(L0:Lg s.heap led)
  (h:∀ L t s',Cx H0 (A.deeper (Y3 qual d.2.2 L f cdv)) (Y3 qual d.2.2 L f cdv::l) M s L (bindL (Y3 qual d.2.2 L f cdv).kindOf (B t) λuu=>none) (VJ (Xi (L+1) d.2.2.names []) (bindC (Y3 qual d.2.2 L f cdv).kindOf (B t) λuu=>none)++led) s' ->
   (∀ x∈Xi (L+1) d.2.2.names [],Nw H0 s x.2) ->
   Zp (model PW w) (A.deeper (Y3 qual d.2.2 L f cdv)) (execs d.2.1 (Y3 qual d.2.2 L f cdv)) (Nz R) (Fx w (A.deeper (Y3 qual d.2.2 L f cdv)) (Y3 qual d.2.2 L f cdv) R) s')
  (hco:d.2.2.isCoroutine=false)(hgen:d.2.2.isGenerator=false)(hk:d.2.2.kind = .function) :
  Yk (model PW w) A (.call (.ref f) args) R s:=by
 refine codeAny_call_function (fd:=JC name qual d.1 (pre++d.2.1) d.2.2 dV kV doc pm an cdv ct) hroom (S.X G _ _ ho) rfl hco hgen rfl (codeRec_of (S.X G) hcd) (hB _ _ λt=>?_)
 simp only [newFunctionEnv,Option.isSome_none,UH,if_false]
 refine Zf (wpAny_alloc ?_)
 refine Zf (wpAny_layCells _ (λname kind cells=>by cases hkc:kind==NameKind.cell<;>simp [hkc]) _ _ _ _ ?_)
 have hsz:(s.heap.push { cls:=.type "frame",data:=.dict #[] }).objs.size=s.heap.objs.size+1:=Xq ..
 rw [show({ s with heap:=s.heap.push { cls:=.type "frame",data:=.dict #[] } }:Zi).heap.objs.size=s.heap.objs.size+1 from hsz]
 refine zA (Hp d.2.2.names (s.heap.push { cls:=.type "frame",data:=.dict #[] }) (s.heap.objs.size+1) [] YC Un (Xw hsz.symm)) λcm1 cm2=>?_
 rw [hsz] at cm1 cm2
 have keep:∀ b o,s.heap.get? b=some o->(pushCells (s.heap.push { cls:=.type "frame",data:=.dict #[] }) d.2.2.names).get? b=some o:=λb o e=>pushCells_keeps _ _ b o (Z0 _ e)
 have hs1:∀ {x:Zo},s.heap.objs.size<=x->s.heap.get? x=none:=λ{x} hx=>by
  cases q:s.heap.get? x with
  | none=>rfl
  | some o=>exact absurd (YH q) (Xp.mpr hx)
 have hH0:∀ {x:Zo},s.heap.objs.size<=x->H0.get? x=none:=λ{x} hx=>by
  cases q:H0.get? x with
  | none=>rfl
  | some o=>exact absurd (YH (S.glob _ _ q)) (Xp.mpr hx)
 have hcl:∀ x∈Xi (s.heap.objs.size+1) d.2.2.names [],s.heap.objs.size<=x.2:=λx hx=>Nat.le_of_succ_le (cm1 x hx).2
 generalize hhp:pushCells (s.heap.push { cls:=.type "frame",data:=.dict #[] }) d.2.2.names=hp at cm1 keep
 have gg:Go H0 [] s { s with heap:=hp }:=Go.ext (s:=s) (s':={ s with heap:=hp }) keep (Z6 _) rfl rfl _
 have C0:Cx H0 A l M s s.heap.objs.size (λuu=>none) (VJ (Xi (s.heap.objs.size+1) d.2.2.names []) (λuu=>none)++led) { s with heap:=hp }:=by
  refine⟨S.go gg,gg.mono YC,?_,hs1 (Z6 _),hH0 (Z6 _),λp hp'=>?_,λp hp'=>?_,?_⟩
  ·exact hhp▸(Heap.Ns.new s.heap (.type "frame")).keeps (pushCells_keeps _ _)
  ·rcases Xn.mp hp' with h1 | h1
   ·refine XW (ZZ.mp h1) λx hx zr=>?_; obtain rfl:=zr
    exact .of (cm1 x hx).1 Sj rfl
   ·have:=L0.has p h1
    exact⟨keep _ _ this.at_,this.nd,λdx e=>by refine XW (this.dx dx e) λo e1 e2=>?_; exact⟨o,keep _ _ e1,e2⟩⟩
  ·rcases Xn.mp hp' with h1 | h1
   ·refine XW (ZZ.mp h1) λx hx zr=>?_; obtain rfl:=zr
    exact λe=>(nomatch e)
   ·intro e
    refine XW ((L0.has p h1).dx _ e) λo e1 e2=>?_
    exact Xy _ (YH e1)
  ·rw [WZ]
   refine List.nodup_append.mpr ⟨?_,L0.nodup,λa ha b hb e=>?_⟩
   ·have:(VJ (Xi (s.heap.objs.size+1) d.2.2.names []) λuu=>none).map (λuu=>uu.1)=(Xi (s.heap.objs.size+1) d.2.2.names []).map (λuu=>uu.2):=by unfold VJ; rw [UZ]; rfl
    exact this▸cm2
   ·refine XW (ZZ.mp ha) λp hp1 zr=>?_; obtain rfl:=zr
    refine XW (ZZ.mp hp1) λx hx zr=>?_; obtain rfl:=zr
    refine XW (ZZ.mp hb) λq hq e2=>?_
    have e3:q.1=x.2:=e2.trans e.symm
    exact UC (hcl x hx) (e3▸YH (L0.has q hq).at_)
 refine Zf (NX (env:=Y3 qual d.2.2 s.heap.objs.size f cdv) _ (λuu uu uu=>rfl) hk rfl (hnd _) (λx hx=>⟨hs1 (hcl x hx),hH0 (hcl x hx)⟩) (B t) (λuu=>none) (λuu=>none) _ _ (C0.around (A':=A.in1) rfl) (hkind t _) λs' C'=>Zm ⟨C'.st.lim G,codeAny_func ?_⟩)
 refine Cx.doc ?_ hpre hk λs'' C''=>h s.heap.objs.size t s'' C'' λx hx=>⟨hs1 (hcl x hx),hH0 (hcl x hx)⟩
 refine { C' with st:=⟨C'.st.glob,?_,λenv he=>?_,C'.st.toks⟩ }
 ·show(YE.deeper A _).frames=_
  delta YE.deeper; rw [S.frames]; rfl
 ·rcases Z7.mp he with rfl | he
  ·refine V1 (JH C'.ns) λoL es n h1 h2=>?_
   exact⟨by show d.2.2.kind≠_; rw [hk]; decide,_,oL,es,n,rfl,hH0 (Z6 _),h1,h2⟩
  ·exact C'.st.fr env he
theorem BH{R:Zc}{f:Zo}{qual:Yz}{d:WE×List JL×US}{dV kV:Zh}{args:Args}{B:W7->List (Yz×Zh)}{led:Zd}(G:Gl K H0 mg mb)(S:St H0 A l s)(fk:Vo K f qual d dV kV)(M:List Zo)(hroom:A.depth<Zr)(hnd:∀ n,((Xi n d.2.2.names []).map (λuu=>uu.1)).Nodup)
  (hB:∀ name doc pm an cdv ct (Q:List (Yz×Zh)->Zi->Prop)(E':Za),(∀ t,Q (B t) s)->Zp (model PW w) A.in1 (bindArgs (JC name qual d.1 d.2.1 d.2.2 dV kV doc pm an cdv ct) args) Q E' s)
  (hkind:∀ t n,∀ x∈B t,d.2.2.names.lookup x.1=some .local\/(d.2.2.names.lookup x.1=some .cell/\((Xi n d.2.2.names []).lookup x.1).isSome=true))(L0:Lg s.heap led)
  (h:∀ L cdv t s',codeIn K cdv qual=true->Cx H0 (A.deeper (Y3 qual d.2.2 L f cdv)) (Y3 qual d.2.2 L f cdv::l) M s L (bindL (Y3 qual d.2.2 L f cdv).kindOf (B t) λuu=>none) (VJ (Xi (L+1) d.2.2.names []) (bindC (Y3 qual d.2.2 L f cdv).kindOf (B t) λuu=>none)++led) s' ->
   (∀ x∈Xi (L+1) d.2.2.names [],Nw H0 s x.2) ->
   Zp (model PW w) (A.deeper (Y3 qual d.2.2 L f cdv)) (execs d.2.1 (Y3 qual d.2.2 L f cdv)) (Nz R) (Fx w (A.deeper (Y3 qual d.2.2 L f cdv)) (Y3 qual d.2.2 L f cdv) R) s')
  (hco:d.2.2.isCoroutine=false:=by rfl)(hgen:d.2.2.isGenerator=false:=by rfl)(hk:d.2.2.kind = .function:=by rfl) :
  Yk (model PW w) A (.call (.ref f) args) R s:=by
 refine G6 fk.ex λpre name doc pm an cdv ct oc od osl ho hcd hpre=>?_
 exact Zei G S ho hpre hcd M hroom hnd (hB name doc pm an cdv ct) hkind L0 (λL t s'=>h L cdv t s' hcd) hco hgen hk
theorem V5{D:Zo}{acc:List Zh}{c:Nat}{x:Zh}{Q:Za}(hD:s.heap.get? D=some (ZD acc c))(hz:acc.length<=1000)
  (hQ:Q .none { s with heap:=s.heap.update D (Yb (·.push x)) }):Zp (model PW w) A (call (.builtin "list.append") [.ref D,x]) Q E s:=by
 refine Xh slot_list_append ⟨_,hD,rfl⟩ entry_list_append ?_ (args_list_append _ _)
 show Zp _ _ (updateSeq D (·.push x) >>= λuu=>ret .none) _ _ s
 refine Zf ?_
 exact JW hD rfl (Zm ⟨.none,rfl,hQ⟩) (by rw [ZJ,ZW]; exact Nat.le_add_left_of_le (by assumption)) (by show(acc.toArray.push x).size<=_; rw [Array.size_push,ZJ,ZW]; lia)
theorem DY{C:Zo}{s₀ s':Zi}{h':Xx}(g:Go H0 [] s₀ s')(hn:s₀.heap.get? C=none)(S:∀ b o,H0.get? b=some o->s₀.heap.get? b=some o)(hs:J9 C s'.heap h'):Go H0 [] s₀ { s' with heap:=h' }:=by
 have ne:∀ {b o},s₀.heap.get? b=some o->b≠C:=λe q=>by rw [q,hn] at e; exact Wu e
 refine⟨λuu b o e=>?_,λb o e hm hnd=>?_,λb o es n e hd=>?_,λb o e hnd=>?_,g.toks,g.gens,g.os⟩
 ·exact(hs.2 b (ne (S b o e))).trans (g.glob S b o e)
 ·exact(hs.2 b (ne e)).trans (g.nd b o e hm hnd)
 ·refine zE (g.up b o es n e hd) λsl h1=>?_
  exact⟨sl,(hs.2 b (ne e)).trans h1⟩
 ·refine XW (g.pres b o e hnd) λo' h1 h2=>?_
  exact⟨o',(hs.2 b (ne e)).trans h1,h2⟩
inductive CInv (N:Nat)(P:Nat->List Zh->W7->Prop)(F:Nat->List Zh->Nat->(Ze)->Zi->Prop)(n:Nat)(s:Zi):Prop
 | mk (i:Nat) (acc:List Zh) (c:Nat) (mC:Ze) (hn:n=N+1-i) (hi:i<=N) (ha:acc.length<=i) (hP:P i acc s.toks) (hF:F i acc c mC s):CInv N P F n s
noncomputable abbrev cApp(w:Um)(A:YE)(env:V0)(acc:Zh)(I:Nat->Zi->Prop)(n:Nat)(R:Zc):Za:=λx s₄=>
 Zp (model PW w) A (PySem.call (.builtin "list.append") [acc,x]) (λuu s₅=>∃ m,m<n/\I m s₅) (Gp w A env R) s₄
noncomputable abbrev cOk(w:Um)(A:YE)(elt:Vz)(env:V0)(acc:Zh)(I:Nat->Zi->Prop)(n:Nat)(R:Zc):Bool->Zi->Prop:=λok s₃=>
 if ok=true then Zp (model PW w) A (eval elt env) (cApp w A env acc I n R) (Gp w A env R) s₃ else ∃ m,m<n/\I m s₃
noncomputable abbrev cSet(w:Um)(A:YE)(elt:Vz)(ifs:List Vz)(env:V0)(acc:Zh)(I:Nat->Zi->Prop)(n:Nat)(R:Zc):Unit->Zi->Prop:=λuu s₂=>
 Zp (model PW w) A (forIn ifs true λc r=>if r=true then do let ok <- isTrue c env (eval c env); pure (W0 ok) else pure (W0 r)) (cOk w A elt env acc I n R) (Gp w A env R) s₂
noncomputable abbrev Zmh(w:Um)(A:YE)(elt target:Vz)(ifs:List Vz)(env:V0)(acc:Zh)(I:Nat->Zi->Prop)(n:Nat)(R:Zc):Option Zh->Zi->Prop:=λr s₁=>match r with
 | none=>R (.ok .next) s₁
 | some v=>Zp (model PW w) A (assign target env v) (cSet w A elt ifs env acc I n R) (Gp w A env R) s₁
theorem Bl{A:YE}{s:Zi}{w:Um}{R:Zc}{elt target iter:Vz}{ifs:List Vz}{scope:US}{pos:V7}{it acc:Zh}{env:V0}(I:Nat->Zi->Prop)
  (step:∀ n s,I n s->Zp (model PW w) A (pyNext it) (Zmh w A elt target ifs env acc I n R) (Gp w A env R) s)
  (n:Nat)(h:I n s)(ht:∀ v,letOwnedTupleGo target it v=pure ():=by intro _; rfl):Yk (model PW w) A (.compLoop (.ListComp elt [⟨target,iter,ifs,0⟩] scope pos) 0 it acc env) R s :=
 PySem.codeAny_compLoop_tests I (λn s hI=>Yr (step n s hI) (λr uu z=>by cases r<;>exact z) λuu uu z=>z) n h ht
noncomputable abbrev S7(w:Um)(H0:Xx)(A:YE)(l:List V0)(led:Zd)(vals:List Zh)(I a D C:Zo)(sB:Zi)(x:Yz)(ifs:List Vz)(elt:Vz)(cenv:V0)(P:Nat->List Zh->W7->Prop):Prop :=
 ∀ (i:Nat) (v:Zh) (acc:List Zh) (c:Nat) (mC:Ze) (s:Zi) (E':Za),vals[i]? = some v->P i acc s.toks->mC x=some v->Cx H0 A l [] sB C mC ((D,ZD acc c)::(I,WV a (i+1))::led) s ->
   Zp (model PW w) A (forIn ifs true λc r=>if r=true then do let ok <- isTrue c cenv (eval c cenv); pure (W0 ok) else pure (W0 r)) (λok s₃=>
    if ok=true then Zp (model PW w) A (eval elt cenv) (λy s₄=>Cx H0 A l [] sB C mC ((D,ZD acc c)::(I,WV a (i+1))::led) s₄/\P (i+1) (acc++[y]) s₄.toks) E' s₃
    else Cx H0 A l [] sB C mC ((D,ZD acc c)::(I,WV a (i+1))::led) s₃/\P (i+1) acc s₃.toks) E' s
theorem Iw{elt iter:Vz}{x:Yz}{px:V7}{ifs:List Vz}{scope:US}{pos:V7}{cenv:V0}{I a D:Zo}{vals:List Zh}{ep:Nat}{j:Nat}{P:Nat->List Zh->W7->Prop}{R:Zc}{sB:Zi}{C:Zo}
  (hh:A.handled=none)(hL:cenv.locals=C)(hx:cenv.kindOf x=some .local)(hp:(cenv.scope.kind == .class||(cenv.scope.kind == .module&&cenv.locals != cenv.globals))=false)
  (ha:led[j]? = some (a,ZD vals ep))(hI0:H0.get? I=none)(hI1:sB.heap.get? I=none)(hD0:H0.get? D=none)(hD1:sB.heap.get? D=none)(hlen:vals.length<=1000)(mono:∀ i acc n n',P i acc n->n<=n'->P i acc n')
  (turn:S7 w H0 A l led vals I a D C sB x ifs elt cenv P)
  (k:∀ mC acc c s',Cx H0 A l [] sB C mC ((D,ZD acc c)::led) s'->P vals.length acc s'.toks->R (.ok .next) s')
  {mC:Ze}{c:Nat}{s:Zi}(C0:Cx H0 A l [] sB C mC ((D,ZD [] c)::(I,WV a 0)::led) s)(h0:P 0 [] s.toks) :
  Yk (model PW w) A (.compLoop (.ListComp elt [⟨.Name x px,iter,ifs,0⟩] scope pos) 0 (.ref I) (.ref D) cenv) R s:=by
 refine Bl (CInv vals.length P λi acc c mC s=>Cx H0 A l [] sB C mC ((D,ZD acc c)::(I,WV a i)::led) s) ?_ (vals.length+1) ⟨0,[],c,mC,rfl,Yt _,Z6 _,h0,C0⟩
 rintro n s1 ⟨i,acc,c1,mC1,rfl,hi,hal,hP,C1⟩
 cases hv:vals[i]? with
 | none=>
  have hil:i=vals.length:=by have:=Vm.mp hv; exact Nat.le_antisymm (by assumption) (by assumption)
  refine Gm hh (C1.at 1 rfl) (C1.at (j+2) (by simpa using ha)) hv λh' e hm=>?_
  exact k mC1 acc c1 _ (((C1.upd 1 (f:=ZP (·.setIfInBounds 0 .none)) rfl rfl Y5 rfl (.inr hI1) hI0).call (Bc (H0:=H0) (M:=[]) (s:={ s1 with heap:=s1.heap.update I (ZP (·.setIfInBounds 0 .none)) }) hm)).drop ((D,ZD acc c1)::led) (.cons_cons _ (.cons _ (Yq _)))) (by exact hil▸hP)
 | some v=>
  have hlt:i<vals.length:=(Z5.mp hv).1
  refine VU (C1.at 1 rfl) (C1.at (j+2) (by simpa using ha)) hv ?_
  refine PySem.wpAny_assign_Name ((C1.upd 1 (f:=ZP (·.setIfInBounds 1 (Xr ((i:Int)+1)))) rfl rfl Y5 rfl (.inr hI1) hI0).mark.store (env:=cenv) hL (λs3 C3=>?_) hx hp)
  have C3':Cx H0 A l [] sB C (Jh mC1 x v) ((D,ZD acc c1)::(I,WV a (i+1))::led) s3:=Cx.unmark (sE:=sB) (n:=s1.toks) C3 C1.go.toks
  refine Yr (turn i v acc c1 _ s3 _ hv (mono _ _ _ _ hP C3.go.toks) (if_pos rfl) C3') (λok s4 h4=>?_) λuu uu z=>z
  cases ok with
  | false=>
   rw [if_neg (by decide)] at h4
   refine Y6 rfl ?_
   exact⟨vals.length+1-(i+1),by grind,i+1,acc,c1,_,rfl,hlt,by exact Nat.le_succ_of_le (by assumption),h4.2,h4.1⟩
  | true=>
   rw [if_pos rfl] at h4
   refine YV rfl ?_
   refine Yr h4 (λy s5 h5=>?_) λuu uu z=>z
   refine V5 (h5.1.at 0 rfl) (by lia) ?_
   have C6:=h5.1.upd 0 (f:=Yb (·.push y)) rfl rfl Xe rfl (.inr hD1) hD0
   have e:(Yb (·.push y) (ZD acc c1))=ZD (acc++[y]) (c1+1):=by simp [Yb]
   rw [e] at C6
   exact⟨vals.length+1-(i+1),by grind,i+1,acc++[y],c1+1,_,rfl,hlt,by simp; omega,h5.2,C6⟩
theorem Je{h:Xx}{x:Zo}(hx:h.objs.size<=x):h.get? x=none:=by
 cases q:h.get? x with
 | none=>rfl
 | some o=>exact absurd (YH q) (Xp.mpr hx)
theorem Cx.inner(C:Cx H0 A l M sE L m led s){sB:Zi}(g:Go H0 [] sB s){h₁:Xx}{o:Xl}{k:Nat}{mC:Ze}(hns:h₁.Ns s.heap.objs.size mC)(hsb:J9 s.heap.objs.size (s.heap.push o) h₁) :
  Cx H0 A l [] sB s.heap.objs.size mC led { s with heap:=h₁,toks:=s.toks+k }:=by
 have gg:Go H0 [] s { s with heap:=h₁,toks:=s.toks+k }:=Go.ext (s:=s) (s':={ s with heap:=h₁,toks:=s.toks+k }) (λb o' e=>hsb.extBut b o' (X7 (YH e)) (Z0 _ e)) (Zx _ _) rfl rfl _
 have nB:sB.heap.get? s.heap.objs.size=none:=by
  cases q:sB.heap.get? s.heap.objs.size with
  | none=>rfl
  | some o=>refine zE (g.there _ _ q) λo' z=>?_; exact Wu (ZF (ZR XC) z)
 refine⟨C.st.go gg,g.trans gg,hns,nB,(C.noE XC).h,λp hp=>(C.has p hp).go gg (λh=>nomatch h),λp hp e=>?_,C.nodup⟩
 refine XW ((C.has p hp).dx _ e) λo' e1 e2=>?_
 exact Wu (ZF (ZR XC) e1)
theorem Cx.listComp{elt iter:Vz}{x:Yz}{px:V7}{ifs:List Vz}{scope:US}{cl:List (Yz×Zo)}{pos:V7}{Q:Za}{P:Nat->List Zh->W7->Prop}
  (hh:A.handled=none)(hclos:JU scope env=pure cl)(hcell:∀ y∈scope.names,y.2 ≠ .cell)(hkind:scope.kind = .function)
  (hnames:∀ y∈scope.names,y.2 = .local->scope.names.lookup y.1=some .local)(hx:scope.names.lookup x=some .local)(mono:∀ i acc n n',P i acc n->n<=n'->P i acc n')
  (h:Zp (model PW w) A (eval iter env) (λxv s₁=>∃ (a:Zo) (vals:List Zh) (ep j:Nat),xv = .ref a/\vals.length<=1000/\led[j]? = some (a,ZD vals ep)/\Cx H0 A l M sE L m led s₁/\P 0 [] s₁.toks /\
   (∀ I D C,S7 w H0 A l led vals I a D C s₁ x ifs elt (Jl scope cl C env) P) /\
   (∀ D acc c s',Go H0 [] s₁ s'->P vals.length acc s'.toks->Wy s'.heap (D,ZD acc c)->s₁.heap.get? D=none->Q (.ref D) s')) E s)
  (hs:∀ x,foldedSetIterable iter env x=pure x:=by intro _; rfl) :
  Zp (model PW w) A (eval (.ListComp elt [⟨.Name x px,iter,ifs,0⟩] scope pos) env) Q E s:=by
 rw [eval_ListComp]
 refine wpAny_comprehension_free (use:=none) rfl hs hclos hkind hnames (Yr h (λxv s₁ h₁=>?_) λuu uu e=>e)
 refine DL h₁ λa vals ep j zr=>?_; obtain ⟨rfl,hlen,ha,C,h0,turn,k⟩:=zr
 refine W8 ⟨_,(C.at j ha),rfl,_,rfl⟩ (Xa (Vv hcell (by intro y hy; simp at hy) (λh₁ hns₁ hsb₁=>?_) hkind) (by exact Yt _))
 have g2:Go H0 [] s₁ { s₁ with heap:=(s₁.heap.push (WV a 0)).push (ZD []) }:=(Go.push (s:=s₁) _).trans (Go.push (s:={ s₁ with heap:=s₁.heap.push (WV a 0) }) _)
 have C3:=((C.push (WV a 0) rfl Y5 rfl).push (ZD []) rfl Xe rfl).inner (k:=0) g2 hns₁ hsb₁
 have nI:s₁.heap.get? s₁.heap.objs.size=none:=XC
 have nD:s₁.heap.get? (s₁.heap.push (WV a 0)).objs.size=none:=Je (by rw [Xq]; exact Wb _)
 have loop:Yk (model PW w) A (.compLoop (.ListComp elt [⟨.Name x px,iter,ifs,0⟩] scope pos) 0 (.ref s₁.heap.objs.size) (.ref (s₁.heap.push (WV a 0)).objs.size) (Jl scope cl ((s₁.heap.push (WV a 0)).push (ZD [])).objs.size env))
   (compPost (model PW w) A E none Q (.ref (s₁.heap.push (WV a 0)).objs.size) ((s₁.heap.push (WV a 0)).push (ZD [])).objs.size) { s₁ with heap:=h₁,toks:=s₁.toks+0 }:=by
  refine Iw (cenv:=Jl scope cl ((s₁.heap.push (WV a 0)).push (ZD [])).objs.size env) (j:=j) (P:=P) hh rfl (show Env.kindOf _ x=_ from lookup_relabel_local hx) (by show(scope.kind == .class||(scope.kind == .module&&_))=false; rw [hkind]; rfl) ha (C.noE nI).h nI (C.noE nD).h nD hlen mono (turn _ _ _) (λmC acc c s' C4 hP=>?_) C3 h0
  refine⟨mC,C4.ns,λh' hs'=>?_⟩
  have hDC:(s₁.heap.push (WV a 0)).objs.size≠((s₁.heap.push (WV a 0)).push (ZD [])).objs.size:=by rw [Xq (s₁.heap.push (WV a 0))]; exact X7 (YM _)
  exact k _ acc c _ (DY C4.go C3.new C.st.glob hs') hP (VD ((hs'.2 _ hDC).trans (C4.at 0 rfl))) nD
 refine codeAny_compStart_list loop (wpAny_pyIter_listiter ⟨_,C3.at 1 rfl,rfl,rfl⟩ loop)
theorem Cx.globalE(C:Cx H0 A l M sE L m led s)(G:Gl K H0 mg mb){x:Yz}{pos:V7}{v:Zh}{Q:Za}(e:nsIn K Zw x=some (some v))(h:Q v s)
  (hg:env.globals=Zw:=by rfl)(hk:env.scope.kind = .function:=by rfl)(hx:env.kindOf x=some .globalImplicit:=by rfl)(hd:(x==("__debug__" : Yz))=false:=by decide):Zp (model PW w) A (eval (.Name x pos) env) Q E s :=
 Name_function_global hk hx (loadGlobal_global (env:=env) (by exact hg▸G.g.keeps C.st.glob) (mg_of G.X G.g e) h) hd
theorem Cx.bootE(C:Cx H0 A l M sE L m led s)(G:Gl K H0 mg mb){x:Yz}{pos:V7}{v:Zh}{Q:Za}(e:nsIn K Zw x=some none)(hv:bootBuiltins x=some v)(h:Q v s)(hn:x≠"__name__":=by decide)
  (hg:env.globals=Zw:=by rfl)(hb:env.builtins=Jx:=by rfl)(hk:env.scope.kind = .function:=by rfl)(hx:env.kindOf x=some .globalImplicit:=by rfl)(hd:(x==("__debug__" : Yz))=false:=by decide):Zp (model PW w) A (eval (.Name x pos) env) Q E s :=
 Name_function_global hk hx (loadGlobal_builtin (env:=env) (by exact hg▸G.g.keeps C.st.glob) (mg_none_of G.X G.g e) (by exact hb▸G.b.keeps C.st.glob) ((G.boot x hn).trans hv) h) hd
theorem Cx.nameE(C:Cx H0 A l M sE L m led s){x:Yz}{pos:V7}{v:Zh}{Q:Za}(hv:m x=some v)(h:Q v s)
  (hL:env.locals=L:=by rfl)(hk:env.scope.kind = .function:=by rfl)(hl:env.kindOf x=some .local:=by rfl)(hd:(x==("__debug__" : Yz))=false:=by decide):Zp (model PW w) A (eval (.Name x pos) env) Q E s :=
 wpAny_Name (C.ld (env:=env) hL hv h hk hl) hd
theorem Cx.setE(C:Cx H0 A l M sE L m led s){x:Yz}{v:Zh}{Q:Unit->Zi->Prop}(h:∀ s',Cx H0 A l M sE L (Jh m x v) led s'->Q () s')
  (hL:env.locals=L:=by rfl)(hl:env.kindOf x=some .local:=by rfl)(hp:(env.scope.kind == .class||(env.scope.kind == .module&&env.locals != env.globals))=false:=by rfl):Zp (model PW w) A (V6 env x v) Q E s :=
 C.store (env:=env) hL h hl hp
end
variable {b:Ad2}
section
open PySem PySem.W PySem.Calls PyProof.Rows PySem.Spec
theorem HV{x y mv:Zh}{name:Yz}{doc pm:Zh}{an:Option Zo}{cdv ct:Zh}{Q:List (Yz×Zh)->Zi->Prop}
  (k:Q [(Zj "x",x),(Zj "y",y),(Zj "method",mv)] s) :
  Zp (model PW w) A (bindArgs (JC name "correlation" Wh.1 Wh.2.1 Wh.2.2 .none (.ref b.corrK) doc pm an cdv ct) ⟨[x,y],[(Zj "method",mv)]⟩) Q E s :=
 Xk (a:=[(Zj "x",x),(Zj "y",y),(Zj "method",mv)]) rfl k
theorem Fy(F:KG K b)(X:K.In s.heap){x y:Zh}{name:Yz}{doc pm:Zh}{an:Option Zo}{cdv ct:Zh}{Q:List (Yz×Zh)->Zi->Prop}
  (k:∀ t,Q [(Zj "x",x),(Zj "y",y),(Zj "method",.str "linear" t)] s) :
  Zp (model PW w) A (bindArgs (JC name "correlation" Wh.1 Wh.2.1 Wh.2.2 .none (.ref b.corrK) doc pm an cdv ct) ⟨[x,y],[]⟩) Q E s:=by
 refine zE F.dmeth λt ht=>?_
 refine Zf (Xk (a:=([(Zj "x",x),(Zj "y",y)],[])) rfl ?_)
 refine Zf (Xk (a:=none) rfl ?_)
 refine YR Zn ?_
 refine YR Zn ?_
 refine Zf (Xk (a:=[(Zj "x",x),(Zj "y",y)]) rfl ?_)
 refine Zf (Ke (λuu=>.str "linear" t) _ _ _ (λn hn=>?_) ?_)
 ·have hn2:n∈[Zj "method"]:=hn
  exact(Zk.mp hn2)▸looks_nsIn X ht
 refine YR Zn ?_
 exact Zm (k t)
theorem Go.same{a:Zo}{h':Xx}{k:Nat}(hs:J9 a s.heap h')(ho:∃ o',h'.get? a=some o'/\Mine.nd o')(hH:H0.get? a=none)(hn:∀ o,s.heap.get? a=some o->Mine.nd o):Go H0 [a] s { s with heap:=h',toks:=s.toks+k }:=by
 refine⟨λh b o e=>?_,λb o e hm uu=>?_,λb o es n e hd=>?_,λb o e hnb=>?_,Zx _ _,λh=>h,rfl⟩
 ·have:b≠a:=λq=>by rw [q,hH] at e; cases e
  exact(hs.2 b this).trans (h b o e)
 ·exact(hs.2 b (λq=>hm (Zk.mpr q))).trans e
 ·have:b≠a:=λq=>by rw [q] at e; exact hn o e es n hd
  exact⟨o.slots,(hs.2 b this).trans e⟩
 ·by_cases q:b=a
  ·subst q; exact ho
  ·exact⟨o,(hs.2 b q).trans e,hnb⟩
theorem Zdv{cd:Zh}{q:Yz}(e:codeIn K cd q=true):kdsCode K cd=true:=by
 cases cd with
 | ref c=>
  delta codeIn at e; delta kdsCode
  dsimp only at e ⊢
  generalize K.lookup c=o at e
  cases o with
  | none=>exact e
  | some o=>cases o with | mk a b d f=>cases d<;>first | rfl | exact e
 | _=>exact e
theorem Zcc{Kt:Type} [DecidableEq Kt] [BEq Kt] [LawfulBEq Kt]{knd:KeyKind PW w Kt}{h:Xx}{a:Zo}{S:Kt->Bool}{n:Nat}(x:h.SetOf knd a S n):∃ o,h.get? a=some o/\nd o:=by
 refine VS x λo es ep t ho hex hd uu=>?_
 exact⟨o,ho,λes' n' q=>by rw [hd] at q; cases q⟩
section
variable {Kt:Type} [DecidableEq Kt] [BEq Kt] [LawfulBEq Kt]{knd:KeyKind PW w Kt}{S:Kt->Bool}{n:Nat}{k:Kt}{key:Zh}{sa:Zo}
theorem DX{Q:Bool->Zi->Prop}(hS:s.heap.SetOf knd sa S n)(hb:n+1<scanBound)(hkey:knd.is k key=true)(hsc:key.scannable=true)
  (h:∀ h',J9 sa s.heap h'->h'.SetOf knd sa (λk'=>S k'||decide (k'=k)) (if S k then n else n+1)->Q (!S k) { s with heap:=h',toks:=s.toks+1 }):Zp (model PW w) A (setAdd sa key) Q E s:=by
 refine Yc (Zf (knd.pyHash hkey ?_))
 exact wpAny_setAddHashed_of (s:={ s with toks:=s.toks+1 }) hkey hsc hS hb λh' hsb hS'=>h h' hsb hS'
theorem F8{Q:Unit->Zi->Prop}(hS:s.heap.SetOf knd sa S n)(hb:n<scanBound)(h:∀ h',J9 sa s.heap h'->h'.SetOf knd sa S n->Q () { s with heap:=h' }):Zp (model PW w) A (setUnled sa) Q E s:=by
 obtain ⟨o,es,ep,t,ho,hex,hd,hel,hmem,hb0,hf,hn⟩:=hS
 have hb':es.size<scanBound:=by exact hn▸hb
 have hf':({ t with led:=false }:SetTable).fits es.size=true:=by cases t; exact hf
 refine Zf (wpAny_setState_of ho hd hf ?_)
 refine wpAny_storeSet_of ho hd ?_ (fits_of_scanBound hb')
 refine zA (SetOf_store (knd:=knd) ho hex hd hel hmem hb' hf') λuu hS=>?_
 rw [hn] at hS
 exact h _ (J9.update s.heap sa (Obj.putSet es { t with led:=false })) hS
end
theorem Cx.notinTwo(C:Cx H0 A l M sE L m led s)(G:Gl K H0 mg mb){nm x1 x2:Yz}{p1 p2 p3 p4 p5:V7}{k1 k2:Nat}{mv:Yz}{t:W7}{whole:Sem Zh}{Q:Bool->Zi->Prop}(hm:m nm=some (.str mv t))(hc:kdsCode K env.code=true)
  (h:∀ s',Cx H0 A l M sE L m led s'->Q (!(decide (mv=x1)||decide (mv=x2))) s')
  (hL:env.locals=L:=by rfl)(hk:env.scope.kind = .function:=by rfl)(hl:env.kindOf nm=some .local:=by rfl)(hd:(nm==("__debug__" : Yz))=false:=by decide) :
  Zp (model PW w) A (isTrue (.Compare (.Name nm p1) [.NotIn] [.Set [.Constant (.str x1) k1 p2,.Constant (.str x2) k2 p3] 0 p4] p5) env whole) Q E s:=by
 refine kdi_test rfl (C.nameE hm ?_ hL hk hl hd)
 rw [arm_eval_Set]
 refine Zf (wpAny_standAt (Zf (kds_main (C.st.X G) hc λb=>?_)))
 rw [kds_star _ rfl,UZ]
 refine kds_core (ts:=(evalEach [Expr.Constant (.str x1) k1 p2,Expr.Constant (.str x2) k2 p3] env).map λt=>do let v <- t; standAt p4; pure v) rfl ?_ ?_ ?_ λled'=>?_
 ·refine List.findIdx?_eq_none_iff.mpr λx hx=>?_
  refine XW (ZZ.mp hx) λt uu zr=>?_; obtain rfl:=zr
  rfl
 ·rw [YW,kds_len]; show 2<=30; decide
 ·rw [UZ]; try rfl
 refine kds_all p4 _ _ _ ?_
 have eN:s.heap.get? s.heap.objs.size=none:=XC
 let o0:Xl:={ cls:=.type "set",dict:=none,data:=.set #[] 0 (.fresh 0 0 led') }
 have g0:Go H0 [] s { s with heap:=s.heap.push o0 }:=.ext (s':={ s with heap:=s.heap.push o0 }) (λuu uu e=>Z0 _ e) (Z6 _) rfl rfl _
 have S0:(s.heap.push o0).SetOf (PySem.strKind PW w) s.heap.objs.size (λuu=>false) 0:=(setObjOf_fresh led').setOf (ZK _ rfl) (by unfold scanBound; exact Jb _)
 have step:∀ {s₁:Zi} {h':Xx} {S:Yz->Bool} {n:Nat} (k:Nat),Go H0 [] s s₁->(∀ o,s₁.heap.get? s.heap.objs.size=some o->nd o)->J9 s.heap.objs.size s₁.heap h'->h'.SetOf (PySem.strKind PW w) s.heap.objs.size S n ->
   Go H0 [] s { s₁ with heap:=h',toks:=s₁.toks+k }/\(∀ o,h'.get? s.heap.objs.size=some o->nd o):=λk g hn hs hS=>by
  refine XW (Zcc hS) λo' ho' hn'=>?_
  refine⟨g.step (Go.same hs ⟨o',ho',hn'⟩ (Su C.st.glob eN) hn) (λp hp=>by exact(Zk.mp hp) ▸ .inr eN),λo e=>by obtain rfl:=Zz (ZF (ZR ho') e); exact hn'⟩
 refine Yi (Yi ?_)
 have gA:Go H0 [] s { s with heap:=s.heap.push o0,toks:=s.toks+1+1 }:=⟨g0.glob,g0.nd,g0.up,g0.pres,Zx _ 2,g0.gens,g0.os⟩
 have nA:∀ o,(s.heap.push o0).get? s.heap.objs.size=some o->nd o:=λo e=>by
  have e':(s.heap.push o0).get? s.heap.objs.size=some o0:=ZK _ rfl
  obtain rfl:=Zz (ZF (ZR e') e); exact λuu uu q=>by cases q
 refine kds_fill_cons (DX (knd:=PySem.strKind PW w) (k:=x1) S0 (by unfold scanBound; exact YL _ _) (by show decide _=true; exact decide_eq_true rfl) rfl λh1 hs1 hS1=>?_)
 refine zA (step (s₁:={ s with heap:=s.heap.push o0,toks:=s.toks+1+1 }) 1 gA nA hs1 hS1) λg1 n1=>?_
 refine kds_fill_cons (DX (knd:=PySem.strKind PW w) (k:=x2) hS1 (by unfold scanBound; simp) (by show decide _=true; exact decide_eq_true rfl) rfl λh2 hs2 hS2=>?_)
 refine zA (step 1 g1 n1 hs2 hS2) λg2 n2=>?_
 have fin:∀ {s₂:Zi} {h3:Xx} {S:Yz->Bool} {n:Nat},Go H0 [] s s₂->(∀ o,s₂.heap.get? s.heap.objs.size=some o->nd o)->h3=h3->s₂.heap.SetOf (PySem.strKind PW w) s.heap.objs.size S n->n<scanBound->S mv=(decide (mv=x1)||decide (mv=x2)) ->
   KdiMark (model PW w) A E (.ref s.heap.objs.size) (λs₃=>Zp (model PW w) A (compareOp .NotIn (.str mv t) (.ref s.heap.objs.size)) (λc s₄=>Zp (model PW w) A (truthy c) Q E s₄) E s₃) s₂:=λ{s₂ h3 S n} g hn uu hS hb hv=>by
  refine kdi_mark (F8 hS hb λh4 hs4 hS4=>?_)
  refine zA (step 0 g hn hs4 hS4) λg4 n4=>?_
  refine wpAny_notInSet_of (knd:=PySem.strKind PW w) (k:=mv) (by show decide _=true; exact decide_eq_true rfl) rfl hS4 ?_
  rw [hv]
  exact Zu (h _ ((C.call g4).tok 1))
 have hv2:(λk'=>((λk'=>(false||decide (k'=x1))) k'||decide (k'=x2))) mv=(decide (mv=x1)||decide (mv=x2)):=by exact rfl
 have hb3:(if(λk'=>(false||decide (k'=x1))) x2=true then(if(λuu:Yz=>false) x1=true then 0 else 0+1) else(if(λuu:Yz=>false) x1=true then 0 else 0+1)+1)<scanBound:=by
  delta scanBound; split<;>simp
 cases hu:(displayRoad 0 [Expr.Constant (Const.str x1) k1 p2,Expr.Constant (Const.str x2) k2 p3]==DisplayRoad.unsure)
 ·exact kds_fill_nil rfl (fin (h3:=h2) g2 n2 rfl hS2 hb3 hv2)
 ·refine kds_fill_unled rfl (F8 hS2 hb3 λh5 hs5 hS5=>?_)
  refine zA (step 0 g2 n2 hs5 hS5) λg5 n5=>?_
  exact fin (h3:=h5) g5 n5 rfl hS5 hb3 hv2
inductive TrC (h base:Xx)(e:Zo)(cls a0 c fl:Zh):Prop
 | mk (oe:Xl) (vs:Array Zh) (T:Zo) (oT:Xl) (ts:Array Zh) (h1:h.get? e=some oe) (h2:oe.cls=cls/\vs[0]? = some a0) (h3:oe.data = .fields vs) (h4:vs[1]? = some (.ref T)) (h5:base.get? T=none) (h6:T≠e) (h7:h.get? T=some oT)
  (h8:oT.data = .fields ts)(h9:ts[3]? = some fl)(hc:vs[2]? = some c):TrC h base e cls a0 c fl
theorem TrC.at{h base:Xx}{e:Zo}{cls a0 c fl:Zh}(x:TrC h base e cls a0 c fl):h.TracedAtW base e cls a0 fl:=by
 obtain ⟨oe,vs,T,oT,ts,a1,a2,a3,a4,a5,a6,a7,a8,a9,_⟩:=x
 exact⟨oe,vs,T,oT,ts,a1,a2,a3,a4,a5,a6,a7,a8,a9⟩
noncomputable def flV(f:Option Zo):Zh:=f.elim Yl λx=>Xr x
structure FlC (base:Xx)(l:List V0)(e:Zo)(cls a0 c fl:Zh)(h:Xx):Prop where
 stays:base.StaysIn h
 new:base.get? e=none
 fr:h.FunFrames base l
 tr:TrC h base e cls a0 c fl
theorem FlC.flying{base h:Xx}{l:List V0}{e:Zo}{cls a0 c:Zh}(x:FlC base l e cls a0 c .none h):Heap.FlyingW base l e cls a0 h:=⟨x.stays,x.new,x.fr,x.tr.at⟩
theorem FlC.held{base h:Xx}{l:List V0}{e L:Zo}{cls a0 c:Zh}(x:FlC base l e cls a0 c (Xr L) h):Heap.HeldW base l e cls a0 L h:=⟨x.stays,x.new,x.fr,x.tr.at⟩
section
variable {M:XJ}
theorem Zjz{base:Xx}{env:V0}{outer:List V0}{L e:Zo}{oe:Xl}{vs:Array Zh}{a0 c:Zh}{Q:Unit->Zi->Prop}
  (hfr:A.frames=some (env::outer))(hl:s.heap.FunFrames base (env::outer))(hf:env.frame=some L)
  (he:s.heap.get? e=some oe)(hkb:base.StaysIn s.heap)(hen:base.get? e=none)(hd:oe.data = .fields vs)(h1:vs[1]? = some .none)(h0:vs[0]? = some a0)(hc:vs[2]? = some c)
  (h:∀ h',FlC base (env::outer) e oe.cls a0 c (Xr L) h'->(∀ b o,s.heap.get? b=some o->(∀ vs,o.data ≠ .fields vs)->∃ sl,h'.get? b=some { o with slots:=sl })->Q () { s with heap:=h' }) :
  Zp M A (noteFrame (.ref e) env) Q E s:=by
 have hsz:1<vs.size:=(Array.getElem?_eq_some_iff.mp h1).1
 delta noteFrame
 rw [hf]
 refine Zf (YA he hd h1 ?_)
 first | refine Y6 (by decide) ?_ | refine YR (by decide) ?_ | rw [if_neg (by decide)]
 have hene:e∉(env::outer).filterMap (λuu=>uu.frame):=λhm=>by
  refine zAEA (hl.mem hm) λuu o ho hnf=>?_
  rw [he] at ho; injection ho with ho; subst ho; exact hnf vs hd
 refine Zf (wpAny_frameOf_fun hfr hl hf λh₁ hs₁=>?_)
 refine Zf (wpAny_entryPlaceOf λpl hpl=>?_)
 refine Zf (Xa ?_ (hpl.sizeOk5 _ _ _ _ _))
 have he₁:h₁.get? e=some oe:=(hs₁.2.1 e hene).trans he
 have kb₁:base.StaysIn h₁:=λb o hbo=>(hs₁.2.1 b λhm=>by exact Wu (ZF (ZR ((hl.mem hm).1)) hbo)).trans (hkb b o hbo)
 generalize hT0:({ cls:=.type "traceback",dict:=none,data:=.fields ([Yl,.ref L,.none,Xr L,.none]++(if pl.isEmpty then ZM 6 Yl else pl)).toArray }:Xl)=T0
 have hTd:T0.data = .fields ([Yl,.ref L,.none,Xr L,.none]++(if pl.isEmpty then ZM 6 Yl else pl)).toArray:=by rw [<- hT0]
 have hTf:T0.isFreed=false:=by rw [<- hT0]; rfl
 have he₂:=Z0 (h:=h₁) T0 he₁
 refine XY (s:={ s with heap:=h₁.push T0 }) he₂ hd hsz (h _ ?_ ?_)
 ·have hTe:h₁.objs.size≠e:=Ys (YH he₁)
  have hd₃:=Obj.data_mapFields hd (·.setIfInBounds 1 (ZS h₁.objs.size))
  have he₃:=YS (ZP (·.setIfInBounds 1 (ZS h₁.objs.size))) he₂ (Obj.isFreed_of_fields hd₃)
  have hT₃:=(Yw (h₁.push T0) (ZP (·.setIfInBounds 1 (ZS h₁.objs.size))) (Ne.symm hTe)).trans (ZK h₁ hTf)
  have keep:∀ b o,b≠e->h₁.get? b=some o->((h₁.push T0).update e (ZP (·.setIfInBounds 1 (ZS h₁.objs.size)))).get? b=some o:=λb o hbe hb=>by
   rw [Yw _ _ (Ne.symm hbe)]
   exact Z0 _ hb
  have noRecord:∀ b o,s.heap.get? b=some o->(∀ vs,o.data ≠ .fields vs)->b≠e:=λb o hb hnf q=>by
   rw [q,he] at hb; injection hb with hb; subst hb; exact hnf vs hd
  refine⟨λb o hbo=>keep b o (λq=>by rw [q,hen] at hbo; exact Wu hbo) (kb₁ b o hbo),hen,hl.of_keeps λb o hb hnf=>?_,?_⟩
  ·refine zE (hs₁.2.2 b o hb) λsl hs=>?_
   exact⟨_,keep b _ (noRecord b o hb hnf) hs,rfl⟩
  ·refine⟨_,_,h₁.objs.size,_,_,he₃,⟨Obj.cls_mapFields _ _,by exact ZF (Array.getElem?_setIfInBounds_ne (by decide)) (h0)⟩,hd₃,by simp [hsz],kb₁.fresh,hTe,hT₃,hTd,?_,by exact ZF (Array.getElem?_setIfInBounds_ne (by decide)) (hc)⟩
   first | (simp; done) | (rcases hpl with rfl | ⟨_,_,_,_,_,_,_,rfl⟩<;>simp)
 ·intro b o hb hnf
  refine zE (hs₁.2.2 b o hb) λsl hs=>?_
  refine⟨sl,?_⟩
  have hbe:b≠e:=λq=>by rw [q,he] at hb; injection hb with hb; subst hb; exact hnf vs hd
  show((h₁.push T0).update e _).get? b=_
  rw [Yw _ _ (Ne.symm hbe)]
  exact Z0 _ hs
theorem Ot{base:Xx}{l:List V0}{e:Zo}{cls a0 c fl:Zh}{f:Option Zo}{Q:Unit->Zi->Prop}(x:FlC base l e cls a0 c fl s.heap)
  (h:∀ h',FlC base l e cls a0 c (flV f) h'->s.heap.UpToSlots h'->Q () { s with heap:=h' }):Zp M A (setFlight (.ref e) f) Q E s:=by
 obtain ⟨hkb,hen,hl,oe,vs,T,oT,ts,he,hcls,hd,h1,hnT,hTe,hT,hdT,h3,hc⟩:=x
 have hsz3:3<ts.size:=(Array.getElem?_eq_some_iff.mp h3).1
 have other:∀ b,b≠T->(s.heap.update T (ZP (·.setIfInBounds 3 (flV f)))).get? b=s.heap.get? b:=λb hb=>Yw _ _ (Ne.symm hb)
 have noRecord:∀ b o,s.heap.get? b=some o->(∀ vs,o.data ≠ .fields vs)->b≠T:=λb o hb hnf q=>by
  rw [q,hT] at hb; injection hb with hb; subst hb; exact hnf ts hdT
 refine Zf (YA he hd h1 ?_)
 first | refine YV (show(ZS T != Yl)=true from by simp) ?_ | refine YT (show(ZS T != Yl)=true from by exact rfl) ?_ | rw [if_pos (show(ZS T != Yl)=true from by simp)]
 refine XY hT hdT hsz3 (h _ ⟨λb o hbo=>(other b λq=>by rw [q,hnT] at hbo; exact Wu hbo).trans (hkb b o hbo),hen,
  hl.of_keeps λb o hb hnf=>⟨o,(other b (noRecord b o hb hnf)).trans hb,rfl⟩,?_⟩ λb o hb hnf=>⟨o.slots,(other b (noRecord b o hb hnf)).trans hb⟩)
 exact⟨oe,vs,T,_,_,(other e (Ne.symm hTe)).trans he,hcls,hd,h1,hnT,hTe,YS _ hT (Obj.isFreed_of_fields (Obj.data_mapFields hdT _)),Obj.data_mapFields hdT _,by simp [hsz3]; rfl,hc⟩
theorem Zky{base:Xx}{env:V0}{l:List V0}{e L:Zo}{cls a0 c fl:Zh}(hf:env.frame=some L)(x:FlC base l e cls a0 c fl s.heap)
  (h:∀ h',FlC base l e cls a0 c (Xr L) h'->s.heap.UpToSlots h'->E (.ref e) { s with heap:=h' }):cameBackBy M A env E (.ref e) s:=by
 obtain ⟨oe,vs,T,oT,ts,he,hcls,hd,h1,hnT,hTe,hT,hdT,h3,hc⟩:=x.tr
 refine Zf (YA he hd h1 ?_)
 first | refine Y6 rfl ?_ | refine YR (show ¬ (ZS T==Yl)=true from by exact Zn) ?_ | rw [if_neg (show ¬ (ZS T==Yl)=true from by simp)]
 rw [hf]
 exact Ot x h
end
section
theorem Zco{α:Type}{e z t:Zo}{cls:Zh}{oz:Xl}{vz:Array Zh}{Q:α->Zi->Prop}(hh:A.handled=some (.ref z))(hne:z≠e)(hz:s.heap.get? z=some oz)(hzd:oz.data = .fields vz)(hz2:vz[2]? = some .none)
  (he:s.heap.get? e=some { cls:=cls,data:=.fields #[.ref t,.none,.none,.none,.bool false,.none] })
  (h:E (.ref e) { s with heap:=s.heap.update e (ZP (·.setIfInBounds 2 (.ref z))) }):Zp (model PW w) A (raiseNew (.ref e):Sem α) Q E s:=by
 refine Zf (Vd ?_)
 rw [hh]
 dsimp only
 first | refine YV (show(ZS z != ZS e)=true from by simpa using hne) ?_ | refine YT (show(ZS z != ZS e)=true from by simpa using hne) ?_ | rw [if_pos (show(ZS z != ZS e)=true from by simpa using hne)]
 refine Zf ?_
 refine Yc (runValue_entry (id:="proto.unchain") (b:=Builtin.«proto.unchain») (JD (by kernel_rfl)) ?_)
 ·delta Builtin.«proto.unchain»
  refine Zf (YA hz hzd hz2 ?_)
  first | refine YV (by rfl) ?_ | refine YT (by rfl) ?_ | rw [if_pos (by rfl)]
  refine Zf (Zm (Zm ⟨.none,rfl,?_⟩))
  delta updateField
  refine Zf (Zf (wpAny_load he ?_))
  dsimp only
  first | refine YV (show 2<(#[ZS t,.none,.none,.none,.bool false,.none]:Array Zh).size from by simp) ?_ | refine YT (show 2<(#[ZS t,.none,.none,.none,.bool false,.none]:Array Zh).size from by exact Wk rfl) ?_ | rw [if_pos (show 2<(#[ZS t,.none,.none,.none,.bool false,.none]:Array Zh).size from by simp)]
  exact wpAny_update he (JN h)
variable {nm q:Yz}{C N:Zo}{bs bm bmB:List Zh}{hdct:Bool}{sn:List Yz}{sub:List Zh}{ab:Bool}{col:Option Bool}{dd:Option Zo}{k0 k1 k2 k3 k5:Option Zh}{B newId initId:String}
theorem Ny{z:Zo}{x:Sem Zh}{Q:Zb}(hbase:bm.contains (.type "BaseException")=true)(hh:A.handled=some (.ref z))
  (h:Zp (model PW w) A x (λv s₁=>∃ e t oz vz,v = .ref e/\s₁.heap.get? C=some (excClassObj nm q C N bs bm hdct sn sub ab col dd k0 k1 k2 k3 k5 newId) /\
   s₁.heap.get? e=some { cls:=.ref C,data:=.fields #[.ref t,.none,.none,.none,.bool false,.none] }/\z≠e/\s₁.heap.get? z=some oz/\oz.data = .fields vz/\vz[2]? = some .none /\
   E (.ref e) { s₁ with heap:=s₁.heap.update e (ZP (·.setIfInBounds 2 (.ref z))) }) E s) :
  Zp (model PW w) A (raiseStmt env (some x) none) Q E s:=by
 have hcB:(ZS C::bm).contains (.type "BaseException")=true:=by rw [List.contains_cons,hbase,Bool.or_true]
 refine Zf (Yr h (λv s₁ h₁=>?_) λuu uu x=>x)
 refine DL h₁ λe t oz vz zr=>?_; obtain ⟨rfl,hC,he,hne,hz,hzd,hz2,hE⟩:=zr
 obtain ⟨hp,g,d,tk,os⟩:=s₁
 repeat (first | with_reducible refine wpAny_loadPart_at he ?_ | with_reducible refine wpAny_loadPart_at hC ?_ | (with_reducible refine wpAny_isSubtype_exc hC ?_; rw [hcB]) | wp_step)
 exact Zco hh hne hz hzd hz2 he hE
theorem OA(F:ExcBaseFacts B newId initId bmB){z:Zo}{mN:Ze}{x:Yz}{np cpos pos:V7}{args:List Vz}{Q:Zb}
  (hbase:bm.contains (.type "BaseException")=true)(hh:A.handled=some (.ref z))(hplain:(backTo cpos (W4 args env)).any (λuu=>uu.1)=false)(hni:mN "__init__"=none)
  (h:Zp (model PW w) A (eval (.Name x np) env) (λf s₁=>f = .ref C/\Zp (model PW w) A (evalArgs (.ref C) true (backTo cpos (W4 args env)) [])
   (λa s₂=>a.kw = []/\a.pos.length<=sizeLine/\s₂.heap.get? C=some (excClassObj nm q C N bs bm hdct sn sub ab col dd k0 k1 k2 k3 k5 newId)/\s₂.heap.Ns N mN/\OwnTail s₂.heap bmB bm /\
    ∃ oz vz,s₂.heap.get? z=some oz/\oz.data = .fields vz/\vz[2]? = some .none /\
    ∀ h' e,Heap.MadeExcOf s₂.heap h' e (.ref C) a.pos->E (.ref e) { s₂ with heap:=h'.update e (ZP (·.setIfInBounds 2 (.ref z))) }) E s₁) E s) :
  Zp (model PW w) A (exec (.Raise (some (.Call (.Name x np) args [] cpos)) none pos) env) Q E s:=by
 rw [arm_exec_Raise]
 refine Zf (wpAny_standAt (Ny (C:=C) (nm:=nm) (q:=q) (N:=N) (bs:=bs) (bm:=bm) (hdct:=hdct) (sn:=sn) (sub:=sub) (ab:=ab) (col:=col) (dd:=dd) (k0:=k0) (k1:=k1) (k2:=k2) (k3:=k3) (k5:=k5) (newId:=newId) hbase hh (Zf (Yr (wpAny_Call_ofName (Yr h (λf s₁ h₁=>?_) λuu uu x=>x)) (λv s₃ h₃=>Zf (wpAny_standAt (Zm h₃))) λuu uu x=>x))))
 obtain ⟨rfl,h₁⟩:=h₁
 refine Zf (Yc (Yr h₁ (λa s₂ h₂=>Zf (wpAny_standAt ?_)) λuu uu x=>x))
 obtain ⟨apos,akw⟩:=a
 obtain ⟨hkw,hlen,hC,hn,T,oz,vz,hz,hzd,hz2,h₂⟩:=h₂
 obtain rfl:akw = []:=hkw
 obtain ⟨hp,g,d,tk,os⟩:=s₂
 rw [hplain]
 refine Zf (wpAny_keeperOf_exc hC ?_)
 refine Zf (wpAny_call_exc_subT (hrest:=hlen) F T hC hn hni λh' e hm=>Zf (Yc (wpAny_point (Zm ?_))))
 refine Gj hm.there λt ht uu uu=>?_
 have hne:z≠e:=λq=>by have:=hm.new; rw [<- q] at this; dsimp only at hz; exact Wu (ZF (ZR this) hz)
 exact⟨e,t,oz,vz,rfl,hm.keeps _ _ hC,ht,hne,hm.keeps _ _ hz,hzd,hz2,h₂ h' e hm⟩
end
structure Ve (H0:Xx)(M:List Zo)(s:Zi)(l:List V0)(e:Zo)(cls a0 c fl:Zh)(s':Zi):Prop where
 ex:∃ B,FlC B l e cls a0 c fl s'.heap/\H0.StaysIn B/\(∀ b o,s.heap.get? b=some o->b∉M->nd o->B.get? b=some o)/\(∀ b o,s.heap.get? b=some o->nd o->∃ o',B.get? b=some o'/\nd o')
 up:∀ b o es n,s.heap.get? b=some o->o.data = .dict es n->∃ sl,s'.heap.get? b=some { o with slots:=sl }
 toks:s.toks<=s'.toks
 gens:VL s.gens->VL s'.gens
 os:s'.os=s.os
section
variable {M':List Zo}{c fl:Zh}
theorem Ve.go(F:Ve H0 M s l e cls a0 c fl s'):Go H0 M s s':=by
 refine Bt F.ex λB hB h0 h1 hp=>?_
 exact⟨λuu b o q=>hB.stays _ _ (h0 b o q),λb o q hm hn=>hB.stays _ _ (h1 b o q hm hn),F.up,λb o q hn=>(hp b o q hn).elim λo' z=>⟨o',hB.stays _ _ z.1,z.2⟩,F.toks,F.gens,F.os⟩
theorem Ve.fly(F:Ve H0 M s l e cls a0 c .none s'):VY H0 M s l e cls a0 [] s':=by
 refine Bt F.ex λB hB h0 h1 hp=>?_
 exact⟨⟨B,hB.flying,h0,h1,hp,YC⟩,YC,F.up,F.toks,F.gens,F.os⟩
theorem Ve.record(F:Ve H0 M s l e cls a0 c fl s'):∃ oe vs,s'.heap.get? e=some oe/\oe.cls=cls/\oe.data = .fields vs/\vs[2]? = some c:=by
 refine XW F.ex λB zq1 uu=>?_; obtain ⟨_,_,_,oe,vs,T,oT,ts,he,hcls,hd,h1,hnT,hTe,hT,hdT,h3,hc⟩:=zq1
 exact⟨oe,vs,he,hcls.1,hd,hc⟩
end
section
variable {c fl:Zh}{Q:Unit->Zi->Prop}
theorem Ve.flight(F:Ve H0 M s l e cls a0 c fl s')(f:Option Zo)(hQ:∀ s'',Ve H0 M s l e cls a0 c (flV f) s''->s'.heap.UpToSlots s''.heap->Q () s''):Zp MM A (setFlight (.ref e) f) Q E s':=by
 refine Bt F.ex λB hB h0 h1 hp=>?_
 refine Ot hB λh' x1 x2=>hQ _ ⟨⟨B,x1,h0,h1,hp⟩,λb o es n q hd=>?_,F.toks,F.gens,F.os⟩ x2
 refine zE (F.up b o es n q hd) λsl h3=>?_
 refine zE (V9 x2 h3 hd) λsl' h4=>?_
 exact⟨sl',h4⟩
theorem Ve.back(F:Ve H0 M s l e cls a0 c fl s')(hf:env.frame=some L)(hQ:∀ s'',Ve H0 M s l e cls a0 c (Xr L) s''->s'.heap.UpToSlots s''.heap->E (.ref e) s''):cameBackBy MM A env E (.ref e) s':=by
 refine Bt F.ex λB hB h0 h1 hp=>?_
 refine Zky hf hB λh' x1 x2=>hQ _ ⟨⟨B,x1,h0,h1,hp⟩,λb o es n q hd=>?_,F.toks,F.gens,F.os⟩ x2
 refine zE (F.up b o es n q hd) λsl h3=>?_
 refine zE (V9 x2 h3 hd) λsl' h4=>?_
 exact⟨sl',h4⟩
theorem Ve.leave(F:Ve H0 M s (env::l) e cls a0 c (Xr L) s')(hf:env.frame=some L)(hQ:∀ s'',VY H0 M s l e cls a0 [] s''->s'.heap.UpToSlots s''.heap->Q () s''):Zp MM A (leaving env (.ref e)) Q E s':=by
 refine Bt F.ex λB hB h0 h1 hp=>?_
 refine Zf (wpAny_noteFrame_againW hf hB.held.2.2.2 ?_)
 refine wpAny_landsW hB.held λh' hfl x2=>?_
 refine Fo hfl λk1 k2 zq2 k4=>?_; obtain ⟨_,_,k3⟩:=zq2
 refine hQ _ ⟨⟨B,⟨k1,k2,k3,k4⟩,h0,h1,hp,YC⟩,YC,λb o es n q hd=>?_,F.toks,F.gens,F.os⟩ x2
 refine zE (F.up b o es n q hd) λsl h3=>?_
 refine zE (V9 x2 h3 hd) λsl' h4=>?_
 exact⟨sl',h4⟩
theorem Cx.noteC(C:Cx H0 A (env::l) M s L m led s'){h':Xx}{oe:Xl}{vs:Array Zh}(hk:∀ b o,s'.heap.get? b=some o->h'.get? b=some o)(hn:s'.heap.get? e=none)(he:h'.get? e=some oe)(hcls:oe.cls=cls)(hd:oe.data = .fields vs)
  (h0:vs[0]? = some a0)(h1:vs[1]? = some .none)(h2:vs[2]? = some c)(hf:env.frame=some L)
  (hQ:∀ s'',Ve H0 [] s' (env::l) e cls a0 c (Xr L) s''->h'.UpToSlots s''.heap->Q () s''):Zp MM A (noteFrame (.ref e) env) Q E { s' with heap:=h' }:=by
 refine zAA C.base λb1 b2 b3=>?_
 have hen:(hideAll s'.heap (VW (env::l))).get? e=none:=by
  cases q:(hideAll s'.heap (VW (env::l))).get? e with
  | none=>rfl
  | some o=>have:=of_hideAll _ q; exact Wu (ZF (ZR hn) this)
 subst hcls
 refine Zjz (s:={ s' with heap:=h' }) C.st.frames (b3.of_keeps λb o hb uu=>⟨o,hk b o hb,rfl⟩) hf he (λb o q=>hk b o (of_hideAll _ q)) hen hd h1 h0 h2 λh'' x1 x2=>?_
 exact hQ _ ⟨⟨_,x1,b1,λb o q uu hn=>b2 b o q hn,λb o q hn=>⟨o,b2 b o q hn,hn⟩⟩,λb o es n q hd=>x2 b o (hk _ _ q) (λvs z=>by rw [hd] at z; cases z),Z6 _,λh=>h,rfl⟩ x2
end
theorem FV.nil:FV [] []:=⟨rfl,λi x h=>by exact Wu h⟩
theorem FV.snoc{vs:List Zh}{xs:List UInt64}(h:FV vs xs)(x:UInt64)(t:W7):FV (vs++[.float x t]) (xs++[x]):=by
 refine⟨by simp [h.len],λi y hy=>?_⟩
 by_cases hi:i<xs.length
 ·rw [YK hi] at hy
  refine zE (h.at_ i y hy) λu hu=>?_
  exact⟨u,by exact ZF (YK (by rw [h.len]; exact hi)) (hu)⟩
 ·have hi':=Xp.mp hi
  rw [Yd hi'] at hy
  have e:i-xs.length=0:=by
   have:=(Z5.mp hy).1; simp at this; omega
  rw [e] at hy; obtain rfl:=Zz hy
  exact⟨t,by rw [Yd (by exact h.len▸hi'),h.len,e]; rfl⟩
theorem Bb{α:Type}{xs:List α}{i:Nat}{x:α}(h:xs[i]? = some x):xs.take (i+1)=xs.take i++[x]:=by
 rw [List.take_add_one,h]; rfl
noncomputable def Ge(xb:UInt64)(ns:List Int):List UInt64:=ns.map λv=>Wx (Yy v) xb
section
variable {α:Type}{M:XJ}
theorem TF{cls msg:String}{Q:α->Zi->Prop}(hp:PlainExc cls)(hh:A.handled=none)
  (h:∀ h' tk e,s.toks<=tk->Heap.NewExc s.heap h' e cls->E (.ref e) { s with heap:=h',toks:=tk }):Zp M A (raiseErrorWords cls msg:Sem α) Q E s:=by
 refine Zf (wpAny_mkText (Zf ?_))
 refine Zf (Xa ?_)
 refine Zf (m:=firstArgMember _ _) (Xk (a:=Yl) (by simp only [firstArgMember,hp.first]; rfl) ?_)
 rw [hp.own]
 refine Xa ?_
 refine Zf (Vd ?_)
 rw [hh]
 first
  | refine JN ?_
  | refine Zf (Zm (JN ?_))
 exact h _ _ _ (Wb _) ⟨λb o hb=>Z0 _ (Z0 _ hb),Heap.get?_none_of_le (by simp),_,.ref s.heap.objs.size,ZK _ rfl,rfl,by exact rfl⟩
end
noncomputable def Zcn(cls:String):PySem.Spec:=λA R s=>A.handled=none/\∀ h' tk e,s.toks<=tk->Heap.NewExc s.heap h' e cls->R (.error (.ref e)) { s with heap:=h',toks:=tk }
theorem Zhr(a:UInt64)(t:W7)(b:UInt64)(u:W7)(hc0:Yp b=true):Meets (Builtin.«float.__truediv__» ⟨[.float a t,.float b u],[]⟩) (Zcn "ZeroDivisionError") :=
 .of_wp λuu w A R s h=>by obtain ⟨hp,g,d,tk,os⟩:=s; wp_walk; exact TF plainExc_ZeroDivisionError h.1 h.2
section
variable {a b:UInt64}{t u:W7}{Q:Za}
theorem Nd(hA:A.handled=none)
  (h0:Yp b=true->∀ h' tk e,s.toks<=tk->Heap.NewExc s.heap h' e "ZeroDivisionError"->E (.ref e) { s with heap:=h',toks:=tk })
  (h1:¬ Yp b=true->Q (.float (X4 a b) s.toks) { s with toks:=s.toks+1 }) :
  Zp (model PW w) A (JY .Div (.float a t) (.float b u)) Q E s:=by
 by_cases hz:Yp b=true
 ·exact binaryOp_meets (op:=.Div) (typeIs_float s a t) (typeIs_float s b u) F.fills_float_truediv F.slot_float_truediv F.entry_float_truediv (F.args_float_truediv_2 _ _) (Zhr a t b u hz) ⟨hA,h0 hz⟩
 ·exact truediv_float_or hA (λq=>absurd q hz) h1
end
theorem Cx.addNew{s':Zi}(C:Cx H0 A l M sE L m led s)(g:Go H0 [] s s'){D:Zo}{o:Xl}(h:Wy s'.heap (D,o))(hn:s.heap.get? D=none)(hd:o.dict=none):Cx H0 A l M sE L m ((D,o)::led) s' :=
 (C.call g).add h (λp hp e=>by have:=(C.has p hp).at_; rw [e,hn] at this; exact Wu this) (by exact hd▸λq=>by cases q)
theorem Cx.sameBut(C:Cx H0 A l M sE L m led s){a:Zo}{h':Xx}(hs:J9 a s.heap h')(hL:a≠L)(hE:sE.heap.get? a=none)(hH:H0.get? a=none)(hfr:∀ e∈l,e.frame≠some a)(hled:∀ p∈led,p.1≠a/\p.2.dict≠some a) :
  Cx H0 A l M sE L m led { s with heap:=h' }:=by
 have neE:∀ {b o},sE.heap.get? b=some o->b≠a:=λe q=>by rw [q,hE] at e; exact Wu e
 have neH:∀ {b o},H0.get? b=some o->b≠a:=λe q=>by rw [q,hH] at e; exact Wu e
 refine⟨⟨λb o e=>(hs.2 b (neH e)).trans (C.st.glob b o e),C.st.frames,λev he=>?_,C.st.toks⟩,⟨λhg b o e=>(hs.2 b (neH e)).trans (C.go.glob hg b o e),λb o e hm hn=>(hs.2 b (neE e)).trans (C.go.nd b o e hm hn),λb o es n e hd=>?_,λb o e hn=>?_,C.go.toks,C.go.gens,C.go.os⟩,?_,C.new,C.top,λp hp=>⟨(hs.2 _ (hled p hp).1).trans (C.has p hp).at_,(C.has p hp).nd,λdx e=>?_⟩,C.dn,C.nodup⟩
 ·refine U3 (C.st.fr ev he) λhk L' o es n h1 h2 h3 h4=>?_
  exact⟨hk,L',o,es,n,h1,h2,(hs.2 _ (λq=>hfr ev he (by rw [h1,q]))).trans h3,h4⟩
 ·refine zE (C.go.up b o es n e hd) λsl h1=>?_
  exact⟨sl,(hs.2 _ (neE e)).trans h1⟩
 ·refine XW (C.go.pres b o e hn) λo' h1 h2=>?_
  exact⟨o',(hs.2 _ (neE e)).trans h1,h2⟩
 ·refine V1 C.ns λo es ep h1 r=>?_
  exact⟨o,es,ep,(hs.2 _ (Ne.symm hL)).trans h1,r⟩
 ·refine XW ((C.has p hp).dx dx e) λo h1 h2=>?_
  exact⟨o,(hs.2 _ (λq=>(hled p hp).2 (by rw [e,q]))).trans h1,h2⟩
theorem Cx.listCompA{elt iter:Vz}{x y:Yz}{px py:V7}{ifs:List Vz}{scope:US}{cl:List (Yz×Zo)}{pos spos:V7}{Q:Zb}{P:Nat->List Zh->W7->Prop}
  (hsw:swapsWith (.ListComp elt [⟨.Name x px,iter,ifs,0⟩] scope pos) (some (.Name y py)) spos.line env=pure true)
  (hh:A.handled=none)(hclos:JU scope env=pure cl)(hcell:∀ y∈scope.names,y.2 ≠ .cell)(hkind:scope.kind = .function)
  (hnames:∀ y∈scope.names,y.2 = .local->scope.names.lookup y.1=some .local)(hx:scope.names.lookup x=some .local)(mono:∀ i acc n n',P i acc n->n<=n'->P i acc n')
  (hL:env.locals=L)(hy:env.kindOf y=some .local)(hp:(env.scope.kind == .class||(env.scope.kind == .module&&env.locals != env.globals))=false)
  (h:Zp (model PW w) A (eval iter env) (λxv s₁=>∃ (a:Zo) (vals:List Zh) (ep j:Nat),xv = .ref a/\vals.length<=1000/\led[j]? = some (a,ZD vals ep)/\Cx H0 A l M sE L m led s₁/\P 0 [] s₁.toks /\
   (∀ I D C,S7 w H0 A l led vals I a D C s₁ x ifs elt (Jl scope cl C env) P) /\
   (∀ D acc c s',Cx H0 A l M sE L (Jh m y (.ref D)) ((D,ZD acc c)::led) s'->P vals.length acc s'.toks->Nw H0 sE D->Q .next s')) E s)
  (hs:∀ x,foldedSetIterable iter env x=pure x:=by intro _; rfl) :
  Zp (model PW w) A (exec (.Assign [.Name y py] (.ListComp elt [⟨.Name x px,iter,ifs,0⟩] scope pos) spos) env) Q E s:=by
 rw [exec_Assign_Name_used _ _ _ _ hsw]
 refine Zf (wpAny_standAt (Zf ?_))
 refine Zf (Yr (wpAny_comprehension_free (use:=some (assign (.Name y py) env)) (Q:=λuu s'=>Q .next s') rfl hs hclos hkind hnames (Yr h (λxv s₁ h₁=>?_) λuu uu e=>e)) (λuu s' hq=>Zm (Zm hq)) λuu uu e=>e)
 refine DL h₁ λa vals ep j zr=>?_; obtain ⟨rfl,hlen,ha,C,h0,turn,k⟩:=zr
 have hal:=C.at j ha
 refine W8 ⟨_,hal,rfl,_,rfl⟩ (Xa (Vv hcell (by intro y hy; simp at hy) (λh₁ hns₁ hsb₁=>?_) hkind) (by show 0<=_; exact Yt _))
 dsimp only at hns₁ hsb₁ ⊢
 have C2:=(C.push (WV a 0) rfl Y5 rfl).push (ZD []) rfl Xe rfl
 have g2:Go H0 [] s₁ { s₁ with heap:=(s₁.heap.push (WV a 0)).push (ZD []) }:=(Go.push (s:=s₁) _).trans (Go.push (s:={ s₁ with heap:=s₁.heap.push (WV a 0) }) _)
 have C3:=C2.inner (k:=0) g2 hns₁ hsb₁
 have nI:s₁.heap.get? s₁.heap.objs.size=none:=XC
 have nD:s₁.heap.get? (s₁.heap.push (WV a 0)).objs.size=none:=Je (by rw [Xq]; exact Wb _)
 have hI:=C.noE nI
 have hD:=C.noE nD
 have nC:=C3.new
 have hCC:=C.noE nC
 have hDC:(s₁.heap.push (WV a 0)).objs.size≠((s₁.heap.push (WV a 0)).push (ZD [])).objs.size:=by rw [Xq (s₁.heap.push (WV a 0))]; exact X7 (YM _)
 have hLC:((s₁.heap.push (WV a 0)).push (ZD [])).objs.size≠L:=λq=>by
  refine V1 C.ns λo es ep' h1 uu=>?_
  rw [<- q,nC] at h1; exact Wu h1
 generalize hCe:((s₁.heap.push (WV a 0)).push (ZD [])).objs.size=Cc at *
 generalize hDe:(s₁.heap.push (WV a 0)).objs.size=D at *
 have loop:Yk (model PW w) A (.compLoop (.ListComp elt [⟨.Name x px,iter,ifs,0⟩] scope pos) 0 (.ref s₁.heap.objs.size) (.ref D) (Jl scope cl Cc env))
   (compPost (model PW w) A E (some (assign (.Name y py) env)) (λuu s'=>Q .next s') (.ref D) Cc) { s₁ with heap:=h₁,toks:=s₁.toks+0 }:=by
  refine Iw (cenv:=Jl scope cl Cc env) (j:=j) (P:=P) hh rfl (show Env.kindOf _ x=_ from lookup_relabel_local hx) (by show(scope.kind == .class||(scope.kind == .module&&_))=false; rw [hkind]; rfl) ha hI.h nI hD.h nD hlen mono (turn _ _ _) (λmC acc c s' C4 hP=>?_) C3 h0
  have C5:=C.addNew C4.go (C4.ok 0 rfl) nD rfl
  show Zp _ A (assign (.Name y py) env (.ref D)) _ _ _
  refine wpAny_assign_Name (C5.rebase.store hL (λs'' C6=>?_) hy hp)
  have C7:=C5.unbase C6
  refine⟨mC,?_,λh' hs'=>?_⟩
  ·refine WT C4.ns λo es ep' h1 h2 r=>?_
   refine zE (C6.go.up Cc o es ep' ((Jg hLC).trans h1) h2) λsl h3=>?_
   exact⟨_,es,ep',h3,h2,r⟩
  ·refine k D acc c _ (C7.sameBut hs' hLC hCC.e hCC.h (λe he q=>?_) λp hp=>?_) (mono _ _ _ _ hP C6.go.toks) hD
   ·refine U3 (C.st.fr e he) λuu L' o es n h1 h2 h3 h4=>?_
    obtain rfl:=Zz (ZF (ZR h1) q); exact Wu (ZF (ZR nC) h3)
   ·rcases Z7.mp hp with rfl | hp
    ·exact⟨hDC,λq=>by exact Wu q⟩
    ·refine⟨λq=>(by have:=(C.has p hp).at_; rw [q,nC] at this; exact Wu this),λq=>?_⟩
     refine XW ((C.has p hp).dx _ q) λo h1 uu=>?_
     exact Wu (ZF (ZR nC) h1)
 refine codeAny_compStart_list loop (wpAny_pyIter_listiter ⟨_,C3.at 1 rfl,rfl,rfl⟩ loop)
noncomputable def JS(xs ys:List UInt64):Option UInt64 :=
 if Yp (BQ (JQ (xs.zip xs)) (JQ (ys.zip ys)))=true then none else some (X4 (JQ (xs.zip ys)) (BQ (JQ (xs.zip xs)) (JQ (ys.zip ys))))
structure Gq (xs ys:List UInt64):Prop where
 len:xs.length=ys.length
 pos:0<xs.length
 xy:Gk (xs.zip ys) z3
 xx:Gk (xs.zip xs) z3
 yy:Gk (ys.zip ys) z3
 sq:Zig (JQ (xs.zip xs)) (JQ (ys.zip ys))
noncomputable def VG:Yz:="at least one of the inputs is constant"
section
variable {c fl:Zh}
theorem Ve.lift(F:Ve H0 [] s l e cls a0 c fl s')(G:Go H0 [] sE s):Ve H0 [] sE l e cls a0 c fl s':=by
 refine Bt F.ex λB hB h0 h1 hp=>?_
 refine⟨⟨B,hB,h0,λb o q uu hn=>h1 b o (G.nd b o q (λh=>nomatch h) hn) (λh=>nomatch h) hn,λb o q hn=>?_⟩,λb o es n q hd=>?_,Zl G.toks F.toks,λz=>F.gens (G.gens z),F.os.trans G.os⟩
 ·refine XW (G.pres b o q hn) λo' z hz=>?_
  exact hp b o' z hz
 ·refine zE (G.up b o es n q hd) λsl h3=>?_
  refine zE (F.up b _ es n h3 hd) λsl' h4=>?_
  exact⟨sl',h4⟩
inductive ExcH (h:Xx)(C:Zo)(bmB:List Zh)(newId:String):Prop
 | mk (bm:List Zh) (N:Zo) (nm qn:Yz) (bs:List Zh) (hdct:Bool) (sn:List Yz) (sub:List Zh) (ab:Bool) (col:Option Bool) (dd:Option Zo) (k0 k1 k2 k3 k5:Option Zh) (mN:Ze)
  (hC:h.get? C=some (excClassObj nm qn C N bs bm hdct sn sub ab col dd k0 k1 k2 k3 k5 newId))(hN:h.Ns N mN)(hni:mN "__init__"=none)(T:OwnTail h bmB bm):ExcH h C bmB newId
theorem NL{K:Frag}{h:Xx}{C:Zo}{bmB:List Zh}{newId:String}(X:K.In h)(q:Zfj K C bmB newId):ExcH h C bmB newId:=by
 obtain ⟨ho,hok,hni,ht⟩:=q
 exact⟨_,_,_,_,_,_,_,_,_,_,_,_,_,_,_,_,_,X _ _ ho,.of_isNs (isNs_of_in X hok),nsMap_none_of_in X hok (by rw [hni]),tail_of_in X ht⟩
end
theorem Cx.toTok{M:List Zo}{sE:Zi}{L:Zo}{m:Ze}{led:Zd}(C:Cx H0 A l M sE L m led s){n:Nat}(h:s.toks<=n):Cx H0 A l M sE L m led { s with toks:=n } :=
 C.ext (s':={ s with toks:=n }) (λuu uu h=>h) h rfl rfl
theorem Ng(G:Gl K H0 mg mb)(F:KG K b){L f:Zo}{cdv:Zh}{m:Ze}{led:Zd}{s1:Zi}{a1 a2:Zo}{vx vy:List Zh}{ex ey:Nat}{xs ys:List UInt64}(i j:Nat)
  (C:Cx H0 (A.deeper (Y3 "correlation" Wh.2.2 L f cdv)) (Y3 "correlation" Wh.2.2 L f cdv::l) [] s L m led s1)
  (hx:m "x"=some (.ref a1))(hy:m "y"=some (.ref a2))(hi:led[i]? = some (a1,ZD vx ex))(hj:led[j]? = some (a2,ZD vy ey))(hvx:FV vx xs)(hvy:FV vy ys)(ok:Gq xs ys)(hroom:A.depth+1<Zr)(hh:A.handled=none){Q:Zb}
  (kok:∀ r t s',JS xs ys=some r->t≠0->Go H0 [] s s'->Q (.ret (.float r t)) s')
  (kno:∀ e t u c s',JS xs ys=none->Ve H0 [] s (Y3 "correlation" Wh.2.2 L f cdv::l) e (.ref b.se) (.ref t) c (Xr L) s'->s'.heap.TupAt t [.str VG u]->E (.ref e) s') :
  Zp (model PW w) (A.deeper (Y3 "correlation" Wh.2.2 L f cdv)) (execs (Wh.2.1.drop 5) (Y3 "correlation" Wh.2.2 L f cdv)) Q E s1:=by
 have hh':(A.deeper (Y3 "correlation" Wh.2.2 L f cdv)).handled=none:=hh
 refine Zg (Zv (Xj (C.globalE G F.nsump (Zs (Zq (C.nameE hx (Zq (C.nameE hy (ZC ?_)))))))))
 refine VA (H0:=H0) C.st.glob (C.ok i hi) (C.ok j hj) (.inl ⟨_,rfl⟩) (.inl ⟨_,rfl⟩) hvx hvy ok.len ok.pos ok.xy hh' λt1 s2 g2=>?_
 refine(C.call g2).setE λs3 C3=>?_
 refine Zg (Zv (Xj (C3.globalE G F.nsump (Zs (Zq (C3.nameE (v:=.ref a1) hx (Zq (C3.nameE (v:=.ref a1) hx (ZC ?_)))))))))
 refine VA (H0:=H0) C3.st.glob (C3.ok i hi) (C3.ok i hi) (.inl ⟨_,rfl⟩) (.inl ⟨_,rfl⟩) hvx hvx rfl ok.pos ok.xx hh' λt2 s4 g4=>?_
 refine(C3.call g4).setE λs5 C5=>?_
 refine Zg (Zv (Xj (C5.globalE G F.nsump (Zs (Zq (C5.nameE (v:=.ref a2) hy (Zq (C5.nameE (v:=.ref a2) hy (ZC ?_)))))))))
 refine VA (H0:=H0) C5.st.glob (C5.ok j hj) (C5.ok j hj) (.inl ⟨_,rfl⟩) (.inl ⟨_,rfl⟩) hvy hvy rfl (ok.len▸ok.pos) ok.yy hh' λt3 s6 g6=>?_
 refine(C5.call g6).setE λs7 C7=>?_
 refine Zg (U4 (Zg (Ym (ZH (C7.nameE (v:=.float (JQ (xs.zip ys)) t1) rfl (Xj (C7.globalE G F.nsqp ?_)))))))
 refine UQ (C7.st.X G) F.ksqp (Zq (C7.nameE (v:=.float (JQ (xs.zip xs)) t2) rfl (Zq (C7.nameE (v:=.float (JQ (ys.zip ys)) t3) rfl (ZC ⟨C7.st.X G,?_⟩)))))
 refine Fp G F C7.st ok.sq hroom hh' λt4 s8 g8=>?_
 have C8:=C7.call g8
 refine Nd hh' (λhz h' tk z htk hm=>?_) λhz=>?_
 ·refine BO hm.there λoz tz hoz hcz hdz=>?_
  have C9:=C8.toTok htk
  refine C9.noteC (h':=h') hm.keeps hm.new hoz hcz hdz rfl rfl rfl rfl λs2 hd2 uu=>?_
  refine hd2.flight none λs3 hd3 uu=>?_
  refine wpAny_handleBy_builtin (X:="ZeroDivisionError") (T:="ZeroDivisionError") (b:=true) PySem.F.isExc_ZeroDivisionError PySem.F.notTuple_ZeroDivisionError (by rw [isSubtype_type]; kernel_rfl) ?_
  refine((C9.call hd3.go).around (A':=(A.deeper (Y3 "correlation" Wh.2.2 L f cdv)).mark (some (.ref z))) rfl).bootE G F.nzde Boot.«ZeroDivisionError» ⟨rfl,hd3.fly.typ,?_⟩
  first | refine YV rfl ?_ | refine YT rfl ?_ | rw [if_pos rfl]
  refine hd3.flight none λs4 hd4 uu=>?_
  have C4:=(C9.call hd4.go).around (A':=(A.deeper (Y3 "correlation" Wh.2.2 L f cdv)).mark (some (.ref z))) rfl
  obtain ⟨bm,N,nm,qn,bs,hdct,sn,sub,ab,col,dd,k0,k1,k2,k3,k5,mN,hC,hN,hni,T⟩:=NL (C4.st.X G) F.exc
  refine BZ hd4.record λoz' vz hz1 hz2 hz3 hz4=>?_
  refine Zg (OA (C:=b.se) (nm:=nm) (q:=qn) (N:=N) (bs:=bs) (bm:=bm) (hdct:=hdct) (sn:=sn) (sub:=sub) (ab:=ab) (col:=col) (dd:=dd) (k0:=k0) (k1:=k1) (k2:=k2) (k3:=k3) (k5:=k5) (mN:=mN) (z:=z) PySem.F.excBase_ValueError (T.hasType PySem.F.excBase_ValueError.hasBase) rfl rfl hni ?_)
  refine C4.globalE G F.nse ⟨rfl,Calls.evalArgs_plain (Zq (Yi (ZC ⟨rfl,by rw [ZW]; show 1<=_; decide,hC,hN,T,oz',vz,hz1,hz3,hz4,λh2 e hm2=>?_⟩)))⟩
  refine Gj hm2.there λtt he htn htt=>?_
  have hte:tt≠e:=λq=>by rw [q,he] at htt; cases htt
  have C5:=C4.tok 1
  refine C5.noteC (h':=h2.update e (ZP (·.setIfInBounds 2 (.ref z)))) (λb' o q=>?_) hm2.new (YS _ he rfl) rfl rfl rfl rfl rfl rfl λs6 hd6 up6=>?_
  ·have hne:e≠b':=λw=>by have:=hm2.new; rw [w] at this; exact Wu (ZF (ZR this) q)
   exact ZF (Yw _ _ hne) (hm2.keeps _ _ q)
  ·refine hd6.back (L:=L) rfl λs7 hd7 up7=>?_
   refine kno e tt s4.toks _ s7 ?_ (hd7.lift C5.go) ?_
   ·delta JS; rw [if_pos hz]
   ·refine Heap.TupAt.of_slots (Heap.TupAt.of_slots (h:=h2.update e (ZP (·.setIfInBounds 2 (.ref z)))) ⟨XX [.str VG s4.toks],0,?_,rfl,rfl⟩ up6) up7
    exact ZF (Yw _ _ (Ne.symm hte)) (htt)
 ·refine kok _ _ _ ?_ (Ys C8.st.toks) (C8.tok 1).go
  delta JS
  first | refine Y6 hz ?_ | refine YR hz ?_ | rw [if_neg hz]
theorem Nh(G:Gl K H0 mg mb)(F:KG K b){L f:Zo}{cdv:Zh}{m:Ze}{led:Zd}{s1:Zi}{a1 a2:Zo}{vx vy:List Zh}{ex ey:Nat}{mv:Yz}{tm:W7}(i j:Nat)
  (C:Cx H0 (A.deeper (Y3 "correlation" Wh.2.2 L f cdv)) (Y3 "correlation" Wh.2.2 L f cdv::l) [] s L m led s1)(hcd:codeIn K cdv "correlation"=true)
  (hx:m "x"=some (.ref a1))(hy:m "y"=some (.ref a2))(hm:m "method"=some (.str mv tm))(hi:led[i]? = some (a1,ZD vx ex))(hj:led[j]? = some (a2,ZD vy ey))(hlen:vx.length=vy.length)(h2:2<=vx.length)(h3:vx.length<=1000)(hmv:mv="linear"\/mv="ranked"){Q:Zb}
  (k:∀ tn s',Cx H0 (A.deeper (Y3 "correlation" Wh.2.2 L f cdv)) (Y3 "correlation" Wh.2.2 L f cdv::l) [] s L (Jh m "n" (.int (vx.length:Int) tn)) led s' ->
   Zp (model PW w) (A.deeper (Y3 "correlation" Wh.2.2 L f cdv)) (execs (Wh.2.1.drop 4) (Y3 "correlation" Wh.2.2 L f cdv)) Q E s') :
  Zp (model PW w) (A.deeper (Y3 "correlation" Wh.2.2 L f cdv)) (execs Wh.2.1 (Y3 "correlation" Wh.2.2 L f cdv)) Q E s1:=by
 refine Zg (Zv (Xj (C.bootE G F.nlen2 Boot.«len» (Zs (Zq (C.nameE hx (ZC (Yo ⟨_,C.at i hi,rfl,ex,rfl⟩ (by rw [ZJ]; lia) ?_))))))))
 refine(C.tok 2).setE λs2 C2=>?_
 refine Zg (Yv (Z8 (Xj (C2.bootE G F.nlen2 Boot.«len» (Zs (Zq (C2.nameE (v:=.ref a2) hy (ZC (Yo ⟨_,C2.at j hj,rfl,ey,rfl⟩ (by rw [ZJ]; lia) ?_)))))))))
 have C3:=C2.tok 2
 refine C3.nameE (v:=.int (vx.toArray.size:Int) (s1.toks+1)) rfl (PySem.P.ne_int (Zu ?_))
 refine Y6 (by simp [hlen]) (Z4 ?_)
 refine Zg (Yv (Z8 (C3.nameE (v:=.int (vx.toArray.size:Int) (s1.toks+1)) rfl (Zt (PySem.P.lt_int (Zu ?_))))))
 refine Y6 (by simp; lia) (Z4 ?_)
 refine Zg (Yv ((C3.tok 1).notinTwo G (mv:=mv) (t:=tm) hm (Zdv hcd) λs5 C5=>?_))
 refine Y6 (by rcases hmv with h | h<;>subst h<;>decide) (Z4 ?_)
 exact k _ _ C5
noncomputable def Ga(ns:List Int)(v:Int):Nat:=2*(ns.countP λx=>decide (x<v))+ns.countP λx=>decide (x=v)
noncomputable def places(ns:List Int):List Int:=ns.map λv=>(Ga ns v:Int)
noncomputable def WA(ns:List Int):List UInt64:=ns.map λv=>hf ((Ga ns v:Int)-ns.length)
noncomputable def valI:Zh->Int
 | .int n _=>n
 | _=>0
theorem IV.map{vals:List Zh}{ns:List Int}(h:IV vals ns):vals.map valI=ns:=by
 refine List.ext_getElem? λi=>?_
 rw [Uv]
 cases q:ns[i]? with
 | none=>rw [XS (by exact h.len▸Vm.mp q)]; rfl
 | some n=>refine zE (h.at_ i n q) λt ht=>?_; rw [ht]; rfl
theorem IV.mem{vals:List Zh}{ns:List Int}(h:IV vals ns){v:Zh}(hv:v∈vals):∃ n t,v = .int n t:=by
 refine zM hv λi hi e=>?_
 obtain ⟨n,hn⟩:∃ n,ns[i]? = some n:=⟨_,ZE (by exact h.len▸hi)⟩
 refine zE (h.at_ i n hn) λt ht=>?_
 rw [ZE hi,e] at ht
 exact⟨n,t,Zz ht⟩
theorem IV.countP{vals:List Zh}{ns:List Int}(h:IV vals ns)(p:Zh->Bool)(q:Int->Bool)(hpq:∀ n t,p (.int n t)=q n):vals.countP p=ns.countP q:=by
 rw [<- h.map,List.countP_map]
 refine List.countP_congr λv hv=>?_
 refine zEE (h.mem hv) λn t zr=>?_; obtain rfl:=zr
 rw [hpq]; rfl
theorem Fe.fv{z:Int}{vals rvals:List Zh}{ns:List Int}{tk:Nat}(h:Fe Jw false z vals rvals tk)(KL:GG Jw vals)(iv:IV vals ns)(hz:z = - (ns.length:Int)-1):FV rvals (WA ns):=by
 refine zA (h.at KL) λhl hr=>?_
 refine⟨by rw [hl,iv.len]; simp [WA],λi x hx=>?_⟩
 rw [WA,Uv] at hx
 cases q:ns[i]? with
 | none=>rw [q] at hx; exact Wu hx
 | some n=>
  rw [q] at hx
  refine zE (iv.at_ i n q) λu hu=>?_
  refine zE (hr i _ hu) λt ht=>?_
  refine⟨t,?_⟩
  rw [ht]
  have e1:(vals.countP λx=>Jw.lt x (.int n u))=ns.countP λx=>decide (x<n):=iv.countP _ _ λm t=>rfl
  have e2:(vals.countP λx=>Jw.eq x (.int n u))=ns.countP λx=>decide (x=n):=iv.countP _ _ λm t=>by show(m==n)=_; rw [Bool.eq_iff_iff]; simp
  have hx':hf ((Ga ns n:Int)-ns.length)=x:=by simpa using hx
  rw [e1,e2,<- hx']
  have e3:z+2*((ns.countP λx=>decide (x<n)):Int)+((ns.countP λx=>decide (x=n)):Int)+1=(Ga ns n:Int)-ns.length:=by
   delta Ga; push_cast; lia
  rw [e3]
theorem Zkt{n:Int}(h0:0<n)(h:n.natAbs<=2^50){t u:W7}{Q:Za}(k:Q (.float (hf (-n)) s.toks) { s with toks:=s.toks+1 }):Zp (model PW w) A (JY .Div (.int n t) (.int (-2) u)) Q E s:=by
 have e:Float64.ofFrac (decide (n<0) != decide ((-2:Int)<0)) n.natAbs (-2:Int).natAbs=hf (-n):=by
  show Float64.ofFrac _ n.natAbs 2=Float64.ofFrac (decide (-n<0)) (-n).natAbs 2
  have:(decide (n<0) != decide ((-2:Int)<0))=decide (-n<0):=by
   rw [show decide ((-2:Int)<0)=true from rfl,decide_eq_false (by lia   : ¬ n<0),decide_eq_true (by lia   : -n<0)]; rfl
  rw [this]; rw [Jy]
 refine AutoIntOps.truediv_2 (by decide) ?_ ?_
 ·rw [e,Iv (by grind)]; decide
 ·show Q _ _
  exact e▸k
theorem Ho(v1 v2 v3:Zh):∀ n,∀ x∈[(Zj "x",v1),(Zj "y",v2),(Zj "method",v3)],Wh.2.2.names.lookup x.1=some .local\/(Wh.2.2.names.lookup x.1=some .cell/\((Xi n Wh.2.2.names []).lookup x.1).isSome=true):=by
 intro n x hx
 rcases Z7.mp hx with rfl | hx
 ·exact .inl rfl
 rcases Z7.mp hx with rfl | hx
 ·exact .inl rfl
 exact(Zk.mp hx) ▸ .inl rfl
theorem Cx.linCompA(C:Cx H0 A l M sE L m led s){xi xb x y:Yz}{py spos:V7}{p1 p2 p3 px pi pos:V7}{scope:US}{cl:List (Yz×Zo)}{c:Zo}{f:UInt64}{t:W7}{a:Zo}{vals:List Zh}{ns:List Int}{ep:Nat}{Q:Zb}(i j:Nat)
  (hc:led[i]? = some (c,UM (some (.float f t))))(hx:m x=some (.ref a))(hl:led[j]? = some (a,ZD vals ep))(hv:IV vals ns)(hb:∀ v∈ns,v.natAbs<2^1023)(hlen:ns.length<=1000)(hh:A.handled=none)
  (k:∀ D acc c' s',Cx H0 A l M sE L (Jh m y (.ref D)) ((D,ZD acc c')::led) s'->FV acc (Ge f ns)->Nw H0 sE D->Q .next s')
  (hsw:swapsWith (.ListComp (.BinOp (.Name xi p1) .Sub (.Name xb p2) p3) [⟨.Name xi px,.Name x pi,[],0⟩] scope pos) (some (.Name y py)) spos.line env=pure true:=by rfl)(hky:env.kindOf y=some .local:=by rfl)(hL:env.locals=L:=by rfl)(hk:env.scope.kind = .function:=by rfl)(hkx:env.kindOf x=some .local:=by rfl)(hdx:(x==("__debug__" : Yz))=false:=by decide)
  (hclos:JU scope env=pure cl:=by rfl)(hcell:∀ y∈scope.names,y.2 ≠ .cell:=by decide)(hkind:scope.kind = .function:=by rfl)(hnames:∀ y∈scope.names,y.2 = .local->scope.names.lookup y.1=some .local:=by decide)(hxi:scope.names.lookup xi=some .local:=by rfl)
  (hdi:(xi==("__debug__" : Yz))=false:=by decide)(hdb:(xb==("__debug__" : Yz))=false:=by decide)(hcl:cl.lookup xb=some c:=by rfl)(hkb:∀ C,(Jl scope cl C env).kindOf xb=some .cell:=by intro _; rfl)(hki:∀ C,(Jl scope cl C env).kindOf xi=some .local:=by intro _; rfl) :
  Zp (model PW w) A (exec (.Assign [.Name y py] (.ListComp (.BinOp (.Name xi p1) .Sub (.Name xb p2) p3) [⟨.Name xi px,.Name x pi,[],0⟩] scope pos) spos) env) Q E s:=by
 refine Cx.listCompA (led:=led) (P:=λi acc uu=>FV acc (Ge f (ns.take i))) hsw hh hclos hcell hkind hnames hxi (λuu uu uu uu h uu=>h) hL hky (by rw [hk]; rfl) (C.nameE hx ⟨a,vals,ep,j,rfl,by exact hv.len▸hlen,hl,C,FV.nil,λI D C1=>?_,λD acc c' s' C' h n=>k D acc c' s' C' (by rw [hv.len] at h; have h2:FV acc (Ge f (ns.take ns.length)):=h; rw [Vi] at h2; exact h2) n⟩ hL hk hkx hdx)
 ·intro i' v acc c1 mC s1 E' hvi hP hm C2
  rw [List.forIn_nil]
  refine Zm ?_
  first | refine YV rfl ?_ | refine YT rfl ?_ | rw [if_pos rfl]
  have hlt:i'<ns.length:=by exact hv.len▸(Z5.mp hvi).1
  obtain ⟨n,hn⟩:∃ n,ns[i']? = some n:=⟨_,ZE hlt⟩
  refine zE (hv.at_ i' n hn) λu hu=>?_
  obtain rfl:=Zz (ZF (ZR hvi) hu)
  have hbn:=hb n (ZG hn)
  refine ZH (C2.nameE (env:=Jl scope cl C1 env) hm (C2.ldCell (env:=Jl scope cl C1 env) (i+2) (by simpa using hc) hcl (sub_if_fits hbn ⟨C2.tok 1,?_⟩) hkind (hkb C1) hdb) rfl hkind (hki C1) hdi)
  show FV _ (Ge f (ns.take (i'+1)))
  rw [Bb hn,show Ge f (ns.take i'++[n])=Ge f (ns.take i')++[Wx (Yy n) f] from WZ]
  exact hP.snoc _ _
noncomputable def UT(ns:List Int):UInt64:=X4 (hf (2*ns.sum)) (Yy ns.length)
noncomputable def Wl(ns:List Int):List UInt64:=Ge (UT ns) ns
theorem Ju{n:Nat}(h:n<=1000):¬ PySem.Flt.Over (n:Int):=KJ (by lia)
end
section
open PySem PySem.W PySem.Calls PyProof.Rows PySem.Spec
open Builtin Builtin.Str Builtin.BaseException Builtin.Exceptions
structure OC (h:Xx)(e C t0:Zo):Prop where
 ex:∃ o vs,h.get? e=some o/\o.cls = .ref C/\o.data = .fields vs/\vs[0]? = some (.ref t0)
theorem OC.type{M:XJ}{h:Xx}{e C t0:Zo}(x:OC h e C t0):Ui M h (typeOf (.ref e)) (.ref C):=by
 refine BO x.ex λo vs h1 h2 uu=>?_
 exact h2▸(JZ h1).andThen .now
section
variable {prog:Program}{C t0:Zo}
theorem N6{M:XJ}{items:List Zh}{Q:Zh×List Zh->Zi->Prop}(x:OC s.heap e C t0)(ht:s.heap.TupAt t0 items)(hq:Q (.ref t0,items) s):Zp M A (bexcArgs (.ref e)) Q E s:=by
 refine BZ x.ex λo vs ho uu hd h0=>?_
 refine BO ht λot k hto uu htd=>?_
 refine Zf (YA ho hd h0 (Zf (YJ hto htd ?_)))
 have:items.toArray.toList=items:=by simp
 exact Zm hq
theorem TU{m:Yz}{tk:W7}{Q:Za}(X:K.In s.heap)(hm:mroIn K C (.type "BaseException")=some true)(x:OC s.heap e C t0)(ht:s.heap.TupAt t0 [.str m tk])(hq:Q (.str m tk) s) :
  Zp (model prog w) A (call (.builtin "BaseException.__str__") [.ref e]) Q E s:=by
 refine Y7 (Jm (by decide +kernel) PySem.F.entry_bexc_str (check_slot (i:="BaseException.__str__") (owner:="BaseException") (n:="__str__") (by decide +kernel) (by decide +kernel) (x.type.andThen (UK X hm)) (PySem.F.args_bexc_str _) ?_))
 repeat (first | with_reducible refine N6 x ht ?_ | wp_step)
 exact hq
theorem Zag{m:Yz}{tk:W7}{Q:Za}(hu:A.units<Vh)(X:K.In s.heap)(hs:findIn K (.ref C) "__str__"=some (some (.builtin "BaseException.__str__")))(hm:mroIn K C (.type "BaseException")=some true)(x:OC s.heap e C t0)(ht:s.heap.TupAt t0 [.str m tk])(hq:Q (.str m tk) s) :
  Zp (model prog w) A (PySem.Builtin.Str.strOf (.ref e)) Q E s:=by
 delta PySem.Builtin.Str.strOf
 rw [show isExactStr (.ref e)=false from rfl]
 refine Zf (m:=cRoomFor _ _) (wpAny_cRoomFor hu ?_)
 refine Zf (m:=callSpecial? (.ref e) (Zj "__str__")) ?_
 refine Zf (Zf (x.type.here ((WK X hs).here (Yc (Zf ((Looks.of_pure (PySem.F.excStr_ValueError.str.bind _)).here (Zf ?_)))))))
 refine TU X hm x ht (Zm ?_)
 exact Zm hq
theorem Zgk{m:Yz}{tk:W7}{Q:Za}(hu:A.units+2<Vh)(X:K.In s.heap)(hs:findIn K (.ref C) "__str__"=some (some (.builtin "BaseException.__str__")))(hm:mroIn K C (.type "BaseException")=some true)(x:OC s.heap e C t0)(ht:s.heap.TupAt t0 [.str m tk])(hq:Q (.str m tk) s) :
  Zp (model prog w) A (call (.type "str") [.ref e]) Q E s :=
 callType_new PySem.F.called_str (by decide) (PySem.F.typeCall_str_1 _) (PySem.F.newCall_str_1 _) (λobj=>PySem.F.args_object_init_2 obj _) PySem.F.entry_str_new
  (meets_str_new (S:=λA' R s'=>A'.units+1<Vh/\K.In s'.heap/\OC s'.heap e C t0/\s'.heap.TupAt t0 [.str m tk]/\R (.ok (.ret (.str m tk))) s')
   λuu uu A' uu uu hq=>Zag (A:=A'.in1) hq.1 hq.2.1 hs hm hq.2.2.1 hq.2.2.2.1 hq.2.2.2.2)
  ⟨(show A.units+1+1<Vh from hu),X,x,ht,typeIs_str _ _ _,hq⟩
end
end
section
open PySem PySem.W PySem.Calls PyProof.Rows PySem.Spec
theorem Cx.raiseSE(G:Gl K H0 mg mb)(F:KG K b)(C:Cx H0 A l M sE L m led s){msg:Yz}{k:Nat}{p np cpos pos:V7}{Q:Zb}(hh:A.handled=none)
  (hg:env.globals=Zw)(hk:env.scope.kind = .function)(hx:env.kindOf (Zj "StatisticsError")=some .globalImplicit)
  (h:∀ h' e,Heap.MadeExcOf s.heap h' e (.ref b.se) [.str msg s.toks]->E (.ref e) { (tk s 1) with heap:=h' }) :
  Zp (model PW w) A (exec (.Raise (some (.Call (.Name (Zj "StatisticsError") np) [.Constant (.str msg) k p] [] cpos)) none pos) env) Q E s:=by
 obtain ⟨bm,N,nm,qn,bs,hdct,sn,sub,ab,col,dd,k0,k1,k2,k3,k5,mN,hC,hN,hni,T⟩:=NL (C.st.X G) F.exc
 refine wpAny_Raise_call_subT (C:=b.se) (nm:=nm) (q:=qn) (N:=N) (bs:=bs) (bm:=bm) (hdct:=hdct) (sn:=sn) (sub:=sub) (ab:=ab) (col:=col) (dd:=dd) (k0:=k0) (k1:=k1) (k2:=k2) (k3:=k3) (k5:=k5) (mN:=mN) PySem.F.excBase_ValueError (T.hasType PySem.F.excBase_ValueError.hasBase) hh rfl hni ?_
 refine C.globalE G F.nse ⟨rfl,Calls.evalArgs_plain (Zq (Yi (ZC ⟨rfl,by rw [ZW]; show 1<=_; decide,hC,hN,T,λh' e hm=>?_⟩)))⟩ hg hk hx
 exact h h' e hm
noncomputable abbrev xyB(vx vy:Zh):List (Yz×Zh):=[(Zj "x",vx),(Zj "y",vy)]
theorem Nf(v1 v2:Zh):∀ n,∀ x∈xyB v1 v2,Gf.2.2.names.lookup x.1=some .local\/(Gf.2.2.names.lookup x.1=some .cell/\((Xi n Gf.2.2.names []).lookup x.1).isSome=true):=by
 exact λn=>Xu (.inl rfl) (Wo (.inl rfl))
noncomputable def KZ:Yz:="covariance requires that both inputs have same number of data points"
noncomputable def Fb:Yz:="covariance requires at least two data points"
theorem Zhw(G:Gl K H0 mg mb)(F:KG K b)(S:St H0 A l s){xl yl:Zo}{vx vy:List Zh}{ex ey i j:Nat}{led0:Zd}(L0:Lg s.heap led0)(hi:led0[i]? = some (xl,ZD vx ex))(hj:led0[j]? = some (yl,ZD vy ey))(hx3:vx.length<=1000)(hy3:vy.length<=1000)
  {msg:Yz}(bad:(vx.length≠vy.length/\msg=KZ)\/(vx.length=vy.length/\vx.length<2/\msg=Fb))(hroom:A.depth<Zr)(hh:A.handled=none){R:Zc}
  (k:∀ e t u s',VY H0 [] s l e (.ref b.se) (.ref t) [] s'->s'.heap.TupAt t [.str msg u]->R (.error (.ref e)) s'):Yk (model PW w) A (.call (.ref b.cov) ⟨[.ref xl,.ref yl],[]⟩) R s:=by
 refine BH G S F.cov [] hroom (by intro n; show([Zj "ybar",Zj "xbar"]:List Yz).Nodup; decide) (B:=λuu=>xyB (.ref xl) (.ref yl)) (λname doc pm an cdv ct Q E' k=>Xk (a:=xyB (.ref xl) (.ref yl)) rfl (k 0)) (λuu=>Nf _ _) L0 λL cdv uu s1 hcd C uu=>?_
 have hh':(A.deeper (Y3 "covariance" Gf.2.2 L b.cov cdv)).handled=none:=hh
 have up:∀ {n:Nat} {p:Zo×Xl},led0[n]? = some p->(VJ (Xi (L+1) Gf.2.2.names []) (bindC (Y3 "covariance" Gf.2.2 L b.cov cdv).kindOf (xyB (.ref xl) (.ref yl)) λuu=>none)++led0)[n+2]? = some p:=λ{n p} h=>by
  rw [Yd (by exact YL 2 n)]
  exact h
 have hi':=up hi
 have hj':=up hj
 refine Zg (Zv (Xj (C.bootE G F.nlen2 Boot.«len» (Zs (Zq (C.nameE (v:=.ref xl) rfl (ZC (Yo ⟨_,C.at _ hi',rfl,ex,rfl⟩ (by rw [ZJ]; lia) ?_))))))))
 refine(C.tok 2).setE λs2 C2=>?_
 refine Zg (Yv (Z8 (Xj (C2.bootE G F.nlen2 Boot.«len» (Zs (Zq (C2.nameE (v:=.ref yl) rfl (ZC (Yo ⟨_,C2.at _ hj',rfl,ey,rfl⟩ (by rw [ZJ]; lia) ?_)))))))))
 have C3:=C2.tok 2
 refine C3.nameE (v:=.int (vx.toArray.size:Int) (s1.toks+1)) rfl (PySem.P.ne_int (Zu ?_))
 rcases bad with ⟨hne,rfl⟩ | ⟨he,h2,rfl⟩
 ·refine YV (by simp; lia) ?_
  refine Zg (C3.raiseSE G F hh' rfl rfl rfl λh' e hm=>?_)
  exact(C3.tok 1).raised hm rfl λt s'' fl tp=>k e t _ s'' (fl.with [] YC) tp
 ·refine Y6 (by simp [he]) (Z4 ?_)
  refine Zg (Yv (Z8 (C3.nameE (v:=.int (vx.toArray.size:Int) (s1.toks+1)) rfl (Zt (PySem.P.lt_int (Zu ?_))))))
  refine YV (by simp; lia) ?_
  have C4:=C3.tok 1
  refine Zg (C4.raiseSE G F hh' rfl rfl rfl λh' e hm=>?_)
  exact(C4.tok 1).raised hm rfl λt s'' fl tp=>k e t _ s'' (fl.with [] YC) tp
noncomputable abbrev K5(vx vy:Zh)(pp:Bool):List (Yz×Zh):=[(Zj "x",vx),(Zj "y",vy),(Zj "proportional",.bool pp)]
noncomputable def Nx(vx vy:Zh)(pp:Bool):Args:=⟨[vx,vy],if pp=true then [(Zj "proportional",.bool true)] else []⟩
theorem Ky(F:KG K b)(X:K.In s.heap){x y:Zh}{pp:Bool}{name:Yz}{doc pm:Zh}{an:Option Zo}{cdv ct:Zh}{Q:List (Yz×Zh)->Zi->Prop}
  (k:Q (K5 x y pp) s) :
  Zp (model PW w) A (bindArgs (JC name "linear_regression" Us.1 Us.2.1 Us.2.2 .none (.ref b.regK) doc pm an cdv ct) (Nx x y pp)) Q E s:=by
 cases pp with
 | true=>exact Xk (a:=K5 x y true) rfl k
 | false=>
  refine Zf (Xk (a:=([(Zj "x",x),(Zj "y",y)],[])) rfl ?_)
  refine Zf (Xk (a:=none) rfl ?_)
  refine YR Zn ?_
  refine YR Zn ?_
  refine Zf (Xk (a:=[(Zj "x",x),(Zj "y",y)]) rfl ?_)
  refine Zf (Ke (λuu=>.bool false) _ _ _ (λn hn=>?_) ?_)
  ·have hn2:n∈[Zj "proportional"]:=hn
   exact(Zk.mp hn2)▸looks_nsIn X F.dprop
  refine YR Zn ?_
  exact Zm k
theorem Ik(v1 v2:Zh)(pp:Bool):∀ n,∀ x∈K5 v1 v2 pp,Us.2.2.names.lookup x.1=some .local\/(Us.2.2.names.lookup x.1=some .cell/\((Xi n Us.2.2.names []).lookup x.1).isSome=true):=by
 exact λn=>Xu (.inl rfl) (Xu (.inl rfl) (Wo (.inl rfl)))
noncomputable def Kz:Yz:="linear regression requires that both inputs have same number of data points"
noncomputable def K0:Yz:="linear regression requires at least two data points"
theorem Zgg(G:Gl K H0 mg mb)(F:KG K b)(S:St H0 A l s){xl yl:Zo}{pp:Bool}{vx vy:List Zh}{ex ey i j:Nat}{led0:Zd}(L0:Lg s.heap led0)(hi:led0[i]? = some (xl,ZD vx ex))(hj:led0[j]? = some (yl,ZD vy ey))(hx3:vx.length<=1000)(hy3:vy.length<=1000)
  {msg:Yz}(bad:(vx.length≠vy.length/\msg=Kz)\/(vx.length=vy.length/\vx.length<2/\msg=K0))(hroom:A.depth<Zr)(hh:A.handled=none){R:Zc}
  (k:∀ e t u s',VY H0 [] s l e (.ref b.se) (.ref t) [] s'->s'.heap.TupAt t [.str msg u]->R (.error (.ref e)) s'):Yk (model PW w) A (.call (.ref b.reg) (Nx (.ref xl) (.ref yl) pp)) R s:=by
 refine BH G S F.reg [] hroom (by intro n; show([Zj "ybar",Zj "xbar"]:List Yz).Nodup; decide) (B:=λuu=>K5 _ _ _) (λname doc pm an cdv ct Q E' k=>Ky F (S.X G) (k 0)) (λuu=>Ik _ _ _) L0 λL cdv uu s1 hcd C uu=>?_
 have hh':(A.deeper (Y3 "linear_regression" Us.2.2 L b.reg cdv)).handled=none:=hh
 have up:∀ {n:Nat} {p:Zo×Xl},led0[n]? = some p->(VJ (Xi (L+1) Us.2.2.names []) (bindC (Y3 "linear_regression" Us.2.2 L b.reg cdv).kindOf (K5 (.ref xl) (.ref yl) pp) λuu=>none)++led0)[n+2]? = some p:=λ{n p} h=>by
  rw [Yd (by exact YL 2 n)]
  exact h
 have hi':=up hi
 have hj':=up hj
 refine Zg (Zv (Xj (C.bootE G F.nlen2 Boot.«len» (Zs (Zq (C.nameE (v:=.ref xl) rfl (ZC (Yo ⟨_,C.at _ hi',rfl,ex,rfl⟩ (by rw [ZJ]; lia) ?_))))))))
 refine(C.tok 2).setE λs2 C2=>?_
 refine Zg (Yv (Z8 (Xj (C2.bootE G F.nlen2 Boot.«len» (Zs (Zq (C2.nameE (v:=.ref yl) rfl (ZC (Yo ⟨_,C2.at _ hj',rfl,ey,rfl⟩ (by rw [ZJ]; lia) ?_)))))))))
 have C3:=C2.tok 2
 refine C3.nameE (v:=.int (vx.toArray.size:Int) (s1.toks+1)) rfl (PySem.P.ne_int (Zu ?_))
 rcases bad with ⟨hne,rfl⟩ | ⟨he,h2,rfl⟩
 ·refine YV (by simp; lia) ?_
  refine Zg (C3.raiseSE G F hh' rfl rfl rfl λh' e hm=>?_)
  exact(C3.tok 1).raised hm rfl λt s'' fl tp=>k e t _ s'' (fl.with [] YC) tp
 ·refine Y6 (by simp [he]) (Z4 ?_)
  refine Zg (Yv (Z8 (C3.nameE (v:=.int (vx.toArray.size:Int) (s1.toks+1)) rfl (Zt (PySem.P.lt_int (Zu ?_))))))
  refine YV (by simp; lia) ?_
  have C4:=C3.tok 1
  refine Zg (C4.raiseSE G F hh' rfl rfl rfl λh' e hm=>?_)
  exact(C4.tok 1).raised hm rfl λt s'' fl tp=>k e t _ s'' (fl.with [] YC) tp
noncomputable def B9(vx vy:Zh)(mo:Option (Yz×W7)):Args:=⟨[vx,vy],match mo with | some (mv,t)=>[(Zj "method",.str mv t)] | none=>[]⟩
noncomputable def UP(mo:Option (Yz×W7)):Yz:=match mo with | some (mv,_)=>mv | none=>Zj "linear"
theorem Ni(F:KG K b)(X:K.In s.heap){x y:Zh}{mo:Option (Yz×W7)}{name:Yz}{doc pm:Zh}{an:Option Zo}{cdv ct:Zh}{Q:List (Yz×Zh)->Zi->Prop}
  (k:∀ t,Q [(Zj "x",x),(Zj "y",y),(Zj "method",.str (UP mo) t)] s) :
  Zp (model PW w) A (bindArgs (JC name "correlation" Wh.1 Wh.2.1 Wh.2.2 .none (.ref b.corrK) doc pm an cdv ct) (B9 x y mo)) Q E s:=by
 cases mo with
 | some p=>exact HV (k p.2)
 | none=>exact Fy F X k
noncomputable def HW:Yz:="correlation requires that both inputs have same number of data points"
noncomputable def HX:Yz:="correlation requires at least two data points"
noncomputable def Uo(mv:Yz):Yz:=Str.empty++Zj "Unknown method: "++reprText mv
theorem O5(G:Gl K H0 mg mb)(F:KG K b)(S:St H0 A l s){xl yl:Zo}{mo:Option (Yz×W7)}{vx vy:List Zh}{ex ey i j:Nat}{led0:Zd}(L0:Lg s.heap led0)(hi:led0[i]? = some (xl,ZD vx ex))(hj:led0[j]? = some (yl,ZD vy ey))(hx3:vx.length<=1000)(hy3:vy.length<=1000)
  {msg:Yz} {cls:Zh} (bad:(vx.length≠vy.length/\msg=HW/\cls = .ref b.se)\/(vx.length=vy.length/\vx.length<2/\msg=HX/\cls = .ref b.se) \/
   (vx.length=vy.length/\2<=vx.length/\UP mo≠"linear"/\UP mo≠"ranked"/\msg=Uo (UP mo)/\(reprText (UP mo)).length<=100/\(Uo (UP mo)).length<=200/\cls = .type "ValueError")) (hroom:A.depth<Zr) (hh:A.handled=none) {R:Zc}
  (k:∀ e t u s',VY H0 [] s l e cls (.ref t) [] s'->s'.heap.TupAt t [.str msg u]->R (.error (.ref e)) s'):Yk (model PW w) A (.call (.ref b.corr) (B9 (.ref xl) (.ref yl) mo)) R s:=by
 refine BH G S F.corr [] hroom (by intro n; show([Zj "ybar",Zj "xbar"]:List Yz).Nodup; decide) (B:=λt=>[(Zj "x",_),(Zj "y",_),(Zj "method",.str (UP _) t)]) (λname doc pm an cdv ct Q E' k=>Ni F (S.X G) k) (λuu=>Ho _ _ _) L0 λL cdv tm s1 hcd C uu=>?_
 have hh':(A.deeper (Y3 "correlation" Wh.2.2 L b.corr cdv)).handled=none:=hh
 have up:∀ {n:Nat} {p:Zo×Xl},led0[n]? = some p->(VJ (Xi (L+1) Wh.2.2.names []) (bindC (Y3 "correlation" Wh.2.2 L b.corr cdv).kindOf [(Zj "x",.ref xl),(Zj "y",.ref yl),(Zj "method",.str (UP mo) tm)] λuu=>none)++led0)[n+2]? = some p:=λ{n p} h=>by
  rw [Yd (by exact YL 2 n)]
  exact h
 have hi':=up hi
 have hj':=up hj
 refine Zg (Zv (Xj (C.bootE G F.nlen2 Boot.«len» (Zs (Zq (C.nameE (v:=.ref xl) rfl (ZC (Yo ⟨_,C.at _ hi',rfl,ex,rfl⟩ (by rw [ZJ]; lia) ?_))))))))
 refine(C.tok 2).setE λs2 C2=>?_
 refine Zg (Yv (Z8 (Xj (C2.bootE G F.nlen2 Boot.«len» (Zs (Zq (C2.nameE (v:=.ref yl) rfl (ZC (Yo ⟨_,C2.at _ hj',rfl,ey,rfl⟩ (by rw [ZJ]; lia) ?_)))))))))
 have C3:=C2.tok 2
 refine C3.nameE (v:=.int (vx.toArray.size:Int) (s1.toks+1)) rfl (PySem.P.ne_int (Zu ?_))
 rcases bad with ⟨hne,rfl,rfl⟩ | ⟨he,h2,rfl,rfl⟩ | ⟨he,h2,m1,m2,rfl,r1,r2,rfl⟩
 ·refine YV (by simp; lia) ?_
  refine Zg (C3.raiseSE G F hh' rfl rfl rfl λh' e hm=>?_)
  exact(C3.tok 1).raised hm rfl λt s'' fl tp=>k e t _ s'' (fl.with [] YC) tp
 ·refine Y6 (by simp [he]) (Z4 ?_)
  refine Zg (Yv (Z8 (C3.nameE (v:=.int (vx.toArray.size:Int) (s1.toks+1)) rfl (Zt (PySem.P.lt_int (Zu ?_))))))
  refine YV (by simp; lia) ?_
  have C4:=C3.tok 1
  refine Zg (C4.raiseSE G F hh' rfl rfl rfl λh' e hm=>?_)
  exact(C4.tok 1).raised hm rfl λt s'' fl tp=>k e t _ s'' (fl.with [] YC) tp
 ·refine Y6 (by simp [he]) (Z4 ?_)
  refine Zg (Yv (Z8 (C3.nameE (v:=.int (vx.toArray.size:Int) (s1.toks+1)) rfl (Zt (PySem.P.lt_int (Zu ?_))))))
  refine Y6 (by simp; lia) (Z4 ?_)
  refine Zg (Yv ((C3.tok 1).notinTwo G (mv:=UP mo) (t:=tm) rfl (Zdv hcd) λs5 C5=>?_))
  refine YV ?_ ?_
  ·rw [decide_eq_false m1,decide_eq_false m2]; rfl
  refine Zg (Raise_madeB PySem.F.excCall_ValueError PySem.F.excRaise_ValueError hh' (C5.bootE G F.nve Boot.«ValueError» ⟨rfl,Zq (wpAny_JoinedStr ?_)⟩))
  refine Yi ⟨_,_,rfl,by decide,?_⟩
  have C6:=C5.tok 1
  refine wpAny_FormattedValue_repr (C6.nameE (v:=.str (UP mo) tm) rfl (pyReprObj_str ?_ (Zl r1 (by decide))))
  have C7:=C6.tok 1
  have hs1:(reprText (UP mo)).length<=sizeLine:=Zl r1 (by decide)
  have hs2:(Uo (UP mo)).length<=sizeLine:=Zl r2 (by decide)
  refine wpAny_handedOn ?_ ?_ hs1
  ·refine⟨_,_,rfl,hs2,hs2,?_⟩
   refine ZC ⟨by show 1<=_; decide,λh' e hm=>?_⟩
   exact(C7.tok 1).raised (Ja.of hm) rfl λt s'' fl tp=>k e t _ s'' (fl.with [] YC) tp
  ·refine⟨_,_,rfl,hs2,hs2,?_⟩
   refine ZC ⟨by show 1<=_; decide,λh' e hm=>?_⟩
   exact((C7.tok 1).tok 1).raised (Ja.of hm) rfl λt s'' fl tp=>k e t _ s'' (fl.with [] YC) tp
noncomputable abbrev Zhz(L:Zo)(xl yl:Zo)(mv:Yz)(tm:W7)(cdv:Zh)(f:Zo)(led0:Zd):Zd:=VJ (Xi (L+1) Wh.2.2.names []) (bindC (Y3 "correlation" Wh.2.2 L f cdv).kindOf [(Zj "x",.ref xl),(Zj "y",.ref yl),(Zj "method",.str mv tm)] λuu=>none)++led0
theorem Zes{L xl yl f:Zo}{mv:Yz}{tm:W7}{cdv:Zh}{led0:Zd}{n:Nat}{p:Zo×Xl}(h:led0[n]? = some p):(Zhz L xl yl mv tm cdv f led0)[n+2]? = some p:=by
 rw [Yd (by exact YL 2 n)]
 exact h
theorem NT(G:Gl K H0 mg mb)(FF:KF K a)(F:KG K b)(hr:b.rank=a.rank)(S:St H0 A l s){xl yl:Zo}{vx vy:List Zh}{xs ys:List Int}{ex ey i j:Nat}{tm:W7}{led0:Zd}(L0:Lg s.heap led0)(hi:led0[i]? = some (xl,ZD vx ex))(hj:led0[j]? = some (yl,ZD vy ey))
  (ivx:IV vx xs)(ivy:IV vy ys)(KLx:GG Jw vx)(KLy:GG Jw vy)(hlen:xs.length=ys.length)(h2:2<=xs.length)(h3:xs.length<200)(ok:Gq (WA xs) (WA ys))(hroom:A.depth+7<Zr)(hh:A.handled=none){R:Zc}
  (kok:∀ r t s',JS (WA xs) (WA ys)=some r->t≠0->Go H0 [] s s'->R (.ok (.ret (.float r t))) s')
  (kno:∀ e t u s',JS (WA xs) (WA ys)=none->VY H0 [] s l e (.ref b.se) (.ref t) [] s'->s'.heap.TupAt t [.str VG u]->R (.error (.ref e)) s') :
  Yk (model PW w) A (.call (.ref b.corr) (B9 (.ref xl) (.ref yl) (some (Zj "ranked",tm)))) R s:=by
 refine BH G S F.corr [] (by exact Yg (Zx _ _) (by assumption)) (by intro n; show([Zj "ybar",Zj "xbar"]:List Yz).Nodup; decide) (B:=λuu=>[(Zj "x",.ref xl),(Zj "y",.ref yl),(Zj "method",.str (Zj "ranked") tm)]) (λname doc pm an cdv ct Q E' k=>HV (k 0)) (λuu=>Ho _ _ _) L0 λL cdv uu s1 hcd C uu=>?_
 have hh':(A.deeper (Y3 "correlation" Wh.2.2 L b.corr cdv)).handled=none:=hh
 have hi':=Zes (L:=L) (xl:=xl) (yl:=yl) (f:=b.corr) (mv:="ranked") (tm:=tm) (cdv:=cdv) hi
 have hj':=Zes (L:=L) (xl:=xl) (yl:=yl) (f:=b.corr) (mv:="ranked") (tm:=tm) (cdv:=cdv) hj
 refine Nh G F (i+2) (j+2) C hcd rfl rfl rfl hi' hj' (by rw [ivx.len,ivy.len,hlen]) (by exact ivx.len▸h2) (by rw [ivx.len]; lia) (.inr rfl) λtn s2 C2=>?_
 refine Zg (Yv (Z8 (C2.nameE (v:=.str "ranked" tm) rfl (Yi (PySem.P.eq_str (Zu ?_))))))
 refine YV (by decide) ?_
 have C3:=C2.tok 1
 have hvx:vx.length=xs.length:=ivx.len
 have hvy:vy.length=ys.length:=ivy.len
 refine Zg (Zv (ZH (ZH (C3.nameE (v:=.int (vx.length:Int) tn) rfl (Zt (PySem.P.sub_int ?_))))))
 refine Uu (Zt (neg_int ?_))
 refine Zkt (by lia) (by lia) ?_
 refine(C3.tok 5).setE λs5 C5=>?_
 refine Zg (Zv (Up (C5.globalE G F.nrank (callWith_KW (C5.st.X G) F.krank rfl (Zq (C5.nameE (v:=.ref xl) rfl (ZC (kws_cons (C5.nameE rfl (kws_nil ⟨C5.st.X G,Y7 ?_⟩))))))))))
 rw [hr]
 refine FG (z:=-(xs.length:Int)-1) G FF C5.st Jw (C5.ok _ hi') (.float _ (by rw [hvx]; congr 2; lia)) (by grind) (by lia) KLx (by show A.depth+1+5<_; exact ZO (by assumption)) hh' λres rvals c s6 rk g6 ores nres=>?_
 have C6:=C5.addNew g6 ores nres rfl
 refine C6.setE λs7 C7=>?_
 refine Zg (Zv (Up (C7.globalE G F.nrank (callWith_KW (C7.st.X G) F.krank rfl (Zq (C7.nameE (v:=.ref yl) rfl (ZC (kws_cons (C7.nameE (v:=.float (hf (-(vx.length-1))) _) rfl (kws_nil ⟨C7.st.X G,Y7 ?_⟩))))))))))
 rw [hr]
 refine FG (z:=-(xs.length:Int)-1) G FF C7.st Jw (C7.ok (j+2+1) (by exact hj')) (.float _ (by rw [hvx]; congr 2; lia)) (by lia) (by lia) KLy (by show A.depth+1+5<_; lia) hh' λres2 rvals2 c2 s8 rk2 g8 ores2 nres2=>?_
 have C8:=C7.addNew g8 ores2 nres2 rfl
 refine C8.setE λs9 C9=>Z4 ?_
 refine Ng G F 1 0 C9 rfl rfl rfl rfl (rk.fv KLx ivx rfl) (rk2.fv KLy ivy (by rw [hlen])) ok (by lia) hh (λr t s' h n g=>kok r t s' h n g) λe t u c s' h hd tp=>?_
 exact hd.leave rfl λs'' fl up=>kno e t u s'' h fl (tp.of_slots up)
theorem Zay(G:Gl K H0 mg mb)(F:KG K b){L f:Zo}{cdv:Zh}{m:Ze}{s1:Zi}{xl yl:Zo}{vx vy:List Zh}{xs ys:List Int}{ex ey i j:Nat}{tm:W7}{led0:Zd}(hi:led0[i]? = some (xl,ZD vx ex))(hj:led0[j]? = some (yl,ZD vy ey))
  (C:Cx H0 (A.deeper (Y3 "correlation" Wh.2.2 L f cdv)) (Y3 "correlation" Wh.2.2 L f cdv::l) [] s L m (VJ (Xi (L+1) Wh.2.2.names []) (λuu=>none)++led0) s1)(hcd:codeIn K cdv "correlation"=true)
  (hnw:∀ x∈Xi (L+1) Wh.2.2.names [],Nw H0 s x.2)
  (hx:m "x"=some (.ref xl))(hy:m "y"=some (.ref yl))(hm:m "method"=some (.str "linear" tm))(ivx:IV vx xs)(ivy:IV vy ys)(hbx:∀ x∈xs,x.natAbs<=2^40)(hby:∀ x∈ys,x.natAbs<=2^40)(hlen:xs.length=ys.length)(h2:2<=xs.length)(h3:xs.length<=1000)
  (ok:Gq (Wl xs) (Wl ys))(hroom:A.depth+1<Zr)(hh:A.handled=none){R:Zc}
  (kok:∀ r t s',JS (Wl xs) (Wl ys)=some r->t≠0->Go H0 [] s s'->R (.ok (.ret (.float r t))) s')
  (kno:∀ e t u s',JS (Wl xs) (Wl ys)=none->VY H0 [] s l e (.ref b.se) (.ref t) [] s'->s'.heap.TupAt t [.str VG u]->R (.error (.ref e)) s') :
  Zp (model PW w) (A.deeper (Y3 "correlation" Wh.2.2 L f cdv)) (execs Wh.2.1 (Y3 "correlation" Wh.2.2 L f cdv)) (Nz R)
    (Fx w (A.deeper (Y3 "correlation" Wh.2.2 L f cdv)) (Y3 "correlation" Wh.2.2 L f cdv) R) s1:=by
 have hvx:vx.length=xs.length:=ivx.len
 have hvy:vy.length=ys.length:=ivy.len
 have hh':(A.deeper (Y3 "correlation" Wh.2.2 L f cdv)).handled=none:=hh
 have nx:=hnw ("xbar",L+1) (.tail _ (.head _))
 have ny:=hnw ("ybar",L+2) (.head _)
 refine Nh G F (i+2) (j+2) C hcd hx hy hm hi hj (by lia) (by lia) (by lia) (.inl rfl) λtn s2 C2=>?_
 refine Zg (Yv (Z8 (C2.nameE (v:=.str "linear" tm) hm (Yi (PySem.P.eq_str (Zu ?_))))))
 refine Y6 (by decide) ?_
 have C3:=C2.tok 1
 refine Zg (Zv (ZH (Xj (C3.globalE G F.nfsum (Zs (Zq (C3.nameE (v:=.ref xl) hx (ZC ?_))))))))
 refine Gh (H0:=H0) C3.st.glob (C3.ok (i+2) hi) (.inl ⟨_,rfl⟩) ivx hbx h3 hh' λt4 s4 g4=>?_
 have C4:=C3.call g4
 refine C4.nameE (v:=.int (vx.length:Int) tn) rfl (PySem.Flt.truediv_fi hh' (λh=>absurd h (Ju (by lia))) (λh=>by lia) λuu uu=>?_)
 refine(C4.tok 1).setCell 1 rfl rfl (.inr nx.e) nx.h λs5 C5=>?_
 refine Zg (Zv (ZH (Xj (C5.globalE G F.nfsum (Zs (Zq (C5.nameE (v:=.ref yl) hy (ZC ?_))))))))
 refine Gh (H0:=H0) C5.st.glob (C5.ok (j+2) hj) (.inl ⟨_,rfl⟩) ivy hby (by lia) hh' λt6 s6 g6=>?_
 have C6:=C5.call g6
 refine C6.nameE (v:=.int (vx.length:Int) tn) rfl (PySem.Flt.truediv_fi hh' (λh=>absurd h (Ju (by lia))) (λh=>by lia) λuu uu=>?_)
 refine(C6.tok 1).setCell 0 rfl rfl (.inr ny.e) ny.h λs7 C7=>?_
 refine Zg (C7.linCompA (ns:=xs) 1 (i+2) rfl hx hi ivx (λv hv=>by have:=hbx v hv; lia) h3 hh' λD8 acc8 c8 s8 C8 fv8 n8=>?_)
 refine Zg (C8.linCompA (ns:=ys) 1 (j+3) rfl hy hj ivy (λv hv=>by have:=hby v hv; lia) (by lia) hh' λD9 acc9 c9 s9 C9 fv9 n9=>Z4 ?_)
 have e1:Ge (X4 (hf (2*xs.sum)) (Yy vx.length)) xs=Wl xs:=by rw [hvx]; rfl
 have e2:Ge (X4 (hf (2*ys.sum)) (Yy vx.length)) ys=Wl ys:=by rw [hvx,hlen]; rfl
 rw [e1] at fv8
 rw [e2] at fv9
 refine Ng G F 1 0 C9 rfl rfl rfl rfl fv8 fv9 ok hroom hh (λr t s' h n g=>kok r t s' h n g) λe t u c s' h hd tp=>?_
 exact hd.leave rfl λs'' fl up=>kno e t u s'' h fl (tp.of_slots up)
theorem Zax(G:Gl K H0 mg mb)(F:KG K b)(S:St H0 A l s){xl yl:Zo}{mo:Option (Yz×W7)}(hmo:UP mo=Zj "linear"){vx vy:List Zh}{xs ys:List Int}{ex ey i j:Nat}{led0:Zd}(L0:Lg s.heap led0)(hi:led0[i]? = some (xl,ZD vx ex))(hj:led0[j]? = some (yl,ZD vy ey))
  (ivx:IV vx xs)(ivy:IV vy ys)(hbx:∀ x∈xs,x.natAbs<=2^40)(hby:∀ x∈ys,x.natAbs<=2^40)(hlen:xs.length=ys.length)(h2:2<=xs.length)(h3:xs.length<=1000)
  (ok:Gq (Wl xs) (Wl ys))(hroom:A.depth+7<Zr)(hh:A.handled=none){R:Zc}
  (kok:∀ r t s',JS (Wl xs) (Wl ys)=some r->t≠0->Go H0 [] s s'->R (.ok (.ret (.float r t))) s')
  (kno:∀ e t u s',JS (Wl xs) (Wl ys)=none->VY H0 [] s l e (.ref b.se) (.ref t) [] s'->s'.heap.TupAt t [.str VG u]->R (.error (.ref e)) s') :
  Yk (model PW w) A (.call (.ref b.corr) (B9 (.ref xl) (.ref yl) mo)) R s:=by
 refine BH G S F.corr [] (by exact Yg (Zx _ _) (by assumption)) (by intro n; show([Zj "ybar",Zj "xbar"]:List Yz).Nodup; decide) (B:=λt=>[(Zj "x",_),(Zj "y",_),(Zj "method",.str (UP _) t)]) (λname doc pm an cdv ct Q E' k=>Ni F (S.X G) k) (λuu=>Ho _ _ _) L0 λL cdv tm s1 hcd C hnw=>?_
 rw [hmo] at C
 exact Zay G F hi hj C hcd hnw rfl rfl rfl ivx ivy hbx hby hlen h2 h3 ok (by lia) hh kok kno
structure Sx (W:List Zo)(G:Nat->Prop)(s s':Zi):Prop where
 keep:∀ b o,b∉W->s.heap.get? b=some o->s'.heap.get? b=some o
 gens:∀ k,¬ G k->∀ y,s.gens[k]? = some y->s'.gens[k]? = some y
 bare:VL s.gens->VL s'.gens
 toks:s.toks<=s'.toks
 os:s'.os=s.os
theorem Sx.ext{W:List Zo}{G:Nat->Prop}{s s':Zi}(hk:∀ b o,s.heap.get? b=some o->s'.heap.get? b=some o)(ht:s.toks<=s'.toks)(hg:s'.gens=s.gens)(ho:s'.os=s.os):Sx W G s s' :=
 ⟨λb o uu e=>hk b o e,λk uu y h=>by exact hg▸h,λh=>by exact hg▸h,ht,ho⟩
theorem Sx.trans{W:List Zo}{G:Nat->Prop}{a b c:Zi}(x:Sx W G a b)(y:Sx W G b c):Sx W G a c :=
 ⟨λp o h e=>y.keep p o h (x.keep p o h e),λk h z e=>y.gens k h z (x.gens k h z e),λh=>y.bare (x.bare h),Zl x.toks y.toks,y.os.trans x.os⟩
theorem Sx.mono{W W':List Zo}{G G':Nat->Prop}{a b:Zi}(x:Sx W G a b)(h:∀ p∈W,p∈W')(hg:∀ k,G k->G' k):Sx W' G' a b :=
 ⟨λp o n e=>x.keep p o (λq=>n (h p q)) e,λk n y e=>x.gens k (λq=>n (hg k q)) y e,x.bare,x.toks,x.os⟩
structure DK (w:Um)(A:YE)(I:Zo)(W:List Zo)(G:Nat->Prop)(own:List Zo)(xs:List UInt64)(Inv:Nat->Zi->Prop):Prop where
 item:∀ (E:Za) (s:Zi) (Q:Option Zh->Zi->Prop) (i:Nat) (x:UInt64),Inv i s->xs[i]? = some x ->
  (∀ t s',Sx W G s s'->Inv (i+1) s'->Q (some (.float x t)) s')->Zp (model PW w) A (pyNext (.ref I)) Q E s
 done:∀ (E:Za) (s:Zi) (Q:Option Zh->Zi->Prop) (i:Nat),Inv i s->i=xs.length ->
  (∀ s',Sx W G s s'->Q none s')->Zp (model PW w) A (pyNext (.ref I)) Q E s
 keep:∀ i s s' W' G',Inv i s->Sx W' G' s s'->(∀ p∈W',p∉own)->(∀ k,G' k->¬ G k)->Inv i s'
theorem Zbw{I J:Zo}{WI WJ ownI ownJ:List Zo}{GI GJ:Nat->Prop}{xs ys:List UInt64}{InvI InvJ:Nat->Zi->Prop}(hI:DK w A.in1 I WI GI ownI xs InvI)(hJ:DK w A.in1 J WJ GJ ownJ ys InvJ)(hIJ:∀ p∈WI,p∉ownJ)(hJI:∀ p∈WJ,p∉ownI)(hg:∀ k,GI k->¬ GJ k)(hlen:xs.length=ys.length)
  (hh:A.handled=none){R:Zc} :
  ∀ (n i:Nat) (th:T3) (s:Zi) (T:Zo) (t0:W7) (io fu:Bool),xs.length-i=n->i<=xs.length->InvI i s->InvJ i s->s.heap.get? T=some (XX (t3V th))->Gk ((xs.zip ys).drop i) th->(i=xs.length->fu=true) ->
   (∀ t s',Sx (WI++WJ) (λk=>GI k\/GJ k) s s'->R (.ok (.ret (.float (WC (Yy 0) (Jf (Ks ((xs.zip ys).drop i) th))) t))) s') ->
   Yk (model PW w) A (.builtin "math.sumprod.loop" ⟨[.ref I,.ref J,.int 0 t0,.bool io,Xr 0,.bool false,.bool true,.ref T,.bool fu],[]⟩) R s:=by
 intro n
 induction n with
 | zero=>
  intro i th s T t0 io fu hn hi hIi hJi hT hok hfu k
  have hil:i=xs.length:=by grind
  have hfu:=hfu hil
  subst hfu
  have hd:(xs.zip ys).drop i = []:=List.drop_eq_nil_of_le (by rw [List.length_zip]; lia)
  rw [hd] at k
  have hpn:i=xs.length:=hil
  have hqn:i=ys.length:=hil.trans hlen
  refine Wq GU J1 ?_
  delta Builtin.«math.sumprod.loop»
  show Zp _ A.in1 (Uq (.ref T) >>= _) _ _ s
  refine Zf (YJ hT rfl ?_)
  refine Zf (hI.done _ _ _ i hIi hpn λs1 g1=>?_)
  have hJ1:=hJ.keep _ _ _ _ _ hJi g1 hIJ hg
  refine Zf (Yc (hJ.done _ _ _ i hJ1 hqn λs2 g2=>?_))
  refine YR Zn ?_
  have e3:((th.1.toNat:Int).toNat.toUInt64,(th.2.1.toNat:Int).toNat.toUInt64,(th.2.2.toNat:Int).toNat.toUInt64)=th:=by
   simp
  have g12:Sx (WI++WJ) (λk=>GI k\/GJ k) s s2:=(g1.mono (λp hp=>X8 _ hp) λk hk=>.inl hk).trans (g2.mono (λp hp=>XD _ hp) λk hk=>.inr hk)
  dsimp only
  rw [e3]
  have rest:Zp (model PW w) A.in1 (do
    let f <- mkFloat (Jf th)
    let total <- holding (Vg 0 t0::((none:Option Zh).toList++(none:Option Zh).toList)) (JY Operator.Add (Vg 0 t0) f)
    ret total) (λfin s'=>match fin with | .done f=>R (.ok f) s' | .again c'=>c'.quiet=true/\Yk (model PW w) A c' R s') (NN R) s2:=by
   refine Zf (wpAny_mkFloat (Zf (Yc (add_if_fits (by decide) ?_))))
   exact Zm (k _ _ (g12.trans (.ext (s:=s2) (s':={ s2 with toks:=s2.toks+1+1 }) (λuu uu h=>h) (Zx s2.toks 2) rfl rfl)))
  cases io with
  | true=>exact YT rfl (Zf (Xm (YR Zn (YT rfl (Zf (Xm (YT rfl rest)))))))
  | false=>exact YR Zn (YT rfl (Zf (Xm (YT rfl rest))))
 | succ n ih=>
  intro i th s T t0 io fu hn hi hIi hJi hT hok hfu k
  refine Wq GU J1 ?_
  delta Builtin.«math.sumprod.loop»
  show Zp _ A.in1 (Uq (.ref T) >>= _) _ _ s
  refine Zf (YJ hT rfl ?_)
  obtain ⟨x,hxi⟩:∃ x,xs[i]? = some x:=⟨_,ZE (by grind)⟩
  obtain ⟨y,hyi⟩:∃ y,ys[i]? = some y:=⟨_,ZE (by grind)⟩
  have hdrop:(xs.zip ys).drop i=(x,y)::(xs.zip ys).drop (i+1):=by
   have hz:(xs.zip ys)[i]? = some (x,y):=by rw [List.getElem?_zip_eq_some]; exact⟨hxi,hyi⟩
   refine zE (Z5.mp hz) λhl hz=>?_
   rw [Ww hl,hz]
  rw [hdrop] at hok k
  obtain ⟨hfin,hok⟩:=hok
  have e3:((th.1.toNat:Int).toNat.toUInt64,(th.2.1.toNat:Int).toNat.toUInt64,(th.2.2.toNat:Int).toNat.toUInt64)=th:=by
   simp
  refine Zf (hI.item _ _ _ i _ hIi hxi λtx s1 g1 hIi1=>?_)
  have hJ1:=hJ.keep _ _ _ _ _ hJi g1 hIJ hg
  refine Zf (Yc (hJ.item _ _ _ i _ hJ1 hyi λty s2 g2 hJ2=>?_))
  have hI2:=hI.keep _ _ _ _ _ hIi1 g2 hJI λk a b=>hg k b a
  refine YR Zn ?_
  have rest:Zp (model PW w) A.in1 (do
    let t <- newTuple (t3V (Wz x y th))
    again (Code.builtin "math.sumprod.loop" ⟨[.ref I,.ref J,.int 0 t0,.bool false,Xr 0,.bool false,.bool true,t,.bool true],[]⟩)) (λfin s'=>match fin with | .done f=>R (.ok f) s' | .again c'=>c'.quiet=true/\Yk (model PW w) A c' R s') (NN R) s2:=by
   have gp:Sx [] (λuu=>False) s2 { s2 with heap:=s2.heap.push (XX (t3V (Wz x y th))) }:=.ext (λuu uu h=>Z0 _ h) (Z6 _) rfl rfl
   refine Zf (Xa (Zm ⟨Wv J1 _,?_⟩) (by show 3<=_; rw [ZW]; decide))
   refine ih (i+1) (Wz x y th) _ s2.heap.objs.size t0 false true (by grind) (by grind) (hI.keep _ _ _ _ _ hI2 gp YC λk h=>h.elim) (hJ.keep _ _ _ _ _ hJ2 gp YC λk h=>h.elim) (ZK _ rfl) hok (λuu=>rfl) λt s' g=>?_
   exact k t s' (((g1.mono (λp hp=>X8 _ hp) λk hk=>.inl hk).trans (g2.mono (λp hp=>XD _ hp) λk hk=>.inr hk)).trans ((gp.mono YC λk hk=>hk.elim).trans g))
  cases io with
  | true=>
   dsimp only
   rw [e3]
   refine YT rfl (Zf (Xm ?_))
   refine YR Zn (YT rfl (YT rfl (YT hfin ?_)))
   exact rest
  | false=>
   dsimp only
   rw [e3]
   refine YR Zn (YT rfl (YT rfl (YT hfin ?_)))
   exact rest
theorem Sx.upd{a:Zo}{f:Xl->Xl}:Sx [a] (λuu=>False) s { s with heap:=s.heap.update a f } :=
 ⟨λb o hb e=>(Yw _ _ (λq=>hb (by exact q ▸ .head _))).trans e,λuu uu uu h=>h,λh=>h,Z6 _,rfl⟩
theorem Zdw(hh:A.handled=none){I lst:Zo}{vals:List Zh}{xs:List UInt64}{ep:Nat}(hv:FV vals xs)(hne:I≠lst):DK w A I [I] (λuu=>False) [I,lst] xs (λi s=>s.heap.get? I=some (WV lst i)/\s.heap.get? lst=some (ZD vals ep)) where
 item:=λE s Q i x C hx k=>by
  refine zE (hv.at_ i x hx) λt hx'=>?_
  refine VU C.1 C.2 hx' ?_
  refine k t _ Sx.upd ⟨?_,?_⟩
  ·exact YS _ C.1 rfl
  ·exact(Yw _ _ hne).trans C.2
 done:=λE s Q i C hx k=>by
  refine Gm hh C.1 C.2 (XS (by rw [hv.len]; exact Xw (ZR (by assumption)))) λh' e hm=>?_
  have g:Sx [I] (λuu=>False) s { s with heap:=s.heap.update I (ZP (·.setIfInBounds 0 .none)) }:=Sx.upd
  exact k _ (g.trans (.ext (s:={ s with heap:=s.heap.update I (ZP (·.setIfInBounds 0 .none)) }) (s':={ s with heap:=h' }) hm.keeps (Z6 _) rfl rfl))
 keep:=λi s s' W' G' C g hW hG=>⟨g.keep _ _ (λq=>hW _ q (by exact .head _)) C.1,g.keep _ _ (λq=>hW _ q (by exact .tail _ (.head _))) C.2⟩
theorem Sx.go{W:List Zo}{G:Nat->Prop}{s0 s s':Zi}{M:List Zo}(x:Sx W G s s')(g:Go H0 M s0 s)(hW:∀ p∈W,s0.heap.get? p=none)(hH:∀ b o,H0.get? b=some o->s0.heap.get? b=some o):Go H0 M s0 s':=by
 have out:∀ {b:Zo} {o:Xl},s0.heap.get? b=some o->b∉W:=λ{b o} e q=>by exact Wu (ZF (ZR (hW b q)) e)
 refine⟨λS b o e=>x.keep b o (out (S b o e)) (g.glob S b o e),λb o e hm hn=>x.keep b o (out e) (g.nd b o e hm hn),λb o es n e hd=>?_,λb o e hn=>?_,Zl g.toks x.toks,λh=>x.bare (g.gens h),x.os.trans g.os⟩
 ·refine zE (g.up b o es n e hd) λsl h=>?_
  exact⟨sl,x.keep b _ (out e) h⟩
 ·refine XW (g.pres b o e hn) λo' h hn'=>?_
  exact⟨o',x.keep b o' (out e) h,hn'⟩
noncomputable abbrev O9:Nat->Bool:=λuu=>true
theorem TR(n:Nat):passing O9 n 0=List.range n:=by unfold passing; simp
theorem Zgx(hh:A.handled=none){a g C:Zo}{fp wr:List Zo}{xs:List UInt64}{F:Nat->Zh->Prop}(hF:∀ i v,F i v->∃ t x,xs[i]? = some x/\v = .float x t)(haC:a≠C)(haf:a∉fp)(hsub:∀ b∈wr,b∈fp)
  (hroom:A.depth<Zr)(hcs:WQ∈fp)(hcC:WQ≠C)(hcw:WQ∉wr) :
  DK w A a (C::wr) (λk=>k=g) (a::C::fp) xs (GenAt PW w A a g C fp wr O9 xs.length F):=by
 have W:=WalksS.genexpQ (prog:=PW) (w:=w) hh a g C fp wr O9 xs.length F haC haf hsub hroom hcs hcC hcw
 rw [TR,List.length_range] at W
 have mv:∀ {s s':Zi},Moved (C::wr) (GenOnlyQ g) s s'->Sx (C::wr) (λk=>k=g) s s':=λ{s s'} m=>by
  refine⟨m.heap,λk hk y h=>?_,λh=>h.moved m.gens,m.toks,m.os⟩
  rcases m.gens with e | ⟨⟨_,ho⟩,_⟩
  ·exact e▸h
  ·exact ZF (ho k hk) (h)
 refine⟨λE s Q i x st hx k=>?_,λE s Q i st hi k=>?_,λi s s' W' G' st x hW hG=>?_⟩
 ·have hi:i<xs.length:=(Z5.mp hx).1
  refine W.item i s Q E hi st λv s' hP st' m=>?_
  refine XW hP λj hj hFj=>?_
  have:j=i:=by
   rw [List.getElem?_range hi] at hj
   exact(Zz hj).symm
  subst this
  refine G7 (hF _ _ hFj) λt x' h1 zr=>?_; obtain rfl:=zr
  obtain rfl:=Zz (ZF (ZR hx) h1)
  exact k t s' (mv m) st'
 ·subst hi
  exact W.done s Q E st λs' m=>k s' (mv m)
 ·refine Zii st λhg hl gs hgs hgo=>?_
  have kp:∀ b∈a::C::fp,∀ o,s.heap.get? b=some o->s'.heap.get? b=some o:=λb hb o e=>x.keep b o (λq=>hW b q hb) e
  exact⟨let ⟨o,nm,qn,ho,r⟩:=hg; ⟨o,nm,qn,kp a (List.mem_cons_self ..) o ho,r⟩,
   (let ⟨mc,hns,hnn⟩:=hl; ⟨mc,hns.at' λo e=>kp WQ (UY _ (UY _ hcs)) o e,hnn⟩),
   gs,x.gens g (λq=>hG g q rfl) _ hgs,λs'' hal=>hgo s'' λb hb o e=>hal b hb o (kp b (UY _ hb) o e)⟩
theorem Tq{p q:Zh}{I J:Zo}{WI WJ ownI ownJ:List Zo}{GI GJ:Nat->Prop}{xs ys:List UInt64}{InvI InvJ:Nat->Zi->Prop}(hI:DK w A.in1 I WI GI ownI xs InvI)(hJ:DK w A.in1 J WJ GJ ownJ ys InvJ)(hIJ:∀ p∈WI,p∉ownJ)(hJI:∀ p∈WJ,p∉ownI)(hg:∀ k,GI k->¬ GJ k)
  (pI:∀ (Q E:Za),(∀ s1,Sx [] (λuu=>False) s s1->InvI 0 s1->Q (.ref I) s1)->Zp (model PW w) A.in1 (pyIter p) Q E s)
  (pJ:∀ s1,Sx [] (λuu=>False) s s1->∀ (Q E:Za),(∀ s2,Sx [] (λuu=>False) s1 s2->InvJ 0 s2->Q (.ref J) s2)->Zp (model PW w) A.in1 (pyIter q) Q E s1)
  (hlen:xs.length=ys.length)(h0:0<xs.length)(hok:Gk (xs.zip ys) z3)(hh:A.handled=none){Q:Za}
  (k:∀ t s',Sx (WI++WJ) (λk=>GI k\/GJ k) s s'->Q (.float (JQ (xs.zip ys)) t) s'):Zp (model PW w) A (call (.builtin "math.sumprod") [p,q]) Q E s:=by
 refine Bq Bf GC GF (Br _ _) ?_
 refine Zf (Xk (a:=[p,q]) rfl ?_)
 refine Zf (pI _ _ λs1 g1 i1=>?_)
 refine Zf (Yc (pJ s1 g1 _ _ λs2 g2 j2=>?_))
 refine Zf (wpAny_mkInt ?_)
 have gp:Sx [] (λuu=>False) s2 { s2 with toks:=s2.toks+1,heap:=s2.heap.push (XX (t3V z3)) }:=.ext (λuu uu h=>Z0 _ h) (Wb _) rfl rfl
 refine Zf (Xa (Zm ⟨Wv J1 _,?_⟩) (by show 3<=_; rw [ZW]; decide))
 refine Zbw hI hJ hIJ hJI hg hlen hh _ 0 z3 _ s2.heap.objs.size _ true false rfl (Yt _) (hI.keep _ _ _ _ _ (hI.keep _ _ _ _ _ i1 g2 YC λk h=>h.elim) gp YC λk h=>h.elim) (hJ.keep _ _ _ _ _ j2 gp YC λk h=>h.elim) (ZK _ rfl) hok (λe=>by lia) λt s' g=>?_
 have up:∀ {a b:Zi},Sx [] (λuu=>False) a b->Sx (WI++WJ) (λk=>GI k\/GJ k) a b:=λx=>x.mono YC λk h=>h.elim
 exact k t s' ((((up g1).trans (up g2)).trans (up gp)).trans g)
theorem KS{a g:Zo}{Inv:Nat->Zi->Prop}(hg:s.heap.IsGen a g)(h:Inv 0 s)(Q E:Za)(k:∀ s1,Sx [] (λuu=>False) s s1->Inv 0 s1->Q (.ref a) s1):Zp (model PW w) A (pyIter (.ref a)) Q E s :=
 wpAny_pyIter_gen hg (k s (.ext (λuu uu h=>h) (Z6 _) rfl rfl) h)
noncomputable def Zbd(f:UInt64)(ns:List Int)(i:Nat)(v:Zh):Prop:=∃ n t,ns[i]? = some n/\v = .float (Wx (Yy n) f) t
theorem Zhu{f:UInt64}{ns:List Int}:∀ i v,Zbd f ns i v->∃ t x,(Ge f ns)[i]? = some x/\v = .float x t:=λi v ⟨n,t,h,e⟩=>⟨t,_,by unfold Ge; rw [Uv,h]; rfl,e⟩
theorem Zac{cenv:V0}{xn bn:Yz}{p1 p2 p3:V7}{fp wr:List Zo}{href:Xx}{c:Zo}{f:UInt64}{tf:W7}{vals:List Zh}{ns:List Int}(iv:IV vals ns)(hb:∀ n∈ns,n.natAbs<2^1023)
  (hk:cenv.scope.kind = .function)(hx:cenv.kindOf xn=some .local)(hbn:cenv.kindOf bn=some .free)(hcl:cenv.cells.lookup bn=some c)(hd1:(xn==("__debug__" : Yz))=false)(hd2:(bn==("__debug__" : Yz))=false)(hd3:(bn==("__classdict__" : Yz))=false)
  (hc:href.IsCell c (some (.float f tf)))(hcf:c∈fp)(hcw:c∉wr) :
  QuietGen PW w cenv xn [] (.BinOp (.Name xn p1) .Sub (.Name bn p2) p3) fp wr (λi v=>vals.toArray[i]? = some v) O9 (Zbd f ns) href where
 tests:=λA' E' i v s₂ m₂ uu uu uu uu uu=>by
  rw [List.forIn_nil]
  exact Zm ⟨rfl,s₂.heap,s₂.toks,rfl,λuu uu e=>e⟩
 elt:=λA' E' i v s₂ m₂ hh hv uu hns hm hkp=>by
  refine XW hc λo ho hr=>?_
  have hv':vals[i]? = some v:=by simpa using hv
  obtain ⟨n,hn⟩:∃ n,ns[i]? = some n:=by
   have:i<vals.length:=(Z5.mp hv').1
   exact⟨_,ZE (by exact iv.len▸this)⟩
  refine zE (iv.at_ i n hn) λt ht=>?_
  obtain rfl:=Zz (ZF (ZR hv') ht)
  refine PySem.wpAny_BinOp (wpAny_Name (wpAny_loadName_local hk hx hns hm ?_) hd1)
  refine wpAny_Name (wpAny_loadName_free hk hbn hcl ⟨o,hkp c hcf hcw o ho,hr⟩ ?_ hd3) hd2
  refine sub_if_fits (hb n (ZG hn)) ⟨⟨n,_,hn,rfl⟩,s₂.heap,_,rfl,λuu uu e=>e⟩
section
variable {M:XJ}
theorem Zeb{env:V0}{c P:Zo}{ps:Array Zh}{pos:V7}{qn:Yz}{scope:US}{Q:Za}(hc:env.code = .ref c)(C:CodeHd s.heap c P)(hP:s.heap.get? P=some (Ye ps))(ht:YQ ps.toList)
  (hQ:∀ code h' tk ps',Heap.ExtBut P s.heap h'->s.heap.objs.size<=h'.objs.size->s.toks<=tk->h'.get? P=some (Ye ps')->YQ ps'.toList->Q code { s with heap:=h',toks:=tk }) :
  Zp M A (genexprCode env pos qn scope) Q E s:=by
 cases hnf:codeAmong pos ps.toList with
 | none=>
  refine PySem.wpAny_with_toks (n:=s.toks) (Z6 _) (wpAny_genexprCodeX hc (C.code hP ht) (C.tab hP) hnf λc' h' tk hx h1 h2 hcd uu htb uu htk=>?_)
  refine hQ _ h' tk _ hx (Zl h1 (ZU h2)) htk htb.2 ?_
  rw [YX]
  exact TriplesOk_snoc _ _ _ _ ht
 | some cv=>
  obtain ⟨o,vs,file,tf,flags,tg,inF,text,tt,ho,hcl,hd,h0,h11,h2,h7,h9,h10,hne⟩:=C
  delta genexprCode codeAt
  rw [hc,if_neg (show ¬ ((ZS c==Yl)=true) from Zn)]
  refine Zf (wpAny_fieldsOf ho hd ?_)
  rw [h11]
  refine Zf (wpAny_fieldsOf hP rfl ?_)
  rw [hnf]
  exact Zm (hQ cv s.heap s.toks ps (Heap.ExtBut.refl _ _) (Z6 _) (Z6 _) hP ht)
end
theorem Zme{P:Zo}{o o':Xl}(hk:∀ b x,b≠P->s.heap.get? b=some x->s'.heap.get? b=some x)(hP:s.heap.get? P=some o)(hn:nd o)(hP':s'.heap.get? P=some o')(hn':nd o')(hH:H0.get? P=none)(ht:s.toks<=s'.toks)(hg:VL s.gens->VL s'.gens)(ho:s'.os=s.os):Go H0 [P] s s':=by
 have ne:∀ {b:Zo} {x:Xl} {es:Array DictEntry} {n:Nat},s.heap.get? b=some x->x.data = .dict es n->b≠P:=λ{b x es n} e hd q=>by
  subst q; obtain rfl:=Zz (ZF (ZR hP) e); exact hn es n hd
 refine⟨λS b x e=>hk b x (λq=>by rw [q,hH] at e; exact Wu e) (S b x e),λb x e hm uu=>hk b x (λq=>hm (by exact q ▸ .head _)) e,λb x es n e hd=>⟨x.slots,hk b x (ne e hd) e⟩,λb x e hx=>?_,ht,hg,ho⟩
 by_cases q:b=P
 ·subst q; exact⟨o',hP',hn'⟩
 ·exact⟨x,hk b x q e,hx⟩
structure Bm (H0:Xx)(mg:Ze):Prop where
 ex:∃ bm ob,mg "__builtins__"=some (.ref bm)/\bm≠Jx/\H0.get? bm=some ob/\ob.cls = .type "module"/\ob.dict=some Jx/\ob.data = .plain
noncomputable abbrev fnV(name qual:Yz)(params:WE)(body:FuncBody)(scope:US)(cl:List (Yz×Zo))(doc pm cdv ct:Zh):FuncData :=
 { name,qualname:=qual,params,body,scope,globals:=Zw,closure:=cl,defaults:=.none,kwdefaults:=.none,doc,pyModule:=pm,annotations:=none,code:=cdv,closureTuple:=ct,builtins:=Jx }
noncomputable abbrev Zeg(name qual:Yz)(params:WE)(body:FuncBody)(scope:US)(cl:List (Yz×Zo))(doc pm cdv ct:Zh):Xl :=
 { cls:=.type "function",data:=.func (fnV name qual params body scope cl doc pm cdv ct) }
theorem Ziu{c:Zh}{d:Option Zo}{f:FuncData}{sl:Array (Option Zh)}:nd ⟨c,d,.func f,sl⟩:=λuu uu h=>by cases h
theorem DG{H0:Xx}{M:List Zo}{s s':Zi}{cd:Zh}{q:Yz}(h:s.heap.CodeRec cd q)(g:Go H0 M s s')(hM:∀ c,cd = .ref c->c∉M):s'.heap.CodeRec cd q:=by
 refine VS h λc oc vs t e h1 h2 h3=>?_
 exact⟨c,oc,vs,t,e,g.nd _ _ h1 (hM c e) (λes n q=>by rw [h2] at q; cases q),h2,h3⟩
section
theorem Zat{P:Zo}{h':Xx}{tk:W7}{o o':Xl}{fo:Xl}(hx:Heap.ExtBut P s.heap h')(hP:s.heap.get? P=some o)(hn:nd o)(hP':h'.get? P=some o')(hn':nd o')(hH:H0.get? P=none)(ht:s.toks<=tk) :
  Go H0 [P] s { s with heap:=h'.push fo,toks:=tk }:=by
 have neP:∀ {b o},H0.get? b=some o->b≠P:=λe q=>by rw [q,hH] at e; exact Wu e
 refine⟨λh b ob e=>Z0 _ (hx _ _ (neP e) (h b ob e)),λb ob e hm uu=>Z0 _ (hx _ _ (λq=>hm (by simp [q])) e),λb ob es n e hd=>?_,λb ob e hnb=>?_,ht,λh=>h,rfl⟩
 ·have:b≠P:=λq=>by rw [q,hP] at e; obtain rfl:=Zz e; exact hn es n hd
  exact⟨ob.slots,Z0 _ (hx _ _ this e)⟩
 ·by_cases q:b=P
  ·subst q; exact⟨o',Z0 _ hP',hn'⟩
  ·exact⟨ob,Z0 _ (hx _ _ q e),hnb⟩
theorem Zja(B:Bm H0 mg)(hg:H0.Ns Zw mg)(S:St H0 A l s){P:Zo}(hP:H0.get? P=none):s.heap.BuiltinsAt mg P:=by
 refine Ko B.ex λbm ob h1 h2 h3 h4 h5 h6=>?_
 refine⟨bm,ob,h1,h2,(λq=>?_),(λq=>by rw [q,hP] at h3; exact Wu h3),S.glob _ _ h3,h4,h5,h6⟩
 refine WT hg λo es ep e hd uu=>?_
 rw [q,e] at h3; obtain rfl:=Zz h3; rw [hd] at h6; cases h6
theorem Cx.fnMade(C:Cx H0 A l M sE L m led s)(i:Nat){P:Zo}{ps ps':Array Zh}(hi:led[i]? = some (P,Ye ps))(hM:P∈M\/sE.heap.get? P=none)(hH:H0.get? P=none){h':Xx}{tk:W7}{fo:Xl}(hx:Heap.ExtBut P s.heap h')(hsz:s.heap.objs.size<=h'.objs.size)
  (hP':h'.get? P=some (Ye ps'))(ht:s.toks<=tk)(hf:fo.isFreed=false)(hnd:nd fo)(hd:fo.dict=none) :
  Cx H0 A l M sE L m ((h'.objs.size,fo)::led.set i (P,Ye ps')) { s with heap:=h'.push fo,toks:=tk }/\Nw H0 sE h'.objs.size/\s.heap.get? h'.objs.size=none:=by
 have g:Go H0 [P] s { s with heap:=h'.push fo,toks:=tk }:=Zat hx (C.at i hi) Y5 hP' Y5 hH ht
 have hnew:s.heap.get? h'.objs.size=none:=Je hsz
 refine⟨(C.callAt i hi g (okk_fields (Z0 _ hP')) hM (by intro q; exact Wu q)).add (.of (ZK _ hf) hnd hd) (λp hp e=>?_) (by exact hd▸λq=>by cases q),C.noE hnew,hnew⟩
 have hm:p.1∈(led.set i (P,Ye ps')).map (λuu=>uu.1):=XG (f:=(λuu=>uu.1)) hp
 rw [XO hi] at hm
 refine XW (ZZ.mp hm) λp' hp' e'=>?_
 have:=(C.has p' hp').at_
 rw [e',e,hnew] at this; exact Wu this
where
 okk_fields {h:Xx} {a:Zo} {vs:Array Zh} (e:h.get? a=some (Ye vs)):Wy h (a,Ye vs):=.of e Y5 rfl
variable {name qual:Yz}{params:WE}{scope:US}{c P:Zo}{ps:Array Zh}{pos:V7}{firstLine:Nat}{clos:List (Yz×Zo)}{Q:Za}
theorem Cx.lamNew(C:Cx H0 A l M sE L m led s)(G:Gl K H0 mg mb)(B:Bm H0 mg){body:Vz}(i:Nat)(hi:led[i]? = some (P,Ye ps))(hM:P∈M\/sE.heap.get? P=none)(hH:H0.get? P=none)(hcl:JU scope env=pure clos)(hge0:env.globals=Zw)
  (hcode:env.code = .ref c)(CH:CodeHd s.heap c P)(ht:YQ ps.toList)(hnf:codeAmong pos ps.toList=none)(hdef:defaultsOf params env=([],[]))
  (h:∀ f c' pm ctv s',Cx H0 A l M sE L m ((f,Zeg "<lambda>" (env.qual++"<lambda>") params (.expr body) scope clos .none pm (.ref c') ctv)::led.set i (P,Ye (ps ++ #[Xr pos.line,Xr pos.col,.ref c']))) s'->Nw H0 sE f->s.heap.get? f=none->s.heap.get? c'=none ->
   s'.heap.CodeRec (.ref c') (env.qual++"<lambda>")->Q (.ref f) s') :
  Zp MM A (eval (.Lambda params body scope pos) env) Q E s:=by
 have hgP:Zw≠P:=λq=>by
  refine WT G.g λo es ep e hd uu=>?_
  rw [q,hH] at e; exact Wu e
 refine kla_eval hdef (PySem.wpAny_with_toks (n:=s.toks) (Z6 _) (kla_makeFunction (mg:=mg) hcl hge0 (G.g.keeps C.st.glob) hcode CH (C.at i hi) ht hnf hgP (Zja B G.g C.st hH) λc' ctv h' tk hx hge hlt hrec htb htk=>?_))
 refine zAA (C.fnMade i hi hM hH (fo:=kla_obj "<lambda>" (env.qual++"<lambda>") params body scope clos ((mg "__name__").getD .none) c' ctv) hx (Zl hge (ZU hlt)) htb htk rfl Ziu rfl) λC1 n1 n2=>?_
 refine VS hrec λc2 oc vs t e2 h1 h2 h3=>?_
 exact h _ c' _ ctv _ C1 n1 n2 (Je hge) ⟨c2,oc,vs,t,e2,Z0 _ h1,h2,h3⟩
theorem Cx.lamHit(C:Cx H0 A l M sE L m led s)(G:Gl K H0 mg mb)(B:Bm H0 mg){body:Vz}{cv:Zh}(i:Nat)(hi:led[i]? = some (P,Ye ps))(hH:H0.get? P=none)(hcl:JU scope env=pure clos)(hge0:env.globals=Zw)
  (hcode:env.code = .ref c)(CH:CodeHd s.heap c P)(ht:YQ ps.toList)(hf:codeAmong pos ps.toList=some cv)(hdef:defaultsOf params env=([],[]))
  (h:∀ f pm ctv s',Cx H0 A l M sE L m ((f,Zeg "<lambda>" (env.qual++"<lambda>") params (.expr body) scope clos .none pm cv ctv)::led) s'->Nw H0 sE f->s.heap.get? f=none->Go H0 [] s s'->Q (.ref f) s') :
  Zp MM A (eval (.Lambda params body scope pos) env) Q E s:=by
 refine kla_eval hdef (PySem.wpAny_with_toks (n:=s.toks) (Z6 _) (kla_makeFunctionHit (mg:=mg) hcl hge0 (G.g.keeps C.st.glob) hcode CH (C.at i hi) ht hf (Zja B G.g C.st hH) λctv h' tk hk hsz htk=>?_))
 have g:Go H0 [] s { s with heap:=h'.push (Zeg "<lambda>" (env.qual++"<lambda>") params (.expr body) scope clos .none ((mg "__name__").getD .none) cv ctv),toks:=tk }:=Go.ext (s:=s) (s':={ s with heap:=h'.push _,toks:=tk }) (λb o e=>Z0 _ (hk b o e)) htk rfl rfl _
 have hnew:s.heap.get? h'.objs.size=none:=Je hsz
 exact h _ _ ctv _ (C.addNew g (.of (ZK _ rfl) Ziu rfl) hnew rfl) (C.noE hnew) hnew g
end
structure Ff (w:Um)(H0:Xx)(P lst cc:Zo)(f:UInt64)(ns:List Int)(s s':Zi)(a C':Zo):Prop where
 o1:s.heap.objs.size<C'
 o2:C'<a
 o3:a<s'.heap.objs.size
 lt:∀ b∈[lst,cc,WQ],b<s.heap.objs.size/\b≠P
 ltP:P<s.heap.objs.size
 gens:s'.gens.size=s.gens.size+1
 sx:Sx [P] (λuu=>False) s s'
 go:Go H0 [P] s s'
 gen:∀ A':YE,A'.handled=none->GenAt PW w A' a s.gens.size C' [s.heap.objs.size,lst,cc,WQ] [s.heap.objs.size] O9 ns.length (Zbd f ns) 0 s'
noncomputable abbrev Zkv(xn bn:Yz)(p1 p2 p3:V7):PySem.Expr:=.BinOp (.Name xn p1) .Sub (.Name bn p2) p3
theorem Cx.genDev(C:Cx H0 A l M sE L m led s)(G:Gl K H0 mg mb)(B:Bm H0 mg){scope:US}{cl:List (Yz×Zo)}{pos px pi p1 p2 p3:V7}{xn bn nm:Yz}{lst cc c P:Zo}{vals:List Zh}{ns:List Int}{ep i j k:Nat}{f:UInt64}{tf:W7}{ps:Array Zh}{Q:Za}
  (hco:scope.isCoroutine=false)(hcl:JU scope env=pure cl)(hcell:∀ y∈scope.names,y.2 ≠ .cell)(h0:scope.names.lookup (".0" : Yz)=some NameKind.local)(hkind:scope.kind = .function)(hxk:scope.names.lookup xn=some .local)(hbk:scope.names.lookup bn=some .free)(hcc:cl.lookup bn=some cc)
  (hd1:(xn==("__debug__" : Yz))=false)(hd2:(bn==("__debug__" : Yz))=false)(hd3:(bn==("__classdict__" : Yz))=false)(hroom:A.depth<Zr)
  (hcode:env.code = .ref c)(CH:CodeHd s.heap c P)(hi:led[i]? = some (P,Ye ps))(hT:YQ ps.toList)(hM:P∈M\/sE.heap.get? P=none)(hH:H0.get? P=none)(hgl:env.globals=Zw)
  (hj:led[j]? = some (lst,ZD vals ep))(hk:led[k]? = some (cc,UM (some (.float f tf))))(iv:IV vals ns)(hb:∀ n∈ns,n.natAbs<2^1023)
  (hnm:m nm=some (.ref lst))(hL:env.locals=L)(hks:env.scope.kind = .function)(hnl:env.kindOf nm=some .local)(hnd:(nm==("__debug__" : Yz))=false)
  (h:∀ a C' ps' s',Cx H0 A l M sE L m (led.set i (P,Ye ps')) s'->YQ ps'.toList->Ff w H0 P lst cc f ns s s' a C'->Q (.ref a) s') :
  Zp (model PW w) A (eval (.GeneratorExp (Zkv xn bn p1 p2 p3) [⟨.Name xn px,.Name nm pi,[],0⟩] scope pos) env) Q E s:=by
 have hlst:=C.at j hj
 have hcv:=C.at k hk
 have hP:=C.at i hi
 have hI:s.heap.get? s.heap.objs.size=none:=XC
 have k1:∀ b o,s.heap.get? b=some o->(s.heap.push (WV lst 0)).get? b=some o:=λb o e=>Z0 _ e
 refine wpAny_GeneratorExp_make hco hcl hcell h0 hkind hroom (C.nameE hnm (W8 ⟨_,hlst,rfl,_,rfl⟩ ?_) hL hks hnl hnd) (λx=>rfl)
 refine⟨(C.st.lim G).keeps k1,Zeb hcode (CH.keeps k1) (k1 _ _ hP) hT λcode h1 tk ps' hx hsz htk hP1 hT1=>?_⟩
 have hgP:Zw≠P:=λq=>by
  refine WT G.g λo es ep' e hd uu=>?_
  rw [q,hH] at e; exact Wu e
 refine Ko B.ex λbm ob b1 b2 b3 b4 b5 b6=>?_
 have hbP:bm≠P:=λq=>by rw [q,hH] at b3; exact Wu b3
 rw [hgl]
 refine wpAny_builtinsFor (((G.g.keeps C.st.glob).keeps k1).extBut hx hgP) b1 b2 (hx bm _ hbP (k1 _ _ (C.st.glob _ _ b3))) b4 b5 b6 λh2 hns hsb=>?_
 dsimp only at hns hsb ⊢
 have hC1:s.heap.objs.size+1<=h1.objs.size:=by exact(Xq ..)▸hsz
 have hsz2:h2.objs.size=h1.objs.size+1:=by rw [hsb.1,Xq]
 have keep:∀ b x,b≠P->(s.heap.push (WV lst 0)).get? b=some x->∀ o:Xl,(h2.push o).get? b=some x:=λb x hb e o=>by
  have hlt:b<h1.objs.size:=Z9 (YH e) hsz
  refine Z0 _ ?_
  rw [hsb.2 b (X7 hlt)]
  exact Z0 _ (hx b x hb e)
 have hPlt:P<s.heap.objs.size:=YH hP
 have hP5:∀ o:Xl,(h2.push o).get? P=some (Ye ps'):=λo=>by
  refine Z0 _ ?_
  rw [hsb.2 P (X7 (Z9 (Nat.lt_succ_of_lt hPlt) hC1))]
  exact Z0 _ hP1
 have hIne:∀ {b:Zo} {o:Xl},s.heap.get? b=some o->b≠s.heap.objs.size:=λe=>X7 (YH e)
 have tabNe:∀ {b:Zo} {o:Xl},s.heap.get? b=some o->o.cls ≠ .none->b≠P:=λ{b o} e hc q=>by subst q; obtain rfl:=Zz (ZF (ZR hP) e); exact hc rfl
 have hIP:s.heap.objs.size≠P:=(hIne hP).symm
 generalize hgo:({ cls:=.type "generator",data:=.fields #[.int s.gens.size 0,.str "<genexpr>" (tk+1),.str (env.qual++"<genexpr>") (tk+1+1)] }:Xl)=go
 have g5:Go H0 [P] s { s with heap:=h2.push go,toks:=tk+1+1+1,gens:=s.gens.push (.fresh (.compStart (.GeneratorExp (Zkv xn bn p1 p2 p3) [⟨.Name xn px,.Name nm pi,[],0⟩] scope pos) 0 (.ref s.heap.objs.size) .none (genEnv scope cl h1.objs.size code Jx env))) } :=
  Zme (λb x hb e=>keep b x hb (k1 _ _ e) go) hP Y5 (hP5 go) Y5 hH (by show s.toks<=tk+1+1+1; have:s.toks<=tk:=htk; lia) (λhg=>hg.push rfl) rfl
 have C5:=C.callAt i hi g5 (.of (hP5 go) Y5 rfl) hM (by intro q; exact Wu q)
 have nn:∀ {b:Zo},s.heap.objs.size<=b->s.heap.get? b=none:=λhb=>Je hb
 have hs3:s.heap.objs.size<h1.objs.size:=Z9 (YM _) hC1
 have hltA:h2.objs.size<(h2.push go).objs.size:=by rw [Xq]; exact YM _
 have hltB:h1.objs.size<h2.objs.size:=by exact hsz2▸YM _
 have hst:=C.st.lim G
 have hcs:∃ o,s.heap.get? WQ=some o/\WQ≠P:=by
  refine XW hst λmc zq1 uu=>?_; obtain ⟨o,es,ep',e,hd,_⟩:=zq1
  exact⟨o,e,λq=>by rw [q,hP] at e; obtain rfl:=Zz e; cases hd⟩
 refine XW hcs λoS hoS hSP=>?_
 have k5:∀ b x,b≠P->s.heap.get? b=some x->(h2.push go).get? b=some x:=λb x hb e=>keep b x hb (k1 _ _ e) go
 have hlP:lst≠P:=tabNe hlst (λq=>by cases q)
 have hcP:cc≠P:=λq=>by rw [q,hP] at hcv; cases hcv
 have hn5:(h2.push go).Ns h1.objs.size (λy=>if y=(".0" : Yz) then some (.ref s.heap.objs.size) else none):=hns.keeps λb o e=>Z0 _ e
 have hl5:(h2.push go).NoLimit:=by
  refine XW hst λmc h3 h4=>?_
  exact⟨mc,h3.at' λo e=>k5 _ o hSP e,h4⟩
 have hIt:(h2.push go).get? s.heap.objs.size=some (WV lst 0):=keep _ _ hIP (ZK _ rfl) go
 have szv:vals.toArray.size=ns.length:=by simp [iv.len]
 have W₀:∀ A':YE,A'.handled=none->Walks PW w A' s.heap.objs.size [s.heap.objs.size,lst,cc,WQ] [s.heap.objs.size] ns.length (λi v=>vals.toArray[i]? = some v) (λi h=>h.IsListIter s.heap.objs.size lst i/\h.IsList lst vals.toArray):=λA' ha=>by
  have:=Walks.list (prog:=PW) (w:=w) ha s.heap.objs.size lst (hIne hlst) vals.toArray
  rw [szv] at this
  exact this.mono_fp (Xu (.head _) (Wo (.tail _ (.head _))))
 have nC:∀ {b:Zo} {o:Xl},s.heap.get? b=some o->h1.objs.size≠b:=λ{b o} e=>Ys (Z9 (YH e) (by exact ZU (by assumption)))
 have sx5:Sx [P] (λuu=>False) s { s with heap:=h2.push go,toks:=tk+1+1+1,gens:=s.gens.push (.fresh (.compStart (.GeneratorExp (Zkv xn bn p1 p2 p3) [⟨.Name xn px,.Name nm pi,[],0⟩] scope pos) 0 (.ref s.heap.objs.size) .none (genEnv scope cl h1.objs.size code Jx env))) } :=
  ⟨λb o hb e=>k5 b o (λq=>hb (by exact q ▸ .head _)) e,λk uu y h=>by
   have hlt:=(Array.getElem?_eq_some_iff.mp h).1
   show(s.gens.push _)[k]? = _
   exact ZF (Array.getElem?_push_lt hlt) (ZV hlt▸h),λhg=>hg.push rfl,g5.toks,rfl⟩
 refine h h2.objs.size h1.objs.size ps' _ C5 hT1 ⟨hs3,hltB,hltA,Xu ⟨YH hlst,hlP⟩ (Xu ⟨YH hcv,hcP⟩ (Wo ⟨YH hoS,hSP⟩)),hPlt,Array.size_push _,sx5,g5,λA' hh'=>?_⟩
 refine GenAt.fresh (cenv:=genEnv scope cl h1.objs.size code Jx env) hh' W₀ O9 (Zbd f ns) hxk (by show(scope.kind == .class||(scope.kind == .module&&_))=false; rw [hkind]; rfl) hco (λhm=>?_) (Zac iv hb hkind hxk hbk hcc hd1 hd2 hd3 ⟨_,k5 _ _ hcP hcv,rfl⟩ (by exact .tail _ (.tail _ (.head _))) (λhm=>?_)) ?_ (Array.getElem?_push_size) ⟨⟨_,hIt,rfl,rfl⟩,⟨_,k5 _ _ hlP hlst,rfl,ep,rfl⟩⟩ hn5 hl5
 ·exact Vr (λq=>absurd q (Ys (show s.heap.objs.size<h1.objs.size from Z9 (YM _) hC1))) (Vr (nC hlst) (Vr (nC hcv) (Fv (nC hoS)))) hm
 ·exact hIne hcv (Zk.mp hm)
 ·refine⟨go,_,_,ZK _ (by rw [<- hgo]; rfl),by rw [<- hgo],by rw [<- hgo],by rw [<- hgo]⟩
structure OE (K:Frag)(f:Zo)(qual:Yz)(d:WE×List JL×US)(dV kV:Zh)(c P:Zo):Prop where
 ex:∃ pre name doc pm an ct oc od osl,K.lookup f=some ⟨oc,od,.func (JC name qual d.1 (pre++d.2.1) d.2.2 dV kV doc pm an (.ref c) ct),osl⟩/\Pre pre
 cd:codeIn K (.ref c) qual=true
 hd:∀ h,K.In h->CodeHd h c P
theorem DA{R:Zc}{f:Zo}{qual:Yz}{d:WE×List JL×US}{dV kV:Zh}{args:Args}{B:W7->List (Yz×Zh)}{led:Zd}(G:Gl K H0 mg mb)(S:St H0 A l s){c P:Zo}(fk:OE K f qual d dV kV c P)(M:List Zo)(hroom:A.depth<Zr)(hnd:∀ n,((Xi n d.2.2.names []).map (λuu=>uu.1)).Nodup)
  (hB:∀ name doc pm an ct (Q:List (Yz×Zh)->Zi->Prop)(E':Za),(∀ t,Q (B t) s)->Zp (model PW w) A.in1 (bindArgs (JC name qual d.1 d.2.1 d.2.2 dV kV doc pm an (.ref c) ct) args) Q E' s)
  (hkind:∀ t n,∀ x∈B t,d.2.2.names.lookup x.1=some .local\/(d.2.2.names.lookup x.1=some .cell/\((Xi n d.2.2.names []).lookup x.1).isSome=true))(L0:Lg s.heap led)
  (h:∀ L t s',Cx H0 (A.deeper (Y3 qual d.2.2 L f (.ref c))) (Y3 qual d.2.2 L f (.ref c)::l) M s L (bindL (Y3 qual d.2.2 L f (.ref c)).kindOf (B t) λuu=>none) (VJ (Xi (L+1) d.2.2.names []) (bindC (Y3 qual d.2.2 L f (.ref c)).kindOf (B t) λuu=>none)++led) s' ->
   (∀ x∈Xi (L+1) d.2.2.names [],Nw H0 s x.2) ->
   Zp (model PW w) (A.deeper (Y3 qual d.2.2 L f (.ref c))) (execs d.2.1 (Y3 qual d.2.2 L f (.ref c))) (Nz R) (Fx w (A.deeper (Y3 qual d.2.2 L f (.ref c))) (Y3 qual d.2.2 L f (.ref c)) R) s')
  (hco:d.2.2.isCoroutine=false:=by rfl)(hgen:d.2.2.isGenerator=false:=by rfl)(hk:d.2.2.kind = .function:=by rfl) :
  Yk (model PW w) A (.call (.ref f) args) R s:=by
 obtain ⟨pre,name,doc,pm,an,ct,oc,od,osl,ho,hpre⟩:=fk.ex
 exact Zei G S ho hpre fk.cd M hroom hnd (hB name doc pm an ct) hkind L0 h hco hgen hk
theorem Jo(f:UInt64)(ns:List Int):(Ge f ns).length=ns.length:=YW ..
section
variable {P lst cc:Zo}{f:UInt64}{ns:List Int}{a C':Zo}
theorem Ff.itr(g:Ff w H0 P lst cc f ns s s' a C')(hh:A.handled=none)(hroom:A.depth<Zr) :
  DK w A a [C',s.heap.objs.size] (λk=>k=s.gens.size) [a,C',s.heap.objs.size,lst,cc,WQ] (Ge f ns) (GenAt PW w A a s.gens.size C' [s.heap.objs.size,lst,cc,WQ] [s.heap.objs.size] O9 (Ge f ns).length (Zbd f ns)):=by
 have l3:=g.lt WQ (by exact .tail _ (.tail _ (.head _)))
 have h1:=g.o1
 have h2:=g.o2
 refine Zgx hh Zhu (Ys h2) (λhm=>?_) (λb hb=>by exact(Zk.mp hb) ▸ .head _) hroom (by exact .tail _ (.tail _ (.tail _ (.head _)))) (X7 (Yx l3.1 h1)) λhm=>X7 l3.1 (Zk.mp hm)
 exact Vr (Ys (Yx h1 h2)) (Vr (Ys (Yx (g.lt lst (by exact .head _)).1 (Yx h1 h2))) (Vr (Ys (Yx (g.lt cc (by exact .tail _ (.head _))).1 (Yx h1 h2))) (Fv (Ys (Yx l3.1 (Yx h1 h2)))))) hm
theorem Ff.inv(g:Ff w H0 P lst cc f ns s s' a C')(hh:A.handled=none):GenAt PW w A a s.gens.size C' [s.heap.objs.size,lst,cc,WQ] [s.heap.objs.size] O9 (Ge f ns).length (Zbd f ns) 0 s':=by
 rw [Jo]; exact g.gen A hh
theorem Ff.own(g:Ff w H0 P lst cc f ns s s' a C'):∀ b∈[a,C',s.heap.objs.size,lst,cc,WQ],b≠P/\b<s'.heap.objs.size:=by
 have h1:=g.o1
 have h2:=g.o2
 have h3:=g.o3
 have hs:s.heap.objs.size<s'.heap.objs.size:=Yx h1 (Yx h2 h3)
 have hP:=g.ltP
 exact Xu ⟨Ys (Yx hP (Yx h1 h2)),h3⟩ (Xu ⟨Ys (Yx hP h1),Yx h2 h3⟩ (Xu ⟨Ys hP,hs⟩ λb hb=>⟨(g.lt b hb).2,Yx (g.lt b hb).1 hs⟩))
end
noncomputable def O3(xs ys:List Int):UInt64:=X4 (JQ ((Wl xs).zip (Wl ys))) (Yy ((xs.length:Int)-1))
theorem Zeq(G:Gl K H0 mg mb)(B:Bm H0 mg)(F:KG K b){c P:Zo}(fd:OE K b.cov "covariance" Gf .none .none c P)(hHP:H0.get? P=none)(S:St H0 A l s){xl yl:Zo}{vx vy:List Zh}{xs ys:List Int}{ex ey i j q:Nat}{ps:Array Zh}{led0:Zd}(L0:Lg s.heap led0)(hi:led0[i]? = some (xl,ZD vx ex))(hj:led0[j]? = some (yl,ZD vy ey))(hq:led0[q]? = some (P,Ye ps))(hT:YQ ps.toList)
  (ivx:IV vx xs)(ivy:IV vy ys)(hbx:∀ x∈xs,x.natAbs<=2^40)(hby:∀ x∈ys,x.natAbs<=2^40)(hlen:xs.length=ys.length)(h2:2<=xs.length)(h3:xs.length<=1000)
  (ok:Gk ((Wl xs).zip (Wl ys)) z3)(hroom:A.depth+1<Zr)(hh:A.handled=none){R:Zc}
  (k:∀ t ps' s',t≠0->Go H0 [P] s s'->s'.heap.get? P=some (Ye ps')->YQ ps'.toList->R (.ok (.ret (.float (O3 xs ys) t))) s'):Yk (model PW w) A (.call (.ref b.cov) ⟨[.ref xl,.ref yl],[]⟩) R s:=by
 refine DA G S fd [P] (by exact ZO (by assumption)) (by intro n; show([Zj "ybar",Zj "xbar"]:List Yz).Nodup; decide) (B:=λuu=>xyB (.ref xl) (.ref yl)) (λname doc pm an ct Q E' k=>Xk (a:=xyB (.ref xl) (.ref yl)) rfl (k 0)) (λuu=>Nf _ _) L0 λL uu s1 C hnw=>?_
 have hh':(A.deeper (Y3 "covariance" Gf.2.2 L b.cov (.ref c))).handled=none:=hh
 have up:∀ {n:Nat} {p:Zo×Xl},led0[n]? = some p->(VJ (Xi (L+1) Gf.2.2.names []) (bindC (Y3 "covariance" Gf.2.2 L b.cov (.ref c)).kindOf (xyB (.ref xl) (.ref yl)) λuu=>none)++led0)[n+2]? = some p:=λ{n p} h=>by
  rw [Yd (by exact YL 2 n)]
  exact h
 have hi':=up hi
 have hj':=up hj
 have hq':=up hq
 have nx:=hnw ("xbar",L+1) (.tail _ (.head _))
 have ny:=hnw ("ybar",L+2) (.head _)
 have hvx:vx.length=xs.length:=ivx.len
 have hlv:vx.length=vy.length:=by rw [hvx,ivy.len,hlen]
 refine Zg (Zv (Xj (C.bootE G F.nlen2 Boot.«len» (Zs (Zq (C.nameE (v:=.ref xl) rfl (ZC (Yo ⟨_,C.at _ hi',rfl,ex,rfl⟩ (by rw [ZJ]; lia) ?_))))))))
 refine(C.tok 2).setE λs2 C2=>?_
 refine Zg (Yv (Z8 (Xj (C2.bootE G F.nlen2 Boot.«len» (Zs (Zq (C2.nameE (v:=.ref yl) rfl (ZC (Yo ⟨_,C2.at _ hj',rfl,ey,rfl⟩ (by rw [ZJ]; lia) ?_)))))))))
 have C3:=C2.tok 2
 refine C3.nameE (v:=.int (vx.toArray.size:Int) (s1.toks+1)) rfl (PySem.P.ne_int (Zu ?_))
 refine Y6 (by simp [hlv]) (Z4 ?_)
 refine Zg (Yv (Z8 (C3.nameE (v:=.int (vx.toArray.size:Int) (s1.toks+1)) rfl (Zt (PySem.P.lt_int (Zu ?_))))))
 refine Y6 (by simp; lia) (Z4 ?_)
 have C4:=C3.tok 1
 refine Zg (Zv (ZH (Xj (C4.globalE G F.nfsum (Zs (Zq (C4.nameE (v:=.ref xl) rfl (ZC ?_))))))))
 refine Gh (H0:=H0) C4.st.glob (C4.ok (i+2) hi') (.inl ⟨_,rfl⟩) ivx hbx h3 hh' λt5 s5 g5=>?_
 have C5:=C4.call g5
 refine C5.nameE (v:=.int (vx.toArray.size:Int) (s1.toks+1)) rfl (PySem.Flt.truediv_fi hh' (λh=>absurd h (Ju (by simp; lia))) (λh=>absurd h (by rw [ZJ,hvx]; lia)) λuu uu=>?_)
 refine(C5.tok 1).setCell 1 rfl rfl (.inr nx.e) nx.h λs6 C6=>?_
 refine Zg (Zv (ZH (Xj (C6.globalE G F.nfsum (Zs (Zq (C6.nameE (v:=.ref yl) rfl (ZC ?_))))))))
 refine Gh (H0:=H0) C6.st.glob (C6.ok (j+2) hj') (.inl ⟨_,rfl⟩) ivy hby (by lia) hh' λt7 s7 g7=>?_
 have C7:=C6.call g7
 refine C7.nameE (v:=.int (vx.toArray.size:Int) (s1.toks+1)) rfl (PySem.Flt.truediv_fi hh' (λh=>absurd h (Ju (by simp; lia))) (λh=>absurd h (by rw [ZJ,hvx]; lia)) λuu uu=>?_)
 refine(C7.tok 1).setCell 0 rfl rfl (.inr ny.e) ny.h λs8 C8=>?_
 have e1:X4 (hf (2*xs.sum)) (Yy (vx.toArray.size:Int))=UT xs:=by rw [ZJ,hvx]; rfl
 have e2:X4 (hf (2*ys.sum)) (Yy (vx.toArray.size:Int))=UT ys:=by rw [ZJ,hvx,hlen]; rfl
 rw [e1,e2] at C8
 have CH:=fd.hd _ (C8.st.X G)
 refine Zg (Zv (Xj (C8.globalE G F.nsump (Zs (Zq ?_)))))
 refine C8.genDev (P:=P) (i:=q+2) (j:=i+2) (k:=1) (ns:=xs) (lst:=xl) G B rfl rfl (by decide) rfl rfl rfl rfl rfl rfl rfl rfl (by show A.depth+1<_; exact hroom) rfl CH hq' hT (.inl (.head _)) hHP rfl hi' rfl ivx (λn hn=>by have:=hbx n hn; lia) rfl rfl rfl rfl rfl λa9 c9 ps9 s9 C9 hT9 g9=>?_
 refine Zq ?_
 have hq9:((VJ (Xi (L+1) Gf.2.2.names []) (bindC (Y3 "covariance" Gf.2.2 L b.cov (.ref c)).kindOf (xyB (.ref xl) (.ref yl)) λuu=>none)++led0).set (q+2) (P,Ye ps9))[q+2]? = some (P,Ye ps9):=by
  rw [List.getElem?_set_self (Z5.mp hq').1]
 have hj9:((VJ (Xi (L+1) Gf.2.2.names []) (bindC (Y3 "covariance" Gf.2.2 L b.cov (.ref c)).kindOf (xyB (.ref xl) (.ref yl)) λuu=>none)++led0).set (q+2) (P,Ye ps9))[j+2]? = some (yl,ZD vy ey):=by
  exact ZF (XZ (λe=>by rw [<- e,hq'] at hj'; cases hj')) (hj')
 refine C9.genDev (P:=P) (i:=q+2) (j:=j+2) (k:=0) (ns:=ys) (lst:=yl) G B rfl rfl (by decide) rfl rfl rfl rfl rfl rfl rfl rfl (by show A.depth+1<_; exact hroom) rfl (fd.hd _ (C9.st.X G)) hq9 hT9 (.inl (.head _)) hHP rfl hj9 rfl ivy (λn hn=>by have:=hby n hn; lia) rfl rfl rfl rfl rfl λa10 c10 ps10 s10 C10 hT10 g10=>?_
 refine ZC ?_
 have hr1:A.depth+1<Zr:=hroom
 have iA:=g9.itr (w:=w) (A:=(A.deeper (Y3 "covariance" Gf.2.2 L b.cov (.ref c))).in1) hh' hr1
 have iB:=g10.itr (w:=w) (A:=(A.deeper (Y3 "covariance" Gf.2.2 L b.cov (.ref c))).in1) hh' hr1
 have inv1:=iA.keep _ _ _ _ _ (g9.inv (A:=(A.deeper (Y3 "covariance" Gf.2.2 L b.cov (.ref c))).in1) hh') g10.sx (λp hp q=>(g9.own p q).1 (Zk.mp hp)) λk h=>h.elim
 have inv2:=g10.inv (A:=(A.deeper (Y3 "covariance" Gf.2.2 L b.cov (.ref c))).in1) hh'
 have y8:yl<s8.heap.objs.size:=YH (C8.at (j+2) hj')
 have l8:L+2<s8.heap.objs.size:=YH (C8.at 0 rfl)
 have c8:=(g9.lt WQ (.tail _ (.tail _ (.head _)))).1
 have n1h:∀ p,p<s9.heap.objs.size->s8.heap.objs.size<=p->p∉[a10,c10,s9.heap.objs.size,yl,L+2,WQ]:=λp p9 lo=>
  Vr (λh=>Nat.lt_asymm (h▸p9) (Yx g10.o1 g10.o2)) (Vr (λh=>Nat.lt_asymm (h▸p9) g10.o1) (Vr (λh=>Xy _ (h▸p9)) (Vr (λh=>Xp.mpr (h▸lo) y8) (Vr (λh=>Xp.mpr (h▸lo) l8) (Fv λh=>Xp.mpr (h▸lo) c8)))))
 have n1:∀ p∈[c9,s8.heap.objs.size],p∉[a10,c10,s9.heap.objs.size,yl,L+2,WQ]:=Xu (n1h _ (g9.own _ (.tail _ (.head _))).2 (ZU g9.o1)) (Wo (n1h _ (g9.own _ (.tail _ (.tail _ (.head _)))).2 (Z6 _)))
 have n2:∀ p∈[c10,s9.heap.objs.size],p∉[a9,c9,s8.heap.objs.size,xl,L+1,WQ]:=λp hp hm=>OH hp (λh=>Nat.lt_asymm (h▸(g9.own p hm).2) g10.o1) λh=>Xy _ (h▸(g9.own p hm).2)
 have lA:(Ge (UT xs) xs).length=(Ge (UT ys) ys).length:=by rw [Jo,Jo,hlen]
 refine Tq iA iB n1 n2 (λk h1 h2=>?_) (λQ E' k=>KS inv1.1 inv1 Q E' k) (λs11 x11 Q E' k=>?_) lA (by rw [Jo]; exact ZO (by assumption)) ok hh' λt12 s12 x12=>?_
 ·have:=g9.gens; rw [h1] at h2; lia
 ·have:=iB.keep _ _ _ _ _ inv2 x11 YC λk h=>h.elim
  exact KS this.1 this Q E' k
 have new8:∀ p∈[c9,s8.heap.objs.size]++[c10,s9.heap.objs.size],s8.heap.get? p=none:=Xu (Je (ZU g9.o1)) (Xu (Je (Z6 _)) (Xu (Je (ZU (Yx (Yx g9.o1 (Yx g9.o2 g9.o3)) g10.o1))) (Wo (Je (ZU (Yx g9.o1 (Yx g9.o2 g9.o3)))))))
 have g12:=x12.go (g9.go.trans g10.go) new8 C8.st.glob
 have hP12:s12.heap.get? P=some (Ye ps10):=x12.keep _ _ (λhm=>by
  have:=new8 P hm
  exact noN (ZF (ZR (C8.at (q+2) hq')) this)) (C10.at (q+2) (by rw [List.getElem?_set_self (by exact ZR List.length_set▸(Z5.mp hq').1)]))
 have C12:=C8.callAt (q+2) (by exact hq') g12 (.of hP12 Y5 rfl) (.inl (.head _)) (by intro q; exact Wu q)
 refine C12.setE λs13 C13=>?_
 refine Zg (Ym (ZH (C13.nameE rfl (ZH (C13.nameE (v:=.int (vx.toArray.size:Int) (s1.toks+1)) rfl (Zt (PySem.P.sub_int ?_)))))))
 refine PySem.Flt.truediv_fi hh' (λh=>absurd h (Ju (by simp; grind  ))) (λh=>absurd h (by rw [ZJ,hvx]; lia)) λuu uu=>?_
 have C14:=C13.tok 3
 have e3:X4 (JQ ((Ge (UT xs) xs).zip (Ge (UT ys) ys))) (Yy ((vx.toArray.size:Int)-1))=O3 xs ys:=by rw [ZJ,hvx]; rfl
 rw [e3]
 exact k _ ps10 _ (XA _) C14.go (C14.at (q+2) (by rw [List.getElem?_set_self (by exact(Z5.mp hq').1)])) hT10
noncomputable def Vl:List Int->List Int->Int
 | x::xs,y::ys=>x*y+Vl xs ys
 | _,_=>0
theorem NP:∀ (xs ys:List Int) (B:Nat),(∀ x∈xs,x.natAbs<=B)->(∀ y∈ys,y.natAbs<=B)->(Vl xs ys).natAbs<=xs.length*(B*B)
 | [],_,_,_,_=>Yt _
 | _::_,[],_,_,_=>Yt _
 | x::xs,y::ys,B,hx,hy=>by
  have:=NP xs ys B (λz hz=>hx z (.tail _ hz)) (λz hz=>hy z (.tail _ hz))
  have h1:(x*y).natAbs<=B*B:=by rw [Yu]; exact Xs (hx x (.head _)) (hy y (.head _))
  show(x*y+Vl xs ys).natAbs<=(xs.length+1)*(B*B)
  rw [Nat.succ_mul]
  exact Zl (Int.natAbs_add_le _ _) (by lia)
theorem ssz{z:Int}{m:Nat}(h:z.natAbs<=m)(hm:m<=2^40):-2^63<=z/\z<=(PySem.Builtin.Math.maxSsize:Int):=by
 have:PySem.Builtin.Math.maxSsize=2^63-1:=rfl
 lia
theorem Zbx{I J:Zo}{ownI ownJ:List Zo}{ps qs:List Zh}{InvI InvJ:Nat->Zi->Prop}(hI:Itr w H0 I ownI ps InvI)(hJ:Itr w H0 J ownJ qs InvJ)(hIJ:I∉ownJ)(hJI:J∉ownI){xs ys:List Int}(hx:IV ps xs)(hy:IV qs ys)(hlen:xs.length=ys.length)(hl:xs.length<=1000)
  (hbx:∀ x∈xs,x.natAbs<=2^12)(hby:∀ y∈ys,y.natAbs<=2^12)(hh:A.handled=none){T:Zo}(hTI:T≠I)(hTJ:T≠J){R:Zc} :
  ∀ (n i:Nat) (acc:Int) (s:Zi) (t0:W7) (iu:Bool),xs.length-i=n->i<=xs.length->InvI i s->InvJ i s->s.heap.get? T=some (XX (t3V z3))->acc.natAbs<=i*(2^12*2^12)->(i=xs.length->iu=true) ->
   (∀ t s',Go H0 [I,J] s s'->R (.ok (.ret (.int (acc+Vl (xs.drop i) (ys.drop i)) t))) s') ->
   Yk (model PW w) A (.builtin "math.sumprod.loop" ⟨[.ref I,.ref J,.int 0 t0,.bool true,Xr acc,.bool iu,.bool true,.ref T,.bool false],[]⟩) R s:=by
 intro n
 induction n with
 | zero=>
  intro i acc s t0 iu hn hi hIi hJi hT hok hfu k
  have hil:i=xs.length:=by grind
  have hfu:=hfu hil
  subst hfu
  have hd:Vl (xs.drop i) (ys.drop i)=0:=by rw [List.drop_eq_nil_of_le (by exact Xw (ZR (by assumption)))]; rfl
  rw [hd,Int.add_comm acc 0] at k
  have hpn:ps[i]? = none:=XS (by rw [hx.len]; lia)
  have hqn:qs[i]? = none:=XS (by rw [hy.len]; lia)
  refine Wq GU J1 ?_
  delta Builtin.«math.sumprod.loop»
  show Zp _ A.in1 (Uq (.ref T) >>= _) _ _ s
  refine Zf (YJ hT rfl ?_)
  refine Zf (hI.done _ _ _ _ i hh hIi hpn λs1 g1=>?_)
  have hJ1:=hJ.keep _ _ _ _ hJi g1 (λp hp=>by exact(Zk.mp hp)▸hIJ)
  refine Zf (Yc (hJ.done _ _ _ _ i hh hJ1 hqn λs2 g2=>?_))
  refine YR Zn ?_
  have g12:Go H0 [I,J] s s2:=(g1.mono (λp hp=>by rw [Zk.mp hp]; simp)).trans (g2.mono (λp hp=>by rw [Zk.mp hp]; simp))
  dsimp only
  refine YT rfl (Zf (Xm ?_))
  refine YT rfl (Zf (wpAny_mkInt (Zf (Yc (PySem.P.add_int ?_)))))
  refine YT rfl (Zf (Xm ?_))
  refine YR Zn ?_
  refine Zm ?_
  exact k _ _ (g12.trans (.ext (s:=s2) (s':={ s2 with toks:=s2.toks+1+1 }) (λuu uu h=>h) (Zx s2.toks 2) rfl rfl _))
 | succ n ih=>
  intro i acc s t0 iu hn hi hIi hJi hT hok hfu k
  refine Wq GU J1 ?_
  delta Builtin.«math.sumprod.loop»
  show Zp _ A.in1 (Uq (.ref T) >>= _) _ _ s
  refine Zf (YJ hT rfl ?_)
  have hxl:i<xs.length:=by lia
  have hyl:i<ys.length:=by lia
  have hxi:xs[i]? = some xs[i]:=ZE hxl
  have hyi:ys[i]? = some ys[i]:=ZE hyl
  refine zE (hx.at_ i _ hxi) λtx hpx=>?_
  refine zE (hy.at_ i _ hyi) λty hqy=>?_
  rw [Ww hxl,Ww hyl] at k
  have b1:=hbx _ (Jq hxl)
  have b2:=hby _ (Jq hyl)
  generalize xs[i]=x at *
  generalize ys[i]=y at *
  have b3:(x*y).natAbs<=2^12*2^12:=by rw [Yu]; exact Xs b1 b2
  have b4:(acc+x*y).natAbs<=(i+1)*(2^12*2^12):=Zl (Int.natAbs_add_le _ _) (by lia)
  refine Zf (hI.item _ _ _ _ i _ hh hIi hpx λs1 g1 hIi1=>?_)
  have hJ1:=hJ.keep _ _ _ _ hJi g1 (λp hp=>by exact(Zk.mp hp)▸hIJ)
  refine Zf (Yc (hJ.item _ _ _ _ i _ hh hJ1 hqy λs2 g2 hJ2=>?_))
  have hI2:=hI.keep _ _ _ _ hIi1 g2 (λp hp=>by exact(Zk.mp hp)▸hJI)
  refine YR Zn ?_
  dsimp only
  refine YT rfl (YT ?_ ?_)
  ·have:i*(2^12*2^12)<=1000*(2^12*2^12):=Yn _ (by exact Zl (by assumption) (by assumption))
   simp only [Bool.and_eq_true,decide_eq_true_eq]
   generalize x*y=xy at *
   show(((_/\_)/\_/\_)/\_/\_)/\_/\_
   have:PySem.Builtin.Math.maxSsize=2^63-1:=rfl
   exact⟨⟨⟨ssz b1 (by decide),ssz b2 (by decide)⟩,ssz b3 (by decide)⟩,ssz b4 (Zl (Yn _ (Xv (Zl (ZU hxl) hl))) (by decide))⟩
  ·refine Zm ⟨Wv J1 _,?_⟩
   refine ih (i+1) (acc+x*y) s2 t0 true (by grind) (by assumption) hI2 hJ2 (g2.nd _ _ (g1.nd _ _ hT (λq=>hTI (Zk.mp q)) (λuu uu h=>by cases h)) (λq=>hTJ (Zk.mp q)) (λuu uu h=>by cases h)) b4 (λuu=>rfl) λt s' g=>?_
   have:=k t s' (((g1.mono (λp hp=>by rw [Zk.mp hp]; simp)).trans (g2.mono (λp hp=>by rw [Zk.mp hp]; simp))).trans g)
   rw [show acc+Vl (x::xs.drop (i+1)) (y::ys.drop (i+1))=acc+x*y+Vl (xs.drop (i+1)) (ys.drop (i+1)) from by show acc+(x*y+_)=_; rw [Int.add_assoc]] at this
   exact this
theorem BP(S:∀ b o,H0.get? b=some o->s.heap.get? b=some o){l l':Zo}{o o':Xl}{ps qs:List Zh}{xs ys:List Int}(h:Wy s.heap (l,o))(h':Wy s.heap (l',o'))(hs:SqO o ps)(hs':SqO o' qs)(hx:IV ps xs)(hy:IV qs ys)(hlen:xs.length=ys.length)(h0:0<xs.length)(hl:xs.length<=1000)
  (hbx:∀ x∈xs,x.natAbs<=2^12)(hby:∀ y∈ys,y.natAbs<=2^12)(hh:A.handled=none){Q:Za}(k:∀ t s',Go H0 [] s s'->Q (.int (Vl xs ys) t) s'):Zp (model PW w) A (call (.builtin "math.sumprod") [.ref l,.ref l']) Q E s:=by
 refine Bq Bf GC GF (Br _ _) ?_
 refine Zf (Xk (a:=[.ref l,.ref l']) rfl ?_)
 refine XW (HE (w:=w) S h hs) λInvI hI hIit=>?_
 refine Zf (hIit _ _ _ λs1 g1 i1 hz1 hp1=>?_)
 refine XW (HE (w:=w) (s:=s1) (λb o e=>g1.glob S b o e) (h'.go g1 (λh=>nomatch h)) hs') λInvJ hJ hJit=>?_
 refine Zf (Yc (hJit _ _ _ λs2 g2 j2 hz2 hp2=>?_))
 refine Zf (wpAny_mkInt ?_)
 have gp:Go H0 [] s2 { s2 with toks:=s2.toks+1,heap:=s2.heap.push (XX (t3V z3)) }:=(Go.ext (s:=s2) (s':={ s2 with toks:=s2.toks+1 }) (λuu uu h=>h) (Zx s2.toks 1) rfl rfl []).trans (Go.push (s:={ s2 with toks:=s2.toks+1 }) _)
 have hJI:s1.heap.objs.size∉[s.heap.objs.size,l]:=by
  have:=Hh (h.go g1 (λh=>nomatch h)).at_
  simp [hz1,this]
 have hIJ:s.heap.objs.size∉[s1.heap.objs.size,l']:=by
  have:=Hh h'.at_
  simp [this,Ne.symm hz1]
 have hTJ:s2.heap.objs.size≠s1.heap.objs.size:=by
  cases q:s2.heap.get? s1.heap.objs.size with
  | none=>exact absurd q hp2
  | some o=>exact Hh q
 have hTI:s2.heap.objs.size≠s.heap.objs.size:=by
  cases q:s1.heap.get? s.heap.objs.size with
  | none=>exact absurd q hp1
  | some o=>refine zE (g2.there _ _ q) λo' z=>?_; exact Hh z
 refine Zf (Xa (Zm ⟨Wv J1 _,?_⟩) (by show 3<=_; rw [ZW]; decide))
 refine Zbx hI hJ hIJ hJI hx hy hlen hl hbx hby hh (T:=s2.heap.objs.size) hTI hTJ _ 0 0 _ _ false rfl (Yt _) (hI.keep _ _ _ _ (hI.keep _ _ _ _ i1 g2 YC) gp YC) (hJ.keep _ _ _ _ j2 gp YC) (ZK _ rfl) (Yt _) (λe=>by lia) λt s' g=>?_
 have e0:(0:Int)+Vl (xs.drop 0) (ys.drop 0)=Vl xs ys:=Int.zero_add _
 rw [e0]
 refine k t s' (((g1.trans g2).trans gp).step g λp hp=>.inr ?_)
 rcases Z7.mp hp with rfl | hp
 ·exact XC
 ·rw [Zk.mp hp]
  cases q:s.heap.get? s1.heap.objs.size with
  | none=>rfl
  | some o=>refine zE (g1.there _ _ q) λo' z=>?_; exact Wu (ZF (ZR XC) z)
end
variable {sm:Zo}
section
open PySem PySem.W PySem.Calls PyProof.Rows PySem.Spec
structure LrK (K:Frag)(C sm f:Zo):Prop where
 obj:∃ oc od cd sl,K.lookup C=some ⟨oc,od,.cls cd,sl⟩/\cd.mro = [.ref C,.type "tuple",.type "object"]/\cd.bases = [.type "tuple"]/\cd.hasDel=false/\sl[4]? = some (some .none)
 call:specialIn K (.ref C) "__call__"=some (some (.builtin "type.__call__"))
 typ:instIn K (.ref C) (.type "type")=some true
 reads:readsIn K C (.type "type")=true
 new:findCls K (.ref C) (.type "type") "__new__"=some (.get (.builtin "staticmethod.__get__") (.ref sm) .none (.ref C))
 rc:∃ rest,recIn K sm "staticmethod"=some (.ref f::rest)
 init:findIn K (.ref C) "__init__"=some (some (.builtin "object.__init__"))
 sub:mroIn K C (.ref C)=some true
 obt:mroIn K C (.type "object")=some true
 tup:mroIn K C (.type "tuple")=some true
section
variable {C f:Zo}{h:Xx}{M:XJ}
theorem LrK.made(k:LrK K C sm f)(X:K.In h):Ui M h (Bind.madeBy (.ref C)) none:=by
 refine GH k.obj λoc od cd sl ho hm hb hd h4=>?_
 have hc:clsIn K C=some cd:=by unfold clsIn; rw [ho]
 have hm':Ui M h (mroOf (.ref C)) cd.mro:=(looks_clsIn X hc).andThen .now
 intro A Q E s k q
 delta Bind.madeBy
 refine Zf (hm' A _ E s k ?_)
 rw [hm,JK]
 refine Zf (Zf (Zf (Zf (wpAny_loadPart (k _ _ (X _ _ ho)) (Zm ?_)))))
 dsimp only
 rw [h4]
 exact Zm (Zm (Zm q))
variable {R:Zc}
noncomputable def Zkz(K:Frag)(C:Zo)(R:Zc)(r:Result)(s':Zi):Prop:=match r with
 | .ok (.ret v)=>∃ x,v = .ref x/\(∃ ox,s'.heap.get? x=some ox/\ox.cls = .ref C)/\K.In s'.heap/\R (.ok (.ret (.ref x))) s'
 | .ok _=>False
 | .error e=>R (.error e) s'
theorem Zda(a x y:Zh):argsOk "object.__init__" ⟨[a],[(Zj "slope",x),(Zj "intercept",y)]⟩:=by unfold argsOk; kernel_rfl
theorem Zgq{u v:Zh}{kw:List (Yz×Zh)}(hkw:kw = [(Zj "slope",u),(Zj "intercept",v)])(k:LrK K C sm f)(X:K.In s.heap)
  (hq:Yk (model PW w) (A.under (.builtin "type.__call__" ⟨[.ref C],kw⟩)) (.call (.ref f) ⟨[.ref C],kw⟩) (Zkz K C R) { s with toks:=s.toks+1 }) :
  Yk (model PW w) A (.call (.ref C) ⟨[],kw⟩) R s:=by
 refine GH k.obj λoc od cd sl ho hm hb hd h4=>?_
 have hc:clsIn K C=some cd:=by unfold clsIn; rw [ho]
 have hmr:Ui (model PW w) s.heap (mroOf (.ref C)) cd.mro:=(looks_clsIn X hc).andThen .now
 refine codeAny_of_tree ?_
 show Zp _ _ (callAny (.ref C) _) _ _ _
 refine nd_load (X _ _ ho) ?_
 show Zp _ _ (callAny.viaDunder (.ref C) _) _ _ _
 delta callAny.viaDunder
 refine Zf ((looks_specialIn X k.call).at ?_)
 dsimp only
 rw [tc_bind]
 refine Zf (Zm (Zf (Zm ?_)))
 refine Zm (a:=Fin.again (.call (.builtin "type.__call__") ⟨.ref C::[],kw⟩)) (And.intro rfl ?_)
 refine codeAny_call_builtin_at (Code.quiet_builtin _ (by decide +kernel)) entry_typeCall (check_slot tc_kind tc_split (looks_instIn X k.typ) (tc_args _ _ _) ?_)
 delta Builtin.«type.__call__»
 refine Zf (hmr.at ?_)
 rw [hm]
 refine Zf ((k.made X).at ?_)
 dsimp only
 refine zE k.rc λrest hrc=>?_
 refine Zf (cls_bind X k.reads k.new (Y7 (sm_get (s:={ s with toks:=s.toks+1 }) X hrc (handed_on rfl ?_))))
 refine Zf (Yc (Y7 (codeAny_mono hq λr s' z=>?_)))
 rcases r with e | (vv | _ | _ | _)
 all_goals first | exact z | exact z.elim | skip
 refine zE z λx zr=>?_; obtain ⟨rfl,⟨ox,hx,hxc⟩,X2,hR⟩:=zr
 have t1:Ui (model PW w) s'.heap (typeOf (.ref x)) (.ref C):=(JZ hx).andThen (by exact hxc ▸ .now)
 have s1:Ui (model PW w) s'.heap (isSubtype (.ref C) (.ref C)) true:=UK X2 k.sub
 have i1:Ui (model PW w) s'.heap (typeLookup (.ref C) "__init__") (some (.builtin "object.__init__")):=WK X2 k.init
 have I1:Ui (model PW w) s'.heap (isInstance (.ref x) (.ref C)) true:=t1.andThen s1
 have I2:Ui (model PW w) s'.heap (specialOf (.ref x) "__init__") (some (.builtin "object.__init__")):=t1.andThen i1
 have I3:Ui (model PW w) s'.heap (isInstance (.ref x) (.type "object")) true:=t1.andThen (UK X2 k.obt)
 have I4:=k.made (M:=model PW w) X2
 obtain ⟨hh,gg,dd,tt,os⟩:=s'
 show Zp _ _ (isInstance (.ref x) (.ref C) >>= _) _ _ _
 refine Zf (I1.at ?_)
 refine YR Zn (Zf (Yc ?_))
 delta callSpecial?
 refine Zf (I2.at ?_)
 dsimp only
 refine Yc ?_
 rw [oi_bind]
 refine Zf (Zm ?_)
 refine Zf (Y7 ?_)
 subst hkw
 have hck:∀ {M:XJ} {A:YE} {E:Za} {Q:Unit->Zi->Prop},Ui M hh (isInstance (.ref x) (.type "object")) true->Q () ⟨hh,gg,dd,tt,os⟩->Zp M A (checkBuiltinCall "object.__init__" ⟨[.ref x],[(Zj "slope",u),(Zj "intercept",v)]⟩) Q E ⟨hh,gg,dd,tt,os⟩:=λ{M A E Q} h q=>check_slot (rest:=[]) oi_kind oi_split h (Zda (.ref x) u v) q
 refine Jm oi_plain entry_oi ?_
 refine hck I3 ?_
 delta Builtin.«object.__init__»
 refine Zf (t1.at (Zf (i1.at ?_)))
 refine Zf (I4.at ?_)
 refine YR ?_ (YR ?_ ?_)
 ·exact Zn
 ·exact Zn
 refine Zm ?_
 refine Zm ?_
 exact Zm hR
end
theorem Fc:Builtin.Slots.bestBase [.type "tuple"]=pure (.type "tuple"):=by kernel_rfl
theorem Zfu:Vy "tuple.__new__"=some .builtinFn:=by decide +kernel
theorem Zbo:splitId "tuple.__new__"=some ("tuple","__new__"):=by decide +kernel
theorem Zbp:plainId "tuple.__new__"=true:=by decide +kernel
theorem Zfw(a b:Zh):argsOk "tuple.__new__" ⟨[a,b],[]⟩:=by unfold argsOk; kernel_rfl
section
variable {C f:Zo}{h:Xx}{M:XJ}
theorem LrK.base(k:LrK K C sm f)(X:K.In h):Ui M h (Bind.staticBase (.ref C)) (.type "tuple"):=by
 refine GH k.obj λoc od cd sl ho hm hb hd h4=>?_
 have hc:clsIn K C=some cd:=by unfold clsIn; rw [ho]
 have hm':Ui M h (mroOf (.ref C)) cd.mro:=(looks_clsIn X hc).andThen .now
 have mk:=k.made (M:=M) X
 intro A Q E s kk q
 delta Bind.staticBase
 refine Zf (hm' A _ E s kk ?_)
 rw [hm,JK]
 refine Zf (Zf (Zf (mk A _ E s kk ?_)))
 refine YR Zn ?_
 refine Zf ((looks_clsIn X hc) A _ E s kk ?_)
 rw [hb,Fc]
 refine Zf (Zm (Zm ?_))
 dsimp only
 rw [JK]
 refine Zf (Zf ?_)
 rw [PySem.F.called_tuple.made]
 exact Zm (Zm (Zm (Zm q)))
variable {R:Zc}
theorem Zfv{t:Zo}{vs:List Zh}(k:LrK K C sm f)(X:K.In s.heap)(ht:s.heap.get? t=some (XX vs))(hv:vs.length<=100)
  (hq:∀ h':Xx,(∀ b o',s.heap.get? b=some o'->h'.get? b=some o')->R (.ok (.ret (.ref (h'.objs.size+1)))) { s with heap:=(h'.push emptyDict).push { cls:=.ref C,dict:=some h'.objs.size,data:=.seq vs.toArray } }) :
  Yk (model PW w) A (.call (.builtin "tuple.__new__") ⟨[.ref C,.ref t],[]⟩) R s:=by
 refine GH k.obj λoc od cd sl ho hm hb hd h4=>?_
 have hC:=X _ _ ho
 have I1:=k.base (M:=model PW w) X
 have I2:=k.made (M:=model PW w) X
 have I3:Ui (model PW w) s.heap (isSubtype (.ref C) (.type "tuple")) true:=UK X k.tup
 obtain ⟨hp,g,d,tk,os⟩:=s
 refine codeAny_call_builtin_code (Code.quiet_builtin _ (by decide +kernel)) ?_
 delta checkBuiltinCall; rw [Zfu,Zbo]
 have I5:Ui (model PW w) hp (isType (.ref C)) true:=(JZ hC).andThen .now
 have hmd:Bind.madeBy (.type "tuple")=pure (some "tuple.__new__"):=PySem.F.called_tuple.made
 refine YT rfl (Zf (I5.at (YR Zn (Zf (I3.at (YR Zn ?_))))))
 refine Zf (I1.at (Zf ?_))
 rw [hmd]
 refine Zm ?_
 refine YR ?_ ?_
 ·simp
 have fin:Yk (model PW w) A (.builtin "tuple.__new__" ⟨[.ref C,.ref t],[]⟩) R ⟨hp,g,d,tk,os⟩:=by
  refine VZ PySem.F.entry_tuple_new ?_
  rw [YE.under_plainId Zbp _]
  refine Zf (I5.at (YR Zn (Zf (I3.at (YR Zn ?_)))))
  have I6:Ui (model PW w) hp (Bind.madeHere "tuple.__new__" (.ref C)) ():=by
   refine I1.andThen ?_
   rw [hmd]
   exact Looks.of_pure (by exact rfl)
  refine Zf (I6.at (Zf ((WK X k.init).at ?_)))
  refine YT rfl ?_
  refine Zf (Xk (a:=()) rfl (Zf (Xk (a:=()) rfl ?_)))
  refine YR Zn ?_
  refine Zf (wpAny_collect_seq (s:=⟨hp,g,d,tk,os⟩) t (.inr rfl) ht rfl rfl (λh' hk=>?_) (by exact Zl hv (by decide)))
  refine Zf (Zm (Zf (wpAny_alloc (Zf ?_))))
  refine YR (by simp only [ZJ]; exact Xp.mpr (Zl hv (by decide))) ?_
  refine Zf (wpAny_alloc ?_)
  refine Zf (Zf (wpAny_load (Z0 _ (Z0 _ (hk _ _ hC))) (Zm ?_)))
  rw [hd]
  refine Zm (Zm ?_)
  have:=hq h' hk
  rw [show h'.objs.size+1=(h'.push emptyDict).objs.size from(Xq ..).symm] at this
  exact this
 have ha:=Zfw (.ref C) (.ref t)
 cases hsig:Manifest.signature? "tuple.__new__" with
 | none=>exact Zm fin
 | some sig=>
  unfold argsOk at ha; rw [hsig] at ha
  have ha:Bind.checkArgs "tuple.__new__" sig ⟨[.ref C,.ref t],[]⟩=pure ():=ha
  show Zp _ _ (Bind.checkArgs "tuple.__new__" sig ⟨[.ref C,.ref t],[]⟩) _ _ _
  exact ha▸Zm fin
end
structure K3 (K:Frag)(b:Ad2)(sm:Zo):Prop where
 lr:LrK K b.lr sm b.lrNew
 ntuple:nsIn K Zw "tuple"=some none
 klr:keepIn K (.ref b.lr)=true
 exm:exmOne K (.type "ValueError") (.ref b.se)=some false
 eqf:findIn K (.ref b.lr) "__eq__"=some (some (.builtin "tuple.__eq__"))
 tnew:findCls K (.type "tuple") (.type "type") "__new__"=some (.val (.builtin "tuple.__new__"))
noncomputable abbrev KO(C dx:Zo)(vs:List Zh):Xl:={ cls:=.ref C,dict:=some dx,data:=.seq vs.toArray }
theorem HD{T:String}{name:Yz}{v:Zh}{pl:Sem Bool}{Q:Zh×List Zh->Zi->Prop}(X:K.In s.heap)(ht:typeOf (.type T)=pure (.type "type"))(hs:Manifest.isStub T=false)
  (e:findCls K (.type T) (.type "type") name=some (.val v))(hh:Jk v=true)(h:Q (v,[]) { s with toks:=s.toks+1 }):Zp (model PW w) A (getMethod (.type T) name pl) Q E s:=by
 have hstub:opaqueClassAbove (.type T)=pure none:=by unfold opaqueClassAbove; dsimp only; rw [hs]; rfl
 have L0:Ui (model PW w) s.heap (typeOf (.type T)) (.type "type"):=Looks.of_pure ht
 have hg:findIn K (.type "type") "__getattribute__"=some (some (.builtin "type.__getattribute__")):=type_tga
 refine Zf (Zf (L0.here ((WK X hg).here ?_)))
 dsimp only
 rw [if_pos canon_tga]
 refine Zf (Yr (Q:=λv=>Q (v,[])) (E:=E) ?_ (λuu uu z=>Zm z) λuu uu z=>z)
 have LO:Ui (model PW w) s.heap (opaqueClassAbove (.type T)) none:=Looks.of_pure hstub
 refine cls_open X LO L0 hg (looks_hook X (r:=none) (by rfl)) (by show subIn K _ _=_; rfl) e
  (Zm (by show Zp _ _ (handedOut v) _ _ _; exact(handedOut_of hh)▸Zm h))
theorem Zgp(G:Gl K H0 mg mb)(F:KG K b){sm:Zo}(F3:K3 K b sm)(S:St H0 A l s){u v:Zh}(hroom:A.depth+1<Zr){R:Zc}
  (k:∀ x dx s',Go H0 [] s s'->Wy s'.heap (x,KO b.lr dx [u,v])->s.heap.get? x=none->R (.ok (.ret (.ref x))) s') :
  Yk (model PW w) A (.call (.ref b.lr) ⟨[],[(Zj "slope",u),(Zj "intercept",v)]⟩) R s:=by
 have g0:Go H0 [] s { s with toks:=s.toks+1 }:=Go.ext (s:=s) (s':={ s with toks:=s.toks+1 }) (λuu uu h=>h) (Wb _) rfl rfl []
 refine Zgq rfl F3.lr (S.X G) ?_
 refine Ub (binds:=[(Zj "_cls",.ref b.lr),(Zj "slope",u),(Zj "intercept",v)]) G ((S.go g0).around (A':=A.under (.builtin "type.__call__" ⟨[.ref b.lr],[(Zj "slope",u),(Zj "intercept",v)]⟩)) rfl) F.lrn [] [] YC Un hroom (λuu uu uu uu uu uu=>YG rfl) (by decide) (locs rfl) λL cdv s1 uu C=>?_
 refine Zg (Ym (MethodCall_ (C.boot G F3.ntuple Boot.«tuple» ?_)))
 refine HD (T:="tuple") (C.st.X G) rfl (by kernel_rfl) F3.tnew rfl ?_
 have C2:=C.tok 1
 refine Zs (Zq (C2.name (v:=.ref b.lr) rfl (Zq (U7 (Zq (C2.name (v:=u) rfl (Zq (C2.name (v:=v) rfl (ZC ⟨_,_,_,_,_,_,_,_,C2,by rw [ZW]; show 2<=_; decide,λt s3 C3 n1 n1'=>ZC ?_⟩)))))))))
 refine Y7 (Zfv F3.lr (C3.st.X G) (C3.at 0 rfl) (by show 2<=100; decide) λh' hk=>?_)
 have gk:Go H0 [] s3 { s3 with heap:=(h'.push emptyDict).push (KO b.lr h'.objs.size [u,v]) }:=Go.ext (s:=s3) (s':={ s3 with heap:=(h'.push emptyDict).push (KO b.lr h'.objs.size [u,v]) }) (λb o e=>Z0 _ (Z0 _ (hk b o e))) (Z6 _) rfl rfl _
 have C4:=C3.call gk
 have hx:((h'.push emptyDict).push (KO b.lr h'.objs.size [u,v])).get? (h'.objs.size+1)=some (KO b.lr h'.objs.size [u,v]):=by
  have:=ZK (h:=h'.push emptyDict) (o:=KO b.lr h'.objs.size [u,v]) rfl
  rwa [Xq] at this
 refine⟨_,rfl,⟨_,hx,rfl⟩,C4.st.X G,k _ h'.objs.size _ (g0.trans C4.go) ⟨hx,Xe,λdx e=>?_⟩ ?_⟩
 ·obtain rfl:=Zz e
  exact⟨emptyDict,Z0 _ (ZK _ rfl),rfl⟩
 ·refine(C3.noE ?_).e
  cases q:s3.heap.get? (h'.objs.size+1) with
  | none=>rfl
  | some o=>exact absurd (YH (hk _ _ q)) (Xp.mpr (Wb _))
theorem Cx.stored(C:Cx H0 A l M sE L m led s){m':Ze}{h':Xx}(hn:h'.Ns L m')(hs:J9 L s.heap h'):Cx H0 A l M sE L m' led { s with heap:=h',toks:=s.toks+1 }:=by
 refine V1 (JH C.ns) λoL esL epL hoL hdL=>?_
 refine V1 (JH hn) λoL' esL' epL' hoL' hdL'=>?_
 have other:∀ b o,b≠L->s.heap.get? b=some o->h'.get? b=some o:=λb o hb e=>(hs.2 b hb).trans e
 have neL:∀ b o,s.heap.get? b=some o->nd o->b≠L:=λb o e hn' q=>by rw [q,hoL] at e; obtain rfl:=Zz e; exact hn' _ _ hdL
 have eL:sE.heap.get? L=none:=C.new
 refine⟨⟨λb o e=>other b o (λq=>by rw [q,C.top] at e; exact Wu e) (C.st.glob b o e),C.st.frames,λev he=>?_,Nat.lt_succ_of_lt C.st.toks⟩,?_,hn,C.new,C.top,λp hp'=>⟨other _ _ (neL _ _ (C.has p hp').at_ (C.has p hp').nd) (C.has p hp').at_,(C.has p hp').nd,λdx e=>?_⟩,C.dn,C.nodup⟩
 ·refine U3 (C.st.fr ev he) λhk L' o es n h1 h2 h3 h4=>?_
  by_cases q:L'=L
  ·exact⟨hk,L,oL',esL',epL',q▸h1,q▸h2,hoL',hdL'⟩
  ·exact⟨hk,L',o,es,n,h1,h2,other _ _ q h3,h4⟩
 ·refine⟨λhg b o e=>other b o (λq=>by rw [q,C.top] at e; exact Wu e) (C.go.glob hg b o e),λb o e hm hn'=>?_,λb o es n e hd=>?_,λb o e hn'=>?_,Zl C.go.toks (Wb _),C.go.gens,C.go.os⟩
  ·exact other b o (λq=>by rw [q,eL] at e; exact Wu e) (C.go.nd b o e hm hn')
  ·refine zE (C.go.up b o es n e hd) λsl h1=>?_
   exact⟨sl,other b _ (λq=>by rw [q,eL] at e; exact Wu e) h1⟩
  ·refine XW (C.go.pres b o e hn') λo' h1 h2=>?_
   exact⟨o',other b _ (λq=>by rw [q,eL] at e; exact Wu e) h1,h2⟩
 ·refine XW ((C.has p hp').dx dx e) λo h1 h2=>?_
  exact⟨o,other _ _ (λq=>C.dn p hp' (by rw [e,q])) h1,h2⟩
theorem Cx.setX(C:Cx H0 A l M sE L m led s){env:V0}{x:Yz}{v:Zh}{Q:Unit->Zi->Prop}
  (h:∀ s',Cx H0 A l M sE L (Jh m x v) led s'->Sx [L] (λuu=>False) s s'->s.heap.objs.size<=s'.heap.objs.size->Q () s')(hL:env.locals=L:=by rfl)(hl:env.kindOf x=some .local:=by rfl)
  (hp:(env.scope.kind == .class||(env.scope.kind == .module&&env.locals != env.globals))=false:=by rfl):Zp MM A (V6 env x v) Q E s:=by
 subst hL
 refine wpAny_storeName_local hl C.ns (λh' hn hs=>h _ (C.stored hn hs) ⟨λb o hb e=>(hs.2 b (λq=>hb (by exact q ▸ .head _))).trans e,λuu uu uu h=>h,λh=>h,Wb _,rfl⟩ (Xw hs.1.symm)) hp
theorem Cx.sx{m0:Ze}{led0:Zd}{s0 s':Zi}{W:List Zo}{g:Nat->Prop}(C0:Cx H0 A l M sE L m0 led0 s0)(C:Cx H0 A l M sE L m led s)(x:Sx W g s s')(hW:∀ p∈W,s0.heap.get? p=none)(hl:∀ p∈led,p∈led0\/(p.2.dict=none/\p.1∈led0.map (λuu=>uu.1))):Cx H0 A l M sE L m led s':=by
 have out:∀ {b:Zo} {o:Xl},s0.heap.get? b=some o->b∉W:=λ{b o} e q=>by exact Wu (ZF (ZR (hW b q)) e)
 refine V1 (JH C0.ns) λoL0 esL0 epL0 hoL0 uu=>?_
 refine⟨⟨(λb o e=>x.keep b o (out (C0.st.glob b o e)) (C.st.glob b o e)),C.st.frames,λev he=>?_,Z9 C.st.toks x.toks⟩,?_,C.ns.at' λo e=>x.keep L o (out hoL0) e,C.new,C.top,λp hp=>?_,C.dn,C.nodup⟩
 ·refine U3 (C.st.fr ev he) λhk L' o es n h1 h2 h3 h4=>?_
  refine U3 (C0.st.fr ev he) λuu L2 o2 es2 n2 k1 k2 k3 k4=>?_
  have:L2=L':=by obtain rfl:=Zz (ZF (ZR h1) k1); rfl
  subst this
  exact⟨hk,L2,o,es,n,h1,h2,x.keep _ _ (out k3) h3,h4⟩
 ·have nE:∀ {b:Zo} {o:Xl},sE.heap.get? b=some o->b∉W:=λ{b o} e q=>by exact Wu (ZF (ZR ((C0.noE (hW b q)).e)) e)
  refine⟨λhg b o e=>x.keep b o (nE (hg b o e)) (C.go.glob hg b o e),λb o e hm hn=>x.keep b o (nE e) (C.go.nd b o e hm hn),λb o es n e hd=>?_,λb o e hn=>?_,Zl C.go.toks x.toks,λh=>x.bare (C.go.gens h),x.os.trans C.go.os⟩
  ·refine zE (C.go.up b o es n e hd) λsl h=>?_
   exact⟨sl,x.keep b _ (nE e) h⟩
  ·refine XW (C.go.pres b o e hn) λo' h hn'=>?_
   exact⟨o',x.keep b o' (nE e) h,hn'⟩
 ·have hk:=C.has p hp
  rcases hl p hp with h0 | ⟨h0,h1⟩
  ·refine⟨x.keep _ _ (out (C0.has p h0).at_) hk.at_,hk.nd,λdx e=>?_⟩
   refine XW (hk.dx dx e) λo k1 k2=>?_
   refine XW ((C0.has p h0).dx dx e) λo0 k3 uu=>?_
   exact⟨o,x.keep _ _ (out k3) k1,k2⟩
  ·refine XW (ZZ.mp h1) λp' hp' e'=>?_
   refine⟨x.keep _ _ (by exact e'▸out (C0.has p' hp').at_) hk.at_,hk.nd,λdx e=>by exact Wu (ZF (ZR h0) e)⟩
section
variable {c fl:Zh}
theorem Ve.leaveL{MM:XJ}{A:YE}{env:V0}{L:Zo}{Q:Unit->Zi->Prop}{led:Zd}(F:Ve H0 [] s (env::l) e cls a0 c (Xr L) s')(G:Go H0 M sE s)(hl:∀ p∈led,Wy s.heap p)(hf:env.frame=some L)(hQ:∀ s'',VY H0 M sE l e cls a0 led s''->s'.heap.UpToSlots s''.heap->Q () s''):Zp MM A (leaving env (.ref e)) Q E s' :=
 F.leave hf λs'' fl up=>hQ s'' ((fl.with led λp hp=>.inr ⟨hl p hp,λh=>nomatch h⟩).lift G YC) up
end
section
variable {Q:Za}{a:UInt64}{t u:W7}
noncomputable def Zfk(w:Um)(A:YE)(a:UInt64)(v:Zh)(z:Bool)(q:UInt64):Prop:=∀ (t:W7) (s:Zi) (Q E:Za),
 (z=true->∀ h' tk e,s.toks<=tk->Heap.NewExc s.heap h' e "ZeroDivisionError"->E (.ref e) { s with heap:=h',toks:=tk })->(z=false->Q (.float q s.toks) { s with toks:=s.toks+1 })->Zp (model PW w) A (JY .Div (.float a t) v) Q E s
theorem Oz(hA:A.handled=none){b:UInt64}:Zfk w A a (.float b u) (Yp b) (X4 a b):=λt s Q E h0 h1=>
 Nd hA h0 λh=>h1 (eq_false_of_ne_true h)
theorem Zaw(hA:A.handled=none){n:Int}(hn:(2*n).natAbs<=2^52):Zfk w A a (.int n u) (decide (n=0)) (X4 a (Yy n)):=λt s Q E h0 h1=>
 PySem.wpAny_with_toks (n:=s.toks) (Z6 _) (PySem.Flt.truediv_fi hA (λh=>absurd h (KJ hn)) (λh h' tk e hm ht=>h0 (by rw [h]; rfl) h' tk e ht hm) λuu h uu=>h1 (decide_eq_false h))
end
noncomputable def VC:Yz:="x is constant"
noncomputable def Hi(pp:Bool)(yb xb q:UInt64):UInt64:=if pp=true then 0 else Wx yb (X3 q xb)
theorem T7(G:Gl K H0 mg mb)(F:KG K b){sm:Zo}(F3:K3 K b sm){L f:Zo}{cdv:Zh}{m:Ze}{led:Zd}{s1:Zi}{pp z:Bool}{a q xb yb:UInt64}{ta tx ty:W7}{v:Zh}{cx cy:Zo}(i j:Nat)
  (C:Cx H0 (A.deeper (Y3 "linear_regression" Us.2.2 L f cdv)) (Y3 "linear_regression" Us.2.2 L f cdv::l) M s L m led s1)
  (hp:m "proportional"=some (.bool pp))(hxy:m "sxy"=some (.float a ta))(hxx:m "sxx"=some v)(hdiv:Zfk w (A.deeper (Y3 "linear_regression" Us.2.2 L f cdv)) a v z q)
  (hcx:pp=false->led[i]? = some (cx,UM (some (.float xb tx)))/\(Y3 "linear_regression" Us.2.2 L f cdv).cells.lookup (Zj "xbar")=some cx)(hcy:pp=false->led[j]? = some (cy,UM (some (.float yb ty)))/\(Y3 "linear_regression" Us.2.2 L f cdv).cells.lookup (Zj "ybar")=some cy)
  (hroom:A.depth+2<Zr)(hh:A.handled=none){Q:Zb}
  (kok:∀ x dx t u m' s',z=false->t≠0->u≠0->Cx H0 (A.deeper (Y3 "linear_regression" Us.2.2 L f cdv)) (Y3 "linear_regression" Us.2.2 L f cdv::l) M s L m' led s'->Wy s'.heap (x,KO b.lr dx [.float q t,.float (Hi pp yb xb q) u])->s.heap.get? x=none->Q (.ret (.ref x)) s')
  (kno:∀ e t u c s5 s',z=true->Go H0 M s s5->(∀ p∈led,Wy s5.heap p)->Ve H0 [] s5 (Y3 "linear_regression" Us.2.2 L f cdv::l) e (.ref b.se) (.ref t) c (Xr L) s'->s'.heap.TupAt t [.str VC u]->E (.ref e) s') :
  Zp (model PW w) (A.deeper (Y3 "linear_regression" Us.2.2 L f cdv)) (execs (Us.2.1.drop 6) (Y3 "linear_regression" Us.2.2 L f cdv)) Q E s1:=by
 have hh':(A.deeper (Y3 "linear_regression" Us.2.2 L f cdv)).handled=none:=hh
 refine Zg (U4 (Zg (Zv (ZH (C.nameE hxy (C.nameE hxx (hdiv _ _ _ _ (λhz h' tk zz htk hm=>?_) λhz=>?_)))))))
 ·refine BO hm.there λoz tz hoz hcz hdz=>?_
  have C9:=C.toTok htk
  refine C9.noteC (h':=h') hm.keeps hm.new hoz hcz hdz rfl rfl rfl rfl λs2 hd2 uu=>?_
  refine hd2.flight none λs3 hd3 uu=>?_
  refine wpAny_handleBy_builtin (X:="ZeroDivisionError") (T:="ZeroDivisionError") (b:=true) PySem.F.isExc_ZeroDivisionError PySem.F.notTuple_ZeroDivisionError (by rw [isSubtype_type]; kernel_rfl) ?_
  refine((C9.call hd3.go).around (A':=(A.deeper (Y3 "linear_regression" Us.2.2 L f cdv)).mark (some (.ref zz))) rfl).bootE G F.nzde Boot.«ZeroDivisionError» ⟨rfl,hd3.fly.typ,?_⟩
  first | refine YV rfl ?_ | refine YT rfl ?_ | rw [if_pos rfl]
  refine hd3.flight none λs4 hd4 uu=>?_
  have C4:=(C9.call hd4.go).around (A':=(A.deeper (Y3 "linear_regression" Us.2.2 L f cdv)).mark (some (.ref zz))) rfl
  obtain ⟨bm,N,nm,qn,bs,hdct,sn,sub,ab,col,dd,k0,k1,k2,k3,k5,mN,hC,hN,hni,T⟩:=NL (C4.st.X G) F.exc
  refine BZ hd4.record λoz' vz hz1 hz2 hz3 hz4=>?_
  refine Zg (OA (C:=b.se) (nm:=nm) (q:=qn) (N:=N) (bs:=bs) (bm:=bm) (hdct:=hdct) (sn:=sn) (sub:=sub) (ab:=ab) (col:=col) (dd:=dd) (k0:=k0) (k1:=k1) (k2:=k2) (k3:=k3) (k5:=k5) (mN:=mN) (z:=zz) PySem.F.excBase_ValueError (T.hasType PySem.F.excBase_ValueError.hasBase) rfl rfl hni ?_)
  refine C4.globalE G F.nse ⟨rfl,Calls.evalArgs_plain (Zq (Yi (ZC ⟨rfl,by rw [ZW]; show 1<=_; decide,hC,hN,T,oz',vz,hz1,hz3,hz4,λh2 e hm2=>?_⟩)))⟩
  refine Gj hm2.there λtt he htn htt=>?_
  have hte:tt≠e:=λq=>by rw [q,he] at htt; cases htt
  have C5:=C4.tok 1
  refine C5.noteC (h':=h2.update e (ZP (·.setIfInBounds 2 (.ref zz)))) (λb' o q=>?_) hm2.new (YS _ he rfl) rfl rfl rfl rfl rfl rfl λs6 hd6 up6=>?_
  ·have hne:e≠b':=λw=>by have:=hm2.new; rw [w] at this; exact Wu (ZF (ZR this) q)
   exact ZF (Yw _ _ hne) (hm2.keeps _ _ q)
  ·refine hd6.back (L:=L) rfl λs7 hd7 up7=>?_
   refine kno e tt s4.toks _ _ s7 hz C5.go C5.has hd7 ?_
   ·refine Heap.TupAt.of_slots (Heap.TupAt.of_slots (h:=h2.update e (ZP (·.setIfInBounds 2 (.ref zz)))) ⟨XX [.str VC s4.toks],0,?_,rfl,rfl⟩ up6) up7
    exact ZF (Yw _ _ (Ne.symm hte)) (htt)
 ·refine(C.tok 1).setE λs2 C2=>?_
  refine Z4 ?_
  refine Z4 ?_
  have fin:∀ (ti:W7) (s3:Zi),ti≠0->Cx H0 (A.deeper (Y3 "linear_regression" Us.2.2 L f cdv)) (Y3 "linear_regression" Us.2.2 L f cdv::l) M s L (Jh m "slope" (.float q s1.toks)) led s3 ->
    Zp (model PW w) (A.deeper (Y3 "linear_regression" Us.2.2 L f cdv)) (V6 (Y3 "linear_regression" Us.2.2 L f cdv) "intercept" (.float (Hi pp yb xb q) ti)) (Zcs (Zjw (model PW w) (A.deeper (Y3 "linear_regression" Us.2.2 L f cdv)) (Y3 "linear_regression" Us.2.2 L f cdv) (Us.2.1.drop 8) Q E)) E s3:=λti s3 hti C3=>by
   refine C3.setE λs4 C4=>?_
   refine Zg (Ym (Up (C4.globalE G F.nlr ?_)))
   refine callWith_KW0 (C4.st.X G) F3.klr rfl ?_
   refine kws_cons (C4.nameE (v:=.float q s1.toks) rfl ?_)
   refine kws_cons (C4.nameE (v:=.float (Hi pp yb xb q) ti) rfl ?_)
   refine kws_nil ⟨C4.st.X G,Y7 ?_⟩
   refine Zgp G F F3 C4.st hroom λx dx s5 g5 ox nx=>?_
   exact kok x dx _ _ _ s5 hz (Ys C.st.toks) hti (C4.call g5) ox (C4.noE nx).e
  refine Zg (Zv (wpAny_IfExp (ZY (C2.nameE (v:=.bool pp) hp (Zu ?_)))))
  cases pp with
  | true=>
   rw [if_pos rfl]
   refine Xf ?_
   exact fin _ _ (Ys C2.st.toks) (C2.tok 1)
  | false=>
   refine zA (hcx rfl) λx1 x2=>?_
   refine zA (hcy rfl) λy1 y2=>?_
   rw [if_neg Zn]
   refine ZH (C2.ldCell j y1 y2 (ZH (C2.nameE (v:=.float q s1.toks) rfl (C2.ldCell i x1 x2 (mul_float (sub_float ?_))))))
   exact fin _ _ (XA _) (C2.tok 2)
noncomputable def Zjt(xs ys:List Int):UInt64:=WC (JQ ((Wl xs).zip (Wl ys))) 0
noncomputable def G9(xs:List Int):UInt64:=JQ ((Wl xs).zip (Wl xs))
noncomputable def SR(xs ys:List Int):UInt64:=X4 (Zjt xs ys) (G9 xs)
theorem SW(G:Gl K H0 mg mb)(B:Bm H0 mg)(F:KG K b){sm:Zo}(F3:K3 K b sm){c P:Zo}(fd:OE K b.reg "linear_regression" Us .none (.ref b.regK) c P)(hHP:H0.get? P=none)(S:St H0 A l s){xl yl:Zo}{vx vy:List Zh}{xs ys:List Int}{ex ey i j q:Nat}{ps:Array Zh}{led0:Zd}(L0:Lg s.heap led0)(hi:led0[i]? = some (xl,ZD vx ex))(hj:led0[j]? = some (yl,ZD vy ey))(hq:led0[q]? = some (P,Ye ps))(hT:YQ ps.toList)
  (ivx:IV vx xs)(ivy:IV vy ys)(hbx:∀ x∈xs,x.natAbs<=2^40)(hby:∀ x∈ys,x.natAbs<=2^40)(hlen:xs.length=ys.length)(h2:2<=xs.length)(h3:xs.length<=1000)
  (ok:Gk ((Wl xs).zip (Wl ys)) z3)(ok2:Gk ((Wl xs).zip (Wl xs)) z3)(hroom:A.depth+2<Zr)(hh:A.handled=none){R:Zc}
  (kok:∀ x dx t u ps' s',Yp (G9 xs)=false->t≠0->u≠0->Go H0 [P] s s'->s'.heap.get? P=some (Ye ps')->YQ ps'.toList->Wy s'.heap (x,KO b.lr dx [.float (SR xs ys) t,.float (Hi false (UT ys) (UT xs) (SR xs ys)) u])->s.heap.get? x=none->R (.ok (.ret (.ref x))) s')
  (kno:∀ e t u ps' s',Yp (G9 xs)=true->VY H0 [P] s l e (.ref b.se) (.ref t) [(P,Ye ps')] s'->s'.heap.TupAt t [.str VC u]->YQ ps'.toList->R (.error (.ref e)) s') :
  Yk (model PW w) A (.call (.ref b.reg) (Nx (.ref xl) (.ref yl) false)) R s:=by
 refine DA G S fd [P] (by exact Yg (Zx _ _) (by assumption)) (by intro n; show([Zj "ybar",Zj "xbar"]:List Yz).Nodup; decide) (B:=λuu=>K5 _ _ _) (λname doc pm an ct Q E' k=>Ky F (S.X G) (k 0)) (λuu=>Ik _ _ _) L0 λL uu s1 C hnw=>?_
 have hh':(A.deeper (Y3 "linear_regression" Us.2.2 L b.reg (.ref c))).handled=none:=hh
 have up:∀ {n:Nat} {p:Zo×Xl},led0[n]? = some p->(VJ (Xi (L+1) Us.2.2.names []) (bindC (Y3 "linear_regression" Us.2.2 L b.reg (.ref c)).kindOf (K5 (.ref xl) (.ref yl) false) λuu=>none)++led0)[n+2]? = some p:=λ{n p} h=>by
  rw [Yd (by exact YL 2 n)]
  exact h
 have hi':=up hi
 have hj':=up hj
 have hq':=up hq
 have nx:=hnw ("xbar",L+1) (.tail _ (.head _))
 have ny:=hnw ("ybar",L+2) (.head _)
 have hvx:vx.length=xs.length:=ivx.len
 have hlv:vx.length=vy.length:=by rw [hvx,ivy.len,hlen]
 refine Zg (Zv (Xj (C.bootE G F.nlen2 Boot.«len» (Zs (Zq (C.nameE (v:=.ref xl) rfl (ZC (Yo ⟨_,C.at _ hi',rfl,ex,rfl⟩ (by rw [ZJ]; lia) ?_))))))))
 refine(C.tok 2).setE λs2 C2=>?_
 refine Zg (Yv (Z8 (Xj (C2.bootE G F.nlen2 Boot.«len» (Zs (Zq (C2.nameE (v:=.ref yl) rfl (ZC (Yo ⟨_,C2.at _ hj',rfl,ey,rfl⟩ (by rw [ZJ]; lia) ?_)))))))))
 have C3:=C2.tok 2
 refine C3.nameE (v:=.int (vx.toArray.size:Int) (s1.toks+1)) rfl (PySem.P.ne_int (Zu ?_))
 refine Y6 (by simp [hlv]) (Z4 ?_)
 refine Zg (Yv (Z8 (C3.nameE (v:=.int (vx.toArray.size:Int) (s1.toks+1)) rfl (Zt (PySem.P.lt_int (Zu ?_))))))
 refine Y6 (by simp; lia) (Z4 ?_)
 have C4:=C3.tok 1
 refine Zg (Yv (Xg (ZY (C4.nameE (v:=.bool false) rfl (Zu ?_)))))
 refine YV rfl ?_
 refine Zg (Zv (ZH (Xj (C4.globalE G F.nfsum (Zs (Zq (C4.nameE (v:=.ref xl) rfl (ZC ?_))))))))
 refine Gh (H0:=H0) C4.st.glob (C4.ok (i+2) hi') (.inl ⟨_,rfl⟩) ivx hbx h3 hh' λt5 s5 g5=>?_
 have C5:=C4.call g5
 refine C5.nameE (v:=.int (vx.toArray.size:Int) (s1.toks+1)) rfl (PySem.Flt.truediv_fi hh' (λh=>absurd h (Ju (by simp; lia))) (λh=>absurd h (by rw [ZJ,hvx]; lia)) λuu uu=>?_)
 refine(C5.tok 1).setCell 1 rfl rfl (.inr nx.e) nx.h λs6 C6=>?_
 refine Zg (Zv (ZH (Xj (C6.globalE G F.nfsum (Zs (Zq (C6.nameE (v:=.ref yl) rfl (ZC ?_))))))))
 refine Gh (H0:=H0) C6.st.glob (C6.ok (j+2) hj') (.inl ⟨_,rfl⟩) ivy hby (by lia) hh' λt7 s7 g7=>?_
 have C7:=C6.call g7
 refine C7.nameE (v:=.int (vx.toArray.size:Int) (s1.toks+1)) rfl (PySem.Flt.truediv_fi hh' (λh=>absurd h (Ju (by simp; lia))) (λh=>absurd h (by rw [ZJ,hvx]; lia)) λuu uu=>?_)
 refine(C7.tok 1).setCell 0 rfl rfl (.inr ny.e) ny.h λs8 C8=>?_
 have e1:X4 (hf (2*xs.sum)) (Yy (vx.toArray.size:Int))=UT xs:=by rw [ZJ,hvx]; rfl
 have e2:X4 (hf (2*ys.sum)) (Yy (vx.toArray.size:Int))=UT ys:=by rw [ZJ,hvx,hlen]; rfl
 rw [e1,e2] at C8
 refine Zg (C8.linCompA (ns:=xs) 1 (i+2) rfl rfl hi' ivx (λv hv=>by have:=hbx v hv; lia) h3 hh' λD9 acc9 n9 s9 C9 fv9 nD9=>?_)
 refine Zg (Zv ?_)
 refine C9.genDev (P:=P) (i:=q+3) (j:=j+3) (k:=1) (ns:=ys) (lst:=yl) G B rfl rfl (by decide) rfl rfl rfl rfl rfl rfl rfl rfl (by show A.depth+1<_; exact ZO (by assumption)) rfl (fd.hd _ (C9.st.X G)) hq' hT (.inl (.head _)) hHP rfl hj' rfl ivy (λn hn=>by have:=hby n hn; lia) rfl rfl rfl rfl rfl λa10 c10 ps10 s10 C10 hT10 g10=>?_
 refine C10.setX λs11 C11 x11 z11=>?_
 refine Z4 ?_
 have hr1:A.depth+1<Zr:=by lia
 have hS9:∀ {b:Zo} {o:Xl},s9.heap.get? b=some o->b<s9.heap.objs.size:=λe=>YH e
 refine V1 (JH C9.ns) λoL esL epL hoL hdL=>?_
 have hD9:=C9.at 0 rfl
 have z10:s9.heap.objs.size<s10.heap.objs.size:=Yx g10.o1 (Yx g10.o2 g10.o3)
 have iB:=g10.itr (w:=w) (A:=(A.deeper (Y3 "linear_regression" Us.2.2 L b.reg (.ref c))).in1) hh' hr1
 have invB:=iB.keep _ _ _ _ _ (g10.inv (A:=(A.deeper (Y3 "linear_regression" Us.2.2 L b.reg (.ref c))).in1) hh') x11 (Wo (Vr (λh=>Nat.lt_asymm (h▸hS9 hoL) (Yx g10.o1 g10.o2)) (Vr (λh=>Nat.lt_asymm (h▸hS9 hoL) g10.o1) (Vr (λh=>Xy _ (h▸hS9 hoL)) (Vr (λh=>by
  have:=C9.at (j+3) hj'
  rw [<- h,hoL] at this; obtain rfl:=Zz this; cases hdL) (Vr (X7 (Nat.lt_succ_of_lt (YM _))) (Fv λh=>by
  refine XW G.lim λmc zq1 uu=>?_; obtain ⟨o,es,ep',e,hd,_⟩:=zq1
  rw [<- h,C9.top] at e; exact Wu e))))))) λk h=>h.elim
 have iA:=Zdw (w:=w) (A:=(A.deeper (Y3 "linear_regression" Us.2.2 L b.reg (.ref c))).in1) hh' (I:=s11.heap.objs.size) (lst:=D9) (ep:=n9) fv9 (Ys (YH (C11.at 0 rfl)))
 have n1:∀ p∈[s11.heap.objs.size],p∉[a10,c10,s9.heap.objs.size,yl,L+2,WQ]:=Wo λhm=>Xp.mpr z11 (g10.own _ hm).2
 have n2:∀ p∈[c10,s9.heap.objs.size],p∉[s11.heap.objs.size,D9]:=Xu (Vr (λh=>Xp.mpr z11 (h▸(g10.own c10 (.tail _ (.head _))).2)) (Fv λh=>Nat.lt_asymm (h▸hS9 hD9) g10.o1)) (Wo (Vr (λh=>Xp.mpr z11 (h▸(g10.own s9.heap.objs.size (.tail _ (.tail _ (.head _)))).2)) (Fv λh=>Xy _ (h▸hS9 hD9))))
 have lA:(Ge (UT xs) xs).length=(Ge (UT ys) ys).length:=by rw [Jo,Jo,hlen]
 refine Zg (Zv (ZH (Xj (C11.globalE G F.nsump (Zs (Zq (C11.nameE (v:=.ref D9) rfl (Zq (C11.nameE (v:=.ref a10) rfl (ZC ?_))))))))))
 refine Tq iA iB n1 n2 (λk h1 h2=>h1.elim) (λQ E' k=>?_) (λs12 x12 Q E' k=>?_) lA (by rw [Jo]; exact ZO (by assumption)) ok hh' λt13 s13 x13=>?_
 ·refine W8 ⟨_,C11.at 0 rfl,rfl,_,rfl⟩ (k _ (.ext (λuu uu h=>Z0 _ h) (Z6 _) rfl rfl) ⟨ZK _ rfl,Z0 _ (C11.at 0 rfl)⟩)
 ·have:=iB.keep _ _ _ _ _ invB x12 YC λk h=>h.elim
  exact KS this.1 this Q E' k
 have new9:∀ p∈[s11.heap.objs.size]++[c10,s9.heap.objs.size],s9.heap.get? p=none:=Xu (Je (Zl (ZU z10) z11)) (Xu (Je (ZU g10.o1)) (Wo (Je (Z6 _))))
 have C13:=C9.sx C11 x13 new9 λp hp=>(List.mem_or_eq_of_mem_set hp).elim .inl λe=>.inr ⟨by rw [e],by rw [e]; exact ZZ.mpr ⟨(P,Ye ps),ZG (i:=q+3) hq',rfl⟩⟩
 refine Xf (add_float ?_)
 refine(C13.tok 2).setE λs14 C14=>?_
 refine Zg (Zv (Xj (C14.globalE G F.nsump (Zs (Zq (C14.nameE (v:=.ref D9) rfl (Zq (C14.nameE (v:=.ref D9) rfl (ZC ?_)))))))))
 refine VA (H0:=H0) C14.st.glob (C14.ok 0 rfl) (C14.ok 0 rfl) (.inl ⟨_,rfl⟩) (.inl ⟨_,rfl⟩) fv9 fv9 rfl (by rw [Jo]; lia) ok2 hh' λt15 s15 g15=>?_
 refine(C14.call g15).setE λs16 C16=>?_
 have hq16:(((D9,ZD acc9 n9)::(((VJ (Xi (L+1) Us.2.2.names []) (bindC (Y3 "linear_regression" Us.2.2 L b.reg (.ref c)).kindOf (K5 (.ref xl) (.ref yl) false) λuu=>none)++led0).set 1 (L+1,UM (some (.float (UT xs) s5.toks)))).set 0 (L+1+1,UM (some (.float (UT ys) s7.toks))))).set (q+3) (P,Ye ps10))[q+3]? = some (P,Ye ps10):=by
  rw [List.getElem?_set_self]
  exact(Z5.mp (show((D9,ZD acc9 n9)::(((VJ (Xi (L+1) Us.2.2.names []) (bindC (Y3 "linear_regression" Us.2.2 L b.reg (.ref c)).kindOf (K5 (.ref xl) (.ref yl) false) λuu=>none)++led0).set 1 (L+1,UM (some (.float (UT xs) s5.toks)))).set 0 (L+1+1,UM (some (.float (UT ys) s7.toks)))))[q+3]? = some (P,Ye ps) from hq')).1
 refine T7 G F F3 2 1 C16 rfl rfl rfl (Oz hh') (λuu=>⟨rfl,rfl⟩) (λuu=>⟨rfl,rfl⟩) hroom hh (λx dx t u m' s' hz ht hu C' ox nx=>?_) λe t u cc s5' s' hz g hl hd tp=>?_
 ·exact kok x dx t u ps10 s' hz ht hu C'.go (C'.at (q+3) hq16) hT10 ox nx
 ·exact hd.leaveL (led:=[(P,Ye ps10)]) g (λp hp=>by exact(Zk.mp hp)▸hl _ (ZG hq16)) rfl λs'' fl up=>kno e t u ps10 s'' hz fl (tp.of_slots up) hT10
noncomputable def T8(xs ys:List Int):UInt64:=X4 (WC (Yy (Vl xs ys)) 0) (Yy (Vl xs xs))
theorem SS(G:Gl K H0 mg mb)(F:KG K b){sm:Zo}(F3:K3 K b sm)(S:St H0 A l s){xl yl:Zo}{vx vy:List Zh}{xs ys:List Int}{ex ey i j:Nat}{led0:Zd}(L0:Lg s.heap led0)(hi:led0[i]? = some (xl,ZD vx ex))(hj:led0[j]? = some (yl,ZD vy ey))
  (ivx:IV vx xs)(ivy:IV vy ys)(hbx:∀ x∈xs,x.natAbs<=2^12)(hby:∀ x∈ys,x.natAbs<=2^12)(hlen:xs.length=ys.length)(h2:2<=xs.length)(h3:xs.length<=1000)
  (hroom:A.depth+2<Zr)(hh:A.handled=none){R:Zc}
  (kok:∀ x dx t u s',Vl xs xs≠0->t≠0->u≠0->Go H0 [] s s'->Wy s'.heap (x,KO b.lr dx [.float (T8 xs ys) t,.float 0 u])->s.heap.get? x=none->R (.ok (.ret (.ref x))) s')
  (kno:∀ e t u s',Vl xs xs=0->VY H0 [] s l e (.ref b.se) (.ref t) [] s'->s'.heap.TupAt t [.str VC u]->R (.error (.ref e)) s') :
  Yk (model PW w) A (.call (.ref b.reg) (Nx (.ref xl) (.ref yl) true)) R s:=by
 refine BH G S F.reg [] (by exact Yg (Zx _ _) (by assumption)) (by intro n; show([Zj "ybar",Zj "xbar"]:List Yz).Nodup; decide) (B:=λuu=>K5 _ _ _) (λname doc pm an cdv ct Q E' k=>Ky F (S.X G) (k 0)) (λuu=>Ik _ _ _) L0 λL cdv uu s1 hcd C uu=>?_
 have hh':(A.deeper (Y3 "linear_regression" Us.2.2 L b.reg cdv)).handled=none:=hh
 have up:∀ {n:Nat} {p:Zo×Xl},led0[n]? = some p->(VJ (Xi (L+1) Us.2.2.names []) (bindC (Y3 "linear_regression" Us.2.2 L b.reg cdv).kindOf (K5 (.ref xl) (.ref yl) true) λuu=>none)++led0)[n+2]? = some p:=λ{n p} h=>by
  rw [Yd (by exact YL 2 n)]
  exact h
 have hi':=up hi
 have hj':=up hj
 have hvx:vx.length=xs.length:=ivx.len
 have hvy:vy.length=ys.length:=ivy.len
 have hlv:vx.length=vy.length:=by rw [hvx,hvy,hlen]
 have b1:=NP xs ys _ hbx hby
 have b2:=NP xs xs _ hbx hbx
 have b3:xs.length*(2^12*2^12)<=1000*(2^12*2^12):=Yn _ h3
 refine Zg (Zv (Xj (C.bootE G F.nlen2 Boot.«len» (Zs (Zq (C.nameE (v:=.ref xl) rfl (ZC (Yo ⟨_,C.at _ hi',rfl,ex,rfl⟩ (by rw [ZJ]; lia) ?_))))))))
 refine(C.tok 2).setE λs2 C2=>?_
 refine Zg (Yv (Z8 (Xj (C2.bootE G F.nlen2 Boot.«len» (Zs (Zq (C2.nameE (v:=.ref yl) rfl (ZC (Yo ⟨_,C2.at _ hj',rfl,ey,rfl⟩ (by rw [ZJ]; lia) ?_)))))))))
 have C3:=C2.tok 2
 refine C3.nameE (v:=.int (vx.toArray.size:Int) (s1.toks+1)) rfl (PySem.P.ne_int (Zu ?_))
 refine Y6 (by simp [hlv]) (Z4 ?_)
 refine Zg (Yv (Z8 (C3.nameE (v:=.int (vx.toArray.size:Int) (s1.toks+1)) rfl (Zt (PySem.P.lt_int (Zu ?_))))))
 refine Y6 (by simp; lia) (Z4 ?_)
 have C4:=C3.tok 1
 refine Zg (Yv (Xg (ZY (C4.nameE (v:=.bool true) rfl (Zu ?_)))))
 refine Y6 rfl (Z4 ?_)
 refine Zg (Zv (ZH (Xj (C4.globalE G F.nsump (Zs (Zq (C4.nameE (v:=.ref xl) rfl (Zq (C4.nameE (v:=.ref yl) rfl (ZC ?_))))))))))
 refine BP (H0:=H0) C4.st.glob (C4.ok (i+2) hi') (C4.ok (j+2) hj') (.inl ⟨_,rfl⟩) (.inl ⟨_,rfl⟩) ivx ivy hlen (by lia) h3 hbx hby hh' λt5 s5 g5=>?_
 have C5:=C4.call g5
 refine Xf (add_if_fits (Yg (Zl b1 b3) (by decide +kernel)) ?_)
 refine(C5.tok 2).setE λs6 C6=>?_
 refine Zg (Zv (Xj (C6.globalE G F.nsump (Zs (Zq (C6.nameE (v:=.ref xl) rfl (Zq (C6.nameE (v:=.ref xl) rfl (ZC ?_)))))))))
 refine BP (H0:=H0) C6.st.glob (C6.ok (i+2) hi') (C6.ok (i+2) hi') (.inl ⟨_,rfl⟩) (.inl ⟨_,rfl⟩) ivx ivx rfl (by lia) h3 hbx hbx hh' λt7 s7 g7=>?_
 refine(C6.call g7).setE λs8 C8=>?_
 refine T7 (cx:=0) (cy:=0) (tx:=0) (ty:=0) (xb:=0) (yb:=0) G F F3 1 0 C8 rfl rfl rfl (Zaw hh' (by rw [Yu,show(2:Int).natAbs=2 from rfl]; lia)) (λh=>by exact absurd h.symm Zn) (λh=>by exact absurd h.symm Zn) hroom hh (λx dx t u m' s' hz ht hu C' ox nx=>?_) λe t u cc s5' s' hz g hl hd tp=>?_
 ·exact kok x dx t u s' (of_decide_eq_false hz) ht hu C'.go ox nx
 ·exact hd.leaveL (led:=[]) g YC rfl λs'' fl up=>kno e t u s'' (of_decide_eq_true hz) fl (tp.of_slots up)
theorem Zep(S:St H0 A l s)(M:List Zo)(led:Zd)(hled:∀ p∈led,Wy s.heap p)(hnod:(led.map (λuu=>uu.1)).Nodup){env:V0}{L:Zo}{h₀:Xx}{k:Nat}{m:Ze}(hL:L=s.heap.objs.size)(hns:h₀.Ns L m)(hk₀:∀ b o,s.heap.get? b=some o->h₀.get? b=some o)
  (hk:env.scope.kind = .function)(hfr:env.frame=some L):Cx H0 (A.deeper env) (env::l) M s L m led { s with heap:=h₀,toks:=s.toks+k }:=by
 subst hL
 have hH:H0.get? s.heap.objs.size=none:=by
  cases q:H0.get? s.heap.objs.size with
  | none=>rfl
  | some o=>exact absurd (YH (S.glob _ _ q)) (Xy _)
 refine⟨⟨λb o e=>hk₀ b o (S.glob b o e),by unfold YE.deeper; rw [S.frames]; rfl,λenv he=>?_,Z9 S.toks (Zx _ _)⟩,Go.ext (s:=s) (s':={ s with heap:=h₀,toks:=s.toks+k }) hk₀ (Zx _ _) rfl rfl _,hns,XC,hH,λp hp=>⟨hk₀ _ _ (hled p hp).at_,(hled p hp).nd,λdx e=>?_⟩,λp hp q=>?_,hnod⟩
 ·rcases Z7.mp he with rfl | he
  ·refine V1 (JH hns) λoL es n h1 h2=>?_
   exact⟨by rw [hk]; decide,_,oL,es,n,hfr,hH,h1,h2⟩
  ·refine U3 (S.fr env he) λhk' L' o' es n h1 h2 h3 h4=>?_
   exact⟨hk',L',o',es,n,h1,h2,hk₀ _ _ h3,h4⟩
 ·refine XW ((hled p hp).dx dx e) λo h1 h2=>?_
  exact⟨o,hk₀ _ _ h1,h2⟩
 ·refine XW ((hled p hp).dx _ q) λo h1 h2=>?_
  exact Wu (ZF (ZR XC) h1)
theorem Zkp{R:Zc}{f:Zo}{o:Xl}{name qual:Yz}{params:WE}{body:Vz}{scope:US}{cl:List (Yz×Zo)}{doc pm cdv ct:Zh}{args:Args}{binds:List (Yz×Zh)}(S:St H0 A l s)(M:List Zo)(led:Zd)(hled:∀ p∈led,Wy s.heap p)(hnod:(led.map (λuu=>uu.1)).Nodup)
  (hroom:A.depth<Zr)(ho:s.heap.get? f=some o)(hdata:o.data = .func (fnV name qual params (.expr body) scope cl doc pm cdv ct))(hlim:s.heap.NoLimit)(hcd:s.heap.CodeRec cdv qual)
  (hbind:BindsTo s (fnV name qual params (.expr body) scope cl doc pm cdv ct) args binds)(hcell:∀ x∈scope.names,x.2 ≠ .cell)(hloc:∀ x∈binds,scope.names.lookup x.1=some .local)
  (h:∀ L s',L=s.heap.objs.size->Cx H0 (A.deeper (envX qual scope L f cdv cl)) (envX qual scope L f cdv cl::l) M s L (λx=>binds.reverse.lookup x) led s' ->
   Zp (model PW w) (A.deeper (envX qual scope L f cdv cl)) (eval body (envX qual scope L f cdv cl)) (λv s'=>R (.ok (.ret v)) s')
    (Fx w (A.deeper (envX qual scope L f cdv cl)) (envX qual scope L f cdv cl) R) s')
  (hco:scope.isCoroutine=false:=by rfl)(hgen:scope.isGenerator=false:=by rfl)(hk:scope.kind = .function:=by rfl) :
  Yk (model PW w) A (.call (.ref f) args) R s:=by
 refine kla_callFunE hroom ho hdata hco hgen rfl hcd (hbind _ _ _ _ ?_)
 refine Vv hcell hloc (λh₀ hns hsb=>⟨hlim.fresh _ hsb,kla_codeExpr ?_⟩) hk
 exact h _ _ rfl (Zep S M led hled hnod rfl hns (λb o e=>hsb.extBut b o (X7 (YH e)) (Z0 _ e)) hk rfl)
end
variable {P1 P2 xl yl:Zo}{ps1 ps2:Array Zh}{LS:Zd}
section
open PySem PySem.W PySem.Calls PyProof.Rows PySem.Spec
inductive Hq where
 | msg (x:Yz)
 | flt (f:UInt64)
 | lr (q i:UInt64)
noncomputable def Gw(m:Yz):Yz:=Zj "StatisticsError: "++m
noncomputable def V2(m:Yz):Yz:=Zj "ValueError: "++m
noncomputable def OB(C:Zo)(LR:Zd):Hq->Zh->Prop
 | .msg x,v=>∃ t,v = .str x t
 | .flt f,v=>∃ t,t≠0/\v = .float f t
 | .lr q i,v=>∃ x dx t u,t≠0/\u≠0/\v = .ref x/\(x,KO C dx [.float q t,.float i u])∈LR
structure WN (w:Um)(H0:Xx)(se C P1 P2:Zo)(out:Hq)(c:Code)(A:YE)(l:List V0)(s:Zi):Prop where
 go:∀ R:Zc,
  (∀ v ps1 ps2 LR s',Go H0 [P1,P2] s s'->s'.heap.get? P1=some (Ye ps1)->YQ ps1.toList->s'.heap.get? P2=some (Ye ps2)->YQ ps2.toList->(∀ p∈LR,Wy s'.heap p/\s.heap.get? p.1=none)->LR.length<=1->OB C LR out v->(∀ m,out ≠ .msg m)->R (.ok (.ret v)) s') ->
  (∀ e t u cls m ps1 ps2 s',(cls = .ref se/\out = .msg (Gw m))\/(cls = .type "ValueError"/\out = .msg (V2 m))->m.length<=300->VY H0 [P1,P2] s l e cls (.ref t) [(P1,Ye ps1),(P2,Ye ps2)] s'->YQ ps1.toList->YQ ps2.toList->s'.heap.TupAt t [.str m u]->R (.error (.ref e)) s') ->
  Yk (model PW w) A c R s
section
variable {vx vy:List Zh}{xs ys:List Int}{ex ey i j:Nat}
noncomputable abbrev Jp(P1 P2:Zo)(ps1 ps2:Array Zh)(LS:Zd):Zd:=(P1,Ye ps1)::(P2,Ye ps2)::LS
theorem Lg.tab1{h:Xx}(L0:Lg h (Jp P1 P2 ps1 ps2 LS)):Wy h (P1,Ye ps1):=L0.has _ (.head _)
theorem Lg.tab2{h:Xx}(L0:Lg h (Jp P1 P2 ps1 ps2 LS)):Wy h (P2,Ye ps2):=L0.has _ (.tail _ (.head _))
theorem Lg.ne12{h:Xx}(L0:Lg h (Jp P1 P2 ps1 ps2 LS)):P1≠P2:=by
 have:=L0.nodup
 simp only [YD,XT,Z7,not_or] at this
 exact this.1.1
theorem Go.up2{s s':Zi}(g:Go H0 [] s s'):Go H0 [P1,P2] s s':=g.mono YC
theorem WN.plain(L0:Lg s.heap (Jp P1 P2 ps1 ps2 LS))(h1:YQ ps1.toList)(h2:YQ ps2.toList){out:Hq}{c:Code}{C se:Zo}
  (h:∀ R:Zc,(∀ v LR s',Go H0 [] s s'->(∀ p∈LR,Wy s'.heap p/\s.heap.get? p.1=none)->LR.length<=1->OB C LR out v->(∀ m,out ≠ .msg m)->R (.ok (.ret v)) s') ->
   (∀ e t u cls m s',(cls = .ref se/\out = .msg (Gw m))\/(cls = .type "ValueError"/\out = .msg (V2 m))->m.length<=300->VY H0 [] s l e cls (.ref t) [] s'->s'.heap.TupAt t [.str m u]->R (.error (.ref e)) s')->Yk (model PW w) A c R s) :
  WN w H0 se C P1 P2 out c A l s:=⟨λR kok kno=>h R (λv LR s' g hl hn o hm=>kok v ps1 ps2 LR s' g.up2 (L0.tab1.go g (λh=>nomatch h)).at_ h1 (L0.tab2.go g (λh=>nomatch h)).at_ h2 hl hn o hm)
 λe t u cls m s' hc hm fl tp=>kno e t u cls m ps1 ps2 s' hc hm (((fl.with [(P1,Ye ps1),(P2,Ye ps2)] (Xu (.inr ⟨L0.tab1,λh=>noM h⟩) (Wo (.inr ⟨L0.tab2,λh=>noM h⟩)))).lift (Go.refl H0 [P1,P2] s) YC)) h1 h2 tp⟩
variable (G:Gl K H0 mg mb)(F:KG K b)(S:St H0 A l s)(L0:Lg s.heap (Jp P1 P2 ps1 ps2 LS))(ht1:YQ ps1.toList)(ht2:YQ ps2.toList)(hi:LS[i]? = some (xl,ZD vx ex))(hj:LS[j]? = some (yl,ZD vy ey))
include G F S L0 ht1 ht2 hi hj
theorem S4(hx3:vx.length<=1000)(hy3:vy.length<=1000){msg:Yz}(bad:(vx.length≠vy.length/\msg=KZ)\/(vx.length=vy.length/\vx.length<2/\msg=Fb))(hm:msg.length<=300)(hroom:A.depth<Zr)(hh:A.handled=none) :
  WN w H0 b.se b.lr P1 P2 (.msg (Gw msg)) (.call (.ref b.cov) ⟨[.ref xl,.ref yl],[]⟩) A l s :=
 WN.plain L0 ht1 ht2 λR uu kno=>Zhw (i:=i+2) (j:=j+2) G F S L0 hi hj hx3 hy3 bad hroom hh λe t u s' fl tp=>kno e t u _ msg s' (.inl ⟨rfl,rfl⟩) hm fl tp
theorem IZ{pp:Bool}(hx3:vx.length<=1000)(hy3:vy.length<=1000){msg:Yz}(bad:(vx.length≠vy.length/\msg=Kz)\/(vx.length=vy.length/\vx.length<2/\msg=K0))(hm:msg.length<=300)(hroom:A.depth<Zr)(hh:A.handled=none) :
  WN w H0 b.se b.lr P1 P2 (.msg (Gw msg)) (.call (.ref b.reg) (Nx (.ref xl) (.ref yl) pp)) A l s :=
 WN.plain L0 ht1 ht2 λR uu kno=>Zgg (i:=i+2) (j:=j+2) G F S L0 hi hj hx3 hy3 bad hroom hh λe t u s' fl tp=>kno e t u _ msg s' (.inl ⟨rfl,rfl⟩) hm fl tp
theorem GV{mo:Option (Yz×W7)}(hx3:vx.length<=1000)(hy3:vy.length<=1000){msg:Yz}(bad:(vx.length≠vy.length/\msg=HW)\/(vx.length=vy.length/\vx.length<2/\msg=HX))(hm:msg.length<=300)(hroom:A.depth<Zr)(hh:A.handled=none) :
  WN w H0 b.se b.lr P1 P2 (.msg (Gw msg)) (.call (.ref b.corr) (B9 (.ref xl) (.ref yl) mo)) A l s :=
 WN.plain L0 ht1 ht2 λR uu kno=>O5 (i:=i+2) (j:=j+2) (cls:=.ref b.se) (msg:=msg) G F S L0 hi hj hx3 hy3 (bad.elim (λh=>.inl ⟨h.1,h.2,rfl⟩) λh=>.inr (.inl ⟨h.1,h.2.1,h.2.2,rfl⟩)) hroom hh λe t u s' fl tp=>kno e t u _ msg s' (.inl ⟨rfl,rfl⟩) hm fl tp
theorem Zer{mo:Option (Yz×W7)}(hx3:vx.length<=1000)(hlen:vx.length=vy.length)(h2:2<=vx.length)(n1:UP mo≠"linear")(n2:UP mo≠"ranked")(r1:(reprText (UP mo)).length<=100)(r2:(Uo (UP mo)).length<=200)(hroom:A.depth<Zr)(hh:A.handled=none) :
  WN w H0 b.se b.lr P1 P2 (.msg (V2 (Uo (UP mo)))) (.call (.ref b.corr) (B9 (.ref xl) (.ref yl) mo)) A l s :=
 WN.plain L0 ht1 ht2 λR uu kno=>O5 (i:=i+2) (j:=j+2) (cls:=.type "ValueError") (msg:=Uo (UP mo)) G F S L0 hi hj hx3 (by lia) (.inr (.inr ⟨hlen,h2,n1,n2,rfl,r1,r2,rfl⟩)) hroom hh λe t u s' fl tp=>kno e t u _ _ s' (.inr ⟨rfl,rfl⟩) (by lia) fl tp
noncomputable def Gg(r:Option UInt64):Hq:=match r with | some r=>.flt r | none=>.msg (Gw VG)
theorem Zhy{mo:Option (Yz×W7)}(hmo:UP mo=Zj "linear")(ivx:IV vx xs)(ivy:IV vy ys)(hbx:∀ x∈xs,x.natAbs<=2^12)(hby:∀ x∈ys,x.natAbs<=2^12)(hlen:xs.length=ys.length)(h2:2<=xs.length)(h3:xs.length<=1000)(ok:Gq (Wl xs) (Wl ys))(hroom:A.depth+7<Zr)(hh:A.handled=none) :
  WN w H0 b.se b.lr P1 P2 (Gg (JS (Wl xs) (Wl ys))) (.call (.ref b.corr) (B9 (.ref xl) (.ref yl) mo)) A l s :=
 WN.plain L0 ht1 ht2 λR kok kno=>Zax (i:=i+2) (j:=j+2) G F S hmo L0 hi hj ivx ivy (λx hx=>Zl (hbx x hx) (by decide)) (λx hx=>Zl (hby x hx) (by decide)) hlen h2 h3 ok hroom hh
  (λr t s' hr hn g=>kok _ [] s' g YC (Yt _) (by exact hr▸⟨t,hn,rfl⟩) (by exact hr▸λm q=>by cases q))
  λe t u s' hr fl tp=>kno e t u _ VG s' (.inl ⟨rfl,by rw [hr]; rfl⟩) (by decide) fl tp
theorem Zhx(FF:KF K a)(hr:b.rank=a.rank){tm:W7}(ivx:IV vx xs)(ivy:IV vy ys)(KLx:GG Jw vx)(KLy:GG Jw vy)(hlen:xs.length=ys.length)(h2:2<=xs.length)(h3:xs.length<200)(ok:Gq (WA xs) (WA ys))(hroom:A.depth+7<Zr)(hh:A.handled=none) :
  WN w H0 b.se b.lr P1 P2 (Gg (JS (WA xs) (WA ys))) (.call (.ref b.corr) (B9 (.ref xl) (.ref yl) (some (Zj "ranked",tm)))) A l s :=
 WN.plain L0 ht1 ht2 λR kok kno=>NT (i:=i+2) (j:=j+2) G FF F hr S L0 hi hj ivx ivy KLx KLy hlen h2 h3 ok hroom hh
  (λr t s' hr hn g=>kok _ [] s' g YC (Yt _) (by exact hr▸⟨t,hn,rfl⟩) (by exact hr▸λm q=>by cases q))
  λe t u s' hr fl tp=>kno e t u _ VG s' (.inl ⟨rfl,by rw [hr]; rfl⟩) (by decide) fl tp
noncomputable def VR(xs ys:List Int):Hq:=if Vl xs xs=0 then .msg (Gw VC) else .lr (T8 xs ys) 0
theorem Zjr{sm:Zo}(F3:K3 K b sm)(ivx:IV vx xs)(ivy:IV vy ys)(hbx:∀ x∈xs,x.natAbs<=2^12)(hby:∀ x∈ys,x.natAbs<=2^12)(hlen:xs.length=ys.length)(h2:2<=xs.length)(h3:xs.length<=1000)(hroom:A.depth+2<Zr)(hh:A.handled=none) :
  WN w H0 b.se b.lr P1 P2 (VR xs ys) (.call (.ref b.reg) (Nx (.ref xl) (.ref yl) true)) A l s :=
 WN.plain L0 ht1 ht2 λR kok kno=>SS (i:=i+2) (j:=j+2) G F F3 S L0 hi hj ivx ivy hbx hby hlen h2 h3 hroom hh
  (λx dx t u s' hz nt nu g ox nx=>kok _ [(x,KO b.lr dx [.float (T8 xs ys) t,.float 0 u])] s' g (λp hp=>by exact(Zk.mp hp)▸⟨ox,nx⟩) (Z6 _) (by unfold VR; exact(if_neg hz)▸⟨x,dx,t,u,nt,nu,rfl,.head _⟩) (by unfold VR; exact(if_neg hz)▸λm q=>by cases q))
  λe t u s' hz fl tp=>kno e t u _ VC s' (.inl ⟨rfl,by unfold VR; rw [if_pos hz]⟩) (by decide) fl tp
theorem Zkw(B:Bm H0 mg){c:Zo}(fd:OE K b.cov "covariance" Gf .none .none c P1)(hHP:H0.get? P1=none)(ivx:IV vx xs)(ivy:IV vy ys)(hbx:∀ x∈xs,x.natAbs<=2^12)(hby:∀ x∈ys,x.natAbs<=2^12)(hlen:xs.length=ys.length)(h2:2<=xs.length)(h3:xs.length<=1000)
  (ok:Gk ((Wl xs).zip (Wl ys)) z3)(hroom:A.depth+1<Zr)(hh:A.handled=none) :
  WN w H0 b.se b.lr P1 P2 (.flt (O3 xs ys)) (.call (.ref b.cov) ⟨[.ref xl,.ref yl],[]⟩) A l s :=
 ⟨λR kok kno=>Zeq (i:=i+2) (j:=j+2) (q:=0) G B F fd hHP S L0 hi hj rfl ht1 ivx ivy (λx hx=>Zl (hbx x hx) (by decide)) (λx hx=>Zl (hby x hx) (by decide)) hlen h2 h3 ok hroom hh
  λt ps' s' nt g hp ht=>kok _ ps' ps2 [] s' (g.mono λp hp=>by exact(Zk.mp hp) ▸ .head _) hp ht (g.nd _ _ L0.tab2.at_ (λq=>L0.ne12 (Zk.mp q).symm) Y5) ht2 YC (Yt _) ⟨t,nt,rfl⟩ λm q=>by cases q⟩
noncomputable def VB(xs ys:List Int):Hq:=if Yp (G9 xs)=true then .msg (Gw VC) else .lr (SR xs ys) (Hi false (UT ys) (UT xs) (SR xs ys))
theorem Zjs(B:Bm H0 mg){sm c:Zo}(F3:K3 K b sm)(fd:OE K b.reg "linear_regression" Us .none (.ref b.regK) c P2)(hHP:H0.get? P2=none)(ivx:IV vx xs)(ivy:IV vy ys)(hbx:∀ x∈xs,x.natAbs<=2^12)(hby:∀ x∈ys,x.natAbs<=2^12)(hlen:xs.length=ys.length)(h2:2<=xs.length)(h3:xs.length<=1000)
  (ok:Gk ((Wl xs).zip (Wl ys)) z3)(ok2:Gk ((Wl xs).zip (Wl xs)) z3)(hroom:A.depth+2<Zr)(hh:A.handled=none) :
  WN w H0 b.se b.lr P1 P2 (VB xs ys) (.call (.ref b.reg) (Nx (.ref xl) (.ref yl) false)) A l s :=
 ⟨λR kok kno=>SW (i:=i+2) (j:=j+2) (q:=1) G B F F3 fd hHP S L0 hi hj rfl ht2 ivx ivy (λx hx=>Zl (hbx x hx) (by decide)) (λx hx=>Zl (hby x hx) (by decide)) hlen h2 h3 ok ok2 hroom hh
  (λx dx t u ps' s' hz nt nu g hp ht ox nx=>kok _ ps1 ps' [(x,_)] s' (g.mono λp hp=>by exact(Zk.mp hp) ▸ .tail _ (.head _)) (g.nd _ _ L0.tab1.at_ (λq=>L0.ne12 (Zk.mp q)) Y5) ht1 hp ht (λp hp=>by exact(Zk.mp hp)▸⟨ox,nx⟩) (Z6 _) (by unfold VB; rw [if_neg (by rw [hz]; exact Zn)]; exact⟨x,dx,t,u,nt,nu,rfl,.head _⟩) (by unfold VB; rw [if_neg (by rw [hz]; exact Zn)]; exact λm q=>by cases q))
  λe t u ps' s' hz fl tp ht=>kno e t u _ VC ps1 ps' s' (.inl ⟨rfl,by unfold VB; rw [if_pos hz]⟩) (by decide) ((fl.with [(P1,Ye ps1),(P2,Ye ps')] (Xu (.inr ⟨L0.tab1,λq=>L0.ne12 (Zk.mp q)⟩) (Wo (.inl (.head _))))).lift (Go.refl H0 [P1,P2] s) λp hp=>by exact(Zk.mp hp) ▸ .inl (.tail _ (.head _))) ht1 ht tp⟩
end
section
variable {Q:Unit->Zi->Prop}
theorem VY.noteT(F:VY H0 M s (env::l) e cls a0 led s')(hfr:A.frames=some (env::l))(hf:env.frame=some L)(hQ:∀ s'',Zbc H0 M s (env::l) e cls a0 L led s''->s'.heap.UpToSlots s''.heap->Q () s''):Zp MM A (noteFrame (.ref e) env) Q E s':=by
 refine Gi F.ex λB hB h0 h1 hp h2=>?_
 refine wpAny_looks_onW hfr hf hB λh' x1 x2=>hQ _ ⟨⟨B,x1,h0,h1,hp,h2⟩,λp hp'=>⟨x1.1 _ _ (h2 p hp'),(F.has p hp').nd,λdx q=>((F.has p hp').dx dx q).slots x2⟩,λb o es n q hd=>?_,F.toks,F.gens,F.os⟩ x2
 refine zE (F.up b o es n q hd) λsl h3=>?_
 refine zE (V9 x2 h3 hd) λsl' h4=>?_
 exact⟨sl',h4⟩
theorem VY.leaveT(F:VY H0 M s (env::l) e cls a0 led s')(hfr:A.frames=some (env::l))(hf:env.frame=some L)(hQ:∀ s'',VY H0 M s l e cls a0 led s''->s'.heap.UpToSlots s''.heap->Q () s''):Zp MM A (leaving env (.ref e)) Q E s':=by
 refine Gi F.ex λB hB h0 h1 hp h2=>?_
 refine wpAny_leaves_onW hfr hf hB λh' x1 x2=>hQ _ ⟨⟨B,x1,h0,h1,hp,h2⟩,λp hp'=>⟨x1.1 _ _ (h2 p hp'),(F.has p hp').nd,λdx q=>((F.has p hp').dx dx q).slots x2⟩,λb o es n q hd=>?_,F.toks,F.gens,F.os⟩ x2
 refine zE (F.up b o es n q hd) λsl h3=>?_
 refine zE (V9 x2 h3 hd) λsl' h4=>?_
 exact⟨sl',h4⟩
theorem Zbc.landsT(F:Zbc H0 M s l e cls a0 L led s')(hQ:∀ s'',VY H0 M s l e cls a0 led s''->s'.heap.UpToSlots s''.heap->Q () s''):Zp MM A (setFlight (.ref e) none) Q E s':=by
 refine Gi F.ex λB hB h0 h1 hp h2=>?_
 refine wpAny_landsW hB λh' x1 x2=>hQ _ ⟨⟨B,x1,h0,h1,hp,h2⟩,λp hp'=>⟨x1.1 _ _ (h2 p hp'),(F.has p hp').nd,λdx q=>((F.has p hp').dx dx q).slots x2⟩,λb o es n q hd=>?_,F.toks,F.gens,F.os⟩ x2
 refine zE (F.up b o es n q hd) λsl h3=>?_
 refine zE (V9 x2 h3 hd) λsl' h4=>?_
 exact⟨sl',h4⟩
theorem VY.againT(F:VY H0 M s l e cls a0 led s')(hQ:∀ s'',VY H0 M s l e cls a0 led s''->s'.heap.UpToSlots s''.heap->Q () s''):Zp MM A (setFlight (.ref e) none) Q E s':=by
 refine Gi F.ex λB hB h0 h1 hp h2=>?_
 refine lands_againW hB λh' x1 x2=>hQ _ ⟨⟨B,x1,h0,h1,hp,h2⟩,λp hp'=>⟨x1.1 _ _ (h2 p hp'),(F.has p hp').nd,λdx q=>((F.has p hp').dx dx q).slots x2⟩,λb o es n q hd=>?_,F.toks,F.gens,F.os⟩ x2
 refine zE (F.up b o es n q hd) λsl h3=>?_
 refine zE (V9 x2 h3 hd) λsl' h4=>?_
 exact⟨sl',h4⟩
theorem VY.exAt{C t:Zo}(F:VY H0 M s l e (.ref C) (.ref t) led s'):OC s'.heap e C t:=by
 refine XW F.ex λB hB uu=>?_
 refine BZ hB.first λo vs h1 h2 h3 h4=>?_
 exact⟨o,vs,h1,h2,h3,h4⟩
end
section
variable {M':List Zo}{m':Ze}{led':Zd}
theorem Cx.mono(C:Cx H0 A l M sE L m led s)(h:∀ p∈M,p∈M'):Cx H0 A l M' sE L m led s:={ C with go:=C.go.mono h }
theorem Cx.unbaseM(C:Cx H0 A l M sE L m led s)(C':Cx H0 A l M' (UL s L) L m' led' s')(hM:∀ p∈M',p∈M\/sE.heap.get? p=none):Cx H0 A l M sE L m' led' s':=by
 have ne:∀ {b o},sE.heap.get? b=some o->b≠L:=λe q=>by rw [q,C.new] at e; exact Wu e
 refine { C' with
  new:=C.new
  go:=⟨λuu=>C'.st.glob,λb o e hm hn=>C'.go.nd b o ((Jg (ne e)).trans (C.go.nd b o e hm hn)) (λh=>(hM b h).elim hm λq=>by exact noN (ZF (ZR e) q)) hn,λb o es n e hd=>?_,λb o e hn=>?_,Zl C.go.toks C'.go.toks,λh=>C'.go.gens (C.go.gens h),C'.go.os.trans C.go.os⟩ }
 ·refine zE (C.go.up b o es n e hd) λsl h1=>?_
  refine zE (C'.go.up b _ es n ((Jg (ne e)).trans h1) hd) λsl' h2=>?_
  exact⟨sl',h2⟩
 ·refine XW (C.go.pres b o e hn) λo' h1 h2=>?_
  exact C'.go.pres b o' ((Jg (ne e)).trans h1) h2
theorem Bj{L:Zo}{cd:Zh}{q:Yz}{s:Zi}(h:s.heap.CodeRec cd q)(hL:∃ o es n,s.heap.get? L=some o/\o.data = .dict es n):(UL s L).heap.CodeRec cd q:=by
 refine VS h λc2 oc vs t e2 h1 h2 h3=>?_
 have:c2≠L:=λe=>by
  refine V1 hL λo es n h4 h5=>?_
  rw [e,h4] at h1; obtain rfl:=Zz h1
  rw [h5] at h2; cases h2
 exact⟨c2,oc,vs,t,e2,(Jg this).trans h1,h2,h3⟩
theorem Cx.dictL(C:Cx H0 A l M sE L m led s):∃ o es n,s.heap.get? L=some o/\o.data = .dict es n:=by
 refine WT C.ns λo es n h1 h2 uu=>?_
 exact⟨o,es,n,h1,h2⟩
theorem Cx.code(C:Cx H0 A l M sE L m led s){c:Zo}{q:Yz}(h:sE.heap.CodeRec (.ref c) q)(hM:c∉M):s.heap.CodeRec (.ref c) q:=DG h C.go λc' e=>by cases e; exact hM
theorem G4{h:Xx}{c P:Zo}{q:Yz}{o:Xl}(hc:h.CodeRec (.ref c) q)(hP:h.get? P=some o)(hn:∀ vs x t,o.data = .fields vs->vs[1]? ≠ some (.str x t)):c≠P:=λe=>by
 refine VS hc λc2 oc vs t e2 h1 h2 h3=>?_
 cases e2
 rw [e,hP] at h1; obtain rfl:=Zz h1
 exact hn _ _ _ h2 h3
theorem Zcb{led:Zd}{j:Nat}{p:Zo×Xl}(h:led[j]? = some p):led.set j p=led:=by
 apply List.ext_getElem?
 intro i
 rw [GX]
 split
 ·rename_i e
  subst e
  rw [if_pos (Z5.mp h).1,h]
 ·rfl
end
noncomputable def pTl(n:Nat):List Zo->List Zh
 | []=>[]
 | c::r=>Xr n::Xr 0 :: .ref c::pTl (n+1) r
noncomputable def pT(cs:List Zo):Array Zh:=(pTl 419 cs).toArray
theorem TS:∀ (cs:List Zo) (n:Nat) (c:Zo),pTl n (cs++[c])=pTl n cs++[Xr ((n+cs.length:Nat):Int),Xr 0,.ref c]
 | [],n,c=>rfl
 | x::r,n,c=>by
  show Xr n::Xr 0 :: .ref x::pTl (n+1) (r++[c])=_
  rw [TS r (n+1) c]
  show _=Xr n::Xr 0 :: .ref x::(pTl (n+1) r++[Xr ((n+(r.length+1):Nat):Int),Xr 0,.ref c])
  rw [show n+1+r.length=n+(r.length+1) by exact Nat.add_right_comm ..]
theorem Zgj(cs:List Zo)(c:Zo):pT (cs++[c])=pT cs ++ #[Xr ((419+cs.length:Nat):Int),Xr 0,.ref c]:=by
 delta pT
 rw [TS]
 simp
theorem O8{pos:V7}(hc:pos.col=0):∀ (cs:List Zo) (n i:Nat),pos.line=n+i->codeAmong pos (pTl n cs)=(cs[i]?).map .ref
 | [],n,i,h=>rfl
 | x::r,n,i,h=>by
  show(if((n:Int)==(pos.line:Int)&&(0:Int)==(pos.col:Int))=true then some (ZS x) else codeAmong pos (pTl (n+1) r))=_
  cases i with
  | zero=>rw [if_pos (by rw [h,hc]; simp)]; rfl
  | succ i=>
   rw [if_neg (by rw [h]; simp; lia),O8 hc r (n+1) i (by rw [h]; lia)]
   simp
theorem I9:∀ (cs:List Zo) (n:Nat),YQ (pTl n cs)
 | [],_=>trivial
 | _::r,n=>I9 r (n+1)
noncomputable def tQ:Yz:="_law_told.<locals>.<lambda>"
noncomputable def Zlw(s:PySem.Expr):List PySem.Expr:=@PySem.Expr.casesOn (λuu=>List PySem.Expr) s (λuu uu uu=>[]) (λuu uu uu=>[]) (λuu uu uu uu=>[]) (λuu uu uu=>[]) (λuu uu uu uu=>[]) (λuu uu uu uu=>[]) (λuu uu uu=>[]) (λuu uu uu=>[]) (λuu uu uu uu=>[]) (λuu uu uu uu=>[]) (λuu uu uu uu uu=>[]) (λuu uu uu uu=>[]) (λuu uu=>[]) (λuu uu=>[]) (λuu uu=>[]) (λuu uu uu uu=>[]) (λuu uu uu uu=>[]) (λuu uu uu uu=>[]) (λuu uu=>[]) (λuu uu uu=>[]) (λuu uu uu=>[]) (λuu uu uu=>[]) (λuu uu=>[]) (λuu uu=>[]) (λa uu=>a) (λuu uu uu=>[]) (λuu uu uu uu=>[])
noncomputable def lamP(s:PySem.Expr):WE×PySem.Expr×US×V7:=@PySem.Expr.casesOn (λuu=>WE×PySem.Expr×US×V7) s (λuu uu uu=>(⟨[],[],none,[],[],none,[]⟩,default,default,default)) (λuu uu uu=>(⟨[],[],none,[],[],none,[]⟩,default,default,default)) (λuu uu uu uu=>(⟨[],[],none,[],[],none,[]⟩,default,default,default)) (λuu uu uu=>(⟨[],[],none,[],[],none,[]⟩,default,default,default)) (λa b c d=>(a,b,c,d)) (λuu uu uu uu=>(⟨[],[],none,[],[],none,[]⟩,default,default,default)) (λuu uu uu=>(⟨[],[],none,[],[],none,[]⟩,default,default,default)) (λuu uu uu=>(⟨[],[],none,[],[],none,[]⟩,default,default,default)) (λuu uu uu uu=>(⟨[],[],none,[],[],none,[]⟩,default,default,default)) (λuu uu uu uu=>(⟨[],[],none,[],[],none,[]⟩,default,default,default)) (λuu uu uu uu uu=>(⟨[],[],none,[],[],none,[]⟩,default,default,default)) (λuu uu uu uu=>(⟨[],[],none,[],[],none,[]⟩,default,default,default)) (λuu uu=>(⟨[],[],none,[],[],none,[]⟩,default,default,default)) (λuu uu=>(⟨[],[],none,[],[],none,[]⟩,default,default,default)) (λuu uu=>(⟨[],[],none,[],[],none,[]⟩,default,default,default)) (λuu uu uu uu=>(⟨[],[],none,[],[],none,[]⟩,default,default,default)) (λuu uu uu uu=>(⟨[],[],none,[],[],none,[]⟩,default,default,default)) (λuu uu uu uu=>(⟨[],[],none,[],[],none,[]⟩,default,default,default)) (λuu uu=>(⟨[],[],none,[],[],none,[]⟩,default,default,default)) (λuu uu uu=>(⟨[],[],none,[],[],none,[]⟩,default,default,default)) (λuu uu uu=>(⟨[],[],none,[],[],none,[]⟩,default,default,default)) (λuu uu uu=>(⟨[],[],none,[],[],none,[]⟩,default,default,default)) (λuu uu=>(⟨[],[],none,[],[],none,[]⟩,default,default,default)) (λuu uu=>(⟨[],[],none,[],[],none,[]⟩,default,default,default)) (λuu uu=>(⟨[],[],none,[],[],none,[]⟩,default,default,default)) (λuu uu uu=>(⟨[],[],none,[],[],none,[]⟩,default,default,default)) (λuu uu uu uu=>(⟨[],[],none,[],[],none,[]⟩,default,default,default))
noncomputable def asgV(s:JL):PySem.Expr:=@Stmt.casesOn (λuu=>PySem.Expr) s (λuu uu uu uu uu uu uu uu uu uu=>default) (λuu uu uu uu uu uu uu uu uu uu=>default) (λuu uu uu uu uu uu uu uu uu uu uu=>default) (λuu uu=>default) (λuu uu=>default) (λuu a uu=>a) (λuu uu uu uu uu uu uu=>default) (λuu uu uu uu=>default) (λuu uu uu uu uu=>default) (λa uu uu uu uu=>a) (λuu uu uu uu uu=>default) (λuu uu uu uu=>default) (λuu uu uu uu=>default) (λuu uu uu=>default) (λuu uu uu=>default) (λuu uu uu=>default) (λuu uu uu=>default) (λuu uu uu uu uu=>default) (λuu uu uu uu uu=>default) (λuu uu uu=>default) (λuu uu=>default) (λuu uu uu uu=>default) (λuu uu=>default) (λuu uu=>default) (λuu uu=>default) (λuu=>default) (λuu=>default) (λuu=>default)
noncomputable def tlE(i:Nat):Vz:=(Zlw (asgV (Gd.2.1.getD 0 (.Pass default)))).getD i default
noncomputable def tl(i:Nat):=lamP (tlE i)
noncomputable abbrev tlO(i:Nat)(cl:List (Yz×Zo))(pm:Zh)(fc:Zo)(ct:Zh):Xl:=Zeg "<lambda>" tQ (tl i).1 (.expr (tl i).2.1) (tl i).2.2.1 cl .none pm (.ref fc) ct
structure ToldP (h:Xx)(P:Zo)(cs:List Zo):Prop where
 at_:h.get? P=some (Ye (pT cs))
 code:∀ c∈cs,h.CodeRec (.ref c) tQ
theorem Zit(cs:List Zo):∀ vs x t,(Ye (pT cs)).data = .fields vs->vs[1]? ≠ some (.str x t):=λvs x t e q=>by
 cases e
 cases cs with
 | nil=>exact Wu q
 | cons c r=>cases q
section
variable {c P:Zo}
theorem Cx.lamT(C:Cx H0 A l M sE L m led s)(G:Gl K H0 mg mb)(B:Bm H0 mg){params:WE}{body:Vz}{scope:US}{pos:V7}{clos:List (Yz×Zo)}{cs:List Zo}(i j:Nat)(hj:led[j]? = some (P,Ye (pT cs)))(hM:P∈M)(hH:H0.get? P=none)(hcl:JU scope env=pure clos)(hge0:env.globals=Zw)
  (hcode:env.code = .ref c)(CH:CodeHd s.heap c P)(hdef:defaultsOf params env=([],[]))(hq:env.qual++"<lambda>"=tQ)(hl:pos.line=419+i)(hc0:pos.col=0)(h6:i<6)(hcs:cs.length=i\/cs.length=6)(hrec:∀ c∈cs,s.heap.CodeRec (.ref c) tQ){Q:Za}
  (h:∀ f c' cs' pm ctv s',Cx H0 A l M sE L m ((f,Zeg "<lambda>" tQ params (.expr body) scope clos .none pm (.ref c') ctv)::led.set j (P,Ye (pT cs'))) s'->cs'.length=i+1\/cs'.length=6->cs'[i]? = some c'->(∀ (k:Nat)(x:Zo),cs[k]? = some x->cs'[k]? = some x)->(∀ c∈cs',s'.heap.CodeRec (.ref c) tQ)->Q (.ref f) s') :
  Zp MM A (eval (.Lambda params body scope pos) env) Q E s:=by
 have CB:=C.rebase.mono (M':=[P]) YC
 have un:∀ {m':Ze} {led':Zd} {s':Zi},Cx H0 A l [P] (UL s L) L m' led' s'->Cx H0 A l M sE L m' led' s':=λC''=>C.unbaseM C'' λp hp=>by exact(Zk.mp hp) ▸ .inl hM
 have hno:∀ c∈cs,c≠P:=λc hc=>G4 (hrec c hc) (C.at j hj) (Zit cs)
 have hr:∀ c∈cs,(UL s L).heap.CodeRec (.ref c) tQ:=λc hc=>Bj (hrec c hc) C.dictL
 have ht:YQ (pT cs).toList:=I9 cs 419
 have ham:codeAmong pos (pT cs).toList=(cs[i]?).map .ref:=O8 hc0 cs 419 i hl
 rcases hcs with hi | hi
 ·refine CB.lamNew G B j hj (.inl (.head _)) hH hcl hge0 hcode CH ht (by rw [ham,XS (Xw hi)]; rfl) hdef λf c' pm ctv s' C' uu uu uu hrec'=>?_
  rw [hq] at C' hrec'
  have e:pT cs ++ #[Xr (pos.line:Int),Xr (pos.col:Int),.ref c']=pT (cs++[c']):=by rw [Zgj,hl,hc0,hi]; rfl
  rw [e] at C'
  refine h f c' (cs++[c']) pm ctv s' (un C') (.inl (by simp [hi])) (by rw [<- hi]; simp) (λk x hk=>by exact ZF (YK (Z5.mp hk).1) (hk)) λd hd=>?_
  rcases Xn.mp hd with hd | hd
  ·exact C'.code (hr d hd) λq=>hno d hd (Zk.mp q)
  ·exact(Zk.mp hd)▸hrec'
 ·obtain ⟨c',hc'⟩:∃ c',cs[i]? = some c':=⟨_,ZE (by lia)⟩
  refine CB.lamHit G B j hj hH hcl hge0 hcode CH ht (by rw [ham,hc']; rfl) hdef λf pm ctv s' C' uu uu uu=>?_
  rw [hq] at C'
  refine h f c' cs pm ctv s' ?_ (.inr hi) hc' (λk x hk=>hk) λd hd=>C'.code (hr d hd) λq=>hno d hd (Zk.mp q)
  rw [Zcb hj]
  exact un C'
end
end
variable {mv:Yz}{tm:W7}
section
open PySem PySem.W PySem.Calls PyProof.Rows PySem.Spec
noncomputable def IY(L:Zo)(i:Nat):List (Yz×Zo):=if i=3 then [(Zj "y",L+2),(Zj "x",L+1),(Zj "method",L+3)] else [(Zj "y",L+2),(Zj "x",L+1)]
noncomputable abbrev Vs(L xl yl:Zo)(mv:Yz)(tm:W7):Zd:=[(L+3,UM (some (.str mv tm))),(L+2,UM (some (.ref yl))),(L+1,UM (some (.ref xl)))]
theorem Io(G:Gl K H0 mg mb)(S:St H0 A l s){i:Nat}{f c L se C:Zo}{pm ct:Zh}{out:Hq}{VH:W7->Code}(L0:Lg s.heap (Vs L xl yl mv tm++Jp P1 P2 ps1 ps2 LS))(hroom:A.depth<Zr)(hh:A.handled=none)
  (ho:s.heap.get? f=some (tlO i (IY L i) pm c ct))(hcd:s.heap.CodeRec (.ref c) tQ)(hcell:∀ x∈(tl i).2.2.1.names,x.2 ≠ .cell)(hco:(tl i).2.2.1.isCoroutine=false)(hgen:(tl i).2.2.1.isGenerator=false)(hk:(tl i).2.2.1.kind = .function)(hpar:∀ pm ct,BindsTo s (fnV "<lambda>" tQ (tl i).1 (.expr (tl i).2.1) (tl i).2.2.1 (IY L i) .none pm (.ref c) ct) ⟨[],[]⟩ [])
  (hbody:∀ (Lf:Zo) (m:Ze) (s1:Zi) (Q E:Za),Cx H0 (A.deeper (envX tQ (tl i).2.2.1 Lf f (.ref c) (IY L i))) (envX tQ (tl i).2.2.1 Lf f (.ref c) (IY L i)::l) [P1,P2] s Lf m (Vs L xl yl mv tm++Jp P1 P2 ps1 ps2 LS) s1 ->
   (∀ tr s2,Cx H0 (A.deeper (envX tQ (tl i).2.2.1 Lf f (.ref c) (IY L i))) (envX tQ (tl i).2.2.1 Lf f (.ref c) (IY L i)::l) [P1,P2] s Lf m (Vs L xl yl mv tm++Jp P1 P2 ps1 ps2 LS) s2->Yk (model PW w) (A.deeper (envX tQ (tl i).2.2.1 Lf f (.ref c) (IY L i))) (VH tr) (TM Q E) s2)->Zp (model PW w) (A.deeper (envX tQ (tl i).2.2.1 Lf f (.ref c) (IY L i))) (eval (tl i).2.1 (envX tQ (tl i).2.2.1 Lf f (.ref c) (IY L i))) Q E s1)
  (inner:∀ tr A' l' s1,A'.depth=A.depth+1->A'.handled=none->St H0 A' l' s1->Lg s1.heap (Jp P1 P2 ps1 ps2 LS)->WN w H0 se C P1 P2 out (VH tr) A' l' s1) :
  WN w H0 se C P1 P2 out (.call (.ref f) ⟨[],[]⟩) A l s:=⟨λR kok kno=>by
 refine Zkp (binds:=[]) S [P1,P2] _ L0.has L0.nodup hroom ho rfl (S.lim G) hcd (hpar pm ct) hcell YC (λLf s1 hLf Cf=>?_) hco hgen hk
 refine hbody Lf _ s1 _ _ Cf λtr s2 C2=>(inner tr (A.deeper (envX tQ (tl i).2.2.1 Lf f (.ref c) (IY L i))) _ s2 rfl hh C2.st ⟨λp hp=>C2.has p (XD _ hp),C2.nodup.sublist (List.Sublist.map _ (X0 _ _))⟩).go _ (λv q1 q2 LR s' g h1 t1 h2 t2 hl hn ov om=>?_) λe t u cls m q1 q2 s' hc hm fl t1 t2 tp=>?_
 ·exact kok v q1 q2 LR s' (C2.go.trans g) h1 t1 h2 t2 (λp hp=>⟨(hl p hp).1,(C2.noE (hl p hp).2).e⟩) hn ov om
 ·refine fl.leaveT C2.st.frames rfl λs'' fl2 up2=>?_
  exact kno e t u cls m q1 q2 s'' hc hm (fl2.lift C2.go λp hp=>.inl hp) t1 t2 (tp.of_slots up2)⟩
theorem six{P:Nat->Prop}(h0:P 0)(h1:P 1)(h2:P 2)(h3:P 3)(h4:P 4)(h5:P 5):∀ n,n<6->P n
 | 0,_=>h0
 | 1,_=>h1
 | 2,_=>h2
 | 3,_=>h3
 | 4,_=>h4
 | 5,_=>h5
 | n+6,h=>absurd h (UC (YL 6 n))
noncomputable def VH(b:Ad2)(x y:Zh)(mv:Yz)(tm:W7)(tr:W7):Nat->Code
 | 0=>.call (.ref b.cov) ⟨[x,y],[]⟩
 | 1=>.call (.ref b.corr) (B9 x y none)
 | 2=>.call (.ref b.corr) (B9 x y (some (Zj "ranked",tr)))
 | 3=>.call (.ref b.corr) (B9 x y (some (mv,tm)))
 | 4=>.call (.ref b.reg) (Nx x y false)
 | _=>.call (.ref b.reg) (Nx x y true)
theorem lam0(G:Gl K H0 mg mb)(F:KG K b)(S:St H0 A l s){f c L C:Zo}{pm ct:Zh}{out:Hq}(L0:Lg s.heap (Vs L xl yl mv tm++Jp P1 P2 ps1 ps2 LS))(hroom:A.depth<Zr)(hh:A.handled=none)
  (ho:s.heap.get? f=some (tlO 0 (IY L 0) pm c ct))(hcd:s.heap.CodeRec (.ref c) tQ)
  (inner:∀ tr A' l' s1,A'.depth=A.depth+1->A'.handled=none->St H0 A' l' s1->Lg s1.heap (Jp P1 P2 ps1 ps2 LS)->WN w H0 b.se C P1 P2 out (VH b (.ref xl) (.ref yl) mv tm tr 0) A' l' s1) :
  WN w H0 b.se C P1 P2 out (.call (.ref f) ⟨[],[]⟩) A l s :=
 Io G S L0 hroom hh ho hcd (by decide) rfl rfl rfl (λuu uu=>YG rfl) (λLf m s1 Q E Cf h=>by
  refine Xj (Cf.globalE G F.ncov ?_)
  exact UQ (Cf.st.X G) F.kcov (Zq (Cf.ldFree 2 rfl rfl (Zq (Cf.ldFree 1 rfl rfl (ZC ⟨Cf.st.X G,Y7 (h 0 _ Cf)⟩))))))
  inner
theorem lam1(G:Gl K H0 mg mb)(F:KG K b)(S:St H0 A l s){f c L C:Zo}{pm ct:Zh}{out:Hq}(L0:Lg s.heap (Vs L xl yl mv tm++Jp P1 P2 ps1 ps2 LS))(hroom:A.depth<Zr)(hh:A.handled=none)
  (ho:s.heap.get? f=some (tlO 1 (IY L 1) pm c ct))(hcd:s.heap.CodeRec (.ref c) tQ)
  (inner:∀ tr A' l' s1,A'.depth=A.depth+1->A'.handled=none->St H0 A' l' s1->Lg s1.heap (Jp P1 P2 ps1 ps2 LS)->WN w H0 b.se C P1 P2 out (VH b (.ref xl) (.ref yl) mv tm tr 1) A' l' s1) :
  WN w H0 b.se C P1 P2 out (.call (.ref f) ⟨[],[]⟩) A l s :=
 Io G S L0 hroom hh ho hcd (by decide) rfl rfl rfl (λuu uu=>YG rfl) (λLf m s1 Q E Cf h=>by
  refine Xj (Cf.globalE G F.ncorr ?_)
  exact UQ (Cf.st.X G) F.kcorr (Zq (Cf.ldFree 2 rfl rfl (Zq (Cf.ldFree 1 rfl rfl (ZC ⟨Cf.st.X G,Y7 (h 0 _ Cf)⟩))))))
  inner
theorem lam4(G:Gl K H0 mg mb)(F:KG K b)(S:St H0 A l s){f c L C:Zo}{pm ct:Zh}{out:Hq}(L0:Lg s.heap (Vs L xl yl mv tm++Jp P1 P2 ps1 ps2 LS))(hroom:A.depth<Zr)(hh:A.handled=none)
  (ho:s.heap.get? f=some (tlO 4 (IY L 4) pm c ct))(hcd:s.heap.CodeRec (.ref c) tQ)
  (inner:∀ tr A' l' s1,A'.depth=A.depth+1->A'.handled=none->St H0 A' l' s1->Lg s1.heap (Jp P1 P2 ps1 ps2 LS)->WN w H0 b.se C P1 P2 out (VH b (.ref xl) (.ref yl) mv tm tr 4) A' l' s1) :
  WN w H0 b.se C P1 P2 out (.call (.ref f) ⟨[],[]⟩) A l s :=
 Io G S L0 hroom hh ho hcd (by decide) rfl rfl rfl (λuu uu=>YG rfl) (λLf m s1 Q E Cf h=>by
  refine Xj (Cf.globalE G F.nreg ?_)
  exact UQ (Cf.st.X G) F.kreg (Zq (Cf.ldFree 2 rfl rfl (Zq (Cf.ldFree 1 rfl rfl (ZC ⟨Cf.st.X G,Y7 (h 0 _ Cf)⟩))))))
  inner
theorem lam2(G:Gl K H0 mg mb)(F:KG K b)(S:St H0 A l s){f c L C:Zo}{pm ct:Zh}{out:Hq}(L0:Lg s.heap (Vs L xl yl mv tm++Jp P1 P2 ps1 ps2 LS))(hroom:A.depth<Zr)(hh:A.handled=none)
  (ho:s.heap.get? f=some (tlO 2 (IY L 2) pm c ct))(hcd:s.heap.CodeRec (.ref c) tQ)
  (inner:∀ tr A' l' s1,A'.depth=A.depth+1->A'.handled=none->St H0 A' l' s1->Lg s1.heap (Jp P1 P2 ps1 ps2 LS)->WN w H0 b.se C P1 P2 out (VH b (.ref xl) (.ref yl) mv tm tr 2) A' l' s1) :
  WN w H0 b.se C P1 P2 out (.call (.ref f) ⟨[],[]⟩) A l s :=
 Io G S L0 hroom hh ho hcd (by decide) rfl rfl rfl (λuu uu=>YG rfl) (λLf m s1 Q E Cf h=>by
  refine Up (Cf.globalE G F.ncorr ?_)
  refine callWith_KW (Cf.st.X G) F.kcorr rfl (Zq (Cf.ldFree 2 rfl rfl (Zq (Cf.ldFree 1 rfl rfl (ZC ?_)))))
  exact kws_cons (Yi (kws_nil ⟨Cf.st.X G,Y7 (h s1.toks _ (Cf.tok 1))⟩)))
  inner
theorem lam3(G:Gl K H0 mg mb)(F:KG K b)(S:St H0 A l s){f c L C:Zo}{pm ct:Zh}{out:Hq}(L0:Lg s.heap (Vs L xl yl mv tm++Jp P1 P2 ps1 ps2 LS))(hroom:A.depth<Zr)(hh:A.handled=none)
  (ho:s.heap.get? f=some (tlO 3 (IY L 3) pm c ct))(hcd:s.heap.CodeRec (.ref c) tQ)
  (inner:∀ tr A' l' s1,A'.depth=A.depth+1->A'.handled=none->St H0 A' l' s1->Lg s1.heap (Jp P1 P2 ps1 ps2 LS)->WN w H0 b.se C P1 P2 out (VH b (.ref xl) (.ref yl) mv tm tr 3) A' l' s1) :
  WN w H0 b.se C P1 P2 out (.call (.ref f) ⟨[],[]⟩) A l s :=
 Io G S L0 hroom hh ho hcd (by decide) rfl rfl rfl (λuu uu=>YG rfl) (λLf m s1 Q E Cf h=>by
  refine Up (Cf.globalE G F.ncorr ?_)
  refine callWith_KW (Cf.st.X G) F.kcorr rfl (Zq (Cf.ldFree 2 rfl rfl (Zq (Cf.ldFree 1 rfl rfl (ZC ?_)))))
  exact kws_cons (Cf.ldFree 0 rfl rfl (kws_nil ⟨Cf.st.X G,Y7 (h 0 _ Cf)⟩)))
  inner
theorem lam5(G:Gl K H0 mg mb)(F:KG K b)(S:St H0 A l s){f c L C:Zo}{pm ct:Zh}{out:Hq}(L0:Lg s.heap (Vs L xl yl mv tm++Jp P1 P2 ps1 ps2 LS))(hroom:A.depth<Zr)(hh:A.handled=none)
  (ho:s.heap.get? f=some (tlO 5 (IY L 5) pm c ct))(hcd:s.heap.CodeRec (.ref c) tQ)
  (inner:∀ tr A' l' s1,A'.depth=A.depth+1->A'.handled=none->St H0 A' l' s1->Lg s1.heap (Jp P1 P2 ps1 ps2 LS)->WN w H0 b.se C P1 P2 out (VH b (.ref xl) (.ref yl) mv tm tr 5) A' l' s1) :
  WN w H0 b.se C P1 P2 out (.call (.ref f) ⟨[],[]⟩) A l s :=
 Io G S L0 hroom hh ho hcd (by decide) rfl rfl rfl (λuu uu=>YG rfl) (λLf m s1 Q E Cf h=>by
  refine Up (Cf.globalE G F.nreg ?_)
  refine callWith_KW (Cf.st.X G) F.kreg rfl (Zq (Cf.ldFree 2 rfl rfl (Zq (Cf.ldFree 1 rfl rfl (ZC ?_)))))
  exact kws_cons (Y8 (kws_nil ⟨Cf.st.X G,Y7 (h 0 _ Cf)⟩)))
  inner
structure Zfi (h:Xx)(se e t:Zo)(cls:Zh)(m:Yz)(u:W7):Prop where
 ex:∃ o vs,h.get? e=some o/\o.cls=cls/\o.data = .fields vs/\vs[0]? = some (.ref t)
 tp:h.TupAt t [.str m u]
 kd:cls = .ref se\/cls = .type "ValueError"
theorem Zfi.sx{W:List Zo}{g:Nat->Prop}{s s':Zi}{se e t:Zo}{cls:Zh}{m:Yz}{u:W7}(x:Zfi s.heap se e t cls m u)(k:Sx W g s s')(h:∀ b o,s.heap.get? b=some o->nd o->b∉W):Zfi s'.heap se e t cls m u:=by
 obtain ⟨⟨o,vs,h1,h2,h3,h4⟩,⟨o',n,h5,h6,h7⟩,kd⟩:=x
 exact⟨⟨o,vs,k.keep _ _ (h _ _ h1 λes n q=>by rw [h3] at q; cases q) h1,h2,h3,h4⟩,⟨o',n,k.keep _ _ (h _ _ h5 λes n q=>by rw [h7] at q; cases q) h5,h6,h7⟩,kd⟩
section
variable {se t:Zo}{m:Yz}{u:W7}
theorem DV(F:KG K b)(X:K.In s.heap)(hu:A.units+2<Vh)(x:Zfi s.heap b.se e t cls m u){Q:Za}(hq:Q (.str m u) s):Zp (model PW w) A (call (.type "str") [.ref e]) Q E s:=by
 obtain ⟨⟨o,vs,h1,h2,h3,h4⟩,tp,kd⟩:=x
 rcases kd with rfl | rfl
 ·exact Zgk hu X F.sestr F.semro ⟨o,vs,h1,h2,h3,h4⟩ tp hq
 ·exact callType_new PySem.F.called_str (by decide) (PySem.F.typeCall_str_1 _) (PySem.F.newCall_str_1 _) (λobj=>PySem.F.args_object_init_2 obj _) PySem.F.entry_str_new
   (meets_str_new (S:=λA' R s'=>A'.units+1<Vh/\s'.heap.ExcAt e "ValueError" (.ref t)/\s'.heap.TupAt t [.str m u]/\R (.ok (.ret (.str m u))) s')
    λuu uu A' uu uu hq=>strOf_exc_one (A:=A'.in1) PySem.F.excStr_ValueError hq.1 hq.2.1 hq.2.2.1 hq.2.2.2)
   ⟨(show A.units+1+1<Vh from hu),⟨o,vs,h1,h2,h3,h4⟩,tp,typeIs_str _ _ _,hq⟩
end
noncomputable def Zld:List JL:=(fnP (Gd.2.1.getD 2 (.Pass default))).2.1
noncomputable abbrev tE(b:Ad2)(L cT:Zo):V0:=Y3 "_law_told" Gd.2.2 L b.told (.ref cT)
theorem Cx.dxL(C:Cx H0 A l M sE L m led s){x:Yz}{v:Zh}(hm:m x=some v){dx:Zo}(D:Bs s.heap dx):dx≠L:=λe=>by
 refine Zfn C.ns λo es ep h1 h2 h3 h4=>?_
 refine XW D λo' h5 h6=>?_
 rw [e,h1] at h5
 rw [<- (Zz h5),h2] at h6
 have:=h4 x
 rw [((Data.dict.inj h6).1),hm] at this
 exact nomatch (show(none:Option Zh)=some v from this)
theorem Cx.addLR(C:Cx H0 A l M sE L m led s){x:Yz}{v:Zh}(hm:m x=some v){LR:Zd}(h1:LR.length<=1)(hk:∀ p∈LR,Wy s.heap p)(hn:∀ p∈LR,∀ q∈led,q.1≠p.1):Cx H0 A l M sE L m (led++LR) s:=by
 cases LR with
 | nil=>rw [W9]; exact C
 | cons p r=>
  cases r with
  | nil=>
   have hp:=hk p (.head _)
   exact(C.add hp (hn p (.head _)) λe=>C.dxL hm (hp.dx _ e) rfl).perm (List.perm_append_comm (l₁:=led) (l₂:=[p]))
  | cons q r=>exact absurd h1 (by simp)
theorem VY.excV{s':Zi}{l:List V0}{se e t:Zo}{cls:Zh}{mm:Yz}{u:W7}(Fl:VY H0 M s l e cls (.ref t) led s')(tp:s'.heap.TupAt t [.str mm u])(kd:cls = .ref se\/cls = .type "ValueError"):Zfi s'.heap se e t cls mm u:=by
 refine XW Fl.ex λB hB uu=>?_
 refine BZ hB.first λo vs h1 h2 h3 h4=>?_
 exact⟨⟨o,vs,h1,h2,h3,h4⟩,tp,kd⟩
theorem SH(G:Gl K H0 mg mb)(F:KG K b){sm cT:Zo}(F3:K3 K b sm){f TL:Zo}{acc:List Zh}{ep p1 p2:Nat}{out:Hq}
  (C:Cx H0 (A.deeper (tE b L cT)) (tE b L cT::l) M sE L m led s)(hTL:led[1]? = some (TL,ZD acc ep))(h1:led[p1]? = some (P1,Ye ps1))(h2:led[p2]? = some (P2,Ye ps2))(hp1:p1≠1)(hp2:p2≠1)(hp12:p1≠p2)(hM:∀ p∈[P1,P2],p∈M\/sE.heap.get? p=none)(hTM:TL∈M\/sE.heap.get? TL=none)(hTH:H0.get? TL=none)
  (hf:FnAt f s.heap)(hmt:m "told"=some (.ref TL))(hmc:m "call"=some (.ref f))(hacc:acc.length<=100)(hh:A.handled=none)(hu:A.units+20<Vh)
  (hg:WN w H0 b.se b.lr P1 P2 out (.call (.ref f) ⟨[],[]⟩) (A.deeper (tE b L cT)) (tE b L cT::l) s){Q:Zb}{E:Za}
  (k:∀ v ep' m' q1 q2 LR s',Cx H0 (A.deeper (tE b L cT)) (tE b L cT::l) M sE L m' ((((led.set p1 (P1,Ye q1)).set p2 (P2,Ye q2)).set 1 (TL,ZD (acc++[v]) ep'))++LR) s'->OB b.lr LR out v->(∀ p∈LR,s.heap.get? p.1=none)->m' "told"=some (.ref TL)->YQ q1.toList->YQ q2.toList->Q .next s') :
  Zp (model PW w) (A.deeper (tE b L cT)) (execs Zld (tE b L cT)) Q E s:=by
 have hh':(A.deeper (tE b L cT)).handled=none:=hh
 refine Zg (U4 (Zg (wpAny_Expr_any (MethodCall_ (C.nameE hmt (U5 (C.at 1 hTL) rfl rfl (callWith_method1 (Zq (Xj (C.nameE hmc (callWith_F0 hf (Y7 ?_))))))))))))
 refine hg.go _ (λv q1 q2 LR s2 g k1 t1 k2 t2 hl hn ov om=>?_) λe t u cls mm q1 q2 s2 hc hm fl t1 t2 tp=>?_
 ·have hTL2:((led.set p1 (P1,Ye q1)).set p2 (P2,Ye q2))[1]? = some (TL,ZD acc ep):=by rw [XZ hp2,XZ hp1]; exact hTL
  have ne:∀ p∈LR,∀ q∈(led.set p1 (P1,Ye q1)).set p2 (P2,Ye q2),q.1≠p.1:=λp hp q hq e=>by
   have hm:q.1∈((led.set p1 (P1,Ye q1)).set p2 (P2,Ye q2)).map (λuu=>uu.1):=XG hq
   rw [XO (by exact ZF (XZ hp12) (h2)),XO h1] at hm
   refine XW (ZZ.mp hm) λq' hq' e'=>?_
   have:=(C.has q' hq').at_
   rw [e',e,(hl p hp).2] at this
   exact Wu this
  have C3:=(C.callAt2 p1 p2 h1 h2 hp12 g (.of k1 Y5 rfl) (.of k2 Y5 rfl) hM rfl rfl).addLR hmt hn (λp hp=>(hl p hp).1) ne
  have hTL3:(((led.set p1 (P1,Ye q1)).set p2 (P2,Ye q2))++LR)[1]? = some (TL,ZD acc ep):=by
   exact ZF (YK (Z5.mp hTL2).1) (hTL2)
  refine ZC ?_
  refine V5 (C3.at 1 hTL3) (by lia) ?_
  have C4:=C3.upd 1 (f:=Yb (·.push v)) hTL3 rfl Xe rfl hTM hTH
  refine Z4 (Z4 ?_)
  have e1:Yb (·.push v) (ZD acc ep)=ZD (acc++[v]) (ep+1):=by simp [Yb]
  have hln:1<((led.set p1 (P1,Ye q1)).set p2 (P2,Ye q2)).length:=(Z5.mp hTL2).1
  rw [e1,List.set_append_left _ _ hln] at C4
  refine Z4 ?_
  exact k v (ep+1) m q1 q2 LR _ C4 ov (λp hp=>(hl p hp).2) hmt t1 t2
 ·have tb:∀ s3,VY H0 [P1,P2] s (tE b L cT::l) e cls (.ref t) [(P1,Ye q1),(P2,Ye q2)] s3->Cx H0 (A.deeper (tE b L cT)) (tE b L cT::l) M sE L m ((led.set p1 (P1,Ye q1)).set p2 (P2,Ye q2)) s3:=λs3 fl=>
   C.callAt2 p1 p2 h1 h2 hp12 fl.go (fl.has _ (.head _)) (fl.has _ (.tail _ (.head _))) hM rfl rfl
  have hTL2:((led.set p1 (P1,Ye q1)).set p2 (P2,Ye q2))[1]? = some (TL,ZD acc ep):=by rw [XZ hp2,XZ hp1]; exact hTL
  refine fl.noteT C.st.frames rfl λs3 hd3 up3=>?_
  refine hd3.landsT λs4 fl4 up4=>?_
  have C4:=(tb s4 fl4).around (A':=(A.deeper (tE b L cT)).mark (some (.ref e))) rfl
  have tp4:=(tp.of_slots up3).of_slots up4
  have KD:cls = .ref b.se\/cls = .type "ValueError":=hc.elim (λh=>.inl h.1) λh=>.inr h.1
  rcases hc with ⟨rfl,ho⟩ | ⟨rfl,ho⟩
  ·refine wpAny_handleBy_cons (codeAny_handlers_test (C4.globalE G F.nse ?_)) (by intro q; cases q)
   obtain ⟨bm,N,nm,qn,bs,hdct,sn,sub,ab,col,dd,k0,k1,k2,k3,k5,mN,hC,hN,hni,T⟩:=NL (C4.st.X G) F.exc
   refine BZ fl4.exAt.ex λoe ws he1 he2 uu uu=>?_
   refine wpAny_excMatches_sub_self hC he1 he2 (T.hasType PySem.F.excBase_ValueError.hasBase) (codeAny_handlers_suite_as ?_)
   refine fl4.againT λs5 fl5 up5=>?_
   have C5:=(tb s5 fl5).around (A':=(A.deeper (tE b L cT)).mark (some (.ref e))) rfl
   have X5:=fl5.excV (se:=b.se) (tp4.of_slots up5) KD
   refine C5.setX λs6 C6 x6 z6=>?_
   have X6:=X5.sx x6 λb' o hb hn hm=>by
    refine V1 (JH C5.ns) λoL es ep' k1 k2=>?_
    rw [Zk.mp hm,k1] at hb; obtain rfl:=Zz hb; exact hn _ _ k2
   refine Zg (wpAny_Expr_any (MethodCall_ (C6.nameE (v:=.ref TL) (WG (by decide) hmt) (U5 (C6.at 1 hTL2) rfl rfl (callWith_method1 (Zq (ZH (Yi ?_))))))))
   refine Xj ((C6.tok 1).bootE G F.nstr Boot.«str» (W5 (Zq ((C6.tok 1).nameE (v:=.ref e) (by exact if_pos rfl) (ZC ?_)))))
   refine DV (A:=(A.deeper (tE b L cT)).mark (some (.ref e))) (s:=tk s6 1) F (C6.st.X G) (by show A.units+3+2<_; lia) X6 ?_
   refine PySem.wpAny_with_toks (n:=(tk s6 1).toks) (Z6 _) (W2 (λt' tk' ht=>?_) (Zl (Wt (show _<=30 by decide) hm) (by decide)))
   have C7:=(C6.tok 1).toTok ht
   refine ZC (V5 (C7.at 1 hTL2) (by lia) ?_)
   have C8:=C7.upd 1 (f:=Yb (·.push (.str (Zj "StatisticsError: "++mm) t'))) hTL2 rfl Xe rfl hTM hTH
   have e1:Yb (·.push (.str (Zj "StatisticsError: "++mm) t')) (ZD acc ep)=ZD (acc++[.str (Zj "StatisticsError: "++mm) t']) (ep+1):=by simp [Yb]
   rw [e1] at C8
   refine Z4 ?_
   refine wpAny_nameGoes_keeps (env:=tE b L cT) rfl C8.ns rfl λh' vv hn' hs'=>?_
   have C9:=(C8.stored hn' hs').around (A':=A.deeper (tE b L cT)) rfl
   refine Z4 ?_
   rw [<- W9 (((led.set p1 (P1,Ye q1)).set p2 (P2,Ye q2)).set 1 (TL,ZD (acc++[Value.str (Zj "StatisticsError: "++mm) t']) (ep+1)))] at C9
   exact k (.str (Zj "StatisticsError: "++mm) t') (ep+1) _ q1 q2 [] _ C9 (by exact ho▸⟨t',rfl⟩) YC (show(if Zj "told"=Zj "error" then vv else(Jh m (Zj "error") (.ref e)) (Zj "told"))=some (.ref TL) from(if_neg (by decide)).trans (WG (by decide) hmt)) t1 t2
  ·refine wpAny_handleBy_cons (codeAny_handlers_test (C4.globalE G F.nse ?_)) (by intro q; cases q)
   have LT:Ui (model PW w) s4.heap (typeOf (.ref e)) (.type "ValueError"):=by
    refine XW fl4.typ λo h3 h4=>?_
    exact(JZ h3).andThen (by exact h4 ▸ .now)
   refine(exm_one (C4.st.X G) LT F3.exm) _ _ _ s4 (λuu uu h=>h) ?_
   refine wpAny_handleBy_builtin_as (X:="ValueError") (T:="ValueError") (b:=true) PySem.F.isExc_ValueError PySem.F.notTuple_ValueError (by rw [isSubtype_type]; kernel_rfl) ?_
   refine C4.bootE G F.nve Boot.«ValueError» ⟨rfl,fl4.typ,?_⟩
   refine YV rfl ?_
   refine fl4.againT λs5 fl5 up5=>?_
   have C5:=(tb s5 fl5).around (A':=(A.deeper (tE b L cT)).mark (some (.ref e))) rfl
   have X5:=fl5.excV (se:=b.se) (tp4.of_slots up5) KD
   refine C5.setX λs6 C6 x6 z6=>?_
   have X6:=X5.sx x6 λb' o hb hn hm=>by
    refine V1 (JH C5.ns) λoL es ep' k1 k2=>?_
    rw [Zk.mp hm,k1] at hb; obtain rfl:=Zz hb; exact hn _ _ k2
   refine Zg (wpAny_Expr_any (MethodCall_ (C6.nameE (v:=.ref TL) (WG (by decide) hmt) (U5 (C6.at 1 hTL2) rfl rfl (callWith_method1 (Zq (ZH (Yi ?_))))))))
   refine Xj ((C6.tok 1).bootE G F.nstr Boot.«str» (W5 (Zq ((C6.tok 1).nameE (v:=.ref e) (by exact if_pos rfl) (ZC ?_)))))
   refine DV (A:=(A.deeper (tE b L cT)).mark (some (.ref e))) (s:=tk s6 1) F (C6.st.X G) (by show A.units+3+2<_; lia) X6 ?_
   refine PySem.wpAny_with_toks (n:=(tk s6 1).toks) (Z6 _) (W2 (λt' tk' ht=>?_) (Zl (Wt (show _<=30 by decide) hm) (by decide)))
   have C7:=(C6.tok 1).toTok ht
   refine ZC (V5 (C7.at 1 hTL2) (by lia) ?_)
   have C8:=C7.upd 1 (f:=Yb (·.push (.str (Zj "ValueError: "++mm) t'))) hTL2 rfl Xe rfl hTM hTH
   have e1:Yb (·.push (.str (Zj "ValueError: "++mm) t')) (ZD acc ep)=ZD (acc++[.str (Zj "ValueError: "++mm) t']) (ep+1):=by simp [Yb]
   rw [e1] at C8
   refine Z4 ?_
   refine wpAny_nameGoes_keeps (env:=tE b L cT) rfl C8.ns rfl λh' vv hn' hs'=>?_
   have C9:=(C8.stored hn' hs').around (A':=A.deeper (tE b L cT)) rfl
   refine Z4 ?_
   rw [<- W9 (((led.set p1 (P1,Ye q1)).set p2 (P2,Ye q2)).set 1 (TL,ZD (acc++[Value.str (Zj "ValueError: "++mm) t']) (ep+1)))] at C9
   exact k (.str (Zj "ValueError: "++mm) t') (ep+1) _ q1 q2 [] _ C9 (by exact ho▸⟨t',rfl⟩) YC (show(if Zj "told"=Zj "error" then vv else(Jh m (Zj "error") (.ref e)) (Zj "told"))=some (.ref TL) from(if_neg (by decide)).trans (WG (by decide) hmt)) t1 t2
end
variable {P3:Zo}
section
open PySem PySem.W PySem.Calls PyProof.Rows PySem.Spec
noncomputable abbrev FnQ:=Nat->Zo×Zh×Zo×Zh
noncomputable abbrev NK(L:Zo)(q:FnQ)(i:Nat):Zo×Xl:=((q i).1,tlO i (IY L i) (q i).2.1 (q i).2.2.1 (q i).2.2.2)
noncomputable abbrev Zkm(q:FnQ):List Zh:=[.ref (q 0).1,.ref (q 1).1,.ref (q 2).1,.ref (q 3).1,.ref (q 4).1,.ref (q 5).1]
noncomputable abbrev Zbq(L xl yl:Zo)(mv:Yz)(tm:W7)(q:FnQ)(P1 P2 P3:Zo)(cs:List Zo)(IT CL TL:Zo)(io:Xl)(acc:List Zh)(ep:Nat)(q1 q2:Array Zh)(T:Zd):Zd :=
 (IT,io)::(TL,ZD acc ep)::(CL,ZD (Zkm q))::NK L q 5::NK L q 4::NK L q 3::NK L q 2::NK L q 1::NK L q 0::(L+3,UM (some (.str mv tm)))::(L+2,UM (some (.ref yl)))::(L+1,UM (some (.ref xl)))::(P1,Ye q1)::(P2,Ye q2)::(P3,Ye (pT cs))::T
noncomputable abbrev Ih(L xl yl:Zo)(mv:Yz)(tm:W7)(q:FnQ)(P1 P2 P3:Zo)(cs:List Zo)(LS:Zd)(IT CL TL:Zo)(io:Xl)(acc:List Zh)(ep:Nat)(q1 q2:Array Zh)(LR:Zd):Zd :=
 Zbq L xl yl mv tm q P1 P2 P3 cs IT CL TL io acc ep q1 q2 (LS++LR)
theorem Zfs{x:Yz}{t:W7}(l:List Zh)(h:YQ l)(q:l[1]? = some (.str x t)):False:=by
 cases l with
 | nil=>cases q
 | cons a l=>cases l with
  | nil=>cases q
  | cons b l=>cases q; cases a<;>exact h
theorem Nq{ps:Array Zh}(h:YQ ps.toList):∀ vs x t,(Ye ps).data = .fields vs->vs[1]? ≠ some (.str x t):=λvs x t e q=>by
 cases e
 rw [<- W3] at q
 exact Zfs _ h q
theorem Zho(q:FnQ):∀ i,i<6->(Zkm q)[i]? = some (.ref (q i).1):=six rfl rfl rfl rfl rfl rfl
theorem Zkn(L xl yl:Zo)(mv:Yz)(tm:W7)(q:FnQ)(P1 P2 P3:Zo)(cs:List Zo)(IT CL TL:Zo)(io:Xl)(acc:List Zh)(ep:Nat)(q1 q2:Array Zh)(T:Zd):∀ i,i<6->(Zbq L xl yl mv tm q P1 P2 P3 cs IT CL TL io acc ep q1 q2 T)[8-i]? = some (NK L q i) :=
 six rfl rfl rfl rfl rfl rfl
theorem OB.mono{C:Zo}{LR LR':Zd}(h:∀ p∈LR,p∈LR'){o:Hq}{v:Zh}(x:OB C LR o v):OB C LR' o v:=by
 cases o with
 | msg y=>exact x
 | flt f=>exact x
 | lr q i=>refine VS x λa dx t u n1 n2 e hm=>?_; exact⟨a,dx,t,u,n1,n2,e,h _ hm⟩
noncomputable def NZ(C:Zo)(outs:Nat->Hq)(LR:Zd)(acc:List Zh):Prop:=∀ (i:Nat) v,acc[i]? = some v->OB C LR (outs i) v
theorem Zgw(G:Gl K H0 mg mb)(F:KG K b)(S:St H0 A l s){f c C:Zo}{pm ct:Zh}{out:Hq}(L0:Lg s.heap (Vs L xl yl mv tm++Jp P1 P2 ps1 ps2 LS))(hroom:A.depth<Zr)(hh:A.handled=none):∀ (i:Nat),i<6 ->
  s.heap.get? f=some (tlO i (IY L i) pm c ct)->s.heap.CodeRec (.ref c) tQ ->
  (∀ tr A' l' s1,A'.depth=A.depth+1->A'.handled=none->St H0 A' l' s1->Lg s1.heap (Jp P1 P2 ps1 ps2 LS)->WN w H0 b.se C P1 P2 out (VH b (.ref xl) (.ref yl) mv tm tr i) A' l' s1) ->
  WN w H0 b.se C P1 P2 out (.call (.ref f) ⟨[],[]⟩) A l s :=
 six (lam0 G F S L0 hroom hh) (lam1 G F S L0 hroom hh) (lam2 G F S L0 hroom hh) (lam3 G F S L0 hroom hh) (lam4 G F S L0 hroom hh) (lam5 G F S L0 hroom hh)
theorem Zfx{m:Ze}{q:FnQ}{cs:List Zo}{IT CL TL:Zo}{io:Xl}{acc:List Zh}{ep:Nat}{LR:Zd}(C:Cx H0 A l M sE L m (Ih L xl yl mv tm q P1 P2 P3 cs LS IT CL TL io acc ep ps1 ps2 LR) s):Lg s.heap (Vs L xl yl mv tm++Jp P1 P2 ps1 ps2 LS):=by
 have sub:(Vs L xl yl mv tm++Jp P1 P2 ps1 ps2 LS).Sublist (Ih L xl yl mv tm q P1 P2 P3 cs LS IT CL TL io acc ep ps1 ps2 LR) :=
  .cons _ (.cons _ (.cons _ (.cons _ (.cons _ (.cons _ (.cons _ (.cons _ (.cons _ (.cons₂ _ (.cons₂ _ (.cons₂ _ (.cons₂ _ (.cons₂ _ (.cons _ (List.sublist_append_left _ _)))))))))))))))
 exact⟨λp hp=>C.has p (sub.subset hp),C.nodup.sublist (sub.map _)⟩
noncomputable def I8(w:Um)(H0:Xx)(b:Ad2)(P1 P2:Zo)(LS:Zd)(xl yl:Zo)(mv:Yz)(tm:W7)(outs:Nat->Hq)(D:Nat):Prop :=
 ∀ i,i<6->∀ tr A' l' s1 q1 q2,A'.depth=D->A'.handled=none->St H0 A' l' s1->Lg s1.heap (Jp P1 P2 q1 q2 LS)->YQ q1.toList->YQ q2.toList->WN w H0 b.se b.lr P1 P2 (outs i) (VH b (.ref xl) (.ref yl) mv tm tr i) A' l' s1
structure Zmk (H0:Xx)(A:YE)(l:List V0)(b:Ad2)(W:Zi)(L xl yl:Zo)(mv:Yz)(tm:W7)(q:FnQ)(P1 P2 P3:Zo)(cs:List Zo)(LS:Zd)(IT CL TL:Zo)(outs:Nat->Hq)(n:Nat)(s:Zi):Prop where
 ex:∃ (i:Nat) (m:Ze) (acc:List Zh) (ep:Nat) (q1 q2:Array Zh) (LR:Zd),n=6+1-i/\i<=6/\m "told"=some (.ref TL)/\acc.length=i/\NZ b.lr outs LR acc/\(∀ p∈LR,W.heap.get? p.1=none)/\YQ q1.toList/\YQ q2.toList /\
  Cx H0 A l [P1,P2,IT,TL] W L m (Ih L xl yl mv tm q P1 P2 P3 cs LS IT CL TL (WV CL i) acc ep q1 q2 LR) s
noncomputable def Zbn:PySem.Expr×List JL×List JL:=(asgV (Gd.2.1.getD 2 (.Pass default)),(fnP (Gd.2.1.getD 2 (.Pass default))).2.1,[])
theorem SK(G:Gl K H0 mg mb)(F:KG K b){sm cT:Zo}(F3:K3 K b sm){m:Ze}{q:FnQ}{cs:List Zo}{IT CL TL:Zo}{outs:Nat->Hq}
  (C:Cx H0 (A.deeper (tE b L cT)) (tE b L cT::l) M sE L m (Ih L xl yl mv tm q P1 P2 P3 cs LS IT CL TL (WV CL 0) [] 0 ps1 ps2 []) s)(hmt:m "told"=some (.ref TL))(hM:∀ p∈[P1,P2],p∈M)(hn:∀ p∈[IT,TL],Nw H0 sE p)
  (t1:YQ ps1.toList)(t2:YQ ps2.toList)(hcd:∀ i,i<6->s.heap.CodeRec (.ref (q i).2.2.1) tQ)(hc6:I8 w H0 b P1 P2 LS xl yl mv tm outs (A.depth+2))(hroom:A.depth+1<Zr)(hh:A.handled=none)(hu:A.units+20<Vh){Q:Zb}{E:Za}
  (k:∀ m' acc ep q1 q2 LR io s',Cx H0 (A.deeper (tE b L cT)) (tE b L cT::l) M sE L m' (Ih L xl yl mv tm q P1 P2 P3 cs LS IT CL TL io acc ep q1 q2 LR) s'->m' "told"=some (.ref TL)->acc.length=6->NZ b.lr outs LR acc->(∀ p∈LR,sE.heap.get? p.1=none)->YQ q1.toList->YQ q2.toList->(∀ i,i<6->s'.heap.CodeRec (.ref (q i).2.2.1) tQ)->Q .next s') :
  Yk (model PW w) (A.deeper (tE b L cT)) (.forLoop Zbn.1 (.ref IT) Zbn.2.1 Zbn.2.2 (tE b L cT)) (Zcq (model PW w) (A.deeper (tE b L cT)) (tE b L cT) Q E) s:=by
 have un:∀ {m':Ze} {led':Zd} {s':Zi},Cx H0 (A.deeper (tE b L cT)) (tE b L cT::l) [P1,P2,IT,TL] (UL s L) L m' led' s'->Cx H0 (A.deeper (tE b L cT)) (tE b L cT::l) M sE L m' led' s':=λC''=>C.unbaseM C'' (Xu (.inl (hM _ (.head _))) (Xu (.inl (hM _ (.tail _ (.head _)))) (Xu (.inr (hn _ (.head _)).e) (Wo (.inr (hn _ (.tail _ (.head _))).e)))))
 have hcW:∀ i,i<6->(UL s L).heap.CodeRec (.ref (q i).2.2.1) tQ:=λi hi=>Bj (hcd i hi) C.dictL
 have hcM:∀ i,i<6->(q i).2.2.1∉[P1,P2,IT,TL]:=λi hi=>Vr (G4 (hcd i hi) (C.at 12 rfl) (Nq t1)) (Vr (G4 (hcd i hi) (C.at 13 rfl) (Nq t2)) (Vr (G4 (hcd i hi) (C.at 0 rfl) (λvs x t e q=>by cases e; cases q)) (Fv (G4 (hcd i hi) (C.at 1 rfl) (λvs x t e q=>by cases e)))))
 refine Vf (Zmk H0 (A.deeper (tE b L cT)) (tE b L cT::l) b (UL s L) L xl yl mv tm q P1 P2 P3 cs LS IT CL TL outs) (λn sI V=>?_) (6+1) ⟨0,m,[],0,ps1,ps2,[],rfl,Yt _,hmt,rfl,(λi v h=>by exact Wu h),YC,t1,t2,(C.rebase.mono (M':=[P1,P2,IT,TL]) YC)⟩
 obtain ⟨i,m1,acc,ep,q1,q2,LR,rfl,hi,h1,h2,h3,hnw,k1,k2,C2⟩:=V
 by_cases hlt:i<6
 ·refine VU (C2.at 0 rfl) (C2.at 2 rfl) (Zho q i hlt) ?_
  have C3:=C2.upd 0 (f:=ZP (·.setIfInBounds 1 (Xr ((i:Int)+1)))) rfl rfl Y5 rfl (.inl (by exact .tail _ (.tail _ (.head _)))) (hn IT (by exact .head _)).h
  have C3':Cx H0 (A.deeper (tE b L cT)) (tE b L cT::l) [P1,P2,IT,TL] (UL s L) L m1 (Ih L xl yl mv tm q P1 P2 P3 cs LS IT CL TL (WV CL (i+1)) acc ep q1 q2 LR) _:=C3
  refine Zm ?_
  refine PySem.wpAny_assign_Name (C3'.setE λs7 C7=>?_)
  have hfn:=C7.at (8-i) (Zkn L xl yl mv tm q P1 P2 P3 cs IT CL TL (WV CL (i+1)) acc ep q1 q2 (LS++LR) i hlt)
  have hg:=Zgw (w:=w) (C:=b.lr) (out:=outs i) G F C7.st (Zfx C7) hroom hh i hlt hfn (C7.code (hcW i hlt) (hcM i hlt)) λtr A' l' s1 hd ha S1 L1=>hc6 i hlt tr A' l' s1 q1 q2 (by rw [hd]; rfl) ha S1 L1 k1 k2
  refine SH (p1:=12) (p2:=13) G F F3 C7 rfl rfl rfl (by decide) (by decide) (by decide) (λp hp=>.inl (by simp only [Z7,Wf,or_false] at hp ⊢; rcases hp with h | h<;>simp [h])) (.inl (by exact .tail _ (.tail _ (.tail _ (.head _))))) (hn TL (by exact .tail _ (.head _))).h ⟨_,_,_,_,hfn⟩ (WG (by decide) h1) (if_pos rfl) (by lia) hh hu hg λv ep' m' r1 r2 LR' s8 C8 ov hnL hm' x1 x2=>?_
  have e:(((((Ih L xl yl mv tm q P1 P2 P3 cs LS IT CL TL (WV CL (i+1)) acc ep q1 q2 LR).set 12 (P1,Ye r1)).set 13 (P2,Ye r2)).set 1 (TL,ZD (acc++[v]) ep'))++LR')=Ih L xl yl mv tm q P1 P2 P3 cs LS IT CL TL (WV CL (i+1)) (acc++[v]) ep' r1 r2 (LR++LR') :=
   congrArg (Zbq L xl yl mv tm q P1 P2 P3 cs IT CL TL (WV CL (i+1)) (acc++[v]) ep' r1 r2) (WR LS LR LR')
  rw [e] at C8
  refine⟨6+1-(i+1),by grind,i+1,m',acc++[v],ep',r1,r2,LR++LR',rfl,hlt,hm',by simp [h2],λj u hu=>?_,λp hp=>(Xn.mp hp).elim (hnw p) λh=>(C7.noE (hnL p h)).e,x1,x2,C8⟩
  by_cases hj:j<acc.length
  ·rw [YK hj] at hu
   exact(h3 j u hu).mono λp hp=>X8 _ hp
  ·rw [Yd (Xp.mp hj)] at hu
   have:j=i:=by
    have:=(Z5.mp hu).1
    simp at this; grind
   subst this
   rw [h2,Nat.sub_self] at hu
   obtain rfl:=Zz hu
   exact ov.mono λp hp=>XD _ hp
 ·have hin:i=6:=by lia
  subst hin
  refine Gm hh (C2.at 0 rfl) (C2.at 2 rfl) rfl λh' e hm=>?_
  have C6:=C2.upd 0 (f:=ZP (·.setIfInBounds 0 .none)) rfl rfl Y5 rfl (.inl (by exact .tail _ (.tail _ (.head _)))) (hn IT (by exact .head _)).h
  have C7:=C6.call (Bc (H0:=H0) (M:=[]) (s:={ sI with heap:=sI.heap.update IT (ZP (·.setIfInBounds 0 .none)) }) hm)
  refine Z4 ?_
  refine k m1 acc ep q1 q2 LR _ _ (un C7) h1 h2 h3 (λp hp=>?_) k1 k2 λi hi=>C7.code (hcW i hi) (hcM i hi)
  have hne:p.1≠L:=C7.neL (C7.has p (by simp only [Ih,List.set_cons_zero,Z7,Xn]; simp [hp]))
  exact(C.noE ((Jg hne).symm.trans (hnw p hp))).e
noncomputable abbrev Zjf(vx vy vm:Zh):List (Yz×Zh):=[(Zj "x",vx),(Zj "y",vy),(Zj "method",vm)]
theorem OJ(v1 v2 v3:Zh):∀ n,∀ x∈Zjf v1 v2 v3,Gd.2.2.names.lookup x.1=some .local\/(Gd.2.2.names.lookup x.1=some .cell/\((Xi n Gd.2.2.names []).lookup x.1).isSome=true):=by
 exact λn=>Xu (.inr ⟨rfl,rfl⟩) (Xu (.inr ⟨rfl,rfl⟩) (Wo (.inr ⟨rfl,rfl⟩)))
noncomputable abbrev XQ(P1 P2 P3:Zo)(q1 q2:Array Zh)(cs:List Zo)(LS:Zd):Zd:=(P1,Ye q1)::(P2,Ye q2)::(P3,Ye (pT cs))::LS
theorem SJ(G:Gl K H0 mg mb)(B:Bm H0 mg)(F:KG K b){sm cT:Zo}(F3:K3 K b sm)(fd:OE K b.told "_law_told" Gd .none .none cT P3)(hHP:H0.get? P3=none)(S:St H0 A l s){cs:List Zo}{outs:Nat->Hq}(L0:Lg s.heap (XQ P1 P2 P3 ps1 ps2 cs LS))
  (t1:YQ ps1.toList)(t2:YQ ps2.toList)(hcs:cs.length=0\/cs.length=6)(hrec:∀ c∈cs,s.heap.CodeRec (.ref c) tQ)(hc6:I8 w H0 b P1 P2 LS xl yl mv tm outs (A.depth+2))(hroom:A.depth+1<Zr)(hh:A.handled=none)(hu:A.units+20<Vh){R:Zc}
  (k:∀ TL acc ep q1 q2 cs' LR s',Go H0 [P1,P2,P3] s s'->(∀ p∈(TL,ZD acc ep)::XQ P1 P2 P3 q1 q2 cs' (LS++LR),Wy s'.heap p)->s.heap.get? TL=none->(∀ p∈LR,s.heap.get? p.1=none)->(((TL,ZD acc ep)::LR).map (λuu=>uu.1)).Nodup->acc.length=6->NZ b.lr outs LR acc->YQ q1.toList->YQ q2.toList->cs'.length=6->(∀ c∈cs',s'.heap.CodeRec (.ref c) tQ)->R (.ok (.ret (.ref TL))) s') :
  Yk (model PW w) A (.call (.ref b.told) ⟨[.ref xl,.ref yl,.str mv tm],[]⟩) R s:=by
 refine DA G S fd [P1,P2,P3] (by exact ZO (by assumption)) (by intro n; show([Zj "method",Zj "y",Zj "x"]:List Yz).Nodup; decide) (B:=λuu=>Zjf (.ref xl) (.ref yl) (.str mv tm)) (λname doc pm an ct Q E' k=>Xk (a:=Zjf (.ref xl) (.ref yl) (.str mv tm)) rfl (k 0)) (λuu=>OJ _ _ _) L0 λL uu s1 C hnw=>?_
 have hh':(A.deeper (tE b L cT)).handled=none:=hh
 have C1:Cx H0 (A.deeper (tE b L cT)) (tE b L cT::l) [P1,P2,P3] s L (λuu=>none) (Vs L xl yl mv tm++XQ P1 P2 P3 ps1 ps2 cs LS) s1:=C
 have r1:∀ c∈cs,s1.heap.CodeRec (.ref c) tQ:=λc hc=>C1.code (hrec c hc) ((λc hc=>Vr (G4 (hrec c hc) (L0.has _ (.head _)).at_ (Nq t1)) (Vr (G4 (hrec c hc) (L0.has _ (.tail _ (.head _))).at_ (Nq t2)) (Fv (G4 (hrec c hc) (L0.has _ (.tail _ (.tail _ (.head _)))).at_ (Zit cs))))) c hc)
 have hP3:P3∈[P1,P2,P3]:=by exact .tail _ (.tail _ (.head _))
 refine Zg (Zv (WB (Zq ?_)))
 refine C1.lamT (clos:=IY L 0) G B 0 5 rfl hP3 hHP rfl rfl rfl (fd.hd _ (C1.st.X G)) rfl rfl rfl rfl (by decide) hcs r1 λf0 c0 cs0 pm0 ct0 s2 C2 l2 i0 m0 r2=>?_
 refine Zq (C2.lamT (clos:=IY L 1) G B 1 6 rfl hP3 hHP rfl rfl rfl (fd.hd _ (C2.st.X G)) rfl rfl rfl rfl (by decide) l2 r2 λf1 c1 cs1 pm1 ct1 s3 C3 l3 i1 m1 r3=>?_)
 refine Zq (C3.lamT (clos:=IY L 2) G B 2 7 rfl hP3 hHP rfl rfl rfl (fd.hd _ (C3.st.X G)) rfl rfl rfl rfl (by decide) l3 r3 λf2 c2 cs2 pm2 ct2 s4 C4 l4 i2 m2 r4=>?_)
 refine Zq (C4.lamT (clos:=IY L 3) G B 3 8 rfl hP3 hHP rfl rfl rfl (fd.hd _ (C4.st.X G)) rfl rfl rfl rfl (by decide) l4 r4 λf3 c3 cs3 pm3 ct3 s5 C5 l5 i3 m3 r5=>?_)
 refine Zq (C5.lamT (clos:=IY L 4) G B 4 9 rfl hP3 hHP rfl rfl rfl (fd.hd _ (C5.st.X G)) rfl rfl rfl rfl (by decide) l5 r5 λf4 c4 cs4 pm4 ct4 s6 C6 l6 i4 m4 r6=>?_)
 refine Zq (C6.lamT (clos:=IY L 5) G B 5 10 rfl hP3 hHP rfl rfl rfl (fd.hd _ (C6.st.X G)) rfl rfl rfl rfl (by decide) l6 r6 λf5 c5 cs5 pm5 ct5 s7 C7 l7 i5 m5 r7=>?_)
 have hl6:cs5.length=6:=l7.elim id id
 let q:FnQ:=λi=>match i with
  | 0=>(f0,pm0,c0,ct0)
  | 1=>(f1,pm1,c1,ct1)
  | 2=>(f2,pm2,c2,ct2)
  | 3=>(f3,pm3,c3,ct3)
  | 4=>(f4,pm4,c4,ct4)
  | _=>(f5,pm5,c5,ct5)
 have hq:∀ i,i<6->cs5[i]? = some (q i).2.2.1:=six (m5 _ _ (m4 _ _ (m3 _ _ (m2 _ _ (m1 _ _ i0))))) (m5 _ _ (m4 _ _ (m3 _ _ (m2 _ _ i1)))) (m5 _ _ (m4 _ _ (m3 _ _ i2))) (m5 _ _ (m4 _ _ i3)) (m5 _ _ i4) i5
 have C7':Cx H0 (A.deeper (tE b L cT)) (tE b L cT::l) [P1,P2,P3] s L (λuu=>none) (NK L q 5::NK L q 4::NK L q 3::NK L q 2::NK L q 1::NK L q 0::(Vs L xl yl mv tm++XQ P1 P2 P3 ps1 ps2 cs5 LS)) s7:=C7
 have CB:=C7'.rebase
 refine ZC ⟨H0,_,_,_,UL s7 L,L,_,_,CB,by rw [ZW]; show 6<=_; decide,λCL s8 C8 n8 n8'=>?_⟩
 have C8':Cx H0 (A.deeper (tE b L cT)) (tE b L cT::l) [] (UL s7 L) L (λuu=>none) ((CL,ZD (Zkm q))::NK L q 5::NK L q 4::NK L q 3::NK L q 2::NK L q 1::NK L q 0::(Vs L xl yl mv tm++XQ P1 P2 P3 ps1 ps2 cs5 LS)) s8:=C8
 clear_value q
 refine C8'.setE λs9 C9=>?_
 refine Zg (Zv (WB (ZC ⟨H0,_,_,_,UL s7 L,L,_,_,C9,Yt _,λTL s10 C10 n10 n10'=>?_⟩)))
 refine C10.setE λs11 C11=>?_
 refine Zg (Ie (C11.nameE (v:=.ref CL) rfl ?_))
 refine W8 ⟨_,C11.at 1 rfl,rfl,_,rfl⟩ ?_
 have hIT:s11.heap.get? s11.heap.objs.size=none:=XC
 have C12:=C11.push (WV CL 0) rfl Y5 rfl
 have C12u:=C7'.unbase C12
 have nTL:=(C7'.unbase C9).noE n10'
 have nIT:=(C7'.unbase C11).noE hIT
 generalize s11.heap.objs.size=IT at *
 have hL0:LS=LS++[]:=(W9 LS).symm
 have hcode:∀ i,i<6->(Shared.heap { s11 with heap:=s11.heap.push (WV CL 0) }).CodeRec (.ref (q i).2.2.1) tQ:=λi hi=>C12.code (Bj (r7 _ (ZG (hq i hi))) C7'.dictL) λh=>nomatch h
 have C13:Cx H0 (A.deeper (tE b L cT)) (tE b L cT::l) [P1,P2,P3] s L (Jh (Jh (λuu=>none) (Zj "calls") (.ref CL)) (Zj "told") (.ref TL)) (Ih L xl yl mv tm q P1 P2 P3 cs5 LS IT CL TL (WV CL 0) [] 0 ps1 ps2 []) { s11 with heap:=s11.heap.push (WV CL 0) }:=by
  delta Ih
  rw [W9]
  exact C12u
 refine SK G F F3 C13 rfl (Xu (.head _) (Wo (.tail _ (.head _)))) (Xu nIT (Wo nTL)) t1 t2 hcode hc6 hroom hh hu λm' acc ep q1 q2 LR io s14 C14 hm' ha ho hnl k1 k2 hcd=>?_
 refine Zg (Ym (C14.nameE hm' ?_))
 refine k TL acc ep q1 q2 cs5 LR s14 C14.go (λp hp=>?_) nTL.e hnl ?_ ha ho k1 k2 hl6 λc hc=>?_
 ·have sub:((TL,ZD acc ep)::XQ P1 P2 P3 q1 q2 cs5 (LS++LR)).Sublist (Ih L xl yl mv tm q P1 P2 P3 cs5 LS IT CL TL io acc ep q1 q2 LR) :=
   .cons _ (.cons₂ _ (.cons _ (.cons _ (.cons _ (.cons _ (.cons _ (.cons _ (.cons _ (.cons _ (.cons _ (.cons _ (Yq _))))))))))))
  exact C14.has p (sub.subset hp)
 ·have sub:((TL,ZD acc ep)::LR).Sublist (Ih L xl yl mv tm q P1 P2 P3 cs5 LS IT CL TL io acc ep q1 q2 LR):=.cons _ (.cons_cons _ (.cons _ (.cons _ (.cons _ (.cons _ (.cons _ (.cons _ (.cons _ (.cons _ (.cons _ (.cons _ (.cons _ (.cons _ (.cons _ (X0 _ _)))))))))))))))
  exact C14.nodup.sublist (sub.map _)
 ·refine zE (List.mem_iff_getElem?.mp hc) λi hi=>?_
  have hi6:i<6:=by exact hl6▸(Z5.mp hi).1
  have:=hq i hi6
  rw [hi] at this
  obtain rfl:=Zz this
  exact hcd i hi6
theorem Iu{h:Xx}{l:Zo}{vs:List Zh}{c:Nat}(e:h.get? l=some (ZD vs c)):h.IsList l vs.toArray:=⟨_,e,rfl,c,rfl⟩
structure Zla (s s':Zi):Prop where
 keep:∀ b o,s.heap.get? b=some o->s'.heap.get? b=some o
 toks:s.toks<=s'.toks
 gens:s'.gens=s.gens
 os:s'.os=s.os
theorem Zla.go{s s':Zi}(g:Zla s s')(H0:Xx)(M:List Zo):Go H0 M s s':=Go.ext g.keep g.toks g.gens g.os M
theorem IV.cons{v:Zh}{vs:List Zh}{n:Int}{ns:List Int}(h:IV (v::vs) (n::ns)):(∃ t,v = .int n t)/\IV vs ns:=by
 refine zE (h.at_ 0 n rfl) λt ht=>?_
 refine⟨⟨t,Zz ht⟩,by have:=h.len; simpa using this,λi x hx=>h.at_ (i+1) x hx⟩
theorem IV.are:∀ {vs:List Zh} {ns:List Int},IV vs ns->IntsAre vs ns
 | [],[],_=>.nil
 | [],_::_,h=>by have:=h.len; simp at this
 | _::_,[],h=>by have:=h.len; simp at this
 | v::vs,n::ns,h=>by refine zA h.cons λzq0 h'=>?_; obtain ⟨t,rfl⟩:=zq0; exact .cons n t h'.are
theorem Zbt{l:Zo}{vs:List Zh}{c:Nat}{ns:List Int}{Q:Za}(hl:s.heap.get? l=some (ZD vs c))(iv:IV vs ns)(hh:A.handled=none)
  (k:∀ s' t,Zla s s'->Q (.int ns.sum t) s'):Zp (model PW w) A (PySem.call (.builtin "sum") [.ref l]) Q E s:=by
 refine zE iv.are.allInts.items λxs hx=>?_
 refine PySem.wpAny_with_toks (n:=s.toks) (Z6 _) (sum_intListG hh (hx▸Iu hl) λh' tk t' hk htk=>?_)
 have e1:ns=xs.toList.map (λuu=>uu.1):=by
  rw [<- nums_intItems,<- hx]
  exact(show numsOf vs.toArray.toList=ns from iv.are.numsOf).symm
 have e2:preSum (numAt xs) xs.size=ns.sum:=by
  rw [preSum_eq,J8 (by exact Xw (YW ..)),e1]
 rw [e2]
 exact k { s with heap:=h',toks:=tk } t' ⟨hk,htk,rfl,rfl⟩
theorem Dz{prog:Program}{w:Um}{A:YE}{E:Za}{s:Zi}{a b:UInt64}{t u:W7}{Q:Bool->Zi->Prop}(hb:Uc s.heap)(ht:t≠0)(hu:u≠0)(hs:t=u\/a=b->WS a b=some .eq)(h:Q (WS a b==some .eq) s):Zp (model prog w) A (eqBool (.float a t) (.float b u)) Q E s:=by
 show Zp _ _ (if(J0 a t==J0 b u)=true then _ else _) Q E s
 by_cases hab:(J0 a t==J0 b u)=true
 ·rw [if_pos hab]
  have e:=eq_of_beq hab
  injection e with e1 e2
  refine Zf (Xm (Zm ?_))
  rw [hs (.inl e2)] at h; exact h
 ·rw [if_neg hab]
  refine Zf ?_
  show Zp _ _ (isSame.created (a==b && !Float64.isNaN a) t u) _ _ _
  refine IP hb ht hu λr hr=>?_
  cases r with
  | true=>
   refine YT rfl (Zm ?_)
   have:t=u\/a=b:=(hr rfl).imp id λq=>by simp at q; exact q.1
   rw [hs this] at h; exact h
  | false=>
   refine YR Zn ?_
   refine Zf (m:=richCompare .Eq _ _) (Yr (M:=model prog w) (show Zp (model prog w) A (richCompare .Eq (.float a t) (.float b u)) (λv s'=>v = .bool (WS a b==some .eq)/\s'=s) E s from AutoFloatOps.eq_0 (Q:=λv s'=>v = .bool (WS a b==some .eq)/\s'=s) ⟨rfl,rfl⟩) (λv s' hv=>?_) λuu uu z=>z)
   obtain ⟨rfl,rfl⟩:=hv; exact Zu h
theorem Kf{vs:List Zh}{j:Nat}(h:j<vs.toArray.size):vs[j]? = some vs.toArray[j]:=by
 rw [List.getElem_toArray]
 exact ZE _
theorem Zfa{n:Nat}:((List.range n).all λuu=>true)=true:=List.all_eq_true.mpr λuu uu=>rfl
theorem Zdl{D1 D2:Zo}{vs ws:List Zh}{c d:Nat}{Q:Za}(h1:s.heap.get? D1=some (ZD vs c))(h2:s.heap.get? D2=some (ZD ws d))(hlen:vs.length=ws.length)(hu:A.units<Vh)
  (he:∀ (j:Nat)(v u:Zh),vs[j]? = some v->ws[j]? = some u->Bw A.in1 s v u true)(h:Q (.bool true) s):Zp (model PW w) A (compareOp .Eq (.ref D1) (.ref D2)) Q E s:=by
 have:=SeqAt.RcAt.lists (A:=A) (s:=s) (e:=λuu=>true) (Iu h1) (Iu h2) (by simpa using hlen) hu λj a b=>he j _ _ (Kf a) (Kf b)
 refine this PW w E Q ?_
 exact ZR Zfa▸h
theorem VE{D1 D2:Zo}{vs ws:List Zh}{c d:Nat}{Q:Za}(h1:s.heap.get? D1=some (ZD vs c))(h2:s.heap.get? D2=some (ZD ws d))(hlen:vs.length=ws.length)(hu:A.units<Vh)
  (he:∀ (j:Nat)(v u:Zh),vs[j]? = some v->ws[j]? = some u->Bw A.in1 s v u true)(h:Q (.bool false) s):Zp (model PW w) A (compareOp .NotEq (.ref D1) (.ref D2)) Q E s:=by
 have:=SeqAt.RcNeAt.lists (A:=A) (s:=s) (e:=λuu=>true) (Iu h1) (Iu h2) (by simpa using hlen) hu λj a b=>he j _ _ (Kf a) (Kf b)
 refine this PW w E Q ?_
 exact ZR Zfa▸h
theorem IV.sub{vs:List Zh}{ns:List Int}(h:IV vs ns)(i:Nat):IV (vs.take i) (ns.take i)/\IV (vs.drop i) (ns.drop i):=by
 refine⟨⟨by simp [h.len],λj n hn=>?_⟩,⟨by simp [h.len],λj n hn=>?_⟩⟩
 ·rw [List.getElem?_take] at hn ⊢
  split at hn
  ·rename_i hj; exact(if_pos hj)▸h.at_ j n hn
  ·exact Wu hn
 ·rw [List.getElem?_drop] at hn ⊢
  exact h.at_ _ n hn
theorem Cx.sliceL(C:Cx H0 A l M sE L m led s){value slice:Vz}{a:Zo}{vs ws:List Zh}{c:Nat}{vl vu:Zh}{lo hi:Option Int}{Q:Za}(hl:s.heap.get? a=some (ZD vs c))(pl:IsPart vl lo)(pu:IsPart vu hi)(hw:slicePick vs.toArray lo hi none=ws.toArray)(hz:vs.length<=1000)
  (k:∀ D s',Cx H0 A l M sE L m ((D,ZD ws)::led) s'->Nw H0 sE D->s.toks<=s'.toks->Q (.ref D) s')
  (hs:subscripted slice false (.ref a) (.ref s.heap.objs.size)=operate [.ref s.heap.objs.size,.ref a] (getItem (.ref a) (.ref s.heap.objs.size)):=by with_unfolding_all rfl)
  (ht:∀ r,letTemporaryGo value (.ref a) r=pure ():=by intro _; with_unfolding_all rfl) :
  Zp (model PW w) A (subscriptTail value slice (.ref a) (.ref s.heap.objs.size)) Q E { s with heap:=s.heap.push { cls:=.type "slice",data:=.fields #[vl,vu,.none] } }:=by
 refine slice_listK (Iu hl) pl pu ?_ hs ht (by rw [ZJ,ZW]; exact Nat.le_add_left_of_le (by assumption))
 rw [hw]
 have C3:Cx H0 A l M sE L m ((s.heap.objs.size+1,ZD ws)::led) { s with heap:=(s.heap.push { cls:=.type "slice",data:=.fields #[vl,vu,.none] }).push (ZD ws) }:=by
  have e:(s.heap.push { cls:=.type "slice",data:=.fields #[vl,vu,.none] }).objs.size=s.heap.objs.size+1:=Xq ..
  have:=((C.push (s:=s) { cls:=.type "slice",data:=.fields #[vl,vu,.none] } rfl Y5 rfl).push (ZD ws) rfl Xe rfl).drop ((((s.heap.push { cls:=.type "slice",data:=.fields #[vl,vu,.none] }).objs.size,ZD ws))::led) (.cons_cons _ (.cons _ (Yq _)))
  rw [e] at this
  exact this
 exact k _ _ C3 (C.noE (Je (Wb _))) (Z6 _)
noncomputable abbrev slc(nm:Yz)(l u:Option Int):Yz:=⟨((Wc l u 1 nm.length).filterMap (nm.cps[·]?)).toArray⟩
noncomputable def Fg(i:Nat):Yz:=if i=0 then Zj "linear" else Zj "ranked"
noncomputable def chS(c:Nat):Yz:=⟨#[97+c]⟩
noncomputable def atS(nm:Yz)(p:Nat):Yz:=⟨#[nm.cps.getD p 0]⟩
noncomputable def TY(nm:Yz)(p c:Nat):Yz:=if((chS c).cps.toList != (atS nm p).cps.toList)=true then chS c else Zj ""
theorem Zdi(nm:Yz)(p c:Nat):(TY nm p c).length<=1:=by
 delta TY
 split
 ·exact Z6 1
 ·exact Zl (show(Zj "").length<=0 by decide +kernel) (Yt 1)
noncomputable def II(i p c:Nat):Yz:=(slc (Fg i) none (some (p:Int))++TY (Fg i) p c)++slc (Fg i) (some ((p:Int)+1)) none
structure Hr (x:Yz):Prop where
 n1:x≠"linear"
 n2:x≠"ranked"
 r1:(reprText x).length<=100
 r2:(Uo x).length<=200
 eq:(Zj "ValueError: Unknown method: '"++x)++Zj "'"=V2 (Uo x)
 len:x.length<=100
noncomputable def lowB(x:Yz):Bool:=x.cps.toList.all (λc=>Nat.ble 97 c&&Nat.ble c 122)&&Nat.ble x.cps.toList.length 12 && !(x.cps.toList==(Zj "linear").cps.toList) && !(x.cps.toList==(Zj "ranked").cps.toList)
theorem Zgr:((List.range 2).all λi=>(List.range 6).all λp=>(List.range 26).all λc=>lowB (II i p c))=true:=by decide +kernel
theorem Zjk{a b:Yz}(h:a.cps.toList=b.cps.toList):a=b:=by
 cases a; cases b
 congr 1
 exact Array.toList_inj.mp h
theorem Nv:((List.range 26).all λi=>Builtin.Str.reprChar 39 (97+i)==[97+i])=true:=by decide +kernel
theorem T4{c:Nat}(h1:97<=c)(h2:c<=122):Builtin.Str.reprChar 39 c = [c]:=by
 have h:=Nv
 simp only [List.all_eq_true,List.mem_range] at h
 have:=h (c-97) (by omega)
 rw [show 97+(c-97)=c by grind] at this
 exact eq_of_beq this
theorem Oq:∀ (l:List Nat) (acc:Array Nat),(∀ c∈l,97<=c/\c<=122)->l.foldl (λout c=>out++(Builtin.Str.reprChar 39 c).toArray) acc=acc++l.toArray
 | [],acc,_=>by exact rfl
 | c::r,acc,h=>by
  rw [List.foldl_cons,Oq r _ λd hd=>h d (.tail _ hd),T4 (h c (.head _)).1 (h c (.head _)).2]
  simp
theorem Zab{x:Yz}(h:∀ c∈x.cps.toList,97<=c/\c<=122):reprQuote x=39:=by
 delta reprQuote
 have:x.cps.contains 39=false:=by
  rw [<- Bool.not_eq_true,Array.contains_iff_mem]
  intro hm
  have:=h 39 (Array.mem_toList_iff.mpr hm)
  lia
 rw [this]; rfl
theorem Zck{x:Yz}(h:∀ c∈x.cps.toList,97<=c/\c<=122):reprText x=⟨#[39]++x.cps ++ #[39]⟩:=by
 delta reprText
 rw [Zab h,<- Array.foldl_toList,Oq _ _ h]
 simp
theorem DF(a b:Yz):(a++b).cps=a.cps++b.cps:=rfl
theorem Zgo{i p c:Nat}(hi:i<2)(hp:p<6)(hc:c<26):Hr (II i p c):=by
 have h:=Zgr
 simp only [List.all_eq_true,List.mem_range] at h
 have h:=h i hi p hp c hc
 unfold lowB at h
 generalize II i p c=x at *
 simp only [Bool.and_eq_true,Bool.not_eq_true',List.all_eq_true,Nat.ble_eq] at h
 refine zA h λzq0 a4=>?_; obtain ⟨⟨a1,a2⟩,a3⟩:=zq0
 have hr:=Zck a1
 have hxl:x.length<=12:=a2
 refine⟨λe=>?_,λe=>?_,?_,?_,?_,by exact Nat.le_add_left_of_le (by assumption)⟩
 ·rw [e] at a3; exact absurd a3 (by decide +kernel)
 ·rw [e] at a4; exact absurd a4 (by decide +kernel)
 ·rw [hr]
  show(#[39]++x.cps ++ #[39]).size<=100
  have:x.cps.size<=12:=hxl
  simp; lia
 ·delta Uo
  rw [hr]
  show(Str.empty.cps++(Zj "Unknown method: ").cps++(#[39]++x.cps ++ #[39])).size<=200
  have:x.cps.size<=12:=hxl
  have e1:(Zj "Unknown method: ").cps.size=16:=by decide +kernel
  have e2:Str.empty.cps.size=0:=rfl
  simp only [Array.size_append,e1,e2]
  simp; lia
 ·refine Zjk ?_
  delta V2 Uo
  rw [hr]
  have e1:(Zj "ValueError: Unknown method: '").cps.toList=(Zj "ValueError: ").cps.toList++(Zj "Unknown method: ").cps.toList++[39]:=by decide +kernel
  have e2:(Zj "'").cps.toList = [39]:=by decide +kernel
  have e3:Str.empty.cps.toList = []:=rfl
  simp only [DF,YX,e1,e2,e3]
  simp
end
variable {lf:Zo}{cd:Zh}
section
open PySem PySem.W PySem.Calls PyProof.Rows PySem.Spec
structure SzP (nm:Yz)(p:Nat):Prop where
 a:((Wc none (some (p:Int)) 1 nm.length).length==nm.length)=false
 b:((Wc (some ((p:Int)+1)) none 1 nm.length).length==nm.length)=false
 la:(slc nm none (some (p:Int))).length<=6
 lb:(slc nm (some ((p:Int)+1)) none).length<=6
 at_:(seqIndex? (p:Int) nm.length).bind (nm.cps[·]?)=some (nm.cps.getD p 0)
theorem Zji:∀ i∈[0,1],∀ p∈[0,1,2,3,4,5],((Wc none (some ((p:Nat):Int)) 1 (Fg i).length).length==(Fg i).length)=false/\((Wc (some ((p:Int)+1)) none 1 (Fg i).length).length==(Fg i).length)=false/\(slc (Fg i) none (some (p:Int))).length<=6/\(slc (Fg i) (some ((p:Int)+1)) none).length<=6/\(seqIndex? (p:Int) (Fg i).length).bind ((Fg i).cps[·]?)=some ((Fg i).cps.getD p 0):=by decide +kernel
theorem sz_p{i p:Nat}(hi:i<2)(hp:p<6):SzP (Fg i) p:=by
 refine Zlc (Zji i (by simp only [Z7,Wf,or_false]; lia) p (by simp only [Z7,Wf,or_false]; lia)) λa b c d e=>?_
 exact⟨a,b,c,d,e⟩
theorem Tt{nm:Yz}{t:W7}{l u:Option (Int×W7)}{s:Zi}{Q:Za}(h:((Wc (l.map (λuu=>uu.1)) (u.map (λuu=>uu.1)) 1 nm.length).length==nm.length)=false)(hl:(slc nm (l.map (λuu=>uu.1)) (u.map (λuu=>uu.1))).length<=6)
  (k:Q (.str (slc nm (l.map (λuu=>uu.1)) (u.map (λuu=>uu.1))) s.toks) (tk s 1)):(sliceMade nm t l u none).post Q s:=by
 delta sliceMade
 have hc:(((Option.map (λuu=>uu.1) (none:Option (Int×W7))).getD 1==1)&&((slicePicked nm l u none).length==nm.length))=false:=by
  show(true&&((Wc (l.map (λuu=>uu.1)) (u.map (λuu=>uu.1)) 1 nm.length).length==nm.length))=false
  rw [h]; rfl
 rw [if_neg (by rw [hc]; decide)]
 exact⟨Zl hl (by decide),k⟩
theorem Cx.pushF{H0:Xx}{A:YE}{l:List V0}{M:List Zo}{sE:Zi}{L:Zo}{m:Ze}{led:Zd}{s:Zi}(C:Cx H0 A l M sE L m led s)(o:Xl):Cx H0 A l M sE L m led { s with heap:=s.heap.push o } :=
 C.ext (λb o e=>Z0 _ e) (Z6 _) rfl rfl
noncomputable abbrev wE(L lf:Zo)(cd:Zh):V0:=Y0 "law" JR.2.2 L lf cd
theorem Cx.midE(C:Cx H0 (A.deeper (wE L lf cd)) (wE L lf cd::l) M sE L m led s){nm:Yz}{p c:Nat}{tn tp ts:W7}{p1 p2 p3 p4 p5 p6 p7 p8:V7}{k0:Nat}(hs:m "sign"=some (.str (chS c) ts))(hn:m "name"=some (.str nm tn))(hp:m "place"=some (.int (p:Int) tp))(SZ:SzP nm p)(hp6:p<6){Q:Za}{E:Za}
  (k:∀ tx s',Cx H0 (A.deeper (wE L lf cd)) (wE L lf cd::l) M sE L m led s'->Q (.str (TY nm p c) tx) s') :
  Zp (model PW w) (A.deeper (wE L lf cd)) (eval (.IfExp (.Compare (.Name "sign" p1) [.NotEq] [.Subscript (.Name "name" p2) (.Name "place" p3) p4] p5) (.Name "sign" p6) (.Constant (.str "") k0 p7) p8) (wE L lf cd)) Q E s:=by
 refine wpAny_IfExp (Z8 (C.nameE hs (Wd (C.nameE hn (C.nameE hp ?_)))))
 refine subscriptTail_builtin (typeIs_str _ _ _) slot_str_getitem.lookup (PySem.P.getItem_str (by simp; lia) SZ.at_ ?_)
 refine PySem.P.ne_str (Zu ?_)
 by_cases hne:((chS c).cps.toList != (atS nm p).cps.toList)=true
 ·have hm:TY nm p c=chS c:=if_pos hne
  rw [show((chS c).cps.toList != ({ cps:=#[nm.cps.getD p 0] }:Yz).cps.toList)=true from hne,if_pos rfl]
  refine(C.tok 1).nameE hs ?_
  rw [<- hm]
  exact k ts _ (C.tok 1)
 ·have hm:TY nm p c=Zj "":=if_neg hne
  rw [show((chS c).cps.toList != ({ cps:=#[nm.cps.getD p 0] }:Yz).cps.toList)=false from eq_false_of_ne_true hne,if_neg Zn]
  refine Yi ?_
  have:=k (tk s 1).toks _ (C.tok 2)
  rw [hm] at this
  exact this
theorem Zdq(G:Gl K H0 mg mb)(F:KG K b)(C:Cx H0 (A.deeper (wE L lf cd)) (wE L lf cd::l) M sE L m led s){sl:Zo}{vs:List Zh}{c0 j:Nat}{ns:List Int}(hm:m "script"=some (.ref sl))(hj:led[j]? = some (sl,ZD vs c0))(iv:IV vs ns)(hh:A.handled=none){Q:Zb}{E:Za}
  (k:∀ m' tT tm tu mth s',Cx H0 (A.deeper (wE L lf cd)) (wE L lf cd::l) M sE L m' led s'->Hr mth->m' "script"=some (.ref sl)->m' "total"=some (.int ns.sum tT)->m' "method"=some (.str mth tm)->m' "unknown"=some (.str (V2 (Uo mth)) tu) ->
   Zp (model PW w) (A.deeper (wE L lf cd)) (execs (JR.2.1.drop 6) (wE L lf cd)) Q E s') :
  Zp (model PW w) (A.deeper (wE L lf cd)) (execs JR.2.1 (wE L lf cd)) Q E s:=by
 refine Zg (Zv (Xj (C.bootE G F.nsum Boot.«sum» (Zs (Zq (C.nameE hm (ZC (Zbt (C.at j hj) iv hh λs1 tT g1=>?_))))))))
 refine(C.call (g1.go H0 [])).setE λs2 C2=>?_
 generalize ns.sum=T at *
 have q0:=JG T (show(0:Int)<2 by decide)
 have q1:=Int.fmod_lt_of_pos T (show(0:Int)<2 by decide)
 have p1:=Int.fmod_lt_of_pos (T.fdiv 2) (show(0:Int)<6 by decide)
 have c1:=Int.fmod_lt_of_pos (T.fdiv 12) (show(0:Int)<26 by decide)
 refine zE (WM q0) λi ei=>?_
 refine zE (WM (JG (T.fdiv 2) (show(0:Int)<6 by decide))) λp ep=>?_
 refine zE (WM (JG (T.fdiv 12) (show(0:Int)<26 by decide))) λc ec=>?_
 have hi:i<2:=by lia
 have hp:p<6:=by omega
 have hc:c<26:=by omega
 have SZ:=sz_p hi hp
 refine Zg (Zv (Wd (WB (Zq (Yi (Zq (Yi (ZC ⟨H0,_,_,_,sE,L,_,_,C2.tok 2,by rw [ZW]; show 2<=_; decide,λD s3 C3 n3 n3'=>?_⟩))))))))
 refine ZH (C3.nameE (v:=.int T tT) rfl (Zt (J5 (by decide) ?_)))
 have C4:=C3.tok 2
 obtain ⟨tn,htn⟩:∃ tn,([.str (Zj "linear") s2.toks,.str (Zj "ranked") (tk s2 1).toks]:List Zh)[(T.fmod 2).toNat]? = some (.str (Fg i) tn):=by
  rw [ei,XM]
  have:i=0\/i=1:=by lia
  rcases this with rfl | rfl
  ·exact⟨_,rfl⟩
  ·exact⟨_,rfl⟩
 refine subscriptTail_builtinR (Iu (C4.at 0 rfl)).typeIs slot_list_getitem.lookup (wpAny_getItem_list (Iu (C4.at 0 rfl)) q0 (by lia) (by simpa using htn) ⟨rfl,?_⟩)
 have C5:=C4.drop led (.cons _ (Yq _))
 refine C5.setE λs6 C6=>?_
 refine Zg (Zv (ZH (ZH (C6.nameE (v:=.int T tT) rfl (Zt (PyProof.Rows.floordiv_int (by decide) (Zt (J5 (by decide) ?_))))))))
 rw [ep]
 refine(C6.tok 4).setE λs7 C7=>?_
 refine Zg (Zv (Xj (C7.bootE G F.nchr PyProof.Rows.bootS_chr (Zs (Zq ?_)))))
 refine ZH (Zt (ZH (ZH ((C7.tok 1).nameE (v:=.int T tT) rfl (Zt (PyProof.Rows.floordiv_int (by decide) (Zt (J5 (by decide) (PySem.P.add_int (ZC ?_))))))))))
 refine PyProof.Rows.chr_of_range (by lia) (by lia) ?_
 have ech:(⟨#[(97+(T.fdiv 12).fmod 26).toNat]⟩:Yz)=chS c:=by
  rw [ec,show(97+(c:Int)).toNat=97+c by exact rfl]; rfl
 rw [ech]
 refine(C7.tok 7).setE λs8 C8=>?_
 refine Zg (Zv (ZH (ZH (Wd (C8.nameE (v:=.str (Fg i) tn) rfl (wpAny_Slice ?_))))))
 refine Zm ?_
 show Zp _ _ (eval _ _) _ _ _
 refine C8.nameE (v:=.int (p:Int) _) rfl (Zm ?_)
 refine subscriptTail_builtin (typeIs_str _ _ _) slot_str_getitem.lookup (wpAny_getItem_str_slice (l:=none) (u:=some ((p:Int),_)) (st:=none) ⟨_,ZK _ rfl,rfl,rfl⟩ rfl ?_)
 refine Tt (l:=none) (u:=some ((p:Int),_)) SZ.a SZ.la ?_
 refine((C8.pushF _).tok 1).midE (c:=c) (p:=p) (nm:=Fg i) rfl rfl rfl SZ hp λtx s10 C10=>?_
 have hml:=Zdi (Fg i) p c
 refine PySem.wpAny_with_toks (n:=s10.toks) (Z6 _) (W2 (λt' tk' ht=>?_) (Zl (Wt SZ.la hml) (by decide)))
 have C11:=C10.toTok ht
 refine Wd (C11.nameE (v:=.str (Fg i) tn) rfl (wpAny_Slice ?_))
 refine ZH (C11.nameE (v:=.int (p:Int) _) rfl (Zt (PySem.P.add_int ?_)))
 have C12:=C11.tok 2
 refine Zm ?_
 refine Zm ?_
 refine subscriptTail_builtin (typeIs_str _ _ _) slot_str_getitem.lookup (wpAny_getItem_str_slice (l:=some ((p:Int)+1,_)) (u:=none) (st:=none) ⟨_,ZK _ rfl,rfl,rfl⟩ rfl ?_)
 refine Tt (l:=some ((p:Int)+1,_)) (u:=none) SZ.b SZ.lb ?_
 have hl7:(slc (Fg i) none (some (p:Int))++TY (Fg i) p c).length<=7:=by
  show((slc (Fg i) none (some (p:Int))).cps++(TY (Fg i) p c).cps).size<=7
  exact Array.size_append▸Wt SZ.la hml
 refine PySem.wpAny_with_toks (n:=_) (Z6 _) (W2 (λt2 tk2 ht2=>?_) (Zl (Wt hl7 SZ.lb) (by decide)))
 have MK:=Zgo hi hp hc
 refine(((C12.pushF _).tok 1).toTok ht2).setE λs14 C14=>?_
 refine Zg (Zv (ZH (ZH (Yi ((C14.tok 1).nameE (v:=.str (II i p c) t2) rfl ?_)))))
 refine PySem.wpAny_with_toks (n:=_) (Z6 _) (W2 (λt3 tk3 ht3=>?_) (Zl (Wt (show _<=30 by decide +kernel) MK.len) (by decide)))
 refine Yi ?_
 refine PySem.wpAny_with_toks (n:=_) (Z6 _) (W2 (λt4 tk4 ht4=>?_) ?_)
 ·rw [show Zj "ValueError: Unknown method: '"++II i p c++Zj "'"=V2 (Uo (II i p c)) from MK.eq]
  refine(((((C14.tok 1).toTok ht3).tok 1)).toTok ht4).setE λs15 C15=>?_
  exact k _ _ _ _ _ s15 C15 MK (WG (by decide) (WG (by decide) (WG (by decide) (WG (by decide) (WG (by decide) (WG (by decide) hm)))))) rfl rfl rfl
 ·have e:(Zj "ValueError: Unknown method: '"++II i p c).length<=130:=by
   show((Zj "ValueError: Unknown method: '").cps++(II i p c).cps).size<=130
   exact Array.size_append▸Wt (show _<=30 by decide +kernel) MK.len
  exact Zl (Wt e (show _<=1 by decide +kernel)) (by decide)
theorem Cx.newL(C:Cx H0 A l M sE L m led s)(vs:List Zh)(c:Nat:=0):Cx H0 A l M sE L m ((s.heap.objs.size,ZD vs c)::led) { s with heap:=s.heap.push (ZD vs c) }:=C.push _ rfl Xe rfl
theorem Cx.addL(C:Cx H0 A l M sE L m led s){a b:Zo}{vs ws:List Zh}{c d:Nat}{Q:Za}(hl:s.heap.get? a=some (ZD vs c))(hb:s.heap.get? b=some (ZD ws d))(hsz:vs.length+ws.length<=1000)
  (k:∀ D s',Cx H0 A l M sE L m ((D,ZD (vs++ws))::led) s'->Nw H0 sE D->s.heap.get? D=none->Q (.ref D) s'):Zp (model PW w) A (JY .Add (.ref a) (.ref b)) Q E s:=by
 have e:vs.toArray++ws.toArray=(vs++ws).toArray:=by exact List.append_toArray ..
 refine concat_meets ⟨_,hl,rfl⟩ ⟨_,hb,rfl⟩ noFill_list_add seq_list_add PySem.F.slot_list_add PySem.F.entry_list_add (PySem.F.args_list_add_2 _ _) (list_addW a b vs.toArray ws.toArray c d none none #[] #[] (by simp only [ZJ]; exact Zl hsz (by decide))) ⟨hl,hb,?_⟩
 rw [e]
 exact k _ _ (C.newL (vs++ws)) (C.noE XC) XC
theorem Cx.mulL(C:Cx H0 A l M sE L m led s){a:Zo}{v:Zh}{n:Nat}{x:Int}{u:W7}{Q:Za}(hl:s.heap.get? a=some (ZD [v]))(hx:x=(n:Int))(hn:n<=1000)
  (k:∀ D s',Cx H0 A l M sE L m ((D,ZD (ZM n v))::led) s'->Nw H0 sE D->s.heap.get? D=none->Q (.ref D) s'):Zp (model PW w) A (JY .Mult (.ref a) (.int x u)) Q E s :=
 FI hl hx hn (k _ _ (C.newL _) (C.noE XC) XC)
structure SV (vs:List Zh)(xs:List Yz):Prop where
 len:vs.length=xs.length
 at_:∀ (i:Nat) x,xs[i]? = some x->∃ t,vs[i]? = some (.str x t)
theorem SV.nil:SV [] []:=⟨rfl,λi x h=>by exact Wu h⟩
theorem SV.snoc{vs:List Zh}{xs:List Yz}(h:SV vs xs)(x:Yz)(t:W7):SV (vs++[.str x t]) (xs++[x]):=by
 refine⟨by simp [h.len],λi y hy=>?_⟩
 by_cases hi:i<xs.length
 ·rw [YK hi] at hy
  rw [YK (by exact h.len▸hi)]
  exact h.at_ i y hy
 ·rw [Yd (Xp.mp hi)] at hy
  have e0:i-xs.length=0:=by have:=(Z5.mp hy).1; simp at this; omega
  rw [e0] at hy
  rw [Yd (by exact h.len▸Xp.mp hi),h.len,e0]
  obtain rfl:=Zz hy
  exact⟨t,rfl⟩
theorem SV.get{vs:List Zh}{xs:List Yz}(h:SV vs xs){i:Nat}{v:Zh}(hv:vs[i]? = some v):∃ x t,xs[i]? = some x/\v = .str x t:=by
 have hi:=(Z5.mp hv).1
 have hx:xs[i]? = some (xs[i]'(by exact h.len▸hi)):=ZE _
 refine zE (h.at_ i _ hx) λt ht=>?_
 rw [hv] at ht
 exact⟨_,t,hx,Zz ht⟩
noncomputable def NJ:List Yz:=[Zj "covariance",Zj "correlation",Zj "correlation",Zj "correlation",Zj "linear regression",Zj "linear regression"]
noncomputable def GZ(tail:Yz):List Yz:=NJ.map λx=>Zj "StatisticsError: "++x++tail
noncomputable def Be:Yz:=Zj " requires that both inputs have same number of data points"
noncomputable def Bg:Yz:=Zj " requires at least two data points"
theorem Cx.wordComp(C:Cx H0 A l M sE L m led s){xi x y pre tl0:Yz}{py spos:V7}{p1 p2 p3 p4 p5 px pi pos:V7}{k1 k2:Nat}{scope:US}{cl:List (Yz×Zo)}{a:Zo}{vals:List Zh}{xs:List Yz}{ep:Nat}{Q:Zb}(j:Nat)
  (hx:m x=some (.ref a))(hl:led[j]? = some (a,ZD vals ep))(hv:SV vals xs)(hlen:xs.length<=1000)(h1:pre.length<=100)(h2:∀ x∈xs,x.length<=100)(h3:tl0.length<=100)(hh:A.handled=none)
  (k:∀ D acc c' s',Cx H0 A l M sE L (Jh m y (.ref D)) ((D,ZD acc c')::led) s'->SV acc (xs.map λx=>pre++x++tl0)->Nw H0 sE D->Q .next s')
  (hsw:swapsWith (.ListComp (.BinOp (.BinOp (.Constant (.str pre) k1 p1) .Add (.Name xi p2) p3) .Add (.Constant (.str tl0) k2 p4) p5) [⟨.Name xi px,.Name x pi,[],0⟩] scope pos) (some (.Name y py)) spos.line env=pure true:=by rfl)(hky:env.kindOf y=some .local:=by rfl)(hL:env.locals=L:=by rfl)(hk:env.scope.kind = .function:=by rfl)(hkx:env.kindOf x=some .local:=by rfl)(hdx:(x==("__debug__" : Yz))=false:=by decide)
  (hclos:JU scope env=pure cl:=by rfl)(hcell:∀ y∈scope.names,y.2 ≠ .cell:=by decide)(hkind:scope.kind = .function:=by rfl)(hnames:∀ y∈scope.names,y.2 = .local->scope.names.lookup y.1=some .local:=by decide)(hxi:scope.names.lookup xi=some .local:=by rfl)
  (hdi:(xi==("__debug__" : Yz))=false:=by decide)(hki:∀ C,(Jl scope cl C env).kindOf xi=some .local:=by intro _; rfl) :
  Zp (model PW w) A (exec (.Assign [.Name y py] (.ListComp (.BinOp (.BinOp (.Constant (.str pre) k1 p1) .Add (.Name xi p2) p3) .Add (.Constant (.str tl0) k2 p4) p5) [⟨.Name xi px,.Name x pi,[],0⟩] scope pos) spos) env) Q E s:=by
 refine Cx.listCompA (led:=led) (P:=λi acc uu=>SV acc ((xs.take i).map λx=>pre++x++tl0)) hsw hh hclos hcell hkind hnames hxi (λuu uu uu uu h uu=>h) hL hky (by rw [hk]; rfl) (C.nameE hx ⟨a,vals,ep,j,rfl,by exact hv.len▸hlen,hl,C,SV.nil,λI D C1=>?_,λD acc c' s' C' h n=>k D acc c' s' C' (by rw [hv.len,Vi] at h; exact h) n⟩ hL hk hkx hdx)
 ·intro i' v acc c1 mC s1 E' hvi hP hm C2
  rw [List.forIn_nil]
  refine Zm (YV rfl ?_)
  refine G7 (hv.get hvi) λz t hz zr=>?_; obtain rfl:=zr
  have hzl:=h2 z (ZG hz)
  refine ZH (ZH (Yi ((C2.tok 1).nameE (env:=Jl scope cl C1 env) (v:=.str z t) hm ?_ rfl hkind (hki C1) hdi)))
  refine PySem.wpAny_with_toks (n:=_) (Z6 _) (W2 (λt2 tk2 ht2=>?_) (Zl (Wt h1 hzl) (by decide)))
  refine Yi ?_
  have hl2:(pre++z).length<=200:=by
   show(pre.cps++z.cps).size<=200
   exact Array.size_append▸Wt h1 hzl
  refine PySem.wpAny_with_toks (n:=_) (Z6 _) (W2 (λt4 tk4 ht4=>?_) (Zl (Wt hl2 h3) (by decide)))
  refine⟨(((C2.tok 1).toTok ht2).tok 1).toTok ht4,?_⟩
  show SV _ ((xs.take (i'+1)).map λx=>pre++x++tl0)
  rw [Bb hz,WZ]
  exact hP.snoc _ _
theorem Zan(C:Cx H0 (A.deeper (wE L lf cd)) (wE L lf cd::l) M sE L m led s)(hh:A.handled=none){Q:Zb}{E:Za}
  (k:∀ m' D1 D2 u1 u2 c1 c2 s',Cx H0 (A.deeper (wE L lf cd)) (wE L lf cd::l) M sE L m' ((D2,ZD u2 c2)::(D1,ZD u1 c1)::led) s'->SV u1 (GZ Be)->SV u2 (GZ Bg)->Nw H0 sE D1->Nw H0 sE D2->m' "unlike"=some (.ref D1)->m' "few"=some (.ref D2)->(∀ x:Yz,x≠"names"->x≠"unlike"->x≠"few"->m' x=m x) ->
   Zp (model PW w) (A.deeper (wE L lf cd)) (execs (JR.2.1.drop 9) (wE L lf cd)) Q E s') :
  Zp (model PW w) (A.deeper (wE L lf cd)) (execs (JR.2.1.drop 6) (wE L lf cd)) Q E s:=by
 have hh':(A.deeper (wE L lf cd)).handled=none:=hh
 refine Zg (Zv (ZH (ZH ?_)))
 refine WB (Zq (Yi (ZC ⟨H0,_,_,_,sE,L,_,_,C.tok 1,by rw [ZW]; show 1<=_; decide,λDa s1 C1 n1 n1'=>?_⟩)))
 refine ZH (WB (Zq (Yi (ZC ⟨H0,_,_,_,sE,L,_,_,C1.tok 1,by rw [ZW]; show 1<=_; decide,λDb s2 C2 n2 n2'=>?_⟩))))
 refine Zt ((C2.tok 1).mulL (n:=3) ((C2.tok 1).at 0 rfl) rfl (by decide) λDc s3 C3 n3 n3'=>?_)
 refine C3.addL (C3.at 2 rfl) (C3.at 0 rfl) (by exact Wk rfl) λDd s4 C4 n4 n4'=>?_
 refine ZH (WB (Zq (Yi (ZC ⟨H0,_,_,_,sE,L,_,_,C4.tok 1,by rw [ZW]; show 1<=_; decide,λDe s5 C5 n5 n5'=>?_⟩))))
 refine Zt ((C5.tok 1).mulL (n:=2) ((C5.tok 1).at 0 rfl) rfl (by decide) λDf s6 C6 n6 n6'=>?_)
 refine C6.addL (C6.at 2 rfl) (C6.at 0 rfl) (by exact Wk rfl) λDg s7 C7 n7 n7'=>?_
 have C8:=C7.drop ((Dg,_)::led) (.cons_cons _ (.cons _ (.cons _ (.cons _ (.cons _ (.cons _ (.cons _ (Yq _))))))))
 have hv:SV ([.str (Zj "covariance") s.toks]++ZM 3 (.str (Zj "correlation") s1.toks)++ZM 2 (.str (Zj "linear regression") s4.toks)) NJ :=
  ⟨rfl,λi x h=>by
   match i,h with
   | 0,h=>obtain rfl:=Zz h; exact⟨_,rfl⟩
   | 1,h=>obtain rfl:=Zz h; exact⟨_,rfl⟩
   | 2,h=>obtain rfl:=Zz h; exact⟨_,rfl⟩
   | 3,h=>obtain rfl:=Zz h; exact⟨_,rfl⟩
   | 4,h=>obtain rfl:=Zz h; exact⟨_,rfl⟩
   | 5,h=>obtain rfl:=Zz h; exact⟨_,rfl⟩
   | n+6,h=>exact Wu h⟩
 generalize [Value.str (Zj "covariance") s.toks]++ZM 3 (.str (Zj "correlation") s1.toks)++ZM 2 (.str (Zj "linear regression") s4.toks)=vn at *
 refine C8.setE λs9 C9=>?_
 have hsz:∀ x∈NJ,x.length<=100:=by decide +kernel
 refine Zg (C9.wordComp (pre:=Zj "StatisticsError: ") (tl0:=Be) 0 rfl rfl hv (by decide) (by decide +kernel) hsz (by decide +kernel) hh' λD1 u1 e1 s10 C10 v1 w1=>?_)
 refine Zg (C10.wordComp (pre:=Zj "StatisticsError: ") (tl0:=Bg) 1 rfl rfl hv (by decide) (by decide +kernel) hsz (by decide +kernel) hh' λD2 u2 e2 s11 C11 v2 w2=>?_)
 have C12:=C11.drop ((D2,ZD u2 e2)::(D1,ZD u1 e1)::led) (.cons_cons _ (.cons_cons _ (.cons _ (Yq _))))
 exact k _ D1 D2 u1 u2 e1 e2 s11 C12 v1 v2 w1 w2 rfl rfl λx h1 h2 h3=>(if_neg h3).trans ((if_neg h2).trans (if_neg h1))
theorem Ov{A:YE}{s:Zi}(x:Yz)(t u:W7):Bw A s (.str x t) (.str x u) true:=by
 have:=SeqAt.EqAt.str_str (A:=A) (s:=s) x t x u
 rwa [beq_self_eq_true] at this
section
variable {R':Zd}
theorem GK(G:Gl K H0 mg mb)(B:Bm H0 mg)(F:KG K b){sm cT:Zo}(F3:K3 K b sm)(fd:OE K b.told "_law_told" Gd .none .none cT P3)(hHP:H0.get? P3=none){cs:List Zo}{outs:Nat->Hq}
  (C:Cx H0 (A.deeper (wE L lf cd)) (wE L lf cd::l) M sE L m led s)(hp:led.Perm (XQ P1 P2 P3 ps1 ps2 cs LS++R'))(hM:∀ p∈[P1,P2,P3],p∈M)(t1:YQ ps1.toList)(t2:YQ ps2.toList)(hcs:cs.length=0\/cs.length=6)(hrec:∀ c∈cs,s.heap.CodeRec (.ref c) tQ)
  (hc6:I8 w H0 b P1 P2 LS xl yl mv tm outs (A.depth+3))(hroom:A.depth+2<Zr)(hh:A.handled=none)(hu:A.units+24<Vh){x0:Yz}{v0:Zh}(hm0:m x0=some v0){Q:Za}{E:Za}
  (k:∀ TL acc ep q1 q2 cs' LR s',Cx H0 (A.deeper (wE L lf cd)) (wE L lf cd::l) M sE L m ((TL,ZD acc ep)::(LR++(XQ P1 P2 P3 q1 q2 cs' LS++R'))) s'->acc.length=6->NZ b.lr outs LR acc->YQ q1.toList->YQ q2.toList->cs'.length=6->(∀ c∈cs',s'.heap.CodeRec (.ref c) tQ)->Nw H0 sE TL->Q (.ref TL) s') :
  Zp (model PW w) (A.deeper (wE L lf cd)) (call (.ref b.told) [.ref xl,.ref yl,.str mv tm]) Q E s:=by
 have C1:=C.perm hp.symm
 have sub:(XQ P1 P2 P3 ps1 ps2 cs LS).Sublist (XQ P1 P2 P3 ps1 ps2 cs LS++R'):=List.sublist_append_left _ _
 refine Y7 (SJ G B F F3 fd hHP C1.st ⟨λp hp=>C1.has p (sub.subset hp),C1.nodup.sublist (sub.map _)⟩ t1 t2 hcs hrec (by exact hc6) (by show A.depth+1+1<_; omega) hh (by show A.units+3+20<_; exact ZO (by assumption)) λTL acc ep q1 q2 cs' LR s' g hk hTL hLR hnd ha ho x1 x2 hl6 hr=>?_)
 have nd1:=C1.nodup
 have C2:Cx H0 (A.deeper (wE L lf cd)) (wE L lf cd::l) M sE L m (XQ P1 P2 P3 q1 q2 cs' LS++R') s':=by
  refine C1.turn g (λp hp=>.inl (hM p hp)) _ rfl λp hp=>?_
  simp only [XQ,List.cons_append,Z7] at hp
  rcases hp with rfl | rfl | rfl | hp
  ·exact .inr ⟨hk _ (.tail _ (.head _)),by intro q; exact Wu q⟩
  ·exact .inr ⟨hk _ (.tail _ (.tail _ (.head _))),by intro q; exact Wu q⟩
  ·exact .inr ⟨hk _ (.tail _ (.tail _ (.tail _ (.head _)))),by intro q; exact Wu q⟩
  ·refine .inl ⟨by simp only [XQ,List.cons_append,Z7]; exact .inr (.inr (.inr hp)),λhm=>?_⟩
   simp only [XQ,List.cons_append,YD,XT,Z7,not_or] at nd1
   have hpm:p.1∈(LS++R').map (λuu=>uu.1):=XG hp
   exact(Vr (λe=>nd1.1.2.2 (e▸hpm)) (Vr (λe=>nd1.2.1.2 (e▸hpm)) (Fv λe=>nd1.2.2.1 (e▸hpm))):p.1∉[P1,P2,P3]) hm
 have new:∀ {p:Zo×Xl},s.heap.get? p.1=none->∀ q∈XQ P1 P2 P3 q1 q2 cs' LS++R',q.1≠p.1:=λ{p} hn q hq e=>by
  have hqm:q.1∈(XQ P1 P2 P3 ps1 ps2 cs LS++R').map (λuu=>uu.1):=XG (f:=(λuu=>uu.1)) hq
  refine XW (ZZ.mp hqm) λq' hq' e'=>?_
  have:=(C1.has q' hq').at_
  rw [e',e,hn] at this; exact Wu this
 have C3:Cx H0 (A.deeper (wE L lf cd)) (wE L lf cd::l) M sE L m (LR++(XQ P1 P2 P3 q1 q2 cs' LS++R')) s':=by
  refine { C2 with has:=λp hp=>(Xn.mp hp).elim (λh=>hk p ?_) (C2.has p),dn:=λp hp=>(Xn.mp hp).elim (λh=>?_) (C2.dn p),nodup:=?_ }
  ·exact .tail _ (.tail _ (.tail _ (.tail _ (XD _ h))))
  ·have hpk:Wy s'.heap p:=hk p (.tail _ (.tail _ (.tail _ (.tail _ (XD _ h)))))
   exact λe=>C2.dxL hm0 (hpk.dx _ e) rfl
  ·rw [WZ]
   refine List.nodup_append.mpr ⟨(XT.mp hnd).2,C2.nodup,λa ha b hb e=>?_⟩
   refine XW (ZZ.mp ha) λp hp1 zr=>?_; obtain rfl:=zr
   refine XW (ZZ.mp hb) λq hq1 e2=>?_
   exact new (hLR p hp1) q hq1 (e2.trans e.symm)
 have C4:=C3.add (hk (TL,ZD acc ep) (.head _)) (λp hp e=>?_) (by intro q; exact Wu q)
 ·exact k TL acc ep q1 q2 cs' LR s' C4 ha ho x1 x2 hl6 hr (C.noE hTL)
 ·rcases Xn.mp hp with h | h
  ·exact(XT.mp hnd).1 (ZZ.mpr ⟨p,h,e⟩)
  ·exact new (p:=(TL,ZD acc ep)) hTL p h e
end
theorem Zgv(G:Gl K H0 mg mb)(F:KG K b)(C:Cx H0 (A.deeper (wE L lf cd)) (wE L lf cd::l) M sE L m led s){sl:Zo}{vs:List Zh}{c0 j:Nat}{T:Int}{tT:W7}(hm:m "script"=some (.ref sl))(hT:m "total"=some (.int T tT))(hj:led[j]? = some (sl,ZD vs c0))(hn:vs.length<=100)(hh:A.handled=none){Q:Zb}{E:Za}
  (k:∀ m' x y vx vy s',Cx H0 (A.deeper (wE L lf cd)) (wE L lf cd::l) M sE L m' ((y,ZD vy)::(x,ZD vx)::led) s'->vx.length≠vy.length->vx.length<=200->vy.length<=200->m' "x"=some (.ref x)->m' "y"=some (.ref y)->(∀ z:Yz,z≠"cut"->z≠"x"->z≠"y"->m' z=m z) ->
   Zp (model PW w) (A.deeper (wE L lf cd)) (execs (JR.2.1.drop 13) (wE L lf cd)) Q E s') :
  Zp (model PW w) (A.deeper (wE L lf cd)) (execs (JR.2.1.drop 9) (wE L lf cd)) Q E s:=by
 have hh':(A.deeper (wE L lf cd)).handled=none:=hh
 refine Zg (Zv (ZH (C.nameE hT (ZH (Xj (C.bootE G F.nlen2 Boot.«len» (Zs (Zq (C.nameE hm (ZC (Yo (Iu (C.at j hj)) (by rw [ZJ]; lia) ?_)))))))))))
 refine Zt (PySem.P.add_int (J5 (by simp; lia) ?_))
 have hpos:(0:Int)<((vs.toArray.size:Int)+1):=by lia
 refine zE (WM (JG T hpos)) λcut ec=>?_
 have hcut:cut<=vs.length:=by
  have:=Int.fmod_lt_of_pos T hpos
  rw [ec,ZJ] at this; lia
 rw [ec]
 refine(C.tok 5).setE λs1 C1=>?_
 refine Zg (Zv (Wd (C1.nameE (v:=.ref sl) (WG (by decide) hm) (wpAny_Slice ?_))))
 refine Zm ?_
 refine C1.nameE (v:=.int (cut:Int) _) rfl (Zm ?_)
 refine C1.sliceL (ws:=vs.take cut) (C1.at j hj) .none (.int _ _) (slicePick_upto' _ cut) (by lia) λx s2 C2 n2 t2=>?_
 refine C2.setE λs3 C3=>?_
 refine Zg (Zv (Wd (C3.nameE (v:=.ref sl) (WG (by decide) (WG (by decide) hm)) (wpAny_Slice ?_))))
 refine C3.nameE (v:=.int (cut:Int) _) rfl (Zm (Zm ?_))
 refine C3.sliceL (ws:=vs.drop cut) (C3.at (j+1) (by simpa using hj)) (.int _ _) .none (slicePick_from' _ cut) (by lia) λy s4 C4 n4 t4=>?_
 refine C4.setE λs5 C5=>?_
 refine Zg (Yv (Z8 (Xj (C5.bootE G F.nlen2 Boot.«len» (Zs (Zq (C5.nameE (v:=.ref x) rfl (ZC (Yo (Iu (C5.at 1 rfl)) (by simp; lia) ?_)))))))))
 have C6:=C5.tok 2
 refine Xj (C6.bootE G F.nlen2 Boot.«len» (Zs (Zq (C6.nameE (v:=.ref y) rfl (ZC (Yo (Iu (C6.at 0 rfl)) (by simp; grind) ?_))))))
 have C7:=C6.tok 2
 refine PySem.P.eq_int (Zu ?_)
 have lx:(vs.take cut).length=cut:=by rw [Uj]; exact Nat.min_eq_left (by assumption)
 have ly:(vs.drop cut).length=vs.length-cut:=List.length_drop ..
 by_cases he:cut=vs.length-cut
 ·refine YV (by simp; lia) ?_
  refine Zg (Zv (ZH (C7.nameE (v:=.ref y) rfl (WB (Zq (Zt (ZC ⟨H0,_,_,_,sE,L,_,_,C7.tok 1,by rw [ZW]; show 1<=_; decide,λD s8 C8 n8 n8'=>?_⟩)))))))
  refine C8.addL (C8.at 1 rfl) (C8.at 0 rfl) (by rw [ly]; simp; lia) λy2 s9 C9 n9 n9'=>?_
  refine C9.setE λs10 C10=>Z4 ?_
  have C11:=C10.drop ((y2,_)::(x,ZD (vs.take cut))::led) (.cons_cons _ (.cons _ (.cons _ (Yq _))))
  refine k _ x y2 _ _ s10 C11 (by rw [UG,lx,ly]; simp; lia) (by lia) (by rw [UG,ly]; simp; lia) rfl rfl λz h1 h2 h3=>(if_neg h3).trans ((if_neg h3).trans ((if_neg h2).trans (if_neg h1)))
 ·refine Y6 (by simp; lia) (Z4 ?_)
  exact k _ x y _ _ _ C7 (by lia) (by lia) (by grind) rfl rfl λz h1 h2 h3=>(if_neg h3).trans ((if_neg h2).trans (if_neg h1))
end
variable {c1 c2 c3:Zo}
section
open PySem PySem.W PySem.Calls PyProof.Rows PySem.Spec
structure BA (K:Frag)(a:Tf)(b:Ad2)(sm:Zo)(H0:Xx)(mg mb:Ze)(c1 P1 c2 P2 c3 P3:Zo):Prop where
 G:Gl K H0 mg mb
 B:Bm H0 mg
 F:KG K b
 FF:KF K a
 F3:K3 K b sm
 hr:b.rank=a.rank
 fc:OE K b.cov "covariance" Gf .none .none c1 P1
 fr:OE K b.reg "linear_regression" Us .none (.ref b.regK) c2 P2
 ft:OE K b.told "_law_told" Gd .none .none c3 P3
 h1:H0.get? P1=none
 h2:H0.get? P2=none
 h3:H0.get? P3=none
noncomputable def DP(ws:List Yz)(i:Nat):Hq:=.msg (ws.getD i Str.empty)
theorem lenW:∀ i∈[0,1,2,3,4,5],(GZ Be).getD i Str.empty=Gw (if i=0 then KZ else if i<4 then HW else Kz):=by decide +kernel
theorem fewW:∀ i∈[0,1,2,3,4,5],(GZ Bg).getD i Str.empty=Gw (if i=0 then Fb else if i<4 then HX else K0):=by decide +kernel
theorem msgL:KZ.length<=300/\HW.length<=300/\Kz.length<=300/\Fb.length<=300/\HX.length<=300/\K0.length<=300:=by decide +kernel
theorem Bo(X:BA K a b sm H0 mg mb c1 P1 c2 P2 c3 P3){LS:Zd}{xl yl:Zo}{vx vy:List Zh}{ex ey i j:Nat}{mv:Yz}{tm:W7}(hi:LS[i]? = some (xl,ZD vx ex))(hj:LS[j]? = some (yl,ZD vy ey))(hx3:vx.length<=1000)(hy3:vy.length<=1000){tail:Yz}
  (bad:(vx.length≠vy.length/\tail=Be)\/(vx.length=vy.length/\vx.length<2/\tail=Bg)){D:Nat}(hroom:D<Zr):I8 w H0 b P1 P2 LS xl yl mv tm (DP (GZ tail)) D:=by
 refine Zbi msgL λl1 l2 l3 l4 l5 l6=>?_
 intro n hn tr A' l' s1 q1 q2 hd ha S1 L1 t1 t2
 have hr:A'.depth<Zr:=by exact hd▸hroom
 have hnm:n∈[0,1,2,3,4,5]:=by simp only [Z7,Wf,or_false]; lia
 rcases bad with ⟨hne,rfl⟩ | ⟨he,h2,rfl⟩
 ·delta DP
  rw [lenW n hnm]
  exact six (P:=λn=>WN w H0 b.se b.lr P1 P2 (.msg (Gw (if n=0 then KZ else if n<4 then HW else Kz))) (VH b (.ref xl) (.ref yl) mv tm tr n) A' l' s1) (S4 X.G X.F S1 L1 t1 t2 hi hj hx3 hy3 (.inl ⟨hne,rfl⟩) l1 hr ha) (GV X.G X.F S1 L1 t1 t2 hi hj hx3 hy3 (.inl ⟨hne,rfl⟩) l2 hr ha) (GV X.G X.F S1 L1 t1 t2 hi hj hx3 hy3 (.inl ⟨hne,rfl⟩) l2 hr ha) (GV X.G X.F S1 L1 t1 t2 hi hj hx3 hy3 (.inl ⟨hne,rfl⟩) l2 hr ha) (IZ X.G X.F S1 L1 t1 t2 hi hj hx3 hy3 (.inl ⟨hne,rfl⟩) l3 hr ha) (IZ X.G X.F S1 L1 t1 t2 hi hj hx3 hy3 (.inl ⟨hne,rfl⟩) l3 hr ha) n hn
 ·delta DP
  rw [fewW n hnm]
  exact six (P:=λn=>WN w H0 b.se b.lr P1 P2 (.msg (Gw (if n=0 then Fb else if n<4 then HX else K0))) (VH b (.ref xl) (.ref yl) mv tm tr n) A' l' s1) (S4 X.G X.F S1 L1 t1 t2 hi hj hx3 hy3 (.inr ⟨he,h2,rfl⟩) l4 hr ha) (GV X.G X.F S1 L1 t1 t2 hi hj hx3 hy3 (.inr ⟨he,h2,rfl⟩) l5 hr ha) (GV X.G X.F S1 L1 t1 t2 hi hj hx3 hy3 (.inr ⟨he,h2,rfl⟩) l5 hr ha) (GV X.G X.F S1 L1 t1 t2 hi hj hx3 hy3 (.inr ⟨he,h2,rfl⟩) l5 hr ha) (IZ X.G X.F S1 L1 t1 t2 hi hj hx3 hy3 (.inr ⟨he,h2,rfl⟩) l6 hr ha) (IZ X.G X.F S1 L1 t1 t2 hi hj hx3 hy3 (.inr ⟨he,h2,rfl⟩) l6 hr ha) n hn
theorem Hv{C:Zo}{ws:List Yz}{LR:Zd}{acc us:List Zh}(ho:NZ C (DP ws) LR acc)(sv:SV us ws)(A:YE)(s:Zi):∀ (j:Nat) (v u:Zh),acc[j]? = some v->us[j]? = some u->Bw A s v u true:=λj v u h1 h2=>by
 refine zE (ho j v h1) λt zr=>?_; obtain rfl:=zr
 refine G7 (sv.get h2) λx t' hx zr=>?_; obtain rfl:=zr
 have:ws.getD j Str.empty=x:=by rw [List.getD_eq_getElem?_getD,hx]; rfl
 rw [this]
 exact Ov x t t'
structure VI (q1 q2:Array Zh)(ds:List Zo)(s:Zi):Prop where
 t1:YQ q1.toList
 t2:YQ q2.toList
 len:ds.length=0\/ds.length=6
 rc:∀ c∈ds,s.heap.CodeRec (.ref c) tQ
theorem OZ(X:BA K a b sm H0 mg mb c1 P1 c2 P2 c3 P3){ps1 ps2:Array Zh}{cs:List Zo}{x y D1:Zo}{vx vy u1:List Zh}{e1 ju:Nat}{mth:Yz}{tm:W7}{R':Zd}
  (C:Cx H0 (A.deeper (wE L lf cd)) (wE L lf cd::l) M sE L m (XQ P1 P2 P3 ps1 ps2 cs ((y,ZD vy)::(x,ZD vx)::R')) s)(PT:VI ps1 ps2 cs s)(hM:∀ p∈[P1,P2,P3],p∈M)(hx:m "x"=some (.ref x))(hy:m "y"=some (.ref y))(hmm:m "method"=some (.str mth tm))(hmu:m "unlike"=some (.ref D1))(hD1:R'[ju]? = some (D1,ZD u1 e1))(sv:SV u1 (GZ Be))
  (hne:vx.length≠vy.length)(hx3:vx.length<=200)(hy3:vy.length<=200)(hroom:A.depth+20<Zr)(hh:A.handled=none)(hu:A.units+50<Vh){Q:Zb}{E:Za}
  (k:∀ q1 q2 cs' s',Cx H0 (A.deeper (wE L lf cd)) (wE L lf cd::l) M sE L m (XQ P1 P2 P3 q1 q2 cs' ((y,ZD vy)::(x,ZD vx)::R')) s'->VI q1 q2 cs' s' ->
   Zp (model PW w) (A.deeper (wE L lf cd)) (execs (JR.2.1.drop 14) (wE L lf cd)) Q E s') :
  Zp (model PW w) (A.deeper (wE L lf cd)) (execs (JR.2.1.drop 13) (wE L lf cd)) Q E s:=by
 refine Zg (Yv (UA (Xo (Z8 (Xj (C.globalE X.G X.F.ntold ?_))))))
 refine UQ (C.st.X X.G) X.F.ktold (Zq (C.nameE hx (Zq (C.nameE hy (Zq (C.nameE hmm (ZC ⟨C.st.X X.G,?_⟩)))))))
 refine GK (LS:=[(y,ZD vy),(x,ZD vx)]) (R':=R') X.G X.B X.F X.F3 X.ft X.h3 C (List.Perm.refl _) hM PT.t1 PT.t2 PT.len PT.rc (Bo (i:=1) (j:=0) (tail:=Be) X rfl rfl (by lia) (by lia) (.inl ⟨hne,rfl⟩) (by lia)) (by lia) hh (by lia) hx λTL acc ep q1 q2 cs1 LR s1 C1 ha ho x1 x2 hl6 hr nTL=>?_
 have lu:u1.length=6:=by rw [sv.len]; rfl
 have hD:∀ {q1 q2:Array Zh} {cs1:List Zo} {z z' p:Zo×Xl},R'[ju]? = some p->(XQ P1 P2 P3 q1 q2 cs1 (z::z'::R'))[ju+5]? = some p:=λ{q1 q2 cs1 z z' p} h=>h
 have C2:=C1.drop (XQ P1 P2 P3 q1 q2 cs1 ((y,ZD vy)::(x,ZD vx)::R')) (.cons _ (X0 _ _))
 refine C1.nameE hmu (VE (C1.at 0 rfl) (C2.at _ (hD hD1)) (by rw [ha,lu]) (by show A.units+3<_; lia) (Hv ho sv _ _) (Zu ?_))
 refine Y6 rfl ?_
 refine Xo (Z8 (Xj (C2.globalE X.G X.F.ntold ?_)))
 refine UQ (C2.st.X X.G) X.F.ktold (Zq (C2.nameE hy (Zq (C2.nameE hx (Zq (C2.nameE hmm (ZC ⟨C2.st.X X.G,?_⟩)))))))
 refine GK (LS:=[(y,ZD vy),(x,ZD vx)]) (R':=R') X.G X.B X.F X.F3 X.ft X.h3 C2 (List.Perm.refl _) hM x1 x2 (.inr hl6) hr (Bo (i:=0) (j:=1) (tail:=Be) X rfl rfl (by lia) (by lia) (.inl ⟨Ne.symm hne,rfl⟩) (by lia)) (by lia) hh (by lia) hx λTL2 acc2 ep2 r1 r2 cs2 LR2 s2 C3 ha2 ho2 x3 x4 hl62 hr2 nTL2=>?_
 have C4:=C3.drop (XQ P1 P2 P3 r1 r2 cs2 ((y,ZD vy)::(x,ZD vx)::R')) (.cons _ (X0 _ _))
 refine C3.nameE hmu (VE (C3.at 0 rfl) (C4.at _ (hD hD1)) (by rw [ha2,lu]) (by show A.units+3<_; lia) (Hv ho2 sv _ _) (Zu ?_))
 refine Y6 rfl (Vw ?_)
 refine Y6 rfl (Z4 ?_)
 exact k r1 r2 cs2 s2 C4 ⟨x3,x4,.inr hl62,hr2⟩
theorem SN{value slice:Vz}{o i x:Zh}{ops:List Zh}{T id:String}{Q:Za}(hT:s.TypeIs o T)
  (hl:typeLookup (.type T) "__getitem__"=pure (some (.builtin id)))(h:Zp (model PW w) A (getItem o i) (λr s'=>r=x/\Q r s') E s)
  (hs:subscripted slice false o i=operate ops (getItem o i)) :
  Zp (model PW w) A (subscriptTail value slice o i) Q E s:=by
 refine Zf ?_
 rw [getitemInPython_of_ne hT.not_modules]
 refine Zf (JX hT hl ?_)
 have fin:Zp (model PW w) A (subscripted slice false o i) (λr s₃=>Zp (model PW w) A (letTemporaryGo value o r >>= λuu=>pure r) Q E s₃) E s:=by
  rw [hs]
  exact wpAny_operating (Yr h (λr s₃ h₃=>Zf (wpAny_letTemporaryGo (Zm h₃.2))) λuu uu x=>x)
 first
  | exact Zm (Zf fin)
  | exact Zf (Zm (Zf fin))
  | exact Zf fin
theorem Cx.sliceT(C:Cx H0 A l M sE L m led s){value slice:Vz}{a:Zo}{vs ws:List Zh}{c:Nat}{vl vu:Zh}{lo hi:Option Int}{Q:Za}(hl:s.heap.get? a=some (ZD vs c))(pl:IsPart vl lo)(pu:IsPart vu hi)(hw:slicePick vs.toArray lo hi none=ws.toArray)(hz:vs.length<=1000)
  (k:∀ D s',Cx H0 A l M sE L m ((D,ZD ws)::led) s'->Nw H0 sE D->s.toks<=s'.toks->(∀ b o,s.heap.get? b=some o->s'.heap.get? b=some o)->Q (.ref D) s')
  (hs:subscripted slice false (.ref a) (.ref s.heap.objs.size)=operate [.ref s.heap.objs.size,.ref a] (getItem (.ref a) (.ref s.heap.objs.size)):=by with_unfolding_all rfl) :
  Zp (model PW w) A (subscriptTail value slice (.ref a) (.ref s.heap.objs.size)) Q E { s with heap:=s.heap.push { cls:=.type "slice",data:=.fields #[vl,vu,.none] } }:=by
 have hl':=Iu hl
 refine SN (x:=.ref (s.heap.objs.size+1)) (Heap.IsList.typeIs (s:={ s with heap:=s.heap.push { cls:=.type "slice",data:=.fields #[vl,vu,.none] } }) (hl'.push _)) list_getitem_lookup
  (wpAny_getItem_list_slice (hl'.push _) (Heap.IsSliceOf.new ..) pl pu .none (by decide) ?_ (by rw [ZJ,ZW]; exact Nat.le_add_left_of_le (by assumption))) hs
 rw [Xq]
 refine⟨rfl,?_⟩
 rw [hw]
 have C3:Cx H0 A l M sE L m ((s.heap.objs.size+1,ZD ws)::led) { s with heap:=(s.heap.push { cls:=.type "slice",data:=.fields #[vl,vu,.none] }).push (ZD ws) }:=by
  have e:(s.heap.push { cls:=.type "slice",data:=.fields #[vl,vu,.none] }).objs.size=s.heap.objs.size+1:=Xq ..
  have:=((C.push (s:=s) { cls:=.type "slice",data:=.fields #[vl,vu,.none] } rfl Y5 rfl).push (ZD ws) rfl Xe rfl).drop ((((s.heap.push { cls:=.type "slice",data:=.fields #[vl,vu,.none] }).objs.size,ZD ws))::led) (.cons_cons _ (.cons _ (Yq _)))
  rw [e] at this
  exact this
 exact k _ _ C3 (C.noE (Je (Wb _))) (Z6 _) λb o e=>Z0 _ (Z0 _ e)
theorem VI.keep{q1 q2:Array Zh}{ds:List Zo}{s s':Zi}(p:VI q1 q2 ds s)(h:∀ b o,s.heap.get? b=some o->nd o->s'.heap.get? b=some o):VI q1 q2 ds s':=⟨p.t1,p.t2,p.len,λc hc=>by
 refine VS (p.rc c hc) λc' oc vs t e2 h1 h2 h3=>?_
 exact⟨c',oc,vs,t,e2,h _ _ h1 (λes n q=>by rw [h2] at q; cases q),h2,h3⟩⟩
theorem VI.based{m':Ze}{led':Zd}{q1 q2:Array Zh}{ds:List Zo}{s':Zi}(p:VI q1 q2 ds s)(C:Cx H0 A l M sE L m led s)(C':Cx H0 A l [] (UL s L) L m' led' s'):VI q1 q2 ds s':=⟨p.t1,p.t2,p.len,λc hc=>C'.code (Bj (p.rc c hc) C.dictL) λh=>nomatch h⟩
theorem Zgu(X:BA K a b sm H0 mg mb c1 P1 c2 P2 c3 P3){ps1 ps2:Array Zh}{cs:List Zo}{sl D2:Zo}{vs u2:List Zh}{c0 e2 js jf:Nat}{mth:Yz}{tm:W7}{R':Zd}
  (C:Cx H0 (A.deeper (wE L lf cd)) (wE L lf cd::l) M sE L m (XQ P1 P2 P3 ps1 ps2 cs R') s)(PT:VI ps1 ps2 cs s)(hM:∀ p∈[P1,P2,P3],p∈M)(hs:m "script"=some (.ref sl))(hmm:m "method"=some (.str mth tm))(hmf:m "few"=some (.ref D2))(hsl:R'[js]? = some (sl,ZD vs c0))(hD2:R'[jf]? = some (D2,ZD u2 e2))(sv:SV u2 (GZ Bg))(hn:vs.length<=100)
  (hroom:A.depth+20<Zr)(hh:A.handled=none)(hu:A.units+50<Vh){Q:Zb}{E:Za}
  (k:∀ m' q1 q2 cs' s',Cx H0 (A.deeper (wE L lf cd)) (wE L lf cd::l) M sE L m' (XQ P1 P2 P3 q1 q2 cs' R') s'->VI q1 q2 cs' s'->(∀ z:Yz,z≠"point"->m' z=m z) ->
   Zp (model PW w) (A.deeper (wE L lf cd)) (execs (JR.2.1.drop 16) (wE L lf cd)) Q E s') :
  Zp (model PW w) (A.deeper (wE L lf cd)) (execs (JR.2.1.drop 14) (wE L lf cd)) Q E s:=by
 have CB:=C.rebase
 refine Zg (Zv (Wd (ZH (CB.nameE hs (WB (Zq (Zt (ZC ⟨H0,_,_,_,UL s L,L,_,_,CB.tok 1,by rw [ZW]; show 1<=_; decide,λD s1 C1 n1 n1'=>?_⟩))))))))
 refine C1.addL (C1.at (js+4) hsl) (C1.at 0 rfl) (by simp; lia) λD3 s2 C2 n2 n2'=>wpAny_Slice ?_
 refine Zm ?_
 show Zp _ _ (eval _ _) _ _ _
 refine Zt (Zm ?_)
 refine(C2.tok 1).sliceT (ws:=(vs++[Vg 0 s.toks]).take 1) (C2.at 0 rfl) .none (.int _ _) (slicePick_upto' _ 1) (by simp; lia) λpt s3 C3 n3 t3 k3=>?_
 have C4:=C3.drop ((pt,_)::XQ P1 P2 P3 ps1 ps2 cs R') (.cons_cons _ (.cons _ (.cons _ (Yq _))))
 have hl1:((vs++[Vg 0 s.toks]).take 1).length=1:=by rw [Uj,UG]; simp
 generalize (vs++[Vg 0 s.toks]).take 1=vp at *
 refine C4.setE λs5 C5=>?_
 refine Zg (Yv (UA (Xo (Z8 (Xj (C5.globalE X.G X.F.ntold ?_))))))
 refine UQ (C5.st.X X.G) X.F.ktold (Zq (WB (ZC ⟨H0,_,_,_,UL s L,L,_,_,C5,Yt _,λE1 s6 C6 n6 n6'=>?_⟩)))
 refine Zq (WB (ZC ⟨H0,_,_,_,UL s L,L,_,_,C6,Yt _,λE2 s7 C7 n7 n7'=>?_⟩))
 refine Zq (C7.nameE (WG (by decide) hmm) (ZC ⟨C7.st.X X.G,?_⟩))
 have PT7:=PT.based C C7
 have C8:=C.unbase C7
 have pm:((E2,ZD [])::(E1,ZD [])::(pt,ZD vp)::XQ P1 P2 P3 ps1 ps2 cs R').Perm (XQ P1 P2 P3 ps1 ps2 cs [(E2,ZD []),(E1,ZD [])]++((pt,ZD vp)::R')):=by
  exact WL [(E2,ZD []),(E1,ZD []),(pt,ZD vp)] [(P1,Ye ps1),(P2,Ye ps2),(P3,Ye (pT cs))] R'
 refine GK (LS:=[(E2,ZD []),(E1,ZD [])]) (R':=(pt,ZD vp)::R') X.G X.B X.F X.F3 X.ft X.h3 C8 pm hM PT7.t1 PT7.t2 PT7.len PT7.rc (Bo (i:=1) (j:=0) (tail:=Bg) X rfl rfl (by simp) (by simp) (.inr ⟨rfl,by simp,rfl⟩) (by lia)) (by lia) hh (by lia) (WG (by decide) hmm) λTL acc ep q1 q2 cs1 LR s9 C9 ha ho x1 x2 hl6 hr nTL=>?_
 have lu:u2.length=6:=by rw [sv.len]; rfl
 have hmf5:(Jh m (Zj "point") (.ref pt)) (Zj "few")=some (.ref D2):=WG (by decide) hmf
 have C10:=C9.drop (XQ P1 P2 P3 q1 q2 cs1 ((E2,ZD [])::(E1,ZD [])::(pt,ZD vp)::R')) (.cons _ (X0 _ _))
 refine C9.nameE hmf5 (VE (C9.at 0 rfl) (C10.at (jf+6) hD2) (by rw [ha,lu]) (by show A.units+3<_; lia) (Hv ho sv _ _) (Zu ?_))
 refine Y6 rfl ?_
 have C11:=C10.drop (XQ P1 P2 P3 q1 q2 cs1 ((pt,ZD vp)::R')) (.cons_cons _ (.cons_cons _ (.cons_cons _ (.cons _ (.cons _ (Yq _))))))
 refine Xo (Z8 (Xj (C11.globalE X.G X.F.ntold ?_)))
 refine UQ (C11.st.X X.G) X.F.ktold (Zq (C11.nameE (v:=.ref pt) rfl (Zq (C11.nameE (v:=.ref pt) rfl (Zq (C11.nameE (WG (by decide) hmm) (ZC ⟨C11.st.X X.G,?_⟩)))))))
 refine GK (LS:=[(pt,ZD vp)]) (R':=R') X.G X.B X.F X.F3 X.ft X.h3 C11 (List.Perm.refl _) hM x1 x2 (.inr hl6) hr (Bo (i:=0) (j:=0) (tail:=Bg) X rfl rfl (by lia) (by lia) (.inr ⟨rfl,by lia,rfl⟩) (by lia)) (by lia) hh (by lia) hmf5 λTL2 acc2 ep2 r1 r2 cs2 LR2 s12 C12 ha2 ho2 x3 x4 hl62 hr2 nTL2=>?_
 have C13:=C12.drop (XQ P1 P2 P3 r1 r2 cs2 R') (.cons _ ((List.Sublist.cons_cons _ (.cons_cons _ (.cons_cons _ (.cons _ (Yq _))))).trans (X0 _ _)))
 refine C12.nameE hmf5 (VE (C12.at 0 rfl) (C13.at (jf+3) hD2) (by rw [ha2,lu]) (by show A.units+3<_; lia) (Hv ho2 sv _ _) (Zu ?_))
 refine Y6 rfl (Vw ?_)
 refine Y6 rfl (Z4 ?_)
 exact k _ r1 r2 cs2 s12 C13 ⟨x3,x4,.inr hl62,hr2⟩ λz h=>if_neg h
theorem IV.nil:IV [] []:=⟨rfl,λi x h=>by exact Wu h⟩
theorem IV.snoc{vs:List Zh}{xs:List Int}(h:IV vs xs)(x:Int)(t:W7):IV (vs++[.int x t]) (xs++[x]):=by
 refine⟨by simp [h.len],λi y hy=>?_⟩
 by_cases hi:i<xs.length
 ·rw [YK hi] at hy
  refine zE (h.at_ i y hy) λu hu=>?_
  exact⟨u,by exact ZF (YK (by rw [h.len]; exact hi)) (hu)⟩
 ·have hi':=Xp.mp hi
  rw [Yd hi'] at hy
  have e:i-xs.length=0:=by
   have:=(Z5.mp hy).1; simp at this; omega
  rw [e] at hy; obtain rfl:=Zz hy
  exact⟨t,by rw [Yd (by exact h.len▸hi'),h.len,e]; rfl⟩
theorem IV.append{vs ws:List Zh}{ns ms:List Int}(h:IV vs ns)(h':IV ws ms):IV (vs++ws) (ns++ms):=by
 refine⟨by simp [h.len,h'.len],λi y hy=>?_⟩
 by_cases hi:i<ns.length
 ·rw [YK hi] at hy
  rw [YK (by exact h.len▸hi)]
  exact h.at_ i y hy
 ·rw [Yd (Xp.mp hi)] at hy
  rw [Yd (by exact h.len▸Xp.mp hi),h.len]
  exact h'.at_ _ y hy
structure WO (acc:List Zh)(ns:List Int)(tk:Nat):Prop where
 iv:IV acc ns
 lt:∀ v∈acc,U0 v≠0/\U0 v<tk
 ne:acc.Pairwise λx y=>U0 x≠U0 y
theorem WO.nil(tk:Nat):WO [] [] tk:=⟨IV.nil,YC,List.Pairwise.nil⟩
theorem WO.mono{acc:List Zh}{ns:List Int}{a b:Nat}(h:WO acc ns a)(hab:a<=b):WO acc ns b:=⟨h.iv,λv hv=>⟨(h.lt v hv).1,Z9 (h.lt v hv).2 hab⟩,h.ne⟩
theorem WO.snoc{acc:List Zh}{ns:List Int}{tk tk':Nat}(h:WO acc ns tk)(n:Int)(t:W7)(h0:0<tk)(h1:tk<=t)(h2:t<tk'):WO (acc++[.int n t]) (ns++[n]) tk':=by
 refine⟨h.iv.snoc n t,λv hv=>?_,?_⟩
 ·rcases Xn.mp hv with q | q
  ·exact⟨(h.lt v q).1,Yx (h.lt v q).2 (Yg h1 h2)⟩
  ·exact(Zk.mp q)▸⟨Ys (Z9 h0 h1),h2⟩
 ·refine UX.mpr ⟨h.ne,by simp,λx hx y hy=>?_⟩
  rw [Zk.mp hy]
  exact X7 (Z9 (h.lt x hx).2 h1)
theorem WO.key{acc:List Zh}{ns:List Int}{tk:Nat}(h:WO acc ns tk):GG Jw acc:=by
 refine⟨λx hx=>⟨h.iv.mem hx,(h.lt x hx).1⟩,λx hx y hy e=>?_⟩
 have hxy:x=y:=by
  refine zM hx λi hi zr=>?_; obtain rfl:=zr
  refine zM hy λj hj zr=>?_; obtain rfl:=zr
  rcases Ux i j with q | q | q
  ·exact absurd e (YU.mp h.ne i j hi hj q)
  ·subst q; rfl
  ·exact absurd e.symm (YU.mp h.ne j i hj hi q)
 subst hxy
 refine zEE (h.iv.mem hx) λn t zr=>?_; obtain rfl:=zr
 show(n==n)=true
 simp
theorem nob_of{K:Frag}{h:Xx}(X:K.In h)(hn:∃ mc,h.Ns WQ mc/\mc "sys.int_max_str_digits"=none)(e:nsIn K WQ sharingNotToldKey=some none):Uc h:=by
 refine XW hn λmc h1 uu=>?_
 exact⟨mc,h1,ns_none_of X h1 e⟩
theorem FQ{R:WRecords}{cl:Yz->Option Zo}{P:JV}{ord:List DictEntry->List DictEntry}:∀ (ns:List Int) (s:Zi) (r:List Zh×Zi),layAllW R cl P ord (ofPys (ns.map PyData.int)) s=some r->0<s.toks->∀ (acc:List Zh) (as:List Int),WO acc as s.toks->WO (acc++r.1) (as++ns) r.2.toks
 | [],s,r,e,_,acc,as,h=>by
  have:layAllW R cl P ord (ofPys (List.map PyData.int [])) s=some ([],s):=by simp [ofPys,layAllW]
  rw [this] at e
  obtain rfl:=Zz e
  simpa using h
 | n::ns,s,r,e,hp,acc,as,h=>by
  simp only [YD,ofPys,ofPy,layAllW,layW] at e
  cases q:layAllW R cl P ord (ofPys (List.map PyData.int ns)) { s with toks:=s.toks+1 } with
  | none=>rw [q] at e; exact Wu e
  | some r'=>
   rw [q] at e
   obtain rfl:=Zz e
   simpa using (FQ ns { s with toks:=s.toks+1 } r' q (Jb _) _ _ (h.snoc n s.toks hp (Z6 _) (YM _)))
theorem Zgc{R:WRecords}{w:Um}{s₀ s₁:Zi}{ns:List Int}{a:Zo}{as:List Zo}(L:Laid R w s₀ s₁ [ofPy (PyData.list (ns.map PyData.int))] [.ref a] as)(h:0<s₀.toks):∃ vs,s₁.heap.get? a=some (ZD vs)/\WO vs ns s₁.toks:=by
 refine XW L.laid λord uu e=>?_
 simp only [ofPy,layAllW,layW] at e
 cases q:layAllW R (classAt s₀.heap) w.params ord (ofPys (List.map PyData.int ns)) s₀ with
 | none=>rw [q] at e; exact Wu e
 | some r=>
  rw [q] at e
  simp only [Option.some.injEq,Prod.mk.injEq,List.cons.injEq,ZS.injEq] at e
  refine zA e λzq0 es=>?_; obtain ⟨ea,_⟩:=zq0
  refine⟨r.1,?_,?_⟩
  ·rw [<- es,<- ea]; exact ZK _ rfl
  ·rw [<- es]; simpa using (FQ ns s₀ r q h [] [] (.nil _))
noncomputable def EltI(w:Um)(H0:Xx)(A:YE)(l:List V0)(elt:Vz)(env:V0)(scope:US)(cl:List (Yz×Zo))(xi:Yz)(f:Int->Int)(ns:List Int):Prop :=
 ∀ (C1:Zo) (M2:List Zo) (sE2:Zi) (mC:Ze) (led2:Zd) (s1:Zi) (n:Int) (t:W7) (Q E:Za),n∈ns->Cx H0 A l M2 sE2 C1 mC led2 s1->mC xi=some (.int n t) ->
  (∀ u s2,Cx H0 A l M2 sE2 C1 mC led2 s2->s1.toks<=u->u<s2.toks->Q (.int (f n) u) s2)->Zp (model PW w) A (eval elt (Jl scope cl C1 env)) Q E s1
theorem Cx.intCompP(C:Cx H0 A l M sE L m led s){f:Int->Int}{elt:Vz}{xi x:Yz}{px pi pos:V7}{scope:US}{cl:List (Yz×Zo)}{a:Zo}{vals:List Zh}{ns:List Int}{ep:Nat}{Q:Za}{pre:List Zh}{npre:List Int}(hpre:WO pre npre s.toks)(j:Nat)
  (hx:m x=some (.ref a))(hl:led[j]? = some (a,ZD vals ep))(hv:IV vals ns)(hlen:ns.length<=1000)(hh:A.handled=none)(helt:EltI w H0 A l elt env scope cl xi f ns)
  (k:∀ D acc c' s',Cx H0 A l M sE L m ((D,ZD acc c')::led) s'->Go H0 [] s s'->WO (pre++acc) (npre++ns.map f) s'.toks->Nw H0 sE D->Q (.ref D) s')
  (hL:env.locals=L:=by rfl)(hk:env.scope.kind = .function:=by rfl)(hkx:env.kindOf x=some .local:=by rfl)(hdx:(x==("__debug__" : Yz))=false:=by decide)
  (hclos:JU scope env=pure cl:=by rfl)(hcell:∀ y∈scope.names,y.2 ≠ .cell:=by decide)(hkind:scope.kind = .function:=by rfl)(hnames:∀ y∈scope.names,y.2 = .local->scope.names.lookup y.1=some .local:=by decide)(hxi:scope.names.lookup xi=some .local:=by rfl) :
  Zp (model PW w) A (eval (.ListComp elt [⟨.Name xi px,.Name x pi,[],0⟩] scope pos) env) Q E s:=by
 refine Cx.listComp (led:=led) (P:=λi acc n=>WO (pre++acc) (npre++(ns.take i).map f) n) hh hclos hcell hkind hnames hxi (λuu uu uu uu h hn=>h.mono hn) (C.nameE hx ⟨a,vals,ep,j,rfl,by exact hv.len▸hlen,hl,C,by simpa using hpre,λI D C1=>?_,λD acc c' s' g h ok n=>?_⟩ hL hk hkx hdx)
 ·intro i' v acc c1 mC s1 E' hvi hP hm C2
  rw [List.forIn_nil]
  refine Zm (YV rfl ?_)
  have hlt:i'<ns.length:=by exact hv.len▸(Z5.mp hvi).1
  obtain ⟨n,hn⟩:∃ n,ns[i']? = some n:=⟨_,ZE hlt⟩
  refine zE (hv.at_ i' n hn) λu hu=>?_
  obtain rfl:=Zz (ZF (ZR hvi) hu)
  refine helt _ _ _ _ _ _ n u _ _ (ZG hn) C2 hm λt s2 C3 h1 h2=>⟨C3,?_⟩
  show WO _ (npre++(ns.take (i'+1)).map f) _
  rw [Bb hn,WZ,<- WR,<- WR]
  exact hP.snoc _ _ C2.st.toks h1 h2
 ·rw [hv.len,Vi] at h
  exact k D acc c' s' (C.addNew g ok n rfl) g h (C.noE n)
theorem Cx.intComp(C:Cx H0 A l M sE L m led s){f:Int->Int}{elt:Vz}{xi x:Yz}{px pi pos:V7}{scope:US}{cl:List (Yz×Zo)}{a:Zo}{vals:List Zh}{ns:List Int}{ep:Nat}{Q:Za}(j:Nat)
  (hx:m x=some (.ref a))(hl:led[j]? = some (a,ZD vals ep))(hv:IV vals ns)(hlen:ns.length<=1000)(hh:A.handled=none)(helt:EltI w H0 A l elt env scope cl xi f ns)
  (k:∀ D acc c' s',Cx H0 A l M sE L m ((D,ZD acc c')::led) s'->Go H0 [] s s'->WO acc (ns.map f) s'.toks->Nw H0 sE D->Q (.ref D) s')
  (hL:env.locals=L:=by rfl)(hk:env.scope.kind = .function:=by rfl)(hkx:env.kindOf x=some .local:=by rfl)(hdx:(x==("__debug__" : Yz))=false:=by decide)
  (hclos:JU scope env=pure cl:=by rfl)(hcell:∀ y∈scope.names,y.2 ≠ .cell:=by decide)(hkind:scope.kind = .function:=by rfl)(hnames:∀ y∈scope.names,y.2 = .local->scope.names.lookup y.1=some .local:=by decide)(hxi:scope.names.lookup xi=some .local:=by rfl) :
  Zp (model PW w) A (eval (.ListComp elt [⟨.Name xi px,.Name x pi,[],0⟩] scope pos) env) Q E s :=
 C.intCompP (pre:=[]) (npre:=[]) (WO.nil _) j hx hl hv hlen hh helt k hL hk hkx hdx hclos hcell hkind hnames hxi
noncomputable def Zdh(v:Int):Int:=(v+512).fmod 1024-512
theorem Zgn(v:Int):(Zdh v).natAbs<=512:=by
 delta Zdh
 have h0:=JG (v+512) (show(0:Int)<1024 by decide)
 have h1:=Int.fmod_lt_of_pos (v+512) (show(0:Int)<1024 by decide)
 omega
noncomputable def NY(ns:List Int):List Int:=ns.map Zdh++[3,-5]
theorem WO.two{vs:List Zh}{ns:List Int}{a b t u:Nat}(h:WO vs ns a)(h0:0<a)(h1:a<=t)(h2:t<u)(h3:u<b)(x y:Int):WO (vs++[.int x t,.int y u]) (ns++[x,y]) b:=by
 simpa using ((h.snoc x t h0 h1 h2).snoc y u (by exact Yg (Yt _) (by assumption)) (Z6 _) h3)
theorem Zlx(X:BA K a b sm H0 mg mb c1 P1 c2 P2 c3 P3)(C:Cx H0 (A.deeper (wE L lf cd)) (wE L lf cd::l) M sE L m led s){sl:Zo}{vs:List Zh}{c0 j:Nat}{ns:List Int}(hs:m "script"=some (.ref sl))(hj:led[j]? = some (sl,ZD vs c0))(iv:IV vs ns)(hn:ns.length<=63)(hh:A.handled=none){Q:Zb}{E:Za}
  (k:∀ D va s',Cx H0 (A.deeper (wE L lf cd)) (wE L lf cd::l) M sE L (Jh m "a" (.ref D)) ((D,ZD va)::led) s'->WO va (NY ns) s'.toks ->
   Zp (model PW w) (A.deeper (wE L lf cd)) (execs (JR.2.1.drop 17) (wE L lf cd)) Q E s') :
  Zp (model PW w) (A.deeper (wE L lf cd)) (execs (JR.2.1.drop 16) (wE L lf cd)) Q E s:=by
 refine Zg (Zv (ZH ?_))
 refine C.intComp (f:=Zdh) j hs hj iv (by exact Nat.le_add_left_of_le (by assumption)) hh (λC1 M2 sE2 mC led2 s1 n t Q E uu C2 hm kk=>?_) λD1 acc c' s1 C1 g1 fr n1=>?_
 ·refine ZH (ZH (ZH (C2.nameE hm (ZH (Zt (Zt (PyProof.Rows.pow_int_small (by decide) (by decide) (by decide) (PySem.P.add_int ?_))))))))
  refine ZH (Zt (Zt (PyProof.Rows.pow_int_small (by decide) (by decide) (by decide) (J5 (by decide) ?_))))
  refine ZH (Zt (Zt (PyProof.Rows.pow_int_small (by decide) (by decide) (by decide) (PySem.P.sub_int ?_))))
  exact kk (s1.toks+11) _ (C2.tok 12) (Zx _ _) (YM _)
 ·refine WB (Zq (Zt (Zq (Uu (Zt (neg_int (ZC ⟨H0,_,_,_,UL (tk s1 3) L,L,_,_,((C1.tok 3).rebase),by rw [ZW]; show 2<=_; decide,λD2 s2 C2 n2 n2'=>?_⟩)))))))
  refine C2.addL (C2.at 1 rfl) (C2.at 0 rfl) (by have:=fr.iv.len; simp at this ⊢; lia) λD s3 C3 n3 n3'=>?_
  refine(C3.drop ((D,_)::led) (.cons_cons _ (.cons _ (.cons _ (Yq _))))).setE λs5 C5=>?_
  have h5:s1.toks+3<=s5.toks:=C5.go.toks
  exact k D _ s5 ((C1.tok 3).unbase C5) (fr.two C1.st.toks (Z6 _) (Nat.lt_succ_of_lt (YM _)) (Z9 (YM _) h5) 3 (-5))
theorem Cx.copyL(C:Cx H0 A l M sE L m led s){a:Zo}{vs:List Zh}{c:Nat}{Q:Za}(hl:s.heap.get? a=some (ZD vs c))(hz:vs.length<=1000)
  (k:∀ D c' s',Cx H0 A l M sE L m ((D,ZD vs c')::led) s'->Nw H0 sE D->s.heap.get? D=none->Q (.ref D) s'):Zp (model PW w) A (PySem.call (.type "list") [.ref a]) Q E s :=
 call_list_seq a (.inl rfl) hl rfl rfl (λh' c' hk hD=>k _ c' _ (C.addNew (s':={ s with heap:=h' }) (Go.ext (s:=s) (s':={ s with heap:=h' }) hk (Z6 _) rfl rfl _) (.of hD Xe rfl) XC rfl) (C.noE XC) XC) (by exact Zl hz (by decide))
noncomputable def K9(x y:Int):UInt64:=Float64.ofFrac (decide (x<0) != decide (y<0)) x.natAbs y.natAbs
theorem NQ{x y:Int}{t u:W7}{Q:Za}(hA:A.handled=none)(hy:y≠0)(hx:x.natAbs<2^1023)(k:Q (.float (K9 x y) s.toks) { s with toks:=s.toks+1 }):Zp (model PW w) A (JY .Div (.int x t) (.int y u)) Q E s :=
 PySem.Flt.div_ii_fits hA hx (λh=>absurd h hy) λuu uu=>k
inductive Du where
 | flt (f:UInt64)
 | msg (x:Yz)
 | tup (f g:UInt64)
 | tupI (f:UInt64) (n:Int)
noncomputable def Zih(TP:Zd):Du->Zh->Prop
 | .flt f,v=>∃ t,t≠0/\v = .float f t
 | .msg x,v=>∃ t,v = .str x t
 | .tup f g,v=>∃ a t u,t≠0/\u≠0/\v = .ref a/\(a,XX [.float f t,.float g u])∈TP
 | .tupI f n,v=>∃ a t u,t≠0/\u≠0/\v = .ref a/\(a,XX [.float f t,.int n u])∈TP
structure I7 (TP:Zd)(ds:List Du)(vs:List Zh):Prop where
 len:vs.length=ds.length
 at_:∀ (i:Nat) d v,ds[i]? = some d->vs[i]? = some v->Zih TP d v
theorem I7.nil{TP:Zd}:I7 TP [] []:=⟨rfl,λi d v h=>nomatch h⟩
theorem I7.cons{TP:Zd}{d:Du}{v:Zh}{ds:List Du}{vs:List Zh}(h:Zih TP d v)(r:I7 TP ds vs):I7 TP (d::ds) (v::vs):=⟨congrArg (· + 1) r.len,λi d' v' h1 h2=>by
 cases i with
 | zero=>obtain rfl:=Zz h1; obtain rfl:=Zz h2; exact h
 | succ i=>exact r.at_ i d' v' h1 h2⟩
noncomputable def U9:Yz:=Zj "StatisticsError: at least one of the inputs is constant"
noncomputable def seX:Yz:=Zj "StatisticsError: x is constant"
noncomputable def NO(unk:Yz)(a0:Int)(as:List Int):List Du:=[.flt 0,.msg U9,.msg U9,.msg unk,.msg seX,if a0=0 then .msg seX else .tup (K9 as.sum (a0*as.length)) 0]
theorem Zdr(X:BA K a b sm H0 mg mb c1 P1 c2 P2 c3 P3)(C:Cx H0 (A.deeper (wE L lf cd)) (wE L lf cd::l) M sE L m led s){D:Zo}{va:List Zh}{cD j:Nat}{as:List Int}{a0:Int}{unk:Yz}{tu:W7}(hma:m "a"=some (.ref D))(hmu:m "unknown"=some (.str unk tu))(hj:led[j]? = some (D,ZD va cD))(fr:WO va as s.toks)(h2:2<=as.length)(h3:as.length<=100)(ha0:as[0]? = some a0)(hb:∀ x∈as,x.natAbs<=512)(hh:A.handled=none){Q:Zb}{E:Za}
  (k:∀ m' fl ka kf kp du t0 ca cf cdu dv TP s',Cx H0 (A.deeper (wE L lf cd)) (wE L lf cd::l) M sE L m' ((du,ZD dv cdu)::(TP++(kp,ZD [.ref ka,.ref kf])::(kf,ZD (ZM as.length (.int a0 t0)) cf)::(ka,ZD va ca)::(fl,ZD (ZM as.length (.int a0 t0)))::led)) s' ->
   va[0]? = some (.int a0 t0)->I7 TP (NO unk a0 as) dv->m' "flat"=some (.ref fl)->m' "kept"=some (.ref kp)->(∃ tc,m' "constant"=some (.str U9 tc))->m' "due"=some (.ref du)->(∀ z:Yz,z≠"flat"->z≠"kept"->z≠"constant"->z≠"due"->m' z=m z) ->
   Zp (model PW w) (A.deeper (wE L lf cd)) (execs (JR.2.1.drop 22) (wE L lf cd)) Q E s') :
  Zp (model PW w) (A.deeper (wE L lf cd)) (execs (JR.2.1.drop 17) (wE L lf cd)) Q E s:=by
 have hh':(A.deeper (wE L lf cd)).handled=none:=hh
 have lva:va.length=as.length:=fr.iv.len
 refine zE (fr.iv.at_ 0 a0 ha0) λt0 hv0=>?_
 refine Zg (Zv (ZH (WB (Zq (Wd (C.nameE hma (Zt (X9 (Iu ((C.tok 1).at j hj)) (by decide) (by decide) hv0 (ZC ⟨H0,_,_,_,sE,L,_,_,C.tok 1,by rw [ZW]; show 1<=_; decide,λF1 s1 C1 n1 n1'=>?_⟩)))))))))
 refine Xj (C1.bootE X.G X.F.nlen2 Boot.«len» (Zs (Zq (C1.nameE hma (ZC (Yo (Iu (C1.at (j+1) hj)) (by rw [ZJ]; lia) ?_))))))
 refine(C1.tok 2).mulL (n:=as.length) ((C1.tok 2).at 0 rfl) (by rw [ZJ,lva]) (by exact Nat.le_add_left_of_le (by assumption)) λfl s2 C2 n2 n2'=>?_
 refine(C2.drop ((fl,_)::led) (.cons_cons _ (.cons _ (Yq _)))).setE λs4 C4=>?_
 refine Zg (Zv (WB (Zq (Xj (C4.bootE X.G X.F.nlist2 Boot.«list» (W5 (Zq (C4.nameE (v:=.ref D) (WG (by decide) hma) (ZC ?_)))))))))
 refine C4.copyL (C4.at (j+1) hj) (by lia) λka ca s5 C5 n5 n5'=>?_
 refine Zq (Xj (C5.bootE X.G X.F.nlist2 Boot.«list» (W5 (Zq (C5.nameE (v:=.ref fl) rfl (ZC ?_))))))
 refine C5.copyL (C5.at 1 rfl) (by rw [UJ]; lia) λkf cf s6 C6 n6 n6'=>?_
 refine ZC ⟨H0,_,_,_,sE,L,_,_,C6,by rw [ZW]; show 2<=_; decide,λkp s7 C7 n7 n7'=>?_⟩
 refine C7.setE λs8 C8=>?_
 refine Zg (Zv (Yi ?_))
 refine(C8.tok 1).setE λs9 C9=>?_
 refine Zg (Zv (WB (Zq (Xf ?_))))
 refine Zq ((C9.tok 1).nameE (v:=.str U9 s8.toks) rfl (Zq ((C9.tok 1).nameE (v:=.str U9 s8.toks) rfl (Zq ((C9.tok 1).nameE (v:=.str unk tu) (WG (by decide) (WG (by decide) (WG (by decide) hmu))) (Zq (Yi ?_)))))))
 refine ZC ⟨H0,_,_,_,sE,L,_,_,C9.tok 2,by rw [ZW]; show 5<=_; decide,λdu s10 C10 n10 n10'=>?_⟩
 refine C10.setE λs11 C11=>?_
 have hma11:∀ {v1 v2 v3 v4:Zh},(Jh (Jh (Jh (Jh m (Zj "flat") v1) (Zj "kept") v2) (Zj "constant") v3) (Zj "due") v4) (Zj "a")=some (.ref D):=WG (by decide) (WG (by decide) (WG (by decide) (WG (by decide) hma)))
 refine Zg (Yv (Z8 (Wd (C11.nameE hma11 (Zt (X9 (Iu ((C11.tok 1).at (j+5) hj)) (by decide) (by decide) hv0 ?_))))))
 refine Zt (PySem.P.eq_int (Zu ?_))
 have C12:=C11.tok 2
 have base:∀ {TP:Zd} {v:Zh} {d:Du},Zih TP d v->I7 TP [.flt 0,.msg U9,.msg U9,.msg unk,.msg seX,d] ([.float 0 s9.toks,.str U9 s8.toks,.str U9 s8.toks,.str unk tu,.str seX (tk s9 1).toks]++[v]):=λ{TP v d} hd=>.cons ⟨_,Ys C9.st.toks,rfl⟩ (.cons ⟨_,rfl⟩ (.cons ⟨_,rfl⟩ (.cons ⟨_,rfl⟩ (.cons ⟨_,rfl⟩ (.cons hd .nil)))))
 by_cases hz:a0=0
 ·refine YV (by simp [hz]) ?_
  refine Zg (wpAny_Expr_any (MethodCall_ (C12.nameE (v:=.ref du) rfl (U5 (C12.at 0 rfl) rfl rfl (callWith_method1 (Zq (Yi (ZC ?_))))))))
  refine V5 ((C12.tok 1).at 0 rfl) (by exact Wk rfl) ?_
  have C13:=(C12.tok 1).upd 0 (f:=Yb (·.push (.str seX (tk s11 2).toks))) rfl rfl Xe rfl (.inr n10.e) n10.h
  refine Z4 ?_
  refine k _ fl ka kf kp du t0 ca cf 1 _ [] _ C13 hv0 ?_ rfl rfl ⟨_,rfl⟩ rfl λz h1 h2 h3 h4=>(if_neg h4).trans ((if_neg h3).trans ((if_neg h2).trans (if_neg h1)))
  have e:NO unk a0 as = [.flt 0,.msg U9,.msg U9,.msg unk,.msg seX,.msg seX]:=by unfold NO; rw [if_pos hz]
  rw [e]
  exact base ⟨_,rfl⟩
 ·refine Y6 (by simp [hz]) ?_
  refine Zg (wpAny_Expr_any (MethodCall_ (C12.nameE (v:=.ref du) rfl (U5 (C12.at 0 rfl) rfl rfl (callWith_method1 (Zq ?_))))))
  refine U7 (Zq (ZH (Xj (C12.bootE X.G X.F.nsum Boot.«sum» (Zs (Zq (C12.nameE hma11 (ZC (Zbt (C12.at (j+5) hj) fr.iv hh' λs13 tS g13=>?_)))))))))
  have C13:=C12.call (g13.go H0 [])
  refine ZH (Wd (C13.nameE hma11 (Zt (X9 (Iu ((C13.tok 1).at (j+5) hj)) (by decide) (by decide) hv0 ?_))))
  refine Xj ((C13.tok 1).bootE X.G X.F.nlen2 Boot.«len» (Zs (Zq ((C13.tok 1).nameE hma11 (ZC (Yo (Iu ((C13.tok 1).at (j+5) hj)) (by rw [ZJ]; lia) ?_))))))
  have hsum:=G8 (B:=512) as hb
  have hS:as.sum.natAbs<2^1023:=Yg (Zl hsum (Yn _ h3)) (by decide +kernel)
  have hne:a0*(va.toArray.size:Int)≠0:=by
   rw [ZJ,lva]
   exact Int.mul_ne_zero hz (by lia)
  refine PySem.P.mul_int (NQ hh' hne hS ?_)
  have C14:=C13.tok 5
  refine Zq (Xf (ZC ⟨H0,_,_,_,sE,L,_,_,C14.tok 1,by rw [ZW]; show 2<=_; decide,λtp s15 C15 n15 n15'=>?_⟩))
  refine ZC (V5 (C15.at 1 rfl) (by exact Wk rfl) ?_)
  have C16:=C15.upd 1 (f:=Yb (·.push (.ref tp))) rfl rfl Xe rfl (.inr n10.e) n10.h
  refine Z4 ?_
  have e9:K9 as.sum (a0*(va.toArray.size:Int))=K9 as.sum (a0*as.length):=by rw [ZJ,lva]
  rw [e9] at C16
  have C17:=C16.perm (led':=(du,_)::((tp,_)::_)) (List.Perm.swap _ _ _)
  refine k _ fl ka kf kp du t0 ca cf 1 _ [(tp,_)] _ C17 hv0 ?_ rfl rfl ⟨_,rfl⟩ rfl λz h1 h2 h3 h4=>(if_neg h4).trans ((if_neg h3).trans ((if_neg h2).trans (if_neg h1)))
  have e:NO unk a0 as = [.flt 0,.msg U9,.msg U9,.msg unk,.msg seX,.tup (K9 as.sum (a0*as.length)) 0]:=by unfold NO; rw [if_neg hz]
  rw [e]
  exact base ⟨tp,_,_,XA _,XA _,rfl,.head _⟩
end
section
open PySem PySem.W PySem.Calls PyProof.Rows PySem.Spec
open PySem.SeqAt PySem.MeetsSeq PySem.MeetsSeq2 PySem.MeetsSeq3 PySem.SeqRoads2
section
variable {prog:Program}
theorem Fq{M:XJ}{self:Zh}{name:Yz}{id:String}{args:List Zh}{Q:Option Zh->Zi->Prop}(hL:Ui M s.heap (specialOf self name) (some (.builtin id)))(hb:bindSpecial (.builtin id) self=pure (.builtin id,[self]))
  (hc:Zp M A (PySem.call (.builtin id) (self::args)) (λv=>Q (some v)) E s):Zp M A (callSpecialIfBound? self name args) Q E s:=by
 obtain ⟨hp,g,d,tk,os⟩:=s
 refine Yc (Zf (Zf (hL.at ?_)))
 simp only [hb]
 refine Zf (wpAny_askSetting (wpAny_ite ?_))
 have fin:Zp M A (PySem.call (.builtin id) ([self]++args) >>= λv=>pure (some v)) Q E ⟨hp,g,d,tk,os⟩ :=
  Zf (Yr hc (λv s' h'=>Zm h') λuu uu h'=>h')
 split
 ·exact Zf (Zm (Zm fin))
 ·exact wpAny_tryCatch (Zf (Zm (Zm fin)))
theorem SE{cl:Zh}{l b:Zo}{x1 x2 y1 y2:Zh}{n n2:Nat}{dd dd2:Option Zo}{sl sl2:Array (Option Zh)}{Q:Fin->Zi->Prop}
  (hl:s.heap.get? l=some { cls:=cl,dict:=dd,data:=.seq #[x1,x2] n,slots:=sl })(hb:s.heap.get? b=some { cls:=.type "tuple",dict:=dd2,data:=.seq #[y1,y2] n2,slots:=sl2 })
  (h1:EqAt A s x1 y1 true)(h2:EqAt A s x2 y2 true)(h:Q (.done (.ret (.bool true))) s):Zp (model prog w) A (Builtin.«tuple.__eq__» ⟨[.ref l,.ref b],[]⟩) Q E s:=by
 obtain ⟨hp,g,d,tk,os⟩:=s
 have f2:=AutoSeq1.sub_tuple_tuple
 have he1:∀ {E':Za} {Q':Bool->Zi->Prop},Q' true ⟨hp,g,d,tk,os⟩->Zp (model prog w) A (eqBool x1 y1) Q' E' ⟨hp,g,d,tk,os⟩:=λq=>h1 prog w _ _ q
 have he2:∀ {E':Za} {Q':Bool->Zi->Prop},Q' true ⟨hp,g,d,tk,os⟩->Zp (model prog w) A (eqBool x2 y2) Q' E' ⟨hp,g,d,tk,os⟩:=λq=>h2 prog w _ _ q
 wp_walk using AutoSeq1.wpAny_loadPart' hl,AutoSeq1.wpAny_loadPart' hb,he1,he2
 exact h
theorem Sl(F3:K3 K b sm)(X:K.In s.heap){x t dx:Zo}{u1 u2 w1 w2:Zh}(hx:s.heap.get? x=some (KO b.lr dx [u1,u2]))(ht:s.heap.get? t=some (XX [w1,w2]))(hu:A.units<Vh)(h1:EqAt A.in1 s u1 w1 true)(h2:EqAt A.in1 s u2 w2 true):RcAt A s (.ref x) (.ref t) true:=λprog w E Q h=>by
 obtain ⟨hp,g,d,tk,os⟩:=s
 have t1:Ui (model prog w) hp (typeOf (.ref x)) (.ref b.lr):=(JZ hx).andThen .now
 have t2:Ui (model prog w) hp (typeOf (.ref t)) (.type "tuple"):=(JZ ht).andThen .now
 have hsub:isSubtype (.type "tuple") (.ref b.lr)=pure false:=by rw [isSubtype_type]; rfl
 have hI:Ui (model prog w) hp (isInstance (.ref x) (.type "tuple")) true:=t1.andThen (UK X F3.lr.tup)
 simp only [richCompare,cmpInfo_Eq,oneThing_ref]
 refine Yc (Zf (wpAny_cRoomFor hu ?_))
 refine Zf (t1.at (Zf (t2.at ?_)))
 refine YT rfl ?_
 rw [hsub]
 refine Zf (Zm (YR Zn ?_))
 delta tryCompare
 refine Zf (Zf (Fq (t1.andThen (WK X F3.eqf)) (PySem.F.slot_tuple_eq.bind _) (Y7 (Jm PySem.F.slot_tuple_eq.plain PySem.F.entry_tuple_eq (check_slot (owner:="tuple") (n:="__eq__") (by decide +kernel) (by decide +kernel) hI (PySem.F.args_tuple_eq_2 _ _) ?_)))))
 refine SE (s:=⟨hp,g,d,tk,os⟩) hx ht h1 h2 ?_
 exact Zm (Zm h)
theorem Kl{x y:UInt64}{t u:W7}(hb:Uc s.heap)(ht:t≠0)(hu:u≠0)(h:WS x y=some .eq):EqAt A s (.float x t) (.float y u) true:=λprog w E Q q=>
 Dz hb ht hu (λuu=>h) (by exact ZR h▸q)
theorem Zhs{x:UInt64}{n:Int}{t u:W7}(h:Float64.cmpInt x n=some .eq):EqAt A s (.float x t) (.int n u) true:=λprog w E Q q=>by
 refine Yc (YR (λe=>nomatch eq_of_beq e) ?_)
 refine Zf (m:=richCompare .Eq _ _) (Yr (M:=model prog w) (show Zp (model prog w) A (richCompare .Eq (.float x t) (.int n u)) (λv s'=>v = .bool true/\s'=s) E s from PyProof.Rows.eq_fi (Q:=λv s'=>v = .bool true/\s'=s) ⟨by rw [h]; rfl,rfl⟩) (λv s' hv=>?_) λuu uu z=>z)
 obtain ⟨rfl,rfl⟩:=hv; exact Zu q
noncomputable def Vt:Hq->Du->Prop
 | .flt f,.flt g=>WS f g=some .eq
 | .msg x,.msg y=>x=y
 | .lr q i,.tup f g=>WS q f=some .eq/\WS i g=some .eq
 | .lr q i,.tupI f n=>WS q f=some .eq/\Float64.cmpInt i n=some .eq
 | _,_=>False
theorem Sv(F3:K3 K b sm)(X:K.In s.heap)(hb:Uc s.heap)(hu:A.units<Vh){LR TP:Zd}(hLR:∀ p∈LR,s.heap.get? p.1=some p.2)(hTP:∀ p∈TP,s.heap.get? p.1=some p.2){o:Hq}{d:Du}{v u:Zh}(ho:OB b.lr LR o v)(hd:Zih TP d u)(hs:Vt o d):EqAt A s v u true:=by
 cases o with
 | flt f=>
  cases d with
  | flt g=>refine XW ho λt h1 zr=>?_; obtain rfl:=zr; refine XW hd λt' h2 zr=>?_; obtain rfl:=zr; exact Kl hb h1 h2 hs
  | msg y=>exact hs.elim
  | tup f g=>exact hs.elim
  | tupI f g=>exact hs.elim
 | msg x=>
  cases d with
  | flt g=>exact hs.elim
  | msg y=>
   refine zE ho λt zr=>?_; obtain rfl:=zr
   refine zE hd λt' zr=>?_; obtain rfl:=zr
   have e:x=y:=hs
   subst e
   exact Ov x t t'
  | tup f g=>exact hs.elim
  | tupI f g=>exact hs.elim
 | lr q i=>
  cases d with
  | flt g=>exact hs.elim
  | msg y=>exact hs.elim
  | tup f g=>
   refine Hs ho λx dx t u n1 n2 zr=>?_; obtain ⟨rfl,hm⟩:=zr
   refine WT hd λa t' u' n3 n4 zr=>?_; obtain ⟨rfl,hm'⟩:=zr
   have hx:=hLR _ hm
   have ha:=hTP _ hm'
   refine EqAt.of_refs (λe=>?_) (Sl F3 X hx ha hu (Kl hb n1 n3 hs.1) (Kl hb n2 n4 hs.2))
   rw [e,ha] at hx; cases hx
  | tupI f n=>
   refine Hs ho λx dx t u n1 n2 zr=>?_; obtain ⟨rfl,hm⟩:=zr
   refine WT hd λa t' u' n3 n4 zr=>?_; obtain ⟨rfl,hm'⟩:=zr
   have hx:=hLR _ hm
   have ha:=hTP _ hm'
   refine EqAt.of_refs (λe=>?_) (Sl F3 X hx ha hu (Kl hb n1 n3 hs.1) (Zhs hs.2))
   rw [e,ha] at hx; cases hx
end
end
section
open PySem PySem.W PySem.Calls PyProof.Rows PySem.Spec
structure GY (xs ys:List Int):Prop where
 lin:Gq (Wl xs) (Wl ys)
 rk:Gq (WA xs) (WA ys)
noncomputable def JA(mth:Yz)(xs ys:List Int):Nat->Hq
 | 0=>.flt (O3 xs ys)
 | 1=>Gg (JS (Wl xs) (Wl ys))
 | 2=>Gg (JS (WA xs) (WA ys))
 | 3=>.msg (V2 (Uo mth))
 | 4=>VB xs ys
 | _=>VR xs ys
theorem BJ(X:BA K a b sm H0 mg mb c1 P1 c2 P2 c3 P3){LS:Zd}{xl yl:Zo}{vx vy:List Zh}{xs ys:List Int}{ex ey i j:Nat}{mv:Yz}{tm:W7}(hi:LS[i]? = some (xl,ZD vx ex))(hj:LS[j]? = some (yl,ZD vy ey))(ivx:IV vx xs)(ivy:IV vy ys)(KLx:GG Jw vx)(KLy:GG Jw vy)
  (hbx:∀ x∈xs,x.natAbs<=2^12)(hby:∀ y∈ys,y.natAbs<=2^12)(hlen:xs.length=ys.length)(h2:2<=xs.length)(h3:xs.length<200)(mk:Hr mv)(fo:GY xs ys){D:Nat}(hroom:D+7<Zr):I8 w H0 b P1 P2 LS xl yl mv tm (JA mv xs ys) D:=by
 intro n hn tr A' l' s1 q1 q2 hd ha S1 L1 t1 t2
 have hr:A'.depth+7<Zr:=by exact hd▸hroom
 have lx:vx.length=xs.length:=ivx.len
 have ly:vy.length=ys.length:=ivy.len
 exact six (P:=λn=>WN w H0 b.se b.lr P1 P2 (JA mv xs ys n) (VH b (.ref xl) (.ref yl) mv tm tr n) A' l' s1)
  (Zkw X.G X.F S1 L1 t1 t2 hi hj X.B X.fc X.h1 ivx ivy hbx hby hlen h2 (by lia) fo.lin.xy (by lia) ha)
  (Zhy X.G X.F S1 L1 t1 t2 hi hj rfl ivx ivy hbx hby hlen h2 (by lia) fo.lin hr ha)
  (Zhx X.G X.F S1 L1 t1 t2 hi hj X.FF X.hr ivx ivy KLx KLy hlen h2 h3 fo.rk hr ha)
  (Zer X.G X.F S1 L1 t1 t2 hi hj (mo:=some (mv,tm)) (by lia) (by lia) (by lia) mk.n1 mk.n2 mk.r1 mk.r2 (by exact Yg (Zx _ _) (by assumption)) ha)
  (Zjs X.G X.F S1 L1 t1 t2 hi hj X.B X.F3 X.fr X.h2 ivx ivy hbx hby hlen h2 (by lia) fo.lin.xy fo.lin.xx (by lia) ha)
  (Zjr X.G X.F S1 L1 t1 t2 hi hj X.F3 ivx ivy hbx hby hlen h2 (by lia) (by lia) ha) n hn
theorem Ba(X:BA K a b sm H0 mg mb c1 P1 c2 P2 c3 P3){cs:List Zo}{ps1 ps2:Array Zh}{R':Zd}{xl yl:Zo}{mv:Yz}{tm:W7}{outs:Nat->Hq}(C:Cx H0 (A.deeper (wE L lf cd)) (wE L lf cd::l) M sE L m (XQ P1 P2 P3 ps1 ps2 cs R') s)(PT:VI ps1 ps2 cs s)(hM:∀ p∈[P1,P2,P3],p∈M)
  (hc6:I8 w H0 b P1 P2 R' xl yl mv tm outs (A.depth+3))(hroom:A.depth+20<Zr)(hh:A.handled=none)(hu:A.units+50<Vh){x0:Yz}{v0:Zh}(hm0:m x0=some v0){Q:Za}{E:Za}
  (k:∀ TL acc ep q1 q2 cs' LR s',Cx H0 (A.deeper (wE L lf cd)) (wE L lf cd::l) M sE L m ((TL,ZD acc ep)::(LR++XQ P1 P2 P3 q1 q2 cs' R')) s'->acc.length=6->NZ b.lr outs LR acc->VI q1 q2 cs' s'->Nw H0 sE TL->Q (.ref TL) s') :
  Zp (model PW w) (A.deeper (wE L lf cd)) (PySem.call (.ref b.told) [.ref xl,.ref yl,.str mv tm]) Q E s:=by
 refine GK (LS:=R') (R':=[]) X.G X.B X.F X.F3 X.ft X.h3 C (by rw [W9]) hM PT.t1 PT.t2 PT.len PT.rc hc6 (by lia) hh (by lia) hm0 λTL acc ep q1 q2 cs1 LR s1 C1 ha ho x1 x2 hl6 hr nTL=>?_
 rw [W9] at C1
 exact k TL acc ep q1 q2 cs1 LR s1 C1 ha ho ⟨x1,x2,.inr hl6,hr⟩ nTL
theorem Kr(X:BA K a b sm H0 mg mb c1 P1 c2 P2 c3 P3)(XK:K.In s.heap)(hb:Uc s.heap){A':YE}(hu:A'.units<Vh){outs:Nat->Hq}{LR TP:Zd}{acc dv:List Zh}{ds:List Du}(ho:NZ b.lr outs LR acc)(hd:I7 TP ds dv)(hs:∀ i d,ds[i]? = some d->Vt (outs i) d)(hLR:∀ p∈LR,s.heap.get? p.1=some p.2)(hTP:∀ p∈TP,s.heap.get? p.1=some p.2) :
  ∀ (j:Nat) (v u:Zh),acc[j]? = some v->dv[j]? = some u->Bw A' s v u true:=λj v u h1 h2=>by
 have hj:j<ds.length:=by exact hd.len▸(Z5.mp h2).1
 have e:ds[j]? = some ds[j]:=ZE hj
 exact Sv X.F3 XK hb hu hLR hTP (ho j v h1) (hd.at_ j _ u e h2) (hs j _ e)
theorem Zdt(X:BA K a b sm H0 mg mb c1 P1 c2 P2 c3 P3){cs:List Zo}{ps1 ps2:Array Zh}{R' TP:Zd}{fl D du:Zo}{vf va dv:List Zh}{cf cD cdu jf ja jd:Nat}{fs as:List Int}{mth:Yz}{tm:W7}{ds:List Du}
  (C:Cx H0 (A.deeper (wE L lf cd)) (wE L lf cd::l) M sE L m (XQ P1 P2 P3 ps1 ps2 cs R') s)(PT:VI ps1 ps2 cs s)(hM:∀ p∈[P1,P2,P3],p∈M)(hf:m "flat"=some (.ref fl))(ha:m "a"=some (.ref D))(hdm:m "due"=some (.ref du))(hmm:m "method"=some (.str mth tm))
  (hjf:R'[jf]? = some (fl,ZD vf cf))(hja:R'[ja]? = some (D,ZD va cD))(hjd:R'[jd]? = some (du,ZD dv cdu))(hTP:∀ p∈TP,p∈R')(hd:I7 TP ds dv)(hd6:ds.length=6)(ivf:IV vf fs)(iva:IV va as)(KLf:GG Jw vf)(KLa:GG Jw va)(hbf:∀ x∈fs,x.natAbs<=2^12)(hba:∀ x∈as,x.natAbs<=2^12)(hlen:fs.length=as.length)(h2:2<=fs.length)(h3:fs.length<200)(mk:Hr mth)(fo1:GY fs as)(fo2:GY fs fs)
  (s1:∀ i d,ds[i]? = some d->Vt (JA mth fs as i) d)(s2:∀ i d,(ds.take 5)[i]? = some d->Vt (JA mth fs fs i) d)(hroom:A.depth+20<Zr)(hh:A.handled=none)(hu:A.units+50<Vh){Q:Zb}{E:Za}
  (k:∀ q1 q2 cs' s',Cx H0 (A.deeper (wE L lf cd)) (wE L lf cd::l) M sE L m (XQ P1 P2 P3 q1 q2 cs' R') s'->VI q1 q2 cs' s' ->
   Zp (model PW w) (A.deeper (wE L lf cd)) (execs (JR.2.1.drop 23) (wE L lf cd)) Q E s') :
  Zp (model PW w) (A.deeper (wE L lf cd)) (execs (JR.2.1.drop 22) (wE L lf cd)) Q E s:=by
 refine Zg (Yv (UA (Xo (Z8 (Xj (C.globalE X.G X.F.ntold ?_))))))
 refine UQ (C.st.X X.G) X.F.ktold (Zq (C.nameE hf (Zq (C.nameE ha (Zq (C.nameE hmm (ZC ⟨C.st.X X.G,?_⟩)))))))
 refine Ba X C PT hM (BJ X hjf hja ivf iva KLf KLa hbf hba hlen h2 h3 mk fo1 (by lia)) hroom hh hu hf λTL acc ep q1 q2 cs1 LR s3 C1 hacc ho PT1 nTL=>?_
 have C2:=C1.drop (XQ P1 P2 P3 q1 q2 cs1 R') (.cons _ (X0 _ _))
 have hLR:∀ p∈LR,s3.heap.get? p.1=some p.2:=λp hp=>(C1.has p (UY _ (X8 _ hp))).at_
 have hTP1:∀ p∈TP,s3.heap.get? p.1=some p.2:=λp hp=>(C2.has p (.tail _ (.tail _ (.tail _ (hTP p hp))))).at_
 refine C1.nameE hdm (VE (C1.at 0 rfl) (C2.at (jd+3) hjd) (by rw [hacc,hd.len,hd6]) (by show A.units+3<_; lia) (Kr X (C1.st.X X.G) (C1.st.nob X.G) (by show A.units+3+1<_; lia) ho hd s1 hLR hTP1) (Zu ?_))
 refine Y6 rfl ?_
 refine Xo (Z8 (Wd (Xj (C2.globalE X.G X.F.ntold ?_))))
 refine UQ (C2.st.X X.G) X.F.ktold (Zq (C2.nameE hf (Zq (C2.nameE hf (Zq (C2.nameE hmm (ZC ⟨C2.st.X X.G,?_⟩)))))))
 refine Ba X C2 PT1 hM (BJ X hjf hjf ivf ivf KLf KLf hbf hbf rfl h2 h3 mk fo2 (by lia)) hroom hh hu hf λTL2 acc2 ep2 r1 r2 cs2 LR2 s4 C3 hacc2 ho2 PT2 nTL2=>?_
 refine wpAny_Slice (Zm ?_)
 show Zp _ _ (eval _ _) _ _ _
 refine Zt (Zm ?_)
 have CB:=C3.rebase
 refine(CB.tok 1).sliceT (ws:=acc2.take 5) ((CB.tok 1).at 0 rfl) .none (.int _ _) (slicePick_upto' _ 5) (by lia) λT5 s5 C5 n5 t5 k5=>?_
 refine Wd (C5.nameE hdm (wpAny_Slice (Zm ?_)))
 show Zp _ _ (eval _ _) _ _ _
 refine Zt (Zm ?_)
 have hdu5:(tk s5 1).heap.get? du=some (ZD dv cdu):=(C5.has (du,ZD dv cdu) (.tail _ (.tail _ (XD _ (.tail _ (.tail _ (.tail _ (ZG hjd)))))))).at_
 refine(C5.tok 1).sliceT (ws:=dv.take 5) hdu5 .none (.int _ _) (slicePick_upto' _ 5) (by rw [hd.len]; lia) λT6 s6 C6 n6 t6 k6=>?_
 have hLR2:∀ p∈LR2,s6.heap.get? p.1=some p.2:=λp hp=>(C6.has p (.tail _ (.tail _ (.tail _ (X8 _ hp))))).at_
 have hTP2:∀ p∈TP,s6.heap.get? p.1=some p.2:=λp hp=>(C6.has p (.tail _ (.tail _ (.tail _ (XD _ (.tail _ (.tail _ (.tail _ (hTP p hp))))))))).at_
 have cut:∀ {α:Type} {xs:List α} {j:Nat} {v:α},(xs.take 5)[j]? = some v->j<5/\xs[j]? = some v:=λ{α xs j v} h=>by
  rw [List.getElem?_take] at h
  split at h
  ·exact⟨by assumption,h⟩
  ·exact Wu h
 have hdl:dv.length=6:=by rw [hd.len,hd6]
 refine VE (C6.at 1 rfl) (C6.at 0 rfl) (by rw [Uj,Uj,hacc2,hdl]) (by show A.units+3<_; lia) (λj v u e1 e2=>?_) (Zu ?_)
 ·refine zA (cut e1) λhj5 e1=>?_
  refine zA (cut e2) λuu e2=>?_
  have hj:j<ds.length:=by lia
  have e3:ds[j]? = some ds[j]:=ZE hj
  exact Sv X.F3 (C6.st.X X.G) (C6.st.nob X.G) (by show A.units+3+1<_; lia) hLR2 hTP2 (ho2 j v e1) (hd.at_ j _ u e3 e2) (s2 j _ (by rw [List.getElem?_take,if_pos hj5]; exact e3))
 refine Y6 rfl (Vw ?_)
 refine Y6 rfl (Z4 ?_)
 have PT6:=PT2.based C3 C6
 have C7:=(C3.unbase C6).drop (XQ P1 P2 P3 r1 r2 cs2 R') (.cons _ (.cons _ (.cons _ (X0 _ _))))
 exact k r1 r2 cs2 s6 C7 PT6
noncomputable def BR(v:Int):Int:=v*v
noncomputable def Zkr(unk:Yz)(a0:Int)(as:List Int):List Du:=[.flt 0,.msg U9,.msg U9,.msg unk,.tupI 0 a0,.tup (K9 (a0*as.sum) (as.map BR).sum) 0]
theorem Di(X:BA K a b sm H0 mg mb c1 P1 c2 P2 c3 P3)(C:Cx H0 (A.deeper (wE L lf cd)) (wE L lf cd::l) M sE L m led s){D:Zo}{va:List Zh}{cD j:Nat}{as:List Int}{a0:Int}{unk:Yz}{tu tc t0:W7}(hma:m "a"=some (.ref D))(hmu:m "unknown"=some (.str unk tu))(hmc:m "constant"=some (.str U9 tc))(hj:led[j]? = some (D,ZD va cD))(iv:IV va as)(h3:as.length<=100)(hv0:va[0]? = some (.int a0 t0))(ht0:t0≠0)(hb0:a0.natAbs<=512)(hb:∀ x∈as,x.natAbs<=512)(hS:(as.map BR).sum≠0)(hh:A.handled=none){Q:Zb}{E:Za}
  (k:∀ du dv TP s',Cx H0 (A.deeper (wE L lf cd)) (wE L lf cd::l) M sE L (Jh m "due" (.ref du)) ((du,ZD dv)::(TP++led)) s'->I7 TP (Zkr unk a0 as) dv ->
   Zp (model PW w) (A.deeper (wE L lf cd)) (execs (JR.2.1.drop 24) (wE L lf cd)) Q E s') :
  Zp (model PW w) (A.deeper (wE L lf cd)) (execs (JR.2.1.drop 23) (wE L lf cd)) Q E s:=by
 have hh':(A.deeper (wE L lf cd)).handled=none:=hh
 refine Zg (Zv (WB (Zq (Xf ?_))))
 have C1:=C.tok 1
 refine Zq (C1.nameE hmc (Zq (C1.nameE hmc (Zq (C1.nameE hmu ?_)))))
 refine Zq (U7 (Zq (Xf (Zq (Wd ((C1.tok 1).nameE hma (Zt (X9 (Iu ((C1.tok 2).at j hj)) (by decide) (by decide) hv0 ?_))))))))
 refine ZC ⟨H0,_,_,_,sE,L,_,_,C1.tok 2,by rw [ZW]; show 2<=_; decide,λtp1 s2 C2 n2 n2'=>?_⟩
 refine Zq (U7 (Zq (ZH (ZH (Wd (C2.nameE hma (Zt (X9 (Iu ((C2.tok 1).at (j+1) hj)) (by decide) (by decide) hv0 ?_))))))))
 refine Xj ((C2.tok 1).bootE X.G X.F.nsum Boot.«sum» (Zs (Zq ((C2.tok 1).nameE hma (ZC (Zbt ((C2.tok 1).at (j+1) hj) iv hh' λs3 tS g3=>?_))))))
 have C3:=(C2.tok 1).call (g3.go H0 [])
 refine PySem.P.mul_int (Xj ((C3.tok 1).bootE X.G X.F.nsum Boot.«sum» (Zs (Zq ?_))))
 refine(C3.tok 1).intComp (f:=BR) (j+1) hma hj iv (by lia) hh' (λC1 M2 sE2 mC led2 s1 n t Q E hmem C2 hm kk=>?_) λD1 acc c' s4 C4 g4 fr4 n4=>?_
 ·have hn:=hb n hmem
  refine ZH (C2.nameE hm (C2.nameE hm (PySem.P.mul_int ?_)))
  exact kk s1.toks _ (C2.tok 1) (Z6 _) (YM _)
 refine ZC (Zbt (C4.at 0 rfl) fr4.iv hh' λs5 tS2 g5=>?_)
 have C5:=C4.call (g5.go H0 [])
 have hmul:(a0*as.sum).natAbs<2^1023:=by
  rw [Yu]
  exact Yg (Xs hb0 (Zl (G8 (B:=512) as hb) (Yn _ h3))) (by decide +kernel)
 refine NQ hh' hS hmul ?_
 have C6:=C5.tok 1
 refine Zq (Xf (ZC ⟨H0,_,_,_,sE,L,_,_,C6.tok 1,by rw [ZW]; show 2<=_; decide,λtp2 s7 C7 n7 n7'=>?_⟩))
 refine ZC ⟨H0,_,_,_,sE,L,_,_,C7,by rw [ZW]; show 6<=_; decide,λdu s8 C8 n8 n8'=>?_⟩
 refine C8.setE λs9 C9=>?_
 have C10:=C9.drop ((du,_)::((tp2,_)::(tp1,_)::led)) (.cons_cons _ (.cons_cons _ (.cons _ (Yq _))))
 refine k du _ [(tp2,_),(tp1,_)] s9 C10 (.cons ⟨_,Ys C.st.toks,rfl⟩ (.cons ⟨_,rfl⟩ (.cons ⟨_,rfl⟩ (.cons ⟨_,rfl⟩ (.cons ⟨tp1,_,_,XA _,ht0,rfl,.tail _ (.head _)⟩ (.cons ⟨tp2,_,_,Ys C5.st.toks,XA _,rfl,.head _⟩ .nil))))))
theorem Sd{A:YE}{s:Zi}{x y:Zo}{vs:List Zh}{c d:Nat}(h1:s.heap.get? x=some (ZD vs c))(h2:s.heap.get? y=some (ZD vs d))(hne:x≠y)(hu:A.units<Vh):Bw A s (.ref x) (.ref y) true:=by
 have:=SeqAt.RcAt.lists (A:=A) (s:=s) (e:=λuu=>true) (Iu h1) (Iu h2) rfl hu λj a b=>SeqAt.EqAt.same _
 rw [Zfa] at this
 exact SeqAt.EqAt.of_refs hne this
theorem Zao(X:BA K a b sm H0 mg mb c1 P1 c2 P2 c3 P3){cs:List Zo}{ps1 ps2:Array Zh}{R' TP:Zd}{fl D du kp ka kf:Zo}{vf va dv:List Zh}{cf cD cdu ckp cka ckf jf ja jd jk jka jkf:Nat}{fs as:List Int}{mth:Yz}{tm:W7}{ds:List Du}
  (C:Cx H0 (A.deeper (wE L lf cd)) (wE L lf cd::l) M sE L m (XQ P1 P2 P3 ps1 ps2 cs R') s)(PT:VI ps1 ps2 cs s)(hM:∀ p∈[P1,P2,P3],p∈M)(hf:m "flat"=some (.ref fl))(ha:m "a"=some (.ref D))(hdm:m "due"=some (.ref du))(hmk:m "kept"=some (.ref kp))(hmm:m "method"=some (.str mth tm))
  (hjf:R'[jf]? = some (fl,ZD vf cf))(hja:R'[ja]? = some (D,ZD va cD))(hjd:R'[jd]? = some (du,ZD dv cdu))(hjk:R'[jk]? = some (kp,ZD [.ref ka,.ref kf] ckp))(hjka:R'[jka]? = some (ka,ZD va cka))(hjkf:R'[jkf]? = some (kf,ZD vf ckf))(ne1:D≠ka)(ne2:fl≠kf)
  (hTP:∀ p∈TP,p∈R')(hd:I7 TP ds dv)(hd6:ds.length=6)(ivf:IV vf fs)(iva:IV va as)(KLf:GG Jw vf)(KLa:GG Jw va)(hbf:∀ x∈fs,x.natAbs<=2^12)(hba:∀ x∈as,x.natAbs<=2^12)(hlen:as.length=fs.length)(h2:2<=as.length)(h3:as.length<200)(mk:Hr mth)(fo:GY as fs)
  (s1:∀ i d,ds[i]? = some d->Vt (JA mth as fs i) d)(hroom:A.depth+20<Zr)(hh:A.handled=none)(hu:A.units+50<Vh){Q:Zb}{E:Za}
  (k:∀ TL acc ep q1 q2 cs' LR s',Cx H0 (A.deeper (wE L lf cd)) (wE L lf cd::l) M sE L (Jh m "told" (.ref TL)) (XQ P1 P2 P3 q1 q2 cs' ((TL,ZD acc ep)::(LR++R'))) s'->VI q1 q2 cs' s'->acc.length=6->NZ b.lr (JA mth as fs) LR acc ->
   Zp (model PW w) (A.deeper (wE L lf cd)) (execs (JR.2.1.drop 26) (wE L lf cd)) Q E s') :
  Zp (model PW w) (A.deeper (wE L lf cd)) (execs (JR.2.1.drop 24) (wE L lf cd)) Q E s:=by
 refine Zg (Zv (Xj (C.globalE X.G X.F.ntold ?_)))
 refine UQ (C.st.X X.G) X.F.ktold (Zq (C.nameE ha (Zq (C.nameE hf (Zq (C.nameE hmm (ZC ⟨C.st.X X.G,?_⟩)))))))
 refine Ba X C PT hM (BJ X hja hjf iva ivf KLa KLf hba hbf hlen h2 h3 mk fo (by lia)) hroom hh hu ha λTL acc ep q1 q2 cs1 LR s3 C1 hacc ho PT1 nTL=>?_
 have C2:=C1.perm (led':=XQ P1 P2 P3 q1 q2 cs1 ((TL,ZD acc ep)::(LR++R'))) (by
  exact(WL ((TL,ZD acc ep)::LR) [(P1,Ye q1),(P2,Ye q2),(P3,Ye (pT cs1))] R').symm)
 refine C2.rebase.setE λs4 C3=>?_
 have up:∀ {j:Nat} {p:Zo×Xl},R'[j]? = some p->s4.heap.get? p.1=some p.2:=λ{j p} h=>(C3.has p (.tail _ (.tail _ (.tail _ (.tail _ (XD _ (ZG h))))))).at_
 have hLR:∀ p∈LR,s4.heap.get? p.1=some p.2:=λp hp=>(C3.has p (.tail _ (.tail _ (.tail _ (.tail _ (X8 _ hp)))))).at_
 have hTP1:∀ p∈TP,s4.heap.get? p.1=some p.2:=λp hp=>(C3.has p (.tail _ (.tail _ (.tail _ (.tail _ (XD _ (hTP p hp))))))).at_
 refine Zg (Yv (UA (Xo (Z8 (C3.nameE (v:=.ref TL) rfl (C3.nameE (v:=.ref du) (WG (by decide) hdm) ?_))))))
 refine VE (C3.at 3 rfl) (up hjd) (by rw [hacc,hd.len,hd6]) (by show A.units+3<_; lia) (Kr X (C3.st.X X.G) (C3.st.nob X.G) (by show A.units+3+1<_; lia) ho hd s1 hLR hTP1) (Zu ?_)
 refine Y6 rfl ?_
 refine Xo (Z8 (WB (Zq (C3.nameE (v:=.ref D) (WG (by decide) ha) (Zq (C3.nameE (v:=.ref fl) (WG (by decide) hf) (ZC ⟨H0,_,_,_,UL s3 L,L,_,_,C3,by rw [ZW]; show 2<=_; decide,λdd s5 C5 n5 n5'=>?_⟩)))))))
 have up5:∀ {j:Nat} {p:Zo×Xl},R'[j]? = some p->s5.heap.get? p.1=some p.2:=λ{j p} h=>(C5.has p (.tail _ (.tail _ (.tail _ (.tail _ (.tail _ (XD _ (ZG h)))))))).at_
 refine C5.nameE (v:=.ref kp) (WG (by decide) hmk) (VE (C5.at 0 rfl) (up5 hjk) rfl (by show A.units+3<_; lia) (λj v u e1 e2=>?_) (Zu ?_))
 ·match j,e1,e2 with
  | 0,e1,e2=>obtain rfl:=Zz e1; obtain rfl:=Zz e2; exact Sd (up5 hja) (up5 hjka) ne1 (by show A.units+3+1<_; lia)
  | 1,e1,e2=>obtain rfl:=Zz e1; obtain rfl:=Zz e2; exact Sd (up5 hjf) (up5 hjkf) ne2 (by show A.units+3+1<_; lia)
  | n+2,e1,e2=>exact Wu e1
 refine Y6 rfl (Vw ?_)
 refine Y6 rfl (Z4 ?_)
 have PT6:=PT1.based C2 C5
 have C7:=(C2.unbase C5).drop (XQ P1 P2 P3 q1 q2 cs1 ((TL,ZD acc ep)::(LR++R'))) (.cons _ (Yq _))
 exact k TL acc ep q1 q2 cs1 LR s5 C7 PT6 hacc ho
noncomputable def OV(v:Int):Int:=-v
noncomputable def WU(as:List Int):List Int:=as++as.map OV
noncomputable def m1F:UInt64:=U1 0x3ff0000000000000
noncomputable def m2F:UInt64:=U1 0x4000000000000000
noncomputable def Zkq(unk:Yz)(as:List Int):List Du:=[.flt (K9 (-4*(as.map BR).sum) ((WU as).length-1)),.flt m1F,.flt m1F,.msg unk,.tup m2F 0,.tup m2F 0]
theorem Zdo(X:BA K a b sm H0 mg mb c1 P1 c2 P2 c3 P3)(C:Cx H0 (A.deeper (wE L lf cd)) (wE L lf cd::l) M sE L m led s){D:Zo}{va:List Zh}{cD j:Nat}{as:List Int}(hma:m "a"=some (.ref D))(hj:led[j]? = some (D,ZD va cD))(fr:WO va as s.toks)(h3:as.length<=100)(hh:A.handled=none){Q:Zb}{E:Za}
  (k:∀ wd vw s',Cx H0 (A.deeper (wE L lf cd)) (wE L lf cd::l) M sE L (Jh m "wide" (.ref wd)) ((wd,ZD vw)::led) s'->WO vw (WU as) s'.toks ->
   Zp (model PW w) (A.deeper (wE L lf cd)) (execs (JR.2.1.drop 27) (wE L lf cd)) Q E s') :
  Zp (model PW w) (A.deeper (wE L lf cd)) (execs (JR.2.1.drop 26) (wE L lf cd)) Q E s:=by
 refine Zg (Zv (ZH (C.nameE hma ?_)))
 refine C.intCompP (pre:=va) (npre:=as) (f:=OV) fr j hma hj fr.iv (by exact Nat.le_add_left_of_le (by assumption)) hh (λC1 M2 sE2 mC led2 s1 n t Q E uu C2 hm kk=>?_) λD1 acc c' s1 C1 g1 fr1 n1=>?_
 ·refine Uu (C2.nameE hm (neg_int ?_))
  exact kk s1.toks _ (C2.tok 1) (Z6 _) (YM _)
 ·have CB:=C1.rebase
  refine CB.addL (CB.at (j+1) hj) (CB.at 0 rfl) (by have:=fr1.iv.len; simp at this ⊢; lia) λwd s2 C2 n2 n2'=>?_
  refine(C2.drop ((wd,_)::led) (.cons_cons _ (.cons _ (Yq _)))).setE λs4 C4=>?_
  exact k wd _ s4 (C1.unbase C4) (fr1.mono C4.go.toks)
theorem Dh(X:BA K a b sm H0 mg mb c1 P1 c2 P2 c3 P3)(C:Cx H0 (A.deeper (wE L lf cd)) (wE L lf cd::l) M sE L m led s){D wd:Zo}{va vw:List Zh}{cD cw j jw:Nat}{as:List Int}{unk:Yz}{tu:W7}(hma:m "a"=some (.ref D))(hmu:m "unknown"=some (.str unk tu))(hmw:m "wide"=some (.ref wd))(hj:led[j]? = some (D,ZD va cD))(hjw:led[jw]? = some (wd,ZD vw cw))(iv:IV va as)(ivw:IV vw (WU as))(h2:2<=as.length)(h3:as.length<=100)(hb:∀ x∈as,x.natAbs<=512)(hh:A.handled=none){Q:Zb}{E:Za}
  (k:∀ du dv TP s',Cx H0 (A.deeper (wE L lf cd)) (wE L lf cd::l) M sE L (Jh m "due" (.ref du)) ((du,ZD dv)::(TP++led)) s'->I7 TP (Zkq unk as) dv ->
   Zp (model PW w) (A.deeper (wE L lf cd)) (execs (JR.2.1.drop 28) (wE L lf cd)) Q E s') :
  Zp (model PW w) (A.deeper (wE L lf cd)) (execs (JR.2.1.drop 27) (wE L lf cd)) Q E s:=by
 have hh':(A.deeper (wE L lf cd)).handled=none:=hh
 have lw:(WU as).length=as.length+as.length:=by simp [WU]
 have lvw:vw.length=(WU as).length:=ivw.len
 refine Zg (Zv (WB (Zq (ZH (ZH (Uu (Zt (neg_int ?_))))))))
 have C1:=C.tok 2
 refine Xj (C1.bootE X.G X.F.nsum Boot.«sum» (Zs (Zq ?_)))
 refine C1.intComp (f:=BR) j hma hj iv (by exact Nat.le_add_left_of_le (by assumption)) hh' (λC1 M2 sE2 mC led2 s1 n t Q E hmem C2 hm kk=>?_) λD1 acc c' s4 C4 g4 fr4 n4=>?_
 ·have hn:=hb n hmem
  refine ZH (C2.nameE hm (C2.nameE hm (PySem.P.mul_int ?_)))
  exact kk s1.toks _ (C2.tok 1) (Z6 _) (YM _)
 refine ZC (Zbt (C4.at 0 rfl) fr4.iv hh' λs5 tS2 g5=>?_)
 have C5:=(C4.call (g5.go H0 [])).tok 1
 refine PySem.P.mul_int ?_
 refine ZH (Xj (C5.bootE X.G X.F.nlen2 Boot.«len» (Zs (Zq (C5.nameE hmw (ZC (Yo (Iu (C5.at (jw+1) hjw)) (by rw [ZJ]; lia) ?_)))))))
 refine Zt (PySem.P.sub_int ?_)
 have hsq:∀ x∈as.map BR,x.natAbs<=2^18:=λx hx=>by
  refine XW (ZZ.mp hx) λy hy zr=>?_; obtain rfl:=zr
  show(y*y).natAbs<=512*512
  rw [Yu]
  exact Xs (hb y hy) (hb y hy)
 have hsum:=G8 (B:=2^18) (as.map BR) hsq
 rw [YW] at hsum
 have hS:(-4*(as.map BR).sum).natAbs<2^1023:=by
  rw [Yu]
  exact Yg (Xs (Z6 4) (Zl hsum (Yn _ h3))) (by decide +kernel)
 have e9:(vw.toArray.size:Int)-1=((WU as).length:Int)-1:=by rw [ZJ,lvw]
 rw [e9]
 refine NQ hh' (by lia) hS ?_
 have C6:=C5.tok 5
 refine Zq (Uu (Xf (neg_float ?_)))
 refine Zq (Uu (Xf (neg_float ?_)))
 have C7:=C6.tok 4
 refine Zq (C7.nameE hmu ?_)
 refine Zq (U7 (Zq (Uu (Xf (neg_float (Zq (Xf (ZC ⟨H0,_,_,_,sE,L,_,_,C7.tok 3,by rw [ZW]; show 2<=_; decide,λtp1 s8 C8 n8 n8'=>?_⟩))))))))
 refine Zq (U7 (Zq (Uu (Xf (neg_float (Zq (Xf (ZC ⟨H0,_,_,_,sE,L,_,_,C8.tok 3,by rw [ZW]; show 2<=_; decide,λtp2 s9 C9 n9 n9'=>?_⟩))))))))
 refine ZC ⟨H0,_,_,_,sE,L,_,_,C9,by rw [ZW]; show 6<=_; decide,λdu s10 C10 n10 n10'=>?_⟩
 refine C10.setE λs11 C11=>?_
 have C12:=C11.drop ((du,_)::((tp2,_)::(tp1,_)::led)) (.cons_cons _ (.cons_cons _ (.cons_cons _ (.cons _ (Yq _)))))
 refine k du _ [(tp2,_),(tp1,_)] s11 C12 (.cons ⟨_,XA _,rfl⟩ (.cons ⟨_,XA _,rfl⟩ (.cons ⟨_,XA _,rfl⟩ (.cons ⟨_,rfl⟩ (.cons ⟨tp1,_,_,XA _,XA _,rfl,.tail _ (.head _)⟩ (.cons ⟨tp2,_,_,XA _,XA _,rfl,.head _⟩ .nil))))))
end
variable {gt ix dd:Zo}
section
open PySem PySem.W PySem.Calls PyProof.Rows PySem.Spec
theorem OL{it t:Zo}{i:Nat}{ol:Xl}{vs:List Zh}{n:Nat}{x:Zh}{Q:Option Zh->Zi->Prop}(hit:s.heap.get? it=some (Fj t i))(hl:s.heap.get? t=some ol)(hd:ol.data = .seq vs.toArray n)(hx:vs[i]? = some x)
  (hQ:Q (some x) { s with heap:=s.heap.update it (ZP (·.setIfInBounds 1 (Xr ((i:Int)+1)))) }):Zp (model PW w) A (pyNext (.ref it)) Q E s:=by
 have hT:s.TypeIs (.ref it) "tuple_iterator":=⟨_,hit,rfl⟩
 refine Zf (Ut (YY (name:=Zj "__next__") hT PySem.F.slot_tuple_iterator_next
  (Xh PySem.F.slot_tuple_iterator_next hT PySem.F.entry_tuple_iterator_next ?_ (PySem.F.args_tuple_iterator_next_1 _))))
 show Zp _ _ (field (.ref it) 0 >>= _) _ _ s
 refine Zf (YA hit rfl (x:=.ref t) rfl ?_)
 show Zp _ _ (if(ZS t==Yl)=true then _ else _) _ _ s
 refine YR (show ¬ ((ZS t==Yl)=true) from Zn) ?_
 show Zp _ _ (field (.ref it) 1 >>= _) _ _ s
 refine Zf (YA hit rfl (x:=.int i 0) rfl ?_)
 show Zp _ _ (Uq (.ref t) >>= _) _ _ s
 refine Zf (YJ hl hd ?_)
 simp only [XM,XE,hx]
 exact Zf (XY hit rfl (by exact Z6 _) (Zm ⟨x,rfl,Zm hQ⟩))
theorem SM{it t:Zo}{i:Nat}{ol:Xl}{vs:List Zh}{n:Nat}{Q:Option Zh->Zi->Prop}(hh:A.handled=none)(hit:s.heap.get? it=some (Fj t i))(hl:s.heap.get? t=some ol)(hd:ol.data = .seq vs.toArray n)(hx:vs[i]? = none)(hQ:∀ h' e,Ja (s.heap.update it (ZP (·.setIfInBounds 0 .none))) h' e "StopIteration" []->Q none { s with heap:=h' }):Zp (model PW w) A (pyNext (.ref it)) Q E s:=by
 have hT:s.TypeIs (.ref it) "tuple_iterator":=⟨_,hit,rfl⟩
 refine Zf (Ut (YY (name:=Zj "__next__") hT PySem.F.slot_tuple_iterator_next
  (Xh PySem.F.slot_tuple_iterator_next hT PySem.F.entry_tuple_iterator_next ?_ (PySem.F.args_tuple_iterator_next_1 _))))
 show Zp _ _ (field (.ref it) 0 >>= _) _ _ s
 refine Zf (YA hit rfl (x:=.ref t) rfl ?_)
 show Zp _ _ (if(ZS t==Yl)=true then _ else _) _ _ s
 refine YR (show ¬ ((ZS t==Yl)=true) from Zn) ?_
 show Zp _ _ (field (.ref it) 1 >>= _) _ _ s
 refine Zf (YA hit rfl (x:=.int i 0) rfl ?_)
 show Zp _ _ (Uq (.ref t) >>= _) _ _ s
 refine Zf (YJ hl hd ?_)
 simp only [XM,XE,hx]
 refine Zf (Xm (Zf (XY hit rfl (by exact Jb _) ?_)))
 show Zp _ _ (newExc (.type "StopIteration") [] >>= _) _ _ _
 refine Zf (V3 (λh' e hm=>?_))
 refine Zf (Vd ?_)
 rw [show A.in1.handled=none from hh]
 refine XW hm.there λt ht uu=>?_
 refine Zf (Zm (JN ?_))
 refine Zf (wpAny_isInstance (T:="StopIteration") (b:=true) (s:={ s with heap:=h' }) (show Shared.TypeIs { s with heap:=h' } (.ref e) "StopIteration" from⟨_,ht,rfl⟩) owsi_facts.sub ?_)
 exact Zm (hQ h' e hm)
theorem Bp{i owner n:String}{b:Builtin}{self:Zh}{rest:List Zh}{Q:Za}(hp:plainId i=true)(hb:entryFor table i=some b)(hk:Vy i=some .slot)(hs:splitId i=some (owner,n))(hI:Ui (model PW w) s.heap (isInstance self (.type owner)) true)
  (ha:argsOk i ⟨self::rest,[]⟩)(h:Zp (model PW w) A.in1 (b ⟨self::rest,[]⟩) (λfin s'=>∃ v,fin = .done (.ret v)/\Q v s') E s):Zp (model PW w) A (PySem.call (.builtin i) (self::rest)) Q E s:=by
 refine Y7 (Jm hp hb (check_slot hk hs hI ha (Yr h (λfin s' h'=>?_) λuu uu z=>z)))
 refine zE h' λv zr=>?_; obtain ⟨rfl,hv⟩:=zr; exact hv
theorem Zly:Vy "tuple.__len__"=some .slot:=by decide +kernel
theorem Ziq:splitId "tuple.__len__"=some ("tuple","__len__"):=by decide +kernel
theorem Zlz:Vy "tuple.__iter__"=some .slot:=by decide +kernel
theorem Zle:splitId "tuple.__iter__"=some ("tuple","__iter__"):=by decide +kernel
theorem Zma:Vy "tuple.__getitem__"=some .slot:=by decide +kernel
theorem Zlf:splitId "tuple.__getitem__"=some ("tuple","__getitem__"):=by decide +kernel
structure K4 (K:Frag)(b:Ad2)(sm gt ix dd:Zo):Prop where
 k3:K3 K b sm
 gaf:findIn K (.ref b.lr) "__getattribute__"=some (some (.builtin "tuple.__getattribute__"))
 gta:findIn K (.ref b.lr) "__getattr__"=some none
 itf:findIn K (.ref b.lr) "__iter__"=some (some (.builtin "tuple.__iter__"))
 lnf:findIn K (.ref b.lr) "__len__"=some (some (.builtin "tuple.__len__"))
 fo:∀ od,findObj K b.lr (some od) "intercept"=some (.bind (.ref gt) (.ref ix))
 get:Vo K gt "_tuplegetter.__get__" NS (.ref dd) .none
 df:DfK K dd [.none]
 gi:findCls K (.type "tuple") (.type "type") "__getitem__"=some (.val (.builtin "tuple.__getitem__"))
 nis:nsIn K Zw "issubclass"=some none
 ixf:∃ tg dI od t,K.lookup ix=some ⟨.ref tg,some dI,.plain,#[]⟩/\K.lookup dI=some od/\findObj K tg (some od) "index"=some (.value (.int 1 t))/\findIn K (.ref tg) "__getattribute__"=some (some (.builtin "object.__getattribute__"))
theorem Zkd(F4:K4 K b sm gt ix dd)(X:K.In s.heap){x dx:Zo}{u v:Zh}(hx:s.heap.get? x=some (KO b.lr dx [u,v])){Q:Za}(k:∀ t,Q (.int 2 t) { s with toks:=s.toks+2 }):Zp (model PW w) A (PySem.call (.builtin "len") [.ref x]) Q E s:=by
 obtain ⟨hp,g,d,tk,os⟩:=s
 have t1:Ui (model PW w) hp (typeOf (.ref x)) (.ref b.lr):=(JZ hx).andThen .now
 refine call_function_entry kind_len plain_len entry_len (args_len1 _) ?_
 refine Zf (m:=oneArg "len" _) (Zm ?_)
 refine Zf (m:=callSpecial? (.ref x) (Zj "__len__")) ?_
 refine Zf ((t1.andThen (WK X F4.lnf)).at ?_)
 refine Yc (Zf ?_)
 rw [PySem.F.slot_tuple_len.bind]
 refine Zm (Zf (Bp PySem.F.slot_tuple_len.plain PySem.F.entry_tuple_len Zly Ziq (t1.andThen (UK X F4.k3.lr.tup)) (PySem.F.args_tuple_len_1 _) ?_))
 refine Zf (m:=Builtin.Tuple.tupleItemsOf (.ref x)) ?_
 refine Zf (YJ hx rfl (Zm ?_))
 refine Zf (wpAny_mkInt (Zm ⟨_,rfl,?_⟩))
 refine Zm ?_
 refine Zf (Yc (Zm ?_))
 refine Zf (wpAny_letGo ?_)
 refine YR (show ¬ ((2:Int)<0) by decide) ?_
 refine YR (show ¬ ((2:Int)≥2^63) by decide) ?_
 exact Zf (wpAny_mkInt (Zm ⟨_,rfl,k _⟩))
theorem Zgz(F4:K4 K b sm gt ix dd)(X:K.In s.heap){x dx:Zo}{u v:Zh}(hx:s.heap.get? x=some (KO b.lr dx [u,v])){Q:Za}(k:Q (.ref s.heap.objs.size) { s with heap:=s.heap.push (Fj x 0) }):Zp (model PW w) A (pyIter (.ref x)) Q E s:=by
 obtain ⟨hp,g,d,tk,os⟩:=s
 have t1:Ui (model PW w) hp (typeOf (.ref x)) (.ref b.lr):=(JZ hx).andThen .now
 have hf:Ui (model PW w) hp (specialOf (.ref x) "__iter__") (some (.builtin "tuple.__iter__")):=t1.andThen (WK X F4.itf)
 have hN:({ heap:=hp.push (Fj x 0),gens:=g,drawn:=d,toks:=tk,os:=os }:Zi).TypeIs (.ref hp.objs.size) "tuple_iterator":=⟨_,ZK _ rfl,rfl⟩
 have fin:Zp (model PW w) A (PySem.call (.builtin "tuple.__iter__") [.ref x] >>= λv=>pure (some v)) (λr s'=>r=some (.ref hp.objs.size)/\s'=⟨hp.push (Fj x 0),g,d,tk,os⟩) E ⟨hp,g,d,tk,os⟩ :=
  Zf (Bp PySem.F.slot_tuple_iter.plain PySem.F.entry_tuple_iter Zlz Zle (t1.andThen (UK X F4.k3.lr.tup)) (PySem.F.args_tuple_iter_1 _) (Zf (m:=newFields "tuple_iterator" [.ref x,Xr 0]) (Xa (Zm ⟨_,rfl,Zm ⟨rfl,rfl⟩⟩))))
 have one:∀ refuse:Sem Zh,Zp (model PW w) A (Gs (.ref x) "__iter__" refuse) (λr s'=>r=some (.ref hp.objs.size)/\s'=⟨hp.push (Fj x 0),g,d,tk,os⟩) E ⟨hp,g,d,tk,os⟩:=by
  intro refuse
  refine Yc (Zf (Zf (hf.at ?_)))
  refine Zf (wpAny_askSetting (wpAny_ite ?_))
  split
  ·exact Zf (Zm (Zm fin))
  ·exact wpAny_tryCatch (Zf (Zm (Zm fin)))
 refine Zf (hf.at ?_)
 refine Zf (Yr (one _) (λr s' hr=>?_) λuu uu z=>z)
 obtain ⟨rfl,rfl⟩:=hr
 refine Zf (m:=specialOf (.ref hp.objs.size) "__next__") (JX hN PySem.F.slot_tuple_iterator_next.lookup ?_)
 exact Zm k
theorem Zhh(F4:K4 K b sm gt ix dd)(X:K.In s.heap){x dx:Zo}{u v:Zh}(hx:s.heap.get? x=some (KO b.lr dx [u,v])){Q:Bool->Zi->Prop}(k:Q true { s with toks:=s.toks+2 }):Zp (model PW w) A (Jz (.ref x)) Q E s:=by
 obtain ⟨hp,g,d,tk,os⟩:=s
 have t1:Ui (model PW w) hp (typeOf (.ref x)) (.ref b.lr):=(JZ hx).andThen .now
 have hI:Ui (model PW w) hp (isInstance (.ref x) (.type "tuple")) true:=t1.andThen (UK X F4.k3.lr.tup)
 delta Jz
 refine Zf ((t1.andThen (WK X F4.lnf)).at ?_)
 dsimp only
 rw [Ziq]
 refine Zf (hI.at ?_)
 refine YR (by decide) ?_
 refine YT (by decide +kernel) ?_
 refine Zf (t1.at ?_)
 refine Zf (Zkd F4 X hx λt=>?_)
 exact Zm k
theorem Zgs{x D I:Zo}{ox:Xl}{u v:Zh}{n0:Nat}(hd:ox.data = .seq [u,v].toArray n0)(hh:A.handled=none)(hID:I≠D)(hxI:x≠I)(hxD:x≠D)(hHD:H0.get? D=none)(hHI:H0.get? I=none){R:Zc}{c0:Nat}
  (hD:s.heap.get? D=some (ZD [] c0))(hI:s.heap.get? I=some (Fj x 0))(hx:s.heap.get? x=some ox)(nx:nd ox)
  (k:∀ s' c',Go H0 [D,I] s s'->s'.heap.get? D=some (ZD [u,v] c')->R (.ok (.ret .none)) s') :
  Yk (model PW w) A (.builtin "list.extend.loop" ⟨[.ref D,.ref I,.none],[]⟩) R s:=by
 refine KV (λn acc s1=>∃ i c,n=2-i/\i<=2/\acc = [u,v].take i/\Go H0 [D,I] s s1/\s1.heap.get? D=some (ZD acc c)/\s1.heap.get? I=some (Fj x i)) ?_ 2 [] s ⟨0,c0,rfl,by exact Yt _,rfl,Go.refl ..,hD,hI⟩
 rintro n acc s1 ⟨i,c,rfl,hi,rfl,g,h1,h2⟩
 have hx1:s1.heap.get? x=some ox:=g.nd _ _ hx (λh=>by
  exact OH h hxD hxI) nx
 by_cases h:i<2
 ·obtain ⟨z,hz⟩:∃ z,[u,v][i]? = some z:=⟨_,ZE (by simpa using h)⟩
  refine OL h2 hx1 hd hz ?_
  have gI:Go H0 [D,I] s1 { s1 with heap:=s1.heap.update I (ZP (·.setIfInBounds 1 (Xr ((i:Int)+1)))) }:=(Go.upd _ h2 Y5 rfl Y5 hHI).mono (by exact λuu h=>.tail _ h)
  have h3:(s1.heap.update I (ZP (·.setIfInBounds 1 (Xr ((i:Int)+1))))).get? D=some (ZD ([u,v].take i) c):=by exact ZF (Yw _ _ hID) (h1)
  have gD:Go H0 [D,I] { s1 with heap:=s1.heap.update I (ZP (·.setIfInBounds 1 (Xr ((i:Int)+1)))) } { s1 with heap:=(s1.heap.update I (ZP (·.setIfInBounds 1 (Xr ((i:Int)+1))))).update D (Yb (·.push z)) }:=(Go.upd (s:={ s1 with heap:=s1.heap.update I (ZP (·.setIfInBounds 1 (Xr ((i:Int)+1)))) }) _ h3 Xe rfl Xe hHD).mono (by exact Wo (.head _))
  have h6:((s1.heap.update I (ZP (·.setIfInBounds 1 (Xr ((i:Int)+1))))).update D (Yb (·.push z))).get? I=some (Fj x (i+1)):=by
   rw [Yw _ _ hID.symm,(YS (ZP (·.setIfInBounds 1 (Xr ((i:Int)+1)))) h2 rfl)]; simp [ZP,Xr]
  refine⟨c,h3,by rw [ZW,Uj]; lia,2-(i+1),by grind,i+1,c+1,rfl,by assumption,?_,(g.trans gI).trans gD,?_,h6⟩
  ·exact(Bb hz).symm
  ·rw [(YS (Yb (·.push z)) h3 rfl)]; simp [Yb]
 ·have e:i=2:=by lia
  subst e
  refine SM hh h2 hx1 hd rfl λh' e hm=>?_
  have gI:Go H0 [D,I] s1 { s1 with heap:=s1.heap.update I (ZP (·.setIfInBounds 0 .none)) }:=(Go.upd _ h2 Y5 rfl Y5 hHI).mono (by exact λuu h=>.tail _ h)
  have gm:Go H0 [] { s1 with heap:=s1.heap.update I (ZP (·.setIfInBounds 0 .none)) } { s1 with heap:=h' }:=Bc (s:={ s1 with heap:=s1.heap.update I (ZP (·.setIfInBounds 0 .none)) }) hm
  exact k _ c ((g.trans gI).trans (gm.mono YC)) (gm.nd _ _ (by exact ZF (Yw _ _ hID) (h1)) (λh=>nomatch h) Xe)
theorem Sm(G:Gl K H0 mg mb)(F4:K4 K b sm gt ix dd)(S:St H0 A l s){x dx:Zo}{u v:Zh}(hx:s.heap.get? x=some (KO b.lr dx [u,v]))(hh:A.handled=none){Q:Za}
  (k:∀ D c s',Go H0 [] s s'->s.heap.get? D=none->s'.heap.get? D=some (ZD [u,v] c)->Q (.ref D) s'):Zp (model PW w) A (PySem.call (.type "list") [.ref x]) Q E s:=by
 refine callType_codes (Q₁:=λobj s₁=>obj = .ref s.heap.objs.size/\s₁ = { s with heap:=s.heap.push { cls:=.type "list",data:=.seq #[] } }) F.called_list (F.typeCall_list_1 _) F.entry_list_init
  (code_list_new _ ⟨rfl,rfl⟩) λobj s₁ h₁=>?_
 obtain ⟨rfl,rfl⟩:=h₁
 have nD:s.heap.get? s.heap.objs.size=none:=XC
 generalize hD:s.heap.objs.size=D at nD ⊢
 have hS:(s.heap.push (ZD [])).get? D=some (ZD []):=by exact hD▸ZK _ rfl
 have hH:∀ {D},s.heap.get? D=none->H0.get? D=none:=λ{D} nD=>by
  cases q:H0.get? D with
  | none=>rfl
  | some o=>have:=S.glob _ _ q; exact Wu (ZF (ZR nD) this)
 have hHD:=hH nD
 refine⟨⟨_,hS,rfl⟩,F.args_list_init_2 _ _,?_⟩
 show Zp _ A.in1.in1 (do let old <- Builtin.List.listItems (.ref D); Builtin.List.listUpdate (.ref D) (λuu=>#[]); letGo old.toList.reverse; XI (.ref D) (.ref x) .none) _ _ _
 refine Zf ?_
 refine Zf (YJ (s:={ s with heap:=s.heap.push (ZD []) }) hS rfl (Zm ?_))
 show Zp _ A.in1.in1 (updateSeq D (λuu=>#[]) >>= λuu=>letGo (#[]:Array Zh).toList.reverse >>= λuu=>XI (.ref D) (.ref x) .none) _ _ _
 refine Zf (JW hS rfl ?_)
 have hS₂:=YS (Yb (λuu=>(#[]:Array Zh))) hS rfl
 refine Zf (wpAny_letGo ?_)
 have G0:Go H0 [] s { s with heap:=s.heap.push (ZD []) }:=Go.push _
 have G1:Go H0 [D] { s with heap:=s.heap.push (ZD []) } { s with heap:=(s.heap.push (ZD [])).update D (Yb (λuu=>(#[]:Array Zh))) }:=.upd (s:={ s with heap:=s.heap.push (ZD []) }) _ hS Xe rfl Xe hHD
 have hDn:∀ p∈[D],p∈([]:List Zo)\/s.heap.get? p=none:=λp hp=>.inr (by exact(Zk.mp hp)▸nD)
 have G2:=G0.step G1 hDn
 have S2:=S.go G2
 have hxD:x≠D:=BX hx nD
 have hx2:=G2.nd _ _ hx (λh=>nomatch h) Xe
 generalize hs2:({ s with heap:=(s.heap.push (ZD [])).update D (Yb (λuu=>(#[]:Array Zh))) }:Zi)=s2 at G2 S2 hx2
 have hS2:s2.heap.get? D=some (ZD []):=by exact hs2▸hS₂
 have X2:=S2.X G
 delta XI
 have t1:Ui (model PW w) s2.heap (typeOf (.ref x)) (.ref b.lr):=(JZ hx2).andThen .now
 refine Zf (t1.here ?_)
 have h1:WX (.ref D) (.ref x)=false:=by simp [WX,hxD.symm]
 have h2:(ZS b.lr==Ug "list")=false:=rfl
 have h3:(ZS b.lr==Ug "tuple")=false:=rfl
 rw [h1,h2,h3]
 refine Zf (Zgz F4 X2 hx2 ?_)
 have nI:s2.heap.get? s2.heap.objs.size=none:=XC
 have g3:Go H0 [] s2 { s2 with heap:=s2.heap.push (Fj x 0) }:=Go.push _
 have hI3:(s2.heap.push (Fj x 0)).get? s2.heap.objs.size=some (Fj x 0):=ZK _ rfl
 generalize hI:s2.heap.objs.size=I at nI hI3 ⊢
 have S3:=S2.go g3
 have hx3:=g3.nd _ _ hx2 (λh=>nomatch h) Xe
 have hD3:=g3.nd _ _ hS2 (λh=>nomatch h) Xe
 refine Zf (Yc (Zhh F4 (S3.X G) hx3 ?_))
 show Zp _ A.in1.in1 (rule "list.extend.makes-room" >>= λuu=>Builtin.List.listTouch (.ref D) >>= λuu=>
  again (.builtin "list.extend.loop" ⟨[.ref D,.ref I,.none],[]⟩)) _ _ _
 refine Zf (Xm ?_)
 have g4:Go H0 [] { s2 with heap:=s2.heap.push (Fj x 0) } { s2 with heap:=s2.heap.push (Fj x 0),toks:=s2.toks+2 }:=Go.ext (s:={ s2 with heap:=s2.heap.push (Fj x 0) }) (s':={ s2 with heap:=s2.heap.push (Fj x 0),toks:=s2.toks+2 }) (λuu uu h=>h) (Zx _ _) rfl rfl []
 refine Zf (Nr (H0:=H0) (s:={ s2 with heap:=s2.heap.push (Fj x 0),toks:=s2.toks+2 }) hD3 hHD λs5 c5 g5 hS5=>?_)
 have nIs:s.heap.get? I=none:=by
  cases z:s.heap.get? I with
  | none=>rfl
  | some o=>refine zE (G2.there _ _ z) λo' y=>?_; exact Wu (ZF (ZR nI) y)
 have hID:I≠D:=λe=>by rw [e,hS2] at nI; exact noN nI
 have hI5:=g5.nd _ _ hI3 (λh=>hID (Zk.mp h)) Y5
 have hx5:=g5.nd _ _ hx3 (λh=>hxD (Zk.mp h)) Xe
 refine Zm ⟨Wv PySem.F.plain_extend_loop _,Zgs (H0:=H0) rfl (A:=A.in1) hh hID (BX hx nIs) hxD hHD (hH nIs) hS5 hI5 hx5 Xe λs6 c6 g6 hD6=>⟨rfl,?_⟩⟩
 have gAll:Go H0 [] s s6:=by
  have ga:=((G2.trans g3).trans g4).step g5 hDn
  exact ga.step g6 (Xu (.inr nD) (Wo (.inr nIs)))
 exact k D c6 s6 gAll nD hD6
theorem Dj(F4:K4 K b sm gt ix dd):Meets (Builtin.«issubclass» ⟨[.ref b.lr,.type "tuple"],[]⟩) (λuu R s=>K.In s.heap/\R (.ok (.ret (.bool true))) s):=λprog w A R s hx=>by
 refine zA hx λX k=>?_
 obtain ⟨hp,g,d,tk,os⟩:=s
 refine GH F4.k3.lr.obj λoc od cd sl ho hm hb hd h4=>?_
 refine issubclass_outer ?_
 delta Builtin.«issubclass.nested»
 dsimp only
 refine Zf (m:=typeOf (.type "tuple")) (Xk (a:=Ug "type") rfl ?_)
 refine YT rfl ?_
 refine Zf (Zf (m:=isType (.ref b.lr)) (Zf (wpAny_loadPart (X _ _ ho) (Zm ?_))))
 refine Zf (m:=isType (.type "tuple")) (Zm ?_)
 refine YT rfl ?_
 refine(UK X F4.k3.lr.tup).at ?_
 exact Zm k
theorem Zhb(F4:K4 K b sm gt ix dd)(X:K.In s.heap){Q:Za}(k:Q (.bool true) s):Zp (model PW w) A (PySem.call (.builtin "issubclass") [.ref b.lr,.type "tuple"]) Q E s :=
 call_issubclass (Dj F4) ⟨X,k⟩
theorem OI{cl:Zh}{l:Zo}{u v:Zh}{n:Nat}{t:W7}{dd:Option Zo}{sl:Array (Option Zh)}{Q:Fin->Zi->Prop}(hl:s.heap.get? l=some { cls:=cl,dict:=dd,data:=.seq #[u,v] n,slots:=sl })(h:Q (.done (.ret v)) s) :
  Zp (model PW w) A (Builtin.«tuple.__getitem__» ⟨[.ref l,.int 1 t],[]⟩) Q E s:=by
 obtain ⟨hp,g,d,tk,os⟩:=s
 have f1:=AutoSeq1.idx_int
 wp_walk using wpAny_loadPart' hl
 exact h
theorem Dt(F4:K4 K b sm gt ix dd)(X:K.In s.heap){x dx:Zo}{u v:Zh}{t:W7}(hx:s.heap.get? x=some (KO b.lr dx [u,v])){Q:Za}(k:Q v s):Zp (model PW w) A (PySem.call (.builtin "tuple.__getitem__") [.ref x,.int 1 t]) Q E s:=by
 obtain ⟨hp,g,d,tk,os⟩:=s
 exact Bp PySem.F.slot_tuple_getitem.plain PySem.F.entry_tuple_getitem Zma Zlf (((JZ hx).andThen .now).andThen (UK X F4.k3.lr.tup)) (PySem.F.args_tuple_getitem_2 _ _) (OI hx ⟨_,rfl,k⟩)
theorem Zjh(G:Gl K H0 mg mb)(FF:KF K a)(F4:K4 K b sm gt ix dd)(S:St H0 A l s){x dx:Zo}{u v:Zh}(ox:Wy s.heap (x,KO b.lr dx [u,v]))(hroom:A.depth<Zr){R:Zc}
  (k:∀ s',Go H0 [] s s'->R (.ok (.ret v)) s'):Yk (model PW w) A (.call (.ref gt) ⟨[.ref ix,.ref x,.ref b.lr],[]⟩) R s:=by
 refine G7 F4.df λo n ho hs=>?_
 refine VS F4.ixf λtg dI od t hi hdI hf hga=>?_
 refine Ub (binds:=[(Zj "self",.ref ix),(Zj "obj",.ref x),(Zj "objtype",.ref b.lr)]) G S F4.get [] [(x,KO b.lr dx [u,v])] (λp hp=>by exact(Zk.mp hp)▸ox) (by exact nd1) hroom (λuu uu uu uu uu uu=>binds_K (S.X G) rfl ho hs rfl rfl) (by decide) (locs rfl) λL cdv s1 uu C=>?_
 refine Zg (Yv (Z8 (C.name (v:=.ref x) rfl (Wm (is_ref_none (Zu ?_))))))
 refine Y6 rfl (Z4 ?_)
 refine Zg (Yv (Xg (ZY (Xj (C.boot G F4.nis Boot.«issubclass» (Zs (Zq ?_)))) rfl)))
 refine Xj (C.boot G FF.ntype Boot.«type» (PySem.callWith_type rfl (Vx (Zq (C.name (v:=.ref x) rfl (ZC (To (C.at 0 rfl) rfl ?_)))))))
 refine Zq (C.boot G F4.k3.ntuple Boot.«tuple» (ZC (Zhb F4 (C.st.X G) (Zu ?_))))
 refine Y6 rfl (Z4 ?_)
 refine Zg (Ym (MethodCall_ (C.boot G F4.k3.ntuple Boot.«tuple» ?_)))
 refine HD (T:="tuple") (C.st.X G) rfl (by kernel_rfl) F4.gi rfl ?_
 have C2:=C.tok 1
 have X2:=C2.st.X G
 refine Zs (Zq (C2.name (v:=.ref x) rfl (Zq (Attribute_Name_ (C2.name (v:=.ref ix) rfl (get_value X2 ⟨X2 _ _ hi,rfl,rfl,X2 _ _ hdI⟩ hga hf rfl (ZC ?_)))))))
 have C3:=C2.tok 1
 exact Dt F4 (C3.st.X G) (C3.at 0 rfl) (k _ C3.go)
theorem Zmb:Vy "tuple.__getattribute__"=some .slot:=by decide +kernel
theorem Zlg:splitId "tuple.__getattribute__"=some ("tuple","__getattribute__"):=by decide +kernel
theorem Zmf:(Value.builtin "tuple.__getattribute__"==Value.builtin "object.__getattribute__")=false:=by decide +kernel
theorem Zid(G:Gl K H0 mg mb)(FF:KF K a)(F4:K4 K b sm gt ix dd)(S:St H0 A l s){x dx:Zo}{u v:Zh}(ox:Wy s.heap (x,KO b.lr dx [u,v]))(hroom:A.depth<Zr)(hv:Jk v=true){Q:Za}
  (k:∀ s',Go H0 [] s s'->Q v s'){expr:Bool}:Zp (model PW w) A (getAttr (.ref x) "intercept" expr) Q E s:=by
 obtain ⟨hp,g,d,tk,os⟩:=s
 have X:K.In hp:=S.X G
 refine XW (ox.dx dx rfl) λod hod uu=>?_
 have I:InstAt hp x (KO b.lr dx [u,v]) b.lr (some od):=⟨ox.at_,rfl,rfl,hod⟩
 have L0:=I.type (M:=model PW w)
 refine Zf (wpAny_mkText (Yc (Zf (L0.at (Zf ((WK (M:=model PW w) X F4.gaf).at ?_))))))
 dsimp only
 rw [show(onTheHeap (.ref b.lr)&&Value.builtin "tuple.__getattribute__"==Value.builtin "object.__getattribute__")=false from by rw [Zmf,Bool.and_false],if_neg Zn]
 delta getAttrByItsOwn
 refine Zf ((looks_hook (M:=model PW w) (mc:=.ref b.lr) X (r:=none) F4.gta).at (Zf (Ut (Yc ?_))))
 delta callGetattribute
 rw [show(expr&&onTheHeap (Value.builtin "tuple.__getattribute__"))=false from Bool.and_false _,if_neg Zn]
 delta boundAndCalled
 rw [PySem.F.slot_tuple_getattribute.bind]
 refine Zf (Zm ?_)
 refine Bp (self:=.ref x) (rest:=[.str "intercept" tk]) PySem.F.slot_tuple_getattribute.plain PySem.F.entry_tuple_ga Zmb Zlg (L0.andThen (UK X F4.k3.lr.tup)) (PySem.F.args_tuple_getattribute_2 _ _) ?_
 delta Builtin.«object.__getattribute__»
 refine Zf (Zm (Zf (Zm (Zf (L0.at (Zf ((looks_find (M:=model PW w) X I (F4.fo od)).at ?_)))))))
 show Zp _ _ (holding [.ref ix] (PySem.call (.ref gt) [.ref ix,.ref x,.ref b.lr]) >>= ret) _ _ _
 have g0:Go H0 [] ⟨hp,g,d,tk,os⟩ ⟨hp,g,d,tk+1,os⟩:=Go.ext (s:=⟨hp,g,d,tk,os⟩) (s':=⟨hp,g,d,tk+1,os⟩) (λuu uu h=>h) (Wb _) rfl rfl []
 refine Zf (Yc (Y7 (Zjh G FF F4 ((S.go g0).around (A':=A.in1) rfl) (ox.go g0 λh=>nomatch h) hroom λs' g'=>Zm ⟨_,rfl,?_⟩)))
 show Zp _ _ (handedOut v) _ _ _
 rw [handedOut_of hv]
 exact Zm (k s' (g0.trans g'))
noncomputable def Gy(v:Int):Int:=-2*v
theorem Zkc{v:Int}{m k:Nat}(h:v.natAbs<=m)(hk:2*m<=k):(Gy v).natAbs<=k:=by unfold Gy; rw [Yu]; exact Zl (Xc 2 h) hk
theorem Zds(X:BA K a b sm H0 mg mb c1 P1 c2 P2 c3 P3){cs:List Zo}{ps1 ps2:Array Zh}{R' TP:Zd}{wd du:Zo}{vw dv:List Zh}{cw cdu jw jd:Nat}{ws:List Int}{mth:Yz}{tm:W7}{ds:List Du}
  (C:Cx H0 (A.deeper (wE L lf cd)) (wE L lf cd::l) M sE L m (XQ P1 P2 P3 ps1 ps2 cs R') s)(PT:VI ps1 ps2 cs s)(hM:∀ p∈[P1,P2,P3],p∈M)(hw:m "wide"=some (.ref wd))(hdm:m "due"=some (.ref du))(hmm:m "method"=some (.str mth tm))
  (hjw:R'[jw]? = some (wd,ZD vw cw))(hjd:R'[jd]? = some (du,ZD dv cdu))(hTP:∀ p∈TP,p∈R')(hd:I7 TP ds dv)(hd6:ds.length=6)(ivw:IV vw ws)(KLw:GG Jw vw)(hbw:∀ x∈ws,x.natAbs<=2^11)(h2:2<=ws.length)(h3:ws.length<200)(mk:Hr mth)(fo:GY ws (ws.map Gy))
  (hs1:∀ i d,ds[i]? = some d->Vt (JA mth ws (ws.map Gy) i) d)(hroom:A.depth+20<Zr)(hh:A.handled=none)(hu:A.units+50<Vh){Q:Zb}{E:Za}
  (k:∀ q1 q2 cs' s',Cx H0 (A.deeper (wE L lf cd)) (wE L lf cd::l) M sE L m (XQ P1 P2 P3 q1 q2 cs' R') s'->VI q1 q2 cs' s' ->
   Zp (model PW w) (A.deeper (wE L lf cd)) (execs (JR.2.1.drop 29) (wE L lf cd)) Q E s') :
  Zp (model PW w) (A.deeper (wE L lf cd)) (execs (JR.2.1.drop 28) (wE L lf cd)) Q E s:=by
 refine Zg (Yv (Z8 (Xj (C.globalE X.G X.F.ntold ?_))))
 have CB:=C.rebase
 refine UQ (C.st.X X.G) X.F.ktold (Zq (CB.nameE hw (Zq ?_)))
 refine CB.intComp (f:=Gy) (jw+3) hw hjw ivw (by lia) hh (λC1 M2 sE2 mC led2 s1 n t Q E hmem C2 hm kk=>?_) λD1 acc c' s1 C1 g1 fr1 n1=>?_
 ·have hn:=hbw n hmem
  refine ZH (Uu (Zt (neg_int ((C2.tok 2).nameE hm (PySem.P.mul_int ?_)))))
  exact kk (s1.toks+2) _ (C2.tok 3) (Zx _ _) (YM _)
 refine Zq (C1.nameE hmm (ZC ⟨C1.st.X X.G,?_⟩))
 have PT1:=PT.based C C1
 have C2:=(C.unbase C1).perm (led':=XQ P1 P2 P3 ps1 ps2 cs ((D1,ZD acc c')::R')) (by
  exact(WL [(D1,ZD acc c')] [(P1,Ye ps1),(P2,Ye ps2),(P3,Ye (pT cs))] R').symm)
 refine Ba X C2 PT1 hM (BJ X (i:=jw+1) (j:=0) hjw rfl ivw fr1.iv KLw fr1.key (λx hx=>Zl (hbw x hx) (by decide)) (λx hx=>?_) (by rw [YW]) h2 h3 mk fo (by lia)) hroom hh hu hw λTL acc2 ep q1 q2 cs1 LR s3 C3 hacc ho PT3 nTL=>?_
 ·refine XW (ZZ.mp hx) λy hy zr=>?_; obtain rfl:=zr
  have:=hbw y hy
  show(-2*y).natAbs<=2*2^11
  rw [Yu]
  exact Xs (Z6 2) this
 have C4:=C3.drop (XQ P1 P2 P3 q1 q2 cs1 R') (.cons _ (List.Sublist.trans (.cons_cons _ (.cons_cons _ (.cons_cons _ (.cons _ (Yq _))))) (X0 _ _)))
 have hLR:∀ p∈LR,s3.heap.get? p.1=some p.2:=λp hp=>(C3.has p (UY _ (X8 _ hp))).at_
 have hTP1:∀ p∈TP,s3.heap.get? p.1=some p.2:=λp hp=>(C4.has p (.tail _ (.tail _ (.tail _ (hTP p hp))))).at_
 refine C3.nameE hdm (VE (C3.at 0 rfl) (C4.at (jd+3) hjd) (by rw [hacc,hd.len,hd6]) (by show A.units+3<_; lia) (Kr X (C3.st.X X.G) (C3.st.nob X.G) (by show A.units+3+1<_; lia) ho hd hs1 hLR hTP1) (Zu ?_))
 refine Y6 rfl (Z4 ?_)
 exact k q1 q2 cs1 s3 C4 PT3
theorem Cx.listCompI{elt iter:Vz}{x:Yz}{px:V7}{ifs:List Vz}{scope:US}{cl:List (Yz×Zo)}{pos:V7}{Q:Za}{P:Nat->List Zh->W7->Prop}
  (hh:A.handled=none)(hclos:JU scope env=pure cl)(hcell:∀ y∈scope.names,y.2 ≠ .cell)(hkind:scope.kind = .function)
  (hnames:∀ y∈scope.names,y.2 = .local->scope.names.lookup y.1=some .local)(hx:scope.names.lookup x=some .local)(mono:∀ i acc n n',P i acc n->n<=n'->P i acc n')
  (h:Zp (model PW w) A (eval iter env) (λxv s₁=>∃ (led:Zd) (a:Zo) (vals:List Zh) (ep j:Nat),xv = .ref a/\vals.length<=1000/\led[j]? = some (a,ZD vals ep)/\Cx H0 A l M sE L m led s₁/\P 0 [] s₁.toks /\
   (∀ I D C,S7 w H0 A l led vals I a D C s₁ x ifs elt (Jl scope cl C env) P) /\
   (∀ D acc c s',Go H0 [] s₁ s'->P vals.length acc s'.toks->Wy s'.heap (D,ZD acc c)->s₁.heap.get? D=none->Q (.ref D) s')) E s)
  (hs:∀ x,foldedSetIterable iter env x=pure x:=by intro _; rfl) :
  Zp (model PW w) A (eval (.ListComp elt [⟨.Name x px,iter,ifs,0⟩] scope pos) env) Q E s:=by
 rw [eval_ListComp]
 refine wpAny_comprehension_free (use:=none) rfl hs hclos hkind hnames (Yr h (λxv s₁ h₁=>?_) λuu uu e=>e)
 refine Zjd h₁ λled a vals ep j zr=>?_; obtain ⟨rfl,hlen,ha,C,h0,turn,k⟩:=zr
 refine W8 ⟨_,(C.at j ha),rfl,_,rfl⟩ (Xa (Vv hcell (by intro y hy; simp at hy) (λh₁ hns₁ hsb₁=>?_) hkind) (by exact Yt _))
 have g2:Go H0 [] s₁ { s₁ with heap:=(s₁.heap.push (WV a 0)).push (ZD []) }:=(Go.push (s:=s₁) _).trans (Go.push (s:={ s₁ with heap:=s₁.heap.push (WV a 0) }) _)
 have C3:=((C.push (WV a 0) rfl Y5 rfl).push (ZD []) rfl Xe rfl).inner (k:=0) g2 hns₁ hsb₁
 have nI:s₁.heap.get? s₁.heap.objs.size=none:=XC
 have nD:s₁.heap.get? (s₁.heap.push (WV a 0)).objs.size=none:=Je (by rw [Xq]; exact Wb _)
 have loop:Yk (model PW w) A (.compLoop (.ListComp elt [⟨.Name x px,iter,ifs,0⟩] scope pos) 0 (.ref s₁.heap.objs.size) (.ref (s₁.heap.push (WV a 0)).objs.size) (Jl scope cl ((s₁.heap.push (WV a 0)).push (ZD [])).objs.size env))
   (compPost (model PW w) A E none Q (.ref (s₁.heap.push (WV a 0)).objs.size) ((s₁.heap.push (WV a 0)).push (ZD [])).objs.size) { s₁ with heap:=h₁,toks:=s₁.toks+0 }:=by
  refine Iw (cenv:=Jl scope cl ((s₁.heap.push (WV a 0)).push (ZD [])).objs.size env) (j:=j) (P:=P) hh rfl (show Env.kindOf _ x=_ from lookup_relabel_local hx) (by show(scope.kind == .class||(scope.kind == .module&&_))=false; rw [hkind]; rfl) ha (C.noE nI).h nI (C.noE nD).h nD hlen mono (turn _ _ _) (λmC acc c s' C4 hP=>?_) C3 h0
  refine⟨mC,C4.ns,λh' hs'=>?_⟩
  have hDC:(s₁.heap.push (WV a 0)).objs.size≠((s₁.heap.push (WV a 0)).push (ZD [])).objs.size:=by rw [Xq (s₁.heap.push (WV a 0))]; exact X7 (YM _)
  exact k _ acc c _ (DY C4.go C3.new C.st.glob hs') hP (VD ((hs'.2 _ hDC).trans (C4.at 0 rfl))) nD
 refine codeAny_compStart_list loop (wpAny_pyIter_listiter ⟨_,C3.at 1 rfl,rfl,rfl⟩ loop)
theorem Zgt(X:BA K a b sm H0 mg mb c1 P1 c2 P2 c3 P3)(F4:K4 K b sm gt ix dd)(C:Cx H0 (A.deeper (wE L lf cd)) (wE L lf cd::l) M sE L m led s){D TL:Zo}{va acc:List Zh}{LR:Zd}{cD ep j jt:Nat}{outs:Nat->Hq}{f0 q4 i4 q5 i5:UInt64}{a0:Int}{t0:W7}(hma:m "a"=some (.ref D))(hmt:m "told"=some (.ref TL))(hj:led[j]? = some (D,ZD va cD))(hjt:led[jt]? = some (TL,ZD acc ep))(hLR:∀ p∈LR,p∈led)(ho:NZ b.lr outs LR acc)(hacc:acc.length=6)(o0:outs 0 = .flt f0)(o4:outs 4 = .lr q4 i4)(o5:outs 5 = .lr q5 i5)(hv0:va[0]? = some (.int a0 t0))(hcmp:Float64.cmpInt i4 a0=some .eq)(hroom:A.depth+20<Zr)(hh:A.handled=none)(hu:A.units+50<Vh){Q:Zb}{E:Za}
  (k:∀ s',Cx H0 (A.deeper (wE L lf cd)) (wE L lf cd::l) M sE L m led s'->Q (.ret (.bool true)) s') :
  Zp (model PW w) (A.deeper (wE L lf cd)) (execs (JR.2.1.drop 29) (wE L lf cd)) Q E s:=by
 have hh':(A.deeper (wE L lf cd)).handled=none:=hh
 obtain ⟨v0,h0⟩:∃ v,acc[0]? = some v:=⟨_,ZE (by lia)⟩
 obtain ⟨v4,h4⟩:∃ v,acc[4]? = some v:=⟨_,ZE (by lia)⟩
 obtain ⟨v5,h5⟩:∃ v,acc[5]? = some v:=⟨_,ZE (by exact Xw (ZR (by assumption)))⟩
 have w0:=ho 0 v0 h0
 have w4:=ho 4 v4 h4
 have w5:=ho 5 v5 h5
 rw [o0] at w0; rw [o4] at w4; rw [o5] at w5
 refine XW w0 λt uu zr=>?_; obtain rfl:=zr
 refine Hs w4 λx4 dx4 t4 u4 uu n4 zr=>?_; obtain ⟨rfl,m4⟩:=zr
 refine Hs w5 λx5 dx5 t5 u5 uu uu zr=>?_; obtain ⟨rfl,m5⟩:=zr
 refine Zg (Ym (BoolOp_and (U6 ?_)))
 refine Cx.listCompI (H0:=H0) (l:=wE L lf cd::l) (M:=M) (sE:=sE) (L:=L) (m:=m) (P:=λi acc uu=>acc=ZM i (.type "float")) hh' rfl (by decide) rfl (by decide) rfl (λuu uu uu uu h uu=>h) ?_
 refine ZH (ZH (WB (Zq (Wd (C.nameE hmt (Zt (X9 (Iu ((C.tok 1).at jt hjt)) (by decide) (by decide) h0 (ZC ⟨H0,_,_,_,sE,L,_,_,C.tok 1,by rw [ZW]; show 1<=_; decide,λD1 s1 C1 n1 n1'=>?_⟩))))))))
 refine Xj (C1.bootE X.G X.F.nlist2 Boot.«list» (W5 (Zq (Wd (C1.nameE hmt (Zt (X9 (Iu ((C1.tok 1).at (jt+1) hjt)) (by decide) (by decide) h4 (ZC ?_))))))))
 have C2:=C1.tok 1
 have o4':Wy (tk s1 1).heap (x4,KO b.lr dx4 [.float q4 t4,.float i4 u4]):=C2.has _ (.tail _ (hLR _ m4))
 refine Sm X.G F4 C2.st o4'.at_ hh' λD2 c2 s2 g2 n2 e2=>?_
 have C3:=C2.addNew g2 (.of e2 Xe rfl) n2 rfl
 refine C3.addL (C3.at 1 rfl) (C3.at 0 rfl) (by exact Wk rfl) λD3 s3 C4 n4 n4'=>?_
 refine Xj (C4.bootE X.G X.F.nlist2 Boot.«list» (W5 (Zq (Wd (C4.nameE hmt (Zt (X9 (Iu ((C4.tok 1).at (jt+3) hjt)) (by decide) (by decide) h5 (ZC ?_))))))))
 have C5:=C4.tok 1
 have o5':Wy (tk s3 1).heap (x5,KO b.lr dx5 [.float q5 t5,.float i5 u5]):=C5.has _ (.tail _ (.tail _ (.tail _ (hLR _ m5))))
 refine Sm X.G F4 C5.st o5'.at_ hh' λD4 c4 s4 g4 n4 e4=>?_
 have C6:=C5.addNew g4 (.of e4 Xe rfl) n4 rfl
 refine C6.addL (C6.at 1 rfl) (C6.at 0 rfl) (by exact Wk rfl) λD5 s5 C7 n5 n5'=>?_
 refine⟨_,D5,[.float f0 t,.float q4 t4,.float i4 u4,.float q5 t5,.float i5 u5],0,0,rfl,by exact Wk rfl,rfl,C7,rfl,λI D' Cc=>?_,λD6 acc6 c6 s6 g6 h6 ok6 n6=>?_⟩
 ·intro i' v acc c1 mC s1 E' hvi hP hm C2
  rw [List.forIn_nil]
  refine Zm (YV rfl ?_)
  refine zEE ((Wr.mpr ⟨⟨_,_,rfl⟩,Wr.mpr ⟨⟨_,_,rfl⟩,Wr.mpr ⟨⟨_,_,rfl⟩,Wr.mpr ⟨⟨_,_,rfl⟩,Wr.mpr ⟨⟨_,_,rfl⟩,λuu h=>absurd h Wf⟩⟩⟩⟩⟩:∀ v∈[J0 f0 t,.float q4 t4,.float i4 u4,.float q5 t5,.float i5 u5],∃ f tf,v=J0 f tf) v (ZG hvi):∃ f tf,v = .float f tf) λf tf zr=>?_; obtain rfl:=zr
  refine Xj (C2.bootE X.G X.F.ntype2 Boot.«type» (PySem.callWith_type rfl (Vx (Zq (C2.nameE (v:=.float f tf) hm (ZC (call_type_of (typeIs_float _ _ _) (by decide) ⟨C2,?_⟩)))))))
  exact hP▸(List.replicate_succ' ..).symm
 have C8:=C7.addNew g6 ok6 n6 rfl
 refine ZH (WB (Zq (C8.bootE X.G X.F.nfloat2 Boot.«float» (ZC ⟨H0,_,_,_,sE,L,_,_,C8,by rw [ZW]; show 1<=_; decide,λD9 s9 C9 n9 n9'=>?_⟩))))
 refine Zt ((C9.tok 1).mulL (n:=5) ((C9.tok 1).at 0 rfl) rfl (by decide) λD10 s10 C10 n10 n10'=>?_)
 refine Zdl (C10.at 2 rfl) (C10.at 0 rfl) (by rw [h6]; rfl) (by show A.units+3<_; lia) (λj v u e1 e2=>?_) (Zu ?_)
 ·rw [h6] at e1
  have e:v=u:=Zz (e1.symm.trans e2)
  exact e▸SeqAt.EqAt.same _
 refine Eq.mpr (if_pos rfl) ?_
 have C11:=C10.drop led (by
  refine .cons _ (.cons _ (.cons _ (.cons _ (.cons _ (.cons _ (.cons _ (.cons _ ?_)))))))
  exact Yq _)
 refine BoolOp_one (U6 (Attribute_any_ (Wd (C11.nameE hmt (Zt (X9 (Iu ((C11.tok 1).at jt hjt)) (by decide) (by decide) h4 ?_))))))
 have C12:=C11.tok 1
 refine Zid X.G X.FF F4 C12.st (C12.has _ (hLR _ m4)) (by show A.depth+1<_; lia) rfl λs13 g13=>?_
 have C13:=C12.call g13
 refine Wd (C13.nameE hma (Zt (X9 (Iu ((C13.tok 1).at j hj)) (by decide) (by decide) hv0 ?_)))
 refine PyProof.Rows.eq_fi ?_
 rw [hcmp]
 exact k _ (C13.tok 1)
theorem IV.rep(n:Nat)(a0:Int)(t0:W7):IV (ZM n (.int a0 t0)) (ZM n a0):=⟨by simp,λi x h=>by
 rw [List.getElem?_replicate] at h ⊢
 split at h
 ·rename_i hi; obtain rfl:=Zz h; exact⟨t0,by rw [if_pos hi]⟩
 ·exact Wu h⟩
theorem GG.rep(n:Nat)(a0:Int)(t0:W7)(h:t0≠0):GG Jw (ZM n (.int a0 t0)):=by
 refine⟨λx hx=>?_,λx hx y hy uu=>?_⟩
 ·exact(Wg hx)▸⟨⟨a0,t0,rfl⟩,h⟩
 ·rw [Wg hx,Wg hy]
  show(a0==a0)=true
  simp
structure S8 (as:List Int)(a0:Int):Prop where
 f1:GY (ZM as.length a0) as
 f2:GY (ZM as.length a0) (ZM as.length a0)
 f3:GY as (ZM as.length a0)
 f4:GY (WU as) ((WU as).map Gy)
 s1:∀ mth i d,(NO (V2 (Uo mth)) a0 as)[i]? = some d->Vt (JA mth (ZM as.length a0) as i) d
 s2:∀ mth i d,((NO (V2 (Uo mth)) a0 as).take 5)[i]? = some d->Vt (JA mth (ZM as.length a0) (ZM as.length a0) i) d
 s3:∀ mth i d,(Zkr (V2 (Uo mth)) a0 as)[i]? = some d->Vt (JA mth as (ZM as.length a0) i) d
 s4:∀ mth i d,(Zkq (V2 (Uo mth)) as)[i]? = some d->Vt (JA mth (WU as) ((WU as).map Gy) i) d
theorem Zgd{o:Hq}{f:UInt64}{n:Int}(h:Vt o (.tupI f n)):∃ q i,o = .lr q i/\Float64.cmpInt i n=some .eq:=by
 cases o with
 | msg _=>exact h.elim
 | flt _=>exact h.elim
 | lr q i=>exact⟨q,i,rfl,h.2⟩
theorem Zcd{o:Hq}{f g:UInt64}(h:Vt o (.tup f g)):∃ q i,o = .lr q i:=by
 cases o with
 | msg _=>exact h.elim
 | flt _=>exact h.elim
 | lr q i=>exact⟨q,i,rfl⟩
theorem Ig{α:Type}(x T P Z:List α){d:α}:(P++(d::x++(Z++T))).Perm (d::(T++(x++(P++Z)))):=by
 refine((List.perm_append_comm.cons _).trans ?_).symm
 simpa [WR] using (WL (d::x) P (Z++T))
theorem Zdu(X:BA K a b sm H0 mg mb c1 P1 c2 P2 c3 P3)(F4:K4 K b sm gt ix dd){cs:List Zo}{ps1 ps2:Array Zh}{R0:Zd}{D:Zo}{va:List Zh}{cD:Nat}{as:List Int}{a0:Int}{mth:Yz}{tm tu:W7}
  (C:Cx H0 (A.deeper (wE L lf cd)) (wE L lf cd::l) [P1,P2,P3] sE L m (XQ P1 P2 P3 ps1 ps2 cs ((D,ZD va cD)::R0)) s)(PT:VI ps1 ps2 cs s)(hma:m "a"=some (.ref D))(hmm:m "method"=some (.str mth tm))(hmu:m "unknown"=some (.str (V2 (Uo mth)) tu))(fr:WO va as sE.toks)
  (h2:2<=as.length)(h3:as.length<=65)(ha0:as[0]? = some a0)(hb:∀ x∈as,x.natAbs<=512)(hS:(as.map BR).sum≠0)(mk:Hr mth)(fl:S8 as a0)(hroom:A.depth+20<Zr)(hh:A.handled=none)(hu:A.units+50<Vh){Q:Zb}{E:Za}
  (k:∀ m' led s',Cx H0 (A.deeper (wE L lf cd)) (wE L lf cd::l) [P1,P2,P3] sE L m' led s'->(∃ q1 q2 cs' R',led=XQ P1 P2 P3 q1 q2 cs' R')->Q (.ret (.bool true)) s') :
  Zp (model PW w) (A.deeper (wE L lf cd)) (execs (JR.2.1.drop 17) (wE L lf cd)) Q E s:=by
 have hM:∀ p∈[P1,P2,P3],p∈[P1,P2,P3]:=λuu h=>h
 have ba0:a0.natAbs<=512:=hb _ (ZG ha0)
 have bf:∀ x∈ZM as.length a0,x.natAbs<=2^12:=λx hx=>by rw [Wg hx]; lia
 have ba:∀ x∈as,x.natAbs<=2^12:=λx hx=>Zl (hb x hx) (by decide)
 have lr:(ZM as.length a0).length=as.length:=UJ
 refine Zdr X C.rebase hma hmu (j:=3) rfl (fr.mono C.go.toks) h2 (by lia) ha0 hb hh λm1 fl1 ka kf kp du t0 ca cf cdu dv TP s1 C1 hv0 d1 hfl hkp hct hdu hm1=>?_
 have ht0:t0≠0:=(fr.lt _ (ZG hv0)).1
 have PT1:=PT.based C C1
 have C1':=(C.unbase C1).perm (led':=XQ P1 P2 P3 ps1 ps2 cs ((du,ZD dv cdu)::(kp,ZD [.ref ka,.ref kf])::(kf,ZD (ZM as.length (.int a0 t0)) cf)::(ka,ZD va ca)::(fl1,ZD (ZM as.length (.int a0 t0)))::(D,ZD va cD)::(R0++TP)))
  (Ig [(kp,ZD [.ref ka,.ref kf]),(kf,ZD (ZM as.length (.int a0 t0)) cf),(ka,ZD va ca),(fl1,ZD (ZM as.length (.int a0 t0)))] TP [(P1,Ye ps1),(P2,Ye ps2),(P3,Ye (pT cs))] ((D,ZD va cD)::R0))
 obtain ⟨tc,hct⟩:=hct
 have up1:∀ {z:Yz} {v:Zh},z≠"flat"->z≠"kept"->z≠"constant"->z≠"due"->m z=some v->m1 z=some v:=λ{z v} h1 h2 h3 h4 e=>(hm1 z h1 h2 h3 h4).trans e
 have hma1:m1 "a"=some (.ref D):=up1 (by decide) (by decide) (by decide) (by decide) hma
 have hmm1:m1 "method"=some (.str mth tm):=up1 (by decide) (by decide) (by decide) (by decide) hmm
 have hmu1:m1 "unknown"=some (.str (V2 (Uo mth)) tu):=up1 (by decide) (by decide) (by decide) (by decide) hmu
 refine Zdt X C1' PT1 hM hfl hma1 hdu hmm1 (jf:=4) (ja:=5) (jd:=0) rfl rfl rfl (λp hp=>by simp [hp]) d1 rfl (IV.rep _ _ _) fr.iv (GG.rep _ _ _ ht0) fr.key bf ba lr (by lia) (by lia) mk fl.f1 fl.f2 (fl.s1 mth) (fl.s2 mth) hroom hh hu λq1 q2 cs2 s2 C2 PT2=>?_
 have CB2:=C2.rebase
 refine Di X CB2 hma1 hmu1 hct (j:=8) rfl fr.iv (by lia) hv0 ht0 ba0 hb hS hh λdu2 dv2 TP2 s3 C3 d2=>?_
 have PT3:=PT2.based C2 C3
 have C3':=(C2.unbase C3).perm (led':=XQ P1 P2 P3 q1 q2 cs2 ((du2,ZD dv2)::(((du,ZD dv cdu)::(kp,ZD [.ref ka,.ref kf])::(kf,ZD (ZM as.length (.int a0 t0)) cf)::(ka,ZD va ca)::(fl1,ZD (ZM as.length (.int a0 t0)))::(D,ZD va cD)::(R0++TP))++TP2)))
  (Ig [] TP2 [(P1,Ye q1),(P2,Ye q2),(P3,Ye (pT cs2))] ((du,ZD dv cdu)::(kp,ZD [.ref ka,.ref kf])::(kf,ZD (ZM as.length (.int a0 t0)) cf)::(ka,ZD va ca)::(fl1,ZD (ZM as.length (.int a0 t0)))::(D,ZD va cD)::(R0++TP)))
 have ne1:D≠ka:=GN C3'.nodup (i:=9) (j:=7) rfl rfl (by decide)
 have ne2:fl1≠kf:=GN C3'.nodup (i:=8) (j:=6) rfl rfl (by decide)
 refine Zao X C3' PT3 hM (jf:=5) (ja:=6) (jd:=0) (jk:=2) (jka:=4) (jkf:=3) (TP:=TP2) (WG (by decide) hfl) (WG (by decide) hma1) rfl (WG (by decide) hkp) (WG (by decide) hmm1) rfl rfl rfl rfl rfl rfl ne1 ne2 (λp hp=>by simp [hp]) d2 rfl (IV.rep _ _ _) fr.iv (GG.rep _ _ _ ht0) fr.key bf ba lr.symm h2 (by lia) mk fl.f3 (fl.s3 mth) hroom hh hu λTL acc ep q3 q4 cs4 LR s4 C4 PT4 hacc ho=>?_
 generalize hR4:((du2,ZD dv2)::(((du,ZD dv cdu)::(kp,ZD [.ref ka,.ref kf])::(kf,ZD (ZM as.length (.int a0 t0)) cf)::(ka,ZD va ca)::(fl1,ZD (ZM as.length (.int a0 t0)))::(D,ZD va cD)::(R0++TP))++TP2))=R4 at C4
 have hD4:(D,ZD va cD)∈R4:=by rw [<- hR4]; exact .tail _ (X8 _ (.tail _ (.tail _ (.tail _ (.tail _ (.tail _ (.head _)))))))
 have C4':=C4.perm (led':=XQ P1 P2 P3 q3 q4 cs4 ((TL,ZD acc ep)::(R4++LR))) ((((List.perm_append_comm.cons _).cons _).cons _).cons _)
 refine zE (List.getElem?_of_mem (show(D,ZD va cD)∈XQ P1 P2 P3 q3 q4 cs4 ((TL,ZD acc ep)::(R4++LR)) from .tail _ (.tail _ (.tail _ (.tail _ (X8 _ hD4)))))) λj4 hj4=>?_
 have CB4:=C4'.rebase
 have hma4:(Jh (Jh m1 (Zj "due") (.ref du2)) (Zj "told") (.ref TL)) (Zj "a")=some (.ref D):=WG (by decide) (WG (by decide) hma1)
 refine Zdo X CB4 hma4 hj4 (fr.mono C4'.go.toks) (by lia) hh λwd vw s5 C5 frw=>?_
 refine Dh X C5 (j:=j4+1) (jw:=0) (WG (by decide) hma4) (WG (by decide) (WG (by decide) (WG (by decide) hmu1))) rfl hj4 rfl fr.iv frw.iv h2 (by lia) hb hh λdu3 dv3 TP3 s6 C6 d3=>?_
 have PT6:=PT4.based C4' C6
 have C6':=(C4'.unbase C6).perm (led':=XQ P1 P2 P3 q3 q4 cs4 ((du3,ZD dv3)::(wd,ZD vw)::(((TL,ZD acc ep)::(R4++LR))++TP3)))
  (Ig [(wd,ZD vw)] TP3 [(P1,Ye q3),(P2,Ye q4),(P3,Ye (pT cs4))] ((TL,ZD acc ep)::(R4++LR)))
 have bw:∀ x∈WU as,x.natAbs<=2^11:=λx hx=>by
  rcases Xn.mp hx with h | h
  ·have:=hb x h; lia
  ·refine XW (ZZ.mp h) λy hy zr=>?_; obtain rfl:=zr
   have:=hb y hy
   show(-y).natAbs<=_
   rw [Jy]; lia
 have lw:(WU as).length=as.length+as.length:=by simp [WU]
 refine Zds X C6' PT6 hM (jw:=1) (jd:=0) (TP:=TP3) (WG (by decide) rfl) rfl (WG (by decide) (WG (by decide) (WG (by decide) (WG (by decide) hmm1)))) rfl rfl (λp hp=>by simp [hp]) d3 rfl frw.iv frw.key bw (by lia) (by lia) mk fl.f4 (fl.s4 mth) hroom hh hu λq5 q6 cs7 s7 C7 PT7=>?_
 refine zE (List.getElem?_of_mem (show(D,ZD va cD)∈XQ P1 P2 P3 q5 q6 cs7 ((du3,ZD dv3)::(wd,ZD vw)::(((TL,ZD acc ep)::(R4++LR))++TP3)) by simp [hD4])) λj7 hj7=>?_
 refine G7 (Zgd (fl.s3 mth 4 _ rfl)) λq4' i4 o4 hcmp=>?_
 refine zEE (Zcd (fl.s3 mth 5 _ rfl)) λq5' i5 o5=>?_
 refine Zgt X F4 C7 (outs:=JA mth as (ZM as.length a0)) (jt:=5) (WG (by decide) (WG (by decide) hma4)) (WG (by decide) (WG (by decide) rfl)) hj7 rfl (λp hp=>by simp [hp]) ho hacc rfl o4 o5 hv0 hcmp hroom hh hu λs8 C8=>?_
 exact k _ _ s8 C8 ⟨_,_,_,_,rfl⟩
theorem S6(ns:List Int):(NY ns).length=ns.length+2:=by simp [NY]
theorem Zfd(ns:List Int):∀ x∈NY ns,x.natAbs<=512:=λx hx=>by
 rcases Xn.mp hx with h | h
 ·refine XW (ZZ.mp h) λy uu zr=>?_; obtain rfl:=zr; exact Zgn y
 ·exact OH h (λe=>e▸by decide) λe=>e▸by decide
theorem Zin:∀ as:List Int,0<=(as.map BR).sum
 | []=>by decide
 | x::as=>by
  have h1:=Zin as
  have h2:0<=BR x:=by unfold BR; exact Int.natAbs_mul_self▸Ul _
  simp only [YD,XF]; lia
theorem DJ(ns:List Int):0<((NY ns).map BR).sum:=by
 have h:=Zin (ns.map Zdh)
 delta NY
 rw [WZ,List.sum_append]
 have:(List.map BR [3,-5]).sum=34:=by decide
 lia
theorem Zdp(X:BA K a b sm H0 mg mb c1 P1 c2 P2 c3 P3)(F4:K4 K b sm gt ix dd)(fk:Vo K lf "law" JR .none .none)(S:St H0 A l s){sl:Zo}{vs:List Zh}{c0:Nat}{ns:List Int}(hs:Wy s.heap (sl,ZD vs c0))(fr:WO vs ns s.toks)(hlen:ns.length<=63)
  (hP1:Wy s.heap (P1,Ye #[]))(hP2:Wy s.heap (P2,Ye #[]))(hP3:Wy s.heap (P3,Ye #[]))(n12:P1≠P2)(n13:P1≠P3)(n23:P2≠P3)(fl:∀ a0,(NY ns)[0]? = some a0->S8 (NY ns) a0)(hroom:A.depth+20<Zr)(hh:A.handled=none)(hu:A.units+50<Vh){R:Zc}
  (k:∀ s' q1 q2 q3,Go H0 [P1,P2,P3] s s'->s'.heap.get? P1=some (Ye q1)->s'.heap.get? P2=some (Ye q2)->s'.heap.get? P3=some (Ye q3)->R (.ok (.ret (.bool true))) s') :
  Yk (model PW w) A (.call (.ref lf) ⟨[.ref sl],[]⟩) R s:=by
 have hM:∀ p∈[P1,P2,P3],p∈[P1,P2,P3]:=λuu h=>h
 have lvs:vs.length=ns.length:=fr.iv.len
 have nsl:∀ p,s.heap.get? p=some (Ye #[])->p≠sl:=λp h e=>by
  rw [e,hs.at_] at h; cases h
 refine Ub (binds:=[(Zj "script",.ref sl)]) X.G S fk [P1,P2,P3] (XQ P1 P2 P3 #[] #[] [] [(sl,ZD vs c0)]) (λp hp=>?_) (by simp [n12,n13,n23,nsl _ hP1.at_,nsl _ hP2.at_,nsl _ hP3.at_]) (by exact Yg (Zx _ _) (by assumption)) (λuu uu uu uu uu uu=>YG rfl) (by decide) (locs rfl) λL cd s0 uu C0=>?_
 ·simp only [XQ,Z7,Wf,or_false] at hp
  rcases hp with rfl | rfl | rfl | rfl
  ·exact hP1
  ·exact hP2
  ·exact hP3
  ·exact hs
 refine Zdq X.G X.F C0 (j:=3) (sl:=sl) rfl rfl fr.iv hh λm1 tT tm tu mth s1 C1 MK hs1 hT1 hmm1 hmu1=>?_
 refine Zan C1 hh λm2 D1 D2 u1 u2 e1 e2 s2 C2 sv1 sv2 uu uu hun hfe hm2=>?_
 have up2:∀ {z:Yz} {v:Zh},z≠"names"->z≠"unlike"->z≠"few"->m1 z=some v->m2 z=some v:=λ{z v} h1 h2 h3 e=>(hm2 z h1 h2 h3).trans e
 have hs2:=up2 (by decide) (by decide) (by decide) hs1
 refine Zgv X.G X.F C2 hs2 (up2 (by decide) (by decide) (by decide) hT1) (j:=5) rfl (by lia) hh λm3 x y vx vy s3 C3 hne hx3 hy3 hmx hmy hm3=>?_
 have up3:∀ {z:Yz} {v:Zh},z≠"cut"->z≠"x"->z≠"y"->m2 z=some v->m3 z=some v:=λ{z v} h1 h2 h3 e=>(hm3 z h1 h2 h3).trans e
 have hs3:=up3 (by decide) (by decide) (by decide) hs2
 have hmm3:=up3 (by decide) (by decide) (by decide) (up2 (by decide) (by decide) (by decide) hmm1)
 have C3':=C3.perm (led':=XQ P1 P2 P3 #[] #[] [] ((y,ZD vy)::(x,ZD vx)::[(D2,ZD u2 e2),(D1,ZD u1 e1),(sl,ZD vs c0)])) (by
  exact(WL [(y,ZD vy),(x,ZD vx),(D2,ZD u2 e2),(D1,ZD u1 e1)] [(P1,Ye #[]),(P2,Ye #[]),(P3,Ye (pT []))] [(sl,ZD vs c0)]).symm)
 refine OZ X C3' ⟨by constructor,by constructor,.inl rfl,YC⟩ hM hmx hmy hmm3 (up3 (by decide) (by decide) (by decide) hun) (ju:=1) rfl sv1 hne hx3 hy3 hroom hh hu λq1 q2 cs4 s4 C4 PT4=>?_
 refine Zgu X C4 PT4 hM hs3 hmm3 (up3 (by decide) (by decide) (by decide) hfe) (js:=4) (jf:=2) rfl rfl sv2 (by lia) hroom hh hu λm5 q3 q4 cs5 s5 C5 PT5 hm5=>?_
 refine Zlx X C5.rebase ((hm5 _ (by decide)).trans hs3) (j:=7) rfl fr.iv hlen hh λD va s6 C6 frA=>?_
 have C6':=(C5.unbase C6).perm (led':=XQ P1 P2 P3 q3 q4 cs5 ((D,ZD va)::(y,ZD vy)::(x,ZD vx)::[(D2,ZD u2 e2),(D1,ZD u1 e1),(sl,ZD vs c0)])) (by
  exact(WL [(D,ZD va)] [(P1,Ye q3),(P2,Ye q4),(P3,Ye (pT cs5))] _).symm)
 have la:=S6 ns
 obtain ⟨a0,ha0⟩:∃ a0,(NY ns)[0]? = some a0:=⟨_,ZE (by lia)⟩
 refine Zdu X F4 ({ C6'.rebase with go:=C6'.rebase.go.mono (M':=[P1,P2,P3]) λp hp=>nomatch hp }) (PT5.based C5 C6) rfl (WG (by decide) ((hm5 _ (by decide)).trans hmm3)) (WG (by decide) ((hm5 _ (by decide)).trans (up3 (by decide) (by decide) (by decide) (up2 (by decide) (by decide) (by decide) hmu1)))) frA (by lia) (by lia) ha0 (Zfd ns) (Int.ne_of_gt (DJ ns)) MK (fl a0 ha0) hroom hh hu λm' led s7 C7 hl=>?_
 refine DL hl λq5 q6 cs7 R' zr=>?_; obtain rfl:=zr
 have C8:=C6'.unbaseM C7 λp hp=>.inl hp
 exact k s7 q5 q6 (pT cs7) C8.go (C8.at 0 rfl) (C8.at 1 rfl) (C8.at 2 rfl)
theorem Bk{h:Xx}{c P:Zo}(x:CodeHd h c P):isCodeTable h P:=by
 obtain ⟨o,vs,_,_,_,_,_,_,_,h1,h2,h3,h4,_⟩:=x
 exact⟨c,o,vs,h1,h2,h3,h4⟩
theorem Ka{h:Xx}{L:Zo}{m:Ze}{as:List Zo}(n:h.Ns L m)(hL:L∉as):(hideAll h as).Ns L m:=by
 refine V1 n λo es ep e r=>?_
 exact⟨o,es,ep,hideAll_get _ e hL,r⟩
theorem Zmm{K:Frag}{a:Tf}{b:Ad2}{sm gt ix dd c1 P1 c2 P2 c3 P3 lf:Zo}(FF:KF K a)(F:KG K b)(F4:K4 K b sm gt ix dd)(hr:b.rank=a.rank)(fc:OE K b.cov "covariance" Gf .none .none c1 P1)(fr:OE K b.reg "linear_regression" Us .none (.ref b.regK) c2 P2)(ft:OE K b.told "_law_told" Gd .none .none c3 P3)(fk:Vo K lf "law" JR .none .none)
  (hk1:K.lookup P1=none)(hk2:K.lookup P2=none)(hk3:K.lookup P3=none)
  {w:Um}{s:Zi}{mg mb:Ze}(KX:K.In s.heap)(g:s.heap.Ns Zw mg)(gb:s.heap.Ns Jx mb)(boot:∀ x:Yz,x≠"__name__"->mb x=bootBuiltins x)
  (lim:s.heap.NoLimit)(nob:Uc s.heap)(bmain:∃ bm ob,mg "__builtins__"=some (.ref bm)/\bm≠Jx/\s.heap.get? bm=some ob/\ob.cls = .type "module"/\ob.dict=some Jx/\ob.data = .plain)
  (h1:s.heap.get? P1=some (Ye #[]))(h2:s.heap.get? P2=some (Ye #[]))(h3:s.heap.get? P3=some (Ye #[]))(n12:P1≠P2)(n13:P1≠P3)(n23:P2≠P3)(hg:Zw∉[P1,P2,P3])(hb:Jx∉[P1,P2,P3])(hc:WQ∉[P1,P2,P3])
  {sl:Zo}{vs:List Zh}{ns:List Int}(hsl:s.heap.get? sl=some (ZD vs))(hfr:WO vs ns s.toks)(hle:ns.length<=63)(fl:∀ a0,(NY ns)[0]? = some a0->S8 (NY ns) a0)(hgen:VL s.gens)(htok:0<s.toks){Q:Za}{E:Za}
  (k:∀ s',OldK s.heap s'.heap->s'.os=s.os->VL s'.gens->Q (.bool true) s'):Zp (model PW w) callerA (call (.ref lf) [.ref sl]) Q E s:=by
 have hH:∀ b o,(hideAll s.heap [P1,P2,P3]).get? b=some o->s.heap.get? b=some o:=λb o e=>of_hideAll _ e
 have hat:∀ p∈[P1,P2,P3],s.heap.get? p=some (Ye #[])/\K.lookup p=none:=Xu ⟨h1,hk1⟩ (Xu ⟨h2,hk2⟩ (Wo ⟨h3,hk3⟩))
 have G:Gl K (hideAll s.heap [P1,P2,P3]) mg mb:=⟨(λb o e=>hideAll_get _ (KX b o e) λhm=>by exact Wu (ZF (ZR ((hat b hm).2)) e)),Ka g hg,Ka gb hb,boot,by
  refine XW lim λmc h1 h2=>?_
  exact⟨mc,Ka h1 hc,h2⟩,by
  refine XW nob λmc h1 h2=>?_
  exact⟨mc,Ka h1 hc,h2⟩⟩
 have B:Bm (hideAll s.heap [P1,P2,P3]) mg:=by
  refine BB bmain λbm ob e1 e2 e3 e4 e5=>?_
  refine⟨bm,ob,e1,e2,hideAll_get _ e3 λhm=>?_,e4,e5⟩
  obtain rfl:=Zz (ZF (ZR ((hat bm hm).1)) e3); cases e4
 refine Y7 (Zdp ⟨G,B,F,FF,F4.k3,hr,fc,fr,ft,hideAll_none _ (by exact .head _),hideAll_none _ (by exact .tail _ (.head _)),hideAll_none _ (by exact .tail _ (.tail _ (.head _)))⟩ F4 fk ⟨hH,rfl,YC,htok⟩ (VD hsl) hfr hle (.of h1 Y5 rfl) (.of h2 Y5 rfl) (.of h3 Y5 rfl) n12 n13 n23 fl (by decide +kernel) rfl (by decide +kernel) λs' q1 q2 q3 gg e1 e2 e3=>?_)
 refine k s' ⟨λb o e=>?_,λb o e=>?_⟩ gg.os (gg.gens hgen)
 ·by_cases hm:b∈[P1,P2,P3]
  ·simp only [Z7,Wf,or_false] at hm
   rcases hm with rfl | rfl | rfl
   ·obtain rfl:=Zz (ZF (ZR h1) e)
    exact .inr (.inl ⟨Bk (fc.hd _ KX),rfl,#[],q1,rfl,by simpa using e1⟩)
   ·obtain rfl:=Zz (ZF (ZR h2) e)
    exact .inr (.inl ⟨Bk (fr.hd _ KX),rfl,#[],q2,rfl,by simpa using e2⟩)
   ·obtain rfl:=Zz (ZF (ZR h3) e)
    exact .inr (.inl ⟨Bk (ft.hd _ KX),rfl,#[],q3,rfl,by simpa using e3⟩)
  ·exact .inl (gg.glob hH b o (hideAll_get _ e hm))
 ·by_cases hm:b∈[P1,P2,P3]
  ·simp only [Z7,Wf,or_false] at hm
   rcases hm with rfl | rfl | rfl
   ·exact⟨_,e1⟩
   ·exact⟨_,e2⟩
   ·exact⟨_,e3⟩
  ·exact⟨_,gg.glob hH b o (hideAll_get _ e hm)⟩
theorem lrH(P:JV):LrK (kH P) 409 410 359:=by
 constructor
 ·exact⟨_,_,_,_,by with_unfolding_all rfl,rfl,rfl,rfl,rfl⟩
 ·kernel_rfl
 ·kernel_rfl
 ·kernel_rfl
 ·kernel_rfl
 ·exact⟨_,by with_unfolding_all rfl⟩
 ·kernel_rfl
 ·kernel_rfl
 ·kernel_rfl
 ·kernel_rfl
theorem k3H(P:JV):K3 (kH P) aB 410:=by
 constructor
 ·exact lrH P
 ·kernel_rfl
 ·kernel_rfl
 ·kernel_rfl
 ·kernel_rfl
 ·kernel_rfl
theorem k4H(P:JV):K4 (kH P) aB 410 71 404 64:=by
 constructor
 ·exact k3H P
 ·kernel_rfl
 ·kernel_rfl
 ·kernel_rfl
 ·kernel_rfl
 ·intro od; kernel_rfl
 ·exact Vo.of (by with_unfolding_all rfl) (by kernel_rfl)
 ·exact⟨_,_,by with_unfolding_all rfl,by with_unfolding_all rfl⟩
 ·kernel_rfl
 ·kernel_rfl
 ·exact⟨88,403,_,949,by with_unfolding_all rfl,by with_unfolding_all rfl,by kernel_rfl,by kernel_rfl⟩
theorem Zea{K:Frag}{c P:Zo}{od:Option Zo}{vs:Array Zh}{osl:Array (Option Zh)}{file:Yz}{tf:W7}{flags:Int}{tg:W7}{inF:Bool}{text:Int}{tt:W7}(h:K.lookup c=some ⟨.type "code",od,.fields vs,osl⟩)
  (h1:vs[11]? = some (.ref P))(h2:vs.getD 11 .none = .ref P)(h3:vs.getD 18 .none = .str file tf)(h4:vs.getD 7 .none = .int flags tg)(h5:vs.getD 9 .none = .bool inF)(h6:vs.getD 10 .none = .int text tt)(h7:c≠P)(h':Xx)(X:K.In h'):CodeHd h' c P :=
 ⟨_,vs,file,tf,flags,tg,inF,text,tt,X _ _ h,rfl,rfl,h1,h2,h3,h4,h5,h6,h7⟩
theorem fcH(P:JV):OE (kH P) 335 "covariance" Gf .none .none 334 330 :=
 ⟨⟨[.Expr (.Constant (.str _) _ _) _],_,_,_,_,_,_,_,_,by with_unfolding_all rfl,.inr ⟨_,_,_,_,rfl⟩⟩,by kernel_rfl,Zea (by with_unfolding_all rfl) rfl rfl rfl rfl rfl rfl (by decide)⟩
theorem frH(P:JV):OE (kH P) 418 "linear_regression" Us .none (.ref 413) 417 415 :=
 ⟨⟨[.Expr (.Constant (.str _) _ _) _],_,_,_,_,_,_,_,_,by with_unfolding_all rfl,.inr ⟨_,_,_,_,rfl⟩⟩,by kernel_rfl,Zea (by with_unfolding_all rfl) rfl rfl rfl rfl rfl rfl (by decide)⟩
theorem ftH(P:JV):OE (kH P) 425 "_law_told" Gd .none .none 424 420 :=
 ⟨⟨[],_,_,_,_,_,_,_,_,by with_unfolding_all rfl,.inl rfl⟩,by kernel_rfl,Zea (by with_unfolding_all rfl) rfl rfl rfl rfl rfl rfl (by decide)⟩
theorem lawH(P:JV):Vo (kH P) 430 "law" JR .none .none:=Vo.of (by with_unfolding_all rfl) (by kernel_rfl)
theorem no330(P:JV):(kH P).lookup 330=none:=by kernel_rfl
theorem no415(P:JV):(kH P).lookup 415=none:=by kernel_rfl
theorem no420(P:JV):(kH P).lookup 420=none:=by kernel_rfl
theorem Fw{α β:Type} [BEq α]{l1 l2:List (α×β)}{a:α}{o:β}(h:l1.lookup a=some o):(l1++l2).lookup a=some o:=by
 rw [List.lookup_append,h]; rfl
theorem Zml{P:JV}{h:Xx}(X:Frag.In (kHT P) h):Frag.In (kH P) h:=λb o e=>X b o (Fw e)
theorem tab330(P:JV):(kHT P).lookup 330=some (Ye #[]):=by kernel_rfl
theorem tab415(P:JV):(kHT P).lookup 415=some (Ye #[]):=by kernel_rfl
theorem tab420(P:JV):(kHT P).lookup 420=some (Ye #[]):=by kernel_rfl
end
section
set_option exponentiation.threshold 3000
open PySem PySem.Float64
noncomputable def Rp(Z:Nat):Prop:=∃ t,t<infMag/\V t=Z
noncomputable def Ev(x:UInt64)(C:Int):Prop:=∃ s t,t<infMag/\x=pack s t/\sgn s (V t)=C
noncomputable def BL(C:Int)(D:Nat)(C':Int):Prop:=Rp C'.natAbs/\∀ Z:Int,Rp Z.natAbs->(C-D*C').natAbs<=(C-D*Z).natAbs
theorem Ev.dec{x:UInt64}{C:Int}(h:Ev x C):∃ s m e,decode x = .fin s m e/\val x=C/\(m=0↔C=0):=by
 refine BO h λs t h1 h2 h3=>?_
 refine G7 (decode_pack s h1) λm e h4 h5=>?_
 refine⟨s,m,e,by exact h2▸h4,by rw [h2,val_pack _ h1,h3],?_⟩
 have h6:C.natAbs=V t:=by rw [<- h3,sgn_natAbs]
 constructor
 ·intro q
  rw [q,Nat.zero_mul,<- h6] at h5
  exact Int.natAbs_eq_zero.mp h5.symm
 ·intro q
  rw [q] at h6
  rw [<- h6] at h5
  rcases Nat.mul_eq_zero.mp h5 with q | q
  ·exact q
  ·exact absurd q (Ys (Y4 _))
theorem Ev.rp{x:UInt64}{C:Int}(h:Ev x C):Rp C.natAbs:=by
 refine BO h λs t h1 h2 h3=>?_
 exact⟨t,h1,by rw [<- h3,sgn_natAbs]⟩
theorem Rp.zero:Rp 0:=⟨0,by decide,V_zero⟩
theorem Ev.of_zero(s:Bool):Ev (zero s) 0:=⟨s,0,by decide,rfl,by rw [V_zero]; cases s<;>rfl⟩
theorem Zmi{t:Nat}(h:t<infMag):V t<=(2^53-1)*2^2045:=by
 refine BZ (V_form t) λk q h1 h2 h3 h4=>?_
 have hk:k<=2045:=by
  have:infMag=2047*2^52:=rfl
  rcases h3 with h3 | h3
  ·have h5:k*2^52+2^52<2047*2^52:=by lia
   lia
  ·lia
 rw [h4]
 exact Xs (by grind) (Jc (by decide) hk)
noncomputable def MX:Nat:=(2^53-1)*2^2045
theorem Rp.le_max{Z:Nat}(h:Rp Z):Z<=MX:=by
 refine XW h λt h1 h2=>?_
 exact h2▸Zmi h1
theorem Zgm:2^1990<=MX:=by decide
theorem Zgl:2*MX<(2^54-1)*2^2045:=by decide
theorem BU{m k:Nat}(hm:m<=2^53)(h2:k<=1990):Rp (m*2^k):=by
 have hi:infMag=2047*2^52:=rfl
 by_cases h0:m=0
 ·subst h0; exact⟨0,by decide,by rw [V_zero,Nat.zero_mul]⟩
 by_cases h53:m=2^53
 ·refine⟨k*2^52+2^53,?_,?_⟩
  ·have:k*2^52<=1990*2^52:=Yn _ h2
   lia
  ·rw [V_at (Z6 _) (.inl (by decide)),h53]
 have g1:=Nat.log2_self_le h0
 have g2:m<2^(m.log2+1):=Nat.lt_log2_self
 have hl:m.log2<=52:=by
  rcases Nat.lt_or_ge 52 m.log2 with z | z
  ·have:(2:Nat)^(52+1)<=2^m.log2:=Jc (by decide) z
   lia
  ·exact z
 generalize m.log2=l at g1 g2 hl
 have key:∀ c,c<=k->l+c<=52->(l+c=52\/c=k)->Rp (m*2^k):=by
  intro c hck hlc hor
  have q2:m*2^c<2^53:=by
   have:m*2^c<2^(l+1)*2^c:=Nat.mul_lt_mul_of_pos_right g2 (Y4 _)
   rw [<- Xb] at this
   exact Z9 this (Jc (by decide) (by lia))
  have q1:2^52<=m*2^c\/k-c=0:=by
   rcases hor with h | h
   ·left
    have:2^l*2^c<=m*2^c:=Yn _ g1
    rw [<- Xb,h] at this
    exact this
   ·right; lia
  refine⟨(k-c)*2^52+m*2^c,?_,?_⟩
  ·have h3:(k-c)*2^52<=1990*2^52:=Yn _ (by grind)
   lia
  ·rw [V_at (ZU q2) q1,Wj,<- Xb,show c+(k-c)=k by grind]
 rcases Nat.lt_or_ge k (52-l) with h | h
 ·exact key k (Z6 _) (by grind) (.inr rfl)
 ·exact key (52-l) h (by lia) (.inl (by grind))
theorem B3{k:Nat}(h:k<=1990):Rp (2^k):=by
 have:=BU (m:=1) (k:=k) (by decide) h
 rwa [J7] at this
theorem Zca(s:Bool):sgn s 0=0:=by cases s<;>rfl
theorem Ku(s:Bool)(a b:Nat):(sgn s a-sgn s b).natAbs=dist a b:=by
 delta sgn dist; cases s<;>simp<;>lia
theorem Kw{r:UInt64}{s:Bool}{W D:Nat}(R:Right r s W D)(hD:0<D)(hb:W<=D*MX){C:Int}(hC:sgn s W=C):∃ C',Ev r C'/\BL C D C':=by
 refine Bt R λt hr hle hov hnear=>?_
 have hlt:t<infMag:=by
  rcases Nat.lt_or_ge t infMag with z | z
  ·exact z
  ·exfalso
   have h5:(2^54-1)*2^2045<=2*MX:=Nat.le_of_mul_le_mul_left (Zl (hov.mp (Nat.le_antisymm hle z)) (by rw [Nat.mul_left_comm D 2]; exact Xc 2 hb)) hD
   exact absurd h5 (Nat.not_le.mpr Zgl)
 refine⟨sgn s (V t),⟨s,t,hlt,hr,rfl⟩,by rw [sgn_natAbs]; exact⟨t,hlt,rfl⟩,λZ hZ=>?_⟩
 have e1:(C-D*sgn s (V t)).natAbs=dist W (D*V t):=by
  rw [<- hC,Int.mul_comm,<- sgn_mul,Ku,WW]
 rw [e1]
 refine XW hZ λt' ht' hV=>?_
 have hcase:Z=sgn s Z.natAbs\/Z = -sgn s Z.natAbs:=by
  delta sgn; cases s<;>simp<;>lia
 rcases hcase with h | h
 ·have e2:(C-D*Z).natAbs=dist W (D*V t'):=by
   rw [h,<- hV,<- hC,Int.mul_comm,<- sgn_mul,Ku,WW]
  rw [e2]
  exact(hnear hlt t').1
 ·have h0:=(hnear hlt 0).1
  rw [V_zero,Nat.mul_zero] at h0
  refine Zl h0 ?_
  have e2:(C-D*Z)=sgn s (W+D*Z.natAbs):=by
   rw [h,<- hC]
   generalize Z.natAbs=z
   delta sgn; cases s<;>simp<;>grind
  rw [e2,sgn_natAbs]
  delta dist; lia
theorem BL.exact{C:Int}{D:Nat}{C' Z:Int}(h:BL C D C')(hD:0<D)(hz:Rp Z.natAbs)(e:C=D*Z):C'=Z:=by
 have h1:=h.2 Z hz
 rw [e,Int.sub_self,<- Int.mul_sub] at h1
 rcases Int.mul_eq_zero.mp (Int.natAbs_eq_zero.mp (by simpa using h1)) with h3 | h3<;>lia
theorem Zie{a b c:Int}(h:a<=b)(h':b<c)(g:(a-c).natAbs<=(a-b).natAbs):False:=by omega
theorem Zfc{a b c:Int}(h:b<=a)(h':c<b)(g:(a-c).natAbs<=(a-b).natAbs):False:=by lia
theorem BL.le{C:Int}{D:Nat}{C' Z:Int}(h:BL C D C')(hD:0<D)(hz:Rp Z.natAbs)(e:C<=D*Z):C'<=Z:=by
 rcases Int.lt_or_le Z C' with q | q
 ·exfalso
  exact Zie e (Int.mul_lt_mul_of_pos_left q (Int.natCast_pos.mpr hD)) (h.2 Z hz)
 ·exact q
theorem BL.ge{C:Int}{D:Nat}{C' Z:Int}(h:BL C D C')(hD:0<D)(hz:Rp Z.natAbs)(e:D*Z<=C):Z<=C':=by
 rcases Int.lt_or_le C' Z with q | q
 ·exfalso
  exact Zfc e (Int.mul_lt_mul_of_pos_left q (Int.natCast_pos.mpr hD)) (h.2 Z hz)
 ·exact q
theorem BL.abs_le{C:Int}{D:Nat}{C':Int}{Z:Nat}(h:BL C D C')(hD:0<D)(hz:Rp Z)(e:C.natAbs<=D*Z):C'.natAbs<=Z:=by
 have h0:((D*Z:Nat):Int)=D*(Z:Int):=by exact rfl
 have h1:=h.le (Z:=Z) hD (by simpa using hz) (by omega)
 have h2:=h.ge (Z:=-(Z:Int)) hD (by simpa using hz) (by rw [Int.mul_neg]; omega)
 lia
theorem OW{W D p:Nat}(hD:0<D)(hp:p<=1900)(hW:W<=D*2^(p+53)):∃ Z,Rp Z/\2*dist W (D*Z)<=D*2^p:=by
 have hP:=Y4 p
 rw [Xb] at hW
 have hrp:∀ m,m<=2^53->Rp (m*2^p):=λm h=>BU h (by lia)
 generalize 2^p=P at *
 have hDP:0<D*P:=Wa hD hP
 have h1:=Nat.div_add_mod W (D*P)
 have h2:=Nat.mod_lt W hDP
 have hq:W/(D*P)<=2^53:=by
  apply XU
  apply (Nat.div_lt_iff_lt_mul hDP).mpr
  rw [Nat.succ_mul]
  lia
 generalize hqq:W/(D*P)=q at *
 generalize W%(D*P)=r at *
 rcases Nat.lt_or_ge (2*r) (D*P+1) with h | h
 ·exact⟨q*P,hrp _ hq,by unfold dist; lia⟩
 ·refine⟨(q+1)*P,hrp _ ?_,by unfold dist; grind⟩
  rcases Nat.lt_or_ge q (2^53) with hh | hh
  ·assumption
  ·exfalso
   have h5:D*P*2^53<=D*P*q:=Xc _ hh
   lia
theorem BL.near{C:Int}{D:Nat}{C':Int}{p:Nat}(h:BL C D C')(hD:0<D)(hp:p<=1900)(e:C.natAbs<=D*2^(p+53)):2*(C-D*C').natAbs<=D*2^p:=by
 refine XW (OW hD hp e) λZ hZ hd=>?_
 refine Zl (Xc 2 (h.2 (sgn (decide (C<0)) Z) (by rw [sgn_natAbs]; exact hZ))) ?_
 have e1:(C-D*sgn (decide (C<0)) Z).natAbs=dist C.natAbs (D*Z):=by
  have:C=sgn (decide (C<0)) C.natAbs:=(BD C).symm
  generalize decide (C<0)=s at *
  generalize C.natAbs=w at *
  rw [this,Int.mul_comm,<- sgn_mul,Ku,WW]
 exact e1▸hd
theorem Ev.add{x y:UInt64}{A B:Int}(hx:Ev x A)(hy:Ev y B)(hb:(A+B).natAbs<=MX):∃ C',Ev (WC x y) C'/\BL (A+B) 1 C':=by
 refine WT hx.dec λa m e d1 v1 uu=>?_
 refine WT hy.dec λb k f d2 v2 uu=>?_
 refine zA (add_right d1 d2) λr1 r2=>?_
 rw [v1,v2] at r1 r2
 by_cases h:A+B=0
 ·rw [r1 h,h]
  exact⟨0,Ev.of_zero _,Rp.zero,λZ uu=>by simp⟩
 ·exact Kw (r2 h) (by decide) (by exact hb) (BD _)
theorem Ev.neg{x:UInt64}{A:Int}(hx:Ev x A):Ev (U1 x) (-A):=by
 refine WT hx.dec λa m e d1 v1 hz=>?_
 refine BO hx λs t h1 h2 h3=>?_
 refine⟨!s,t,h1,?_,by rw [sgn_not,h3]⟩
 refine zA (neg_toNat (y:=x) (by unfold isNaN; rw [d1])) λhn1 hn2=>?_
 have ht63:t<2^63:=Yx h1 (by decide)
 apply UInt64.toNat_inj.mp
 rw [pack_toNat _ ht63]
 rw [h2,pack_toNat _ ht63] at hn1 hn2
 have hlt:(U1 x).toNat<2^64:=UInt64.toNat_lt _
 rw [h2] at hlt ⊢
 generalize (U1 (pack s t)).toNat=q at *
 cases s with
 | true=>
  simp only [if_true,Bool.not_true,UH,if_false] at *
  have:q/2^63≠1:=by
   intro h; rw [h] at hn2
   have h5:((2^63+t)/2^63==1)=true:=by
    have:(2^63+t)/2^63=1:=by lia
    rw [this]; rfl
   rw [h5] at hn2
   simp at hn2
  lia
 | false=>
  simp only [UH,if_false,Bool.not_false,if_true] at *
  have:q/2^63=1:=by
   have h5:((0+t)/2^63==1)=false:=by
    have:(0+t)/2^63=0:=Nat.div_eq_of_lt (by lia)
    rw [this]; rfl
   rw [h5] at hn2
   simpa using hn2
  lia
theorem Ev.sub{x y:UInt64}{A B:Int}(hx:Ev x A)(hy:Ev y B)(hb:(A-B).natAbs<=MX):∃ C',Ev (Wx x y) C'/\BL (A-B) 1 C':=by
 delta Wx
 rw [Int.sub_eq_add_neg] at hb ⊢
 exact hx.add hy.neg hb
theorem IB(a b:Bool)(m n:Nat):sgn (a != b) (m*n)=sgn a m*sgn b n:=by
 delta sgn; cases a<;>cases b<;>simp [Int.neg_mul,Int.mul_neg]
theorem Hx{x:UInt64}{s:Bool}{m:Nat}{e:Int}(h:decode x = .fin s m e):sgn s (val x).natAbs=val x:=by
 rw [val_eq h,sgn_natAbs]
theorem Ev.mul{x y:UInt64}{A B:Int}(hx:Ev x A)(hy:Ev y B)(hb:(A*B).natAbs<=2^1074*MX):∃ C',Ev (X3 x y) C'/\BL (A*B) (2^1074) C':=by
 refine WT hx.dec λa m e d1 v1 uu=>?_
 refine WT hy.dec λb k f d2 v2 uu=>?_
 refine Kw (mul_right d1 d2) (Y4 _) (by rw [v1,v2,<- Yu]; exact hb) ?_
 rw [IB,Hx d1,Hx d2,v1,v2]
theorem Ev.div{x y:UInt64}{A:Int}{B:Nat}(hx:Ev x A)(hy:Ev y B)(hB:B≠0)(hb:A.natAbs*2^1074<=B*MX):∃ C',Ev (X4 x y) C'/\BL (A*2^1074) B C':=by
 refine WT hx.dec λa m e d1 v1 uu=>?_
 refine WT hy.dec λb k f d2 v2 hk=>?_
 have R:=div_right d1 d2 (λh=>hB (by have:=hk.mp h; lia))
 have hv2:(val y).natAbs=B:=by rw [v2]; simp
 rw [v1,hv2] at R
 have hbf:b=false:=by
  have h1:=Hx d2
  rw [hv2,v2] at h1
  delta sgn at h1
  cases b
  ·rfl
  ·simp at h1; lia
 refine Kw R (by lia) hb ?_
 subst hbf
 have h1:=Hx d1
 rw [v1] at h1
 rw [Bool.bne_false,sgn_mul,h1]
 simp
theorem Ev.fin{x:UInt64}{C:Int}(hx:Ev x C):Float64.isFinite x=true:=by
 refine V1 hx.dec λs m e d1 uu=>?_
 delta Float64.isFinite; rw [d1]
theorem Ev.notNaN{x:UInt64}{C:Int}(hx:Ev x C):Float64.isNaN x=false:=by
 refine V1 hx.dec λs m e d1 uu=>?_
 delta Float64.isNaN; rw [d1]
theorem Ev.isZero{x:UInt64}{C:Int}(hx:Ev x C):Yp x=decide (C=0):=by
 refine WT hx.dec λs m e d1 uu hz=>?_
 delta Yp; rw [d1]
 cases m with
 | zero=>simp [hz.mp rfl]
 | succ n=>simp; exact λh=>nomatch hz.mpr h
theorem Ev.cmp{x y:UInt64}{A B:Int}(hx:Ev x A)(hy:Ev y B):WS x y=some (compare A B):=by
 refine WT hx.dec λs m e d1 v1 uu=>?_
 refine WT hy.dec λb k f d2 v2 uu=>?_
 rw [cmp_right d1 d2,v1,v2]
theorem Fz{a b c d:Int}(ha:0<=a)(hb:0<=b)(hc:0<=c)(hd:0<=d)(h:a+b=c+d):a.toNat+b.toNat=c.toNat+d.toNat:=by
 apply Int.ofNat.inj
 show((a.toNat+b.toNat:Nat):Int)=((c.toNat+d.toNat:Nat):Int)
 rw [Int.natCast_add,Int.natCast_add,Jt ha,Jt hb,Jt hc,Jt hd]
 exact h
theorem Ev.fma{x y z:UInt64}{A B C:Int}(hx:Ev x A)(hy:Ev y B)(hz:Ev z C)(hb:(A*B+C*2^1074).natAbs<=2^1074*MX):∃ C',Ev (Float64.fma x y z) C'/\BL (A*B+C*2^1074) (2^1074) C':=by
 refine WT hx.dec λa m e d1 v1 uu=>?_
 refine WT hy.dec λb k f d2 v2 uu=>?_
 refine WT hz.dec λc n g d3 v3 uu=>?_
 have he:=decode_ge d1
 have hf:=decode_ge d2
 have hg:=decode_ge d3
 have hp:(sgn (a != b) (m*k*2^(e+f-min (e+f) g).toNat)+sgn c (n*2^(g-min (e+f) g).toNat))*((2^(min (e+f) g+2148).toNat:Nat):Int)=A*B+C*2^1074:=by
  rw [Int.add_mul,<- sgn_mul,<- sgn_mul,Wj (m*k),Wj n,<- Xb,<- Xb]
  have hm:-2148<=min (e+f) g:=Int.le_min.mpr ⟨by lia,by lia⟩
  have e1:(e+f-min (e+f) g).toNat+(min (e+f) g+2148).toNat=(e+1074).toNat+(f+1074).toNat:=Fz (Int.sub_nonneg_of_le (Int.min_le_left ..)) (by lia) (by lia) (by lia) (by lia)
  have e2:(g-min (e+f) g).toNat+(min (e+f) g+2148).toNat=(g+1074).toNat+1074:=Fz (d:=1074) (Int.sub_nonneg_of_le (Int.min_le_right ..)) (by lia) (by lia) (by decide) (by lia)
  rw [e1,e2,Xb,Xb,show m*k*(2^(e+1074).toNat*2^(f+1074).toNat)=(m*2^(e+1074).toNat)*(k*2^(f+1074).toNat) by ac_rfl,IB,<- Wj,sgn_mul c,<- val_eq d1,<- val_eq d2,<- val_eq d3,v1,v2,v3]
  simp
 have hfma:Float64.fma x y z=(if sgn (a != b) (m*k*2^(e+f-min (e+f) g).toNat)+sgn c (n*2^(g-min (e+f) g).toNat)==0 then zero (if m*k==0&&n==0 then(a != b)&&c else false) else ofBin (decide (sgn (a != b) (m*k*2^(e+f-min (e+f) g).toNat)+sgn c (n*2^(g-min (e+f) g).toNat)<0)) (sgn (a != b) (m*k*2^(e+f-min (e+f) g).toNat)+sgn c (n*2^(g-min (e+f) g).toNat)).natAbs (min (e+f) g)):=by
  delta Float64.fma
  rw [d1,d2,d3]
  rfl
 rw [hfma]
 generalize sgn (a != b) (m*k*2^(e+f-min (e+f) g).toNat)+sgn c (n*2^(g-min (e+f) g).toNat)=s at *
 by_cases h:s=0
 ·subst h
  rw [<- hp,if_pos (by rfl),JF]
  exact⟨0,Ev.of_zero _,Rp.zero,λZ uu=>by simp⟩
 ·rw [if_neg (by simpa using h)]
  rw [<- hp] at hb ⊢
  refine Kw (W:=(s*((2^(min (e+f) g+2148).toNat:Nat):Int)).natAbs) (s:=decide (s<0)) ?_ (Y4 _) hb ?_
  ·delta ofBin
   refine ofFrac_right (shift_pos _ _ _ (by decide)) ?_ (Y4 _)
   have:=shift_one s.natAbs (min (e+f) g) 2148 (by omega)
   rw [Yu,Y9,Wj,<- Xb]
   exact this
  ·rw [Yu,Y9,sgn_mul,BD]
end
section
set_option exponentiation.threshold 3000
open PySem PySem.Float64
open PySem.Builtin.Math (dlSum dlMul tlFma tlToFloat)
theorem Ev.addE{x y:UInt64}{A B:Int}(hx:Ev x A)(hy:Ev y B){C:Int}(e:A+B=C)(hr:Rp C.natAbs):Ev (WC x y) C:=by
 refine XW (hx.add hy (by exact e▸hr.le_max)) λC' h1 h2=>?_
 rw [e] at h2
 exact(h2.exact (by decide) hr (by simp))▸h1
theorem Ev.subE{x y:UInt64}{A B:Int}(hx:Ev x A)(hy:Ev y B){C:Int}(e:A-B=C)(hr:Rp C.natAbs):Ev (Wx x y) C:=by
 refine XW (hx.sub hy (by exact e▸hr.le_max)) λC' h1 h2=>?_
 rw [e] at h2
 exact(h2.exact (by decide) hr (by simp))▸h1
theorem F9{D:Nat}{Z:Int}(hr:Rp Z.natAbs):((D:Int)*Z).natAbs<=D*MX:=by
 rw [Yu,Y9]; exact Xc _ hr.le_max
theorem Ev.mulE{x y:UInt64}{A B:Int}(hx:Ev x A)(hy:Ev y B){C:Int}(e:A*B=((2^1074:Nat):Int)*C)(hr:Rp C.natAbs):Ev (X3 x y) C:=by
 refine XW (hx.mul hy (by exact e▸F9 hr)) λC' h1 h2=>?_
 rw [e] at h2
 exact(h2.exact (Y4 _) hr rfl)▸h1
theorem Ev.fmaE{x y z:UInt64}{A B D:Int}(hx:Ev x A)(hy:Ev y B)(hz:Ev z D){C:Int}(e:A*B+D*2^1074=((2^1074:Nat):Int)*C)(hr:Rp C.natAbs):Ev (Float64.fma x y z) C:=by
 refine XW (hx.fma hy hz (by exact e▸F9 hr)) λC' h1 h2=>?_
 rw [e] at h2
 exact(h2.exact (Y4 _) hr rfl)▸h1
theorem Gz{x y:UInt64}{A B:Int}(hx:Ev x A)(hy:Ev y B){C:Int}(e:A+B=C)(hr:Rp C.natAbs):Ev (dlSum x y).1 C/\Ev (dlSum x y).2 0:=by
 have h1:=hx.addE hy e hr
 have h2:=h1.subE hx (C:=B) (by lia) hy.rp
 exact⟨h1,(hx.subE (h1.subE h2 (C:=A) (by lia) hx.rp) (C:=0) (by exact Int.sub_self _) Rp.zero).addE (hy.subE h2 (C:=0) (by lia) Rp.zero) (by exact Int.add_comm _ _) Rp.zero⟩
theorem Zau{x y:UInt64}{A B:Int}(hx:Ev x A)(hy:Ev y B){P E:Int}(h1:Ev (X3 x y) P)(e:A*B=((2^1074:Nat):Int)*(P+E))(hr:Rp E.natAbs):Ev (dlMul x y).1 P/\Ev (dlMul x y).2 E:=by
 refine⟨h1,hx.fmaE hy h1.neg ?_ hr⟩
 rw [e]
 have:((2^1074:Nat):Int)=2^1074:=by simp
 rw [this]
 generalize (2:Int)^1074=K
 grind
structure TE (t:T3)(a b c:Int):Prop where
 hi:Ev t.1 a
 lo:Ev t.2.1 b
 ti:Ev t.2.2 c
theorem TE.zero:TE z3 0 0 0:=⟨Ev.of_zero _,Ev.of_zero _,Ev.of_zero _⟩
theorem TE.step{t:T3}{a b:Int}(h:TE t a b 0){x y:UInt64}{A B P E a' b':Int}(hx:Ev x A)(hy:Ev y B)(h1:Ev (X3 x y) P)(e:A*B=((2^1074:Nat):Int)*(P+E))(hr:Rp E.natAbs)
  (ea:a+P=a')(ra:Rp a'.natAbs)(eb:b+E=b')(rb:Rp b'.natAbs):TE (tlFma x y t) a' b' 0:=by
 refine zA (Zau hx hy h1 e hr) λm1 m2=>?_
 refine zA (Gz h.hi m1 ea ra) λs1 s2=>?_
 refine zA (Gz h.lo m2 eb rb) λr1 r2=>?_
 refine zA (Gz r1 s2 (U8 _) rb) λq1 q2=>?_
 exact⟨s1,q1,(h.ti.addE r2 (U8 _) Rp.zero).addE q2 (U8 _) Rp.zero⟩
theorem TE.stepE{t:T3}{a:Int}(h:TE t a 0 0){x y:UInt64}{A B P a':Int}(hx:Ev x A)(hy:Ev y B)(e:A*B=((2^1074:Nat):Int)*P)(hr:Rp P.natAbs)
  (ea:a+P=a')(ra:Rp a'.natAbs):TE (tlFma x y t) a' 0 0 :=
 h.step (E:=0) (b':=0) hx hy (hx.mulE hy e hr) (by rw [U8]; exact e) Rp.zero ea ra (U8 _) Rp.zero
theorem TE.out{t:T3}{a b c:Int}(h:TE t a b 0)(e:b+a=c)(hr:Rp c.natAbs):Ev (tlToFloat t) c:=by
 refine zA (Gz h.lo h.hi e hr) λs1 s2=>?_
 exact(h.ti.addE s2 (U8 _) Rp.zero).addE s1 (Int.zero_add _) hr
noncomputable def Cn(x:UInt64)(C:Int):Prop:=∃ t,t<infMag/\x=pack (decide (C<0)) t/\V t=C.natAbs
theorem Cn.ev{x:UInt64}{C:Int}(h:Cn x C):Ev x C:=by
 refine Gj h λt h1 h2 h3=>?_
 exact⟨_,t,h1,h2,by rw [h3,BD]⟩
theorem Ev.cn{x:UInt64}{C:Int}(h:Ev x C)(hz:C≠0):Cn x C:=by
 refine BO h λs t h1 h2 h3=>?_
 refine⟨t,h1,?_,(by rw [<- h3,sgn_natAbs])⟩
 have:s=decide (C<0):=by
  unfold sgn at h3
  cases s<;>simp at h3<;>simp<;>lia
 rw [h2,this]
theorem KI:Yy 0=Uh false:=by decide +kernel
theorem Zia:Cn (Uh false) 0:=⟨0,by decide,rfl,V_zero⟩
theorem Zet{y:UInt64}{C:Int}(h:Ev y C):Cn (WC (Yy 0) y) C:=by
 have h0:Ev (Yy 0) 0:=by exact KI▸Ev.of_zero _
 by_cases hz:C=0
 ·subst hz
  refine WT h.dec λb k f d2 v2 uu=>?_
  refine G7 (decode_pack false (t:=0) (by decide)) λm e d1 uu=>?_
  have v1:=val_pack false (t:=0) (by decide)
  rw [V_zero] at v1
  refine zA (add_right d1 d2) λr1 r2=>?_
  rw [KI]
  delta Uh
  rw [(r1 (by rw [v2,v1]; rfl))]
  exact Zia
 ·exact(h0.addE h (Int.zero_add _) h.rp).cn hz
theorem Zel{ps:List (UInt64×UInt64)}{a b c:Int}(h:TE (Ks ps z3) a b 0)(e:b+a=c)(hr:Rp c.natAbs):Cn (JQ ps) c:=Zet (h.out e hr)
theorem SQ{m D W:Nat}(K:Nat)(hm:0<m):D*K<=2*W↔m*D*K<=2*(m*W):=by
 rw [Wj,Nat.mul_left_comm 2 m W]
 exact⟨λh=>Xc _ h,λh=>Nat.le_of_mul_le_mul_left h hm⟩
theorem IC{r:UInt64}{s:Bool}{W D m:Nat}(R:Right r s W D)(hm:0<m):Right r s (m*W) (m*D):=by
 refine Bt R λt h1 h2 h3 h4=>?_
 refine⟨t,h1,h2,?_,λh t'=>?_⟩
 ·exact h3.trans (SQ _ hm)
 ·refine zA (h4 h t') λa b=>?_
  rw [Wj,Wj,dist_mul,dist_mul]
  exact⟨Xc _ a,λhv he=>b hv (Nat.eq_of_mul_eq_mul_left hm he)⟩
theorem Zem{W X Y Z:Nat}(h1:X<Y)(h2:Y<Z)(a:dist W X<=dist W Y)(b:dist W Z<=dist W Y):False:=by
 delta dist at *
 rcases Nat.le_total W Y with h | h
 ·clear a
  rw [Nat.sub_eq_zero_of_le h,Nat.zero_add,Nat.sub_eq_zero_of_le (Zl h (ZU h2)),Nat.zero_add] at b
  grind
 ·clear b
  rw [Nat.sub_eq_zero_of_le h,Nat.add_zero,Nat.sub_eq_zero_of_le (Zl (ZU h1) h),Nat.add_zero] at a
  grind
theorem Tz{r r':UInt64}{s:Bool}{W D:Nat}(R:Right r s W D)(R':Right r' s W D)(hD:0<D):r=r':=by
 refine Bt R λt h1 h2 h3 h4=>?_
 refine Bt R' λt' h1' h2' h3' h4'=>?_
 have key:∀ {t t':Nat},(∀ t',dist W (D*V t)<=dist W (D*V t')/\(V t'≠V t->dist W (D*V t)=dist W (D*V t')->t%2=0))->(∀ t,dist W (D*V t')<=dist W (D*V t)/\(V t≠V t'->dist W (D*V t')=dist W (D*V t)->t'%2=0))->t<t'->False:=by
  intro t t' h4 h4' hlt
  have a1:=(h4 t').1
  have a2:=(h4' t).1
  have he:dist W (D*V t)=dist W (D*V t'):=by exact Nat.le_antisymm (by assumption) (by assumption)
  have hv:=V_lt hlt
  have e1:=(h4 t').2 (by exact Ys (by assumption)) he
  have e2:=(h4' t).2 (by exact X7 (by assumption)) he.symm
  have c2:D*V (t+1)<D*V t':=Nat.mul_lt_mul_of_pos_left (V_lt (by lia)) hD
  exact Zem (Nat.mul_lt_mul_of_pos_left (V_succ t) hD) c2 ((h4 (t+1)).1) ((h4' (t+1)).1)
 have:t=t':=by
  by_cases hi:t=infMag
  ·exact ZF hi ((h3'.mpr (h3.mp hi)).symm)
  ·by_cases hi':t'=infMag
   ·exact absurd (h3.mpr (h3'.mp hi')) hi
   ·have g:=h4 (by exact Xz (by assumption) (by assumption))
    have g':=h4' (by exact Xz (by assumption) (by assumption))
    rcases Ux t t' with h | h | h
    ·exact(key g g' h).elim
    ·exact h
    ·exact(key g' g h).elim
 rw [h1,h1',this]
theorem OR{r r':UInt64}{s:Bool}{W D W' D':Nat}(R:Right r s W D)(R':Right r' s W' D')(hD:0<D)(hD':0<D')(e:W*D'=W'*D):r=r':=by
 have h1:=IC R hD'
 rw [WW D' W,e,WW W' D,WW D' D] at h1
 exact Tz h1 (IC R' hD) (Wa hD hD')
theorem Cn.dec{x:UInt64}{C:Int}(h:Cn x C):∃ m e,decode x = .fin (decide (C<0)) m e/\val x=C/\(m=0↔C=0):=by
 refine Gj h λt h1 h2 h3=>?_
 refine G7 (decode_pack (decide (C<0)) h1) λm e h4 h5=>?_
 refine⟨m,e,by exact h2▸h4,by rw [h2,val_pack _ h1,h3,BD],?_⟩
 rw [h3] at h5
 constructor
 ·intro q
  rw [q,Nat.zero_mul] at h5
  exact Int.natAbs_eq_zero.mp h5.symm
 ·intro q
  rw [q] at h5
  rcases Nat.mul_eq_zero.mp h5 with q | q
  ·exact q
  ·exact absurd q (Ys (Y4 _))
theorem Cn.div{x y:UInt64}{A:Int}{B:Nat}(hx:Cn x A)(hy:Cn y (B:Int))(hB:0<B):Right (X4 x y) (decide (A<0)) (A.natAbs*2^1074) B:=by
 refine BO hx.dec λm e d1 v1 uu=>?_
 refine BO hy.dec λk f d2 v2 hk=>?_
 have R:=div_right d1 d2 (λh=>by have:=hk.mp h; lia)
 rw [v1,v2,Y9,decide_eq_false (p:=(B:Int)<0) (by lia),Bool.bne_false] at R
 exact R
end
section
set_option exponentiation.threshold 5000
open PySem PySem.Float64
open PySem.Builtin.Math (dlSum dlMul tlFma tlToFloat)
theorem Jv(k:Nat):((2^k:Nat):Int)=2^k:=by simp
theorem Zfb(z:Int):z*z=((z.natAbs*z.natAbs:Nat):Int):=(Int.natAbs_mul_self).symm
theorem XR{a b:Nat}(h:a<=b):(2:Nat)^a<=2^b:=Jc (by decide) h
theorem Ue(p:Nat):2^(p+1)=2*2^p:=by rw [Nat.pow_succ,WW]
theorem fit{z p:Nat}(h:z<=2^p)(hp:p<=1990):z<=MX:=Zl h (Zl (XR hp) Zgm)
theorem BL.abs_pow{C:Int}{D:Nat}{C':Int}{p:Nat}(h:BL C D C')(hD:0<D)(hp:p<=1990)(e:C.natAbs<=D*2^p):C'.natAbs<=2^p:=h.abs_le hD (B3 hp) e
theorem BL.abs_one{C:Int}{C':Int}{p:Nat}(h:BL C 1 C')(hp:p<=1990)(e:C.natAbs<=2^p):C'.natAbs<=2^p:=h.abs_pow (by decide) hp (by lia)
theorem BL.near_one{C:Int}{C':Int}{p:Nat}(h:BL C 1 C')(hp:p<=1900)(e:C.natAbs<=2^(p+53)):2*(C-C').natAbs<=2^p:=by
 have:=h.near (by decide) hp (by rw [J7]; exact e)
 rw [J7] at this
 have e2:C-((1:Nat):Int)*C'=C-C':=by lia
 rw [e2] at this; exact this
theorem Zbl{n q:Nat}(h:2*n<=q):n<=q:=Zl (Nat.le_mul_of_pos_left n Nat.two_pos) h
theorem DQ{m n q:Nat}(h:2*m<=q)(h':2*n<=q):m+n<=q:=by lia
theorem up{p a c b:Nat}(h:p<=a)(e:(a+c).ble b=true):p+c<=b:=Zl (Ws h c) (Wk e)
theorem Ev.addB{x y:UInt64}{A B:Int}{p:Nat}(hx:Ev x A)(hy:Ev y B)(ha:A.natAbs<=2^p)(hb:B.natAbs<=2^p)(hp:p<=1900):∃ C,Ev (WC x y) C/\C.natAbs<=2^(p+1)/\BL (A+B) 1 C:=by
 have h2:=Ue p
 refine XW (hx.add hy (fit (p:=p+1) (h2▸Bd.add ha hb (Xw (Nat.two_mul _).symm)) (up hp rfl))) λC h1 hR=>?_
 exact⟨C,h1,hR.abs_one (up hp rfl) (h2▸Bd.add ha hb (Xw (Nat.two_mul _).symm)),hR⟩
theorem IX{A B:Int}{a b m:Nat}(ha:A.natAbs<=a)(hb:B.natAbs<=b)(h:a+b<=m):(A+B).natAbs<=m:=Bd.add ha hb h
theorem Zim{A B X:Int}{b q m:Nat}(h:2*(A+B-X).natAbs<=q)(hb:B.natAbs<=b)(hm:b+q<=m):(X-A).natAbs<=m:=by
 rw [show X-A=B-(A+B-X) by lia]; exact Bd.sub hb (Zbl h) hm
theorem Zil{A X Z:Int}{a q m:Nat}(h:2*(X-A-Z).natAbs<=q)(ha:A.natAbs<=a)(hm:a+q<=m):(X-Z).natAbs<=m:=by
 rw [show X-Z=A+(X-A-Z) by lia]; exact Bd.add ha (Zbl h) hm
theorem Zik{A X Z W:Int}{q:Nat}(h:2*(X-A-Z).natAbs<=q)(h':2*(X-Z-W).natAbs<=q):(A-W).natAbs<=q:=by
 rw [show A-W=(X-Z-W)-(X-A-Z) by lia]; exact Bd.sub (Z6 _) (Z6 _) (DQ h' h)
theorem Zij{A B X Z:Int}{q:Nat}(h:2*(A+B-X).natAbs<=q)(h':2*(X-A-Z).natAbs<=q):(B-Z).natAbs<=q:=by
 rw [show B-Z=(A+B-X)+(X-A-Z) by lia]; exact Bd.add (Z6 _) (Z6 _) (DQ h h')
theorem Bh{x y:UInt64}{A B:Int}{p:Nat}(hx:Ev x A)(hy:Ev y B)(ha:A.natAbs<=2^(p+52))(hb:B.natAbs<=2^(p+52))(hp:p<=1800) :
  ∃ X Y,Ev (dlSum x y).1 X/\Ev (dlSum x y).2 Y/\Y.natAbs<=2^(p+1)/\BL (A+B) 1 X/\2*(A+B-X).natAbs<=2^p:=by
 have h53:2^(p+53)=2*2^(p+52):=Ue (p+52)
 have hp1:2^(p+1)=2*2^p:=Ue p
 have f53:2^(p+53)<=MX:=fit (Z6 _) (by lia)
 have f1:2^(p+1)<=MX:=fit (Z6 _) (by lia)
 have w1:2^(p+52)+2^(p+52)<=2^(p+53):=by lia
 have w2:2^(p+52)+2^p<=2^(p+53):=by lia
 have w3:2^p<=MX:=by lia
 refine XW (hx.add hy (IX ha hb (Zl w1 f53))) λX e1 R1=>?_
 have n1:=R1.near_one (p:=p) (by lia) (IX ha hb w1)
 refine XW (e1.sub hx (Zim n1 hb (Zl w2 f53))) λZ e2 R2=>?_
 have n2:=R2.near_one (p:=p) (by lia) (Zim n1 hb w2)
 refine XW (e1.sub e2 (Zil n2 ha (Zl w2 f53))) λW e3 R3=>?_
 have n3:=R3.near_one (p:=p) (by lia) (Zil n2 ha w2)
 refine XW (hx.sub e3 (Zl (Zik n2 n3) w3)) λY1 e4 R4=>?_
 have n4:=R4.abs_one (p:=p) (by lia) (Zik n2 n3)
 refine XW (hy.sub e2 (Zl (Zij n1 n2) w3)) λY2 e5 R5=>?_
 have n5:=R5.abs_one (p:=p) (by lia) (Zij n1 n2)
 refine XW (e4.add e5 (IX n4 n5 (by lia))) λY e6 R6=>?_
 exact⟨X,Y,e1,e6,R6.abs_one (by lia) (IX n4 n5 (by lia)),R1,n1⟩
theorem DC{x y:UInt64}{A B:Int}{p:Nat}(hx:Ev x A)(hy:Ev y B)(h:(A*B).natAbs<=2^1074*2^(p+53))(hp:p<=1800) :
  ∃ P E,Ev (dlMul x y).1 P/\Ev (dlMul x y).2 E/\E.natAbs<=2^p/\BL (A*B) (2^1074) P/\2*(A*B-((2^1074:Nat):Int)*P).natAbs<=2^1074*2^p:=by
 refine XW (hx.mul hy (Zl h (Xc _ (fit (Z6 _) (by lia))))) λP e1 R1=>?_
 have n1:=R1.near (p:=p) (Y4 _) (by lia) h
 have e0:A*B + -P*2^1074=A*B-((2^1074:Nat):Int)*P:=by
  rw [Jv,Int.neg_mul,Int.mul_comm P]; rfl
 have hb:(A*B + -P*2^1074).natAbs<=2^1074*2^p:=by rw [e0]; lia
 refine XW (hx.fma hy e1.neg (Zl hb (Xc _ (fit (Z6 _) (by lia))))) λE e2 R2=>?_
 exact⟨P,E,e1,e2,R2.abs_pow (Y4 _) (by lia) hb,R1,n1⟩
theorem TE.read{t:T3}{a b c:Int}{p:Nat}(h:TE t a b c)(ha:a.natAbs<=2^(p+52))(hb:b.natAbs<=2^(p+52))(hc:c.natAbs<=2^(p+1))(hp:p<=1700) :
  ∃ v,Ev (tlToFloat t) v/\v.natAbs<=2^(p+54)/\∃ X Y,BL (b+a) 1 X/\Y.natAbs<=2^(p+2)/\BL (Y+X) 1 v:=by
 refine BB (Bh h.lo h.hi hb ha (by lia)) λX Y e1 e2 n2 R1 uu=>?_
 refine Gj (h.ti.addB e2 hc n2 (by lia)) λY' e3 n3 uu=>?_
 refine Gj (e3.addB e1 (p:=p+53) (Zl n3 (XR (by lia))) (R1.abs_one (p:=p+53) (up hp rfl) ((Ue (p+52))▸Bd.add hb ha (Xw (Nat.two_mul _).symm))) (by lia)) λv e4 n4 R4=>?_
 exact⟨v,e4,n4,X,Y',R1,n3,R4⟩
structure TB (w k:Nat)(t:T3)(a b c:Int):Prop where
 e:TE t a b c
 ha:a.natAbs<=k*2^(w+92)
 hb:b.natAbs<=k*2^(w+49)
 hc:c.natAbs<=k*2^(w+6)
theorem TB.zero(w:Nat):TB w 0 z3 0 0 0:=⟨TE.zero,by simp,by simp,by simp⟩
theorem KQ{z k p:Nat}(h:z<=k*2^p)(hk:k<=128):z<=2^(p+7):=by
 have:k*2^p<=128*2^p:=Yn _ hk
 have e:2^(p+7)=2^p*128:=Xb ..
 lia
theorem BL.abs_mul{C C':Int}{m p:Nat}(h:BL C 1 C')(hm:m<=2^53)(hp:p<=1990)(e:C.natAbs<=m*2^p):C'.natAbs<=m*2^p:=h.abs_le (by decide) (BU hm hp) (by lia)
theorem Oe{a b:Int}{k X:Nat}(ha:a.natAbs<=k*(2*X))(hb:b.natAbs<=X):(a+b).natAbs<=(2*k+1)*X:=by
 rw [Nat.add_mul,J7]; exact Bd.add ha hb (Ws (Xw (by rw [<- Wj,WW k 2])) _)
theorem FW{a b:Int}{k X:Nat}(ha:a.natAbs<=(2*k+1)*X)(hb:b.natAbs<=X):(a+b).natAbs<=(k+1)*(2*X):=by
 have e:(k+1)*(2*X)=(2*k+1)*X+X:=by grind
 exact e▸Bd.add ha hb (Z6 _)
theorem TB.step{w k:Nat}{t:T3}{a b c:Int}(h:TB w k t a b c)(hk:k<128)(hw:w<=1100){x y:UInt64}{A B:Int}(hx:Ev x A)(hy:Ev y B)(hAB:(A*B).natAbs<=2^1074*2^(w+92)) :
  ∃ a' b' c' P,TB w (k+1) (tlFma x y t) a' b' c'/\BL (A*B) (2^1074) P/\BL (a+P) 1 a':=by
 refine BB (DC (p:=w+39) hx hy hAB (by lia)) λP E m1 m2 nE RP uu=>?_
 have nP:P.natAbs<=2^(w+92):=RP.abs_pow (Y4 _) (by lia) hAB
 have e47:2^(w+49)=2*2^(w+48):=Ue (w+48)
 have e2:2^(w+6)=2*2^(w+5):=Ue (w+5)
 have hb47:b.natAbs<=k*(2*2^(w+48)):=by rw [<- e47]; exact h.hb
 have hc2:c.natAbs<=k*(2*2^(w+5)):=by rw [<- e2]; exact h.hc
 refine BB (Bh (p:=w+47) h.e.hi m1 (KQ h.ha (by lia)) (Zl nP (XR (by lia))) (by lia)) λX L x1 x2 x3 x4 uu=>?_
 have x3':L.natAbs<=2^(w+48):=x3
 refine BB (Bh (p:=w+4) h.e.lo m2 (KQ h.hb (by lia)) (Zl nE (XR (by lia))) (by lia)) λB1 K1 y1 y2 y3 y4 uu=>?_
 have nB1:B1.natAbs<=(2*k+1)*2^(w+48):=y4.abs_mul (by lia) (by lia) (Oe hb47 (Zl nE (XR (by lia))))
 have nB1':B1.natAbs<=2^(w+4+52):=by
  have:(2*k+1)*2^(w+48)<=256*2^(w+48):=Yn _ (by lia)
  have e:2^(w+4+52)=2^(w+48)*256:=Xb 2 (w+48) 8
  lia
 refine BB (Bh (p:=w+4) y1 x2 nB1' (Zl x3' (XR (by lia))) (by lia)) λB2 K2 z1 z2 z3' z4 uu=>?_
 have nB2:B2.natAbs<=(k+1)*2^(w+49):=by
  rw [e47]
  have hs:=FW nB1 x3'
  rw [<- e47] at hs ⊢
  exact z4.abs_mul (by lia) (by lia) hs
 have hf:(2*k+1)*2^(w+5)<=MX:=(BU (m:=2*k+1) (k:=w+5) (by lia) (by lia)).le_max
 have hf2:(k+1)*2^(w+6)<=MX:=(BU (m:=k+1) (k:=w+6) (by lia) (by lia)).le_max
 have s1:=Oe (X:=2^(w+5)) hc2 y3
 refine XW (h.e.ti.add y2 (Zl s1 hf)) λT1 w1 r1=>?_
 have nT1:=r1.abs_mul (m:=2*k+1) (p:=w+5) (by lia) (by lia) s1
 have s2:=FW nT1 z3'
 rw [<- e2] at s2
 refine XW (w1.add z2 (Zl s2 hf2)) λT2 w2 r2=>?_
 have nT2:=r2.abs_mul (m:=k+1) (p:=w+6) (by lia) (by lia) s2
 exact⟨X,B2,T2,P,⟨⟨x1,z1,w2⟩,(x4.abs_mul (by lia) (by lia) (by rw [Nat.add_mul,J7]; exact Bd.add h.ha nP (Z6 _))),nB2,nT2⟩,RP,x4⟩
theorem Zcw{A B:Int}{p q r:Nat}(hA:A.natAbs<=2^p)(hB:B.natAbs<=2^q)(h:p+q=1074+r):(A*B).natAbs<=2^1074*2^r:=by
 rw [Yu,<- Xb,<- h,Xb]
 exact Xs hA hB
noncomputable def Mid(x:UInt64):Prop:=∃ A,Ev x A/\A.natAbs<=2^1086
theorem Zcg:∀ (xs:List UInt64) (k:Nat) (t:T3) (a b c:Int),TB 1006 k t a b c->0<=a->k+xs.length<=128->(∀ x∈xs,Mid x)->Gk (xs.map λx=>(x,x)) t/\∃ a' b' c',TB 1006 (k+xs.length) (Ks (xs.map λx=>(x,x)) t) a' b' c'/\a<=a' /\
   ((∃ x∈xs,∃ A,Ev x A/\2^1073<=A.natAbs)->((2^1072:Nat):Int)<=a')
 | [],k,t,a,b,c,h,_,_,_=>⟨trivial,a,b,c,h,Int.le_refl _,λ⟨_,h,_⟩=>nomatch h⟩
 | x::xs,k,t,a,b,c,h,h0,hk,hb=>by
  have hlen:(x::xs).length=xs.length+1:=rfl
  refine XW (hb x (.head _)) λA hA nA=>?_
  refine Hs (h.step (by exact Yg (Zx _ _) (by assumption)) (by decide) hA hA (Zcw nA nA (by decide))) λa' b' c' P h' RP Ra=>?_
  have hP0:0<=P:=RP.ge (Y4 _) Rp.zero (by rw [Int.mul_zero,Zfb]; exact Ul _)
  have ha':a<=a':=Ra.ge (by decide) h.e.hi.rp (by lia)
  refine DN (Zcg xs (k+1) _ a' b' c' h' (by lia) (by lia) (λy hy=>hb y (.tail _ hy))) λq1 a2 b2 c2 q2 q3 q4=>?_
  refine⟨⟨h'.e.hi.fin,q1⟩,a2,b2,c2,?_,by exact Int.le_trans (by assumption) (by assumption),λ⟨y,hy,A',hA',nA'⟩=>?_⟩
  ·rw [hlen,show k+(xs.length+1)=k+1+xs.length by lia]
   exact q2
  ·rcases Z7.mp hy with rfl | hy
   ·have eA:A=A':=by
     refine WT hA.dec λuu uu uu uu v1 uu=>?_
     refine WT hA'.dec λuu uu uu uu v2 uu=>?_
     lia
    subst eA
    have hPb:((2^1072:Nat):Int)<=P:=RP.ge (Y4 _) (by exact B3 (by decide)) (by
     rw [Zfb,<- YB]
     have e:(2:Nat)^1074*2^1072=2^1073*2^1073:=by rw [<- Xb]
     rw [e]
     exact Int.ofNat_le.mpr (Xs nA' nA'))
    have:((2^1072:Nat):Int)<=a':=Ra.ge (by decide) (by exact B3 (by decide)) (by lia)
    exact Int.le_trans (by assumption) (by assumption)
   ·exact q4 ⟨y,hy,A',hA',nA'⟩
theorem Zez{a b:Int}{p:Nat}(ha:((2^(p+1):Nat):Int)<=a)(hb:b.natAbs<=2^p):((2^p:Nat):Int)<=b+a:=by
 rw [Ue,YB] at ha
 generalize (2^p:Nat)=z at *
 lia
theorem Tg:∀ xs:List UInt64,xs.zip xs=xs.map λx=>(x,x)
 | []=>rfl
 | x::xs=>by rw [List.zip_cons_cons,Tg xs]; rfl
theorem Zks{xs:List UInt64}(h:xs.length<=128)(hb:∀ x∈xs,Mid x)(hbig:∃ x∈xs,∃ A,Ev x A/\2^1073<=A.natAbs):Gk (xs.zip xs) z3/\∃ c:Nat,Ev (JQ (xs.zip xs)) (c:Int)/\2^1070<=c/\c<=2^1107:=by
 rw [Tg]
 refine DN (Zcg xs 0 z3 0 0 0 (TB.zero _) (Int.le_refl _) (by exact Yh (by assumption) _) hb) λq1 a b c q2 uu q4=>?_
 have hk:0+xs.length<=128:=by lia
 have nb:=KQ q2.hb hk
 obtain ⟨v,e1,n1,X,Y,rX,nY,rv⟩:=q2.e.read (p:=1053) (Zl (KQ q2.ha hk) (XR (by decide))) (Zl nb (XR (by decide))) (Zl (KQ q2.hc hk) (XR (by decide))) (by decide)
 have hX:((2^1071:Nat):Int)<=X:=rX.ge (by decide) (by exact B3 (by decide)) (by
  have:=Zez (p:=1071) (q4 hbig) (Zl nb (XR (by decide)))
  assumption)
 have hv:((2^1070:Nat):Int)<=v:=rv.ge (by decide) (by exact B3 (by decide)) (by
  have:=Zez (p:=1070) hX (Zl nY (XR (by decide)))
  assumption)
 have hv0:0<=v:=Int.le_trans (Ul _) hv
 refine⟨q1,v.toNat,?_,?_,?_⟩
 ·exact ZR (Jt hv0)▸(Zet e1).ev
 ·exact Int.ofNat_le.mp (by exact ZR (Jt hv0)▸hv)
 ·have n1':v.natAbs<=2^1107:=n1
  grind
theorem Zdz{z:Int}(h:z.natAbs<=2^52):Cn (hf z) (z*((2^1073:Nat):Int)):=by
 refine Gj (NF h) λt h1 h2 h3=>?_
 have hn:((2^1073:Nat):Int)=2^1073:=Jv _
 exact⟨t,h1,by rw [hn,N8]; exact h2,by rw [h3,hn,Fd]⟩
theorem Dy{s:Int}(h:s.natAbs<=2^40):Ev (hf (2*s)) (s*((2^1074:Nat):Int)):=by
 have e2:2*s*((2^1073:Nat):Int)=s*((2^1074:Nat):Int):=by
  rw [Ue 1073,YB]
  generalize ((2^1073:Nat):Int)=P
  show 2*s*P=s*(2*P)
  grind
 exact e2▸((Zdz (z:=2*s) (by lia)).ev)
theorem B5{s:Int}(h:s.natAbs<=2^40):Ev (Yy s) (s*((2^1074:Nat):Int)):=by
 rw [GQ (by lia)]; exact Dy h
noncomputable def Zfg(k1:Nat)(p:UInt64×UInt64)(z:Int):Prop:=∃ A B,Ev p.1 A/\Ev p.2 B/\A*B=((2^1074:Nat):Int)*(z*((2^k1:Nat):Int))
theorem Ij{z:Int}{k:Nat}(hz:z.natAbs<=2^53)(hk:k<=1990):Rp (z*((2^k:Nat):Int)).natAbs:=by
 rw [Yu,Y9]; exact BU hz hk
section
variable {α:Type}{g:α->UInt64×UInt64}{z:α->Int}{k1:Nat}
theorem Zjn(hk1:k1<=1900)(L:List α):∀ (s:Int) (t:T3),(∀ p∈L,Zfg k1 (g p) (z p)/\(z p).natAbs<=2^40)->s.natAbs+L.length*2^40<=2^53->TE t (s*((2^k1:Nat):Int)) 0 0 ->
   Gk (L.map g) t/\TE (Ks (L.map g) t) ((s+(L.map z).sum)*((2^k1:Nat):Int)) 0 0:=by
 induction L with
 | nil=>exact λs t uu uu h=>⟨trivial,by show TE t _ 0 0; simpa using h⟩
 | cons p L ih=>
  intro s t hb hs h
  refine zA (hb p (.head _)) λzq0 hz=>?_; obtain ⟨A,B,hA,hB,e⟩:=zq0
  have hlen:(p::L).length=L.length+1:=rfl
  rw [hlen,Nat.add_mul,J7] at hs
  have ht:=Int.natAbs_add_le s (z p)
  generalize hP:2^40=P at hs hz
  generalize hQ:2^53=Q at hs
  have hPQ:P<=Q:=by rw [<- hP,<- hQ]; exact XR (by decide)
  have hst:TE (tlFma (g p).1 (g p).2 t) ((s+z p)*((2^k1:Nat):Int)) 0 0 :=
   h.stepE hA hB e (Ij (by exact hQ▸Zl hz hPQ) (by lia)) (by rw [Int.add_mul]) (Ij (by rw [hQ]; lia) (by lia))
  refine zA (ih (s+z p) _ (λq hq=>hb q (.tail _ hq)) (by rw [hP,hQ]; lia) hst) λg1 g2=>?_
  refine⟨⟨hst.hi.fin,g1⟩,?_⟩
  have e2:s+((p::L).map z).sum=s+z p+(L.map z).sum:=by rw [YD,XF,Int.add_assoc]
  exact e2▸g2
theorem Zjj(L:List α)(hb:∀ p∈L,(z p).natAbs<=2^40):((L.map z).sum).natAbs<=L.length*2^40:=by
 have h:=G8 (B:=2^40) (L.map z) λx hx=>by
  refine XW (ZZ.mp hx) λp hp zr=>?_; obtain rfl:=zr
  exact hb p hp
 rwa [YW] at h
theorem KW(hk1:k1<=1900)(L:List α)(hb:∀ p∈L,Zfg k1 (g p) (z p)/\(z p).natAbs<=2^40)(hl:L.length<=2^12) :
  Gk (L.map g) z3/\Ev (JQ (L.map g)) ((L.map z).sum*((2^k1:Nat):Int)):=by
 have h3:=Zjj L λp hp=>(hb p hp).2
 refine zA (Zjn hk1 L 0 z3 hb (by simp; lia) (by rw [JF]; exact TE.zero)) λh1 h2=>?_
 refine⟨h1,?_⟩
 rw [Int.zero_add] at h2
 exact(Zel h2 (Int.zero_add _) (Ij (by lia) (by lia))).ev
end
theorem Ev.eq{x y:UInt64}{A:Int}(hx:Ev x A)(hy:Ev y A):WS x y=some .eq:=by
 rw [hx.cmp hy]; simp
theorem Zav{x y:UInt64}{A:Int}{B:Nat}(hx:Ev x A)(hy:Ev y (B:Int))(hB:B≠0){C:Int}(e:A*2^1074=B*C)(hr:Rp C.natAbs):Ev (X4 x y) C:=by
 have hb:A.natAbs*2^1074<=B*MX:=by
  have e':A.natAbs*2^1074=B*C.natAbs:=by
   have:=congrArg Int.natAbs e
   rwa [Yu,Yu,Int.natAbs_pow,Y9] at this
  rw [e']; exact Xc _ hr.le_max
 refine XW (hx.div hy hB hb) λC' h1 h2=>?_
 rw [e] at h2
 exact(h2.exact (WH hB) hr rfl)▸h1
theorem IG{a b:Int}(ha:a≠0)(hb:b≠0):decide (a*b<0)=(decide (a<0) != decide (b<0)):=by
 rcases Int.lt_or_gt_of_ne ha with h1 | h1<;>rcases Int.lt_or_gt_of_ne hb with h2 | h2
 ·have:=Int.mul_pos_of_neg_of_neg h1 h2
  simp [h1,h2]; exact Int.le_of_lt (by assumption)
 ·have:=Int.mul_neg_of_neg_of_pos h1 h2
  simp [h1,this]; exact Int.le_of_lt (by assumption)
 ·have:=Int.mul_neg_of_pos_of_neg h1 h2
  simp [h2,this]; lia
 ·have:=Int.mul_pos h1 h2
  have a1:¬ a<0:=by lia
  have a2:¬ b<0:=by lia
  simp [a1,a2]; lia
theorem Zht{x y:UInt64}{A:Int}{B:Nat}{p q:Int}(hx:Ev x A)(hy:Ev y (B:Int))(hB:B≠0)(hq:q≠0)(hb:A.natAbs*2^1074<=B*MX)(e:A*q=p*B):WS (X4 x y) (K9 p q)=some .eq:=by
 refine XW (hx.div hy hB hb) λC h1 h2=>?_
 have hqn:0<q.natAbs:=Int.natAbs_pos.mpr hq
 have R':Right (K9 p q) (decide (p<0) != decide (q<0)) (p.natAbs*2^1074) q.natAbs:=ofFrac_right hqn rfl hqn
 by_cases hA:A=0
 ·subst hA
  have hp:p=0:=by
   rw [JF] at e
   rcases Int.mul_eq_zero.mp e.symm with h | h
   ·exact h
   ·lia
  subst hp
  have e1:=h2.exact (Z:=0) (WH hB) Rp.zero (by simp)
  subst e1
  have e3:sgn (decide ((0:Int)<0) != decide (q<0)) (Int.natAbs 0*2^1074)=0:=by
   rw [Int.natAbs_zero,Nat.zero_mul]; exact Zca _
  refine XW (Kw R' hqn (by simp) e3) λC' g1 g2=>?_
  have e2:=g2.exact (Z:=0) hqn Rp.zero (by simp)
  subst e2
  exact h1.eq g1
 ·have hp:p≠0:=λh=>by
   rw [h,JF] at e
   rcases Int.mul_eq_zero.mp e with h | h
   ·exact hA h
   ·exact hq h
  have hBz:(B:Int)≠0:=by lia
  have es:(decide (p<0) != decide (q<0))=decide (A<0):=by
   have s1:=IG hA hq
   rw [e,(IG hp hBz)] at s1
   have s3:decide ((B:Int)<0)=false:=by simp
   rw [s3] at s1
   revert s1
   generalize decide (p<0)=u
   generalize decide (q<0)=v
   generalize decide (A<0)=w
   revert u v w; decide
  rw [es] at R'
  have e':A.natAbs*q.natAbs=p.natAbs*B:=by
   have:=congrArg Int.natAbs e
   rwa [Yu,Yu,Y9] at this
  have:=OR ((hx.cn hA).div (hy.cn hBz) (WH hB)) R' (WH hB) hqn (by rw [Nat.mul_right_comm,e']; ac_rfl)
  exact this▸h1.eq h1
theorem Zfz{m:UInt64}{M Z:Nat}(hm:Ev m (M:Int))(e:M*2^1074=Z*Z)(hz:0<Z)(hr:Rp Z):Ev (UN m) (Z:Int):=by
 refine WT hm.dec λs mm ex d v hzr=>?_
 have hM:0<M:=by
  rcases Nat.eq_zero_or_pos M with h | h
  ·rw [h,Nat.zero_mul] at e
   have:=Wa hz hz; lia
  ·exact h
 have hs:s=false:=by
  have h1:=Hx d
  rw [v,Y9] at h1
  delta sgn at h1
  cases s
  ·rfl
  ·simp only [if_true] at h1; lia
 subst hs
 refine Bt (sqrt_right d (λh=>by have:=hzr.mp h; lia)) λt h1 h2 h3 h4=>?_
 rw [v,Y9,e] at h3 h4
 refine XW hr λt0 h5 h6=>?_
 refine⟨false,t,h2,h1,?_⟩
 have:V t=Z:=by
  rcases Ux t t0 with q | q | q
  ·have a1:=h3 t0 q
   have a2:=V_lt q
   rw [h6] at a1 a2
   have a3:(V t+Z)*(V t+Z)<(2*Z)*(2*Z):=Nat.mul_self_lt_mul_self (by lia)
   grind
  ·rw [q,h6]
  ·have a1:=h4 t0 q
   have a2:=V_lt q
   rw [h6] at a1 a2
   have a3:(2*Z)*(2*Z)<(V t+Z)*(V t+Z):=Nat.mul_self_lt_mul_self (by lia)
   grind
 rw [this]; rfl
theorem Zbm:Ev Np ((2:Int)*((2^1074:Nat):Int)):=by
 have h:=B5 (s:=2) (by decide)
 have e:Yy 2=Np:=by decide +kernel
 rwa [e] at h
theorem Zbu{x y:UInt64}{S c k:Nat}(hx:Ev x ((S*2^k:Nat):Int))(hy:Ev y ((c*c*S*2^k:Nat):Int))(hS:0<S)(hc:0<c)(hb:c*S*(c*S)<=2^53)(hk:1060<=k)(hk2:k<=1080) :
  Ev (BQ x y) ((c*S*2^k:Nat):Int)/\Zig x y:=by
 have hcS:0<c*S:=Wa hc hS
 have hle:c*S<=2^53:=Zl (Nat.le_mul_of_pos_left _ hcS) hb
 obtain ⟨u,hu⟩:∃ u,2*k=u+1074:=⟨2*k-1074,by lia⟩
 have hkk:2^k*2^k=2^1074*2^u:=by rw [<- Xb,<- Xb]; congr 1; lia
 have hm:Ev (X3 x y) ((c*S*(c*S)*2^u:Nat):Int):=by
  refine hx.mulE hy ?_ (by exact BU hb (by lia))
  rw [<- YB,<- YB]
  congr 1
  calc S*2^k*(c*c*S*2^k)=c*S*(c*S)*(2^k*2^k):=by ac_rfl
   _=_:=by rw [hkk]; ac_rfl
 have hh:Ev (hF x y) ((c*S*2^k:Nat):Int):=by
  refine Zfz hm ?_ (Wa hcS (Y4 _)) (BU hle (by lia))
  calc c*S*(c*S)*2^u*2^1074=c*S*(c*S)*(2^1074*2^u):=by ac_rfl
   _=_:=by rw [<- hkk]; ac_rfl
 have hpos:0<c*S*2^k:=Wa hcS (Y4 _)
 have hz:Yp (hF x y)=false:=by
  exact ZF hh.isZero (decide_eq_false (by lia))
 have e1:((S*2^k:Nat):Int)*((c*c*S*2^k:Nat):Int)=((2^1074:Nat):Int)*((c*S*(c*S)*2^u:Nat):Int):=by
  rw [<- YB,<- YB]; congr 1
  calc S*2^k*(c*c*S*2^k)=c*S*(c*S)*(2^k*2^k):=by ac_rfl
   _=_:=by rw [hkk]; ac_rfl
 have e2:((c*S*2^k:Nat):Int) * -((c*S*2^k:Nat):Int)=((2^1074:Nat):Int) * -((c*S*(c*S)*2^u:Nat):Int):=by
  rw [Int.mul_neg,Int.mul_neg,<- YB,<- YB]; congr 2
  calc c*S*2^k*(c*S*2^k)=c*S*(c*S)*(2^k*2^k):=by ac_rfl
   _=_:=by rw [hkk]; ac_rfl
 have r1:Rp ((c*S*(c*S)*2^u:Nat):Int).natAbs:=by exact BU hb (by lia)
 have t1:TE (tlFma x y z3) ((c*S*(c*S)*2^u:Nat):Int) 0 0:=TE.zero.stepE hx hy e1 r1 (Int.zero_add _) r1
 have t2:TE (tlFma (hF x y) (U1 (hF x y)) (tlFma x y z3)) 0 0 0:=t1.stepE hh hh.neg e2 (by rw [Jy]; exact r1) (Int.add_right_neg _) Rp.zero
 have h2h:Ev (X3 Np (hF x y)) ((2*(c*S)*2^k:Nat):Int):=by
  refine Zbm.mulE hh ?_ (by rw [Y9,WW 2,Wj,<- Ue]; exact BU hle (by lia))
  rw [Int.mul_comm 2,Int.mul_assoc]; congr 1
  show((2:Nat):Int)*_=_
  rw [<- YB]; congr 1; ac_rfl
 have hz2:Yp (X3 Np (hF x y))=false:=by
  rw [h2h.isZero]; refine decide_eq_false ?_
  have:0<2*(c*S)*2^k:=Wa (Wa (by decide) hcS) (Y4 _)
  omega
 refine⟨?_,⟨by rw [hh.notNaN]; simp,hh.fin,(λh=>by exact absurd (ZF (ZR hz) h) Zn),λuu=>⟨⟨t1.hi.fin,t2.hi.fin,trivial⟩,hz2⟩⟩⟩
 delta BQ
 rw [if_neg (by exact hz▸Zn)]
 have hq:Ev (X4 (JQ [(x,y),(hF x y,U1 (hF x y))]) (X3 Np (hF x y))) 0:=by
  refine Zav ((Zel (ps:=[(x,y),(hF x y,U1 (hF x y))]) t2 (U8 _) Rp.zero).ev) h2h ?_ (by simp) Rp.zero
  have:0<2*(c*S)*2^k:=Wa (Wa (by decide) hcS) (Y4 _)
  exact Ys (by assumption)
 exact hh.addE hq (U8 _) hh.rp
theorem B6{L:List (UInt64×UInt64)}(h:∀ p∈L,(Ev p.1 0/\∃ B,Ev p.2 B)\/(Ev p.2 0/\∃ B,Ev p.1 B))(hl:L.length<=2^12):Gk L z3/\Ev (JQ L) 0:=by
 have:=KW (g:=id) (z:=λuu=>0) (k1:=1074) (by decide) L (λp hp=>⟨?_,by simp⟩) hl
 ·rw [List.map_id] at this
  have e:(L.map λuu=>(0:Int)).sum=0:=by
   clear this h hl
   induction L with
   | nil=>rfl
   | cons p L ih=>rw [YD,XF,ih]; rfl
  rwa [e,JF] at this
 ·rcases h p hp with ⟨h1,B,h2⟩ | ⟨h1,B,h2⟩
  ·exact⟨0,B,h1,h2,by simp⟩
  ·exact⟨B,0,h2,h1,by simp⟩
theorem DW{x y:UInt64}(hm:Ev (X3 x y) 0)(hz:Yp x=true\/Yp y=true):Zig x y/\Yp (BQ x y)=true:=by
 have hh:Ev (hF x y) 0:=by
  delta hF
  have:UN (X3 x y)=X3 x y:=by
   refine WT hm.dec λs mm e d v hz=>?_
   delta UN
   rw [d,hz.mpr rfl]
   simp
  exact ZR this▸hm
 have h0:Yp (hF x y)=true:=by rw [hh.isZero]; rfl
 refine⟨⟨by rw [hh.notNaN]; simp,hh.fin,λuu=>hz,λh=>absurd h0 h⟩,?_⟩
 delta BQ
 exact(if_pos h0)▸h0
theorem BI{xs ys:List UInt64}(hl:xs.length=ys.length)(h0:0<xs.length)(hn:xs.length<=2^12)(hx:∀ x∈xs,Ev x 0)(hy:∀ y∈ys,∃ C,Ev y C)(yy:Gk (ys.zip ys) z3)(hY:∃ C,Ev (JQ (ys.zip ys)) C) :
  (Gq xs ys/\JS xs ys=none/\Ev (JQ (xs.zip ys)) 0)/\Gq ys xs/\JS ys xs=none/\Ev (JQ (ys.zip xs)) 0:=by
 refine zE hY λC hC=>?_
 have zl:∀ as bs:List UInt64,as.length=xs.length->(as.zip bs).length<=2^12:=λas bs h=>by
  rw [List.length_zip,h]; exact Zl (Nat.min_le_left _ _) hn
 refine zA (B6 (L:=xs.zip xs) (λp hp=>.inl ⟨hx _ (WY hp).1,0,hx _ (WY hp).2⟩) (zl _ _ rfl)) λxx1 xx2=>?_
 refine zA (B6 (L:=xs.zip ys) (λp hp=>.inl ⟨hx _ (WY hp).1,hy _ (WY hp).2⟩) (zl _ _ rfl)) λxy1 xy2=>?_
 refine zA (B6 (L:=ys.zip xs) (λp hp=>.inr ⟨hx _ (WY hp).2,hy _ (WY hp).1⟩) (zl _ _ hl.symm)) λyx1 yx2=>?_
 have z:Yp (JQ (xs.zip xs))=true:=by rw [xx2.isZero]; rfl
 refine zA (DW (xx2.mulE hC (C:=0) (by simp) Rp.zero) (.inl z)) λs1 s2=>?_
 refine zA (DW (hC.mulE xx2 (C:=0) (by simp) Rp.zero) (.inr z)) λs3 s4=>?_
 exact⟨⟨⟨hl,h0,xy1,xx1,yy,s1⟩,if_pos s2,xy2⟩,⟨hl.symm,hl▸h0,yx1,yy,xx1,s3⟩,if_pos s4,yx2⟩
theorem Hy{α:Type}(c:Int)(f:α->Int)(L:List α):(L.map λa=>c*f a).sum=c*(L.map f).sum:=by
 induction L with
 | nil=>simp
 | cons a L ih=>rw [YD,XF,ih,YD,XF,Int.mul_add]
theorem Ic{α:Type}(f g:α->UInt64)(L:List α):(L.map f).zip (L.map g)=L.map λa=>(f a,g a):=by
 induction L with
 | nil=>rfl
 | cons a L ih=>rw [YD,YD,List.zip_cons_cons,ih,YD]
theorem HC{x y:UInt64}{a b:Int}{k0 k:Nat}(hx:Ev x (a*((2^k0:Nat):Int)))(hy:Ev y (b*((2^k0:Nat):Int)))(hk:2*k0=k+1074):Zfg k (x,y) (a*b):=by
 refine⟨_,_,hx,hy,?_⟩
 have e1:((2^k0:Nat):Int)*((2^k0:Nat):Int)=((2^1074:Nat):Int)*((2^k:Nat):Int):=by
  rw [<- YB,<- YB,<- Xb,<- Xb,show k0+k0=1074+k by lia]
 generalize ((2^k0:Nat):Int)=u at *
 generalize ((2^k:Nat):Int)=v at *
 generalize ((2^1074:Nat):Int)=w at *
 grind
theorem S5{c:Nat}{d:Int}(hc:c<=2)(hd:d.natAbs<=2^10):(d*d).natAbs<=2^40/\((c:Int)*(d*d)).natAbs<=2^40/\((c:Int)*((c:Int)*(d*d))).natAbs<=2^40:=by
 have h1:d.natAbs*d.natAbs<=2^10*2^10:=Xs hd hd
 have h2:c*(d.natAbs*d.natAbs)<=2*(2^10*2^10):=Xs hc h1
 have h3:c*(c*(d.natAbs*d.natAbs))<=2*(2*(2^10*2^10)):=Xs hc h2
 simp only [Yu,Y9]
 refine⟨by lia,by lia,by lia⟩
theorem O4{α:Type}{f g:α->UInt64}{d:α->Int}{L:List α}{k0 k c S:Nat}(hf:∀ a∈L,Ev (f a) (d a*((2^k0:Nat):Int)))(hg:∀ a∈L,Ev (g a) (-((c:Int)*d a)*((2^k0:Nat):Int)))(hk:2*k0=k+1074)(hk1:1060<=k)(hk2:k<=1080)(hd:∀ a∈L,(d a).natAbs<=2^10)
  (hc:0<c)(hc2:c<=2)(h0:0<L.length)(hl:L.length<=2^12)(hS:(L.map λa=>d a*d a).sum=(S:Int))(hS0:0<S)(hb:c*S*(c*S)<=2^53) :
  Gq (L.map f) (L.map g)/\(∃ r,JS (L.map f) (L.map g)=some r/\Ev r (-((2^1074:Nat):Int)))/\Ev (JQ ((L.map f).zip (L.map g))) (-((c*S*2^k:Nat):Int))/\Ev (JQ ((L.map f).zip (L.map f))) ((S*2^k:Nat):Int):=by
 refine zA (KW (g:=λa=>(f a,f a)) (z:=λa=>d a*d a) (k1:=k) (by grind) L (λa ha=>⟨HC (hf a ha) (hf a ha) hk,(S5 hc2 (hd a ha)).1⟩) hl) λxx1 xx2=>?_
 refine zA (KW (g:=λa=>(g a,g a)) (z:=λa=>(c:Int)*((c:Int)*(d a*d a))) (k1:=k) (by grind) L (λa ha=>⟨by
  have:=HC (hg a ha) (hg a ha) hk
  have e:-((c:Int)*d a) * -((c:Int)*d a)=(c:Int)*((c:Int)*(d a*d a)):=by grind
  rwa [e] at this,(S5 hc2 (hd a ha)).2.2⟩) hl) λyy1 yy2=>?_
 refine zA (KW (g:=λa=>(f a,g a)) (z:=λa=>(-1)*((c:Int)*(d a*d a))) (k1:=k) (by grind) L (λa ha=>⟨by
  have:=HC (hf a ha) (hg a ha) hk
  have e:d a * -((c:Int)*d a)=(-1)*((c:Int)*(d a*d a)):=by grind
  rwa [e] at this,by rw [Int.neg_one_mul,Jy]; exact(S5 hc2 (hd a ha)).2.1⟩) hl) λxy1 xy2=>?_
 rw [hS,<- YB] at xx2
 rw [Hy,Hy,hS,<- YB,<- YB,<- YB,show c*(c*S)=c*c*S by rw [Wj]] at yy2
 rw [Hy,Hy,hS,<- YB,Int.neg_one_mul,Int.neg_mul,<- YB] at xy2
 refine zA (Zbu xx2 yy2 hS0 hc hb hk1 hk2) λq1 q2=>?_
 have hcS:0<c*S*2^k:=Wa (Wa hc hS0) (Y4 _)
 rw [<- Ic] at xx1 xx2 yy1 yy2 xy1 xy2 q1 q2
 rw [<- Ic] at q1 q2
 have hz:Yp (BQ (JQ ((L.map f).zip (L.map f))) (JQ ((L.map g).zip (L.map g))))=false:=by
  exact ZF q1.isZero (decide_eq_false (by lia))
 refine⟨⟨by exact(YW ..).trans (YW ..).symm,by simpa using h0,xy1,xx1,yy1,q2⟩,⟨_,if_neg (by exact hz▸Zn),?_⟩,xy2,xx2⟩
 refine Zav xy2 q1 (by exact Ys (by assumption)) (C:=-((2^1074:Nat):Int)) ?_ (by rw [Jy,Y9]; exact B3 (by decide))
 rw [Int.neg_mul,Int.mul_neg,Jv]
end
section
set_option exponentiation.threshold 5000
open PySem PySem.Float64
theorem DS(n:Nat)(a:Int):(ZM n a).sum=n*a:=by
 induction n with
 | zero=>simp
 | succ n ih=>rw [List.replicate_succ,XF,ih]; grind
theorem Dw{n:Nat}(h:n<=2^12):Ev (Yy (n:Int)) ((n*2^1074:Nat):Int):=by
 have:=B5 (s:=(n:Int)) (by exact Zl h (XR (by decide)))
 rwa [<- YB] at this
theorem Zka{n:Nat}{a:Int}{p q:Nat}(hn:n<=2^p)(ha:a.natAbs<=2^q)(h:p+q<=40):((n:Int)*a).natAbs<=2^40:=by
 rw [Yu,Y9]
 exact Zl (Xs hn ha) (by rw [<- Xb]; exact XR h)
theorem N9{ns:List Int}{m:Int}(h0:0<ns.length)(h:ns.length<=2^12)(hm:m.natAbs<=2^12)(hs:ns.sum=ns.length*m):Ev (UT ns) (m*((2^1074:Nat):Int)):=by
 refine Zav (Dy (s:=ns.sum) (by exact hs▸Zka h hm (by decide))) (Dw h) (Ys (Wa h0 (Y4 _))) ?_ (Ij (Zl hm (XR (by decide))) (by decide))
 rw [hs,YB,Jv]
 generalize (2:Int)^1074=u
 grind
theorem DE{mean:UInt64}{m v:Int}(h:Ev mean (m*((2^1074:Nat):Int)))(hv:v.natAbs<=2^12)(hm:m.natAbs<=2^12):Ev (Wx (Yy v) mean) ((v-m)*((2^1074:Nat):Int)) :=
 (B5 (Zl hv (XR (by decide)))).subE h (by rw [Int.sub_mul]) (Ij (by
  exact Bd.sub hv hm (by decide)) (by decide))
theorem FL{ns:List Int}(h0:0<ns.length)(h:ns.length<=128)(hb:∀ s∈ns,s.natAbs<=2^9):∃ M:Int,Ev (UT ns) M/\M.natAbs<=2^1083:=by
 have hs:=G8 (B:=2^9) ns hb
 have hs2:ns.length*2^9<=2^7*2^9:=Yn _ h
 have hB:0<ns.length*2^1074:=Wa h0 (Y4 _)
 have hbd:(ns.sum*((2^1074:Nat):Int)).natAbs*2^1074<=ns.length*2^1074*2^1083:=by
  rw [Yu,Y9]
  have:ns.sum.natAbs*(2^1074*2^1074)<=ns.length*2^9*(2^1074*2^1074):=Yn _ hs
  rw [(Xb 2 9 1074)]
  generalize (2:Nat)^1074=u at *
  generalize (2:Nat)^9=v at *
  refine Zl (Xw ?_) (Zl this (Xw ?_))
  ·ac_rfl
  ·ac_rfl
 refine XW ((Dy (s:=ns.sum) (Zl hs (Zl hs2 (by rw [<- Xb]; exact XR (by decide))))).div (Dw (Zl h (by decide))) (Ys hB) (Zl hbd (Xc _ (fit (Z6 _) (by decide))))) λM hM RM=>?_
 exact⟨M,hM,RM.abs_pow hB (by decide) (p:=1083) (by rw [Yu,Int.natAbs_pow]; exact hbd)⟩
theorem KY{mean:UInt64}{M s:Int}(hM:Ev mean M)(h:M.natAbs<=2^1083)(hs:s.natAbs<=2^9):∃ D,Ev (Wx (Yy s) mean) D/\D.natAbs<=2^1086/\BL (s*((2^1074:Nat):Int)-M) 1 D:=by
 have hsb:(s*((2^1074:Nat):Int)).natAbs<=2^1083:=by
  rw [Yu,Y9,show(2:Nat)^1083=2^9*2^1074 from Xb 2 9 1074]
  exact Yn _ hs
 have hd:(s*((2^1074:Nat):Int)-M).natAbs<=2^1086:=by
  rw [(Xb 2 1083 3)]; exact Bd.sub hsb h (by rw [<- Nat.mul_two]; exact Xc _ (by decide))
 refine XW ((B5 (Zl hs (XR (by decide)))).sub hM (fit hd (by decide))) λD e R=>?_
 exact⟨D,e,R.abs_one (by decide) hd,R⟩
theorem far{a b M:Int}{U H:Nat}(hU:U=2*H)(h:(U:Int)<=a-b):(H:Int)<=a-M\/b-M <= -(H:Int):=by lia
theorem Zey{C D:Int}{H:Nat}(R:BL C 1 D)(hr:Rp H)(h:(H:Int)<=C\/C <= -(H:Int)):H<=D.natAbs:=by
 rcases h with h | h
 ·have:=R.ge (Z:=(H:Int)) (by decide) (by exact hr) (by lia)
  lia
 ·have:=R.le (Z:=-(H:Int)) (by decide) (by rw [Jy,Y9]; exact hr) (by lia)
  lia
theorem Zku{ns:List Int}(h0:0<ns.length)(h:ns.length<=128)(hb:∀ s∈ns,s.natAbs<=2^9){a b:Int}(ha:a∈ns)(hb':b∈ns)(hab:b<a) :
  (∀ x∈Wl ns,∃ C,Ev x C)/\Gk ((Wl ns).zip (Wl ns)) z3/\∃ c:Nat,Ev (JQ ((Wl ns).zip (Wl ns))) (c:Int)/\2^1070<=c:=by
 refine XW (FL h0 h hb) λM hM mM=>?_
 have mid:∀ x∈Wl ns,Mid x:=λx hx=>by
  refine XW (ZZ.mp hx) λs hs zr=>?_; obtain rfl:=zr
  refine Gj (KY hM mM (hb s hs)) λD e n uu=>?_
  exact⟨D,e,n⟩
 have hd:((2^1074:Nat):Int)<=a*((2^1074:Nat):Int)-b*((2^1074:Nat):Int):=by
  rw [<- Int.sub_mul]
  have:1*((2^1074:Nat):Int)<=(a-b)*((2^1074:Nat):Int):=Int.mul_le_mul_of_nonneg_right (by lia) (Ul _)
  rwa [Int.one_mul] at this
 have big:∃ x∈Wl ns,∃ A,Ev x A/\2^1073<=A.natAbs:=by
  refine Gj (KY hM mM (hb a ha)) λD e uu R=>?_
  refine Gj (KY hM mM (hb b hb')) λD' e' uu R'=>?_
  rcases far (M:=M) (Ue 1073) hd with q | q
  ·exact⟨_,ZZ.mpr ⟨a,ha,rfl⟩,D,e,Zey R (B3 (by decide)) (.inl q)⟩
  ·exact⟨_,ZZ.mpr ⟨b,hb',rfl⟩,D',e',Zey R' (B3 (by decide)) (.inr q)⟩
 refine Zlb (Zks (by unfold Wl Ge; rw [YW]; exact h) mid big) λq1 c q2 q3 uu=>?_
 exact⟨λx hx=>let ⟨A,hA,_⟩:=mid x hx; ⟨A,hA⟩,q1,c,q2,q3⟩
theorem ev0:Ev 0 0:=Ev.of_zero false
theorem Zix:Ev m1F (-((2^1074:Nat):Int)):=by
 have h:=(B5 (s:=1) (by decide)).neg
 have e:U1 (Yy 1)=m1F:=by decide +kernel
 rw [e,Int.one_mul] at h; exact h
theorem Ziw:Ev m2F (-2*((2^1074:Nat):Int)):=by
 have h:=Zbm.neg
 have e:U1 Np=m2F:=rfl
 rw [e,<- Int.neg_mul] at h; exact h
theorem Zib{x:UInt64}{n:Int}(h:Ev x (n*((2^1074:Nat):Int))):Float64.cmpInt x n=some .eq:=by
 refine WT h.dec λs m e d v uu=>?_
 have he:=decode_ge d
 delta Float64.cmpInt
 rw [d]
 unfold val at v
 rw [d] at v
 dsimp only at v ⊢
 have sg:∀ (b:Bool) (p q:Nat),sgn b (p*q)=sgn b p*(q:Int):=λb p q=>by
  cases b<;>simp [sgn,Int.neg_mul]
 rw [sg] at v
 by_cases h0:e≥0
 ·rw [if_pos h0]
  refine zE (WM h0) λj zr=>?_; obtain rfl:=zr
  have e1:((j:Int)+1074).toNat=j+1074:=by exact rfl
  rw [e1,Xb,YB,<- Int.mul_assoc] at v
  have v2:=Int.eq_of_mul_eq_mul_right (Int.natCast_ne_zero.mpr (Ys (Y4 1074))) v
  rw [Jv] at v2
  rw [XM,v2]
  simp
 ·rw [if_neg h0]
  obtain ⟨j,hj⟩:∃ j:Nat,(-e).toNat=j:=⟨_,rfl⟩
  have e1:(1074:Nat)=(e+1074).toNat+j:=by lia
  rw [hj]
  generalize (e+1074).toNat=i at *
  rw [e1,Xb,YB,Int.mul_comm ((2^i:Nat):Int),<- Int.mul_assoc] at v
  have v2:=Int.eq_of_mul_eq_mul_right (Int.natCast_ne_zero.mpr (Ys (Y4 i))) v
  rw [Jv] at v2
  rw [v2]
  simp
theorem Zaf(n:Nat)(a0:Int):Ga (ZM n a0) a0=n:=by
 delta Ga
 rw [List.countP_replicate,List.countP_replicate]
 simp
theorem Zcm{n:Nat}{a0:Int}:∀ x∈WA (ZM n a0),Ev x 0:=λx hx=>by
 refine XW (ZZ.mp hx) λv hv zr=>?_; obtain rfl:=zr
 rw [Wg hv,Zaf,UJ,Int.sub_self]
 have:=(Zdz (z:=0) (by decide)).ev
 rwa [JF] at this
theorem B8{α:Type}{p q r:α->Bool}(hd:∀ x,p x=true->¬ q x=true)(hp:∀ x,p x=true->r x=true)(hq:∀ x,q x=true->r x=true):∀ L:List α,L.countP p+L.countP q<=L.countP r
 | []=>Z6 _
 | x::L=>by
  have ih:=B8 hd hp hq L
  by_cases a:p x=true
  ·rw [Jr a,Js (hd x a),Jr (hp x a),Nat.add_right_comm]; exact Xv ih
  ·rw [Js a]
   by_cases b:q x=true
   ·rw [Jr b,Jr (hq x b)]; exact Xv ih
   ·rw [Js b]; exact Zl ih (by rw [Vk]; exact Zx _ _)
theorem Zen{x v:Int}(h:decide (x<v)=true)(e:decide (x=v)=true):False:=Int.ne_of_lt (of_decide_eq_true h) (of_decide_eq_true e)
theorem Zcy(ns:List Int)(v:Int):Ga ns v<=2*ns.length:=by
 delta Ga
 have h1:=B8 (r:=λuu=>true) (λx h=>Zen h) (λuu uu=>rfl) (λuu uu=>rfl) ns (p:=λx=>decide (x<v)) (q:=λx=>decide (x=v))
 have h2:ns.countP (λuu=>true)<=ns.length:=List.countP_le_length
 lia
noncomputable def Kx(ns:List Int)(v:Int):Int:=(Ga ns v:Int)-ns.length
theorem Sa(ns:List Int)(v:Int):(Kx ns v).natAbs<=ns.length:=by
 have:=Zcy ns v
 delta Kx; lia
theorem Tw{ns:List Int}(h:ns.length<=2^10)(v:Int):Ev (hf (Kx ns v)) (Kx ns v*((2^1073:Nat):Int)) :=
 (Zdz (Zl (Sa ns v) (Zl h (XR (by decide))))).ev
theorem TA(ns:List Int):WA ns=ns.map λv=>hf (Kx ns v):=rfl
theorem Zjq{ns:List Int}(h:ns.length<=2^10):(∀ x∈WA ns,∃ C,Ev x C)/\Gk ((WA ns).zip (WA ns)) z3/\∃ C,Ev (JQ ((WA ns).zip (WA ns))) C:=by
 refine⟨λx hx=>?_,?_⟩
 ·refine XW (ZZ.mp hx) λv uu zr=>?_; obtain rfl:=zr
  exact⟨_,Tw h v⟩
 ·rw [TA,Ic]
  refine zA (KW (g:=λv=>(hf (Kx ns v),hf (Kx ns v))) (z:=λv=>Kx ns v*Kx ns v) (k1:=1072) (by decide) ns (λv uu=>⟨HC (Tw h v) (Tw h v) (by decide),(S5 (c:=1) (by decide) (Zl (Sa ns v) h)).1⟩) (Zl h (XR (by decide)))) λh1 h2=>?_
  exact⟨h1,_,h2⟩
theorem Zjp(ns:List Int)(v:Int):Kx (ns.map Gy) (Gy v) = -Kx ns v:=by
 have h:∀ ms:List Int,Ga (ms.map Gy) (Gy v)+Ga ms v=2*ms.length:=λms=>by
  delta Ga
  induction ms with
  | nil=>simp
  | cons x ms ih=>
   simp only [YD,Vk,Vj]
   have e1:(Gy x<Gy v)↔v<x:=by unfold Gy; lia
   have e2:(Gy x=Gy v)↔x=v:=by unfold Gy; lia
   simp only [e1,e2]
   have:2*(if decide (v<x)=true then 1 else 0)+(if decide (x=v)=true then 1 else 0)+(2*(if decide (x<v)=true then 1 else 0)+(if decide (x=v)=true then 1 else 0))=2:=by
    rcases Int.lt_trichotomy x v with h | h | h
    ·have a:¬ v<x:=by lia
     have b:¬ x=v:=by exact Int.ne_of_lt (by assumption)
     simp [h,a,b]
    ·subst h; simp
    ·have a:¬ x<v:=by lia
     have b:¬ x=v:=by exact Int.ne_of_gt (by assumption)
     simp [h,a,b]
   lia
 have:=h ns
 delta Kx
 rw [YW]; lia
theorem Zcx{ns:List Int}{v w:Int}(h:v<w)(hv:v∈ns):Ga ns v<Ga ns w:=by
 delta Ga
 have h1:0<ns.countP λx=>decide (x=v):=List.countP_pos_iff.mpr ⟨v,hv,by simp⟩
 have:=B8 (r:=λx=>decide (x<w)) (λx h=>Zen h) (λx e=>decide_eq_true (Jd (of_decide_eq_true e) h)) (λx e=>decide_eq_true (of_decide_eq_true e▸h)) ns (p:=λx=>decide (x<v)) (q:=λx=>decide (x=v))
 lia
theorem Zbv{α:Type}(f:α->Int):∀ L:List α,0<=(L.map λa=>f a*f a).sum/\((∃ a∈L,f a≠0)->0<(L.map λa=>f a*f a).sum)
 | []=>⟨by simp,λ⟨_,h,_⟩=>nomatch h⟩
 | a::L=>by
  refine zA (Zbv f L) λh1 h2=>?_
  have e:f a*f a=((f a).natAbs*(f a).natAbs:Nat):=(Int.natAbs_mul_self).symm
  have h3:0<=f a*f a:=by exact e▸Ul _
  rw [YD,XF]
  refine⟨by lia,λ⟨b,hb,hne⟩=>?_⟩
  rcases Z7.mp hb with rfl | hb
  ·have:0<(f b).natAbs*(f b).natAbs:=Wa (Int.natAbs_pos.mpr hne) (Int.natAbs_pos.mpr hne)
   omega
  ·have:=h2 ⟨b,hb,hne⟩; omega
theorem Zio{α:Type}(f:α->Int){B:Nat}(L:List α)(h:∀ a∈L,(f a).natAbs<=B):((L.map λa=>f a*f a).sum).natAbs<=L.length*(B*B):=by
 have:=G8 (B:=B*B) (L.map λa=>f a*f a) λx hx=>by
  refine XW (ZZ.mp hx) λa ha zr=>?_; obtain rfl:=zr
  rw [Yu]; exact Xs (h a ha) (h a ha)
 rwa [YW] at this
theorem NR(ns:List Int):(Wl ns).length=ns.length:=by unfold Wl Ge; simp
theorem K6(ns:List Int):(WA ns).length=ns.length:=by unfold WA; simp
theorem Nc(a0:Int):∀ as:List Int,Vl (ZM as.length a0) as=a0*as.sum
 | []=>by simp [Vl]
 | x::as=>by rw [Vj,List.replicate_succ,Vl,Nc a0 as,XF,Int.mul_add]
theorem Nb(a0:Int):∀ as:List Int,Vl as (ZM as.length a0)=a0*as.sum
 | []=>by simp [Vl]
 | x::as=>by rw [Vj,List.replicate_succ,Vl,Nb a0 as,XF,Int.mul_add,Int.mul_comm x]
theorem HH:∀ as:List Int,Vl as as=(as.map BR).sum
 | []=>rfl
 | x::as=>by rw [Vl,HH as,YD,XF]; rfl
theorem Zek:∀ ws:List Int,Vl ws (ws.map Gy) = -2*(ws.map BR).sum
 | []=>rfl
 | x::ws=>by rw [YD,Vl,Zek ws,YD,XF]; unfold BR Gy; grind
theorem NV:Gw VG=U9/\Gw VC=seX:=by decide +kernel
theorem Zce{mth:Yz}{xs ys:List Int}{d0 d1 d2 d4 d5:Du}(h0:Vt (.flt (O3 xs ys)) d0)(h1:Vt (Gg (JS (Wl xs) (Wl ys))) d1)(h2:Vt (Gg (JS (WA xs) (WA ys))) d2)(h4:Vt (VB xs ys) d4)(h5:Vt (VR xs ys) d5) :
  ∀ i d,[d0,d1,d2,.msg (V2 (Uo mth)),d4,d5][i]? = some d->Vt (JA mth xs ys i) d:=λi d h=>by
 match i,h with
 | 0,h=>cases h; exact h0
 | 1,h=>cases h; exact h1
 | 2,h=>cases h; exact h2
 | 3,h=>cases h; rfl
 | 4,h=>cases h; exact h4
 | 5,h=>cases h; exact h5
 | n+6,h=>cases h
theorem Zlh{mth:Yz}{xs ys:List Int}{d0 d1 d2 d4 d5:Du}(h0:Vt (.flt (O3 xs ys)) d0)(h1:Vt (Gg (JS (Wl xs) (Wl ys))) d1)(h2:Vt (Gg (JS (WA xs) (WA ys))) d2)(h4:Vt (VB xs ys) d4) :
  ∀ i d,([d0,d1,d2,.msg (V2 (Uo mth)),d4,d5].take 5)[i]? = some d->Vt (JA mth xs ys i) d:=λi d h=>by
 match i,h with
 | 0,h=>cases h; exact h0
 | 1,h=>cases h; exact h1
 | 2,h=>cases h; exact h2
 | 3,h=>cases h; rfl
 | 4,h=>cases h; exact h4
 | n+5,h=>cases h
theorem DU{n:Nat}(h:2<=n)(h2:n<=2^12):Ev (Yy ((n:Int)-1)) (((n-1)*2^1074:Nat):Int):=by
 have e:(n:Int)-1=((n-1:Nat):Int):=by lia
 exact e▸Dw (Zl (Nat.sub_le _ _) h2)
theorem Zkx{xs ys:List Int}(h:Ev (JQ ((Wl xs).zip (Wl ys))) 0)(h2:2<=xs.length)(h3:xs.length<=2^12):Vt (.flt (O3 xs ys)) (.flt 0):=by
 exact(Zav (C:=0) h (DU h2 h3) (Ys (Wa (by exact Nat.sub_pos_of_lt (by assumption)) (Y4 _))) (by simp) Rp.zero).eq ev0
theorem VM{xs ys:List UInt64}(h:JS xs ys=none):Vt (Gg (JS xs ys)) (.msg U9):=by
 exact h▸NV.1
theorem FE{xs ys:List Int}(h:Ev (JQ ((Wl xs).zip (Wl xs))) 0):Vt (VB xs ys) (.msg seX):=by
 have:Yp (G9 xs)=true:=by
  delta G9; rw [h.isZero]; rfl
 delta VB
 exact(if_pos this)▸NV.2
theorem So{x y:UInt64}{z p q:Int}{b:Nat}(hx:Ev x (z*((2^1074:Nat):Int)))(hy:Ev y ((b*2^1074:Nat):Int))(hb:b≠0)(hq:q≠0)(hz:z.natAbs<=2^40)(e:z*q=p*b):WS (X4 x y) (K9 p q)=some .eq:=by
 refine Zht hx hy (Nat.mul_ne_zero hb (Ys (Y4 _))) hq ?_ ?_
 ·rw [Yu,Y9]
  refine Zl (Yn _ (Zl (Yn _ hz) (fit (p:=1114) (Xw (by rw [<- Xb])) (by decide)))) ?_
  rw [WW MX,Wj]
  exact Nat.le_mul_of_pos_left _ (WH hb)
 ·rw [YB,<- Int.mul_assoc,<- e]
  generalize ((2^1074:Nat):Int)=u
  grind
theorem Zbr{z:Int}(h:z.natAbs<=2^40):Ev (WC (Yy z) 0) (z*((2^1074:Nat):Int)) :=
 (B5 h).addE ev0 (U8 _) (B5 h).rp
theorem Zdg{z:Int}(h0:0<=z)(h:z.natAbs<=2^40):Ev (Yy z) ((z.natAbs*2^1074:Nat):Int):=by
 have:=B5 h
 rw [YB,Int.natAbs_of_nonneg h0]; exact this
theorem Sb{xs ys:List Int}{z b p q:Int}(e1:Vl xs ys=z)(e2:Vl xs xs=b)(hb:0<b)(hz:z.natAbs<=2^40)(hb2:b.natAbs<=2^40)(hq:q≠0)(e:z*q=p*b):Vt (VR xs ys) (.tup (K9 p q) 0):=by
 delta VR
 rw [e2,if_neg (Int.ne_of_gt hb)]
 refine⟨?_,ev0.eq ev0⟩
 delta T8
 rw [e1,e2]
 exact So (Zbr hz) (Zdg (Int.le_of_lt hb) hb2) (by grind) hq hz (by exact ZR (Int.natAbs_of_nonneg (Int.le_of_lt hb))▸e)
theorem Zbj(as:List Int):(WU as).sum=0:=by
 delta WU
 rw [List.sum_append]
 have:(as.map OV).sum = -as.sum:=by
  induction as with
  | nil=>rfl
  | cons x as ih=>rw [YD,XF,ih,XF]; unfold OV; lia
 lia
theorem Zfr(as:List Int):((WU as).map BR).sum=2*(as.map BR).sum:=by
 delta WU
 rw [WZ,List.sum_append]
 have:((as.map OV).map BR).sum=(as.map BR).sum:=by
  induction as with
  | nil=>rfl
  | cons x as ih=>
   rw [YD,YD,XF,ih,YD,XF]
   have:BR (OV x)=BR x:=by unfold BR OV; grind
   rw [this]
 lia
theorem Zkb(ws:List Int):(ws.map Gy).sum = -2*ws.sum:=by
 induction ws with
 | nil=>rfl
 | cons x ws ih=>rw [YD,XF,ih,XF]; unfold Gy; lia
section
variable {as:List Int}{a0:Int}
theorem Zhp(h2:2<=as.length)(h3:as.length<=65)(hb0:a0.natAbs<=512)(hb:∀ x∈as,x.natAbs<=512){u v:Int}(hu:u∈as)(hv:v∈as)(huv:v<u)(hS:0<(as.map BR).sum) :
  GY (ZM as.length a0) as/\GY (ZM as.length a0) (ZM as.length a0)/\GY as (ZM as.length a0) /\
  (∀ mth i d,(NO (V2 (Uo mth)) a0 as)[i]? = some d->Vt (JA mth (ZM as.length a0) as i) d) /\
  (∀ mth i d,((NO (V2 (Uo mth)) a0 as).take 5)[i]? = some d->Vt (JA mth (ZM as.length a0) (ZM as.length a0) i) d) /\
  ∀ mth i d,(Zkr (V2 (Uo mth)) a0 as)[i]? = some d->Vt (JA mth as (ZM as.length a0) i) d:=by
 obtain ⟨fs,hfs⟩:∃ fs,fs=ZM as.length a0:=⟨_,rfl⟩
 have lf:fs.length=as.length:=by rw [hfs,UJ]
 have n12:as.length<=2^12:=Zl h3 (by decide)
 have mf:Ev (UT fs) (a0*((2^1074:Nat):Int)):=N9 (by lia) (by lia) (by lia) (by rw [hfs,DS,UJ])
 have df:∀ x∈Wl fs,Ev x 0:=λx hx=>by
  refine XW (ZZ.mp hx) λw hw zr=>?_; obtain rfl:=zr
  rw [hfs] at hw
  rw [Wg hw]
  have:=DE mf (v:=a0) (by lia) (by lia)
  rwa [Int.sub_self,JF] at this
 have rf:∀ x∈WA fs,Ev x 0:=hfs▸Zcm
 have hb9:∀ s∈as,s.natAbs<=2^9:=hb
 refine Zii (Zku (by exact ZO (by assumption)) (by lia) hb9 hu hv huv) λda ta c hc c0=>?_
 refine zAA (Zjq (ns:=as) (by lia)) λra tr hr=>?_
 have dl:∀ ns:List Int,ns.length=as.length->(Wl ns).length<=2^12/\(WA ns).length<=2^12/\0<(Wl ns).length/\0<(WA ns).length:=λns h=>by
  rw [NR,K6,h]; exact⟨n12,n12,by lia,by lia⟩
 refine Fo (dl fs lf) λl1 l2 l3 l4=>?_
 have zl:∀ {xs:List UInt64},xs.length<=2^12->(xs.zip xs).length<=2^12:=λh=>by
  rw [List.length_zip]; exact Zl (Nat.min_le_left _ _) h
 refine zA (B6 (L:=(Wl fs).zip (Wl fs)) (λp hp=>.inl ⟨df _ (WY hp).1,0,df _ (WY hp).2⟩) (zl l1)) λtf ef=>?_
 refine zA (B6 (L:=(WA fs).zip (WA fs)) (λp hp=>.inl ⟨rf _ (WY hp).1,0,rf _ (WY hp).2⟩) (zl l2)) λtg eg=>?_
 refine Fo (BI (xs:=Wl fs) (ys:=Wl as) (by rw [NR,NR,lf]) l3 l1 df da ta ⟨c,hc⟩) λzq0 k4 k5 k6=>?_; obtain ⟨k1,k2,k3⟩:=zq0
 refine Fo (BI (xs:=WA fs) (ys:=WA as) (by rw [K6,K6,lf]) l4 l2 rf ra tr hr) λzq0 r4 r5 uu=>?_; obtain ⟨r1,r2,_⟩:=zq0
 refine zA (BI (xs:=Wl fs) (ys:=Wl fs) rfl l3 l1 df (λy hy=>⟨0,df y hy⟩) tf ⟨0,ef⟩) λzq0 uu=>?_; obtain ⟨s1,s2,s3⟩:=zq0
 refine zA (BI (xs:=WA fs) (ys:=WA fs) rfl l4 l2 rf (λy hy=>⟨0,rf y hy⟩) tg ⟨0,eg⟩) λzq0 uu=>?_; obtain ⟨t1,t2,_⟩:=zq0
 have hsq:=G8 (B:=512*512) (as.map BR) λx hx=>by
  refine XW (ZZ.mp hx) λy hy zr=>?_; obtain rfl:=zr
  show(y*y).natAbs<=_
  rw [Yu]; exact Xs (hb y hy) (hb y hy)
 rw [YW] at hsq
 have hz:(a0*as.sum).natAbs<=2^40:=by
  rw [Yu]
  exact Zl (Xs hb0 (Zl (G8 (B:=512) as hb) (Yn _ h3))) (by decide)
 have hq:((as.map BR).sum).natAbs<=2^40:=Zl hsq (Zl (Yn _ h3) (by decide))
 have dff:Vl fs fs=as.length*(a0*a0):=by
  rw [HH,hfs,List.map_replicate,DS]; rfl
 have dfa:Vl fs as=a0*as.sum:=by rw [hfs]; exact Nc a0 as
 have daf:Vl as fs=a0*as.sum:=by rw [hfs]; exact Nb a0 as
 rw [<- hfs]
 refine⟨⟨k1,r1⟩,⟨s1,t1⟩,⟨k4,r4⟩,λmth=>?_,λmth=>?_,λmth=>?_⟩
 ·refine Zce (Zkx k3 (by lia) (by lia)) (VM k2) (VM r2) (FE ef) ?_
  by_cases h0:a0=0
  ·rw [if_pos h0]
   delta VR
   rw [dff,h0,if_pos (by simp)]
   exact NV.2
  ·rw [if_neg h0]
   have hpos:0<a0*a0:=by
    have:0<a0.natAbs*a0.natAbs:=Wa (Int.natAbs_pos.mpr h0) (Int.natAbs_pos.mpr h0)
    have e:=Int.natAbs_mul_self (a:=a0)
    lia
   refine Sb dfa dff (Int.mul_pos (by lia) hpos) hz ?_ (Int.mul_ne_zero h0 (by lia)) (by grind)
   rw [Yu,Yu,Y9]
   exact Zl (Xs h3 (Xs hb0 hb0)) (by decide)
 ·exact Zlh (Zkx s3 (by lia) (by lia)) (VM s2) (VM t2) (FE ef)
 ·refine Zce (Zkx k6 h2 n12) (VM k5) (VM r5) ?_ (Sb daf (HH as) hS hz hq (Int.ne_of_gt hS) rfl)
  have hc0:c≠0:=Ys (Z9 (Y4 _) c0)
  have hzz:Yp (G9 as)=false:=by
   delta G9; rw [hc.isZero]; exact decide_eq_false (by lia)
  have hQ:Ev (SR as fs) 0:=Zav (C:=0) (k6.addE ev0 (U8 _) Rp.zero) hc hc0 (by simp) Rp.zero
  refine XW (FL (by lia) (by lia) hb9) λM hM uu=>?_
  delta VB
  rw [if_neg (by rw [hzz]; exact Zn)]
  refine⟨hQ.eq ev0,Zib ?_⟩
  delta Hi
  rw [if_neg Zn]
  exact mf.subE (hQ.mulE hM (C:=0) (by simp) Rp.zero) (by simp) mf.rp
end
section
variable {as:List Int}
theorem Zhq(h2:2<=as.length)(h3:as.length<=65)(hb:∀ x∈as,x.natAbs<=512){u v:Int}(hu:u∈as)(hv:v∈as)(huv:v<u)(hS:0<(as.map BR).sum) :
  GY (WU as) ((WU as).map Gy)/\∀ mth i d,(Zkq (V2 (Uo mth)) as)[i]? = some d->Vt (JA mth (WU as) ((WU as).map Gy) i) d:=by
 have lw:(WU as).length=as.length+as.length:=by simp [WU]
 have hs0:=Zbj as
 have hsq:=Zfr as
 have hin:∀ x∈as,x∈WU as:=λx h=>X8 _ h
 have hbw:∀ x∈WU as,x.natAbs<=512:=λx hx=>by
  rcases Xn.mp hx with h | h
  ·exact hb x h
  ·refine XW (ZZ.mp h) λy hy zr=>?_; obtain rfl:=zr
   show(-y).natAbs<=_
   rw [Jy]; exact hb y hy
 generalize hws:WU as=ws at *
 refine zE (WM (show 0<=(ws.map BR).sum by lia)) λS eS=>?_
 have hS0:0<S:=by lia
 have hSb:S<=130*(512*512):=by
  have h:=Zio (λx:Int=>x) (B:=512) ws hbw
  have e:(ws.map λx=>x*x).sum=(S:Int):=eS
  rw [e,Y9] at h
  exact Zl h (Yn _ (by lia))
 have lm:(ws.map Gy).length=ws.length:=YW ..
 have m1:Ev (UT ws) (0*((2^1074:Nat):Int)):=N9 (by lia) (by lia) (by decide) (by rw [hs0,Int.mul_zero])
 have m2:Ev (UT (ws.map Gy)) (0*((2^1074:Nat):Int)):=N9 (by lia) (by lia) (by decide) (by rw [Zkb,hs0,Int.mul_zero,Int.mul_zero])
 have eb:Wl (ws.map Gy)=ws.map λx=>Wx (Yy (Gy x)) (UT (ws.map Gy)):=by
  delta Wl Ge; rw [UZ]; rfl
 refine Fo (O4 (f:=λx=>Wx (Yy x) (UT ws)) (g:=λx=>Wx (Yy (Gy x)) (UT (ws.map Gy))) (d:=λx=>x) (L:=ws) (k0:=1074) (k:=1074) (c:=2) (S:=S)
  (λx hx=>by
   have h1:=hbw x hx
   have:=DE m1 (v:=x) (by lia) (by decide)
   rwa [Int.sub_zero] at this)
  (λx hx=>by
   have h1:=hbw x hx
   have h2:(Gy x).natAbs<=2^12:=Zkc h1 (by decide)
   have:=DE m2 (v:=Gy x) h2 (by decide)
   rw [Int.sub_zero] at this
   have e:Gy x = -(((2:Nat):Int)*x):=by unfold Gy; lia
   rw [<- e]; exact this) rfl (by decide) (by decide) (λx hx=>by have:=hbw x hx; show x.natAbs<=_; exact Nat.le_add_right_of_le (by assumption)) (by decide) (by decide) (by lia) (by lia) eS hS0
  (Zl (Xs (Xc 2 hSb) (Xc 2 hSb)) (by decide))) λc1 zq1 c4 c5=>?_; obtain ⟨r,c2,c3⟩:=zq1
 rw [<- eb] at c1 c2 c4
 have ea:(ws.map λx=>Wx (Yy x) (UT ws))=Wl ws:=rfl
 rw [ea] at c1 c2 c4 c5
 have rb:WA (ws.map Gy)=ws.map λx=>hf (Kx (ws.map Gy) (Gy x)):=by
  delta WA; rw [UZ]; rfl
 have n10:ws.length<=2^10:=by lia
 have hne:∃ x∈ws,Kx ws x≠0:=by
  have hlt:=Zcx (ns:=ws) huv (hin v hv)
  by_cases h:Kx ws v=0
  ·refine⟨u,hin u hu,?_⟩
   unfold Kx at h ⊢; lia
  ·exact⟨v,hin v hv,h⟩
 refine zA (Zbv (Kx ws) ws) λq0 q1=>?_
 have q1:=q1 hne
 refine zE (WM q0) λT eT=>?_
 have hTb:T<=130*(130*130):=by
  have h:=Zio (Kx ws) (B:=130) ws λx uu=>Zl (Sa ws x) (by lia)
  rw [eT,Y9] at h
  exact Zl h (Yn _ (by lia))
 refine Fo (O4 (f:=λx=>hf (Kx ws x)) (g:=λx=>hf (Kx (ws.map Gy) (Gy x))) (d:=Kx ws) (L:=ws) (k0:=1073) (k:=1072) (c:=1) (S:=T)
  (λx uu=>Tw n10 x)
  (λx uu=>by
   have:=Tw (ns:=ws.map Gy) (by rw [lm]; exact n10) (Gy x)
   rw [Zjp] at this ⊢
   have e:-(((1:Nat):Int)*Kx ws x) = -Kx ws x:=by rw [Int.natCast_one,Int.one_mul]
   rw [e]; exact this) rfl (by decide) (by decide) (λx uu=>Zl (Sa ws x) n10) (by decide) (by decide) (by lia) (by lia) eT (by lia)
  (by rw [J7]; exact Zl (Xs hTb hTb) (by decide))) λe1 zq1 uu uu=>?_; obtain ⟨r',e2,e3⟩:=zq1
 rw [<- rb,<- TA] at e1 e2
 refine⟨⟨c1,e1⟩,λmth=>?_⟩
 have hsw:(ws.map BR).sum=2*(as.map BR).sum:=hsq
 have c6:Ev (JQ ((Wl ws).zip (Wl (ws.map Gy)))) (-((2*S:Nat):Int)*((2^1074:Nat):Int)):=by
  rw [Int.neg_mul,<- YB]; exact c4
 have hS40:S<=2^39:=Zl hSb (by decide)
 have z40:(-((2*S:Nat):Int)).natAbs<=2^40:=by rw [Jy,Y9]; exact Xc _ (by assumption)
 have hSz:S*2^1074≠0:=Ys (Wa hS0 (Y4 _))
 have m2rp:Rp (-2*((2^1074:Nat):Int)).natAbs:=Ij (by decide) (by decide)
 have quo:∀ {x y:UInt64},Ev x (-((2*S:Nat):Int)*((2^1074:Nat):Int))->Ev y ((S*2^1074:Nat):Int)->Ev (X4 x y) (-2*((2^1074:Nat):Int)):=λhx hy=>
  Zav hx hy hSz (by
   rw [YB,YB,Jv]
   generalize (2:Int)^1074=w
   show -(2*(S:Int))*w*w=(S:Int)*w*(-2*w)
   grind) m2rp
 refine Zce ?_ ?_ ?_ ?_ ?_
 ·show WS _ _=_
  delta O3
  have hn2:2<=ws.length:=by lia
  have e9:((WU as).length:Int)-1=(ws.length:Int)-1:=by rw [hws]
  rw [e9]
  refine So c6 (DU hn2 (by lia)) (by grind) (by lia) z40 ?_
  have e8:((ws.length-1:Nat):Int)=(ws.length:Int)-1:=by grind
  rw [e8]
  have e7:-((2*S:Nat):Int) = -4*(as.map BR).sum:=by lia
  rw [e7]
 ·rw [c2]
  exact c3.eq Zix
 ·rw [e2]
  exact e3.eq Zix
 ·have hzz:Yp (G9 ws)=false:=by
   delta G9; rw [c5.isZero]; exact decide_eq_false (by lia)
  have hQ:Ev (SR ws (ws.map Gy)) (-2*((2^1074:Nat):Int)):=quo (c6.addE ev0 (U8 _) c6.rp) c5
  delta VB
  rw [if_neg (by rw [hzz]; exact Zn)]
  refine⟨hQ.eq Ziw,?_⟩
  delta Hi
  rw [if_neg Zn]
  rw [JF] at m1 m2
  exact(m2.subE (hQ.mulE m1 (C:=0) (by simp) Rp.zero) (C:=0) (by simp) Rp.zero).eq ev0
 ·delta VR
  have e5:Vl ws ws=(S:Int):=by rw [HH]; exact eS
  have e6:Vl ws (ws.map Gy) = -((2*S:Nat):Int):=by rw [Zek,eS]; exact rfl
  rw [e5,if_neg (by lia)]
  refine⟨?_,ev0.eq ev0⟩
  delta T8
  rw [e5,e6]
  have hy:=Zdg (z:=(S:Int)) (Ul _) (by rw [Y9]; grind)
  rw [Y9] at hy
  exact(quo (Zbr z40) hy).eq Ziw
end
theorem aOf_fl(ns:List Int)(h:ns.length<=63):∀ a0,(NY ns)[0]? = some a0->S8 (NY ns) a0:=λa0 ha=>by
 have l:=S6 ns
 have h1:(3:Int)∈NY ns:=by unfold NY; simp
 have h2:(-5:Int)∈NY ns:=by unfold NY; simp
 have hb:=Zfd ns
 refine Zbi (Zhp (as:=NY ns) (a0:=a0) (by lia) (by lia) (hb _ (ZG ha)) hb h1 h2 (by decide) (DJ ns)) λf1 f2 f3 s1 s2 s3=>?_
 refine zA (Zhq (as:=NY ns) (by lia) (by lia) hb h1 h2 (by decide) (DJ ns)) λf4 s4=>?_
 exact⟨f1,f2,f3,f4,s1,s2,s3,s4⟩
end
end Mine
set_option Elab.async false
set_option maxRecDepth 100000
open PySem PySem.W PyProof.Rows
open PySem.W.X PySem.W.ZRun
theorem Mine.said3:PySem.Challenge.rw_kq0026_03.wellSaid=true:=by kernel_rfl
theorem Mine.ref_inj{a b:Addr}(h:some (Value.ref a)=some (Value.ref b)):a=b:=Value.ref.inj (Option.some.inj h)
theorem Mine.lawFl(ns:List Int)(h:ns.length<=63):∀ a0,(Mine.NY ns)[0]? = some a0->Mine.S8 (Mine.NY ns) a0:=Mine.aOf_fl ns h
set_option maxRecDepth 100000 in
set_option maxHeartbeats 8000000 in
theorem PySem.Challenge.cw_kq0026_03_holds : PySem.Challenge.rw_kq0026_03.Holds := by
 w_on
 refine holds_law Mine.said3 λsaid=>?_
 refine holds_openX (q:=Mine.vw) (loose:=Mine.lsH) (Xt:=λs=>xlAt Mine.vw [] s&&recOk PySem.Challenge.rw_kq0026_03.row.records s) (XP:=XL Mine.vw []) (Yf:=obsZ Mine.aH) (Ya:=valZ Mine.kHT 431 996) (N:=6000) ?hl ?h1 ?h2 (by rfl) (by rfl) (by rfl) ?h6 ?h7 ?h8 ?h9 ?h10 ?hw ?hc
 case hl=>exact Mine.left
 case h1=>exact(λs e=>xl_of s (Bool.and_eq_true_iff.mp e).1)
 case h2=>exact XL.keeps
 case h6=>exact(λs e=>recFacts_of (Bool.and_eq_true_iff.mp e).2)
 case h7=>rfl
 case h8=>first | assumption | decide +kernel
 case h9=>decide +kernel
 case h10=>exact⟨rfl,rfl,rfl,rfl,rfl,by decide +kernel⟩
 case hw=>w_witness2
 intro w s₀ s₁ mg mb G y fa o pm cd doc dV kV ho hd hcd hD hmg hg args vals as L hpre hlay hrd hwl hlo
 obtain ⟨_,ZI,ZN,ZT⟩:=z_facts (K:=Mine.kHT) (λ_=>rfl) y
 have KXT:Frag.In (Mine.kHT w.params) s₁.heap:=InK.keeps w s₀.heap s₁.heap ZI L.keeps
 have KX:Frag.In (Mine.kH w.params) s₁.heap:=Mine.Zml KXT
 have h330:s₁.heap.get? 330=some (tabObj #[]):=KXT _ _ (Mine.tab330 _)
 have h415:s₁.heap.get? 415=some (tabObj #[]):=KXT _ _ (Mine.tab415 _)
 have h420:s₁.heap.get? 420=some (tabObj #[]):=KXT _ _ (Mine.tab420 _)
 refine Ground.open G ?_
 intro T B D TE TW
 wrow_args hpre hlay hrd hwl hlo
 obtain ⟨hat,hsz⟩:=script_at L
 have htk:=script_toks L ZT
 rw [ZN] at hat hsz
 subst hat
 obtain ⟨vs0,hvs0,hfr0⟩:=Mine.Zgc L (by rw [ZT]; decide)
 have hfa:fa=430:=by
  have e:=mg_of KX T.g (n:=Str.ofString "law") (v:=.ref 430) (by kernel_rfl)
  have e2:=hmg.symm.trans e
  exact Mine.ref_inj e2
 subst hfa
 show wpAny _ _ (PySem.call (.ref 430) [.ref 431]) _ _ _
 refine Mine.Zmm (Mine.kfH w.params) (Mine.kgH w.params) (Mine.k4H w.params) rfl (Mine.fcH w.params) (Mine.frH w.params) (Mine.ftH w.params) (Mine.lawH w.params) (Mine.no330 _) (Mine.no415 _) (Mine.no420 _) KX T.g T.b T.builtins T.nolimit (Mine.nob_of KX T.nodigits ?nb) T.bmain h330 h415 h420 (by decide) (by decide) (by decide) (by decide) (by decide) (by decide) hvs0 hfr0 ?hle (Mine.lawFl _ ?hle) ?hgen ?htok ?kont
 case nb=>kernel_rfl
 case hle=>lia
 case htok=>exact Nat.lt_of_lt_of_le (by decide) htk
 case hgen=>rw [hg]; exact AllBare.empty
 case kont=>
  intro s' hk hos hbare
  exact⟨.inl ⟨_,_,[],rfl,λ_=>rfl,ReadsW.bool true,by first | rfl | wrow_post,λ_=>⟨List.nodup_nil,Mine.YC⟩⟩,hk,hos,hbare⟩
