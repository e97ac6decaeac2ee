import PyProof.Rows.All
import Wide.All
import OpenK.AllK
import Wide.FinOn
import PyProof.SliceStr
import PyProof.EqAt
import Lean
import PySem.Challenge.RW_mr0375_01
set_option maxRecDepth 100000
set_option maxHeartbeats 0
set_option Elab.async false
set_option linter.all false
set_option genInjectivity false
set_option genSizeOf false
set_option bootstrap.genMatcherCode false
set_option genCtorIdx false
set_option rowWalk.seconds 0
open Int renaming ofNat->O,negSucc->cJ,toNat_natCast->r5,natCast_nonneg->GD
open PySem renaming Pos->aw,Value->ay,Obj->az,Params->aF,Ctx->bd,wpAny_bind->bf,Shared->bI,Code->bL,wpAny_pure->dh,rawInt->ft,wpAny_field->fI,World->f8,Result->ig,DictEntry->ir,entryFor_of_tree->kK,wpAny_seqItems->lj,wpAny_listPart->m7
open Prod renaming fst->aD,snd->iu
open PySem.Value renaming ref->aQ,int->bE,str->cu,none->mg
open List renaming append_nil->bk,length_map->bA,append_assoc->bK,map_cons->bY,flatten_nil->ce,Perm->cg,length_append->ci,flatten_cons->ck,getElem?_eq_getElem->cm,map->cr,map_append->cx,length_cons->cy,perm_append_comm->cY,nil_append->cZ,length->dn,mem_map->dS,cons_append->eB,map_map->eF,mem_append->fq,drop_eq_getElem_cons->fJ,mem_cons->gr,getElem_mem->gt,getElem?_map->iv,pairwise_cons->iw,drop_zero->iS,range'->jH,mem_singleton->jI,mem_map_of_mem->j8,mem_append_left->me,getElem?_eq_some_iff->mf,drop_eq_nil_of_le->mh,filter_cons->mi,length_take->mj,map_take->ml,drop->m9,length_drop->na,length_pos_iff->nb,map_nil->n7,take_append_drop->oa,perm_middle->o4,all_eq_true->o5,length_singleton->o7,mem_append_right->qt,foldl_cons->qv,foldl_append->r8,pairwise_append->r9,mem_of_mem_take->sa,mem_of_mem_drop->sb,length_eq_zero_iff->sd,sum_cons->uY,range'_succ->uZ,map_congr_left->u6,singleton_append->u7,drop_length->u8,mem_of_getElem?->u9,getElem?_append_left->ve,nodup_append->xM,exists_cons_of_ne_nil->xR,pairwise_singleton->xS,length_nil->xT,take_length->xU,filter_append->xV,map_drop->xW,getElem?_append_right->xX,map_eq_nil_iff->xY,flatten_append->BN,getElem?_drop->BQ,forIn_cons->BR,getElem?_eq_none->BS,append_of_mem->BU,range->BV,getElem_map->BW,getLast?_eq_some_getLast->BX,getLast?_append->BZ,nodup_cons->Gl,drop_append_of_le_length->Go,flatMap_cons->Gp,dropLast_concat_getLast->Gr,mem_range'_1->Gs,take_take->Gu,map_id->GB,take_of_length_le->M4,extract_eq_take_drop->M6,length_filter_le->M8,getElem?_take_of_lt->M9,drop_drop->Nc,take_append_of_le_length->Nn,append_eq_nil_iff->No,takeWhile_cons->Np,getElem?_eq_none_iff->aeE,getLast?_cons_cons->aeI,mem_of_getLast?->aeJ,range'_1_concat->aeK,filter_eq_self->aeL,getElem_append_left->aeN,flatMap_append->aeO,getLast?_singleton->aeP,dropWhile_cons->aeR
open Nat renaming le_refl->b7,zero_le->fv,le_trans->iR,zero_add->kI,add_assoc->kJ,le_of_lt->n6,le_add_right_of_le->o3,le_of_ble_eq_true->xO,le_of_eq->BM,not_lt_zero->BO,add_comm->Gv,lt_of_le_of_lt->Gw,add_zero->Gx,succ_pred_eq_of_pos->Gy,sub_self->GC,lt_irrefl->M2,succ_mul->M5,min_eq_left->Nd,le_succ->Nq,le_add_left->Nr,lt_succ_self->Ns,add_sub_cancel_left->aeQ
open Option renaming some->dv,none->kL,bind_some->BP,isNone_none->Gm,map_some->M3,map->Na,isSome_iff_exists->aeD
open PySem.W.Fast renaming tw12563942051412417395->lk,tw8468629109055619292->m8,te9404975358583537561->o6,te12563942051412417395->xQ,tw11478286150595567475->BY,te8711993805878244202->Gq,tw10380811246957099773->Gz,te6609576154772507232->GA,tw9201129301070521445->Ng,tw6042679816869820781->Nh,tw8289420714989923916->Ni,te16755525298939948312->Nj,te8468629109055619292->Nk,te6042679816869820781->Nl,te8289420714989923916->Nm,te15112759502256325868->aeF,tw17772580674575903948->aeG,te17772580674575903948->aeH,te11478286150595567475->aeM
open Bool renaming false_ne_true->qu,eq_iff_iff->r6,and_eq_true_iff->xN,or_eq_true->xP,eq_false_iff->GE,false_eq_true->Nf
namespace Mine
section
open PySem PySem.W PySem.W.X PyProof.Rows
section
variable {T0 T1 T2 T3 T4 T5 T6 T7 T8 T9 T10 T11 T12 T13:Type}{ai:Prop}
theorem Nt {P0 P1 P2 P3 P4 P5:T0->T1->T2->T3->Prop}(h:∃a0 a1 a2 a3,P0 a0 a1 a2 a3/\P1 a0 a1 a2 a3/\P2 a0 a1 a2 a3/\P3 a0 a1 a2 a3/\P4 a0 a1 a2 a3/\P5 a0 a1 a2 a3)(k:∀a0 a1 a2 a3,P0 a0 a1 a2 a3->P1 a0 a1 a2 a3->P2 a0 a1 a2 a3->P3 a0 a1 a2 a3->P4 a0 a1 a2 a3->P5 a0 a1 a2 a3->ai):ai:=h.elim λa0 h=>h.elim λa1 h=>h.elim λa2 h=>h.elim λa3 h=>k a0 a1 a2 a3 h.1 h.2.1 h.2.2.1 h.2.2.2.1 h.2.2.2.2.1 h.2.2.2.2.2
theorem cB {P0 P1:Prop}(h:P0/\P1)(k:P0->P1->ai):ai:=k h.1 h.2
theorem ii {P0 P1 P2:Prop}(h:P0/\P1/\P2)(k:P0->P1->P2->ai):ai:=k h.1 h.2.1 h.2.2
theorem mo {P0 P1 P2 P3:Prop}(h:P0/\P1/\P2/\P3)(k:P0->P1->P2->P3->ai):ai:=k h.1 h.2.1 h.2.2.1 h.2.2.2
theorem B0 {P0 P1 P2 P3 P4:Prop}(h:P0/\P1/\P2/\P3/\P4)(k:P0->P1->P2->P3->P4->ai):ai:=k h.1 h.2.1 h.2.2.1 h.2.2.2.1 h.2.2.2.2
theorem se {P0 P1 P2 P3 P4 P5:Prop}(h:P0/\P1/\P2/\P3/\P4/\P5)(k:P0->P1->P2->P3->P4->P5->ai):ai:=k h.1 h.2.1 h.2.2.1 h.2.2.2.1 h.2.2.2.2.1 h.2.2.2.2.2
theorem dT {P0:T0->Prop}(h:∃a0,P0 a0)(k:∀a0,P0 a0->ai):ai:=h.elim λa0 h=>k a0 h
theorem bX {P0 P1:T0->Prop}(h:∃a0,P0 a0/\P1 a0)(k:∀a0,P0 a0->P1 a0->ai):ai:=h.elim λa0 h=>k a0 h.1 h.2
theorem qw {P0 P1 P2:T0->Prop}(h:∃a0,P0 a0/\P1 a0/\P2 a0)(k:∀a0,P0 a0->P1 a0->P2 a0->ai):ai:=h.elim λa0 h=>k a0 h.1 h.2.1 h.2.2
theorem GF {P0 P1 P2 P3 P4 P5:T0->Prop}(h:∃a0,P0 a0/\P1 a0/\P2 a0/\P3 a0/\P4 a0/\P5 a0)(k:∀a0,P0 a0->P1 a0->P2 a0->P3 a0->P4 a0->P5 a0->ai):ai:=h.elim λa0 h=>k a0 h.1 h.2.1 h.2.2.1 h.2.2.2.1 h.2.2.2.2.1 h.2.2.2.2.2
theorem fK {P0:T0->T1->Prop}(h:∃a0 a1,P0 a0 a1)(k:∀a0 a1,P0 a0 a1->ai):ai:=h.elim λa0 h=>h.elim λa1 h=>k a0 a1 h
theorem gu {P0 P1:T0->T1->Prop}(h:∃a0 a1,P0 a0 a1/\P1 a0 a1)(k:∀a0 a1,P0 a0 a1->P1 a0 a1->ai):ai:=h.elim λa0 h=>h.elim λa1 h=>k a0 a1 h.1 h.2
theorem o8 {P0 P1 P2:T0->T1->Prop}(h:∃a0 a1,P0 a0 a1/\P1 a0 a1/\P2 a0 a1)(k:∀a0 a1,P0 a0 a1->P1 a0 a1->P2 a0 a1->ai):ai:=h.elim λa0 h=>h.elim λa1 h=>k a0 a1 h.1 h.2.1 h.2.2
theorem Nu {P0 P1 P2 P3:T0->T1->Prop}(h:∃a0 a1,P0 a0 a1/\P1 a0 a1/\P2 a0 a1/\P3 a0 a1)(k:∀a0 a1,P0 a0 a1->P1 a0 a1->P2 a0 a1->P3 a0 a1->ai):ai:=h.elim λa0 h=>h.elim λa1 h=>k a0 a1 h.1 h.2.1 h.2.2.1 h.2.2.2
theorem Nv {P0 P1 P2 P3 P4 P5:T0->T1->Prop}(h:∃a0 a1,P0 a0 a1/\P1 a0 a1/\P2 a0 a1/\P3 a0 a1/\P4 a0 a1/\P5 a0 a1)(k:∀a0 a1,P0 a0 a1->P1 a0 a1->P2 a0 a1->P3 a0 a1->P4 a0 a1->P5 a0 a1->ai):ai:=h.elim λa0 h=>h.elim λa1 h=>k a0 a1 h.1 h.2.1 h.2.2.1 h.2.2.2.1 h.2.2.2.2.1 h.2.2.2.2.2
theorem kM {P0:T0->T1->T2->Prop}(h:∃a0 a1 a2,P0 a0 a1 a2)(k:∀a0 a1 a2,P0 a0 a1 a2->ai):ai:=h.elim λa0 h=>h.elim λa1 h=>h.elim λa2 h=>k a0 a1 a2 h
theorem vg {P0 P1:T0->T1->T2->Prop}(h:∃a0 a1 a2,P0 a0 a1 a2/\P1 a0 a1 a2)(k:∀a0 a1 a2,P0 a0 a1 a2->P1 a0 a1 a2->ai):ai:=h.elim λa0 h=>h.elim λa1 h=>h.elim λa2 h=>k a0 a1 a2 h.1 h.2
theorem Nw {P0 P1 P2:T0->T1->T2->Prop}(h:∃a0 a1 a2,P0 a0 a1 a2/\P1 a0 a1 a2/\P2 a0 a1 a2)(k:∀a0 a1 a2,P0 a0 a1 a2->P1 a0 a1 a2->P2 a0 a1 a2->ai):ai:=h.elim λa0 h=>h.elim λa1 h=>h.elim λa2 h=>k a0 a1 a2 h.1 h.2.1 h.2.2
theorem xZ {P0 P1 P2 P3:T0->T1->T2->Prop}(h:∃a0 a1 a2,P0 a0 a1 a2/\P1 a0 a1 a2/\P2 a0 a1 a2/\P3 a0 a1 a2)(k:∀a0 a1 a2,P0 a0 a1 a2->P1 a0 a1 a2->P2 a0 a1 a2->P3 a0 a1 a2->ai):ai:=h.elim λa0 h=>h.elim λa1 h=>h.elim λa2 h=>k a0 a1 a2 h.1 h.2.1 h.2.2.1 h.2.2.2
theorem o9 {P0:T0->T1->T2->T3->Prop}(h:∃a0 a1 a2 a3,P0 a0 a1 a2 a3)(k:∀a0 a1 a2 a3,P0 a0 a1 a2 a3->ai):ai:=h.elim λa0 h=>h.elim λa1 h=>h.elim λa2 h=>h.elim λa3 h=>k a0 a1 a2 a3 h
theorem x3 {P0 P1:T0->T1->T2->T3->Prop}(h:∃a0 a1 a2 a3,P0 a0 a1 a2 a3/\P1 a0 a1 a2 a3)(k:∀a0 a1 a2 a3,P0 a0 a1 a2 a3->P1 a0 a1 a2 a3->ai):ai:=h.elim λa0 h=>h.elim λa1 h=>h.elim λa2 h=>h.elim λa3 h=>k a0 a1 a2 a3 h.1 h.2
theorem vh {P0 P1 P2:T0->T1->T2->T3->Prop}(h:∃a0 a1 a2 a3,P0 a0 a1 a2 a3/\P1 a0 a1 a2 a3/\P2 a0 a1 a2 a3)(k:∀a0 a1 a2 a3,P0 a0 a1 a2 a3->P1 a0 a1 a2 a3->P2 a0 a1 a2 a3->ai):ai:=h.elim λa0 h=>h.elim λa1 h=>h.elim λa2 h=>h.elim λa3 h=>k a0 a1 a2 a3 h.1 h.2.1 h.2.2
theorem GG {P0:T0->T1->T2->T3->T4->Prop}(h:∃a0 a1 a2 a3 a4,P0 a0 a1 a2 a3 a4)(k:∀a0 a1 a2 a3 a4,P0 a0 a1 a2 a3 a4->ai):ai:=h.elim λa0 h=>h.elim λa1 h=>h.elim λa2 h=>h.elim λa3 h=>h.elim λa4 h=>k a0 a1 a2 a3 a4 h
theorem iT {P0 P1:T0->T1->T2->T3->T4->Prop}(h:∃a0 a1 a2 a3 a4,P0 a0 a1 a2 a3 a4/\P1 a0 a1 a2 a3 a4)(k:∀a0 a1 a2 a3 a4,P0 a0 a1 a2 a3 a4->P1 a0 a1 a2 a3 a4->ai):ai:=h.elim λa0 h=>h.elim λa1 h=>h.elim λa2 h=>h.elim λa3 h=>h.elim λa4 h=>k a0 a1 a2 a3 a4 h.1 h.2
theorem oc {P0 P1 P2:T0->T1->T2->T3->T4->Prop}(h:∃a0 a1 a2 a3 a4,P0 a0 a1 a2 a3 a4/\P1 a0 a1 a2 a3 a4/\P2 a0 a1 a2 a3 a4)(k:∀a0 a1 a2 a3 a4,P0 a0 a1 a2 a3 a4->P1 a0 a1 a2 a3 a4->P2 a0 a1 a2 a3 a4->ai):ai:=h.elim λa0 h=>h.elim λa1 h=>h.elim λa2 h=>h.elim λa3 h=>h.elim λa4 h=>k a0 a1 a2 a3 a4 h.1 h.2.1 h.2.2
theorem ix {P0 P1 P2 P3:T0->T1->T2->T3->T4->Prop}(h:∃a0 a1 a2 a3 a4,P0 a0 a1 a2 a3 a4/\P1 a0 a1 a2 a3 a4/\P2 a0 a1 a2 a3 a4/\P3 a0 a1 a2 a3 a4)(k:∀a0 a1 a2 a3 a4,P0 a0 a1 a2 a3 a4->P1 a0 a1 a2 a3 a4->P2 a0 a1 a2 a3 a4->P3 a0 a1 a2 a3 a4->ai):ai:=h.elim λa0 h=>h.elim λa1 h=>h.elim λa2 h=>h.elim λa3 h=>h.elim λa4 h=>k a0 a1 a2 a3 a4 h.1 h.2.1 h.2.2.1 h.2.2.2
theorem vj {P0 P1 P2 P3 P4:T0->T1->T2->T3->T4->Prop}(h:∃a0 a1 a2 a3 a4,P0 a0 a1 a2 a3 a4/\P1 a0 a1 a2 a3 a4/\P2 a0 a1 a2 a3 a4/\P3 a0 a1 a2 a3 a4/\P4 a0 a1 a2 a3 a4)(k:∀a0 a1 a2 a3 a4,P0 a0 a1 a2 a3 a4->P1 a0 a1 a2 a3 a4->P2 a0 a1 a2 a3 a4->P3 a0 a1 a2 a3 a4->P4 a0 a1 a2 a3 a4->ai):ai:=h.elim λa0 h=>h.elim λa1 h=>h.elim λa2 h=>h.elim λa3 h=>h.elim λa4 h=>k a0 a1 a2 a3 a4 h.1 h.2.1 h.2.2.1 h.2.2.2.1 h.2.2.2.2
theorem x4 {P0:T0->T1->T2->T3->T4->T5->Prop}(h:∃a0 a1 a2 a3 a4 a5,P0 a0 a1 a2 a3 a4 a5)(k:∀a0 a1 a2 a3 a4 a5,P0 a0 a1 a2 a3 a4 a5->ai):ai:=h.elim λa0 h=>h.elim λa1 h=>h.elim λa2 h=>h.elim λa3 h=>h.elim λa4 h=>h.elim λa5 h=>k a0 a1 a2 a3 a4 a5 h
theorem GH {P0 P1:T0->T1->T2->T3->T4->T5->Prop}(h:∃a0 a1 a2 a3 a4 a5,P0 a0 a1 a2 a3 a4 a5/\P1 a0 a1 a2 a3 a4 a5)(k:∀a0 a1 a2 a3 a4 a5,P0 a0 a1 a2 a3 a4 a5->P1 a0 a1 a2 a3 a4 a5->ai):ai:=h.elim λa0 h=>h.elim λa1 h=>h.elim λa2 h=>h.elim λa3 h=>h.elim λa4 h=>h.elim λa5 h=>k a0 a1 a2 a3 a4 a5 h.1 h.2
theorem nc {P0 P1 P2:T0->T1->T2->T3->T4->T5->Prop}(h:∃a0 a1 a2 a3 a4 a5,P0 a0 a1 a2 a3 a4 a5/\P1 a0 a1 a2 a3 a4 a5/\P2 a0 a1 a2 a3 a4 a5)(k:∀a0 a1 a2 a3 a4 a5,P0 a0 a1 a2 a3 a4 a5->P1 a0 a1 a2 a3 a4 a5->P2 a0 a1 a2 a3 a4 a5->ai):ai:=h.elim λa0 h=>h.elim λa1 h=>h.elim λa2 h=>h.elim λa3 h=>h.elim λa4 h=>h.elim λa5 h=>k a0 a1 a2 a3 a4 a5 h.1 h.2.1 h.2.2
theorem Nx {P0:T0->T1->T2->T3->T4->T5->T6->T7->Prop}(h:∃a0 a1 a2 a3 a4 a5 a6 a7,P0 a0 a1 a2 a3 a4 a5 a6 a7)(k:∀a0 a1 a2 a3 a4 a5 a6 a7,P0 a0 a1 a2 a3 a4 a5 a6 a7->ai):ai:=h.elim λa0 h=>h.elim λa1 h=>h.elim λa2 h=>h.elim λa3 h=>h.elim λa4 h=>h.elim λa5 h=>h.elim λa6 h=>h.elim λa7 h=>k a0 a1 a2 a3 a4 a5 a6 a7 h
theorem GI {P0 P1 P2:T0->T1->T2->T3->T4->T5->T6->T7->Prop}(h:∃a0 a1 a2 a3 a4 a5 a6 a7,P0 a0 a1 a2 a3 a4 a5 a6 a7/\P1 a0 a1 a2 a3 a4 a5 a6 a7/\P2 a0 a1 a2 a3 a4 a5 a6 a7)(k:∀a0 a1 a2 a3 a4 a5 a6 a7,P0 a0 a1 a2 a3 a4 a5 a6 a7->P1 a0 a1 a2 a3 a4 a5 a6 a7->P2 a0 a1 a2 a3 a4 a5 a6 a7->ai):ai:=h.elim λa0 h=>h.elim λa1 h=>h.elim λa2 h=>h.elim λa3 h=>h.elim λa4 h=>h.elim λa5 h=>h.elim λa6 h=>h.elim λa7 h=>k a0 a1 a2 a3 a4 a5 a6 a7 h.1 h.2.1 h.2.2
theorem GJ {P0:T0->T1->T2->T3->T4->T5->T6->T7->T8->Prop}(h:∃a0 a1 a2 a3 a4 a5 a6 a7 a8,P0 a0 a1 a2 a3 a4 a5 a6 a7 a8)(k:∀a0 a1 a2 a3 a4 a5 a6 a7 a8,P0 a0 a1 a2 a3 a4 a5 a6 a7 a8->ai):ai:=h.elim λa0 h=>h.elim λa1 h=>h.elim λa2 h=>h.elim λa3 h=>h.elim λa4 h=>h.elim λa5 h=>h.elim λa6 h=>h.elim λa7 h=>h.elim λa8 h=>k a0 a1 a2 a3 a4 a5 a6 a7 a8 h
theorem da {P0 P1:T0->Prop}(a0:T0)(h0:P0 a0)(h1:P1 a0):∃a0,P0 a0/\P1 a0:=⟨a0,h0,h1⟩
theorem oe {P0 P1 P2:T0->Prop}(a0:T0)(h0:P0 a0)(h1:P1 a0)(h2:P2 a0):∃a0,P0 a0/\P1 a0/\P2 a0:=⟨a0,h0,h1,h2⟩
theorem Ny {P0 P1 P2 P3:T0->Prop}(a0:T0)(h0:P0 a0)(h1:P1 a0)(h2:P2 a0)(h3:P3 a0):∃a0,P0 a0/\P1 a0/\P2 a0/\P3 a0:=⟨a0,h0,h1,h2,h3⟩
theorem dU {P0:T0->T1->Prop}(a0:T0)(a1:T1)(h0:P0 a0 a1):∃a0 a1,P0 a0 a1:=⟨a0,a1,h0⟩
theorem fL {P0 P1:T0->T1->Prop}(a0:T0)(a1:T1)(h0:P0 a0 a1)(h1:P1 a0 a1):∃a0 a1,P0 a0 a1/\P1 a0 a1:=⟨a0,a1,h0,h1⟩
theorem qx {P0 P1 P2:T0->T1->Prop}(a0:T0)(a1:T1)(h0:P0 a0 a1)(h1:P1 a0 a1)(h2:P2 a0 a1):∃a0 a1,P0 a0 a1/\P1 a0 a1/\P2 a0 a1:=⟨a0,a1,h0,h1,h2⟩
theorem GK {P0 P1 P2 P3:T0->T1->Prop}(a0:T0)(a1:T1)(h0:P0 a0 a1)(h1:P1 a0 a1)(h2:P2 a0 a1)(h3:P3 a0 a1):∃a0 a1,P0 a0 a1/\P1 a0 a1/\P2 a0 a1/\P3 a0 a1:=⟨a0,a1,h0,h1,h2,h3⟩
theorem jh {P0:T0->T1->T2->Prop}(a0:T0)(a1:T1)(a2:T2)(h0:P0 a0 a1 a2):∃a0 a1 a2,P0 a0 a1 a2:=⟨a0,a1,a2,h0⟩
theorem j9 {P0 P1:T0->T1->T2->Prop}(a0:T0)(a1:T1)(a2:T2)(h0:P0 a0 a1 a2)(h1:P1 a0 a1 a2):∃a0 a1 a2,P0 a0 a1 a2/\P1 a0 a1 a2:=⟨a0,a1,a2,h0,h1⟩
theorem GL {P0 P1 P2:T0->T1->T2->Prop}(a0:T0)(a1:T1)(a2:T2)(h0:P0 a0 a1 a2)(h1:P1 a0 a1 a2)(h2:P2 a0 a1 a2):∃a0 a1 a2,P0 a0 a1 a2/\P1 a0 a1 a2/\P2 a0 a1 a2:=⟨a0,a1,a2,h0,h1,h2⟩
theorem og {P0 P1 P2 P3:T0->T1->T2->Prop}(a0:T0)(a1:T1)(a2:T2)(h0:P0 a0 a1 a2)(h1:P1 a0 a1 a2)(h2:P2 a0 a1 a2)(h3:P3 a0 a1 a2):∃a0 a1 a2,P0 a0 a1 a2/\P1 a0 a1 a2/\P2 a0 a1 a2/\P3 a0 a1 a2:=⟨a0,a1,a2,h0,h1,h2,h3⟩
theorem jJ {P0:T0->T1->T2->T3->Prop}(a0:T0)(a1:T1)(a2:T2)(a3:T3)(h0:P0 a0 a1 a2 a3):∃a0 a1 a2 a3,P0 a0 a1 a2 a3:=⟨a0,a1,a2,a3,h0⟩
theorem sf {P0 P1:T0->T1->T2->T3->Prop}(a0:T0)(a1:T1)(a2:T2)(a3:T3)(h0:P0 a0 a1 a2 a3)(h1:P1 a0 a1 a2 a3):∃a0 a1 a2 a3,P0 a0 a1 a2 a3/\P1 a0 a1 a2 a3:=⟨a0,a1,a2,a3,h0,h1⟩
theorem pa {P0 P1 P2:T0->T1->T2->T3->Prop}(a0:T0)(a1:T1)(a2:T2)(a3:T3)(h0:P0 a0 a1 a2 a3)(h1:P1 a0 a1 a2 a3)(h2:P2 a0 a1 a2 a3):∃a0 a1 a2 a3,P0 a0 a1 a2 a3/\P1 a0 a1 a2 a3/\P2 a0 a1 a2 a3:=⟨a0,a1,a2,a3,h0,h1,h2⟩
theorem ll {P0 P1:T0->T1->T2->T3->T4->Prop}(a0:T0)(a1:T1)(a2:T2)(a3:T3)(a4:T4)(h0:P0 a0 a1 a2 a3 a4)(h1:P1 a0 a1 a2 a3 a4):∃a0 a1 a2 a3 a4,P0 a0 a1 a2 a3 a4/\P1 a0 a1 a2 a3 a4:=⟨a0,a1,a2,a3,a4,h0,h1⟩
theorem mq {P0 P1 P2:T0->T1->T2->T3->T4->Prop}(a0:T0)(a1:T1)(a2:T2)(a3:T3)(a4:T4)(h0:P0 a0 a1 a2 a3 a4)(h1:P1 a0 a1 a2 a3 a4)(h2:P2 a0 a1 a2 a3 a4):∃a0 a1 a2 a3 a4,P0 a0 a1 a2 a3 a4/\P1 a0 a1 a2 a3 a4/\P2 a0 a1 a2 a3 a4:=⟨a0,a1,a2,a3,a4,h0,h1,h2⟩
theorem ke {P0 P1 P2 P3:T0->T1->T2->T3->T4->Prop}(a0:T0)(a1:T1)(a2:T2)(a3:T3)(a4:T4)(h0:P0 a0 a1 a2 a3 a4)(h1:P1 a0 a1 a2 a3 a4)(h2:P2 a0 a1 a2 a3 a4)(h3:P3 a0 a1 a2 a3 a4):∃a0 a1 a2 a3 a4,P0 a0 a1 a2 a3 a4/\P1 a0 a1 a2 a3 a4/\P2 a0 a1 a2 a3 a4/\P3 a0 a1 a2 a3 a4:=⟨a0,a1,a2,a3,a4,h0,h1,h2,h3⟩
theorem vk {P0 P1 P2 P3 P4:T0->T1->T2->T3->T4->Prop}(a0:T0)(a1:T1)(a2:T2)(a3:T3)(a4:T4)(h0:P0 a0 a1 a2 a3 a4)(h1:P1 a0 a1 a2 a3 a4)(h2:P2 a0 a1 a2 a3 a4)(h3:P3 a0 a1 a2 a3 a4)(h4:P4 a0 a1 a2 a3 a4):∃a0 a1 a2 a3 a4,P0 a0 a1 a2 a3 a4/\P1 a0 a1 a2 a3 a4/\P2 a0 a1 a2 a3 a4/\P3 a0 a1 a2 a3 a4/\P4 a0 a1 a2 a3 a4:=⟨a0,a1,a2,a3,a4,h0,h1,h2,h3,h4⟩
theorem x6 {P0:T0->T1->T2->T3->T4->T5->Prop}(a0:T0)(a1:T1)(a2:T2)(a3:T3)(a4:T4)(a5:T5)(h0:P0 a0 a1 a2 a3 a4 a5):∃a0 a1 a2 a3 a4 a5,P0 a0 a1 a2 a3 a4 a5:=⟨a0,a1,a2,a3,a4,a5,h0⟩
theorem B1 {P0 P1:T0->T1->T2->T3->T4->T5->Prop}(a0:T0)(a1:T1)(a2:T2)(a3:T3)(a4:T4)(a5:T5)(h0:P0 a0 a1 a2 a3 a4 a5)(h1:P1 a0 a1 a2 a3 a4 a5):∃a0 a1 a2 a3 a4 a5,P0 a0 a1 a2 a3 a4 a5/\P1 a0 a1 a2 a3 a4 a5:=⟨a0,a1,a2,a3,a4,a5,h0,h1⟩
theorem dV {P0 P1 P2:T0->T1->T2->T3->T4->T5->Prop}(a0:T0)(a1:T1)(a2:T2)(a3:T3)(a4:T4)(a5:T5)(h0:P0 a0 a1 a2 a3 a4 a5)(h1:P1 a0 a1 a2 a3 a4 a5)(h2:P2 a0 a1 a2 a3 a4 a5):∃a0 a1 a2 a3 a4 a5,P0 a0 a1 a2 a3 a4 a5/\P1 a0 a1 a2 a3 a4 a5/\P2 a0 a1 a2 a3 a4 a5:=⟨a0,a1,a2,a3,a4,a5,h0,h1,h2⟩
theorem GM {P0 P1 P2:T0->T1->T2->T3->T4->T5->T6->T7->Prop}(a0:T0)(a1:T1)(a2:T2)(a3:T3)(a4:T4)(a5:T5)(a6:T6)(a7:T7)(h0:P0 a0 a1 a2 a3 a4 a5 a6 a7)(h1:P1 a0 a1 a2 a3 a4 a5 a6 a7)(h2:P2 a0 a1 a2 a3 a4 a5 a6 a7):∃a0 a1 a2 a3 a4 a5 a6 a7,P0 a0 a1 a2 a3 a4 a5 a6 a7/\P1 a0 a1 a2 a3 a4 a5 a6 a7/\P2 a0 a1 a2 a3 a4 a5 a6 a7:=⟨a0,a1,a2,a3,a4,a5,a6,a7,h0,h1,h2⟩
theorem GN {P0:T0->T1->T2->T3->T4->T5->T6->T7->T8->Prop}(a0:T0)(a1:T1)(a2:T2)(a3:T3)(a4:T4)(a5:T5)(a6:T6)(a7:T7)(a8:T8)(h0:P0 a0 a1 a2 a3 a4 a5 a6 a7 a8):∃a0 a1 a2 a3 a4 a5 a6 a7 a8,P0 a0 a1 a2 a3 a4 a5 a6 a7 a8:=⟨a0,a1,a2,a3,a4,a5,a6,a7,a8,h0⟩
theorem Nz {P0 P1 P2 P3 P4:T0->Prop}(a0:T0)(h0:P0 a0)(h1:P1 a0)(h2:P2 a0)(h3:P3 a0)(h4:P4 a0):∃a0,P0 a0/\P1 a0/\P2 a0/\P3 a0/\P4 a0:=⟨a0,h0,h1,h2,h3,h4⟩
theorem NA {P0 P1 P2 P3 P4 P5:T0->Prop}(a0:T0)(h0:P0 a0)(h1:P1 a0)(h2:P2 a0)(h3:P3 a0)(h4:P4 a0)(h5:P5 a0):∃a0,P0 a0/\P1 a0/\P2 a0/\P3 a0/\P4 a0/\P5 a0:=⟨a0,h0,h1,h2,h3,h4,h5⟩
theorem B3 {P0 P1 P2 P3 P4 P5:T0->T1->Prop}(a0:T0)(a1:T1)(h0:P0 a0 a1)(h1:P1 a0 a1)(h2:P2 a0 a1)(h3:P3 a0 a1)(h4:P4 a0 a1)(h5:P5 a0 a1):∃a0 a1,P0 a0 a1/\P1 a0 a1/\P2 a0 a1/\P3 a0 a1/\P4 a0 a1/\P5 a0 a1:=⟨a0,a1,h0,h1,h2,h3,h4,h5⟩
theorem NB {P0 P1 P2 P3 P4 P5:T0->T1->T2->Prop}(a0:T0)(a1:T1)(a2:T2)(h0:P0 a0 a1 a2)(h1:P1 a0 a1 a2)(h2:P2 a0 a1 a2)(h3:P3 a0 a1 a2)(h4:P4 a0 a1 a2)(h5:P5 a0 a1 a2):∃a0 a1 a2,P0 a0 a1 a2/\P1 a0 a1 a2/\P2 a0 a1 a2/\P3 a0 a1 a2/\P4 a0 a1 a2/\P5 a0 a1 a2:=⟨a0,a1,a2,h0,h1,h2,h3,h4,h5⟩
theorem qy {P0:T0->T1->T2->T3->T4->Prop}(a0:T0)(a1:T1)(a2:T2)(a3:T3)(a4:T4)(h0:P0 a0 a1 a2 a3 a4):∃a0 a1 a2 a3 a4,P0 a0 a1 a2 a3 a4:=⟨a0,a1,a2,a3,a4,h0⟩
theorem GO {P0:T0->T1->T2->T3->T4->T5->T6->T7->Prop}(a0:T0)(a1:T1)(a2:T2)(a3:T3)(a4:T4)(a5:T5)(a6:T6)(a7:T7)(h0:P0 a0 a1 a2 a3 a4 a5 a6 a7):∃a0 a1 a2 a3 a4 a5 a6 a7,P0 a0 a1 a2 a3 a4 a5 a6 a7:=⟨a0,a1,a2,a3,a4,a5,a6,a7,h0⟩
end
noncomputable def iy {α:Type}:List α->Nat->Option α
 |[],_=>none
 |x::l,i=>match i with
  |0=>some x
  |j+1=>iy l j
noncomputable def x7 {α:Type}:List α->Nat->α->List α
 |[],_,_=>[]
 |x::l,i,y=>match i with
  |0=>y::l
  |j+1=>x::x7 l j y
noncomputable def sh {α:Type}:List α->Nat->List α
 |[],_=>[]
 |x::l,i=>match i with
  |0=>l
  |j+1=>x::sh l j
theorem vl {α:Type}:∀{l:List α} {i:Nat} {x:α},iy l i=some x->l.Perm (x::sh l i)
 |[],_,_,h=>by cases h
 |y::l,0,x,h=>by cases h;exact .refl _
 |y::l,i+1,x,h=>((vl (l:=l) h).cons y).trans (.swap ..)
theorem B4 {α:Type}:∀{l:List α} {i:Nat} {x y:α},iy l i=some x->(x7 l i y).Perm (y::sh l i)
 |[],_,_,_,h=>by cases h
 |am::l,0,x,y,h=> .refl _
 |am::l,i+1,x,y,h=>((B4 (l:=l) h).cons am).trans (.swap ..)
theorem B5 {α:Type}{l:List α}{i:Nat}{x:α}(h:iy l i=some x):x∈l:=(vl h).mem_iff.mpr (.head _)
noncomputable def ff {α:Type}:List α->List Nat->Option (List α×List α)
 |l,[]=>some ([],l)
 |l,i::is=>match iy l i with
  |some x=>match ff (sh l i) is with
   |some (a,b)=>some (x::a,b)
   |none=>none
  |none=>none
theorem mr {α:Type}:∀{is:List Nat} {l a b:List α},ff l is=some (a,b)->l.Perm (a++b):=by
 intro is
 induction is with
 |nil=>
  intro l a b h
  cases h;exact .refl _
 |cons i is aS=>
  intro l a b h
  unfold ff at h
  cases hx:iy l i with
  |none=>rw [hx]at h;cases h
  |some x=>
   rw [hx]at h
   dsimp only at h
   cases hr:ff (sh l i) is with
   |none=>rw [hr]at h;cases h
   |some r=>
    rw [hr]at h
    cases h
    exact(vl hx).trans ((aS (b:=r.2) (a:=r.1) hr).cons x)
noncomputable abbrev aJ:=List (Addr×az)
noncomputable abbrev lm:=List (Nat×GenState)
structure EV where
 prog:Program
 w:f8
 kt:KT
noncomputable def EV.M (V:EV):Model:=model V.prog V.w
structure aC where
 L:aJ
 T:List aJ
 N:Nat
 J:Nat
 ai:lm
 U:Nat
noncomputable def aC.all (C:aC):aJ:=C.L++C.T.flatten
structure Rep (V:EV)(C:aC)(s:bI):Prop where
 led:∀x∈C.all,s.heap.get? x.1=some x.2
 top:∀a o,V.kt.get a=some o->s.heap.get? a=some o
 gens:∀x∈C.ai,s.gens[x.1]? =some x.2
 nd:(C.all.map aD).Nodup
 ap:∀x∈C.all,V.kt.get x.1=none
 jK:(C.ai.map aD).Nodup
 size:s.heap.objs.size=C.N
 toks:s.toks=C.J
 iU:s.gens.size=C.U
structure Kept (L:List Addr)(ai:List Nat)(s s':bI):Prop where
 heap:∀b o,s.heap.get? b=some o->b∉L->s'.heap.get? b=some o
 size:s.heap.objs.size<=s'.heap.objs.size
 gens:∀g x,s.gens[g]? =some x->g∉ai->s'.gens[g]? =some x
 iU:s.gens.size<=s'.gens.size
 bare:AllBare s.gens->AllBare s'.gens
 drawn:s'.drawn=s.drawn
 os:s'.os=s.os
theorem Kept.refl (L:List Addr)(ai:List Nat)(s:bI):Kept L ai s s:=⟨λ_ _ e _=>e,b7 _,λ_ _ e _=>e,b7 _,id,rfl,rfl⟩
theorem Kept.trans {L L':List Addr}{ai G':List Nat}{s s' ee:bI}(a:Kept L ai s s')(b:Kept L' G' s' ee)(hL:∀x∈L',x∈L\/s.heap.objs.size<=x)(hG:∀x∈G',x∈ai\/s.gens.size<=x):Kept L ai s ee:=by
 refine⟨λb' o e n=>b.heap b' o (a.heap b' o e n) λm=> ?_,iR a.size b.size,λg x e n=>b.gens g x (a.gens g x e n) λm=> ?_,iR a.iU b.iU,λh=>b.bare (a.bare h),b.drawn.trans a.drawn,b.os.trans a.os⟩
 ·rcases hL b' m with h|h
  ·exact n h
  ·exact absurd (Heap.lt_size e) (Nat.not_lt.mpr h)
 ·rcases hG g m with h|h
  ·exact n h
  ·have:=(Array.getElem?_eq_some_iff.mp e).1
   lia
structure Good (V:EV)(C C':aC)(s s':bI):Prop where
 rep:Rep V C' s'
 kept:Kept (C.all.map aD) (C.ai.map aD) s s'
 la:∀a∈C'.all.map aD,a∈C.all.map aD\/s.heap.objs.size<=a
 ga:∀a∈C'.ai.map aD,a∈C.ai.map aD\/s.gens.size<=a
def aK (V:EV)(C C':aC)(Φ:bI->bI->Prop):Prop:=∀s,Rep V C s->∃s',Good V C C' s s'/\Φ s s'
section
variable {V:EV}{C bq C' D D':aC}{s bG s':bI}
theorem Good.refl (R:Rep V C s):Good V C C s s:=⟨R,.refl _ _ _,λ_ h=> .inl h,λ_ h=> .inl h⟩
theorem Good.trans (a:Good V C bq s bG)(b:Good V bq C' bG s'):Good V C C' s s':=by
 refine⟨b.rep,a.kept.trans b.kept a.la a.ga,λx h=> ?_,λx h=> ?_⟩
 ·rcases b.la x h with h|h
  ·exact a.la x h
  ·exact .inr (iR a.kept.size h)
 ·rcases b.ga x h with h|h
  ·exact a.ga x h
  ·exact .inr (iR a.kept.iU h)
theorem Rep.less (R:Rep V D s){A:aJ}{B:lm}(h:D.all.Perm (C.all++A))(hg:D.ai.Perm (C.ai++B))(e:D.N=C.N/\D.J=C.J/\D.U=C.U):Rep V C s:=by
 have nd:=(h.map aD).nodup_iff.mp R.nd
 have jK:=(hg.map aD).nodup_iff.mp R.jK
 rw [cx]at nd jK
 exact⟨λx hx=>R.led x (h.mem_iff.mpr (me _ hx)),R.top,λx hx=>R.gens x (hg.mem_iff.mpr (me _ hx)),(xM.mp nd).1,λx hx=>R.ap x (h.mem_iff.mpr (me _ hx)),
  (xM.mp jK).1,R.size.trans e.1,R.toks.trans e.2.1,R.iU.trans e.2.2⟩
theorem Good.less (g:Good V C D s s'){A:aJ}{B:lm}(h:D.all.Perm (C'.all++A))(hg:D.ai.Perm (C'.ai++B))(e:D.N=C'.N/\D.J=C'.J/\D.U=C'.U):Good V C C' s s':=
 ⟨g.rep.less h hg e,g.kept,λa ha=>g.la a ((h.map aD).mem_iff.mpr (by rw [cx];exact me _ ha)),λa ha=>g.ga a ((hg.map aD).mem_iff.mpr (by rw [cx];exact me _ ha))⟩
theorem aK.frame {Φ:bI->bI->Prop}(h:aK V C C' Φ){A:aJ}{B:lm}(h1:D.all.Perm (C.all++A))(h2:D.ai.Perm (C.ai++B))(h3:D.N=C.N/\D.J=C.J/\D.U=C.U) (h4:D'.all.Perm (C'.all++A))(h5:D'.ai.Perm (C'.ai++B))(h6:D'.N=C'.N/\D'.J=C'.J/\D'.U=C'.U):aK V D D' Φ:=λs R=>by
 refine bX (h s (R.less h1 h2 h3)) λs' g f=> ?_
 refine da s' ?_ f
 have nd:=(h1.map aD).nodup_iff.mp R.nd
 have jK:=(h2.map aD).nodup_iff.mp R.jK
 rw [cx]at nd jK
 refine ii (xM.mp nd) λ_ n2 n3=> ?_
 refine ii (xM.mp jK) λ_ m2 m3=> ?_
 have GP:∀x∈A,s.heap.get? x.1=some x.2:=λx hx=>R.led x (h1.mem_iff.mpr (qt _ hx))
 have GQ:∀x∈B,s.gens[x.1]? =some x.2:=λx hx=>R.gens x (h2.mem_iff.mpr (qt _ hx))
 have GR:∀x∈A,x.1∉C.all.map aD:=λx hx m=>n3 _ m _ (j8 hx) rfl
 have GS:∀x∈B,x.1∉C.ai.map aD:=λx hx m=>m3 _ m _ (j8 hx) rfl
 have NC:∀x∈A,x.1∉C'.all.map aD:=λx hx m=>by
  rcases g.la _ m with q|q
  ·exact GR x hx q
  ·exact absurd (Heap.lt_size (GP x hx)) (Nat.not_lt.mpr q)
 have ND:∀x∈B,x.1∉C'.ai.map aD:=λx hx m=>by
  rcases g.ga _ m with q|q
  ·exact GS x hx q
  ·exact absurd (Array.getElem?_eq_some_iff.mp (GQ x hx)).1 (Nat.not_lt.mpr q)
 have bv:∀a,a∈C.all.map aD->a∈D.all.map aD:=λa ha=>(h1.map aD).mem_iff.mpr (by rw [cx];exact me _ ha)
 have GT:∀a,a∈C.ai.map aD->a∈D.ai.map aD:=λa ha=>(h2.map aD).mem_iff.mpr (by rw [cx];exact me _ ha)
 refine⟨⟨λx hx=> ?_,g.rep.top,λx hx=> ?_,?_,λx hx=> ?_,?_,g.rep.size.trans h6.1.symm,g.rep.toks.trans h6.2.1.symm,g.rep.iU.trans h6.2.2.symm⟩,
  ⟨λb o e n=>g.kept.heap b o e λm=>n (bv b m),g.kept.size,λb x e n=>g.kept.gens b x e λm=>n (GT b m),g.kept.iU,g.kept.bare,g.kept.drawn,g.kept.os⟩,λa ha=> ?_,λa ha=> ?_⟩
 ·rcases fq.mp (h4.mem_iff.mp hx)with hx|hx
  ·exact g.rep.led x hx
  ·exact g.kept.heap _ _ (GP x hx) (GR x hx)
 ·rcases fq.mp (h5.mem_iff.mp hx)with hx|hx
  ·exact g.rep.gens x hx
  ·exact g.kept.gens _ _ (GQ x hx) (GS x hx)
 ·refine(h4.map aD).nodup_iff.mpr ?_
  rw [cx]
  refine xM.mpr ⟨g.rep.nd,n2,λa ha b hb e=> ?_⟩
  refine bX (dS.mp hb) λx hx fM=> ?_
  subst fM
  exact NC x hx (e▸ha)
 ·rcases fq.mp (h4.mem_iff.mp hx)with hx|hx
  ·exact g.rep.ap x hx
  ·exact R.ap x (h1.mem_iff.mpr (qt _ hx))
 ·refine(h5.map aD).nodup_iff.mpr ?_
  rw [cx]
  refine xM.mpr ⟨g.rep.jK,m2,λa ha b hb e=> ?_⟩
  refine bX (dS.mp hb) λx hx mu=> ?_
  subst mu
  exact ND x hx (e▸ha)
 ·have ha:=(h4.map aD).mem_iff.mp ha
  rw [cx]at ha
  rcases fq.mp ha with ha|ha
  ·exact(g.la a ha).imp (bv a) id
  ·exact .inl ((h1.map aD).mem_iff.mpr (by rw [cx];exact qt _ ha))
 ·have ha:=(h5.map aD).mem_iff.mp ha
  rw [cx]at ha
  rcases fq.mp ha with ha|ha
  ·exact(g.ga a ha).imp (GT a) id
  ·exact .inl ((h2.map aD).mem_iff.mpr (by rw [cx];exact qt _ ha))
theorem aK.less {Φ:bI->bI->Prop}(h:aK V C D Φ){A:aJ}{B:lm}(h1:D.all.Perm (C'.all++A))(h2:D.ai.Perm (C'.ai++B))(h3:D.N=C'.N/\D.J=C'.J/\D.U=C'.U):aK V C C' Φ:=λs R=>by
 refine bX (h s R) λs' g f=> ?_
 exact⟨s',g.less h1 h2 h3,f⟩
theorem Rep.upd (R:Rep V C s){x:Addr×az}{f:az->az}{A:aJ}(h:C.all.Perm (x::A))(h':C'.all.Perm ((x.1,f x.2)::A))(hf:(f x.2).isFreed=false)(hg:C'.ai=C.ai)(e:C'.N=C.N/\C'.J=C.J/\C'.U=C.U):Good V C C' s {s with heap:=s.heap.update x.1 f}:=by
 have hx:=R.led x (h.mem_iff.mpr (.head _))
 have hs:Heap.SameBut x.1 s.heap (s.heap.update x.1 f):=Heap.SameBut.update ..
 have ek:(C'.all.map aD).Perm (C.all.map aD):=(h'.map aD).trans (h.map aD).symm
 have nd:=(h.map aD).nodup_iff.mp R.nd
 rw [bY,Gl]at nd
 refine⟨⟨λam hz=> ?_,λa o q=> ?_,hg▸R.gens,ek.nodup_iff.mpr R.nd,λam hz=> ?_,hg▸R.jK,?_,R.toks.trans e.2.1.symm,R.iU.trans e.2.2.symm⟩,⟨λb o q n=> ?_,?_,λ_ _ q _=>q,b7 _,id,rfl,rfl⟩,λa ha=> .inl (ek.mem_iff.mp ha),λa ha=> .inl (hg▸ha)⟩
 ·rcases gr.mp (h'.mem_iff.mp hz)with rfl|hz
  ·exact Heap.get?_update_self f hx hf
  ·exact(hs.2 _ λq=>nd.1 (q▸j8 hz)).trans (R.led am (h.mem_iff.mpr (.tail _ hz)))
 ·exact(hs.2 _ λq'=>by subst q';rw [R.ap x (h.mem_iff.mpr (.head _))]at q;cases q).trans (R.top a o q)
 ·refine bX (dS.mp (ek.mem_iff.mp (j8 hz))) λy hy q=> ?_
  rw [<-q];exact R.ap y hy
 ·show(s.heap.update x.1 f).objs.size=_
  rw [hs.1,R.size,e.1]
 ·exact(hs.2 b λ(q':b=x.1)=>n (by rw [q'];exact j8 (h.mem_iff.mpr (.head _)))).trans q
 ·show s.heap.objs.size<=(s.heap.update x.1 f).objs.size
  rw [hs.1];exact b7 _
theorem Rep.new (R:Rep V C s){o:az}(hf:o.isFreed=false)(h:C'.all=(C.N,o)::C.all)(hg:C'.ai=C.ai)(e:C'.N=C.N+1/\C'.J=C.J/\C'.U=C.U):Good V C C' s {s with heap:=s.heap.push o}:=by
 have sz:(s.heap.push o).objs.size=s.heap.objs.size+1:=Heap.size_push ..
 refine⟨⟨?_,λa o' q=>Heap.get?_push_of_some _ (R.top a o' q),hg▸R.gens,?_,?_,hg▸R.jK,?_,R.toks.trans e.2.1.symm,R.iU.trans e.2.2.symm⟩,⟨λ_ _ q _=>Heap.get?_push_of_some _ q,?_,λ_ _ q _=>q,b7 _,id,rfl,rfl⟩,?_,λa ha=> .inl (hg▸ha)⟩
 ·rw [h]
  intro am hz
  rcases gr.mp hz with rfl|hz
  ·show(s.heap.push o).get? C.N=some o
   rw [<-R.size];exact Heap.get?_push_size _ hf
  ·exact Heap.get?_push_of_some _ (R.led am hz)
 ·rw [h,bY,Gl]
  refine⟨λm=> ?_,R.nd⟩
  refine bX (dS.mp m) λy hy q=> ?_
  exact M2 _ (R.size▸q▸Heap.lt_size (R.led y hy))
 ·rw [h]
  intro am hz
  rcases gr.mp hz with rfl|hz
  ·cases q:V.kt.get C.N with
   |none=>rfl
   |some o'=>exact absurd (Heap.lt_size (R.top _ _ q)) (by rw [R.size];exact M2 _)
  ·exact R.ap am hz
 ·show(s.heap.push o).objs.size=_
  rw [sz,R.size,e.1]
 ·show s.heap.objs.size<=(s.heap.push o).objs.size
  lia
 ·rw [h]
  intro a ha
  rcases gr.mp ha with rfl|ha
  ·exact .inr (BM R.size)
  ·exact .inl ha
theorem Rep.tick (R:Rep V C s)(ah:Nat)(h:C'.all=C.all)(hg:C'.ai=C.ai)(e:C'.N=C.N/\C'.J=C.J+ah/\C'.U=C.U):Good V C C' s {s with toks:=s.toks+ah}:=
 ⟨⟨h▸R.led,R.top,hg▸R.gens,h▸R.nd,h▸R.ap,hg▸R.jK,R.size.trans e.1.symm,by show s.toks+ah=_;rw [e.2.1,R.toks],R.iU.trans e.2.2.symm⟩,⟨λ_ _ e _=>e,b7 _,λ_ _ e _=>e,b7 _,id,rfl,rfl⟩,λa q=> .inl (h▸q),λa q=> .inl (hg▸q)⟩
theorem Rep.newGen (R:Rep V C s){c:bL}(h:C'.all=C.all)(hg:C'.ai=(C.U,.fresh c)::C.ai)(e:C'.N=C.N/\C'.J=C.J/\C'.U=C.U+1):Good V C C' s {s with gens:=s.gens.push (.fresh c)}:=by
 have old:∀g x,s.gens[g]? =some x->(s.gens.push (GenState.fresh c))[g]? =some x:=λg x q=>by
  have:=(Array.getElem?_eq_some_iff.mp q).1
  rw [Array.getElem?_push_lt this]
  exact(Array.getElem?_eq_some_iff.mp q).2▸rfl
 refine⟨⟨h▸R.led,R.top,?_,h▸R.nd,h▸R.ap,?_,R.size.trans e.1.symm,R.toks.trans e.2.1.symm,?_⟩,⟨λ_ _ q _=>q,b7 _,λg x q _=>old g x q,?_,λB=> ?_,rfl,rfl⟩,λa q=> .inl (h▸q),?_⟩
 ·rw [hg]
  intro am hz
  rcases gr.mp hz with rfl|hz
  ·show(s.gens.push (GenState.fresh c))[C.U]? =_
   rw [<-R.iU];simp
  ·exact old _ _ (R.gens am hz)
 ·rw [hg,bY,Gl]
  refine⟨λm=> ?_,R.jK⟩
  refine bX (dS.mp m) λy hy q=> ?_
  exact M2 _ (R.iU▸q▸(Array.getElem?_eq_some_iff.mp (R.gens y hy)).1)
 ·show(s.gens.push _).size=_
  rw [Array.size_push,R.iU,e.2.2]
 ·show s.gens.size<=(s.gens.push _).size
  rw [Array.size_push];lia
 ·intro x hx
  rcases Array.mem_push.mp hx with hx|rfl
  ·exact B x hx
  ·rfl
 ·rw [hg]
  intro a ha
  rcases gr.mp ha with rfl|ha
  ·exact .inr (BM R.iU)
  ·exact .inl ha
theorem Rep.setGen (R:Rep V C s){x:Nat×GenState}{y:GenState}{B:lm}(hp:C.ai.Perm (x::B))(GU:C'.ai.Perm ((x.1,y)::B))(hb:y.bare=true)(h:C'.all=C.all)(e:C'.N=C.N/\C'.J=C.J/\C'.U=C.U):Good V C C' s (s.setGen x.1 y):=by
 have hx:=R.gens x (hp.mem_iff.mpr (.head _))
 have bw:=(Array.getElem?_eq_some_iff.mp hx).1
 have ek:(C'.ai.map aD).Perm (C.ai.map aD):=(GU.map aD).trans (hp.map aD).symm
 have nd:=(hp.map aD).nodup_iff.mp R.jK
 rw [bY,Gl]at nd
 have GV:(s.setGen x.1 y).gens[x.1]? =some y:=by
  show(s.gens.setIfInBounds x.1 y)[x.1]? =_
  rw [Array.getElem?_setIfInBounds_self_of_lt bw]
 have B6:∀{i:Nat},i≠x.1->(s.setGen x.1 y).gens[i]? =s.gens[i]? :=λ{i} hi=>by
  show(s.gens.setIfInBounds x.1 y)[i]? =_
  rw [Array.getElem?_setIfInBounds_ne (Ne.symm hi)]
 have GW:(s.setGen x.1 y).gens.size=s.gens.size:=by show(s.gens.setIfInBounds x.1 y).size=_;simp
 refine⟨⟨h▸R.led,R.top,λam hz=> ?_,h▸R.nd,h▸R.ap,ek.nodup_iff.mpr R.jK,R.size.trans e.1.symm,R.toks.trans e.2.1.symm,GW.trans (R.iU.trans e.2.2.symm)⟩,⟨λ_ _ q _=>q,b7 _,λg am q n=> ?_,BM GW.symm,λA=> ?_,rfl,rfl⟩,λa q=> .inl (h▸q),λa ha=> .inl (ek.mem_iff.mp ha)⟩
 ·rcases gr.mp (GU.mem_iff.mp hz)with rfl|hz
  ·exact GV
  ·exact(B6 λq=>nd.1 (q▸j8 hz)).trans (R.gens am (hp.mem_iff.mpr (.tail _ hz)))
 ·exact(B6 λ(q':g=x.1)=>n (by rw [q'];exact j8 (hp.mem_iff.mpr (.head _)))).trans q
 ·intro am hz
  obtain⟨i,hi⟩:=Array.getElem?_of_mem hz
  by_cases q:i=x.1
  ·subst q;rw [GV]at hi;cases hi;exact hb
  ·rw [B6 q]at hi;exact A am (Array.mem_of_getElem? hi)
end
inductive Res (X:Type) where
 |ok (x:X)
 |err (v:ay)
 |susp (v:ay) (g:Bool) (l:List ay) (k:Resume->Sem X)
def Tail {X:Type}(M:Model)(Γ:bd)(p:aw)(s:bI)(r:Res X)(ae:X->Sem PySem.Fin)(ak:ay->Sem PySem.Fin)(gd:Bool->Bool)(lv:List ay->List ay)(e:End)(s':bI):Prop:=match r with
 | .ok x=>Runs M Γ p (ae x) [] s e s'
 | .err v=>Runs M Γ p (ak v) [] s e s'
 | .susp v g l k=>e= .susp v (gd g) (lv l) (λr=>(k r).wrap ae ak gd lv) Γ.code p []/\s'=s
def NE {X:Type}(M:Model)(Γ:bd)(p:aw)(t:Sem X)(s:bI)(r:Res X)(p':aw)(s':bI):Prop:=
 ∀ae ak gd lv e ee,Tail M Γ p' s' r ae ak gd lv e ee->Runs M Γ p (t.wrap ae ak gd lv) [] s e ee
def ax {X:Type}(V:EV)(Γ:bd)(p:aw)(t:Sem X)(C:aC)(r:Res X)(p':aw)(C':aC):Prop:=aK V C C' λs s'=>NE V.M Γ p t s r p' s'
def gI (V:EV)(Γ:bd)(p:aw)(t:Sem PySem.Fin)(C:aC)(e:End)(C':aC):Prop:=aK V C C' λs s'=>Runs V.M Γ p t [] s e s'
abbrev cW (V:EV)(Γ:bd)(p:aw)(t:Sem PySem.Fin)(C:aC)(r:ig)(C':aC):Prop:=gI V Γ p t C (.ret r) C'
noncomputable def B7 (Γ:bd):Bool:=Nat.blt ((((Γ.code,(⟨0,0,0,0⟩:aw))::Γ.below).map (·.1.cUnits)).sum) 5000&&Nat.blt (frameCount ((Γ.code,(⟨0,0,0,0⟩:aw))::Γ.below)) 600
noncomputable def qz (room:Nat)(Γ:bd):Bool:=match room with
 |0=>true
 |1=>match Γ.handled with
  |none=>true
  |some _=>false
 |_=>match Γ.handled with
  |none=>B7 Γ
  |some _=>false
def Bi (V:EV)(room:Nat)(c:bL)(L:aJ)(L':Nat->aJ)(f:Nat->Nat->ig)(dN dt:Nat):Prop:=
 ∀(Γ:bd) (p:aw) (N J U:Nat),Γ.code=c->qz room Γ=true->cW V Γ p (V.M.den c) ⟨L,[],N,J,[],U⟩ (f N J) ⟨L' N,[],N+dN,J+dt,[],U⟩
noncomputable def bV (k:Bool)(id:String)(args:Args):bL:=match k with
 |true=> .call (.builtin id) args
 |false=> .builtin id args
inductive vm (V:EV) where
 |bi (k:Bool) (room:Nat) (id:String) (args:Args) (aH:List Nat) (L:aJ) (L':Nat->aJ) (f:Nat->Nat->ig) (dN dt:Nat) (ok:Bi V room (bV k id args) L L' f dN dt)
 |fn (Γ:bd) (p:aw) (aH bt ng:List Nat) (C C':aC) (r:ig) (ok:cW V Γ p (V.M.den Γ.code) C r C')
inductive CV where
 |nat (n:Nat)
 |args (a:Args)
 |ctx (Γ:bd) (p:aw)
 |led (L:aJ)
 |cfg (C:aC)
structure St (V:EV) where
 L:aJ
 T:List aJ
 Nb:Nat
 ni:Nat
 tb:Nat
 ti:Nat
 ai:lm
 gb:Nat
 gi:Nat
 ak:Nat
 os:List (vm V)
 cN:List (CV×CV)
noncomputable def St.cfg {V:EV}(S:St V):aC:=⟨S.L,S.T,S.Nb+S.ni,S.tb+S.ti,S.ai,S.gb+S.gi⟩
def St.Ok {V:EV}(S:St V):Prop:=∀x∈S.cN,x.1=x.2
noncomputable def pb (a b:String):Bool:=match PySem.W.S.strDecS a b with| .isTrue _=>true| .isFalse _=>false
theorem B8 {a b:String}(h:pb a b=true):a=b:=by
 unfold pb at h
 split at h
 ·assumption
 ·cases h
noncomputable def B9 (c:bL):Option (Bool×String×Args):=match c with
 | .call f a=>match f with
  | .builtin i=>some (true,i,a)
  |_=>none
 | .builtin i a=>some (false,i,a)
 |_=>none
theorem nn {β:Type}{x:β}{ai:Prop}(h:none=some x):ai:=nomatch h
theorem NF {c:bL}{k:Bool}{i:String}{a:Args}(h:B9 c=some (k,i,a)):c=bV k i a:=by
 cases c with
 |call f b=>
  cases f with
  |builtin j=>
   have h:some (true,j,b)=some (k,i,a):=h
   cases h
   rfl
  |_=>exact nn h
 |builtin j b=>
  have h:some (false,j,b)=some (k,i,a):=h
  cases h
  rfl
 |_=>exact nn h
noncomputable def Ca (a b:Bool):Bool:=match a with
 |true=>b
 |false=> !b
theorem NG {a b:Bool}(h:Ca a b=true):a=b:=by cases a<;>cases b<;>first|rfl|cases h
noncomputable def ob {α β:Type}(o:Option α)(ae:α->Option β):Option β:=match o with
 |some x=>ae x
 |none=>none
theorem c5 {a b c:Nat}(h:a<=b:=by assumption)(k:b<=c:=by decide):a<=c:=iR h k
theorem kf {a b c:Nat}(h:a<=b:=by assumption):a<=b+c:=o3 h
theorem vn {P:Prop}(h:P:=by assumption):P:=h
theorem pd {P:Prop} [Decidable P](h:P:=by decide):P:=h
theorem ji {n:Nat}:0+n=n:=kI n
theorem lq {n:Nat}:¬n+1=0:=Nat.succ_ne_zero n
theorem mv {a b:Nat}(h:a<b:=by assumption):a<=b:=n6 h
theorem NH {a b:Nat}:a<=a+b:=Nat.le_add_right a b
theorem bH {A B C:Type}{a:A}{b:B}{c:C}:a=a/\b=b/\c=c:=⟨rfl,rfl,rfl⟩
theorem pe {A B:Type}{a:A}{b:B}:a=a/\b=b:=⟨rfl,rfl⟩
noncomputable def op {vo vq β:Type}(o:Option (vo×vq))(ae:vo->vq->Option β):Option β:=match o with
 |some (x,y)=>ae x y
 |none=>none
theorem jj {vo vq β:Type}{o:Option (vo×vq)}{ae:vo->vq->Option β}{r:β}{ai:Prop}(h:op o ae=some r)(k:∀x y,o=some (x,y)->ae x y=some r->ai):ai:=by
 cases o with
 |none=>cases h
 |some x=>exact k x.1 x.2 rfl h
theorem pf {β:Type}{x y:β}{P:β->Prop}(h:some y=some x)(k:P y):P x:=dv.inj h▸k
noncomputable def bo {β:Type}(b:Bool)(ae:Option β):Option β:=match b with
 |true=>ae
 |false=>none
theorem Cb {β:Type}{b:Bool}{ae:Option β}{r:β}{ai:Prop}(h:bo b ae=some r)(k:b=true->ae=some r->ai):ai:=by
 cases b with
 |false=>cases h
 |true=>exact k rfl h
noncomputable def vr (V:EV)(c:bL)(Γ:bd)(p:aw)(S:St V):Option (ig×St V):=match S with
 |⟨L,T,Nb,ni,tb,ti,ai,gb,gi,ak,os,cN⟩=>match os with
  |[]=>none
  |o::os=>match o with
   | .bi k room id args aH GX L' f dN dt _=>op (B9 c) λk' ia=>bo (Ca k' k&&pb ia.1 id&&qz room Γ) (op (ff L aH) λpre rest=>
     some (f (Nb+ni) (tb+ti),⟨L' (Nb+ni)++rest,T,Nb,ni+dN,tb,ti+dt,ai,gb,gi,ak,os,(.args ia.2,.args args)::(.led pre,.led GX)::cN⟩))
   | .fn Cc qA aH bt ng C C' r _=>op (ff L aH) λpre rest=>op (ff T bt) λGY Cd=>op (ff ai ng) λGZ Ce=>
     some (r,⟨C'.L++rest,C'.T++Cd,C'.N,0,C'.J,0,C'.ai++Ce,C'.U,0,ak,os,(.ctx Γ p,.ctx Cc qA)::(.cfg ⟨pre,GY,Nb+ni,tb+ti,GZ,gb+gi⟩,.cfg C)::cN⟩)
section
variable {V:EV}{α:Type}
noncomputable def mw (ak:Nat):Nat:=match ak%2 with
 |0=>0
 |_+1=>match ak/2%2 with
  |0=>1
  |_+1=>match Nat.beq (ak/4%8) 7 with
   |true=>ak/32%32
   |false=>ak/4%8+2
noncomputable def oh (ak:Nat):Nat:=match ak%2 with
 |0=>ak/2
 |_+1=>match ak/2%2 with
  |0=>ak/4
  |_+1=>match Nat.beq (ak/4%8) 7 with
   |true=>ak/1024
   |false=>ak/32
noncomputable def St.load (S:St V)(a:Addr)(ae:az->St V->Option α):Option α:=match S with
 |⟨L,T,Nb,ni,tb,ti,ai,gb,gi,ak,os,cN⟩=>match mw ak with
  |0=>match V.kt.get a with
   |some o=>ae o ⟨L,T,Nb,ni,tb,ti,ai,gb,gi,oh ak,os,cN⟩
   |none=>none
  |j+1=>match iy L j with
   |some x=>ae x.2 ⟨L,T,Nb,ni,tb,ti,ai,gb,gi,oh ak,os,(.nat a,.nat x.1)::cN⟩
   |none=>none
noncomputable def St.upd (S:St V)(a:Addr)(f:az->az)(ae:St V->Option α):Option α:=match S with
 |⟨L,T,Nb,ni,tb,ti,ai,gb,gi,ak,os,cN⟩=>match mw ak with
  |0=>none
  |j+1=>match iy L j with
   |some x=>match(f x.2).isFreed with
    |false=>ae ⟨x7 L j (x.1,f x.2),T,Nb,ni,tb,ti,ai,gb,gi,oh ak,os,(.nat a,.nat x.1)::cN⟩
    |true=>none
   |none=>none
noncomputable def St.new (S:St V)(o:az)(ae:Addr->St V->Option α):Option α:=match S with
 |⟨L,T,Nb,ni,tb,ti,ai,gb,gi,ak,os,cN⟩=>match o.isFreed with
  |true=>none
  |false=>ae (Nb+ni) ⟨(Nb+ni,o)::L,T,Nb,ni+1,tb,ti,ai,gb,gi,ak,os,cN⟩
noncomputable def St.fresh (S:St V)(ae:Tok->St V->Option α):Option α:=match S with
 |⟨L,T,Nb,ni,tb,ti,ai,gb,gi,ak,os,cN⟩=>ae (tb+ti) ⟨L,T,Nb,ni,tb,ti+1,ai,gb,gi,ak,os,cN⟩
noncomputable def St.newGen (S:St V)(c:bL)(ae:Nat->St V->Option α):Option α:=match S with
 |⟨L,T,Nb,ni,tb,ti,ai,gb,gi,ak,os,cN⟩=>ae (gb+gi) ⟨L,T,Nb,ni,tb,ti,(gb+gi,.fresh c)::ai,gb,gi+1,ak,os,cN⟩
noncomputable def St.gen (S:St V)(g:Nat)(ae:GenState->St V->Option α):Option α:=match S with
 |⟨L,T,Nb,ni,tb,ti,ai,gb,gi,ak,os,cN⟩=>match iy ai (mw ak)with
  |some x=>ae x.2 ⟨L,T,Nb,ni,tb,ti,ai,gb,gi,oh ak,os,(.nat g,.nat x.1)::cN⟩
  |none=>none
noncomputable def St.setGen (S:St V)(g:Nat)(y:GenState)(ae:St V->Option α):Option α:=match S with
 |⟨L,T,Nb,ni,tb,ti,ai,gb,gi,ak,os,cN⟩=>match iy ai (mw ak)with
  |some x=>ae ⟨L,T,Nb,ni,tb,ti,x7 ai (mw ak) (x.1,y),gb,gi,oh ak,os,(.nat g,.nat x.1)::cN⟩
  |none=>none
noncomputable def St.turn (S:St V)(A B:St V->Option α):Option α:=match S with
 |⟨L,T,Nb,ni,tb,ti,ai,gb,gi,ak,os,cN⟩=>match mw ak with
  |0=>A ⟨L,T,Nb,ni,tb,ti,ai,gb,gi,oh ak,os,cN⟩
  |_+1=>B ⟨L,T,Nb,ni,tb,ti,ai,gb,gi,oh ak,os,cN⟩
section specs
variable {S:St V}{r:α}
theorem x8 {V:EV}{S:St V}{L T Nb ni tb ti ai gb gi ak os x}{S':St V}(e:S'=⟨L,T,Nb,ni,tb,ti,ai,gb,gi,ak,os,x::S.cN⟩)(h:S'.Ok):x.1=x.2/\S.Ok:=by
 subst e;exact⟨h _ (.head _),λam hz=>h am (.tail _ hz)⟩
theorem x9 {a b:Nat}(h:CV.nat a=CV.nat b):a=b:=by injection h
theorem St.G0 {a:Addr}{ae:az->St V->Option α}(h:S.load a ae=some r):∃o S1,ae o S1=some r/\S1.cfg=S.cfg/\(S1.Ok->S.Ok/\∀s,Rep V S.cfg s->s.heap.get? a=some o):=by
 obtain⟨L,T,Nb,ni,tb,ti,ai,gb,gi,ak,os,cN⟩:=S
 unfold St.load at h
 dsimp only at h
 cases hh:mw ak with
 |zero=>
  rw [hh]at h
  cases ho:V.kt.get a with
  |none=>rw [ho]at h;cases h
  |some o=>rw [ho]at h;exact qx o _ h rfl (λk=>⟨k,λs R=>R.top a o ho⟩)
 |succ j=>
  rw [hh]at h
  dsimp only at h
  cases hx:iy L j with
  |none=>rw [hx]at h;cases h
  |some x=>
   rw [hx]at h
   refine qx x.2 _ h rfl (λk=> ?_)
   obtain⟨e,k'⟩:=x8 (S:=⟨L,T,Nb,ni,tb,ti,ai,gb,gi,ak,os,cN⟩) rfl k
   have ea:=x9 e
   exact⟨k',λs R=>by rw [ea];exact R.led x (me _ (B5 hx))⟩
theorem St.NI {a:Addr}{f:az->az}{ae:St V->Option α}(h:S.upd a f ae=some r):∃S1,ae S1=some r/\(S1.Ok->S.Ok/\∀s,Rep V S.cfg s->(s.heap.get? a).isSome=true/\Good V S.cfg S1.cfg s {s with heap:=s.heap.update a f}):=by
 obtain⟨L,T,Nb,ni,tb,ti,ai,gb,gi,ak,os,cN⟩:=S
 unfold St.upd at h
 dsimp only at h
 cases hh:mw ak with
 |zero=>rw [hh]at h;cases h
 |succ j=>
  rw [hh]at h
  dsimp only at h
  cases hx:iy L j with
  |none=>rw [hx]at h;cases h
  |some x=>
   rw [hx]at h
   dsimp only at h
   cases hf:(f x.2).isFreed with
   |true=>rw [hf]at h;cases h
   |false=>
    rw [hf]at h
    refine⟨_,h,λk=> ?_⟩
    obtain⟨e,k'⟩:=x8 (S:=⟨L,T,Nb,ni,tb,ti,ai,gb,gi,ak,os,cN⟩) rfl k
    have ea:=x9 e
    subst ea
    exact⟨k',λs R=>⟨by rw [R.led x (me _ (B5 hx))];rfl,R.upd (A:=sh L j++T.flatten) ((vl hx).append_right _) ((B4 hx).append_right _) hf rfl ⟨rfl,rfl,rfl⟩⟩⟩
theorem St.NJ {o:az}{ae:Addr->St V->Option α}(h:S.new o ae=some r):∃S1,ae S.cfg.N S1=some r/\(S1.Ok->S.Ok)/\∀s,Rep V S.cfg s->Good V S.cfg S1.cfg s {s with heap:=s.heap.push o}:=by
 obtain⟨L,T,Nb,ni,tb,ti,ai,gb,gi,ak,os,cN⟩:=S
 unfold St.new at h
 dsimp only at h
 cases hf:o.isFreed with
 |true=>rw [hf]at h;cases h
 |false=>rw [hf]at h;exact oe _ h id (λs R=>R.new hf rfl rfl ⟨(kJ ..).symm,rfl,rfl⟩)
theorem St.NK {ae:Tok->St V->Option α}(h:S.fresh ae=some r):∃S1,ae S.cfg.J S1=some r/\(S1.Ok->S.Ok)/\∀s,Rep V S.cfg s->Good V S.cfg S1.cfg s {s with toks:=s.toks+1}:=by
 obtain⟨L,T,Nb,ni,tb,ti,ai,gb,gi,ak,os,cN⟩:=S
 exact oe _ h id (λs R=>R.tick 1 rfl rfl ⟨rfl,(kJ ..).symm,rfl⟩)
theorem St.NL {c:bL}{ae:Nat->St V->Option α}(h:S.newGen c ae=some r):∃S1,ae S.cfg.U S1=some r/\(S1.Ok->S.Ok)/\∀s,Rep V S.cfg s->Good V S.cfg S1.cfg s {s with gens:=s.gens.push (.fresh c)}:=by
 obtain⟨L,T,Nb,ni,tb,ti,ai,gb,gi,ak,os,cN⟩:=S
 exact oe _ h id (λs R=>R.newGen rfl rfl ⟨rfl,rfl,(kJ ..).symm⟩)
theorem St.G1 {g:Nat}{ae:GenState->St V->Option α}(h:S.gen g ae=some r):∃x S1,ae x S1=some r/\S1.cfg=S.cfg/\(S1.Ok->S.Ok/\∀s,Rep V S.cfg s->s.gens[g]? =some x):=by
 obtain⟨L,T,Nb,ni,tb,ti,ai,gb,gi,ak,os,cN⟩:=S
 unfold St.gen at h
 dsimp only at h
 cases hx:iy ai (mw ak)with
 |none=>rw [hx]at h;cases h
 |some x=>
  rw [hx]at h
  refine qx x.2 _ h rfl (λk=> ?_)
  obtain⟨e,k'⟩:=x8 (S:=⟨L,T,Nb,ni,tb,ti,ai,gb,gi,ak,os,cN⟩) rfl k
  have ea:=x9 e
  exact⟨k',λs R=>by rw [ea];exact R.gens x (B5 hx)⟩
theorem St.G2 {g:Nat}{y:GenState}{ae:St V->Option α}(hb:y.bare=true)(h:S.setGen g y ae=some r):∃S1,ae S1=some r/\(S1.Ok->S.Ok/\∀s,Rep V S.cfg s->Good V S.cfg S1.cfg s (s.setGen g y)):=by
 obtain⟨L,T,Nb,ni,tb,ti,ai,gb,gi,ak,os,cN⟩:=S
 unfold St.setGen at h
 dsimp only at h
 cases hx:iy ai (mw ak)with
 |none=>rw [hx]at h;cases h
 |some x=>
  rw [hx]at h
  refine⟨_,h,λk=> ?_⟩
  obtain⟨e,k'⟩:=x8 (S:=⟨L,T,Nb,ni,tb,ti,ai,gb,gi,ak,os,cN⟩) rfl k
  have ea:=x9 e
  subst ea
  exact⟨k',λs R=>R.setGen (vl hx) (B4 hx) hb rfl ⟨rfl,rfl,rfl⟩⟩
theorem St.G3 {A B:St V->Option α}(h:S.turn A B=some r):∃S1,(A S1=some r\/B S1=some r)/\S1.cfg=S.cfg/\(S1.Ok->S.Ok):=by
 obtain⟨L,T,Nb,ni,tb,ti,ai,gb,gi,ak,os,cN⟩:=S
 unfold St.turn at h
 dsimp only at h
 cases hh:mw ak with
 |zero=>rw [hh]at h;exact oe _ (.inl h) rfl id
 |succ j=>rw [hh]at h;exact oe _ (.inr h) rfl id
end specs
theorem NM {a b c:List aJ}(h:a.Perm (b++c)):a.flatten.Perm (b.flatten++c.flatten):=by
 rw [<-BN];exact h.flatten
theorem qB {L P R:aJ}{T TP TR:List aJ}(h:L.Perm (P++R))(ht:T.Perm (TP++TR)):(L++T.flatten).Perm ((P++TP.flatten)++(R++TR.flatten)):=by
 refine(h.append (NM ht)).trans ?_
 rw [bK,bK]
 refine cg.append_left _ ?_
 rw [<-bK,<-bK]
 exact cY.append_right _
theorem NN {a b:Args}(h:CV.args a=CV.args b):a=b:=by injection h
theorem NO {a b:aJ}(h:CV.led a=CV.led b):a=b:=by injection h
theorem NP {a b:aC}(h:CV.cfg a=CV.cfg b):a=b:=by injection h
def NQ (V:EV)(c:bL)(Γ:bd)(p:aw)(S:St V)(x:ig×St V):Prop:=x.2.Ok->S.Ok/\cW V Γ p (V.M.den c) S.cfg x.1 x.2.cfg
theorem G4 {c:bL}{Γ:bd}{p:aw}(cv:Γ.code=c):∀{S:St V} {x:ig×St V},vr V c Γ p S=some x->NQ V c Γ p S x:=by
 rintro ⟨L,T,Nb,ni,tb,ti,ai,gb,gi,ak,os,cN⟩ x h
 cases os with
 |nil=>exact nn h
 |cons o os=>
 cases o with
 |bi k room id args aH GX L' f dN dt ok=>
  refine jj (o:=B9 c) h λk' ia hb h=>Cb (b:=Ca k' k&&pb ia.1 id&&qz room Γ) h λhi h=>jj (o:=ff L aH) h λpre rest ht h=>pf h λhc=> ?_
  refine cB (xN.mp hi) λhi hr=> ?_
  refine cB (xN.mp hi) λhk hi=> ?_
  have ec:c=bV k id args:=by rw [NF hb,NG hk,B8 hi,(NN (hc _ (.head _)):ia.2=args)]
  refine⟨λam hz=>hc am (.tail _ (.tail _ hz)),?_⟩
  have w:=ok Γ p (Nb+ni) (tb+ti) (gb+gi) (cv.trans ec) hr
  rw [<-ec,<-NO (hc _ (.tail _ (.head _)))]at w
  exact aK.frame w (A:=rest++T.flatten) (B:=ai) (by
    show(L++T.flatten).Perm ((pre++[])++(rest++T.flatten))
    rw [bk,<-bK]
    exact(mr ht).append_right _) (.refl _) ⟨rfl,rfl,rfl⟩ (by
    show((L' (Nb+ni)++rest)++T.flatten).Perm ((L' (Nb+ni)++[])++(rest++T.flatten))
    rw [bk,bK]) (.refl _) ⟨(kJ ..).symm,(kJ ..).symm,rfl⟩
 |fn Cc qA aH bt ng C C' r' ok=>
  refine jj (o:=ff L aH) h λpre rest ht h=>jj (o:=ff T bt) h λGY Cd NR h=>jj (o:=ff ai ng) h λGZ Ce hg h=>pf h λhc=> ?_
  clear h
  have e1:CV.ctx Γ p=CV.ctx Cc qA:=hc _ (.head _)
  injection e1 with e1 e2
  subst e1 e2
  have e3:_=C:=NP (hc _ (.tail _ (.head _)))
  subst e3
  refine⟨λam hz=>hc am (.tail _ (.tail _ hz)),?_⟩
  rw [cv]at ok
  exact aK.frame ok (A:=rest++Cd.flatten) (B:=Ce) (qB (mr ht) (mr NR)) (mr hg) ⟨rfl,rfl,rfl⟩ (qB (.refl _) (.refl _)) (.refl _) ⟨rfl,rfl,rfl⟩
end
noncomputable def Cf (o:Option (End×St V))(ae:ig->St V->Option α):Option α:=op o λe S=>match e with
 | .ret r=>ae r S
 | .susp .. =>none
theorem NS {o:Option (End×St V)}{ae:ig->St V->Option α}{x:α}{ai:Prop}(h:Cf o ae=some x)(k:∀r S,o=some (.ret r,S)->ae r S=some x->ai):ai:=
 jj h λ
  | .ret _,_,q,h=>k _ _ q h
  | .susp ..,_,_,h=>nn h
noncomputable def ya (o:Option (ig×St V))(ae:ig->St V->Option α):Option α:=op o ae
noncomputable def wakeS (o:Option (End×St V))(g:Nat)(ae:GenResult->St V->Option α):Option α:=op o λe S=>bo e.quiet (S.setGen g e.genState λS=>ae e.result S)
noncomputable def G5 (den:bL->Sem PySem.Fin)(bv:bd->aw->Sem PySem.Fin->St V->Option (End×St V))(Γ:bd)(p:aw)(g:Nat)(r:Resume)(ae:GenResult->St V->Option α)(x:GenState)(S1:St V):Option α:=match x with
  | .fresh c=>match r with
   | .send .none=>S1.setGen g .running λS2=>wakeS (bv (Γ.wake c p) p (den c) S2) g ae
   |_=>none
  | .suspended Cg _ c₀ qA fs _=>match fs with
   |[]=>S1.setGen g .running λS2=>wakeS (bv (Γ.wake c₀ p) qA (Cg r) S2) g ae
   |_::_=>none
  | .finished=>ae .finished S1
  | .running=>none
noncomputable def di {X:Type}(den:bL->Sem PySem.Fin)(V:EV)(bv:bd->aw->Sem PySem.Fin->St V->Option (End×St V)):Nat->bd->aw->Sem X->St V->Option (Res X×aw×St V)
 |0,_,_,_,_=>none
 |n+1,Γ,p,t,S=>match t with
  | .pure x=>some (.ok x,p,S)
  | .raise e=>some (.err e,p,S)
  | .rule _ k=>di den V bv n Γ p (k ()) S
  | .at q k=>di den V bv n Γ q (k ()) S
  | .point _ k=>di den V bv n Γ p (k ()) S
  | .ask k=>di den V bv n Γ p (k ⟨V.prog,V.w.params⟩) S
  | .load a _ k=>S.load a λo S1=>di den V bv n Γ p (k o) S1
  | .loadIfAlive a k=>S.load a λo S1=>di den V bv n Γ p (k (some o)) S1
  | .update a _ f k=>S.upd a f λS1=>di den V bv n Γ p (k ()) S1
  | .alloc o k=>S.new o λa S1=>di den V bv n Γ p (k a) S1
  | .fresh k=>S.fresh λa S1=>di den V bv n Γ p (k a) S1
  | .handled own k=>match own with
   |true=>di den V bv n Γ p (k Γ.own) S
   |false=>di den V bv n Γ p (k Γ.handled) S
  | .stack k=>di den V bv n Γ p (k ((Γ.code,p)::Γ.below)) S
  | .thread k=>di den V bv n Γ p (k 0) S
  | .call c h _ _ k=>S.turn (λS1=>Cf (bv (Γ.enter c h p) p (den c) S1) λr S2=>di den V bv n Γ p (k r) S2) λS1=>ya (vr V c (Γ.enter c h p) p S1) λr S2=>di den V bv n Γ p (k r) S2
  | .newGen c k=>S.newGen c λg S1=>di den V bv n Γ p (k g) S1
  | .genState g k=>S.gen g λx S1=>di den V bv n Γ p (k x.seen) S1
  | .resume g r _ k=>S.gen g λx S1=>G5 den bv Γ p g r (λy S2=>di den V bv n Γ p (k y) S2) x S1
  | .yield v g l k=>some (.susp v g l k,p,S)
  |_=>none
noncomputable def fN (den:bL->Sem PySem.Fin)(V:EV):Nat->bd->aw->Sem PySem.Fin->St V->Option (End×St V)
 |0,_,_,_,_=>none
 |n+1,Γ,p,t,S=>op (di den V (fN den V n) 9000 Γ p t S) λr q=>match r with
   | .err v=>some (.ret (.error v),q.2)
   | .susp v g l k=>some (.susp v g l k Γ.code q.1 [],q.2)
   | .ok fin=>match fin with
    | .done f=>some (.ret (.ok f),q.2)
    | .again c=>bo c.quiet (q.2.turn (λS1=>fN den V n (Γ.goto c) q.1 (den c) S1) λS1=>ya (vr V c (Γ.goto c) q.1 S1) λr S2=>some (.ret r,S2))
section sound
variable {V:EV}{X:Type}{Γ:bd}{p p₁ p':aw}{C bq C':aC}{r:Res X}
theorem aK.trans {Φ Ψ Χ:bI->bI->Prop}(a:aK V C bq Φ)(b:aK V bq C' Ψ)(h:∀s bG s',Rep V C s->Φ s bG->Ψ bG s'->Χ s s'):aK V C C' Χ:=λs R=>by
 refine bX (a s R) λbG g1 f1=> ?_
 refine bX (b bG g1.rep) λs' g2 f2=> ?_
 exact da s' (g1.trans g2) (h s bG s' R f1 f2)
theorem ax.step {t t₁:Sem X}(h:∀s,Rep V C s->∃bG,Good V C bq s bG/\∀ae ak gd lv e ee,Runs V.M Γ p₁ (t₁.wrap ae ak gd lv) [] bG e ee->Runs V.M Γ p (t.wrap ae ak gd lv) [] s e ee)(w:ax V Γ p₁ t₁ bq r p' C'):ax V Γ p t C r p' C':=λs R=>by
 refine bX (h s R) λbG g1 f1=> ?_
 refine bX (w bG g1.rep) λs' g2 f2=> ?_
 exact da s' (g1.trans g2) (λae ak gd lv e ee q=>f1 ae ak gd lv e ee (f2 ae ak gd lv e ee q))
theorem ax.idle {t t₁:Sem X}(h:∀s ae ak gd lv e ee,Runs V.M Γ p₁ (t₁.wrap ae ak gd lv) [] s e ee->Runs V.M Γ p (t.wrap ae ak gd lv) [] s e ee)(w:ax V Γ p₁ t₁ C r p' C'):ax V Γ p t C r p' C':=w.step λs R=>⟨s,.refl R,h s⟩
variable {den:bL->Sem PySem.Fin}{bv:bd->aw->Sem PySem.Fin->St V->Option (End×St V)}
def Ci (V:EV)(bv:bd->aw->Sem PySem.Fin->St V->Option (End×St V)):Prop:=∀{Γ p t S e S'},bv Γ p t S=some (e,S')->S'.Ok->S.Ok/\gI V Γ p t S.cfg e S'.cfg
theorem G6 (hs:Ci V bv){yb:bd}{p₁:aw}{t₁:Sem PySem.Fin}{t:Sem X}{g:Nat}{kk:GenResult->Sem X}{S:St V}{ae:GenResult->St V->Option (Res X×aw×St V)}{r:Res X}{p':aw}{S':St V} (h:(S.setGen g .running λS2=>wakeS (bv yb p₁ t₁ S2) g ae)=some (r,p',S')) (IH:∀{x S1},ae x S1=some (r,p',S')->S1.Ok/\ax V Γ p (kk x) S1.cfg r p' S'.cfg) (hw:S.Ok->∀s lr bG ae ak gd lv e ee,Rep V S.cfg s->Runs V.M yb p₁ t₁ [] (s.setGen g .running) lr bG->lr.quiet=true->Runs V.M Γ p ((kk lr.result).wrap ae ak gd lv) [] (bG.setGen g lr.genState) e ee->Runs V.M Γ p (t.wrap ae ak gd lv) [] s e ee):S.Ok/\ax V Γ p t S.cfg r p' S'.cfg:=by
 refine bX (St.G2 rfl h) λS2 h2 z=>jj h2 λlr S3 q h2=>Cb (b:=lr.quiet) h2 λqq h2=> ?_
 refine bX (St.G2 (S:=S3) (g:=g) (y:=lr.genState) (ae:=ae lr.result) (End.bare_of_quiet qq) h2) λS4 h4 k4=>cB (IH h4) λNT w=>cB (k4 NT) λNU g4=>cB (hs q NU) λmx w3=>cB (z mx) λpg g2=>⟨pg,w.step λs R=> ?_⟩
 exact bX (w3 _ (g2 s R).rep) λbG b rr=>da _ ((g2 s R).trans (b.trans (g4 bG b.rep))) (λae ak gd lv e ee x=>hw pg s lr bG ae ak gd lv e ee R rr qq x)
theorem G7 (ej:V.M.den=den)(hs:Ci V bv):∀(n:Nat) {Γ:bd} {p:aw} {t:Sem X} {S S':St V} {r:Res X} {p':aw},di den V bv n Γ p t S=some (r,p',S')->S'.Ok->S.Ok/\ax V Γ p t S.cfg r p' S'.cfg:=by
 intro n
 induction n with
 |zero=>
  intro _ _ _ _ _ _ _ h _
  cases h
 |succ n aS=>
  intro Γ p t S S' r p' h hc
  have IH:∀{p:aw} {t:Sem X} {S:St V},di den V bv n Γ p t S=some (r,p',S')->S.Ok/\ax V Γ p t S.cfg r p' S'.cfg:=λh=>aS h hc
  cases t
  case pure x=>have h:some _=some _:=h;cases h;exact⟨hc,λs R=>⟨s,.refl R,λ_ _ _ _ _ _ q=>q⟩⟩
  case raise x=>have h:some _=some _:=h;cases h;exact⟨hc,λs R=>⟨s,.refl R,λ_ _ _ _ _ _ q=>q⟩⟩
  case rule tag k=>exact⟨(IH h).1,(IH h).2.idle λ_ _ _ _ _ _ _ q=> .rule q⟩
  case «at» q k=>exact⟨(IH h).1,(IH h).2.idle λ_ _ _ _ _ _ _ q=> .at q⟩
  case point l k=>exact⟨(IH h).1,(IH h).2.idle λ_ _ _ _ _ _ _ q=> .point q⟩
  case ask k=>exact⟨(IH h).1,(IH h).2.idle λ_ _ _ _ _ _ _ q=> .ask q⟩
  case thread k=>exact⟨(IH h).1,(IH h).2.idle λ_ _ _ _ _ _ _ q=> .thread q⟩
  case stack k=>exact⟨(IH h).1,(IH h).2.idle λ_ _ _ _ _ _ _ q=> .stack q⟩
  case handled own k=>cases own<;>exact⟨(IH h).1,(IH h).2.idle λ_ _ _ _ _ _ _ q=> .handled q⟩
  case load a q k=>
   refine o8 (St.G0 h) λo S1 h1 e1 H=> ?_
   refine cB (IH h1) λok w=> ?_
   rw [e1]at w
   exact⟨(H ok).1,w.step λs R=>⟨s,.refl R,λ_ _ _ _ _ _ q=> .load ((H ok).2 s R) q⟩⟩
  case loadIfAlive a k=>
   refine o8 (St.G0 h) λo S1 h1 e1 H=> ?_
   refine cB (IH h1) λok w=> ?_
   rw [e1]at w
   exact⟨(H ok).1,w.step λs R=>⟨s,.refl R,λ_ _ _ _ _ _ q=> .loadIfAlive (by rw [(H ok).2 s R];exact q)⟩⟩
  case update a q f k=>
   refine bX (St.NI h) λS1 h1 H=> ?_
   refine cB (IH h1) λok w=> ?_
   exact⟨(H ok).1,w.step λs R=>⟨_,((H ok).2 s R).2,λ_ _ _ _ _ _ q=> .update ((H ok).2 s R).1 q⟩⟩
  case alloc o k=>
   refine qw (St.NJ (S:=S) (ae:=λa=>di den V bv n Γ p (k a)) h) λS1 h1 H g=> ?_
   refine cB (IH h1) λok w=> ?_
   exact⟨H ok,w.step λs R=>⟨_,g s R,λ_ _ _ _ _ _ q=> .alloc (by rw [R.size];exact q)⟩⟩
  case fresh k=>
   refine qw (St.NK (S:=S) (ae:=λa=>di den V bv n Γ p (k a)) h) λS1 h1 H g=> ?_
   refine cB (IH h1) λok w=> ?_
   exact⟨H ok,w.step λs R=>⟨_,g s R,λ_ _ _ _ _ _ q=> .fresh (by rw [<-R.toks]at q;exact q)⟩⟩
  case newGen c k=>
   refine qw (St.NL (S:=S) (ae:=λa=>di den V bv n Γ p (k a)) h) λS1 h1 H g=> ?_
   refine cB (IH h1) λok w=> ?_
   exact⟨H ok,w.step λs R=>⟨_,g s R,λ_ _ _ _ _ _ q=> .newGen (by rw [R.iU];exact q)⟩⟩
  case genState g k=>
   refine o8 (St.G1 (S:=S) (ae:=λa=>di den V bv n Γ p (k a.seen)) h) λx S1 h1 e1 H=> ?_
   refine cB (IH h1) λok w=> ?_
   rw [e1]at w
   exact⟨(H ok).1,w.step λs R=>⟨s,.refl R,λ_ _ _ _ _ _ q=> .genState ((H ok).2 s R) q⟩⟩
  case «yield» v g l k=>have h:some _=some _:=h;cases h;exact⟨hc,λs R=>⟨s,.refl R,λae ak gd lv e ee q=>by obtain⟨rfl,rfl⟩:=q;exact .yield⟩⟩
  case call c hd gd l k=>
   refine qw (St.G3 (S:=S) (A:=λS1=>Cf (bv (Γ.enter c hd p) p (den c) S1) λr=>di den V bv n Γ p (k r)) (B:=λS1=>ya (vr V c (Γ.enter c hd p) p S1) λr=>di den V bv n Γ p (k r)) h) λS1 h1 e1 H=> ?_
   rcases h1 with h1|h1
   ·refine NS h1 λyc S2 q h1=>cB (IH h1) λmx w=>cB (hs q mx) λpg w1=> ?_
    rw [e1]at w1
    exact⟨H pg,w.step λs R=>bX (w1 s R) λbG g rr=>da bG g (λ_ _ _ _ _ _ q=> .call (ej▸rr) q)⟩
   ·refine jj h1 λyc S2 q h1=>cB (IH (S:=S2) (t:=k yc) h1) λmx w=>cB (G4 (Γ:=Γ.enter c hd p) (c:=c) rfl q mx) λpg w1=> ?_
    rw [e1]at w1
    exact⟨H pg,w.step λs R=>bX (w1 s R) λbG g rr=>da bG g (λ_ _ _ _ _ _ q=> .call rr q)⟩
  case resume g rs l k=>
   refine o8 (St.G1 (S:=S) (g:=g) (ae:=G5 den bv Γ p g rs λy=>di den V bv n Γ p (k y)) h) λx S1 h1 e1 H=> ?_
   cases x with
   |running=>exact nn h1
   |finished=>
    refine cB (IH (S:=S1) (t:=k .finished) h1) λok w=> ?_
    rw [e1]at w
    exact⟨(H ok).1,w.step λs R=>⟨s,.refl R,λ_ _ _ _ _ _ q=> .resumeFinished ((H ok).2 s R) q⟩⟩
   |fresh c=>
    cases rs with
    |throw=>exact nn h1
    |send v=>
     cases v with
     |none=>
      have am:=G6 (yb:=Γ.wake c p) (p₁:=p) (t₁:=den c) (S:=S1) (g:=g) (ae:=λy=>di den V bv n Γ p (k y)) (t:= .resume g (.send .none) l k) hs h1 (λq=>IH q) (λok s lr bG ae ak gd lv e ee R a b c=> .resumeFresh ((H ok).2 s (e1▸R)) (ej▸a) b c)
      rw [e1]at am
      exact⟨(H am.1).1,am.2⟩
     |_=>exact nn h1
   |suspended Cg aeS c₀ qA fs cl=>
    cases fs with
    |cons=>exact nn h1
    |nil=>
     have am:=G6 (yb:=Γ.wake c₀ p) (p₁:=qA) (t₁:=Cg rs) (S:=S1) (g:=g) (ae:=λy=>di den V bv n Γ p (k y)) (t:= .resume g rs l k) hs h1 (λq=>IH q) (λok s lr bG ae ak gd lv e ee R a b c=> .resumeSuspended ((H ok).2 s (e1▸R)) a b c)
     rw [e1]at am
     exact⟨(H am.1).1,am.2⟩
  all_goals exact nn h
theorem vt (t:Sem PySem.Fin):t.wrap .pure .raise id id=t:=by rw [<-Sem.bind_eq_wrap,Sem.bind_pure]
def yd (V:EV)(Γ:bd)(p:aw)(t:Sem PySem.Fin)(S:St V)(x:End×St V):Prop:=x.2.Ok->S.Ok/\gI V Γ p t S.cfg x.1 x.2.cfg
theorem ye (ej:V.M.den=den):∀(n:Nat),Ci V (fN den V n)
 |0,_,_,_,_,_,_,h,_=>by cases h
 |n+1,Γ,p,t,S,e,S',h,hc=>by
  refine jj (o:=di den V (fN den V n) 9000 Γ p t S) h λr am q h=> ?_
  obtain⟨p',Cj⟩:=am
  have fin:∀{e:End} {C':aC},Cj.Ok->aK V Cj.cfg C' (λs s'=>Tail V.M Γ p' s r .pure .raise id id e s')->S.Ok/\gI V Γ p t S.cfg e C':=λok w=>
   cB (G7 ej (ye ej n) 9000 q ok) λNW w0=>⟨NW,aK.trans w0 w λs bG s' _ a b=>by have:=a _ _ _ _ _ _ b;rw [vt]at this;exact this⟩
  cases r with
  |err v=>exact pf (P:=yd V Γ p t S) h (λhc=>fin hc λs R=>⟨s,.refl R,.raise⟩) hc
  |susp v g l k=>
   refine pf (P:=yd V Γ p t S) h (λhc=>fin hc λs R=>⟨s,.refl R,by
    have:(λr=>(k r).wrap .pure .raise id id)=k:=funext λr=>vt (k r)
    exact⟨by rw [this];rfl,rfl⟩⟩) hc
  |ok f=>
   cases f with
   |done f=>exact pf (P:=yd V Γ p t S) h (λhc=>fin hc λs R=>⟨s,.refl R,.done⟩) hc
   |again c=>
    refine Cb (b:=c.quiet) h λqq h=>qw (St.G3 (S:=Cj) (A:=fN den V n (Γ.goto c) p' (den c)) (B:=λS1=>ya (vr V c (Γ.goto c) p' S1) λr S2=>some (.ret r,S2)) h) λS2 h2 e2 z=> ?_
    rcases h2 with h2|h2
    ·refine cB (ye ej n h2 hc) λmx w2=> ?_
     rw [e2]at w2
     exact fin (z mx) λs R=>bX (w2 s R) λs' g rr=>⟨s',g,.again qq (ej▸rr)⟩
    ·refine jj h2 λyc S3 G h2=>pf (P:=yd V Γ p t S) h2 (λhc=> ?_) hc
     refine cB (G4 (c:=c) (Γ:=Γ.goto c) rfl G hc) λmx w2=> ?_
     rw [e2]at w2
     exact fin (z mx) λs R=>bX (w2 s R) λs' g rr=>⟨s',g,.again qq rr⟩
end sound
end
section
open PySem PySem.W PySem.W.X
noncomputable def hs (P:aF)(n:List Nat):Int:=if(⟨⟨n⟩⟩:Str).cps.isEmpty=true then 0 else reduceHash (P.strHash (⟨⟨n⟩⟩:Str).cps)
noncomputable def Z (l:List Nat)(t:Nat):ay:= .str ⟨⟨l⟩⟩ t
noncomputable def de (P:aF)(n:List Nat)(k:Nat)(v:ay):ir:=⟨hs P n,.str ⟨⟨n⟩⟩ k,v⟩
noncomputable def bz (l:List ir)(e:Nat):az:={cls:= .type "frame",data:= .dict ⟨l⟩ e}
noncomputable def aq (l:List ay)(e:Nat):az:={cls:= .type "list",data:= .seq ⟨l⟩ e}
noncomputable def aG (l:List ay):az:={cls:= .type "tuple",data:= .seq ⟨l⟩ 0}
noncomputable def rec (c:String)(l:List ay):az:={cls:= .type c,data:= .fields ⟨l⟩}
noncomputable def bM (l i:Nat):az:=rec "list_iterator" [.ref l,.int (O i) 0]
noncomputable def fU (l:List ir)(e:Nat):az:={cls:= .type "dict",data:= .dict ⟨l⟩ e}
structure aeT (V:EV) where
 Γ:bd
 p:aw
 C:aC
section
variable {V:EV}{X af:Type}{Γ:bd}{p p₁ p':aw}{C bq C':aC}
noncomputable def St.of (V:EV)(C:aC)(ak:Nat)(os:List (vm V)):St V:=⟨C.L,C.T,C.N,0,C.J,0,C.ai,C.U,0,ak,os,[]⟩
noncomputable def yf (fs ts gs:List Nat):Option (Res X×aw×St V)->Option (Res X×aw×aC×List CV)
 |none=>none
 |some (r,p,S)=>match S with
  |⟨L,T,Nb,ni,tb,ti,ai,gb,gi,_,_,cN⟩=>op (ff L fs) λL' _=>op (ff T ts) λT' _=>op (ff ai gs) λG' _=>some (r,p,⟨L',T',Nb+ni,tb+ti,G',gb+gi⟩,cN.map aD)
noncomputable def yg:Option (Res X×aw×St V)->List CV
 |none=>[]
 |some (_,_,S)=>S.cN.map iu
noncomputable def vu (fs ts gs:List Nat):Option (End×St V)->Option (End×aC×List CV)
 |none=>none
 |some (e,S)=>match S with
  |⟨L,T,Nb,ni,tb,ti,ai,gb,gi,_,_,cN⟩=>op (ff L fs) λL' _=>op (ff T ts) λT' _=>op (ff ai gs) λG' _=>some (e,⟨L',T',Nb+ni,tb+ti,G',gb+gi⟩,cN.map aD)
noncomputable def vw:Option (End×St V)->List CV
 |none=>[]
 |some (_,S)=>S.cN.map iu
theorem G8:∀{l:List (CV×CV)},l.map aD=l.map iu->∀x∈l,x.1=x.2:=by
 intro l
 induction l with
 |nil=>
  intro _ x hx
  cases hx
 |cons y l aS=>
  intro h x hx
  rw [bY,bY]at h
  injection h with h1 h2
  rcases gr.mp hx with rfl|hx
  ·exact h1
  ·exact aS h2 x hx
theorem G9 {L L' R:aJ}{T T' TR:List aJ}{fs ts:List Nat}(h:ff L fs=some (L',R))(h':ff T ts=some (T',TR)):(L++T.flatten).Perm ((L'++T'.flatten)++(R++TR.flatten)):=qB (mr h) (mr h')
theorem ax.of {den:bL->Sem PySem.Fin}(ej:V.M.den=den){n m:Nat}{t:Sem X}(ak:Nat)(os:List (vm V))(fs ts gs:List Nat){r:Res X} (h:yf fs ts gs (di den V (fN den V m) n Γ p t (St.of V C ak os))=some (r,p',C',yg (di den V (fN den V m) n Γ p t (St.of V C ak os)))):ax V Γ p t C r p' C':=by
 cases q:di den V (fN den V m) n Γ p t (St.of V C ak os)with
 |none=>rw [q]at h;cases h
 |some es=>
  obtain⟨yc,p₁,L,T,Nb,ni,tb,ti,ai,gb,gi,NX,NY,cN⟩:=es
  rw [q]at h
  exact jj (o:=ff L fs) h λNZ N7 h1 h=>jj (o:=ff T ts) h λN8 N9 h2 h=>jj (o:=ff ai gs) h λc₁ c₂ h3 h=>pf (P:=λam:Res X×aw×aC×List CV=>am.2.2.2=cN.map iu->ax V Γ p t C am.1 am.2.1 am.2.2.1) h (λhc=>cB (G7 ej (ye ej m) n q (G8 hc)) λ_ w=>aK.less w (G9 h1 h2) (mr h3) bH) rfl
theorem gI.of {den:bL->Sem PySem.Fin}(ej:V.M.den=den){m:Nat}{t:Sem PySem.Fin}(ak:Nat)(os:List (vm V))(fs ts gs:List Nat){e:End} (h:vu fs ts gs (fN den V m Γ p t (St.of V C ak os))=some (e,C',vw (fN den V m Γ p t (St.of V C ak os)))):gI V Γ p t C e C':=by
 cases q:fN den V m Γ p t (St.of V C ak os)with
 |none=>rw [q]at h;cases h
 |some es=>
  obtain⟨lr,L,T,Nb,ni,tb,ti,ai,gb,gi,NX,NY,cN⟩:=es
  rw [q]at h
  exact jj (o:=ff L fs) h λNZ N7 h1 h=>jj (o:=ff T ts) h λN8 N9 h2 h=>jj (o:=ff ai gs) h λc₁ c₂ h3 h=>pf (P:=λam:End×aC×List CV=>am.2.2=cN.map iu->gI V Γ p t C am.1 am.2.1) h (λhc=>cB (ye ej m q (G8 hc)) λ_ w=>aK.less w (G9 h1 h2) (mr h3) bH) rfl
theorem ax.pure {x:X}:ax V Γ p (.pure x) C (.ok x) p C:=λs R=>⟨s,.refl R,λ_ _ _ _ _ _ q=>q⟩
theorem ax.bind {m:Sem X}{k:X->Sem af}{x:X}{r:Res af}{p₂:aw}{ij:aC}(h1:ax V Γ p m C (.ok x) p₁ bq)(h2:ax V Γ p₁ (k x) bq r p₂ ij):ax V Γ p (m>>=k) C r p₂ ij:=
 aK.trans h1 h2 λs bG s' _ a b ae ak gd lv e ee q=>by rw [Sem.bind_eq_wrap',Sem.wrap_wrap];exact a _ _ _ _ _ _ (b ae ak gd lv e ee q)
theorem ax.tryCatch {m:Sem X}{hd:ay->Sem X}{x:X}(h:ax V Γ p m C (.ok x) p' C'):ax V Γ p (m.tryCatch hd) C (.ok x) p' C':=λs R=>by
 refine bX (h s R) λs' g a=>
  da s' g (λae ak gd lv e ee q=>by rw [Sem.tryCatch_eq_wrap,Sem.wrap_wrap];exact a _ _ _ _ _ _ q)
theorem ax.onRaise {m:Sem X}{hd:ay->Sem Unit}{x:X}(h:ax V Γ p m C (.ok x) p' C'):ax V Γ p (m.onRaise hd) C (.ok x) p' C':=λs R=>by
 refine bX (h s R) λs' g a=>
  da s' g (λae ak gd lv e ee q=>by rw [Sem.onRaise_eq_wrap,Sem.wrap_wrap];exact a _ _ _ _ _ _ q)
theorem ax.keep {m:Sem X}{Y:List ay}{x:X}(h:ax V Γ p m C (.ok x) p' C'):ax V Γ p (m.keep Y) C (.ok x) p' C':=λs R=>by
 refine bX (h s R) λs' g a=>
  da s' g (λae ak gd lv e ee q=>by rw [Sem.keep_eq_wrap,Sem.wrap_wrap];exact a _ _ _ _ _ _ q)
theorem ax.done {t:Sem PySem.Fin}{f:Flow}(h:ax V Γ p t C (.ok (.done f)) p' C'):cW V Γ p t C (.ok f) C':=λs R=>by
 refine bX (h s R) λs' g a=>
  da s' g (by have:=a .pure .raise id id (.ret (.ok f)) s' .done;rw [vt]at this;exact this)
theorem ax.err {t:Sem PySem.Fin}{v:ay}(h:ax V Γ p t C (.err v) p' C'):cW V Γ p t C (.error v) C':=λs R=>by
 refine bX (h s R) λs' g a=>
  da s' g (by have:=a .pure .raise id id (.ret (.error v)) s' .raise;rw [vt]at this;exact this)
theorem ax.again {t:Sem PySem.Fin}{c:bL}{e:End}(hq:c.quiet=true)(h1:ax V Γ p t C (.ok (.again c)) p₁ bq)(h2:gI V (Γ.goto c) p₁ (V.M.den c) bq e C'):gI V Γ p t C e C':=
 aK.trans h1 h2 λs bG s' _ a b=>by have:=a .pure .raise id id e s' (.again hq b);rw [vt]at this;exact this
theorem ax.c6 {m:Sem X}{k:X->Sem PySem.Fin}{x:X}{e:End}(h1:ax V Γ p m C (.ok x) p₁ bq)(h2:gI V Γ p₁ (k x) bq e C'):gI V Γ p (m>>=k) C e C':=
 aK.trans h1 h2 λs bG s' _ a b=>by
  have:=a k .raise id id e s' b
  rw [Sem.bind_eq_wrap'];exact this
theorem ax.turn {den:bL->Sem PySem.Fin}(ej:V.M.den=den){t:Sem PySem.Fin}{c:bL}{e:End}(cv:Γ.goto c=Γ)(hq:c.quiet=true)(h1:ax V Γ p t C (.ok (.again c)) p₁ bq)(h2:gI V Γ p₁ (den c) bq e C'):gI V Γ p t C e C':=
 ax.again hq h1 (by rw [cv,ej];exact h2)
theorem cW.loop {den:bL->Sem PySem.Fin}(ej:V.M.den=den){D:Type}{c:bL}(hq:c.quiet=true)(cv:Γ.goto c=Γ)(Inv:D->aC->Prop)(my:Flow->aC->Prop)(μ:D->Nat) (turn:∀ah C p,Inv ah C->(∃p' d' C',μ d'<μ ah/\Inv d' C'/\ax V Γ p (den c) C (.ok (.again c)) p' C')\/∃f C',my f C'/\cW V Γ p (den c) C (.ok f) C'):∀(n:Nat) ah C p,μ ah<n->Inv ah C->∃f C',my f C'/\cW V Γ p (den c) C (.ok f) C':=by
 intro n
 induction n with
 |zero=>
  intro _ _ _ h _
  exact absurd h (BO _)
 |succ n aS=>
  intro ah C p h I
  rcases turn ah C p I with⟨p',d',C',hm,I',w⟩|⟨f,C',P,w⟩
  ·refine gu (aS d' C' p' (by lia) I') λf Oa P w'=> ?_
   exact fL f Oa P (ax.turn ej cv hq w w')
  ·exact fL f C' P w
theorem aK.more {Φ:bI->bI->Prop}{L L':aJ}{T T':List aJ}{N J U N' au br:Nat}{ai G':lm}(A:aJ)(B:List aJ)(h:aK V ⟨L,T,N,J,ai,U⟩ ⟨L',T',N',au,G',br⟩ Φ):aK V ⟨L++A,T++B,N,J,ai,U⟩ ⟨L'++A,T'++B,N',au,G',br⟩ Φ:=
 aK.frame h (qB (.refl _) (.refl _)) (by rw [bk]) bH (qB (.refl _) (.refl _)) (by rw [bk]) bH
theorem aK.focus {Φ:bI->bI->Prop}{L L':aJ}{T1 T2:aJ}{x x':Addr×az}{N J U N' au br:Nat}{ai G':lm}(h:aK V ⟨L++[x],[],N,J,ai,U⟩ ⟨L'++[x'],[],N',au,G',br⟩ Φ):aK V ⟨L,[T1++x::T2],N,J,ai,U⟩ ⟨L',[T1++x'::T2],N',au,G',br⟩ Φ:=by
 have key:∀(M:aJ) (y:Addr×az),(M++[T1++y::T2].flatten).Perm (((M++[y])++([]:List aJ).flatten)++(T1++T2)):=λM y=>by
  simp only [ck,ce,bk,bK]
  exact cg.append_left _ o4
 exact aK.frame h (key L x) (by rw [bk]) bH (key L' x') (by rw [bk]) bH
end
abbrev d:=List Nat
abbrev LV:=List ay
abbrev NV:=Nat×ay
abbrev b8:=List (d×d)
abbrev bB:=List (d×Nat)
abbrev b9:=List (bL×aw)
abbrev cC:=List (Nat×Nat)
abbrev ONV:=Option NV
abbrev eP:=Option (NV×NV)
abbrev SF:=Sem PySem.Fin
noncomputable def ph:aw:=⟨912,13,912,25⟩
noncomputable def qC:aw:=⟨846,21,846,31⟩
noncomputable def yh:aw:=⟨846,11,846,58⟩
noncomputable def yi:aw:=⟨872,12,872,73⟩
noncomputable def pi:aw:=⟨866,49,866,53⟩
noncomputable def eG:aw:=⟨871,20,871,24⟩
noncomputable def si:aw:=⟨874,12,874,39⟩
noncomputable def sj:aw:=⟨865,20,865,36⟩
noncomputable def pj:aw:=⟨882,8,882,36⟩
noncomputable def yj:aw:=⟨888,20,888,40⟩
noncomputable def jk:aw:=⟨894,74,894,98⟩
noncomputable def yk:aw:=⟨66,36,66,54⟩
noncomputable def pn:aw:=⟨60,31,60,62⟩
noncomputable def iV:aw:=⟨60,25,60,74⟩
noncomputable def lu:aw:=⟨72,28,72,52⟩
noncomputable def gW:aw:=⟨28,22,28,46⟩
noncomputable def kg:aw:=⟨74,20,74,34⟩
noncomputable def kh:aw:=⟨31,11,31,34⟩
noncomputable def eq:aw:=⟨35,35,35,58⟩
noncomputable def pp:aw:=⟨102,15,102,84⟩
noncomputable def pq:aw:=⟨105,15,105,86⟩
noncomputable def yl:aw:=⟨117,15,117,32⟩
noncomputable def pr:aw:=⟨97,11,97,28⟩
noncomputable def sk:aw:=⟨99,15,99,28⟩
noncomputable def so:aw:=⟨86,8,86,26⟩
noncomputable def ym:aw:=⟨99,15,99,26⟩
noncomputable def yn:aw:=⟨58,11,58,34⟩
noncomputable def iW:aw:=⟨59,22,59,38⟩
noncomputable def lw:aw:=⟨80,31,80,54⟩
noncomputable def kj:aw:=⟨54,12,54,41⟩
noncomputable def sq:aw:=⟨48,16,48,52⟩
noncomputable def sr:aw:=⟨53,25,53,48⟩
noncomputable def jL:aw:=⟨21,8,21,22⟩
noncomputable def yo:aw:=⟨114,44,114,52⟩
noncomputable def yp:aw:=⟨32,15,32,45⟩
noncomputable def pt:aw:=⟨114,56,114,65⟩
noncomputable def iz:aw:=⟨894,21,894,157⟩
noncomputable def pu:aw:=⟨888,58,888,77⟩
noncomputable def oj:aw:=⟨888,15,888,79⟩
noncomputable def vy:aw:=⟨893,11,893,23⟩
noncomputable def yq:aw:=⟨898,16,898,41⟩
noncomputable def yr:aw:=⟨897,17,897,33⟩
noncomputable def yt:aw:=⟨897,38,897,46⟩
noncomputable def jl:aw:=⟨896,30,896,41⟩
noncomputable def yu:aw:=⟨896,16,896,45⟩
noncomputable def qD:aw:=⟨886,18,886,42⟩
noncomputable def nh:aw:=⟨923,49,923,59⟩
noncomputable def ss:aw:=⟨923,13,923,61⟩
noncomputable def su:aw:=⟨930,55,930,64⟩
noncomputable def yv:aw:=⟨930,15,930,67⟩
noncomputable def yw:aw:=⟨930,87,930,92⟩
noncomputable def gv:aw:=⟨689,27,689,48⟩
noncomputable def yx:aw:=⟨707,24,707,32⟩
noncomputable def vA:aw:=⟨750,20,750,30⟩
noncomputable def ol:aw:=⟨833,16,833,32⟩
noncomputable def om:aw:=⟨661,14,661,31⟩
noncomputable def jm:aw:=⟨685,8,807,32⟩
noncomputable def jM:aw:=⟨835,12,835,31⟩
noncomputable def sx:aw:=⟨844,11,844,20⟩
noncomputable def on:aw:=⟨908,8,908,13⟩
noncomputable def sy:aw:=⟨911,34,911,44⟩
noncomputable def yy:aw:=⟨912,12,912,43⟩
noncomputable def yz:aw:=⟨913,12,913,24⟩
noncomputable def yA:aw:=⟨917,11,917,28⟩
noncomputable def yB:aw:=⟨918,12,918,29⟩
noncomputable def yC:aw:=⟨921,12,921,28⟩
noncomputable def sA:aw:=⟨925,12,925,52⟩
noncomputable def sB:aw:=⟨926,4,926,39⟩
noncomputable def sC:aw:=⟨927,13,927,29⟩
noncomputable def yD:aw:=⟨928,50,928,55⟩
noncomputable def yE:aw:=⟨928,7,928,70⟩
noncomputable def yF:aw:=⟨930,14,930,93⟩
noncomputable def yG:aw:=⟨931,11,931,24⟩
noncomputable def yH:aw:=⟨931,28,931,52⟩
end
section
open PySem PySem.W PySem.W.X
noncomputable def vB:d:=[95,95,105,110,105,116,95,95]
noncomputable def Ha:d:=[95,86,97,108,117,101,70,111,114,109,97,116,116,101,114]
noncomputable def Hb:d:=[95,65,99,99,117,109,117,108,97,116,111,114]
noncomputable def Hc:d:=[95,108,97,119,95,109,97,114,107,115]
noncomputable def Hd:d:=[95,108,97,119,95,112,97,114,116,115]
noncomputable def He:d:=[95,108,97,119,95,115,116,97,114,116,115]
noncomputable def Hf:d:=[112,117,110,99,116,117,97,116,105,111,110,95,99,104,97,114,115]
noncomputable def pv:d:=[95,95,100,111,99,95,95]
noncomputable def Hg:d:=[95,95,112,97,99,107,97,103,101,95,95]
noncomputable def vC:d:=[106,111,105,110]
noncomputable def vD:d:=[108,97,119]
noncomputable def Ck:d:=[110,101,119,108,105,110,101]
noncomputable def Cm:d:=[95,97,115,99,105,105,95,115,112,108,105,116]
noncomputable def Cn:d:=[95,97,112,112,101,110,100,95,99,104,117,110,107]
noncomputable def sD:d:=[95,95,109,111,100,117,108,101,95,95]
noncomputable def sE:d:=[95,95,102,105,114,115,116,108,105,110,101,110,111,95,95]
noncomputable def yI:d:=[95,95,115,116,114,95,95]
noncomputable def sF:d:=[95,95,115,116,97,116,105,99,95,97,116,116,114,105,98,117,116,101,115,95,95]
noncomputable def yJ:d:=[95,95,100,105,99,116,95,95]
noncomputable def yK:d:=[95,95,119,101,97,107,114,101,102,95,95]
noncomputable def Co:d:=[112,111,112,95,102,114,111,109]
noncomputable def Hh:d:=[95,65,99,99,117,109,117,108,97,116,111,114,46,112,111,112]
noncomputable def Cp:d:=[95,95,108,101,110,95,95]
noncomputable def Cr:d:=[114,101,115,101,116]
noncomputable def Cs:d:=[105,115,95,111,110,108,121,119,115]
noncomputable def Ct:d:=[112,97,114,116,95,99,111,117,110,116]
noncomputable def Cu:d:=[95,95,110,101,119,95,95]
noncomputable def Hi:d:=[73,79,66,97,115,101,46,95,95,110,101,119,95,95]
noncomputable def Hj:d:=[83,116,114,105,110,103,73,79,46,95,95,105,110,105,116,95,95]
noncomputable def Hk:d:=[95,95,116,114,97,110,115,108,97,116,101,100]
noncomputable def Hl:d:=[83,116,114,105,110,103,73,79,46,95,95,99,104,101,99,107]
noncomputable def Hm:d:=[83,116,114,105,110,103,73,79,46,114,101,97,100]
noncomputable def yL:d:=[95,95,105,116,101,114,95,95]
noncomputable def yM:d:=[95,95,110,101,120,116,95,95]
noncomputable def Hn:d:=[115,104,108,101,120,46,95,95,105,110,105,116,95,95]
noncomputable def Cv:d:=[103,101,116,95,116,111,107,101,110]
noncomputable def Ho:d:=[115,104,108,101,120,46,103,101,116,95,116,111,107,101,110]
noncomputable def Cw:d:=[114,101,97,100,95,116,111,107,101,110]
noncomputable def Hp:d:=[115,104,108,101,120,46,114,101,97,100,95,116,111,107,101,110]
noncomputable def Hq:d:=[115,104,108,101,120,46,95,95,105,116,101,114,95,95]
noncomputable def Hr:d:=[115,104,108,101,120,46,95,95,110,101,120,116,95,95]
noncomputable def tS (i:Nat):Stmt:=match iy PySem.Challenge.pw_mr0375_01.main.body i with
 |some s=>s
 |none=>default
noncomputable def mS (i j:Nat):Stmt:=match tS i with
 | .ClassDef _ _ _ b _ _ _ _ _ _ _=>match iy b j with
  |some s=>s
  |none=>default
 |_=>default
noncomputable def dG (s:Stmt)(nm ql:Str)(g:Addr)(cl:List (Str×Addr))(df kd dc md:ay)(an:Option Addr)(co ct:ay):FuncData:=match s with
 | .FunctionDef _ as b _ _ _ sc _ _ _=>⟨nm,ql,as,.stmts b,sc,g,cl,df,kd,dc,md,an,co,ct,0⟩
 |_=>default
noncomputable def dH (ah:FuncData):az:=⟨.type "function",.none,.func ah,⟨[]⟩⟩
noncomputable def yN (l:LV):az:=⟨.type "code",.none,.fields ⟨l⟩,⟨[]⟩⟩
noncomputable def oo:Str:=⟨⟨[47,99,108,97,105,109,47,99,117,116,46,112,121]⟩⟩
noncomputable def er (A B:Str)(t:Nat)(l a b c ah:Int)(r:Nat)(f:Int)(x:Nat):az:=yN [.str A t,.str B (t+1),.str oo (t+2),.int l 0,.int a 0,.int b 0,.int c 0,.int ah 0,.ref r,.bool .true,.int f 0,.ref (r+1),.none,.ref (r+2),.ref (r+3),.ref (r+4),.int (O x) 0,.int l 0,.str oo (x+1)]
noncomputable def jn:Str:=⟨⟨[99,112,121,51,49,51,46,101,109,97,105,108,46,104,101,97,100,101,114]⟩⟩
noncomputable def nj:Str:=⟨⟨[99,112,121,51,49,51,46,115,104,108,101,120]⟩⟩
noncomputable def px:Str:=⟨⟨vB⟩⟩
noncomputable def py:Str:=⟨⟨[105,111]⟩⟩
noncomputable def qE:Str:=⟨⟨[108,97,119,95,109,114,48,51,55,53,95,48,49]⟩⟩
noncomputable def yO:Str:=⟨⟨Ha⟩⟩
noncomputable def yP:Str:=⟨⟨Hb⟩⟩
noncomputable def yQ:Str:=⟨⟨[95,105,110,100,101,120]⟩⟩
noncomputable def yR:Str:=⟨⟨[73,79,66,97,115,101]⟩⟩
noncomputable def yS:Str:=⟨⟨[84,101,120,116,73,79,66,97,115,101]⟩⟩
noncomputable def yT:Str:=⟨⟨[66,121,116,101,115,73,79]⟩⟩
noncomputable def yU:Str:=⟨⟨[83,116,114,105,110,103,73,79]⟩⟩
noncomputable def yV:Str:=⟨⟨[115,104,108,101,120]⟩⟩
noncomputable def yW:Str:=⟨⟨[115,112,108,105,116]⟩⟩
noncomputable def yX:Str:=⟨⟨[113,117,111,116,101]⟩⟩
noncomputable def yY:Str:=⟨⟨[95,108,97,119,95,119,111,114,100]⟩⟩
noncomputable def yZ:Str:=⟨⟨Hc⟩⟩
noncomputable def y3:Str:=⟨⟨Hd⟩⟩
noncomputable def y4:Str:=⟨⟨He⟩⟩
noncomputable def y5:Str:=⟨⟨[95,108,97,119,95,100,117,101]⟩⟩
noncomputable def Cx:Str:=⟨⟨[95,95,99,108,97,115,115,95,95]⟩⟩
noncomputable def Cy:Str:=⟨⟨Hf⟩⟩
noncomputable def Hs:Str:=⟨⟨[95,86,97,108,117,101,70,111,114,109,97,116,116,101,114,46,95,95,105,110,105,116,95,95]⟩⟩
noncomputable def Ht:Str:=⟨⟨[95,86,97,108,117,101,70,111,114,109,97,116,116,101,114,46,95,115,116,114]⟩⟩
noncomputable def Hu:Str:=⟨⟨[95,86,97,108,117,101,70,111,114,109,97,116,116,101,114,46,110,101,119,108,105,110,101]⟩⟩
noncomputable def Hv:Str:=⟨⟨[95,86,97,108,117,101,70,111,114,109,97,116,116,101,114,46,95,97,115,99,105,105,95,115,112,108,105,116]⟩⟩
noncomputable def Hw:Str:=⟨⟨[95,86,97,108,117,101,70,111,114,109,97,116,116,101,114,46,95,97,112,112,101,110,100,95,99,104,117,110,107]⟩⟩
noncomputable def Hx:Str:=⟨⟨[95,65,99,99,117,109,117,108,97,116,111,114,46,95,95,105,110,105,116,95,95]⟩⟩
noncomputable def Hz:Str:=⟨⟨[95,65,99,99,117,109,117,108,97,116,111,114,46,112,117,115,104]⟩⟩
noncomputable def HA:Str:=⟨⟨[95,65,99,99,117,109,117,108,97,116,111,114,46,112,111,112,95,102,114,111,109]⟩⟩
noncomputable def HB:Str:=⟨⟨[95,65,99,99,117,109,117,108,97,116,111,114,46,95,95,108,101,110,95,95]⟩⟩
noncomputable def HC:Str:=⟨⟨[95,65,99,99,117,109,117,108,97,116,111,114,46,95,95,115,116,114,95,95]⟩⟩
noncomputable def HD:Str:=⟨⟨[95,65,99,99,117,109,117,108,97,116,111,114,46,114,101,115,101,116]⟩⟩
noncomputable def HE:Str:=⟨⟨[95,65,99,99,117,109,117,108,97,116,111,114,46,105,115,95,111,110,108,121,119,115]⟩⟩
noncomputable def HF:Str:=⟨⟨[95,65,99,99,117,109,117,108,97,116,111,114,46,112,97,114,116,95,99,111,117,110,116]⟩⟩
noncomputable def HG:Str:=⟨⟨[83,116,114,105,110,103,73,79,46,95,95,116,114,97,110,115,108,97,116,101,100]⟩⟩
noncomputable def HH:Str:=⟨⟨[115,104,108,101,120,46,112,117,110,99,116,117,97,116,105,111,110,95,99,104,97,114,115]⟩⟩
noncomputable def Ob (P:aF):az:=fU [de P [95,95,110,97,109,101,95,95] 1 (.str ⟨⟨[98,117,105,108,116,105,110,115]⟩⟩ 160),de P pv 2 (.builtin "builtins.__doc__:str#opaque"),de P Hg 3 (.builtin "builtins.__package__:str#opaque"),de P [95,95,108,111,97,100,101,114,95,95] 4 (.builtin "builtins.__loader__:shared#opaque"),de P [95,95,115,112,101,99,95,95] 5 (.builtin "builtins.__spec__#opaque"),de P [95,95,98,117,105,108,100,95,99,108,97,115,115,95,95] 6 (.builtin "__build_class__"),de P [95,95,105,109,112,111,114,116,95,95] 7 (.builtin "__import__"),de P [97,98,115] 8 (.builtin "abs"),de P [97,108,108] 9 (.builtin "all"),de P [97,110,121] 10 (.builtin "any"),de P [97,115,99,105,105] 11 (.builtin "ascii"),de P [98,105,110] 12 (.builtin "bin"),de P [98,114,101,97,107,112,111,105,110,116] 13 (.builtin "breakpoint"),de P [99,97,108,108,97,98,108,101] 14 (.builtin "callable"),de P [99,104,114] 15 (.builtin "chr"),de P [99,111,109,112,105,108,101] 16 (.builtin "compile"),de P [100,101,108,97,116,116,114] 17 (.builtin "delattr"),de P [100,105,114] 18 (.builtin "dir"),de P [100,105,118,109,111,100] 19 (.builtin "divmod"),de P [101,118,97,108] 20 (.builtin "eval"),de P [101,120,101,99] 21 (.builtin "exec"),de P [102,111,114,109,97,116] 22 (.builtin "format"),de P [103,101,116,97,116,116,114] 23 (.builtin "getattr"),de P [103,108,111,98,97,108,115] 24 (.builtin "globals"),de P [104,97,115,97,116,116,114] 25 (.builtin "hasattr"),de P [104,97,115,104] 26 (.builtin "hash"),de P [104,101,120] 27 (.builtin "hex"),de P [105,100] 28 (.builtin "id"),de P [105,110,112,117,116] 29 (.builtin "input"),de P [105,115,105,110,115,116,97,110,99,101] 30 (.builtin "isinstance"),de P [105,115,115,117,98,99,108,97,115,115] 31 (.builtin "issubclass"),de P [105,116,101,114] 32 (.builtin "iter"),de P [97,105,116,101,114] 33 (.builtin "aiter"),de P [108,101,110] 34 (.builtin "len"),de P [108,111,99,97,108,115] 35 (.builtin "locals"),de P [109,97,120] 36 (.builtin "max"),de P [109,105,110] 37 (.builtin "min"),de P [110,101,120,116] 38 (.builtin "next"),de P [97,110,101,120,116] 39 (.builtin "anext"),de P [111,99,116] 40 (.builtin "oct"),de P [111,114,100] 41 (.builtin "ord"),de P [112,111,119] 42 (.builtin "pow"),de P [112,114,105,110,116] 43 (.builtin "print"),de P [114,101,112,114] 44 (.builtin "repr"),de P [114,111,117,110,100] 45 (.builtin "round"),de P [115,101,116,97,116,116,114] 46 (.builtin "setattr"),de P [115,111,114,116,101,100] 47 (.builtin "sorted"),de P [115,117,109] 48 (.builtin "sum"),de P [118,97,114,115] 49 (.builtin "vars"),de P [78,111,110,101] 50 .none,de P [69,108,108,105,112,115,105,115] 51 .ellipsis,de P [78,111,116,73,109,112,108,101,109,101,110,116,101,100] 52 .notImplemented,de P [70,97,108,115,101] 53 (.bool .false),de P [84,114,117,101] 54 (.bool .true),de P [98,111,111,108] 55 (.type "bool"),de P [109,101,109,111,114,121,118,105,101,119] 56 (.type "memoryview"),de P [98,121,116,101,97,114,114,97,121] 57 (.type "bytearray"),de P [98,121,116,101,115] 58 (.type "bytes"),de P [99,108,97,115,115,109,101,116,104,111,100] 59 (.type "classmethod"),de P [99,111,109,112,108,101,120] 60 (.type "complex"),de P [100,105,99,116] 61 (.type "dict"),de P [101,110,117,109,101,114,97,116,101] 62 (.type "enumerate"),de P [102,105,108,116,101,114] 63 (.type "filter"),de P [102,108,111,97,116] 64 (.type "float"),de P [102,114,111,122,101,110,115,101,116] 65 (.type "frozenset"),de P [112,114,111,112,101,114,116,121] 66 (.type "property"),de P [105,110,116] 67 (.type "int"),de P [108,105,115,116] 68 (.type "list"),de P [109,97,112] 69 (.type "map"),de P [111,98,106,101,99,116] 70 (.type "object"),de P [114,97,110,103,101] 71 (.type "range"),de P [114,101,118,101,114,115,101,100] 72 (.type "reversed"),de P [115,101,116] 73 (.type "set"),de P [115,108,105,99,101] 74 (.type "slice"),de P [115,116,97,116,105,99,109,101,116,104,111,100] 75 (.type "staticmethod"),de P [115,116,114] 76 (.type "str"),de P [115,117,112,101,114] 77 (.type "super"),de P [116,117,112,108,101] 78 (.type "tuple"),de P [116,121,112,101] 79 (.type "type"),de P [122,105,112] 80 (.type "zip"),de P [95,95,100,101,98,117,103,95,95] 81 (.bool .true),de P [66,97,115,101,69,120,99,101,112,116,105,111,110] 82 (.type "BaseException"),de P [66,97,115,101,69,120,99,101,112,116,105,111,110,71,114,111,117,112] 83 (.type "BaseExceptionGroup"),de P [69,120,99,101,112,116,105,111,110] 84 (.type "Exception"),de P [71,101,110,101,114,97,116,111,114,69,120,105,116] 85 (.type "GeneratorExit"),de P [75,101,121,98,111,97,114,100,73,110,116,101,114,114,117,112,116] 86 (.type "KeyboardInterrupt"),de P [83,121,115,116,101,109,69,120,105,116] 87 (.type "SystemExit"),de P [65,114,105,116,104,109,101,116,105,99,69,114,114,111,114] 88 (.type "ArithmeticError"),de P [65,115,115,101,114,116,105,111,110,69,114,114,111,114] 89 (.type "AssertionError"),de P [65,116,116,114,105,98,117,116,101,69,114,114,111,114] 90 (.type "AttributeError"),de P [66,117,102,102,101,114,69,114,114,111,114] 91 (.type "BufferError"),de P [69,79,70,69,114,114,111,114] 92 (.type "EOFError"),de P [73,109,112,111,114,116,69,114,114,111,114] 93 (.type "ImportError"),de P [76,111,111,107,117,112,69,114,114,111,114] 94 (.type "LookupError"),de P [77,101,109,111,114,121,69,114,114,111,114] 95 (.type "MemoryError"),de P [78,97,109,101,69,114,114,111,114] 96 (.type "NameError"),de P [79,83,69,114,114,111,114] 97 (.type "OSError"),de P [82,101,102,101,114,101,110,99,101,69,114,114,111,114] 98 (.type "ReferenceError"),de P [82,117,110,116,105,109,101,69,114,114,111,114] 99 (.type "RuntimeError"),de P [83,116,111,112,65,115,121,110,99,73,116,101,114,97,116,105,111,110] 100 (.type "StopAsyncIteration"),de P [83,116,111,112,73,116,101,114,97,116,105,111,110] 101 (.type "StopIteration"),de P [83,121,110,116,97,120,69,114,114,111,114] 102 (.type "SyntaxError"),de P [83,121,115,116,101,109,69,114,114,111,114] 103 (.type "SystemError"),de P [84,121,112,101,69,114,114,111,114] 104 (.type "TypeError"),de P [86,97,108,117,101,69,114,114,111,114] 105 (.type "ValueError"),de P [87,97,114,110,105,110,103] 106 (.type "Warning"),de P [70,108,111,97,116,105,110,103,80,111,105,110,116,69,114,114,111,114] 107 (.type "FloatingPointError"),de P [79,118,101,114,102,108,111,119,69,114,114,111,114] 108 (.type "OverflowError"),de P [90,101,114,111,68,105,118,105,115,105,111,110,69,114,114,111,114] 109 (.type "ZeroDivisionError"),de P [66,121,116,101,115,87,97,114,110,105,110,103] 110 (.type "BytesWarning"),de P [68,101,112,114,101,99,97,116,105,111,110,87,97,114,110,105,110,103] 111 (.type "DeprecationWarning"),de P [69,110,99,111,100,105,110,103,87,97,114,110,105,110,103] 112 (.type "EncodingWarning"),de P [70,117,116,117,114,101,87,97,114,110,105,110,103] 113 (.type "FutureWarning"),de P [73,109,112,111,114,116,87,97,114,110,105,110,103] 114 (.type "ImportWarning"),de P [80,101,110,100,105,110,103,68,101,112,114,101,99,97,116,105,111,110,87,97,114,110,105,110,103] 115 (.type "PendingDeprecationWarning"),de P [82,101,115,111,117,114,99,101,87,97,114,110,105,110,103] 116 (.type "ResourceWarning"),de P [82,117,110,116,105,109,101,87,97,114,110,105,110,103] 117 (.type "RuntimeWarning"),de P [83,121,110,116,97,120,87,97,114,110,105,110,103] 118 (.type "SyntaxWarning"),de P [85,110,105,99,111,100,101,87,97,114,110,105,110,103] 119 (.type "UnicodeWarning"),de P [85,115,101,114,87,97,114,110,105,110,103] 120 (.type "UserWarning"),de P [66,108,111,99,107,105,110,103,73,79,69,114,114,111,114] 121 (.type "BlockingIOError"),de P [67,104,105,108,100,80,114,111,99,101,115,115,69,114,114,111,114] 122 (.type "ChildProcessError"),de P [67,111,110,110,101,99,116,105,111,110,69,114,114,111,114] 123 (.type "ConnectionError"),de P [70,105,108,101,69,120,105,115,116,115,69,114,114,111,114] 124 (.type "FileExistsError"),de P [70,105,108,101,78,111,116,70,111,117,110,100,69,114,114,111,114] 125 (.type "FileNotFoundError"),de P [73,110,116,101,114,114,117,112,116,101,100,69,114,114,111,114] 126 (.type "InterruptedError"),de P [73,115,65,68,105,114,101,99,116,111,114,121,69,114,114,111,114] 127 (.type "IsADirectoryError"),de P [78,111,116,65,68,105,114,101,99,116,111,114,121,69,114,114,111,114] 128 (.type "NotADirectoryError"),de P [80,101,114,109,105,115,115,105,111,110,69,114,114,111,114] 129 (.type "PermissionError"),de P [80,114,111,99,101,115,115,76,111,111,107,117,112,69,114,114,111,114] 130 (.type "ProcessLookupError"),de P [84,105,109,101,111,117,116,69,114,114,111,114] 131 (.type "TimeoutError"),de P [73,110,100,101,110,116,97,116,105,111,110,69,114,114,111,114] 132 (.type "IndentationError"),de P [95,73,110,99,111,109,112,108,101,116,101,73,110,112,117,116,69,114,114,111,114] 133 (.type "_IncompleteInputError"),de P [73,110,100,101,120,69,114,114,111,114] 134 (.type "IndexError"),de P [75,101,121,69,114,114,111,114] 135 (.type "KeyError"),de P [77,111,100,117,108,101,78,111,116,70,111,117,110,100,69,114,114,111,114] 136 (.type "ModuleNotFoundError"),de P [78,111,116,73,109,112,108,101,109,101,110,116,101,100,69,114,114,111,114] 137 (.type "NotImplementedError"),de P [80,121,116,104,111,110,70,105,110,97,108,105,122,97,116,105,111,110,69,114,114,111,114] 138 (.type "PythonFinalizationError"),de P [82,101,99,117,114,115,105,111,110,69,114,114,111,114] 139 (.type "RecursionError"),de P [85,110,98,111,117,110,100,76,111,99,97,108,69,114,114,111,114] 140 (.type "UnboundLocalError"),de P [85,110,105,99,111,100,101,69,114,114,111,114] 141 (.type "UnicodeError"),de P [66,114,111,107,101,110,80,105,112,101,69,114,114,111,114] 142 (.type "BrokenPipeError"),de P [67,111,110,110,101,99,116,105,111,110,65,98,111,114,116,101,100,69,114,114,111,114] 143 (.type "ConnectionAbortedError"),de P [67,111,110,110,101,99,116,105,111,110,82,101,102,117,115,101,100,69,114,114,111,114] 144 (.type "ConnectionRefusedError"),de P [67,111,110,110,101,99,116,105,111,110,82,101,115,101,116,69,114,114,111,114] 145 (.type "ConnectionResetError"),de P [84,97,98,69,114,114,111,114] 146 (.type "TabError"),de P [85,110,105,99,111,100,101,68,101,99,111,100,101,69,114,114,111,114] 147 (.type "UnicodeDecodeError"),de P [85,110,105,99,111,100,101,69,110,99,111,100,101,69,114,114,111,114] 148 (.type "UnicodeEncodeError"),de P [85,110,105,99,111,100,101,84,114,97,110,115,108,97,116,101,69,114,114,111,114] 149 (.type "UnicodeTranslateError"),de P [69,120,99,101,112,116,105,111,110,71,114,111,117,112] 150 (.type "ExceptionGroup"),de P [69,110,118,105,114,111,110,109,101,110,116,69,114,114,111,114] 151 (.type "OSError"),de P [73,79,69,114,114,111,114] 152 (.type "OSError"),de P [111,112,101,110] 153 (.builtin "open"),de P [113,117,105,116] 154 (.builtin "builtins.quit#opaque"),de P [101,120,105,116] 155 (.builtin "builtins.exit#opaque"),de P [99,111,112,121,114,105,103,104,116] 156 (.builtin "builtins.copyright#opaque"),de P [99,114,101,100,105,116,115] 157 (.builtin "builtins.credits#opaque"),de P [108,105,99,101,110,115,101] 158 (.builtin "builtins.license#opaque"),de P [104,101,108,112] 159 (.builtin "builtins.help#opaque")] 159
noncomputable def Oc (P:aF):az:=⟨.none,.none,.dict ⟨[de P [105,109,112,111,114,116,46,108,111,97,100,101,100,46,95,115,114,101] 183 (.bool .true),de P [99,108,97,115,115,46,95,102,114,111,122,101,110,95,105,109,112,111,114,116,108,105,98,46,66,117,105,108,116,105,110,73,109,112,111,114,116,101,114] 185 (.ref 14),de P [119,97,116,99,104,101,100,46,105,109,112,111,114,116] 206 (.ref 18),de P [99,108,97,115,115,46,95,102,114,111,122,101,110,95,105,109,112,111,114,116,108,105,98,46,77,111,100,117,108,101,83,112,101,99] 216 (.ref 22),de P [115,121,115,46,109,111,100,117,108,101,115,46,98,111,111,107,101,100,45,101,112,111,99,104] 245 (.int 4 0),de P [105,109,112,111,114,116,46,108,97,116,101,114,45,108,97,105,100,46,95,115,114,101] 270 (.bool .true),de P [119,97,116,99,104,101,100,46,108,105,98,114,97,114,121] 272 (.ref 27),de P [119,97,116,99,104,101,100,46,108,105,98,114,97,114,121,45,111,98,106,101,99,116,115] 0 (.str ⟨⟨[12,30]⟩⟩ 0),de P [119,97,116,99,104,101,100,46,108,105,98,114,97,114,121,45,100,101,101,112,46,95,115,114,101] 273 (.str ⟨⟨[4,0,0,11,4,0,0,11,4,0,0,3,4,0,0,11,8,4,100,105,99,116,2]⟩⟩ 0),de P [105,109,112,111,114,116,46,108,111,97,100,101,100,46,95,99,111,108,108,101,99,116,105,111,110,115] 280 (.bool .true),de P [115,121,115,46,109,111,100,117,108,101,115,46,108,97,110,100,101,100,46,95,99,111,108,108,101,99,116,105,111,110,115] 294 (.bool .true),de P [105,109,112,111,114,116,46,108,97,116,101,114,45,108,97,105,100,46,95,99,111,108,108,101,99,116,105,111,110,115] 309 (.bool .true),de P [119,97,116,99,104,101,100,46,108,105,98,114,97,114,121,45,100,101,101,112,46,95,99,111,108,108,101,99,116,105,111,110,115] 311 (.str ⟨⟨[4,0,0,29,4,0,0,29,4,0,0,3,4,0,0,29,8,4,100,105,99,116,2]⟩⟩ 0),de P [116,121,112,101,46,95,95,115,117,98,99,108,97,115,115,101,115,95,95,46,79,83,69,114,114,111,114,46,48] 647 (.int 239 0),de P [116,121,112,101,46,95,95,115,117,98,99,108,97,115,115,101,115,95,95,46,79,83,69,114,114,111,114,46,110] 648 (.int 1 0)]⟩ 15,⟨[]⟩⟩
noncomputable def Od (P:aF):az:=fU [de P [95,95,110,97,109,101,95,95] 165 (.str qE 1495),de P pv 166 .none,de P Hg 167 .none,de P [95,95,108,111,97,100,101,114,95,95] 168 (.builtin "__main__.__loader__#opaque"),de P [95,95,115,112,101,99,95,95] 169 .none,de P [95,95,97,110,110,111,116,97,116,105,111,110,115,95,95] 170 (.ref 6),de P [95,95,98,117,105,108,116,105,110,115,95,95] 171 (.ref 4),de P [95,95,102,105,108,101,95,95] 173 (.str oo 172),de P [95,95,99,97,99,104,101,100,95,95] 174 .none,de P [95,115,114,101] 275 (.ref 12),de P [100,101,113,117,101] 317 (.type "collections.deque"),de P [95,119,97,108,108] 330 (.ref 44),de P [116,119,105,110,95,114,101,95,49,95,104,101,97,100,101,114] 360 (.ref 49),de P [78,76] 362 (.str ⟨⟨[10]⟩⟩ 361),de P [69,77,80,84,89,83,84,82,73,78,71] 364 (.str ⟨⟨[]⟩⟩ 363),de P Ha 474 (.ref 122),de P Hb 570 (.ref 206),de P [116,119,105,110,95,114,101,95,49,95,115,104,108,101,120] 610 (.ref 215),de P [95,119,104,101,110,99,101] 620 (.ref 222),de P [95,105,110,100,101,120] 628 (.ref 229),de P [85,110,115,117,112,112,111,114,116,101,100,79,112,101,114,97,116,105,111,110] 650 (.ref 239),de P [73,79,66,97,115,101] 682 (.ref 259),de P [66,117,102,102,101,114,101,100,73,79,66,97,115,101] 700 (.ref 274),de P [84,101,120,116,73,79,66,97,115,101] 718 (.ref 286),de P [66,121,116,101,115,73,79] 980 (.ref 516),de P [83,116,114,105,110,103,73,79] 1267 (.ref 763),de P [95,107,105,110,100] 1278 (.ref 772),de P [95,102,115,112,97,116,104] 1287 (.ref 779),de P [95,99,104,101,99,107,95,97,114,103,95,116,121,112,101,115] 1297 (.ref 786),de P [105,115,97,98,115] 1304 (.ref 793),de P vC 1315 (.ref 917),de P [106,111,105,110,95,112,97,116,104] 1316 (.ref 800),de P [100,105,114,110,97,109,101] 1326 (.ref 807),de P [115,104,108,101,120] 1467 (.ref 898),de P [115,112,108,105,116] 1477 (.ref 910),de P [106,111,105,110,95,115,104,108,101,120] 1485 (.ref 917),de P [95,102,105,110,100,95,117,110,115,97,102,101] 1487 (.ref 918),de P [113,117,111,116,101] 1494 (.ref 925),de P [95,108,97,119,95,119,111,114,100] 1505 (.ref 932),de P Hc 1511 (.ref 937),de P Hd 1521 (.ref 944),de P He 1527 (.ref 949),de P [95,108,97,119,95,100,117,101] 1540 (.ref 956),de P vD 1546 (.ref 961)] 44
noncomputable def Oe:az:=⟨.type "module",.some 0,.plain,⟨[]⟩⟩
noncomputable def Of:az:=⟨.type "tuple",.none,.seq ⟨[.int 14 0,.int 4 0,.int 0 0,.int 1 0,.int 4294967295 0,.int 17 0,.int 0 0,.int 24 0,.int 11 0,.int 1 0,.int 4294967295 0,.int 13 0,.int 6 0,.int 16 0,.int 32 0,.int 16 0,.int 9 0,.int 0 0,.int 1 0,.int 17 0,.int 1 0,.int 1 0]⟩ 0,⟨[]⟩⟩
noncomputable def Og:az:=⟨.type "re.Pattern",.none,.fields ⟨[.str ⟨⟨[40,91,32,9,93,43,41]⟩⟩ 334,.int 32 359,.int 1 0,.none,.none,.ref 48,.int 0 0]⟩,⟨[]⟩⟩
noncomputable def Oh:az:=er px Hs 377 12 5 0 0 3 57 318 385
noncomputable def Oi:az:=dH (dG (mS 7 0) px Hs 3 [] .none .none .none (.str jn 331) .none (.ref 62) .none)
noncomputable def Oj:az:=er ⟨⟨[95,115,116,114]⟩⟩ Ht 388 20 2 0 0 3 64 318 393
noncomputable def Ol:az:=dH (dG (mS 7 1) ⟨⟨[95,115,116,114]⟩⟩ Ht 3 [] .none .none .none (.str jn 331) .none (.ref 69) .none)
noncomputable def Om:az:=er ⟨⟨Ck⟩⟩ Hu 403 27 1 0 0 3 78 318 408
noncomputable def On:az:=dH (dG (mS 7 3) ⟨⟨Ck⟩⟩ Hu 3 [] .none .none .none (.str jn 331) .none (.ref 83) .none)
noncomputable def Oo:az:=er ⟨⟨Cm⟩⟩ Hv 435 47 4 0 0 3 106 318 444
noncomputable def Oq:az:=dH (dG (mS 7 7) ⟨⟨Cm⟩⟩ Hv 3 [] .none .none .none (.str jn 331) .none (.ref 111) .none)
noncomputable def Os:az:=er ⟨⟨Cn⟩⟩ Hw 447 56 3 0 0 3 113 318 458
noncomputable def Ot:az:=dH (dG (mS 7 8) ⟨⟨Cn⟩⟩ Hw 3 [] .none .none .none (.str jn 331) .none (.ref 118) .none)
noncomputable def Ou (P:aF):az:=fU [de P sD 372 (.str jn 331),de P sE 376 (.int 10 375),de P vB 387 (.ref 63),de P [95,115,116,114] 395 (.ref 70),de P yI 402 (.ref 77),de P Ck 410 (.ref 84),de P [97,100,100,95,116,114,97,110,115,105,116,105,111,110] 417 (.ref 91),de P [102,101,101,100] 427 (.ref 98),de P [95,109,97,120,108,101,110,103,116,104,115] 434 (.ref 105),de P Cm 446 (.ref 112),de P Cn 460 (.ref 119),de P sF 467 (.ref 120),de P yJ 469 (.ref 123),de P yK 471 (.ref 124),de P pv 472 .none] 4
noncomputable def Ov:az:=⟨.type "type",.none,.cls ⟨yO,[.type "object"],[.ref 122,.type "object"],121,yO,.true,[],[],.false,.none,.false⟩,⟨[.none,.none,.some (.str yO 365),.some (.str yO 373),.some (.builtin "object.__new__"),.some (.bool .true)]⟩⟩
noncomputable def Ow:az:=⟨.type "cell",.none,.cell (.some (.ref 206)),⟨[]⟩⟩
noncomputable def Ox:az:=⟨.type "tuple",.none,.seq ⟨[.int 0 487]⟩ 0,⟨[]⟩⟩
noncomputable def Oy:az:=er px Hx 488 84 2 0 0 3 137 318 494
noncomputable def Oz:az:=dH (dG (mS 8 0) px Hx 3 [⟨Cx,130⟩] (.ref 135) .none .none (.str jn 331) .none (.ref 142) (.ref 136))
noncomputable def OA:az:=er ⟨⟨[112,117,115,104]⟩⟩ Hz 497 88 3 0 0 3 144 318 503
noncomputable def OC:az:=dH (dG (mS 8 1) ⟨⟨[112,117,115,104]⟩⟩ Hz 3 [] .none .none .none (.str jn 331) .none (.ref 149) .none)
noncomputable def OD:az:=⟨.type "tuple",.none,.seq ⟨[.int 0 506]⟩ 0,⟨[]⟩⟩
noncomputable def OE:az:=er ⟨⟨Co⟩⟩ HA 507 91 2 0 0 3 152 318 513
noncomputable def OF:az:=dH (dG (mS 8 2) ⟨⟨Co⟩⟩ HA 3 [] (.ref 151) .none .none (.str jn 331) .none (.ref 157) .none)
noncomputable def OG:az:=er ⟨⟨[112,111,112]⟩⟩ ⟨⟨Hh⟩⟩ 516 96 1 0 0 3 160 318 521
noncomputable def OH:az:=dH (dG (mS 8 3) ⟨⟨[112,111,112]⟩⟩ ⟨⟨Hh⟩⟩ 3 [⟨Cx,130⟩] .none .none .none (.str jn 331) .none (.ref 165) (.ref 159))
noncomputable def HI:az:=er ⟨⟨Cp⟩⟩ HB 524 101 1 0 0 3 167 318 528
noncomputable def OI:az:=dH (dG (mS 8 4) ⟨⟨Cp⟩⟩ HB 3 [] .none .none .none (.str jn 331) .none (.ref 172) .none)
noncomputable def HJ:az:=er ⟨⟨yI⟩⟩ HC 531 104 1 0 0 3 174 318 535
noncomputable def OJ:az:=dH (dG (mS 8 5) ⟨⟨yI⟩⟩ HC 3 [] .none .none .none (.str jn 331) .none (.ref 179) .none)
noncomputable def OK:az:=⟨.type "tuple",.none,.seq ⟨[.none]⟩ 0,⟨[]⟩⟩
noncomputable def OL:az:=er ⟨⟨Cr⟩⟩ HD 538 107 2 0 0 3 182 318 543
noncomputable def OM:az:=dH (dG (mS 8 6) ⟨⟨Cr⟩⟩ HD 3 [] (.ref 181) .none .none (.str jn 331) .none (.ref 187) .none)
noncomputable def ON:az:=er ⟨⟨Cs⟩⟩ HE 546 113 1 0 0 3 189 318 550
noncomputable def OO:az:=dH (dG (mS 8 7) ⟨⟨Cs⟩⟩ HE 3 [] .none .none .none (.str jn 331) .none (.ref 194) .none)
noncomputable def OP:az:=er ⟨⟨Ct⟩⟩ HF 553 116 1 0 0 3 197 318 558
noncomputable def OQ:az:=dH (dG (mS 8 8) ⟨⟨Ct⟩⟩ HF 3 [⟨Cx,130⟩] .none .none .none (.str jn 331) .none (.ref 202) (.ref 196))
noncomputable def OR (P:aF):az:=fU [de P sD 482 (.str jn 331),de P sE 486 (.int 82 485),de P vB 496 (.ref 143),de P [112,117,115,104] 505 (.ref 150),de P Co 515 (.ref 158),de P [112,111,112] 523 (.ref 166),de P Cp 530 (.ref 173),de P yI 537 (.ref 180),de P Cr 545 (.ref 188),de P Cs 552 (.ref 195),de P Ct 560 (.ref 203),de P sF 562 (.ref 204),de P yJ 565 (.ref 207),de P yK 567 (.ref 208),de P pv 568 .none] 5
noncomputable def OS:az:=⟨.type "type",.none,.cls ⟨yP,[.type "list"],[.ref 206,.type "list",.type "object"],205,yP,.true,[],[],.false,.none,.false⟩,⟨[.some (.ref 127),.none,.some (.str yP 475),.some (.str yP 483),.some (.builtin "list.__new__"),.some (.bool .true)]⟩⟩
noncomputable def OT:az:=⟨.type "tuple",.none,.seq ⟨[.int 14 0,.int 17 0,.int 4 0,.int 1 0,.int 1 0,.int 21 0,.int 9 0,.int 0 0,.int 604043296 0,.int 1 0,.int 0 0,.int 0 0,.int 0 0,.int 0 0,.int 0 0,.int 8 0,.int 4 0,.int 0 0,.int 13 0,.int 14 0,.int 21 0,.int 9 0,.int 0 0,.int 604043296 0,.int 1 0,.int 0 0,.int 0 0,.int 0 0,.int 0 0,.int 0 0,.int 8 0,.int 4 0,.int 0 0,.int 1 0]⟩ 0,⟨[]⟩⟩
noncomputable def OU:az:=⟨.type "re.Pattern",.none,.fields ⟨[.str ⟨⟨[91,94,92,119,64,37,43,61,58,44,46,47,45,93]⟩⟩ 572,.int 256 609,.int 0 0,.none,.none,.ref 214,.int 0 0]⟩,⟨[]⟩⟩
noncomputable def OV:az:=er yQ yQ 621 125 2 0 0 3 223 318 626
noncomputable def OW:az:=dH (dG (tS 12) yQ yQ 3 [] .none .none .none (.str py 611) .none (.ref 228) .none)
noncomputable def OX:az:=er ⟨⟨Cu⟩⟩ ⟨⟨Hi⟩⟩ 665 137 1 1 0 15 250 318 671
noncomputable def OY:az:=dH (dG (mS 14 1) ⟨⟨Cu⟩⟩ ⟨⟨Hi⟩⟩ 3 [] .none .none .none (.str py 611) .none (.ref 255) .none)
noncomputable def OZ (P:aF):az:=fU [de P sD 658 (.str py 663),de P sE 662 (.int 134 661),de P Cu 673 (.ref 260),de P sF 674 (.ref 257),de P yJ 677 (.ref 261),de P yK 679 (.ref 262),de P pv 680 .none] 4
noncomputable def O0:az:=⟨.type "type",.none,.cls ⟨yR,[.type "object"],[.ref 259,.type "object"],258,yR,.true,[],[.ref 274,.ref 286],.false,.none,.false⟩,⟨[.none,.none,.some (.str yR 651),.some (.str yR 659),.some .none,.some (.bool .true)]⟩⟩
noncomputable def O1:az:=⟨.type "staticmethod",.none,.fields ⟨[.ref 256]⟩,⟨[]⟩⟩
noncomputable def O2 (P:aF):az:=fU [de P sD 708 (.str py 713),de P sE 712 (.int 143 711),de P sF 715 (.ref 284),de P pv 716 .none] 2
noncomputable def O3:az:=⟨.type "type",.none,.cls ⟨yS,[.ref 259],[.ref 286,.ref 259,.type "object"],285,yS,.true,[],[.ref 763],.false,.none,.false⟩,⟨[.some (.ref 277),.none,.some (.str yS 701),.some (.str yS 709),.some .none,.some (.bool .true)]⟩⟩
noncomputable def O4:az:=⟨.type "type",.none,.cls ⟨yT,[.ref 274],[.ref 516,.ref 274,.ref 259,.type "object"],515,yT,.true,[],[],.false,.none,.false⟩,⟨[.some (.ref 289),.none,.some (.str yT 719),.some (.str yT 727),.some .none,.some (.bool .true)]⟩⟩
noncomputable def O5:az:=⟨.type "tuple",.none,.seq ⟨[.str ⟨⟨[]⟩⟩ 995,.str ⟨⟨[10]⟩⟩ 996]⟩ 0,⟨[]⟩⟩
noncomputable def O6:az:=er px ⟨⟨Hj⟩⟩ 997 318 3 0 0 3 527 318 1003
noncomputable def O7:az:=dH (dG (mS 18 1) px ⟨⟨Hj⟩⟩ 3 [] (.ref 526) .none .none (.str py 611) .none (.ref 532) .none)
noncomputable def O8:az:=er ⟨⟨Hk⟩⟩ HG 1006 331 2 0 0 3 534 318 1012
noncomputable def O9:az:=dH (dG (mS 18 2) ⟨⟨Hk⟩⟩ HG 3 [] .none .none .none (.str py 611) .none (.ref 539) .none)
noncomputable def Pa:az:=er ⟨⟨[95,95,99,104,101,99,107]⟩⟩ ⟨⟨Hl⟩⟩ 1015 339 1 0 0 3 541 318 1019
noncomputable def Pb:az:=dH (dG (mS 18 3) ⟨⟨[95,95,99,104,101,99,107]⟩⟩ ⟨⟨Hl⟩⟩ 3 [] .none .none .none (.str py 611) .none (.ref 546) .none)
noncomputable def Pc:az:=⟨.type "tuple",.none,.seq ⟨[.int (.negSucc 0) 1188]⟩ 0,⟨[]⟩⟩
noncomputable def Pd:az:=er ⟨⟨[114,101,97,100]⟩⟩ ⟨⟨Hm⟩⟩ 1189 461 2 2 0 3 703 318 1196
noncomputable def Pe:az:=dH (dG (mS 18 25) ⟨⟨[114,101,97,100]⟩⟩ ⟨⟨Hm⟩⟩ 3 [] (.ref 702) .none .none (.str py 611) .none (.ref 708) .none)
noncomputable def Pf (P:aF):az:=fU [de P sD 988 (.str ⟨⟨[95,105,111]⟩⟩ 993),de P sE 992 (.int 315 991),de P vB 1005 (.ref 533),de P [95,83,116,114,105,110,103,73,79,95,95,116,114,97,110,115,108,97,116,101,100] 1014 (.ref 540),de P [95,83,116,114,105,110,103,73,79,95,95,99,104,101,99,107] 1021 (.ref 547),de P [95,83,116,114,105,110,103,73,79,95,95,99,104,101,99,107,95,100,111,116] 1028 (.ref 554),de P [95,83,116,114,105,110,103,73,79,95,95,108,105,110,101] 1043 (.ref 561),de P [99,108,111,115,101,100] 1051 (.ref 569),de P [108,105,110,101,95,98,117,102,102,101,114,105,110,103] 1059 (.ref 577),de P [110,101,119,108,105,110,101,115] 1067 (.ref 585),de P [101,110,99,111,100,105,110,103] 1075 (.ref 593),de P [101,114,114,111,114,115] 1083 (.ref 601),de P [99,108,111,115,101] 1090 (.ref 608),de P [95,95,101,110,116,101,114,95,95] 1097 (.ref 615),de P [95,95,101,120,105,116,95,95] 1105 (.ref 622),de P [114,101,97,100,97,98,108,101] 1112 (.ref 629),de P [119,114,105,116,97,98,108,101] 1119 (.ref 636),de P [115,101,101,107,97,98,108,101] 1126 (.ref 643),de P [105,115,97,116,116,121] 1133 (.ref 650),de P [102,108,117,115,104] 1140 (.ref 657),de P [102,105,108,101,110,111] 1147 (.ref 664),de P [100,101,116,97,99,104] 1154 (.ref 671),de P [103,101,116,118,97,108,117,101] 1161 (.ref 678),de P [116,101,108,108] 1168 (.ref 685),de P [115,101,101,107] 1178 (.ref 693),de P [116,114,117,110,99,97,116,101] 1186 (.ref 701),de P [114,101,97,100] 1198 (.ref 709),de P [114,101,97,100,108,105,110,101] 1208 (.ref 717),de P [114,101,97,100,108,105,110,101,115] 1218 (.ref 725),de P yL 1225 (.ref 732),de P yM 1233 (.ref 739),de P [119,114,105,116,101] 1245 (.ref 746),de P [119,114,105,116,101,108,105,110,101,115] 1253 (.ref 753),de P [95,95,114,101,112,114,95,95] 1260 (.ref 760),de P sF 1264 (.ref 761),de P pv 1265 .none] 2
noncomputable def Pg:az:=⟨.type "type",.none,.cls ⟨yU,[.ref 286],[.ref 763,.ref 286,.ref 259,.type "object"],762,yU,.true,[],[],.false,.none,.false⟩,⟨[.some (.ref 519),.none,.some (.str yU 981),.some (.str yU 989),.some .none,.some (.bool .true)]⟩⟩
noncomputable def Ph:az:=⟨.type "tuple",.none,.seq ⟨[.none,.none,.bool .false,.bool .false]⟩ 0,⟨[]⟩⟩
noncomputable def Pi:az:=er px ⟨⟨Hn⟩⟩ 1341 587 5 0 0 3 816 318 1350
noncomputable def Pj:az:=dH (dG (mS 28 0) px ⟨⟨Hn⟩⟩ 3 [] (.ref 815) .none .none (.str nj 1327) .none (.ref 821) .none)
noncomputable def Pk:az:=er Cy HH 1353 628 1 0 0 3 823 318 1357
noncomputable def Pl:az:=dH (dG (mS 28 1) Cy HH 3 [] .none .none .none (.str nj 1327) .none (.ref 828) .none)
noncomputable def Pm:az:=⟨.type "property",.none,.fields ⟨[.ref 829,.none,.none,.none,.str Cy 1360,.bool .false]⟩,⟨[]⟩⟩
noncomputable def Pn:az:=er ⟨⟨Cv⟩⟩ ⟨⟨Ho⟩⟩ 1385 655 1 0 0 3 853 318 1394
noncomputable def Po:az:=dH (dG (mS 28 5) ⟨⟨Cv⟩⟩ ⟨⟨Ho⟩⟩ 3 [] .none .none .none (.str nj 1327) .none (.ref 858) .none)
noncomputable def Pp:az:=er ⟨⟨Cw⟩⟩ ⟨⟨Hp⟩⟩ 1397 682 1 0 0 3 860 318 1405
noncomputable def Pq:az:=dH (dG (mS 28 6) ⟨⟨Cw⟩⟩ ⟨⟨Hp⟩⟩ 3 [] .none .none .none (.str nj 1327) .none (.ref 865) .none)
noncomputable def Pr:az:=er ⟨⟨yL⟩⟩ ⟨⟨Hq⟩⟩ 1425 829 1 0 0 3 882 318 1429
noncomputable def Ps:az:=dH (dG (mS 28 9) ⟨⟨yL⟩⟩ ⟨⟨Hq⟩⟩ 3 [] .none .none .none (.str nj 1327) .none (.ref 887) .none)
noncomputable def Pt:az:=er ⟨⟨yM⟩⟩ ⟨⟨Hr⟩⟩ 1432 832 1 0 0 3 889 318 1437
noncomputable def Pu:az:=dH (dG (mS 28 10) ⟨⟨yM⟩⟩ ⟨⟨Hr⟩⟩ 3 [] .none .none .none (.str nj 1327) .none (.ref 894) .none)
noncomputable def Pv (P:aF):az:=fU [de P sD 1336 (.str nj 1327),de P sE 1340 (.int 585 1339),de P vB 1352 (.ref 822),de P Hf 1360 (.ref 830),de P [112,117,115,104,95,116,111,107,101,110] 1368 (.ref 837),de P [112,117,115,104,95,115,111,117,114,99,101] 1377 (.ref 845),de P [112,111,112,95,115,111,117,114,99,101] 1384 (.ref 852),de P Cv 1396 (.ref 859),de P Cw 1407 (.ref 866),de P [115,111,117,114,99,101,104,111,111,107] 1415 (.ref 873),de P [101,114,114,111,114,95,108,101,97,100,101,114] 1424 (.ref 881),de P yL 1431 (.ref 888),de P yM 1439 (.ref 895),de P sF 1460 (.ref 896),de P yJ 1462 (.ref 899),de P yK 1464 (.ref 900),de P pv 1465 .none] 4
noncomputable def Pw:az:=⟨.type "type",.none,.cls ⟨yV,[.type "object"],[.ref 898,.type "object"],897,yV,.true,[],[],.false,.none,.false⟩,⟨[.none,.none,.some (.str yV 1329),.some (.str yV 1337),.some (.builtin "object.__new__"),.some (.bool .true)]⟩⟩
noncomputable def Py:az:=⟨.type "tuple",.none,.seq ⟨[.bool .false,.bool .true]⟩ 0,⟨[]⟩⟩
noncomputable def Pz:az:=er yW yW 1468 837 3 0 0 3 904 318 1475
noncomputable def PA:az:=dH (dG (tS 29) yW yW 3 [] (.ref 903) .none .none (.str nj 1327) .none (.ref 909) .none)
noncomputable def HK:az:=er ⟨⟨vC⟩⟩ ⟨⟨vC⟩⟩ 1478 845 1 0 0 3 911 318 1482
noncomputable def PC:az:=dH (dG (tS 30) ⟨⟨vC⟩⟩ ⟨⟨vC⟩⟩ 3 [] .none .none .none (.str nj 1327) .none (.ref 916) .none)
noncomputable def PD:az:=⟨.type "builtin_function_or_method",.none,.fields ⟨[.builtin "re.Pattern.search",.ref 215]⟩,⟨[]⟩⟩
noncomputable def PE:az:=er yX yX 1488 849 1 0 0 3 919 318 1492
noncomputable def PF:az:=dH (dG (tS 33) yX yX 3 [] .none .none .none (.str nj 1327) .none (.ref 924) .none)
noncomputable def PG:az:=er yY yY 1497 856 1 0 0 3 926 318 1503
noncomputable def PH:az:=dH (dG (tS 35) yY yY 3 [] .none .none .none (.str qE 1495) .none (.ref 931) .none)
noncomputable def PI:az:=yN [.str yZ 1506,.str yZ 1507,.str oo 1508,.int 863 0,.int 1 0,.int 0 0,.int 0 0,.int 3 0,.ref 933,.bool .true,.int 318 0,.ref 934,.none,.none,.none,.ref 935,.int 1509 0,.int 863 0,.str oo 1510]
noncomputable def PJ:az:=dH (dG (tS 36) yZ yZ 3 [] .none .none .none (.str qE 1495) .none (.ref 936) .none)
noncomputable def PK:az:=er y3 y3 1512 876 1 0 0 3 938 318 1519
noncomputable def PM:az:=dH (dG (tS 37) y3 y3 3 [] .none .none .none (.str qE 1495) .none (.ref 943) .none)
noncomputable def PN:az:=yN [.str y4 1522,.str y4 1523,.str oo 1524,.int 884 0,.int 4 0,.int 0 0,.int 0 0,.int 3 0,.ref 945,.bool .true,.int 318 0,.ref 946,.none,.none,.none,.ref 947,.int 1525 0,.int 884 0,.str oo 1526]
noncomputable def PO:az:=dH (dG (tS 38) y4 y4 3 [] .none .none .none (.str qE 1495) .none (.ref 948) .none)
noncomputable def PP:az:=er y5 y5 1528 900 2 0 0 3 950 318 1538
noncomputable def PQ:az:=dH (dG (tS 39) y5 y5 3 [] .none .none .none (.str qE 1495) .none (.ref 955) .none)
noncomputable def PR:az:=yN [.str ⟨⟨vD⟩⟩ 1541,.str ⟨⟨vD⟩⟩ 1542,.str oo 1543,.int 910 0,.int 1 0,.int 0 0,.int 0 0,.int 3 0,.ref 957,.bool .true,.int 318 0,.ref 958,.none,.none,.none,.ref 959,.int 1544 0,.int 910 0,.str oo 1545]
noncomputable def PS:az:=dH (dG (tS 40) ⟨⟨vD⟩⟩ ⟨⟨vD⟩⟩ 3 [] .none .none .none (.str qE 1495) .none (.ref 960) .none)
noncomputable def kn (o:Option az)(l r:KT):KT:= .node o l r
noncomputable def oq (P:aF):KT:=kn (some (Ob P)) (kn none (kn (some (Od P)) (kn none (kn none (kn none (kn (some Oi) (kn none (kn (some OX) .nil .nil) (kn none .nil (kn (some Pu) .nil .nil))) .nil) .nil) (kn none (kn none (kn (some Oz) .nil .nil) .nil) (kn (some Oo) (kn none (kn none .nil (kn (some Ph) .nil .nil)) (kn none .nil (kn (some PK) .nil .nil))) .nil))) (kn none (kn none (kn none (kn (some Ox) .nil (kn none .nil (kn (some Py) .nil .nil))) .nil) .nil) (kn none (kn none (kn (some OD) .nil .nil) (kn (some OU) .nil .nil)) (kn (some Ot) .nil (kn none (kn none .nil (kn (some Pr) .nil .nil)) .nil))))) (kn none (kn none (kn none (kn none (kn none (kn (some O0) .nil .nil) .nil) (kn (some OO) .nil .nil)) (kn none (kn none (kn none (kn (some Pb) .nil .nil) .nil) (kn none .nil (kn (some PG) .nil .nil))) .nil)) (kn none (kn (some Om) .nil .nil) (kn none (kn (some HJ) .nil .nil) .nil))) (kn none (kn none (kn none .nil (kn (some OQ) .nil .nil)) .nil) (kn none (kn none (kn none (kn none (kn (some O8) .nil .nil) .nil) .nil) (kn none (kn none .nil (kn (some Po) .nil .nil)) .nil)) (kn none (kn (some OL) .nil (kn none .nil (kn (some PP) .nil .nil))) (kn none .nil (kn none (kn (some Pg) .nil .nil) .nil))))))) (kn none (kn none (kn none (kn none (kn none (kn none .nil (kn none .nil (kn (some (Pv P)) .nil .nil))) (kn none .nil (kn none .nil (kn (some PS) .nil .nil)))) (kn none .nil (kn none (kn none .nil (kn (some Pp) .nil .nil)) .nil))) (kn (some Og) .nil .nil)) (kn none (kn none .nil (kn none (kn none .nil (kn none .nil (kn (some PJ) .nil .nil))) .nil)) (kn none .nil (kn (some (Ou P)) .nil .nil)))) (kn none (kn none (kn none (kn (some Oj) .nil (kn none .nil (kn none (kn (some Pe) .nil .nil) .nil))) (kn none (kn (some OG) .nil .nil) (kn (some OW) .nil .nil))) (kn none (kn none (kn (some OA) (kn none (kn (some O7) .nil .nil) .nil) (kn none .nil (kn (some PC) .nil .nil))) .nil) (kn none (kn (some OK) (kn none .nil (kn (some Pi) .nil .nil)) (kn none .nil (kn (some PO) .nil .nil))) .nil))) (kn none (kn none (kn none (kn none .nil (kn none .nil (kn (some Pz) .nil .nil))) (kn (some (OR P)) .nil .nil)) (kn none (kn (some OI) .nil .nil) .nil)) (kn none (kn none (kn (some OE) (kn (some (O2 P)) .nil .nil) (kn none .nil (kn (some PF) .nil .nil))) .nil) (kn none (kn none (kn none .nil (kn (some Pl) .nil .nil)) .nil) .nil)))))) (kn (some (Oc P)) (kn (some Oe) (kn none (kn none (kn none (kn none (kn none (kn (some OY) .nil .nil) .nil) (kn none .nil (kn none .nil (kn (some PR) .nil .nil)))) .nil) (kn (some Of) .nil (kn (some Oq) (kn none .nil (kn none .nil (kn (some PM) .nil .nil))) .nil))) (kn none (kn none .nil (kn none (kn none .nil (kn none .nil (kn (some PI) .nil .nil))) .nil)) (kn none .nil (kn none .nil (kn none (kn none .nil (kn (some Ps) .nil .nil)) .nil))))) (kn none (kn none (kn none (kn none (kn none (kn (some O1) (kn (some O4) .nil .nil) .nil) .nil) (kn none .nil (kn none (kn (some Pd) .nil .nil) .nil))) (kn none (kn none .nil (kn none .nil (kn (some PH) .nil .nil))) (kn (some OV) .nil .nil))) (kn none (kn (some On) (kn none (kn none (kn (some O6) .nil .nil) .nil) (kn none .nil (kn (some HK) .nil .nil))) .nil) (kn none (kn (some OJ) .nil (kn none .nil (kn (some PN) .nil .nil))) .nil))) (kn none (kn none .nil (kn none (kn (some HI) .nil .nil) .nil)) (kn none (kn none (kn none (kn none (kn (some O9) .nil .nil) .nil) (kn none .nil (kn (some PE) .nil .nil))) .nil) (kn none (kn (some OM) (kn none .nil (kn (some Pk) .nil .nil)) (kn none .nil (kn (some PQ) .nil .nil))) .nil))))) (kn none (kn none (kn none (kn none (kn none (kn (some Ow) (kn (some (OZ P)) .nil .nil) (kn none .nil (kn (some Pw) .nil .nil))) (kn (some ON) .nil .nil)) (kn none (kn none (kn none (kn (some Pa) .nil .nil) .nil) .nil) (kn none (kn none .nil (kn (some Pq) .nil .nil)) .nil))) .nil) (kn none (kn none (kn none .nil (kn (some OP) .nil .nil)) .nil) (kn none (kn none .nil (kn none (kn none .nil (kn (some Pn) .nil .nil)) .nil)) (kn (some Ov) .nil (kn none .nil (kn none (kn (some (Pf P)) .nil .nil) .nil)))))) (kn none (kn none (kn none (kn (some Ol) .nil .nil) (kn none (kn (some OH) .nil .nil) .nil)) (kn none (kn none (kn (some OC) .nil (kn none .nil (kn (some PD) .nil .nil))) (kn (some OT) .nil .nil)) (kn (some Os) (kn none (kn none .nil (kn (some Pj) .nil .nil)) .nil) .nil))) (kn none (kn none (kn none (kn (some Oy) (kn none (kn (some O5) .nil .nil) .nil) (kn none .nil (kn (some PA) .nil .nil))) (kn (some OS) .nil .nil)) .nil) (kn (some Oh) (kn none (kn (some OF) (kn (some O3) .nil .nil) .nil) .nil) (kn none (kn none (kn none .nil (kn (some Pm) .nil .nil)) (kn none (kn (some Pc) .nil .nil) .nil)) (kn none (kn none .nil (kn (some Pt) .nil .nil)) .nil)))))))
noncomputable def fO:az:={cls:= .none,data:= .fields ⟨[]⟩}
end
section
open PySem PySem.W PySem.W.X
noncomputable def aA:bL->SF:=PySem.W.Fast.tw11892475500146522536 PySem.W.Fast.tw14364793385576792824
theorem or:denote table=aA:=by
 delta aA
 rw [<-PySem.W.Fast.te11892475500146522536,<-PySem.W.Fast.te14364793385576792824,table_eq_tree]
structure WB where
 w:f8
 b1:Bool
 b2:Bool
noncomputable def Cz (w:WB):f8:=
 {w.w with params:={w.w.params with followText:=λr=>match pb r "comprehension-iter-twice" with
  |true=>w.b1
  |false=>match pb r "special-get-raises" with
   |true=>w.b2
   |false=>w.w.params.followText r}}
noncomputable def WB.P (w:WB):aF:=(Cz w).params
noncomputable def VV (w:WB):EV:=⟨PySem.Challenge.pw_mr0375_01,Cz w,oq w.P⟩
noncomputable abbrev aE {X:Type}(w:WB):=ax (X:=X) (VV w)
noncomputable abbrev nl (w:WB):=gI (VV w)
noncomputable abbrev aP (w:WB):=cW (VV w)
noncomputable abbrev fw (w:WB):=aK (VV w)
noncomputable abbrev aM (w:WB):=vm (VV w)
theorem aT (w:WB):(VV w).M.den=aA:=or
section
variable {X:Type}{w:WB}{Γ:WB->bd}{p p':WB->aw}{t:WB->Sem X}{C C':WB->aC}{r:WB->Res X}{Hy:WB->Prop}
noncomputable def sG (Γ:WB->bd)(p:WB->aw)(t:WB->Sem X)(C:WB->aC)(ak:Nat)(os:∀w,Hy w->List (aM w))(fs ts gs:d)(w:WB)(h:Hy w):Option (Res X×aw×aC×List CV):=
 yf fs ts gs (di aA (VV w) (fN aA (VV w) 300) 9000 (Γ w) (p w) (t w) (St.of (VV w) (C w) ak (os w h)))
noncomputable def sH (Γ:WB->bd)(p:WB->aw)(t:WB->Sem X)(C:WB->aC)(ak:Nat)(os:∀w,Hy w->List (aM w))(r:WB->Res X)(p':WB->aw)(C':WB->aC)(w:WB)(h:Hy w):Option (Res X×aw×aC×List CV):=
 some (r w,p' w,C' w,yg (di aA (VV w) (fN aA (VV w) 300) 9000 (Γ w) (p w) (t w) (St.of (VV w) (C w) ak (os w h))))
abbrev y6 (Hy:WB->Prop)(T:Type):Type:=(∀w b,Hy ⟨w,b,false⟩->T)×(∀w b,Hy ⟨w,b,true⟩->T)
abbrev y7 (Hy:WB->Prop)(T:Type):Type:=(∀w,Hy ⟨w,false,false⟩->T)×(∀w,Hy ⟨w,false,true⟩->T)×(∀w,Hy ⟨w,true,false⟩->T)×(∀w,Hy ⟨w,true,true⟩->T)
noncomputable def L4 (Γ:WB->bd)(p:WB->aw)(t:WB->Sem X)(C:WB->aC)(ak H':Nat)(os:∀w,Hy w->List (aM w))(fs ts gs:d):y7 Hy (Option (Res X×aw×aC×List CV)):=
 (λw h=>sG Γ p t C ak os fs ts gs ⟨w,false,false⟩ h,λw h=>sG Γ p t C ak os fs ts gs ⟨w,false,true⟩ h,λw h=>sG Γ p t C H' os fs ts gs ⟨w,true,false⟩ h,λw h=>sG Γ p t C H' os fs ts gs ⟨w,true,true⟩ h)
noncomputable def R4 (Γ:WB->bd)(p:WB->aw)(t:WB->Sem X)(C:WB->aC)(ak H':Nat)(os:∀w,Hy w->List (aM w))(r:WB->Res X)(p':WB->aw)(C':WB->aC):y7 Hy (Option (Res X×aw×aC×List CV)):=
 (λw h=>sH Γ p t C ak os r p' C' ⟨w,false,false⟩ h,λw h=>sH Γ p t C ak os r p' C' ⟨w,false,true⟩ h,λw h=>sH Γ p t C H' os r p' C' ⟨w,true,false⟩ h,λw h=>sH Γ p t C H' os r p' C' ⟨w,true,true⟩ h)
theorem y8 (hy:Hy w)(ak H':Nat)(os:∀w,Hy w->List (aM w))(fs ts gs:d)(h:L4 Γ p t C ak H' os fs ts gs=R4 Γ p t C ak H' os r p' C'):aE w (Γ w) (p w) (t w) (C w) (r w) (p' w) (C' w):=by
 have a:=congrArg (λam=>am.1) h
 have b:=congrArg (λam=>am.2.1) h
 have c:=congrArg (λam=>am.2.2.1) h
 have ah:=congrArg (λam=>am.2.2.2) h
 refine ax.of (aT w) (n:=9000) (m:=300) (match w.b1 with
  |true=>H'
  |false=>ak) (os w hy) fs ts gs ?_
 obtain⟨w,b1,b2⟩:=w
 cases b1<;>cases b2
 ·exact congrFun (congrFun a w) hy
 ·exact congrFun (congrFun b w) hy
 ·exact congrFun (congrFun c w) hy
 ·exact congrFun (congrFun ah w) hy
noncomputable def L2 (Γ:WB->bd)(p:WB->aw)(t:WB->Sem X)(C:WB->aC)(ak:Nat)(os:∀w,Hy w->List (aM w))(fs ts gs:d):y6 Hy (Option (Res X×aw×aC×List CV)):=
 (λw b h=>sG Γ p t C ak os fs ts gs ⟨w,b,false⟩ h,λw b h=>sG Γ p t C ak os fs ts gs ⟨w,b,true⟩ h)
noncomputable def R2 (Γ:WB->bd)(p:WB->aw)(t:WB->Sem X)(C:WB->aC)(ak:Nat)(os:∀w,Hy w->List (aM w))(r:WB->Res X)(p':WB->aw)(C':WB->aC):y6 Hy (Option (Res X×aw×aC×List CV)):=
 (λw b h=>sH Γ p t C ak os r p' C' ⟨w,b,false⟩ h,λw b h=>sH Γ p t C ak os r p' C' ⟨w,b,true⟩ h)
theorem w2 (hy:Hy w)(ak:Nat)(os:∀w,Hy w->List (aM w))(fs ts gs:d)(h:L2 Γ p t C ak os fs ts gs=R2 Γ p t C ak os r p' C'):aE w (Γ w) (p w) (t w) (C w) (r w) (p' w) (C' w):=by
 have a:=congrArg (λam=>am.1) h
 have b:=congrArg (λam=>am.2) h
 refine ax.of (aT w) (n:=9000) (m:=300) ak (os w hy) fs ts gs ?_
 obtain⟨w,b1,b2⟩:=w
 cases b2
 ·have am:=congrFun (congrFun (congrFun a w) b1) hy
  exact am
 ·have am:=congrFun (congrFun (congrFun b w) b1) hy
  exact am
end
section
variable {w:WB}{Γ:WB->bd}{p:WB->aw}{t:WB->SF}{C C':WB->aC}{e:WB->End}{Hy:WB->Prop}
noncomputable def sI (Γ:WB->bd)(p:WB->aw)(t:WB->SF)(C:WB->aC)(ak:Nat)(os:∀w,Hy w->List (aM w))(fs ts gs:d)(w:WB)(h:Hy w):Option (End×aC×List CV):=
 vu fs ts gs (fN aA (VV w) 300 (Γ w) (p w) (t w) (St.of (VV w) (C w) ak (os w h)))
noncomputable def sJ (Γ:WB->bd)(p:WB->aw)(t:WB->SF)(C:WB->aC)(ak:Nat)(os:∀w,Hy w->List (aM w))(e:WB->End)(C':WB->aC)(w:WB)(h:Hy w):Option (End×aC×List CV):=
 some (e w,C' w,vw (fN aA (VV w) 300 (Γ w) (p w) (t w) (St.of (VV w) (C w) ak (os w h))))
noncomputable def L4E (Γ:WB->bd)(p:WB->aw)(t:WB->SF)(C:WB->aC)(ak H':Nat)(os:∀w,Hy w->List (aM w))(fs ts gs:d):y7 Hy (Option (End×aC×List CV)):=
 (λw h=>sI Γ p t C ak os fs ts gs ⟨w,false,false⟩ h,λw h=>sI Γ p t C ak os fs ts gs ⟨w,false,true⟩ h,λw h=>sI Γ p t C H' os fs ts gs ⟨w,true,false⟩ h,λw h=>sI Γ p t C H' os fs ts gs ⟨w,true,true⟩ h)
noncomputable def R4E (Γ:WB->bd)(p:WB->aw)(t:WB->SF)(C:WB->aC)(ak H':Nat)(os:∀w,Hy w->List (aM w))(e:WB->End)(C':WB->aC):y7 Hy (Option (End×aC×List CV)):=
 (λw h=>sJ Γ p t C ak os e C' ⟨w,false,false⟩ h,λw h=>sJ Γ p t C ak os e C' ⟨w,false,true⟩ h,λw h=>sJ Γ p t C H' os e C' ⟨w,true,false⟩ h,λw h=>sJ Γ p t C H' os e C' ⟨w,true,true⟩ h)
noncomputable def qF (Γ:WB->bd)(p:WB->aw)(t:WB->SF)(C:WB->aC)(ak:Nat)(os:∀w,Hy w->List (aM w))(fs ts gs:d):y6 Hy (Option (End×aC×List CV)):=
 (λw b h=>sI Γ p t C ak os fs ts gs ⟨w,b,false⟩ h,λw b h=>sI Γ p t C ak os fs ts gs ⟨w,b,true⟩ h)
noncomputable def qG (Γ:WB->bd)(p:WB->aw)(t:WB->SF)(C:WB->aC)(ak:Nat)(os:∀w,Hy w->List (aM w))(e:WB->End)(C':WB->aC):y6 Hy (Option (End×aC×List CV)):=
 (λw b h=>sJ Γ p t C ak os e C' ⟨w,b,false⟩ h,λw b h=>sJ Γ p t C ak os e C' ⟨w,b,true⟩ h)
theorem sK (hy:Hy w)(ak:Nat)(os:∀w,Hy w->List (aM w))(fs ts gs:d)(h:qF Γ p t C ak os fs ts gs=qG Γ p t C ak os e C'):nl w (Γ w) (p w) (t w) (C w) (e w) (C' w):=by
 have a:=congrArg (λam=>am.1) h
 have b:=congrArg (λam=>am.2) h
 refine gI.of (aT w) (m:=300) ak (os w hy) fs ts gs ?_
 obtain⟨w,b1,b2⟩:=w
 cases b2
 ·have am:=congrFun (congrFun (congrFun a w) b1) hy
  exact am
 ·have am:=congrFun (congrFun (congrFun b w) b1) hy
  exact am
end
section
variable {A B D aj F:WB->Prop}
noncomputable def u0 (os:∀w,List (aM w)):∀w,(λ_=>True:WB->Prop) w->List (aM w):=λw h=>os w
noncomputable def u1 (os:∀w,A w->List (aM w)):∀w,(λw=>A w:WB->Prop) w->List (aM w):=λw h=>os w h
noncomputable def u2 (os:∀w,A w->B w->List (aM w)):∀w,(λw=>A w/\B w:WB->Prop) w->List (aM w):=λw h=>os w h.1 h.2
noncomputable def u3 (os:∀w,A w->B w->D w->List (aM w)):∀w,(λw=>A w/\B w/\D w:WB->Prop) w->List (aM w):=λw h=>os w h.1 h.2.1 h.2.2
noncomputable def u4 (os:∀w,A w->B w->D w->aj w->List (aM w)):∀w,(λw=>A w/\B w/\D w/\aj w:WB->Prop) w->List (aM w):=λw h=>os w h.1 h.2.1 h.2.2.1 h.2.2.2
noncomputable def u5 (os:∀w,A w->B w->D w->aj w->F w->List (aM w)):∀w,(λw=>A w/\B w/\D w/\aj w/\F w:WB->Prop) w->List (aM w):=λw h=>os w h.1 h.2.1 h.2.2.1 h.2.2.2.1 h.2.2.2.2
end
theorem dI {X:Type}{Γ:WB->bd}{p p':WB->aw}{t:WB->Sem X}{C C':WB->aC}{r:WB->Res X}(ak:Nat)(os:∀w,List (aM w))(fs:d:=[])(ts:d:=[])(gs:d:=[])(h:L2 (Hy:=λ_=>True) Γ p t C ak (u0 os) fs ts gs=R2 (Hy:=λ_=>True) Γ p t C ak (u0 os) r p' C':=by kernel_rfl):∀w,aE w (Γ w) (p w) (t w) (C w) (r w) (p' w) (C' w):=λw=>w2 trivial ak (u0 os) fs ts gs h
theorem eH {X:Type}{Γ:WB->bd}{p p':WB->aw}{t:WB->Sem X}{C C':WB->aC}{r:WB->Res X}{A:WB->Prop}(ak:Nat)(os:∀w,A w->List (aM w))(fs:d:=[])(ts:d:=[])(gs:d:=[])(h:L2 (Hy:=λw=>A w) Γ p t C ak (u1 os) fs ts gs=R2 (Hy:=λw=>A w) Γ p t C ak (u1 os) r p' C':=by kernel_rfl):∀w,A w->aE w (Γ w) (p w) (t w) (C w) (r w) (p' w) (C' w):=λw a=>w2 a ak (u1 os) fs ts gs h
theorem CA {X:Type}{Γ:WB->bd}{p p':WB->aw}{t:WB->Sem X}{C C':WB->aC}{r:WB->Res X}{A B:WB->Prop}(ak:Nat)(os:∀w,A w->B w->List (aM w))(fs:d:=[])(ts:d:=[])(gs:d:=[])(h:L2 (Hy:=λw=>A w/\B w) Γ p t C ak (u2 os) fs ts gs=R2 (Hy:=λw=>A w/\B w) Γ p t C ak (u2 os) r p' C':=by kernel_rfl):∀w,A w->B w->aE w (Γ w) (p w) (t w) (C w) (r w) (p' w) (C' w):=λw a b=>w2 ⟨a,b⟩ ak (u2 os) fs ts gs h
theorem np {Γ:WB->bd}{p:WB->aw}{t:WB->SF}{C C':WB->aC}{e:WB->End}(ak:Nat)(os:∀w,List (aM w))(fs:d:=[])(ts:d:=[])(gs:d:=[])(h:qF (Hy:=λ_=>True) Γ p t C ak (u0 os) fs ts gs=qG (Hy:=λ_=>True) Γ p t C ak (u0 os) e C':=by kernel_rfl):∀w,nl w (Γ w) (p w) (t w) (C w) (e w) (C' w):=λw=>sK trivial ak (u0 os) fs ts gs h
theorem iA {Γ:WB->bd}{p:WB->aw}{t:WB->SF}{C C':WB->aC}{e:WB->End}{A:WB->Prop}(ak:Nat)(os:∀w,A w->List (aM w))(fs:d:=[])(ts:d:=[])(gs:d:=[])(h:qF (Hy:=λw=>A w) Γ p t C ak (u1 os) fs ts gs=qG (Hy:=λw=>A w) Γ p t C ak (u1 os) e C':=by kernel_rfl):∀w,A w->nl w (Γ w) (p w) (t w) (C w) (e w) (C' w):=λw a=>sK a ak (u1 os) fs ts gs h
theorem vE {Γ:WB->bd}{p:WB->aw}{t:WB->SF}{C C':WB->aC}{e:WB->End}{A B:WB->Prop}(ak:Nat)(os:∀w,A w->B w->List (aM w))(fs:d:=[])(ts:d:=[])(gs:d:=[])(h:qF (Hy:=λw=>A w/\B w) Γ p t C ak (u2 os) fs ts gs=qG (Hy:=λw=>A w/\B w) Γ p t C ak (u2 os) e C':=by kernel_rfl):∀w,A w->B w->nl w (Γ w) (p w) (t w) (C w) (e w) (C' w):=λw a b=>sK ⟨a,b⟩ ak (u2 os) fs ts gs h
theorem CB {Γ:WB->bd}{p:WB->aw}{t:WB->SF}{C C':WB->aC}{e:WB->End}{A B D:WB->Prop}(ak:Nat)(os:∀w,A w->B w->D w->List (aM w))(fs:d:=[])(ts:d:=[])(gs:d:=[])(h:qF (Hy:=λw=>A w/\B w/\D w) Γ p t C ak (u3 os) fs ts gs=qG (Hy:=λw=>A w/\B w/\D w) Γ p t C ak (u3 os) e C':=by kernel_rfl):∀w,A w->B w->D w->nl w (Γ w) (p w) (t w) (C w) (e w) (C' w):=λw a b ah=>sK ⟨a,b,ah⟩ ak (u3 os) fs ts gs h
theorem HL {Γ:WB->bd}{p:WB->aw}{t:WB->SF}{C C':WB->aC}{e:WB->End}{A B D aj:WB->Prop}(ak:Nat)(os:∀w,A w->B w->D w->aj w->List (aM w))(fs:d:=[])(ts:d:=[])(gs:d:=[])(h:qF (Hy:=λw=>A w/\B w/\D w/\aj w) Γ p t C ak (u4 os) fs ts gs=qG (Hy:=λw=>A w/\B w/\D w/\aj w) Γ p t C ak (u4 os) e C':=by kernel_rfl):∀w,A w->B w->D w->aj w->nl w (Γ w) (p w) (t w) (C w) (e w) (C' w):=λw a b ah e=>sK ⟨a,b,ah,e⟩ ak (u4 os) fs ts gs h
theorem PU {Γ:WB->bd}{p:WB->aw}{t:WB->SF}{C C':WB->aC}{e:WB->End}{A B D aj F:WB->Prop}(ak:Nat)(os:∀w,A w->B w->D w->aj w->F w->List (aM w))(fs:d:=[])(ts:d:=[])(gs:d:=[])(h:qF (Hy:=λw=>A w/\B w/\D w/\aj w/\F w) Γ p t C ak (u5 os) fs ts gs=qG (Hy:=λw=>A w/\B w/\D w/\aj w/\F w) Γ p t C ak (u5 os) e C':=by kernel_rfl):∀w,A w->B w->D w->aj w->F w->nl w (Γ w) (p w) (t w) (C w) (e w) (C' w):=λw a b ah e f=>sK ⟨a,b,ah,e,f⟩ ak (u5 os) fs ts gs h
theorem kN {X:Type}{Γ:WB->bd}{p p':WB->aw}{t:WB->Sem X}{C C':WB->aC}{r:WB->Res X}{A:WB->Prop}(ak H':Nat)(os:∀w,A w->List (aM w))(fs:d:=[])(ts:d:=[])(gs:d:=[])(h:L4 (Hy:=λw=>A w) Γ p t C ak H' (u1 os) fs ts gs=R4 (Hy:=λw=>A w) Γ p t C ak H' (u1 os) r p' C':=by kernel_rfl):∀w,A w->aE w (Γ w) (p w) (t w) (C w) (r w) (p' w) (C' w):=λw a=>y8 a ak H' (u1 os) fs ts gs h
theorem lx {X:Type}{Γ:WB->bd}{p p':WB->aw}{t:WB->Sem X}{C C':WB->aC}{r:WB->Res X}{A B:WB->Prop}(ak H':Nat)(os:∀w,A w->B w->List (aM w))(fs:d:=[])(ts:d:=[])(gs:d:=[])(h:L4 (Hy:=λw=>A w/\B w) Γ p t C ak H' (u2 os) fs ts gs=R4 (Hy:=λw=>A w/\B w) Γ p t C ak H' (u2 os) r p' C':=by kernel_rfl):∀w,A w->B w->aE w (Γ w) (p w) (t w) (C w) (r w) (p' w) (C' w):=λw a b=>y8 ⟨a,b⟩ ak H' (u2 os) fs ts gs h
theorem jN {X:Type}{Γ:WB->bd}{p p':WB->aw}{t:WB->Sem X}{C C':WB->aC}{r:WB->Res X}{A B D:WB->Prop}(ak H':Nat)(os:∀w,A w->B w->D w->List (aM w))(fs:d:=[])(ts:d:=[])(gs:d:=[])(h:L4 (Hy:=λw=>A w/\B w/\D w) Γ p t C ak H' (u3 os) fs ts gs=R4 (Hy:=λw=>A w/\B w/\D w) Γ p t C ak H' (u3 os) r p' C':=by kernel_rfl):∀w,A w->B w->D w->aE w (Γ w) (p w) (t w) (C w) (r w) (p' w) (C' w):=λw a b ah=>y8 ⟨a,b,ah⟩ ak H' (u3 os) fs ts gs h
theorem sL {X:Type}{Γ:WB->bd}{p p':WB->aw}{t:WB->Sem X}{C C':WB->aC}{r:WB->Res X}{A B D aj:WB->Prop}(ak H':Nat)(os:∀w,A w->B w->D w->aj w->List (aM w))(fs:d:=[])(ts:d:=[])(gs:d:=[])(h:L4 (Hy:=λw=>A w/\B w/\D w/\aj w) Γ p t C ak H' (u4 os) fs ts gs=R4 (Hy:=λw=>A w/\B w/\D w/\aj w) Γ p t C ak H' (u4 os) r p' C':=by kernel_rfl):∀w,A w->B w->D w->aj w->aE w (Γ w) (p w) (t w) (C w) (r w) (p' w) (C' w):=λw a b ah e=>y8 ⟨a,b,ah,e⟩ ak H' (u4 os) fs ts gs h
section
variable {X:Type}{w:WB}{Γ:bd}{p p':aw}{t:Sem X}{C C':aC}{r:Res X}{u:SF}{e:End}
noncomputable def L1 (w:WB)(Γ:bd)(p:aw)(t:Sem X)(C:aC)(ak:Nat)(os:List (aM w))(fs ts gs:d):Option (Res X×aw×aC×List CV):=yf fs ts gs (di aA (VV w) (fN aA (VV w) 300) 9000 Γ p t (St.of (VV w) C ak os))
noncomputable def R1 (w:WB)(Γ:bd)(p:aw)(t:Sem X)(C:aC)(ak:Nat)(os:List (aM w))(r:Res X)(p':aw)(C':aC):Option (Res X×aw×aC×List CV):=some (r,p',C',yg (di aA (VV w) (fN aA (VV w) 300) 9000 Γ p t (St.of (VV w) C ak os)))
theorem w1 (ak:Nat)(os:List (aM w))(fs:d:=[])(ts:d:=[])(gs:d:=[])(h:L1 w Γ p t C ak os fs ts gs=R1 w Γ p t C ak os r p' C':=by kernel_rfl):aE w Γ p t C r p' C':=ax.of (aT w) ak os fs ts gs h
noncomputable def PV (w:WB)(Γ:bd)(p:aw)(t:SF)(C:aC)(ak:Nat)(os:List (aM w))(fs ts gs:d):Option (End×aC×List CV):=vu fs ts gs (fN aA (VV w) 300 Γ p t (St.of (VV w) C ak os))
noncomputable def PW (w:WB)(Γ:bd)(p:aw)(t:SF)(C:aC)(ak:Nat)(os:List (aM w))(e:End)(C':aC):Option (End×aC×List CV):=some (e,C',vw (fN aA (VV w) 300 Γ p t (St.of (VV w) C ak os)))
theorem dJ (ak:Nat)(os:List (aM w))(fs:d:=[])(ts:d:=[])(gs:d:=[])(h:PV w Γ p u C ak os fs ts gs=PW w Γ p u C ak os e C':=by kernel_rfl):nl w Γ p u C e C':=gI.of (aT w) ak os fs ts gs h
end
noncomputable def fdOf (P:aF)(a:Nat):FuncData:=match(oq P).get a with
 |some o=>match o.data with
  | .func fd=>fd
  |_=>default
 |none=>default
noncomputable def cw (P:aF)(a:Nat):List Stmt:=match(fdOf P a).body with
 | .stmts b=>b
 | .expr _=>[]
noncomputable def dW (b:List Stmt)(i:Nat):Stmt:=match iy b i with
 |some s=>s
 |none=>default
noncomputable def HM (s:Stmt)(env:Env):bL:=match s with
 | .While t b o _=> .whileLoop t b o env
 | .For .. =>default
 | .If .. =>default
 |_=>default
noncomputable def pz (s:Stmt)(it:ay)(env:Env):bL:=match s with
 | .While .. =>default
 | .For t _ b o _=> .forLoop t it b o env
 | .If .. =>default
 |_=>default
noncomputable def inner (s:Stmt):List Stmt:=match s with
 | .While _ b _ _=>b
 | .For _ _ b _ _=>b
 | .If _ b _ _=>b
 |_=>[]
noncomputable def orelse (s:Stmt):List Stmt:=match s with
 | .While _ _ o _=>o
 | .For _ _ _ o _=>o
 | .If _ _ o _=>o
 |_=>[]
noncomputable def eQ (P:aF)(a F:Nat)(cells:List (Str×Addr)):Env:=match fdOf P a with
 |fd=>{scope:=fd.scope,locals:=F,globals:=fd.globals,cells:=cells,qual:=fd.qualname++Str.ofString ".<locals>.",func:=some a,code:=fd.code,frame:=some F,builtins:=fd.builtins}
noncomputable def kids:Expr->List Expr
 | .BoolOp _ Y _=>Y
 | .BinOp l _ r _=>[l,r]
 | .UnaryOp _ x _=>[x]
 | .IfExp t b o _=>[t,b,o]
 | .Call f as _ _=>f::as
 | .Compare l _ cs _=>l::cs
 | .Subscript v s _=>[v,s]
 | .Attribute v _ _=>[v]
 | .ListComp e gs _ _=>e::gs.map (·.iter)
 | .GeneratorExp e gs _ _=>e::gs.map (·.iter)
 | .List es _=>es
 | .Tuple es _ _=>es
 | .Starred v _=>[v]
 |_=>[]
noncomputable def jO:Stmt->Expr
 | .Assign _ v _=>v
 | .AugAssign _ _ v _=>v
 | .Return (some v) _=>v
 | .Expr v _=>v
 | .If t _ _ _=>t
 | .While t _ _ _=>t
 | .For _ i _ _ _=>i
 |_=>default
noncomputable def bv (e:Expr):d->Expr
 |[]=>e
 |i::is=>match iy (kids e) i with
  |some x=>bv x is
  |none=>e
noncomputable def vF:Expr->Scope
 | .ListComp _ _ sc _=>sc
 | .GeneratorExp _ _ sc _=>sc
 |_=>default
noncomputable def compEnv (e:Expr)(outer:Env)(D:Nat)(cells:List (Str×Addr)):Env:=
 {scope:=vF e,locals:=D,globals:=outer.globals,cells:=cells,qual:=outer.qual,func:=none,code:=outer.code,frame:=outer.frame,builtins:=outer.builtins}
end
section
open PySem PySem.W PySem.W.X PyProof.Rows PySem.Calls
noncomputable abbrev pw:Program:=PySem.Challenge.pw_mr0375_01
noncomputable def pA:bL->Sem PySem.Fin:=PySem.W.Fast.tw11892475500146522536 PySem.W.Fast.tw14364793385576792824
theorem PX:denote treeTable=pA:=by
 unfold pA
 rw [<-PySem.W.Fast.te11892475500146522536,<-PySem.W.Fast.te14364793385576792824]
noncomputable def sM (den:bL->Sem PySem.Fin)(p:Program)(w:f8):Nat->SharedT->Thread->Option SharedT
 |0,_,_=>none
 |n+1,s,t=>match t.atExitBegin with
  |some []=>some s
  |some (_::_)=>none
  |none=>match stepT den p w s t with
   |some (s',t')=>sM den p w n s' t'
   |none=>none
theorem PY {tb:String->Option Builtin}{p:Program}{w:f8}:∀{n:Nat} {s s':SharedT} {t:Thread},sM (denote tb) p w n s t=some s'->importEnds tb p w n s.abs t=some s'.abs:=by
 intro n
 induction n with
 |zero=>
  intro _ _ _ h
  cases h
 |succ n aS=>
  intro s s' t h
  unfold sM at h
  unfold importEnds
  cases he:t.atExitBegin with
  |some l=>
   rw [he]at h
   cases l with
   |nil=>cases h;rfl
   |cons x xs=>cases h
  |none=>
   rw [he]at h
   cases hs:stepT (denote tb) p w s t with
   |none=>rw [hs]at h;cases h
   |some r=>
    obtain⟨HN,PZ⟩:=r
    rw [hs]at h
    dsimp only
    rw [stepT_spec hs]
    exact aS h
noncomputable def sN (den:bL->Sem PySem.Fin)(p:Program)(w:f8)(sO:Nat)(ann:Option ay):Nat->SharedT->Thread->Option SharedT
 |0,_,_=>none
 |n+1,s,t=>match through t with
  |true=>some s
  |false=>match stepOk sO ann t with
   |false=>none
   |true=>match stepT den p w s t with
    |some (s',t')=>sN den p w sO ann n s' t'
    |none=>none
theorem P6 {tb:String->Option Builtin}{p:Program}{w:f8}{sO:Nat}{ann:Option ay}:∀{n:Nat} {s s':SharedT} {t:Thread},sN (denote tb) p w sO ann n s t=some s'->topRun tb p w sO ann n s.abs t=some s'.abs:=by
 intro n
 induction n with
 |zero=>
  intro _ _ _ h
  cases h
 |succ n aS=>
  intro s s' t h
  unfold sN at h
  unfold topRun
  cases ht:through t with
  |true=>rw [ht]at h;cases h;rfl
  |false=>
   rw [ht]at h
   cases hk:stepOk sO ann t with
   |false=>rw [hk]at h;cases h
   |true=>
    rw [hk]at h
    cases hs:stepT (denote tb) p w s t with
    |none=>rw [hs]at h;cases h
    |some r=>
     obtain⟨HN,PZ⟩:=r
     rw [hs]at h
     dsimp only
     rw [stepT_spec hs]
     exact aS h
noncomputable def s0:SharedT:=⟨.nil,0,{},#[],{},1,{stdin:=pw.given.stdin.toArray}⟩
theorem P7:s0.abs=(start (opening pw)).1:=by
 show(⟨absHeap .nil 0 {},#[],{},1,_⟩:bI)=_
 have e:absHeap .nil 0 {}=({}:Heap):=by
  unfold absHeap BT.list
  rfl
 rw [e]
 kernel_rfl
noncomputable def aeU (w:f8):Option SharedT:=(sM pA (opening pw) w 2000 s0 (start (opening pw)).2).bind λs=>sN pA pw w s.n none 9000 s (topStub pw)
end
section
open PySem PySem.W PySem.W.X PyProof.Rows PySem.Calls
noncomputable def hq:Program:={pw with main:={pw.main with body:=pw.main.body.drop (pw.main.body.length-1)}}
noncomputable def vG:List PySem.Str:=pw.boundNames.filter λn=>n !=PySem.Str.ofString "law"
noncomputable def y9 (m:Str)(s:SharedT):Option SharedT:=
 match boundIn s.abs.heap sysModules m,tameNamesOf? m with
 |some (.ref a),some row=>match s.abs.heap.get? a with
  |some o=>match o.dict with
   |some D=>match s.abs.heap.get? D with
    |some od=>match fenceDict? m row od with
     |some vH=>match s.tree.get D with
      |some _=>some {s with tree:=s.tree.set D λ_=>vH}
      |none=>none
     |none=>none
    |none=>none
   |none=>none
  |none=>none
 |_,_=>none
theorem P8 {m:Str}{s s':SharedT}(h:y9 m s=some s'):fenceModule? m s.abs=some s'.abs/\s'.n=s.n:=by
 unfold y9 at h
 unfold fenceModule?
 split at h
 ·rename_i a row e1 e2
  rw [e1,e2]
  dsimp only
  cases e3:s.abs.heap.get? a with
  |none=>rw [e3]at h;cases h
  |some o=>
   rw [e3]at h
   dsimp only at h⊢
   cases e4:o.dict with
   |none=>rw [e4]at h;cases h
   |some D=>
    rw [e4]at h
    dsimp only at h⊢
    cases e5:s.abs.heap.get? D with
    |none=>rw [e5]at h;cases h
    |some od=>
     rw [e5]at h
     dsimp only at h⊢
     cases e6:fenceDict? m row od with
     |none=>rw [e6]at h;cases h
     |some vH=>
      rw [e6]at h
      dsimp only at h
      cases e7:s.tree.get D with
      |none=>rw [e7]at h;cases h
      |some x=>
       rw [e7]at h
       cases h
       refine⟨?_,rfl⟩
       show some _=some _
       congr 1
       show({s.abs with heap:=_}:bI)=_
       have:=absHeap_set (n:=s.n) (life:=s.life) (f:=λ_=>vH) e7
       show(⟨(absHeap s.tree s.n s.life).update D λ_=>vH,s.gens,s.drawn,s.toks,s.os⟩:bI)=⟨absHeap (s.tree.set D λ_=>vH) s.n s.life,s.gens,s.drawn,s.toks,s.os⟩
       rw [this]
 ·cases h
noncomputable def vI:List Str->SharedT->Option SharedT
 |[],s=>some s
 |m::r,s=>match y9 m s with
  |some s'=>vI r s'
  |none=>none
theorem P9:∀{l:List Str} {s s':SharedT},vI l s=some s'->fenceAll? l s.abs=some s'.abs:=by
 intro l
 induction l with
 |nil=>
  intro _ _ h
  cases h;rfl
 |cons m r aS=>
  intro s s' h
  unfold vI at h
  cases e:y9 m s with
  |none=>rw [e]at h;cases h
  |some HN=>
   rw [e]at h
   unfold fenceAll?
   rw [(P8 e).1]
   exact aS h
noncomputable def HO {β:Type}(F:SharedT->SharedT->β)(w:f8):Option β:=
 (sM pA (opening pw) w 2000 s0 (start (opening pw)).2).bind λs=>(vI (importedModules pw.main.body) s).bind λdj=>
  (sN pA pw w dj.n (some (.ref 6)) 9000 dj (topStub pw)).map λbG=>F dj bG
theorem Qa {α:Type}{Yf:bI->α}{Ya:f8->α}(h:∀w,HO (λdj bG=>(dj.abs.heap.isNs mainGlobals&&dj.abs.gens.size==0,dj.abs.heap.nsMap mainGlobals "__annotations__",staticsOk (importedModules pw.main.body) dj.abs.heap bG.abs.heap&&namesBound pw bG.abs.heap&&gensDone bG.abs&&laidKept dj.abs.heap bG.abs.heap,openSeen hq vG (importedModules pw.main.body) (λ_=>true) true bG.abs,Yf bG.abs)) w=some (true,some (.ref 6),true,openGood hq vG,Ya w))(hn:(pw.main.body.any namesNumpy)=false):LeftO pw hq vG (λ_=>true) Yf Ya 9000:=λw=>by
 have h:=h w
 unfold HO at h
 cases e1:sM pA (opening pw) w 2000 s0 (start (opening pw)).2 with
 |none=>rw [e1]at h;cases h
 |some s=>
 rw [e1,BP]at h
 cases e2:vI (importedModules pw.main.body) s with
 |none=>rw [e2]at h;cases h
 |some dj=>
 rw [e2,BP]at h
 cases e3:sN pA pw w dj.n (some (.ref 6)) 9000 dj (topStub pw)with
 |none=>rw [e3]at h;cases h
 |some bG=>
 rw [e3,M3]at h
 have h:=dv.inj h
 simp only [Prod.mk.injEq]at h
 obtain⟨g1,g2,g3,g4,g5⟩:=h
 rw [<-PX]at e1 e3
 have f1:=PY e1
 rw [P7]at f1
 have f1:=importEnds_mono 7000 _ _ _ _ f1
 have f3:=P6 e3
 have hf:fencedOpening treeTable pw w 9000=some dj.abs:=by
  unfold fencedOpening
  rw [show(9000:Nat)=2000+7000 from rfl,f1]
  show fenceModules? pw s.abs=_
  unfold fenceModules?
  rw [P9 e2,hn]
  rfl
 have ht:topFrom treeTable pw w 9000 dj.abs=some bG.abs:=by
  unfold topFrom
  rw [g1,g2]
  dsimp only
  have cK:dj.abs.heap.objs.size=dj.n:=absHeap_size _ _ _
  rw [cK,f3]
  dsimp only [BP]
  rw [g3]
 unfold openEnds
 rw [hf,BP,ht,M3,g4,g5]
end
section
open PySem PySem.W PySem.W.X PyProof.Rows PySem.Calls PySem.Spec
noncomputable abbrev za:PySem.Ctx:=⟨.builtin "claim.caller" {},none,none,[],none⟩
theorem Qb {c:ClaimW}{tree:List ay->Sem PySem.Fin}{w:f8}{s:bI}{free:Addr->Prop}{gens:Prop}{kept:Heap->Prop}(hz:s.asleep)(hg:s.gens= #[]) (spec:∀args,c.pre args=true->WData.layableAll args=true->∀ord:List ir->List ir,(∀l,(ord l).Perm l)-> ∃Y bG,layAllW c.records (classAt s.heap) w.params ord args s=some (Y,bG)/\Sem.wp (model c.prog w) za (tree Y) (λfin _ s'=>∃f,fin= .done f/\(c.Ends s args Y bG (.ok f) s'/\s'.os=s.os/\AllBare s'.gens/\kept s'.heap)) (λe _ s'=>c.Ends s args Y bG (.error e) s'/\s'.os=s.os/\AllBare s'.gens/\kept s'.heap) default bG):c.CallFrom (λY=>⟨tree Y,.builtin "claim.caller" {},default,[]⟩) w free gens kept s:=by
 intro args pB sP ord zb
 refine gu (spec args pB sP ord zb) λY bG hl h=> ?_
 have al:=layAllW_rest _ _ _ hl
 refine Nt (wp_halts_full (M:=model c.prog w) (R:=λr s'=>c.Ends s args Y bG r s'/\s'.os=s.os/\kept s'.heap) (Shared.asleep_of_life al.2.2.2 hz)
  (Sem.wp_mono _ _ _ (λfin p' s' q=>by
   refine bX q λf e q=>mo q λq1 G q3 q4=> ?_
   subst e
   exact⟨⟨q1,G,q4⟩,leftWithCleanup_false_of_bare q3⟩) (λe p' s' q=>mo q λq1 G q3 q4=>⟨⟨q1,G,q4⟩,leftWithCleanup_false_of_bare q3⟩) _ _ h)) λk r s2 s' Qc Qd Qe hE dp hk=> ?_
 refine B0 (Shared.forget_eq Qe) λeh _ _ eo _=> ?_
 have life:s'.heap.life=s.heap.life:=(runN_life _ _ _ Qd).trans al.2.2.2
 have hE:=hE.congr eh
 refine fL Y bG hl (NB k _ s' Qc ?_ (λ_ i x hx=>by rw [hg]at hx;simp at hx) (by rw [eh];exact hk) (by rw [life]) (Shared.rest_eq (eo.trans dp)))
 rcases hE with⟨v,rfl,d1,d2,d3,d4,d5⟩|⟨e,ob,cls,rfl,d1,d2,d3,d4,d5⟩
 ·exact .inl ⟨v,rfl,d1,d2,d3,λb o y _=>d4 b o y,d5⟩
 ·exact .inr ⟨e,ob,cls,rfl,d1,d2,d3,d4,λb o y _=>d5 b o y⟩
theorem Qf {r:OpenRow}{q:Program}{loose:List Str}{α:Type}{Yf:bI->α}{Ya:f8->α}{ah:DefRec}{HP:List (Str×Expr)}{N:Nat} (left:LeftO r.prog q loose (λ_=>true) Yf Ya N)(Qg:defOf q r.name=some (ah,HP))(hp:r.prog.theDef r.name=some (ah.params,ah.body,ah.scope))(hk:kwWritten? ah.params.kwonlyargs ah.params.kw_defaults=some HP) (hR:r.records=[])(H:r.wellSaid=true)(ok:(chainsOk q&&opensWell r.prog&&(frees r.toRowW&&r.within.isEmpty))=true)(hb:r.prog.bare)(hw:r.toRowW.promised) (call:∀(w:f8) (dj bG:bI),Yf dj=Ya w->dj.gens= #[]->∀(args:List WData) (vals:List ay) (as:List Addr),r.claim.pre args=true->WData.layableAll args=true->Laid r.records w dj bG args vals as-> ReadsAllW r.records (classAt dj.heap) bG.heap vals args as->WellAll w.params bG.heap vals args->(∀a∈as,(a==sysModules)=false)->∃f,dj.heap.nsMap mainGlobals r.name=some f/\ Sem.wp (model r.prog w) za (PySem.call f vals) (λv _ s'=>GoodWG r.claim (classAt dj.heap) (ExcName.means dj.heap) args bG (.ok (.ret v)) s') (λe _ s'=>GoodWG r.claim (classAt dj.heap) (ExcName.means dj.heap) args bG (.error e) s') default bG):r.Holds:=by
 refine cB (xN.mp ok) λok k5=>cB (xN.mp ok) λHQ o1=>cB (xN.mp k5) λk5 k6=> ?_
 refine B0 (frees_parts k5) λHR hu ha Qh hm=> ?_
 refine⟨H,hw,⟨hb,o1,by show r.makers.map _=[];rw [hm];rfl⟩,hw.witness,λw=>⟨(left.behind (XP:=λ_ _=>True) (λ_ _=>trivial) HQ w).1,λs' CC=> ?_⟩⟩
 refine qw ((left.behind (XP:=λ_ _=>True) (λ_ _=>trivial) HQ w).2 s' CC) λdj hf zc am=>GF am λs hT hz vJ hg ai y=> ?_
 have RF:RecFacts r.records s.heap:=recFacts_nil hR
 refine oe dj hf zc (Nz s hT (λn hn=> ?_) RF.1 RF.2.1 ?_)
 ·obtain rfl:n=r.name:=by split at hn<;>simp_all
  exact pinned_of_view hg ai Qg hp hk
 have vJ:s.gens= #[]:=Array.eq_empty_of_size_eq_zero (beq_iff_eq.mp vJ)
 have G':Ground q loose r.records (λ_ _=>True) w s _ _ s.heap:=RF.ground ai
 refine Qb (c:=r.claim) hz vJ λargs pB sP ord zb=> ?_
 obtain⟨⟨Y,bG⟩,hl⟩:=aeD.mp (layAllW_isSome (P:=w.params) (ord:=ord) G'.has args r.args s (pre_splitW pB).1)
 have keeps:=layAllW_keeps _ _ _ hl
 have pC:=layAllW_rest _ _ _ hl
 refine qw (reads_layAllW zb _ _ _ hl sP bG.heap (λ_ _ e=>e)) λas CD Qi hold=> ?_
 have L:Laid r.records w s bG args Y as:=⟨⟨ord,zb,hl⟩,CD,Qi,hold,keeps,pC.1.trans vJ,pC.2.2.1⟩
 have CE:=G'.keeps (λ_ _ _ _ _=>trivial) keeps
 refine bX (call w s bG y vJ args Y as pB sP L L.reads L.well (L.low G'.low)) λf hf h=> ?_
 have hi:=ident_freeW hu ha Qh
 have HS:r.claim.within=[]:=List.isEmpty_iff.mp k6
 have nq:(!r.writes||r.records.isEmpty)=true:=by rw [hR];simp
 refine⟨Y,bG,hl,?_⟩
 show Sem.wp _ _ (_>>=_) _ _ _ _
 rw [Sem.wp_bind']
 refine Eq.mpr (Sem.wp_nsGet _ _ _ _ bG CE.T.g _ _) ?_
 rw [hf]
 show Sem.wp _ _ (_>>=_) _ _ _ _
 rw [Sem.wp_bind']
 refine Sem.wp_mono _ _ _ (λv p' s' g=> ?_) (λe p' s' g=> ?_) _ _ h
 ·have am:=g.laid (c:=r.claim) HR HS hi L
  exact⟨_,rfl,am.1,am.2.1,am.2.2,λq=>⟨namesKept_of hT hg _ keeps g.2.1.old,noTable nq q⟩⟩
 ·have am:=g.laid (c:=r.claim) HR HS hi L
  exact⟨am.1,am.2.1,am.2.2,λq=>⟨namesKept_of hT hg _ keeps g.2.1.old,noTable nq q⟩⟩
end
section
open PySem PySem.W PySem.W.X PyProof.Rows PySem.Calls
variable {w:WB}{α β:Type}{a b l room c L f dN dt B A I i k e N J U H z k3 tx tw tl wd c1 n av D K pD aI E tv sQ k0 T It eS ta tb Gn Fj g t1 aX bg gJ aU hd ts N' au br aj t k4 k5 tn eM tp e2 c7 kl iX qH mz aV aZ dK n0 ly lz sR fy iB sS gX fz k6 ao tm D1 aW I1 ea tg th pE I0 I2 kr tr at_ rk x1 ev bO eb ah c0 ka af tf bh pF fA fB CF ch j width head cc ak fV fW fX fY fZ f0 tc F1 ca c2 ki kp ini ti ei eX gY r1 a1 r2 a2 el vK qI vL r0 ze t' r3 kd nd td ed FV vM nr ot pG qJ zf zg zh zi zj fC pH ty vN vO vP vQ vR vT qK qM vU t0 sT zk r7 zl pI qN jo ik Sl sw y1 zm n8 lA HT iY qO qP qQ iZ qS fg cS lB sU sV sW km sX gw gZ vV sY zn sZ HU HV HW s3 s4 HX HY zo zp s5 HZ H0 H1 s6 s7 H2 H3 zq zr H4 Qj Qk Ql CG Qm n1 zt H5 zu H6 aa ue CH H7 c3 tt ln dw bb c4 kv pJ qT qU CI CJ CK n2 n3 ln' tl' c8 i' ti' eO eD gx kb kc t6 jp k7 t4 t5 s9 pK ou f9 lC k8 k9 qV gK gL Tq e3 B2 zv zw zx zy zA zB pL tj to tq tu tz tC tD tE tF tG zC zD zE zF zG zH zI tH zJ tI lD pM tJ H8 zK H9 zL nt:Nat}{Γ:bd}{L' Q vW tK S5 zM S6 zN zO Sg S0 vX Ia Ib CL Ic zP zQ Qn zR:aJ}{den:bL->SF}{args:Args}{m:Fm}{x bC nm ql x0 wr mn h sg x2 gs y qn bn tL:d}{s dj bG:bI}{V:EV}{v v0 eI it old v6 v3 v4 v1 va self vf vx vi vp vc y2 zS zT zU o1 v2 vY zV Ie Ig vv CM tM vb Ih:ay}{o o' t2 dd lE dk tN db vZ wa zW zX zY zZ z0 z2:az}{p q1 q p' p₁ G p0 p1 p₃ q3 pos q7 q0 q9 q8 mD q6 q5 p3:aw}{C C' bq ij mE:aC}{m':Sre.M}{ls aB Y ms ow qW tO tP tQ z3 z4 wb wc sv gc tR tT aO ds z5 z6:LV}{aL iC iD iE gy:bB}{r:Rx}{own past:Option ay}{below:b9}{Φ:bI->bI->Prop}{T':List aJ}{pl lF b2:Bool}{ai G':lm}{elts:List Expr}{body rest:List Stmt}{env:Env}{CN tU z7 tV o2:Nat×ay}{no:Int}{xs:List α}{dg:List LV}{ps:List PT}{ks:b8}{sp:Nat->Bool}{u:TU}{pre:List d}{attr:Str}{us:List TU}{Ii:NV×Nat×ay}{elt:Expr}{bc ns:cC}{l1 l2 l3:List ir}
noncomputable def qX:Nat->Nat->KT->List (Nat×az)
 |_,_,.nil=>[]
 |s,b,.node v l r=>(match v with
  |some o=>[(b,o)]
  |none=>[])++(qX (2*s) (s+b) l++qX (2*s) (2*s+b) r)
theorem CO {h:Heap}:∀(t:KT) (s b:Nat),(∀x∈qX s b t,h.get? x.1=some x.2)->KT.Holds h s b t
 | .nil,_,_,_=>trivial
 | .node v l r,s,b,ak=>by
  unfold qX at ak
  refine⟨λo e=> ?_,CO l _ _ λx hx=>ak x ?_,CO r _ _ λx hx=>ak x ?_⟩
  ·subst e;exact ak (b,o) (me _ (.head _))
  ·exact qt _ (me _ hx)
  ·exact qt _ (qt _ hx)
theorem Qo {α γ:Type}{f g:α->γ}:∀{l:List α},l.map f=l.map g->∀x∈l,f x=g x:=by
 intro l
 induction l with
 |nil=>
  intro _ x hx
  cases hx
 |cons y l aS=>
  intro h x hx
  rw [bY,bY]at h
  injection h with h1 h2
  rcases gr.mp hx with rfl|hx
  ·exact h1
  ·exact aS h2 x hx
noncomputable def Ij:d:=[0,3,63,255,895,143,111,815,943,135,903,151,215,119,887,259,195,547,931,83,179,203,539,859,187,955,763,897,961,865,49,937,121,69,709,165,229,149,533,917,181,821,949,909,205,173,157,285,925,829,2,4,256,960,48,112,944,936,888,260,516,708,932,228,84,532,916,180,948,172,540,924,188,828,956,130,258,898,194,546,866,202,858,122,762,70,166,150,918,214,118,822,142,526,910,206,62,158,286,830,702,894]
noncomputable def we (s:bI):Nat×Option ay×List (Option az)×List (Option az):=(s.heap.objs.size,s.heap.nsMap mainGlobals (Str.ofString "law"),Ij.map s.heap.get?,[168,175,912].map s.heap.get?)
noncomputable def wf (w:f8):Nat×Option ay×List (Option az)×List (Option az):=(962,some (.ref 961),(qX 1 0 (oq w.params)).map (λx=>some x.2),[some fO,some fO,some fO])
theorem Qp:LeftO pw hq vG (λ_=>true) we wf 9000:=Qa (λw=>by kernel_rfl) (by kernel_rfl)
theorem n5 {a:Bool}{b:List Str}{l:List Stmt}(ha:a=false)(hb:b=[])(h:noRoadLSs {strict:=false,foot:=none,bare:=[]} l=true):noRoadLSs {strict:=a,foot:=none,bare:=b} l=true:=by subst ha hb;exact h
theorem Qq:noRoadLSs {strict:=false,foot:=none,bare:=[]} Challenge.pw_mr0375_01.main.body=true:=by
 rw [Fast.te8326940854005059898];kernel_rfl
theorem g1:sreFenced Challenge.pw_mr0375_01.main=true:=by kernel_rfl
theorem g2:((moduleNames Challenge.pw_mr0375_01.main.body).isEmpty||lookedIntoSs (moduleNames Challenge.pw_mr0375_01.main.body) Challenge.pw_mr0375_01.main.body)=true:=by kernel_rfl
theorem g3:namesResolve Challenge.pw_mr0375_01=true:=by kernel_rfl
theorem g6:(namesMeet Challenge.pw_mr0375_01 Challenge.pw_mr0375_01.main.body λ_ n=>attrL n)=true:=by kernel_rfl
theorem CP:PySem.Challenge.rw_mr0375_01.wellSaid=true:=by
 unfold OpenLaw.wellSaid OpenRow.wellSaid OpenRow.partSaid looksOpen
 repeat' (with_reducible apply look_both)
 ·exact g1
 ·exact g2
 ·exact g3
 ·kernel_rfl
 ·exact n5 (by kernel_rfl) (by kernel_rfl) Qq
 ·exact g6
 all_goals kernel_rfl
theorem g7:(chainsOk hq&&opensWell PySem.Challenge.rw_mr0375_01.row.prog&&(frees PySem.Challenge.rw_mr0375_01.row.toRowW&&PySem.Challenge.rw_mr0375_01.row.within.isEmpty))=true:=by decide+kernel
theorem g8:PySem.Challenge.rw_mr0375_01.row.prog.bare:=⟨rfl,rfl,rfl,rfl,rfl,by decide+kernel⟩
section
variable {V:EV}
noncomputable def aroundOf (Γ:bd):Around:={handled:=Γ.handled,depth:=frameCount Γ.below,frames:=none,guards:=none,units:=unitsOf Γ.below}
theorem Qr (Γ:bd):Γ.Below (aroundOf Γ):=⟨rfl,b7 _,(λl h=>by cases h),(λg h=>by cases h),b7 _⟩
theorem Qs (h:B7 Γ=true):(aroundOf Γ).depth<=600/\(aroundOf Γ).units<=5000:=by
 delta B7 at h
 refine cB (xN.mp h) λh1 h2=> ?_
 have h1:((((Γ.code,(⟨0,0,0,0⟩:aw))::Γ.below).map (·.1.cUnits)).sum)<5000:=xO h1
 have h2:frameCount ((Γ.code,(⟨0,0,0,0⟩:aw))::Γ.below)<600:=xO h2
 rw [frameCount_cons]at h2
 rw [bY,uY]at h1
 constructor
 ·show frameCount Γ.below<=600
  lia
 ·show(Γ.below.map (·.1.cUnits)).sum<=5000
  lia
theorem Qt (h:qz room Γ=true):1<=room->(aroundOf Γ).handled=none:=by
 intro q
 show Γ.handled=none
 delta qz at h
 cases e:Γ.handled with
 |none=>rfl
 |some v=>
  rw [e]at h
  split at h
  ·lia
  ·cases h
  ·cases h
theorem Qu (h:qz room Γ=true):2<=room->(aroundOf Γ).depth<=600/\(aroundOf Γ).units<=5000:=by
 intro q
 delta qz at h
 split at h
 ·lia
 ·lia
 ·split at h
  ·exact Qs h
  ·cases h
noncomputable def cf (L:aJ)(s:bI):aC:=⟨L,[],s.heap.objs.size,s.toks,[],s.gens.size⟩
theorem dO {c:bL}{L:aJ}{L':Nat->aJ}{f:Nat->Nat->ig}(h:∀(A:Around) (s:bI),(1<=room->A.handled=none)->(2<=room->A.depth<=600/\A.units<=5000)->A.frames=none->A.guards=none->Rep V (cf L s) s->codeAny V.M A c (λr s'=>r=f s.heap.objs.size s.toks/\ Good V (cf L s) ⟨L' s.heap.objs.size,[],s.heap.objs.size+dN,s.toks+dt,[],s.gens.size⟩ s s') s):Bi V room c L L' f dN dt:=by
 intro Γ p N J U cv hr s R
 obtain⟨rfl,rfl,rfl⟩:s.heap.objs.size=N/\s.toks=J/\s.gens.size=U:=⟨R.size,R.toks,R.iU⟩
 refine o8 (h (aroundOf Γ) s (Qt hr) (Qu hr) rfl rfl R Γ p cv (Qr Γ)) λr s' Qv Qw q=> ?_
 subst Qw
 exact da s' q (by rw [<-cv];exact Qv)
theorem nu (ej:V.M.den=den)(m ak:Nat)(fs:d){c:bL}{L:aJ}{L':Nat->aJ}{f:Nat->Nat->ig}(h:∀(hd own past:Option ay) (below:b9) (p:aw) (N J U:Nat),vu fs [] [] (fN den V m ⟨c,hd,own,below,past⟩ p (den c) (St.of V ⟨L,[],N,J,[],U⟩ ak []))=some (.ret (f N J),⟨L' N,[],N+dN,J+dt,[],U⟩,vw (fN den V m ⟨c,hd,own,below,past⟩ p (den c) (St.of V ⟨L,[],N,J,[],U⟩ ak [])))):Bi V room c L L' f dN dt:=by
 rintro ⟨cd,hd,own,below,past⟩ p N J U cv _
 have cv:cd=c:=cv
 subst cv
 rw [ej]
 exact gI.of ej ak [] fs [] [] (h hd own past below p N J U)
theorem qY {id:String}{B:Builtin}{m:Made}{f:Nat->ay}(ej:V.M.den=aA)(hp:plainId id=true)(h1:aA (.call (.builtin id) args)= .pure (.again (.builtin id args)))(entry:entryFor table id=some B)(g:Gives (B args) m)(hm:∀(Q:ay->bI->Prop) (s:bI),Q (f s.toks) {s with toks:=s.toks+dt}->m.post Q s):Bi V 0 (bV true id args) [] (λ_=>[]) (λ_ t=> .ok (.ret (f t))) 0 dt:=by
 refine dO λA s _ _ _ _ R=> ?_
 have key:∀R:ig->bI->Prop,R (.ok (.ret (f s.toks))) {s with toks:=s.toks+dt}->codeAny V.M A (.call (.builtin id) args) R s:=by
  intro R hR
  refine codeAny_of_tree ?_
  rw [ej,h1]
  refine dh ⟨plainId_quiet hp args,?_⟩
  refine codeAny_builtin entry ?_
  rw [Around.under_plainId hp args]
  exact g V.prog V.w A R s (hm (λv s'=>R (.ok (.ret v)) s') s hR)
 exact key _ ⟨rfl,R.tick dt rfl rfl bH⟩
theorem Ik {id:String}{B:Builtin}{x:Str}(ej:V.M.den=aA)(hp:plainId id=true)(h1:aA (.call (.builtin id) args)= .pure (.again (.builtin id args)))(entry:entryFor table id=some B)(g:Gives (B args) (.str x))(hx:x.length<=sizeLine):Bi V 0 (bV true id args) [] (λ_=>[]) (λ_ t=> .ok (.ret (.str x t))) 0 1:=qY ej hp h1 entry g λ_ _ q=>⟨hx,q⟩
theorem dX {id:String}{B:Builtin}{A:Around}{R:ig->bI->Prop}(hp:plainId id=true)(entry:entryFor table id=some B)(h:wpAny V.M A.in1 (B args) (λfin s'=>match fin with| .done f=>R (.ok f) s'| .again c'=>c'.quiet=true/\codeAny V.M A c' R s') (λe s'=>R (.error e) s') s):codeAny V.M A (bV false id args) R s:=by
 refine codeAny_builtin entry ?_
 rw [Around.under_plainId hp args]
 exact h
theorem CQ {w:WB}{id:String}{B:Builtin}(entry:entryFor table id=some B):(VV w).M.den (.builtin id args)=B args:=by
 show denote table (.builtin id args)=_
 delta denote
 dsimp only
 rw [entry]
end
section
variable {w:WB}
theorem Qy (a:d)(i c:Nat)(ta tb:Nat)(hi:i<100000)(h:a[i]? =some c):Bi (VV w) 0 (bV true "str.__getitem__" ⟨[Z a ta,.int (O i) tb],[]⟩) [] (λ_=>[]) (λ_ t=> .ok (.ret (Z [c] t))) 0 1:=by
 refine Ik (aT w) (by decide+kernel) (by kernel_rfl) entry_str_getitem (gives_str_getitem ⟨⟨a⟩⟩ (O i) ta tb c ?_ ?_) (by show 1<=2^24;decide)
 ·rw [decide_eq_false (by show¬((i:Int)<_);lia),decide_eq_false (by show¬((i:Int)≥_);lia)]
  rfl
 ·have hl:i<a.length:=(mf.mp h).1
  have e:seqIndex? (i:Int) a.length=some i:=by
   delta seqIndex?
   simp only [show¬((i:Int)<0)from by lia,if_false]
   rw [if_pos (by simp;lia)]
   rfl
  show(seqIndex? (i:Int) a.length).bind _=some c
  rw [e]
  show(⟨a⟩:Array Nat)[i]? =some c
  simpa using h
theorem Qz (a b:Int)(ta tb:Nat):Bi (VV w) 0 (bV true "int.__gt__" ⟨[.int a ta,.int b tb],[]⟩) [] (λ_=>[]) (λ_ _=> .ok (.ret (.bool (decide (a>b))))) 0 0:=
 nu (aT w) 100 0 [] (by intro hd own past below p N J U;kernel_rfl)
noncomputable def Il (x:Str):SF:=PySem.W.R.bindR (if x.length>sizeLine then .unsupported "str:memory" else .fresh λt=> .pure (.str x t)) λv=> .pure (.done (.ret v))
theorem QA {x:Str}{l:d}(e:x.cps.toList=l)(h:l.length<=100000):Il x= .fresh λt=> .pure (.done (.ret (Z l t))):=by
 obtain⟨⟨x⟩⟩:=x
 have e:x=l:=e
 subst e
 delta Il
 rw [if_neg]
 ·rfl
 ·show¬x.length>2^24
  lia
noncomputable def Im (a b:Str):Str:= @HAppend.hAppend Str Str Str (@instHAppendOfAppend Str PySem.W.Fast.tw178013285451222756) a b
theorem QB (a b:d):(Im ⟨⟨a⟩⟩ ⟨⟨b⟩⟩).cps.toList=a++b:=by
 delta Im
 rw [<-PySem.W.Fast.te178013285451222756]
 show(Array.append _ _).toList=_
 simp
noncomputable def cD (a b:d)(ta tb t:Nat):Nat:=if a=[]then tb else if b=[]then ta else t
noncomputable def cE (a b:d):Nat:=if a=[]then 0 else if b=[]then 0 else 1
theorem QC (ej:V.M.den=aA){id:String}{v:Nat->ay}(hq:(Code.builtin id args).quiet=true)(h1:aA (.call (.builtin id) args)= .pure (.again (.builtin id args)))(h2:aA (.builtin id args)= .fresh λt=> .pure (.done (.ret (v t)))):Bi V 0 (bV true id args) [] (λ_=>[]) (λ_ t=> .ok (.ret (v t))) 0 1:=by
 intro Γ p N J U cv _ s R
 refine da ({s with toks:=s.toks+1}) (R.tick 1 rfl rfl bH) ?_
 show Runs V.M Γ p (V.M.den (.call (.builtin id) args)) [] s _ _
 rw [ej,h1]
 refine .again hq ?_
 rw [ej,h2]
 have e:s.toks=J:=R.toks
 rw [<-e]
 exact .fresh .done
theorem QD (a b:d)(ta tb:Nat)(h:a.length+b.length<=100000):Bi (VV w) 0 (bV true "str.__add__" ⟨[Z a ta,Z b tb],[]⟩) [] (λ_=>[]) (λ_ t=> .ok (.ret (Z (a++b) (cD a b ta tb t)))) 0 (cE a b):=by
 cases a with
 |nil=>
  have am:Bi (VV w) 0 (bV true "str.__add__" ⟨[Z [] ta,Z b tb],[]⟩) [] (λ_=>[]) (λ_ _=> .ok (.ret (Z b tb))) 0 0:=
   nu (aT w) 100 0 [] (by intro hd own past below p N J U;kernel_rfl)
  simpa [cD,cE]using am
 |cons c a=>
  cases b with
  |nil=>
   have am:Bi (VV w) 0 (bV true "str.__add__" ⟨[Z (c::a) ta,Z [] tb],[]⟩) [] (λ_=>[]) (λ_ _=> .ok (.ret (Z (c::a) ta))) 0 0:=
    nu (aT w) 100 0 [] (by intro hd own past below p N J U;kernel_rfl)
   simpa [cD,cE]using am
  |cons ah b=>
   have am:=QC (aT w) (id:="str.__add__") (args:=⟨[Z (c::a) ta,Z (ah::b) tb],[]⟩) (by kernel_rfl) (by kernel_rfl) (by
    rw [<-QA (QB _ _) (by rw [ci];exact h)]
    kernel_rfl)
   simpa [cD,cE]using am
noncomputable def cb (w:WB){a b:Int}(ta tb:Nat){r:Bool}(h:decide (a>b)=r):aM w:= .bi _ _ _ _ [] _ _ _ _ _ (h▸Qz a b ta tb)
noncomputable def dY (w:WB){a b:d}(ta tb:Nat)(h:a.length+b.length<=100000):aM w:= .bi _ _ _ _ [] _ _ _ _ _ (QD a b ta tb h)
noncomputable def jP (w:WB)(a:d)(i c:Nat)(ta tb:Nat)(hi:i<100000)(h:a[i]? =some c):aM w:= .bi _ _ _ _ [] _ _ _ _ _ (Qy a i c ta tb hi h)
theorem QE (I l i e:Nat)(Y:LV)(v:ay)(h:Y[i]? =some v):Bi (VV w) 0 (bV false "list_iterator.__next__" ⟨[.ref I],[]⟩) [(I,bM l i),(l,aq Y e)] (λ_=>[(I,bM l (i+1)),(l,aq Y e)]) (λ_ _=> .ok (.ret v)) 0 0:=by
 refine dO λA s _ _ _ _ R=>dX (by decide+kernel) entry_listiter_next ?_
 have ho:=R.led _ (.head _)
 have hl:=R.led _ (.tail _ (.head _))
 have up:=R.upd (C':=cf [(I,bM l (i+1)),(l,aq Y e)] s) (f:=Obj.mapFields (·.setIfInBounds 1 (ft (((i:Nat):Int)+1)))) (.refl _) (.refl _) rfl rfl bH
 show wpAny (model _ _) _ (field (.ref I) 0>>=_) _ _ s
 refine bf (fI ho rfl rfl ?_)
 show wpAny _ _ (if(aQ l==mg)=true then _ else _) _ _ s
 refine wpAny_ite_false (decide_eq_false (show¬((aQ l==mg)=true)from qu)) ?_
 show wpAny _ _ (field (.ref I) 1>>=_) _ _ s
 refine bf (fI ho rfl (x:= .int ((i:Nat):Int) 0) rfl ?_)
 show wpAny _ _ (seqItems? (.ref l)>>=_) _ _ s
 refine bf (lj hl rfl ?_)
 have hv:(⟨Y⟩:Array ay)[i]? =some v:=by simpa using h
 simp only [r5,hv]
 refine bf (wpAny_setField ho rfl (by show 1<2;decide) ?_)
 exact dh ⟨rfl,up⟩
noncomputable def qZ (N:Nat):az:=rec "StopIteration" [.ref N,.none,.none,.none,.bool false,.none]
noncomputable def eY (i:Nat):az:=rec "list_iterator" [.none,.int (O i) 0]
theorem QF {L:aJ}(R:Rep V (cf ((I,o)::L) s) s)(f:az->az)(hf:f o=o')(hn:o'.isFreed=false):Good V (cf ((I,o)::L) s) ⟨(s.heap.objs.size+1,qZ s.heap.objs.size)::(s.heap.objs.size,aG [])::(I,o')::L,[],s.heap.objs.size+2,s.toks,[],s.gens.size⟩ s {s with heap:=((s.heap.update I f).push (aG [])).push (qZ s.heap.objs.size)}/\(s.heap.update I f).objs.size=s.heap.objs.size:=by
 subst hf
 have g1:=R.upd (C':=cf ((I,f o)::L) s) (.refl _) (.refl _) hn rfl bH
 have g2:=g1.rep.new (C':=⟨(s.heap.objs.size,aG [])::(I,f o)::L,[],s.heap.objs.size+1,s.toks,[],s.gens.size⟩) rfl rfl rfl bH
 have g3:=g2.rep.new (C':=⟨(s.heap.objs.size+1,qZ s.heap.objs.size)::(s.heap.objs.size,aG [])::(I,f o)::L,[],s.heap.objs.size+2,s.toks,[],s.gens.size⟩) rfl rfl rfl bH
 exact⟨g1.trans (g2.trans g3),g1.rep.size⟩
theorem CR {A:Around}{L:aJ}{Q:PySem.Fin->bI->Prop}{R':ay->bI->Prop}(R:Rep V (cf ((I,o)::L) s) s)(f:az->az)(hf:f o=o')(hn:o'.isFreed=false)(hh:A.handled=none)(h:∀s',Good V (cf ((I,o)::L) s) ⟨(s.heap.objs.size+1,qZ s.heap.objs.size)::(s.heap.objs.size,aG [])::(I,o')::L,[],s.heap.objs.size+2,s.toks,[],s.gens.size⟩ s s'->R' (.ref (s.heap.objs.size+1)) s'):wpAny V.M A.in1 Builtin.SmallTypes.stopIteration Q R' {s with heap:=s.heap.update I f}:=by
 refine cB (QF R f hf hn) λg e1=> ?_
 show wpAny _ _ (newExc (.type "StopIteration") []>>=_) _ _ _
 refine bf ?_
 simp only [newExc,newTuple]
 refine bf (wpAny_newObj_type ?_ (by size_fits))
 refine bf (wpAny_of_eq (by first|rfl|(simp only [firstArgMember];rfl)) ?_)
 refine wpAny_newObj_type ?_ (by size_fits)
 simp only [raiseNew]
 refine bf (wpAny_handled ?_)
 rw [show A.in1.handled=none from hh]
 refine bf (dh (wpAny_throw ?_))
 have e2:((s.heap.update I f).push {cls:= .type "tuple",data:= .seq [].toArray}).objs.size=s.heap.objs.size+1:=by rw [Heap.size_push,e1]
 simp only [e1,e2]
 exact h _ g
end
section
variable {w:WB}
theorem QG (I l i e:Nat)(Y:LV)(h:Y[i]? =none):Bi (VV w) 1 (bV false "list_iterator.__next__" ⟨[.ref I],[]⟩) [(I,bM l i),(l,aq Y e)] (λN=>[(N+1,qZ N),(N,aG []),(I,eY i),(l,aq Y e)]) (λN _=> .error (.ref (N+1))) 2 0:=by
 refine dO λA s hh _ _ _ R=>dX (by decide+kernel) entry_listiter_next ?_
 have ho:=R.led _ (.head _)
 have hl:=R.led _ (.tail _ (.head _))
 show wpAny (model _ _) _ (field (.ref I) 0>>=_) _ _ s
 refine bf (fI ho rfl rfl ?_)
 show wpAny _ _ (if(aQ l==mg)=true then _ else _) _ _ s
 refine wpAny_ite_false (decide_eq_false (show¬((aQ l==mg)=true)from qu)) ?_
 show wpAny _ _ (field (.ref I) 1>>=_) _ _ s
 refine bf (fI ho rfl (x:= .int ((i:Nat):Int) 0) rfl ?_)
 show wpAny _ _ (seqItems? (.ref l)>>=_) _ _ s
 refine bf (lj hl rfl ?_)
 have hv:(⟨Y⟩:Array ay)[i]? =none:=by simpa using h
 simp only [r5,hv]
 refine bf (wpAny_rule (bf (wpAny_setField ho rfl (by show 0<2;decide) ?_)))
 exact CR R (Obj.mapFields (·.setIfInBounds 0 .none)) rfl rfl (hh (b7 _)) λs' g=>⟨rfl,g⟩
theorem QH (l e:Nat)(Y:LV)(v:ay)(h:Y.length<=100000):Bi (VV w) 0 (bV false "list.append" ⟨[.ref l,v],[]⟩) [(l,aq Y e)] (λ_=>[(l,aq (Y++[v]) (e+1))]) (λ_ _=> .ok (.ret .none)) 0 0:=by
 refine dO λA s _ _ _ _ R=>dX (B:=Builtin.«list.append») (by decide+kernel) (kK (by kernel_rfl)) ?_
 have ho:=R.led _ (.head _)
 have hm:Obj.mapSeq (λxs=>xs.push v) (aq Y e)=aq (Y++[v]) (e+1):=by
  simp [Obj.mapSeq,aq]
 have up:=R.upd (x:=(l,aq Y e)) (C':=cf [(l,aq (Y++[v]) (e+1))] s) (f:=Obj.mapSeq λxs=>xs.push v) (.refl _) (by show cg [(l,aq (Y++[v]) (e+1))] [(l,Obj.mapSeq (λxs=>xs.push v) (aq Y e))];rw [hm]) (by show Obj.isFreed (Obj.mapSeq (λxs=>xs.push v) (aq Y e))=false;rw [hm];rfl) rfl bH
 exact list_append l ⟨Y⟩ e v (by show Y.length<=2^24;lia) _ _ A (λr s'=>r= .ok (.ret .none)/\Good (VV w) (cf [(l,aq Y e)] s) ⟨[(l,aq (Y++[v]) (e+1))],[],s.heap.objs.size,s.toks,[],s.gens.size⟩ s s') s ⟨ho,⟨rfl,up⟩⟩
theorem QI (l e:Nat)(Y:LV)(h:Y.length<=100000):Bi (VV w) 0 (bV false "len" ⟨[.ref l],[]⟩) [(l,aq Y e)] (λ_=>[(l,aq Y e)]) (λ_ t=> .ok (.ret (.int (O Y.length) (t+1)))) 0 2:=by
 refine dO λA s _ _ _ _ R=>dX (by decide+kernel) entry_len ?_
 have ho:=R.led _ (.head _)
 refine wpAny_mono (wpAny_len_body_list (Q:=λv s'=>v= .int (O Y.length) (s.toks+1)/\s'={s with toks:=s.toks+2}) ⟨_,ho,rfl,e,rfl⟩ (by show((Y.length:Nat):Int)<2^63;lia) pe) ?_ (λ_ _ h=>h)
 rintro fin s' ⟨r,rfl,rfl,rfl⟩
 exact⟨rfl,R.tick 2 rfl rfl bH⟩
noncomputable def ox:Option Nat->Nat->ay
 |none,_=> .none
 |some n,t=> .int (O n) t
noncomputable def eZ (Y:LV)(lo hi:Option Nat):LV:=(slicePick ⟨Y⟩ (lo.map O) (hi.map O) none).toList
theorem wg (o:Option Nat)(t:Nat):IsPart (ox o t) (o.map O):=by
 cases o with
 |none=>exact .none
 |some n=>exact .int _ _
theorem CS (sl l e ta tb:Nat)(Y:LV)(lo hi:Option Nat)(h:Y.length<=100000):Bi (VV w) 0 (bV false "list.__getitem__" ⟨[.ref l,.ref sl],[]⟩) [(sl,rec "slice" [ox lo ta,ox hi tb,.none]),(l,aq Y e)] (λN=>[(N,aq (eZ Y lo hi) 0),(sl,rec "slice" [ox lo ta,ox hi tb,.none]),(l,aq Y e)]) (λN _=> .ok (.ret (.ref N))) 1 0:=by
 refine dO λA s _ _ _ _ R=>dX (by decide+kernel) entry_list_getitem ?_
 have dp:=R.led _ (.head _)
 have ho:=R.led _ (.tail _ (.head _))
 have mF:s.TypeIs (.ref sl) "slice":=⟨_,dp,rfl⟩
 have g:=R.new (C':=⟨[(s.heap.objs.size,aq (eZ Y lo hi) 0),(sl,rec "slice" [ox lo ta,ox hi tb,.none]),(l,aq Y e)],[],s.heap.objs.size+1,s.toks,[],s.gens.size⟩) rfl rfl rfl bH
 show wpAny (model _ _) _ (Builtin.List.listSubscript? (.ref sl)>>=_) _ _ s
 refine bf ?_
 delta Builtin.List.listSubscript?
 refine bf (wpAny_specialOf mF slice_no_index ?_)
 simp only [Gm,if_true]
 refine dh ?_
 show wpAny _ _ (typeOf (.ref sl)>>=_) _ _ s
 refine bf (wpAny_typeOf mF ?_)
 refine wpAny_ite_false rfl ?_
 rw [listSliceParts_eq]
 refine bf (bf (fI dp rfl rfl (bf (m7 .none ?_))))
 refine wpAny_ite_false rfl ?_
 refine bf (fI dp rfl rfl (bf (m7 (wg lo ta) ?_)))
 refine bf (fI dp rfl rfl (bf (m7 (wg hi tb) (dh ?_))))
 refine bf ?_
 delta Builtin.List.listItems
 refine bf (lj ho rfl (dh ?_))
 refine bf (wpAny_of_eq (sliceIndices_raw (lo.map O) (hi.map O) none Y.length (by simp)) ?_)
 refine bf (wpAny_newObj_type (dh ?_) (iR (slicePick_size_le ⟨Y⟩ (lo.map O) (hi.map O) none) (by show Y.length<=2^24;lia)))
 exact⟨rfl,g⟩
noncomputable def c9 (w:WB)(aH:d)(I l:Nat){i:Nat}(e:Nat){Y:LV}{v:ay}(h:Y[i]? =some v):aM w:= .bi _ _ _ _ aH _ _ _ _ _ (QE I l i e Y v h)
noncomputable def gz (w:WB)(aH:d)(I l:Nat){i:Nat}(e:Nat){Y:LV}(h:Y[i]? =none):aM w:= .bi _ _ _ _ aH _ _ _ _ _ (QG I l i e Y h)
noncomputable def bR (w:WB)(aH:d)(l e:Nat){Y:LV}(v:ay)(h:Y.length<=100000):aM w:= .bi _ _ _ _ aH _ _ _ _ _ (QH l e Y v h)
noncomputable def cT (w:WB)(aH:d)(l e:Nat){Y:LV}(h:Y.length<=100000):aM w:= .bi _ _ _ _ aH _ _ _ _ _ (QI l e Y h)
end
theorem CT (Y:LV)(b:Nat):eZ Y none (some b)=Y.take b:=by
 by_cases h:b<=Y.length
 ·have:=slicePick_upto ⟨Y⟩ b h
  show(slicePick ⟨Y⟩ none (some (b:Int)) none).toList=_
  rw [this]
 ·have e:slicePick ⟨Y⟩ none (some (b:Int)) none=slicePick ⟨Y⟩ none (some (Y.length:Int)) none:=by
   delta slicePick sliceBounds
   have hm:max 0 (min (b:Int) (Y.length:Int))=max 0 (min (Y.length:Int) (Y.length:Int)):=by lia
   simp only [Option.getD_none]
   simp [show¬((b:Int)<0)from by lia,show¬((Y.length:Int)<0)from by lia,hm]
  show(slicePick ⟨Y⟩ none (some (b:Int)) none).toList=_
  rw [e,slicePick_upto ⟨Y⟩ Y.length (b7 _)]
  show Y.take Y.length=Y.take b
  rw [M4 (b7 _),M4 (by lia)]
noncomputable def aR (l:bB):LV:=l.map λx=>Z x.1 x.2
theorem wh {l:bB}{x:d×Nat}(h:l[i]? =some x):(aR l)[i]? =some (Z x.1 x.2):=by
 delta aR;rw [iv,h];rfl
theorem CU {l:bB}(h:l[i]? =none):(aR l)[i]? =none:=by
 delta aR;rw [iv,h];rfl
theorem QJ (a b:bB):aR (a++b)=aR a++aR b:=cx
section
variable {w:WB}
theorem aeV (a:d)(t:Nat):Bi (VV w) 0 (bV true "str.__len__" ⟨[Z a t],[]⟩) [] (λ_=>[]) (λ_ t=> .ok (.ret (.int (O a.length) t))) 0 1:=
 qY (aT w) (by decide+kernel) (by kernel_rfl) F.entry_str_len (gives_str_len ⟨⟨a⟩⟩ t) λ_ _ q=>q
theorem QK (a b:d)(ta tb:Nat):Bi (VV w) 0 (bV true "str.__eq__" ⟨[Z a ta,Z b tb],[]⟩) [] (λ_=>[]) (λ_ _=> .ok (.ret (.bool (a==b)))) 0 0:=
 qY (aT w) (by decide+kernel) (by kernel_rfl) F.entry_str_eq (gives_str_eq ⟨⟨a⟩⟩ ⟨⟨b⟩⟩ ta tb) λ_ _ q=>q
theorem QM (a b:d)(ta tb:Nat):Bi (VV w) 0 (bV true "str.__ne__" ⟨[Z a ta,Z b tb],[]⟩) [] (λ_=>[]) (λ_ _=> .ok (.ret (.bool (a !=b)))) 0 0:=
 qY (aT w) (by decide+kernel) (by kernel_rfl) F.entry_str_ne (gives_str_ne ⟨⟨a⟩⟩ ⟨⟨b⟩⟩ ta tb) λ_ _ q=>q
theorem QN (a:d)(t:Nat):Bi (VV w) 0 (bV true "str.isspace" ⟨[Z a t],[]⟩) [] (λ_=>[]) (λ_ _=> .ok (.ret (.bool (a.length>0&&a.all Unicode.isSpace)))) 0 0:=by
 have am:=qY (aT w) (id:="str.isspace") (args:=⟨[Z a t],[]⟩) (f:=λ_=> .bool (a.length>0&&a.all Unicode.isSpace)) (dt:=0) (by decide+kernel) (by kernel_rfl) F.entry_str_isspace (gives_str_isspace ⟨⟨a⟩⟩ t) λQ s q=>by
  show Q (.bool (decide (a.length>0)&&(⟨a⟩:Array Nat).all Unicode.isSpace)) s
  have e:(⟨a⟩:Array Nat).all Unicode.isSpace=a.all Unicode.isSpace:=by simp
  rw [e];exact q
 exact am
noncomputable def bp (bC:d):List d->d
 |[]=>[]
 |[x]=>x
 |x::y::r=>x++bC++bp bC (y::r)
theorem QO (bC:d):∀(r:List d) (x:d),((r.map λy=>(⟨⟨y⟩⟩:Str)).foldl (λav p=>av++(⟨⟨bC⟩⟩:Str).cps++p.cps) (⟨x⟩:Array Nat)).toList=bp bC (x::r):=by
 intro r
 induction r with
 |nil=>
  intro x
  exact rfl
 |cons y r aS=>
  intro x
  rw [bY,qv]
  have e:(⟨x⟩:Array Nat)++(⟨⟨bC⟩⟩:Str).cps++(⟨⟨y⟩⟩:Str).cps=⟨x++bC++y⟩:=by simp
  rw [e,aS]
  cases r with
  |nil=>rfl
  |cons am r=>simp [bp]
theorem CW (bC:d)(l:List d):(Builtin.Str.glued ⟨⟨bC⟩⟩ (l.map λy=>(⟨⟨y⟩⟩:Str)))=⟨⟨bp bC l⟩⟩:=by
 delta Builtin.Str.glued
 cases l with
 |nil=>rfl
 |cons x r=>
  have:=QO bC r x
  rw [bY]
  show(⟨(r.map λy=>(⟨⟨y⟩⟩:Str)).foldl _ (⟨x⟩:Array Nat)⟩:Str)=_
  congr 1
  exact Array.toList_inj.mp this
noncomputable def fh (l:bB)(t:Nat):Nat:=match l with
 |[x]=>x.2
 |_=>t
noncomputable def fj (l:bB):Nat:=match l with
 |[_]=>0
 |_=>1
theorem CX {l:bB}(h:(l.map λx=>x.1.length).sum+l.length*bC.length<=100000):Builtin.Str.tooLong (((l.map λx=>((⟨⟨x.1⟩⟩:Str),x.2)).map (·.1)).toArray.foldl (·+ ·.length+(⟨⟨bC⟩⟩:Str).length) 0)=false:=by
 have e:=StrLaws.joinTotal ⟨⟨bC⟩⟩ ((l.map λx=>((⟨⟨x.1⟩⟩:Str),x.2)).map (·.1))
 have e2:(((l.map λx=>((⟨⟨x.1⟩⟩:Str),x.2)).map (·.1)).map (·.length))=l.map λx=>x.1.length:=by
  rw [eF,eF];rfl
 rw [e2,bA,bA]at e
 have e3:((l.map λx=>((⟨⟨x.1⟩⟩:Str),x.2)).map (·.1)).toArray.foldl (λa p=>a+p.length+(⟨⟨bC⟩⟩:Str).length) 0<=100000:=by
  rw [e];exact h
 exact decide_eq_false (by show¬(_>2^24);lia)
theorem CY (l:bB):strValues (l.map λx=>((⟨⟨x.1⟩⟩:Str),x.2))=aR l:=by
 delta strValues aR
 rw [eF];rfl
theorem Io (l:bB):(l.map λx=>((⟨⟨x.1⟩⟩:Str),x.2)).map (·.1)=(l.map aD).map λy=>(⟨⟨y⟩⟩:Str):=by
 rw [eF,eF];rfl
theorem Ip (bC:d):∀l:List d,(bp bC l).length<=(l.map dn).sum+l.length*bC.length:=by
 intro l
 induction l with
 |nil=>
  simp [bp]
 |cons x rq aS=>
  cases rq with
  |nil=>
   simp [bp]
  |cons y r=>
   have:=aS
   simp only [bp,ci,bY,uY,cy,M5]at this⊢
   lia
theorem Iq {l:bB}(h:(l.map λx=>x.1.length).sum+l.length*bC.length<=100000){Q:ay->bI->Prop}(q:Q (Z (bp bC (l.map aD)) (fh l s.toks)) {s with toks:=s.toks+fj l}):
  (joinMade ⟨⟨bC⟩⟩ (l.map λx=>((⟨⟨x.1⟩⟩:Str),x.2))).post Q s:=by
 have hl:=Ip bC (l.map aD)
 rw [eF,bA]at hl
 have hl:(bp bC (l.map aD)).length<=100000:=iR hl h
 cases l with
 |nil=>exact⟨by show 0<=_;lia,q⟩
 |cons x r=>
  cases r with
  |nil=>exact q
  |cons y r=>
   have e:=CW bC ((x::y::r).map aD)
   rw [<-Io]at e
   have key:∀am,am=(⟨⟨bp bC ((x::y::r).map aD)⟩⟩:Str)->am.length<=sizeLine/\Q (.str am s.toks) {s with toks:=s.toks+1}:=by
    intro am hz
    subst hz
    exact⟨by show(bp bC ((x::y::r).map aD)).length<=2^24;lia,q⟩
   exact key _ e
theorem CZ (bC:d)(ts A e:Nat)(l:bB)(h:(l.map λx=>x.1.length).sum+l.length*bC.length<=100000):Bi (VV w) 0 (bV false "str.join" ⟨[Z bC ts,.ref A],[]⟩) [(A,aq (aR l) e)] (λ_=>[(A,aq (aR l) e)]) (λ_ t=> .ok (.ret (Z (bp bC (l.map aD)) (fh l t)))) 0 (fj l):=by
 refine dO λA' s _ _ _ _ R=>dX (by decide+kernel) F.entry_str_join ?_
 have ho:=R.led _ (.head _)
 refine meets_str_join_list ⟨⟨bC⟩⟩ ts A _ (CX h) _ _ _ (λr s'=>r= .ok (.ret (Z (bp bC (l.map aD)) (fh l s.toks)))/\Good (VV w) (cf [(A,aq (aR l) e)] s) ⟨[(A,aq (aR l) e)],[],s.heap.objs.size,s.toks+fj l,[],s.gens.size⟩ s s') s ⟨⟨_,ho,rfl,e,?_⟩,Iq h ⟨rfl,R.tick (fj l) rfl rfl bH⟩⟩
 rw [CY];rfl
theorem QP (bC:d)(ts A:Nat)(l:bB)(h:(l.map λx=>x.1.length).sum+l.length*bC.length<=100000):Bi (VV w) 0 (bV false "str.join" ⟨[Z bC ts,.ref A],[]⟩) [(A,aG (aR l))] (λ_=>[(A,aG (aR l))]) (λ_ t=> .ok (.ret (Z (bp bC (l.map aD)) (fh l t)))) 0 (fj l):=by
 refine dO λA' s _ _ _ _ R=>dX (by decide+kernel) F.entry_str_join ?_
 have ho:=R.led _ (.head _)
 refine meets_str_join_tuple ⟨⟨bC⟩⟩ ts A _ (CX h) _ _ _ (λr s'=>r= .ok (.ret (Z (bp bC (l.map aD)) (fh l s.toks)))/\Good (VV w) (cf [(A,aG (aR l))] s) ⟨[(A,aG (aR l))],[],s.heap.objs.size,s.toks+fj l,[],s.gens.size⟩ s s') s ⟨⟨_,0,ho,rfl,?_⟩,Iq h ⟨rfl,R.tick (fj l) rfl rfl bH⟩⟩
 rw [CY];rfl
end
section
open PySem.Builtin.Str
noncomputable def eJ (c:Nat):Nat->d->d
 |_,[]=>[]
 |i,ah::r=>if ah=c then i::eJ c (i+1) r else eJ c (i+1) r
theorem sub_one (x:d)(c i:Nat):subAt ⟨⟨x⟩⟩ ⟨⟨[c]⟩⟩ i=decide (x[i]? =some c):=by
 show((⟨x⟩:Array Nat).extract i (i+1)==⟨[c]⟩)=_
 have e:(⟨x⟩:Array Nat).extract i (i+1)=⟨(x.drop i).take 1⟩:=by
  apply Array.toList_inj.mp
  simp [M6]
 rw [e]
 cases h:x.drop i with
 |nil=>
  have:x[i]? =none:=by
   rw [aeE]
   exact List.drop_eq_nil_iff.mp h
  rw [this]
  rfl
 |cons ah r=>
  have:x[i]? =some ah:=by
   have:=BQ (xs:=x) (i:=i) (j:=0)
   rw [h]at this
   simpa using this.symm
  rw [this]
  show((⟨[ah]⟩:Array Nat)==⟨[c]⟩)=_
  by_cases q:ah=c
  ·subst q;simp
  ·simp [q]
theorem QQ (x:d)(c i free:Nat)(av:Array Nat)(hi:i<x.length)(q:x[i]=c)(ha:av.size<=i)(hf:free<=i):StrLaws.occBody ⟨⟨x⟩⟩ ⟨⟨[c]⟩⟩ x.length (x.length+1) i (av,free)=pure (ForInStep.yield (av.push i,i+1)):=by
 have hx:x[i]? =some x[i]:=cm hi
 delta StrLaws.occBody
 rw [if_pos]
 ·rfl
 ·refine⟨⟨⟨by show av.size<_;lia,hf⟩,by show i+1<=_;lia⟩,?_⟩
  rw [sub_one,hx,q];simp
theorem Ir (x:d)(c i free:Nat)(av:Array Nat)(q:x[i]?≠some c):StrLaws.occBody ⟨⟨x⟩⟩ ⟨⟨[c]⟩⟩ x.length (x.length+1) i (av,free)=pure (ForInStep.yield (av,free)):=by
 delta StrLaws.occBody
 rw [if_neg]
 intro hh
 have:=hh.2
 rw [sub_one]at this
 simp at this
 exact q this
theorem QS (x:d)(c:Nat):∀(k i:Nat) (av:Array Nat) (free:Nat),i+k=x.length+1->av.size<=i->free<=i-> (Id.run (forIn (jH i k) (av,free) (StrLaws.occBody ⟨⟨x⟩⟩ ⟨⟨[c]⟩⟩ x.length (x.length+1)))).fst.toList=av.toList++eJ c i (x.drop i):=by
 intro k
 induction k with
 |zero=>
  intro i av free h _ _
  rw [mh (by lia)]
  simp [eJ]
 |succ k aS=>
  intro i av free h ha hf
  rw [uZ,BR]
  by_cases hi:i<x.length
  ·rw [fJ hi]
   by_cases q:x[i]=c
   ·rw [QQ x c i free av hi q ha hf]
    have:=aS (i+1) (av.push i) (i+1) (by lia) (by simp;lia) (b7 _)
    rw [show eJ c i (x[i]::x.drop (i+1))=i::eJ c (i+1) (x.drop (i+1))from by rw [eJ,if_pos q]]
    refine Eq.trans this ?_
    simp
   ·rw [Ir x c i free av (by rw [cm hi];intro e;exact q (dv.inj e))]
    rw [show eJ c i (x[i]::x.drop (i+1))=eJ c (i+1) (x.drop (i+1))from by rw [eJ,if_neg q]]
    exact aS (i+1) av free (by lia) kf kf
  ·have hk:k=0:=by lia
   subst hk
   rw [Ir x c i free av (by rw [BS (by lia)];intro e;cases e),mh (by lia)]
   simp [eJ]
theorem Is (x:d)(c:Nat):occurrences ⟨⟨x⟩⟩ ⟨⟨[c]⟩⟩ 0 (⟨⟨x⟩⟩:Str).length ((⟨⟨x⟩⟩:Str).length+1)=eJ c 0 x:=by
 rw [StrLaws.occ_eq]
 have:=QS x c (x.length+1) 0 #[] 0 ji (by simp) (b7 _)
 rw [iS]at this
 exact this
noncomputable def pieces (x:d)(s:Nat)(mG:d):List d:=((s::mG.map (·+1)).zip (mG++[x.length])).map λ(i,j)=>(x.take j).drop i
theorem QT (x:d)(mG:d):partsBetween ⟨⟨x⟩⟩ mG 1=(pieces x 0 mG).map λy=>(⟨⟨y⟩⟩:Str):=by
 delta partsBetween pieces
 rw [eF]
 apply u6
 intro a _
 obtain⟨i,j⟩:=a
 show(⟨(⟨x⟩:Array Nat).extract i j⟩:Str)=⟨⟨_⟩⟩
 congr 1
 apply Array.toList_inj.mp
 simp [M6,List.drop_take]
theorem Iu (x:d)(s q:Nat)(mG:d):pieces x s (q::mG)=(x.take q).drop s::pieces x (q+1) mG:=by
 delta pieces
 simp
theorem QU (x:d)(s:Nat)(mG:d):∃a r,pieces x s mG=a::r:=by
 cases mG with
 |nil=>exact dU _ _ rfl
 |cons q r=>exact dU _ _ (Iu x s q r)
noncomputable def b5 (c:Nat)(am:d)(x:d):d:=x.flatMap λah=>if ah=c then am else [ah]
theorem QV (x:d)(c:Nat)(am:d):∀(k i s:Nat),i+k=x.length->s<=i->bp am (pieces x s (eJ c i (x.drop i)))=(x.take i).drop s++b5 c am (x.drop i):=by
 intro k
 induction k with
 |zero=>
  intro i s h hs
  rw [mh (by lia:x.length<=i)]
  simp [eJ,pieces,bp,b5,M4 (by lia:x.length<=i)]
 |succ k aS=>
  intro i s h hs
  have hi:i<x.length:=by lia
  have seg:(x.take (i+1)).drop s=(x.take i).drop s++[x[i]]:=by
   rw [List.take_succ_eq_append_getElem hi,Go (by simp;lia)]
  rw [fJ hi]
  by_cases q:x[i]=c
  ·rw [show eJ c i (x[i]::x.drop (i+1))=i::eJ c (i+1) (x.drop (i+1))from by rw [eJ,if_pos q],Iu]
   have ih:=aS (i+1) (i+1) (by lia) (b7 _)
   refine fK (QU x (i+1) (eJ c (i+1) (x.drop (i+1)))) λa r e=> ?_
   rw [e]at ih⊢
   rw [bp,ih]
   simp [b5,q,List.drop_take_self]
  ·rw [show eJ c i (x[i]::x.drop (i+1))=eJ c (i+1) (x.drop (i+1))from by rw [eJ,if_neg q]]
   have ih:=aS (i+1) s (by lia) kf
   rw [ih,seg]
   have e:b5 c am (x[i]::x.drop (i+1))=x[i]::b5 c am (x.drop (i+1)):=by delta b5;rw [Gp,if_neg q];rfl
   rw [e,bK,u7]
theorem QW (x:d)(c:Nat)(am:d):glued ⟨⟨am⟩⟩ (partsBetween ⟨⟨x⟩⟩ (eJ c 0 x) 1)=⟨⟨b5 c am x⟩⟩:=by
 rw [QT,CW]
 have:=QV x c am x.length 0 0 ji (b7 _)
 simp at this
 rw [this]
theorem QX (x:d)(c:Nat):∀i,(eJ c i x).isEmpty= !x.contains c:=by
 induction x with
 |nil=>intro i;rfl
 |cons ah r ih=>
  intro i
  unfold eJ
  by_cases q:ah=c
  ·subst q;simp
  ·rw [if_neg q,ih]
   have:¬c=ah:=λe=>q e.symm
   simp [this]
theorem QY {am:d}(h:x.contains c=false):b5 c am x=x:=by
 induction x with
 |nil=>rfl
 |cons ah r ih=>
  have h1:¬c=ah/\r.contains c=false:=by simpa using h
  unfold b5 at ih⊢
  rw [Gp,ih h1.2,if_neg (λe=>h1.1 e.symm)]
  rfl
theorem QZ (x:d)(c:Nat):∀i,(eJ c i x).length<=x.length:=by
 induction x with
 |nil=>intro i;simp [eJ]
 |cons ah r ih=>
  intro i
  unfold eJ
  split
  ·simp only [cy];have:=ih (i+1);lia
  ·simp only [cy];have:=ih (i+1);lia
theorem Iv (x:d)(c:Nat)(am:d):(b5 c am x).length<=x.length*(am.length+1):=by
 induction x with
 |nil=>simp [b5]
 |cons ah r ih=>
  have:(b5 c am (ah::r)).length=(if ah=c then am else [ah]).length+(b5 c am r).length:=by simp [b5]
  rw [this,cy,M5]
  split
  ·lia
  ·simp;lia
noncomputable def tW (c:Nat)(x:d)(t0 t:Nat):Nat:=if x.contains c then t else t0
noncomputable def oy (c:Nat)(x:d):Nat:=if x.contains c then 1 else 0
section
variable {w:WB}
theorem Q0 (x:d)(c:Nat)(am:d)(t u v:Nat)(hu:u≠0)(hv:v≠0)(C0:u≠v)(hz:am≠[c])(hl:x.length*(am.length+1)<=100000):Bi (VV w) 0 (bV true "str.replace" ⟨[Z x t,Z [c] u,Z am v],[]⟩) [] (λ_=>[]) (λ_ k=> .ok (.ret (Z (b5 c am x) (tW c x t k)))) 0 (oy c x):=by
 refine qY (aT w) (by decide+kernel) (by kernel_rfl) F.entry_str_replace (gives_str_replace ⟨⟨x⟩⟩ ⟨⟨[c]⟩⟩ ⟨⟨am⟩⟩ t u v ?_) ?_
 ·intro h
  refine⟨by simp [hu,hv],by simp [C0],?_,?_⟩
  ·have:¬((⟨⟨[c]⟩⟩:Str)=⟨⟨am⟩⟩):=by
    intro e
    injection e with e
    injection e with e
    exact hz e.symm
   simpa using this
  ·rw [Is]
   have:=QZ x c 0
   have h2:(eJ c 0 x).length*am.length<=x.length*am.length:=Nat.mul_le_mul_right _ this
   rw [Nat.mul_succ]at hl
   refine decide_eq_false ?_
   show¬(x.length+(eJ c 0 x).length*am.length>2^24)
   lia
 ·intro Q s q
  rw [Is]
  show Made.post (if((eJ c 0 x).isEmpty||false)=true then _ else _) Q s
  rw [Bool.or_false,QX]
  cases h:x.contains c with
  |false=>
   simp only [h,tW,oy]at q
   rw [QY h]at q
   exact q
  |true=>
   simp only [h,tW,oy,if_true]at q
   rw [if_neg (by simp)]
   have e:=QW x c am
   have key:∀y,y=(⟨⟨b5 c am x⟩⟩:Str)->y.length<=sizeLine/\Q (.str y s.toks) {s with toks:=s.toks+1}:=by
    intro y hy
    subst hy
    refine⟨?_,q⟩
    have:=Iv x c am
    show(b5 c am x).length<=2^24
    lia
   exact key _ e
noncomputable def bu (w:WB){a b:d}(ta tb:Nat){r:Bool}(h:(a==b)=r):aM w:= .bi _ _ _ _ [] _ _ _ _ _ (h▸QK a b ta tb)
noncomputable def g9 (w:WB){a b:d}(ta tb:Nat){r:Bool}(h:(a !=b)=r):aM w:= .bi _ _ _ _ [] _ _ _ _ _ (h▸QM a b ta tb)
noncomputable def mH (w:WB){a:d}(t:Nat){r:Bool}(h:(decide (a.length>0)&&a.all Unicode.isSpace)=r):aM w:= .bi _ _ _ _ [] _ _ _ _ _ (h▸QN a t)
noncomputable def Iw (w:WB)(aH:d){bC:d}(ts A e:Nat){l:bB}(h:(l.map λx=>x.1.length).sum+l.length*bC.length<=100000):aM w:= .bi _ _ _ _ aH _ _ _ _ _ (CZ bC ts A e l h)
noncomputable def Q1 (w:WB)(aH:d){bC:d}(ts A:Nat){l:bB}(h:(l.map λx=>x.1.length).sum+l.length*bC.length<=100000):aM w:= .bi _ _ _ _ aH _ _ _ _ _ (QP bC ts A l h)
noncomputable def Q2 (w:WB){x:d}(c:Nat){am:d}(t:Nat){u v:Nat}(hu:u≠0)(hv:v≠0)(C0:u≠v)(hz:am≠[c])(hl:x.length*(am.length+1)<=100000):aM w:= .bi _ _ _ _ [] _ _ _ _ _ (Q0 x c am t u v hu hv C0 hz hl)
theorem Q3 (a:d)(ta:Nat)(h:a.length<=100000):Bi (VV w) 0 (bV false "len" ⟨[Z a ta],[]⟩) [] (λ_=>[]) (λ_ t=> .ok (.ret (.int (O a.length) (t+1)))) 0 2:=by
 refine dO λA s _ _ _ _ R=>dX (by decide+kernel) entry_len ?_
 refine wpAny_mono (wpAny_len_body (Q:=λv s'=>v= .int (O a.length) (s.toks+1)/\s'={s with toks:=s.toks+2}) (typeIs_str _ _ _) F.slot_str_len F.entry_str_len (F.args_str_len_1 _) (gives_str_len ⟨⟨a⟩⟩ ta) (by show¬((a.length:Nat):Int)<0;lia) (by show¬((a.length:Nat):Int)≥2^63;lia) pe) ?_ (λ_ _ h=>h)
 rintro fin s' ⟨r,rfl,rfl,rfl⟩
 exact⟨rfl,R.tick 2 rfl rfl bH⟩
noncomputable def bZ (w:WB){a:d}(ta:Nat)(h:a.length<=100000):aM w:= .bi _ _ _ _ [] _ _ _ _ _ (Q3 a ta h)
end
end
section
open PySem.Sre PySem.Builtin.Re
noncomputable def dA:Nat->Sre.M->Sre.M
 |0,m=>m
 |k+1,m=>dA k m.step
theorem Ix {m:Sre.M}(h:m.outcome.isSome=true):m.step=m:=by delta Sre.M.step;rw [if_pos h]
theorem C1 {m:Sre.M}(h:m.outcome.isSome=true):∀k,dA k m=m:=by
 intro k
 induction k with
 |zero=>
  exact rfl
 |succ k aS=>
  unfold dA;rw [Ix h];exact aS
theorem Q4:∀(k:Nat) (m:Sre.M),m.runFor k=dA k m:=by
 intro k
 induction k with
 |zero=>
  intro m
  exact rfl
 |succ k aS=>
  intro m
  unfold Sre.M.runFor dA
  split
  ·rename_i h;rw [Ix h,C1 h]
  ·exact aS m.step
theorem wi:∀(j k:Nat) (m:Sre.M),dA (j+k) m=dA k (dA j m):=by
 intro j
 induction j with
 |zero=>
  intro k m
  rw [kI];rfl
 |succ j aS=>
  intro k m
  rw [Nat.succ_add];exact aS k m.step
section
variable {V:EV}
theorem Q5 (ho:m'.outcome.isSome=true):∀(n k:Nat) (m:Sre.M),k<=4*n->1<=n->dA k m=m'->ax V Γ p (reDrive n m) C (.ok m') p C:=by
 intro n
 induction n with
 |zero=>
  intro k m _ hn _
  lia
 |succ n aS=>
  intro k m hk _ h
  unfold reDrive
  dsimp only
  rw [Q4]
  by_cases hk4:k<=4
  ·have e:dA reTurnSteps m=m':=by
    show dA 4 m=m'
    have:=wi k (4-k) m
    rw [show k+(4-k)=4 from by lia,h,C1 ho]at this
    exact this
   rw [e,if_pos ho]
   exact ax.pure
  ·have e:dA (k-4) (dA reTurnSteps m)=m':=by
    show dA (k-4) (dA 4 m)=m'
    rw [<-wi,show 4+(k-4)=k from by lia];exact h
   by_cases hs:(dA reTurnSteps m).outcome.isSome=true
   ·have e2:dA reTurnSteps m=m':=by rw [C1 hs]at e;exact e
    rw [e2,if_pos ho]
    exact ax.pure
   ·rw [if_neg hs]
    show ax V Γ p (.rule "sre.turn" λ_=>reDrive n (dA reTurnSteps m)) C _ p C
    refine ax.idle (λ_ _ _ _ _ _ _ q=> .rule q) (aS (k-4) _ (by lia) (by lia) e)
theorem Q6 (f:Nat->Bool)(nm:Nat->String):∀(l:d),ax V Γ p (forIn l PUnit.unit (λi _=>if f i=true then(do PySem.rule (nm i);pure (ForInStep.yield PUnit.unit))else pure (ForInStep.yield PUnit.unit)):Sem PUnit) C (.ok PUnit.unit) p C:=by
 intro l
 induction l with
 |nil=>
  rw [List.forIn_nil];exact ax.pure
 |cons i l aS=>
  rw [BR]
  cases h:f i with
  |true=>
   show ax V Γ p (.rule (nm i) λ_=>forIn l PUnit.unit _) C _ p C
   exact ax.idle (λ_ _ _ _ _ _ _ q=> .rule q) (aS)
  |false=>
   show ax V Γ p (forIn l PUnit.unit _) C _ p C
   exact aS
theorem C2 {m:Sre.M}{b:Bool}(ho:m'.outcome=some (if b then .matched else .failed))(hk:k<=2^60)(h:dA k m=m'):ax V Γ p (reRunToEnd m) C (.ok (if b then some m' else none)) p C:=by
 delta reRunToEnd
 refine ax.bind (Q5 (by rw [ho];rfl) (2^64) k m c5 pd h) ?_
 refine ax.bind (Q6 (λi=>m'.seen.has i) (λi=>Sre.names.getD i "") _) ?_
 rw [ho]
 cases b
 ·exact ax.pure
 ·exact ax.pure
end
end
section
open PySem.Sre PySem.Builtin.Re
noncomputable def Q7 (P:aF)(a:Nat):Array ay:=match(oq P).get a with
 |some o=>match o.data with
  | .seq xs _=>xs
  |_=> #[]
 |none=> #[]
noncomputable def fD (P:aF)(a:Nat):Array Nat:=Array.map (λx=>x.toNat) (Array.map reRawOf (Q7 P a))
noncomputable def fk (c:Nat):Bool:=c==97||c==98||c==44||c==32||c==39||c==9||c==59||c==34||c==92
noncomputable def cF (c:Nat):Bool:=c==97||c==98||c==44
theorem C3 (h:fk c=true):c=97\/c=98\/c=44\/c=32\/c=39\/c=9\/c=59\/c=34\/c=92:=by
 delta fk at h
 simp only [xP,beq_iff_eq,or_assoc]at h
 exact h
noncomputable def C4 (e:Except String (Bool×Sre.Seen)):Option Bool:=match e with
 | .ok (b,_)=>some b
 | .error _=>none
theorem Iy {e:Except String (Bool×Sre.Seen)}{b:Bool}(h:C4 e=some b):∃sn,e= .ok (b,sn):=by
 cases e with
 |error _=>cases h
 |ok x=>obtain⟨b',sn⟩:=x;cases h;exact⟨sn,rfl⟩
section
variable {w:WB}
theorem Iz (P:aF)(h:fk c=true)(seen:Sre.Seen):C4 (inSet (fD P 214) c (fD P 214).size 5 true seen)=some (!cF c)/\C4 (accepts (fD P 214) 18 c seen)=some (!cF c):=by
 rcases C3 h with rfl|rfl|rfl|rfl|rfl|rfl|rfl|rfl|rfl<;>exact⟨by kernel_rfl,by kernel_rfl⟩
theorem Q8 {P:aF}{x:d}(hx:∀c∈x,fk c=true){m:Sre.M}(hc:m.code=fD P 214)(ht:m.text=⟨x⟩)(hl:m.lim=x.length):∀(fuel s:Nat) (seen:Sre.Seen),s+fuel=x.length+1-> ((∀c∈x.drop s,cF c=true)/\∃sn,m.admitted fuel s seen= .ok (none,sn))\/∃s' sn,s'<x.length/\cF (x[s']?.getD 0)=false/\m.admitted fuel s seen= .ok (some s',sn):=by
 intro fuel
 induction fuel with
 |zero=>
  intro s seen h
  exact .inl ⟨by rw [mh (by lia)];simp,seen,rfl⟩
 |succ fuel aS=>
  intro s seen h
  unfold Sre.M.admitted
  by_cases hs:s<x.length
  ·rw [if_neg (by rw [hl];lia)]
   have hg:m.text.getD s 0=x[s]:=by rw [ht];simp [hs]
   have ha:=hx x[s] (gt hs)
   refine dT (Iy (Iz P ha seen).1) λsn e=> ?_
   rw [hc,hg,e]
   cases nv:cF x[s]with
   |false=>exact .inr ⟨s,sn,hs,by rw [cm hs];exact nv,rfl⟩
   |true=>
    rcases aS (s+1) sn (by lia)with⟨h1,h2⟩|⟨s',nw,h1,h2,h3⟩
    ·refine .inl ⟨?_,h2⟩
     rw [fJ hs]
     intro c wj
     rcases gr.mp wj with rfl|wj
     ·exact nv
     ·exact h1 c wj
    ·exact .inr ⟨s',nw,h1,h2,h3⟩
  ·rw [if_pos (by rw [hl];lia)]
   exact .inl ⟨by rw [mh (by lia)];simp,seen,rfl⟩
noncomputable def lG (code text:Array Nat)(groups pos lim:Nat)(i0:Bool):Sre.M:=
 {code,text,lim,start:=pos,pc:=(header code).2,pos,handed:=pos,marks:=Array.replicate (2*groups) none,mustAdvance:=i0,seen:=if(header code).2==0 then{}else({}:Sre.Seen).add 14}
theorem IA (code text:Array Nat)(groups pos lim:Nat)(i0:Bool):Sre.forSearch code text groups pos lim i0=(if(decide (pos>lim)||decide (lim-pos<(header code).1))=true then(lG code text groups pos lim i0).say false else{lG code text groups pos lim i0 with lastStart:=if(decide ((header code).1>1)&& !((header code).2 !=0&&code.getD 2 0&&&5 !=0))=true then max pos (lim-((header code).1-1))else lim}.attemptFrom pos true):=rfl
noncomputable def oz (P:aF)(x:d)(s ls:Nat)(sn:Sre.Seen):Sre.M:={lG (fD P 214) ⟨x⟩ 0 0 x.length false with lastStart:=ls,mustAdvance:=false,seen:=sn}.attemptAt s true
theorem Q9 (P:aF)(x:d)(s ls:Nat)(sn:Sre.Seen):(oz P x s ls sn).step=(if s≥x.length then({oz P x s ls sn with seen:=(oz P x s ls sn).seen.add 13}:Sre.M).say false else
  match accepts (fD P 214) 18 ((⟨x⟩:Array Nat).getD s 0) (sn.add 13)with
  | .error why=>({oz P x s ls sn with seen:=(oz P x s ls sn).seen.add 13}:Sre.M).stick why
  | .ok (false,seen)=>({oz P x s ls sn with seen}:Sre.M).say false
  | .ok (true,seen)=>{oz P x s ls sn with seen,pc:=33,pos:=s+1}):=by kernel_rfl
theorem Ra {P:aF}{s ls:Nat}{sn:Sre.Seen}(hx:∀c∈x,fk c=true)(hs:s<x.length)(hu:cF (x[s]?.getD 0)=false):(dA 4 (oz P x s ls sn)).outcome=some .matched:=by
 have hg:(⟨x⟩:Array Nat).getD s 0=x[s]:=by simp [hs]
 rw [cm hs]at hu
 have hu:cF x[s]=false:=hu
 refine dT (Iy (Iz P (hx x[s] (gt hs)) (sn.add 13)).2) λnw e=> ?_
 rw [hu]at e
 show(dA 3 (oz P x s ls sn).step).outcome=_
 rw [Q9,if_neg (by lia),hg,e]
 kernel_rfl
theorem Rb {P:aF}(hx:∀c∈x,fk c=true)(bD:x≠[]):(x.all cF=true/\∃m',m'.outcome=some .failed/\dA 4 (Sre.forSearch (fD P 214) ⟨x⟩ 0 0 x.length false)=m')\/ (x.all cF=false/\∃m',m'.outcome=some .matched/\dA 4 (Sre.forSearch (fD P 214) ⟨x⟩ 0 0 x.length false)=m'):=by
 have hl:1<=x.length:=by cases x with|nil=>exact absurd rfl bD|cons=>simp
 rw [IA]
 have h1:(header (fD P 214)).1=1:=by kernel_rfl
 rw [h1,decide_eq_false (by lia:¬(0>x.length)),decide_eq_false (by lia:¬(x.length-0<1))]
 rw [if_neg (by simp)]
 have h2:(if(decide (1>1)&& !((header (fD P 214)).2 !=0&&(fD P 214).getD 2 0&&&5 !=0))=true then max 0 (x.length-(1-1))else x.length)=x.length:=by rfl
 rw [h2]
 delta Sre.M.attemptFrom
 have h3:(!({lG (fD P 214) ⟨x⟩ 0 0 x.length false with lastStart:=x.length}:Sre.M).hasFirstSet)=false:=by kernel_rfl
 rw [h3,if_neg (by simp)]
 rcases Q8 (m:={lG (fD P 214) ⟨x⟩ 0 0 x.length false with lastStart:=x.length}) hx rfl rfl rfl (x.length+1-0) 0 (lG (fD P 214) ⟨x⟩ 0 0 x.length false).seen ji with⟨ha,sn,e⟩|⟨s',sn,hs,hu,e⟩
 ·have e':Sre.M.admitted {lG (fD P 214) ⟨x⟩ 0 0 x.length false with lastStart:=x.length} (({lG (fD P 214) ⟨x⟩ 0 0 x.length false with lastStart:=x.length}:Sre.M).lim+1-0) 0 ({lG (fD P 214) ⟨x⟩ 0 0 x.length false with lastStart:=x.length}:Sre.M).seen= .ok (none,sn):=e
  rw [e']
  exact .inl ⟨o5.mpr ha,_,by kernel_rfl,rfl⟩
 ·have e':Sre.M.admitted {lG (fD P 214) ⟨x⟩ 0 0 x.length false with lastStart:=x.length} (({lG (fD P 214) ⟨x⟩ 0 0 x.length false with lastStart:=x.length}:Sre.M).lim+1-0) 0 ({lG (fD P 214) ⟨x⟩ 0 0 x.length false with lastStart:=x.length}:Sre.M).seen= .ok (some s',sn):=e
  rw [e']
  refine .inr ⟨?_,_,Ra hx hs hu,rfl⟩
  rw [cm hs]at hu
  have hu:cF x[s']=false:=hu
  cases q:x.all cF with
  |false=>rfl
  |true=>
   have:=o5.mp q x[s'] (gt hs)
   rw [hu]at this
   cases this
end
end
section
open PySem.Sre PySem.Builtin.Re
noncomputable def Rc (b:Bool)(N:Nat):ig:=match b with
 |true=> .ok (.ret .none)
 |false=> .ok (.ret (.ref (N+1)))
noncomputable def Rd (b:Bool):Nat:=match b with
 |true=>0
 |false=>2
section
variable {w:WB}
noncomputable def pN (P:aF)(x:d)(t:Nat):ReTarget:=⟨.ref 215,Z x t,fD P 214,⟨x⟩,0,0,min (0:Int).toNat (⟨x⟩:Array Nat).size,min (2^63-1:Int).toNat (⟨x⟩:Array Nat).size⟩
theorem Rf (x:d)(t:Nat):aE w Γ p (reTarget "re.Pattern.search" "search" ⟨[.ref 215,Z x t],[]⟩) ⟨[],[],N,J,[],U⟩ (.ok (pN w.P x t)) p ⟨[],[],N,J,[],U⟩:=
 ax.of (aT w) (n:=100) (m:=10) 0 [] [] [] [] (by kernel_rfl)
theorem cW.none:cW V Γ p (PySem.ret v) C (.ok (.ret v)) C:=ax.pure.done
theorem Rg (x:d)(t:Nat)(hx:∀c∈x,fk c=true)(bD:x≠[])(hl:x.length<=100000):aP w Γ p ((VV w).M.den (.builtin "re.Pattern.search" ⟨[.ref 215,Z x t],[]⟩)) ⟨[],[],N,J,[],U⟩ (if x.all cF then .ok (.ret .none)else .ok (.ret (.ref (N+1)))) ⟨[],[],if x.all cF then N else N+2,J,[],U⟩:=by
 rw [CQ (B:=Builtin.«re.Pattern.search») (kK (by kernel_rfl))]
 unfold Builtin.«re.Pattern.search»
 refine ax.c6 (Rf x t) ?_
 delta reAnswer
 have e1:(pN w.P x t).pos=0:=by
  show min 0 x.length=0
  exact Nat.zero_min _
 have e2:(pN w.P x t).lim=x.length:=by
  show min (2^63-1:Int).toNat x.length=x.length
  have:((2^63-1:Int)).toNat=0x7fffffffffffffff:=by decide
  rw [this]
  lia
 have e3:Sre.forSearch (pN w.P x t).code (pN w.P x t).text (pN w.P x t).groups (pN w.P x t).pos (pN w.P x t).lim false=Sre.forSearch (fD w.P 214) ⟨x⟩ 0 0 x.length false:=by
  rw [e1,e2];rfl
 rw [e3]
 rcases Rb hx bD with⟨ha,m',ho,h⟩|⟨ha,m',ho,h⟩
 ·refine ax.c6 (C2 (b:=false) ho (by decide) h) ?_
  rw [ha]
  exact cW.none
 ·refine ax.c6 (C2 (b:=true) ho (by decide) h) ?_
  rw [ha]
  show cW _ _ _ (reNewMatch _ _ _ _ _ m'>>=λv=>PySem.ret v) _ (.ok (.ret (.ref (N+1)))) ⟨[],[],N+2,J,[],U⟩
  refine ax.c6 (p₁:=p) (ax.of (aT w) (n:=100) (m:=10) 0 [] [] [] [] (by kernel_rfl))
   cW.none
theorem Rh (x:d)(t:Nat)(hx:∀c∈x,fk c=true)(bD:x≠[])(hl:x.length<=100000)(b:Bool)(hb:x.all cF=b):Bi (VV w) 0 (bV false "re.Pattern.search" ⟨[.ref 215,Z x t],[]⟩) [] (λ_=>[]) (λN _=>Rc b N) (Rd b) 0:=by
 intro Γ p N J U cv _
 have:=Rg (w:=w) (Γ:=Γ) (p:=p) (N:=N) (J:=J) (U:=U) x t hx bD hl
 rw [hb]at this
 cases b with
 |true=>exact this
 |false=>exact this
noncomputable def IB (w:WB){x:d}(t:Nat)(hx:∀c∈x,fk c=true)(bD:x≠[])(hl:x.length<=100000){b:Bool}(hb:x.all cF=b):aM w:= .bi _ _ _ _ [] _ _ _ _ _ (Rh x t hx bD hl b hb)
end
end
noncomputable def bS (x:d)(t i:Nat):az:=rec "str_ascii_iterator" [Z x t,.int (O i) 0]
noncomputable def nx (i:Nat):az:=rec "str_ascii_iterator" [.none,.int (O i) 0]
section
variable {w:WB}
theorem Ri (I i t c:Nat)(x:d)(h:x[i]? =some c):Bi (VV w) 0 (bV false "str_ascii_iterator.__next__" ⟨[.ref I],[]⟩) [(I,bS x t i)] (λ_=>[(I,bS x t (i+1))]) (λ_ t=> .ok (.ret (Z [c] t))) 0 1:=by
 refine dO λA s _ _ _ _ R=>dX (by decide+kernel) F.entry_str_ascii_iterator_next ?_
 have ho:=R.led _ (.head _)
 have up:=R.upd (x:=(I,bS x t i)) (C':=cf [(I,bS x t (i+1))] s) (f:=Obj.mapFields (·.setIfInBounds 1 (ft (((i:Nat):Int)+1)))) (.refl _) (.refl _) rfl rfl bH
 have J:=up.rep.tick (C':=⟨[(I,bS x t (i+1))],[],s.heap.objs.size,s.toks+1,[],s.gens.size⟩) 1 rfl rfl bH
 show wpAny (model _ _) _ (field (.ref I) 0>>=_) _ _ s
 refine bf (fI ho rfl rfl ?_)
 show wpAny _ _ (field (.ref I) 1>>=_) _ _ s
 refine bf (fI ho rfl (x:= .int ((i:Nat):Int) 0) rfl ?_)
 have hv:(⟨⟨x⟩⟩:Str).cps[i]? =some c:=by simpa using h
 simp only [r5,hv]
 refine bf (wpAny_setField ho rfl (by show 1<2;decide) (bf (wpAny_mkStr ?_)))
 exact dh ⟨rfl,up.trans J⟩
theorem Rj (I i t:Nat)(x:d)(h:x[i]? =none):Bi (VV w) 1 (bV false "str_ascii_iterator.__next__" ⟨[.ref I],[]⟩) [(I,bS x t i)] (λN=>[(N+1,qZ N),(N,aG []),(I,nx i)]) (λN _=> .error (.ref (N+1))) 2 0:=by
 refine dO λA s hh _ _ _ R=>dX (by decide+kernel) F.entry_str_ascii_iterator_next ?_
 have ho:=R.led _ (.head _)
 show wpAny (model _ _) _ (field (.ref I) 0>>=_) _ _ s
 refine bf (fI ho rfl rfl ?_)
 show wpAny _ _ (field (.ref I) 1>>=_) _ _ s
 refine bf (fI ho rfl (x:= .int ((i:Nat):Int) 0) rfl ?_)
 have hv:(⟨⟨x⟩⟩:Str).cps[i]? =none:=by simpa using h
 simp only [r5,hv]
 refine bf (wpAny_rule (bf (wpAny_setField ho rfl (by show 0<2;decide) (bf (wpAny_letGo ?_)))))
 exact CR R (Obj.mapFields (·.setIfInBounds 0 .none)) rfl rfl (hh (b7 _)) λs' g=>⟨rfl,g⟩
theorem Rk (x:d)(t:Nat)(hx:∀c∈x,c<128):Bi (VV w) 0 (bV true "str.__iter__" ⟨[Z x t],[]⟩) [] (λN=>[(N,bS x t 0)]) (λN _=> .ok (.ret (.ref N))) 1 0:=by
 have ha:x.all (λc=>decide (c<128))=true:=o5.mpr λc hc=>decide_eq_true (hx c hc)
 intro Γ p N J U cv _
 have e:(VV w).M.den (bV true "str.__iter__" ⟨[Z x t],[]⟩)= .pure (.again (.builtin "str.__iter__" ⟨[Z x t],[]⟩)):=by rw [aT];kernel_rfl
 rw [e]
 refine ax.again (by kernel_rfl) ax.pure ?_
 rw [CQ (B:=Builtin.«str.__iter__») (kK (by kernel_rfl))]
 show cW _ _ _ (newFields (if(true&&(⟨x⟩:Array Nat).all (λc=>decide (c<128)))=true then "str_ascii_iterator" else "str_iterator") [Z x t,ft 0]>>=λv=>PySem.ret v) _ _ _
 have e2:(⟨x⟩:Array Nat).all (λc=>decide (c<128))=true:=by rw [<-ha];simp
 rw [e2,Bool.and_self,if_pos rfl]
 exact ax.c6 (x:= .ref N) (p₁:=p) (bq:=⟨[(N,bS x t 0)],[],N+1,J,[],U⟩) (ax.of (aT w) (n:=100) (m:=10) 0 [] [0] [] [] (by kernel_rfl)) ax.pure.done
noncomputable def gA (w:WB)(aH:d)(I:Nat){i:Nat}(t:Nat){c:Nat}{x:d}(h:x[i]? =some c):aM w:= .bi _ _ _ _ aH _ _ _ _ _ (Ri I i t c x h)
noncomputable def oA (w:WB)(aH:d)(I:Nat){i:Nat}(t:Nat){x:d}(h:x[i]? =none):aM w:= .bi _ _ _ _ aH _ _ _ _ _ (Rj I i t x h)
noncomputable def il (w:WB){x:d}(t:Nat)(hx:∀c∈x,c<128):aM w:= .bi _ _ _ _ [] _ _ _ _ _ (Rk x t hx)
end
section
variable {w:WB}
theorem Rl (x:d)(c tx tc:Nat):Bi (VV w) 0 (bV true "str.__contains__" ⟨[Z x tx,Z [c] tc],[]⟩) [] (λ_=>[]) (λ_ _=> .ok (.ret (.bool (decide (c∈x))))) 0 0:=by
 have am:=qY (aT w) (id:="str.__contains__") (args:=⟨[Z x tx,Z [c] tc],[]⟩) (f:=λ_=> .bool (decide (c∈x))) (dt:=0) (by decide+kernel) (by kernel_rfl) F.entry_str_contains (gives_str_contains ⟨⟨x⟩⟩ ⟨⟨[c]⟩⟩ tx tc) λQ s q=>by
  have e:=StrLaws.found_one ⟨⟨x⟩⟩ c
  show Q (.bool !(Builtin.Str.occurrences ⟨⟨x⟩⟩ ⟨⟨[c]⟩⟩ 0 (⟨⟨x⟩⟩:Str).length 1).isEmpty) s
  have e':(!(Builtin.Str.occurrences ⟨⟨x⟩⟩ ⟨⟨[c]⟩⟩ 0 (⟨⟨x⟩⟩:Str).length 1).isEmpty)=decide (c∈x):=e
  rw [e'];exact q
 exact am
noncomputable def pO (w:WB){x:d}{c:Nat}(tx tc:Nat){r:Bool}(h:decide (c∈x)=r):aM w:= .bi _ _ _ _ [] _ _ _ _ _ (h▸Rl x c tx tc)
end
noncomputable def sgn:d:=[97,32,39,9,44,59,32,34,92,98]
noncomputable def wk (ah:Nat):Nat:=(sgn[ah]?).getD 0
theorem IC (n:Nat):sgn[n%10]? =some (wk (n%10)):=by
 have h:n%10<10:=Nat.mod_lt _ (by decide)
 generalize n%10=ah at h⊢
 revert ah
 decide
noncomputable def pP:Nat->Nat->d
 |0,_=>[]
 |f+1,n=>match n with
  |0=>[]
  |m+1=>wk ((m+1)%10)::pP f ((m+1)/10)
noncomputable def gM (n:Nat):d:=pP n n
theorem ID:∀(f g n:Nat),n<=f->n<=g->pP f n=pP g n
 |0,g,n,h,_=>by
  have:n=0:=by lia
  subst this
  cases g<;>rfl
 |f+1,0,n,_,h=>by
  have:n=0:=by lia
  subst this
  rfl
 |f+1,g+1,0,_,_=>rfl
 |f+1,g+1,m+1,h1,h2=>by
  show _::pP f ((m+1)/10)=_::pP g ((m+1)/10)
  rw [ID f g ((m+1)/10) (by lia) (by lia)]
theorem C5 (m:Nat):gM (m+1)=wk ((m+1)%10)::gM ((m+1)/10):=by
 show _::pP m ((m+1)/10)=_::pP ((m+1)/10) ((m+1)/10)
 rw [ID m ((m+1)/10) ((m+1)/10) (by lia) (by lia)]
noncomputable def Rm (P:aF)(H z k3:Nat)(x:Int)(tx:Nat)(wd:d)(tw:Nat)(left:Int)(tl:Nat):az:=
 bz [de P [120] H (.int x tx),de P [119,111,114,100] z (Z wd tw),de P [108,101,102,116] k3 (.int left tl)] 3
noncomputable def pQ (P:aF)(F H z k3:Nat)(x:Int)(tx:Nat)(wd:d)(tw n tl N J U:Nat):aC:=⟨[(F,Rm P H z k3 x tx wd tw (O n) tl)],[],N,J,[],U⟩
noncomputable def tX (P:aF)(F:Nat):bL:=HM (dW (cw P 932) 2) (eQ P 932 F [])
noncomputable def z8 (P:aF)(F:Nat)(W:b9):bd:=⟨tX P F,none,none,W,none⟩
theorem Rn {F m:Nat}{x:Int}{wd:d}{ac:b9}(h0:decide (O (m+1)>O 0)=true)(h2:(m+1)%10<100000)(h3:[97,32,39,9,44,59,32,34,92,98][(m+1)%10]? =some c1)(h4:wd.length+[c1].length<=100000):aE w (z8 w.P F ac) p (aA (tX w.P F)) (pQ w.P F H z k3 x tx wd tw (m+1) tl N J U) (.ok (.again (tX w.P F))) ⟨861,8,861,12⟩ (pQ w.P F H z k3 x tx (wd++[c1]) (cD wd [c1] tw (J+4) (J+5)) ((m+1)/10) (J+(5+cE wd [c1]+1+1)) N (J+(5+cE wd [c1]+1+1+1+1)) U):=
 by revert w;exact @(dI 21320789 (λw=>[cb w tl J h0,jP w _ _ _ (J+1) (J+3) h2 h3,dY w tw (J+4) h4]) [0])
theorem Ro {F:Nat}{x:Int}{wd:d}{ac:b9}:aP w (z8 w.P F ac) p (aA (tX w.P F)) (pQ w.P F H z k3 x tx wd tw 0 tl N J U) (.ok .next) (pQ w.P F H z k3 x tx wd tw 0 tl N (J+1) U):=
 by revert w;exact @(np 5 (λw=>[cb w (a:=0) (b:=0) tl J (r:=false) rfl]) [0])
noncomputable def dB (P:aF)(a F:Nat)(q:aw)(ac:b9):b9:=(.func (cw P a) (eQ P a F []),q)::ac
noncomputable def IE:Str:=⟨⟨[112,97,114,116,115]⟩⟩
noncomputable def i5 (P:aF)(K:Nat):Env:=eQ P 961 K [(IE,K+1)]
noncomputable def cO (P:aF)(K:Nat)(q:aw):b9:=[(.func (cw P 961) (i5 P K),q),(.builtin "claim.caller" {},default)]
variable {w:WB}
theorem Rp {F:Nat}{x:Int}{ac:b9}:∀(n:Nat) {wd:d} {tw tl J:Nat} {p:aw},wd.length+n<=80000-> ∃jq tl' au,aP w (z8 w.P F ac) p (aA (tX w.P F)) (pQ w.P F H z k3 x tx wd tw n tl N J U) (.ok .next) (pQ w.P F H z k3 x tx (wd++gM n) jq 0 tl' N au U):=by
 intro n
 induction n using Nat.strongRecOn with
 |ind n ih=>
  intro wd tw tl J p hl
  cases n with
  |zero=>exact jh tw tl _ (by rw [show gM 0=[]from rfl,bk];exact Ro)
  |succ m=>
   have h:=Rn (w:=w) (F:=F) (H:=H) (z:=z) (k3:=k3) (tx:=tx) (tw:=tw) (tl:=tl) (N:=N) (J:=J) (U:=U) (m:=m) (x:=x) (wd:=wd) (p:=p) (ac:=ac) (decide_eq_true (by show(0:Int)<((m+1:Nat):Int);lia)) (by lia) (IC (m+1)) (by simp;lia)
   obtain⟨jq,tl',au,h2⟩:=ih ((m+1)/10) (by lia) (wd:=wd++[wk ((m+1)%10)]) (tw:=_) (tl:=_) (by simp;lia)
   rw [bK,u7,<-C5]at h2
   exact jh jq tl' au (ax.turn (aT w) rfl (by kernel_rfl) h h2)
def C6 (w:WB)(F H z k3 tx tw n tl N J U jq tl' au:Nat)(x:Int)(wd:d)(p q:aw)(ac:b9):Prop:=
 aP w (z8 w.P F (dB w.P 932 F q ac)) p ((VV w).M.den (tX w.P F)) (pQ w.P F H z k3 x tx wd tw n tl N J U) (.ok .next) (pQ w.P F H z k3 x tx (wd++gM n) jq 0 tl' N au U)
noncomputable def Rq (w:WB)(aH:d){F H z k3 tx tw n tl N J U jq tl' au:Nat}{x:Int}{wd:d}{p q:aw}{ac:b9}(h:C6 w F H z k3 tx tw n tl N J U jq tl' au x wd p q ac):aM w:= .fn _ _ aH [] [] _ _ _ h
noncomputable def IF (P:aF):Expr:=jO (dW (cw P 961) 1)
noncomputable def lH (P:aF)(K D av I:Nat):bL:= .compLoop (IF P) 0 (.ref I) (.ref av) (compEnv (IF P) (eQ P 961 K []) D [])
noncomputable def C7 (P:aF)(n tx K D av I:Nat)(q1 q:aw):bd:=⟨.call (.ref 932) ⟨[.int (O n) tx],[]⟩,none,none,(lH P K D av I,q1)::cO P K q,none⟩
theorem Rs {Rt:Nat}(h3:C6 w N J (J+2) (J+3) tx (J+1) n tx (N+1) (J+4) U pD Rt aI (O n) [] ⟨859,4,861,19⟩ ⟨859,4,861,19⟩ ((lH w.P K D av I,q1)::cO w.P K q)):aP w (C7 w.P n tx K D av I q1 q) p (aA (Ctx.code (C7 w.P n tx K D av I q1 q))) ⟨[],[],N,J,[],U⟩ (.ok (.ret (Z ([]++gM n) pD))) ⟨[],[],(N+1),aI,[],U⟩:=
 dJ 1398036 [Rq w [0] h3]
noncomputable def hB (P:aF)(n:d):Option (Nat×ay)->az
 |none=>fU [] 0
 |some x=>fU [de P n x.1 x.2] 1
noncomputable def i6 (P:aF)(n:d)(D av I l:Nat)(o:Option (Nat×ay))(aB:LV)(e:Nat)(Y:LV)(E i N J U:Nat):aC:=⟨[(D,hB P n o),(av,aq aB e),(I,bM l i),(l,aq Y E)],[],N,J,[],U⟩
noncomputable def oB (P:aF)(n:d)(D av I l:Nat)(o:Option (Nat×ay))(aB:LV)(e:Nat)(Y:LV)(E i N J U:Nat):aC:=⟨[(D,hB P n o),(av,aq aB e),(I,eY i),(l,aq Y E)],[],N,J,[],U⟩
noncomputable def IG (P:aF):Expr:=bv (jO (dW (cw P 961) 0)) [0]
noncomputable def mI (P:aF)(K D av I:Nat):bL:= .compLoop (IG P) 0 (.ref I) (.ref av) (compEnv (IG P) (eQ P 961 K []) D [])
noncomputable def pR (P:aF)(K D av I:Nat)(ac:b9):bd:=⟨mI P K D av I,none,none,ac,none⟩
noncomputable def ra (P:aF)(K D av I:Nat)(q:aw):bd:=⟨lH P K D av I,none,none,cO P K q,none⟩
def wl (w:WB)(K D av I n tx N J U jq au:Nat)(p q1 q:aw):Prop:=
 aP w (C7 w.P n tx K D av I q1 q) p ((VV w).M.den (.call (.ref 932) ⟨[.int (O n) tx],[]⟩)) ⟨[],[],N,J,[],U⟩ (.ok (.ret (Z (gM n) jq))) ⟨[],[],N+1,au,[],U⟩
noncomputable def II (w:WB){K D av I n tx N J U jq au:Nat}{p q1 q:aw}(h:wl w K D av I n tx N J U jq au p q1 q):aM w:= .fn _ _ [] [] [] _ _ _ h
theorem Ru {ac:b9}{n:Int}(h1:Y[i]? =some (.int n tv))(h0:aB.length<=100000):aE w (pR w.P K D av I ac) p (aA (mI w.P K D av I)) (i6 w.P [120] D av I l none aB e Y E i N J U) (.ok (.again (mI w.P K D av I))) ⟨911,15,911,24⟩ (i6 w.P [120] D av I l (some (J,(.int n tv))) (aB++[bE (n.fmod 10000) (J+2)]) (e+1) Y E (i+1) N (J+3) U):=
 w1 92402411975 [c9 w [2,2] I l E h1,bR w [3] av e (.int (n.fmod 10000) (J+2)) h0] [3,0,0,0]
theorem Rv {ac:b9}(h1:Y[i]? =none):aP w (pR w.P K D av I ac) p (aA (mI w.P K D av I)) (i6 w.P [120] D av I l none aB e Y E i N J U) (.ok .next) (oB w.P [120] D av I l none aB e Y E i (N+2) J U):=
 dJ 10695 [gz w [2,2] I l E h1] [4,4,2,2]
theorem Rw (h1:Y[i]? =some (.int (O n) tv))(h2:wl w K D av I n tv N (J+1) U pD sQ ph ph q)(h3:aB.length<=100000):aE w (ra w.P K D av I q) p (aA (lH w.P K D av I)) (i6 w.P [120] D av I l none aB e Y E i N J U) (.ok (.again (lH w.P K D av I))) ph (i6 w.P [120] D av I l (some (J,(.int (O n) tv))) (aB++[cu {cps:={toList:=gM n}} pD]) (e+1) Y E (i+1) (N+1) sQ U):=
 w1 370560264647 [c9 w [2,2] I l E h1,II w h2,bR w [3] av e (Z (gM n) pD) h3] [3,0,0,0]
theorem Ry (h1:Y[i]? =none):aP w (ra w.P K D av I q) p (aA (lH w.P K D av I)) (i6 w.P [120] D av I l none aB e Y E i N J U) (.ok .next) (oB w.P [120] D av I l none aB e Y E i (N+2) J U):=
 dJ 10695 [gz w [2,2] I l E h1] [4,4,2,2]
theorem Rz {ac:b9}{n:Int}(h1:Y[i]? =some (.int n tv))(h0:aB.length<=100000):aE w (pR w.P K D av I ac) p (aA (mI w.P K D av I)) (i6 w.P [120] D av I l (some (k0,v0)) aB e Y E i N J U) (.ok (.again (mI w.P K D av I))) ⟨911,15,911,24⟩ (i6 w.P [120] D av I l (some (k0,(.int n tv))) (aB++[bE (n.fmod 10000) (J+2)]) (e+1) Y E (i+1) N (J+3) U):=
 w1 92402411975 [c9 w [2,2] I l E h1,bR w [3] av e (.int (n.fmod 10000) (J+2)) h0] [3,0,0,0]
theorem RA {ac:b9}(h1:Y[i]? =none):aP w (pR w.P K D av I ac) p (aA (mI w.P K D av I)) (i6 w.P [120] D av I l (some (k0,v0)) aB e Y E i N J U) (.ok .next) (oB w.P [120] D av I l (some (k0,v0)) aB e Y E i (N+2) J U):=
 dJ 10695 [gz w [2,2] I l E h1] [4,4,2,2]
theorem RB (h1:Y[i]? =some (.int (O n) tv))(h2:wl w K D av I n tv N (J+1) U pD sQ ph ph q)(h3:aB.length<=100000):aE w (ra w.P K D av I q) p (aA (lH w.P K D av I)) (i6 w.P [120] D av I l (some (k0,v0)) aB e Y E i N J U) (.ok (.again (lH w.P K D av I))) ph (i6 w.P [120] D av I l (some (k0,(.int (O n) tv))) (aB++[cu {cps:={toList:=gM n}} pD]) (e+1) Y E (i+1) (N+1) sQ U):=
 w1 370560264647 [c9 w [2,2] I l E h1,II w h2,bR w [3] av e (Z (gM n) pD) h3] [3,0,0,0]
theorem RC (h1:Y[i]? =none):aP w (ra w.P K D av I q) p (aA (lH w.P K D av I)) (i6 w.P [120] D av I l (some (k0,v0)) aB e Y E i N J U) (.ok .next) (oB w.P [120] D av I l (some (k0,v0)) aB e Y E i (N+2) J U):=
 dJ 10695 [gz w [2,2] I l E h1] [4,4,2,2]
inductive jr {α β:Type} (R:α->β->Prop):List α->List β->Prop
 |nil:jr R [] []
 |cons {a b l m:_}:R a b->jr R l m->jr R (a::l) (b::m)
theorem jr.length {R:α->β->Prop}{l:List α}{m:List β}(h:jr R l m):m.length=l.length:=by
 induction h with
 |nil=>rfl
 |cons _ _ ih=>rw [cy,cy,ih]
theorem jr.imp {R S:α->β->Prop}(f:∀a b,R a b->S a b){l:List α}{m:List β}(h:jr R l m):jr S l m:=by
 induction h with
 |nil=>exact .nil
 |cons x _ ih=>exact .cons (f _ _ x) ih
noncomputable def cU (P:aF)(n:d)(D av I l:Nat)(o:Option (Nat×ay))(aB:LV)(e:Nat)(Y:LV)(E i:Nat)(A:aJ)(T:List aJ)(N J U:Nat):aC:=⟨[(D,hB P n o),(av,aq aB e),(I,bM l i),(l,aq Y E)]++A,T,N,J,[],U⟩
noncomputable def hC (P:aF)(n:d)(D av I l:Nat)(o:Option (Nat×ay))(aB:LV)(e:Nat)(Y:LV)(E i:Nat)(A:aJ)(T:List aJ)(N J U:Nat):aC:=⟨[(D,hB P n o),(av,aq aB e),(I,eY i),(l,aq Y E)]++A,T,N,J,[],U⟩
theorem IJ (ej:V.M.den=den){ae:bL}(hq:ae.quiet=true)(cv:Γ.goto ae=Γ){P:aF}{n:d}{A:aJ}{T:List aJ}(R:ay->LV->Prop)(turn:∀i v o aB e N J p,Y[i]? =some v->aB.length<=i->∃o' v' e' N' au p',R v v'/\v'.length<=1/\ax V Γ p (den ae) (cU P n D av I l o aB e Y E i A T N J U) (.ok (.again ae)) p' (cU P n D av I l (some o') (aB++v') e' Y E (i+1) A T N' au U))(stop:∀i o aB e N J p,Y[i]? =none->∃N' au,cW V Γ p (den ae) (cU P n D av I l o aB e Y E i A T N J U) (.ok .next) (hC P n D av I l o aB e Y E i A T N' au U)):∀(m i:Nat) (o:Option (Nat×ay)) (aB:LV) (e N J:Nat) (p:aw),i+m=Y.length->aB.length<=i-> ∃o' dg e' N' au,jr R (Y.drop i) dg/\dg.flatten.length<=m/\(m=0->o'=o)/\(m≠0->∃kv,o'=some kv)/\ cW V Γ p (den ae) (cU P n D av I l o aB e Y E i A T N J U) (.ok .next) (hC P n D av I l o' (aB++dg.flatten) e' Y E Y.length A T N' au U):=by
 intro m
 induction m with
 |zero=>
  intro i o aB e N J p hi _
  have hi:i=Y.length:=by lia
  subst hi
  refine fK (stop Y.length o aB e N J p (by simp)) λN' au h=>
   vk o [] e N' au (by rw [u8];exact .nil) (b7 _) (λ_=>rfl) (λh=>absurd rfl h) (by rw [ce,bk];exact h)
 |succ m aS=>
  intro i o aB e N J p hi ho
  have bw:i<Y.length:=by lia
  have h0:Y[i]? =some Y[i]:=cm bw
  refine nc (turn i Y[i] o aB e N J p h0 ho) λo1 v1 e1 N1 be p1 hR hv h1=>
   vj (aS (i+1) (some o1) (aB++v1) e1 N1 be p1 (by lia) (by rw [ci];lia)) λo2 dg e2 N2 eR hA hl hz hs h2=>
   vk o2 (v1::dg) e2 N2 eR (by rw [fJ bw];exact .cons hR hA) (by rw [ck,ci];lia) (λh=>absurd h lq) (λ_=> ?_) ?_
  ·by_cases hm:m=0
   ·exact⟨_,hz hm⟩
   ·exact hs hm
  ·rw [ck,<-bK]
   exact ax.turn ej cv hq h1 h2
noncomputable def eT (l:List (Int×Nat)):LV:=l.map λx=> .int x.1 x.2
variable {w:WB}
theorem RD {aL:List (Int×Nat)}{ac:b9}(hs:aL.length<=100):∃o' aO e' N' au,aO.map aD=aL.map (λx=>x.1.fmod 10000)/\(aL=[]->o'=none)/\(aL≠[]->∃k v,o'=some (k,v))/\ aP w (pR w.P K D av I ac) p (aA (mI w.P K D av I)) (i6 w.P [120] D av I l none [] e (eT aL) E 0 N J U) (.ok .next) (oB w.P [120] D av I l o' (eT aO) e' (eT aL) E aL.length N' au U):=by
 have b6:(eT aL).length=aL.length:=by unfold eT;rw [bA]
 refine vj (IJ (V:=VV w) (aT w) (Γ:=pR w.P K D av I ac) (ae:=mI w.P K D av I) (by kernel_rfl) rfl (n:=[120]) (D:=D) (av:=av) (I:=I) (l:=l) (E:=E) (U:=U) (Y:=eT aL)
  (λv v'=>∃x t t',v= .int x t/\v'=[.int (x.fmod 10000) t'])
  (λi v o aB e N J p h ho=>by
   refine bX (dS.mp (u9 h)) λx hx fM=> ?_
   subst fM
   have hi:i<(eT aL).length:=(mf.mp h).1
   cases o with
   |none=>exact dV _ _ _ _ _ _ ⟨x.1,x.2,_,rfl,rfl⟩ (b7 _) (Ru h (by lia))
   |some kv=>exact dV _ _ _ _ _ _ ⟨x.1,x.2,_,rfl,rfl⟩ (b7 _) (Rz h (by lia)))
  (λi o aB e N J p h=>by
   cases o with
   |none=>exact dU _ _ (Rv h)
   |some kv=>exact dU _ _ (RA (k0:=kv.1) (v0:=kv.2) h))
  aL.length 0 none [] e N J p (by lia) (b7 _)) λo' dg e' N' au hA _ hz hn h=> ?_
 have key:∀(aL:List (Int×Nat)) (dg:List LV),jr (λv v'=>∃x t t',v= .int x t/\v'=[.int (x.fmod 10000) t']) (eT aL) dg->∃aO,dg.flatten=eT aO/\aO.map aD=aL.map (λx=>x.1.fmod 10000):=by
  intro aL
  induction aL with
  |nil=>intro dg h;cases h;exact da [] rfl rfl
  |cons y aL ih=>
   intro dg h
   cases h with
   |cons hx ht=>
    refine vg (hx) λx t t' e1 RE=> ?_
    subst RE
    refine bX (ih _ ht) λaO e2 e3=> ?_
    cases e1
    exact da ((y.1.fmod 10000,t')::aO) (by rw [ck,e2];rfl) (by rw [bY,bY,e3])
 refine bX (key aL dg hA) λaO e2 e3=> ?_
 rw [e2,b6]at h
 refine ke o' aO e' N' au e3 (λq=>hz (by rw [q];rfl)) (λq=> ?_) h
 obtain⟨kv,rfl⟩:=hn (by cases aL with|nil=>exact absurd rfl q|cons=>simp)
 exact dU kv.1 kv.2 rfl
theorem RG (hn:n<=10000):∃jq au,wl w K D av I n tx N J U jq au p q1 q:=by
 obtain⟨jq,tl',au,h⟩:=Rp
  n (wd:=[]) (tl:=tx) (by simp;lia)
 refine dU jq au ?_
 delta wl
 rw [aT]
 exact Rs (by delta C6;rw [aT];exact h)
noncomputable def aY (l:cC):LV:=l.map λx=> .int (O x.1) x.2
theorem RH {aL:cC}(hs:aL.length<=100)(hx:∀x∈aL,x.1<=10000)(h0:aL≠[]):∃k v aO e' N' au,aO.map aD=aL.map (λx=>gM x.1)/\ aP w (ra w.P K D av I q) p (aA (lH w.P K D av I)) (i6 w.P [120] D av I l none [] e (aY aL) E 0 N J U) (.ok .next) (oB w.P [120] D av I l (some (k,v)) (aR aO) e' (aY aL) E aL.length N' au U):=by
 have b6:(aY aL).length=aL.length:=by unfold aY;rw [bA]
 refine vj (IJ (V:=VV w) (aT w) (Γ:=ra w.P K D av I q) (ae:=lH w.P K D av I) (by kernel_rfl) rfl (P:=w.P) (n:=[120]) (l:=l) (E:=E) (Y:=aY aL) (A:=[])
  (λv v'=>∃x t t',v= .int (O x) t/\v'=[Z (gM x) t'])
  (λi v o aB e N J p h ho=>by
   refine bX (dS.mp (u9 h)) λx lI mu=> ?_
   subst mu
   have hi:i<(aY aL).length:=(mf.mp h).1
   refine fK (RG (w:=w) (K:=K) (D:=D) (av:=av) (I:=I) (n:=x.1) (tx:=x.2) (N:=N) (J:=J+1) (U:=U) (p:=ph) (q1:=ph) (q:=q) (hx x lI)) λjq au hw=> ?_
   cases o with
   |none=>exact dV _ _ _ _ _ _ ⟨x.1,x.2,_,rfl,rfl⟩ (b7 _) (Rw h hw (by lia))
   |some kv=>exact dV _ _ _ _ _ _ ⟨x.1,x.2,_,rfl,rfl⟩ (b7 _) (RB h hw (by lia)))
  (λi o aB e N J p h=>by
   cases o with
   |none=>exact dU _ _ (Ry h)
   |some kv=>exact dU _ _ (RC (k0:=kv.1) h))
  aL.length 0 none [] e N J p (by lia) (b7 _)) λo' dg e' N' au hA _ hz hn h=> ?_
 have key:∀(aL:cC) (dg:List LV),jr (λv v'=>∃x t t',v= .int (O x) t/\v'=[Z (gM x) t']) (aY aL) dg->∃aO,dg.flatten=aR aO/\aO.map aD=aL.map (λx=>gM x.1):=by
  intro aL
  induction aL with
  |nil=>intro dg h;cases h;exact da [] rfl rfl
  |cons y aL ih=>
   intro dg h
   cases h with
   |cons hx ht=>
    refine vg (hx) λx t t' e1 RI=> ?_
    subst RI
    refine bX (ih _ ht) λaO e2 e3=> ?_
    cases e1
    exact da ((gM y.1,t')::aO) (by rw [ck,e2];rfl) (by rw [bY,bY,e3])
 refine bX (key aL dg hA) λaO e2 e3=> ?_
 rw [e2,b6]at h
 obtain⟨kv,rfl⟩:=hn (by cases aL with|nil=>exact absurd rfl h0|cons=>simp)
 exact B1 kv.1 kv.2 aO e' N' au e3 h
section
variable {V:EV}{Φ:bI->bI->Prop}{L L':aJ}{T T':List aJ}{N J U N' au br:Nat}{ai G':lm}
theorem aK.side (A:aJ)(T:List aJ)(ai:lm)(h:aK V ⟨L,[],N,J,[],U⟩ ⟨L',[],N',au,[],br⟩ Φ):aK V ⟨L++A,T,N,J,ai,U⟩ ⟨L'++A,T,N',au,ai,br⟩ Φ:=
 aK.frame h (qB (.refl _) (.refl _)) (.refl _) bH (qB (.refl _) (.refl _)) (.refl _) bH
theorem aK.cons (x:Addr×az)(h:aK V ⟨L,T,N,J,ai,U⟩ ⟨L',T',N',au,G',br⟩ Φ):aK V ⟨x::L,T,N,J,ai,U⟩ ⟨x::L',T',N',au,G',br⟩ Φ:=
 aK.frame h (A:=[x]) (cY (l₁:=[x])) (by rw [bk]) bH (cY (l₁:=[x])) (by rw [bk]) bH
theorem ax.load {X:Type}{a:Addr}{part:Option ay}{k:az->Sem X}{r:Res X}(hm:(a,o)∈C.L)(h:ax V Γ p (k o) C r p' C'):ax V Γ p (.load a part k) C r p' C':=
 h.step λs R=>⟨s,.refl R,λ_ _ _ _ _ _ q=> .load (R.led (a,o) (me _ hm)) q⟩
end
variable {w:WB}
noncomputable def C8 (It S:Nat):Args:=⟨[.ref It,.ref S,ft 0,ft 0],[]⟩
noncomputable def sumK (It S:Nat):bL:= .builtin "sum.loop" (C8 It S)
noncomputable def js (S:Nat)(a:Int)(ta eS:Nat)(C:aC):aC:=⟨(S,aq [.int a ta] eS)::C.L,C.T,C.N,C.J,C.ai,C.U⟩
noncomputable def dP (it:ay):Sem (Option ay):=Fast.tw9404975358583537561 it
theorem IK {S:Nat}:aA (sumK It S)=Builtin.«sum.loop» (C8 It S):=by
 rw [<-or]
 delta sumK denote
 dsimp only
 rw [show entryFor table "sum.loop"=some Builtin.«sum.loop»from kK (by kernel_rfl)]
theorem IL {S:Nat}{a:Int}(h1:aE w Γ p (dP (.ref It)) C (.ok none) p₁ bq):aP w Γ p (aA (sumK It S)) (js S a ta eS C) (.ok (.ret (.int a ta))) (js S a ta eS bq):=by
 rw [IK]
 refine ax.c6 (m:=seqItems? (.ref S)) (bq:=js S a ta eS C) (ax.load (.head _) ax.pure) ?_
 refine ax.c6 (bq:=js S a ta eS bq) (ax.tryCatch (by rw [o6];exact aK.cons _ h1)) ?_
 exact ax.pure.done
theorem IM {S:Nat}{a b:Int}(h1:aE w Γ p (dP (.ref It)) C (.ok (some (.int b tb))) p₁ bq)(hb:0<=b/\b<=1000000000)(lJ:0<=a/\a<=1000000000):aE w Γ p (aA (sumK It S)) (js S a ta eS C) (.ok (.again (sumK It S))) p₁ (js S (a+b) bq.J eS ⟨bq.L,bq.T,bq.N,bq.J+1,bq.ai,bq.U⟩):=by
 rw [IK]
 refine ax.bind (m:=seqItems? (.ref S)) (bq:=js S a ta eS C) (ax.load (.head _) ax.pure) ?_
 refine ax.bind (bq:=js S a ta eS bq) (ax.tryCatch (by rw [o6];exact aK.cons _ h1)) ?_
 show ax _ _ p₁ (if(((decide (-(2^63)<=b)&&decide (b<2^63))&&(decide (-(2^63)<=a+b)&&decide (a+b<2^63)))=true)then(mkInt (a+b)>>=λv=>updateSeq S (λ_=> #[v])>>=λ_=>again (.builtin "sum.loop" (C8 It S)))else _) _ _ _ _
 rw [decide_eq_true (by lia: -(2^63)<=b),decide_eq_true (by lia:b<2^63),decide_eq_true (by lia: -(2^63)<=a+b),decide_eq_true (by lia:a+b<2^63)]
 rw [if_pos (by rfl)]
 obtain⟨RJ,RK,IN,z9,CE,IP⟩:=bq
 exact aK.side (L:=[(S,aq [.int a ta] eS)]) (L':=[(S,aq [.int (a+b) z9] eS)]) RJ RK CE (ax.of (aT w) (n:=100) (m:=10) (C:=⟨[(S,aq [.int a ta] eS)],[],IN,z9,[],IP⟩) (C':=⟨[(S,aq [.int (a+b) z9] eS)],[],IN,z9+1,[],IP⟩) 21 [] [0] [] [] (by kernel_rfl))
noncomputable def wn (I l i E:Nat)(Y:LV)(N J U:Nat):aC:=⟨[(I,bM l i),(l,aq Y E)],[],N,J,[],U⟩
noncomputable def C9 (I l i E:Nat)(Y:LV)(N J U:Nat):aC:=⟨[(I,eY i),(l,aq Y E)],[],N,J,[],U⟩
theorem RL (h:Y[i]? =some v):aE w Γ p (dP (.ref I)) (wn I l i E Y N J U) (.ok (some v)) p (wn I l (i+1) E Y N J U):=
 ax.of (aT w) (n:=100) (m:=10) 41 [c9 w [0,0] I l E h] [0,0] [] [] (by kernel_rfl)
theorem RM {c:bL}(h:Y[i]? =none):aE w ⟨c,none,own,below,past⟩ p (dP (.ref I)) (wn I l i E Y N J U) (.ok none) p (C9 I l i E Y (N+2) J U):=
 ax.of (aT w) (n:=100) (m:=10) 169 [gz w [0,0] I l E h] [2,2] [] [] (by kernel_rfl)
noncomputable def ny (l:cC):Nat:=(l.map aD).sum
theorem Aa {l:cC}{x:Nat×Nat}(h:l[i]? =some x):(aY l)[i]? =some (.int (O x.1) x.2):=by
 delta aY;rw [iv,h];rfl
theorem RN {l:cC}(h:l[i]? =none):(aY l)[i]? =none:=by
 delta aY;rw [iv,h];rfl
theorem IQ {S:Nat}{aL:cC}(hs:∀x∈aL,x.1<=1000000)(hn:aL.length<=800):∀(m i:Nat) {a ta J:Nat} {p:aw},i+m=aL.length->a<=1000000*i-> ∃t' au,aP w ⟨sumK I S,none,own,below,past⟩ p (aA (sumK I S)) (js S (O a) ta eS (wn I l i E (aY aL) N J U)) (.ok (.ret (.int (O (a+ny (aL.drop i))) t'))) (js S (O (a+ny (aL.drop i))) t' eS (C9 I l aL.length E (aY aL) (N+2) au U)):=by
 intro m
 induction m with
 |zero=>
  intro i a ta J p hi _
  have hi:i=aL.length:=by lia
  subst hi
  rw [show ny (aL.drop aL.length)=0 from by simp [ny]]
  exact dU ta J (IL (RM (RN (by simp))))
 |succ m aS=>
  intro i a ta J p hi ha
  have bw:i<aL.length:=by lia
  obtain⟨x,tY⟩:∃x,aL[i]? =some x:=⟨aL[i],cm bw⟩
  have lI:=hs x (u9 tY)
  have e:ny (aL.drop i)=x.1+ny (aL.drop (i+1)):=by
   have e1:aL[i]=x:=by rw [cm bw]at tY;exact dv.inj tY
   rw [fJ bw,e1]
   simp [ny]
  have h1:=IM (w:=w) (Γ:=⟨sumK I S,none,own,below,past⟩) (p:=p) (It:=I) (S:=S) (eS:=eS) (ta:=ta) (a:=O a) (RL (E:=E) (l:=l) (N:=N) (J:=J) (U:=U) (Aa tY)) ⟨by show(0:Int)<=((x.1:Nat):Int);lia,by show((x.1:Nat):Int)<=_;lia⟩ ⟨by show(0:Int)<=((a:Nat):Int);lia,by show((a:Nat):Int)<=_;lia⟩
  refine fK (aS (i+1) (a:=a+x.1) (ta:=J) (J:=J+1) (p:=p) (by lia) (by lia)) λt' au h=> ?_
  refine dU t' au ?_
  rw [e,<-kJ]
  exact ax.turn (aT w) rfl (by kernel_rfl) h1 h
noncomputable def dx:d:=[39,34,39,34,39]
noncomputable def bW (x:d):d:=if x=[]then [39,39]else if x.all cF then x else [39]++b5 39 dx x++[39]
noncomputable def dy (g:Nat)(name:d)(t1:Nat)(qual:d)(t2:Nat):az:=rec "generator" [.int (O g) 0,Z name t1,Z qual t2]
noncomputable def genEnv (e:Expr)(outer:Env)(F:Nat)(cells:List (Str×Addr))(code:ay):Env:=
 {scope:=vF e,locals:=F,globals:=outer.globals,cells:=cells,qual:=outer.qual++Str.ofString "<genexpr>.",func:=none,code:=code,frame:=some F,builtins:=outer.builtins}
noncomputable def RO (env:Env)(c:bL):Resume->SF:=λr=>R.onRaiseR (R.bindR (R.bindR (R.bindR (Sem.pure r) (λa=>match a with| .send x=>Pure.pure x| .throw e=>Fast.tw6087748403438322584 e)) (λ_=>Pure.pure ())) (λ_=>Fast.tw12377390311714414960 c)) (λe=>Fast.tw9442747609961115081 env e)
noncomputable def genS (env:Env)(c:bL)(p:aw):GenState:= .suspended (RO env c) [] c p [] false
noncomputable def IR:d:=[60,103,101,110,101,120,112,114,62]
noncomputable def Da (P:aF):Expr:=bv (jO (dW (cw P 917) 0)) [1]
noncomputable def Db (P:aF)(Fj F ae:Nat):Env:=genEnv (Da P) (eQ P 917 Fj []) F [] (.ref ae)
noncomputable def IS (P:aF)(Fj F ae I:Nat):bL:= .compLoop (Da P) 0 (.ref I) .none (Db P Fj F ae)
noncomputable def IT:d:=[106,111,105,110,46,60,108,111,99,97,108,115,62,46,60,103,101,110,101,120,112,114,62]
noncomputable def lK (A It:Nat):bL:= .builtin "list.extend.loop" ⟨[.ref A,.ref It,.ref A],[]⟩
noncomputable def IU (P:aF)(Gn Fj t1 K:Nat)(q q1 G:aw):b9:=(.builtin "str.join" ⟨[Z [32] t1,.ref Gn],[]⟩,q)::dB P 917 Fj q1 (cO P K G)
noncomputable def wo (P:aF)(A Gn Fj t1 K:Nat)(q q1 G:aw):bd:=⟨lK A Gn,none,none,IU P Gn Fj t1 K q q1 G,none⟩
noncomputable def rb (P:aF)(x:d)(tx A Gn Fj F ae I t1 K:Nat)(p p1 q q1 G:aw):bd:=⟨.call (.ref 925) ⟨[Z x tx],[]⟩,none,none,(IS P Fj F ae I,p1)::(.builtin "generator.__next__" ⟨[.ref Gn],[]⟩,p)::(lK A Gn,p)::IU P Gn Fj t1 K q q1 G,none⟩
def Ab (w:WB)(x:d)(tx A Gn Fj F ae I t1 K:Nat)(p0 p p1 q q1 G:aw)(N J U t' N' au:Nat):Prop:=
 aP w (rb w.P x tx A Gn Fj F ae I t1 K p p1 q q1 G) p0 ((VV w).M.den (.call (.ref 925) ⟨[Z x tx],[]⟩)) ⟨[],[],N,J,[],U⟩ (.ok (.ret (Z (bW x) t'))) ⟨[],[],N',au,[],U⟩
noncomputable def IV (w:WB){x:d}{tx A Gn Fj F ae I t1 K:Nat}{p0 p p1 q q1 G:aw}{N J U t' N' au:Nat}(h:Ab w x tx A Gn Fj F ae I t1 K p0 p p1 q q1 G N J U t' N' au):aM w:= .fn _ _ [] [] [] _ _ _ h
noncomputable def IW (P:aF)(k I:Nat):Option (Nat×ay)->az
 |none=>bz [de P [46,48] k (.ref I)] 1
 |some x=>bz [de P [46,48] k (.ref I),de P [97,114,103] x.1 x.2] 2
noncomputable def RP (P:aF)(Fj F ae I:Nat):Option (Nat×ay)->GenState
 |none=> .fresh (.compStart (Da P) 0 (.ref I) .none (Db P Fj F ae))
 |some _=>genS (Db P Fj F ae) (IS P Fj F ae I) qC
noncomputable def pS (P:aF)(Gn Fj F ae I l E g k aX bg:Nat)(o:Option (Nat×ay))(Y:LV)(i N J U:Nat):aC:=⟨[(Gn,dy g IR aX IT bg),(F,IW P k I o),(I,bM l i),(l,aq Y E)],[],N,J,[(g,RP P Fj F ae I o)],U⟩
noncomputable def Ad (P:aF)(Gn F I l E g k aX bg:Nat)(o:Option (Nat×ay))(Y:LV)(i N J U:Nat):aC:=⟨[(Gn,dy g IR aX IT bg),(F,IW P k I o),(I,eY i),(l,aq Y E)],[],N,J,[(g,.finished)],U⟩
section
variable {F ae:Nat}(h1:Y[i]? =some (Z x tx))(h3:Ab w x tx A Gn Fj F ae I t1 K qC p qC q q1 G N (J+1) U gJ aU aI)
include h1 h3
theorem RQ:aE w (wo w.P A Gn Fj t1 K q q1 G) p (dP (.ref Gn)) (pS w.P Gn Fj F ae I l E g k aX bg none Y i N J U) (.ok (dv (Z (bW x) gJ))) p (pS w.P Gn Fj F ae I l E g k aX bg (some (J,(Z x tx))) Y (i+1) aU aI U):=
 by revert w;exact @(kN 0x2596b4e38e38e7049 0x965ad38e049 (λw h3=>[c9 w [2,2] I l E h1,IV w h3]) [2,2,0,0] [] [0])
theorem RR:aE w (wo w.P A Gn Fj t1 K q q1 G) p (dP (.ref Gn)) (pS w.P Gn Fj F ae I l E g k aX bg (some (k0,v0)) Y i N J U) (.ok (dv (Z (bW x) gJ))) p (pS w.P Gn Fj F ae I l E g k aX bg (some (k0,(Z x tx))) Y (i+1) aU aI U):=
 w1 0x965ad38e049 [c9 w [2,2] I l E h1,IV w h3] [2,2,0,0] [] [0]
end
theorem RS {F ae:Nat}(h1:Y[i]? =none):aE w (wo w.P A Gn Fj t1 K q q1 G) p (dP (.ref Gn)) (pS w.P Gn Fj F ae I l E g k aX bg (some (k0,v0)) Y i N J U) (.ok kL) p (Ad w.P Gn F I l E g k aX bg (some (k0,v0)) Y i (N+4) J U):=
 w1 624484425 [gz w [2,2] I l E h1] [6,6,4,4] [] [0]
theorem RT {F ae:Nat}:aP w (rb w.P [] tx A Gn Fj F ae I t1 K p p1 q q1 G) p0 (aA (Ctx.code (rb w.P [] tx A Gn Fj F ae I t1 K p p1 q q1 G))) ⟨[],[],N,J,[],U⟩ (.ok (.ret (Z [39,39] (J+3)))) ⟨[],[],(N+1),(J+4),[],U⟩:=
 dJ 1300 [bZ w (a:=[]) tx (by decide)]
theorem RU {F ae:Nat}(h9:∀y∈c::x,fk y=true)(h0:(c::x).length<=100000)(h1:(c::x).all cF=true):aP w (rb w.P (c::x) tx A Gn Fj F ae I t1 K p p1 q q1 G) p0 (aA (Ctx.code (rb w.P (c::x) tx A Gn Fj F ae I t1 K p p1 q q1 G))) ⟨[],[],N,J,[],U⟩ (.ok (.ret (Z (c::x) tx))) ⟨[],[],(N+1),(J+3),[],U⟩:=
 dJ 10495252 [bZ w tx h0,IB w tx h9 (of_decide_eq_true (by kernel_rfl)) h0 h1]
theorem RV {F ae:Nat}(h9:∀y∈c::x,fk y=true)(h0:(c::x).length<=100000)(h1:(c::x).all cF=false)(h2:J+4≠J+5)(h3:(c::x).length*([39,34,39,34,39].length+1)<=100000)(h4:[39].length+(b5 39 [39,34,39,34,39] (c::x)).length<=100000)(h5:([39]++b5 39 [39,34,39,34,39] (c::x)).length+[39].length<=100000):aP w (rb w.P (c::x) tx A Gn Fj F ae I t1 K p p1 q q1 G) p0 (aA (Ctx.code (rb w.P (c::x) tx A Gn Fj F ae I t1 K p p1 q q1 G))) ⟨[],[],N,J,[],U⟩ (.ok (.ret (Z ([39]++b5 39 [39,34,39,34,39] (c::x)++[39]) (cD ([39]++b5 39 [39,34,39,34,39] (c::x)) [39] (cD [39] (b5 39 [39,34,39,34,39] (c::x)) (J+3) (tW 39 (c::x) tx (J+6)) (J+(6+oy 39 (c::x)))) (J+(6+oy 39 (c::x)+cE [39] (b5 39 [39,34,39,34,39] (c::x)))) (J+(6+oy 39 (c::x)+cE [39] (b5 39 [39,34,39,34,39] (c::x))+1)))))) ⟨[],[],(N+3),(J+(6+oy 39 (c::x)+cE [39] (b5 39 [39,34,39,34,39] (c::x))+1+1)),[],U⟩:=
 dJ 715138324 [bZ w tx h0,IB w tx h9 (of_decide_eq_true (by kernel_rfl)) h0 h1,Q2 w 39 tx (of_decide_eq_true (by kernel_rfl)) (of_decide_eq_true (by kernel_rfl)) h2 (by decide) h3,dY w (J+3) (tW 39 (c::x) tx (J+6)) h4,dY w (cD [39] (b5 39 [39,34,39,34,39] (c::x)) (J+3) (tW 39 (c::x) tx (J+6)) (J+(6+oy 39 (c::x)))) (J+(6+oy 39 (c::x)+cE [39] (b5 39 [39,34,39,34,39] (c::x)))) h5]
section
open PySem.Builtin.List
inductive Gives (V:EV) (Γ:bd) (p:aw) (It:ay):aC->LV->aC->Prop
 |stop {C C':_}:ax V Γ p (dP It) C (.ok none) p C'->Gives V Γ p It C [] C'
 |next {C bq C' v Y:_}:ax V Γ p (dP It) C (.ok (some v)) p bq->Gives V Γ p It bq Y C'->Gives V Γ p It C (v::Y) C'
noncomputable def aC.put (C:aC)(a:Nat)(o:az):aC:=⟨(a,o)::C.L,C.T,C.N,C.J,C.ai,C.U⟩
theorem aK.put (a:Nat)(o:az)(h:aK V C C' Φ):aK V (C.put a o) (C'.put a o) Φ:=aK.cons (a,o) h
theorem ax.update {X:Type}{a:Addr}{part:Option ay}{f:az->az}{k:Unit->Sem X}{r:Res X}(hf:f o=o')(hn:o'.isFreed=false)(h:ax V Γ p (k ()) (C.put a o') r p' C'):ax V Γ p (.update a part f k) (C.put a o) r p' C':=by
 subst hf
 exact ax.step (bq:=C.put a (f o)) (h:=λs R=>⟨_,R.upd (x:=(a,o)) (C':=C.put a (f o)) (A:=C.L++C.T.flatten) (.refl _) (.refl _) hn rfl ⟨rfl,rfl,rfl⟩,λ_ _ _ _ _ _ q=> .update (by rw [R.led (a,o) (.head _)];rfl) q⟩) h
theorem pT {id:String}{B:Builtin}(h:entryFor table id=some B):aA (.builtin id args)=B args:=by
 rw [<-or]
 delta denote
 dsimp only
 rw [h]
variable {w:WB}
theorem IX:aA (lK A It)=(pyNext (.ref It)>>=λo=>match o with|none=>PySem.ret (.ref A)|some x=>listUpdate (.ref A) (·.push x)>>=λ_=>again (lK A It)):=pT (args:=⟨[.ref A,.ref It,.ref A],[]⟩) (B:=Builtin.«list.extend.loop») (kK (by kernel_rfl))
theorem RW (cv:Γ.goto (lK A It)=Γ)(h:Gives (VV w) Γ p (.ref It) C Y C'):∀{pre:LV} {e:Nat},pre.length+Y.length<=1000-> ∃e',aP w Γ p (aA (lK A It)) (C.put A (aq pre e)) (.ok (.ret (.ref A))) (C'.put A (aq (pre++Y) e')):=by
 induction h with
 |stop h=>
  intro pre e _
  refine⟨e,?_⟩
  rw [IX,bk]
  refine ax.c6 (by rw [o6];exact aK.put _ _ h)
   ax.pure.done
 | @next C bq C' v Y h _ ih=>
  intro pre e hl
  rw [cy]at hl
  refine dT (ih (pre:=pre++[v]) (e:=e+1) (by rw [ci];show pre.length+1+_<=_;lia)) λe' h2=> ?_
  refine⟨e',?_⟩
  rw [bK,u7]at h2
  refine ax.turn (aT w) cv (by kernel_rfl) ?_ h2
  rw [IX]
  refine ax.bind (by rw [o6];exact aK.put _ _ h) ?_
  show ax _ _ p (PySem.updateSeq A (·.push v)>>=λ_=>again (lK A It)) _ _ _ _
  refine ax.bind (x:=()) ?_ ax.pure
  delta PySem.updateSeq
  have hm:Obj.mapSeq (·.push v) (aq pre e)=aq (pre++[v]) (e+1):=by simp [Obj.mapSeq,aq]
  refine ax.load (.head _) ?_
  refine ax.update hm rfl ?_
  refine ax.load (.head _) ?_
  have hp:(aq (pre++[v]) (e+1)).data.pastItsLine=none:=pastItsLine_seq (by show(pre++[v]).length<=2^24+1;rw [ci];show pre.length+1<=_;lia)
  show ax _ _ p (match(aq (pre++[v]) (e+1)).data.pastItsLine with|some Dc=>unsupported Dc|x=>Pure.pure ()) _ _ _ _
  rw [hp]
  exact ax.pure
theorem IY (bC:d)(l:bB)(h:(l.map λx=>x.1.length).sum+l.length*bC.length<=100000):cW V Γ p (joinRest ⟨⟨bC⟩⟩ (aR l)) C (.ok (.ret (Z (bp bC (l.map aD)) C.J))) ⟨C.L,C.T,C.N,C.J+1,C.ai,C.U⟩:=by
 delta joinRest
 rw [<-CY,join_loop]
 have e:=CW bC (l.map aD)
 rw [<-Io]at e
 have hl:=Ip bC (l.map aD)
 rw [eF,bA]at hl
 have hl:(bp bC (l.map aD)).length<=100000:=iR hl h
 show cW V Γ p (if Builtin.Str.tooLong ((#[]++((l.map λ(x:d×Nat)=>((⟨⟨x.1⟩⟩:Str),x.2)).map λ(p:Str×Tok)=>p.1).toArray).foldl (λ(n:Nat) (s:Str)=>n+s.length+(⟨⟨bC⟩⟩:Str).length) 0)=true then _ else PySem.retStr (Builtin.Str.glued ⟨⟨bC⟩⟩ (#[]++((l.map λ(x:d×Nat)=>((⟨⟨x.1⟩⟩:Str),x.2)).map λ(p:Str×Tok)=>p.1).toArray).toList)) _ _ _
 rw [Array.empty_append,CX h,if_neg (by simp),List.toList_toArray,e]
 intro s R
 refine da ({s with toks:=s.toks+1}) (R.tick 1 rfl rfl bH) ?_
 have hs:s.toks=C.J:=R.toks
 have key:PySem.retStr (⟨⟨bp bC (l.map aD)⟩⟩:Str)= .fresh λt=> .pure (.done (.ret (Z (bp bC (l.map aD)) t))):=by
  show(if(⟨⟨bp bC (l.map aD)⟩⟩:Str).length>sizeLine then _ else _:Sem ay)>>=_=_
  rw [if_neg (by show¬(bp bC (l.map aD)).length>2^24;lia)]
  rfl
 rw [key,<-hs]
 exact .fresh .done
theorem RX (bC:d)(l:bB)(h:(l.map λx=>x.1.length).sum+l.length*bC.length<=100000):∃t' au,cW V Γ p (joinTail ⟨⟨bC⟩⟩ (aR l)) C (.ok (.ret (Z (bp bC (l.map aD)) t'))) ⟨C.L,C.T,C.N,au,C.ai,C.U⟩:=by
 match l,h with
 |[],h=>exact dU _ _ (IY bC [] h)
 |[x],_=>exact dU x.2 C.J (λs R=>⟨s,.refl R,.rule .done⟩)
 |x::y::r,h=>exact dU _ _ (IY bC (x::y::r) h)
noncomputable def kO (bC:d)(ts Gn:Nat):bL:= .builtin "str.join" ⟨[Z bC ts,.ref Gn],[]⟩
noncomputable def tZ (A Gn:Nat):bL:= .builtin "list.__iadd__" ⟨[.ref A,.ref Gn],[]⟩
theorem RY {t2:Nat}{hd:Option ay}{r:Flow}(bD:A≠Gn)(hm:(Gn,dy g nm t1 ql t2)∈C.L)(ih:aP w ⟨lK A Gn,hd,own,below,past⟩ p (aA (lK A Gn)) (C.put A (aq [] 2)) (.ok r) C'):aP w ⟨tZ A Gn,hd,own,below,past⟩ p (aA (tZ A Gn)) (C.put A (aq [] 0)) (.ok r) C':=by
 refine fK (BU hm) λA1 A2 hA=> ?_
 have hp:C.L.Perm ([(Gn,dy g nm t1 ql t2)]++(A1++A2)):=by rw [hA];exact o4
 have kP:∀{Φ:bI->bI->Prop} {o1 o2:az},fw w ⟨[(A,o1),(Gn,dy g nm t1 ql t2)],[],C.N,C.J,[],C.U⟩ ⟨[(A,o2),(Gn,dy g nm t1 ql t2)],[],C.N,C.J,[],C.U⟩ Φ->fw w (C.put A o1) (C.put A o2) Φ:=λ{Φ o1 o2} h=>by
  have key:∀o,((C.put A o).L++C.T.flatten).Perm ([(A,o),(Gn,dy g nm t1 ql t2)]++[]++((A1++A2)++C.T.flatten)):=λo=>by
   show((A,o)::(C.L++C.T.flatten)).Perm ((A,o)::([(Gn,dy g nm t1 ql t2)]++((A1++A2)++C.T.flatten)))
   rw [<-bK]
   exact(hp.append_right _).cons _
  exact aK.frame h (key o1) (.refl _) bH (key o2) (.refl _) bH
 rw [show aA (tZ A Gn)=listExtendWith (.ref A) (.ref Gn) (.ref A)from pT F.entry_list_iadd]
 delta listExtendWith
 have h1:listSameRef (.ref A) (.ref Gn)=false:=by simp [listSameRef,bD]
 refine ax.c6 (x:= .type "generator") (p₁:=p) (bq:=C.put A (aq [] 0)) (kP (ax.of (aT w) (n:=100) (m:=10) 3 [] [0,0] [] [] (by kernel_rfl))) ?_
 rw [h1]
 show cW _ _ p (pyIter (.ref Gn)>>=_) _ _ _
 refine ax.c6 (x:= .ref Gn) (p₁:=p) (bq:=C.put A (aq [] 0)) ?_ ?_
 ·rw [Gq]
  exact kP (ax.of (aT w) (n:=100) (m:=10) 399459 [] [0,0] [] [] (by obtain⟨w,b1,b2⟩:=w;cases b2<;>kernel_rfl))
 refine ax.c6 (x:=true) (p₁:=p) (bq:=C.put A (aq [] 0)) ?_ ?_
 ·refine ax.keep ?_
  rw [aeF]
  exact kP (ax.of (aT w) (n:=100) (m:=10) 99 [] [0,0] [] [] (by obtain⟨w,b1,b2⟩:=w;cases b2<;>kernel_rfl))
 show cW _ _ p (PySem.rule "list.extend.makes-room">>=λ_=>listTouch (.ref A)>>=λ_=> .pure (.again (lK A Gn))) _ _ _
 refine ax.c6 (x:=()) (p₁:=p) (bq:=C.put A (aq [] 0)) (kP (ax.of (aT w) (n:=100) (m:=10) 0 [] [0,0] [] [] (by kernel_rfl))) ?_
 refine ax.c6 (x:=()) (p₁:=p) (bq:=C.put A (aq [] 2)) (kP (ax.of (aT w) (n:=100) (m:=10) 21845 [] [0,0] [] [] (by kernel_rfl))) ?_
 exact ax.again (by kernel_rfl) ax.pure (by rw [aT];exact ih)
theorem aK.same {D D':aC}(h:aK V C C' Φ)(h1:D.all.Perm C.all)(h2:D.ai=C.ai)(h3:D.N=C.N/\D.J=C.J/\D.U=C.U)(h4:D'.all.Perm C'.all)(h5:D'.ai=C'.ai)(h6:D'.N=C'.N/\D'.J=C'.J/\D'.U=C'.U):aK V D D' Φ:=
 aK.frame h (by rw [bk];exact h1) (by rw [bk,h2]) h3 (by rw [bk];exact h4) (by rw [bk,h5]) h6
theorem join_gen {t2:Nat}{L:aJ}{T:List aJ}{st eI:GenState}{l:bB}(bw:Gn<N)(hg:Gives (VV w) ⟨lK N Gn,none,none,(kO bC ts Gn,p)::below,none⟩ p (.ref Gn) ⟨(Gn,dy g nm t1 ql t2)::L,T,N+1,J,[(g,st)],U⟩ (aR l) ⟨L',T',N',au,[(g,eI)],br⟩)(hl:(l.map λx=>x.1.length).sum+l.length*bC.length<=100000)(hn:l.length<=1000):∃t' hD,aP w ⟨kO bC ts Gn,none,none,below,none⟩ p (aA (kO bC ts Gn)) ⟨(Gn,dy g nm t1 ql t2)::L,T,N,J,[(g,st)],U⟩ (.ok (.ret (Z (bp bC (l.map aD)) t'))) ⟨L',T',N',hD,[(g,eI)],br⟩:=by
 refine dT (RW (A:=N) (It:=Gn) rfl hg (pre:=[]) (e:=2) (by delta aR;simp;lia)) λe' h2=> ?_
 have h3:=RY (by lia) (.head _) h2
 rw [<-aT w]at h3
 have h5:aP w ⟨tZ N Gn,none,none,(kO bC ts Gn,p)::below,none⟩ p ((VV w).M.den (tZ N Gn)) ⟨[(N,aq [] 0)],[((Gn,dy g nm t1 ql t2)::L)++T.flatten],N+1,J,[(g,st)],U⟩ (.ok (.ret (.ref N))) ⟨[(N,aq ([]++aR l) e')],[L'++T'.flatten],N',au,[(g,eI)],br⟩:=
  aK.same h3 (by simp [aC.all,aC.put]) rfl bH (by simp [aC.all,aC.put]) rfl bH
 refine fK (RX (V:=VV w) (Γ:=⟨kO bC ts Gn,none,none,below,none⟩) (p:=p) (C:=⟨L',T',N',au,[(g,eI)],br⟩) bC l hl) λt' hD h4=>
  dU t' hD ?_
 rw [show aA (kO bC ts Gn)=_ from(pT F.entry_str_join).trans (join_tree_other ⟨⟨bC⟩⟩ ts Gn)]
 refine ax.c6 (x:= .type "generator") (p₁:=p) (bq:=⟨(Gn,dy g nm t1 ql t2)::L,T,N,J,[(g,st)],U⟩) (aK.side L T [(g,st)] (L:=[(Gn,dy g nm t1 ql t2)]) (L':=[(Gn,dy g nm t1 ql t2)]) (ax.of (aT w) (n:=100) (m:=10) 1 [] [0] [] [] (by kernel_rfl))) ?_
 show cW _ _ p ((pyIter (.ref Gn)).tryCatch _>>=λit=>collect it>>=λitems=>joinTail ⟨⟨bC⟩⟩ items) _ _ _
 refine ax.c6 (x:= .ref Gn) (p₁:=p) (bq:=⟨(Gn,dy g nm t1 ql t2)::L,T,N,J,[(g,st)],U⟩) (ax.tryCatch ?_) ?_
 ·rw [Gq]
  exact aK.side L T [(g,st)] (L:=[(Gn,dy g nm t1 ql t2)]) (L':=[(Gn,dy g nm t1 ql t2)]) (ax.of (aT w) (n:=100) (m:=10) 293 [] [0] [] [] (by obtain⟨w,b1,b2⟩:=w;cases b2<;>kernel_rfl))
 refine ax.c6 (bq:=⟨L',T',N',au,[(g,eI)],br⟩) ?_ h4
 rw [Fast.te16476300251587348589]
 generalize hs:((Gn,dy g nm t1 ql t2)::L)++T.flatten=Sg at h5
 generalize CC:L'++T'.flatten=ko at h5
 have h6:aE w ⟨kO bC ts Gn,none,none,below,none⟩ p (Fast.tw16476300251587348589 (.ref Gn)) ⟨[],[Sg],N,J,[(g,st)],U⟩ (.ok (aR l)) p ⟨[],[ko],N',au,[(g,eI)],br⟩:=
  ax.of (aT w) (n:=100) (m:=10) 10 [.fn ⟨tZ N Gn,none,none,(kO bC ts Gn,p)::below,none⟩ p [0] [0] [0] _ _ _ h5] [] [0] [0] (by kernel_rfl)
 exact aK.same h6 (by subst hs;simp [aC.all]) rfl ⟨rfl,rfl,rfl⟩ (by subst CC;simp [aC.all]) rfl ⟨rfl,rfl,rfl⟩
end
theorem IZ {F ae:Nat}(hx:∀c∈x,fk c=true)(hl:x.length<=1000):∃t' N' au,Ab w x tx A Gn Fj F ae I t1 K p0 p p1 q q1 G N J U t' N' au:=by
 delta Ab
 rw [aT]
 cases x with
 |nil=>exact jh _ _ _ (RT)
 |cons c x=>
  have bD:c::x≠[]:=by simp
  cases ha:(c::x).all cF with
  |true=>
   rw [show bW (c::x)=c::x from by delta bW;rw [if_neg bD,ha,if_pos rfl]]
   exact jh _ _ _ (RU hx c5 ha)
  |false=>
   have hr:=Iv (c::x) 39 dx
   have hr6:(c::x).length*(dx.length+1)<=6000:=by show(c::x).length*6<=6000;lia
   rw [show bW (c::x)=[39]++b5 39 dx (c::x)++[39]from by delta bW;rw [if_neg bD,ha];rfl]
   exact jh _ _ _ (RV hx c5 ha (by lia) (by show(c::x).length*6<=_;lia) (by show 1+(b5 39 dx (c::x)).length<=_;lia) (by rw [ci];show 1+(b5 39 dx (c::x)).length+1<=_;lia))
theorem RZ {F ae:Nat}(hx:∀x∈aL,(∀c∈x.1,fk c=true)/\x.1.length<=1000):∀(m i:Nat) (kv:Nat×ay) (N J:Nat),i+m=aL.length-> ∃o i7 N' au,o.map aD=(aL.drop i).map (λx=>bW x.1)/\ Gives (VV w) (wo w.P A Gn Fj t1 K q q1 G) p (.ref Gn) (pS w.P Gn Fj F ae I l E g k aX bg (some kv) (aR aL) i N J U) (aR o) (Ad w.P Gn F I l E g k aX bg (some i7) (aR aL) aL.length N' au U):=by
 intro m
 induction m with
 |zero=>
  intro i kv N J hi
  have hi:i=aL.length:=by lia
  subst hi
  exact sf [] kv _ _ (by simp) (.stop (RS (CU (by simp))))
 |succ m aS=>
  intro i kv N J hi
  have bw:i<aL.length:=by lia
  have h0:aL[i]? =some aL[i]:=cm bw
  have lI:=hx aL[i] (gt bw)
  refine kM (IZ (w:=w) (x:=aL[i].1) (tx:=aL[i].2) (A:=A) (Gn:=Gn) (Fj:=Fj) (F:=F) (ae:=ae) (I:=I) (t1:=t1) (K:=K) (p0:=qC) (p:=p) (p1:=qC) (q:=q) (q1:=q1) (G:=G) (N:=N) (J:=J+1) (U:=U) lI.1 lI.2) λt' N1 be hq=> ?_
  have h1:=RR (k0:=kv.1) (v0:=kv.2) (l:=l) (E:=E) (g:=g) (k:=k) (aX:=aX) (bg:=bg) (wh h0) hq
  obtain⟨o,i7,N',au,h2,h3⟩:=aS (i+1) _ _ _ (by lia)
  exact sf ((bW aL[i].1,t')::o) i7 N' au (by rw [fJ bw,bY,bY,h2]) (.next h1 h3)
theorem R0 {F ae:Nat}(hx:∀x∈aL,(∀c∈x.1,fk c=true)/\x.1.length<=1000)(bD:aL≠[]):∃o i7 N' au,o.map aD=aL.map (λx=>bW x.1)/\ Gives (VV w) (wo w.P A Gn Fj t1 K q q1 G) p (.ref Gn) (pS w.P Gn Fj F ae I l E g k aX bg none (aR aL) 0 N J U) (aR o) (Ad w.P Gn F I l E g k aX bg (some i7) (aR aL) aL.length N' au U):=by
 obtain⟨x,r,rfl⟩:∃x r,aL=x::r:=by
  cases aL with
  |nil=>exact absurd rfl bD
  |cons x r=>exact dU x r rfl
 have lI:=hx x (.head _)
 refine kM (IZ (w:=w) (tx:=x.2) (A:=A) (Gn:=Gn) (Fj:=Fj) (F:=F) (ae:=ae) (I:=I) (t1:=t1) (K:=K) (p0:=qC) (p:=p) (p1:=qC) (q:=q) (q1:=q1) (G:=G) (N:=N) (J:=J+1) (U:=U) lI.1 lI.2) λt' N1 be hq=> ?_
 have h1:=RQ (l:=l) (E:=E) (g:=g) (k:=k) (aX:=aX) (bg:=bg) (Y:=aR (x::r)) (i:=0) rfl hq
 obtain⟨o,i7,N',au,h2,h3⟩:=RZ (w:=w) hx r.length 1 _ _ _ (by simp;lia)
 exact sf ((bW x.1,t')::o) i7 N' au (by rw [bY,bY,h2];rfl) (.next h1 h3)
def Ae (w:WB)(Gn Fj F ae I l E g k t1 aX bg K N J U t' N' au:Nat)(kv:Nat×ay)(p q1 G:aw)(aL:bB):Prop:=
 aP w ⟨kO [32] t1 Gn,none,none,dB w.P 917 Fj q1 (cO w.P K G),none⟩ p ((VV w).M.den (kO [32] t1 Gn)) (pS w.P Gn Fj F ae I l E g k aX bg none (aR aL) 0 N J U) (.ok (.ret (Z (bp [32] (aL.map λx=>bW x.1)) t'))) (Ad w.P Gn F I l E g k aX bg (some kv) (aR aL) aL.length N' au U)
noncomputable def R3 (w:WB)(aH ng:d){Gn Fj F ae I l E g k t1 aX bg K N J U t' N' au:Nat}{kv:Nat×ay}{p q1 G:aw}{aL:bB}(h:Ae w Gn Fj F ae I l E g k t1 aX bg K N J U t' N' au kv p q1 G aL):aM w:= .fn _ _ aH [] ng _ _ _ h
theorem R5 {F ae:Nat}(hs:aL.length<=100)(hx:∀x∈aL,(∀c∈x.1,fk c=true)/\x.1.length<=1000)(bD:aL≠[])(hl:((aL.map λx=>(bW x.1).length).sum+aL.length)<=100000)(bw:Gn<N):∃t' N' au kv,Ae w Gn Fj F ae I l E g k t1 aX bg K N J U t' N' au kv p q1 G aL:=by
 refine x3 (R0 (w:=w) (A:=N) (Gn:=Gn) (Fj:=Fj) (F:=F) (ae:=ae) (I:=I) (l:=l) (E:=E) (g:=g) (k:=k) (t1:=t1) (aX:=aX) (bg:=bg) (K:=K) (U:=U) (N:=N+1) (J:=J) (p:=p) (q:=p) (q1:=q1) (G:=G) hx bD) λo i7 N' au h1 h2=> ?_
 have e1:(o.map λx=>x.1.length)=aL.map λx=>(bW x.1).length:=by
  have:=congrArg (cr dn) h1
  rw [eF,eF]at this
  exact this
 have e2:o.length=aL.length:=by
  have:=congrArg dn h1
  simpa using this
 refine fK (join_gen bw h2 (by rw [e1,e2];simpa using hl) (by lia)) λt' hD h3=> ?_
 rw [h1]at h3
 exact jJ t' N' hD i7 (by unfold Ae;rw [aT];exact h3)
noncomputable def gB (a b c:Nat):az:={cls:= .none,data:= .fields ⟨[.int (O a) 0,.int (O b) 0,.ref c]⟩}
noncomputable def Af (P:aF)(l K:Nat)(G:aw):bd:=⟨.call (.ref 917) ⟨[.ref l],[]⟩,none,none,cO P K G,none⟩
theorem R6 {R7:Nat×ay}(h4:Ae w (N+6) N (N+5) (N+4) (N+1) l E U (J+7) (J+1) (J+8) (J+9) K (N+7) (J+10) (U+1) gJ aU aI R7 yh yh G aL):aP w (Af w.P l K G) p (aA (Ctx.code (Af w.P l K G))) ⟨[(912,fO),(l,aq (aR aL) E)],[],N,J,[],U⟩ (.ok (.ret (Z (bp [32] (cr (λx=>bW x.fst) aL)) gJ))) ⟨[(912,gB 846 20 (N+4)),(l,aq (aR aL) E)],[],aU,aI,[],(U+1)⟩:=
 by revert w;exact @(iA 0x4a4e73388e39d14 (λw h4=>[R3 w [0,0,3,5] [0] h4]) [8,3])
noncomputable def fP:Stmt->Expr
 | .For t _ _ _ _=>t
 |_=>default
noncomputable def im (P:aF):Stmt:=dW (cw P 937) 1
noncomputable def i8 (P:aF)(F aj:Nat):bL:=pz (im P) (.ref aj) (eQ P 937 F [])
noncomputable def I3 (P:aF)(F aj K:Nat)(q q1 G:aw):b9:=(i8 P F aj,q)::dB P 937 F q1 (cO P K G)
noncomputable def I4 (P:aF):Expr:=bv (jO (dW (inner (im P)) 0)) [1,0]
noncomputable def i9 (P:aF)(F D av I:Nat):bL:= .compLoop (I4 P) 0 (.ref I) (.ref av) (compEnv (I4 P) (eQ P 937 F []) D [])
noncomputable def nz (P:aF)(F D av I aj K:Nat)(q q1 G:aw):bd:=⟨i9 P F D av I,none,none,I3 P F aj K q q1 G,none⟩
noncomputable def gC:d:=[115,105,103,110]
noncomputable def jt (P:aF)(n:d)(D av I:Nat)(o:Option (Nat×ay))(aB:LV)(e:Nat)(x:d)(t i N J U:Nat):aC:=⟨[(D,hB P n o),(av,aq aB e),(I,bS x t i)],[],N,J,[],U⟩
noncomputable def Ag (P:aF)(n:d)(D av I:Nat)(o:Option (Nat×ay))(aB:LV)(e i N J U:Nat):aC:=⟨[(D,hB P n o),(av,aq aB e),(I,nx i)],[],N,J,[],U⟩
noncomputable def t8 (P:aF)(H z l M:Nat):az:=bz [de P [119,111,114,100,115] H (.ref l),de P [109,97,114,107,115] z (.ref M)] 2
noncomputable def f5 (P:aF)(H z k3 k4 k5 l M n tn:Nat)(x:d)(tx:Nat)(pl:Bool):Option (Nat×ay)->az
 |none=>bz [de P [119,111,114,100,115] H (.ref l),de P [109,97,114,107,115] z (.ref M),de P [97,116] k3 (.int (O n) tn),de P [119,111,114,100] k4 (Z x tx),de P [112,108,97,105,110] k5 (.bool pl)] 5
 |some s=>bz [de P [119,111,114,100,115] H (.ref l),de P [109,97,114,107,115] z (.ref M),de P [97,116] k3 (.int (O n) tn),de P [119,111,114,100] k4 (Z x tx),de P [112,108,97,105,110] k5 (.bool pl),de P gC s.1 s.2] 6
noncomputable def jQ (P:aF)(F I:Nat):bL:=pz (dW (inner (im P)) 3) (.ref I) (eQ P 937 F [])
noncomputable def oC (P:aF)(F I aj K:Nat)(q q1 G:aw):bd:=⟨jQ P F I,none,none,I3 P F aj K q q1 G,none⟩
noncomputable def nA (P:aF)(F M I H z k3 k4 k5 l n tn:Nat)(x:d)(tx:Nat)(pl:Bool)(s:Option (Nat×ay))(ms:LV)(eM t i N J U:Nat)(A:aJ):aC:=⟨[(F,f5 P H z k3 k4 k5 l M n tn x tx pl s),(M,aq ms eM),(I,bS x t i)]++A,[],N,J,[],U⟩
noncomputable def I5 (P:aF)(F M I H z k3 k4 k5 l n tn:Nat)(x:d)(tx:Nat)(pl:Bool)(s:Option (Nat×ay))(ms:LV)(eM i N J U:Nat):aC:=⟨[(F,f5 P H z k3 k4 k5 l M n tn x tx pl s),(M,aq ms eM),(I,nx i)],[],N,J,[],U⟩
structure MK where
 a:Nat
 wr:d
 tw:Nat
 mn:d
 tm:Nat
 no:Int
 tn:Nat
noncomputable def MK.ent (m:MK):Addr×az:=(m.a,aG [Z m.wr m.tw,Z m.mn m.tm,.int m.no m.tn])
noncomputable def MK.key (m:MK):d×d×Int:=(m.wr,m.mn,m.no)
noncomputable def cL (ms:List MK):LV:=ms.map λm=> .ref m.a
theorem R8 (a b:List MK):cL (a++b)=cL a++cL b:=cx
theorem R9 {F:Nat}(h9:x[i]? =some c)(h0:decide (c∈[97,98,44])=true):aE w (nz w.P F D av I aj K q q1 G) p (aA (i9 w.P F D av I)) (jt w.P gC D av I none aB e x t i N J U) (.ok (.again (i9 w.P F D av I))) ⟨866,57,866,74⟩ (jt w.P gC D av I (some ((J+1),(Z [c] J))) aB e x t (i+1) N (J+3) U):=
 w1 294414791 [gA w [2] I t h9,pO w (J+2) J h0] [1,1,0]
theorem Sa {F:Nat}(h9:x[i]? =some c)(h0:decide (c∈[97,98,44])=false)(h1:aB.length<=100000):aE w (nz w.P F D av I aj K q q1 G) p (aA (i9 w.P F D av I)) (jt w.P gC D av I none aB e x t i N J U) (.ok (.again (i9 w.P F D av I))) ⟨866,32,866,36⟩ (jt w.P gC D av I (some ((J+1),(Z [c] J))) (aB++[cu {cps:={toList:=[c]}} J]) (e+1) x t (i+1) N (J+3) U):=
 w1 2683575232967 [gA w [2] I t h9,pO w (J+2) J h0,bR w [2] av e (Z [c] J) h1] [2,0,0]
theorem Sb {F:Nat}(h9:x[i]? =none):aP w (nz w.P F D av I aj K q q1 G) p (aA (i9 w.P F D av I)) (jt w.P gC D av I none aB e x t i N J U) (.ok .next) (Ag w.P gC D av I none aB e i (N+2) J U):=
 dJ 10695 [oA w [2] I t h9] [3,3,2]
theorem Sc {F:Nat}(h9:x[i]? =some c)(h0:decide (c∈[97,98,44])=true):aE w (nz w.P F D av I aj K q q1 G) p (aA (i9 w.P F D av I)) (jt w.P gC D av I (some (k0,v0)) aB e x t i N J U) (.ok (.again (i9 w.P F D av I))) ⟨866,57,866,74⟩ (jt w.P gC D av I (some (k0,(Z [c] J))) aB e x t (i+1) N (J+3) U):=
 w1 294414791 [gA w [2] I t h9,pO w (J+2) J h0] [1,1,0]
theorem Sd {F:Nat}(h9:x[i]? =some c)(h0:decide (c∈[97,98,44])=false)(h1:aB.length<=100000):aE w (nz w.P F D av I aj K q q1 G) p (aA (i9 w.P F D av I)) (jt w.P gC D av I (some (k0,v0)) aB e x t i N J U) (.ok (.again (i9 w.P F D av I))) ⟨866,32,866,36⟩ (jt w.P gC D av I (some (k0,(Z [c] J))) (aB++[cu {cps:={toList:=[c]}} J]) (e+1) x t (i+1) N (J+3) U):=
 w1 2683575232967 [gA w [2] I t h9,pO w (J+2) J h0,bR w [2] av e (Z [c] J) h1] [2,0,0]
theorem Se {F:Nat}(h9:x[i]? =none):aP w (nz w.P F D av I aj K q q1 G) p (aA (i9 w.P F D av I)) (jt w.P gC D av I (some (k0,v0)) aB e x t i N J U) (.ok .next) (Ag w.P gC D av I (some (k0,v0)) aB e i (N+2) J U):=
 dJ 10695 [oA w [2] I t h9] [3,3,2]
theorem Sf {F M:Nat}(h9:x[i]? =some c)(h0:([c]==[39])=true)(h1:ms.length<=100000):aE w (oC w.P F I aj K q q1 G) p (aA (jQ w.P F I)) (nA w.P F M I H z k3 k4 k5 l n tn x tx pl none ms eM t i N J U []) (.ok (.again (jQ w.P F I))) yi (nA w.P F M I H z k3 k4 k5 l n tn x tx pl (some ((J+1),(Z [c] J))) (ms++[.ref N]) (eM+1) t (i+1) (N+1) (J+4) U [(N,aG [Z [39,34,39,34,39] (J+3),Z [c] J,.int (O n) tn])]):=
 by revert w;exact @(dI 0xac31a339ce718c69c7 (λw=>[gA w [2] I t h9,bu w J (J+2) h0,bR w [3] M eM (.ref N) h1]) [3,0,1,0])
theorem Si {F M:Nat}(h9:x[i]? =some c)(h0:([c]==[39])=false)(h1:ms.length<=100000):aE w (oC w.P F I aj K q q1 G) p (aA (jQ w.P F I)) (nA w.P F M I H z k3 k4 k5 l n tn x tx pl none ms eM t i N J U []) (.ok (.again (jQ w.P F I))) yi (nA w.P F M I H z k3 k4 k5 l n tn x tx pl (some ((J+1),(Z [c] J))) (ms++[.ref N]) (eM+1) t (i+1) (N+1) (J+3) U [(N,aG [Z [c] J,Z [c] J,.int (O n) tn])]):=
 by revert w;exact @(dI 0x158631a339ce718c69c7 (λw=>[gA w [2] I t h9,bu w J (J+2) h0,bR w [3] M eM (.ref N) h1]) [3,0,1,0])
theorem Sj {F M:Nat}(h9:x[i]? =none):aP w (oC w.P F I aj K q q1 G) p (aA (jQ w.P F I)) (nA w.P F M I H z k3 k4 k5 l n tn x tx pl none ms eM t i N J U []) (.ok .next) (I5 w.P F M I H z k3 k4 k5 l n tn x tx pl none ms eM i (N+2) J U):=
 dJ 10695 [oA w [2] I t h9] [3,3,2]
theorem Sk {F M:Nat}(h9:x[i]? =some c)(h0:([c]==[39])=true)(h1:ms.length<=100000):aE w (oC w.P F I aj K q q1 G) p (aA (jQ w.P F I)) (nA w.P F M I H z k3 k4 k5 l n tn x tx pl (some (k0,v0)) ms eM t i N J U []) (.ok (.again (jQ w.P F I))) yi (nA w.P F M I H z k3 k4 k5 l n tn x tx pl (some (k0,(Z [c] J))) (ms++[.ref N]) (eM+1) t (i+1) (N+1) (J+4) U [(N,aG [Z [39,34,39,34,39] (J+3),Z [c] J,.int (O n) tn])]):=
 by revert w;exact @(dI 0xac31a339ce718c69c7 (λw=>[gA w [2] I t h9,bu w J (J+2) h0,bR w [3] M eM (.ref N) h1]) [3,0,1,0])
theorem Sm {F M:Nat}(h9:x[i]? =some c)(h0:([c]==[39])=false)(h1:ms.length<=100000):aE w (oC w.P F I aj K q q1 G) p (aA (jQ w.P F I)) (nA w.P F M I H z k3 k4 k5 l n tn x tx pl (some (k0,v0)) ms eM t i N J U []) (.ok (.again (jQ w.P F I))) yi (nA w.P F M I H z k3 k4 k5 l n tn x tx pl (some (k0,(Z [c] J))) (ms++[.ref N]) (eM+1) t (i+1) (N+1) (J+3) U [(N,aG [Z [c] J,Z [c] J,.int (O n) tn])]):=
 by revert w;exact @(dI 0x158631a339ce718c69c7 (λw=>[gA w [2] I t h9,bu w J (J+2) h0,bR w [3] M eM (.ref N) h1]) [3,0,1,0])
theorem Sn {F M:Nat}(h9:x[i]? =none):aP w (oC w.P F I aj K q q1 G) p (aA (jQ w.P F I)) (nA w.P F M I H z k3 k4 k5 l n tn x tx pl (some (k0,v0)) ms eM t i N J U []) (.ok .next) (I5 w.P F M I H z k3 k4 k5 l n tn x tx pl (some (k0,v0)) ms eM i (N+2) J U):=
 dJ 10695 [oA w [2] I t h9] [3,3,2]
theorem aK.wq {L X:aJ}(S:aJ)(h:aK V ⟨L,[],N,J,ai,U⟩ ⟨L'++X,[],N',au,G',br⟩ Φ):aK V ⟨L,[S],N,J,ai,U⟩ ⟨L',[S++X],N',au,G',br⟩ Φ:=
 aK.frame h (A:=S) (B:=[]) (by simp [aC.all]) (by rw [bk]) bH (by
  simp only [aC.all,ck,ce,bk,bK]
  exact cg.append_left _ cY) (by rw [bk]) bH
theorem aK.seg {L:aJ}(S:aJ)(h:aK V ⟨L,[],N,J,ai,U⟩ ⟨L',[],N',au,G',br⟩ Φ):aK V ⟨L,[S],N,J,ai,U⟩ ⟨L',[S],N',au,G',br⟩ Φ:=by
 have:=aK.wq S (by rw [bk];exact h)
 rw [bk]at this
 exact this
variable {w:WB}
theorem I6 (c:Nat):decide (c∈[97,98,44])=cF c:=by
 delta cF
 by_cases h1:c=97
 ·subst h1;rfl
 by_cases h2:c=98
 ·subst h2;rfl
 by_cases h3:c=44
 ·subst h3;rfl
 simp [h1,h2,h3]
theorem So {F:Nat}(hx:x.length<=1000):∀(m i:Nat) {aB:LV} {o:Option (Nat×ay)} {e N J:Nat} {p:aw},i+m=x.length->aB.length<=i-> ∃(o':Option (Nat×ay)) (os:LV) (e' N' au:Nat),(os=[]↔(x.drop i).all cF=true)/\(m≠0->∃kv,o'=some kv)/\(m=0->o'=o)/\ aP w (nz w.P F D av I aj K q q1 G) p (aA (i9 w.P F D av I)) (jt w.P gC D av I o aB e x t i N J U) (.ok .next) (Ag w.P gC D av I o' (aB++os) e' x.length N' au U):=by
 intro m
 induction m with
 |zero=>
  intro i aB o e N J p hi _
  have hi:i=x.length:=by lia
  subst hi
  refine ke o [] e (N+2) J (by simp) (λh=>absurd rfl h) (λ_=>rfl) ?_
  rw [bk]
  cases o with
  |none=>exact Sb (by simp)
  |some kv=>exact Se (by simp)
 |succ m aS=>
  intro i aB o e N J p hi ho
  have bw:i<x.length:=by lia
  have h0:x[i]? =some x[i]:=cm bw
  have hd:=fJ bw
  cases hs:cF x[i]with
  |true=>
   have hm:decide (x[i]∈[97,98,44])=true:=by rw [I6];exact hs
   have key:∃kv p' be,aE w (nz w.P F D av I aj K q q1 G) p (aA (i9 w.P F D av I)) (jt w.P gC D av I o aB e x t i N J U) (.ok (.again (i9 w.P F D av I))) p' (jt w.P gC D av I (some kv) aB e x t (i+1) N be U):=by
    cases o with
    |none=>exact jh _ _ _ (R9 h0 hm)
    |some kv=>exact jh _ _ _ (Sc h0 hm)
   refine kM (key) λkv p' be h1=> ?_
   refine ix (aS (i+1) (by lia) kf) λo' os e' N' au g1 g2 g3 g4=>
    ke o' os e' N' au (by rw [hd,List.all_cons,hs,Bool.true_and];exact g1) (λ_=> ?_) (λh=>absurd h lq) (ax.turn (aT w) rfl (by kernel_rfl) h1 g4)
   by_cases hm:m=0
   ·exact⟨_,g3 hm⟩
   ·exact g2 hm
  |false=>
   have hm:decide (x[i]∈[97,98,44])=false:=by rw [I6];exact hs
   have key:∃kv p' be v1,aE w (nz w.P F D av I aj K q q1 G) p (aA (i9 w.P F D av I)) (jt w.P gC D av I o aB e x t i N J U) (.ok (.again (i9 w.P F D av I))) p' (jt w.P gC D av I (some kv) (aB++[v1]) (e+1) x t (i+1) N be U):=by
    cases o with
    |none=>exact jJ _ _ _ _ (Sa h0 hm (by lia))
    |some kv=>exact jJ _ _ _ _ (Sd h0 hm (by lia))
   refine o9 (key) λkv p' be v1 h1=> ?_
   refine ix (aS (i+1) (aB:=aB++[v1]) (o:=some kv) (e:=e+1) (N:=N) (J:=be) (p:=p') (by lia) (by simp;lia)) λo' os e' N' au g1 g2 g3 g4=> ?_
   rw [bK,u7]at g4
   refine ke o' (v1::os) e' N' au (by rw [hd,List.all_cons,hs,Bool.false_and];simp) (λ_=> ?_) (λh=>absurd h lq) (ax.turn (aT w) rfl (by kernel_rfl) h1 g4)
   by_cases hm:m=0
   ·exact⟨_,g3 hm⟩
   ·exact g2 hm
noncomputable def dC (c:Nat):d:=if c=39 then dx else [c]
theorem Sp {F M:Nat}(hx:x.length<=100):∀(m i:Nat) {ms:LV} {S:aJ} {s:Option (Nat×ay)} {eM N J:Nat} {p:aw},i+m=x.length->ms.length<=10000+i-> ∃(o:List MK) (s':Option (Nat×ay)) (fm N' au:Nat),o.map MK.key=(x.drop i).map (λc=>(dC c,[c],O n))/\(m=0->s'=s)/\(m≠0->∃kv,s'=some kv)/\ aP w (oC w.P F I aj K q q1 G) p (aA (jQ w.P F I)) ⟨[(F,f5 w.P H z k3 k4 k5 l M n tn x tx pl s),(M,aq ms eM),(I,bS x t i)],[S],N,J,[],U⟩ (.ok .next) ⟨[(F,f5 w.P H z k3 k4 k5 l M n tn x tx pl s'),(M,aq (ms++cL o) fm),(I,nx x.length)],[S++o.map MK.ent],N',au,[],U⟩:=by
 intro m
 induction m with
 |zero=>
  intro i ms S s eM N J p hi _
  have hi:i=x.length:=by lia
  subst hi
  refine ke [] s eM (N+2) J (by simp) (λ_=>rfl) (λh=>absurd rfl h) ?_
  rw [show cL []=[]from rfl,n7,bk,bk]
  cases s with
  |none=>exact aK.seg _ (Sj (by simp))
  |some kv=>exact aK.seg _ (Sn (k0:=kv.1) (v0:=kv.2) (by simp))
 |succ m aS=>
  intro i ms S s eM N J p hi ho
  have bw:i<x.length:=by lia
  have h0:x[i]? =some x[i]:=cm bw
  have hl:ms.length<=100000:=by lia
  have key:∃(mk:MK) (kv:Nat×ay) (p':aw) (be:Nat),mk.key=(dC x[i],[x[i]],O n)/\aE w (oC w.P F I aj K q q1 G) p (aA (jQ w.P F I))
    ⟨[(F,f5 w.P H z k3 k4 k5 l M n tn x tx pl s),(M,aq ms eM),(I,bS x t i)],[S],N,J,[],U⟩ (.ok (.again (jQ w.P F I))) p'
    ⟨[(F,f5 w.P H z k3 k4 k5 l M n tn x tx pl (some kv)),(M,aq (ms++[.ref mk.a]) (eM+1)),(I,bS x t (i+1))],[S++[mk.ent]],N+1,be,[],U⟩:=by
   by_cases hc:x[i]=39
   ·refine⟨⟨N,dx,J+3,[x[i]],J,O n,tn⟩,?_⟩
    have he:(([x[i]]:d)==[39])=true:=by simp [hc]
    cases s with
    |none=>exact j9 _ _ _ (by simp [MK.key,dC,hc]) (aK.wq _ (Sf h0 he hl))
    |some kv=>exact j9 _ _ _ (by simp [MK.key,dC,hc]) (aK.wq _ (Sk h0 he hl))
   ·refine⟨⟨N,[x[i]],J,[x[i]],J,O n,tn⟩,?_⟩
    have he:(([x[i]]:d)==[39])=false:=by simp [hc]
    cases s with
    |none=>exact j9 _ _ _ (by simp [MK.key,dC,hc]) (aK.wq _ (Si h0 he hl))
    |some kv=>exact j9 _ _ _ (by simp [MK.key,dC,hc]) (aK.wq _ (Sm h0 he hl))
  refine x3 (key) λmk kv p' be hk h1=> ?_
  refine ix (aS (i+1) (ms:=ms++[.ref mk.a]) (S:=S++[mk.ent]) (s:=some kv) (eM:=eM+1) (N:=N+1) (J:=be) (p:=p') (by lia) (by simp;lia)) λo s' fm N' au g1 g2 g3 g4=> ?_
  rw [bK,u7,bK,u7]at g4
  refine ke (mk::o) s' fm N' au (by rw [fJ bw,bY,bY,g1,hk]) (λh=>absurd h lq) (λ_=> ?_) (ax.turn (aT w) rfl (by kernel_rfl) h1 g4)
  by_cases hm:m=0
  ·exact⟨_,g2 hm⟩
  ·exact g3 hm
theorem Dd {x1:_}{tp:aw}{nm:String}{fs:LV}(hn:nm="enumerate"\/nm="zip"):aE w Γ p (letOwnedTupleGo (.Tuple elts x1 tp) (.ref I) (.ref T)) ⟨[(I,rec nm (ft T::fs))],[],N,J,[],U⟩ (.ok ()) p ⟨[(I,rec nm (.none::fs))],[],N,J,[],U⟩:=by
 delta letOwnedTupleGo
 refine ax.load (.head _) ?_
 have h1:(["enumerate","zip","dict_itemiterator","dict_reverseitemiterator","odict_iterator","itertools.zip_longest","itertools.pairwise"].contains nm&&(some (ft T)==some (ft T)))=true:=by
  rw [show(some (ft T)==some (ft T))=true from beq_self_eq_true _]
  rcases hn with rfl|rfl<;>decide
 show ax _ _ _ (if((["enumerate","zip","dict_itemiterator","dict_reverseitemiterator","odict_iterator","itertools.zip_longest","itertools.pairwise"].contains nm&&(some (ft T)==some (ft T)))=true)then(PySem.rule "for.unpacks-the-owned-tuple">>=λ_=>updateField I 0 .none)else _) _ _ _ _
 rw [if_pos h1]
 rcases hn with rfl|rfl
 ·exact ax.of (aT w) (n:=100) (m:=10) 21 [] [0] [] [] (by kernel_rfl)
 ·exact ax.of (aT w) (n:=100) (m:=10) 21 [] [0] [] [] (by kernel_rfl)
noncomputable def wt (target:Expr)(it:ay)(body orelse:List Stmt)(env:Env)(v:ay):SF:=
 R.bindR (aeG target env v) λ_=>R.bindR (lk body env) λf=>match f with
  | .next=> .pure (.again (.forLoop target it body orelse env))
  | .cont=> .pure (.again (.forLoop target it body orelse env))
  | .brk=> .pure (.done .next)
  | .ret v=> .pure (.done (.ret v))
theorem I7 {x1:_}{tp:aw}{orelse:List Stmt}{f:PySem.Fin}(h1:aE w Γ tp (dP it) C (.ok (some v)) p₁ bq)(h2:aE w Γ p₁ (letOwnedTupleGo (.Tuple elts x1 tp) it v) bq (.ok ()) p₁ ij)(h3:aE w Γ p₁ (wt (.Tuple elts x1 tp) it body orelse env v) ij (.ok f) p₃ mE):aE w Γ p (aA (.forLoop (.Tuple elts x1 tp) it body orelse env)) C (.ok f) p₃ mE:=by
 rw [<-or]
 delta denote
 dsimp only
 refine ax.onRaise ?_
 delta forTurn
 refine ax.bind (λs R=>⟨s,.refl R,λ_ _ _ _ _ _ q=> .at q⟩) ?_
 refine ax.bind (ax.onRaise (by rw [o6];exact h1)) ?_
 refine ax.bind h2 ?_
 have e:wt (.Tuple elts x1 tp) it body orelse env v=_:=rfl
 delta wt at h3
 rw [<-aeH,<-xQ,<-R.bindR_eq]at h3
 refine(congrArg (λt=>aE w Γ p₁ t ij (.ok f) p₃ mE) ?_).mp h3
 show Sem.bind _ _=Sem.bind _ _
 congr 1
theorem I8 {x1:_}{tp:aw}{orelse:List Stmt}(hq:(Code.block orelse env).quiet=true)(h1:aE w Γ tp (dP it) C (.ok none) p₁ bq):aE w Γ p (aA (.forLoop (.Tuple elts x1 tp) it body orelse env)) C (.ok (.again (.block orelse env))) p₁ bq:=by
 rw [<-or]
 delta denote
 dsimp only
 refine ax.onRaise ?_
 delta forTurn
 refine ax.bind (λs R=>⟨s,.refl R,λ_ _ _ _ _ _ q=> .at q⟩) ?_
 refine ax.bind (ax.onRaise (by rw [o6];exact h1)) ?_
 exact ax.pure
noncomputable def nB (I n:Nat)(old:ay):az:=rec "enumerate" [.none,.bool false,.ref I,.int (O n) 0,.none,old]
noncomputable def Sq (T I n:Nat)(old:ay):az:=rec "enumerate" [ft T,.bool false,.ref I,.int (O n) 0,.none,old]
noncomputable def Ah (a b:Nat)(hd own past:Option ay)(below:b9):bd:=⟨.builtin "list.__eq__" ⟨[.ref a,.ref b],[]⟩,hd,own,below,past⟩
noncomputable def Ai (a b:Nat)(u v:LV)(e e2 N J U:Nat):aC:=⟨[(a,aq u e),(b,aq v e2)],[],N,J,[],U⟩
theorem Sr {hd:Option ay}:aP w (Ah a b hd own past below) p (aA (Ctx.code (Ah a b hd own past below))) (Ai a b [] [] e e2 N J U) (.ok (.ret (.bool true))) (Ai a b [] [] e e2 N J U):=
 dJ 13738403 [] [0,0]
theorem Ss {hd:Option ay}:aP w (Ah a b hd own past below) p (aA (Ctx.code (Ah a b hd own past below))) (Ai a b (v::Y) [] e e2 N J U) (.ok (.ret (.bool false))) (Ai a b (v::Y) [] e e2 N J U):=
 dJ 419 [] [0,0]
theorem Su (a b e e2:Nat)(Y:LV):Bi (VV w) 0 (bV false "list.__eq__" ⟨[.ref a,.ref b],[]⟩) [(a,aq Y e),(b,aq [] e2)] (λ_=>[(a,aq Y e),(b,aq [] e2)]) (λ_ _=> .ok (.ret (.bool Y.isEmpty))) 0 0:=by
 rintro ⟨c,hd,own,below,past⟩ p N J U cv _
 have cv:c=bV false "list.__eq__" ⟨[.ref a,.ref b],[]⟩:=cv
 subst cv
 rw [aT]
 cases Y with
 |nil=>exact Sr
 |cons v Y=>exact Ss
noncomputable def kq (w:WB)(aH:d)(a b e e2:Nat){Y:LV}{r:Bool}(h:Y.isEmpty=r):aM w:= .bi _ _ _ _ aH _ _ _ _ _ (h▸Su a b e e2 Y)
def ua (w:WB)(F D av I aj K t N J U e' N' au:Nat)(x:d)(os:LV)(kv:Nat×ay)(p q q1 G:aw):Prop:=
 aP w (nz w.P F D av I aj K q q1 G) p ((VV w).M.den (i9 w.P F D av I)) (jt w.P gC D av I none [] 0 x t 0 N J U) (.ok .next) (Ag w.P gC D av I (some kv) os e' x.length N' au U)
noncomputable def ub (w:WB)(aH:d){F D av I aj K t N J U e' N' au:Nat}{x:d}{os:LV}{kv:Nat×ay}{p q q1 G:aw}(h:ua w F D av I aj K t N J U e' N' au x os kv p q q1 G):aM w:= .fn _ _ aH [] [] _ _ _ h
def jR (w:WB)(F M I aj K H z k3 k4 k5 l n tn t tx eM N J U fm N' au:Nat)(x:d)(pl:Bool)(s s':Option (Nat×ay))(ms kQ:LV)(S:aJ)(p q q1 G:aw):Prop:=
 aP w (oC w.P F I aj K q q1 G) p ((VV w).M.den (jQ w.P F I))
  ⟨[(F,f5 w.P H z k3 k4 k5 l M n tn x tx pl s),(M,aq ms eM),(I,bS x t 0)],[],N,J,[],U⟩ (.ok .next)
  ⟨[(F,f5 w.P H z k3 k4 k5 l M n tn x tx pl s'),(M,aq kQ fm),(I,nx x.length)],[S],N',au,[],U⟩
noncomputable def Aj (w:WB)(aH:d){F M I aj K H z k3 k4 k5 l n tn t tx eM N J U fm N' au:Nat}{x:d}{pl:Bool}{i7:Nat×ay}{ms kQ:LV}{S:aJ}{p q q1 G:aw}(h:jR w F M I aj K H z k3 k4 k5 l n tn t tx eM N J U fm N' au x pl none (some i7) ms kQ S p q q1 G):aM w:= .fn _ _ aH [] [] _ _ _ h
noncomputable def I9 (w:WB)(aH:d){F M I aj K H z k3 k4 k5 l n tn t tx eM N J U fm N' au:Nat}{x:d}{pl:Bool}{k0:Nat}{v0:ay}{i7:Nat×ay}{ms kQ:LV}{S:aJ}{p q q1 G:aw}(h:jR w F M I aj K H z k3 k4 k5 l n tn t tx eM N J U fm N' au x pl (some (k0,v0)) (some i7) ms kQ S p q q1 G):aM w:= .fn _ _ aH [] [] _ _ _ h
noncomputable def Ja (w:WB)(aH:d){F M I aj K H z k3 k4 k5 l n tn t tx eM N J U fm N' au:Nat}{pl:Bool}{ms kQ:LV}{S:aJ}{p q q1 G:aw}(h:jR w F M I aj K H z k3 k4 k5 l n tn t tx eM N J U fm N' au [] pl none none ms kQ S p q q1 G):aM w:= .fn _ _ aH [] [] _ _ _ h
noncomputable def Sv (w:WB)(aH:d){F M I aj K H z k3 k4 k5 l n tn t tx eM N J U fm N' au:Nat}{pl:Bool}{k0:Nat}{v0:ay}{ms kQ:LV}{S:aJ}{p q q1 G:aw}(h:jR w F M I aj K H z k3 k4 k5 l n tn t tx eM N J U fm N' au [] pl (some (k0,v0)) (some (k0,v0)) ms kQ S p q q1 G):aM w:= .fn _ _ aH [] [] _ _ _ h
noncomputable def jS (P:aF)(F aj K:Nat)(q1 G:aw):bd:=⟨i8 P F aj,none,none,dB P 937 F q1 (cO P K G),none⟩
noncomputable def nC (P:aF)(F aj T:Nat):SF:=wt (fP (im P)) (.ref aj) (inner (im P)) (orelse (im P)) (eQ P 937 F []) (.ref T)
noncomputable def Jb (aj I l E i n:Nat)(old:ay)(Y:LV)(N J U:Nat):aC:=⟨[(aj,nB I n old),(I,bM l i),(l,aq Y E)],[],N,J,[],U⟩
theorem Sw {c:bL}(h9:Y[i]? =some v):aE w ⟨c,none,own,below,past⟩ p (dP (.ref aj)) (Jb aj I l E i n old Y N J U) (.ok (dv (.ref N))) p ⟨[(aj,Sq N I (n+1) v),(I,bM l (i+1)),(l,aq Y E),(N,aG [.int (O n) J,v])],[],(N+1),(J+1),[],U⟩:=
 w1 0x2d6b5ad6b59ce739ce8c349 [c9 w [1,1] I l E h9] [3,1,1,0]
theorem Sx {c:bL}(h9:Y[i]? =none):aE w ⟨c,none,own,below,past⟩ p (dP (.ref aj)) (Jb aj I l E i n old Y N J U) (.ok kL) p ⟨[(aj,nB I n old),(I,eY i),(l,aq Y E)],[],(N+2),J,[],U⟩:=
 w1 2671433 [gz w [1,1] I l E h9] [4,2,2]
section
variable {F M:Nat}(hx:∀y∈(c::x:d),y<128)(h5:ua w F (N+5) (N+4) (N+3) aj K tx (N+6) (J+3) U c7 aU aI (c::x) ow CN pi pi q1 G)
include hx h5
theorem Sy (h6:ow.isEmpty=true){Jc:Nat}{Jd:Nat×ay}{Je:LV}(cn:jR w F M (aU+1) aj K H z J (J+1) aI l 0 tn tx tx eM (aU+2) (aI+2) U Jc kl iX (c::x) true none (some Jd) ms Je vW eG eG q1 G):aE w (jS w.P F aj K q1 G) p (nC w.P F aj T) ⟨[(T,aG [.int (O 0) tn,Z (c::x) tx]),(F,t8 w.P H z l M),(M,aq ms eM)],[],N,J,[],U⟩ (.ok (.again (i8 w.P F aj))) ⟨873,15,873,20⟩ ⟨[(T,aG [.int (O 0) tn,Z (c::x) tx]),(F,f5 w.P H z J (J+1) aI l M 0 tn (c::x) tx true (some Jd)),(M,aq Je Jc)],[vW],kl,iX,[],U⟩:=
 by revert w;exact @(lx 0x1553f4fd4fd3f4fd38e9d54e38e72bd7bdef7aa352546a4a8d49495 0x554fd3f53f4fd3f4e3a7552bd7bdef7aa352546a4a8d49495 (λw h5 cn=>[g9 w (a:=c::x) (b:=[]) tx (J+2) (r:=true) rfl,il w tx hx,ub w [0,0,0] h5,kq w [2,0] (N+4) aU c7 0 h6,cb w (a:=0) (b:=0) tn (aI+1) (r:=false) rfl,il w tx hx,Aj w [9,9,0] cn]) [10,0,0] [0])
theorem Sz (h6:ow.isEmpty=false)(h7:ms.length<=100000)(b0:jR w F M (aU+2) aj K H z J (J+1) aI l 0 tn tx tx (eM+1) (aU+3) (aI+4) U qH mz aV (c::x) false none (some tU) (ms++[aQ (aU+1)]) qW tK eG eG q1 G)(cz:qW.length<=100000):aE w (jS w.P F aj K q1 G) p (nC w.P F aj T) ⟨[(T,aG [.int (O 0) tn,Z (c::x) tx]),(F,t8 w.P H z l M),(M,aq ms eM)],[],N,J,[],U⟩ (.ok (.again (i8 w.P F aj))) si ⟨[(T,aG [.int (O 0) tn,Z (c::x) tx]),(F,f5 w.P H z J (J+1) aI l M 0 tn (c::x) tx false (some tU)),(M,aq (qW++[aQ mz]) (qH+1)),(mz,aG [Z [39] aV,Z [] (aV+1),.int 0 tn]),((aU+1),aG [Z [39] (aI+2),Z [] (aI+3),.int 0 tn])],[tK],(mz+1),(aV+2),[],U⟩:=
 by revert w;exact @(lx 0x272318c6aaafeafe4fd5f57d5f57d3f4fd4fd3f4fd38e9d54e38e72bd7bdef7aa352546a4a8d49495 0x9c8c631aaabfabf93f57d5f57d5f4fd3f53f4fd3f4e3a7552bd7bdef7aa352546a4a8d49495 (λw h5 b0=>[g9 w (a:=c::x) (b:=[]) tx (J+2) (r:=true) rfl,il w tx hx,ub w [0,0,0] h5,kq w [2,0] (N+4) aU c7 0 h6,cb w (a:=0) (b:=0) tn (aI+1) (r:=false) rfl,bR w [10] M eM (.ref (aU+1)) h7,il w tx hx,Aj w [11,1,0] b0,bR w [2] M qH (.ref mz) cz]) [12,2,0,0,1] [0])
end
theorem SA {F M:Nat}(h0:ms.length<=100000){De:Nat}(h6:jR w F M (N+4) aj K H z J (J+1) (J+3) l 0 tn tx tx (eM+1) (N+5) (J+7) U De aZ dK [] false none none (ms++[aQ (N+3)]) tO S5 eG eG q1 G)(h7:tO.length<=100000):aE w (jS w.P F aj K q1 G) p (nC w.P F aj T) ⟨[(T,aG [.int (O 0) tn,Z [] tx]),(F,t8 w.P H z l M),(M,aq ms eM)],[],N,J,[],U⟩ (.ok (.again (i8 w.P F aj))) si ⟨[(T,aG [.int (O 0) tn,Z [] tx]),(F,f5 w.P H z J (J+1) (J+3) l M 0 tn [] tx false none),(M,aq (tO++[aQ aZ]) (De+1)),(aZ,aG [Z [39] dK,Z [] (dK+1),.int 0 tn]),((N+3),aG [Z [39] (J+5),Z [] (J+6),.int 0 tn])],[S5],(aZ+1),(dK+2),[],U⟩:=
 by revert w;exact @(eH 0x272318c6aaddb9f39ce6f7af7bd7bdef7aa352546a4a8d49495 (λw h6=>[g9 w (a:=[]) (b:=[]) tx (J+2) (r:=false) rfl,cb w (a:=0) (b:=0) tn (J+4) (r:=false) rfl,bR w [6] M eM (.ref (N+3)) h0,il w (x:=[]) tx (by decide),Ja w [7,1,0] h6,bR w [2] M De (.ref aZ) h7]) [8,2,0,0,1] [0])
section
variable {F M:Nat}(hx:∀y∈(c::x:d),y<128)(hg:decide (O (n+1)>O 0)=true)(h5:ua w F (N+5) (N+4) (N+3) aj K tx (N+6) (J+3) U c7 aU aI (c::x) ow CN pi pi q1 G)
include hx hg h5
theorem SB (h6:ow.isEmpty=true)(h7:ms.length<=100000)(b0:jR w F M (aU+2) aj K H z k3 k4 k5 l (n+1) tn tx tx (eM+1) (aU+3) (aI+6) U qH mz aV (c::x) true none (some tU) (ms++[aQ (aU+1)]) qW tK eG eG q1 G):aE w (jS w.P F aj K q1 G) p (nC w.P F aj T) ⟨[(T,aG [.int (O (n+1)) tn,Z (c::x) tx]),(F,f5 w.P H z k3 k4 k5 l M n0 ly x0 lz lF none),(M,aq ms eM)],[],N,J,[],U⟩ (.ok (.again (i8 w.P F aj))) ⟨873,15,873,20⟩ ⟨[(T,aG [.int (O (n+1)) tn,Z (c::x) tx]),(F,f5 w.P H z k3 k4 k5 l M (n+1) tn (c::x) tx true (some tU)),(M,aq qW qH),((aU+1),aG [Z [32] (aI+2),Z [] (aI+3),.int (cJ 0) (aI+5)])],[tK],mz,aV,[],U⟩:=
 by revert w;exact @(lx 0x2aafebfabf857d5f57d5f4fd4fd3f4fd38e9d54e38e72bd7bdef7aa352546a4a8d49495 0xaabfafeafe15f57d5f57d3f53f4fd3f4e3a7552bd7bdef7aa352546a4a8d49495 (λw h5 b0=>[g9 w (a:=c::x) (b:=[]) tx (J+2) (r:=true) rfl,il w tx hx,ub w [0,0,0] h5,kq w [2,0] (N+4) aU c7 0 h6,cb w tn (aI+1) hg,bR w [10] M eM (.ref (aU+1)) h7,il w tx hx,Aj w [11,1,0] b0]) [11,0,0,1] [0])
theorem SC (h6:ow.isEmpty=false)(h7:ms.length<=100000)(h8:(ms++[aQ (aU+1)]).length<=100000)(cz:jR w F M (aU+3) aj K H z k3 k4 k5 l (n+1) tn tx tx (eM+1+1) (aU+4) (aI+8) U sR fy iB (c::x) false none (some z7) (ms++[aQ (aU+1)]++[aQ (aU+2)]) tP zM eG eG q1 G)(cP:tP.length<=100000):aE w (jS w.P F aj K q1 G) p (nC w.P F aj T) ⟨[(T,aG [.int (O (n+1)) tn,Z (c::x) tx]),(F,f5 w.P H z k3 k4 k5 l M n0 ly x0 lz lF none),(M,aq ms eM)],[],N,J,[],U⟩ (.ok (.again (i8 w.P F aj))) si ⟨[(T,aG [.int (O (n+1)) tn,Z (c::x) tx]),(F,f5 w.P H z k3 k4 k5 l M (n+1) tn (c::x) tx false (some z7)),(M,aq (tP++[aQ fy]) (sR+1)),(fy,aG [Z [39] iB,Z [] (iB+1),.int (O (n+1)) tn]),((aU+2),aG [Z [39] (aI+6),Z [] (aI+7),.int (O (n+1)) tn]),((aU+1),aG [Z [32] (aI+2),Z [] (aI+3),.int (cJ 0) (aI+5)])],[zM],(fy+1),(iB+2),[],U⟩:=
 by revert w;exact @(lx 0x272318c6aab3e8cbfaaafebfabf857d5f57d5f4fd4fd3f4fd38e9d54e38e72bd7bdef7aa352546a4a8d49495 0x9c8c631aaacfa32feaabfafeafe15f57d5f57d3f53f4fd3f4e3a7552bd7bdef7aa352546a4a8d49495 (λw h5 cz=>[g9 w (a:=c::x) (b:=[]) tx (J+2) (r:=true) rfl,il w tx hx,ub w [0,0,0] h5,kq w [2,0] (N+4) aU c7 0 h6,cb w tn (aI+1) hg,bR w [10] M eM (.ref (aU+1)) h7,bR w [1] M (eM+1) (.ref (aU+2)) h8,il w tx hx,Aj w [12,1,0] cz,bR w [2] M sR (.ref fy) cP]) [13,2,0,0,1,1] [0])
end
theorem SD {F M:Nat}(hg:decide (O (n+1)>O 0)=true)(h0:ms.length<=100000)(h1:(ms++[aQ (N+3)]).length<=100000)(h7:jR w F M (N+5) aj K H z k3 k4 k5 l (n+1) tn tx tx (eM+1+1) (N+6) (J+11) U sS gX fz [] false none none (ms++[aQ (N+3)]++[aQ (N+4)]) tQ S6 eG eG q1 G)(h8:tQ.length<=100000):aE w (jS w.P F aj K q1 G) p (nC w.P F aj T) ⟨[(T,aG [.int (O (n+1)) tn,Z [] tx]),(F,f5 w.P H z k3 k4 k5 l M n0 ly x0 lz lF none),(M,aq ms eM)],[],N,J,[],U⟩ (.ok (.again (i8 w.P F aj))) si ⟨[(T,aG [.int (O (n+1)) tn,Z [] tx]),(F,f5 w.P H z k3 k4 k5 l M (n+1) tn [] tx false none),(M,aq (tQ++[aQ gX]) (sS+1)),(gX,aG [Z [39] fz,Z [] (fz+1),.int (O (n+1)) tn]),((N+4),aG [Z [39] (J+9),Z [] (J+10),.int (O (n+1)) tn]),((N+3),aG [Z [32] (J+5),Z [] (J+6),.int (cJ 0) (J+8)])],[S6],(gX+1),(fz+2),[],U⟩:=
 by revert w;exact @(eH 0x13918c6355768d755bddb89ce737af7bd7bdef7aa352546a4a8d49495 (λw h7=>[g9 w (a:=[]) (b:=[]) tx (J+2) (r:=false) rfl,cb w tn (J+4) hg,bR w [6] M eM (.ref (N+3)) h0,bR w [1] M (eM+1) (.ref (N+4)) h1,il w (x:=[]) tx (by decide),Ja w [8,1,0] h7,bR w [2] M sS (.ref gX) h8]) [9,2,0,0,1,1] [0])
section
variable {F M:Nat}(hx:∀y∈(c::x:d),y<128)(hg:decide (O (n+1)>O 0)=true)(h5:ua w F (N+5) (N+4) (N+3) aj K tx (N+6) (J+3) U c7 aU aI (c::x) ow CN pi pi q1 G)
include hx hg h5
theorem SE (h6:ow.isEmpty=true)(h7:ms.length<=100000)(b0:jR w F M (aU+2) aj K H z k3 k4 k5 l (n+1) tn tx tx (eM+1) (aU+3) (aI+6) U qH mz aV (c::x) true (some (k6,v6)) (some tU) (ms++[aQ (aU+1)]) qW tK eG eG q1 G):aE w (jS w.P F aj K q1 G) p (nC w.P F aj T) ⟨[(T,aG [.int (O (n+1)) tn,Z (c::x) tx]),(F,f5 w.P H z k3 k4 k5 l M n0 ly x0 lz lF (some (k6,v6))),(M,aq ms eM)],[],N,J,[],U⟩ (.ok (.again (i8 w.P F aj))) ⟨873,15,873,20⟩ ⟨[(T,aG [.int (O (n+1)) tn,Z (c::x) tx]),(F,f5 w.P H z k3 k4 k5 l M (n+1) tn (c::x) tx true (some tU)),(M,aq qW qH),((aU+1),aG [Z [32] (aI+2),Z [] (aI+3),.int (cJ 0) (aI+5)])],[tK],mz,aV,[],U⟩:=
 by revert w;exact @(lx 0x2aafebfabf857d5f57d5f4fd4fd3f4fd38e9d54e38e72bd7bdef7aa352546a4a8d49495 0xaabfafeafe15f57d5f57d3f53f4fd3f4e3a7552bd7bdef7aa352546a4a8d49495 (λw h5 b0=>[g9 w (a:=c::x) (b:=[]) tx (J+2) (r:=true) rfl,il w tx hx,ub w [0,0,0] h5,kq w [2,0] (N+4) aU c7 0 h6,cb w tn (aI+1) hg,bR w [10] M eM (.ref (aU+1)) h7,il w tx hx,I9 w [11,1,0] b0]) [11,0,0,1] [0])
theorem SG (h6:ow.isEmpty=false)(h7:ms.length<=100000)(h8:(ms++[aQ (aU+1)]).length<=100000)(cz:jR w F M (aU+3) aj K H z k3 k4 k5 l (n+1) tn tx tx (eM+1+1) (aU+4) (aI+8) U sR fy iB (c::x) false (some (k6,v6)) (some z7) (ms++[aQ (aU+1)]++[aQ (aU+2)]) tP zM eG eG q1 G)(cP:tP.length<=100000):aE w (jS w.P F aj K q1 G) p (nC w.P F aj T) ⟨[(T,aG [.int (O (n+1)) tn,Z (c::x) tx]),(F,f5 w.P H z k3 k4 k5 l M n0 ly x0 lz lF (some (k6,v6))),(M,aq ms eM)],[],N,J,[],U⟩ (.ok (.again (i8 w.P F aj))) si ⟨[(T,aG [.int (O (n+1)) tn,Z (c::x) tx]),(F,f5 w.P H z k3 k4 k5 l M (n+1) tn (c::x) tx false (some z7)),(M,aq (tP++[aQ fy]) (sR+1)),(fy,aG [Z [39] iB,Z [] (iB+1),.int (O (n+1)) tn]),((aU+2),aG [Z [39] (aI+6),Z [] (aI+7),.int (O (n+1)) tn]),((aU+1),aG [Z [32] (aI+2),Z [] (aI+3),.int (cJ 0) (aI+5)])],[zM],(fy+1),(iB+2),[],U⟩:=
 by revert w;exact @(lx 0x272318c6aab3e8cbfaaafebfabf857d5f57d5f4fd4fd3f4fd38e9d54e38e72bd7bdef7aa352546a4a8d49495 0x9c8c631aaacfa32feaabfafeafe15f57d5f57d3f53f4fd3f4e3a7552bd7bdef7aa352546a4a8d49495 (λw h5 cz=>[g9 w (a:=c::x) (b:=[]) tx (J+2) (r:=true) rfl,il w tx hx,ub w [0,0,0] h5,kq w [2,0] (N+4) aU c7 0 h6,cb w tn (aI+1) hg,bR w [10] M eM (.ref (aU+1)) h7,bR w [1] M (eM+1) (.ref (aU+2)) h8,il w tx hx,I9 w [12,1,0] cz,bR w [2] M sR (.ref fy) cP]) [13,2,0,0,1,1] [0])
end
theorem SH {F M:Nat}(hg:decide (O (n+1)>O 0)=true)(h0:ms.length<=100000)(h1:(ms++[aQ (N+3)]).length<=100000)(h7:jR w F M (N+5) aj K H z k3 k4 k5 l (n+1) tn tx tx (eM+1+1) (N+6) (J+11) U sS gX fz [] false (some (k6,v6)) (some (k6,v6)) (ms++[aQ (N+3)]++[aQ (N+4)]) tQ S6 eG eG q1 G)(h8:tQ.length<=100000):aE w (jS w.P F aj K q1 G) p (nC w.P F aj T) ⟨[(T,aG [.int (O (n+1)) tn,Z [] tx]),(F,f5 w.P H z k3 k4 k5 l M n0 ly x0 lz lF (some (k6,v6))),(M,aq ms eM)],[],N,J,[],U⟩ (.ok (.again (i8 w.P F aj))) si ⟨[(T,aG [.int (O (n+1)) tn,Z [] tx]),(F,f5 w.P H z k3 k4 k5 l M (n+1) tn [] tx false (some (k6,v6))),(M,aq (tQ++[aQ gX]) (sS+1)),(gX,aG [Z [39] fz,Z [] (fz+1),.int (O (n+1)) tn]),((N+4),aG [Z [39] (J+9),Z [] (J+10),.int (O (n+1)) tn]),((N+3),aG [Z [32] (J+5),Z [] (J+6),.int (cJ 0) (J+8)])],[S6],(gX+1),(fz+2),[],U⟩:=
 by revert w;exact @(eH 0x13918c6355768d755bddb89ce737af7bd7bdef7aa352546a4a8d49495 (λw h7=>[g9 w (a:=[]) (b:=[]) tx (J+2) (r:=false) rfl,cb w tn (J+4) hg,bR w [6] M eM (.ref (N+3)) h0,bR w [1] M (eM+1) (.ref (N+4)) h1,il w (x:=[]) tx (by decide),Sv w [8,1,0] h7,bR w [2] M sS (.ref gX) h8]) [9,2,0,0,1,1] [0])
noncomputable def ge (x:d):Bool:= !x.isEmpty&&x.all cF
noncomputable def fo (n:Nat)(x:d):List (d×d×Int):=
 (if n=0 then []else [([32],[],cJ 0)])++((if ge x then []else [([39],[],O n)])++(x.map (λc=>(dC c,[c],O n))++(if ge x then []else [([39],[],O n)])))
inductive pU (P:aF) (l M:Nat):Nat->az->Prop
 |first (H z:Nat):pU P l M 0 (t8 P H z l M)
 |later (n H z k3 k4 k5 n0 ly:Nat) (x0:d) (lz:Nat) (lF:Bool) (s:Option (Nat×ay)):pU P l M (n+1) (f5 P H z k3 k4 k5 l M n0 ly x0 lz lF s)
variable {w:WB}
theorem SI {F:Nat}(hx:x.length<=1000)(h0:x≠[]):∃e' N' au os kv,os.isEmpty=x.all cF/\ua w F D av I aj K t N J U e' N' au x os kv p q q1 G:=by
 refine ix (So (w:=w) (F:=F) (D:=D) (av:=av) (I:=I) (aj:=aj) (K:=K) (t:=t) (U:=U) (x:=x) (q:=q) (q1:=q1) (G:=G) hx x.length 0 (aB:=[]) (o:=none) (e:=0) (N:=N) (J:=J) (p:=p) ji (by simp)) λo' os e' N' au g1 g2 g3 g4=> ?_
 obtain⟨kv,rfl⟩:=g2 (by cases x with|nil=>exact absurd rfl h0|cons=>simp)
 refine ll e' N' au os kv ?_ (by unfold ua;rw [aT];exact g4)
 rw [iS]at g1
 cases os with
 |nil=>exact(g1.mp rfl).symm
 |cons v os=>
  cases q:x.all cF with
  |true=>exact absurd (g1.mpr q) (by simp)
  |false=>rfl
theorem uc {F M:Nat}{s:Option (Nat×ay)}(hx:x.length<=100)(hm:ms.length<=10000):∃fm N' au s' o,o.map MK.key=x.map (λc=>(dC c,[c],O n))/\(x=[]->s'=s)/\(x≠[]->∃kv,s'=some kv)/\jR w F M I aj K H z k3 k4 k5 l n tn t tx eM N J U fm N' au x pl s s' ms (ms++cL o) (o.map MK.ent) p q q1 G:=by
 refine ix (Sp (w:=w) (F:=F) (M:=M) (I:=I) (aj:=aj) (K:=K) (H:=H) (z:=z) (k3:=k3) (k4:=k4) (k5:=k5) (l:=l) (tn:=tn) (t:=t) (tx:=tx) (U:=U) (x:=x) (pl:=pl) (q:=q) (q1:=q1) (G:=G) hx x.length 0 (ms:=ms) (S:=[]) (s:=s) (eM:=eM) (N:=N) (J:=J) (p:=p) ji c5) λo s' fm N' au g1 g2 g3 g4=>
  ke fm N' au s' o g1 (λh=>g2 (by rw [h];rfl)) (λh=>g3 (by cases x with|nil=>exact absurd rfl h|cons=>simp)) ?_
 unfold jR
 rw [aT]
 exact aK.same g4 (by simp [aC.all]) rfl ⟨rfl,rfl,rfl⟩ (.refl _) rfl ⟨rfl,rfl,rfl⟩
theorem oD {t:SF}{r:Res PySem.Fin}{a b:Addr×az}{M:Nat}{X S:aJ}(h:ax V Γ p t C r p' ⟨a::b::(M,aq Y e)::X,[S],N,J,[],U⟩)(o:List MK)(hv:Y=ms++cL o)(hp:(X++S).Perm (o.map MK.ent)):ax V Γ p t C r p' ⟨[a,b,(M,aq (ms++cL o) e)],[o.map MK.ent],N,J,[],U⟩:=by
 subst hv
 refine aK.less h (A:=[]) (B:=[]) ?_ (.refl _) bH
 show(a::b::(M,aq (ms++cL o) e)::X++[S].flatten).Perm _
 simp only [aC.all,ck,ce,bk,eB,cZ]
 exact((hp.cons _).cons _).cons _
theorem Ak {a b:α}{S:List α}:(a::b::S).Perm (b::(S++[a])):=(cg.swap ..).trans ((cY (l₁:=[a])).cons _)
theorem Al {a b c:α}{S:List α}:(a::b::c::S).Perm (c::b::(S++[a])):=by
 refine cg.trans ?_ ((cg.swap ..).trans ((Ak).cons b|>.trans (.swap ..)))
 exact .refl _
theorem SJ {F M:Nat}{fr:az}(hx:∀y∈x,y<128)(hl:x.length<=100)(hm:ms.length<=9000)(hf:pU w.P l M n fr):∃(db:az) (o:List MK) (e' N' au:Nat) (p':aw),pU w.P l M (n+1) db/\o.map MK.key=fo n x/\ aE w (jS w.P F aj K q1 G) p (nC w.P F aj T) ⟨[(T,aG [.int (O n) tn,Z x tx]),(F,fr),(M,aq ms eM)],[],N,J,[],U⟩ (.ok (.again (i8 w.P F aj))) p' ⟨[(T,aG [.int (O n) tn,Z x tx]),(F,db),(M,aq (ms++cL o) e')],[o.map MK.ent],N',au,[],U⟩:=by
 have len:∀{o:List MK} {x:d} {f:Nat->d×d×Int},o.map MK.key=x.map f->o.length=x.length:=λh=>by have:=congrArg dn h;simpa using this
 cases x with
 |nil=>
  cases hf with
  |first H z=>
   refine ix (uc (w:=w) (F:=F) (M:=M) (I:=N+4) (aj:=aj) (K:=K) (H:=H) (z:=z) (k3:=J) (k4:=J+1) (k5:=J+3) (l:=l) (n:=0) (tn:=tn) (t:=tx) (tx:=tx) (eM:=eM+1) (N:=N+5) (J:=J+7) (U:=U) (x:=[]) (pl:=false) (s:=none) (ms:=ms++[.ref (N+3)]) (p:=eG) (q:=eG) (q1:=q1) (G:=G) (by simp) (by simp;lia)) λfm N' au s' o g1 g2 _ g4=> ?_
   cases g2 rfl
   have h:=SA (T:=T) (p:=p) c5 g4 (by have h0:o.length=0:=len g1;simp [cL];lia)
   refine dV _ _ _ _ _ _ ?_ ?_ (oD h (⟨N+3,[39],J+5,[],J+6,O 0,tn⟩::(o++[⟨N',[39],au,[],au+1,O 0,tn⟩])) (by simp [cL]) (by rw [bY,cx];exact Ak))
   ·exact .later _ _ _ _ _ _ _ _ _ _ _ _
   ·simp [fo,ge,MK.key,g1]
  |later n H z k3 k4 k5 n0 ly x0 lz lF s=>
   refine ix (uc (w:=w) (F:=F) (M:=M) (I:=N+5) (aj:=aj) (K:=K) (H:=H) (z:=z) (k3:=k3) (k4:=k4) (k5:=k5) (l:=l) (n:=n+1) (tn:=tn) (t:=tx) (tx:=tx) (eM:=eM+1+1) (N:=N+6) (J:=J+11) (U:=U) (x:=[]) (pl:=false) (s:=s) (ms:=ms++[.ref (N+3)]++[.ref (N+4)]) (p:=eG) (q:=eG) (q1:=q1) (G:=G) (by simp) (by simp;lia)) λfm N' au s' o g1 g2 _ g4=> ?_
   cases g2 rfl
   have hg:decide (O (n+1)>O 0)=true:=decide_eq_true (by show(0:Int)<((n+1:Nat):Int);lia)
   have b6:(ms++[aQ (N+3)]++[aQ (N+4)]++cL o).length<=100000:=by have h0:o.length=0:=len g1;simp [cL];lia
   have key:(⟨N+3,[32],J+5,[],J+6,cJ 0,J+8⟩::⟨N+4,[39],J+9,[],J+10,O (n+1),tn⟩::(o++[⟨N',[39],au,[],au+1,O (n+1),tn⟩]):List MK).map MK.key=fo (n+1) []:=by simp [fo,ge,MK.key,g1]
   cases s with
   |none=>exact dV _ _ _ _ _ _ (.later _ _ _ _ _ _ _ _ _ _ _ _) key (oD (SD hg c5 (by simp;lia) g4 b6) _ (by simp [cL]) (by rw [bY,bY,cx];exact Al))
   |some kv=>exact dV _ _ _ _ _ _ (.later _ _ _ _ _ _ _ _ _ _ _ _) key (oD (SH hg c5 (by simp;lia) g4 b6) _ (by simp [cL]) (by rw [bY,bY,cx];exact Al))
 |cons c x=>
  refine iT (SI (w:=w) (F:=F) (D:=N+5) (av:=N+4) (I:=N+3) (aj:=aj) (K:=K) (t:=tx) (U:=U) (N:=N+6) (J:=J+3) (x:=c::x) (p:=pi) (q:=pi) (q1:=q1) (G:=G) c5 (by simp)) λe0 N0 ju os pJ dp ud=> ?_
  cases ha:(c::x).all cF with
  |true=>
   rw [ha]at dp
   have ku:ge (c::x)=true:=by delta ge;rw [ha];rfl
   cases hf with
   |first H z=>
    refine ix (uc (w:=w) (F:=F) (M:=M) (I:=N0+1) (aj:=aj) (K:=K) (H:=H) (z:=z) (k3:=J) (k4:=J+1) (k5:=ju) (l:=l) (n:=0) (tn:=tn) (t:=tx) (tx:=tx) (eM:=eM) (N:=N0+2) (J:=ju+2) (U:=U) (pl:=true) (s:=none) (ms:=ms) (p:=eG) (q:=eG) (q1:=q1) (G:=G) hl c5) λfm N' au s' o g1 _ g3 g4=> ?_
    obtain⟨kv,rfl⟩:=g3 (by simp)
    have h:=Sy (T:=T) (p:=p) hx ud dp g4
    exact dV _ _ _ _ _ _ (.later _ _ _ _ _ _ _ _ _ _ _ _) (by simp [fo,ku,g1]) (oD h o rfl (.refl _))
   |later n H z k3 k4 k5 n0 ly x0 lz lF s=>
    refine ix (uc (w:=w) (F:=F) (M:=M) (I:=N0+2) (aj:=aj) (K:=K) (H:=H) (z:=z) (k3:=k3) (k4:=k4) (k5:=k5) (l:=l) (n:=n+1) (tn:=tn) (t:=tx) (tx:=tx) (eM:=eM+1) (N:=N0+3) (J:=ju+6) (U:=U) (x:=c::x) (pl:=true) (s:=s) (ms:=ms++[.ref (N0+1)]) (p:=eG) (q:=eG) (q1:=q1) (G:=G) hl (by simp;lia)) λfm N' au s' o g1 _ g3 g4=> ?_
    obtain⟨kv,rfl⟩:=g3 (by simp)
    have hg:decide (O (n+1)>O 0)=true:=decide_eq_true (by show(0:Int)<((n+1:Nat):Int);lia)
    have key:(⟨N0+1,[32],ju+2,[],ju+3,cJ 0,ju+5⟩::o:List MK).map MK.key=fo (n+1) (c::x):=by simp [fo,ku,MK.key,g1]
    cases s with
    |none=>exact dV _ _ _ _ _ _ (.later _ _ _ _ _ _ _ _ _ _ _ _) key (oD (SB hx hg ud dp c5 g4) _ (by simp [cL]) (.refl _))
    |some pJ=>exact dV _ _ _ _ _ _ (.later _ _ _ _ _ _ _ _ _ _ _ _) key (oD (SE hx hg ud dp c5 g4) _ (by simp [cL]) (.refl _))
  |false=>
   rw [ha]at dp
   have ku:ge (c::x)=false:=by delta ge;rw [ha];simp
   cases hf with
   |first H z=>
    refine ix (uc (w:=w) (F:=F) (M:=M) (I:=N0+2) (aj:=aj) (K:=K) (H:=H) (z:=z) (k3:=J) (k4:=J+1) (k5:=ju) (l:=l) (n:=0) (tn:=tn) (t:=tx) (tx:=tx) (eM:=eM+1) (N:=N0+3) (J:=ju+4) (U:=U) (x:=c::x) (pl:=false) (s:=none) (ms:=ms++[.ref (N0+1)]) (p:=eG) (q:=eG) (q1:=q1) (G:=G) hl (by simp;lia)) λfm N' au s' o g1 _ g3 g4=> ?_
    obtain⟨kv,rfl⟩:=g3 (by simp)
    have h:=Sz (T:=T) (p:=p) hx ud dp c5 g4 (by have:=len g1;simp [cL]at this hl⊢;lia)
    exact dV _ _ _ _ _ _ (.later _ _ _ _ _ _ _ _ _ _ _ _) (by simp [fo,ku,MK.key,g1]) (oD h (⟨N0+1,[39],ju+2,[],ju+3,O 0,tn⟩::(o++[⟨N',[39],au,[],au+1,O 0,tn⟩])) (by simp [cL]) (by rw [bY,cx];exact Ak))
   |later n H z k3 k4 k5 n0 ly x0 lz lF s=>
    refine ix (uc (w:=w) (F:=F) (M:=M) (I:=N0+3) (aj:=aj) (K:=K) (H:=H) (z:=z) (k3:=k3) (k4:=k4) (k5:=k5) (l:=l) (n:=n+1) (tn:=tn) (t:=tx) (tx:=tx) (eM:=eM+1+1) (N:=N0+4) (J:=ju+8) (U:=U) (x:=c::x) (pl:=false) (s:=s) (ms:=ms++[.ref (N0+1)]++[.ref (N0+2)]) (p:=eG) (q:=eG) (q1:=q1) (G:=G) hl (by simp;lia)) λfm N' au s' o g1 _ g3 g4=> ?_
    obtain⟨kv,rfl⟩:=g3 (by simp)
    have hg:decide (O (n+1)>O 0)=true:=decide_eq_true (by show(0:Int)<((n+1:Nat):Int);lia)
    have b6:(ms++[aQ (N0+1)]++[aQ (N0+2)]++cL o).length<=100000:=by have:=len g1;simp [cL]at this hl⊢;lia
    have key:(⟨N0+1,[32],ju+2,[],ju+3,cJ 0,ju+5⟩::⟨N0+2,[39],ju+6,[],ju+7,O (n+1),tn⟩::(o++[⟨N',[39],au,[],au+1,O (n+1),tn⟩]):List MK).map MK.key=fo (n+1) (c::x):=by simp [fo,ku,MK.key,g1]
    cases s with
    |none=>exact dV _ _ _ _ _ _ (.later _ _ _ _ _ _ _ _ _ _ _ _) key (oD (SC hx hg ud dp c5 (by simp;lia) g4 b6) _ (by simp [cL]) (by rw [bY,bY,cx];exact Al))
    |some pJ=>exact dV _ _ _ _ _ _ (.later _ _ _ _ _ _ _ _ _ _ _ _) key (oD (SG hx hg ud dp c5 (by simp;lia) g4 b6) _ (by simp [cL]) (by rw [bY,bY,cx];exact Al))
noncomputable def rc:Expr->List Expr
 | .Tuple es _ _=>es
 |_=>[]
noncomputable def rd:Expr->Nat
 | .Tuple _ c _=>c
 |_=>0
noncomputable def jv:Expr->aw
 | .Tuple _ _ p=>p
 |_=>default
noncomputable def eU:Nat->List d->List (d×d×Int)
 |_,[]=>[]
 |i,x::r=>fo i x++eU (i+1) r
noncomputable def Jf (P:aF):Expr:= .Tuple (rc (fP (im P))) (rd (fP (im P))) (jv (fP (im P)))
theorem SK (P:aF):fP (im P)=Jf P:=by kernel_rfl
theorem Df (P:aF)(F aj:Nat):i8 P F aj= .forLoop (Jf P) (.ref aj) (inner (im P)) (orelse (im P)) (eQ P 937 F []):=by kernel_rfl
theorem SL {a b c ah e f:α}{S:List α}:(a::b::c::ah::e::f::S).Perm (ah::e::f::(a::b::c::S)):=(cY (l₁:=[a,b,c]) (l₂:=[ah,e,f])).append_right S
theorem SM {e i l f m:α}{S ao:List α}:(e::i::l::f::m::(S++ao)).Perm (f::m::(ao++(e::i::l::S))):=by
 have h1:(e::i::l::f::m::(S++ao)).Perm (f::m::(e::i::l::(S++ao))):=(cY (l₁:=[e,i,l]) (l₂:=[f,m])).append_right (S++ao)
 exact h1.trans (((cY (l₁:=e::i::l::S)).cons _).cons _)
variable {w:WB}
theorem SN {F M:Nat}(hn:aL.length<=20)(hx:∀x∈aL,(∀y∈x.1,y<128)/\x.1.length<=100):∀(m i:Nat) {ms:LV} {S:aJ} {fr:az} {old:ay} {eM N J:Nat} {p:aw},i+m=aL.length->ms.length<=110*i->pU w.P l M i fr-> ∃(db:az) (uf:ay) (o:List MK) (e' N' au:Nat),pU w.P l M aL.length db/\o.map MK.key=eU i ((aL.drop i).map aD)/\ aP w (jS w.P F aj K q1 G) p (aA (i8 w.P F aj)) ⟨[(aj,nB I i old),(I,bM l i),(l,aq (aR aL) E),(F,fr),(M,aq ms eM)],[S],N,J,[],U⟩ (.ok .next) ⟨[(aj,nB I aL.length uf),(I,eY aL.length),(l,aq (aR aL) E),(F,db),(M,aq (ms++cL o) e')],[S++o.map MK.ent],N',au,[],U⟩:=by
 intro m
 induction m with
 |zero=>
  intro i ms S fr old eM N J p hi _ hf
  have hi:i=aL.length:=by lia
  subst hi
  refine dV fr old [] eM (N+2) J hf (by simp [eU]) ?_
  rw [show cL []=[]from rfl,n7,bk,bk,Df]
  have h1:=aK.more [(F,fr),(M,aq ms eM)] [S] (Sx (w:=w) (aj:=aj) (I:=I) (l:=l) (E:=E) (i:=aL.length) (n:=aL.length) (N:=N) (J:=J) (U:=U) (old:=old) (Y:=aR aL) (c:=i8 w.P F aj) (own:=none) (past:=none) (below:=(jS w.P F aj K q1 G).below) (p:=jv (fP (im w.P))) (CU (by simp)))
  refine ax.again (by kernel_rfl) (I8 (by kernel_rfl) h1) ?_
  rw [aT]
  exact aK.more [(aj,nB I aL.length old),(I,eY aL.length),(l,aq (aR aL) E),(F,fr),(M,aq ms eM)] [S] (L:=[]) (L':=[]) (T:=[]) (T':=[]) (gI.of (aT w) (m:=10) (C:=⟨[],[],N+2,J,[],U⟩) (C':=⟨[],[],N+2,J,[],U⟩) 0 [] [] [] [] (by kernel_rfl))
 |succ m aS=>
  intro i ms S fr old eM N J p hi hm hf
  have bw:i<aL.length:=by lia
  have h0:aL[i]? =some aL[i]:=cm bw
  have lI:=hx aL[i] (gt bw)
  have h1:=aK.more [(F,fr),(M,aq ms eM)] [S] (Sw (w:=w) (aj:=aj) (I:=I) (l:=l) (E:=E) (n:=i) (N:=N) (J:=J) (U:=U) (old:=old) (c:=i8 w.P F aj) (own:=none) (past:=none) (below:=(jS w.P F aj K q1 G).below) (p:=jv (fP (im w.P))) (wh h0))
  have h2:=aK.side [(I,bM l (i+1)),(l,aq (aR aL) E),(N,aG [.int (O i) J,Z aL[i].1 aL[i].2]),(F,fr),(M,aq ms eM)] [S] [] (Dd (w:=w) (Γ:=jS w.P F aj K q1 G) (p:=jv (fP (im w.P))) (elts:=rc (fP (im w.P))) (x1:=rd (fP (im w.P))) (tp:=jv (fP (im w.P))) (I:=aj) (T:=N) (N:=N+1) (J:=J+1) (U:=U) (fs:=[.bool false,.ref I,.int (O (i+1)) 0,.none,Z aL[i].1 aL[i].2]) (.inl rfl))
  refine nc (SJ (aj:=aj) (F:=F) (M:=M) (T:=N) (l:=l) (tn:=J) (tx:=aL[i].2) (eM:=eM) (N:=N+1) (J:=J+1) (U:=U) (K:=K) (ms:=ms) (fr:=fr) (p:=jv (fP (im w.P))) (q1:=q1) (G:=G) lI.1 lI.2 (by lia) hf) λDg o1 e1 N1 be p1 Dh Jg hw=> ?_
  have SO:=aK.less (C':=⟨[(F,Dg),(M,aq (ms++cL o1) e1)],[o1.map MK.ent],N1,be,[],U⟩) hw (A:=[(N,aG [.int (O i) J,Z aL[i].1 aL[i].2])]) (B:=[]) (cY (l₁:=[(N,aG [.int (O i) J,Z aL[i].1 aL[i].2])])) (.refl _) ⟨rfl,rfl,rfl⟩
  have h3:=aK.frame SO (D:=⟨[(aj,nB I (i+1) (Z aL[i].1 aL[i].2)),(I,bM l (i+1)),(l,aq (aR aL) E),(N,aG [.int (O i) J,Z aL[i].1 aL[i].2]),(F,fr),(M,aq ms eM)],[S],N+1,J+1,[],U⟩) (D':=⟨[(aj,nB I (i+1) (Z aL[i].1 aL[i].2)),(I,bM l (i+1)),(l,aq (aR aL) E),(F,Dg),(M,aq (ms++cL o1) e1)],[S++o1.map MK.ent],N1,be,[],U⟩)
   (A:=(aj,nB I (i+1) (Z aL[i].1 aL[i].2))::(I,bM l (i+1))::(l,aq (aR aL) E)::S) (B:=[]) (by simp only [aC.all,ck,ce,bk,eB,cZ];exact SL) (.refl _) ⟨rfl,rfl,rfl⟩ (by simp only [aC.all,ck,ce,bk,eB,cZ];exact SM) (.refl _) ⟨rfl,rfl,rfl⟩
  have wu:(cL o1).length<=103:=by
   have:=congrArg dn Jg
   rw [bA]at this
   unfold cL
   rw [bA,this]
   have hxl:=lI.2
   unfold fo
   simp only [ci,bA]
   split<;>split<;>simp<;>lia
  refine nc (aS (i+1) (ms:=ms++cL o1) (S:=S++o1.map MK.ent) (fr:=Dg) (old:=Z aL[i].1 aL[i].2) (eM:=e1) (N:=N1) (J:=be) (p:=p1) (by lia) (by rw [ci];lia) Dh) λSP SQ o2 e2 N2 eR Di SR Dj=> ?_
  refine dV SP SQ (o1++o2) e2 N2 eR Di ?_ ?_
  ·rw [fJ bw,cx,Jg,SR];rfl
  ·rw [R8,cx,<-bK,<-bK]
   refine ax.turn (aT w) rfl (by kernel_rfl) ?_ Dj
   rw [Df]
   rw [Df]at h3
   exact I7 h1 h2 (by rw [<-SK];exact h3)
def Dk (w:WB)(F aj I l M E K H z N J U e' N' au:Nat)(old uf:ay)(db:az)(aL:bB)(kQ:LV)(S:aJ)(p q1 G:aw):Prop:=
 aP w (jS w.P F aj K q1 G) p ((VV w).M.den (i8 w.P F aj)) ⟨[(aj,nB I 0 old),(I,bM l 0),(l,aq (aR aL) E),(F,t8 w.P H z l M),(M,aq [] 0)],[],N,J,[],U⟩ (.ok .next)
  ⟨[(aj,nB I aL.length uf),(I,eY aL.length),(l,aq (aR aL) E),(F,db),(M,aq kQ e')],[S],N',au,[],U⟩
noncomputable def Dl (P:aF)(H z l M:Nat)(r:List ir)(n:Nat):az:=bz (de P [119,111,114,100,115] H (.ref l)::de P [109,97,114,107,115] z (.ref M)::r) n
noncomputable def SS (w:WB)(aH:d)(F aj I l M E K H z N J U e' N' au:Nat)(old uf:ay)(aL:bB)(kQ:LV)(S:aJ)(p q1 G:aw)(k3 k4 n0:Nat)(r0:List ir) (h:Dk w F aj I l M E K H z N J U e' N' au old uf (Dl w.P k3 k4 l M r0 n0) aL kQ S p q1 G):aM w:=
 .fn _ _ aH [] [] _ _ _ h
noncomputable def wv (P:aF)(l K:Nat)(G:aw):bd:=⟨.call (.ref 937) ⟨[.ref l],[]⟩,none,none,cO P K G,none⟩
theorem SU {Jh:ay}{Ji:Nat}{Jj:Nat}{Jk:Nat}{Jl:List ir}(bT:Dk w N (N+3) (N+2) l (N+1) E K J (J+1) (N+4) (J+2) U c7 aU aI mg Jh (Dl w.P Ji Jj l (N+1) Jl Jk) aL tO S5 sj sj G):aP w (wv w.P l K G) p (aA (Ctx.code (wv w.P l K G))) ⟨[(l,aq (aR aL) E)],[],N,J,[],U⟩ (.ok (.ret (.ref (N+1)))) ⟨[(l,aq (aR aL) E),((N+1),aq tO c7)],[S5],aU,aI,[],U⟩:=
 by revert w;exact @(iA 0x2d49525471ce0306314 (λw bT=>[SS w [0,0,2,1,0] N (N+3) (N+2) l (N+1) E K J (J+1) (N+4) (J+2) U c7 aU aI .none Jh aL tO S5 sj sj G Ji Jj Jk Jl bT]) [2,3] [0])
theorem pU.read {P:aF}{M:Nat}{fr:az}(h:pU P l M n fr):∃H z r m,fr=Dl P H z l M r m:=by
 cases h with
 |first H z=>exact jJ _ _ _ _ rfl
 |later n H z k3 k4 k5 n0 ly x0 lz lF s=>cases s<;>exact jJ _ _ _ _ rfl
theorem SV (hn:aL.length<=20)(hx:∀x∈aL,(∀y∈x.1,y<128)/\x.1.length<=100):∃(M:Nat) (o:List MK) (e' N' au:Nat),o.map MK.key=eU 0 (aL.map aD)/\ aP w (wv w.P l K G) p ((VV w).M.den (.call (.ref 937) ⟨[.ref l],[]⟩)) ⟨[(l,aq (aR aL) E)],[],N,J,[],U⟩ (.ok (.ret (.ref M))) ⟨[(l,aq (aR aL) E),(M,aq (cL o) e')],[o.map MK.ent],N',au,[],U⟩:=by
 refine nc (SN (F:=N) (aj:=N+3) (I:=N+2) (M:=N+1) (E:=E) (U:=U) (K:=K) (q1:=sj) (G:=G) hn hx aL.length 0 (ms:=[]) (S:=[]) (fr:=t8 w.P J (J+1) l (N+1)) (old:= .none) (eM:=0) (N:=N+4) (J:=J+2) (p:=sj) ji (by simp) (.first _ _)) λdb uf o e' N' au hf hk h=> ?_
 refine o9 (hf.read) λH z r m SW=> ?_
 subst SW
 refine ll (N+1) o e' N' au (by rw [hk,iS]) ?_
 rw [aT]
 exact SU (by
  delta Dk
  rw [aT]
  exact aK.same h (by simp [aC.all]) rfl ⟨rfl,rfl,rfl⟩ (.refl _) rfl ⟨rfl,rfl,rfl⟩)
noncomputable def cj:d:=[111,110,101]
noncomputable def Jm (P:aF):Expr:=bv (jO (dW (cw P 961) 8)) [1,1]
noncomputable def oE (P:aF)(K D av I:Nat):bL:= .compLoop (Jm P) 0 (.ref I) (.ref av) (compEnv (Jm P) (eQ P 961 K []) D [])
noncomputable def pV (P:aF)(K D av I:Nat)(q:aw):bd:=⟨oE P K D av I,none,none,cO P K q,none⟩
noncomputable def Dm (e:Expr)(outer:Env)(D:Nat):Env:=
 {compEnv e outer D ((vF e).names.foldl (λcs nk=>if nk.2== .free then(nk.1,(outer.cells.lookup nk.1).getD 0)::cs else cs) [])with
  scope:={vF e with names:=(vF e).names.map λnk=>if nk.2== .free&&outer.scope.kind== .function&&outer.kindOf nk.1==some .cell then(nk.1,.cell)else nk}}
noncomputable def kR (P:aF):Expr:=jO (dW (cw P 961) 11)
noncomputable def Am (P:aF)(K D:Nat):Env:=Dm (kR P) (i5 P K) D
noncomputable def mJ (P:aF)(K D av I:Nat):bL:= .compLoop (kR P) 0 (.ref I) (.ref av) (Am P K D)
noncomputable def Jn (P:aF):Expr:=bv (kR P) [0,1]
noncomputable def nD (P:aF)(K D1 D av I:Nat):bL:= .compLoop (Jn P) 0 (.ref I) (.ref av) (compEnv (Jn P) (Am P K D1) D [])
noncomputable def rf (P:aF)(K D1 aW I1 D av I:Nat)(q q1:aw):bd:=⟨nD P K D1 D av I,none,none,(mJ P K D1 aW I1,q1)::cO P K q,none⟩
noncomputable def Dn (P:aF):Expr:=jO (dW (cw P 961) 17)
noncomputable def Jo (P:aF)(K D:Nat):Env:=Dm (Dn P) (i5 P K) D
noncomputable def iF (P:aF)(K D av I:Nat):bL:= .compLoop (Dn P) 0 (.ref I) (.ref av) (Jo P K D)
noncomputable def Jp (P:aF):Expr:=bv (Dn P) [0,1,1]
noncomputable def nE (P:aF)(K D1 D av I:Nat):bL:= .compLoop (Jp P) 0 (.ref I) (.ref av) (compEnv (Jp P) (Jo P K D1) D [])
noncomputable def rg (P:aF)(K D1 aW I1 D av I:Nat)(q q1:aw):bd:=⟨nE P K D1 D av I,none,none,(iF P K D1 aW I1,q1)::cO P K q,none⟩
theorem SX (hv:Y[i]? =some (.ref a))(h0:aB.length<=100000):aE w (pV w.P K D av I q) p (aA (oE w.P K D av I)) (cU w.P cj D av I l none aB e Y E i [(a,aG [Z wr tw,Z mn tm,.int no tn])] [] N J U) (.ok (.again (oE w.P K D av I))) ⟨919,24,919,30⟩ (cU w.P cj D av I l (some (J,(.ref a))) (aB++[cu {cps:={toList:=wr}} tw]) (e+1) Y E (i+1) [(a,aG [Z wr tw,Z mn tm,.int no tn])] [] N (J+2) U):=
 w1 0x2b3cf3def39ce9c7 [c9 w [2,2] I l E hv,bR w [3] av e (Z wr tw) h0] [3,0,0,0,0]
theorem SY (hv:Y[i]? =none):aP w (pV w.P K D av I q) p (aA (oE w.P K D av I)) (cU w.P cj D av I l none aB e Y E i [] [] N J U) (.ok .next) (hC w.P cj D av I l none aB e Y E i [] [] (N+2) J U):=
 dJ 10695 [gz w [2,2] I l E hv] [4,4,2,2]
theorem SZ (hv:Y[i]? =some (.ref a))(h0:wr.length+mn.length<=100000)(h1:aB.length<=100000):aE w (rf w.P K D1 aW I1 D av I q q1) p (aA (nD w.P K D1 D av I)) (cU w.P cj D av I l none aB e Y E i [(a,aq [Z wr tw,Z mn tm] ea)] [] N J U) (.ok (.again (nD w.P K D1 D av I))) ⟨923,22,923,37⟩ (cU w.P cj D av I l (some (J,(.ref a))) (aB++[cu {cps:={toList:=wr++mn}} (cD wr mn tw tm (J+3))]) (e+1) Y E (i+1) [(a,aq [Z wr tw,Z mn tm] ea)] [] N (J+(3+cE wr mn)) U):=
 w1 0xacbcf3def3bcf3def39ce9c7 [c9 w [2,2] I l E hv,dY w tw tm h0,bR w [3] av e (Z (wr++mn) (cD wr mn tw tm (J+3))) h1] [3,0,0,0,0]
theorem S7 (hv:Y[i]? =none):aP w (rf w.P K D1 aW I1 D av I q q1) p (aA (nD w.P K D1 D av I)) (cU w.P cj D av I l none aB e Y E i [] [] N J U) (.ok .next) (hC w.P cj D av I l none aB e Y E i [] [] (N+2) J U):=
 dJ 10695 [gz w [2,2] I l E hv] [4,4,2,2]
theorem S8 (hv:Y[i]? =some (.ref a))(h0:wr.length+mn.length<=100000)(h1:aB.length<=100000):aE w (rg w.P K D1 aW I1 D av I q q1) p (aA (nE w.P K D1 D av I)) (cU w.P cj D av I l none aB e Y E i [(a,aq [Z wr tw,Z mn tm] ea)] [] N J U) (.ok (.again (nE w.P K D1 D av I))) ⟨930,28,930,43⟩ (cU w.P cj D av I l (some (J,(.ref a))) (aB++[cu {cps:={toList:=wr++mn}} (cD wr mn tw tm (J+3))]) (e+1) Y E (i+1) [(a,aq [Z wr tw,Z mn tm] ea)] [] N (J+(3+cE wr mn)) U):=
 w1 0xacbcf3def3bcf3def39ce9c7 [c9 w [2,2] I l E hv,dY w tw tm h0,bR w [3] av e (Z (wr++mn) (cD wr mn tw tm (J+3))) h1] [3,0,0,0,0]
theorem S9 (hv:Y[i]? =none):aP w (rg w.P K D1 aW I1 D av I q q1) p (aA (nE w.P K D1 D av I)) (cU w.P cj D av I l none aB e Y E i [] [] N J U) (.ok .next) (hC w.P cj D av I l none aB e Y E i [] [] (N+2) J U):=
 dJ 10695 [gz w [2,2] I l E hv] [4,4,2,2]
theorem Ta (hv:Y[i]? =some (.ref a))(h0:aB.length<=100000):aE w (pV w.P K D av I q) p (aA (oE w.P K D av I)) (cU w.P cj D av I l (some (k0,v0)) aB e Y E i [(a,aG [Z wr tw,Z mn tm,.int no tn])] [] N J U) (.ok (.again (oE w.P K D av I))) ⟨919,24,919,30⟩ (cU w.P cj D av I l (some (k0,(.ref a))) (aB++[cu {cps:={toList:=wr}} tw]) (e+1) Y E (i+1) [(a,aG [Z wr tw,Z mn tm,.int no tn])] [] N (J+2) U):=
 w1 0x2b3cf3def39ce9c7 [c9 w [2,2] I l E hv,bR w [3] av e (Z wr tw) h0] [3,0,0,0,0]
theorem Tb (hv:Y[i]? =none):aP w (pV w.P K D av I q) p (aA (oE w.P K D av I)) (cU w.P cj D av I l (some (k0,v0)) aB e Y E i [] [] N J U) (.ok .next) (hC w.P cj D av I l (some (k0,v0)) aB e Y E i [] [] (N+2) J U):=
 dJ 10695 [gz w [2,2] I l E hv] [4,4,2,2]
theorem Tc (hv:Y[i]? =some (.ref a))(h0:wr.length+mn.length<=100000)(h1:aB.length<=100000):aE w (rf w.P K D1 aW I1 D av I q q1) p (aA (nD w.P K D1 D av I)) (cU w.P cj D av I l (some (k0,v0)) aB e Y E i [(a,aq [Z wr tw,Z mn tm] ea)] [] N J U) (.ok (.again (nD w.P K D1 D av I))) ⟨923,22,923,37⟩ (cU w.P cj D av I l (some (k0,(.ref a))) (aB++[cu {cps:={toList:=wr++mn}} (cD wr mn tw tm (J+3))]) (e+1) Y E (i+1) [(a,aq [Z wr tw,Z mn tm] ea)] [] N (J+(3+cE wr mn)) U):=
 w1 0xacbcf3def3bcf3def39ce9c7 [c9 w [2,2] I l E hv,dY w tw tm h0,bR w [3] av e (Z (wr++mn) (cD wr mn tw tm (J+3))) h1] [3,0,0,0,0]
theorem Td (hv:Y[i]? =none):aP w (rf w.P K D1 aW I1 D av I q q1) p (aA (nD w.P K D1 D av I)) (cU w.P cj D av I l (some (k0,v0)) aB e Y E i [] [] N J U) (.ok .next) (hC w.P cj D av I l (some (k0,v0)) aB e Y E i [] [] (N+2) J U):=
 dJ 10695 [gz w [2,2] I l E hv] [4,4,2,2]
theorem Te (hv:Y[i]? =some (.ref a))(h0:wr.length+mn.length<=100000)(h1:aB.length<=100000):aE w (rg w.P K D1 aW I1 D av I q q1) p (aA (nE w.P K D1 D av I)) (cU w.P cj D av I l (some (k0,v0)) aB e Y E i [(a,aq [Z wr tw,Z mn tm] ea)] [] N J U) (.ok (.again (nE w.P K D1 D av I))) ⟨930,28,930,43⟩ (cU w.P cj D av I l (some (k0,(.ref a))) (aB++[cu {cps:={toList:=wr++mn}} (cD wr mn tw tm (J+3))]) (e+1) Y E (i+1) [(a,aq [Z wr tw,Z mn tm] ea)] [] N (J+(3+cE wr mn)) U):=
 w1 0xacbcf3def3bcf3def39ce9c7 [c9 w [2,2] I l E hv,dY w tw tm h0,bR w [3] av e (Z (wr++mn) (cD wr mn tw tm (J+3))) h1] [3,0,0,0,0]
theorem Tf (hv:Y[i]? =none):aP w (rg w.P K D1 aW I1 D av I q q1) p (aA (nE w.P K D1 D av I)) (cU w.P cj D av I l (some (k0,v0)) aB e Y E i [] [] N J U) (.ok .next) (hC w.P cj D av I l (some (k0,v0)) aB e Y E i [] [] (N+2) J U):=
 dJ 10695 [gz w [2,2] I l E hv] [4,4,2,2]
theorem aK.peek {L S:aJ}{x:Addr×az}(hx:x∈S)(h:aK V ⟨L++[x],[],N,J,ai,U⟩ ⟨L'++[x],[],N',au,G',br⟩ Φ):aK V ⟨L,[S],N,J,ai,U⟩ ⟨L',[S],N',au,G',br⟩ Φ:=by
 refine fK (BU hx) λT1 T2 fM=> ?_
 subst fM
 exact aK.focus h
theorem An (ej:V.M.den=den){ae:bL}(hq:ae.quiet=true)(cv:Γ.goto ae=Γ){P:aF}{n:d}{val:α->ay}{A:aJ}{T:List aJ}(R:α->LV->Prop)(turn:∀i x o aB e N J p,x∈xs->(xs.map val)[i]? =some (val x)->aB.length<=i->∃o' v' e' N' au p',R x v'/\v'.length<=1/\ax V Γ p (den ae) (cU P n D av I l o aB e (xs.map val) E i A T N J U) (.ok (.again ae)) p' (cU P n D av I l (some o') (aB++v') e' (xs.map val) E (i+1) A T N' au U))(stop:∀i o aB e N J p,(xs.map val)[i]? =none->∃N' au,cW V Γ p (den ae) (cU P n D av I l o aB e (xs.map val) E i A T N J U) (.ok .next) (hC P n D av I l o aB e (xs.map val) E i A T N' au U)):∀(m i:Nat) (o:Option (Nat×ay)) (aB:LV) (e N J:Nat) (p:aw),i+m=xs.length->aB.length<=i-> ∃o' dg e' N' au,jr R (xs.drop i) dg/\(m=0->o'=o)/\(m≠0->∃kv,o'=some kv)/\ cW V Γ p (den ae) (cU P n D av I l o aB e (xs.map val) E i A T N J U) (.ok .next) (hC P n D av I l o' (aB++dg.flatten) e' (xs.map val) E xs.length A T N' au U):=by
 intro m
 induction m with
 |zero=>
  intro i o aB e N J p hi _
  have hi:i=xs.length:=by lia
  subst hi
  refine fK (stop xs.length o aB e N J p (by simp)) λN' au h=>
   ke o [] e N' au (by rw [u8];exact .nil) (λ_=>rfl) (λh=>absurd rfl h) (by rw [ce,bk];exact h)
 |succ m aS=>
  intro i o aB e N J p hi ho
  have bw:i<xs.length:=by lia
  refine nc (turn i xs[i] o aB e N J p (gt bw) (by rw [iv,cm bw];rfl) ho) λo1 v1 e1 N1 be p1 hR hv h1=> ?_
  refine ix (aS (i+1) (some o1) (aB++v1) e1 N1 be p1 (by lia) (by rw [ci];lia)) λo2 dg e2 N2 eR hA hz hs h2=>
   ⟨o2,v1::dg,e2,N2,eR,by rw [fJ bw];exact .cons hR hA,λh=>absurd h lq,λ_=> ?_,?_⟩
  ·by_cases hm:m=0
   ·exact⟨_,hz hm⟩
   ·exact hs hm
  ·rw [ck,<-bK]
   exact ax.turn ej cv hq h1 h2
theorem Do {f:α->d}(h:jr (λx v'=>∃t,v'=[Z (f x) t]) xs dg):∃aO,dg.flatten=aR aO/\aO.map aD=xs.map f:=by
 induction h with
 |nil=>exact da [] rfl rfl
 | @cons x _ xs m h _ ih=>
  refine bX ih λaO e1 e2=>h.elim λt h=> ?_
  subst h
  exact da ((f x,t)::aO) (by rw [ck,e1];rfl) (by rw [bY,bY,e2])
structure PT where
 a:Nat
 g:d
 tg:Nat
 x:d
 tx:Nat
 e:Nat
noncomputable def PT.ent (m:PT):Addr×az:=(m.a,aq [Z m.g m.tg,Z m.x m.tx] m.e)
noncomputable def PT.key (m:PT):d×d:=(m.g,m.x)
noncomputable def bm (ps:List PT):LV:=ps.map λm=> .ref m.a
variable {w:WB}
theorem Tg {ms:List MK}(hn:ms.length<=10000)(h0:ms≠[]):∃kv aO e' N' au,aO.map aD=ms.map MK.wr/\ aP w (pV w.P K D av I q) p (aA (oE w.P K D av I)) (cU w.P cj D av I l none [] e (cL ms) E 0 [] [ms.map MK.ent] N J U) (.ok .next) (hC w.P cj D av I l (some kv) (aR aO) e' (cL ms) E ms.length [] [ms.map MK.ent] N' au U):=by
 obtain⟨o',dg,e',N',au,hA,hz,hs,h⟩:=An (V:=VV w) (aT w) (Γ:=pV w.P K D av I q) (ae:=oE w.P K D av I) (by kernel_rfl) rfl (P:=w.P) (n:=cj) (l:=l) (E:=E) (U:=U) (val:=λm:MK=> .ref m.a) (xs:=ms) (T:=[ms.map MK.ent]) (λx v'=>∃t,v'=[Z x.wr t])
  (λi x o aB e N J p hx hv ho=>by
   have hi:i<ms.length:=by have:=(mf.mp hv).1;simpa using this
   have hm:x.ent∈ms.map MK.ent:=j8 hx
   cases o with
   |none=>exact dV _ [_] _ _ _ _ ⟨_,rfl⟩ (b7 _) (aK.peek hm (SX hv (by lia)))
   |some kv=>exact dV _ [_] _ _ _ _ ⟨_,rfl⟩ (b7 _) (aK.peek hm (Ta (k0:=kv.1) hv (by lia))))
  (λi o aB e N J p hv=>by
   cases o with
   |none=>exact dU _ _ (aK.seg _ (SY hv))
   |some kv=>exact dU _ _ (aK.seg _ (Tb hv)))
  ms.length 0 none [] e N J p ji (b7 _)
 obtain⟨kv,rfl⟩:=hs (by cases ms with|nil=>exact absurd rfl h0|cons=>simp)
 refine bX (Do hA) λaO e1 e2=> ?_
 rw [e1]at h
 exact ll kv aO e' N' au e2 h
section
variable {bv:List PT}(hn:bv.length<=10000)(gN:∀x∈bv,x∈ps)(hl:∀x∈ps,x.g.length+x.x.length<=100000)
include hn gN hl
theorem Th:∃o' aO e' N' au,aO.map aD=bv.map (λx=>x.g++x.x)/\(bv=[]->o'=none)/\(bv≠[]->∃kv,o'=some kv)/\ aP w (rf w.P K D1 aW I1 D av I q q1) p (aA (nD w.P K D1 D av I)) (cU w.P cj D av I l none [] e (bm bv) E 0 [] [ps.map PT.ent] N J U) (.ok .next) (hC w.P cj D av I l o' (aR aO) e' (bm bv) E bv.length [] [ps.map PT.ent] N' au U):=by
 obtain⟨o',dg,e',N',au,hA,hz,hs,h⟩:=An (V:=VV w) (aT w) (Γ:=rf w.P K D1 aW I1 D av I q q1) (ae:=nD w.P K D1 D av I) (by kernel_rfl) rfl (P:=w.P) (n:=cj) (l:=l) (E:=E) (U:=U) (val:=λm:PT=> .ref m.a) (xs:=bv) (T:=[ps.map PT.ent]) (λx v'=>∃t,v'=[Z (x.g++x.x) t])
  (λi x o aB e N J p hx hv ho=>by
   have hi:i<bv.length:=by have:=(mf.mp hv).1;simpa using this
   have hm:x.ent∈ps.map PT.ent:=j8 (gN x hx)
   cases o with
   |none=>exact dV _ [_] _ _ _ _ ⟨_,rfl⟩ (b7 _) (aK.peek hm (SZ hv (hl x (gN x hx)) (by lia)))
   |some kv=>exact dV _ [_] _ _ _ _ ⟨_,rfl⟩ (b7 _) (aK.peek hm (Tc (k0:=kv.1) hv (hl x (gN x hx)) (by lia))))
  (λi o aB e N J p hv=>by
   cases o with
   |none=>exact dU _ _ (aK.seg _ (S7 hv))
   |some kv=>exact dU _ _ (aK.seg _ (Td hv)))
  bv.length 0 none [] e N J p ji (b7 _)
 refine bX (Do hA) λaO e1 e2=> ?_
 rw [e1]at h
 exact ke o' aO e' N' au e2 (λq=>hz (by rw [q];rfl)) (λq=>hs (by cases bv with|nil=>exact absurd rfl q|cons=>simp)) h
theorem Ti:∃o' aO e' N' au,aO.map aD=bv.map (λx=>x.g++x.x)/\(bv=[]->o'=none)/\(bv≠[]->∃kv,o'=some kv)/\ aP w (rg w.P K D1 aW I1 D av I q q1) p (aA (nE w.P K D1 D av I)) (cU w.P cj D av I l none [] e (bm bv) E 0 [] [ps.map PT.ent] N J U) (.ok .next) (hC w.P cj D av I l o' (aR aO) e' (bm bv) E bv.length [] [ps.map PT.ent] N' au U):=by
 obtain⟨o',dg,e',N',au,hA,hz,hs,h⟩:=An (V:=VV w) (aT w) (Γ:=rg w.P K D1 aW I1 D av I q q1) (ae:=nE w.P K D1 D av I) (by kernel_rfl) rfl (P:=w.P) (n:=cj) (l:=l) (E:=E) (U:=U) (val:=λm:PT=> .ref m.a) (xs:=bv) (T:=[ps.map PT.ent]) (λx v'=>∃t,v'=[Z (x.g++x.x) t])
  (λi x o aB e N J p hx hv ho=>by
   have hi:i<bv.length:=by have:=(mf.mp hv).1;simpa using this
   have hm:x.ent∈ps.map PT.ent:=j8 (gN x hx)
   cases o with
   |none=>exact dV _ [_] _ _ _ _ ⟨_,rfl⟩ (b7 _) (aK.peek hm (S8 hv (hl x (gN x hx)) (by lia)))
   |some kv=>exact dV _ [_] _ _ _ _ ⟨_,rfl⟩ (b7 _) (aK.peek hm (Te (k0:=kv.1) hv (hl x (gN x hx)) (by lia))))
  (λi o aB e N J p hv=>by
   cases o with
   |none=>exact dU _ _ (aK.seg _ (S9 hv))
   |some kv=>exact dU _ _ (aK.seg _ (Tf hv)))
  bv.length 0 none [] e N J p ji (b7 _)
 refine bX (Do hA) λaO e1 e2=> ?_
 rw [e1]at h
 exact ke o' aO e' N' au e2 (λq=>hz (by rw [q];rfl)) (λq=>hs (by cases bv with|nil=>exact absurd rfl q|cons=>simp)) h
end
theorem Ao (hn:n<=100000):Builtin.List.listFitsIndex (O n)=true:=by
 have h1:(0:Int)<=O n:=by show(0:Int)<=(n:Int);lia
 have h2:O n<2^63:=by show((n:Nat):Int)<2^63;lia
 exact fitsIndex_of h1 h2
theorem Jq (l e n t:Nat)(Y:LV)(v:ay)(k:Int)(hf:Builtin.List.listFitsIndex k=true)(hk:k=O n)(h:Y[n]? =some v):Bi (VV w) 0 (bV false "list.__getitem__" ⟨[.ref l,.int k t],[]⟩) [(l,aq Y e)] (λ_=>[(l,aq Y e)]) (λ_ _=> .ok (.ret v)) 0 0:=by
 refine dO λA s _ _ _ _ R=>dX (by decide+kernel) entry_list_getitem ?_
 have ho:=R.led _ (.head _)
 generalize hi:bE k t=i
 show wpAny (model _ _) _ (Builtin.List.listSubscript? i>>=_) _ _ s
 refine bf ?_
 rw [<-hi]
 refine wpAny_listSubscript_int hf ?_
 rw [hk]
 show wpAny _ _ ((seqItemAt l n>>=λr=>pure (r.map (n,·)))>>=_) _ _ s
 refine bf (bf (wpAny_seqItemAt ho rfl (dh ?_)))
 have hv:(⟨Y⟩:Array ay)[n]? =some v:=by simpa using h
 rw [hv]
 exact bf (dh (dh ⟨rfl,.refl R⟩))
theorem Tj (l e n t:Nat)(Y:LV)(v:ay)(hn:n<=100000)(h:Y[n]? =some v):Bi (VV w) 0 (bV false "list.__getitem__" ⟨[.ref l,.int (O n) t],[]⟩) [(l,aq Y e)] (λ_=>[(l,aq Y e)]) (λ_ _=> .ok (.ret v)) 0 0:=Jq l e n t Y v (O n) (Ao hn) rfl h
theorem Tk (l e t:Nat)(Y:LV)(v:ay):Bi (VV w) 0 (bV false "list.__getitem__" ⟨[.ref l,.int (cJ 0) t],[]⟩) [(l,aq (Y++[v]) e)] (λ_=>[(l,aq (Y++[v]) e)]) (λ_ _=> .ok (.ret v)) 0 0:=by
 refine dO λA s _ _ _ _ R=>dX (by decide+kernel) entry_list_getitem ?_
 have ho:=R.led _ (.head _)
 generalize hi:bE (cJ 0) t=i
 show wpAny (model _ _) _ (Builtin.List.listSubscript? i>>=_) _ _ s
 refine bf ?_
 rw [<-hi]
 refine wpAny_listSubscript_int (by decide) ?_
 show wpAny _ _ ((Builtin.List.listItems (.ref l)>>=λxs=>pure ((seqIndex? (cJ 0) xs.size).bind λj=>xs[j]?.map (j,·)))>>=_) _ _ s
 refine bf (bf ?_)
 delta Builtin.List.listItems
 refine bf (lj ho rfl (dh (dh ?_)))
 have e1:seqIndex? (cJ 0) (⟨Y++[v]⟩:Array ay).size=some Y.length:=by
  have hz:(⟨Y++[v]⟩:Array ay).size=Y.length+1:=by simp
  rw [hz]
  delta seqIndex?
  have hj:(cJ 0:Int)+((Y.length+1:Nat):Int)=(Y.length:Int):=by lia
  simp only [show(cJ 0:Int)<0 from by decide,if_true,hj]
  rw [if_pos (by simp;lia)]
  rfl
 rw [e1]
 have hv:(⟨Y++[v]⟩:Array ay)[Y.length]? =some v:=by simp
 show wpAny _ _ (match(((⟨Y++[v]⟩:Array ay)[Y.length]?).map (Y.length,·))with|some (_,x)=>_|none=>_) _ _ s
 rw [hv]
 exact bf (dh (dh ⟨rfl,.refl R⟩))
noncomputable def ja (w:WB)(aH:d)(l e:Nat){n:Nat}(t:Nat){Y:LV}{v:ay}(hn:n<=100000)(h:Y[n]? =some v):aM w:= .bi _ _ _ _ aH _ _ _ _ _ (Tj l e n t Y v hn h)
noncomputable def dZ (w:WB)(aH:d)(l e t:Nat)(Y:LV)(v:ay):aM w:= .bi _ _ _ _ aH _ _ _ _ _ (Tk l e t Y v)
noncomputable def ww (P:aF)(H z:Nat)(x:d)(tx M:Nat):az:=bz [de P [108,105,110,101] H (Z x tx),de P [112,97,114,116,115] z (.ref M)] 2
noncomputable def fE (P:aF)(H z k3 k4:Nat)(x:d)(tx M:Nat)(v3 v4:ay):az:=bz [de P [108,105,110,101] H (Z x tx),de P [112,97,114,116,115] z (.ref M),de P gC k3 v3,de P [98,108,97,110,107] k4 v4] 4
noncomputable def e8 (P:aF)(F I:Nat):bL:=pz (dW (cw P 944) 1) (.ref I) (eQ P 944 F [])
noncomputable def jw (P:aF)(F I K:Nat)(q G:aw):bd:=⟨e8 P F I,none,none,dB P 944 F q (cO P K G),none⟩
theorem Tl {F M:Nat}(hc:x[i]? =some c)(h0:([c]==[32])=true):aE w (jw w.P F I K q G) p (aA (e8 w.P F I)) ⟨[(F,ww w.P H z x tx M),(M,aq [] eM),(I,bS x t i)],[],N,J,[],U⟩ (.ok (.again (e8 w.P F I))) pj ⟨[(F,fE w.P H z (J+1) (J+3) x tx M (Z [c] J) (.bool true)),(M,aq [.ref (N+1)] (eM+1)),(I,bS x t (i+1)),((N+1),aq [Z [c] J,Z [] (J+5)] 0)],[],(N+2),(J+9),[],U⟩:=
 by revert w;exact @(dI 0x6318618d78c30c6f52a3d19556acb56318d18c69c7 (λw=>[gA w [2] I t hc,bu w J (J+2) h0,kq w [3,0] M N eM 0 (Y:=[]) (r:=true) rfl,bR w [1] M eM (Y:=[]) (.ref (N+1)) (by decide),dZ w [0] M (eM+1) (J+7) [] (.ref (N+1)),dY w (a:=[]) (b:=[c]) (J+4) J (of_decide_eq_true (by kernel_rfl))]) [4,0,2,0])
theorem Tn {F M:Nat}(hc:x[i]? =some c)(h0:([c]==[32])=false)(h1:([c]==[9])=true):aE w (jw w.P F I K q G) p (aA (e8 w.P F I)) ⟨[(F,ww w.P H z x tx M),(M,aq [] eM),(I,bS x t i)],[],N,J,[],U⟩ (.ok (.again (e8 w.P F I))) pj ⟨[(F,fE w.P H z (J+1) (J+4) x tx M (Z [c] J) (.bool true)),(M,aq [.ref (N+1)] (eM+1)),(I,bS x t (i+1)),((N+1),aq [Z [c] J,Z [] (J+6)] 0)],[],(N+2),(J+10),[],U⟩:=
 by revert w;exact @(dI 0x318c30c6bc618637a951e8caab565ab18c68d18c69c7 (λw=>[gA w [2] I t hc,bu w J (J+2) h0,bu w J (J+3) h1,kq w [3,0] M N eM 0 (Y:=[]) (r:=true) rfl,bR w [1] M eM (Y:=[]) (.ref (N+1)) (by decide),dZ w [0] M (eM+1) (J+8) [] (.ref (N+1)),dY w (a:=[]) (b:=[c]) (J+5) J (of_decide_eq_true (by kernel_rfl))]) [4,0,2,0])
theorem To {F M:Nat}(hc:x[i]? =some c)(h0:([c]==[32])=false)(h1:([c]==[9])=false):aE w (jw w.P F I K q G) p (aA (e8 w.P F I)) ⟨[(F,ww w.P H z x tx M),(M,aq [] eM),(I,bS x t i)],[],N,J,[],U⟩ (.ok (.again (e8 w.P F I))) pj ⟨[(F,fE w.P H z (J+1) (J+4) x tx M (Z [c] J) (.bool false)),(M,aq [.ref (N+1)] (eM+1)),(I,bS x t (i+1)),((N+1),aq [Z [] (J+5),Z [c] J] 0)],[],(N+2),(J+10),[],U⟩:=
 by revert w;exact @(dI 0x318c30c6bc618637a951e8caab565ab18c68d18c69c7 (λw=>[gA w [2] I t hc,bu w J (J+2) h0,bu w J (J+3) h1,kq w [3,0] M N eM 0 (Y:=[]) (r:=true) rfl,bR w [1] M eM (Y:=[]) (.ref (N+1)) (by decide),dZ w [0] M (eM+1) (J+8) [] (.ref (N+1)),dY w (a:=[]) (b:=[c]) (J+6) J (of_decide_eq_true (by kernel_rfl))]) [4,0,2,0])
section
variable {F M:Nat}{g:d}(hc:x[i]? =some c)(he:(Y++[aQ a]).isEmpty=false)
include hc he
theorem Tp (h0:([c]==[32])=true)(h1:(h !=[])=true)(h2:(Y++[aQ a]).length<=100000):aE w (jw w.P F I K q G) p (aA (e8 w.P F I)) ⟨[(F,fE w.P H z k3 k4 x tx M v3 v4),(M,aq (Y++[.ref a]) eM),(I,bS x t i),(a,aq [Z g tg,Z h th] ea)],[],N,J,[],U⟩ (.ok (.again (e8 w.P F I))) pj ⟨[(F,fE w.P H z k3 k4 x tx M (Z [c] J) (.bool true)),(M,aq (Y++[.ref a]++[.ref (N+1)]) (eM+1)),(I,bS x t (i+1)),(a,aq [Z g tg,Z h th] ea),((N+1),aq [Z [c] J,Z [] (J+9)] 0)],[],(N+2),(J+13),[],U⟩:=
 by revert w;exact @(dI 0xc630c31af18618dea547a32aad3cf3def52a2d6acb56318d18c69c7 (λw=>[gA w [2] I t hc,bu w J (J+2) h0,kq w [3,0] M N eM 0 he,dZ w [0] M eM (J+5) Y (.ref a),g9 w th (J+7) h1,bR w [1] M eM (.ref (N+1)) h2,dZ w [0] M (eM+1) (J+11) (Y++[aQ a]) (.ref (N+1)),dY w (a:=[]) (b:=[c]) (J+8) J (of_decide_eq_true (by kernel_rfl))]) [4,0,2,2,0])
theorem Tr (h0:([c]==[32])=false)(h1:([c]==[9])=true)(h2:(h !=[])=true)(h3:(Y++[aQ a]).length<=100000):aE w (jw w.P F I K q G) p (aA (e8 w.P F I)) ⟨[(F,fE w.P H z k3 k4 x tx M v3 v4),(M,aq (Y++[.ref a]) eM),(I,bS x t i),(a,aq [Z g tg,Z h th] ea)],[],N,J,[],U⟩ (.ok (.again (e8 w.P F I))) pj ⟨[(F,fE w.P H z k3 k4 x tx M (Z [c] J) (.bool true)),(M,aq (Y++[.ref a]++[.ref (N+1)]) (eM+1)),(I,bS x t (i+1)),(a,aq [Z g tg,Z h th] ea),((N+1),aq [Z [c] J,Z [] (J+10)] 0)],[],(N+2),(J+14),[],U⟩:=
 by revert w;exact @(dI 0x6318618d78c30c6f52a3d195569e79ef7a9516b565ab18c68d18c69c7 (λw=>[gA w [2] I t hc,bu w J (J+2) h0,bu w J (J+3) h1,kq w [3,0] M N eM 0 he,dZ w [0] M eM (J+6) Y (.ref a),g9 w th (J+8) h2,bR w [1] M eM (.ref (N+1)) h3,dZ w [0] M (eM+1) (J+12) (Y++[aQ a]) (.ref (N+1)),dY w (a:=[]) (b:=[c]) (J+9) J (of_decide_eq_true (by kernel_rfl))]) [4,0,2,2,0])
theorem Ts (h0:([c]==[32])=true)(h1:(h !=[])=false)(h2:g.length+[c].length<=100000):aE w (jw w.P F I K q G) p (aA (e8 w.P F I)) ⟨[(F,fE w.P H z k3 k4 x tx M v3 v4),(M,aq (Y++[.ref a]) eM),(I,bS x t i),(a,aq [Z g tg,Z h th] ea)],[],N,J,[],U⟩ (.ok (.again (e8 w.P F I))) pj ⟨[(F,fE w.P H z k3 k4 x tx M (Z [c] J) (.bool true)),(M,aq (Y++[.ref a]) eM),(I,bS x t (i+1)),(a,aq [Z (g++[c]) (cD g [c] tg J (J+11)),Z h th] ea)],[],(N+1),(J+(11+cE g [c])),[],U⟩:=
 by revert w;exact @(dI 0x1ef79e7bd5bcf3deb52a2d3cf3def52a2d6acb56318d18c69c7 (λw=>[gA w [2] I t hc,bu w J (J+2) h0,kq w [3,0] M N eM 0 he,dZ w [0] M eM (J+5) Y (.ref a),g9 w th (J+7) h1,dZ w [0] M eM (J+9) Y (.ref a),dY w tg J h2]) [3,0,1,1])
theorem Tt (h0:([c]==[32])=false)(h1:([c]==[9])=false)(h2:h.length+[c].length<=100000):aE w (jw w.P F I K q G) p (aA (e8 w.P F I)) ⟨[(F,fE w.P H z k3 k4 x tx M v3 v4),(M,aq (Y++[.ref a]) eM),(I,bS x t i),(a,aq [Z g tg,Z h th] ea)],[],N,J,[],U⟩ (.ok (.again (e8 w.P F I))) pj ⟨[(F,fE w.P H z k3 k4 x tx M (Z [c] J) (.bool false)),(M,aq (Y++[.ref a]) eM),(I,bS x t (i+1)),(a,aq [Z g tg,Z (h++[c]) (cD h [c] th J (J+8))] ea)],[],(N+1),(J+(8+cE h [c])),[],U⟩:=
 by revert w;exact @(dI 0xf7bcf3deade79ef5a9516b565ab18c68d18c69c7 (λw=>[gA w [2] I t hc,bu w J (J+2) h0,bu w J (J+3) h1,kq w [3,0] M N eM 0 he,dZ w [0] M eM (J+6) Y (.ref a),dY w th J h2]) [3,0,1,1])
theorem Tu (h0:([c]==[32])=false)(h1:([c]==[9])=true)(h2:(h !=[])=false)(h3:g.length+[c].length<=100000):aE w (jw w.P F I K q G) p (aA (e8 w.P F I)) ⟨[(F,fE w.P H z k3 k4 x tx M v3 v4),(M,aq (Y++[.ref a]) eM),(I,bS x t i),(a,aq [Z g tg,Z h th] ea)],[],N,J,[],U⟩ (.ok (.again (e8 w.P F I))) pj ⟨[(F,fE w.P H z k3 k4 x tx M (Z [c] J) (.bool true)),(M,aq (Y++[.ref a]) eM),(I,bS x t (i+1)),(a,aq [Z (g++[c]) (cD g [c] tg J (J+12)),Z h th] ea)],[],(N+1),(J+(12+cE g [c])),[],U⟩:=
 by revert w;exact @(dI 0xf7bcf3deade79ef5a95169e79ef7a9516b565ab18c68d18c69c7 (λw=>[gA w [2] I t hc,bu w J (J+2) h0,bu w J (J+3) h1,kq w [3,0] M N eM 0 he,dZ w [0] M eM (J+6) Y (.ref a),g9 w th (J+8) h2,dZ w [0] M eM (J+10) Y (.ref a),dY w tg J h3]) [3,0,1,1])
end
theorem Tv {F:Nat}{fr:az}(hc:x[i]? =none):aP w (jw w.P F I K q G) p (aA (e8 w.P F I)) ⟨[(F,fr),(I,bS x t i)],[],N,J,[],U⟩ (.ok .next) ⟨[(F,fr),(I,nx i)],[],(N+2),J,[],U⟩:=
 dJ 10435 [oA w [1] I t hc] [3,2]
noncomputable def bU (c:Nat):Bool:=c==32||c==9
noncomputable def cG:b8->d->d->d->b8
 |done,g,h,[]=>done++[(g,h)]
 |done,g,h,c::r=>if bU c then(if h=[]then cG done (g++[c]) h r else cG (done++[(g,h)]) [c] [] r)else cG done g (h++[c]) r
noncomputable def cQ:d->b8
 |[]=>[]
 |c::r=>if bU c then cG [] [c] [] r else cG [] [] [c] r
variable {w:WB}
theorem aK.post {D:aC}(h:aK V C C' Φ)(h1:C'.all.Perm D.all)(h2:C'.ai=D.ai)(h3:C'.N=D.N/\C'.J=D.J/\C'.U=D.U):aK V C D Φ:=
 aK.less h (by rw [bk];exact h1) (by rw [bk,h2]) h3
theorem Tw {F M:Nat}(hx:x.length<=10000):∀(m i:Nat) {ps:List PT} {a tg th ea eM N J:Nat} {g h:d} {v3 v4:ay} {p:aw},i+m=x.length->ps.length+1<=i->g.length+h.length<=i-> ∃(hF:List PT) (jb jc:ay) (e' N' au:Nat),hF.map PT.key=cG (ps.map PT.key) g h (x.drop i)/\hF≠[]/\ aP w (jw w.P F I K q G) p (aA (e8 w.P F I)) ⟨[(F,fE w.P H z k3 k4 x tx M v3 v4),(M,aq (bm ps++[.ref a]) eM),(I,bS x t i),(a,aq [Z g tg,Z h th] ea)],[ps.map PT.ent],N,J,[],U⟩ (.ok .next) ⟨[(F,fE w.P H z k3 k4 x tx M jb jc),(M,aq (bm hF) e'),(I,nx x.length)],[hF.map PT.ent],N',au,[],U⟩:=by
 intro m
 induction m with
 |zero=>
  intro i ps a tg th ea eM N J g h v3 v4 p hi _ _
  have hi:i=x.length:=by lia
  subst hi
  refine dV (ps++[⟨a,g,tg,h,th,ea⟩]) v3 v4 eM (N+2) J (by rw [u8];simp [cG,PT.key]) (by simp) ?_
  have am:=Tv (w:=w) (F:=F) (I:=I) (t:=t) (i:=x.length) (N:=N) (J:=J) (U:=U) (K:=K) (x:=x) (p:=p) (q:=q) (G:=G) (fr:=fE w.P H z k3 k4 x tx M v3 v4) (by simp)
  refine aK.frame am (A:=(M,aq (bm ps++[.ref a]) eM)::(a,aq [Z g tg,Z h th] ea)::ps.map PT.ent) ?_ (.refl _) bH ?_ (.refl _) bH
  ·simp only [aC.all,ck,ce,bk,eB,cZ]
   exact(cg.swap ..).cons _
  ·simp only [aC.all,ck,ce,bk,eB,cZ,cx,bm]
   exact((cg.swap ..).trans (((cY (l₂:=[(PT.mk a g tg h th ea).ent])).cons _).cons _)).cons _
 |succ m aS=>
  intro i ps a tg th ea eM N J g h v3 v4 p hi hp hg
  have bw:i<x.length:=by lia
  have hc:x[i]? =some x[i]:=cm bw
  have hd:=fJ bw
  have he:(bm ps++[aQ a]).isEmpty=false:=by simp
  have hL:(bm ps++[aQ a]).length<=100000:=by simp [bm];lia
  have same:∀{g' h':d} {Dp rh jx fm N' au:Nat} {jb jc:ay} {p':aw},cG (ps.map PT.key) g h (x.drop i)=cG (ps.map PT.key) g' h' (x.drop (i+1))->g'.length+h'.length<=i+1->
    aE w (jw w.P F I K q G) p (aA (e8 w.P F I)) ⟨[(F,fE w.P H z k3 k4 x tx M v3 v4),(M,aq (bm ps++[.ref a]) eM),(I,bS x t i),(a,aq [Z g tg,Z h th] ea)],[],N,J,[],U⟩ (.ok (.again (e8 w.P F I))) p'
     ⟨[(F,fE w.P H z k3 k4 x tx M jb jc),(M,aq (bm ps++[.ref a]) fm),(I,bS x t (i+1)),(a,aq [Z g' Dp,Z h' rh] jx)],[],N',au,[],U⟩->
    ∃(hF:List PT) (jb jc:ay) (e' N' au:Nat),hF.map PT.key=cG (ps.map PT.key) g h (x.drop i)/\hF≠[]/\
     aP w (jw w.P F I K q G) p (aA (e8 w.P F I)) ⟨[(F,fE w.P H z k3 k4 x tx M v3 v4),(M,aq (bm ps++[.ref a]) eM),(I,bS x t i),(a,aq [Z g tg,Z h th] ea)],[ps.map PT.ent],N,J,[],U⟩ (.ok .next)
      ⟨[(F,fE w.P H z k3 k4 x tx M jb jc),(M,aq (bm hF) e'),(I,nx x.length)],[hF.map PT.ent],N',au,[],U⟩:=λ{g' h' Dp rh jx fm N' au jb jc p'} e1 e2 h1=>by
   refine nc (aS (i+1) (ps:=ps) (a:=a) (tg:=Dp) (th:=rh) (ea:=jx) (eM:=fm) (N:=N') (J:=au) (g:=g') (h:=h') (v3:=jb) (v4:=jc) (p:=p') (by lia) kf e2) λhF v5 v6 e' wx hD f1 f2 f3=> ?_
   exact dV hF v5 v6 e' wx hD (by rw [f1,e1]) f2 (ax.turn (aT w) rfl (by kernel_rfl) (aK.seg _ h1) f3)
  have fresh:∀{rh N' au:Nat} {jb jc:ay} {p':aw},cG (ps.map PT.key) g h (x.drop i)=cG (ps.map PT.key++[(g,h)]) [x[i]] [] (x.drop (i+1))->
    aE w (jw w.P F I K q G) p (aA (e8 w.P F I)) ⟨[(F,fE w.P H z k3 k4 x tx M v3 v4),(M,aq (bm ps++[.ref a]) eM),(I,bS x t i),(a,aq [Z g tg,Z h th] ea)],[],N,J,[],U⟩ (.ok (.again (e8 w.P F I))) p'
     ⟨[(F,fE w.P H z k3 k4 x tx M jb jc),(M,aq (bm ps++[.ref a]++[.ref (N+1)]) (eM+1)),(I,bS x t (i+1)),(a,aq [Z g tg,Z h th] ea),(N+1,aq [Z [x[i]] J,Z [] rh] 0)],[],N',au,[],U⟩->
    ∃(hF:List PT) (jb jc:ay) (e' N' au:Nat),hF.map PT.key=cG (ps.map PT.key) g h (x.drop i)/\hF≠[]/\
     aP w (jw w.P F I K q G) p (aA (e8 w.P F I)) ⟨[(F,fE w.P H z k3 k4 x tx M v3 v4),(M,aq (bm ps++[.ref a]) eM),(I,bS x t i),(a,aq [Z g tg,Z h th] ea)],[ps.map PT.ent],N,J,[],U⟩ (.ok .next)
      ⟨[(F,fE w.P H z k3 k4 x tx M jb jc),(M,aq (bm hF) e'),(I,nx x.length)],[hF.map PT.ent],N',au,[],U⟩:=λ{rh N' au jb jc p'} e1 h1=>by
   refine nc (aS (i+1) (ps:=ps++[⟨a,g,tg,h,th,ea⟩]) (a:=N+1) (tg:=J) (th:=rh) (ea:=0) (eM:=eM+1) (N:=N') (J:=au) (g:=[x[i]]) (h:=[]) (v3:=jb) (v4:=jc) (p:=p') (by lia) (by simp;lia) (by simp)) λhF v5 v6 e' wx hD f1 f2 f3=> ?_
   rw [show bm (ps++[⟨a,g,tg,h,th,ea⟩])=bm ps++[.ref a]from cx]at f3
   refine dV hF v5 v6 e' wx hD (by rw [f1,e1];simp [PT.key]) f2 (ax.turn (aT w) rfl (by kernel_rfl) (h1:= ?_) f3)
   refine aK.post (aK.seg (ps.map PT.ent) h1) ?_ rfl ⟨rfl,rfl,rfl⟩
   simp only [aC.all,ck,ce,bk,eB,cZ,cx]
   exact(((Ak).cons _).cons _).cons _
  by_cases hb:bU x[i]=true
  ·have e1:cG (ps.map PT.key) g h (x.drop i)=if h=[]then cG (ps.map PT.key) (g++[x[i]]) h (x.drop (i+1))else cG (ps.map PT.key++[(g,h)]) [x[i]] [] (x.drop (i+1)):=by rw [hd];simp only [cG,hb,if_true]
   by_cases hh:h=[]
   ·subst hh
    rw [if_pos rfl]at e1
    by_cases d0:x[i]=32
    ·exact same e1 (by simp at hg⊢;lia) (Ts hc he (by simp [d0]) rfl (by simp at hg⊢;lia))
    ·have h9:x[i]=9:=by unfold bU at hb;simpa [d0]using hb
     exact same e1 (by simp at hg⊢;lia) (Tu hc he (by simp [d0]) (by simp [h9]) rfl (by simp at hg⊢;lia))
   ·rw [if_neg hh]at e1
    have bD:(h !=[])=true:=by simpa using hh
    by_cases d0:x[i]=32
    ·exact fresh e1 (Tp hc he (by simp [d0]) bD hL)
    ·have h9:x[i]=9:=by unfold bU at hb;simpa [d0]using hb
     exact fresh e1 (Tr hc he (by simp [d0]) (by simp [h9]) bD hL)
  ·have e1:cG (ps.map PT.key) g h (x.drop i)=cG (ps.map PT.key) g (h++[x[i]]) (x.drop (i+1)):=by rw [hd];simp only [cG,hb];rfl
   unfold bU at hb
   simp only [xP,beq_iff_eq,not_or]at hb
   exact same e1 (by simp;lia) (Tt hc he (by simp [hb.1]) (by simp [hb.2]) (by simp;lia))
def wy (w:WB)(F I M t tx K H z k3 k4 N J U e' N' au:Nat)(x:d)(Y:LV)(S:aJ)(v3 v4:ay)(p q G:aw):Prop:=
 aP w (jw w.P F I K q G) p ((VV w).M.den (e8 w.P F I)) ⟨[(F,ww w.P H z x tx M),(M,aq [] 0),(I,bS x t 0)],[],N,J,[],U⟩ (.ok .next)
  ⟨[(F,fE w.P H z k3 k4 x tx M v3 v4),(M,aq Y e'),(I,nx x.length)],[S],N',au,[],U⟩
noncomputable def Tx (w:WB)(aH:d){F I M t tx K H z k3 k4 N J U e' N' au:Nat}{x:d}{Y:LV}{S:aJ}{v3 v4:ay}{p q G:aw}(h:wy w F I M t tx K H z k3 k4 N J U e' N' au x Y S v3 v4 p q G):aM w:= .fn _ _ aH [] [] _ _ _ h
noncomputable def wz (P:aF)(x:d)(tx K:Nat)(G:aw):bd:=⟨.call (.ref 944) ⟨[Z x tx],[]⟩,none,none,cO P K G,none⟩
theorem Tz (hx:∀y∈c::x,y<128){TA:Nat}{TB:Nat}{Jr:LV}{TC:ay}{TD:ay}(h9:wy w N (N+2) (N+1) tx tx K J (J+1) TA TB (N+3) (J+2) U pE gX fz (c::x) Jr S6 TC TD ⟨878,16,878,20⟩ ⟨878,16,878,20⟩ G):aP w (wz w.P (c::x) tx K G) p (aA (Ctx.code (wz w.P (c::x) tx K G))) ⟨[],[],N,J,[],U⟩ (.ok (.ret (.ref (N+1)))) ⟨[((N+1),aq Jr pE)],[S6],gX,fz,[],U⟩:=
 by revert w;exact @(iA 713843476 (λw h9=>[il w tx hx,Tx w [2,1,0] h9]) [1] [0])
theorem TE {F M:Nat}(hx:(c::x).length<=10000):∃k3 k4 e' N' au ps v3 v4,ps.map PT.key=cQ (c::x)/\ps≠[]/\wy w F I M t tx K H z k3 k4 N J U e' N' au (c::x) (bm ps) (ps.map PT.ent) v3 v4 p q G:=by
 have hc:(c::x)[0]? =some c:=rfl
 have key:∀{g h:d} {k3 k4 tg th ea eM N' au:Nat} {v3 v4:ay} {p':aw} {a:Nat},cQ (c::x)=cG [] g h x->g.length+h.length<=1->
   aE w (jw w.P F I K q G) p (aA (e8 w.P F I)) ⟨[(F,ww w.P H z (c::x) tx M),(M,aq [] 0),(I,bS (c::x) t 0)],[],N,J,[],U⟩ (.ok (.again (e8 w.P F I))) p'
    ⟨[(F,fE w.P H z k3 k4 (c::x) tx M v3 v4),(M,aq [.ref a] eM),(I,bS (c::x) t (0+1)),(a,aq [Z g tg,Z h th] ea)],[],N',au,[],U⟩->
   ∃k3 k4 e' N' au ps v3 v4,ps.map PT.key=cQ (c::x)/\ps≠[]/\wy w F I M t tx K H z k3 k4 N J U e' N' au (c::x) (bm ps) (ps.map PT.ent) v3 v4 p q G:=λ{g h k3 k4 tg th ea eM N' au v3 v4 p' a} e1 e2 h1=>by
  refine nc (Tw (w:=w) (F:=F) (I:=I) (M:=M) (t:=t) (tx:=tx) (K:=K) (H:=H) (z:=z) (k3:=k3) (k4:=k4) (U:=U) (x:=c::x) (q:=q) (G:=G) hx x.length 1 (ps:=[]) (a:=a) (tg:=tg) (th:=th) (ea:=ea) (eM:=eM) (N:=N') (J:=au) (v3:=v3) (v4:=v4) (p:=p') (by simp;lia) (by simp) e2) λhF v5 v6 e' wx hD f1 f2 f3=> ?_
  refine GM k3 k4 e' wx hD hF v5 v6 (by rw [f1,e1];rfl) f2 ?_
  delta wy
  rw [aT]
  refine ax.turn (aT w) rfl (by kernel_rfl) h1 (aK.same f3 ?_ rfl bH (.refl _) rfl bH)
  simp [aC.all,bm]
 by_cases hb:bU c=true
 ·have e1:cQ (c::x)=cG [] [c] [] x:=by simp only [cQ,hb,if_true]
  by_cases d0:c=32
  ·exact key e1 (by simp) (Tl hc (by simp [d0]))
  ·have h9:c=9:=by unfold bU at hb;simpa [d0]using hb
   exact key e1 (by simp) (Tn hc (by simp [d0]) (by simp [h9]))
 ·have e1:cQ (c::x)=cG [] [] [c] x:=by simp only [cQ,hb];rfl
  unfold bU at hb
  simp only [xP,beq_iff_eq,not_or]at hb
  exact key e1 (by simp) (To hc (by simp [hb.1]) (by simp [hb.2]))
theorem TF (h0:x≠[])(hl:x.length<=10000)(hx:∀y∈x,y<128):∃(M:Nat) (ps:List PT) (e' N' au:Nat),ps.map PT.key=cQ x/\ps≠[]/\ aP w (wz w.P x tx K G) p ((VV w).M.den (.call (.ref 944) ⟨[Z x tx],[]⟩)) ⟨[],[],N,J,[],U⟩ (.ok (.ret (.ref M))) ⟨[(M,aq (bm ps) e')],[ps.map PT.ent],N',au,[],U⟩:=by
 cases x with
 |nil=>exact absurd rfl h0
 |cons c x=>
  refine GI (TE hl) λk3 k4 e' N' au ps v3 v4 f1 f2 f3=>
   ⟨N+1,ps,e',_,_,f1,f2,by rw [aT];exact Tz hx f3⟩
noncomputable def Dq (P:aF):Stmt:=dW (cw P 949) 1
noncomputable def Ap (P:aF)(F:Nat):Env:=eQ P 949 F [(⟨⟨[102,105,114,115,116]⟩⟩,F+4),(⟨⟨[98,101,104,105,110,100]⟩⟩,F+3),(⟨⟨[115,105,103,110,115]⟩⟩,F+2),(IE,F+1)]
noncomputable def Dr (P:aF)(F K:Nat)(q G:aw):b9:=(.func (cw P 949) (Ap P F),q)::cO P K G
noncomputable def cA (P:aF)(F I:Nat):bL:=pz (Dq P) (.ref I) (Ap P F)
noncomputable def dL (P:aF)(F I K:Nat)(q G:aw):bd:=⟨cA P F I,none,none,Dr P F K q G,none⟩
noncomputable def Js (P:aF):Expr:=bv (jO (dW (inner (Dq P)) 1)) [1]
noncomputable def lM (P:aF)(F D av I:Nat):bL:= .compLoop (Js P) 0 (.ref I) (.ref av) (compEnv (Js P) (Ap P F) D [])
noncomputable def pW (P:aF)(F D av I I0 K:Nat)(q q1 G:aw):bd:=⟨lM P F D av I,none,none,(cA P F I0,q1)::Dr P F K q G,none⟩
noncomputable def kS (P:aF)(n m:d):eP->az
 |none=>fU [] 0
 |some x=>fU [de P n x.1.1 x.1.2,de P m x.2.1 x.2.2] 2
noncomputable def Jt:d:=[103,97,112]
noncomputable def Aq:d:=[112,97,114,116]
noncomputable def mK (P:aF)(D av I l:Nat)(o:eP)(aB:LV)(e:Nat)(Y:LV)(E i:Nat)(A:aJ)(T:List aJ)(N J U:Nat):aC:=⟨[(D,kS P Jt Aq o),(av,aq aB e),(I,bM l i),(l,aq Y E)]++A,T,N,J,[],U⟩
noncomputable def wA (P:aF)(D av I l:Nat)(o:eP)(aB:LV)(e:Nat)(Y:LV)(E i:Nat)(A:aJ)(T:List aJ)(N J U:Nat):aC:=⟨[(D,kS P Jt Aq o),(av,aq aB e),(I,eY i),(l,aq Y E)]++A,T,N,J,[],U⟩
theorem TG {F:Nat}{g:d}(hv:Y[i]? =some (.ref a))(h0:g.length<=100000)(h1:x.length<=100000)(h2:aB.length<=100000):aE w (pW w.P F D av I I0 K q q1 G) p (aA (lM w.P F D av I)) (mK w.P D av I l none aB e Y E i [(a,aq [Z g tg,Z x tx] ea)] [] N J U) (.ok (.again (lM w.P F D av I))) yj (mK w.P D av I l (some ((J,(Z g tg)),((J+1),(Z x tx)))) (aB++[bE (O (g.length+x.length)) (J+6)]) (e+1) Y E (i+1) [(a,aq [Z g tg,Z x tx] ea)] [] (N+3) (J+7) U):=
 by revert w;exact @(dI 0x7615c572f7bdd51a92a54a79ef7a9c7 (λw=>[c9 w [2,2] I l E hv,c9 w [0,4] N a (i:=0) ea (Y:=[(Z g tg),(Z x tx)]) (v:=Z g tg) rfl,c9 w [0,0] N a (i:=1) ea (Y:=[(Z g tg),(Z x tx)]) (v:=Z x tx) rfl,bZ w tg h0,bZ w tx h1,bR w [7] av e (.int (O (g.length+x.length)) (J+6)) h2]) [7,0,4,4,3])
theorem aeW {F:Nat}(hv:Y[i]? =none):aP w (pW w.P F D av I I0 K q q1 G) p (aA (lM w.P F D av I)) (mK w.P D av I l none aB e Y E i [] [] N J U) (.ok .next) (wA w.P D av I l none aB e Y E i [] [] (N+2) J U):=
 dJ 10695 [gz w [2,2] I l E hv] [4,4,2,2]
theorem TH {F:Nat}{g:d}(hv:Y[i]? =some (.ref a))(h0:g.length<=100000)(h1:x.length<=100000)(h2:aB.length<=100000):aE w (pW w.P F D av I I0 K q q1 G) p (aA (lM w.P F D av I)) (mK w.P D av I l (some ((k0,v0),(H,v1))) aB e Y E i [(a,aq [Z g tg,Z x tx] ea)] [] N J U) (.ok (.again (lM w.P F D av I))) yj (mK w.P D av I l (some ((k0,(Z g tg)),(H,(Z x tx)))) (aB++[bE (O (g.length+x.length)) (J+6)]) (e+1) Y E (i+1) [(a,aq [Z g tg,Z x tx] ea)] [] (N+3) (J+7) U):=
 by revert w;exact @(dI 0x7615c572f7bdd51a92a54a79ef7a9c7 (λw=>[c9 w [2,2] I l E hv,c9 w [0,4] N a (i:=0) ea (Y:=[(Z g tg),(Z x tx)]) (v:=Z g tg) rfl,c9 w [0,0] N a (i:=1) ea (Y:=[(Z g tg),(Z x tx)]) (v:=Z x tx) rfl,bZ w tg h0,bZ w tx h1,bR w [7] av e (.int (O (g.length+x.length)) (J+6)) h2]) [7,0,4,4,3])
theorem TI {F:Nat}(hv:Y[i]? =none):aP w (pW w.P F D av I I0 K q q1 G) p (aA (lM w.P F D av I)) (mK w.P D av I l (some ((k0,v0),(H,v1))) aB e Y E i [] [] N J U) (.ok .next) (wA w.P D av I l (some ((k0,v0),(H,v1))) aB e Y E i [] [] (N+2) J U):=
 dJ 10695 [gz w [2,2] I l E hv] [4,4,2,2]
theorem TJ (ej:V.M.den=den){ae:bL}(hq:ae.quiet=true)(cv:Γ.goto ae=Γ){ao:Type}(Sg Sh:ao->LV->Nat->Nat->Nat->Nat->aC)(R:α->LV->Prop)(turn:∀i x o aB e N J p,x∈xs->xs[i]? =some x->aB.length<=i->∃o' v' e' N' au p',R x v'/\v'.length<=1/\ax V Γ p (den ae) (Sg o aB e i N J) (.ok (.again ae)) p' (Sg o' (aB++v') e' (i+1) N' au))(stop:∀o aB e N J p,∃N' au,cW V Γ p (den ae) (Sg o aB e xs.length N J) (.ok .next) (Sh o aB e xs.length N' au)):∀(m i:Nat) (o:ao) (aB:LV) (e N J:Nat) (p:aw),i+m=xs.length->aB.length<=i-> ∃o' dg e' N' au,jr R (xs.drop i) dg/\cW V Γ p (den ae) (Sg o aB e i N J) (.ok .next) (Sh o' (aB++dg.flatten) e' xs.length N' au):=by
 intro m
 induction m with
 |zero=>
  intro i o aB e N J p hi _
  have hi:i=xs.length:=by lia
  subst hi
  refine fK (stop o aB e N J p) λN' au h=>
   ll o [] e N' au (by rw [u8];exact .nil) (by rw [ce,bk];exact h)
 |succ m aS=>
  intro i o aB e N J p hi ho
  have bw:i<xs.length:=by lia
  refine nc (turn i xs[i] o aB e N J p (gt bw) (cm bw) ho) λo1 v1 e1 N1 be p1 hR hv h1=> ?_
  refine iT (aS (i+1) o1 (aB++v1) e1 N1 be p1 (by lia) (by rw [ci];lia)) λo2 dg e2 N2 eR hA h2=>
   ⟨o2,v1::dg,e2,N2,eR,by rw [fJ bw];exact .cons hR hA,by rw [ck,<-bK];exact ax.turn ej cv hq h1 h2⟩
theorem TK {f:α->Nat}(h:jr (λx v'=>∃t,v'=[.int (O (f x)) t]) xs dg):∃aO,dg.flatten=aY aO/\aO.map aD=xs.map f:=by
 induction h with
 |nil=>exact da [] rfl rfl
 | @cons x _ xs m h _ ih=>
  refine bX ih λaO e1 e2=>h.elim λt h=> ?_
  subst h
  exact da ((f x,t)::aO) (by rw [ck,e1];rfl) (by rw [bY,bY,e2])
variable {w:WB}
theorem Ds {x:PT}(h:ps[i]? =some x):(bm ps)[i]? =some (.ref x.a):=by delta bm;rw [iv,h];rfl
noncomputable def bF (v left step:Int):az:=rec "range_iterator" [.int v 0,.int left 0,.int step 0]
theorem Ju (I:Nat)(v left step v' Jv:Int)(h0:0<left)(h1:v'=v+step)(h2:Jv=left-1):Bi (VV w) 0 (bV false "range_iterator.__next__" ⟨[.ref I],[]⟩) [(I,bF v left step)] (λ_=>[(I,bF v' Jv step)]) (λ_ t=> .ok (.ret (.int v t))) 0 1:=by
 subst h1 h2
 refine dO λA s _ _ _ _ R=>dX (by decide+kernel) F.entry_range_iterator_next ?_
 have ho:=R.led _ (.head _)
 have up1:=R.upd (x:=(I,bF v left step)) (C':=cf [(I,bF (v+step) left step)] s) (f:=Obj.mapFields (·.setIfInBounds 0 (ft (v+step)))) (.refl _) (.refl _) rfl rfl bH
 have Jw:=up1.rep.upd (x:=(I,bF (v+step) left step)) (C':=cf [(I,bF (v+step) (left-1) step)] s) (f:=Obj.mapFields (·.setIfInBounds 1 (ft (left-1)))) (.refl _) (.refl _) rfl rfl bH
 have mL:=up1.rep.led _ (.head _)
 have J:=Jw.rep.tick (C':=⟨[(I,bF (v+step) (left-1) step)],[],s.heap.objs.size,s.toks+1,[],s.gens.size⟩) 1 rfl rfl bH
 show wpAny (model _ _) _ (field (.ref I) 0>>=_) _ _ s
 refine bf (fI ho rfl rfl ?_)
 show wpAny _ _ (field (.ref I) 1>>=_) _ _ s
 refine bf (fI ho rfl rfl ?_)
 show wpAny _ _ (field (.ref I) 2>>=_) _ _ s
 refine bf (fI ho rfl rfl ?_)
 show wpAny _ _ (if left<=0 then _ else _) _ _ s
 refine wpAny_ite_false (decide_eq_false (by lia)) ?_
 refine bf (wpAny_setField ho rfl (by show 0<3;decide) ?_)
 refine bf (wpAny_setField mL rfl (by show 1<3;decide) ?_)
 exact bf (wpAny_mkInt (dh ⟨rfl,(up1.trans Jw).trans J⟩))
noncomputable def eV (w:WB)(aH:d)(I n m:Nat):aM w:= .bi _ _ _ _ aH _ _ _ _ _ (Ju I (O n) (O (m+1)) 1 _ _ (by show(0:Int)<((m+1:Nat):Int);lia) (by show((n+1:Nat):Int)=(n:Int)+1;lia) (by show((m:Nat):Int)=((m+1:Nat):Int)-1;lia))
noncomputable def nF (w:WB)(aH:d)(I n m:Nat):aM w:= .bi _ _ _ _ aH _ _ _ _ _ (Ju I (O (n+1)) (O (m+1)) (cJ 0) _ _ (by show(0:Int)<((m+1:Nat):Int);lia) (by show((n:Nat):Int)=((n+1:Nat):Int)+cJ 0;lia) (by show((m:Nat):Int)=((m+1:Nat):Int)-1;lia))
theorem bi_ieq (a b:Int)(ta tb:Nat):Bi (VV w) 0 (bV true "int.__eq__" ⟨[.int a ta,.int b tb],[]⟩) [] (λ_=>[]) (λ_ _=> .ok (.ret (.bool (a==b)))) 0 0:=
 nu (aT w) 100 0 [] (by intro hd own past below p N J U;kernel_rfl)
noncomputable def cR (w:WB){a b:Int}(ta tb:Nat){r:Bool}(h:(a==b)=r):aM w:= .bi _ _ _ _ [] _ _ _ _ _ (h▸bi_ieq a b ta tb)
theorem TL (a b:Int)(ta tb:Nat):Bi (VV w) 0 (bV true "int.__sub__" ⟨[.int a ta,.int b tb],[]⟩) [] (λ_=>[]) (λ_ t=> .ok (.ret (.int (a-b) t))) 0 1:=
 nu (aT w) 100 0 [] (by intro hd own past below p N J U;kernel_rfl)
noncomputable def gD (w:WB)(m k n:Nat)(ta tb:Nat)(h:m=n+k):aM w:=
 .bi true 0 "int.__sub__" ⟨[.int (O m) ta,.int (O k) tb],[]⟩ [] [] (λ_=>[]) (λ_ t=> .ok (.ret (.int (O n) t))) 0 1 (by
  have am:=TL (w:=w) (O m) (O k) ta tb
  rw [show O m-O k=O n from by subst h;show((n+k:Nat):Int)-(k:Int)=(n:Int);lia]at am
  exact am)
noncomputable def ug (w:WB)(aH:d)(sl l e tb:Nat){Y:LV}(hi:Nat)(h:Y.length<=100000):aM w:= .bi _ _ _ _ aH _ _ _ _ _ (CS sl l e 0 tb Y none (some hi) h)
noncomputable def TM (w:WB)(aH:d)(sl l e ta:Nat){Y:LV}(lo:Nat)(h:Y.length<=100000):aM w:= .bi _ _ _ _ aH _ _ _ _ _ (CS sl l e ta 0 Y (some lo) none h)
noncomputable def fQ (w:WB)(aH:d)(sl l e ta tb:Nat){Y:LV}(lo hi:Nat)(h:Y.length<=100000):aM w:= .bi _ _ _ _ aH _ _ _ _ _ (CS sl l e ta tb Y (some lo) (some hi) h)
def aeX (w:WB)(K D av I l E U N J e' N' au i':Nat)(Y aO:LV)(kv:Nat×ay)(p q:aw):Prop:=
 aP w (pR w.P K D av I (cO w.P K q)) p ((VV w).M.den (mI w.P K D av I)) (i6 w.P [120] D av I l none [] 0 Y E 0 N J U) (.ok .next) (oB w.P [120] D av I l (some kv) aO e' Y E i' N' au U)
section
open PySem.Builtin.Range
noncomputable def pX (a:Int)(ta:Nat)(b:Int)(tb:Nat)(c:Int)(tc:Nat):az:=rec "range" [.int a ta,.int b tb,.int c tc]
theorem Jx (R:Nat)(a b c n:Int)(ta tb tc:Nat)(hn:rangeSize a b c=n)(hs:(rangeFitsLong a&&rangeFitsLong b&&rangeFitsLong c&&rangeFitsLong n&&(n==0||(if c>0 then rangeFitsLong (b+(c-1))else rangeFitsLong (b+(c+1)))))=true):Bi (VV w) 0 (bV false "range.__iter__" ⟨[.ref R],[]⟩) [(R,pX a ta b tb c tc)] (λN=>[(N,bF a n c),(R,pX a ta b tb c tc)]) (λN _=> .ok (.ret (.ref N))) 1 0:=by
 intro Γ p N J U cv _
 rw [aT]
 show cW _ _ _ (aA (.builtin "range.__iter__" ⟨[.ref R],[]⟩)) _ _ _
 rw [pT (B:=Builtin.«range.__iter__») (kK (by kernel_rfl))]
 show cW _ _ _ (rangeFields (.ref R)>>=_) _ _ _
 refine ax.c6 (x:=(a,b,c)) (p₁:=p) (bq:=⟨[(R,pX a ta b tb c tc)],[],N,J,[],U⟩) (ax.of (aT w) (n:=100) (m:=10) 21 [] [0] [] [] (by kernel_rfl)) ?_
 subst hn
 dsimp only
 rw [hs]
 exact ax.c6 (x:= .ref N) (p₁:=p) (bq:=⟨[(N,bF a (rangeSize a b c) c),(R,pX a ta b tb c tc)],[],N+1,J,[],U⟩) (ax.of (aT w) (n:=100) (m:=10) 0 [] [0,0] [] [] (by kernel_rfl)) ax.pure.done
theorem wB (h:n<=1000000):rangeFitsLong (O n)=true:=by
 delta rangeFitsLong
 rw [decide_eq_true (by show-(2^63)<=(n:Int);lia),decide_eq_true (by show(n:Int)<2^63;lia)]
 rfl
noncomputable def gE (w:WB)(aH:d)(R:Nat){a b n:Nat}(ta tb tc:Nat)(h:b=a+n)(hb:b<=1000000):aM w:=
 .bi false 0 "range.__iter__" ⟨[.ref R],[]⟩ aH [(R,pX (O a) ta (O b) tb 1 tc)] (λN=>[(N,bF (O a) (O n) 1),(R,pX (O a) ta (O b) tb 1 tc)]) (λN _=> .ok (.ret (.ref N))) 1 0
  (Jx R (O a) (O b) 1 (O n) ta tb tc (by
   subst h
   delta rangeSize
   rw [if_pos (by decide)]
   by_cases q:n=0
   ·subst q;rw [if_neg (by simp)];rfl
   ·rw [if_pos (by show(a:Int)<((a+n:Nat):Int);lia)]
    show(((a+n:Nat):Int)-(a:Int)-1)/1+1=(n:Int)
    lia) (by
   rw [wB (by lia),wB hb,wB (by lia),show rangeFitsLong 1=true by decide,if_pos (by decide),show O b+(1-1)=O b by lia,wB hb]
   simp))
end
section
open PySem.SeqAt
theorem TN (a b e e2:Nat)(us Y:LV)(hl:us.length=Y.length)(f:Nat->Bool)(he:∀(A:Around) (s:bI) j (h1:j<us.length) (h2:j<Y.length),EqAt A s us[j] Y[j] (f j)):Bi (VV w) 0 (bV false "list.__eq__" ⟨[.ref a,.ref b],[]⟩) [(a,aq us e),(b,aq Y e2)] (λ_=>[(a,aq us e),(b,aq Y e2)]) (λ_ _=> .ok (.ret (.bool ((BV us.length).all f)))) 0 0:=by
 refine dO λA s _ _ _ _ R=>dX (by decide+kernel) F.entry_list_eq ?_
 have ha:=R.led _ (.head _)
 have hb:=R.led _ (.tail _ (.head _))
 exact list_eqAt a b ⟨us⟩ ⟨Y⟩ e e2 none none #[] #[] hl f _ _ A (λr s'=>r= .ok (.ret (.bool ((BV us.length).all f)))/\Good (VV w) (cf [(a,aq us e),(b,aq Y e2)] s) ⟨[(a,aq us e),(b,aq Y e2)],[],s.heap.objs.size,s.toks,[],s.gens.size⟩ s s') s ⟨ha,hb,λj h1 h2=>he A.in1 s j h1 h2,rfl,.refl R⟩
theorem TO (a b e e2:Nat)(us Y:LV)(hl:us.length≠Y.length):Bi (VV w) 0 (bV false "list.__eq__" ⟨[.ref a,.ref b],[]⟩) [(a,aq us e),(b,aq Y e2)] (λ_=>[(a,aq us e),(b,aq Y e2)]) (λ_ _=> .ok (.ret (.bool false))) 0 0:=by
 refine dO λA s _ _ _ _ R=>dX (by decide+kernel) F.entry_list_eq ?_
 have ha:=R.led _ (.head _)
 have hb:=R.led _ (.tail _ (.head _))
 exact list_eq_lengthsAt a b ⟨us⟩ ⟨Y⟩ e e2 none none #[] #[] (by simpa using hl) _ _ A (λr s'=>r= .ok (.ret (.bool false))/\Good (VV w) (cf [(a,aq us e),(b,aq Y e2)] s) ⟨[(a,aq us e),(b,aq Y e2)],[],s.heap.objs.size,s.toks,[],s.gens.size⟩ s s') s ⟨ha,hb,rfl,.refl R⟩
def jy (us Y:LV)(r:Bool):Prop:=∀(w:WB) (a b e e2:Nat),Bi (VV w) 0 (bV false "list.__eq__" ⟨[.ref a,.ref b],[]⟩) [(a,aq us e),(b,aq Y e2)] (λ_=>[(a,aq us e),(b,aq Y e2)]) (λ_ _=> .ok (.ret (.bool r))) 0 0
noncomputable def mM (w:WB)(aH:d)(a b e e2:Nat){us Y:LV}{r:Bool}(h:jy us Y r):aM w:= .bi _ _ _ _ aH _ _ _ _ _ (h w a b e e2)
theorem Jy [BEq β] [LawfulBEq β](val:α->ay)(key:α->β)(hk:∀(A:Around) (s:bI) (x y:α),EqAt A s (val x) (val y) (key x==key y))(xs ys:List α):jy (xs.map val) (ys.map val) (xs.map key==ys.map key):=by
 intro w a b e e2
 by_cases hl:xs.length=ys.length
 ·have am:=TN (w:=w) a b e e2 (xs.map val) (ys.map val) (by simpa using hl) (λj=>match xs[j]?,ys[j]? with|some x,some y=>key x==key y|_,_=>true) (λA s j h1 h2=>by
   have pY:j<xs.length:=by simpa using h1
   have uh:j<ys.length:=by simpa using h2
   rw [cm pY,cm uh,BW,BW]
   exact hk A s _ _)
  have e1:((BV (xs.map val).length).all λj=>match xs[j]?,ys[j]? with|some x,some y=>key x==key y|_,_=>true)=(xs.map key==ys.map key):=by
   rw [bA,r6,o5,beq_iff_eq]
   constructor
   ·intro h
    apply List.ext_getElem
    ·simpa using hl
    ·intro j h1 h2
     have pY:j<xs.length:=by simpa using h1
     have uh:j<ys.length:=by simpa using h2
     have:=h j (List.mem_range.mpr pY)
     rw [cm pY,cm uh]at this
     rw [BW,BW]
     exact beq_iff_eq.mp this
   ·intro h j hj
    have pY:j<xs.length:=List.mem_range.mp hj
    have uh:j<ys.length:=hl▸pY
    rw [cm pY,cm uh]
    have e3:=congrArg (λl=>l[j]?) h
    simp only [iv,cm pY,cm uh,M3,dv.injEq]at e3
    exact beq_iff_eq.mpr e3
  rw [e1]at am
  exact am
 ·have e1:(xs.map key==ys.map key)=false:=by
   refine beq_eq_false_iff_ne.mpr λq=>hl ?_
   have:=congrArg dn q
   simpa using this
  rw [e1]
  exact TO a b e e2 _ _ (by simpa using hl)
theorem Jz (xs ys:cC):jy (aY xs) (aY ys) (xs.map aD==ys.map aD):=
 Jy (λx:Nat×Nat=> .int (O x.1) x.2) aD (λA s x y=>by
  have h:=EqAt.int_int (A:=A) (s:=s) (O x.1) x.2 (O y.1) y.2
  have e:(O x.1==O y.1)=(x.1==y.1):=by
   rw [r6,beq_iff_eq,beq_iff_eq]
   exact Int.ofNat_inj
  rw [e]at h
  exact h) xs ys
theorem TQ (xs ys:bB):jy (aR xs) (aR ys) (xs.map aD==ys.map aD):=
 Jy (λx:d×Nat=>Z x.1 x.2) aD (λA s x y=>by
  have h:=EqAt.str_str (A:=A) (s:=s) ⟨⟨x.1⟩⟩ x.2 ⟨⟨y.1⟩⟩ y.2
  have e:((⟨⟨x.1⟩⟩:Str)==⟨⟨y.1⟩⟩)=(x.1==y.1):=by
   rw [r6,beq_iff_eq,beq_iff_eq]
   constructor
   ·intro q;injection q with q;injection q
   ·intro q;rw [q]
  rw [e]at h
  exact h) xs ys
end
section
open PySem.SeqAt
theorem JA (a:d)(c:Nat)(ta tb:Nat):Bi (VV w) 0 (bV true "str.__getitem__" ⟨[Z (a++[c]) ta,.int (cJ 0) tb],[]⟩) [] (λ_=>[]) (λ_ t=> .ok (.ret (Z [c] t))) 0 1:=by
 refine Ik (aT w) (by decide+kernel) (by kernel_rfl) entry_str_getitem (gives_str_getitem ⟨⟨a++[c]⟩⟩ (cJ 0) ta tb c ?_ ?_) (by show 1<=2^24;decide)
 ·decide
 ·have e1:seqIndex? (cJ 0) (a++[c]).length=some a.length:=by
   have hz:(a++[c]).length=a.length+1:=by simp
   rw [hz]
   delta seqIndex?
   have hj:(cJ 0:Int)+((a.length+1:Nat):Int)=(a.length:Int):=by lia
   simp only [show(cJ 0:Int)<0 from by decide,if_true,hj]
   rw [if_pos (by simp;lia)]
   rfl
  show(seqIndex? (cJ 0) (a++[c]).length).bind _=some c
  rw [e1]
  show(⟨a++[c]⟩:Array Nat)[a.length]? =some c
  simp
noncomputable def As (w:WB)(a:d)(c:Nat)(ta tb:Nat):aM w:= .bi _ _ _ _ [] _ _ _ _ _ (JA a c ta tb)
def jz (us Y:LV)(r:Bool):Prop:=∀(w:WB) (a b e e2:Nat),Bi (VV w) 0 (bV false "list.__ne__" ⟨[.ref a,.ref b],[]⟩) [(a,aq us e),(b,aq Y e2)] (λ_=>[(a,aq us e),(b,aq Y e2)]) (λ_ _=> .ok (.ret (.bool r))) 0 0
noncomputable def jA (w:WB)(aH:d)(a b e e2:Nat){us Y:LV}{r:Bool}(h:jz us Y r):aM w:= .bi _ _ _ _ aH _ _ _ _ _ (h w a b e e2)
theorem jB (us:LV):jz us [] (!us.isEmpty):=by
 intro w a b e e2
 refine dO λA s _ _ _ _ R=>dX (by decide+kernel) F.entry_list_ne ?_
 have ha:=R.led _ (.head _)
 have hb:=R.led _ (.tail _ (.head _))
 cases us with
 |nil=>exact list_neAt a b ⟨[]⟩ ⟨[]⟩ e e2 none none #[] #[] rfl (λ_=>true) _ _ A (λr s'=>r= .ok (.ret (.bool false))/\Good (VV w) (cf [(a,aq [] e),(b,aq [] e2)] s) ⟨[(a,aq [] e),(b,aq [] e2)],[],s.heap.objs.size,s.toks,[],s.gens.size⟩ s s') s ⟨ha,hb,λj h1 h2=>absurd h1 (BO _),rfl,.refl R⟩
 |cons u us=>exact list_ne_lengthsAt a b ⟨u::us⟩ ⟨[]⟩ e e2 none none #[] #[] (by simp) _ _ A (λr s'=>r= .ok (.ret (.bool true))/\Good (VV w) (cf [(a,aq (u::us) e),(b,aq [] e2)] s) ⟨[(a,aq (u::us) e),(b,aq [] e2)],[],s.heap.objs.size,s.toks,[],s.gens.size⟩ s s') s ⟨ha,hb,rfl,.refl R⟩
open PySem PySem.W PySem.W.X PyProof.Rows PySem.Calls PySem.SeqAt
variable {w:WB}
theorem TS:entryFor table "tuple.__contains__"=some Builtin.«tuple.__contains__»:=kK (by kernel_rfl)
theorem TT (l:Nat)(x y am:d)(t1 t2 t:Nat):Bi (VV w) 0 (bV false "tuple.__contains__" ⟨[.ref l,Z am t],[]⟩) [(l,aG [Z x t1,Z y t2])] (λ_=>[(l,aG [Z x t1,Z y t2])]) (λ_ _=> .ok (.ret (.bool ((x==am)||(y==am))))) 0 0:=by
 refine dO λA s _ _ _ _ R=>dX (by decide+kernel) TS ?_
 have ha:=R.led _ (.head _)
 have hE:∀(v:ay),v∈(#[Z x t1,Z y t2]:Array ay)->EqAt A.in1 s v (Z am t) (match v with| .str q _=>q==⟨⟨am⟩⟩|_=>false):=by
  intro v hv
  have TV:v=Z x t1\/v=Z y t2:=by simpa using hv
  rcases TV with rfl|rfl
  ·exact EqAt.str_str _ _ _ _
  ·exact EqAt.str_str _ _ _ _
 have e:∀(q:d),((⟨⟨q⟩⟩:Str)==⟨⟨am⟩⟩)=(q==am):=by
  intro q
  rw [r6,beq_iff_eq,beq_iff_eq]
  constructor
  ·intro q;injection q with q;injection q
  ·intro q;rw [q]
 have h2:(#[Z x t1,Z y t2]:Array ay).any (λv=>match v with| .str q _=>q==⟨⟨am⟩⟩|_=>false)=((x==am)||(y==am)):=by
  rw [<-e x,<-e y]
  simp [Z]
 exact tuple_containsAt l #[Z x t1,Z y t2] 0 none #[] (Z am t) _ _ _ A (λr s'=>r= .ok (.ret (.bool ((x==am)||(y==am))))/\Good (VV w) (cf [(l,aG [Z x t1,Z y t2])] s) ⟨[(l,aG [Z x t1,Z y t2])],[],s.heap.objs.size,s.toks,[],s.gens.size⟩ s s') s ⟨ha,hE,by rw [h2],.refl R⟩
noncomputable def wC (w:WB)(aH:d)(l:Nat){x y am:d}(t1 t2 t:Nat){r:Bool}(h:((x==am)||(y==am))=r):aM w:= .bi _ _ _ _ aH _ _ _ _ _ (h▸TT l x y am t1 t2 t)
end
noncomputable def ba (v:Option ay):az:={cls:= .type "cell",data:= .cell v}
def wD (w:WB)(F D av I I0 K l E U N J e' N' au i':Nat)(Y aO:LV)(o':eP)(S:aJ)(p q q1 G:aw):Prop:=
 aP w (pW w.P F D av I I0 K q q1 G) p ((VV w).M.den (lM w.P F D av I)) (mK w.P D av I l none [] 0 Y E 0 [] [S] N J U) (.ok .next) (wA w.P D av I l o' aO e' Y E i' [] [S] N' au U)
noncomputable def gO (w:WB)(aH bt:d){F D av I I0 K l E U N J e' N' au i':Nat}{Y aO:LV}{kv:NV×NV}{S:aJ}{p q q1 G:aw}(h:wD w F D av I I0 K l E U N J e' N' au i' Y aO (some kv) S p q q1 G):aM w:= .fn _ _ aH bt [] _ _ _ h
def wE (w:WB)(I S l E N J U ta n t' au:Nat)(aL:LV)(i':Nat)(B:b9)(p:aw):Prop:=
 aP w ⟨sumK I S,none,none,B,none⟩ p ((VV w).M.den (sumK I S)) (js S 0 ta 0 (wn I l 0 E aL N J U)) (.ok (.ret (.int (O n) t'))) (js S (O n) t' 0 (C9 I l i' E aL (N+2) au U))
noncomputable def gP (w:WB)(aH:d){I S l E N J U ta n t' au:Nat}{aL:LV}{i':Nat}{B:b9}{p:aw}(h:wE w I S l E N J U ta n t' au aL i' B p):aM w:= .fn _ _ aH [] [] _ _ _ h
noncomputable def JB (P:aF):Expr:=jO (dW (inner (dW (inner (Dq P)) 3)) 0)
noncomputable def TW (P:aF)(F D:Nat):Env:=Dm (JB P) (Ap P F) D
noncomputable def ey (P:aF)(F D av I ah:Nat):bL:= .compLoop (JB P) ah (.ref I) (.ref av) (TW P F D)
noncomputable def Dt (P:aF)(F I0 K:Nat)(q q1 G:aw):b9:=(cA P F I0,q1)::Dr P F K q G
noncomputable def nG (P:aF)(F D av I1 I2 I0 K:Nat)(q q1 G q3:aw):bd:=⟨ey P F D av I2 1,none,none,(ey P F D av I1 0,q3)::Dt P F I0 K q q1 G,none⟩
noncomputable def pZ (P:aF)(F D av I1 I0 K:Nat)(q q1 G:aw):bd:=⟨ey P F D av I1 0,none,none,Dt P F I0 K q q1 G,none⟩
noncomputable def JC:d:=[114,97,110,107]
noncomputable def JD:d:=[97,116]
noncomputable def fa (P:aF)(kr rk tr:Nat):Option (Nat×ay)->az
 |none=>fU [de P JC kr (.int (O rk) tr)] 1
 |some x=>fU [de P JC kr (.int (O rk) tr),de P JD x.1 x.2] 2
noncomputable def dD (F av M E ts:Nat)(Y:LV)(sg:d)(D:Addr×az)(aB:LV)(e:Nat)(I:Addr×az)(A:aJ)(T:List aJ)(N J U:Nat):aC:=
 ⟨[D,(av,aq aB e),I,(F+1,ba (some (.ref M))),(F+2,ba (some (Z sg ts))),(M,aq Y E)]++A,T,N,J,[],U⟩
section
variable {F M len:Nat}{g1 x1 g2:d}(ha:Y[at_+1]? =some (.ref a))(hb:Y[at_]? =some (.ref b))(hn:at_+1<=100000)(hm:at_<=100000)(h1:rk<100000)(h2:sg[rk]? =some c0)
include ha hb hn hm h1 h2
theorem TX (h3:([c]==[c0]||[ah]==[c0])=true)(h4:aB.length<=100000):aE w (nG w.P F D av I1 I2 I0 K q q1 G q3) p (aA (ey w.P F D av I2 1)) (dD F av M E ts Y sg (D,fa w.P kr rk tr none) aB e (I2,bF (O (at_+1)) (O (len+1)) 1) [(a,aq [Z (c::g1) aX,Z x1 ev] ea),(b,aq [Z g2 bg,Z (x2++[ah]) bO] eb)] [] N J U) (.ok (.again (ey w.P F D av I2 1))) ⟨894,30,894,32⟩ (dD F av M E ts Y sg (D,fa w.P kr rk tr (some ((J+1),(.int (O (at_+1)) J)))) (aB++[.ref (N+1)]) (e+1) (I2,bF (O (at_+1+1)) (O len) 1) [(a,aq [Z (c::g1) aX,Z x1 ev] ea),(b,aq [Z g2 bg,Z (x2++[ah]) bO] eb),((N+1),aG [.int (-O rk) (J+12),.int (O (at_+1)) J])] [] (N+2) (J+13) U):=
 w1 0x1da64d4a876def68c318d5cd375ef7669ce635a378c69c7 [eV w [2] I2 (at_+1) len,jP w _ _ _ ts tr h1 h2,ja w [5] M E J hn ha,ja w [6] a ea (n:=0) (J+3) (Y:=[(Z (c::g1) aX),(Z x1 ev)]) (v:=Z (c::g1) aX) (by decide) rfl,jP w (c::g1) 0 c aX (J+4) (by decide) rfl,gD w (at_+1) 1 at_ J (J+6) rfl,ja w [1] M E (J+7) hm hb,ja w [7] b eb (n:=1) (J+8) (Y:=[(Z g2 bg),(Z (x2++[ah]) bO)]) (v:=Z (x2++[ah]) bO) (by decide) rfl,As w x2 ah bO (J+10),wC w [0] N (J+5) (J+11) (J+2) h3,bR w [7] av e (.ref (N+1)) h4] [7,0,5,5,5,3,3,2,0]
theorem TY (h3:([c]==[c0]||[ah]==[c0])=false):aE w (nG w.P F D av I1 I2 I0 K q q1 G q3) p (aA (ey w.P F D av I2 1)) (dD F av M E ts Y sg (D,fa w.P kr rk tr none) aB e (I2,bF (O (at_+1)) (O (len+1)) 1) [(a,aq [Z (c::g1) aX,Z x1 ev] ea),(b,aq [Z g2 bg,Z (x2++[ah]) bO] eb)] [] N J U) (.ok (.again (ey w.P F D av I2 1))) ⟨894,102,894,156⟩ (dD F av M E ts Y sg (D,fa w.P kr rk tr (some ((J+1),(.int (O (at_+1)) J)))) aB e (I2,bF (O (at_+1+1)) (O len) 1) [(a,aq [Z (c::g1) aX,Z x1 ev] ea),(b,aq [Z g2 bg,Z (x2++[ah]) bO] eb)] [] (N+1) (J+12) U):=
 w1 0x14a876def68c318d5cd375ef7669ce635a378c69c7 [eV w [2] I2 (at_+1) len,jP w _ _ _ ts tr h1 h2,ja w [5] M E J hn ha,ja w [6] a ea (n:=0) (J+3) (Y:=[(Z (c::g1) aX),(Z x1 ev)]) (v:=Z (c::g1) aX) (by decide) rfl,jP w (c::g1) 0 c aX (J+4) (by decide) rfl,gD w (at_+1) 1 at_ J (J+6) rfl,ja w [1] M E (J+7) hm hb,ja w [7] b eb (n:=1) (J+8) (Y:=[(Z g2 bg),(Z (x2++[ah]) bO)]) (v:=Z (x2++[ah]) bO) (by decide) rfl,As w x2 ah bO (J+10),wC w [0] N (J+5) (J+11) (J+2) h3] [5,5,4,4,4,2,2,1]
end
theorem TZ {F M:Nat}:aP w (nG w.P F D av I1 I2 I0 K q q1 G q3) p (aA (ey w.P F D av I2 1)) (dD F av M E ts Y sg (D,fa w.P kr rk tr none) aB e (I2,bF (O at_) (O 0) 1) [] [] N J U) (.ok .next) (dD F av M E ts Y sg (D,fa w.P kr rk tr none) aB e (I2,(rec "range_iterator" [(.int (O at_) 0),(.int 0 0),(.int 1 0)])) [] [] (N+2) J U):=
 dJ 164524487 [] [2,2,2,2,2,2]
section
variable {F M len:Nat}{g1 x1 g2:d}(ha:Y[at_+1]? =some (.ref a))(hb:Y[at_]? =some (.ref b))(hn:at_+1<=100000)(hm:at_<=100000)(h1:rk<100000)(h2:sg[rk]? =some c0)
include ha hb hn hm h1 h2
theorem Ua (h3:([c]==[c0]||[ah]==[c0])=true)(h4:aB.length<=100000):aE w (nG w.P F D av I1 I2 I0 K q q1 G q3) p (aA (ey w.P F D av I2 1)) (dD F av M E ts Y sg (D,fa w.P kr rk tr (some (ka,va))) aB e (I2,bF (O (at_+1)) (O (len+1)) 1) [(a,aq [Z (c::g1) aX,Z x1 ev] ea),(b,aq [Z g2 bg,Z (x2++[ah]) bO] eb)] [] N J U) (.ok (.again (ey w.P F D av I2 1))) ⟨894,30,894,32⟩ (dD F av M E ts Y sg (D,fa w.P kr rk tr (some (ka,(.int (O (at_+1)) J)))) (aB++[.ref (N+1)]) (e+1) (I2,bF (O (at_+1+1)) (O len) 1) [(a,aq [Z (c::g1) aX,Z x1 ev] ea),(b,aq [Z g2 bg,Z (x2++[ah]) bO] eb),((N+1),aG [.int (-O rk) (J+12),.int (O (at_+1)) J])] [] (N+2) (J+13) U):=
 w1 0x1da64d4a876def68c318d5cd375ef7669ce635a378c69c7 [eV w [2] I2 (at_+1) len,jP w _ _ _ ts tr h1 h2,ja w [5] M E J hn ha,ja w [6] a ea (n:=0) (J+3) (Y:=[(Z (c::g1) aX),(Z x1 ev)]) (v:=Z (c::g1) aX) (by decide) rfl,jP w (c::g1) 0 c aX (J+4) (by decide) rfl,gD w (at_+1) 1 at_ J (J+6) rfl,ja w [1] M E (J+7) hm hb,ja w [7] b eb (n:=1) (J+8) (Y:=[(Z g2 bg),(Z (x2++[ah]) bO)]) (v:=Z (x2++[ah]) bO) (by decide) rfl,As w x2 ah bO (J+10),wC w [0] N (J+5) (J+11) (J+2) h3,bR w [7] av e (.ref (N+1)) h4] [7,0,5,5,5,3,3,2,0]
theorem Ub (h3:([c]==[c0]||[ah]==[c0])=false):aE w (nG w.P F D av I1 I2 I0 K q q1 G q3) p (aA (ey w.P F D av I2 1)) (dD F av M E ts Y sg (D,fa w.P kr rk tr (some (ka,va))) aB e (I2,bF (O (at_+1)) (O (len+1)) 1) [(a,aq [Z (c::g1) aX,Z x1 ev] ea),(b,aq [Z g2 bg,Z (x2++[ah]) bO] eb)] [] N J U) (.ok (.again (ey w.P F D av I2 1))) ⟨894,102,894,156⟩ (dD F av M E ts Y sg (D,fa w.P kr rk tr (some (ka,(.int (O (at_+1)) J)))) aB e (I2,bF (O (at_+1+1)) (O len) 1) [(a,aq [Z (c::g1) aX,Z x1 ev] ea),(b,aq [Z g2 bg,Z (x2++[ah]) bO] eb)] [] (N+1) (J+12) U):=
 w1 0x14a876def68c318d5cd375ef7669ce635a378c69c7 [eV w [2] I2 (at_+1) len,jP w _ _ _ ts tr h1 h2,ja w [5] M E J hn ha,ja w [6] a ea (n:=0) (J+3) (Y:=[(Z (c::g1) aX),(Z x1 ev)]) (v:=Z (c::g1) aX) (by decide) rfl,jP w (c::g1) 0 c aX (J+4) (by decide) rfl,gD w (at_+1) 1 at_ J (J+6) rfl,ja w [1] M E (J+7) hm hb,ja w [7] b eb (n:=1) (J+8) (Y:=[(Z g2 bg),(Z (x2++[ah]) bO)]) (v:=Z (x2++[ah]) bO) (by decide) rfl,As w x2 ah bO (J+10),wC w [0] N (J+5) (J+11) (J+2) h3] [5,5,4,4,4,2,2,1]
end
theorem Uc {F M:Nat}:aP w (nG w.P F D av I1 I2 I0 K q q1 G q3) p (aA (ey w.P F D av I2 1)) (dD F av M E ts Y sg (D,fa w.P kr rk tr (some (ka,va))) aB e (I2,bF (O at_) (O 0) 1) [] [] N J U) (.ok .next) (dD F av M E ts Y sg (D,fa w.P kr rk tr (some (ka,va))) aB e (I2,(rec "range_iterator" [(.int (O at_) 0),(.int 0 0),(.int 1 0)])) [] [] (N+2) J U):=
 dJ 164524487 [] [2,2,2,2,2,2]
theorem aK.look {L S R X af:aJ}(Q:aJ)(hp:S.Perm (X++R))(h:aK V ⟨L++X,[],N,J,ai,U⟩ ⟨L'++(X++af),[],N',au,G',br⟩ Φ):aK V ⟨L,[S,Q],N,J,ai,U⟩ ⟨L',[S,Q++af],N',au,G',br⟩ Φ:=
 aK.frame h (by
  simp only [aC.all,ck,ce,bk,bK]
  refine cg.append_left _ ((hp.append_right Q).trans ?_)
  rw [bK]) (by rw [bk]) bH (by
  simp only [aC.all,ck,ce,bk,bK]
  refine cg.append_left _ ((hp.append_right _).trans ?_)
  rw [bK]
  refine cg.append_left _ ?_
  rw [<-bK,<-bK af]
  rw [bK af]
  exact cY) (by rw [bk]) bH
structure PL where
 a:Nat
 rk:Nat
 at_:Nat
 t1:Nat
 t2:Nat
noncomputable def PL.ent (m:PL):Addr×az:=(m.a,aG [.int (-O m.rk) m.t1,.int (O m.at_) m.t2])
noncomputable def PL.key (m:PL):Nat×Nat:=(m.rk,m.at_)
noncomputable def dQ (ps:List PL):LV:=ps.map λm=> .ref m.a
noncomputable def nH (ks:b8)(c at_:Nat):Bool:=
 ((ks[at_]?.bind λk=>k.1.head?)==some c)||((ks[at_-1]?.bind λk=>k.2.getLast?)==some c)
theorem JE (l:List α)(i:Nat)(h:i+1<l.length):∃R,l.Perm ([l[i+1],l[i]]++R):=by
 refine⟨l.take i++l.drop (i+2),?_⟩
 have e:l=l.take i++(l[i]::l[i+1]::l.drop (i+2)):=by
  rw [<-fJ h,<-fJ mv,oa]
 refine(cg.of_eq e).trans ?_
 refine cY.trans ?_
 show(l[i]::l[i+1]::(l.drop (i+2)++l.take i)).Perm (l[i+1]::l[i]::(l.take i++l.drop (i+2)))
 exact(cg.swap _ _ _).trans (.cons _ (.cons _ cY))
variable {w:WB}
theorem Ud {F M:Nat}(dr:ps.length<=10000)(hw:∀i (h:i+1<ps.length),ps[i+1].g≠[]/\ps[i].x≠[])(hr:rk<100000)(hc:sg[rk]? =some c):∀(m n:Nat) {o:Option (Nat×ay)} {aB:LV} {e N J:Nat} {Q:aJ} {p:aw},n+1+m<=ps.length->aB.length+m<=100000-> ∃(o':Option (Nat×ay)) (os:List PL) (e' N' au:Nat),os.map PL.key=((jH (n+1) m).filter (nH (ps.map PT.key) c)).map (λat_=>(rk,at_))/\(m=0->o'=o)/\(m≠0->∃kv,o'=some kv)/\ aP w (nG w.P F D av I1 I2 I0 K q q1 G q3) p (aA (ey w.P F D av I2 1)) (dD F av M E ts (bm ps) sg (D,fa w.P kr rk tr o) aB e (I2,bF (O (n+1)) (O m) 1) [] [ps.map PT.ent,Q] N J U) (.ok .next) (dD F av M E ts (bm ps) sg (D,fa w.P kr rk tr o') (aB++dQ os) e' (I2,bF (O (n+1+m)) (O 0) 1) [] [ps.map PT.ent,Q++os.map PL.ent] N' au U):=by
 intro m
 induction m with
 |zero=>
  intro n o aB e N J Q p hn ho
  refine ke o [] e (N+2) J rfl (λ_=>rfl) (λh=>absurd rfl h) ?_
  have hz:dQ []=[]:=rfl
  rw [hz,n7,bk]
  refine aK.look (X:=[]) Q (cg.refl _) ?_
  cases o with
  |none=>exact TZ
  |some kv=>exact Uc
 |succ m aS=>
  intro n o aB e N J Q p hn ho
  have h1:n+1<ps.length:=by lia
  have h0:n<ps.length:=by lia
  refine dT (JE ps n h1) λR hR=> ?_
  have hR:=hR.map PT.ent
  rw [cx]at hR
  have ha:(bm ps)[n+1]? =some (.ref ps[n+1].a):=Ds (cm h1)
  have hb:(bm ps)[n]? =some (.ref ps[n].a):=Ds (cm h0)
  refine cB (hw n h1) λhg hx=>
   fK (xR hg) λc1 g1 eg=> ?_
  obtain⟨x2,ah,ex⟩:∃x2 ah,ps[n].x=x2++[ah]:=⟨_,_,(Gr hx).symm⟩
  have e1:PT.ent ps[n+1]=(ps[n+1].a,aq [Z (c1::g1) ps[n+1].tg,Z ps[n+1].x ps[n+1].tx] ps[n+1].e):=by delta PT.ent;rw [eg]
  have e2:PT.ent ps[n]=(ps[n].a,aq [Z ps[n].g ps[n].tg,Z (x2++[ah]) ps[n].tx] ps[n].e):=by delta PT.ent;rw [ex]
  simp only [bY,n7,e1,e2]at hR
  have hT:nH (ps.map PT.key) c (n+1)=([c1]==[c]||[ah]==[c]):=by
   have H:(ps.map PT.key)[n+1]? =some (ps[n+1].g,ps[n+1].x):=by rw [iv,cm h1];rfl
   have z:(ps.map PT.key)[n]? =some (ps[n].g,ps[n].x):=by rw [iv,cm h0];rfl
   delta nH
   rw [Nat.add_sub_cancel,H,z,eg,ex]
   simp
  cases hs:([c1]==[c]||[ah]==[c])with
  |true=>
   have key:∃kv p' be a t1 t2,aE w (nG w.P F D av I1 I2 I0 K q q1 G q3) p (aA (ey w.P F D av I2 1)) (dD F av M E ts (bm ps) sg (D,fa w.P kr rk tr o) aB e (I2,bF (O (n+1)) (O (m+1)) 1) [] [ps.map PT.ent,Q] N J U) (.ok (.again (ey w.P F D av I2 1))) p'
     (dD F av M E ts (bm ps) sg (D,fa w.P kr rk tr (some kv)) (aB++[.ref a]) (e+1) (I2,bF (O (n+1+1)) (O m) 1) [] [ps.map PT.ent,Q++[(a,aG [.int (-O rk) t1,.int (O (n+1)) t2])]] (N+2) be U):=by
    cases o with
    |none=>exact x6 _ _ _ _ _ _ (aK.look Q hR (TX ha hb (by lia) (by lia) hr hc hs (by lia)))
    |some kv=>exact x6 _ _ _ _ _ _ (aK.look Q hR (Ua ha hb (by lia) (by lia) hr hc hs (by lia)))
   refine x4 (key) λkv p' be a t1 t2 w1=> ?_
   refine ix (aS (n+1) (o:=some kv) (aB:=aB++[.ref a]) (e:=e+1) (N:=N+2) (J:=be) (Q:=Q++[(a,aG [.int (-O rk) t1,.int (O (n+1)) t2])]) (p:=p') (by lia) (by simp;lia)) λo' os e' N' au f1 f2 f3 f4=> ?_
   refine ke o' (⟨a,rk,n+1,t1,t2⟩::os) e' N' au ?_ (λh=>absurd h lq) (λ_=> ?_) ?_
   ·rw [uZ,mi,hT,hs,if_pos rfl,bY,bY,f1];rfl
   ·by_cases hm:m=0
    ·exact⟨_,f2 hm⟩
    ·exact f3 hm
   ·refine ax.turn (aT w) rfl (by kernel_rfl) w1 ?_
    rw [bK,bK,show n+1+1+m=n+1+(m+1)by lia]at f4
    exact f4
  |false=>
   have key:∃kv p' be,aE w (nG w.P F D av I1 I2 I0 K q q1 G q3) p (aA (ey w.P F D av I2 1)) (dD F av M E ts (bm ps) sg (D,fa w.P kr rk tr o) aB e (I2,bF (O (n+1)) (O (m+1)) 1) [] [ps.map PT.ent,Q] N J U) (.ok (.again (ey w.P F D av I2 1))) p'
     (dD F av M E ts (bm ps) sg (D,fa w.P kr rk tr (some kv)) aB e (I2,bF (O (n+1+1)) (O m) 1) [] [ps.map PT.ent,Q++[]] (N+1) be U):=by
    cases o with
    |none=>exact jh _ _ _ (aK.look Q hR (TY ha hb (by lia) (by lia) hr hc hs))
    |some kv=>exact jh _ _ _ (aK.look Q hR (Ub ha hb (by lia) (by lia) hr hc hs))
   refine kM (key) λkv p' be w1=> ?_
   rw [bk]at w1
   refine ix (aS (n+1) (o:=some kv) (aB:=aB) (e:=e) (N:=N+1) (J:=be) (Q:=Q) (p:=p') (by lia) mv) λo' os e' N' au f1 f2 f3 f4=>
    ke o' os e' N' au ?_ (λh=>absurd h lq) (λ_=> ?_) ?_
   ·rw [uZ,mi,hT,hs,if_neg (by decide),f1]
   ·by_cases hm:m=0
    ·exact⟨_,f2 hm⟩
    ·exact f3 hm
   ·refine ax.turn (aT w) rfl (by kernel_rfl) w1 ?_
    rw [show n+1+1+m=n+1+(m+1)by lia]at f4
    exact f4
def oF (w:WB)(F D av I1 I2 I0 K E U M kr tr ts rk n m e N J e' N' au:Nat)(Y:LV)(sg:d)(o o':Option (Nat×ay))(aB os:LV)(S Q Q':aJ)(p q q1 G q3:aw):Prop:=
 aP w (nG w.P F D av I1 I2 I0 K q q1 G q3) p ((VV w).M.den (ey w.P F D av I2 1)) (dD F av M E ts Y sg (D,fa w.P kr rk tr o) aB e (I2,bF (O n) (O m) 1) [] [S,Q] N J U) (.ok .next)
    (dD F av M E ts Y sg (D,fa w.P kr rk tr o') (aB++os) e' (I2,bF (O (n+m)) (O 0) 1) [] [S,Q'] N' au U)
noncomputable def JF (w:WB)(aH bt:d){F D av I1 I2 I0 K E U M kr tr ts rk n m e N J e' N' au:Nat}{Y:LV}{sg:d}{aB os:LV}{S Q Q':aJ}{p q q1 G q3:aw}(h:oF w F D av I1 I2 I0 K E U M kr tr ts rk n m e N J e' N' au Y sg none none aB os S Q Q' p q q1 G q3):aM w:= .fn _ _ aH bt [] _ _ _ h
noncomputable def Ue (w:WB)(aH bt:d){F D av I1 I2 I0 K E U M kr tr ts rk n m e N J e' N' au:Nat}{Y:LV}{sg:d}{i7:Nat×ay}{aB os:LV}{S Q Q':aJ}{p q q1 G q3:aw}(h:oF w F D av I1 I2 I0 K E U M kr tr ts rk n m e N J e' N' au Y sg none (some i7) aB os S Q Q' p q q1 G q3):aM w:= .fn _ _ aH bt [] _ _ _ h
noncomputable def Uf (w:WB)(aH bt:d){F D av I1 I2 I0 K E U M kr tr ts rk n m e N J e' N' au:Nat}{Y:LV}{sg:d}{kv i7:Nat×ay}{aB os:LV}{S Q Q':aJ}{p q q1 G q3:aw}(h:oF w F D av I1 I2 I0 K E U M kr tr ts rk n m e N J e' N' au Y sg (some kv) (some i7) aB os S Q Q' p q q1 G q3):aM w:= .fn _ _ aH bt [] _ _ _ h
section
variable {F M left:Nat}{S:aJ}(h1:bh=f+1+n0)(h2:bh<=1000000)
include h1 h2
theorem Ug (h8:oF w F D av I1 (N+1) I0 K E U M (J+1) J ts rk (f+1) n0 e (N+2) (J+5) pF fA fB Y sg none none aB z3 S Q zN jk q q1 G jk):aE w (pZ w.P F D av I1 I0 K q q1 G) p (aA (ey w.P F D av I1 0)) (dD F av M E ts Y sg (D,fU [] 0) aB e (I1,bF (O rk) (O (left+1)) 1) [(F+3,ba (some (.int (O bh) tb))),(F+4,ba (some (.int (O f) tf)))] [S,Q] N J U) (.ok (.again (ey w.P F D av I1 0))) jk (dD F av M E ts Y sg (D,fa w.P (J+1) rk J none) (aB++z3) pF (I1,bF (O (rk+1)) (O left) 1) [(F+3,ba (some (.int (O bh) tb))),(F+4,ba (some (.int (O f) tf)))] [S,zN] fA fB U):=
 by revert w;exact @(kN 0x292952a4a17360c69c7 0x952a4a17360c69c7 (λw h8=>[eV w [2] I1 rk left,gE w [0] N (J+3) tb (J+4) h1 h2,JF w [3,3,0,2,2,2] [0,0] h8]) [0,0,5,1,1,1,2,2] [0,0])
theorem Uh (h9:oF w F D av I1 (N+1) I0 K E U M (J+1) J ts rk (f+1) n0 e (N+2) (J+5) pF fA fB Y sg none (some tV) aB z4 S Q zO jk q q1 G jk):aE w (pZ w.P F D av I1 I0 K q q1 G) p (aA (ey w.P F D av I1 0)) (dD F av M E ts Y sg (D,fU [] 0) aB e (I1,bF (O rk) (O (left+1)) 1) [(F+3,ba (some (.int (O bh) tb))),(F+4,ba (some (.int (O f) tf)))] [S,Q] N J U) (.ok (.again (ey w.P F D av I1 0))) jk (dD F av M E ts Y sg (D,fa w.P (J+1) rk J (some (tV.fst,tV.snd))) (aB++z4) pF (I1,bF (O (rk+1)) (O left) 1) [(F+3,ba (some (.int (O bh) tb))),(F+4,ba (some (.int (O f) tf)))] [S,zO] fA fB U):=
 by revert w;exact @(kN 0x292952a4a17360c69c7 0x952a4a17360c69c7 (λw h9=>[eV w [2] I1 rk left,gE w [0] N (J+3) tb (J+4) h1 h2,Ue w [3,3,0,2,2,2] [0,0] h9]) [0,0,5,1,1,1,2,2] [0,0])
theorem Ui (h8:oF w F D av I1 (N+1) I0 K E U M kr J ts rk (f+1) n0 e (N+2) (J+5) pF fA fB Y sg none none aB z3 S Q zN jk q q1 G jk):aE w (pZ w.P F D av I1 I0 K q q1 G) p (aA (ey w.P F D av I1 0)) (dD F av M E ts Y sg (D,fa w.P kr CF tr none) aB e (I1,bF (O rk) (O (left+1)) 1) [(F+3,ba (some (.int (O bh) tb))),(F+4,ba (some (.int (O f) tf)))] [S,Q] N J U) (.ok (.again (ey w.P F D av I1 0))) jk (dD F av M E ts Y sg (D,fa w.P kr rk J none) (aB++z3) pF (I1,bF (O (rk+1)) (O left) 1) [(F+3,ba (some (.int (O bh) tb))),(F+4,ba (some (.int (O f) tf)))] [S,zN] fA fB U):=
 by revert w;exact @(kN 0x292952a4a17360c69c7 0x952a4a17360c69c7 (λw h8=>[eV w [2] I1 rk left,gE w [0] N (J+3) tb (J+4) h1 h2,JF w [3,3,0,2,2,2] [0,0] h8]) [0,0,5,1,1,1,2,2] [0,0])
theorem Uj (h9:oF w F D av I1 (N+1) I0 K E U M kr J ts rk (f+1) n0 e (N+2) (J+5) pF fA fB Y sg (some (ka,va)) (some tV) aB z4 S Q zO jk q q1 G jk):aE w (pZ w.P F D av I1 I0 K q q1 G) p (aA (ey w.P F D av I1 0)) (dD F av M E ts Y sg (D,fa w.P kr CF tr (some (ka,va))) aB e (I1,bF (O rk) (O (left+1)) 1) [(F+3,ba (some (.int (O bh) tb))),(F+4,ba (some (.int (O f) tf)))] [S,Q] N J U) (.ok (.again (ey w.P F D av I1 0))) jk (dD F av M E ts Y sg (D,fa w.P kr rk J (some (tV.fst,tV.snd))) (aB++z4) pF (I1,bF (O (rk+1)) (O left) 1) [(F+3,ba (some (.int (O bh) tb))),(F+4,ba (some (.int (O f) tf)))] [S,zO] fA fB U):=
 by revert w;exact @(kN 0x292952a4a17360c69c7 0x952a4a17360c69c7 (λw h9=>[eV w [2] I1 rk left,gE w [0] N (J+3) tb (J+4) h1 h2,Uf w [3,3,0,2,2,2] [0,0] h9]) [0,0,5,1,1,1,2,2] [0,0])
end
theorem Uk {F M:Nat}{S:aJ}:aP w (pZ w.P F D av I1 I0 K q q1 G) p (aA (ey w.P F D av I1 0)) (dD F av M E ts Y sg (D,dd) aB e (I1,bF (O rk) (O 0) 1) [(F+3,ba (some (.int (O bh) tb))),(F+4,ba (some (.int (O f) tf)))] [S,Q] N J U) (.ok .next) (dD F av M E ts Y sg (D,dd) aB e (I1,bF (O rk) (O 0) 1) [(F+3,ba (some (.int (O bh) tb))),(F+4,ba (some (.int (O f) tf)))] [S,Q] (N+2) J U):=
 dJ 164524487 [] [2,2,2,2,2,2,2,2] [0,0]
noncomputable def At (P:aF):Option ((Nat×Nat×Nat)×Option (Nat×ay))->az
 |none=>fU [] 0
 |some ((kr,rk,tr),o)=>fa P kr rk tr o
noncomputable def nI (ks:b8)(sg:d)(n m r:Nat):cC:=((jH n m).filter (nH ks (sg[r]?.getD 0))).map (λat_=>(r,at_))
theorem Ul {F M:Nat}(dr:ps.length<=10000)(hw:∀i (h:i+1<ps.length),ps[i+1].g≠[]/\ps[i].x≠[])(eK:sg.length<=3)(hb:bh=f+1+n)(nJ:bh<=ps.length):∀(m rk:Nat) {s:Option ((Nat×Nat×Nat)×Option (Nat×ay))} {aB:LV} {e N J:Nat} {Q:aJ} {p:aw},rk+m=sg.length->aB.length+m*n<=100000->(∀am,s=some am->(am.2=none↔n=0))-> ∃(s':Option ((Nat×Nat×Nat)×Option (Nat×ay))) (os:List PL) (e' N' au:Nat),os.map PL.key=(jH rk m).flatMap (nI (ps.map PT.key) sg (f+1) n)/\(∀am,s'=some am->(am.2=none↔n=0))/\(m=0->s'=s)/\(m≠0->∃am,s'=some am)/\ aP w (pZ w.P F D av I1 I0 K q q1 G) p (aA (ey w.P F D av I1 0)) (dD F av M E ts (bm ps) sg (D,At w.P s) aB e (I1,bF (O rk) (O m) 1) [(F+3,ba (some (.int (O bh) tb))),(F+4,ba (some (.int (O f) tf)))] [ps.map PT.ent,Q] N J U) (.ok .next) (dD F av M E ts (bm ps) sg (D,At w.P s') (aB++dQ os) e' (I1,bF (O (rk+m)) (O 0) 1) [(F+3,ba (some (.int (O bh) tb))),(F+4,ba (some (.int (O f) tf)))] [ps.map PT.ent,Q++os.map PL.ent] N' au U):=by
 intro m
 induction m with
 |zero=>
  intro rk s aB e N J Q p hm ho hs
  refine vk s [] e (N+2) J rfl hs (λ_=>rfl) (λh=>absurd rfl h) ?_
  rw [show dQ []=[]from rfl,n7,bk,bk]
  exact Uk
 |succ m aS=>
  intro rk s aB e N J Q p hm ho hs
  have bw:rk<sg.length:=by lia
  have hc:sg[rk]? =some sg[rk]:=cm bw
  have hmul:(m+1)*n=m*n+n:=M5 m n
  have JG:∀(o:Option (Nat×ay)) (kr:Nat),∃(o':Option (Nat×ay)) (os:List PL) (e' N' au:Nat),os.map PL.key=nI (ps.map PT.key) sg (f+1) n rk/\(n=0->o'=o)/\(n≠0->∃kv,o'=some kv)/\
    oF w F D av I1 (N+1) I0 K E U M kr J ts rk (f+1) n e (N+2) (J+5) e' N' au (bm ps) sg o o' aB (dQ os) (ps.map PT.ent) Q (Q++os.map PL.ent) jk q q1 G jk:=λo kr=>by
   refine ix (Ud (w:=w) (F:=F) (D:=D) (av:=av) (I1:=I1) (I2:=N+1) (I0:=I0) (K:=K) (E:=E) (U:=U) (M:=M) (kr:=kr) (tr:=J) (ts:=ts) (rk:=rk) (sg:=sg) (q:=q) (q1:=q1) (G:=G) (q3:=jk) dr hw (by lia) hc n f (o:=o) (aB:=aB) (e:=e) (N:=N+2) (J:=J+5) (Q:=Q) (p:=jk) (by lia) (by lia)) λo' os e' N' au f1 f2 f3 f4=>
    ke o' os e' N' au (by rw [f1];delta nI;rw [hc];rfl) f2 f3 ?_
   delta oF
   rw [aT]
   exact f4
  have key:∃(am:(Nat×Nat×Nat)×Option (Nat×ay)) (os:List PL) (e' N' au:Nat) (p':aw),os.map PL.key=nI (ps.map PT.key) sg (f+1) n rk/\(am.2=none↔n=0)/\
    aE w (pZ w.P F D av I1 I0 K q q1 G) p (aA (ey w.P F D av I1 0)) (dD F av M E ts (bm ps) sg (D,At w.P s) aB e (I1,bF (O rk) (O (m+1)) 1) [(F+3,ba (some (.int (O bh) tb))),(F+4,ba (some (.int (O f) tf)))] [ps.map PT.ent,Q] N J U) (.ok (.again (ey w.P F D av I1 0))) p'
     (dD F av M E ts (bm ps) sg (D,At w.P (some am)) (aB++dQ os) e' (I1,bF (O (rk+1)) (O m) 1) [(F+3,ba (some (.int (O bh) tb))),(F+4,ba (some (.int (O f) tf)))] [ps.map PT.ent,Q++os.map PL.ent] N' au U):=by
   cases s with
   |none=>
    refine ix (JG none (J+1)) λo' os e' N' au f1 f2 f3 f4=> ?_
    by_cases hn:n=0
    ·have:=f2 hn
     subst this
     exact dV ((J+1,rk,J),none) os e' _ _ _ f1 (by simp [hn]) (Ug hb (by lia) f4)
    ·refine dT (f3 hn) λkv hk=> ?_
     subst hk
     exact dV ((J+1,rk,J),some kv) os e' _ _ _ f1 (by simp [hn]) (Uh hb (by lia) f4)
   |some am=>
    obtain⟨⟨kr,CF,tr⟩,o⟩:=am
    have hz:=hs _ rfl
    refine ix (JG o kr) λo' os e' N' au f1 f2 f3 f4=> ?_
    by_cases hn:n=0
    ·have ho:o=none:=hz.mpr hn
     subst ho
     have:=f2 hn
     subst this
     exact dV ((kr,rk,J),none) os e' _ _ _ f1 (by simp [hn]) (Ui hb (by lia) f4)
    ·refine dT (f3 hn) λkv hk=> ?_
     subst hk
     cases o with
     |none=>exact absurd (hz.mp rfl) hn
     |some pJ=>exact dV ((kr,rk,J),some kv) os e' _ _ _ f1 (by simp [hn]) (Uj (ka:=pJ.1) hb (by lia) f4)
  refine nc (key) λam os e1 N1 be p1 g1 g2 g3=> ?_
  have b6:os.length<=n:=by
   have:=congrArg dn g1
   unfold nI at this
   rw [bA,bA]at this
   rw [this]
   exact iR (M8 _ _) (by rw [List.length_range'];exact b7 _)
  refine vj (aS (rk+1) (s:=some am) (aB:=aB++dQ os) (e:=e1) (N:=N1) (J:=be) (Q:=Q++os.map PL.ent) (p:=p1) (by lia) (by rw [ci];unfold dQ;rw [bA];lia) (λy hy=>by injection hy with hy;subst hy;exact g2)) λs' Du e' N' au h1 h2 h3 h4 h5=> ?_
  refine vk s' (os++Du) e' N' au ?_ h2 (λh=>absurd h lq) (λ_=> ?_) ?_
  ·rw [uZ,Gp,cx,g1,h1]
  ·by_cases JH:m=0
   ·exact⟨_,h3 JH⟩
   ·exact h4 JH
  ·refine ax.turn (aT w) rfl (by kernel_rfl) g3 ?_
   rw [bK,bK,show rk+1+m=rk+(m+1)by lia,<-cx,show dQ os++dQ Du=dQ (os++Du)by unfold dQ;rw [cx]]at h5
   exact h5
noncomputable def bx (l:b8):Nat:=(l.map λx=>x.1.length+x.2.length).sum
noncomputable def bs (l:b8):d:=(l.map λx=>x.1++x.2).flatten
noncomputable def lN (x b:Nat×Nat):Bool:=decide (x.1<b.1)||(x.1==b.1&&decide (b.2<x.2))
noncomputable def jT (b:Nat×Nat)(l:cC):Nat×Nat:=l.foldl (λb x=>if lN x b then x else b) b
noncomputable def bestOf:cC->Option (Nat×Nat)
 |[]=>none
 |b::l=>some (jT b l)
theorem Um (r:Nat):∀(l:d) (a:Nat),(a::l).Pairwise (·< ·)->jT (r,a) (l.map λx=>(r,x))=(r,(a::l).getLast (List.cons_ne_nil _ _)):=by
 intro l
 induction l with
 |nil=>
  intro a _
  exact rfl
 |cons x l aS=>
  intro a h
  have hx:a<x:=(iw.mp h).1 x (.head _)
  have h2:=(iw.mp h).2
  show jT (if lN (r,x) (r,a)then(r,x)else(r,a)) _=_
  rw [if_pos (by simp [lN,hx]),aS x h2,List.getLast_cons (List.cons_ne_nil x l)]
theorem Un (b:Nat×Nat):∀(l:cC),(∀x∈l,b.1<x.1)->jT b l=b:=by
 intro l
 induction l with
 |nil=>
  intro _
  exact rfl
 |cons x l aS=>
  intro h
  show jT (if lN x b then x else b) _=_
  have:=h x (.head _)
  rw [if_neg (by simp [lN];lia),aS λy hy=>h y (.tail _ hy)]
theorem Uo (b:Nat×Nat)(l m:cC):jT b (l++m)=jT (jT b l) m:=by delta jT;rw [r8]
noncomputable def wF (f:Nat->d):Nat->Nat->Option (Nat×Nat)
 |_,0=>none
 |r,m+1=>match(f r).getLast? with
  |some a=>some (r,a)
  |none=>wF f (r+1) m
theorem Up (f:Nat->d)(hf:∀r,(f r).Pairwise (·< ·)):∀(m r:Nat),bestOf ((jH r m).flatMap λr=>(f r).map λa=>(r,a))=wF f r m:=by
 intro m
 induction m with
 |zero=>
  intro r
  exact rfl
 |succ m aS=>
  intro r
  rw [uZ,Gp]
  unfold wF
  cases hr:f r with
  |nil=>simp only [n7,cZ,List.getLast?_nil];exact aS (r+1)
  |cons a l=>
   have hp:=hf r
   rw [hr]at hp
   rw [BX (by simp)]
   show some (jT (r,a) (l.map (λa=>(r,a))++_))=_
   rw [Uo,Um r l a hp,Un]
   intro x hx
   refine bX (List.mem_flatMap.mp hx) λr' Uq hx=> ?_
   refine bX (dS.mp hx) λy _ fM=> ?_
   subst fM
   have:=Gs.mp Uq
   show r<r'
   lia
noncomputable def jU (ks:b8)(head:Nat)(st:d)(behind:Nat):Nat:=
 bx ((ks.take behind).drop (st.getLast?.getD 0))+(if st.length=1 then head else if st=[0,0]then 1 else 0)
noncomputable def jC (ks:b8)(sg:d)(first behind:Nat):cC:=(jH 0 sg.length).flatMap (nI ks sg (first+1) (behind-(first+1)))
noncomputable def gQ (ks:b8)(width head:Nat)(sg:d)(st:d)(behind:Nat):d:=
 if jU ks head st behind<=width then st else
  match bestOf (jC ks sg (st.getLast?.getD 0) behind)with
  |some x=>st++[x.2]
  |none=>if st.length=1/\0<head then st++[behind-1]else st
noncomputable def nK (ks:b8)(width head:Nat)(sg:d)(m:Nat):d:=(jH 1 m).foldl (gQ ks width head sg) [0]
structure FS where
 cur:b8
 ini:Nat
 lines:List d
noncomputable def mN (sp:Nat->Bool)(cur:b8)(ch i:Nat):Bool:=
 (sp ch&&((cur[i]?.bind λk=>k.1.head?)==some ch))||((cur[i-1]?.bind λk=>k.2.getLast?)==some ch)
noncomputable def oG (sp:Nat->Bool)(cur:b8)(ch:Nat):Option Nat:=((jH 1 (cur.length-1)).filter (mN sp cur ch)).getLast?
noncomputable def jV (sp:Nat->Bool)(cur:b8):d->Option Nat
 |[]=>none
 |ch::r=>match oG sp cur ch with
  |some i=>some i
  |none=>jV sp cur r
noncomputable def iG (sp:Nat->Bool)(width:Nat)(sg:d)(s:FS)(x:d×d):FS:=
 if s.ini+bx (s.cur++[x])<=width then⟨s.cur++[x],s.ini,s.lines⟩else
  match jV sp (s.cur++[x]) sg with
  |some i=>⟨(s.cur++[x]).drop i,0,s.lines++[bs ((s.cur++[x]).take i)]⟩
  |none=>if 0<s.ini then⟨[(if x.1=[]then [32]else x.1,x.2)],0,s.lines++[bs s.cur]⟩else⟨s.cur++[x],s.ini,s.lines⟩
noncomputable def wG (sp:Nat->Bool)(width head:Nat)(sg:d)(ks:b8):FS:=ks.foldl (iG sp width sg) ⟨[],head,[]⟩
noncomputable def kT (s:FS):List d:=s.lines++[bs s.cur]
noncomputable def jD (ks:b8)(st:d):List d:=(st.zip (st.tail++[ks.length])).map λ(a,b)=>bs ((ks.take b).drop a)
noncomputable def eC (ae:b8):d->List d
 |[]=>[]
 |[_]=>[]
 |a::b::r=>bs ((ae.take b).drop a)::eC ae (b::r)
theorem Au (ae:b8)(f:Nat):∀(u:d),u≠[]->eC ae (u++[f])=eC ae u++[bs ((ae.take f).drop (u.getLast?.getD 0))]:=by
 intro u
 induction u with
 |nil=>
  intro h
  exact absurd rfl h
 |cons a rq aS=>
  cases rq with
  |nil=>
   intro _
   exact rfl
  |cons b r=>
   intro _
   show bs ((ae.take b).drop a)::eC ae ((b::r)++[f])=_
   rw [aS (by simp)]
   show _=(bs ((ae.take b).drop a)::eC ae (b::r))++_
   rw [eB,aeI]
theorem wH (ae:b8):∀(u:d),u≠[]->jD ae u=eC ae (u++[ae.length]):=by
 intro u
 induction u with
 |nil=>
  intro h
  exact absurd rfl h
 |cons a rq aS=>
  cases rq with
  |nil=>
   intro _
   exact rfl
  |cons b r=>
   intro _
   have ih:=aS (by simp)
   unfold jD at ih⊢
   show bs ((ae.take b).drop a)::_=bs ((ae.take b).drop a)::eC ae ((b::r)++[ae.length])
   rw [<-ih]
   rfl
def p5 (ks ae:b8):Prop:=ae.length=ks.length/\(∀i,i≠0->ae[i]? =ks[i]?)/\(ae[0]?.map iu=ks[0]?.map iu)
theorem p5.refl (ks:b8):p5 ks ks:=⟨rfl,λ_ _=>rfl,rfl⟩
theorem Ur {ae:b8}(h:p5 ks ae)(i:Nat):(ae[i]?.bind λk=>k.2.getLast?)=(ks[i]?.bind λk=>k.2.getLast?):=by
 by_cases hi:i=0
 ·subst hi
  have:=h.2.2
  cases h1:ae[0]? <;>cases h2:ks[0]? <;>rw [h1,h2]at this<;>simp_all
 ·rw [h.2.1 i hi]
section
variable {ae:b8}(hL:p5 ks ae)(fb:∀k∈ks,∀c∈k.1,sp c=true)
include hL fb
theorem Us (hi:1<=i)(hl:f+i<e):nH ks ch (f+i)=mN sp ((ae.take e).drop f) ch i:=by
 have e1:((ae.take e).drop f)[i]? =ks[f+i]? :=by
  rw [BQ,M9 hl,hL.2.1 _ (by lia)]
 have e2:((ae.take e).drop f)[i-1]? =ae[f+i-1]? :=by
  rw [BQ,show f+(i-1)=f+i-1 by lia,M9 (by lia)]
 delta nH mN
 rw [e1,e2,Ur hL]
 cases h:ks[f+i]? with
 |none=>simp
 |some k=>
  simp only [BP]
  cases hg:k.1 with
  |nil=>simp
  |cons c g=>
   have hc:=fb k (u9 h) c (by rw [hg];exact .head _)
   simp only [List.head?_cons]
   by_cases JI:c=ch
   ·subst JI;simp [hc]
   ·have e3:(some c==some ch)=false:=by simp [JI]
    rw [e3,Bool.and_false]
theorem Ut (he:e<=ks.length)(hf:f<e):(((jH (f+1) (e-(f+1))).filter (nH ks ch)).getLast?)=(oG sp ((ae.take e).drop f) ch).map (f+ ·):=by
 have b6:((ae.take e).drop f).length-1=e-(f+1):=by simp [hL.1];lia
 delta oG
 rw [b6,show jH (f+1) (e-(f+1))=(jH 1 (e-(f+1))).map (f+ ·)by rw [List.map_add_range'],List.filter_map,List.getLast?_map]
 congr 2
 refine List.filter_congr λi hi=> ?_
 have:=Gs.mp hi
 exact Us hL fb (by lia) (by lia)
theorem places_eq (he:e<=ks.length)(hf:f<e):(bestOf (jC ks sg f e)).map iu=(jV sp ((ae.take e).drop f) sg).map (f+ ·):=by
 delta jC
 have h1:=Up (λr=>(jH (f+1) (e-(f+1))).filter (nH ks (sg[r]?.getD 0))) (λr=>List.Pairwise.filter _ (List.pairwise_lt_range' _)) sg.length 0
 show(bestOf ((jH 0 sg.length).flatMap λr=>nI ks sg (f+1) (e-(f+1)) r)).map iu=_
 delta nI
 rw [h1]
 have key:∀(m r:Nat),r+m=sg.length->(wF (λr=>(jH (f+1) (e-(f+1))).filter (nH ks (sg[r]?.getD 0))) r m).map iu=(jV sp ((ae.take e).drop f) (sg.drop r)).map (f+ ·):=by
  intro m
  induction m with
  |zero=>
   intro r hr
   have e0:sg.drop r=[]:=mh (by lia)
   rw [e0]
   rfl
  |succ m ih=>
   intro r hr
   have bw:r<sg.length:=by lia
   rw [fJ bw]
   unfold wF jV
   rw [cm bw]
   show Na iu (match((jH (f+1) (e-(f+1))).filter (nH ks sg[r])).getLast? with|some a=>some (r,a)|none=>_)=_
   rw [Ut hL fb he hf]
   cases oG sp ((ae.take e).drop f) sg[r]with
   |none=>exact ih (r+1) (by lia)
   |some i=>rfl
 have:=key sg.length 0 ji
 rw [iS]at this
 exact this
end
theorem Dv {cur:b8}:∀{sg:d} {i:Nat},jV sp cur sg=some i->1<=i/\i<cur.length:=by
 intro sg
 induction sg with
 |nil=>
  intro i h
  cases h
 |cons ch r aS=>
  intro i h
  unfold jV at h
  cases hI:oG sp cur ch with
  |none=>rw [hI]at h;exact aS h
  |some j=>
   rw [hI]at h
   cases h
   have:=aeJ hI
   have:=Gs.mp (List.mem_filter.mp this).1
   lia
theorem take_snoc {l:List α}(h:j<l.length):l.take (j+1)=l.take j++[l[j]]:=by rw [List.take_add_one,cm h];rfl
theorem Uu {l:List α}(hf:f<=j)(h:j<l.length):(l.take j).drop f++[l[j]]=(l.take (j+1)).drop f:=by
 rw [take_snoc h,Go (by simp;lia)]
structure ri (ae:b8)(pre:List d)(u:d)(j:Nat)(s:FS):Prop where
 ne:u≠[]
 lt:u.getLast?.getD 0<j
 ini:s.ini=0
 cur:s.cur=(ae.take j).drop (u.getLast?.getD 0)
 lines:s.lines=pre++eC ae u
 mono:u.Pairwise (·< ·)
theorem JJ {ae:b8}(hL:p5 ks ae)(fb:∀k∈ks,∀c∈k.1,sp c=true){u st:d}{s:FS}(hj:j<ks.length)(I:ri ae pre u j s)(gF:st.length≠1)(iH:st.getLast?.getD 0=u.getLast?.getD 0)(cK:jU ks head st (j+1)=bx ((ae.take (j+1)).drop (u.getLast?.getD 0))):(gQ ks width head sg st (j+1)=st/\ri ae pre u (j+1) (iG sp width sg s (ae[j]'(by rw [hL.1];exact hj))))\/ ∃f,u.getLast?.getD 0<f/\gQ ks width head sg st (j+1)=st++[f]/\ri ae pre (u++[f]) (j+1) (iG sp width sg s (ae[j]'(by rw [hL.1];exact hj))):=by
 have Uv:j<ae.length:=by rw [hL.1];exact hj
 have hc:s.cur++[ae[j]]=(ae.take (j+1)).drop (u.getLast?.getD 0):=by rw [I.cur];exact Uu (n6 I.lt) Uv
 have Av:ri ae pre u (j+1) ⟨s.cur++[ae[j]],s.ini,s.lines⟩:=⟨I.ne,Nat.lt_succ_of_lt I.lt,I.ini,hc,I.lines,I.mono⟩
 delta gQ iG
 rw [cK,hc,I.ini,kI,iH]
 by_cases hw:bx ((ae.take (j+1)).drop (u.getLast?.getD 0))<=width
 ·rw [if_pos hw,if_pos hw]
  rw [hc,I.ini]at Av
  exact .inl ⟨rfl,Av⟩
 ·rw [if_neg hw,if_neg hw]
  have hp:=places_eq hL fb (sg:=sg) vn (Nat.lt_succ_of_lt I.lt)
  cases hf:jV sp ((ae.take (j+1)).drop (u.getLast?.getD 0)) sg with
  |none=>
   rw [hf]at hp
   cases hb:bestOf (jC ks sg (u.getLast?.getD 0) (j+1))with
   |some x=>rw [hb]at hp;cases hp
   |none=>
    simp only
    rw [if_neg (by lia),if_neg (by lia)]
    rw [hc,I.ini]at Av
    exact .inl ⟨rfl,Av⟩
  |some i=>
   rw [hf]at hp
   cases hb:bestOf (jC ks sg (u.getLast?.getD 0) (j+1))with
   |none=>rw [hb]at hp;cases hp
   |some x=>
    rw [hb]at hp
    have hx:x.2=u.getLast?.getD 0+i:=by simpa using hp
    have hi:=Dv hf
    have b6:((ae.take (j+1)).drop (u.getLast?.getD 0)).length=j+1-u.getLast?.getD 0:=by simp;lia
    have ui:(u++[x.2]).getLast?.getD 0=x.2:=by simp
    have:=I.lt
    refine .inr ⟨x.2,by lia,rfl,by simp,by rw [ui];lia,rfl,?_,?_,?_⟩
    ·rw [ui]
     simp only
     rw [Nc,hx]
    ·simp only
     rw [Au ae x.2 u I.ne,I.lines,<-bK]
     congr 3
     rw [List.take_drop,Gu,hx]
     congr 2
     lia
    ·rw [r9]
     refine⟨I.mono,xS _ _,λa ha b hb=> ?_⟩
     have hb:b=x.2:=by simpa using hb
     have h3:a<=u.getLast?.getD 0:=by
      have hm:=I.mono
      rw [BX I.ne]
      show a<=u.getLast I.ne
      have hd:=Gr I.ne
      rw [<-hd]at ha hm
      rcases fq.mp ha with ha|ha
      ·exact n6 ((r9.mp hm).2.2 a ha _ (.head _))
      ·have:a=u.getLast I.ne:=by simpa using ha
       lia
     lia
noncomputable def iI (ks:b8):b8:=match ks with
 |[]=>[]
 |x::r=>(if x.1=[]then [32]else x.1,x.2)::r
theorem p6 (ks:b8):p5 ks (iI ks):=by
 cases ks with
 |nil=>exact .refl _
 |cons x r=>
  refine⟨rfl,λi hi=> ?_,rfl⟩
  cases i with
  |zero=>exact absurd rfl hi
  |succ i=>rfl
def Inv (ks:b8)(head:Nat)(st:d)(j:Nat)(s:FS):Prop:=
 (st=[0]/\s=⟨ks.take j,head,[]⟩)\/(1<st.length/\st.head? =some 0/\ri ks [] st j s)\/∃u,st=0::u/\u.head? =some 0/\ri (iI ks) [[]] u j s
theorem Dw (a b:b8):bx (a++b)=bx a+bx b:=by simp [bx]
section
variable (fb:∀k∈ks,∀c∈k.1,sp c=true)(h0:∀k,ks[0]? =some k->k.1=[])(h1:∀i k,ks[i+1]? =some k->k.1≠[])
include fb h0 h1
theorem Uw {st:d}{s:FS}(hj:j<ks.length)(I:Inv ks head st j s):Inv ks head (gQ ks width head sg st (j+1)) (j+1) (iG sp width sg s ks[j]):=by
 rcases I with⟨rfl,rfl⟩|⟨hl,hh,I⟩|⟨u,rfl,hh,I⟩
 ·have hs:jU ks head [0] (j+1)=head+bx (ks.take j++[ks[j]]):=by
   show bx ((ks.take (j+1)).drop 0)+head=_
   rw [iS,take_snoc hj,Gv]
  have hp:=places_eq (p5.refl ks) fb (f:=0) (e:=j+1) (sg:=sg) vn (by lia)
  rw [iS,take_snoc hj]at hp
  delta gQ iG
  rw [hs]
  show Inv ks head (if head+bx (ks.take j++[ks[j]])<=width then _ else match bestOf (jC ks sg 0 (j+1))with|some x=>_|none=>_) _ (if head+bx (ks.take j++[ks[j]])<=width then _ else _)
  by_cases hw:head+bx (ks.take j++[ks[j]])<=width
  ·rw [if_pos hw,if_pos hw]
   exact .inl ⟨rfl,by rw [take_snoc hj]⟩
  ·rw [if_neg hw,if_neg hw]
   cases hf:jV sp (ks.take j++[ks[j]]) sg with
   |none=>
    rw [hf]at hp
    cases hb:bestOf (jC ks sg 0 (j+1))with
    |some x=>rw [hb]at hp;cases hp
    |none=>
     simp only
     by_cases h:0<head
     ·rw [if_pos h,if_pos ⟨rfl,h⟩]
      cases j with
      |zero=>
       refine .inr (.inr ⟨[0],rfl,rfl,by simp,by simp,rfl,?_,?_,xS _ _⟩)
       ·cases ks with
        |nil=>exact absurd hj (BO _)
        |cons x r=>rfl
       ·rfl
      |succ j=>
       have hg:=h1 j ks[j+1] (cm hj)
       refine .inr (.inl ⟨by simp,rfl,by simp,by simp,rfl,?_,?_,by simp⟩)
       ·simp only
        rw [if_neg hg]
        show _=(ks.take (j+1+1)).drop (j+1)
        rw [take_snoc hj,Go (by simp;lia),mh (by simp;lia)]
        rfl
       ·rfl
     ·rw [if_neg h,if_neg (λq=>h q.2)]
      exact .inl ⟨rfl,by rw [take_snoc hj]⟩
   |some i=>
    rw [hf]at hp
    cases hb:bestOf (jC ks sg 0 (j+1))with
    |none=>rw [hb]at hp;cases hp
    |some x=>
     rw [hb]at hp
     have hx:x.2=i:=by simpa using hp
     have hi:=Dv hf
     have b6:(ks.take j++[ks[j]]).length=j+1:=by simp;lia
     refine .inr (.inl ⟨by simp,rfl,by simp,by simp;lia,rfl,?_,?_,by simp;lia⟩)
     ·simp only
      show _=(ks.take (j+1)).drop x.2
      rw [hx,take_snoc hj]
     ·simp only
      show _=[]++[bs ((ks.take x.2).drop 0)]
      rw [hx,<-take_snoc hj,Gu,Nd (by lia)]
      rfl
 ·have bD:st≠[0,0]:=λq=>by
   subst q
   have:=I.mono
   simp at this
  rcases JJ (p5.refl ks) fb (head:=head) (width:=width) (sg:=sg) hj I (by lia) rfl (by delta jU;rw [if_neg (by lia),if_neg bD];rfl)with⟨e,I'⟩|⟨f,hf,e,I'⟩
  ·rw [e];exact .inr (.inl ⟨hl,hh,I'⟩)
  ·rw [e]
   refine .inr (.inl ⟨by simp;lia,?_,I'⟩)
   cases st with
   |nil=>cases hh
   |cons a r=>exact hh
 ·have uj:=I.ne
  have iH:(0::u).getLast?.getD 0=u.getLast?.getD 0:=by
   cases u with
   |nil=>exact absurd rfl uj
   |cons a r=>rw [aeI]
  have JK:0<j:=Gw (fv _) I.lt
  have hg:(iI ks)[j]'(by rw [(p6 ks).1];exact hj)=ks[j]:=by
   have:=(p6 ks).2.1 j (by lia)
   rw [cm hj,cm (by rw [(p6 ks).1];exact hj)]at this
   exact dv.inj this
  have b6:(0::u).length≠1:=by
   cases u with
   |nil=>exact absurd rfl uj
   |cons a r=>simp
  have cK:jU ks head (0::u) (j+1)=bx (((iI ks).take (j+1)).drop (u.getLast?.getD 0)):=by
   delta jU
   rw [if_neg b6,iH]
   cases u with
   |nil=>exact absurd rfl uj
   |cons a r=>
    have ha:a=0:=by simpa using hh
    subst ha
    cases r with
    |nil=>
     rw [if_pos rfl]
     show bx ((ks.take (j+1)).drop 0)+1=bx (((iI ks).take (j+1)).drop 0)
     cases ks with
     |nil=>exact absurd hj (BO _)
     |cons x q=>
      have hx:=h0 x rfl
      show bx (x::q.take j)+1=bx ((if x.1=[]then [32]else x.1,x.2)::q.take j)
      rw [if_pos hx]
      simp only [bx,bY,uY,hx,xT,o7]
      lia
    |cons b r=>
     rw [if_neg (by simp),Gx]
     have hm:=I.mono
     have hb:0<(0::b::r).getLast?.getD 0:=by
      rw [BX (by simp)]
      have mO:(0::b::r).getLast (by simp)∈b::r:=by rw [List.getLast_cons (by simp)];exact List.getLast_mem _
      exact(iw.mp hm).1 _ mO
     obtain⟨f,Ux⟩:∃f,(0::b::r).getLast?.getD 0=f+1:=⟨_,(Gy hb).symm⟩
     rw [Ux]
     cases ks with
     |nil=>exact absurd hj (BO _)
     |cons x q=>rfl
  rcases JJ (p6 ks) fb hj I b6 iH cK with⟨e,I'⟩|⟨f,hf,e,I'⟩
  ·rw [hg]at I';rw [e];exact .inr (.inr ⟨u,rfl,hh,I'⟩)
  ·rw [hg]at I'
   rw [e]
   refine .inr (.inr ⟨u++[f],rfl,?_,I'⟩)
   cases u with
   |nil=>cases hh
   |cons a r=>exact hh
theorem JL:∀(m:Nat),m<=ks.length->Inv ks head (nK ks width head sg m) m ((ks.take m).foldl (iG sp width sg) ⟨[],head,[]⟩):=by
 intro m
 induction m with
 |zero=>
  intro _
  exact .inl ⟨rfl,by rw [List.take_zero];rfl⟩
 |succ m aS=>
  intro h
  have ih:=aS mv
  have:=Uw fb h0 h1 (width:=width) (sg:=sg) vn ih
  unfold nK at this⊢
  rw [aeK,r8,take_snoc vn,r8]
  rw [Gv 1 m]
  exact this
end
theorem JM {l:b8}(h:l≠[])(hp:∀k∈l,k.2≠[]):bs l≠[]:=by
 cases l with
 |nil=>exact absurd rfl h
 |cons x r=>
  have:=hp x (.head _)
  delta bs
  simp [this]
theorem Aw {ae:b8}(hp:∀k∈ae,k.2≠[]):∀{u:d},u.Pairwise (·< ·)->(∀x∈u,x<=ae.length)->∀t∈eC ae u,t≠[]:=by
 intro u
 induction u with
 |nil=>
  intro _ _ t ht
  cases ht
 |cons a rq aS=>
  cases rq with
  |nil=>
   intro _ _ t ht
   cases ht
  |cons b r=>
   intro hm hl t ht
   rcases gr.mp ht with rfl|ht
   ·have lJ:=(iw.mp hm).1 b (.head _)
    have nJ:=hl b (.tail _ (.head _))
    refine JM (λq=> ?_) λk hk=>hp k (sa (sb hk))
    have:=congrArg dn q
    simp at this
    lia
   ·exact aS (iw.mp hm).2 (λx hx=>hl x (.tail _ hx)) t ht
theorem rj {u:d}(hm:u.Pairwise (·< ·)):∀a∈u,a<=u.getLast?.getD 0:=by
 intro a ha
 have bD:u≠[]:=by intro q;subst q;cases ha
 rw [BX bD]
 show a<=u.getLast bD
 have hd:=Gr bD
 rw [<-hd]at ha hm
 rcases fq.mp ha with ha|ha
 ·exact n6 ((r9.mp hm).2.2 a ha _ (.head _))
 ·have:a=u.getLast bD:=by simpa using ha
  lia
theorem rl {r:List d}(h:r≠[]):bp bC (x::r)=x++bC++bp bC r:=by
 cases r with
 |nil=>exact absurd rfl h
 |cons y r=>rfl
theorem Uy {p:d}{r:List d}:bp bC ((p++x)::r)=p++bp bC (x::r):=by
 cases r with
 |nil=>rfl
 |cons y r=>show(p++x)++bC++_=p++(x++bC++_);simp
theorem Ax {l:List d}(h:∀t∈l,t≠[]):l.filter (λt=>t !=[])=l:=aeL.mpr λt ht=>by simp [h t ht]
theorem JN (bD:ks≠[])(fb:∀k∈ks,∀c∈k.1,sp c=true)(h0:∀k,ks[0]? =some k->k.1=[])(h1:∀i k,ks[i+1]? =some k->k.1≠[])(hp:∀k∈ks,k.2≠[]):bp [10] (kT (wG sp width head sg ks))=(if(nK ks width head sg ks.length).take 2=[0,0]then [10,32]else [])++bp [10] ((jD ks (nK ks width head sg ks.length)).filter (λt=>t !=[]))/\ Inv ks head (nK ks width head sg ks.length) ks.length (wG sp width head sg ks):=by
 have I:=JL fb h0 h1 (width:=width) (head:=head) (sg:=sg) ks.length (b7 _)
 rw [xU]at I
 refine⟨?_,I⟩
 generalize gF:nK ks width head sg ks.length=st at I⊢
 delta wG
 generalize ks.foldl (iG sp width sg) ⟨[],head,[]⟩=s at I⊢
 have lO:0<ks.length:=by cases ks with|nil=>exact absurd rfl bD|cons=>simp
 rcases I with⟨rfl,rfl⟩|⟨hl,hh,I⟩|⟨u,rfl,hh,I⟩
 ·rw [if_neg (by simp),cZ]
  rw [wH ks [0] (by simp),Ax (Aw hp (by simp [lO]) (by simp))]
  rfl
 ·have hm:=I.mono
  rw [if_neg (by
   intro q
   cases st with
   |nil=>cases hh
   |cons a r=>cases r with
    |nil=>simp at hl
    |cons b r=>simp at q;simp [q]at hm),cZ,wH ks st I.ne,Au ks _ st I.ne]
  have hf:kT s=eC ks st++[bs ((ks.take ks.length).drop (st.getLast?.getD 0))]:=by
   delta kT;rw [I.lines,I.cur];rfl
  rw [hf,Ax]
  rw [<-Au ks _ st I.ne]
  refine Aw hp ?_ ?_
  ·rw [r9]
   refine⟨hm,xS _ _,λa ha b hb=> ?_⟩
   have hb:b=ks.length:=by simpa using hb
   have:=rj hm a ha
   have:=I.lt
   lia
  ·intro x hx
   rcases fq.mp hx with hx|hx
   ·have:=rj hm x hx
    have:=I.lt
    lia
   ·have:x=ks.length:=by simpa using hx
    lia
 ·have hm:=I.mono
  obtain⟨a,r,rfl⟩:∃a r,u=a::r:=by cases u with|nil=>cases hh|cons a r=>exact dU a r rfl
  have ha:a=0:=by simpa using hh
  subst ha
  rw [if_pos (by simp)]
  have Uz:(iI ks).length=ks.length:=(p6 ks).1
  have e1:jD ks (0::0::r)=[]::eC ks (0::r++[ks.length]):=by
   rw [wH ks _ (by simp)]
   rfl
  have Ay:(0::r++[ks.length]).Pairwise (·< ·):=by
   rw [r9]
   refine⟨hm,xS _ _,λa ha b hb=> ?_⟩
   have hb:b=ks.length:=by simpa using hb
   have:=rj hm a ha
   have:=I.lt
   lia
  have hle:∀x∈0::r++[ks.length],x<=ks.length:=by
   intro x hx
   rcases fq.mp hx with hx|hx
   ·have:=rj hm x hx
    have:=I.lt
    lia
   ·have:x=ks.length:=by simpa using hx
    lia
  have e2:(jD ks (0::0::r)).filter (λt=>t !=[])=eC ks (0::r++[ks.length]):=by
   rw [e1,mi,if_neg (by simp),Ax (Aw hp Ay hle)]
  have e3:kT s=[]::eC (iI ks) (0::r++[ks.length]):=by
   unfold kT
   rw [Au _ _ (0::r) (by simp),I.lines,I.cur]
   rfl
  have e4:∀(r:d),r≠[]->(0::r).Pairwise (·< ·)->∃t rest,eC ks (0::r)=t::rest/\eC (iI ks) (0::r)=([32]++t)::rest:=by
   intro r hr hm
   cases r with
   |nil=>exact absurd rfl hr
   |cons b r=>
    refine fL (bs ((ks.take b).drop 0)) (eC ks (b::r)) rfl ?_
    have hb:0<b:=(iw.mp hm).1 b (.head _)
    show bs (((iI ks).take b).drop 0)::eC (iI ks) (b::r)=_
    congr 1
    ·cases ks with
     |nil=>exact absurd rfl bD
     |cons x q=>
      obtain⟨b,rfl⟩:∃b',b=b'+1:=⟨_,(Gy hb).symm⟩
      have hx:=h0 x rfl
      show bs ((if x.1=[]then [32]else x.1,x.2)::q.take b)=[32]++bs (x::q.take b)
      rw [if_pos hx]
      simp [bs,hx]
    ·have gen:∀(l:d),(∀a∈l,0<a)->eC (iI ks) l=eC ks l:=by
      intro l
      induction l with
      |nil=>intro _;rfl
      |cons a l ih=>
       intro lO
       cases l with
       |nil=>rfl
       |cons c l=>
        show bs (((iI ks).take c).drop a)::eC (iI ks) (c::l)=bs ((ks.take c).drop a)::eC ks (c::l)
        rw [ih λy hy=>lO y (.tail _ hy)]
        congr 2
        have ha:=lO a (.head _)
        have hc:=lO c (.tail _ (.head _))
        cases ks with
        |nil=>rfl
        |cons x q=>
         obtain⟨a,rfl⟩:∃a',a=a'+1:=⟨_,(Gy ha).symm⟩
         obtain⟨c,rfl⟩:∃c',c=c'+1:=⟨_,(Gy hc).symm⟩
         rfl
     exact gen _ λy hy=>(iw.mp hm).1 y hy
  refine gu (e4 (r++[ks.length]) (by simp) Ay) λt rest g1 g2=> ?_
  rw [e2,e3]
  rw [show(0::r++[ks.length])=0::(r++[ks.length])from rfl,g1,g2,rl (by simp),Uy]
  simp
section
variable {V:EV}{X af:Type}{Γ:bd}{p p₁ p₂ p₃ Dx aeY p':aw}{C bq ij mE Dy aeZ C':aC}
theorem ax.at' {t:Sem X}{r:Res X}(h:ax V Γ q t C r p' C'):ax V Γ p (standAt q>>=λ_=>t) C r p' C':=
 ax.bind (λs R=>⟨s,.refl R,λ_ _ _ _ _ _ q=> .at q⟩) h
theorem UA (cv:Γ.code= .func body env):ax V Γ p comprehensionsAround C (.ok []) p C:=by
 delta comprehensionsAround callersCodes
 have key:∀{t:Sem (List bL)},t= .stack (λAz=>(do
   let codes:=(pastTheWaiting Az).map (·.1)
   if((Az.map (·.1)).findSome? (·.env?)).map (·.frame) !=(codes.findSome? (·.env?)).map (·.frame)then unsupported "caller:past-a-waiting-one"
   return codes))->ax V Γ p t C (.ok ((pastTheWaiting ((Γ.code,p)::Γ.below)).map (·.1))) p C:=λe=>by
  subst e
  refine λs R=>⟨s,.refl R,λae ak gd lv e ee q=> .stack ?_⟩
  rw [cv]
  rw [cv]at q
  have hc:(Na (λx=>x.frame) (List.findSome? (λx=>x.env?) (cr (λx=>x.fst) ((Code.func body env,p)::Γ.below))) !=Na (λx=>x.frame) (List.findSome? (λx=>x.env?) (cr (λx=>x.fst) (pastTheWaiting ((Code.func body env,p)::Γ.below)))))=false:=by
   show(some env.frame !=some env.frame)=false
   simp
  dsimp only
  rw [hc]
  exact q
 refine ax.bind (key rfl) ?_
 rw [cv]
 exact ax.pure
theorem ax.ask' {k:Setting->Sem X}{r:Res X}(h:ax V Γ p (k ⟨V.prog,V.w.params⟩) C r p' C'):ax V Γ p (ask>>=k) C r p' C':=
 ax.bind (λs R=>⟨s,.refl R,λ_ _ _ _ _ _ q=> .ask q⟩) h
theorem ax.rule' {tag:String}{t:Sem X}{r:Res X}(h:ax V Γ p t C r p' C'):ax V Γ p (PySem.rule tag>>=λ_=>t) C r p' C':=
 ax.bind (λs R=>⟨s,.refl R,λ_ _ _ _ _ _ q=> .rule q⟩) h
theorem ax.hold {m:Sem X}{x:X}(h:ax V Γ p m C (.ok x) p' C'):ax V Γ p (holding Y m) C (.ok x) p' C':=by
 delta holding
 split
 ·exact h
 ·exact ax.keep h
theorem UB {ps:aw}{whole:Sem ay}{f cc:Addr}{fd:FuncData}{ar:Arg}{file:Str}{tf:Tok}{cls:ay}(cv:Γ.code= .func body env)(rm:env.kindOf "super"=some .globalImplicit)(UC:env.kindOf "__class__"=some .free)(kw:(attr==("__class__":Str))=false)(UD:env.func=some f)(h1:ax V Γ p (funcData (.ref f)) C (.ok fd) p C)(hp:(fd.params.posonlyargs++fd.params.args).head? =some ar)(UE:env.code= .ref cc)(h2:ax V Γ p (field (.ref cc) 2) C (.ok (.str file tf)) p C)(UF:(V.prog.main.file==file)=true)(UG:(V.prog.main.scope.names.lookup ("super":Str)).isSome=false)(h3:ax V Γ ps (loadName env "super") C (.ok (.type "super")) p₁ bq)(h4:ax V Γ p₁ (loadName env "__class__") bq (.ok cls) p₂ ij)(h5:ax V Γ p₂ (loadName env ar.arg) ij (.ok self) p₃ mE)(h6:ax V Γ p₃ (isType cls) mE (.ok true) Dx Dy)(h7:ax V Γ Dx (call (.type "super") [cls,self]) Dy (.ok v) p' C'):ax V Γ p (attributeBase (.Call (.Name "super" p0) [] [] ps) attr env whole) C (.ok v) p' C':=by
 delta attributeBase
 simp only [bne_self_eq_false,kw,rm,UC,UD,UE,Bool.or_self,Nf,if_false,Option.isSome_some,if_true,pure_bind]
 refine ax.bind h1 ?_
 simp only [hp]
 refine ax.ask' ?_
 refine ax.bind h2 ?_
 simp only [UF,UG,if_true,Nf,if_false]
 refine ax.rule' (ax.at' ?_)
 refine ax.bind h3 (ax.bind h4 (ax.bind (UA cv) ?_))
 show ax V Γ p₂ (loadName env ar.arg>>=_) _ _ _ _
 refine ax.bind h5 (ax.bind h6 ?_)
 exact h7
theorem Dz {o:Expr}{name:Str}{apos:aw}{args:List Expr}{ov:ay}{fx:ay×LV}{pl:Sem Bool}(h1:ax V Γ p (attributeBase o name env (eval o env)) C (.ok ov) p₁ bq)(h2:ax V Γ apos.atName (getMethod ov name pl) bq (.ok fx) p₂ ij)(h3:ax V Γ p₂ (callWith pos fx.1 fx.2 (backTo pos (starEach args env)) []) ij (.ok v) p' C')(he:eval (.Call (.Attribute o name apos) args [] pos) env=(do
   let ov<-attributeBase o name env (eval o env)
   standAt apos.atName
   let(f,first)<-holding [ov] (getMethod ov name pl)
   callWith pos f first (backTo pos (starEach args env)) []):=by rfl):
  ax V Γ p (eval (.Call (.Attribute o name apos) args [] pos) env) C (.ok v) p' C':=by
 rw [he]
 refine ax.bind h1 (ax.at' ?_)
 refine ax.bind (show ax V Γ apos.atName (holding [ov] (getMethod ov name pl)) bq (.ok fx) p₂ ij from ax.hold h2)
  h3
theorem JO {e:Expr}(h:ax V Γ pos (eval e env) C (.ok v) p' C'):ax V Γ p (exec (.Return (some e) pos) env) C (.ok (.ret v)) p' C':=by
 rw [exec_Return_some]
 exact ax.at' (ax.bind h ax.pure)
theorem JP {st:Stmt}{r:Res Flow}(h1:ax V Γ p (exec st env) C (.ok .next) p₁ bq)(h2:ax V Γ p₁ (execs rest env) bq r p' C'):ax V Γ p (execs (st::rest) env) C r p' C':=by
 rw [execs_cons]
 exact ax.bind h1 h2
theorem DA {st:Stmt}(h1:ax V Γ p (exec st env) C (.ok (.ret v)) p' C'):ax V Γ p (execs (st::rest) env) C (.ok (.ret v)) p' C':=by
 rw [execs_cons]
 exact ax.bind h1 ax.pure
noncomputable def UH:Flow->ay
 | .ret v=>v
 |_=> .none
theorem wI {f:Flow}(h:ax V Γ p (execs body env) C (.ok f) p' C'):cW V Γ p (aA (.func body env)) C (.ok (.ret (UH f))) C':=by
 rw [<-or]
 show cW V Γ p (do point;match<-(execs body env).onRaise (leaving env)with| .ret v=>PySem.ret v|_=>PySem.ret .none) C _ C'
 refine ax.c6 (λs R=>⟨s,.refl R,λ_ _ _ _ _ _ q=> .point q⟩) ?_
 refine ax.c6 (ax.onRaise h) ?_
 cases f<;>exact ax.pure.done
end
noncomputable def p7:Str:=⟨⟨[95,95,99,108,97,115,115,95,95]⟩⟩
noncomputable def gf:d:=[115,101,108,102]
noncomputable def ez (P:aF)(a F:Nat):Env:=eQ P a F [(p7,130)]
noncomputable def bJ (D:Nat)(l:LV)(e:Nat):az:={cls:= .ref 206,dict:=some D,data:= .seq ⟨l⟩ e}
noncomputable def cq (P:aF)(k n t e:Nat):az:=fU [de P [95,105,110,105,116,105,97,108,95,115,105,122,101] k (.int (O n) t)] e
noncomputable def oH (A:Nat):az:=rec "super" [.ref 206,.ref A,.ref 206]
noncomputable def p8 (P:aF)(F:Nat)(ac:b9):bd:=⟨.func (cw P 203) (ez P 203 F),none,none,ac,none⟩
noncomputable def ip (P:aF)(F A D k e:Nat)(Y:LV)(S:aJ)(N J U:Nat):aC:=⟨S++[(F,bz [de P gf k (.ref A)] 1),(A,bJ D Y e)],[],N,J,[],U⟩
noncomputable def mP:Str:=⟨⟨[115,117,112,101,114]⟩⟩
noncomputable def wJ:Str:=⟨⟨gf⟩⟩
noncomputable def JQ:Str:=⟨⟨[95,95,108,101,110,95,95]⟩⟩
noncomputable def JR (P:aF):Expr:=jO (dW (cw P 203) 0)
noncomputable def uk:Expr->aw
 | .Call _ _ _ p=>p
 | .Attribute _ _ p=>p
 |_=>default
def mQ (w:WB)(A D e N J U t' N' au:Nat)(Y:LV)(ac:b9)(p:aw):Prop:=
 aP w ⟨.call (.ref 203) ⟨[.ref A],[]⟩,none,none,ac,none⟩ p ((VV w).M.den (.call (.ref 203) ⟨[.ref A],[]⟩)) ⟨[(A,bJ D Y e)],[],N,J,[],U⟩ (.ok (.ret (.int (O Y.length) t'))) ⟨[(A,bJ D Y e)],[],N',au,[],U⟩
noncomputable def JS (w:WB)(aH:d){A D e N J U t' N' au:Nat}{Y:LV}{ac:b9}{p:aw}(h:mQ w A D e N J U t' N' au Y ac p):aM w:= .fn _ _ aH [] [] _ _ _ h
def afA (w:WB)(A D e N J U e' N' au:Nat)(Y:LV)(v:ay)(ac:b9)(p:aw):Prop:=
 aP w ⟨.call (.ref 166) ⟨[.ref A],[]⟩,none,none,ac,none⟩ p ((VV w).M.den (.call (.ref 166) ⟨[.ref A],[]⟩)) ⟨[(A,bJ D (Y++[v]) e)],[],N,J,[],U⟩ (.ok (.ret v)) ⟨[(A,bJ D Y e')],[],N',au,[],U⟩
def afB (w:WB)(A D e N J U a t1 t2 N' au:Nat)(ac:b9)(p:aw):Prop:=
 aP w ⟨.call (.ref 166) ⟨[.ref A],[]⟩,none,none,ac,none⟩ p ((VV w).M.den (.call (.ref 166) ⟨[.ref A],[]⟩)) ⟨[(A,bJ D [] e)],[],N,J,[],U⟩ (.ok (.ret (.ref a))) ⟨[(A,bJ D [] e),(a,aG [Z [] t1,Z [] t2])],[],N',au,[],U⟩
def ul (w:WB)(A D n tn N J U k e' N' au:Nat)(ac:b9)(p:aw):Prop:=
 aP w ⟨.call (.ref 143) ⟨[.ref A,.int (O n) tn],[]⟩,none,none,ac,none⟩ p ((VV w).M.den (.call (.ref 143) ⟨[.ref A,.int (O n) tn],[]⟩)) ⟨[(A,bJ D [] 0),(D,fU [] 0)],[],N,J,[],U⟩ (.ok (.ret .none)) ⟨[(A,bJ D [] 0),(D,cq w.P k n tn e')],[],N',au,[],U⟩
noncomputable def UI (w:WB)(aH:d){A D n tn N J U k e' N' au:Nat}{ac:b9}{p:aw}(h:ul w A D n tn N J U k e' N' au ac p):aM w:= .fn _ _ aH [] [] _ _ _ h
section
open PySem.SeqAt
noncomputable def eL (m n e:Nat):Nat:=if(n==m)=true then e else e+1
theorem UJ (D:Nat)(Y us:LV)(e:Nat)(f:Array ay->Array ay)(hf:f ⟨Y⟩=⟨us⟩):Obj.mapSeq f (bJ D Y e)=bJ D us (eL Y.length us.length e):=by
 delta bJ Obj.mapSeq
 dsimp only
 rw [hf]
 rfl
theorem DB {us:LV}{L:aJ}(R:Rep V (cf ((A,bJ D Y e)::L) s) s)(f:Array ay->Array ay)(hf:f ⟨Y⟩=⟨us⟩):Good V (cf ((A,bJ D Y e)::L) s) ⟨(A,bJ D us (eL Y.length us.length e))::L,[],s.heap.objs.size,s.toks,[],s.gens.size⟩ s {s with heap:=s.heap.update A (Obj.mapSeq f)}:=by
 have hm:=UJ D Y us e f hf
 exact R.upd (.refl _) (by rw [hm];exact .refl _) (by rw [hm];rfl) rfl bH
theorem JT (m e:Nat):eL m (m+1) e=e+1:=by
 delta eL
 rw [if_neg (by simp)]
theorem UK (A D e:Nat)(Y:LV)(v:ay)(h:Y.length<=100000):Bi (VV w) 0 (bV false "list.append" ⟨[.ref A,v],[]⟩) [(A,bJ D Y e)] (λ_=>[(A,bJ D (Y++[v]) (e+1))]) (λ_ _=> .ok (.ret .none)) 0 0:=by
 refine dO λAr s _ _ _ _ R=>dX (B:=Builtin.«list.append») (by decide+kernel) (kK (by kernel_rfl)) ?_
 have ho:=R.led _ (.head _)
 have up:=DB R (λxs=>xs.push v) (us:=Y++[v]) (by simp)
 rw [ci,o7,JT]at up
 have cK:(⟨Y⟩:Array ay).size<=sizeLine:=by show Y.length<=2^24;lia
 have AA:((⟨Y⟩:Array ay).push v).size<=sizeLine+1:=by rw [Array.size_push];show Y.length+1<=2^24+1;lia
 wp_walk using(wpAny_updateSeq ho rfl)
 exact⟨rfl,up⟩
noncomputable def lP (w:WB)(aH:d)(A D e:Nat){Y:LV}(v:ay)(h:Y.length<=100000):aM w:= .bi _ _ _ _ aH _ _ _ _ _ (UK A D e Y v h)
theorem UL (I l D i e:Nat)(Y:LV)(v:ay)(h:Y[i]? =some v):Bi (VV w) 0 (bV false "list_iterator.__next__" ⟨[.ref I],[]⟩) [(I,bM l i),(l,bJ D Y e)] (λ_=>[(I,bM l (i+1)),(l,bJ D Y e)]) (λ_ _=> .ok (.ret v)) 0 0:=by
 refine dO λA s _ _ _ _ R=>dX (by decide+kernel) entry_listiter_next ?_
 have ho:=R.led _ (.head _)
 have hl:=R.led _ (.tail _ (.head _))
 have up:=R.upd (C':=cf [(I,bM l (i+1)),(l,bJ D Y e)] s) (f:=Obj.mapFields (·.setIfInBounds 1 (ft (((i:Nat):Int)+1)))) (.refl _) (.refl _) rfl rfl bH
 show wpAny (model _ _) _ (field (.ref I) 0>>=_) _ _ s
 refine bf (fI ho rfl rfl ?_)
 show wpAny _ _ (if(aQ l==mg)=true then _ else _) _ _ s
 refine wpAny_ite_false (decide_eq_false (show¬((aQ l==mg)=true)from qu)) ?_
 show wpAny _ _ (field (.ref I) 1>>=_) _ _ s
 refine bf (fI ho rfl (x:= .int ((i:Nat):Int) 0) rfl ?_)
 show wpAny _ _ (seqItems? (.ref l)>>=_) _ _ s
 refine bf (lj hl rfl ?_)
 have hv:(⟨Y⟩:Array ay)[i]? =some v:=by simpa using h
 simp only [r5,hv]
 refine bf (wpAny_setField ho rfl (by show 1<2;decide) ?_)
 exact dh ⟨rfl,up⟩
noncomputable def AB (w:WB)(aH:d)(I l D:Nat){i:Nat}(e:Nat){Y:LV}{v:ay}(h:Y[i]? =some v):aM w:= .bi _ _ _ _ aH _ _ _ _ _ (UL I l D i e Y v h)
theorem UM (I l D i e:Nat)(Y:LV)(h:Y[i]? =none):Bi (VV w) 1 (bV false "list_iterator.__next__" ⟨[.ref I],[]⟩) [(I,bM l i),(l,bJ D Y e)] (λN=>[(N+1,qZ N),(N,aG []),(I,eY i),(l,bJ D Y e)]) (λN _=> .error (.ref (N+1))) 2 0:=by
 refine dO λA s hh _ _ _ R=>dX (by decide+kernel) entry_listiter_next ?_
 have ho:=R.led _ (.head _)
 have hl:=R.led _ (.tail _ (.head _))
 show wpAny (model _ _) _ (field (.ref I) 0>>=_) _ _ s
 refine bf (fI ho rfl rfl ?_)
 show wpAny _ _ (if(aQ l==mg)=true then _ else _) _ _ s
 refine wpAny_ite_false (decide_eq_false (show¬((aQ l==mg)=true)from qu)) ?_
 show wpAny _ _ (field (.ref I) 1>>=_) _ _ s
 refine bf (fI ho rfl (x:= .int ((i:Nat):Int) 0) rfl ?_)
 show wpAny _ _ (seqItems? (.ref l)>>=_) _ _ s
 refine bf (lj hl rfl ?_)
 have hv:(⟨Y⟩:Array ay)[i]? =none:=by simpa using h
 simp only [r5,hv]
 refine bf (wpAny_rule (bf (wpAny_setField ho rfl (by show 0<2;decide) ?_)))
 exact CR R (Obj.mapFields (·.setIfInBounds 0 .none)) rfl rfl (hh (b7 _)) λs' g=>⟨rfl,g⟩
noncomputable def AC (w:WB)(aH:d)(I l D:Nat){i:Nat}(e:Nat){Y:LV}(h:Y[i]? =none):aM w:= .bi _ _ _ _ aH _ _ _ _ _ (UM I l D i e Y h)
theorem UN (l D e n t:Nat)(Y:LV)(v:ay)(k:Int)(hf:Builtin.List.listFitsIndex k=true)(hk:k=O n)(h:Y[n]? =some v):Bi (VV w) 0 (bV false "list.__getitem__" ⟨[.ref l,.int k t],[]⟩) [(l,bJ D Y e)] (λ_=>[(l,bJ D Y e)]) (λ_ _=> .ok (.ret v)) 0 0:=by
 refine dO λA s _ _ _ _ R=>dX (by decide+kernel) entry_list_getitem ?_
 have ho:=R.led _ (.head _)
 generalize hi:bE k t=i
 show wpAny (model _ _) _ (Builtin.List.listSubscript? i>>=_) _ _ s
 refine bf ?_
 rw [<-hi]
 refine wpAny_listSubscript_int hf ?_
 rw [hk]
 show wpAny _ _ ((seqItemAt l n>>=λr=>pure (r.map (n,·)))>>=_) _ _ s
 refine bf (bf (wpAny_seqItemAt ho rfl (dh ?_)))
 have hv:(⟨Y⟩:Array ay)[n]? =some v:=by simpa using h
 rw [hv]
 exact bf (dh (dh ⟨rfl,.refl R⟩))
noncomputable def kx (w:WB)(aH:d)(l D e:Nat){n:Nat}(t:Nat){Y:LV}{v:ay}(hn:n<=100000)(h:Y[n]? =some v):aM w:= .bi _ _ _ _ aH _ _ _ _ _ (UN l D e n t Y v (O n) (Ao hn) rfl h)
theorem UO (sl l D e ta:Nat)(Y:LV)(lo:Nat)(h:Y.length<=100000):Bi (VV w) 0 (bV false "list.__getitem__" ⟨[.ref l,.ref sl],[]⟩) [(sl,rec "slice" [.int (O lo) ta,.none,.none]),(l,bJ D Y e)] (λN=>[(N,aq (Y.drop lo) 0),(sl,rec "slice" [.int (O lo) ta,.none,.none]),(l,bJ D Y e)]) (λN _=> .ok (.ret (.ref N))) 1 0:=by
 refine dO λA s _ _ _ _ R=>dX (by decide+kernel) entry_list_getitem ?_
 have dp:=R.led _ (.head _)
 have ho:=R.led _ (.tail _ (.head _))
 have mF:s.TypeIs (.ref sl) "slice":=⟨_,dp,rfl⟩
 have hp:slicePick ⟨Y⟩ (some (O lo)) none none=⟨Y.drop lo⟩:=slicePick_from' ⟨Y⟩ lo
 have g:=R.new (C':=⟨[(s.heap.objs.size,aq (Y.drop lo) 0),(sl,rec "slice" [.int (O lo) ta,.none,.none]),(l,bJ D Y e)],[],s.heap.objs.size+1,s.toks,[],s.gens.size⟩) rfl rfl rfl bH
 show wpAny (model _ _) _ (Builtin.List.listSubscript? (.ref sl)>>=_) _ _ s
 refine bf ?_
 delta Builtin.List.listSubscript?
 refine bf (wpAny_specialOf mF slice_no_index ?_)
 simp only [Gm,if_true]
 refine dh ?_
 show wpAny _ _ (typeOf (.ref sl)>>=_) _ _ s
 refine bf (wpAny_typeOf mF ?_)
 refine wpAny_ite_false rfl ?_
 rw [listSliceParts_eq]
 refine bf (bf (fI dp rfl rfl (bf (m7 .none ?_))))
 refine wpAny_ite_false rfl ?_
 refine bf (fI dp rfl rfl (bf (m7 (wg (some lo) ta) ?_)))
 refine bf (fI dp rfl rfl (bf (m7 .none (dh ?_))))
 refine bf ?_
 delta Builtin.List.listItems
 refine bf (lj ho rfl (dh ?_))
 refine bf (wpAny_of_eq (sliceIndices_raw (some (O lo)) none none Y.length (by simp)) ?_)
 refine bf (wpAny_newObj_type (dh ?_) (iR (slicePick_size_le ⟨Y⟩ (some (O lo)) none none) (by show Y.length<=2^24;lia)))
 have e1:({cls:= .type "list",data:= .seq (slicePick ⟨Y⟩ (some (O lo)) none none)}:az)=aq (Y.drop lo) 0:=by rw [hp];rfl
 refine⟨rfl,?_⟩
 show Good _ _ _ s {s with heap:=s.heap.push {cls:= .type "list",data:= .seq (slicePick ⟨Y⟩ (some (O lo)) none none)}}
 rw [e1]
 exact g
noncomputable def JU (w:WB)(aH:d)(sl l D e ta:Nat){Y:LV}(lo:Nat)(h:Y.length<=100000):aM w:= .bi _ _ _ _ aH _ _ _ _ _ (UO sl l D e ta Y lo h)
theorem JV (sl l r D e e2 ta:Nat)(Y rs us:LV)(lo:Option Nat)(rn:Y.length<=100000)(JW:rs.length<=100000)(wK:lo.getD 0<=Y.length)(mR:us=Y.take (lo.getD 0)++rs):Bi (VV w) 0 (bV false "list.__setitem__" ⟨[.ref l,.ref sl,.ref r],[]⟩) [(l,bJ D Y e),(sl,rec "slice" [ox lo ta,.none,.none]),(r,aq rs e2)] (λN=>[(l,bJ D us (eL Y.length us.length e)),(sl,rec "slice" [ox lo ta,.none,.none]),(r,aq rs e2)]) (λN _=> .ok (.ret .none)) 0 0:=by
 refine dO λA s _ _ _ _ R=>dX (by decide+kernel) F.entry_list_setitem ?_
 have ho:=R.led _ (.head _)
 have dp:=R.led _ (.tail _ (.head _))
 have wM:=R.led _ (.tail _ (.tail _ (.head _)))
 have mF:s.TypeIs (.ref sl) "slice":=⟨_,dp,rfl⟩
 have DC:s.TypeIs (.ref r) "list":=⟨_,wM,rfl⟩
 have bD:l≠r:=by
  have:=R.nd
  simp [cf,aC.all]at this
  exact this.1.2
 show wpAny (model _ _) _ (Builtin.List.listSubscript? (.ref sl)>>=_) _ _ s
 refine bf ?_
 delta Builtin.List.listSubscript?
 refine bf (wpAny_specialOf mF slice_no_index ?_)
 simp only [Gm,if_true]
 refine dh ?_
 show wpAny _ _ (typeOf (.ref sl)>>=_) _ _ s
 refine bf (wpAny_typeOf mF ?_)
 refine wpAny_ite_false rfl ?_
 rw [listSliceParts_eq]
 refine bf (bf (fI dp rfl rfl (bf (m7 .none ?_))))
 refine wpAny_ite_false rfl ?_
 refine bf (fI dp rfl rfl (bf (m7 (wg lo ta) ?_)))
 refine bf (fI dp rfl rfl (bf (m7 .none (dh ?_))))
 have h1:Builtin.List.listSameRef (.ref l) (.ref r)=false:=by simp [Builtin.List.listSameRef,bD]
 refine wpAny_ite_false (decide_eq_false (by rw [h1];exact qu)) ?_
 delta Builtin.List.listAllItems
 refine bf (bf (wpAny_typeOf DC ?_))
 refine wpAny_ite_true rfl ?_
 delta Builtin.List.listItems
 refine bf (lj wM rfl (dh ?_))
 refine bf (bf (lj ho rfl (dh ?_)))
 refine bf (wpAny_of_eq (sliceIndices_raw (lo.map O) none none Y.length (by simp)) ?_)
 have hb:sliceBounds (lo.map O) none none Y.length=(((lo.getD 0:Nat):Int),((Y.length:Nat):Int),1):=by
  delta sliceBounds
  cases lo with
  |none=>rfl
  |some n=>
   have hn:n<=Y.length:=wK
   show((if(1:Int)>0 then max 0 (min (if((n:Nat):Int)<0 then _ else((n:Nat):Int)) (Y.length:Int))else _),_,_)=_
   rw [if_pos (by decide),if_neg (by lia)]
   rw [Int.min_eq_left (by lia),Int.max_eq_right (by lia)]
   rfl
 rw [hb]
 dsimp only
 refine wpAny_ite_true rfl ?_
 refine bf (wpAny_rule ?_)
 have DD:Builtin.List.listTooLong ((⟨Y⟩:Array ay).size+(⟨rs⟩:Array ay).size)=false:=by
  delta Builtin.List.listTooLong
  refine decide_eq_false ?_
  show¬(Y.length+rs.length>2^24)
  lia
 rw [DD,if_neg qu]
 have e1:(((lo.getD 0:Nat):Int)).toNat=lo.getD 0:=r5 _
 have e2:(max ((lo.getD 0:Nat):Int) ((Y.length:Nat):Int)).toNat=Y.length:=by
  rw [Int.max_eq_right (by lia)]
  exact r5 _
 rw [e1,e2]
 have hf:(λxs:Array ay=>xs.extract 0 (lo.getD 0)++⟨rs⟩++xs.extract Y.length) ⟨Y⟩=(⟨us⟩:Array ay):=by
  apply Array.ext'
  simp [mR]
 have up:=DB R (λxs:Array ay=>xs.extract 0 (lo.getD 0)++⟨rs⟩++xs.extract Y.length) hf
 have hz:(⟨Y⟩:Array ay).size<=sizeLine:=by show Y.length<=2^24;lia
 have AA:((λxs:Array ay=>xs.extract 0 (lo.getD 0)++⟨rs⟩++xs.extract Y.length) ⟨Y⟩).size<=sizeLine+1:=by
  rw [hf,mR]
  show(Y.take (lo.getD 0)++rs).length<=2^24+1
  rw [ci,mj]
  lia
 show wpAny _ _ (updateSeq l _>>=_) _ _ s
 refine bf (wpAny_updateSeq ho rfl ?_ hz AA)
 refine bf (wpAny_letGo ?_)
 exact dh ⟨rfl,up⟩
noncomputable def JX (w:WB)(aH:d)(sl l r D e e2 ta:Nat){Y:LV}{n:Nat}(rn:Y.length<=100000)(wK:n<=Y.length):aM w:= .bi _ _ _ _ aH _ _ _ _ _ (JV sl l r D e e2 ta Y [] (Y.take n) (some n) rn (by simp) wK (by simp))
noncomputable def um (w:WB)(aH:d)(sl l r D e e2:Nat){Y:LV}(rs:LV)(rn:Y.length<=100000)(JW:rs.length<=100000):aM w:= .bi _ _ _ _ aH _ _ _ _ _ (JV sl l r D e e2 0 Y rs rs none rn JW (fv _) (by simp))
theorem UP (A D e:Nat)(Y:LV)(v:ay)(h:Y.length<=100000):Bi (VV w) 0 (bV false "list.pop" ⟨[.ref A],[]⟩) [(A,bJ D (Y++[v]) e)] (λ_=>[(A,bJ D Y (e+1))]) (λ_ _=> .ok (.ret v)) 0 0:=by
 refine dO λAr s _ _ _ _ R=>dX (by decide+kernel) F.entry_list_pop ?_
 have ho:=R.led _ (.head _)
 show wpAny (model _ _) _ (Builtin.List.listItems (.ref A)>>=_) _ _ s
 delta Builtin.List.listItems
 refine bf (bf (lj ho rfl (dh ?_)))
 have bD:(⟨Y++[v]⟩:Array ay).isEmpty=false:=by simp
 rw [bD,if_neg qu]
 have e1:seqIndex? (-1) (⟨Y++[v]⟩:Array ay).size=some Y.length:=by
  have hz:(⟨Y++[v]⟩:Array ay).size=Y.length+1:=by simp
  rw [hz]
  delta seqIndex?
  have hj:(-1:Int)+((Y.length+1:Nat):Int)=(Y.length:Int):=by lia
  simp only [show(-1:Int)<0 from by decide,if_true,hj]
  rw [if_pos (by simp;lia)]
  rfl
 rw [e1]
 have hv:(⟨Y++[v]⟩:Array ay)[Y.length]? =some v:=by simp
 show wpAny _ _ (match(((⟨Y++[v]⟩:Array ay)[Y.length]?).map (Y.length,·))with|some (_,x)=>_|none=>_) _ _ s
 rw [hv]
 have hf:(λxs:Array ay=>xs.eraseIdxIfInBounds Y.length) ⟨Y++[v]⟩=(⟨Y⟩:Array ay):=by
  apply Array.ext'
  simp
  rw [List.eraseIdx_append_of_length_le (b7 _)]
  simp
 have up:=DB R (λxs:Array ay=>xs.eraseIdxIfInBounds Y.length) hf
 have he:eL (Y++[v]).length Y.length e=e+1:=by delta eL;rw [if_neg (by simp)]
 rw [he]at up
 show wpAny _ _ (updateSeq A _>>=_) _ _ s
 refine bf (wpAny_updateSeq ho rfl ?_ (by show(Y++[v]).length<=2^24;simp;lia) (by show((λxs:Array ay=>xs.eraseIdxIfInBounds Y.length) ⟨Y++[v]⟩).size<=sizeLine+1;rw [hf];show Y.length<=2^24+1;lia))
 exact dh ⟨rfl,up⟩
noncomputable def UQ (w:WB)(aH:d)(A D e:Nat){Y:LV}(v:ay)(h:Y.length<=100000):aM w:= .bi _ _ _ _ aH _ _ _ _ _ (UP A D e Y v h)
end
section
open PySem.SeqAt
theorem UR (a:d)(c:Nat)(ta tb:Nat)(h:a.getLast? =some c):Bi (VV w) 0 (bV true "str.__getitem__" ⟨[Z a ta,.int (cJ 0) tb],[]⟩) [] (λ_=>[]) (λ_ t=> .ok (.ret (Z [c] t))) 0 1:=by
 obtain⟨x,rfl⟩:=List.getLast?_eq_some_iff.mp h
 exact JA x c ta tb
noncomputable def p9 (w:WB){a:d}{c:Nat}(ta tb:Nat)(h:a.getLast? =some c):aM w:= .bi _ _ _ _ [] _ _ _ _ _ (UR a c ta tb h)
end
section
open PySem.Builtin.Range
noncomputable def un (w:WB)(aH:d)(R:Nat){n:Nat}(ta tb tc:Nat)(hb:n<=100000):aM w:=
 .bi false 0 "range.__iter__" ⟨[.ref R],[]⟩ aH [(R,pX (O n) ta 0 tb (cJ 0) tc)] (λN=>[(N,bF (O n) (O n) (cJ 0)),(R,pX (O n) ta 0 tb (cJ 0) tc)]) (λN _=> .ok (.ret (.ref N))) 1 0
  (Jx R (O n) 0 (cJ 0) (O n) ta tb tc (by
   delta rangeSize
   rw [if_neg (by decide)]
   by_cases q:n=0
   ·subst q;rfl
   ·rw [if_pos (by show(n:Int)>0;lia)]
    show((n:Int)-0-1)/1+1=(n:Int)
    lia) (by
   rw [wB c5,show rangeFitsLong 0=true by decide,show rangeFitsLong (cJ 0)=true by decide,if_neg (by decide),show rangeFitsLong (0+(cJ 0+1))=true by decide]
   simp))
end
section
open PySem.SeqAt
theorem US:entryFor table "tuple.__ne__"=some Builtin.«tuple.__ne__»:=kK (by kernel_rfl)
theorem str_beq (x y:d):((⟨⟨x⟩⟩:Str)==⟨⟨y⟩⟩)=(x==y):=by
 rw [r6,beq_iff_eq,beq_iff_eq]
 constructor
 ·intro q;injection q with q;injection q
 ·intro q;rw [q]
theorem UT (a b:Nat)(g1 x1 g2 x2:d)(t1 t2 t3 t4:Nat):Bi (VV w) 0 (bV false "tuple.__ne__" ⟨[.ref a,.ref b],[]⟩) [(a,aG [Z g1 t1,Z x1 t2]),(b,aG [Z g2 t3,Z x2 t4])] (λ_=>[(a,aG [Z g1 t1,Z x1 t2]),(b,aG [Z g2 t3,Z x2 t4])]) (λ_ _=> .ok (.ret (.bool (!(g1==g2&&x1==x2))))) 0 0:=by
 refine dO λA s _ _ _ _ R=>dX (by decide+kernel) US ?_
 have ha:=R.led _ (.head _)
 have hb:=R.led _ (.tail _ (.head _))
 have e1:EqAt A.in1 s (Z g1 t1) (Z g2 t3) (g1==g2):=str_beq g1 g2▸EqAt.str_str _ _ _ _
 have e2:EqAt A.in1 s (Z x1 t2) (Z x2 t4) (x1==x2):=str_beq x1 x2▸EqAt.str_str _ _ _ _
 have f3:isSubtype (.type "tuple") (.type "tuple")=pure true:=by rw [isSubtype_type];kernel_rfl
 have ha:s.heap.get? a=some (aG [Z g1 t1,Z x1 t2]):=ha
 have hb:s.heap.get? b=some (aG [Z g2 t3,Z x2 t4]):=hb
 wp_walk using AutoSeq1.wpAny_loadPart' ha,AutoSeq1.wpAny_loadPart' hb
 show wpAny _ _ (isSubtype (.type "tuple") (.type "tuple")) _ _ _
 refine wpAny_of_eq f3 ?_
 have mT:∀{aj:ay->bI->Prop} {Q:Bool->bI->Prop},Q (g1==g2) s->wpAny (VV w).M A.in1 (eqBool (Z g1 t1) (Z g2 t3)) Q aj s:=λh=>e1 _ _ _ _ h
 have mU:∀{aj:ay->bI->Prop} {Q:Bool->bI->Prop},Q (x1==x2) s->wpAny (VV w).M A.in1 (eqBool (Z x1 t2) (Z x2 t4)) Q aj s:=λh=>e2 _ _ _ _ h
 cases h1:(g1==g2)with
 |false=>
  rw [h1]at mT
  wp_walk using AutoSeq1.wpAny_loadPart' ha,AutoSeq1.wpAny_loadPart' hb,mT,mU
  exact⟨rfl,.refl R⟩
 |true=>
  rw [h1]at mT
  cases h2:(x1==x2)with
  |false=>
   rw [h2]at mU
   wp_walk using AutoSeq1.wpAny_loadPart' ha,AutoSeq1.wpAny_loadPart' hb,mT,mU
   exact⟨rfl,.refl R⟩
  |true=>
   rw [h2]at mU
   wp_walk using AutoSeq1.wpAny_loadPart' ha,AutoSeq1.wpAny_loadPart' hb,mT,mU
   exact⟨rfl,.refl R⟩
noncomputable def AD (w:WB)(aH:d)(a b:Nat){g1 x1 g2 x2:d}(t1 t2 t3 t4:Nat){r:Bool}(h:(!(g1==g2&&x1==x2))=r):aM w:= .bi _ _ _ _ aH _ _ _ _ _ (h▸UT a b g1 x1 g2 x2 t1 t2 t3 t4)
theorem UU:entryFor table "tuple.__gt__"=some Builtin.«tuple.__gt__»:=kK (by kernel_rfl)
theorem UV (a b:Nat)(r1 a1 r2 a2:Int)(t1 t2 t3 t4:Nat):Bi (VV w) 0 (bV false "tuple.__gt__" ⟨[.ref a,.ref b],[]⟩) [(a,aG [.int r1 t1,.int a1 t2]),(b,aG [.int r2 t3,.int a2 t4])] (λ_=>[(a,aG [.int r1 t1,.int a1 t2]),(b,aG [.int r2 t3,.int a2 t4])]) (λ_ _=> .ok (.ret (.bool (if(r1==r2)=true then decide (a1>a2)else decide (r1>r2))))) 0 0:=by
 refine dO λA s _ _ _ _ R=>dX (by decide+kernel) UU ?_
 have ha:=R.led _ (.head _)
 have hb:=R.led _ (.tail _ (.head _))
 have e1:EqAt A.in1 s (.int r1 t1) (.int r2 t3) (r1==r2):=EqAt.int_int _ _ _ _
 have e2:EqAt A.in1 s (.int a1 t2) (.int a2 t4) (a1==a2):=EqAt.int_int _ _ _ _
 have f3:isSubtype (.type "tuple") (.type "tuple")=pure true:=by rw [isSubtype_type];kernel_rfl
 have ha:s.heap.get? a=some (aG [.int r1 t1,.int a1 t2]):=ha
 have hb:s.heap.get? b=some (aG [.int r2 t3,.int a2 t4]):=hb
 have mT:∀{aj:ay->bI->Prop} {Q:Bool->bI->Prop},Q (r1==r2) s->wpAny (VV w).M A.in1 (eqBool (.int r1 t1) (.int r2 t3)) Q aj s:=λh=>e1 _ _ _ _ h
 have mU:∀{aj:ay->bI->Prop} {Q:Bool->bI->Prop},Q (a1==a2) s->wpAny (VV w).M A.in1 (eqBool (.int a1 t2) (.int a2 t4)) Q aj s:=λh=>e2 _ _ _ _ h
 have g1:∀{aj:ay->bI->Prop} {Q:ay->bI->Prop},Q (.bool (decide (r1>r2))) s->wpAny (VV w).M A.in1 (richCompare .Gt (.int r1 t1) (.int r2 t3)) Q aj s:=λ{aj Q} h=>(show wpAny (model _ _) _ (compareOp .Gt (.int r1 t1) (.int r2 t3)) Q aj s from gt_int h)
 have g2:∀{aj:ay->bI->Prop} {Q:ay->bI->Prop},Q (.bool (decide (a1>a2))) s->wpAny (VV w).M A.in1 (richCompare .Gt (.int a1 t2) (.int a2 t4)) Q aj s:=λ{aj Q} h=>(show wpAny (model _ _) _ (compareOp .Gt (.int a1 t2) (.int a2 t4)) Q aj s from gt_int h)
 wp_walk using AutoSeq1.wpAny_loadPart' ha,AutoSeq1.wpAny_loadPart' hb
 show wpAny _ _ (isSubtype (.type "tuple") (.type "tuple")) _ _ _
 refine wpAny_of_eq f3 ?_
 cases h1:(r1==r2)with
 |false=>
  rw [h1]at mT
  wp_walk using AutoSeq1.wpAny_loadPart' ha,AutoSeq1.wpAny_loadPart' hb,mT,mU,g1,g2
  exact⟨rfl,.refl R⟩
 |true=>
  rw [h1]at mT
  cases h2:(a1==a2)with
  |false=>
   rw [h2]at mU
   wp_walk using AutoSeq1.wpAny_loadPart' ha,AutoSeq1.wpAny_loadPart' hb,mT,mU,g1,g2
   exact⟨rfl,.refl R⟩
  |true=>
   rw [h2]at mU
   have h3:decide (a1>a2)=false:=by rw [beq_iff_eq]at h2;rw [h2];simp
   rw [h3]
   wp_walk using AutoSeq1.wpAny_loadPart' ha,AutoSeq1.wpAny_loadPart' hb,mT,mU,g1,g2
   exact⟨rfl,.refl R⟩
noncomputable def JY (w:WB)(aH:d)(a b:Nat){r1 a1 r2 a2:Int}(t1 t2 t3 t4:Nat){r:Bool}(h:(if(r1==r2)=true then decide (a1>a2)else decide (r1>r2))=r):aM w:= .bi _ _ _ _ aH _ _ _ _ _ (h▸UV a b r1 a1 r2 a2 t1 t2 t3 t4)
end
section
open PySem.SeqAt
theorem UW (a b:Nat)(v1 v2:ay):Bi (VV w) 0 (bV false "list.__iadd__" ⟨[.ref a,.ref b],[]⟩) [(a,aq [] 0),(b,aG [v1,v2])] (λ_=>[(a,aq [v1,v2] 1),(b,aG [v1,v2])]) (λ_ _=> .ok (.ret (.ref a))) 0 0:=by
 refine dO λA s _ _ _ _ R=>dX (by decide+kernel) F.entry_list_iadd ?_
 have ha:s.heap.get? a=some (aq [] 0):=R.led _ (.head _)
 have hb:s.heap.get? b=some (aG [v1,v2]):=R.led _ (.tail _ (.head _))
 have bD:a≠b:=by
  have:=R.nd
  simp [cf,aC.all]at this
  exact this
 have h1:Builtin.List.listSameRef (.ref a) (.ref b)=false:=by simp [Builtin.List.listSameRef,bD]
 have hT:s.TypeIs (.ref b) "tuple":=⟨_,hb,rfl⟩
 have up:=R.upd (C':=cf [(a,aq [v1,v2] 1),(b,aG [v1,v2])] s) (f:=Obj.mapSeq λxs=>xs++ #[v1,v2]) (A:=[(b,aG [v1,v2])]) (.refl _) (.refl _) rfl rfl bH
 wp_walk using AutoSeq1.wpAny_loadPart' ha,AutoSeq1.wpAny_loadPart' hb
 exact⟨rfl,up⟩
noncomputable def AE (w:WB)(aH:d)(a b:Nat)(v1 v2:ay):aM w:= .bi _ _ _ _ aH _ _ _ _ _ (UW a b v1 v2)
end
noncomputable def JZ (a:Nat)(l:LV):bL:= .builtin "type.__call__" ⟨.ref a::l,[]⟩
noncomputable def uo (P:aF)(hd wd:Nat)(th tw tc ts K:Nat)(sg:d)(G:aw):bd:=⟨.call (.ref 122) ⟨[.int (O hd) th,.int (O wd) tw,Z [32] tc,Z sg ts],[]⟩,none,none,cO P K G,none⟩
noncomputable def uq (P:aF)(F hd wd:Nat)(th tw tc ts K:Nat)(sg:d)(p p3 G:aw):b9:=
 (JZ 206 [.int (O hd) th],p3)::dB P 63 F p3 ((JZ 122 [.int (O hd) th,.int (O wd) tw,Z [32] tc,Z sg ts],p)::cO P K G)
noncomputable def UX (w:WB)(aH:d){A D hd th N J U k e' N' au F wd tw tc ts K:Nat}{sg:d}{p p3 G p4:aw}(h:ul w A D hd th N J U k e' N' au (uq w.P F hd wd th tw tc ts K sg p p3 G) p4):aM w:=UI w aH h
noncomputable def nL (B:Nat):az:={cls:= .ref 122,dict:=some (B+962)}
noncomputable def fF (P:aF)(B H z k3 k4 k5 k6 wd tw tc tl ts:Nat)(sg:d):az:=
 fU [de P [95,109,97,120,108,101,110] H (.int (O wd) tw),de P [95,99,111,110,116,105,110,117,97,116,105,111,110,95,119,115] z (Z [32] tc),de P [95,99,111,110,116,105,110,117,97,116,105,111,110,95,119,115,95,108,101,110] k3 (.int 1 tl),de P [95,115,112,108,105,116,99,104,97,114,115] k4 (Z sg ts),de P [95,108,105,110,101,115] k5 (.ref (B+962+3)),de P [95,99,117,114,114,101,110,116,95,108,105,110,101] k6 (.ref (B+962+5))] 6
noncomputable def nM (P:aF)(F ag:Nat):bL:=pz (dW (cw P 112) 2) (.ref ag) (eQ P 112 F [])
noncomputable def DE (P:aF)(F ag K:Nat)(q q1 G:aw):b9:=(nM P F ag,q)::dB P 112 F q1 (cO P K G)
noncomputable def oI (P:aF)(B:Nat)(g x:d)(tg tx F ag K:Nat)(q q1 G:aw):bd:=⟨.call (.ref 119) ⟨[.ref (B+962+1),Z g tg,Z x tx],[]⟩,none,none,DE P F ag K q q1 G,none⟩
noncomputable def AF (P:aF)(F1 F ag K:Nat)(q0 q q1 G:aw):b9:=dB P 119 F1 q0 (DE P F ag K q q1 G)
noncomputable def qa (A:Nat):bL:= .builtin "len" ⟨[.ref A],[]⟩
noncomputable def DF (P:aF):Stmt:=dW (inner (dW (cw P 119) 1)) 0
noncomputable def d6 (P:aF)(F1 af:Nat):bL:=pz (DF P) (.ref af) (eQ P 119 F1 [])
noncomputable def J0 (P:aF)(F1:Nat):bL:= .block (orelse (DF P)) (eQ P 119 F1 [])
inductive Lx where
 |c1 (F1 F ag K:Nat) (q0 q q1 G:aw)
 |c2 (F2 F1 F ag K:Nat) (q4 q3 q0 q q1 G:aw)
 |c3 (F2 F3 K:Nat) (q4 q5 G:aw)
 |c4 (F4 F2 F3 K:Nat) (q6 q4 q5 G:aw)
noncomputable def Lx.ac (P:aF):Lx->b9
 | .c1 F1 F ag K q0 q q1 G=>AF P F1 F ag K q0 q q1 G
 | .c2 F2 F1 F ag K q4 q3 q0 q q1 G=>dB P 84 F2 q4 ((J0 P F1,q3)::AF P F1 F ag K q0 q q1 G)
 | .c3 F2 F3 K q4 q5 G=>dB P 84 F2 q4 (dB P 70 F3 q5 (cO P K G))
 | .c4 F4 F2 F3 K q6 q4 q5 G=>dB P 195 F4 q6 (dB P 84 F2 q4 (dB P 70 F3 q5 (cO P K G)))
def fG (w:WB)(c:Lx)(A D k n t e ei:Nat)(Y:LV)(tb dk:az)(X S:aJ)(N J U t' r N' au br:Nat)(p:aw):Prop:=
 aP w ⟨qa A,none,none,c.ac w.P,none⟩ p ((VV w).M.den (qa A)) ⟨[(A,bJ D Y e),(D,cq w.P k n t ei),(168,tb)]++X,[S],N,J,[],U⟩ (.ok (.ret (.int (O r) t'))) ⟨[(A,bJ D Y e),(D,cq w.P k n t ei),(168,dk)]++X,[S],N',au,[],br⟩
noncomputable def AG (w:WB)(aH bt:d){c:Lx}{A D k n t e ei a:Nat}{Y:LV}{ob tb dk:az}{S:aJ}{N J U t' r N' au br:Nat}{p:aw}(h:fG w c A D k n t e ei (Y++[aQ a]) tb dk [(a,ob)] S N J U t' r N' au br p):aM w:= .fn _ _ aH bt [] _ _ _ h
noncomputable def AH (w:WB)(aH bt:d){F1 F ag K:Nat}{q0 q q1 G:aw}{A D k n t e ei a:Nat}{Y:LV}{ob tb dk:az}{S:aJ}{N J U t' r N' au br:Nat}{p:aw}(h:fG w (.c1 F1 F ag K q0 q q1 G) A D k n t e ei (Y++[aQ a]) tb dk [(a,ob)] S N J U t' r N' au br p):aM w:=AG w aH bt h
noncomputable def J1 (w:WB)(aH bt:d){F2 F3 K:Nat}{q4 q5 G:aw}{A D k n t e ei a:Nat}{Y:LV}{ob tb dk:az}{S:aJ}{N J U t' r N' au br:Nat}{p:aw}(h:fG w (.c3 F2 F3 K q4 q5 G) A D k n t e ei (Y++[aQ a]) tb dk [(a,ob)] S N J U t' r N' au br p):aM w:=AG w aH bt h
section
abbrev hH (Hy:WB->Lx->Prop)(T:Type)(b b2:Bool):Type:=(∀(w:f8) (F1 F ag K:Nat) (q0 q q1 G:aw),Hy ⟨w,b,b2⟩ (.c1 F1 F ag K q0 q q1 G)->T)×(∀(w:f8) (F2 F1 F ag K:Nat) (q4 q3 q0 q q1 G:aw),Hy ⟨w,b,b2⟩ (.c2 F2 F1 F ag K q4 q3 q0 q q1 G)->T)×(∀(w:f8) (F2 F3 K:Nat) (q4 q5 G:aw),Hy ⟨w,b,b2⟩ (.c3 F2 F3 K q4 q5 G)->T)×(∀(w:f8) (F4 F2 F3 K:Nat) (q6 q4 q5 G:aw),Hy ⟨w,b,b2⟩ (.c4 F4 F2 F3 K q6 q4 q5 G)->T)
section
variable {X:Type}{w:WB}{c:Lx}{Γ:WB->Lx->bd}{p p':WB->Lx->aw}{t:WB->Lx->Sem X}{C C':WB->Lx->aC}{r:WB->Lx->Res X}{Hy:WB->Lx->Prop}
noncomputable def lL (Γ:WB->Lx->bd)(p:WB->Lx->aw)(t:WB->Lx->Sem X)(C:WB->Lx->aC)(ak:Nat)(os:∀w c,Hy w c->List (aM w))(fs ts gs:d)(w:WB)(c:Lx)(h:Hy w c):Option (Res X×aw×aC×List CV):=yf fs ts gs (di aA (VV w) (fN aA (VV w) 300) 9000 (Γ w c) (p w c) (t w c) (St.of (VV w) (C w c) ak (os w c h)))
noncomputable def rL (Γ:WB->Lx->bd)(p:WB->Lx->aw)(t:WB->Lx->Sem X)(C:WB->Lx->aC)(ak:Nat)(os:∀w c,Hy w c->List (aM w))(r:WB->Lx->Res X)(p':WB->Lx->aw)(C':WB->Lx->aC)(w:WB)(c:Lx)(h:Hy w c):Option (Res X×aw×aC×List CV):=some (r w c,p' w c,C' w c,yg (di aA (VV w) (fN aA (VV w) 300) 9000 (Γ w c) (p w c) (t w c) (St.of (VV w) (C w c) ak (os w c h))))
noncomputable def qL (Γ:WB->Lx->bd)(p:WB->Lx->aw)(t:WB->Lx->Sem X)(C:WB->Lx->aC)(ak:Nat)(os:∀w c,Hy w c->List (aM w))(fs ts gs:d)(b b2:Bool):hH Hy (Option (Res X×aw×aC×List CV)) b b2:=(λw F1 F ag K q0 q q1 G h=>lL Γ p t C ak os fs ts gs ⟨w,b,b2⟩ (.c1 F1 F ag K q0 q q1 G) h,λw F2 F1 F ag K q4 q3 q0 q q1 G h=>lL Γ p t C ak os fs ts gs ⟨w,b,b2⟩ (.c2 F2 F1 F ag K q4 q3 q0 q q1 G) h,λw F2 F3 K q4 q5 G h=>lL Γ p t C ak os fs ts gs ⟨w,b,b2⟩ (.c3 F2 F3 K q4 q5 G) h,λw F4 F2 F3 K q6 q4 q5 G h=>lL Γ p t C ak os fs ts gs ⟨w,b,b2⟩ (.c4 F4 F2 F3 K q6 q4 q5 G) h)
noncomputable def qR (Γ:WB->Lx->bd)(p:WB->Lx->aw)(t:WB->Lx->Sem X)(C:WB->Lx->aC)(ak:Nat)(os:∀w c,Hy w c->List (aM w))(r:WB->Lx->Res X)(p':WB->Lx->aw)(C':WB->Lx->aC)(b b2:Bool):hH Hy (Option (Res X×aw×aC×List CV)) b b2:=(λw F1 F ag K q0 q q1 G h=>rL Γ p t C ak os r p' C' ⟨w,b,b2⟩ (.c1 F1 F ag K q0 q q1 G) h,λw F2 F1 F ag K q4 q3 q0 q q1 G h=>rL Γ p t C ak os r p' C' ⟨w,b,b2⟩ (.c2 F2 F1 F ag K q4 q3 q0 q q1 G) h,λw F2 F3 K q4 q5 G h=>rL Γ p t C ak os r p' C' ⟨w,b,b2⟩ (.c3 F2 F3 K q4 q5 G) h,λw F4 F2 F3 K q6 q4 q5 G h=>rL Γ p t C ak os r p' C' ⟨w,b,b2⟩ (.c4 F4 F2 F3 K q6 q4 q5 G) h)
theorem AI {os:∀w c,Hy w c->List (aM w)}{fs ts:d}{b:Bool}(h:qL Γ p t C ak os fs ts gs b b2=qR Γ p t C ak os r p' C' b b2)(w:f8)(c:Lx)(hy:Hy ⟨w,b,b2⟩ c):lL Γ p t C ak os fs ts gs ⟨w,b,b2⟩ c hy=rL Γ p t C ak os r p' C' ⟨w,b,b2⟩ c hy:=by
 have h1:=congrArg (λam=>am.1) h
 have h2:=congrArg (λam=>am.2.1) h
 have h3:=congrArg (λam=>am.2.2.1) h
 have h4:=congrArg (λam=>am.2.2.2) h
 cases c with
 |c1 F1 F ag K q0 q q1 G=>exact congrArg (λf=>f w F1 F ag K q0 q q1 G hy) h1
 |c2 F2 F1 F ag K q4 q3 q0 q q1 G=>exact congrArg (λf=>f w F2 F1 F ag K q4 q3 q0 q q1 G hy) h2
 |c3 F2 F3 K q4 q5 G=>exact congrArg (λf=>f w F2 F3 K q4 q5 G hy) h3
 |c4 F4 F2 F3 K q6 q4 q5 G=>exact congrArg (λf=>f w F4 F2 F3 K q6 q4 q5 G hy) h4
noncomputable def QL (Γ:WB->Lx->bd)(p:WB->Lx->aw)(t:WB->Lx->Sem X)(C:WB->Lx->aC)(ak H':Nat)(os:∀w c,Hy w c->List (aM w))(fs ts gs:d):hH Hy (Option (Res X×aw×aC×List CV)) false false×hH Hy (Option (Res X×aw×aC×List CV)) false true×hH Hy (Option (Res X×aw×aC×List CV)) true false×hH Hy (Option (Res X×aw×aC×List CV)) true true:=(qL Γ p t C ak os fs ts gs false false,qL Γ p t C ak os fs ts gs false true,qL Γ p t C H' os fs ts gs true false,qL Γ p t C H' os fs ts gs true true)
noncomputable def QR (Γ:WB->Lx->bd)(p:WB->Lx->aw)(t:WB->Lx->Sem X)(C:WB->Lx->aC)(ak H':Nat)(os:∀w c,Hy w c->List (aM w))(r:WB->Lx->Res X)(p':WB->Lx->aw)(C':WB->Lx->aC):hH Hy (Option (Res X×aw×aC×List CV)) false false×hH Hy (Option (Res X×aw×aC×List CV)) false true×hH Hy (Option (Res X×aw×aC×List CV)) true false×hH Hy (Option (Res X×aw×aC×List CV)) true true:=(qR Γ p t C ak os r p' C' false false,qR Γ p t C ak os r p' C' false true,qR Γ p t C H' os r p' C' true false,qR Γ p t C H' os r p' C' true true)
theorem wL (hy:Hy w c)(ak H':Nat)(os:∀w c,Hy w c->List (aM w))(fs ts gs:d)(h:QL Γ p t C ak H' os fs ts gs=QR Γ p t C ak H' os r p' C'):aE w (Γ w c) (p w c) (t w c) (C w c) (r w c) (p' w c) (C' w c):=by
 refine ax.of (aT w) (n:=9000) (m:=300) (match w.b1 with
  |true=>H'
  |false=>ak) (os w c hy) fs ts gs ?_
 have h1:=congrArg (λam=>am.1) h
 have h2:=congrArg (λam=>am.2.1) h
 have h3:=congrArg (λam=>am.2.2.1) h
 have h4:=congrArg (λam=>am.2.2.2) h
 obtain⟨w,b1,b2⟩:=w
 cases b1<;>cases b2
 ·exact AI h1 w c hy
 ·exact AI h2 w c hy
 ·exact AI h3 w c hy
 ·exact AI h4 w c hy
end
section
variable {X:Type}{Γ:WB->Lx->bd}{p p':WB->Lx->aw}{t:WB->Lx->Sem X}{C C':WB->Lx->aC}{r:WB->Lx->Res X}
theorem qb (ak H':Nat)(os:∀w (_:Lx),List (aM w))(fs:d:=[])(ts:d:=[])(gs:d:=[])(h:QL (Hy:=λ_ _=>True) Γ p t C ak H' (λw c _=>os w c) fs ts gs=QR (Hy:=λ_ _=>True) Γ p t C ak H' (λw c _=>os w c) r p' C':=by kernel_rfl):∀w c,aE w (Γ w c) (p w c) (t w c) (C w c) (r w c) (p' w c) (C' w c):=λ_ _=>wL trivial ak H' _ fs ts gs h
theorem J2 {A:WB->Lx->Prop}(ak H':Nat)(os:∀w c,A w c->List (aM w))(fs:d:=[])(ts:d:=[])(gs:d:=[])(h:QL Γ p t C ak H' os fs ts gs=QR Γ p t C ak H' os r p' C':=by kernel_rfl):∀w c,A w c->aE w (Γ w c) (p w c) (t w c) (C w c) (r w c) (p' w c) (C' w c):=λ_ _ a=>wL a ak H' os fs ts gs h
end
section
variable {w:WB}{c:Lx}{Γ:WB->Lx->bd}{p:WB->Lx->aw}{t:WB->Lx->SF}{C C':WB->Lx->aC}{e:WB->Lx->End}{Hy:WB->Lx->Prop}
noncomputable def wN (Γ:WB->Lx->bd)(p:WB->Lx->aw)(t:WB->Lx->SF)(C:WB->Lx->aC)(ak:Nat)(os:∀w c,Hy w c->List (aM w))(fs ts gs:d)(w:WB)(c:Lx)(h:Hy w c):Option (End×aC×List CV):=vu fs ts gs (fN aA (VV w) 300 (Γ w c) (p w c) (t w c) (St.of (VV w) (C w c) ak (os w c h)))
noncomputable def wO (Γ:WB->Lx->bd)(p:WB->Lx->aw)(t:WB->Lx->SF)(C:WB->Lx->aC)(ak:Nat)(os:∀w c,Hy w c->List (aM w))(e:WB->Lx->End)(C':WB->Lx->aC)(w:WB)(c:Lx)(h:Hy w c):Option (End×aC×List CV):=some (e w c,C' w c,vw (fN aA (VV w) 300 (Γ w c) (p w c) (t w c) (St.of (VV w) (C w c) ak (os w c h))))
noncomputable def wP (Γ:WB->Lx->bd)(p:WB->Lx->aw)(t:WB->Lx->SF)(C:WB->Lx->aC)(ak:Nat)(os:∀w c,Hy w c->List (aM w))(fs ts gs:d)(b b2:Bool):hH Hy (Option (End×aC×List CV)) b b2:=(λw F1 F ag K q0 q q1 G h=>wN Γ p t C ak os fs ts gs ⟨w,b,b2⟩ (.c1 F1 F ag K q0 q q1 G) h,λw F2 F1 F ag K q4 q3 q0 q q1 G h=>wN Γ p t C ak os fs ts gs ⟨w,b,b2⟩ (.c2 F2 F1 F ag K q4 q3 q0 q q1 G) h,λw F2 F3 K q4 q5 G h=>wN Γ p t C ak os fs ts gs ⟨w,b,b2⟩ (.c3 F2 F3 K q4 q5 G) h,λw F4 F2 F3 K q6 q4 q5 G h=>wN Γ p t C ak os fs ts gs ⟨w,b,b2⟩ (.c4 F4 F2 F3 K q6 q4 q5 G) h)
noncomputable def wQ (Γ:WB->Lx->bd)(p:WB->Lx->aw)(t:WB->Lx->SF)(C:WB->Lx->aC)(ak:Nat)(os:∀w c,Hy w c->List (aM w))(e:WB->Lx->End)(C':WB->Lx->aC)(b b2:Bool):hH Hy (Option (End×aC×List CV)) b b2:=(λw F1 F ag K q0 q q1 G h=>wO Γ p t C ak os e C' ⟨w,b,b2⟩ (.c1 F1 F ag K q0 q q1 G) h,λw F2 F1 F ag K q4 q3 q0 q q1 G h=>wO Γ p t C ak os e C' ⟨w,b,b2⟩ (.c2 F2 F1 F ag K q4 q3 q0 q q1 G) h,λw F2 F3 K q4 q5 G h=>wO Γ p t C ak os e C' ⟨w,b,b2⟩ (.c3 F2 F3 K q4 q5 G) h,λw F4 F2 F3 K q6 q4 q5 G h=>wO Γ p t C ak os e C' ⟨w,b,b2⟩ (.c4 F4 F2 F3 K q6 q4 q5 G) h)
theorem AJ {os:∀w c,Hy w c->List (aM w)}{fs ts:d}{b:Bool}(h:wP Γ p t C ak os fs ts gs b b2=wQ Γ p t C ak os e C' b b2)(w:f8)(c:Lx)(hy:Hy ⟨w,b,b2⟩ c):wN Γ p t C ak os fs ts gs ⟨w,b,b2⟩ c hy=wO Γ p t C ak os e C' ⟨w,b,b2⟩ c hy:=by
 have h1:=congrArg (λam=>am.1) h
 have h2:=congrArg (λam=>am.2.1) h
 have h3:=congrArg (λam=>am.2.2.1) h
 have h4:=congrArg (λam=>am.2.2.2) h
 cases c with
 |c1 F1 F ag K q0 q q1 G=>exact congrArg (λf=>f w F1 F ag K q0 q q1 G hy) h1
 |c2 F2 F1 F ag K q4 q3 q0 q q1 G=>exact congrArg (λf=>f w F2 F1 F ag K q4 q3 q0 q q1 G hy) h2
 |c3 F2 F3 K q4 q5 G=>exact congrArg (λf=>f w F2 F3 K q4 q5 G hy) h3
 |c4 F4 F2 F3 K q6 q4 q5 G=>exact congrArg (λf=>f w F4 F2 F3 K q6 q4 q5 G hy) h4
noncomputable def J3 (Γ:WB->Lx->bd)(p:WB->Lx->aw)(t:WB->Lx->SF)(C:WB->Lx->aC)(ak H':Nat)(os:∀w c,Hy w c->List (aM w))(fs ts gs:d):hH Hy (Option (End×aC×List CV)) false false×hH Hy (Option (End×aC×List CV)) false true×hH Hy (Option (End×aC×List CV)) true false×hH Hy (Option (End×aC×List CV)) true true:=(wP Γ p t C ak os fs ts gs false false,wP Γ p t C ak os fs ts gs false true,wP Γ p t C H' os fs ts gs true false,wP Γ p t C H' os fs ts gs true true)
noncomputable def J4 (Γ:WB->Lx->bd)(p:WB->Lx->aw)(t:WB->Lx->SF)(C:WB->Lx->aC)(ak H':Nat)(os:∀w c,Hy w c->List (aM w))(e:WB->Lx->End)(C':WB->Lx->aC):hH Hy (Option (End×aC×List CV)) false false×hH Hy (Option (End×aC×List CV)) false true×hH Hy (Option (End×aC×List CV)) true false×hH Hy (Option (End×aC×List CV)) true true:=(wQ Γ p t C ak os e C' false false,wQ Γ p t C ak os e C' false true,wQ Γ p t C H' os e C' true false,wQ Γ p t C H' os e C' true true)
theorem UY (hy:Hy w c)(ak H':Nat)(os:∀w c,Hy w c->List (aM w))(fs ts gs:d)(h:J3 Γ p t C ak H' os fs ts gs=J4 Γ p t C ak H' os e C'):nl w (Γ w c) (p w c) (t w c) (C w c) (e w c) (C' w c):=by
 refine gI.of (aT w) (m:=300) (match w.b1 with
  |true=>H'
  |false=>ak) (os w c hy) fs ts gs ?_
 have h1:=congrArg (λam=>am.1) h
 have h2:=congrArg (λam=>am.2.1) h
 have h3:=congrArg (λam=>am.2.2.1) h
 have h4:=congrArg (λam=>am.2.2.2) h
 obtain⟨w,b1,b2⟩:=w
 cases b1<;>cases b2
 ·exact AJ h1 w c hy
 ·exact AJ h2 w c hy
 ·exact AJ h3 w c hy
 ·exact AJ h4 w c hy
end
theorem J5 {Γ:WB->Lx->bd}{p:WB->Lx->aw}{t:WB->Lx->SF}{C C':WB->Lx->aC}{e:WB->Lx->End}{A:WB->Lx->Prop}(ak H':Nat)(os:∀w c,A w c->List (aM w))(fs:d:=[])(ts:d:=[])(gs:d:=[])(h:J3 Γ p t C ak H' os fs ts gs=J4 Γ p t C ak H' os e C':=by kernel_rfl):∀w c,A w c->nl w (Γ w c) (p w c) (t w c) (C w c) (e w c) (C' w c):=λ_ _ a=>UY a ak H' os fs ts gs h
end
noncomputable def mV:d:=[102,119,115]
noncomputable def strN:d:=[115,116,114,105,110,103]
noncomputable def ur:d:=[99,104]
noncomputable def iN:d:=[105]
noncomputable def J6:d:=[112,114,101,118,112,97,114,116]
noncomputable def fR (P:aF)(F1 R:Nat):bL:=pz (dW (inner (DF P)) 0) (.ref R) (eQ P 119 F1 [])
noncomputable def lQ (P:aF)(F1 R af F ag K:Nat)(q7 q0 q q1 G:aw):bd:=⟨fR P F1 R,none,none,(d6 P F1 af,q7)::AF P F1 F ag K q0 q q1 G,none⟩
noncomputable def cM (P:aF)(B H z k3 k4:Nat)(vf vx vc:ay):Option (NV×Option (Nat×ay))->az
 |none=>bz [de P gf H (.ref (B+962+1)),de P mV z vf,de P strN k3 vx,de P ur k4 vc] 4
 |some (i,none)=>bz [de P gf H (.ref (B+962+1)),de P mV z vf,de P strN k3 vx,de P ur k4 vc,de P iN i.1 i.2] 5
 |some (i,some x)=>bz [de P gf H (.ref (B+962+1)),de P mV z vf,de P strN k3 vx,de P ur k4 vc,de P iN i.1 i.2,de P J6 x.1 x.2] 6
noncomputable def dE (P:aF)(B D0:Nat)(UZ:az)(F1 R ea:Nat)(Y:LV)(fr ro:az)(A:aJ)(N J U:Nat):aC:=⟨[(F1,fr),(R,ro),(B+962+1,nL B),(B+962,UZ),(B+962+5,bJ (B+962+4) Y ea)]++A,[],N,J,[],U⟩
section
variable {R F ag left:Nat}{g1 x1 g2:d}(ha:Y[n+1]? =some (.ref a))(hb:Y[n]? =some (.ref b))(hn:n+1<=100000)(hm:n<=100000)
include ha hb hn hm
theorem U0 (hd:(c2::x2).getLast? =some ah)(h0:(decide ([c].length>0)&&[c].all Unicode.isSpace)=true)(h1:(c1::g1).length<=100000)(h2:([c1]==[c])=true):aP w (lQ w.P F1 R af F ag K q7 q0 q q1 G) p (aA (fR w.P F1 R)) (dE w.P B 0 (fF w.P B fV fW fX fY fZ f0 wd tw tc tl ts sg) F1 R ea Y (cM w.P B H z k3 k4 vf vx (Z [c] ca) none) (bF (O (n+1)) (O (left+1)) (-1)) [(a,aG [Z (c1::g1) aX,Z x1 ev]),(b,aG [Z g2 bg,Z (c2::x2) bO])] N J U) (.ok .next) (dE w.P B 0 (fF w.P B fV fW fX fY fZ f0 wd tw tc tl ts sg) F1 R ea Y (cM w.P B H z k3 k4 (Z (c1::g1) aX) vx (Z [c] ca) (some (((J+1),(.int (O (n+1)) J)),none))) (bF (O n) (O left) (-1)) [(a,aG [Z (c1::g1) aX,Z x1 ev]),(b,aG [Z g2 bg,Z (c2::x2) bO])] N (J+9) U):=
 by revert w;exact @(np 0x4e9d39ce9a69ce64f079e1e358e707038d18c68c3 (λw=>[nF w [1] R n left,mH w ca h0,kx w [4] (B+962+5) (B+962+4) ea J hn ha,bZ w aX h1,jP w (c1::g1) 0 c1 aX (J+7) (by decide) rfl,bu w (J+8) ca h2]) [2,1,1,1,0,0,0])
theorem U1 (hd:(c2::x2).getLast? =some ah)(h0:(decide ([c].length>0)&&[c].all Unicode.isSpace)=false)(h1:(c2::x2).length<=100000)(h2:([ah]==[c])=true):aP w (lQ w.P F1 R af F ag K q7 q0 q q1 G) p (aA (fR w.P F1 R)) (dE w.P B 0 (fF w.P B fV fW fX fY fZ f0 wd tw tc tl ts sg) F1 R ea Y (cM w.P B H z k3 k4 vf vx (Z [c] ca) none) (bF (O (n+1)) (O (left+1)) (-1)) [(a,aG [Z (c1::g1) aX,Z x1 ev]),(b,aG [Z g2 bg,Z (c2::x2) bO])] N J U) (.ok .next) (dE w.P B 0 (fF w.P B fV fW fX fY fZ f0 wd tw tc tl ts sg) F1 R ea Y (cM w.P B H z k3 k4 vf vx (Z [c] ca) (some (((J+1),(.int (O (n+1)) J)),some ((J+6),(Z (c2::x2) bO))))) (bF (O n) (O left) (-1)) [(a,aG [Z (c1::g1) aX,Z x1 ev]),(b,aG [Z g2 bg,Z (c2::x2) bO])] N (J+12) U):=
 by revert w;exact @(np 0x4e874e73aebaf7b93c1e787a358e707038d18c68c3 (λw=>[nF w [1] R n left,mH w ca h0,gD w (n+1) 1 n J (J+3) rfl,kx w [4] (B+962+5) (B+962+4) ea (J+4) hm hb,bZ w bO h1,p9 w bO (J+10) hd,bu w (J+11) ca h2]) [2,1,1,1,0,0,0])
theorem U2 (hd:(c2::x2).getLast? =some ah)(h0:(decide ([c].length>0)&&[c].all Unicode.isSpace)=true)(h1:(c1::g1).length<=100000)(h2:([c1]==[c])=false)(h3:(c2::x2).length<=100000)(h4:([ah]==[c])=true):aP w (lQ w.P F1 R af F ag K q7 q0 q q1 G) p (aA (fR w.P F1 R)) (dE w.P B 0 (fF w.P B fV fW fX fY fZ f0 wd tw tc tl ts sg) F1 R ea Y (cM w.P B H z k3 k4 vf vx (Z [c] ca) none) (bF (O (n+1)) (O (left+1)) (-1)) [(a,aG [Z (c1::g1) aX,Z x1 ev]),(b,aG [Z g2 bg,Z (c2::x2) bO])] N J U) (.ok .next) (dE w.P B 0 (fF w.P B fV fW fX fY fZ f0 wd tw tc tl ts sg) F1 R ea Y (cM w.P B H z k3 k4 (Z (c1::g1) aX) vx (Z [c] ca) (some (((J+1),(.int (O (n+1)) J)),some ((J+13),(Z (c2::x2) bO))))) (bF (O n) (O left) (-1)) [(a,aG [Z (c1::g1) aX,Z x1 ev]),(b,aG [Z g2 bg,Z (c2::x2) bO])] N (J+19) U):=
 by revert w;exact @(np 0x13a1d39cebaebdee482429de5ac2c1674e9d39ce9a69ce64f079e1e358e707038d18c68c3 (λw=>[nF w [1] R n left,mH w ca h0,kx w [4] (B+962+5) (B+962+4) ea J hn ha,bZ w aX h1,jP w (c1::g1) 0 c1 aX (J+7) (by decide) rfl,bu w (J+8) ca h2,gD w (n+1) 1 n J (J+10) rfl,kx w [0] (B+962+5) (B+962+4) ea (J+11) hm hb,bZ w bO h3,p9 w bO (J+17) hd,bu w (J+18) ca h4]) [2,1,1,1,0,0,0])
theorem U3 (hd:(c2::x2).getLast? =some ah)(h0:(decide ([c].length>0)&&[c].all Unicode.isSpace)=false)(h1:(c2::x2).length<=100000)(h2:([ah]==[c])=false):aE w (lQ w.P F1 R af F ag K q7 q0 q q1 G) p (aA (fR w.P F1 R)) (dE w.P B 0 (fF w.P B fV fW fX fY fZ f0 wd tw tc tl ts sg) F1 R ea Y (cM w.P B H z k3 k4 vf vx (Z [c] ca) none) (bF (O (n+1)) (O (left+1)) (-1)) [(a,aG [Z (c1::g1) aX,Z x1 ev]),(b,aG [Z g2 bg,Z (c2::x2) bO])] N J U) (.ok (.again (fR w.P F1 R))) yk (dE w.P B 0 (fF w.P B fV fW fX fY fZ f0 wd tw tc tl ts sg) F1 R ea Y (cM w.P B H z k3 k4 vf vx (Z [c] ca) (some (((J+1),(.int (O (n+1)) J)),some ((J+6),(Z (c2::x2) bO))))) (bF (O n) (O left) (-1)) [(a,aG [Z (c1::g1) aX,Z x1 ev]),(b,aG [Z g2 bg,Z (c2::x2) bO])] N (J+12) U):=
 by revert w;exact @(dI 0x4e874e73aebaf7b93c1e787a358e707038d18c68c3 (λw=>[nF w [1] R n left,mH w ca h0,gD w (n+1) 1 n J (J+3) rfl,kx w [4] (B+962+5) (B+962+4) ea (J+4) hm hb,bZ w bO h1,p9 w bO (J+10) hd,bu w (J+11) ca h2]) [2,1,1,1,0,0,0])
theorem U4 (hd:(c2::x2).getLast? =some ah)(h0:(decide ([c].length>0)&&[c].all Unicode.isSpace)=true)(h1:(c1::g1).length<=100000)(h2:([c1]==[c])=false)(h3:(c2::x2).length<=100000)(h4:([ah]==[c])=false):aE w (lQ w.P F1 R af F ag K q7 q0 q q1 G) p (aA (fR w.P F1 R)) (dE w.P B 0 (fF w.P B fV fW fX fY fZ f0 wd tw tc tl ts sg) F1 R ea Y (cM w.P B H z k3 k4 vf vx (Z [c] ca) none) (bF (O (n+1)) (O (left+1)) (-1)) [(a,aG [Z (c1::g1) aX,Z x1 ev]),(b,aG [Z g2 bg,Z (c2::x2) bO])] N J U) (.ok (.again (fR w.P F1 R))) yk (dE w.P B 0 (fF w.P B fV fW fX fY fZ f0 wd tw tc tl ts sg) F1 R ea Y (cM w.P B H z k3 k4 (Z (c1::g1) aX) vx (Z [c] ca) (some (((J+1),(.int (O (n+1)) J)),some ((J+13),(Z (c2::x2) bO))))) (bF (O n) (O left) (-1)) [(a,aG [Z (c1::g1) aX,Z x1 ev]),(b,aG [Z g2 bg,Z (c2::x2) bO])] N (J+19) U):=
 by revert w;exact @(dI 0x13a1d39cebaebdee482429de5ac2c1674e9d39ce9a69ce64f079e1e358e707038d18c68c3 (λw=>[nF w [1] R n left,mH w ca h0,kx w [4] (B+962+5) (B+962+4) ea J hn ha,bZ w aX h1,jP w (c1::g1) 0 c1 aX (J+7) (by decide) rfl,bu w (J+8) ca h2,gD w (n+1) 1 n J (J+10) rfl,kx w [0] (B+962+5) (B+962+4) ea (J+11) hm hb,bZ w bO h3,p9 w bO (J+17) hd,bu w (J+18) ca h4]) [2,1,1,1,0,0,0])
end
theorem U5 {R F ag:Nat}:aP w (lQ w.P F1 R af F ag K q7 q0 q q1 G) p (aA (fR w.P F1 R)) (dE w.P B 0 (fF w.P B fV fW fX fY fZ f0 wd tw tc tl ts sg) F1 R ea Y (cM w.P B H z k3 k4 vf vx (Z [c] ca) none) (bF (O n) (O 0) (-1)) [] N J U) (.ok .cont) (dE w.P B 0 (fF w.P B fV fW fX fY fZ f0 wd tw tc tl ts sg) F1 R ea Y (cM w.P B H z k3 k4 vf vx (Z [c] ca) none) (bF (O n) (O 0) (-1)) [] (N+2) J U):=
 dJ 147206339 [] [2,2,2,2,2]
section
variable {R F ag left:Nat}{g1 x1 g2:d}(ha:Y[n+1]? =some (.ref a))(hb:Y[n]? =some (.ref b))(hn:n+1<=100000)(hm:n<=100000)
include ha hb hn hm
theorem U6 (hd:(c2::x2).getLast? =some ah)(h0:(decide ([c].length>0)&&[c].all Unicode.isSpace)=true)(h1:(c1::g1).length<=100000)(h2:([c1]==[c])=true):aP w (lQ w.P F1 R af F ag K q7 q0 q q1 G) p (aA (fR w.P F1 R)) (dE w.P B 0 (fF w.P B fV fW fX fY fZ f0 wd tw tc tl ts sg) F1 R ea Y (cM w.P B H z k3 k4 vf vx (Z [c] ca) (some ((ki,vi),some (kp,vp)))) (bF (O (n+1)) (O (left+1)) (-1)) [(a,aG [Z (c1::g1) aX,Z x1 ev]),(b,aG [Z g2 bg,Z (c2::x2) bO])] N J U) (.ok .next) (dE w.P B 0 (fF w.P B fV fW fX fY fZ f0 wd tw tc tl ts sg) F1 R ea Y (cM w.P B H z k3 k4 (Z (c1::g1) aX) vx (Z [c] ca) (some ((ki,(.int (O (n+1)) J)),some (kp,vp)))) (bF (O n) (O left) (-1)) [(a,aG [Z (c1::g1) aX,Z x1 ev]),(b,aG [Z g2 bg,Z (c2::x2) bO])] N (J+9) U):=
 by revert w;exact @(np 0x4e9d39ce9a69ce64f079e1e358e707038d18c68c3 (λw=>[nF w [1] R n left,mH w ca h0,kx w [4] (B+962+5) (B+962+4) ea J hn ha,bZ w aX h1,jP w (c1::g1) 0 c1 aX (J+7) (by decide) rfl,bu w (J+8) ca h2]) [2,1,1,1,0,0,0])
theorem U7 (hd:(c2::x2).getLast? =some ah)(h0:(decide ([c].length>0)&&[c].all Unicode.isSpace)=false)(h1:(c2::x2).length<=100000)(h2:([ah]==[c])=true):aP w (lQ w.P F1 R af F ag K q7 q0 q q1 G) p (aA (fR w.P F1 R)) (dE w.P B 0 (fF w.P B fV fW fX fY fZ f0 wd tw tc tl ts sg) F1 R ea Y (cM w.P B H z k3 k4 vf vx (Z [c] ca) (some ((ki,vi),some (kp,vp)))) (bF (O (n+1)) (O (left+1)) (-1)) [(a,aG [Z (c1::g1) aX,Z x1 ev]),(b,aG [Z g2 bg,Z (c2::x2) bO])] N J U) (.ok .next) (dE w.P B 0 (fF w.P B fV fW fX fY fZ f0 wd tw tc tl ts sg) F1 R ea Y (cM w.P B H z k3 k4 vf vx (Z [c] ca) (some ((ki,(.int (O (n+1)) J)),some (kp,(Z (c2::x2) bO))))) (bF (O n) (O left) (-1)) [(a,aG [Z (c1::g1) aX,Z x1 ev]),(b,aG [Z g2 bg,Z (c2::x2) bO])] N (J+12) U):=
 by revert w;exact @(np 0x4e874e73aebaf7b93c1e787a358e707038d18c68c3 (λw=>[nF w [1] R n left,mH w ca h0,gD w (n+1) 1 n J (J+3) rfl,kx w [4] (B+962+5) (B+962+4) ea (J+4) hm hb,bZ w bO h1,p9 w bO (J+10) hd,bu w (J+11) ca h2]) [2,1,1,1,0,0,0])
theorem U8 (hd:(c2::x2).getLast? =some ah)(h0:(decide ([c].length>0)&&[c].all Unicode.isSpace)=true)(h1:(c1::g1).length<=100000)(h2:([c1]==[c])=false)(h3:(c2::x2).length<=100000)(h4:([ah]==[c])=true):aP w (lQ w.P F1 R af F ag K q7 q0 q q1 G) p (aA (fR w.P F1 R)) (dE w.P B 0 (fF w.P B fV fW fX fY fZ f0 wd tw tc tl ts sg) F1 R ea Y (cM w.P B H z k3 k4 vf vx (Z [c] ca) (some ((ki,vi),some (kp,vp)))) (bF (O (n+1)) (O (left+1)) (-1)) [(a,aG [Z (c1::g1) aX,Z x1 ev]),(b,aG [Z g2 bg,Z (c2::x2) bO])] N J U) (.ok .next) (dE w.P B 0 (fF w.P B fV fW fX fY fZ f0 wd tw tc tl ts sg) F1 R ea Y (cM w.P B H z k3 k4 (Z (c1::g1) aX) vx (Z [c] ca) (some ((ki,(.int (O (n+1)) J)),some (kp,(Z (c2::x2) bO))))) (bF (O n) (O left) (-1)) [(a,aG [Z (c1::g1) aX,Z x1 ev]),(b,aG [Z g2 bg,Z (c2::x2) bO])] N (J+19) U):=
 by revert w;exact @(np 0x13a1d39cebaebdee482429de5ac2c1674e9d39ce9a69ce64f079e1e358e707038d18c68c3 (λw=>[nF w [1] R n left,mH w ca h0,kx w [4] (B+962+5) (B+962+4) ea J hn ha,bZ w aX h1,jP w (c1::g1) 0 c1 aX (J+7) (by decide) rfl,bu w (J+8) ca h2,gD w (n+1) 1 n J (J+10) rfl,kx w [0] (B+962+5) (B+962+4) ea (J+11) hm hb,bZ w bO h3,p9 w bO (J+17) hd,bu w (J+18) ca h4]) [2,1,1,1,0,0,0])
theorem U9 (hd:(c2::x2).getLast? =some ah)(h0:(decide ([c].length>0)&&[c].all Unicode.isSpace)=false)(h1:(c2::x2).length<=100000)(h2:([ah]==[c])=false):aE w (lQ w.P F1 R af F ag K q7 q0 q q1 G) p (aA (fR w.P F1 R)) (dE w.P B 0 (fF w.P B fV fW fX fY fZ f0 wd tw tc tl ts sg) F1 R ea Y (cM w.P B H z k3 k4 vf vx (Z [c] ca) (some ((ki,vi),some (kp,vp)))) (bF (O (n+1)) (O (left+1)) (-1)) [(a,aG [Z (c1::g1) aX,Z x1 ev]),(b,aG [Z g2 bg,Z (c2::x2) bO])] N J U) (.ok (.again (fR w.P F1 R))) yk (dE w.P B 0 (fF w.P B fV fW fX fY fZ f0 wd tw tc tl ts sg) F1 R ea Y (cM w.P B H z k3 k4 vf vx (Z [c] ca) (some ((ki,(.int (O (n+1)) J)),some (kp,(Z (c2::x2) bO))))) (bF (O n) (O left) (-1)) [(a,aG [Z (c1::g1) aX,Z x1 ev]),(b,aG [Z g2 bg,Z (c2::x2) bO])] N (J+12) U):=
 by revert w;exact @(dI 0x4e874e73aebaf7b93c1e787a358e707038d18c68c3 (λw=>[nF w [1] R n left,mH w ca h0,gD w (n+1) 1 n J (J+3) rfl,kx w [4] (B+962+5) (B+962+4) ea (J+4) hm hb,bZ w bO h1,p9 w bO (J+10) hd,bu w (J+11) ca h2]) [2,1,1,1,0,0,0])
theorem Va (hd:(c2::x2).getLast? =some ah)(h0:(decide ([c].length>0)&&[c].all Unicode.isSpace)=true)(h1:(c1::g1).length<=100000)(h2:([c1]==[c])=false)(h3:(c2::x2).length<=100000)(h4:([ah]==[c])=false):aE w (lQ w.P F1 R af F ag K q7 q0 q q1 G) p (aA (fR w.P F1 R)) (dE w.P B 0 (fF w.P B fV fW fX fY fZ f0 wd tw tc tl ts sg) F1 R ea Y (cM w.P B H z k3 k4 vf vx (Z [c] ca) (some ((ki,vi),some (kp,vp)))) (bF (O (n+1)) (O (left+1)) (-1)) [(a,aG [Z (c1::g1) aX,Z x1 ev]),(b,aG [Z g2 bg,Z (c2::x2) bO])] N J U) (.ok (.again (fR w.P F1 R))) yk (dE w.P B 0 (fF w.P B fV fW fX fY fZ f0 wd tw tc tl ts sg) F1 R ea Y (cM w.P B H z k3 k4 (Z (c1::g1) aX) vx (Z [c] ca) (some ((ki,(.int (O (n+1)) J)),some (kp,(Z (c2::x2) bO))))) (bF (O n) (O left) (-1)) [(a,aG [Z (c1::g1) aX,Z x1 ev]),(b,aG [Z g2 bg,Z (c2::x2) bO])] N (J+19) U):=
 by revert w;exact @(dI 0x13a1d39cebaebdee482429de5ac2c1674e9d39ce9a69ce64f079e1e358e707038d18c68c3 (λw=>[nF w [1] R n left,mH w ca h0,kx w [4] (B+962+5) (B+962+4) ea J hn ha,bZ w aX h1,jP w (c1::g1) 0 c1 aX (J+7) (by decide) rfl,bu w (J+8) ca h2,gD w (n+1) 1 n J (J+10) rfl,kx w [0] (B+962+5) (B+962+4) ea (J+11) hm hb,bZ w bO h3,p9 w bO (J+17) hd,bu w (J+18) ca h4]) [2,1,1,1,0,0,0])
end
theorem Vb {R F ag:Nat}:aP w (lQ w.P F1 R af F ag K q7 q0 q q1 G) p (aA (fR w.P F1 R)) (dE w.P B 0 (fF w.P B fV fW fX fY fZ f0 wd tw tc tl ts sg) F1 R ea Y (cM w.P B H z k3 k4 vf vx (Z [c] ca) (some ((ki,vi),some (kp,vp)))) (bF (O n) (O 0) (-1)) [] N J U) (.ok .cont) (dE w.P B 0 (fF w.P B fV fW fX fY fZ f0 wd tw tc tl ts sg) F1 R ea Y (cM w.P B H z k3 k4 vf vx (Z [c] ca) (some ((ki,vi),some (kp,vp)))) (bF (O n) (O 0) (-1)) [] (N+2) J U):=
 dJ 147206339 [] [2,2,2,2,2]
structure TU where
 a:Nat
 g:d
 tg:Nat
 x:d
 tx:Nat
noncomputable def TU.ent (m:TU):Addr×az:=(m.a,aG [Z m.g m.tg,Z m.x m.tx])
noncomputable def TU.key (m:TU):d×d:=(m.g,m.x)
noncomputable def bj (us:List TU):LV:=us.map λm=> .ref m.a
theorem AK {x:TU}(h:us[i]? =some x):(bj us)[i]? =some (.ref x.a):=by delta bj;rw [iv,h];rfl
structure Fm where
 B:Nat
 H:Nat
 z:Nat
 k3:Nat
 k4:Nat
 k5:Nat
 k6:Nat
 wd:Nat
 tw:Nat
 tc:Nat
 tl:Nat
 ts:Nat
 sg:d
noncomputable def Fm.obj (P:aF)(m:Fm):az:=fF P m.B m.H m.z m.k3 m.k4 m.k5 m.k6 m.wd m.tw m.tc m.tl m.ts m.sg
structure Cq where
 F1:Nat
 F:Nat
 ag:Nat
 K:Nat
 q0:aw
 q:aw
 q1:aw
 G:aw
noncomputable def Cq.ac (P:aF)(x:Cq):b9:=AF P x.F1 x.F x.ag x.K x.q0 x.q x.q1 x.G
theorem aK.kU {L S R X:aJ}(hp:S.Perm (X++R))(h:aK V ⟨L++X,[],N,J,ai,U⟩ ⟨L'++X,[],N',au,G',br⟩ Φ):aK V ⟨L,[S],N,J,ai,U⟩ ⟨L',[S],N',au,G',br⟩ Φ:=
 aK.frame h (by
  simp only [aC.all,ck,ce,bk,bK]
  exact cg.append_left _ hp) (by rw [bk]) bH (by
  simp only [aC.all,ck,ce,bk,bK]
  exact cg.append_left _ hp) (by rw [bk]) bH
noncomputable def nN (o:eP):Option (NV×Option (Nat×ay)):=o.map λam=>(am.1,some am.2)
noncomputable def hJ (P:aF)(m:Fm)(F1:Nat)(ea:Nat)(us:List TU)(fr:az)(A:aJ)(S:aJ)(N J U:Nat):aC:=⟨[(F1,fr),(m.B+962+1,nL m.B),(m.B+962,m.obj P),(m.B+962+5,bJ (m.B+962+4) (bj us) ea)]++A,[us.map TU.ent++S],N,J,[],U⟩
noncomputable def ut (P:aF)(x:Cq)(R af:Nat)(q7:aw):bd:=⟨fR P x.F1 R,none,none,(d6 P x.F1 af,q7)::x.ac P,none⟩
variable {w:WB}
theorem J7 (c:Nat):(decide ([c].length>0)&&[c].all Unicode.isSpace)=Unicode.isSpace c:=by simp
theorem Vc {x:Cq}{R:Nat}{S:aJ}(mR:us.length<=10000)(hw:∀i (h:i+1<us.length),us[i+1].g≠[]/\us[i].x≠[])(hl:∀u∈us,u.g.length<=100000/\u.x.length<=100000)(n left:Nat)(o:eP)(vf:ay)(N J:Nat)(p:aw)(hn:n+1<us.length):(mN Unicode.isSpace (us.map TU.key) c (n+1)=true->∃dR ki t o1 au,aP w (ut w.P x R af q7) p (aA (fR w.P x.F1 R)) (hJ w.P m x.F1 ea us (cM w.P m.B H z k3 k4 vf vx (Z [c] ca) (nN o)) [(R,bF (O (n+1)) (O (left+1)) (-1))] S N J U) (.ok .next) (hJ w.P m x.F1 ea us (cM w.P m.B H z k3 k4 dR vx (Z [c] ca) (some ((ki,.int (O (n+1)) t),o1))) [] S N au U))/\ (mN Unicode.isSpace (us.map TU.key) c (n+1)=false->∃dR am au p',aE w (ut w.P x R af q7) p (aA (fR w.P x.F1 R)) (hJ w.P m x.F1 ea us (cM w.P m.B H z k3 k4 vf vx (Z [c] ca) (nN o)) [(R,bF (O (n+1)) (O (left+1)) (-1))] S N J U) (.ok (.again (fR w.P x.F1 R))) p' (hJ w.P m x.F1 ea us (cM w.P m.B H z k3 k4 dR vx (Z [c] ca) (nN (some am))) [(R,bF (O n) (O left) (-1))] S N au U)):=by
 have h0:n<us.length:=by lia
 refine dT (JE us n hn) λQ hR=> ?_
 have hR:=hR.map TU.ent
 rw [cx]at hR
 have ha:(bj us)[n+1]? =some (.ref us[n+1].a):=AK (cm hn)
 have hb:(bj us)[n]? =some (.ref us[n].a):=AK (cm h0)
 refine cB (hw n hn) λhg hx=>
  fK (xR hg) λc1 g1 eg=>
  fK (xR hx) λc2 x2 ex=> ?_
 obtain⟨ah,hd⟩:∃ah,(c2::x2).getLast? =some ah:=⟨_,BX (by simp)⟩
 have l1:=(hl us[n+1] (gt hn)).1
 have l2:=(hl us[n] (gt h0)).2
 rw [eg]at l1
 rw [ex]at l2
 have e1:TU.ent us[n+1]=(us[n+1].a,aG [Z (c1::g1) us[n+1].tg,Z us[n+1].x us[n+1].tx]):=by delta TU.ent;rw [eg]
 have e2:TU.ent us[n]=(us[n].a,aG [Z us[n].g us[n].tg,Z (c2::x2) us[n].tx]):=by delta TU.ent;rw [ex]
 simp only [bY,n7,e1,e2]at hR
 have hT:mN Unicode.isSpace (us.map TU.key) c (n+1)=((Unicode.isSpace c&&([c1]==[c]))||([ah]==[c])):=by
  have H:(us.map TU.key)[n+1]? =some (us[n+1].g,us[n+1].x):=by rw [iv,cm hn];rfl
  have z:(us.map TU.key)[n]? =some (us[n].g,us[n].x):=by rw [iv,cm h0];rfl
  delta mN
  rw [Nat.add_sub_cancel,H,z,eg,ex]
  simp [hd]
 have S':∀{X:aJ},(us.map TU.ent++S).Perm (([(us[n+1].a,aG [Z (c1::g1) us[n+1].tg,Z us[n+1].x us[n+1].tx]),(us[n].a,aG [Z us[n].g us[n].tg,Z (c2::x2) us[n].tx])]++Q.map TU.ent)++S):=hR.append_right S
 have pk:∀{Φ:bI->bI->Prop} {fr db ro:az} {A':aJ} {N' au:Nat},fw w (dE w.P m.B 0 (m.obj w.P) x.F1 R ea (bj us) fr ro [(us[n+1].a,aG [Z (c1::g1) us[n+1].tg,Z us[n+1].x us[n+1].tx]),(us[n].a,aG [Z us[n].g us[n].tg,Z (c2::x2) us[n].tx])] N J U)
   ⟨[(x.F1,db),(m.B+962+1,nL m.B),(m.B+962,m.obj w.P),(m.B+962+5,bJ (m.B+962+4) (bj us) ea)]++A'++[(us[n+1].a,aG [Z (c1::g1) us[n+1].tg,Z us[n+1].x us[n+1].tx]),(us[n].a,aG [Z us[n].g us[n].tg,Z (c2::x2) us[n].tx])],[],N',au,[],U⟩ Φ->
   fw w (hJ w.P m x.F1 ea us fr [(R,ro)] S N J U) (hJ w.P m x.F1 ea us db A' S N' au U) Φ:=λ{Φ fr db ro A' N' au} h=>by
  refine aK.kU (by rw [<-bK];exact hR.append_right S) ?_
  refine aK.same h ?_ rfl ⟨rfl,rfl,rfl⟩ (.refl _) rfl bH
  simp only [aC.all,dE,ce,bk,eB,cZ]
  exact((cY (l₁:=[_,_,_]) (l₂:=[(R,ro)])).append_right _).cons _
 have drop:∀{Φ:bI->bI->Prop} {fr db ro iJ:az} {N' au:Nat},fw w (dE w.P m.B 0 (m.obj w.P) x.F1 R ea (bj us) fr ro [(us[n+1].a,aG [Z (c1::g1) us[n+1].tg,Z us[n+1].x us[n+1].tx]),(us[n].a,aG [Z us[n].g us[n].tg,Z (c2::x2) us[n].tx])] N J U)
   (dE w.P m.B 0 (m.obj w.P) x.F1 R ea (bj us) db iJ [(us[n+1].a,aG [Z (c1::g1) us[n+1].tg,Z us[n+1].x us[n+1].tx]),(us[n].a,aG [Z us[n].g us[n].tg,Z (c2::x2) us[n].tx])] N' au U) Φ->
   fw w (hJ w.P m x.F1 ea us fr [(R,ro)] S N J U) (hJ w.P m x.F1 ea us db [] S N' au U) Φ:=λ{Φ fr db ro iJ N' au} h=>pk (aK.less h (by
  simp only [aC.all,dE,ce,bk,eB,cZ]
  refine cg.cons _ ?_
  exact(cY (l₁:=[(R,iJ)]))) (.refl _) bH)
 have keep:∀{Φ:bI->bI->Prop} {fr db ro iJ:az} {N' au:Nat},fw w (dE w.P m.B 0 (m.obj w.P) x.F1 R ea (bj us) fr ro [(us[n+1].a,aG [Z (c1::g1) us[n+1].tg,Z us[n+1].x us[n+1].tx]),(us[n].a,aG [Z us[n].g us[n].tg,Z (c2::x2) us[n].tx])] N J U)
   (dE w.P m.B 0 (m.obj w.P) x.F1 R ea (bj us) db iJ [(us[n+1].a,aG [Z (c1::g1) us[n+1].tg,Z us[n+1].x us[n+1].tx]),(us[n].a,aG [Z us[n].g us[n].tg,Z (c2::x2) us[n].tx])] N' au U) Φ->
   fw w (hJ w.P m x.F1 ea us fr [(R,ro)] S N J U) (hJ w.P m x.F1 ea us db [(R,iJ)] S N' au U) Φ:=λ{Φ fr db ro iJ N' au} h=>pk (aK.same h (.refl _) rfl bH (by
  simp only [aC.all,dE,ce,bk,eB,cZ]
  refine cg.cons _ ?_
  exact(cY (l₁:=[_,_,_]) (l₂:=[(R,iJ)])).append_right _) rfl bH)
 rw [hT]
 cases hs:Unicode.isSpace c with
 |true=>
  have fb:=(J7 c).trans hs
  cases h1:([c1]==[c])with
  |true=>
   refine⟨λ_=> ?_,λh=>by simp at h⟩
   cases o with
   |none=>exact qy _ _ _ none _ (drop (U0 ha hb (by lia) (by lia) hd fb l1 h1))
   |some am=>exact qy _ _ _ (some am.2) _ (drop (U6 ha hb (by lia) (by lia) hd fb l1 h1))
  |false=>
   cases h2:([ah]==[c])with
   |true=>
    refine⟨λ_=> ?_,λh=>by simp at h⟩
    cases o with
    |none=>exact qy _ _ _ _ _ (drop (U2 ha hb (by lia) (by lia) hd fb l1 h1 l2 h2))
    |some am=>exact qy _ _ _ _ _ (drop (U8 ha hb (by lia) (by lia) hd fb l1 h1 l2 h2))
   |false=>
    refine⟨λh=>by simp at h,λ_=> ?_⟩
    cases o with
    |none=>exact jJ _ ((_,_),(_,_)) _ _ (keep (U4 ha hb (by lia) (by lia) hd fb l1 h1 l2 h2))
    |some am=>exact jJ _ ((_,_),(_,_)) _ _ (keep (Va ha hb (by lia) (by lia) hd fb l1 h1 l2 h2))
 |false=>
  have fb:=(J7 c).trans hs
  cases h2:([ah]==[c])with
  |true=>
   refine⟨λ_=> ?_,λh=>by simp at h⟩
   cases o with
   |none=>exact qy _ _ _ _ _ (drop (U1 ha hb (by lia) (by lia) hd fb l2 h2))
   |some am=>exact qy _ _ _ _ _ (drop (U7 ha hb (by lia) (by lia) hd fb l2 h2))
  |false=>
   refine⟨λh=>by simp at h,λ_=> ?_⟩
   cases o with
   |none=>exact jJ _ ((_,_),(_,_)) _ _ (keep (U3 ha hb (by lia) (by lia) hd fb l2 h2))
   |some am=>exact jJ _ ((_,_),(_,_)) _ _ (keep (U9 ha hb (by lia) (by lia) hd fb l2 h2))
noncomputable def ky (cur:b8)(c n:Nat):Option Nat:=((jH 1 n).filter (mN Unicode.isSpace cur c)).getLast?
theorem Vd (cur:b8)(c n:Nat):ky cur c (n+1)=if mN Unicode.isSpace cur c (n+1)=true then some (n+1)else ky cur c n:=by
 delta ky
 rw [aeK,xV,Gv 1 n]
 by_cases h:mN Unicode.isSpace cur c (n+1)=true
 ·rw [if_pos h]
  simp [mi,h]
 ·rw [if_neg h]
  simp [mi,h]
theorem Ve {x:Cq}{R:Nat}{S:aJ}(mR:us.length<=10000)(hw:∀i (h:i+1<us.length),us[i+1].g≠[]/\us[i].x≠[])(hl:∀u∈us,u.g.length<=100000/\u.x.length<=100000):∀(n:Nat) {o:eP} {vf:ay} {N J:Nat} {p:aw},n<us.length-> (∀i,ky (us.map TU.key) c n=some i->∃dR ki t o1 N' au,aP w (ut w.P x R af q7) p (aA (fR w.P x.F1 R)) (hJ w.P m x.F1 ea us (cM w.P m.B H z k3 k4 vf vx (Z [c] ca) (nN o)) [(R,bF (O n) (O n) (-1))] S N J U) (.ok .next) (hJ w.P m x.F1 ea us (cM w.P m.B H z k3 k4 dR vx (Z [c] ca) (some ((ki,.int (O i) t),o1))) [] S N' au U))/\ (ky (us.map TU.key) c n=none->∃dR o' N' au,(n=0->o'=o)/\(n≠0->∃am,o'=some am)/\aP w (ut w.P x R af q7) p (aA (fR w.P x.F1 R)) (hJ w.P m x.F1 ea us (cM w.P m.B H z k3 k4 vf vx (Z [c] ca) (nN o)) [(R,bF (O n) (O n) (-1))] S N J U) (.ok .cont) (hJ w.P m x.F1 ea us (cM w.P m.B H z k3 k4 dR vx (Z [c] ca) (nN o')) [] S N' au U)):=by
 intro n
 induction n with
 |zero=>
  intro o vf N J p hn
  refine⟨λi h=>by simp [ky]at h,λ_=> ?_⟩
  have fin:∀{Φ:bI->bI->Prop} {fr ro iJ:az} {N' au:Nat},fw w (dE w.P m.B 0 (m.obj w.P) x.F1 R ea (bj us) fr ro [] N J U) (dE w.P m.B 0 (m.obj w.P) x.F1 R ea (bj us) fr iJ [] N' au U) Φ->
    fw w (hJ w.P m x.F1 ea us fr [(R,ro)] S N J U) (hJ w.P m x.F1 ea us fr [] S N' au U) Φ:=λ{Φ fr ro iJ N' au} h=>
   aK.kU (X:=[]) (R:=us.map TU.ent++S) (.refl _) (aK.less (aK.same h (by
    simp only [aC.all,dE,ce,bk,eB,cZ]
    refine cg.cons _ ?_
    exact(cY (l₁:=[_,_,_]) (l₂:=[(R,ro)]))) rfl ⟨rfl,rfl,rfl⟩ (.refl _) rfl ⟨rfl,rfl,rfl⟩) (A:=[(R,iJ)]) (B:=[]) (by
    simp only [aC.all,dE,ce,bk,eB,cZ]
    refine cg.cons _ ?_
    exact(cY (l₁:=[(R,iJ)]))) (.refl _) ⟨rfl,rfl,rfl⟩)
  cases o with
  |none=>exact pa vf none _ _ (λ_=>rfl) (λh=>absurd rfl h) (fin (U5))
  |some am=>exact pa vf (some am) _ _ (λ_=>rfl) (λh=>absurd rfl h) (fin (Vb (ki:=am.1.1) (kp:=am.2.1) (vi:=am.1.2) (vp:=am.2.2)))
 |succ n aS=>
  intro o vf N J p hn
  refine cB (Vc (w:=w) (m:=m) (x:=x) (R:=R) (af:=af) (ea:=ea) (U:=U) (H:=H) (z:=z) (k3:=k3) (k4:=k4) (c:=c) (ca:=ca) (q7:=q7) (vx:=vx) (S:=S) mR hw hl n n o vf N J p hn) λT1 T2=> ?_
  rw [Vd]
  cases hb:mN Unicode.isSpace (us.map TU.key) c (n+1)with
  |true=>
   rw [if_pos rfl]
   refine GG (T1 hb) λdR ki t o1 au h=>
    ⟨λi hi=>by cases hi;exact x6 dR ki t o1 N au h,λh=>by cases h⟩
  |false=>
   rw [if_neg (by decide)]
   refine o9 (T2 hb) λdR am au p' h=>
    cB (aS (o:=some am) (vf:=dR) (N:=N) (J:=au) (p:=p') mv) λI1 I2=>
    ⟨λi hi=> ?_,λhi=> ?_⟩
   ·refine x4 (I1 i hi) λwR ki t o1 N2 eR h2=> ?_
    exact x6 wR ki t o1 N2 eR (ax.turn (aT w) rfl (by kernel_rfl) h h2)
   ·refine vh (I2 hi) λwR o' N2 eR e1 e2 h2=> ?_
    refine pa wR o' N2 eR (λh=>absurd h lq) (λ_=> ?_) (ax.turn (aT w) rfl (by kernel_rfl) h h2)
    by_cases nO:n=0
    ·exact⟨am,e1 nO⟩
    ·exact e2 nO
noncomputable def AL (P:aF)(B H z k3:Nat)(vf vx:ay):az:=bz [de P gf H (.ref (B+962+1)),de P mV z vf,de P strN k3 vx] 3
noncomputable def iK (P:aF)(m:Fm)(ea:Nat)(Y:LV):aJ:=[(m.B+962+1,nL m.B),(m.B+962,m.obj P),(m.B+962+5,bJ (m.B+962+4) Y ea)]
noncomputable def iL (a1 a2 A D ea:Nat)(vd:az)(Y:LV):aJ:=[(a1,{cls:= .ref 122,dict:=some a2}),(a2,vd),(A,bJ D Y ea)]
def nP (w:WB)(x:Cq)(R af a1 a2 A D ea n N J U N' au:Nat)(vd:az)(Y:LV)(Sg:aJ)(fr db:az)(r:Flow)(q7 p:aw):Prop:=
 aP w (ut w.P x R af q7) p ((VV w).M.den (fR w.P x.F1 R)) ⟨[(x.F1,fr),(R,bF (O n) (O n) (cJ 0))]++iL a1 a2 A D ea vd Y,[Sg],N,J,[],U⟩ (.ok r) ⟨[(x.F1,db)]++iL a1 a2 A D ea vd Y,[Sg],N',au,[],U⟩
noncomputable def DG (w:WB)(aH bt:d){x:Cq}{R af a1 a2 A D ea n N J U N' au:Nat}{vd:az}{Y:LV}{Sg:aJ}{fr db:az}{q7 p:aw}(h:nP w x R af a1 a2 A D ea n N J U N' au vd Y Sg fr db .next q7 p):aM w:= .fn _ _ aH bt [] _ _ _ h
noncomputable def DH (w:WB)(aH bt:d){x:Cq}{R af a1 a2 A D ea n N J U N' au:Nat}{vd:az}{Y:LV}{Sg:aJ}{fr db:az}{q7 p:aw}(h:nP w x R af a1 a2 A D ea n N J U N' au vd Y Sg fr db .cont q7 p):aM w:= .fn _ _ aH bt [] _ _ _ h
noncomputable def uu (w:WB)(aH:d){A D e N J U t' N' au:Nat}{Y:LV}{x:Cq}{af:Nat}{q7 p:aw}(h:mQ w A D e N J U t' N' au Y ((d6 w.P x.F1 af,q7)::x.ac w.P) p):aM w:=JS w aH h
noncomputable def gR (P:aF)(x:Cq)(af:Nat):bd:=⟨d6 P x.F1 af,none,none,x.ac P,none⟩
noncomputable def f6 (P:aF)(m:Fm)(x:Cq)(af ea ki ini ti ei:Nat)(Y:LV)(Sg:aJ)(fr ro:az)(N J U:Nat):aC:=⟨[(x.F1,fr),(af,ro),(m.B+962+4,cq P ki ini ti ei)]++iK P m ea Y,[Sg],N,J,[],U⟩
section
variable {x:Cq}(hc:m.sg[j]? =some c)(hv:Y.length=n+1)(h3:mQ w (m.B+962+5) (m.B+962+4) ea N (J+3) U gJ aU aI Y ((d6 w.P x.F1 af,pn)::Cq.ac w.P x) pn)(h4:n<=100000)
include hc hv h3 h4
theorem Vf (h8:nP w x (aU+1) af (m.B+962+1) (m.B+962) (m.B+962+5) (m.B+962+4) ea n (aU+2) (aI+5) U eX gY (Fm.obj w.P m) Y Sg (bz [de w.P [115,101,108,102] H (aQ (m.B+962+1)),de w.P [102,119,115] z vf,de w.P [115,116,114,105,110,103] k3 vx,de w.P [99,104] (J+1) (Z [c] J)] 4) lE Flow.cont iV iV):aE w (gR w.P x af) p (aA (d6 w.P x.F1 af)) (f6 w.P m x af ea ki ini ti ei Y Sg (AL w.P m.B H z k3 vf vx) (bS m.sg m.ts j) N J U) (.ok (.again (d6 w.P x.F1 af))) iV (f6 w.P m x af ea ki ini ti ei Y Sg lE (bS m.sg m.ts (j+1)) eX gY U):=
 by revert w;exact @(CA 0x552a4a028f3098989bcb58582c60c68c3 (λw h3 h8=>[gA w [1] af m.ts hc,uu w [5] h3,gD w _ 1 n gJ aI hv,un w [0] aU (aI+1) (aI+2) (aI+4) h4,DH w [4,0,4,4,1] [0] h8]) [0,4,4,0,0,0] [0])
theorem Vg (h8:nP w x (aU+1) af (m.B+962+1) (m.B+962) (m.B+962+5) (m.B+962+4) ea n (aU+2) (aI+5) U eX gY (Fm.obj w.P m) Y Sg (bz [de w.P [115,101,108,102] H (aQ (m.B+962+1)),de w.P [102,119,115] z vf,de w.P [115,116,114,105,110,103] k3 vx,de w.P [99,104] (J+1) (Z [c] J)] 4) lE Flow.next iV iV):aP w (gR w.P x af) p (aA (d6 w.P x.F1 af)) (f6 w.P m x af ea ki ini ti ei Y Sg (AL w.P m.B H z k3 vf vx) (bS m.sg m.ts j) N J U) (.ok .next) (f6 w.P m x af ea ki ini ti ei Y Sg lE (bS m.sg m.ts (j+1)) eX gY U):=
 by revert w;exact @(vE 0x552a4a028f3098989bcb58582c60c68c3 (λw h3 h8=>[gA w [1] af m.ts hc,uu w [5] h3,gD w _ 1 n gJ aI hv,un w [0] aU (aI+1) (aI+2) (aI+4) h4,DG w [4,0,4,4,1] [0] h8]) [0,4,4,0,0,0] [0])
theorem Vh (h8:nP w x (aU+1) af (m.B+962+1) (m.B+962) (m.B+962+5) (m.B+962+4) ea n (aU+2) (aI+5) U eX gY (Fm.obj w.P m) Y Sg (bz [de w.P [115,101,108,102] H (aQ (m.B+962+1)),de w.P [102,119,115] z vf,de w.P [115,116,114,105,110,103] k3 vx,de w.P [99,104] k4 (Z [c] J)] 4) lE Flow.cont iV iV):aE w (gR w.P x af) p (aA (d6 w.P x.F1 af)) (f6 w.P m x af ea ki ini ti ei Y Sg (cM w.P m.B H z k3 k4 vf vx vc none) (bS m.sg m.ts j) N J U) (.ok (.again (d6 w.P x.F1 af))) iV (f6 w.P m x af ea ki ini ti ei Y Sg lE (bS m.sg m.ts (j+1)) eX gY U):=
 by revert w;exact @(CA 0x552a4a028f3098989bcb58582c60c68c3 (λw h3 h8=>[gA w [1] af m.ts hc,uu w [5] h3,gD w _ 1 n gJ aI hv,un w [0] aU (aI+1) (aI+2) (aI+4) h4,DH w [4,0,4,4,1] [0] h8]) [0,4,4,0,0,0] [0])
theorem Vi (h8:nP w x (aU+1) af (m.B+962+1) (m.B+962) (m.B+962+5) (m.B+962+4) ea n (aU+2) (aI+5) U eX gY (Fm.obj w.P m) Y Sg (bz [de w.P [115,101,108,102] H (aQ (m.B+962+1)),de w.P [102,119,115] z vf,de w.P [115,116,114,105,110,103] k3 vx,de w.P [99,104] k4 (Z [c] J)] 4) lE Flow.next iV iV):aP w (gR w.P x af) p (aA (d6 w.P x.F1 af)) (f6 w.P m x af ea ki ini ti ei Y Sg (cM w.P m.B H z k3 k4 vf vx vc none) (bS m.sg m.ts j) N J U) (.ok .next) (f6 w.P m x af ea ki ini ti ei Y Sg lE (bS m.sg m.ts (j+1)) eX gY U):=
 by revert w;exact @(vE 0x552a4a028f3098989bcb58582c60c68c3 (λw h3 h8=>[gA w [1] af m.ts hc,uu w [5] h3,gD w _ 1 n gJ aI hv,un w [0] aU (aI+1) (aI+2) (aI+4) h4,DG w [4,0,4,4,1] [0] h8]) [0,4,4,0,0,0] [0])
end
section
variable {x:Cq}{o:Nat×ay}(hc:m.sg[j]? =some c)(hv:Y.length=n+1)(h3:mQ w (m.B+962+5) (m.B+962+4) ea N (J+3) U gJ aU aI Y ((d6 w.P x.F1 af,pn)::Cq.ac w.P x) pn)(h4:n<=100000)
include hc hv h3 h4
theorem Vj (h8:nP w x (aU+1) af (m.B+962+1) (m.B+962) (m.B+962+5) (m.B+962+4) ea n (aU+2) (aI+5) U eX gY (Fm.obj w.P m) Y Sg (bz [de w.P [115,101,108,102] H (aQ (m.B+962+1)),de w.P [102,119,115] z vf,de w.P [115,116,114,105,110,103] k3 vx,de w.P [99,104] k4 (Z [c] J),de w.P [105] o.fst o.snd,de w.P [112,114,101,118,112,97,114,116] o2.fst o2.snd] 6) lE Flow.cont iV iV):aE w (gR w.P x af) p (aA (d6 w.P x.F1 af)) (f6 w.P m x af ea ki ini ti ei Y Sg (cM w.P m.B H z k3 k4 vf vx vc (some (o,some o2))) (bS m.sg m.ts j) N J U) (.ok (.again (d6 w.P x.F1 af))) iV (f6 w.P m x af ea ki ini ti ei Y Sg lE (bS m.sg m.ts (j+1)) eX gY U):=
 by revert w;exact @(CA 0x552a4a028f3098989bcb58582c60c68c3 (λw h3 h8=>[gA w [1] af m.ts hc,uu w [5] h3,gD w _ 1 n gJ aI hv,un w [0] aU (aI+1) (aI+2) (aI+4) h4,DH w [4,0,4,4,1] [0] h8]) [0,4,4,0,0,0] [0])
theorem Vk (h8:nP w x (aU+1) af (m.B+962+1) (m.B+962) (m.B+962+5) (m.B+962+4) ea n (aU+2) (aI+5) U eX gY (Fm.obj w.P m) Y Sg (bz [de w.P [115,101,108,102] H (aQ (m.B+962+1)),de w.P [102,119,115] z vf,de w.P [115,116,114,105,110,103] k3 vx,de w.P [99,104] k4 (Z [c] J),de w.P [105] o.fst o.snd,de w.P [112,114,101,118,112,97,114,116] o2.fst o2.snd] 6) lE Flow.next iV iV):aP w (gR w.P x af) p (aA (d6 w.P x.F1 af)) (f6 w.P m x af ea ki ini ti ei Y Sg (cM w.P m.B H z k3 k4 vf vx vc (some (o,some o2))) (bS m.sg m.ts j) N J U) (.ok .next) (f6 w.P m x af ea ki ini ti ei Y Sg lE (bS m.sg m.ts (j+1)) eX gY U):=
 by revert w;exact @(vE 0x552a4a028f3098989bcb58582c60c68c3 (λw h3 h8=>[gA w [1] af m.ts hc,uu w [5] h3,gD w _ 1 n gJ aI hv,un w [0] aU (aI+1) (aI+2) (aI+4) h4,DG w [4,0,4,4,1] [0] h8]) [0,4,4,0,0,0] [0])
end
noncomputable def mW (I S:Nat):bL:= .builtin "max.loop" ⟨[.ref I,.none,.ref S],[]⟩
noncomputable def rp (P:aF)(I S F I0 K:Nat)(q q1 G:aw):bd:=⟨mW I S,none,none,Dt P F I0 K q q1 G,none⟩
noncomputable def lR (rk t1 at_ t2:Nat):az:=aG [.int (-O rk) t1,.int (O at_) t2]
theorem Vl {S u1:Nat}{F:Nat}(hv:Y[i]? =some (.ref a)):aE w (rp w.P I S F I0 K q q1 G) p (aA (mW I S)) ⟨[(I,bM l i),(l,aq Y E),(S,aq [] eS),(a,lR r1 t1 a1 u1)],[],N,J,[],U⟩ (.ok (.again (mW I S))) p ⟨[(I,bM l (i+1)),(l,aq Y E),(S,aq [.ref a,.ref a] (eS+1)),(a,lR r1 t1 a1 u1)],[],N,J,[],U⟩:=
 w1 30307623 [c9 w [0,0] I l E hv] [0,0,0,0]
theorem Vm {S u1 t2 u2:Nat}{F:Nat}(hv:Y[i]? =some (.ref a))(h0:(if(-O r1== -O r2)=true then decide (O a1>O a2)else decide (-O r1> -O r2))=true):aE w (rp w.P I S F I0 K q q1 G) p (aA (mW I S)) ⟨[(I,bM l i),(l,aq Y E),(S,aq [.ref b,.ref b] eS),(a,lR r1 t1 a1 u1),(b,lR r2 t2 a2 u2)],[],N,J,[],U⟩ (.ok (.again (mW I S))) p ⟨[(I,bM l (i+1)),(l,aq Y E),(S,aq [.ref a,.ref a] eS),(a,lR r1 t1 a1 u1),(b,lR r2 t2 a2 u2)],[],N,J,[],U⟩:=
 by revert w;exact @(dI 544785242699047 (λw=>[c9 w [0,0] I l E hv,JY w [3,3] a b t1 u1 t2 u2 h0]) [2,2,2,0,0])
theorem Vn {S u1 t2 u2:Nat}{F:Nat}(hv:Y[i]? =some (.ref a))(h0:(if(-O r1== -O r2)=true then decide (O a1>O a2)else decide (-O r1> -O r2))=false):aE w (rp w.P I S F I0 K q q1 G) p (aA (mW I S)) ⟨[(I,bM l i),(l,aq Y E),(S,aq [.ref b,.ref b] eS),(a,lR r1 t1 a1 u1),(b,lR r2 t2 a2 u2)],[],N,J,[],U⟩ (.ok (.again (mW I S))) p ⟨[(I,bM l (i+1)),(l,aq Y E),(S,aq [.ref b,.ref b] eS),(a,lR r1 t1 a1 u1),(b,lR r2 t2 a2 u2)],[],N,J,[],U⟩:=
 by revert w;exact @(dI 11590874407 (λw=>[c9 w [0,0] I l E hv,JY w [3,3] a b t1 u1 t2 u2 h0]) [2,2,2,0,0])
theorem Vo {S:Nat}{F:Nat}(hv:Y[i]? =none):aP w (rp w.P I S F I0 K q q1 G) p (aA (mW I S)) ⟨[(I,bM l i),(l,aq Y E),(S,aq [.ref b,.ref b] eS)],[],N,J,[],U⟩ (.ok (.ret (.ref b))) ⟨[(I,eY i),(l,aq Y E),(S,aq [] (eS+1))],[],(N+2),J,[],U⟩:=
 dJ 259773735 [gz w [0,0] I l E hv] [2,2,2]
noncomputable def qc (P:aF)(x:Cq)(q3:aw):b9:=(J0 P x.F1,q3)::x.ac P
noncomputable def rt (P:aF)(x:Cq)(F2:Nat)(q4 q3:aw):b9:=dB P 84 F2 q4 (qc P x q3)
def jd (w:WB)(A D k n t ei e N J U e' N' au:Nat)(Y:LV)(v:ay)(ac:b9)(p:aw):Prop:=
 aP w ⟨.call (.ref 166) ⟨[.ref A],[]⟩,none,none,ac,none⟩ p ((VV w).M.den (.call (.ref 166) ⟨[.ref A],[]⟩)) ⟨[(A,bJ D (Y++[v]) e),(D,cq w.P k n t ei)],[],N,J,[],U⟩ (.ok (.ret v)) ⟨[(A,bJ D Y e'),(D,cq w.P k n t ei)],[],N',au,[],U⟩
noncomputable def DJ (w:WB)(aH:d){A D k n t ei e N J U e' N' au:Nat}{Y:LV}{v:ay}{ac:b9}{p:aw}(h:jd w A D k n t ei e N J U e' N' au Y v ac p):aM w:= .fn _ _ aH [] [] _ _ _ h
def ru (w:WB)(A D k n t ei e N J U a t1 t2 N' au:Nat)(ac:b9)(p:aw):Prop:=
 aP w ⟨.call (.ref 166) ⟨[.ref A],[]⟩,none,none,ac,none⟩ p ((VV w).M.den (.call (.ref 166) ⟨[.ref A],[]⟩)) ⟨[(A,bJ D [] e),(D,cq w.P k n t ei)],[],N,J,[],U⟩ (.ok (.ret (.ref a))) ⟨[(A,bJ D [] e),(D,cq w.P k n t ei),(a,aG [Z [] t1,Z [] t2])],[],N',au,[],U⟩
noncomputable def Vp (w:WB)(aH:d){A D k n t ei e N J U a t1 t2 N' au:Nat}{ac:b9}{p:aw}(h:ru w A D k n t ei e N J U a t1 t2 N' au ac p):aM w:= .fn _ _ aH [] [] _ _ _ h
noncomputable def AM (w:WB)(aH:d){A D k n t ei e N J U e' N' au:Nat}{Y:LV}{v:ay}{x:Cq}{q3 p:aw}(h:jd w A D k n t ei e N J U e' N' au Y v (qc w.P x q3) p):aM w:=DJ w aH h
noncomputable def Vq (w:WB)(aH:d){A D k n t ei e N J U e' N' au:Nat}{Y:LV}{v:ay}{x:Cq}{F2:Nat}{q4 q3 p:aw}(h:jd w A D k n t ei e N J U e' N' au Y v (rt w.P x F2 q4 q3) p):aM w:=DJ w aH h
noncomputable def Vr (w:WB)(aH:d){A D k n t ei e N J U a t1 t2 N' au:Nat}{x:Cq}{F2:Nat}{q4 q3 p:aw}(h:ru w A D k n t ei e N J U a t1 t2 N' au (rt w.P x F2 q4 q3) p):aM w:=Vp w aH h
noncomputable def J8 (w:WB)(aH bt:d){x:Cq}{F2:Nat}{q4 q3:aw}{A D k n t e ei a:Nat}{Y:LV}{ob tb dk:az}{S:aJ}{N J U t' r N' au br:Nat}{p:aw}(h:fG w (.c2 F2 x.F1 x.F x.ag x.K q4 q3 x.q0 x.q x.q1 x.G) A D k n t e ei (Y++[aQ a]) tb dk [(a,ob)] S N J U t' r N' au br p):aM w:=AG w aH bt h
noncomputable def Vs (A:Nat):bL:= .builtin "type.__call__" ⟨[.type "str",.ref A],[]⟩
noncomputable def Vt (A:Nat):bL:= .builtin "str.__new__" ⟨[.type "str",.ref A],[]⟩
noncomputable def AN (P:aF)(A:Nat)(c:Lx)(q6 q5:aw):b9:=(Vt A,q6)::(Vs A,q5)::c.ac P
def fp (w:WB)(c:Lx)(A D e:Nat)(Y:LV)(tb dk:az)(X S:aJ)(N J U t':Nat)(r:d)(N' au br:Nat)(q6 q5 p:aw):Prop:=
 aP w ⟨.call (.ref 180) ⟨[.ref A],[]⟩,none,none,AN w.P A c q6 q5,none⟩ p ((VV w).M.den (.call (.ref 180) ⟨[.ref A],[]⟩)) ⟨[(A,bJ D Y e),(175,tb)]++X,[S],N,J,[],U⟩ (.ok (.ret (Z r t'))) ⟨[(A,bJ D Y e),(175,dk)]++X,[S],N',au,[],br⟩
noncomputable def DK (w:WB)(aH bt:d){c:Lx}{A D e a:Nat}{Y:LV}{ob tb dk:az}{S:aJ}{N J U t':Nat}{r:d}{N' au br:Nat}{q6 q5 p:aw}(h:fp w c A D e (Y++[aQ a]) tb dk [(a,ob)] S N J U t' r N' au br q6 q5 p):aM w:= .fn _ _ aH bt [] _ _ _ h
noncomputable def J9 (w:WB)(aH bt:d){x:Cq}{F2:Nat}{q4 q3:aw}{A D e a:Nat}{Y:LV}{ob tb dk:az}{S:aJ}{N J U t':Nat}{r:d}{N' au br:Nat}{q6 q5 p:aw}(h:fp w (.c2 F2 x.F1 x.F x.ag x.K q4 q3 x.q0 x.q x.q1 x.G) A D e (Y++[aQ a]) tb dk [(a,ob)] S N J U t' r N' au br q6 q5 p):aM w:=DK w aH bt h
noncomputable def rv (P:aF)(m:Fm)(x:Cq)(af ea ki ini ti ei j el:Nat)(Y ls:LV)(t1 t2:az)(Sg:aJ)(fr:az)(X:aJ)(N J U:Nat):aC:=⟨[(x.F1,fr),(af,bS m.sg m.ts j),(m.B+962+4,cq P ki ini ti ei),(m.B+962+3,aq ls el),(168,t1),(175,t2)]++iK P m ea Y++X,[Sg],N,J,[],U⟩
theorem Vu {x:Cq}{g g2 y2:d}{t1:az}(hc:m.sg[j]? =none)(hi:decide (O (ini+1)>O 0)=true)(bD:(!(g2==[32]&&y2==[]))=true)(h3:jd w (m.B+962+5) (m.B+962+4) ki 0 ti ei ea (N+2) (J+1) U c7 aU aI Y (aQ a) (qc w.P x lu) lu)(h4:Y.length<=100000):aP w (gR w.P x af) p (aA (d6 w.P x.F1 af)) (rv w.P m x af ea ki (0) ti ei j el (Y++[aQ a]) ls t1 t2 Sg (cM w.P m.B H z k3 k4 vf vx vc none) [(a,aG [Z g tg,Z y tx])] N J U) (.ok (.ret .none)) ⟨[(m.B+962+4,cq w.P ki 0 ti ei),(m.B+962+3,aq ls el),(168,t1),(175,t2)]++iK w.P m (c7+1) (Y++[aQ (aU+4)])++[((aU+4),aG [Z g tg,Z y tx])],[Sg],(aU+5),(aI+9),[],U⟩:=
 by revert w;exact @(iA 0x29966f0f0f0f455504fd3f7ac161616ef9bf6fc37e0dfa7e9e5ac2c5805bbe6fdbf0df837e9fa7e9fa7e9faadfa92adfa92adfa9299f33ecfb3e9ebf82fe17f0bfabe4fd3f09f827eb28c3 (λw h3=>[oA w [1] af m.ts hc,AM w [10,4] h3,cb w (a:=0) (b:=0) ti (aI+4) (r:=false) rfl,lP w [5] (m.B+962+5) (m.B+962+4) c7 (.ref (aU+4)) h4]) [6,10,10,10,10,10,0,0] [0])
theorem Vv {x:Cq}{g g2 y2:d}{o:Nat×ay}{t1:az}(hc:m.sg[j]? =none)(hi:decide (O (ini+1)>O 0)=true)(bD:(!(g2==[32]&&y2==[]))=true)(h3:jd w (m.B+962+5) (m.B+962+4) ki 0 ti ei ea (N+2) (J+1) U c7 aU aI Y (aQ a) (qc w.P x lu) lu)(h4:Y.length<=100000):aP w (gR w.P x af) p (aA (d6 w.P x.F1 af)) (rv w.P m x af ea ki (0) ti ei j el (Y++[aQ a]) ls t1 t2 Sg (cM w.P m.B H z k3 k4 vf vx vc (some (o,some o2))) [(a,aG [Z g tg,Z y tx])] N J U) (.ok (.ret .none)) ⟨[(m.B+962+4,cq w.P ki 0 ti ei),(m.B+962+3,aq ls el),(168,t1),(175,t2)]++iK w.P m (c7+1) (Y++[aQ (aU+4)])++[((aU+4),aG [Z g tg,Z y tx])],[Sg],(aU+5),(aI+9),[],U⟩:=
 by revert w;exact @(iA 0x29966f0f0f0f455504fd3f7ac161616ef9bf6fc37e0dfa7e9e5ac2c5805bbe6fdbf0df837e9fa7e9fa7e9faadfa92adfa92adfa9299f33ecfb3e9ebf82fe17f0bfabe4fd3f09f827eb28c3 (λw h3=>[oA w [1] af m.ts hc,AM w [10,4] h3,cb w (a:=0) (b:=0) ti (aI+4) (r:=false) rfl,lP w [5] (m.B+962+5) (m.B+962+4) c7 (.ref (aU+4)) h4]) [6,10,10,10,10,10,0,0] [0])
theorem Vw {x:Cq}{g2 y2:d}{t1:az}(hc:m.sg[j]? =none)(hi:decide (O (ini+1)>O 0)=true)(bD:(!(g2==[32]&&y2==[]))=true)(h3:jd w (m.B+962+5) (m.B+962+4) ki (ini+1) ti ei ea (N+2) (J+1) U c7 aU aI [] (aQ a) (qc w.P x lu) lu){a4:Nat}{wS:Nat}{wT:Nat}{nQ:Nat}{AO:Nat}(h9:ru w (m.B+962+5) (m.B+962+4) ki (ini+1) ti ei c7 (aU+4) (aI+7) U a4 wS wT nQ AO (rt w.P x (aU+3) gW kg) gW){Ka:az}{Kb:Nat}{Kc:Nat}(cP:fG w (Lx.c2 (aU+3) x.F1 x.F x.ag x.K kh kg x.q0 x.q x.q1 x.G) (m.B+962+5) (m.B+962+4) ki (ini+1) ti (c7+1) ei ([]++[aQ (nQ+4)]) t1 Ka [(nQ+4,aG [Z [] wS,Z [] wT])] Sg (nQ+5) (AO+9) U Kb Kc vK qI vL kh)(je:decide (O Kc>O 0)=true){Kd:az}{DL:Nat}{DM:d}{rx:Nat}{AP:Nat}{Ke:Nat}(jW:fp w (Lx.c2 (aU+3) x.F1 x.F x.ag x.K eq kg x.q0 x.q x.q1 x.G) (m.B+962+5) (m.B+962+4) (c7+1) ([]++[aQ (nQ+4)]) t2 Kd [(nQ+4,aG [Z [] wS,Z [] wT])] Sg (vK+1) (qI+7) vL DL DM rx AP Ke eq eq eq)(uv:ls.length<=100000):aP w (gR w.P x af) p (aA (d6 w.P x.F1 af)) (rv w.P m x af ea ki (ini+1) ti ei j el ([]++[aQ a]) ls t1 t2 Sg (cM w.P m.B H z k3 k4 vf vx vc none) [(a,aG [Z [] tg,Z y tx])] N J U) (.ok (.ret .none)) ⟨[(m.B+962+4,cq w.P ki 0 (AP+4) ei),(m.B+962+3,aq (ls++[cu {cps:={toList:=DM}} DL]) (el+1)),(168,Ka),(175,Kd)]++iK w.P m (c7+2+1) [(.ref (rx+4))]++[((rx+4),aG [Z [32] (AP+9),Z y tx])],[Sg],(rx+5),(AP+15),[],Ke⟩:=
 by revert w;exact @(HL 0x8e557c60606068aaa17fdfe9fa08439fb1fc7c63e18fdff7fdfedfe9fa7e9f90910569e0f3c6318d15413180c0c0edf57f5f8afc2bf6fda7c2030b7d5fd7e2bf0afd7f27f9fe7f9fedf57f5f8afc2bf5fd386303060068a0341086bf53f4f8a7c29f57d55fa9fa7c53e14fa7e2b96f31313134555070ea1cc2c738070e00f1fa1f87c43e10fbd596ad6b5a9bc1e1e1eff9df77c3be0efa283bedf837e1bf0dfa7e9e5ac2c5805bbe6fdbf0df837e9fa7e9fa7e9faadfa92adfa92adfa9299f33ecfb3e9ebf82fe17f0bfabe4fd3f09f827eb28c3 (λw h3 h9 cP jW=>[oA w [1] af m.ts hc,AM w [10,4] h3,cb w ti (aI+4) hi,Vr w [4,4] h9,AD w [3,0] a4 nQ (g1:=[]) (x1:=[]) (g2:=[32]) (x2:=[]) wS wT (AO+1) (AO+2) (r:=true) rfl,AE w [0,1] (nQ+2) a4 (Z [] wS) (Z [] wT),lP w [6] (m.B+962+5) (m.B+962+4) c7 (Y:=[]) (.ref (nQ+4)) (by decide),J8 w [0,6,15,0] [0] cP,cb w Kb qI je,cR w (a:=O (ini+1)) (b:=0) ti (qI+4) (r:=false) rfl,J9 w [1,18,3] [0] jW,bR w [19] (m.B+962+3) el (Z DM DL) uv,um w [4,0,0] (rx+2) (m.B+962+5) (rx+1) (m.B+962+4) (c7+1) 0 (Y:=[(.ref (nQ+4))]) [] (of_decide_eq_true (by kernel_rfl)) (by decide),bZ w (a:=[]) tg (by decide),lP w [2] (m.B+962+5) (m.B+962+4) (c7+2) (Y:=[]) (.ref (rx+4)) (by decide)]) [10,6,9,6,21,21,0,0] [0])
theorem Vx {x:Cq}{g g2 y2:d}{o:Nat×ay}{t1:az}(hc:m.sg[j]? =none)(hi:decide (O (ini+1)>O 0)=true)(bD:(!(g2==[32]&&y2==[]))=true)(h3:jd w (m.B+962+5) (m.B+962+4) ki (ini+1) ti ei ea (N+2) (J+1) U c7 aU aI (Y++[aQ b]) (aQ a) (qc w.P x lu) lu){ry:Nat}(h7:jd w (m.B+962+5) (m.B+962+4) ki (ini+1) ti ei c7 (aU+4) (aI+7) U ry eX gY Y (aQ b) (rt w.P x (aU+3) gW kg) gW)(h8:Y.length<=100000){Kf:az}{Kg:Nat}{Kh:Nat}{Ki:Nat}{AQ:Nat}{Kj:Nat}(cz:fG w (Lx.c2 (aU+3) x.F1 x.F x.ag x.K kh kg x.q0 x.q x.q1 x.G) (m.B+962+5) (m.B+962+4) ki (ini+1) ti (ry+1) ei (Y++[aQ (eX+4)]) t1 Kf [(eX+4,aG [Z g2 bg,Z y2 bO])] Sg (eX+5) (gY+9) U Kg Kh Ki AQ Kj kh)(cP:decide (O Kh>O 0)=true){Kk:az}{DN:Nat}{DO:d}{rz:Nat}{DP:Nat}{Kl:Nat}(rA:fp w (Lx.c2 (aU+3) x.F1 x.F x.ag x.K eq kg x.q0 x.q x.q1 x.G) (m.B+962+5) (m.B+962+4) (ry+1) (Y++[aQ (eX+4)]) t2 Kk [(eX+4,aG [Z g2 bg,Z y2 bO])] Sg (Ki+1) (AQ+7) Kj DN DO rz DP Kl eq eq eq)(jW:ls.length<=100000)(uv:(Y++[aQ (eX+4)]).length<=100000)(lS:(c2::g).length<=100000):aP w (gR w.P x af) p (aA (d6 w.P x.F1 af)) (rv w.P m x af ea ki (ini+1) ti ei j el ((Y++[aQ b])++[aQ a]) ls t1 t2 Sg (cM w.P m.B H z k3 k4 vf vx vc (some (o,some o2))) [(a,aG [Z (c2::g) tg,Z y tx]),(b,aG [Z g2 bg,Z y2 bO])] N J U) (.ok (.ret .none)) ⟨[(m.B+962+4,cq w.P ki 0 (DP+4) ei),(m.B+962+3,aq (ls++[cu {cps:={toList:=DO}} DN]) (el+1)),(168,Kf),(175,Kk)]++iK w.P m (eL (Y++[aQ (eX+4)]).length ([]:LV).length (ry+1)+1) [(.ref (rz+4))]++[((rz+4),aG [Z (c2::g) tg,Z y tx])],[Sg],(rz+5),(DP+13),[],Kl⟩:=
 by revert w;exact @(HL 0x472abe303030345550bfeff4fd0421cfd8fe3e31f0c7eff6ff4fd3f4fc84882b4f079e318c68aa098c0606076fabfafc57e15fb7ed3e10185beafebf15f857ebf93fcff3fcff6fabfafc57e15fafe9c3181830034501a08435fa9fa7c53e14fabeaafd4fd3e29f0a7d3f15cb79898989a2aa838750e61639c03870078fd0fc3e21f087decbe97d97ce73a9bc1e1e1eff9df77c3be0efa283bedf837e1bf0dfa7e9e5ac2c5805bbe6fdbf0df837e9fa7e9fa7e9faadfa92adfa92adfa9299f33ecfb3e9ebf82fe17f0bfabe4fd3f09f827eb28c3 (λw h3 h7 cz rA=>[oA w [1] af m.ts hc,AM w [10,4] h3,cb w ti (aI+4) hi,Vq w [4,4] h7,AD w [17,0] b eX bg bO (gY+1) (gY+2) bD,AE w [0,1] (eX+2) b (Z g2 bg) (Z y2 bO),lP w [6] (m.B+962+5) (m.B+962+4) ry (.ref (eX+4)) h8,J8 w [0,6,15,0] [0] cz,cb w Kg AQ cP,cR w (a:=O (ini+1)) (b:=0) ti (AQ+4) (r:=false) rfl,J9 w [1,18,3] [0] rA,bR w [19] (m.B+962+3) el (Z DO DN) jW,um w [4,0,0] (rz+2) (m.B+962+5) (rz+1) (m.B+962+4) (ry+1) 0 [] uv (by decide),bZ w tg lS,lP w [2] (m.B+962+5) (m.B+962+4) (eL (Y++[aQ (eX+4)]).length ([]:LV).length (ry+1)) (Y:=[]) (.ref (rz+4)) (by decide)]) [10,6,9,6,21,21,0,0] [0])
noncomputable def DQ (P:aF):Expr:=bv (jO (dW (cw P 173) 0)) [1]
noncomputable def DR (P:aF)(Fj F ae:Nat):Env:=genEnv (DQ P) (eQ P 173 Fj []) F [] (.ref ae)
noncomputable def Vy (P:aF)(Fj F ae I:Nat):bL:= .compLoop (DQ P) 0 (.ref I) .none (DR P Fj F ae)
noncomputable def Km (P:aF)(c:Lx)(A Fj:Nat)(q9 q8:aw):b9:=dB P 173 Fj q9 ((qa A,q8)::c.ac P)
noncomputable def rB (P:aF)(c:Lx)(A Fj Gn S:Nat)(q9 q8:aw):bd:=⟨sumK Gn S,none,none,Km P c A Fj q9 q8,none⟩
noncomputable def DS (P:aF)(k I:Nat):eP->az
 |none=>bz [de P [46,48] k (.ref I)] 1
 |some x=>bz [de P [46,48] k (.ref I),de P mV x.1.1 x.1.2,de P Aq x.2.1 x.2.2] 3
noncomputable def DT (P:aF)(Fj F ae I:Nat):eP->GenState
 |none=> .fresh (.compStart (DQ P) 0 (.ref I) .none (DR P Fj F ae))
 |some _=>genS (DR P Fj F ae) (Vy P Fj F ae I) ⟨102,20,102,40⟩
noncomputable def uw (P:aF)(Gn Fj F ae I A D e g k aX bg:Nat)(nm qn:d)(o:eP)(Y:LV)(i:Nat)(X:aJ)(N J U:Nat):aC:=⟨[(Gn,dy g nm aX qn bg),(F,DS P k I o),(I,bM A i),(A,bJ D Y e)]++X,[],N,J,[(g,DT P Fj F ae I o)],U⟩
noncomputable def Kn (P:aF)(Gn F I A D e g k aX bg:Nat)(nm qn:d)(fr:az)(Y:LV)(i N J U:Nat):aC:=⟨[(Gn,dy g nm aX qn bg),(F,fr),(I,eY i),(A,bJ D Y e)],[],N,J,[(g,.finished)],U⟩
section
variable {S F ae:Nat}{c:Lx}(hv:Y[i]? =some (.ref a))(hx:x.length<=100000)(hy:y.length<=100000)
include hv hx hy
theorem Vz:aE w (rB w.P c A Fj Gn S q9 q8) p (dP (.ref Gn)) (uw w.P Gn Fj F ae I A D e g k aX bg nm qn none Y i [(a,aG [Z x tg,Z y tx])] N J U) (.ok (dv (.int (O x.length+O y.length) (J+6)))) p (uw w.P Gn Fj F ae I A D e g k aX bg nm qn (some ((J,(Z x tg)),((J+1),(Z y tx)))) Y (i+1) [(a,aG [Z x tg,Z y tx])] (N+3) (J+7) U):=
 by revert w c;exact @(qb 0xae2b97bdeeacd4959a92b35253cf7bd4e38e38e7049 0x2b8ae5ef7bab352566a4acd494f3def538e049 (λ_ _=>[AB _ [2,2] I A D e hv,bZ _ tg hx,bZ _ tx hy]) [5,5,3,3,3] [] [0])
theorem VA:aE w (rB w.P c A Fj Gn S q9 q8) p (dP (.ref Gn)) (uw w.P Gn Fj F ae I A D e g k aX bg nm qn (some ((k0,v0),(H,v1))) Y i [(a,aG [Z x tg,Z y tx])] N J U) (.ok (dv (.int (O x.length+O y.length) (J+6)))) p (uw w.P Gn Fj F ae I A D e g k aX bg nm qn (some ((k0,(Z x tg)),(H,(Z y tx)))) Y (i+1) [(a,aG [Z x tg,Z y tx])] (N+3) (J+7) U):=
 by revert w c;exact @(qb 0x2b8ae5ef7bab352566a4acd494f3def538e049 0x2b8ae5ef7bab352566a4acd494f3def538e049 (λ_ _=>[AB _ [2,2] I A D e hv,bZ _ tg hx,bZ _ tx hy]) [5,5,3,3,3] [] [0])
end
theorem VB {S F ae:Nat}{c:Lx}(hv:Y[i]? =none)(hx:x.length<=100000)(hy:y.length<=100000):aE w (rB w.P c A Fj Gn S q9 q8) p (dP (.ref Gn)) (uw w.P Gn Fj F ae I A D e g k aX bg nm qn none Y i [] N J U) (.ok kL) p (Kn w.P Gn F I A D e g k aX bg nm qn (bz [de w.P [46,48] k (.ref I)] 1) Y i (N+4) J U):=
 by revert w c;exact @(qb 0x94e38e38e7049 624484425 (λ_ _=>[AC _ [2,2] I A D e hv]) [6,6,4,4] [] [0])
theorem VC {S F ae:Nat}{c:Lx}(hv:Y[i]? =none)(hx:x.length<=100000)(hy:y.length<=100000):aE w (rB w.P c A Fj Gn S q9 q8) p (dP (.ref Gn)) (uw w.P Gn Fj F ae I A D e g k aX bg nm qn (some ((k0,v0),(H,v1))) Y i [] N J U) (.ok kL) p (Kn w.P Gn F I A D e g k aX bg nm qn (bz [de w.P [46,48] k (.ref I),de w.P [102,119,115] (((k0,v0),H,v1).fst.fst) (((k0,v0),H,v1).fst.snd),de w.P [112,97,114,116] (((k0,v0),H,v1).snd.fst) (((k0,v0),H,v1).snd.snd)] 3) Y i (N+4) J U):=
 by revert w c;exact @(qb 624484425 624484425 (λ_ _=>[AC _ [2,2] I A D e hv]) [6,6,4,4] [] [0])
noncomputable def AR (P:aF)(Gn Fj F ae I A D e g k aX bg:Nat)(nm qn:d)(o:eP)(us:List TU)(i:Nat)(S:aJ)(N J U:Nat):aC:=⟨[(Gn,dy g nm aX qn bg),(F,DS P k I o),(I,bM A i),(A,bJ D (bj us) e)],[us.map TU.ent++S],N,J,[(g,DT P Fj F ae I o)],U⟩
noncomputable def wU (P:aF)(Gn F I A D e g k aX bg:Nat)(nm qn:d)(fr:az)(us:List TU)(i:Nat)(S:aJ)(N J U:Nat):aC:=⟨[(Gn,dy g nm aX qn bg),(F,fr),(I,eY i),(A,bJ D (bj us) e)],[us.map TU.ent++S],N,J,[(g,.finished)],U⟩
theorem Ko {S:aJ}{x:TU}(h:x∈us):∃R,(us.map TU.ent++S).Perm ([x.ent]++R):=by
 refine fK (BU h) λa b e=>
  ⟨a.map TU.ent++b.map TU.ent++S,?_⟩
 rw [e,cx,bY]
 exact cg.append_right S (o4)
variable {w:WB}
theorem VD {c:Lx}{S F ae:Nat}(i N J:Nat)(o:eP)(p:aw)(hi:i<us.length)(hl:∀u∈us,u.g.length<=100000/\u.x.length<=100000):∃am N' au,aE w (rB w.P c A Fj Gn S q9 q8) p (dP (.ref Gn)) (AR w.P Gn Fj F ae I A D e g k aX bg nm qn o us i S0 N J U) (.ok (some (.int (O us[i].g.length+O us[i].x.length) (J+6)))) p (AR w.P Gn Fj F ae I A D e g k aX bg nm qn (some am) us (i+1) S0 N' au U):=by
 refine dT (Ko (S:=S0) (gt hi)) λR hR=> ?_
 have hv:(bj us)[i]? =some (.ref us[i].a):=AK (cm hi)
 have hb:=hl us[i] (gt hi)
 cases o with
 |none=>exact jh ((_,_),(_,_)) _ _ (aK.kU hR (Vz hv hb.1 hb.2))
 |some am=>exact jh ((_,_),(_,_)) _ _ (aK.kU hR (VA (k0:=am.1.1) (H:=am.2.1) hv hb.1 hb.2))
theorem VE {c:Lx}{S F ae:Nat}(N J:Nat)(o:eP)(p:aw):∃fr N' au,aE w (rB w.P c A Fj Gn S q9 q8) p (dP (.ref Gn)) (AR w.P Gn Fj F ae I A D e g k aX bg nm qn o us us.length S0 N J U) (.ok none) p (wU w.P Gn F I A D e g k aX bg nm qn fr us us.length S0 N' au U):=by
 have hv:(bj us)[us.length]? =none:=by simp [bj]
 cases o with
 |none=>exact jh _ _ _ (aK.kU (X:=[]) (.refl _) (VB (x:=[]) (y:=[]) hv (by simp) (by simp)))
 |some am=>exact jh _ _ _ (aK.kU (X:=[]) (.refl _) (VC (x:=[]) (y:=[]) hv (by simp) (by simp)))
theorem DU (x:d×d)(l:b8):bx (x::l)=x.1.length+x.2.length+bx l:=by simp [bx]
theorem VF {c:Lx}{S F ae:Nat}(hl:∀u∈us,u.g.length<=1000/\u.x.length<=1000)(hn:us.length<=1000):∀(m i:Nat) {o:eP} {a ta N J:Nat} {p:aw},i+m=us.length->a<=100000+2000*i-> ∃t' fr N' au,aP w (rB w.P c A Fj Gn S q9 q8) p (aA (sumK Gn S)) (js S (O a) ta eS (AR w.P Gn Fj F ae I A D e g k aX bg nm qn o us i S0 N J U)) (.ok (.ret (.int (O (a+bx ((us.drop i).map TU.key))) t'))) (js S (O (a+bx ((us.drop i).map TU.key))) t' eS (wU w.P Gn F I A D e g k aX bg nm qn fr us us.length S0 N' au U)):=by
 intro m
 induction m with
 |zero=>
  intro i o a ta N J p hi _
  have hi:i=us.length:=by lia
  subst hi
  refine kM (VE (w:=w) (c:=c) (A:=A) (D:=D) (e:=e) (S:=S) (Gn:=Gn) (Fj:=Fj) (F:=F) (ae:=ae) (I:=I) (g:=g) (k:=k) (aX:=aX) (bg:=bg) (U:=U) (nm:=nm) (qn:=qn) (us:=us) (S0:=S0) (q9:=q9) (q8:=q8) N J o p) λfr N' au h=> ?_
  rw [u8]
  exact jJ ta fr N' au (IL h)
 |succ m aS=>
  intro i o a ta N J p hi ha
  have bw:i<us.length:=by lia
  have hb:=hl us[i] (gt bw)
  refine kM (VD (w:=w) (c:=c) (A:=A) (D:=D) (e:=e) (S:=S) (Gn:=Gn) (Fj:=Fj) (F:=F) (ae:=ae) (I:=I) (g:=g) (k:=k) (aX:=aX) (bg:=bg) (U:=U) (nm:=nm) (qn:=qn) (S0:=S0) (q9:=q9) (q8:=q8) i N J o p bw (λu hu=>⟨iR (hl u hu).1 pd,iR (hl u hu).2 pd⟩)) λam N1 be h=> ?_
  have e1:O us[i].g.length+O us[i].x.length=O (us[i].g.length+us[i].x.length):=rfl
  rw [e1]at h
  have h1:=IM (S:=S) (eS:=eS) (ta:=ta) h ⟨by show(0:Int)<=((us[i].g.length+us[i].x.length:Nat):Int);lia,by show((us[i].g.length+us[i].x.length:Nat):Int)<=_;lia⟩ ⟨by show(0:Int)<=((a:Nat):Int);lia,by show((a:Nat):Int)<=_;lia⟩
  refine o9 (aS (i+1) (o:=some am) (a:=a+(us[i].g.length+us[i].x.length)) (ta:=be) (N:=N1) (J:=be+1) (p:=p) (by lia) (by lia)) λt' fr N' au h2=> ?_
  have e2:bx ((us.drop i).map TU.key)=us[i].g.length+us[i].x.length+bx ((us.drop (i+1)).map TU.key):=by
   rw [fJ bw,bY,DU];rfl
  refine jJ t' fr N' au ?_
  rw [e2,<-kJ]
  exact ax.turn (aT w) rfl (by kernel_rfl) h1 h2
noncomputable def wV (Gn n t:Nat):bL:= .builtin "sum" ⟨[.ref Gn,.int (O n) t],[]⟩
theorem VG {t2:Nat}{L:aJ}{T:List aJ}{r:ig}(hn:n<=100000)(h:aP w ⟨sumK Gn N,none,none,below,none⟩ p (aA (sumK Gn N)) (js N (O n) J 0 ⟨(Gn,dy g nm t1 qn t2)::L,T,N+1,J+1,ai,U⟩) r C'):aP w ⟨wV Gn n t,none,none,below,none⟩ p (aA (wV Gn n t)) ⟨(Gn,dy g nm t1 qn t2)::L,T,N,J,ai,U⟩ r C':=by
 rw [show aA (wV Gn n t)=Builtin.«sum» ⟨[.ref Gn,.int (O n) t],[]⟩from pT (kK (by kernel_rfl))]
 unfold Builtin.«sum»
 refine ax.c6 (x:=[some (.int (O n) t)]) (p₁:=p) (bq:=⟨(Gn,dy g nm t1 qn t2)::L,T,N,J,ai,U⟩) (aK.side (L:=[]) (L':=[]) _ T ai (ax.of (aT w) (n:=100) (m:=10) 0 [] [] [] [] (by kernel_rfl))) ?_
 refine ax.c6 (x:= .ref Gn) (p₁:=p) (bq:=⟨(Gn,dy g nm t1 qn t2)::L,T,N,J,ai,U⟩) ?_ ?_
 ·rw [Gq]
  exact aK.side L T ai (L:=[(Gn,dy g nm t1 qn t2)]) (L':=[(Gn,dy g nm t1 qn t2)]) (ax.of (aT w) (n:=100) (m:=10) 293 [] [0] [] [] (by obtain⟨w,b1,b2⟩:=w;cases b2<;>kernel_rfl))
 have hf:(decide (-(2^63)<=O n)&&decide (O n<2^63))=true:=by
  rw [decide_eq_true (by show-(2^63)<=(n:Int);lia),decide_eq_true (by show(n:Int)<2^63;lia)]
  rfl
 dsimp only
 split
 ·refine ax.c6 (λs R=>⟨s,.refl R,λ_ _ _ _ _ _ q=> .rule q⟩) ?_
  refine ax.c6 (x:= .int (O n) J) (p₁:=p) (bq:=⟨(Gn,dy g nm t1 qn t2)::L,T,N,J+1,ai,U⟩) (aK.side (L:=[]) (L':=[]) _ T ai (ax.of (aT w) (n:=100) (m:=10) 0 [] [] [] [] (by kernel_rfl))) ?_
  refine ax.c6 (bq:=⟨(Gn,dy g nm t1 qn t2)::L,T,N,J+1,ai,U⟩) ax.pure ?_
  refine ax.again (by kernel_rfl) ?_ (by rw [aT];exact h)
  exact aK.side (L:=[]) (L':=[(N,aq [.int (O n) J] 0)]) _ T ai (ax.of (aT w) (n:=200) (m:=10) 0 [] [0] [] [] (by kernel_rfl))
 ·rename_i hc
  exact absurd hf hc
noncomputable def DV:Str:=⟨⟨[95,95,108,101,110,95,95]⟩⟩
noncomputable def Kp (P:aF)(c:Lx)(A:Nat):bd:=⟨qa A,none,none,c.ac P,none⟩
def wW (w:WB)(c:Lx)(A D e Gn Fj F ae I g k aX bg n t N J U r t' N' au:Nat)(nm qn:d)(Y:LV)(Sg:aJ)(q9 q8 p:aw):Prop:=
 aP w ⟨wV Gn n t,none,none,Km w.P c A Fj q9 q8,none⟩ p ((VV w).M.den (wV Gn n t)) ⟨[(Gn,dy g nm aX qn bg),(F,DS w.P k I none),(I,bM A 0),(A,bJ D Y e)],[Sg],N,J,[(g,DT w.P Fj F ae I none)],U⟩ (.ok (.ret (.int (O r) t'))) ⟨[(A,bJ D Y e)],[Sg],N',au,[],U⟩
noncomputable def Kq (w:WB)(aH bt ng:d){c:Lx}{A D e Gn Fj F ae I g k aX bg n t N J U r t' N' au:Nat}{nm qn:d}{Y:LV}{Sg:aJ}{q9 q8 p:aw}(h:wW w c A D e Gn Fj F ae I g k aX bg n t N J U r t' N' au nm qn Y Sg q9 q8 p):aM w:= .fn _ _ aH bt ng _ _ _ h
theorem VH {S:aJ}{c:Lx}(h4:wW w c (A+962) D e (N+962+6) (N+962) (N+962+5) (N+962+4) (N+962+1) U (J+6) (J+7) (J+8) n t (N+962+7) (J+10) (U+1) r0 ze aZ dK [60,103,101,110,101,120,112,114,62] [95,65,99,99,117,109,117,108,97,116,111,114,46,95,95,108,101,110,95,95,46,60,108,111,99,97,108,115,62,46,60,103,101,110,101,120,112,114,62] Y S pp p pp):aE w (Kp w.P c (A+962)) p (Ng (.ref (A+962)) DV [] []) ⟨[(A+962,bJ D Y e),(D,cq w.P k n t ei),(168,fO)],[S],N+962,J,[],U⟩ (.ok (dv (.int (O r0) ze))) p ⟨[(A+962,bJ D Y e),(D,cq w.P k n t ei),(168,gB 102 19 (N+962+4))],[S],aZ,dK,[],(U+1)⟩:=
 by revert w c;exact @(J2 0x93f6f6366c06eea6f7b78830181a0a01 0x93f6f6366c06eea6f7b78830181a0a01 (λ_ c h4=>[Kq _ [0,0,3,4] [0] [0] h4]) [0,4,4] [0])
theorem VI {S:aJ}{c:Lx}(h4:wW w c (A+962) D e (N+962+3) (N+962) (N+962+2) cc (N+962+1) U (J+1) (J+2) (J+3) n t (N+962+4) (J+5) (U+1) r0 ze aZ dK [60,103,101,110,101,120,112,114,62] [95,65,99,99,117,109,117,108,97,116,111,114,46,95,95,108,101,110,95,95,46,60,108,111,99,97,108,115,62,46,60,103,101,110,101,120,112,114,62] Y S pp p pp):aE w (Kp w.P c (A+962)) p (Ng (.ref (A+962)) DV [] []) ⟨[(A+962,bJ D Y e),(D,cq w.P k n t ei),(168,gB 102 19 cc)],[S],N+962,J,[],U⟩ (.ok (dv (.int (O r0) ze))) p ⟨[(A+962,bJ D Y e),(D,cq w.P k n t ei),(168,gB 102 19 cc)],[S],aZ,dK,[],(U+1)⟩:=
 by revert w c;exact @(J2 0xa67bc3c7807ad478830181a0a01 0xa67bc3c7807ad478830181a0a01 (λ_ c h4=>[Kq _ [0,0,0,1] [0] [0] h4]) [0,1,1] [0])
theorem VJ:∃o,(VV w).kt.get 961=some o:=by
 have h:((VV w).kt.get 961).isSome=true:=by kernel_rfl
 exact aeD.mp h
theorem aK.big (h:962<=C.N->fw w C C' Φ):fw w C C' Φ:=λs R=>by
 refine dT (VJ (w:=w)) λo ho=> ?_
 have h1:961<s.heap.objs.size:=Heap.lt_size (R.top _ _ ho)
 have h2:s.heap.objs.size=C.N:=R.size
 exact h (by lia) s R
theorem Kr {r:Nat}(hr:r<=1000000)(h:aE w Γ p (Ng (.ref A) DV [] []) C (.ok (some (.int (O r) t))) p' ⟨L',T',N',au,G',br⟩):aP w Γ p (aA (qa A)) C (.ok (.ret (.int (O r) au))) ⟨L',T',N',au+1,G',br⟩:=by
 rw [show aA (qa A)=Builtin.«len» ⟨[.ref A],[]⟩from pT (kK (by kernel_rfl))]
 show cW _ _ _ (callSpecial? (.ref A) "__len__">>=_) _ _ _
 refine ax.c6 (by rw [Fast.te9201129301070521445];exact h) ?_
 refine ax.c6 (p₁:=p') (x:=O r) (bq:=⟨L',T',N',au,G',br⟩) (ax.hold (aK.side (L:=[]) (L':=[]) L' T' G' (ax.of (aT w) (n:=100) (m:=10) 0 [] [] [] [] (by kernel_rfl)))) ?_
 refine ax.c6 (p₁:=p') (x:=()) (bq:=⟨L',T',N',au,G',br⟩) (aK.side (L:=[]) (L':=[]) L' T' G' (ax.of (aT w) (n:=100) (m:=10) 0 [] [] [] [] (by kernel_rfl))) ?_
 have h1:¬(O r<0):=by show¬((r:Int)<0);lia
 have h2:¬(O r≥2^63):=by show¬((r:Int)≥2^63);lia
 rw [if_neg h1,if_neg h2]
 exact aK.side (L:=[]) (L':=[]) L' T' G' (gI.of (aT w) (m:=10) 0 [] [] [] [] (by kernel_rfl))
def oJ (t:az):Prop:=t=fO\/∃c,t=gB 102 19 c
theorem fG.of {c:Lx}{tb:az}{X S:aJ}{r:Nat}(h:aP w ⟨qa A,none,none,c.ac w.P,none⟩ p (aA (qa A)) ⟨[(A,bJ D Y e),(D,cq w.P k n t ei),(168,tb)]++X,[S],N,J,[],U⟩ (.ok (.ret (.int (O r) t'))) ⟨[(A,bJ D Y e),(D,cq w.P k n t ei),(168,dk)]++X,[S],N',au,[],br⟩):fG w c A D k n t e ei Y tb dk X S N J U t' r N' au br p:=by
 delta fG
 rw [aT]
 exact h
theorem wX {c:Lx}{tb:az}(ht:oJ tb)(hn:n<=1000)(hl:∀u∈us,u.g.length<=1000/\u.x.length<=1000)(b6:us.length<=450):∃dk t' N' au br,oJ dk/\fG w c (A+962) D k n t e ei (bj us) tb dk [] (us.map TU.ent++S0) N J U t' (n+bx (us.map TU.key)) N' au br p:=by
 by_cases hN:962<=N
 ·obtain⟨M,rfl⟩:∃M,N=M+962:=⟨N-962,by lia⟩
  have hw:bx (us.map TU.key)<=2000*us.length:=by
   clear b6
   induction us with
   |nil=>simp [bx]
   |cons u us ih=>
    have h1:=hl u (.head _)
    have h2:=ih λx hx=>hl x (.tail _ hx)
    rw [bY,DU,cy]
    show u.g.length+u.x.length+_<=_
    lia
  have sm:∀(Gn Fj F ae I g k aX bg N J U:Nat) (nm qn:d) (q9 q8 p:aw),∃t' N' au,wW w c (A+962) D e Gn Fj F ae I g k aX bg n t N J U (n+bx (us.map TU.key)) t' N' au nm qn (bj us) (us.map TU.ent++S0) q9 q8 p:=by
   intro Gn Fj F ae I g k aX bg N J U nm qn q9 q8 p
   refine o9 (VF (w:=w) (c:=c) (A:=A+962) (D:=D) (e:=e) (S:=N) (eS:=0) (Gn:=Gn) (Fj:=Fj) (F:=F) (ae:=ae) (I:=I) (g:=g) (k:=k) (aX:=aX) (bg:=bg) (U:=U) (nm:=nm) (qn:=qn) (S0:=S0) (q9:=q9) (q8:=q8) hl c5 us.length 0 (o:=none) (a:=n) (ta:=J) (N:=N+1) (J:=J+1) (p:=p) ji c5) λt' fr N' au h=> ?_
   rw [iS]at h
   refine jh t' N' au ?_
   delta wW
   rw [aT]
   refine aK.less (VG c5 h) (A:=(N,aq [.int (O (n+bx (us.map TU.key))) t'] 0)::(Gn,dy g nm aX qn bg)::(F,fr)::[(I,eY us.length)]) ?_ (.refl _) bH
   simp only [aC.all,js,wU,ck,ce,bk,eB,cZ]
   exact(cY (l₁:=[_,_,_,_]) (l₂:=(A+962,bJ D (bj us) e)::(us.map TU.ent++S0)))
  rcases ht with rfl|⟨cc,rfl⟩
  ·refine kM (sm (M+962+6) (M+962) (M+962+5) (M+962+4) (M+962+1) U (J+6) (J+7) (J+8) (M+962+7) (J+10) (U+1) [60,103,101,110,101,120,112,114,62] [95,65,99,99,117,109,117,108,97,116,111,114,46,95,95,108,101,110,95,95,46,60,108,111,99,97,108,115,62,46,60,103,101,110,101,120,112,114,62] pp p pp) λt' N' au h=> ?_
   exact ll (gB 102 19 (M+962+4)) _ _ _ _ (.inr ⟨_,rfl⟩) (fG.of (Kr (by lia) (VH h)))
  ·refine kM (sm (M+962+3) (M+962) (M+962+2) cc (M+962+1) U (J+1) (J+2) (J+3) (M+962+4) (J+5) (U+1) [60,103,101,110,101,120,112,114,62] [95,65,99,99,117,109,117,108,97,116,111,114,46,95,95,108,101,110,95,95,46,60,108,111,99,97,108,115,62,46,60,103,101,110,101,120,112,114,62] pp p pp) λt' N' au h=> ?_
   exact ll (gB 102 19 cc) _ _ _ _ (.inr ⟨_,rfl⟩) (fG.of (Kr (by lia) (VI h)))
 ·exact ll tb 0 0 0 0 ht (aK.big λh=>absurd h hN)
noncomputable def Ks (w:WB)(aH:d)(ts A:Nat){x y:d}(tx ty:Nat)(h:x.length+y.length<=100000):aM w:=Q1 w aH (bC:=[]) ts A (l:=[(x,tx),(y,ty)]) h
noncomputable def DW (P:aF):Expr:=bv (jO (dW (cw P 180) 0)) [1]
noncomputable def DX (P:aF)(Fj F ae:Nat):Env:=genEnv (DW P) (eQ P 180 Fj []) F [] (.ref ae)
noncomputable def VK (P:aF)(Fj F ae I:Nat):bL:= .compLoop (DW P) 0 (.ref I) .none (DX P Fj F ae)
noncomputable def Kt (P:aF)(c:Lx)(A Fj:Nat)(q9 q6 q5:aw):b9:=dB P 180 Fj q9 (AN P A c q6 q5)
noncomputable def ux (P:aF)(c:Lx)(A Fj Gn S ts:Nat)(mD q9 q6 q5:aw):bd:=⟨lK S Gn,none,none,(kO [] ts Gn,mD)::Kt P c A Fj q9 q6 q5,none⟩
noncomputable def DY (P:aF)(k I:Nat):eP->az
 |none=>bz [de P [46,48] k (.ref I)] 1
 |some x=>bz [de P [46,48] k (.ref I),de P mV x.1.1 x.1.2,de P Aq x.2.1 x.2.2] 3
noncomputable def DZ (P:aF)(Fj F ae I:Nat):eP->GenState
 |none=> .fresh (.compStart (DW P) 0 (.ref I) .none (DX P Fj F ae))
 |some _=>genS (DX P Fj F ae) (VK P Fj F ae I) ⟨105,33,105,62⟩
noncomputable def uy (P:aF)(Gn Fj F ae I A D e g k aX bg:Nat)(nm qn:d)(o:eP)(Y:LV)(i:Nat)(X:aJ)(N J U:Nat):aC:=⟨[(Gn,dy g nm aX qn bg),(F,DY P k I o),(I,bM A i),(A,bJ D Y e)]++X,[],N,J,[(g,DZ P Fj F ae I o)],U⟩
noncomputable def Ku (P:aF)(Gn F I A D e g k aX bg:Nat)(nm qn:d)(fr:az)(Y:LV)(i N J U:Nat):aC:=⟨[(Gn,dy g nm aX qn bg),(F,fr),(I,eY i),(A,bJ D Y e)],[],N,J,[(g,.finished)],U⟩
theorem VL {S F ae:Nat}{c:Lx}(hv:Y[i]? =some (.ref a))(hx:x.length+y.length<=100000):aE w (ux w.P c A Fj Gn S ts mD q9 q6 q5) p (dP (.ref Gn)) (uy w.P Gn Fj F ae I A D e g k aX bg nm qn none Y i [(a,aG [Z x tg,Z y tx])] N J U) (.ok (dv (Z (bp [] (cr aD [(x,tg),(y,tx)])) (fh [(x,tg),(y,tx)] (J+2))))) p (uy w.P Gn Fj F ae I A D e g k aX bg nm qn (some ((J,(Z x tg)),((J+1),(Z y tx)))) Y (i+1) [(a,aG [Z x tg,Z y tx])] (N+4) (J+3) U):=
 by revert w c;exact @(qb 0x2bdd7bdeeacd4959a92b35253cf7bd4e38e38e7049 0xaf75ef7bab352566a4acd494f3def538e049 (λ_ _=>[AB _ [2,2] I A D e hv,Ks _ [0] 363 (N+3) tg tx hx]) [6,6,4,4,4] [] [0])
theorem VM {S F ae:Nat}{c:Lx}(hv:Y[i]? =some (.ref a))(hx:x.length+y.length<=100000):aE w (ux w.P c A Fj Gn S ts mD q9 q6 q5) p (dP (.ref Gn)) (uy w.P Gn Fj F ae I A D e g k aX bg nm qn (some ((k0,v0),(H,v1))) Y i [(a,aG [Z x tg,Z y tx])] N J U) (.ok (dv (Z (bp [] (cr aD [(x,tg),(y,tx)])) (fh [(x,tg),(y,tx)] (J+2))))) p (uy w.P Gn Fj F ae I A D e g k aX bg nm qn (some ((k0,(Z x tg)),(H,(Z y tx)))) Y (i+1) [(a,aG [Z x tg,Z y tx])] (N+4) (J+3) U):=
 by revert w c;exact @(qb 0xaf75ef7bab352566a4acd494f3def538e049 0xaf75ef7bab352566a4acd494f3def538e049 (λ_ _=>[AB _ [2,2] I A D e hv,Ks _ [0] 363 (N+3) tg tx hx]) [6,6,4,4,4] [] [0])
theorem VN {S F ae:Nat}{c:Lx}(hv:Y[i]? =none)(hx:x.length+y.length<=100000):aE w (ux w.P c A Fj Gn S ts mD q9 q6 q5) p (dP (.ref Gn)) (uy w.P Gn Fj F ae I A D e g k aX bg nm qn none Y i [] N J U) (.ok kL) p (Ku w.P Gn F I A D e g k aX bg nm qn (bz [de w.P [46,48] k (.ref I)] 1) Y i (N+4) J U):=
 by revert w c;exact @(qb 0x94e38e38e7049 624484425 (λ_ _=>[AC _ [2,2] I A D e hv]) [6,6,4,4] [] [0])
theorem VO {S F ae:Nat}{c:Lx}(hv:Y[i]? =none)(hx:x.length+y.length<=100000):aE w (ux w.P c A Fj Gn S ts mD q9 q6 q5) p (dP (.ref Gn)) (uy w.P Gn Fj F ae I A D e g k aX bg nm qn (some ((k0,v0),(H,v1))) Y i [] N J U) (.ok kL) p (Ku w.P Gn F I A D e g k aX bg nm qn (bz [de w.P [46,48] k (.ref I),de w.P [102,119,115] (((k0,v0),H,v1).fst.fst) (((k0,v0),H,v1).fst.snd),de w.P [112,97,114,116] (((k0,v0),H,v1).snd.fst) (((k0,v0),H,v1).snd.snd)] 3) Y i (N+4) J U):=
 by revert w c;exact @(qb 624484425 624484425 (λ_ _=>[AC _ [2,2] I A D e hv]) [6,6,4,4] [] [0])
def wY (w:WB)(c:Lx)(A D e Gn Fj F ae I g k aX bg ts N J U t' N' au:Nat)(r:d)(nm qn:d)(Y:LV)(Sg:aJ)(q9 q6 q5 p:aw):Prop:=
 aP w ⟨kO [] ts Gn,none,none,Kt w.P c A Fj q9 q6 q5,none⟩ p ((VV w).M.den (kO [] ts Gn)) ⟨[(Gn,dy g nm aX qn bg),(F,DY w.P k I none),(I,bM A 0),(A,bJ D Y e)],[Sg],N,J,[(g,DZ w.P Fj F ae I none)],U⟩ (.ok (.ret (Z r t'))) ⟨[(A,bJ D Y e)],[Sg],N',au,[],U⟩
noncomputable def Kv (w:WB)(aH bt ng:d){c:Lx}{A D e Gn Fj F ae I g k aX bg ts N J U t' N' au:Nat}{r:d}{nm qn:d}{Y:LV}{Sg:aJ}{q9 q6 q5 p:aw}(h:wY w c A D e Gn Fj F ae I g k aX bg ts N J U t' N' au r nm qn Y Sg q9 q6 q5 p):aM w:= .fn _ _ aH bt ng _ _ _ h
noncomputable def AS (P:aF)(c:Lx)(A:Nat)(q6 q5:aw):bd:=⟨.call (.ref 180) ⟨[.ref A],[]⟩,none,none,AN P A c q6 q5,none⟩
theorem VP {S:aJ}{c:Lx}{r3:d}(h4:wY w c A D e (N+6) N (N+5) (N+4) (N+1) U (J+6) (J+7) (J+8) 363 (N+7) (J+9) (U+1) gJ aU aI r3 [60,103,101,110,101,120,112,114,62] [95,65,99,99,117,109,117,108,97,116,111,114,46,95,95,115,116,114,95,95,46,60,108,111,99,97,108,115,62,46,60,103,101,110,101,120,112,114,62] Y S pq q6 q5 pq):aP w (AS w.P c A q6 q5) p (aA (Ctx.code (AS w.P c A q6 q5))) ⟨[(A,bJ D Y e),(175,fO)],[S],N,J,[],U⟩ (.ok (.ret (Z r3 gJ))) ⟨[(A,bJ D Y e),(175,gB 105 32 (N+4))],[S],aU,aI,[],(U+1)⟩:=
 by revert w c;exact @(J5 0x4a5ef758830181a14 0x4a5ef758830181a14 (λ_ c h4=>[Kv _ [0,0,3,4] [0] [0] h4]) [0,4] [0])
theorem VQ {S:aJ}{c:Lx}{r3:d}(h4:wY w c A D e (N+3) N (N+2) cc (N+1) U (J+1) (J+2) (J+3) 363 (N+4) (J+4) (U+1) gJ aU aI r3 [60,103,101,110,101,120,112,114,62] [95,65,99,99,117,109,117,108,97,116,111,114,46,95,95,115,116,114,95,95,46,60,108,111,99,97,108,115,62,46,60,103,101,110,101,120,112,114,62] Y S pq q6 q5 pq):aP w (AS w.P c A q6 q5) p (aA (Ctx.code (AS w.P c A q6 q5))) ⟨[(A,bJ D Y e),(175,gB 105 32 cc)],[S],N,J,[],U⟩ (.ok (.ret (Z r3 gJ))) ⟨[(A,bJ D Y e),(175,gB 105 32 cc)],[S],aU,aI,[],(U+1)⟩:=
 by revert w c;exact @(J5 0x9458830181a14 0x9458830181a14 (λ_ c h4=>[Kv _ [0,0,0,1] [0] [0] h4]) [0,1] [0])
noncomputable def D2 (P:aF)(Gn Fj F ae I A D e g k aX bg:Nat)(nm qn:d)(o:eP)(us:List TU)(i:Nat)(S:aJ)(N J U:Nat):aC:=⟨[(Gn,dy g nm aX qn bg),(F,DY P k I o),(I,bM A i),(A,bJ D (bj us) e)],[us.map TU.ent++S],N,J,[(g,DZ P Fj F ae I o)],U⟩
variable {w:WB}
theorem VR {c:Lx}{S F ae:Nat}(hl:∀u∈us,u.g.length<=1000/\u.x.length<=1000):∀(m i N J:Nat) (o:eP),i+m=us.length-> ∃l fr N' au,l.map aD=(us.drop i).map (λu=>u.g++u.x)/\Gives (VV w) (ux w.P c A Fj Gn S ts mD q9 q6 q5) p (.ref Gn) (D2 w.P Gn Fj F ae I A D e g k aX bg nm qn o us i S0 N J U) (aR l) (wU w.P Gn F I A D e g k aX bg nm qn fr us us.length S0 N' au U):=by
 intro m
 induction m with
 |zero=>
  intro i N J o hi
  have hi:i=us.length:=by lia
  subst hi
  have hv:(bj us)[us.length]? =none:=by simp [bj]
  cases o with
  |none=>exact sf [] _ _ _ (by simp) (.stop (aK.kU (X:=[]) (.refl _) (VN (x:=[]) (y:=[]) hv (by simp))))
  |some am=>exact sf [] _ _ _ (by simp) (.stop (aK.kU (X:=[]) (.refl _) (VO (k0:=am.1.1) (H:=am.2.1) (x:=[]) (y:=[]) (v0:=am.1.2) (v1:=am.2.2) hv (by simp))))
 |succ m aS=>
  intro i N J o hi
  have bw:i<us.length:=by lia
  have hb:=hl us[i] (gt bw)
  refine dT (Ko (S:=S0) (gt bw)) λR hR=> ?_
  have hv:(bj us)[i]? =some (.ref us[i].a):=AK (cm bw)
  have hx:us[i].g.length+(us[i].x.length)<=100000:=by lia
  have key:∃am t N1 be,aE w (ux w.P c A Fj Gn S ts mD q9 q6 q5) p (dP (.ref Gn)) (D2 w.P Gn Fj F ae I A D e g k aX bg nm qn o us i S0 N J U) (.ok (some (Z (us[i].g++[]++us[i].x) t))) p (D2 w.P Gn Fj F ae I A D e g k aX bg nm qn (some am) us (i+1) S0 N1 be U):=by
   cases o with
   |none=>exact jJ ((_,_),(_,_)) _ _ _ (aK.kU hR (VL hv hx))
   |some am=>exact jJ ((_,_),(_,_)) _ _ _ (aK.kU hR (VM hv hx))
  refine o9 (key) λam t N1 be h1=> ?_
  refine x3 (aS (i+1) N1 be (some am) (by lia)) λl fr N' au h2 h3=>
   sf ((us[i].g++[]++us[i].x,t)::l) fr N' au (by rw [fJ bw,bY,bY,h2,bk]) (.next h1 h3)
def oK (t:az):Prop:=t=fO\/∃c,t=gB 105 32 c
theorem Kw:∀(l:List d),bp [] l=l.flatten:=by
 intro l
 induction l with
 |nil=>
  exact rfl
 |cons x rq aS=>
  cases rq with
  |nil=>
   simp [bp]
  |cons y r=>
   show x++[]++bp [] (y::r)=_
   rw [aS]
   simp
theorem fp.of {c:Lx}{tb:az}{X S:aJ}{r:d}(h:aP w ⟨.call (.ref 180) ⟨[.ref A],[]⟩,none,none,AN w.P A c q6 q5,none⟩ p (aA (.call (.ref 180) ⟨[.ref A],[]⟩)) ⟨[(A,bJ D Y e),(175,tb)]++X,[S],N,J,[],U⟩ (.ok (.ret (Z r t'))) ⟨[(A,bJ D Y e),(175,dk)]++X,[S],N',au,[],br⟩):fp w c A D e Y tb dk X S N J U t' r N' au br q6 q5 p:=by
 delta fp
 rw [aT]
 exact h
theorem VS (hl:∀u∈us,u.g.length<=1000/\u.x.length<=1000):bx (us.map TU.key)<=2000*us.length:=by
 induction us with
 |nil=>simp [bx]
 |cons u us ih=>
  have h1:=hl u (.head _)
  have h2:=ih λx hx=>hl x (.tail _ hx)
  rw [bY,DU,cy]
  show u.g.length+u.x.length+_<=_
  lia
theorem uz {c:Lx}{tb:az}(ht:oK tb)(hl:∀u∈us,u.g.length<=1000/\u.x.length<=1000)(b6:us.length<=45):∃dk t' N' au br,oK dk/\fp w c A D e (bj us) tb dk [] (us.map TU.ent++S0) N J U t' (bs (us.map TU.key)) N' au br q6 q5 p:=by
 have sm:∀(Gn Fj F ae I g k aX bg ts N J U:Nat) (nm qn:d) (q9 p:aw),Gn<N->∃t' N' au,wY w c A D e Gn Fj F ae I g k aX bg ts N J U t' N' au (bs (us.map TU.key)) nm qn (bj us) (us.map TU.ent++S0) q9 q6 q5 p:=by
  intro Gn Fj F ae I g k aX bg ts N J U nm qn q9 p bw
  refine x3 (VR (w:=w) (c:=c) (A:=A) (D:=D) (e:=e) (S:=N) (Gn:=Gn) (Fj:=Fj) (F:=F) (ae:=ae) (I:=I) (g:=g) (k:=k) (aX:=aX) (bg:=bg) (U:=U) (ts:=ts) (nm:=nm) (qn:=qn) (S0:=S0) (mD:=p) (q9:=q9) (q6:=q6) (q5:=q5) (p:=p) hl us.length 0 (N+1) J none ji) λl fr N' au h1 h2=> ?_
  rw [iS]at h1
  have e1:l.length=us.length:=by have:=congrArg dn h1;simpa using this
  have e2:(l.map λx=>x.1.length)=us.map λu=>u.g.length+u.x.length:=by
   have:=congrArg (cr dn) h1
   rw [eF,eF]at this
   refine Eq.trans this (u6 λu _=> ?_)
   simp
  have e3:(us.map λu=>u.g.length+u.x.length).sum=bx (us.map TU.key):=by delta bx;rw [eF];rfl
  have hw:=VS hl
  refine fK (join_gen bw h2 (by rw [e2,e3];simp;lia) (by lia)) λt' hD h3=> ?_
  have e4:bp [] (l.map aD)=bs (us.map TU.key):=by
   rw [h1,Kw]
   delta bs
   rw [eF]
   rfl
  rw [e4]at h3
  refine jh t' N' hD ?_
  delta wY
  rw [aT]
  refine aK.less h3 (A:=[(Gn,dy g nm aX qn bg),(F,fr),(I,eY us.length)]) ?_ (.refl _) bH
  simp only [aC.all,wU,ck,ce,bk,eB,cZ]
  exact(cY (l₁:=[_,_,_]) (l₂:=(A,bJ D (bj us) e)::(us.map TU.ent++S0)))
 rcases ht with rfl|⟨cc,rfl⟩
 ·refine kM (sm (N+6) N (N+5) (N+4) (N+1) U (J+6) (J+7) (J+8) 363 (N+7) (J+9) (U+1) [60,103,101,110,101,120,112,114,62] [95,65,99,99,117,109,117,108,97,116,111,114,46,95,95,115,116,114,95,95,46,60,108,111,99,97,108,115,62,46,60,103,101,110,101,120,112,114,62] pq pq (by lia)) λt' N' au h=> ?_
  exact ll (gB 105 32 (N+4)) _ _ _ _ (.inr ⟨_,rfl⟩) (fp.of (VP h))
 ·refine kM (sm (N+3) N (N+2) cc (N+1) U (J+1) (J+2) (J+3) 363 (N+4) (J+4) (U+1) [60,103,101,110,101,120,112,114,62] [95,65,99,99,117,109,117,108,97,116,111,114,46,95,95,115,116,114,95,95,46,60,108,111,99,97,108,115,62,46,60,103,101,110,101,120,112,114,62] pq pq (by lia)) λt' N' au h=> ?_
  exact ll (gB 105 32 cc) _ _ _ _ (.inr ⟨_,rfl⟩) (fp.of (VQ h))
noncomputable def D3:Str:=⟨⟨[112,111,112]⟩⟩
noncomputable def Kx:Str:=⟨⟨[95,95,105,110,105,116,95,95]⟩⟩
noncomputable def VT:d:=[105,110,105,116,105,97,108,95,115,105,122,101]
noncomputable def Ky (P:aF):Expr:=jO (dW (cw P 166) 1)
noncomputable def Kz (P:aF):Expr:=jO (dW (cw P 143) 1)
noncomputable def kV (P:aF)(F:Nat)(ac:b9):bd:=⟨.func (cw P 166) (ez P 166 F),none,none,ac,none⟩
noncomputable def oL (P:aF)(F:Nat)(ac:b9):bd:=⟨.func (cw P 143) (ez P 143 F),none,none,ac,none⟩
noncomputable def KA (P:aF)(k z A n tn:Nat):az:=bz [de P gf k (.ref A),de P VT z (.int (O n) tn)] 2
noncomputable def KB (w:WB)(aH:d){A D e N J U t' N' au:Nat}{Y:LV}{F:Nat}{ac:b9}{q p:aw}(h:mQ w A D e N J U t' N' au Y ((.func (cw w.P 166) (ez w.P 166 F),q)::ac) p):aM w:=JS w aH h
inductive Px where
 |p1 (x:Cq) (q3:aw)
 |p2 (x:Cq) (F2:Nat) (q4 q3:aw)
 |p3 (F2 F3 K:Nat) (q4 q5 G:aw)
noncomputable def Px.ac (P:aF):Px->b9
 | .p1 x q3=>qc P x q3
 | .p2 x F2 q4 q3=>rt P x F2 q4 q3
 | .p3 F2 F3 K q4 q5 G=>dB P 84 F2 q4 (dB P 70 F3 q5 (cO P K G))
inductive Qx where
 |lp (x:Cq) (af:Nat) (q7:aw)
 |po (c:Px) (F:Nat) (q:aw)
noncomputable def Qx.ac (P:aF):Qx->b9
 | .lp x af q7=>(d6 P x.F1 af,q7)::x.ac P
 | .po c F q=>(.func (cw P 166) (ez P 166 F),q)::c.ac P
noncomputable def fc (P:aF)(F A D k e kd nd td ed:Nat)(Y:LV)(S:aJ)(N J U:Nat):aC:=⟨S++[(F,bz [de P gf k (.ref A)] 1),(A,bJ D Y e),(D,cq P kd nd td ed)],[],N,J,[],U⟩
noncomputable def gg (P:aF)(F A D k z n tn:Nat)(dd:az)(S:aJ)(N J U:Nat):aC:=⟨S++[(F,KA P k z A n tn),(A,bJ D [] 0),(D,dd)],[],N,J,[],U⟩
section
variable {F:Nat}{ac:b9}
theorem VU:aE w (p8 w.P F ac) p (m8 (ez w.P 203 F) mP) (ip w.P F (A+962) D k e Y [] (N+962) J U) (.ok (.type "super")) p (ip w.P F (A+962) D k e Y [] (N+962) J U):=
 w1 0 [] [0,0]
theorem VW:aE w (p8 w.P F ac) p (m8 (ez w.P 203 F) p7) (ip w.P F (A+962) D k e Y [] (N+962) J U) (.ok (.ref 206)) p (ip w.P F (A+962) D k e Y [] (N+962) J U):=
 w1 0 [] [0,0]
theorem VX:aE w (p8 w.P F ac) p (m8 (ez w.P 203 F) wJ) (ip w.P F (A+962) D k e Y [] (N+962) J U) (.ok (.ref (A+962))) p (ip w.P F (A+962) D k e Y [] (N+962) J U):=
 w1 1 [] [0,0]
theorem VY:aE w (p8 w.P F ac) p (Gz (.ref 206)) (ip w.P F (A+962) D k e Y [] (N+962) J U) (.ok true) p (ip w.P F (A+962) D k e Y [] (N+962) J U):=
 w1 0 [] [0,0]
theorem VZ:aE w (p8 w.P F ac) p (BY (.type "super") [.ref 206,.ref (A+962)] []) (ip w.P F (A+962) D k e Y [] (N+962) J U) (.ok (.ref (N+962))) p (ip w.P F (A+962) D k e Y [((N+962),oH (A+962))] (N+962+1) J U):=
 w1 45805585568 [] [0,0,0]
theorem V0:aE w (p8 w.P F ac) p (Nh (.ref (N+962)) JQ (Pure.pure false)) (ip w.P F (A+962) D k e Y [(N+962,oH (A+962))] (N+962+1) J U) (.ok ((.ref (N+962+1)),[])) p (ip w.P F (A+962) D k e Y [((N+962+1),rec "method-wrapper" [(.builtin "list.__len__"),(.ref (A+962))])] (N+962+1+1) (J+1) U):=
 w1 1840421 [] [0,1,1]
theorem V1:aE w (p8 w.P F ac) p (Ni (uk (JR w.P)) (.ref (N+962)) [] [] []) (ip w.P F (A+962) D k e Y [(N+962,rec "method-wrapper" [(.builtin "list.__len__"),(.ref (A+962))])] (N+962+1) J U) (.ok (.int (O Y.length) J)) yl (ip w.P F (A+962) D k e Y [] (N+962+1) (J+1) U):=
 w1 457 [] [1,1]
theorem V2 (hz:(O (Y++[aQ b]).length==O 0)=false)(h3:mQ w (A+962) D e (N+962) J U gJ aU aI (Y++[aQ b]) ((Code.func (cw w.P 166) (ez w.P 166 F),pr)::ac) pr):aE w (kV w.P F ac) p (lk [dW (cw w.P 166) 0] (ez w.P 166 F)) (fc w.P F (A+962) D k e kd nd td ed (Y++[aQ b]) [] (N+962) J U) (.ok PySem.Flow.next) ⟨97,11,97,33⟩ (fc w.P F (A+962) D k e kd nd td ed (Y++[aQ b]) [] aU (aI+1) U):=
 by revert w;exact @(eH 1404857748493 (λw h3=>[KB w [1] h3,cR w gJ aI hz]) [1,0,0])
theorem V3 (h3:mQ w (A+962) D e (N+962) J U gJ aU aI [] ((Code.func (cw w.P 166) (ez w.P 166 F),pr)::ac) pr):aE w (kV w.P F ac) p (lk [dW (cw w.P 166) 0] (ez w.P 166 F)) (fc w.P F (A+962) D k e kd nd td ed ([]) [] (N+962) J U) (.ok (PySem.Flow.ret (.ref aU))) ⟨98,19,98,27⟩ (fc w.P F (A+962) D k e kd nd td ed [] [(aU,aG [Z [] (aI+1),Z [] (aI+2)])] (aU+1) (aI+3) U):=
 by revert w;exact @(eH 1404857748493 (λw h3=>[KB w [1] h3,cR w (a:=0) (b:=0) gJ aI (r:=true) rfl]) [0,1,0,0])
theorem V4:aE w (kV w.P F ac) p (m8 (ez w.P 166 F) mP) (fc w.P F (A+962) D k e kd nd td ed Y [] (N+962) J U) (.ok (.type "super")) p (fc w.P F (A+962) D k e kd nd td ed Y [] (N+962) J U):=
 w1 0 [] [0,0,0]
theorem V5:aE w (kV w.P F ac) p (m8 (ez w.P 166 F) p7) (fc w.P F (A+962) D k e kd nd td ed Y [] (N+962) J U) (.ok (.ref 206)) p (fc w.P F (A+962) D k e kd nd td ed Y [] (N+962) J U):=
 w1 0 [] [0,0,0]
theorem V6:aE w (kV w.P F ac) p (m8 (ez w.P 166 F) wJ) (fc w.P F (A+962) D k e kd nd td ed Y [] (N+962) J U) (.ok (.ref (A+962))) p (fc w.P F (A+962) D k e kd nd td ed Y [] (N+962) J U):=
 w1 1 [] [0,0,0]
theorem V7:aE w (kV w.P F ac) p (Gz (.ref 206)) (fc w.P F (A+962) D k e kd nd td ed Y [] (N+962) J U) (.ok true) p (fc w.P F (A+962) D k e kd nd td ed Y [] (N+962) J U):=
 w1 0 [] [0,0,0]
theorem V8:aE w (kV w.P F ac) p (BY (.type "super") [.ref 206,.ref (A+962)] []) (fc w.P F (A+962) D k e kd nd td ed Y [] (N+962) J U) (.ok (.ref (N+962))) p (fc w.P F (A+962) D k e kd nd td ed Y [((N+962),oH (A+962))] (N+962+1) J U):=
 w1 45805585568 [] [0,0,0,0]
theorem V9:aE w (kV w.P F ac) p (Nh (.ref (N+962)) D3 (Pure.pure false)) (fc w.P F (A+962) D k e kd nd td ed Y [(N+962,oH (A+962))] (N+962+1) J U) (.ok ((.ref (N+962+1)),[])) p (fc w.P F (A+962) D k e kd nd td ed Y [((N+962+1),rec "builtin_function_or_method" [(.builtin "list.pop"),(.ref (A+962))])] (N+962+1+1) (J+1) U):=
 w1 1840421 [] [0,1,1,1]
theorem pow_1 (h0:Y.length<=100000):aE w (kV w.P F ac) p (Ni (uk (Ky w.P)) (.ref (N+962)) [] [] []) (fc w.P F (A+962) D k e kd nd td ed (Y++[aQ b]) [(N+962,rec "builtin_function_or_method" [(.builtin "list.pop"),(.ref (A+962))])] (N+962+1) J U) (.ok (.ref b)) sk (fc w.P F (A+962) D k (e+1) kd nd td ed Y [] (N+962+1) J U):=
 w1 8861929 [UQ w [2] (A+962) D e (.ref b) h0] [2,0,1]
theorem Wa:aE w (oL w.P F ac) p (lk [dW (cw w.P 143) 0] (ez w.P 143 F)) (gg w.P F (A+962) D k z n tn (fU [] 0) [] (N+962) J U) (.ok PySem.Flow.next) ⟨85,8,85,26⟩ (gg w.P F (A+962) D k z n tn (cq w.P (J+1) n tn 1) [] (N+962) (J+2) U):=
 w1 8135338278019125 [] [0,0,0]
theorem Wb:aE w (oL w.P F ac) p (m8 (ez w.P 143 F) mP) (gg w.P F (A+962) D k z n tn dd [] (N+962) J U) (.ok (.type "super")) p (gg w.P F (A+962) D k z n tn dd [] (N+962) J U):=
 w1 0 [] [0,0,0]
theorem Wc:aE w (oL w.P F ac) p (m8 (ez w.P 143 F) p7) (gg w.P F (A+962) D k z n tn dd [] (N+962) J U) (.ok (.ref 206)) p (gg w.P F (A+962) D k z n tn dd [] (N+962) J U):=
 w1 0 [] [0,0,0]
theorem Wd:aE w (oL w.P F ac) p (m8 (ez w.P 143 F) wJ) (gg w.P F (A+962) D k z n tn dd [] (N+962) J U) (.ok (.ref (A+962))) p (gg w.P F (A+962) D k z n tn dd [] (N+962) J U):=
 w1 1 [] [0,0,0]
theorem We:aE w (oL w.P F ac) p (Gz (.ref 206)) (gg w.P F (A+962) D k z n tn dd [] (N+962) J U) (.ok true) p (gg w.P F (A+962) D k z n tn dd [] (N+962) J U):=
 w1 0 [] [0,0,0]
theorem Wf:aE w (oL w.P F ac) p (BY (.type "super") [.ref 206,.ref (A+962)] []) (gg w.P F (A+962) D k z n tn dd [] (N+962) J U) (.ok (.ref (N+962))) p (gg w.P F (A+962) D k z n tn dd [((N+962),oH (A+962))] (N+962+1) J U):=
 w1 45805585568 [] [0,0,0,0]
theorem Wg:aE w (oL w.P F ac) p (Nh (.ref (N+962)) Kx (Pure.pure false)) (gg w.P F (A+962) D k z n tn dd [(N+962,oH (A+962))] (N+962+1) J U) (.ok ((.ref (N+962+1)),[])) p (gg w.P F (A+962) D k z n tn dd [((N+962+1),rec "method-wrapper" [(.builtin "list.__init__"),(.ref (A+962))])] (N+962+1+1) (J+1) U):=
 w1 1840421 [] [0,1,1,1]
theorem Wh:aE w (oL w.P F ac) p (Ni (uk (Kz w.P)) (.ref (N+962)) [] [] []) (gg w.P F (A+962) D k z n tn dd [(N+962,rec "method-wrapper" [(.builtin "list.__init__"),(.ref (A+962))])] (N+962+1) J U) (.ok .none) so (gg w.P F (A+962) D k z n tn dd [] (N+962+1) J U):=
 w1 15153609 [] [1,1,1]
end
theorem Wi {F:Nat}{c:Qx}:aE w ⟨.call (.ref 203) ⟨[.ref A],[]⟩,none,none,Qx.ac w.P c,none⟩ p (aA (.call (.ref 203) ⟨[.ref A],[]⟩)) ⟨[(A,bJ D Y e)],[],N,J,[],U⟩ (.ok (.again (.func (cw w.P 203) (ez w.P 203 N)))) p (ip w.P N A D J e Y [] (N+1) (J+1) U):=by
 exact ax.of (aT w) (n:=9000) (m:=300) 20 [] [0,0] [] [] (by(cases c with|lp x af q=>kernel_rfl|po c F q=>(cases c<;>kernel_rfl)))
theorem KC {c:Px}:aE w ⟨.call (.ref 166) ⟨[.ref A],[]⟩,none,none,Px.ac w.P c,none⟩ p (aA (.call (.ref 166) ⟨[.ref A],[]⟩)) ⟨[(A,bJ D Y e),(D,cq w.P kd nd td ed)],[],N,J,[],U⟩ (.ok (.again (.func (cw w.P 166) (ez w.P 166 N)))) p (fc w.P N A D J e kd nd td ed Y [] (N+1) (J+1) U):=by
 exact ax.of (aT w) (n:=9000) (m:=300) 20 [] [0,0,0] [] [] (by(cases c<;>kernel_rfl))
theorem Wj:aE w ⟨.call (.ref 143) ⟨[.ref A,.int (O hd) th],[]⟩,none,none,uq w.P FV hd wd th tw tc ts K sg p0 p3 G,none⟩ p (aA (.call (.ref 143) ⟨[.ref A,.int (O hd) th],[]⟩)) ⟨[(A,bJ D [] 0),(D,dd)],[],N,J,[],U⟩ (.ok (.again (.func (cw w.P 143) (ez w.P 143 N)))) p (gg w.P N A D J (J+1) hd th dd [] (N+1) (J+2) U):=
 w1 680 [] [0,0,0]
theorem AT (st:Stmt)(env:Env):execs [st] env=exec st env:=by
 rw [execs_cons]
 exact(congrArg (Sem.bind (exec st env)) (funext λf=>by cases f<;>rfl)).trans (Sem.bind_pure _)
theorem Wk (P:aF):cw P 203=[.Return (some (.Call (.Attribute (.Call (.Name mP ⟨117,15,117,20⟩) [] [] ⟨117,15,117,22⟩) JQ ⟨117,15,117,30⟩) [] [] yl)) ⟨117,8,117,32⟩]:=by kernel_rfl
theorem KD (P:aF):cw P 166=[dW (cw P 166) 0,.Return (some (.Call (.Attribute (.Call (.Name mP ⟨99,15,99,20⟩) [] [] ⟨99,15,99,22⟩) D3 ym) [] [] sk)) ⟨99,8,99,28⟩]:=by kernel_rfl
theorem Wl (P:aF):cw P 143=[dW (cw P 143) 0,.Expr (.Call (.Attribute (.Call (.Name mP ⟨86,8,86,13⟩) [] [] ⟨86,8,86,15⟩) Kx ⟨86,8,86,24⟩) [] [] so) so]:=by kernel_rfl
theorem D4:("super":Str)=mP:=by decide+kernel
theorem D5:("__class__":Str)=p7:=by decide+kernel
noncomputable def Wm:Str:=⟨⟨[47,99,108,97,105,109,47,99,117,116,46,112,121]⟩⟩
variable {w:WB}
structure AU (w:WB)(a cc:Nat):Prop where
 ks:∀F,(ez w.P a F).kindOf mP=some .globalImplicit
 kc:∀F,(ez w.P a F).kindOf p7=some .free
 fu:∀F,(ez w.P a F).func=some a
 co:∀F,(ez w.P a F).code= .ref cc
 hd:∃ar,((fdOf w.P a).params.posonlyargs++(fdOf w.P a).params.args).head? =some ar/\ar.arg=wJ
 fd:∀(Γ:bd) (p:aw) (N J U:Nat),aE w Γ p (funcData (.ref a)) ⟨[],[],N,J,[],U⟩ (.ok (fdOf w.P a)) p ⟨[],[],N,J,[],U⟩
 fi:∃tf,∀(Γ:bd) (p:aw) (N J U:Nat),aE w Γ p (field (.ref cc) 2) ⟨[],[],N,J,[],U⟩ (.ok (.str Wm tf)) p ⟨[],[],N,J,[],U⟩
theorem D6 {o:Option Arg}{s:Str}(h:o.map (·.arg)=some s):∃ar,o=some ar/\ar.arg=s:=Option.map_eq_some_iff.mp h
theorem Wn:AU w 203 202:=⟨λF=>by kernel_rfl,λF=>by kernel_rfl,λF=>rfl,λF=>by kernel_rfl,D6 (by kernel_rfl),λΓ p N J U=>by rw [Nj];exact ax.of (aT w) (n:=100) (m:=10) 0 [] [] [] [] (by kernel_rfl),⟨555,λΓ p N J U=>by rw [GA];exact ax.of (aT w) (n:=100) (m:=10) 0 [] [] [] [] (by kernel_rfl)⟩⟩
theorem Wo:AU w 166 165:=⟨λF=>by kernel_rfl,λF=>by kernel_rfl,λF=>rfl,λF=>by kernel_rfl,D6 (by kernel_rfl),λΓ p N J U=>by rw [Nj];exact ax.of (aT w) (n:=100) (m:=10) 0 [] [] [] [] (by kernel_rfl),⟨518,λΓ p N J U=>by rw [GA];exact ax.of (aT w) (n:=100) (m:=10) 0 [] [] [] [] (by kernel_rfl)⟩⟩
theorem Wp:AU w 143 142:=⟨λF=>by kernel_rfl,λF=>by kernel_rfl,λF=>rfl,λF=>by kernel_rfl,D6 (by kernel_rfl),λΓ p N J U=>by rw [Nj];exact ax.of (aT w) (n:=100) (m:=10) 0 [] [] [] [] (by kernel_rfl),⟨490,λΓ p N J U=>by rw [GA];exact ax.of (aT w) (n:=100) (m:=10) 0 [] [] [] [] (by kernel_rfl)⟩⟩
theorem D7 {F:Nat}{whole:Sem ay}{ps:aw}{L:aJ}{T:List aJ}(S:AU w a cc)(kw:(attr==p7)=false)(cv:Γ.code= .func (cw w.P a) (ez w.P a F))(h3:∀p,aE w Γ p (m8 (ez w.P a F) mP) ⟨L,T,N,J,ai,U⟩ (.ok (.type "super")) p ⟨L,T,N,J,ai,U⟩)(h4:∀p,aE w Γ p (m8 (ez w.P a F) p7) ⟨L,T,N,J,ai,U⟩ (.ok (.ref 206)) p ⟨L,T,N,J,ai,U⟩)(h5:∀p,aE w Γ p (m8 (ez w.P a F) wJ) ⟨L,T,N,J,ai,U⟩ (.ok self) p ⟨L,T,N,J,ai,U⟩)(h6:∀p,aE w Γ p (Gz (.ref 206)) ⟨L,T,N,J,ai,U⟩ (.ok true) p ⟨L,T,N,J,ai,U⟩)(h7:aE w Γ ps (BY (.type "super") [.ref 206,self] []) ⟨L,T,N,J,ai,U⟩ (.ok v) p' C'):aE w Γ p (attributeBase (.Call (.Name mP p0) [] [] ps) attr (ez w.P a F) whole) ⟨L,T,N,J,ai,U⟩ (.ok v) p' C':=by
 refine bX (S.hd) λar hp Wq=>
  dT (S.fi) λtf Wr=> ?_
 rw [<-D4]
 refine UB (cls:= .ref 206) (self:=self) (p₁:=ps) (p₂:=ps) (p₃:=ps) (Dx:=ps) (bq:=⟨L,T,N,J,ai,U⟩) (ij:=⟨L,T,N,J,ai,U⟩) (mE:=⟨L,T,N,J,ai,U⟩) (Dy:=⟨L,T,N,J,ai,U⟩) cv (by rw [D4];exact S.ks F) (by rw [D5];exact S.kc F) (by rw [D5];exact kw) (S.fu F)
  (aK.side (L:=[]) (L':=[]) L T ai (S.fd Γ p N J U)) hp (S.co F) (aK.side L T ai (Wr Γ p N J U)) (by kernel_rfl) (by kernel_rfl) ?_ ?_ ?_ ?_ ?_
 ·rw [Nk,D4];exact h3 ps
 ·rw [Nk,D5];exact h4 ps
 ·rw [Nk,Wq];exact h5 ps
 ·rw [Fast.te10380811246957099773];exact h6 ps
 ·rw [aeM];exact h7
theorem Ws (P:aF):uk (JR P)=yl:=by kernel_rfl
theorem Wt (P:aF):uk (Ky P)=sk:=by kernel_rfl
theorem Wu (P:aF):uk (Kz P)=so:=by kernel_rfl
theorem D8 {c:Qx}:∃t' au,mQ w (A+962) D e N J U t' (N+3) au Y (c.ac w.P) p:=by
 by_cases hN:962<=N
 ·obtain⟨M,rfl⟩:∃M,N=M+962:=⟨N-962,by lia⟩
  refine dU (J+2) (J+3) ?_
  unfold mQ
  rw [aT]
  refine ax.again (by kernel_rfl) (Wi (F:=0)) ?_
  rw [aT]
  refine aK.less (C':=_) (D:=ip w.P (M+962) (A+962) D J e Y [] (M+962+1+1+1) (J+3) U) (A:=[(M+962,bz [de w.P gf J (.ref (A+962))] 1)]) (B:=[]) ?_ (by
   simp only [aC.all,ip,ce,bk,eB,cZ]
   exact(cY (l₁:=[_]) (l₂:=[_]))) (.refl _) ⟨rfl,rfl,rfl⟩
  refine wI (f:= .ret (.int (O Y.length) (J+2))) (p':=yl) ?_
  generalize cv:Ctx.goto _ _=Γ
  have eE:Γ=p8 w.P (M+962) (c.ac w.P):=cv.symm
  clear cv
  rw [Wk]
  refine DA (JO ?_)
  refine Dz (ov:= .ref (M+962+1)) (p₁:=⟨117,15,117,22⟩) (fx:=(.ref (M+962+1+1),[])) (p₂:=⟨117,15,117,30⟩)
   (bq:=ip w.P (M+962) (A+962) D J e Y [(M+962+1,oH (A+962))] (M+962+1+1) (J+1) U)
   (ij:=ip w.P (M+962) (A+962) D J e Y [(M+962+1+1,rec "method-wrapper" [(.builtin "list.__len__"),(.ref (A+962))])] (M+962+1+1+1) (J+2) U) (pl:=Pure.pure false) ?_ ?_ ?_
  ·refine D7 (self:= .ref (A+962)) Wn (by decide+kernel) (by rw [eE];rfl) (λq=> ?_) (λq=> ?_) (λq=> ?_) (λq=> ?_) ?_
   ·subst eE;exact VU (N:=M+1)
   ·subst eE;exact VW (N:=M+1)
   ·subst eE;exact VX (N:=M+1)
   ·subst eE;exact VY (N:=M+1)
   ·subst eE;exact VZ (N:=M+1)
  ·rw [Nl]
   subst eE
   exact V0 (N:=M+1)
  ·rw [Nm]
   subst eE
   have am:=V1 (w:=w) (F:=M+962) (A:=A) (D:=D) (k:=J) (e:=e) (N:=M+2) (J:=J+2) (U:=U) (Y:=Y) (p:=⟨117,15,117,30⟩) (ac:=c.ac w.P)
   rw [Ws]at am
   exact am
 ·exact dU 0 0 (by unfold mQ;exact aK.big λh=>absurd h hN)
theorem Wv {F M:Nat}{ac:b9}(hv:Y.length<=100000):aE w (kV w.P F ac) p (exec (.Return (some (.Call (.Attribute (.Call (.Name mP ⟨99,15,99,20⟩) [] [] ⟨99,15,99,22⟩) D3 ym) [] [] sk)) ⟨99,8,99,28⟩) (ez w.P 166 F)) (fc w.P F (A+962) D k e kd nd td ed (Y++[.ref b]) [] (M+962) J U) (.ok (.ret (.ref b))) sk (fc w.P F (A+962) D k (e+1) kd nd td ed Y [] (M+962+1+1) (J+1) U):=by
 refine JO ?_
 generalize eE:kV w.P F ac=Γ
 refine Dz (ov:= .ref (M+962)) (p₁:=⟨99,15,99,22⟩) (fx:=(.ref (M+962+1),[])) (p₂:=ym)
  (bq:=fc w.P F (A+962) D k e kd nd td ed (Y++[.ref b]) [(M+962,oH (A+962))] (M+962+1) J U)
  (ij:=fc w.P F (A+962) D k e kd nd td ed (Y++[.ref b]) [(M+962+1,rec "builtin_function_or_method" [(.builtin "list.pop"),(.ref (A+962))])] (M+962+1+1) (J+1) U) (pl:=Pure.pure false) ?_ ?_ ?_
 ·refine D7 (self:= .ref (A+962)) Wo (by decide+kernel) (by rw [<-eE];rfl) (λq=> ?_) (λq=> ?_) (λq=> ?_) (λq=> ?_) ?_
  ·subst eE;exact V4
  ·subst eE;exact V5
  ·subst eE;exact V6
  ·subst eE;exact V7
  ·subst eE;exact V8
 ·rw [Nl]
  subst eE
  exact V9
 ·rw [Nm]
  subst eE
  have am:=pow_1 (w:=w) (F:=F) (A:=A) (D:=D) (k:=k) (e:=e) (kd:=kd) (nd:=nd) (td:=td) (ed:=ed) (b:=b) (N:=M+1) (J:=J+1) (U:=U) (Y:=Y) (p:=ym) (ac:=ac) hv
  rw [Wt]at am
  exact am
theorem D9 {c:Px}(hv:Y.length<=100000):∃e' N' au,jd w (A+962) D k n t ei e N J U e' N' au Y (.ref b) (c.ac w.P) p:=by
 by_cases hN:962<=N
 ·obtain⟨M,rfl⟩:∃M,N=M+962:=⟨N-962,by lia⟩
  refine fK (D8 (w:=w) (c:= .po c (M+962) pr) (A:=A) (D:=D) (e:=e) (N:=M+962+1) (J:=J+1) (U:=U) (Y:=Y++[.ref b]) (p:=pr)) λt' be lT=>
   ⟨e+1,M+4+962+1+1,be+1+1,?_⟩
  delta jd
  rw [aT]
  refine ax.again (by kernel_rfl) (KC) ?_
  rw [aT]
  refine aK.less (D:=fc w.P (M+962) (A+962) D J (e+1) k n t ei Y [] (M+4+962+1+1) (be+1+1) U) (A:=[(M+962,bz [de w.P gf J (.ref (A+962))] 1)]) ?_ (by
   simp only [aC.all,fc,ce,bk,eB,cZ]
   exact(cY (l₁:=[_]) (l₂:=[_,_]))) (.refl _) ⟨rfl,rfl,rfl⟩
  refine wI (f:= .ret (.ref b)) (p':=sk) ?_
  generalize cv:Ctx.goto _ _=Γ
  have eE:Γ=kV w.P (M+962) (c.ac w.P):=cv.symm
  clear cv
  rw [KD]
  subst eE
  refine JP (p₁:=⟨97,11,97,33⟩) (bq:=fc w.P (M+962) (A+962) D J e k n t ei (Y++[.ref b]) [] (M+4+962) (be+1) U) ?_ (DA (Wv hv))
  rw [<-AT,xQ]
  exact V2 (by simp;lia) lT
 ·exact jh 0 0 0 (by delta jd;exact aK.big λh=>absurd h hN)
theorem Ww {c:Px}:∃a t1 t2 N' au,ru w (A+962) D k n t ei e N J U a t1 t2 N' au (c.ac w.P) p:=by
 by_cases hN:962<=N
 ·obtain⟨M,rfl⟩:∃M,N=M+962:=⟨N-962,by lia⟩
  refine fK (D8 (w:=w) (c:= .po c (M+962) pr) (A:=A) (D:=D) (e:=e) (N:=M+962+1) (J:=J+1) (U:=U) (Y:=[]) (p:=pr)) λt' be lT=>
   ⟨M+962+1+3,be+1,be+2,M+962+1+3+1,be+3,?_⟩
  delta ru
  rw [aT]
  refine ax.again (by kernel_rfl) (KC) ?_
  rw [aT]
  refine aK.less (D:=fc w.P (M+962) (A+962) D J e k n t ei [] [(M+962+1+3,aG [Z [] (be+1),Z [] (be+2)])] (M+962+1+3+1) (be+3) U) (A:=[(M+962,bz [de w.P gf J (.ref (A+962))] 1)]) ?_ (by
   simp only [aC.all,fc,ce,bk,eB,cZ]
   exact(cY (l₁:=[_,_]) (l₂:=[_,_]))) (.refl _) ⟨rfl,rfl,rfl⟩
  refine wI (f:= .ret (.ref (M+962+1+3))) (p':=⟨98,19,98,27⟩) ?_
  generalize cv:Ctx.goto _ _=Γ
  have eE:Γ=kV w.P (M+962) (c.ac w.P):=cv.symm
  clear cv
  rw [KD]
  subst eE
  refine DA ?_
  rw [<-AT,xQ]
  exact V3 lT
 ·exact qy 0 0 0 0 0 (by delta ru;exact aK.big λh=>absurd h hN)
theorem Wx:∃k e' N' au,ul w (A+962) D hd th N J U k e' N' au (uq w.P FV hd wd th tw tc ts K sg p0 p3 G) p:=by
 by_cases hN:962<=N
 ·obtain⟨M,rfl⟩:∃M,N=M+962:=⟨N-962,by lia⟩
  refine jJ (J+2+1) 1 (M+962+1+1+1) (J+2+2+1) ?_
  unfold ul
  rw [aT]
  refine ax.again (by kernel_rfl) (Wj) ?_
  rw [aT]
  refine aK.less (C':=_) (D:=gg w.P (M+962) (A+962) D J (J+1) hd th (cq w.P (J+2+1) hd th 1) [] (M+962+1+1+1) (J+2+2+1) U) (A:=[(M+962,KA w.P J (J+1) (A+962) hd th)]) (B:=[]) ?_ (by
   simp only [aC.all,gg,ce,bk,eB,cZ]
   exact(cY (l₁:=[_]) (l₂:=[_,_]))) (.refl _) ⟨rfl,rfl,rfl⟩
  refine wI (f:= .next) (p':=so) ?_
  generalize cv:Ctx.goto _ _=Γ
  have eE:Γ=oL w.P (M+962) (uq w.P FV hd wd th tw tc ts K sg p0 p3 G):=cv.symm
  clear cv
  rw [Wl]
  refine JP (p₁:=⟨85,8,85,26⟩) (bq:=gg w.P (M+962) (A+962) D J (J+1) hd th (cq w.P (J+2+1) hd th 1) [] (M+962+1) (J+2+2) U) ?_ ?_
  ·rw [<-AT,xQ]
   subst eE
   exact Wa (N:=M+1)
  ·rw [AT,exec_Expr _ _ _ (by kernel_rfl) (by kernel_rfl)]
   refine ax.at' (ax.bind (x:= .none) (p₁:=so) (bq:=gg w.P (M+962) (A+962) D J (J+1) hd th (cq w.P (J+2+1) hd th 1) [] (M+962+1+1+1) (J+2+2+1) U) ?_ ax.pure)
   refine Dz (ov:= .ref (M+962+1)) (p₁:=⟨86,8,86,15⟩) (fx:=(.ref (M+962+1+1),[])) (p₂:=⟨86,8,86,24⟩)
    (bq:=gg w.P (M+962) (A+962) D J (J+1) hd th (cq w.P (J+2+1) hd th 1) [(M+962+1,oH (A+962))] (M+962+1+1) (J+2+2) U)
    (ij:=gg w.P (M+962) (A+962) D J (J+1) hd th (cq w.P (J+2+1) hd th 1) [(M+962+1+1,rec "method-wrapper" [(.builtin "list.__init__"),(.ref (A+962))])] (M+962+1+1+1) (J+2+2+1) U) (pl:=Pure.pure false) ?_ ?_ ?_
   ·refine D7 (self:= .ref (A+962)) Wp (by decide+kernel) (by rw [eE];rfl) (λq=> ?_) (λq=> ?_) (λq=> ?_) (λq=> ?_) ?_
    ·subst eE;exact Wb (N:=M+1)
    ·subst eE;exact Wc (N:=M+1)
    ·subst eE;exact Wd (N:=M+1)
    ·subst eE;exact We (N:=M+1)
    ·subst eE;exact Wf (N:=M+1)
   ·rw [Nl]
    subst eE
    exact Wg (N:=M+1)
   ·rw [Nm]
    subst eE
    have am:=Wh (w:=w) (F:=M+962) (A:=A) (D:=D) (k:=J) (z:=J+1) (n:=hd) (tn:=th) (N:=M+2) (J:=J+2+2+1) (U:=U) (dd:=cq w.P (J+2+1) hd th 1) (p:=⟨86,8,86,24⟩) (ac:=uq w.P FV hd wd th tw tc ts K sg p0 p3 G)
    rw [Wu]at am
    exact am
 ·exact jJ 0 0 0 0 (by unfold ul;exact aK.big λh=>absurd h hN)
noncomputable def AV (P:aF)(a1 H z k3 k4:Nat)(vf vx vc:ay):Option (NV×Option (Nat×ay))->az
 |none=>bz [de P gf H (.ref a1),de P mV z vf,de P strN k3 vx,de P ur k4 vc] 4
 |some (i,none)=>bz [de P gf H (.ref a1),de P mV z vf,de P strN k3 vx,de P ur k4 vc,de P iN i.1 i.2] 5
 |some (i,some x)=>bz [de P gf H (.ref a1),de P mV z vf,de P strN k3 vx,de P ur k4 vc,de P iN i.1 i.2,de P J6 x.1 x.2] 6
def qd (w:WB)(x:Cq)(af j a1 a2 A D ea ki ini ti ei N J U N' au ts:Nat)(sg:d)(vd:az)(Y:LV)(X Sg:aJ)(fr db:az)(p:aw):Prop:=
 aP w (gR w.P x af) p ((VV w).M.den (d6 w.P x.F1 af)) ⟨[(x.F1,fr),(af,bS sg ts j),(D,cq w.P ki ini ti ei)]++iL a1 a2 A D ea vd Y++X,[Sg],N,J,[],U⟩ (.ok .next) ⟨[(x.F1,db),(D,cq w.P ki ini ti ei)]++iL a1 a2 A D ea vd Y++X,[Sg],N',au,[],U⟩
noncomputable def Wy (w:WB)(aH bt:d)(F1 F ag K:Nat)(q0 q q1 G:aw)(af a1 a2 A D ea ki ini ti ei N J U N' au ts a:Nat)(sg:d)(vd:az)(Y:LV)(ob:az)(Sg:aJ)(fr:az)(H z k3 k4 kp i t:Nat)(vf vx vc:ay)(p:aw) (h:qd w ⟨F1,F,ag,K,q0,q,q1,G⟩ af 0 a1 a2 A D ea ki ini ti ei N J U N' au ts sg vd (Y++[aQ a]) [(a,ob)] Sg fr (AV w.P a1 H z k3 k4 vf vx vc (some ((kp,.int (O i) t),none))) p):aM w:=
 .fn _ _ aH bt [] _ _ _ h
noncomputable def Wz (w:WB)(aH bt:d)(F1 F ag K:Nat)(q0 q q1 G:aw)(af a1 a2 A D ea ki ini ti ei N J U N' au ts a:Nat)(sg:d)(vd:az)(Y:LV)(ob:az)(Sg:aJ)(fr:az)(H z k3 k4 kp i t:Nat)(vf vx vc:ay)(kz:Nat)(vz:ay)(p:aw) (h:qd w ⟨F1,F,ag,K,q0,q,q1,G⟩ af 0 a1 a2 A D ea ki ini ti ei N J U N' au ts sg vd (Y++[aQ a]) [(a,ob)] Sg fr (AV w.P a1 H z k3 k4 vf vx vc (some ((kp,.int (O i) t),some (kz,vz)))) p):aM w:=
 .fn _ _ aH bt [] _ _ _ h
def AW (w:WB)(x:Cq)(af j a1 a2 A D aj ea ki ini ti ei el N J U ts:Nat)(sg:d)(vd:az)(Y ls:LV)(t1 t2:az)(X Sg:aJ)(fr:az)(p:aw)(lU lV ti' lW lX jx N' au br:Nat)(lY lZ:LV)(u1 u2:az)(ko:aJ):Prop:=
 aP w (gR w.P x af) p ((VV w).M.den (d6 w.P x.F1 af)) ⟨[(x.F1,fr),(af,bS sg ts j),(D,cq w.P ki ini ti ei),(aj,aq ls el),(168,t1),(175,t2)]++iL a1 a2 A D ea vd Y++X,[Sg],N,J,[],U⟩ (.ok (.ret .none)) ⟨[(D,cq w.P lU lV ti' lW),(aj,aq lZ lX),(168,u1),(175,u2)]++iL a1 a2 A D jx vd lY,[ko],N',au,[],br⟩
noncomputable def WA (w:WB)(aH bt:d)(F1 F ag K:Nat)(q0 q q1 G:aw)(af a1 a2 A D aj ea ki ini ti ei el N J U ts a:Nat)(sg:d)(vd:az)(Y ls:LV)(t1 t2 ob:az)(Sg:aJ)(fr:az)(p:aw)(lU lV ti' lW lX jx N' au br:Nat)(lY lZ:LV)(u1 u2:az)(ko:aJ) (h:AW w ⟨F1,F,ag,K,q0,q,q1,G⟩ af 0 a1 a2 A D aj ea ki ini ti ei el N J U ts sg vd (Y++[aQ a]) ls t1 t2 [(a,ob)] Sg fr p lU lV ti' lW lX jx N' au br lY lZ u1 u2 ko):aM w:=
 .fn _ _ aH bt [] _ _ _ h
noncomputable def KE (w:WB)(aH bt:d){F1 F ag K:Nat}{q0 q q1 G:aw}{A D e:Nat}{Y:LV}{tb dk:az}{S:aJ}{N J U t':Nat}{r:d}{N' au br:Nat}{q6 q5 p:aw}(h:fp w (.c1 F1 F ag K q0 q q1 G) A D e Y tb dk [] S N J U t' r N' au br q6 q5 p):aM w:= .fn _ _ aH bt [] _ _ _ h
noncomputable def gh (P:aF)(m:Fm)(ki ini ti ei ea el:Nat)(Y ls:LV)(t1 t2:az)(X Sg:aJ)(N J U:Nat):aC:=⟨[(m.B+962+4,cq P ki ini ti ei),(m.B+962+3,aq ls el),(168,t1),(175,t2)]++iK P m ea Y++X,[Sg],N,J,[],U⟩
section
variable {F ag:Nat}{g:d}{t1:az}(h0:Y.length<=100000)(h7:fG w (Lx.c1 (N+962) F ag K yn q q1 G) (m.B+962+5) (m.B+962+4) ki ini ti (ea+1) ei (Y++[aQ (N+962+2)]) t1 tN [(N+962+2,aG [Z g tg,Z y tx])] Sg (N+962+3) (J+8) U vM r3 fA fB nr yn)
include h0 h7
theorem WC (h8:decide (O r3>O m.wd)=true)(h9:∀(c:Nat),c∈m.sg->c<128){Ea:Nat}{Eb:Nat}{Ec:Nat}{Ed:Nat}{Ee:Nat}{Ef:Nat}{Eg:LV}{Eh:LV}{Ei:az}{Ej:az}{Ek:aJ}(jW:AW w {F1:=N+962,F:=F,ag:=ag,K:=K,q0:=iW,q:=q,q1:=q1,G:=G} fA 0 (m.B+962+1) (m.B+962) (m.B+962+5) (m.B+962+4) (m.B+962+3) (ea+1) ki ini ti ei el (fA+1) (fB+2) nr m.ts m.sg (Fm.obj w.P m) (Y++[aQ (N+962+2)]) ls tN t2 [(N+962+2,aG [Z g tg,Z y tx])] Sg (bz [de w.P [115,101,108,102] J (aQ (m.B+962+1)),de w.P [102,119,115] (J+1) (Z g tg),de w.P [115,116,114,105,110,103] (J+2) (Z y tx)] 3) iW Ea Eb Ec Ed Ee Ef ot pG qJ Eg Eh Ei Ej Ek):
  aP w (oI w.P m.B g y tg tx F ag K q q1 G) p (aA (Ctx.code (oI w.P m.B g y tg tx F ag K q q1 G))) (gh w.P m ki ini ti ei ea el Y ls t1 t2 [] Sg (N+962) J U) (.ok (.ret .none)) (gh w.P m Ea Eb Ec Ed Ef Ee Eg Eh Ei Ej [] Ek ot pG qJ):=
 by revert w;exact @(vE 0x555f27e9f84fc13f9aaf93f4fc27e09fcd2be4fd3f09f827eb12be53a7e13f09f84fd1554147b0d8d8ddd398984d1554 (λw h7 jW=>[lP w [9] (m.B+962+5) (m.B+962+4) ea (.ref (N+962+2)) h0,AH w [0,3,4,0] [0] h7,cb w vM m.tw h8,il w m.ts h9,WA w [6,0,1,4,1,3,3,3,0,0] [0] (N+962) F ag K iW q q1 G fA (m.B+962+1) (m.B+962) (m.B+962+5) (m.B+962+4) (m.B+962+3) (ea+1) ki ini ti ei el (fA+1) (fB+2) nr m.ts (N+962+2) m.sg (Fm.obj w.P m) Y ls tN t2 (aG [(Z g tg),(Z y tx)]) Sg (bz [de w.P [115,101,108,102] J (.ref (m.B+962+1)),de w.P [102,119,115] (J+1) (Z g tg),de w.P [115,116,114,105,110,103] (J+2) (Z y tx)] 3) iW Ea Eb Ec Ed Ee Ef ot pG qJ Eg Eh Ei Ej Ek jW]) [0,0,0,0,0,0,0] [0])
theorem WD (h8:decide (O r3>O m.wd)=false):aP w (oI w.P m.B g y tg tx F ag K q q1 G) p (aA (Ctx.code (oI w.P m.B g y tg tx F ag K q q1 G))) (gh w.P m ki ini ti ei ea el Y ls t1 t2 [] Sg (N+962) J U) (.ok (.ret .none)) (gh w.P m ki ini ti ei (ea+1) el (Y++[aQ (N+962+2)]) ls tN t2 [((N+962+2),aG [Z g tg,Z y tx])] Sg fA (fB+1) nr):=
 by revert w;exact @(iA 0x2af93f4fc27e09fcd2be4fd3f09f827eb12be53a7e13f09f84fd1554147b0d8d8ddd398984d1554 (λw h7=>[lP w [9] (m.B+962+5) (m.B+962+4) ea (.ref (N+962+2)) h0,AH w [0,3,4,0] [0] h7,cb w vM m.tw h8]) [1,5,1,4,4,4,0,0] [0])
theorem WE (h8:decide (O r3>O m.wd)=true)(h9:∀(c:Nat),c∈m.sg->c<128)(qe:qd w {F1:=N+962,F:=F,ag:=ag,K:=K,q0:=iW,q:=q,q1:=q1,G:=G} fA 0 (m.B+962+1) (m.B+962) (m.B+962+5) (m.B+962+4) (ea+1) ki ini ti ei (fA+1) (fB+2) nr fy iB m.ts m.sg (Fm.obj w.P m) (Y++[aQ (N+962+2)]) [(N+962+2,aG [Z g tg,Z y tx])] Sg (bz [de w.P [115,101,108,102] J (aQ (m.B+962+1)),de w.P [102,119,115] (J+1) (Z g tg),de w.P [115,116,114,105,110,103] (J+2) (Z y tx)] 3) (AV w.P (m.B+962+1) zf zg zh zi zS zT zU (some ((zj,bE (O fC) pH),none))) iW)(rA:(Y++[aQ (N+962+2)]).length<=100000)(jW:fC<=(Y++[aQ (N+962+2)]).length){KF:az}{El:Nat}{Em:d}{En:Nat}{Eo:Nat}{KG:Nat}(jE:fp w (Lx.c1 (N+962) F ag K lw q q1 G) (m.B+962+5) (m.B+962+4) (eL (Y++[aQ (N+962+2)]).length (List.take fC (Y++[aQ (N+962+2)])).length (ea+1)) (List.take fC (Y++[aQ (N+962+2)])) t2 KF [] Sg (fy+5) (iB+7) nr El Em En Eo KG lw lw lw)(d0:ls.length<=100000)(kA:(List.take fC (Y++[aQ (N+962+2)])).length<=100000)(hM:(m9 fC (Y++[aQ (N+962+2)])).length<=100000):
  aP w (oI w.P m.B g y tg tx F ag K q q1 G) p (aA (Ctx.code (oI w.P m.B g y tg tx F ag K q q1 G))) (gh w.P m ki ini ti ei ea el Y ls t1 t2 [] Sg (N+962) J U) (.ok (.ret .none)) (gh w.P m ki 0 (Eo+3) ei (eL (List.take fC (Y++[aQ (N+962+2)])).length (m9 fC (Y++[aQ (N+962+2)])).length (eL (Y++[aQ (N+962+2)]).length (List.take fC (Y++[aQ (N+962+2)])).length (ea+1))) (el+1) (m9 fC (Y++[aQ (N+962+2)])) (ls++[cu {cps:={toList:=Em}} El]) tN KF [((N+962+2),aG [Z g tg,Z y tx])] Sg (En+2) (Eo+6) KG):=
 by revert w;exact @(CB 0xcfb3ecf9091056960b2d515409fabe3018181b3e5fd7f0bf82fe9faff841057c9fa7e13f04fee3beefbbeefabe4fd3f09f827f7bde69e0f3def5ad5c2eb8ba8aa046f078787ac738381d555f27e9f84fc13f9aaf93f4fc27e09fcd2be4fd3f09f827eb12be53a7e13f09f84fd1554147b0d8d8ddd398984d1554 (λw h7 qe jE=>[lP w [9] (m.B+962+5) (m.B+962+4) ea (.ref (N+962+2)) h0,AH w [0,3,4,0] [0] h7,cb w vM m.tw h8,il w m.ts h9,Wy w [6,0,1,6,6,0,1] [0] (N+962) F ag K iW q q1 G fA (m.B+962+1) (m.B+962) (m.B+962+5) (m.B+962+4) (ea+1) ki ini ti ei (fA+1) (fB+2) nr fy iB m.ts (N+962+2) m.sg (Fm.obj w.P m) Y (aG [(Z g tg),(Z y tx)]) Sg (bz [de w.P [115,101,108,102] J (.ref (m.B+962+1)),de w.P [102,119,115] (J+1) (Z g tg),de w.P [115,116,114,105,110,103] (J+2) (Z y tx)] 3) zf zg zh zi zj fC pH zS zT zU iW qe,JU w [0,5] (fy+1) (m.B+962+5) (m.B+962+4) (ea+1) pH fC rA,JX w [4,0,0] (fy+4) (m.B+962+5) (fy+3) (m.B+962+4) (ea+1) 0 pH rA jW,KE w [0,13] [0] jE,bR w [14] (m.B+962+3) el (Z Em El) d0,um w [3,0,5] (En+1) (m.B+962+5) (fy+2) (m.B+962+4) (eL (Y++[aQ (N+962+2)]).length (List.take fC (Y++[aQ (N+962+2)])).length (ea+1)) 0 _ kA hM]) [11,4,13,4,9,9,0,8] [0])
theorem WF (h8:decide (O r3>O m.wd)=true)(h9:∀(c:Nat),c∈m.sg->c<128){KH:Nat}{KI:ay}(jW:qd w {F1:=N+962,F:=F,ag:=ag,K:=K,q0:=iW,q:=q,q1:=q1,G:=G} fA 0 (m.B+962+1) (m.B+962) (m.B+962+5) (m.B+962+4) (ea+1) ki ini ti ei (fA+1) (fB+2) nr fy iB m.ts m.sg (Fm.obj w.P m) (Y++[aQ (N+962+2)]) [(N+962+2,aG [Z g tg,Z y tx])] Sg (bz [de w.P [115,101,108,102] J (aQ (m.B+962+1)),de w.P [102,119,115] (J+1) (Z g tg),de w.P [115,116,114,105,110,103] (J+2) (Z y tx)] 3) (AV w.P (m.B+962+1) zf zg zh zi zS zT zU (some ((zj,bE (O fC) pH),some (KH,KI)))) iW)(uv:(Y++[aQ (N+962+2)]).length<=100000)(lS:fC<=(Y++[aQ (N+962+2)]).length){KJ:az}{Ep:Nat}{Er:d}{Es:Nat}{Et:Nat}{KL:Nat}(kA:fp w (Lx.c1 (N+962) F ag K lw q q1 G) (m.B+962+5) (m.B+962+4) (eL (Y++[aQ (N+962+2)]).length (List.take fC (Y++[aQ (N+962+2)])).length (ea+1)) (List.take fC (Y++[aQ (N+962+2)])) t2 KJ [] Sg (fy+5) (iB+7) nr Ep Er Es Et KL lw lw lw)(hM:ls.length<=100000)(oM:(List.take fC (Y++[aQ (N+962+2)])).length<=100000)(Eu:(m9 fC (Y++[aQ (N+962+2)])).length<=100000):
  aP w (oI w.P m.B g y tg tx F ag K q q1 G) p (aA (Ctx.code (oI w.P m.B g y tg tx F ag K q q1 G))) (gh w.P m ki ini ti ei ea el Y ls t1 t2 [] Sg (N+962) J U) (.ok (.ret .none)) (gh w.P m ki 0 (Et+3) ei (eL (List.take fC (Y++[aQ (N+962+2)])).length (m9 fC (Y++[aQ (N+962+2)])).length (eL (Y++[aQ (N+962+2)]).length (List.take fC (Y++[aQ (N+962+2)])).length (ea+1))) (el+1) (m9 fC (Y++[aQ (N+962+2)])) (ls++[cu {cps:={toList:=Er}} Ep]) tN KJ [((N+962+2),aG [Z g tg,Z y tx])] Sg (Es+2) (Et+6) KL):=
 by revert w;exact @(CB 0xcfb3ecf9091056960b2d515409fabe3018181b3e5fd7f0bf82fe9faff841057c9fa7e13f04fee3beefbbeefabe4fd3f09f827f7bde69e0f3def5ad5c2eb8ba8aa046f078787ac738381d555f27e9f84fc13f9aaf93f4fc27e09fcd2be4fd3f09f827eb12be53a7e13f09f84fd1554147b0d8d8ddd398984d1554 (λw h7 jW kA=>[lP w [9] (m.B+962+5) (m.B+962+4) ea (.ref (N+962+2)) h0,AH w [0,3,4,0] [0] h7,cb w vM m.tw h8,il w m.ts h9,Wz w [6,0,1,6,6,0,1] [0] (N+962) F ag K iW q q1 G fA (m.B+962+1) (m.B+962) (m.B+962+5) (m.B+962+4) (ea+1) ki ini ti ei (fA+1) (fB+2) nr fy iB m.ts (N+962+2) m.sg (Fm.obj w.P m) Y (aG [(Z g tg),(Z y tx)]) Sg (bz [de w.P [115,101,108,102] J (.ref (m.B+962+1)),de w.P [102,119,115] (J+1) (Z g tg),de w.P [115,116,114,105,110,103] (J+2) (Z y tx)] 3) zf zg zh zi zj fC pH zS zT zU KH KI iW jW,JU w [0,5] (fy+1) (m.B+962+5) (m.B+962+4) (ea+1) pH fC uv,JX w [4,0,0] (fy+4) (m.B+962+5) (fy+3) (m.B+962+4) (ea+1) 0 pH uv lS,KE w [0,13] [0] kA,bR w [14] (m.B+962+3) el (Z Er Ep) hM,um w [3,0,5] (Es+1) (m.B+962+5) (fy+2) (m.B+962+4) (eL (Y++[aQ (N+962+2)]).length (List.take fC (Y++[aQ (N+962+2)])).length (ea+1)) 0 _ oM Eu]) [11,4,13,4,9,9,0,8] [0])
end
noncomputable def uA (P:aF)(B H z k3:Nat)(vf vx:ay):Option (NV×eP)->az
 |none=>AL P B H z k3 vf vx
 |some (c,o)=>cM P B H z k3 c.1 vf vx c.2 (nN o)
variable {w:WB}
theorem uB {x:Cq}{R:Nat}{S:aJ}{fr:az}{r:Flow}(h:aP w (ut w.P x R af q7) p (aA (fR w.P x.F1 R)) (hJ w.P m x.F1 ea us fr [(R,bF (O n) (O n) (-1))] S N J U) (.ok r) (hJ w.P m x.F1 ea us db [] S N' au U)):nP w x R af (m.B+962+1) (m.B+962) (m.B+962+5) (m.B+962+4) ea n N J U N' au (m.obj w.P) (bj us) (us.map TU.ent++S) fr db r q7 p:=by
 delta nP
 rw [aT]
 refine aK.same h ?_ rfl bH ?_ rfl bH
 ·simp only [aC.all,hJ,iL,nL,ck,ce,bk,eB,cZ]
  refine cg.cons _ ?_
  exact(cY (l₁:=[_]) (l₂:=[_,_,_])).append_right _
 ·simp only [aC.all,hJ,iL,nL,ck,ce,bk,eB,cZ]
  exact cg.refl _
section
variable {x:Cq}{S:aJ}(mR:us.length<=10000)(hw:∀i (h:i+1<us.length),us[i+1].g≠[]/\us[i].x≠[])(hl:∀u∈us,u.g.length<=100000/\u.x.length<=100000)
include mR hw hl
theorem KM (n:Nat)(hn:us.length=n+1)(j c N J:Nat)(hc:m.sg[j]? =some c)(s:Option (NV×eP))(vf:ay)(p:aw):(∀i,ky (us.map TU.key) c n=some i->∃k4 dR vc kW t o1 N' au,aP w (gR w.P x af) p (aA (d6 w.P x.F1 af)) (f6 w.P m x af ea ki ini ti ei (bj us) (us.map TU.ent++S) (uA w.P m.B H z k3 vf vx s) (bS m.sg m.ts j) N J U) (.ok .next) (f6 w.P m x af ea ki ini ti ei (bj us) (us.map TU.ent++S) (cM w.P m.B H z k3 k4 dR vx vc (some ((kW,.int (O i) t),o1))) (bS m.sg m.ts (j+1)) N' au U))/\ (ky (us.map TU.key) c n=none->∃am dR N' au p',(n=0->(∀y,s=some y->y.2=none)->am.2=none)/\(n≠0->∃y,am.2=some y)/\aE w (gR w.P x af) p (aA (d6 w.P x.F1 af)) (f6 w.P m x af ea ki ini ti ei (bj us) (us.map TU.ent++S) (uA w.P m.B H z k3 vf vx s) (bS m.sg m.ts j) N J U) (.ok (.again (d6 w.P x.F1 af))) p' (f6 w.P m x af ea ki ini ti ei (bj us) (us.map TU.ent++S) (uA w.P m.B H z k3 dR vx (some am)) (bS m.sg m.ts (j+1)) N' au U)):=by
 have hv:(bj us).length=n+1:=by delta bj;rw [bA,hn]
 refine fK (D8 (w:=w) (c:= .lp x af pn) (A:=m.B+5) (D:=m.B+962+4) (e:=ea) (N:=N) (J:=J+3) (U:=U) (Y:=bj us) (p:=pn)) λt' be lT=> ?_
 have lT:mQ w (m.B+962+5) (m.B+962+4) ea N (J+3) U t' (N+3) be (bj us) ((d6 w.P x.F1 af,pn)::Cq.ac w.P x) pn:=lT
 have AX:=λ(k4:Nat) (o:eP)=>Ve (w:=w) (m:=m) (x:=x) (R:=N+3+1) (af:=af) (ea:=ea) (U:=U) (H:=H) (z:=z) (k3:=k3) (k4:=k4) (c:=c) (ca:=J) (q7:=iV) (vx:=vx) (S:=S) mR hw hl n (o:=o) (vf:=vf) (N:=N+3+2) (J:=be+5) (p:=iV) (by lia)
 refine⟨λi hi=> ?_,λhi=> ?_⟩
 ·cases s with
  |none=>
   refine x4 ((AX (J+1) none).1 i hi) λdR kW t o1 N2 eR h=>
    ⟨J+1,dR,Z [c] J,kW,t,o1,_,_,Vg hc hv lT (by lia) (uB h)⟩
  |some y=>
   obtain⟨⟨k4,vc⟩,o⟩:=y
   refine x4 ((AX k4 o).1 i hi) λdR kW t o1 N2 eR h=> ?_
   cases o with
   |none=>exact GO k4 dR (Z [c] J) kW t o1 _ _ (Vi hc hv lT (by lia) (uB h))
   |some y=>exact GO k4 dR (Z [c] J) kW t o1 _ _ (Vk hc hv lT (by lia) (uB h))
 ·cases s with
  |none=>
   refine vh ((AX (J+1) none).2 hi) λdR o' N2 eR e1 e2 h=>
    mq ((J+1,Z [c] J),o') dR _ _ _ (λh0 _=>e1 h0) (λh0=>e2 h0) (Vf hc hv lT (by lia) (uB h))
  |some y=>
   obtain⟨⟨k4,vc⟩,o⟩:=y
   refine vh ((AX k4 o).2 hi) λdR o' N2 eR e1 e2 h=> ?_
   cases o with
   |none=>exact mq ((k4,Z [c] J),o') dR _ _ _ (λh0 _=>e1 h0) (λh0=>e2 h0) (Vh hc hv lT (by lia) (uB h))
   |some y=>exact mq ((k4,Z [c] J),o') dR _ _ _ (λh0 hy=>(e1 h0).trans (hy _ rfl)) (λh0=>e2 h0) (Vj (o:=y.1) (o2:=y.2) hc hv lT (by lia) (uB h))
theorem WG (n:Nat)(hn:us.length=n+1):∀(mm j N J:Nat) (s:Option (NV×eP)) (vf:ay) (p:aw),j+mm=m.sg.length->(∀y,s=some y->(y.2=none↔n=0))->(mm=0->∃y,s=some y)-> (∀i,jV Unicode.isSpace (us.map TU.key) (m.sg.drop j)=some i->∃k4 dR vc kW t o1 N' au y',aP w (gR w.P x af) p (aA (d6 w.P x.F1 af)) (f6 w.P m x af ea ki ini ti ei (bj us) (us.map TU.ent++S) (uA w.P m.B H z k3 vf vx s) (bS m.sg m.ts j) N J U) (.ok .next) (f6 w.P m x af ea ki ini ti ei (bj us) (us.map TU.ent++S) (cM w.P m.B H z k3 k4 dR vx vc (some ((kW,.int (O i) t),o1))) y' N' au U))/\ (jV Unicode.isSpace (us.map TU.key) (m.sg.drop j)=none->∀(my:ig->aC->Prop),(∀k4 vc o vf N J p,(o=none↔n=0)->∃r C',my r C'/\aP w (gR w.P x af) p (aA (d6 w.P x.F1 af)) (f6 w.P m x af ea ki ini ti ei (bj us) (us.map TU.ent++S) (cM w.P m.B H z k3 k4 vf vx vc (nN o)) (bS m.sg m.ts m.sg.length) N J U) r C')-> ∃r C',my r C'/\aP w (gR w.P x af) p (aA (d6 w.P x.F1 af)) (f6 w.P m x af ea ki ini ti ei (bj us) (us.map TU.ent++S) (uA w.P m.B H z k3 vf vx s) (bS m.sg m.ts j) N J U) r C'):=by
 intro mm
 induction mm with
 |zero=>
  intro j N J s vf p hj hs h0
  have hj:j=m.sg.length:=by lia
  subst hj
  rw [u8]
  obtain⟨⟨⟨k4,vc⟩,o⟩,rfl⟩:=h0 rfl
  exact⟨λi h=>(by cases h),λ_ my hz=>hz k4 vc o vf N J p (hs _ rfl)⟩
 |succ mm aS=>
  intro j N J s vf p hj hs h0
  have bw:j<m.sg.length:=by lia
  have hc:m.sg[j]? =some m.sg[j]:=cm bw
  refine cB (KM (w:=w) (x:=x) (af:=af) (ea:=ea) (ki:=ki) (ini:=ini) (ti:=ti) (ei:=ei) (U:=U) (H:=H) (z:=z) (k3:=k3) (vx:=vx) (S:=S) mR hw hl n hn j m.sg[j] N J hc s vf p) λT1 T2=> ?_
  have e1:oG Unicode.isSpace (us.map TU.key) m.sg[j]=ky (us.map TU.key) m.sg[j] n:=by
   delta oG ky
   rw [bA,hn]
   rfl
  rw [fJ bw]
  unfold jV
  rw [e1]
  cases hL:ky (us.map TU.key) m.sg[j] n with
  |some i=>
   refine⟨λi' hi=> ?_,λh=>by cases h⟩
   cases hi
   refine Nx (T1 i hL) λk4 dR vc kW t o1 N' au h=>
    GN k4 dR vc kW t o1 N' au _ h
  |none=>
   refine oc (T2 hL) λam dR N1 be p1 f1 f2 h1=> ?_
   have hz:∀y,some am=some y->(y.2=none↔n=0):=λy hy=>by
    cases hy
    refine⟨λq=> ?_,λq=>f1 q λy hy=>(hs y hy).mpr q⟩
    by_cases nO:n=0
    ·exact nO
    ·refine dT (f2 nO) λy' Ev=> ?_
     rw [Ev]at q
     cases q
   refine cB (aS (j+1) N1 be (some am) dR p1 (by lia) hz (λ_=>⟨am,rfl⟩)) λI1 I2=> ?_
   refine⟨λi hi=> ?_,λhi my hP=> ?_⟩
   ·refine GJ (I1 i hi) λk4 wR vc kW t o1 N' au y' h=> ?_
    exact GN k4 wR vc kW t o1 N' au y' (ax.turn (aT w) rfl (by kernel_rfl) h1 h)
   ·refine gu (I2 hi my hP) λr C' hp h=> ?_
    exact fL r C' hp (ax.turn (aT w) rfl (by kernel_rfl) h1 h)
end
theorem aK.ext {L:aJ}{T:List aJ}(aj:aJ)(h:aK V ⟨L,T,N,J,ai,U⟩ ⟨L',T',N',au,G',br⟩ Φ):aK V ⟨L++aj,T,N,J,ai,U⟩ ⟨L'++aj,T',N',au,G',br⟩ Φ:=
 aK.frame h (by
  simp only [aC.all,bK]
  exact cg.append_left _ cY) (by rw [bk]) bH (by
  simp only [aC.all,bK]
  exact cg.append_left _ cY) (by rw [bk]) bH
noncomputable def uC (P:aF)(m:Fm)(x:Cq)(af ea ki ini ti ei:Nat)(Y:LV)(Sg:aJ)(fr ro:az)(aj:aJ)(N J U:Nat):aC:=⟨([(x.F1,fr),(af,ro),(m.B+962+4,cq P ki ini ti ei)]++iK P m ea Y)++aj,[Sg],N,J,[],U⟩
variable {w:WB}
theorem WH {x:Cq}{S aj:aJ}(mR:us.length<=10000)(hw:∀i (h:i+1<us.length),us[i+1].g≠[]/\us[i].x≠[])(hl:∀u∈us,u.g.length<=100000/\u.x.length<=100000)(n:Nat)(hn:us.length=n+1)(my:ig->aC->Prop)(hP:∀k4 vc o vf N J p,(o=none↔n=0)->∃r C',my r C'/\aP w (gR w.P x af) p (aA (d6 w.P x.F1 af)) (uC w.P m x af ea ki ini ti ei (bj us) (us.map TU.ent++S) (cM w.P m.B H z k3 k4 vf vx vc (nN o)) (bS m.sg m.ts m.sg.length) aj N J U) r C'):∀(mm j N J:Nat) (s:Option (NV×eP)) (vf:ay) (p:aw),j+mm=m.sg.length->(∀y,s=some y->(y.2=none↔n=0))->(mm=0->∃y,s=some y)->jV Unicode.isSpace (us.map TU.key) (m.sg.drop j)=none-> ∃r C',my r C'/\aP w (gR w.P x af) p (aA (d6 w.P x.F1 af)) (uC w.P m x af ea ki ini ti ei (bj us) (us.map TU.ent++S) (uA w.P m.B H z k3 vf vx s) (bS m.sg m.ts j) aj N J U) r C':=by
 intro mm
 induction mm with
 |zero=>
  intro j N J s vf p hj hs h0 hf
  have hj:j=m.sg.length:=by lia
  subst hj
  obtain⟨⟨⟨k4,vc⟩,o⟩,rfl⟩:=h0 rfl
  exact hP k4 vc o vf N J p (hs _ rfl)
 |succ mm aS=>
  intro j N J s vf p hj hs h0 hf
  have bw:j<m.sg.length:=by lia
  have hc:m.sg[j]? =some m.sg[j]:=cm bw
  refine cB (KM (w:=w) (x:=x) (af:=af) (ea:=ea) (ki:=ki) (ini:=ini) (ti:=ti) (ei:=ei) (U:=U) (H:=H) (z:=z) (k3:=k3) (vx:=vx) (S:=S) mR hw hl n hn j m.sg[j] N J hc s vf p) λT1 T2=> ?_
  have e1:oG Unicode.isSpace (us.map TU.key) m.sg[j]=ky (us.map TU.key) m.sg[j] n:=by
   delta oG ky
   rw [bA,hn]
   rfl
  rw [fJ bw]at hf
  unfold jV at hf
  rw [e1]at hf
  cases hL:ky (us.map TU.key) m.sg[j] n with
  |some i=>rw [hL]at hf;cases hf
  |none=>
   rw [hL]at hf
   refine oc (T2 hL) λam dR N1 be p1 f1 f2 h1=> ?_
   have hz:∀y,some am=some y->(y.2=none↔n=0):=λy hy=>by
    cases hy
    refine⟨λq=> ?_,λq=>f1 q λy hy=>(hs y hy).mpr q⟩
    by_cases nO:n=0
    ·exact nO
    ·refine dT (f2 nO) λy' Ev=> ?_
     rw [Ev]at q
     cases q
   refine gu (aS (j+1) N1 be (some am) dR p1 (by lia) hz (λ_=>⟨am,rfl⟩) hf) λr C' hp h=> ?_
   exact fL r C' hp (ax.turn (aT w) rfl (by kernel_rfl) (aK.ext aj h1) h)
theorem fG.shift {c:Lx}{tb:az}{S:aJ}{r:Nat}(h:fG w c A D k n t e ei (bj (us++[u])) tb dk [] ((us++[u]).map TU.ent++S) N J U t' r N' au br p):fG w c A D k n t e ei (bj us++[aQ u.a]) tb dk [u.ent] (us.map TU.ent++S) N J U t' r N' au br p:=by
 have hv:bj (us++[u])=bj us++[aQ u.a]:=by simp [bj]
 rw [hv]at h
 delta fG at h⊢
 have pm:∀(X:aJ),(X++[u.ent]++(us.map TU.ent++S)).Perm (X++[]++((us++[u]).map TU.ent++S)):=λX=>by
  rw [bk,bK,cx,bK]
  exact cg.append_left X (o4 (a:=u.ent) (l₁:=us.map TU.ent)).symm
 refine aK.same h ?_ rfl bH ?_ rfl bH
 ·simp only [aC.all,ck,ce,bk]
  have:=pm [(A,bJ D (bj us++[aQ u.a]) e),(D,cq w.P k n t ei),(168,tb)]
  rw [bk]at this
  exact this
 ·simp only [aC.all,ck,ce,bk]
  have:=pm [(A,bJ D (bj us++[aQ u.a]) e),(D,cq w.P k n t ei),(168,dk)]
  rw [bk]at this
  exact this
theorem fp.shift {c:Lx}{tb:az}{S:aJ}{r:d}(h:fp w c A D e (bj (us++[u])) tb dk [] ((us++[u]).map TU.ent++S) N J U t' r N' au br q6 q5 p):fp w c A D e (bj us++[aQ u.a]) tb dk [u.ent] (us.map TU.ent++S) N J U t' r N' au br q6 q5 p:=by
 have hv:bj (us++[u])=bj us++[aQ u.a]:=by simp [bj]
 rw [hv]at h
 delta fp at h⊢
 have pm:∀(X:aJ),(X++[u.ent]++(us.map TU.ent++S)).Perm (X++[]++((us++[u]).map TU.ent++S)):=λX=>by
  rw [bk,bK,cx,bK]
  exact cg.append_left X (o4 (a:=u.ent) (l₁:=us.map TU.ent)).symm
 refine aK.same h ?_ rfl bH ?_ rfl bH
 ·simp only [aC.all,ck,ce,bk]
  have:=pm [(A,bJ D (bj us++[aQ u.a]) e),(175,tb)]
  rw [bk]at this
  exact this
 ·simp only [aC.all,ck,ce,bk]
  have:=pm [(A,bJ D (bj us++[aQ u.a]) e),(175,dk)]
  rw [bk]at this
  exact this
theorem Ew (l:List α):l=[]\/∃a b,l=a++[b]:=by
 rcases List.eq_nil_or_concat l with h|⟨a,b,h⟩
 ·exact .inl h
 ·exact .inr ⟨a,b,by rw [h,List.concat_eq_append]⟩
structure dm where
 us:List TU
 S:aJ
 ls:bB
 ki:Nat
 ini:Nat
 ti:Nat
 ei:Nat
 ea:Nat
 el:Nat
 t1:az
 t2:az
noncomputable def dm.cfg (P:aF)(m:Fm)(f:dm)(N J U:Nat):aC:=gh P m f.ki f.ini f.ti f.ei f.ea f.el (bj f.us) (aR f.ls) f.t1 f.t2 [] (f.us.map TU.ent++f.S) N J U
noncomputable def dm.fs (f:dm):FS:=⟨f.us.map TU.key,f.ini,f.ls.map aD⟩
noncomputable def uD (s:FS)(x:d×d):FS:=if 0<s.ini then⟨[(if x.1=[]then [32]else x.1,x.2)],0,s.lines++[bs s.cur]⟩else⟨s.cur++[x],s.ini,s.lines⟩
def nR (f:dm):Prop:=oJ f.t1/\oK f.t2
theorem kX (us:List TU)(u:TU):bj (us++[u])=bj us++[aQ u.a]:=by simp [bj]
theorem oN (X us:List TU)(u:TU)(S:aJ)(L:aJ):(L++((us++[u]).map TU.ent++S)).Perm ((L++[u.ent])++(us.map TU.ent++S)):=by
 rw [cx,bK,bK]
 exact cg.append_left L (o4)
def KN (P:aF)(m:Fm)(s:FS)(r:ig)(C:aC):Prop:=r= .ok (.ret .none)/\∃(f:dm) (N J U:Nat),nR f/\f.fs=s/\C=f.cfg P m N J U
variable {w:WB}
theorem WI {x:Cq}{cH:List TU}{S:aJ}{ls:bB}{t1:az}(h1:oJ t1)(h2:oK t2)(b6:cH.length<=44)(hl:∀v∈cH++[u],v.g.length<=1000/\v.x.length<=1000)(hx:∀v∈cH,v.x≠[])(rC:ini<=900)(zc:cH=[]->0<ini->u.g=[])(hQ:cH≠[]->u.g≠[])(wZ:ls.length<=1000)(k4:Nat)(vc:ay)(o:eP)(vf:ay)(N J U:Nat)(p:aw)(ho:o=none↔cH.length=0):∃r C',KN w.P m (uD ⟨cH.map TU.key,ini,ls.map aD⟩ u.key) r C'/\ aP w (gR w.P x af) p (aA (d6 w.P x.F1 af)) (uC w.P m x af ea ki ini ti ei (bj (cH++[u])) ((cH++[u]).map TU.ent++S) (cM w.P m.B H z k3 k4 vf vx vc (nN o)) (bS m.sg m.ts m.sg.length) [(m.B+962+3,aq (aR ls) el),(168,t1),(175,t2)] N J U) r C':=by
 have eK:m.sg[m.sg.length]? =none:=by simp
 have hu:=hl u (by simp)
 have cV:(bj cH).length<=100000:=by delta bj;rw [bA];lia
 have conv:∀{Φ:bI->bI->Prop} {fr:az} {C':aC},fw w (rv w.P m x af ea ki ini ti ei m.sg.length el (bj cH++[aQ u.a]) (aR ls) t1 t2 (cH.map TU.ent++S) fr [u.ent] N J U) C' Φ->
   fw w (uC w.P m x af ea ki ini ti ei (bj (cH++[u])) ((cH++[u]).map TU.ent++S) fr (bS m.sg m.ts m.sg.length) [(m.B+962+3,aq (aR ls) el),(168,t1),(175,t2)] N J U) C' Φ:=λ{Φ fr C'} h=>by
  refine aK.same h ?_ rfl bH (.refl _) rfl bH
  rw [kX]
  simp only [aC.all,rv,uC,ck,ce,bk]
  refine(oN [] cH u S _).trans ?_
  refine cg.append_right _ (cg.append_right _ ?_)
  simp only [iK,eB,cZ]
  refine cg.cons _ (cg.cons _ (cg.cons _ ?_))
  exact cY (l₁:=[_,_,_])
 have bw:∀(a:Nat) (g:d) (tg:Nat) (y:d) (tx:Nat) (us:List TU) (S':aJ) (L:aJ) (N J U:Nat),(⟨(L++[(a,aG [Z g tg,Z y tx])]),[us.map TU.ent++S'],N,J,[],U⟩:aC).all.Perm (⟨L,[(us++[(⟨a,g,tg,y,tx⟩:TU)]).map TU.ent++S'],N,J,[],U⟩:aC).all:=λa g tg y tx us S' L N J U=>by
  simp only [aC.all,ck,ce,bk]
  exact(oN [] us ⟨a,g,tg,y,tx⟩ S' L).symm
 refine kM (D9 (w:=w) (c:= .p1 x lu) (A:=m.B+5) (D:=m.B+962+4) (k:=ki) (n:=ini) (t:=ti) (ei:=ei) (e:=ea) (N:=N+2) (J:=J+1) (U:=U) (b:=u.a) (p:=lu) cV) λe1 N1 be kB=> ?_
 have kB:jd w (m.B+962+5) (m.B+962+4) ki ini ti ei ea (N+2) (J+1) U e1 N1 be (bj cH) (aQ u.a) (qc w.P x lu) lu:=kB
 cases ini with
 |zero=>
  refine fL (.ok (.ret .none)) _ ⟨rfl,⟨cH++[⟨N1+4,u.g,u.tg,u.x,u.tx⟩],S,ls,ki,0,ti,ei,e1+1,el,t1,t2⟩,N1+5,be+9,U,⟨h1,h2⟩,?_,rfl⟩ (conv ?_)
  ·simp [dm.fs,uD,TU.key]
  ·have fin:∀{Φ:bI->bI->Prop} {C:aC},fw w C ⟨[(m.B+962+4,cq w.P ki 0 ti ei),(m.B+962+3,aq (aR ls) el),(168,t1),(175,t2)]++iK w.P m (e1+1) (bj cH++[aQ (N1+4)])++[(N1+4,aG [Z u.g u.tg,Z u.x u.tx])],[cH.map TU.ent++S],N1+5,be+9,[],U⟩ Φ->
     fw w C ((⟨cH++[⟨N1+4,u.g,u.tg,u.x,u.tx⟩],S,ls,ki,0,ti,ei,e1+1,el,t1,t2⟩:dm).cfg w.P m (N1+5) (be+9) U) Φ:=λh=>by
    refine aK.post h ?_ rfl bH
    delta dm.cfg gh
    rw [kX,bk]
    exact bw _ _ _ _ _ _ _ _ _ _ _
   cases o with
   |none=>exact fin (Vu (g2:=[]) (y2:=[]) (ini:=0) eK (by decide) (by decide) kB cV)
   |some am=>exact fin (Vv (g2:=[]) (y2:=[]) (ini:=0) (o:=am.1) (o2:=am.2) eK (by decide) (by decide) kB cV)
 |succ ini=>
  have hi:decide (O (ini+1)>O 0)=true:=decide_eq_true (by show((ini+1:Nat):Int)>0;lia)
  have pos:∀r:Nat,decide (O (ini+1+r)>O 0)=true:=λr=>decide_eq_true (by show((ini+1+r:Nat):Int)>0;lia)
  rcases Ew cH with rfl|⟨jF,v,rfl⟩
  ·have ho:o=none:=ho.mpr rfl
   subst ho
   have AY:u.g=[]:=zc rfl (by lia)
   refine GG (Ww (w:=w) (c:= .p2 x (N1+3) gW kg) (A:=m.B+5) (D:=m.B+962+4) (k:=ki) (n:=ini+1) (t:=ti) (ei:=ei) (e:=e1) (N:=N1+4) (J:=be+7) (U:=U) (p:=gW)) λa2 tA tB N2 eR rD=> ?_
   have rD:ru w (m.B+962+5) (m.B+962+4) ki (ini+1) ti ei e1 (N1+4) (be+7) U a2 tA tB N2 eR (rt w.P x (N1+3) gW kg) gW:=rD
   refine iT (wX (w:=w) (c:= .c2 (N1+3) x.F1 x.F x.ag x.K kh kg x.q0 x.q x.q1 x.G) (A:=m.B+5) (D:=m.B+962+4) (k:=ki) (n:=ini+1) (t:=ti) (e:=e1+1) (ei:=ei) (N:=N2+5) (J:=eR+9) (U:=U) (us:=[]++[⟨N2+4,[],tA,[],tB⟩]) (S0:=S) (p:=kh) h1 c5 (by simp) (by simp)) λtb t' N3 qf rE nS gG=> ?_
   have gG:=fG.shift gG
   refine iT (uz (w:=w) (c:= .c2 (N1+3) x.F1 x.F x.ag x.K eq kg x.q0 x.q x.q1 x.G) (A:=m.B+962+5) (D:=m.B+962+4) (e:=e1+1) (N:=N3+1) (J:=qf+7) (U:=rE) (us:=[]++[⟨N2+4,[],tA,[],tB⟩]) (S0:=S) (q6:=eq) (q5:=eq) (p:=eq) h2 (by simp) (by simp)) λoO kY N4 qg w5 rF gF=> ?_
   have gF:=fp.shift gF
   refine fL (.ok (.ret .none)) _ ⟨rfl,⟨[]++[⟨N4+4,[32],qg+9,u.x,u.tx⟩],S,ls++[(bs [([],[])],kY)],ki,0,qg+4,ei,e1+2+1,el+1,tb,oO⟩,N4+5,qg+15,w5,⟨nS,rF⟩,?_,rfl⟩ (conv ?_)
   ·simp [dm.fs,uD,TU.key,AY,bs]
   ·have am:=Vw (m:=m) (x:=x) (af:=af) (ea:=ea) (ki:=ki) (ini:=ini) (el:=el) (j:=m.sg.length) (H:=H) (z:=z) (k3:=k3) (k4:=k4) (a:=u.a) (tg:=u.tg) (tx:=u.tx) (y:=u.x) (g2:=[]) (y2:=[]) (vf:=vf) (vx:=vx) (vc:=vc) (ls:=aR ls) (Sg:=S) (p:=p) eK hi (by decide) kB rD gG (pos _) gF (by delta aR;rw [bA];lia)
    have eu:u.ent=(u.a,aG [Z [] u.tg,Z u.x u.tx]):=by delta TU.ent;rw [AY]
    rw [<-eu]at am
    refine aK.post am ?_ rfl bH
    ·delta dm.cfg gh
     rw [kX,bk]
     have es:aR (ls++[(bs [([],[])],kY)])=aR ls++[cu {cps:={toList:=bs [([],[])]}} kY]:=by simp [aR,Z]
     rw [es]
     exact bw _ _ _ _ _ [] _ _ _ _ _
  ·have ho:∃am,o=some am:=by
    cases o with
    |none=>exact absurd (ho.mp rfl) (by simp)
    |some am=>exact⟨am,rfl⟩
   obtain⟨am,rfl⟩:=ho
   have AY:u.g≠[]:=hQ (by simp)
   refine fK (xR AY) λc2 g eg=> ?_
   have WJ:v.x≠[]:=hx v (by simp)
   have WK:=hl v (by simp)
   have bD:(!(v.g==[32]&&v.x==[]))=true:=by simp [WJ]
   have w6:(bj jF).length<=100000:=by delta bj;rw [bA];simp at b6;lia
   have ui:jF.length<=43:=by simp at b6;lia
   rw [kX]at kB
   refine kM (D9 (w:=w) (c:= .p2 x (N1+3) gW kg) (A:=m.B+5) (D:=m.B+962+4) (k:=ki) (n:=ini+1) (t:=ti) (ei:=ei) (e:=e1) (N:=N1+4) (J:=be+7) (U:=U) (b:=v.a) (p:=gW) w6) λe2 N2 eR rD=> ?_
   have rD:jd w (m.B+962+5) (m.B+962+4) ki (ini+1) ti ei e1 (N1+4) (be+7) U e2 N2 eR (bj jF) (aQ v.a) (rt w.P x (N1+3) gW kg) gW:=rD
   have KO:∀q∈jF++[(⟨N2+4,v.g,v.tg,v.x,v.tx⟩:TU)],q.g.length<=1000/\q.x.length<=1000:=λq hq=>by
    rcases fq.mp hq with hq|hq
    ·exact hl q (by simp [hq])
    ·have:q=⟨N2+4,v.g,v.tg,v.x,v.tx⟩:=by simpa using hq
     rw [this];exact WK
   refine iT (wX (w:=w) (c:= .c2 (N1+3) x.F1 x.F x.ag x.K kh kg x.q0 x.q x.q1 x.G) (A:=m.B+5) (D:=m.B+962+4) (k:=ki) (n:=ini+1) (t:=ti) (e:=e2+1) (ei:=ei) (N:=N2+5) (J:=eR+9) (U:=U) (us:=jF++[⟨N2+4,v.g,v.tg,v.x,v.tx⟩]) (S0:=S) (p:=kh) h1 c5 KO (by simp;lia)) λtb t' N3 qf rE nS gG=> ?_
   have gG:=fG.shift gG
   refine iT (uz (w:=w) (c:= .c2 (N1+3) x.F1 x.F x.ag x.K eq kg x.q0 x.q x.q1 x.G) (A:=m.B+962+5) (D:=m.B+962+4) (e:=e2+1) (N:=N3+1) (J:=qf+7) (U:=rE) (S0:=S) (q6:=eq) (q5:=eq) (p:=eq) h2 KO (by simp;lia)) λoO kY N4 qg w5 rF gF=> ?_
   have gF:=fp.shift gF
   have ek:(jF++[(⟨N2+4,v.g,v.tg,v.x,v.tx⟩:TU)]).map TU.key=(jF++[v]).map TU.key:=by simp [TU.key]
   rw [ek]at gF gG
   refine fL (.ok (.ret .none)) _ ⟨rfl,⟨[]++[⟨N4+4,c2::g,u.tg,u.x,u.tx⟩],jF.map TU.ent++S,ls++[(bs ((jF++[v]).map TU.key),kY)],ki,0,qg+4,ei,eL (bj jF++[aQ (N2+4)]).length ([]:LV).length (e2+1)+1,el+1,tb,oO⟩,N4+5,qg+13,w5,⟨nS,rF⟩,?_,rfl⟩ (conv ?_)
   ·simp [dm.fs,uD,TU.key,eg]
   ·have z':=Vx (w:=w) (m:=m) (x:=x) (af:=af) (ea:=ea) (ki:=ki) (el:=el) (j:=m.sg.length) (H:=H) (z:=z) (k3:=k3) (k4:=k4) (a:=u.a) (b:=v.a) (tg:=u.tg) (tx:=u.tx) (bg:=v.tg) (bO:=v.tx) (y:=u.x) (g2:=v.g) (y2:=v.x) (vf:=vf) (vx:=vx) (vc:=vc) (o:=am.1) (o2:=am.2) (Y:=bj jF) (ls:=aR ls) (Sg:=jF.map TU.ent++S) (p:=p) eK hi bD kB rD w6 gG (pos _) gF (by delta aR;rw [bA];lia) (by rw [ci];simp;delta bj;rw [bA];lia) (by rw [<-eg];lia)
    have eu:u.ent=(u.a,aG [Z (c2::g) u.tg,Z u.x u.tx]):=by delta TU.ent;rw [eg]
    refine aK.post (aK.same z' ?_ rfl ⟨rfl,rfl,rfl⟩ (.refl _) rfl ⟨rfl,rfl,rfl⟩) ?_ rfl bH
    ·rw [eu,kX]
     simp only [aC.all,rv,ck,ce,bk]
     have:=oN [] jF v S ([(x.F1,cM w.P m.B H z k3 k4 vf vx vc (some (am.1,some am.2))),(af,bS m.sg m.ts m.sg.length),(m.B+962+4,cq w.P ki (ini+1) ti ei),(m.B+962+3,aq (aR ls) el),(168,t1),(175,t2)]++iK w.P m ea (bj jF++[aQ v.a]++[aQ u.a])++[(u.a,aG [Z (c2::g) u.tg,Z u.x u.tx])])
     refine this.trans ?_
     rw [bK _ [_] [_]]
     exact cg.refl _
    ·unfold dm.cfg gh
     rw [kX,bk]
     have es:aR (ls++[(bs ((jF++[v]).map TU.key),kY)])=aR ls++[cu {cps:={toList:=bs ((jF++[v]).map TU.key)}} kY]:=by simp [aR,Z]
     rw [es]
     exact bw _ _ _ _ _ [] _ _ _ _ _
theorem qd.of {x:Cq}{S:aJ}{fr ro iJ:az}(WL:ro=bS m.sg m.ts 0)(h:aP w (gR w.P x af) p (aA (d6 w.P x.F1 af)) (f6 w.P m x af ea ki ini ti ei (bj (us++[u])) ((us++[u]).map TU.ent++S) fr ro N J U) (.ok .next) (f6 w.P m x af ea ki ini ti ei (bj (us++[u])) ((us++[u]).map TU.ent++S) db iJ N' au U)):qd w x af 0 (m.B+962+1) (m.B+962) (m.B+962+5) (m.B+962+4) ea ki ini ti ei N J U N' au m.ts m.sg (m.obj w.P) (bj us++[aQ u.a]) [u.ent] (us.map TU.ent++S) fr db p:=by
 subst WL
 delta qd
 rw [aT]
 rw [kX]at h
 refine aK.less (D:=⟨[(x.F1,db),(af,iJ),(m.B+962+4,cq w.P ki ini ti ei)]++iK w.P m ea (bj us++[aQ u.a])++[u.ent],[us.map TU.ent++S],N',au,[],U⟩) (A:=[(af,iJ)]) (B:=[]) (aK.same h ?_ rfl ⟨rfl,rfl,rfl⟩ ?_ rfl bH) ?_ (.refl _) bH
 ·simp only [aC.all,f6,ck,ce,bk]
  exact(oN [] us u S _).symm
 ·simp only [aC.all,f6,ck,ce,bk]
  exact(oN [] us u S _).symm
 ·simp only [aC.all,iL,iK,nL,ck,ce,bk,eB,cZ]
  refine cg.cons _ ?_
  exact(cY (l₁:=[(af,iJ)]))
noncomputable def dm.any (f:dm)(s:FS):dm:={f with us:=s.cur.map λk=>⟨0,k.1,0,k.2,0⟩,ini:=s.ini,ls:=s.lines.map λl=>(l,0)}
theorem dm.WM (f:dm)(s:FS):(f.any s).fs=s:=by
 obtain⟨c,i,l⟩:=s
 delta dm.any dm.fs
 simp only [eF]
 congr 1
 ·conv=>rhs;rw [<-GB c]
  exact u6 λk _=>rfl
 ·conv=>rhs;rw [<-GB l]
  exact u6 λk _=>rfl
structure Ex (f:dm)(m:Fm)(g y:d):Prop where
 ok:nR f
 len:f.us.length<=44
 sz:∀v∈f.us,v.g.length<=1000/\v.x.length<=1000
 sz2:g.length<=1000/\y.length<=1000
 hx:∀v∈f.us,v.x≠[]
 hg:∀i (h:i+1<f.us.length),f.us[i+1].g≠[]
 fS:f.us≠[]->g≠[]
 Ey:f.us=[]->0<f.ini->g=[]
 ini:f.ini<=900
 ls:f.ls.length<=1000
 sg:∀c∈m.sg,c<128
 sg0:m.sg≠[]
theorem WN {F ag:Nat}{g:d}{f:dm}(hp:Ex f m g y):∃f' N' au br,nR f'/\f'.fs=iG Unicode.isSpace m.wd m.sg f.fs (g,y)/\ aP w (oI w.P m.B g y tg tx F ag K q q1 G) p (aA (.call (.ref 119) ⟨[.ref (m.B+962+1),Z g tg,Z y tx],[]⟩)) (f.cfg w.P m N J U) (.ok (.ret .none)) (f'.cfg w.P m N' au br):=by
 by_cases hN:962<=N
 rotate_left
 ·exact pa (f.any (iG Unicode.isSpace m.wd m.sg f.fs (g,y))) 0 0 0 hp.ok (f.WM _) (aK.big λh=>absurd h hN)
 obtain⟨M,rfl⟩:∃M,N=M+962:=⟨N-962,by lia⟩
 obtain⟨us,S,ls,ki,ini,ti,ei,ea,el,t1,t2⟩:=f
 obtain⟨⟨h1,h2⟩,b6,cK,WO,hx,hg,fS,Ey,rC,wZ,eK,WP⟩:=hp
 dsimp only at h1 h2 b6 cK hx hg fS Ey rC wZ
 have cV:(bj us).length<=100000:=by delta bj;rw [bA];lia
 have w7:(aR ls).length<=100000:=by delta aR;rw [bA];lia
 have AZ:∀v∈us++[(⟨M+962+2,g,tg,y,tx⟩:TU)],v.g.length<=1000/\v.x.length<=1000:=λv hv=>by
  rcases fq.mp hv with hv|hv
  ·exact cK v hv
  ·have:v=⟨M+962+2,g,tg,y,tx⟩:=by simpa using hv
   rw [this];exact WO
 refine iT (wX (w:=w) (c:= .c1 (M+962) F ag K yn q q1 G) (A:=m.B+5) (D:=m.B+962+4) (k:=ki) (n:=ini) (t:=ti) (e:=ea+1) (ei:=ei) (N:=M+962+3) (J:=J+8) (U:=U) (S0:=S) (tb:=t1) (p:=yn) h1 c5 AZ (by simp;lia)) λtb t' N4 uE oP nS gG=> ?_
 have gG:=fG.shift gG
 have w8:(us++[(⟨M+962+2,g,tg,y,tx⟩:TU)]).map TU.key=us.map TU.key++[(g,y)]:=by simp [TU.key]
 rw [w8]at gG
 have start:∀{Φ:bI->bI->Prop} {C':aC},fw w (gh w.P m ki ini ti ei ea el (bj us) (aR ls) t1 t2 [] (us.map TU.ent++S) (M+962) J U) C' Φ->fw w (dm.cfg w.P m ⟨us,S,ls,ki,ini,ti,ei,ea,el,t1,t2⟩ (M+962) J U) C' Φ:=λh=>h
 by_cases hw:ini+bx (us.map TU.key++[(g,y)])<=m.wd
 ·refine pa ⟨us++[⟨M+962+2,g,tg,y,tx⟩],S,ls,ki,ini,ti,ei,ea+1,el,tb,t2⟩ N4 (uE+1) oP ⟨nS,h2⟩ ?_ ?_
  ·show(⟨_,_,_⟩:FS)=iG _ _ _ ⟨us.map TU.key,ini,ls.map aD⟩ _
   delta iG
   rw [if_pos hw,w8]
  ·have am:=WD (p:=p) (el:=el) (ls:=aR ls) (t2:=t2) cV gG (decide_eq_false (by show¬(((ini+bx (us.map TU.key++[(g,y)]):Nat):Int)>(m.wd:Int));lia))
   refine aK.post am ?_ rfl bH
   delta dm.cfg gh
   rw [kX]
   simp only [aC.all,ck,ce,bk]
   exact(oN [] us ⟨M+962+2,g,tg,y,tx⟩ S _).symm
 ·have h8:decide (O (ini+bx (us.map TU.key++[(g,y)]))>O m.wd)=true:=decide_eq_true (by show(((ini+bx (us.map TU.key++[(g,y)]):Nat):Int)>(m.wd:Int));lia)
  have w9:∀i (h:i+1<(us++[(⟨M+962+2,g,tg,y,tx⟩:TU)]).length),(us++[(⟨M+962+2,g,tg,y,tx⟩:TU)])[i+1].g≠[]/\(us++[(⟨M+962+2,g,tg,y,tx⟩:TU)])[i].x≠[]:=λi h=>by
   have hl:(us++[(⟨M+962+2,g,tg,y,tx⟩:TU)]).length=us.length+1:=by simp
   have hi:i<us.length:=by lia
   refine⟨?_,?_⟩
   ·by_cases h':i+1<us.length
    ·rw [aeN h'];exact hg i h'
    ·rw [List.getElem_append_right (by lia)]
     simp only [show i+1-us.length=0 by lia]
     exact fS (by intro q;subst q;simp at hi)
   ·rw [aeN hi]
    exact hx _ (gt hi)
  have KP:∀v∈us++[(⟨M+962+2,g,tg,y,tx⟩:TU)],v.g.length<=100000/\v.x.length<=100000:=λv hv=>⟨iR (AZ v hv).1 pd,iR (AZ v hv).2 pd⟩
  have uj:(us++[(⟨M+962+2,g,tg,y,tx⟩:TU)]).length=us.length+1:=by simp
  have KQ:m.sg.length≠0:=λq=>WP (sd.mp q)
  cases hf:jV Unicode.isSpace (us.map TU.key++[(g,y)]) m.sg with
  |some i=>
   have hi:=Dv hf
   rw [ci,bA,o7]at hi
   refine GJ ((WG (w:=w) (m:=m) (x:=⟨M+962,F,ag,K,iW,q,q1,G⟩) (af:=N4) (ea:=ea+1) (ki:=ki) (ini:=ini) (ti:=ti) (ei:=ei) (U:=oP) (H:=J) (z:=J+1) (k3:=J+2) (vx:=Z y tx) (S:=S) (by simp;lia) w9 KP us.length uj m.sg.length 0 (N4+1) (uE+2) none (Z g tg) iW ji (λy hy=>by cases hy) (λq=>absurd q KQ)).1 i (by rw [iS,w8];exact hf)) λk4 dR vc kW t o1 WQ WR y' A0=> ?_
   have A0:=qd.of rfl A0
   have et:List.take i (bj us++[aQ (M+962+2)])=bj (us.take i):=by
    rw [Nn (by delta bj;rw [bA];lia)]
    delta bj
    rw [ml]
   have ed:m9 i (bj us++[aQ (M+962+2)])=bj ((us++[(⟨M+962+2,g,tg,y,tx⟩:TU)]).drop i):=by
    rw [<-kX us ⟨M+962+2,g,tg,y,tx⟩]
    delta bj
    rw [xW]
   have WS:us.map TU.ent++S=(us.take i).map TU.ent++((us.drop i).map TU.ent++S):=by
    rw [<-bK,<-cx,oa]
   have WT:(us.take i).map TU.key=(us.map TU.key++[(g,y)]).take i:=by
    rw [Nn (by rw [bA];lia),ml]
   refine iT (uz (w:=w) (c:= .c1 (M+962) F ag K lw q q1 G) (A:=m.B+962+5) (D:=m.B+962+4) (e:=eL (bj us++[aQ (M+962+2)]).length (List.take i (bj us++[aQ (M+962+2)])).length (ea+1)) (N:=WQ+5) (J:=WR+7) (U:=oP) (us:=us.take i) (S0:=(us.drop i).map TU.ent++S) (tb:=t2) (q6:=lw) (q5:=lw) (p:=lw) h2 (λv hv=>cK v (sa hv)) (by rw [mj];lia)) λoO kY Ez uF EA rF gF=> ?_
   rw [<-WS,<-et]at gF
   have jX:(bj us++[aQ (M+962+2)]).length<=100000:=by rw [<-kX us ⟨M+962+2,g,tg,y,tx⟩];delta bj;rw [bA];simp;lia
   have ui:i<=(bj us++[aQ (M+962+2)]).length:=by rw [<-kX us ⟨M+962+2,g,tg,y,tx⟩];delta bj;rw [bA];simp;lia
   have KR:(List.take i (bj us++[aQ (M+962+2)])).length<=100000:=by rw [mj];lia
   have rG:(m9 i (bj us++[aQ (M+962+2)])).length<=100000:=by rw [na];lia
   refine pa ⟨(us++[(⟨M+962+2,g,tg,y,tx⟩:TU)]).drop i,(us.take i).map TU.ent++S,ls++[(bs ((us.take i).map TU.key),kY)],ki,0,uF+3,ei,eL (List.take i (bj us++[aQ (M+962+2)])).length (m9 i (bj us++[aQ (M+962+2)])).length (eL (bj us++[aQ (M+962+2)]).length (List.take i (bj us++[aQ (M+962+2)])).length (ea+1)),el+1,tb,oO⟩ (Ez+2) (uF+6) EA ⟨nS,rF⟩ ?_ ?_
   ·show(⟨_,_,_⟩:FS)=iG _ _ _ ⟨us.map TU.key,ini,ls.map aD⟩ _
    delta iG
    rw [if_neg hw]
    simp only [hf]
    rw [cx,<-WT,xW,w8]
    rfl
   ·have fin:∀{Φ:bI->bI->Prop} {C:aC},fw w C (gh w.P m ki 0 (uF+3) ei (eL (List.take i (bj us++[aQ (M+962+2)])).length (m9 i (bj us++[aQ (M+962+2)])).length (eL (bj us++[aQ (M+962+2)]).length (List.take i (bj us++[aQ (M+962+2)])).length (ea+1))) (el+1) (m9 i (bj us++[aQ (M+962+2)])) (aR ls++[cu {cps:={toList:=bs ((us.take i).map TU.key)}} kY]) tb oO [((M+962+2),aG [Z g tg,Z y tx])] (us.map TU.ent++S) (Ez+2) (uF+6) EA) Φ->
      fw w C (dm.cfg w.P m ⟨(us++[(⟨M+962+2,g,tg,y,tx⟩:TU)]).drop i,(us.take i).map TU.ent++S,ls++[(bs ((us.take i).map TU.key),kY)],ki,0,uF+3,ei,eL (List.take i (bj us++[aQ (M+962+2)])).length (m9 i (bj us++[aQ (M+962+2)])).length (eL (bj us++[aQ (M+962+2)]).length (List.take i (bj us++[aQ (M+962+2)])).length (ea+1)),el+1,tb,oO⟩ (Ez+2) (uF+6) EA) Φ:=λh=>by
     refine aK.post h ?_ rfl bH
     delta dm.cfg gh
     have es:aR (ls++[(bs ((us.take i).map TU.key),kY)])=aR ls++[cu {cps:={toList:=bs ((us.take i).map TU.key)}} kY]:=by simp [aR,Z]
     rw [ed,es]
     simp only [aC.all,ck,ce,bk]
     refine(oN [] us ⟨M+962+2,g,tg,y,tx⟩ S _).symm.trans (cg.append_left _ ?_)
     have e5:(us++[(⟨M+962+2,g,tg,y,tx⟩:TU)]).map TU.ent=(us.take i).map TU.ent++((us++[(⟨M+962+2,g,tg,y,tx⟩:TU)]).drop i).map TU.ent:=by
      rw [<-cx,<-Nn (by lia),oa]
     rw [e5,bK,<-bK,<-bK]
     exact cY.append_right S
    cases o1 with
    |none=>exact fin (WE cV gG h8 eK A0 jX ui gF w7 KR rG)
    |some o1=>exact fin (WF cV gG h8 eK A0 jX ui gF w7 KR rG)
  |none=>
   obtain⟨r,C',⟨hr,f',N',au,br,WU,WV,WW⟩,hW⟩:=WH (by simp;lia) w9 KP us.length uj (KN w.P m (uD ⟨us.map TU.key,ini,ls.map aD⟩ (g,y)))
    (λk4 vc o vf N J p ho=>WI nS h2 b6 AZ hx rC Ey fS wZ k4 vc o vf N J oP p ho) m.sg.length 0 (N4+1) (uE+2) none (Z g tg) iW ji (λy hy=>by cases hy) (λq=>absurd q KQ) (by rw [iS,w8];exact hf)
   subst hr WW
   refine pa f' N' au br WU ?_ ?_
   ·rw [WV]
    show _=iG _ _ _ ⟨us.map TU.key,ini,ls.map aD⟩ _
    delta iG uD
    rw [if_neg hw]
    simp only [hf]
   ·have hR:AW w ⟨M+962,F,ag,K,iW,q,q1,G⟩ N4 0 (m.B+962+1) (m.B+962) (m.B+962+5) (m.B+962+4) (m.B+962+3) (ea+1) ki ini ti ei el (N4+1) (uE+2) oP m.ts m.sg (m.obj w.P) (bj us++[aQ (M+962+2)]) (aR ls) tb t2 [(M+962+2,aG [Z g tg,Z y tx])] (us.map TU.ent++S)
      (AL w.P m.B J (J+1) (J+2) (Z g tg) (Z y tx)) iW f'.ki f'.ini f'.ti f'.ei f'.el f'.ea N' au br (bj f'.us) (aR f'.ls) f'.t1 f'.t2 (f'.us.map TU.ent++f'.S):=by
     delta AW
     rw [aT]
     refine aK.same hW ?_ rfl bH ?_ rfl bH
     ·rw [kX]
      simp only [aC.all,uC,ck,ce,bk]
      refine cg.trans ?_ (oN [] us ⟨M+962+2,g,tg,y,tx⟩ S _).symm
      refine cg.append_right _ (cg.append_right _ ?_)
      simp only [iL,iK,nL,eB,cZ]
      refine cg.cons _ (cg.cons _ (cg.cons _ ?_))
      exact cY (l₁:=[_,_,_])
     ·delta dm.cfg gh
      simp only [aC.all,iL,iK,nL,ck,ce,bk]
      exact cg.refl _
    have am:=WC (m:=m) (F:=F) (ag:=ag) (K:=K) (q:=q) (q1:=q1) (G:=G) (p:=p) (el:=el) (ls:=aR ls) (t2:=t2) cV gG h8 eK hR
    exact am
section
open PySem.Sre PySem.Builtin.Re
noncomputable def kC:Array Nat:= #[14,4,0,1,4294967295,17,0,24,11,1,4294967295,13,6,16,32,16,9,0,1,17,1,1]
theorem WX (P:aF):fD P 48=kC:=by kernel_rfl
inductive nT:d->List d->Prop where
 |last {t:d} (h:∀c∈t,bU c=false):nT t [t]
 |cut {t g r:d} {l:List d} (h:∀c∈t,bU c=false) (hg:∀c∈g,bU c=true) (hn:g≠[]) (hr:∀c,r.head? =some c->bU c=false) (hl:nT r l):nT (t++g++r) (t::g::l)
noncomputable def hS (ps:b8):List d:=ps.flatMap λp=>[p.1,p.2]
theorem KS (ah:b8)(g:d):∀(t h r:d),(∀c∈t,bU c=false)->cG ah g h (t++r)=cG ah g (h++t) r:=by
 intro t
 induction t with
 |nil=>
  intro h r _
  rw [bk];rfl
 |cons c t aS=>
  intro h r hh
  show cG ah g h (c::(t++r))=_
  rw [cG,hh c (.head _),if_neg (by simp),aS (h++[c]) r λx hx=>hh x (.tail _ hx),bK]
  rfl
theorem WY (ah:b8):∀(t g r:d),(∀c∈t,bU c=true)->cG ah g [] (t++r)=cG ah (g++t) [] r:=by
 intro t
 induction t with
 |nil=>
  intro h r _
  rw [bk];rfl
 |cons c t aS=>
  intro h r hh
  show cG ah h [] (c::(t++r))=_
  rw [cG,hh c (.head _),if_pos rfl,if_pos rfl,aS (h++[c]) r λx hx=>hh x (.tail _ hx),bK]
  rfl
theorem WZ {l:List d}(h:nT x l):∀(ah:b8) (g t:d),(x=[]->t=[])->(t=[]->∀c,x.head? =some c->bU c=false)->∃a b,l=a::b/\hS (cG ah g t x)=hS ah++g::(t++a)::b:=by
 induction h with
 | @last y h=>
  intro ah g t _ _
  refine fL y [] rfl ?_
  have:=KS ah g y t [] h
  rw [bk]at this
  rw [this,cG,hS,aeO]
  rfl
 | @cut y gp r l h hg hn hr hl ih=>
  intro ah g t h0 h1
  refine fL y (gp::l) rfl ?_
  rw [bK,KS ah g y t (gp++r) h]
  refine fK (xR hn) λc g' fM=> ?_
  subst fM
  have bD:t++y≠[]:=λq=>by
   refine cB (No.mp q) λq1 G=> ?_
   subst G
   have:=h1 q1 c rfl
   rw [hg c (.head _)]at this
   cases this
  show hS (cG ah g (t++y) (c::(g'++r)))=_
  rw [cG,hg c (.head _),if_pos rfl,if_neg bD,WY _ g' [c] r λx hx=>hg x (.tail _ hx)]
  refine gu (ih (ah++[(g,t++y)]) ([c]++g') [] (λ_=>rfl) (λ_=>hr)) λa b e1 e2=> ?_
  rw [e2,e1]
  show hS (ah++[(g,t++y)])++_=_
  rw [hS,aeO]
  simp [hS]
theorem W0 {l:List d}(h:nT x l)(hx:∃c r,x=c::r/\bU c=false):[]::l=hS (cQ x):=by
 refine gu (hx) λc r mu hc=> ?_
 subst mu
 have e:cQ (c::r)=cG [] [] [] (c::r):=by
  show(if bU c=true then _ else cG [] [] [c] r)=_
  rw [cG,hc]
  rfl
 refine gu (WZ h [] [] [] (λ_=>rfl) (λ_ y hy=>by cases hy;exact hc)) λa b e1 e2=> ?_
 rw [e,e2,e1]
 rfl
theorem W1 (c:Nat)(seen:Sre.Seen):∃sn,accepts kC 11 c seen= .ok (bU c,sn):=by
 have e0:accepts kC 11 c seen=if(c==32)=true then .ok (true,seen.add 16)else if(c==9)=true then .ok (true,(seen.add 16).add 16)else .ok (false,((seen.add 16).add 16).add 0):=by kernel_rfl
 rw [e0]
 delta bU
 cases c==32
 ·cases c==9
  ·exact⟨_,rfl⟩
  ·exact⟨_,rfl⟩
 ·exact⟨_,rfl⟩
theorem W2 (x:d):∀(n p f:Nat) (seen:Sre.Seen),p+n=x.length->∃sn,Sre.run kC ⟨x⟩ 11 n p f seen= .ok (f+((x.drop p).takeWhile bU).length,sn):=by
 intro n
 induction n with
 |zero=>
  intro p f seen h
  rw [mh (by lia)]
  exact⟨seen,rfl⟩
 |succ n aS=>
  intro p f seen h
  have hp:p<x.length:=by lia
  have hg:(⟨x⟩:Array Nat).getD p 0=x[p]:=by simp [hp]
  unfold Sre.run
  rw [hg]
  refine dT (W1 x[p] seen) λsn e=> ?_
  rw [e,fJ hp,Np]
  cases hb:bU x[p]with
  |false=>exact⟨sn,rfl⟩
  |true=>
   refine dT (aS (p+1) (f+1) sn (by lia)) λnw e'=>
    ⟨nw,?_⟩
   show Sre.run kC ⟨x⟩ 11 n (p+1) (f+1) sn=_
   rw [e']
   rw [if_pos rfl,cy,kJ,Gv 1]
noncomputable def mA (x:d)(s:Nat)(o:Bool)(a:Option Nat)(sn:Sre.Seen):Sre.M:=
 {code:=kC,text:=⟨x⟩,lim:=x.length,start:=s,lastStart:=x.length,pc:=5,pos:=s,handed:=s,outermost:=o,marks:= #[a,none],frames:=[{wait:= .nextStart,pc:=5,pos:=s,outermost:=o}],weight:=1,seen:=sn}
noncomputable def mB (x:d)(s:Nat)(o:Bool)(sn:Sre.Seen):Sre.M:={mA x s o (some s) sn with pc:=7,lastmark:=0}
noncomputable def mC (x:d)(s n:Nat)(o:Bool)(sn:Sre.Seen):Sre.M:=
 {mB x s o sn with pos:=s+n,handed:=s+n,pc:=19,weight:=2,frames:=[{wait:= .giveBack,pc:=7,pos:=s+n,outermost:=o,count:=n,kept:={lastmark:=0}},{wait:= .nextStart,pc:=5,pos:=s,outermost:=o}]}
theorem KU (x:d)(s:Nat)(o:Bool)(a:Option Nat)(sn:Sre.Seen):(mA x s o a sn).step=mB x s o (sn.add 17):=by kernel_rfl
theorem KV (x:d)(s:Nat)(o:Bool)(sn:Sre.Seen):(mB x s o sn).step=(if((1:Nat):Int)>(x.length:Int)-(s:Int)then{mB x s o (sn.add 24)with answer:=some false}else
  match Sre.run kC ⟨x⟩ 11 (min 4294967295 ((x.length:Int)-(s:Int)).toNat) s 0 ((sn.add 24).add 13)with
  | .error why=>{mB x s o (sn.add 24)with outcome:=some (.stuck why)}
  | .ok (n,seen)=>if n<1 then{mB x s o seen with answer:=some false}else mC x s n o seen):=by kernel_rfl
theorem KW (x:d)(s:Nat)(o:Bool)(sn:Sre.Seen):({mB x s o sn with answer:=some false}:Sre.M).step=(if s<x.length then mA x (s+1) false (some s) sn else{mB x s o sn with answer:=some false,frames:=[],weight:=0,pc:=5}):=by kernel_rfl
theorem W3 (x:d)(s n:Nat)(o:Bool)(sn:Sre.Seen):∃m',dA 5 (mC x s n o sn)=m'/\m'.outcome=some .matched/\m'.start=s/\m'.handed=s+n/\m'.marks= #[some s,some (s+n)]/\m'.lastmark=1:=by
 refine NA _ rfl ?_ ?_ ?_ ?_ ?_<;>cases o<;>kernel_rfl
end
section
open PySem.Sre PySem.Builtin.Re
def Found (x:d)(s:Nat)(m':Sre.M):Prop:=
 ((∀c∈x.drop s,bU c=false)/\m'.outcome=some .failed)\/
 ∃t g r,x.drop s=t++g++r/\(∀c∈t,bU c=false)/\(∀c∈g,bU c=true)/\g≠[]/\(∀c,r.head? =some c->bU c=false)/\
  m'.outcome=some .matched/\m'.start=s+t.length/\m'.handed=s+t.length+g.length/\m'.marks= #[some (s+t.length),some (s+t.length+g.length)]/\m'.lastmark=1
theorem go2 (x:d)(hl:x.length<=100000):∀(m s:Nat) (o:Bool) (a:Option Nat) (sn:Sre.Seen),s+m=x.length->∃k m',k<=7*(m+1)/\dA k (mA x s o a sn)=m'/\Found x s m':=by
 intro m
 induction m with
 |zero=>
  intro s o a sn h
  refine qx 4 _ (by lia) rfl (.inl ⟨by rw [mh (by lia)];simp,?_⟩)
  show(dA 3 (mA x s o a sn).step).outcome=_
  rw [KU]
  show(dA 2 (mB x s o _).step).outcome=_
  rw [KV,if_pos (by lia)]
  show(dA 1 ({mB x s o _ with answer:=some false}:Sre.M).step).outcome=_
  rw [KW,if_neg (by lia)]
  rfl
 |succ m aS=>
  intro s o a sn h
  have hs:s<x.length:=by lia
  have hn:min 4294967295 ((x.length:Int)-(s:Int)).toNat=m+1:=by lia
  refine dT (W2 x (m+1) s 0 (((sn.add 17).add 24).add 13) vn) λnw e=> ?_
  have e2:dA 2 (mA x s o a sn)=(if 0+((x.drop s).takeWhile bU).length<1 then{mB x s o nw with answer:=some false}else mC x s (0+((x.drop s).takeWhile bU).length) o nw):=by
   show(mA x s o a sn).step.step=_
   rw [KU,KV,if_neg (by lia),hn,e]
  rw [kI]at e2
  have ed:=fJ hs
  cases hb:bU x[s]with
  |false=>
   have h0:((x.drop s).takeWhile bU).length=0:=by rw [ed,Np,hb];rfl
   rw [h0,if_pos (by decide)]at e2
   refine o8 (aS (s+1) false (some s) nw (by lia)) λk m' h1 h2 h3=>
    ⟨3+k,m',by lia,?_,?_⟩
   ·rw [wi,<-h2]
    congr 1
    show dA (2+1) _=_
    rw [wi,e2]
    show({mB x s o nw with answer:=some false}:Sre.M).step=_
    rw [KW,if_pos hs]
   ·rcases h3 with⟨ha,ho⟩|⟨t,g,r,h4,h5,h6,h7,h8,h9,bT,fH,bQ,cn⟩
    ·refine .inl ⟨?_,ho⟩
     rw [ed]
     intro c hc
     rcases gr.mp hc with rfl|hc
     ·exact hb
     ·exact ha c hc
    ·refine .inr ⟨x[s]::t,g,r,?_,?_,h6,h7,h8,h9,?_,?_,?_,cn⟩
     ·rw [ed,h4];rfl
     ·intro c hc
      rcases gr.mp hc with rfl|hc
      ·exact hb
      ·exact h5 c hc
     ·rw [bT,cy];lia
     ·rw [fH,cy];lia
     ·rw [bQ,cy,show s+1+t.length=s+(t.length+1)by lia]
  |true=>
   have hg:((x.drop s).takeWhile bU).length≥1:=by rw [ed,Np,hb,if_pos rfl];simp
   rw [if_neg (by lia)]at e2
   refine GF (W3 x s ((x.drop s).takeWhile bU).length o nw) λm' h1 h2 h3 h4 h5 h6=>
    ⟨2+5,m',by lia,?_,.inr ⟨[],(x.drop s).takeWhile bU,(x.drop s).dropWhile bU,?_,?_,?_,?_,?_,h2,?_,?_,?_,h6⟩⟩
   ·rw [wi,e2,h1]
   ·rw [cZ,List.takeWhile_append_dropWhile]
   ·simp
   ·exact λc hc=>o5.mp List.all_takeWhile c hc
   ·intro q;rw [q]at hg;simp at hg
   ·intro c hc
    have:=List.head?_dropWhile_not bU (x.drop s)
    rw [hc]at this
    simpa using this
   ·rw [h3];simp
   ·rw [h4];simp
   ·rw [h5];simp
theorem W4 (x:d)(hl:x.length<=100000)(s:Nat)(hs:s<=x.length):∃k m',k<=2^60/\dA k (Sre.forSearch kC ⟨x⟩ 1 s x.length false)=m'/\Found x s m':=by
 rw [IA]
 by_cases h:s=x.length
 ·rw [if_pos (by show(decide (s>x.length)||decide (x.length-s<1))=true;simp;lia)]
  exact qx 1 _ (by decide) rfl (.inl ⟨by rw [mh (by lia)];simp,by kernel_rfl⟩)
 ·rw [if_neg (by show¬(decide (s>x.length)||decide (x.length-s<1))=true;simp;lia)]
  refine o8 (go2 x hl (x.length-s) s true none (({}:Sre.Seen).add 14) (by lia)) λk m' h1 h2 h3=>
   qx k m' (by lia) ?_ h3
  rw [<-h2]
  congr 1
end
section
open PySem.Sre PySem.Builtin.Re
noncomputable def gj:Nat->List d->bB
 |_,[]=>[]
 |t,a::l=>(a,t)::gj (t+1) l
theorem EB:∀(t:Nat) (l:List d),(gj t l).map aD=l:=by
 intro t l
 induction l generalizing t with
 |nil=>
  exact rfl
 |cons a l aS=>
  show a::_=_;rw [aS (t+1)]
theorem W5:∀(t:Nat) (l m:List d),gj t (l++m)=gj t l++gj (t+l.length) m:=by
 intro t l
 induction l generalizing t with
 |nil=>
  intro m
  exact rfl
 |cons a l aS=>
  intro m
  show(a,t)::gj (t+1) (l++m)=(a,t)::(gj (t+1) l++_)
  rw [aS (t+1) m,cy,show t+1+l.length=t+(l.length+1)by lia]
section
variable {V:EV}{Γ:bd}{p:aw}
theorem W6 (x:d)(h:x.length<=100000):ax V Γ p (mkStr ⟨⟨x⟩⟩) C (.ok (Z x C.J)) p ⟨C.L,C.T,C.N,C.J+1,C.ai,C.U⟩:=λs R=>by
 refine da ({s with toks:=s.toks+1}) (R.tick 1 rfl rfl bH) (λae ak gd lv e ee q=> ?_)
 have hs:s.toks=C.J:=R.toks
 have key:mkStr (⟨⟨x⟩⟩:Str)= .fresh λt=> .pure (Z x t):=by
  show(if(⟨⟨x⟩⟩:Str).length>sizeLine then _ else _:Sem ay)=_
  rw [if_neg (by show¬x.length>2^24;lia)]
  rfl
 rw [key]
 rw [<-hs]at q
 exact .fresh q
theorem W7 (x:d)(b e:Nat):(⟨x⟩:Array Nat).extract b e=⟨(x.drop b).take (e-b)⟩:=by
 apply Array.ext'
 simp [M6]
theorem EC (x:d)(h:x.length<=100000)(b e:Nat)(y:d)(hy:(x.drop b).take (e-b)=y):ax V Γ p (reSlice ⟨x⟩ 0 b e) C (.ok (Z y C.J)) p ⟨C.L,C.T,C.N,C.J+1,C.ai,C.U⟩:=by
 show ax V Γ p (mkStr ⟨(⟨x⟩:Array Nat).extract b e⟩) C _ p _
 rw [W7,hy]
 exact W6 y (by rw [<-hy,mj,na];lia)
noncomputable abbrev nU:=Array ay×Nat×Nat×Bool×Int×Bool
section
variable {f:Nat->nU->Sem (ForInStep nU)}(h1:∀i aB s last i0 n,f i (aB,s,last,i0,n,true)=Pure.pure (ForInStep.yield (aB,s,last,i0,n,true)))
include h1
theorem W8:∀(l:d) aB s last i0 n,ax V Γ p (forIn l ((aB,s,last,i0,n,true):nU) f) C (.ok (aB,s,last,i0,n,true)) p C:=by
 intro l
 induction l with
 |nil=>
  intro _ _ _ _ _
  rw [List.forIn_nil];exact ax.pure
 |cons i l aS=>
  intro aB s last i0 n
  rw [BR,h1]
  exact aS aB s last i0 n
theorem W9 (h2:∀i aB s n J m',s<=x.length->(∃k,k<=2^60/\dA k (Sre.forSearch kC ⟨x⟩ 1 s x.length false)=m')->(∀c∈x.drop s,bU c=false)->m'.outcome=some .failed->ax V Γ p (f i (aB,s,s,false,n,false)) ⟨[],[],N,J,[],U⟩ (.ok (ForInStep.yield (aB,s,s,false,n,true))) p ⟨[],[],N,J,[],U⟩)(h3:∀i aB s n J m' t g r,s<=x.length->(∃k,k<=2^60/\dA k (Sre.forSearch kC ⟨x⟩ 1 s x.length false)=m')->x.drop s=t++g++r->g≠[]-> m'.outcome=some .matched->m'.start=s+t.length->m'.handed=s+t.length+g.length->m'.marks= #[some (s+t.length),some (s+t.length+g.length)]->m'.lastmark=1-> ax V Γ p (f i (aB,s,s,false,n,false)) ⟨[],[],N,J,[],U⟩ (.ok (ForInStep.yield ((aB.push (Z t J)).push (Z g (J+1)),s+t.length+g.length,s+t.length+g.length,false,n+1,false))) p ⟨[],[],N,J+2,[],U⟩)(hl:x.length<=100000):∀(l:d) (aB:Array ay) (s:Nat) (n:Int) (J:Nat),s<=x.length->x.length-s+1<=l.length-> ∃(L:List d) (last:Nat) (n':Int),last<=x.length/\nT (x.drop s) (L++[x.drop last])/\L.length<=2*(x.length-s)/\ax V Γ p (forIn l ((aB,s,s,false,n,false):nU) f) ⟨[],[],N,J,[],U⟩ (.ok (aB++(aR (gj J L)).toArray,last,last,false,n',true)) p ⟨[],[],N,J+L.length,[],U⟩:=by
 intro l
 induction l with
 |nil=>
  intro aB s n J hs hn
  simp at hn
 |cons i l aS=>
  intro aB s n J hs hn
  refine o8 (W4 x hl s hs) λk m' hk e hf=> ?_
  rcases hf with⟨ha,ho⟩|⟨t,g,r,q1,G,q3,q4,q5,q6,q7,q8,q9,mD⟩
  ·refine og [] s n hs (.last ha) (fv _) ?_
   rw [BR]
   refine ax.bind (h2 i aB s n J m' hs ⟨k,hk,e⟩ ha ho) ?_
   have:=W8 (V:=V) (Γ:=Γ) (p:=p) (C:=⟨[],[],N,J,[],U⟩) h1 l aB s s false n
   simpa [aR,gj]using this
  ·have b6:=congrArg dn q1
   rw [na,ci,ci]at b6
   have hg:g.length≥1:=nb.mpr q4
   have hd:x.drop (s+t.length+g.length)=r:=by
    rw [kJ,<-Nc,q1,<-ci,List.drop_left]
   refine xZ (aS ((aB.push (Z t J)).push (Z g (J+1))) (s+t.length+g.length) (n+1) (J+2) (by lia) (by rw [cy]at hn;lia)) λL last n' w1 w2 w4 w3=>
    ⟨t::g::L,last,n',w1,?_,by rw [cy,cy];lia,?_⟩
   ·rw [q1]
    rw [hd]at w2
    exact .cut G q3 q4 q5 w2
   ·rw [BR]
    refine ax.bind (h3 i aB s n J m' t g r hs ⟨k,hk,e⟩ q1 q4 q6 q7 q8 q9 mD) ?_
    have e1:aB++(aR (gj J (t::g::L))).toArray=(aB.push (Z t J)).push (Z g (J+1))++(aR (gj (J+2) L)).toArray:=by
     apply Array.ext'
     simp [gj,aR]
    rw [e1,show J+(t::g::L).length=J+2+L.length by simp;lia]
    exact w3
end
end
end
section
open PySem.Sre PySem.Builtin.Re
noncomputable def xa (P:aF)(x:d)(t:Nat):ReTarget:=⟨.ref 49,Z x t,fD P 48,⟨x⟩,0,1,0,(⟨x⟩:Array Nat).size⟩
theorem Xa (x:d)(t:Nat):aE w Γ p (reWholeTarget (.ref 49) (Z x t)) ⟨[],[],N,J,[],U⟩ (.ok (xa w.P x t)) p ⟨[],[],N,J,[],U⟩:=
 ax.of (aT w) (n:=100) (m:=10) 0 [] [] [] [] (by kernel_rfl)
theorem Xb (Y:LV)(h:Y.length<=100000):aE w Γ p (newList Y) ⟨[],[],N,J,[],U⟩ (.ok (.ref N)) p ⟨[(N,aq Y 0)],[],N+1,J,[],U⟩:=by
 unfold newList newObj
 dsimp only
 rw [if_neg (by show¬Y.length>2^24;lia)]
 exact ax.of (aT w) (n:=100) (m:=10) 0 [] [0] [] [] (by kernel_rfl)
theorem ax.ED {X:Type}{m:Sem X}{k:X->SF}{x:X}{Q:α->Prop}{R:α->ig}{D:α->aC}(h1:ax V Γ p m C (.ok x) p₁ bq)(h2:∃a,Q a/\cW V Γ p₁ (k x) bq (R a) (D a)):∃a,Q a/\cW V Γ p (m>>=k) C (R a) (D a):=by
 refine bX (h2) λa h3 h4=>
  da a h3 (ax.c6 h1 h4)
theorem Xc (x:d)(t:Nat)(hl:x.length<=10000):∃L,nT x L/\ aP w Γ p ((VV w).M.den (.builtin "re.Pattern.split" ⟨[.ref 49,Z x t],[]⟩)) ⟨[],[],N,J,[],U⟩ (.ok (.ret (.ref N))) ⟨[(N,aq (aR (gj J L)) 0)],[],N+1,J+L.length,[],U⟩:=by
 rw [CQ (B:=Builtin.«re.Pattern.split») (kK (by kernel_rfl))]
 unfold Builtin.«re.Pattern.split»
 have ec:fD w.P 48=kC:=WX _
 have nf:∀(s:Nat) (m':Sre.M) (C:aC) (b:Bool),(∃k,k<=2^60/\dA k (Sre.forSearch kC ⟨x⟩ 1 s x.length false)=m')->m'.outcome=some (if b then .matched else .failed)->aE w Γ p (reNextFound (xa w.P x t) s false) C (.ok (if b then some m' else none)) p C:=λs m' C b ⟨k,hk,e⟩ ho=>by
  show ax _ _ _ (reRunToEnd (Sre.forSearch (fD w.P 48) ⟨x⟩ 1 s x.length false)) _ _ _ _
  rw [ec]
  exact C2 ho hk e
 refine ax.ED (x:=[some (Z x t),none]) (p₁:=p) (bq:=⟨[],[],N,J,[],U⟩) (ax.of (aT w) (n:=100) (m:=10) 0 [] [] [] [] (by kernel_rfl)) ?_
 refine ax.ED (bq:=⟨[],[],N,J,[],U⟩) ax.pure ?_
 refine ax.ED (Xa x t) ?_
 have fin:∀{m:Sem nU} {k:nU->SF},(∃(L:List d) (last:Nat) (n':Int),last<=x.length/\nT x (L++[x.drop last])/\L.length<=99999/\aE w Γ p m ⟨[],[],N,J,[],U⟩ (.ok (#[]++(aR (gj J L)).toArray,last,last,false,n',true)) p ⟨[],[],N,J+L.length,[],U⟩)->
   (∀(aB:Array ay) (last:Nat) (n':Int),k (aB,last,last,false,n',true)=(reSlice ⟨x⟩ 0 last x.length>>=λv=>newList (aB.push v).toList>>=λl=>PySem.ret l))->
   ∃L,nT x L/\aP w Γ p (m>>=k) ⟨[],[],N,J,[],U⟩ (.ok (.ret (.ref N))) ⟨[(N,aq (aR (gj J L)) 0)],[],N+1,J+L.length,[],U⟩:=by
  intro m k h hk
  refine xZ h λL last n' w1 w2 w4 w3=> ?_
  refine da (L++[x.drop last]) w2 (ax.c6 w3 ?_)
  rw [hk]
  refine ax.c6 (EC x c5 last x.length (x.drop last) (by rw [<-na,xU])) ?_
  have e:((#[]++(aR (gj J L)).toArray).push (Z (x.drop last) (J+L.length))).toList=aR (gj J (L++[x.drop last])):=by
   rw [W5]
   simp [aR,gj]
  show cW _ _ _ (newList ((#[]++(aR (gj J L)).toArray).push (Z (x.drop last) (J+L.length))).toList>>=_) _ _ _
  rw [e]
  refine ax.c6 (Xb _ ?_) ?_
  ·delta aR
   rw [bA]
   have:=congrArg dn (EB J (L++[x.drop last]))
   rw [bA]at this
   rw [this,ci,o7]
   lia
  ·rw [ci,o7,<-kJ]
   exact cW.none
 have Xd:∀{f:Nat->nU->Sem (ForInStep nU)} {k:nU->SF},(∀i aB s last i0 n,f i (aB,s,last,i0,n,true)=Pure.pure (ForInStep.yield (aB,s,last,i0,n,true)))->
   (∀i aB s n J m',s<=x.length->(∃k,k<=2^60/\dA k (Sre.forSearch kC ⟨x⟩ 1 s x.length false)=m')->(∀c∈x.drop s,bU c=false)->m'.outcome=some .failed->aE w Γ p (f i (aB,s,s,false,n,false)) ⟨[],[],N,J,[],U⟩ (.ok (ForInStep.yield (aB,s,s,false,n,true))) p ⟨[],[],N,J,[],U⟩)->
   (∀i aB s n J m' t g r,s<=x.length->(∃k,k<=2^60/\dA k (Sre.forSearch kC ⟨x⟩ 1 s x.length false)=m')->x.drop s=t++g++r->g≠[]->
   m'.outcome=some .matched->m'.start=s+t.length->m'.handed=s+t.length+g.length->m'.marks= #[some (s+t.length),some (s+t.length+g.length)]->m'.lastmark=1->
   aE w Γ p (f i (aB,s,s,false,n,false)) ⟨[],[],N,J,[],U⟩ (.ok (ForInStep.yield ((aB.push (Z t J)).push (Z g (J+1)),s+t.length+g.length,s+t.length+g.length,false,n+1,false))) p ⟨[],[],N,J+2,[],U⟩)->
   (∀(aB:Array ay) (last:Nat) (n':Int),k (aB,last,last,false,n',true)=(reSlice ⟨x⟩ 0 last x.length>>=λv=>newList (aB.push v).toList>>=λl=>PySem.ret l))->
   ∃L,nT x L/\aP w Γ p (forIn (BV (reMostMatches (xa w.P x t))) ((#[],0,0,false,0,false):nU) f>>=k) ⟨[],[],N,J,[],U⟩ (.ok (.ret (.ref N))) ⟨[(N,aq (aR (gj J L)) 0)],[],N+1,J+L.length,[],U⟩:=λ{f k} h1 h2 h3 hk=>by
  refine fin ?_ hk
  refine xZ (W9 h1 h2 h3 c5 (BV (reMostMatches (xa w.P x t))) #[] 0 0 J (fv _) (by rw [List.length_range];show x.length-0+1<=2*x.length+3;lia)) λL last n' w1 w2 w4 w3=>
   og L last n' w1 w2 (by lia) w3
 refine Xd (λi aB s last i0 n=>rfl) (λi aB s n J m' hs hk ha ho=> ?_) (λi aB s n J m' y g r hs hk hd hg ho e1 e2 e3 e4=> ?_) (λaB last n'=>rfl)
 ·refine ax.bind (nf s m' _ false hk ho) ?_
  exact ax.pure
 ·have em:(m'.handed==m'.start)=false:=by
   have:=nb.mpr hg
   rw [e1,e2]
   simp
   lia
  refine ax.bind (nf s m' _ true hk ho) ?_
  refine ax.bind (EC x c5 s m'.start y (by rw [e1,hd,bK,show s+y.length-s=y.length by lia,List.take_left])) ?_
  have fS:aE w Γ p (reMachineGroup (xa w.P x t) m' 1 (Pure.pure .none)) ⟨[],[],N,J+1,[],U⟩ (.ok (Z g (J+1))) p ⟨[],[],N,J+1+1,[],U⟩:=by
   delta reMachineGroup
   rw [e3,e4,if_neg (by decide)]
   show ax _ _ _ (if s+y.length+g.length<s+y.length then _ else reSlice ⟨x⟩ 0 (s+y.length) (s+y.length+g.length)) _ _ _ _
   rw [if_neg (by lia)]
   exact EC x c5 _ _ g (by rw [<-Nc,hd,bK,List.drop_left,show s+y.length+g.length-(s+y.length)=g.length by lia,List.take_left])
  refine ax.bind (x:=(aB.push (Z y J)).push (Z g (J+1))) (p₁:=p) (bq:=⟨[],[],N,J+2,[],U⟩) ?_ ?_
  ·refine ax.bind (bq:=⟨[],[],N,J+2,[],U⟩) (ax.bind fS ax.pure) ?_
   exact ax.pure
  ·show ax _ _ _ (Pure.pure (ForInStep.yield ((aB.push (Z y J)).push (Z g (J+1)),m'.handed,m'.handed,m'.handed==m'.start,n+1,false))) _ _ _ _
   rw [em,e2]
   exact ax.pure
end
theorem Xe (Y us:LV)(e:Nat)(f:Array ay->Array ay)(hf:f ⟨Y⟩=⟨us⟩):Obj.mapSeq f (aq Y e)=aq us (eL Y.length us.length e):=by
 delta aq Obj.mapSeq
 dsimp only
 rw [hf]
 rfl
theorem KX {us:LV}{L:aJ}(R:Rep V (cf ((A,aq Y e)::L) s) s)(f:Array ay->Array ay)(hf:f ⟨Y⟩=⟨us⟩):Good V (cf ((A,aq Y e)::L) s) ⟨(A,aq us (eL Y.length us.length e))::L,[],s.heap.objs.size,s.toks,[],s.gens.size⟩ s {s with heap:=s.heap.update A (Obj.mapSeq f)}:=by
 have hm:=Xe Y us e f hf
 exact R.upd (.refl _) (by rw [hm];exact .refl _) (by rw [hm];rfl) rfl bH
theorem Xf (sl l r e e2 ta:Nat)(Y:LV)(v:ay)(rn:Y.length<=100000):Bi (VV w) 0 (bV false "list.__setitem__" ⟨[.ref l,.ref sl,.ref r],[]⟩) [(l,aq Y e),(sl,rec "slice" [.none,.int (O 0) ta,.none]),(r,aq [v] e2)] (λN=>[(l,aq (v::Y) (e+1)),(sl,rec "slice" [.none,.int (O 0) ta,.none]),(r,aq [v] e2)]) (λN _=> .ok (.ret .none)) 0 0:=by
 refine dO λA s _ _ _ _ R=>dX (by decide+kernel) F.entry_list_setitem ?_
 have ho:=R.led _ (.head _)
 have dp:=R.led _ (.tail _ (.head _))
 have wM:=R.led _ (.tail _ (.tail _ (.head _)))
 have mF:s.TypeIs (.ref sl) "slice":=⟨_,dp,rfl⟩
 have DC:s.TypeIs (.ref r) "list":=⟨_,wM,rfl⟩
 have bD:l≠r:=by
  have:=R.nd
  simp [cf,aC.all]at this
  exact this.1.2
 show wpAny (model _ _) _ (Builtin.List.listSubscript? (.ref sl)>>=_) _ _ s
 refine bf ?_
 delta Builtin.List.listSubscript?
 refine bf (wpAny_specialOf mF slice_no_index ?_)
 simp only [Gm,if_true]
 refine dh ?_
 show wpAny _ _ (typeOf (.ref sl)>>=_) _ _ s
 refine bf (wpAny_typeOf mF ?_)
 refine wpAny_ite_false rfl ?_
 rw [listSliceParts_eq]
 refine bf (bf (fI dp rfl rfl (bf (m7 .none ?_))))
 refine wpAny_ite_false rfl ?_
 refine bf (fI dp rfl rfl (bf (m7 .none ?_)))
 refine bf (fI dp rfl rfl (bf (m7 (wg (some 0) ta) (dh ?_))))
 have h1:Builtin.List.listSameRef (.ref l) (.ref r)=false:=by simp [Builtin.List.listSameRef,bD]
 refine wpAny_ite_false (decide_eq_false (by rw [h1];exact qu)) ?_
 delta Builtin.List.listAllItems
 refine bf (bf (wpAny_typeOf DC ?_))
 refine wpAny_ite_true rfl ?_
 delta Builtin.List.listItems
 refine bf (lj wM rfl (dh ?_))
 refine bf (bf (lj ho rfl (dh ?_)))
 refine bf (wpAny_of_eq (sliceIndices_raw none (some (O 0)) none Y.length (by simp)) ?_)
 have hb:sliceBounds none (some (O 0)) none Y.length=(0,0,1):=by
  delta sliceBounds
  simp
  lia
 rw [hb]
 dsimp only
 refine wpAny_ite_true rfl ?_
 refine bf (wpAny_rule ?_)
 have DD:Builtin.List.listTooLong ((⟨Y⟩:Array ay).size+(⟨[v]⟩:Array ay).size)=false:=by
  delta Builtin.List.listTooLong
  refine decide_eq_false ?_
  show¬(Y.length+1>2^24)
  lia
 rw [DD,if_neg qu]
 have hf:(λxs:Array ay=>xs.extract 0 (0:Int).toNat++⟨[v]⟩++xs.extract (max 0 0:Int).toNat) ⟨Y⟩=(⟨v::Y⟩:Array ay):=by
  apply Array.ext'
  simp
 have up:=KX R (λxs:Array ay=>xs.extract 0 (0:Int).toNat++⟨[v]⟩++xs.extract (max 0 0:Int).toNat) hf
 have EE:eL Y.length (v::Y).length e=e+1:=by rw [cy];exact JT _ _
 rw [EE]at up
 have hz:(⟨Y⟩:Array ay).size<=sizeLine:=by show Y.length<=2^24;lia
 have AA:((λxs:Array ay=>xs.extract 0 (0:Int).toNat++⟨[v]⟩++xs.extract (max 0 0:Int).toNat) ⟨Y⟩).size<=sizeLine+1:=by
  rw [hf]
  show(v::Y).length<=2^24+1
  rw [cy]
  lia
 show wpAny _ _ (updateSeq l _>>=_) _ _ s
 refine bf (wpAny_updateSeq ho rfl ?_ hz AA)
 refine bf (wpAny_letGo ?_)
 exact dh ⟨rfl,up⟩
noncomputable def Xg (w:WB)(aH:d)(sl l r e e2 ta:Nat){Y:LV}(v:ay)(rn:Y.length<=100000):aM w:= .bi _ _ _ _ aH _ _ _ _ _ (Xf sl l r e e2 ta Y v rn)
section
open PySem.SeqAt
theorem Xh (a b:Nat)(v1 v2:ay):Bi (VV w) 0 (bV false "list.__iadd__" ⟨[.ref a,.ref b],[]⟩) [(a,aq [] 0),(b,aq [v1,v2] 0)] (λ_=>[(a,aq [v1,v2] 1),(b,aq [v1,v2] 0)]) (λ_ _=> .ok (.ret (.ref a))) 0 0:=by
 refine dO λA s _ _ _ _ R=>dX (by decide+kernel) F.entry_list_iadd ?_
 have ha:s.heap.get? a=some (aq [] 0):=R.led _ (.head _)
 have hb:s.heap.get? b=some (aq [v1,v2] 0):=R.led _ (.tail _ (.head _))
 have bD:a≠b:=by
  have:=R.nd
  simp [cf,aC.all]at this
  exact this
 have h1:Builtin.List.listSameRef (.ref a) (.ref b)=false:=by simp [Builtin.List.listSameRef,bD]
 have hT:s.TypeIs (.ref b) "list":=⟨_,hb,rfl⟩
 have up:=R.upd (C':=cf [(a,aq [v1,v2] 1),(b,aq [v1,v2] 0)] s) (f:=Obj.mapSeq λxs=>xs++ #[v1,v2]) (A:=[(b,aq [v1,v2] 0)]) (.refl _) (.refl _) rfl rfl bH
 wp_walk using AutoSeq1.wpAny_loadPart' ha,AutoSeq1.wpAny_loadPart' hb
 exact⟨rfl,up⟩
noncomputable def Xi (w:WB)(aH:d)(a b:Nat)(v1 v2:ay):aM w:= .bi _ _ _ _ aH _ _ _ _ _ (Xh a b v1 v2)
end
noncomputable def kZ (h:ay)(A R:Nat):az:=rec "zip" [h,.bool false,.bool false,.ref A,.ref R]
noncomputable def KY (ag A R I l e i:Nat)(o1 o2:ay)(Y:LV)(N J U:Nat):aC:=⟨[(ag,kZ .none A R),(A,aG [.ref I,.ref I]),(R,aG [o1,o2]),(I,bM l i),(l,aq Y e)],[],N,J,[],U⟩
theorem Xj {ag R:Nat}{o2:ay}{c:bL}(hx:Y[i]? =some v1)(hy:Y[i+1]? =some v2):aE w ⟨c,none,own,below,past⟩ p (dP (.ref ag)) (KY ag A R I l e i o1 o2 Y N J U) (.ok (dv (.ref N))) p ⟨[(ag,kZ (ft N) A R),(A,aG [.ref I,.ref I]),(R,aG [v1,v2]),(I,bM l (i+1+1)),(l,aq Y e),(N,aG [v1,v2])],[],(N+1),J,[],U⟩:=
 w1 0x5ad6b7bdef7a97bdef565aa8d49 [c9 w [3,3] I l e hx,c9 w [0,0] I l e hy] [3,3,3,1,1,0]
theorem Xk {ag R:Nat}{o2:ay}{c:bL}(hx:Y[i]? =none):aE w ⟨c,none,own,below,past⟩ p (dP (.ref ag)) (KY ag A R I l e i o1 o2 Y N J U) (.ok kL) p ⟨[(ag,kZ .none A R),(A,aG [.ref I,.ref I]),(R,aG [o1,o2]),(I,eY i),(l,aq Y e)],[],(N+2),J,[],U⟩:=
 w1 0x5ef565aa8d49 [gz w [3,3] I l e hx] [4,4,4,2,2]
noncomputable def KZ:d:=[112,97,114,116,115]
noncomputable def Xl:d:=[112,97,114,116]
noncomputable def K0:d:=[115,116,114,105,110,103]
noncomputable def K1:d:=[115,112,108,105,116,99,104,97,114,115]
noncomputable def jY (P:aF)(a1 H z k3 k4 k5 l tx ts:Nat)(x sg:d)(vf:ay):Option (Nat×ay)->az
 |none=>bz [de P gf H (.ref a1),de P mV z vf,de P K0 k3 (Z x tx),de P K1 k4 (Z sg ts),de P KZ k5 (.ref l)] 5
 |some kv=>bz [de P gf H (.ref a1),de P mV z vf,de P K0 k3 (Z x tx),de P K1 k4 (Z sg ts),de P KZ k5 (.ref l),de P Xl kv.1 kv.2] 6
noncomputable def iq (P:aF):Stmt:=dW (cw P 112) 2
noncomputable def EF (P:aF)(F ag T:Nat):SF:=wt (fP (iq P)) (.ref ag) (inner (iq P)) (orelse (iq P)) (eQ P 112 F []) (.ref T)
noncomputable def nV (P:aF)(F ag K:Nat)(q1 G:aw):bd:=⟨nM P F ag,none,none,dB P 112 F q1 (cO P K G),none⟩
def A3 (w:WB)(F ag K a1 a2 A D aj ea ki ini ti ei el tg ty N J U:Nat)(g y:d)(vd:az)(Y ls:LV)(t1 t2:az)(Sg:aJ)(lU lV ti' lW lX jx N' au br:Nat)(lY lZ:LV)(u1 u2:az)(ko:aJ)(q q1 G p:aw):Prop:=
 aP w ⟨.call (.ref 119) ⟨[.ref a1,Z g tg,Z y ty],[]⟩,none,none,DE w.P F ag K q q1 G,none⟩ p ((VV w).M.den (.call (.ref 119) ⟨[.ref a1,Z g tg,Z y ty],[]⟩))
  ⟨[(D,cq w.P ki ini ti ei),(aj,aq ls el),(168,t1),(175,t2)]++iL a1 a2 A D ea vd Y,[Sg],N,J,[],U⟩ (.ok (.ret .none)) ⟨[(D,cq w.P lU lV ti' lW),(aj,aq lZ lX),(168,u1),(175,u2)]++iL a1 a2 A D jx vd lY,[ko],N',au,[],br⟩
noncomputable def K2 (w:WB)(aH bt:d)(F ag K a1 a2 A D aj ea ki ini ti ei el tg ty N J U:Nat)(g y:d)(vd:az)(Y ls:LV)(t1 t2:az)(Sg:aJ)(lU lV ti' lW lX jx N' au br:Nat)(lY lZ:LV)(u1 u2:az)(ko:aJ)(q q1 G p:aw) (h:A3 w F ag K a1 a2 A D aj ea ki ini ti ei el tg ty N J U g y vd Y ls t1 t2 Sg lU lV ti' lW lX jx N' au br lY lZ u1 u2 ko q q1 G p):aM w:=
 .fn _ _ aH bt [] _ _ _ h
noncomputable def atC (P:aF)(m:Fm)(F:Nat)(fr:az)(ki ini ti ei ea el:Nat)(Y ls:LV)(t1 t2:az)(X Sg:aJ)(N J U:Nat):aC:=⟨(F,fr)::X++([(m.B+962+4,cq P ki ini ti ei),(m.B+962+3,aq ls el),(168,t1),(175,t2)]++iK P m ea Y),[Sg],N,J,[],U⟩
section
variable {F ag:Nat}{g:d}{t1:az}(b0:A3 w F ag K (m.B+962+1) (m.B+962) (m.B+962+5) (m.B+962+4) (m.B+962+3) ea ki ini ti ei el tg ty (N+3) (J+2) U g y (Fm.obj w.P m) Y ls t1 t2 Sg vN vO vP vQ vR vT qK qM vU wb wc vZ wa vX kj q1 G kj)
include b0
theorem Xm:aE w (nV w.P F ag K q1 G) p (EF w.P F ag T) (atC w.P m F (jY w.P (m.B+962+1) H z k3 k4 k5 l tx ts x sg vf none) ki ini ti ei ea el Y ls t1 t2 [(T,aG [Z g tg,Z y ty])] Sg N J U) (.ok (.again (nM w.P F ag))) kj (atC w.P m F (jY w.P (m.B+962+1) H z k3 k4 k5 l tx ts x sg (Z g tg) (some ((J+1),(Z y ty)))) vN vO vP vQ vT vR wb wc vZ wa [] vX qK qM vU):=
 by revert w;exact @(eH 0x96b5fd5f057c2be15f5ad6b5aa75254ea4a9d49430c63 (λw b0=>[K2 w [5,5,5,5,5,5,5] [0] F ag K (m.B+962+1) (m.B+962) (m.B+962+5) (m.B+962+4) (m.B+962+3) ea ki ini ti ei el tg ty (N+3) (J+2) U g y (Fm.obj w.P m) Y ls t1 t2 Sg vN vO vP vQ vR vT qK qM vU wb wc vZ wa vX kj q1 G kj b0]) [10,0,0,0,0,0,0,0] [0])
theorem Xn:aE w (nV w.P F ag K q1 G) p (EF w.P F ag T) (atC w.P m F (jY w.P (m.B+962+1) H z k3 k4 k5 l tx ts x sg vf (some (k6,v6))) ki ini ti ei ea el Y ls t1 t2 [(T,aG [Z g tg,Z y ty])] Sg N J U) (.ok (.again (nM w.P F ag))) kj (atC w.P m F (jY w.P (m.B+962+1) H z k3 k4 k5 l tx ts x sg (Z g tg) (some (k6,(Z y ty)))) vN vO vP vQ vT vR wb wc vZ wa [] vX qK qM vU):=
 by revert w;exact @(eH 0x96b5fd5f057c2be15f5ad6b5aa75254ea4a9d49430c63 (λw b0=>[K2 w [5,5,5,5,5,5,5] [0] F ag K (m.B+962+1) (m.B+962) (m.B+962+5) (m.B+962+4) (m.B+962+3) ea ki ini ti ei el tg ty (N+3) (J+2) U g y (Fm.obj w.P m) Y ls t1 t2 Sg vN vO vP vQ vR vT qK qM vU wb wc vZ wa vX kj q1 G kj b0]) [10,0,0,0,0,0,0,0] [0])
end
theorem A4:∀(ks:b8) (j:Nat),(hS ks)[2*j]? =ks[j]?.map aD/\(hS ks)[2*j+1]? =ks[j]?.map iu
 |[],j=>by simp [hS]
 |k::ks,0=>by simp [hS]
 |k::ks,j+1=>by
  have:=A4 ks j
  have e:hS (k::ks)=k.1::k.2::hS ks:=rfl
  rw [e,show 2*(j+1)=2*j+1+1 by lia,show 2*j+1+1+1=(2*j+1)+1+1 by lia]
  simp only [List.getElem?_cons_succ]
  exact this
theorem K3:∀(ks:b8),(hS ks).length=2*ks.length:=by
 intro ks
 induction ks with
 |nil=>
  exact rfl
 |cons k ks aS=>
  have e:hS (k::ks)=k.1::k.2::hS ks:=rfl
  rw [e,cy,cy,aS,cy]
  lia
theorem Xo:∀(u:d) (b:Nat),(∀x∈u,b<=x/\x<j)->u.Pairwise (·< ·)->u.length<=j-b:=by
 intro u
 induction u with
 |nil=>
  intro _ _ _
  exact fv _
 |cons x r aS=>
  intro b h hp
  have hx:=h x (.head _)
  have:=aS (b+1) (λy hy=>⟨by have:=(iw.mp hp).1 y hy;lia,(h y (.tail _ hy)).2⟩) (iw.mp hp).2
  rw [cy]
  lia
theorem Xp (ae:b8):∀(u:d),(eC ae u).length<=u.length:=by
 intro u
 induction u with
 |nil=>
  exact b7 _
 |cons a rq aS=>
  cases rq with
  |nil=>
   exact fv _
  |cons b r=>
   show(eC ae (b::r)).length+1<=(b::r).length+1
   have:=aS
   lia
theorem K4 {ae:b8}{u:d}{s:FS}(I:ri ae pre u j s):s.lines.length<=pre.length+j:=by
 have h1:=Xp ae u
 have h2:=Xo u 0 (λx hx=>⟨fv _,Gw (rj I.mono x hx) I.lt⟩) I.mono
 rw [I.lines,ci]
 lia
theorem Xq (ks:b8):∀k∈iI ks,(k∈ks)\/∃x∈ks,k=((if x.1=[]then [32]else x.1),x.2):=by
 cases ks with
 |nil=>intro k hk;cases hk
 |cons x r=>
  intro k hk
  rcases gr.mp hk with rfl|hk
  ·exact .inr ⟨x,.head _,rfl⟩
  ·exact .inl (.tail _ hk)
theorem Xr {st:d}{s:FS}(I:Inv ks head st j s):∃ae a,(ae=ks\/ae=iI ks)/\s.cur=(ae.take j).drop a/\(a<j\/j=0)/\(0<s.ini->s.cur=ks.take j)/\s.ini<=head/\s.lines.length<=j+1:=by
 rcases I with⟨rfl,rfl⟩|⟨hl,hh,I⟩|⟨u,rfl,hh,I⟩
 ·exact B3 ks 0 (.inl rfl) rfl (by lia) (λ_=>rfl) (b7 _) (fv _)
 ·exact B3 ks _ (.inl rfl) I.cur (.inl I.lt) (λh=>absurd h (by rw [I.ini];lia)) (by rw [I.ini];lia) (by have:=K4 I;simp at this;lia)
 ·exact B3 (iI ks) _ (.inr rfl) I.cur (.inl I.lt) (λh=>absurd h (by rw [I.ini];lia)) (by rw [I.ini];lia) (by have:=K4 I;simp at this;lia)
theorem Xs {f:dm}{st:d}(I:Inv ks head st j f.fs)(hj:j<ks.length)(hk:ks.length<=45)(cK:∀k∈ks,k.1.length<=1000/\k.2.length<=1000)(h0:∀k,ks[0]? =some k->k.1=[])(h1:∀i k,ks[i+1]? =some k->k.1≠[])(hp:∀k∈ks,k.2≠[])(hh:head<=900)(ok:nR f)(hs:∀c∈m.sg,c<128)(fT:m.sg≠[]):Ex f m ks[j].1 ks[j].2:=by
 refine Nv (Xr I) λae a hK hc ha hi rC hl=> ?_
 have Uz:ae.length=ks.length:=by
  rcases hK with rfl|rfl
  ·rfl
  ·exact(p6 ks).1
 have Xt:∀i,i≠0->ae[i]? =ks[i]? :=by
  rcases hK with rfl|rfl
  ·exact λ_ _=>rfl
  ·exact(p6 ks).2.1
 have EG:∀k∈ae,k.1.length<=1000/\k.2.length<=1000/\k.2≠[]:=by
  intro k A5
  rcases hK with rfl|rfl
  ·exact⟨(cK k A5).1,(cK k A5).2,hp k A5⟩
  ·rcases Xq ks k A5 with h|⟨x,hx,rfl⟩
   ·exact⟨(cK k h).1,(cK k h).2,hp k h⟩
   ·refine⟨?_,(cK x hx).2,hp x hx⟩
    dsimp only
    split
    ·simp
    ·exact(cK x hx).1
 have EH:f.us.map TU.key=(ae.take j).drop a:=hc
 have mO:∀v∈f.us,v.key∈ae:=λv hv=>by
  have:v.key∈f.us.map TU.key:=j8 hv
  rw [EH]at this
  exact sa (sb this)
 have b6:f.us.length<=j-a:=by
  have:=congrArg dn EH
  rw [bA,na,mj]at this
  lia
 have Xu:=gt hj
 refine⟨ok,by lia,λv hv=>⟨(EG _ (mO v hv)).1,(EG _ (mO v hv)).2.1⟩,cK _ Xu,λv hv=>(EG _ (mO v hv)).2.2,λi h=> ?_,λh=> ?_,λh h2=> ?_,iR rC hh,?_,hs,fT⟩
 ·have e:(f.us.map TU.key)[i+1]? =some f.us[i+1].key:=by rw [iv,cm h];rfl
  rw [EH,BQ,M9 (by lia),Xt _ (by lia)]at e
  exact h1 (a+i) _ (by rw [<-e];rfl)
 ·have:0<f.us.length:=nb.mpr h
  obtain⟨j',rfl⟩:∃j',j=j'+1:=⟨j-1,by lia⟩
  exact h1 j' _ (cm hj)
 ·have:=hi h2
  have wj:f.fs.cur=[]:=by show f.us.map TU.key=[];rw [h];rfl
  rw [wj]at this
  have:=congrArg dn this
  rw [mj]at this
  have JK:j=0:=by rw [xT]at this;lia
  subst JK
  exact h0 _ (cm hj)
 ·have:f.ls.length=f.fs.lines.length:=by show _=(f.ls.map aD).length;rw [bA]
  lia
noncomputable def K5 (P:aF):Expr:= .Tuple (rc (fP (iq P))) (rd (fP (iq P))) (jv (fP (iq P)))
theorem Xv (P:aF):fP (iq P)=K5 P:=by kernel_rfl
theorem EI (P:aF)(F ag:Nat):nM P F ag= .forLoop (K5 P) (.ref ag) (inner (iq P)) (orelse (iq P)) (eQ P 112 F []):=by kernel_rfl
noncomputable def dm.led (P:aF)(m:Fm)(f:dm):aJ:=[(m.B+962+4,cq P f.ki f.ini f.ti f.ei),(m.B+962+3,aq (aR f.ls) f.el),(168,f.t1),(175,f.t2)]++iK P m f.ea (bj f.us)
noncomputable def dm.seg (f:dm):aJ:=f.us.map TU.ent++f.S
theorem Xw (zs:List α)(t f:α)(FM seg:List α):((zs++(t::f::FM))++seg).Perm (((f::t::FM)++seg)++zs):=by
 rw [bK]
 refine cY.trans (cg.append_right _ ?_)
 exact cg.append_right seg (cg.swap f t FM)
theorem K6 (zs:List α)(f:α)(FM seg:List α):((zs++(f::FM))++seg).Perm (((f::FM)++seg)++zs):=by
 rw [bK]
 exact cY
variable {w:WB}
noncomputable def A6 (ag A R I l i e:Nat)(o1 o2:ay)(aL:bB):aJ:=[(ag,kZ .none A R),(A,aG [.ref I,.ref I]),(R,aG [o1,o2]),(I,bM l i),(l,aq (aR aL) e)]
theorem Xx {F ag:Nat}{g:d}{o:Option (Nat×ay)}{f:dm}(hp:Ex f m g y):∃f' o' N' au br,nR f'/\f'.fs=iG Unicode.isSpace m.wd m.sg f.fs (g,y)/\ aE w (nV w.P F ag K q1 G) p (EF w.P F ag T) ⟨(F,jY w.P (m.B+962+1) H z k3 k4 k5 l tx ts x sg vf o)::(T,aG [Z g tg,Z y ty])::f.led w.P m,[f.seg],N,J,[],U⟩ (.ok (.again (nM w.P F ag))) kj ⟨(F,jY w.P (m.B+962+1) H z k3 k4 k5 l tx ts x sg (Z g tg) o')::f'.led w.P m,[f'.seg],N',au,[],br⟩:=by
 refine vh (WN (w:=w) (F:=F) (ag:=ag) (K:=K) (tg:=tg) (tx:=ty) (N:=N+3) (J:=J+2) (U:=U) (q:=kj) (q1:=q1) (G:=G) (p:=kj) hp) λf' N' au br h1 h2 h3=> ?_
 have h4:A3 w F ag K (m.B+962+1) (m.B+962) (m.B+962+5) (m.B+962+4) (m.B+962+3) f.ea f.ki f.ini f.ti f.ei f.el tg ty (N+3) (J+2) U g y (Fm.obj w.P m) (bj f.us) (aR f.ls) f.t1 f.t2 f.seg f'.ki f'.ini f'.ti f'.ei f'.el f'.ea N' au br (bj f'.us) (aR f'.ls) f'.t1 f'.t2 f'.seg kj q1 G kj:=by
  delta A3
  rw [aT]
  exact h3
 cases o with
 |none=>exact mq f' _ N' au br h1 h2 (Xm h4)
 |some kv=>exact mq f' _ N' au br h1 h2 (Xn (k6:=kv.1) h4)
theorem Xy {F ag R:Nat}(A8:aL.map aD=hS ks)(hk:ks.length<=45)(cK:∀k∈ks,k.1.length<=1000/\k.2.length<=1000)(fb:∀k∈ks,∀c∈k.1,Unicode.isSpace c=true)(h0:∀k,ks[0]? =some k->k.1=[])(h1:∀i k,ks[i+1]? =some k->k.1≠[])(hp:∀k∈ks,k.2≠[])(hh:head<=900)(hs:∀c∈m.sg,c<128)(fT:m.sg≠[]):∀(n j:Nat) (f:dm) (vf o1 o2:ay) (o:Option (Nat×ay)) (N J U:Nat) (p:aw),j+n=ks.length->nR f->f.fs=(ks.take j).foldl (iG Unicode.isSpace m.wd m.sg) ⟨[],head,[]⟩-> ∃f' db N' au br,nR f'/\f'.fs=wG Unicode.isSpace m.wd head m.sg ks/\ aP w (nV w.P F ag K q1 G) p (aA (nM w.P F ag)) ⟨A6 ag A R I l (2*j) e o1 o2 aL++((F,jY w.P (m.B+962+1) H z k3 k4 k5 l tx ts x sg vf o)::f.led w.P m),[f.seg],N,J,[],U⟩ (.ok .next) ⟨(F,db)::f'.led w.P m,[f'.seg],N',au,[],br⟩:=by
 intro n
 induction n with
 |zero=>
  intro j f vf o1 o2 o N J U p hj ok hf
  have hj:j=ks.length:=by lia
  subst hj
  refine mq f (jY w.P (m.B+962+1) H z k3 k4 k5 l tx ts x sg vf o) (N+2) J U ok (by rw [hf,xU];rfl) ?_
  rw [EI]
  have hx:(aR aL)[2*ks.length]? =none:=CU (by
   have:=congrArg dn A8
   rw [bA,K3]at this
   exact BS (by lia))
  have h2:=aK.more ((F,jY w.P (m.B+962+1) H z k3 k4 k5 l tx ts x sg vf o)::f.led w.P m) [f.seg] (Xk (w:=w) (ag:=ag) (A:=A) (R:=R) (I:=I) (l:=l) (e:=e) (i:=2*ks.length) (N:=N) (J:=J) (U:=U) (o1:=o1) (o2:=o2) (Y:=aR aL) (c:=nM w.P F ag) (own:=none) (past:=none) (below:=(nV w.P F ag K q1 G).below) (p:=jv (fP (iq w.P))) hx)
  refine ax.again (by kernel_rfl) (I8 (by kernel_rfl) h2) ?_
  rw [aT]
  have h3:aP w ((nV w.P F ag K q1 G).goto (.block (orelse (iq w.P)) (eQ w.P 112 F []))) (jv (fP (iq w.P))) (aA (.block (orelse (iq w.P)) (eQ w.P 112 F []))) ⟨[],[],N+2,J,[],U⟩ (.ok .next) ⟨[],[],N+2,J,[],U⟩:=gI.of (aT w) (m:=10) 0 [] [] [] [] (by kernel_rfl)
  have h4:=aK.more ([(ag,kZ .none A R),(A,aG [.ref I,.ref I]),(R,aG [o1,o2]),(I,eY (2*ks.length)),(l,aq (aR aL) e)]++((F,jY w.P (m.B+962+1) H z k3 k4 k5 l tx ts x sg vf o)::f.led w.P m)) [f.seg] h3
  refine aK.less h4 (A:=[(ag,kZ .none A R),(A,aG [.ref I,.ref I]),(R,aG [o1,o2]),(I,eY (2*ks.length)),(l,aq (aR aL) e)]) (B:=[]) ?_ (.refl _) ⟨rfl,rfl,rfl⟩
  have:=K6 [(ag,kZ .none A R),(A,aG [.ref I,.ref I]),(R,aG [o1,o2]),(I,eY (2*ks.length)),(l,aq (aR aL) e)] (F,jY w.P (m.B+962+1) H z k3 k4 k5 l tx ts x sg vf o) (f.led w.P m) f.seg
  simpa only [aC.all,ck,ce,bk,cZ]using this
 |succ n aS=>
  intro j f vf o1 o2 o N J U p hj ok hf
  have bw:j<ks.length:=by lia
  have I0:=JL fb h0 h1 (width:=m.wd) (head:=head) (sg:=m.sg) j mv
  rw [<-hf]at I0
  have pB:=Xs I0 bw hk cK h0 h1 hp hh ok hs fT
  have K7:∀i y,(hS ks)[i]? =some y->∃t,aL[i]? =some (y,t):=λi y hy=>by
   rw [<-A8,iv]at hy
   cases EJ:aL[i]? with
   |none=>rw [EJ]at hy;cases hy
   |some am=>
    rw [EJ]at hy
    cases hy
    exact⟨am.2,EJ⟩
  refine dT (K7 (2*j) ks[j].1 (by rw [(A4 ks j).1,cm bw];rfl)) λtg hg=> ?_
  refine dT (K7 (2*j+1) ks[j].2 (by rw [(A4 ks j).2,cm bw];rfl)) λty hy=> ?_
  have t1:=aK.more ((F,jY w.P (m.B+962+1) H z k3 k4 k5 l tx ts x sg vf o)::f.led w.P m) [f.seg] (Xj (w:=w) (ag:=ag) (A:=A) (R:=R) (I:=I) (l:=l) (e:=e) (N:=N) (J:=J) (U:=U) (o1:=o1) (o2:=o2) (c:=nM w.P F ag) (own:=none) (past:=none) (below:=(nV w.P F ag K q1 G).below) (p:=jv (fP (iq w.P))) (wh hg) (wh hy))
  have t2:=aK.side ([(A,aG [.ref I,.ref I]),(R,aG [Z ks[j].1 tg,Z ks[j].2 ty]),(I,bM l (2*j+1+1)),(l,aq (aR aL) e),(N,aG [Z ks[j].1 tg,Z ks[j].2 ty])]++((F,jY w.P (m.B+962+1) H z k3 k4 k5 l tx ts x sg vf o)::f.led w.P m)) [f.seg] [] (Dd (w:=w) (Γ:=nV w.P F ag K q1 G) (p:=jv (fP (iq w.P))) (elts:=rc (fP (iq w.P))) (x1:=rd (fP (iq w.P))) (tp:=jv (fP (iq w.P))) (I:=ag) (T:=N) (N:=N+1) (J:=J) (U:=U) (fs:=[.bool false,.bool false,.ref A,.ref R]) (.inr rfl))
  refine oc (Xx (w:=w) (F:=F) (ag:=ag) (K:=K) (T:=N) (H:=H) (z:=z) (k3:=k3) (k4:=k4) (k5:=k5) (l:=l) (tx:=tx) (ts:=ts) (tg:=tg) (ty:=ty) (N:=N+1) (J:=J) (U:=U) (x:=x) (sg:=sg) (vf:=vf) (o:=o) (p:=jv (fP (iq w.P))) (q1:=q1) (G:=G) pB) λf1 o' N1 be kD pg Dh hw=> ?_
  have t3:=aK.frame hw (D:=⟨[(ag,kZ .none A R),(A,aG [.ref I,.ref I]),(R,aG [Z ks[j].1 tg,Z ks[j].2 ty]),(I,bM l (2*j+1+1)),(l,aq (aR aL) e),(N,aG [Z ks[j].1 tg,Z ks[j].2 ty])]++((F,jY w.P (m.B+962+1) H z k3 k4 k5 l tx ts x sg vf o)::f.led w.P m),[f.seg],N+1,J,[],U⟩)
   (D':=⟨A6 ag A R I l (2*(j+1)) e (Z ks[j].1 tg) (Z ks[j].2 ty) aL++((F,jY w.P (m.B+962+1) H z k3 k4 k5 l tx ts x sg (Z ks[j].1 tg) o')::f1.led w.P m),[f1.seg],N1,be,[],kD⟩)
   (A:=A6 ag A R I l (2*(j+1)) e (Z ks[j].1 tg) (Z ks[j].2 ty) aL) (B:=[]) (by
    simp only [aC.all,ck,ce,bk]
    exact Xw (A6 ag A R I l (2*(j+1)) e (Z ks[j].1 tg) (Z ks[j].2 ty) aL) _ _ _ _) (.refl _) ⟨rfl,rfl,rfl⟩ (by
    simp only [aC.all,ck,ce,bk]
    exact K6 _ _ _ _) (.refl _) ⟨rfl,rfl,rfl⟩
  refine oc (aS (j+1) f1 (Z ks[j].1 tg) (Z ks[j].1 tg) (Z ks[j].2 ty) o' N1 be kD kj (by lia) pg (by rw [Dh,hf,take_snoc bw,r8];rfl)) λf2 db N2 eR EK mx Di Dj=> ?_
  refine mq f2 db N2 eR EK mx Di ?_
  refine ax.turn (aT w) rfl (by kernel_rfl) ?_ Dj
  rw [EI]
  rw [EI]at t3
  exact I7 t1 t2 (by rw [<-Xv];exact t3)
noncomputable def EL (P:aF)(B:Nat)(x sg:d)(t0 tx ts K:Nat)(G:aw):bd:=⟨.call (.ref 112) ⟨[.ref (B+962+1),Z [] t0,Z x tx,Z sg ts],[]⟩,none,none,cO P K G,none⟩
noncomputable def EM (x:d)(tx:Nat):bL:= .builtin "re.Pattern.split" ⟨[.ref 49,Z x tx],[]⟩
def EN (w:WB)(x y:d)(tx:Nat)(Y:LV)(c N J U au:Nat)(ac:b9)(p:aw):Prop:=
 aP w ⟨EM x tx,none,none,ac,none⟩ p ((VV w).M.den (EM x tx)) ⟨[],[],N,J,[],U⟩ (.ok (.ret (.ref N))) ⟨[(N,aq (Z (c::y) J::Y) 0)],[],N+1,au,[],U⟩
noncomputable def Xz (w:WB){x y:d}{tx:Nat}{Y:LV}{c N J U au F K:Nat}{q1 G p:aw}(h:EN w x y tx Y c N J U au (dB w.P 112 F q1 (cO w.P K G)) p):aM w:= .fn _ _ [] [] [] _ _ _ h
def EO (w:WB)(F ag K A R I l e:Nat)(o1 o2:ay)(rs:LV)(fr:az)(a1 a2 Ac D aj ea ki ini ti ei el N J U:Nat)(vd:az)(Y ls:LV)(t1 t2:az)(Sg:aJ)(lU lV ti' lW lX jx N' au br:Nat)(lY lZ:LV)(u1 u2:az)(ko:aJ)(q1 G p:aw):Prop:=
 aP w (nV w.P F ag K q1 G) p ((VV w).M.den (nM w.P F ag)) ⟨[(ag,kZ .none A R),(A,aG [.ref I,.ref I]),(R,aG [o1,o2]),(I,bM l 0),(l,aq rs e),(F,fr),(D,cq w.P ki ini ti ei),(aj,aq ls el),(168,t1),(175,t2)]++iL a1 a2 Ac D ea vd Y,[Sg],N,J,[],U⟩ (.ok .next)
  ⟨[(D,cq w.P lU lV ti' lW),(aj,aq lZ lX),(168,u1),(175,u2)]++iL a1 a2 Ac D jx vd lY,[ko],N',au,[],br⟩
noncomputable def XA (w:WB)(aH bt:d)(F ag K A R I l e:Nat)(o1 o2:ay)(rs:LV)(fr:az)(a1 a2 Ac D aj ea ki ini ti ei el N J U:Nat)(vd:az)(Y ls:LV)(t1 t2:az)(Sg:aJ)(lU lV ti' lW lX jx N' au br:Nat)(lY lZ:LV)(u1 u2:az)(ko:aJ)(q1 G p:aw) (h:EO w F ag K A R I l e o1 o2 rs fr a1 a2 Ac D aj ea ki ini ti ei el N J U vd Y ls t1 t2 Sg lU lV ti' lW lX jx N' au br lY lZ u1 u2 ko q1 G p):aM w:=
 .fn (nV w.P F ag K q1 G) p aH bt [] ⟨[(ag,kZ .none A R),(A,aG [.ref I,.ref I]),(R,aG [o1,o2]),(I,bM l 0),(l,aq rs e),(F,fr),(D,cq w.P ki ini ti ei),(aj,aq ls el),(168,t1),(175,t2)]++iL a1 a2 Ac D ea vd Y,[Sg],N,J,[],U⟩
  ⟨[(D,cq w.P lU lV ti' lW),(aj,aq lZ lX),(168,u1),(175,u2)]++iL a1 a2 Ac D jx vd lY,[ko],N',au,[],br⟩ (.ok .next) h
theorem XB {t1:az}{y0:d}{A9:LV}(h4:EN w x y0 tx A9 c2 (N+1) (J+4) U dK (dB w.P 112 N sq (cO w.P K G)) sq)(h5:(c2::y0).length<=100000)(h6:(cu {cps:={toList:=c2::y0}} (J+4)::A9).length<=100000){Ba:Nat}{Bb:Nat}{Bc:Nat}{EP:Nat}{EQ:Nat}{Bd:LV}{Be:LV}{ER:az}{ES:az}{Bf:aJ}(oQ:EO w N (N+1+1+8) K (N+1+1+6) (N+1+1+7) (N+1+1+2) (N+1) (0+1) mg mg (cu {cps:={toList:=[]}} (dK+4)::cu {cps:={toList:=c2::y0}} (J+4)::A9) (bz [de w.P [115,101,108,102] J (aQ (m.B+962+1)),de w.P [102,119,115] (J+1) (Z [] t0),de w.P [115,116,114,105,110,103] (J+2) (Z x tx),de w.P [115,112,108,105,116,99,104,97,114,115] (J+3) (Z sg ts),de w.P [112,97,114,116,115] dK (aQ (N+1))] 5) (m.B+962+1) (m.B+962) (m.B+962+5) (m.B+962+4) (m.B+962+3) ea ki ini ti ei el (N+1+1+9) (dK+7) U (Fm.obj w.P m) Y ls t1 t2 Sg Ba Bb sT Bc EP EQ vK qI vL Bd Be ER ES Bf sr G sr):
  aP w (EL w.P m.B x sg t0 tx ts K G) p (aA (Ctx.code (EL w.P m.B x sg t0 tx ts K G))) (gh w.P m ki ini ti ei ea el Y ls t1 t2 [] Sg N J U) (.ok (.ret .none)) (gh w.P m Ba Bb sT Bc EQ EP Bd Be ER ES [] Bf vK qI vL):=
 by revert w;exact @(vE 0x292a4ab2cb5acb2d60a525149458271ce75254631a0a015554 (λw h4 oQ=>[Xz w h4,bZ w (J+4) h5,Xg w [2,0,0] (N+1+1+1) (N+1) (N+1+1) 0 0 (dK+5) (Z [] (dK+4)) h6,Xi w [0,0] (N+1+1+5) (N+1+1+4) (.ref (N+1+1+2)) (.ref (N+1+1+2)),XA w [0,1,0,3,3,5,5,5,5,5,5,5,5] [0] N (N+1+1+8) K (N+1+1+6) (N+1+1+7) (N+1+1+2) (N+1) 1 .none .none (cu {cps:={toList:=[]}} (dK+4)::cu {cps:={toList:=c2::y0}} (J+4)::A9) (bz [de w.P [115,101,108,102] J (.ref (m.B+962+1)),de w.P [102,119,115] (J+1) (Z [] t0),de w.P [115,116,114,105,110,103] (J+2) (Z x tx),de w.P [115,112,108,105,116,99,104,97,114,115] (J+3) (Z sg ts),de w.P [112,97,114,116,115] dK (.ref (N+1))] 5) (m.B+962+1) (m.B+962) (m.B+962+5) (m.B+962+4) (m.B+962+3) ea ki ini ti ei el (N+1+1+9) (dK+7) U (Fm.obj w.P m) Y ls t1 t2 Sg Ba Bb sT Bc EP EQ vK qI vL Bd Be ER ES Bf sr G sr oQ]) [0,0,0,0,0,0,0] [0])
structure Bg (ks:b8):Prop where
 len:ks.length<=45
 sz:∀k∈ks,k.1.length<=1000/\k.2.length<=1000
 sp:∀k∈ks,∀c∈k.1,Unicode.isSpace c=true
 g0:∀k,ks[0]? =some k->k.1=[]
 g1:∀i k,ks[i+1]? =some k->k.1≠[]
 tx:∀k∈ks,k.2≠[]
variable {w:WB}
theorem XC {f:dm}(ok:nR f)(hf:f.fs=⟨[],head,[]⟩)(hx:∃c r,x=c::r/\bU c=false)(hl:x.length<=10000)(hk:Bg (cQ x))(hh:head<=900)(hs:∀c∈m.sg,c<128)(fT:m.sg≠[]):∃f' N' au br,nR f'/\f'.fs=wG Unicode.isSpace m.wd head m.sg (cQ x)/\ aP w (EL w.P m.B x sg t0 tx ts K G) p (aA (.call (.ref 112) ⟨[.ref (m.B+962+1),Z [] t0,Z x tx,Z sg ts],[]⟩)) (f.cfg w.P m N J U) (.ok (.ret .none)) (f'.cfg w.P m N' au br):=by
 refine bX (Xc (w:=w) (Γ:=⟨EM x tx,none,none,dB w.P 112 N sq (cO w.P K G),none⟩) (p:=sq) (N:=N+1) (J:=J+4) (U:=U) x tx hl) λL hL hw=> ?_
 have dr:=W0 hL hx
 have b6:=congrArg dn dr
 rw [cy,K3]at b6
 obtain⟨k0,ET⟩:∃k0,(cQ x)[0]? =some k0:=by
  cases e:(cQ x)[0]? with
  |some k0=>exact⟨k0,rfl⟩
  |none=>
   have:=aeE.mp e
   lia
 obtain⟨y,L',rfl⟩:∃y L',L=y::L':=by
  cases L with
  |nil=>simp at b6;lia
  |cons y L'=>exact dU y L' rfl
 have hy:y=k0.2:=by
  have:=(A4 (cQ x) 0).2
  rw [<-dr,ET]at this
  simpa using this
 have XD:y≠[]:=by rw [hy];exact hk.tx _ (u9 ET)
 refine fK (xR XD) λc y0 fM=> ?_
 subst fM
 have hyl:(c::y0).length<=1000:=by rw [hy];exact(hk.sz _ (u9 ET)).2
 have h4:EN w x y0 tx (aR (gj (J+4+1) L')) c (N+1) (J+4) U (J+4+((c::y0)::L').length) (dB w.P 112 N sq (cO w.P K G)) sq:=hw
 have XE:((c::y0)::L').length<=90:=by have:=hk.len;lia
 have dF:(aR (gj (J+4+1) L')).length=L'.length:=by
  delta aR
  rw [bA]
  have:=congrArg dn (EB (J+4+1) L')
  rw [bA]at this
  exact this
 rw [cy]at XE
 have A8:(([],J+4+((c::y0)::L').length+4)::(c::y0,J+4)::gj (J+4+1) L':bB).map aD=hS (cQ x):=by
  rw [bY,bY,EB,<-dr]
 refine oc (Xy (w:=w) (F:=N) (ag:=N+1+1+8) (A:=N+1+1+6) (R:=N+1+1+7) (I:=N+1+1+2) (l:=N+1) (K:=K) (H:=J) (z:=J+1) (k3:=J+2) (k4:=J+3) (k5:=J+4+((c::y0)::L').length) (tx:=tx) (ts:=ts) (e:=0+1) (x:=x) (sg:=sg) (q1:=sr) (G:=G) A8 hk.len hk.sz hk.sp hk.g0 hk.g1 hk.tx hh hs fT (cQ x).length 0 f (Z [] t0) .none .none none (N+1+1+9) (J+4+((c::y0)::L').length+7) U sr ji ok (by rw [hf,List.take_zero];rfl)) λf' db N' au br h1 h2 h3=>
  pa f' N' au br h1 h2 ?_
 refine XB h4 c5 (by rw [cy,dF];lia) (Ba:=f'.ki) (Bb:=f'.ini) (sT:=f'.ti) (Bc:=f'.ei) (Bd:=bj f'.us) (Be:=aR f'.ls) (Bf:=f'.seg) ?_
 unfold EO
 rw [aT]
 refine aK.less h3 (A:=[(N,db)]) (B:=[]) ?_ (.refl _) ⟨rfl,rfl,rfl⟩
 have e:∀(l:aJ) (N J U:Nat),(⟨l,[f'.seg],N,J,[],U⟩:aC).all=l++f'.seg:=λl N J U=>by simp only [aC.all,ck,ce,bk]
 rw [e,e]
 exact cY (l₁:=[(N,db)]) (l₂:=f'.led w.P m++f'.seg)
noncomputable def stC (P:aF)(B ts K:Nat)(G:aw):bd:=⟨.call (.ref 70) ⟨[.ref (B+962+1),Z [10] ts],[]⟩,none,none,cO P K G,none⟩
noncomputable def Bh (P:aF)(F2 F3 K:Nat)(q4 q5 G:aw):b9:=dB P 84 F2 q4 (dB P 70 F3 q5 (cO P K G))
noncomputable def K8 (w:WB)(aH:d){A D k n t ei e N J U e' N' au:Nat}{Y:LV}{v:ay}{F2 F3 K:Nat}{q4 q5 G p:aw}(h:jd w A D k n t ei e N J U e' N' au Y v (Bh w.P F2 F3 K q4 q5 G) p):aM w:=DJ w aH h
noncomputable def K9 (w:WB)(aH bt:d){F2 F3 K:Nat}{q4 EU G:aw}{A D e a:Nat}{Y:LV}{ob tb dk:az}{S:aJ}{N J U t':Nat}{r:d}{N' au br:Nat}{q6 q5 p:aw}(h:fp w (.c3 F2 F3 K q4 EU G) A D e (Y++[aQ a]) tb dk [(a,ob)] S N J U t' r N' au br q6 q5 p):aM w:=DK w aH bt h
noncomputable def XF (w:WB)(aH bt:d){F4 F2 F3 K:Nat}{XG q4 EU G:aw}{A D e a:Nat}{Y:LV}{ob tb dk:az}{S:aJ}{N J U t':Nat}{r:d}{N' au br:Nat}{q6 q5 p:aw}(h:fp w (.c4 F4 F2 F3 K XG q4 EU G) A D e (Y++[aQ a]) tb dk [(a,ob)] S N J U t' r N' au br q6 q5 p):aM w:=DK w aH bt h
noncomputable def XH (w:WB)(aH bt:d){F4 F2 F3 K:Nat}{q6 q4 q5 G:aw}{A D k n t e ei a:Nat}{Y:LV}{ob tb dk:az}{S:aJ}{N J U t' r N' au br:Nat}{p:aw}(h:fG w (.c4 F4 F2 F3 K q6 q4 q5 G) A D k n t e ei (Y++[aQ a]) tb dk [(a,ob)] S N J U t' (r+1) N' au br p):aM w:=AG w aH bt h
section
variable {w:WB}
noncomputable def La (w:WB)(aH:d){bC:d}(ts A e_:Nat){ls:bB}{r:d}{t:Nat}(h:((ls++[(r,t)]).map λx=>x.1.length).sum+(ls++[(r,t)]).length*bC.length<=100000):aM w:=
 .bi false 0 "str.join" ⟨[Z bC ts,.ref A],[]⟩ aH [(A,aq (aR ls++[Z r t]) e_)] (λ_=>[(A,aq (aR ls++[Z r t]) e_)]) (λ_ k=> .ok (.ret (Z (bp bC ((ls++[(r,t)]).map aD)) (fh (ls++[(r,t)]) k)))) 0 (fj (ls++[(r,t)])) (by
  have e:aR ls++[Z r t]=aR (ls++[(r,t)]):=by simp [aR]
  rw [e]
  exact CZ bC ts A e_ (ls++[(r,t)]) h)
end
theorem XI {g:d}{ls:bB}{t1:az}(bD:(!(g==[32]&&y==[]))=true)(h3:jd w (m.B+962+5) (m.B+962+4) ki 0 ti ei ea (N+2) (J+4) U c7 aU aI Y (aQ a) (Bh w.P (N+1) N K gW jL G) gW)(h4:Y.length<=100000)(fH:fG w (Lx.c3 (N+1) N K kh jL G) (m.B+962+5) (m.B+962+4) ki 0 ti (c7+1) ei (Y++[aQ (aU+4)]) t1 zW [(aU+4,aG [Z g tg,Z y tx])] Sg (aU+5) (aI+9) U zk r7 kl iX zl kh)(bQ:decide (O r7>O 0)=true){oR:Nat}(dM:fG w (Lx.c4 kl (N+1) N K yo yp jL G) (m.B+962+5) (m.B+962+4) ki 0 ti (c7+1) ei (Y++[aQ (aU+4)]) zW zX [(aU+4,aG [Z g tg,Z y tx])] Sg (kl+1) (iX+5) zl pI (oR+1) ot pG qJ yo){Lb:az}{Lc:Nat}{EW:d}{Ld:Nat}(lS:fp w (Lx.c4 kl (N+1) N K pt yp jL G) (m.B+962+5) (m.B+962+4) (c7+1) (Y++[aQ (aU+4)]) t2 Lb [(aU+4,aG [Z g tg,Z y tx])] Sg ot pG qJ Lc EW qN jo Ld pt pt pt)(xb:(decide (EW.length>0)&&EW.all Unicode.isSpace)=false){Le:az}{rH:Nat}{rI:d}{Bj:Nat}{EX:Nat}{Lf:Nat}(hM:fp w (Lx.c3 (N+1) N K eq jL G) (m.B+962+5) (m.B+962+4) (c7+1) (Y++[aQ (aU+4)]) Lb Le [(aU+4,aG [Z g tg,Z y tx])] Sg qN (jo+2) Ld rH rI Bj EX Lf eq eq eq)(oM:(aR ls).length<=100000)(Eu:(Y++[aQ (aU+4)]).length<=100000)(XJ:(cr (λx=>x.fst.length) (ls++[(rI,rH)])).sum+(ls++[(rI,rH)]).length*[10].length<=100000):aP w (stC w.P m.B ts K G) p (aA (Ctx.code (stC w.P m.B ts K G))) (gh w.P m ki (0) ti ei ea el (Y++[aQ a]) (aR ls) t1 t2 [(a,aG [Z g tg,Z y tx])] Sg N J U) (.ok (.ret (Z (bp [10] (cr aD (ls++[(rI,rH)]))) (fh (ls++[(rI,rH)]) (EX+8))))) ⟨[(168,zX),(175,Le)],[],(Bj+3),(EX+(8+fj (ls++[(rI,rH)]))),[],Lf⟩:=
 by revert w;exact @(PU 0x29fd2fcbe25f097e3f8ff7bd90910569e0f3c6318d1540f180c0c0e1f3feff87fc1ff6fd77c20843e7fdff0ff83fecf8efbbeefbbf0f9ff7fc3fe0ffb3e8820f103035386303060068a0341085ff3beef877c1df57d4ff9df77c3be0efa7e2b96f31313134555070ea1cc2c738070e00ebf95f57c2be0afbd5fcbfabf9ce7474fc13f09f84ff6bdc5c2e8a17984c4c4d154 (λw h3 fH dM lS hM=>[K8 w [8,2] h3,AD w [10,0] a aU tg tx (aI+1) (aI+2) bD,AE w [0,1] (aU+2) a (Z g tg) (Z y tx),lP w [6] (m.B+962+5) (m.B+962+4) c7 (.ref (aU+4)) h4,J1 w [0,6,9,0] [0] fH,cb w zk iX bQ,cR w (a:=0) (b:=0) ti (iX+4) (r:=true) rfl,XH w [1,1,1,1] [0] dM,XF w [0,12,2] [0] lS,mH w Lc xb,K9 w [0,0,0] [0] hM,bR w [13] (m.B+962+3) el (Z rI rH) oM,um w [4,0,0] (Bj+2) (m.B+962+5) (Bj+1) (m.B+962+4) (c7+1) 0 [] Eu (by decide),La w [4] ts (m.B+962+3) (el+1) XJ]) [8,5])
theorem XK {g:d}{ls:bB}{t1:az}(bD:(!(g==[32]&&y==[]))=true)(h3:jd w (m.B+962+5) (m.B+962+4) ki (ini+1) ti ei ea (N+2) (J+4) U c7 aU aI Y (aQ a) (Bh w.P (N+1) N K gW jL G) gW)(h4:Y.length<=100000)(fH:fG w (Lx.c3 (N+1) N K kh jL G) (m.B+962+5) (m.B+962+4) ki (ini+1) ti (c7+1) ei (Y++[aQ (aU+4)]) t1 zW [(aU+4,aG [Z g tg,Z y tx])] Sg (aU+5) (aI+9) U zk r7 kl iX zl kh)(bQ:decide (O r7>O 0)=true){oR:d}(dM:fp w (Lx.c3 (N+1) N K eq jL G) (m.B+962+5) (m.B+962+4) (c7+1) (Y++[aQ (aU+4)]) t2 zX [(aU+4,aG [Z g tg,Z y tx])] Sg (kl+1) (iX+7) zl pI oR ot pG qJ eq eq eq)(gS:(aR ls).length<=100000)(oQ:(Y++[aQ (aU+4)]).length<=100000)(qe:(cr (λx=>x.fst.length) (ls++[(oR,pI)])).sum+(ls++[(oR,pI)]).length*[10].length<=100000):aP w (stC w.P m.B ts K G) p (aA (Ctx.code (stC w.P m.B ts K G))) (gh w.P m ki (ini+1) ti ei ea el (Y++[aQ a]) (aR ls) t1 t2 [(a,aG [Z g tg,Z y tx])] Sg N J U) (.ok (.ret (Z (bp [10] (cr aD (ls++[(oR,pI)]))) (fh (ls++[(oR,pI)]) (pG+8))))) ⟨[(168,zW),(175,zX)],[],(ot+3),(pG+(8+fj (ls++[(oR,pI)]))),[],qJ⟩:=
 by revert w;exact @(CB 0x14fe97e5f12f84bf1fc7e9fa7e9f90910569e0f3c6318d15413180c0c0e1f3feff87fc1ff6fd77c203087cffbfe1ff07fd7f1bf6fdbf6fe1f3feff87fc1ff5fd386303060068a0341085ff3beef877c1df57d4ff9df77c3be0efa7e2b96f31313134555070ea1cc2c738070e00ebf95f57c2be0afbd5fcbfabf9ce7474fc13f09f84ff6bdc5c2e8a17984c4c4d154 (λw h3 fH dM=>[K8 w [8,2] h3,AD w [10,0] a aU tg tx (aI+1) (aI+2) bD,AE w [0,1] (aU+2) a (Z g tg) (Z y tx),lP w [6] (m.B+962+5) (m.B+962+4) c7 (.ref (aU+4)) h4,J1 w [0,6,9,0] [0] fH,cb w zk iX bQ,cR w (a:=O (ini+1)) (b:=0) ti (iX+4) (r:=false) rfl,K9 w [1,12,3] [0] dM,bR w [13] (m.B+962+3) el (Z oR pI) gS,um w [4,0,0] (ot+2) (m.B+962+5) (ot+1) (m.B+962+4) (c7+1) 0 [] oQ (by decide),La w [4] ts (m.B+962+3) (el+1) qe]) [9,5])
theorem XM {l:b8}{k:d×d}(hk:k∈l)(h:k.2≠[]):0<bx l:=by
 induction l with
 |nil=>cases hk
 |cons a r ih=>
  have e:bx (a::r)=a.1.length+a.2.length+bx r:=by simp [bx]
  rw [e]
  rcases gr.mp hk with rfl|hk
  ·have:=nb.mpr h
   lia
  ·have:=ih hk
   lia
theorem qh (l:b8):(bs l).length=bx l:=by
 delta bs bx
 rw [List.length_flatten,eF]
 congr 1
 apply u6
 intro x _
 simp
theorem XN {f:dm}(ok:nR f)(bD:f.us≠[])(b6:f.us.length<=45)(cK:∀v∈f.us,v.g.length<=1000/\v.x.length<=1000)(hx:∀v∈f.us,v.x≠[])(Lg:(bs (f.us.map TU.key)).all Unicode.isSpace=false)(rC:f.ini<=900)(wZ:f.ls.length<=1000)(bw:(f.ls.map λx=>x.1.length).sum+bx (f.us.map TU.key)<=90000):∃t N' au br u1 u2,(oJ u1/\oK u2)/\aP w (stC w.P m.B ts K G) p (aA (.call (.ref 70) ⟨[.ref (m.B+962+1),Z [10] ts],[]⟩)) (f.cfg w.P m N J U) (.ok (.ret (Z (bp [10] (kT f.fs)) t))) ⟨[(168,u1),(175,u2)],[],N',au,[],br⟩:=by
 obtain⟨us,S,ls,ki,ini,ti,ei,ea,el,t1,t2⟩:=f
 dsimp only at bD b6 cK hx Lg rC wZ bw
 refine cB (ok) λh1 h2=> ?_
 dsimp only at h1 h2
 rcases Ew us with rfl|⟨cH,u,rfl⟩
 ·exact absurd rfl bD
 have hu:=cK u (by simp)
 have Lh:=hx u (by simp)
 have cV:(bj cH).length<=100000:=by delta bj;rw [bA];simp at b6;lia
 have hb:(!(u.g==[32]&&u.x==[]))=true:=by simp [Lh]
 have w7:(aR ls).length<=100000:=by delta aR;rw [bA];lia
 refine kM (D9 (w:=w) (c:= .p3 (N+1) N K gW jL G) (A:=m.B+5) (D:=m.B+962+4) (k:=ki) (n:=ini) (t:=ti) (ei:=ei) (e:=ea) (N:=N+2) (J:=J+4) (U:=U) (b:=u.a) (p:=gW) cV) λe1 N1 be kB=> ?_
 have kB:jd w (m.B+962+5) (m.B+962+4) ki ini ti ei ea (N+2) (J+4) U e1 N1 be (bj cH) (aQ u.a) (Bh w.P (N+1) N K gW jL G) gW:=kB
 have xc:∀v∈cH++[(⟨N1+4,u.g,u.tg,u.x,u.tx⟩:TU)],v.g.length<=1000/\v.x.length<=1000:=λv hv=>by
  rcases fq.mp hv with hv|hv
  ·exact cK v (by simp [hv])
  ·have:v=⟨N1+4,u.g,u.tg,u.x,u.tx⟩:=by simpa using hv
   rw [this];exact hu
 have EY:(cH++[(⟨N1+4,u.g,u.tg,u.x,u.tx⟩:TU)]).length<=45:=by simp at b6⊢;lia
 have ek:(cH++[(⟨N1+4,u.g,u.tg,u.x,u.tx⟩:TU)]).map TU.key=(cH++[u]).map TU.key:=by simp [TU.key]
 have hw:0<bx ((cH++[u]).map TU.key):=XM (k:=u.key) (by simp) Lh
 refine iT (wX (w:=w) (c:= .c3 (N+1) N K kh jL G) (A:=m.B+5) (D:=m.B+962+4) (k:=ki) (n:=ini) (t:=ti) (e:=e1+1) (ei:=ei) (N:=N1+5) (J:=be+9) (U:=U) (S0:=S) (tb:=t1) (p:=kh) h1 c5 xc c5) λtb t' N3 qf rE nS gG=> ?_
 have gG:=fG.shift gG
 rw [ek]at gG
 have gk:decide (O (ini+bx ((cH++[u]).map TU.key))>O 0)=true:=decide_eq_true (by show((ini+bx ((cH++[u]).map TU.key):Nat):Int)>0;lia)
 have conv:∀{Φ:bI->bI->Prop} {C':aC},fw w (gh w.P m ki ini ti ei ea el (bj cH++[aQ u.a]) (aR ls) t1 t2 [(u.a,aG [Z u.g u.tg,Z u.x u.tx])] (cH.map TU.ent++S) N J U) C' Φ->fw w (dm.cfg w.P m ⟨cH++[u],S,ls,ki,ini,ti,ei,ea,el,t1,t2⟩ N J U) C' Φ:=λ{Φ C'} h=>by
  refine aK.same h ?_ rfl bH (.refl _) rfl bH
  delta dm.cfg gh
  rw [kX]
  simp only [aC.all,ck,ce,bk]
  exact oN [] cH u S _
 have fin:∀t,kT (dm.fs ⟨cH++[u],S,ls,ki,ini,ti,ei,ea,el,t1,t2⟩)=(ls++[(bs ((cH++[u]).map TU.key),t)]).map aD:=λt=>by
  simp [kT,dm.fs]
 have Li:∀t,((ls++[(bs ((cH++[u]).map TU.key),t)]).map λx=>x.1.length).sum+(ls++[(bs ((cH++[u]).map TU.key),t)]).length*[10].length<=100000:=λt=>by
  rw [cx,List.sum_append,ci]
  simp only [bY,n7,uY,List.sum_nil,cy,xT]
  rw [qh]
  lia
 have w6:(bj cH++[aQ (N1+4)]).length<=100000:=by rw [ci];simp at b6⊢;delta bj;rw [bA];lia
 cases ini with
 |zero=>
  obtain⟨n0,nO⟩:∃n0,0+bx ((cH++[u]).map TU.key)=n0+1:=⟨bx ((cH++[u]).map TU.key)-1,by lia⟩
  refine iT (wX (w:=w) (c:= .c4 N3 (N+1) N K yo yp jL G) (A:=m.B+5) (D:=m.B+962+4) (k:=ki) (n:=0) (t:=ti) (e:=e1+1) (ei:=ei) (N:=N3+1) (J:=qf+5) (U:=rE) (S0:=S) (tb:=tb) (p:=yo) nS c5 xc c5) λoO t4 N4 qg w5 rF rG=> ?_
  have rG:=fG.shift rG
  rw [ek,nO]at rG
  refine iT (uz (w:=w) (c:= .c4 N3 (N+1) N K pt yp jL G) (A:=m.B+962+5) (D:=m.B+962+4) (e:=e1+1) (N:=N4) (J:=qg) (U:=w5) (S0:=S) (q6:=pt) (q5:=pt) (p:=pt) h2 xc EY) λtc t5 N5 uE XO XQ Bk=> ?_
  have Bk:=fp.shift Bk
  rw [ek]at Bk
  refine iT (uz (w:=w) (c:= .c3 (N+1) N K eq jL G) (A:=m.B+962+5) (D:=m.B+962+4) (e:=e1+1) (N:=N5) (J:=uE+2) (U:=XO) (us:=cH++[⟨N1+4,u.g,u.tg,u.x,u.tx⟩]) (S0:=S) (q6:=eq) (q5:=eq) (p:=eq) XQ xc EY) λtd t6 N6 xd oP EZ l0=> ?_
  have l0:=fp.shift l0
  rw [ek]at l0
  refine B1 (fh (ls++[(bs ((cH++[u]).map TU.key),t6)]) (xd+8)) (N6+3) (xd+(8+fj (ls++[(bs ((cH++[u]).map TU.key),t6)]))) oP oO td ⟨rF,EZ⟩ (conv ?_)
  rw [fin t6]
  exact XI hb kB cV gG gk rG Bk (by rw [Lg,Bool.and_false]) l0 w7 w6 (Li t6)
 |succ ini=>
  refine iT (uz (w:=w) (c:= .c3 (N+1) N K eq jL G) (A:=m.B+962+5) (D:=m.B+962+4) (e:=e1+1) (N:=N3+1) (J:=qf+7) (U:=rE) (us:=cH++[⟨N1+4,u.g,u.tg,u.x,u.tx⟩]) (S0:=S) (tb:=t2) (q6:=eq) (q5:=eq) (p:=eq) h2 xc EY) λtd t6 N6 xd oP EZ l0=> ?_
  have l0:=fp.shift l0
  rw [ek]at l0
  refine B1 (fh (ls++[(bs ((cH++[u]).map TU.key),t6)]) (xd+8)) (N6+3) (xd+(8+fj (ls++[(bs ((cH++[u]).map TU.key),t6)]))) oP tb td ⟨nS,EZ⟩ (conv ?_)
  rw [fin t6]
  exact XK hb kB cV gG gk l0 w7 w6 (Li t6)
theorem XR (h4:ul w (N+962+5) (N+962+4) hd th (N+962+6) (J+17) U k0 ik aZ dK (uq w.P (N+962+2) hd wd th tw tc ts K sg p ⟨18,29,18,52⟩ G) ⟨18,29,18,52⟩):aP w (uo w.P hd wd th tw tc ts K sg G) p (aA (Ctx.code (uo w.P hd wd th tw tc ts K sg G))) ⟨[],[],N+962,J,[],U⟩ (.ok (.ret (.ref (N+962+1)))) ⟨[(N+962+4,cq w.P k0 hd th ik),(N+962+3,aq [] 0)]++iL (N+962+1) (N+962) (N+962+5) (N+962+4) 0 (fF w.P N (J+6) (J+8) (J+12) (J+14) (J+16) (dK+1) wd tw tc (J+9+1) ts sg) [],[],aZ,(dK+2),[],U⟩:=
 dJ 0x139ccf0f3c783d6824000000cb5ac7071c381c6739c3030c180d4e73860618301a90e73860618301a9ce70c0c3060351555540240000000 [bZ w (a:=[32]) tc (by decide),UX w [0,0] h4] [1,1,2,2,0]
theorem XS:∃(m:Fm) (ki ti ei el ea N' au:Nat),m.wd=wd/\m.sg=sg/\ aP w (uo w.P hd wd th tw tc ts K sg G) p (aA (Ctx.code (uo w.P hd wd th tw tc ts K sg G))) ⟨[],[],N,J,[],U⟩ (.ok (.ret (.ref (m.B+962+1)))) ⟨[(m.B+962+4,cq w.P ki hd ti ei),(m.B+962+3,aq [] el)]++iK w.P m ea [],[],N',au,[],U⟩:=by
 by_cases hN:962<=N
 ·obtain⟨M,rfl⟩:∃M,N=M+962:=⟨N-962,by lia⟩
  refine o9 (Wx) λk e' N' au h=>
   ⟨⟨M,J+6,J+8,J+12,J+14,J+16,au+1,wd,tw,tc,J+9+1,ts,sg⟩,k,th,e',0,0,N',au+2,rfl,rfl,XR h⟩
 ·exact GM ⟨0,0,0,0,0,0,0,wd,0,0,0,0,sg⟩ 0 0 0 0 0 0 0 rfl rfl (aK.big λh=>absurd h hN)
theorem Lj (r1 a1 r2 a2:Nat):(if(-O r1== -O r2)=true then decide (O a1>O a2)else decide (-O r1> -O r2))=lN (r1,a1) (r2,a2):=by
 delta lN
 have e1:(-O r1== -O r2)=(r1==r2):=by
  rw [r6];simp;lia
 rw [e1]
 by_cases h:r1=r2
 ·subst h
  simp
 ·simp [h]
theorem XT {l:List α}(h:i<l.length){b:α}(hb:b∈l.take i):∃R,l.Perm ([l[i],b]++R):=by
 refine fK (BU hb) λX1 X2 hX=>
  ⟨X1++X2++l.drop (i+1),?_⟩
 have e:l=l.take i++(l[i]::l.drop (i+1)):=by rw [<-fJ h,oa]
 have h1:l.Perm (l[i]::(l.take i++l.drop (i+1))):=by
  conv=>lhs;rw [e]
  exact o4
 refine h1.trans (cg.cons _ ?_)
 rw [hX,bK,bK]
 exact o4
variable {w:WB}
theorem XU {S F:Nat}{os:List PL}:∀(m i:Nat) (b:PL) (eS N J:Nat) (p:aw),i+m=os.length->b∈os.take i-> ∃b' eA N' au i',b'∈os/\b'.key=jT b.key ((os.drop i).map PL.key)/\ aP w (rp w.P I S F I0 K q q1 G) p (aA (mW I S)) ⟨[(I,bM l i),(l,aq (dQ os) E),(S,aq [.ref b.a,.ref b.a] eS)],[os.map PL.ent],N,J,[],U⟩ (.ok (.ret (.ref b'.a))) ⟨[(I,eY i'),(l,aq (dQ os) E),(S,aq [] eA)],[os.map PL.ent],N',au,[],U⟩:=by
 intro m
 induction m with
 |zero=>
  intro i b eS N J p hm hb
  refine mq b (eS+1) (N+2) J i (sa hb) (by rw [mh (by lia)];rfl) ?_
  have hv:(dQ os)[i]? =none:=BS (by delta dQ;rw [bA];lia)
  exact aK.seg (os.map PL.ent) (Vo hv)
 |succ m aS=>
  intro i b eS N J p hm hb
  have bw:i<os.length:=by lia
  have hv:(dQ os)[i]? =some (.ref os[i].a):=by delta dQ;rw [iv,cm bw];rfl
  refine dT (XT (l:=os.map PL.ent) (by rw [bA];exact bw) (b:=b.ent) (by rw [<-ml];exact j8 hb)) λR hR=> ?_
  rw [BW]at hR
  have mO:os[i]∈os.take (i+1):=by rw [take_snoc bw];exact qt _ (.head _)
  have XW:b∈os.take (i+1):=by rw [take_snoc bw];exact me _ hb
  have hd:(os.drop i).map PL.key=os[i].key::(os.drop (i+1)).map PL.key:=by rw [fJ bw];rfl
  cases hg:lN os[i].key b.key with
  |true=>
   refine oc (aS (i+1) os[i] eS N J p (by lia) mO) λb' eA N' au i' h1 h2 h3=>
    mq b' eA N' au i' h1 (by rw [h2,hd];show _=jT (if lN os[i].key b.key=true then _ else _) _;rw [hg];rfl) ?_
   have t1:=Vm (w:=w) (I:=I) (S:=S) (l:=l) (E:=E) (eS:=eS) (N:=N) (J:=J) (U:=U) (b:=b.a) (t1:=os[i].t1) (u1:=os[i].t2) (t2:=b.t1) (u2:=b.t2) (F:=F) (I0:=I0) (K:=K) (p:=p) (q:=q) (q1:=q1) (G:=G) hv (by rw [Lj];exact hg)
   exact ax.turn (aT w) rfl (by kernel_rfl) (aK.kU (L':=[(I,bM l (i+1)),(l,aq (dQ os) E),(S,aq [.ref os[i].a,.ref os[i].a] eS)]) hR t1) h3
  |false=>
   refine oc (aS (i+1) b eS N J p (by lia) XW) λb' eA N' au i' h1 h2 h3=>
    mq b' eA N' au i' h1 (by rw [h2,hd];show _=jT (if lN os[i].key b.key=true then _ else _) _;rw [hg];rfl) ?_
   have t1:=Vn (w:=w) (I:=I) (S:=S) (l:=l) (E:=E) (eS:=eS) (N:=N) (J:=J) (U:=U) (b:=b.a) (t1:=os[i].t1) (u1:=os[i].t2) (t2:=b.t1) (u2:=b.t2) (F:=F) (I0:=I0) (K:=K) (p:=p) (q:=q) (q1:=q1) (G:=G) hv (by rw [Lj];exact hg)
   exact ax.turn (aT w) rfl (by kernel_rfl) (aK.kU (L':=[(I,bM l (i+1)),(l,aq (dQ os) E),(S,aq [.ref b.a,.ref b.a] eS)]) hR t1) h3
theorem XX {S F:Nat}{os:List PL}{x:Nat×Nat}(hb:bestOf (os.map PL.key)=some x):∃b' eA N' au i',b'∈os/\b'.key=x/\ aP w (rp w.P I S F I0 K q q1 G) p (aA (mW I S)) ⟨[(I,bM l 0),(l,aq (dQ os) E),(S,aq [] eS)],[os.map PL.ent],N,J,[],U⟩ (.ok (.ret (.ref b'.a))) ⟨[(I,eY i'),(l,aq (dQ os) E),(S,aq [] eA)],[os.map PL.ent],N',au,[],U⟩:=by
 cases os with
 |nil=>cases hb
 |cons b r=>
  refine oc (XU (w:=w) (I:=I) (S:=S) (l:=l) (E:=E) (F:=F) (I0:=I0) (K:=K) (U:=U) (q:=q) (q1:=q1) (G:=G) r.length 1 b (eS+1) N J p (by rw [cy];lia) (by simp)) λb' eA N' au i' h1 h2 h3=>
   mq b' eA N' au i' h1 (by rw [h2];injection hb) ?_
  have t1:=Vl (w:=w) (I:=I) (S:=S) (l:=l) (E:=E) (eS:=eS) (i:=0) (N:=N) (J:=J) (U:=U) (a:=b.a) (r1:=b.rk) (t1:=b.t1) (a1:=b.at_) (u1:=b.t2) (Y:=dQ (b::r)) (F:=F) (I0:=I0) (K:=K) (p:=p) (q:=q) (q1:=q1) (G:=G) rfl
  exact ax.turn (aT w) rfl (by kernel_rfl) (aK.kU (L':=[(I,bM l (0+1)),(l,aq (dQ (b::r)) E),(S,aq [.ref b.a,.ref b.a] (eS+1))]) (.refl _) t1) h3
noncomputable def Lk:d:=[115,105,122,101]
noncomputable def XY:d:=[112,108,97,99,101,115]
noncomputable def iM (P:aF)(H z k3 sw tw hd th Sl:Nat):Option (NV×Option (Nat×ay))->az
 |none=>bz [de P [119,105,100,116,104] H (.int (O sw) tw),de P [104,101,97,100] z (.int (O hd) th),de P [115,116,97,114,116,115] k3 (.ref Sl)] 3
 |some (x,none)=>bz [de P [119,105,100,116,104] H (.int (O sw) tw),de P [104,101,97,100] z (.int (O hd) th),de P [115,116,97,114,116,115] k3 (.ref Sl),de P Lk x.1 x.2] 4
 |some (x,some y)=>bz [de P [119,105,100,116,104] H (.int (O sw) tw),de P [104,101,97,100] z (.int (O hd) th),de P [115,116,97,114,116,115] k3 (.ref Sl),de P Lk x.1 x.2,de P XY y.1 y.2] 5
noncomputable def Ll (b1:Bool):aw:=match b1 with
 |true=>iz
 |false=>⟨894,46,894,63⟩
def hV (w:WB)(F D av I1 I0 K E U M ts m f tf bh tb N J kr rk tr e' i' N' au:Nat)(o:Option (Nat×ay))(Y aO:LV)(sg:d)(S Q:aJ)(q q1 G:aw):Prop:=
 aP w (pZ w.P F D av I1 I0 K q q1 G) (Ll w.b1) ((VV w).M.den (ey w.P F D av I1 0)) (dD F av M E ts Y sg (D,fU [] 0) [] 0 (I1,bF (O 0) (O m) 1) [(F+3,ba (some (.int (O bh) tb))),(F+4,ba (some (.int (O f) tf)))] [S,[]] N J U) (.ok .next)
  (dD F av M E ts Y sg (D,fa w.P kr rk tr o) aO e' (I1,bF (O i') (O 0) 1) [(F+3,ba (some (.int (O bh) tb))),(F+4,ba (some (.int (O f) tf)))] [S,Q] N' au U)
noncomputable def E0 (w:WB)(aH bt:d){F D av I1 I0 K E U M ts m f tf bh tb N J kr rk tr e' i' N' au:Nat}{o:Option (Nat×ay)}{Y aO:LV}{sg:d}{S Q:aJ}{q q1 G:aw}(h:hV w F D av I1 I0 K E U M ts m f tf bh tb N J kr rk tr e' i' N' au o Y aO sg S Q q q1 G):aM w:= .fn _ _ aH bt [] _ _ _ h
noncomputable def uG (w:WB)(aH bt:d){F D av I1 I0 K E U M ts m f tf bh tb N J kr rk tr e' i' N' au:Nat}{Y:LV}{sg:d}{S Q:aJ}{q q1 G:aw}(h:hV w F D av I1 I0 K E U M ts m f tf bh tb N J kr rk tr e' i' N' au none Y [] sg S Q q q1 G):aM w:=E0 w aH bt h
noncomputable def uH (w:WB)(aH bt:d){F D av I1 I0 K E U M ts m f tf bh tb N J kr rk tr e' i' N' au:Nat}{ka:Nat}{va:ay}{Y:LV}{sg:d}{S Q:aJ}{q q1 G:aw}(h:hV w F D av I1 I0 K E U M ts m f tf bh tb N J kr rk tr e' i' N' au (some (ka,va)) Y [] sg S Q q q1 G):aM w:=E0 w aH bt h
noncomputable def Bl (w:WB)(aH bt:d){F D av I1 I0 K E U M ts m f tf bh tb N J kr rk tr e' i' N' au:Nat}{ka:Nat}{va:ay}{Y:LV}{a:Nat}{aO:LV}{sg:d}{S Q:aJ}{q q1 G:aw}(h:hV w F D av I1 I0 K E U M ts m f tf bh tb N J kr rk tr e' i' N' au (some (ka,va)) Y (.ref a::aO) sg S Q q q1 G):aM w:=E0 w aH bt h
def rJ (w:WB)(I S l E F I0 K N J U eS b rk t1 at_ t2 i' eA N' au:Nat)(Y:LV)(S0 Q:aJ)(q q1 G p:aw):Prop:=
 aP w (rp w.P I S F I0 K q q1 G) p ((VV w).M.den (mW I S)) ⟨[(I,bM l 0),(l,aq Y E),(S,aq [] eS)],[S0,Q],N,J,[],U⟩ (.ok (.ret (.ref b))) ⟨[(I,eY i'),(l,aq Y E),(S,aq [] eA),(b,lR rk t1 at_ t2)],[S0],N',au,[],U⟩
noncomputable def Bm (w:WB)(aH bt:d){I S l E F I0 K N J U eS b rk t1 at_ t2 i' eA N' au:Nat}{Y:LV}{S0 Q:aJ}{q q1 G p:aw}(h:rJ w I S l E F I0 K N J U eS b rk t1 at_ t2 i' eA N' au Y S0 Q q q1 G p):aM w:= .fn _ _ aH bt [] _ _ _ h
noncomputable def du (P:aF)(F I Sl M H z k3 sw tw hd th ts E eS n m:Nat)(o:Option (NV×Option (Nat×ay)))(c3 c4:Option ay)(sv Y:LV)(sg:d):aJ:=
 [(F,iM P H z k3 sw tw hd th Sl o),(F+1,ba (some (.ref M))),(F+2,ba (some (Z sg ts))),(F+3,ba c3),(F+4,ba c4),(Sl,aq sv eS),(M,aq Y E),(I,bF (O n) (O m) 1)]
section
variable {F M m:Nat}{x2:ay}{S:aJ}(h0:Y.length<=100000)(h7:wD w F (N+4) (N+3) (N+2) I K (N+1) 0 U (N+5) (J+3) ik aZ dK zm (eZ Y (some f) (some n)) gc (some Ii) S pu q pu G)(bQ:wE w aZ (aZ+1) (N+3) ik (aZ+2) (dK+1) U dK n8 lA aV gc HT (((dL w.P F I K q G).code,oj)::(dL w.P F I K q G).below) oj)(cn:(sv++[bE (O f) tf]).length<=100000)
include h0 h7 bQ cn
theorem XZ (b0:(O (sv++[bE (O f) tf]).length==O 1)=true)(cz:decide (O (n8+hd)>O sw)=false):aE w (dL w.P F I K q G) p (aA (cA w.P F I)) ⟨(du w.P F I Sl M H z k3 sw tw hd th ts E eS n (m+1) (some ((x1,x2),some (y1,y2))) (some v3) (some v4) (sv++[.int (O f) tf]) Y sg),[S,[]],N,J,[],U⟩ (.ok (.again (cA w.P F I))) vy ⟨(du w.P F I Sl M H z k3 sw tw hd th ts E eS (n+1) m (some ((x1,(.int (O (n8+hd)) (aV+4))),some (y1,y2))) (some (.int (O n) J)) (some (.int (O f) tf)) (sv++[bE (O f) tf]) Y sg),[S],(aZ+4),(aV+6),[],U⟩:=
 by revert w;exact @(lx 0x15fd7f5fd7f17f5fd4bf8bfafea1863155538e39c92a9f93f4fd3f9dd65eedd7bdc1bdeedb 0x57f5fd7f5fc5fd7f52fe2febfa8618c555492a9f93f4fd3f9dd65eedd7bdc1bdeedb (λw h7 bQ=>[eV w [7] I n m,dZ w [6] Sl eS (J+2) sv (.int (O f) tf),fQ w [0,7] N M E tf J f n h0,gO w [0,0,0,0] [0] h7,gP w [0,0,1] bQ,cT w [8] Sl eS cn,cR w (aV+1+1) (aV+3) b0,cb w (aV+4) tw cz]) [10,10,10,10,10,0,7,7] [0])
theorem X0 (b0:(O (sv++[bE (O f) tf]).length==O 1)=true)(cz:decide (O (n8+hd)>O sw)=true)(cP:sg.length<=100000)(iO:sg.length=0+iY)(dM:sg.length<=1000000)(oS:hV w F (aZ+7) (aZ+4+2) (aZ+4+1) I K E U M ts iY f tf n J (aZ+4+4) (aV+10) qO qP qQ iZ qS fg cS none Y [] sg S Ia q iz G)(oT:jz [] [] false)(gT:decide (O hd>O 0)=true){E2:Nat}(d0:n=E2+1):aE w (dL w.P F I K q G) p (aA (cA w.P F I)) ⟨(du w.P F I Sl M H z k3 sw tw hd th ts E eS n (m+1) (some ((x1,x2),some (y1,y2))) (some v3) (some v4) (sv++[.int (O f) tf]) Y sg),[S,[]],N,J,[],U⟩ (.ok (.again (cA w.P F I))) yq ⟨[(F,iM w.P H z k3 sw tw hd th Sl (some ((x1,(.int (O (n8+hd)) (aV+4))),some (y1,(.ref (aZ+4+2)))))),(F+1,ba (some (.ref M))),(F+2,ba (some (Z sg ts))),(F+3,ba (some (.int (O n) J))),(F+4,ba (some (.int (O f) tf))),(Sl,aq (sv++[bE (O f) tf]++[bE (O E2) (cS+6)]) (eS+1)),(M,aq Y E),(I,bF (O (n+1)) (O m) 1)],[S],(fg+1),(cS+7),[],U⟩:=
 by revert w;exact @(jN 0x294fd569f69f553e271d3cfeab3fcfe9c71ce54a92826fc15fd7f5fd7f17f5fd4bf8bfafea1863155538e39c92a9f93f4fd3f9dd65eedd7bdc1bdeedb 0x294fd569f69f553e271d3cfeab3fcfe952a4a09bf057f5fd7f5fc5fd7f52fe2febfa8618c555492a9f93f4fd3f9dd65eedd7bdc1bdeedb (λw h7 bQ oS=>[eV w [7] I n m,dZ w [6] Sl eS (J+2) sv (.int (O f) tf),fQ w [0,7] N M E tf J f n h0,gO w [0,0,0,0] [0] h7,gP w [0,0,1] bQ,cT w [8] Sl eS cn,cR w (aV+1+1) (aV+3) b0,cb w (aV+4) tw cz,bZ w ts cP,gE w [0] (aZ+4) (aV+8) (aV+6+1) (aV+9) iO dM,uG w [0,0,0,12,12,9,11,11] [0,0] oS,jA w [2,0] (aZ+4+2) fg iZ 0 oT,cT w [10] Sl eS cn,cR w (cS+1+1) (cS+3) b0,cb w th (cS+4) gT,gD w n 1 _ J (cS+5) d0,bR w [0] Sl eS (.int (O E2) (cS+6)) cn]) [19,5,5,6,6,0,4,12] [0])
section
variable (b0:(O (sv++[bE (O f) tf]).length==O 1)=false)(cz:jy (sv++[bE (O f) tf]) [bE (O 0) (aV+4),bE (O 0) (aV+5)] true)
include b0 cz
theorem X3 (cP:decide (O (n8+1)>O sw)=false):aE w (dL w.P F I K q G) p (aA (cA w.P F I)) ⟨(du w.P F I Sl M H z k3 sw tw hd th ts E eS n (m+1) (some ((x1,x2),some (y1,y2))) (some v3) (some v4) (sv++[.int (O f) tf]) Y sg),[S,[]],N,J,[],U⟩ (.ok (.again (cA w.P F I))) vy ⟨(du w.P F I Sl M H z k3 sw tw hd th ts E eS (n+1) m (some ((x1,(.int (O (n8+1)) (aV+7))),some (y1,y2))) (some (.int (O n) J)) (some (.int (O f) tf)) (sv++[bE (O f) tf]) Y sg),[S],(aZ+4+1),(aV+9),[],U⟩:=
 by revert w;exact @(lx 0x167d9f67d9f19f461a35fd4bf8bfafea1863155538e39c92a9f93f4fd3f9dd65eedd7bdc1bdeedb 0x59f67d9f67c67d1868d7f52fe2febfa8618c555492a9f93f4fd3f9dd65eedd7bdc1bdeedb (λw h7 bQ=>[eV w [7] I n m,dZ w [6] Sl eS (J+2) sv (.int (O f) tf),fQ w [0,7] N M E tf J f n h0,gO w [0,0,0,0] [0] h7,gP w [0,0,1] bQ,cT w [8] Sl eS cn,cR w (aV+1+1) (aV+3) b0,mM w [1,0] Sl (aZ+4) eS 0 cz,cb w (aV+7) tw cP]) [11,11,11,11,11,0,8,8] [0])
theorem X4 (cP:decide (O (n8+1)>O sw)=true)(je:sg.length<=100000)(dM:sg.length=0+lB)(gS:sg.length<=1000000)(oT:hV w F (aZ+8) (aZ+4+3) (aZ+4+2) I K E U M ts lB f tf n J (aZ+4+5) (aV+13) sU sV sW km sX gw gZ none Y [] sg S Ib q iz G)(gT:jz [] [] false):aE w (dL w.P F I K q G) p (aA (cA w.P F I)) ⟨(du w.P F I Sl M H z k3 sw tw hd th ts E eS n (m+1) (some ((x1,x2),some (y1,y2))) (some v3) (some v4) (sv++[.int (O f) tf]) Y sg),[S,[]],N,J,[],U⟩ (.ok (.again (cA w.P F I))) yr ⟨(du w.P F I Sl M H z k3 sw tw hd th ts E eS (n+1) m (some ((x1,(.int (O (n8+1)) (aV+7))),some (y1,(.ref (aZ+4+3))))) (some (.int (O n) J)) (some (.int (O f) tf)) (sv++[bE (O f) tf]) Y sg),[S],(gw+1),(gZ+4),[],U⟩:=
 by revert w;exact @(jN 0x557e271d3d3eab4fd3e9c71ce54a928277c167d9f67d9f19f461a35fd4bf8bfafea1863155538e39c92a9f93f4fd3f9dd65eedd7bdc1bdeedb 0x557e271d3d3eab4fd3e952a4a09df059f67d9f67c67d1868d7f52fe2febfa8618c555492a9f93f4fd3f9dd65eedd7bdc1bdeedb (λw h7 bQ oT=>[eV w [7] I n m,dZ w [6] Sl eS (J+2) sv (.int (O f) tf),fQ w [0,7] N M E tf J f n h0,gO w [0,0,0,0] [0] h7,gP w [0,0,1] bQ,cT w [8] Sl eS cn,cR w (aV+1+1) (aV+3) b0,mM w [1,0] Sl (aZ+4) eS 0 cz,cb w (aV+7) tw cP,bZ w ts je,gE w [0] (aZ+4+1) (aV+11) (aV+9+1) (aV+12) dM gS,uG w [0,0,0,13,13,10,12,12] [0,0] oT,jA w [2,0] (aZ+4+3) gw km 0 gT,cT w [10] Sl eS cn,cR w (gZ+1+1) (gZ+3) b0]) [20,5,5,6,6,0,4,13] [0])
end
theorem X5 (b0:(O (sv++[bE (O f) tf]).length==O 1)=true)(cz:decide (O (n8+hd)>O sw)=true)(cP:sg.length<=100000)(iO:sg.length=0+iY)(dM:sg.length<=1000000)(oS:hV w F (aZ+7) (aZ+4+2) (aZ+4+1) I K E U M ts iY f tf n J (aZ+4+4) (aV+10) qO qP qQ iZ qS fg cS none Y [] sg S Ia q iz G)(oT:jz [] [] false)(gT:decide (O hd>O 0)=false):aE w (dL w.P F I K q G) p (aA (cA w.P F I)) ⟨(du w.P F I Sl M H z k3 sw tw hd th ts E eS n (m+1) (some ((x1,x2),some (y1,y2))) (some v3) (some v4) (sv++[.int (O f) tf]) Y sg),[S,[]],N,J,[],U⟩ (.ok (.again (cA w.P F I))) yt ⟨(du w.P F I Sl M H z k3 sw tw hd th ts E eS (n+1) m (some ((x1,(.int (O (n8+hd)) (aV+4))),some (y1,(.ref (aZ+4+2))))) (some (.int (O n) J)) (some (.int (O f) tf)) (sv++[bE (O f) tf]) Y sg),[S],(fg+1),(cS+5),[],U⟩:=
 by revert w;exact @(jN 0x69f553e271d3cfeab3fcfe9c71ce54a92826fc15fd7f5fd7f17f5fd4bf8bfafea1863155538e39c92a9f93f4fd3f9dd65eedd7bdc1bdeedb 0x69f553e271d3cfeab3fcfe952a4a09bf057f5fd7f5fc5fd7f52fe2febfa8618c555492a9f93f4fd3f9dd65eedd7bdc1bdeedb (λw h7 bQ oS=>[eV w [7] I n m,dZ w [6] Sl eS (J+2) sv (.int (O f) tf),fQ w [0,7] N M E tf J f n h0,gO w [0,0,0,0] [0] h7,gP w [0,0,1] bQ,cT w [8] Sl eS cn,cR w (aV+1+1) (aV+3) b0,cb w (aV+4) tw cz,bZ w ts cP,gE w [0] (aZ+4) (aV+8) (aV+6+1) (aV+9) iO dM,uG w [0,0,0,12,12,9,11,11] [0,0] oS,jA w [2,0] (aZ+4+2) fg iZ 0 oT,cT w [10] Sl eS cn,cR w (cS+1+1) (cS+3) b0,cb w th (cS+4) gT]) [19,5,5,6,6,0,4,12] [0])
section
variable (b0:(O (sv++[bE (O f) tf]).length==O 1)=false)(cz:jy (sv++[bE (O f) tf]) [bE (O 0) (aV+4),bE (O 0) (aV+5)] false)
include b0 cz
theorem X6 (cP:decide (O n8>O sw)=false):aE w (dL w.P F I K q G) p (aA (cA w.P F I)) ⟨(du w.P F I Sl M H z k3 sw tw hd th ts E eS n (m+1) (some ((x1,x2),some (y1,y2))) (some v3) (some v4) (sv++[.int (O f) tf]) Y sg),[S,[]],N,J,[],U⟩ (.ok (.again (cA w.P F I))) vy ⟨(du w.P F I Sl M H z k3 sw tw hd th ts E eS (n+1) m (some ((x1,(.int (O n8) lA)),some (y1,y2))) (some (.int (O n) J)) (some (.int (O f) tf)) (sv++[bE (O f) tf]) Y sg),[S],(aZ+4+1),(aV+6),[],U⟩:=
 by revert w;exact @(lx 0x167d9f461a35fd4bf8bfafea1863155538e39c92a9f93f4fd3f9dd65eedd7bdc1bdeedb 0x59f67d1868d7f52fe2febfa8618c555492a9f93f4fd3f9dd65eedd7bdc1bdeedb (λw h7 bQ=>[eV w [7] I n m,dZ w [6] Sl eS (J+2) sv (.int (O f) tf),fQ w [0,7] N M E tf J f n h0,gO w [0,0,0,0] [0] h7,gP w [0,0,1] bQ,cT w [8] Sl eS cn,cR w (aV+1+1) (aV+3) b0,mM w [1,0] Sl (aZ+4) eS 0 cz,cb w lA tw cP]) [11,11,11,11,11,0,8,8] [0])
theorem X7 (cP:decide (O n8>O sw)=true)(je:sg.length<=100000)(dM:sg.length=0+lB)(gS:sg.length<=1000000)(oT:hV w F (aZ+8) (aZ+4+3) (aZ+4+2) I K E U M ts lB f tf n J (aZ+4+5) (aV+10) sU sV sW km sX gw gZ none Y [] sg S Ib q iz G)(gT:jz [] [] false):aE w (dL w.P F I K q G) p (aA (cA w.P F I)) ⟨(du w.P F I Sl M H z k3 sw tw hd th ts E eS n (m+1) (some ((x1,x2),some (y1,y2))) (some v3) (some v4) (sv++[.int (O f) tf]) Y sg),[S,[]],N,J,[],U⟩ (.ok (.again (cA w.P F I))) yr ⟨(du w.P F I Sl M H z k3 sw tw hd th ts E eS (n+1) m (some ((x1,(.int (O n8) lA)),some (y1,(.ref (aZ+4+3))))) (some (.int (O n) J)) (some (.int (O f) tf)) (sv++[bE (O f) tf]) Y sg),[S],(gw+1),(gZ+4),[],U⟩:=
 by revert w;exact @(jN 0x557e271d3d3eab4fd3e9c71ce54a928277c167d9f461a35fd4bf8bfafea1863155538e39c92a9f93f4fd3f9dd65eedd7bdc1bdeedb 0x557e271d3d3eab4fd3e952a4a09df059f67d1868d7f52fe2febfa8618c555492a9f93f4fd3f9dd65eedd7bdc1bdeedb (λw h7 bQ oT=>[eV w [7] I n m,dZ w [6] Sl eS (J+2) sv (.int (O f) tf),fQ w [0,7] N M E tf J f n h0,gO w [0,0,0,0] [0] h7,gP w [0,0,1] bQ,cT w [8] Sl eS cn,cR w (aV+1+1) (aV+3) b0,mM w [1,0] Sl (aZ+4) eS 0 cz,cb w lA tw cP,bZ w ts je,gE w [0] (aZ+4+1) (aV+8) (aV+6+1) (aV+9) dM gS,uG w [0,0,0,13,13,10,12,12] [0,0] oT,jA w [2,0] (aZ+4+3) gw km 0 gT,cT w [10] Sl eS cn,cR w (gZ+1+1) (gZ+3) b0]) [20,5,5,6,6,0,4,13] [0])
end
theorem X8 (b0:(O (sv++[bE (O f) tf]).length==O 1)=true)(cz:decide (O (n8+hd)>O sw)=true)(cP:sg.length<=100000)(iO:sg.length=0+iY)(dM:sg.length<=1000000)(gT:hV w F (aZ+7) (aZ+4+2) (aZ+4+1) I K E U M ts iY f tf n J (aZ+4+4) (aV+10) qO qP qQ iZ qS fg cS (some (vV,vY)) Y [] sg S CL q iz G)(jE:jz [] [] false)(d0:decide (O hd>O 0)=true)(hM:n=sY+1):aE w (dL w.P F I K q G) p (aA (cA w.P F I)) ⟨(du w.P F I Sl M H z k3 sw tw hd th ts E eS n (m+1) (some ((x1,x2),some (y1,y2))) (some v3) (some v4) (sv++[.int (O f) tf]) Y sg),[S,[]],N,J,[],U⟩ (.ok (.again (cA w.P F I))) yq ⟨[(F,iM w.P H z k3 sw tw hd th Sl (some ((x1,(.int (O (n8+hd)) (aV+4))),some (y1,(.ref (aZ+4+2)))))),(F+1,ba (some (.ref M))),(F+2,ba (some (Z sg ts))),(F+3,ba (some (.int (O n) J))),(F+4,ba (some (.int (O f) tf))),(Sl,aq (sv++[bE (O f) tf]++[bE (O sY) (cS+6)]) (eS+1)),(M,aq Y E),(I,bF (O (n+1)) (O m) 1)],[S],(fg+1),(cS+7),[],U⟩:=
 by revert w;exact @(jN 0x294fd569f69f553e271d3cfeaab3fcfe9c71ce54a92826fc15fd7f5fd7f17f5fd4bf8bfafea1863155538e39c92a9f93f4fd3f9dd65eedd7bdc1bdeedb 0x294fd569f69f553e271d3cfeaab3fcfe952a4a09bf057f5fd7f5fc5fd7f52fe2febfa8618c555492a9f93f4fd3f9dd65eedd7bdc1bdeedb (λw h7 bQ gT=>[eV w [7] I n m,dZ w [6] Sl eS (J+2) sv (.int (O f) tf),fQ w [0,7] N M E tf J f n h0,gO w [0,0,0,0] [0] h7,gP w [0,0,1] bQ,cT w [8] Sl eS cn,cR w (aV+1+1) (aV+3) b0,cb w (aV+4) tw cz,bZ w ts cP,gE w [0] (aZ+4) (aV+8) (aV+6+1) (aV+9) iO dM,uH w [0,0,0,12,12,9,11,11] [0,0] gT,jA w [2,0] (aZ+4+2) fg iZ 0 jE,cT w [10] Sl eS cn,cR w (cS+1+1) (cS+3) b0,cb w th (cS+4) d0,gD w n 1 _ J (cS+5) hM,bR w [0] Sl eS (.int (O sY) (cS+6)) cn]) [19,5,5,6,6,0,4,12] [0])
theorem X9 (b0:(O (sv++[bE (O f) tf]).length==O 1)=false)(cz:jy (sv++[bE (O f) tf]) [bE (O 0) (aV+4),bE (O 0) (aV+5)] true)(cP:decide (O (n8+1)>O sw)=true)(je:sg.length<=100000)(dM:sg.length=0+lB)(gS:sg.length<=1000000)(jE:hV w F (aZ+8) (aZ+4+3) (aZ+4+2) I K E U M ts lB f tf n J (aZ+4+5) (aV+13) sU sV sW km sX gw gZ (some (zn,zV)) Y [] sg S Ic q iz G)(d0:jz [] [] false):aE w (dL w.P F I K q G) p (aA (cA w.P F I)) ⟨(du w.P F I Sl M H z k3 sw tw hd th ts E eS n (m+1) (some ((x1,x2),some (y1,y2))) (some v3) (some v4) (sv++[.int (O f) tf]) Y sg),[S,[]],N,J,[],U⟩ (.ok (.again (cA w.P F I))) yr ⟨(du w.P F I Sl M H z k3 sw tw hd th ts E eS (n+1) m (some ((x1,(.int (O (n8+1)) (aV+7))),some (y1,(.ref (aZ+4+3))))) (some (.int (O n) J)) (some (.int (O f) tf)) (sv++[bE (O f) tf]) Y sg),[S],(gw+1),(gZ+4),[],U⟩:=
 by revert w;exact @(jN 0x557e271d3d3eaab4fd3e9c71ce54a928277c167d9f67d9f19f461a35fd4bf8bfafea1863155538e39c92a9f93f4fd3f9dd65eedd7bdc1bdeedb 0x557e271d3d3eaab4fd3e952a4a09df059f67d9f67c67d1868d7f52fe2febfa8618c555492a9f93f4fd3f9dd65eedd7bdc1bdeedb (λw h7 bQ jE=>[eV w [7] I n m,dZ w [6] Sl eS (J+2) sv (.int (O f) tf),fQ w [0,7] N M E tf J f n h0,gO w [0,0,0,0] [0] h7,gP w [0,0,1] bQ,cT w [8] Sl eS cn,cR w (aV+1+1) (aV+3) b0,mM w [1,0] Sl (aZ+4) eS 0 cz,cb w (aV+7) tw cP,bZ w ts je,gE w [0] (aZ+4+1) (aV+11) (aV+9+1) (aV+12) dM gS,uH w [0,0,0,13,13,10,12,12] [0,0] jE,jA w [2,0] (aZ+4+3) gw km 0 d0,cT w [10] Sl eS cn,cR w (gZ+1+1) (gZ+3) b0]) [20,5,5,6,6,0,4,13] [0])
theorem Yb (b0:(O (sv++[bE (O f) tf]).length==O 1)=true)(cz:decide (O (n8+hd)>O sw)=true)(cP:sg.length<=100000)(iO:sg.length=0+iY)(dM:sg.length<=1000000)(gT:hV w F (aZ+7) (aZ+4+2) (aZ+4+1) I K E U M ts iY f tf n J (aZ+4+4) (aV+10) qO qP qQ iZ qS fg cS (some (vV,vY)) Y [] sg S CL q iz G)(jE:jz [] [] false)(d0:decide (O hd>O 0)=false):aE w (dL w.P F I K q G) p (aA (cA w.P F I)) ⟨(du w.P F I Sl M H z k3 sw tw hd th ts E eS n (m+1) (some ((x1,x2),some (y1,y2))) (some v3) (some v4) (sv++[.int (O f) tf]) Y sg),[S,[]],N,J,[],U⟩ (.ok (.again (cA w.P F I))) yt ⟨(du w.P F I Sl M H z k3 sw tw hd th ts E eS (n+1) m (some ((x1,(.int (O (n8+hd)) (aV+4))),some (y1,(.ref (aZ+4+2))))) (some (.int (O n) J)) (some (.int (O f) tf)) (sv++[bE (O f) tf]) Y sg),[S],(fg+1),(cS+5),[],U⟩:=
 by revert w;exact @(jN 0x69f553e271d3cfeaab3fcfe9c71ce54a92826fc15fd7f5fd7f17f5fd4bf8bfafea1863155538e39c92a9f93f4fd3f9dd65eedd7bdc1bdeedb 0x69f553e271d3cfeaab3fcfe952a4a09bf057f5fd7f5fc5fd7f52fe2febfa8618c555492a9f93f4fd3f9dd65eedd7bdc1bdeedb (λw h7 bQ gT=>[eV w [7] I n m,dZ w [6] Sl eS (J+2) sv (.int (O f) tf),fQ w [0,7] N M E tf J f n h0,gO w [0,0,0,0] [0] h7,gP w [0,0,1] bQ,cT w [8] Sl eS cn,cR w (aV+1+1) (aV+3) b0,cb w (aV+4) tw cz,bZ w ts cP,gE w [0] (aZ+4) (aV+8) (aV+6+1) (aV+9) iO dM,uH w [0,0,0,12,12,9,11,11] [0,0] gT,jA w [2,0] (aZ+4+2) fg iZ 0 jE,cT w [10] Sl eS cn,cR w (cS+1+1) (cS+3) b0,cb w th (cS+4) d0]) [19,5,5,6,6,0,4,12] [0])
theorem Yc (b0:(O (sv++[bE (O f) tf]).length==O 1)=false)(cz:jy (sv++[bE (O f) tf]) [bE (O 0) (aV+4),bE (O 0) (aV+5)] false)(cP:decide (O n8>O sw)=true)(je:sg.length<=100000)(dM:sg.length=0+lB)(gS:sg.length<=1000000)(jE:hV w F (aZ+8) (aZ+4+3) (aZ+4+2) I K E U M ts lB f tf n J (aZ+4+5) (aV+10) sU sV sW km sX gw gZ (some (zn,zV)) Y [] sg S Ic q iz G)(d0:jz [] [] false):aE w (dL w.P F I K q G) p (aA (cA w.P F I)) ⟨(du w.P F I Sl M H z k3 sw tw hd th ts E eS n (m+1) (some ((x1,x2),some (y1,y2))) (some v3) (some v4) (sv++[.int (O f) tf]) Y sg),[S,[]],N,J,[],U⟩ (.ok (.again (cA w.P F I))) yr ⟨(du w.P F I Sl M H z k3 sw tw hd th ts E eS (n+1) m (some ((x1,(.int (O n8) lA)),some (y1,(.ref (aZ+4+3))))) (some (.int (O n) J)) (some (.int (O f) tf)) (sv++[bE (O f) tf]) Y sg),[S],(gw+1),(gZ+4),[],U⟩:=
 by revert w;exact @(jN 0x557e271d3d3eaab4fd3e9c71ce54a928277c167d9f461a35fd4bf8bfafea1863155538e39c92a9f93f4fd3f9dd65eedd7bdc1bdeedb 0x557e271d3d3eaab4fd3e952a4a09df059f67d1868d7f52fe2febfa8618c555492a9f93f4fd3f9dd65eedd7bdc1bdeedb (λw h7 bQ jE=>[eV w [7] I n m,dZ w [6] Sl eS (J+2) sv (.int (O f) tf),fQ w [0,7] N M E tf J f n h0,gO w [0,0,0,0] [0] h7,gP w [0,0,1] bQ,cT w [8] Sl eS cn,cR w (aV+1+1) (aV+3) b0,mM w [1,0] Sl (aZ+4) eS 0 cz,cb w lA tw cP,bZ w ts je,gE w [0] (aZ+4+1) (aV+8) (aV+6+1) (aV+9) dM gS,uH w [0,0,0,13,13,10,12,12] [0,0] jE,jA w [2,0] (aZ+4+3) gw km 0 d0,cT w [10] Sl eS cn,cR w (gZ+1+1) (gZ+3) b0]) [20,5,5,6,6,0,4,13] [0])
theorem Yd (b0:(O (sv++[bE (O f) tf]).length==O 1)=true)(cz:decide (O (n8+hd)>O sw)=true)(cP:sg.length<=100000)(iO:sg.length=0+iY)(dM:sg.length<=1000000)(d0:hV w F (aZ+7) (aZ+4+2) (aZ+4+1) I K E U M ts iY f tf n J (aZ+4+4) (aV+10) qO qP qQ iZ qS fg cS (some (vV,vY)) Y (aQ sZ::tR) sg S zP q iz G)(kA:jz (aQ sZ::tR) [] true)(mX:rJ w (fg+1) (fg+2) (aZ+4+2) iZ F I K (fg+3) (cS+1) U 0 HU HV HW s3 s4 HX HY zo zp (aQ sZ::tR) S zP q jl G jl):aE w (dL w.P F I K q G) p (aA (cA w.P F I)) ⟨(du w.P F I Sl M H z k3 sw tw hd th ts E eS n (m+1) (some ((x1,x2),some (y1,y2))) (some v3) (some v4) (sv++[.int (O f) tf]) Y sg),[S,[]],N,J,[],U⟩ (.ok (.again (cA w.P F I))) yu ⟨[(F,iM w.P H z k3 sw tw hd th Sl (some ((x1,(.int (O (n8+hd)) (aV+4))),some (y1,(.ref (aZ+4+2)))))),(F+1,ba (some (.ref M))),(F+2,ba (some (Z sg ts))),(F+3,ba (some (.int (O n) J))),(F+4,ba (some (.int (O f) tf))),(Sl,aq (sv++[bE (O f) tf]++[bE (O s3) s4]) (eS+1)),(M,aq Y E),(I,bF (O (n+1)) (O m) 1)],[S],zo,(zp+1),[],U⟩:=
 by revert w;exact @(sL 0x5df16596b5a9294f8bfafebfaff4fa71d3cfeaab3fcfe9c71ce54a92826fc15fd7f5fd7f17f5fd4bf8bfafea1863155538e39c92a9f93f4fd3f9dd65eedd7bdc1bdeedb 0x5df16596b5a9294f8bfafebfaff4fa71d3cfeaab3fcfe952a4a09bf057f5fd7f5fc5fd7f52fe2febfa8618c555492a9f93f4fd3f9dd65eedd7bdc1bdeedb (λw h7 bQ d0 mX=>[eV w [7] I n m,dZ w [6] Sl eS (J+2) sv (.int (O f) tf),fQ w [0,7] N M E tf J f n h0,gO w [0,0,0,0] [0] h7,gP w [0,0,1] bQ,cT w [8] Sl eS cn,cR w (aV+1+1) (aV+3) b0,cb w (aV+4) tw cz,bZ w ts cP,gE w [0] (aZ+4) (aV+8) (aV+6+1) (aV+9) iO dM,Bl w [0,0,0,12,12,9,11,11] [0,0] d0,jA w [2,0] (aZ+4+2) fg iZ 0 kA,Bm w [1,1,0] [0,0] mX,bR w [13] Sl eS (.int (O s3) s4) cn]) [22,8,8,9,9,0,7,15] [0])
theorem Ye (b0:(O (sv++[bE (O f) tf]).length==O 1)=false)(cz:jy (sv++[bE (O f) tf]) [bE (O 0) (aV+4),bE (O 0) (aV+5)] true)(cP:decide (O (n8+1)>O sw)=true)(je:sg.length<=100000)(dM:sg.length=0+lB)(gS:sg.length<=1000000)(kA:hV w F (aZ+8) (aZ+4+3) (aZ+4+2) I K E U M ts lB f tf n J (aZ+4+5) (aV+13) sU sV sW km sX gw gZ (some (zn,zV)) Y (aQ s5::tT) sg S zQ q iz G)(hM:jz (aQ s5::tT) [] true)(xe:rJ w (gw+1) (gw+2) (aZ+4+3) km F I K (gw+3) (gZ+1) U 0 HZ H0 H1 s6 s7 H2 H3 zq zr (aQ s5::tT) S zQ q jl G jl):aE w (dL w.P F I K q G) p (aA (cA w.P F I)) ⟨(du w.P F I Sl M H z k3 sw tw hd th ts E eS n (m+1) (some ((x1,x2),some (y1,y2))) (some v3) (some v4) (sv++[.int (O f) tf]) Y sg),[S,[]],N,J,[],U⟩ (.ok (.again (cA w.P F I))) yu ⟨[(F,iM w.P H z k3 sw tw hd th Sl (some ((x1,(.int (O (n8+1)) (aV+7))),some (y1,(.ref (aZ+4+3)))))),(F+1,ba (some (.ref M))),(F+2,ba (some (Z sg ts))),(F+3,ba (some (.int (O n) J))),(F+4,ba (some (.int (O f) tf))),(Sl,aq (sv++[bE (O f) tf]++[bE (O s6) s7]) (eS+1)),(M,aq Y E),(I,bF (O (n+1)) (O m) 1)],[S],zq,(zr+1),[],U⟩:=
 by revert w;exact @(sL 0x5df16596b5a9295f8bfafebfaff5fa71d3d3eaab4fd3e9c71ce54a928277c167d9f67d9f19f461a35fd4bf8bfafea1863155538e39c92a9f93f4fd3f9dd65eedd7bdc1bdeedb 0x5df16596b5a9295f8bfafebfaff5fa71d3d3eaab4fd3e952a4a09df059f67d9f67c67d1868d7f52fe2febfa8618c555492a9f93f4fd3f9dd65eedd7bdc1bdeedb (λw h7 bQ kA xe=>[eV w [7] I n m,dZ w [6] Sl eS (J+2) sv (.int (O f) tf),fQ w [0,7] N M E tf J f n h0,gO w [0,0,0,0] [0] h7,gP w [0,0,1] bQ,cT w [8] Sl eS cn,cR w (aV+1+1) (aV+3) b0,mM w [1,0] Sl (aZ+4) eS 0 cz,cb w (aV+7) tw cP,bZ w ts je,gE w [0] (aZ+4+1) (aV+11) (aV+9+1) (aV+12) dM gS,Bl w [0,0,0,13,13,10,12,12] [0,0] kA,jA w [2,0] (aZ+4+3) gw km 0 hM,Bm w [1,1,0] [0,0] xe,bR w [13] Sl eS (.int (O s6) s7) cn]) [23,8,8,9,9,0,7,16] [0])
theorem Yg (b0:(O (sv++[bE (O f) tf]).length==O 1)=false)(cz:jy (sv++[bE (O f) tf]) [bE (O 0) (aV+4),bE (O 0) (aV+5)] false)(cP:decide (O n8>O sw)=true)(je:sg.length<=100000)(dM:sg.length=0+lB)(gS:sg.length<=1000000)(kA:hV w F (aZ+8) (aZ+4+3) (aZ+4+2) I K E U M ts lB f tf n J (aZ+4+5) (aV+10) sU sV sW km sX gw gZ (some (zn,zV)) Y (aQ s5::tT) sg S zQ q iz G)(hM:jz (aQ s5::tT) [] true)(xe:rJ w (gw+1) (gw+2) (aZ+4+3) km F I K (gw+3) (gZ+1) U 0 HZ H0 H1 s6 s7 H2 H3 zq zr (aQ s5::tT) S zQ q jl G jl):aE w (dL w.P F I K q G) p (aA (cA w.P F I)) ⟨(du w.P F I Sl M H z k3 sw tw hd th ts E eS n (m+1) (some ((x1,x2),some (y1,y2))) (some v3) (some v4) (sv++[.int (O f) tf]) Y sg),[S,[]],N,J,[],U⟩ (.ok (.again (cA w.P F I))) yu ⟨[(F,iM w.P H z k3 sw tw hd th Sl (some ((x1,(.int (O n8) lA)),some (y1,(.ref (aZ+4+3)))))),(F+1,ba (some (.ref M))),(F+2,ba (some (Z sg ts))),(F+3,ba (some (.int (O n) J))),(F+4,ba (some (.int (O f) tf))),(Sl,aq (sv++[bE (O f) tf]++[bE (O s6) s7]) (eS+1)),(M,aq Y E),(I,bF (O (n+1)) (O m) 1)],[S],zq,(zr+1),[],U⟩:=
 by revert w;exact @(sL 0x5df16596b5a9295f8bfafebfaff5fa71d3d3eaab4fd3e9c71ce54a928277c167d9f461a35fd4bf8bfafea1863155538e39c92a9f93f4fd3f9dd65eedd7bdc1bdeedb 0x5df16596b5a9295f8bfafebfaff5fa71d3d3eaab4fd3e952a4a09df059f67d1868d7f52fe2febfa8618c555492a9f93f4fd3f9dd65eedd7bdc1bdeedb (λw h7 bQ kA xe=>[eV w [7] I n m,dZ w [6] Sl eS (J+2) sv (.int (O f) tf),fQ w [0,7] N M E tf J f n h0,gO w [0,0,0,0] [0] h7,gP w [0,0,1] bQ,cT w [8] Sl eS cn,cR w (aV+1+1) (aV+3) b0,mM w [1,0] Sl (aZ+4) eS 0 cz,cb w lA tw cP,bZ w ts je,gE w [0] (aZ+4+1) (aV+8) (aV+6+1) (aV+9) dM gS,Bl w [0,0,0,13,13,10,12,12] [0,0] kA,jA w [2,0] (aZ+4+3) gw km 0 hM,Bm w [1,1,0] [0,0] xe,bR w [13] Sl eS (.int (O s6) s7) cn]) [23,8,8,9,9,0,7,16] [0])
section
variable (b0:(O (sv++[bE (O f) tf]).length==O 1)=true)
include b0
theorem Yh (cz:decide (O (n8+hd)>O sw)=false):aE w (dL w.P F I K q G) p (aA (cA w.P F I)) ⟨(du w.P F I Sl M H z k3 sw tw hd th ts E eS n (m+1) (some ((x1,x2),none)) (some v3) (some v4) (sv++[.int (O f) tf]) Y sg),[S,[]],N,J,[],U⟩ (.ok (.again (cA w.P F I))) vy ⟨(du w.P F I Sl M H z k3 sw tw hd th ts E eS (n+1) m (some ((x1,(.int (O (n8+hd)) (aV+4))),none)) (some (.int (O n) J)) (some (.int (O f) tf)) (sv++[bE (O f) tf]) Y sg),[S],(aZ+4),(aV+6),[],U⟩:=
 by revert w;exact @(lx 0x15fd7f5fd7f17f5fd4bf8bfafea1863155538e39c92a9f93f4fd3f9dd65eedd7bdc1bdeedb 0x57f5fd7f5fc5fd7f52fe2febfa8618c555492a9f93f4fd3f9dd65eedd7bdc1bdeedb (λw h7 bQ=>[eV w [7] I n m,dZ w [6] Sl eS (J+2) sv (.int (O f) tf),fQ w [0,7] N M E tf J f n h0,gO w [0,0,0,0] [0] h7,gP w [0,0,1] bQ,cT w [8] Sl eS cn,cR w (aV+1+1) (aV+3) b0,cb w (aV+4) tw cz]) [10,10,10,10,10,0,7,7] [0])
section
variable (cz:decide (O (n8+hd)>O sw)=true)(cP:sg.length<=100000)(iO:sg.length=0+iY)(dM:sg.length<=1000000)(gT:hV w F (aZ+7) (aZ+4+2) (aZ+4+1) I K E U M ts iY f tf n J (aZ+4+4) (aV+10) qO qP qQ iZ qS fg cS (some (vV,vY)) Y [] sg S CL q iz G)(jE:jz [] [] false)
include cz cP iO dM gT jE
theorem Yi (d0:decide (O hd>O 0)=true)(hM:n=sY+1):aE w (dL w.P F I K q G) p (aA (cA w.P F I)) ⟨(du w.P F I Sl M H z k3 sw tw hd th ts E eS n (m+1) (some ((x1,x2),none)) (some v3) (some v4) (sv++[.int (O f) tf]) Y sg),[S,[]],N,J,[],U⟩ (.ok (.again (cA w.P F I))) yq ⟨[(F,iM w.P H z k3 sw tw hd th Sl (some ((x1,(.int (O (n8+hd)) (aV+4))),some (cS,(.ref (aZ+4+2)))))),(F+1,ba (some (.ref M))),(F+2,ba (some (Z sg ts))),(F+3,ba (some (.int (O n) J))),(F+4,ba (some (.int (O f) tf))),(Sl,aq (sv++[bE (O f) tf]++[bE (O sY) (cS+6)]) (eS+1)),(M,aq Y E),(I,bF (O (n+1)) (O m) 1)],[S],(fg+1),(cS+7),[],U⟩:=
 by revert w;exact @(jN 0x294fd569f69f553e271d3cfeaab3fcfe9c71ce54a92826fc15fd7f5fd7f17f5fd4bf8bfafea1863155538e39c92a9f93f4fd3f9dd65eedd7bdc1bdeedb 0x294fd569f69f553e271d3cfeaab3fcfe952a4a09bf057f5fd7f5fc5fd7f52fe2febfa8618c555492a9f93f4fd3f9dd65eedd7bdc1bdeedb (λw h7 bQ gT=>[eV w [7] I n m,dZ w [6] Sl eS (J+2) sv (.int (O f) tf),fQ w [0,7] N M E tf J f n h0,gO w [0,0,0,0] [0] h7,gP w [0,0,1] bQ,cT w [8] Sl eS cn,cR w (aV+1+1) (aV+3) b0,cb w (aV+4) tw cz,bZ w ts cP,gE w [0] (aZ+4) (aV+8) (aV+6+1) (aV+9) iO dM,uH w [0,0,0,12,12,9,11,11] [0,0] gT,jA w [2,0] (aZ+4+2) fg iZ 0 jE,cT w [10] Sl eS cn,cR w (cS+1+1) (cS+3) b0,cb w th (cS+4) d0,gD w n 1 _ J (cS+5) hM,bR w [0] Sl eS (.int (O sY) (cS+6)) cn]) [19,5,5,6,6,0,4,12] [0])
theorem Yj (d0:decide (O hd>O 0)=false):aE w (dL w.P F I K q G) p (aA (cA w.P F I)) ⟨(du w.P F I Sl M H z k3 sw tw hd th ts E eS n (m+1) (some ((x1,x2),none)) (some v3) (some v4) (sv++[.int (O f) tf]) Y sg),[S,[]],N,J,[],U⟩ (.ok (.again (cA w.P F I))) yt ⟨(du w.P F I Sl M H z k3 sw tw hd th ts E eS (n+1) m (some ((x1,(.int (O (n8+hd)) (aV+4))),some (cS,(.ref (aZ+4+2))))) (some (.int (O n) J)) (some (.int (O f) tf)) (sv++[bE (O f) tf]) Y sg),[S],(fg+1),(cS+5),[],U⟩:=
 by revert w;exact @(jN 0x69f553e271d3cfeaab3fcfe9c71ce54a92826fc15fd7f5fd7f17f5fd4bf8bfafea1863155538e39c92a9f93f4fd3f9dd65eedd7bdc1bdeedb 0x69f553e271d3cfeaab3fcfe952a4a09bf057f5fd7f5fc5fd7f52fe2febfa8618c555492a9f93f4fd3f9dd65eedd7bdc1bdeedb (λw h7 bQ gT=>[eV w [7] I n m,dZ w [6] Sl eS (J+2) sv (.int (O f) tf),fQ w [0,7] N M E tf J f n h0,gO w [0,0,0,0] [0] h7,gP w [0,0,1] bQ,cT w [8] Sl eS cn,cR w (aV+1+1) (aV+3) b0,cb w (aV+4) tw cz,bZ w ts cP,gE w [0] (aZ+4) (aV+8) (aV+6+1) (aV+9) iO dM,uH w [0,0,0,12,12,9,11,11] [0,0] gT,jA w [2,0] (aZ+4+2) fg iZ 0 jE,cT w [10] Sl eS cn,cR w (cS+1+1) (cS+3) b0,cb w th (cS+4) d0]) [19,5,5,6,6,0,4,12] [0])
end
theorem Yk (cz:decide (O (n8+hd)>O sw)=true)(cP:sg.length<=100000)(iO:sg.length=0+iY)(dM:sg.length<=1000000)(d0:hV w F (aZ+7) (aZ+4+2) (aZ+4+1) I K E U M ts iY f tf n J (aZ+4+4) (aV+10) qO qP qQ iZ qS fg cS (some (vV,vY)) Y (aQ sZ::tR) sg S zP q iz G)(kA:jz (aQ sZ::tR) [] true)(mX:rJ w (fg+1) (fg+2) (aZ+4+2) iZ F I K (fg+3) (cS+1) U 0 HU HV HW s3 s4 HX HY zo zp (aQ sZ::tR) S zP q jl G jl):aE w (dL w.P F I K q G) p (aA (cA w.P F I)) ⟨(du w.P F I Sl M H z k3 sw tw hd th ts E eS n (m+1) (some ((x1,x2),none)) (some v3) (some v4) (sv++[.int (O f) tf]) Y sg),[S,[]],N,J,[],U⟩ (.ok (.again (cA w.P F I))) yu ⟨[(F,iM w.P H z k3 sw tw hd th Sl (some ((x1,(.int (O (n8+hd)) (aV+4))),some (cS,(.ref (aZ+4+2)))))),(F+1,ba (some (.ref M))),(F+2,ba (some (Z sg ts))),(F+3,ba (some (.int (O n) J))),(F+4,ba (some (.int (O f) tf))),(Sl,aq (sv++[bE (O f) tf]++[bE (O s3) s4]) (eS+1)),(M,aq Y E),(I,bF (O (n+1)) (O m) 1)],[S],zo,(zp+1),[],U⟩:=
 by revert w;exact @(sL 0x5df16596b5a9294f8bfafebfaff4fa71d3cfeaab3fcfe9c71ce54a92826fc15fd7f5fd7f17f5fd4bf8bfafea1863155538e39c92a9f93f4fd3f9dd65eedd7bdc1bdeedb 0x5df16596b5a9294f8bfafebfaff4fa71d3cfeaab3fcfe952a4a09bf057f5fd7f5fc5fd7f52fe2febfa8618c555492a9f93f4fd3f9dd65eedd7bdc1bdeedb (λw h7 bQ d0 mX=>[eV w [7] I n m,dZ w [6] Sl eS (J+2) sv (.int (O f) tf),fQ w [0,7] N M E tf J f n h0,gO w [0,0,0,0] [0] h7,gP w [0,0,1] bQ,cT w [8] Sl eS cn,cR w (aV+1+1) (aV+3) b0,cb w (aV+4) tw cz,bZ w ts cP,gE w [0] (aZ+4) (aV+8) (aV+6+1) (aV+9) iO dM,Bl w [0,0,0,12,12,9,11,11] [0,0] d0,jA w [2,0] (aZ+4+2) fg iZ 0 kA,Bm w [1,1,0] [0,0] mX,bR w [13] Sl eS (.int (O s3) s4) cn]) [22,8,8,9,9,0,7,15] [0])
end
end
section
variable {F M m:Nat}{S:aJ}(h0:Y.length<=100000)(h7:wD w F (N+4) (N+3) (N+2) I K (N+1) 0 U (N+5) (J+3) ik aZ dK zm (eZ Y (some f) (some n)) gc (some Ii) S pu q pu G)(bQ:wE w aZ (aZ+1) (N+3) ik (aZ+2) (dK+1) U dK n8 lA aV gc HT (((dL w.P F I K q G).code,oj)::(dL w.P F I K q G).below) oj)
include h0 h7 bQ
theorem Yl (cn:decide (O (n8+hd)>O sw)=false):aE w (dL w.P F I K q G) p (aA (cA w.P F I)) ⟨[(F,iM w.P H z k3 sw tw hd th Sl none),(F+1,ba (some (.ref M))),(F+2,ba (some (Z sg ts))),(F+3,ba none),(F+4,ba none),(Sl,aq ([]++[.int (O f) tf]) eS),(M,aq Y E),(I,bF (O n) (O (m+1)) 1)],[S,[]],N,J,[],U⟩ (.ok (.again (cA w.P F I))) vy ⟨[(F,iM w.P H z k3 sw tw hd th Sl (some ((aV,(.int (O (n8+hd)) (aV+4))),none))),(F+1,ba (some (.ref M))),(F+2,ba (some (Z sg ts))),(F+3,ba (some (.int (O n) J))),(F+4,ba (some (.int (O f) tf))),(Sl,aq [(.int (O f) tf)] eS),(M,aq Y E),(I,bF (O (n+1)) (O m) 1)],[S],(aZ+4),(aV+6),[],U⟩:=
 by revert w;exact @(lx 0x15fd7f5fd7f17f5fd4bf8bfafea1863155538e39c92a9f93f4fd3f9dd65eedd7bdc1bdeedb 0x57f5fd7f5fc5fd7f52fe2febfa8618c555492a9f93f4fd3f9dd65eedd7bdc1bdeedb (λw h7 bQ=>[eV w [7] I n m,dZ w [6] Sl eS (J+2) [] (.int (O f) tf),fQ w [0,7] N M E tf J f n h0,gO w [0,0,0,0] [0] h7,gP w [0,0,1] bQ,cT w [8] Sl eS (Y:=[(.int (O f) tf)]) (of_decide_eq_true (by kernel_rfl)),cR w (a:=1) (b:=1) (aV+1+1) (aV+3) (r:=true) rfl,cb w (aV+4) tw cn]) [10,10,10,10,10,0,7,7] [0])
section
variable (cn:decide (O (n8+hd)>O sw)=true)(b0:sg.length<=100000)(cP:sg.length=0+H4)(je:sg.length<=1000000)(lS:hV w F (aZ+7) (aZ+4+2) (aZ+4+1) I K E U M ts H4 f tf n J (aZ+4+4) (aV+10) Qj Qk Ql CG Qm qN jo none Y [] sg S Qn q iz G)(xb:jz [] [] false)
include cn b0 cP je lS xb
theorem Ym (oS:decide (O hd>O 0)=true){E3:Nat}(gT:n=E3+1):aE w (dL w.P F I K q G) p (aA (cA w.P F I)) ⟨[(F,iM w.P H z k3 sw tw hd th Sl none),(F+1,ba (some (.ref M))),(F+2,ba (some (Z sg ts))),(F+3,ba none),(F+4,ba none),(Sl,aq ([]++[.int (O f) tf]) eS),(M,aq Y E),(I,bF (O n) (O (m+1)) 1)],[S,[]],N,J,[],U⟩ (.ok (.again (cA w.P F I))) yq ⟨[(F,iM w.P H z k3 sw tw hd th Sl (some ((aV,(.int (O (n8+hd)) (aV+4))),some (jo,(.ref (aZ+4+2)))))),(F+1,ba (some (.ref M))),(F+2,ba (some (Z sg ts))),(F+3,ba (some (.int (O n) J))),(F+4,ba (some (.int (O f) tf))),(Sl,aq [(.int (O f) tf),(.int (O E3) (jo+6))] (eS+1)),(M,aq Y E),(I,bF (O (n+1)) (O m) 1)],[S],(qN+1),(jo+7),[],U⟩:=
 by revert w;exact @(jN 0x294fd569f69f553e271d3cfeab3fcfe9c71ce54a92826fc15fd7f5fd7f17f5fd4bf8bfafea1863155538e39c92a9f93f4fd3f9dd65eedd7bdc1bdeedb 0x294fd569f69f553e271d3cfeab3fcfe952a4a09bf057f5fd7f5fc5fd7f52fe2febfa8618c555492a9f93f4fd3f9dd65eedd7bdc1bdeedb (λw h7 bQ lS=>[eV w [7] I n m,dZ w [6] Sl eS (J+2) [] (.int (O f) tf),fQ w [0,7] N M E tf J f n h0,gO w [0,0,0,0] [0] h7,gP w [0,0,1] bQ,cT w [8] Sl eS (Y:=[(.int (O f) tf)]) (of_decide_eq_true (by kernel_rfl)),cR w (a:=1) (b:=1) (aV+1+1) (aV+3) (r:=true) rfl,cb w (aV+4) tw cn,bZ w ts b0,gE w [0] (aZ+4) (aV+8) (aV+6+1) (aV+9) cP je,uG w [0,0,0,12,12,9,11,11] [0,0] lS,jA w [2,0] (aZ+4+2) qN CG 0 xb,cT w [10] Sl eS (Y:=[(.int (O f) tf)]) (of_decide_eq_true (by kernel_rfl)),cR w (a:=1) (b:=1) (jo+1+1) (jo+3) (r:=true) rfl,cb w th (jo+4) oS,gD w n 1 _ J (jo+5) gT,bR w [0] Sl eS (Y:=[(.int (O f) tf)]) (.int (O E3) (jo+6)) (of_decide_eq_true (by kernel_rfl))]) [19,5,5,6,6,0,4,12] [0])
theorem Yn (oS:decide (O hd>O 0)=false):aE w (dL w.P F I K q G) p (aA (cA w.P F I)) ⟨[(F,iM w.P H z k3 sw tw hd th Sl none),(F+1,ba (some (.ref M))),(F+2,ba (some (Z sg ts))),(F+3,ba none),(F+4,ba none),(Sl,aq ([]++[.int (O f) tf]) eS),(M,aq Y E),(I,bF (O n) (O (m+1)) 1)],[S,[]],N,J,[],U⟩ (.ok (.again (cA w.P F I))) yt ⟨[(F,iM w.P H z k3 sw tw hd th Sl (some ((aV,(.int (O (n8+hd)) (aV+4))),some (jo,(.ref (aZ+4+2)))))),(F+1,ba (some (.ref M))),(F+2,ba (some (Z sg ts))),(F+3,ba (some (.int (O n) J))),(F+4,ba (some (.int (O f) tf))),(Sl,aq [(.int (O f) tf)] eS),(M,aq Y E),(I,bF (O (n+1)) (O m) 1)],[S],(qN+1),(jo+5),[],U⟩:=
 by revert w;exact @(jN 0x69f553e271d3cfeab3fcfe9c71ce54a92826fc15fd7f5fd7f17f5fd4bf8bfafea1863155538e39c92a9f93f4fd3f9dd65eedd7bdc1bdeedb 0x69f553e271d3cfeab3fcfe952a4a09bf057f5fd7f5fc5fd7f52fe2febfa8618c555492a9f93f4fd3f9dd65eedd7bdc1bdeedb (λw h7 bQ lS=>[eV w [7] I n m,dZ w [6] Sl eS (J+2) [] (.int (O f) tf),fQ w [0,7] N M E tf J f n h0,gO w [0,0,0,0] [0] h7,gP w [0,0,1] bQ,cT w [8] Sl eS (Y:=[(.int (O f) tf)]) (of_decide_eq_true (by kernel_rfl)),cR w (a:=1) (b:=1) (aV+1+1) (aV+3) (r:=true) rfl,cb w (aV+4) tw cn,bZ w ts b0,gE w [0] (aZ+4) (aV+8) (aV+6+1) (aV+9) cP je,uG w [0,0,0,12,12,9,11,11] [0,0] lS,jA w [2,0] (aZ+4+2) qN CG 0 xb,cT w [10] Sl eS (Y:=[(.int (O f) tf)]) (of_decide_eq_true (by kernel_rfl)),cR w (a:=1) (b:=1) (jo+1+1) (jo+3) (r:=true) rfl,cb w th (jo+4) oS]) [19,5,5,6,6,0,4,12] [0])
end
end
theorem cps {P:Prop}(h:∀ai:Prop,(P->ai)->ai):P:=h P id
theorem E4 {A:Type}{P:A->Prop}{Q:Prop}(h:∃a,P a)(k:∀a,P a->Q):Q:=let⟨a,p⟩:=h;k a p
theorem uI {A B:Type}{P:A->B->Prop}{Q:Prop}(h:∃a b,P a b)(k:∀a b,P a b->Q):Q:=let⟨a,b,p⟩:=h;k a b p
theorem nW {A B C:Type}{P:A->B->C->Prop}{Q:Prop}(h:∃a b c,P a b c)(k:∀a b c,P a b c->Q):Q:=let⟨a,b,c,p⟩:=h;k a b c p
theorem uJ {A B C D aj:Type}{P:A->B->C->D->aj->Prop}{Q:Prop}(h:∃a b c ah e,P a b c ah e)(k:∀a b c ah e,P a b c ah e->Q):Q:=let⟨a,b,c,ah,e,p⟩:=h;k a b c ah e p
theorem Lm (Y:LV)(hb:b<=Y.length)(lJ:a<=b):eZ Y (some a) (some b)=(Y.take b).drop a:=by
 show(slicePick ⟨Y⟩ (some (a:Int)) (some (b:Int)) none).toList=_
 rw [slicePick_run ⟨Y⟩ a b hb lJ,List.drop_take]
variable {w:WB}
theorem Yo {F:Nat}{bv:List PT}(hn:bv.length<=10000)(h0:bv≠[])(gN:∀x∈bv,x∈ps)(hl:∀x∈ps,x.g.length<=100000/\x.x.length<=100000):∃kv aO e' N' au,aO.map aD=bv.map (λx=>x.g.length+x.x.length)/\ aP w (pW w.P F D av I I0 K q q1 G) p (aA (lM w.P F D av I)) (mK w.P D av I l none [] e (bm bv) E 0 [] [ps.map PT.ent] N J U) (.ok .next) (wA w.P D av I l (some kv) (aY aO) e' (bm bv) E bv.length [] [ps.map PT.ent] N' au U):=by
 cases bv with
 |nil=>exact absurd rfl h0
 |cons x r=>
  have hb:=hl x (gN x (.head _))
  have hm:x.ent∈ps.map PT.ent:=j8 (gN x (.head _))
  have t1:aE w (pW w.P F D av I I0 K q q1 G) p (aA (lM w.P F D av I)) (mK w.P D av I l none [] e (bm (x::r)) E 0 [] [ps.map PT.ent] N J U) (.ok (.again (lM w.P F D av I))) yj (mK w.P D av I l (some ((J,Z x.g x.tg),(J+1,Z x.x x.tx))) ([]++[bE (O (x.g.length+x.x.length)) (J+6)]) (e+1) (bm (x::r)) E (0+1) [] [ps.map PT.ent] (N+3) (J+7) U):=
   aK.peek hm (TG (by rfl) hb.1 hb.2 (fv _))
  refine iT (TJ (aT w) (Γ:=pW w.P F D av I I0 K q q1 G) (ae:=lM w.P F D av I) (by kernel_rfl) rfl
   (λo aB e i N J=>mK w.P D av I l (some o) aB e (bm (x::r)) E i [] [ps.map PT.ent] N J U) (λo aB e i N J=>wA w.P D av I l (some o) aB e (bm (x::r)) E i [] [ps.map PT.ent] N J U) (xs:=x::r) (λx v'=>∃t,v'=[.int (O (x.g.length+x.x.length)) t])
   (λi x o aB e N J p hx hv ho=>by
    have hi:=(mf.mp hv).1
    have hm:x.ent∈ps.map PT.ent:=j8 (gN x hx)
    have hb:=hl x (gN x hx)
    exact dV _ [_] _ _ _ _ ⟨_,rfl⟩ (b7 _) (aK.peek hm (TH (k0:=o.1.1) (H:=o.2.1) (Ds hv) hb.1 hb.2 (by lia))))
   (λo aB e N J p=>by
    have hv:(bm (x::r))[(x::r).length]? =none:=by simp [bm]
    exact dU _ _ (aK.seg _ (TI hv)))
   r.length 1 ((J,Z x.g x.tg),(J+1,Z x.x x.tx)) ([]++[bE (O (x.g.length+x.x.length)) (J+6)]) (e+1) (N+3) (J+7) yj (by rw [cy];lia) (b7 _)) λo' dg e' N' au hA h=> ?_
  refine bX (TK hA) λaO e1 e2=>
   ll o' ((x.g.length+x.x.length,J+6)::aO) e' N' au (by rw [bY,e2];rfl) (ax.turn (aT w) rfl (by kernel_rfl) t1 ?_)
  rw [e1]at h
  exact h
theorem Yp {bv:List PT}{aO:cC}(h:aO.map aD=bv.map λx=>x.g.length+x.x.length):ny aO=bx (bv.map PT.key):=by
 delta ny bx
 rw [h,eF]
 rfl
theorem E5 {F:Nat}{B:b9}(dr:ps.length<=100)(hl:∀x∈ps,x.g.length<=1000/\x.x.length<=1000)(hf:f<n)(hn:n<=ps.length):∃(r:(Nat×Nat×Nat×Nat)×LV×(NV×NV)×Nat×Nat×Nat),wD w F (N+4) (N+3) (N+2) I K (N+1) 0 U (N+5) (J+3) r.1.1 r.1.2.1 r.1.2.2.1 r.1.2.2.2 (eZ (bm ps) (some f) (some n)) r.2.1 (some r.2.2.1) (ps.map PT.ent) pu q pu G/\ wE w (r.1.2.1) (r.1.2.1+1) (N+3) r.1.1 (r.1.2.1+2) (r.1.2.2.1+1) U (r.1.2.2.1) (bx (((ps.map PT.key).take n).drop f)) r.2.2.2.1 r.2.2.2.2.1 r.2.1 r.2.2.2.2.2 B oj:=by
 have gN:∀x∈(ps.take n).drop f,x∈ps:=λx hx=>sa (sb hx)
 have bD:(ps.take n).drop f≠[]:=λq=>by
  have:=congrArg dn q
  rw [na,mj,xT]at this
  lia
 have b6:((ps.take n).drop f).length<=100:=by rw [na,mj];lia
 have hv:eZ (bm ps) (some f) (some n)=bm ((ps.take n).drop f):=by
  rw [Lm _ (by delta bm;rw [bA];exact hn) mv]
  delta bm
  rw [xW,ml]
 refine uJ (Yo (w:=w) (F:=F) (D:=N+4) (av:=N+3) (I:=N+2) (I0:=I) (K:=K) (l:=N+1) (E:=0) (U:=U) (e:=0) (N:=N+5) (J:=J+3) (p:=pu) (q:=q) (q1:=pu) (G:=G) (iR b6 (by decide)) bD gN λx hx=>⟨iR (hl x hx).1 (by decide),iR (hl x hx).2 (by decide)⟩) λkv aO e' N' au h=> ?_
 have hs:∀x∈aO,x.1<=1000000:=λx hx=>by
  have:x.1∈aO.map aD:=j8 hx
  rw [h.1]at this
  refine bX (dS.mp this) λy hy e=> ?_
  have:=hl y (gN y hy)
  lia
 have ho:aO.length<=800:=by
  have:=congrArg dn h.1
  rw [bA,bA]at this
  lia
 refine uI (IQ (w:=w) (own:=none) (past:=none) (below:=B) (I:=N') (S:=N'+1) (eS:=0) (l:=N+3) (E:=e') (N:=N'+2) (U:=U) hs ho aO.length 0 (ta:=au) (J:=au+1) (p:=oj) (kI _) (fv _)) λt' eR h2=>
  da ((e',N',au,((ps.take n).drop f).length),aY aO,kv,t',eR,aO.length) ?_ ?_
 ·rw [hv]
  unfold wD
  rw [aT]
  exact h.2
 ·rw [iS,kI,Yp h.1,xW,ml]at h2
  unfold wE
  rw [aT]
  exact h2
theorem E6 {F M:Nat}(dr:ps.length<=100)(hw:∀i (h:i+1<ps.length),ps[i+1].g≠[]/\ps[i].x≠[])(eK:sg.length<=3)(fT:sg≠[])(hf:f<bh)(nJ:bh<=ps.length):∃(os:List PL) (r:(Nat×Nat×Nat)×Nat×Nat×Nat) (o:Option (Nat×ay)),(os.map PL.key=jC (ps.map PT.key) sg f bh/\(o=none↔bh=f+1))/\ hV w F D av I1 I0 K E U M ts sg.length f tf bh tb N J r.1.1 r.1.2.1 r.1.2.2 r.2.1 (0+sg.length) r.2.2.1 r.2.2.2 o (bm ps) (dQ os) sg (ps.map PT.ent) (os.map PL.ent) q q1 G:=by
 refine uJ (Ul (w:=w) (F:=F) (D:=D) (av:=av) (I1:=I1) (I0:=I0) (K:=K) (E:=E) (U:=U) (M:=M) (ts:=ts) (f:=f) (tf:=tf) (bh:=bh) (tb:=tb) (n:=bh-(f+1)) (q:=q) (q1:=q1) (G:=G) (by lia) hw eK (by lia) nJ sg.length 0 (s:=none) (aB:=[]) (e:=0) (N:=N) (J:=J) (Q:=[]) (p:=Ll w.b1) (kI _) (by
  have:sg.length*(bh-(f+1))<=3*100:=Nat.mul_le_mul eK (by lia)
  rw [xT]
  lia) (λam hz=>by cases hz)) λs' os e' N' au h=> ?_
 refine B0 (h) λh1 h2 _ h4 h5=> ?_
 obtain⟨am,rfl⟩:=h4 λq=>fT (sd.mp q)
 obtain⟨⟨kr,rk,tr⟩,o⟩:=am
 refine j9 os ((kr,rk,tr),e',N',au) o ⟨h1,?_⟩ ?_
 ·have:=h2 _ rfl
  constructor
  ·intro q;have:=this.mp q;lia
  ·intro q;exact this.mpr (by lia)
 ·unfold hV
  rw [aT]
  exact h5
theorem Bn {S F:Nat}{os:List PL}{x:Nat×Nat}(hb:bestOf (os.map PL.key)=some x):∃(b':PL) (r:Nat×Nat×Nat×Nat),b'.key=x/\rJ w I S l E F I0 K N J U eS b'.a b'.rk b'.t1 b'.at_ b'.t2 r.1 r.2.1 r.2.2.1 r.2.2.2 (dQ os) S0 (os.map PL.ent) q q1 G p:=by
 refine uJ (XX (w:=w) (I:=I) (S:=S) (l:=l) (E:=E) (F:=F) (I0:=I0) (K:=K) (U:=U) (eS:=eS) (N:=N) (J:=J) (q:=q) (q1:=q1) (G:=G) (p:=p) hb) λb' eA N' au i' h=>
  ii (h) λh1 h2 h3=> ?_
 refine fL b' (i',eA,N',au) h2 ?_
 refine fK (BU (j8 (f:=PL.ent) h1)) λX1 X2 hX=> ?_
 have hp:(os.map PL.ent).Perm ([b'.ent]++(X1++X2)):=by rw [hX];exact o4
 have hf:=aK.frame h3 (D:=⟨[(I,bM l 0),(l,aq (dQ os) E),(S,aq [] eS)],[S0,os.map PL.ent],N,J,[],U⟩) (D':=⟨[(I,eY i'),(l,aq (dQ os) E),(S,aq [] eA)],[S0,os.map PL.ent],N',au,[],U⟩) (by
   simp only [aC.all,ck,ce,bk]
   rw [bK]
   exact cg.append_left _ cY) (.refl _) ⟨rfl,rfl,rfl⟩ (by
   simp only [aC.all,ck,ce,bk]
   rw [bK]
   exact cg.append_left _ cY) (.refl _) ⟨rfl,rfl,rfl⟩
 unfold rJ
 rw [aT]
 refine aK.less hf (A:=X1++X2) (B:=[]) ?_ (.refl _) ⟨rfl,rfl,rfl⟩
 simp only [aC.all,ck,ce,bk]
 have e:([(I,eY i'),(l,aq (dQ os) E),(S,aq [] eA),(b'.a,lR b'.rk b'.t1 b'.at_ b'.t2)]:aJ)=[(I,eY i'),(l,aq (dQ os) E),(S,aq [] eA)]++[b'.ent]:=rfl
 rw [e,bK,bK]
 refine cg.append_left _ ?_
 refine(cg.append_left S0 hp).trans ?_
 exact o4
inductive Bo (w:WB) (F I Sl M K H z k3 sw tw hd th ts E n m U:Nat) (Y:LV) (sg:d) (S:aJ) (p q G:aw) (C:aC) (eI:d):Prop where
 |mk (x1:Nat) (x2:ay) (o2:Option (Nat×ay)) (v3 v4:ay) (l4:LV) (mY:cC) (eA N' au:Nat) (p':aw) (h1:mY.map aD=eI) (h2:l4=aY mY) (h4:o2=none->eI=[0])
   (h3:aE w (dL w.P F I K q G) p (aA (cA w.P F I)) C (.ok (.again (cA w.P F I))) p' ⟨du w.P F I Sl M H z k3 sw tw hd th ts E eA (n+1) m (some ((x1,x2),o2)) (some v3) (some v4) l4 Y sg,[S],N',au,[],U⟩)
theorem gU {L:aJ}{S:aJ}(h:aK V ⟨L,[S,[]],N,J,ai,U⟩ C' Φ):aK V ⟨L,[S],N,J,ai,U⟩ C' Φ:=
 aK.same h (by simp [aC.all]) rfl bH (.refl _) rfl bH
theorem Ln (ks:b8)(sg:d)(f n:Nat)(h:n=f+1):jC ks sg f n=[]:=by
 subst h
 delta jC
 rw [List.flatMap_eq_nil_iff]
 intro r _
 delta nI
 rw [GC]
 rfl
theorem Lo (h:sv=[]):(O (sv++[v]).length==O 1)=true:=by subst h;rfl
theorem Yq (h:sv≠[]):(O (sv++[v]).length==O 1)=false:=by
 have:=nb.mpr h
 rw [beq_eq_false_iff_ne]
 intro q
 rw [ci,o7]at q
 have:((sv.length+1:Nat):Int)=1:=q
 lia
theorem l5 (l:cC)(x t:Nat):aY l++[bE (O x) t]=aY (l++[(x,t)]):=by simp [aY]
theorem xf {l:d}(k:Nat)(h:(if(l++[f]).length=1 then hd else if l++[f]=[0,0]then 1 else 0)=k):jU ks hd (l++[f]) n=bx ((ks.take n).drop f)+k:=by
 delta jU
 rw [h,BZ,aeP]
 rfl
theorem mZ {l:d}:(l++[f]).getLast?.getD 0=f:=by rw [BZ,aeP];rfl
theorem xg {st:d}(h:jU ks hd st n<=sw):gQ ks sw hd sg st n=st:=by delta gQ;rw [if_pos h]
theorem Bp {st:d}{x:Nat×Nat}(h:¬jU ks hd st n<=sw)(hl:st.getLast?.getD 0=f)(hb:bestOf (jC ks sg f n)=some x):gQ ks sw hd sg st n=st++[x.2]:=by
 delta gQ;rw [if_neg h,hl,hb]
theorem xh {st:d}(h:¬jU ks hd st n<=sw)(hl:st.getLast?.getD 0=f)(hb:jC ks sg f n=[]):gQ ks sw hd sg st n=if st.length=1/\0<hd then st++[n-1]else st:=by
 delta gQ;rw [if_neg h,hl,hb];rfl
theorem oU (h:¬a<=b):decide (O a>O b)=true:=decide_eq_true (by show(b:Int)<(a:Int);lia)
theorem oV (h:a<=b):decide (O a>O b)=false:=decide_eq_false (by show¬(b:Int)<(a:Int);lia)
theorem Bq {l:cC}(h:l≠[]):∃x,bestOf l=some x:=by
 cases l with
 |nil=>exact absurd rfl h
 |cons b r=>exact⟨_,rfl⟩
theorem Yr {F M m:Nat}{x2:ay}{cX:cC}(dr:ps.length<=100)(hl:∀x∈ps,x.g.length<=1000/\x.x.length<=1000)(hw:∀i (h:i+1<ps.length),ps[i+1].g≠[]/\ps[i].x≠[])(eK:sg.length<=3)(fT:sg≠[])(hf:f<n)(hn:n<=ps.length)(gF:cX.length<=1000):Bo w F I Sl M K H z k3 sw tw hd th ts E n m U (bm ps) sg (ps.map PT.ent) p q G ⟨du w.P F I Sl M H z k3 sw tw hd th ts E eS n (m+1) (some ((x1,x2),some (y1,y2))) (some v3) (some v4) (aY cX++[.int (O f) tf]) (bm ps) sg,[ps.map PT.ent],N,J,[],U⟩ (gQ (ps.map PT.key) sw hd sg (cX.map aD++[f]) n):=by
 refine E4 (E5 (w:=w) (F:=F) (I:=I) (K:=K) (N:=N) (J:=J) (U:=U) (B:=((dL w.P F I K q G).code,oj)::(dL w.P F I K q G).below) (q:=q) (G:=G) dr hl hf hn) λr hr=> ?_
 have hz:=hr.1
 have gl:=hr.2
 have cV:(bm ps).length<=100000:=by delta bm;rw [bA];lia
 have dF:(aY cX++[bE (O f) tf]).length<=100000:=by rw [ci,o7];delta aY;rw [bA];lia
 have nX:(cX++[(f,tf)]).map aD=cX.map aD++[f]:=by simp
 have hQ:sg.length<=100000:=by lia
 have fS:sg.length<=1000000:=by lia
 have iP:sg.length=0+sg.length:=(kI _).symm
 have Br:n=n-1+1:=by lia
 have po:=λ(D av I1 N' au:Nat)=>E6 (w:=w) (F:=F) (D:=D) (av:=av) (I1:=I1) (I0:=I) (K:=K) (E:=E) (U:=U) (M:=M) (ts:=ts) (f:=f) (tf:=tf) (bh:=n) (tb:=J) (N:=N') (J:=au) (q:=q) (q1:=iz) (G:=G) dr hw eK fT hf hn
 have E7:∀{am:PL} {zs:List PL} {o:Option (Nat×ay)},(am::zs).map PL.key=jC (ps.map PT.key) sg f n->(o=none↔n=f+1)->∃kv,o=some kv:=λ{am zs o} e1 e2=>by
  cases o with
  |some kv=>exact⟨kv,rfl⟩
  |none=>rw [Ln _ _ _ _ (e2.mp rfl)]at e1;cases e1
 have Lp:∀(t1 t2:Nat) (b:Bool),((cX.map aD++[f])==[0,0])=b->jy (aY cX++[bE (O f) tf]) [bE (O 0) t1,bE (O 0) t2] b:=λt1 t2 b hb=>by
  have:=Jz (cX++[(f,tf)]) [(0,t1),(0,t2)]
  rw [nX,<-l5]at this
  rw [<-hb]
  exact this
 have uK:∀(x t:Nat),(cX++[(f,tf)]++[(x,t)]).map aD=cX.map aD++[f]++[x]:=λx t=>by simp
 have xi:∀(x t:Nat),aY cX++[bE (O f) tf]++[bE (O x) t]=aY (cX++[(f,tf)]++[(x,t)]):=λx t=>by simp [aY]
 by_cases h1:cX=[]
 ·have e1:=Lo (v:=bE (O f) tf) (sv:=aY cX) (by subst h1;rfl)
  have jX:(cX.map aD++[f]).length=1:=by subst h1;rfl
  have cK:=xf (ks:=ps.map PT.key) (hd:=hd) (n:=n) (f:=f) (l:=cX.map aD) hd (by rw [if_pos jX])
  by_cases hle:bx (((ps.map PT.key).take n).drop f)+hd<=sw
  ·have hs:=xg (sg:=sg) (st:=cX.map aD++[f]) (by rw [cK];exact hle)
   exact .mk x1 _ (some (y1,y2)) _ _ _ (cX++[(f,tf)]) _ _ _ _ (by rw [hs,nX]) (l5 _ _ _) (λq=>by cases q) (gU (XZ cV hz gl dF e1 (oV hle)))
  ·have gk:=oU hle
   rw [<-cK]at hle
   refine nW (po (r.1.2.1+7) (r.1.2.1+4+2) (r.1.2.1+4+1) (r.1.2.1+4+4) (r.2.2.2.2.1+10)) λos r2 o h=> ?_
   obtain⟨⟨hY,mL⟩,hZ⟩:=h
   cases os with
   |nil=>
    have hs:=xh hle mZ hY.symm
    by_cases hh:0<hd
    ·rw [if_pos ⟨jX,hh⟩]at hs
     have xj:decide (O hd>O 0)=true:=oU (by lia)
     cases o with
     |none=>exact .mk x1 _ (some (y1,_)) _ _ _ (cX++[(f,tf)]++[(n-1,_)]) _ _ _ _ (by rw [hs,uK]) (xi _ _) (λq=>by cases q) (gU (X0 cV hz gl dF e1 gk hQ iP fS hZ (jB []) xj Br))
     |some kv=>exact .mk x1 _ (some (y1,_)) _ _ _ (cX++[(f,tf)]++[(n-1,_)]) _ _ _ _ (by rw [hs,uK]) (xi _ _) (λq=>by cases q) (gU (X8 cV hz gl dF e1 gk hQ iP fS hZ (jB []) xj Br))
    ·rw [if_neg λq=>hh q.2]at hs
     have xj:decide (O hd>O 0)=false:=oV (by lia)
     cases o with
     |none=>exact .mk x1 _ (some (y1,_)) _ _ _ (cX++[(f,tf)]) _ _ _ _ (by rw [hs,nX]) (l5 _ _ _) (λq=>by cases q) (gU (X5 cV hz gl dF e1 gk hQ iP fS hZ (jB []) xj))
     |some kv=>exact .mk x1 _ (some (y1,_)) _ _ _ (cX++[(f,tf)]) _ _ _ _ (by rw [hs,nX]) (l5 _ _ _) (λq=>by cases q) (gU (Yb cV hz gl dF e1 gk hQ iP fS hZ (jB []) xj))
   |cons am zs=>
    obtain⟨kv,rfl⟩:=E7 hY mL
    refine dT (Bq (l:=(am::zs).map PL.key) (by simp)) λx hx=> ?_
    have hs:=Bp hle mZ (by rw [<-hY];exact hx)
    refine uI (Bn (w:=w) (I:=r2.2.2.1+1) (S:=r2.2.2.1+2) (l:=r.1.2.1+4+2) (E:=r2.2.1) (F:=F) (I0:=I) (K:=K) (U:=U) (eS:=0) (N:=r2.2.2.1+3) (J:=r2.2.2.2+1) (S0:=ps.map PT.ent) (q:=q) (q1:=jl) (G:=G) (p:=jl) hx) λb' r3 h=> ?_
    have kw:b'.at_=x.2:=by rw [<-h.1];rfl
    exact .mk x1 _ (some (y1,_)) _ _ _ (cX++[(f,tf)]++[(b'.at_,_)]) _ _ _ _ (by rw [hs,uK,kw]) (xi _ _) (λq=>by cases q) (gU (Yd cV hz gl dF e1 gk hQ iP fS hZ (jB (dQ (am::zs))) h.2))
 ·have e1:=Yq (v:=bE (O f) tf) (sv:=aY cX) (by delta aY;simpa using h1)
  have jX:¬(cX.map aD++[f]).length=1:=by have:=nb.mpr h1;simp;lia
  by_cases Bs:cX.map aD++[f]=[0,0]
  ·have cK:=xf (ks:=ps.map PT.key) (hd:=hd) (n:=n) (l:=cX.map aD) 1 (by rw [if_neg jX];rw [if_pos Bs])
   have hq:=λt1 t2=>Lp t1 t2 true (by rw [Bs];rfl)
   by_cases hle:bx (((ps.map PT.key).take n).drop f)+1<=sw
   ·have hs:=xg (sg:=sg) (by rw [cK];exact hle)
    exact .mk x1 _ (some (y1,y2)) _ _ _ (cX++[(f,tf)]) _ _ _ _ (by rw [hs,nX]) (l5 _ _ _) (λq=>by cases q) (gU (X3 cV hz gl dF e1 (hq _ _) (oV hle)))
   ·have gk:=oU hle
    have hle:¬jU (ps.map PT.key) hd (cX.map aD++[f]) n<=sw:=by rw [cK];exact hle
    refine nW (po (r.1.2.1+8) (r.1.2.1+4+3) (r.1.2.1+4+2) (r.1.2.1+4+5) (r.2.2.2.2.1+13)) λos r2 o h=> ?_
    obtain⟨⟨hY,mL⟩,hZ⟩:=h
    cases os with
    |nil=>
     have hs:=xh hle mZ hY.symm
     rw [if_neg λq=>jX q.1]at hs
     cases o with
     |none=>exact .mk x1 _ (some (y1,_)) _ _ _ (cX++[(f,tf)]) _ _ _ _ (by rw [hs,nX]) (l5 _ _ _) (λq=>by cases q) (gU (X4 cV hz gl dF e1 (hq _ _) gk hQ iP fS hZ (jB [])))
     |some kv=>exact .mk x1 _ (some (y1,_)) _ _ _ (cX++[(f,tf)]) _ _ _ _ (by rw [hs,nX]) (l5 _ _ _) (λq=>by cases q) (gU (X9 cV hz gl dF e1 (hq _ _) gk hQ iP fS hZ (jB [])))
    |cons am zs=>
     obtain⟨kv,rfl⟩:=E7 hY mL
     refine dT (Bq (l:=(am::zs).map PL.key) (by simp)) λx hx=> ?_
     have hs:=Bp hle mZ (by rw [<-hY];exact hx)
     refine uI (Bn (w:=w) (I:=r2.2.2.1+1) (S:=r2.2.2.1+2) (l:=r.1.2.1+4+3) (E:=r2.2.1) (F:=F) (I0:=I) (K:=K) (U:=U) (eS:=0) (N:=r2.2.2.1+3) (J:=r2.2.2.2+1) (S0:=ps.map PT.ent) (q:=q) (q1:=jl) (G:=G) (p:=jl) hx) λb' r3 h=> ?_
     have kw:b'.at_=x.2:=by rw [<-h.1];rfl
     exact .mk x1 _ (some (y1,_)) _ _ _ (cX++[(f,tf)]++[(b'.at_,_)]) _ _ _ _ (by rw [hs,uK,kw]) (xi _ _) (λq=>by cases q) (gU (Ye cV hz gl dF e1 (hq _ _) gk hQ iP fS hZ (jB (dQ (am::zs))) h.2))
  ·have cK:=xf (ks:=ps.map PT.key) (hd:=hd) (n:=n) (l:=cX.map aD) 0 (by rw [if_neg jX];rw [if_neg Bs])
   have hq:=λt1 t2=>Lp t1 t2 false (beq_eq_false_iff_ne.mpr Bs)
   by_cases hle:bx (((ps.map PT.key).take n).drop f)<=sw
   ·have hs:=xg (sg:=sg) (by rw [cK];exact hle)
    exact .mk x1 _ (some (y1,y2)) _ _ _ (cX++[(f,tf)]) _ _ _ _ (by rw [hs,nX]) (l5 _ _ _) (λq=>by cases q) (gU (X6 cV hz gl dF e1 (hq _ _) (oV hle)))
   ·have gk:=oU hle
    have hle:¬jU (ps.map PT.key) hd (cX.map aD++[f]) n<=sw:=by rw [cK];exact hle
    refine nW (po (r.1.2.1+8) (r.1.2.1+4+3) (r.1.2.1+4+2) (r.1.2.1+4+5) (r.2.2.2.2.1+10)) λos r2 o h=> ?_
    obtain⟨⟨hY,mL⟩,hZ⟩:=h
    cases os with
    |nil=>
     have hs:=xh hle mZ hY.symm
     rw [if_neg λq=>jX q.1]at hs
     cases o with
     |none=>exact .mk x1 _ (some (y1,_)) _ _ _ (cX++[(f,tf)]) _ _ _ _ (by rw [hs,nX]) (l5 _ _ _) (λq=>by cases q) (gU (X7 cV hz gl dF e1 (hq _ _) gk hQ iP fS hZ (jB [])))
     |some kv=>exact .mk x1 _ (some (y1,_)) _ _ _ (cX++[(f,tf)]) _ _ _ _ (by rw [hs,nX]) (l5 _ _ _) (λq=>by cases q) (gU (Yc cV hz gl dF e1 (hq _ _) gk hQ iP fS hZ (jB [])))
    |cons am zs=>
     obtain⟨kv,rfl⟩:=E7 hY mL
     refine dT (Bq (l:=(am::zs).map PL.key) (by simp)) λx hx=> ?_
     have hs:=Bp hle mZ (by rw [<-hY];exact hx)
     refine uI (Bn (w:=w) (I:=r2.2.2.1+1) (S:=r2.2.2.1+2) (l:=r.1.2.1+4+3) (E:=r2.2.1) (F:=F) (I0:=I) (K:=K) (U:=U) (eS:=0) (N:=r2.2.2.1+3) (J:=r2.2.2.2+1) (S0:=ps.map PT.ent) (q:=q) (q1:=jl) (G:=G) (p:=jl) hx) λb' r3 h=> ?_
     have kw:b'.at_=x.2:=by rw [<-h.1];rfl
     exact .mk x1 _ (some (y1,_)) _ _ _ (cX++[(f,tf)]++[(b'.at_,_)]) _ _ _ _ (by rw [hs,uK,kw]) (xi _ _) (λq=>by cases q) (gU (Yg cV hz gl dF e1 (hq _ _) gk hQ iP fS hZ (jB (dQ (am::zs))) h.2))
theorem Ys {F M m:Nat}{x2:ay}(dr:ps.length<=100)(hl:∀x∈ps,x.g.length<=1000/\x.x.length<=1000)(hw:∀i (h:i+1<ps.length),ps[i+1].g≠[]/\ps[i].x≠[])(eK:sg.length<=3)(fT:sg≠[])(hf:2<=n)(hn:n<=ps.length):Bo w F I Sl M K H z k3 sw tw hd th ts E n m U (bm ps) sg (ps.map PT.ent) p q G ⟨du w.P F I Sl M H z k3 sw tw hd th ts E eS n (m+1) (some ((x1,x2),none)) (some v3) (some v4) [.int (O 0) tf] (bm ps) sg,[ps.map PT.ent],N,J,[],U⟩ (gQ (ps.map PT.key) sw hd sg [0] n):=by
 refine E4 (E5 (w:=w) (F:=F) (I:=I) (K:=K) (f:=0) (n:=n) (N:=N) (J:=J) (U:=U) (B:=((dL w.P F I K q G).code,oj)::(dL w.P F I K q G).below) (q:=q) (G:=G) dr hl mv hn) λr hr=> ?_
 have hz:=hr.1
 have gl:=hr.2
 have cV:(bm ps).length<=100000:=by delta bm;rw [bA];lia
 have hQ:sg.length<=100000:=by lia
 have fS:sg.length<=1000000:=by lia
 have iP:sg.length=0+sg.length:=(kI _).symm
 have Br:n=n-1+1:=by lia
 have e1:=Lo (v:=bE (O 0) tf) rfl
 have dF:([]++[bE (O 0) tf]).length<=100000:=by show 1<=100000;decide
 have cK:=xf (ks:=ps.map PT.key) (n:=n) (f:=0) (l:=[]) hd rfl
 by_cases hle:bx (((ps.map PT.key).take n).drop 0)+hd<=sw
 ·have hs:=xg (sg:=sg) (by rw [cK];exact hle)
  exact .mk x1 _ none _ _ _ [(0,tf)] _ _ _ _ hs.symm rfl (λ_=>hs) (gU (Yh cV hz gl dF e1 (oV hle)))
 ·have gk:=oU hle
  have hle:¬jU (ps.map PT.key) hd ([]++[0]) n<=sw:=by rw [cK];exact hle
  refine nW (E6 (w:=w) (F:=F) (D:=r.1.2.1+7) (av:=r.1.2.1+4+2) (I1:=r.1.2.1+4+1) (I0:=I) (K:=K) (E:=E) (U:=U) (M:=M) (ts:=ts) (f:=0) (tf:=tf) (bh:=n) (tb:=J) (N:=r.1.2.1+4+4) (J:=r.2.2.2.2.1+10) (q:=q) (q1:=iz) (G:=G) dr hw eK fT mv hn) λos r2 o h=> ?_
  obtain⟨⟨hY,mL⟩,hZ⟩:=h
  cases o with
  |none=>exact absurd (mL.mp rfl) (by lia)
  |some kv=>
   cases os with
   |nil=>
    have hs:=xh hle mZ hY.symm
    by_cases hh:0<hd
    ·rw [if_pos ⟨rfl,hh⟩]at hs
     exact .mk x1 _ (some (_,_)) _ _ _ [(0,tf),(n-1,_)] _ _ _ _ hs.symm rfl (λq=>by cases q) (gU (Yi cV hz gl dF e1 gk hQ iP fS hZ (jB []) (oU (by lia)) Br))
    ·rw [if_neg λq=>hh q.2]at hs
     exact .mk x1 _ (some (_,_)) _ _ _ [(0,tf)] _ _ _ _ hs.symm rfl (λq=>by cases q) (gU (Yj cV hz gl dF e1 gk hQ iP fS hZ (jB []) (oV (by lia))))
   |cons am zs=>
    refine dT (Bq (l:=(am::zs).map PL.key) (by simp)) λx hx=> ?_
    have hs:=Bp hle mZ (by rw [<-hY];exact hx)
    refine uI (Bn (w:=w) (I:=r2.2.2.1+1) (S:=r2.2.2.1+2) (l:=r.1.2.1+4+2) (E:=r2.2.1) (F:=F) (I0:=I) (K:=K) (U:=U) (eS:=0) (N:=r2.2.2.1+3) (J:=r2.2.2.2+1) (S0:=ps.map PT.ent) (q:=q) (q1:=jl) (G:=G) (p:=jl) hx) λb' r3 h=> ?_
    have kw:b'.at_=x.2:=by rw [<-h.1];rfl
    exact .mk x1 _ (some (_,_)) _ _ _ [(0,tf),(b'.at_,_)] _ _ _ _ (by rw [kw];exact hs.symm) rfl (λq=>by cases q) (gU (Yk (sv:=[]) cV hz gl dF e1 gk hQ iP fS hZ (jB (dQ (am::zs))) h.2))
theorem Yt {F M m:Nat}(dr:ps.length<=100)(hl:∀x∈ps,x.g.length<=1000/\x.x.length<=1000)(hw:∀i (h:i+1<ps.length),ps[i+1].g≠[]/\ps[i].x≠[])(eK:sg.length<=3)(fT:sg≠[])(hn:1<=ps.length):Bo w F I Sl M K H z k3 sw tw hd th ts E 1 m U (bm ps) sg (ps.map PT.ent) p q G ⟨du w.P F I Sl M H z k3 sw tw hd th ts E eS 1 (m+1) none none none [.int (O 0) tf] (bm ps) sg,[ps.map PT.ent],N,J,[],U⟩ (gQ (ps.map PT.key) sw hd sg [0] 1):=by
 refine E4 (E5 (w:=w) (F:=F) (I:=I) (K:=K) (f:=0) (n:=1) (N:=N) (J:=J) (U:=U) (B:=((dL w.P F I K q G).code,oj)::(dL w.P F I K q G).below) (q:=q) (G:=G) dr hl pd hn) λr hr=> ?_
 have hz:=hr.1
 have gl:=hr.2
 have cV:(bm ps).length<=100000:=by delta bm;rw [bA];lia
 have hQ:sg.length<=100000:=by lia
 have fS:sg.length<=1000000:=by lia
 have iP:sg.length=0+sg.length:=(kI _).symm
 have cK:=xf (ks:=ps.map PT.key) (n:=1) (f:=0) (l:=[]) hd rfl
 by_cases hle:bx (((ps.map PT.key).take 1).drop 0)+hd<=sw
 ·have hs:=xg (sg:=sg) (by rw [cK];exact hle)
  exact .mk _ _ none _ _ _ [(0,tf)] _ _ _ _ hs.symm rfl (λ_=>hs) (gU (Yl cV hz gl (oV hle)))
 ·have gk:=oU hle
  have hle:¬jU (ps.map PT.key) hd ([]++[0]) 1<=sw:=by rw [cK];exact hle
  refine nW (E6 (w:=w) (F:=F) (D:=r.1.2.1+7) (av:=r.1.2.1+4+2) (I1:=r.1.2.1+4+1) (I0:=I) (K:=K) (E:=E) (U:=U) (M:=M) (ts:=ts) (f:=0) (tf:=tf) (bh:=1) (tb:=J) (N:=r.1.2.1+4+4) (J:=r.2.2.2.2.1+10) (ps:=ps) (sg:=sg) (q:=q) (q1:=iz) (G:=G) dr hw eK fT pd hn) λos r2 o h=> ?_
  obtain⟨⟨hY,mL⟩,hZ⟩:=h
  have ho:=mL.mpr rfl
  subst ho
  cases os with
  |cons am zs=>rw [Ln _ _ _ _ rfl]at hY;cases hY
  |nil=>
   have hs:=xh hle mZ hY.symm
   by_cases hh:0<hd
   ·rw [if_pos ⟨rfl,hh⟩]at hs
    exact .mk _ _ (some (_,_)) _ _ _ [(0,tf),(1-1,_)] _ _ _ _ hs.symm rfl (λq=>by cases q) (gU (Ym cV hz gl gk hQ iP fS hZ (jB []) (oU (by lia)) (by rfl)))
   ·rw [if_neg λq=>hh q.2]at hs
    exact .mk _ _ (some (_,_)) _ _ _ [(0,tf)] _ _ _ _ hs.symm rfl (λq=>by cases q) (gU (Yn cV hz gl gk hQ iP fS hZ (jB []) (oV (by lia))))
noncomputable def qi (P:aF)(M tw th K wd hd ts:Nat)(sg:d)(G:aw):bd:=⟨.call (.ref 949) ⟨[.ref M,.int (O wd) tw,.int (O hd) th,Z sg ts],[]⟩,none,none,cO P K G,none⟩
def rK (w:WB)(F I Sl M K H z k3 sw tw hd th ts E m N J U tf eA N' au:Nat)(o:Option (NV×Option (Nat×ay)))(Y l4:LV)(sg:d)(S:aJ)(p q G:aw):Prop:=
 aP w (dL w.P F I K q G) p ((VV w).M.den (cA w.P F I)) ⟨du w.P F I Sl M H z k3 sw tw hd th ts E 0 1 m none none none [.int (O 0) tf] Y sg,[S],N,J,[],U⟩ (.ok .next)
  ⟨[(F,iM w.P H z k3 sw tw hd th Sl o),(Sl,aq l4 eA),(M,aq Y E)],[S],N',au,[],U⟩
noncomputable def Lq (w:WB)(aH bt:d){F I Sl M K H z k3 sw tw hd th ts E m N J U tf eA N' au:Nat}{o:Option (NV×Option (Nat×ay))}{Y l4:LV}{sg:d}{S:aJ}{p q G:aw}(h:rK w F I Sl M K H z k3 sw tw hd th ts E m N J U tf eA N' au o Y l4 sg S p q G):aM w:= .fn _ _ aH bt [] _ _ _ h
noncomputable def Yu (w:WB)(aH bt:d){F I Sl M K H z k3 sw tw hd th ts E m N J U tf eA N' au x1:Nat}{x2:ay}{Y l4:LV}{sg:d}{S:aJ}{p q G:aw}(h:rK w F I Sl M K H z k3 sw tw hd th ts E m N J U tf eA N' au (some ((x1,x2),none)) Y l4 sg S p q G):aM w:=Lq w aH bt h
noncomputable def Yv (w:WB)(aH bt:d){F I Sl M K H z k3 sw tw hd th ts E m N J U tf eA N' au x1 y1:Nat}{x2 y2:ay}{Y l4:LV}{sg:d}{S:aJ}{p q G:aw}(h:rK w F I Sl M K H z k3 sw tw hd th ts E m N J U tf eA N' au (some ((x1,x2),some (y1,y2))) Y l4 sg S p q G):aM w:=Lq w aH bt h
theorem Yw {F:Nat}:aP w (dL w.P F I K q G) p (aA (cA w.P F I)) ⟨[(I,bF (O n) (O 0) 1)],[],N,J,[],U⟩ (.ok .next) ⟨[],[],(N+2),J,[],U⟩:=
 dJ 5449 []
section
variable {M:Nat}{S:aJ}(h0:Y.length<=100000)(h2:Y.length+1=1+n1)(h3:Y.length+1<=1000000)
include h0 h2 h3
theorem Yx {Yy:ay}{Lr:LV}(bT:rK w N (N+7) (N+5) M K J (J+1) (J+3) wd tw hd th ts E n1 (N+8) (J+10) U (J+2) zt eX gY (some ((H5,Yy),none)) Y Lr sg S qD qD G):aP w (qi w.P M tw th K wd hd ts sg G) p (aA (Ctx.code (qi w.P M tw th K wd hd ts sg G))) ⟨[(M,aq Y E)],[S],N,J,[],U⟩ (.ok (.ret (.ref (N+5)))) ⟨[((N+5),aq Lr zt),(M,aq Y E)],[S],eX,gY,[],U⟩:=
 by revert w;exact @(iA 0xaa9525013c2730e77bdef5ac (λw bT=>[cT w [6] M E h0,gE w [0] (N+6) (J+4) (J+8) (J+9) h2 h3,Yu w [8,7,6,5,4,3,2,0] [0] bT]) [1,1] [0])
theorem Yz {YA:Nat}{YB:ay}{YC:ay}{Ls:LV}(bQ:rK w N (N+7) (N+5) M K J (J+1) (J+3) wd tw hd th ts E n1 (N+8) (J+10) U (J+2) zt eX gY (some ((H5,YB),some (YA,YC))) Y Ls sg S qD qD G):aP w (qi w.P M tw th K wd hd ts sg G) p (aA (Ctx.code (qi w.P M tw th K wd hd ts sg G))) ⟨[(M,aq Y E)],[S],N,J,[],U⟩ (.ok (.ret (.ref (N+5)))) ⟨[((N+5),aq Ls zt),(M,aq Y E)],[S],eX,gY,[],U⟩:=
 by revert w;exact @(iA 0xaa9525013c2730e77bdef5ac (λw bQ=>[cT w [6] M E h0,gE w [0] (N+6) (J+4) (J+8) (J+9) h2 h3,Yv w [8,7,6,5,4,3,2,0] [0] bQ]) [1,1] [0])
end
theorem YD:∀(l:cC) (b:Nat×Nat),jT b l∈b::l:=by
 intro l
 induction l with
 |nil=>
  intro b
  exact .head _
 |cons x l aS=>
  intro b
  show jT (if lN x b then x else b) l∈_
  have:=aS (if lN x b then x else b)
  rcases gr.mp this with h|h
  ·rw [h]
   split
   ·exact .tail _ (.head _)
   ·exact .head _
  ·exact .tail _ (.tail _ h)
theorem YE {l:cC}{x:Nat×Nat}(h:bestOf l=some x):x∈l:=by
 cases l with
 |nil=>cases h
 |cons b r=>injection h with h;rw [<-h];exact YD r b
theorem YF {x:Nat×Nat}(h:x∈jC ks sg f n):f<x.2/\x.2<n:=by
 delta jC at h
 refine bX (List.mem_flatMap.mp h) λr _ h=> ?_
 unfold nI at h
 refine bX (dS.mp h) λa ha fM=> ?_
 subst fM
 have:=Gs.mp ((List.mem_filter.mp ha).1)
 show f<a/\a<n
 lia
theorem Lt {st:d}(h0:st≠[])(hl:st.getLast?.getD 0<n):gQ ks sw hd sg st n≠[]/\(gQ ks sw hd sg st n).getLast?.getD 0<n+1/\(gQ ks sw hd sg st n).length<=st.length+1:=by
 have keep:st≠[]/\st.getLast?.getD 0<n+1/\st.length<=st.length+1:=⟨h0,by lia,by lia⟩
 have put:∀x,x<n+1->st++[x]≠[]/\(st++[x]).getLast?.getD 0<n+1/\(st++[x]).length<=st.length+1:=λx hx=>⟨by simp,by rw [mZ];exact hx,by simp⟩
 delta gQ
 split
 ·exact keep
 ·split
  ·rename_i x hx
   exact put _ (by have:=YF (YE hx);lia)
  ·split
   ·exact put _ (by lia)
   ·exact keep
variable {w:WB}
theorem YG {F M:Nat}(dr:ps.length<=100)(hl:∀x∈ps,x.g.length<=1000/\x.x.length<=1000)(hw:∀i (h:i+1<ps.length),ps[i+1].g≠[]/\ps[i].x≠[])(eK:sg.length<=3)(fT:sg≠[]):∀(m n:Nat) (x1:Nat) (x2:ay) (o2:Option (Nat×ay)) (v3 v4:ay) (bc:cC) (eS N J:Nat) (p:aw),n+m=ps.length+1->2<=n->bc≠[]->(bc.map aD).getLast?.getD 0<n->bc.length<=n->(o2=none->bc.map aD=[0])-> ∃(xk:Nat) (xl:ay) (xm:Option (Nat×ay)) (mY:cC) (r:Nat×Nat×Nat),mY.map aD=(jH n m).foldl (gQ (ps.map PT.key) sw hd sg) (bc.map aD)/\ aP w (dL w.P F I K q G) p (aA (cA w.P F I)) ⟨du w.P F I Sl M H z k3 sw tw hd th ts E eS n m (some ((x1,x2),o2)) (some v3) (some v4) (aY bc) (bm ps) sg,[ps.map PT.ent],N,J,[],U⟩ (.ok .next) ⟨[(F,iM w.P H z k3 sw tw hd th Sl (some ((xk,xl),xm))),(Sl,aq (aY mY) r.1),(M,aq (bm ps) E)],[ps.map PT.ent],r.2.1,r.2.2,[],U⟩:=by
 intro m
 induction m with
 |zero=>
  intro n x1 x2 o2 v3 v4 bc eS N J p YH hn h0 iH b6 ho
  refine ll x1 x2 o2 bc (eS,N+2,J) rfl ?_
  refine aK.frame (Yw (w:=w) (F:=F) (I:=I) (K:=K) (n:=n) (N:=N) (J:=J) (U:=U) (p:=p) (q:=q) (G:=G)) (D:=⟨du w.P F I Sl M H z k3 sw tw hd th ts E eS n 0 (some ((x1,x2),o2)) (some v3) (some v4) (aY bc) (bm ps) sg,[ps.map PT.ent],N,J,[],U⟩)
   (D':=⟨[(F,iM w.P H z k3 sw tw hd th Sl (some ((x1,x2),o2))),(F+1,ba (some (.ref M))),(F+2,ba (some (Z sg ts))),(F+3,ba (some v3)),(F+4,ba (some v4)),(Sl,aq (aY bc) eS),(M,aq (bm ps) E)],[ps.map PT.ent],N+2,J,[],U⟩)
   (A:=[(F,iM w.P H z k3 sw tw hd th Sl (some ((x1,x2),o2))),(F+1,ba (some (.ref M))),(F+2,ba (some (Z sg ts))),(F+3,ba (some v3)),(F+4,ba (some v4)),(Sl,aq (aY bc) eS),(M,aq (bm ps) E)]++ps.map PT.ent) (B:=[]) ?_ (.refl _) ⟨rfl,rfl,rfl⟩ ?_ (.refl _) ⟨rfl,rfl,rfl⟩|>.less (A:=[(F+1,ba (some (.ref M))),(F+2,ba (some (Z sg ts))),(F+3,ba (some v3)),(F+4,ba (some v4))]) (B:=[]) ?_ (.refl _) ⟨rfl,rfl,rfl⟩
  ·simp only [aC.all,du,ck,ce,bk,eB,cZ]
   exact(cY (l₁:=[_,_,_,_,_,_,_]) (l₂:=[_])).append_right (ps.map PT.ent)
  ·simp only [aC.all,ck,ce,bk,eB,cZ]
   exact .refl _
  ·simp only [aC.all,ck,ce,bk,eB,cZ]
   refine cg.cons _ ?_
   have:=cY (l₁:=[(F+1,ba (some (.ref M))),(F+2,ba (some (Z sg ts))),(F+3,ba (some v3)),(F+4,ba (some v4))]) (l₂:=(Sl,aq (aY bc) eS)::(M,aq (bm ps) E)::ps.map PT.ent)
   simpa only [eB,cZ]using this
 |succ m aS=>
  intro n x1 x2 o2 v3 v4 bc eS N J p YH hn h0 iH b6 ho
  have YI:Bo w F I Sl M K H z k3 sw tw hd th ts E n m U (bm ps) sg (ps.map PT.ent) p q G ⟨du w.P F I Sl M H z k3 sw tw hd th ts E eS n (m+1) (some ((x1,x2),o2)) (some v3) (some v4) (aY bc) (bm ps) sg,[ps.map PT.ent],N,J,[],U⟩ (gQ (ps.map PT.key) sw hd sg (bc.map aD) n):=by
   rcases Ew bc with rfl|⟨cX,⟨f,tf⟩,rfl⟩
   ·exact absurd rfl h0
   ·cases o2 with
    |some y=>
     have e1:(cX++[(f,tf)]).map aD=cX.map aD++[f]:=by simp
     rw [e1]at iH⊢
     rw [mZ]at iH
     rw [<-l5]
     exact Yr dr hl hw eK fT iH (by lia) (by simp at b6;lia)
    |none=>
     have:=ho rfl
     have e0:cX=[]:=by
      have:=congrArg dn this
      simp at this
      exact this
     subst e0
     have ef:f=0:=by simpa using this
     subst ef
     exact Ys dr hl hw eK fT hn (by lia)
  obtain⟨xk,xl,xm,jb,jc,l4,mY,eA,N',au,p',g1,g2,g4,g3⟩:=YI
  subst g2
  have hs:=Lt (ks:=ps.map PT.key) (sw:=sw) (hd:=hd) (sg:=sg) (by simpa using h0) iH
  rw [<-g1]at hs
  have jX:mY.length<=bc.length+1:=by simpa using hs.2.2
  refine iT (aS (n+1) xk xl xm jb jc mY eA N' au p' (by lia) kf (λq=>hs.1 (by rw [q];rfl)) hs.2.1 (by lia) (λq=>by rw [g1];exact g4 q)) λE8 E9 Bt Bu r f1 f2=> ?_
  exact ll E8 E9 Bt Bu r (by rw [f1,g1,uZ,qv]) (ax.turn (aT w) rfl (by kernel_rfl) g3 f2)
theorem YJ {M:Nat}(dr:ps.length<=100)(h1:1<=ps.length)(hl:∀x∈ps,x.g.length<=1000/\x.x.length<=1000)(hw:∀i (h:i+1<ps.length),ps[i+1].g≠[]/\ps[i].x≠[])(eK:sg.length<=3)(fT:sg≠[]):∃(Sl:Nat) (bc:cC) (r:Nat×Nat×Nat),bc.map aD=nK (ps.map PT.key) wd hd sg ps.length/\ aP w (qi w.P M tw th K wd hd ts sg G) p (aA (Ctx.code (qi w.P M tw th K wd hd ts sg G))) ⟨[(M,aq (bm ps) E)],[ps.map PT.ent],N,J,[],U⟩ (.ok (.ret (.ref Sl))) ⟨[(Sl,aq (aY bc) r.1),(M,aq (bm ps) E)],[ps.map PT.ent],r.2.1,r.2.2,[],U⟩:=by
 have ku:(bm ps).length=ps.length:=by delta bm;rw [bA]
 obtain⟨m,hm⟩:∃m,ps.length=m+1:=⟨ps.length-1,by lia⟩
 obtain⟨xk,xl,xm,jb,jc,l4,mY,eA,N',au,p',g1,g2,g4,g3⟩:=Yt (m:=m) dr hl hw eK fT h1
 subst g2
 have hs:=Lt (ks:=ps.map PT.key) (sw:=wd) (hd:=hd) (sg:=sg) (st:=[0]) (n:=1) (by simp) (by decide)
 rw [<-g1]at hs
 have jX:mY.length<=2:=by simpa using hs.2.2
 refine iT (YG (w:=w) (F:=N) (I:=N+7) (Sl:=N+5) (M:=M) (K:=K) (H:=J) (z:=J+1) (k3:=J+3) (sw:=wd) (tw:=tw) (hd:=hd) (th:=th) (ts:=ts) (E:=E) (U:=U) (q:=qD) (G:=G) dr hl hw eK fT m 2 xk xl xm jb jc mY eA N' au p' (by lia) pd (λq=>hs.1 (by rw [q];rfl)) hs.2.1 jX (λq=>by rw [g1];exact g4 q)) λE8 E9 Bt Bu r f1 f2=> ?_
 have f3:rK w N (N+7) (N+5) M K J (J+1) (J+3) wd tw hd th ts E (m+1) (N+8) (J+10) U (J+2) r.1 r.2.1 r.2.2 (some ((E8,E9),Bt)) (bm ps) (aY Bu) sg (ps.map PT.ent) qD qD G:=by
  unfold rK
  rw [aT]
  exact ax.turn (aT w) rfl (by kernel_rfl) g3 f2
 refine j9 (N+5) Bu (r.1,r.2.1,r.2.2) ?_ ?_
 ·rw [f1,g1,hm]
  unfold nK
  rw [uZ,qv]
 ·cases Bt with
  |none=>exact Yx (by lia) (by rw [ku,hm];lia) (by lia) f3
  |some y=>exact Yz (by lia) (by rw [ku,hm];lia) (by lia) f3
noncomputable def Fa (e elt target:Expr)(it av:ay)(env:Env)(v:ay):SF:=
 R.bindR (aeG target env v) λ_=>R.bindR (R.bindR (Fast.tw14044960220447912780 elt env) λx=>R.bindR (BY (.builtin "list.append") [av,x] []) λ_=> .pure ()) λ_=> .pure (.again (.compLoop e 0 it av env))
theorem YK {iter:Expr}{x1:_}{sc:_}{tp ps:aw}{av:ay}{f:PySem.Fin}(h1:aE w Γ iter.pos (dP it) C (.ok (some v)) p₁ bq)(h2:aE w Γ p₁ (letOwnedTupleGo (.Tuple elts x1 tp) it v) bq (.ok ()) p₁ ij)(h3:aE w Γ p₁ (Fa (.ListComp elt [⟨.Tuple elts x1 tp,iter,[],0⟩] sc ps) elt (.Tuple elts x1 tp) it av env v) ij (.ok f) p₃ mE):aE w Γ p (aA (.compLoop (.ListComp elt [⟨.Tuple elts x1 tp,iter,[],0⟩] sc ps) 0 it av env)) C (.ok f) p₃ mE:=by
 rw [<-or]
 delta denote
 dsimp only
 have key:aE w Γ p (compTurn (.ListComp elt [⟨.Tuple elts x1 tp,iter,[],0⟩] sc ps) 0 it av env) C (.ok f) p₃ mE:=by
  delta compTurn
  refine ax.bind (λs R=>⟨s,.refl R,λ_ _ _ _ _ _ q=> .at q⟩) ?_
  refine ax.bind (by rw [o6];exact h1) ?_
  refine ax.bind h2 ?_
  delta Fa at h3
  rw [<-aeH,<-Fast.te14044960220447912780,<-aeM,<-R.bindR_eq]at h3
  refine(congrArg (λt=>aE w Γ p₁ t ij (.ok f) p₃ mE) ?_).mp h3
  rfl
 split
 ·exact ax.onRaise key
 ·exact ax.onRaise key
theorem YL {iter:Expr}{x1:_}{sc:_}{tp ps:aw}{av:ay}(h1:aE w Γ iter.pos (dP it) C (.ok none) p₁ bq):aP w Γ p (aA (.compLoop (.ListComp elt [⟨.Tuple elts x1 tp,iter,[],0⟩] sc ps) 0 it av env)) C (.ok .next) bq:=by
 rw [<-or]
 delta denote
 dsimp only
 have key:aE w Γ p (compTurn (.ListComp elt [⟨.Tuple elts x1 tp,iter,[],0⟩] sc ps) 0 it av env) C (.ok (.done .next)) p₁ bq:=by
  delta compTurn
  refine ax.bind (λs R=>⟨s,.refl R,λ_ _ _ _ _ _ q=> .at q⟩) ?_
  refine ax.bind (by rw [o6];exact h1) ?_
  exact ax.pure
 split
 ·exact(ax.onRaise key).done
 ·exact(ax.onRaise key).done
noncomputable def Lu:Expr->Expr
 | .ListComp e _ _ _=>e
 |e=>e
noncomputable def uL:Expr->Comprehension
 | .ListComp _ (g::_) _ _=>g
 |e=>⟨e,e,[],0⟩
noncomputable def YM:Expr->Scope
 | .ListComp _ _ s _=>s
 |_=>default
noncomputable def YN:Expr->aw
 | .ListComp _ _ _ p=>p
 |_=>default
noncomputable def oW (P:aF):Expr:=(uL (kR P)).target
noncomputable def Lv (P:aF):Expr:= .ListComp (Lu (kR P)) [⟨.Tuple (rc (oW P)) (rd (oW P)) (jv (oW P)),(uL (kR P)).iter,[],0⟩] (YM (kR P)) (YN (kR P))
noncomputable def xn (P:aF)(K D1 aW ag T:Nat):SF:=Fa (Lv P) (Lu (kR P)) (.Tuple (rc (oW P)) (rd (oW P)) (jv (oW P))) (.ref ag) (.ref aW) (Am P K D1) (.ref T)
noncomputable def m4 (P:aF)(K D1 aW I1:Nat)(q:aw):bd:=⟨mJ P K D1 aW I1,none,none,cO P K q,none⟩
def qj (w:WB)(K D1 aW I1 D av I l E U N J e' i' N' au:Nat)(o:Option (Nat×ay))(Y:LV)(aO:bB)(S:aJ)(p q q1:aw):Prop:=
 aP w (rf w.P K D1 aW I1 D av I q q1) p ((VV w).M.den (nD w.P K D1 D av I)) (cU w.P cj D av I l none [] 0 Y E 0 [] [S] N J U) (.ok .next) (hC w.P cj D av I l o (aR aO) e' Y E i' [] [S] N' au U)
noncomputable def Lw (w:WB)(aH bt:d){K D1 aW I1 D av I l E U N J e' i' N' au:Nat}{Y:LV}{aO:bB}{S:aJ}{p q q1:aw}(h:qj w K D1 aW I1 D av I l E U N J e' i' N' au none Y aO S p q q1):aM w:= .fn _ _ aH bt [] _ _ _ h
noncomputable def Ly (w:WB)(aH bt:d){K D1 aW I1 D av I l E U N J e' i' N' au kk:Nat}{vv:ay}{Y:LV}{aO:bB}{S:aJ}{p q q1:aw}(h:qj w K D1 aW I1 D av I l E U N J e' i' N' au (some (kk,vv)) Y aO S p q q1):aM w:= .fn _ _ aH bt [] _ _ _ h
section
variable {w:WB}
noncomputable def rM (w:WB)(aH:d)(ts A e_:Nat){l:bB}(h:(l.map λx=>x.1.length).sum<=100000):aM w:= .bi _ _ _ _ aH _ _ _ _ _ (CZ [] ts A e_ l (by simpa using h))
end
noncomputable def aN:d:=[97]
noncomputable def bN:d:=[98]
section
variable {ag M:Nat}{S:aJ}(h0:Y.length<=100000)
include h0
theorem YO {gc:bB}(h6:qj w K D1 aW ag (N+7) (N+6) (N+5) (N+4) 0 U (N+8) (J+3) ik zu gX fz none (eZ Y (some a) (some b)) gc S nh q nh)(h7:(cr (λx=>x.fst.length) gc).sum<=100000)(h8:aO.length<=100000):aE w (m4 w.P K D1 aW ag q) p (xn w.P K D1 aW ag T) ⟨[(D1,kS w.P aN bN none),(aW,aq aO e),(T,aG [.int (O a) ta,.int (O b) tb]),(K+1,ba (some (.ref M))),(M,aq Y E)],[S],N,J,[],U⟩ (.ok (.again (mJ w.P K D1 aW ag))) ss ⟨[(D1,kS w.P aN bN (some ((J,(.int (O a) ta)),((J+1),(.int (O b) tb))))),(aW,aq (aO++[Z (bp [] (cr aD gc)) (fh gc fz)]) (e+1)),(K+1,ba (some (.ref M))),(M,aq Y E)],[S],gX,(fz+(0+fj gc)),[],U⟩:=
 by revert w;exact @(kN 0x15fc94e38e724aa7e4fd3f4fd6bbad6b5aab52556a4aad49471ce7 0x57f2524aa7e4fd3f4fd6bbad6b5aab52556a4aad49471ce7 (λw h6=>[fQ w [0,7] (N+3) M E ta tb a b h0,Lw w [0,0,0,0] [0] h6,rM w [1] (J+2) (N+6) ik h7,bR w [10] aW e (Z (bp [] (cr aD gc)) (fh gc fz)) h8]) [10,0,10,5] [0])
theorem YP (h8:qj w K D1 aW ag (N+7) (N+6) (N+5) (N+4) 0 U (N+8) (J+3) ik zu gX fz (some (H6,Ie)) (eZ Y (some a) (some b)) iC S nh q nh)(h9:(cr (λx=>x.fst.length) iC).sum<=100000)(bT:aO.length<=100000):aE w (m4 w.P K D1 aW ag q) p (xn w.P K D1 aW ag T) ⟨[(D1,kS w.P aN bN none),(aW,aq aO e),(T,aG [.int (O a) ta,.int (O b) tb]),(K+1,ba (some (.ref M))),(M,aq Y E)],[S],N,J,[],U⟩ (.ok (.again (mJ w.P K D1 aW ag))) ss ⟨[(D1,kS w.P aN bN (some ((J,(.int (O a) ta)),((J+1),(.int (O b) tb))))),(aW,aq (aO++[Z (bp [] (cr aD iC)) (fh iC fz)]) (e+1)),(K+1,ba (some (.ref M))),(M,aq Y E)],[S],gX,(fz+(0+fj iC)),[],U⟩:=
 by revert w;exact @(kN 0x15fc954e38e724aa7e4fd3f4fd6bbad6b5aab52556a4aad49471ce7 0x57f25524aa7e4fd3f4fd6bbad6b5aab52556a4aad49471ce7 (λw h8=>[fQ w [0,7] (N+3) M E ta tb a b h0,Ly w [0,0,0,0] [0] h8,rM w [1] (J+2) (N+6) ik h9,bR w [10] aW e (Z (bp [] (cr aD iC)) (fh iC fz)) bT]) [10,0,10,5] [0])
theorem YQ {gc:bB}(h6:qj w K D1 aW ag (N+7) (N+6) (N+5) (N+4) 0 U (N+8) (J+3) ik zu gX fz none (eZ Y (some a) (some b)) gc S nh q nh)(h7:(cr (λx=>x.fst.length) gc).sum<=100000)(h8:aO.length<=100000):aE w (m4 w.P K D1 aW ag q) p (xn w.P K D1 aW ag T) ⟨[(D1,kS w.P aN bN (some ((H,v1),(z,v2)))),(aW,aq aO e),(T,aG [.int (O a) ta,.int (O b) tb]),(K+1,ba (some (.ref M))),(M,aq Y E)],[S],N,J,[],U⟩ (.ok (.again (mJ w.P K D1 aW ag))) ss ⟨[(D1,kS w.P aN bN (some ((H,(.int (O a) ta)),(z,(.int (O b) tb))))),(aW,aq (aO++[Z (bp [] (cr aD gc)) (fh gc fz)]) (e+1)),(K+1,ba (some (.ref M))),(M,aq Y E)],[S],gX,(fz+(0+fj gc)),[],U⟩:=
 by revert w;exact @(kN 0x15fc94e38e724aa7e4fd3f4fd6bbad6b5aab52556a4aad49471ce7 0x57f2524aa7e4fd3f4fd6bbad6b5aab52556a4aad49471ce7 (λw h6=>[fQ w [0,7] (N+3) M E ta tb a b h0,Lw w [0,0,0,0] [0] h6,rM w [1] (J+2) (N+6) ik h7,bR w [10] aW e (Z (bp [] (cr aD gc)) (fh gc fz)) h8]) [10,0,10,5] [0])
theorem YR (h8:qj w K D1 aW ag (N+7) (N+6) (N+5) (N+4) 0 U (N+8) (J+3) ik zu gX fz (some (H6,Ie)) (eZ Y (some a) (some b)) iC S nh q nh)(h9:(cr (λx=>x.fst.length) iC).sum<=100000)(bT:aO.length<=100000):aE w (m4 w.P K D1 aW ag q) p (xn w.P K D1 aW ag T) ⟨[(D1,kS w.P aN bN (some ((H,v1),(z,v2)))),(aW,aq aO e),(T,aG [.int (O a) ta,.int (O b) tb]),(K+1,ba (some (.ref M))),(M,aq Y E)],[S],N,J,[],U⟩ (.ok (.again (mJ w.P K D1 aW ag))) ss ⟨[(D1,kS w.P aN bN (some ((H,(.int (O a) ta)),(z,(.int (O b) tb))))),(aW,aq (aO++[Z (bp [] (cr aD iC)) (fh iC fz)]) (e+1)),(K+1,ba (some (.ref M))),(M,aq Y E)],[S],gX,(fz+(0+fj iC)),[],U⟩:=
 by revert w;exact @(kN 0x15fc954e38e724aa7e4fd3f4fd6bbad6b5aab52556a4aad49471ce7 0x57f25524aa7e4fd3f4fd6bbad6b5aab52556a4aad49471ce7 (λw h8=>[fQ w [0,7] (N+3) M E ta tb a b h0,Ly w [0,0,0,0] [0] h8,rM w [1] (J+2) (N+6) ik h9,bR w [10] aW e (Z (bp [] (cr aD iC)) (fh iC fz)) bT]) [10,0,10,5] [0])
end
noncomputable def rN (ag A R I l e aa k ue i:Nat)(o1 o2:ay)(Y us:LV)(N J U:Nat):aC:=⟨[(ag,kZ .none A R),(A,aG [.ref I,.ref aa]),(R,aG [o1,o2]),(I,bM l i),(l,aq Y e),(aa,bM k i),(k,aq us ue)],[],N,J,[],U⟩
theorem YS {ag R:Nat}{o2:ay}{us:LV}{c:bL}(hx:Y[i]? =some v1)(hy:us[i]? =some v2):aE w ⟨c,none,own,below,past⟩ p (dP (.ref ag)) (rN ag A R I l e aa k ue i o1 o2 Y us N J U) (.ok (dv (.ref N))) p ⟨[(ag,kZ (ft N) A R),(A,aG [.ref I,.ref aa]),(R,aG [v1,v2]),(I,bM l (i+1)),(l,aq Y e),(aa,bM k (i+1)),(k,aq us ue),(N,aG [v1,v2])],[],(N+1),J,[],U⟩:=
 w1 0x2739cef7bdeecd37bdef565aa8d49 [c9 w [3,3] I l e hx,c9 w [5,5] aa k ue hy] [5,5,5,3,3,1,1,0]
theorem YT {ag R:Nat}{o2:ay}{us:LV}{c:bL}(hx:Y[i]? =none):aE w ⟨c,none,own,below,past⟩ p (dP (.ref ag)) (rN ag A R I l e aa k ue i o1 o2 Y us N J U) (.ok kL) p ⟨[(l,aq Y e)],[],(N+2),J,[],U⟩:=
 w1 0x5ef565aa8d49 [gz w [3,3] I l e hx] [3]
theorem Fb (P:aF)(K D av I:Nat):mJ P K D av I= .compLoop (Lv P) 0 (.ref I) (.ref av) (Am P K D):=by kernel_rfl
theorem Lz {bv:List PT}{aO:bB}(h:aO.map aD=bv.map λx=>x.g++x.x):bp [] (aO.map aD)=bs (bv.map PT.key)/\(aO.map λx=>x.1.length).sum=bx (bv.map PT.key):=by
 have e:aO.map aD=(bv.map PT.key).map λx=>x.1++x.2:=by rw [h,eF];rfl
 refine⟨by rw [Kw,e];rfl,?_⟩
 have:(aO.map λx=>x.1.length)=(aO.map aD).map dn:=by rw [eF];rfl
 rw [this,e]
 delta bx
 rw [eF]
 congr 1
 apply u6
 intro x _
 simp
theorem YU (dr:ps.length<=45)(hl:∀x∈ps,x.g.length<=1000/\x.x.length<=1000)(lJ:a<=b)(hb:b<=ps.length):∃(o:Option (Nat×ay)) (aO:bB) (r:Nat×Nat×Nat×Nat),(bp [] (aO.map aD)=bs (((ps.map PT.key).take b).drop a)/\(aO.map λx=>x.1.length).sum<=100000)/\ qj w K D1 aW I1 D av I l 0 U N J r.1 r.2.1 r.2.2.1 r.2.2.2 o (eZ (bm ps) (some a) (some b)) aO (ps.map PT.ent) p q q1:=by
 have gN:∀x∈(ps.take b).drop a,x∈ps:=λx hx=>sa (sb hx)
 have b6:((ps.take b).drop a).length<=45:=by rw [na,mj];lia
 have hv:eZ (bm ps) (some a) (some b)=bm ((ps.take b).drop a):=by
  rw [Lm _ (by delta bm;rw [bA];exact hb) lJ]
  delta bm
  rw [xW,ml]
 refine uJ (Th (w:=w) (K:=K) (D1:=D1) (aW:=aW) (I1:=I1) (D:=D) (av:=av) (I:=I) (l:=l) (E:=0) (U:=U) (e:=0) (N:=N) (J:=J) (p:=p) (q:=q) (q1:=q1) c5 gN λx hx=>by have:=hl x hx;lia) λo aO e' N' au h=>
  mo (h) λh1 _ _ h4=> ?_
 have hj:=Lz h1
 refine j9 o aO (e',((ps.take b).drop a).length,N',au) ⟨by rw [hj.1,xW,ml],?_⟩ ?_
 ·rw [hj.2]
  have:∀(l:List PT),(∀x∈l,x∈ps)->bx (l.map PT.key)<=2000*l.length:=λl=>by
   induction l with
   |nil=>intro _;exact fv _
   |cons x r ih=>
    intro h
    have h1:=hl x (h x (.head _))
    have h2:=ih λy hy=>h y (.tail _ hy)
    have e:bx ((x::r).map PT.key)=x.g.length+x.x.length+bx (r.map PT.key):=by simp [bx,PT.key]
    rw [e,cy]
    lia
  have:=this _ gN
  lia
 ·rw [hv]
  unfold qj
  rw [aT]
  exact h4
noncomputable def nY (P:aF)(K D1 aW M E e:Nat)(o:eP)(aO Y:LV):aJ:=[(D1,kS P aN bN o),(aW,aq aO e),(K+1,ba (some (.ref M))),(M,aq Y E)]
theorem YV {ag M:Nat}{o:eP}(dr:ps.length<=45)(hl:∀x∈ps,x.g.length<=1000/\x.x.length<=1000)(lJ:a<=b)(hb:b<=ps.length)(ho:aO.length<=1000):∃(o':NV×NV) (r:Nat×Nat×Nat×Nat),aE w (m4 w.P K D1 aW ag q) p (xn w.P K D1 aW ag T) ⟨[(D1,kS w.P aN bN o),(aW,aq aO e),(T,aG [.int (O a) ta,.int (O b) tb]),(K+1,ba (some (.ref M))),(M,aq (bm ps) E)],[ps.map PT.ent],N,J,[],U⟩ (.ok (.again (mJ w.P K D1 aW ag))) ss ⟨nY w.P K D1 aW M E r.2.2.1 (some o') (aO++[Z (bs (((ps.map PT.key).take b).drop a)) r.2.2.2]) (bm ps),[ps.map PT.ent],r.1,r.2.1,[],U⟩:=by
 have cV:(bm ps).length<=100000:=by delta bm;rw [bA];lia
 refine nW (YU (w:=w) (K:=K) (D1:=D1) (aW:=aW) (I1:=ag) (D:=N+7) (av:=N+6) (I:=N+5) (l:=N+4) (U:=U) (N:=N+8) (J:=J+3) (p:=nh) (q:=q) (q1:=nh) dr hl lJ hb) λoi Bv r h=> ?_
 obtain⟨⟨h1,h2⟩,h3⟩:=h
 rw [<-h1]
 cases o with
 |none=>cases oi with
  |none=>exact dU _ (_,_,_,_) (YO cV h3 h2 c5)
  |some kv=>exact dU _ (_,_,_,_) (YP cV h3 h2 c5)
 |some am=>cases oi with
  |none=>exact dU _ (_,_,_,_) (YQ cV h3 h2 c5)
  |some kv=>exact dU _ (_,_,_,_) (YR (H:=am.1.1) (z:=am.2.1) cV h3 h2 c5)
theorem YW (zs:List α)(t ah a:α)(X seg:List α):((zs++(t::ah::a::X))++seg).Perm (((ah::a::t::X)++seg)++zs):=by
 rw [bK]
 refine cY.trans (cg.append_right _ ?_)
 refine cg.append_right seg ?_
 exact(cg.swap ah t _).trans (cg.cons _ (cg.swap a t X))
theorem YX {ag R e1 M:Nat}{ab:List ((Nat×Nat)×(Nat×Nat))}(dr:ps.length<=45)(hl:∀x∈ps,x.g.length<=1000/\x.x.length<=1000)(lJ:∀y∈ab,y.1.1<=y.2.1/\y.2.1<=ps.length)(hn:ab.length<=500):∀(m i:Nat) (o:eP) (o1 o2:ay) (aO:bB) (e N J:Nat) (p:aw),i+m=ab.length->aO.length<=i-> ∃(o':eP) (kE:bB) (r:Nat×Nat×Nat),(kE.map aD=aO.map aD++(ab.drop i).map (λy=>bs (((ps.map PT.key).take y.2.1).drop y.1.1))/\(m≠0->∃am,o'=some am)/\(m=0->o'=o))/\ aP w (m4 w.P K D1 aW ag q) p (aA (mJ w.P K D1 aW ag)) ⟨(rN ag A R I l e1 aa k ue i o1 o2 (aY (ab.map aD)) (aY (ab.map iu)) N J U).L++nY w.P K D1 aW M E e o (aR aO) (bm ps),[ps.map PT.ent],N,J,[],U⟩ (.ok .next) ⟨[(l,aq (aY (ab.map aD)) e1)]++nY w.P K D1 aW M E r.1 o' (aR kE) (bm ps),[ps.map PT.ent],r.2.1,r.2.2,[],U⟩:=by
 intro m
 induction m with
 |zero=>
  intro i o o1 o2 aO e N J p hi ho
  refine j9 o aO (e,N+2,J) ⟨by rw [mh (by lia)];simp,λh=>absurd rfl h,λ_=>rfl⟩ ?_
  rw [Fb]
  have hx:(aY (ab.map aD))[i]? =none:=BS (by unfold aY;rw [bA,bA];lia)
  exact aK.more (nY w.P K D1 aW M E e o (aR aO) (bm ps)) [ps.map PT.ent] (YL (YT (w:=w) (c:=mJ w.P K D1 aW ag) (own:=none) (past:=none) (below:=(m4 w.P K D1 aW ag q).below) (p:=(uL (kR w.P)).iter.pos) hx))
 |succ m aS=>
  intro i o o1 o2 aO e N J p hi ho
  have bw:i<ab.length:=by lia
  have hy:=lJ ab[i] (gt bw)
  have YY:(aY (ab.map aD))[i]? =some (.int (O ab[i].1.1) ab[i].1.2):=Aa (by rw [iv,cm bw];rfl)
  have YZ:(aY (ab.map iu))[i]? =some (.int (O ab[i].2.1) ab[i].2.2):=Aa (by rw [iv,cm bw];rfl)
  have dF:(aR aO).length<=1000:=by delta aR;rw [bA];lia
  have t1:=aK.more (nY w.P K D1 aW M E e o (aR aO) (bm ps)) [ps.map PT.ent] (YS (w:=w) (ag:=ag) (A:=A) (R:=R) (I:=I) (l:=l) (e:=e1) (aa:=aa) (k:=k) (ue:=ue) (N:=N) (J:=J) (U:=U) (o1:=o1) (o2:=o2) (c:=mJ w.P K D1 aW ag) (own:=none) (past:=none) (below:=(m4 w.P K D1 aW ag q).below) (p:=(uL (kR w.P)).iter.pos) YY YZ)
  have t2:=aK.side ([(A,aG [.ref I,.ref aa]),(R,aG [.int (O ab[i].1.1) ab[i].1.2,.int (O ab[i].2.1) ab[i].2.2]),(I,bM l (i+1)),(l,aq (aY (ab.map aD)) e1),(aa,bM k (i+1)),(k,aq (aY (ab.map iu)) ue),(N,aG [.int (O ab[i].1.1) ab[i].1.2,.int (O ab[i].2.1) ab[i].2.2])]++nY w.P K D1 aW M E e o (aR aO) (bm ps)) [ps.map PT.ent] [] (Dd (w:=w) (Γ:=m4 w.P K D1 aW ag q) (p:=(uL (kR w.P)).iter.pos) (elts:=rc (oW w.P)) (x1:=rd (oW w.P)) (tp:=jv (oW w.P)) (I:=ag) (T:=N) (N:=N+1) (J:=J) (U:=U) (fs:=[.bool false,.bool false,.ref A,.ref R]) (.inr rfl))
  refine uI (YV (w:=w) (K:=K) (D1:=D1) (aW:=aW) (ag:=ag) (T:=N) (M:=M) (E:=E) (e:=e) (ta:=ab[i].1.2) (tb:=ab[i].2.2) (N:=N+1) (J:=J) (U:=U) (o:=o) (p:=(uL (kR w.P)).iter.pos) (q:=q) dr hl hy.1 hy.2 dF) λo' r hw=> ?_
  have eo:aR aO++[Z (bs (((ps.map PT.key).take ab[i].2.1).drop ab[i].1.1)) r.2.2.2]=aR (aO++[(bs (((ps.map PT.key).take ab[i].2.1).drop ab[i].1.1),r.2.2.2)]):=by simp [aR]
  rw [eo]at hw
  have t3:=aK.frame hw (D:=⟨[(ag,kZ .none A R),(A,aG [.ref I,.ref aa]),(R,aG [.int (O ab[i].1.1) ab[i].1.2,.int (O ab[i].2.1) ab[i].2.2]),(I,bM l (i+1)),(l,aq (aY (ab.map aD)) e1),(aa,bM k (i+1)),(k,aq (aY (ab.map iu)) ue),(N,aG [.int (O ab[i].1.1) ab[i].1.2,.int (O ab[i].2.1) ab[i].2.2])]++nY w.P K D1 aW M E e o (aR aO) (bm ps),[ps.map PT.ent],N+1,J,[],U⟩)
   (D':=⟨(rN ag A R I l e1 aa k ue (i+1) (.int (O ab[i].1.1) ab[i].1.2) (.int (O ab[i].2.1) ab[i].2.2) (aY (ab.map aD)) (aY (ab.map iu)) N J U).L++nY w.P K D1 aW M E r.2.2.1 (some o') (aR (aO++[(bs (((ps.map PT.key).take ab[i].2.1).drop ab[i].1.1),r.2.2.2)])) (bm ps),[ps.map PT.ent],r.1,r.2.1,[],U⟩)
   (A:=(rN ag A R I l e1 aa k ue (i+1) (.int (O ab[i].1.1) ab[i].1.2) (.int (O ab[i].2.1) ab[i].2.2) (aY (ab.map aD)) (aY (ab.map iu)) N J U).L) (B:=[]) (by
    simp only [aC.all,ck,ce,bk]
    exact YW (rN ag A R I l e1 aa k ue (i+1) (.int (O ab[i].1.1) ab[i].1.2) (.int (O ab[i].2.1) ab[i].2.2) (aY (ab.map aD)) (aY (ab.map iu)) N J U).L (N,aG [.int (O ab[i].1.1) ab[i].1.2,.int (O ab[i].2.1) ab[i].2.2]) (D1,kS w.P aN bN o) (aW,aq (aR aO) e) [(K+1,ba (some (.ref M))),(M,aq (bm ps) E)] (ps.map PT.ent)) (.refl _) ⟨rfl,rfl,rfl⟩ (by
    simp only [aC.all,ck,ce,bk]
    rw [bK]
    exact cY) (.refl _) ⟨rfl,rfl,rfl⟩
  refine nW (aS (i+1) (some o') (.int (O ab[i].1.1) ab[i].1.2) (.int (O ab[i].2.1) ab[i].2.2) (aO++[(bs (((ps.map PT.key).take ab[i].2.1).drop ab[i].1.1),r.2.2.2)]) r.2.2.1 r.1 r.2.1 ss (by lia) (by rw [ci,o7];lia)) λxo xp xq h=> ?_
  obtain⟨⟨f1,f2,f3⟩,f4⟩:=h
  refine j9 xo xp xq ⟨?_,λ_=> ?_,λh=>absurd h lq⟩ ?_
  ·rw [f1,fJ bw,cx,bY,bK]
   rfl
  ·by_cases hm:m=0
   ·exact⟨o',f3 hm⟩
   ·exact f2 hm
  ·refine ax.turn (aT w) rfl (by kernel_rfl) ?_ f4
   rw [Fb]
   rw [Fb]at t3
   exact YK t1 t2 t3
noncomputable def l6 (P:aF)(K D1 aW I1:Nat)(q:aw):bd:=⟨iF P K D1 aW I1,none,none,cO P K q,none⟩
def xr (w:WB)(K D1 aW I1 D av I l E U N J e' i' N' au:Nat)(o:Option (Nat×ay))(Y:LV)(aO:bB)(S:aJ)(p q q1:aw):Prop:=
 aP w (rg w.P K D1 aW I1 D av I q q1) p ((VV w).M.den (nE w.P K D1 D av I)) (cU w.P cj D av I l none [] 0 Y E 0 [] [S] N J U) (.ok .next) (hC w.P cj D av I l o (aR aO) e' Y E i' [] [S] N' au U)
noncomputable def LA (w:WB)(aH bt:d){K D1 aW I1 D av I l E U N J e' i' N' au kk:Nat}{vv:ay}{Y:LV}{aO:bB}{S:aJ}{p q q1:aw}(h:xr w K D1 aW I1 D av I l E U N J e' i' N' au (some (kk,vv)) Y aO S p q q1):aM w:= .fn _ _ aH bt [] _ _ _ h
section
variable {M:Nat}{us:LV}{S:aJ}(hv:us[i]? =some (.int (O a) ta))
include hv
theorem Y0 (h0:decide (O a>O 0)=true)(h1:Y.length<=100000)(h9:xr w K D1 aW I (N+4) (N+3) (N+2) (N+1) 0 U (N+5) (J+3) pE CH fA fB (some (H7,Ig)) (eZ Y none (some a)) iD S su q su)(bT:(cr (λx=>x.fst.length) iD).sum<=100000)(fH:(bp [] (cr aD iD)).length<=100000)(bQ:aO.length<=100000):aE w (l6 w.P K D1 aW I q) p (aA (iF w.P K D1 aW I)) ⟨[(D1,hB w.P aN none),(aW,aq aO e),(I,bM l i),(l,aq us ue),(K+1,ba (some (.ref M))),(M,aq Y E)],[S],N,J,[],U⟩ (.ok (.again (iF w.P K D1 aW I))) yv ⟨[(D1,hB w.P aN (some (J,(.int (O a) ta)))),(aW,aq (aO++[.int (O ((bp [] (cr aD iD)).length)) (fB+(0+fj iD)+1)]) (e+1)),(I,bM l (i+1)),(l,aq us ue),(K+1,ba (some (.ref M))),(M,aq Y E)],[S],fA,(fB+(0+fj iD+2)),[],U⟩:=
 by revert w;exact @(kN 0xabe4954e38e724add7bdcef139ce9c7 0x2af925524add7bdcef139ce9c7 (λw h9=>[c9 w [2,2] I l ue hv,cb w ta (J+1) h0,ug w [0,5] N M E ta a h1,LA w [0,0,0,0] [0] h9,rM w [1] (J+2) (N+3) pE bT,bZ w (fh iD fB) fH,bR w [9] aW e (.int (O (bp [] (cr aD iD)).length) (fB+(0+fj iD)+1)) bQ]) [9,0,6,6,6,5] [0])
theorem Y1 (h0:decide (O a>O 0)=false):aE w (l6 w.P K D1 aW I q) p (aA (iF w.P K D1 aW I)) ⟨[(D1,hB w.P aN none),(aW,aq aO e),(I,bM l i),(l,aq us ue),(K+1,ba (some (.ref M))),(M,aq Y E)],[S],N,J,[],U⟩ (.ok (.again (iF w.P K D1 aW I))) yw ⟨[(D1,hB w.P aN (some (J,(.int (O a) ta)))),(aW,aq aO e),(I,bM l (i+1)),(l,aq us ue),(K+1,ba (some (.ref M))),(M,aq Y E)],[S],N,(J+2),[],U⟩:=
 by revert w;exact @(dI 329050567 (λw=>[c9 w [2,2] I l ue hv,cb w ta (J+1) h0]) [2,2,0,0,0,0] [0])
theorem Y2 (h0:decide (O a>O 0)=true)(h1:Y.length<=100000)(h9:xr w K D1 aW I (N+4) (N+3) (N+2) (N+1) 0 U (N+5) (J+3) pE CH fA fB (some (H7,Ig)) (eZ Y none (some a)) iD S su q su)(bT:(cr (λx=>x.fst.length) iD).sum<=100000)(fH:(bp [] (cr aD iD)).length<=100000)(bQ:aO.length<=100000):aE w (l6 w.P K D1 aW I q) p (aA (iF w.P K D1 aW I)) ⟨[(D1,hB w.P aN (some (H,v1))),(aW,aq aO e),(I,bM l i),(l,aq us ue),(K+1,ba (some (.ref M))),(M,aq Y E)],[S],N,J,[],U⟩ (.ok (.again (iF w.P K D1 aW I))) yv ⟨[(D1,hB w.P aN (some (H,(.int (O a) ta)))),(aW,aq (aO++[.int (O ((bp [] (cr aD iD)).length)) (fB+(0+fj iD)+1)]) (e+1)),(I,bM l (i+1)),(l,aq us ue),(K+1,ba (some (.ref M))),(M,aq Y E)],[S],fA,(fB+(0+fj iD+2)),[],U⟩:=
 by revert w;exact @(kN 0xabe4954e38e724add7bdcef139ce9c7 0x2af925524add7bdcef139ce9c7 (λw h9=>[c9 w [2,2] I l ue hv,cb w ta (J+1) h0,ug w [0,5] N M E ta a h1,LA w [0,0,0,0] [0] h9,rM w [1] (J+2) (N+3) pE bT,bZ w (fh iD fB) fH,bR w [9] aW e (.int (O (bp [] (cr aD iD)).length) (fB+(0+fj iD)+1)) bQ]) [9,0,6,6,6,5] [0])
theorem Y3 (h0:decide (O a>O 0)=false):aE w (l6 w.P K D1 aW I q) p (aA (iF w.P K D1 aW I)) ⟨[(D1,hB w.P aN (some (H,v1))),(aW,aq aO e),(I,bM l i),(l,aq us ue),(K+1,ba (some (.ref M))),(M,aq Y E)],[S],N,J,[],U⟩ (.ok (.again (iF w.P K D1 aW I))) yw ⟨[(D1,hB w.P aN (some (H,(.int (O a) ta)))),(aW,aq aO e),(I,bM l (i+1)),(l,aq us ue),(K+1,ba (some (.ref M))),(M,aq Y E)],[S],N,(J+2),[],U⟩:=
 by revert w;exact @(dI 329050567 (λw=>[c9 w [2,2] I l ue hv,cb w ta (J+1) h0]) [2,2,0,0,0,0] [0])
end
theorem Y4 {us:LV}(hv:us[i]? =none):aP w (l6 w.P K D1 aW I q) p (aA (iF w.P K D1 aW I)) ⟨[(I,bM l i),(l,aq us ue)],[],N,J,[],U⟩ (.ok .next) ⟨[],[],(N+2),J,[],U⟩:=
 dJ 169 [gz w [0,0] I l ue hv]
theorem Y5 (dr:ps.length<=45)(hl:∀x∈ps,x.g.length<=1000/\x.x.length<=1000)(h0:0<a)(ha:a<=ps.length):∃(o:Nat×ay) (aO:bB) (r:Nat×Nat×Nat×Nat),((bp [] (aO.map aD)).length=bx ((ps.map PT.key).take a)/\(aO.map λx=>x.1.length).sum<=100000/\(bp [] (aO.map aD)).length<=100000)/\ xr w K D1 aW I1 D av I l 0 U N J r.1 r.2.1 r.2.2.1 r.2.2.2 (some (o.1,o.2)) (eZ (bm ps) none (some a)) aO (ps.map PT.ent) p q q1:=by
 have gN:∀x∈ps.take a,x∈ps:=λx hx=>sa hx
 have b6:(ps.take a).length<=45:=by rw [mj];lia
 have bD:ps.take a≠[]:=λq=>by
  have:=congrArg dn q
  rw [mj,xT]at this
  lia
 have hv:eZ (bm ps) none (some a)=bm (ps.take a):=by
  rw [CT]
  delta bm
  rw [ml]
 refine uJ (Ti (w:=w) (K:=K) (D1:=D1) (aW:=aW) (I1:=I1) (D:=D) (av:=av) (I:=I) (l:=l) (E:=0) (U:=U) (e:=0) (N:=N) (J:=J) (p:=p) (q:=q) (q1:=q1) c5 gN λx hx=>by have:=hl x hx;lia) λo aO e' N' au h=>
  mo (h) λh1 _ h3 h4=> ?_
 obtain⟨kv,rfl⟩:=h3 bD
 have hj:=Lz h1
 have hw:bx ((ps.take a).map PT.key)<=100000:=by
  have:∀(l:List PT),(∀x∈l,x∈ps)->bx (l.map PT.key)<=2000*l.length:=λl=>by
   induction l with
   |nil=>intro _;exact fv _
   |cons x r ih=>
    intro h
    have h1:=hl x (h x (.head _))
    have h2:=ih λy hy=>h y (.tail _ hy)
    have e:bx ((x::r).map PT.key)=x.g.length+x.x.length+bx (r.map PT.key):=by simp [bx,PT.key]
    rw [e,cy]
    lia
  have:=this _ gN
  lia
 have LB:(bp [] (aO.map aD)).length=bx ((ps.map PT.key).take a):=by rw [hj.1,qh,ml]
 refine j9 kv aO (e',(ps.take a).length,N',au) ⟨LB,by rw [hj.2];exact hw,by rw [LB,<-ml];exact hw⟩ ?_
 rw [hv]
 unfold xr
 rw [aT]
 exact h4
noncomputable def oX (P:aF)(K D1 aW I l M E ue e i:Nat)(o:Option (Nat×ay))(aO us Y:LV):aJ:=[(D1,hB P aN o),(aW,aq aO e),(I,bM l i),(l,aq us ue),(K+1,ba (some (.ref M))),(M,aq Y E)]
noncomputable def kF (ks:b8)(st:d):d:=(st.filter λa=>decide (0<a)).map λa=>bx (ks.take a)
theorem Y6 {M:Nat}(dr:ps.length<=45)(hl:∀x∈ps,x.g.length<=1000/\x.x.length<=1000)(hs:∀x∈bc,x.1<=ps.length)(hn:bc.length<=500):∀(m i:Nat) (o:Option (Nat×ay)) (aO:cC) (e N J:Nat) (p:aw),i+m=bc.length->aO.length<=i-> ∃(o':Option (Nat×ay)) (kE:cC) (r:Nat×Nat×Nat),(kE.map aD=aO.map aD++kF (ps.map PT.key) ((bc.drop i).map aD)/\(m≠0->∃am,o'=some am)/\(m=0->o'=o))/\ aP w (l6 w.P K D1 aW I q) p (aA (iF w.P K D1 aW I)) ⟨oX w.P K D1 aW I l M E ue e i o (aY aO) (aY bc) (bm ps),[ps.map PT.ent],N,J,[],U⟩ (.ok .next) ⟨[(D1,hB w.P aN o'),(aW,aq (aY kE) r.1),(K+1,ba (some (.ref M))),(M,aq (bm ps) E)],[ps.map PT.ent],r.2.1,r.2.2,[],U⟩:=by
 intro m
 induction m with
 |zero=>
  intro i o aO e N J p hi ho
  refine j9 o aO (e,N+2,J) ⟨by rw [mh (by lia)];simp [kF],λh=>absurd rfl h,λ_=>rfl⟩ ?_
  have hx:(aY bc)[i]? =none:=BS (by delta aY;rw [bA];lia)
  have am:=aK.more [(D1,hB w.P aN o),(aW,aq (aY aO) e),(K+1,ba (some (.ref M))),(M,aq (bm ps) E)] [ps.map PT.ent] (Y4 (w:=w) (K:=K) (D1:=D1) (aW:=aW) (I:=I) (l:=l) (ue:=ue) (N:=N) (J:=J) (U:=U) (p:=p) (q:=q) hx)
  refine aK.same am ?_ rfl ⟨rfl,rfl,rfl⟩ (.refl _) rfl ⟨rfl,rfl,rfl⟩
  simp only [aC.all,oX,ck,ce,bk,eB,cZ]
  exact(cY (l₁:=[_,_]) (l₂:=[_,_])).append_right _
 |succ m aS=>
  intro i o aO e N J p hi ho
  have bw:i<bc.length:=by lia
  have hv:(aY bc)[i]? =some (.int (O bc[i].1) bc[i].2):=Aa (cm bw)
  have cV:(bm ps).length<=100000:=by delta bm;rw [bA];lia
  have wu:(aY aO).length<=100000:=by delta aY;rw [bA];lia
  have hd:(bc.drop i).map aD=bc[i].1::(bc.drop (i+1)).map aD:=by rw [fJ bw];rfl
  have rest:=λ(o':Nat×ay) (kE:cC) (e' N' au:Nat) (p':aw) (h:kE.length<=i+1)=>aS (i+1) (some o') kE e' N' au p' (by lia) h
  by_cases h0:0<bc[i].1
  ·have hg:decide (O bc[i].1>O 0)=true:=oU (by lia)
   refine nW (Y5 (w:=w) (K:=K) (D1:=D1) (aW:=aW) (I1:=I) (D:=N+4) (av:=N+3) (I:=N+2) (l:=N+1) (U:=U) (N:=N+5) (J:=J+3) (a:=bc[i].1) (p:=su) (q:=q) (q1:=su) dr hl h0 (hs _ (gt bw))) λoi Bv r h=> ?_
   obtain⟨⟨g1,g2,g3⟩,g4⟩:=h
   have Fc:kF (ps.map PT.key) ((bc.drop i).map aD)=(bp [] (Bv.map aD)).length::kF (ps.map PT.key) ((bc.drop (i+1)).map aD):=by
    rw [hd,g1]
    simp [kF,h0]
   have fin:∀(k t e' N' au:Nat),aE w (l6 w.P K D1 aW I q) p (aA (iF w.P K D1 aW I)) ⟨oX w.P K D1 aW I l M E ue e i o (aY aO) (aY bc) (bm ps),[ps.map PT.ent],N,J,[],U⟩ (.ok (.again (iF w.P K D1 aW I))) yv
     ⟨oX w.P K D1 aW I l M E ue e' (i+1) (some (k,.int (O bc[i].1) bc[i].2)) (aY aO++[.int (O (bp [] (Bv.map aD)).length) t]) (aY bc) (bm ps),[ps.map PT.ent],N',au,[],U⟩->_:=λk t e' N' au am=>by
    rw [l5]at am
    refine nW (rest (k,.int (O bc[i].1) bc[i].2) (aO++[((bp [] (Bv.map aD)).length,t)]) e' N' au yv (by rw [ci,o7];lia)) λxo xp xq h=> ?_
    obtain⟨⟨f1,f2,f3⟩,f4⟩:=h
    exact(⟨xo,xp,xq,⟨by rw [f1,Fc,cx,bK];rfl,λ_=>(by
     by_cases hm:m=0
     ·exact⟨_,f3 hm⟩
     ·exact f2 hm),λh=>absurd h lq⟩,ax.turn (aT w) rfl (by kernel_rfl) am f4⟩:∃(o':Option (Nat×ay)) (kE:cC) (r:Nat×Nat×Nat),(kE.map aD=aO.map aD++kF (ps.map PT.key) ((bc.drop i).map aD)/\(m+1≠0->∃am,o'=some am)/\(m+1=0->o'=o))/\
    aP w (l6 w.P K D1 aW I q) p (aA (iF w.P K D1 aW I)) ⟨oX w.P K D1 aW I l M E ue e i o (aY aO) (aY bc) (bm ps),[ps.map PT.ent],N,J,[],U⟩ (.ok .next)
     ⟨[(D1,hB w.P aN o'),(aW,aq (aY kE) r.1),(K+1,ba (some (.ref M))),(M,aq (bm ps) E)],[ps.map PT.ent],r.2.1,r.2.2,[],U⟩)
   cases o with
   |none=>exact fin _ _ _ _ _ (Y0 hv hg cV g4 g2 g3 wu)
   |some kv=>exact fin _ _ _ _ _ (Y2 hv hg cV g4 g2 g3 wu)
  ·have hg:decide (O bc[i].1>O 0)=false:=oV (by lia)
   have Fc:kF (ps.map PT.key) ((bc.drop i).map aD)=kF (ps.map PT.key) ((bc.drop (i+1)).map aD):=by
    rw [hd]
    simp [kF,h0]
   have fin:∀(k N' au:Nat),aE w (l6 w.P K D1 aW I q) p (aA (iF w.P K D1 aW I)) ⟨oX w.P K D1 aW I l M E ue e i o (aY aO) (aY bc) (bm ps),[ps.map PT.ent],N,J,[],U⟩ (.ok (.again (iF w.P K D1 aW I))) yw
     ⟨oX w.P K D1 aW I l M E ue e (i+1) (some (k,.int (O bc[i].1) bc[i].2)) (aY aO) (aY bc) (bm ps),[ps.map PT.ent],N',au,[],U⟩->_:=λk N' au am=>by
    refine nW (rest (k,.int (O bc[i].1) bc[i].2) aO e N' au yw kf) λxo xp xq h=> ?_
    obtain⟨⟨f1,f2,f3⟩,f4⟩:=h
    exact(⟨xo,xp,xq,⟨by rw [f1,Fc],λ_=>(by
     by_cases hm:m=0
     ·exact⟨_,f3 hm⟩
     ·exact f2 hm),λh=>absurd h lq⟩,ax.turn (aT w) rfl (by kernel_rfl) am f4⟩:∃(o':Option (Nat×ay)) (kE:cC) (r:Nat×Nat×Nat),(kE.map aD=aO.map aD++kF (ps.map PT.key) ((bc.drop i).map aD)/\(m+1≠0->∃am,o'=some am)/\(m+1=0->o'=o))/\
    aP w (l6 w.P K D1 aW I q) p (aA (iF w.P K D1 aW I)) ⟨oX w.P K D1 aW I l M E ue e i o (aY aO) (aY bc) (bm ps),[ps.map PT.ent],N,J,[],U⟩ (.ok .next)
     ⟨[(D1,hB w.P aN o'),(aW,aq (aY kE) r.1),(K+1,ba (some (.ref M))),(M,aq (bm ps) E)],[ps.map PT.ent],r.2.1,r.2.2,[],U⟩)
   cases o with
   |none=>exact fin _ _ _ (Y1 hv hg)
   |some kv=>exact fin _ _ _ (Y3 hv hg)
noncomputable def LC (P:aF):Expr:=bv (jO (dW (cw P 961) 16)) [1,1,1]
noncomputable def lb (P:aF)(K D av I:Nat):bL:= .compLoop (LC P) 0 (.ref I) (.ref av) (compEnv (LC P) (i5 P K) D [])
noncomputable def nZ (P:aF)(K D av I:Nat)(q:aw):bd:=⟨lb P K D av I,none,none,cO P K q,none⟩
theorem Y7 (hv:Y[i]? =some (Z x t))(h0:(x !=[])=true)(h1:aB.length<=100000):aE w (nZ w.P K D av I q) p (aA (lb w.P K D av I)) (cU w.P cj D av I l none aB e Y E i [] [] N J U) (.ok (.again (lb w.P K D av I))) ⟨928,35,928,38⟩ (cU w.P cj D av I l (some (J,(Z x t))) (aB++[Z x t]) (e+1) Y E (i+1) [] [] N (J+2) U):=
 by revert w;exact @(dI 2962782742983 (λw=>[c9 w [2,2] I l E hv,g9 w t (J+1) h0,bR w [3] av e (Z x t) h1]) [3,0,0,0])
theorem Y8 (hv:Y[i]? =some (Z x t))(h0:(x !=[])=false):aE w (nZ w.P K D av I q) p (aA (lb w.P K D av I)) (cU w.P cj D av I l none aB e Y E i [] [] N J U) (.ok (.again (lb w.P K D av I))) ⟨928,59,928,68⟩ (cU w.P cj D av I l (some (J,(Z x t))) aB e Y E (i+1) [] [] N (J+2) U):=
 by revert w;exact @(dI 329050567 (λw=>[c9 w [2,2] I l E hv,g9 w t (J+1) h0]) [2,2,0,0])
theorem Y9 (hv:Y[i]? =some (Z x t))(h0:(x !=[])=true)(h1:aB.length<=100000):aE w (nZ w.P K D av I q) p (aA (lb w.P K D av I)) (cU w.P cj D av I l (some (k0,v0)) aB e Y E i [] [] N J U) (.ok (.again (lb w.P K D av I))) ⟨928,35,928,38⟩ (cU w.P cj D av I l (some (k0,(Z x t))) (aB++[Z x t]) (e+1) Y E (i+1) [] [] N (J+2) U):=
 by revert w;exact @(dI 2962782742983 (λw=>[c9 w [2,2] I l E hv,g9 w t (J+1) h0,bR w [3] av e (Z x t) h1]) [3,0,0,0])
theorem Za (hv:Y[i]? =some (Z x t))(h0:(x !=[])=false):aE w (nZ w.P K D av I q) p (aA (lb w.P K D av I)) (cU w.P cj D av I l (some (k0,v0)) aB e Y E i [] [] N J U) (.ok (.again (lb w.P K D av I))) ⟨928,59,928,68⟩ (cU w.P cj D av I l (some (k0,(Z x t))) aB e Y E (i+1) [] [] N (J+2) U):=
 by revert w;exact @(dI 329050567 (λw=>[c9 w [2,2] I l E hv,g9 w t (J+1) h0]) [2,2,0,0])
theorem Zb (hv:Y[i]? =none):aP w (nZ w.P K D av I q) p (aA (lb w.P K D av I)) (cU w.P cj D av I l none aB e Y E i [] [] N J U) (.ok .next) (hC w.P cj D av I l none aB e Y E i [] [] (N+2) J U):=
 dJ 10695 [gz w [2,2] I l E hv] [4,4,2,2]
theorem Zc (hv:Y[i]? =none):aP w (nZ w.P K D av I q) p (aA (lb w.P K D av I)) (cU w.P cj D av I l (some (k0,v0)) aB e Y E i [] [] N J U) (.ok .next) (hC w.P cj D av I l (some (k0,v0)) aB e Y E i [] [] (N+2) J U):=
 dJ 10695 [gz w [2,2] I l E hv] [4,4,2,2]
theorem Zd {xs:bB}(h:jr (λ(x:d×Nat) v'=>v'=if x.1 !=[]then [Z x.1 x.2]else []) xs dg):dg.flatten=aR (xs.filter λx=>x.1 !=[]):=by
 induction h with
 |nil=>rfl
 | @cons x _ xs m h _ ih=>
  subst h
  rw [ck,ih,mi]
  cases x.1 !=[]<;>rfl
variable {w:WB}
theorem Ze (hn:aL.length<=1000)(h0:aL≠[]):∃(kv:Nat×ay) (r:Nat×Nat×Nat),aP w (nZ w.P K D av I q) p (aA (lb w.P K D av I)) (cU w.P cj D av I l none [] e (aR aL) E 0 [] [] N J U) (.ok .next) (hC w.P cj D av I l (some kv) (aR (aL.filter λx=>x.1 !=[])) r.1 (aR aL) E aL.length [] [] r.2.1 r.2.2 U):=by
 refine uJ (An (V:=VV w) (aT w) (Γ:=nZ w.P K D av I q) (ae:=lb w.P K D av I) (by kernel_rfl) rfl (P:=w.P) (n:=cj) (l:=l) (E:=E) (U:=U) (val:=λx:d×Nat=>Z x.1 x.2) (xs:=aL) (A:=[]) (λ(x:d×Nat) v'=>v'=if x.1 !=[]then [Z x.1 x.2]else [])
  (λi x o aB e N J p hx hv ho=>by
   have hi:i<aL.length:=by
    have:=(mf.mp hv).1
    rwa [bA]at this
   cases hc:(x.1 !=[])with
   |true=>cases o with
    |none=>exact dV _ [_] _ _ _ _ (by simp) (b7 _) (Y7 hv hc (by lia))
    |some kv=>exact dV _ [_] _ _ _ _ (by simp) (b7 _) (Y9 (k0:=kv.1) (v0:=kv.2) hv hc (by lia))
   |false=>cases o with
    |none=>exact dV _ [] _ _ _ _ (by simp) (fv _) (by rw [bk];exact Y8 hv hc)
    |some kv=>exact dV _ [] _ _ _ _ (by simp) (fv _) (by rw [bk];exact Za (k0:=kv.1) (v0:=kv.2) hv hc))
  (λi o aB e N J p hv=>by
   cases o with
   |none=>exact dU _ _ (Zb hv)
   |some kv=>exact dU _ _ (Zc (k0:=kv.1) (v0:=kv.2) hv))
  aL.length 0 none [] e N J p (kI _) (b7 _)) λo' dg e' N' au h=> ?_
 refine mo (h) λhA _ h2 h3=> ?_
 obtain⟨kv,rfl⟩:=h2 λq=>h0 (sd.mp q)
 rw [iS]at hA
 rw [Zd hA]at h3
 exact dU kv (e',N',au) h3
noncomputable def d7 (D:Nat):az:={cls:= .ref 898,dict:=some D}
noncomputable def Bw (A L:Nat):bL:= .builtin "list.__init__" ⟨[.ref A,.ref L],[]⟩
noncomputable def l7 (A L:Nat):bL:= .builtin "list.extend.loop" ⟨[.ref A,.ref L,.none],[]⟩
noncomputable def uM (P:aF)(A L F K:Nat)(q3 q1 G:aw):b9:=(.builtin "type.__call__" ⟨[.type "list",.ref L],[]⟩,q3)::dB P 910 F q1 (cO P K G)
noncomputable def Bx (P:aF)(A L F K:Nat)(q3 q1 G:aw):bd:=⟨Bw A L,none,none,uM P A L F K q3 q1 G,none⟩
theorem Zf {F:Nat}:aE w (Bx w.P (A+962) (L+962) F K q3 q1 G) p (Fast.tw8711993805878244202 (.ref (L+962))) ⟨[(L+962,d7 D)],[],N+962,J,[],U⟩ (.ok (.ref (L+962))) p ⟨[(L+962,d7 D)],[],(N+962+1),(J+1),[],U⟩:=
 by revert w;exact @(dI 13713441 (λ_=>[]) [1])
theorem Zg {F:Nat}:aE w (Bx w.P (A+962) (L+962) F K q3 q1 G) p (Fast.tw15112759502256325868 (.ref (L+962))) ⟨[(L+962,d7 D)],[],N+962,J,[],U⟩ (.ok true) p ⟨[(L+962,d7 D)],[],(N+962),J,[],U⟩:=
 w1 33 [] [0]
section
open PySem.Builtin.List
theorem Zh {F:Nat}{X S:aJ}(bD:A≠L)(ih:aP w ⟨l7 (A+962) (L+962),none,none,uM w.P (A+962) (L+962) F K q3 q1 G,none⟩ p (aA (l7 (A+962) (L+962))) ⟨[(A+962,aq [] 2),(L+962,d7 D)]++X,[S],N+962+1,J+1,[],U⟩ (.ok (.ret .none)) C'):aP w (Bx w.P (A+962) (L+962) F K q3 q1 G) p (aA (Bw (A+962) (L+962))) ⟨[(A+962,aq [] 0),(L+962,d7 D)]++X,[S],N+962,J,[],U⟩ (.ok (.ret .none)) C':=by
 have kP:∀{Φ:bI->bI->Prop} {o1 o2:az} {N J U N' au br:Nat},fw w ⟨[(A+962,o1),(L+962,d7 D)],[],N,J,[],U⟩ ⟨[(A+962,o2),(L+962,d7 D)],[],N',au,[],br⟩ Φ->fw w ⟨[(A+962,o1),(L+962,d7 D)]++X,[S],N,J,[],U⟩ ⟨[(A+962,o2),(L+962,d7 D)]++X,[S],N',au,[],br⟩ Φ:=λh=>aK.more X [S] h
 rw [show aA (Bw (A+962) (L+962))=Builtin.«list.__init__» ⟨[.ref (A+962),.ref (L+962)],[]⟩from pT (kK (by kernel_rfl))]
 delta Builtin.«list.__init__»
 have h1:listSameRef (.ref (A+962)) (.ref (L+962))=false:=by simp [listSameRef,bD]
 refine ax.c6 (x:= #[]) (p₁:=p) (bq:=⟨[(A+962,aq [] 0),(L+962,d7 D)]++X,[S],N+962,J,[],U⟩) (kP (ax.of (aT w) (n:=100) (m:=10) 21845 [] [0,0] [] [] (by kernel_rfl))) ?_
 refine ax.c6 (x:=()) (p₁:=p) (bq:=⟨[(A+962,aq [] 0),(L+962,d7 D)]++X,[S],N+962,J,[],U⟩) (kP (ax.of (aT w) (n:=100) (m:=10) 21845 [] [0,0] [] [] (by kernel_rfl))) ?_
 refine ax.c6 (x:=()) (p₁:=p) (bq:=⟨[(A+962,aq [] 0),(L+962,d7 D)]++X,[S],N+962,J,[],U⟩) (kP (ax.of (aT w) (n:=100) (m:=10) 0 [] [0,0] [] [] (by kernel_rfl))) ?_
 show cW _ _ p (listExtendWith (.ref (A+962)) (.ref (L+962)) .none) _ _ _
 delta listExtendWith
 refine ax.c6 (x:= .ref 898) (p₁:=p) (bq:=⟨[(A+962,aq [] 0),(L+962,d7 D)]++X,[S],N+962,J,[],U⟩) (kP (ax.of (aT w) (n:=100) (m:=10) 3 [] [0,0] [] [] (by kernel_rfl))) ?_
 rw [h1]
 show cW _ _ p (pyIter (.ref (L+962))>>=_) _ _ _
 have sw:∀{o:az} {N J U N' au br:Nat} {Φ:bI->bI->Prop},fw w ⟨[(L+962,d7 D)],[],N,J,[],U⟩ ⟨[(L+962,d7 D)],[],N',au,[],br⟩ Φ->fw w ⟨[(A+962,o),(L+962,d7 D)]++X,[S],N,J,[],U⟩ ⟨[(A+962,o),(L+962,d7 D)]++X,[S],N',au,[],br⟩ Φ:=λh=>kP (aK.cons _ h)
 refine ax.c6 (x:= .ref (L+962)) (p₁:=p) (bq:=⟨[(A+962,aq [] 0),(L+962,d7 D)]++X,[S],N+962+1,J+1,[],U⟩) ?_ ?_
 ·rw [Gq]
  exact sw (Zf)
 refine ax.c6 (x:=true) (p₁:=p) (bq:=⟨[(A+962,aq [] 0),(L+962,d7 D)]++X,[S],N+962+1,J+1,[],U⟩) ?_ ?_
 ·refine ax.keep ?_
  rw [aeF]
  exact sw (Zg (L:=L))
 show cW _ _ p (PySem.rule "list.extend.makes-room">>=λ_=>listTouch (.ref (A+962))>>=λ_=> .pure (.again (l7 (A+962) (L+962)))) _ _ _
 refine ax.c6 (x:=()) (p₁:=p) (bq:=⟨[(A+962,aq [] 0),(L+962,d7 D)]++X,[S],N+962+1,J+1,[],U⟩) (kP (ax.of (aT w) (n:=100) (m:=10) 0 [] [0,0] [] [] (by kernel_rfl))) ?_
 refine ax.c6 (x:=()) (p₁:=p) (bq:=⟨[(A+962,aq [] 2),(L+962,d7 D)]++X,[S],N+962+1,J+1,[],U⟩) (kP (ax.of (aT w) (n:=100) (m:=10) 21845 [] [0,0] [] [] (by kernel_rfl))) ?_
 exact ax.again (by kernel_rfl) ax.pure (by rw [aT];exact ih)
end
theorem Zi (a b:Int)(ta tb:Nat):Bi (VV w) 0 (bV true "int.__ge__" ⟨[.int a ta,.int b tb],[]⟩) [] (λ_=>[]) (λ_ _=> .ok (.ret (.bool (decide (a≥b))))) 0 0:=
 nu (aT w) 100 0 [] (by intro hd own past below p N J U;kernel_rfl)
noncomputable def l8 (w:WB)(a b:Int)(ta tb:Nat)(r:Bool)(h:decide (a≥b)=r):aM w:= .bi _ _ _ _ [] _ _ _ _ _ (h▸Zi a b ta tb)
theorem Zj (a b:Int)(ta tb:Nat):Bi (VV w) 0 (bV true "int.__lt__" ⟨[.int a ta,.int b tb],[]⟩) [] (λ_=>[]) (λ_ _=> .ok (.ret (.bool (decide (a<b))))) 0 0:=
 nu (aT w) 100 0 [] (by intro hd own past below p N J U;kernel_rfl)
noncomputable def oLt (w:WB)(a b:Int)(ta tb:Nat)(r:Bool)(h:decide (a<b)=r):aM w:= .bi _ _ _ _ [] _ _ _ _ _ (h▸Zj a b ta tb)
noncomputable def uN (x:d)(t J:Nat):Nat:=if x.length=1 then t else J
noncomputable def rO (x:d):Nat:=if x.length=1 then 0 else 1
theorem Zk {u:Int}(h:x[i]? =some c)(hu:u=O i+1):slicePicked ⟨⟨x⟩⟩ (some (O i,ta)) (some (u,tb)) none=[i]:=by
 have hi:i<x.length:=(mf.mp h).1
 subst hu
 have e:=PySem.StrLaws.strSliceIndices_plain (Nq _) hi
 show Builtin.Str.strSliceIndices (some (i:Int)) (some ((i:Int)+1)) 1 x.length=[i]
 have e2:((i+1:Nat):Int)=(i:Int)+1:=rfl
 rw [<-e2,e]
 simp [aeQ]
theorem Zl {u:Int}(h:x[i]? =some c)(hu:u=O i+1){Q:ay->bI->Prop}(q:Q (Z [c] (uN x t s.toks)) {s with toks:=s.toks+rO x}):
  (sliceMade ⟨⟨x⟩⟩ t (some (O i,ta)) (some (u,tb)) none).post Q s:=by
 have hi:i<x.length:=(mf.mp h).1
 delta sliceMade
 rw [Zk h hu]
 delta uN rO at q
 by_cases h1:x.length=1
 ·have e:(((none:Option (Int×Tok)).map (·.1)).getD 1==1&&([i]:d).length==(⟨⟨x⟩⟩:Str).length)=true:=by
   show(true&&(1==x.length))=true
   rw [h1];rfl
  rw [if_pos e]
  rw [if_pos h1,if_pos h1]at q
  have ex:x=[c]:=by
   obtain⟨y,rfl⟩:∃y,x=[y]:=List.length_eq_one_iff.mp h1
   have:i=0:=by simp at hi;exact hi
   subst this;simpa using h
  show Q (Z x t) s
  rw [ex];exact q
 ·have e:¬(((none:Option (Int×Tok)).map (·.1)).getD 1==1&&([i]:d).length==(⟨⟨x⟩⟩:Str).length)=true:=by
   show¬(true&&(1==x.length))=true
   simp;exact λe=>h1 e.symm
  rw [if_neg e]
  rw [if_neg h1,if_neg h1]at q
  have ep:(([i]:d).filterMap ((⟨⟨x⟩⟩:Str).cps[·]?))=[c]:=by
   show List.filterMap (λk=>(⟨x⟩:Array Nat)[k]?) [i]=[c]
   simp [h]
  rw [ep]
  exact⟨by show 1<=2^24;lia,q⟩
variable {w:WB}
theorem Zm (sl t ta tb:Nat)(x:d)(i c:Nat)(u:Int)(h:x[i]? =some c)(hu:u=O i+1):Bi (VV w) 0 (bV false "str.__getitem__" ⟨[Z x t,.ref sl],[]⟩) [(sl,rec "slice" [.int (O i) ta,.int u tb,.none])] (λ_=>[(sl,rec "slice" [.int (O i) ta,.int u tb,.none])]) (λ_ J=> .ok (.ret (Z [c] (uN x t J)))) 0 (rO x):=by
 refine dO λA' s _ _ _ _ R=>dX (by decide+kernel) F.entry_str_getitem ?_
 have ho:=R.led _ (.head _)
 refine meets_str_getitem_slice ⟨⟨x⟩⟩ t sl (some (O i,ta)) (some (u,tb)) none rfl _ _ _ (λr s'=>r= .ok (.ret (Z [c] (uN x t s.toks)))/\Good (VV w) (cf [(sl,rec "slice" [.int (O i) ta,.int u tb,.none])] s) ⟨[(sl,rec "slice" [.int (O i) ta,.int u tb,.none])],[],s.heap.objs.size,s.toks+rO x,[],s.gens.size⟩ s s') s ⟨⟨_,ho,rfl,rfl⟩,Zl h hu ⟨rfl,R.tick (rO x) rfl rfl bH⟩⟩
noncomputable def LD (w:WB)(aH:d)(sl t ta tb:Nat){x:d}{i c:Nat}{u:Int}(h:x[i]? =some c)(hu:u=O i+1):aM w:= .bi _ _ _ _ aH _ _ _ _ _ (Zm sl t ta tb x i c u h hu)
section
open PySem.SeqAt
theorem Zn (l e x tx:Nat)(ns:cC):Bi (VV w) 0 (bV false "list.__contains__" ⟨[.ref l,.int (O x) tx],[]⟩) [(l,aq (aY ns) e)] (λ_=>[(l,aq (aY ns) e)]) (λ_ _=> .ok (.ret (.bool (decide (x∈ns.map aD))))) 0 0:=by
 have e0:(⟨aY ns⟩:Array ay).any (λv=>match v with| .int k _=>k==O x|_=>false)=decide (x∈ns.map aD):=by
  rw [Array.any_toList.symm]
  show(aY ns).any _=_
  delta aY
  rw [List.any_map,r6,List.any_eq_true,decide_eq_true_eq,dS]
  constructor
  ·rintro ⟨y,hy,h⟩
   have h:O y.1=O x:=beq_iff_eq.mp h
   exact da y hy (O.inj h)
  ·rintro ⟨y,hy,rfl⟩
   exact da y hy (beq_iff_eq.mpr rfl)
 refine dO λA s _ _ _ _ R=>dX (by decide+kernel) F.entry_list_contains ?_
 have ho:=R.led _ (.head _)
 refine list_containsAt l ⟨aY ns⟩ e none #[] (.int (O x) tx) (λv=>match v with| .int k _=>k==O x|_=>false) _ _ A (λr s'=>r= .ok (.ret (.bool (decide (x∈ns.map aD))))/\Good (VV w) (cf [(l,aq (aY ns) e)] s) ⟨[(l,aq (aY ns) e)],[],s.heap.objs.size,s.toks,[],s.gens.size⟩ s s') s ⟨ho,λy hy=> ?_,by rw [e0],.refl R⟩
 refine bX (dS.mp (Array.mem_def.mp hy)) λn _ fM=> ?_
 subst fM
 exact EqAt.int_int _ _ _ _
noncomputable def uO (w:WB)(aH:d)(l e:Nat){x:Nat}(tx:Nat){ns:cC}{r:Bool}(h:decide (x∈ns.map aD)=r):aM w:= .bi _ _ _ _ aH _ _ _ _ _ (h▸Zn l e x tx ns)
theorem Zo (l e n t:Nat)(Y:LV)(v:ay)(k:Int)(hf:Builtin.List.listFitsIndex k=true)(hk:k=O n)(hn:n<Y.length):Bi (VV w) 0 (bV false "list.__setitem__" ⟨[.ref l,.int k t,v],[]⟩) [(l,aq Y e)] (λ_=>[(l,aq (Y.set n v) e)]) (λ_ _=> .ok (.ret .none)) 0 0:=by
 refine dO λA s _ _ _ _ R=>dX (by decide+kernel) F.entry_list_setitem ?_
 have ho:=R.led _ (.head _)
 generalize hi:bE k t=i
 show wpAny (model _ _) _ (Builtin.List.listSubscript? i>>=_) _ _ s
 refine bf ?_
 rw [<-hi]
 refine wpAny_listSubscript_int hf ?_
 rw [hk]
 show wpAny _ _ ((seqItemAt l n>>=λr=>pure (r.map (n,·)))>>=_) _ _ s
 refine bf (bf (wpAny_seqItemAt ho rfl (dh ?_)))
 have hx:(⟨Y⟩:Array ay)[n]? =some Y[n]:=by simp [hn]
 rw [hx]
 show wpAny _ _ (setSeqItemAt l n v>>=_) _ _ s
 have up:=KX R (λxs:Array ay=>xs.setIfInBounds n v) (us:=Y.set n v) (by simp)
 have EE:eL Y.length (Y.set n v).length e=e:=by unfold eL;simp
 rw [EE]at up
 refine bf (wpAny_setSeqItemAt ho rfl ?_)
 exact bf (dh (dh ⟨rfl,up⟩))
theorem Zp (l e n t:Nat)(Y:LV)(v:ay)(hn:n<Y.length)(hv:Y.length<=100000):Bi (VV w) 0 (bV false "list.__setitem__" ⟨[.ref l,.int (O n) t,v],[]⟩) [(l,aq Y e)] (λ_=>[(l,aq (Y.set n v) e)]) (λ_ _=> .ok (.ret .none)) 0 0:=Zo l e n t Y v (O n) (Ao (iR (n6 hn) hv)) rfl hn
noncomputable def uP (w:WB)(aH:d)(l e:Nat){n:Nat}(t:Nat){Y:LV}(v:ay)(hn:n<Y.length)(hv:Y.length<=100000):aM w:= .bi _ _ _ _ aH _ _ _ _ _ (Zp l e n t Y v hn hv)
end
noncomputable def dq (ao:Nat->Bool):Nat->d->d
 |_,[]=>[]
 |p,c::r=>(if ao p then [10]else [])++c::dq ao (p+1) r
theorem uQ (ao:Nat->Bool):∀(a b:d) (p:Nat),dq ao p (a++b)=dq ao p a++dq ao (p+a.length) b:=by
 intro a
 induction a with
 |nil=>
  intro b p
  exact rfl
 |cons c a aS=>
  intro b p
  show(if ao p then [10]else [])++c::dq ao (p+1) (a++b)=((if ao p then [10]else [])++c::dq ao (p+1) a)++_
  rw [aS b (p+1),bK,eB,cy,show p+1+a.length=p+(a.length+1)by lia]
theorem uR (ao:Nat->Bool):∀(a:d) (p:Nat),(∀i,i<a.length->ao (p+i)=false)->dq ao p a=a:=by
 intro a
 induction a with
 |nil=>
  intro p _
  exact rfl
 |cons c a aS=>
  intro p h
  show(if ao p then [10]else [])++c::dq ao (p+1) a=_
  rw [if_neg (by have:=h 0 (by simp);rw [Gx]at this;rw [this];decide),aS (p+1) λi hi=>by rw [show p+1+i=p+(i+1)by lia];exact h (i+1) (by simp;lia)]
  rfl
theorem Zq (ao O':Nat->Bool):∀(a:d) (p:Nat),(∀q,p<=q->ao q=O' q)->dq ao p a=dq O' p a:=by
 intro a
 induction a with
 |nil=>
  intro p _
  exact rfl
 |cons c a aS=>
  intro p h
  show(if ao p then [10]else [])++c::dq ao (p+1) a=(if O' p then [10]else [])++c::dq O' (p+1) a
  rw [h p (b7 _),aS (p+1) λq hq=>h q mv]
def OB (ao:Nat->Bool)(p:Nat)(x:d):Prop:=∀i c,x[i]? =some c->ao (p+i)=true->bU c=true
theorem OB.left {ao:Nat->Bool}{p:Nat}{a b:d}(h:OB ao p (a++b)):OB ao p a:=λi c hi=>h i c (by
 rw [ve (mf.mp hi).1];exact hi)
theorem OB.right {ao:Nat->Bool}{p:Nat}{a b:d}(h:OB ao p (a++b)):OB ao (p+a.length) b:=λi c hi ho=>h (a.length+i) c (by
 rw [xX NH,aeQ];exact hi) (by rw [<-kJ];exact ho)
theorem OB.none {ao:Nat->Bool}{p:Nat}(h:OB ao p x)(hx:∀c∈x,bU c=false):∀i,i<x.length->ao (p+i)=false:=by
 intro i hi
 cases q:ao (p+i)with
 |false=>rfl
 |true=>
  have:=h i x[i] (cm hi) q
  rw [hx _ (gt hi)]at this
  cases this
noncomputable def lc (c:Nat):Bool:=c==32||c==9||c==10
noncomputable def cI:d->Nat->d->Bool->Option (Option d×d×Bool)
 |[],s,bn,q=>if s=0 then some (none,[],true)else if s=1 then some (some bn,[],true)else none
 |c::r,s,bn,q=>
  if s=0 then
   if lc c then cI r 0 bn q else if c=39\/c=34 then cI r c bn q else if cF c then cI r 1 [c] q else none
  else if s=1 then
   if lc c then some (some bn,r,false)else if c=39\/c=34 then cI r c bn q else if cF c then cI r 1 (bn++[c]) q else none
  else if c=s then cI r 1 bn true else if s=34/\c=92 then none else cI r s (bn++[c]) true
inductive kG:d->List d->Prop
 |nil {x:d} (h:cI x 0 [] false=some (none,[],true)):kG x []
 |last {x t:d} (h:cI x 0 [] false=some (some t,[],true)):kG x [t]
 |cons {x r t:d} {ts:List d} (h:cI x 0 [] false=some (some t,r,false)) (h2:kG r ts):kG x (t::ts)
theorem kG.ws {ts:List d}(hc:lc c=true)(h:kG x ts):kG (c::x) ts:=by
 have e:cI (c::x) 0 [] false=cI x 0 [] false:=by
  show(if lc c then cI x 0 [] false else _)=_
  rw [hc];rfl
 cases h with
 |nil h=>exact .nil (e.trans h)
 |last h=>exact .last (e.trans h)
 |cons h h2=>exact .cons (e.trans h) h2
theorem LF (h:cF c=true):c=97\/c=98\/c=44:=by
 delta cF at h
 simp only [xP,beq_iff_eq,or_assoc]at h
 exact h
theorem qk (h:cF c=true):lc c=false/\¬(c=39\/c=34)/\bU c=false:=by
 rcases LF h with rfl|rfl|rfl<;>decide
theorem Zr:∀(x r bn:d) (q:Bool),(∀c∈x,cF c=true)->cI (x++r) 1 bn q=cI r 1 (bn++x) q:=by
 intro x
 induction x with
 |nil=>
  intro r bn q _
  rw [cZ,bk]
 |cons c x aS=>
  intro r bn q h
  have hc:=h c (.head _)
  have hn:=qk hc
  show(if(1:Nat)=0 then _ else if(1:Nat)=1 then(if lc c then _ else if c=39\/c=34 then _ else if cF c then cI (x++r) 1 (bn++[c]) q else none)else _)=_
  rw [if_neg (by decide),if_pos rfl,if_neg (by rw [hn.1];decide),if_neg hn.2.1,if_pos hc,aS r _ q λc hc=>h c (.tail _ hc),bK]
  rfl
noncomputable def meant (ao:Nat->Bool):Nat->d->d
 |_,[]=>[]
 |p,c::r=>(if ao p then [10]else [])++c::meant ao (p+(dC c).length) r
theorem xt (c:Nat)(x:d):b5 39 dx (c::x)=dC c++b5 39 dx x:=rfl
theorem Zs (ao:Nat->Bool):∀(x:d) (r bn:d) (q:Bool) (p:Nat),OB ao p (b5 39 dx x)->cI (dq ao p (b5 39 dx x)++39::r) 39 bn q=cI r 1 (bn++meant ao p x) true:=by
 intro x
 induction x with
 |nil=>
  intro r bn q p _
  rw [show bn++meant ao p []=bn from bk _]
  rfl
 |cons c x aS=>
  intro r bn q p h
  rw [xt]at h⊢
  rw [uQ,bK]
  have ih:=λbn q=>aS r bn q (p+(dC c).length) h.right
  by_cases hc:c=39
  ·subst hc
   have e:dq ao p (dC 39)=dx:=uR ao _ _ (h.left.none (by decide))
   have e0:ao p=false:=h.left.none (by decide) 0 (by decide)
   rw [e]
   show cI (dx++_) 39 bn q=cI r 1 (bn++((if ao p then [10]else [])++39::meant ao _ x)) true
   rw [e0]
   have:cI (dx++(dq ao (p+(dC 39).length) (b5 39 dx x)++39::r)) 39 bn q=cI (dq ao (p+(dC 39).length) (b5 39 dx x)++39::r) 39 (bn++[39]) true:=rfl
   rw [this,ih,bK]
   rfl
  ·have ew:dC c=[c]:=if_neg hc
   have step:∀(ah:Nat) (r bn:d) (q:Bool),ah≠39->cI (ah::r) 39 bn q=cI r 39 (bn++[ah]) true:=by
    intro ah r bn q hd
    show(if(39:Nat)=0 then _ else if(39:Nat)=1 then _ else if ah=39 then _ else if(39:Nat)=34/\ah=92 then none else cI r 39 (bn++[ah]) true)=_
    rw [if_neg (by decide),if_neg (by decide),if_neg hd,if_neg (by lia)]
   show cI (dq ao p (dC c)++_) 39 bn q=cI r 1 (bn++((if ao p then [10]else [])++c::meant ao (p+(dC c).length) x)) true
   have en:dq ao p (dC c)=(if ao p then [10]else [])++[c]:=by rw [ew];rfl
   rw [en]
   cases ao p
   ·show cI (c::(dq ao (p+(dC c).length) (b5 39 dx x)++39::r)) 39 bn q=_
    rw [step c _ _ _ hc,ih,bK];rfl
   ·show cI (10::c::(dq ao (p+(dC c).length) (b5 39 dx x)++39::r)) 39 bn q=_
    rw [step 10 _ _ _ (by decide),step c _ _ _ hc,ih,bK,bK];rfl
noncomputable def wm (ao:Nat->Bool)(p:Nat)(x:d):d:=if ge x then x else meant ao (p+1) x
theorem LG (ao:Nat->Bool)(p:Nat)(x r:d)(h:OB ao p (bW x)):∃q,cI (dq ao p (bW x)++r) 0 [] false=cI r 1 (wm ao p x) q:=by
 delta bW at h⊢
 delta wm ge
 cases x with
 |nil=>
  rw [if_pos rfl]at h⊢
  have e:dq ao p [39,39]=[39,39]:=uR ao _ _ (h.none (by decide))
  rw [e]
  exact⟨true,rfl⟩
 |cons c x=>
  rw [if_neg (by simp)]at h⊢
  cases hs:(c::x).all cF with
  |true=>
   rw [hs,if_pos rfl]at h
   rw [if_pos rfl]
   have oY:∀ah∈c::x,cF ah=true:=o5.mp hs
   have e:dq ao p (c::x)=c::x:=uR ao _ _ (h.none λah hd=>(qk (oY ah hd)).2.2)
   rw [e]
   have hc:=oY c (.head _)
   have hn:=qk hc
   refine⟨false,?_⟩
   show(if(0:Nat)=0 then(if lc c then _ else if c=39\/c=34 then _ else if cF c then cI (x++r) 1 [c] false else none)else _)=cI r 1 (c::x) false
   rw [if_pos rfl,if_neg (by rw [hn.1];decide),if_neg hn.2.1,if_pos hc,Zr x r [c] false λah hd=>oY ah (.tail _ hd)]
   rfl
  |false=>
   rw [hs,if_neg (by decide)]at h
   rw [if_neg (by decide)]
   refine⟨true,?_⟩
   have e0:ao p=false:=by
    have:=h.left.left.none (by decide) 0 (by decide)
    exact this
   have hr:OB ao (p+1) (b5 39 dx (c::x)):=h.left.right
   have e1:dq ao (p+([39]++b5 39 dx (c::x)).length) [39]=[39]:=uR ao _ _ (h.right.none (by decide))
   rw [uQ,uQ,e1]
   have e2:dq ao p [39]=[39]:=by
    show(if ao p then [10]else [])++[39]=_
    rw [e0];rfl
   rw [e2]
   show cI (39::((dq ao (p+1) (b5 39 dx (c::x)))++[39])++r) 0 [] false=_
   have e3:cI (39::((dq ao (p+1) (b5 39 dx (c::x)))++[39])++r) 0 [] false=cI (dq ao (p+1) (b5 39 dx (c::x))++39::r) 39 [] false:=by
    rw [eB,bK];rfl
   rw [e3,Zs ao (c::x) r [] false (p+1) hr]
   rfl
noncomputable def xu (ao:Nat->Bool):Nat->List d->List d
 |_,[]=>[]
 |p,x::r=>wm ao p x::xu ao (p+(bW x).length+1) r
theorem Zt (ao:Nat->Bool):∀(ws:List d) (p:Nat),ws≠[]->OB ao p (bp [32] (ws.map bW))->kG (dq ao p (bp [32] (ws.map bW))) (xu ao p ws):=by
 intro ws
 induction ws with
 |nil=>
  intro p h _
  exact absurd rfl h
 |cons x rq aS=>
  cases rq with
  |nil=>
   intro p _ h
   refine dT (LG ao p x [] h) λq e=> ?_
   rw [bk]at e
   exact .last e
  |cons y ws=>
   intro p _ h
   rw [bY,rl (by simp)]at h⊢
   have ih:=aS (p+(bW x).length+1) (by simp) (by have:=h.right;rw [ci,<-kJ]at this;exact this)
   rw [bK,uQ,uQ]
   obtain⟨q,e⟩:=LG ao p x (dq ao (p+(bW x).length) [32]++dq ao (p+(bW x).length+[32].length) (bp [32] ((y::ws).map bW))) h.left.left
   have e2:dq ao (p+(bW x).length) [32]=(if ao (p+(bW x).length)then [10]else [])++[32]:=rfl
   rw [e2]at e⊢
   show kG _ (wm ao p x::xu ao (p+(bW x).length+1) (y::ws))
   generalize ao (p+(bW x).length)=o at e⊢
   cases o
   ·exact .cons (e.trans rfl) ih
   ·exact .cons (e.trans rfl) (.ws rfl ih)
noncomputable def gV (ao:Nat->Bool)(s:List d×Nat)(m:d×d×Int):List d×Nat:=
 let ah:=if m.2.2=O s.1.length then s.1++[[]]else s.1
 (if m.2.2<0 then ah else ah.set m.2.2.toNat ((ah[m.2.2.toNat]?.getD [])++(if ao s.2 then 10::m.2.1 else m.2.1)),s.2+m.1.length)
theorem Fd (ao:Nat->Bool)(D:List d)(p:Nat)(u v:d):gV ao (D,p) (u,v,O D.length)=(D++[if ao p then 10::v else v],p+u.length):=by
 delta gV
 show(if O D.length<0 then _ else _,_)=_
 rw [if_neg (by exact Int.not_lt.mpr (GD _))]
 show((if O D.length=O D.length then D++[[]]else D).set D.length _,_)=_
 rw [if_pos rfl]
 simp
theorem LH (ao:Nat->Bool)(D:List d)(t:d)(p:Nat)(u v:d):gV ao (D++[t],p) (u,v,O D.length)=(D++[t++if ao p then 10::v else v],p+u.length):=by
 delta gV
 show(if O D.length<0 then _ else _,_)=_
 rw [if_neg (by exact Int.not_lt.mpr (GD _))]
 show((if O D.length=O (D++[t]).length then _ else D++[t]).set D.length _,_)=_
 rw [if_neg (by rw [ci];intro q;have:=O.inj q;simp at this)]
 simp
theorem LI (ao:Nat->Bool)(D:List d)(p:Nat)(u v:d):gV ao (D,p) (u,v,cJ 0)=(D,p+u.length):=by
 delta gV
 show(if cJ 0<0 then(if cJ 0=O D.length then D++[[]]else D)else _,_)=_
 rw [if_pos (by decide),if_neg (by intro q;cases q)]
theorem LJ (ao:Nat->Bool)(D:List d):∀(x t:d) (p:Nat),(x.map λc=>(dC c,[c],O D.length)).foldl (gV ao) (D++[t],p)=(D++[t++meant ao p x],p+(b5 39 dx x).length):=by
 intro x
 induction x with
 |nil=>
  intro t p
  simp [meant,b5]
 |cons c x aS=>
  intro t p
  rw [bY,qv,LH,aS,xt,ci,<-kJ]
  show(D++[t++(if ao p then 10::[c]else [c])++meant ao _ x],_)=(D++[t++((if ao p then [10]else [])++c::meant ao _ x)],_)
  cases ao p<;>simp
theorem Zu (ao:Nat->Bool):∀(x:d) (p:Nat),(∀c∈x,cF c=true)->OB ao p x->meant ao p x=x/\b5 39 dx x=x:=by
 intro x
 induction x with
 |nil=>
  intro p _ _
  exact pe
 |cons c x aS=>
  intro p h hb
  have hc:=qk (h c (.head _))
  have ew:dC c=[c]:=if_neg λq=>hc.2.1 (.inl q)
  have e0:ao p=false:=(hb.left).none (by intro ah hd;rw [jI.mp hd];exact hc.2.2) 0 (by simp)
  refine cB (aS (p+1) (λc hc=>h c (.tail _ hc)) (hb.right (a:=[c]))) λi1 i2=> ?_
  rw [xt,ew,i2]
  refine⟨?_,rfl⟩
  show(if ao p then [10]else [])++c::meant ao (p+(dC c).length) x=_
  rw [e0,ew]
  show c::meant ao (p+1) x=_
  rw [i1]
theorem LK (ao:Nat->Bool)(D:List d)(x:d)(p:Nat)(h:OB ao (p+(if D.length=0 then 0 else 1)) (bW x)):(fo D.length x).foldl (gV ao) (D,p)=(D++[wm ao (p+(if D.length=0 then 0 else 1)) x],p+(if D.length=0 then 0 else 1)+(bW x).length):=by
 delta fo
 rw [r8]
 have e:((if D.length=0 then []else [([32],[],cJ 0)]):List (d×d×Int)).foldl (gV ao) (D,p)=(D,p+(if D.length=0 then 0 else 1)):=by
  by_cases h0:D.length=0
  ·rw [if_pos h0,if_pos h0];rfl
  ·rw [if_neg h0,if_neg h0]
   exact LI ao D p [32] []
 rw [e]
 generalize p+(if D.length=0 then 0 else 1)=p at h⊢
 delta wm
 cases hp:ge x with
 |true=>
  have hx:x≠[]/\x.all cF=true:=by
   delta ge at hp
   cases x with
   |nil=>cases hp
   |cons c x=>exact⟨by simp,by simpa using hp⟩
  have hq:bW x=x:=by delta bW;rw [if_neg hx.1,if_pos hx.2]
  rw [hq]at h⊢
  obtain⟨c,x,rfl⟩:∃c y,x=c::y:=by cases x with|nil=>exact absurd rfl hx.1|cons c y=>exact⟨c,y,rfl⟩
  have oY:∀ah∈c::x,cF ah=true:=o5.mp hx.2
  have hc:=qk (oY c (.head _))
  have ew:dC c=[c]:=if_neg λq=>hc.2.1 (.inl q)
  have e0:ao p=false:=(h.left).none (by intro ah hd;rw [jI.mp hd];exact hc.2.2) 0 (by simp)
  refine cB (Zu ao x (p+1) (λc hc=>oY c (.tail _ hc)) (h.right (a:=[c]))) λi1 i2=> ?_
  rw [if_pos rfl,if_pos rfl,cZ,bk,bY,qv,Fd,LJ,e0,ew,i2]
  show(D++[[c]++meant ao (p+1) x],p+1+x.length)=(D++[c::x],p+(x.length+1))
  rw [i1,show p+1+x.length=p+(x.length+1)by lia]
  rfl
 |false=>
  have hq:bW x=[39]++b5 39 dx x++[39]:=by
   delta bW
   cases x with
   |nil=>rfl
   |cons c x=>
    rw [if_neg (by simp),if_neg]
    delta ge at hp
    simpa using hp
  rw [hq]at h⊢
  rw [if_neg (by decide),if_neg (by decide)]
  have e0:ao p=false:=h.left.left.none (by decide) 0 (by decide)
  have e1:ao (p+([39]++b5 39 dx x).length)=false:=h.right.none (by decide) 0 (by decide)
  rw [ci,<-kJ]at e1
  rw [r8,r8,qv,List.foldl_nil,qv,List.foldl_nil,Fd,LJ,LH,e0]
  have e1:ao (p+[39].length+(b5 39 dx x).length)=false:=e1
  rw [e1]
  simp
  lia
noncomputable def uS (ao:Nat->Bool)(ms:List (d×d×Int)):List d:=(ms.foldl (gV ao) ([],0)).1
theorem Zv (ao:Nat->Bool):∀(ws D:List d) (p:Nat),OB ao (p+(if D.length=0 then 0 else 1)) (bp [32] (ws.map bW))-> ((eU D.length ws).foldl (gV ao) (D,p)).1=D++xu ao (p+(if D.length=0 then 0 else 1)) ws:=by
 intro ws
 induction ws with
 |nil=>
  intro D p _
  simp [eU,xu]
 |cons x rq aS=>
  cases rq with
  |nil=>
   intro D p h
   show(((fo D.length x)++[]).foldl (gV ao) (D,p)).1=_
   rw [bk,LK ao D x p h]
   rfl
  |cons y ws=>
   intro D p h
   rw [bY,rl (by simp)]at h
   show(((fo D.length x)++eU (D.length+1) (y::ws)).foldl (gV ao) (D,p)).1=_
   rw [r8,LK ao D x p h.left.left]
   have hl:∀am:d,(D++[am]).length=D.length+1:=by intro am;simp
   have ih:=λam=>aS (D++[am]) (p+(if D.length=0 then 0 else 1)+(bW x).length)
   generalize p+(if D.length=0 then 0 else 1)=p at h ih⊢
   rw [<-hl (wm ao p x),ih (wm ao p x) (by rw [hl];have:=h.right;rw [ci,<-kJ]at this;exact this),hl,bK]
   rfl
theorem Zw (ao:Nat->Bool)(ws:List d)(h:ws≠[])(hO:OB ao 0 (bp [32] (ws.map bW))):kG (dq ao 0 (bp [32] (ws.map bW))) (uS ao (eU 0 ws)):=by
 have:=Zv ao ws [] 0 hO
 delta uS
 rw [show eU 0 ws=eU ([]:List d).length ws from rfl,this]
 exact Zt ao ws 0 h hO
theorem xv (a b:b8):bs (a++b)=bs a++bs b:=by simp [bs]
theorem LL (hp:∀k∈ks,k.2≠[])(h:a<b)(hb:b<=ks.length):bx (ks.take a)<bx (ks.take b):=by
 have e:ks.take b=ks.take a++(ks.take b).drop a:=by
  have:=oa a (ks.take b)
  rw [Gu,Nd mv]at this
  exact this.symm
 rw [e,Dw]
 have bD:(ks.take b).drop a≠[]:=by
  intro q
  have:=congrArg dn q
  simp at this
  lia
 cases q:(ks.take b).drop a with
 |nil=>exact absurd q bD
 |cons x r=>
  have hx:x∈ks:=sa (sb (by rw [q];exact .head _))
  have h1:=nb.mpr (hp x hx)
  have:bx (x::r)=(x.1.length+x.2.length)+bx r:=rfl
  lia
theorem Zx (ae:b8)(b n:Nat):∀(r:d),eC ae (b::r++[n])≠[]
 |[]=>by simp [eC]
 |c::r=>by show bs _::_≠[];simp
theorem Fe (hp:∀k∈ks,k.2≠[]):∀(r:d) (a:Nat),(a::r).Pairwise (·< ·)->(∀x∈a::r,x<ks.length)-> bp [10] (eC ks (a::r++[ks.length]))=dq (λp=>decide (p∈r.map λb=>bx (ks.take b))) (bx (ks.take a)) (bs (ks.drop a)):=by
 intro r
 induction r with
 |nil=>
  intro a _ _
  rw [uR _ _ _ (by intro i _;simp)]
  show bs ((ks.take ks.length).drop a)=_
  rw [xU]
 |cons b r aS=>
  intro a hm hl
  have lJ:=(iw.mp hm).1 b (.head _)
  have Zy:=hl b (.tail _ (.head _))
  have ih:=aS b (iw.mp hm).2 λx hx=>hl x (.tail _ hx)
  show bp [10] (bs ((ks.take b).drop a)::eC ks (b::r++[ks.length]))=_
  rw [rl (Zx ks b _ r),ih]
  have hd:ks.drop a=(ks.take b).drop a++ks.drop b:=by
   have:=oa b ks
   conv=>lhs;rw [<-this]
   rw [Go (by simp;lia)]
  have hw:bx (ks.take b)=bx (ks.take a)+(bs ((ks.take b).drop a)).length:=by
   rw [qh,<-Dw]
   congr 1
   have:=oa a (ks.take b)
   rw [Gu,Nd mv]at this
   exact this.symm
  have later:∀c∈r,bx (ks.take b)<bx (ks.take c):=λc hc=>LL hp ((iw.mp (iw.mp hm).2).1 c hc) (n6 (hl c (.tail _ (.tail _ hc))))
  rw [hd,xv,uQ,<-hw,bK]
  rw [uR _ (bs ((ks.take b).drop a)) _ (by
   intro i hi
   refine decide_eq_false λhc=>
    bX (dS.mp hc) λc hc e=> ?_
   rcases gr.mp hc with rfl|hc
   ·lia
   ·have:=later c hc;lia)]
  congr 1
  have bD:bs (ks.drop b)≠[]:=by
   intro q
   have:=congrArg dn q
   rw [qh]at this
   have h2:=LL hp Zy (b7 _)
   rw [xU]at h2
   have h3:=Dw (ks.take b) (ks.drop b)
   rw [oa]at h3
   simp at this
   lia
  cases q:bs (ks.drop b)with
  |nil=>exact absurd q bD
  |cons c t=>
   show [10]++((if decide (bx (ks.take b)∈r.map λb=>bx (ks.take b))=true then [10]else [])++c::dq _ _ t)=(if decide (bx (ks.take b)∈(b::r).map λb=>bx (ks.take b))=true then [10]else [])++c::dq _ _ t
   rw [if_neg (by
    rw [decide_eq_true_eq]
    intro hc
    refine bX (dS.mp hc) λc hc e=> ?_
    have:=later c hc
    lia),if_pos (by simp)]
   show 10::c::_=10::c::_
   congr 2
   refine Zq _ _ _ _ λq hq=> ?_
   rw [bY]
   have:q≠bx (ks.take b):=by lia
   simp [this]
def qm (n:Nat)(st r:d):Prop:=(st=0::r\/st=0::0::r)/\(0::r).Pairwise (·< ·)/\∀x∈0::r,x<n
theorem Ff (hp:∀k∈ks,k.2≠[]){st r:d}(h:qm ks.length st r):(jD ks st).filter (λt=>t !=[])=eC ks (0::r++[ks.length])/\kF ks st=r.map (λb=>bx (ks.take b))/\(st.take 2=[0,0]↔st=0::0::r):=by
 refine ii (h) λhs hm hl=> ?_
 have Ay:(0::r++[ks.length]).Pairwise (·< ·):=by
  rw [r9]
  refine⟨hm,xS _ _,λa ha b hb=> ?_⟩
  have hb:b=ks.length:=by simpa using hb
  have:=hl a ha
  lia
 have hle:∀x∈0::r++[ks.length],x<=ks.length:=by
  intro x hx
  rcases fq.mp hx with hx|hx
  ·exact n6 (hl x hx)
  ·have:x=ks.length:=by simpa using hx
   lia
 have hf:(eC ks (0::r++[ks.length])).filter (λt=>t !=[])=eC ks (0::r++[ks.length]):=Ax (Aw hp Ay hle)
 have lO:∀x∈r,0<x:=λx hx=>(iw.mp hm).1 x hx
 have LM:(r.filter λa=>decide (0<a))=r:=aeL.mpr λx hx=>decide_eq_true (lO x hx)
 rcases hs with rfl|rfl
 ·refine⟨by rw [wH ks _ (by simp),hf],by delta kF;rw [mi,if_neg (by simp),LM],λq=> ?_,λq=> ?_⟩
  ·cases r with
   |nil=>simp at q
   |cons b r=>
    have:=lO b (.head _)
    simp at q
    lia
  ·have:=congrArg dn q
   simp at this
 ·refine⟨?_,by delta kF;rw [mi,if_neg (by simp),mi,if_neg (by simp),LM],λ_=>rfl,λ_=>rfl⟩
  rw [wH ks _ (by simp)]
  show([]::eC ks (0::r++[ks.length])).filter _=_
  rw [mi,if_neg (by simp),hf]
theorem Zz (hb:∀k∈ks,∀c∈k.1,bU c=true)(h1:∀i k,ks[i+1]? =some k->k.1≠[]){r:d}(hm:∀x∈r,0<x/\x<ks.length):OB (λp=>decide (p∈r.map λb=>bx (ks.take b))) 0 (bs ks):=by
 intro i c hc ho
 rw [kI,decide_eq_true_eq]at ho
 refine bX (dS.mp ho) λb ZA fM=> ?_
 subst fM
 refine cB (hm b ZA) λh0 hn=> ?_
 have e:bs ks=bs (ks.take b)++bs (ks.drop b):=by rw [<-xv,oa]
 rw [e,xX (by rw [qh];exact b7 _),qh,GC,fJ hn]at hc
 have hg:ks[b].1≠[]:=by
  obtain⟨b,rfl⟩:∃ah,b=ah+1:=⟨b-1,by lia⟩
  exact h1 b _ (cm hn)
 have e2:bs (ks[b]::ks.drop (b+1))=(ks[b].1++ks[b].2)++bs (ks.drop (b+1)):=rfl
 rw [e2]at hc
 cases q:ks[b].1 with
 |nil=>exact absurd q hg
 |cons ah t=>
  rw [q]at hc
  have:ah=c:=by simpa using hc
  subst this
  exact hb ks[b] (gt hn) ah (by rw [q];exact .head _)
theorem ZB {ws:List d}{st r:d}(hw:ws≠[])(hf:bs ks=bp [32] (ws.map bW))(hp:∀k∈ks,k.2≠[])(hb:∀k∈ks,∀c∈k.1,bU c=true)(h1:∀i k,ks[i+1]? =some k->k.1≠[])(h:qm ks.length st r):kG ((if st.take 2=[0,0]then [10,32]else [])++bp [10] ((jD ks st).filter (λt=>t !=[]))) (uS (λp=>decide (p∈kF ks st)) (eU 0 ws)):=by
 refine ii (Ff hp h) λe1 e2 _=> ?_
 rw [e1,e2,Fe hp r 0 h.2.1 h.2.2]
 have hm:∀x∈r,0<x/\x<ks.length:=λx hx=>⟨(iw.mp h.2.1).1 x hx,h.2.2 x (.tail _ hx)⟩
 have:=Zw (λp=>decide (p∈r.map λb=>bx (ks.take b))) ws hw (hf▸Zz hb h1 hm)
 rw [<-hf]at this
 have e0:bx (ks.take 0)=0:=rfl
 rw [e0,iS]
 split
 ·exact .ws rfl (.ws rfl this)
 ·exact this
theorem ZC {st:d}{s:FS}(h:Inv ks head st ks.length s)(bD:ks≠[]):∃r,qm ks.length st r:=by
 have lO:0<ks.length:=nb.mpr bD
 rcases h with⟨rfl,_⟩|⟨hl,hh,I⟩|⟨u,rfl,hh,I⟩
 ·exact oe [] (.inl rfl) (by simp) (by simp [lO])
 ·cases st with
  |nil=>cases hh
  |cons a r=>
   have ha:a=0:=by simpa using hh
   subst ha
   exact oe r (.inl rfl) I.mono (λx hx=>Gw (rj I.mono x hx) I.lt)
 ·cases u with
  |nil=>cases hh
  |cons a r=>
   have ha:a=0:=by simpa using hh
   subst ha
   exact oe r (.inr rfl) I.mono (λx hx=>Gw (rj I.mono x hx) I.lt)
theorem LO:∀{l:d} {a:Nat},a∈l->a<=l.sum
 |x::l,a,h=>by
  rw [uY]
  rcases gr.mp h with rfl|h
  ·lia
  ·have:=LO h;lia
structure qo (done:b8)(g h:d):Prop where
 tx:∀k∈done,k.2≠[]
 bl:∀k∈done,∀c∈k.1,bU c=true
 gb:∀c∈g,bU c=true
 g0:∀k,(done++[(g,h)])[0]? =some k->k.1=[]
 g1:∀i k,(done++[(g,h)])[i+1]? =some k->k.1≠[]
theorem qo.text {done:b8}{g h':d}(p:qo done g h):qo done g h':=by
 have key:∀(i:Nat) (k:d×d),(done++[(g,h')])[i]? =some k->∃k',(done++[(g,h)])[i]? =some k'/\k'.1=k.1:=by
  intro i k hk
  by_cases hi:i<done.length
  ·rw [ve hi]at hk⊢
   exact da k hk rfl
  ·rw [xX (by lia)]at hk⊢
   cases q:i-done.length with
   |zero=>rw [q]at hk;cases hk;exact⟨_,rfl,rfl⟩
   |succ n=>rw [q]at hk;cases hk
 refine⟨p.tx,p.bl,p.gb,λk hk=> ?_,λi k hk=> ?_⟩
 ·refine bX (key 0 k hk) λk' h1 h2=> ?_
  rw [<-h2];exact p.g0 k' h1
 ·refine bX (key _ k hk) λk' h1 h2=> ?_
  rw [<-h2];exact p.g1 i k' h1
theorem ZD:∀(x:d) (done:b8) (g h:d),qo done g h->(h≠[]\/(g≠[]/\done≠[]))->(∀hx:x++h≠[],x=[]\/∃y c,x=y++[c]/\bU c=false)->(x=[]->h≠[])-> bs (cG done g h x)=bs done++(g++h++x)/\(cG done g h x).length<=done.length+1+(x.filter bU).length/\∃LP g' h',cG done g h x=LP++[(g',h')]/\qo LP g' h'/\h'≠[]:=by
 intro x
 induction x with
 |nil=>
  intro done g h p _ _ h0
  refine⟨?_,by simp [cG],done,g,h,rfl,p,h0 rfl⟩
  show bs (done++[(g,h)])=_
  rw [xv,bk]
  simp [bs]
 |cons c x aS=>
  intro done g h p hh hx _
  have Fg:x=[]\/∃y c,x=y++[c]/\bU c=false:=by
   rcases hx (by simp)with q|⟨y,ah,q,hd⟩
   ·cases q
   ·cases y with
    |nil=>cases q;exact .inl rfl
    |cons e y=>cases q;exact .inr ⟨y,ah,rfl,hd⟩
  have iH:bU c=true->x≠[]:=by
   intro hb q
   subst q
   rcases hx (by simp)with q|⟨y,ah,q,hd⟩
   ·cases q
   ·have:=congrArg List.getLast? q
    rw [BZ]at this
    have:c=ah:=by simpa using this
    subst this
    rw [hb]at hd;cases hd
  unfold cG
  cases hb:bU c with
  |false=>
   rw [if_neg (by decide)]
   refine ii (aS done g (h++[c]) p.text (.inl (by simp)) (λ_=>Fg) (λ_=>by simp)) λa1 a2 a3=> ?_
   refine⟨by rw [a1];simp,?_,a3⟩
   rw [mi,if_neg (by simp [hb])]
   exact a2
  |true=>
   rw [if_pos rfl]
   have bD:=iH hb
   rw [mi,if_pos hb,cy]
   by_cases hn:h=[]
   ·subst hn
    rw [if_pos rfl]
    have hg:g≠[]/\done≠[]:=hh.resolve_left (λq=>q rfl)
    have p2:qo done (g++[c]) []:=by
     refine⟨p.tx,p.bl,λah hd=> ?_,λk hk=>p.g0 k ?_,λi k hk=> ?_⟩
     ·rcases fq.mp hd with hd|hd
      ·exact p.gb ah hd
      ·rw [jI.mp hd];exact hb
     ·have ZE:=nb.mpr hg.2
      rw [ve ZE]at hk⊢
      exact hk
     ·by_cases hi:i+1<done.length
      ·rw [ve hi]at hk
       exact p.g1 i k (by rw [ve hi];exact hk)
      ·rw [xX (by lia)]at hk
       cases q:i+1-done.length with
       |zero=>rw [q]at hk;cases hk;simp
       |succ n=>rw [q]at hk;cases hk
    refine ii (aS done (g++[c]) [] p2 (.inr ⟨by simp,hg.2⟩) (λ_=>Fg) (λq=>absurd q bD)) λa1 a2 a3=>
     ⟨by rw [a1];simp,by lia,a3⟩
   ·rw [if_neg hn]
    have p2:qo (done++[(g,h)]) [c] []:=by
     refine⟨λk hk=> ?_,λk hk ah hd=> ?_,λah hd=>by rw [jI.mp hd];exact hb,λk hk=>p.g0 k ?_,λi k hk=> ?_⟩
     ·rcases fq.mp hk with hk|hk
      ·exact p.tx k hk
      ·rw [jI.mp hk];exact hn
     ·rcases fq.mp hk with hk|hk
      ·exact p.bl k hk ah hd
      ·rw [jI.mp hk]at hd;exact p.gb ah hd
     ·rw [ve (by simp)]at hk;exact hk
     ·by_cases hi:i+1<(done++[(g,h)]).length
      ·rw [ve hi]at hk;exact p.g1 i k hk
      ·rw [xX (by lia)]at hk
       cases q:i+1-(done++[(g,h)]).length with
       |zero=>rw [q]at hk;cases hk;simp
       |succ n=>rw [q]at hk;cases hk
    refine ii (aS (done++[(g,h)]) [c] [] p2 (.inr ⟨by simp,by simp⟩) (λ_=>Fg) (λq=>absurd q bD)) λa1 a2 a3=>
     ⟨by rw [a1,xv];simp [bs],?_,a3⟩
    rw [ci]at a2
    simp at a2⊢
    lia
theorem ZF {x:d}(h1:∃c r,x=c::r/\bU c=false)(h2:∃y c,x=y++[c]/\bU c=false)(hl:x.length<=1000)(hb:(x.filter bU).length<=44):Bg (cQ x)/\bs (cQ x)=x/\(∀k∈cQ x,∀c∈k.1,bU c=true):=by
 refine gu (h1) λc r ZG hc=> ?_
 subst ZG
 have p0:qo [] [] [c]:=⟨by simp,by simp,by simp,by simp,by simp⟩
 have hr:r=[]\/∃y c,r=y++[c]/\bU c=false:=by
  refine gu (h2) λy ah q hd=> ?_
  cases y with
  |nil=>cases q;exact .inl rfl
  |cons e y=>cases q;exact .inr ⟨y,ah,rfl,hd⟩
 obtain⟨a1,a2,done,g,h,a3,p,a4⟩:=ZD r [] [] [c] p0 (.inl (by simp)) (λ_=>hr) (λ_=>by simp)
 have e:cQ (c::r)=cG [] [] [c] r:=by
  show(if bU c then cG [] [c] [] r else cG [] [] [c] r)=_
  rw [hc];rfl
 rw [e]
 have hf:bs (cG [] [] [c] r)=c::r:=by rw [a1];rfl
 have nJ:∀k∈cG [] [] [c] r,∀ah∈k.1,bU ah=true:=by
  rw [a3]
  intro k hk
  rcases fq.mp hk with hk|hk
  ·exact p.bl k hk
  ·rw [jI.mp hk];exact p.gb
 refine⟨⟨?_,?_,?_,?_,?_,?_⟩,hf,nJ⟩
 ·rw [mi,if_neg (by simp [hc])]at hb
  simp at a2
  lia
 ·intro k hk
  have h3:k.1.length+k.2.length<=bx (cG [] [] [c] r):=LO (dS.mpr ⟨k,hk,rfl⟩)
  rw [<-qh,hf]at h3
  lia
 ·intro k hk ah hd
  have:=nJ k hk ah hd
  unfold bU at this
  simp only [xP,beq_iff_eq]at this
  rcases this with rfl|rfl<;>decide
 ·rw [a3];exact p.g0
 ·rw [a3];exact p.g1
 ·rw [a3]
  intro k hk
  rcases fq.mp hk with hk|hk
  ·exact p.tx k hk
  ·rw [jI.mp hk];exact a4
def LQ (x:d):Prop:=(∃c r,x=c::r/\bU c=false)/\∃y c,x=y++[c]/\bU c=false
theorem LR (h:fk c=true):c<128:=by
 rcases C3 h with rfl|rfl|rfl|rfl|rfl|rfl|rfl|rfl|rfl<;>decide
theorem ZH:∀(x:d),(∀c∈x,fk c=true)->(b5 39 dx x).length<=5*x.length/\((b5 39 dx x).filter bU).length<=x.length/\∀c∈b5 39 dx x,fk c=true:=by
 intro x
 induction x with
 |nil=>
  intro _
  exact⟨b7 _,b7 _,by simp [b5]⟩
 |cons c x aS=>
  intro h
  refine ii (aS λah hd=>h ah (.tail _ hd)) λi1 i2 i3=> ?_
  rw [xt,xV,ci,ci,cy]
  have hc:(dC c).length<=5/\((dC c).filter bU).length<=1/\∀ah∈dC c,fk ah=true:=by
   delta dC
   split
   ·exact⟨by decide,by decide,by decide⟩
   ·exact⟨by simp,M8 _ _,λah hd=>by rw [jI.mp hd];exact h c (.head _)⟩
  refine⟨by lia,by lia,λah hd=> ?_⟩
  rcases fq.mp hd with hd|hd
  ·exact hc.2.2 ah hd
  ·exact i3 ah hd
theorem Fh {x:d}(h:∀c∈x,fk c=true):LQ (bW x)/\(bW x).length<=5*x.length+2/\((bW x).filter bU).length<=x.length/\∀c∈bW x,fk c=true:=by
 delta bW
 split
 ·next e=>subst e;exact⟨⟨⟨39,[39],rfl,rfl⟩,[39],39,rfl,rfl⟩,by decide,by decide,by decide⟩
 ·next e=>
  split
  ·next hs=>
   have oY:∀ah∈x,cF ah=true:=o5.mp hs
   refine⟨⟨?_,?_⟩,by lia,M8 _ _,h⟩
   ·cases x with
    |nil=>exact absurd rfl e
    |cons c r=>exact fL c r rfl ((qk (oY c (.head _))).2.2)
   ·exact fL x.dropLast (x.getLast e) ((Gr e).symm) ((qk (oY _ (List.getLast_mem e))).2.2)
  ·refine ii (ZH x h) λi1 i2 i3=> ?_
   refine⟨⟨⟨39,b5 39 dx x++[39],rfl,rfl⟩,[39]++b5 39 dx x,39,rfl,rfl⟩,?_,?_,λah hd=> ?_⟩
   ·simp only [ci,o7];lia
   ·rw [xV,xV]
    show(([]++List.filter bU (b5 39 dx x))++[]).length<=_
    rw [bk,cZ];exact i2
   ·rcases fq.mp hd with hd|hd
    ·rcases fq.mp hd with hd|hd
     ·rw [jI.mp hd];decide
     ·exact i3 ah hd
    ·rw [jI.mp hd];decide
theorem Fi:∀{ws:List d},ws≠[]->(∀x∈ws,x.length<=4/\∀c∈x,fk c=true)-> LQ (bp [32] (ws.map bW))/\(bp [32] (ws.map bW)).length<=23*ws.length/\((bp [32] (ws.map bW)).filter bU).length<=5*ws.length/\∀c∈bp [32] (ws.map bW),fk c=true:=by
 intro ws
 induction ws with
 |nil=>
  intro h _
  exact absurd rfl h
 |cons x rq aS=>
  cases rq with
  |nil=>
   intro _ h
   refine cB (h x (.head _)) λh1 h2=>
    mo (Fh h2) λa1 a2 a3 a4=>
    ⟨a1,by show(bW x).length<=23;lia,by show((bW x).filter bU).length<=5;lia,a4⟩
  |cons y ws=>
   intro _ h
   refine cB (h x (.head _)) λh1 h2=> ?_
   obtain⟨⟨⟨c,r,e,hc⟩,_⟩,a2,a3,a4⟩:=Fh h2
   refine mo (aS (by simp) λam hz=>h am (.tail _ hz)) λ⟨_,am,ah,e2,hd⟩ i2 i3 i4=> ?_
   rw [bY,rl (by simp)]
   refine⟨⟨⟨c,r++[32]++bp [32] ((y::ws).map bW),by rw [e];rfl,hc⟩,bW x++[32]++am,ah,by rw [e2,<-bK],hd⟩,?_,?_,λah hd=> ?_⟩
   ·rw [ci,ci,cy,cy]at*
    simp at*
    lia
   ·rw [xV,xV,ci,ci]
    have:(List.filter bU [32]).length=1:=rfl
    rw [cy]
    lia
   ·rcases fq.mp hd with hd|hd
    ·rcases fq.mp hd with hd|hd
     ·exact a4 ah hd
     ·rw [jI.mp hd];decide
    ·exact i4 ah hd
noncomputable def ZI:d:=[95,83,116,114,105,110,103,73,79,95,95,110,101,119,108,105,110,101]
noncomputable def ZJ:d:=[95,83,116,114,105,110,103,73,79,95,95,98,117,102]
noncomputable def ZK:d:=[95,83,116,114,105,110,103,73,79,95,95,112,111,115]
noncomputable def ib (D:Nat):az:={cls:= .ref 763,dict:=some D}
noncomputable def oZ (P:aF)(H z k3 t tn:Nat)(i:Int)(ti e:Nat)(x:d):az:=fU [de P ZI H (Z [10] tn),de P ZJ z (Z x t),de P ZK k3 (.int i ti)] e
structure Rx where
 A:Nat
 L:Nat
 F:Nat
 K:Nat
 F1:Nat
 F2:Nat
 F3:Nat
 q1:aw
 G:aw
 q3:aw
 q4:aw
 q5:aw
 q6:aw
 q7:aw
 q8:aw
noncomputable def cp (P:aF)(F:Nat):bL:=HM (dW (cw P 866) 2) (eQ P 866 F [])
noncomputable def Rx.W (P:aF)(r:Rx):b9:=dB P 859 r.F2 r.q7 (dB P 895 r.F1 r.q6 ((l7 (r.A+962) (r.L+962),r.q5)::uM P (r.A+962) (r.L+962) r.F r.K r.q3 r.q1 r.G))
noncomputable def Rx.ac (P:aF)(r:Rx)(q9:aw):b9:=(cp P r.F3,q9)::dB P 866 r.F3 r.q8 (r.W P)
noncomputable def rP (P:aF)(r:Rx)(q9:aw)(A t:Nat):bd:=⟨.call (.ref 709) ⟨[.ref A,.int 1 t],[]⟩,none,none,r.ac P q9,none⟩
theorem ZL (h0:x.length<=100000)(h1:decide (O i≥O x.length)=true):aP w (rP w.P r q9 (A+962) t1) p (aA (Ctx.code (rP w.P r q9 (A+962) t1))) ⟨[(A+962,ib D),(D,oZ w.P H z k3 t tn (O i) ti e x)],[],N+962,J,[],U⟩ (.ok (.ret (Z [] (J+18)))) ⟨[(A+962,ib D),(D,oZ w.P H z k3 t tn (O i) ti e x)],[],(N+962+3),(J+19),[],U⟩:=
 by revert w;exact @(np 0x139ce74f2d601600b3873bcb5805802cef2d601600b45059c0e00e00e318d45540404154122a8 (λw=>[cb w (a:=1) (b:=1099511627776) t1 (J+6) (r:=false) rfl,oLt w 1 (cJ 0xffffffffff) t1 (J+8) false rfl,bZ w t h0,l8 w _ _ ti (J+15+1) _ h1]) [3,3])
theorem ZM (h0:x.length<=100000)(h1:decide (O i≥O x.length)=false)(h2:decide (O (i+1)<O x.length)=true)(h4:x[i]? =some c3):aP w (rP w.P r q9 (A+962) t1) p (aA (Ctx.code (rP w.P r q9 (A+962) t1))) ⟨[(A+962,ib D),(D,oZ w.P H z k3 t tn (O i) ti e x)],[],N+962,J,[],U⟩ (.ok (.ret (Z [c3] (uN x t (J+25))))) ⟨[(A+962,ib D),(D,oZ w.P H z k3 t tn (O (i+1)) (J+20) e x)],[],(N+962+4),(J+(25+rO x)),[],U⟩:=
 by revert w;exact @(np 0x11cef2d601600b3bdef2c02cb1600b39ce70e74e1ce9d39ce74f2d601600b3873bcb5805802cef2d601600b45059c0e00e00e318d45540404154122a8 (λw=>[cb w (a:=1) (b:=1099511627776) t1 (J+6) (r:=false) rfl,oLt w 1 (cJ 0xffffffffff) t1 (J+8) false rfl,bZ w t h0,l8 w _ _ ti (J+15+1) _ h1,l8 w 1 0 t1 (J+18) true rfl,oLt w _ _ (J+19) (J+15+1) _ h2,LD w [0] (N+962+3) t ti (J+20) h4 rfl]) [4,4])
theorem ZN (h0:x.length<=100000)(h1:decide (O i≥O x.length)=false)(h2:decide (O (i+1)<O x.length)=false)(h4:x[i]? =some c3)(h5:O x.length=O i+1):aP w (rP w.P r q9 (A+962) t1) p (aA (Ctx.code (rP w.P r q9 (A+962) t1))) ⟨[(A+962,ib D),(D,oZ w.P H z k3 t tn (O i) ti e x)],[],N+962,J,[],U⟩ (.ok (.ret (Z [c3] (uN x t (J+23))))) ⟨[(A+962,ib D),(D,oZ w.P H z k3 t tn (O x.length) (J+15+1) e x)],[],(N+962+4),(J+(23+rO x)),[],U⟩:=
 by revert w;exact @(np 0x473bcb5805802cef7bcb00b2c5802ce74e1ce9d39ce74f2d601600b3873bcb5805802cef2d601600b45059c0e00e00e318d45540404154122a8 (λw=>[cb w (a:=1) (b:=1099511627776) t1 (J+6) (r:=false) rfl,oLt w 1 (cJ 0xffffffffff) t1 (J+8) false rfl,bZ w t h0,l8 w _ _ ti (J+15+1) _ h1,l8 w 1 0 t1 (J+18) true rfl,oLt w _ _ (J+19) (J+15+1) _ h2,LD w [0] (N+962+3) t ti (J+15+1) h4 h5]) [4,4])
def iQ (w:WB)(r:Rx)(A D H z k3 t tn i i' ti ti' e t1 N N' J au U t':Nat)(x y:d)(p q9:aw):Prop:=
 aP w (rP w.P r q9 A t1) p ((VV w).M.den (.call (.ref 709) ⟨[.ref A,.int 1 t1],[]⟩)) ⟨[(A,ib D),(D,oZ w.P H z k3 t tn (O i) ti e x)],[],N,J,[],U⟩ (.ok (.ret (Z y t'))) ⟨[(A,ib D),(D,oZ w.P H z k3 t tn (O i') ti' e x)],[],N',au,[],U⟩
noncomputable def f7 (w:WB)(aH:d){r:Rx}{A D H z k3 t tn i ti ti' e t1 N N' J au U t':Nat}{x:d}{c:Nat}{p q9:aw}(h:iQ w r A D H z k3 t tn i (i+1) ti ti' e t1 N N' J au U t' x [c] p q9):aM w:= .fn _ _ aH [] [] _ _ _ h
noncomputable def By (w:WB)(aH:d){r:Rx}{A D H z k3 t tn i ti ti' e t1 N N' J au U t':Nat}{x:d}{p q9:aw}(h:iQ w r A D H z k3 t tn i i ti ti' e t1 N N' J au U t' x [] p q9):aM w:= .fn _ _ aH [] [] _ _ _ h
structure d8 where
 IO:Nat
 DI:Nat
 PB:Nat
 FS:Nat
 D:Nat
 k:Nat->Nat
 t:Nat->Nat
 tx:Nat
 x:d
noncomputable def lf:d:=[97,98,99,100,102,101,103,104,105,106,107,108,109,110,111,112,113,114,115,116,117,118,119,120,121,122,65,66,67,68,69,70,71,72,73,74,75,76,77,78,79,80,81,82,83,84,85,86,87,88,89,90,48,49,50,51,52,53,54,55,56,57,95,223,224,225,226,227,228,229,230,231,232,233,234,235,236,237,238,239,240,241,242,243,244,245,246,248,249,250,251,252,253,254,255,192,193,194,195,196,197,198,199,200,201,202,203,204,205,206,207,208,209,210,211,212,213,214,216,217,218,219,220,221,222]
noncomputable def mb (P:aF)(m:d8)(st:ay)(ln tl:Nat)(bn:d)(tt:Nat):az:=fU [de P [105,110,115,116,114,101,97,109] (m.k 0) (.ref m.IO),de P [105,110,102,105,108,101] (m.k 1) .none,de P [112,111,115,105,120] (m.k 2) (.bool true),de P [101,111,102] (m.k 3) .none,de P [99,111,109,109,101,110,116,101,114,115] (m.k 4) (Z [] (m.t 0)),de P [119,111,114,100,99,104,97,114,115] (m.k 5) (Z lf (m.t 1)),de P [119,104,105,116,101,115,112,97,99,101] (m.k 6) (Z [32,9,13,10] (m.t 2)),de P [119,104,105,116,101,115,112,97,99,101,95,115,112,108,105,116] (m.k 7) (.bool true),de P [113,117,111,116,101,115] (m.k 8) (Z [39,34] (m.t 3)),de P [101,115,99,97,112,101] (m.k 9) (Z [92] (m.t 4)),de P [101,115,99,97,112,101,100,113,117,111,116,101,115] (m.k 10) (Z [34] (m.t 5)),de P [115,116,97,116,101] (m.k 11) st,de P [112,117,115,104,98,97,99,107] (m.k 12) (.ref m.PB),de P [108,105,110,101,110,111] (m.k 13) (.int (O ln) tl),de P [100,101,98,117,103] (m.k 14) (.int 0 (m.t 6)),de P [116,111,107,101,110] (m.k 15) (Z bn tt),de P [102,105,108,101,115,116,97,99,107] (m.k 16) (.ref m.FS),de P [115,111,117,114,99,101] (m.k 17) .none,de P [95,112,117,110,99,116,117,97,116,105,111,110,95,99,104,97,114,115] (m.k 18) (Z [] (m.t 7))] 19
noncomputable def ic:az:=rec "collections.deque" [.none,.int 0 0]
noncomputable def d8.io (P:aF)(m:d8)(i ti:Nat):az:=oZ P (m.k 19) (m.k 20) (m.k 21) m.tx 996 (O i) ti 3 m.x
noncomputable def LS:d:=[113,117,111,116,101,100]
noncomputable def LU:d:=[101,115,99,97,112,101,100,115,116,97,116,101]
noncomputable def ZO:d:=[110,101,120,116,99,104,97,114]
noncomputable def LW (P:aF)(L H z k3 E:Nat)(q:Bool):Option (Nat×ay)->az
 |none=>bz [de P gf H (.ref L),de P LS z (.bool q),de P LU k3 (Z [32] E)] 3
 |some v=>bz [de P gf H (.ref L),de P LS z (.bool q),de P LU k3 (Z [32] E),de P ZO v.1 v.2] 4
noncomputable def eN (P:aF)(r:Rx):bd:=⟨cp P r.F3,none,none,dB P 866 r.F3 r.q8 (r.W P),none⟩
noncomputable def b4 (P:aF)(m:d8)(r:Rx)(H z k3 E:Nat)(q:Bool)(v:Option (Nat×ay))(st:ay)(ln tl:Nat)(bn:d)(tt i ti N J U:Nat):aC:=⟨[(r.F3,LW P (r.L+962) H z k3 E q v),(r.L+962,d7 m.D),(m.D,mb P m st ln tl bn tt),(m.IO,ib m.DI),(m.DI,m.io P i ti)],[],N,J,[],U⟩
noncomputable def qp (w:WB){c:Nat}(tx tc:Nat){r:Bool}(h:decide (c∈lf)=r):aM w:=pO w tx tc h
noncomputable def gH (w:WB){a c:Nat}(tx tc:Nat){r:Bool}(h:decide (c∈[a])=r):aM w:=pO w tx tc h
noncomputable def gm (w:WB)(a b c tx tc:Nat)(r:Bool)(h:decide (c∈[a,b])=r):aM w:=pO w tx tc h
noncomputable def jf (w:WB){a b a' b' c:Nat}(tx tc:Nat){r:Bool}(h:decide (c∈[a,b,a',b'])=r):aM w:=pO w tx tc h
noncomputable def qr (w:WB)(aH:d)(l:Nat)(x y:d)(t1 t2 t:Nat):aM w:=wC w aH l (x:=x) (y:=y) (am:=x) t1 t2 t (r:=true) (by simp)
section
variable {m:d8}(h5:iQ w r m.IO m.DI (m.k 19) (m.k 20) (m.k 21) m.tx 996 i (i+1) ti dw 3 (J+6) (N+1) aU (J+7) aI U bb m.x [c4] gv gv)
include h5
theorem ZP (h6:([c4]==[10])=true)(h7:decide (c4∈[32,9,13,10])=true):aE w (eN w.P r) p (aA (cp w.P r.F3)) (b4 w.P m r H z k3 E false none (Z [32] ts) ln tl ([]) tt i ti N J U) (.ok (.again (cp w.P r.F3))) yx (b4 w.P m r H z k3 E false (some (aI,(Z [c4] bb))) (Z [32] ts) (ln+1) (aI+4) [] tt (i+1) dw aU (aI+21) U):=
 by revert w;exact @(eH 0x1733de1e0f5899ef0f07ac99ef0f07ad99ef0f07ad616ccf78783d733de1e0f5933de1e0f5ce733c3cf1e0f267bc3c1eb56b5a9bc1e01e01eb1ce0e071858e70703a28000180d (λw h5=>[f7 w [4,4] h5,bu w bb (aI+1) h6,bu w (a:=[32]) (b:=[32]) ts (aI+11) (r:=true) rfl,jf w (m.t 2) bb h7]) [3,3,3,0,0])
theorem ZQ (h6:([c4]==[10])=false)(h7:decide (c4∈[32,9,13,10])=true):aE w (eN w.P r) p (aA (cp w.P r.F3)) (b4 w.P m r H z k3 E false none (Z [32] ts) ln tl ([]) tt i ti N J U) (.ok (.again (cp w.P r.F3))) yx (b4 w.P m r H z k3 E false (some (aI,(Z [c4] bb))) (Z [32] ts) ln tl [] tt (i+1) dw aU (aI+16) U):=
 by revert w;exact @(eH 0x2e67bc3c1eb133de1e0f5933de1e0f5b33de1e0f5ac2d99ef0f07ae67bc3c1eb267bc3c1eb56b5a9bc1e01e01eb1ce0e071858e70703a28000180d (λw h5=>[f7 w [4,4] h5,bu w bb (aI+1) h6,bu w (a:=[32]) (b:=[32]) ts (aI+6) (r:=true) rfl,jf w (m.t 2) bb h7]) [3,3,3,0,0])
section
variable (h6:([c4]==[10])=false)(h7:decide (c4∈[32,9,13,10])=false)(h8:decide (c4∈[92])=false)
include h6 h7 h8
theorem ZR (h9:decide (c4∈lf)=true):aE w (eN w.P r) p (aA (cp w.P r.F3)) (b4 w.P m r H z k3 E false none (Z [32] ts) ln tl ([]) tt i ti N J U) (.ok (.again (cp w.P r.F3))) ⟨716,20,716,30⟩ (b4 w.P m r H z k3 E false (some (aI,(Z [c4] bb))) (Z [97] (aI+16)) ln tl [c4] bb (i+1) dw aU (aI+19) U):=
 by revert w;exact @(eH 0x139ccf0f3c783d739ccf0f3c783d6b667bc3c1eb5b33de1e0f5ae67bc3c1eb267bc3c1eb5b33de1e0f5ac2d99ef0f07ae67bc3c1eb267bc3c1eb56b5a9bc1e01e01eb1ce0e071858e70703a28000180d (λw h5=>[f7 w [4,4] h5,bu w bb (aI+1) h6,bu w (a:=[32]) (b:=[32]) ts (aI+6) (r:=true) rfl,jf w (m.t 2) bb h7,gH w (m.t 4) bb h8,qp w (m.t 1) bb h9]) [3,3,3,0,0])
theorem ZS (h9:decide (c4∈lf)=false)(bT:decide (c4∈[39,34])=true):aE w (eN w.P r) p (aA (cp w.P r.F3)) (b4 w.P m r H z k3 E false none (Z [32] ts) ln tl ([]) tt i ti N J U) (.ok (.again (cp w.P r.F3))) ⟨723,20,723,30⟩ (b4 w.P m r H z k3 E false (some (aI,(Z [c4] bb))) (Z [c4] bb) ln tl [] tt (i+1) dw (aU+1) (aI+21) U):=
 by revert w;exact @(eH 0x2f7ba62699309bdf74e626137b74e626137bcba731309a28000783d6b667bc3c1eb5b33de1e0f5ae67bc3c1eb267bc3c1eb5b33de1e0f5ac2d99ef0f07ae67bc3c1eb267bc3c1eb56b5a9bc1e01e01eb1ce0e071858e70703a28000180d (λw h5=>[f7 w [4,4] h5,bu w bb (aI+1) h6,bu w (a:=[32]) (b:=[32]) ts (aI+6) (r:=true) rfl,jf w (m.t 2) bb h7,gH w (m.t 4) bb h8,qp w (m.t 1) bb h9,gm w _ _ _ (m.t 3) bb _ bT]) [4,4,4,1,1])
theorem ZT (h9:decide (c4∈lf)=false)(bT:decide (c4∈[39,34])=false):aE w (eN w.P r) p (aA (cp w.P r.F3)) (b4 w.P m r H z k3 E false none (Z [32] ts) ln tl ([]) tt i ti N J U) (.ok (.again (cp w.P r.F3))) ⟨726,20,726,30⟩ (b4 w.P m r H z k3 E false (some (aI,(Z [c4] bb))) (Z [97] (aI+21)) ln tl [c4] bb (i+1) dw (aU+1) (aI+24) U):=
 by revert w;exact @(eH 0x2f7ba62699309bef7ba62699309bdf74e626137b74e626137bcba731309a28000783d6b667bc3c1eb5b33de1e0f5ae67bc3c1eb267bc3c1eb5b33de1e0f5ac2d99ef0f07ae67bc3c1eb267bc3c1eb56b5a9bc1e01e01eb1ce0e071858e70703a28000180d (λw h5=>[f7 w [4,4] h5,bu w bb (aI+1) h6,bu w (a:=[32]) (b:=[32]) ts (aI+6) (r:=true) rfl,jf w (m.t 2) bb h7,gH w (m.t 4) bb h8,qp w (m.t 1) bb h9,gm w _ _ _ (m.t 3) bb _ bT]) [4,4,4,1,1])
end
end
section
variable {m:d8}
theorem ZU (h4:iQ w r m.IO m.DI (m.k 19) (m.k 20) (m.k 21) m.tx 996 i i ti dw 3 (J+6) (N+1) aU (J+7) aI U bb m.x [] gv gv):aP w (eN w.P r) p (aA (cp w.P r.F3)) (b4 w.P m r H z k3 E false none (Z [32] ts) ln tl ([]) tt i ti N J U) (.ok .next) (b4 w.P m r H z k3 E false (some (aI,(Z [] bb))) .none ln tl [] tt i dw aU (aI+11) U):=
 by revert w;exact @(iA 0x27399e1e78f07ac2d99ef0f07ae67bc3c1eb267bc3c1eb56b5a9bc1e01e01eb1ce0e071858e70703a28000180d (λw h4=>[By w [4,4] h4,bu w (a:=[]) (b:=[10]) bb (aI+1) (r:=false) rfl,bu w (a:=[32]) (b:=[32]) ts (aI+6) (r:=true) rfl]) [3,3,3,0,0])
section
variable (h5:iQ w r m.IO m.DI (m.k 19) (m.k 20) (m.k 21) m.tx 996 i (i+1) ti dw 3 (J+6) (N+1) aU (J+7) aI U bb m.x [c4] gv gv)
include h5
theorem ZV (h6:([c4]==[10])=true)(h7:decide (c4∈[32,9,13,10])=true):aE w (eN w.P r) p (aA (cp w.P r.F3)) (b4 w.P m r H z k3 E false (some (kv,vv)) (Z [32] ts) ln tl ([]) tt i ti N J U) (.ok (.again (cp w.P r.F3))) yx (b4 w.P m r H z k3 E false (some (kv,(Z [c4] bb))) (Z [32] ts) (ln+1) (aI+4) [] tt (i+1) dw aU (aI+21) U):=
 by revert w;exact @(eH 0x1733de1e0f5899ef0f07ac99ef0f07ad99ef0f07ad616ccf78783d733de1e0f5933de1e0f5ce733c3cf1e0f267bc3c1eb56b5a9bc1e01e01eb1ce0e071858e70703a28000180d (λw h5=>[f7 w [4,4] h5,bu w bb (aI+1) h6,bu w (a:=[32]) (b:=[32]) ts (aI+11) (r:=true) rfl,jf w (m.t 2) bb h7]) [3,3,3,0,0])
theorem ZW (h6:([c4]==[10])=false)(h7:decide (c4∈[32,9,13,10])=true):aE w (eN w.P r) p (aA (cp w.P r.F3)) (b4 w.P m r H z k3 E false (some (kv,vv)) (Z [32] ts) ln tl ([]) tt i ti N J U) (.ok (.again (cp w.P r.F3))) yx (b4 w.P m r H z k3 E false (some (kv,(Z [c4] bb))) (Z [32] ts) ln tl [] tt (i+1) dw aU (aI+16) U):=
 by revert w;exact @(eH 0x2e67bc3c1eb133de1e0f5933de1e0f5b33de1e0f5ac2d99ef0f07ae67bc3c1eb267bc3c1eb56b5a9bc1e01e01eb1ce0e071858e70703a28000180d (λw h5=>[f7 w [4,4] h5,bu w bb (aI+1) h6,bu w (a:=[32]) (b:=[32]) ts (aI+6) (r:=true) rfl,jf w (m.t 2) bb h7]) [3,3,3,0,0])
section
variable (h6:([c4]==[10])=false)(h7:decide (c4∈[32,9,13,10])=false)(h8:decide (c4∈[92])=false)
include h6 h7 h8
theorem ZX (h9:decide (c4∈lf)=true):aE w (eN w.P r) p (aA (cp w.P r.F3)) (b4 w.P m r H z k3 E false (some (kv,vv)) (Z [32] ts) ln tl ([]) tt i ti N J U) (.ok (.again (cp w.P r.F3))) ⟨716,20,716,30⟩ (b4 w.P m r H z k3 E false (some (kv,(Z [c4] bb))) (Z [97] (aI+16)) ln tl [c4] bb (i+1) dw aU (aI+19) U):=
 by revert w;exact @(eH 0x139ccf0f3c783d739ccf0f3c783d6b667bc3c1eb5b33de1e0f5ae67bc3c1eb267bc3c1eb5b33de1e0f5ac2d99ef0f07ae67bc3c1eb267bc3c1eb56b5a9bc1e01e01eb1ce0e071858e70703a28000180d (λw h5=>[f7 w [4,4] h5,bu w bb (aI+1) h6,bu w (a:=[32]) (b:=[32]) ts (aI+6) (r:=true) rfl,jf w (m.t 2) bb h7,gH w (m.t 4) bb h8,qp w (m.t 1) bb h9]) [3,3,3,0,0])
theorem ZY (h9:decide (c4∈lf)=false)(bT:decide (c4∈[39,34])=true):aE w (eN w.P r) p (aA (cp w.P r.F3)) (b4 w.P m r H z k3 E false (some (kv,vv)) (Z [32] ts) ln tl ([]) tt i ti N J U) (.ok (.again (cp w.P r.F3))) ⟨723,20,723,30⟩ (b4 w.P m r H z k3 E false (some (kv,(Z [c4] bb))) (Z [c4] bb) ln tl [] tt (i+1) dw (aU+1) (aI+21) U):=
 by revert w;exact @(eH 0x2f7ba62699309bdf74e626137b74e626137bcba731309a28000783d6b667bc3c1eb5b33de1e0f5ae67bc3c1eb267bc3c1eb5b33de1e0f5ac2d99ef0f07ae67bc3c1eb267bc3c1eb56b5a9bc1e01e01eb1ce0e071858e70703a28000180d (λw h5=>[f7 w [4,4] h5,bu w bb (aI+1) h6,bu w (a:=[32]) (b:=[32]) ts (aI+6) (r:=true) rfl,jf w (m.t 2) bb h7,gH w (m.t 4) bb h8,qp w (m.t 1) bb h9,gm w _ _ _ (m.t 3) bb _ bT]) [4,4,4,1,1])
theorem ZZ (h9:decide (c4∈lf)=false)(bT:decide (c4∈[39,34])=false):aE w (eN w.P r) p (aA (cp w.P r.F3)) (b4 w.P m r H z k3 E false (some (kv,vv)) (Z [32] ts) ln tl ([]) tt i ti N J U) (.ok (.again (cp w.P r.F3))) ⟨726,20,726,30⟩ (b4 w.P m r H z k3 E false (some (kv,(Z [c4] bb))) (Z [97] (aI+21)) ln tl [c4] bb (i+1) dw (aU+1) (aI+24) U):=
 by revert w;exact @(eH 0x2f7ba62699309bef7ba62699309bdf74e626137b74e626137bcba731309a28000783d6b667bc3c1eb5b33de1e0f5ae67bc3c1eb267bc3c1eb5b33de1e0f5ac2d99ef0f07ae67bc3c1eb267bc3c1eb56b5a9bc1e01e01eb1ce0e071858e70703a28000180d (λw h5=>[f7 w [4,4] h5,bu w bb (aI+1) h6,bu w (a:=[32]) (b:=[32]) ts (aI+6) (r:=true) rfl,jf w (m.t 2) bb h7,gH w (m.t 4) bb h8,qp w (m.t 1) bb h9,gm w _ _ _ (m.t 3) bb _ bT]) [4,4,4,1,1])
end
end
section
variable (h4:iQ w r m.IO m.DI (m.k 19) (m.k 20) (m.k 21) m.tx 996 i i ti dw 3 (J+6) (N+1) aU (J+7) aI U bb m.x [] gv gv)
include h4
theorem Z0:aP w (eN w.P r) p (aA (cp w.P r.F3)) (b4 w.P m r H z k3 E false (some (kv,vv)) (Z [32] ts) ln tl ([]) tt i ti N J U) (.ok .next) (b4 w.P m r H z k3 E false (some (kv,(Z [] bb))) .none ln tl [] tt i dw aU (aI+11) U):=
 by revert w;exact @(iA 0x27399e1e78f07ac2d99ef0f07ae67bc3c1eb267bc3c1eb56b5a9bc1e01e01eb1ce0e071858e70703a28000180d (λw h4=>[By w [4,4] h4,bu w (a:=[]) (b:=[10]) bb (aI+1) (r:=false) rfl,bu w (a:=[32]) (b:=[32]) ts (aI+6) (r:=true) rfl]) [3,3,3,0,0])
theorem Z1:aP w (eN w.P r) p (aA (cp w.P r.F3)) (b4 w.P m r H z k3 E false none (.none) ln tl ([]) tt i ti N J U) (.ok .next) (b4 w.P m r H z k3 E false (some (aI,(Z [] bb))) .none ln tl [] (aI+5) i dw aU (aI+8) U):=
 by revert w;exact @(iA 0x27399e1e78f07ae67bc3c1eb267bc3c1eb56b5a9bc1e01e01eb1ce0e071858e70703a28000180d (λw h4=>[By w [4,4] h4,bu w (a:=[]) (b:=[10]) bb (aI+1) (r:=false) rfl]) [3,3,3,0,0])
end
section
variable {q:Bool}(h5:iQ w r m.IO m.DI (m.k 19) (m.k 20) (m.k 21) m.tx 996 i (i+1) ti dw 3 (J+6) (N+1) aU (J+7) aI U bb m.x [c4] gv gv)(h6:([c4]==[10])=false)(h7:decide (c4∈[32,9,13,10])=false)
include h5 h6 h7
theorem Z2 (h8:decide (c4∈[39,34])=true):aE w (eN w.P r) p (aA (cp w.P r.F3)) (b4 w.P m r H z k3 E q (some (kv,vv)) (Z [97] ts) ln tl bn tt i ti N J U) (.ok (.again (cp w.P r.F3))) ⟨790,20,790,30⟩ (b4 w.P m r H z k3 E q (some (kv,(Z [c4] bb))) (Z [c4] bb) ln tl bn tt (i+1) dw (aU+1) (aI+24) U):=
 by revert w;exact @(eH 0x5ef74c4d326137bdba731309bdf74e626137b74e626137974e626137bdba731309bde1ea599ef0f07ad99ef0f07ae67bc3c1eb667bc3c1eb99ef0f07ad99ef0f07ae67bc3c1eb267bc3c1eb56b5a9bc1e01e01eb1ce0e071858e70703a28000180d (λw h5=>[f7 w [4,4] h5,bu w bb (aI+1) h6,bu w (a:=[97]) (b:=[32]) ts (aI+6) (r:=false) rfl,gm w 39 34 97 (m.t 3) ts false rfl,gH w (a:=92) (c:=97) (m.t 4) ts (r:=false) rfl,qr w [0] aU [97] [99] (aI+12) (aI+13) ts,jf w (m.t 2) bb h7,bu w (a:=[97]) (b:=[99]) ts (aI+19) (r:=false) rfl,gm w _ _ _ (m.t 3) bb _ h8]) [4,4,4,1,1])
theorem Z3 (h8:decide (c4∈[39,34])=false)(h9:decide (c4∈[92])=false)(bT:decide (c4∈lf)=true)(fH:bn.length+[c4].length<=100000):aE w (eN w.P r) p (aA (cp w.P r.F3)) (b4 w.P m r H z k3 E q (some (kv,vv)) (Z [97] ts) ln tl bn tt i ti N J U) (.ok (.again (cp w.P r.F3))) ⟨795,20,795,30⟩ (b4 w.P m r H z k3 E q (some (kv,(Z [c4] bb))) (Z [97] ts) ln tl (bn++[c4]) (cD bn [c4] tt bb (aI+26)) (i+1) dw (aU+1) (aI+(26+cE bn [c4]+1+1)) U):=
 by revert w;exact @(eH 0x2f7ba62699309afba731309bdba731309bdedd398984defba731309bdba731309bdf74e626137b74e626137974e626137bdba731309bde1ea599ef0f07ad99ef0f07ae67bc3c1eb667bc3c1eb99ef0f07ad99ef0f07ae67bc3c1eb267bc3c1eb56b5a9bc1e01e01eb1ce0e071858e70703a28000180d (λw h5=>[f7 w [4,4] h5,bu w bb (aI+1) h6,bu w (a:=[97]) (b:=[32]) ts (aI+6) (r:=false) rfl,gm w 39 34 97 (m.t 3) ts false rfl,gH w (a:=92) (c:=97) (m.t 4) ts (r:=false) rfl,qr w [0] aU [97] [99] (aI+12) (aI+13) ts,jf w (m.t 2) bb h7,bu w (a:=[97]) (b:=[99]) ts (aI+19) (r:=false) rfl,gm w _ _ _ (m.t 3) bb _ h8,gH w (m.t 4) bb h9,qp w (m.t 1) bb bT,dY w tt bb fH]) [4,4,4,1,1])
theorem Z4 (h8:decide (c4∈[39,34])=false)(h9:decide (c4∈[92])=false)(bT:decide (c4∈lf)=false)(fH:bn.length+[c4].length<=100000):aE w (eN w.P r) p (aA (cp w.P r.F3)) (b4 w.P m r H z k3 E q (some (kv,vv)) (Z [97] ts) ln tl bn tt i ti N J U) (.ok (.again (cp w.P r.F3))) ⟨795,20,795,30⟩ (b4 w.P m r H z k3 E q (some (kv,(Z [c4] bb))) (Z [97] ts) ln tl (bn++[c4]) (cD bn [c4] tt bb (aI+31)) (i+1) dw (aU+2) (aI+(31+cE bn [c4]+1+1)) U):=
 by revert w;exact @(eH 0x6f7b5c5d72e1767b5ee2e1799b5ee2e17450001309bdf74e626137b74e626137bdba731309bdedd398984defba731309bdba731309bdf74e626137b74e626137974e626137bdba731309bde1ea599ef0f07ad99ef0f07ae67bc3c1eb667bc3c1eb99ef0f07ad99ef0f07ae67bc3c1eb267bc3c1eb56b5a9bc1e01e01eb1ce0e071858e70703a28000180d (λw h5=>[f7 w [4,4] h5,bu w bb (aI+1) h6,bu w (a:=[97]) (b:=[32]) ts (aI+6) (r:=false) rfl,gm w 39 34 97 (m.t 3) ts false rfl,gH w (a:=92) (c:=97) (m.t 4) ts (r:=false) rfl,qr w [0] aU [97] [99] (aI+12) (aI+13) ts,jf w (m.t 2) bb h7,bu w (a:=[97]) (b:=[99]) ts (aI+19) (r:=false) rfl,gm w _ _ _ (m.t 3) bb _ h8,gH w (m.t 4) bb h9,qp w (m.t 1) bb bT,gm w _ _ _ (m.t 3) bb _ h8,dY w tt bb fH]) [5,5,5,2,2])
end
theorem Z5 {q:Bool}(h4:iQ w r m.IO m.DI (m.k 19) (m.k 20) (m.k 21) m.tx 996 i i ti dw 3 (J+6) (N+1) aU (J+7) aI U bb m.x [] gv gv):aP w (eN w.P r) p (aA (cp w.P r.F3)) (b4 w.P m r H z k3 E q (some (kv,vv)) (Z [97] ts) ln tl bn tt i ti N J U) (.ok .next) (b4 w.P m r H z k3 E q (some (kv,(Z [] bb))) .none ln tl bn tt i dw (aU+1) (aI+18) U):=
 by revert w;exact @(iA 0x17bdd3134c984de1ea599ef0f07ad99ef0f07ae67bc3c1eb667bc3c1eb99ef0f07ad99ef0f07ae67bc3c1eb267bc3c1eb56b5a9bc1e01e01eb1ce0e071858e70703a28000180d (λw h4=>[By w [4,4] h4,bu w (a:=[]) (b:=[10]) bb (aI+1) (r:=false) rfl,bu w (a:=[97]) (b:=[32]) ts (aI+6) (r:=false) rfl,gm w 39 34 97 (m.t 3) ts false rfl,gH w (a:=92) (c:=97) (m.t 4) ts (r:=false) rfl,qr w [0] aU [97] [99] (aI+12) (aI+13) ts]) [4,4,4,1,1])
section
variable {q:Bool}(h5:iQ w r m.IO m.DI (m.k 19) (m.k 20) (m.k 21) m.tx 996 i (i+1) ti dw 3 (J+6) (N+1) aU (J+7) aI U bb m.x [c4] gv gv)
include h5
theorem Z6 (h6:([c4]==[10])=true)(h7:decide (c4∈[32,9,13,10])=true)(h8:(ah::bn).length<=100000):aP w (eN w.P r) p (aA (cp w.P r.F3)) (b4 w.P m r H z k3 E q (some (kv,vv)) (Z [97] ts) ln tl (ah::bn) tt i ti N J U) (.ok .next) (b4 w.P m r H z k3 E q (some (kv,(Z [c4] bb))) (Z [32] (aI+24)) (ln+1) (aI+4) (ah::bn) tt (i+1) dw (aU+1) (aI+30) U):=
 by revert w;exact @(iA 0x374e626137def74c4d326137974e626137b74e626137bd7a9667bc3c1eb667bc3c1eb99ef0f07ad99ef0f07ae67bc3c1eb667bc3c1eb99ef0f07ac99ef0f07ae7399e1e78f07933de1e0f5ab5ad4de0f00f00f58e707038d58e70703a28000180d (λw h5=>[bZ w (a:=[]) (m.t 7) (by decide),f7 w [4,4] h5,bu w bb (aI+1) h6,bu w (a:=[97]) (b:=[32]) ts (aI+11) (r:=false) rfl,gm w 39 34 97 (m.t 3) ts false rfl,gH w (a:=92) (c:=97) (m.t 4) ts (r:=false) rfl,qr w [0] aU [97] [99] (aI+17) (aI+18) ts,bZ w (a:=[c4]) bb (of_decide_eq_true (by kernel_rfl)),jf w (m.t 2) bb h7,bZ w tt h8]) [4,4,4,1,1])
theorem Z7 (h6:([c4]==[10])=false)(h7:decide (c4∈[32,9,13,10])=true)(h8:(ah::bn).length<=100000):aP w (eN w.P r) p (aA (cp w.P r.F3)) (b4 w.P m r H z k3 E q (some (kv,vv)) (Z [97] ts) ln tl (ah::bn) tt i ti N J U) (.ok .next) (b4 w.P m r H z k3 E q (some (kv,(Z [c4] bb))) (Z [32] (aI+19)) ln tl (ah::bn) tt (i+1) dw (aU+1) (aI+25) U):=
 by revert w;exact @(iA 0x6e9cc4c26fbdee989a64c26f2e9cc4c26f6e9cc4c26f7af52ccf78783d6ccf78783d733de1e0f5b33de1e0f5ccf78783d6ccf78783d733de1e0f5933de1e0f5ab5ad4de0f00f00f58e707038d58e70703a28000180d (λw h5=>[bZ w (a:=[]) (m.t 7) (by decide),f7 w [4,4] h5,bu w bb (aI+1) h6,bu w (a:=[97]) (b:=[32]) ts (aI+6) (r:=false) rfl,gm w 39 34 97 (m.t 3) ts false rfl,gH w (a:=92) (c:=97) (m.t 4) ts (r:=false) rfl,qr w [0] aU [97] [99] (aI+12) (aI+13) ts,bZ w (a:=[c4]) bb (of_decide_eq_true (by kernel_rfl)),jf w (m.t 2) bb h7,bZ w tt h8]) [4,4,4,1,1])
end
section
variable (h5:iQ w r m.IO m.DI (m.k 19) (m.k 20) (m.k 21) m.tx 996 i (i+1) ti dw 3 (J+6) (N+1) aU (J+7) aI U bb m.x [c4] gv gv)
include h5
theorem Z8 (h6:([c4]==[10])=true)(h7:decide (c4∈[32,9,13,10])=true):aP w (eN w.P r) p (aA (cp w.P r.F3)) (b4 w.P m r H z k3 E true (some (kv,vv)) (Z [97] ts) ln tl ([]) tt i ti N J U) (.ok .next) (b4 w.P m r H z k3 E true (some (kv,(Z [c4] bb))) (Z [32] (aI+24)) (ln+1) (aI+4) [] tt (i+1) dw (aU+1) (aI+31) U):=
 by revert w;exact @(iA 0xfba731309bc5d398984df7bdd3134c984de5d398984dedd398984def0f52ccf78783d6ccf78783d733de1e0f5b33de1e0f5ccf78783d6ccf78783d733de1e0f5933de1e0f5ce733c3cf1e0f267bc3c1eb56b5a9bc1e01e01eb1ce0e071858e70703a28000180d (λw h5=>[f7 w [4,4] h5,bu w bb (aI+1) h6,bu w (a:=[97]) (b:=[32]) ts (aI+11) (r:=false) rfl,gm w 39 34 97 (m.t 3) ts false rfl,gH w (a:=92) (c:=97) (m.t 4) ts (r:=false) rfl,qr w [0] aU [97] [99] (aI+17) (aI+18) ts,jf w (m.t 2) bb h7]) [4,4,4,1,1])
theorem Z9 (h6:([c4]==[10])=false)(h7:decide (c4∈[32,9,13,10])=true):aP w (eN w.P r) p (aA (cp w.P r.F3)) (b4 w.P m r H z k3 E true (some (kv,vv)) (Z [97] ts) ln tl ([]) tt i ti N J U) (.ok .next) (b4 w.P m r H z k3 E true (some (kv,(Z [c4] bb))) (Z [32] (aI+19)) ln tl [] tt (i+1) dw (aU+1) (aI+26) U):=
 by revert w;exact @(iA 0x1f74e6261378ba731309bef7ba62699309bcba731309bdba731309bde1ea599ef0f07ad99ef0f07ae67bc3c1eb667bc3c1eb99ef0f07ad99ef0f07ae67bc3c1eb267bc3c1eb56b5a9bc1e01e01eb1ce0e071858e70703a28000180d (λw h5=>[f7 w [4,4] h5,bu w bb (aI+1) h6,bu w (a:=[97]) (b:=[32]) ts (aI+6) (r:=false) rfl,gm w 39 34 97 (m.t 3) ts false rfl,gH w (a:=92) (c:=97) (m.t 4) ts (r:=false) rfl,qr w [0] aU [97] [99] (aI+12) (aI+13) ts,jf w (m.t 2) bb h7]) [4,4,4,1,1])
end
section
variable {q:Bool}(h5:iQ w r m.IO m.DI (m.k 19) (m.k 20) (m.k 21) m.tx 996 i (i+1) ti dw 3 (J+6) (N+1) aU (J+7) aI U bb m.x [c4] gv gv)
include h5
theorem aaA (h6:([c4]==[10])=false)(h7:([c4]==[39])=true):aE w (eN w.P r) p (aA (cp w.P r.F3)) (b4 w.P m r H z k3 E q (some (kv,vv)) (Z [39] ts) ln tl bn tt i ti N J U) (.ok (.again (cp w.P r.F3))) ⟨745,24,745,34⟩ (b4 w.P m r H z k3 E true (some (kv,(Z [c4] bb))) (Z [97] (aI+14)) ln tl bn tt (i+1) dw aU (aI+17) U):=
 by revert w;exact @(eH 0x139ccf0f3c783d733de1e0f5b33de1e0f5ac2d6b667bc3c1eb99ef0f07ad99ef0f07ae67bc3c1eb267bc3c1eb56b5a9bc1e01e01eb1ce0e071858e70703a28000180d (λw h5=>[f7 w [4,4] h5,bu w bb (aI+1) h6,bu w (a:=[39]) (b:=[32]) ts (aI+6) (r:=false) rfl,gm w 39 34 39 (m.t 3) ts true rfl,bu w bb ts h7]) [3,3,3,0,0])
theorem aaB (h6:([c4]==[10])=false)(h7:([c4]==[39])=false)(h8:decide (c4∈[92])=true)(h9:bn.length+[c4].length<=100000):aE w (eN w.P r) p (aA (cp w.P r.F3)) (b4 w.P m r H z k3 E q (some (kv,vv)) (Z [39] ts) ln tl bn tt i ti N J U) (.ok (.again (cp w.P r.F3))) vA (b4 w.P m r H z k3 E true (some (kv,(Z [c4] bb))) (Z [39] ts) ln tl (bn++[c4]) (cD bn [c4] tt bb (aI+18)) (i+1) dw aU (aI+(18+cE bn [c4]+1+1)) U):=
 by revert w;exact @(eH 0x9ce67879e3c1eae67bc3c1eb667bc3c1eb99ef0f07ad99ef0f07ad733de1e0f5b33de1e0f5ac2d6b667bc3c1eb99ef0f07ad99ef0f07ae67bc3c1eb267bc3c1eb56b5a9bc1e01e01eb1ce0e071858e70703a28000180d (λw h5=>[f7 w [4,4] h5,bu w bb (aI+1) h6,bu w (a:=[39]) (b:=[32]) ts (aI+6) (r:=false) rfl,gm w 39 34 39 (m.t 3) ts true rfl,bu w bb ts h7,gH w (m.t 4) bb h8,gH w (a:=34) (c:=39) (m.t 5) ts (r:=false) rfl,dY w tt bb h9]) [3,3,3,0,0])
theorem aaC (h6:([c4]==[10])=true)(h7:([c4]==[39])=false)(h8:decide (c4∈[92])=false)(h9:bn.length+[c4].length<=100000):aE w (eN w.P r) p (aA (cp w.P r.F3)) (b4 w.P m r H z k3 E q (some (kv,vv)) (Z [39] ts) ln tl bn tt i ti N J U) (.ok (.again (cp w.P r.F3))) vA (b4 w.P m r H z k3 E true (some (kv,(Z [c4] bb))) (Z [39] ts) (ln+1) (aI+4) (bn++[c4]) (cD bn [c4] tt bb (aI+21)) (i+1) dw aU (aI+(21+cE bn [c4]+1+1)) U):=
 by revert w;exact @(eH 0x139ccf0f3c783d5ccf78783d6ccf78783d6b99ef0f07ad99ef0f07ad616b5b33de1e0f5ccf78783d6ccf78783d733de1e0f5933de1e0f5ce733c3cf1e0f267bc3c1eb56b5a9bc1e01e01eb1ce0e071858e70703a28000180d (λw h5=>[f7 w [4,4] h5,bu w bb (aI+1) h6,bu w (a:=[39]) (b:=[32]) ts (aI+11) (r:=false) rfl,gm w 39 34 39 (m.t 3) ts true rfl,bu w bb ts h7,gH w (m.t 4) bb h8,dY w tt bb h9]) [3,3,3,0,0])
theorem aaD (h6:([c4]==[10])=false)(h7:([c4]==[39])=false)(h8:decide (c4∈[92])=false)(h9:bn.length+[c4].length<=100000):aE w (eN w.P r) p (aA (cp w.P r.F3)) (b4 w.P m r H z k3 E q (some (kv,vv)) (Z [39] ts) ln tl bn tt i ti N J U) (.ok (.again (cp w.P r.F3))) vA (b4 w.P m r H z k3 E true (some (kv,(Z [c4] bb))) (Z [39] ts) ln tl (bn++[c4]) (cD bn [c4] tt bb (aI+16)) (i+1) dw aU (aI+(16+cE bn [c4]+1+1)) U):=
 by revert w;exact @(eH 0x27399e1e78f07ab99ef0f07ad99ef0f07ad733de1e0f5b33de1e0f5ac2d6b667bc3c1eb99ef0f07ad99ef0f07ae67bc3c1eb267bc3c1eb56b5a9bc1e01e01eb1ce0e071858e70703a28000180d (λw h5=>[f7 w [4,4] h5,bu w bb (aI+1) h6,bu w (a:=[39]) (b:=[32]) ts (aI+6) (r:=false) rfl,gm w 39 34 39 (m.t 3) ts true rfl,bu w bb ts h7,gH w (m.t 4) bb h8,dY w tt bb h9]) [3,3,3,0,0])
theorem aaE (h6:([c4]==[10])=false)(h7:([c4]==[34])=true):aE w (eN w.P r) p (aA (cp w.P r.F3)) (b4 w.P m r H z k3 E q (some (kv,vv)) (Z [34] ts) ln tl bn tt i ti N J U) (.ok (.again (cp w.P r.F3))) ⟨745,24,745,34⟩ (b4 w.P m r H z k3 E true (some (kv,(Z [c4] bb))) (Z [97] (aI+14)) ln tl bn tt (i+1) dw aU (aI+17) U):=
 by revert w;exact @(eH 0x139ccf0f3c783d733de1e0f5b33de1e0f5ac2d6b667bc3c1eb99ef0f07ad99ef0f07ae67bc3c1eb267bc3c1eb56b5a9bc1e01e01eb1ce0e071858e70703a28000180d (λw h5=>[f7 w [4,4] h5,bu w bb (aI+1) h6,bu w (a:=[34]) (b:=[32]) ts (aI+6) (r:=false) rfl,gm w 39 34 34 (m.t 3) ts true rfl,bu w bb ts h7]) [3,3,3,0,0])
theorem aaF (h6:([c4]==[10])=true)(h7:([c4]==[34])=false)(h8:decide (c4∈[92])=false)(h9:bn.length+[c4].length<=100000):aE w (eN w.P r) p (aA (cp w.P r.F3)) (b4 w.P m r H z k3 E q (some (kv,vv)) (Z [34] ts) ln tl bn tt i ti N J U) (.ok (.again (cp w.P r.F3))) vA (b4 w.P m r H z k3 E true (some (kv,(Z [c4] bb))) (Z [34] ts) (ln+1) (aI+4) (bn++[c4]) (cD bn [c4] tt bb (aI+21)) (i+1) dw aU (aI+(21+cE bn [c4]+1+1)) U):=
 by revert w;exact @(eH 0x139ccf0f3c783d5ccf78783d6ccf78783d6b99ef0f07ad99ef0f07ad616b5b33de1e0f5ccf78783d6ccf78783d733de1e0f5933de1e0f5ce733c3cf1e0f267bc3c1eb56b5a9bc1e01e01eb1ce0e071858e70703a28000180d (λw h5=>[f7 w [4,4] h5,bu w bb (aI+1) h6,bu w (a:=[34]) (b:=[32]) ts (aI+11) (r:=false) rfl,gm w 39 34 34 (m.t 3) ts true rfl,bu w bb ts h7,gH w (m.t 4) bb h8,dY w tt bb h9]) [3,3,3,0,0])
theorem aaG (h6:([c4]==[10])=false)(h7:([c4]==[34])=false)(h8:decide (c4∈[92])=false)(h9:bn.length+[c4].length<=100000):aE w (eN w.P r) p (aA (cp w.P r.F3)) (b4 w.P m r H z k3 E q (some (kv,vv)) (Z [34] ts) ln tl bn tt i ti N J U) (.ok (.again (cp w.P r.F3))) vA (b4 w.P m r H z k3 E true (some (kv,(Z [c4] bb))) (Z [34] ts) ln tl (bn++[c4]) (cD bn [c4] tt bb (aI+16)) (i+1) dw aU (aI+(16+cE bn [c4]+1+1)) U):=
 by revert w;exact @(eH 0x27399e1e78f07ab99ef0f07ad99ef0f07ad733de1e0f5b33de1e0f5ac2d6b667bc3c1eb99ef0f07ad99ef0f07ae67bc3c1eb267bc3c1eb56b5a9bc1e01e01eb1ce0e071858e70703a28000180d (λw h5=>[f7 w [4,4] h5,bu w bb (aI+1) h6,bu w (a:=[34]) (b:=[32]) ts (aI+6) (r:=false) rfl,gm w 39 34 34 (m.t 3) ts true rfl,bu w bb ts h7,gH w (m.t 4) bb h8,dY w tt bb h9]) [3,3,3,0,0])
end
end
theorem aaH (hA:962<=A)(hl:x.length<=100000)(h:x[i]? =some c):∃am:Nat×Nat×Nat×Nat,962<=am.2.1/\iQ w r A D H z k3 t tn i (i+1) ti am.1 e t1 N am.2.1 J am.2.2.1 U am.2.2.2 x [c] p q9:=by
 by_cases hN:962<=N
 ·obtain⟨A,rfl⟩:∃B,A=B+962:=⟨A-962,by lia⟩
  obtain⟨N,rfl⟩:∃B,N=B+962:=⟨N-962,by lia⟩
  have hi:i<x.length:=(mf.mp h).1
  have h1:decide (O i≥O x.length)=false:=decide_eq_false (by show¬((i:Int)≥x.length);lia)
  by_cases h2:i+1<x.length
  ·exact da (_,_,_,_) (o3 (Nr _ _)) (by delta iQ;rw [aT];exact ZM hl h1 (decide_eq_true (by show((i+1:Nat):Int)<x.length;lia)) h)
  ·have e:x.length=i+1:=by lia
   exact da (_,_,_,_) (o3 (Nr _ _)) (by delta iQ;rw [aT,<-e];exact ZN hl h1 (decide_eq_false (by show¬((i+1:Nat):Int)<x.length;lia)) h (by show((x.length:Nat):Int)=(i:Int)+1;lia))
 ·exact da (0,962,0,0) (b7 _) (by delta iQ;exact aK.big λh=>absurd h hN)
theorem LX (hA:962<=A)(hl:x.length<=100000)(h:x.length<=i):∃am:Nat×Nat×Nat×Nat,962<=am.2.1/\iQ w r A D H z k3 t tn i i ti am.1 e t1 N am.2.1 J am.2.2.1 U am.2.2.2 x [] p q9:=by
 by_cases hN:962<=N
 ·obtain⟨A,rfl⟩:∃B,A=B+962:=⟨A-962,by lia⟩
  obtain⟨N,rfl⟩:∃B,N=B+962:=⟨N-962,by lia⟩
  exact da (_,_,_,_) (o3 (Nr _ _)) (by delta iQ;rw [aT];exact ZL hl (decide_eq_true (by show((i:Int)≥x.length);lia)))
 ·exact da (0,962,0,0) (b7 _) (by delta iQ;exact aK.big λh=>absurd h hN)
noncomputable def stN (s:Nat):Nat:=if s=0 then 32 else if s=1 then 97 else s
inductive Bz (w:WB) (m:d8) (r:Rx) (H z k3 E U:Nat) (p:aw) (C:aC) (o:Option d) (r':d) (e:Bool):Prop
 |mk (q:Bool) (kv:Nat) (vv st:ay) (ln tl tt i ti N J:Nat) (h:aP w (eN w.P r) p (aA (cp w.P r.F3)) C (.ok .next) (b4 w.P m r H z k3 E q (some (kv,vv)) st ln tl (o.getD []) tt i ti N J U))
  (h1:o=none->q=false) (h2:∀t,o=some t->t≠[]\/q=true) (h3:st= .none\/e=false/\∃ts,st=Z [32] ts) (h4:m.x.drop i=r') (h5:st= .none->e=true) (h6:962<=N):Bz w m r H z k3 E U p C o r' e
theorem LY (c:Nat):decide (c∈[32,9,13,10])=(lc c||c==13):=by
 delta lc
 rw [r6]
 simp only [decide_eq_true_eq,gr,List.not_mem_nil,or_false,xP,beq_iff_eq,or_assoc]
 exact⟨λh=>h.imp_right λh=>h.imp_right Or.symm,λh=>h.imp_right λh=>h.imp_right Or.symm⟩
theorem aaI {m:d8}(rQ:962<=m.IO)(hx:m.x.length<=10000):∀(rest:d) {s:Nat} {bn:d} {q:Bool} {v:Option (Nat×ay)} {ts ln tl tt i ti N J:Nat} {p:aw} {o:Option d} {r':d} {e:Bool},m.x.drop i=rest->cI rest s bn q=some (o,r',e)->(s=0\/s=1\/s=39\/s=34)->(s=0->bn=[]/\q=false)->(s=1->bn≠[]\/q=true)->(v=none->s=0)->bn.length<=i-> Bz w m r H z k3 E U p (b4 w.P m r H z k3 E q v (Z [stN s] ts) ln tl bn tt i ti N J U) o r' e:=by
 intro rest
 induction rest with
 |nil=>
  intro s bn q v ts ln tl tt i ti N J p o r' e hd ho hs h0 h1 hv hk
  have hi:m.x.length<=i:=by
   have:=congrArg dn hd
   rw [na]at this
   have h2:([]:d).length=0:=rfl
   lia
  refine bX (LX (w:=w) (r:=r) (D:=m.DI) (H:=m.k 19) (z:=m.k 20) (k3:=m.k 21) (t:=m.tx) (tn:=996) (ti:=ti) (e:=3) (t1:=J+6) (N:=N+1) (J:=J+7) (U:=U) (p:=gv) (q9:=gv) rQ (by lia) hi) λam hz hr=> ?_
  rcases hs with rfl|rfl|rfl|rfl
  ·obtain⟨rfl,rfl⟩:=h0 rfl
   cases ho
   rcases v with _|⟨kv,vv⟩
   ·exact .mk _ _ _ _ _ _ _ _ _ _ _ (ZU hr) (λ_=>rfl) (λt ht=>by cases ht) (.inl rfl) hd (λ_=>rfl) hz
   ·exact .mk _ _ _ _ _ _ _ _ _ _ _ (Z0 hr) (λ_=>rfl) (λt ht=>by cases ht) (.inl rfl) hd (λ_=>rfl) hz
  ·cases ho
   rcases v with _|⟨kv,vv⟩
   ·exact absurd (hv rfl) (by decide)
   ·exact .mk _ _ _ _ _ _ _ _ _ _ _ (Z5 hr) (λh=>by cases h) (λt ht=>by cases ht;exact h1 rfl) (.inl rfl) hd (λ_=>rfl) (o3 hz)
  ·cases ho
  ·cases ho
 |cons c rest aS=>
  intro s bn q v ts ln tl tt i ti N J p o r' e hd ho hs h0 h1 hv hk
  have hc:m.x[i]? =some c:=by
   have:=BQ (xs:=m.x) (i:=i) (j:=0)
   rw [hd,Gx]at this
   exact this.symm
  have bw:i<m.x.length:=(mf.mp hc).1
  have xw:m.x.drop (i+1)=rest:=by rw [<-List.tail_drop,hd];rfl
  obtain⟨am,hz,hr⟩:=aaH rQ c5 hc
  have go:∀{s':Nat} {tok':d} {q':Bool} {v':Nat×ay} {ts' ln' tl' c8 ti' N' au:Nat} {p':aw},cI rest s' tok' q'=some (o,r',e)->(s'=0\/s'=1\/s'=39\/s'=34)->(s'=0->tok'=[]/\q'=false)->(s'=1->tok'≠[]\/q'=true)->tok'.length<=i+1->
    aE w (eN w.P r) p (aA (cp w.P r.F3)) (b4 w.P m r H z k3 E q v (Z [stN s] ts) ln tl bn tt i ti N J U) (.ok (.again (cp w.P r.F3))) p' (b4 w.P m r H z k3 E q' (some v') (Z [stN s'] ts') ln' tl' tok' c8 (i+1) ti' N' au U)->
    Bz w m r H z k3 E U p (b4 w.P m r H z k3 E q v (Z [stN s] ts) ln tl bn tt i ti N J U) o r' e:=λ{s' tok' q' v' ts' ln' tl' c8 ti' N' au p'} g1 g2 g3 g4 g5 g=>by
   obtain⟨q,kv,vv,st,ln,tl,tt,i,ti,N,J,h,e1,e2,e3,e4,e5,e6⟩:=aS (v:=some v') (ts:=ts') (ln:=ln') (tl:=tl') (tt:=c8) xw g1 g2 g3 g4 (λh=>by cases h) g5
   exact .mk q kv vv st ln tl tt i ti N J (ax.turn (aT w) rfl (by kernel_rfl) g h) e1 e2 e3 e4 e5 e6
  have LZ:∀{ah:Nat},cF ah=true->decide (ah∈[32,9,13,10])=false/\decide (ah∈[92])=false/\decide (ah∈[39,34])=false/\(([ah]:d)==[10])=false:=λh=>by
   rcases LF h with rfl|rfl|rfl<;>decide
  have qq:∀{ah:Nat},ah=39\/ah=34->decide (ah∈[32,9,13,10])=false/\decide (ah∈[92])=false/\decide (ah∈lf)=false/\decide (ah∈[39,34])=true/\(([ah]:d)==[10])=false/\stN ah=ah:=λh=>by
   rcases h with rfl|rfl<;>decide
  rcases hs with rfl|rfl|rfl|rfl
  ·obtain⟨rfl,rfl⟩:=h0 rfl
   have ho:(if lc c then cI rest 0 [] false else if c=39\/c=34 then cI rest c [] false else if cF c then cI rest 1 [c] false else none)=some (o,r',e):=ho
   by_cases hw:lc c=true
   ·rw [if_pos hw]at ho
    have hm:decide (c∈[32,9,13,10])=true:=by rw [LY,hw];rfl
    by_cases bT:([c]==[10])=true
    ·rcases v with _|⟨kv,vv⟩
     ·exact go ho (.inl rfl) (λ_=>pe) (λh=>by cases h) kf (ZP hr bT hm)
     ·exact go ho (.inl rfl) (λ_=>pe) (λh=>by cases h) kf (ZV hr bT hm)
    ·have bT:=GE.mpr bT
     rcases v with _|⟨kv,vv⟩
     ·exact go ho (.inl rfl) (λ_=>pe) (λh=>by cases h) kf (ZQ hr bT hm)
     ·exact go ho (.inl rfl) (λ_=>pe) (λh=>by cases h) kf (ZW hr bT hm)
   ·rw [if_neg hw]at ho
    by_cases hq:c=39\/c=34
    ·rw [if_pos hq]at ho
     refine se (qq hq) λa1 a2 a3 a4 a5 a6=> ?_
     have g:=λ{v' ts' ln' tl' c8 ti' N' au p'}=>go (v':=v') (ts':=ts') (ln':=ln') (tl':=tl') (c8:=c8) (ti':=ti') (N':=N') (au:=au) (p':=p') ho (.inr (.inr hq)) (λ_=>pe) (λh=>by lia) (by simp)
     rw [a6]at g
     rcases v with _|⟨kv,vv⟩
     ·exact g (ZS hr a5 a1 a2 a3 a4)
     ·exact g (ZY hr a5 a1 a2 a3 a4)
    ·rw [if_neg hq]at ho
     by_cases nv:cF c=true
     ·rw [if_pos nv]at ho
      refine mo (LZ nv) λa1 a2 a3 a4=> ?_
      have g:=λ{v' ts' ln' tl' c8 ti' N' au p'}=>go (v':=v') (ts':=ts') (ln':=ln') (tl':=tl') (c8:=c8) (ti':=ti') (N':=N') (au:=au) (p':=p') ho (.inr (.inl rfl)) (λh=>by cases h) (λ_=> .inl (by simp)) (by simp)
      cases rR:decide (c∈lf)with
      |true=>
       rcases v with _|⟨kv,vv⟩
       ·exact g (ZR hr a4 a1 a2 rR)
       ·exact g (ZX hr a4 a1 a2 rR)
      |false=>
       rcases v with _|⟨kv,vv⟩
       ·exact g (ZT hr a4 a1 a2 rR a3)
       ·exact g (ZZ hr a4 a1 a2 rR a3)
     ·rw [if_neg nv]at ho;cases ho
  ·have ho:(if lc c then some (some bn,rest,false)else if c=39\/c=34 then cI rest c bn q else if cF c then cI rest 1 (bn++[c]) q else none)=some (o,r',e):=ho
   rcases v with _|⟨kv,vv⟩
   ·exact absurd (hv rfl) (by decide)
   by_cases hw:lc c=true
   ·rw [if_pos hw]at ho
    cases ho
    have hm:decide (c∈[32,9,13,10])=true:=by rw [LY,hw];rfl
    rcases bn with _|⟨ah,bn⟩
    ·have hq:q=true:=(h1 rfl).resolve_left λh=>h rfl
     subst hq
     by_cases bT:([c]==[10])=true
     ·exact .mk _ _ _ _ _ _ _ _ _ _ _ (Z8 hr bT hm) (λh=>by cases h) (λt ht=> .inr rfl) (.inr ⟨rfl,_,rfl⟩) xw (λh=>by cases h) (o3 hz)
     ·exact .mk _ _ _ _ _ _ _ _ _ _ _ (Z9 hr (GE.mpr bT) hm) (λh=>by cases h) (λt ht=> .inr rfl) (.inr ⟨rfl,_,rfl⟩) xw (λh=>by cases h) (o3 hz)
    ·have hl:(ah::bn).length<=100000:=by lia
     by_cases bT:([c]==[10])=true
     ·exact .mk _ _ _ _ _ _ _ _ _ _ _ (Z6 hr bT hm hl) (λh=>by cases h) (λt ht=>by cases ht;exact .inl (by simp)) (.inr ⟨rfl,_,rfl⟩) xw (λh=>by cases h) (o3 hz)
     ·exact .mk _ _ _ _ _ _ _ _ _ _ _ (Z7 hr (GE.mpr bT) hm hl) (λh=>by cases h) (λt ht=>by cases ht;exact .inl (by simp)) (.inr ⟨rfl,_,rfl⟩) xw (λh=>by cases h) (o3 hz)
   ·rw [if_neg hw]at ho
    by_cases hq:c=39\/c=34
    ·rw [if_pos hq]at ho
     refine se (qq hq) λa1 a2 a3 a4 a5 a6=> ?_
     have g:=λ{v' ts' ln' tl' c8 ti' N' au p'}=>go (v':=v') (ts':=ts') (ln':=ln') (tl':=tl') (c8:=c8) (ti':=ti') (N':=N') (au:=au) (p':=p') ho (.inr (.inr hq)) (λh=>by lia) (λh=>by lia) kf
     rw [a6]at g
     exact g (Z2 hr a5 a1 a4)
    ·rw [if_neg hq]at ho
     by_cases nv:cF c=true
     ·rw [if_pos nv]at ho
      refine mo (LZ nv) λa1 a2 a3 a4=> ?_
      have g:=λ{v' ts' ln' tl' c8 ti' N' au p'}=>go (v':=v') (ts':=ts') (ln':=ln') (tl':=tl') (c8:=c8) (ti':=ti') (N':=N') (au:=au) (p':=p') ho (.inr (.inl rfl)) (λh=>by cases h) (λ_=> .inl (by simp)) (by simp;lia)
      have hl:bn.length+[c].length<=100000:=by simp;lia
      cases rR:decide (c∈lf)with
      |true=>exact g (Z3 hr a4 a1 a3 a2 rR hl)
      |false=>exact g (Z4 hr a4 a1 a3 a2 rR hl)
     ·rw [if_neg nv]at ho;cases ho
  ·have ho:(if c=39 then cI rest 1 bn true else if(39:Nat)=34/\c=92 then none else cI rest 39 (bn++[c]) true)=some (o,r',e):=ho
   rcases v with _|⟨kv,vv⟩
   ·exact absurd (hv rfl) (by decide)
   by_cases xx:c=39
   ·rw [if_pos xx]at ho
    exact go ho (.inr (.inl rfl)) (λh=>by cases h) (λ_=> .inr rfl) kf (aaA hr (by subst xx;rfl) (by subst xx;rfl))
   ·rw [if_neg xx,if_neg (by lia)]at ho
    have g:=λ{v' ts' ln' tl' c8 ti' N' au p'}=>go (v':=v') (ts':=ts') (ln':=ln') (tl':=tl') (c8:=c8) (ti':=ti') (N':=N') (au:=au) (p':=p') ho (.inr (.inr (.inl rfl))) (λh=>by cases h) (λh=>by cases h) (by simp;lia)
    have hl:bn.length+[c].length<=100000:=by simp;lia
    have Fk:([c]==[39])=false:=by simp [xx]
    by_cases bT:c=10
    ·exact g (aaC hr (by subst bT;rfl) Fk (by subst bT;rfl) hl)
    ·have L0:([c]==[10])=false:=by simp [bT]
     by_cases uT:c=92
     ·exact g (aaB hr L0 Fk (by subst uT;rfl) hl)
     ·exact g (aaD hr L0 Fk (by simp [uT]) hl)
  ·have ho:(if c=34 then cI rest 1 bn true else if(34:Nat)=34/\c=92 then none else cI rest 34 (bn++[c]) true)=some (o,r',e):=ho
   rcases v with _|⟨kv,vv⟩
   ·exact absurd (hv rfl) (by decide)
   by_cases hM:c=34
   ·rw [if_pos hM]at ho
    exact go ho (.inr (.inl rfl)) (λh=>by cases h) (λ_=> .inr rfl) kf (aaE hr (by subst hM;rfl) (by subst hM;rfl))
   ·rw [if_neg hM]at ho
    by_cases uT:c=92
    ·rw [if_pos ⟨rfl,uT⟩]at ho;cases ho
    rw [if_neg λh=>uT h.2]at ho
    have g:=λ{v' ts' ln' tl' c8 ti' N' au p'}=>go (s':=34) (tok':=bn++[c]) (q':=true) (v':=v') (ts':=ts') (ln':=ln') (tl':=tl') (c8:=c8) (ti':=ti') (N':=N') (au:=au) (p':=p') ho (.inr (.inr (.inr rfl))) (λh=>by cases h) (λh=>by cases h) (by simp;lia)
    have hl:bn.length+[c].length<=100000:=by simp;lia
    have L3:([c]==[34])=false:=by simp [hM]
    by_cases bT:c=10
    ·exact g (aaF hr (by subst bT;rfl) L3 (by subst bT;rfl) hl)
    ·exact g (aaG hr (by simp [bT]) L3 (by simp [uT]) hl)
noncomputable def aaJ (P:aF)(A L F K F1 F2 F3:Nat)(q1 G q3 q5 q6 q7 q8:aw):bd:=⟨cp P F3,none,none,dB P 866 F3 q8 (dB P 859 F2 q7 (dB P 895 F1 q6 ((l7 A L,q5)::uM P A L F K q3 q1 G))),none⟩
noncomputable def L5 (P:aF)(m:d8)(L F3 H z k3 E:Nat)(q:Bool)(v:Option (Nat×ay))(st:ay)(ln tl:Nat)(bn:d)(tt i ti N J U:Nat):aC:=⟨[(F3,LW P L H z k3 E q v),(L,d7 m.D),(m.D,mb P m st ln tl bn tt),(m.IO,ib m.DI),(m.DI,m.io P i ti)],[],N,J,[],U⟩
def kH (w:WB)(m:d8)(A L F K F1 F2 F3:Nat)(q1 G q3 q5 q6 q7 q8:aw)(H z k3 E ln tl tt i ti N J U:Nat)(st:ay)(q':Bool)(kv:Nat)(vv eI:ay)(ln' tl':Nat)(tok':d)(c8 i' ti' N' au:Nat)(p:aw):Prop:=
 aP w (aaJ w.P A L F K F1 F2 F3 q1 G q3 q5 q6 q7 q8) p ((VV w).M.den (cp w.P F3)) (L5 w.P m L F3 H z k3 E false none st ln tl [] tt i ti N J U) (.ok .next) (L5 w.P m L F3 H z k3 E q' (some (kv,vv)) eI ln' tl' tok' c8 i' ti' N' au U)
noncomputable def Fl (w:WB)(aH:d){m:d8}{A L F K F1 F2 F3:Nat}{q1 G q3 q5 q6 q7 q8:aw}{H z k3 E ln tl tt i ti N J U:Nat}{st:ay}{q':Bool}{kv:Nat}{vv eI:ay}{ln' tl':Nat}{tok':d}{c8 i' ti' N' au:Nat}{p:aw}(h:kH w m A L F K F1 F2 F3 q1 G q3 q5 q6 q7 q8 H z k3 E ln tl tt i ti N J U st q' kv vv eI ln' tl' tok' c8 i' ti' N' au p):aM w:= .fn _ _ aH [] [] _ _ _ h
noncomputable def aaK (w:WB)(aH:d){m:d8}{A L F K F1 F2 F3:Nat}{q1 G q3 q5 q6 q7 q8:aw}{H z k3 E ln tl tt i ti N J U:Nat}{st:ay}{kv:Nat}{vv eI:ay}{ln' tl':Nat}{tok':d}{c8 i' ti' N' au:Nat}{p:aw}(h:kH w m A L F K F1 F2 F3 q1 G q3 q5 q6 q7 q8 H z k3 E ln tl tt i ti N J U st true kv vv eI ln' tl' tok' c8 i' ti' N' au p):aM w:=Fl w aH h
noncomputable def aaL (w:WB)(aH:d){m:d8}{A L F K F1 F2 F3:Nat}{q1 G q3 q5 q6 q7 q8:aw}{H z k3 E ln tl tt i ti N J U:Nat}{st:ay}{kv:Nat}{vv eI:ay}{ln' tl':Nat}{ah:Nat}{tok':d}{c8 i' ti' N' au:Nat}{p:aw}(h:kH w m A L F K F1 F2 F3 q1 G q3 q5 q6 q7 q8 H z k3 E ln tl tt i ti N J U st false kv vv eI ln' tl' (ah::tok') c8 i' ti' N' au p):aM w:=Fl w aH h
noncomputable def aaM (w:WB)(aH:d){m:d8}{A L F K F1 F2 F3:Nat}{q1 G q3 q5 q6 q7 q8:aw}{H z k3 E ln tl tt i ti N J U:Nat}{st:ay}{kv:Nat}{vv eI:ay}{ln' tl':Nat}{c8 i' ti' N' au:Nat}{p:aw}(h:kH w m A L F K F1 F2 F3 q1 G q3 q5 q6 q7 q8 H z k3 E ln tl tt i ti N J U st false kv vv eI ln' tl' [] c8 i' ti' (N'+962) au p):aM w:=Fl w aH h
noncomputable def rS (P:aF)(A L F K:Nat)(q3 q1 G:aw):bd:=⟨l7 (A+962) (L+962),none,none,uM P (A+962) (L+962) F K q3 q1 G,none⟩
noncomputable def BA (P:aF)(m:d8)(L:Nat)(st:ay)(ln tl tt i ti N J U:Nat):aC:=⟨[(L+962,d7 m.D),(m.D,mb P m st ln tl [] tt),(m.IO,ib m.DI),(m.DI,m.io P i ti),(m.PB,ic),(m.FS,ic)],[],N,J,[],U⟩
theorem aaN {m:d8}{F:Nat}{st:ay}{L6:d}{L7:Nat}{L8:Nat}{L9:Nat}(fH:kH w m (A+962) (L+962) F K (N+962) (N+962+1) (N+962+2) q1 G q3 p ol om jm (J+5) (J+6) (J+8) (J+7) ln tl tt i ti (N+962+3) (J+9) U st true pJ CM tM qT qU L6 L7 L8 L9 mz aV jm):aE w (rS w.P A L F K q3 q1 G) p (dP (.ref (L+962))) (BA w.P m L st ln tl tt i ti (N+962) J U) (.ok (dv (Z L6 L7))) p (BA w.P m L tM qT qU (aV+2) L8 L9 mz (aV+15) U):=
 by revert w;exact @(eH 0x17038630301def7bcc38630301cc0e18c0c07398e18c0c0739cd0e18c0c06a70c606034e73860618301aa70c6060355514167038383b75d75eeb1ce0e0745038c0606068a01 (λw fH=>[aaK w [0,2,2,2,2] fH]) [1,1,1,1,3,3])
theorem aaO {m:d8}{F:Nat}{st:ay}{d5:Nat}{Fn:d}{Fo:Nat}{Ma:Nat}(bQ:kH w m (A+962) (L+962) F K (N+962) (N+962+1) (N+962+2) q1 G q3 p ol om jm (J+5) (J+6) (J+8) (J+7) ln tl tt i ti (N+962+3) (J+9) U st false pJ CM tM qT qU (d5::Fn) Fo Ma sT fy iB jm):aE w (rS w.P A L F K q3 q1 G) p (dP (.ref (L+962))) (BA w.P m L st ln tl tt i ti (N+962) J U) (.ok (dv (Z (d5::Fn) Fo))) p (BA w.P m L tM qT qU (iB+2) Ma sT fy (iB+16) U):=
 by revert w;exact @(eH 0x17038630301def7bcc38630301cc0e18c0c07398e18c0c0739cd0e18c0c06aa70c606034e73860618301aa70c6060355514167038383b75d75eeb1ce0e0745038c0606068a01 (λw bQ=>[aaL w [0,2,2,2,2] bQ,bu w (a:=d5::Fn) (b:=[]) Fo (iB+6) (r:=false) rfl]) [1,1,1,1,3,3])
noncomputable def rT (F1:Nat)(fl:ay):az:=rec "traceback" [.none,.ref F1,.none,fl,.none,.int 835 0,.int 835 0,.int 12 0,.int 31 0,Z [108,105,115,116,46,101,120,116,101,110,100,46,108,111,111,112,10,116,121,112,101,46,95,95,99,97,108,108,95,95,10,99,108,97,105,109,46,99,97,108,108,101,114] 0,.bool false]
noncomputable def jZ (aj:Nat)(tb:ay):az:=rec "StopIteration" [.ref (aj+1),tb,.none,.none,.bool false,.none]
noncomputable def qs (P:aF)(F1:Nat):Env:=eQ P 895 F1 []
noncomputable def gq (P:aF)(A L F K F1:Nat)(q5 q3 q1 G:aw):bd:=⟨.func (cw P 895) (qs P F1),none,none,(l7 A L,q5)::uM P A L F K q3 q1 G,none⟩
noncomputable def nxS (P:aF)(m:d8)(L F1 H:Nat)(st:ay)(ln tl tt i ti N J U:Nat):aC:=⟨[(F1,bz [de P gf H (.ref L)] 1),(L,d7 m.D),(m.D,mb P m st ln tl [] tt),(m.IO,ib m.DI),(m.DI,m.io P i ti),(m.PB,ic),(m.FS,ic)],[],N,J,[],U⟩
noncomputable def nxS' (P:aF)(m:d8)(L F1 H kt:Nat)(st:ay)(ln tl tt i ti aj N J U:Nat):aC:=⟨[(aj,jZ aj .none),(aj+1,aG []),(F1,bz [de P gf H (.ref L),de P [116,111,107,101,110] kt .none] 2),(L,d7 m.D),(m.D,mb P m st ln tl [] tt),(m.IO,ib m.DI),(m.DI,m.io P i ti),(m.PB,ic),(m.FS,ic)],[],N,J,[],U⟩
noncomputable def aaP (P:aF)(F:Nat):Env:=eQ P 910 F []
noncomputable def xy (P:aF)(F1 F K:Nat):List Env:=[qs P F1,aaP P F,i5 P K]
noncomputable def d9 (l:List ir)(e:Nat)(sl:List (Option ay)):az:={cls:= .type "frame",data:= .dict ⟨l⟩ e,slots:=⟨sl⟩}
noncomputable def Fp:List String:=["list.extend.loop","type.__call__","claim.caller"]
noncomputable def Mb:LV:=[ft 835,ft 835,ft 12,ft 31]++[if(EntryCells.make Fp).length>sizeLine then .none else .str (EntryCells.make Fp) 0,.bool false]
theorem aaQ {m:d8}{F:Nat}{st:ay}(bT:kH w m (A+962) (L+962) F K (F1+962) (N+962) (N+962+1) q1 G q3 q5 ol om jm (J+4) (J+5) (J+7) (J+6) ln tl tt i ti (N+962+2) (J+8) U st false pJ CM tM qT qU [] CI CJ CK (kl+962) iX jm):aE w (gq w.P (A+962) (L+962) F K (F1+962) q5 q3 q1 G) p (lk (cw w.P 895) (qs w.P (F1+962))) (nxS w.P m (L+962) (F1+962) H st ln tl tt i ti (N+962) J U) (.err (.ref (kl+962+1))) jM (nxS' w.P m (L+962) (F1+962) H (iX+17) tM qT qU (iX+2) CJ CK (kl+963) (kl+962+3) (iX+19) U):=
 by revert w;exact @(eH 0x1818c6318c6318c52801c318180ef7bdce18c0c0734fc9f93f27e9f9c318180e61c318180e731c318180e739a1c318180d554e18c0c069ce70c0c3060354e18c0c06aaa282ce0707076ebaebdd639c1c0e8a07180c0c0d (λw bT=>[aaM w [0,2,2,2,2] bT,bu w (a:=[]) (b:=[]) CI (iX+6) (r:=true) rfl]) [1,0,7,2,2,2,2,3,3])
theorem aaR {F:Nat}:aE w (gq w.P (A+962) (L+962) F K F1 q5 q3 q1 G) p (Fast.tw10665104254819526710 (xy w.P F1 F K)) ⟨[(F1,bz l1 n1),(F,bz l2 n2),(K,bz l3 n3)],[],N,J,[],U⟩ (.ok (dv (.ref F1))) p ⟨[(F1,d9 l1 n1 [(dv (.ref 894)),(dv (.ref 3)),kL,(dv (.ref F)),kL,(dv (.ref 895)),(dv (.ref 0))]),(F,d9 l2 n2 [(dv (.ref 909)),(dv (.ref 3)),kL,(dv (.ref K)),kL,(dv (.ref 910)),(dv (.ref 0))]),(K,d9 l3 n3 [(dv (.ref 960)),(dv (.ref 3)),kL,(dv Value.notImplemented),kL,(dv (.ref 961)),(dv (.ref 0)),(dv (.ref (K+1)))])],[],N,J,[],U⟩:=
 w1 3786293 [] [0,0,0]
theorem aaS {F:Nat}:aE w (gq w.P (A+962) (L+962) F K F1 q5 q3 q1 G) p (Fast.tw7687323783571163205 .none (.ref F1) .none (ft F1) .none Mb) ⟨[],[],N,J,[],U⟩ (.ok (.ref N)) p ⟨[(N,rT F1 (.int (O F1) 0))],[],(N+1),J,[],U⟩:=
 w1 0 [] [0]
theorem aaT {F:Nat}:aE w (gq w.P (A+962) (L+962) F K F1 q5 q3 q1 G) p (Fast.tw17858455048448223758 (.ref aj) 1 (.ref T)) ⟨[(aj,jZ aj .none)],[],N,J,[],U⟩ (.ok PUnit.unit) p ⟨[(aj,jZ aj (.ref T))],[],N,J,[],U⟩:=
 w1 5 [] [0]
theorem aaU {F:Nat}:aE w (gq w.P (A+962) (L+962) F K F1 q5 q3 q1 G) p (Fast.tw6609576154772507232 (.ref aj) 1) ⟨[(aj,jZ aj .none)],[],N,J,[],U⟩ (.ok .none) p ⟨[(aj,jZ aj .none)],[],N,J,[],U⟩:=
 w1 1 [] [0]
theorem aaV {F:Nat}:aE w (gq w.P (A+962) (L+962) F K F1 q5 q3 q1 G) p (Fast.tw5670386056902412789 (.ref aj) none) ⟨[(aj,jZ aj (.ref T)),(T,rT F1 (.int (O F1) 0))],[],N,J,[],U⟩ (.ok PUnit.unit) p ⟨[(aj,jZ aj (.ref T)),(T,rT F1 .none)],[],N,J,[],U⟩:=
 w1 397 [] [0,0]
section
variable {V:EV}{X af:Type}{Γ:bd}{p p₁ p':aw}{C bq C':aC}
theorem ax.raised:ax V Γ p (.raise v:Sem X) C (.err v) p C:=λs R=>⟨s,.refl R,λ_ _ _ _ _ _ q=>q⟩
theorem ax.aaW {m:Sem X}{hd:ay->Sem Unit}(h1:ax V Γ p m C (.err v) p₁ bq)(h2:ax V Γ p₁ (hd v) bq (.ok ()) p' C'):ax V Γ p (m.onRaise hd) C (.err v) p' C':=
 aK.trans h1 (ax.bind h2 ax.raised) λs bG s' _ a b ae ak gd lv e ee q=>by rw [Sem.onRaise_eq_wrap,Sem.wrap_wrap];exact a _ _ _ _ _ _ (b ae ak gd lv e ee q)
theorem ax.aaX {m:Sem X}{k:X->Sem af}(h:ax V Γ p m C (.err v) p' C'):ax V Γ p (m>>=k) C (.err v) p' C':=λs R=>by
 refine bX (h s R) λs' g a=>
  da s' g (λae ak gd lv e ee q=>by rw [Sem.bind_eq_wrap',Sem.wrap_wrap];exact a _ _ _ _ _ _ q)
theorem aaY (h:ax V Γ p (execs body env) C (.err v) p₁ bq)(h2:ax V Γ p₁ (leaving env v) bq (.ok ()) p' C'):cW V Γ p (aA (.func body env)) C (.error v) C':=by
 rw [<-or]
 show cW V Γ p (do point;match<-(execs body env).onRaise (leaving env)with| .ret v=>PySem.ret v|_=>PySem.ret .none) C _ C'
 refine ax.c6 (λs R=>⟨s,.refl R,λ_ _ _ _ _ _ q=> .point q⟩)
  (ax.aaX (ax.aaW h h2)).err
theorem ax.stack' {k:b9->Sem X}{r:Res X}(h:ax V Γ p (k ((Γ.code,p)::Γ.below)) C r p' C'):ax V Γ p (stack>>=k) C r p' C':=
 ax.bind (λs R=>⟨s,.refl R,λ_ _ _ _ _ _ q=> .stack q⟩) h
end
variable {w:WB}
noncomputable def rU (F:Nat):List (Option ay):=[some (.ref 894),some (.ref 3),none,some (.ref F),none,some (.ref 895),some (.ref 0)]
noncomputable def n4 (K:Nat):List (Option ay):=[some (.ref 909),some (.ref 3),none,some (.ref K),none,some (.ref 910),some (.ref 0)]
noncomputable def lg (K:Nat):List (Option ay):=[some (.ref 960),some (.ref 3),none,some .notImplemented,none,some (.ref 961),some (.ref 0),some (.ref (K+1))]
theorem aaZ {F:Nat}:aE w (gq w.P (A+962) (L+962) F K F1 q5 q3 q1 G) p (PySem.frameOf (qs w.P F1)) ⟨[(F1,bz l1 n1),(F,bz l2 n2),(K,bz l3 n3)],[],N,J,[],U⟩ (.ok (.ref F1)) p ⟨[(F1,d9 l1 n1 (rU F)),(F,d9 l2 n2 (n4 K)),(K,d9 l3 n3 (lg K))],[],N,J,[],U⟩:=by
 delta PySem.frameOf frameEnvs
 show ax _ _ _ ((stack>>=λAz=>Pure.pure ((Az.filter (·.1.isFrame)).filterMap (·.1.env?)))>>=_) _ _ _ _
 refine ax.bind (ax.stack' ax.pure) ?_
 have e:((((gq w.P (A+962) (L+962) F K F1 q5 q3 q1 G).code,p)::(gq w.P (A+962) (L+962) F K F1 q5 q3 q1 G).below).filter (·.1.isFrame)).filterMap (·.1.env?)=xy w.P F1 F K:=rfl
 rw [e]
 have e2:(xy w.P F1 F K).dropWhile (λx=>x.frame !=(qs w.P F1).frame)=xy w.P F1 F K:=by
  delta xy
  rw [aeR,if_neg (by simp)]
 rw [e2]
 refine ax.bind (x:=some (.ref F1)) ?_ ax.pure
 rw [Fast.te10665104254819526710]
 exact aaR
theorem abA {F:Nat}:aE w (gq w.P (A+962) (L+962) F K F1 q5 q3 q1 G) jM (entryPlaceOf F1 false) C (.ok Mb) jM C:=by
 delta entryPlaceOf
 refine ax.stack' ?_
 have hc:(gq w.P (A+962) (L+962) F K F1 q5 q3 q1 G).code.env?.bind (·.frame)=some F1:=rfl
 have e:(((gq w.P (A+962) (L+962) F K F1 q5 q3 q1 G).code,(jM:aw))::(gq w.P (A+962) (L+962) F K F1 q5 q3 q1 G).below).find? (λx=>x.1.env?.bind (·.frame)==some F1)=some ((gq w.P (A+962) (L+962) F K F1 q5 q3 q1 G).code,jM):=by
  rw [List.find?_cons,hc]
  simp
 have e2:EntryCells.beneath F1 (((gq w.P (A+962) (L+962) F K F1 q5 q3 q1 G).code,(jM:aw))::(gq w.P (A+962) (L+962) F K F1 q5 q3 q1 G).below)=some Fp:=by
  delta EntryCells.beneath
  have hd:(((gq w.P (A+962) (L+962) F K F1 q5 q3 q1 G).code,(jM:aw))::(gq w.P (A+962) (L+962) F K F1 q5 q3 q1 G).below).dropWhile (λx=> !(x.1.isFrame&&x.1.env?.bind (·.frame)==some F1))=(((gq w.P (A+962) (L+962) F K F1 q5 q3 q1 G).code,(jM:aw))::(gq w.P (A+962) (L+962) F K F1 q5 q3 q1 G).below):=by
   rw [aeR,hc,if_neg]
   have:(gq w.P (A+962) (L+962) F K F1 q5 q3 q1 G).code.isFrame=true:=rfl
   rw [this]
   simp
  rw [hd]
  rfl
 rw [e]
 show ax _ _ _ (Pure.pure ([ft 835,ft 835,ft 12,ft 31]++EntryCells.cells F1 false _)) _ _ _ _
 delta EntryCells.cells
 rw [e2]
 exact ax.pure
theorem abB {F:Nat}:aE w (gq w.P (A+962) (L+962) F K F1 q5 q3 q1 G) jM (leaving (qs w.P F1) (.ref aj)) ⟨[(aj,jZ aj .none),(F1,bz l1 n1),(F,bz l2 n2),(K,bz l3 n3)],[],N,J,[],U⟩ (.ok ()) jM ⟨[(aj,jZ aj (.ref N)),(N,rT F1 .none),(F1,d9 l1 n1 (rU F)),(F,d9 l2 n2 (n4 K)),(K,d9 l3 n3 (lg K))],[],N+1,J,[],U⟩:=by
 delta leaving
 refine ax.bind (x:=()) (p₁:=jM) (bq:=⟨[(aj,jZ aj (.ref N)),(N,rT F1 (.int (O F1) 0)),(F1,d9 l1 n1 (rU F)),(F,d9 l2 n2 (n4 K)),(K,d9 l3 n3 (lg K))],[],N+1,J,[],U⟩) ?_ ?_
 ·delta noteFrame
  show ax _ _ _ (field (.ref aj) 1>>=_) _ _ _ _
  refine ax.bind (x:= .none) (p₁:=jM) (bq:=⟨[(aj,jZ aj .none),(F1,bz l1 n1),(F,bz l2 n2),(K,bz l3 n3)],[],N,J,[],U⟩) ?_ ?_
  ·rw [GA]
   exact aK.more [(F1,bz l1 n1),(F,bz l2 n2),(K,bz l3 n3)] [] aaU
  show ax _ _ _ (PySem.frameOf (qs w.P F1)>>=λfr=>entryPlaceOf F1 false>>=λpl=>EntryCells.newEntry .none fr .none (ft F1) .none pl>>=λv=>setField (.ref aj) 1 v) _ _ _ _
  refine ax.bind (aK.cons _ aaZ) (ax.bind abA ?_)
  refine ax.bind (x:= .ref N) (p₁:=jM) (bq:=⟨[(N,rT F1 (.int (O F1) 0)),(aj,jZ aj .none),(F1,d9 l1 n1 (rU F)),(F,d9 l2 n2 (n4 K)),(K,d9 l3 n3 (lg K))],[],N+1,J,[],U⟩) ?_ ?_
  ·rw [Fast.te7687323783571163205]
   exact aK.more [(aj,jZ aj .none),(F1,d9 l1 n1 (rU F)),(F,d9 l2 n2 (n4 K)),(K,d9 l3 n3 (lg K))] [] aaS
  rw [Fast.te17858455048448223758]
  exact aK.frame aaT (.swap ..) (.refl _) ⟨rfl,rfl,rfl⟩ (.refl _) (.refl _) bH
 ·rw [Fast.te5670386056902412789]
  exact aK.more [(F1,d9 l1 n1 (rU F)),(F,d9 l2 n2 (n4 K)),(K,d9 l3 n3 (lg K))] [] aaV
noncomputable def nyS (P:aF)(m:d8)(L F K F1 H:Nat)(st:ay)(ln tl tt i ti N J U n2 n3:Nat)(l2 l3:List ir):aC:=⟨[(F1,bz [de P gf H (.ref L)] 1),(L,d7 m.D),(m.D,mb P m st ln tl [] tt),(m.IO,ib m.DI),(m.DI,m.io P i ti),(m.PB,ic),(m.FS,ic),(F,bz l2 n2),(K,bz l3 n3)],[],N,J,[],U⟩
noncomputable def nyS' (P:aF)(m:d8)(L F K F1 H kt aj T:Nat)(st:ay)(ln tl tt i ti N J U n2 n3:Nat)(l2 l3:List ir):aC:=⟨[(aj,jZ aj (.ref T)),(aj+1,aG []),(T,rT F1 .none),(F1,d9 [de P gf H (.ref L),de P [116,111,107,101,110] kt .none] 2 (rU F)),(L,d7 m.D),(m.D,mb P m st ln tl [] tt),(m.IO,ib m.DI),(m.DI,m.io P i ti),(m.PB,ic),(m.FS,ic),(F,d9 l2 n2 (n4 K)),(K,d9 l3 n3 (lg K))],[],N,J,[],U⟩
def BB (w:WB)(m:d8)(A L F K F1:Nat)(q5 q3 q1 G:aw)(H ln tl tt i ti N J U n2 n3 kt aj T ln' tl' c8 i' ti' N' au:Nat)(st eI:ay)(l2 l3:List ir)(p:aw):Prop:=
 aP w (gq w.P A L F K F1 q5 q3 q1 G) p ((VV w).M.den (.func (cw w.P 895) (qs w.P F1))) (nyS w.P m L F K F1 H st ln tl tt i ti N J U n2 n3 l2 l3) (.error (.ref aj)) (nyS' w.P m L F K F1 H kt aj T eI ln' tl' c8 i' ti' N' au U n2 n3 l2 l3)
noncomputable def oNy (w:WB)(aH:d){m:d8}{A L F K F1:Nat}{q5 q3 q1 G:aw}{H ln tl tt i ti N J U n2 n3 kt aj T ln' tl' c8 i' ti' N' au:Nat}{st eI:ay}{l2 l3:List ir}{p:aw}(h:BB w m A L F K F1 q5 q3 q1 G H ln tl tt i ti N J U n2 n3 kt (aj+962) T ln' tl' c8 i' ti' N' au st eI l2 l3 p):aM w:= .fn _ _ aH [] [] _ _ _ h
theorem abC {m:d8}{F:Nat}{st:ay}{kt0:Nat}{E1:Nat}{T2:Nat}{abD:ay}(fH:BB w m (A+962) (L+962) F K (N+962) p q3 q1 G J ln tl tt i ti (N+962+1) (J+1) U n2 n3 kt0 (E1+962) T2 qT qU CI CJ CK kl iX st abD l2 l3 p):aE w (rS w.P A L F K q3 q1 G) p (dP (.ref (L+962))) ⟨[(L+962,d7 m.D),(m.D,mb w.P m st ln tl [] tt),(m.IO,ib m.DI),(m.DI,m.io w.P i ti),(m.PB,ic),(m.FS,ic),(F,bz l2 n2),(K,bz l3 n3)],[],N+962,J,[],U⟩ (.ok kL) p ⟨[(F,d9 l2 n2 (n4 K)),(K,d9 l3 n3 (lg K))],[],kl,iX,[],U⟩:=
 w1 84481 [oNy w [0,0,0,0,0,0,0,0,0] fH] [10,10]
section
open PySem.Builtin.List
theorem abE {m:d8}{F:Nat}{st:ay}(h:kH w m (A+962) (L+962) F K (F1+962) (N+962) (N+962+1) q1 G q3 q5 ol om jm (J+4) (J+5) (J+7) (J+6) ln tl tt i ti (N+962+2) (J+8) U st false kv vv eI ln' tl' [] c8 i' ti' (N'+962) au jm):BB w m (A+962) (L+962) F K (F1+962) q5 q3 q1 G H ln tl tt i ti (N+962) J U n2 n3 (au+17) (N'+1+962) (N'+962+3) ln' tl' (au+2) i' ti' (N'+962+3+1) (au+19) st eI l2 l3 p:=by
 delta BB
 rw [aT]
 refine aaY (p₁:=jM) (p':=jM) ?_ ?_ (bq:=⟨[(N'+963,jZ (N'+963) .none),(N'+963+1,aG []),(F1+962,bz [de w.P gf H (.ref (L+962)),de w.P [116,111,107,101,110] (au+17) .none] 2),(L+962,d7 m.D),(m.D,mb w.P m eI ln' tl' [] (au+2)),(m.IO,ib m.DI),(m.DI,m.io w.P i' ti'),(m.PB,ic),(m.FS,ic)]++[(F,bz l2 n2),(K,bz l3 n3)],[]++[],N'+962+3,au+19,[],U⟩)
 ·rw [xQ]
  exact aK.more [(F,bz l2 n2),(K,bz l3 n3)] [] (aaQ h)
 ·exact aK.frame (abB)
   (mr (is:=[0,1,7,7]) rfl) (.refl _) bH (mr (is:=[0,1,1,7,7]) rfl) (.refl _) bH
noncomputable def xz (P:aF)(m:d8)(L F K:Nat)(st:ay)(ln tl tt i ti N J U n2 n3:Nat)(l2 l3:List ir):aC:=⟨[(L+962,d7 m.D),(m.D,mb P m st ln tl [] tt),(m.IO,ib m.DI),(m.DI,m.io P i ti),(m.PB,ic),(m.FS,ic)]++[(F,bz l2 n2),(K,bz l3 n3)],[]++[],N,J,[],U⟩
noncomputable def Fq (F K N J U n2 n3:Nat)(l2 l3:List ir):aC:=⟨[(F,d9 l2 n2 (n4 K)),(K,d9 l3 n3 (lg K))],[],N,J,[],U⟩
theorem abF {It:ay}(h:¬962<=C.N):∀(Y:LV),Gives (VV w) Γ p It C Y C':=by
 intro Y
 induction Y with
 |nil=>
  exact .stop (aK.big λq=>absurd q h)
 |cons v Y aS=>
  exact .next (aK.big λq=>absurd q h) (aS)
theorem Mc {m:d8}{F:Nat}{st:ay}(hN:962<=N')(h:kH w m (A+962) (L+962) F K (N+962) (N+962+1) (N+962+2) q1 G q3 p ol om jm (J+5) (J+6) (J+8) (J+7) ln tl tt i ti (N+962+3) (J+9) U st false kv vv eI ln' tl' [] c8 i' ti' N' au jm):∃am:Nat×Nat,Gives (VV w) (rS w.P A L F K q3 q1 G) p (.ref (L+962)) (xz w.P m L F K st ln tl tt i ti (N+962) J U n2 n3 l2 l3) [] (Fq F K am.1 am.2 U n2 n3 l2 l3):=by
 obtain⟨N',rfl⟩:∃B,N'=B+962:=⟨N'-962,by lia⟩
 exact⟨(_,_),.stop (abC (abE (N:=N+1) (N':=N') (J:=J+1) (F1:=N) (au:=au) (i':=i') (ti':=ti') (by rw [show N+1+962=N+962+1 by lia];exact h)))⟩
end
section
open PySem.Builtin.List
theorem Md {m:d8}{F:Nat}{st:ay}{q:Bool}{t:d}(hq:t≠[]\/q=true)(h:kH w m (A+962) (L+962) F K (N+962) (N+962+1) (N+962+2) q1 G q3 p ol om jm (J+5) (J+6) (J+8) (J+7) ln tl tt i ti (N+962+3) (J+9) U st q kv vv eI ln' tl' t c8 i' ti' N' au jm):∃am:Nat×Nat×Nat,aE w (rS w.P A L F K q3 q1 G) p (dP (.ref (L+962))) (xz w.P m L F K st ln tl tt i ti (N+962) J U n2 n3 l2 l3) (.ok (some (Z t am.1))) p (xz w.P m L F K eI ln' tl' am.2.1 i' ti' N' am.2.2 U n2 n3 l2 l3):=by
 cases q with
 |true=>exact⟨(_,_,_),aK.more [(F,bz l2 n2),(K,bz l3 n3)] [] (aaN h)⟩
 |false=>
  cases t with
  |nil=>exact absurd rfl (hq.resolve_right (by decide))
  |cons ah t=>exact⟨(_,_,_),aK.more [(F,bz l2 n2),(K,bz l3 n3)] [] (aaO h)⟩
theorem abG {m:d8}{F:Nat}(rQ:962<=m.IO)(hx:m.x.length<=10000){rest:d}{ts:List d}(hL:kG rest ts):∀{i N J s ln tl tt ti:Nat},m.x.drop i=rest->∃(eW:bB) (am:Nat×Nat),eW.map aD=ts/\Gives (VV w) (rS w.P A L F K q3 q1 G) p (.ref (L+962)) (xz w.P m L F K (Z [32] s) ln tl tt i ti N J U n2 n3 l2 l3) (aR eW) (Fq F K am.1 am.2 U n2 n3 l2 l3):=by
 have Fs:∀{i N J s ln tl tt ti:Nat} {ts:List d},¬962<=N->∃(eW:bB) (am:Nat×Nat),eW.map aD=ts/\Gives (VV w) (rS w.P A L F K q3 q1 G) p (.ref (L+962)) (xz w.P m L F K (Z [32] s) ln tl tt i ti N J U n2 n3 l2 l3) (aR eW) (Fq F K am.1 am.2 U n2 n3 l2 l3):=λ{i N J s ln tl tt ti ts} h=>⟨ts.map (·,0),(0,0),by rw [eF];exact GB ts,abF h _⟩
 have go:∀{i N J s ln tl tt ti:Nat} {rest:d} {o:Option d} {r':d} {e:Bool},m.x.drop i=rest->cI rest 0 [] false=some (o,r',e)->Bz w m ⟨A,L,F,K,N+962,N+962+1,N+962+2,q1,G,q3,q1,p,ol,om,jm⟩ (J+5) (J+6) (J+8) (J+7) U jm (b4 w.P m ⟨A,L,F,K,N+962,N+962+1,N+962+2,q1,G,q3,q1,p,ol,om,jm⟩ (J+5) (J+6) (J+8) (J+7) false none (Z [stN 0] s) ln tl [] tt i ti (N+962+3) (J+9) U) o r' e:=λhd ho=>aaI rQ hx _ hd ho (.inl rfl) (λ_=>⟨rfl,rfl⟩) (λh=>by cases h) (λ_=>rfl) (fv _)
 induction hL with
 |nil ho=>
  intro i N J s ln tl tt ti hd
  by_cases hN:962<=N
  ·obtain⟨N,rfl⟩:∃B,N=B+962:=⟨N-962,by lia⟩
   obtain⟨q,kv,vv,st,ln',tl',c8,i',ti',N',au,h,e1,e2,e3,e4,e5,e6⟩:=go hd ho
   cases e1 rfl
   refine dT (Mc (w:=w) (n2:=n2) (n3:=n3) (l2:=l2) (l3:=l3) (st:=Z [32] s) e6 (by unfold kH;rw [aT];exact h)) λam g=> ?_
   exact fL [] am rfl g
  ·exact Fs hN
 |last ho=>
  intro i N J s ln tl tt ti hd
  by_cases hN:962<=N
  ·obtain⟨N,rfl⟩:∃B,N=B+962:=⟨N-962,by lia⟩
   obtain⟨q,kv,vv,st,ln',tl',c8,i',ti',N',au,h,e1,e2,e3,e4,e5,e6⟩:=go hd ho
   have gF:st= .none:=e3.resolve_right λh=>by cases h.1
   subst gF
   refine dT (Md (w:=w) (n2:=n2) (n3:=n3) (l2:=l2) (l3:=l3) (st:=Z [32] s) (e2 _ rfl) (by unfold kH;rw [aT];exact h)) λam g=> ?_
   have hi:m.x.length<=i':=by
    have:=congrArg dn e4
    rw [na]at this
    have h2:([]:d).length=0:=rfl
    lia
   obtain⟨N',rfl⟩:∃B,N'=B+962:=⟨N'-962,by lia⟩
   refine bX (LX (w:=w) (r:=⟨A,L,F,K,N'+962,N'+962+1,N'+962+2,q1,G,q3,q1,p,ol,om,jm⟩) (A:=m.IO) (D:=m.DI) (H:=m.k 19) (z:=m.k 20) (k3:=m.k 21) (t:=m.tx) (tn:=996) (i:=i') (ti:=ti') (e:=3) (t1:=am.2.2+9+6) (N:=N'+962+3+1) (J:=am.2.2+9+7) (U:=U) (x:=m.x) (p:=gv) (q9:=gv) rQ (by lia) hi) λy hy hr=> ?_
   refine dT (Mc (w:=w) (m:=m) (A:=A) (L:=L) (F:=F) (K:=K) (J:=am.2.2) (U:=U) (n2:=n2) (n3:=n3) (l2:=l2) (l3:=l3) (st:= .none) (N:=N') (p:=p) (q1:=q1) (G:=G) (q3:=q3) (ln:=ln') (tl:=tl') (tt:=am.2.1) (i:=i') (ti:=ti') (N':=y.2.1) (o3 (k:=0) hy) (by unfold kH;rw [aT];exact Z1 hr)) λu g2=> ?_
   exact fL [(_,am.1)] u rfl (.next g g2)
  ·exact Fs hN
 |cons ho _ ih=>
  intro i N J s ln tl tt ti hd
  by_cases hN:962<=N
  ·obtain⟨N,rfl⟩:∃B,N=B+962:=⟨N-962,by lia⟩
   obtain⟨q,kv,vv,st,ln',tl',c8,i',ti',N',au,h,e1,e2,e3,e4,e5,e6⟩:=go hd ho
   refine dT (Md (w:=w) (n2:=n2) (n3:=n3) (l2:=l2) (l3:=l3) (st:=Z [32] s) (e2 _ rfl) (by unfold kH;rw [aT];exact h)) λam g=> ?_
   rcases e3 with e3|⟨_,s',e3⟩
   ·cases e5 e3
   ·subst e3
    refine gu (ih (N:=N') (J:=am.2.2) (s:=s') (ln:=ln') (tl:=tl') (tt:=am.2.1) (ti:=ti') e4) λeW u f1 f2=> ?_
    exact fL ((_,am.1)::eW) u (by rw [bY,f1]) (.next g f2)
  ·exact Fs hN
end
section
open PySem.Builtin.List
theorem Me:aA (l7 A It)=(pyNext (.ref It)>>=λo=>match o with|none=>PySem.ret .none|some x=>listUpdate (.ref A) (·.push x)>>=λ_=>again (l7 A It)):=pT (args:=⟨[.ref A,.ref It,.none],[]⟩) (B:=Builtin.«list.extend.loop») (kK (by kernel_rfl))
theorem abH (cv:Γ.goto (l7 A It)=Γ)(h:Gives (VV w) Γ p (.ref It) C Y C'):∀{pre:LV} {e:Nat},pre.length+Y.length<=1000-> ∃e',aP w Γ p (aA (l7 A It)) (C.put A (aq pre e)) (.ok (.ret .none)) (C'.put A (aq (pre++Y) e')):=by
 induction h with
 |stop h=>
  intro pre e _
  refine⟨e,?_⟩
  rw [Me,bk]
  refine ax.c6 (by rw [o6];exact aK.put _ _ h)
   ax.pure.done
 | @next C bq C' v Y h _ ih=>
  intro pre e hl
  rw [cy]at hl
  refine dT (ih (pre:=pre++[v]) (e:=e+1) (by rw [ci];show pre.length+1+_<=_;lia)) λe' h2=> ?_
  refine⟨e',?_⟩
  rw [bK,u7]at h2
  refine ax.turn (aT w) cv (by kernel_rfl) ?_ h2
  rw [Me]
  refine ax.bind (by rw [o6];exact aK.put _ _ h) ?_
  show ax _ _ p (PySem.updateSeq A (·.push v)>>=λ_=>again (l7 A It)) _ _ _ _
  refine ax.bind (x:=()) ?_ ax.pure
  unfold PySem.updateSeq
  have hm:Obj.mapSeq (·.push v) (aq pre e)=aq (pre++[v]) (e+1):=by simp [Obj.mapSeq,aq]
  refine ax.load (.head _) ?_
  refine ax.update hm rfl ?_
  refine ax.load (.head _) ?_
  have hp:(aq (pre++[v]) (e+1)).data.pastItsLine=none:=pastItsLine_seq (by show(pre++[v]).length<=2^24+1;rw [ci];show pre.length+1<=_;lia)
  show ax _ _ p (match(aq (pre++[v]) (e+1)).data.pastItsLine with|some Dc=>unsupported Dc|x=>Pure.pure ()) _ _ _ _
  rw [hp]
  exact ax.pure
def BC (w:WB)(m:d8)(A L F K:Nat)(q3 q1 G p:aw)(N J U n2 n3 s ln tl tt ti N' au e':Nat)(l2 l3:List ir)(eW:bB):Prop:=
 aP w (Bx w.P A L F K q3 q1 G) p ((VV w).M.den (Bw A L)) ⟨[(A,aq [] 0),(L,d7 m.D),(m.D,mb w.P m (Z [32] s) ln tl [] tt),(m.IO,ib m.DI),(m.DI,m.io w.P 0 ti),(m.PB,ic),(m.FS,ic),(F,bz l2 n2),(K,bz l3 n3)],[],N,J,[],U⟩ (.ok (.ret .none))
  ⟨[(A,aq (aR eW) e'),(F,d9 l2 n2 (n4 K)),(K,d9 l3 n3 (lg K))],[],N',au,[],U⟩
theorem abI {m:d8}{F s:Nat}(bD:A≠L)(rQ:962<=m.IO)(hx:m.x.length<=10000){ts:List d}(hL:kG m.x ts)(ht:ts.length<=1000):∃(eW:bB) (am:Nat×Nat×Nat),eW.map aD=ts/\BC w m (A+962) (L+962) F K q3 q1 G p (N+962) J U n2 n3 s ln tl tt ti am.1 am.2.1 am.2.2 l2 l3 eW:=by
 refine gu (abG (w:=w) (A:=A) (L:=L) (F:=F) (K:=K) (U:=U) (n2:=n2) (n3:=n3) (l2:=l2) (l3:=l3) (p:=p) (q1:=q1) (G:=G) (q3:=q3) rQ hx hL (i:=0) (N:=N+962+1) (J:=J+1) (s:=s) (ln:=ln) (tl:=tl) (tt:=tt) (ti:=ti) rfl) λeW am f1 f2=> ?_
 have hn:([]:LV).length+(aR eW).length<=1000:=by
  delta aR
  have:=congrArg dn f1
  simp at this⊢
  lia
 refine dT (abH rfl f2 (e:=2) hn) λe' f3=>
  fL eW (am.1,am.2,e') f1 ?_
 delta BC
 rw [aT]
 have g:=Zh (D:=m.D) (X:=[(m.D,mb w.P m (Z [32] s) ln tl [] tt),(m.IO,ib m.DI),(m.DI,m.io w.P 0 ti),(m.PB,ic),(m.FS,ic),(F,bz l2 n2),(K,bz l3 n3)]) (S:=[]) bD
  (aK.same f3 (.refl _) rfl ⟨rfl,rfl,rfl⟩ (.refl _) rfl ⟨rfl,rfl,rfl⟩)
 exact aK.same g (.refl _) rfl ⟨rfl,rfl,rfl⟩ (.refl _) rfl ⟨rfl,rfl,rfl⟩
end
noncomputable def xA (P:aF)(x:d)(t K:Nat)(G:aw):bd:=⟨.call (.ref 910) ⟨[Z x t],[]⟩,none,none,cO P K G,none⟩
noncomputable def Ft (IO DI PB FS D k0 H z k3 k4 k5 k6 k7 k8 k9 gK gL lh li jp Fu Fv Fw Fx Fy Fz FA t0 t1 t2 t3 t4 t5 t6 t7 tx:Nat)(x:d):d8:=⟨IO,DI,PB,FS,D,λi=>[k0,H,z,k3,k4,k5,k6,k7,k8,k9,gK,gL,lh,li,jp,Fu,Fv,Fw,Fx,Fy,Fz,FA].getD i 0,λi=>[t0,t1,t2,t3,t4,t5,t6,t7].getD i 0,tx,x⟩
noncomputable def FB (w:WB)(a0 a1 a2 a3 L tx:Nat)(x:d):List ir:=[de w.P [115] a0 (Z x tx),de w.P [99,111,109,109,101,110,116,115] a1 (.bool false),de w.P [112,111,115,105,120] a2 (.bool true),de w.P [108,101,120] a3 (.ref L)]
noncomputable def abJ (w:WB)(aH:d){IO DI PB FS D k0 H z k3 k4 k5 k6 k7 k8 k9 gK gL lh li jp Fu Fv Fw Fx Fy Fz FA t0 t1 t2 t3 t4 t5 t6 t7 tx:Nat}{x:d}{A L F K:Nat}{q3 q1 G p:aw}{N J U n3 s ln tl tt ti N' au e' a0 a1 a2 a3:Nat}{l3:List ir}{eW:bB}(h:BC w (Ft IO DI PB FS D k0 H z k3 k4 k5 k6 k7 k8 k9 gK gL lh li jp Fu Fv Fw Fx Fy Fz FA t0 t1 t2 t3 t4 t5 t6 t7 tx x) A L F K q3 q1 G p N J U 4 n3 s ln tl tt ti N' au e' (FB w a0 a1 a2 a3 L tx x) l3 eW):aM w:= .fn _ _ aH [] [] _ _ _ h
theorem abK {Mf:Nat}{Mg:bB}(h4:BC w (Ft (N+962+8) (N+962+7) (N+962+11) (N+962+12) (N+962+1) (J+36) (J+38) (J+40) (J+42) (J+45) (J+48) (J+57) (J+59) (J+62) (J+65) (J+68) (J+71) (J+73) (J+76) (J+79) (J+82) (J+84) (J+86) (J+90) (J+19) (J+22) (J+25) (J+96) (J+52) (J+55) (J+60) (J+63) (J+66) (J+77) (J+87) t (c::x)) (N+962+13) (N+962+2) (N+962) K sx sx G sx (N+962+14) (J+99) U 4 n3 (J+69) 1 (J+74) (J+80) (J+23) Mf sQ pE (FB w J (J+1) (J+2) (J+93) (N+962+2) t (c::x)) l3 Mg):aP w (xA w.P (c::x) t K G) p (aA (Ctx.code (xA w.P (c::x) t K G))) ⟨[(K,bz l3 n3)],[],N+962,J,[],U⟩ (.ok (.ret (.ref (N+962+13)))) ⟨[((N+962+13),aq (aR Mg) pE),(K,d9 l3 n3 (lg K))],[],Mf,sQ,[],U⟩:=
 by revert w;exact @(iA 0x52837e33ecfb3e5fc2fe5fc5fc17f6fdbf67d9f67cbf85fcbf8bf82fedfb7edfaafb3ecfb3e5fc2fe5fc5fc17f57d5f57d5f57d9f67d9f2fe17f2fe2fe0bfabecfb3ecf97f0bf97f17f05fd5f54940bfafebf95f0af95f15f057d3f5fd7f5fcaf857caf8af82be9fafebfafe57c2be57c57c15f4fd7f5fd7f2be15f2be2be0afa7ea92815f57d5f27e13f27e27e09fed5f57d5f27e13f27e27e09fed5f57d5f27e13f27e27e09fed5f57d5f27e13f27e27e09fed5f57d5f27e13f27e27e09fed5f57d5f27e13f27e27e09fed5f57d5f27e13f27e27e09f8af93f4fc27e09fed5f27e9f84fc13fdabeafabe4fc27e4fc4fc13fdabeafabe4fc27e4fc4fc13fdabeafabe4fc27e4fc4fc13fded5f57d5f27e13f27e27e09fef6afabeaf93f09f93f13f04ff7b57d5f57c9f84fc9f89f827fbdef7b5ad638038e1c00e3445558e7007003a2a827180c00c00d4e7386006183001a739c30030c1800d39ce1801860c006a0888a088aaa00900000000008108aaa0000000040415555401200000000522aa8 (λw h4=>[bZ w (a:=[]) (J+87) (by decide),abJ w [0,10,10,4,4,1,0,6,6] h4]) [0,1])
section
open PySem.Builtin.List
theorem abL (h0:x≠[])(hl:x.length<=10000){ts:List d}(hL:kG x ts)(ht:ts.length<=1000):∃(eW:bB) (am:Nat×Nat×Nat×Nat),eW.map aD=ts/\aP w (xA w.P x t K G) p (aA (.call (.ref 910) ⟨[Z x t],[]⟩)) ⟨[(K,bz l3 n3)],[],N,J,[],U⟩ (.ok (.ret (.ref am.1))) ⟨[(am.1,aq (aR eW) am.2.1),(K,d9 l3 n3 (lg K))],[],am.2.2.1,am.2.2.2,[],U⟩:=by
 by_cases hN:962<=N
 ·obtain⟨N,rfl⟩:∃B,N=B+962:=⟨N-962,by lia⟩
  cases x with
  |nil=>exact absurd rfl h0
  |cons c x=>
   refine gu (abI (w:=w) (m:=Ft (N+962+8) (N+962+7) (N+962+11) (N+962+12) (N+962+1) (J+36) (J+38) (J+40) (J+42) (J+45) (J+48) (J+57) (J+59) (J+62) (J+65) (J+68) (J+71) (J+73) (J+76) (J+79) (J+82) (J+84) (J+86) (J+90) (J+19) (J+22) (J+25) (J+96) (J+52) (J+55) (J+60) (J+63) (J+66) (J+77) (J+87) t (c::x)) (A:=N+13) (L:=N+2) (F:=N+962) (K:=K) (U:=U) (n2:=4) (n3:=n3) (N:=N+14) (J:=J+99) (s:=J+69) (ln:=1) (tl:=J+74) (tt:=J+80) (ti:=J+23) (l2:=FB w J (J+1) (J+2) (J+93) (N+962+2) t (c::x)) (l3:=l3) (p:=sx) (q1:=sx) (G:=G) (q3:=sx) (by lia) (by show 962<=N+962+8;lia) hl hL ht) λeW am f1 f2=> ?_
   refine fL eW (N+962+13,am.2.2,am.1,am.2.1) f1 ?_
   have e1:N+13+962=N+962+13:=by lia
   have e2:N+2+962=N+962+2:=by lia
   have e3:N+14+962=N+962+14:=by lia
   rw [e1,e2,e3]at f2
   exact abK f2
 ·exact fL (ts.map (·,0)) (0,0,0,0) (by rw [eF];exact GB ts) (aK.big λh=>absurd h hN)
end
noncomputable def Mh:d:=[100,117,101]
noncomputable def Mi:d:=[112,108,97,99,101]
noncomputable def wrN:d:=[119,114,105,116,116,101,110]
noncomputable def meN:d:=[109,101,97,110,116]
noncomputable def FC:d:=[109,97,114,107,115]
noncomputable def FD:d:=[111,102,102,115,101,116,115]
noncomputable def rV (P:aF)(H z k3 k4 M ao D:Nat)(pl tp:Nat):Option (NV×NV×NV)->az
 |none=>bz [de P FC H (.ref M),de P FD z (.ref ao),de P Mh k3 (.ref D),de P Mi k4 (.int (O pl) tp)] 4
 |some (a,b,c)=>bz [de P FC H (.ref M),de P FD z (.ref ao),de P Mh k3 (.ref D),de P Mi k4 (.int (O pl) tp),de P wrN a.1 a.2,de P meN b.1 b.2,de P JD c.1 c.2] 7
noncomputable def ie (P:aF)(F I:Nat):bL:=pz (dW (cw P 956) 2) (.ref I) (eQ P 956 F [])
noncomputable def m5 (P:aF)(F I K:Nat)(q1 G:aw):bd:=⟨ie P F I,none,none,dB P 956 F q1 (cO P K G),none⟩
noncomputable def xB (P:aF)(M ao K:Nat)(G:aw):bd:=⟨.call (.ref 956) ⟨[.ref M,.ref ao],[]⟩,none,none,cO P K G,none⟩
noncomputable def uU (w:WB)(aH:d)(l e:Nat){n:Nat}(t:Nat){Y:LV}{x:d}{tx:Nat}(hn:n<=100000)(h:Y[n]? =some (Z x tx)):aM w:=ja w aH l e t hn h
noncomputable def jG (P:aF)(F I M ao D H z k3 k4 pl tp i eM eO eD:Nat)(o:Option (NV×NV×NV))(ms:LV)(ns:cC)(ds:LV)(X:aJ)(N J U:Nat):aC:=⟨[(F,rV P H z k3 k4 M ao D pl tp o),(I,bM M i),(M,aq ms eM),(ao,aq (aY ns) eO),(D,aq ds eD)]++X,[],N,J,[],U⟩
section
variable {F M pl:Nat}(hv:ms[i]? =some (.ref a))(h0:ds.length<=100000)(h1:(O n==O ds.length)=true)(h4:n<=100000)(h5:(ds++[cu {cps:={toList:=[]}} (J+5)])[n]? =some (Z x2 gx))
include hv h0 h1 h4 h5
theorem abM (h6:decide (pl∈cr aD ns)=true)(h7:[10].length+mn.length<=100000)(h8:x2.length+([10]++mn).length<=100000)(h9:n<(ds++[cu {cps:={toList:=[]}} (J+5)]).length)(bT:(ds++[cu {cps:={toList:=[]}} (J+5)]).length<=100000)(fH:wr.length<=100000):
  aE w (m5 w.P F I K q1 G) p (aA (ie w.P F I)) (jG w.P F I M ao D H z k3 k4 pl tp i eM eO eD none ms ns ds [(a,aG [Z wr tw,Z mn tm,.int (O n) tn])] N J U) (.ok (.again (ie w.P F I))) on (jG w.P F I M ao D H z k3 k4 (pl+wr.length) (J+(8+cE [10] mn+cE x2 ([10]++mn)+2)) (i+1) eM eO (eD+1) (some ((J,(Z wr tw)),((J+1),(Z mn tm)),((J+2),(.int (O n) tn)))) ms ns (((ds++[cu {cps:={toList:=[]}} (J+5)]).set n (cu {cps:={toList:=x2++([10]++mn)}} (cD x2 ([10]++mn) gx (cD [10] mn (J+7) tm (J+8)) (J+(8+cE [10] mn)))))) [(a,aG [Z wr tw,Z mn tm,.int (O n) tn])] (N+3) (J+(8+cE [10] mn+cE x2 ([10]++mn)+2+1+1)) U):=
 by revert w;exact @(dI 0x37b16cda30c6bb76deef752deedd4ab754c9ce739ce6add495ba92b75256ea4a9a739a8c3 (λw=>[c9 w [1,1] I M eM hv,cT w [7] D eD h0,cR w tn (J+3+1) h1,bR w [0] D eD (Z [] (J+5)) h0,l8 w (O n) 0 tn (J+6) true rfl,uU w [0] D (eD+1) tn h4 h5,uO w [7] ao eO tp h6,dY w (J+7) tm h7,dY w gx (cD [10] mn (J+7) tm (J+8)) h8,uP w [1] D (eD+1) tn (Z (x2++([10]++mn)) (cD x2 ([10]++mn) gx (cD [10] mn (J+7) tm (J+8)) (J+(8+cE [10] mn)))) h9 bT,bZ w tw fH]) [7,5,5,1,0,3])
theorem abN (h6:decide (pl∈cr aD ns)=false)(h7:x2.length+mn.length<=100000)(h8:n<(ds++[cu {cps:={toList:=[]}} (J+5)]).length)(h9:(ds++[cu {cps:={toList:=[]}} (J+5)]).length<=100000)(bT:wr.length<=100000):
  aE w (m5 w.P F I K q1 G) p (aA (ie w.P F I)) (jG w.P F I M ao D H z k3 k4 pl tp i eM eO eD none ms ns ds [(a,aG [Z wr tw,Z mn tm,.int (O n) tn])] N J U) (.ok (.again (ie w.P F I))) on (jG w.P F I M ao D H z k3 k4 (pl+wr.length) (J+(7+cE x2 mn+2)) (i+1) eM eO (eD+1) (some ((J,(Z wr tw)),((J+1),(Z mn tm)),((J+2),(.int (O n) tn)))) ms ns (((ds++[cu {cps:={toList:=[]}} (J+5)]).set n (cu {cps:={toList:=x2++mn}} (cD x2 mn gx tm (J+7))))) [(a,aG [Z wr tw,Z mn tm,.int (O n) tn])] (N+3) (J+(7+cE x2 mn+2+1+1)) U):=
 by revert w;exact @(dI 0xdec5b368c31bb76deef752deedd4ab754c9ce739ce6add495ba92b75256ea4a9a739a8c3 (λw=>[c9 w [1,1] I M eM hv,cT w [7] D eD h0,cR w tn (J+3+1) h1,bR w [0] D eD (Z [] (J+5)) h0,l8 w (O n) 0 tn (J+6) true rfl,uU w [0] D (eD+1) tn h4 h5,uO w [7] ao eO tp h6,dY w gx tm h7,uP w [1] D (eD+1) tn (Z (x2++mn) (cD x2 mn gx tm (J+7))) h8 h9,bZ w tw bT]) [7,5,5,1,0,3])
theorem abO (h6:decide (pl∈cr aD ns)=true)(h7:[10].length+mn.length<=100000)(h8:x2.length+([10]++mn).length<=100000)(h9:n<(ds++[cu {cps:={toList:=[]}} (J+5)]).length)(bT:(ds++[cu {cps:={toList:=[]}} (J+5)]).length<=100000)(fH:wr.length<=100000):
  aE w (m5 w.P F I K q1 G) p (aA (ie w.P F I)) (jG w.P F I M ao D H z k3 k4 pl tp i eM eO eD (some ((ka,va),(kb,vb),(kc,vc))) ms ns ds [(a,aG [Z wr tw,Z mn tm,.int (O n) tn])] N J U) (.ok (.again (ie w.P F I))) on (jG w.P F I M ao D H z k3 k4 (pl+wr.length) (J+(8+cE [10] mn+cE x2 ([10]++mn)+2)) (i+1) eM eO (eD+1) (some ((ka,(Z wr tw)),(kb,(Z mn tm)),(kc,(.int (O n) tn)))) ms ns (((ds++[cu {cps:={toList:=[]}} (J+5)]).set n (cu {cps:={toList:=x2++([10]++mn)}} (cD x2 ([10]++mn) gx (cD [10] mn (J+7) tm (J+8)) (J+(8+cE [10] mn)))))) [(a,aG [Z wr tw,Z mn tm,.int (O n) tn])] (N+3) (J+(8+cE [10] mn+cE x2 ([10]++mn)+2+1+1)) U):=
 by revert w;exact @(dI 0x37b16cda30c6bb76deef752deedd4ab754c9ce739ce6add495ba92b75256ea4a9a739a8c3 (λw=>[c9 w [1,1] I M eM hv,cT w [7] D eD h0,cR w tn (J+3+1) h1,bR w [0] D eD (Z [] (J+5)) h0,l8 w (O n) 0 tn (J+6) true rfl,uU w [0] D (eD+1) tn h4 h5,uO w [7] ao eO tp h6,dY w (J+7) tm h7,dY w gx (cD [10] mn (J+7) tm (J+8)) h8,uP w [1] D (eD+1) tn (Z (x2++([10]++mn)) (cD x2 ([10]++mn) gx (cD [10] mn (J+7) tm (J+8)) (J+(8+cE [10] mn)))) h9 bT,bZ w tw fH]) [7,5,5,1,0,3])
end
section
variable {F M pl:Nat}(hv:ms[i]? =some (.ref a))(h0:ds.length<=100000)
include hv h0
theorem abP (h1:(O n==O ds.length)=false)(h4:n<=100000)(h5:ds[n]? =some (Z x2 gx))(h6:decide (pl∈cr aD ns)=true)(h7:[10].length+mn.length<=100000)(h8:x2.length+([10]++mn).length<=100000)(h9:n<ds.length)(bT:wr.length<=100000):aE w (m5 w.P F I K q1 G) p (aA (ie w.P F I)) (jG w.P F I M ao D H z k3 k4 pl tp i eM eO eD (some ((ka,va),(kb,vb),(kc,vc))) ms ns ds [(a,aG [Z wr tw,Z mn tm,.int (O n) tn])] N J U) (.ok (.again (ie w.P F I))) on (jG w.P F I M ao D H z k3 k4 (pl+wr.length) (J+(7+cE [10] mn+cE x2 ([10]++mn)+2)) (i+1) eM eO eD (some ((ka,(Z wr tw)),(kb,(Z mn tm)),(kc,(.int (O n) tn)))) ms ns ((ds.set n (cu {cps:={toList:=x2++([10]++mn)}} (cD x2 ([10]++mn) gx (cD [10] mn (J+6) tm (J+7)) (J+(7+cE [10] mn)))))) [(a,aG [Z wr tw,Z mn tm,.int (O n) tn])] (N+3) (J+(7+cE [10] mn+cE x2 ([10]++mn)+2+1+1)) U):=
 by revert w;exact @(dI 0xdec5b368c31aeddb7bbdd4b7bb754c9ce739ce6add495ba92b75256ea4a9a739a8c3 (λw=>[c9 w [1,1] I M eM hv,cT w [7] D eD h0,cR w tn (J+3+1) h1,l8 w (O n) 0 tn (J+5) true rfl,uU w [0] D eD tn h4 h5,uO w [7] ao eO tp h6,dY w (J+6) tm h7,dY w gx (cD [10] mn (J+6) tm (J+7)) h8,uP w [1] D eD tn (Z (x2++([10]++mn)) (cD x2 ([10]++mn) gx (cD [10] mn (J+6) tm (J+7)) (J+(7+cE [10] mn)))) h9 h0,bZ w tw bT]) [7,5,5,1,0,3])
theorem abQ (h1:(O n==O ds.length)=true)(h4:n<=100000)(h5:(ds++[cu {cps:={toList:=[]}} (J+5)])[n]? =some (Z x2 gx))(h6:decide (pl∈cr aD ns)=false)(h7:x2.length+mn.length<=100000)(h8:n<(ds++[cu {cps:={toList:=[]}} (J+5)]).length)(h9:(ds++[cu {cps:={toList:=[]}} (J+5)]).length<=100000)(bT:wr.length<=100000):
  aE w (m5 w.P F I K q1 G) p (aA (ie w.P F I)) (jG w.P F I M ao D H z k3 k4 pl tp i eM eO eD (some ((ka,va),(kb,vb),(kc,vc))) ms ns ds [(a,aG [Z wr tw,Z mn tm,.int (O n) tn])] N J U) (.ok (.again (ie w.P F I))) on (jG w.P F I M ao D H z k3 k4 (pl+wr.length) (J+(7+cE x2 mn+2)) (i+1) eM eO (eD+1) (some ((ka,(Z wr tw)),(kb,(Z mn tm)),(kc,(.int (O n) tn)))) ms ns (((ds++[cu {cps:={toList:=[]}} (J+5)]).set n (cu {cps:={toList:=x2++mn}} (cD x2 mn gx tm (J+7))))) [(a,aG [Z wr tw,Z mn tm,.int (O n) tn])] (N+3) (J+(7+cE x2 mn+2+1+1)) U):=
 by revert w;exact @(dI 0xdec5b368c31bb76deef752deedd4ab754c9ce739ce6add495ba92b75256ea4a9a739a8c3 (λw=>[c9 w [1,1] I M eM hv,cT w [7] D eD h0,cR w tn (J+3+1) h1,bR w [0] D eD (Z [] (J+5)) h0,l8 w (O n) 0 tn (J+6) true rfl,uU w [0] D (eD+1) tn h4 h5,uO w [7] ao eO tp h6,dY w gx tm h7,uP w [1] D (eD+1) tn (Z (x2++mn) (cD x2 mn gx tm (J+7))) h8 h9,bZ w tw bT]) [7,5,5,1,0,3])
theorem abR (h1:(O n==O ds.length)=false)(h4:n<=100000)(h5:ds[n]? =some (Z x2 gx))(h6:decide (pl∈cr aD ns)=false)(h7:x2.length+mn.length<=100000)(h8:n<ds.length)(h9:wr.length<=100000):aE w (m5 w.P F I K q1 G) p (aA (ie w.P F I)) (jG w.P F I M ao D H z k3 k4 pl tp i eM eO eD (some ((ka,va),(kb,vb),(kc,vc))) ms ns ds [(a,aG [Z wr tw,Z mn tm,.int (O n) tn])] N J U) (.ok (.again (ie w.P F I))) on (jG w.P F I M ao D H z k3 k4 (pl+wr.length) (J+(6+cE x2 mn+2)) (i+1) eM eO eD (some ((ka,(Z wr tw)),(kb,(Z mn tm)),(kc,(.int (O n) tn)))) ms ns ((ds.set n (cu {cps:={toList:=x2++mn}} (cD x2 mn gx tm (J+6))))) [(a,aG [Z wr tw,Z mn tm,.int (O n) tn])] (N+3) (J+(6+cE x2 mn+2+1+1)) U):=
 by revert w;exact @(dI 0x37b16cda30c6eddb7bbdd4b7bb754c9ce739ce6add495ba92b75256ea4a9a739a8c3 (λw=>[c9 w [1,1] I M eM hv,cT w [7] D eD h0,cR w tn (J+3+1) h1,l8 w (O n) 0 tn (J+5) true rfl,uU w [0] D eD tn h4 h5,uO w [7] ao eO tp h6,dY w gx tm h7,uP w [1] D eD tn (Z (x2++mn) (cD x2 mn gx tm (J+6))) h8 h0,bZ w tw h9]) [7,5,5,1,0,3])
theorem abS (h1:wr.length<=100000):aE w (m5 w.P F I K q1 G) p (aA (ie w.P F I)) (jG w.P F I M ao D H z k3 k4 pl tp i eM eO eD (some ((ka,va),(kb,vb),(kc,vc))) ms ns ds [(a,aG [Z wr tw,Z mn tm,.int (cJ 0) tn])] N J U) (.ok (.again (ie w.P F I))) on (jG w.P F I M ao D H z k3 k4 (pl+wr.length) (J+8) (i+1) eM eO eD (some ((ka,(Z wr tw)),(kb,(Z mn tm)),(kc,(.int (cJ 0) tn)))) ms ns ds [(a,aG [Z wr tw,Z mn tm,.int (cJ 0) tn])] (N+3) (J+10) U):=
 by revert w;exact @(dI 0x2f715cbb754c9ce739ce6add495ba92b75256ea4a9a739a8c3 (λw=>[c9 w [1,1] I M eM hv,cT w [7] D eD h0,cR w (a:=cJ 0) (b:=O ds.length) tn (J+3+1) (r:=false) rfl,l8 w (cJ 0) 0 tn (J+5) false rfl,bZ w tw h1]) [6,4,4,4,0,3])
end
theorem abT {F M:Nat}(hv:ms[i]? =none):aP w (m5 w.P F I K q1 G) p (aA (ie w.P F I)) ⟨[(I,bM M i),(M,aq ms eM)],[],N,J,[],U⟩ (.ok .next) ⟨[(M,aq ms eM)],[],(N+2),J,[],U⟩:=
 dJ 169 [gz w [0,0] I M eM hv] [3]
noncomputable def mc:Nat->List (d×d×Int)->Prop
 |_,[]=>True
 |l,(_,_,.negSucc k)::r=>k=0/\mc l r
 |l,(_,_,.ofNat n)::r=>n<=l/\mc (if n=l then l+1 else l) r
theorem Mj (l:Nat):∀(x:d) (r:List (d×d×Int)),mc (l+1) r->mc (l+1) ((x.map λc=>(dC c,[c],O l))++r):=by
 intro x
 induction x with
 |nil=>
  intro r h
  exact h
 |cons c x aS=>
  intro r h
  exact⟨Nq l,by rw [if_neg (Nat.ne_of_lt (Ns l))];exact aS r h⟩
theorem abU (l:Nat)(x:d)(r:List (d×d×Int))(h:mc (l+1) r):mc l (fo l x++r):=by
 delta fo
 have key:mc l (((if ge x then []else [([39],[],O l)])++(x.map (λc=>(dC c,[c],O l))++(if ge x then []else [([39],[],O l)])))++r):=by
  cases hp:ge x with
  |true=>
   rw [if_pos rfl,cZ,bk]
   cases x with
   |nil=>cases hp
   |cons c x=>exact⟨b7 l,by rw [if_pos rfl];exact Mj l x r h⟩
  |false=>
   rw [if_neg (by decide),bK,bK]
   exact⟨b7 l,by rw [if_pos rfl];exact Mj l x _ ⟨Nq l,by rw [if_neg (Nat.ne_of_lt (Ns l))];exact h⟩⟩
 split
 ·exact key
 ·exact⟨rfl,key⟩
theorem Mk:∀(ws:List d) (l:Nat),mc l (eU l ws):=by
 intro ws
 induction ws with
 |nil=>
  intro _
  exact trivial
 |cons x ws aS=>
  intro l
  exact abU l x _ (aS (l+1))
theorem Ml (ds:bB)(n:Nat)(x:d)(t:Nat):(aR ds).set n (Z x t)=aR (ds.set n (x,t)):=by
 delta aR
 rw [List.map_set]
variable {w:WB}
theorem abV {F M pl:Nat}{mk:MK}{o:Option (NV×NV×NV)}{ds:bB}{p:aw}(hv:ms[i]? =some (.ref mk.a))(hd:ds.length<=1000)(hw:mk.wr.length<=1000)(hm:mk.mn.length<=1000)(hx:∀x∈ds,x.1.length<=50000)(ho:o=none->mk.no=O ds.length)(hk:mk.no=cJ 0\/∃n,mk.no=O n/\n<=ds.length):∃(m6:bB) (o':NV×NV×NV) (am:Nat×Nat×Nat×Nat),gV (λp=>decide (p∈ns.map aD)) (ds.map aD,pl) mk.key=(m6.map aD,pl+mk.wr.length)/\(∀x∈m6,∃y,(y=[]\/∃ah∈ds,y=ah.1)/\x.1.length<=y.length+mk.mn.length+1)/\ m6.length=(if mk.no=O ds.length then ds.length+1 else ds.length)/\ aE w (m5 w.P F I K q1 G) p (aA (ie w.P F I)) (jG w.P F I M ao D H z k3 k4 pl tp i eM eO eD o ms ns (aR ds) [mk.ent] N J U) (.ok (.again (ie w.P F I))) on (jG w.P F I M ao D H z k3 k4 (pl+mk.wr.length) am.1 (i+1) eM eO am.2.1 (some o') ms ns (aR m6) [mk.ent] am.2.2.1 am.2.2.2 U):=by
 obtain⟨a,wr,tw,mn,tm,no,tn⟩:=mk
 dsimp only at hv hw hm ho hk⊢
 have dF:(aR ds).length=ds.length:=by delta aR;rw [bA]
 have nq:wr.length<=100000:=by lia
 rcases hk with rfl|⟨n,rfl,hn⟩
 ·rcases o with _|⟨⟨ka,va⟩,⟨kb,vb⟩,⟨kc,vc⟩⟩
  ·cases ho rfl
  ·refine og ds _ (_,_,_,_) ?_ (λx hx=>⟨x.1,.inr ⟨x,hx,rfl⟩,by lia⟩) ?_ (abS hv (by lia) nq)
   ·exact LI _ _ _ _ _
   ·rw [if_neg (by intro h;cases h)]
 ·by_cases he:n=ds.length
  ·subst he
   have h1:(O ds.length==O (aR ds).length)=true:=by rw [dF];exact beq_self_eq_true _
   have h5:∀t,(aR ds++[Z [] t])[ds.length]? =some (Z [] t):=λt=>by rw [xX (by lia),dF,GC];rfl
   have h9:∀t,ds.length<(aR ds++[Z [] t]).length:=λt=>by rw [ci,dF];exact Ns _
   have bT:∀t,(aR ds++[Z [] t]).length<=100000:=λt=>by rw [ci,dF];show ds.length+1<=_;lia
   have fin:∀(t t2:Nat) (y:d),(aR ds++[Z [] t]).set ds.length (Z y t2)=aR (ds++[(y,t2)]):=λt t2 y=>by
    rw [<-dF,List.set_append_right _ _ (b7 _),GC,QJ];rfl
   have rW:=Fd (λp=>decide (p∈ns.map aD)) (ds.map aD) pl wr mn
   rw [bA]at rW
   have bound:∀(y:d) (t:Nat),y.length<=mn.length+1->∀x∈ds++[(y,t)],∃y',(y'=[]\/∃ah∈ds,y'=ah.1)/\x.1.length<=y'.length+mn.length+1:=λy t hy x hx=>by
    rcases fq.mp hx with hx|hx
    ·exact da x.1 (.inr ⟨x,hx,rfl⟩) (by lia)
    ·rw [jI.mp hx]
     exact da [] (.inl rfl) (by show y.length<=0+mn.length+1;lia)
   cases hO:decide (pl∈ns.map aD)with
   |true=>
    have h6:decide (pl∈cr aD ns)=true:=hO
    rw [hO]at rW
    rcases o with _|⟨⟨ka,va⟩,⟨kb,vb⟩,⟨kc,vc⟩⟩
    ·have g:=abM (w:=w) (F:=F) (I:=I) (K:=K) (M:=M) (ao:=ao) (D:=D) (H:=H) (z:=z) (k3:=k3) (k4:=k4) (tp:=tp) (eM:=eM) (eO:=eO) (eD:=eD) (tw:=tw) (tm:=tm) (tn:=tn) (N:=N) (J:=J) (U:=U) (p:=p) (q1:=q1) (G:=G) hv (by lia) h1 (by lia) (h5 _) h6 (by show 1+mn.length<=_;lia) (by show 0+(mn.length+1)<=_;lia) (h9 _) (bT _) nq
     refine og (ds++[([10]++mn,_)]) _ (_,_,_,_) ?_ ?_ ?_ (by rw [<-fin (J+5)];exact g)
     ·rw [cx];exact rW
     ·exact bound _ _ (by simp)
     ·rw [ci,if_pos rfl];rfl
    ·have g:=abO (w:=w) (F:=F) (I:=I) (K:=K) (M:=M) (ao:=ao) (D:=D) (H:=H) (z:=z) (k3:=k3) (k4:=k4) (tp:=tp) (eM:=eM) (eO:=eO) (eD:=eD) (tw:=tw) (tm:=tm) (tn:=tn) (N:=N) (J:=J) (U:=U) (ka:=ka) (kb:=kb) (kc:=kc) (va:=va) (vb:=vb) (vc:=vc) (p:=p) (q1:=q1) (G:=G) hv (by lia) h1 (by lia) (h5 _) h6 (by show 1+mn.length<=_;lia) (by show 0+(mn.length+1)<=_;lia) (h9 _) (bT _) nq
     refine og (ds++[([10]++mn,_)]) _ (_,_,_,_) ?_ ?_ ?_ (by rw [<-fin (J+5)];exact g)
     ·rw [cx];exact rW
     ·exact bound _ _ (by simp)
     ·rw [ci,if_pos rfl];rfl
   |false=>
    have h6:decide (pl∈cr aD ns)=false:=hO
    rw [hO]at rW
    rcases o with _|⟨⟨ka,va⟩,⟨kb,vb⟩,⟨kc,vc⟩⟩
    ·have g:=abN (w:=w) (F:=F) (I:=I) (K:=K) (M:=M) (ao:=ao) (D:=D) (H:=H) (z:=z) (k3:=k3) (k4:=k4) (tp:=tp) (eM:=eM) (eO:=eO) (eD:=eD) (tw:=tw) (tm:=tm) (tn:=tn) (N:=N) (J:=J) (U:=U) (p:=p) (q1:=q1) (G:=G) hv (by lia) h1 (by lia) (h5 _) h6 (by show 0+mn.length<=_;lia) (h9 _) (bT _) nq
     refine og (ds++[(mn,_)]) _ (_,_,_,_) ?_ ?_ ?_ (by rw [<-fin (J+5)];exact g)
     ·rw [cx];exact rW
     ·exact bound _ _ (by simp)
     ·rw [ci,if_pos rfl];rfl
    ·have g:=abQ (w:=w) (F:=F) (I:=I) (K:=K) (M:=M) (ao:=ao) (D:=D) (H:=H) (z:=z) (k3:=k3) (k4:=k4) (tp:=tp) (eM:=eM) (eO:=eO) (eD:=eD) (tw:=tw) (tm:=tm) (tn:=tn) (N:=N) (J:=J) (U:=U) (ka:=ka) (kb:=kb) (kc:=kc) (va:=va) (vb:=vb) (vc:=vc) (p:=p) (q1:=q1) (G:=G) hv (by lia) h1 (by lia) (h5 _) h6 (by show 0+mn.length<=_;lia) (h9 _) (bT _) nq
     refine og (ds++[(mn,_)]) _ (_,_,_,_) ?_ ?_ ?_ (by rw [<-fin (J+5)];exact g)
     ·rw [cx];exact rW
     ·exact bound _ _ (by simp)
     ·rw [ci,if_pos rfl];rfl
  ·have bw:n<ds.length:=by lia
   rcases o with _|⟨⟨ka,va⟩,⟨kb,vb⟩,⟨kc,vc⟩⟩
   ·exact absurd (O.inj (ho rfl)) he
   have h1:(O n==O (aR ds).length)=false:=by rw [dF];exact beq_eq_false_iff_ne.mpr λh=>he (O.inj h)
   have h5:(aR ds)[n]? =some (Z ds[n].1 ds[n].2):=wh (cm bw)
   have hxn:=hx ds[n] (gt bw)
   have bound:∀(y:d) (t:Nat),y.length<=ds[n].1.length+mn.length+1->∀x∈ds.set n (y,t),∃y',(y'=[]\/∃ah∈ds,y'=ah.1)/\x.1.length<=y'.length+mn.length+1:=λy t hy x hx=>by
    rcases List.mem_or_eq_of_mem_set hx with hx|rfl
    ·exact da x.1 (.inr ⟨x,hx,rfl⟩) (by lia)
    ·exact da (ds[n].1) (.inr ⟨ds[n],gt bw,rfl⟩) hy
   have gF:∀(y:d) (t:Nat),y=ds[n].1++(if decide (pl∈ns.map aD)=true then 10::mn else mn)->gV (λp=>decide (p∈ns.map aD)) (ds.map aD,pl) (wr,mn,O n)=((ds.set n (y,t)).map aD,pl+wr.length):=λy t hy=>by
    delta gV
    show(if O n<0 then _ else((if O n=O (ds.map aD).length then _ else ds.map aD).set n _),_)=_
    rw [if_neg (by exact Int.not_lt.mpr (GD _)),if_neg (by rw [bA];exact λh=>he (O.inj h)),List.map_set]
    show((ds.map aD).set n (((ds.map aD)[n]?.getD [])++_),_)=_
    rw [iv,cm bw,hy]
    rfl
   have b6:∀(y:d) (t:Nat),(ds.set n (y,t)).length=(if O n=O ds.length then ds.length+1 else ds.length):=λy t=>by rw [List.length_set,if_neg λh=>he (O.inj h)]
   cases hO:decide (pl∈ns.map aD)with
   |true=>
    have h6:decide (pl∈cr aD ns)=true:=hO
    have g:=abP (w:=w) (F:=F) (I:=I) (K:=K) (M:=M) (ao:=ao) (D:=D) (H:=H) (z:=z) (k3:=k3) (k4:=k4) (tp:=tp) (eM:=eM) (eO:=eO) (eD:=eD) (tw:=tw) (tm:=tm) (tn:=tn) (N:=N) (J:=J) (U:=U) (ka:=ka) (kb:=kb) (kc:=kc) (va:=va) (vb:=vb) (vc:=vc) (p:=p) (q1:=q1) (G:=G) hv (by lia) h1 (by lia) h5 h6 (by show 1+mn.length<=_;lia) (by show _+(mn.length+1)<=_;lia) (by lia) nq
    refine og (ds.set n (ds[n].1++([10]++mn),_)) _ (_,_,_,_) ?_ ?_ (b6 _ _) (by rw [<-Ml];exact g)
    ·exact gF _ _ (by rw [hO];rfl)
    ·exact bound _ _ (by simp;lia)
   |false=>
    have h6:decide (pl∈cr aD ns)=false:=hO
    have g:=abR (w:=w) (F:=F) (I:=I) (K:=K) (M:=M) (ao:=ao) (D:=D) (H:=H) (z:=z) (k3:=k3) (k4:=k4) (tp:=tp) (eM:=eM) (eO:=eO) (eD:=eD) (tw:=tw) (tm:=tm) (tn:=tn) (N:=N) (J:=J) (U:=U) (ka:=ka) (kb:=kb) (kc:=kc) (va:=va) (vb:=vb) (vc:=vc) (wr:=wr) (mn:=mn) (ms:=ms) (ns:=ns) (p:=p) (q1:=q1) (G:=G) hv (by lia) h1 (by lia) h5 h6 (by lia) (by lia) nq
    refine og (ds.set n (ds[n].1++mn,_)) _ (_,_,_,_) ?_ ?_ (b6 _ _) (by rw [<-Ml];exact g)
    ·exact gF _ _ (by rw [hO];rfl)
    ·exact bound _ _ (by simp)
noncomputable def FE (P:aF)(F I M ao D H z k3 k4 pl tp i eM eO eD:Nat)(o:Option (NV×NV×NV))(os:List MK)(ns:cC)(ds:bB)(N J U:Nat):aC:=⟨[(F,rV P H z k3 k4 M ao D pl tp o),(I,bM M i),(M,aq (cL os) eM),(ao,aq (aY ns) eO),(D,aq (aR ds) eD)],[os.map MK.ent],N,J,[],U⟩
theorem Mm {k:d×d×Int}{r:List (d×d×Int)}(h:mc l (k::r)):(k.2.2=cJ 0\/∃n,k.2.2=O n/\n<=l)/\mc (if k.2.2=O l then l+1 else l) r:=by
 obtain⟨u,v,x⟩:=k
 cases x with
 |ofNat n=>
  refine⟨.inr ⟨n,rfl,h.1⟩,?_⟩
  have h2:=h.2
  by_cases e:n=l
  ·subst e
   rw [if_pos rfl]at h2⊢;exact h2
  ·rw [if_neg e]at h2
   rw [if_neg λq=>e (O.inj q)];exact h2
 |negSucc k=>
  obtain⟨rfl,h2⟩:=h
  exact⟨.inl rfl,by rw [if_neg (by intro q;cases q)];exact h2⟩
theorem abW {F M:Nat}{os:List MK}(hn:os.length<=500)(hb:∀m∈os,m.wr.length<=50/\m.mn.length<=50):∀(m i:Nat) {pl tp eD N J:Nat} {o:Option (NV×NV×NV)} {ds:bB} {p:aw},i+m=os.length->ds.length<=i->(∀x∈ds,x.1.length<=51*i)->mc ds.length ((os.drop i).map MK.key)->(o=none->i=0/\∀m,os.head? =some m->m.no=O 0)-> ∃(m6:bB) (o':Option (NV×NV×NV)) (am:Nat×Nat×Nat×Nat×Nat),m6.map aD=(((os.drop i).map MK.key).foldl (gV (λp=>decide (p∈ns.map aD))) (ds.map aD,pl)).1/\((o=none->m≠0)->∃y,o'=some y)/\ aP w (m5 w.P F I K q1 G) p (aA (ie w.P F I)) (FE w.P F I M ao D H z k3 k4 pl tp i eM eO eD o os ns ds N J U) (.ok .next) ⟨[(F,rV w.P H z k3 k4 M ao D am.1 am.2.1 o'),(M,aq (cL os) eM),(ao,aq (aY ns) eO),(D,aq (aR m6) am.2.2.1)],[os.map MK.ent],am.2.2.2.1,am.2.2.2.2,[],U⟩:=by
 intro m
 induction m with
 |zero=>
  intro i pl tp eD N J o ds p hi _ _ _ _
  have hi:i=os.length:=by lia
  subst hi
  refine GL ds o (pl,tp,eD,N+2,J) (by rw [u8];rfl) (λh=> ?_) ?_
  ·cases o with
   |none=>exact absurd rfl (h rfl)
   |some y=>exact⟨y,rfl⟩
  have hv:(cL os)[os.length]? =none:=by delta cL;simp
  exact aK.frame (abT (w:=w) (F:=F) (I:=I) (K:=K) (M:=M) hv) (A:=(F,rV w.P H z k3 k4 M ao D pl tp o)::(ao,aq (aY ns) eO)::(D,aq (aR ds) eD)::os.map MK.ent) (B:=[])
   (by simp only [FE,aC.all,ck,ce,bk,eB,cZ];exact(cY (l₁:=[(F,rV w.P H z k3 k4 M ao D pl tp o)]) (l₂:=[(I,bM M os.length),(M,aq (cL os) eM)])).append_right _) (.refl _) ⟨rfl,rfl,rfl⟩
   (by simp only [aC.all,ck,ce,bk,eB,cZ];exact .swap ..) (.refl _) ⟨rfl,rfl,rfl⟩
 |succ m aS=>
  intro i pl tp eD N J o ds p hi hd hx hk ho
  have bw:i<os.length:=by lia
  have FF:=fJ bw
  rw [FF,bY]at hk
  refine cB (Mm hk) λk1' k2'=> ?_
  have mO:=gt bw
  have hv:(cL os)[i]? =some (.ref os[i].a):=by delta cL;rw [iv,cm bw];rfl
  have hY:o=none->os[i].no=O ds.length:=λh=>by
   obtain⟨rfl,h2⟩:=ho h
   have:ds.length=0:=by lia
   rw [this]
   exact h2 _ (by rw [List.head?_eq_getElem?,cm bw])
  refine xZ (abV (w:=w) (F:=F) (I:=I) (K:=K) (M:=M) (ao:=ao) (D:=D) (H:=H) (z:=z) (k3:=k3) (k4:=k4) (pl:=pl) (tp:=tp) (eM:=eM) (eO:=eO) (eD:=eD) (N:=N) (J:=J) (U:=U) (ns:=ns) (p:=p) (q1:=q1) (G:=G) hv (by lia) (by have:=(hb _ mO).1;lia) (by have:=(hb _ mO).2;lia) (λx h=>by have:=hx x h;lia) hY k1') λFG o1 am f1 f2 f3 f4=> ?_
  have jX:FG.length<=i+1:=by rw [f3];split<;>lia
  have hx1:∀x∈FG,x.1.length<=51*(i+1):=λx h=>by
   refine bX (f2 x h) λy hy h2=> ?_
   have h3:=(hb _ mO).2
   have h4:y.length<=51*i:=by
    rcases hy with rfl|⟨ah,hd,rfl⟩
    ·exact fv _
    ·exact hx ah hd
   lia
  refine Nw (aS (i+1) (pl:=pl+os[i].wr.length) (tp:=am.1) (eD:=am.2.1) (N:=am.2.2.1) (J:=am.2.2.2) (o:=some o1) (ds:=FG) (p:=on) (by lia) jX hx1 (by rw [f3];exact k2') (λh=>by cases h)) λds2 o2 u g1 g2 g3=> ?_
  refine GL ds2 o2 u (by rw [g1,FF,bY,qv,f1]) (λ_=>g2 (λh=>by cases h)) ?_
  refine ax.turn (aT w) rfl (by kernel_rfl) ?_ g3
  have hs:os.map MK.ent=(os.take i).map MK.ent++os[i].ent::(os.drop (i+1)).map MK.ent:=by
   rw [<-bY,<-FF,<-cx,oa]
  delta FE
  rw [hs]
  exact aK.focus f4
def FH (w:WB)(F I K M ao D H z k3 k4 tp eM eO N J U ka kb kc FI FJ e' N' au:Nat)(va vb vc:ay)(ms:LV)(ns:cC)(m6:bB)(S:aJ)(q1 G p:aw):Prop:=
 aP w (m5 w.P F I K q1 G) p ((VV w).M.den (ie w.P F I)) ⟨[(F,rV w.P H z k3 k4 M ao D 0 tp none),(I,bM M 0),(M,aq ms eM),(ao,aq (aY ns) eO),(D,aq [] 0)],[S],N,J,[],U⟩ (.ok .next)
  ⟨[(F,rV w.P H z k3 k4 M ao D FI FJ (some ((ka,va),(kb,vb),(kc,vc)))),(M,aq ms eM),(ao,aq (aY ns) eO),(D,aq (aR m6) e')],[S],N',au,[],U⟩
noncomputable def oDu (w:WB)(aH bt:d){F I K M ao D H z k3 k4 tp eM eO N J U ka kb kc FI FJ e' N' au:Nat}{va vb vc:ay}{ms:LV}{ns:cC}{m6:bB}{S:aJ}{q1 G p:aw}(h:FH w F I K M ao D H z k3 k4 tp eM eO N J U ka kb kc FI FJ e' N' au va vb vc ms ns m6 S q1 G p):aM w:= .fn _ _ aH bt [] _ _ _ h
theorem abX {M:Nat}{S:aJ}{ka0:Nat}{kb1:Nat}{kc2:Nat}{abY:Nat}{abZ:Nat}{Mn:Nat}{va8:ay}{vb9:ay}{acA:ay}{Mo:bB}(bQ:FH w N (N+2) K M ao (N+1) J (J+1) (J+2) (J+4) (J+3) eM eO (N+3) (J+5) U ka0 kb1 kc2 abY abZ Mn qK qM va8 vb9 acA ms ns Mo S ⟨903,30,903,35⟩ G ⟨903,30,903,35⟩):aP w (xB w.P M ao K G) p (aA (Ctx.code (xB w.P M ao K G))) ⟨[(M,aq ms eM),(ao,aq (aY ns) eO)],[S],N,J,[],U⟩ (.ok (.ret (.ref (N+1)))) ⟨[(M,aq ms eM),(ao,aq (aY ns) eO),((N+1),aq (aR Mo) Mn)],[S],qK,qM,[],U⟩:=
 by revert w;exact @(iA 0x5471ce318c63154 (λw bQ=>[oDu w [2,0,1,1,0] [0] bQ]) [1,1,1] [0])
theorem acB {M:Nat}{os:List MK}{p:aw}(hn:os.length<=500)(hb:∀m∈os,m.wr.length<=50/\m.mn.length<=50){ws:List d}(hk:os.map MK.key=eU 0 ws)(bD:os≠[]):∃(ds:bB) (am:Nat×Nat×Nat),ds.map aD=uS (λp=>decide (p∈ns.map aD)) (eU 0 ws)/\ aP w (xB w.P M ao K G) p (aA (.call (.ref 956) ⟨[.ref M,.ref ao],[]⟩)) ⟨[(M,aq (cL os) eM),(ao,aq (aY ns) eO)],[os.map MK.ent],N,J,[],U⟩ (.ok (.ret (.ref (N+1)))) ⟨[(M,aq (cL os) eM),(ao,aq (aY ns) eO),(N+1,aq (aR ds) am.1)],[os.map MK.ent],am.2.1,am.2.2,[],U⟩:=by
 have b6:os.length≠0:=λh=>bD (sd.mp h)
 obtain⟨ds,o,am,f1,f2,f3⟩:=abW (F:=N) (D:=N+1) (H:=J) hn hb os.length 0 (pl:=0) (eD:=0) (N:=N+3) (o:=none) (ds:=[]) (kI _) (fv _) (by simp) (by rw [iS,hk];exact Mk ws 0) (λ_=>⟨rfl,λm hm=>by
  cases ws with
  |nil=>rw [eU]at hk;exact absurd (xY.mp hk) bD
  |cons x ws=>
   have h2:(os.map MK.key).head? =some m.key:=by rw [List.head?_map,hm];rfl
   rw [hk]at h2
   have h3:=Mk (x::ws) 0
   have hh:∀(l:List (d×d×Int)) (k:d×d×Int),l.head? =some k->mc 0 l->k.2.2≠cJ 0->k.2.2=O 0:=λl k e ho bD=>by
    cases l with
    |nil=>cases e
    |cons y r=>
     cases e
     rcases(Mm ho).1 with h|⟨n,h,h0⟩
     ·exact absurd h bD
     ·rw [h];congr 1;lia
   refine hh _ _ h2 h3 ?_
   have e:eU 0 (x::ws)=(if ge x then []else [([39],[],O 0)])++(x.map (λc=>(dC c,[c],O 0))++(if ge x then []else [([39],[],O 0)]))++eU 1 ws:=rfl
   rw [e]at h2
   intro hc
   cases hp:ge x with
   |true=>
    rw [hp,if_pos rfl,cZ,bk]at h2
    cases x with
    |nil=>cases hp
    |cons c x=>
     have h5:=dv.inj (show some (dC c,[c],O 0)=some m.key from h2)
     rw [<-h5]at hc;cases hc
   |false=>
    rw [hp,if_neg (by decide)]at h2
    have h5:=dv.inj (show some (([39],[],O 0):d×d×Int)=some m.key from h2)
    rw [<-h5]at hc;cases hc⟩)
 obtain⟨⟨⟨ka,va⟩,⟨kb,vb⟩,⟨kc,vc⟩⟩,rfl⟩:=f2 λ_=>b6
 refine fL ds (am.2.2.1,am.2.2.2.1,am.2.2.2.2) (by rw [f1,iS,hk];rfl) ?_
 exact abX (by delta FH;rw [aT];exact f3)
theorem acC (x:Int)(ta tb k:Nat)(hx:x=O k)(hk:k<3):Bi (VV w) 0 (bV true "int.__mul__" ⟨[.int x ta,.int 3 tb],[]⟩) [] (λ_=>[]) (λ_ t=> .ok (.ret (.int (O (k*3)) t))) 0 1:=by
 subst hx
 match k,hk with
 |0,_=>exact nu (aT w) 100 0 [] (by intro hd own past below p N J U;kernel_rfl)
 |1,_=>exact nu (aT w) 100 0 [] (by intro hd own past below p N J U;kernel_rfl)
 |2,_=>exact nu (aT w) 100 0 [] (by intro hd own past below p N J U;kernel_rfl)
noncomputable def acE (w:WB){x:Int}(ta tb:Nat){k:Nat}(hx:x=O k)(hk:k<3):aM w:= .bi _ _ _ _ [] _ _ _ _ _ (acC x ta tb k hx hk)
noncomputable def acF (w:WB)(aH:d)(l e:Nat){n:Nat}(t:Nat){Y:LV}{x:d}{tx:Nat}{k:Int}(hk:k=O n)(hn:n<=100000)(h:Y[n]? =some (Z x tx)):aM w:= .bi _ _ _ _ aH _ _ _ _ _ (Jq l e n t Y (Z x tx) k (hk▸Ao hn) hk h)
theorem acG (a b e e2:Nat)(us Y:LV)(hu:us.length+Y.length<=100000):Bi (VV w) 0 (bV false "list.__add__" ⟨[.ref a,.ref b],[]⟩) [(a,aq us e),(b,aq Y e2)] (λN=>[(N,aq (us++Y) 0),(a,aq us e),(b,aq Y e2)]) (λN _=> .ok (.ret (.ref N))) 1 0:=by
 refine dO λA s _ _ _ _ R=>dX (by decide+kernel) F.entry_list_add ?_
 have ha:=R.led _ (.head _)
 have hb:=R.led _ (.tail _ (.head _))
 have hTb:s.TypeIs (.ref b) "list":=⟨_,hb,rfl⟩
 have g:=R.new (C':=⟨[(s.heap.objs.size,aq (us++Y) 0),(a,aq us e),(b,aq Y e2)],[],s.heap.objs.size+1,s.toks,[],s.gens.size⟩) rfl rfl rfl bH
 show wpAny (model _ _) _ (isInstance (.ref b) (.type "list")>>=_) _ _ s
 refine bf (wpAny_isInstance hTb rfl ?_)
 simp only [Bool.not_true,Nf,if_false]
 delta Builtin.List.listItems
 refine bf (bf (lj ha rfl (dh ?_)))
 refine bf (bf (lj hb rfl (dh ?_)))
 have e1:({cls:= .type "list",data:= .seq ((⟨us⟩:Array ay)++⟨Y⟩)}:az)=aq (us++Y) 0:=by simp [aq]
 refine bf (wpAny_newObj_type (dh ?_) (by show((⟨us⟩:Array ay)++⟨Y⟩).size<=2^24;simp;lia))
 refine⟨rfl,?_⟩
 rw [e1]
 exact g
noncomputable def acH (w:WB)(aH:d)(a b e e2:Nat){us Y:LV}(hu:us.length+Y.length<=100000):aM w:= .bi _ _ _ _ aH _ _ _ _ _ (acG a b e e2 us Y hu)
theorem Mp:∀(k n:Nat),n<10^k->(gM n).length<=k
 |k,0,_=>fv k
 |0,n+1,h=>by simp at h
 |k+1,n+1,h=>by
  rw [C5,cy]
  have:(n+1)/10<10^k:=by
   rw [Nat.pow_succ]at h
   exact Nat.div_lt_of_lt_mul (by rw [Nat.mul_comm];exact h)
  have:=Mp k _ this
  lia
theorem acI (n:Nat):∀c∈gM n,fk c=true:=by
 induction n using Nat.strongRecOn with
 |ind n ih=>
  intro c hc
  cases n with
  |zero=>cases hc
  |succ m=>
   rw [C5]at hc
   rcases gr.mp hc with rfl|hc
   ·have h:=IC (m+1)
    have h2:=u9 h
    revert h2
    generalize wk ((m+1)%10)=c
    intro h2
    revert c
    decide
   ·exact ih _ (by lia) c hc
theorem acJ:∀(l:List d),bp [] l=l.flatten:=by
 intro l
 induction l with
 |nil=>
  exact rfl
 |cons x rq aS=>
  cases rq with
  |nil=>
   simp [bp]
  |cons y r=>
   show x++[]++bp [] (y::r)=_
   rw [aS,bk]
   rfl
theorem acK (n:Int)(x:d):((x.map λc=>((dC c,[c],n):d×d×Int)).map aD).flatten=b5 39 dx x:=by
 rw [eF,b5,List.flatMap_def]
 rfl
theorem acL:∀(x:d),(∀c∈x,cF c=true)->b5 39 dx x=x:=by
 intro x
 induction x with
 |nil=>
  intro _
  exact rfl
 |cons c x aS=>
  intro h
  have hc:=qk (h c (.head _))
  rw [xt,aS λah hd=>h ah (.tail _ hd),show dC c=[c]from if_neg λq=>hc.2.1 (.inl q)]
  rfl
theorem Mq (n:Nat)(x:d):((fo n x).map aD).flatten=(if n=0 then []else [32])++bW x:=by
 delta fo
 rw [cx,BN,cx,BN,cx,BN,acK]
 have e:((if n=0 then []else [([32],[],cJ 0)]).map (aD:d×d×Int->d)).flatten=if n=0 then []else [32]:=by split<;>rfl
 rw [e]
 congr 1
 cases hp:ge x with
 |true=>
  delta ge at hp
  cases x with
  |nil=>cases hp
  |cons c x=>
   have hs:(c::x).all cF=true:=by simpa using hp
   rw [acL _ (o5.mp hs),if_pos rfl]
   delta bW
   rw [if_neg (by simp),if_pos hs]
   exact bk _
 |false=>
  delta bW
  cases x with
  |nil=>rfl
  |cons c x=>
   have hs:¬(c::x).all cF=true:=by delta ge at hp;simpa using hp
   rw [if_neg (by decide),if_neg (by simp),if_neg hs,bK]
   rfl
theorem FK:∀(ws:List d) (n:Nat),((eU n ws).map aD).flatten=(if n=0\/ws=[]then []else [32])++bp [32] (ws.map bW):=by
 intro ws
 induction ws with
 |nil=>
  intro n
  simp [eU,bp]
 |cons x rq aS=>
  cases rq with
  |nil=>
   intro n
   show((fo n x++[]).map aD).flatten=_
   rw [bk,Mq]
   by_cases h:n=0<;>simp [h,bp]
  |cons y ws=>
   intro n
   show((fo n x++eU (n+1) (y::ws)).map aD).flatten=_
   have e1:bp [32] ((x::y::ws).map bW)=bW x++[32]++bp [32] ((y::ws).map bW):=rl (by simp)
   rw [cx,BN,Mq,aS (n+1),e1,if_neg (by simp:¬(n+1=0\/y::ws=[]))]
   generalize bp [32] ((y::ws).map bW)=aa
   by_cases h:n=0<;>simp [h]
theorem Mr:∀(ws:List d) (n:Nat),(∀x∈ws,x.length<=4)->(eU n ws).length<=7*ws.length/\∀m∈eU n ws,m.1.length<=50/\m.2.1.length<=50:=by
 intro ws
 induction ws with
 |nil=>
  intro n _
  exact⟨b7 _,by simp [eU]⟩
 |cons x ws aS=>
  intro n h
  refine cB (aS (n+1) λy hy=>h y (.tail _ hy)) λi1 i2=> ?_
  have hx:=h x (.head _)
  show(fo n x++eU (n+1) ws).length<=_/\∀m∈fo n x++eU (n+1) ws,_
  have hw:(fo n x).length<=7/\∀m∈fo n x,m.1.length<=50/\m.2.1.length<=50:=by
   delta fo
   have a1:(if n=0 then []else [(([32],[],cJ 0):d×d×Int)]).length<=1:=by split<;>simp
   have a2:(if ge x=true then []else [(([39],[],O n):d×d×Int)]).length<=1:=by split<;>simp
   refine⟨by simp only [ci,bA];lia,λm hm=> ?_⟩
   rcases fq.mp hm with hm|hm
   ·split at hm
    ·cases hm
    ·rw [jI.mp hm];decide
   rcases fq.mp hm with hm|hm
   ·split at hm
    ·cases hm
    ·rw [jI.mp hm];exact⟨xO rfl,fv _⟩
   rcases fq.mp hm with hm|hm
   ·refine bX (dS.mp hm) λc _ fM=> ?_
    subst fM
    refine⟨?_,xO rfl⟩
    show(dC c).length<=50
    delta dC
    split<;>exact xO rfl
   ·split at hm
    ·cases hm
    ·rw [jI.mp hm];exact⟨xO rfl,fv _⟩
  refine⟨by rw [ci,cy];lia,λm hm=> ?_⟩
  rcases fq.mp hm with hm|hm
  ·exact hw.2 m hm
  ·exact i2 m hm
noncomputable def bP (b:Bool)(x y:aw):aw:=match b with
 |true=>y
 |false=>x
noncomputable def scN:d:=[115,99,114,105,112,116]
noncomputable def nuN:d:=[110,117,109,98,101,114,115]
noncomputable def woN:d:=[119,111,114,100,115]
noncomputable def toN:d:=[116,111,116,97,108]
noncomputable def wiN:d:=[119,105,100,116,104]
noncomputable def heN:d:=[104,101,97,100]
noncomputable def sgN:d:=[115,105,103,110,115]
noncomputable def liN:d:=[108,105,110,101]
noncomputable def acM:d:=[115,116,97,114,116,115]
noncomputable def acN:d:=[116,101,120,116,115]
noncomputable def leN:d:=[108,101,97,100]
noncomputable def maN:d:=[109,97,107,101,114]
noncomputable def foN:d:=[102,111,108,100,101,100]
noncomputable def BD (P:aF):List d->List (Nat×ay)->List ir
 |n::ns,x::xs=>de P n x.1 x.2::BD P ns xs
 |_,_=>[]
noncomputable def FN:List d:=[scN,nuN,woN,toN,wiN,heN,sgN,liN,FC,acM,acN,leN,maN,foN,FD]
noncomputable def fe (P:aF)(l:List (Nat×ay)):az:=bz (BD P FN l) l.length
noncomputable def j0 (P:aF)(K:Nat):bd:=⟨.func (cw P 961) (i5 P K),none,none,[(.builtin "claim.caller" {},default)],none⟩
noncomputable def j7 (P:aF)(i n:Nat):List Stmt:=((cw P 961).drop i).take n
noncomputable def BE:bd:=⟨.call (.ref 961) ⟨[.ref 962],[]⟩,none,none,[(.builtin "claim.caller" {},default)],none⟩
def uV (w:WB)(K D av I l E U N J e' N' au i':Nat)(Y:LV)(aO:cC)(kv:Option (Nat×ay))(p q:aw):Prop:=
 aP w (pR w.P K D av I (cO w.P K q)) p ((VV w).M.den (mI w.P K D av I)) (i6 w.P [120] D av I l none [] 0 Y E 0 N J U) (.ok .next) (oB w.P [120] D av I l kv (aY aO) e' Y E i' N' au U)
noncomputable def acP (w:WB)(aH:d){K D av I l E U N J e' N' au i':Nat}{Y:LV}{n t:Nat}{aO:cC}{kk:Nat}{vv:ay}{p q:aw}(h:uV w K D av I l E U N J e' N' au i' Y ((n,t)::aO) (some (kk,vv)) p q):aM w:= .fn _ _ aH [] [] _ _ _ h
noncomputable def acQ (w:WB)(aH:d){K D av I l E U N J e' N' au i':Nat}{Y:LV}{p q:aw}(h:uV w K D av I l E U N J e' N' au i' Y [] none p q):aM w:= .fn _ _ aH [] [] _ _ _ h
def FO (w:WB)(K D av I l E U N J e' N' au i' kk:Nat)(vv:ay)(Y:LV)(aO:bB)(p q:aw):Prop:=
 aP w (ra w.P K D av I q) p ((VV w).M.den (lH w.P K D av I)) (i6 w.P [120] D av I l none [] 0 Y E 0 N J U) (.ok .next) (oB w.P [120] D av I l (some (kk,vv)) (aR aO) e' Y E i' N' au U)
noncomputable def oWd (w:WB)(aH:d){K D av I l E U N J e' N' au i' kk:Nat}{vv:ay}{Y:LV}{aO:bB}{p q:aw}(h:FO w K D av I l E U N J e' N' au i' kk vv Y aO p q):aM w:= .fn _ _ aH [] [] _ _ _ h
def FP (w:WB)(K I S eS l E U ta N J s t' i' N' au:Nat)(Y:LV)(p q:aw):Prop:=
 aP w ⟨sumK I S,none,none,cO w.P K q,none⟩ p ((VV w).M.den (sumK I S)) ⟨[(S,aq [.int 0 ta] eS),(I,bM l 0),(l,aq Y E)],[],N,J,[],U⟩ (.ok (.ret (.int (O s) t'))) ⟨[(S,aq [.int (O s) t'] eS),(I,eY i'),(l,aq Y E)],[],N',au,[],U⟩
noncomputable def oSu (w:WB)(aH:d){K I S eS l E U ta N J s t' i' N' au:Nat}{Y:LV}{p q:aw}(h:FP w K I S eS l E U ta N J s t' i' N' au Y p q):aM w:= .fn _ _ aH [] [] _ _ _ h
def FQ (w:WB)(l K E N J U t c N1 be kD:Nat)(Y:LV)(x:d)(G:aw)(p:aw):Prop:=aP w (Af w.P l K G) p ((VV w).M.den (Ctx.code (Af w.P l K G))) ⟨[(912,fO),(l,aq Y E)],[],N,J,[],U⟩ (.ok (.ret (Z x t))) ⟨[(912,gB 846 20 c),(l,aq Y E)],[],N1,be,[],kD⟩
noncomputable def oJc (w:WB)(aH bt:d){l K E N J U t c N1 be kD:Nat}{Y:LV}{x:d}{G:aw}{p:aw}(h:FQ w l K E N J U t c N1 be kD Y x G p):aM w:= .fn _ _ aH bt [] _ _ _ h
def FR (w:WB)(l K E N J U M e1 N1 be:Nat)(Y ms:LV)(S:aJ)(G:aw)(p:aw):Prop:=aP w (wv w.P l K G) p ((VV w).M.den (Ctx.code (wv w.P l K G))) ⟨[(l,aq Y E)],[],N,J,[],U⟩ (.ok (.ret (.ref M))) ⟨[(l,aq Y E),(M,aq ms e1)],[S],N1,be,[],U⟩
noncomputable def oMc (w:WB)(aH bt:d){l K E N J U M e1 N1 be:Nat}{Y ms:LV}{S:aJ}{G:aw}{p:aw}(h:FR w l K E N J U M e1 N1 be Y ms S G p):aM w:= .fn _ _ aH bt [] _ _ _ h
def FT (w:WB)(K D av I l E N J U kk e1 i1 N1 be:Nat)(vv:ay)(ms:LV)(aO:bB)(S:aJ)(q:aw)(p:aw):Prop:=aP w (pV w.P K D av I q) p ((VV w).M.den (Ctx.code (pV w.P K D av I q))) (cU w.P cj D av I l none [] 0 ms E 0 [] [S] N J U) (.ok .next) (hC w.P cj D av I l (some (kk,vv)) (aR aO) e1 ms E i1 [] [S] N1 be U)
noncomputable def oOm (w:WB)(aH bt:d){K D av I l E N J U kk e1 i1 N1 be:Nat}{vv:ay}{ms:LV}{aO:bB}{S:aJ}{q:aw}{p:aw}(h:FT w K D av I l E N J U kk e1 i1 N1 be vv ms aO S q p):aM w:= .fn _ _ aH bt [] _ _ _ h
def FU (w:WB)(tx K N J U M e1 N1 be:Nat)(x:d)(Y:LV)(S:aJ)(G:aw)(p:aw):Prop:=aP w (wz w.P x tx K G) p ((VV w).M.den (Ctx.code (wz w.P x tx K G))) ⟨[],[],N,J,[],U⟩ (.ok (.ret (.ref M))) ⟨[(M,aq Y e1)],[S],N1,be,[],U⟩
noncomputable def oPk (w:WB)(aH bt:d){tx K N J U M e1 N1 be:Nat}{x:d}{Y:LV}{S:aJ}{G:aw}{p:aw}(h:FU w tx K N J U M e1 N1 be x Y S G p):aM w:= .fn _ _ aH bt [] _ _ _ h
def FW (w:WB)(M tw th K wd hd ts E N J U Sl e1 N1 be:Nat)(sg:d)(Y:LV)(bc:cC)(S:aJ)(G:aw)(p:aw):Prop:=aP w (qi w.P M tw th K wd hd ts sg G) p ((VV w).M.den (Ctx.code (qi w.P M tw th K wd hd ts sg G))) ⟨[(M,aq Y E)],[S],N,J,[],U⟩ (.ok (.ret (.ref Sl))) ⟨[(Sl,aq (aY bc) e1),(M,aq Y E)],[S],N1,be,[],U⟩
noncomputable def oSk (w:WB)(aH bt:d){M tw th K wd hd ts E N J U Sl e1 N1 be:Nat}{sg:d}{Y:LV}{bc:cC}{S:aJ}{G:aw}{p:aw}(h:FW w M tw th K wd hd ts E N J U Sl e1 N1 be sg Y bc S G p):aM w:= .fn _ _ aH bt [] _ _ _ h
def FX (w:WB)(K D1 aW ag A R I l e1 aa k ue M E N J U ka kb e2 N1 be:Nat)(va vb o1 o2:ay)(us ws Y:LV)(aO:bB)(S:aJ)(q:aw)(p:aw):Prop:=aP w (m4 w.P K D1 aW ag q) p ((VV w).M.den (Ctx.code (m4 w.P K D1 aW ag q))) ⟨(rN ag A R I l e1 aa k ue 0 o1 o2 us ws N J U).L++nY w.P K D1 aW M E 0 none [] Y,[S],N,J,[],U⟩ (.ok .next) ⟨[(l,aq us e1)]++nY w.P K D1 aW M E e2 (some ((ka,va),(kb,vb))) (aR aO) Y,[S],N1,be,[],U⟩
noncomputable def oTx (w:WB)(aH bt:d){K D1 aW ag A R I l e1 aa k ue M E N J U ka kb e2 N1 be:Nat}{va vb o1 o2:ay}{us ws Y:LV}{aO:bB}{S:aJ}{q:aw}{p:aw}(h:FX w K D1 aW ag A R I l e1 aa k ue M E N J U ka kb e2 N1 be va vb o1 o2 us ws Y aO S q p):aM w:= .fn _ _ aH bt [] _ _ _ h
def xC (w:WB)(hd wd th tw tc ts K N J U B ki ti ei el ea N1 be j1 j2 j3 j4 j5 j6 u1 u2 u3 u4:Nat)(sg:d)(G:aw)(p:aw):Prop:=aP w (uo w.P hd wd th tw tc ts K sg G) p ((VV w).M.den (Ctx.code (uo w.P hd wd th tw tc ts K sg G))) ⟨[],[],N,J,[],U⟩ (.ok (.ret (.ref (B+962+1)))) ⟨[(B+962+4,cq w.P ki hd ti ei),(B+962+3,aq [] el),(B+962+1,nL B),(B+962,Fm.obj w.P ⟨B,j1,j2,j3,j4,j5,j6,wd,u1,u2,u3,u4,sg⟩),(B+962+5,bJ (B+962+4) [] ea)],[],N1,be,[],U⟩
noncomputable def Ms (w:WB)(aH bt:d){hd wd th tw tc ts K N J U B ki ti ei el ea N1 be j1 j2 j3 j4 j5 j6 u1 u2 u3 u4:Nat}{sg:d}{G:aw}{p:aw}(h:xC w hd wd th tw tc ts K N J U B ki ti ei el ea N1 be j1 j2 j3 j4 j5 j6 u1 u2 u3 u4 sg G p):aM w:= .fn _ _ aH bt [] _ _ _ h
def xD (w:WB)(a2 ki ini ti ei ea el t0 tx ts K N J U k9 n9 t9 e9 a9 l9 N1 be kD:Nat)(vd t1 t2 u1 u2:az)(x sg:d)(Y ls:LV)(Sg:aJ)(G:aw)(p:aw):Prop:=aP w ⟨.call (.ref 112) ⟨[.ref (a2+1),Z [] t0,Z x tx,Z sg ts],[]⟩,none,none,cO w.P K G,none⟩ p ((VV w).M.den (Ctx.code ⟨.call (.ref 112) ⟨[.ref (a2+1),Z [] t0,Z x tx,Z sg ts],[]⟩,none,none,cO w.P K G,none⟩)) ⟨[(a2+4,cq w.P ki ini ti ei),(a2+3,aq [] el),(168,t1),(175,t2),(a2+1,{cls:= .ref 122,dict:=some a2}),(a2,vd),(a2+5,bJ (a2+4) [] ea)],[],N,J,[],U⟩ (.ok (.ret .none)) ⟨[(a2+4,cq w.P k9 n9 t9 e9),(a2+3,aq ls l9),(168,u1),(175,u2),(a2+1,{cls:= .ref 122,dict:=some a2}),(a2,vd),(a2+5,bJ (a2+4) Y a9)],[Sg],N1,be,[],kD⟩
noncomputable def Mt (w:WB)(aH bt:d){a2 ki ini ti ei ea el t0 tx ts K N J U k9 n9 t9 e9 a9 l9 N1 be kD:Nat}{vd t1 t2 u1 u2:az}{x sg:d}{Y ls:LV}{Sg:aJ}{G:aw}{p:aw}(h:xD w a2 ki ini ti ei ea el t0 tx ts K N J U k9 n9 t9 e9 a9 l9 N1 be kD vd t1 t2 u1 u2 x sg Y ls Sg G p):aM w:= .fn _ _ aH bt [] _ _ _ h
def xE (w:WB)(a2 ki ini ti ei ea el ts K N J U t N1 be kD:Nat)(vd t1 t2 u1 u2:az)(y:d)(Y ls:LV)(Sg:aJ)(G:aw)(p:aw):Prop:=aP w ⟨.call (.ref 70) ⟨[.ref (a2+1),Z [10] ts],[]⟩,none,none,cO w.P K G,none⟩ p ((VV w).M.den (Ctx.code ⟨.call (.ref 70) ⟨[.ref (a2+1),Z [10] ts],[]⟩,none,none,cO w.P K G,none⟩)) ⟨[(a2+4,cq w.P ki ini ti ei),(a2+3,aq ls el),(168,t1),(175,t2),(a2+1,{cls:= .ref 122,dict:=some a2}),(a2,vd),(a2+5,bJ (a2+4) Y ea)],[Sg],N,J,[],U⟩ (.ok (.ret (Z y t))) ⟨[(168,u1),(175,u2)],[],N1,be,[],kD⟩
noncomputable def Mu (w:WB)(aH bt:d){a2 ki ini ti ei ea el ts K N J U t N1 be kD:Nat}{vd t1 t2 u1 u2:az}{y:d}{Y ls:LV}{Sg:aJ}{G:aw}{p:aw}(h:xE w a2 ki ini ti ei ea el ts K N J U t N1 be kD vd t1 t2 u1 u2 y Y ls Sg G p):aM w:= .fn _ _ aH bt [] _ _ _ h
def xF (w:WB)(K D av I l E N J U kk e1 i1 N1 be:Nat)(vv:ay)(Y:LV)(aO:bB)(q:aw)(p:aw):Prop:=aP w (nZ w.P K D av I q) p ((VV w).M.den (Ctx.code (nZ w.P K D av I q))) (cU w.P cj D av I l none [] 0 Y E 0 [] [] N J U) (.ok .next) (hC w.P cj D av I l (some (kk,vv)) (aR aO) e1 Y E i1 [] [] N1 be U)
noncomputable def Mv (w:WB)(aH bt:d){K D av I l E N J U kk e1 i1 N1 be:Nat}{vv:ay}{Y:LV}{aO:bB}{q:aw}{p:aw}(h:xF w K D av I l E N J U kk e1 i1 N1 be vv Y aO q p):aM w:= .fn _ _ aH bt [] _ _ _ h
def FY (w:WB)(K D1 aW I l M E ue N J U kk e1 N1 be:Nat)(vv:ay)(us Y:LV)(aO:cC)(S:aJ)(q:aw)(p:aw):Prop:=aP w (l6 w.P K D1 aW I q) p ((VV w).M.den (Ctx.code (l6 w.P K D1 aW I q))) ⟨oX w.P K D1 aW I l M E ue 0 0 none [] us Y,[S],N,J,[],U⟩ (.ok .next) ⟨[(D1,hB w.P aN (some (kk,vv))),(aW,aq (aY aO) e1),(K+1,ba (some (.ref M))),(M,aq Y E)],[S],N1,be,[],U⟩
noncomputable def oOz (w:WB)(aH bt:d){K D1 aW I l M E ue N J U kk e1 N1 be:Nat}{vv:ay}{us Y:LV}{aO:cC}{S:aJ}{q:aw}{p:aw}(h:FY w K D1 aW I l M E ue N J U kk e1 N1 be vv us Y aO S q p):aM w:= .fn _ _ aH bt [] _ _ _ h
def FZ (w:WB)(t K N J U A e1 N1 be k0 H z k3 k4 k5 k6 k7 k8 k9 gK gL lh li jp:Nat)(v0 v1 v2 v3 v4 v5 v6 v7 v8 v9 v10 v11 BF BG BH:ay)(x:d)(eW:bB)(G:aw)(p:aw):Prop:=aP w (xA w.P x t K G) p ((VV w).M.den (Ctx.code (xA w.P x t K G))) ⟨[(K,fe w.P [(k0,v0),(H,v1),(z,v2),(k3,v3),(k4,v4),(k5,v5),(k6,v6),(k7,v7),(k8,v8),(k9,v9),(gK,v10),(gL,v11),(lh,BF),(li,BG),(jp,BH)])],[],N,J,[],U⟩ (.ok (.ret (.ref A))) ⟨[(A,aq (aR eW) e1),(K,d9 (BD w.P FN [(k0,v0),(H,v1),(z,v2),(k3,v3),(k4,v4),(k5,v5),(k6,v6),(k7,v7),(k8,v8),(k9,v9),(gK,v10),(gL,v11),(lh,BF),(li,BG),(jp,BH)]) 15 (lg K))],[],N1,be,[],U⟩
noncomputable def oXz (w:WB)(aH bt:d){t K N J U A e1 N1 be k0 H z k3 k4 k5 k6 k7 k8 k9 gK gL lh li jp:Nat}{v0 v1 v2 v3 v4 v5 v6 v7 v8 v9 v10 v11 BF BG BH:ay}{x:d}{eW:bB}{G:aw}{p:aw}(h:FZ w t K N J U A e1 N1 be k0 H z k3 k4 k5 k6 k7 k8 k9 gK gL lh li jp v0 v1 v2 v3 v4 v5 v6 v7 v8 v9 v10 v11 BF BG BH x eW G p):aM w:= .fn _ _ aH bt [] _ _ _ h
def F0 (w:WB)(M ao K eM eO N J U D e1 N1 be:Nat)(ms:LV)(ns:cC)(ds:bB)(S0 S:aJ)(G:aw)(p:aw):Prop:=aP w (xB w.P M ao K G) p ((VV w).M.den (Ctx.code (xB w.P M ao K G))) ⟨[(M,aq ms eM),(ao,aq (aY ns) eO)],[S0,S],N,J,[],U⟩ (.ok (.ret (.ref D))) ⟨[(M,aq ms eM),(ao,aq (aY ns) eO),(D,aq (aR ds) e1)],[S0,S],N1,be,[],U⟩
noncomputable def oDz (w:WB)(aH bt:d){M ao K eM eO N J U D e1 N1 be:Nat}{ms:LV}{ns:cC}{ds:bB}{S0 S:aJ}{G:aw}{p:aw}(h:F0 w M ao K eM eO N J U D e1 N1 be ms ns ds S0 S G p):aM w:= .fn _ _ aH bt [] _ _ _ h
theorem acR:aE w BE p (aA (.call (.ref 961) ⟨[.ref 962],[]⟩)) ⟨[(962,aq Y e)],[],N,J,[],U⟩ (.ok (.again (.func (cw w.P 961) (i5 w.P N)))) p ⟨[(N,fe w.P [(J,.ref 962)]),(N+1,ba none),(962,aq Y e)],[],(N+2),(J+1),[],U⟩:=
 w1 396 [] [1,0,0]
theorem acS (h0:Y.length<=100000){n5:Nat}{iC:cC}{kk8:Nat}{vv9:ay}(bT:uV w K (N+4) (N+3) (N+2) (N+1) 0 U (N+5) (J+1) ik aZ dK zm (eZ Y none (some 8)) ((n5,t6)::iC) (some (kk8,vv9)) sy sy)(fH:(aY ((n5,t6)::iC)).length<=100000):aE w (j0 w.P K) p (lk (j7 w.P 0 1) (i5 w.P K)) ⟨[(K,fe w.P [(k,.ref 962)]),(962,aq Y e)],[],N,J,[],U⟩ (.ok PySem.Flow.next) ⟨911,4,911,11⟩ ⟨[(K,fe w.P [(k,.ref 962),((dK+2),.ref (N+3))]),((N+3),aq (aY ((n5,t6)::iC)) ik),(962,aq Y e)],[],aZ,(dK+3),[],U⟩:=
 by revert w;exact @(kN 0xbdd18d54e38e724a9c739d 0x2f74635524a9c739d (λw bT=>[ug w [0,1] N 962 e J 8 h0,acP w [0,0,0,0] bT,cT w [1] (N+3) ik fH]) [6,0,4])
theorem acT (h0:Y.length<=100000)(h5:uV w K (N+4) (N+3) (N+2) (N+1) 0 U (N+5) (J+1) ik aZ dK zm (eZ Y none (some 8)) [] none sy sy):aE w (j0 w.P K) p (lk (j7 w.P 0 1) (i5 w.P K)) ⟨[(K,fe w.P [(k,.ref 962)]),(962,aq Y e)],[],N,J,[],U⟩ (.ok PySem.Flow.next) ⟨911,4,911,11⟩ ⟨[(K,fe w.P [(k,.ref 962),((dK+5),.ref aZ)]),(aZ,aq [.int 919 (dK+2),.int 4 (dK+3),.int 0 (dK+4)] 0),(962,aq Y e)],[],(aZ+1),(dK+6),[],U⟩:=
 by revert w;exact @(kN 0xded18d4e38e724a9c739d 0x37b463524a9c739d (λw h5=>[ug w [0,1] N 962 e J 8 h0,acQ w [0,0,0,0] h5,cT w [1] (N+3) ik (Y:=[]) (by decide)]) [7,0,5])
theorem acU {kk4:Nat}{vv5:ay}{Mw:bB}(h7:FO w K (N+2) (N+1) N A e U (N+3) J c7 aU aI CH kk4 vv5 Y Mw (bP w.b1 ⟨912,35,912,42⟩ yy) yy){s8:Nat}{acV:Nat}{F5:Nat}{jg:Nat}(cn:FP w K aU (aU+1) 0 A e U (aI+1) (aU+2) (aI+2) s8 lA acV F5 jg Y yz yz)(cz:((O s8).fdiv 20).fmod 3=O jp)(cP:jp<3){Mx:d}{My:Nat}(gS:((O s8).fdiv 60).fmod 6=O iY)(oQ:iY<=100000)(qe:[cu {cps:={toList:=[32]}} (jg+13),cu {cps:={toList:=[9,32]}} (jg+14),cu {cps:={toList:=[44,32]}} (jg+15),cu {cps:={toList:=[59,32,44]}} (jg+16),cu {cps:={toList:=[59]}} (jg+17),cu {cps:={toList:=[44,9]}} (jg+18)][iY]? =some (Z Mx My)):
  aE w (j0 w.P K) p (lk (j7 w.P 1 5) (i5 w.P K)) ⟨[(K,fe w.P [(k,.ref 962),(z,.ref A)]),(A,aq Y e)],[],N,J,[],U⟩ (.ok PySem.Flow.next) ⟨916,4,916,9⟩ ⟨[(K,fe w.P [(k,.ref 962),(z,.ref A),(aI,.ref (N+1)),(jg,.int (O s8) lA),((jg+5),.int (1+(O s8).fmod 20) (jg+4)),((jg+12),.int (O (jp*3)) (jg+11)),((jg+23),Z Mx My)]),((N+1),aq (aR Mw) c7)],[],(F5+1),(jg+24),[],U⟩:=
 by revert w;exact @(lx 0x1bd94a86ef742f7b85ef752cb58f157bd38e39c8618d 0x6f652a1bbdd0bdee17bdd4b2d63c55ef48618d (λw h7 cn=>[oWd w [0,0,0,1] h7,oSu w [0,0,3] cn,acE w (jg+9) (jg+10) cz cP,acF w [0] F5 0 (jg+22) gS oQ qe]) [7,5])
theorem acW {s:Nat}{ws:bB}{BI:Nat}{x5:d}(h6:FQ w B K e N J U t0 c1 s9 pK BI (aR ws) x5 yA yA){M7:Nat}{F6:LV}(cn:FR w B K e s9 (pK+1) BI M7 ou f9 lC (aR ws) F6 vW yB yB){acX:Nat}{Mz:Nat}{acY:Nat}{MA:Nat}{F7:Nat}{acZ:ay}{xG:bB}(oQ:FT w K (f9+2) (f9+1) f9 M7 ou (f9+3) (lC+2) BI acX Mz acY MA F7 acZ F6 xG vW ⟨919,42,919,47⟩ ⟨919,42,919,47⟩)(qe:(cr (λx=>x.fst.length) xG).sum<=100000)(rA:(x5 !=bp [] (cr aD xG))=false):aE w (j0 w.P K) p (lk (j7 w.P 6 3) (i5 w.P K)) ⟨[(K,fe w.P [(k,.ref 962),(z,.ref A),(k3,.ref B),(k4,.int (O s) t4),(k5,.int (O wd) t5),(k6,.int (O hd) t6),(k7,Z sg ts)]),(B,aq (aR ws) e),(912,fO)],[],N,J,[],U⟩ (.ok PySem.Flow.next) ⟨919,7,919,49⟩ ⟨[(K,fe w.P [(k,.ref 962),(z,.ref A),(k3,.ref B),(k4,.int (O s) t4),(k5,.int (O wd) t5),(k6,.int (O hd) t6),(k7,Z sg ts),(pK,Z x5 t0),(lC,.ref M7)]),(M7,aq F6 ou),(912,gB 846 20 c1)],[vW],MA,(F7+(0+fj xG)),[],BI⟩:=
 by revert w;exact @(jN 0x52a9c71ce430c6b5ad68e39d2 0x14aa430c6b5ad68e39d2 (λw h6 cn oQ=>[oJc w [2,1] [] h6,oMc w [1] [] cn,oOm w [0,0,0,1] [0] oQ,rM w [1] (lC+1) (f9+1) Mz qe,g9 w t0 (fh xG F7) rA]) [6,3,4] [0])
theorem adA {s M:Nat}{M0:Nat}{rX:LV}(h6:FU w tx K N J U M0 qV s9 pK x rX S5 yC yC){xH:Nat}{uW:cC}(bQ:FW w M0 t5 t6 K wd hd ts qV s9 pK U xH ou f9 lC sg rX uW S5 ⟨922,13,922,51⟩ ⟨922,13,922,51⟩)(cn:(aY uW).length<=100000)(b0:rX.length<=100000)(cz:(eZ (aY uW) (some 1) none).length+[bE (O rX.length) (lC+2+1)].length<=100000){adB:Nat}{adC:Nat}{MB:Nat}{MC:Nat}{F8:Nat}{adD:ay}{adE:ay}{MD:bB}(jW:FX w K (f9+10) (f9+9) (f9+8) (f9+6) (f9+7) (f9+4) xH ou (f9+5) (f9+3) 0 M0 qV (f9+11) (lC+4) U adB adC MB MC F8 adD adE mg mg (aY uW) (eZ (aY uW) (some 1) none++[bE (O rX.length) (lC+2+1)]) rX MD S5 ⟨923,12,923,113⟩ (bP w.b1 ⟨923,74,923,112⟩ ⟨923,12,923,113⟩)):aE w (j0 w.P K) p (lk (j7 w.P 9 3) (i5 w.P K)) ⟨[(K,fe w.P [(k,.ref 962),(z,.ref A),(k3,.ref B),(k4,.int (O s) t4),(k5,.int (O wd) t5),(k6,.int (O hd) t6),(k7,Z sg ts),(k8,Z x tx),(k9,.ref M)]),(K+1,ba none)],[],N,J,[],U⟩ (.ok PySem.Flow.next) ⟨923,4,923,9⟩ ⟨[(K,fe w.P [(k,.ref 962),(z,.ref A),(k3,.ref B),(k4,.int (O s) t4),(k5,.int (O wd) t5),(k6,.int (O hd) t6),(k7,Z sg ts),(k8,Z x tx),(k9,.ref M),(lC,.ref xH),(F8,.ref (f9+9))]),(K+1,ba (some (.ref M0))),(M0,aq rX qV),(xH,aq (aY uW) ou),((f9+9),aq (aR MD) MB)],[S5],MC,(F8+1),[],U⟩:=
 by revert w;exact @(jN 0x18c6318d3f4fd38e39c92a4a8618d4d398271d3a988c318ce70e74318ce39d2 0x6318c634fd3f492a4a8618d4d398271d3a988c318ce70e74318ce39d2 (λw h6 bQ jW=>[oPk w [] [] h6,oSk w [0] [0] bQ,TM w [0,0] f9 xH ou (lC+1) 1 cn,cT w [3] M0 qV b0,acH w [2,0] (f9+1) (f9+2) 0 0 cz,oTx w [2,3,2,3,8,2,2,0,0,5,2] [0] jW]) [8,3,3,0,1] [0])
theorem adF {s M:Nat}{t1:az}(h0:(aY bc).length<=100000)(h1:jy (eZ (aY bc) none (some 2)) [bE (O 0) (J+1),bE (O 0) (J+2)] true)(gS:xC w hd wd t6 t5 (J+5) ts K (N+3) (J+6) U B2 zv zw zx zy zA zB pL tj to tq tu tz tC tD tE tF tG sg sA sA)(oM:xD w (B2+962) zv hd zw zx zA zy (pL+1) tx ts K zB (pL+2) U zC zD zE zF zG zH zI tH zJ (Fm.obj w.P {B:=B2,H:=tj,z:=to,k3:=tq,k4:=tu,k5:=tz,k6:=tC,wd:=wd,tw:=tD,tc:=tE,tl:=tF,ts:=tG,sg:=sg}) t1 t2 zY zZ x sg z5 z6 zR sB sB)(mX:xE w (B2+962) zC zD zE zF zG zH tH K zI (tH+1) zJ tI lD pM tJ (Fm.obj w.P {B:=B2,H:=tj,z:=to,k3:=tq,k4:=tu,k5:=tz,k6:=tC,wd:=wd,tw:=tD,tc:=tE,tl:=tF,ts:=tG,sg:=sg}) zY zZ z0 z2 tL z5 z6 zR sC sC)(xI:xF w K (lD+2) (lD+1) lD Tq e3 (lD+3) (pM+2) tJ H8 zK H9 zL nt Ih (aR iE) gy yD yD)(F9:(cr (λx=>x.fst.length) gy).sum+gy.length*[10].length<=100000)(Ga:[10,32].length+(bp [10] (cr aD gy)).length<=100000)(Gb:(tL !=[10,32]++bp [10] (cr aD gy))=false):
  aE w (j0 w.P K) p (lk (j7 w.P 12 5) (i5 w.P K)) ⟨[(K,fe w.P [(k,.ref 962),(z,.ref A),(k3,.ref B),(k4,.int (O s) t4),(k5,.int (O wd) t5),(k6,.int (O hd) t6),(k7,Z sg ts),(k8,Z x tx),(k9,.ref M),(gK,.ref Sl),(gL,.ref Tq)]),(Sl,aq (aY bc) e2),(Tq,aq (aR iE) e3),(168,t1),(175,t2)],[],N,J,[],U⟩ (.ok PySem.Flow.next) yE ⟨[(K,fe w.P [(k,.ref 962),(z,.ref A),(k3,.ref B),(k4,.int (O s) t4),(k5,.int (O wd) t5),(k6,.int (O hd) t6),(k7,Z sg ts),(k8,Z x tx),(k9,.ref M),(gK,.ref Sl),(gL,.ref Tq),((J+4),Z [10,32] (J+3)),(pL,.ref (B2+962+1)),(pM,Z tL tI)]),(Sl,aq (aY bc) e2),(168,z0),(175,z2)],[],zL,(nt+(0+fj gy+cE [10,32] (bp [10] (cr aD gy)))),[],tJ⟩:=
 by revert w;exact @(sL 0xa954e38e72db7bbdef7ba9bc1e1e1ecfa57d5f59c0e0e0eafabeafa3def3de8c3469c739d 0x2a552db7bbdef7ba9bc1e1e1ecfa57d5f59c0e0e0eafabeafa3def3de8c3469c739d (λw gS oM mX xI=>[ug w [0,1] N Sl e2 J 2 h0,mM w [1,0] (N+1) (N+2) 0 0 h1,Ms w [] [] gS,Mt w [0,0,9,9,0,0,0] [] oM,Mu w [0,0,0,0,0,0,0] [0] mX,Mv w [0,0,0,7] [] xI,Iw w [1] (pM+1) (lD+1) zK F9,dY w (J+3) (fh gy nt) Ga,g9 w tI (cD [10,32] (bp [10] (cr aD gy)) (J+3) (fh gy nt) (nt+(0+fj gy))) Gb]) [10,9,4,4])
theorem adG {s M:Nat}{t1:az}(h0:(aY bc).length<=100000)(h1:jy (eZ (aY bc) none (some 2)) [bE (O 0) (J+1),bE (O 0) (J+2)] false)(gS:xC w hd wd t6 t5 (J+5) ts K (N+3) (J+6) U B2 zv zw zx zy zA zB pL tj to tq tu tz tC tD tE tF tG sg sA sA)(oM:xD w (B2+962) zv hd zw zx zA zy (pL+1) tx ts K zB (pL+2) U zC zD zE zF zG zH zI tH zJ (Fm.obj w.P {B:=B2,H:=tj,z:=to,k3:=tq,k4:=tu,k5:=tz,k6:=tC,wd:=wd,tw:=tD,tc:=tE,tl:=tF,ts:=tG,sg:=sg}) t1 t2 zY zZ x sg z5 z6 zR sB sB)(mX:xE w (B2+962) zC zD zE zF zG zH tH K zI (tH+1) zJ tI lD pM tJ (Fm.obj w.P {B:=B2,H:=tj,z:=to,k3:=tq,k4:=tu,k5:=tz,k6:=tC,wd:=wd,tw:=tD,tc:=tE,tl:=tF,ts:=tG,sg:=sg}) zY zZ z0 z2 tL z5 z6 zR sC sC)(xI:xF w K (lD+2) (lD+1) lD Tq e3 (lD+3) (pM+2) tJ H8 zK H9 zL nt Ih (aR iE) gy yD yD)(F9:(cr (λx=>x.fst.length) gy).sum+gy.length*[10].length<=100000)(Ga:([]:LV).length+(bp [10] (cr aD gy)).length<=100000)(Gb:(tL !=[]++bp [10] (cr aD gy))=false):
  aE w (j0 w.P K) p (lk (j7 w.P 12 5) (i5 w.P K)) ⟨[(K,fe w.P [(k,.ref 962),(z,.ref A),(k3,.ref B),(k4,.int (O s) t4),(k5,.int (O wd) t5),(k6,.int (O hd) t6),(k7,Z sg ts),(k8,Z x tx),(k9,.ref M),(gK,.ref Sl),(gL,.ref Tq)]),(Sl,aq (aY bc) e2),(Tq,aq (aR iE) e3),(168,t1),(175,t2)],[],N,J,[],U⟩ (.ok PySem.Flow.next) yE ⟨[(K,fe w.P [(k,.ref 962),(z,.ref A),(k3,.ref B),(k4,.int (O s) t4),(k5,.int (O wd) t5),(k6,.int (O hd) t6),(k7,Z sg ts),(k8,Z x tx),(k9,.ref M),(gK,.ref Sl),(gL,.ref Tq),((J+4),Z [] (J+3)),(pL,.ref (B2+962+1)),(pM,Z tL tI)]),(Sl,aq (aY bc) e2),(168,z0),(175,z2)],[],zL,(nt+(0+fj gy)),[],tJ⟩:=
 by revert w;exact @(sL 0xa954e38e72db7bbdef7ba9bc1e1e1ecfa57d5f59c0e0e0eafabeafa3def3de8c3469c739d 0x2a552db7bbdef7ba9bc1e1e1ecfa57d5f59c0e0e0eafabeafa3def3de8c3469c739d (λw gS oM mX xI=>[ug w [0,1] N Sl e2 J 2 h0,mM w [1,0] (N+1) (N+2) 0 0 h1,Ms w [] [] gS,Mt w [0,0,9,9,0,0,0] [] oM,Mu w [0,0,0,0,0,0,0] [0] mX,Mv w [0,0,0,7] [] xI,Iw w [1] (pM+1) (lD+1) zK F9,dY w (a:=[]) (b:=bp [10] (cr aD gy)) (J+3) (fh gy nt) Ga,g9 w tI (cD [] (bp [10] (cr aD gy)) (J+3) (fh gy nt) (nt+(0+fj gy))) Gb]) [10,9,4,4])
theorem adH {s M lh li ma Q:Nat}{le:d}{S:aJ}{kk0:Nat}{vv4:ay}{gc:cC}(h6:FY w K (N+2) (N+1) N Sl Q E e2 (N+3) J U kk0 qV s9 pK vv4 (aY bc) Y gc S0 yF (bP w.b1 ⟨930,77,930,83⟩ yF)){A7:Nat}{ME:bB}(bQ:FZ w ty K s9 (pK+1) U A7 ou f9 lC k z k3 k4 k5 k6 k7 k8 k9 gK gL lh li jp pK (aQ 962) (aQ A) (aQ B) (bE (O s) t4) (bE (O wd) t5) (bE (O hd) t6) (cu {cps:={toList:=sg}} ts) (cu {cps:={toList:=x}} tx) (aQ M) (aQ Sl) (aQ Tq) (cu {cps:={toList:=le}} tl) (aQ ma) (cu {cps:={toList:=y}} ty) (aQ (N+1)) y ME yG yG){MF:Nat}{MG:Nat}{MH:Nat}{MI:Nat}{MJ:bB}(iO:F0 w M (N+1) K eM qV f9 lC U MF MG MH MI ms gc MJ S0 S yH yH)(dM:jy (aR ME) (aR MJ) true):
  aE w (j0 w.P K) p (lk (j7 w.P 17 2) (i5 w.P K)) ⟨[(K,fe w.P [(k,.ref 962),(z,.ref A),(k3,.ref B),(k4,.int (O s) t4),(k5,.int (O wd) t5),(k6,.int (O hd) t6),(k7,Z sg ts),(k8,Z x tx),(k9,.ref M),(gK,.ref Sl),(gL,.ref Tq),(lh,Z le tl),(li,.ref ma),(jp,Z y ty)]),(Sl,aq (aY bc) e2),(K+1,ba (some (.ref Q))),(Q,aq Y E),(M,aq ms eM)],[S0,S],N,J,[],U⟩ (.ok (PySem.Flow.ret (.bool true))) ⟨931,11,931,52⟩ ⟨[],[],MH,MI,[],U⟩:=
 by revert w;exact @(jN 0x5659d686327957bd38e39c8618d 0x159675a18c9e55ef48618d (λw h6 bQ iO=>[oOz w [0,0,0,1,1,1] [0] h6,oXz w [4] [] bQ,oDz w [6,3] [0,0] iO,mM w [3,2] A7 MF ou MG dM]))
noncomputable def rY (P:aF)(K i n:Nat):Sem Flow:=lk (j7 P i n) (i5 P K)
theorem adI (l:List (Int×Nat))(h:∀x∈l,0<=x.1):eT l=aY (l.map λx=>(x.1.toNat,x.2)):=by
 delta eT aY
 rw [eF]
 refine u6 λx hx=> ?_
 show bE x.1 x.2= .int (O x.1.toNat) x.2
 congr 1
 exact(Int.toNat_of_nonneg (h x hx)).symm
theorem lq1 {aL:List (Int×Nat)}(hl:aL.length<=63):∃(ns:cC) (am:Nat×Nat×Nat×Nat×Nat),ns≠[]/\ns.length<=8/\(∀n∈ns,n.1<10000)/\ aE w (j0 w.P K) p (rY w.P K 0 1) ⟨[(K,fe w.P [(k,.ref 962)]),(962,aq (eT aL) e)],[],N,J,[],U⟩ (.ok .next) ⟨911,4,911,11⟩ ⟨[(K,fe w.P [(k,.ref 962),(am.1,.ref am.2.1)]),(am.2.1,aq (aY ns) am.2.2.1),(962,aq (eT aL) e)],[],am.2.2.2.1,am.2.2.2.2,[],U⟩:=by
 have h0:(eT aL).length<=100000:=by delta eT;rw [bA];lia
 have e1:eZ (eT aL) none (some 8)=eT (aL.take 8):=by rw [CT];delta eT;rw [ml]
 refine ix (RD (w:=w) (K:=K) (D:=N+4) (av:=N+3) (I:=N+2) (l:=N+1) (E:=0) (U:=U) (aL:=aL.take 8) (ac:=cO w.P K sy) (by rw [mj];lia) (N:=N+5) (J:=J+1) (e:=0) (p:=sy)) λo aO e' N' au f1 f2 f3 f4=> ?_
 have hr:∀x∈aO,0<=x.1/\x.1<10000:=λx hx=>by
  have:x.1∈aO.map aD:=dS.mpr ⟨x,hx,rfl⟩
  rw [f1]at this
  refine bX (dS.mp this) λy _ h=> ?_
  rw [<-h]
  exact⟨Int.fmod_nonneg_of_pos _ (by decide),Int.fmod_lt_of_pos _ (by decide)⟩
 have b6:aO.length<=8:=by
  have:=congrArg dn f1
  rw [bA,bA,mj]at this
  lia
 rw [adI aO λx hx=>(hr x hx).1]at f4
 cases aO with
 |nil=>
  have hs:aL.take 8=[]:=by
   have:=congrArg dn f1
   rw [bA,bA]at this
   exact sd.mp this.symm
  have ho:=f2 hs
  subst ho
  exact GK [(919,_),(4,_),(0,_)] (_,_,_,_,_) (by simp) (by simp) (by simp) (acT h0 (by delta uV;rw [aT,e1];exact f4))
 |cons y aO=>
  refine fK (f3 (λh=>by rw [h]at f1;cases f1)) λkk vv fM=> ?_
  subst fM
  refine GK ((y.1.toNat,y.2)::aO.map λx=>(x.1.toNat,x.2)) (_,_,_,_,_) (by simp) (by simpa using b6) ?_ (acS h0 (by unfold uV;rw [aT,e1];exact f4) (by delta aY;simp at b6⊢;lia))
  intro n hn
  rw [<-bY (f:=λx:Int×Nat=>(x.1.toNat,x.2))]at hn
  refine bX (dS.mp hn) λx hx mu=> ?_
  subst mu
  have:=hr x hx
  show x.1.toNat<10000
  lia
noncomputable def uX:List d:=[[32],[9,32],[44,32],[59,32,44],[59],[44,9]]
theorem ML (a b:Nat):(O a).fdiv (O b)=O (a/b):=(Int.ofNat_fdiv a b).symm
theorem Gc (a b:Nat):(O a).fmod (O b)=O (a%b):=(Int.fmod_eq_emod_of_nonneg (O a) (b:=O b) (GD _)).trans rfl
structure P2 where
 k3:Nat
 k4:Nat
 k5:Nat
 k6:Nat
 k7:Nat
 B:Nat
 e:Nat
 s:Nat
 t4:Nat
 t5:Nat
 t6:Nat
 wd:Nat
 hd:Nat
 ts:Nat
 N:Nat
 J:Nat
 sg:d
noncomputable def P2.fr (k z A:Nat)(m:P2):List (Nat×ay):=[(k,.ref 962),(z,.ref A),(m.k3,.ref m.B),(m.k4,.int (O m.s) m.t4),(m.k5,.int (O m.wd) m.t5),(m.k6,.int (O m.hd) m.t6),(m.k7,Z m.sg m.ts)]
theorem lq2 (h0:ns≠[])(hl:ns.length<=8)(hn:∀n∈ns,n.1<10000):∃(ws:bB) (m:P2),ws.map aD=ns.map (λn=>gM n.1)/\(m.hd<=900/\m.sg∈uX)/\ aE w (j0 w.P K) p (rY w.P K 1 5) ⟨[(K,fe w.P [(k,.ref 962),(z,.ref A)]),(A,aq (aY ns) e)],[],N,J,[],U⟩ (.ok .next) ⟨916,4,916,9⟩ ⟨[(K,fe w.P (m.fr k z A)),(m.B,aq (aR ws) m.e)],[],m.N,m.J,[],U⟩:=by
 refine GH (RH (w:=w) (K:=K) (D:=N+2) (av:=N+1) (I:=N) (l:=A) (E:=e) (U:=U) (q:=yy) c5 (λx hx=>by have:=hn x hx;lia) h0 (N:=N+3) (J:=J) (e:=0) (p:=bP w.b1 ⟨912,35,912,42⟩ yy)) λkk vv aO e' N' au f1 f2=>
  fK (IQ (w:=w) (own:=none) (past:=none) (below:=cO w.P K yz) (I:=N') (S:=N'+1) (eS:=0) (l:=A) (E:=e) (N:=N'+2) (U:=U) (aL:=ns) (λx hx=>by have:=hn x hx;lia) c5 ns.length 0 (ta:=au+1) (J:=au+2) (p:=yz) ji (b7 _)) λt' hD g=> ?_
 generalize 0+ny (ns.drop 0)=s at g
 have hs3:s/20%3<3:=Nat.mod_lt _ (by decide)
 have l0:s/60%6<6:=Nat.mod_lt _ (by decide)
 have e15:((O s).fdiv 20).fmod 3=O (s/20%3):=by
  rw [show((O s).fdiv 20)=O (s/20)from ML s 20];exact Gc (s/20) 3
 have e20:((O s).fdiv 60).fmod 6=O (s/60%6):=by
  rw [show((O s).fdiv 60)=O (s/60)from ML s 60];exact Gc (s/60) 6
 have ew:1+(O s).fmod 20=O (1+s%20):=by
  rw [show((O s).fmod 20)=O (s%20)from Gc s 20];rfl
 have eK:∃(x:d) (tx:Nat),x∈uX/\[Z [32] (hD+13),Z [9,32] (hD+14),Z [44,32] (hD+15),Z [59,32,44] (hD+16),Z [59] (hD+17),Z [44,9] (hD+18)][s/60%6]? =some (Z x tx):=by
  generalize s/60%6=n at l0
  rcases n with _|_|_|_|_|_|n<;>first|exact fL _ _ (by decide) rfl|exact absurd l0 (by lia)
 refine gu (eK) λsg tx hm hx=> ?_
 have am:=acU (w:=w) (K:=K) (k:=k) (z:=z) (A:=A) (e:=e) (N:=N) (J:=J) (U:=U) (Y:=aY ns) (p:=p) (by unfold FO;rw [aT];exact f2) (by unfold FP;rw [aT];exact g) e15 hs3 e20 (by lia) hx
 rw [ew]at am
 exact qx aO ⟨_,_,_,_,_,_,_,s,_,_,_,1+s%20,s/20%3*3,_,_,_,sg⟩ f1 ⟨by show s/20%3*3<=900;lia,hm⟩ am
theorem sum_bound {α:Type}(f:α->Nat)(k:Nat):∀(l:List α),(∀x∈l,f x<=k)->(l.map f).sum<=k*l.length:=by
 intro l
 induction l with
 |nil=>
  intro _
  exact fv _
 |cons x l aS=>
  intro h
  have h1:=h x (.head _)
  have h2:=aS λy hy=>h y (.tail _ hy)
  rw [bY,uY,cy,Nat.mul_succ]
  lia
noncomputable def dz (ws:bB):d:=bp [32] ((ws.map aD).map bW)
structure rZ (ws:bB):Prop where
 ne:ws≠[]
 len:ws.length<=8
 x:∀x∈ws,x.1.length<=4/\∀c∈x.1,fk c=true
structure P3 where
 k8:Nat
 k9:Nat
 tx:Nat
 M:Nat
 e:Nat
 N:Nat
 J:Nat
 U:Nat
 c:Nat
noncomputable def P3.fr (ws:bB)(f:List (Nat×ay))(m:P3):List (Nat×ay):=f++[(m.k8,Z (dz ws) m.tx),(m.k9,.ref m.M)]
theorem lq3 {ws:bB}{m:P2}(hw:rZ ws):∃(os:List MK) (u:P3),os.map MK.key=eU 0 (ws.map aD)/\ aE w (j0 w.P K) p (rY w.P K 6 3) ⟨[(K,fe w.P (m.fr k z A)),(m.B,aq (aR ws) m.e),(912,fO)],[],N,J,[],U⟩ (.ok .next) ⟨919,7,919,49⟩ ⟨[(K,fe w.P (u.fr ws (m.fr k z A))),(u.M,aq (cL os) u.e),(912,gB 846 20 u.c)],[os.map MK.ent],u.N,u.J,[],u.U⟩:=by
 have bD:ws.map aD≠[]:=λh=>hw.ne (xY.mp h)
 have MM:∀x∈ws.map aD,x.length<=4/\∀c∈x,fk c=true:=λx hx=>by
  refine bX (dS.mp hx) λy hy fM=> ?_
  subst fM
  exact hw.x y hy
 have hq:((ws.map λx=>(bW x.1).length).sum+ws.length)<=100000:=by
  have:=sum_bound (λx:d×Nat=>(bW x.1).length) 22 ws λx hx=>by
   have h1:=(Fh (hw.x x hx).2).2.1
   have h2:=(hw.x x hx).1
   show(bW x.1).length<=22
   lia
  have:=hw.len
  lia
 refine o9 (R5 (w:=w) (Gn:=N+6) (Fj:=N) (F:=N+5) (ae:=N+4) (I:=N+1) (l:=m.B) (E:=m.e) (g:=U) (k:=J+7) (t1:=J+1) (aX:=J+8) (bg:=J+9) (K:=K) (N:=N+7) (J:=J+10) (U:=U+1) (p:=yh) (q1:=yh) (G:=yA) (aL:=ws) (by have:=hw.len;lia) (λx hx=>⟨(hw.x x hx).2,by have:=(hw.x x hx).1;lia⟩) hw.ne hq (by lia)) λt' N1 be kv g1=> ?_
 have j:=R6 (p:=yA) g1
 have el:bp [32] (ws.map λx=>bW x.1)=dz ws:=by delta dz;rw [eF];rfl
 rw [el]at j
 refine iT (SV (w:=w) (l:=m.B) (E:=m.e) (K:=K) (N:=N1) (J:=be+1) (U:=U+1) (p:=yB) (G:=yB) (by have:=hw.len;lia) (λx hx=>⟨λy hy=>LR ((hw.x x hx).2 y hy),by have:=(hw.x x hx).1;lia⟩)) λM os e' N2 eR f1 g2=>
  cB (Mr (ws.map aD) 0 λx hx=>(MM x hx).1) λBJ xJ=> ?_
 rw [<-f1]at BJ xJ
 rw [bA,bA]at BJ
 have dp:os.length<=56:=by have:=hw.len;lia
 have Gd:os≠[]:=λh=>by
  rw [h]at f1
  have:=congrArg (λl=>((l.map aD).flatten:d)) f1
  rw [FK,if_pos (.inl rfl),cZ]at this
  obtain⟨⟨⟨c,r,hc,_⟩,_⟩,_⟩:=Fi bD MM
  rw [hc]at this
  have h2:([]:d)=c::r:=this
  cases h2
 obtain⟨⟨kk,vv⟩,aO,e2,N3,qf,f2,g3⟩:=Tg (w:=w) (K:=K) (I:=N2) (l:=M) (E:=e') (e:=0) (ms:=os) c5 Gd
 have wu:(aO.map λx=>x.1.length).sum<=100000:=by
  have e:(aO.map λx=>x.1.length)=(os.map MK.wr).map dn:=by rw [<-f2,eF];rfl
  rw [e,eF]
  have:=sum_bound (dn ∘ MK.wr) 50 os λx hx=>(xJ x.key (dS.mpr ⟨x,hx,rfl⟩)).1
  lia
 have adJ:(dz ws !=bp [] (aO.map aD))=false:=by
  have e:os.map MK.wr=(os.map MK.key).map aD:=by rw [eF];rfl
  rw [acJ,f2,e,f1,FK,if_pos (.inl rfl),cZ]
  simp [dz]
 have am:=acW (w:=w) (K:=K) (k:=k) (z:=z) (k3:=m.k3) (k4:=m.k4) (k5:=m.k5) (k6:=m.k6) (k7:=m.k7) (A:=A) (B:=m.B) (e:=m.e) (s:=m.s) (t4:=m.t4) (t5:=m.t5) (t6:=m.t6) (wd:=m.wd) (hd:=m.hd) (ts:=m.ts) (N:=N) (J:=J) (U:=U) (sg:=m.sg) (ws:=ws) (p:=p) (by unfold FQ;rw [aT];exact j) (by unfold FR;exact g2) (by unfold FT;rw [aT];exact g3) wu adJ
 exact fL os ⟨_,_,_,_,_,_,_,_,_⟩ f1 am
theorem adK (n:Nat):∀(l:d) (a:Nat),l.Pairwise (·< ·)->(∀x∈l,a<=x/\x<n)->l.length<=n-a:=by
 intro l
 induction l with
 |nil=>
  intro _ _ _
  exact fv _
 |cons x l aS=>
  intro a h hx
  have h1:=hx x (.head _)
  have h2:=aS (x+1) (iw.mp h).2 λy hy=>⟨(iw.mp h).1 y hy,(hx y (.tail _ hy)).2⟩
  rw [cy]
  lia
theorem adL (n:Nat):∀(l:d),(l++[n]).Pairwise (·<= ·)->∀y∈l.zip (l.tail++[n]),y.1<=y.2/\y.2<=n:=by
 intro l
 induction l with
 |nil=>
  intro _ y hy
  cases hy
 |cons a rq aS=>
  cases rq with
  |nil=>
   intro h y hy
   have:y=(a,n):=by simpa using hy
   subst this
   exact⟨(iw.mp h).1 n (.head _),b7 _⟩
  |cons b r=>
   intro h y hy
   have h2:=iw.mp h
   have hy:y∈(a,b)::(b::r).zip ((b::r).tail++[n]):=hy
   rcases gr.mp hy with rfl|hy
   ·exact⟨h2.1 b (.head _),(r9.mp h).2.2 b (.tail _ (.head _)) n (.head _)⟩
   ·exact aS h2.2 y hy
theorem Ge {st r:d}(h:qm n st r):(st++[n]).Pairwise (·<= ·)/\st.length<=n+1/\st≠[]:=by
 refine ii (h) λhs hm hl=> ?_
 have h0:(0::r++[n]).Pairwise (·<= ·):=by
  rw [r9]
  refine⟨hm.imp n6,xS _ _,λa ha b hb=> ?_⟩
  rw [jI.mp hb]
  exact n6 (hl a ha)
 have b6:=adK n (0::r) 0 hm λx hx=>⟨fv _,hl x hx⟩
 rw [cy]at b6
 rcases hs with rfl|rfl
 ·exact⟨h0,by rw [cy];lia,by simp⟩
 ·exact⟨iw.mpr ⟨λ_ _=>fv _,h0⟩,by rw [cy,cy];lia,by simp⟩
structure P4 where
 gK:Nat
 gL:Nat
 Sl:Nat
 T:Nat
 Q:Nat
 e1:Nat
 e2:Nat
 e3:Nat
 N:Nat
 J:Nat
noncomputable def P4.fr (f:List (Nat×ay))(m:P4):List (Nat×ay):=f++[(m.gK,.ref m.Sl),(m.gL,.ref m.T)]
theorem BK {ws:bB}(hw:rZ ws):Bg (cQ (dz ws))/\bs (cQ (dz ws))=dz ws/\(∀k∈cQ (dz ws),∀c∈k.1,bU c=true)/\(∃c r,dz ws=c::r/\bU c=false)/\(dz ws).length<=184/\∀c∈dz ws,fk c=true:=by
 have bD:ws.map aD≠[]:=λh=>hw.ne (xY.mp h)
 refine mo (Fi bD λx hx=>by
  refine bX (dS.mp hx) λy hy fM=> ?_
  subst fM
  exact hw.x y hy) λ⟨a1,a2⟩ a3 a4 a5=> ?_
 have hl:=hw.len
 rw [bA]at a3 a4
 refine ii (ZF a1 a2 (by lia) (by lia)) λb1 b2 b3=> ?_
 exact⟨b1,b2,b3,a1,by show(bp [32] _).length<=184;lia,a5⟩
theorem lq4 {ws:bB}{m:P2}{u:P3}(hw:rZ ws)(eK:m.sg∈uX):∃(ps:List PT) (bc:cC) (iE:bB) (r:d) (v:P4),ps.map PT.key=cQ (dz ws)/\bc.map aD=nK (cQ (dz ws)) m.wd m.hd m.sg (cQ (dz ws)).length/\iE.map aD=jD (cQ (dz ws)) (bc.map aD)/\qm (cQ (dz ws)).length (bc.map aD) r/\ aE w (j0 w.P K) p (rY w.P K 9 3) ⟨[(K,fe w.P (u.fr ws (m.fr k z A))),(K+1,ba none)],[],N,J,[],U⟩ (.ok .next) ⟨923,4,923,9⟩ ⟨[(K,fe w.P (v.fr (u.fr ws (m.fr k z A)))),(K+1,ba (some (.ref v.Q))),(v.Q,aq (bm ps) v.e1),(v.Sl,aq (aY bc) v.e2),(v.T,aq (aR iE) v.e3)],[ps.map PT.ent],v.N,v.J,[],U⟩:=by
 refine se (BK hw) λpk hf nJ hc b6 pC=> ?_
 have tY:dz ws≠[]:=by obtain⟨c,r,h,_⟩:=hc;rw [h];simp
 refine oc (TF (w:=w) (tx:=u.tx) (K:=K) (N:=N) (J:=J) (U:=U) (p:=yC) (G:=yC) tY c5 (λy hy=>LR (pC y hy))) λQ ps e1 N1 be f1 dr g1=> ?_
 have ku:ps.length=(cQ (dz ws)).length:=by rw [<-f1,bA]
 have cK:∀x∈ps,x.g.length<=1000/\x.x.length<=1000:=λx hx=>pk.sz x.key (f1▸dS.mpr ⟨x,hx,rfl⟩)
 have MN:=pk.len
 have kB:1<=ps.length:=nb.mpr dr
 have rm:cQ (dz ws)≠[]:=λh=>by rw [h]at f1;exact dr (xY.mp f1)
 have xK:m.sg.length<=3/\m.sg≠[]:=by
  have:∀x∈uX,x.length<=3/\x≠[]:=by decide
  exact this _ eK
 obtain⟨Sl,bc,am,f2,g2⟩:=YJ (by lia) kB cK
  (λi h=>⟨pk.g1 i ps[i+1].key (by rw [<-f1,iv,cm h];rfl),pk.tx ps[i].key (f1▸dS.mpr ⟨ps[i],gt _,rfl⟩)⟩) xK.1 xK.2
 rw [f1,ku]at f2
 refine cB (JN rm pk.sp pk.g0 pk.g1 pk.tx (width:=m.wd) (head:=m.hd) (sg:=m.sg)) λ_ I=> ?_
 rw [<-f2]at I
 refine dT (ZC I rm) λr hr=>
  ii (Ge hr) λGf dF fT=> ?_
 rw [bA]at dF
 have MO:bc≠[]:=λh=>fT (by rw [h];rfl)
 generalize MP:(ps.length,am.2.2+2+1)=tn
 have Gg:bc.length=(bc.tail++[tn]).length:=by
  cases bc with
  |nil=>exact absurd rfl MO
  |cons a l=>simp
 have m1:(bc.zip (bc.tail++[tn])).map aD=bc:=List.map_fst_zip (BM Gg)
 have m2:(bc.zip (bc.tail++[tn])).map iu=bc.tail++[tn]:=List.map_snd_zip (BM Gg.symm)
 have hz:(bc.zip (bc.tail++[tn])).map (λy=>(y.1.1,y.2.1))=(bc.map aD).zip ((bc.map aD).tail++[ps.length]):=by
  have e:(bc.map aD).tail++[ps.length]=(bc.tail++[tn]).map aD:=by rw [cx,<-MP,List.map_tail];rfl
  rw [e,List.zip_map];rfl
 have lJ:∀y∈bc.zip (bc.tail++[tn]),y.1.1<=y.2.1/\y.2.1<=ps.length:=λy hy=>by
  have:=adL ps.length (bc.map aD) (by rw [ku];exact Gf) (y.1.1,y.2.1) (by rw [<-hz];exact dS.mpr ⟨y,hy,rfl⟩)
  exact this
 have hzl:(bc.zip (bc.tail++[tn])).length=bc.length:=by have:=congrArg dn m1;rw [bA]at this;exact this
 obtain⟨o',aO,r3,⟨q1,G,_⟩,g3⟩:=YX (by lia) cK lJ (by lia)
  (bc.zip (bc.tail++[tn])).length 0 none .none .none [] 0 (am.2.1+11) (am.2.2+4) (bP w.b1 ⟨923,74,923,112⟩ ⟨923,12,923,113⟩) (kI _) (fv _)
 obtain⟨⟨⟨ka,va⟩,⟨kb,vb⟩⟩,rfl⟩:=G (by rw [hzl];exact λh=>MO (sd.mp h))
 rw [m1,m2]at g3
 have MQ:eZ (aY bc) (some 1) none++[bE (O (bm ps).length) (am.2.2+2+1)]=aY (bc.tail++[tn]):=by
  have e:eZ (aY bc) (some 1) none=(aY bc).drop 1:=by
   have hh:slicePick ⟨aY bc⟩ (some (O 1)) none none=⟨(aY bc).drop 1⟩:=slicePick_from' ⟨aY bc⟩ 1
   show(slicePick ⟨aY bc⟩ (some (O 1)) none none).toList=_
   rw [hh]
  rw [e,<-MP]
  delta aY bm
  rw [cx,bA,List.drop_one,List.map_tail]
  rfl
 rw [<-MQ]at g3
 have zz:=adA (k:=k) (z:=z) (k3:=m.k3) (k4:=m.k4) (k5:=m.k5) (k6:=m.k6) (k7:=m.k7) (A:=A) (B:=m.B) (s:=m.s) (t4:=m.t4) (k8:=u.k8) (k9:=u.k9) (M:=u.M) (p:=p)
  (by delta FU;exact g1) (by delta FW;rw [aT];exact g2) (by delta aY;rw [bA];lia) (by unfold bm;rw [bA];lia) (by rw [<-ci,MQ];unfold aY;rw [bA,<-Gg];lia) (by unfold FX;rw [aT];exact g3)
 refine vk ps bc aO r ⟨_,_,_,_,_,_,_,_,_,_⟩ f1 f2 ?_ hr zz
 rw [q1,n7,cZ,iS,f1]
 unfold jD
 rw [<-ku,<-hz,eF]
 rfl
theorem adM (ao:Nat->Bool):∀(x:d) (p:Nat),(dq ao p x).length<=2*x.length:=by
 intro x
 induction x with
 |nil=>
  intro _
  exact b7 _
 |cons c x aS=>
  intro p
  have:=aS (p+1)
  show((if ao p then [10]else [])++c::dq ao (p+1) x).length<=_
  rw [ci,cy,cy]
  split<;>simp<;>lia
theorem MR:∀(l:List d),(l.map dn).sum+l.length<=(bp [10] l).length+1:=by
 intro l
 induction l with
 |nil=>
  simp
 |cons x rq aS=>
  cases rq with
  |nil=>
   simp [bp]
  |cons y r=>
   have:=aS
   rw [rl (by simp),bY,uY,ci,ci,cy]
   simp at this⊢
   lia
noncomputable def foldOf (ks:b8)(st:d):d:=(if st.take 2=[0,0]then [10,32]else [])++bp [10] ((jD ks st).filter λt=>t !=[])
theorem MS {st r:d}(hp:∀k∈ks,k.2≠[])(h:qm ks.length st r):(foldOf ks st).length<=2+2*(bs ks).length/\(bp [10] ((jD ks st).filter λt=>t !=[])).length<=2*(bs ks).length:=by
 refine ii (Ff hp h) λe1 _ _=> ?_
 have e2:(bp [10] ((jD ks st).filter λt=>t !=[])).length<=2*(bs ks).length:=by
  rw [e1,Fe hp r 0 h.2.1 h.2.2,iS]
  exact adM _ _ _
 refine⟨?_,e2⟩
 delta foldOf
 rw [ci]
 split<;>simp<;>lia
structure MT (s:FS):Prop where
 ne:s.cur≠[]
 len:s.cur.length<=45
 sz:∀v∈s.cur,v.1.length<=1000/\v.2.length<=1000
 tx:∀v∈s.cur,v.2≠[]
 sp:(bs s.cur).all Unicode.isSpace=false
 ini:s.ini<=900
theorem Gh {ae:b8}(hK:ae.length=ks.length)(hl:ks.length<=45)(ha:a<ae.length)(hs:∀v∈ae,(v.1.length<=1000/\v.2.length<=1000)/\v.2≠[])(iH:∃y c,bs ae=y++[c]/\Unicode.isSpace c=false)(hi:ini<=900){lines:List d}:MT ⟨(ae.take ae.length).drop a,ini,lines⟩:=by
 rw [xU]
 have bD:ae.drop a≠[]:=λh=>by
  have:=congrArg dn h
  rw [na]at this
  simp at this
  lia
 refine⟨bD,by rw [na];lia,λv hv=>(hs v (sb hv)).1,λv hv=>(hs v (sb hv)).2,?_,hi⟩
 refine gu (iH) λy c e hc=> ?_
 have hf:bs (ae.drop a)≠[]:=JM bD λk hk=>(hs k (sb hk)).2
 have e2:bs (ae.take a)++bs (ae.drop a)=y++[c]:=by rw [<-xv,oa,e]
 have hm:c∈bs (ae.drop a):=by
  have h2:=congrArg List.getLast? e2
  rw [BZ,BZ]at h2
  cases h3:(bs (ae.drop a)).getLast? with
  |none=>exact absurd (List.getLast?_eq_none_iff.mp h3) hf
  |some ah=>
   rw [h3]at h2
   have:ah=c:=by simpa using h2
   subst this
   exact aeJ h3
 show(bs (ae.drop a)).all Unicode.isSpace=false
 rw [GE]
 intro h
 rw [o5.mp h c hm]at hc
 cases hc
theorem adN {st:d}{s:FS}(pk:Bg ks)(bD:ks≠[])(iH:∃y c,bs ks=y++[c]/\Unicode.isSpace c=false)(hh:head<=900)(I:Inv ks head st ks.length s):MT s:=by
 have hs:∀v∈ks,(v.1.length<=1000/\v.2.length<=1000)/\v.2≠[]:=λv hv=>⟨pk.sz v hv,pk.tx v hv⟩
 have lO:0<ks.length:=nb.mpr bD
 rcases I with⟨rfl,rfl⟩|⟨hl,hh,I⟩|⟨u,rfl,hh,I⟩
 ·exact Gh rfl pk.len lO hs iH hh
 ·obtain⟨cur,ini,lines⟩:=s
  have h1:ini=0:=I.ini
  have h2:cur=_:=I.cur
  subst h1 h2
  exact Gh rfl pk.len I.lt hs iH (fv _)
 ·obtain⟨cur,ini,lines⟩:=s
  have h1:ini=0:=I.ini
  have h2:cur=_:=I.cur
  subst h1 h2
  have hK:(iI ks).length=ks.length:=(p6 ks).1
  rw [<-hK]
  refine Gh hK pk.len (by rw [hK];exact I.lt) (λv hv=> ?_) ?_ (fv _)
  ·cases ks with
   |nil=>exact absurd rfl bD
   |cons x r=>
    have hv:v∈(if x.1=[]then [32]else x.1,x.2)::r:=hv
    rcases gr.mp hv with rfl|hv
    ·have:=hs x (.head _)
     refine⟨⟨?_,this.1.2⟩,this.2⟩
     show(if x.1=[]then [32]else x.1).length<=1000
     split
     ·simp
     ·exact this.1.1
    ·exact hs v (.tail _ hv)
  ·refine gu (iH) λy c e hc=> ?_
   cases ks with
   |nil=>exact absurd rfl bD
   |cons x r=>
    have h0:=pk.g0 x rfl
    refine fL (32::y) c ?_ hc
    have e1:bs (iI (x::r))=((if x.1=[]then [32]else x.1)++x.2)++bs r:=rfl
    have e2:bs (x::r)=(x.1++x.2)++bs r:=rfl
    rw [e1,if_pos h0]
    rw [e2,h0]at e
    show 32::(x.2++bs r)=32::(y++[c])
    rw [<-e];rfl
structure P5 where
 lh:Nat
 li:Nat
 jp:Nat
 tl:Nat
 ty:Nat
 ma:Nat
 N:Nat
 J:Nat
 U:Nat
 le:d
noncomputable def P5.fr (y:d)(f:List (Nat×ay))(m:P5):List (Nat×ay):=f++[(m.lh,Z m.le m.tl),(m.li,.ref m.ma),(m.jp,Z y m.ty)]
theorem adO {ws:bB}(hw:rZ ws):∃y c,bs (cQ (dz ws))=y++[c]/\Unicode.isSpace c=false:=by
 refine se (BK hw) λ_ hf _ _ _ pC=> ?_
 have bD:ws.map aD≠[]:=λh=>hw.ne (xY.mp h)
 obtain⟨⟨_,y,c,e,hc⟩,_⟩:=Fi bD λx hx=>by
  refine bX (dS.mp hx) λy hy mu=> ?_
  subst mu
  exact hw.x y hy
 have e:dz ws=y++[c]:=e
 refine fL y c (by rw [hf,e]) ?_
 have ha:=pC c (by rw [e];simp)
 rcases C3 ha with rfl|rfl|rfl|rfl|rfl|rfl|rfl|rfl|rfl
 all_goals first|(cases hc;done)|rfl|decide
theorem lq5 {ws:bB}{m:P2}{u:P3}{v:P4}{r:d}{t1:az}(hw:rZ ws)(eK:m.sg∈uX)(MU:m.hd<=900)(gF:bc.map aD=nK (cQ (dz ws)) m.wd m.hd m.sg (cQ (dz ws)).length)(BL:iE.map aD=jD (cQ (dz ws)) (bc.map aD))(hr:qm (cQ (dz ws)).length (bc.map aD) r)(hT:oJ t1/\oK t2):∃(o:P5) (u1 u2:az),(oJ u1/\oK u2)/\aE w (j0 w.P K) p (rY w.P K 12 5) ⟨[(K,fe w.P (v.fr (u.fr ws (m.fr k z A)))),(v.Sl,aq (aY bc) v.e2),(v.T,aq (aR iE) v.e3),(168,t1),(175,t2)],[],N,J,[],U⟩ (.ok .next) yE ⟨[(K,fe w.P (o.fr (foldOf (cQ (dz ws)) (bc.map aD)) (v.fr (u.fr ws (m.fr k z A))))),(v.Sl,aq (aY bc) v.e2),(168,u1),(175,u2)],[],o.N,o.J,[],o.U⟩:=by
 refine se (BK hw) λpk hf nJ hc b6 pC=>
  ii (Ge hr) λGf dF fT=> ?_
 rw [bA]at dF
 have MN:=pk.len
 have rm:cQ (dz ws)≠[]:=by
  refine gu (hc) λc r h _=> ?_
  intro h2
  rw [h2]at hf
  rw [h]at hf
  cases hf
 have xK:(∀c∈m.sg,c<128)/\m.sg≠[]:=by
  have:∀x∈uX,(∀c∈x,c<128)/\x≠[]:=by decide
  exact this _ eK
 refine cB (JN rm pk.sp pk.g0 pk.g1 pk.tx (width:=m.wd) (head:=m.hd) (sg:=m.sg)) λGi I=> ?_
 rw [<-gF]at Gi I
 have fin:=adN pk rm (adO hw) MU I
 refine cB (MS pk.tx hr) λGj adP=> ?_
 rw [hf]at Gj adP
 have MV:(aY bc).length<=100000:=by delta aY;rw [bA];lia
 have hle:∀(a b:Nat),jy (eZ (aY bc) none (some 2)) [bE (O 0) a,bE (O 0) b] ((bc.map aD).take 2==[0,0]):=λa b=>by
  have h:=Jz (bc.take 2) [(0,a),(0,b)]
  rw [ml]at h
  rw [CT]
  have e:(aY bc).take 2=aY (bc.take 2):=by delta aY;rw [ml]
  rw [e]
  exact h
 refine GI (XS (w:=w) (hd:=m.hd) (wd:=m.wd) (th:=m.t6) (tw:=m.t5) (tc:=J+5) (ts:=m.ts) (K:=K) (N:=N+3) (J:=J+6) (U:=U) (sg:=m.sg) (p:=sA) (G:=sA)) λmm ki ti ei el ea N1 be MW MX g1=> ?_
 obtain⟨B,j1,j2,j3,j4,j5,j6,wd,tw,tc,tl,ts,sg⟩:=mm
 dsimp only at MW MX
 subst MW MX
 refine vh (XC (w:=w) (m:=⟨B,j1,j2,j3,j4,j5,j6,m.wd,tw,tc,tl,ts,m.sg⟩) (t0:=be+1) (tx:=u.tx) (ts:=m.ts) (K:=K) (N:=N1) (J:=be+2) (U:=U) (x:=dz ws) (sg:=m.sg) (f:=⟨[],[],[],ki,m.hd,ti,ei,ea,el,t1,t2⟩) (p:=sB) (G:=sB) hT rfl hc c5 pk MU xK.1 xK.2) λf N2 eR EK fok ffs g2=> ?_
 rw [<-ffs]at Gi fin
 have MY:bp [10] (kT f.fs)=foldOf (cQ (dz ws)) (bc.map aD):=Gi
 have hge:=MR (kT f.fs)
 rw [MY]at hge
 have uK:((kT f.fs).map dn).sum=(f.ls.map λx=>x.1.length).sum+bx (f.us.map TU.key)/\(kT f.fs).length=f.ls.length+1:=by
  delta kT
  rw [cx,List.sum_append,ci]
  refine⟨?_,by show(f.ls.map aD).length+1=_;rw [bA]⟩
  congr 1
  ·show((f.ls.map aD).map dn).sum=_;rw [eF];rfl
  ·show(bs (f.us.map TU.key)).length=_;exact qh _
 refine GH (XN (w:=w) (m:=⟨B,j1,j2,j3,j4,j5,j6,m.wd,tw,tc,tl,ts,m.sg⟩) (ts:=eR) (K:=K) (N:=N2) (J:=eR+1) (U:=EK) (p:=sC) (G:=sC) fok (λh=>fin.ne (by show f.us.map TU.key=[];rw [h];rfl)) (by have:=fin.len;rw [show f.fs.cur=f.us.map TU.key from rfl,bA]at this;exact this) (λx hx=>fin.sz x.key (dS.mpr ⟨x,hx,rfl⟩)) (λx hx=>fin.tx x.key (dS.mpr ⟨x,hx,rfl⟩)) fin.sp fin.ini (by lia) (by lia)) λty N3 qf rE u1 u2 hU g3=> ?_
 rw [MY]at g3
 have adQ:iE≠[]:=λh=>by
  rw [h]at BL
  have:=congrArg dn BL
  unfold jD at this
  rw [bA,bA,List.length_zip,ci,List.length_tail,bA]at this
  have h2:=nb.mpr (λh=>fT (by rw [h];rfl):bc≠[])
  simp at this
  lia
 have oh:iE.length<=1000:=by
  have:=congrArg dn BL
  unfold jD at this
  rw [bA,bA,List.length_zip,bA]at this
  lia
 obtain⟨⟨kk,vv⟩,am,g4⟩:=Ze oh adQ
 have r4:(iE.filter λx=>x.1 !=[]).map aD=(jD (cQ (dz ws)) (bc.map aD)).filter λt=>t !=[]:=by
  rw [<-BL,List.filter_map];rfl
 have Gk:=MR ((iE.filter λx=>x.1 !=[]).map aD)
 rw [r4]at Gk
 have MZ:((iE.filter λx=>x.1 !=[]).map λx=>x.1.length).sum+(iE.filter λx=>x.1 !=[]).length*[10].length<=100000:=by
  rw [<-r4,eF,bA]at Gk
  have e:((iE.filter λx=>x.1 !=[]).map λx=>x.1.length)=(iE.filter λx=>x.1 !=[]).map (dn ∘ aD):=rfl
  rw [e]
  rw [r4]at Gk
  show _+_*1<=_
  lia
 by_cases ht:(bc.map aD).take 2=[0,0]
 ·have h1:=hle (J+1) (J+2)
  rw [beq_iff_eq.mpr ht]at h1
  have zz:=adF (k:=k) (z:=z) (k3:=m.k3) (k4:=m.k4) (k5:=m.k5) (k6:=m.k6) (k7:=m.k7) (A:=A) (B:=m.B) (s:=m.s) (t4:=m.t4) (k8:=u.k8) (k9:=u.k9) (M:=u.M) (gK:=v.gK) (gL:=v.gL) (Sl:=v.Sl) (e2:=v.e2) (p:=p) MV h1
   (by delta xC;rw [aT];exact g1) (by delta xD;rw [aT];exact aK.same g2 (.refl _) rfl bH (.refl _) rfl bH) (by delta xE;rw [aT];exact g3) (by delta xF;rw [aT];exact g4) MZ (by rw [r4];show 2+_<=_;lia)
   (by
    rw [r4]
    delta foldOf
    rw [if_pos ht]
    simp)
  exact j9 ⟨_,_,_,_,_,_,_,_,_,_⟩ u1 u2 hU zz
 ·have h1:=hle (J+1) (J+2)
  rw [beq_eq_false_iff_ne.mpr ht]at h1
  have zz:=adG (k:=k) (z:=z) (k3:=m.k3) (k4:=m.k4) (k5:=m.k5) (k6:=m.k6) (k7:=m.k7) (A:=A) (B:=m.B) (s:=m.s) (t4:=m.t4) (k8:=u.k8) (k9:=u.k9) (M:=u.M) (gK:=v.gK) (gL:=v.gL) (Sl:=v.Sl) (e2:=v.e2) (p:=p) MV h1
   (by unfold xC;rw [aT];exact g1) (by unfold xD;rw [aT];exact aK.same g2 (.refl _) rfl ⟨rfl,rfl,rfl⟩ (.refl _) rfl ⟨rfl,rfl,rfl⟩) (by unfold xE;rw [aT];exact g3) (by unfold xF;rw [aT];exact g4) MZ (by rw [r4];show 0+_<=_;lia)
   (by
    rw [r4]
    unfold foldOf
    rw [if_neg ht]
    simp)
  exact j9 ⟨_,_,_,_,_,_,_,_,_,_⟩ u1 u2 hU zz
theorem adR (ao:Nat->Bool):∀(ms:List (d×d×Int)) (s:List d×Nat),(ms.foldl (gV ao) s).1.length<=s.1.length+ms.length:=by
 intro ms
 induction ms with
 |nil=>
  intro s
  exact b7 _
 |cons m ms aS=>
  intro s
  have h1:=aS (gV ao s m)
  have h2:(gV ao s m).1.length<=s.1.length+1:=by
   delta gV
   have e:(if m.2.2=O s.1.length then s.1++[[]]else s.1).length<=s.1.length+1:=by split<;>simp
   dsimp only
   split
   ·exact e
   ·rw [List.length_set];exact e
  rw [qv,cy]
  lia
theorem lq6 {ws:bB}{m:P2}{u:P3}{v:P4}{o:P5}{os:List MK}{r:d}(hw:rZ ws)(dr:ps.map PT.key=cQ (dz ws))(dp:os.map MK.key=eU 0 (ws.map aD))(hr:qm (cQ (dz ws)).length (bc.map aD) r):∃(am:Nat×Nat×Nat),aE w (j0 w.P K) p (rY w.P K 17 2) ⟨[(K,fe w.P (o.fr (foldOf (cQ (dz ws)) (bc.map aD)) (v.fr (u.fr ws (m.fr k z A))))),(v.Sl,aq (aY bc) v.e2),(K+1,ba (some (.ref v.Q))),(v.Q,aq (bm ps) v.e1),(u.M,aq (cL os) u.e)],[ps.map PT.ent,os.map MK.ent],N,J,[],U⟩ (.ok (.ret (.bool true))) ⟨931,11,931,52⟩ ⟨[],[],am.1,am.2.1,[],am.2.2⟩:=by
 refine se (BK hw) λpk hf nJ hc b6 pC=> ?_
 refine ii (Ge hr) λGf dF fT=> ?_
 rw [bA]at dF
 have MN:=pk.len
 have ku:ps.length=(cQ (dz ws)).length:=by rw [<-dr,bA]
 have cK:∀x∈ps,x.g.length<=1000/\x.x.length<=1000:=λx hx=>pk.sz x.key (dr▸dS.mpr ⟨x,hx,rfl⟩)
 have bD:ws.map aD≠[]:=λh=>hw.ne (xY.mp h)
 refine cB (MS pk.tx hr) λGj _=> ?_
 rw [hf]at Gj
 have hle:∀x∈bc,x.1<=ps.length:=λx hx=>by
  have h2:x.1∈bc.map aD:=dS.mpr ⟨x,hx,rfl⟩
  rw [ku]
  refine ii (hr) λhs _ hl=> ?_
  rcases hs with hs|hs
  ·rw [hs]at h2;exact n6 (hl _ h2)
  ·rw [hs]at h2
   rcases gr.mp h2 with h2|h2
   ·lia
   ·exact n6 (hl _ h2)
 refine vg (Y6 (w:=w) (K:=K) (D1:=N+2) (aW:=N+1) (I:=N) (l:=v.Sl) (M:=v.Q) (E:=v.e1) (ue:=v.e2) (U:=U) (q:=yF) (by lia) cK hle (by lia) bc.length 0 none [] 0 (N+3) J (bP w.b1 ⟨930,77,930,83⟩ yF) (kI _) (fv _)) λob aO am ⟨q1,G,_⟩ g1=> ?_
 obtain⟨⟨kk,vv⟩,rfl⟩:=G λh=>fT (by rw [sd.mp h];rfl)
 rw [iS,n7,cZ,dr]at q1
 have lex:=ZB bD hf pk.tx nJ pk.g1 hr
 rw [<-q1]at lex
 obtain⟨BJ,xJ⟩:=Mr (ws.map aD) 0 λx hx=>by
  refine bX (dS.mp hx) λy hy mu=> ?_
  subst mu
  exact(hw.x y hy).1
 rw [<-dp,bA,bA]at BJ
 rw [<-dp]at xJ
 have w9:=hw.len
 have Gd:os≠[]:=λh=>by
  rw [h]at dp
  have:=congrArg (λl=>((l.map aD).flatten:d)) dp
  rw [FK,if_pos (.inl rfl),cZ]at this
  refine gu (hc) λc r hc _=> ?_
  have hc:bp [32] ((ws.map aD).map bW)=c::r:=hc
  rw [hc]at this
  have h2:([]:d)=c::r:=this
  cases h2
 have adS:foldOf (cQ (dz ws)) (bc.map aD)≠[]:=λh=>by
  refine ii (Ff pk.tx hr) λe1 _ _=> ?_
  delta foldOf at h
  rw [e1,Fe pk.tx r 0 hr.2.1 hr.2.2,iS,hf]at h
  refine gu (hc) λc l hc _=> ?_
  rw [hc]at h
  have h2:=(No.mp h).2
  have h3:=(No.mp (show(if _ then [10]else [])++c::dq _ _ l=[]from h2)).2
  cases h3
 have hdl:(uS (λp=>decide (p∈aO.map aD)) (eU 0 (ws.map aD))).length<=1000:=by
  have:=adR (λp=>decide (p∈aO.map aD)) (eU 0 (ws.map aD)) ([],0)
  rw [<-dp,bA]at this
  rw [<-dp]
  delta uS
  simp at this⊢
  lia
 refine gu (abL (w:=w) (t:=o.ty) (K:=K) (N:=am.2.1) (J:=am.2.2+1) (U:=U) (n3:=15) (l3:=BD w.P FN ((o.fr (foldOf (cQ (dz ws)) (bc.map aD)) (v.fr (u.fr ws (m.fr k z A))))++[(am.2.2,.ref (N+1))])) (p:=yG) (G:=yG) adS (by lia) lex hdl) λeW zs s1 s2=>
  gu (acB (w:=w) (K:=K) (M:=u.M) (ao:=N+1) (eM:=u.e) (eO:=am.1) (N:=zs.2.2.1) (J:=zs.2.2.2) (U:=U) (ns:=aO) (p:=yH) (G:=yH) (by lia) (λm hm=>xJ m.key (dS.mpr ⟨m,hm,rfl⟩)) dp Gd) λds zd d1 d2=> ?_
 have heq:jy (aR eW) (aR ds) true:=by
  have h:=TQ eW ds
  rw [s1,d1,beq_self_eq_true]at h
  exact h
 have zz:=adH (p:=p)
  (by delta FY;rw [aT];exact g1) (by delta FZ;rw [aT];exact s2)
  (by
   unfold F0
   rw [aT]
   exact aK.frame d2 (A:=ps.map PT.ent) (B:=[]) (by
    simp only [aC.all,ck,ce,bk]
    rw [bK]
    exact cY.append_left _) (.refl _) ⟨rfl,rfl,rfl⟩ (by
    simp only [aC.all,ck,ce,bk]
    rw [bK]
    exact cY.append_left _) (.refl _) ⟨rfl,rfl,rfl⟩) heq
 exact⟨(_,_,_),zz⟩
theorem adT (env:Env)(b:List Stmt):∀(a:List Stmt),execs (a++b) env=(execs a env>>=λf=>match f with| .next=>execs b env|f=>Pure.pure f):=by
 intro a
 induction a with
 |nil=>
  exact rfl
 |cons s a aS=>
  rw [eB,execs_cons,execs_cons,LawfulMonad.bind_assoc]
  refine bind_congr λf=> ?_
  cases f with
  |next=>exact aS
  |_=>rfl
section
variable {V:EV}{X:Type}{Γ:bd}{p p₁ p':aw}{C bq C':aC}
theorem xL {a b:List Stmt}{r:Res Flow}(h1:ax V Γ p (execs a env) C (.ok .next) p₁ bq)(h2:ax V Γ p₁ (execs b env) bq r p' C'):ax V Γ p (execs (a++b) env) C r p' C':=by
 rw [adT]
 exact ax.bind h1 h2
theorem ax.re {t:Sem X}{r:Res X}{L a b:aJ}{T:List aJ}{is:d}(hp:ff L is=some (a,b))(h:ax V Γ p t ⟨a++b,T,N,J,ai,U⟩ r p' C'):ax V Γ p t ⟨L,T,N,J,ai,U⟩ r p' C':=
 aK.same h ((mr hp).append_right _) rfl bH (.refl _) rfl bH
end
variable {w:WB}
theorem adU (P:aF):cw P 961=j7 P 0 1++(j7 P 1 5++(j7 P 6 3++(j7 P 9 3++(j7 P 12 5++j7 P 17 2)))):=by kernel_rfl
theorem adV {ws:bB}(h:ws.map aD=ns.map λn=>gM n.1)(h0:ns≠[])(hl:ns.length<=8)(hn:∀n∈ns,n.1<10000):rZ ws:=by
 have b6:ws.length=ns.length:=by have:=congrArg dn h;rw [bA,bA]at this;exact this
 refine⟨λq=>h0 (sd.mp (by rw [<-b6,q];rfl)),by lia,λx hx=> ?_⟩
 have:x.1∈ns.map λn=>gM n.1:=h▸dS.mpr ⟨x,hx,rfl⟩
 refine bX (dS.mp this) λn hn2 e=> ?_
 rw [<-e]
 exact⟨Mp 4 n.1 (hn n hn2),acI n.1⟩
theorem adW {aL:List (Int×Nat)}{t1:az}(hl:aL.length<=63)(hT:oJ t1/\oK t2):∃(u1 u2:az) (am:Nat×Nat×Nat×Nat),(oJ u1/\oK u2)/\cW (VV w) BE p ((VV w).M.den (.call (.ref 961) ⟨[.ref 962],[]⟩)) ⟨[(962,aq (eT aL) e)]++[(912,fO),(168,t1),(175,t2)],[]++[],N,J,[],U⟩ (.ok (.ret (.bool true))) ⟨[]++[(168,u1),(175,u2),(912,gB 846 20 am.1),(962,aq (eT aL) e)],[]++[],am.2.1,am.2.2.1,[],am.2.2.2⟩:=by
 refine Nu (lq1 (w:=w) (K:=N) (k:=J) (e:=e) (N:=N+2) (J:=J+1) (U:=U) (p:=p) hl) λns z1 n0 n1 n2 g1=> ?_
 obtain⟨ws,m,w0,⟨m0,m1⟩,g2⟩:=lq2 n0 n1 n2
 have hw:=adV w0 n0 n1 n2
 refine gu (lq3 (w:=w) (K:=N) (k:=J) (z:=z1.1) (A:=z1.2.1) (N:=m.N) (J:=m.J) (U:=U) (m:=m) (p:=⟨916,4,916,9⟩) hw) λos u o0 g3=>
  vj (lq4 (w:=w) (K:=N) (k:=J) (z:=z1.1) (A:=z1.2.1) (N:=u.N) (J:=u.J) (U:=u.U) (u:=u) (p:=⟨919,7,919,49⟩) hw m1) λps bc iE r v p0 s0 x0 hr g4=>
  vg (lq5 (w:=w) (K:=N) (k:=J) (z:=z1.1) (A:=z1.2.1) (N:=v.N) (J:=v.J) (U:=u.U) (m:=m) (u:=u) (v:=v) (p:=⟨923,4,923,9⟩) hw m1 m0 s0 x0 hr hT) λo u1 u2 hU g5=> ?_
 refine dT (lq6 (w:=w) (K:=N) (k:=J) (z:=z1.1) (A:=z1.2.1) (N:=o.N) (J:=o.J) (U:=o.U) (m:=m) (u:=u) (v:=v) (o:=o) (p:=yE) hw p0 o0 hr) λam g6=> ?_
 unfold rY at g1 g2 g3 g4 g5 g6
 rw [<-xQ]at g1 g2 g3 g4 g5 g6
 have g0:=aK.more [(912,fO),(168,t1),(175,t2)] [] (acR (w:=w) (e:=e) (N:=N) (J:=J) (U:=U) (Y:=eT aL) (p:=p))
 refine j9 u1 u2 (u.c,am.1,am.2.1,am.2.2) hU ?_
 rw [aT w]
 refine ax.again (by kernel_rfl) g0 ?_
 rw [aT w]
 show cW (VV w) (j0 w.P N) p (aA (.func (cw w.P 961) (i5 w.P N))) _ _ _
 refine wI (f:= .ret (.bool true)) (p':=⟨931,11,931,52⟩) ?_
 rw [adU]
 refine ax.re (is:=[0,1]) rfl ?_
 refine xL (aK.more [(N+1,ba none),(912,fO),(168,t1),(175,t2)] [] g1) ?_
 refine xL (aK.more [(962,aq (eT aL) e),(N+1,ba none),(912,fO),(168,t1),(175,t2)] [] g2) ?_
 refine ax.re (is:=[0,0,2]) rfl ?_
 refine xL (aK.more [(962,aq (eT aL) e),(N+1,ba none),(168,t1),(175,t2)] [] g3) ?_
 refine ax.re (is:=[0,3]) rfl ?_
 refine xL (aK.more [(u.M,aq (cL os) u.e),(912,gB 846 20 u.c),(962,aq (eT aL) e),(168,t1),(175,t2)] [os.map MK.ent] g4) ?_
 refine ax.re (is:=[0,2,2,5,5]) rfl ?_
 refine xL (aK.more [(N+1,ba (some (.ref v.Q))),(v.Q,aq (bm ps) v.e1),(u.M,aq (cL os) u.e),(912,gB 846 20 u.c),(962,aq (eT aL) e)] [ps.map PT.ent,os.map MK.ent] g5) ?_
 refine ax.re (is:=[0,0,2,2,2]) rfl ?_
 exact aK.more [(168,u1),(175,u2),(912,gB 846 20 u.c),(962,aq (eT aL) e)] [] g6
theorem adX (P:aF):(qX 1 0 (oq P)).map aD=Ij:=by kernel_rfl
theorem adY (w:f8):Cz ⟨w,w.params.followText "comprehension-iter-twice",w.params.followText "special-get-raises"⟩=w:=by
 refine congrArg (λf=>({w with params:={w.params with followText:=f}}:f8)) (?_:_=w.params.followText)
 funext r
 cases h1:pb r "comprehension-iter-twice" with
 |true=>rw [B8 h1]
 |false=>
  cases h2:pb r "special-get-raises" with
  |true=>rw [B8 h2]
  |false=>rfl
theorem adZ {w:f8}{l:LV}(y:we dj=wf w)(keeps:∀b o,dj.heap.get? b=some o->bG.heap.get? b=some o)(hs:bG.heap.objs.size=963)(hg:bG.gens= #[])(hl:bG.heap.get? 962=some (aq l e)):Rep ⟨pw,w,oq w.params⟩ ⟨[(962,aq l e)]++[(912,fO),(168,fO),(175,fO)],[]++[],963,bG.toks,[],0⟩ bG:=by
 delta we wf at y
 simp only [Prod.mk.injEq]at y
 refine mo (y) λ_ _ y1 y2=> ?_
 have h0:∀x∈qX 1 0 (oq w.params),dj.heap.get? x.1=some x.2:=by
  rw [<-adX w.params,eF]at y1
  exact Qo y1
 have ak:=CO (oq w.params) 1 0 h0
 simp only [bY,n7,List.cons.injEq,and_true]at y2
 refine ii (y2) λa1 a2 a3=> ?_
 refine⟨λx hx=> ?_,λa o h=>keeps _ _ ?_,λx hx=>(nomatch hx),(show([962,912,168,175]:d).Nodup by decide),λx hx=> ?_,.nil,hs,rfl,(by rw [hg];rfl)⟩
 ·simp [aC.all]at hx
  rcases hx with rfl|rfl|rfl|rfl
  ·exact hl
  ·exact keeps _ _ a3
  ·exact keeps _ _ a1
  ·exact keeps _ _ a2
 ·have:=KT.Holds.get ak h
  rw [Nat.one_mul,Gx]at this
  exact this
 ·simp [aC.all]at hx
  rcases hx with rfl|rfl|rfl|rfl<;>kernel_rfl
theorem aeA {ns:List Int}(h:IntsAre Y ns):∃aL:List (Int×Nat),Y=eT aL/\aL.length=ns.length:=by
 induction h with
 |nil=>exact da [] rfl rfl
 |cons n t _ ih=>
  refine bX ih λaL e hl=> ?_
  exact da ((n,t)::aL) (by rw [e];rfl) (by rw [cy,cy,hl])
theorem aeB {w:f8}{aL:List (Int×Nat)}(hl:aL.length<=63)(y:we dj=wf w)(keeps:∀b o,dj.heap.get? b=some o->bG.heap.get? b=some o)(hs:bG.heap.objs.size=963)(hg:bG.gens= #[])(h:bG.heap.get? 962=some (aq (eT aL) e)):∃s',Runs (model pw w) BE default ((model pw w).den (.call (.ref 961) ⟨[.ref 962],[]⟩)) [] bG (.ret (.ok (.ret (.bool true)))) s'/\OldK bG.heap s'.heap/\s'.os=bG.os/\AllBare s'.gens:=by
 have R:=adZ y keeps hs hg h
 refine vg (adW (w:=⟨w,w.params.followText "comprehension-iter-twice",w.params.followText "special-get-raises"⟩) (e:=e) (N:=963) (J:=bG.toks) (U:=0) (aL:=aL) (t1:=fO) (t2:=fO) (p:=default) hl ⟨.inl rfl,.inl rfl⟩) λu1 u2 am ⟨f1,f2⟩ W=> ?_
 unfold VV WB.P at W
 rw [adY]at W
 refine bX (W bG R) λs' g r=> ?_
 have Rr:=R.top
 have code:∀{c b:Nat} {o:az} {Y:Array ay},(oq w.params).get c=some o->o.cls= .type "code"->o.data= .fields Y->Y[11]? =some (.ref b)->isCodeTable bG.heap b:=λh1 h2 h3 h4=>⟨_,_,_,Rr _ _ h1,h2,h3,h4⟩
 have grow:∀{b:Nat} {t:az},isCodeTable bG.heap b->bG.heap.get? b=some fO->s'.heap.get? b=some t->(t=fO\/∃x y c,t=gB x y c)->∀o,bG.heap.get? b=some o->asItWas bG.heap s'.heap b o:=λhc h1 h2 ht o ho=>by
  rw [h1]at ho
  cases ho
  rcases ht with rfl|⟨x,y,c,rfl⟩
  ·exact .inl h2
  ·exact .inr (.inl ⟨hc,rfl,#[],#[.int (O x) 0,.int (O y) 0,.ref c],rfl,h2⟩)
 have old:∀b o,bG.heap.get? b=some o->asItWas bG.heap s'.heap b o:=λb o hb=>by
  by_cases e1:b=168
  ·subst e1
   exact grow (code (c:=172) (o:=HI) (by kernel_rfl) rfl rfl rfl) (R.led (168,fO) (by simp [aC.all])) (g.rep.led (168,u1) (by simp [aC.all])) (f1.imp id λ⟨c,h⟩=>⟨_,_,c,h⟩) o hb
  by_cases e2:b=175
  ·subst e2
   exact grow (code (c:=179) (o:=HJ) (by kernel_rfl) rfl rfl rfl) (R.led (175,fO) (by simp [aC.all])) (g.rep.led (175,u2) (by simp [aC.all])) (f2.imp id λ⟨c,h⟩=>⟨_,_,c,h⟩) o hb
  by_cases e3:b=912
  ·subst e3
   exact grow (code (c:=916) (o:=HK) (by kernel_rfl) rfl rfl rfl) (R.led (912,fO) (by simp [aC.all])) (g.rep.led (912,gB 846 20 am.1) (by simp [aC.all])) (.inr ⟨_,_,_,rfl⟩) o hb
  by_cases e4:b=962
  ·subst e4
   rw [h]at hb
   cases hb
   exact .inl (g.rep.led (962,aq (eT aL) e) (by simp [aC.all]))
  ·exact .inl (g.kept.heap b o hb λm=>by
    have m:b∈([962,912,168,175]:d):=m
    simp only [gr,List.not_mem_nil,or_false]at m
    rcases m with m|m|m|m
    ·exact e4 m
    ·exact e3 m
    ·exact e1 m
    ·exact e2 m)
 refine Ny s' r ⟨old,λb o hb=> ?_⟩ g.kept.os (g.kept.bare (by rw [hg];intro x hx;simp at hx))
 rcases old b o hb with q|⟨_,_,_,_,_,q⟩|⟨_,_,⟨_,_,_,q,_⟩,_⟩
 ·exact⟨_,q⟩
 ·exact⟨_,q⟩
 ·exact⟨_,q⟩
theorem aeC {M:Model}{s':bI}{Q aj:ay->aw->bI->Prop}(h:Runs M BE default (M.den (.call (.ref 961) ⟨[.ref 962],[]⟩)) [] s (.ret (.ok (.ret v))) s')(q:Q v default s'):Sem.wp M za (PySem.call (.ref 961) [.ref 962]) Q aj default s:=by
 show Sem.wp M za (Sem.call _ none false [] _>>=_) Q aj default s
 rw [Sem.wp_bind',Sem.wp_call]
 exact⟨_,_,h,q⟩
theorem script_obj {R:WRecords}{w:f8}{ns:List Int}{a:Addr}{as:List Addr}(L:Laid R w dj bG [ofPy (PyData.list (ns.map PyData.int))] [.ref a] as):∃l e,bG.heap.get? a=some (aq l e):=by
 obtain⟨ord,_,e⟩:=L.laid
 simp only [ofPy,layAllW,layW]at e
 cases q:layAllW R (classAt dj.heap) w.params ord (ofPys (cr PyData.int ns)) dj with
 |none=>rw [q]at e;cases e
 |some r=>
  rw [q]at e
  simp only [dv.injEq,Prod.mk.injEq,List.cons.injEq,aQ.injEq]at e
  obtain⟨⟨ea,_⟩,es⟩:=e
  rw [<-es,<-ea]
  exact⟨r.1,0,by simp [Heap.push,Heap.get?];rfl⟩
end
end Mine
open PySem PySem.W PySem.W.X PyProof.Rows
theorem PySem.Challenge.cw_mr0375_01_holds : PySem.Challenge.rw_mr0375_01.Holds := by
 w_on
 refine holds_law Mine.CP λCP=> ?_
 refine Mine.Qf (q:=Mine.hq) (loose:=Mine.vG) (Yf:=Mine.we) (Ya:=Mine.wf) (N:=9000) Mine.Qp (by rfl) (by rfl) (by rfl) (by rfl) CP Mine.g7 Mine.g8 ?hw ?hc
 (case hw=>w_witness2)
 intro w dj bG y zc args vals as pB sP L CD w9 wK
 wrow_args pB sP CD w9 wK
 obtain⟨kw,cK⟩:=script_at L
 rename_i xs _ _ _ _ _ _ a Y _ hL _ _ _ hI _ b6 _
 have e0:dj.heap.objs.size=962:=congrArg aD y
 have e1:dj.heap.nsMap mainGlobals (Str.ofString "law")=some (.ref 961):=congrArg (λam=>am.2.1) y
 rw [e0]at kw cK
 subst kw
 obtain⟨l,e,ho⟩:=Mine.script_obj L
 obtain⟨o,M1,_,n,hd⟩:=hL
 rw [ho]at M1
 cases M1
 cases hd
 obtain⟨aL,es,afC⟩:=Mine.aeA hI
 subst es
 obtain⟨s',r,ok,os,bare⟩:=Mine.aeB (by omega) y L.keeps (by rw [cK]) L.gens ho
 refine⟨.ref 961,e1,Mine.aeC r ?_⟩
 exact⟨.inl ⟨.bool true,.bool true,[],rfl,λ_=>rfl,.bool true,(by kernel_rfl),λ_=>⟨List.nodup_nil,λa h=>nomatch h⟩⟩,ok,os,bare⟩
