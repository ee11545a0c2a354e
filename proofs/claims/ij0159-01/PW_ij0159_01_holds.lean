import PyProof.Rows.All
import PyProof.RulesTry
import PyProof.SliceList
import PyProof.EqAt
import PyProof.NeKinds
import PyProof.StationsW
import PyProof.ExcStrAll.RuntimeError
import PyProof.ExcStrCall
import PyProof.Rows.SumAny
import PyProof.TupleOfSeq
import KE.KSlice
import KE.KSortTup
import Wide.FinOn
import OpenK.AllK
import Wide.All
import Lean
import PySem.Challenge.RW_ij0159_01
set_option Elab.async false
set_option maxRecDepth 100000
set_option linter.all false
open Nat renaming lt_of_succ_lt_succ->sv,le_of_succ_le_succ->n,eq_or_lt_of_le->nC,le_of_lt_succ->io,add_left_cancel->nD,ble->dp,ne_of_lt->a7,lt_of_lt_of_le->bP,le_of_ble_eq_true->cP,le_add_left->hT,zero_add->ip,add_assoc->ln,add_right_comm->hU,le_trans->aS,le_of_eq->ew,add_le_add_left->ey,add_le_add->sw,le_of_add_le_add_right->yG,add_add_add_comm->c,add_comm->iq,add_le_add_right->g7,mul_add->qo,mul_le_mul_left->qp,le_add_right->dq,lt_succ_self->sx,succ_add_eq_add_succ->nE,le_antisymm->dF,sub_eq_zero_iff_le->vk,le_of_not_lt->eJ,beq->e7,ne_of_beq_eq_false->qq,le_of_add_le_add_left->yH,eq_of_beq_eq_true->oQ,le_refl->aW,beq_refl->vl,zero_le->be,sub_le->oR,ne_of_gt->aX,succ_ne_zero->vm,sub_add_cancel->ir,lt_irrefl->eK,lt_of_le_of_lt->dZ,not_le_of_lt->gG,not_lt_of_le->cx,add_zero->vn,succ_le_succ->qr,le_add_of_sub_le->qs,lt_or_ge->fV,add_right_cancel->f7,succ_lt_succ->vo,le_of_lt->eW,lt_of_add_lt_add_left->yI,sub_lt->oS,one_pos->nF,le_pred_of_lt->nG,lt_trans->hV,eq_zero_or_pos->qt,lt_of_lt_of_eq->nH,add_sub_cancel'->qu,le_of_sub_eq_zero->yJ,lt_asymm->lp,lt_trichotomy->sy,max_eq_left->vp,min_le_left->vq,add_lt_add_left->lq,lt_of_le_of_ne->vr,strongRecOn->vt,add_lt_add_iff_left->yK,add_right_cancel_iff->vu,max_eq_right->vv
open List renaming mem_cons->b8,getElem?_eq_none->vw,any_eq_true->sz,map_inj_left->vx,mem_append_left->oT,mem_append_right->mn,all_cons->vy,range->c8,getElem?_map->d1,mem_map->hx,mem_of_getElem?->dP,getElem?_append_left->iU,getElem?_append_right->iV,mem_singleton->bQ,getElem?_eq_some_iff->g8,range_succ->vz,map_append->e8,append_assoc->sA,length_map->bM,mem_filterMap->hW,append_nil->mo,all_eq_true->sB,getElem_range->qv,getLast?_eq_getElem?->yL,length_append->e9,mem_append->is,mem_iff_getElem?->oU,range'->gH,length->iu,mem_range'_1->vA,length_drop->vB,mem_map_of_mem->oV,dropWhile->mq,nodup_range->lr,mem_range->mr,toArray->nI,take_length->ms,length_cons->jC,length_take->mv,take_add_one->sC,not_mem_nil->nJ,getElem?_zip_eq_some->yM,filter_cons->oW,length_filter_le->hy,getD->fv,length_singleton->yN,map_cons->sD,drop_eq_nil_of_le->vC,drop_eq_getElem_cons->sE,ext_getElem->sF,filter_append->ls,getElem_map->sG,filter_eq_self->qw,filter_map->qx,filter_congr->qy,map_map->hX,mem_filter->gI,filter_append_perm->yO,foldl_append->vD,map_take->vE,getElem?_take->sH,getElem?_eq_getElem->jD,mem_cons_of_mem->vF,pairwise_iff_getElem->yP,take_of_length_le->yQ,take_append_drop->yR,filter_eq_nil_iff->yS
open Bool renaming true->ag,false->aN,and_eq_true->sI,false_ne_true->jE,eq_iff_iff->nK,eq_false_or_eq_true->yT
open Int renaming ofNat_lt->vG,ofNat->bq,negSucc->oX,fmod_nonneg_of_pos->oY,fmod_lt_of_pos->vH,toNat_of_nonneg->sJ,fmod->qz
open PySem renaming Value->O,Fin->b0,Shared->ac,Addr->ae,Obj->ab,Tok->cL,Code->aL,Sem->aI,Args->fJ,Result->bZ,Program->iW,Params->a1,Pos->ap,Frame->dc,GenState->dM,marksOver->fw,cLine->mw,Resume->lu,table->mx,frameCount->gm,unitsOf->fK,unitsOf_cons->vI,Around->ef,envsOf->eX,World->cZ,End->eL,Runs->dB,model->b1,recursionLimit->my,enterFrame->sK,nearTheLimitUnderAClaim->yU,runs_wrap_of_wp->oZ,splitAtGen->sL,Heap->aY,OsState->o0,codeAny->mz,Flow->dQ,wpAny->bD,Str->c0,Builtin->iX,wpAny_mono->o1,slot_listiter_next->o2,entry_listiter_next->vJ,args_listiter_next->vK,field->mA,wpAny_bind->bl,wpAny_field->gn,seqItems?->qA,wpAny_seqItems->o3,wpAny_setField->mB,wpAny_pure->cG,rawInt->d2,wpAny_rule->qB,wpAny_newObj_type->mC,firstArgMember->sM,raiseNew->qC,sizeLine->lv,wpAny_updateSeq->vL,slot_list_getitem->vM,entry_list_getitem->vN,args_list_getitem->vO,wpAny_listSubscript_int->yV,typeIs_int->qD,Stmt->cb,Env->bX,execs->c6,leaving->lx,pyNext->hY,letOwnedTupleGo->d9,assign->hZ,isTrue->g9,eval->dR,exec->jF,execs_cons->sN,compareOp->hz,behindInMarks->mD,markedBehindIn_of_false->yW,noteFrame->iY,theTreesLotGoes->qE,ExceptHandler->o4,Arguments->sO,Scope->g_,codeAny_builtin->qF,DictEntry->gp,FuncData->g',ClassData->qG,plainId_quiet->vP,call->f8,wpAny_call->qH,compareOp_own_same->qI,wpAny_callSpecial?_slot->yX,CmpOp->h0,wpAny_loadPart'->sP,richCompare->o5,richCompare_meets_room->nL,pyIter->o6,codeAny_compStart_list->yY,wpAny_call_entry->vQ,slicePick->mE,wpAny_listPart->vR,slot_gen_next->vS,spliced->mF,setFlight->qJ,arm_allTrue_cons->vT,handleWith->qK
open Option renaming some->H,none->J,map_eq_some_iff->fL
open PySem.W.Fast renaming tw15066281185411960212->yZ,te14364793385576792824->y0,te15066281185411960212->y1,tw1785580099245652887->y2,te7536695828754713326->y3,tw4202317264376624991->y4,tw3471404346716756564->o7,tw7966671052430208091->iZ,tw16098473122060591676->o8,tw13830915341099135465->y5,tw1054471737866971170->y6,tw215932591028220647->y7,tw6571733998842723752->vU,tw10385067321753230146->y8,tw10919682601858149601->y9,tw17700060304098168000->y_,tw10557518346328741659->vV,tw2060155186595164805->o9,tw2398297429280069960->sQ,tw17872113653443481271->y',tw1623429502029203251->za
open PySem.W.S renaming codeS->gq
open PySem.W.X renaming okMark->jG,tableObj->co,kt_at->kz
open PySem.Frame renaming where_->cU,guarded->mG
open PySem.W.R renaming bindR->d3,bindR_eq->qL,filterR->i0
open PySem.Code renaming builtin->o_,isCreation->mH,compLoop->qM
open PySem.Runs renaming head'->jH
open PySem.Sem renaming wp->gJ,wp_bind'->mI,bind_eq_wrap'->qN,wp_mono->nM,wp_point->vW,wp_cmd_standAt->sR
open Nat.succ renaming inj->sS
open PySem.Heap renaming lt_size->b9,get?_push_of_some->nN,get?_push_size->kA,size_push->kB,SameBut->qO,get?_update_self->i1,get?_eq_some->qP,size_after_update->zb,get?_update_other->qQ
open Eq renaming symm->cj
open PySem.Heap.SameBut renaming update->nO
open Option.some renaming inj->o'
open PySem.GenState renaming fresh->sT,bare->er
open PySem.Challenge renaming pw_ij0159_01->vX,rw_ij0159_01->nP
open PySem.W.SL renaming s9222952809800978799x4->zc
open Array renaming getElem?_modify->zd,size_push->vY,getElem?_eq_some_iff->ly,getElem?_setIfInBounds_ne->ze,mem_iff_getElem?->zf,getElem?_setIfInBounds->zg,length_toList->sU,getElem?_toList->vZ,perm_iff_toList_perm->zh,getElem?_extract->zi,getElem?_eq_getElem->zj
open PySem.Value renaming ref->iv,none->fx,type->nQ,bool->dS
open PySem.Obj renaming mapFields->gK,mapSeq->i2,isFreed_of_fields->zk,cls->ha
open PySem.Builtin.List renaming listSubscript?->sV,listItems->sW,listSameRef->v0,listUpdate->zl
open PyProof.Rows renaming AllBare->nR,bubble->pa,seqObj->kC
open PySem.Shared renaming setGen->sX
open LE renaming le->eY
open Prod.mk renaming injEq->eZ
open BEq renaming beq->pb
open Prod renaming fst->lz,snd->nS
open PySem.Around renaming under_plainId->sY
open PySem.F renaming cmp_object->lA,slot_range_iterator_next->v2,slot_range_iterator_iter->zm
open PySem.W renaming kas_rev->jI
open PySem.W.KasT renaming kasWp_bind->qR
open PySem.Expr renaming pos->ez
open Ne renaming symm->nT
open PySem.Str renaming ofString->v3
open PySem.SeqAt renaming EqAt->jJ
open Except renaming ok->qS
open PySem.SeqAt.EqAt renaming int_int->v4
open PySem.Builtin.Range renaming rangeSize->zn,small->sZ,rangeFitsLong->pc
open List.Perm renaming append_left->zo
open List.Pairwise renaming imp_of_mem->v5
open LawfulMonad renaming pure_bind->s0
open PySem.W.SZ renaming s2766695959194262286x5->zp,s14018661285674007319x4->zq,s2742458400755230247x6->s1,s17162191345867700912x4->zr,s10852414792293593619x7->v6,s6658869562736209489x6->zs,s5856160107412720595x4->iw,s658472552662922059x5->zt,s14755015743595814543x17->zu
namespace cQ
theorem t {b:Sort _}{a:b}:a=a:=rfl
noncomputable def ES:=0 where
 k:List Nat:=[100,114,97,119,110]
 dh:List Nat:=[111,116,104,101,114,115]
 eg:List Nat:=[116,101,115,116]
 el:List Nat:=[110,111,100,101]
 e_:List Nat:=[114,101,102,117,115,101,100]
 fj:List Nat:=[47,99,108,97,105,109,47,99,117,116,46,112,121]
 fW:List Nat:=[115,101,108,101,99,116,115]
 i3:List Nat:=[115,101,108,101,99,116]
 i4:List Nat:=[108,97,119,95,105,106,48,49,53,57,95,48,49]
 kD:List Nat:=[112,108,97,99,101]
 kE:List Nat:=[114,111,119]
 lB:List Nat:=[95,83,101,108,101,99,116,111,114,67,111,110,116,101,120,116]
 mJ:List Nat:=[109,121,99,109,112]
 nU:List Nat:=[111,98,106]
 nV:List Nat:=[95,108,97,119,95,112,97,114,116,101,100]
 pd:List Nat:=[95,115,116,114]
 pe:List Nat:=[95,105,115,105,110,115,116,97,110,99,101]
 pf:List Nat:=[95,95,105,110,105,116,95,115,117,98,99,108,97,115,115,95,95]
 pg:List Nat:=[95,95,105,110,105,116,95,95]
 ph:List Nat:=[102,97,105,108,117,114,101,115]
 pi:List Nat:=[116,101,120,116,115]
 qT:List Nat:=[101,108,101,109]
 qU:List Nat:=[95,95,100,111,99,95,95]
 qV:List Nat:=[99,112,121,51,49,51,46,120,109,108,46,101,116,114,101,101,46,69,108,101,109,101,110,116,80,97,116,104]
 qW:List Nat:=[99,109,112,95,116,111,95,107,101,121]
 qX:List Nat:=[114,101,100,117,99,101]
 qY:List Nat:=[95,105,115,95,119,105,108,100,99,97,114,100,95,116,97,103]
 qZ:List Nat:=[95,112,114,101,112,97,114,101,95,116,97,103]
 q0:List Nat:=[95,108,97,119,95,110,111,100,101]
 q1:List Nat:=[95,108,97,119,95,99,111,109,112,97,114,101]
 q2:List Nat:=[95,108,97,119,95,102,97,105,108,117,114,101,115]
 q3:List Nat:=[95,108,97,119,95,111,114,100,101,114]
 s2:List Nat:=[111,116,104,101,114]
 s3:List Nat:=[102,117,110,99,116,105,111,110]
 s4:List Nat:=[115,101,113,117,101,110,99,101]
 s5:List Nat:=[105,110,105,116,105,97,108]
 s6:List Nat:=[60,108,97,109,98,100,97,62]
 s7:List Nat:=[108,97,119,46,60,108,111,99,97,108,115,62,46,60,108,97,109,98,100,97,62]
 s8:List Nat:=[60,109,111,100,117,108,101,62]
 v7:List Nat:=[110,115,95,111,110,108,121]
 v8:List Nat:=[95,112,114,101,112,97,114,101,95,116,97,103,46,60,108,111,99,97,108,115,62,46,115,101,108,101,99,116]
 v9:List Nat:=[95,95,109,111,100,117,108,101,95,95]
 v_:List Nat:=[99,112,121,51,49,51,46,102,117,110,99,116,111,111,108,115]
 v':List Nat:=[95,95,102,105,114,115,116,108,105,110,101,110,111,95,95]
 wa:List Nat:=[95,95,115,116,97,116,105,99,95,97,116,116,114,105,98,117,116,101,115,95,95]
 wb:List Nat:=[99,109,112,95,116,111,95,107,101,121,46,60,108,111,99,97,108,115,62,46,75]
 wc:List Nat:=[95,108,97,119,95,111,114,100,101,114,46,60,108,111,99,97,108,115,62,46]
 wd:List Nat:=[95,95,100,105,99,116,95,95]
 we:List Nat:=[95,95,119,101,97,107,114,101,102,95,95]
 wf:List Nat:=[95,95,109,97,105,110,95,95]
 wg:List Nat:=[95,83,101,108,101,99,116,111,114,67,111,110,116,101,120,116,46,95,95,105,110,105,116,95,95]
open ES
section
universe v
@[elab_as_elim] theorem r {c:Sort v}{a b:c}{m:c->Prop}(h:a=b)(d:m b):m a:=h▸d
section
variable {A:Nat->Prop}{d:Nat}
@[elab_as_elim] theorem ET(h:d<2)(a:A 0)(b:A 1):A d:=match d,h with
 |0,_=>a
 |1,_=>b
@[elab_as_elim] theorem wh(h:d<3)(a:A 0)(b:A 1)(c:A 2):A d:=match d,h with
 |0,_=>a
 |d+1,h=>ET (A:=λd=>A (d+1)) (sv h) b c
end
section
variable {a:Type v}{A:List a->Prop}{ar:List a}
@[elab_as_elim] theorem wi(h:ar.length<=2)(a:A [])(b:∀x,A [x])(c:∀x y,A [x,y]):A ar:=by
 cases ar with
 |nil=>exact a
 |cons x ar=>
  cases ar with
  |nil=>exact b x
  |cons y ar=>
   cases ar with
   |nil=>exact c x y
   |cons z ar=>exact absurd (n (n h)) (Nat.not_succ_le_zero _)
end
noncomputable def zv:=0 where
 eM {a:Type}(f:Nat->a):Nat->List a
  |0=>[]
  |n+1=>f n::eM f n
 eN {a:Type}(f:Nat->a):Nat->List a
  |0=>[]
  |n+1=>f n::eN f n
 kF {a b:Type}(f:a->b):List a->List b
  | []=>[]
  |x::c=>f x::kF f c
 kG {a b:Type}(f:a->b):List a->List b
  | []=>[]
  |x::c=>f x::kG f c
open zv
theorem d0 {b:Type}{f cs:Nat->b}:∀{n d:Nat},eM f n=eN cs n->d<n->f d=cs d
 |0,_,_,a=>absurd a (Nat.not_lt_zero _)
 |n+1,d,h,a=>by
  injection h with c e;rcases nC (io a)with rfl|q
  ·exact c
  ·exact d0 e q
theorem mK {b e:Type}{f d:b->e}:∀{a:List b} {x:b},kF f a=kG d a->x∈a->f x=d x
 | [],_,_,c=>nomatch c
 |y::a,x,h,c=>by
  injection h with g i;rcases b8.mp c with rfl|q
  ·exact g
  ·exact mK i q
section
variable {b:Type v}{A:b->Prop}{a:b}{ar:List b}
theorem dG:∀x∈([]:List b),A x:=λ_ h=>nomatch h
theorem a_(h:A a)(b:∀x∈ar,A x):∀x∈a::ar,A x:=List.forall_mem_cons.mpr ⟨h,b⟩
end
theorem pj(n:Nat){ar:List Nat}(h:ar.Nodup):(ar.map (n+ ·)).Nodup:=h.map _ λ_ _ q e=>q (nD e)
theorem lC {a b:Nat}(h:a≠b):[a,b].Nodup:= .cons (a_ h dG) (.cons dG .nil)
theorem s9 {a b c:Nat}(h:a≠b)(d:a≠c)(e:b≠c):[a,b,c].Nodup:= .cons (a_ h (a_ d dG)) (lC e)
theorem EU {a b c d:Nat}(h:a≠b)(e:a≠c)(f:a≠d)(g:b≠c)(i:b≠d)(j:c≠d):[a,b,c,d].Nodup:= .cons (a_ h (a_ e (a_ f dG))) (s9 g i j)
theorem i5 {a b n:Nat}(e:dp (a+1) b=ag):a≠n+b:=a7 (bP (cP e) (hT b n))
noncomputable def AllP(a:List Prop):Prop:=∀i,a.getD i True
theorem AllP.st {a:List Prop}(n:Nat)(h:a.getD n True)(b:∀i,a.getD (i+(n+1)) True):∀i,a.getD (i+n) True
 |0=>by rw [ip];exact h
 |i+1=>by have:=b i;rwa [<-ln,hU]at this
theorem AllP.fin {a:List Prop}(n:Nat)(h:dp a.length n=ag)(i:Nat):a.getD (i+n) True:=by
 refine(?_:(a[i+n]?).getD True);rw [vw (aS (cP h) (hT _ _))];trivial
theorem aw {P X:Prop}(h:P)(k:P->X):X:=k h
section
universe a
variable {g j l bt m n o p:Sort a}
theorem bh {c:g->j->Prop}(a:g)(b:j)(h:c a b):∃a b,c a b:=⟨a,b,h⟩
theorem dT {d:g->j->l->Prop}(a:g)(b:j)(c:l)(h:d a b c):∃a b c,d a b c:=⟨a,b,c,h⟩
theorem h4 {e:g->j->l->bt->Prop}(a:g)(b:j)(c:l)(d:bt)(h:e a b c d):∃a b c d,e a b c d:=⟨a,b,c,d,h⟩
theorem q4 {f:g->j->l->bt->m->Prop}(a:g)(b:j)(c:l)(d:bt)(e:m)(h:f a b c d e):∃a b c d e,f a b c d e:=⟨a,b,c,d,e,h⟩
theorem kH {i:g->j->l->bt->m->n->Prop}(a:g)(b:j)(c:l)(d:bt)(e:m)(f:n)(h:i a b c d e f):∃a b c d e f,i a b c d e f:=⟨a,b,c,d,e,f,h⟩
theorem nW {k:g->j->l->bt->m->n->o->Prop}(a:g)(b:j)(c:l)(d:bt)(e:m)(f:n)(i:o)(h:k a b c d e f i):∃a b c d e f i,k a b c d e f i:=⟨a,b,c,d,e,f,i,h⟩
theorem gr {q:g->j->l->bt->m->n->o->p->Prop}(a:g)(b:j)(c:l)(d:bt)(e:m)(f:n)(k:o)(i:p)(h:q a b c d e f k i):∃a b c d e f k i,q a b c d e f k i:=⟨a,b,c,d,e,f,k,i,h⟩
variable {X:Prop}
theorem aH {b:g->Prop}(k:∀a,b a->X):(∃a,b a)->X:=λh=>h.elim k
theorem bo {c:g->j->Prop}(k:∀a b,c a b->X):(∃a b,c a b)->X:=λh=>h.elim λa=>aH (k a)
theorem cE {d:g->j->l->Prop}(k:∀a b c,d a b c->X):(∃a b c,d a b c)->X:=λh=>h.elim λa=>bo (k a)
theorem gL {e:g->j->l->bt->Prop}(k:∀a b c d,e a b c d->X):(∃a b c d,e a b c d)->X:=λh=>h.elim λa=>cE (k a)
theorem i6 {f:g->j->l->bt->m->Prop}(k:∀a b c d e,f a b c d e->X):(∃a b c d e,f a b c d e)->X:=λh=>h.elim λa=>gL (k a)
theorem jK {i:g->j->l->bt->m->n->Prop}(k:∀a b c d e f,i a b c d e f->X):(∃a b c d e f,i a b c d e f)->X:=λh=>h.elim λa=>i6 (k a)
theorem q5 {p:g->j->l->bt->m->n->o->Prop}(k:∀a b c d e f i,p a b c d e f i->X):(∃a b c d e f i,p a b c d e f i)->X:=λh=>h.elim λa=>jK (k a)
theorem i7 {q:g->j->l->bt->m->n->o->p->Prop}(k:∀a b c d e f i h,q a b c d e f i h->X):(∃a b c d e f i h,q a b c d e f i h)->X:=λh=>h.elim λa=>q5 (k a)
end
section
variable {X a b c d e f cs h i bi:Prop}
theorem an(k:a->b->X):a/\b->X:=λq=>k q.1 q.2
theorem aT(k:a->b->c->X):a/\b/\c->X:=λq=>an (k q.1) q.2
theorem bu(k:a->b->c->d->X):a/\b/\c/\d->X:=λq=>aT (k q.1) q.2
theorem gs(k:a->b->c->d->e->X):a/\b/\c/\d/\e->X:=λq=>bu (k q.1) q.2
theorem f9(k:a->b->c->d->e->f->X):a/\b/\c/\d/\e/\f->X:=λq=>gs (k q.1) q.2
theorem s_(k:a->b->c->d->e->f->cs->X):a/\b/\c/\d/\e/\f/\cs->X:=λq=>f9 (k q.1) q.2
theorem pk(k:a->b->c->d->e->f->cs->h->X):a/\b/\c/\d/\e/\f/\cs/\h->X:=λq=>s_ (k q.1) q.2
theorem EV(k:a->b->c->d->e->f->cs->h->i->X):a/\b/\c/\d/\e/\f/\cs/\h/\i->X:=λq=>pk (k q.1) q.2
theorem PG(k:a->b->c->d->e->f->cs->h->i->bi->X):a/\b/\c/\d/\e/\f/\cs/\h/\i/\bi->X:=λq=>EV (k q.1) q.2
end
theorem aB {a b:Nat}(h:a=b):a<=b:=ew h
theorem ao {a b:Nat}(h:a=b):b<=a:=ew h.symm
theorem a5 {a b:Nat}(e:dp a b=ag):a<=b:=cP e
theorem cV(a b:Nat){x:Nat}(e:dp a b=ag):x+a<=x+b:=ey (cP e) x
theorem bw {a b x:Nat}(e:dp a b=ag):x+a<=x+b:=ey (cP e) x
theorem bm {x b q:Nat}(e:dp b q=ag)(h:x<=b):x<=q:=aS h (cP e)
theorem V(a b d q:Nat){x y:Nat}(e:dp (d+b) (a+q)=ag)(h:x+a<=y+b):x+d<=y+q:=by
 have:=sw h (cP e);refine yG (b:=a+b) ?_;rw [c x d,c y q,iq q b,<-c y b];exact this
theorem aq(a b c d:Nat){x y z:Nat}(h:x+a<=y+b)(k:y+c<=z+d):x+(a+c)<=z+(b+d):=by
 refine aS (ln x a c▸g7 h c) ?_;rw [hU,iq b d,<-ln];exact g7 k b
theorem PH {a b c q x y:Nat}(e:dp (c+b) (a+q)=ag)(h:x+a<=y+b):x+c<=y+q:=V a b c q e h
theorem aD(a b c d f q:Nat){x y z:Nat}(e:dp (f+b+d) (a+c+q)=ag)(h:x+a<=y+b)(k:y+c<=z+d):x+f<=z+q:=
 V (a+c) (b+d) f q (ln f b d▸e) (aq a b c d h k)
theorem cy(a b c d f i g q:Nat){x y z j:Nat}(e:dp (g+b+d+i) (a+c+f+q)=ag)(h:x+a<=y+b)(k:y+c<=z+d)(l:z+f<=j+i):x+g<=j+q:=
 aD (a+c) (b+d) f i g q (ln g b d▸e) (aq a b c d h k) l
theorem EW {a b c d:Nat}(h:a<=b)(e:c+b<=d):dp (c+a) d=true:=Nat.ble_eq.mpr (aS (ey h c) e)
theorem jL {a b c d:Nat}(h:dp a b=ag)(e:c+b<=d):dp (c+a) d=true:=EW (cP h) e
theorem mL {k F e X W a d:Nat}(q:F<=k+e+X+W)(h:X+W<=a)(b:e+a<=d):F<=k+d:=by
 rw [ln (k+e),ln k]at q;exact aS q (ey (aS (ey h e) b) k)
theorem pl {k F e X W a d:Nat}(q:F<=k+3*e+X+W)(h:X+W<=3*a)(b:e+a<=d):F<=k+3*d:=
 mL q h (qo 3 e a▸qp 3 b)
theorem zw {k F e X W a d:Nat}(q:F<=k+e)(h:X+W<=a)(b:e+a<=d):X+F<=k+d:=
 mL (aS (by rw [iq];exact g7 q X) (dq _ W)) h b
theorem wj {k:Nat}(n:Nat)(h:(k:Int)<(n:Int)):k<n:=vG.mp h
theorem ta {a m n:Nat}(h:a+m=n)(b:a<n):m-1<m/\a+1+(m-1)=n:=by
 cases m with
 |zero=>exact absurd h (a7 b)
 |succ k=>exact⟨sx k,(nE a k).trans h⟩
theorem zx {i a k:Nat}(h:a<=i)(e:i-a=0)(q:a=k):i=k:=(dF (vk.mp e) h).trans q
theorem zy {d:Nat}(h:d<8)(k:¬d<6):d=6\/d=7:=
 (Nat.lt_or_eq_of_le (io h)).elim (λq=> .inl (dF (io q) (eJ k))) .inr
theorem zz {k n:Nat}(h:k<n):(k:Int)<(n:Int):=vG.mpr h
theorem i8 {x y a:Nat}:x+a<=x+(y+a):=ey (hT _ _) _
theorem bA(a b:Nat){x:Nat}(e:e7 a b=aN):x+a≠x+b:=λh=>qq e (nD h)
theorem a2(a b:Nat){x:Nat}{X:Prop}(e:dp a b=aN)(h:x+a<=x+b):X:=absurd (yH h) (λq=>by rw [Nat.ble_eq_true_of_le q]at e;cases e)
section
variable {g:Type}{a b c d e f cs:g}{ar:List g}{q:g->Prop}
theorem aO:a∈a::ar:= .head _
theorem ci:b∈a::b::ar:= .tail _ aO
theorem dK:c∈a::b::c::ar:= .tail _ ci
theorem kI:d∈a::b::c::d::ar:= .tail _ dK
theorem q6:e∈a::b::c::d::e::ar:= .tail _ kI
theorem tb:f∈a::b::c::d::e::f::ar:= .tail _ q6
theorem zA:cs∈a::b::c::d::e::f::cs::ar:= .tail _ tb
theorem aF:∀x,False->q x:=λ_ h=>h.elim
theorem a0:∀x,x∈([]:List g)->q x:=λ_ h=>nomatch h
theorem fk(h:q a):∀x,x∈[a]->q x:=λx b=>by
 cases b with
 |head=>exact h
 |tail _ b=>cases b
end
end
open zv
variable {u:PySem.World}{g:Nat->Option PySem.Obj}{C:PySem.Shared}{l:Nat}{Y:Option O}{B:PySem.End->PySem.Shared->Prop}{j:List (PySem.Code×PySem.Pos)}{c:PySem.Code}{A:PySem.Pos}{n:Nat}{M:PySem.Sem b0}{w:List PySem.Frame}
set_option backward.match.sparseCases false
section
open PySem PySem.W
noncomputable abbrev I(C:ac)(a:ae)(b:ab):Prop:=C.heap.get? a=H b
noncomputable abbrev E(n:Nat):Value:= .ref (n+101)
noncomputable abbrev aj(n:Nat)(M:cL):Value:= .int (bq n) M
noncomputable def bI:aL->aI Fin:=PySem.W.Fast.tw11892475500146522536 PySem.W.Fast.tw14364793385576792824
structure cI where
 id:String
 args:fJ
 pre:List (Nat×ae×ab)
 r:Nat->Nat->bZ
 upd:Option (Nat×ae×(ab->ab))
 news:Nat->List ab
 bx:Nat
structure eO where
 dep:Nat
 kt:Nat->Option ab
 N:Nat
 T:Nat
 G:Nat
 hd:Option O
 prog:iW
 P:a1
 blw:List (aL×ap)
 es0:List (ae×ab)
 mu:List Nat
 aC:List cI
inductive fM where
 |ad (a:Nat)
 |fN (M:aI Fin)
 |pn (a:fJ)
 |bE (a:ae) (az:ab)
 |no
 |zB (c:aL) (A:ap) (M:aI Fin) (aU:List dc) (D:List (ae×ab)) (m i:Nat) (au:List dM)
structure G where
 sc:List Nat
 c:aL
 p:ap
 t:aI Fin
 aU:List dc
 D:List (ae×ab)
 m:Nat
 i:Nat
 gl:List dM
 S:List (fM×fM)
noncomputable def zC:=0 where
 dy:List (ae×ab)->Nat->Option (ae×ab)
  | [],_=>J
  |x::_,0=>H x
  |_::a,n+1=>dy a n
 gM:List (ae×ab)->Nat->ae×ab->List (ae×ab)
  | [],_,_=>[]
  |_::a,0,y=>y::a
  |x::a,n+1,y=>x::gM a n y
 lD:List (ae×ab)->ae×ab->List (ae×ab)
  | [],y=>[y]
  |x::a,y=>x::lD a y
 EX:List (aL×ap):=List.replicate 10000 (.builtin "" {},default)
 wk(st:List (aL×ap)):Nat:=(st.map (·.1.cUnits)).sum
 po:aI Fin->ab->aI Fin
  | .load _ _ k,a=>k a
  |M,_=>M
 ix(a:Nat):aI Unit:=yZ a
 zD:aI Unit:=PySem.W.Fast.tw3139746846981162851
 q7:List String:=heavyIds++guardIds
 wl(id:String):Nat:=
  bif e7 (gq id) (gq "type.__call__")then 1 else bif q7.any (λx=>e7 (gq x) (gq id))then 700 else 0
 jM:aL->Nat
  | .builtin id _=>wl id
  | .call .. =>0
  |_=>1
 cW:aL->List dc->Nat
  |c,[]=>1+jM c
  |c,f::w=>1+jM c+cW f.where_.1 w
 nX(l:Nat)(c:aL)(w:List dc):Bool:=dp (Nat.add l (cW c w)) 600
 ay:Nat->String
  |0=>"special-get-raises"
  |_=>"comprehension-iter-twice"
 gN(P:a1)(x:String)(b:Bool):Params:=
  {P with followText:=λa=> @ite _ (a=x) (PySem.W.S.strDecS a x) b (P.followText a)}
 wm:List cI->Nat->Option cI
  | [],_=>J
  |x::_,0=>H x
  |_::a,n+1=>wm a n
 q8(c:List (ae×ab)):List (Nat×ae×ab)->List (fM×fM)
  | []=>[]
  |(d,a,e)::f=>(match dy c d with|some (b,x)=>(.bE b x,.bE a e)|none=>(.no,.ad 0))::q8 c f
 tc(a:List (ae×ab)):Option (Nat×ae×(ab->ab))->List (ae×ab)
  |none=>a
  |some (c,_,f)=>match dy a c with
   |some (b,d)=>gM a c (b,f d)
   |none=>a
 q9(c:List (ae×ab)):Option (Nat×ae×(ab->ab))->List (fM×fM)
  |none=>[]
  |some (d,a,_)=>match dy c d with
   |some (b,_)=>[(.ad b,.ad a)]
   |none=>[(.no,.ad 0)]
 q_(b:Nat)(c:List Nat)(d:List (ae×ab)):Option (Nat×ae×(ab->ab))->Bool
  |none=>ag
  |some (a,_,f)=>match dy d a with
   |some (_,e)=> !(f e).isFreed&&(dp b a||c.any (e7 a))
   |none=>aN
 td(b:Nat):List (ae×ab)->Nat->List ab->List (ae×ab)
  |a,_,[]=>a
  |a,m,c::d=>td b (lD a (b+m,c)) (m+1) d
 te:Nat->List ab->Nat
  |m,[]=>m
  |m,_::a=>te (m+1) a
 pq:List ab->Bool
  | []=>ag
  |a::b=>match a.isFreed with
   |true=>aN
   |false=>pq b
 jN(b:Bool)(a:Option G):Option G:=match b with
  |true=>a
  |false=>J
 tf(b:Bool)(a:Option G):Option G:=match b with
  |true=>J
  |false=>a
 lE {b:Type}(a:Option b)(f:b->Option G):Option G:=match a with
  |some x=>f x
  |none=>J
 kJ {a:Type}(b:List Nat)(f:Nat->List Nat->Option a):Option a:=match b with
  |c::d=>f c d
  | []=>J
 wo(w:List dc)(f:(bZ->aI Fin)->aL->ap->List dc->Option G):Option G:=match w with
  | .ret k _ _ _ a b _::c=>f k a b c
  |_=>J
 zE(c:aL)(f:String->fJ->Option G):Option G:=match c with
  | .call (.builtin id) a=>f id a
  |_=>J
 step(b:eO):G->Option G
  |⟨d,c,A,M,w,g,m,i,au,S⟩=>
   match M with
   | .pure s=>match s with
    | .done f=>wo w λk n o p=>H ⟨d,n,o,k (.ok f),p,g,m,i,au,S⟩
    | .again l=>jN l.quiet (H ⟨d,l,A,bI l,w,g,m,i,au,S⟩)
   | .raise e=>wo w λk n o p=>H ⟨d,n,o,k (.error e),p,g,m,i,au,S⟩
   | .rule _ k=>H ⟨d,c,A,k (),w,g,m,i,au,S⟩
   | .at dU k=>H ⟨d,c,dU,k (),w,g,m,i,au,S⟩
   | .point _ k=>H ⟨d,c,A,k (),w,g,m,i,au,S⟩
   | .fresh k=>H ⟨d,c,A,k (b.T+i),w,g,m,i+1,au,S⟩
   | .handled t k=>tf t (H ⟨d,c,A,k (fw w (b.hd,b.hd)).1,w,g,m,i,au,S⟩)
   | .call l Y q r k=>jN (jG Y) (match b.aC with
    | []=>H ⟨d,l,A,bI l,.ret k Y q r c A []::w,g,m,i,au,S⟩
    |_::_=>kJ d λh d=>match h with
     |0=>H ⟨d,l,A,bI l,.ret k Y q r c A []::w,g,m,i,au,S⟩
     |h+1=>lE (wm b.aC h) λj=>zE l λid u=>
      jN (q_ b.es0.length b.mu g j.upd) (jN (pq (j.news (b.N+m))) (jN (nX b.dep c w) (jN (Y.or (fw w (b.hd,b.hd)).1).isNone (
       H ⟨d,c,A,k (j.r (b.N+m) (b.T+i)),w,td b.N (tc g j.upd) m (j.news (b.N+m)),te m (j.news (b.N+m)),i+j.bx,au,
        (.ad (gq id),.ad (gq j.id))::(.pn u,.pn j.args)::(q8 g j.pre++(q9 g j.upd++S))⟩)))))
   | .alloc j k=>tf j.isFreed (H ⟨d,c,A,k (b.N+m),w,lD g (b.N+m,j),m+1,i,au,S⟩)
   | .newGen l k=>H ⟨d,c,A,k (b.G+au.length),w,g,m,i,au++[.fresh l],S⟩
   | .load a _ k=>kJ d λh d=>match h with
    |0=>lE (b.kt a) λj=>H ⟨d,c,A,k j,w,g,m,i,au,S⟩
    |h+1=>lE (dy g h) λx=>H ⟨d,c,A,k x.2,w,g,m,i,au,(.ad a,.ad x.1)::S⟩
   | .loadIfAlive a k=>kJ d λh d=>match h with
    |0=>lE (b.kt a) λj=>H ⟨d,c,A,k (H j),w,g,m,i,au,S⟩
    |h+1=>lE (dy g h) λx=>H ⟨d,c,A,k (H x.2),w,g,m,i,au,(.ad a,.ad x.1)::S⟩
   | .update a _ f k=>kJ d λh d=>match h with
    |0=>J
    |h+1=>lE (dy g h) λx=>jN (dp b.es0.length h||b.mu.any (e7 h)) (tf (f x.2).isFreed
      (H ⟨d,c,A,k (),w,gM g h (x.1,f x.2),m,i,au,(.ad a,.ad x.1)::S⟩))
   | .stack k=>kJ d λh d=>match h with
    |0=>H ⟨d,c,A,k ((c,A)::w.map cU++b.blw),w,g,m,i,au,S⟩
    |1=>jN (nX b.dep c w) (H ⟨d,c,A,k [],w,g,m,i,au,(.fN (.stack k),.fN (.stack (λst=>if wk st>=mw then k EX else k [])))::S⟩)
    |2=>lE (b.kt 2) λj=>jN (nX b.dep c w) (H ⟨d,c,A,po (k []) j,w,g,m,i,au,(.fN (.stack k),.fN (d3 zD (λ_=>po (k []) j)))::S⟩)
    |h+3=>lE (b.kt 2) λj=>jN (nX b.dep c w) (H ⟨d,c,A,po (k []) j,w,g,m,i,au,(.fN (.stack k),.fN (d3 (ix h) (λ_=>po (k []) j)))::S⟩)
   | .ask k=>kJ d λh d=>match h with
    |0=>H ⟨d,c,A,k ⟨b.prog,b.P⟩,w,g,m,i,au,S⟩
    |1=>H ⟨d,c,A,k ⟨b.prog,gN b.P (ay 0) aN⟩,w,g,m,i,au,(.fN (k ⟨b.prog,gN b.P (ay 0) ag⟩),.fN (k ⟨b.prog,gN b.P (ay 0) aN⟩))::S⟩
    |_=>J
   |_=>J
 zF {a:Type}(M:aI Fin)(f:(Setting->aI Fin)->Option a):Option a:=match M with
  | .ask k=>f k
  |_=>J
 lF(b:eO)(x:G):Option (Nat×Nat×G×G):=
  zF x.t λk=>kJ x.sc λ_ a=>kJ a λc a=>kJ a λd a=>
   H (c,d,{x with sc:=a,t:=k ⟨b.prog,gN b.P (ay 1) ag⟩},{x with sc:=a,t:=k ⟨b.prog,gN b.P (ay 1) aN⟩})
 zG:G->G->G
  |⟨_,c,A,M,w,a,m,i,au,_⟩,⟨b,_,_,_,_,_,_,_,_,S⟩=>⟨b,c,A,M,w,a,m,i,au,S⟩
 same:G->G->G
  |⟨_,b,d,e,f,g,h,j,k,_⟩,⟨l,c,A,M,w,a,m,i,au,S⟩=>⟨l,c,A,M,w,a,m,i,au,(.zB b d e f g h j k,.zB c A M w a m i au)::S⟩
 lG(a:eO):Nat->Nat->G->G
  |0,_,x=>x
  |n+1,b,x=>match b with
   |0=>x
   |b+1=>match step a x with
    |some y=>lG a n b y
    |none=>match lF a x with
     |some (c,e,d,f)=>lG a n b (same (lG a n c d) (lG a n e (zG f (lG a n c d))))
     |none=>x
open zC
@[irreducible] noncomputable def run(a:eO)(b:Nat)(d:List Nat)(c:aL)(A:ap)(M:aI Fin)(w:List dc):G:=lG a 1000000 b ⟨d,c,A,M,w,a.es0,0,0,[],[]⟩
inductive i9 where
 |ret (v:O)
 |next
 |err (e:O)
 |again (c:aL)
 |call (c:aL) (Y:Option O)
 |resume (cs:Nat) (a3:lu)
 |genState (cs:Nat)
 |yield (v:O) (a:Bool)
 |other
noncomputable def zH:=0 where
 es:aI Fin->i9
  | .pure (.done (.ret v))=> .ret v
  | .pure (.done .next)=> .next
  | .pure (.again c)=> .again c
  | .raise e=> .err e
  | .call c Y _ _ _=> .call c Y
  | .resume a b _ _=> .resume a b
  | .genState a _=> .genState a
  | .yield v d _ _=> .yield v d
  |_=> .other
 eh:aI Fin->bZ->aI Fin
  | .call _ _ _ _ k,a=>k a
  |M,_=>M
 tg:aI Fin->GenResult->aI Fin
  | .resume _ _ _ k,a=>k a
  |M,_=>M
 wq:aI Fin->GenStatus×Option (List (aL×ap))->aI Fin
  | .genState _ k,x=>k x
  |M,_=>M
 wr:aI Fin->lu->aI Fin
  | .yield _ _ _ k,a=>k a
  |M,_=>M
open zH
noncomputable def f_(a:List (ae×ab)):List Nat->List (Option (ae×ab))
 | []=>[]
 |b::c=>dy a b::f_ a c
structure fl where
 hd:i9
 th:Nat
 xs:List (Option (ae×ab))
 m:Nat
 i:Nat
 gl:List dM
 S:List fM
noncomputable def bF(b:List Nat)(a:G):fl:=⟨es a.t,a.aU.length,f_ a.D b,a.m,a.i,a.gl,a.S.map (·.1)⟩
noncomputable def bG(a:G):List fM:=a.S.map (·.2)
noncomputable abbrev ok(b:List Nat)(a:G)(Y:i9)(n:Nat)(c:List (Option (ae×ab)))(m i:Nat)(au:List dM):Prop:=bF b a=⟨Y,n,c,m,i,au,bG a⟩
end
open zC zH
set_option backward.match.sparseCases true
section
open PySem PySem.W PySem.Calls
theorem hA:denote mx=bI:=by
 rw [table_eq_tree];unfold bI;rw [<-PySem.W.Fast.te11892475500146522536,<-y0]
theorem ws {a b:String}(h:gq a=gq b):a=b:=PySem.code_inj _ _ (by rw [S.code_S,S.code_S];exact h)
theorem zI {a b:String}(h:¬a=b):e7 (gq a) (gq b)=false:=by
 cases q:e7 (gq a) (gq b)with
 |false=>rfl
 |true=>exact absurd (ws (oQ q)) h
theorem EY:(q7.map λid (a:fJ)=>bif e7 (gq id) (gq "type.__call__")then ag else dp (o_ id a).weight 700)=q7.map λ_ _=>true:=by kernel_rfl
theorem jO {a:Type}{c:Prop} [Decidable c]{M:c->a}{e:¬c->a}{z:a}(h:¬c)(k:e h=z):dite c M e=z:=(dif_neg h).trans k
theorem EZ {id:String}(a:fJ)(h:∀x∈heavyIds,¬id=x)(b:(o_ id a).isGuard=aN):(o_ id a).weight=0:=by
 have f:(o_ id a).frames=0:=by
  delta aL.frames aL.frames.match_1;refine jO (h _ aO) (jO (h _ ci) (jO (h _ dK) (jO (h _ kI) (jO (h _ q6) (jO (h "builtins.exit#opaque" ?_) (jO (h "builtins.quit#opaque" ?_) (jO (h "claim.caller" ?_) (jO (h "proto.\x69mport.gcd" ?_) ?_))))))))<;>first|decide+kernel|rfl
 have c:(o_ id a).isCreation=false:=by
  delta mH mH.match_1;exact jO (h "type.__call__" (by decide+kernel)) t
 have k:(o_ id a).isCaller=false:=by
  delta aL.isCaller aL.isCaller.match_1;exact jO (h "claim.caller" (by decide+kernel)) t
 unfold aL.weight;refine r f (r c ?_);refine r b (r k ?_);rfl
theorem wt(c:aL):c.weight<=jM c:=by
 cases c with
 |call f b=>exact aW 0
 |builtin id b=>
  show _<=wl id;unfold wl
  by_cases d:id="type.__call__"
  ·subst d;rw [vl];show 0+(if _ then 1 else 0)+0+0<=1;split<;>decide
  ·refine r (zI d) ?_;show _<=(bif _ then 700 else 0);cases g:q7.any (λx=>e7 (gq x) (gq id))with
   |true=>
    refine aw (sz.mp g) (aH λx=>an λa h=> ?_);obtain rfl:=ws (oQ h);have q:=congrFun (vx.mp EY x a) b;rw [zI d]at q;exact cP q
   |false=>
    have n:∀x∈q7,¬id=x:=λx a e=>by
     have:=List.any_eq_false.mp g x a;rw [e,vl]at this;exact this t
    refine ew (EZ b (λx a=>n x (oT _ a)) ?_);show guardIds.contains id=aN;cases q:guardIds.contains id with
    |false=>rfl
    |true=>exact absurd t (n id (mn _ (List.contains_iff_mem.mp q)))
 |compStart|compLoop=>show(if aL.isFrame _=ag then 1 else 0)+0+0+0<=1;split<;>decide
 |_=>exact cP t
theorem E0(c:aL):c.frames<=jM c:=aS (aS (dq _ _) (aS (dq _ _) (dq _ _))) (wt c)
theorem zJ(c:aL):c.cUnits<=1+3*jM c:=by
 have h:=qp 3 (E0 c);cases c with
 |builtin=>exact ey h 1
 |call=>exact dq 1 _
 |_=>exact aS h (hT _ 1)
theorem jP:∀(c:aL) (w:List dc),gm (w.map cU)+c.weight<=cW c w
 |c,[]=>by
  show 0+_<=1+jM c;exact sw (be 1) (wt c)
 |c,f::w=>by
  have e:gm (f.where_::w.map cU)=f.where_.1.weight+gm (w.map cU):=frameCount_cons _ _ _;show gm (f.where_::w.map cU)+_<=1+jM c+cW f.where_.1 w;rw [e,iq f.where_.1.weight,iq (1+jM c)];exact sw (jP f.where_.1 w) (aS (wt c) (hT _ 1))
theorem jQ:∀(c:aL) (w:List dc),fK (w.map cU)+c.cUnits<=3*cW c w
 |c,[]=>by
  show 0+_<=3*(1+jM c);rw [ip,qo];exact aS (zJ c) (g7 (a5 t) _)
 |c,f::w=>by
  have e:fK (f.where_::w.map cU)=f.where_.1.cUnits+fK (w.map cU):=vI _ _ _;show fK (f.where_::w.map cU)+_<=3*(1+jM c+cW f.where_.1 w);rw [e,iq f.where_.1.cUnits,iq (1+jM c),qo,qo];exact sw (jQ f.where_.1 w) (aS (zJ c) (g7 (a5 t) _))
noncomputable def di(Y:Option O)(l:Nat):Around:=⟨Y,301+l,J,J,4+3*l⟩
theorem nY {Y:Option O}{a b:Nat}(c:a<=b){d:Ctx}(h:d.Below (di Y a)):d.Below (di Y b):=by
 refine⟨h.1, ?_,(λg e=>by cases e),(λi f=>by cases f), ?_⟩
 ·exact aS h.2.1 (ey c 301)
 ·exact aS h.2.2.2.2 (ey (qp 3 c) 4)
noncomputable def ti:dc->Bool
 | .ret _ Y _ _ _ _ _=>jG Y
 | .gen .. =>aN
noncomputable def cw(w:List dc):Bool:=w.all ti
theorem q' {Y:Option O}(h:jG Y=ag):Y≠H byPass:=by
 intro e;subst e;simp [jG]at h
theorem zK(h A q:Option O):∀w:List dc,cw w=ag->(fw w (h,A)).1=(fw w (h,q)).1
 | [],_=>rfl
 |f::w,ok=>by
  have a:ti f=ag/\cw w=true:=by
   have:=ok;unfold cw at this;rw [vy,sI]at this;exact this
  have b:=zK h A q w a.2;cases f with
  |ret k Y d e c g i=>
   show markOver Y (fw w (h,A)).1 _=markOver Y (fw w (h,q)).1 _;rw [markOver_of_ne (q' a.1),markOver_of_ne (q' a.1),b]
  |gen=>exact absurd a.1 (by simp [ti])
theorem iy {a:Ctx}{Y:Option O}{l:Nat}(h:a.Below (di Y l))(w:List dc)(ok:cw w=ag):(a.over w).In ((di Y l).over a.code w):=by
 refine⟨?_, ?_,λb c=> ?_,λd f=> ?_, ?_⟩
 ·simp only [Ctx.over,ef.over];rw [h.1,zK _ _ _ w ok]
 ·have:=h.2.1;simp only [Ctx.over,ef.over,frameCount_append]at this⊢;lia
 ·have e:pushEnvs a.code.envs (pushEnvs (eX (w.map cU)) J)=H b:=c;rw [pushEnvs_eq,pushEnvs_eq]at e;cases e
 ·have e:pushGuards a.code.guards (pushGuards (guardsOf (w.map cU)) J)=H d:=f;rw [pushGuards_eq,pushGuards_eq]at e;cases e
 ·have:=h.2.2.2.2;show a.code.cUnits+fK (w.map cU++a.below)<=(di Y l).units+fK (w.map cU)+a.code.cUnits;rw [unitsOf_append,iq,iq (di Y l).units];exact g7 (ey this _) _
noncomputable def Go(f:Nat)(b:eO)(u:cZ)(c:aL)(A:ap)(M:aI Fin)(w:List dc)(C:ac)(B:eL->ac->Prop):Prop:=
 ∀a,a.code=c->a.Below (di b.hd f)->a.below=b.blw->∃e d,dB (b1 b.prog u) a A M w C e d/\e.quiet=ag/\B e d
section
variable {bt:Nat}{N:eO}
theorem Go.step {M pr:aI Fin}{dU:ap}{am:ac}(h:∀a:Ctx,∀b d,dB (b1 N.prog u) (a.over w) dU pr [] am b d->dB (b1 N.prog u) (a.over w) A M [] C b d)
  (x:Go bt N u c dU pr w am B):Go bt N u c A M w C B:=λa f g i=>by
 refine aw (x a f g i) (bo λe j=>an λk l=> ?_);exact bh e j ⟨jH (h a) k,l⟩
theorem zL {b:Model}{a:Ctx}{d:ef}{c:Nat}{e:Unit->ap->ac->Prop}{af:O->ap->ac->Prop}(g:C.heap.NoLimit)(i:a.In d)(Y:d.depth<my)(h:e () A C):gJ b a (sK c) e af A C:=by
 refine aw g (aH λs=>an λj k=> ?_);have f:=X.lies_of (p:=A) i;have l:=f.sum Y;have m:=f.near Y c;have n:¬((((a.code,A)::a.below).map (·.1)).map (·.frames)).sum-c>=recursionLimit:=λo=>a2 1 0 t (aq 1 0 0 0 (aq 1 0 0 0 (aq 1 0 0 0 l o) (oR _ _)) (dq _ _));have q:¬((((a.code,A)::a.below).map (·.1)).map (·.frames)).sum-c+((((a.code,A)::a.below).map (·.1)).filter mH).length>=recursionLimit:=by lia
 refine(?_:gJ b a (stack>>=_) _ _ A C);rw [mI];refine(?_:gJ b a ((nsGet cStatics "sys.recursionlimit">>=_)>>=_) _ _ A C);rw [mI,mI];rw [aI.wp_nsGet b a _ A C j,k];show gJ b a (if yU (((a.code,A)::a.below).map (·.1)) (((((a.code,A)::a.below).map (·.1)).map (·.frames)).sum-c+((((a.code,A)::a.below).map (·.1)).filter mH).length) my=ag then _ else _) _ _ A C;refine r (if_neg (by exact r m jE)) ?_;show gJ b a (if((((a.code,A)::a.below).map (·.1)).map (·.frames)).sum-c>=my then _ else _) _ _ A C;refine r (if_neg n) ?_;show gJ b a (if((((a.code,A)::a.below).map (·.1)).map (·.frames)).sum-c+((((a.code,A)::a.below).map (·.1)).filter mH).length>=my then _ else _) _ _ A C;exact r (if_neg q) h
theorem E1 {b:Model}{a:Ctx}{c:ef}{d:Unit->ap->ac->Prop}{af:O->ap->ac->Prop}(f:C.heap.NoLimit)(e:a.In c)(Y:c.depth<my)(h:d () A C):gJ b a roomToWake d af A C:=by
 refine aw f (aH λn=>an λg i=> ?_);have j:=X.lies_of (p:=A) e;have k:=j.sum Y;have l:¬((((a.code,A)::a.below).map (·.1)).map (·.frames)).sum+((((a.code,A)::a.below).map (·.1)).filter mH).length>=recursionLimit:=λm=>a2 1 0 t (aq 1 0 0 0 k m);refine(?_:gJ b a (stack>>=_) _ _ A C);rw [mI];refine(?_:gJ b a ((nsGet cStatics "sys.recursionlimit">>=_)>>=_) _ _ A C);rw [mI,mI];rw [aI.wp_nsGet b a _ A C g,i];show gJ b a (if yU (((a.code,A)::a.below).map (·.1)) (((((a.code,A)::a.below).map (·.1)).map (·.frames)).sum+((((a.code,A)::a.below).map (·.1)).filter mH).length) my=ag then _ else _) _ _ A C;refine r (if_neg (by exact r (not_nearTheLimit e Y) jE)) ?_;show gJ b a (if((((a.code,A)::a.below).map (·.1)).map (·.frames)).sum+((((a.code,A)::a.below).map (·.1)).filter mH).length>=my then _ else _) _ _ A C;exact r (if_neg l) h
theorem Go.cmd {m:aI Unit}{k:Unit->aI Fin}(l:bt<=N.dep)(ok:cw w=ag)
  (n:∀b:Ctx,b.code=c->(b.over w).In ((di N.hd N.dep).over c w)->gJ (b1 N.prog u) (b.over w) m (λ_ f d=>f=A/\d=C) (λ_ _ _=>False) A C)
  (x:Go bt N u c A (k ()) w C B):Go bt N u c A (m>>=k) w C B:=λb g i o=>by
 rw [qN];have j:=iy (nY l i) w ok;rw [g]at j;refine aw (oZ (Γ:=b) (Φ:=λe d=>e.quiet=ag/\B e d) k .raise id id m (n b g j) (λa f d h=>by obtain ⟨rfl,rfl⟩:=h;exact x b g i o) (λx f d h=>h.elim)) (bo λe d=>an λp q=> ?_);exact bh e d ⟨p,q⟩
theorem Go.pop(b:bZ)(k:bZ->aI Fin)(Y:Option O)(f:Bool)(g:List O)(a:aL)(d:ap)(h)(x:Go bt N u a d (k b) w C B):Go bt N u c A (leafOf b) (.ret k Y f g a d h::w) C B:=λi p j l=>by
 refine aw (x (i.goto a) t (j.goto a) l) (bo λe m=>an λn o=> ?_);exact bh e m ⟨dB.pop b n,o⟩
theorem Go.again(a:aL)(d:a.quiet=ag)(x:Go bt N u a A (bI a) w C B):Go bt N u c A (.pure (.again a)) w C B:=λf k g h=>by
 refine aw (x (f.goto a) t (g.goto a) h) (bo λe i=>an λb j=> ?_);rw [<-hA]at b;exact bh e i ⟨dB.head (c₁:=a) (λ_ _ y=> .again d y) b,j⟩
theorem Go.call(a:aL)(Y:Option O)(b:Bool)(ar:List O)(k:bZ->aI Fin)(x:Go bt N u a A (bI a) (.ret k Y b ar c A []::w) C B):Go bt N u c A (.call a Y b ar k) w C B:=λf g h i=>by
 subst g;refine aw (x (f.goto a) t (h.goto a) i) (bo λe j=>an λd l=> ?_);rw [<-hA]at d;exact bh e j ⟨runs_call_seg d,l⟩
theorem Go.done(a:bZ)(h:B (.ret a) C):Go bt N u c A (leafOf a) [] C B:=λb d e f=>bh (.ret a) C ⟨dB.leaf a,t,h⟩
theorem Go.yield(v:O)(a:List O)(k:lu->aI Fin)(b:sL w=J)(d:w.any mG=aN)(h:B (.susp v aN a k c A w) C):Go bt N u c A (.yield v aN a k) w C B:=λf e g i=>by
 subst e;exact bh _ C ⟨dB.yield' w b,by simp [eL.quiet,d],h⟩
end
noncomputable def zM:=0 where
 mM(h:aY):Option (Nat×ae×(ab->ab))->aY
  |none=>h
  |some (_,a,f)=>h.update a f
 lH:aY->List ab->aY
  |h,[]=>h
  |h,a::b=>lH (h.push a) b
 wu(a:eO):List Addr:=a.mu.filterMap λb=>(dy a.es0 b).map (·.1)
 ra(a:eO)(b:Nat):Bool:=dp a.es0.length b||a.mu.any (e7 b)
open zM
structure Rep(N:eO)(c h:aY)(D:List (ae×ab))(m:Nat):Prop where
 kt:∀a az,N.kt a=H az->h.get? a=H az
 ent:∀x∈D,h.get? x.1=H x.2
 fy:∀(i:Nat) (a:ae),(D.map (·.1))[i]? =H a->ra N i=ag->∀(bi:Nat) (b:ae),(D.map (·.1))[bi]? =H b->bi≠i->b≠a
 wv:∀(i:Nat) (a:ae),(D.map (·.1))[i]? =H a->ra N i=ag->N.kt a=J
 aZ:h.objs.size=N.N+m
 fr:∀b az,c.get? b=H az->b∉wu N->h.get? b=H az
 lo:c.objs.size=N.N
 lI:D.map (·.1)=N.es0.map (·.1)++(c8 m).map (λk=>N.N+k)
theorem mN:∀{D:List (ae×ab)} {a:Nat} {x:ae×ab},dy D a=H x->x∈D
 | [],_,_,h=>by cases h
 |_::_,0,_,h=>by cases h;exact .head _
 |_::b,n+1,_,h=> .tail _ (mN (D:=b) h)
theorem i_:∀{D:List (ae×ab)} {a:Nat},dy D a=D[a]?
 | [],_=>rfl
 |_::_,0=>rfl
 |_::b,n+1=>by
  show dy b n=_;rw [i_ (D:=b)];rfl
theorem rb {b:List (ae×ab)}{c:Nat}{a:ae}{az:ab}(e:dy b c=H (a,az)):(b.map (·.1))[c]? =H a:=by
 rw [d1,<-i_,e];rfl
theorem zN {y x:ae×ab}:∀{D:List (ae×ab)},x∈lD D y↔x∈D\/x=y
 | []=>by simp [lD]
 |z::a=>by simp [lD,zN (D:=a),or_assoc]
theorem tj {y:ae×ab}:∀{D:List (ae×ab)},(lD D y).map (·.1)=D.map (·.1)++[y.1]
 | []=>rfl
 |z::a=>by simp [lD,tj (D:=a)]
theorem tk {a:ae}{b c:ab}:∀{D:List (ae×ab)} {bi:Nat},dy D bi=H (a,b)->(gM D bi (a,c)).map (·.1)=D.map (·.1)
 | [],_,h=>by cases h
 |_::_,0,h=>by cases h;rfl
 |z::d,n+1,h=>by simp [gM,tk (D:=d) (bi:=n) h]
theorem zO {a:ae}{g c:ab}{x:ae×ab}:∀{D:List (ae×ab)} {bi:Nat},dy D bi=H (a,g)->x∈gM D bi (a,c)->x=(a,c)\/∃i,i≠bi/\dy D i=H x
 | [],_,h,_=>by cases h
 |z::d,0,h,b=>by
  cases h;rcases b8.mp b with rfl|b
  ·exact .inl t
  ·refine aw (List.mem_iff_getElem.mp b) (aH λi=>aH λf=> ?_);rintro rfl;refine .inr ⟨i+1,aX (V 0 0 1 1 t (be _)), ?_⟩;rw [i_];simp
 |z::d,n+1,h,b=>by
  rcases b8.mp b with rfl|b
  ·exact .inr ⟨0,(vm n).symm,t⟩
  ·rcases zO (D:=d) (bi:=n) h b with q|⟨i,f,q⟩
   ·exact .inl q
   ·exact .inr ⟨i+1,λe=>f (sS e),q⟩
section
variable {N:eO}{d h:aY}{D:List (ae×ab)}{m:Nat}
theorem Rep.lt(b:Rep N d h D m){i:Nat}{a:ae}(e:(D.map (·.1))[i]? =H a):a<N.N+m:=by
 refine aw (hx.mp (dP e)) (aH λx=>an λc=> ?_);rintro rfl;have:=b9 (b.ent x c);rw [b.aZ]at this;exact this
theorem Rep.alloc(c:Rep N d h D m){j:ab}(v:j.isFreed=aN):Rep N d (h.push j) (lD D (N.N+m,j)) (m+1):=by
 have o:∀b x,h.get? b=H x->(h.push j).get? b=H x:=λb x e=>nN _ e;refine⟨λa x e=>o a x (c.kt a x e),λx p=> ?_, ?_, ?_, ?_,λb x e w=>o b x (c.fr b x e w),c.lo, ?_⟩
 ·rcases zN.mp p with p|rfl
  ·exact o _ _ (c.ent x p)
  ·show(h.push j).get? (N.N+m)=H j;refine r (cj c.aZ) (kA _ v)
 ·refine r tj ?_;intro i a f s t b g u
  by_cases k:i<(D.map (·.1)).length
  ·rw [iU k]at f
   by_cases l:t<(D.map (·.1)).length
   ·rw [iU l]at g;exact c.fy i a f s t b g u
   ·rw [iV ((eJ l))]at g;have:=dP g;rw [bQ]at this;subst this;exact aX (c.lt f)
  ·rw [iV ((eJ k))]at f;have n:=dP f;rw [bQ]at n;subst n
   by_cases l:t<(D.map (·.1)).length
   ·rw [iU l]at g;exact a7 (c.lt g)
   ·have z:=(g8.mp f).1;rw [iV ((eJ l))]at g;have A:=(g8.mp g).1;exact absurd ((Nat.sub_eq_iff_eq_add (eJ l)).mp ((Nat.lt_one_iff.mp A).trans (Nat.lt_one_iff.mp z).symm)) (λq=>u (by rw [q,ir (eJ k)]))
 ·refine r tj ?_;intro i a f s
  by_cases k:i<(D.map (·.1)).length
  ·rw [iU k]at f;exact c.wv i a f s
  ·rw [iV ((eJ k))]at f;have n:=dP f;rw [bQ]at n;subst n;show N.kt (N.N+m)=J;cases q:N.kt (N.N+m)with
   |none=>rfl
   |some y=>
    have:=b9 (c.kt _ _ q);rw [c.aZ]at this;exact absurd this (eK _)
 ·rw [kB,c.aZ,ln]
 ·rw [tj,c.lI,vz,e8,sA];rfl
theorem Rep.turned(g:Rep N d h D m){a:ae}{i:ab}{b:Nat}(e:dy D b=H (a,i))(j:(dp N.es0.length b||N.mu.any (e7 b))=ag):a∈wu N\/N.N<=a:=by
 have c:(D.map (·.1))[b]? =H a:=rb e;rw [g.lI]at c
 by_cases f:b<N.es0.length
 ·left;have l:N.mu.any (e7 b)=true:=by
   rcases (Bool.or_eq_true _ _).mp j with q|q
   ·have:=cP q;exact a2 1 0 t (aq 1 0 0 0 f this)
   ·exact q
  refine aw (sz.mp l) (aH λn=>an λo p=> ?_);have:b=n:=oQ p;subst this;rw [iU (by rw [bM];exact f),d1]at c;exact hW.mpr ⟨b,o,by exact r i_ c⟩
 ·right;rw [iV (by rw [bM];exact(eJ f))]at c;refine aw (hx.mp (dP c)) (aH λk=>an λ_=> ?_);rintro rfl;exact dq ..
theorem Rep.update(c:Rep N d h D m){a:ae}{j:ab}{f:ab->ab}{g:Nat}(e:dy D g=H (a,j))(o:(f j).isFreed=aN)(n:(dp N.es0.length g||N.mu.any (e7 g))=ag):Rep N d (h.update a f) (gM D g (a,f j)) m:=by
 have p:=c.ent _ (mN e);have k:qO a h (h.update a f):=nO ..;have tl:(h.update a f).get? a=H (f j):=by first|exact i1 f p o|exact i1 _ p o
 refine⟨λb x q=> ?_,λx l=> ?_,by refine r (tk e) ?_;exact c.fy,by refine r (tk e) ?_;exact c.wv, ?_,λb x q s=> ?_,c.lo,by rw [tk e];exact c.lI⟩
 ·refine(k.2 b λz=> ?_).trans (c.kt b x q);subst z;have:=c.wv g _ (rb e) n;rw [this]at q;cases q
 ·rcases zO e l with rfl|⟨i,t,l⟩
  ·exact tl
  ·have:=c.fy g a (rb e) n i x.1 (rb (az:=x.2) l) t;exact(k.2 _ this).trans (c.ent x (mN l))
 ·refine r k.1 (r c.aZ ?_);rfl
 ·refine(k.2 b λz=> ?_).trans (c.fr b x q s);subst z;rcases c.turned e n with bc|bc
  ·exact s bc
  ·have:=b9 q;rw [c.lo]at this;exact absurd (bP this bc) (eK _)
theorem Rep.E2(i:Rep N d h D m){c:Option (Nat×ae×(ab->ab))}(g:q_ N.es0.length N.mu D c=ag)(j:∀x∈q9 D c,x.1=x.2):Rep N d (mM h c) (tc D c) m:=by
 cases c with
 |none=>exact i
 |some c=>
  obtain ⟨k,a,f⟩:=c;cases q:dy D k with
  |none=>simp [q_,q]at g
  |some x=>
   obtain ⟨b,l⟩:=x;simp only [q_,q,sI,Bool.not_eq_true']at g;simp only [q9,q]at j;have e:=j _ aO;injection e with e;subst e;simp only [tc,q];exact i.update q g.1 g.2
theorem Rep.zP:∀{ar:List ab} {h:aY} {D:List (ae×ab)} {m:Nat},Rep N d h D m->pq ar=ag->Rep N d (lH h ar) (td N.N D m ar) (te m ar)
 | [],_,_,_,a,_=>a
 |c::ar,h,D,m,a,b=>by
  cases q:c.isFreed with
  |true=>simp [pq,q]at b
  |false=>
   simp only [pq,q]at b;have z:=Rep.zP (ar:=ar) (a.alloc q) b;exact z
theorem Rep.zQ(g:Rep N d h D m):∀{ar:List (Nat×ae×ab)},(∀x∈q8 D ar,x.1=x.2)->∀x∈ar,h.get? x.2.1=H x.2.2
 | [],_,_,c=>nomatch c
 |(i,a,n)::ar,f,x,c=>by
  rcases b8.mp c with rfl|c
  ·cases q:dy D i with
   |none=>
    have e:=f _ aO;simp only [q]at e;cases e
   |some y=>
    obtain ⟨b,z⟩:=y;have e:=f _ aO;simp only [q]at e;injection e with j k;subst j k;exact g.ent _ (mN q)
  ·exact Rep.zQ g (ar:=ar) (λy l=>f y (.tail _ l)) x c
end
theorem zR(P:a1)(x:String):gN P x (P.followText x)=P:=by
 unfold gN;have h:(λa=> @ite _ (a=x) (PySem.W.S.strDecS a x) (P.followText x) (P.followText a))=P.followText:=by
  funext a
  by_cases e:a=x
  ·simp [e]
  ·simp [e]
 refine r h ?_;rfl
noncomputable def cI.Ok(c:iW)(u:cZ)(a:cI):Prop:=
 ∀C,(∀x∈a.pre,I C x.2.1 x.2.2)->∀b A,b.code= .call (.builtin a.id) a.args->b.Below (di J 600)->
  dB (b1 c u) b A (bI (.call (.builtin a.id) a.args)) [] C (.ret (a.r C.heap.objs.size C.toks)) {C with heap:=lH (mM C.heap a.upd) (a.news C.heap.objs.size),toks:=C.toks+a.bx}
theorem zS:∀{ar:List cI} {b:Nat} {a:cI},wm ar b=H a->a∈ar
 | [],_,_,h=>nomatch h
 |_::_,0,_,h=>by cases h;exact .head _
 |_::ar,n+1,_,h=> .tail _ (zS (ar:=ar) h)
structure Good(b:Nat)(N:eO)(dj:cZ)(c:Array dM):Prop where
 E3:N.P=dj.params
 lim:∀h:aY,(∀a az,N.kt a=H az->h.get? a=H az)->h.NoLimit
 gens:c.size=N.G
 aC:∀az∈N.aC,az.Ok N.prog dj
 le:b<=N.dep
section
variable {bt:Nat}{N:eO}{o:Array dM}{p:aY}{d:Drawn}{os:o0}
noncomputable def c9(N:eO)(o:Array dM)(d:Drawn)(os:o0)(h:aY)(i:Nat)(au:List dM):Shared:=⟨h,o++au.toArray,d,N.T+i,os⟩
structure fX(bt:Nat)(N:eO)(dj:cZ)(o:Array dM)(p:aY)(d:Drawn)(os:o0)(B:eL->ac->Prop)(a:G):Prop where
 S:∀x∈a.S,x.1=x.2
 go:∀b,cw a.aU=ag->Rep N p b a.D a.m->Go bt N dj a.c a.p a.t a.aU (c9 N o d os b a.i a.gl) B
theorem Rep.zT {h:aY}{a:List (ae×ab)}{m:Nat}(b:Rep N p h a m)(c:Good bt N u o):h.NoLimit:=c.lim h b.kt
theorem zU {c:aL}{w:List dc}(h:nX N.dep c w=ag):((di N.hd N.dep).over c w).depth<recursionLimit:=by
 exact dZ (mL (aW (301+N.dep+gm (w.map cU)+c.weight)) (jP c w) (cP h)) (show 301+600<1000 by decide)
theorem E4 {c:aL}{w:List dc}(h:nX N.dep c w=ag):((di N.hd N.dep).over c w).units<cLine:=by
 exact dZ (pl (aW (4+3*N.dep+fK (w.map cU)+c.cUnits)) (jQ c w) (cP h)) (show 4+3*600<9900 by decide)
theorem zV {f:dc}{w:List dc}(h:cw (f::w)=ag):ti f=ag/\cw w=true:=by
 unfold cw at h;rw [vy,sI]at h;exact h
theorem v {x y:G}(e:H x=H y)(F:fX bt N u o p d os B y):fX bt N u o p d os B x:=o' e▸F
theorem iz {b:Bool}{a:Option G}{y:G}(e:jN b a=H y):b=ag/\a=H y:=by
 cases b with
 |true=>exact⟨t,e⟩
 |false=>exact nomatch e
theorem ww {b:Bool}{a:Option G}{y:G}(e:tf b a=H y):b=aN/\a=H y:=by
 cases b with
 |false=>exact⟨t,e⟩
 |true=>exact nomatch e
theorem kK {b:Type}{a:Option b}{f:b->Option G}{y:G}(e:lE a f=H y):∃x,a=H x/\f x=H y:=by
 cases a with
 |none=>exact nomatch e
 |some x=>exact⟨x,t,e⟩
theorem nZ {c:Type}{d:List Nat}{f:Nat->List Nat->Option c}{y:c}(e:kJ d f=H y):∃a b,f a b=H y:=by
 cases d with
 |nil=>exact nomatch e
 |cons a b=>exact bh a b e
theorem E5 {a:Type}{M:aI b0}{f:(Setting->aI b0)->Option a}{y:a}(e:zF M f=H y):∃k,M= .ask k/\f k=H y:=by
 cases M with
 |ask k=>exact⟨k,t,e⟩
 |_=>exact nomatch e
theorem zW {w:List dc}{f:(bZ->aI b0)->aL->ap->List dc->Option G}{y:G}(e:wo w f=H y):∃k Y d g a b h c,w= .ret k Y d g a b h::c/\f k a b c=H y:=by
 cases w with
 |nil=>exact nomatch e
 |cons x c=>cases x with
  |ret k Y d g a b h=>exact gr k Y d g a b h c ⟨t,e⟩
  |gen=>exact nomatch e
theorem E6 {c:aL}{f:String->fJ->Option G}{y:G}(e:zE c f=H y):∃id a,c= .call (.builtin id) a/\f id a=H y:=by
 cases c with
 |call v a=>cases v with
  |builtin id=>exact bh id a ⟨t,e⟩
  |_=>exact nomatch e
 |_=>exact nomatch e
noncomputable abbrev wx(bt:Nat)(N:eO)(u:cZ)(o:Array dM)(p:aY)(d:Drawn)(os:o0)(B:eL->ac->Prop)(x:G):Prop:=
 ∀h,cw x.aU=ag->Rep N p h x.D x.m->Go bt N u x.c x.p x.t x.aU (c9 N o d os h x.i x.gl) B
theorem E7 {a b:aI b0}(e:fM.fN a= .fN b):a=b:=by injection e
theorem E8 {a b:Nat}(e:fM.ad a= .ad b):a=b:=by injection e
theorem E9 {a b:fJ}(e:fM.pn a= .pn b):a=b:=by injection e
theorem fX.fN {y:G}{a b:aI b0}(F:fX bt N u o p d os B y)(h:(fM.fN a,fM.fN b)∈y.S):a=b:=E7 (F.1 _ h)
theorem fX.ad {y:G}{a b:Nat}(F:fX bt N u o p d os B y)(h:(fM.ad a,fM.ad b)∈y.S):a=b:=E8 (F.1 _ h)
theorem Go.plain(a:Good bt N u o){c:aL}{A:ap}{k:Setting->aI b0}{w:List dc}{C:ac}(x:Go bt N u c A (k ⟨N.prog,N.P⟩) w C B):Go bt N u c A (.ask k) w C B:=by
 refine Go.step (am:=C) (pr:=k ⟨N.prog,N.P⟩) (dU:=A) (λd _ _ y=> .ask ?_) x;have b:(⟨(b1 N.prog u).prog,(b1 N.prog u).w.params⟩:Setting)=⟨N.prog,N.P⟩:=by rw [a.E3];rfl
 exact r b y
theorem zX(P:a1)(a:String):gN P a ag=P\/gN P a aN=P:=by
 have z:=zR P a;cases b:P.followText a with
 |true=>rw [b]at z;exact .inl z
 |false=>rw [b]at z;exact .inr z
theorem step_stack(j:Good bt N u o){c:aL}{A:ap}{k:List (aL×ap)->aI b0}{w:List dc}{h:aY}{L:List (ae×ab)}{m i:Nat}{au:List dM}(ok:cw w=ag)(f:Rep N p h L m){b:Nat}{S:List (fM×fM)}{M:List Nat}{y:G}
  (e:step N ⟨b::M,c,A,.stack k,w,L,m,i,au,S⟩=H y)(F:fX bt N u o p d os B y):Go bt N u c A (.stack k) w (c9 N o d os h i au) B:=by
 match b,e with
 |0,e=>
  have F:=v e F;intro a g s z;subst g;refine aw (F.2 h ok f a t s z) (bo λe D=>an λE I=> ?_);refine bh e D ⟨jH (λ_ _ y=> .stack ?_) E,I⟩;have O:((a.over w).code,A)::(a.over w).below=(a.code,A)::w.map cU++N.blw:=by rw [<-z];rfl
  exact r O y
 |1,e=>
  obtain ⟨q,e⟩:=iz e;have F:=v e F;have e:=F.fN aO;injection e with e;intro a g s z;have l:=iy (nY j.le s) w ok;refine aw (F.2 h ok f a g s z) (bo λn D=>an λE I=> ?_);refine bh n D ⟨jH (λ_ _ y=> .stack ?_) E,I⟩;have P:wk (((a.over w).code,A)::(a.over w).below)<cLine:=by
   have Q:wk (((a.over w).code,A)::(a.over w).below)=(a.over w).units:=vI _ _ _;refine r Q (dZ l.2.2.2.2 ?_);exact r g (E4 q)
  have R:k (((a.over w).code,A)::(a.over w).below)=k []:=by
   have:=congrFun e (((a.over w).code,A)::(a.over w).below);refine r this (r (if_neg (gG P)) ?_);rfl
  exact r R y
 |2,e=>
  refine aw (kK e) (aH λK=>an λq e=> ?_);obtain ⟨bc,e⟩:=iz e;have F:=v e F;refine r (F.fN aO) (r (cj qL) ?_);have n:zD=roomToWake:=(congrFun (congrArg (λx=>λ_:Unit=>x) PySem.W.Fast.te3139746846981162851) ()).symm;refine r n (Go.cmd (m:=roomToWake) (k:=λ_=>po (k []) K) j.le ok (λa g l=> ?_) (F.2 h ok f));exact E1 (C:=c9 N o d os h i au) (f.zT j) l (zU bc) ⟨t,t⟩
 |b+3,e=>
  refine aw (kK e) (aH λK=>an λq e=> ?_);obtain ⟨bc,e⟩:=iz e;have F:=v e F;refine r (F.fN aO) (r (cj qL) ?_);have n:ix b=sK b:=(congrFun y1 b).symm;refine r n (Go.cmd (m:=sK b) (k:=λ_=>po (k []) K) j.le ok (λa g l=> ?_) (F.2 h ok f));exact zL (C:=c9 N o d os h i au) (f.zT j) l (zU bc) ⟨t,t⟩
theorem E_(v:Good bt N u o){c:aL}{A:ap}{Y:Option O}{C:Bool}{D:List O}{k:bZ->aI b0}{w:List dc}{h:aY}{b:List (ae×ab)}{m i:Nat}{au:List dM}{S:List (fM×fM)}{L:List Nat}(ok:cw w=ag)(f:Rep N p h b m)(q:jG Y=ag)
  {a:cI}(M:a∈N.aC){id:String}{g:fJ}(bV:q_ N.es0.length N.mu b a.upd=ag)(bc:pq (a.news (N.N+m))=ag)(dr:nX N.dep c w=ag)(f':(Y.or (fw w (N.hd,N.hd)).1).isNone=ag)
  (F:fX bt N u o p d os B ⟨L,c,A,k (a.r (N.N+m) (N.T+i)),w,td N.N (tc b a.upd) m (a.news (N.N+m)),te m (a.news (N.N+m)),i+a.bx,au,
       (.ad (gq id),.ad (gq a.id))::(.pn g,.pn a.args)::(q8 b a.pre++(q9 b a.upd++S))⟩):
  Go bt N u c A (.call (.call (.builtin id) g) Y C D k) w (c9 N o d os h i au) B:=by
 have P:Y.or (fw w (N.hd,N.hd)).1=none:=Option.isNone_iff_eq_none.mp f';have Q:id=a.id:=ws (F.ad aO);have R:g=a.args:=E9 (F.1 _ ci);subst Q R;have T:∀x∈q8 b a.pre,x.1=x.2:=λx j=>F.1 _ (.tail _ (.tail _ (oT _ j)));have U:∀x∈q9 b a.upd,x.1=x.2:=λx j=>F.1 _ (.tail _ (.tail _ (mn _ (oT _ j))));have V:=(f.E2 bV U).zP (ar:=a.news (N.N+m)) bc;have z:=F.2 _ ok V;intro l E G W;have I:=iy (nY v.le G) w ok;rw [E]at I;have n:=I.enter (.call (.builtin a.id) a.args) Y A (q' q);have X:((l.over w).enter (.call (.builtin a.id) a.args) Y A).Below (di J 600):=by
  have aj:N.dep+cW c w<=600:=cP dr;have ak:=jP c w;have al:=jQ c w;exact⟨n.1.trans P,aS n.2.1 (show 301+N.dep+gm (w.map cU)+c.weight<=301+600 by lia),(λD Z=>by cases Z),(λC aa=>by cases aa),aS n.2.2.2.2 (show 4+3*N.dep+fK (w.map cU)+c.cUnits<=4+3*600 by lia)⟩
 have r:=v.aC a M (c9 N o d os h i au) (f.zQ T) ((l.over w).enter (.call (.builtin a.id) a.args) Y A) A t X;refine aw (z l E G W) (bo λe ac=>an λK af=> ?_);rw [<-hA]at r;have ah:(c9 N o d os h i au).heap.objs.size=N.N+m:=f.aZ;rw [ah]at r;have ai:∀s:aY,c9 N o d os s (i+a.bx) au={c9 N o d os h i au with heap:=s,toks:=(c9 N o d os h i au).toks+a.bx}:=λs=>by
  unfold c9;rw [ln]
 rw [ai]at K;exact bh e ac ⟨jH (λ_ _ y=> .call r y) K,af⟩
theorem zY {c a:aL}{A:ap}{Y:Option O}{b:Bool}{e:List O}{k:bZ->aI b0}{w:List dc}{h:aY}{f:List (ae×ab)}{m i:Nat}{au:List dM}{S:List (fM×fM)}{g:List Nat}(ok:cw w=ag)(j:Rep N p h f m)(q:jG Y=ag)
  (F:fX bt N u o p d os B ⟨g,a,A,bI a,.ret k Y b e c A []::w,f,m,i,au,S⟩):Go bt N u c A (.call a Y b e k) w (c9 N o d os h i au) B:=
 Go.call a Y b e k (F.2 h (by show cw (_::_)=ag;unfold cw;rw [vy,sI];exact⟨q,ok⟩) j)
theorem E'(D:Good bt N u o){x y:G}(e:step N x=H y)(F:fX bt N u o p d os B y):fX bt N u o p d os B x:=by
 obtain ⟨I,c,A,M,w,ap,m,i,au,S⟩:=x;cases M with
 |pure V=>
  cases V with
  |done f=>
   refine aw (zW e) (i7 λk Y K E L O P W=>an ?_);rintro rfl;intro e;have F:=v e F;exact⟨F.1,λh ok g=>Go.pop (.ok f) k Y K E L O P (F.2 h (zV ok).2 g)⟩
  |again C=>
   obtain ⟨q,e⟩:=iz e;have F:=v e F;exact⟨F.1,λh ok g=>Go.again C q (F.2 h ok g)⟩
 |raise X=>
  refine aw (zW e) (i7 λk Y K E L O P W=>an ?_);rintro rfl;intro e;have F:=v e F;exact⟨F.1,λh ok g=>Go.pop (.error X) k Y K E L O P (F.2 h (zV ok).2 g)⟩
 |rule aq k=>have F:=v e F;exact⟨F.1,λh ok g=>Go.step (λ_ _ _ y=> .rule y) (F.2 h ok g)⟩
 |«at» q k=>have F:=v e F;exact⟨F.1,λh ok g=>Go.step (λ_ _ _ y=> .at y) (F.2 h ok g)⟩
 |point E k=>have F:=v e F;exact⟨F.1,λh ok g=>Go.step (λ_ _ _ y=> .point y) (F.2 h ok g)⟩
 |fresh k=>have F:=v e F;exact⟨F.1,λh ok g=>Go.step (λ_ _ _ y=> .fresh y) (F.2 h ok g)⟩
 |handled ar k=>
  obtain ⟨rfl,e⟩:=ww e;have F:=v e F;refine⟨F.1,λh ok g s Z T aa=> ?_⟩;have ac:=iy (nY D.le T) w ok;refine aw (F.2 h ok g s Z T aa) (bo λe ae=>an λaf n=> ?_);refine bh e ae ⟨jH (λ_ _ y=> .handled ?_) af,n⟩;have t:(if aN=ag then(s.over w).own else(s.over w).handled)=(fw w (N.hd,N.hd)).1:=ac.1;exact r t y
 |call C Y K E k=>
  obtain ⟨q,e⟩:=iz e;cases Q:N.aC with
  |nil=>
   rw [Q]at e;have F:=v e F;exact⟨F.1,λh ok g=>zY ok g q F⟩
  |cons as av=>
   rw [Q]at e;refine aw (nZ e) (bo λl R e=> ?_);cases l with
   |zero=>
    have F:=v e F;exact⟨F.1,λh ok g=>zY ok g q F⟩
   |succ l=>
    refine aw (kK e) (aH λj=>an λah e=> ?_);refine aw (E6 e) (bo λid ax=>an ?_);rintro rfl;intro e;obtain ⟨bV,e⟩:=iz e;obtain ⟨bc,e⟩:=iz e;obtain ⟨dr,e⟩:=iz e;obtain ⟨f',e⟩:=iz e;have F:=v e F;exact⟨λx ai=>F.1 x (.tail _ (.tail _ (mn _ (mn _ ai)))),λh ok g=>E_ D ok g q (Q▸zS ah) bV bc dr f' F⟩
 |alloc j k=>
  obtain ⟨q,e⟩:=ww e;have F:=v e F;refine⟨F.1,λh ok g=>Go.step (am:=c9 N o d os (h.push j) i au) (pr:=k (N.N+m)) (dU:=A) (λs _ _ y=> .alloc ?_) (F.2 _ ok (g.alloc q))⟩;have t:(c9 N o d os h i au).heap.objs.size=N.N+m:=g.aZ;exact r t y
 |newGen C k=>
  have F:=v e F;refine⟨F.1,λh ok g=>Go.step (am:=c9 N o d os h i (au++[sT C])) (pr:=k (N.G+au.length)) (dU:=A) (λs _ _ y=> .newGen ?_) (F.2 _ ok g)⟩;have t:(c9 N o d os h i au).gens.size=N.G+au.length:=by
   show(o++au.toArray).size=_;refine r Array.size_append (r D.gens ?_);refine r List.size_toArray ?_;rfl
  have aj:(c9 N o d os h i au).gens.push (sT C)=(c9 N o d os h i (au++[sT C])).gens:=by
   show(o++au.toArray).push _=o++(au++[sT C]).toArray;apply Array.toList_inj.mp;simp
  refine r t (r aj ?_);exact y
 |load a q k=>
  refine aw (nZ e) (bo λl R e=> ?_);cases l with
  |zero=>
   refine aw (kK e) (aH λj=>an λq e=> ?_);have F:=v e F;exact⟨F.1,λh ok g=>Go.step (λs _ _ y=> .load (g.kt a j q) y) (F.2 h ok g)⟩
  |succ l=>
   obtain ⟨⟨b,j⟩,q,e⟩:=kK e;have F:=v e F;have e:=F.ad aO;subst e;exact⟨λq n=>F.1 q (.tail _ n),λh ok g=>Go.step (λs _ _ y=> .load (g.ent _ (mN q)) y) (F.2 h ok g)⟩
 |loadIfAlive a k=>
  have U:∀(h:aY) (j:ab),h.get? a=H j->Go bt N u c A (k (H j)) w (c9 N o d os h i au) B->Go bt N u c A (.loadIfAlive a k) w (c9 N o d os h i au) B:=λh j t x=>by
   refine Go.step (am:=c9 N o d os h i au) (pr:=k (H j)) (dU:=A) (λs _ _ y=> .loadIfAlive ?_) x;have t:(c9 N o d os h i au).heap.get? a=H j:=t;exact r t y
  refine aw (nZ e) (bo λl R e=> ?_);cases l with
  |zero=>
   refine aw (kK e) (aH λj=>an λq e=> ?_);have F:=v e F;exact⟨F.1,λh ok g=>U h j (g.kt a j q) (F.2 h ok g)⟩
  |succ l=>
   obtain ⟨⟨b,j⟩,q,e⟩:=kK e;have F:=v e F;have e:=F.ad aO;subst e;exact⟨λq n=>F.1 q (.tail _ n),λh ok g=>U h j (g.ent _ (mN q)) (F.2 h ok g)⟩
 |update a q f k=>
  refine aw (nZ e) (bo λl R e=> ?_);cases l with
  |zero=>exact nomatch e
  |succ l=>
   obtain ⟨⟨b,j⟩,q,e⟩:=kK e;obtain ⟨ak,e⟩:=iz e;obtain ⟨al,e⟩:=ww e;have F:=v e F;have e:=F.ad aO;subst e;refine⟨λq n=>F.1 q (.tail _ n),λh ok g=> ?_⟩;have ao:((c9 N o d os h i au).heap.get? a).isSome:=by
    have:(c9 N o d os h i au).heap.get? a=H j:=g.ent _ (mN q);rw [this];rfl
   exact Go.step (am:=c9 N o d os (h.update a f) i au) (λs _ _ y=> .update ao y) (F.2 _ ok (g.update q al ak))
 |stack k=>
  cases I with
  |nil=>exact nomatch e
  |cons l I=>
   refine⟨?_,λh ok g=>step_stack D ok g e F⟩
   match l,e with
   |0,e=>have F:=v e F;exact F.1
   |1,e=>obtain ⟨_,e⟩:=iz e;have F:=v e F;exact λq n=>F.1 q (.tail _ n)
   |2,e=>
    refine aw (kK e) (aH λj=>an λ_ e=> ?_);obtain ⟨_,e⟩:=iz e;have F:=v e F;exact λq n=>F.1 q (.tail _ n)
   |l+3,e=>
    refine aw (kK e) (aH λj=>an λ_ e=> ?_);obtain ⟨_,e⟩:=iz e;have F:=v e F;exact λq n=>F.1 q (.tail _ n)
 |ask k=>
  cases I with
  |nil=>exact nomatch e
  |cons l I=>
   match l,e with
   |0,e=>have F:=v e F;exact⟨F.1,λh ok g=>Go.plain D (F.2 h ok g)⟩
   |1,e=>
    have F:=v e F;refine⟨λq n=>F.1 q (.tail _ n),λh ok g=>Go.plain D ?_⟩;have x:=F.2 h ok g;rcases zX N.P (ay 0)with z|z
    ·have e:=F.fN aO;rw [z]at e;exact r e x
    ·rw [z]at x;exact x
   |l+2,e=>exact nomatch e
 |_=>exact nomatch e
theorem Fa {x:G}{c d:Nat}{a b:G}(e:lF N x=H (c,d,a,b)):∃k,x.t= .ask k/\∃C,a={x with sc:=C,t:=k ⟨N.prog,gN N.P (ay 1) ag⟩}/\b={x with sc:=C,t:=k ⟨N.prog,gN N.P (ay 1) aN⟩}:=by
 refine aw (E5 e) (aH λk=>an λq e=> ?_);obtain ⟨_,_,e⟩:=nZ e;refine aw (nZ e) (bo λ_ _ e=> ?_);refine aw (nZ e) (bo λ_ f e=> ?_);have e:=o' e;exact⟨k,q,f,congrArg (·.2.2.1) e.symm,congrArg (·.2.2.2) e.symm⟩
theorem Fb {a b:G}(F:fX bt N u o p d os B (zG a b)):(∀q∈b.S,q.1=q.2)/\wx bt N u o p d os B a:=by
 cases a;cases b;exact⟨F.1,F.2⟩
theorem Fc {a b:G}(F:fX bt N u o p d os B (same a b)):fX bt N u o p d os B b/\wx bt N u o p d os B a:=by
 obtain ⟨t,c,A,M,w,v,m,i,au,S⟩:=b;obtain ⟨x,y,z,C,D,E,I,K,L,O⟩:=a;refine⟨⟨λq f=>F.1 q (.tail _ f),F.2⟩, ?_⟩;have e:=F.1 _ aO;injection e with g h j k l n r s;subst g h j k l n r s;exact F.2
theorem Fd(c:Good bt N u o):∀n a x,fX bt N u o p d os B (lG N n a x)->fX bt N u o p d os B x:=by
 intro n;induction n with
 |zero=>exact λ_ _ F=>F
 |succ n b=>
  intro a x F;cases a with
  |zero=>exact F
  |succ a=>
  unfold lG at F;cases q:step N x with
  |some y=>
   rw [q]at F;exact E' c q (b _ _ F)
  |none=>
   rw [q]at F;cases bc:lF N x with
   |none=>rw [bc]at F;exact F
   |some z=>
    obtain ⟨i,l,m,s⟩:=z;rw [bc]at F;obtain ⟨a8,j⟩:=Fc (b _ _ F);have a8:=Fb (b _ _ a8);refine aw (Fa bc) (aH λk=>an λe=>aH λt=>an ?_);rintro rfl;rintro rfl;have f:=b _ _ (⟨a8.1,j⟩:fX bt N u o p d os B (lG N n i _));refine⟨f.1,λh ok g=> ?_⟩;refine r e (Go.plain c ?_);rcases zX N.P (ay 1)with z|z
    ·have x:=f.2 h ok g;rw [z]at x;exact x
    ·have x:=a8.2 h ok g;have x:Go bt N u _ _ (k ⟨N.prog,gN N.P (ay 1) aN⟩) _ _ _:=x;rw [z]at x;exact x
theorem zZ(e:Good bt N u o){a:Nat}{b:List Nat}{c:aL}{A:ap}{M:aI b0}{w:List dc}(F:fX bt N u o p d os B (run N a b c A M w)):wx bt N u o p d os B ⟨b,c,A,M,w,N.es0,0,0,[],[]⟩:=by
 unfold run at F;exact(Fd e _ a _ F).2
end
structure n0(N:eO)(h c:aY)(xs:List (Option (ae×ab)))(m:Nat):Prop where
 kt:∀a az,N.kt a=H az->c.get? a=H az
 xs:∀a az,H (a,az)∈xs->c.get? a=H az
 fr:∀b az,h.get? b=H az->b∉wu N->c.get? b=H az
 aZ:c.objs.size=N.N+m
theorem wy:∀{bR:List Nat} {a:List (ae×ab)} {x:ae×ab},H x∈f_ a bR->x∈a
 | [],_,_,h=>nomatch h
 |c::b,a,x,h=>by
  rcases b8.mp h with h|h
  ·exact mN h.symm
  ·exact wy (bR:=b) h
section
variable {bt:Nat}{N:eO}{b:Array dM}{d:Drawn}{os:o0}
theorem pt(v:Good bt N u b){h:aY}(y:Rep N h h N.es0 0){f:Nat}{g s:List Nat}{c:aL}{A:ap}{M:aI b0}{w:List dc}(ok:cw w=ag){Y:i9}{n:Nat}{l m i au}
  (e:bF s (run N f g c A M w)=⟨Y,n,l,m,i,au,bG (run N f g c A M w)⟩)
  (k:∀j,cw (run N f g c A M w).aU=ag->es (run N f g c A M w).t=Y->(run N f g c A M w).aU.length=n->n0 N h j l m->
   Go bt N u (run N f g c A M w).c (run N f g c A M w).p (run N f g c A M w).t (run N f g c A M w).aU (c9 N b d os j i au) B):Go bt N u c A M w (c9 N b d os h 0 []) B:=by
 have z:es (run N f g c A M w).t=Y:=congrArg fl.hd e;have C:(run N f g c A M w).aU.length=n:=congrArg fl.th e;have E:f_ (run N f g c A M w).D s=l:=congrArg fl.xs e;have F:(run N f g c A M w).m=m:=congrArg fl.m e;have G:(run N f g c A M w).i=i:=congrArg fl.i e;have I:(run N f g c A M w).gl=au:=congrArg fl.gl e;have K:(run N f g c A M w).S.map (·.1)=(run N f g c A M w).S.map (·.2):=congrArg fl.S e;have L:fX bt N u b h d os B (run N f g c A M w):=by
  refine⟨λx p=> ?_,λj O o=> ?_⟩
  ·exact(vx.mp K) x p
  ·have p:∀a r,H (a,r)∈l->j.get? a=H r:=λa r t=>by
    rw [<-E]at t;exact o.ent _ (wy t)
   have q:=k j O z C ⟨o.kt,p,o.fr,by rw [<-F];exact o.aZ⟩;rw [<-G,<-I]at q;exact q
 exact zZ v L h ok y
noncomputable def lJ(M:aI b0):i9->Prop
 | .ret v=>M= .pure (.done (.ret v))
 | .next=>M= .pure (.done .next)
 | .err e=>M= .raise e
 | .again c=>M= .pure (.again c)
 | .call c Y=>∃a b,M= .call c Y a b (eh M)
 | .resume a d=>∃b,M= .resume a d b (tg M)
 | .genState a=>M= .genState a (wq M)
 | .yield v f=>∃b,M= .yield v f b (wr M)
 | .other=>True
theorem mO(M:aI b0):lJ M (es M):=by
 cases M with
 |pure a=>
  cases a with
  |done f=>cases f<;>first|exact t|exact trivial
  |again c=>exact t
 |_=>first|exact t|exact trivial|exact⟨_,t⟩|exact bh _ _ t
theorem e' {M:aI b0}{v:O}(h:es M= .ret v):M= .pure (.done (.ret v)):=(h▸mO M:lJ M (.ret v))
theorem n1 {M:aI b0}(h:es M= .next):M= .pure (.done .next):=(h▸mO M:lJ M .next)
theorem pu {M:aI b0}{e:O}(h:es M= .err e):M= .raise e:=(h▸mO M:lJ M (.err e))
theorem kL {M:aI b0}{c:aL}(h:es M= .again c):M= .pure (.again c):=(h▸mO M:lJ M (.again c))
theorem iA {M:aI b0}{c:aL}{Y:Option O}(h:es M= .call c Y):∃a b,M= .call c Y a b (eh M):=(h▸mO M:lJ M (.call c Y))
theorem Fe {M:aI b0}{a:Nat}{b:lu}(h:es M= .resume a b):∃c,M= .resume a b c (tg M):=(h▸mO M:lJ M (.resume a b))
theorem Ff {M:aI b0}{a:Nat}(h:es M= .genState a):M= .genState a (wq M):=(h▸mO M:lJ M (.genState a))
theorem Fg {M:aI b0}{v:O}{a:Bool}(h:es M= .yield v a):∃b,M= .yield v a b (wr M):=(h▸mO M:lJ M (.yield v a))
theorem cA {w:List dc}(h:w.length=0):w=[]:=List.eq_nil_of_length_eq_zero h
section
variable(f:Good bt N u b){h:aY}(o:Rep N h h N.es0 0){a9:Nat}{bj bR:List Nat}(ok:cw w=ag){aA:List (Option (ae×ab))}{m i:Nat}{au:List dM}
include f o ok
theorem PI {v:O}(e:bF bR (run N a9 bj c A M w)=⟨.ret v,0,aA,m,i,au,bG (run N a9 bj c A M w)⟩)
  (k:∀g,n0 N h g aA m->B (.ret (.ok (.ret v))) (c9 N b d os g i au)):Go bt N u c A M w (c9 N b d os h 0 []) B:=
 pt f o ok e λg n j l a=>by
  refine r (e' j) (r (cA l) ?_);exact Go.done (.ok (.ret v)) (k g a)
theorem PJ(e:bF bR (run N a9 bj c A M w)=⟨.next,0,aA,m,i,au,bG (run N a9 bj c A M w)⟩)
  (k:∀g,n0 N h g aA m->B (.ret (.ok .next)) (c9 N b d os g i au)):Go bt N u c A M w (c9 N b d os h 0 []) B:=
 pt f o ok e λg n j l a=>by
  refine r (n1 j) (r (cA l) ?_);exact Go.done (.ok .next) (k g a)
theorem PK {v:O}(e:bF bR (run N a9 bj c A M w)=⟨.err v,0,aA,m,i,au,bG (run N a9 bj c A M w)⟩)
  (k:∀g,n0 N h g aA m->B (.ret (.error v)) (c9 N b d os g i au)):Go bt N u c A M w (c9 N b d os h 0 []) B:=
 pt f o ok e λg n j l a=>by
  refine r (pu j) (r (cA l) ?_);exact Go.done (.error v) (k g a)
theorem PL {g:aL}{n:Nat}(l:g.quiet=ag)(e:bF bR (run N a9 bj c A M w)=⟨.again g,n,aA,m,i,au,bG (run N a9 bj c A M w)⟩)
  (k:∀j,cw (run N a9 bj c A M w).aU=ag->n0 N h j aA m->Go bt N u g (run N a9 bj c A M w).p (bI g) (run N a9 bj c A M w).aU (c9 N b d os j i au) B):Go bt N u c A M w (c9 N b d os h 0 []) B:=
 pt f o ok e λj p q s a=>by
  exact r (kL q) (Go.again g l (k j p a))
theorem PM {g:aL}(l:g.quiet=ag)(e:bF bR (run N a9 bj c A M w)=⟨.again g,0,aA,m,i,au,bG (run N a9 bj c A M w)⟩)
  (k:∀j n,n0 N h j aA m->Go bt N u g n (bI g) [] (c9 N b d os j i au) B):Go bt N u c A M w (c9 N b d os h 0 []) B:=
 pt f o ok e λj s p q a=>by
  refine r (kL p) (r (cA q) ?_);exact Go.again g l (k j _ a)
end
noncomputable def eO.at(N:eO)(l:Nat)(Y:Option O)(j:List (aL×ap)):eO:={N with dep:=l,hd:=Y,blw:=j}
noncomputable def fb(e:iW)(u:cZ)(l:Nat)(Y:Option O)(c:aL)(C:ac)(R:bZ->ac->Prop):Prop:=
 ∀a A,a.code=c->a.Below (di Y l)->∃b d,dB (b1 e u) a A (bI c) [] C (.ret b) d/\R b d
theorem fb.mono {d:iW}{l:Nat}{Y:Option O}{c:aL}{C:ac}{R cJ:bZ->ac->Prop}(h:fb d u l Y c C R)(e:∀a b,R a b->cJ a b):fb d u l Y c C cJ:=λf A g i=>by
 refine aw (h f A g i) (bo λa b=>an λj q=> ?_);exact bh a b ⟨j,e a b q⟩
theorem fb.code {a:iW}{l:Nat}{Y:Option O}{c:aL}{C:ac}{R:bZ->ac->Prop}(h:fb a u l Y c C R):mz (b1 a u) (di Y l) c R C:=λb A d e=>by
 refine aw (h b A d e) (bo λf g=>an λi q=> ?_);refine bh f g ⟨?_,q⟩;refine(?_:dB _ _ _ (denote mx b.code) _ _ _ _);refine r d (r hA ?_);exact i
theorem fb.rc {a:iW}{l:Nat}{Y:Option O}{c:aL}{C:ac}{R:bZ->ac->Prop}(h:mz (b1 a u) (di Y l) c R C):fb a u l Y c C R:=λb A d i=>by
 refine aw (h b A d i) (bo λe f=>an λj q=> ?_);refine bh e f ⟨?_,q⟩;have g:dB (b1 a u) b A (denote mx b.code) [] C (.ret e) f:=j;rw [d,hA]at g;exact g
noncomputable def ei(R:bZ->ac->Prop):eL->ac->Prop
 | .ret a,C=>R a C
 | .susp ..,_=>False
theorem fb.c1 {bt:Nat}{N:eO}{c:aL}{C:ac}{R:bZ->ac->Prop}(h:∀j A,Go bt {N with blw:=j} u c A (bI c) [] C (ei R)):fb N.prog u bt N.hd c C R:=λa A b d=>by
 refine aw (h a.below A a b d t) (bo λe f=>aT λg _ q=> ?_);cases e with
 |ret i=>exact bh i f ⟨g,q⟩
 |susp=>cases q
theorem Go.i' {bt:Nat}{N:eO}{c:aL}{A:ap}{w:List dc}{C:ac}{a:aL}{Y fm:Option O}{h:Bool}{i:List O}{k:bZ->aI b0}{br:Nat}{R:bZ->ac->Prop}(ok:cw w=ag)(p:jG Y=ag)
  (r:dp (bt+cW c w) br=ag)(s:fm=Y.or (fw w (N.hd,N.hd)).1)(v:fb N.prog u br fm a C R)
  (x:∀d f,R d f->Go bt N u c A (k d) w f B):Go bt N u c A (.call a Y h i k) w C B:=λb j l z=>by
 have m:=iy l w ok;rw [j]at m;have g:=m.enter a Y A (q' p);have D:((b.over w).enter a Y A).Below (di fm br):=by
  have E:=jP c w;have F:=jQ c w;have n:bt+cW c w<=br:=cP r;refine⟨?_, ?_,(λi G=>by cases G),(λh I=>by cases I), ?_⟩
  ·rw [g.1,s];rfl
  ·have q:gm ((b.over w).enter a Y A).below<=301+bt+gm (w.map cU)+c.weight:=g.2.1;exact mL q E n
  ·have q:fK ((b.over w).enter a Y A).below<=4+3*bt+fK (w.map cU)+c.cUnits:=g.2.2.2.2;exact pl q F n
 refine aw (v ((b.over w).enter a Y A) A t D) (bo λd K=>an λo L=> ?_);refine aw (x d K L b j l z) (bo λe f=>an λM P=> ?_);rw [<-hA]at o;exact bh e f ⟨jH (λ_ _ y=> .call o y) M,P⟩
section
variable(f:Good bt N u b){h:aY}(o:Rep N h h N.es0 0){a9:Nat}{bj bR:List Nat}(ok:cw w=ag){aA:List (Option (ae×ab))}{m i:Nat}{au:List dM}
include f o ok
theorem PN {p:aL}{Y q:Option O}{n s:Nat}{R:bZ->ac->Prop}(e:bF bR (run N a9 bj c A M w)=⟨.call p Y,n,aA,m,i,au,bG (run N a9 bj c A M w)⟩)(v:jG Y=ag)
  (x:dp (bt+cW (run N a9 bj c A M w).c (run N a9 bj c A M w).aU) s=ag)(y:q=Y.or (fw (run N a9 bj c A M w).aU (N.hd,N.hd)).1)
  (z:∀g,n0 N h g aA m->fb N.prog u s q p (c9 N b d os g i au) R)
  (k:∀j l,cw (run N a9 bj c A M w).aU=ag->R j l->Go bt N u (run N a9 bj c A M w).c (run N a9 bj c A M w).p (eh (run N a9 bj c A M w).t j) (run N a9 bj c A M w).aU l B):Go bt N u c A M w (c9 N b d os h 0 []) B:=
 pt f o ok e λg t C F a=>by
  refine aw (iA C) (bo λG I D=> ?_);refine r D (Go.i' t v x y (z g a) λj l E=> ?_);exact k j l t E
end
end
end
open zM
set_option backward.match.sparseCases false
section
open PySem PySem.W PySem.Calls
noncomputable def Fh(b:Model)(d:Ctx)(A:ap)(M:aI Fin)(C:ac)(e:eL)(g:ac):Prop:=
 match M with
 | .pure x=>∀f,x= .done f->e= .ret (.ok f)/\g=C
 | .raise x=>e= .ret (.error x)/\g=C
 | .rule _ k=>dB b d A (k ()) [] C e g
 | .at p k=>dB b d p (k ()) [] C e g
 | .load a _ k=>∃j,I C a j/\dB b d A (k j) [] C e g
 | .update a _ f k=>(C.heap.get? a).isSome/\dB b d A (k ()) [] {C with heap:=C.heap.update a f} e g
 | .loadIfAlive a k=>dB b d A (k (C.heap.get? a)) [] C e g
 | .point _ k=>dB b d A (k ()) [] C e g
 | .alloc j k=>dB b d A (k C.heap.objs.size) [] {C with heap:=C.heap.push j} e g
 | .fresh k=>dB b d A (k C.toks) [] {C with toks:=C.toks+1} e g
 | .ask k=>dB b d A (k ⟨b.prog,b.w.params⟩) [] C e g
 | .choose m n k=>n≠0/\dB b d A (k (b.w.draws m (C.drawn.get m)% n)) [] {C with drawn:=C.drawn.bump m} e g
 | .os q _ k=>dB b d A (k (Os.step C.os q).2) [] {C with os:=(Os.step C.os q).1} e g
 | .handled r k=>dB b d A (k (if r then d.own else d.handled)) [] C e g
 | .genState o k=>∃st,C.gens[o]? =H st/\dB b d A (k st.seen) [] C e g
 | .stack k=>dB b d A (k ((d.code,A)::d.below)) [] C e g
 | .thread k=>dB b d A (k 0) [] C e g
 | .newGen c k=>dB b d A (k C.gens.size) [] {C with gens:=C.gens.push (.fresh c)} e g
 | .call c h _ _ k=>∀q,e= .ret q->∃l i,dB b (d.enter c h A) A (b.den c) [] C (.ret l) i/\dB b d A (k l) [] i e g
 | .resume o l _ k=>∃u i,Wakes b d A o l C u i/\dB b d A (k u) [] i e g
 | .yield .. =>∀q,e≠ .ret q
 |_=>False
theorem jR {g:Model}{i:Ctx}{A:ap}{M:aI Fin}{w:List dc}{C j:ac}{e:eL}(h:dB g i A M w C e j)(k:w=[]):Fh g i A M C e j:=by
 revert k;induction h with
 |done=>exact λ_ f e=>⟨by injection e with e;refine r e ?_;rfl,t⟩
 |raise=>exact λ_=>⟨t,t⟩
 |again=>exact λ_ f e=>by cases e
 |rule h _|«at» h _|loadIfAlive h _|point h _|alloc h _|fresh h _|ask h _|os h _|handled h _|stack h _|thread h _|newGen h _=>exact λ_=>h
 |load a h _|genState a h _=>exact λ_=>⟨_,a,h⟩
 |update a h _|choose a h _=>exact λ_=>⟨a,h⟩
 |call a h _ _=>exact λ_ _ _=>bh _ _ ⟨a,h⟩
 |callSusp a _=>exact λ_ _ e=>by cases e
 |yield=>exact λ_ _ e=>by cases e
 |resumeFresh b c d h _ _=>exact λ_=>⟨_,_,by unfold Wakes;refine r b ?_;exact bh _ _ ⟨c,d,t,t⟩,h⟩
 |resumeSuspended b c d h _ _=>exact λ_=>⟨_,_,by unfold Wakes;refine r b ?_;exact bh _ _ ⟨c,d,t,t⟩,h⟩
 |resumeJustStarted b l h _=>exact λ_=>bh _ _ ⟨(by unfold Wakes;refine r b ?_;dsimp only;split<;>rename_i q<;>first|exact⟨t,t⟩|(injection q with q;exact absurd q l)|(cases q)),h⟩
 |resumeThrowFresh b h _|resumeRunning b h _|resumeFinished b h _=>exact λ_=>bh _ _ ⟨by unfold Wakes;refine r b ?_;exact⟨t,t⟩,h⟩
 |segRet|segGen|segSuspOut|segSuspGen=>exact λh=>by cases h
theorem z0 {o:Type}(p:Model)(q:o->dQ)(m:aI o):∀{i:Ctx} {A:ap} {C g:ac} {d:bZ},
  dB p i A (d3 m (λf=> .pure (.done (q f)))) [] C (.ret d) g->gJ p i m (λf _ j=>d= .ok (q f)/\j=g) (λx _ j=>d= .error x/\j=g) A C:=by
 induction m with
 |pure a=>intro i A C g d h;have:=jR h t _ t;injection this.1 with e;exact⟨e,this.2.symm⟩
 |raise x=>intro i A C g d h;have:=jR h t;injection this.1 with e;exact⟨e,this.2.symm⟩
 |unsupported|finish|register|fork|await=>intro i A C g d h;exact(jR h t).elim
 |yield=>intro i A C g d h;exact absurd t (jR h t _)
 |load a s k b=>intro i A C g d h;exact(jR h t).elim λl x=>⟨l,x.1,b _ x.2⟩
 |genState r k b=>intro i A C g d h;exact(jR h t).elim λl x=>⟨l,x.1,b _ x.2⟩
 |update a s f k b=>intro i A C g d h;exact(jR h t).imp id (b _)
 |choose v n k b=>intro i A C g d h;exact(jR h t).imp id (b _)
 |call c Y r u k b=>intro i A C g d h;exact(jR h t _ t).imp λd x=>x.imp λj x=>x.imp id (b _)
 |resume r d u k b=>intro i A C g d h;exact(jR h t).imp λd x=>x.imp λj x=>x.imp id (b _)
 |rule _ k b|«at» _ k b|loadIfAlive _ k b|point _ k b|alloc _ k b|fresh k b|ask k b|os _ _ k b|handled _ k b|newGen _ k b|stack k b|thread k b=>intro i A C g d h;exact b _ (jR h t)
end
section
open PySem PySem.W
noncomputable def cB(g:Nat->Option ab)(P:a1)(l n a b:Nat)(Y:Option O)(j:List (aL×ap))(c:List (ae×ab))(d:List Nat)(e:List cI:=[]):eO:=
 ⟨l,g,n+101,a,b,Y,vX,P,j,c,d,e⟩
structure wz where
 V:eO
 c:aL
 p:ap
 t:aI Fin
 aU:List dc
noncomputable def start(a:eO)(c:aL)(A:ap):wz:=⟨a,c,A,bI c,[]⟩
noncomputable def wz.run(C:wz)(a:Nat)(b:List Nat):G:=cQ.run C.V a b C.c C.p C.t C.aU
noncomputable def z1:=0 where
 b4(u:List Nat)(M:cL):Value:= .str ⟨⟨u⟩⟩ M
 mP(c:String)(v u:List Nat)(M d a f b e:Nat):Obj:={cls:= .type c,data:= .fields ⟨[b4 v M,b4 u (M+1),b4 fj (M+2),aj d 0,aj a 0,aj 0 0,aj 0 0,aj f 0,.ref b,.bool ag,aj 181 0,.ref (b+1),.none,.ref (b+2),.ref (b+3),.ref (b+4),aj e 0,aj d 0,b4 fj (e+1)]⟩}
 kM(k:Nat->Option ab)(a:Nat):Option Obj:=bif (e7 a 16||e7 a 39||e7 a 74||e7 a 96)then J else k a
open z1
section
variable(g:Nat->Option ab)(P:a1)(l n o L:Nat)
section
variable(Y:Option O)(j:List (aL×ap))(D:List (ae×ab))(aQ:List Nat)(aC:List cI)(a9:Nat)(bj:List Nat)
@[reducible] noncomputable def gO(c:aL)(A:ap)(M:aI b0):G:=run (cB g P l n o L Y j D aQ aC) a9 bj c A M []
@[reducible] noncomputable def Fi(c:aL)(A:ap):G:=run (cB g P l n o L Y j D aQ aC) a9 bj c A (bI c) []
@[reducible] noncomputable def tm(S:G)(A:ap)(a:bZ):G:=run (cB g P l n o L Y j D aQ aC) a9 bj S.c A (eh S.t a) S.aU
end
variable(j:List (aL×ap))(D:List (ae×ab))(aQ:List Nat)(aC:List cI)(a9:Nat)(bj:List Nat)
@[reducible] noncomputable def h(c:aL)(A:ap)(M:aI b0):G:=run (cB g P l n o L J j D aQ aC) a9 bj c A M []
@[reducible] noncomputable def c_(c:aL)(A:ap):G:=run (cB g P l n o L J j D aQ aC) a9 bj c A (bI c) []
@[reducible] noncomputable def bJ(S:G)(A:ap)(a:bZ):G:=run (cB g P l n o L J j D aQ aC) a9 bj S.c A (eh S.t a) S.aU
end
end
open z1
section
open PySem PySem.W PySem.Calls
noncomputable abbrev bH:Program:=vX
noncomputable def ai(u:cZ)(l:Nat)(Y:Option O)(j:List (aL×ap))(c:aL)(A:ap)(M:aI b0)(w:List dc)(C:ac)(B:eL->ac->Prop):Prop:=
 ∀a,a.code=c->a.Below (di Y l)->a.below=j->∃e b,dB (b1 bH u) a A M w C e b/\e.quiet=ag/\B e b
structure Base(b5:Nat->Option ab):Prop where
 lim:∀h:aY,(∀a az,b5 a=H az->h.get? a=H az)->h.NoLimit
structure aR(kt:Nat->Option ab)(C:ac):Prop where
 lo:101<=C.heap.objs.size
 kt:∀a az,kt a=H az->I C a az
noncomputable def b6(g:Nat->Option ab)(c:List (ae×ab))(e:List Nat):Prop:=
 ∀i∈e,∀a,(c.map (·.1))[i]? =H a->g a=J/\∀(d:Nat) (b:ae),(c.map (·.1))[d]? =H b->d≠i->b≠a
theorem b6.nil {g a}:b6 g a []:=λ_ h=>nomatch h
noncomputable def c'(a:List (ae×ab))(b:List Nat):List Addr:=b.filterMap λc=>(dy a c).map (·.1)
structure kN(b5:Nat->Option ab)(D:List (ae×ab))(e:List Nat)(d:List (ae×ab))(xs:List (Option (ae×ab)))(m i:Nat)(au:List dM)(C c:ac):Prop where
 K:aR b5 c
 al:∀x∈d,I c x.1 x.2
 xs:∀a az,H (a,az)∈xs->I c a az
 fr:∀b az,I C b az->b∉c' D e->I c b az
 lI:d.map (·.1)=D.map (·.1)++(c8 m).map (λk=>C.heap.objs.size+k)
 aZ:c.heap.objs.size=C.heap.objs.size+m
 bx:c.toks=C.toks+i
 ct:c.gens=C.gens++au.toArray
 eP:c.drawn=C.drawn
 os:c.os=C.os
theorem c2 {ak:Nat}(aj:l<=ak)(al:Base g)(K:aR g C){n v L:Nat}(P:C.heap.objs.size=n+101)(am:C.toks=v)(ao:C.gens.size=L)
  {D:List (ae×ab)}{aQ:List Nat}{aC:List cI}(ap:∀x∈D,I C x.1 x.2)(U:b6 g D aQ)(aq:∀E∈aC,E.Ok bH u)(ok:cw w=ag)
  {o:Nat}{p V:List Nat}{Q:i9}{R:Nat}{N m i au}
  (e:bF V (run (cB g u.params ak n v L Y j D aQ aC) o p c A M w)=⟨Q,R,N,m,i,au,bG (run (cB g u.params ak n v L Y j D aQ aC) o p c A M w)⟩)
  (k:∀W s,s=run (cB g u.params ak n v L Y j D aQ aC) o p c A M w->cw s.aU=ag->es s.t=Q->s.aU.length=R->
   kN g D aQ s.D N m i au C W->ai u l Y j s.c s.p s.t s.aU W B):ai u l Y j c A M w C B:=by
 subst am ao;obtain ⟨h,y,d,v,os⟩:=C
 let f:eO:=cB g u.params ak n v y.size Y j D aQ aC
 have ar:Good l f u y:=⟨t,al.lim,t,aq,aj⟩;have O:∀i a,(D.map (·.1))[i]? =H a->ra f i=ag->i∈aQ:=λi a z O=>by
  have X:=(g8.mp z).1;rw [bM]at X;rcases (Bool.or_eq_true _ _).mp O with q|q
  ·have:=cP q;exact absurd X (cx this)
  ·refine aw (sz.mp q) (aH λas=>an λav ax=> ?_);have:i=as:=oQ ax;exact this▸av
 have ay:Rep f h h f.es0 0:=⟨K.kt,ap,λi a z S=>(U i (O i a z S) a z).2,λi a z S=>(U i (O i a z S) a z).1,P,λb E e _=>e,P,by
  refine(?_:_=_++List.map _ (c8 0));rw [List.range_zero,List.map_nil,mo]⟩
 have az:c9 f y d os h 0 []=⟨h,y,d,v,os⟩:=by
  refine(?_:(⟨h,y++[].toArray,d,v+0,os⟩:ac)=_);simp
 have main:Go l f u c A M w (c9 f y d os h 0 []) B:=by
  have aA:es (run f o p c A M w).t=Q:=congrArg fl.hd e;have aB:(run f o p c A M w).aU.length=R:=congrArg fl.th e;have aD:f_ (run f o p c A M w).D V=N:=congrArg fl.xs e;have Z:(run f o p c A M w).m=m:=congrArg fl.m e;have aE:(run f o p c A M w).i=i:=congrArg fl.i e;have aF:(run f o p c A M w).gl=au:=congrArg fl.gl e;have aG:(run f o p c A M w).S.map (·.1)=(run f o p c A M w).S.map (·.2):=congrArg fl.S e;have aI:fX l f u y h d os B (run f o p c A M w):=by
   refine⟨λx T=>(vx.mp aG) x T,λG aJ F=> ?_⟩;have T:∀a E,H (a,E)∈N->G.get? a=H E:=λa E aa=>by
    rw [<-aD]at aa;exact F.ent _ (wy aa)
   have af:G.objs.size=n+101+m:=by rw [<-Z];exact F.aZ
   have ah:h.objs.size=n+101:=P;exact k (c9 f y d os G (run f o p c A M w).i (run f o p c A M w).gl) _ t aJ aA aB ⟨⟨by refine(?_:101<=G.objs.size);rw [af];exact aS (hT 101 n) (dq _ m),F.kt⟩,F.ent,T,F.fr,by
    have q:=F.lI;rw [Z]at q;refine r q ?_;have bs:f.N=h.objs.size:=ah.symm;refine r bs ?_;rfl,by refine(?_:G.objs.size=h.objs.size+m);rw [af,ah],
    by refine r aE ?_;rfl,by refine r aF ?_;rfl,t,t⟩
  exact zZ ar aI h ok ay
 rw [az]at main;exact main
theorem mQ(s:Base g)(K:aR g C){n b d:Nat}(t:C.heap.objs.size=n+101)(v:C.toks=b)(y:C.gens.size=d)
  {D:List (ae×ab)}{aQ:List Nat}{aC:List cI}(z:∀x∈D,I C x.1 x.2)(E:b6 g D aQ)(F:∀G∈aC,G.Ok bH u)(ok:cw w=ag)
  {f:Nat}{h L:List Nat}{o:i9}{p:Nat}{q m i au}
  (e:bF L (run (cB g u.params l n b d Y j D aQ aC) f h c A M w)=⟨o,p,q,m,i,au,bG (run (cB g u.params l n b d Y j D aQ aC) f h c A M w)⟩)
  (k:∀r a,a=run (cB g u.params l n b d Y j D aQ aC) f h c A M w->cw a.aU=ag->es a.t=o->a.aU.length=p->
   kN g D aQ a.D q m i au C r->ai u l Y j a.c a.p a.t a.aU r B):ai u l Y j c A M w C B:=
 c2 (aW l) s K t v y z E F ok e k
theorem b6.new {c j:List (ae×ab)}{m:Nat}{l:List Nat}(K:aR g C)(r:∀x∈c,I C x.1 x.2)
  (s:j.map (·.1)=c.map (·.1)++(c8 m).map (λk=>C.heap.objs.size+k))(t:l.all (λi=>dp c.length i)=ag):b6 g j l:=by
 intro i u a h;have n:c.length<=i:=cP (sB.mp t i u);rw [s]at h⊢;rw [iV (by rw [bM];exact n),bM,d1]at h;refine aw (fL.mp h) (aH λk=>an λv w=> ?_);have z:C.heap.objs.size+k=a:=w;subst z;have A:k=i-c.length:=by
  have:=(g8.mp v);obtain ⟨B,d⟩:=this;rw [qv]at d;exact d.symm
 refine⟨?_,λD b f E=> ?_⟩
 ·cases q:g (C.heap.objs.size+k)with
  |none=>rfl
  |some y=>exact absurd (b9 (K.kt _ _ q)) (cx (dq _ _))
 ·by_cases d:D<c.length
  ·rw [iU (by rw [bM];exact d),d1]at f;refine aw (fL.mp f) (aH λx=>an λF=> ?_);rintro rfl;have:=b9 (r x (dP F));exact a7 (bP this (dq _ _))
  ·rw [iV (by rw [bM];exact(eJ d)),bM,d1]at f;refine aw (fL.mp f) (aH λo=>an λG L=> ?_);have M:C.heap.objs.size+o=b:=L;subst M;obtain ⟨B,p⟩:=g8.mp G;rw [qv]at p;intro e;have N:o=k:=nD e;exact E (by rw [<-ir (eJ d),p,N,A,ir n])
theorem b6.same {a b:List (ae×ab)}{c:List Nat}(h:b6 g a c)(e:b.map (·.1)=a.map (·.1)):b6 g b c:=by
 unfold b6;exact r e h
theorem ai.done(a:bZ)(h:B (.ret a) C):ai u l Y j c A (leafOf a) [] C B:=λb _ _ _=>bh (.ret a) C ⟨dB.leaf a,t,h⟩
theorem ai.again(a:aL)(b:a.quiet=ag)(x:ai u l Y j a A (bI a) w C B):ai u l Y j c A (.pure (.again a)) w C B:=
 Go.again (bt:=l) (N:=cB (λ_=>J) u.params l 0 0 0 Y j [] [] []) (c:=c) (A:=A) a b x
theorem ai.mono {f:eL->ac->Prop}(h:∀e d,B e d->f e d)(x:ai u l Y j c A M w C B):ai u l Y j c A M w C f:=λg a b c=>by
 refine aw (x g a b c) (bo λe d=>aT λi k q=> ?_);exact bh e d ⟨i,k,h e d q⟩
noncomputable def a4(u:cZ)(l:Nat)(Y:Option O)(c:aL)(C:ac)(R:bZ->ac->Prop):Prop:=fb bH u l Y c C R
theorem a4.c1 {R:bZ->ac->Prop}(h:∀j A,ai u l Y j c A (bI c) [] C (ei R)):a4 u l Y c C R:=
 fb.c1 (bt:=l) (N:=cB (λ_=>J) u.params l 0 0 0 Y [] [] [] []) h
theorem ai.i' {b:aL}{a fm:Option O}{f:Bool}{g:List O}{k:bZ->aI b0}{br:Nat}{R:bZ->ac->Prop}(ok:cw w=ag)(h:jG a=ag)
  (i:dp (l+cW c w) br=ag)(m:fm=a.or (fw w (Y,Y)).1)(n:a4 u br fm b C R)
  (x:∀d e,R d e->ai u l Y j c A (k d) w e B):ai u l Y j c A (.call b a f g k) w C B:=
 Go.i' (bt:=l) (N:=cB (λ_=>J) u.params l 0 0 0 Y j [] [] []) ok h i m n x
theorem a4.mono {R cJ:bZ->ac->Prop}(h:a4 u l Y c C R)(d:∀a b,R a b->cJ a b):a4 u l Y c C cJ:=fb.mono h d
theorem a4.lower {R:bZ->ac->Prop}{a:Nat}(h:a4 u a Y c C R)(b:l<=a):a4 u l Y c C R:=λd A e f=>h d A e (nY b f)
section
variable {R:bZ->ac->Prop}
theorem ai.dN(h:∀B:eL->ac->Prop,(∀a b,R a b->B (.ret a) b)->ai u l Y j c A M w C B):ai u l Y j c A M w C (ei R):=h _ λ_ _ x=>x
theorem ai.imp {B:eL->ac->Prop}(x:ai u l Y j c A M w C (ei R))(h:∀a b,R a b->B (.ret a) b):ai u l Y j c A M w C B:=x.mono λe b q=>by
 cases e with
 |ret a=>exact h a b q
 |susp=>exact q.elim
theorem a4.cps(h:∀j A B,(∀a b,R a b->B (.ret a) b)->ai u l Y j c A (bI c) [] C B):a4 u l Y c C R:=a4.c1 λj A=>ai.dN λB k=>h j A B k
end
theorem z2 {a:Ctx}(f:a.Below (di Y l))(g:a.code=c)(ok:cw w=ag){b:Nat}(h:dp (l+cW c w) b=ag)(i:aL)(A:ap):
  ((a.over w).wake i A).Below (di (fw w (Y,Y)).1 b):=by
 have d:=iy f w ok;rw [g]at d;have j:=jP c w;have k:=jQ c w;have e:l+cW c w<=b:=cP h;refine⟨d.1, ?_,(λo m=>by cases m),(λp n=>by cases n), ?_⟩
 ·have q:gm (a.over w).below+(a.over w).code.weight<=301+l+gm (w.map cU)+c.weight:=d.2.1;refine(?_:gm ((a.code,A)::(a.over w).below)<=301+b);rw [frameCount_cons,iq];exact mL q j e
 ·have q:fK (((a.over w).code,A)::(a.over w).below)<=4+3*l+fK (w.map cU)+c.cUnits:=by
   rw [vI];exact d.2.2.2.2
  refine(?_:fK ((a.code,A)::(a.over w).below)<=4+3*b);exact pl (F:=fK (((a.over w).code,A)::(a.over w).below)) q k e
noncomputable def tn(u:cZ)(l:Nat)(Y:Option O)(c:aL)(A:ap)(M:aI b0)(w:List dc)(C:ac)(R:eL->ac->Prop):Prop:=
 ∀j,ai u l Y j c A M w C R
theorem ai.resumeFresh {b:Nat}{o:List O}{k:GenResult->aI b0}{a:aL}{f:Option O}{g:Nat}{R:eL->ac->Prop}(ok:cw w=ag)
  (p:dp (l+cW c w) g=ag)(q:f=(fw w (Y,Y)).1)(r:C.gens[b]? =H (.fresh a))
  (s:tn u g f a A (bI a) [] (C.setGen b .running) R)
  (x:∀e d,R e d->ai u l Y j c A (k e.result) w (d.setGen b e.genState) B):ai u l Y j c A (.resume b (.send .none) o k) w C B:=λh i m v=>by
 subst q;refine aw (s _ ((h.over w).wake a A) t (z2 m i ok p a A) t) (bo λe d=>aT λn z D=> ?_);refine aw (x e d D h i m v) (bo λE F=>an λG I=> ?_);rw [<-hA]at n;exact bh E F ⟨jH (λ_ _ y=> .resumeFresh r n z y) G,I⟩
theorem ai.Fj {a:Nat}{r:List O}{f:lu}{k:GenResult->aI b0}{b:aL}{g s h i v}{m:Option O}{n:Nat}{R:eL->ac->Prop}(ok:cw w=ag)
  (z:dp (l+cW c w) n=ag)(D:m=(fw w (Y,Y)).1)(E:C.gens[a]? =H (.suspended g s b h i v))
  (F:tn u n m b h (g f) i (C.setGen a .running) R)
  (x:∀e d,R e d->ai u l Y j c A (k e.result) w (d.setGen a e.genState) B):ai u l Y j c A (.resume a f r k) w C B:=λo p q G=>by
 subst D;refine aw (F _ ((o.over w).wake b A) t (z2 q p ok z b A) t) (bo λe d=>aT λI K L=> ?_);refine aw (x e d L o p q G) (bo λM N=>an λP Q=> ?_);exact bh M N ⟨jH (λ_ _ y=> .resumeSuspended E I K y) P,Q⟩
theorem ai.genState {a:Nat}{k:GenStatus×Option (List (aL×ap))->aI b0}{st:dM}(b:C.gens[a]? =H st)
  (x:ai u l Y j c A (k st.seen) w C B):ai u l Y j c A (.genState a k) w C B:=λd e f g=>by
 refine aw (x d e f g) (bo λh i=>an λm n=> ?_);exact bh h i ⟨jH (λ_ _ y=> .genState b y) m,n⟩
theorem ai.yield(v:O)(a:List O)(k:lu->aI b0)(b:sL w=J)(d:w.any mG=aN)(h:B (.susp v aN a k c A w) C):ai u l Y j c A (.yield v aN a k) w C B:=λf e g i=>by
 subst e;exact bh _ C ⟨dB.yield' w b,by simp [eL.quiet,d],h⟩
theorem ai.Fk {g:Type}{m:aI g}{K:g->aI b0}(ok:cw w=ag){aG:g->ac->Prop}{af:O->ac->Prop}
  (p:bD (b1 bH u) ((di Y l).over c w) m aG af C)
  (x:∀a d b,aG a b->ai u l Y j c d (K a) w b B)
  (y:∀a d b,af a b->ai u l Y j c d (.raise a) w b B):ai u l Y j c A (d3 m K) w C B:=λf h i n=>by
 refine r (show d3 m K=m>>=K from(by refine r (cj qL) ?_;rfl)) ?_;rewrite [qN];have o:=iy i w ok;rw [h]at o;refine aw (oZ (Γ:=f) (Φ:=λe b=>e.quiet=ag/\B e b) K .raise id id m (p (f.over w) A o) (λa d b k=>x a d b k f h i n) (λa d b k=>y a d b k f h i n)) (bo λe b=>an λq s=> ?_);exact bh e b ⟨q,s⟩
theorem ai.bindG {g:Type}{m:aI g}{K:g->aI b0}(h:g->dQ){i:bZ->ac->Prop}
  (v:ai u l Y j c A (d3 m (λa=> .pure (.done (h a)))) [] C (ei i))
  (x:∀a d b,i (.ok (h a)) b->ai u l Y j c d (K a) [] b B)
  (y:∀a d b,i (.error a) b->ai u l Y j c d (.raise a) [] b B):ai u l Y j c A (d3 m K) [] C B:=λf k n o=>by
 refine aw (v f k n o) (bo λe w=>aT λp t q=> ?_);cases e with
 |susp=>cases q
 |ret D=>
  have z:=z0 (b1 bH u) h m p;refine r (show d3 m K=m>>=K from(by refine r (cj qL) ?_;rfl)) ?_;rewrite [qN];have E:f.over []=f:=rfl;refine aw (oZ (Γ:=f) (fs:=[]) (Φ:=λe b=>e.quiet=ag/\B e b) K .raise id id m z
   (λa d b s=>by
    obtain ⟨rfl,rfl⟩:=s;exact x a d _ q f k n o)
   (λa d b s=>by
    obtain ⟨rfl,rfl⟩:=s;exact y a d _ q f k n o)) (bo λe b=>an λp t=> ?_)
  exact bh e b ⟨p,t⟩
end
set_option backward.match.sparseCases true
section
open PySem
example:zc="list":=rfl
noncomputable def z3:=0 where
 ah(a:List O)(e:Nat:=0):Obj:={cls:= .type "list",data:= .seq ⟨a⟩ e}
 b2(a:ae)(i:Nat):Obj:={cls:= .type "list_iterator",data:= .fields ⟨[.ref a,aj i 0]⟩}
 PO:Obj:={cls:= .type "list_iterator",data:= .fields ⟨[.none,aj 0 0]⟩}
open z3
theorem cI.mR {u:cZ}{a:cI}(h:∀C,(∀x∈a.pre,I C x.2.1 x.2.2)->mz (b1 bH u) (di J 600) (.call (.builtin a.id) a.args)
   (λc d=>c=a.r C.heap.objs.size C.toks/\d={C with heap:=lH (mM C.heap a.upd) (a.news C.heap.objs.size),toks:=C.toks+a.bx}) C):a.Ok bH u:=λC g b A e i=>by
 refine aw (h C g b A e i) (bo λc d=>aT λj=> ?_);rintro rfl;rintro rfl;have f:dB (b1 bH u) b A (denote mx b.code) [] C _ _:=j;rw [e,hA]at f;exact f
theorem jS {u:cZ}{g:String}{k:c0}{id:String}{b:iX}{a:O}{d:List O}{i:ef}{R:bZ->ac->Prop}{C:ac}(h:Slot g k id)(l:C.TypeIs a g)
  (m:entryFor mx id=H b)(n:argsOk id ⟨a::d,[]⟩)
  (o:bD (b1 bH u) i.in1 (b ⟨a::d,[]⟩) (λj c=>∃v,j= .done (.ret v)/\R (.ok (.ret v)) c) (λe c=>R (.error e) c) C):
  mz (b1 bH u) i (.call (.builtin id) ⟨a::d,[]⟩) R C:=by
 refine codeAny_call_builtin h.plain m (h.check _ _ _ _ _ _ _ _ l n (o1 o (λj c f=> ?_) λ_ _ f=>f));obtain ⟨v,rfl,p⟩:=f;exact p
theorem Heap.rd(h:aY)(a:ae)(f c:ab->ab){b:ab}(g:h.get? a=H b)(e:f b=c b):h.update a f=h.update a c:=by
 have i:=((qP _ _ _).1 g).1;obtain ⟨j,m⟩:=h;simp only [aY.update,aY.mk.injEq,and_true];apply Array.ext_getElem?;intro k;simp only [zd]
 by_cases d:a=k
 ·subst d;have l:j[a]? =H b:=i;simp [l,e]
 ·simp [d]
noncomputable def hB(c d:Nat)(a b:ae)(i:Nat)(f:List O)(e:Nat)(x:O):cI:=
 {id:="list_iterator.__next__",args:=⟨[.ref a],[]⟩,pre:=[(c,a,b2 b i),(d,b,ah f e)],r:=λ_ _=> .ok (.ret x)
  upd:=H (c,a,λ_=>b2 b (i+1)),news:=λ_=>[],bx:=0}
theorem n2 {u:cZ}{h j:Nat}{b a:ae}{i:Nat}{d:List O}{e:Nat}{x:O}(k:d[i]? =H x):(hB h j b a i d e x).Ok bH u:=by
 refine cI.mR λC f=> ?_;have c:I C b (b2 a i):=f _ aO;have l:I C a (ah d e):=f _ ci;refine jS (id:="list_iterator.__next__") o2 ⟨_,c,t⟩ vJ (vK _) ?_;refine(?_:bD _ _ (mA (.ref b) 0>>=_) _ _ C);refine bl (gn c t (x:= .ref a) t ?_);refine(?_:bD _ _ (if(iv a==fx)=ag then _ else _) _ _ C);refine r (if_neg (show¬((iv a==fx)=ag)from jE)) ?_;refine(?_:bD _ _ (mA (.ref b) 1>>=_) _ _ C);refine bl (gn c t (x:= .int i 0) t ?_);refine(?_:bD _ _ (qA (.ref a)>>=_) _ _ C);refine bl (o3 l t ?_);have m:(⟨d⟩:Array O)[(i:Int).toNat]? =H x:=by simpa using k
 simp only [m];refine bl (mB c t (by simp) (cG ⟨x,t,t, ?_⟩));have g:=Heap.rd C.heap b (gK (·.setIfInBounds 1 (d2 (i+1)))) (λ_=>b2 a (i+1)) c t;simp only [d2,hB,mM,lH,vn,Int.toNat_natCast]at g⊢;refine r (cj g) ?_;rfl
noncomputable def hC(b d:Nat)(a c:ae)(i:Nat)(f:List O)(e:Nat):cI:=
 {id:="list_iterator.__next__",args:=⟨[.ref a],[]⟩,pre:=[(b,a,b2 c i),(d,c,ah f e)],r:=λn _=> .error (.ref (n+1))
  upd:=H (b,a,λ_=>{cls:= .type "list_iterator",data:= .fields ⟨[.none,aj i 0]⟩})
  news:=λn=>[{cls:= .type "tuple",data:= .seq ⟨[]⟩ 0},{cls:= .type "StopIteration",data:= .fields ⟨[.ref n,fx,.none,.none,.bool aN,.none]⟩}],bx:=0}
theorem n3 {u:cZ}{h j:Nat}{c b:ae}{i:Nat}{f:List O}{e:Nat}(k:f.length<=i):(hC h j c b i f e).Ok bH u:=by
 refine cI.mR λC g=> ?_;have d:I C c (b2 b i):=g _ aO;have l:I C b (ah f e):=g _ ci;refine jS (id:="list_iterator.__next__") o2 ⟨_,d,t⟩ vJ (vK _) ?_;refine(?_:bD _ _ (mA (.ref c) 0>>=_) _ _ C);refine bl (gn d t (x:= .ref b) t ?_);refine(?_:bD _ _ (if(iv b==fx)=ag then _ else _) _ _ C);refine r (if_neg (show¬((iv b==fx)=ag)from jE)) ?_;refine(?_:bD _ _ (mA (.ref c) 1>>=_) _ _ C);refine bl (gn d t (x:= .int i 0) t ?_);refine(?_:bD _ _ (qA (.ref b)>>=_) _ _ C);refine bl (o3 l t ?_);have n:(⟨f⟩:Array O)[(i:Int).toNat]? =none:=by simpa using k
 simp only [n];refine bl (qB (bl (mB d t (by simp) ?_)));refine(?_:bD _ _ (newExc (.type "StopIteration") []>>=_) _ _ _);refine bl ?_;simp only [newExc,newTuple];refine bl (mC ?_ (by size_fits));refine bl (m:=sM _ _) (wpAny_of_eq (a:=fx) (by first|rfl|(simp only [sM];rfl)) ?_);refine mC ?_ (by size_fits);have o:=Heap.rd C.heap c (gK (·.setIfInBounds 0 .none)) (λ_=>{cls:= .type "list_iterator",data:= .fields ⟨[.none,aj i 0]⟩}) d t;simp only [qC];refine bl (wpAny_handled ?_);refine r (show(di J 600).in1.handled=J from t) (bl (cG (wpAny_throw ⟨?_, ?_⟩)))
 ·simp only [hC,kB,zb]
 ·simp only [hC,mM,lH,vn];refine r (cj o) ?_;simp only [zb];rfl
noncomputable def to(b:Nat)(a:ae)(c:List O)(e:Nat)(x:O):cI:=
 {id:="list.append",args:=⟨[.ref a,x],[]⟩,pre:=[(b,a,ah c e)],r:=λ_ _=> .ok (.ret .none),upd:=H (b,a,λ_=>ah (c++[x]) (e+1)),news:=λ_=>[],bx:=0}
theorem z4 {u:cZ}{f:Nat}{b:ae}{a:List O}{e:Nat}{x:O}(d:a.length<=lv):(to f b a e x).Ok bH u:=by
 refine cI.mR λC g=> ?_;have c:I C b (ah a e):=g _ aO;refine jS (id:="list.append") slot_list_append ⟨_,c,t⟩ entry_list_append (args_list_append _ _) ?_;refine(?_:bD _ _ (updateSeq b (·.push x)>>=λ_=>ret .none) _ _ C);refine bl (vL (xs:=⟨a⟩) (n:=e) c t (cG ⟨.none,t,t, ?_⟩) (show(⟨a⟩:Array O).size<=lv from d) (by refine(?_:(Array.push ⟨a⟩ x).size<=_);rw [vY];exact qr d));have h:=Heap.rd C.heap b (i2 (·.push x)) (λ_=>ah (a++[x]) (e+1)) c (by simp [ah,i2]);simp only [to,mM,lH,vn];refine r (cj h) ?_;rfl
theorem Fl {u:cZ}{i:ef}{C:ac}{b:ae}{a:List O}{e:Nat}{k:Int}{M:cL}{x:O}(f:I C b (ah a e))(g:0<=k)(h:k<2^63)(j:a[k.toNat]? =H x):
  mz (b1 bH u) i (.call (.builtin "list.__getitem__") ⟨[.ref b,.int k M],[]⟩) (λc l=>c= .ok (.ret x)/\l=C) C:=by
 refine jS (id:="list.__getitem__") vM ⟨_,f,t⟩ vN (vO _ _) ?_;refine(?_:bD _ _ (sV (.int k M)>>=_) _ _ C);refine bl (yV (fitsIndex_of g h) ?_);clear h;obtain ⟨d,rfl⟩:=Int.eq_ofNat_of_zero_le g;refine(?_:bD _ _ ((seqItemAt b d>>=λc=>pure (c.map (d, ·)))>>=_) _ _ C);refine bl (bl (wpAny_seqItemAt (items:=⟨a⟩) (n:=e) f t (cG ?_)));have m:(⟨a⟩:Array O)[d]? =H x:=by simpa using j
 refine r m ?_
 first
  |exact bl (cG (cG ⟨x,t,t,t⟩))
  |exact cG ⟨x,t,t,t⟩
theorem Fm {u:cZ}{h:ef}{C:ac}{b:ae}{a:List O}{e:Nat}{k:Int}{M:cL}{x:O}(f:I C b (ah a e))(c:k<0)(j: -(a.length:Int)<=k)(g: -(2^63)<=k)(l:a[(k+a.length).toNat]? =H x):
  mz (b1 bH u) h (.call (.builtin "list.__getitem__") ⟨[.ref b,.int k M],[]⟩) (λm o=>m= .ok (.ret x)/\o=C) C:=by
 refine jS (id:="list.__getitem__") vM ⟨_,f,t⟩ vN (vO _ _) ?_;refine(?_:bD _ _ (sV (.int k M)>>=_) _ _ C);refine bl (yV (fitsIndex_neg c g) ?_);clear g;have p:=seqIndex_neg (n:=(⟨a⟩:Array O).size) c j;have q:(⟨a⟩:Array O)[(k+((⟨a⟩:Array O).size:Int)).toNat]? =H x:=by simpa using l
 obtain ⟨d,rfl⟩:∃d:Nat,k=oX d:=by
  cases k with
  |ofNat n=>exact absurd c (Int.not_lt.mpr (Int.natCast_nonneg n))
  |negSucc n=>exact⟨n,t⟩
 refine(?_:bD _ _ ((sW (.ref b)>>=λa=>pure ((seqIndex? (oX d) a.size).bind λi=>a[i]?.map (i, ·)))>>=_) _ _ C);refine bl (bl ?_);refine(?_:bD _ _ (qA (.ref b)>>=_) _ _ C);refine bl (o3 (items:=⟨a⟩) (n:=e) f t (cG (cG ?_)));refine r p ?_;simp only [Option.bind_some,q,Option.map_some]
 first
  |exact bl (cG (cG ⟨x,t,t,t⟩))
  |exact cG ⟨x,t,t,t⟩
noncomputable def e0(b:Nat)(a:ae)(c:List O)(e k:Nat)(M:cL)(x:O):cI:=
 {id:="list.__getitem__",args:=⟨[.ref a,aj k M],[]⟩,pre:=[(b,a,ah c e)],r:=λ_ _=> .ok (.ret x),upd:=J,news:=λ_=>[],bx:=0}
theorem iB {u:cZ}{b:Nat}{c:ae}{a:List O}{e k:Nat}{M:cL}{x:O}(d:k<2^63)(f:a[k]? =H x):(e0 b c a e k M x).Ok bH u:=
 cI.mR λC g=>Fl (g _ aO) (Int.natCast_nonneg k) (zz d) f
noncomputable def re(b:Nat)(a:ae)(c:List O)(e:Nat)(M:cL)(x:O):cI:=
 {id:="list.__getitem__",args:=⟨[.ref a,.int (oX 0) M],[]⟩,pre:=[(b,a,ah c e)],r:=λ_ _=> .ok (.ret x),upd:=J,news:=λ_=>[],bx:=0}
theorem z5 {u:cZ}{d:Nat}{f:ae}{a:List O}{e:Nat}{M:cL}{x:O}(b:a.getLast? =H x):(re d f a e M x).Ok bH u:=
 have c:1<=a.length:=by cases a with|nil=>cases b|cons=>simp
 cI.mR λC g=>Fm (g _ aO) (by decide) (Int.neg_le_neg (Int.ofNat_le.mpr c)) (by decide) (by
  have h:(oX 0+(a.length:Int)).toNat=a.length-1:=congrArg Int.toNat (Int.subNatNat_of_le c);refine r h (r (cj yL) ?_);exact b)
noncomputable def wA(id:String)(a b:Int)(M c:cL)(d:Bool):cI:=
 {id,args:=⟨[.int a M,.int b c],[]⟩,pre:=[],r:=λ_ _=> .ok (.ret (.bool d)),upd:=J,news:=λ_=>[],bx:=0}
theorem Fn {u:cZ}{a b:Int}{M d:cL}{c:Bool}(h:(a==b)=c):(wA "int.__eq__" a b M d c).Ok bH u:=
 cI.mR λC _=>by
  refine jS (id:="int.__eq__") slot_int_eq (qD C a M) entry_int_eq (args_int_eq _ _) ?_;refine(?_:bD _ _ (PySem.ret (.bool (a==b))) _ _ C);exact r h (cG ⟨_,t,t,t⟩)
theorem PP {u:cZ}{a b:Int}{M d:cL}{c:Bool}(h:decide (a<b)=c):(wA "int.__lt__" a b M d c).Ok bH u:=
 cI.mR λC _=>by
  refine jS (id:="int.__lt__") slot_int_lt (qD C a M) entry_int_lt (args_int_lt _ _) ?_;refine(?_:bD _ _ (PySem.ret (.bool (decide (a<b)))) _ _ C);exact r h (cG ⟨_,t,t,t⟩)
noncomputable def tp(a b:Int)(M c:cL)(d:Int):cI:=
 {id:="int.__mod__",args:=⟨[.int a M,.int b c],[]⟩,pre:=[],r:=λ_ k=> .ok (.ret (.int d k)),upd:=J,news:=λ_=>[],bx:=1}
theorem wB {u:cZ}{a b:Int}{M d:cL}{c:Int}(e:b≠0)(h:a.fmod b=c):(tp a b M d c).Ok bH u:=
 cI.mR λC _=>by
  refine jS (id:="int.__mod__") slot_int_mod (qD C a M) entry_int_mod (args_int_mod _ _) ?_;refine(?_:bD _ _ (do
   if b==0 then rule "int.mod.zero";raiseError "ZeroDivisionError" "integer modulo by zero"
   ret (<-mkInt (a.fmod b))) _ _ C)
  have f:(b==0)=false:=by simpa using e
  simp only [f,Bool.false_eq_true,if_false,h];exact bl (wpAny_mkInt (cG ⟨_,t,t,t⟩))
end
open z3
set_option backward.match.sparseCases false
section
open PySem PySem.W PySem.Calls
open PyProof.Rows (AllBare)
noncomputable def i9.code:i9->aL
 | .call c _=>c
 | .again c=>c
 |_=>default
noncomputable def U(P:a1)(a:List Nat)(b:cL)(v:O):DictEntry:=⟨if(⟨a⟩:Array Nat).isEmpty then 0 else reduceHash (P.strHash ⟨a⟩),.str ⟨⟨a⟩⟩ b,v⟩
noncomputable def z6(a:List (ae×ab))(b:Nat):Value:=match dy a b with|some x=>x.2.cls|none=> .none
structure em(b5:Nat->Option ab)(ar:List ae)(C a:ac):Prop where
 K:aR b5 a
 fr:∀b az,I C b az->b∉ar->I a b az
 aZ:C.heap.objs.size<=a.heap.objs.size
 ct:∀(cs:Nat) st,C.gens[cs]? =H st->a.gens[cs]? =H st
 gP:nR C.gens->nR a.gens
 eP:a.drawn=C.drawn
 os:a.os=C.os
section
variable {ar f:List ae}{C d i am:ac}
theorem em.refl(K:aR g C):em g ar C C:=⟨K,λ_ _ h _=>h,aW _,λ_ _ h=>h,λh=>h,t,t⟩
theorem em.trans(a:em g ar C d)(b:em g ar d i):em g ar C i:=
 ⟨b.K,λx c h e=>b.fr x c (a.fr x c h e) e,aS a.aZ b.aZ,λf st h=>b.ct f st (a.ct f st h),λh=>b.gP (a.gP h),b.eP.trans a.eP,b.os.trans a.os⟩
theorem em.weak(a:em g ar C d)(h:∀x∈ar,x∈f):em g f C d:=⟨a.K,λx b e c=>a.fr x b e λq=>c (h x q),a.aZ,a.ct,a.gP,a.eP,a.os⟩
theorem em.drop(a:em g ar C d)(h:∀x∈ar,x∈f\/C.heap.objs.size<=x):em g f C d:=
 ⟨a.K,λx b e c=>a.fr x b e λq=>by
  rcases h x q with bc|bc
  ·exact c bc
  ·exact absurd (b9 e) (cx bc),a.aZ,a.ct,a.gP,a.eP,a.os⟩
theorem em.then(a:em g ar C d)(b:em g f d i)(h:∀x∈f,x∈ar\/C.heap.objs.size<=x):em g ar C i:=
 ⟨b.K,λx c e j=>b.fr x c (a.fr x c e j) λq=>by
  rcases h x q with bc|bc
  ·exact j bc
  ·exact absurd (b9 e) (cx bc),aS a.aZ b.aZ,λk st h=>b.ct k st (a.ct k st h),λh=>b.gP (a.gP h),b.eP.trans a.eP,b.os.trans a.os⟩
theorem kN.grow {b d:List (ae×ab)}{c e m i au}(a:kN g b c d e m i au C am)(f:au.all er=ag):em g (c' b c) C am:=
 ⟨a.K,a.fr,by rw [a.aZ];exact dq ..,λl st h=>by
  refine r a.ct ?_;have j:=(ly.mp h).1;refine r (Array.getElem?_append_left j) ?_;exact h,λh=>by
  rw [a.ct];intro y k;rcases Array.mem_append.mp k with q|q
  ·exact h y q
  ·exact sB.mp f y (by simpa using q),a.eP,a.os⟩
theorem kN.rf {a b:List (ae×ab)}{c m i au}(d:kN g a [] b c m i au C am)(e:au.all er=ag):em g [] C am:=d.grow e
theorem aR.size(K:aR g C):∃n,C.heap.objs.size=n+101:=⟨C.heap.objs.size-101,by have:=K.lo;exact dF ((qs (aW _))) ((ew (ir (this))))⟩
end
end
set_option backward.match.sparseCases true
section
open PySem PySem.W PySem.Calls
section
variable {i b:Type}
noncomputable def Q(u:cZ)(l:Nat)(Y:Option O)(j:List (aL×ap))(c:aL)(m:aI i)(f:i->ac->Prop)(af:O->ac->Prop)(C:ac):Prop:=
 ∀b A,b.code=c->b.Below (di Y l)->b.below=j->gJ (b1 bH u) b m (λa _ d=>f a d) (λe _ d=>af e d) A C
theorem Q.mono {m:aI i}{aG g:i->ac->Prop}{af k:O->ac->Prop}(h:Q u l Y j c m aG af C)(o:∀a f,aG a f->g a f)(c4:∀e f,af e f->k e f):Q u l Y j c m g k C:=
 λn A a b d=>nM _ n m (λx _ f h=>o x f h) (λx _ f h=>c4 x f h) A C (h n A a b d)
theorem Q.cps {m:aI i}{b:i->ac->Prop}{af:O->ac->Prop}(h:∀d:i->ac->Prop,(∀a e,b a e->d a e)->Q u l Y j c m d af C):Q u l Y j c m b af C:=h b λ_ _ x=>x
theorem Q.pure {a:i}{b:i->ac->Prop}{af:O->ac->Prop}(h:b a C):Q u l Y j c (pure a) b af C:=λd A _ _ _=>by
 rw [aI.wp_pure'];exact h
theorem Q.bind {m:aI i}{f:i->aI b}{aG:b->ac->Prop}{af:O->ac->Prop}(h:Q u l Y j c m (λa g=>Q u l Y j c (f a) aG af g) af C):Q u l Y j c (m>>=f) aG af C:=λd A x y z=>by
 rw [mI];exact nM _ d m (λa k g e=>e d k x y z) (λ_ _ _ e=>e) A C (h d A x y z)
theorem Q.any {m:aI i}{a:i->ac->Prop}{af:O->ac->Prop}(h:bD (b1 bH u) ((di Y l).over c []) m a af C):Q u l Y j c m a af C:=λd A e f _=>by
 have b:=iy f [] t;rw [e]at b;exact h d A b
theorem Q.go {m:aI i}(d:i->dQ){f:bZ->ac->Prop}(h:∀A,ai u l Y j c A (d3 m (λa=> .pure (.done (d a)))) [] C (ei f)):Q u l Y j c m (λa b=>f (.ok (d a)) b) (λe b=>f (.error e) b) C:=λn A o p q=>by
 refine aw (h A n o p q) (bo λe s=>aT λr t g=> ?_);cases e with
 |susp=>cases g
 |ret v=>exact nM _ n m (λa _ b k=>by obtain ⟨rfl,rfl⟩:=k;exact g) (λa _ b k=>by obtain ⟨rfl,rfl⟩:=k;exact g) A C (z0 (b1 bH u) d m r)
theorem Q.onRaise {m:aI i}{k:O->aI Unit}{d:i->ac->Prop}{af:O->ac->Prop}(h:Q u l Y j c m d (λe f=>Q u l Y j c (k e) (λ_ g=>af e g) af f) C):Q u l Y j c (m.onRaise k) d af C:=λa A x y z=>by
 rw [aI.wp_onRaise];exact nM _ a m (λ_ _ _ b=>b) (λe n f b=>b a n x y z) A C (h a A x y z)
theorem ai.rg {m:aI i}{K:i->aI b0}{aG:i->ac->Prop}{af:O->ac->Prop}(o:Q u l Y j c m aG af C)
  (x:∀a d b,aG a b->ai u l Y j c d (K a) [] b B)
  (y:∀a d b,af a b->ai u l Y j c d (.raise a) [] b B):ai u l Y j c A (m>>=K) [] C B:=λf g h k=>by
 rw [qN];refine aw (oZ (Γ:=f) (fs:=[]) (Φ:=λe b=>e.quiet=ag/\B e b) K .raise id id m (o f A g h k)
  (λa d b n=>x a d b n f g h k) (λa d b n=>y a d b n f g h k)) (bo λe b=>an λp q=> ?_)
 exact bh e b ⟨p,q⟩
noncomputable def pv:dQ->O
 | .ret v=>v
 |_=> .none
theorem z7(c:List cb)(b:bX):bI (.func c b)=((do point;(c6 c b).onRaise (lx b))>>=λa=>ret (pv a)):=by
 refine r (cj hA) ?_;refine(?_:(do point;match<-(c6 c b).onRaise (lx b)with| .ret v=>ret v|_=>ret .none)=_);have e:(λa:dQ=>match a with| .ret v=>ret v|_=>ret .none)=λa=>ret (pv a):=by
  funext a;cases a<;>rfl
 refine r e ?_;rfl
theorem ai.func {c:List cb}{d:bX}{aG:dQ->ac->Prop}(h:Q u l Y j (.func c d) (c6 c d) aG (λ_ _=>False) C)
  (k:∀e b,aG e b->B (.ret (.ok (.ret (pv e)))) b):ai u l Y j (.func c d) A (bI (.func c d)) [] C B:=by
 rw [z7];refine ai.rg (aG:=aG) (af:=λ_ _=>False) ?_ (λa g b i=>ai.done (.ok (.ret (pv a))) (k a b i)) (λa g b m=>m.elim);refine Q.bind ?_;intro n A o p r;refine(?_:gJ _ n (aI.point _ _) _ _ A C);rw [vW,aI.wp_pure];exact Q.onRaise (h.mono (λ_ _ q=>q) λ_ _ f=>f.elim)
end
open PyProof.Rows (AllBare)
structure aa(b5:Nat->Option ab)(c:ae->Prop)(d:Nat->Prop)(C a:ac):Prop where
 K:aR b5 a
 fr:∀b az,I C b az->¬c b->I a b az
 aZ:C.heap.objs.size<=a.heap.objs.size
 ct:∀(cs:Nat) st,C.gens[cs]? =H st->¬d cs->a.gens[cs]? =H st
 dH:C.gens.size<=a.gens.size
 gP:nR C.gens->nR a.gens
 eP:a.drawn=C.drawn
 os:a.os=C.os
noncomputable def p:ae->Prop:=λ_=>False
section
variable {aV gQ:ae->Prop}{L fY:Nat->Prop}{C cC d e am:ac}
theorem z8 {x:Array dM}{a:Nat}(h:a<x.size):∃st,x[a]? =H st:=⟨x[a],by simp [h]⟩
theorem aa.refl(K:aR g C):aa g aV L C C:=⟨K,λ_ _ h _=>h,aW _,λ_ _ h _=>h,aW _,λh=>h,t,t⟩
theorem aa.then(a:aa g aV L C d)(b:aa g gQ fY d e)(k:∀x,gQ x->aV x\/C.heap.objs.size<=x)(l:∀c,fY c->L c\/C.gens.size<=c):aa g aV L C e:=
 ⟨b.K,λx f h i=>b.fr x f (a.fr x f h i) λq=>by
  rcases k x q with bc|bc
  ·exact i bc
  ·exact absurd (b9 h) (cx bc),aS a.aZ b.aZ,λc st h j=>b.ct c st (a.ct c st h j) λq=>by
  rcases l c q with bc|bc
  ·exact j bc
  ·exact absurd (ly.mp h).1 (cx bc),aS a.dH b.dH,λh=>b.gP (a.gP h),b.eP.trans a.eP,b.os.trans a.os⟩
theorem aa.trans(a:aa g aV L C d)(b:aa g aV L d e):aa g aV L C e:=a.then b (λ_ h=> .inl h) (λ_ h=> .inl h)
theorem aa.mono(a:aa g aV L C d)(c:∀x,aV x->gQ x\/C.heap.objs.size<=x)(e:∀b,L b->fY b\/C.gens.size<=b):aa g gQ fY C d:=
 aa.then (aa.mk a.K (λx f h i=>a.fr x f h λq=>by
  rcases c x q with bc|bc
  ·exact i bc
  ·exact absurd (b9 h) (cx bc)) a.aZ (λb st h j=>a.ct b st h λq=>by
  rcases e b q with bc|bc
  ·exact j bc
  ·exact absurd (ly.mp h).1 (cx bc)) a.dH a.gP a.eP a.os) (aa.refl a.K (aV:=gQ) (L:=fY)) (λ_ h=> .inl h) (λ_ h=> .inl h)
theorem aa.zero(a:aa g p p C d):aa g aV L C d:=a.mono aF aF
theorem aa.mS {b:List ae}(a:em g b C am)(c:C.gens.size<=am.gens.size):aa g (· ∈b) p C am:=⟨a.K,a.fr,a.aZ,λd st h _=>a.ct d st h,c,a.gP,a.eP,a.os⟩
theorem em.dH {b:List ae}(a:em g b C am):C.gens.size<=am.gens.size:=by
 rcases fV am.gens.size C.gens.size with h|h
 ·obtain ⟨st,c⟩:=z8 h;have:=(ly.mp (a.ct _ st c)).1;exact absurd this (eK _)
 ·exact h
theorem aa.keep(a:aa g aV L C am){b:List (ae×ab)}(d:∀x∈b,I C x.1 x.2)(e:∀x∈b,¬aV x.1):∀x∈b,I am x.1 x.2:=
 λx c=>a.fr _ _ (d x c) (e x c)
structure cc(b5:Nat->Option ab)(aV:ae->Prop)(L:Nat->Prop)(cC:ac)(D:List (ae×ab))(b:List Nat)(C:ac):Prop where
 ch:aa b5 aV L cC C
 al:∀x∈D,I C x.1 x.2
 pw:b6 b5 D b
 px:∀i∈b,∀a,(D.map (·.1))[i]? =H a->aV a\/cC.heap.objs.size<=a
 tq:∀i∈b,i<D.length
variable {D dk ar:List (ae×ab)}{aQ c5:List Nat}
theorem cc.start(K:aR g C)(a:∀x∈D,I C x.1 x.2):cc g aV L C D [] C:=⟨.refl K,a,.nil,a0,a0⟩
theorem cc.K(a:cc g aV L cC D aQ C):aR g C:=a.ch.K
theorem cc.lt(a:cc g aV L cC D aQ C):∀x∈D,x.1<C.heap.objs.size:=λx b=>b9 (a.al x b)
theorem cc.none(a:cc g aV L cC D aQ C):cc g aV L cC D [] C:=⟨a.ch,a.al,.nil,a0,a0⟩
theorem mT {D:List (ae×ab)}{i:Nat}{a:ae}(h:(D.map (·.1))[i]? =H a):∃b,(a,b)∈D:=by
 rw [d1]at h;refine aw (fL.mp h) (aH λy=>an λc=> ?_);rintro rfl;exact⟨y.2,dP c⟩
theorem cc.call(d:cc g aV L cC D aQ C)(l:aa g gQ fY C am)(q:∀x∈D,¬gQ x.1)(r:∀x,gQ x->aV x\/cC.heap.objs.size<=x)(s:∀k,fY k->L k\/cC.gens.size<=k)
  (t:∀x∈ar,I am x.1 x.2)(u:∀x∈ar,C.heap.objs.size<=x.1):cc g aV L cC (D++ar) aQ am:=by
 have cp:=d.lt;have m:∀i∈aQ,∀a,((D++ar).map (·.1))[i]? =H a->(D.map (·.1))[i]? =H a:=λi c a f=>by
  rw [e8,iU (by rw [bM];exact d.tq i c)]at f;exact f
 refine⟨d.ch.then l r s,λx v=> ?_, ?_,λi c a f=>d.px i c a (m i c a f),λi c=>by rw [e9];exact bP (d.tq i c) (dq ..)⟩
 ·rcases is.mp v with h|h
  ·exact l.fr _ _ (d.al x h) (q x h)
  ·exact t x h
 ·intro i c a f;have n:=m i c a f;obtain ⟨w,y⟩:=d.pw i c a n;refine⟨w,λo b j z=> ?_⟩
  by_cases p:o<D.length
  ·rw [e8,iU (by rw [bM];exact p)]at j;exact y o b j z
  ·rw [e8,iV (by rw [bM];exact(eJ p))]at j;obtain ⟨G,A⟩:=mT j;obtain ⟨K,B⟩:=mT n;have E:=cp _ B;have F:=u _ A;intro e;subst e;exact absurd E (cx F)
theorem cc.wC(a:cc g aV L cC D aQ C)(b:aa g p p C am)(c:∀x∈ar,I am x.1 x.2)(d:∀x∈ar,C.heap.objs.size<=x.1):cc g aV L cC (D++ar) aQ am:=
 a.call b (λ_ _ h=>h) aF aF c d
theorem cc.rh(a:cc g aV L cC D aQ C)(b:aa g p p C am):cc g aV L cC D aQ am:=by
 have:=a.wC (ar:=[]) b (by intro _ h;cases h) (by intro _ h;cases h)
 rwa [mo]at this
theorem cc.after(b:cc g aV L cC D aQ C)(c:aa g gQ fY C am)(d:∀x∈D,¬gQ x.1)(e:∀x,gQ x->aV x\/cC.heap.objs.size<=x)(f:∀a,fY a->L a\/cC.gens.size<=a):cc g aV L cC D aQ am:=by
 have:=b.call (ar:=[]) c d e f (by intro _ h;cases h) (by intro _ h;cases h)
 rwa [mo]at this
noncomputable def hE(a aQ c5:List Nat):Bool:=c5.all λb=>match a[b]? with|some i=>aQ.contains i|none=>aN
theorem Fo {b:List Nat}{D:List (ae×ab)}{a:Nat}:(f_ D b)[a]? =(b[a]?).map (dy D):=by
 induction b generalizing a with
 |nil=>simp [f_]
 |cons i ar c=>cases a with
  |zero=>simp [f_]
  |succ a=>simp [f_,c]
theorem py {b:Type}{ar:List b}(h:ar.Nodup){i bi:Nat}{a:b}(c:ar[i]? =H a)(d:ar[bi]? =H a):i=bi:=by
 obtain ⟨g,e⟩:=g8.mp c;obtain ⟨j,f⟩:=g8.mp d;exact(List.getElem_inj h).mp (e.trans f.symm)
theorem cc.pick {f:List Nat}(m:cc g aV L cC D aQ C)(e:cQ.f_ D f=dk.map H)(z:hE f aQ c5=ag)(A:f.Nodup):cc g aV L cC dk c5 C:=by
 have bf:∀(c:Nat) (x:ae×ab),dk[c]? =H x->∃i:Nat,f[c]? =H i/\D[i]? =H x:=λc x d=>by
  have q:(cQ.f_ D f)[c]? =H (H x):=by refine r e (r d1 ?_);refine r d ?_;rfl
  rw [Fo]at q;refine aw (fL.mp q) (aH λi=>an λp s=> ?_);exact⟨i,p,by rw [<-i_];exact s⟩
 have n:∀c∈c5,∃i:Nat,f[c]? =H i/\i∈aQ:=λc d=>by
  have q:=sB.mp z c d;split at q
  ·rename_i i p;exact⟨i,p,by simpa using q⟩
  ·cases q
 have o:∀(c:Nat) (a:ae),(dk.map (·.1))[c]? =H a->∃i:Nat,f[c]? =H i/\(D.map (·.1))[i]? =H a:=λc a d=>by
  rw [d1]at d;refine aw (fL.mp d) (aH λy=>an λB=> ?_);rintro rfl;refine aw (bf c y B) (aH λi=>an λh j=> ?_);exact⟨i,h,by rw [d1,j];rfl⟩
 refine⟨m.ch,λx s=> ?_,λc d a u=> ?_,λc d a u=> ?_,λc d=> ?_⟩
 ·obtain ⟨c,d⟩:=oU.mp s;refine aw (bf c x d) (aH λi=>an λ_ j=> ?_);exact m.al x (dP j)
 ·refine aw (n c d) (aH λi=>an λh j=> ?_);refine aw (o c a u) (aH λv=>an λl w=> ?_);rw [h]at l;cases l;obtain ⟨E,F⟩:=m.pw i j a w;refine⟨E,λk b G I=> ?_⟩;refine aw (o k b G) (aH λv=>an λK M=> ?_);refine F v b M λq=>I ?_;subst q;exact py A K h
 ·refine aw (n c d) (aH λi=>an λh j=> ?_);refine aw (o c a u) (aH λv=>an λl w=> ?_);rw [h]at l;cases l;exact m.px i j a w
 ·refine aw (n c d) (aH λi=>an λh j=> ?_);have l:=(g8.mp h).1;have:(cQ.f_ D f).length=dk.length:=by rw [e,bM]
  have N:(cQ.f_ D f).length=f.length:=by
   clear e z A bf o n h l this;induction f with
   |nil=>rfl
   |cons _ _ O=>simp [cQ.f_,O]
  exact cy 1 0 0 0 0 0 1 0 t l (ao N) (aB this)
end
section
variable {l ak:Nat}{C cC:ac}{aV:ae->Prop}{L:Nat->Prop}{D dk:List (ae×ab)}{aQ c5:List Nat}{n o fO:Nat}{aC:List cI}{a9:Nat}{bj bR:List Nat}{fm:i9}{d m i:Nat}{au:List dM}
noncomputable abbrev ce(u:cZ)(g:Nat->Option ab)(l n o fO:Nat)(Y:Option O)(j:List (aL×ap))(D:List (ae×ab))(aQ:List Nat)(aC:List cI)(a9:Nat)(bj:List Nat)(c:aL)(A:ap)(M:aI b0)(w:List dc):G:=
 run (cB g u.params l n o fO Y j D aQ aC) a9 bj c A M w
theorem cc.seg(ab:l<=ak)(ac:Base g)(s:cc g aV L cC D aQ C)(T:C.heap.objs.size=n+101)(U:C.toks=o)(ae:C.gens.size=fO)(af:∀K∈aC,K.Ok bH u)(ok:cw w=ag)
  (e:bF bR (ce u g ak n o fO Y j D aQ aC a9 bj c A M w)=⟨fm,d,dk.map H,m,i,au,bG (ce u g ak n o fO Y j D aQ aC a9 bj c A M w)⟩)
  (ah:hE bR (aQ++gH D.length m) c5=ag)(aj:bR.Nodup)(al:au.all er=ag)
  (k:∀v f,f=ce u g ak n o fO Y j D aQ aC a9 bj c A M w->cw f.aU=ag->es f.t=fm->f.aU.length=d->cc g aV L cC dk c5 v->
   v.heap.objs.size=n+m+101->v.toks=o+i->v.gens=C.gens++au.toArray->ai u l Y j f.c f.p f.t f.aU v B):ai u l Y j c A M w C B:=by
 refine c2 ab ac s.K T U ae s.al s.pw af ok e ?_;intro v f V am W I F;have aB:C.heap.objs.size<=v.heap.objs.size:=by rw [F.aZ];exact dq ..
 have X:=F.grow al;have ao:∀x∈c' D aQ,aV x\/cC.heap.objs.size<=x:=λx P=>by
  refine aw (hW.mp P) (aH λz=>an λG ap=> ?_);refine aw (fL.mp ap) (aH λy=>an λaq=> ?_);rintro rfl;exact s.px z G y.1 (rb aq)
 have ar:aa g (· ∈c' D aQ) p C v:= .mS X X.dH;have as:cc g aV L cC f.D (aQ++gH D.length m) v:=by
  have av:f.D.length=D.length+m:=by
   have:=congrArg iu F.lI;simpa using this
  have cp:=s.lt;have N:∀i,i<D.length->(f.D.map (·.1))[i]? =(D.map (·.1))[i]? :=λi E=>by
   refine r F.lI (r (iU (by rw [bM];exact E)) ?_);rfl
  have O:∀i a,¬i<D.length->(f.D.map (·.1))[i]? =H a->∃k,i=D.length+k/\a=C.heap.objs.size+k:=λi a E t=>by
   rw [F.lI,iV (by rw [bM];exact(eJ E)),d1,bM]at t;refine aw (fL.mp t) (aH λk=>an λax ay=> ?_);obtain ⟨W,Z⟩:=g8.mp ax;rw [qv]at Z;exact⟨k,(Nat.sub_eq_iff_eq_add' (eJ E)).mp Z,ay.symm⟩
  refine⟨s.ch.then ar ao aF,F.al,λi E a t=> ?_,λi E a t=> ?_,λi E=> ?_⟩
  ·by_cases h:i<D.length
   ·have Q:i∈aQ:=by
     rcases is.mp E with q|q
     ·exact q
     ·exact absurd h (cx (vA.mp q).1)
    rw [N i h]at t;obtain ⟨az,aA⟩:=s.pw i Q a t;refine⟨az,λz b G R=> ?_⟩
    by_cases I:z<D.length
    ·rw [N z I]at G;exact aA z b G R
    ·obtain ⟨k,rfl,rfl⟩:=O z b I G;obtain ⟨K,S⟩:=mT t;have:=cp _ S;exact λq=>by
      rw [<-q]at this;exact absurd this (cx (dq ..))
   ·obtain ⟨k,rfl,rfl⟩:=O i a h t;refine⟨?_,λz b G R=> ?_⟩
    ·cases q:g (C.heap.objs.size+k)with
     |none=>rfl
     |some K=>exact absurd (b9 (s.K.kt _ _ q)) (cx (dq ..))
    ·by_cases I:z<D.length
     ·rw [N z I]at G;obtain ⟨K,S⟩:=mT G;have:=cp _ S;exact λq=>by
       rw [q]at this;exact absurd this (cx (dq ..))
     ·obtain ⟨aD,rfl,rfl⟩:=O z b I G;intro q;have:=nD q;exact R (by refine r this ?_;rfl)
  ·by_cases h:i<D.length
   ·have Q:i∈aQ:=by
     rcases is.mp E with q|q
     ·exact q
     ·exact absurd h (cx (vA.mp q).1)
    rw [N i h]at t;exact s.px i Q a t
   ·obtain ⟨k,rfl,rfl⟩:=O i a h t;exact .inr (aS s.ch.aZ (dq ..))
  ·rw [av];rcases is.mp E with q|q
   ·exact bP (s.tq i q) (dq ..)
   ·exact(vA.mp q).2
 have P:cQ.f_ f.D bR=dk.map some:=by exact r V (congrArg fl.xs e)
 exact k v f V am W I (as.pick P ah aj) (by rw [F.aZ,T];exact hU _ _ _) (by refine r F.bx (r U ?_);rfl) F.ct
noncomputable def eA(a:G)(b Y:Option O)(c:Nat):Bool×Option Value:=(dp (cW a.c a.aU) c,b.or (fw a.aU (Y,Y)).1)
noncomputable abbrev b3(bR:List Nat)(a:G)(b c:Option O)(d:Nat)(Y:i9)(n:Nat)(e:List (Option (ae×ab)))(m i:Nat)(au:List dM)(f:Option O):Prop:=(bF bR a,eA a b c d)=(⟨Y,n,e,m,i,au,bG a⟩,(ag,f))
section
variable(a:l<=ak)(b:Base g)(f:cc g aV L cC D aQ C)(h:C.heap.objs.size=n+101)(p:C.toks=o)(s:C.gens.size=fO)(t:∀az∈aC,az.Ok bH u)(ok:cw w=ag)
include a b f h p s t ok
theorem cc.segRet {v:O}(e:bF bR (ce u g ak n o fO Y j D aQ aC a9 bj c A M w)=⟨.ret v,0,dk.map H,m,i,au,bG (ce u g ak n o fO Y j D aQ aC a9 bj c A M w)⟩)
  (q:hE bR (aQ++gH D.length m) c5=ag)(x:bR.Nodup)(y:au.all er=ag)
  (k:∀d,cc g aV L cC dk c5 d->d.heap.objs.size=n+m+101->d.toks=o+i->d.gens=C.gens++au.toArray->B (.ret (.ok (.ret v))) d):ai u l Y j c A M w C B:=
 f.seg a b h p s t ok e q x y λd N P Q z E F G I K=>by
  refine r (e' z) (r (cA E) ?_);exact ai.done (.ok (.ret v)) (k d F G I K)
theorem cc.Fp(e:bF bR (ce u g ak n o fO Y j D aQ aC a9 bj c A M w)=⟨.next,0,dk.map H,m,i,au,bG (ce u g ak n o fO Y j D aQ aC a9 bj c A M w)⟩)
  (q:hE bR (aQ++gH D.length m) c5=ag)(v:bR.Nodup)(x:au.all er=ag)
  (k:∀d,cc g aV L cC dk c5 d->d.heap.objs.size=n+m+101->d.toks=o+i->d.gens=C.gens++au.toArray->B (.ret (.ok .next)) d):ai u l Y j c A M w C B:=
 f.seg a b h p s t ok e q v x λd K N O y z E F G I=>by
  refine r (n1 y) (r (cA z) ?_);exact ai.done (.ok .next) (k d E F G I)
theorem cc.PQ {v:O}(e:bF bR (ce u g ak n o fO Y j D aQ aC a9 bj c A M w)=⟨.err v,0,dk.map H,m,i,au,bG (ce u g ak n o fO Y j D aQ aC a9 bj c A M w)⟩)
  (q:hE bR (aQ++gH D.length m) c5=ag)(x:bR.Nodup)(y:au.all er=ag)
  (k:∀d,cc g aV L cC dk c5 d->d.heap.objs.size=n+m+101->d.toks=o+i->d.gens=C.gens++au.toArray->B (.ret (.error v)) d):ai u l Y j c A M w C B:=
 f.seg a b h p s t ok e q x y λd N P Q z E F G I K=>by
  refine r (pu z) (r (cA E) ?_);exact ai.done (.error v) (k d F G I K)
theorem cc.pz {x:aL}(y:x.quiet=ag)(e:bF bR (ce u g ak n o fO Y j D aQ aC a9 bj c A M w)=⟨.again x,d,dk.map H,m,i,au,bG (ce u g ak n o fO Y j D aQ aC a9 bj c A M w)⟩)
  (z:hE bR (aQ++gH D.length m) c5=ag)(E:bR.Nodup)(F:au.all er=ag)
  (k:∀q v,v=ce u g ak n o fO Y j D aQ aC a9 bj c A M w->cw v.aU=ag->v.aU.length=d->cc g aV L cC dk c5 q->q.heap.objs.size=n+m+101->q.toks=o+i->q.gens=C.gens++au.toArray->ai u l Y j x v.p (bI x) v.aU q B):ai u l Y j c A M w C B:=
 f.seg a b h p s t ok e z E F λq v G I K N O P Q R=>by
  exact r (kL K) (ai.again x y (k q v G I N O P Q R))
theorem cc.n4 {G:aL}{y jT:Option O}{E F:Nat}{R:ac->bZ->ac->Prop}(e:bF bR (ce u g ak n o fO Y j D aQ aC a9 bj c A M w)=⟨.call G y,d,dk.map H,m,i,au,bG (ce u g ak n o fO Y j D aQ aC a9 bj c A M w)⟩)
  (T:hE bR (aQ++gH D.length m) c5=ag)(U:bR.Nodup)(V:au.all er=ag)(W:jG y=ag)
  (X:eA (ce u g ak n o fO Y j D aQ aC a9 bj c A M w) y Y E=(ag,jT))(Z:l+E<=F)
  (aa:∀v,cc g aV L cC dk c5 v->v.heap.objs.size=n+m+101->v.toks=o+i->v.gens=C.gens++au.toArray->a4 u F jT G v (R v))
  (k:∀v x z q,x=ce u g ak n o fO Y j D aQ aC a9 bj c A M w->cw x.aU=ag->x.aU.length=d->cc g aV L cC dk c5 v->v.heap.objs.size=n+m+101->v.toks=o+i->v.gens=C.gens++au.toArray->R v q z->ai u l Y j x.c x.p (eh x.t q) x.aU z B):ai u l Y j c A M w C B:=
 f.seg a b h p s t ok e T U V λv x I K ab ae N P Q S=>by
  refine aw (iA ab) (bo λan ao af=> ?_);refine r af ?_;have ah:eA x y Y E=(ag,jT):=by exact r I X
  injection ah with aj al;refine ai.i' (br:=F) (fm:=jT) K W ?_ al.symm (aa v N P Q S) λq z am=>k v x z q I K ae N P Q S am;exact jL aj Z
end
end
open PyProof.Rows (AllBare)
noncomputable def z9:=0 where
 hf(a:ae):Obj:={cls:= .type "StopIteration",data:= .fields ⟨[.ref a,.none,.none,.none,.bool aN,.none]⟩}
 lK(h:aY)(e:ae):Prop:=∃a,h.get? (e+101)=H (hf a)
 eB(a:Nat):Code:= .call (.builtin "generator.__next__") ⟨[E a],[]⟩
 wD(a:Nat):Code:= .call (.builtin "list_iterator.__next__") ⟨[E a],[]⟩
 wE(a:Nat)(h:aY):Prop:=∃b i,h.get? (a+101)=H (b2 b i)
open z9
structure mU(b5:Nat->Option ab)(c:aY->Prop)(F d:ae->Prop)(a:Nat->Prop)(C:ac):Prop where
 K:aR b5 C
 h5:∀x,F x->x<C.heap.objs.size
 lL:∀x,d x->F x
 ga:∀cs,a cs->cs<C.gens.size
 it:∀b,aa b5 (λx=>¬F x) (λcs=>¬a cs) C b->c b.heap
noncomputable def cX(u:cZ)(g:Nat->Option ab)(l:Nat)(h:aL)(i:aY->Prop):List O->(ae->Prop)->(ae->Prop)->(Nat->Prop)->ac->Prop
 | [],F,d,b,C=>mU g i F d b C/\∀a,aa g (λx=>¬F x) (λc=>¬b c) C a->a4 u l J h a λj f=>aa g d b a f/\∃e,j= .error (E e)/\lK f.heap e/\a.heap.objs.size<=e+101
 |v::o,F,d,b,C=>mU g i F d b C/\∀a,aa g (λx=>¬F x) (λc=>¬b c) C a->a4 u l J h a λj f=>aa g d b a f/\j= .ok (.ret v)/\
   ∃(k m:ae->Prop) (n:Nat->Prop),(∀x,k x->F x\/a.heap.objs.size<=x)/\(∀x,m x->d x\/a.heap.objs.size<=x)/\(∀c,n c->b c\/a.gens.size<=c)/\cX u g l h i o k m n f
section
variable {k:aL}{i:aY->Prop}{F aV:ae->Prop}{L:Nat->Prop}{C am:ac}{c3:List O}
theorem aR.fresh(K:aR g C){x:ae}(h:C.heap.objs.size<=x):g x=none:=by
 cases q:g x with
 |none=>rfl
 |some a=>exact absurd (b9 (K.kt _ _ q)) (cx h)
theorem cX.foot(h:cX u g l k i c3 F aV L C):mU g i F aV L C:=by
 cases c3 with
 |nil=>exact h.1
 |cons=>exact h.1
theorem mU.ext(h:mU g i F aV L C)(a:aa g (λx=>¬F x) (λb=>¬L b) C am):mU g i F aV L am:=
 ⟨a.K,λx c=>bP (h.h5 x c) a.aZ,h.lL,λb d=>bP (h.ga b d) a.dH,λe f=>h.it e (a.trans f)⟩
theorem cX.ext(h:cX u g l k i c3 F aV L C)(a:aa g (λx=>¬F x) (λd=>¬L d) C am):cX u g l k i c3 F aV L am:=by
 cases c3 with
 |nil=>exact⟨h.1.ext a,λb c=>h.2 b (a.trans c)⟩
 |cons=>exact⟨h.1.ext a,λb c=>h.2 b (a.trans c)⟩
theorem cX.nil(h:cX u g l k i [] F aV L C):a4 u l J k C λb a=>aa g aV L C a/\∃e,b= .error (E e)/\lK a.heap e/\C.heap.objs.size<=e+101:=h.2 C (.refl h.1.K)
theorem cX.cons {v:O}(h:cX u g l k i (v::c3) F aV L C):a4 u l J k C λf b=>aa g aV L C b/\f= .ok (.ret v)/\
   ∃(c d:ae->Prop) (e:Nat->Prop),(∀x,c x->F x\/C.heap.objs.size<=x)/\(∀x,d x->aV x\/C.heap.objs.size<=x)/\(∀a,e a->L a\/C.gens.size<=a)/\cX u g l k i c3 c d e b:=h.2 C (.refl h.1.K)
theorem cX.wide {m:ae->Prop}(h:cX u g l k i c3 F aV L C)(dW:∀x,F x->m x)(s:∀x,m x->x<C.heap.objs.size):cX u g l k i c3 m aV L C:=by
 have n:∀{j},aa g (λx=>¬m x) (λo=>¬L o) C j->aa g (λx=>¬F x) (λo=>¬L o) C j:=λn=>n.mono (λx p=> .inl λq=>p (dW x q)) (λ_ h=> .inl h);have f:mU g i m aV L C:=⟨h.foot.K,s,λx p=>dW x (h.foot.lL x p),h.foot.ga,λj r=>h.foot.it j (n r)⟩;cases c3 with
 |nil=>exact⟨f,λj r=>h.2 j (n r)⟩
 |cons=>
  refine⟨f,λj r=>a4.mono (h.2 j (n r)) λy z=> ?_⟩;rintro ⟨a,b,t,v,w,c,d,e,o⟩;exact⟨a,b,t,v,w,λx p=>(c x p).imp_left (dW x),d,e,o⟩
theorem aa.update {a:ae}{f:ab->ab}(K:aR g C)(i:g a=J)(Fq:Nat):aa g (· =a) p C {C with heap:=C.heap.update a f,toks:=Fq}:=by
 have c:qO a C.heap (C.heap.update a f):=nO ..;refine⟨⟨by refine(?_:101<=(C.heap.update a f).objs.size);rw [c.1];exact K.lo,λb d e=> ?_⟩,λb d e j=>(c.2 b j).trans e,ew c.1.symm,λ_ _ h _=>h,aW _,λh=>h,t,t⟩;refine(c.2 b λq=> ?_).trans (K.kt b d e);subst q;rw [i]at e;cases e
theorem aa.push {az:ab}(K:aR g C):aa g p p C {C with heap:=C.heap.push az}:=by
 have k:∀b x,I C b x->(C.heap.push az).get? b=H x:=λb x e=>(aY.get?_push_ne _ _ _ (a7 (b9 e))).trans e;refine⟨⟨by refine(?_:101<=(C.heap.push az).objs.size);rw [kB];exact Nat.le_succ_of_le K.lo,λb x e=>k b x (K.kt b x e)⟩,λb x e _=>k b x e,by refine(?_:_<=(C.heap.push az).objs.size);rw [kB];exact Nat.le_succ _,λ_ _ h _=>h,aW _,λh=>h,t,t⟩
theorem aa.setGen {b:Nat}{x:dM}(K:aR g C)(f:x.bare=ag):aa g p (· =b) C (C.setGen b x):=by
 refine⟨⟨K.lo,K.kt⟩,λ_ _ h _=>h,aW _,λj st h k=> ?_,by unfold sX;simp,λh=> ?_,t,t⟩
 ·unfold sX;refine(?_:(C.gens.setIfInBounds b x)[j]? =H st);rw [ze (λq=>k q.symm)];exact h
 ·intro y c;unfold sX at c;obtain ⟨i,a⟩:=zf.mp c
  by_cases e:b=i
  ·subst e;rw [zg]at a;simp only [if_true]at a;split at a
   ·cases a;exact f
   ·cases a
  ·have d:(C.gens.setIfInBounds b x)[i]? =H y:=a;rw [ze e]at d;exact h y (zf.mpr ⟨i,d⟩)
theorem Fs {a:Nat}{x st:dM}(h:C.gens[a]? =H st):(C.setGen a x).gens[a]? =H x:=by
 have:=(ly.mp h).1;unfold sX;refine(?_:(C.gens.setIfInBounds a x)[a]? =H x);rw [zg];simp [this]
theorem aa.toks(K:aR g C)(k:Nat):aa g p p C {C with toks:=k}:=⟨⟨K.lo,K.kt⟩,λ_ _ h _=>h,aW _,λ_ _ h _=>h,aW _,λh=>h,t,t⟩
theorem cI.ret {az:cI}(h:az.Ok bH u)(a:∀x∈az.pre,I C x.2.1 x.2.2)(Y:l<=600):
  a4 u l J (.call (.builtin az.id) az.args) C λb am=>b=az.r C.heap.objs.size C.toks/\am={C with heap:=lH (mM C.heap az.upd) (az.news C.heap.objs.size),toks:=C.toks+az.bx}:=λc A d e=>
 bh _ _ ⟨by
  have:=h C a c A d (nY Y e);exact this,t,t⟩
theorem cX.list {c j:Nat}{aA:List O}{e:Nat}(Y:l<=600)(y:g (c+101)=J)(B:c≠j)(F:ae->Prop)(k:F (c+101))(z:F (j+101)):
  ∀(c3:List O) (i:Nat) (C:ac),aR g C->(∀x,F x->x<C.heap.objs.size)->c3=aA.drop i->I C (c+101) (b2 (j+101) i)->I C (j+101) (ah aA e)->
   cX u g l (wD c) (wE c) c3 F (· =c+101) p C
 | [],i,C,K,dW,o,m,A=>by
  refine⟨⟨K,dW,λx b=>b▸k,λ_ h=>h.elim,λa d=>bh _ _ (d.fr _ _ m (λq=>q k))⟩,λa d=> ?_⟩;have s:=d.fr _ _ m (λq=>q k);have w:=d.fr _ _ A (λq=>q z);have M:aA.length<=i:=by
   have:=congrArg iu o;rw [vB]at this;exact vk.mp this.symm
  refine a4.mono (cI.ret (az:=hC 0 1 (c+101) (j+101) i aA e) (n3 M) (λx b=> ?_) Y) ?_
  ·rcases b8.mp b with rfl|b
   ·exact s
   ·rw [bQ]at b;subst b;exact w
  ·refine λN P=>an ?_;rintro rfl;rintro rfl;have n:=aa.update (C:=a) (f:=λ_=>{cls:= .type "list_iterator",data:= .fields ⟨[.none,aj i 0]⟩}) d.K y (a.toks+0);have D:=aa.push (az:={cls:= .type "tuple",data:= .seq ⟨[]⟩ 0}) n.K;have Q:=aa.push (az:=hf a.heap.objs.size) D.K;have R:(a.heap.update (c+101) λ_=>{cls:= .type "list_iterator",data:= .fields ⟨[.none,aj i 0]⟩}).objs.size=a.heap.objs.size:=(nO ..).1;have G:=d.K.lo;refine⟨(n.then D aF aF).then Q aF aF,a.heap.objs.size-100, ?_,⟨a.heap.objs.size, ?_⟩,V 0 100 0 101 t (qs (aW _))⟩
   ·refine(?_:Except.error (iv (a.heap.objs.size+1))=_);unfold E;refine r (show a.heap.objs.size-100+101=a.heap.objs.size+1 from congrArg Nat.succ (ir (aS (a5 t) G))) ?_;rfl
   ·refine(?_:aY.get? (((a.heap.update (c+101) _).push _).push (hf a.heap.objs.size)) _=_);have S:a.heap.objs.size-100+101=((a.heap.update (c+101) λ_=>{cls:= .type "list_iterator",data:= .fields ⟨[.none,aj i 0]⟩}).push {cls:= .type "tuple",data:= .seq ⟨[]⟩ 0}).objs.size:=by
     rw [kB,R];exact congrArg Nat.succ (ir (aS (a5 t) G))
    refine r S (kA _ t)
 |v::c3,i,C,K,dW,o,m,A=>by
  refine⟨⟨K,dW,λx b=>b▸k,λ_ h=>h.elim,λa d=>bh _ _ (d.fr _ _ m (λq=>q k))⟩,λa d=> ?_⟩;have s:=d.fr _ _ m (λq=>q k);have w:=d.fr _ _ A (λq=>q z);have b:aA[i]? =H v:=by
   have:=congrArg (λj:List O=>j[0]?) o;simpa using this.symm
  refine a4.mono (cI.ret (az:=hB 0 1 (c+101) (j+101) i aA e v) (n2 b) (λx b=> ?_) Y) ?_
  ·rcases b8.mp b with rfl|b
   ·exact s
   ·rw [bQ]at b;subst b;exact w
  ·refine λN P=>an ?_;rintro rfl;rintro rfl;have n:=aa.update (C:=a) (f:=λ_=>b2 (j+101) (i+1)) d.K y (a.toks+0);have L:qO (c+101) a.heap (a.heap.update (c+101) λ_=>b2 (j+101) (i+1)):=nO ..;refine⟨n,t,F,(· =c+101),p,λ_ h=> .inl h,λ_ h=> .inl h,λ_ h=> .inl h, ?_⟩;refine cX.list (aA:=aA) (e:=e) Y y B F k z c3 (i+1) _ n.K (λx b=> ?_) ?_ ?_ ?_
   ·refine(?_:x<(a.heap.update _ _).objs.size);rw [L.1];exact bP (dW x b) d.aZ
   ·rw [<-List.drop_drop,<-o];rfl
   ·exact i1 (λ_=>b2 (j+101) (i+1)) s t
   ·exact(L.2 _ (λq=>B (f7 (show c+101=j+101 from q.symm)))).trans w
end
end
open z9
set_option backward.match.sparseCases false
section
open PySem PySem.W PySem.Calls
noncomputable def z_:=0 where
 n5:O->aI (Option O):=PySem.W.Fast.tw9404975358583537561
 wF:Expr->O->O->aI Unit:=PySem.W.Fast.tw1578499551869305889
 cm:Expr->bX->O->aI Unit:=PySem.W.Fast.tw17772580674575903948
 b7:List cb->bX->aI Flow:=PySem.W.Fast.tw12563942051412417395
 ri:Expr->bX->aI O->aI Bool:=PySem.W.Fast.tw15418851999007992765
 bT:Expr->bX->aI Value:=PySem.W.Fast.tw14044960220447912780
open z_
theorem tr:hY=n5:=PySem.W.Fast.te9404975358583537561
theorem z':d9=wF:=PySem.W.Fast.te1578499551869305889
theorem ja:hZ=cm:=PySem.W.Fast.te17772580674575903948
theorem jb:c6=b7:=PySem.W.Fast.te12563942051412417395
theorem wG:g9=ri:=PySem.W.Fast.te15418851999007992765
theorem en:dR=bT:=PySem.W.Fast.te14044960220447912780
noncomputable def wH:Option O->dQ
 |some v=> .ret v
 |none=> .next
noncomputable def gR(m:aI (Option O)):aI PySem.Fin:=d3 m λa=> .pure (.done (wH a))
noncomputable def cf(m:aI Unit):aI PySem.Fin:=d3 m λ_=> .pure (.done .next)
noncomputable def cM(m:aI dQ):aI PySem.Fin:=d3 m λf=> .pure (.done f)
noncomputable def jU(m:aI Bool):aI PySem.Fin:=d3 m λb=> .pure (.done (.ret (.bool b)))
noncomputable def bN(m:aI O):aI PySem.Fin:=d3 m λv=> .pure (.done (.ret v))
section
variable {b a:Type}
theorem Q.gR {m:aI (Option O)}{cJ:bZ->ac->Prop}(h:∀A,ai u l Y j c A (cQ.gR m) [] C (ei cJ)):Q u l Y j c m (λa b=>cJ (.ok (wH a)) b) (λe b=>cJ (.error e) b) C:=Q.go wH h
theorem Q.cf {m:aI Unit}{cJ:bZ->ac->Prop}(h:∀A,ai u l Y j c A (cQ.cf m) [] C (ei cJ)):Q u l Y j c m (λ_ a=>cJ (.ok .next) a) (λe a=>cJ (.error e) a) C:=Q.go (λ_=> .next) h
theorem Q.cM {m:aI dQ}{cJ:bZ->ac->Prop}(h:∀A,ai u l Y j c A (cQ.cM m) [] C (ei cJ)):Q u l Y j c m (λf a=>cJ (.ok f) a) (λe a=>cJ (.error e) a) C:=Q.go (λf=>f) h
theorem Q.jU {m:aI Bool}{cJ:bZ->ac->Prop}(h:∀A,ai u l Y j c A (cQ.jU m) [] C (ei cJ)):Q u l Y j c m (λb a=>cJ (.ok (.ret (.bool b))) a) (λe a=>cJ (.error e) a) C:=Q.go (λb=> .ret (.bool b)) h
theorem Q.bN {m:aI O}{cJ:bZ->ac->Prop}(h:∀A,ai u l Y j c A (cQ.bN m) [] C (ei cJ)):Q u l Y j c m (λv a=>cJ (.ok (.ret v)) a) (λe a=>cJ (.error e) a) C:=Q.go (λv=> .ret v) h
variable {aG:dQ->ac->Prop}{af:O->ac->Prop}{m:bX}
theorem Q.execs_cons {st:cb}{d:List cb}(h:Q u l Y j c (jF st m) (λf b=>match f with| .next=>Q u l Y j c (c6 d m) aG af b|f=>aG f b) af C):Q u l Y j c (c6 (st::d) m) aG af C:=by
 rw [sN];refine Q.bind (h.mono (λf b a=> ?_) λ_ _ h=>h);cases f with
 |next=>exact a
 |brk=>exact Q.pure a
 |cont=>exact Q.pure a
 |ret v=>exact Q.pure a
theorem Q.execs_nil(h:aG .next C):Q u l Y j c (c6 [] m) aG af C:=Q.pure h
theorem ts(st:cb):jF st m=c6 [st] m:=by
 rw [sN];refine(bind_pure _).symm.trans (congrArg (λk=>jF st m>>=k) (funext λf=> ?_));cases f<;>rfl
theorem Q.wI {st:cb}(h:Q u l Y j c (b7 [st] m) aG af C):Q u l Y j c (jF st m) aG af C:=by
 rw [ts,jb];exact h
theorem Q.jV {b:Type}{pos:ap}{k:aI b}{aG:b->ac->Prop}(h:Q u l Y j c k aG af C):Q u l Y j c (do standAt pos;k) aG af C:=λa A x y z=>by
 rw [mI,sR];exact h a _ x y z
theorem Q.hold {b:Type}{a:List O}{k:aI b}{aG:b->ac->Prop}(h:Q u l Y j c k aG af C):Q u l Y j c (holding a k) aG af C:=λd A x y z=>(aI.wp_holding ..).mpr (h d A x y z)
theorem Q.Aa {a:List O}{k:aI O}{aG:O->ac->Prop}(h:Q u l Y j c k aG af C):Q u l Y j c (operate a k) aG af C:=λb A x y z=>(aI.wp_operate ..).mpr (h b A x y z)
theorem Q.Ab {b:Type}{k:aI b}{aG:Except O b->ac->Prop}(h:Q u l Y j c k (λa=>aG (.ok a)) (λe=>aG (.error e)) C):Q u l Y j c k.attempt aG af C:=λd A x y z=>(aI.wp_attempt ..).mpr (h d A x y z)
theorem Q.If {d e f pos}(h:Q u l Y j c (g9 d m (dR d m)) (λb g=>if b then Q u l Y j c (c6 e m) aG af g else Q u l Y j c (c6 f m) aG af g) af C):
  Q u l Y j c (jF (.If d e f pos) m) aG af C:=
 Q.jV (Q.bind (h.mono (λb i a=>match b,a with|true,a=>a|false,a=>a) λ_ _ h=>h))
theorem Q.a4 {e:Expr}{pos}(h:Q u l Y j c (dR e m) (λv a=>aG (.ret v) a) af C):Q u l Y j c (jF (.Return (H e) pos) m) aG af C:=
 Q.jV (Q.bind (h.mono (λ_ _ h=>Q.pure h) λ_ _ h=>h))
theorem Q.IfExp {a d e pos}{aG:O->ac->Prop}(h:Q u l Y j c (g9 a m (dR a m)) (λb f=>if b then Q u l Y j c (dR d m) aG af f else Q u l Y j c (dR e m) aG af f) af C):
  Q u l Y j c (dR (.IfExp a d e pos) m) aG af C:=by
 rw [arm_eval_IfExp];refine Q.bind (h.mono (λb i g=> ?_) λ_ _ h=>h);cases b<;>exact g
theorem Q.jW {f d e pos n}{aG:Bool->ac->Prop}
  (h:Q u l Y j c (dR f m) (λa g=>Q u l Y j c (dR e m) (λb i=>Q u l Y j c (hz d a b) (λv k=>Q u l Y j c (truthy v) aG af k) af i) af g) af C)
  (o:mD d e=aN):Q u l Y j c (g9 (.Compare f [d] [e] pos) m n) aG af C:=
 Q.bind (h.mono (λa g p=>Q.bind (Q.hold (by exact r (yW o) (p.mono (λb i q=>Q.jV (Q.bind (Q.Aa (q.mono (λv k s=>Q.hold s) λ_ _ h=>h)))) λ_ _ h=>h)))) λ_ _ h=>h)
theorem Q.isRef {a b:ae}{aG:O->ac->Prop}{d f:ab}(g:I C a d)(i:I C b f)(k:d.cls≠ .type "tuple")(h:aG (.bool (decide (a=b))) C):Q u l Y j c (hz .Is (.ref a) (.ref b)) aG af C:=by
 refine Q.any ?_
 by_cases e:a=b
 ·subst e;rw [decide_eq_true t]at h;exact wpAny_is_ref_self h
 ·rw [decide_eq_false e]at h;exact wpAny_is_ref_other e g i k h
theorem Q.jc {b:Bool}{aG:Bool->ac->Prop}(h:aG b C):Q u l Y j c (truthy (.bool b)) aG af C:=by
 have:truthy (.bool b)=Pure.pure b:=by cases b<;>rfl
 exact r this (Q.pure h)
theorem ai.ofFin {m:aI b0}{aG:b0->ac->Prop}{af:O->ac->Prop}(e:Q u l Y j c m aG af C)
  (x:∀f d b,aG f b->ai u l Y j c d (.pure f) [] b B)
  (y:∀a d b,af a b->ai u l Y j c d (.raise a) [] b B):ai u l Y j c A m [] C B:=by
 have:=ai.rg (A:=A) (K:=λf=>(.pure f:aI b0)) e x y
 rwa [show(m>>=λf=>(.pure f:aI b0))=m from bind_pure m]at this
theorem Ac(a:Expr)(b:O)(c d:List cb)(m:bX):bI (.forLoop a b c d m)=(forTurn a b c d m).onRaise (λx=>do iY x m;qE x):=by
 refine r (cj hA) ?_;rfl
theorem ai.for {a:Expr}{b:O}{g i:List cb}{aG:b0->ac->Prop}
  (h:Q u l Y j c (hY b) (λk n=>match k with
   |none=>aG (.again (.block i m)) n
   |some v=>Q u l Y j c (d9 a b v) (λ_ o=>Q u l Y j c (hZ a m v) (λ_ p=>Q u l Y j c (c6 g m) (λf d=>match f with
    | .next| .cont=>aG (.again (.forLoop a b g i m)) d
    | .brk=>aG (.done .next) d
    | .ret v=>aG (.done (.ret v)) d) (λ_ _=>False) p) (λ_ _=>False) o) (λ_ _=>False) n) (λ_ _=>False) C)
  (x:∀f s q,aG f q->ai u l Y j c s (.pure f) [] q B):ai u l Y j c A (bI (.forLoop a b g i m)) [] C B:=by
 rw [Ac];refine ai.ofFin (aG:=aG) (af:=λ_ _=>False) (Q.onRaise (Q.mono (af:=λ_ _=>False) ?_ (λ_ _ h=>h) (λ_ _ h=>h.elim))) x (λ_ _ _ h=>h.elim);unfold forTurn;refine Q.bind ?_;intro D A x y z;rw [sR];refine Q.bind (aG:=aG) (af:=λ_ _=>False) (Q.onRaise (h.mono (λk n r=> ?_) (λ_ _ h=>h.elim)));cases k with
 |none=>
  refine(?_:Q u l Y j c (PySem.again _) _ _ _);exact Q.pure r
 |some v=>
  refine Q.bind (r.mono (λ_ o t=>Q.bind (t.mono (λ_ p w=>Q.bind (w.mono (λf d e=> ?_) λ_ _ h=>h)) λ_ _ h=>h)) λ_ _ h=>h);cases f with
  |next=>exact Q.pure e
  |cont=>exact Q.pure e
  |brk=>exact Q.pure e
  |ret v=>exact Q.pure e
end
theorem b6.nodup {g:Nat->Option ab}{c:List (ae×ab)}{d:List Nat}(Y:(c.map (·.1)).Nodup)(f:∀i∈d,∀a,(c.map (·.1))[i]? =H a->g a=J):b6 g c d:=
 λi h a e=>⟨f i h a e,λl b j k q=>k (by subst q;exact py Y j e)⟩
theorem eo {g:Nat->Option ab}{x:Nat}(h:g x=J):∀a:Nat,H x=H a->g a=none:=λa e=>by
 injection e with e;exact r (cj e) h
theorem b6.ge {g:Nat->Option ab}{c:List (ae×ab)}{d:List Nat}{b:Nat}(e:∀x:Nat,b<=x->g x=J)(Y:(c.map (·.1)).Nodup)(h:∀x∈c,@eY Nat _ b x.1):b6 g c d:=
 .nodup Y λ_ _ a f=>by
  obtain ⟨j,i⟩:=mT f;exact e a (h _ i)
theorem b6.head {g:Nat->Option ab}{a:ae}{j:ab}{c:List (ae×ab)}(k:g a=J)(h:∀y∈c,y.1≠a):b6 g ((a,j)::c) [0]:=by
 intro i f b d;rw [bQ]at f;subst f;injection d with d;subst d;refine⟨k,λe b l m=> ?_⟩;cases e with
 |zero=>exact absurd t m
 |succ e=>
  have n:(c.map (·.1))[e]? =H b:=l;obtain ⟨p,o⟩:=mT n;exact h _ o
theorem kN.e1 {g:Nat->Option ab}{C:ac}{c d:List (ae×ab)}{e m i au}{a:ac}(f:kN g c [] d e m i au C a)(j:au.all er=ag):aa g p p C a:=by
 have b:=f.rf j;exact(aa.mS b b.dH).mono (λx h=>nomatch h) (λ_ h=> .inl h)
theorem kN.only {g:Nat->Option ab}{C:ac}{a e:List (ae×ab)}{b f m i au}{c:ac}(h:kN g a b e f m i au C c)(j:au.all er=ag):aa g (· ∈c' a b) p C c:=by
 have d:=h.grow j;exact aa.mS d d.dH
section
variable {l ak:Nat}{D:List (ae×ab)}{aQ:List Nat}{aC:List cI}{a9:Nat}{bj bR:List Nat}{m i:Nat}{au:List dM}{aA:Nat->List (Option (ae×ab))}
section
variable(b:l<=ak)(d:Base g)(K:aR g C)(f:∀x∈D,I C x.1 x.2)(o:b6 g D aQ)(s:∀az∈aC,az.Ok bH u)
include b d K f o s
theorem mV {v:Nat->O}(e:∀n,bF bR (ce u g ak n C.toks C.gens.size Y j D aQ aC a9 bj c A M [])=⟨.ret (v n),0,aA n,m,i,au,bG (ce u g ak n C.toks C.gens.size Y j D aQ aC a9 bj c A M [])⟩)(y:au.all er=ag)
  (h:∀n k,C.heap.objs.size=n+101->aa g (· ∈c' D aQ) p C k->(∀a w,H (a,w)∈aA n->I k a w)->k.gens=C.gens++au.toArray->B (.ret (.ok (.ret (v n)))) k):ai u l Y j c A M [] C B:=by
 obtain ⟨n,x⟩:=K.size;refine c2 b d K x t t f o s t (e n) ?_;intro k F G ok z E q;refine r (e' z) (r (cA E) ?_);exact ai.done (.ok (.ret (v n))) (h n k x (q.only y) q.xs q.ct)
theorem lM(e:∀n,bF bR (ce u g ak n C.toks C.gens.size Y j D aQ aC a9 bj c A M [])=⟨.next,0,aA n,m,i,au,bG (ce u g ak n C.toks C.gens.size Y j D aQ aC a9 bj c A M [])⟩)(x:au.all er=ag)
  (h:∀n k,C.heap.objs.size=n+101->aa g (· ∈c' D aQ) p C k->(∀a v,H (a,v)∈aA n->I k a v)->k.gens=C.gens++au.toArray->B (.ret (.ok .next)) k):ai u l Y j c A M [] C B:=by
 obtain ⟨n,w⟩:=K.size;refine c2 b d K w t t f o s t (e n) ?_;intro k E F ok y z q;refine r (n1 y) (r (cA z) ?_);exact ai.done (.ok .next) (h n k w (q.only x) q.xs q.ct)
theorem Ft {v:Nat->O}(e:∀n,bF bR (ce u g ak n C.toks C.gens.size Y j D aQ aC a9 bj c A M [])=⟨.err (v n),0,aA n,m,i,au,bG (ce u g ak n C.toks C.gens.size Y j D aQ aC a9 bj c A M [])⟩)(y:au.all er=ag)
  (h:∀n k,C.heap.objs.size=n+101->aa g (· ∈c' D aQ) p C k->(∀a w,H (a,w)∈aA n->I k a w)->k.gens=C.gens++au.toArray->B (.ret (.error (v n))) k):ai u l Y j c A M [] C B:=by
 obtain ⟨n,x⟩:=K.size;refine c2 b d K x t t f o s t (e n) ?_;intro k F G ok z E q;refine r (pu z) (r (cA E) ?_);exact ai.done (.error (v n)) (h n k x (q.only y) q.xs q.ct)
theorem gb {w:List dc}(ok:cw w=ag){F:Nat->aL}{G L br:Nat}{R:Nat->ac->bZ->ac->Prop}
  (e:∀n,(bF bR (ce u g ak n C.toks C.gens.size Y j D aQ aC a9 bj c A M w),eA (ce u g ak n C.toks C.gens.size Y j D aQ aC a9 bj c A M w) J Y G)=(⟨.call (F n) J,L,aA n,m,i,au,bG (ce u g ak n C.toks C.gens.size Y j D aQ aC a9 bj c A M w)⟩,(ag,Y)))(N:au.all er=ag)(S:l+G<=br)
  (T:∀n h,C.heap.objs.size=n+101->aa g (· ∈c' D aQ) p C h->(∀a y,H (a,y)∈aA n->I h a y)->h.gens=C.gens++au.toArray->a4 u br Y (F n) h (R n h))
  (k:∀n h v z q,C.heap.objs.size=n+101->v=ce u g ak n C.toks C.gens.size Y j D aQ aC a9 bj c A M w->cw v.aU=ag->v.aU.length=L->aa g (· ∈c' D aQ) p C h->(∀a y,H (a,y)∈aA n->I h a y)->h.gens=C.gens++au.toArray->R n h q z->
   ai u l Y j v.c v.p (eh v.t q) v.aU z B):ai u l Y j c A M w C B:=by
 obtain ⟨n,E⟩:=K.size;have O:=e n;simp only [eZ]at O;obtain ⟨U,P⟩:=O;refine c2 b d K E t t f o s ok U ?_;intro h v Q ok V W x;refine aw (iA V) (bo λaf ah X=> ?_);refine r X ?_;rw [<-show v=ce u g ak n C.toks C.gens.size Y j D aQ aC a9 bj c A M w from Q]at P;injection P with Z ab;exact ai.i' (br:=br) (fm:=Y) ok t (jL Z S) ab.symm (T n h E (x.only N) x.xs x.ct) λq z ae=>k n h v z q E Q ok W (x.only N) x.xs x.ct ae
end
variable(b:l<=ak)(d:Base g)(K:aR g C)(f:∀x∈D,I C x.1 x.2)(k:b6 g D aQ)(o:∀az∈aC,az.Ok bH u)
include b d K f k o
theorem Q.V {a:aI O}{v:Nat->O}{w af:O->ac->Prop}(e:∀n A,bF bR (ce u g ak n C.toks C.gens.size Y j D aQ aC a9 bj c A (cQ.bN a) [])=⟨.ret (v n),0,aA n,m,i,au,bG (ce u g ak n C.toks C.gens.size Y j D aQ aC a9 bj c A (cQ.bN a) [])⟩)(B:au.all er=ag)
  (h:∀n q,C.heap.objs.size=n+101->aa g (· ∈c' D aQ) p C q->(∀a z,H (a,z)∈aA n->I q a z)->w (v n) q):Q u l Y j c a w af C:=by
 refine Q.mono (Q.bN (cJ:=λE q=>∃x,E= .ok (.ret x)/\w x q) λA=>mV b d K f k o (λn=>e n A) B λn q r s F _=>⟨_,t,h n q r s F⟩) ?_ ?_
 ·refine λx q=>aH λy=>an λr s=> ?_;cases r;exact s
 ·refine λx q=>aH λy=>an λr s=> ?_;cases r
theorem Q.tt {a:aI Bool}{v:Bool}{w:Bool->ac->Prop}{af:O->ac->Prop}(e:∀n A,bF bR (ce u g ak n C.toks C.gens.size Y j D aQ aC a9 bj c A (cQ.jU a) [])=⟨.ret (.bool v),0,aA n,m,i,au,bG (ce u g ak n C.toks C.gens.size Y j D aQ aC a9 bj c A (cQ.jU a) [])⟩)(B:au.all er=ag)
  (h:∀n q,C.heap.objs.size=n+101->aa g (· ∈c' D aQ) p C q->(∀a z,H (a,z)∈aA n->I q a z)->w v q):Q u l Y j c a w af C:=by
 refine Q.mono (Q.jU (cJ:=λE q=>∃x:Bool,E= .ok (.ret (.bool x))/\w x q) λA=>mV (v:=λ_=> .bool v) b d K f k o (λn=>e n A) B λn q r s F _=>⟨_,t,h n q r s F⟩) ?_ ?_
 ·refine λx q=>aH λy=>an λr s=> ?_;cases r;exact s
 ·refine λx q=>aH λy=>an λr s=> ?_;cases r
theorem Q.eC {a:aI Unit}{v:Unit->ac->Prop}{af:O->ac->Prop}(e:∀n A,bF bR (ce u g ak n C.toks C.gens.size Y j D aQ aC a9 bj c A (cQ.cf a) [])=⟨.next,0,aA n,m,i,au,bG (ce u g ak n C.toks C.gens.size Y j D aQ aC a9 bj c A (cQ.cf a) [])⟩)(y:au.all er=ag)
  (h:∀n q,C.heap.objs.size=n+101->aa g (· ∈c' D aQ) p C q->(∀a w,H (a,w)∈aA n->I q a w)->v () q):Q u l Y j c a v af C:=by
 refine Q.mono (Q.cf (cJ:=λz q=>z= .ok .next/\v () q) λA=>lM b d K f k o (λn=>e n A) y λn q r s B _=>⟨t,h n q r s B⟩) ?_ ?_
 ·rintro x q ⟨r,s⟩;exact s
 ·refine λx q=>an λr s=> ?_;cases r
theorem Q.F {a:aI dQ}{v:dQ->ac->Prop}{af:O->ac->Prop}(e:∀n A,bF bR (ce u g ak n C.toks C.gens.size Y j D aQ aC a9 bj c A (cQ.cM a) [])=⟨.next,0,aA n,m,i,au,bG (ce u g ak n C.toks C.gens.size Y j D aQ aC a9 bj c A (cQ.cM a) [])⟩)(y:au.all er=ag)
  (h:∀n q,C.heap.objs.size=n+101->aa g (· ∈c' D aQ) p C q->(∀a w,H (a,w)∈aA n->I q a w)->v .next q):Q u l Y j c a v af C:=by
 refine Q.mono (Q.cM (cJ:=λz q=>z= .ok .next/\v .next q) λA=>lM b d K f k o (λn=>e n A) y λn q r s B _=>⟨t,h n q r s B⟩) ?_ ?_
 ·refine λx q=>an λr s=> ?_;cases r;exact s
 ·refine λx q=>an λr s=> ?_;cases r
theorem Q.Fu {a:aI (Option O)}{v:O}{w:Option O->ac->Prop}{af:O->ac->Prop}(e:∀n A,bF bR (ce u g ak n C.toks C.gens.size Y j D aQ aC a9 bj c A (cQ.gR a) [])=⟨.ret v,0,aA n,m,i,au,bG (ce u g ak n C.toks C.gens.size Y j D aQ aC a9 bj c A (cQ.gR a) [])⟩)(B:au.all er=ag)
  (h:∀n q,C.heap.objs.size=n+101->aa g (· ∈c' D aQ) p C q->(∀a z,H (a,z)∈aA n->I q a z)->w (H v) q):Q u l Y j c a w af C:=by
 refine Q.mono (Q.gR (cJ:=λE q=>E= .ok (.ret v)/\w (H v) q) λA=>mV (v:=λ_=>v) b d K f k o (λn=>e n A) B λn q r s F _=>⟨t,h n q r s F⟩) ?_ ?_
 ·refine λx q=>an λr s=> ?_;cases x with
  |none=>cases r
  |some y=>cases r;exact s
 ·refine λx q=>an λr s=> ?_;cases r
theorem Q.Ad {a:aI (Option O)}{v:Option O->ac->Prop}{af:O->ac->Prop}(e:∀n A,bF bR (ce u g ak n C.toks C.gens.size Y j D aQ aC a9 bj c A (cQ.gR a) [])=⟨.next,0,aA n,m,i,au,bG (ce u g ak n C.toks C.gens.size Y j D aQ aC a9 bj c A (cQ.gR a) [])⟩)(z:au.all er=ag)
  (h:∀n q,C.heap.objs.size=n+101->aa g (· ∈c' D aQ) p C q->(∀a w,H (a,w)∈aA n->I q a w)->v J q):Q u l Y j c a v af C:=by
 refine Q.mono (Q.gR (cJ:=λB q=>B= .ok .next/\v J q) λA=>lM b d K f k o (λn=>e n A) z λn q r s E _=>⟨t,h n q r s E⟩) ?_ ?_
 ·refine λx q=>an λr s=> ?_;cases x with
  |none=>exact s
  |some y=>cases r
 ·refine λx q=>an λr s=> ?_;cases r
end
variable(g:Nat->Option ab)(P:a1)
noncomputable def Ae:=0 where
 gc(a:List (ae×ab))(b:Nat):Obj:=match dy a b with|some x=>x.2|none=>default
 eQ:Nat->List Nat
  |0=>[123,42,125,42]
  |1=>[123,125,42]
  |2=>[123,117,125,42]
  |3=>[123,117,117,125,42]
  |4=>[123,42,125,97]
  |5=>[123,42,125,97,97]
  |6=>[42]
  |_=>[123,117,125,42,97]
 gS(d a:Nat):Code:= .call (.ref 44) ⟨[.str ⟨⟨eQ d⟩⟩ a],[]⟩
 tu:List (Nat×O)->List O
  | []=>[]
  |(a,c)::b=>aj a 0::aj 8 0::c::tu b
 rj:cb->List Expr×List cb×List cb×List o4
  | .If M b a _=>([M],b,a,[])
  | .For M _ b a _=>([M],b,a,[])
  | .Return e _=>(e.toList,[],[],[])
  | .Assign c v _=>(v::c,[],[],[])
  | .Try b h _ _ _=>([],b,[],h)
  |_=>([],[],[],[])
 tv:Expr->List Expr
  | .Compare c _ d _=>c::d
  | .IfExp M a b _=>[M,a,b]
  | .Call f a _ _=>f::a
  | .BinOp c _ d _=>[c,d]
  | .BoolOp _ c _=>c
  | .Subscript v C _=>[v,C]
  | .Slice _ e _ _=>e.toList
  | .List c _=>c
  |_=>[]
 n6:cb->c0×sO×List cb×g_
  | .FunctionDef n a b _ _ _ C .. =>(n,a,b,C)
  | .ClassDef n _ _ b _ _ C .. =>(n,⟨[],[],J,[],[],J,[]⟩,b,C)
  |_=>(default,⟨[],[],J,[],[],J,[]⟩,[],⟨.function,[],aN,aN,[]⟩)
 rk(a:List cb):Stmt:=a.headD (.Pass default)
 d_(a:List cb)(i:Nat):Expr:=(rj (rk a)).1.getD i default
 dm(e:Expr)(i:Nat):Expr:=(tv e).getD i default
 iC(a:List cb):Pos:=(rk a).pos
 d'(a:List cb):Expr×List cb×List Stmt:=(d_ a 0,(rj (rk a)).2.1,(rj (rk a)).2.2.1)
 Af(n:Nat):List cb->List Stmt:=Nat.rec (λa=>(d' a).2.1) (λ_ f a=>f (d' a).2.2) n
 fnOf(a:List cb):List cb×Scope:=(n6 (a.getLastD (.Pass default))).2.2
 wJ(a:List cb):Arguments:=(n6 (a.getLastD (.Pass default))).2.1
 jd(i:Nat):List Stmt:=(vX.main.body.drop i).take 1
 rl(k:Nat):List cb×Scope:=fnOf (Af k (((fnOf (jd 6)).1.drop 1).take 1))
 Ag(k a:Nat):List (c0×ae):=match k with
  |0=>[(⟨⟨pd⟩⟩,a+104),(⟨⟨pe⟩⟩,a+103)]
  |1=>[(⟨⟨pd⟩⟩,a+104),(⟨⟨pe⟩⟩,a+103)]
  |2=>[(⟨⟨[116,97,103]⟩⟩,a+102),(⟨⟨[115,117,102,102,105,120]⟩⟩,a+108),(⟨⟨[110,111,95,110,115]⟩⟩,a+105),(⟨⟨pd⟩⟩,a+104),(⟨⟨pe⟩⟩,a+103)]
  |_=>[(⟨⟨v7⟩⟩,a+107),(⟨⟨[110,115]⟩⟩,a+106),(⟨⟨pd⟩⟩,a+104),(⟨⟨pe⟩⟩,a+103)]
 cN:Nat->Nat
  |0=>0
  |1=>1
  |2=>3
  |3=>3
  |_=>2
 c7:Nat->Nat
  |0=>47
  |1=>53
  |2=>72
  |3=>72
  |_=>63
 Ah(d:Nat):Nat:=if d<2 then 13 else 17
 iD(a:Nat):Nat:=if a=47\/a=53 then 119 else 123
 rm(d a:Nat)(c:O):Obj:={cls:= .type "function",data:= .func {name:=⟨⟨i3⟩⟩,qualname:=⟨⟨v8⟩⟩,params:=wJ (Af (cN d) (((fnOf (jd 6)).1.drop 1).take 1)),body:= .stmts (rl (cN d)).1,scope:=(rl (cN d)).2,globals:=3,closure:=Ag (cN d) a,defaults:= .none,kwdefaults:= .none,doc:= .none,pyModule:= .str ⟨⟨i4⟩⟩ 265,annotations:=J,code:=c,closureTuple:= .ref (a+100+Ah d),builtins:=0},slots:=⟨[]⟩}
 tw(b d e:Nat):Obj:=let M:=e+(if b=47 then 0 else if b=53 then 1 else if b=72 then 13 else 11);let c:=M+(if b=47 then 9 else if b=53 then 10 else if b=72 then 12 else 13);let a:=d+(iD b)-5
  {cls:= .type "code",data:= .fields ⟨[.str ⟨⟨i3⟩⟩ (M+1),.str ⟨⟨v8⟩⟩ (M+2),.str ⟨⟨fj⟩⟩ (M+3),aj b 0,aj 2 0,aj 0 0,aj 0 0,aj 51 0,.ref a,.bool ag,aj 181 0,.ref (a+1),.none,.ref (a+2),.ref (a+3),.ref (a+4),aj c 0,aj b 0,.str ⟨⟨fj⟩⟩ (c+1)]⟩,slots:=⟨[]⟩}
open Ae
section
variable(d n o L:Nat)(Y:Option O)(j:List (aL×ap))(A:ap)(bp:Nat)(e:O)(f:ap)(b:List (Nat×ae))
noncomputable def wK:=0 where
 kO:G:=Fi g P 300 n o L Y j [] [] [] 56 [0,0,2,2,3,0,0,0,0,9,9,9,1,9,10,10,10,10,10,9,10,10,10,10,10,10,9,10,10,10] (gS d bp) A
 jX(a:Nat)(e:O):Obj:={cls:= .type "StopIteration",data:= .fields ⟨[.ref a,.none,e,.none,.bool aN,.none]⟩}
 a:Obj:={cls:= .type "cell",data:= .cell J}
 tx(d n bp x b:Nat)(e:O)(c:List (Nat×O)):List (ae×ab):=[(39,co ⟨tu c⟩),(n+101,{cls:= .type "frame",data:= .dict ⟨[]⟩ 0}),(n+102,{cls:= .type "cell",data:= .cell (H (.str ⟨⟨eQ d⟩⟩ bp))}),(n+103,a),(n+104,a),(n+105,a),(n+106,a),(n+107,a),(n+108,a),(x+101,jX b e)]
 a'(v:O):Obj:={cls:= .type "cell",data:= .cell (H v)}
 ty(a b:O):Obj:={cls:= .type "slice",data:= .fields ⟨[a,b,.none]⟩}
 fP(a b:Nat):Nat->List (ae×ab)
  |0|1=>[(a+103,a' (.builtin "isinstance")),(a+104,a' (.type "str"))]
  |2=>[(a+103,a' (.builtin "isinstance")),(a+104,a' (.type "str")),(a+106,a' (.str ⟨⟨[123,117,125]⟩⟩ (b+11))),(a+107,a' (.ref (a+116))),(a+116,ty .none (aj 3 (b+13)))]
  |3=>[(a+103,a' (.builtin "isinstance")),(a+104,a' (.type "str")),(a+106,a' (.str ⟨⟨[123,117,117,125]⟩⟩ (b+11))),(a+107,a' (.ref (a+116))),(a+116,ty .none (aj 4 (b+13)))]
  |4=>[(a+103,a' (.builtin "isinstance")),(a+104,a' (.type "str")),(a+102,a' (.str ⟨⟨[97]⟩⟩ (b+11))),(a+105,a' (.ref (a+115))),(a+108,a' (.str ⟨⟨[125,97]⟩⟩ (b+6))),(a+115,ty (.int (oX 1) (b+9)) .none)]
  |_=>[(a+103,a' (.builtin "isinstance")),(a+104,a' (.type "str")),(a+102,a' (.str ⟨⟨[97,97]⟩⟩ (b+11))),(a+105,a' (.ref (a+115))),(a+108,a' (.str ⟨⟨[125,97,97]⟩⟩ (b+6))),(a+115,ty (.int (oX 2) (b+9)) .none)]
 Fv:Nat->List Nat
  |0|1=>[3,4]
  |2|3=>[3,4,6,7,13]
  |_=>[3,4,2,5,8,12]
 jY:List (List Nat):=[[],[47],[53],[63],[72],[47,53],[47,63],[47,72],[53,47],[53,63],[53,72],[63,47],[63,53],[63,72],[72,47],[72,53],[72,63]]
 Ai:Nat->Bool->Nat×List Nat
  |0,ag=>(38,[10,4,4,5,5,3,1,0,1,0,0,0,0,2,2,2])
  |0,aN=>(57,[10,4,4,5,5,3,1,0,1,1,1,1,0,0,0,0,2,2,2])
  |1,ag=>(47,[10,4,4,5,5,3,1,3,1,0,1,0,0,0,0,2,2,2])
  |1,aN=>(67,[10,4,4,5,5,3,1,3,1,0,1,1,1,1,0,0,0,0,2,2,2])
  |2,ag=>(157,[10,4,4,5,5,3,1,3,1,3,11,11,11,11,1,3,12,12,12,12,1,3,13,13,13,13,7,7,0,0,0,0,7,14,14,14,14,8,8,0,1,0,0,0,0,2,2,2])
  |2,aN=>(179,[10,4,4,5,5,3,1,3,1,3,11,11,11,11,1,3,12,12,12,12,1,3,13,13,13,13,7,7,0,0,0,0,7,14,14,14,14,8,8,0,1,1,1,1,0,0,0,0,2,2,2])
  |3,ag=>(157,[10,4,4,5,5,3,1,3,1,3,11,11,11,11,1,3,12,12,12,12,1,3,13,13,13,13,7,7,0,0,0,0,7,14,14,14,14,8,8,0,1,0,0,0,0,2,2,2])
  |3,aN=>(179,[10,4,4,5,5,3,1,3,1,3,11,11,11,11,1,3,12,12,12,12,1,3,13,13,13,13,7,7,0,0,0,0,7,14,14,14,14,8,8,0,1,1,1,1,0,0,0,0,2,2,2])
  |4,ag=>(151,[10,4,4,5,5,3,1,3,1,3,11,11,11,11,1,3,12,12,12,12,9,9,0,0,0,0,9,13,13,13,13,6,6,3,14,14,14,14,3,3,0,1,0,0,0,0,2,2,2])
  |4,aN=>(174,[10,4,4,5,5,3,1,3,1,3,11,11,11,11,1,3,12,12,12,12,9,9,0,0,0,0,9,13,13,13,13,6,6,3,14,14,14,14,3,3,0,1,1,1,1,0,0,0,0,2,2,2])
  |_,ag=>(151,[10,4,4,5,5,3,1,3,1,3,11,11,11,11,1,3,12,12,12,12,9,9,0,0,0,0,9,13,13,13,13,6,6,3,14,14,14,14,3,3,0,1,0,0,0,0,2,2,2])
  |_,aN=>(174,[10,4,4,5,5,3,1,3,1,3,11,11,11,11,1,3,12,12,12,12,9,9,0,0,0,0,9,13,13,13,13,6,6,3,14,14,14,14,3,3,0,1,1,1,1,0,0,0,0,2,2,2])
 Aj:Nat->Bool->Nat
  |0,ag=>2
  |0,aN=>12
  |1,ag=>3
  |1,aN=>14
  |2,ag=>15
  |2,aN=>28
  |3,ag=>15
  |3,aN=>28
  |4,ag=>13
  |4,aN=>27
  |_,ag=>13
  |_,aN=>27
 fo(d:Nat)(b:List (Nat×ae)):Bool:=b.any λq=>e7 q.1 (c7 d)
 tz(d:Nat):List (Nat×ae)->ae
  | []=>0
  |q::b=>match e7 q.1 (c7 d)with|true=>q.2|false=>tz d b
 rn(b:List (Nat×ae)):List (Nat×O):=b.map λq=>(q.1,.ref q.2)
 tA:G:=
  run (cB g P 300 (n+12) o L Y j (tx d n bp (n+11) (n+111) e (rn b)) [0,1,2,3,4,5,6,7,8] []) (Ai d (fo d b)).1 (Ai d (fo d b)).2 kO.c f (eh kO.t (.error (.ref (n+112)))) kO.aU
open wK
end
open wK
noncomputable def Ak:=0 where
 mW(d:Nat)(a:Bool):Nat:=Ah d+(match a with|true=>0|false=>6)
 Al(d:Nat)(a:Bool):List Nat:=0::(mW d a-2)::(Fv d++match a with|true=>[]|false=>[mW d a-3])
 wL(d n:Nat)(a:List (Nat×ae)):Addr:=match fo d a with|true=>tz d a|false=>n+iD (c7 d)
 tB(d n:Nat)(a:List (Nat×ae)):List (Nat×ae):=match fo d a with|true=>a|false=>a++[(c7 d,n+iD (c7 d))]
 tC(d n b:Nat)(a:List (Nat×ae)):List (ae×ab):=(39,co ⟨tu (rn (tB d n a))⟩)::(n+mW d (fo d a)+101,rm d n (.ref (wL d n a)))::(fP n b d++match fo d a with|true=>[]|false=>[(n+iD (c7 d),tw (c7 d) n b)])
 Fw(g:Nat->Option ab)(P:a1):List Prop:=[
  ∀d n a c Y j A b,(bF [0,1,2,3,4,5,6,7,8,9] (kO g P d n a c Y j A b),(dp (cW (kO g P d n a c Y j A b).c (kO g P d n a c Y j A b).aU) 8,(fw (kO g P d n a c Y j A b).aU (Y,Y)).1))=(⟨.call (.call (.builtin "tuple_iterator.__next__") ⟨[.ref (n+110)],[]⟩) J,0,((tx d n b 0 0 .none []).drop 1).dropLast.map H++[H (n+109,{cls:= .type "tuple",data:= .seq ⟨[.builtin "isinstance",.type "str"]⟩ 0}),H (n+110,{cls:= .type "tuple_iterator",data:= .fields ⟨[.ref (n+109),aj 2 0]⟩})],10,0,[],bG (kO g P d n a c Y j A b)⟩,(ag,Y)),
  ∀n a c Y j A b i k f h,eM (λd=>kF (λe=>bF (Al d (fo d (e.zip [f,h]))) (tA g P d n a c Y j A b i k (e.zip [f,h]))) jY) 6=eN (λd=>kG (λe=>⟨.ret (.ref (n+mW d (fo d (e.zip [f,h]))+101)),0,(tC d n a (e.zip [f,h])).map H,mW d (fo d (e.zip [f,h]))-11,Aj d (fo d (e.zip [f,h])),[],bG (tA g P d n a c Y j A b i k (e.zip [f,h]))⟩) jY) 6]
 je(g:Nat->Option ab)(P:a1):Prop:=AllP (Fw g P)
open Ak
open PyProof.Rows (AllBare)
noncomputable def pA(Y:Option O)(h:aY):Prop:=Y=J\/∃e a b,Y=H (E e)/\h.get? (e+101)=H a/\a.data= .fields b/\b[2]? =H fx
section
variable {f:iW}{g:Nat->Option ab}{aV:ef}{af:O->ac->Prop}
theorem Fx:entryFor mx "proto.unchain"=H iX.«proto.unchain»:=entryFor_of_tree (by kernel_rfl)
theorem Fy {c:Type}{a:Nat}{d:ab}{g:Array O}{i:c->ac->Prop}(b:pA aV.handled C.heap)(h:I C a d)(Y:d.data= .fields g)(j:2<g.size)(k:∀e,aV.handled=H (E e)->e+101≠a)
  (l:aV.handled=J->af (.ref a) C)(m:∀e,aV.handled=H (E e)->af (.ref a) {C with heap:=C.heap.update a (gK (·.setIfInBounds 2 (E e)))}):bD (b1 f u) aV (qC (.ref a):aI c) i af C:=by
 unfold qC;refine bl (wpAny_handled ?_);rcases b with b|⟨e,s,t,b,n,o,p⟩
 ·exact r b (bl (cG (wpAny_throw (l b))))
 ·refine r b ?_;have q:((E e) != .ref a)=true:=by
   have:=k e b;simp [bne_iff_ne];exact this
  simp only [q,if_true];refine bl (wpAny_holding (wpAny_runValue (qF Fx ?_)));unfold iX.«proto.unchain»;refine bl (gn n o p ?_);refine r (if_pos (by rfl)) (cG ?_);refine(?_:bD _ _ (updateField a 2 (E e)>>=_) _ _ _);refine bl ?_;unfold updateField;refine bl (wpAny_load h ?_);refine r Y ?_;simp only [j,if_true];exact wpAny_update h (wpAny_throw (m e b))
theorem Am {l:Type}{v:l->ac->Prop}(w:pA aV.handled C.heap)
  (h:∀j F,(∀b g,I C b g->j.get? b=H g)->j.objs.size=C.heap.objs.size+2->j.get? (C.heap.objs.size+1)=H (jX C.heap.objs.size F)->af (.ref (C.heap.objs.size+1)) {C with heap:=j}):
  bD (b1 f u) aV (newExc (.type "StopIteration") []>>=λe=>(qC e:aI l)) v af C:=by
 refine bl ?_;simp only [newExc,newTuple];refine bl (mC ?_ (by size_fits));refine bl (m:=sM _ _) (wpAny_of_eq (a:=fx) (by first|rfl|(simp only [sM];rfl)) ?_);refine mC ?_ (by size_fits)
 let i:Obj:={cls:= .type "tuple",data:= .seq ⟨[]⟩ 0}
 have n:(C.heap.push i).objs.size=C.heap.objs.size+1:=kB ..;have G:∀b g,I C b g->(C.heap.push i).get? b=H g:=λb g e=>nN _ e;have p:∀b g,I C b g->((C.heap.push i).push (jX C.heap.objs.size .none)).get? b=H g:=λb g e=>nN _ (G b g e);have r:((C.heap.push i).push (jX C.heap.objs.size .none)).get? (C.heap.objs.size+1)=H (jX C.heap.objs.size .none):=by
  have:=kA (C.heap.push i) (o:=jX C.heap.objs.size .none) t;rw [n]at this;exact this
 have x:((C.heap.push i).push (jX C.heap.objs.size .none)).objs.size=C.heap.objs.size+2:=by rw [kB,n]
 have K:∀s:ac,s={C with heap:=(C.heap.push i).push (jX C.heap.objs.size .none)}->bD (b1 f u) aV (qC (.ref (C.heap.objs.size+1)):aI l) v af s:=by
  rintro s rfl;refine Fy (w.imp id fun⟨e,y,z,a,b,c,d⟩=>dT e y z ⟨a,p _ _ b,c,d⟩) r t (show 2<6 by decide) ?_ ?_ ?_
  ·rintro e k;rcases w with q|⟨M,y,z,a,b,_,_⟩
   ·rw [q]at k;cases k
   ·rw [k]at a;injection a with a;injection a with a;have A:=b9 b;rw [<-a]at A;exact a7 (Nat.lt_succ_of_lt A)
  ·intro _;exact h _ .none p x r
  ·intro e k;have B:qO (C.heap.objs.size+1) ((C.heap.push i).push (jX C.heap.objs.size .none)) (((C.heap.push i).push (jX C.heap.objs.size .none)).update (C.heap.objs.size+1) (gK (·.setIfInBounds 2 (E e)))):=nO ..;refine h _ (E e) (λb g D=>(B.2 b (a7 (Nat.lt_succ_of_lt (b9 D)))).trans (p b g D)) (B.1.trans x) (i1 _ r t)
 have L:(C.heap.push i).objs.size=C.heap.objs.size+1:=n;have:=K _ t;rw [<-L]at this;exact this
theorem Fz(z:pA Y C.heap)(K:aR g C){T iE m:Nat}(A:g T=J)(B:C.heap.objs.size=m)(j:C.heap.get? T=H {cls:= .type "tuple_iterator",data:= .fields ⟨[.ref iE,aj 2 0]⟩})(D:C.heap.get? iE=H {cls:= .type "tuple",data:= .seq ⟨[.builtin "isinstance",.type "str"]⟩ 0})(G:∀e,Y=H (E e)->e+101≠T):
  a4 u l Y (.call (.builtin "tuple_iterator.__next__") ⟨[.ref T],[]⟩) C λL i=>L= .error (.ref (m+1))/\i.heap.objs.size=m+2/\i.toks=C.toks/\i.gens=C.gens/\aa g (· =T) p C i/\∃n,I i (m+1) (jX m n):=by
 subst B;refine fb.rc (jS F.slot_tuple_iterator_next ⟨_,j,t⟩ F.entry_tuple_iterator_next (F.args_tuple_iterator_next_1 _) ?_);refine(?_:bD _ _ (mA (.ref T) 0>>=_) _ _ C);refine bl (gn j t (x:= .ref iE) t ?_);refine(?_:bD _ _ (if(iv iE==fx)=ag then _ else _) _ _ C);refine r (if_neg (show¬((iv iE==fx)=ag)from jE)) ?_;refine(?_:bD _ _ (mA (.ref T) 1>>=_) _ _ C);refine bl (gn j t (x:=aj 2 0) t ?_);refine(?_:bD _ _ (qA (.ref iE)>>=_) _ _ C);refine bl (o3 D t ?_);have M:(⟨[.builtin "isinstance",.type "str"]⟩:Array O)[(bq 2).toNat]? =none:=rfl;simp only [M];refine bl (qB (bl (mB j t (by simp) ?_)));have o:qO T C.heap (C.heap.update T (gK (·.setIfInBounds 0 .none))):=nO ..;refine Am (C:={C with heap:=C.heap.update T (gK (·.setIfInBounds 0 .none))}) (z.imp id fun⟨e,N,P,a,b,c,d⟩=>dT e N P ⟨a,(o.2 _ (G e a)).trans b,c,d⟩) ?_;intro q n Q k v;have w:(C.heap.update T (gK (·.setIfInBounds 0 .none))).objs.size=C.heap.objs.size:=o.1;rw [w]at k;refine(?_:_/\_);have R:({C with heap:=C.heap.update T (gK (·.setIfInBounds 0 .none))}:ac).heap.objs.size=C.heap.objs.size:=w;rw [R]at v⊢;have y:∀b f,I C b f->b≠T->q.get? b=H f:=λb f e s=>Q b f ((o.2 b s).trans e);refine⟨t,k,t,t,⟨⟨?_,λb f e=>y b f (K.kt b f e) ?_⟩,λb f e s=>y b f e s, ?_,λ_ _ h _=>h,aW _,λh=>h,t,t⟩,n,v⟩
 ·refine(?_:101<=q.objs.size);have:=K.lo;exact aD 101 0 2 0 101 0 t this (ao k)
 ·rintro rfl;rw [A]at e;cases e
 ·refine(?_:C.heap.objs.size<=q.objs.size);exact V 2 0 0 0 t (ao k)
noncomputable def h6(lo:Nat)(h:aY)(b:Nat)(c:ae):Prop:=∃a d,c=a+iD b/\lo<=a+101/\h.get? c=H (tw b a d)
noncomputable def TabAt(lo:Nat)(h:aY)(a:List (Nat×ae)):Prop:=h.get? 39=H (co ⟨tu (rn a)⟩)/\∀q∈a,h6 lo h q.1 q.2
noncomputable def fp(lo:Nat)(h:aY)(a d:Nat):Prop:=∃b e c,lo<=a+101/\h.get? (a+101)=H (rm d b (.ref c))/\h6 lo h (c7 d) c/\∀y∈fP b e d,@eY Nat _ lo y.1/\h.get? y.1=H y.2
theorem h6.mono {lo a:Nat}{c:ae}{h d:aY}(M:h6 lo h a c)(k:∀(b:Nat) f,lo<=b->h.get? b=H f->d.get? b=H f):h6 lo d a c:=by
 refine aw M (bo λg i=>aT ?_);rintro rfl;intro b e;refine bh g i ⟨t,b,k _ _ (aS b ?_) e⟩;unfold iD;split<;>exact bw t
theorem FA {a:List (Nat×ae)}(h:a.map (·.1)∈jY):∃b c,a=(a.map (·.1)).zip [b,c]:=by
 match a,h with
 | [],_=>exact bh 0 0 t
 | [x],_=>exact bh x.2 0 t
 | [x,y],_=>exact bh x.2 y.2 t
 |x::y::z::e,h=>
  exfalso;have:∀d∈jY,d.length<=2:=by decide
  have:=this _ h;simp at this
theorem An {d:Nat}:∀{a:List (Nat×ae)},fo d a=ag->(c7 d,tz d a)∈a
 | [],h=>by cases h
 |q::a,h=>by
  unfold tz;cases e:e7 q.1 (c7 d)with
  |true=>
   have:=oQ e;exact r (cj this) (.head _)
  |false=>
   refine .tail _ (An ?_);unfold fo at h⊢;rw [List.any_cons,e]at h;simpa using h
theorem Ao {d:Nat}{b:List (Nat×ae)}:fo d b=ag↔c7 d∈b.map (·.1):=by
 unfold fo;rw [sz];constructor
 ·refine aH λq=>an λa e=> ?_;rw [<-oQ e];exact oV a
 ·intro h;refine aw (hx.mp h) (aH λq=>an λa e=> ?_);exact⟨q,a,by exact r e (vl _)⟩
theorem FC(l:je g u.params){d:Nat}(m:d<6)(n b c:Nat)(Y:Option O)(j:List (aL×ap))(A:ap)(f:Nat)(h:O)(i:ap){a:List (Nat×ae)}(k:a.map (·.1)∈jY):
  bF (Al d (fo d a)) (tA g u.params d n b c Y j A f h i a)=⟨.ret (E (n+mW d (fo d a))),0,(tC d n b a).map H,mW d (fo d a)-11,Aj d (fo d a),[],bG (tA g u.params d n b c Y j A f h i a)⟩:=by
 refine aw (FA k) (bo λo p e=> ?_);exact r e (mK (d0 (l 1 _ ..) m) k)
theorem FD {a b d:Nat}:∀y∈fP a b d,@eY Nat _ (a+102) y.1:=
 match d with
 |0|1|2|3|4|_+5=>by
  repeat refine a_ (ey (by decide) a) ?_
  exact dG
theorem Ap(af:Base g)(ah:je g u.params)(K:aR g C)(ax:g 39=J)(aj:pA Y C.heap){lo d bp:Nat}(ay:lo<=C.heap.objs.size)(az:d<6){i:List (Nat×ae)}(N:TabAt lo C.heap i)(aA:i.map (·.1)∈jY):
  a4 u 300 Y (gS d bp) C λaB R=>aa g (· =39) p C R/\∃a ak,aB= .ok (.ret (E a))/\fp lo R.heap a d/\TabAt lo R.heap ak/\ak.map (·.1)=(if c7 d∈i.map (·.1)then i.map (·.1)else i.map (·.1)++[c7 d]):=by
 refine a4.c1 λj A=> ?_;obtain ⟨n,z⟩:=K.size;have al:=ah 0 d n C.toks C.gens.size Y j A bp;simp only [eZ]at al;obtain ⟨aE,aG,aI⟩:=al;refine mQ (l:=300) af K z t t (D:=[]) a0 b6.nil (aC:=[]) a0 t aE ?_;intro B aJ aK am aL bc F;refine aw (iA aL) (bo λbd G aM=> ?_);refine r aM ?_;have aP:aJ=kO g u.params d n C.toks C.gens.size Y j A bp:=aK;subst aP;have S:aa g p p C B:=(aa.mS (F.rf t) (F.rf t).dH).mono (λx h=>by cases h) (λ_ h=> .inl h);have be:=K.lo;have k:=F.xs;have aQ:B.heap.objs.size=n+111:=by refine r F.aZ (r z ?_);rfl
 have s:∀x:Nat,n+101<=x->g x=none:=λx v=>by
  cases q:g x with
  |none=>rfl
  |some O=>exact absurd (b9 (K.kt _ _ q)) (cx (by rw [z];exact v))
 have aU:pA Y B.heap:=aj.imp id fun⟨e,an,ao,a,b,c,f⟩=>dT e an ao ⟨a,S.fr _ _ b (λh=>h),c,f⟩;refine ai.i' (br:=308) (fm:=Y) am t (jL aG (aW _)) aI.symm (Fz (T:=n+110) (iE:=n+109) (m:=n+111) aU S.K (s _ (bw t)) aQ (k _ _ (by simp)) (k _ _ (by simp)) ?_) ?_
 ·rintro e U q;rcases aj with h|⟨bf,an,ao,a,b,_,_⟩
  ·rw [h]at U;cases U
  ·rw [U]at a;injection a with a;injection a with a;have ap:=b9 b;rw [<-a,q,z]at ap;exact absurd ap (by refine(?_:¬(n+110<n+101));exact cx (bw t))
 refine λq P=>f9 ?_;rintro rfl;refine λaV aX aY W=>aH λX v=> ?_;have a1:=FC ah az n C.toks C.gens.size Y j A bp X (kO g u.params d n C.toks C.gens.size Y j A bp).p aA;have aq:aa g p p C P:=S.then W (λx v=> .inr (by rw [v,z];refine(?_:n+101<=n+110);exact bw t)) aF;have w:∀(b:Nat) O,b≠n+110->I B b O->I P b O:=λb O a2 e=>W.fr _ _ e (λq=>a2 q);have a3:∀y∈tx d n bp (n+11) (n+111) X (rn i),I P y.1 y.2:=a_ (aq.fr _ _ N.1 (λh=>h))<|a_ (w _ _ (bA 101 110 t) (k _ _ aO))<|a_ (w _ _ (bA 102 110 t) (k _ _ ci))<|a_ (w _ _ (bA 103 110 t) (k _ _ dK))<|a_ (w _ _ (bA 104 110 t) (k _ _ kI))<|a_ (w _ _ (bA 105 110 t) (k _ _ q6))<|a_ (w _ _ (bA 106 110 t) (k _ _ tb))<|a_ (w _ _ (bA 107 110 t) (k _ _ zA))<|a_ (w _ _ (bA 108 110 t) (k _ _ (.tail _ (.tail _ (.tail _ (.tail _ (.tail _ (.tail _ (.tail _ (.head _))))))))))<|a_ v dG;have a5:b6 g (tx d n bp (n+11) (n+111) X (rn i)) [0,1,2,3,4,5,6,7,8]:= .nodup (.cons (a_ (i5 t)<|a_ (i5 t)<|a_ (i5 t)<|a_ (i5 t)<|a_ (i5 t)<|a_ (i5 t)<|a_ (i5 t)<|a_ (i5 t)<|a_ (i5 t)<|dG) (pj n (ar:=[101,102,103,104,105,106,107,108,112]) (by decide))) (a_ (eo ax)<|a_ (eo (s _ (bw t)))<|a_ (eo (s _ (bw t)))<|a_ (eo (s _ (bw t)))<|a_ (eo (s _ (bw t)))<|a_ (eo (s _ (bw t)))<|a_ (eo (s _ (bw t)))<|a_ (eo (s _ (bw t)))<|a_ (eo (s _ (bw t)))<|dG);have a6:B.toks=C.toks:=by rw [F.bx];rfl
 have a7:B.gens.size=C.gens.size:=by refine r F.ct ?_;rfl
 refine mQ (l:=300) af W.K (n:=n+12) (by refine r aV ?_;rfl) (aX.trans a6) ((congrArg Array.size aY).trans a7) a3 a5 (aC:=[]) a0 am a1 ?_;intro L bg bi bj a8 a9 Z;refine r (e' a8) (r (cA a9) ?_);have a':=Z.xs;have ba:aa g (λx=>x=39\/n+101<=x) p P L:=(aa.mS (Z.grow t) (Z.grow t).dH).mono (λx v=> .inl (by
  exact(a_ (.inl t)<|a_ (.inr (bw t))<|a_ (.inr (bw t))<|a_ (.inr (bw t))<|a_ (.inr (bw t))<|a_ (.inr (bw t))<|a_ (.inr (bw t))<|a_ (.inr (bw t))<|a_ (.inr (bw t))<|dG:∀x∈[39,n+101,n+102,n+103,n+104,n+105,n+106,n+107,n+108],x=39\/n+101<=x) x v)) (λ_ h=> .inl h)
 have as:aa g (· =39) p C L:=aq.zero.then ba (λx v=>v.imp_right λh=>by rw [z];exact h) aF;have tail:∀y∈tC d n C.toks i,I L y.1 y.2:=λy Q=>a' _ _ (oV Q);have ab:lo<=n+101:=by rw [<-z];exact ay
 have ac:∀G c,h6 lo C.heap G c->h6 lo L.heap G c:=λG c M=>by
  refine aw M (bo λau bb=>aT ?_);rintro rfl;intro b e;exact bh au bb ⟨t,b,as.fr _ _ e (by
   intro q;have q: @Eq Nat (au+iD G) 39:=q;unfold iD at q;split at q<;>lia)⟩
 have av:fo d i=aN->h6 lo L.heap (c7 d) (n+iD (c7 d)):=λh=>bh n C.toks ⟨t,ab,tail (n+iD (c7 d),tw (c7 d) n C.toks) (by unfold tC;refine r h ?_;simp)⟩;refine ai.done (.ok (.ret _)) ⟨as,n+mW d (fo d i),tB d n i,t,dT n C.toks (wL d n i) ⟨aD 0 101 0 0 0 101 t ab (dq _ _),tail _ ci, ?_,λy Q=>⟨aS (V 0 101 0 102 t ab) (FD y Q),tail y (.tail _ (.tail _ (oT _ Q)))⟩⟩,⟨tail _ aO,λq o=> ?_⟩, ?_⟩
 ·unfold wL;cases h:fo d i with
  |true=>exact ac _ _ (N.2 _ (An h))
  |false=>exact av h
 ·unfold tB at o;cases h:fo d i with
  |true=>rw [h]at o;exact ac _ _ (N.2 q o)
  |false=>
   rw [h]at o;rcases is.mp o with o|o
   ·exact ac _ _ (N.2 q o)
   ·rw [bQ]at o;subst o;exact av h
 ·unfold tB;cases h:fo d i with
  |true=>rw [if_pos (Ao.mp h)]
  |false=>
   rw [if_neg (λq=>by rw [Ao.mpr q]at h;cases h),e8];rfl
end
end
open z_ Ae wK Ak
section
open PySem PySem.W
noncomputable def Aq:=0 where
 lN:Nat->List Nat
  |0=>[97]
  |1=>[97,97]
  |_=>[98,97,97]
 wM(a lo:Nat)(b:O):List Value:=
  [.str ⟨⟨lN lo⟩⟩ (a+7+lo),.str ⟨⟨[123,117,125]++lN lo⟩⟩ (a+16),.str ⟨⟨[123,117,117,125]++lN lo⟩⟩ (a+18),b]
 fZ(P:a1)(a b:cL)(c d:O):Obj:={cls:= .type "dict",data:= .dict ⟨[U P [114,111,111,116] a c,U P [116,97,103] b d]⟩ 2}
 ea(d:ae):Obj:={cls:= .ref 61,dict:=H d}
open Aq
section
variable(g:Nat->Option ab)(P:a1)(n o L:Nat)(j:List (aL×ap))(A:ap)(x:Int)(bp a iE:Nat)
noncomputable def Ar(lo q m:Nat)(a v:O):List cI:=
 [tp (x.fdiv 4) 3 (o+11) (o+12) (bq lo),tp (x.fdiv 4) 2 (o+21) (o+22) (bq q),e0 6 (n+107) [.none,.ref (n+106)] 0 q (o+23) a,tp x 4 bp (o+24) (bq m),e0 7 (n+108) (wM o lo a) 0 m (o+25) v]
noncomputable def tD(b:Nat)(c:List Nat)(lo q m:Nat)(d v:O):G:=
 c_ g P 300 n o L j [] [] (Ar n o x bp lo q m d v) b c (.call (.ref 72) ⟨[.int x bp,aj a iE],[]⟩) A
end
noncomputable def As:=0 where
 At:List Nat:=[0,0,0,1,1,0,1,1,3,0,1,0,0,0,0,0,0,0,0,0,0,0,0,0,0,0,0,0,0,0,0,0,0,0,0,0,0,0,0,0,0,3,0,3,0,0,0,0,0,0,0,0,4,4,0,4,4,3,4,4,3,0,0,0,0,3,0,3,0,3,0,0,0,3,0,0,2,2,2,0,1,1,1,0,1,5,5,5,0,5,5,0,0,1,1,1,1,0,1,0,1,0,2,7,7,7,3,0,1,4,8,8,8,5,0,1,3,0,0,0,0,3,0,3,0,3,0,0,0,3,0,0,2,2,2,1]
 Au(n:Nat)(a:c0)(b:cL):List (Nat×O×O):=[(239,.none,.str a b),(239,.ref (n+106),.str a b),(239,.none,.none),(240,.ref (n+106),.ref (n+106))]
 FE(g:Nat->Option ab)(P:a1):List Prop:=[
  ∀n a d j A x e b c m q f h,eM (λlo=>kF (λy=>bF [1,2,5] (tD g P n a d j A x e b c y.1 At lo q m y.2.1 y.2.2)) (Au n f h)) 3=eN (λlo=>kG (λy=>⟨.ret (.ref (n+103)),0,[H (n+102,fZ P (a+5) (a+27) (aj b c) y.2.2),H (n+103,ea (n+102)),H (n+106,ah [.str ⟨⟨[97]⟩⟩ (a+19)])],8,28,[],bG (tD g P n a d j A x e b c y.1 At lo q m y.2.1 y.2.2)⟩) (Au n f h)) 3]
 tE(g:Nat->Option ab)(P:a1):Prop:=AllP (FE g P)
open As
end
open Aq As
section
open PySem PySem.W PySem.Calls
noncomputable def Av:=0 where
 pB:Nat->List Nat
  |0=>[]
  |1=>[123,117,125]
  |_=>[123,117,117,125]
 gT(x:Int):Nat:=(x.fmod 4).toNat
 mX(x:Int):Nat:=((x.fdiv 4).fmod 3).toNat
 PR(x:Int):Nat:=((x.fdiv 4).fmod 2).toNat
 tF(x:Int):List Nat:=pB (gT x)++lN (mX x)
 wN(b:Nat)(h:aY)(x:Int)(v:O):Prop:=
  (gT x<3/\∃c,v= .str ⟨⟨tF x⟩⟩ c)\/(gT x=3/\(v= .none\/∃a c,v=E a/\b<=a+101/\h.get? (a+101)=H (ah [.str ⟨⟨[97]⟩⟩ c])))
open Av
structure FF(b:Nat)(P:a1)(h:aY)(a:ae)(x:Int)(mY d:Nat)(fN c e:cL)(v:O):Prop where
 bd:b<=d+101
 az:h.get? (a+101)=H (ea (d+101))
 d:h.get? (d+101)=H (fZ P fN c (aj mY e) v)
 t:wN b h x v
noncomputable def ro(b:Nat)(P:a1)(h:aY)(a:ae)(x:Int)(c:Nat):Prop:=∃d e f g v,FF b P h a x c d e f g v
theorem tG(w:Base g){C:ac}(K:aR g C){n:Nat}(l:C.heap.objs.size=n+101){j:List (aL×ap)}{A:ap}{x:Int}{f d e lo q m:Nat}{lO v:O}{o:Nat}{p:List Nat}
  (y:(x.fdiv 4).fmod 3=bq lo)(z:(x.fdiv 4).fmod 2=bq q)(B:x.fmod 4=bq m)(N:m<4)(P:q<2)
  (F:[fx,.ref (n+106)][q]? =H lO)(G:(wM C.toks lo lO)[m]? =H v)
  (c:bF [1,2,5] (tD g u.params n C.toks C.gens.size j A x f d e o p lo q m lO v)=⟨.ret (.ref (n+103)),0,[H (n+102,fZ u.params (C.toks+5) (C.toks+27) (aj d e) v),H (n+103,ea (n+102)),
   H (n+106,ah [.str ⟨⟨[97]⟩⟩ (C.toks+19)])],8,28,[],bG (tD g u.params n C.toks C.gens.size j A x f d e o p lo q m lO v)⟩)(I:∀h:aY,h.get? (n+106)=H (ah [.str ⟨⟨[97]⟩⟩ (C.toks+19)])->wN C.heap.objs.size h x v):
  ai u 300 J j (.call (.ref 72) ⟨[.int x f,aj d e],[]⟩) A (bI (.call (.ref 72) ⟨[.int x f,aj d e],[]⟩)) [] C
   (ei λs k=>em g [] C k/\k.gens=C.gens/\∃a,C.heap.objs.size<=a+101/\s= .ok (.ret (E a))/\ro C.heap.objs.size u.params k.heap a x d):=by
 refine mQ w K l t t (D:=[]) a0 b6.nil (aC:=Ar n C.toks x f lo q m lO v) ?_ rfl c ?_
 ·intro Q b;rcases b8.mp b with rfl|b
  ·exact wB (by decide) y
  rcases b8.mp b with rfl|b
  ·exact wB (by decide) z
  rcases b8.mp b with rfl|b
  ·exact iB (by lia) F
  rcases b8.mp b with rfl|b
  ·exact wB (by decide) B
  rw [bQ]at b;subst b;exact iB (by lia) G
 ·intro k s R ok L M i;refine r (e' L) (r (cA M) ?_);refine ai.done (.ok (.ret _)) ⟨i.rf t, ?_,n+2,by rw [l];exact cV 101 103 t,t,n+1,C.toks+5,C.toks+27,e,v,by rw [l];exact cV 101 102 t,i.xs _ _ ci,i.xs _ _ aO, ?_⟩
  ·rw [i.ct];rfl
  ·exact I _ (i.xs _ _ dK)
theorem Aw {a:Int}{k:Nat}(h:a=bq k):a.toNat=k:=by refine r h ?_;rfl
theorem FG(l:Base g)(F:tE g u.params){C:ac}(K:aR g C){x:Int}{w o z:Nat}:
  a4 u 300 J (.call (.ref 72) ⟨[.int x w,aj o z],[]⟩) C λp B=>em g [] C B/\B.gens=C.gens/\∃a,C.heap.objs.size<=a+101/\p= .ok (.ret (E a))/\ro C.heap.objs.size u.params B.heap a x o:=by
 refine a4.c1 λj A=> ?_;obtain ⟨n,d⟩:=K.size;have D:∀k:Int,0<k->∀y:Int,∃p:Nat,y.fmod k=bq p/\(p:Int)<k:=λk G y=>by
  have I:=oY y G;have P:=vH y G;exact⟨(y.fmod k).toNat,(sJ I).symm,by rw [sJ I];exact P⟩
 refine aw (D 3 (by decide) (x.fdiv 4)) (aH λlo=>an λe Q=> ?_);refine aw (D 2 (by decide) (x.fdiv 4)) (aH λq=>an λr R=> ?_);refine aw (D 4 (by decide) x) (aH λm=>an λf S=> ?_);have T:mX x=lo:=Aw e;have s:gT x=m:=Aw f;have i:m<4:=wj 4 S;have L:q<2:=wj 2 R;have M:lo<3:=wj 3 Q;have N:∀(h:aY) (b:cL),m<3->wN C.heap.objs.size h x (.str ⟨⟨pB m++lN lo⟩⟩ b):=λh b U=> .inl ⟨aD 0 0 1 3 1 3 t (aB s) U,b,by rw [tF,T,s]⟩
 by_cases v:m<3
 ·obtain ⟨b,O⟩:∃b,∀W,(wM C.toks lo W)[m]? =H (.str ⟨⟨pB m++lN lo⟩⟩ b):=by
   refine wh v ?_ ?_ ?_<;>exact⟨_,λ_=>t⟩
  have c:=λq y=>mK (x:=y) (d0 (F 0 n C.toks C.gens.size j A x w o z m q ⟨⟨pB m++lN lo⟩⟩ b) M);rcases q with _|_|q
  ·exact tG l K d e r f i (by decide) (lO:= .none) t (O _) (c 0 _ aO) (λh _=>N h b v)
  ·exact tG l K d e r f i (by decide) (lO:=(.ref (n+106))) t (O _) (c 1 _ ci) (λh _=>N h b v)
  ·exact a2 3 2 t (aq 3 2 0 0 L (be _))
 ·have X:m=3:=dF (V 1 4 0 3 t i) ((eJ v));subst X;have c:=λq y=>mK (x:=y) (d0 (F 0 n C.toks C.gens.size j A x w o z 3 q ⟨⟨[]⟩⟩ 0) M);rcases q with _|_|q
  ·exact tG l K d e r f i (by decide) (lO:= .none) t t (c 0 _ dK) (λ_ _=> .inr ⟨s,.inl t⟩)
  ·exact tG l K d e r f i (by decide) (lO:=(.ref (n+106))) t t (c 1 _ kI) (λh Y=> .inr ⟨s,.inr (bh (n+5) _ ⟨t,by rw [d];exact cV 101 106 t,Y⟩)⟩)
  ·exact a2 3 2 t (aq 3 2 0 0 L (be _))
variable(g:Nat->Option ab)(P:a1)
structure wO where
 b_:Nat
 T0:Nat
 rp:Nat
 FH:Nat
noncomputable def Ax:=0 where
 PS:List dM->aL
  | [.fresh c]=>c
  |_=>default
 wP:Value:= .type PySem.W.SL.s658472552662922059x5
 dd(a:Nat)(b c:cL):Obj:={cls:= .type "generator",data:= .fields ⟨[aj a 0,.str ⟨⟨i3⟩⟩ b,.str ⟨⟨v8⟩⟩ c]⟩}
 cF(P:a1)(b c:cL)(ay:O)(a:List gp):Obj:={cls:=wP,data:= .dict ⟨U P [99,111,110,116,101,120,116] b .none::U P [114,101,115,117,108,116] c ay::a⟩ (2+a.length)}
 rq(d:Nat)(X:wO)(a:Nat):List (ae×ab):=[(a+101,rm d X.b_ (.ref (X.rp+iD (c7 d)))),(X.rp+iD (c7 d),tw (c7 d) X.rp X.FH)]
open Ax
section
variable(d k:Nat)(X:wO)(b_ a c n T L ay b h o:Nat)(A:ap)(s i:Nat)(j:List (aL×ap))(m p:Nat)(aA:List O)(e:Nat)
noncomputable def wQ:=0 where
 Ay:G:=c_ g P 200 n o L j (rq d X a) [] [] 16 [1,2,0,3,3,0,3,3,3] (.call (E a) ⟨[.none,E ay],[]⟩) A
 gU(k b_ n a c:Nat):Env:={scope:=(rl k).2,locals:=n+101,globals:=3,cells:=Ag k b_,qual:=⟨⟨[95,112,114,101,112,97,114,101,95,116,97,103,46,60,108,111,99,97,108,115,62,46,115,101,108,101,99,116,46,60,108,111,99,97,108,115,62,46]⟩⟩,func:=H (a+101),code:= .ref c,frame:=H (n+101),builtins:=0}
 fz(k b_ n a c:Nat):Code:= .func (rl k).1 (gU k b_ n a c)
 pC:G:=c_ g P 350 s o L j [(ay+101,ah aA e),(n+101,cF P b h (E ay) [])] [] [] 15 [2,1,1,1,1,3] (fz k b_ n a c) A
 rr:G:=c_ g P 350 s o L j [(ay+101,dd i m p),(n+101,cF P b h (E ay) [])] [] [] 14 [2,1,1,1,1,1] (fz k b_ n a c) A
open wQ
noncomputable def wR:=0 where
 au(k b_ a c n T:Nat):G:=pC g P k b_ a c n 0 0 0 0 0 default T [] [] 0
 ct(k b_ a c n T:Nat)(A:ap)(s o L:Nat)(j:List (aL×ap))(b i:Nat):G:=run (cB g P 350 s o L J j [(T+101,b2 b i)] [] []) 2 [1] ((au k b_ a c n T).c) (A) ((bI (au k b_ a c n T).c)) ((au k b_ a c n T).aU)
 n7:G:=run (cB g P 350 s o L J j [(T+101,dd i m p)] [] []) 2 [1] ((au k b_ a c n T).c) (A) ((bI (au k b_ a c n T).c)) ((au k b_ a c n T).aU)
 f:G:=ct k b_ a c n T A 0 0 0 [] 0 0
open wR
end
open wQ wR
noncomputable def Az:=0 where
 pD(a b:Nat):List Value:=[(.str ⟨⟨[97]⟩⟩ a),(.str ⟨⟨[97,97]⟩⟩ a),(.str ⟨⟨[98,97,97]⟩⟩ a),(.str ⟨⟨[123,117,125,97]⟩⟩ a),(.str ⟨⟨[123,117,125,97,97]⟩⟩ a),(.str ⟨⟨[123,117,125,98,97,97]⟩⟩ a),(.str ⟨⟨[123,117,117,125,97]⟩⟩ a),(.str ⟨⟨[123,117,117,125,97,97]⟩⟩ a),(.str ⟨⟨[123,117,117,125,98,97,97]⟩⟩ a),.none,E b]
 rs(b c:Nat)(a:ae×ab):List (ae×ab):=[a,a,a,a,a,a,a,a,a,a,(c+101,ah [.str ⟨⟨[97]⟩⟩ b])]
 gt(P:a1)(d:Nat)(a c:cL)(b e:O):List DictEntry:=match d with
  |0=>[U P qT a b]
  |_=>[U P qT a b,U P [101,108,95,116,97,103] c e]
 x(a:List Nat):List Nat:=[0,1,1,1,2,0,0,0,2,0,0,0,2,2,0,3,0,1,1]++a
 FI:List (Nat×List Nat×Nat×Bool):=[(43,[0,1,1,5,1,2,0,0,0,2,0,0,0,2,2,0,3,6,1],2,ag),(48,[0,1,1,5,1,2,0,0,0,2,0,0,0,2,2,0,3,6],3,aN),(55,[0,1,1,5,1,2,0,0,0,2,0,0,0,2,2,0,3,6,4,4,4,4,4,4,4],3,aN),(67,x [5,1,6,1,1,1],6,ag),(63,x [5,1,6,1,1],6,aN),(58,x [5,1,6],4,aN),(65,x [5,1,6,4,4,4,4,4,4,4],4,aN),(69,x [5,1,6,1,8,9,9,9,9,7,1],3,aN),(73,x [5,1,6,1,8,9,9,9,9,7,1,1],4,ag),(69,x [5,1,6,1,8,9,9,9,9,7,1],4,aN),(48,x [1,7,1,1],3,ag),(78,x [1,7,1,5,1,6,1,8,10,10,10,10,9,1],3,aN),(78,x [1,7,1,5,1,6,1,8,10,10,10,10,9,1],4,aN),(82,x [1,7,1,5,1,6,1,8,10,10,10,10,9,1,1],4,ag),(73,x [1,7,1,1,5,1,6],4,aN),(85,x [1,7,1,4,4,1,4,1,4,5,1,6,4,4,4,4,4,4,4],4,aN)]
 lP(d:Nat):List (Nat×List Nat×Nat×Bool):=(match d with
  |0=>[0,0,0,0,0,0,0,0,0,1,2]
  |1=>[3,3,3,4,4,4,4,4,4,5,6]
  |2=>[7,7,7,8,8,8,9,9,9,5,6]
  |3=>[7,7,7,7,9,9,8,8,8,5,6]
  |4=>[10,11,12,13,12,12,13,12,12,14,15]
  |_=>[11,10,11,12,13,12,12,13,12,14,15]).map λi=>FI.getD i (0,[],0,ag)
 ds(d b k a c n e:Nat)(A:ap)(l m o:Nat)(j:List (aL×ap))(p q h i r s:Nat)(ay t:O)(u:Nat)(v:List Nat)(w:List gp)(x:O)(y:ae×ab):G:=
  bJ g P 500 l m o j ((n+101,cF P p q ay w)::(h+101,ea (i+101))::(i+101,fZ P r s t x)::y::fP b k d) [0] [] u v (f g P (cN d) b a c n e A) ((f g P (cN d) b a c n e A).p) (.ok (.ret (E h)))
 tH(y:Bool)(a:G):fl×aI b0×List Frame:=(bF [0] a,(match y with|true=>wr a.t (.send .none)|false=>a.t),a.aU)
 tI(y:Bool)(b a:G)(c d:Nat)(e:ae×ab):fl×aI b0×List Frame:=
  (⟨match y with|true=> .yield (E c) aN|false=> .again a.c,1,[H e],0,d,[],bG b⟩,.pure (.again a.c),a.aU)
open Az
variable(g:Nat->Option ab)(P:a1)
section
variable(f W n X T:Nat)(Z:List (aL×ap))(d:Nat)(aa:ap)(aM a b da s o L:Nat)(j:List (aL×ap))(A:ap)(p e k i:Nat)(aA:List O)(m f0 t:Nat)(r q:O)(dX:Nat)(d4:g')(fY:Nat)(v:O)(z:Nat)(x:O)(ar F:Nat)(y:O)(I cR K N Q R S V:Nat)
noncomputable def jf:G:=c_ g P 200 n o L j [(74,co ⟨[]⟩)] [0] [] 46 [0,0,3,3,3,0,1,1,1,1,0,0,0,0,2,2,2] (.call (.ref 79) ⟨[E da],[]⟩) A
noncomputable def jZ:List cb×Scope:=fnOf ((fnOf (jd 10)).1.take 1)
noncomputable def wS:=0 where
 n8(f o L:Nat)(j:List (aL×ap))(A:ap)(da:Nat):List (ae×ab):=
  [(f+110,gc (jf g P f da o L j A).D 10),(f+109,gc (jf g P f da o L j A).D 9),(f+102,a' (E da))]
 et(f n:Nat):Env:={scope:=jZ.2,locals:=n+101,globals:=3,cells:=[(⟨⟨fW⟩⟩,f+102)],qual:=⟨⟨[95,108,97,119,95,99,111,109,112,97,114,101,46,60,108,111,99,97,108,115,62,46,99,111,109,112,97,114,101,46,60,108,111,99,97,108,115,62,46]⟩⟩,func:=H (f+110),code:= .ref (f+109),frame:=H (n+101),builtins:=0}
 eb(f n T:Nat):Code:= .forLoop (d' jZ.1).1 (E T) (d' jZ.1).2.1 (d' jZ.1).2.2 (et f n)
 e2(P:a1)(d aM:cL)(a b:O)(c:List gp):Obj:={cls:=wP,data:= .dict ⟨U P [97] d a::U P [98] aM b::c⟩ (2+c.length)}
 gd(P:a1)(k m:cL)(q r:O):List DictEntry:=[U P i3 k q,U P [112,97,115,115,101,100] m r]
 pE:G:=c_ g P 200 n o L j (n8 f W X Z aa da++[(da+101,ah aA e)]) [] [] 27 [1,2,0,5,5,0,5,5,3,3,4,4,1,4,6] (.call (.ref (f+110)) ⟨[E a,E b],[]⟩) A
 FJ:G:=bJ g P 200 f0 dX fY j [] [] [] 2 [] pE (pE.p) (.ok .next)
 FK:G:=bJ g P 200 f0 dX fY j [] [] [] 0 [] pE (pE.p) (.ok (.ret v))
 FL(e:Expr):Expr×Expr×Expr:=(dm e 0,dm e 1,dm e 2)
 d5(e:Expr):Expr×Expr:=(dm e 0,dm e 1)
 de(d4:g'):Obj:={cls:= .type "function",data:= .func d4,slots:=#[]}
 jg:List Stmt:=(d' jZ.1).2.1
 lQ:Expr:=(d' jZ.1).1
 fA:Expr×List cb×List Stmt:=d' (jg.drop 1)
 kP:Expr×Expr×Expr:=FL (d_ fA.2.1 0)
 FM:G:=h g P 230 s o L j [(T+101,b2 (da+101) i),(da+101,ah aA e)] [0] [hB 0 1 (T+101) (da+101) i aA e v] 2 [1,1] (eb f n T) A (gR (n5 (E T)))
 FN:G:=h g P 230 s o L j [(T+101,b2 (da+101) i),(da+101,ah aA e)] [0] [hC 0 1 (T+101) (da+101) i aA e] 3 [1,1,4] (eb f n T) A (gR (n5 (E T)))
 FO:G:=h g P 230 s o L j [] [] [] 0 [] (eb f n T) A (cf (wF lQ (E T) (E p)))
 FP:G:=h g P 230 s o L j [(n+101,e2 P d aM (E a) (E b) [])] [0] [] 7 [0,1,1] (eb f n T) A (cf (cm lQ (et f n) (E p)))
 FQ:G:=h g P 230 s o L j [(n+101,e2 P d aM (E a) (E b) (gd P k m q r))] [0] [] 7 [0,1,1] (eb f n T) A (cf (cm lQ (et f n) (E p)))
 tJ:G:=h g P 230 s o L j [(n+101,e2 P d aM (E a) (E b) [U P i3 k (E p)]),(p+101,de d4)] [0] [] 14 [0,0,1,1,1,2] (eb f n T) A (cM (b7 (jg.take 1) (et f n)))
 tK:G:=h g P 230 s o L j [(n+101,e2 P d aM (E a) (E b) (gd P k m (E p) r)),(p+101,de d4)] [0] [] 14 [0,0,1,1,1,2] (eb f n T) A (cM (b7 (jg.take 1) (et f n)))
 tL:G:=bJ g P 230 z F I j [(cR+101,dd K N Q)] [] [] 2 [] tJ (tJ.p) (.ok (.ret (E cR)))
 tM:G:=bJ g P 230 z F I j [(cR+101,dd K N Q)] [] [] 2 [] tK (tK.p) (.ok (.ret (E cR)))
 FR:G:=bJ g P 230 R S V j [(n+101,e2 P d aM (E a) (E b) [U P i3 k (E p)])] [0] [] 8 [0,1,1] tL (tL.p) (.ok (.ret (E ar)))
 FS:G:=bJ g P 230 R S V j [(n+101,e2 P d aM (E a) (E b) (gd P k m (E p) r))] [0] [] 8 [0,1,1] tM (tM.p) (.ok (.ret (E ar)))
 FT:G:=h g P 230 s o L j [(n+101,e2 P d aM (E a) (E b) (gd P k m q (E ar))),(ar+101,ah [] t)] [] [] 25 [0,0,1,2,2,2,1] (eb f n T) A (jU (ri fA.1 (et f n) (bT fA.1 (et f n))))
 FU:G:=h g P 230 s o L j [(n+101,e2 P d aM (E a) (E b) (gd P k m q (E ar))),(ar+101,ah [x] t)] [] [] 25 [0,0,1,2,2,2,1] (eb f n T) A (jU (ri fA.1 (et f n) (bT fA.1 (et f n))))
 FV:G:=h g P 230 s o L j [(n+101,e2 P d aM (E a) (E b) (gd P k m q (E ar))),(ar+101,ah [x,y] t)] [] [] 25 [0,0,1,2,2,2,1] (eb f n T) A (jU (ri fA.1 (et f n) (bT fA.1 (et f n))))
 FW:G:=h g P 230 s o L j [(n+101,e2 P d aM (E a) (E b) (gd P k m q (E ar))),(ar+101,ah [x] t)] [] [] 12 [1,2,2,2,2,2] (eb f n T) A (bN (bT (d5 kP.1).1 (et f n)))
 FX:G:=h g P 230 s o L j [(n+101,e2 P d aM (E a) (E b) (gd P k m q (E ar)))] [] [] 2 [1] (eb f n T) A (bN (bT (d5 kP.1).2 (et f n)))
 FY:G:=c_ g P 230 s o L j [] [] [] 0 [] (.block (d' jZ.1).2.2 (et f n)) A
 FZ:G:=h g P 230 s o L j [] [] [] 6 [] (eb f n T) A (bN (bT kP.2.1 (et f n)))
 F0:G:=h g P 230 s o L j [] [] [] 1 [] (eb f n T) A (bN (bT kP.2.2 (et f n)))
open wS
end
open wS
noncomputable def AA:=0 where
 fdOf(a:ab):FuncData:=match a.data with| .func f=>f|_=>default
 F1(g:Nat->Option ab)(P:a1):List Prop:=[
  ∀r n c h j A,ok [0,2,9,10] (jf g P n r c h j A) (.ret (.ref (n+110))) 0 [H (74,co ⟨[.int 93 0,.int 4 0,.ref (n+109)]⟩),H (n+102,a' (E r)),H (n+109,gc (jf g P n r c h j A).D 9),H (n+110,gc (jf g P n r c h j A).D 10)] 10 11 [],
  ∀f N Q R S r a b n c h e z j A,b3 [3,4,5] (pE g P f N n Q R S a b r c h j A e z) J J 5 (.call (eb f n (n+1)) J) 0 [H (r+101,ah z e),H (n+101,e2 P c (c+1) (E a) (E b) []),H (n+102,b2 (r+101) 0)] 2 2 [] J,
  ∀f N Q R S r a b n c h e z j A W T X,ok [] (FJ g P f N n Q R S a b r c h j A e z W T X) (.ret (.int 0 T)) 0 [] 0 1 [],
  ∀f N Q R S r a b n c h e z j A W T X v,ok [] (FK g P f N n Q R S a b r c h j A e z W T X v) (.ret v) 0 [] 0 0 [],
  ∀f n l (m:Nat) (aM:Nat) (a:Nat) (b:Nat) k c h j A r i e z v,ok [0] (FM g P f n l r k c h j A e i z v) (.ret v) 0 [H (l+101,b2 (r+101) (i+1))] 0 0 [],
  ∀f n l (m:Nat) (aM:Nat) (a:Nat) (b:Nat) k c h j A r i e z,ok [] (FN g P f n l r k c h j A e i z) (.next) 0 [] 2 0 [],
  ∀f n l (m:Nat) (aM:Nat) (a:Nat) (b:Nat) k c h j A p,ok [] (FO g P f n l k c h j A p) (.next) 0 [] 0 0 [],
  ∀f n l m aM a b k c h j A p,ok [0] (FP g P f n l m aM a b k c h j A p) (.next) 0 [H (n+101,e2 P m aM (E a) (E b) [U P i3 c (E p)])] 0 1 [],
  ∀f n l m aM a b k c h j A p o q u t,ok [0] (FQ g P f n l m aM a b k c h j A p o q t u) (.next) 0 [H (n+101,e2 P m aM (E a) (E b) (gd P o q (E p) t))] 0 1 [],
  ∀f n l m aM a b k c h j A p o (q:Nat) (t:O) w,b3 [0,2] (tJ g P f n l m aM a b k c h j A p o w) J J 5 (.call (.call (E p) ⟨[.none,E k],[]⟩) J) 0 [H (n+101,e2 P m aM (E a) (E b) [U P i3 o (E p)]),H (k+101,ah [E a,E b])] 1 0 [] J,
  ∀f n l m aM a b k c h j A p o (q:Nat) (t:O) w F G I B K L M,b3 [] (tL g P f n l m aM a b k c h j A p o w F G I B K L M) J J 5 (.call (.call (.type "list") ⟨[E B],[]⟩) J) 0 [] 0 0 [] J,
  ∀f n l m aM a b k c h j A p o (q:Nat) (t:O) w F G I B K L M Y V Z s,ok [0] (FR g P f n l m aM a b k c h j A p o w F s G I B K L M Y V Z) (.next) 0 [H (n+101,e2 P m aM (E a) (E b) (gd P o V (E p) (E s)))] 0 1 [],
  ∀f n l m aM a b k c h j A p o q t w,b3 [0,2] (tK g P f n l m aM a b k c h j A p o q t w) J J 5 (.call (.call (E p) ⟨[.none,E k],[]⟩) J) 0 [H (n+101,e2 P m aM (E a) (E b) (gd P o q (E p) t)),H (k+101,ah [E a,E b])] 1 0 [] J,
  ∀f n l m aM a b k c h j A p o q t w F G I B K L M,b3 [] (tM g P f n l m aM a b k c h j A p o q t w F G I B K L M) J J 5 (.call (.call (.type "list") ⟨[E B],[]⟩) J) 0 [] 0 0 [] J,
  ∀f n l m aM a b k c h j A p o q t w F G I B K L M Y V Z s,ok [0] (FS g P f n l m aM a b k c h j A p o q t w F s G I B K L M Y V Z) (.next) 0 [H (n+101,e2 P m aM (E a) (E b) (gd P o q (E p) (E s)))] 0 1 [],
  ∀f n l m aM a b k c h j A o q s C u,ok [] (FT g P f n l m aM a b k c h j A o q C u s) (.ret (.bool aN)) 0 [] 0 3 [],
  ∀f n l m aM a b k c h j A o q s C u x,ok [] (FU g P f n l m aM a b k c h j A o q C u x s) (.ret (.bool ag)) 0 [] 0 3 [],
  ∀f n l m aM a b k c h j A o q s C u x y,ok [] (FV g P f n l m aM a b k c h j A o q C u x s y) (.ret (.bool aN)) 0 [] 0 3 [],
  ∀f n l m aM a b k c h j A o q s C u x,ok [] (FW g P f n l m aM a b k c h j A o q C u x s) (.ret x) 0 [] 0 1 [],
  ∀f n l m aM a b k c h j A o q s (C:Nat) u,ok [] (FX g P f n l m aM a b k c h j A o q u s) (.ret (E a)) 0 [] 0 0 [],
  ∀f n (l:Nat) (m:Nat) (aM:Nat) (a:Nat) (b:Nat) k c h j A,ok [] (FY g P f n k c h j A) (.next) 0 [] 0 0 [],
  ∀f n l (m:Nat) (aM:Nat) (a:Nat) (b:Nat) k c h j A,ok [] (FZ g P f n l k c h j A) (.ret (.int (-7) (c+1))) 0 [] 0 2 [],
  ∀f n l (m:Nat) (aM:Nat) (a:Nat) (b:Nat) k c h j A,ok [] (F0 g P f n l k c h j A) (.ret (.int 5 c)) 0 [] 0 1 [],
  ∀d n v,rm d n v=de (fdOf (rm d n v))]
 fB(g:Nat->Option ab)(P:a1):Prop:=AllP (F1 g P)
open AA
variable(g:Nat->Option ab)(P:a1)
section
variable(n s o L:Nat)(j:List (aL×ap))(A:ap)(bp:Nat)
noncomputable def wT:=0 where
 F2:G:=c_ g P 300 n o L j [] [] [] 13 [0,0,2,2,3] (gS 6 bp) A
 F3:G:=c_ g P 300 n o L j [] [] [] 13 [0,0,2,2,3] (gS 7 bp) A
 mZ:List cb×Scope:=fnOf (jd 6)
 lR(n:Nat):Env:={scope:=mZ.2,locals:=n+101,globals:=3,cells:=[(⟨⟨[115,117,102,102,105,120]⟩⟩,n+108),(⟨⟨v7⟩⟩,n+107),(⟨⟨[110,115]⟩⟩,n+106),(⟨⟨[110,111,95,110,115]⟩⟩,n+105),(⟨⟨pd⟩⟩,n+104),(⟨⟨pe⟩⟩,n+103),(⟨⟨[116,97,103]⟩⟩,n+102)],qual:=⟨⟨[95,112,114,101,112,97,114,101,95,116,97,103,46,60,108,111,99,97,108,115,62,46]⟩⟩,func:=H 44,code:= .ref 43,frame:=H (n+101),builtins:=0}
 kQ(n:Nat):Code:= .func mZ.1 (lR n)
 m0:String:="fstring-hands-on-the-str"
 AB:G:=h g (gN P m0 ag) 300 s o L j [(n+101,{cls:= .type "frame",data:= .dict ⟨[]⟩ 0}),(n+102,{cls:= .type "cell",data:= .cell (H (.str ⟨⟨eQ 6⟩⟩ bp))}),(n+103,a),(n+104,a),(n+105,a),(n+106,a),(n+107,a),(n+108,a)] [0,1,2,3,4,5,6,7] [] 170 [0,0,0,0,9,9,9,1,9,10,10,10,10,10,9,10,10,10,10,10,10,9,10,10,10,10,10,10,9,10,10,12,3,3,4,4,2,1,2,1,2,13,13,13,13,1,2,14,14,14,14,1,0,0,2,0,0,16,16,16,16,16,16,16,16,16,16,16,16] (kQ n) A (cM (b7 mZ.1 (lR n)))
 AC:G:=h g (gN P m0 aN) 300 s o L j [(n+101,{cls:= .type "frame",data:= .dict ⟨[]⟩ 0}),(n+102,{cls:= .type "cell",data:= .cell (H (.str ⟨⟨eQ 6⟩⟩ bp))}),(n+103,a),(n+104,a),(n+105,a),(n+106,a),(n+107,a),(n+108,a)] [0,1,2,3,4,5,6,7] [] 169 [0,0,0,0,9,9,9,1,9,10,10,10,10,10,9,10,10,10,10,10,10,9,10,10,10,10,10,10,9,10,10,12,3,3,4,4,2,1,2,1,2,13,13,13,13,1,2,14,14,14,14,1,0,0,2,0,0,16,16,16,16,16,16,16,16,16,16,16,16] (kQ n) A (cM (b7 mZ.1 (lR n)))
 AD:G:=h g (gN P m0 ag) 300 s o L j [(n+101,{cls:= .type "frame",data:= .dict ⟨[]⟩ 0}),(n+102,{cls:= .type "cell",data:= .cell (H (.str ⟨⟨eQ 7⟩⟩ bp))}),(n+103,a),(n+104,a),(n+105,a),(n+106,a),(n+107,a),(n+108,a)] [0,1,2,3,4,5,6,7] [] 170 [0,0,0,0,9,9,9,1,9,10,10,10,10,10,9,10,10,10,10,10,10,9,10,10,10,10,10,10,9,10,10,12,3,3,4,4,2,1,2,1,2,13,13,13,13,1,2,14,14,14,14,1,0,0,2,0,0,16,16,16,16,16,16,16,16,16,16,16,16] (kQ n) A (cM (b7 mZ.1 (lR n)))
 AE:G:=h g (gN P m0 aN) 300 s o L j [(n+101,{cls:= .type "frame",data:= .dict ⟨[]⟩ 0}),(n+102,{cls:= .type "cell",data:= .cell (H (.str ⟨⟨eQ 7⟩⟩ bp))}),(n+103,a),(n+104,a),(n+105,a),(n+106,a),(n+107,a),(n+108,a)] [0,1,2,3,4,5,6,7] [] 169 [0,0,0,0,9,9,9,1,9,10,10,10,10,10,9,10,10,10,10,10,10,9,10,10,10,10,10,10,9,10,10,12,3,3,4,4,2,1,2,1,2,13,13,13,13,1,2,14,14,14,14,1,0,0,2,0,0,16,16,16,16,16,16,16,16,16,16,16,16] (kQ n) A (cM (b7 mZ.1 (lR n)))
open wT
end
open wT
noncomputable def AF:=0 where
 dz(d:Nat):Str:=⟨⟨[105,110,116,101,114,110,97,108,32,112,97,114,115,101,114,32,101,114,114,111,114,44,32,103,111,116,32]++eQ d⟩⟩
 n9(M:Nat):Obj:={cls:= .type "RuntimeError",data:= .fields ⟨[.ref M,.none,.none,.none,.bool aN,.none]⟩}
 fQ(a:List O):Obj:={cls:= .type "tuple",data:= .seq ⟨a⟩ 0}
 F4(g:Nat->Option ab)(P:a1):List Prop:=[
  ∀n c e j A d,ok [0,1,2,3,4,5,6,7] (F2 g P n c e j A d) (.again (kQ n)) 0 (([(n+101,{cls:= .type "frame",data:= .dict ⟨[]⟩ 0}),(n+102,{cls:= .type "cell",data:= .cell (H (.str ⟨⟨eQ 6⟩⟩ d))}),(n+103,a),(n+104,a),(n+105,a),(n+106,a),(n+107,a),(n+108,a)]).map H) 8 0 [],
  ∀n b c e j A d,ok [0,15,16] (AB g P n b c e j A d) (.err (.ref (b+108))) 0 [H (n+101,{cls:= .type "frame",data:= .dict ⟨[]⟩ 0}),H (b+108,n9 (b+109)),H (b+109,fQ [.str (dz 6) (c+9)])] 9 10 [],
  ∀n b c e j A d,ok [0,15,16] (AC g P n b c e j A d) (.err (.ref (b+108))) 0 [H (n+101,{cls:= .type "frame",data:= .dict ⟨[]⟩ 0}),H (b+108,n9 (b+109)),H (b+109,fQ [.str (dz 6) (c+8)])] 9 9 [],
  ∀n c e j A d,ok [0,1,2,3,4,5,6,7] (F3 g P n c e j A d) (.again (kQ n)) 0 (([(n+101,{cls:= .type "frame",data:= .dict ⟨[]⟩ 0}),(n+102,{cls:= .type "cell",data:= .cell (H (.str ⟨⟨eQ 7⟩⟩ d))}),(n+103,a),(n+104,a),(n+105,a),(n+106,a),(n+107,a),(n+108,a)]).map H) 8 0 [],
  ∀n b c e j A d,ok [0,15,16] (AD g P n b c e j A d) (.err (.ref (b+108))) 0 [H (n+101,{cls:= .type "frame",data:= .dict ⟨[]⟩ 0}),H (b+108,n9 (b+109)),H (b+109,fQ [.str (dz 7) (c+11)])] 9 12 [],
  ∀n b c e j A d,ok [0,15,16] (AE g P n b c e j A d) (.err (.ref (b+108))) 0 [H (n+101,{cls:= .type "frame",data:= .dict ⟨[]⟩ 0}),H (b+108,n9 (b+109)),H (b+109,fQ [.str (dz 7) (c+10)])] 9 11 []]
 m1(g:Nat->Option ab)(P:a1):Prop:=AllP (F4 g P)
 pF(y:G):aL×aI b0×List Frame:=G.rec (motive:=λ_=>aL×aI b0×List dc) (λ_ c _ M w _ _ _ _ _=>(c,M,w)) y
 pG(y:G):aL×aI b0×List Frame:=G.rec (motive:=λ_=>aL×aI b0×List dc) (λ_ c _ M w _ _ _ _ _=>(c,M,w)) y
open AF
theorem rt {y z:G}(h:pF y=pG z):y.c=z.c/\y.t=z.t/\y.aU=z.aU:=by
 cases y;cases z;injection h with b a;injection a with a c;exact⟨b,a,c⟩
structure tN {f:Type}(W:aI f->aI b0)(e:Bool->Bool)(b:List O->List O):Prop where
 unsupported:∀x,W (.unsupported x)= .unsupported x
 finish:∀x,W (.finish x)= .finish x
 rule:∀M k,W (.rule M k)= .rule M λx=>W (k x)
 at_:∀A k,W (.at A k)= .at A λx=>W (k x)
 load:∀a A k,W (.load a A k)= .load a A λx=>W (k x)
 update:∀a A cs k,W (.update a A cs k)= .update a A cs λx=>W (k x)
 alloc:∀az k,W (.alloc az k)= .alloc az λx=>W (k x)
 register:∀a k,W (.register a k)= .register a λx=>W (k x)
 loadIfAlive:∀a k,W (.loadIfAlive a k)= .loadIfAlive a λx=>W (k x)
 point:∀ar k,W (.point ar k)= .point (b ar) λx=>W (k x)
 fresh:∀k,W (.fresh k)= .fresh λx=>W (k x)
 ask:∀k,W (.ask k)= .ask λx=>W (k x)
 choose:∀C n k,W (.choose C n k)= .choose C n λx=>W (k x)
 os:∀q ar k,W (.os q ar k)= .os q (b ar) λx=>W (k x)
 call:∀c m cs ar k,W (.call c m cs ar k)= .call c m (e cs) (b ar) λx=>W (k x)
 handled:∀az k,W (.handled az k)= .handled az λx=>W (k x)
 genState:∀cs k,W (.genState cs k)= .genState cs λx=>W (k x)
 newGen:∀c k,W (.newGen c k)= .newGen c λx=>W (k x)
 resume:∀cs a3 ar k,W (.resume cs a3 ar k)= .resume cs a3 (b ar) λx=>W (k x)
 yield:∀v cs ar k,W (.yield v cs ar k)= .yield v (e cs) (b ar) λx=>W (k x)
 stack:∀k,W (.stack k)= .stack λx=>W (k x)
 fork:∀c k,W (.fork c k)= .fork c λx=>W (k x)
 thread:∀k,W (.thread k)= .thread λx=>W (k x)
 await:∀a M d ar k,W (.await a M d ar k)= .await a M d (b ar) λx=>W (k x)
noncomputable def F5 {b:Type}(W:aI b->aI b0):Bool->Bool:=λa=>match W (.call default J a [] λ_=> .raise .none)with
 | .call _ _ c _ _=>c
 |_=>a
noncomputable def F6 {b:Type}(W:aI b->aI b0):List O->List Value:=λa=>match W (.point a λ_=> .raise .none)with
 | .point c _=>c
 |_=>a
theorem tN.wrap {j:Type}{W:aI j->aI b0}{l o}(f:tN W l o):∀m:aI j,W m=m.wrap (λa=>W (.pure a)) (λe=>W (.raise e)) l o:=by
 intro m;induction m with
 |pure a=>rfl
 |raise e=>rfl
 |unsupported x=>exact f.unsupported x
 |finish x=>exact f.finish x
 |rule M k b=>exact(f.rule M k).trans (congrArg _ (funext b))
 |«at» A k b=>exact(f.at_ A k).trans (congrArg _ (funext b))
 |load a A k b=>exact(f.load a A k).trans (congrArg _ (funext b))
 |update a A h k b=>exact(f.update a A h k).trans (congrArg _ (funext b))
 |alloc i k b=>exact(f.alloc i k).trans (congrArg _ (funext b))
 |register a k b=>exact(f.register a k).trans (congrArg _ (funext b))
 |loadIfAlive a k b=>exact(f.loadIfAlive a k).trans (congrArg _ (funext b))
 |point g k b=>exact(f.point g k).trans (congrArg _ (funext b))
 |fresh k b=>exact(f.fresh k).trans (congrArg _ (funext b))
 |ask k b=>exact(f.ask k).trans (congrArg _ (funext b))
 |choose C n k b=>exact(f.choose C n k).trans (congrArg _ (funext b))
 |os q g k b=>exact(f.os q g k).trans (congrArg _ (funext b))
 |call c m h g k b=>exact(f.call c m h g k).trans (congrArg _ (funext b))
 |handled i k b=>exact(f.handled i k).trans (congrArg _ (funext b))
 |genState h k b=>exact(f.genState h k).trans (congrArg _ (funext b))
 |newGen c k b=>exact(f.newGen c k).trans (congrArg _ (funext b))
 |resume h p g k b=>exact(f.resume h p g k).trans (congrArg _ (funext b))
 |yield v h g k b=>exact(f.yield v h g k).trans (congrArg _ (funext b))
 |stack k b=>exact(f.stack k).trans (congrArg _ (funext b))
 |fork c k b=>exact(f.fork c k).trans (congrArg _ (funext b))
 |thread k b=>exact(f.thread k).trans (congrArg _ (funext b))
 |await a M d g k b=>exact(f.await a M d g k).trans (congrArg _ (funext b))
section
variable {b:Type}
theorem ai.hole {W:aI b->aI b0}{n o}(s:tN W n o)(ok:cw w=ag){m:aI b}{aG:b->ac->Prop}{af:O->ac->Prop}
  (t:bD (b1 bH u) ((di Y l).over c w) m aG af C)
  (x:∀a f d,aG a d->ai u l Y j c f (W (.pure a)) w d B)
  (y:∀a f d,af a d->ai u l Y j c f (W (.raise a)) w d B):ai u l Y j c A (W m) w C B:=λg h i p=>by
 refine r (s.wrap m) ?_;have q:=iy i w ok;rw [h]at q;refine aw (oZ (Γ:=g) (Φ:=λe d=>e.quiet=ag/\B e d) _ _ n o m (t (g.over w) A q) (λa f d k=>x a f d k g h i p) (λa f d k=>y a f d k g h i p)) (bo λe d=>an λv z=> ?_);exact bh e d ⟨v,z⟩
theorem F7(a:Nat){b:ef}{c:Unit->ac->Prop}{af:O->ac->Prop}(d:C.heap.NoLimit)(Y:b.depth<my)(h:c () C):bD (b1 bH u) b (ix a) c af C:=by
 refine r (show ix a=sK a from(congrFun y1 a).symm) ?_;intro f A e;exact zL d e Y h
end
universe T v
noncomputable def AG {b:Sort T}{a:Sort v}(_:b->a)(_:a):Type:=Unit
noncomputable def m2 {b:Sort T}{c:Sort v}(f:b->c)(a:b):AG f (f a):=()
noncomputable def m3 {b:Sort T}{a:Sort v}{f:b->a}{m:a}(_:AG f m):b->a:=f
noncomputable def F8(a:aI Unit)(b c:c0)(given:List O)(kw:List (c0×O))(d:List cb)(e:g_)(f:List c0)(g:Nat)(i:bX)(pos:ap)(j:Option O):aI Value:=
 m3 (m:=y2 b c given kw d e f g i pos j) (by delta y2;generalize (yZ 0)=h;exact m2 _ h) a
theorem F9(a b given kw c d e f g pos h):buildClass a b given kw c d e f g pos h=F8 (ix 0) a b given kw c d e f g pos h:=by
 refine r PySem.W.Fast.te1785580099245652887 ?_;kernel_rfl
noncomputable def AH(a:aI Unit)(c:c0)(d:List Expr)(e:List Keyword)(f:List cb)(g:List Expr)(i:g_)(j:Option g_)(k:c0)(l:List c0)(pos:ap)(m:bX):
  {F:aI dQ//a=ix 0->jF (.ClassDef c d e f g [] i j k l pos) m=F}:=by
 refine⟨?b, ?h⟩
 case h=>
  intro h;refine(arm_exec_ClassDef ..).trans ?_;simp only [F9,<-h,PySem.W.Fast.te9800728527408917180,PySem.W.Fast.te10458482166411082596,PySem.W.Fast.te5911215902649259669,PySem.W.Fast.te13897175071876407860,PySem.W.Fast.te4897270859577272712,PySem.W.Fast.te621762911399731506,PySem.W.Fast.te11621922129505618389,PySem.W.Fast.te9498003681964393637,y3,PySem.W.Fast.te14857818083647630748,PySem.W.Fast.te17798618104000559429,PySem.W.Fast.te17359229931016689406];exact t
noncomputable def AI(a:aI Unit)(b:c0)(c:List Expr)(d:List Keyword)(e:List cb)(f:List Expr)(g:g_)(h:Option g_)(i:c0)(j:List c0)(pos:ap)(k:bX):aI Flow:=(AH a b c d e f g h i j pos k).1
theorem F_(a b c d e f g h i pos j):jF (.ClassDef a b c d e [] f g h i pos) j=AI (ix 0) a b c d e f g h i pos j:=
 (AH (ix 0) a b c d e f g h i pos j).2 t
noncomputable def hF:List cb×Scope:=fnOf (jd 1)
structure AJ where
 name:c0
 bases:List Expr
 keywords:List Keyword
 body:List cb
 AK:List Expr
 scope:g_
 AL:Option g_
 bind:c0
 statics:List c0
 pos:ap
noncomputable def AM:=0 where
 F':List cb->AJ
  | .ClassDef n b k a d _ c x e st A::_=>⟨n,b,k,a,d,c,x,e,st,A⟩
  |_=>⟨default,[],[],[],[],⟨.function,[],aN,aN,[]⟩,J,default,[],default⟩
 e:AJ:=F' hF.1
 AN(a:aI Unit)(b:bX):aI Flow:=AI a e.name e.bases e.keywords e.body e.AK e.scope e.AL e.bind e.statics e.pos b
 pH(a:List cb):Stmt:=a.getD 1 (.Pass default)
open AM
theorem Ga:hF.1=[.ClassDef e.name e.bases e.keywords e.body e.AK [] e.scope e.AL e.bind e.statics e.pos,pH hF.1]:=by kernel_rfl
noncomputable def AO(a:(O->Bool)->List O->List O)(b:fJ):aI PySem.Fin:=
 m3 (m:=y4 b) (by delta y4;generalize @i0 O=h;exact m2 _ h) a
theorem Gb(a:fJ):bI (.builtin "type.__new__" a)=AO (@i0 O) a:=by
 kernel_rfl!
noncomputable def fc:List O->O->Bool:= @o7 O (@instBEqOfDecidableEq O iZ)
theorem AP(v:O)(a:List O):fc (v::a) v=true:=by
 unfold fc;rw [show @o7 O (@instBEqOfDecidableEq O iZ) (v::a) v= @PySem.W.R.elemR O (@instBEqOfDecidableEq O iZ) v (v::a)from t];have h: @pb O (@instBEqOfDecidableEq O iZ) v v=true:= @decide_eq_true _ (iZ v v) t;simp [PySem.W.R.elemR,h]
noncomputable def AQ(a:List O->O->Bool)(M b:O):aI Bool:=
 m3 (m:=o8 M b) (by delta o8;generalize @o7 O (@instBEqOfDecidableEq O iZ)=h;exact m2 _ h) a
theorem PT:AQ fc=PySem.W.Fast.tw16098473122060591676:=by
 kernel_rfl
noncomputable def AR(a:List O->O->Bool)(b:fJ):aI PySem.Fin:=
 m3 (m:=y5 b) (by delta y5 PySem.W.Fast.tw1166467894219422925;refine(?_:∀h,o8=h->_) _ t;intro h e;rewrite (occs:= .pos [3]) [e];exact m2 _ h) (AQ a)
theorem Gc(a:fJ):bI (.builtin "super.__init__" a)=AR fc a:=by
 kernel_rfl!
noncomputable def AS(a:(O->Bool)->List O->List O)(b:fJ):aI PySem.Fin:=
 m3 (m:=y6 b) (by delta y6;generalize @mq O=h;exact m2 _ h) a
theorem Gd(a:fJ):bI (.builtin "super.__getattribute__" a)=AS (@mq O) a:=by
 kernel_rfl!
noncomputable def AT(a:List O->O->Bool)(b:fJ):aI PySem.Fin:=
 m3 (m:=y7 b) (by delta y7 vU o8;generalize @o7 O (@instBEqOfDecidableEq O iZ)=h;exact m2 _ h) a
theorem Ge(a:fJ):bI (.builtin "type.__call__" a)=AT fc a:=by
 kernel_rfl!
noncomputable def AU(a:List O->O->Bool)(b:fJ):aI PySem.Fin:=
 m3 (m:=y8 b) (by delta y8 PySem.W.Fast.tw18364946443445666648 PySem.W.Fast.tw14215438652452703452 y9 vU o8;generalize @o7 O (@instBEqOfDecidableEq O iZ)=h;exact m2 _ h) a
theorem Gf(a:fJ):bI (.builtin "member_descriptor.__set__" a)=AU fc a:=by
 kernel_rfl!
noncomputable def AV(a:List O->O->Bool)(b:fJ):aI PySem.Fin:=
 m3 (m:=y_ b) (by delta y_ PySem.W.Fast.tw5320362991156250742 PySem.W.Fast.tw8488679203525710145 y9 vU o8;generalize @o7 O (@instBEqOfDecidableEq O iZ)=h;exact m2 _ h) a
theorem Gg(a:fJ):bI (.builtin "member_descriptor.__get__" a)=AV fc a:=by
 kernel_rfl!
variable(g:Nat->Option ab)(P:a1)
noncomputable def e3(a:qG)(k:Nat)(b:Array (Option O)):Obj:={cls:= .type "type",data:= .cls {a with mro:=[E k,.type "object"]},slots:=b}
noncomputable def e4(a b c:O):Obj:={cls:= .type "super",data:= .fields ⟨[a,b,c]⟩}
section
variable(b k n o L:Nat)(j:List (aL×ap))(A:ap)(a:qG)(d:Array (Option O))(e:List O->O->Bool)(f:ap)(bx:Nat)(i:(O->Bool)->List O->List O)(m p cH q:Nat)(r:ap)
noncomputable def Gh:G:=c_ g P 150 n o L j [(b+101,e4 .none .none .none),(k+101,e3 a k d)] [] [] 1 [1] (.call (.builtin "super.__init__") ⟨[E b,E k,E k],[]⟩) A
noncomputable def lS:G:=h g P 150 n o L j [(b+101,e4 .none .none .none),(k+101,e3 a k d)] [0] [] 3 [2,2,2] (.builtin "super.__init__" ⟨[E b,E k,E k],[]⟩) A (AR e ⟨[E b,E k,E k],[]⟩)
noncomputable def wU:=0 where
 Gi:G:=run (cB g P 150 n o L J j [(b+101,e4 .none .none .none),(k+101,e3 a k d)] [0] []) 6 [1,1,1,1,1,1] ((lS g P b k n o L j A a d (λ_ _=>ag)).c) (f) ((lS g P b k n o L j A a d (λ_ _=>ag)).t) ((lS g P b k n o L j A a d (λ_ _=>ag)).aU)
 Gj:G:=c_ g P 150 n o L j [(b+101,e4 (E k) (E k) (E k)),(k+101,e3 a k d)] [] [] 1 [1] (.call (.builtin "super.__getattribute__") ⟨[E b,(.str ⟨⟨pf⟩⟩ bx)],[]⟩) A
 kR:G:=h g P 150 n o L j [(b+101,e4 (E k) (E k) (E k)),(k+101,e3 a k d)] [] [] 5 [1,1,1,0,2] (.builtin "super.__getattribute__" ⟨[E b,(.str ⟨⟨pf⟩⟩ bx)],[]⟩) A (AS i ⟨[E b,(.str ⟨⟨pf⟩⟩ bx)],[]⟩)
 Gk:G:=c_ g P 160 n o L j [(k+101,e3 a k d)] [] [] 4 [1,1] (.call (.builtin "classmethod_descriptor.__get__") ⟨[.builtin "object.__init_subclass__",.none,(E k)],[]⟩) A
open wU
noncomputable def Gl:G:=bJ g P 150 p cH q j [] [] [] 0 [] (kR g P b k n o L j A a d bx (λ_ _=>[E k,.type "object"])) r (.ok (.ret (.ref m)))
end
open wU
noncomputable def AW:=0 where
 ru:BEq Value:= @instBEqOfDecidableEq O iZ
 lT(v:O):O->Bool:=λx=> @bne O ru x v
 n_(k:Nat):Obj:={cls:= .type "builtin_function_or_method",data:= .fields ⟨[.builtin "object.__init_subclass__",E k]⟩}
 Gm(g:Nat->Option ab)(P:a1):List Prop:=[
  ∀a k n d e j A b c,ok [0,1] (Gh g P a k n d e j A b c) (.again (.builtin "super.__init__" ⟨[E a,E k,E k],[]⟩)) 0 [H (a+101,e4 .none .none .none),H (k+101,e3 b k c)] 0 0 [],
  ∀a k n d e j A b c h,ok [0,1] (lS g P a k n d e j A b c h) (es (lS g P a k n d e j A b c h).t) 0 [H (a+101,e4 .none .none .none),H (k+101,e3 b k c)] 0 0 [],
  ∀a k n d e j A b c h,pF (lS g P a k n d e j A b c h)=pG (lS g P a k n d e j A b c (λ_ _=>h [(E k),.type "object"] (E k))),
  ∀a k n d e j A b c m,ok [0,1] (Gi g P a k n d e j A b c m) (.ret .none) 0 [H (a+101,e4 (E k) (E k) (E k)),H (k+101,e3 b k c)] 0 0 [],
  ∀a k n d e j A b c f,ok [0,1] (Gj g P a k n d e j A b c f) (.again (.builtin "super.__getattribute__" ⟨[E a,(.str ⟨⟨pf⟩⟩ f)],[]⟩)) 0 [H (a+101,e4 (E k) (E k) (E k)),H (k+101,e3 b k c)] 0 0 [],
  ∀a k n d e j A b c f i,ok [0,1] (kR g P a k n d e j A b c f i) (es (kR g P a k n d e j A b c f i).t) 0 [H (a+101,e4 (E k) (E k) (E k)),H (k+101,e3 b k c)] 0 0 [],
  ∀a k n d e j A b c f i,pF (kR g P a k n d e j A b c f i)=pG (kR g P a k n d e j A b c f (λ_ _=>i (lT (E k)) [(E k),.type "object"])),
  ∀a k n d e j A b c f,(es (kR g P a k n d e j A b c f (λ_ _=>[E k,.type "object"])).t,(kR g P a k n d e j A b c f (λ_ _=>[E k,.type "object"])).aU.length,eA (kR g P a k n d e j A b c f (λ_ _=>[E k,.type "object"])) J J 5)=(.call (.call (.builtin "classmethod_descriptor.__get__") ⟨[.builtin "object.__init_subclass__",if(@pb O ru (E k) (E k))=ag then .none else(E k),(E k)],[]⟩) J,0,(ag,J)),
  ∀k n d e j A b c,ok [1] (Gk g P k n d e j A b c) (.ret (E n)) 0 [H (n+101,n_ k)] 1 0 [],
  ∀a k n d e j A b c f l o p q r,ok [] (Gl g P a k n d e j A b c f l o p q r) (.ret (.ref l)) 0 [] 0 0 []]
 j0(g:Nat->Option ab)(P:a1):Prop:=AllP (Gm g P)
 AX(m:List Nat):List Nat:=[99,109,112,95,116,111,95,107,101,121,46,60,108,111,99,97,108,115,62,46,75,46]++m
 wV(i:Nat):List Stmt:=(e.body.drop i).take 1
 pI(m:List Nat)(M a b T:Nat):Obj:={mP "code" m (AX m) M a 2 19 b T with slots:=⟨[]⟩}
 pJ(i:Nat)(m:List Nat)(e:List (c0×ae))(c d:O):Obj:={cls:= .type "function",data:= .func {name:=⟨⟨m⟩⟩,qualname:=⟨⟨AX m⟩⟩,params:=wJ (wV i),body:= .stmts (fnOf (wV i)).1,scope:=(fnOf (wV i)).2,globals:=3,closure:=e,defaults:= .none,kwdefaults:= .none,doc:= .none,pyModule:= .str ⟨⟨i4⟩⟩ 265,annotations:=J,code:=c,closureTuple:=d,builtins:=0},slots:=⟨[]⟩}
open AW
section
variable(P:a1)(n s o cH:Nat)
noncomputable def wW:=0 where
 Gn:Obj:=pI pg (o+17) 8 (s+109) (o+22)
 Gp:Obj:=pJ 2 pg [] (.ref (s+114)) .none
 Gq:Obj:=pI [95,95,108,116,95,95] (o+25) 11 (s+117) (o+31)
 Gr:Obj:=pJ 3 [95,95,108,116,95,95] [(⟨⟨mJ⟩⟩,(n+102))] (.ref (s+122)) (.ref (s+116))
 Gs:Obj:=pI [95,95,103,116,95,95] (o+34) 14 (s+125) (o+40)
 Gu:Obj:=pJ 4 [95,95,103,116,95,95] [(⟨⟨mJ⟩⟩,(n+102))] (.ref (s+130)) (.ref (s+124))
 Gv:Obj:=pI [95,95,101,113,95,95] (o+43) 17 (s+133) (o+49)
 Gw:Obj:=pJ 5 [95,95,101,113,95,95] [(⟨⟨mJ⟩⟩,(n+102))] (.ref (s+138)) (.ref (s+132))
 Gx:Obj:=pI [95,95,108,101,95,95] (o+52) 20 (s+141) (o+58)
 Gy:Obj:=pJ 6 [95,95,108,101,95,95] [(⟨⟨mJ⟩⟩,(n+102))] (.ref (s+146)) (.ref (s+140))
 Gz:Obj:=pI [95,95,103,101,95,95] (o+61) 23 (s+149) (o+67)
 GA:Obj:=pJ 7 [95,95,103,101,95,95] [(⟨⟨mJ⟩⟩,(n+102))] (.ref (s+154)) (.ref (s+148))
 AY:Obj:={cls:=(.type "dict"),dict:=J,data:=(.dict ⟨[U P v9 (o+8) (.str ⟨⟨v_⟩⟩ (o+13)),U P v' (o+12) (aj 4 (o+11)),U P [95,95,115,108,111,116,115,95,95] (o+16) (.ref (s+108)),U P pg (o+24) (.ref (s+115)),U P [95,95,108,116,95,95] (o+33) (.ref (s+123)),U P [95,95,103,116,95,95] (o+42) (.ref (s+131)),U P [95,95,101,113,95,95] (o+51) (.ref (s+139)),U P [95,95,108,101,95,95] (o+60) (.ref (s+147)),U P [95,95,103,101,95,95] (o+69) (.ref (s+155)),U P [95,95,104,97,115,104,95,95] (o+70) .none,U P wa (o+72) (.ref (s+156)),U P nU (cH+1) (.ref (s+160)),U P qU (cH+2) .none]⟩ 3),slots:=⟨[]⟩}
 ej:Obj:={cls:=(.type "type"),dict:=J,data:=(.cls {name:=⟨⟨[75]⟩⟩,bases:=[(.type "object")],mro:=[(.ref (s+159)),(.type "object")],ns:=(s+158),qualname:=⟨⟨wb⟩⟩,hasDict:=aN,slotNames:=[⟨⟨nU⟩⟩],subclasses:=[],abstract:=aN,collection:=J,hasDel:=aN}),slots:=⟨[(H (E s)),J,(H (.str ⟨⟨[75]⟩⟩ o)),(H (.str ⟨⟨wb⟩⟩ (o+9))),(H (.builtin "object.__new__")),(H (.bool aN))]⟩}
 e5:Obj:={cls:=(.type "member_descriptor"),dict:=J,data:=(.fields ⟨[(.str ⟨⟨nU⟩⟩ cH),(.ref (s+159)),(.builtin "proto.slot"),(.builtin "proto.slot#set"),(aj 0 0)]⟩),slots:=⟨[]⟩}
open wW
end
open wW
noncomputable def f1(P:a1)(m n a b c:Nat):List (ae×ab):=
 [(n+102,a' (E m)),(a+114,Gn a b),(a+115,Gp a),(a+122,Gq a b),(a+123,Gr n a),(a+130,Gs a b),(a+131,Gu n a),(a+138,Gv a b),(a+139,Gw n a),(a+146,Gx a b),(a+147,Gy n a),(a+154,Gz a b),(a+155,GA n a),(a+158,AY P a b c),(a+159,ej a b),(a+160,e5 a c)]
variable(g:Nat->Option ab)(P:a1)
noncomputable def AZ:=0 where
 bK {d:Type}(c:Nat)(a b:d):d:=Nat.rec a (λ_ _=>b) c
 A0(k:Nat):Obj:=co ⟨[.int 4 0,.int 4 0,.ref (k+106)]⟩
 GB(k:Nat):Obj:=co ⟨[.int 8 0,.int 8 0,.ref (k+114),.int 11 0,.int 8 0,.ref (k+122),.int 14 0,.int 8 0,.ref (k+130),.int 17 0,.int 8 0,.ref (k+138),.int 20 0,.int 8 0,.ref (k+146),.int 23 0,.int 8 0,.ref (k+154)]⟩
 GC(k a:Nat):Obj:={cls:=(.type "code"),dict:=J,data:=(.fields ⟨[(.str ⟨⟨[75]⟩⟩ (a+2)),(.str ⟨⟨wb⟩⟩ (a+3)),(.str ⟨⟨fj⟩⟩ (a+4)),(aj 4 0),(aj 0 0),(aj 0 0),(aj 0 0),(aj 0 0),(.ref (k+104)),(.bool ag),(aj 181 0),(.ref (k+105)),.none,.none,.none,.none,(aj (a+6) 0),(aj 4 0),(.str ⟨⟨fj⟩⟩ (a+7))]⟩),slots:=⟨[]⟩}
 m4(P:a1)(a b:Nat):Obj:={cls:=(.type "frame"),dict:=J,data:=(.dict ⟨[U P [75] b (.ref (a+159))]⟩ 1),slots:=⟨[]⟩}
 n'(k a:Nat):List (ae×ab):=[(16,A0 k),(k+105,GB k),(k+106,GC k a)]
 j1(n:Nat):Env:={scope:=hF.2,locals:=n+101,globals:=3,cells:=[(⟨⟨mJ⟩⟩,n+102)],qual:=⟨⟨[99,109,112,95,116,111,95,107,101,121,46,60,108,111,99,97,108,115,62,46]⟩⟩,func:=H 21,code:= .ref 20,frame:=H (n+101),builtins:=0}
 GD(a:List gp):Obj:={cls:=wP,data:= .dict ⟨a⟩ a.length}
 GF:aL->fJ
  | .call _ a=>a
  | .builtin _ a=>a
  |_=>⟨[],[]⟩
 codeOf:i9->aL
  | .again c=>c
  | .call c _=>c
  |_=>default
 A1(C:cb):Expr:=(rj C).1.getD 0 default
 A2(y:G):aI PySem.Fin:=G.rec (motive:=λ_=>aI b0) (λ_ _ _ M _ _ _ _ _ _=>M) y
 A3(y:G):aI PySem.Fin:=G.rec (motive:=λ_=>aI b0) (λ_ _ _ M _ _ _ _ _ _=>M) y
 A4(a:ab):ClassData:=match a.data with
  | .cls c=>c
  |_=>default
 cz(c:Nat):Nat:=bK c 59 22
 rv(c a:Nat):Nat:=a+bK c 7 4
 d(c a:Nat):Nat:=rv c a+bK c 49 13
 tO(c k a:Nat):List (ae×ab):=bK c [(16,co ⟨[]⟩)] (n' k a)
 rx(c k a m n:Nat):List (ae×ab):=tO c k a++[(n+101,GD []),(n+102,a' (E m))]
 ry(c:Nat):List Nat:=bK c [0,1,2] [3,4]
 tP(c:Nat):List Nat:=bK c (c8 10) (gH 3 6)
 lU(c:Nat):List Nat:=bK c (c8 59) (gH 3 19)
 rz(c:Nat):List Nat:=lU c++[cz c+1,cz c+2]
 h7(c:Nat):List Nat:=rz c++[cz c+3,cz c+4]
open AZ
section
variable(c k ec m n s o L:Nat)(j:List (aL×ap))(A:ap)(f:aI Unit)(a b e:ap)(i:(O->Bool)->List O->List O)(p q:ap)(cH:Nat)(r:ap)(t x y z F:Nat)(I:ap)
noncomputable def GG:G:=c_ g P 100 n o L j (tO c k ec) (bK c [0] []) [] 7 (bK c [0,0,3,3,3] [0,0,5,5,3]) (.call (.ref 21) ⟨[E m],[]⟩) A
noncomputable def jh:G:=h g P 100 s o L j (rx c k ec m n) (ry c) [] (bK c 40 28) (bK c [0,0,0,5,6,0,1,1,1,1,0,0,0] [0,0,0,7,8,0,1,0,0,0]) (.func hF.1 (j1 n)) A (cM (AN f (j1 n)))
noncomputable def hG:G:=h g P 100 (rv c s) (o+bK c 8 2) L j (jh g P c k ec m n s o L j A (.pure ())).D (tP c) [] (bK c 259 158) (bK c [6,6,0,6,0,6,6,6,0,6,6,6,0,6,6,6,0,6,6,6,0,6,6,9,8,8,8,8,0,0,0,6,0,6,6,9,8,8,8,8,0,0,0,6,0,6,6,9,8,8,8,8,0,0,0,6,0,6,6,9,8,8,8,8,0,0,0,6,0,6,6,9,8,8,8,8,0,0,0,6,0,6,6,9,8,8,8,8,0,0,0,6,0,6,6,6,0,6,6,6,0,6,6] [8,8,0,8,0,8,8,8,0,8,8,8,0,8,8,8,0,8,8,8,0,8,8,3,2,0,0,0,8,0,8,8,3,2,0,0,0,8,0,8,8,3,2,0,0,0,8,0,8,8,3,2,0,0,0,8,0,8,8,3,2,0,0,0,8,0,8,8,3,2,0,0,0,8,0,8,8,8,0,8,8,8,0,8,8]) (.func hF.1 (j1 n)) a ((jh g P c k ec m n s o L j A (.pure ())).t)
noncomputable def wX:=0 where
 oa(c k ec m n s o L:Nat)(j:List (aL×ap))(A a:ap):Args:=GF (codeOf (es (hG g P c k ec m n s o L j A a).t))
 pK:G:=run (cB g P 100 (d c s) (o+bK c 8 2+bK c 65 18) L J j (hG g P c k ec m n s o L j A a).D (lU c) []) 7 (bK c [4,6,4,6,6,11] [6,8,6,8,8,10]) (.builtin "type.__new__" (oa c k ec m n s o L j A a)) (b) ((AO i (oa c k ec m n s o L j A a))) ((hG g P c k ec m n s o L j A a).aU)
 ji:G:=run (cB g P 100 (d c s+1) cH L J j ((hG g P c k ec m n s o L j A a).D++[(d c s+101,ah [(.str ⟨⟨nU⟩⟩ (o+bK c 15 9))] 1)]) (lU c) []) 16 (bK c [60,61,61,61,62,62,62,61,61,61,61,61,61,61] [23,24,24,24,25,25,25,24,24,24,24,24,24,24]) ((.builtin "type.__new__" (oa c k ec m n s o L j A a))) (e) ((eh pK.t (.ok (.ret (.ref (d c s+101)))))) ((hG g P c k ec m n s o L j A a).aU)
open wX
noncomputable def wY:=0 where
 iF:G:=run (cB g P 100 (d c s+3) (cH+0) L J j (ji g P c k ec m n s o L j A a b e (λ_ _=>[.type "object"]) cH).D (rz c) []) 47 (bK c [62,62,62,62,62,62,62,61,61,61,0,61,61,62,62,62,62,61,0,61,61,61,61,61,61,11,18,26,34,42,50,58,59,63,62,64,64] [25,25,25,25,25,25,25,24,24,24,0,24,24,25,25,25,25,24,0,24,24,24,24,24,24,10,11,13,15,17,19,21,22,26,25,27,27]) ((.builtin "type.__new__" (oa g P c k ec m n s o L j A a))) (p) ((ji g P c k ec m n s o L j A a b e (λ_ _=>[.type "object"]) cH).t) ((hG g P c k ec m n s o L j A a).aU)
 rA:List (ae×ab):=gM iF.D (cz c+4) (d c s+4+101,e4 (E (d c s+2)) (E (d c s+2)) (E (d c s+2)))
 tQ:G:=bJ g P 100 (d c s+5) t L j rA (h7 c) [] 3 [cz c+5] iF q (.ok (.ret .none))
 h8:G:=bJ g P 100 (d c s+6) x L j (rA++[(d c s+5+101,n_ (d c s+2))]) (h7 c) [] 23 (bK c [65,62,62,62,62,62,62,62,0,2,2] [28,25,25,25,25,25,25,25,0,4,4]) tQ r (.ok (.ret (E (d c s+5))))
 GH:G:=h g P 100 y z F j [(n+101,gc h8.D (bK c 1 3))] [] [] 2 [1] (.func hF.1 (j1 n)) I (bN (bT (A1 (pH hF.1)) (j1 n)))
open wY
end
open wX wY
noncomputable def GI(c:Nat)(g:Nat->Option ab)(P:a1):List Prop:=[
 ∀k b m n e f j A,ok (c8 (bK c 3 5)) (GG g P c k b m n e f j A) (.again (.func hF.1 (j1 n))) 0 ((rx c k b m n).map H) 2 0 [],
 ∀k b m n a e f j A t,ok (c8 (bK c 10 9)) (jh g P c k b m n a e f j A t) (es (jh g P c k b m n a e f j A t).t) 0 ((jh g P c k b m n a e f j A (.pure ())).D.map H) (bK c 7 4) (bK c 8 2) [],
 ∀k b m n a e f j A t,(jh g P c k b m n a e f j A t).c= .func hF.1 (j1 n),
 ∀k b m n a e f j A,tN (λt=>(jh g P c k b m n a e f j A t).t) (F5 (λt=>(jh g P c k b m n a e f j A t).t)) (F6 (λt=>(jh g P c k b m n a e f j A t).t)),
 ∀k b m n a e f j A h,ok (c8 (cz c)) (hG g P c k b m n a e f j A h) (.again (.builtin "type.__new__" (oa g P c k b m n a e f j A h))) 2 ((hG g P c k b m n a e f j A h).D.map H) (bK c 49 13) (bK c 65 18) [],
 ∀k b m n a e f j A h i q,b3 (c8 (cz c)) (pK g P c k b m n a e f j A h i q) J J 60 (.call (.builtin "proto.collect" ⟨[E (rv c a)],[]⟩) J) 2 ((hG g P c k b m n a e f j A h).D.map H) 0 0 [] J,
 ∀k b m n a e f j A h i l o q,ok (c8 (cz c+3)) (ji g P c k b m n a e f j A h i l q o) (es (ji g P c k b m n a e f j A h i l q o).t) 2 ((ji g P c k b m n a e f j A h i l (λ_ _=>[.type "object"]) o).D.map H) 2 0 [],
 ∀k b m n a e f j A h i q,((pK g P c k b m n a e f j A h i q).c,(pK g P c k b m n a e f j A h i q).aU)=((.builtin "type.__new__" (oa g P c k b m n a e f j A h)),(hG g P c k b m n a e f j A h).aU),
 ∀k b m n a e f j A h i l o q,((ji g P c k b m n a e f j A h i l q o).c,(ji g P c k b m n a e f j A h i l q o).aU)=((.builtin "type.__new__" (oa g P c k b m n a e f j A h)),(hG g P c k b m n a e f j A h).aU),
 ∀k b m n a e f j A h i l o q,A2 (ji g P c k b m n a e f j A h i l q o)=A3 (ji g P c k b m n a e f j A h i l (λ_ _=>q (lT (E (d c a+2))) [(E (d c a+2)),.type "object"]) o),
 ∀k b m n a e f j A h i l p o,b3 (c8 (cz c+5)) (iF g P c k b m n a e f j A h i l p o) J J 60 (.call (.call (.builtin "super.__init__") ⟨[E (d c a+4),(E (d c a+2)),(E (d c a+2))],[]⟩) J) 3 ((iF g P c k b m n a e f j A h i l p o).D.map H) 2 3 [] J,
 ∀k b m n a e f j A h i l p s o r,b3 (c8 (cz c+5)) (tQ g P c k b m n a e f j A h i l p s o r) J J 60 (.call (.call (.builtin "super.__getattribute__") ⟨[E (d c a+4),(.str ⟨⟨pf⟩⟩ r)],[]⟩) J) 2 ((rA g P c k b m n a e f j A h i l p o).map H) 0 1 [] J,
 ∀k b m n a e f j A h i l p s v o r u,ok (c8 (cz c+6)) (h8 g P c k b m n a e f j A h i l p s o v r u) (.next) 0 ((h8 g P c k b m n a e f j A h i l p s o v r u).D.map H) 0 1 [],
 ∀k b m n a e f j A,(jh g P c k b m n a e f j A (.pure ())).D.length=bK c 10 9,
 ∀k b m n a e f j A h,(hG g P c k b m n a e f j A h).D.length=cz c,
 ∀k b m n a e f j A h i l o,(ji g P c k b m n a e f j A h i l (λ_ _=>[.type "object"]) o).D.length=cz c+3,
 ∀k b m n a e f j A h i l p o,(iF g P c k b m n a e f j A h i l p o).D.length=cz c+5,
 ∀k b m n a e f j A h,dy (hG g P c k b m n a e f j A h).D (bK c 10 9)=H (rv c a+101,ah [(.str ⟨⟨nU⟩⟩ (e+bK c 15 9))] 0),
 ∀k b m n a e f j A h i l p o,(dy (iF g P c k b m n a e f j A h i l p o).D (cz c+2),dy (iF g P c k b m n a e f j A h i l p o).D (cz c+4))=(H (d c a+2+101,e3 (A4 (gc (iF g P c k b m n a e f j A h i l p o).D (cz c+2))) (d c a+2) (gc (iF g P c k b m n a e f j A h i l p o).D (cz c+2)).slots),H (d c a+4+101,e4 .none .none .none)),
 ∀k b m n a e f j A h i l p s v o r u w x y z,ok [] (GH g P c k b m n a e f j A h i l p s o v r u w x y z) (.ret (E (d c a+2))) 0 [] 0 0 [],
 ∀k b m n a e f j A h i l p s v o r u,((dy (h8 g P c k b m n a e f j A h i l p s o v r u).D (bK c 1 3)).map (·.1),(dy (h8 g P c k b m n a e f j A h i l p s o v r u).D (cz c+5)).map (·.1))=(H (n+101),H (d c a+5+101)),
 ∀k b m n a e f j A h i l p s v o r u,f_ (h8 g P c k b m n a e f j A h i l p s o v r u).D (bK c [0,7,8,1] [])=(bK c (n' a e++[(n+101,m4 P a u)]) []).map H,
 ∀k b,hE (c8 (bK c 3 5)) (bK c [0] []++gH (tO c k b).length 2) (ry c)=ag,
 ∀k b m n,hE (c8 (bK c 10 9)) (ry c++gH (rx c k b m n).length (bK c 7 4)) (tP c)=ag,
 hE (c8 (cz c)) (tP c++gH (bK c 10 9) (bK c 49 13)) (lU c)=ag,
 hE (c8 (cz c)) (lU c++gH (cz c) 0) (lU c)=ag,
 hE (c8 (cz c+3)) (lU c++gH (cz c+1) 2) (rz c)=ag,
 hE (c8 (cz c+5)) (rz c++gH (cz c+3) 2) (h7 c)=ag,
 hE (c8 (cz c+5)) (h7 c++gH (cz c+5) 0) (h7 c)=ag,
 hE (c8 (cz c+6)) (h7 c++gH (cz c+6) 0) (h7 c)=ag]
noncomputable def kS(c:Nat)(g:Nat->Option ab)(P:a1):Prop:=AllP (GI c g P)
variable(g:Nat->Option ab)(P:a1)
noncomputable def A5:=0 where
 wZ:Obj:={cls:= .type "dict",data:= .dict ⟨[]⟩ 0}
 cq(k d:Nat)(a:Array (Option O)):Obj:={cls:=E k,dict:=H (d+101),slots:=a}
 rB(a:Nat)(z:Int):Bool:=match a with
  |0=>decide (z<0)
  |1=>decide (0<z)
  |2=>decide (z=0)
  |3=>decide (z<=0)
  |_=>decide (0<=z)
 A6:List Int:=[.ofNat 0,.ofNat 5,.negSucc 6]
open A5
section
variable(m n s o cH bk b e:Nat)(a:List (aL×ap))(q:ap)(az f d:Nat)(dr f':ap)(i:List O->O->Bool)(k p r:Nat)
noncomputable def GJ:G:=c_ g P 200 bk b e a (f1 P m n s o cH) [] [] 4 [15,15,15] (.call (.ref (s+159)) ⟨[.ref d],[]⟩) q
noncomputable def lV:G:=h g P 200 bk b e a (f1 P m n s o cH) [] [] 30 [15,15,15,15,15,15,15,15,15,15,15,15,15,15,15,15,15,15,15,15,14,15,15,18,15] (.builtin "type.__call__" ⟨[(.ref (s+159)),.ref d],[]⟩) q (AT i ⟨[(.ref (s+159)),.ref d],[]⟩)
noncomputable def w0:=0 where
 tR:G:=run (cB g P 200 (bk+2) b e J a ((f1 P m n s o cH)++[(bk+101,wZ),(bk+102,cq (s+58) bk #[])]) [16,17] []) 44 [18,15,15,14,3,3,2,0,19,19,0,19,19,3,19,19,18,15,15,14,18,15,18,15,18,15,15,14,16,16] ((lV g P m n s o cH bk b e a q d (λ_ _=>ag)).c) (dr) ((lV g P m n s o cH bk b e a q d (λ_ _=>ag)).t) ((lV g P m n s o cH bk b e a q d (λ_ _=>ag)).aU)
 GK:G:=c_ g P 270 bk b e a [(az+101,cq (s+58) f #[]),(s+159,ej s o),(s+160,e5 s cH)] [] [] 1 [3] (.call (.builtin "member_descriptor.__set__") ⟨[E (s+59),E az,.ref d],[]⟩) q
 lW:G:=h g P 270 bk b e a [(az+101,cq (s+58) f #[]),(s+159,ej s o),(s+160,e5 s cH)] [0] [] 4 [3,3,1,2] (.builtin "member_descriptor.__set__" ⟨[E (s+59),E az,.ref d],[]⟩) q (AU i ⟨[E (s+59),E az,.ref d],[]⟩)
open w0
noncomputable def w1:=0 where
 GL:G:=run (cB g P 270 bk b e J a [(az+101,cq (s+58) f #[]),(s+159,ej s o),(s+160,e5 s cH)] [0] []) 9 [3,3,3,3,1,2,1] ((lW g P s o cH bk b e a q az f d (λ_ _=>ag)).c) (dr) ((lW g P s o cH bk b e a q az f d (λ_ _=>ag)).t) ((lW g P s o cH bk b e a q az f d (λ_ _=>ag)).aU)
 GN:G:=bJ g P 200 k p r a [] [] [] 3 [] (tR g P m n s o cH bk b e a q d dr) f' (.ok (.ret .none))
 GO:G:=c_ g P 290 bk b e a [(az+101,cq (s+58) f #[H (.ref d)]),(s+159,ej s o),(s+160,e5 s cH)] [] [] 1 [3] (.call (.builtin "member_descriptor.__get__") ⟨[E (s+59),E az,E (s+58)],[]⟩) q
 lX:G:=h g P 290 bk b e a [(az+101,cq (s+58) f #[H (.ref d)]),(s+159,ej s o),(s+160,e5 s cH)] [] [] 4 [3,3,1,2] (.builtin "member_descriptor.__get__" ⟨[E (s+59),E az,E (s+58)],[]⟩) q (AV i ⟨[E (s+59),E az,E (s+58)],[]⟩)
open w1
noncomputable def GP:G:=run (cB g P 290 bk b e J a [(az+101,cq (s+58) f #[H (.ref d)]),(s+159,ej s o),(s+160,e5 s cH)] [] []) 9 [3,3,3,3,1,2,1] ((lX g P s o cH bk b e a q az f d (λ_ _=>ag)).c) (dr) ((lX g P s o cH bk b e a q az f d (λ_ _=>ag)).t) ((lX g P s o cH bk b e a q az f d (λ_ _=>ag)).aU)
end
open w0 w1
noncomputable def A7:=0 where
 w2(P:a1)(c a b:Nat):Obj:={cls:= .type "frame",data:= .dict ⟨[U P [115,101,108,102] c (E a),U P s2 (c+1) (E b)]⟩ 2}
 bV(d m n c e f h i j:Nat)(k:List (aL×ap))(q:ap)(a b l o p r:Nat)(s:g'):G:=c_ g P 250 h i j k ((f1 P m n c e f)++[(a+101,cq (c+58) l #[H (.ref p)]),(b+101,cq (c+58) o #[H (.ref r)]),(m+101,de s)]) [] [] 36 [2*d+5,2*d+4,0,20,20,0,20,20,3,1,20,17,15,15,14,17,15,15,14,16,16,15,15,14] (.call (.ref (c+(8*d+123))) ⟨[E a,E b],[]⟩) q
 bc(r m n c e f h i s:Nat)(j:List (aL×ap))(q:ap)(a b k l d o:Nat)(p:g')(t u v:Nat)(w:ap):G:=bJ g P 250 t u v j (((f1 P m n c e f)++[(a+101,cq (c+58) k #[H (.ref d)]),(b+101,cq (c+58) l #[H (.ref o)]),(m+101,de p)])++[(h+101,w2 P i a b)]) [] [] 20 [20,18,15,15,14,18,15,15,14,16,16,15,15,14] (bV r m n c e f h i s j q a b k l d o p) w (.ok (.ret (.ref d)))
 dr(f m n h i j k l o:Nat)(c:List (aL×ap))(q:ap)(a b p r s d:Nat)(e:g')(t u v:Nat)(w:ap)(x y z:Nat)(A:ap):G:=bJ g P 250 x y z c [(m+101,de e)] [] [] 3 [1] (bc f m n h i j k l o c q a b p r s d e t u v w) A (.ok (.ret (.ref d)))
 f'(d:Nat)(z:Int)(m n e f h i j k:Nat)(c:List (aL×ap))(q:ap)(a b l o p r:Nat)(s:g')(t u v:Nat)(w:ap)(x y A:Nat)(B:ap)(C D E:Nat)(F:ap)(I:Nat):G:=bJ g P 250 C D E c [] [] [] 7 [1] (dr d m n e f h i j k c q a b l o p r s t u v w x y A B) F (.ok (.ret (.int z I)))
open A7
noncomputable def GQ(g:Nat->Option ab)(P:a1):List Prop:=[
 ∀m n c e L j A T U V W X Y f F M,f_ (h8 g P 0 0 0 m n c e L j A T U V W X f Y F M).D [2,16,17,24,25,32,33,40,41,48,49,56,57,60,61,62]=(f1 P m n c e f).map H,
 ∀m n c e f h i k l q d,ok (c8 16) (GJ g P m n c e f h i k l q d) (.again (.builtin "type.__call__" ⟨[(.ref (c+159)),.ref d],[]⟩)) 0 ((f1 P m n c e f).map H) 0 0 [],
 ∀m n c e f h i k l q d r,ok (c8 18) (lV g P m n c e f h i k l q d r) (es (lV g P m n c e f h i k l q d r).t) 0 (((f1 P m n c e f)++[(h+101,wZ),(h+102,cq (c+58) h #[])]).map H) 2 0 [],
 ∀m n c e f h i k l q d r,pF (lV g P m n c e f h i k l q d r)=pG (lV g P m n c e f h i k l q d (λ_ _=>r [(.ref (c+159)),.type "object"] (.ref (c+159)))),
 ∀m n c e f h i k l q d dr,b3 [14,15,17] (tR g P m n c e f h i k l q d dr) J J 10 (.call (.call (.builtin "member_descriptor.__set__") ⟨[.ref (c+160),.ref (h+102),.ref d],[]⟩) J) 2 [H (c+159,ej c e),H (c+160,e5 c f),H (h+102,cq (c+58) h #[])] 1 3 [] J,
 ∀m n c e f h i k l q d dr f' Z aa ac,ok [] (GN g P m n c e f h i k l q d dr f' Z aa ac) (.ret (.ref (h+102))) 0 [] 0 0 [],
 ∀(m:Nat) (n:Nat) c e f h i k l q o p d,ok [0,1,2] (GK g P c e f h i k l q o p d) (.again (.builtin "member_descriptor.__set__" ⟨[E (c+59),E o,.ref d],[]⟩)) 0 [H (o+101,cq (c+58) p #[]),H (c+159,ej c e),H (c+160,e5 c f)] 0 0 [],
 ∀(m:Nat) (n:Nat) c e f h i k l q o p d r,ok [0,1,2] (lW g P c e f h i k l q o p d r) (es (lW g P c e f h i k l q o p d r).t) 0 [H (o+101,cq (c+58) p #[]),H (c+159,ej c e),H (c+160,e5 c f)] 0 0 [],
 ∀(m:Nat) (n:Nat) c e f h i k l q o p d r,pF (lW g P c e f h i k l q o p d r)=pG (lW g P c e f h i k l q o p d (λ_ _=>r [(.ref (c+159)),.type "object"] (.ref (c+159)))),
 ∀(m:Nat) (n:Nat) c e f h i k l q o p d dr,ok [0] (GL g P c e f h i k l q o p d dr) (.ret .none) 0 [H (o+101,cq (c+58) p #[H (.ref d)])] 0 0 [],
 ∀(m:Nat) (n:Nat) c e f h i k l q o p d,ok [0,1,2] (GO g P c e f h i k l q o p d) (.again (.builtin "member_descriptor.__get__" ⟨[E (c+59),E o,E (c+58)],[]⟩)) 0 [H (o+101,cq (c+58) p #[H (.ref d)]),H (c+159,ej c e),H (c+160,e5 c f)] 0 0 [],
 ∀(m:Nat) (n:Nat) c e f h i k l q o p d r,ok [0,1,2] (lX g P c e f h i k l q o p d r) (es (lX g P c e f h i k l q o p d r).t) 0 [H (o+101,cq (c+58) p #[H (.ref d)]),H (c+159,ej c e),H (c+160,e5 c f)] 0 0 [],
 ∀(m:Nat) (n:Nat) c e f h i k l q o p d r,pF (lX g P c e f h i k l q o p d r)=pG (lX g P c e f h i k l q o p d (λ_ _=>r [(.ref (c+159)),.type "object"] (.ref (c+159)))),
 ∀(m:Nat) (n:Nat) c e f h i k l q o p d dr,ok [] (GP g P c e f h i k l q o p d dr) (.ret (.ref d)) 0 [] 0 0 [],
 ∀m n c e f h i k l q a b w t u s v,eM (λo=>(bF (c8 20) (bV g P o m n c e f h i k l q a b w t u s v),eA (bV g P o m n c e f h i k l q a b w t u s v) J J 10)) 5=eN (λo=>(⟨.call (.call (.builtin "member_descriptor.__get__") ⟨[.ref (c+160),E a,.ref (c+159)],[]⟩) J,1,(((f1 P m n c e f)++[(a+101,cq (c+58) w #[H (.ref u)]),(b+101,cq (c+58) t #[H (.ref s)]),(m+101,de v)])++[(h+101,w2 P i a b)]).map H,1,3,[],bG (bV g P o m n c e f h i k l q a b w t u s v)⟩,(ag,J))) 5,
 ∀m n c e f h i k l q a b w t u s v x y B C,eM (λo=>(bF [14,15,17,18] (bc g P o m n c e f h i k l q a b w t u s v x y B C),eA (bc g P o m n c e f h i k l q a b w t u s v x y B C) J J 10)) 5=eN (λo=>(⟨.call (.call (.builtin "member_descriptor.__get__") ⟨[.ref (c+160),E b,.ref (c+159)],[]⟩) J,1,[H (c+159,ej c e),H (c+160,e5 c f),H (b+101,cq (c+58) t #[H (.ref s)]),H (m+101,de v)],0,1,[],bG (bc g P o m n c e f h i k l q a b w t u s v x y B C)⟩,(ag,J))) 5,
 ∀m n c e f h i k l q a b w t u s v x y B C G F I K,eM (λo=>(bF [] (dr g P o m n c e f h i k l q a b w t u s v x y B C G F I K),eA (dr g P o m n c e f h i k l q a b w t u s v x y B C G F I K) J J 10)) 5=eN (λo=>(⟨.call (.call (E m) ⟨[.ref u,.ref s],[]⟩) J,0,[],0,0,[],bG (dr g P o m n c e f h i k l q a b w t u s v x y B C G F I K)⟩,(ag,J))) 5,
 ∀m n c e f h i k l q a b w t u s v x y B C G F I K N M O Q R,eM (λo=>kF (λz=>bF [] (f' g P o z m n c e f h i k l q a b w t u s v x y B C G F I K N M O Q R)) A6) 5=eN (λo=>kG (λz=>⟨.ret (.bool (rB o z)),0,[],0,1,[],bG (f' g P o z m n c e f h i k l q a b w t u s v x y B C G F I K N M O Q R)⟩) A6) 5,
 ∀S n e L j A,gc (jf g P n S e L j A).D 10=de (fdOf (gc (jf g P n S e L j A).D 10))]
noncomputable def gf(g:Nat->Option ab)(P:a1):Prop:=AllP (GQ g P)
section
variable {g:Nat->Option ab}{C cC:ac}{aV:ae->Prop}{L:Nat->Prop}{D:List (ae×ab)}{aQ:List Nat}
theorem cc.head {a:ae}{c:ab}(d:cc g aV L cC ((a,c)::D) aQ C)(e:g a=Option.none)(h:∀y∈D,y.1≠a)(f:aV a\/cC.heap.objs.size<=a):cc g aV L cC ((a,c)::D) [0] C:=by
 refine⟨d.ch,d.al,.head e h,λi b x j=> ?_,λi b=> ?_⟩
 ·rw [bQ]at b;subst b;cases j;exact f
 ·rw [bQ]at b;subst b;exact Nat.zero_lt_succ _
theorem w3(v:O):(@pb O ru v v)=true:= @decide_eq_true _ (iZ v v) t
theorem GR(v:O)(a:List O):mq (lT v) (v::a)=v::a:=by
 have h:lT v v=false:=by
  refine(?_:(!(@pb O ru v v))=aN);rw [w3];rfl
 refine r List.dropWhile_cons (r h ?_);rfl
theorem GS(q:Base g)(h:j0 g u.params)(s:l<=150)(K:aR g C){b k:Nat}{a:qG}{c:Array (Option O)}(L:g (b+101)=J)(M:k≠b)
  (N:I C (b+101) (e4 .none .none .none))(P:I C (k+101) (e3 a k c)):
  a4 u l J (.call (.builtin "super.__init__") ⟨[E b,E k,E k],[]⟩) C λQ i=>
   Q= .ok (.ret .none)/\aa g (· =b+101) p C i/\I i (b+101) (e4 (E k) (E k) (E k))/\i.heap.objs.size=C.heap.objs.size/\i.gens=C.gens:=by
 refine a4.c1 λj A=> ?_;obtain ⟨n,v⟩:=K.size;have R:cc g (· =b+101) p C [(b+101,e4 .none .none .none),(k+101,e3 a k c)] [] C:= .start K λx m=>by
  rcases b8.mp m with rfl|m
  ·exact N
  ·rw [bQ]at m;subst m;exact P
 have S:∀w,∀y∈[((k+101:ae),(w:ab))],y.1≠b+101:=λw y z=>by
  rw [bQ]at z;subst z;intro e;exact M (by have:k+101=b+101:=e;exact dF (V 101 101 0 0 t (aB this)) (V 101 101 0 0 t (ao this)))
 refine R.pz s q v t t (aC:=[]) a0 t (by kernel_rfl) (h 0 b k n C.toks C.gens.size j A a c) (bR:=[0,1]) (dk:=[(b+101,e4 .none .none .none),(k+101,e3 a k c)]) (c5:=[]) t (by decide) t ?_;intro d f as au T U W X Y;rw [cA T,Gc];have Z:=U.head L (S _) (.inl t);refine Z.seg s q W X t (aC:=[]) a0 t (h 1 b k (n+0) (C.toks+0) d.gens.size j f.p a c fc) (dk:=[(b+101,e4 .none .none .none),(k+101,e3 a k c)]) (bR:=[0,1]) (c5:=[0]) t (by decide) t ?_;intro av ac af B _ aw ah ai aj D;have ak:ac=lS g u.params b k (n+0) (C.toks+0) d.gens.size j f.p a c fc:=af;subst ak;have e:=h 2 b k (n+0) (C.toks+0) d.gens.size j f.p a c fc;rw [show(fun(_:List O) (_:O)=>fc [E k,.type "object"] (E k))=λ_ _=>ag from by funext _ _;exact AP _ _]at e;obtain ⟨al,am,F⟩:=rt e;refine r al (r am ?_);refine r F ?_;rw [F]at B;generalize (lS g u.params b k (n+0) (C.toks+0) d.gens.size j f.p a c fc).p=an;have ap:=h 3 b k (n+0) (C.toks+0) d.gens.size j f.p a c an;refine ah.segRet s q (n:=n+0) ai (o:=C.toks+0) aj (fO:=d.gens.size) (by refine r D ?_;rfl) (aC:=[]) a0 B ap (bR:=[0,1]) (dk:=[(b+101,e4 (E k) (E k) (E k)),(k+101,e3 a k c)]) (c5:=[]) t (by decide) t ?_;intro ax G aq _ ar;exact⟨t,G.ch,G.al _ aO,by rw [aq,v],by refine r ar (r D ?_);refine r Y ?_;rfl⟩
theorem GU(f:Base g)(h:j0 g u.params)(i:l<=160)(K:aR g C){k n:Nat}{b:qG}{c:Array (Option O)}(m:C.heap.objs.size=n+101)(o:I C (k+101) (e3 b k c)):
  a4 u l J (.call (.builtin "classmethod_descriptor.__get__") ⟨[.builtin "object.__init_subclass__",.none,E k],[]⟩) C λq a=>
   q= .ok (.ret (E n))/\aa g p p C a/\I a (n+101) (n_ k)/\a.heap.objs.size=n+1+101/\a.gens=C.gens:=by
 refine a4.c1 λj A=> ?_;have r:cc g p p C [(k+101,e3 b k c)] [] C:= .start K λx d=>by
  rw [bQ]at d;subst d;exact o
 refine r.segRet i f m t t (aC:=[]) a0 t (h 8 _ ..) (bR:=[1]) (dk:=[(n+101,n_ k)]) (c5:=[]) t (by decide) t ?_;intro w e s _ v;exact⟨t,e.ch,e.al _ aO,s,by rw [v];rfl⟩
theorem GV(o:Base g)(f:j0 g u.params)(s:l<=150)(K:aR g C){b k n d:Nat}{a:qG}{c:Array (Option O)}(R:C.heap.objs.size=n+101)
  (S:I C (b+101) (e4 (E k) (E k) (E k)))(T:I C (k+101) (e3 a k c)):
  a4 u l J (.call (.builtin "super.__getattribute__") ⟨[E b,.str ⟨⟨pf⟩⟩ d],[]⟩) C λU v=>
   U= .ok (.ret (E n))/\aa g p p C v/\I v (n+101) (n_ k)/\v.heap.objs.size=n+1+101/\v.gens=C.gens:=by
 refine a4.c1 λj A=> ?_;have W:∀x∈[(b+101,e4 (E k) (E k) (E k)),(k+101,e3 a k c)],I C x.1 x.2:=λx w=>by
  rcases b8.mp w with rfl|w
  ·exact S
  ·rw [bQ]at w;subst w;exact T
 have X:cc g p p C [(b+101,e4 (E k) (E k) (E k)),(k+101,e3 a k c)] [] C:= .start K W;refine X.pz s o R t t (aC:=[]) a0 t (by kernel_rfl) (f 4 b k n C.toks C.gens.size j A a c d) (bR:=[0,1]) (dk:=[(b+101,e4 (E k) (E k) (E k)),(k+101,e3 a k c)]) (c5:=[]) t (by decide) t ?_;intro i m aB aD Y Z ab ac ae;rw [cA Y,Gd];refine Z.seg s o ab ac t (aC:=[]) a0 t (f 5 b k (n+0) (C.toks+0) i.gens.size j m.p a c d (@mq O)) (bR:=[0,1]) (dk:=[(b+101,e4 (E k) (E k) (E k)),(k+101,e3 a k c)]) (c5:=[]) t (by decide) t ?_;intro aE af ah y _ aG z aj aH ak;have al:af=kR g u.params b k (n+0) (C.toks+0) i.gens.size j m.p a c d (@mq O):=ah;subst al;have e:=f 6 b k (n+0) (C.toks+0) i.gens.size j m.p a c d (@mq O);rw [show(fun(_:O->Bool) (_:List O)=>mq (lT (E k)) [E k,.type "object"])=λ_ _=>[E k,.type "object"]from by funext _ _;exact GR _ _]at e;obtain ⟨am,an,M⟩:=rt e;have B:=f 7 b k (n+0) (C.toks+0) i.gens.size j m.p a c d;rw [if_pos (w3 _)]at B;simp only [eZ]at B;obtain ⟨ao,aI,ap⟩:=B;refine aw (iA ao) (bo λaJ aK aq=> ?_);rw [M]at y;refine r am (r an ?_);refine r M (r aq ?_);injection ap with ar as;refine ai.i' (br:=l+5) (fm:=J) y t ?_ as.symm (GU o f (V 0 150 5 160 t s) z.K (n:=n) aj (z.al _ ci)) ?_
 ·exact jL ar (aW _)
 refine λaL N=>gs ?_;rintro rfl;intro F au av ax;have ay:=z.rh F;obtain ⟨G,P⟩:=F.K.size;refine(cc.start (aV:=p) (L:=p) F.K (D:=[]) a0).segRet s o P t t (aC:=[]) a0 y (by
  have q:=f 9 b k (n+0) (C.toks+0) i.gens.size j m.p a c d (n+101) G N.toks N.gens.size ((kR g u.params b k (n+0) (C.toks+0) i.gens.size j m.p a c d (@mq O)).p);exact q) (bR:=[]) (dk:=[]) (c5:=[]) t (by decide) t ?_
 intro aM Q az _ aA;refine⟨t,ay.ch.then Q.ch aF aF,Q.ch.fr _ _ au (λh=>h), ?_,by refine r aA (r ax ?_);refine r ak (r ae ?_);rfl⟩;rw [az,show G+0+101=G+101 from t,<-P,av]
end
section
variable {g:Nat->Option ab}
theorem j2 {a b c:ae}{x y z:ab}{h:aY}(e:h.get? a=H x)(f:h.get? b=H y)(g:h.get? c=H z):∀v∈[(a,x),(b,y),(c,z)],h.get? v.1=H v.2:=λv d=>by
 rcases b8.mp d with rfl|d
 ·exact e
 rcases b8.mp d with rfl|d
 ·exact f
 ·rw [bQ]at d;subst d;exact g
theorem w4(v:O)(a:List O):(fun(_:List O) (_:O)=>fc (v::a) v)=λ_ _=>true:=by funext _ _;exact AP _ _
theorem GW(o:Base g)(i:gf g u.params)(q:l<=270)(K:aR g C){a c f az b d:Nat}(F:g (az+101)=J)(ao:az≠a+58)(ap:az≠a+59)
  (G:I C (az+101) (cq (a+58) b #[]))(L:I C (a+159) (ej a c))(M:I C (a+160) (e5 a f)):
  a4 u l J (.call (.builtin "member_descriptor.__set__") ⟨[.ref (a+160),E az,.ref d],[]⟩) C λN k=>N= .ok (.ret .none)/\aa g (· =az+101) p C k/\
   I k (az+101) (cq (a+58) b #[H (.ref d)])/\k.heap.objs.size=C.heap.objs.size/\k.gens=C.gens:=by
 refine a4.c1 λj A=>ai.dN λaq O=> ?_;obtain ⟨n,s⟩:=K.size;have P:cc g (· =az+101) p C [(az+101,cq (a+58) b #[]),(a+159,ej a c),(a+160,e5 a f)] [] C:= .start K (j2 G L M);have Q:∀y∈[((a+159:ae),ej a c),(a+160,e5 a f)],y.1≠az+101:=λy m=>by
  rcases b8.mp m with rfl|m
  ·refine(?_:a+159≠az+101);lia
  ·rw [bQ]at m;subst m;refine(?_:a+160≠az+101);lia
 refine P.pz q o s t t (aC:=[]) a0 t (by kernel_rfl) (i 6 0 0 a c f n C.toks C.gens.size j A az b d) (bR:=[0,1,2]) (dk:=[(az+101,cq (a+58) b #[]),(a+159,ej a c),(a+160,e5 a f)]) (c5:=[]) t (by decide) t ?_;intro R h ar as S T U V v;rw [cA S,Gf];have w:R.gens.size=C.gens.size:=by refine r v ?_;rfl
 refine(T.head F Q (.inl t)).seg q o U V w (aC:=[]) a0 t (i 7 0 0 a c f n C.toks C.gens.size j h.p az b d fc) (bR:=[0,1,2]) (dk:=[(az+101,cq (a+58) b #[]),(a+159,ej a c),(a+160,e5 a f)]) (c5:=[0]) t (by decide) t ?_;intro W X Y x _ au Z ab ac z;have af:X=lW g u.params a c f n C.toks C.gens.size j h.p az b d fc:=Y;subst af;have e:=i 8 0 0 a c f n C.toks C.gens.size j h.p az b d fc;rw [w4]at e;obtain ⟨ah,aj,B⟩:=rt e;refine r ah (r aj ?_);refine r B ?_;rw [B]at x;generalize (lW g u.params a c f n C.toks C.gens.size j h.p az b d fc).p=ak;have al:W.gens.size=C.gens.size:=by refine r z ?_;simp [w]
 refine Z.segRet q o ab ac al (aC:=[]) a0 x (i 9 0 0 a c f n C.toks C.gens.size j h.p az b d ak) (bR:=[0]) (dk:=[(az+101,cq (a+58) b #[H (.ref d)])]) (c5:=[]) t (by decide) t ?_;intro av D am _ an;exact(O _ _ ⟨t,D.ch,D.al _ aO,by rw [am,s],by refine r an (r z ?_);refine r v ?_;rfl⟩)
theorem A8(m:Base g)(k:gf g u.params)(o:l<=290)(K:aR g C){a c f b h d:Nat}
  (y:I C (b+101) (cq (a+58) h #[H (.ref d)]))(z:I C (a+159) (ej a c))(B:I C (a+160) (e5 a f)):
  a4 u l J (.call (.builtin "member_descriptor.__get__") ⟨[.ref (a+160),E b,.ref (a+159)],[]⟩) C λD q=>D= .ok (.ret (.ref d))/\aa g p p C q/\q.heap.objs.size=C.heap.objs.size:=by
 refine a4.c1 λj A=>ai.dN λaj F=> ?_;obtain ⟨n,s⟩:=K.size;have G:cc g p p C [(b+101,cq (a+58) h #[H (.ref d)]),(a+159,ej a c),(a+160,e5 a f)] [] C:= .start K (j2 y z B);refine G.pz o m s t t (aC:=[]) a0 t (by kernel_rfl) (k 10 0 0 a c f n C.toks C.gens.size j A b h d) (bR:=[0,1,2]) (dk:=[(b+101,cq (a+58) h #[H (.ref d)]),(a+159,ej a c),(a+160,e5 a f)]) (c5:=[]) t (by decide) t ?_;intro L i ak al M N O P Q;rw [cA M,Gg];have v:L.gens.size=C.gens.size:=by refine r Q ?_;rfl
 refine N.seg o m O P v (aC:=[]) a0 t (k 11 0 0 a c f n C.toks C.gens.size j i.p b h d fc) (bR:=[0,1,2]) (dk:=[(b+101,cq (a+58) h #[H (.ref d)]),(a+159,ej a c),(a+160,e5 a f)]) (c5:=[]) t (by decide) t ?_;intro R S T w _ am U V W X;have Y:S=lX g u.params a c f n C.toks C.gens.size j i.p b h d fc:=T;subst Y;have e:=k 12 0 0 a c f n C.toks C.gens.size j i.p b h d fc;rw [w4]at e;obtain ⟨Z,ab,x⟩:=rt e;refine r Z (r ab ?_);refine r x ?_;rw [x]at w;generalize (lX g u.params a c f n C.toks C.gens.size j i.p b h d fc).p=ac;have ae:R.gens.size=C.gens.size:=by refine r X ?_;simp [v]
 refine U.segRet o m V W ae (aC:=[]) a0 w (k 13 0 0 a c f n C.toks C.gens.size j i.p b h d ac) (bR:=[]) (dk:=[]) (c5:=[]) t (by decide) t ?_;intro an af ah _ ao;exact(F _ _ ⟨t,af.ch,by rw [ah,s]⟩)
theorem rC(o:Base g)(i:gf g u.params)(s:l<=200)(K:aR g C){m n a c b d bk:Nat}(W:∀x∈f1 u.params m n a c b,I C x.1 x.2)(y:C.heap.objs.size=bk+101):
  a4 u l J (.call (.ref (a+159)) ⟨[.ref d],[]⟩) C λz f=>z= .ok (.ret (.ref (bk+102)))/\aa g p p C f/\I f (bk+102) (cq (a+58) bk #[H (.ref d)])/\f.heap.objs.size=bk+3+101:=by
 refine a4.c1 λj A=>ai.dN λaE X=> ?_;have E:cc g p p C (f1 u.params m n a c b) [] C:= .start K W;have F:a+160<bk+101:=by
  have h:=E.lt (a+160,e5 a b) (.tail _ (.tail _ (.tail _ (.tail _ (.tail _ (.tail _ (.tail _ (.tail _ (.tail _ (.tail _ (.tail _ (.tail _ (.tail _ (.tail _ (.tail _ (.head _))))))))))))))));rw [y]at h;exact h
 refine E.pz s o y t t (aC:=[]) a0 t (by kernel_rfl) (i 1 m n a c b bk C.toks C.gens.size j A d) (bR:=c8 16) (dk:=f1 u.params m n a c b) (c5:=[]) t (by decide) t ?_;intro Y v aG aH Z ab ac ae af;rw [cA Z,Ge];have G:Y.gens.size=C.gens.size:=by refine r af ?_;rfl
 refine ab.seg s o ac ae G (aC:=[]) a0 t (i 2 _ ..) (bR:=c8 18) (dk:=f1 u.params m n a c b++[(bk+101,wZ),(bk+102,cq (a+58) bk #[])]) (c5:=[16,17]) t (by decide) t ?_;intro ah aj ak L _ aI al am an ao;have B:aj=lV g u.params m n a c b bk C.toks C.gens.size j v.p d fc:=ak;subst B;have e:=i 3 m n a c b bk C.toks C.gens.size j v.p d fc;rw [w4]at e;obtain ⟨ap,aq,M⟩:=rt e;refine r ap (r aq ?_);refine r M ?_;rw [M]at L;generalize (lV g u.params m n a c b bk C.toks C.gens.size j v.p d fc).p=N;have ar:ah.gens.size=C.gens.size:=by refine r ao ?_;simp [G]
 refine al.n4 s o am an ar (aC:=[]) a0 L (congrArg lz (i 4 _ ..)) (bR:=[14,15,17]) (dk:=[(a+159,ej a c),(a+160,e5 a b),(bk+102,cq (a+58) bk #[])]) (c5:=[2]) t (by decide) t (jT:=J) t (congrArg nS (i 4 _ ..)) (aW _)
  (R:=λw z f=>z= .ok (.ret .none)/\aa g (· =bk+1+101) p w f/\I f (bk+1+101) (cq (a+58) bk #[H (.ref d)])/\f.heap.objs.size=w.heap.objs.size/\f.gens=w.gens) ?_ ?_
 ·intro w k O _ _;exact GW o i (V 0 200 10 270 t s) k.K (az:=bk+1) (K.fresh (by rw [y];exact cV 101 102 t)) (aX (V 161 101 59 1 t F)) (aX (V 161 101 60 1 t F)) (k.al _ dK) (k.al _ aO) (k.al _ ci)
 refine λw as P q au av aJ k O aK aL=>gs ?_;rintro rfl;intro aw ax ay aM;have B:as=tR g u.params m n a c b bk C.toks C.gens.size j v.p d N:=au;subst B;generalize (tR g u.params m n a c b bk C.toks C.gens.size j v.p d N).p=aP;have Q:cc g p p C [] [] P:= .mk (k.ch.then aw (λx aA=> .inr (by rw [aA,y];exact cV 101 102 t)) aF) a0 .nil a0 a0;have S:P.heap.objs.size=bk+3+101:=by refine r ay (r O ?_);rfl
 refine c2 s o Q.K S t t (D:=[]) a0 .nil (aC:=[]) a0 av (i 5 _ ..) ?_;intro aQ aS aT aU aB aD T;refine r (e' aB) (r (cA aD) ?_);have U:=T.e1 t;exact ai.done (.ok (.ret _)) (X _ _ ⟨t,Q.ch.then U aF aF,U.fr _ _ ax (λh=>h),by refine r T.aZ (r S ?_);rfl⟩)
theorem A9(Q:Base g)(F:gf g u.params)(S:l<=250){az:Nat}(P:az<5)(K:aR g C){m n c w y a b L B o f:Nat}{k:g'}(as:∀x∈f1 u.params m n c w y,I C x.1 x.2)
  (au:I C (a+101) (cq (c+58) L #[H (.ref o)]))(av:I C (b+101) (cq (c+58) B #[H (.ref f)]))(aw:I C (m+101) (de k)){z:Int}(ax:z=0\/z=5\/z= -7)
  (ay:∀d,aa g p p C d->a4 u (l+10) J (.call (E m) ⟨[.ref o,.ref f],[]⟩) d λs aA=>aa g p p d aA/\∃Y,s= .ok (.ret (.int z Y))):
  a4 u l J (.call (.ref (c+(8*az+123))) ⟨[E a,E b],[]⟩) C λs d=>aa g p p C d/\s= .ok (.ret (.bool (rB az z))):=by
 refine a4.c1 λj A=> ?_;obtain ⟨e,aB⟩:=K.size;have aD:cc g p p C (f1 u.params m n c w y++[(a+101,cq (c+58) L #[H (.ref o)]),(b+101,cq (c+58) B #[H (.ref f)]),(m+101,de k)]) [] C:= .start K λx W=>by
  rcases is.mp W with W|W
  ·exact as x W
  ·exact j2 au av aw x W
 refine aD.n4 S Q aB t t (aC:=[]) a0 t (congrArg lz (d0 (F 14 _ ..) P)) (bR:=c8 20) (dk:=f1 u.params m n c w y++[(a+101,cq (c+58) L #[H (.ref o)]),(b+101,cq (c+58) B #[H (.ref f)]),(m+101,de k)]++[(e+101,w2 u.params C.toks a b)]) (c5:=[]) t (by decide) t (jT:=J) t (congrArg nS (d0 (F 14 _ ..) P)) (aW _)
  (R:=λM s d=>s= .ok (.ret (.ref o))/\aa g p p M d/\d.heap.objs.size=M.heap.objs.size) ?_ ?_
 ·intro M Z ak _ _;have ae:=λi x h=>Z.al x (dP (i:=i) h);exact A8 Q F (V 0 250 10 290 t S) Z.K (ae 16 _ t) (ae 14 _ t) (ae 15 _ t)
 refine λM aE N q aG aI a_ Z ak a' ba=>aT ?_;rintro rfl;intro aJ aK;have X:aE=bV g u.params az m n c w y e C.toks C.gens.size j A a b L B o f k:=aG;subst X;generalize (bV g u.params az m n c w y e C.toks C.gens.size j A a b L B o f k).p=ab;have aL:=Z.rh aJ;refine aL.n4 S Q (aK.trans ak) t t (aC:=[]) a0 aI (congrArg lz (d0 (F 15 _ ..) P)) (bR:=[14,15,17,18]) (dk:=[(c+159,ej c w),(c+160,e5 c y),(b+101,cq (c+58) B #[H (.ref f)]),(m+101,de k)]) (c5:=[]) t (by decide) t (jT:=J) t (congrArg nS (d0 (F 15 _ ..) P)) (aW _)
  (R:=λM s d=>s= .ok (.ret (.ref f))/\aa g p p M d/\d.heap.objs.size=M.heap.objs.size) ?_ ?_
 ·intro aM T al _ _;exact A8 Q F (V 0 250 10 290 t S) T.K (T.al _ dK) (T.al _ aO) (T.al _ ci)
 refine λaM aP U q aQ aS bb T al bd be=>aT ?_;rintro rfl;intro aV aX;have X:aP=bc g u.params az m n c w y e C.toks C.gens.size j A a b L B o f k (e+1) N.toks N.gens.size ab:=aQ;subst X;generalize (bc g u.params az m n c w y e C.toks C.gens.size j A a b L B o f k (e+1) N.toks N.gens.size ab).p=am;have ao:=T.rh aV;have aY:I U (m+101) (de k):=ao.al _ kI;have aZ:cc g p p C [(m+101,de k)] [] U:= .mk ao.ch (fk aY) .nil a0 a0;refine aZ.n4 S Q (n:=e+1) (by refine r aX (r al ?_);rfl) t t (aC:=[]) a0 aS (congrArg lz (d0 (F 16 _ ..) P)) (bR:=[]) (dk:=[]) (c5:=[]) t (by decide) t (jT:=J) t (congrArg nS (d0 (F 16 _ ..) P)) (aW _)
  (R:=λM s d=>aa g p p M d/\∃Y,s= .ok (.ret (.int z Y))) ?_ ?_
 ·intro ap af _ _ _;exact ay ap af.ch
 refine λap a1 a2 q a3 a5 bf af bg bh bi=>an λaq=>aH λY=> ?_;rintro rfl;have X:a1=dr g u.params az m n c w y e C.toks C.gens.size j A a b L B o f k (e+1) N.toks N.gens.size ab (e+1) U.toks U.gens.size am:=a3;subst X;generalize (dr g u.params az m n c w y e C.toks C.gens.size j A a b L B o f k (e+1) N.toks N.gens.size ab (e+1) U.toks U.gens.size am).p=bj;have ar:=af.rh aq;obtain ⟨bk,a6⟩:=aq.K.size;have a7:∀{v:Bool} {O:G} {d:ac},es O.t= .ret (.bool v)->O.aU.length=0->aa g p p a2 d->v=rB az z->ai u l J j O.c O.p O.t O.aU d (ei λs d=>aa g p p C d/\s= .ok (.ret (.bool (rB az z)))):=by
  intro v O d ah aj az a8;refine r (e' ah) (r (cA aj) ?_);exact r a8 (ai.done (.ok (.ret _)) ⟨ar.ch.then az aF aF,t⟩)
 exact c2 S Q ar.K a6 t t (D:=[]) a0 .nil (aC:=[]) a0 a5 (mK (d0 (F 17 _ ..) P) (x:=z) (by rcases ax with rfl|rfl|rfl<;>decide)) λd O _ _ ah aj a9=>a7 ah aj (a9.e1 t) t
end
section
variable {g:Nat->Option ab}
theorem GX(K:aR g C){d n e:Nat}{b:List O}(h:C.heap.objs.size=n+101)(o:I C d (ah b e))(i:b≠ [])(q:b.length<=100):
  a4 u l J (.builtin "proto.collect" ⟨[.ref d],[]⟩) C λj c=>j= .ok (.ret (E n))/\aa g p p C c/\I c (n+101) (ah b 1)/\c.heap.objs.size=n+1+101/\c.gens=C.gens:=by
 refine fb.rc (qF F.entry_proto_collect ?_);refine r (sY F.plain_proto_collect _) ?_;refine(?_:bD _ (di J l).in1 (newList []>>=λv=>again (.builtin "list.__iadd__" ⟨[v,.ref d],[]⟩)) _ _ C);refine bl (mC ?_);refine cG ⟨vP F.plain_list_iadd _,qF F.entry_list_iadd ?_⟩;refine r (sY F.plain_list_iadd _) ?_;refine(?_:bD _ (di J l).in1 (iX.List.listExtendWith (.ref C.heap.objs.size) (.ref d) (.ref C.heap.objs.size)) _ _ _);have k:(C.heap.push {cls:= .type "list",data:= .seq ([]:List O).toArray}).get? C.heap.objs.size=H {cls:= .type "list",data:= .seq #[] 0}:=kA _ t;have w:=i1 (i2 (· ++b.toArray)) k t;refine wpAny_extend_seq (A:=di J l) (R:=λj c=>j= .ok (.ret (E n))/\aa g p p C c/\I c (n+101) (ah b 1)/\c.heap.objs.size=n+1+101/\c.gens=C.gens) (hsz:=by
  have:b.toArray.size=b.length:=rfl;exact r this (aS q (by decide))) (s:={C with heap:=C.heap.push {cls:= .type "list",data:= .seq ([]:List O).toArray}}) _ d _ 0 (.inl t) k (nN _ o) t t ?_
 have m:aa g p p C {C with heap:=C.heap.push {cls:= .type "list",data:= .seq ([]:List O).toArray}}:= .push K;have y:=aa.update (f:=i2 (· ++b.toArray)) m.K (a:=C.heap.objs.size) (K.fresh (aW _)) C.toks;refine⟨by refine r h ?_;rfl,m.then y (λx i=> .inr (by rw [i];exact aW _)) aF, ?_, ?_,t⟩
 rotate_left
 ·refine(?_:((C.heap.push _).update _ _).objs.size=_);simp [aY.update,aY.push,h]
  try lia
 refine r (cj h) (w.trans ?_);have e:(#[]:Array O)++b.toArray=⟨b⟩:=by simp
 refine(?_:H (i2 (· ++b.toArray) {cls:= .type "list",data:= .seq #[] 0})=H (ah b 1));refine congrArg H ?_;unfold i2 ah;simp [e,i]
end
section
variable {g:Nat->Option ab}{C cC:ac}{aV:ae->Prop}{L:Nat->Prop}{D:List (ae×ab)}{aQ:List Nat}
theorem cc.get(a:cc g aV L cC D aQ C){i:Nat}{x:ae×ab}(h:dy D i=H x):I C x.1 x.2:=a.al x (dP (by rw [<-i_];exact h))
theorem A_:∀{D:List (ae×ab)} {i:Nat} {a:ae} {b pL:ab},dy D i=H (a,b)->(gM D i (a,pL)).map (·.1)=D.map (·.1)
 | [],_,_,_,_,h=>by cases h
 |x::c,0,a,b,pL,h=>by
  injection h with h;subst h;rfl
 |x::c,i+1,a,b,pL,h=>congrArg (x.1:: ·) (A_ (D:=c) h)
theorem A':∀{D:List (ae×ab)} {i:Nat} {x y:ae×ab},x∈gM D i y->x=y\/∃a,a≠i/\dy D a=H x
 | [],_,_,_,h=>by cases h
 |z::b,0,x,y,h=>by
  rcases b8.mp h with h|h
  ·exact .inl h
  ·obtain ⟨a,c⟩:=oU.mp h;exact .inr ⟨a+1,vm _,by rw [i_];exact c⟩
 |z::b,i+1,x,y,h=>by
  rcases b8.mp h with h|h
  ·exact .inr ⟨0,(vm _).symm,by rw [h];rfl⟩
  ·rcases A' (D:=b) h with h|⟨a,d,f⟩
   ·exact .inl h
   ·exact .inr ⟨a+1,λe=>d (sS e),f⟩
theorem tS:∀{D:List (ae×ab)} {i:Nat} {y:ae×ab},(gM D i y).length=D.length
 | [],0,_=>rfl
 | [],_+1,_=>rfl
 |_::_,0,_=>rfl
 |_::a,i+1,y=>congrArg (· +1) (tS (D:=a))
theorem Ba:∀{D:List (ae×ab)} {i:Nat} {x y:ae×ab},dy D i=H x->dy (gM D i y) i=H y
 | [],_,_,_,h=>by cases h
 |_::_,0,_,_,_=>rfl
 |_::a,_+1,_,_,h=>Ba (D:=a) h
theorem Bb:∀{D:List (ae×ab)} {i a:Nat} {y:ae×ab},a≠i->dy (gM D i y) a=dy D a
 | [],0,_,_,_=>rfl
 | [],_+1,_,_,_=>rfl
 |_::_,0,0,_,h=>absurd t h
 |_::_,0,_+1,_,_=>rfl
 |_::_,_+1,0,_,_=>rfl
 |_::b,i+1,a+1,_,h=>Bb (D:=b) λe=>h (congrArg (· +1) e)
theorem cc.set {l:ac}{a:ae}{z m:ab}{i:Nat}(d:cc g aV L cC D aQ C)(t:aa g (· =a) p C l)(u:i∈aQ)(v:dy D i=H (a,z))(h:I l a m):
  cc g aV L cC (gM D i (a,m)) aQ l:=by
 have n:=A_ (pL:=m) v;have w:(D.map (·.1))[i]? =H a:=by rw [d1,<-i_,v];rfl
 refine⟨d.ch.then t (λx o=> ?_) aF,λx o=> ?_, ?_,λf j b s=>d.px f j b (by exact r (cj n) s),λf j=>by rw [tS];exact d.tq f j⟩
 ·subst o;exact d.px i u x w
 ·rcases A' o with rfl|⟨f,A,y⟩
  ·exact h
  ·have B:x∈D:=dP (by rw [<-i_];exact y);refine t.fr _ _ (d.al x B) λe=>(d.pw i u a w).2 f x.1 (by rw [d1,<-i_,y];rfl) A e
 ·intro f j b s;have q:=d.pw f j b (by exact r (cj n) s);exact⟨q.1,λk c E=>q.2 k c (by exact r (cj n) E)⟩
theorem GY {y z:G}(h:A2 y=A3 z):y.t=z.t:=by
 cases y;cases z;exact h
theorem GZ(a:ae): @i0 O (lT (.ref a)) [.ref a,.type "object"]=[.type "object"]:=by
 have b:lT (.ref a) (.ref a)=false:=by
  refine(?_:(!(@pb O ru _ _))=aN);rw [w3];rfl
 have c:lT (.ref a) (.type "object")=true:=by kernel_rfl
 refine r (show @i0 O= @List.filter O from by rw [PySem.W.R.filterR_eq]) ?_;simp [b,c]
theorem G0(N:Base g){c k y:Nat}(v:kS c g u.params)(az:j0 g u.params)(P:l<=80){m n s:Nat}{j:List (aL×ap)}
  (aA:cc g aV p cC (rx c k y m n) (ry c) C)(aB:C.heap.objs.size=s+101):
  Q u l J j (.func hF.1 (j1 n)) (AN (ix 0) (j1 n)) (λf w=>f= .next/\∃ao L A z B F K S U aq as av,
   cc g aV p cC (h8 g u.params c k y m n s ao L j A z B F K S aq U as av).D (h7 c) w/\w.heap.objs.size=d c s+6+101) (λ_ _=>False) C:=by
 refine(Q.cM (cJ:=λT w=>T= .ok .next/\∃ao L A z B F K S U aq as av,
   cc g aV p cC (h8 g u.params c k y m n s ao L j A z B F K S aq U as av).D (h7 c) w/\w.heap.objs.size=d c s+6+101) λA=> ?_).mono ?_ ?_
 ·refine aA.seg (bm t P) N aB t t (aC:=[]) a0 t (v 1 _ ..) (c5:=tP c) (v 23 k y m n) lr t ?_;intro aR aT aU bT _ aX aD aY aZ a1;have M:aT=jh g u.params c k y m n s C.toks C.gens.size j A (ix 0):=aU;subst M;refine r ((v 2) k y m n s C.toks C.gens.size j A (ix 0)) (r (cA aX) ?_);generalize (jh g u.params c k y m n s C.toks C.gens.size j A (ix 0)).p=bU;refine ai.hole (v 3 _ ..) t (m:=ix 0) (aG:=λ_ w=>w=aR) (af:=λ_ _=>False) (F7 0 (N.lim _ aD.K.kt) ?_ rfl) ?_ (λ_ _ _ h=>h.elim)
  ·exact vo (dZ (ey P 301) (show 381<999 by decide))
  rintro a z w rfl;cases a;have aE:w.gens.size=C.gens.size:=by refine r a1 ?_;rfl
  refine aD.seg (bm t P) N (n:=rv c s) aY (o:=C.toks+bK c 8 2) aZ aE (aC:=[]) a0 t (v 4 _ ..) (c5:=lU c) (by rw [(v 13)];exact v 24) lr t ?_;intro a2 a3 a4 a5 a6 bV a7 a8 a9 a_;have M:a3=hG g u.params c k y m n s C.toks C.gens.size j A z:=a4;subst M;refine r (kL a6) (ai.again _ (by kernel_rfl) ?_);rw [Gb];generalize (hG g u.params c k y m n s C.toks C.gens.size j A z).p=B;have aF:a2.gens.size=C.gens.size:=by refine r a_ ?_;simp [aE]
  refine a7.n4 (bm t P) N (n:=d c s) a8 (o:=C.toks+bK c 8 2+bK c 65 18) a9 aF (aC:=[]) a0 a5 (congrArg lz (v 5 _ ..)) (c5:=lU c) (by rw [(v 14)];exact v 25) lr t (jT:=J) t (congrArg nS (v 5 _ ..)) (aW _)
   (R:=λY T w=>T= .ok (.ret (E (d c s)))/\aa g p p Y w/\I w (d c s+101) (ah [.str ⟨⟨nU⟩⟩ (C.toks+bK c 15 9)] 1)/\w.heap.objs.size=d c s+1+101/\w.gens=Y.gens) ?_ ?_
  ·intro Y aj aw _ _;exact GX aj.K aw (aj.get (v 17 _ ..)) (by simp) (by simp)
  refine λY a' G q ba aH bW aj aw bX bb=>gs ?_;rintro rfl;intro bc bd be bf;have M:a'=pK g u.params c k y m n s C.toks C.gens.size j A z B (@i0 O):=ba;subst M;have ak:=v 7 k y m n s C.toks C.gens.size j A z B (@i0 O);simp only [eZ]at ak;refine r ak.1 (r ak.2 ?_);rw [ak.2]at aH;generalize (pK g u.params c k y m n s C.toks C.gens.size j A z B (@i0 O)).p=F;have bg:=aj.wC (ar:=[(d c s+101,ah [.str ⟨⟨nU⟩⟩ (C.toks+bK c 15 9)] 1)]) bc (fk bd) (λx Z=>by rw [bQ]at Z;subst Z;rw [aw];exact aW _);have bh:Y.gens.size=C.gens.size:=by refine r bb ?_;simp [aF]
  have aI:G.gens.size=C.gens.size:=by exact r bf bh
  refine bg.seg (bm t P) N (n:=d c s+1) be (o:=G.toks) t aI (aC:=[]) a0 aH (v 6 _ ..) (c5:=rz c) (by rw [e9,(v 14)];exact v 26) lr t ?_;intro bi bj bk aJ _ bY bl bn bo bp;have M:bj=ji g u.params c k y m n s C.toks C.gens.size j A z B F (@i0 O) G.toks:=bk;subst M;have al:=v 8 k y m n s C.toks C.gens.size j A z B F G.toks (@i0 O);simp only [eZ]at al;have aK:=GY (v 9 k y m n s C.toks C.gens.size j A z B F G.toks (@i0 O));rw [show(fun(_:O->Bool) (_:List O)=> @i0 O (lT (E (d c s+2))) [E (d c s+2),.type "object"])=λ_ _=>[.type "object"]from by funext _ _;exact GZ _]at aK;refine r al.1 (r al.2 ?_);refine r aK ?_;rw [al.2]at aJ;generalize (ji g u.params c k y m n s C.toks C.gens.size j A z B F (@i0 O) G.toks).p=K;have aM:bi.gens.size=C.gens.size:=by refine r bp ?_;simp [aI]
  refine bl.n4 (bm t P) N (n:=d c s+3) bn (o:=G.toks+0) bo aM (aC:=[]) a0 aJ (congrArg lz (v 10 _ ..)) (c5:=h7 c) (by rw [(v 15)];exact v 27) lr t (jT:=J) t (congrArg nS (v 10 _ ..)) (aW _)
   (R:=λab T w=>T= .ok (.ret .none)/\aa g (· =d c s+4+101) p ab w/\I w (d c s+4+101) (e4 (E (d c s+2)) (E (d c s+2)) (E (d c s+2)))/\w.heap.objs.size=ab.heap.objs.size/\w.gens=ab.gens) ?_ ?_
  ·intro ab ac aO _ _;have q:=v 18 k y m n s C.toks C.gens.size j A z B F K G.toks;simp only [eZ]at q;exact GS N az (V 0 80 60 150 t P) ac.K (b:=d c s+4) (k:=d c s+2) (aA.K.fresh (by rw [aB];exact aS (g7 (aS (dq s _) (dq _ _)) 101) (g7 (dq _ 4) 101))) (bA 2 4 t) (ac.get q.2) (ac.get q.1)
  refine λab br W q bs bt bZ ac aO b0 bu=>gs ?_;rintro rfl;intro bv bw bx bz;have M:br=iF g u.params c k y m n s C.toks C.gens.size j A z B F K G.toks:=bs;subst M;have f':=v 18 k y m n s C.toks C.gens.size j A z B F K G.toks;simp only [eZ]at f';have bB:=ac.set bv (i:=cz c+4) (mn _ ci) f'.2 bw;generalize (iF g u.params c k y m n s C.toks C.gens.size j A z B F K G.toks).p=S;have aP:W.gens.size=C.gens.size:=by refine r bz (r bu ?_);simp [aM]
  refine bB.n4 (bm t P) N (n:=d c s+5) (bx.trans aO) (o:=W.toks) t aP (aC:=[]) a0 bt (congrArg lz (v 11 _ ..)) (c5:=h7 c) (by rw [tS,(v 16)];exact v 28) lr t (jT:=J) t (congrArg nS (v 11 _ ..)) (aW _)
   (R:=λX T w=>T= .ok (.ret (E (d c s+5)))/\aa g p p X w/\I w (d c s+5+101) (n_ (d c s+2))/\w.heap.objs.size=d c s+5+1+101/\w.gens=X.gens) ?_ ?_
  ·intro X ae ax _ _;have bC:I X (d c s+2+101) (e3 (A4 (gc (iF g u.params c k y m n s C.toks C.gens.size j A z B F K G.toks).D (cz c+2))) (d c s+2) (gc (iF g u.params c k y m n s C.toks C.gens.size j A z B F K G.toks).D (cz c+2)).slots):=by
    refine ae.al (_,_) (dP (i:=cz c+2) ?_);rw [<-i_];unfold rA;rw [Bb (bA 2 4 t)];exact f'.1
   have bD:I X (d c s+4+101) (e4 (E (d c s+2)) (E (d c s+2)) (E (d c s+2))):=by
    refine ae.al (_,_) (dP (i:=cz c+4) ?_);rw [<-i_];unfold rA;exact Ba f'.2
   exact GV N az (V 0 80 60 150 t P) ae.K (b:=d c s+4) (k:=d c s+2) ax bD bC
  refine λX bE am q bF bG b2 ae ax b3 bH=>gs ?_;rintro rfl;intro bI bJ bL bM;have M:bE=tQ g u.params c k y m n s C.toks C.gens.size j A z B F K S G.toks W.toks:=bF;subst M;generalize (tQ g u.params c k y m n s C.toks C.gens.size j A z B F K S G.toks W.toks).p=U;have bN:am.gens.size=C.gens.size:=by refine r bM (r bH ?_);simp [aP]
  have bO:=ae.wC (ar:=[(d c s+5+101,n_ (d c s+2))]) bI (fk bJ) (λx Z=>by rw [bQ]at Z;subst Z;rw [ax];exact aW _);refine bO.Fp (bm t P) N (n:=d c s+6) (m:=0) (i:=1) (au:=[]) (bR:=c8 (cz c+6)) (dk:=(h8 g u.params c k y m n s C.toks C.gens.size j A z B F K S G.toks U W.toks am.toks).D) bL (o:=am.toks) t bN (aC:=[]) a0 bG (v 12 _ ..) (c5:=h7 c) (by refine r e9 (r tS ?_);rewrite [(v 16)];exact v 29) lr t ?_;intro b4 bP bS _ _;exact⟨t,C.toks,C.gens.size,A,z,B,F,K,S,U,G.toks,W.toks,am.toks,bP,bS⟩
 ·refine λf w=>an λay aQ=> ?_;cases ay;exact⟨t,aQ⟩
 ·refine λe w=>an λay aQ=> ?_;cases ay
end
open PyProof.Rows
section
variable {g:Nat->Option ab}{aV:ef}{af:O->ac->Prop}
theorem a4.code {c:aL}{R:bZ->ac->Prop}(h:a4 u l Y c C R)(b:aV.handled=Y)(d:aV.depth<=301+l)(e:aV.units<=4+3*l):mz (b1 bH u) aV c R C:=λf A g a=>
 fb.code h f A g ⟨a.1.trans b,aS a.2.1 d,(λ_ h=>nomatch h),(λ_ h=>nomatch h),aS a.2.2.2.2 e⟩
theorem a4.call {f:O}{pos:List O}{R:bZ->ac->Prop}{c:O->ac->Prop}(h:a4 u l Y (.call f ⟨pos,[]⟩) C R)(d:aV.handled=Y)(e:aV.depth<=301+l)(g:aV.units<=4+3*l)
  (k:∀a b,R a b->∃v,a= .ok (.ret v)/\c v b):bD (b1 bH u) aV (f8 f pos) c af C:=
 qH ((h.mono λa b i=>by
  obtain ⟨v,rfl,j⟩:=k a b i;exact j).code d e g)
noncomputable def gV(P:a1)(m n a b c:Nat)(h:aY):Prop:=∀x∈f1 P m n a b c,h.get? x.1=H x.2
theorem gV.at {m n a b c:Nat}{h:aY}{P:a1}(K:gV P m n a b c h)(i:Nat){x:ae×ab}(e:(f1 P m n a b c)[i]? =H x):h.get? x.1=H x.2:=K x (dP e)
noncomputable def tT(a:ab):Array DictEntry:=match a.data with
 | .dict b _=>b
 |_=>#[]
theorem w5 {b:List gp}(h:∀e∈b,∃n M,e.key= .str n M):StrKeys ⟨b⟩:=λe a=>h e (by
 rcases a with⟨a⟩;exact a)
theorem pM {m n a b c:Nat}{h:aY}{P:a1}(K:gV P m n a b c h):h.Ns (a+158) (nsFind (tT (AY P a b c))):=
 ⟨_,_,_,K.at 13 t,t,by
  refine w5 ?_;exact a_ (bh _ _ t)<|a_ (bh _ _ t)<|a_ (bh _ _ t)<|a_ (bh _ _ t)<|a_ (bh _ _ t)<|a_ (bh _ _ t)<|a_ (bh _ _ t)<|a_ (bh _ _ t)<|a_ (bh _ _ t)<|a_ (bh _ _ t)<|a_ (bh _ _ t)<|a_ (bh _ _ t)<|a_ (bh _ _ t)<|dG,λ_=>t⟩
theorem ob {C a:ac}{P:a1}{m n b c d:Nat}(K:gV P m n b c d C.heap)(e:aa g p p C a):gV P m n b c d a.heap:=λx f=>e.fr _ _ (K x f) (λh=>h)
section
variable {m n s o cH a b f h d e:Nat}{d4:g'}{z:Int}(x:Base g)(y:gf g u.params)(K:aR g C)(i:gV u.params m n s o cH C.heap)(k:I C (a+101) (cq (s+58) f #[H (.ref d)]))(q:I C (b+101) (cq (s+58) h #[H (.ref e)]))(D:I C (m+101) (de d4))(F:z=0\/z=5\/z= -7)(G:l<=250)(L:∀am,aa g p p C am->a4 u (l+10) J (.call (E m) ⟨[.ref d,.ref e],[]⟩) am λa3 G1=>aa g p p am G1/\∃bx,a3= .ok (.ret (.int z bx)))(N:aV.handled=J)(Q:aV.depth<=301+l)(R:aV.units+1<=4+3*l)(S:aV.units+1<mw)
include i k in
theorem Bc:C.heap.OwnSpecial (a+101) (s+159) (s+123) "object" "__lt__":=
 gr _ _ _ _ _ _ _ _ (gr _ _ _ _ _ _ _ _ (q4 _ _ _ _ (H (.builtin "object.__lt__")) ⟨k,t,i.at 14 t,pM i,by kernel_rfl,i.at 4 t,t,lA.mro,by kernel_rfl⟩))
include x y K i k q D F G L N Q R in
theorem pN {az:Nat}(e:az<5){aG:O->ac->Prop}(h:∀c,aa g p p C c->aG (.bool (rB az z)) c):bD (b1 bH u) aV (f8 (.ref (s+(8*az+123))) [E a,E b]) (λv c=>∃b,v= .bool b/\aG (.bool b) c) af C:=
 a4.call (A9 (l:=l) x y G e K i k q D F L) N Q (Nat.le_of_succ_le (by assumption)) λf c d=>⟨_,d.2,_,t,h c d.1⟩
include x y K i k q D F G L N Q R S in
theorem G2 {c:O->ac->Prop}(h:∀e,aa g p p C e->c (.bool (decide (z<0))) e):bD (b1 bH u) aV (hz .Lt (E a) (E b)) c af C:=by
 obtain ⟨j,l,d,M,os⟩:=C;exact qI (sym:="<") (f:="__lt__") (r:="__gt__") t ⟨by simp,by simp,by simp,by simp⟩ (Bc i k) q t (V 2 0 1 0 t S) (pN (az:=0) x y K i k q D F G L N Q R (by decide) h)
include i k in
theorem G3:C.heap.OwnSpecial (a+101) (s+159) (s+131) "object" "__gt__":=
 gr _ _ _ _ _ _ _ _ (gr _ _ _ _ _ _ _ _ (q4 _ _ _ _ (H (.builtin "object.__gt__")) ⟨k,t,i.at 14 t,pM i,by kernel_rfl,i.at 6 t,t,lA.mro,by kernel_rfl⟩))
include x y K i k q D F G L N Q R S in
theorem G4 {c:O->ac->Prop}(h:∀e,aa g p p C e->c (.bool (decide (0<z))) e):bD (b1 bH u) aV (hz .Gt (E a) (E b)) c af C:=by
 obtain ⟨j,l,d,M,os⟩:=C;exact qI (sym:=">") (f:="__gt__") (r:="__lt__") t ⟨by simp,by simp,by simp,by simp⟩ (G3 i k) q t (V 2 0 1 0 t S) (pN (az:=1) x y K i k q D F G L N Q R (by decide) h)
include i k in
theorem G5:C.heap.OwnSpecial (a+101) (s+159) (s+139) "object" "__eq__":=
 gr _ _ _ _ _ _ _ _ (gr _ _ _ _ _ _ _ _ (q4 _ _ _ _ (H (.builtin "object.__eq__")) ⟨k,t,i.at 14 t,pM i,by kernel_rfl,i.at 8 t,t,lA.mro,by kernel_rfl⟩))
include x y K i k q D F G L N Q R S in
theorem G6 {c:O->ac->Prop}(h:∀e,aa g p p C e->c (.bool (decide (z=0))) e):bD (b1 bH u) aV (hz .Eq (E a) (E b)) c af C:=by
 obtain ⟨j,l,d,M,os⟩:=C;exact qI (sym:="==") (f:="__eq__") (r:="__eq__") t ⟨by simp,by simp,by simp,by simp⟩ (G5 i k) q t (V 2 0 1 0 t S) (pN (az:=2) x y K i k q D F G L N Q R (by decide) h)
include i k in
theorem G7:C.heap.OwnSpecial (a+101) (s+159) (s+147) "object" "__le__":=
 gr _ _ _ _ _ _ _ _ (gr _ _ _ _ _ _ _ _ (q4 _ _ _ _ (H (.builtin "object.__le__")) ⟨k,t,i.at 14 t,pM i,by kernel_rfl,i.at 10 t,t,lA.mro,by kernel_rfl⟩))
include x y K i k q D F G L N Q R S in
theorem G8 {c:O->ac->Prop}(h:∀e,aa g p p C e->c (.bool (decide (z<=0))) e):bD (b1 bH u) aV (hz .LtE (E a) (E b)) c af C:=by
 obtain ⟨j,l,d,M,os⟩:=C;exact qI (sym:="<=") (f:="__le__") (r:="__ge__") t ⟨by simp,by simp,by simp,by simp⟩ (G7 i k) q t (V 2 0 1 0 t S) (pN (az:=3) x y K i k q D F G L N Q R (by decide) h)
include i k in
theorem G9:C.heap.OwnSpecial (a+101) (s+159) (s+155) "object" "__ge__":=
 gr _ _ _ _ _ _ _ _ (gr _ _ _ _ _ _ _ _ (q4 _ _ _ _ (H (.builtin "object.__ge__")) ⟨k,t,i.at 14 t,pM i,by kernel_rfl,i.at 12 t,t,lA.mro,by kernel_rfl⟩))
include x y K i k q D F G L N Q R S in
theorem G_ {c:O->ac->Prop}(h:∀e,aa g p p C e->c (.bool (decide (0<=z))) e):bD (b1 bH u) aV (hz .GtE (E a) (E b)) c af C:=by
 obtain ⟨j,l,d,M,os⟩:=C;exact qI (sym:=">=") (f:="__ge__") (r:="__le__") t ⟨by simp,by simp,by simp,by simp⟩ (G9 i k) q t (V 2 0 1 0 t S) (pN (az:=4) x y K i k q D F G L N Q R (by decide) h)
include i k in
theorem G':C.heap.OwnEqNoNe (a+101) (s+159) (s+139) "object" [.type "object"]:=
 gr _ _ _ _ _ _ _ _ (gr _ _ _ _ _ _ _ _ (h4 _ _ _ (H (.builtin "object.__eq__")) ⟨k,t,i.at 14 t,pM i,by kernel_rfl,i.at 8 t,t,lA.mro,by kernel_rfl,by kernel_rfl⟩))
include x y K i k q D F G L N Q R S in
theorem Ha {e:O->ac->Prop}(h:∀c,aa g p p C c->e (.bool (!decide (z=0))) c):bD (b1 bH u) aV (hz .NotEq (E a) (E b)) e af C:=by
 obtain ⟨j,m,d,M,os⟩:=C;refine compareOp_ne_ownEq lA (G' i k) q t S (a4.call (A9 (az:=2) (l:=l) x y G (by decide) K i k q D F L) N Q (by refine(?_:aV.units+1<=_);exact R) λn c f=>⟨_,f.2,_,t,h c f.1⟩)
include x y K i k q D F G L N Q R S in
theorem Hb {f:Bool->ac->Prop}(h:∀c,aa g p p C c->f (decide (z<0)) c):bD (b1 bH u) aV (keyLt' oneType' (E a) (E b)) f af C:=by
 rw [keyLt'_oneType,oneLt'_eq];simp only [if_true];refine bl (wpAny_cRoomFor (V 2 0 1 0 t S) ?_);obtain ⟨n,o,d,M,os⟩:=C;refine bl (wpAny_callSpecialIfBound?_own (Bc i k) ?_);refine o1 (pN (az:=0) (aG:=λv c=>∃b,v= .bool b/\f b c) x y K i k q D F G L N Q R (by decide) λc j=>⟨_,t,h c j⟩) ?_ λ_ _ e=>e;refine λv c=>aH λb=>an ?_;rintro rfl;refine aH λr=>an λl m=> ?_;cases l;exact wpAny_truthy_bool m
end
end
end
open Av Ax wQ wR Az wS AA wT AF AM wU AW wW AZ wX wY A5 w0 w1 A7
section
open PySem PySem.W PyProof.Rows
section
noncomputable def lY(c:Nat->Nat)(a b:Nat):Prop:=c a<c b\/(c a=c b/\a<b)
theorem lY.le {c:Nat->Nat}{a b:Nat}(h:lY c a b):c a<=c b:=h.elim eW λh=>ew h.1
theorem Bd {c:Nat->Nat}{a b:Nat}(h:c a<=c b)(k:a<b):lY c a b:=(Nat.lt_or_eq_of_le h).imp id λh=>⟨h,k⟩
theorem tU {i d k c:Nat}(e:k+c+1=i+d)(f:i<=k)(g:k<d):i<=c/\c<d:=
 ⟨yG (b:=d) (by rw [<-e,hU,iq c d];exact g7 g c),yH (a:=i) (by rw [<-e];exact qr (g7 f c))⟩
theorem tV {i a k:Nat}(d:i<=k)(b:k<a):∃c,k+c+1=i+a:=⟨i+a-(k+1),by rw [hU];exact Nat.add_sub_of_le (aS b (hT a i))⟩
theorem Be {a d b c C:Nat}(h:a+d+1=C)(k:b+c+1=C)(q:a<b):c<d:=yI (by rw [show a+d=b+c from sS (h.trans k.symm)];exact Nat.add_lt_add_right q c)
structure cu(n:Nat)(A:Array Nat):Prop where
 z:A.size=n
 perm:A.toList.Perm (c8 n)
noncomputable def bf(A:Array Nat)(i:Nat):Nat:=A.getD i 0
variable {A:Array Nat}{a3:Nat->Nat}
theorem jj(h:cu n A){i:Nat}(a:i<n):A[i]? =H (bf A i):=by
 have b:=h.z;have c:i<A.size:=aD 1 0 0 0 1 0 t a (ao b);unfold bf;simp [Array.getD,c]
theorem cu.lt(h:cu n A){i:Nat}(a:i<n):bf A i<n:=by
 have:=jj h a;have b:bf A i∈A.toList:=by
  have c:i<A.toList.length:=by rw [sU,h.z];exact a
  exact dP (i:=i) (by rw [vZ];exact this)
 have:=(h.perm.mem_iff).mp b;exact mr.mp this
theorem cu.inj(h:cu n A){i c:Nat}(d:i<n)(f:c<n)(e:bf A i=bf A c):i=c:=by
 have g:A.toList.Nodup:=h.perm.nodup_iff.mpr lr;have a:=jj h d;have b:=jj h f;rw [e]at a;rw [<-vZ]at a b;obtain ⟨j,a⟩:=g8.mp a;obtain ⟨k,b⟩:=g8.mp b;exact(List.getElem_inj g).mp (a.trans b.symm)
theorem cu.start:cu n (nI (c8 n)):=⟨by simp,by simp⟩
noncomputable def fR(n:Nat)(A:Array Nat)(k:Nat):Prop:=∀a,k<=a->a<n->bf A a=a
theorem fR.below(h:cu n A){k:Nat}(b:k<=n)(M:fR n A k){i:Nat}(a:i<k):bf A i<k:=by
 rcases fV (bf A i) k with q|q
 ·exact q
 ·have e:=M (bf A i) q (h.lt (aD 1 0 0 0 1 0 t a b));have:=h.inj (h.lt (aD 1 0 0 0 1 0 t a b)) (aD 1 0 0 0 1 0 t a b) e;exact aD 0 0 1 0 1 0 t (aB this) a
theorem cu.rev(h:cu n A)(i a:Nat):cu n (jI A i a):=⟨(mirror_size _ _ _ _).trans h.z,by
 have:=mirror_perm A i a ((a-i)/2);exact(zh.mp this).trans h.perm⟩
theorem cu.Bf(h:cu n A)(i a:Nat):cu n (pa A i a):=⟨(bubble_size _ _ _).trans h.z,(zh.mp (bubble_perm A i a)).trans h.perm⟩
theorem Bg(h:cu n A){i a:Nat}(b:a<=n){k:Nat}(c:k<n):H (bf (jI A i a) k)=if i<=k/\k<a then A[i+a-1-k]? else A[k]? :=
 (jj (h.rev i a) c).symm.trans (getElem?_mirror_all (xs:=A) (i:=i) (j:=a) (by rw [h.z];exact b) k)
theorem pO(h:cu n A){i a:Nat}(b:a<=n){k w6:Nat}(d:i<=k)(c:k<a)(e:k+w6+1=i+a):bf (jI A i a) k=bf A w6:=by
 have f:=Bg h (i:=i) b (bP c b);rw [if_pos ⟨d,c⟩,<-e,Nat.add_sub_cancel,Nat.add_sub_cancel_left,jj h (bP (tU e d c).2 b)]at f;exact o' f
theorem pP(h:cu n A){i a:Nat}(d:a<=n){k:Nat}(b:k<n)(e:¬(i<=k/\k<a)):bf (jI A i a) k=bf A k:=by
 have c:=Bg h (i:=i) d b;rw [if_neg e,jj h b]at c;exact o' c
theorem Hc(h:cu n A){kT d:Nat}(f:kT<n)(Y:d<=kT){k:Nat}(a:k<n):bf (pa A kT d) k=if k=kT-d then bf A kT else if kT-d<k/\k<=kT then bf A (k-1)else bf A k:=by
 have e:=getElem?_bubble (xs:=A) (src:=kT) (by rw [h.z];exact f) d Y k;rw [jj (h.Bf kT d) a]at e;split at e
 ·rename_i b;rw [jj h f]at e;injection e with e;rw [if_pos b];exact e
 ·rename_i b;rw [if_neg b];split at e
  ·rename_i c;rw [jj h (dZ (oR k 1) a)]at e;injection e with e;rw [if_pos c];exact e
  ·rename_i c;rw [jj h a]at e;injection e with e;rw [if_neg c];exact e
noncomputable def ep(a3:Nat->Nat)(A:Array Nat)(m:Nat):Prop:=∀i a,i<a->a<m->lY a3 (bf A i) (bf A a)
section
variable {jk:Nat->Nat->(Bool->ac->Prop)->ac->Prop}{dt:ac->Prop}
variable(o:∀i bi (ck:Bool->ac->Prop) C,i<n->bi<n->i≠bi->dt C->(∀am,dt am->ck (decide (a3 i<a3 bi)) am)->jk i bi ck C)
include o
theorem rD {b:Type}{k:Bool->KasT b}{c:b->ac->Prop}(h:cu n A){i a:Nat}(d:i<n)(f:a<n)(j:i≠a){C:ac}(l:dt C)
  (m:∀g,dt g->(k (decide (a3 (bf A i)<a3 (bf A a)))).kasWp jk c g):(KasT.ask (A.getD i 0) (A.getD a 0) k).kasWp jk c C:=
 o _ _ _ _ (h.lt d) (h.lt f) (λe=>j (h.inj d f e)) l m
theorem Hd(h:cu n A){m:Nat}(g:1<=m)(c:m<n)(M:fR n A m)(d:ep a3 A m)(f:¬a3 (bf A m)<a3 (bf A (m-1))):ep a3 A (m+1):=by
 clear o;intro i a b j;rcases fV a m with q|q
 ·exact d i a b q
 ·have:a=m:=dF (V 1 1 0 0 t j) (q);subst this;have k:=fR.below h (V 1 0 0 0 t c) M b;have e:=M a (aW _) c;refine Bd ?_ (e.symm▸k);rcases fV i (a-1)with bc|bc
  ·exact aS (d i (a-1) bc (oS g nF)).le (eJ f)
  ·have:i=a-1:=dF (nG b) bc;subst this;exact eJ f
theorem w7 {j:Nat}(p:j<=n)(h:cu n A):∀(f m:Nat) (C:ac) {s:Nat->ac->Prop},1<=m->m+f=j->fR n A m->ep a3 A m->dt C->
  (∀g l,dt l->m<=g->g<=j->ep a3 A g->(g=j\/(g<j/\a3 (bf A g)<a3 (bf A (g-1))))->s g l)->(kas_asc A f m).kasWp jk s C
 |0,m,C,s,i,e,M,u,v,k=>k m C v (aW _) ((aB e)) u (.inl (dF ((aB e)) ((ao e))))
 |f+1,m,C,s,i,e,M,u,v,k=>by
  unfold kas_asc;refine rD o h (cy 1 0 0 0 0 0 1 0 t i8 (aB e) p) (aD 1 0 0 0 1 0 t (aq 1 0 0 0 (aq 0 0 1 0 (oR _ _) i8) (aB e)) p) (aX ((ew (ir (i))))) v λl w=> ?_
  by_cases q:a3 (bf A m)<a3 (bf A (m-1))
  ·exact r (decide_eq_true q) (r (if_pos t) (k m l w (aW _) (aD 1 0 0 0 0 0 t i8 (aB e)) u (.inr ⟨aD 1 0 0 0 1 0 t i8 (aB e),q⟩)))
  ·exact r (decide_eq_false q) (r (if_neg (by simp)) (w7 p h f (m+1) l (V 1 0 1 1 t i) ((nE _ _).trans e) (λx i y=>M x (V 1 0 0 0 t i) y) (Hd o h i (cy 1 0 0 0 0 0 1 0 t i8 (aB e) p) M u q) w λg z a b c d e=>k g z a (V 1 0 0 0 t b) c d e))
structure oc(a3:Nat->Nat)(A:Array Nat)(m q:Nat):Prop where
 lo:q+1<=m
 a:∀i bi,i<bi->bi<m-(q+1)->lY a3 (bf A bi) (bf A i)
 b:∀i bi,i<m-(q+1)->m-(q+1)<=bi->bi<m->a3 (bf A bi)<a3 (bf A i)
 c:∀i bi,m-(q+1)<=i->i<bi->bi<m->a3 (bf A i)=a3 (bf A bi)/\bf A i<bf A bi
noncomputable def m5(a3:Nat->Nat)(A:Array Nat)(m:Nat):Prop:=∀i a,i<a->a<m->lY a3 (bf A a) (bf A i)
omit o in
theorem oc.Bh(h:cu n A){m q:Nat}(a:m<=n)(F:oc a3 A m q):m5 a3 (jI A (m-(q+1)) m) m:=by
 intro i k f d;have e:=hV f d;rcases fV k (m-(q+1))with b|b
 ·exact r (pP h a (bP d a) (λq=>gG b q.1)) (r (pP h a (bP e a) (λq=>gG (hV f b) q.1)) (F.a i k f b))
 ·obtain ⟨l,g⟩:=tV b d;obtain ⟨o,p⟩:=tU g b d;refine r (pO h a b d g) ?_;rcases fV i (m-(q+1))with c|c
  ·rw [pP h a (bP e a) (λq=>gG c q.1)];exact .inl (F.b i l c o p)
  ·obtain ⟨s,j⟩:=tV c e;rw [pO h a c e j];exact .inr (F.c l s o (Be j g f) (tU j c e).2)
omit o in
theorem oc.Bi {m:Nat}(F:oc a3 A m 0):m5 a3 A m:=by
 intro i a b d;rcases fV a (m-1)with c|c
 ·exact F.a i a b c
 ·exact .inl (F.b i a (bP b (nG d)) c d)
omit o in
theorem m5.down(h:cu n A){m:Nat}(b:1<=m)(k:m<n)(F:m5 a3 A m)(e:a3 (bf A m)<a3 (bf A (m-1))):oc a3 A (m+1) 0:=by
 refine⟨V 1 0 1 1 t b,λi a f g=>F i a f g,λi a j c d=> ?_,λi a b c d=>absurd (dZ b c) (cx (io d))⟩;have:a=m:=dF (io d) c;subst this;rcases fV i (a-1)with q|q
 ·exact bP e (F i (a-1) q (oS b nF)).le
 ·have:i=a-1:=dF (nG j) q;subst this;exact e
omit o in
theorem tW(h:cu n A){m i:Nat}(c:m<=n)(M:fR n A m):fR n (jI A i m) m:=λd a b=>by
 rw [pP h c b λq=>cx a q.2];exact M d a b
structure He(n a:Nat)(a3:Nat->Nat)(y:Array Nat×Nat×Nat):Prop where
 mY:cu n y.1
 lo:1<=y.2.1
 dY:y.2.1<=a
 t:fR n y.1 y.2.1
 f:oc a3 y.1 y.2.1 y.2.2
theorem tX {x:Nat}(z:x<=n):∀(f:Nat) (A:Array Nat) (m q:Nat) (C:ac) {B:Array Nat×Nat×Nat->ac->Prop},cu n A->m+f=x->fR n A m->oc a3 A m q->dt C->
  (∀y v,dt v->He n x a3 y->B y v)->(kas_desc f A m q).kasWp jk B C
 |0,A,m,q,C,B,h,e,M,F,G,k=>k _ _ G ⟨h,aS (hT 1 q) F.lo,ew e,M,F⟩
 |f+1,A,m,q,C,B,h,e,M,F,G,k=>by
  have D:=F.lo;have u:1<=m:=aS (hT 1 q) D;have Q:m<x:=aD 1 0 0 0 1 0 t i8 (aB e);have j:m<n:=bP Q z;have w:=eW j;have p:m-1<m:=oS u nF;have I:=(nE _ _).trans e;have K:∀{A},fR n A m->fR n A (m+1):=λM g u T=>M g (Nat.le_of_succ_le u) T;unfold kas_desc;refine rD o h j (hV p j) (aX p) G λv L=> ?_
  by_cases c:a3 (bf A m)<a3 (bf A (m-1))
  ·refine r (decide_eq_true c) ?_;refine r (if_pos t) ?_;rcases qt q with l|l
   ·subst l;exact r (if_neg (eK 0)) (tX z f A (m+1) 0 v h I (K M) (F.Bi.down h D j c) L k)
   ·refine r (if_pos l) ?_;have R:=h.rev (m-(q+1)) m;have E:m-(q+1)<m-1:=Nat.sub_lt_sub_left (bP (vo l) D) (vo l);refine tX z f _ (m+1) 0 v R I (K (tW h w M)) ((F.Bh h w).down R u j ?_) L k;rw [pP h w j λq=>eK _ q.2,pO h w (eW E) p (by rw [hU,ir u,iq])];exact nH c (F.c _ _ (aW _) E p).1.symm
  ·refine r (decide_eq_false c) ?_;refine r (if_neg jE) (rD o h (hV p j) j (a7 p) L λU S=> ?_)
   by_cases l:a3 (bf A (m-1))<a3 (bf A m)
   ·exact r (decide_eq_true l) (r (if_pos t) (k _ _ S ⟨h,u,eW Q,M,F⟩))
   ·refine r (decide_eq_false l) ?_;refine r (if_neg jE) ?_;have N:a3 (bf A m)=a3 (bf A (m-1)):=dF ((eJ l)) ((eJ c));have V:=M m (aW _) j;have E:m-(q+1)<=m-1:=Nat.sub_le_sub_left (hT 1 q) m;have O:m+1-(q+1+1)=m-(q+1):=Nat.succ_sub_succ m (q+1);refine tX z f A (m+1) (q+1) U h I (K M) ⟨qr D,λi g a b=>F.a i g a (O▸b),λi g a b d=> ?_,λi g a b d=> ?_⟩ S k
    ·rw [O]at a b;rcases fV g m with s|s
     ·exact F.b i g a b s
     ·have:g=m:=dF (io d) s;subst this;exact r N (F.b i (g-1) a E p)
    ·rw [O]at a;rcases fV g m with s|s
     ·exact F.c i g a b s
     ·have:g=m:=dF (io d) s;subst this;refine⟨?_,V.symm▸fR.below h w M b⟩;rcases fV i (g-1)with P|P
      ·rw [(F.c i (g-1) a P p).1,N]
      ·have:i=g-1:=dF (nG b) P;refine r this (r N ?_);rfl
structure Run(n a:Nat)(a3:Nat->Nat)(y:Nat×Array Nat):Prop where
 mY:cu n y.2
 lo:1<=y.1
 dY:y.1<=a
 t:fR n y.2 y.1
 s:ep a3 y.2 y.1
omit o in
theorem Bj(h:cu n A){m:Nat}(g:m<=n){i a:Nat}(j:i<a)(d:a<m):∃b c,c<b/\b<m/\bf (jI A 0 m) i=bf A b/\bf (jI A 0 m) a=bf A c:=by
 have e:=hV j d;obtain ⟨c,k⟩:=tV (be a) d;obtain ⟨b,f⟩:=tV (be i) e;exact⟨b,c,Be f k j,(tU f (be i) e).2,pO h g (be i) e f,pO h g (be a) d k⟩
omit o in
theorem Hf(h:cu n A){m:Nat}(a:m<=n)(F:m5 a3 A m):ep a3 (jI A 0 m) m:=λi j b c=>by
 refine aw (Bj h a b c) (bo λk l=>bu λd e f g=> ?_);rw [f,g];exact F _ _ d e
omit o in
theorem Hg(h:cu n A){m:Nat}(a:m<=n)(F:ep a3 A m):m5 a3 (jI A 0 m) m:=λi j b c=>by
 refine aw (Bj h a b c) (bo λk l=>bu λd e f g=> ?_);rw [f,g];exact F _ _ d e
theorem Bk {c m:Nat}(f:c<=n)(h:cu n A)(e:1<=m)(g:m<=c)(M:fR n A m)(F:m5 a3 A m){C:ac}(s:dt C){j:Nat×Array Nat->ac->Prop}(k:∀y i,dt i->Run n c a3 y->j y i):
  (kas_tail3 m c A).kasWp jk j C:=by
 unfold kas_tail3;rw [qR];have l:=h.rev 0 m;have p:fR n (jI A 0 m) m:=tW h (aD 0 0 0 0 0 0 t g f) M;refine w7 o f l (c-m) m C e (qu (g)) p ?_ s λq i u a b d _=>k _ _ u ⟨l,by refine(?_:1<=q);exact aD 1 0 0 0 1 0 t e a,b,λr e v=>p r (by have:q<=r:=e;exact aD 0 0 0 0 0 0 t a this) v,d⟩;exact Hf h (aS g f) F
theorem Bl {g m:Nat}(f:g<=n)(h:cu n A)(i:1<=m)(p:m<g)(M:fR n A m)(F:m5 a3 A m)(v:a3 (bf A m)<a3 (bf A (m-1))){C:ac}(w:dt C){q:Nat×Array Nat->ac->Prop}(k:∀y j,dt j->Run n g a3 y->q y j):
  (kas_descPart m g A).kasWp jk q C:=by
 unfold kas_descPart;rw [qR];refine tX o f _ A (m+1) 0 C h (qu (p)) (λx i z=>M x (V 1 0 0 0 t i) z) (F.down h i (aD 1 0 0 0 1 0 t p f) v) w ?_;rintro ⟨D,E,s⟩ j u ⟨a,b,c,d,e⟩;dsimp only at a b c d e⊢
 by_cases l:s>0
 ·exact r (if_pos l) (Bk o f (a.rev _ _) b c (tW a (aD 0 0 0 0 0 0 t c f) d) (e.Bh a (aD 0 0 0 0 0 0 t c f)) u k)
 ·refine r (if_neg l) ?_;have B:s=0:=Nat.eq_zero_of_not_pos l;subst B;exact Bk o f a b c d e.Bi u k
theorem Hh {l:Nat}(p:l<=n)(f:1<=l)(h:cu n A)(M:fR n A 0){C:ac}(K:dt C){D:Nat×Array Nat->ac->Prop}(k:∀y v,dt v->Run n l a3 y->D y v):(kas_count l A).kasWp jk D C:=by
 unfold kas_count;rw [qR];refine w7 o p h (l-1) 1 C (aW _) (qu (f)) (λj f g=>M j (V 1 0 0 0 t f) g) (λi j f g=>a2 2 1 t (aq 2 1 0 0 (aq 1 0 1 1 f g) (be _))) K λm v w a b d e=> ?_;have run:Run n l a3 (m,A):=⟨h,a,b,λj f g=>M j ((be _)) g,d⟩
 by_cases c:m=l
 ·exact r (if_pos (by simpa using c)) (k _ _ w run)
 ·refine r (if_neg (by simpa using c)) ?_;obtain ⟨x,E⟩:=e.resolve_left c
  by_cases s:m>1
  ·refine r (if_pos s) ?_;have z:m-1<m:=oS a nF;have F:=bP x p;refine rD o h (bP f p) (hV z F) (a7 (nG s)) w λO G=> ?_
   by_cases B:a3 (bf A 0)<a3 (bf A (m-1))
   ·exact r (decide_eq_true B) (r (if_pos t) (k _ _ G run))
   ·refine r (decide_eq_false B) ?_;refine r (if_neg (by simp)) ?_;have L:∀i,i<m->a3 (bf A i)=a3 (bf A (m-1)):=λi I=>by
     have bV:a3 (bf A 0)<=a3 (bf A i):=by
      rcases qt i with q|q
      ·exact r q (aW _)
      ·exact(d 0 i q I).le
     have bc:a3 (bf A i)<=a3 (bf A (m-1)):=by
      rcases fV i (m-1)with q|q
      ·exact(d i (m-1) q z).le
      ·exact r (dF (nG I) q) (aW _)
     exact dF bc (aS (eJ B) bV)
    have u:=aS b p;refine Bl o p (h.rev 0 m) a x (tW h u λj f g=>M j ((be _)) g) (Hg h u d) ?_ G k;rw [pP h u F λq=>eK _ q.2,pO h u (be _) z (w6:=0) ((ir a).trans (ip m).symm),L 0 a];exact E
  ·refine r (if_neg s) ?_;have N:m=1:=dF (eJ s) a;subst N;exact Bl o p h (aW _) x (λj f g=>M j (V 1 0 0 0 t f) g) (λi j f g=>a2 2 1 t (aq 2 1 0 0 (aq 1 0 1 1 f g) (be _))) E w k
omit o in
theorem Hi {a b:Nat}(h:a<b):a<=(a+b)/2/\(a+b)/2<b:=
 ⟨(Nat.le_div_iff_mul_le (by decide)).mpr (by rw [Nat.mul_two];exact ey (eW h) a),Nat.div_lt_of_lt_mul (by rw [Nat.two_mul];exact Nat.add_lt_add_right h b)⟩
theorem w8 {k:Nat}(h:cu n A)(m:k<n)(M:fR n A k)(p:ep a3 A k):∀(f d g:Nat) (C:ac) {s:Nat->ac->Prop},d<=g->g<=k->g-d<=f->(∀i,i<d->¬a3 (bf A k)<a3 (bf A i))->(∀i,g<=i->i<k->a3 (bf A k)<a3 (bf A i))->dt C->
  (∀d j,dt j->d<=k->(∀i,i<d->¬a3 (bf A k)<a3 (bf A i))->(∀i,d<=i->i<k->a3 (bf A k)<a3 (bf A i))->s d j)->(kas_place A k f d g).kasWp jk s C
 |0,d,g,C,s,z,l,u,v,w,x,c=>c d C x (aD 0 0 0 0 0 0 t z l) v λi a b=>w i (aS (yJ (Nat.le_zero.mp u)) a) b
 |f+1,d,g,C,s,z,l,u,v,w,x,c=>by
  unfold kas_place
  by_cases e:d>=g
  ·exact r (if_pos e) (c d C x (aS z l) v λi a b=>w i (aS e a) b)
  ·refine r (if_neg e) ?_;have e:=Nat.lt_of_not_le e;obtain ⟨B,D⟩:=Hi e;have y:=bP D l;refine rD o h m (hV y m) (aX y) x λj E=> ?_
   by_cases q:a3 (bf A k)<a3 (bf A ((d+g)/2))
   ·refine r (decide_eq_true q) ?_;refine r (if_pos t) (w8 h m M p f d ((d+g)/2) j B (eW y) (io (bP (Nat.sub_lt_sub_right B D) u)) v (λi a b=> ?_) E c);rcases nC a with a|a
    ·exact r (cj a) q
    ·exact bP q (p _ _ a b).le
   ·refine r (decide_eq_false q) ?_;refine r (if_neg jE) (w8 h m M p f ((d+g)/2+1) g j D l (io (bP (Nat.sub_lt_sub_left e (Nat.lt_succ_of_le B)) u)) (λi a=> ?_) w E c);rcases nC (io a)with a|a
    ·exact r a q
    ·exact cx (aS (p _ _ a y).le (eJ q))
theorem Bm:∀(f:Nat) (A:Array Nat) (k:Nat) (C:ac) {y:Array Nat->ac->Prop},cu n A->k+f=n->fR n A k->ep a3 A k->dt C->(∀I z,dt z->cu n I->ep a3 I n->y I z)->(kas_bin f A k).kasWp jk y C
 |0,A,k,C,y,h,e,M,p,K,c=>c A C K h (by rw [<-e];exact p)
 |f+1,A,k,C,y,h,e,M,p,K,c=>by
  unfold kas_bin;rw [qR];refine w8 o h (aD 1 0 0 0 1 0 t i8 (aB e)) M p k 0 k C (be _) (aW _) ((oR _ _)) (λi a=>a2 1 0 t (aq 1 0 0 0 a (be _))) (λi a b=>a2 1 0 t (aq 0 0 1 0 a b)) K λg z S v B T=> ?_;have s:k<n:=aD 1 0 0 0 1 0 t i8 (aB e);have U:=M k (aW _) s;have D:∀i,i<n->bf (pa A k (k-g)) i=if i=g then bf A k else if g<i/\i<=k then bf A (i-1)else bf A i:=λi V=>by
   have:=Hc h (kT:=k) (d:=k-g) s ((oR _ _)) V;rw [Nat.sub_sub_self v]at this;exact this
  refine Bm f _ (k+1) z (h.Bf _ _) ((nE _ _).trans e) (λu L B=> ?_) (λi u j W=> ?_) S c
  ·rw [D u B,if_neg (aX (dZ v L)),if_neg (λq=>gG L q.2)];exact M u (eW L) B
  ·have E:=io W;have F:=dZ E s;have G:∀x,x<g->x<n->bf (pa A k (k-g)) x=bf A x:=λx w X=>by refine r (D x X) (r (if_neg (a7 w)) ?_);refine r (if_neg (λq=>lp w q.1)) ?_;rfl
   have O:∀x,g<x->x<=k->bf (pa A k (k-g)) x=bf A (x-1):=λx w P=>by refine r (D x (dZ P s)) (r (if_neg (aX w)) ?_);refine r (if_pos ⟨w,P⟩) ?_;rfl
   have Q:bf (pa A k (k-g)) g=bf A k:=by refine r (D g (dZ v s)) (r (if_pos t) ?_);rfl
   rcases sy u g with l|l|l
   ·rw [G u l F,G i (hV j l) (hV j F)];exact p _ _ j (bP l v)
   ·subst l;rw [Q,G i j (hV j F)];exact Bd (eJ (B i j)) (U.symm▸fR.below h (eW s) M (bP j v))
   ·rw [O u l E];have R:=nG l;have N:=bP (oS (dZ (be g) l) nF) E;rcases sy i g with m|m|m
    ·exact r (G i m (hV j F)) (p _ _ (bP m R) N)
    ·exact r m (r Q (.inl (T _ R N)))
    ·exact r (O i m (aS (eW j) E)) (p _ _ (Nat.sub_lt_sub_right (dZ (be g) m) j) N)
theorem Bn(i:1<=n){C:ac}{g:Array Nat->ac->Prop}(j:dt C)(k:∀A f,dt f->cu n A->ep a3 A n->g A f):(kas_sort n).kasWp jk g C:=by
 unfold kas_sort;rw [qR];have l:fR n (nI (c8 n)) 0:=λs _ p=>by
  unfold bf;simp [p]
 refine Hh o (aW n) i cu.start l j ?_;rintro ⟨m,A⟩ f h ⟨a,b,c,d,e⟩;dsimp only at a b c d e⊢
 by_cases q:m<n
 ·refine r (if_pos q) ?_;have:max m 1=m:=vp b;exact r this (Bm o _ A m f a (qu (c)) d e h k)
 ·refine r (if_neg q) ?_;have:m=n:=dF (c) ((eJ q));subst this;exact k A f h a e
end
end
end
section
open PySem PySem.W PySem.Calls
open PyProof.Rows
theorem ai.Bo {f:O}{pos:List O}{kw:List (c0×O)}{r:Bool}{s:List O}{k:bZ->aI b0}(ok:cw w=ag){g af:O->ac->Prop}
  (h:bD (b1 bH u) ((di Y l).over c w) (f8 f pos kw) g af C)(x:∀v a,g v a->ai u l Y j c A (k (.ok (.ret v))) w a B)(y:∀e a,af e a->ai u l Y j c A (k (.error e)) w a B):
  ai u l Y j c A (.call (.call f ⟨pos,kw⟩) J r s k) w C B:=λi m n t=>by
 have o:=iy n w ok;rw [m]at o;have q:=h (i.over w) A o;unfold f8 at q;rw [aI.wp_runValue]at q;refine aw q (bo λp d=>an λz b=> ?_);have D:ai u l Y j c A (k p) w d B:=by
  cases p with
  |error e=>exact y e d b
  |ok E=>cases E with
   |ret v=>exact x v d b
   |next=>exact b.elim
   |brk=>exact b.elim
   |cont=>exact b.elim
 refine aw (D i m n t) (bo λe a=>an λF G=> ?_);exact bh e a ⟨jH (λ_ _ y=> .call z y) F,G⟩
variable(g:Nat->Option ab)(P:a1)
section
variable(cR a b d n o L:Nat)(j:List (aL×ap))(A:ap)(e:GenStatus×Option (List (aL×ap)))(f0 dX fY:Nat)(v:O)
noncomputable def w9:=0 where
 pQ:G:=c_ g P 500 n o L j [(cR+101,dd a b d)] [] [] 3 [1,1] (eB cR) A
 jl:G:=run (cB g P 500 n o L J j [] [] []) 1 [2] (pQ.c) (pQ.p) ((wq pQ.t e)) (pQ.aU)
 w_:G:=run (cB g P 500 f0 dX fY J j [] [] []) 0 [] (jl.c) (jl.p) ((tg jl.t (.yielded v))) (jl.aU)
 w':G:=run (cB g P 500 f0 dX fY J j [] [] []) 3 [] (jl.c) (jl.p) ((tg jl.t (.returned .none))) (jl.aU)
open w9
end
open w9
noncomputable def tl(k b a c n d:Nat)(A:ap)(h i l:Nat)(j:List (aL×ap))(e m:Nat):G:=bJ g P 500 h i l j [(e+101,hf m)] [] [] 3 [1] (f g P k b a c n d A) ((f g P k b a c n d A).p) (.error (E e))
noncomputable def tY(b a c:Nat)(e:ae×ab)(d:Nat):List ((Nat×List Nat×Nat×Bool)×(O×(ae×ab))):=(match dp 4 d with|true=>(lP d).take 10|false=>lP d).zip ((pD b a).zip (rs c a e))
noncomputable def Hj(g:Nat->Option ab)(P:a1):List Prop:=[
 ∀X a n b l j A ay,eM (λd=>bF [2,3] (Ay g P d X a n l ay b A j)) 6=eN (λd=>⟨.ret (.ref (n+102)),0,[H (n+101,cF P b (b+1) (E ay) []),H (n+102,dd l (b+2) (b+3))],2,4,[.fresh (fz (cN d) X.b_ n a (X.rp+(match dp d 1 with|true=>119|false=>123)))],bG (Ay g P d X a n l ay b A j)⟩) 6,
 ∀h a c n l ay s t o b j A G e,eM (λk=>(bF [1,2] (pC g P k h a c n l ay s t b A o j G e),(pC g P k h a c n l ay s t b A o j G e).c,(pC g P k h a c n l ay s t b A o j G e).t,(pC g P k h a c n l ay s t b A o j G e).aU)) 4=eN (λk=>(⟨.other,1,[H (n+101,cF P s t (E ay) []),H (o+101,b2 (ay+101) 0)],1,0,[],bG (pC g P k h a c n l ay s t b A o j G e)⟩,(au g P k h a c n o).c,bI (au g P k h a c n o).c,(au g P k h a c n o).aU)) 4,
 ∀h a c n l ay s t p q r o b j A,eM (λk=>(bF [1] (rr g P k h a c n l ay s t b A o p j q r),(rr g P k h a c n l ay s t b A o p j q r).c,(rr g P k h a c n l ay s t b A o p j q r).t,(rr g P k h a c n l ay s t b A o p j q r).aU)) 4=eN (λk=>(⟨.other,1,[H (n+101,cF P s t (E ay) [])],0,0,[],bG (rr g P k h a c n l ay s t b A o p j q r)⟩,(au g P k h a c n ay).c,bI (au g P k h a c n ay).c,(au g P k h a c n ay).aU)) 4,
 ∀h a c n m A o b l j C i,eM (λk=>(bF [] (ct g P k h a c n m A o b l j C i),eA (ct g P k h a c n m A o b l j C i) J J 5,(ct g P k h a c n m A o b l j C i).c,(ct g P k h a c n m A o b l j C i).p,(ct g P k h a c n m A o b l j C i).aU,λx=>eh (ct g P k h a c n m A o b l j C i).t x)) 4=eN (λk=>(⟨.call (.call (.builtin "list_iterator.__next__") ⟨[E m],[]⟩) J,1,[],0,0,[],bG (ct g P k h a c n m A o b l j C i)⟩,(ag,J),(f g P k h a c n m A).c,(f g P k h a c n m A).p,(f g P k h a c n m A).aU,λx=>eh (f g P k h a c n m A).t x)) 4,
 ∀h a c n m A o b l j p q r,eM (λk=>(bF [] (n7 g P k h a c n m l b A o p j q r),eA (n7 g P k h a c n m l b A o p j q r) J J 5,(n7 g P k h a c n m l b A o p j q r).c,(n7 g P k h a c n m l b A o p j q r).p,(n7 g P k h a c n m l b A o p j q r).aU,λx=>eh (n7 g P k h a c n m l b A o p j q r).t x)) 4=eN (λk=>(⟨.call (.call (.builtin "generator.__next__") ⟨[E m],[]⟩) J,1,[],0,0,[],bG (n7 g P k h a c n m l b A o p j q r)⟩,(ag,J),(f g P k h a c n m A).c,(f g P k h a c n m A).p,(f g P k h a c n m A).aU,λx=>eh (f g P k h a c n m A).t x)) 4,
 ∀h a c n m,eM (λk=>(sL (au g P k h a c n m).aU,(au g P k h a c n m).aU.any mG,cw (au g P k h a c n m).aU,(au g P k h a c n m).c.quiet)) 4=eN (λk=>(J,aN,ag,ag)) 4,
 ∀h a c n m A o b l j Z aa,eM (λk=>bF [] (tl g P k h a c n m A o b l j Z aa)) 4=eN (λk=>⟨.ret .none,0,[],0,0,[],bG (tl g P k h a c n m A o b l j Z aa)⟩) 4,
 ∀h a c n m A,eM (λk=>cw (f g P k h a c n m A).aU) 4=eN (λ_=>ag) 4,
 ∀h I a c n m A o b l j s t B K L M ay N (U V:Nat) Q R S (W Y:O) T,eM (λd=>kF (λy=>tH y.1.2.2.2 (ds g P d h I a c n m A o b l j s t B K L M ay N y.1.1 y.1.2.1 [] y.2.1 y.2.2)) (tY Q S R T d)) 6=eN (λd=>kG (λy=>tI y.1.2.2.2 (ds g P d h I a c n m A o b l j s t B K L M ay N y.1.1 y.1.2.1 [] y.2.1 y.2.2) (au g P (cN d) h a c n m) B y.1.2.2.1 (n+101,cF P s t ay (gt P d b (b+2) (E B) y.2.1))) (tY Q S R T d)) 6,
 ∀h I a c n m A o b l j s t B K L M ay N U V Q R S W Y T,eM (λd=>kF (λy=>tH y.1.2.2.2 (ds g P d h I a c n m A o b l j s t B K L M ay N y.1.1 y.1.2.1 (gt P d U V W Y) y.2.1 y.2.2)) (tY Q S R T d)) 6=eN (λd=>kG (λy=>tI y.1.2.2.2 (ds g P d h I a c n m A o b l j s t B K L M ay N y.1.1 y.1.2.1 (gt P d U V W Y) y.2.1 y.2.2) (au g P (cN d) h a c n m) B y.1.2.2.1 (n+101,cF P s t ay (gt P d U V (E B) y.2.1))) (tY Q S R T d)) 6,
 ∀u p q r n b l j A,ok [] (pQ g P u p q r n b l j A) (.genState p) 0 [] 0 0 [],
 ∀u p q r n b l j A z,b3 [] (jl g P u p q r n b l j A (.fresh,z)) J J 5 (.resume p (.send .none)) 0 [] 0 0 [] J,
 ∀u p q r n b l j A z w D F (v:O),ok [] (w_ g P u p q r n b l j A (.fresh,z) w D F v) (.ret v) 0 [] 0 0 [],
 ∀u p q r n b l j A z w D F,ok [1] (w' g P u p q r n b l j A (.fresh,z) w D F) (.err (.ref (w+102))) 0 [H (w+102,hf (w+101))] 2 0 [],
 ∀u p q r n b l j A z,b3 [] (jl g P u p q r n b l j A (.suspended,z)) J J 5 (.resume p (.send .none)) 0 [] 0 0 [] J,
 ∀u p q r n b l j A z w D F (v:O),ok [] (w_ g P u p q r n b l j A (.suspended,z) w D F v) (.ret v) 0 [] 0 0 [],
 ∀u p q r n b l j A z w D F,ok [1] (w' g P u p q r n b l j A (.suspended,z) w D F) (.err (.ref (w+102))) 0 [H (w+102,hf (w+101))] 2 0 []]
noncomputable def du(g:Nat->Option ab)(P:a1):Prop:=AllP (Hj g P)
end
open w9
section
open PySem PySem.W
noncomputable def jm(x:Int):Nat->Bool
 |0=>ag
 |1=>x.fmod 4==0
 |2=>x.fmod 4==1
 |3=>x.fmod 4==2
 |4=>(x.fdiv 4).fmod 3==0
 |_=>(x.fdiv 4).fmod 3==1
noncomputable def b'(x:Int)(M:Nat):Bool:=x.fmod 4==3|| !jm x M
section
variable(g:Nat->Option ab)(P:a1)(n o L:Nat)(j:List (aL×ap))(A:ap)(x:Int)(bp cp e:Nat)(aA:List O)
noncomputable def xa:=0 where
 h9:G:=c_ g P 300 n o L j [(cp+101,ah aA e)] [] [] 115 [0,0,0,2,2,0,2,2,3,2,3,3,2,0,2,2,3,1,3,1,3,1,2,1,2,1,4,4,2,1,1,1,1,6] (.call (.ref 89) ⟨[.int x bp,E cp],[]⟩) A
 m6(a:cL)(v:O):Obj:={cls:=z6 h9.D 7,data:= .dict ⟨[U P eg a v]⟩ 1}
 od:Obj:={cls:=z6 h9.D 7,data:= .dict ⟨[]⟩ 0}
 lZ(i:Nat)(a:List O)(b:Nat)(c:ab):List (ae×ab):=gM (gM (gM h9.D 5 (n+105,b2 (cp+101) i)) 6 (n+106,ah a b)) 7 (n+107,c)
open xa
variable(f0 dX:Nat)(eR:List (aL×ap))(dU:ap)
noncomputable def fS:G:=c_ g P 340 (n+7) (o+14) L eR (h9 g P n o L j A x bp cp e aA).D [5,6,7] [] 1 [2,2,12,6,6,1,6,6] ((es (h9 g P n o L j A x bp cp e aA).t).code) dU
section
variable(a9:Nat)(bj:List Nat)(i:Nat)(fC:List O)(eD:Nat)(a:ab)(aC:List cI)
noncomputable def tZ:=0 where
 iG:G:=
  run (cB g P 340 f0 dX L J eR (lZ g P n o L j A x bp cp e aA i fC eD a) [5,6,7] aC) a9 bj (fS g P n o L j A x bp cp e aA eR dU).c (fS g P n o L j A x bp cp e aA eR dU).p (fS g P n o L j A x bp cp e aA eR dU).t (fS g P n o L j A x bp cp e aA eR dU).aU
 l0(M:Nat)(a:cL)(b v:Bool)(i:Nat)(fC:List O)(eD:Nat):List cI:=
  [hB 5 0 (n+105) (cp+101) i aA e (aj M a),wA "int.__eq__" (x.fmod 4) 3 (o+3) (dX+1) b,to 6 (n+106) fC eD (.bool v)]
 t0:G:=
  bJ g P 300 f0 dX L j [(n+106,ah fC eD),(n+107,a)] [1] [] a9 bj (h9 g P n o L j A x bp cp e aA) ((h9 g P n o L j A x bp cp e aA).p) (.ok .next)
open tZ
end
open tZ
noncomputable def Bp(b:Bool):Nat×List Nat:=match b with
 |true=>(19,[6,1,0,8,8,3,1,2,3])
 |false=>(33,[6,1,0,8,8,3,1,2,4,8,5,5,5,0,5,5,3])
noncomputable abbrev Hk(a:G):fl×aL×ap×aI b0×List dc×List (ae×ab):=(bF [] a,a.c,a.p,a.t,a.aU,a.D)
noncomputable abbrev Bq(i:Nat)(a:List O)(c M:Nat)(d:cL)(b:Bool)(y:ab×cL):G:=iG g P n o L j A x bp cp e aA f0 dX eR dU (Bp b).1 (Bp b).2 i a c y.1 (l0 n o x cp e aA dX M d b (b|| !jm x M) i a c)
noncomputable abbrev Hl(i:Nat)(a:List O)(c M:Nat)(d:cL)(b:Bool)(y:ab×cL):fl×aL×ap×aI b0×List dc×List (ae×ab):=
 (⟨.other,0,[],0,2,[],bG (Bq g P n o L j A x bp cp e aA f0 dX eR dU i a c M d b y)⟩,(fS g P n o L j A x bp cp e aA eR dU).c,(fS g P n o L j A x bp cp e aA eR dU).p,(fS g P n o L j A x bp cp e aA eR dU).t,(fS g P n o L j A x bp cp e aA eR dU).aU,
  lZ g P n o L j A x bp cp e aA (i+1) (a++[.bool (b|| !jm x M)]) (c+1) (m6 g P n o L j A x bp cp e aA y.2 (aj M d)))
noncomputable def Br(dX a:Nat)(b:O):List (ab×cL):=[(od g P n o L j A x bp cp e aA,dX),(m6 g P n o L j A x bp cp e aA a b,a)]
end
open xa tZ
variable(g:Nat->Option ab)(P:a1)
noncomputable def Hm(g:Nat->Option ab)(P:a1):List Prop:=[
 ∀n d f j A x h a e c,ok [] (h9 g P n d f j A x h a e c) (.call (es (h9 g P n d f j A x h a e c).t).code J) 0 [] 7 14 [],
 ∀n d f j A x h a e c,dp (300+cW (h9 g P n d f j A x h a e c).c (h9 g P n d f j A x h a e c).aU) 340=ag,
 ∀n d f j A x h a e c o p,(bF [] (fS g P n d f j A x h a e c o p),(fS g P n d f j A x h a e c o p).D)=(⟨.other,0,[],0,0,[],bG (fS g P n d f j A x h a e c o p)⟩,lZ g P n d f j A x h a e c 0 [] 0 (od g P n d f j A x h a e c)),
 ∀n d f j A x h a e c q m o p i k l s t u,kF (λb=>eM (λM=>kF (λy=>Hk (Bq g P n d f j A x h a e c q m o p i k l M s b y)) (Br g P n d f j A x h a e c m t u)) 6) [ag,aN]=kG (λb=>eN (λM=>kG (λy=>Hl g P n d f j A x h a e c q m o p i k l M s b y) (Br g P n d f j A x h a e c m t u)) 6) [ag,aN],
 ∀n d f j A x h a e c i k l r,c' (lZ g P n d f j A x h a e c i k l r) [5,6,7]=[n+105,n+106,n+107],
 ∀n d f j A x h a e c,c' (h9 g P n d f j A x h a e c).D [5,6,7]=[n+105,n+106,n+107],
 ∀n d f j A x h a e c i k l r,(lZ g P n d f j A x h a e c i k l r).map (·.1)=(h9 g P n d f j A x h a e c).D.map (·.1),
 ∀n d f j A x h a e c q m o p i k l r,let w:=iG g P n d f j A x h a e c q m o p 3 [6,1,10] i k l r [hC 5 0 (n+105) (a+101) i c e];ok [6,7] w (.next) 0 [H (n+106,ah k l),H (n+107,r)] 2 0 [],
 ∀n d f j A x h a e c q m k l,ok [] (t0 g P n d f j A x h a e c q m 1 [2] k l (od g P n d f j A x h a e c)) (.ret (.ref (n+106))) 0 [] 0 0 [],
 ∀n d f j A x h a e c q m k l z v,ok [] (t0 g P n d f j A x h a e c q m 5 [2,2,2] k l (m6 g P n d f j A x h a e c z v)) (.ret (.ref (n+106))) 0 [] 0 0 []]
noncomputable def pR(g:Nat->Option ab)(P:a1):Prop:=AllP (Hm g P)
end
open xa tZ
section
open PySem PySem.W PySem.Calls
noncomputable def ca(a:List (Nat×cL)):List Value:=a.map λq=>aj q.1 q.2
section
variable(b:Base g)(a:pR g u.params){n o L:Nat}{x:Int}{bp cp e:Nat}{aA:List O}{f0 dX:Nat}{eR:List (aL×ap)}{dU:ap}
include a
theorem Hn {i:Nat}{fC:List O}{eD:Nat}{d:ab}{M:Nat}{cS:cL}(l:M<6)
  (m:d=od g u.params n o L j A x bp cp e aA\/∃k v,d=m6 g u.params n o L j A x bp cp e aA k v)(b:Bool):
  ∃f h p,(bF [] (iG g u.params n o L j A x bp cp e aA f0 dX eR dU f h i fC eD d (l0 n o x cp e aA dX M cS b (b|| !jm x M) i fC eD)),
   (iG g u.params n o L j A x bp cp e aA f0 dX eR dU f h i fC eD d (l0 n o x cp e aA dX M cS b (b|| !jm x M) i fC eD)).c,
   (iG g u.params n o L j A x bp cp e aA f0 dX eR dU f h i fC eD d (l0 n o x cp e aA dX M cS b (b|| !jm x M) i fC eD)).p,
   (iG g u.params n o L j A x bp cp e aA f0 dX eR dU f h i fC eD d (l0 n o x cp e aA dX M cS b (b|| !jm x M) i fC eD)).t,
   (iG g u.params n o L j A x bp cp e aA f0 dX eR dU f h i fC eD d (l0 n o x cp e aA dX M cS b (b|| !jm x M) i fC eD)).aU,
   (iG g u.params n o L j A x bp cp e aA f0 dX eR dU f h i fC eD d (l0 n o x cp e aA dX M cS b (b|| !jm x M) i fC eD)).D)=
   (⟨.other,0,[],0,2,[],bG (iG g u.params n o L j A x bp cp e aA f0 dX eR dU f h i fC eD d (l0 n o x cp e aA dX M cS b (b|| !jm x M) i fC eD))⟩,
    (fS g u.params n o L j A x bp cp e aA eR dU).c,(fS g u.params n o L j A x bp cp e aA eR dU).p,(fS g u.params n o L j A x bp cp e aA eR dU).t,(fS g u.params n o L j A x bp cp e aA eR dU).aU,
    lZ g u.params n o L j A x bp cp e aA (i+1) (fC++[.bool (b|| !jm x M)]) (eD+1) (m6 g u.params n o L j A x bp cp e aA p (aj M cS))):=by
 have c:=λk v y=>mK (x:=y) (d0 (mK (x:=b) (a 3 n o L j A x bp cp e aA f0 dX eR dU i fC eD cS k v) (by cases b<;>decide)) l);rcases m with rfl|⟨k,v,rfl⟩
 ·exact dT _ _ _ (c 0 .none _ aO)
 ·exact dT _ _ _ (c k v _ ci)
end
theorem Bs(T:Base g)(D:pR g u.params){n d b:Nat}{j:List (aL×ap)}{A:ap}{x:Int}{h c e:Nat}{a:List (Nat×cL)}(al:∀q∈a,q.1<6)(ax:a.length<100)
  {k:List (aL×ap)}{p:ap}{am:ac}(U:∀i m l f,b6 g (lZ g u.params n d b j A x h c e (ca a) i m l f) [5,6,7]):
  ∀(P:List (Nat×cL)) (i:Nat) (m:List O) (l:Nat) (f:ab) (C:ac),a=a.take i++P->i+P.length=a.length->m=(a.take i).map (λq=> .bool (b' x q.1))->
   (f=od g u.params n d b j A x h c e (ca a)\/∃V v,f=m6 g u.params n d b j A x h c e (ca a) V v)->
   em g [n+105,n+106,n+107] am C->C.gens.size=b->(∀y∈lZ g u.params n d b j A x h c e (ca a) i m l f,I C y.1 y.2)->
   ai u 340 J k (fS g u.params n d b j A x h c e (ca a) k p).c (fS g u.params n d b j A x h c e (ca a) k p).p (fS g u.params n d b j A x h c e (ca a) k p).t (fS g u.params n d b j A x h c e (ca a) k p).aU C
    (ei λW s=>W= .ok .next/\em g [n+105,n+106,n+107] am s/\s.gens.size=b/\∃l f,I s (n+106) (ah (a.map λq=> .bool (b' x q.1)) l)/\I s (n+107) f/\(f=od g u.params n d b j A x h c e (ca a)\/∃V v,f=m6 g u.params n d b j A x h c e (ca a) V v))
 | [],i,m,l,f,C,X,F,Q,Y,E,K,Z=>by
  refine ai.dN λay aa=> ?_;obtain ⟨G,ae⟩:=E.K.size;have af:(fS g u.params n d b j A x h c e (ca a) k p).aU=[]:=cA (congrArg fl.th (Prod.mk.inj (D 2 _ ..)).1);have an:i=a.length:=F;have az:(ca a).length<=i:=by rw [an];simp [ca]
  refine mQ T E.K ae t K Z (U i m l f) (aC:=[hC 5 0 (n+105) (c+101) i (ca a) e]) ?_ (by refine r af ?_;rfl) (D 7 _ ..) ?_
  ·intro aE w;rw [bQ]at w;subst w;exact n3 az
  ·intro s W ao aF aq ar B;have N:=B.grow t;rw [(D 4)]at N;refine r (n1 aq) (r (cA ar) ?_);refine ai.done (.ok .next) (aa _ _ ⟨t,E.trans N, ?_,l,f, ?_,B.xs _ _ ci,Y⟩)
   ·refine r B.ct ?_;exact K
   ·(unfold I;refine r (B.xs _ _ aO) (r Q ?_);refine r an (r ms ?_);rfl)
 |q::P,i,m,l,f,C,X,F,Q,Y,E,K,Z=>by
  refine ai.dN λay aa=> ?_;obtain ⟨G,ae⟩:=E.K.size;have af:(fS g u.params n d b j A x h c e (ca a) k p).aU=[]:=cA (congrArg fl.th (Prod.mk.inj (D 2 _ ..)).1);have aG:i<a.length:=by simp only [jC]at F;exact aD 1 0 0 0 1 0 t i8 (aB F)
  have ak:a[i]? =H q:=by
   rw [X,iV (by refine r mv ?_;exact vq _ _),mv,Nat.min_eq_left (eW aG),Nat.sub_self];rfl
  have aH:(ca a)[i]? =H (aj q.1 q.2):=by
   unfold ca;rw [d1,ak];rfl
  have as:a.take (i+1)=a.take i++[q]:=by
   rw [sC,ak];rfl
  refine aw (Hn D (n:=n) (o:=d) (L:=b) (j:=j) (A:=A) (x:=x) (bp:=h) (cp:=c) (e:=e) (aA:=ca a) (f0:=G) (dX:=C.toks) (eR:=k) (dU:=p) (i:=i) (fC:=m) (eD:=l) (M:=q.1) (cS:=q.2)
   (al q (dP ak)) Y (x.fmod 4==3)) (cE λR S aT au=> ?_)
  simp only [eZ]at au;refine aw au (f9 λaI av aJ aK aM aP=> ?_);refine mQ T E.K ae t K Z (U i m l f) (aC:=l0 n d x c e (ca a) C.toks q.1 q.2 (x.fmod 4==3) (x.fmod 4==3|| !jm x q.1) i m l) ?_ (by refine r af ?_;rfl) aI ?_
  ·intro aE w;rcases b8.mp w with rfl|w
   ·exact n2 aH
   rcases b8.mp w with rfl|w
   ·exact Fn t
   rw [bQ]at w;subst w;exact z4 (aS (by rw [Q,bM,mv];exact aS (Nat.min_le_right _ _) (eW (by assumption))) (show 100<=lv by decide+kernel))
  ·intro s W ao aF aq ar B;subst ao;have N:=B.grow t;rw [(D 4)]at N;have aQ:=B.al;have aV:=congrArg (λz=>z) av;refine(?_:ai u 340 J k (iG g u.params n d b j A x h c e (ca a) G C.toks k p R S i m l f _).c _ _ _ s _);refine r av ?_;refine(?_:ai u 340 J k _ (iG g u.params n d b j A x h c e (ca a) G C.toks k p R S i m l f _).p _ _ s _);refine r aJ ?_;refine(?_:ai u 340 J k _ _ (iG g u.params n d b j A x h c e (ca a) G C.toks k p R S i m l f _).t _ s _);refine r aK ?_;refine(?_:ai u 340 J k _ _ _ (iG g u.params n d b j A x h c e (ca a) G C.toks k p R S i m l f _).aU s _);refine r aM (ai.imp (Bs T D al ax U P (i+1) _ _ _ s ?_ ?_ ?_ (.inr (bh _ _ t)) (E.trans N) (by refine r B.ct ?_;exact K) (λy aR=>aQ y (aP▸aR))) aa)
   ·rw [as,sA];exact X
   ·simp only [jC]at F;exact(nE _ _).trans F
   ·rw [as,e8,Q];rfl
theorem Ho(G:Base g)(m:pR g u.params){C:ac}(K:aR g C){x:Int}{k f e:Nat}{c:List (Nat×cL)}(ap:∀q∈c,q.1<6)(aq:c.length<100)
  (ar:I C (f+101) (ah (ca c) e)):
  a4 u 300 J (.call (.ref 89) ⟨[.int x k,E f],[]⟩) C λs o=>em g [] C o/\o.gens.size=C.gens.size/\
   ∃a d,C.heap.objs.size<=a+101/\s= .ok (.ret (E a))/\I o (a+101) (ah (c.map λq=> .bool (b' x q.1)) d):=by
 refine a4.c1 λj A=>ai.dN λaW as=> ?_;obtain ⟨n,w⟩:=K.size;have Z:∀y∈[(f+101,ah (ca c) e)],I C y.1 y.2:=λy l=>by
  rw [bQ]at l;subst l;exact ar
 refine mQ G K w t t Z b6.nil (aC:=[]) a0 t (m 0 n C.toks C.gens.size j A x k f e (ca c)) ?_;intro L s au ok av ax p;refine aw (iA av) (bo λaX aY ay=> ?_);refine r ay ?_;have az:L.heap.objs.size=n+7+101:=by refine r p.aZ (r w ?_);rfl
 have aA:L.toks=C.toks+14:=p.bx;have aa:L.gens.size=C.gens.size:=by refine r p.ct ?_;rfl
 have ab:b6 g s.D [5,6,7]:=b6.new K Z p.lI (by rfl);have aB:s=h9 g u.params n C.toks C.gens.size j A x k f e (ca c):=au;subst aB;have aD:∀i ae d h,b6 g (lZ g u.params n C.toks C.gens.size j A x k f e (ca c) i ae d h) [5,6,7]:=λi ae d h=>ab.same (m 6 ..);have aE:=λO P=>m 2 n C.toks C.gens.size j A x k f e (ca c) O P;refine ai.i' (br:=340) (fm:=J) (R:=λs o=>s= .ok .next/\em g [n+105,n+106,n+107] L o/\o.gens.size=C.gens.size/\
   ∃d h,I o (n+106) (ah (c.map λq=> .bool (b' x q.1)) d)/\I o (n+107) h/\(h=od g u.params n C.toks C.gens.size j A x k f e (ca c)\/∃af v,h=m6 g u.params n C.toks C.gens.size j A x k f e (ca c) af v)) ok t
  (m 1 _ ..) (by refine r (cA ax) ?_;rfl) ?_ ?_
 ·refine a4.c1 λO P=> ?_;have M:=aE O P;simp only [eZ]at M;obtain ⟨aF,aG⟩:=M;refine mQ G p.K az aA aa p.al ab (aC:=[]) a0 t aF ?_;intro N aH aI a1 _ _ Q;have aJ:=Q.grow t;subst aI;have aK:=Q.al;have aj:=aJ;rw [(m 5)]at aj;refine Bs G m ap aq aD c 0 [] 0 _ N t (by simp) t (.inl t) aj (by refine r Q.ct ?_;exact aa) (λy l=>aK y ?_);exact aG▸l
 ·refine λaH N=>bu ?_;rintro rfl;refine λS ak=>bo λd h=>aT λal aL aM=> ?_;obtain ⟨am,aO⟩:=S.K.size;have aP:b6 g [(n+106,ah (c.map λq=> .bool (b' x q.1)) d),(n+107,h)] [1]:=by
   intro i an a T;rw [bQ]at an;subst an;injection T with T;subst T;refine⟨?_,λaS b B U=> ?_⟩
   ·cases q:g (n+107)with
    |none=>rfl
    |some y=>
     have ao:=b9 (K.kt _ _ q);rw [w]at ao;exact absurd (yI ao) (by decide)
   ·match aS,B,U with
    |0,B,_=>
     injection B with B;subst B;exact a7 (lq (by decide) n)
    |1,_,U=>exact absurd t U
  have V:∃W X,bF [] (t0 g u.params n C.toks C.gens.size j A x k f e (ca c) am N.toks W X (c.map λq=> .bool (b' x q.1)) d h)=⟨.ret (.ref (n+106)),0,[],0,0,[],bG (t0 g u.params n C.toks C.gens.size j A x k f e (ca c) am N.toks W X (c.map λq=> .bool (b' x q.1)) d h)⟩:=by
   rcases aM with rfl|⟨af,v,rfl⟩
   ·exact bh _ _ (m 8 ..)
   ·exact bh _ _ (m 9 ..)
  refine aw V (bo λW X V=> ?_);refine mQ G S.K aO t ak (D:=[(n+106,ah (c.map λq=> .bool (b' x q.1)) d),(n+107,h)]) (aQ:=[1]) (aC:=[]) ?_ aP a0 ok V ?_
  ·intro y l;rcases b8.mp l with rfl|l
   ·exact al
   rw [bQ]at l;subst l;exact aL
  intro a2 a3 a5 a6 aU aV Y;refine r (e' aU) (r (cA aV) ?_);refine ai.done (.ok (.ret _)) (as _ _ ⟨?_, ?_,n+5,d, ?_,t, ?_⟩)
  ·exact((p.rf t).then S (λx z=> .inr (by
    rw [w];simp only [b8,nJ,or_false]at z;rcases z with rfl|rfl|rfl<;>exact ey (by decide) n))).then (Y.grow t) (λx z=> .inr (by
    rw [w];have F:x∈[n+107]:=z;rw [bQ]at F;subst F;exact ey (by decide) n))
  ·refine r Y.ct ?_;exact ak
  ·rw [w];exact cV 101 106 t
  ·exact Y.fr _ _ al (λz=>by
    have F:n+106∈[n+107]:=z;rw [bQ]at F;exact absurd (nD F) (by decide))
open PyProof.Rows (AllBare)
section
variable(g:Nat->Option ab)(P:a1)
noncomputable def df(b:ae->Prop)(h:aY)(v:O)(x:Int)(g:Nat):Prop:=
 ∃c d i j k a,v=E c/\b (c+101)/\b (d+101)/\h.get? (c+101)=H (ea (d+101))/\h.get? (d+101)=H (fZ P i j (aj g k) a)/\
  ((gT x<3/\∃e,a= .str ⟨⟨tF x⟩⟩ e)\/(gT x=3/\a= .none)\/(gT x=3/\∃f e,a=E f/\b (f+101)/\h.get? (f+101)=H (ah [.str ⟨⟨[97]⟩⟩ e])))
theorem df.mono {e jn:ae->Prop}{h g:aY}{v:O}{x:Int}{i:Nat}(M:df P e h v x i)(k:∀b j,e b->h.get? b=H j->g.get? b=H j)(f:∀b,e b->jn b):df P jn g v x i:=by
 refine aw M (jK λn o p q r s=>f9 λt l m u w y=> ?_);refine kH n o p q r s ⟨t,f _ l,f _ m,k _ _ l u,k _ _ m w,y.imp id (Or.imp id ?_)⟩;exact an λa=>bo λz A=>aT λb c d=>⟨a,z,A,b,f _ c,k _ _ c d⟩
end
noncomputable def rE(m lo d:Nat):Bool:=m==3|| !(match d with
 |0=>ag
 |1=>m==0
 |2=>m==1
 |3=>m==2
 |4=>lo==0
 |_=>lo==1)
theorem Bt {z:Int}(h:0<=z){k:Nat}:z=(k:Int)↔z.toNat=k:=
 ⟨λe=>by rw [e];rfl,λe=>by rw [<-e,sJ h]⟩
theorem Bu {z:Int}(n:Nat)(h:(0:Int)<n):(z.fmod n).toNat<n:=
 (Int.toNat_lt (oY z h)).mpr (vH z h)
theorem PU(x:Int):gT x<4:=Bu 4 (by decide)
theorem oe(x:Int):mX x<3:=Bu 3 (by decide)
theorem Bv(x:Int)(d:Nat):b' x d=rE (gT x) (mX x) d:=by
 have c:=oY x (show(0:Int)<4 by decide);have e:=oY (x.fdiv 4) (show(0:Int)<3 by decide);have a:∀k:Nat,(x.fmod 4==(k:Int))=(gT x==k):=λk=>by
  unfold gT;rw [nK,beq_iff_eq,beq_iff_eq];exact Bt c
 have b:∀k:Nat,((x.fdiv 4).fmod 3==(k:Int))=(mX x==k):=λk=>by
  unfold mX;rw [nK,beq_iff_eq,beq_iff_eq];exact Bt e
 match d with
 |0=>refine(?_:(x.fmod 4==((3:Nat):Int)|| !ag)=_);rw [a];rfl
 |1=>refine(?_:(x.fmod 4==((3:Nat):Int)|| !(x.fmod 4==((0:Nat):Int)))=_);rw [a,a];rfl
 |2=>refine(?_:(x.fmod 4==((3:Nat):Int)|| !(x.fmod 4==((1:Nat):Int)))=_);rw [a,a];rfl
 |3=>refine(?_:(x.fmod 4==((3:Nat):Int)|| !(x.fmod 4==((2:Nat):Int)))=_);rw [a,a];rfl
 |4=>refine(?_:(x.fmod 4==((3:Nat):Int)|| !((x.fdiv 4).fmod 3==((0:Nat):Int)))=_);rw [a,b];rfl
 |_+5=>refine(?_:(x.fmod 4==((3:Nat):Int)|| !((x.fdiv 4).fmod 3==((1:Nat):Int)))=_);rw [a,b];rfl
theorem Hp:∀d<6,∀m<3,∀lo<3,((lP d)[3*m+lo]?).map (λq=>q.2.2.2)=H (!rE m lo d):=by decide+kernel
theorem Bw:∀d<6,∀lo<3,((lP d)[9]?).map (λq=>q.2.2.2)=H (!rE 3 lo d)/\((lP d)[10]?).map (λq=>q.2.2.2)=H (!rE 3 lo d):=by decide+kernel
theorem Hq(a b m:Nat)(c:m<3)(lo:Nat)(d:lo<3):(pD a b)[3*m+lo]? =H (.str ⟨⟨pB m++lN lo⟩⟩ a):=
 d0 (f:=λlo=>(pD a b)[3*m+lo]?) (n:=3) (d0 (f:=λm=>eM (λlo=>(pD a b)[3*m+lo]?) 3) (cs:=λm=>eN (λlo=>H (.str ⟨⟨pB m++lN lo⟩⟩ a)) 3) (n:=3) t c) d
theorem Hr(c d:Nat)(a:ae×ab)(b:Nat)(e:b<10):(rs c d a)[b]? =H a:=d0 (n:=10) (f:=λb=>(rs c d a)[b]?) (cs:=λ_=>H a) t e
theorem kU(d:Nat):cN d<4:=by
 unfold cN;split<;>decide
theorem Bx {f j:(Nat×List Nat×Nat×Bool)×(O×(ae×ab))->fl×aI b0×List dc}{d:List (Nat×List Nat×Nat×Bool)}{e:List O}{g:List (ae×ab)}(h:kF f (d.zip (e.zip g))=kG j (d.zip (e.zip g))){c:Nat}{q a b}
  (k:d[c]? =H q)(l:e[c]? =H a)(m:g[c]? =H b):f (q,(a,b))=j (q,(a,b)):=by
 refine mK h (dP (i:=c) ?_);rw [yM];exact⟨k,by rw [yM];exact⟨l,m⟩⟩
theorem Hs(F:du g u.params){d:Nat}(Y:d<6)(l t a c n m:Nat)(A:ap)(v e w:Nat)(j:List (aL×ap))(o p f x y z:Nat)(ay B:O)(G I C:Nat)(K:ae×ab){r:List gp}
  (S:r=[]\/∃i k L M,r=gt u.params d i k L M){b:Nat}(U:b<11)(T:4<=d->b<10){s:O}{D:ae×ab}(N:(pD G C)[b]? =H s)(P:(rs I C K)[b]? =H D){q}(Q:(lP d)[b]? =H q):
  ∃i k,tH q.2.2.2 (ds g u.params d l t a c n m A v e w j o p f x y z ay B q.1 q.2.1 r s D)=
   tI q.2.2.2 (ds g u.params d l t a c n m A v e w j o p f x y z ay B q.1 q.2.1 r s D) (au g u.params (cN d) l a c n m) f q.2.2.1 (n+101,cF u.params o p ay (gt u.params d i k (E f) s)):=by
 have R:((match dp 4 d with|true=>(lP d).take 10|false=>lP d))[b]? =H q:=by
  cases h:dp 4 d with
  |true=>exact(List.getElem?_take_of_lt (T (cP h))).trans Q
  |false=>exact Q
 rcases S with rfl|⟨i,k,L,M,rfl⟩
 ·exact bh e (e+2) (Bx (d0 (F 8 l t a c n m A v e w j o p f x y z ay B 0 0 G I C .none .none K) Y) R N P)
 ·exact bh i k (Bx (d0 (F 9 _ ..) Y) R N P)
theorem pS(e:du g u.params){k:Nat}(f:k<4)(b a c n d:Nat):sL (au g u.params k b a c n d).aU=J/\(au g u.params k b a c n d).aU.any mG=aN/\cw (au g u.params k b a c n d).aU=ag/\(au g u.params k b a c n d).c.quiet=true:=by
 have q:=d0 (e 5 b a c n d) f;exact⟨congrArg lz q,congrArg (·.2.1) q,congrArg (·.2.2.1) q,congrArg (·.2.2.2) q⟩
theorem By(b:du g u.params){k:Nat}(d:k<4)(e a c n h:Nat)(A:ap):cw (f g u.params k e a c n h A).aU=true:=d0 (b 7 _ ..) d
open PyProof.Rows (AllBare)
noncomputable def jo(P:a1)(d:Nat)(a:List gp):Prop:=a=[]\/∃b c e f,a=gt P d b c e f
noncomputable def d6(u:cZ)(g:Nat->Option ab)(d:Nat)(x:Int)(q:O->Prop):Prop:=
 ∀{l:Nat} {j:List (aL×ap)} {C:ac} {B:eL->ac->Prop} (_:l<=500) (_:aR g C) {b G a c n e:Nat} {A:ap} {s t K L M N:Nat} {i:O} {m:ae->Prop} (_:¬m (n+101)) (_:g (n+101)=J)
  (_:∀y∈fP b G d,m y.1/\I C y.1 y.2) (_:m (s+101)) (_:m (t+101)) (_:I C (s+101) (ea (t+101))) (_:I C (t+101) (fZ u.params K L (aj N M) i))
  (_:(gT x<3/\∃v,i= .str ⟨⟨tF x⟩⟩ v)\/(gT x=3/\i= .none)\/(gT x=3/\∃o v,i=E o/\m (o+101)/\I C (o+101) (ah [.str ⟨⟨[97]⟩⟩ v]))) (_:q i)
  {w z:Nat} {ay:O} {F:List gp} (_:I C (n+101) (cF u.params w z ay F)) (_:jo u.params d F)
  (_:b' x d=aN->∀h o k P D,aa g (· =n+101) p C h->h.gens=C.gens->(∃r,jo u.params d r/\I h (n+101) (cF u.params w z ay r))->
   k (.send .none)= .pure (.again (au g u.params (cN d) b a c n e).c)->B (.susp (E s) aN o k P D (au g u.params (cN d) b a c n e).aU) h)
  (_:b' x d=ag->∀h D,aa g (· =n+101) p C h->h.gens=C.gens->(∃r,jo u.params d r/\I h (n+101) (cF u.params w z ay r))->
   ai u l J j (au g u.params (cN d) b a c n e).c D (bI (au g u.params (cN d) b a c n e).c) (au g u.params (cN d) b a c n e).aU h B),
  ai u l J j (f g u.params (cN d) b a c n e A).c (f g u.params (cN d) b a c n e A).p (eh (f g u.params (cN d) b a c n e A).t (.ok (.ret (E s)))) (f g u.params (cN d) b a c n e A).aU C B
theorem xb(aA:Base g)(P:du g u.params){d:Nat}(Y:d<6)(x:Int):d6 u g d x (λo=>4<=d->∀s,o≠ .ref s):=by
 intro l j C B aB K D Q a c n am A i e R S T U o ao aD aE ap V aF W aG aI aJ E F ay aq aK aL aM bs;obtain ⟨aP,aQ⟩:=K.size;obtain ⟨k,X,G,Z,ac,f,aR,aS,aT,aU,ar,aV⟩:∃(k X G Z:Nat) (ac f:ae×ab),k<11/\(4<=d->k<10)/\(pD X G)[k]? =H o/\(rs Z G ac)[k]? =H f/\(ao f.1/\I C f.1 f.2)/\
   ((lP d)[k]?).map (λq=>q.2.2.2)=H (!rE (gT x) (mX x) d):=by
  rcases aI with⟨m,L,rfl⟩|⟨m,rfl⟩|⟨m,s,L,rfl,aW,aX⟩
  ·exact kH (3*gT x+mX x) L 0 0 (i+101,ea (e+101)) _ ⟨by have:=oe x;lia,λ_=>by have:=oe x;lia,Hq L 0 _ m _ (oe x),Hr 0 0 _ _ (by have:=oe x;lia),⟨V,W⟩,Hp d Y _ m _ (oe x)⟩
  ·exact kH 9 0 0 0 (i+101,ea (e+101)) _ ⟨by decide,λ_=>by decide,t,t,⟨V,W⟩,by exact r m ((Bw d Y _ (oe x)).1)⟩
  ·exact kH 10 0 s L (i+101,ea (e+101)) _ ⟨by decide,λh=>absurd t (aJ h _),t,t,⟨aW,aX⟩,by exact r m ((Bw d Y _ (oe x)).2)⟩
 refine aw (fL.mp aV) (aH λq=>an λaY v=> ?_);rw [<-Bv]at v;refine aw (Hs P Y D Q a c n am A aP C.toks C.gens.size j E F i e R S ay (aj U T) X Z G ac aL aR aS aT aU aY) (bo λaZ a1 af=> ?_);refine aw (pS P (kU d) D a c n am) (bu λa2 a3 a9 a4=> ?_);have a5:∀y∈(n+101,cF u.params E F ay aq)::(i+101,ea (e+101))::(e+101,fZ u.params R S (aj U T) o)::f::fP D Q d,I C y.1 y.2:=by
  intro y b;rcases b8.mp b with rfl|b
  ·exact aK
  rcases b8.mp b with rfl|b
  ·exact W
  rcases b8.mp b with rfl|b
  ·exact aG
  rcases b8.mp b with rfl|b
  ·exact ar.2
  ·exact(ap y b).2
 have a6:b6 g ((n+101,cF u.params E F ay aq)::(i+101,ea (e+101))::(e+101,fZ u.params R S (aj U T) o)::f::fP D Q d) [0]:=by
  refine b6.head aE λy b q=> ?_;have:ao y.1:=by
   rcases b8.mp b with rfl|b
   ·exact V
   rcases b8.mp b with rfl|b
   ·exact aF
   rcases b8.mp b with rfl|b
   ·exact ar.1
   ·exact(ap y b).1
  rw [q]at this;exact aD this
 unfold tH tI at af;simp only [eZ]at af;obtain ⟨ah,w,M⟩:=af;unfold ds bJ at ah w M;refine c2 aB aA K aQ t t a5 a6 (aC:=[]) a0 (By P (kU d) ..) ah ?_;intro z ak a7 a_ N a' al;rw [<-a7]at ah w M;have as:aa g (· =n+101) p C z:=by
  have au:=al.grow t;refine(aa.mS au au.dH).mono (λy b=> .inl ?_) (λ_ h=> .inl h);have:y∈[n+101]:=b;rw [bQ]at this;exact this
 have av:z.gens=C.gens:=by rw [al.ct];rfl
 have ax:∃az,jo u.params d az/\I z (n+101) (cF u.params E F ay az):=⟨_,.inr (h4 aZ a1 _ _ t),al.xs _ _ aO⟩;cases O:b' x d with
 |false=>
  rw [O]at v;have b:q.2.2.2=true:=v;rw [b]at N w;obtain ⟨s,a8⟩:=Fg N;refine r a8 (r M ?_);exact ai.yield _ _ _ a2 a3 (aM O z s _ ak.c ak.p as av ax w)
 |true=>
  rw [O]at v;have b:q.2.2.2=false:=v;rw [b]at N w;refine r (kL N) (r M ?_);exact ai.again _ a4 (bs O z ak.p as av ax)
open PyProof.Rows (AllBare)
noncomputable def fT(a:Nat)(h:aY):Prop:=∃b c d,h.get? (a+101)=H (dd b c d)
noncomputable def og(a:Nat)(b:aL)(c:aY->Prop):Prop:=(b=wD a/\c=wE a)\/(b=eB a/\c=fT a)
theorem Bz(X:Base g)(v:du g u.params){k:Nat}(w:k<4)(Y:l<=350)(K:aR g C){d a c n b:Nat}{A:ap}{y:aL}{E:aY->Prop}(Z:og b y E)(F:E C.heap){R:ac->bZ->ac->Prop}
  (af:∀h,aa g p p C h->a4 u (l+5) J y h (R h))
  (cont:∀h e s,aa g p p C h->R h e s->ai u l J j (f g u.params k d a c n b A).c (f g u.params k d a c n b A).p (eh (f g u.params k d a c n b A).t e) (f g u.params k d a c n b A).aU s B):
  ai u l J j (au g u.params k d a c n b).c A (bI (au g u.params k d a c n b).c) (au g u.params k d a c n b).aU C B:=by
 obtain ⟨ah,aj⟩:=K.size;have L:∀{z:List (ae×ab)} {e:G} {M N},(∀x∈z,I C x.1 x.2)->e=run (cB g u.params 350 ah C.toks C.gens.size J j z [] []) M N (au g u.params k d a c n b).c A (bI (au g u.params k d a c n b).c) (au g u.params k d a c n b).aU->
   (bF [] e,eA e J J 5,e.c,e.p,e.aU,λx=>eh e.t x)=(⟨.call y J,1,[],0,0,[],bG e⟩,(ag,J),(f g u.params k d a c n b A).c,(f g u.params k d a c n b A).p,(f g u.params k d a c n b A).aU,λx=>eh (f g u.params k d a c n b A).t x)->
   ai u l J j (au g u.params k d a c n b).c A (bI (au g u.params k d a c n b).c) (au g u.params k d a c n b).aU C B:=by
  intro z e M N m O P;simp only [eZ]at P;refine aw P (f9 λQ ak al am an ao=> ?_);rw [O]at Q;refine c2 Y X K aj t t m .nil (aC:=[]) a0 (pS v w d a c n b).2.2.1 Q ?_;intro h aq ar S T aF as;have av:aq=e:=ar.trans O.symm;rw [av]at T S⊢;refine aw (iA T) (bo λU V ax=> ?_);have W:=as.e1 t;refine r ax ?_;injection ak with ay az;refine ai.i' (br:=l+5) (fm:=J) S t ?_ az.symm (af h W) λq s aA=> ?_
  ·exact jL ay (aW _)
  ·have aB:eh e.t q=eh (f g u.params k d a c n b A).t q:=congrFun ao q;refine r aB (r al ?_);refine r am (r an ?_);exact cont h q s W aA
 rcases Z with⟨rfl,rfl⟩|⟨rfl,rfl⟩
 ·refine aw F (bo λV i D=> ?_);have m:∀x∈[(b+101,b2 V i)],I C x.1 x.2:=λx o=>by rw [bQ]at o;subst o;exact D
  exact L m t (d0 (v 3 _ ..) w)
 ·refine aw F (cE λU aD aE D=> ?_);have m:∀x∈[(b+101,dd U aD aE)],I C x.1 x.2:=λx o=>by rw [bQ]at o;subst o;exact D
  exact L m t (d0 (v 4 _ ..) w)
theorem Ht(z:Base g)(s:du g u.params){k:Nat}(v:k<4)(D:l<=500)(K:aR g C){b a c n d:Nat}{A:ap}{e:Nat}(F:lK C.heap e)
  (h:∀i,aa g p p C i->B (.ret (.ok (.ret .none))) i):
  ai u l J j (f g u.params k b a c n d A).c (f g u.params k b a c n d A).p (eh (f g u.params k b a c n d A).t (.error (E e))) (f g u.params k b a c n d A).aU C B:=by
 obtain ⟨w,G⟩:=K.size;obtain ⟨m,L⟩:=F;have M:∀x∈[(e+101,hf m)],I C x.1 x.2:=λx y=>by rw [bQ]at y;subst y;exact L
 have N:∀{o q},bF [] (run (cB g u.params 500 w C.toks C.gens.size J j [(e+101,hf m)] [] []) o q (f g u.params k b a c n d A).c (f g u.params k b a c n d A).p (eh (f g u.params k b a c n d A).t (.error (E e))) (f g u.params k b a c n d A).aU)=⟨.ret .none,0,[],0,0,[],bG (run (cB g u.params 500 w C.toks C.gens.size J j [(e+101,hf m)] [] []) o q (f g u.params k b a c n d A).c (f g u.params k b a c n d A).p (eh (f g u.params k b a c n d A).t (.error (E e))) (f g u.params k b a c n d A).aU)⟩->ai u l J j (f g u.params k b a c n d A).c (f g u.params k b a c n d A).p (eh (f g u.params k b a c n d A).t (.error (E e))) (f g u.params k b a c n d A).aU C B:=λ{o q} O=>by
  refine c2 D z K G t t M .nil (aC:=[]) a0 (By s v ..) O ?_;intro i S T U P Q R;refine r (e' P) (r (cA Q) ?_);exact ai.done (.ok (.ret .none)) (h i (R.e1 t))
 exact N (d0 (s 6 _ ..) v)
noncomputable abbrev fU:=O×Int×Nat
noncomputable def dC(d:Nat)(a:List fU):List fU:=a.filter λy=> !b' y.2.1 d
theorem BA(ax:Base g)(az:du g u.params){d:Nat}(Y:d<6)(N:∀x,d6 u g d x (λ_=>True))(af:l<=350){P a4 a c n W:Nat}{ah:aL}{aj:aY->Prop}(aJ:og W ah aj){Q:ae->Prop}(aA:¬Q (n+101))(a5:g (n+101)=J)
  {a6 a7:Nat}{ay:O}:∀(s:List fU) (C:ac) (A:ap) (j:List (aL×ap)) (B:eL->ac->Prop) (S i:ae->Prop) (v:Nat->Prop),aR g C->cX u g (l+5) ah aj (s.map (·.1)) S i v C->(∀y∈s,df u.params Q C.heap y.1 y.2.1 y.2.2)->
   (∀x,Q x->x<C.heap.objs.size)->(∀x,Q x->¬i x)->¬S (n+101)->n+101<C.heap.objs.size->(∀y∈fP P a4 d,Q y.1/\I C y.1 y.2)->(∃X,jo u.params d X/\I C (n+101) (cF u.params a6 a7 ay X))->
   (∀f y ak al k am ao (a8 a9:ae->Prop) (a_:Nat->Prop),(∃aK,s=aK++y::ak)->dC d s=y::dC d ak->aa g (λx=>x=n+101\/i x) v C f->(∃X,jo u.params d X/\I f (n+101) (cF u.params a6 a7 ay X))->
    k (.send .none)= .pure (.again (au g u.params (cN d) P a c n W).c)->(∀x,a8 x->S x\/C.heap.objs.size<=x)->(∀x,a9 x->i x\/C.heap.objs.size<=x)->(∀m,a_ m->v m\/C.gens.size<=m)->cX u g (l+5) ah aj (ak.map (·.1)) a8 a9 a_ f->
    B (.susp y.1 aN al k am ao (au g u.params (cN d) P a c n W).aU) f)->
   (dC d s=[]->∀f,aa g (λx=>x=n+101\/i x) v C f->B (.ret (.ok (.ret .none))) f)->
   ai u l J j (au g u.params (cN d) P a c n W).c A (bI (au g u.params (cN d) P a c n W).c) (au g u.params (cN d) P a c n W).aU C B
 | [],C,A,j,B,S,i,v,K,Z,aM,bs,ab,aP,aQ,L,aB,aV,c4=>by
  refine Bz ax az (kU d) af K aJ (Z.foot.it C (.refl K)) (R:=λf ar D=>aa g i v f D/\∃e,ar= .error (E e)/\lK D.heap e/\f.heap.objs.size<=e+101) (λf T=>(Z.ext (T.mono aF aF)).nil) (λf ar D as=>an λaC=>aH λe=>aT ?_);rintro rfl;intro bh _;exact Ht ax az (kU d) (bm t af) aC.K bh λF w=>c4 t F ((as.zero.then aC (λ_ h=> .inl (.inr h)) (λ_ h=> .inl h)).then w aF aF)
 |y::s,C,A,j,B,S,i,v,K,Z,aM,bs,ab,aP,aQ,L,aB,aV,c4=>by
  refine Bz ax az (kU d) af K aJ (Z.foot.it C (.refl K)) (R:=λf ar D=>aa g i v f D/\ar= .ok (.ret y.1)/\
   ∃(M U:ae->Prop) (V:Nat->Prop),(∀x,M x->S x\/f.heap.objs.size<=x)/\(∀x,U x->i x\/f.heap.objs.size<=x)/\(∀m,V m->v m\/f.gens.size<=m)/\cX u g (l+5) ah aj (s.map (·.1)) M U V D)
   (λf T=>(Z.ext (T.mono aF aF)).cons) ?_
  refine λf ar D as=>aT λaC=> ?_;rintro rfl;refine cE λM U V=>bu λa' ba bi bj=> ?_;have av:aa g i v C D:=as.zero.then aC (λ_ h=> .inl h) (λ_ h=> .inl h);have xc:¬i (n+101):=λq=>aP (Z.foot.lL _ q);refine aw ((aM y aO).mono u.params (jn:=Q) (λb T N e=>av.fr b T e (ab b N)) (λ_ h=>h)) (jK λbk bK bL bM bN bO=>f9 λbl bn bo bp br bt=> ?_);refine aw aB (aH λX=>an λbv aB=> ?_);have bw:=av.fr _ _ aB xc;have bx:∀z∈fP P a4 d,Q z.1/\I D z.1 z.2:=λz o=>⟨(L z o).1,av.fr _ _ (L z o).2 (ab _ (L z o).1)⟩;have aD:C.heap.objs.size<=f.heap.objs.size:=as.aZ;have bb:¬M (n+101):=λq=>by
   rcases a' _ q with q|q
   ·exact aP q
   ·exact a2 102 101 t (aq 102 0 0 101 (aq 102 0 0 0 aQ aD) q)
  have bc:∀{F},aa g (· =n+101) p D F->aa g (λx=>x=n+101\/i x) v C F:=λw=>(av.mono (λ_ h=> .inl (.inr h)) (λ_ h=> .inl h)).then w (λ_ h=> .inl (.inl h)) aF;have bd:∀{F},aa g (· =n+101) p D F->cX u g (l+5) ah aj (s.map (·.1)) M U V F:=λw=>bj.ext (w.mono (λx h=> .inl (λq=>bb (h▸q))) aF);have be:∀x,M x->S x\/C.heap.objs.size<=x:=λx h=>(a' x h).imp id (λq=>aS aD q);have aE:∀x,U x->i x\/C.heap.objs.size<=x:=λx h=>(ba x h).imp id (λq=>aS aD q);have aG:∀x,V x->v x\/C.gens.size<=x:=λx h=>(bi x h).imp id (λq=>aS as.dH q);have bf:y.1=E bk:=bl;refine r bf (N y.2.1 (bm t af) av.K aA a5 bx bn bo bp br bt trivial bw bv ?_ ?_)
  ·intro aW F al k am ao w _ aX a0;refine r (cj bf) (aV F y s al k am ao M U V ⟨[],t⟩ ?_ (bc w) aX a0 be aE aG (bd w));unfold dC;rw [oW,aW];rfl
  ·intro aW F ao w _ aX;have bg:dC d (y::s)=dC d s:=by
    unfold dC;rw [oW,aW];rfl
   have G:=bc w;refine BA ax az Y N af aJ aA a5 s F ao j B M U V w.K (bd w) (λz o=> ?_) (λx aI=>bP (bs x aI) G.aZ) (λx aI q=> ?_) bb (bP aQ G.aZ) (λz o=>⟨(L z o).1, ?_⟩) aX ?_ ?_
   ·refine(aM z (.tail _ o)).mono u.params (λb T N e=>G.fr b T e ?_) (λ_ h=>h);rintro (q|q)
    ·exact aA (q▸N)
    ·exact ab b N q
   ·rcases ba x q with q|q
    ·exact ab x aI q
    ·exact absurd (bs x aI) (cx (aS aD q))
   ·refine G.fr _ _ (L z o).2 ?_;rintro (q|q)
    ·exact aA (q▸(L z o).1)
    ·exact ab _ (L z o).1 q
   ·intro a1 z ak al k am bz bA bB bC ⟨aK,bD⟩ o a3 bE a0 bF bG bH bJ;refine aV a1 z ak al k am bz bA bB bC ⟨y::aK,by refine r bD ?_;rfl⟩ (bg.trans o) (G.then a3 (λx h=> ?_) (λm h=>aG m h)) bE a0 (λx h=> ?_) (λx h=> ?_) (λm h=> ?_) bJ
    ·rcases h with h|h
     ·exact .inl (.inl h)
     ·exact(aE x h).imp .inr id
    ·exact(bF x h).elim (be x) (λq=> .inr (aS G.aZ q))
    ·exact(bG x h).elim (aE x) (λq=> .inr (aS G.aZ q))
    ·exact(bH m h).elim (aG m) (λq=> .inr (aS G.dH q))
   ·intro o a1 a3;refine c4 (bg.trans o) a1 (G.then a3 (λx h=> ?_) (λm h=>aG m h));rcases h with h|h
    ·exact .inl (.inl h)
    ·exact(aE x h).imp .inr id
open PyProof.Rows (AllBare)
theorem BB(G:Base g)(ar:du g u.params)(L:l<=500)(K:aR g C){i b m o:Nat}(as:I C (i+101) (dd b m o)){st:dM}(af:C.gens[b]? =H st){O:eL->ac->Prop}{R:bZ->ac->Prop}
  (au:∀n y z j A,b3 [] (jl g u.params i b m o n y z j A st.seen) J J 5 (.resume b (.send .none)) 0 [] 0 0 [] J)
  (av:∀n y z j A s P Q v,ok [] (w_ g u.params i b m o n y z j A st.seen s P Q v) (.ret v) 0 [] 0 0 [])
  (aw:∀n y z j A s P Q,ok [1] (w' g u.params i b m o n y z j A st.seen s P Q) (.err (.ref (s+102))) 0 [H (s+102,hf (s+101))] 2 0 [])
  (ax:∀{j c A w M k B} d,aa g p p C d->d.gens[b]? =H st->cw w=ag->dp (l+cW c w) (l+5)=ag->J=(fw w (J,J)).1->
   (∀e ah,O e ah->ai u l J j c A (k e.result) w (ah.setGen b e.genState) B)->ai u l J j c A (.resume b (.send .none) M k) w d B)
  (ay:∀e d,O e d->aR g d/\e.genState.bare=ag)
  (az:∀e d,O e d->(∃v M k c A w,e= .susp v aN M k c A w/\∀f,aa g p p (d.setGen b e.genState) f->f.gens=(d.setGen b e.genState).gens->R (.ok (.ret v)) f)\/
   (e= .ret (.ok (.ret .none))/\∀f x,aa g p p (d.setGen b e.genState) f->d.heap.objs.size<=x+101->lK f.heap x->R (.error (E x)) f)):
  a4 u l J (eB i) C R:=by
 refine a4.c1 λj A=> ?_;obtain ⟨n,aj⟩:=K.size;have aA:∀x∈[(i+101,dd b m o)],I C x.1 x.2:=λx ak=>by rw [bQ]at ak;subst ak;exact as
 refine c2 L G K aj t t aA .nil (aC:=[]) a0 t (ar 10 i b m o n C.toks C.gens.size j A) ?_;intro al aD aE ok aF a1 N;have S:=N.e1 t;have T:al.gens=C.gens:=by rw [N.ct];rfl
 have aG:al.gens[b]? =_:=(congrArg (λa:Array dM=>a[b]?) T).trans af;refine r (Ff aF) (ai.genState aG ?_);have aH:aD=pQ g u.params i b m o n C.toks C.gens.size j A:=aE;subst aH;obtain ⟨a2,a3⟩:=S.K.size;have q:=au n C.toks C.gens.size j A;simp only [eZ]at q;obtain ⟨bV,bc⟩:=q;refine c2 L G S.K (n:=n) (by refine r N.aZ (r aj ?_);rfl) N.bx (congrArg Array.size T) (D:=[]) (λx h=>nomatch h) .nil (aC:=[]) a0 ok bV ?_;intro d am aI U aJ a5 an;have aK:=an.e1 t;have aL:d.gens=C.gens:=by rw [an.ct,T];rfl
 obtain ⟨M,aM⟩:=Fe aJ;refine r aM ?_;have ao:am=jl g u.params i b m o n C.toks C.gens.size j A st.seen:=aI;have aP:eA am J J 5=(ag,J):=by exact r ao bc
 injection aP with aQ aS;refine ax d (S.zero.trans aK) ((congrArg (λa:Array dM=>a[b]?) aL).trans af) U (jL aQ (aW _)) aS.symm ?_;intro e f ap;obtain ⟨aT,aU⟩:=ay e f ap;have W:aa g p (· =b) f (f.setGen b e.genState):=aa.setGen aT aU;obtain ⟨aq,X⟩:=W.K.size;subst ao;rcases az e f ap with⟨v,a6,a7,a8,a9,a_,rfl,Y⟩|⟨rfl,Y⟩
 ·refine c2 L G W.K X t t (D:=[]) (λx h=>nomatch h) .nil (aC:=[]) a0 U (av ..) ?_;intro Z aV aX aY ab ae F;refine r (e' ab) (r (cA ae) ?_);exact ai.done (.ok (.ret v)) (Y Z (F.e1 t) (by rw [F.ct];rfl))
 ·refine c2 L G W.K X t t (D:=[]) (λx h=>nomatch h) .nil (aC:=[]) a0 U (aw ..) ?_;intro Z aV aX aY ab ae F;refine r (pu ab) (r (cA ae) ?_);refine ai.done (.error _) (Y Z (aq+1) (F.e1 t) ?_ ⟨_,F.xs _ _ aO⟩);have:f.heap.objs.size=aq+101:=X;exact V 0 101 0 102 t (aB this)
theorem Hu(t:Base g)(i:du g u.params)(y:l<=500)(K:aR g C){o h z B:Nat}(D:I C (o+101) (dd h z B)){m:aL}(F:C.gens[h]? =H (.fresh m)){l1:eL->ac->Prop}{R:bZ->ac->Prop}
  (G:∀q A,aa g p p C q->tn u (l+5) J m A (bI m) [] (q.setGen h .running) l1)
  (L:∀e d,l1 e d->aR g d/\e.genState.bare=ag)
  (M:∀e d,l1 e d->(∃v N k c A w,e= .susp v aN N k c A w/\∀f,aa g p p (d.setGen h e.genState) f->f.gens=(d.setGen h e.genState).gens->R (.ok (.ret v)) f)\/
   (e= .ret (.ok (.ret .none))/\∀f x,aa g p p (d.setGen h e.genState) f->d.heap.objs.size<=x+101->lK f.heap x->R (.error (E x)) f)):
  a4 u l J (eB o) C R:=
 BB t i y K D F (λn r s j A=>i 11 _ ..) (λn r s j A O P Q v=>i 12 _ ..) (λn r s j A O P Q=>i 13 _ ..) (λd S T ok a b x=>ai.resumeFresh ok a b T (λj=>G d _ S j) x) L M
theorem Hv(B:Base g)(i:du g u.params)(D:l<=500)(K:aR g C){m h F G:Nat}(L:I C (m+101) (dd h F G)){o:lu->aI b0}{M:List O}{q:aL}{r:ap}{s:List dc}{N:Bool}(P:C.gens[h]? =H (.suspended o M q r s N)){l1:eL->ac->Prop}{R:bZ->ac->Prop}
  (Q:∀t,aa g p p C t->tn u (l+5) J q r (o (.send .none)) s (t.setGen h .running) l1)
  (S:∀e d,l1 e d->aR g d/\e.genState.bare=ag)
  (T:∀e d,l1 e d->(∃v U k c A w,e= .susp v aN U k c A w/\∀f,aa g p p (d.setGen h e.genState) f->f.gens=(d.setGen h e.genState).gens->R (.ok (.ret v)) f)\/
   (e= .ret (.ok (.ret .none))/\∀f x,aa g p p (d.setGen h e.genState) f->d.heap.objs.size<=x+101->lK f.heap x->R (.error (E x)) f)):
  a4 u l J (eB m) C R:=
 BB B i D K L P (λn y z j A=>i 14 _ ..) (λn y z j A V W X v=>i 15 _ ..) (λn y z j A V W X=>i 16 _ ..) (λd Y Z ok a b x=>ai.Fj ok a b Z (λj=>Q d Y j) x) S T
open PyProof.Rows (AllBare)
structure h_(dj:cZ)(b5:Nat->Option ab)(d b_ ec n go:Nat)(a:ae->Prop)(m7 fN:Nat)(ay:O)(c:List fU)(C:ac):Prop where
 K:aR b5 C
 m8:¬a (n+101)
 hH:b5 (n+101)=J
 xd:go≠n
 bs:∀x,a x->x<C.heap.objs.size
 BC:∀y∈c,df dj.params a C.heap y.1 y.2.1 y.2.2
 fP:∀y∈fP b_ ec d,a y.1/\I C y.1 y.2
 ns:∃b,jo dj.params d b/\I C (n+101) (cF dj.params m7 fN ay b)
 go:∃cs e f,I C (go+101) (dd cs e f)
noncomputable def BD(u:cZ)(g:Nat->Option ab)(l d j a c n m:Nat)(v:aL)(w:aY->Prop)(z A:Nat)(ay:O)(b:List fU)(B o:ae->Prop)(p:Nat->Prop)(C:ac)(e:eL)(f:ac):Prop:=
 aa g (λx=>x=n+101\/o x) p C f/\
 ((∃y h D k E F,∃(q r:ae->Prop) (s:Nat->Prop),(∃G,b=G++y::h)/\dC d b=y::dC d h/\e= .susp y.1 aN D k E F (au g u.params (cN d) j a c n m).aU/\
   (∃t,jo u.params d t/\I f (n+101) (cF u.params z A ay t))/\k (.send .none)= .pure (.again (au g u.params (cN d) j a c n m).c)/\
   (∀x,q x->B x\/C.heap.objs.size<=x)/\(∀x,r x->o x\/C.heap.objs.size<=x)/\(∀i,s i->p i\/C.gens.size<=i)/\cX u g (l+5) v w (h.map (·.1)) q r s f)\/
  (dC d b=[]/\e= .ret (.ok (.ret .none))))
theorem BE(z:Base g)(B:du g u.params){d:Nat}(Y:d<6)(D:∀x,d6 u g d x (λ_=>True))(E:l<=350){e F a c n f G:Nat}{p:aL}{q:aY->Prop}(I:og f p q){s:ae->Prop}
  {v w:Nat}{ay:O}{i:List fU}(b:h_ u g d e F n G s v w ay i C){m o:ae->Prop}{r:Nat->Prop}(K:cX u g (l+5) p q (i.map (·.1)) m o r C)(L:∀x,s x->¬o x)(M:¬m (n+101))(A:ap)(j:List (aL×ap)):
  ai u l J j (au g u.params (cN d) e a c n f).c A (bI (au g u.params (cN d) e a c n f).c) (au g u.params (cN d) e a c n f).aU C (BD u g l d e a c n f p q v w ay i m o r C):=by
 refine aw b.ns (aH λam=>an λao N=> ?_);refine BA z B Y D E I b.m8 b.hH i C A j _ m o r b.K K b.BC b.bs L M (b9 N) b.fP b.ns ?_ ?_
 ·intro P y Q R k S T U V W X Z aa ab ac af ah aj ak;exact⟨aa,.inl (gr y Q R k S T U V ⟨W,X,Z,t,ab,ac,af,ah,aj,ak⟩)⟩
 ·intro h P al;exact⟨al,.inr ⟨h,t⟩⟩
theorem h_.ext {d p q n i:Nat}{j:ae->Prop}{k l:Nat}{ay:O}{r s:List fU}{m:ac}(a:h_ u g d p q n i j k l ay r C){o:ae->Prop}{w:Nat->Prop}(c:aa g o w C m)(t:∀x,j x->¬o x)(z:¬o (i+101))
  (A:∃v,jo u.params d v/\I m (n+101) (cF u.params k l ay v))(B:∀y∈s,y∈r):h_ u g d p q n i j k l ay s m:=
 ⟨c.K,a.m8,a.hH,a.xd,λx D=>bP (a.bs x D) c.aZ,λy f=>(a.BC y (B y f)).mono u.params (λb E F e=>c.fr b E e (t b F)) (λ_ h=>h),λy f=>⟨(a.fP y f).1,c.fr _ _ (a.fP y f).2 (t _ (a.fP y f).1)⟩,A,by
  refine aw a.go (cE λG K L h=> ?_);exact dT G K L (c.fr _ _ h z)⟩
noncomputable def BF:=0 where
 h'(a:ae->Prop)(n b:Nat)(c:ae->Prop):ae->Prop:=λx=>a x\/x=b+101\/x=n+101\/c x
 ia(n:Nat)(a:ae->Prop):ae->Prop:=λx=>x=n+101\/a x
 gW(b:Nat)(c:Nat->Prop):Nat->Prop:=λa=>a=b\/c a
open BF
theorem l2 {a:Prop}(h:∀X:Prop,(a->X)->X):a:=h a λb=>b
noncomputable def hI(u:cZ)(g:Nat->Option ab)(l d r a c n s t:Nat)(ay:O)(v:List fU)(a8 w:ae->Prop)(y:Nat->Prop)(z:Nat)(b:ac)(e:eL)(A:ac):Prop:=
 ∃h,∃(i j:ae->Prop) (k:Nat->Prop),∃m o q,og m o q/\aa g p (· =z) b h/\(∀x,i x->a8 x\/b.heap.objs.size<=x)/\(∀x,j x->w x\/b.heap.objs.size<=x)/\(∀f,k f->y f\/b.gens.size<=f)/\
    BD u g (l+5) d r a c n m o q s t ay v i j k h e A
theorem BG {d o al a c n f b am ao:Nat}{s:ae->Prop}
  {T U:Nat}{ay:O}{st:dM}{a8 K:ae->Prop}{F:Nat->Prop}(M:List fU)(N:h_ u g d o al n f s T U ay M C)(a':du g u.params)(aP:I C (f+101) (dd b am ao))(ba:C.gens[b]? =H st)
  (bo:∀x,a8 x->x<C.heap.objs.size)(bp:∀x,K x->a8 x)(br:∀m,F m->m<C.gens.size)(bb:∀x,s x->¬K x)(bt:¬a8 (n+101))(aQ:¬K (f+101))(bv:¬F b)
  (ra:∀i,aa g (λx=>¬h' s n f a8 x) (λm=>¬gW b F m) C i->h_ u g d o al n f s T U ay M i->I i (f+101) (dd b am ao)->i.gens[b]? =H st->∀R:bZ->ac->Prop,
   (∀e B,hI u g l d o a c n T U ay M a8 K F b i e B->aR g B/\e.genState.bare=ag)->
   (∀e B,hI u g l d o a c n T U ay M a8 K F b i e B->(∃v aT k c A w,e= .susp v aN aT k c A w/\∀j,aa g p p (B.setGen b e.genState) j->j.gens=(B.setGen b e.genState).gens->R (.ok (.ret v)) j)\/
    (e= .ret (.ok (.ret .none))/\∀j x,aa g p p (B.setGen b e.genState) j->B.heap.objs.size<=x+101->lK j.heap x->R (.error (E x)) j))->a4 u l J (eB f) i R)
  (P:∀(aq:List fU) (C:ac) (G:Nat) (ai:aL) (aj:aY->Prop) (ab Q:ae->Prop) (af:Nat->Prop) (k:lu->aI b0) (aT:List O) (bw:aL) (bx:ap),aq.length<M.length->og G ai aj->h_ u g d o al n f s T U ay aq C->I C (f+101) (dd b am ao)->
   C.gens[b]? =H (.suspended k aT bw bx (au g u.params (cN d) o a c n G).aU aN)->k (.send .none)= .pure (.again (au g u.params (cN d) o a c n G).c)->cX u g (l+5+5) ai aj (aq.map (·.1)) ab Q af C->(∀x,s x->¬Q x)->¬ab (n+101)->¬Q (f+101)->¬af b->
   cX u g l (eB f) (fT f) ((dC d aq).map (·.1)) (h' s n f ab) (ia n Q) (gW b af) C):
  cX u g l (eB f) (fT f) ((dC d M).map (·.1)) (h' s n f a8) (ia n K) (gW b F) C:=by
 have bz:b<C.gens.size:=(ly.mp ba).1;have bc:mU g (fT f) (h' s n f a8) (ia n K) (gW b F) C:=by
  refine⟨N.K, ?_, ?_, ?_,λi L=>dT b am ao (L.fr _ _ aP (λq=>q (.inr (.inl t))))⟩
  ·rintro x (h|rfl|rfl|h)
   ·exact N.bs x h
   ·exact b9 aP
   ·refine aw N.ns (aH λ_=>an λ_ V=> ?_);exact b9 V
   ·exact bo x h
  ·rintro x (rfl|h)
   ·exact .inr (.inr (.inl t))
   ·exact .inr (.inr (.inr (bp x h)))
  ·rintro x (rfl|h)
   ·exact bz
   ·exact br x h
 have call:∀i,aa g (λx=>¬h' s n f a8 x) (λm=>¬gW b F m) C i->a4 u l J (eB f) i λar j=>aa g (ia n K) (gW b F) i j/\
   ((∃y S,dC d M=y::dC d S/\ar= .ok (.ret y.1)/\∃(as av:ae->Prop) (ax:Nat->Prop),(∀x,as x->h' s n f a8 x\/i.heap.objs.size<=x)/\(∀x,av x->ia n K x\/i.heap.objs.size<=x)/\(∀m,ax m->gW b F m\/i.gens.size<=m)/\
     cX u g l (eB f) (fT f) ((dC d S).map (·.1)) as av ax j)\/
    (dC d M=[]/\∃e,ar= .error (E e)/\lK j.heap e/\i.heap.objs.size<=e+101)):=by
   intro i L;have bd:∃P,jo u.params d P/\I i (n+101) (cF u.params T U ay P):=by
    refine aw N.ns (aH λP=>an λaV V=> ?_);exact⟨P,aV,L.fr _ _ V (λq=>q (.inr (.inr (.inl t))))⟩
   have az:h_ u g d o al n f s T U ay M i:=N.ext L (λx D q=>q (.inl D)) (λq=>q (.inr (.inl t))) bd (λ_ h=>h);have aA:=L.ct b _ ba (λq=>q (.inl t));have aB:=L.fr _ _ aP (λq=>q (.inr (.inl t)));have be:n+101<i.heap.objs.size:=by
    refine aw bd (aH λ_=>an λ_ V=> ?_);exact b9 V
   refine ra i L az aB aA _ ?_ ?_
   ·refine λe B=>q5 λbf ab Q af G ai aj=>s_ λbg W _ _ _ ak h=>⟨ak.K, ?_⟩;refine aw (pS a' (kU d) o a c n G) (bu λbA aC bB bC=> ?_);rcases h with⟨y,S,aD,aE,aG,aJ,aW,aX,aK,_,_,rfl,_⟩|⟨_,rfl⟩
    ·refine(?_:(!(aN||(au g u.params (cN d) o a c n G).aU.any mG))=ag);refine r aC ?_;rfl
    ·rfl
   ·refine λe B bD=>l2 λZ cz=>aw bD (q5 λbf ab Q af G ai aj=>s_ λbg W bi aM a0 ak h=> ?_);refine aw (pS a' (kU d) o a c n G) (bu λbA aC bB bC=> ?_);have bE:∀x,s x->¬Q x:=λx D q=>by
     rcases aM x q with q|q
     ·exact bb x D q
     ·exact absurd (az.bs x D) (cx q)
    have bF:¬ab (n+101):=λq=>by
     rcases bi _ q with q|q
     ·exact bt q
     ·exact absurd be (cx q)
    have bG:¬Q (f+101):=λq=>by
     rcases aM _ q with q|q
     ·exact aQ q
     ·exact absurd (b9 aB) (cx q)
    have bH:¬af b:=λq=>by
     rcases a0 _ q with q|q
     ·exact bv q
     ·exact absurd (ly.mp aA).1 (cx q)
    have a1:aa g (ia n K) (gW b F) i B:=(W.mono aF (λm X=> .inl (.inl X))).then ak (λx D=>D.elim (λq=> .inl (.inl q)) (λq=>(aM x q).imp .inr id)) (λm X=>(a0 m X).imp .inr id);have bI:b<B.gens.size:=bP (ly.mp aA).1 a1.dH;have bj:∀{j},e.genState.bare=ag->aa g p p (B.setGen b e.genState) j->aa g (ia n K) (gW b F) i j:=λaO ah=>
     (a1.then (aa.setGen ak.K aO) aF (λm X=> .inl (.inl X))).then ah aF aF
    rcases h with⟨y,S,aD,aE,aG,aJ,aW,aX,aK,⟨bV,bk⟩,Y,rfl,bJ,bK,bl,a2,bm,bL⟩|⟨Y,rfl⟩
    ·refine cz (.inl (kH _ _ _ _ _ _ ⟨t,λj ah bM=> ?_⟩));have aO:(eL.susp y.1 aN aD aE aG aJ (au g u.params (cN d) o a c n G).aU).genState.bare=true:=by
      refine(?_:(!(aN||(au g u.params (cN d) o a c n G).aU.any mG))=ag);refine r aC ?_;rfl
     have a3:=bj aO ah;refine⟨a3,.inl (bh y S ⟨Y,t,h' s n f aW,ia n aX,gW b aK, ?_, ?_, ?_, ?_⟩)⟩
     ·rintro x (h|h|h|h)
      ·exact .inl (.inl h)
      ·exact .inl (.inr (.inl h))
      ·exact .inl (.inr (.inr (.inl h)))
      ·exact(bl x h).elim (λq=>(bi x q).imp (λq=> .inr (.inr (.inr q))) id) (λq=> .inr (aS W.aZ q))
     ·rintro x (h|h)
      ·exact .inl (.inl h)
      ·exact(a2 x h).elim (λq=>(aM x q).imp .inr id) (λq=> .inr (aS W.aZ q))
     ·rintro x (h|h)
      ·exact .inl (.inl h)
      ·exact(bm x h).elim (λq=>(a0 x q).imp .inr id) (λq=> .inr (aS W.dH q))
     ·have bn:¬aK b:=λq=>by
       rcases bm b q with q|q
       ·exact bH q
       ·exact absurd (bP (ly.mp aA).1 W.dH) (cx q)
      have a5:∀{x},x<i.heap.objs.size->¬(bf.heap.objs.size<=x):=λh q=>absurd (bP h W.aZ) (cx q);have os:aa g p (· =b) B j:=(aa.setGen ak.K aO).then ah aF aF;obtain ⟨bW,bN⟩:=z8 bI;refine P S j G ai aj aW aX aK aE aD aG aJ (by rw [bk,e9,jC];exact bP (sx _) (hT _ _)) bg (az.ext a3 ?_ ?_ ?_ ?_) (a3.fr _ _ aB ?_) ?_ bK (bL.ext (os.mono aF (λm X=> .inl λq=>bn (X▸q)))) ?_ ?_ ?_ bn
      ·rintro x D (h|h)
       ·exact N.m8 (h▸D)
       ·exact bb x D h
      ·rintro (h|h)
       ·exact N.xd (f7 (show f+101=n+101 from h))
       ·exact aQ h
      ·refine aw bJ (aH λP=>an λaV V=> ?_);exact⟨P,aV,os.fr _ _ V (λh=>h.elim)⟩
      ·intro z bO;rw [bk];exact mn _ (.tail _ bO)
      ·rintro (h|h)
       ·exact N.xd (f7 (show f+101=n+101 from h))
       ·exact aQ h
      ·refine r bM ?_;refine r (Fs bN) ?_;refine(?_:H (dM.suspended aE aD aG aJ _ (aN||(au g u.params (cN d) o a c n G).aU.any mG))=_);refine r aC ?_;rfl
      ·intro x D q;rcases a2 x q with q|q
       ·exact bE x D q
       ·exact a5 (az.bs x D) q
      ·intro q;rcases bl _ q with q|q
       ·exact bF q
       ·exact a5 be q
      ·intro q;rcases a2 _ q with q|q
       ·exact bG q
       ·exact a5 (b9 aB) q
    ·exact cz (.inr ⟨t,λj x ah D bQ=>⟨bj t ah,.inr ⟨Y,x,t,bQ,aS a1.aZ D⟩⟩⟩)
 cases Y:dC d M with
 |nil=>
  refine⟨bc,λi L=>a4.mono (call i L) ?_⟩;refine λar j=>an λa6=> ?_;rintro (⟨y,S,h,_⟩|⟨_,e,a7,a9,a_⟩)
  ·rw [Y]at h;cases h
  ·exact⟨a6,e,a7,a9,a_⟩
 |cons bX bY=>
  refine⟨bc,λi L=>a4.mono (call i L) ?_⟩;refine λar j=>an λa6=> ?_;rintro (⟨y,S,h,a7,as,av,ax,a9,a_,bR,bS⟩|⟨h,_⟩)
  ·rw [Y]at h;injection h with bT bU;subst bT bU;exact⟨a6,a7,as,av,ax,a9,a_,bR,bS⟩
  ·rw [Y]at h;cases h
theorem Hw(P:Base g)(B:du g u.params){d:Nat}(Y:d<6)(ah:∀x,d6 u g d x (λ_=>True))(Q:l<=340){A aj a c n w v ak al:Nat}{L:ae->Prop}
  {S T:Nat}{ay:O}:∀(m:Nat) (f:List fU) (C:ac) (i:Nat) (y:aL) (z:aY->Prop) (o b:ae->Prop) (s:Nat->Prop) (k:lu->aI b0) (D:List O) (E:aL) (F:ap),f.length<m->og i y z->h_ u g d A aj n w L S T ay f C->I C (w+101) (dd v ak al)->
   C.gens[v]? =H (.suspended k D E F (au g u.params (cN d) A a c n i).aU aN)->k (.send .none)= .pure (.again (au g u.params (cN d) A a c n i).c)->cX u g (l+5+5) y z (f.map (·.1)) o b s C->(∀x,L x->¬b x)->¬o (n+101)->¬b (w+101)->¬s v->
   cX u g l (eB w) (fT w) ((dC d f).map (·.1)) (h' L n w o) (ia n b) (gW v s) C:=by
 intro m;induction m with
 |zero=>intro f _ _ _ _ _ _ _ _ _ _ _ h;exact absurd h (Nat.not_lt_zero _)
 |succ m am=>
  intro f C i y z o b s k D E F ao U aq ar as av G W X ax Z;refine BG (a:=a) (c:=c) f aq B ar as G.foot.h5 G.foot.lL G.foot.ga W X ax Z (λab az M aA aB R aC aD=>Hv P B (bm t Q) M.K aA aB (l1:=hI u g l d A a c n S T ay f o b s v ab) (λaE af j=> ?_) aC aD) λaG aJ i y z o b s k D E F h=>am aG aJ i y z o b s k D E F (bP h (io ao));have K:aa g p (· =v) ab (aE.setGen v .running):=af.zero.trans (aa.setGen af.K t);refine r av (ai.again _ (pS B (kU d) A a c n i).2.2.2 ?_);refine ai.mono (λe aR h=>nW _ o b s i y z ⟨U,K,λ_ h=> .inl h,λ_ h=> .inl h,λ_ h=> .inl h,h⟩) (BE P B Y ah (V 0 340 5 350 t Q) U (M.ext K (λ_ _ h=>h.elim) (λh=>h.elim) ?_ (λ_ h=>h)) ((G.ext (az.mono (λx aK=> .inl λq=>aK (.inr (.inr (.inr q)))) (λaM N=> .inl λq=>N (.inr q)))).ext (K.mono aF (λaM N=> .inl λq=>Z (N▸q)))) W X _ j);refine aw M.ns (aH λaO=>an λaP aQ=> ?_);exact⟨aO,aP,K.fr _ _ aQ (λh=>h.elim)⟩
open PyProof.Rows (AllBare)
theorem BH(U:Base g)(P:du g u.params){d:Nat}(Y:d<6)(ah:∀x,d6 u g d x (λ_=>True))(W:l<=340){G as a c n r b av aw:Nat}{Q:ae->Prop}
  {K L:Nat}{ay:O}{X:aL}{a8 s:ae->Prop}{v:Nat->Prop}(M:List fU)(ax:h_ u g d G as n r Q K L ay M C)(az:I C (r+101) (dd b av aw))(aA:C.gens[b]? =H (.fresh X))
  (aB:I C (n+101) (cF u.params K L ay []))
  (aC:∀x,a8 x->x<C.heap.objs.size)(aD:∀x,s x->a8 x)(aE:∀m,v m->m<C.gens.size)(aj:∀x,Q x->¬s x)(ak:¬a8 (n+101))(aG:¬s (r+101))(aH:¬v b)
  (start:∀i,aa g (λx=>¬h' Q n r a8 x) (λm=>¬gW b v m) C i->∀f,aa g p (· =b) i f->I f (n+101) (cF u.params K L ay [])->∀(A:ap) (j:List (aL×ap)) (B:eL->ac->Prop),
   (∀w (y z:ae->Prop) (D:Nat->Prop) o E F S,og o E F->aa g p p f w->cX u g (l+5+5) E F (M.map (·.1)) y z D w->(∀x,y x->a8 x\/f.heap.objs.size<=x)->(∀x,z x->s x\/f.heap.objs.size<=x)->(∀m,D m->v m\/f.gens.size<=m)->
    ai u (l+5) J j (au g u.params (cN d) G a c n o).c S (bI (au g u.params (cN d) G a c n o).c) (au g u.params (cN d) G a c n o).aU w B)->ai u (l+5) J j X A (bI X) [] f B):
  cX u g l (eB r) (fT r) ((dC d M).map (·.1)) (h' Q n r a8) (ia n s) (gW b v) C:=by
 refine BG (a:=a) (c:=c) M ax P az aA aC aD aE aj ak aG aH (λi al Z aI aJ R aK aM=>Hu U P (bm t W) Z.K aI aJ (l1:=hI u g l d G a c n K L ay M a8 s v b i) (λf A am j=> ?_) aK aM) λaO aP o E F y z D k aQ aR S _=>Hw U P Y ah W _ aO aP o E F y z D k aQ aR S (sx _);have ab:I i (n+101) (cF u.params K L ay []):=al.fr _ _ aB (λq=>q (.inr (.inr (.inl t))));have aT:n+101<i.heap.objs.size:=b9 ab;have os:aa g p (· =b) f (f.setGen b .running):=aa.setGen am.K t;have N:aa g p (· =b) i (f.setGen b .running):=am.zero.trans os;refine start i al _ N (N.fr _ _ ab (λh=>h.elim)) A j _ λw y z D o E F S an aV aW ao aq aX=> ?_;have af:aa g p (· =b) i w:=N.then aV aF aF;have T:i.heap.objs.size<=(f.setGen b .running).heap.objs.size:=N.aZ;have aY:i.gens.size<=(f.setGen b .running).gens.size:=N.dH;refine ai.mono (λe a0 h=>nW w y z D o E F ⟨an,af,λx h=>(ao x h).imp id (λq=>aS T q),λx h=>(aq x h).imp id (λq=>aS T q),λx h=>(aX x h).imp id (λq=>aS aY q),h⟩)
  (BE U P Y ah (V 0 340 5 350 t W) an (Z.ext af (λ_ _ h=>h.elim) (λh=>h.elim) ⟨[],.inl t,af.fr _ _ ab (λh=>h.elim)⟩ (λ_ h=>h)) aW ?_ ?_ _ j)
 ·intro x ar q;rcases aq x q with q|q
  ·exact aj x ar q
  ·exact absurd (Z.bs x ar) (cx (aS T q))
 ·intro q;rcases ao _ q with q|q
  ·exact ak q
  ·exact absurd aT (cx (aS T q))
open PyProof.Rows (AllBare)
theorem Hx(P:Base g)(Q:du g u.params){k:Nat}(R:k<4)(S:l<=350)(K:aR g C){b a c n ay q s e:Nat}{A:ap}{w:List O}(T:I C (ay+101) (ah w e))(U:I C (n+101) (cF u.params q s (E ay) []))
  (h:∀i m V,aa g p p C i->C.heap.objs.size=m+101->I i (m+101) (b2 (ay+101) 0)->ai u l J j (au g u.params k b a c n m).c V (bI (au g u.params k b a c n m).c) (au g u.params k b a c n m).aU i B):
  ai u l J j (fz k b n a c) A (bI (fz k b n a c)) [] C B:=by
 obtain ⟨f,y⟩:=K.size;have W:∀x∈[(ay+101,ah w e),(n+101,cF u.params q s (E ay) [])],I C x.1 x.2:=by
  intro x v;rcases b8.mp v with rfl|v
  ·exact T
  ·rw [bQ]at v;subst v;exact U
 have X:∀{d:G} {z D} o,d=run (cB g u.params 350 f C.toks C.gens.size J j [(ay+101,ah w e),(n+101,cF u.params q s (E ay) [])] [] []) z D (fz o b n a c) A (bI (fz o b n a c)) []->
   (bF [1,2] d,d.c,d.t,d.aU)=(⟨.other,1,[H (n+101,cF u.params q s (E ay) []),H (f+101,b2 (ay+101) 0)],1,0,[],bG d⟩,(au g u.params k b a c n f).c,bI (au g u.params k b a c n f).c,(au g u.params k b a c n f).aU)->
   ai u l J j (fz o b n a c) A (bI (fz o b n a c)) [] C B:=by
  intro d z D o F L;simp only [eZ]at L;refine aw L (bu λM Y Z ab=> ?_);rw [F]at M;refine c2 S P K y t t W .nil (aC:=[]) a0 t M ?_;intro i ac ae aj ak al N;have af:ac=d:=ae.trans F.symm;refine r af (r Y ?_);refine r Z (r ab ?_);exact h i f d.p (N.e1 t) y (N.xs _ _ ci)
 exact X k t (d0 (Q 1 _ ..) R)
theorem Hy(L:Base g)(M:du g u.params){k:Nat}(N:k<4)(O:l<=350)(K:aR g C){b a c n ay f i q s v:Nat}{A:ap}(P:I C (ay+101) (dd q s v))(Q:I C (n+101) (cF u.params f i (E ay) []))
  (h:∀m R,aa g p p C m->ai u l J j (au g u.params k b a c n ay).c R (bI (au g u.params k b a c n ay).c) (au g u.params k b a c n ay).aU m B):
  ai u l J j (fz k b n a c) A (bI (fz k b n a c)) [] C B:=by
 obtain ⟨S,T⟩:=K.size;have U:∀x∈[(ay+101,dd q s v),(n+101,cF u.params f i (E ay) [])],I C x.1 x.2:=by
  intro x o;rcases b8.mp o with rfl|o
  ·exact P
  ·rw [bQ]at o;subst o;exact Q
 have V:∀{d:G} {w y} e,d=run (cB g u.params 350 S C.toks C.gens.size J j [(ay+101,dd q s v),(n+101,cF u.params f i (E ay) [])] [] []) w y (fz e b n a c) A (bI (fz e b n a c)) []->
   (bF [1] d,d.c,d.t,d.aU)=(⟨.other,1,[H (n+101,cF u.params f i (E ay) [])],0,0,[],bG d⟩,(au g u.params k b a c n ay).c,bI (au g u.params k b a c n ay).c,(au g u.params k b a c n ay).aU)->
   ai u l J j (fz e b n a c) A (bI (fz e b n a c)) [] C B:=by
  intro d w y e z D;simp only [eZ]at D;refine aw D (bu λF W X Y=> ?_);rw [z]at F;refine c2 O L K T t t U .nil (aC:=[]) a0 t F ?_;intro m Z ab af ah aj ac;have ae:Z=d:=ab.trans z.symm;refine r ae (r W ?_);refine r X (r Y ?_);exact h m d.p (ac.e1 t)
 exact V k t (d0 (M 2 _ ..) N)
theorem Hz(w:Base g)(y:du g u.params){d:Nat}(Y:d<6)(M:∀x,d6 u g d x (λ_=>True))(r:l<=340){z N a c n f s O P ay e:Nat}{D:ae->Prop}
  {F G:Nat}(i:List fU)(Q:h_ u g d z N n f D F G (E ay) i C)(R:I C (f+101) (dd s O P))(S:C.gens[s]? =H (.fresh (fz (cN d) z n a c)))
  (T:I C (n+101) (cF u.params F G (E ay) []))(K:I C (ay+101) (ah (i.map (·.1)) e))(U:ay≠n):
  cX u g l (eB f) (fT f) ((dC d i).map (·.1)) (h' D n f (· =ay+101)) (ia n p) (gW s p) C:=by
 refine BH (a:=a) (c:=c) w y Y M r i Q R S T (λx W=>W▸b9 K) aF aF (λ_ _ h=>h) (λq=>U (f7 (show ay+101=n+101 from q.symm))) (λh=>h) (λh=>h) ?_;intro ai X aj v Z A j B aa;have k:=v.fr _ _ (X.fr _ _ K (λq=>q (.inr (.inr (.inr t))))) (λh=>h.elim);refine Hx w y (kU d) (V 0 340 5 350 t r) v.K k Z λab b ac m o L=> ?_;have af:ay+101<b+101:=o▸b9 k;refine aa ab (λx=>x=b+101\/x=ay+101) (· =b+101) p b (wD b) (wE b) ac (.inl ⟨t,t⟩) m ?_ ?_ ?_ aF
 ·refine cX.list (aA:=i.map (·.1)) (e:=e) (V 0 340 10 600 t r) (v.K.fresh (by rw [o];exact aW _)) (aX (V 102 101 1 0 t af)) _ (.inl t) (.inr t) _ 0 _ m.K ?_ rfl L (m.fr _ _ k (λh=>h));rintro x (rfl|rfl)
  ·exact b9 L
  ·exact b9 (m.fr _ _ k (λh=>h))
 ·rintro x (rfl|rfl)
  ·exact .inr (ew o)
  ·exact .inl t
 ·rintro x rfl;exact .inr (ew o)
theorem HA(v:Base g)(w:du g u.params){d:Nat}(Y:d<6)(M:∀x,d6 u g d x (λ_=>True))(y:l<=340){z N a c n b m O P ay Q R S:Nat}{p:ae->Prop}
  {D F:Nat}(i:List fU)(T:h_ u g d z N n b p D F (E ay) i C)(U:I C (b+101) (dd m O P))(W:C.gens[m]? =H (.fresh (fz (cN d) z n a c)))
  (X:I C (n+101) (cF u.params D F (E ay) []))(Z:I C (ay+101) (dd Q R S)){e f:ae->Prop}{k:Nat->Prop}(aa:e (ay+101))
  (o:cX u g (l+5+5) (eB ay) (fT ay) (i.map (·.1)) e f k C)(ab:∀x,p x->¬f x)(ac:¬e (n+101))(af:¬f (b+101))(G:¬k m):
  cX u g l (eB b) (fT b) ((dC d i).map (·.1)) (h' p n b e) (ia n f) (gW m k) C:=by
 refine BH (a:=a) (c:=c) v w Y M y i T U W X o.foot.h5 o.foot.lL o.foot.ga ab ac af G ?_;intro aq K ah r ai A j B aj;have ak:=r.fr _ _ (K.fr _ _ Z (λq=>q (.inr (.inr (.inr aa))))) (λh=>h.elim);have al:cX u g (l+5+5) (eB ay) (fT ay) (i.map (·.1)) e f k ah:=(o.ext (K.mono (λx am=> .inl λq=>am (.inr (.inr (.inr q)))) (λan s=> .inl λq=>s (.inr q)))).ext (r.mono aF (λan s=> .inl λq=>G (s▸q)));exact Hy v w (kU d) (V 0 340 5 350 t y) r.K ak ai λao ap L=>aj ao e f k ay (eB ay) (fT ay) ap (.inr ⟨t,t⟩) L (al.ext (L.mono aF aF)) (λ_ h=> .inl h) (λ_ h=> .inl h) (λ_ h=> .inl h)
variable(g:Nat->Option ab)(P:a1)
noncomputable def xe(a b:O):Bool:= @pb O (@instBEqOfDecidableEq O iZ) a b
noncomputable def BI(b:Bool)(c d e:O):aI PySem.Fin:=d3 (PySem.W.Fast.tw14684505520029207082 d) λM=>
 if(b||xe M (nQ zc)||xe M (nQ PySem.W.SL.s2766695959194262286x5))=ag then
  d3 (vV d) λf=>d3 (vV c) λg=>
   have a:Unit->PySem.Sem PySem.Fin:=λ_=>d3 (o9 c λx=> @HAppend.hAppend (Array O) (Array O) (Array O) (@instHAppendOfAppend (Array O) (@PySem.W.Fast.tw494991955013373658 O)) x f) λ_=>PySem.W.Fast.tw6905046200447255374 e
   if(!g.isEmpty&&PySem.Builtin.List.listTooLong (g.size+f.size))=ag then d3 (PySem.unsupported "list.extend:memory") a else a ()
 else d3 (PySem.W.Fast.tw8711993805878244202 d) λh=>d3 (PySem.W.Fast.tw17359229931016689406 [h] (PySem.W.Fast.tw15112759502256325868 d)) λi=>
   have a:Unit->PySem.Sem PySem.Fin:=λ_=>PySem.W.Fast.tw12377390311714414960 (PySem.Code.builtin PySem.W.SL.s9316426964554523096x16 {pos:=[c,h,e]})
   if(i||PySem.W.R.anyR PySem.W.Fast.tw16271295295120926622 λx=>xe M (nQ x))=ag then d3 (PySem.rule "list.extend.makes-room") λ_=>d3 (PySem.W.Fast.tw922294955767894045 c) a else a ()
theorem PV(a b c:O):PySem.W.Fast.tw8938917530802602619 a b c=BI (v0 a b) a b c:=by kernel_rfl!
section
variable(cR ar a b d n o L:Nat)(j:List (aL×ap))(A:ap)(s dX fY eD e:Nat)
noncomputable def xf:=0 where
 t1:G:=c_ g P 250 n o L j [(cR+101,dd a b d)] [] [] 8 [0,2,2] (.call (.type "list") ⟨[E cR],[]⟩) A
 HB:G:=c_ g P 250 n o L j [(ar+101,ah [])] [] [] 1 [1] (.call (.builtin "list.__init__") ⟨[E ar,E cR],[]⟩) A
 BJ(b:Bool)(ar cR:Nat):aI PySem.Fin:=d3 (vV (E ar)) λa=>d3 (o9 (E ar) λ_=>#[]) λ_=>
  d3 (PySem.W.Fast.tw3461954006293484611 a.toList.reverse) λ_=>BI b (E ar) (E cR) .none
open xf
theorem HC(ar cR:Nat):bI (.builtin "list.__init__" ⟨[E ar,E cR],[]⟩)=BJ (v0 (E ar) (E cR)) ar cR:=by kernel_rfl!
noncomputable def xg:=0 where
 kW(ar cR:Nat):Code:= .builtin "list.extend.loop" ⟨[E ar,E cR,.none],[]⟩
 HD:G:=h g P 250 n o L j [(ar+101,ah []),(cR+101,dd a b d)] [0] [] 22 [1,1,1,1,2,2,2,1,2,2,2,2,1,1,1,1,1,1] (.builtin "list.__init__" ⟨[E ar,E cR],[]⟩) A (BJ aN ar cR)
 ib:G:=c_ g P 250 n o L j [(cR+101,dd a b d)] [] [] 1 [1] (kW ar cR) A
 HE:G:=bJ g P 250 s dX fY j [(eD+101,hf e)] [] [] 1 [1] ib (ib.p) (.error (E eD))
 HF:G:=bJ g P 250 s dX fY j [] [] [] 0 [] (t1 g P cR a b d n o L j A) ((t1 g P cR a b d n o L j A).p) (.ok (.ret .none))
open xg
end
open xf xg
noncomputable def HG(g:Nat->Option ab)(P:a1):List Prop:=[
 ∀a e f h n c d j A,b3 [0,1] (t1 g P a e f h n c d j A) J J 5 (.call (.call (.builtin "list.__init__") ⟨[E n,E a],[]⟩) J) 0 [H (a+101,dd e f h),H (n+101,ah [])] 1 0 [] J,
 ∀a b n c d j A,ok [0] (HB g P a b n c d j A) (.again (.builtin "list.__init__" ⟨[E b,E a],[]⟩)) 0 [H (b+101,ah [])] 0 0 [],
 ∀a b e f h n c d j A,ok [0] (HD g P a b e f h n c d j A) (.again (kW b a)) 0 [H (b+101,ah [] 2)] 0 0 [],
 ∀a b e f h n c d j A,(bF [] (ib g P a b e f h n c d j A),eA (ib g P a b e f h n c d j A) J J 5,(ib g P a b e f h n c d j A).c,λv=>eh (ib g P a b e f h n c d j A).t (.ok (.ret v)))=(⟨.call (eB a) J,0,[],0,0,[],bG (ib g P a b e f h n c d j A)⟩,(ag,J),kW b a,λv=>d3 (o9 (E b) λx=>sQ x v) λ_=> .pure (.again (kW b a))),
 ∀a b e f h n c d j A i k l m o,ok [] (HE g P a b e f h n c d j A i k l m o) (.ret .none) 0 [] 0 0 [],
 ∀a e f h n c d j A i k l,ok [] (HF g P a e f h n c d j A i k l) (.ret (E n)) 0 [] 0 0 []]
noncomputable def gu(g:Nat->Option ab)(P:a1):Prop:=AllP (HG g P)
open PyProof.Rows (AllBare)
section
variable {g:Nat->Option ab}
theorem HH(x:O):(o9 · λy=>sQ y x)=λv=>zl v (·.push x):=by
 refine r (cj PySem.W.Fast.te2060155186595164805) (r (cj PySem.W.Fast.te2398297429280069960) ?_);rfl
theorem ai.push {j:List (aL×ap)}{c:aL}{A:ap}{w:List dc}{B:eL->ac->Prop}{a e:Nat}{b:List O}{x:O}{K:Unit->aI b0}(ok:cw w=ag)(o:aR g C)(q:g (a+101)=J)
  (k:I C (a+101) (ah b e))(s:b.length<1000)
  (h:∀d i,aa g (· =a+101) p C d->I d (a+101) (ah (b++[x]) (e+1))->ai u l J j c i (K ()) w d B):
  ai u l J j c A (d3 (o9 (E a) λy=>sQ y x) K) w C B:=by
 have v:=congrFun (HH x) (E a);refine r (show(o9 (E a) λy=>sQ y x)=zl (E a) (·.push x)from v) ?_;have z:(1000:Nat)<=sizeLine:=by decide+kernel
 refine ai.Fk (aG:=λ_ d=>d={C with heap:=C.heap.update (a+101) (i2 (·.push x))}) (af:=λ_ _=>False) ok ?_ ?_ (λ_ _ _ h=>h.elim)
 ·refine(?_:bD _ _ (updateSeq (a+101) (·.push x)) _ _ _);have m:b.length<=sizeLine:=aS (eW s) z;have D:(⟨b⟩:Array O).size<=sizeLine:=m;have F:(Array.push ⟨b⟩ x).size<=lv+1:=by rw [vY];exact qr m
  exact vL (xs:=⟨b⟩) (n:=e) k t t D F
 ·rintro _ i d rfl;have G:=aa.update (C:=C) (f:=i2 (·.push x)) o q C.toks;refine h _ i G ?_;have:=i1 (i2 (·.push x)) k t;exact this.trans (by simp [ah,i2])
theorem BK(o:Base g)(s:gu g u.params)(v:l<=250)(K:aR g C){a b:Nat}(w:fT a C.heap){R:ac->bZ->ac->Prop}{A:ap}{j:List (aL×ap)}{B:eL->ac->Prop}
  (x:∀f,aa g p p C f->a4 u (l+5) J (eB a) f (R f))
  (k:∀n c d e f h i,cw (ib g u.params a b c d e n C.toks C.gens.size j A).aU=ag->(ib g u.params a b c d e n C.toks C.gens.size j A).aU.length=0->aa g p p C f->R f h i->ai u l J j (ib g u.params a b c d e n C.toks C.gens.size j A).c (ib g u.params a b c d e n C.toks C.gens.size j A).p (eh (ib g u.params a b c d e n C.toks C.gens.size j A).t h) (ib g u.params a b c d e n C.toks C.gens.size j A).aU i B):
  ai u l J j (kW b a) A (bI (kW b a)) [] C B:=by
 obtain ⟨n,y⟩:=K.size;refine aw w (cE λc d e z=> ?_);have q:=s 3 a b c d e n C.toks C.gens.size j A;simp only [eZ]at q;refine aw q (bu λbV bc dr f'=> ?_);refine c2 v o K y t t (fk z) .nil (aC:=[]) a0 t bV ?_;intro f D E ok F G I;have m:=I.e1 t;have L:D=ib g u.params a b c d e n C.toks C.gens.size j A:=E;subst L;refine aw (iA F) (bo λQ S M=> ?_);refine r M ?_;injection bc with N O;exact ai.i' (br:=l+5) (fm:=J) ok t (jL N (aW _)) O.symm (x f m) λh i P=>k n c d e f h i ok G m P
theorem HI(K:Base g)(y:gu g u.params)(L:l<=250){k a:Nat}(Y:g (a+101)=J):∀(m o:List O) (e:Nat) (C:ac) (F d:ae->Prop) (f:Nat->Prop) (A:ap) (j:List (aL×ap)),o.length+m.length<900->I C (a+101) (ah o e)->
   cX u g (l+5) (eB k) (fT k) m F d f C->¬F (a+101)->
   ai u l J j (kW a k) A (bI (kW a k)) [] C (ei λP Q=>P= .ok (.ret .none)/\aa g (λx=>x=a+101\/d x) f C Q/\∃Z,I Q (a+101) (ah (o++m) Z)):=by
 intro m;induction m with
 |nil=>
  refine λo e C F d f A j z B b dW=>ai.dN λab M=> ?_;refine BK K y L b.foot.K (b.foot.it C (.refl b.foot.K)) (λD c=>(b.ext (c.mono aF aF)).nil) ?_;refine λn R S T D af N ok E c=>an λp=>aH λx=>aT ?_;rintro rfl;refine aH λaE i _=> ?_;obtain ⟨aG,aj⟩:=p.K.size;refine c2 L K p.K aj t t (fk i) .nil (aC:=[]) a0 ok (y 4 _ ..) ?_;intro U aI aJ aK G ak al;refine r (e' G) (r (cA ak) ?_);have s:=al.e1 t;have w:aa g d f C N:=c.zero.then p (λ_ h=> .inl h) (λ_ h=> .inl h);refine ai.done (.ok (.ret .none)) (M _ _ ⟨t,(w.mono (λx h=> .inl (.inr h)) (λ_ h=> .inl h)).then s aF aF,e, ?_⟩);rw [mo];exact s.fr _ _ (w.fr _ _ B (λq=>dW (b.foot.lL _ q))) (λh=>h)
 |cons v m am=>
  refine λo e C F d f A j z B b dW=>ai.dN λab M=> ?_;refine BK K y L b.foot.K (b.foot.it C (.refl b.foot.K)) (λD c=>(b.ext (c.mono aF aF)).cons) ?_;refine λn R S T D af N ok E c=>aT λp=> ?_;rintro rfl;refine cE λV ao aq=>bu λar as au av=> ?_;have q:=y 3 k a R S T n C.toks C.gens.size j A;simp only [eZ]at q;refine r (congrFun q.2.2.2 v) (r q.2.2.1 ?_);refine r (cA E) ?_;have w:aa g d f C N:=c.zero.then p (λ_ h=> .inl h) (λ_ h=> .inl h);have W:C.heap.objs.size<=D.heap.objs.size:=c.aZ;have X:¬V (a+101):=λq=>(ar _ q).elim dW (gG (bP (b9 B) W));rw [jC]at z;refine ai.push t p.K Y (w.fr _ _ B (λq=>dW (b.foot.lL _ q))) (aD 1 0 1 900 1 1000 t i8 z) λU aw s ax=>ai.again (kW a k) (by kernel_rfl) (ai.imp (am (o++[v]) (e+1) U V ao aq aw j (by rw [e9];exact(nE _ _).symm▸z) ax (av.ext (s.mono (λx h=> .inl λq=>X (h▸q)) aF)) X) ?_);refine λP aM=>aT λay E=>aH λaz G=>M _ _ ⟨ay,((w.mono (gQ:=λx=>x=a+101\/d x) (fY:=f) (λx h=> .inl (.inr h)) (λ_ h=> .inl h)).then s (λ_ h=> .inl (.inl h)) aF).then E (λx i=> ?_) (λaA aB=>(au aA aB).imp id (λq=>aS c.dH q)),az, ?_⟩
  ·rcases i with i|i
   ·exact .inl (.inl i)
   ·exact(as x i).imp .inr (λq=>aS W q)
  ·rw [sA]at G;exact G
theorem xh(i:Base g)(k:gu g u.params)(m:l<=200){b:Nat}{o:List O}{F s:ae->Prop}{v:Nat->Prop}(av:o.length<800)(M:cX u g (l+10) (eB b) (fT b) o F s v C):
  a4 u l J (.call (.type "list") ⟨[E b],[]⟩) C λw d=>aa g s v C d/\∃U e,w= .ok (.ret (E U))/\C.heap.objs.size<=U+101/\I d (U+101) (ah o e):=by
 refine a4.c1 λj A=>ai.dN λaZ ax=> ?_;have K:=M.foot.K;obtain ⟨n,f⟩:=K.size;refine aw (M.foot.it C (.refl K)) (cE λz B G W=> ?_);have ay:∀x∈[(b+101,dd z B G)],I C x.1 x.2:=λx a=>by rw [bQ]at a;subst a;exact W
 have q:=k 0 b z B G n C.toks C.gens.size j A;simp only [eZ]at q;obtain ⟨bV,bc⟩:=q;refine c2 (ak:=250) (bm t m) i K f t t ay .nil (aC:=[]) a0 t bV ?_;intro N w az ok X al am;have L:=am.e1 t;have aA:w=t1 g u.params b z B G n C.toks C.gens.size j A:=az;subst aA;refine aw (iA X) (bo λa1 a2 aB=> ?_);refine r aB ?_;injection bc with aD aE;have aG:I N (n+101) (ah []):=am.xs _ _ ci;have aI:=L.fr _ _ W (λh=>h);have an:g (n+101)=none:=K.fresh (by rw [f];exact aW _);have ao:b+101<n+101:=f▸b9 W;have ap:¬F (n+101):=λq=>by
  have:=M.foot.h5 _ q;rw [f]at this;exact absurd this (eK _)
 have aJ:=M.ext (L.mono aF aF);refine ai.i' (br:=l+5) (fm:=J) (R:=λw d=>w= .ok (.ret .none)/\aa g (λx=>x=n+101\/s x) v N d/\∃Y,I d (n+101) (ah o Y)) ok t ?_ aE.symm ?_ ?_
 ·exact jL aD (aW _)
 ·refine a4.c1 λj A=> ?_;obtain ⟨a3,aK⟩:=L.K.size;have db:∀x∈[(n+101,ah [])],I N x.1 x.2:=λx a=>by rw [bQ]at a;subst a;exact aG
  refine c2 (ak:=250) (V 0 200 5 250 t m) i L.K aK t t db .nil (aC:=[]) a0 t (k 1 _ ..) ?_;intro P a5 a6 a8 Z aL aq;have c:=aq.e1 t;refine r (kL Z) (r (cA aL) ?_);refine ai.again _ (by kernel_rfl) ?_;rw [HC];have aM:v0 (E n) (E b)=false:=by
   refine(?_:(n+101==b+101)=aN);rw [beq_eq_false_iff_ne];exact aX ao
  refine r aM ?_;have ab:I P (n+101) (ah []):=aq.xs _ _ aO;have aP:=c.fr _ _ aI (λh=>h);obtain ⟨aQ,ac⟩:=c.K.size;have hJ:∀x∈[(n+101,ah []),(b+101,dd z B G)],I P x.1 x.2:=by
   intro x a;rcases b8.mp a with rfl|a
   ·exact ab
   ·rw [bQ]at a;subst a;exact aP
  have pT:b6 g [(n+101,ah []),(b+101,dd z B G)] [0]:=b6.head an (fk (a7 ao));refine c2 (ak:=250) (V 0 200 5 250 t m) i c.K ac t t hJ pT (aC:=[]) a0 t (k 2 _ ..) ?_;intro Q ar aR aS af aj S;have T:aa g (· =n+101) p P Q:=by
   have as:=S.grow t;refine(aa.mS as as.dH).mono (λy aU=> .inl ?_) (λ_ h=> .inl h);have:y∈[n+101]:=aU;rw [bQ]at this;exact this
  refine r (kL af) (r (cA aj) ?_);refine ai.again (kW n b) (by kernel_rfl) ?_;have au:aa g (· =n+101) p N Q:=c.zero.then T (λ_ h=> .inl h) (λ_ h=> .inl h);refine ai.mono ?_ (HI (l:=l+5) i k (V 0 200 5 250 t m) an o [] 2 Q F s v ar.p j (by simp;exact bm t av) (S.xs _ _ aO) (aJ.ext (au.mono (λx h=> .inl λq=>ap (h▸q)) aF)) ap);intro Y d h;cases Y with
  |susp=>cases h
  |ret aV=>
   refine aw h (aT λX al=>aH λaY Z=> ?_);exact⟨X,(au.mono (gQ:=λx=>x=n+101\/s x) (fY:=v) (λx h=> .inl (.inl h)) aF).trans al,aY,by unfold I;rw [Z];rfl⟩
 ·refine λaV P=>aT ?_;rintro rfl;refine λc=>aH λe ab=> ?_;obtain ⟨aQ,ac⟩:=c.K.size;refine c2 (ak:=250) (bm t m) i c.K ac t t (D:=[]) a0 .nil (aC:=[]) a0 ok (k 5 _ ..) ?_;intro Q ar aR aS af aj S;have T:=S.e1 t;refine r (e' af) (r (cA aj) ?_);refine ai.done (.ok (.ret _)) (ax _ _ ⟨(L.zero.then c (λx a=> ?_) (λ_ h=> .inl h)).then T aF aF,n,e,t,by rw [f];exact aW _,T.fr _ _ ab (λh=>h)⟩);rcases a with rfl|a
  ·exact .inr (by rw [f];exact aW _)
  ·exact .inl a
end
open PyProof.Rows (AllBare)
noncomputable def ic(_:Nat->Option ab)(_:a1)(b:ae->Prop)(h:aY)(a d:Nat):Prop:=∃X:wO,(∀y∈rq d X a,b y.1/\h.get? y.1=H y.2)/\∀y∈fP X.b_ X.T0 d,b y.1/\h.get? y.1=H y.2
section
variable {g:Nat->Option ab}
theorem ic.mono {P:a1}{e jn:ae->Prop}{h j:aY}{a d:Nat}(M:ic g P e h a d)(k:∀b l,e b->h.get? b=H l->j.get? b=H l)(m:∀b,e b->jn b):ic g P jn j a d:=by
 refine aw M (aH λX=>an λf i=> ?_);exact⟨X,λy c=>⟨m _ (f y c).1,k _ _ (f y c).1 (f y c).2⟩,λy c=>⟨m _ (i y c).1,k _ _ (i y c).1 (i y c).2⟩⟩
theorem t2(O:Base g)(P:du g u.params)(Q:l<=200){d:Nat}(Y:d<6)(K:aR g C){m:ae->Prop}{a ay:Nat}(R:ic g u.params m C.heap a d):
  a4 u l J (.call (E a) ⟨[.none,E ay],[]⟩) C λe b=>aa g p p C b/\∃i o c n q s v w,C.heap.objs.size=n+101/\e= .ok (.ret (E (n+1)))/\I b (n+101) (cF u.params v w (E ay) [])/\
   I b (n+1+101) (dd C.gens.size q s)/\b.gens[C.gens.size]? =H (.fresh (fz (cN d) i n a c))/\b.gens.size=C.gens.size+1/\b.heap.objs.size=n+103/\∀y∈fP i o d,m y.1/\I b y.1 y.2:=by
 refine a4.c1 λj A=>aw R (aH λX=>an λS D=> ?_);obtain ⟨n,x⟩:=K.size;have T:∀y∈rq d X a,I C y.1 y.2:=λy k=>(S y k).2;have U:∀{e:G} {F L z B},z=cN d->e=run (cB g u.params 200 n C.toks C.gens.size J j (rq d X a) [] []) F L (.call (E a) ⟨[.none,E ay],[]⟩) A (bI (.call (E a) ⟨[.none,E ay],[]⟩)) []->
   bF [2,3] e=⟨.ret (.ref (n+102)),0,[H (n+101,cF u.params C.toks (C.toks+1) (E ay) []),H (n+102,dd C.gens.size (C.toks+2) (C.toks+3))],2,4,[.fresh (fz z X.b_ n a B)],bG e⟩->
   ai u l J j (.call (E a) ⟨[.none,E ay],[]⟩) A (bI (.call (E a) ⟨[.none,E ay],[]⟩)) [] C (ei λe b=>aa g p p C b/\∃i o c n q s v w,C.heap.objs.size=n+101/\e= .ok (.ret (E (n+1)))/\I b (n+101) (cF u.params v w (E ay) [])/\
   I b (n+1+101) (dd C.gens.size q s)/\b.gens[C.gens.size]? =H (.fresh (fz (cN d) i n a c))/\b.gens.size=C.gens.size+1/\b.heap.objs.size=n+103/\∀y∈fP i o d,m y.1/\I b y.1 y.2):=by
  intro e F L z B V W M;rw [W]at M;refine c2 Q O K x t t T .nil (aC:=[]) a0 t M ?_;intro b ac af ah Z ab f;refine r (e' Z) (r (cA ab) ?_);have N:=f.e1 t;refine ai.done (.ok (.ret _)) ⟨N,X.b_,X.T0,B,n,C.toks+2,C.toks+3,C.toks,C.toks+1,x,by refine r (show n+1+101=n+102 from t) ?_;rfl,f.xs _ _ aO, ?_, ?_, ?_, ?_,λy k=>⟨(D y k).1,N.fr _ _ (D y k).2 (λh=>h)⟩⟩
  ·exact r (show n+1+101=n+102 from t) (f.xs _ _ ci)
  ·refine r f.ct (r (cj V) ?_);simp
  ·refine r f.ct ?_;simp
  ·refine r f.aZ (r x ?_);rfl
 exact U t t (d0 (P 0 _ ..) Y)
theorem t3(B:Base g)(D:du g u.params){d:Nat}(Y:d<6)(F:∀x,d6 u g d x (λ_=>True)){br:Nat}(G:br<=340){f:ac}(K:aR g C){i:ae->Prop}{a ay e:Nat}{c3:List fU}
  (bs:∀x,i x->x<C.heap.objs.size)(L:∀y∈c3,df u.params i C.heap y.1 y.2.1 y.2.2)(m:I C (ay+101) (ah (c3.map (·.1)) e))(j:aa g p p C f)
  {k o c n M N s v:Nat}(l:C.heap.objs.size=n+101)(w:I f (n+101) (cF u.params s v (E ay) []))(z:I f (n+1+101) (dd C.gens.size M N))(O:f.gens[C.gens.size]? =H (.fresh (fz (cN d) k n a c)))
  (P:∀y∈fP k o d,i y.1/\I f y.1 y.2):
  cX u g br (eB (n+1)) (fT (n+1)) ((dC d c3).map (·.1)) (h' i n (n+1) (· =ay+101)) (ia n p) (gW C.gens.size p) f:=by
 have A:=b9 m;rw [l]at A;have Q:h_ u g d k o n (n+1) i s v (E ay) c3 f:=by
  refine⟨j.K,λq=> ?_,K.fresh (by rw [l];exact aW _),bA 1 0 t,λx R=>bP (bs x R) j.aZ,λy S=>(L y S).mono u.params (λb T _ e=>j.fr b T e (λh=>h)) (λ_ h=>h),P,⟨[],.inl t,w⟩,dT _ _ _ z⟩;have:=bs _ q;rw [l]at this;exact absurd this (eK _)
 exact Hz B D Y F G c3 Q z O w (j.fr _ _ m (λh=>h)) (λq=>absurd A (by exact r q (eK _)))
end
open PyProof.Rows (AllBare)
noncomputable def eS:List Nat->Int->Int->Int
 | [],_,_=>0
 |d::a,x,y=>if b' x d=b' y d then eS a x y else if b' x d then 5 else-7
section
variable {g:Nat->Option ab}
structure l3(dj:cZ)(b5:Nat->Option ab)(a:ae->Prop)(f:Nat)(b:List (Nat×Nat))(h:aY):Prop where
 fn:∃c d g i da e,(∀y∈n8 b5 dj.params f c d g i da,a y.1/\h.get? y.1=H y.2)/\a (da+101)/\h.get? (da+101)=H (ah (b.map λq=>E q.1) e)
 sel:∀q∈b,q.2<6/\ic b5 dj.params a h q.1 q.2
theorem l3.mono {a jn:ae->Prop}{h j:aY}{f:Nat}{l:List (Nat×Nat)}(M:l3 u g a f l h)(k:∀b m,a b->h.get? b=H m->j.get? b=H m)(c:∀b,a b->jn b):l3 u g jn f l j:=by
 obtain ⟨⟨r,s,t,v,w,e,d,n,x⟩,o⟩:=M;exact⟨kH r s t v w e ⟨λy i=>⟨c _ (d y i).1,k _ _ (d y i).1 (d y i).2⟩,c _ n,k _ _ n x⟩,λq p=>⟨(o q p).1,(o q p).2.mono k c⟩⟩
theorem ic.fn(c:fB g u.params){b:ae->Prop}{h:aY}{a d:Nat}(Y:d<6)(M:ic g u.params b h a d):∃e,b (a+101)/\h.get? (a+101)=H (de e):=by
 refine aw M (aH λX=>an λf _=> ?_);have q:=f _ aO;exact⟨_,q.1,q.2.trans (congrArg H (c 23 _ _ _))⟩
structure PW(dj:cZ)(b5:Nat->Option ab)(f n it da e a b:Nat)(aA:List O)(i:Nat)(C:ac):Prop where
 K:aR b5 C
 it:I C (it+101) (b2 (da+101) i)
 da:I C (da+101) (ah aA e)
 ns:∃d aM c,I C (n+101) (e2 dj.params d aM (E a) (E b) c)/\(c=[]\/∃g h HJ j,c=gd dj.params g h HJ j)
noncomputable def kX(n a:Nat):ae->Prop:=λx=>x=n+101\/x=a+101
theorem HK {a:ae}{b:ab}{c:List (ae×ab)}:∀x∈c' ((a,b)::c) [0],x=a:=by
 intro x d;have:x∈[a]:=d
 rwa [bQ]at this
theorem HL {a:List (ae×ab)}:∀x∈c' a [],False:=λx h=>nomatch h
theorem aa.aE {a:ac}{b:List (ae×ab)}(c:aa g (· ∈c' b []) p C a):aa g p p C a:=c.mono (λx h=>(HL x h).elim) (λ_ h=> .inl h)
theorem aa.bW {b:ac}{a:ae}{c:ab}{d:List (ae×ab)}(e:aa g (· ∈c' ((a,c)::d) [0]) p C b):aa g (· =a) p C b:=e.mono (λx h=> .inl (HK x h)) (λ_ h=> .inl h)
theorem db {y:ae×ab}(h:I C y.1 y.2):∀x∈[y],I C x.1 x.2:=λx a=>by rw [bQ]at a;subst a;exact h
theorem hJ {y z:ae×ab}(h:I C y.1 y.2)(b:I C z.1 z.2):∀x∈[y,z],I C x.1 x.2:=λx a=>by
 rcases b8.mp a with rfl|a
 ·exact h
 ·exact db b x a
theorem cK {a:ae}{b:ab}(c:g a=J):b6 g [(a,b)] [0]:=b6.head c a0
theorem pT {a b:ae}{c d:ab}(e:g a=J)(h:b≠a):b6 g [(a,c),(b,d)] [0]:=b6.head e (fk h)
noncomputable def xi:Stmt:=jg.headD (.Pass default)
theorem HM:jg=[xi,.If fA.1 fA.2.1 fA.2.2 (iC (jg.drop 1))]:=by kernel_rfl
theorem HN:[xi]=jg.take 1:=by kernel_rfl
theorem HO:fA.2.2=[]:=by kernel_rfl
theorem HP:fA.2.1=[.Return (H (.IfExp (.Compare (d5 kP.1).1 [.Is] [(d5 kP.1).2] (ez kP.1)) kP.2.1 kP.2.2 (ez (d_ fA.2.1 0)))) (iC fA.2.1)]:=by kernel_rfl
theorem HQ:mD .Is (d5 kP.1).2=false:=by kernel_rfl
theorem PX(f n a:Nat):eb f n a= .forLoop lQ (E a) jg (d' jZ.1).2.2 (et f n):=rfl
theorem HR(m:Base g)(aI:du g u.params)(bx:gu g u.params)(R:fB g u.params)(aJ:∀d<6,∀x,d6 u g d x (λ_=>True))(o:l<=150){j:List (aL×ap)}{aj:ae->Prop}(K:aR g C)
  {f n P a b s d:Nat}(Y:d<6)(aK:g (n+101)=J)(bz:¬aj (n+101))(bs:∀x,aj x->x<C.heap.objs.size){al am:Int}{ao aq:Nat}(bA:df u.params aj C.heap (E a) al ao)(bB:df u.params aj C.heap (E b) am aq)(aV:ic g u.params aj C.heap s d)
  {F aM:Nat}{aX:List gp}(aP:I C (n+101) (e2 u.params F aM (E a) (E b) aX))(bG:(∃k,aX=[U u.params i3 k (E s)])\/∃k S aQ,aX=gd u.params k S (E s) aQ)
  {aY:dQ->ac->Prop}{af:O->ac->Prop}
  (h:∀w k S D e,aa g (· =n+101) p C w->C.heap.objs.size<=D+101->I w (n+101) (e2 u.params F aM (E a) (E b) (gd u.params k S (E s) (E D)))->
   I w (D+101) (ah ((dC d [(E a,al,ao),(E b,am,aq)]).map (·.1)) e)->aY .next w):
  Q u l J j (eb f n P) (jF xi (et f n)) aY af C:=by
 refine Q.wI (r HN ?_);obtain ⟨T,bH,bC⟩:=aV.fn R Y;have bD:s+101≠n+101:=λq=>bz (q▸bH);refine Q.mono (Q.cM (cJ:=λau w=>au= .ok .next/\aY .next w) λA=> ?_) ?_ ?_
 rotate_left
 ·refine λx w=>an λa1 bE=> ?_;cases a1;exact bE
 ·refine λx w=>an λa1 bE=> ?_;cases a1
 have ar:∀{w},aa g (· =n+101) p C w->∀b aU,aj b->I C b aU->I w b aU:=λaU b bI aJ e=>aU.fr b bI e (λq=>bz (q▸aJ));rcases bG with⟨k,rfl⟩|⟨k,S,aQ,rfl⟩
 ·refine gb (ak:=230) (bm t o) m K (hJ aP bC) (pT aK bD) (aC:=[]) a0 t (br:=l+5) (λv=>R 9 f n P F aM a b v C.toks C.gens.size j A s k 0 .none T) t (aW _)
   (λv W a2 c i a3=>t2 m aI (V 0 150 5 200 t o) Y c.K (aV.mono (ar c.bW) (λ_ h=>h))) ?_
  refine λv W au G q a2 a4 a5 bJ a6 i a3=>an λz=>i7 λbK bL bN X av aw bO bR=>pk λZ=> ?_;rintro rfl;intro a7 ax a8 bS bT a9;have c:=a6.bW;have a_:au=tJ g u.params f n P F aM a b v C.toks C.gens.size j A s k T:=a4;subst a_;have a':=i _ _ aO;have rF:=i _ _ ci;have ba:=t3 (c3:=[(E a,al,ao),(E b,am,aq)]) (br:=l+5+10) m aI Y (aJ d Y) (V 0 150 15 340 t o) c.K (λx i=>bP (bs x i) c.aZ) (λy L=>by
   rcases b8.mp L with rfl|L
   ·exact bA.mono u.params (ar c) (λ_ h=>h)
   ·rw [bQ]at L;subst L;exact bB.mono u.params (ar c) (λ_ h=>h)) rF z Z a7 ax a8 a9
  have bb:=z.fr _ _ a' (λh=>h);have bd:((dC d [(E a,al,ao),(E b,am,aq)]).map (·.1)).length<800:=by
   rw [bM];exact dZ (hy _ _) (show 2<800 by decide)
  refine gb (ak:=230) (bm t o) m z.K (db ax) .nil (aC:=[]) a0 a5 (br:=l+5) (λM=>R 10 f n P F aM a b v C.toks C.gens.size j A s k 0 .none T M G.toks G.gens.size (X+1) W.gens.size av aw) t (aW _)
   (λM ay be B _ bf=>xh m bx (V 0 150 5 200 t o) bd (ba.ext (B.aE.mono aF aF))) ?_
  refine λM ay bg as bc be bh bi bU bj _ bf=>an λN=>bo λD e=>aT ?_;rintro rfl;intro az bk;have B:=bj.aE;have bl:bg=tL g u.params f n P F aM a b v C.toks C.gens.size j A s k T M G.toks G.gens.size (X+1) W.gens.size av aw:=bh;subst bl;have aA:=b9 aP;have bn:X+101≠n+101:=λq=>by
   have:=c.aZ;rw [Z,q]at this;exact absurd aA (cx this)
  have bp:=N.fr _ _ (B.fr _ _ bb (λh=>h)) (λh=>h.elim (λq=>bn q.symm) (λh=>h));have aB:C.heap.objs.size<=ay.heap.objs.size:=aS c.aZ (aS z.aZ B.aZ);obtain ⟨bF,bt⟩:=N.K.size;refine c2 (ak:=230) (bm t o) m N.K bt t t (db bp) (cK aK) (aC:=[]) a0 bi (R 11 f n P F aM a b v C.toks C.gens.size j A s k 0 .none T M G.toks G.gens.size (X+1) W.gens.size av aw bF as.toks as.gens.size D) ?_;intro aD bV bX bY bu bv aG;refine r (n1 bu) (r (cA bv) ?_);have aH:aa g (· =n+101) p as aD:=(aG.only t).bW;have bw:D+101≠n+101:=λq=>absurd aA (cx (q▸aS aB az));refine ai.done (.ok .next) ⟨t,h aD k as.toks D e ?_ (aS aB az) (aG.xs _ _ aO) (aH.fr _ _ bk bw)⟩;refine(((c.then z aF aF).then B aF aF).then N (λx i=> ?_) (λbZ ab=> ?_)).then aH (λ_ h=> .inl h) aF
  ·rcases i with rfl|i
   ·exact .inr (by exact r (cj Z) c.aZ)
   ·exact i.elim
  ·rcases ab with rfl|ab
   ·exact .inr c.dH
   ·exact ab.elim
 ·refine gb (ak:=230) (bm t o) m K (hJ aP bC) (pT aK bD) (aC:=[]) a0 t (br:=l+5) (λv=>R 12 _ ..) t (aW _)
   (λv W a2 c i a3=>t2 m aI (V 0 150 5 200 t o) Y c.K (aV.mono (ar c.bW) (λ_ h=>h))) ?_
  refine λv W au G q a2 a4 a5 bJ a6 i a3=>an λz=>i7 λbK bL bN X av aw bO bR=>pk λZ=> ?_;rintro rfl;intro a7 ax a8 bS bT a9;have c:=a6.bW;have a_:au=tK g u.params f n P F aM a b v C.toks C.gens.size j A s k S aQ T:=a4;subst a_;have a':=i _ _ aO;have rF:=i _ _ ci;have ba:=t3 (c3:=[(E a,al,ao),(E b,am,aq)]) (br:=l+5+10) m aI Y (aJ d Y) (V 0 150 15 340 t o) c.K (λx i=>bP (bs x i) c.aZ) (λy L=>by
   rcases b8.mp L with rfl|L
   ·exact bA.mono u.params (ar c) (λ_ h=>h)
   ·rw [bQ]at L;subst L;exact bB.mono u.params (ar c) (λ_ h=>h)) rF z Z a7 ax a8 a9
  have bb:=z.fr _ _ a' (λh=>h);have bd:((dC d [(E a,al,ao),(E b,am,aq)]).map (·.1)).length<800:=by
   rw [bM];exact dZ (hy _ _) (show 2<800 by decide)
  refine gb (ak:=230) (bm t o) m z.K (db ax) .nil (aC:=[]) a0 a5 (br:=l+5) (λM=>R 13 _ ..) t (aW _)
   (λM ay be B _ bf=>xh m bx (V 0 150 5 200 t o) bd (ba.ext (B.aE.mono aF aF))) ?_
  refine λM ay bg as bc be bh bi bU bj _ bf=>an λN=>bo λD e=>aT ?_;rintro rfl;intro az bk;have B:=bj.aE;have bl:bg=tM g u.params f n P F aM a b v C.toks C.gens.size j A s k S aQ T M G.toks G.gens.size (X+1) W.gens.size av aw:=bh;subst bl;have aA:=b9 aP;have bn:X+101≠n+101:=λq=>by
   have:=c.aZ;rw [Z,q]at this;exact absurd aA (cx this)
  have bp:=N.fr _ _ (B.fr _ _ bb (λh=>h)) (λh=>h.elim (λq=>bn q.symm) (λh=>h));have aB:C.heap.objs.size<=ay.heap.objs.size:=aS c.aZ (aS z.aZ B.aZ);obtain ⟨bF,bt⟩:=N.K.size;refine c2 (ak:=230) (bm t o) m N.K bt t t (db bp) (cK aK) (aC:=[]) a0 bi (R 14 _ ..) ?_;intro aD bV bX bY bu bv aG;refine r (n1 bu) (r (cA bv) ?_);have aH:aa g (· =n+101) p as aD:=(aG.only t).bW;have bw:D+101≠n+101:=λq=>absurd aA (cx (q▸aS aB az));refine ai.done (.ok .next) ⟨t,h aD k S D e ?_ (aS aB az) (aG.xs _ _ aO) (aH.fr _ _ bk bw)⟩;refine(((c.then z aF aF).then B aF aF).then N (λx i=> ?_) (λbZ ab=> ?_)).then aH (λ_ h=> .inl h) aF
  ·rcases i with rfl|i
   ·exact .inr (by exact r (cj Z) c.aZ)
   ·exact i.elim
  ·rcases ab with rfl|ab
   ·exact .inr c.dH
   ·exact ab.elim
end
open PyProof.Rows (AllBare)
section
variable {g:Nat->Option ab}
theorem HS(m:Base g)(o:fB g u.params)(q:l<=230){j:List (aL×ap)}(K:aR g C){f n B a b w e D aM F G:Nat}{L:O}{s:List O}(M:s.length<=2)
  (v:I C (n+101) (e2 u.params D aM (E a) (E b) (gd u.params F G L (E w))))(d:I C (w+101) (ah s e))
  {z:Bool->ac->Prop}{af:O->ac->Prop}(h:∀c,aa g p p C c->z (s.length==1) c):
  Q u l J j (eb f n B) (g9 fA.1 (et f n) (dR fA.1 (et f n))) z af C:=by
 refine r wG (r en ?_);revert d h;refine wi M ?_ (λx=> ?_) (λx y=> ?_)
 ·intro d h;exact Q.tt (ak:=230) q m K (hJ v d) .nil (aC:=[]) a0 (λi A=>o 15 _ ..) t (λi c _ k _=>h c k.aE)
 ·intro d h;exact Q.tt (ak:=230) q m K (hJ v d) .nil (aC:=[]) a0 (λi A=>o 16 _ ..) t (λi c _ k _=>h c k.aE)
 ·intro d h;exact Q.tt (ak:=230) q m K (hJ v d) .nil (aC:=[]) a0 (λi A=>o 17 _ ..) t (λi c _ k _=>h c k.aE)
theorem HT(s:Base g)(w:fB g u.params)(y:l<=230){j:List (aL×ap)}(K:aR g C){f n i a b B e k aM M N x:Nat}{P:O}{aj V:ab}
  (W:I C (n+101) (e2 u.params k aM (E a) (E b) (gd u.params M N P (E B))))(al:I C (B+101) (ah [E x] e))
  (am:I C (a+101) aj)(an:I C (x+101) V)(ao:V.cls≠ .type "tuple")
  {R:dQ->ac->Prop}{af:O->ac->Prop}(h:∀X S,aa g p p C X->R (.ret (.int (if x=a then-7 else 5) S)) X):
  Q u l J j (eb f n i) (c6 fA.2.1 (et f n)) R af C:=by
 refine r HP (Q.execs_cons (Q.a4 (Q.IfExp (Q.jW ?_ HQ))));refine r en (Q.V (ak:=230) y s K (hJ W al) .nil (aC:=[]) a0 (λc A=>w 18 f n i k aM a b c C.toks C.gens.size j A M N B e P (E x)) t (λc T _ aq _=> ?_));have U:=aq.aE;have Z:∀{b m},I C b m->I T b m:=λe=>U.fr _ _ e (λh=>h);refine Q.V (ak:=230) y s U.K (db (Z W)) .nil (aC:=[]) a0 (λc A=>w 19 f n i k aM a b c T.toks T.gens.size j A M N B e P) t (λav d _ ar _=> ?_);have F:=ar.aE;have ae:∀{b m},I C b m->I d b m:=λe=>F.fr _ _ (Z e) (λh=>h);refine Q.isRef (ae an) (ae am) ao (Q.jc ?_);have Y:decide (x+101=a+101)=decide (x=a):=by
  rw [nK];simp only [decide_eq_true_eq];exact⟨λq=>f7 q,λq=>by refine r q ?_;rfl⟩
 refine r Y ?_;have ai:∀{z S G},z=(if x=a then(-7:Int)else 5)->aa g p p d G->R (.ret (.int z S)) G:=λas o=>by
  exact r as (h _ _ ((U.trans F).trans o))
 by_cases L:x=a
 ·exact r (decide_eq_true L) (Q.V (v:=λ_=> .int (-7) (d.toks+1)) (ak:=230) y s F.K (D:=[]) a0 .nil (aC:=[]) a0 (λc A=>w 21 f n i k aM a b c d.toks d.gens.size j A) t (λau G _ o _=>ai (by rw [if_pos L]) o.aE))
 ·exact r (decide_eq_false L) (Q.V (v:=λ_=> .int 5 d.toks) (ak:=230) y s F.K (D:=[]) a0 .nil (aC:=[]) a0 (λc A=>w 22 f n i k aM a b c d.toks d.gens.size j A) t (λau G _ o _=>ai (by rw [if_neg L]) o.aE))
theorem HU(F:Base g)(bz:du g u.params)(bA:gu g u.params)(G:fB g u.params)(av:∀d<6,∀x,d6 u g d x (λ_=>True))(K:l<=150){j:List (aL×ap)}{P:ae->Prop}
  {f n c a b w al:Nat}(aU:g (n+101)=J)(be:g (c+101)=J)(aV:c≠n)(b8:w≠c)(b9:w≠n)(ax:¬P (n+101))(am:¬P (c+101))(X:P (w+101)){k m:Int}{ay az:Nat}(bB:a≠b){R:List O}{hh:ac}
  (bs:∀x,P x->x<hh.heap.objs.size)(bf:df u.params P hh.heap (E a) k ay)(bg:df u.params P hh.heap (E b) m az)(bh:I hh (w+101) (ah R al)):
  ∀(s:List (Nat×Nat)) (i:Nat) (C:ac) (A:ap),(∀q∈s,q.2<6/\ic g u.params P hh.heap q.1 q.2)->s.map (λq=>E q.1)=R.drop i->aa g (kX n c) p hh C->I C (c+101) (b2 (w+101) i)->
   (∃aA aM aB,I C (n+101) (e2 u.params aA aM (E a) (E b) aB)/\(aB=[]\/∃T ao bi aD,aB=gd u.params T ao bi aD))->
   ai u l J j (eb f n c) A (bI (eb f n c)) [] C (ei λaq z=>aa g (kX n c) p hh z/\((aq= .ok .next/\eS (s.map (·.2)) k m=0)\/∃ar,aq= .ok (.ret (.int (eS (s.map (·.2)) k m) ar)))):=by
 intro s;induction s with
 |nil=>
  intro i C A aW aI L aX aJ;have bC:R.length<=i:=by
   have:=congrArg iu aI;rw [vB]at this;exact vk.mp this.symm
  have aY:=L.fr _ _ bh (λq=>q.elim (λq=>ax (q▸X)) (λq=>am (q▸X)));have a1:w+101≠c+101:=λq=>am (q▸X);refine ai.dN λB aK=> ?_;refine(?_:ai u l J j (eb f n c) A (bI (.forLoop lQ (E c) jg (d' jZ.1).2.2 (et f n))) [] C _);refine ai.for (aG:=λa2 z=>∀o,ai u l J j (eb f n c) o (.pure a2) [] z _) ?_ (λ_ o _ h=>h o);refine r tr (Q.Ad (ak:=230) (bm t K) F L.K (hJ aX aY) (pT be a1) (aC:=[hC 0 1 (c+101) (w+101) i R al]) ?_ (λy A=>G 5 f n c 0 0 0 0 y C.toks C.gens.size j A w i al R) t (λy V _ aP _=> ?_))
  ·intro q W;rw [bQ]at W;subst W;exact n3 bC
  intro o;have bj:=aP.bW;refine ai.again _ (by kernel_rfl) (lM (ak:=230) (bm t K) F bj.K (D:=[]) a0 .nil (aC:=[]) a0 (λy=>G 20 f n c 0 0 0 0 y V.toks V.gens.size j o) t (λbD aQ _ as _ _=> ?_));exact aK _ _ ⟨(L.then bj (λ_ h=> .inl (.inr h)) aF).then as.aE aF aF,.inl ⟨t,t⟩⟩
 |cons bE s bF=>
  obtain ⟨v,d⟩:=bE;intro i C A aW aI L aX aJ;obtain ⟨Y,bG⟩:=aW _ aO;have a3:R[i]? =H (E v):=by
   have:=congrArg (λbk:List O=>bk[0]?) aI;simpa using this.symm
  have aY:=L.fr _ _ bh (λq=>q.elim (λq=>ax (q▸X)) (λq=>am (q▸X)));have a1:w+101≠c+101:=λq=>am (q▸X);have au:∀{z},aa g (kX n c) p hh z->∀b aR,P b->I hh b aR->I z b aR:=λL b aR av e=>L.fr b aR e (λq=>q.elim (λq=>ax (q▸av)) (λq=>am (q▸av)));refine ai.dN λB aK=> ?_;refine(?_:ai u l J j (eb f n c) A (bI (.forLoop lQ (E c) jg (d' jZ.1).2.2 (et f n))) [] C _);refine ai.for (aG:=λa2 z=>∀o,ai u l J j (eb f n c) o (.pure a2) [] z _) ?_ (λ_ o _ h=>h o);refine r tr (Q.Fu (ak:=230) (bm t K) F L.K (hJ aX aY) (pT be a1) (aC:=[hB 0 1 (c+101) (w+101) i R al (E v)]) ?_ (λy A=>G 4 f n c 0 0 0 0 y C.toks C.gens.size j A w i al R (E v)) t (λy V _ aP a4=> ?_))
  ·intro q W;rw [bQ]at W;subst W;exact n2 a3
  have bl:aa g (kX n c) p hh V:=L.then aP.bW (λ_ h=> .inl (.inr h)) aF;have bH:=a4 _ _ aO;refine aw aJ (cE λaA aM aB=>an λaJ bJ=> ?_);have bK:=aP.bW.fr _ _ aJ (λq=>aV (f7 (show n+101=c+101 from q)).symm);refine(?_:Q u l J j (eb f n c) (d9 lQ (E c) (E v)) _ _ V);refine r z' (Q.eC (ak:=230) (bm t K) F bl.K (D:=[]) a0 .nil (aC:=[]) a0 (λy A=>G 6 f n c 0 0 0 0 y V.toks V.gens.size j A v) t (λbD aQ _ bL _=> ?_));have as:=bL.aE;have a5:aa g (kX n c) p hh aQ:=bl.then as aF aF;have bn:=as.fr _ _ bK (λh=>h);have bN:=as.fr _ _ bH (λh=>h);refine r ja ?_;have bO:∀{a6:Unit->ac->Prop},(∀M aS,aa g (· =n+101) p aQ M->I M (n+101) (e2 u.params aA aM (E a) (E b) aS)->((∃T,aS=[U u.params i3 T (E v)])\/∃T ao aD,aS=gd u.params T ao (E v) aD)->a6 () M)->
    Q u l J j (eb f n c) (cm lQ (et f n) (E v)) a6 (λ_ _=>False) aQ:=by
   intro a6 bo;rcases bJ with rfl|⟨T,ao,bi,aD,rfl⟩
   ·exact Q.eC (ak:=230) (bm t K) F a5.K (db bn) (cK aU) (aC:=[]) a0 (λy A=>G 7 _ ..) t (λbR M _ ab a7=>bo M _ ab.bW (a7 _ _ aO) (.inl ⟨_,t⟩))
   ·exact Q.eC (ak:=230) (bm t K) F a5.K (db bn) (cK aU) (aC:=[]) a0 (λy A=>G 8 _ ..) t (λbR M _ ab a7=>bo M _ ab.bW (a7 _ _ aO) (.inr (dT _ _ _ t)))
  refine bO λM aS ab bS bT=> ?_;have af:aa g (kX n c) p hh M:=a5.then ab (λ_ h=> .inl (.inl h)) aF;have bU:=ab.fr _ _ bN (λq=>aV (f7 (show c+101=n+101 from q)));refine r HM (Q.execs_cons (HR F bz bA G av K af.K Y aU ax (λx a3=>bP (bs x a3) af.aZ) (bf.mono u.params (au af) (λ_ h=>h)) (bg.mono u.params (au af) (λ_ h=>h)) (bG.mono (au af) (λ_ h=>h)) bS bT λa8 T ao bk e bp b_ a9 br=> ?_));have a_:aa g (kX n c) p hh a8:=af.then bp (λ_ h=> .inl (.inl h)) aF;have bV:=bp.fr _ _ bU (λq=>aV (f7 (show c+101=n+101 from q)));have again:∀{N},aa g p p a8 N->b' k d=b' m d->∀o,ai u l J j (eb f n c) o (.pure (.again (.forLoop lQ (E c) jg (d' jZ.1).2.2 (et f n)))) [] N (ei λaq z=>aa g (kX n c) p hh z/\((aq= .ok .next/\eS (((v,d)::s).map (·.2)) k m=0)\/∃ar,aq= .ok (.ret (.int (eS (((v,d)::s).map (·.2)) k m) ar)))):=by
   intro N S aj o;refine ai.again _ (by kernel_rfl) ?_;have a':eS (((v,d)::s).map (·.2)) k m=eS (s.map (·.2)) k m:=by
    refine(?_:(if b' k d=b' m d then _ else _)=_);refine r (if_pos aj) ?_;rfl
   refine r a' (bF (i+1) N o (λq W=>aW q (.tail _ W)) ?_ (a_.then S aF aF) (S.fr _ _ bV (λh=>h)) ⟨aA,aM,_,S.fr _ _ a9 (λh=>h),.inr (h4 _ _ _ _ t)⟩);rw [<-List.drop_drop,<-aI];rfl
  have bX:((dC d [((E a:O),k,ay),(E b,m,az)]).map (·.1)).length<=2:=by
   rw [bM];exact hy _ _
  refine(?_:Q u l J j (eb f n c) (c6 [.If fA.1 fA.2.1 fA.2.2 (iC (jg.drop 1))] (et f n)) _ _ a8);refine Q.execs_cons (Q.If (HS F G (bm t K) a_.K bX a9 br λN S=> ?_));refine l2 λZ cz=> ?_;have bY:=S.fr _ _ a9 (λh=>h);have bt:=S.fr _ _ br (λh=>h);have aT:aa g (kX n c) p hh N:=a_.then S aF aF;refine aw (bf.mono u.params (au aT) (λ_ h=>h)) (jK λpj _ _ _ _ _=>gs λba _ _ bu _=> ?_);refine aw (bg.mono u.params (au aT) (λ_ h=>h)) (jK λbZ _ _ _ _ _=>gs λbb _ _ b0 _=> ?_);injection ba with ba;injection bb with bb;have b3:a=pj:=f7 ba;have b4:b=bZ:=f7 bb;subst b3 b4;have skip:b' k d=b' m d->(((dC d [((E a:O),k,ay),(E b,m,az)]).map (·.1)).length==1)=false:=by
   intro h;unfold dC;refine r oW (r oW ?_);refine r h ?_;cases b' m d<;>rfl
  have b5:b' k d≠b' m d->∃x,(dC d [((E a:O),k,ay),(E b,m,az)]).map (·.1)=[E x]/\((x=a/\b' k d=aN)\/(x=b/\b' k d=ag)):=by
   intro h;unfold dC;refine r oW (r oW ?_);cases bv:b' k d<;>cases bw:b' m d
   ·exact absurd (bv.trans bw.symm) h
   ·exact⟨a,t,.inl ⟨t,t⟩⟩
   ·exact⟨b,t,.inr ⟨t,t⟩⟩
   ·exact absurd (bv.trans bw.symm) h
  refine cz ?_
  by_cases aj:b' k d=b' m d
  ·refine r (skip aj) ?_;refine(?_:Q u l J j (eb f n c) (c6 fA.2.2 (et f n)) _ _ N);exact r HO (Q.execs_nil (Q.execs_nil λo=>(again S aj o).imp aK))
  ·refine aw (b5 aj) (aH λx=>an λa4 bx=> ?_);rw [a4]at bt⊢;refine(?_:Q u l J j (eb f n c) (c6 fA.2.1 (et f n)) _ _ N);have bc:∃bd,I N (x+101) bd/\bd.cls≠ .type "tuple":=by
    rcases bx with⟨rfl,_⟩|⟨rfl,_⟩
    ·exact⟨_,bu,by intro q;cases q⟩
    ·exact⟨_,b0,by intro q;cases q⟩
   refine aw bc (aH λbd=>an λbc b6=> ?_);refine HT F G (bm t K) aT.K bY bt bu bc b6 λca ar b7=> ?_;intro o;refine ai.done (.ok (.ret _)) (aK _ _ ⟨aT.then b7 aF aF,.inr ⟨ar, ?_⟩⟩);have a':eS (((v,d)::s).map (·.2)) k m=if x=a then-7 else 5:=by
    refine(?_:(if b' k d=b' m d then _ else _)=_);rw [if_neg aj];rcases bx with⟨rfl,h⟩|⟨rfl,h⟩
    ·refine r h (r (if_pos t) ?_);rfl
    ·refine r h (r (if_neg bB.symm) ?_);rfl
   refine r a' ?_;rfl
theorem BL(M:Base g)(aw:du g u.params)(ax:gu g u.params)(N:fB g u.params)(ay:∀d<6,∀x,d6 u g d x (λ_=>True))(P:l<=140){dv:ae->Prop}(K:aR g C)(bs:∀x,dv x->x<C.heap.objs.size)
  {f:Nat}{i:List (Nat×Nat)}(az:l3 u g dv f i C.heap){a b:Nat}{z B:Int}{aA aB:Nat}(aD:a≠b)(aG:df u.params dv C.heap (E a) z aA)(aH:df u.params dv C.heap (E b) B aB):
  a4 u l J (.call (.ref (f+110)) ⟨[E a,E b],[]⟩) C λk T=>aa g p p C T/\∃m,k= .ok (.ret (.int (eS (i.map (·.2)) z B) m)):=by
 refine a4.c1 λj A=> ?_;obtain ⟨⟨U,W,X,Y,o,Z,aI,am,aJ⟩,ao⟩:=az;have aK:∀y∈n8 g u.params f U W X Y o++[(o+101,ah (i.map λq=>E q.1) Z)],I C y.1 y.2:=by
  intro y s;rcases is.mp s with s|s
  ·exact(aI y s).2
  ·rw [bQ]at s;subst s;exact aJ
 refine gb (ak:=200) (bm t P) M K aK .nil (aC:=[]) a0 t (br:=l+5) (λn=>N 1 _ ..) t (aW _)
  (R:=λn w k T=>aa g (kX n (n+1)) p w T/\((k= .ok .next/\eS (i.map (·.2)) z B=0)\/∃m,k= .ok (.ret (.int (eS (i.map (·.2)) z B) m)))) ?_ ?_
 ·intro n w F ab c _;have G:=ab.aE;have aL:=c _ _ aO;have aM:=c _ _ ci;have aP:I w (n+1+101) (b2 (o+101) 0):=by
   exact r (show n+1+101=n+102 from t) (c _ _ dK)
  have ac:∀x:Nat,dv x->x<n+101:=λx c=>F▸bs x c;have ap:o+101<n+101:=ac _ am;have aq:¬(n+1+101<n+101):=cx (cV 101 102 t);refine a4.c1 λa8 aQ=> ?_;exact HU (hh:=w) M aw ax N ay (V 0 140 5 150 t P) (K.fresh (by rw [F];exact aW _)) (K.fresh (by rw [F];exact cV 101 102 t)) (bA 1 0 t) (λq=>by subst q;exact aq ap) (λq=>by subst q;exact absurd ap (eK _))
   (λq=>absurd (ac _ q) (eK _)) (λq=>aq (ac _ q)) am aD (λx c=>bP (bs x c) G.aZ) (aG.mono u.params (λb L _ e=>G.fr b L e (λh=>h)) (λ_ h=>h)) (aH.mono u.params (λb L _ e=>G.fr b L e (λh=>h)) (λ_ h=>h)) aL
   i 0 w aQ (λq ar=>⟨(ao q ar).1,(ao q ar).2.mono (λb L _ e=>G.fr b L e (λh=>h)) (λ_ h=>h)⟩) t (.refl G.K) aP (dT _ _ [] ⟨aM,.inl t⟩)
 ·refine λn w k Q q F aS as aT ab c a9=>an λS aU=> ?_;have aV:k=pE g u.params f U n W X Y a b o C.toks C.gens.size j A Z (i.map λq=>E q.1):=aS;subst aV;have a_:=cA aT;have au:aa g p p C Q:=ab.aE.then S (λx c=> .inr (by rcases c with rfl|rfl<;>refine r F ?_<;>first|exact bw t|exact g7 (dq _ _) _)) aF;obtain ⟨aX,av⟩:=S.K.size;rcases aU with⟨rfl,aY⟩|⟨m,rfl⟩
  ·refine c2 (ak:=200) (bm t P) M S.K av t t (D:=[]) a0 .nil (aC:=[]) a0 as (N 2 _ ..) ?_;intro a1 a2 a3 a5 af aj al;refine r (e' af) (r (cA aj) ?_);exact ai.done (.ok (.ret _)) ⟨au.then (al.e1 t) aF aF,Q.toks,by refine r aY ?_;rfl⟩
  ·generalize a6:O.int (eS (i.map (·.2)) z B) m=v;have a7:=N 3 f U W X Y o a b n C.toks C.gens.size Z (i.map λq=>E q.1) j A aX Q.toks Q.gens.size v;refine c2 (ak:=200) (bm t P) M S.K av t t (D:=[]) a0 .nil (aC:=[]) a0 as a7 ?_;intro a1 a2 a3 a5 af aj al;refine r (e' af) (r (cA aj) ?_);exact ai.done (.ok (.ret _)) ⟨au.then (al.e1 t) aF aF,m,by refine r a6 ?_;rfl⟩
end
open PyProof.Rows
noncomputable def gX(h:aY)(a:ae):Heap:={h with objs:=h.objs.extract 0 a}
theorem xj {h:aY}{a:ae}:(gX h a).objs.size<=a:=by
 unfold gX;simp only [Array.size_extract];lia
theorem xk {h:aY}{a b:ae}{c:ab}(e:(gX h a).get? b=H c):b<a:=bP (b9 e) xj
theorem BM {h:aY}{c b:ae}{a:ab}(e:(gX h c).get? b=H a):h.get? b=H a:=by
 have d:=xk e;have q:=(qP _ _ _).1 e;refine(qP _ _ _).2 ⟨?_,q.2⟩;have bV:=q.1;unfold gX at bV;rw [<-bV];simp [zi];exact λf=>eJ λh=>absurd (Nat.lt_min.mpr ⟨d,h⟩) (cx f)
theorem xl {h:aY}{a b:ae}{c:ab}(e:h.get? b=H c)(d:b<a):(gX h a).get? b=H c:=by
 have q:=(qP _ _ _).1 e;refine(qP _ _ _).2 ⟨?_,q.2⟩;rw [<-q.1];unfold gX;simp [zi];exact λf=>eJ λh=>absurd (Nat.lt_min.mpr ⟨d,h⟩) (cx f)
theorem t4 {h:aY}{a b:ae}(c:a<=b):(gX h a).get? b=none:=by
 cases e:(gX h a).get? b with
 |none=>rfl
 |some d=>exact absurd (xk e) (cx c)
noncomputable def kY(h:aY)(b:ae)(X:List ae):List (ae×ab):=(c8 h.objs.size).filterMap λa=>if b<a/\a∉X then(h.get? a).map (λc=>(a,c))else J
theorem t5 {h:aY}{a b:ae}{c:ab}{X:List ae}(e:h.get? b=H c)(d:a<b)(f:b∉X):(b,c)∈kY h a X:=by
 refine hW.mpr ⟨b,mr.mpr (b9 e), ?_⟩;rw [if_pos ⟨d,f⟩,e];rfl
theorem t6 {h:aY}{c:ae}{x:ae×ab}{X:List ae}(e:x∈kY h c X):h.get? x.1=H x.2/\c<x.1/\x.1∉X:=by
 refine aw (hW.mp e) (aH λa=>an λ_ b=> ?_);split at b
 ·rename_i d;refine aw (fL.mp b) (aH λg=>an λf=> ?_);rintro rfl;exact⟨f,d⟩
 ·cases b
theorem t7 {d h:aY}{c:ae}{X:List ae}:News (gX d c) c h (kY h c X):=λx e=>by
 obtain ⟨a,b,_⟩:=t6 e;exact⟨a,aX b,t4 (eW b)⟩
noncomputable def cl:List Nat->Int->Nat
 | [],_=>0
 |d::a,x=>(if b' x d then 2^a.length else 0)+cl a x
theorem t8:∀(a:List Nat) (x:Int),cl a x<2^a.length
 | [],_=>by simp [cl]
 |d::a,x=>by
  have:=t8 a x;simp only [cl,jC,Nat.pow_succ,Nat.mul_two];split
  ·exact lq this _
  ·exact Nat.add_lt_add_of_le_of_lt (be _) this
theorem t9:∀(a:List Nat) (x y:Int),(eS a x y=0/\cl a x=cl a y)\/(eS a x y=5/\cl a y<cl a x)\/(eS a x y= -7/\cl a x<cl a y)
 | [],_,_=> .inl ⟨t,t⟩
 |d::a,x,y=>by
  have c:=t8 a x;have e:=t8 a y;have b:=t9 a x y;unfold eS cl;cases b' x d<;>cases b' y d
  ·exact b.imp (λq=>⟨q.1,congrArg (0+ ·) q.2⟩) (Or.imp (λq=>⟨q.1,lq q.2 0⟩) (λq=>⟨q.1,lq q.2 0⟩))
  ·exact .inr (.inr ⟨t,bP (by rw [show(if aN=ag then 2^a.length else 0)+cl a x=cl a x from ip _];exact c) (dq _ _)⟩)
  ·exact .inr (.inl ⟨t,bP (by rw [show(if aN=ag then 2^a.length else 0)+cl a y=cl a y from ip _];exact e) (dq _ _)⟩)
  ·exact b.imp (λq=>⟨q.1,congrArg (2^a.length+ ·) q.2⟩) (Or.imp (λq=>⟨q.1,lq q.2 _⟩) (λq=>⟨q.1,lq q.2 _⟩))
theorem xm(a:List Nat)(x y:Int):eS a x y=0\/eS a x y=5\/eS a x y= -7:=by
 rcases t9 a x y with h|h|h
 ·exact .inl h.1
 ·exact .inr (.inl h.1)
 ·exact .inr (.inr h.1)
theorem pU {z:Int}{a b:Nat}(h:(z=0/\a=b)\/(z=5/\b<a)\/(z= -7/\a<b)):(z<0↔a<b)/\(z=0↔a=b)/\(0<z↔b<a):=by
 rcases h with⟨rfl,rfl⟩|⟨rfl,q⟩|⟨rfl,q⟩
 ·exact⟨iff_of_false (by decide) (eK _),iff_of_true t t,iff_of_false (by decide) (eK _)⟩
 ·exact⟨iff_of_false (by decide) (lp q),iff_of_false (by decide) (aX q),iff_of_true (by decide) q⟩
 ·exact⟨iff_of_true (by decide) q,iff_of_false (by decide) (a7 q),iff_of_false (by decide) (lp q)⟩
theorem HV(a:List Nat)(x y:Int):decide (eS a x y<0)=decide (cl a x<cl a y):=decide_eq_decide.mpr (pU (t9 a x y)).1
noncomputable def bg(q:Nat×Int×Nat):Value:=E q.1
section
variable {g:Nat->Option ab}{C am:ac}{aV:ef}{af:O->ac->Prop}{bv:ae}{G:c0->Option O}
noncomputable def hL(b lo:Nat)(h:aY):List O->List (Nat×Int×Nat)->Prop
 | [],[]=>True
 |k::c,q::d=>(∃a e,k=E a/\lo<=a+101/\h.get? (a+101)=H (cq (b+58) e #[H (bg q)]))/\hL b lo h c d
 |_,_=>False
theorem hL.mono {e lo:Nat}{h f:aY}(k:∀b d,lo<=b->h.get? b=H d->(∃x y z,d=cq x y z)->f.get? b=H d):∀{g:List O} {i:List (Nat×Int×Nat)},hL e lo h g i->hL e lo f g i
 | [],[],_=>trivial
 |_::_,_::_,⟨⟨d,j,a,b,c⟩,l⟩=>⟨⟨d,j,a,b,k _ _ b c (dT _ _ _ t)⟩,l.mono k⟩
theorem hL.snoc {c lo:Nat}{h:aY}{q:Nat×Int×Nat}{b d:Nat}(f:lo<=b+101)(e:h.get? (b+101)=H (cq (c+58) d #[H (bg q)])):∀{g:List O} {i:List (Nat×Int×Nat)},hL c lo h g i->hL c lo h (g++[E b]) (i++[q])
 | [],[],_=>⟨bh b d ⟨t,f,e⟩,trivial⟩
 |_::_,_::_,⟨a,j⟩=>⟨a,j.snoc f e⟩
theorem hL.len {c lo:Nat}{h:aY}:∀{a:List O} {b:List (Nat×Int×Nat)},hL c lo h a b->a.length=b.length
 | [],[],_=>rfl
 |_::_,_::_,⟨_,d⟩=>by rw [jC,jC,d.len]
theorem hL.at {j lo:Nat}{h:aY}:∀{d:List O} {c:List (Nat×Int×Nat)},hL j lo h d c->∀{i:Nat} {q:Nat×Int×Nat},c[i]? =H q->∃f g,d.getD i fx=E f/\h.get? (f+101)=H (cq (j+58) g #[H (bg q)]):=by
 intro d;induction d with
 |nil=>
  intro c h i q e;cases c with
  |nil=>cases e
  |cons=>exact h.elim
 |cons k d l=>
  intro c h i q e;cases c with
  |nil=>exact h.elim
  |cons m c=>
   cases i with
   |zero=>
    cases e;refine aw h.1 (bo λf g=>aT λa _ b=> ?_);exact bh f g ⟨a,b⟩
   |succ i=>exact l h.2 e
theorem hL.all {i lo:Nat}{h:aY}:∀{c:List O} {d:List (Nat×Int×Nat)},hL i lo h c d->∀v∈c,∃f q,v=E f/\∃g,h.get? (f+101)=H (cq (i+58) g #[H (bg q)]):=by
 intro c;induction c with
 |nil=>intro d _ v e;cases e
 |cons k c j=>
  intro d h v e;cases d with
  |nil=>exact h.elim
  |cons q d=>
   rcases b8.mp e with rfl|e
   ·refine aw h.1 (bo λf g=>aT λa _ b=> ?_);exact bh f q ⟨a,g,b⟩
   ·exact j h.2 v e
structure jp(b5:Nat->Option ab)(C:ac)(bv:ae)(G:c0->Option O)(c:Nat)(f g:ae)(h:Nat)(b:List O)(e:Nat)(i:List (Nat×Int×Nat))(am:ac):Prop where
 az:aa b5 (· =bv) p C am
 ns:am.heap.Ns bv G
 d:I am f (kC "list" #[] h)
 k:I am g (kC "list" (nI b) e)
 a:hL c C.heap.objs.size am.heap b i
section
variable {s:Nat}{f d:ae}{i e:Nat}{k:List O}{m:List (Nat×Int×Nat)}
theorem jp.fr(a:jp g C bv G s f d i k e m am):Fr (gX C.heap bv) bv am.heap G:=⟨a.ns,λb c h=>a.az.fr b c (BM h) (a7 (xk h)),xj⟩
theorem jp.step {l:ac}(a:jp g C bv G s f d i k e m am)(c:aa g p p am l):jp g C bv G s f d i k e m l:=
 ⟨a.az.then c aF aF,a.ns.keeps λb j e=>c.fr b j e (λh=>h),c.fr _ _ a.d (λh=>h),c.fr _ _ a.k (λh=>h),a.a.mono λb j _ e _=>c.fr b j e (λh=>h)⟩
theorem jp.turn(K:aR g C)(D:g bv=J)(v:bv<C.heap.objs.size)(r:C.heap.objs.size<=f)(w:f<d)(h:jp g C bv G s f d i k e m am){c:aY}{az:ab}{cs:ab->List (ae×ab)}(E:cs az=(d,az)::kY am.heap bv [d])
  (F:Fr (gX C.heap bv) bv c G)(t:News (gX C.heap bv) bv c (cs az)):
  aa g (· =bv) p C {am with heap:=c}/\c.get? f=H (kC "list" #[] i)/\c.get? d=H az/\hL s C.heap.objs.size c k m/\(∀b x,bv<b->b≠d->I am b x->c.get? b=H x):=by
 rw [E]at t;have n:∀b x,bv<b->b≠d->I am b x->c.get? b=H x:=λb x l o j=>(t (b,x) (.tail _ (t5 j l (by simpa using o)))).1;have A:=n f _ (bP v r) (a7 w) h.d;have BN:∀b x,I C b x->b≠bv->c.get? b=H x:=λb x l o=>by
  rcases fV b bv with q|q
  ·exact F.keep b x (xl l q)
  ·refine n b x (vr q (nT o)) ?_ (h.az.fr b x l o);have:=b9 l;intro e;subst e;exact absurd this (cx (eW (dZ r w)))
 have B:C.heap.objs.size<=c.objs.size:=eW (dZ r (b9 A));refine⟨⟨⟨aS ?_ B,λa x u=> ?_⟩,BN,B,h.az.ct,h.az.dH,h.az.gP,h.az.eP,h.az.os⟩,A,(t _ aO).1,h.a.mono λb L M j N=>n b L (bP v M) ?_ j,n⟩
 ·exact K.lo
 ·refine BN a x (K.kt a x u) λq=> ?_;subst q;rw [D]at u;cases u
 ·intro e;subst e;rw [h.k]at j;injection j with j;obtain ⟨x,y,z,rfl⟩:=N;cases j
end
structure xn(dj:cZ)(b5:Nat->Option ab)(bv:ae)(G:c0->Option O)(a:ae->Prop)(f n c d e g h:Nat)(i:List (Nat×Nat))(b:List (Nat×Int×Nat))(C:ac):Prop where
 K:aR b5 C
 nb:∀x,a x->x<C.heap.objs.size
 HW:¬a bv
 t_:b5 bv=J
 ns:C.heap.Ns bv G
 hH:gV dj.params (f+9) n c d e C.heap
 ax:∀x∈f1 dj.params (f+9) n c d e,x.1≠bv
 l4:l3 dj b5 a f i C.heap
 fy:∀q∈b,df dj.params a C.heap (bg q) q.2.1 q.2.2
 inj:(b.map (·.1)).Nodup
 da:I C (g+101) (ah (b.map bg) h)
 PY:g+101≠bv
 top:∃az,I C (C.heap.objs.size-1) az
 m9:bv<C.heap.objs.size-1
theorem PZ {a:List (Nat×Int×Nat)}{i:Nat}{q:Nat×Int×Nat}(h:a[i]? =H q):(a.map bg).getD i fx=bg q:=by
 simp [fv,h]
section
variable {dv:ae->Prop}{f n s o cH k y:Nat}{dw:List (Nat×Nat)}{aP:List (Nat×Int×Nat)}
noncomputable def fD(aP:List (Nat×Int×Nat))(i:Nat):Int:=(aP.getD i (0,0,0)).2.1
theorem HX(Z:Base g)(ab:gf g u.params)(ao:du g u.params)(ap:gu g u.params)(aq:fB g u.params)(Q:∀d<6,∀x,d6 u g d x (λ_=>True))(c:xn u g bv G dv f n s o cH k y dw aP C)(af:l<=130)
  (ar:aV.handled=J)(as:aV.depth<=301+l)(au:aV.units+1<=4+3*l)(av:aV.units+1<mw){ah ai:ae}{aj e:Nat}{R:List O}
  {i j:Nat}(ay:i<aP.length)(aA:j<aP.length)(aB:i≠j){ak:Bool->ac->Prop}(v:jp g C bv G s ah ai aj R e aP am)
  (aC:∀al,jp g C bv G s ah ai aj R e aP al->ak (decide (cl (dw.map (·.2)) (fD aP i)<cl (dw.map (·.2)) (fD aP j))) al):kas_ask bH u aV oneType' R i j ak am:=by
 obtain ⟨w,A⟩:∃q,aP[i]? =H q:=⟨aP[i],by simp [ay]⟩;obtain ⟨B,E⟩:∃q,aP[j]? =H q:=⟨aP[j],by simp [aA]⟩;refine aw (v.a.at A) (bo λaR aS=>an λaD aE=> ?_);refine aw (v.a.at E) (bo λaT aU=>an λaG aH=> ?_);have aI:fD aP i=w.2.1:=by unfold fD;simp [fv,A]
 have aJ:fD aP j=B.2.1:=by unfold fD;simp [fv,E]
 have aK:w.1≠B.1:=λe=>aB (py c.inj (i:=i) (bi:=j) (a:=w.1) (by simp [A]) (by simp [E,e]));have F:∀{M},aa g (· =bv) p C M->∀b K,dv b->I C b K->I M b K:=λaL b K Q e=>aL.fr b K e (λq=>c.HW (q▸Q));unfold kas_ask;refine r aD (r aG ?_);obtain ⟨⟨S,T,U,W,X,e,aM,_⟩,_⟩:=c.l4;have aQ:I am (f+9+101) (de (fdOf (gc (jf g u.params f X S T U W).D 10))):=by
  have q:=aM (f+110,gc (jf g u.params f X S T U W).D 10) aO;have bc:=F v.az _ _ q.1 q.2;rw [(ab 18)]at bc;exact bc
 refine Hb (l:=l) (d4:=fdOf (gc (jf g u.params f X S T U W).D 10)) (m:=f+9) (n:=n) (s:=s) (o:=o) (cH:=cH) (z:=eS (dw.map (·.2)) w.2.1 B.2.1) Z ab v.az.K (λx L=>v.az.fr _ _ (c.hH x L) (c.ax x L)) aE aH aQ (xm _ _ _) (bm t af) ?_ ar as au av ?_
 ·intro Y N;have P:aa g (· =bv) p C Y:=v.az.then N aF aF;exact BL (l:=l+10) Z ao ap aq Q (V 0 130 10 140 t af) (dv:=dv) N.K (λx L=>bP (c.nb x L) P.aZ) (f:=f) (c.l4.mono (F P) (λ_ h=>h)) aK
   ((c.fy w (dP A)).mono u.params (F P) (λ_ h=>h)) ((c.fy B (dP E)).mono u.params (F P) (λ_ h=>h))
 ·intro Y N;rw [HV,<-aI,<-aJ];exact aC Y (v.step N)
theorem HY(aB:Base g)(aC:gf g u.params)(a5:du g u.params)(a6:gu g u.params)(a7:fB g u.params)(a9:∀d<6,∀x,d6 u g d x (λ_=>True))(w:xn u g bv G dv f n s o cH k y dw aP C)(aD:l<=130)
  (aE:aV.handled=J)(aF:aV.depth<=301+l)(a_:aV.units+3<=4+3*l)(a':aV.units+3<mw)(ak:2<=aP.length)(ba:aP.length<64){al:O->ac->Prop}
  (bb:∀m A c am,aa g (· =bv) p C am->C.heap.objs.size<=m->cu aP.length A->ep (λi=>cl (dw.map (·.2)) (fD aP i)) A aP.length->I am m (ah (A.toList.map λi=>(aP.map bg).getD i fx) c)->al (.ref m) am):
  bD (b1 bH u) aV (f8 (.builtin "sorted") [E k] [(v3 "key",.ref (s+159))]) al af C:=by
 have ao:(aP.map bg).length=aP.length:=bM ..;have Z:bv<C.heap.objs.size:=w.ns.lt;obtain ⟨bR,bc⟩:=w.top;have a8:Fr (gX C.heap bv) bv C.heap G:=⟨w.ns,λb bd h=>BM h,xj⟩;have be:C.heap.IsList (k+101) (aP.map bg).toArray:=⟨_,w.da,t,_,t⟩;refine kat_sortedK (news:=kY C.heap bv []) (b:=aN) a8 t7 be (by rw [ao];exact ak) (by rw [ao];exact ba) (ksk_s1 _ _) (λx=>ksk_l1 _ _) (λx=>ksk_t1 _ _) ?_;intro m z P R F ap aq bf;have aG:=w.K.lo;have bh:C.heap.objs.size-1<m:=bf _ (t5 bc w.m9 (by simp));have Q:C.heap.objs.size<=m:=Nat.le_of_pred_lt bh;have ar:bv<m:=bP Z Q;have ab:bv<z:=hV ar aq;have bi:∀b x,bv<b->I C b x->R.get? b=H x:=λb x a e=>(ap (b,x) (.tail _ (.tail _ (t5 e a (by simp))))).1;have aI:∀b x,I C b x->b≠bv->R.get? b=H x:=λb x a e=>by
  rcases fV b bv with q|q
  ·exact F.keep b x (xl a q)
  ·exact bi b x (vr q (nT e)) a
 have aJ:R.get? m=H (kC "list" #[] P):=(ap _ ci).1;have bj:R.get? z=H (kC "list" #[] 0):=(ap _ aO).1;have aK:C.heap.objs.size<=R.objs.size:=eW (dZ Q (b9 aJ));have bk:jp g C bv G s m z P [] 0 [] {C with heap:=R}:=⟨⟨⟨aS aG aK,λa x j=>aI a x (w.K.kt a x j) λq=>by
  subst q;rw [w.t_]at j;cases j⟩,aI,aK,(λ_ _ h _=>h),aW _,(λh=>h),t,t⟩,F.ns,aJ,bj,trivial⟩
 have bl:∀(S done:List (Nat×Int×Nat)) (B:List O) (e:Nat) (M:ac),aP=done++S->jp g C bv G s m z P B e done M->
   KatKeys bH u aV.in1.in1 (gX C.heap bv) bv G z (.ref (s+159)) (λB e am=>bD (b1 bH u) aV.in1.in1 (keyKind' (nI B)) (λbn bp=>(kas_sort (aP.map bg).length).kasWp (kas_ask bH u aV.in1.in1 bn (katRev aN B)) (λA L=>KatFin (gX C.heap bv) bv G z m B e P (katRev aN (A.toList.map λi=>(katRev aN (aP.map bg)).getD i fx)) (λbr=>al (.ref m) br) L) bp) (λ_ _=>False) am) (S.map bg) B e M:=by
  intro S;induction S with
  |nil=>
   intro done B e M Y D;rw [mo]at Y;subst Y;refine KatKeys.nil ?_;have bs:B.length=aP.length:=D.a.len;refine kas_kind (T:= .ref (s+159)) (by rw [bs];exact ak) (λv bt=> ?_) t (by simp) ?_
   ·refine aw (D.a.all v bt) (bo λbd q=>an ?_);rintro rfl;refine aH λbS bx=> ?_;intro bT bU bV L bz dr;exact wpAny_typeOf_ref (bz _ _ bx) dr
   refine r ao (Bn (n:=aP.length) (a3:=λi=>cl (dw.map (·.2)) (fD aP i)) (dt:=λL=>jp g C bv G s m z P B e aP L) ?_ (V 2 0 1 0 t ak) D ?_)
   ·intro i bW bX L bA bB bC K bE;exact HX (aV:=aV.in1.in1) aB aC a5 a6 a7 a9 w aD aE aF (by refine(?_:aV.units+1+1+1<=_);exact a_) (by refine(?_:aV.units+1+1+1<_);exact a') bA bB bC K bE
   ·intro A L K bF bG;refine(?_:KatFin (gX C.heap bv) bv G z m B e P (A.toList.map λi=>(aP.map bg).getD i fx) _ L);refine KatFin.intro (news:=(z,kC "list" (nI B) e)::kY L.heap bv [z]) K.fr (λx j=> ?_) (.head λx j=> ?_) λae c U as=> ?_
    ·rcases b8.mp j with rfl|j
     ·exact⟨K.k,aX ab,t4 (eW ab)⟩
     ·exact t7 x j
    ·intro q;exact(t6 j).2.2 (by simp [q])
    refine aw (K.turn w.K w.t_ Z Q aq (az:=kC "list" #[] c) (cs:=λW=>(z,W)::kY L.heap bv [z]) t U as) (gs λau av aL aM aQ=> ?_);refine KasFin.intro (news:=(m,kC "list" #[] P)::kY ae bv [m]) U (λx j=> ?_) (.head λx j=> ?_) λai aR bI aT=> ?_
    ·rcases b8.mp j with rfl|j
     ·exact⟨av,aX ar,t4 (eW ar)⟩
     ·exact t7 x j
    ·intro q;exact(t6 j).2.2 (by simp [q])
    have bJ:∀b x,bv<b->b≠m->ae.get? b=H x->ai.get? b=H x:=λb x X aj bK=>(aT (b,x) (.tail _ (t5 bK X (by simpa using aj)))).1;have aU:ai.get? m=H (ah (A.toList.map λi=>(aP.map bg).getD i fx) aR):=(aT _ aO).1;have aY:∀b x,I C b x->b≠bv->ai.get? b=H x:=λb x X aj=>by
     rcases fV b bv with q|q
     ·exact bI.keep b x (xl X q)
     ·refine bJ b x (vr q (nT aj)) ?_ (au.fr b x X aj);intro e;subst e;exact absurd (b9 X) (cx Q)
    have a0:C.heap.objs.size<=ai.objs.size:=eW (dZ Q (b9 aU));exact bb m A aR _ ⟨⟨aS aG a0,λa x j=>aY a x (w.K.kt a x j) λq=>by
     subst q;rw [w.t_]at j;cases j⟩,aY,a0,K.az.ct,K.az.dH,K.az.gP,K.az.eP,K.az.os⟩ Q bF bG aU
  |cons q S bL=>
   intro done B e M Y D;refine KatKeys.cons ?_;obtain ⟨N,ay⟩:=D.az.K.size;refine a4.call (l:=l) (rC (d:=q.1+101) aB aC (bm t aD) D.az.K (λx j=>D.az.fr _ _ (w.hH x j) (w.ax x j)) ay) aE aF (by refine(?_:aV.units+1+1<=_);lia) ?_;refine λbY a1=>bu ?_;rintro rfl;intro W bN bZ;refine⟨_,t, ?_⟩;have aA:=D.step W;have a2:C.heap.objs.size<=N+1+101:=by
    have:=D.az.aZ;rw [ay]at this;exact V 0 101 0 102 t this
   refine KatBack.intro (news:=(z,kC "list" (nI B) e)::kY a1.heap bv [z]) aA.fr (λx j=> ?_) (.head λx j=> ?_) λae c U as=> ?_
   ·rcases b8.mp j with rfl|j
    ·exact⟨aA.k,aX ab,t4 (eW ab)⟩
    ·exact t7 x j
   ·intro q;exact(t6 j).2.2 (by simp [q])
   refine aw (aA.turn w.K w.t_ Z Q aq (az:=kC "list" (nI (B++[.ref (N+102)])) c) (cs:=λW=>(z,W)::kY a1.heap bv [z]) t U as) (gs λau av aL aM aQ=> ?_);have bO:(N+102:Nat)≠z:=λq=>by
    have:=b9 D.k;rw [ay,<-q]at this;exact absurd this (by refine(?_:¬(N+102<N+101));exact cx (bw t))
   have bQ:ae.get? (N+1+101)=H (cq (s+58) N #[H (bg q)]):=aQ (N+102) _ (bP Z a2) bO bN;exact bL (done++[q]) (B++[E (N+1)]) c _ (by rw [sA];exact Y) ⟨au,U.ns,av,aL,aM.snoc a2 bQ⟩
 exact bl aP [] [] 0 _ t bk
end
end
section
variable {g:Nat->Option ab}
theorem HZ:pH hF.1= .Return (H (A1 (pH hF.1))) (cb.pos (pH hF.1)):=by kernel_rfl
theorem BO(S:Base g){c k ec:Nat}(N:kS c g u.params)(Z:j0 g u.params)(T:l<=80){aV:ae->Prop}{m n:Nat}(ab:cc g aV p C (tO c k ec) (bK c [0] []) C)(ac:C.heap.objs.size=n+101):
  a4 u l J (.call (.ref 21) ⟨[E m],[]⟩) C λU a=>U= .ok (.ret (E (d c (n+2)+2)))/\∃i o j A w x z B F G K L M,
   cc g aV p C (h8 g u.params c k ec m n (n+2) i o j A w x z B F K G L M).D (h7 c) a/\a.heap.objs.size=d c (n+2)+6+101:=by
 refine a4.c1 λj A=> ?_;refine ab.pz (bm t T) S ac t t (aC:=[]) a0 t (by kernel_rfl) (N 0 k ec m n C.toks C.gens.size j A) (dk:=rx c k ec m n) (c5:=ry c) (N 22 k ec) lr t ?_;intro ax ay az aA af ah aj aB aD;refine r (cA af) ?_;refine ai.func (aG:=λW a=>W= .ret (E (d c (n+2)+2))/\∃i o j A w x z B F G K L M,
   cc g aV p C (h8 g u.params c k ec m n (n+2) i o j A w x z B F K G L M).D (h7 c) a/\a.heap.objs.size=d c (n+2)+6+101) ?_ (λW a q=>⟨by refine r q.1 ?_;rfl,q.2⟩)
 refine r (congrArg (λb=>c6 b (j1 n)) Ga) (Q.execs_cons ?_);rw [F_];refine(G0 S N Z T (s:=n+2) ah aj).mono ?_ (λ_ _ h=>h.elim);refine λf O=>an ?_;rintro rfl;refine i7 λi o P w x z B F=>gL λG K L M=>an λR al=> ?_;refine(?_:Q u l J j _ (c6 [pH hF.1] (j1 n)) _ _ O);refine Q.execs_cons (r HZ ?_);refine Q.a4 (r en ?_);have am:I O (n+101) (gc (h8 g u.params c k ec m n (n+2) i o j P w x z B F K G L M).D (bK c 1 3)):=by
  have q:=N 20 k ec m n (n+2) i o j P w x z B F G K L M;simp only [eZ]at q;refine aw (fL.mp q.1) (aH λy=>an λX ao=> ?_);have:=R.get X;rw [ao]at this;unfold gc;exact r X this
 obtain ⟨aE,ap⟩:=R.K.size;refine(Q.bN (cJ:=λU a=>U= .ok (.ret (E (d c (n+2)+2)))/\aa g p p O a/\a.heap.objs.size=O.heap.objs.size) λaF=> ?_).mono ?_ ?_
 ·refine c2 (ak:=100) (bm t T) S R.K ap t t (D:=[(n+101,gc (h8 g u.params c k ec m n (n+2) i o j P w x z B F K G L M).D (bK c 1 3))]) (fk am) .nil (aC:=[]) a0 t (N 19 _ ..) ?_;intro aI aJ aK aL aq ar Y;refine r (e' aq) (r (cA ar) ?_);exact ai.done (.ok (.ret _)) ⟨t,Y.e1 t,Y.aZ⟩
 ·refine λv as=>aT λV au av=> ?_;cases V;exact⟨t,i,o,j,P,w,x,z,B,F,G,K,L,M,R.rh au,av.trans al⟩
 ·refine λe as=>an λV _=> ?_;cases V
theorem H0(h:Base g)(d:kS 1 g u.params)(i:j0 g u.params)(o:l<=80)(K:aR g C){k c m n:Nat}(s:∀x∈n' k c,I C x.1 x.2)(v:C.heap.objs.size=n+101):
  a4 u l J (.call (.ref 21) ⟨[E m],[]⟩) C λe b=>(∃a:ae,e= .ok (.ret (.ref a)))/\aa g p p C b/\∃w,I b (b.heap.objs.size-1) w:=by
 refine(BO (aV:=p) (k:=k) (ec:=c) h d i o (.start K s) v).mono (λe b=>an ?_);rintro rfl;refine i7 λB D j A F G L M=>i6 λN O P Q R=>an λf z=> ?_;have q:=d 20 k c m n (n+2) B D j A F G L M N O P Q R;simp only [eZ]at q;refine⟨⟨_,t⟩,f.ch, ?_⟩;refine aw (fL.mp q.2) (aH λy=>an λS T=> ?_);have:=f.get S;rw [T]at this;exact⟨_,r z this⟩
end
section
variable {g:Nat->Option ab}
theorem xo {b c:List (ae×ab)}{a:List Nat}(h:f_ b a=c.map H){x:ae×ab}(d:x∈c):∃i,dy b i=H x:=by
 have:H x∈f_ b a:=by rw [h];exact oV d
 clear h d;induction a with
 |nil=>cases this
 |cons e a f=>
  rcases b8.mp this with q|q
  ·exact⟨e,q.symm⟩
  ·exact f q
theorem H1(M:Base g)(o:kS 0 g u.params)(N:j0 g u.params)(O:gf g u.params)(P:l<=80)(K:aR g C)(Q:g 16=J)(R:I C 16 (co ⟨[]⟩)){m n:Nat}(S:C.heap.objs.size=n+101):
  a4 u l J (.call (.ref 21) ⟨[E m],[]⟩) C λq c=>q= .ok (.ret (.ref (n+161)))/\aa g (· =16) p C c/\∃a d b,gV u.params m n (n+2) a d c.heap/\(∀x∈n' (n+2) a,I c x.1 x.2)/\I c (n+101) (m4 u.params (n+2) b):=by
 refine(BO (k:=0) (ec:=0) M o N P ((cc.start (aV:=(· =16)) (L:=p) K (D:=[(16,co ⟨[]⟩)]) (fk R)).head Q a0 (.inl t)) (m:=m) S).mono (λq c=>an ?_);rintro rfl;refine i7 λa r j A s v w y=>i6 λz B d F b=>an λf _=> ?_;have T:=O 0 m n (n+2) a r j A s v w y z B d F b;have G:=o 21 0 0 m n (n+2) a r j A s v w y z B d F b;refine⟨t,f.ch,a,d,b,λx h=> ?_,λx h=> ?_, ?_⟩
 ·obtain ⟨i,e⟩:=xo T h;exact f.get e
 ·obtain ⟨i,e⟩:=xo G (oT _ h);exact f.get e
 ·obtain ⟨i,e⟩:=xo G (x:=(n+101,m4 u.params (n+2) b)) (mn _ aO);exact f.get e
theorem H2 {P:a1}{b c:Nat}{h:aY}{a:ae}(e:h.get? a=H (m4 P b c)):h.Ns a (nsFind (tT (m4 P b c))):=
 ⟨_,_,_,e,t,by
  refine w5 ?_;unfold U;simp only [List.forall_mem_cons];exact⟨bh _ _ t,λ_ h=>nomatch h⟩,λ_=>t⟩
end
open PyProof.Rows
section
variable {g:Nat->Option ab}{af:O->ac->Prop}
theorem oh(a:cW c []<=4):((di Y l).over c []).handled=Y/\((di Y l).over c []).depth<=301+(l+4)/\((di Y l).over c []).units<=4+3*(l+4):=by
 have b:=jP c [];have d:=jQ c [];refine⟨?_, ?_, ?_⟩
 ·refine(?_:(fw [] (Y,Y)).1=Y);rfl
 ·refine(?_:301+l+gm ([].map cU)+c.weight<=_);exact mL (aW _) b (ey a l)
 ·refine(?_:4+3*l+fK ([].map cU)+c.cUnits<=_);exact pl (aW _) d (ey a l)
theorem Q.P0 {f:O}{pos:List O}{R:bZ->ac->Prop}{e:O->ac->Prop}(m:cW c []<=4)(h:cQ.a4 u (l+4) Y (.call f ⟨pos,[]⟩) C R)(k:∀g i,R g i->∃v,g= .ok (.ret v)/\e v i):Q u l Y j c (f8 f pos) e af C:=by
 obtain ⟨a,b,d⟩:=oh (Y:=Y) (l:=l) m;exact Q.any (cQ.a4.call h a b d k)
theorem Q.next {i:ae}{o id:String}{R:bZ->ac->Prop}{m:Option O->ac->Prop}(q:cW c []<=4)(r:C.TypeIs (.ref i) o)(s:Slot o "__next__" id)(h:cQ.a4 u (l+4) Y (.call (.builtin id) ⟨[.ref i],[]⟩) C R)
  (k:∀g f,R g f->(∃v,g= .ok (.ret v)/\m (H v) f)\/∃e p,g= .error (.ref e)/\I f e (hf p)/\m J f):Q u l Y j c (hY (.ref i)) m af C:=by
 obtain ⟨a,b,d⟩:=oh (Y:=Y) (l:=l) q;refine Q.any ?_;unfold hY;refine bl (wpAny_attempt (yX (name:=v3 "__next__") r s ?_));refine qH ((h.mono λg f w=> ?_).code a b d);rcases k g f w with⟨v,rfl,n⟩|⟨e,p,rfl,x,n⟩
 ·exact cG n
 ·exact bl (wpAny_isInstance (T:="StopIteration") (b:=ag) ⟨_,x,t⟩ isSubtype_stop (cG n))
noncomputable def kZ(d:List Expr)(a:bX):aI Bool:=forIn d ag λc b=>if b=ag then do let ok<-g9 c a (dR c a);pure (ForInStep.yield ok)else pure (ForInStep.yield b)
theorem Q.m_ {b:bX}{a:Bool->ac->Prop}(h:a ag C):Q u l Y j c (kZ [] b) a af C:=by
 unfold kZ;exact r List.forIn_nil (Q.pure h)
theorem Q.rG {a:bX}{e:Expr}{d:Bool->ac->Prop}(h:Q u l Y j c (g9 e a (dR e a)) d af C):Q u l Y j c (kZ [e] a) d af C:=by
 unfold kZ;simp only [List.forIn_cons,List.forIn_nil,if_true];exact Q.bind (Q.bind (h.mono (λb g f=>Q.pure (Q.pure f)) λ_ _ x=>x))
theorem H3(b c d:Expr)(e:List Expr)(f:g_)(pos:ap)(g h:O)(a:bX):
  bI (.compLoop (.ListComp b [⟨c,d,e,0⟩] f pos) 0 g h a)=(compTurn (.ListComp b [⟨c,d,e,0⟩] f pos) 0 g h a).onRaise (λx=>do iY x a;qE x):=by
 refine r (cj hA) ?_;rfl
theorem ai.comp {e b q:Expr}{g:List Expr}{s:g_}{pos:ap}{d i:O}{a:bX}(k:c= .compLoop (.ListComp e [⟨b,q,g,0⟩] s pos) 0 d i a)(I:∀v,d9 b d v=pure ())
  {aG:b0->ac->Prop}
  (h:Q u l Y j c (hY d) (λm n=>match m with
   |none=>aG (.done .next) n
   |some v=>Q u l Y j c (hZ b a v) (λ_ w=>Q u l Y j c (kZ g a) (λok o=>if ok=ag then
     Q u l Y j c (dR e a) (λx D=>Q u l Y j c (f8 (.builtin "list.append") [i,x]) (λ_ E=>aG (.again c) E) (λ_ _=>False) D) (λ_ _=>False) o
     else aG (.again c) o) (λ_ _=>False) w) (λ_ _=>False) n) (λ_ _=>False) C)
  (x:∀f K F,aG f F->ai u l Y j c K (.pure f) [] F B):ai u l Y j c A (bI c) [] C B:=by
 have L:bI c=(compTurn (.ListComp e [⟨b,q,g,0⟩] s pos) 0 d i a).onRaise (λx=>do iY x a;qE x):=by exact r k (H3 ..)
 refine r L (ai.ofFin (aG:=aG) (af:=λ_ _=>False) (Q.onRaise (Q.mono (af:=λ_ _=>False) ?_ (λ_ _ h=>h) (λ_ _ h=>h.elim))) x (λ_ _ _ h=>h.elim));rw [compTurn_list];refine Q.bind ?_;intro R A x y z;rw [sR];refine Q.bind (aG:=aG) (af:=λ_ _=>False) (h.mono (λm n G=> ?_) (λ_ _ h=>h));cases m with
 |none=>exact Q.pure G
 |some v=>
  refine Q.bind (r (I v) ?_);refine Q.pure (Q.bind (G.mono (λ_ w M=> ?_) (λ_ _ h=>h)));refine Q.bind (M.mono (λok o p=> ?_) (λ_ _ h=>h));cases ok with
  |false=>exact Q.pure (by exact r (cj k) p)
  |true=>
   rw [if_pos t]at p;exact Q.bind (Q.bind (p.mono (λx D N=>Q.bind (N.mono (λ_ E P=>Q.pure (Q.pure (by exact r (cj k) P))) (λ_ _ h=>h))) (λ_ _ h=>h)))
end
open PyProof.Rows
section
variable {g:Nat->Option ab}
noncomputable abbrev a8:O->ac->Prop:=λ_ _=>False
structure oi(dj:cZ)(b5:Nat->Option ab)(l:Nat)(c:aL)(m:O)(H4 H5:Expr)(H6:List Expr)(f:bX)(z b n:Nat)(e:Nat->ac->Prop)(N:Nat->O->Prop)(W:ae->Prop)(hI:Nat->Prop)
  (P:Nat->List O->ac->Prop)(o:ab)(g:cL->O->ab):Prop where
 nx:∀j i C,i<=n->aR b5 C->e i C->Q dj l J j c (hY m) (λaz a=>aa b5 W hI C a/\match az with|some v=>i<n/\N i v/\e (i+1) a|none=>i=n) a8 C
 nxs:∀i C a,e i C->aa b5 (λx=>x=z+101\/x=b+101) p C a->e i a
 ps:∀i d C a,P i d C->aa b5 (λx=>x=z+101\/x=b+101\/W x) hI C a->P i d a
 as:∀j i v C h,i<n->N i v->aR b5 C->I C (b+101) h->(h=o\/∃bx q,h=g bx q)->Q dj l J j c (hZ H4 f v) (λ_ a=>∃bx,aa b5 (· =b+101) p C a/\I a (b+101) (g bx v)) a8 C
 bd:∀j i v bx d C,i<n->N i v->aR b5 C->P i d C->I C (b+101) (g bx v)->Q dj l J j c (kZ H6 f) (λok k=>if ok=ag then
   Q dj l J j c (dR H5 f) (λy a=>aa b5 p p C a/\P (i+1) (d++[y]) a) a8 k else aa b5 p p C k/\P (i+1) d k) a8 C
 t':¬W (z+101)
 wn:¬W (b+101)
 ne:z≠b
 ka:b5 (z+101)=J
theorem cI.H7 {j:List (aL×ap)}{az:cI}{af e:O->ac->Prop}(f:cW c []<=4)(Y:l+4<=600)(h:az.Ok bH u)(g:∀x∈az.pre,I C x.2.1 x.2.2)(i:az.args.kw=[])
  (k:∃v,az.r C.heap.objs.size C.toks= .ok (.ret v)/\e v {C with heap:=lH (mM C.heap az.upd) (az.news C.heap.objs.size),toks:=C.toks+az.bx}):Q u l J j c (f8 (.builtin az.id) az.args.pos) e af C:=by
 obtain ⟨a,b,d⟩:=oh (Y:=J) (l:=l) f;obtain ⟨id,⟨pos,kw⟩,n,m,o,p,q⟩:=az;subst i;refine Q.any (cQ.a4.call (cI.ret (l:=l+4) h g Y) a b d ?_);refine λm r=>an ?_;rintro rfl;rintro rfl;exact k
theorem H8 {j:List (aL×ap)}{a:ae}{b:List O}{e:Nat}{y:O}(i:cW c []<=4)(Y:l+4<=600)(K:aR g C)(m:g a=J)(f:I C a (ah b e))(n:b.length<=1000){af h:O->ac->Prop}
  (k:∀v d,aa g (· =a) p C d->I d a (ah (b++[y]) (e+1))->h v d):Q u l J j c (f8 (.builtin "list.append") [.ref a,y]) h af C:=by
 refine cI.H7 (az:=to 0 a b e y) i Y (z4 (aS n (show 1000<=lv by decide+kernel))) (λx o=> ?_) t ⟨_,t, ?_⟩
 ·exact r (bQ.mp o) f
 ·exact k _ _ (aa.update K m _) (i1 (λ_=>ah (b++[y]) (e+1)) f t)
section
variable {f:O}{o r D:Expr}{s:List Expr}{F:g_}{pos:ap}{m:bX}{z a n:Nat}{j3:Nat->ac->Prop}{N:Nat->O->Prop}{W:ae->Prop}{hI:Nat->Prop}{P:Nat->List O->ac->Prop}{b:ab}{d:cL->O->ab}
theorem pV(aI:c= .compLoop (.ListComp r [⟨o,D,s,0⟩] F pos) 0 f (E z) m)(aJ:∀v,d9 o f v=pure ())(aK:c.quiet=ag)(aM:cW c []<=4)(Y:l+4<=600)(aO:n<=1000)
  (G:oi u g l c f o r s m z a n j3 N W hI P b d){j:List (aL×ap)}{cC:ac}:∀(k i:Nat) (w:List O) (C:ac) (A:ap),i+k=n->w.length<=i->j3 i C->P i w C->aa g (λx=>x=z+101\/x=a+101\/W x) hI cC C->
   (∃e,I C (z+101) (ah w e))->(∃B,I C (a+101) B/\((B=b/\i=0)\/∃M v,B=d M v))->
   ai u l J j c A (bI c) [] C (ei λal K=>al= .ok .next/\aa g (λx=>x=z+101\/x=a+101\/W x) hI cC K/\∃w e B,P n w K/\I K (z+101) (ah w e)/\I K (a+101) B/\((B=b/\n=0)\/∃M v,B=d M v)):=by
 intro k;induction k using vt with
 |ind k aP=>
  refine λi w C A am ao bs aQ aq=>aH λe aR=>aH λB=>an λaS ar=>ai.comp (aG:=λae K=>∀Q,ai u l J j c Q (.pure ae) [] K _) aI aJ ?_ (λ_ Q _ h=>h Q);refine(G.nx j i C (am▸dq i k) aq.K bs).mono ?_ (λ_ _ h=>h);refine λaU S=>an λT as=> ?_;have au:=T.fr _ _ aR G.t';have av:=T.fr _ _ aS G.wn;have ax:aa g (λx=>x=z+101\/x=a+101\/W x) hI cC S:=aq.then T (λ_ h=> .inl (.inr (.inr h))) (λ_ h=> .inl h);have ay:=G.ps i w C S aQ (T.mono (λ_ h=> .inl (.inr (.inr h))) (λ_ h=> .inl h));cases aU with
  |none=>
   have aV:i=n:=as;subst aV;intro Q;exact ai.done (.ok .next) ⟨t,ax,w,e,B,ay,au,av,ar⟩
  |some v=>
   refine aw as (aT λU az aW=> ?_);refine(G.as j i v S B U az T.K av (ar.imp_left And.left)).mono ?_ (λ_ _ h=>h);refine λ_ af=>aH λM=>an λaj aA=> ?_;have aB:z+101≠a+101:=λq=>G.ne (f7 (show z+101=a+101 from q));have aC:=aj.fr _ _ au aB;have aD:aa g (λx=>x=z+101\/x=a+101\/W x) hI S af:=aj.mono (λ_ h=> .inl (.inr (.inl h))) aF;have aX:=ax.trans aD;have aY:=G.ps i w S af ay aD;have aZ:=G.nxs _ _ _ aW (aj.mono (λ_ h=> .inl (.inr h)) (λ_ h=> .inl h));have ae:∀{X:ac} {Z:List O},aa g p p af X->P (i+1) Z X->Z.length<=i+1->∀{R},aa g (· =z+101) p X R->(∃e,I R (z+101) (ah Z e))->∀Q,ai u l J j c Q (.pure (.again c)) [] R (ei λal K=>al= .ok .next/\aa g (λx=>x=z+101\/x=a+101\/W x) hI cC K/\∃w e B,P n w K/\I K (z+101) (ah w e)/\I K (a+101) B/\((B=b/\n=0)\/∃M v,B=d M v)):=by
    intro X Z L P3 a0 R ab a1 Q;refine ai.again _ aK ?_;have a2:=G.nxs _ _ _ (G.nxs _ _ _ aZ (L.mono aF (λ_ h=> .inl h))) (ab.mono (λ_ h=> .inl (.inl h)) (λ_ h=> .inl h));have aE:aa g (λx=>x=z+101\/x=a+101\/W x) hI X R:=ab.mono (λ_ h=> .inl (.inl h)) aF;refine aP (k-1) (ta am U).1 (i+1) Z R Q (ta am U).2 a0 a2 (G.ps _ _ _ _ P3 aE) ((aX.then L aF aF).trans aE) a1 ⟨_,ab.fr _ _ (L.fr _ _ aA (λh=>h)) (λq=>aB (show a+101=z+101 from q).symm),.inr (bh M v t)⟩
   refine(G.bd j i v M w af U az aj.K aY aA).mono ?_ (λ_ _ h=>h);rintro ok a4 ak;cases ok with
   |false=>
    rw [if_neg (by simp)]at ak;rw [if_neg (by simp)];obtain ⟨L,P3⟩:=ak;exact ae L P3 (V 0 0 0 1 t ao) (.refl L.K) ⟨e,L.fr _ _ aC (λh=>h)⟩
   |true=>
    rw [if_pos t]at ak;rw [if_pos t];refine ak.mono ?_ (λ_ _ h=>h);exact λy a5=>an λL P3=>H8 aM Y L.K G.ka (L.fr _ _ aC (λh=>h)) (cy 0 0 1 0 0 1000 0 1000 t ao U aO) λ_ a6 ab a3=>ae L P3 (by rw [e9,yN];exact V 0 0 1 1 t ao) ab ⟨_,a3⟩
end
end
end
open BF xf xg
section
open PySem PySem.W PySem.Calls PySem.SeqAt PySem.MeetsSeq PySem.MeetsSeq2 PySem.MeetsSeq3 PySem.SeqRoads2
open PySem.AutoSeq1 (wpAny_loadPart')
noncomputable def m'(e d:Nat->Bool)(z:Bool):Nat->Nat->Bool
 |0,_=>z
 |k+1,i=>if e i=ag then m' e d z k (i+1)else d i
theorem BP {a:Array O}{i:Nat}(h:a.size-i=0):a[((i:Nat):Int).toNat]? =none:=Array.getElem?_eq_none (yJ h)
theorem ua {a:Array O}{i:Nat}(h:i<a.size):a[((i:Nat):Int).toNat]? =H a[i]:=zj h
section
variable {A:Nat->Prop}
@[elab_as_elim] theorem l5 {k:Nat}(h:k<5)(a:A 0)(b:A 1)(c:A 2)(d:A 3)(e:A 4):A k:=match k,h with
 |0,_=>a
 |1,_=>b
 |k+2,h=>wh (A:=λk=>A (k+2)) (sv (sv h)) c d e
end
noncomputable def BQ:=0 where
 ub:Nat->h0
  |0=> .Lt
  |1=> .LtE
  |2=> .NotEq
  |3=> .Gt
  |_=> .GtE
 H9:Nat->String
  |0=>"__lt__"
  |1=>"__le__"
  |2=>"__ne__"
  |3=>"__gt__"
  |_=>"__ge__"
 xp(k:Nat):Nat:=if k<2 then k else k+1
 pW:Nat->Bool
  |1=>ag
  |4=>ag
  |_=>aN
open BQ
noncomputable def BR {b c a:Type}(_:b->c->a)(_:a):Type:=Unit
noncomputable def H_ {c d e:Type}(f:c->d->e)(a:c)(b:d):BR f (f a b):=()
noncomputable def H' {b c a:Type}{f:b->c->a}{m:a}(_:BR f m):b->c->a:=f
noncomputable def Ia:String->h0->Builtin:=H' (m:=iX.«list.__lt__») (by delta iX.«list.__lt__»;exact H_ _ _ _)
section
variable {a:iW}{aV:ef}{af:O->ac->Prop}{ar:ae}
theorem k0 {b:Array O->ac->Prop}{c:Array O}{n:Nat}(e:C.heap.get? ar=H {cls:= .type "list",data:= .seq c n})(h:b c C):bD (b1 a u) aV (sW (.ref ar)) b af C:=by
 obtain ⟨f,g,d,i,os⟩:=C
 wp_walk using sP e
 exact h
theorem Ib {b:Bool->ac->Prop}{c:ab}(e:I C ar c)(f:c.cls= .type "list")(h:b ag C):bD (b1 a u) aV (isInstance (.ref ar) (.type "list")) b af C:=by
 obtain ⟨g,i,d,j,os⟩:=C;have k:=AutoSeq1.sub_list_list
 wp_walk using sP e
 refine r f ?_
 wp_walk
 exact h
end
structure xq(k:Nat)(ar b:ae)(a c:Array O)(n h:Nat)(e d:Nat->Bool)(f:ef)(C:ac):Prop where
 j4:C.heap.get? ar=H {cls:= .type "list",data:= .seq a n}
 cv:C.heap.get? b=H {cls:= .type "list",data:= .seq c h}
 he:∀bi (i:bi<a.size) (j:bi<c.size),jJ f C a[bi] c[bi] (e bi)
 hd:∀bi (i:bi<a.size) (j:bi<c.size),e bi=aN->(k=2->d bi=ag)/\(k≠2->∀(l:iW) (dj:cZ) (af:O->ac->Prop) (g:O->ac->Prop),g (.bool (d bi)) C->bD (b1 l dj) f (o5 (ub k) a[bi] c[bi]) g af C)
section
variable {k:Nat}(a:k<5){ar b:ae}{oj k1:Array O}{n bk:Nat}(m:oj.size=k1.size){e d:Nat->Bool}
include a m
omit a m in
theorem ol {R:bZ->ac->Prop}{C:ac}{x y:Bool}(e:x=y)(h:R (.ok (.ret (.bool y))) C):R (.ok (.ret (.bool x))) C:=e▸h
theorem Ic(f:Nat):
  ∀i:Nat,oj.size-i=f->Meets (iX.«list.__eq__.loop» ⟨[.ref ar,.ref b,d2 i,d2 (xp k)],[]⟩)
   (λo R C=>xq k ar b oj k1 n bk e d o.in1 C/\R (.ok (.ret (.bool (m' e d (pW k) f i)))) C):=by
 have s:∀ar:List h0,ar=[.Lt,.LtE,.Eq,.NotEq,.Gt,.GtE]->ar[((xp k:Nat):Int).toNat]? =H (ub k):=λar h=>h▸l5 a t t t t t;induction f with
 |zero=>
  intro i j g u o R C ⟨c,h⟩;unfold iX.«list.__eq__.loop»;dsimp only [d2];rewrite [s]
  ·dsimp only;refine bl (k0 c.j4 (bl (k0 c.cv ?_)));rewrite [BP j,BP (m▸j)];refine bl (k0 c.j4 (bl (k0 c.cv (cG ?_))));have h:R (.ok (.ret (.bool (pW k)))) C:=h;rewrite [m];revert h;exact l5 a (ol (decide_eq_false (eK k1.size))) (ol (decide_eq_true (aW k1.size))) (ol (bne_self_eq_false k1.size)) (ol (decide_eq_false (eK k1.size))) (ol (decide_eq_true (aW k1.size)))
  ·rfl
 |succ f v=>
  intro i j g u o R C ⟨c,h⟩;have l:i<oj.size:=Nat.lt_of_sub_pos (j▸Nat.succ_pos f);have p:i<k1.size:=m▸l;unfold iX.«list.__eq__.loop»;dsimp only [d2];rewrite [s]
  ·dsimp only;refine bl (k0 c.j4 (bl (k0 c.cv ?_)));rewrite [ua l,ua p];refine bl (c.he i l p g u _ _ ?_);unfold m' at h;cases q:e i with
   |true=>
    rw [if_pos q]at h;exact cG ⟨vP plain_eq_loop _,qF entry_eq_loop (by
     exact r (sY plain_eq_loop _) (v (i+1) (congrArg Nat.pred j) g u o R _ ⟨c,h⟩))⟩
   |false=>
    rw [if_neg (q▸jE)]at h;have Y:=c.hd i l p q;refine bl (k0 c.j4 (bl (k0 c.cv ?_)));rewrite [ua l,ua p];revert Y;exact l5 a (λY=>bl (Y.2 (by decide) g u _ _ (cG h))) (λY=>bl (Y.2 (by decide) g u _ _ (cG h))) (λY=>cG (Y.1 t▸h)) (λY=>bl (Y.2 (by decide) g u _ _ (cG h))) (λY=>bl (Y.2 (by decide) g u _ _ (cG h)))
  ·rfl
theorem BS:Meets (Ia (H9 k) (ub k) ⟨[.ref ar,.ref b],[]⟩) (λg R C=>xq k ar b oj k1 n bk e d g.in1 C/\R (.ok (.ret (.bool (m' e d (pW k) oj.size 0)))) C):=by
 intro l u g R C ⟨i,h⟩;have c:∀(o:Nat),o=xp k->bD (b1 l u) g.in1 (again (.builtin "list.__eq__.loop" ⟨[.ref ar,.ref b,d2 0,d2 o],[]⟩)) (λq j=>
   match q with
   |Fin.done f=>R (qS f) j
   |Fin.again p=>p.quiet=ag/\mz (b1 l u) g p R j)
  (λe j=>R (Except.error e) j) C:=λo s=>cG ⟨vP plain_eq_loop _,qF entry_eq_loop (by
  refine r (sY plain_eq_loop _) (r s ?_);exact Ic a m _ 0 t l u g R _ ⟨i,h⟩)⟩
 refine bl (cG ?_);refine bl (Ib i.cv t ?_);revert c;exact l5 a (λc=>c 0 t) (λc=>c 1 t) (λc=>bl (k0 i.j4 (bl (k0 i.cv (by rewrite [m,bne_self_eq_false];exact c 3 t))))) (λc=>c 4 t) (λc=>c 5 t)
end
end
open BQ
section
open PySem PySem.W PySem.Calls PySem.SeqAt PySem.MeetsSeq PySem.MeetsSeq2 PySem.MeetsSeq3 PySem.SeqRoads2
open PyProof.Rows (b2i)
noncomputable def dg:List Bool->Nat
 | []=>0
 |b::a=>(if b=ag then 2^a.length else 0)+dg a
theorem rH:∀a:List Bool,dg a<2^a.length
 | []=>nF
 |b::a=>by
  have:=rH a;unfold dg;rw [jC,Nat.pow_succ,Nat.mul_two];cases b
  ·exact bP ((ip _).symm▸this) (dq _ _)
  ·exact lq this _
theorem uc(x:Int):∀a:List Nat,dg (a.map (b' x))=cl a x
 | []=>rfl
 |d::a=>by
  simp only [sD,dg,cl,bM,uc x a]
noncomputable def k2(z:Bool)(d:Bool->Bool->Bool)(a b:Nat):Bool:=if a<b then d aN ag else if b<a then d ag aN else z
noncomputable def q(a:List Bool)(b:Nat):Bool:=a.getD b aN
theorem Ie(z:Bool)(d:Bool->Bool->Bool)(A q:Bool){a b e:Nat}(g:a<e)(h:b<e):(if(A==q)=ag then k2 z d a b else d A q)=k2 z d ((if A=ag then e else 0)+a) ((if q=ag then e else 0)+b):=by
 have f:0+b<e+a:=bP ((ip _).symm▸h) (dq _ _);cases A<;>cases q
 ·exact(congr (congrArg (k2 z d) (ip a)) (ip b)).symm
 ·exact(if_pos (c:=0+a<e+b) (bP ((ip _).symm▸g) (dq _ _))).symm
 ·exact((if_neg (c:=e+a<0+b) (lp f)).trans (if_pos (c:=0+b<e+a) f)).symm
 ·refine(?_:k2 z d a b=k2 z d (e+a) (e+b));unfold k2;exact ite_congr (propext yK.symm) (λ_=>t) λ_=>ite_congr (propext yK.symm) (λ_=>t) λ_=>t
theorem BU(z:Bool)(d:Bool->Bool->Bool){a b:List Bool}(e:a.length=b.length):∀k i,i+k=a.length->
  m' (λc=>q a c==q b c) (λc=>d (q a c) (q b c)) z k i=k2 z d (dg (a.drop i)) (dg (b.drop i))
 |0,i,h=>by
  have m:a.drop i=[]:=vC ((ao h));have n:b.drop i=[]:=vC (aD 0 0 0 0 0 0 t (ao e) (ao h));rw [m,n];rfl
 |k+1,i,h=>by
  have f:i<a.length:=h▸Nat.lt_add_of_pos_right (Nat.succ_pos k);have g:i<b.length:=aD 1 0 0 0 1 0 t f (aB e);have o:a.drop i=q a i::a.drop (i+1):=by rw [sE f];simp [q,fv,f]
  have p:b.drop i=q b i::b.drop (i+1):=by rw [sE g];simp [q,fv,g]
  have r:=rH (a.drop (i+1));have j:=rH (b.drop (i+1));have l:(a.drop (i+1)).length=(b.drop (i+1)).length:=by simp [e]
  rw [o,p];unfold m';rw [BU z d e k (i+1) ((nE i k).trans h)];rw [<-l]at j;refine(?_:_=k2 z d ((if q a i=ag then 2^(a.drop (i+1)).length else 0)+dg (a.drop (i+1))) ((if q b i=ag then 2^(b.drop (i+1)).length else 0)+dg (b.drop (i+1))));rw [show(2:Nat)^(b.drop (i+1)).length=2^(a.drop (i+1)).length from by rw [l]];exact Ie z d _ _ r j
noncomputable def rI(k:Nat)(A q:Bool):Bool:=match k with
 |0=>decide (b2i A<b2i q)
 |1=>decide (b2i A<=b2i q)
 |2=>ag
 |3=>decide (b2i A>b2i q)
 |_=>decide (b2i A>=b2i q)
noncomputable def BV(k a b:Nat):Bool:=match k with
 |0=>decide (a<b)
 |1=>decide (a<=b)
 |2=>decide (a≠b)
 |3=>decide (a>b)
 |_=>decide (a>=b)
theorem Ig {k:Nat}(c:k<5)(a b:Nat):k2 (pW k) (rI k) a b=BV k a b:=by
 unfold k2;rcases sy a b with h|h|h
 ·rw [if_pos h];exact l5 c (decide_eq_true h).symm (decide_eq_true (eW h)).symm (decide_eq_true (a7 h)).symm (decide_eq_false (lp h)).symm (decide_eq_false (gG h)).symm
 ·subst h;rw [if_neg (eK a),if_neg (eK a)];exact l5 c (decide_eq_false (eK a)).symm (decide_eq_true (aW a)).symm (decide_eq_false λh=>h t).symm (decide_eq_false (eK a)).symm (decide_eq_true (aW a)).symm
 ·rw [if_neg (lp h),if_pos h];exact l5 c (decide_eq_false (lp h)).symm (decide_eq_false (gG h)).symm (decide_eq_true (aX h)).symm (decide_eq_true h).symm (decide_eq_true (eW h)).symm
theorem xr:∀{c d:List Bool},c.length=d.length->dg c=dg d->c=d
 | [],[],_,_=>rfl
 |a::f,b::g,j,h=>by
  have e:f.length=g.length:=sS j;have i:=rH f;have k:=rH g;unfold dg at h;rw [e]at h i;cases a<;>cases b
  ·exact congrArg _ (xr e (nD h))
  ·exact absurd ((ip _).symm.trans h) (a7 (bP i (dq _ _)))
  ·exact absurd ((ip _).symm.trans h.symm) (a7 (bP k (dq _ _)))
  ·exact congrArg _ (xr e (nD h))
noncomputable def dx(a:List Bool)(e:Nat):Obj:=ah (a.map dS) e
theorem ud {a:List Bool}{b:Nat}(h:b<(⟨a.map dS⟩:Array O).size):(⟨a.map dS⟩:Array O)[b]=dS (q a b):=by
 have c:b<a.length:=by simpa using h
 simp [q,fv,c]
section
variable {p:iW}{aV:ef}{af aG:O->ac->Prop}{a b:ae}{aA bS:List Bool}{n bk:Nat}
theorem xt {b:ef}(a:Nat)(c:a<(⟨aA.map dS⟩:Array O).size)(d:a<(⟨bS.map dS⟩:Array O).size):jJ b C (⟨aA.map dS⟩:Array O)[a] (⟨bS.map dS⟩:Array O)[a] (q aA a==q bS a):=by
 rw [ud c,ud d];exact jJ.bool_bool _ _
variable(f:I C a (dx aA n))(i:I C b (dx bS bk))(o:aA.length=bS.length)(m:aV.units<mw)
include f i o m
omit f i m in
theorem BW:((c8 (⟨aA.map dS⟩:Array O).size).all λa=>q aA a==q bS a)=decide (dg aA=dg bS):=by
 rw [nK,sB,decide_eq_true_eq];constructor
 ·intro h;have:aA=bS:=sF o λa b c=>by
   have:=h a (by simpa using b);simpa [q,fv,b,c]using this
  rw [this]
 ·intro h a _;rw [xr o h];exact beq_self_eq_true _
theorem Ih(h:aG (.bool (decide (dg aA=dg bS))) C):bD (b1 p u) aV (o5 .Eq (.ref a) (.ref b)) aG af C:=by
 refine RcAt.lists (items:=⟨aA.map dS⟩) (items2:=⟨bS.map dS⟩) (e:=λc=>q aA c==q bS c) ⟨_,f,t,_,t⟩ ⟨_,i,t,_,t⟩ ((bM _).trans (o.trans (bM _).symm)) m (λc d g=>xt c d g) p u af aG ?_;rw [BW o];exact h
theorem pX {k:Nat}(l:k<5)(h:aG (.bool (BV k (dg aA) (dg bS))) C):bD (b1 p u) aV (o5 (ub k) (.ref a) (.ref b)) aG af C:=by
 have w:(⟨aA.map dS⟩:Array O).size=(⟨bS.map dS⟩:Array O).size:=(bM _).trans (o.trans (bM _).symm);have g:∀{v:ef},xq k a b ⟨aA.map dS⟩ ⟨bS.map dS⟩ n bk (λc=>q aA c==q bS c) (λc=>rI k (q aA c) (q bS c)) v C:=λ{v}=>⟨f,i,λc r s=>xt c r s,λc r s _=>⟨λh=>by subst h;rfl,λz p u af aG=>by
  rw [ud r,ud s];revert z;exact l5 l (λ_ h=>PyProof.Rows.lt_bool h) (λ_ h=>PyProof.Rows.le_bool h) (λh=>absurd t h) (λ_ h=>PyProof.Rows.gt_bool h) (λ_ h=>PyProof.Rows.ge_bool h)⟩⟩
 have j:=BS l w (ar:=a) (b:=b) (n:=n) (bk:=bk) (e:=λc=>q aA c==q bS c) (d:=λc=>rI k (q aA c) (q bS c));have e:=BU (pW k) (rI k) o aA.length 0 (ip _);rw [List.drop_zero,List.drop_zero,Ig l]at e;have A:∀x,x=aA.length->∀y,y=m' (λc=>q aA c==q bS c) (λc=>rI k (q aA c) (q bS c)) (pW k) x 0->dS y≠ .notImplemented/\aG (.bool y) C:=λx B y D=>⟨(λx=>nomatch x),by rw [D,B,e];exact h⟩;have h:=A (⟨aA.map dS⟩:Array O).size (bM _) _ t;revert j h g;exact l5 l (λg j h=>nL (op:= .Lt) ⟨_,f,t⟩ ⟨_,i,t⟩ F.slot_list_lt F.entry_list_lt (F.args_list_lt_2 _ _) j ⟨g,h⟩ m)
  (λg j h=>nL (op:= .LtE) ⟨_,f,t⟩ ⟨_,i,t⟩ F.slot_list_le F.entry_list_le (F.args_list_le_2 _ _) j ⟨g,h⟩ m)
  (λg j h=>nL (op:= .NotEq) ⟨_,f,t⟩ ⟨_,i,t⟩ F.slot_list_ne F.entry_list_ne (F.args_list_ne_2 _ _) j ⟨g,h⟩ m)
  (λg j h=>nL (op:= .Gt) ⟨_,f,t⟩ ⟨_,i,t⟩ F.slot_list_gt F.entry_list_gt (F.args_list_gt_2 _ _) j ⟨g,h⟩ m)
  (λg j h=>nL (op:= .GtE) ⟨_,f,t⟩ ⟨_,i,t⟩ F.slot_list_ge F.entry_list_ge (F.args_list_ge_2 _ _) j ⟨g,h⟩ m)
end
end
section
open PySem PySem.W PySem.Calls PySem.SeqAt PySem.MeetsSeq PySem.MeetsSeq2 PySem.MeetsSeq3 PySem.SeqRoads2
open PySem.AutoSeq1 (wpAny_loadPart')
noncomputable abbrev ue(a:List O)(n:Nat:=0):Obj:={cls:= .type "tuple",data:= .seq ⟨a⟩ n}
section
variable {a:iW}{aV:ef}{af:O->ac->Prop}{ar:ae}
theorem Ii {b:Bool->ac->Prop}{c:ab}(e:I C ar c)(f:c.cls= .type "tuple")(h:b ag C):bD (b1 a u) aV (isInstance (.ref ar) (.type "tuple")) b af C:=by
 obtain ⟨g,i,d,j,os⟩:=C;have k:=AutoSeq1.sub_tuple_tuple
 wp_walk using sP e
 refine r f ?_
 wp_walk
 exact h
theorem BX {b:Array O->ac->Prop}{c:Array O}{n:Nat}(e:C.heap.get? ar=H {cls:= .type "tuple",data:= .seq c n})(h:b c C):bD (b1 a u) aV (iX.Tuple.tupleItemsOf (.ref ar)) b af C:=by
 obtain ⟨f,g,d,i,os⟩:=C
 wp_walk using sP e
 exact h
end
theorem Ij(g b:ae)(A q:O)(i a:Int)(M e:cL)(n m:Nat)(k c:Bool):
  Meets (iX.«tuple.__lt__» ⟨[.ref g,.ref b],[]⟩)
   (λf R C=>C.heap.get? g=H {cls:= .type "tuple",dict:=J,data:= .seq ⟨[A,.int i M]⟩ n,slots:=#[]}/\C.heap.get? b=H {cls:= .type "tuple",dict:=J,data:= .seq ⟨[q,.int a e]⟩ m,slots:=#[]}/\jJ f.in1 C A q k/\
    (k=aN->∀(d:iW) (u:cZ) (af:O->ac->Prop) (j:O->ac->Prop),j (.bool c) C->bD (b1 d u) f.in1 (o5 .Lt A q) j af C)/\
    R (.ok (.ret (.bool (if k=ag then decide (i<a)else c)))) C):=
 λd u f R C ⟨o,l,p,Y,h⟩=>by
  refine bl (cG (bl (Ii l t (bl (BX o (bl (BX l (bl (bl (bl (p d u _ _ ?_)))))))))));cases k with
  |false=>
   refine bl (qB (bl (Y t d u _ _ ?_)));exact bl (cG (cG (cG (cG h))))
  |true=>
   refine cG (bl (bl (v4 i M a e d u _ _ ?_)));cases s:(i==a)with
   |true=>
    refine cG (cG (cG ?_));exact ol (R:=R) (decide_eq_false (by exact r (eq_of_beq s) (Int.lt_irrefl a)):decide (i<a)=aN).symm h
   |false=>
    refine bl (qB (bl (richCompare_gives (qD _ i M) (qD _ a e) slot_int_lt entry_int_lt (args_int_lt _ _) (gives_int_lt i a M e) (λx=>nomatch x) ?_)));exact bl (cG (cG (cG (cG h))))
section
variable {aV:ef}{af aG:O->ac->Prop}{ar b a d:ae}{aA bS:List Bool}{n bk m o:Nat}{i bi:Int}{M f:cL}
theorem Ik(s:I C ar (ue [.ref a,.int i M] n))(v:I C b (ue [.ref d,.int bi f] bk))(g:I C a (dx aA m))(c:I C d (dx bS o))(j:aA.length=bS.length)(l:aV.units+2<mw)
  (h:aG (.bool (decide (dg aA<dg bS\/(dg aA=dg bS/\i<bi)))) C):bD (b1 bH u) aV (hz .Lt (.ref ar) (.ref b)) aG af C:=by
 refine(?_:bD (b1 bH u) aV (o5 .Lt (.ref ar) (.ref b)) aG af C);refine nL (op:= .Lt) ⟨_,s,t⟩ ⟨_,v,t⟩ F.slot_tuple_lt F.entry_tuple_lt (F.args_tuple_lt_2 _ _) (Ij ar b (.ref a) (.ref d) i bi M f n bk (decide (dg aA=dg bS)) (decide (dg aA<dg bS)))
  ⟨s,v, ?_,λ_ w u af aG p=> ?_, ?_⟩ (V 3 0 1 0 t l)
 ·by_cases e:a=d
  ·subst e;unfold I at c;rw [g]at c;have:aA=bS:=by
    injection c with c;have:=congrArg ab.data c;simp only [dx,ah,Data.seq.injEq,Array.mk.injEq]at this;exact(List.map_inj_right (λx y h=>by injection h)).mp this.1
   subst this;rw [decide_eq_true t];exact jJ.same _
  ·refine jJ.of_refs e λw u af aG p=>RcAt.lists (items:=⟨aA.map dS⟩) (items2:=⟨bS.map dS⟩) (e:=λbi=>q aA bi==q bS bi) ⟨_,g,t,_,t⟩ ⟨_,c,t,_,t⟩ (by simp [j]) (by refine(?_:aV.units+1<_);exact V 3 0 2 0 t l) (λbi z A=>xt bi z A) w u af aG ?_;exact r (BW j) p
 ·exact pX g c j (by refine(?_:aV.units+1<_);exact V 3 0 2 0 t l) (k:=0) (by decide) p
 ·refine⟨(λx=>nomatch x), ?_⟩;have:(if decide (dg aA=dg bS)=ag then decide (i<bi)else decide (dg aA<dg bS))=decide (dg aA<dg bS\/(dg aA=dg bS/\i<bi)):=by
   by_cases e:dg aA=dg bS<;>simp [e]
  exact r this h
end
end
section
open PySem PySem.W PySem.Calls
variable(g:Nat->Option ab)(P:a1)
noncomputable def dn(x left:Int):Obj:={cls:= .type "range_iterator",data:= .fields ⟨[.int x 0,.int left 0,.int 1 0]⟩}
noncomputable def k3(k:Int)(a b c:cL):Obj:={cls:= .type "range",data:= .fields ⟨[.int 0 a,.int k b,.int 1 c]⟩}
section
variable(T i k n o L:Nat)(j:List (aL×ap))(A:ap)
noncomputable def Il:G:=c_ g P 500 n o L j [(T+101,dn (bq i) (bq (k+1)))] [0] [] 10 [1,1,1,1,1,1,1,1] (.call (.builtin "range_iterator.__next__") ⟨[E T],[]⟩) A
noncomputable def Im:G:=c_ g P 500 n o L j [(T+101,dn (bq i) (bq 0))] [0] [] 9 [1,1,1,1] (.call (.builtin "range_iterator.__next__") ⟨[E T],[]⟩) A
end
noncomputable def Io(g:Nat->Option ab)(P:a1):List Prop:=[
 ∀a i k n b c j A,ok [0] (Il g P a i k n b c j A) (.ret (aj i b)) 0 [H (a+101,dn (bq i+1) (bq (k+1)-1))] 0 1 [],
 ∀a i (k:Nat) n b c j A,ok [2] (Im g P a i n b c j A) (.err (.ref (n+102))) 0 [H (n+102,hf (n+101))] 2 0 []]
noncomputable def hi(g:Nat->Option ab)(P:a1):Prop:=AllP (Io g P)
variable(g:Nat->Option ab)(P:a1)
structure fq where
 elt:Expr
 target:Expr
 iter:Expr
 ifs:List Expr
 scope:g_
 pos:ap
noncomputable def hj:Expr->fq
 | .ListComp e a b A=>⟨e,(a.headD default).target,(a.headD default).iter,(a.headD default).ifs,b,A⟩
 |_=>⟨default,default,default,[],⟨.function,[],aN,aN,[]⟩,default⟩
noncomputable def fq.e(a:fq):Expr:= .ListComp a.elt [⟨a.target,a.iter,a.ifs,0⟩] a.scope a.pos
noncomputable def BY:=0 where
 uf:List cb×Scope:=fnOf (jd 13)
 gg:fq:=hj (d_ (uf.1.drop 1) 0)
 ft:fq:=hj (dm gg.elt 1)
 hM:fq:=hj (d_ (uf.1.drop 2) 0)
 aJ(a:List gp):Obj:={cls:= .type "dict",data:= .dict ⟨a⟩ a.length}
 dD:Obj:={cls:= .type "cell",data:= .cell J}
 jq(n a:Nat):Env:={scope:={kind:= .function,names:=[(⟨⟨[46,48]⟩⟩,.local),(⟨⟨[106]⟩⟩,.cell),(⟨⟨[108,101,110]⟩⟩,.globalImplicit),(⟨⟨ph⟩⟩,.cell),(⟨⟨[112,108,97,99,101,115]⟩⟩,.cell)],isGenerator:=aN,isCoroutine:=aN,more:=[]},locals:=(a+102),globals:=3,cells:=[(⟨⟨[106]⟩⟩,(a+103)),(⟨⟨[112,108,97,99,101,115]⟩⟩,(n+103)),(⟨⟨ph⟩⟩,(n+102))],qual:=⟨⟨wc⟩⟩,func:=J,code:=(.ref 93),frame:=(H (n+101)),builtins:=0}
 k4(n a:Nat):Env:={scope:={kind:= .function,names:=[(⟨⟨[46,48]⟩⟩,.local),(⟨⟨kD⟩⟩,.local),(⟨⟨[97,104,101,97,100]⟩⟩,.cell)],isGenerator:=aN,isCoroutine:=aN,more:=[]},locals:=(a+102),globals:=3,cells:=[(⟨⟨[97,104,101,97,100]⟩⟩,(n+104))],qual:=⟨⟨wc⟩⟩,func:=J,code:=(.ref 93),frame:=(H (n+101)),builtins:=0}
 ie(n a b:Nat):Env:={scope:={kind:= .function,names:=[(⟨⟨[46,48]⟩⟩,.local),(⟨⟨[105]⟩⟩,.local),(⟨⟨ph⟩⟩,.cell),(⟨⟨[106]⟩⟩,.cell)],isGenerator:=aN,isCoroutine:=aN,more:=[]},locals:=(b+102),globals:=3,cells:=[(⟨⟨[106]⟩⟩,(a+103)),(⟨⟨ph⟩⟩,(n+102))],qual:=⟨⟨wc⟩⟩,func:=J,code:=(.ref 93),frame:=(H (n+101)),builtins:=0}
open BY
section
variable(n b s o av L e:Nat)(j:List (aL×ap))(a:Nat)(A:ap)(d T q bi k:Nat)(aA:List O)(i bk p hk f r m R t y z bx:Nat)(S:ap)(x a3 V W X:Nat)(Z:ap)(aa cH:Nat)(u:O)(ab ac D ae af:Nat)(ai:ap)(F ak:Nat)(I:ap)(K:Nat)(al:ap)(N am:Nat)(Q:ap)(an ao:Nat)(v:O)(aq ar as:Nat)(au:ap)
noncomputable def xu:=0 where
 ug:G:=c_ g P 200 n o L j [(b+101,ah aA e)] [] [] 21 [0,0,3,3,3,0,0,0,0,3] (.call (.ref 94) ⟨[E b],[]⟩) A
 uh:G:=bJ g P 200 bk f R j [(n+103,dD)] [0] [] 32 [2,2,2,2,1,1,1,2,2,1] ug S (.ok (.ret (aj k bx)))
 ui:G:=bJ g P 200 av V X j [(T+101,dn (bq 0) (bq k))] [] [] 4 [1] uh Z (.ok (.ret (E T)))
 Ip:G:=h g P 240 s o L j [(av+103,dD)] [0] [] 5 [1,1] (.compLoop gg.e 0 (E T) (E av) (jq n av)) A (cf (cm gg.target (jq n av) (aj bi p)))
 Iq:G:=h g P 240 s o L j [(av+103,a' u)] [0] [] 5 [1,1] (.compLoop gg.e 0 (E T) (E av) (jq n av)) A (cf (cm gg.target (jq n av) (aj bi p)))
 uj:G:=h g P 240 s o L j [(n+103,a' (E q)),(q+101,k3 (bq k) r t z)] [] [] 9 [0,0,1,2,2,1] (.compLoop gg.e 0 (E T) (E av) (jq n av)) A (bN (bT gg.elt (jq n av)))
 uk:G:=bJ g P 240 a cH D j [(q+101,k3 (bq k) r t z),(d+101,dn (bq 0) (bq k))] [] [] 3 [2] uj I (.ok (.ret (E d)))
 Ir:G:=h g P 280 s o L j [(a+102,aJ [])] [0] [] 7 [0,1,1] (.compLoop ft.e 0 (E d) (E a) (ie n av a)) A (cf (cm ft.target (ie n av a) (aj i hk)))
 It:G:=h g P 280 s o L j [(a+102,aJ [U P [105] bx u])] [0] [] 7 [0,1,1] (.compLoop ft.e 0 (E d) (E a) (ie n av a)) A (cf (cm ft.target (ie n av a) (aj i hk)))
 Iu:G:=h g P 280 s o L j [(a+102,aJ [U P [105] bx (aj i hk)]),(n+102,a' (E b)),(b+101,ah aA e)] [] [e0 2 (b+101) aA e i hk (E x)] 13 [2,1,3,3,3,1,1] (.compLoop ft.e 0 (E d) (E a) (ie n av a)) A (bN (bT (d5 (ft.ifs.headD default)).1 (ie n av a)))
 Iv:G:=h g P 280 s o L j [(av+103,a' (aj bi p)),(n+102,a' (E b)),(b+101,ah aA e)] [] [e0 2 (b+101) aA e bi p (E x)] 13 [2,1,3,3,3,1,1] (.compLoop ft.e 0 (E d) (E a) (ie n av a)) A (bN (bT (d5 (ft.ifs.headD default)).2 (ie n av a)))
 Iw:G:=h g P 280 s o L j [(a+102,aJ [U P [105] bx (aj i hk)])] [] [] 2 [1] (.compLoop ft.e 0 (E d) (E a) (ie n av a)) A (bN (bT ft.elt (ie n av a)))
 ul:G:=bJ g P 240 aa ab ae j [(a+102,aJ [U P [105] bx u])] [0] [] 6 [1,1,1] uk ai (.ok .next)
 Ix:G:=bJ g P 240 F K N j [] [] [] 1 [] ul Q (.ok (.ret (aj am an)))
 um:G:=bJ g P 200 ac af ak j [(av+103,a' u),(n+104,dD),(n+103,a' (E bk)),(bk+101,k3 (bq k) f bx (f+1))] [0,1] [] 13 [2,2,3,4,4,1] ui al (.ok .next)
 un:G:=bJ g P 200 a cH D j [(bk+101,k3 (bq k) f bx (f+1)),(m+101,dn (bq 0) (bq k))] [] [] 3 [2] um I (.ok (.ret (E m)))
 Iy:G:=bJ g P 200 aq ar as j [(a+102,aJ [U P kD ao v])] [0] [] 5 [1,1,1] un au (.ok .next)
 Iz:G:=h g P 240 s o L j [(a+102,aJ [])] [0] [] 7 [0,1,1] (.compLoop hM.e 0 (E m) (E a) (k4 n a)) A (cf (cm hM.target (k4 n a) (aj i hk)))
 IA:G:=h g P 240 s o L j [(a+102,aJ [U P kD bx u])] [0] [] 7 [0,1,1] (.compLoop hM.e 0 (E m) (E a) (k4 n a)) A (cf (cm hM.target (k4 n a) (aj i hk)))
 uo:G:=h g P 240 s o L j [(a+102,aJ [U P kD bx (aj i hk)]),(n+104,a' (E y)),(y+101,ah aA e)] [] [] 11 [2,3,3,3,3,1] (.compLoop hM.e 0 (E m) (E a) (k4 n a)) A (bN (bT hM.elt (k4 n a)))
 IB:G:=bJ g P 240 F K N j [] [] [] 1 [] uo Q (.ok (.ret (aj a3 W)))
open xu
end
open xu
noncomputable def IC(g:Nat->Option ab)(P:a1):List Prop:=[
 gg.e=d_ (uf.1.drop 1) 0,
 ft.e=dm gg.elt 1,
 hM.e=d_ (uf.1.drop 2) 0,
 ∀p e n a b o j A,b3 [2,3,4] (ug g P n p a b e j A o) J J 8 (.call (.call (.builtin "len") ⟨[E p],[]⟩) J) 0 [H (n+102,a' (E p)),H (n+103,dD),H (n+104,dD)] 4 0 [] J,
 ∀p e n a b o j A k r t w h y,b3 [0,1] (uh g P n p a b e j A k o r t w h y) J J 8 (.call (.call (.builtin "range.__iter__") ⟨[E r],[]⟩) J) 0 [H (n+103,a' (E r)),H (r+101,k3 (bq k) t h (t+1))] 1 2 [] J,
 ∀p e n a b o j A k r t w h y d I K m L,b3 [1,3] (ui g P n p a d b e j A m k o r t w h y I K L) J J 8 (.call (.compStart gg.e 0 (E m) (E d) (jq n d)) J) 0 [H (d+101,ah [] 0),H (d+103,dD)] 3 0 [] J,
 ∀p e n a b o j A k r t w h y d I K m L Q R S T u,b3 [1] (um g P n p a d b e j A m k o r t w h y I K L u Q R S T) J J 8 (.call (.call (.builtin "range.__iter__") ⟨[E r],[]⟩) J) 0 [H (n+104,a' (E d))] 0 0 [] J,
 ∀p e n a b o j A k r t w h y d I K m L Q R S T u c z B s C,b3 [2,3] (un g P n p a d b e j c A m k o r t s w h y I K L z u Q B R S C T) J J 8 (.call (.compStart hM.e 0 (E s) (E c) (k4 n c)) J) 0 [H (c+101,ah [] 0),H (c+102,aJ [])] 2 0 [] J,
 ∀p e n a b o j A k r t w h y d I K m L Q R S T u c z B s C an v ao ap aq ar,ok [] (Iy g P n p a d b e j c A m k o r t s w h y I K L z u Q B R S C T an v ao ap aq ar) (.ret (E c)) 0 [] 0 0 [],
 ∀n d m f a b j A D F,ok [0] (Ip g P n f a d b j A m D F) (.next) 0 [H (d+103,a' (aj D F))] 0 0 [],
 ∀n d m f a b j A D F u,ok [0] (Iq g P n f a d b j A m D F u) (.next) 0 [H (d+103,a' (aj D F))] 0 0 [],
 ∀n d m f a b j A G k M N O,b3 [] (uj g P n f a d b j A m G k M N O) J J 8 (.call (.call (.builtin "range.__iter__") ⟨[E G],[]⟩) J) 0 [] 0 0 [] J,
 ∀n d m f a b j A G k M N O c z B q C,b3 [2,3] (uk g P n f a d b j c A q m G k M N O z B C) J J 8 (.call (.compStart ft.e 0 (E q) (E c) (ie n d c)) J) 0 [H (c+101,ah [] 0),H (c+102,aJ [])] 2 0 [] J,
 ∀n d c q f a b j A i l,ok [0] (Ir g P n f a d b j c A q i l) (.next) 0 [H (c+102,aJ [U P [105] a (aj i l)])] 0 1 [],
 ∀n d c q f a b j A i l h u,ok [0] (It g P n f a d b j c A q i l h u) (.next) 0 [H (c+102,aJ [U P [105] h (aj i l)])] 0 1 [],
 ∀n d c q f a b j A i l h p e x o,ok [3] (Iu g P n p f a d b e j c A q o i l h x) (.ret (E f)) 0 [H (f+101,ue [E x,(aj i l)])] 1 0 [],
 ∀n d c q f a b j A D F p e x o,ok [3] (Iv g P n p f a d b e j c A q D o F x) (.ret (E f)) 0 [H (f+101,ue [E x,(aj D F)])] 1 0 [],
 ∀n d c q f a b j A i l h,ok [] (Iw g P n f a d b j c A q i l h) (.ret (aj i l)) 0 [] 0 0 [],
 ∀n d m f a b j A G k M N O c z B q C W X Y Z h u,b3 [] (ul g P n f a d b j c A q m G k M N O h W z u X B Y Z C) J J 8 (.call (.call (.builtin "len") ⟨[E c],[]⟩) J) 0 [] 0 0 [] J,
 ∀n d m f a b j A G k M N O c z B q C W X Y Z h u ai ak aa ac ae af,ok [] (Ix g P n f a d b j c A q m G k M N O h W z u X B Y Z aa C ac ae ai af ak) (.ret (aj ai ak)) 0 [] 0 0 [],
 ∀n c s f a b j A i l,ok [0] (Iz g P n f a b j c A i l s) (.next) 0 [H (c+102,aJ [U P kD a (aj i l)])] 0 1 [],
 ∀n c s f a b j A i l h u,ok [0] (IA g P n f a b j c A i l s h u) (.next) 0 [H (c+102,aJ [U P kD h (aj i l)])] 0 1 [],
 ∀n c s f a b j A i l h V e o,b3 [] (uo g P n f a b e j c A o i l s V h) J J 8 (.call (.call (.builtin "list.index") ⟨[E V,(aj i l)],[]⟩) J) 0 [] 0 0 [] J,
 ∀n c s f a b j A i l h V e o al am aa ac ae af,ok [] (IB g P n f a b e j c A o i l s V h al am aa ac ae af) (.ret (aj al am)) 0 [] 0 0 []]
noncomputable def na(g:Nat->Option ab)(P:a1):Prop:=AllP (IC g P)
variable(g:Nat->Option ab)(P:a1)
noncomputable def xv(P:a1)(a ay b:Nat):Obj:={cls:= .type "frame",data:= .dict ⟨[U P kE a (E ay),U P i3 (a+1) (E b)]⟩ 2}
section
variable(ay a n s av o TT b d:Nat)(j:List (aL×ap))(ar x:Nat)(d4:g')(e:Nat)(aA:List O)(u:O)(L:Nat)(A:ap)(cR:Nat)(f:ap)(i k m bx bk p q:Nat)(r:ap)(t y z:Nat)(D:ap)(eD F:Nat)(v:O)(bS I:List O)(a3 K cH N:Nat)(Q:ap)
noncomputable def xw:=0 where
 uq:G:=c_ g P 200 n o L j [(a+101,de d4)] [] [] 25 [0,0,0,2,2,0,2,2,3,0,0,2,2,1] (.call (.ref 84) ⟨[E ay,E a],[]⟩) A
 ur:G:=bJ g P 200 bk p q j [(cR+101,dd i k m)] [] [] 2 [] uq r (.ok (.ret (E cR)))
 us:G:=bJ g P 200 av b d j [(n+101,xv P o ay a),(n+102,dD),(ay+101,ah aA e)] [1] [] 23 [2,2,2,1,3,3,1,3,4] ur f (.ok (.ret (E ar)))
 ID:List cb×Scope:=fnOf (jd 11)
 fE:fq:=hj (dm (d_ (ID.1.drop 1) 0) 1)
 ig(n av:Nat):Env:={scope:={kind:= .function,names:=[(⟨⟨[46,48]⟩⟩,.local),(⟨⟨el⟩⟩,.local),(⟨⟨[112,97,115,115,101,100]⟩⟩,.cell)],isGenerator:=aN,isCoroutine:=aN,more:=[]},locals:=(av+103),globals:=3,cells:=[(⟨⟨[112,97,115,115,101,100]⟩⟩,(n+102))],qual:=⟨⟨[95,108,97,119,95,112,97,114,116,101,100,46,60,108,111,99,97,108,115,62,46]⟩⟩,func:=J,code:=(.ref 83),frame:=(H (n+101)),builtins:=0}
 ut:G:=bJ g P 200 t y z j [(av+103,aJ [U P el bx v]),(ar+101,ah bS F),(av+102,ah I eD)] [0] [] 10 [1,1,1,2,3,2] us D (.ok .next)
 IE:G:=bJ g P 200 K cH N j [] [] [] 1 [] ut Q (.ok (.ret (.ref a3)))
 IF:G:=h g P 240 s TT L j [(av+103,aJ [])] [0] [] 7 [0,1,1] (.compLoop fE.e 0 (E av) (.ref (av+102)) (ig n av)) A (cf (cm fE.target (ig n av) (.ref x)))
 IG:G:=h g P 240 s TT L j [(av+103,aJ [U P el bx u])] [0] [] 7 [0,1,1] (.compLoop fE.e 0 (E av) (.ref (av+102)) (ig n av)) A (cf (cm fE.target (ig n av) (.ref x)))
 IH:G:=h g P 240 s TT L j [(av+103,aJ [U P el bx (.ref x)])] [] [] 2 [1] (.compLoop fE.e 0 (E av) (.ref (av+102)) (ig n av)) A (bN (bT (d5 (fE.ifs.headD default)).1 (ig n av)))
 II:G:=h g P 240 s TT L j [(n+102,a' (E ar))] [] [] 2 [1] (.compLoop fE.e 0 (E av) (.ref (av+102)) (ig n av)) A (bN (bT (d5 (fE.ifs.headD default)).2 (ig n av)))
 IJ:G:=h g P 240 s TT L j [(av+103,aJ [U P el bx (.ref x)])] [] [] 2 [1] (.compLoop fE.e 0 (E av) (.ref (av+102)) (ig n av)) A (bN (bT fE.elt (ig n av)))
open xw
end
open xw
noncomputable def BZ:=0 where
 IK:Obj:={cls:=(.type "type"),dict:=J,data:=(.cls {name:=⟨⟨lB⟩⟩,bases:=[(.type "object")],mro:=[(.ref 61),(.type "object")],ns:=60,qualname:=⟨⟨lB⟩⟩,hasDict:=ag,slotNames:=[],subclasses:=[],abstract:=aN,collection:=J,hasDel:=aN}),slots:=⟨[J,J,(H (.str ⟨⟨lB⟩⟩ 235)),(H (.str ⟨⟨lB⟩⟩ 243)),(H (.builtin "object.__new__")),(H (.bool ag))]⟩}
 xx(P:a1):Obj:={cls:=(.type "dict"),dict:=J,data:=(.dict ⟨[U P v9 242 (.str ⟨⟨qV⟩⟩ 211),U P v' 246 (aj 80 245),U P [112,97,114,101,110,116,95,109,97,112] 247 .none,U P pg 255 (.ref 58),U P wa 257 (.ref 59),U P wd 259 (.ref 62),U P we 261 (.ref 63),U P qU 262 .none]⟩ 4),slots:=⟨[]⟩}
 IL(g:Nat->Option ab)(P:a1):List Prop:=[
  g 61=H IK,
  g 60=H (xx P),
  ∀ay c n d b f j A,b3 [0,1,2] (uq g P ay c n d j f b A) J J 8 (.call (.call (E c) ⟨[.none,E ay],[]⟩) J) 0 [H (c+101,de f),H (n+101,xv P d ay c),H (n+102,dD)] 2 2 [] J,
  ∀ay c n d b f j A l m o p q r s t,b3 [] (ur g P ay c n d j f b A l m o p q r s t) J J 8 (.call (.call (.type "list") ⟨[E l],[]⟩) J) 0 [] 0 0 [] J,
  ∀ay c n d a w y h e z f j B l m o p q r s t A b,b3 [1,3,4,5] (us g P ay c n a d w y j h f e z b A l B m o p q r s t) J J 8 (.call (.compStart fE.e 0 (E a) (.ref (a+102)) (ig n a)) J) 0 [H (n+102,a' (E h)),H (a+101,b2 (ay+101) 0),H (a+102,ah [] 0),H (a+103,aJ [])] 3 0 [] J,
  ∀ay c n d a w y h e z f j B l m o p q r s t A b C D F G i I K v L M,b3 [] (ut g P ay c n a d w y j h f e z b A l B m o p i q r s t C D F G I K v L M) J J 8 (.call (.call (.builtin "list.__add__") ⟨[E h,.ref (a+102)],[]⟩) J) 0 [] 0 0 [] J,
  ∀ay c n d a w y h e z f j B l m o p q r s t A b C D F G i I K v L M N O Q R S,ok [] (IE g P ay c n a d w y j h f e z b A l B m o p i q r s t C D F G I K v L M N O Q R S) (.ret (.ref N)) 0 [] 0 0 [],
  ∀n a k TT b j A x,ok [0] (IF g P n k a TT j x b A) (.next) 0 [H (a+103,aJ [U P el TT (.ref x)])] 0 1 [],
  ∀n a k TT b j A x i u,ok [0] (IG g P n k a TT j x u b A i) (.next) 0 [H (a+103,aJ [U P el i (.ref x)])] 0 1 [],
  ∀n a k TT b j A x i,ok [] (IH g P n k a TT j x b A i) (.ret (.ref x)) 0 [] 0 0 [],
  ∀n a k TT b j A h,ok [] (II g P n k a TT j h b A) (.ret (E h)) 0 [] 0 0 [],
  ∀n a k TT b j A x i,ok [] (IJ g P n k a TT j x b A i) (.ret (.ref x)) 0 [] 0 0 []]
 nc(g:Nat->Option ab)(P:a1):Prop:=AllP (IL g P)
open BZ
variable(g:Nat->Option ab)(P:a1)
noncomputable def B0:=0 where
 l6:List cb×Scope:=fnOf (jd 3)
 fd(n:Nat):Env:={scope:=l6.2,locals:=(n+101),globals:=3,cells:=[],qual:=⟨⟨[114,101,100,117,99,101,46,60,108,111,99,97,108,115,62,46]⟩⟩,func:=(H 30),code:=(.ref 29),frame:=(H (n+101)),builtins:=0}
 k5:Expr×List cb×List Stmt:=d' (l6.1.drop 2)
 eT(n:Nat)(a:ae):Code:= .forLoop k5.1 (.ref a) k5.2.1 k5.2.2 (fd n)
 gv(P:a1)(M b c d e v:Nat)(a:List gp):Obj:={cls:= .type "frame",data:= .dict ⟨[U P s3 M (.ref b),U P s4 (M+1) (E c),U P s5 (M+2) (E d),U P [105,116] (M+3) (.ref e),U P [118,97,108,117,101] (M+4) (.ref v)]++a⟩ (5+a.length)}
 fF(P:a1)(a x:Nat):List DictEntry:=[U P [101,108,101,109,101,110,116] a (.ref x)]
open B0
section
variable(a b d j5 M n T v s o L:Nat)(bS:List O)(j:List (aL×ap))(e:Nat)(A:ap)(d4:g')(ar h:Nat)(aA:List O)(i k m x:Nat)(p:ap)(f y bk q r:Nat)(t:ap)(z:Nat)
noncomputable def xy:=0 where
 rJ:G:=c_ g P 200 n o L j [(b+101,ah aA e),(d+101,ah bS j5)] [] [] 77 [0,0,0,0,3,3,0,3,3,0,3,3,3,0,0,3,1,1,1,1,4,0,3,3,3,0,2,0,3,0,3,3,3,4,4,1,4,4] (.call (.ref 30) ⟨[.ref a,E b,E d],[]⟩) A
 uu:G:=c_ g P 230 s o L j [(n+101,gv P M a b d T v []),(T,b2 ar i),(ar,ah aA e),(a,de d4)] [0,1] [hB 1 2 T ar i aA e (.ref x)] 19 [2,1,0,1,1,1,1,1,4] (eT n T) A
 IM:G:=c_ g P 230 s o L j [(n+101,gv P M a b d T v []),(T,b2 ar i),(ar,ah aA e)] [0,1] [hC 1 2 T ar i aA e] 5 [2,1,5] (eT n T) A
 uv:G:=c_ g P 230 s o L j [(n+101,gv P M a b d T v (fF P f y)),(T,b2 ar i),(ar,ah aA e),(a,de d4)] [0,1] [hB 1 2 T ar i aA e (.ref x)] 19 [2,1,0,1,1,1,1,1,4] (eT n T) A
 IN:G:=c_ g P 230 s o L j [(n+101,gv P M a b d T v (fF P f y)),(T,b2 ar i),(ar,ah aA e)] [0,1] [hC 1 2 T ar i aA e] 5 [2,1,5] (eT n T) A
 IP:G:=bJ g P 230 bk q r j [(n+101,gv P M a b d T v (fF P o x))] [0] [] 8 [0,1,1] uu t (.ok (.ret (.ref z)))
 IQ:G:=bJ g P 230 bk q r j [(n+101,gv P M a b d T v (fF P f x))] [0] [] 8 [0,1,1] uv t (.ok (.ret (.ref z)))
 IR:G:=bJ g P 200 h k m j [(n+101,gv P o a b d (n+102) v [])] [] [] 3 [1] rJ p (.ok .next)
 IS:G:=bJ g P 200 h k m j [(n+101,gv P o a b d (n+102) v (fF P f y))] [] [] 3 [1] rJ p (.ok .next)
open xy
end
open xy
noncomputable def IT(g:Nat->Option ab)(P:a1):List Prop:=[
 ∀a b c e q n f k h r j A,b3 [0,1,2,3] (rJ g P a b c q n f k r j e A h) J J 8 (.call (eT n (n+102)) J) 0 [H (b+101,ah h e),H (c+101,ah r q),H (n+101,gv P f a b c (n+102) (c+101) []),H (n+102,b2 (b+101) 0)] 2 5 [] J,
 ∀a b c v M n d o f k j A p l i e x h (m:Nat) (y:Nat),b3 [0,1,2,3] (uu g P a b c M n d v o f k j e A p l h i x) J J 8 (.call (.call (.ref a) ⟨[.ref v,.ref x],[]⟩) J) 0 [H (n+101,gv P M a b c d v (fF P f x)),H (d,b2 l (i+1)),H (l,ah h e),H (a,de p)] 0 1 [] J,
 ∀a b c v M n d o f k j A p l i e x h (m:Nat) (y:Nat) t u w z s,ok [0] (IP g P a b c M n d v o f k j e A p l h i x t u w z s) (.again (eT n d)) 0 [H (n+101,gv P M a b c d s (fF P f x))] 0 1 [],
 ∀a b c v M n d o f k j A (p:g') l i e (x:Nat) h (m:Nat) (y:Nat),ok [0] (IM g P a b c M n d v o f k j e A l h i) (.next) 0 [H (n+101,gv P M a b c d v [])] 2 0 [],
 ∀a b c e q n f k h r j A B C D v E,ok [] (IR g P a b c q n v f k r j e A B h C D E) (.ret (.ref v)) 0 [] 0 0 [],
 ∀a b c v M n d o f k j A p l i e x h m y,b3 [0,1,2,3] (uv g P a b c M n d v o f k j e A p l h i x m y) J J 8 (.call (.call (.ref a) ⟨[.ref v,.ref x],[]⟩) J) 0 [H (n+101,gv P M a b c d v (fF P m x)),H (d,b2 l (i+1)),H (l,ah h e),H (a,de p)] 0 1 [] J,
 ∀a b c v M n d o f k j A p l i e x h m y t u w z s,ok [0] (IQ g P a b c M n d v o f k j e A p l h i x m y t u w z s) (.again (eT n d)) 0 [H (n+101,gv P M a b c d s (fF P m x))] 0 1 [],
 ∀a b c v M n d o f k j A (p:g') l i e (x:Nat) h m y,ok [0] (IN g P a b c M n d v o f k j e A l h i m y) (.next) 0 [H (n+101,gv P M a b c d v (fF P m y))] 2 0 [],
 ∀a b c e q n f k h r j A m y B C D v E,ok [] (IS g P a b c q n v f k r j e A B h C D E m y) (.ret (.ref v)) 0 [] 0 0 []]
noncomputable def om(g:Nat->Option ab)(P:a1):Prop:=AllP (IT g P)
open PyProof.Rows
section
variable {g:Nat->Option ab}
theorem a4.meets {c id:String}{f:c0}{d:iX}{a:O}{b:List O}{S:PySem.Spec}{R:bZ->ac->Prop}(e:Slot c f id)(g:C.TypeIs a c)(i:entryFor mx id=H d)(j:argsOk id ⟨a::b,[]⟩)
  (k:Meets (d ⟨a::b,[]⟩) S)(h:S (di Y l) R C):a4 u l Y (.call (.builtin id) ⟨a::b,[]⟩) C R:=
 fb.rc (codeAny_call_builtin e.plain i (e.check _ _ _ _ _ _ _ _ g j (k bH u (di Y l) R C h)))
theorem uw(K:aR g C){a:ae}{k:Nat}{d e f:cL}(h:I C a (k3 (bq k) d e f))(x:k<1000):
  a4 u l J (.call (.builtin "range.__iter__") ⟨[.ref a],[]⟩) C λq b=>q= .ok (.ret (.ref C.heap.objs.size))/\aa g p p C b/\I b C.heap.objs.size (dn (bq 0) (bq k))/\b.heap.objs.size=C.heap.objs.size+1:=by
 have i:zn 0 (bq k) 1=bq k:=by
  unfold zn;rcases qt k with q|q
  ·subst q;rfl
  ·simp;lia
 have c:sZ 0 (bq k) 1=true:=by
  unfold sZ;refine r i ?_;have n:pc 0=true:=by decide
  have o:pc 1=true:=by decide
  have s:pc (bq k)=true:=by
   unfold pc;simp;lia
  have v:pc (bq k+(1-1))=true:=by
   unfold pc;simp;lia
  simp [n,o,s,v]at*
 have w:C.TypeIs (.ref a) "range":=⟨_,h,t⟩;refine a4.meets F.slot_range_iter w F.entry_range_iter (F.args_range_iter_1 _) (AutoRange.range___iter___range_1 a 0 (bq k) 1 d e f (λj=>by
  have m:=c;unfold sZ at m;rw [m]at j;cases j)) ⟨h, ?_⟩
 unfold sZ at c;simp only [c,if_true];exact⟨trivial,aa.push K,by refine r i ?_;exact kA _ t,kB ..⟩
theorem IU(e:Base g)(f:hi g u.params)(m:l<=500)(K:aR g C){a i k:Nat}(o:g (a+101)=J)(h:I C (a+101) (dn (bq i) (bq (k+1)))):
  a4 u l J (.call (.builtin "range_iterator.__next__") ⟨[E a],[]⟩) C λq b=>(∃s,q= .ok (.ret (aj i s)))/\aa g (· =a+101) p C b/\I b (a+101) (dn (bq (i+1)) (bq k)):=by
 refine a4.c1 λj A=> ?_;obtain ⟨n,v⟩:=K.size;refine c2 m e K v t t (D:=[(a+101,dn (bq i) (bq (k+1)))]) (aQ:=[0]) (fk h) (.head o a0) (aC:=[]) a0 t (f 0 _ ..) ?_;intro b L _ _ w y c;refine r (e' w) (r (cA y) ?_);refine ai.done (.ok (.ret _)) ⟨⟨_,t⟩,(c.only t).mono (λx z=> .inl ?_) aF, ?_⟩
 ·refine aw (hW.mp z) (aH λM=>an λd B=> ?_);rw [bQ]at d;subst d;cases B;rfl
 ·unfold I;rw [c.xs _ _ aO];have F:bq i+1=bq (i+1):=rfl;have G:bq (k+1)-1=bq k:=by simp
  refine r F (r G ?_);rfl
theorem IV(f:Base g)(k:hi g u.params)(m:l<=500)(K:aR g C){a i:Nat}(o:g (a+101)=J)(h:I C (a+101) (dn (bq i) (bq 0))):
  a4 u l J (.call (.builtin "range_iterator.__next__") ⟨[E a],[]⟩) C λq b=>(∃e s,q= .error (.ref e)/\I b e (hf s))/\aa g (· =a+101) p C b:=by
 refine a4.c1 λj A=> ?_;obtain ⟨n,v⟩:=K.size;refine c2 m f K v t t (D:=[(a+101,dn (bq i) (bq 0))]) (aQ:=[0]) (fk h) (.head o a0) (aC:=[]) a0 t (k 1 a i 0 n C.toks C.gens.size j A) ?_;intro b F _ _ w y c;refine r (pu w) (r (cA y) ?_);refine ai.done (.error _) ⟨bh _ _ ⟨t,c.xs _ _ aO⟩,(c.only t).mono (λx z=> .inl ?_) aF⟩;refine aw (hW.mp z) (aH λG=>an λd B=> ?_);rw [bQ]at d;subst d;cases B;rfl
theorem rK(k:Base g)(m:hi g u.params)(o:cW c []<=4)(r:l+4<=500)(K:aR g C){a i n:Nat}(x:i<=n)(s:g (a+101)=J)(h:I C (a+101) (dn (bq i) (bq (n-i)))):
  Q u l J j c (hY (E a)) (λb d=>aa g (· =a+101) p C d/\match b with|some v=>i<n/\(∃f,v=aj i f)/\I d (a+101) (dn (bq (i+1)) (bq (n-(i+1))))|none=>i=n) a8 C:=by
 have w:C.TypeIs (E a) "range_iterator":=⟨_,h,t⟩;rcases nC x with q|q
 ·subst q;rw [Nat.sub_self]at h;refine Q.next o w v2 (IV k m r K s h) (λy d=>an ?_);refine bo λe z=>an ?_;rintro rfl;intro A b;exact .inr (bh e z ⟨t,A,b,t⟩)
 ·rw [show n-i=n-(i+1)+1 from(ir (Nat.sub_pos_of_lt q)).symm]at h;refine Q.next o w v2 (IU k m r K s h) (λy d=>aT ?_);refine aH λf=> ?_;rintro rfl;intro b B;exact .inl ⟨_,t,b,q,⟨f,t⟩,B⟩
theorem B1 {a b:ae}{x y:ab}{d k:Nat}{h:aY}(e:h.get? a=H x)(f:h.get? b=H y):∀v∈[((d,a,x):Nat×ae×ab),(k,b,y)],h.get? v.2.1=H v.2.2:=λv c=>by
 rcases b8.mp c with rfl|c
 ·exact e
 ·rw [bQ]at c;subst c;exact f
theorem B2(m:cW c []<=4)(n:l+4<=600)(K:aR g C){a d:ae}{i e:Nat}{b:List O}(z:i<=b.length)(o:g a=J)(h:I C a (b2 d i))(s:I C d (ah b e)):
  Q u l J j c (hY (.ref a)) (λA k=>aa g (· =a) p C k/\match A with|some v=>i<b.length/\b[i]? =H v/\I k a (b2 d (i+1))|none=>i=b.length) a8 C:=by
 have w:C.TypeIs (.ref a) "list_iterator":=⟨_,h,t⟩;rcases nC z with q|q
 ·refine Q.next m w o2 (cI.ret (az:=hC 0 1 a d i b e) (n3 ((ao q))) (B1 h s) n) (λB k=>an ?_);rintro rfl;rintro rfl;have x:=aa.update (C:=C) (f:=λ_=>{cls:= .type "list_iterator",data:= .fields ⟨[.none,aj i 0]⟩}) K o (C.toks+0);have y:=aa.push (az:={cls:= .type "tuple",data:= .seq ⟨[]⟩ 0}) x.K;have D:=aa.push (az:=hf C.heap.objs.size) y.K;refine .inr (bh _ C.heap.objs.size ⟨t, ?_,(x.then y aF aF).then D aF aF,q⟩);have E:(C.heap.update a λ_=>{cls:= .type "list_iterator",data:= .fields ⟨[.none,aj i 0]⟩}).objs.size=C.heap.objs.size:=(nO ..).1;refine(?_:aY.get? (((C.heap.update a _).push _).push (hf C.heap.objs.size)) _=_);have F:C.heap.objs.size+1=((C.heap.update a λ_=>{cls:= .type "list_iterator",data:= .fields ⟨[.none,aj i 0]⟩}).push {cls:= .type "tuple",data:= .seq ⟨[]⟩ 0}).objs.size:=by rw [kB,E]
  refine r F (kA _ t)
 ·refine Q.next m w o2 (cI.ret (az:=hB 0 1 a d i b e b[i]) (n2 (by simp [q])) (B1 h s) n) (λB k=>an ?_);rintro rfl;rintro rfl;exact .inl ⟨_,t,aa.update K o _,q,by simp [q],i1 (λ_=>b2 d (i+1)) h t⟩
end
open PyProof.Rows
noncomputable def j6(c:Nat->Nat)(a b:Nat):Bool:=decide (c a<c b\/(c a=c b/\a<b))
noncomputable def hN(b:Nat->Nat)(i c:Nat):Nat:=((c8 i).filter λa=>j6 b a c).length
theorem B3(a:Nat->Nat)(i b:Nat):hN a (i+1) b=hN a i b+(if j6 a i b=ag then 1 else 0):=by
 unfold hN;rw [vz,ls,e9];congr 1;cases h:j6 a i b<;>simp [h]
section
variable {g:Nat->Option ab}
theorem pY {c:aL}{Y:Option O}(b:l<=500)(a:cW c []<=4):((di Y l).over c []).units+2<cLine:=by
 have h:=(oh (Y:=Y) (l:=l) a).2.2;exact dZ (show _<=1600 by lia) (by decide)
theorem nd {b c d:Expr}{e:List Expr}{f:g_}{pos:ap}{a g:O}{i:bX}{R:bZ->ac->Prop}(k:∀(m:ef) (j:O->ac->Prop) (af:O->ac->Prop),j a C->bD (b1 bH u) m (o6 a) j af C)
  (h:a4 u l J (.compLoop (.ListComp b [⟨c,d,e,0⟩] f pos) 0 a g i) C R):a4 u l J (.compStart (.ListComp b [⟨c,d,e,0⟩] f pos) 0 a g i) C R:=
 fb.rc (yY (fb.code h) (k _ _ _ (fb.code h)))
theorem pZ {a:ae}{x y:Int}(h:I C a (dn x y))(d:ef)(c af:O->ac->Prop)(e:c (.ref a) C):bD (b1 bH u) d (o6 (.ref a)) c af C:=by
 have b:C.TypeIs (.ref a) "range_iterator":=⟨_,h,t⟩;refine wpAny_pyIter_slot b zm (vQ zm b F.entry_range_iterator_iter ?_ (F.args_range_iterator_iter_1 _));refine(?_:bD _ _ (ret (.ref a)) _ _ C);exact cG ⟨_,t,"range_iterator",_,b,v2.lookup,e⟩
theorem xz {a b:ae}{i:Nat}(h:I C a (b2 b i))(d:ef)(c af:O->ac->Prop)(e:c (.ref a) C):bD (b1 bH u) d (o6 (.ref a)) c af C:=
 wpAny_pyIter_listiter (it:=a) (l:=b) (i:=i) ⟨_,h,t,t⟩ e
structure jr(a9:Nat)(a:List (Nat×List Bool))(b e n c:Nat)(d i j:cL)(h:aY):Prop where
 l:h.get? (b+101)=H (ah (a.map λq=>E q.1) e)
 r:∀q∈a,∃k,h.get? (q.1+101)=H (dx q.2 k)
 f:h.get? (n+102)=H (a' (E b))
 p:h.get? (n+103)=H (a' (E c))
 g:h.get? (c+101)=H (k3 (bq a.length) d i j)
 B4:b+101<a9
 B5:∀q∈a,q.1+101<a9
 bn:n+104<a9
 B6:c+101<a9
section
variable {a9:Nat}{o:List (Nat×List Bool)}{s e n y:Nat}{z D F:cL}
theorem jr.mono {h c:aY}(a:jr a9 o s e n y z D F h)(k:∀b d,h.get? b=H d->b<a9->c.get? b=H d):jr a9 o s e n y z D F c:=
 ⟨k _ _ a.l a.B4,λq f=>by obtain ⟨g,i⟩:=a.r q f;exact⟨g,k _ _ i (a.B5 q f)⟩,k _ _ a.f (dZ (ey (by decide) n) a.bn),k _ _ a.p (dZ (ey (by decide) n) a.bn),k _ _ a.g a.B6,a.B4,a.B5,a.bn,a.B6⟩
theorem jr.only {X:ae->Prop}{c:Nat->Prop}{a:ac}(d:jr a9 o s e n y z D F C.heap)(f:aa g X c C a)(i:∀x,X x->a9<=x):jr a9 o s e n y z D F a.heap:=
 d.mono λb j h k=>f.fr b j h λq=>absurd (i b q) (gG k)
noncomputable def gY(o:List (Nat×List Bool))(i:Nat):Nat:=dg (o.getD i (0,[])).2
theorem IW:∃A,ft.ifs=[.Compare (d5 (ft.ifs.headD default)).1 [.Lt] [(d5 (ft.ifs.headD default)).2] A]:=⟨ez (ft.ifs.headD default),by kernel_rfl⟩
theorem IX:mD .Lt (d5 (ft.ifs.headD default)).2=false:=by kernel_rfl
theorem IY:∀v a,d9 ft.target (.ref a) v=pure ():=λ_ _=>by rfl
theorem IZ:∀v a,d9 gg.target (.ref a) v=pure ():=λ_ _=>by rfl
theorem I0:∀v a,d9 hM.target (.ref a) v=pure ():=λ_ _=>by rfl
theorem I1(T:Base g)(Z:na g u.params)(aV:hi g u.params)(O:l<=240)(K:aR g C){L k w B au m:Nat}(S:jr a9 o s e n y z D F C.heap)(aG:∀q∈o,q.2.length=m)(aW:o.length<=500)(aI:B<o.length)(av:a9<=L+101)(W:L+2<w)(X:w<k)
  (ai:I C (L+103) (a' (aj B au)))(aK:I C (w+101) (dn (bq 0) (bq o.length)))(aY:I C (k+101) (ah [] 0))(al:I C (k+102) (aJ []))
  (aw:∀x,a9<=x->g x=J):
  a4 u l J (.compStart ft.e 0 (E w) (E k) (ie n L k)) C λq P=>q= .ok .next/\aa g (λx=>x=k+101\/x=k+1+101\/x=w+101) p C P/\
   ∃R e ab,R.length=hN (gY o) o.length B/\I P (k+101) (ah R e)/\I P (k+1+101) ab/\∃N v,ab=aJ [U u.params [105] N v]:=by
 refine nd (pZ aK) (a4.c1 λj A=> ?_);obtain ⟨bi,aZ⟩:=IW;have a1:oi u g l (.compLoop ft.e 0 (E w) (E k) (ie n L k)) (E w) ft.target ft.elt ft.ifs (ie n L k) k (k+1) o.length
   (λi C=>I C (w+101) (dn (bq i) (bq (o.length-i)))) (λi v=>∃N,v=aj i N) (· =w+101) p
   (λi R C=>jr a9 o s e n y z D F C.heap/\I C (L+103) (a' (aj B au))/\R.length=hN (gY o) i B) (aJ []) (λN v=>aJ [U u.params [105] N v]):=by
  refine⟨?_, ?_, ?_, ?_, ?_, ?_, ?_, ?_,aw _ (cy 0 101 3 0 1 0 0 101 t av W X)⟩
  ·intro j i C am K bs;exact rK T aV (cP (by kernel_rfl)) (V 0 240 4 500 t O) K am (aw _ (aD 0 101 3 0 0 101 t av W)) bs
  ·intro i C P bs M;exact M.fr _ _ bs (by rintro (q|q)<;>simp only [vu]at q<;>lia)
  ·refine λi R C P=>aT λa b c M=>⟨a.only M ?_,M.fr _ _ b ?_,c⟩
   ·rintro x (q|q|q)<;>refine r q ?_<;>refine(?_:a9<=_)<;>lia
   ·rintro (q|q|q)
    ·have:L+103=k+101:=q;exact a2 105 103 t (aq 4 0 101 103 (aq 3 0 1 0 W X) (ao q))
    ·have:L+103=k+1+101:=q;exact a2 106 103 t (aq 4 0 102 103 (aq 3 0 1 0 W X) (ao q))
    ·have:L+103=w+101:=q;exact a2 104 103 t (aq 3 0 101 103 W (ao q))
  ·refine λj i v C ab am=>aH λax=> ?_;rintro rfl;intro K aL a3;refine r ja ?_;have aM:g (k+102)=none:=aw _ (cy 0 101 3 0 1 0 0 102 t av W X);rcases a3 with rfl|⟨N,bj,rfl⟩
   ·exact Q.eC (ak:=280) (bm t O) T K (db aL) (cK aM) (aC:=[]) a0 (λG A=>Z 13 _ ..) t (λG P _ M ay=>⟨_,M.bW,ay _ _ aO⟩)
   ·exact Q.eC (ak:=280) (bm t O) T K (db aL) (cK aM) (aC:=[]) a0 (λG A=>Z 14 _ ..) t (λG P _ M ay=>⟨_,M.bW,ay _ _ aO⟩)
  ·refine λj i v N R C am=>aH λax=> ?_;rintro rfl;refine λK=>aT λS ai aP al=>r aZ (Q.rG (Q.jW ?_ IX));refine r en ?_;obtain ⟨ac,an⟩:∃q,o[i]? =H q:=⟨o[i],by simp [am]⟩;obtain ⟨ae,ap⟩:∃q,o[B]? =H q:=⟨o[B],by simp [aI]⟩;obtain ⟨bk,a5⟩:=S.r ac (dP an);obtain ⟨bl,a6⟩:=S.r ae (dP ap);refine Q.V (ak:=280) (v:=λG=>E G) (bm t O) T K (j2 al S.f S.l) .nil (aC:=[e0 2 (s+101) (o.map λq=>E q.1) e i ax (E ac.1)]) (fk (iB (by lia) (by simp [an])))
    (λG A=>Z 15 _ ..) t (λG bn bo a7 a8=> ?_)
   have ar:=a7.aE;have a_:=a8 _ _ aO;have az:=S.only ar aF;refine Q.V (ak:=280) (v:=λG=>E G) (bm t O) T ar.K (j2 (ar.fr _ _ ai (λh=>h)) az.f az.l) .nil (aC:=[e0 2 (s+101) (o.map λq=>E q.1) e B au (E ae.1)]) (fk (iB (by lia) (by simp [ap])))
    (λG A=>Z 16 _ ..) t (λbp br bt ba bb=> ?_)
   have as:=ba.aE;have bc:=bb _ _ aO;have Y:=ar.trans as;have bd:decide (dg ac.2<dg ae.2\/(dg ac.2=dg ae.2/\bq i<bq B))=j6 (gY o) i B:=by
    unfold j6 gY;refine r (show o.getD i (0,[])=ac from by simp [fv,an]) ?_;refine r (show o.getD B (0,[])=ae from by simp [fv,ap]) ?_;simp
   refine Q.any (Ik (as.fr _ _ a_ (λh=>h)) bc (Y.fr _ _ a5 (λh=>h)) (Y.fr _ _ a6 (λh=>h)) (by rw [aG _ (dP an),aG _ (dP ap)]) ?_ ?_)
   ·exact pY (bm t O) (cP (by kernel_rfl))
   refine Q.jc (r bd ?_);have aQ:=az.only as aF;have aS:=Y.fr _ _ ai (λh=>h);cases aU:j6 (gY o) i B with
   |false=>
    rw [if_neg (by simp)];exact⟨Y,aQ,aS,by rw [aP,B3,aU];rfl⟩
   |true=>
    rw [if_pos t];refine Q.V (ak:=280) (v:=λ_=>aj i ax) (bm t O) T as.K (db (Y.fr _ _ al (λh=>h))) .nil (aC:=[]) a0 (λG A=>Z 17 _ ..) t (λbv bw _ bf _=> ?_);have aA:=bf.aE;exact⟨Y.trans aA,aQ.only aA aF,aA.fr _ _ aS (λh=>h),by rw [e9,aP,B3,aU];rfl⟩
  ·intro q;have:k+101=w+101:=q;exact a2 102 101 t (aq 1 0 101 101 X (aB q))
  ·intro q;have:k+1+101=w+101:=q;exact a2 103 101 t (aq 1 0 102 101 X (aB q))
  ·exact bA 0 1 t
 refine(pV (cC:=C) t (λv=>IY v _) (by kernel_rfl) (cP (by kernel_rfl)) (V 0 240 4 600 t O) (bm t aW) a1 o.length 0 [] C A (by lia) (by simp) aK ⟨S,ai,t⟩ (.refl K) ⟨0,aY⟩ ⟨_,al,.inl ⟨t,t⟩⟩).mono ?_;rintro (bx|_) P
 ·refine aT ?_;rintro rfl;refine λM=>cE λR bg ab=>bu ?_;refine aT λa b c d f af=>⟨t,M,R,bg,ab,c,d,f, ?_⟩;rcases af with⟨_,af⟩|⟨N,v,af⟩
  ·exact absurd af (aX (aD 0 0 1 0 1 0 t (be _) aI))
  ·exact bh N v af
 ·exact λh=>h
end
end
open PyProof.Rows
section
variable {g:Nat->Option ab}{l ak:Nat}{D:List (ae×ab)}{aQ:List Nat}{aC:List cI}{a9:Nat}{bj bR:List Nat}{m i:Nat}{au:List dM}{aA:Nat->List (Option (ae×ab))}{af:O->ac->Prop}
theorem B7(P:l<=ak)(Q:Base g)(K:aR g C)(R:∀x∈D,I C x.1 x.2)(S:b6 g D aQ)(T:∀o∈aC,o.Ok bH u){w:List dc}(ok:cw w=ag){f:Nat->O}{pos:Nat->List O}{kw:Nat->List (c0×O)}{cr E:Nat}{aG:Nat->ac->O->ac->Prop}
  (e:∀n,(bF bR (ce u g ak n C.toks C.gens.size J j D aQ aC a9 bj c A M w),eA (ce u g ak n C.toks C.gens.size J j D aQ aC a9 bj c A M w) J J cr)=(⟨.call (.call (f n) ⟨pos n,kw n⟩) J,E,aA n,m,i,au,bG (ce u g ak n C.toks C.gens.size J j D aQ aC a9 bj c A M w)⟩,(ag,J)))(F:au.all er=ag)
  (U:∀n d s,C.heap.objs.size=n+101->aa g (· ∈c' D aQ) p C d->(∀a o,H (a,o)∈aA n->I d a o)->d.heap.objs.size=n+m+101->s.handled=J->s.depth<=301+(l+cr)->s.units<=4+3*(l+cr)->bD (b1 bH u) s (f8 (f n) (pos n) (kw n)) (aG n d) (λ_ _=>False) d)
  (k:∀n d b y v,C.heap.objs.size=n+101->b=ce u g ak n C.toks C.gens.size J j D aQ aC a9 bj c A M w->cw b.aU=ag->b.aU.length=E->aa g (· ∈c' D aQ) p C d->(∀a o,H (a,o)∈aA n->I d a o)->aG n d v y->
   ai u l J j b.c b.p (eh b.t (.ok (.ret v))) b.aU y B):ai u l J j c A M w C B:=by
 obtain ⟨n,z⟩:=K.size;have G:=e n;simp only [eZ]at G;obtain ⟨V,L⟩:=G;refine c2 P Q K z t t R S T ok V ?_;intro d b N ok W X q;refine aw (iA W) (bo λal am Z=> ?_);refine r Z ?_;rw [<-show b=ce u g ak n C.toks C.gens.size J j D aQ aC a9 bj c A M w from N]at L;injection L with ab ae;have Y:=cP ab;have af:=jP b.c b.aU;have ah:=jQ b.c b.aU;refine ai.Bo ok (U n d _ z (q.only F) q.xs (by rw [q.aZ,z];exact hU _ _ _) ae ?_ ?_) (λv y aj=>k n d b y v z N ok X (q.only F) q.xs aj) (λ_ _ h=>h.elim)
 ·refine(?_:301+l+gm (b.aU.map cU)+b.c.weight<=_);exact mL (aW _) af (ey Y l)
 ·refine(?_:4+3*l+fK (b.aU.map cU)+b.c.cUnits<=_);exact pl (aW _) ah (ey Y l)
end
section
variable {g:Nat->Option ab}{a9:Nat}{b:List (Nat×List Bool)}{o e n d:Nat}{f i k:cL}
theorem ux {c:ef}{af:O->ac->Prop}{a:ae}{b:List O}{d:Nat}(K:aR g C)(h:I C a (ah b d))(i:b.length<=1000):bD (b1 bH u) c (f8 (.builtin "len") [.ref a]) (λv e=>aa g p p C e/\∃f,v=aj b.length f) af C:=
 call_len_list (items:=⟨b⟩) ⟨_,h,t,_,t⟩ (zz (dZ (by assumption) (by decide))) ⟨.toks K _,_,t⟩
theorem I2(O:Base g)(P:na g u.params)(a3:hi g u.params)(S:l<=230){j:List (aL×ap)}(K:aR g C){y F T a4 m:Nat}(Y:jr a9 b o e n d f i k C.heap)(a5:∀q∈b,q.2.length=m)(ar:b.length<=500)(a6:T<b.length)(aI:a9<=y+101)
  (aK:I C (y+103) (a' (aj T a4)))(aM:∀x,a9<=x->g x=J):
  Q u l J j (.compLoop gg.e 0 (E F) (E y) (jq n y)) (dR gg.elt (jq n y)) (λv c=>aa g p p C c/\∃s,v=aj (hN (gY b) b.length T) s) a8 C:=by
 refine r en (Q.mono (Q.bN (cJ:=λa7 c=>aa g p p C c/\∃s,a7= .ok (.ret (aj (hN (gY b) b.length T) s))) λA=> ?_) ?_ ?_)
 rotate_left
 ·refine λv c=>an λa=>aH λs h=> ?_;cases h;exact⟨a,s,t⟩
 ·refine λv c=>an λa=>aH λs h=> ?_;cases h
 refine gb (ak:=240) (bm t S) O K (hJ Y.p Y.g) .nil (aC:=[]) a0 t (br:=l+8) (λz=>P 11 _ ..) t (aW _)
  (R:=λ_ M q c=>q= .ok (.ret (.ref M.heap.objs.size))/\aa g p p M c/\I c M.heap.objs.size (dn (bq 0) (bq b.length))/\c.heap.objs.size=M.heap.objs.size+1) ?_ ?_
 ·intro z M _ G _ _;exact uw G.K (G.aE.fr _ _ Y.g (λh=>h)) (V 0 500 1 1000 t ar)
 refine λz M a_ B q bx ba bb bz G _ _=>bu ?_;rintro rfl;intro aP as Z;have W:a_=uj g u.params n z C.toks y C.gens.size j A F d b.length f i k:=ba;subst W;have au:=G.aE.trans aP;obtain ⟨L,av⟩:=G.K.size;rw [av]at as Z⊢;have aQ:=Y.only au aF;have aU:y+103<L+101:=by
  have:=b9 (G.aE.fr _ _ aK (λh=>h));rw [av]at this;exact this
 generalize (uj g u.params n z C.toks y C.gens.size j A F d b.length f i k).p=ab;have bc:=au.fr _ _ aK (λh=>h);refine gb (ak:=240) (bm t S) O aP.K (hJ aQ.g as) .nil (aC:=[]) a0 bb (br:=l+8) (λw=>P 12 _ ..) t (aW _)
  (R:=λw aw q c=>q= .ok .next/\aa g (λx=>x=w+101\/x=w+1+101\/x=L+101) p aw c/\∃ac e ax,ac.length=hN (gY b) b.length T/\I c (w+101) (ah ac e)/\I c (w+1+101) ax/\∃s v,ax=aJ [U u.params [105] s v]) ?_ ?_
 ·intro w aw ae ay N _;have af:=ay.aE;exact I1 O P a3 (V 0 230 8 240 t S) af.K (aQ.only af aF) a5 ar a6 aI (V 104 101 3 0 t aU) (aD 102 0 0 101 1 0 t (ao Z) (aB ae)) (af.fr _ _ bc (λh=>h)) (af.fr _ _ as (λh=>h)) (N _ _ aO) (N _ _ ci) aM
 refine λw aw bd X q ae be bf bA ay bB _=>aT ?_;rintro rfl;refine λaV=>cE λac bC ax=>bu λaX bg bh=>bo λs v=> ?_;rintro rfl;have W:bd=uk g u.params n z C.toks y C.gens.size j w A L F d b.length f i k B.toks B.gens.size ab:=be;subst W;generalize (uk g u.params n z C.toks y C.gens.size j w A L F d b.length f i k B.toks B.gens.size ab).p=aY;have bi:C.heap.objs.size<=L+101:=by rw [<-av];exact G.aZ
 have bj:aa g p p C X:=(au.trans ay.aE).then aV (λx N=> .inr (by rcases N with q|q|q<;>refine r q ?_<;>refine(?_:C.heap.objs.size<=_)<;>lia)) aF;refine B7 (ak:=240) (bm t S) O aV.K (db bh) (cK (aM _ (aD 206 202 0 101 0 102 t (aq 104 202 102 0 (aq 0 101 104 101 aI aU) (ao Z)) (aB ae)))) (aC:=[]) a0 bf (cr:=8) (λal=>P 18 _ ..) t
  (aG:=λ_ az v a1=>aa g p p az a1/\∃s,v=aj ac.length s) ?_ ?_
 ·intro al az bD _ am _ _ _ _ _;refine ux am.K (am.bW.fr _ _ bg ?_) ?_
  ·intro q;have:w+101=w+102:=q;exact a2 102 101 t (ao q)
  ·rw [aX];unfold hN;refine aS (hy _ _) ?_;simp;exact bm t ar
 refine λal az bk a1 bE bF bl bn bG am _=>an λaA=>aH λbp=> ?_;rintro rfl;have W:bk=ul g u.params n z C.toks y C.gens.size j w A L F d b.length f i k s al B.toks v X.toks B.gens.size X.gens.size aY ab:=bl;subst W;generalize (ul g u.params n z C.toks y C.gens.size j w A L F d b.length f i k s al B.toks v X.toks B.gens.size X.gens.size aY ab).p=bH;obtain ⟨bI,bs⟩:=aA.K.size;refine c2 (ak:=240) (bm t S) O aA.K bs t t (D:=[]) a0 .nil (aC:=[]) a0 bn (P 19 _ ..) ?_;intro bJ bK bL bM bt bv bw;refine r (e' bt) (r (cA bv) ?_);refine r aX (ai.done (.ok (.ret _)) ⟨((bj.then am.bW (λx N=> .inr (by rw [N];refine(?_:C.heap.objs.size<=_);exact cy 0 101 102 0 0 101 0 102 t bi (ao Z) (aB ae))) aF).trans aA).trans (bw.e1 t),bp,t⟩)
end
end
open BY xu xw BZ B0 xy
section
open PySem PySem.W PySem.Calls PySem.SeqAt
open PyProof.Rows
section
variable {a9:Nat}{k:List (Nat×List Bool)}{o e n s:Nat}{y z G:cL}
noncomputable def d7(f:Nat->Nat)(a:List O):Prop:=∀(i:Nat) v,a[i]? =H v->∃b,v=aj (f i) b
theorem d7.snoc {f:Nat->Nat}{b:List O}{i bx:Nat}(h:d7 f b)(e:b.length=i):d7 f (b++[aj (f i) bx]):=λc v a=>by
 rcases fV c b.length with q|q
 ·rw [iU q]at a;exact h c v a
 ·rw [iV q]at a;have:c-b.length=0:=by
   rcases qt (c-b.length)with d|d
   ·exact d
   ·rw [vw (by simp;exact d)]at a;cases a
  rw [this]at a;cases a;have:c=i:=zx (by assumption) (by assumption) (by assumption);subst this;exact⟨bx,t⟩
theorem I3(R:Base g)(X:na g u.params)(ab:hi g u.params)(M:l<=230)(K:aR g C){w D m:Nat}(S:jr a9 k o e n s y z G C.heap)(am:∀q∈k,q.2.length=m)(ac:k.length<=500)(T:a9<=D+101)(N:D<w)
  (ae:I C (D+101) (dn (bq 0) (bq k.length)))(ao:I C (w+101) (ah [] 0))(ap:I C (w+103) dD)(U:∀x,a9<=x->g x=J)(ar:1<=k.length):
  a4 u l J (.compStart gg.e 0 (E D) (E w) (jq n w)) C λq L=>q= .ok .next/\aa g (λx=>x=w+101\/x=w+2+101\/x=D+101) p C L/\
   ∃F e u,F.length=k.length/\d7 (hN (gY k) k.length) F/\I L (w+101) (ah F e)/\I L (w+2+101) (a' u):=by
 refine nd (pZ ae) (a4.c1 λj A=> ?_);have as:oi u g l (.compLoop gg.e 0 (E D) (E w) (jq n w)) (E D) gg.target gg.elt gg.ifs (jq n w) w (w+2) k.length
   (λi C=>I C (D+101) (dn (bq i) (bq (k.length-i)))) (λi v=>∃O,v=aj i O) (· =D+101) p
   (λi F C=>jr a9 k o e n s y z G C.heap/\F.length=i/\d7 (hN (gY k) k.length) F) dD (λ_ v=>a' v):=by
  refine⟨?_, ?_, ?_, ?_, ?_, ?_, ?_, ?_,U _ (aD 0 101 1 0 0 101 t T N)⟩
  ·intro j i C W K bs;exact rK R ab (cP (by kernel_rfl)) (V 0 230 4 500 t M) K W (U _ T) bs
  ·intro i C L bs B;exact B.fr _ _ bs (by rintro (q|q)<;>simp only [vu]at q<;>lia)
  ·refine λi F C L=>aT λa b c B=>⟨a.only B ?_,b,c⟩;rintro x (q|q|q)<;>refine r q ?_<;>refine(?_:a9<=_)<;>lia
  ·refine λj i v C au W=>aH λav=> ?_;rintro rfl;intro K af aw;refine r ja ?_;have ai:g (w+103)=none:=U _ (aD 0 101 1 0 0 103 t T N);rcases aw with rfl|⟨O,aA,rfl⟩
   ·exact Q.eC (ak:=240) (bm t M) R K (db af) (cK ai) (aC:=[]) a0 (λY A=>X 9 _ ..) t (λY L _ B Z=>⟨0,B.bW,Z _ _ aO⟩)
   ·exact Q.eC (ak:=240) (bm t M) R K (db af) (cK ai) (aC:=[]) a0 (λY A=>X 10 _ ..) t (λY L _ B Z=>⟨0,B.bW,Z _ _ aO⟩)
  ·refine λj i v O F C W=>aH λav=> ?_;rintro rfl;refine λK=>aT λS al ax ay=> ?_;refine r (show gg.ifs=[]from by kernel_rfl) (Q.m_ ?_);rw [if_pos t];refine(I2 R X ab M K S am ac W (aD 0 101 1 0 0 101 t T N) ay U).mono ?_ (λ_ _ h=>h);refine λv L=>an λB=>aH λO=> ?_;rintro rfl;exact⟨B,S.only B aF,by rw [e9,al];rfl,ax.snoc al⟩
  ·intro q;have:w+101=D+101:=q;exact a2 102 101 t (aq 1 0 101 101 N (aB q))
  ·intro q;have:w+2+101=D+101:=q;exact a2 104 101 t (aq 1 0 103 101 N (aB q))
  ·exact bA 0 2 t
 refine(pV (cC:=C) t (λv=>IZ v _) (by kernel_rfl) (cP (by kernel_rfl)) (V 0 230 4 600 t M) (bm t ac) as k.length 0 [] C A (by lia) (by simp) ae ⟨S,t,λi v h=>by cases h⟩ (.refl K) ⟨0,ao⟩ ⟨_,ap,.inl ⟨t,t⟩⟩).mono ?_;rintro (aE|_) L
 ·refine aT ?_;rintro rfl;refine λB=>cE λF az au=>bu ?_;refine aT λa b c d f P=> ?_;rcases P with⟨_,P⟩|⟨O,v,P⟩
  ·exact absurd P (aX (ar))
  ·exact⟨t,B,F,az,v,b,c,d,by unfold I;refine r f (r P ?_);rfl⟩
 ·exact λh=>h
theorem I4(K:aR g C){a:ae}{b:List O}{m:Nat}(h:I C a (ah b m)){f:Nat->Nat}(n:d7 f b){d j c:Nat}(G:b.length<=1000)(o:c<b.length)(w:f c=d)(x:∀i,i<c->f i≠d):
  a4 u l J (.call (.builtin "list.index") ⟨[.ref a,aj d j],[]⟩) C λq A=>aa g p p C A/\∃j,q= .ok (.ret (aj c j)):=by
 have s:∀i (k:i<b.length),∃j,b[i]=aj (f i) j:=λi k=>n i _ (by simp [k]);refine a4.meets F.slot_list_index ⟨_,h,t⟩ F.entry_list_index (F.args_list_index_2 _ _) (list_indexAt a ⟨b⟩ m J #[] (aj d j) (λy=>match y with| .int z _=>z==bq d|_=>aN) c o (by refine(?_:(c:Int)<2^63-1);lia) ?_ ?_) ⟨h, ?_, ?_⟩
 ·obtain ⟨v,e⟩:=s c o;refine(?_:(match b[c]with| .int z _=>z==bq d|_=>aN)=ag);refine r e ?_;simp [w]
 ·intro i k B;obtain ⟨v,e⟩:=s i k;refine(?_:(match b[i]with| .int z _=>z==bq d|_=>aN)=aN);refine r e ?_;have:=x i B;simp;lia
 ·intro y D;have E:y∈b:=by simpa using D
  obtain ⟨i,k⟩:=oU.mp E;obtain ⟨v,rfl⟩:=n i y k;exact v4 _ _ _ _
 ·exact⟨.toks K _,_,t⟩
theorem I5(P:Base g)(T:na g u.params)(aG:hi g u.params)(L:l<=230)(K:aR g C){m s F W k:Nat}{M:List O}{f y:Nat->Nat}(av:k<=500)(aI:1<=k)(aw:M.length=k)(aK:d7 f M)(aL:∀N,N<k->y N<k/\f (y N)=N/\∀i,i<y N->f i≠N)
  (ae:a9<=s+101)(X:s<m)(Y:I C (n+104) (a' (E F)))(S:I C (F+101) (ah M W))(aM:n+104<a9)(aP:F+101<a9)
  (ax:I C (s+101) (dn (bq 0) (bq k)))(aQ:I C (m+101) (ah [] 0))(af:I C (m+102) (aJ []))(al:∀x,a9<=x->g x=J):
  a4 u l J (.compStart hM.e 0 (E s) (E m) (k4 n m)) C λq w=>q= .ok .next/\aa g (λx=>x=m+101\/x=m+1+101\/x=s+101) p C w/\
   ∃z e o v,z.length=k/\d7 y z/\I w (m+101) (ah z e)/\I w (m+1+101) (aJ [U u.params kD o v]):=by
 refine nd (pZ ax) (a4.c1 λj A=> ?_);have aS:oi u g l (.compLoop hM.e 0 (E s) (E m) (k4 n m)) (E s) hM.target hM.elt hM.ifs (k4 n m) m (m+1) k
   (λi C=>I C (s+101) (dn (bq i) (bq (k-i)))) (λi v=>∃o,v=aj i o) (· =s+101) p
   (λi z C=>I C (n+104) (a' (E F))/\I C (F+101) (ah M W)/\z.length=i/\d7 y z) (aJ []) (λo v=>aJ [U u.params kD o v]):=by
  refine⟨?_, ?_, ?_, ?_, ?_, ?_, ?_, ?_,al _ (aD 0 101 1 0 0 101 t ae X)⟩
  ·intro j i C Z K bs;exact rK P aG (cP (by kernel_rfl)) (V 0 230 4 500 t L) K Z (al _ ae) bs
  ·intro i C w bs B;exact B.fr _ _ bs (by rintro (q|q)<;>simp only [vu]at q<;>lia)
  ·refine λi z C w=>bu λa b c d B=> ?_;have G:∀x:Nat,x<a9->¬(x=m+101\/x=m+1+101\/x=s+101):=λx G q=>by lia
   exact⟨B.fr _ _ a (G _ aM),B.fr _ _ b (G _ aP),c,d⟩
  ·refine λj i v C aU Z=>aH λam=> ?_;rintro rfl;intro K ay ap;refine r ja ?_;have az:g (m+102)=none:=al _ (aD 0 101 1 0 0 102 t ae X);rcases ap with rfl|⟨o,bd,rfl⟩
   ·exact Q.eC (ak:=240) (bm t L) P K (db ay) (cK az) (aC:=[]) a0 (λar A=>T 20 _ ..) t (λar w _ B G=>⟨_,B.bW,G _ _ aO⟩)
   ·exact Q.eC (ak:=240) (bm t L) P K (db ay) (cK az) (aC:=[]) a0 (λar A=>T 21 _ ..) t (λar w _ B G=>⟨_,B.bW,G _ _ aO⟩)
  ·refine λj i v o z C Z=>aH λam=> ?_;rintro rfl;refine λK=>bu λY S aA aV af=> ?_;refine r (show hM.ifs=[]from by kernel_rfl) (Q.m_ ?_);rw [if_pos t,en];obtain ⟨aY,aZ,a1⟩:=aL i Z;refine Q.mono (Q.bN (cJ:=λaF w=>aa g p p C w/\∃o,aF= .ok (.ret (aj (y i) o))) λA=> ?_) ?_ ?_
   rotate_left
   ·refine λv w=>an λa=>aH λo h=> ?_;cases h;exact⟨a,⟨a.fr _ _ Y (λh=>h),a.fr _ _ S (λh=>h),by rw [e9,aA];rfl,aV.snoc aA⟩⟩
   ·refine λv w=>an λa=>aH λo h=> ?_;cases h
   refine gb (ak:=240) (bm t L) P K (j2 af Y S) .nil (aC:=[]) a0 t (br:=l+8) (λab=>T 22 _ ..) t (aW _)
    (R:=λ_ as q w=>aa g p p as w/\∃o,q= .ok (.ret (aj (y i) o))) ?_ ?_
   ·intro ab as _ ac _ _;exact I4 ac.K (ac.aE.fr _ _ S (λh=>h)) aK (aD 0 0 0 500 0 1000 t (aB aw) av) (aD 1 0 0 0 1 0 t aY (ao aw)) aZ a1
   refine λab as a3 be q bf a5 a6 bg ac _ _=>an λau=>aH λa7=> ?_;rintro rfl;have a8:a3=uo g u.params n ab C.toks C.gens.size W j m A M i am s F o:=a5;subst a8;generalize (uo g u.params n ab C.toks C.gens.size W j m A M i am s F o).p=bh;obtain ⟨bi,a_⟩:=au.K.size;refine c2 (ak:=240) (bm t L) P au.K a_ t t (D:=[]) a0 .nil (aC:=[]) a0 a6 (T 23 _ ..) ?_;intro bj bk bl bn ap ba bb;refine r (e' ap) (r (cA ba) ?_);exact ai.done (.ok (.ret _)) ⟨(ac.aE.trans au).trans (bb.e1 t),a7,t⟩
  ·intro q;have:m+101=s+101:=q;exact a2 102 101 t (aq 1 0 101 101 X (aB q))
  ·intro q;have:m+1+101=s+101:=q;exact a2 103 101 t (aq 1 0 102 101 X (aB q))
  ·exact bA 0 1 t
 refine(pV (cC:=C) t (λv=>I0 v _) (by kernel_rfl) (cP (by kernel_rfl)) (V 0 230 4 600 t L) (bm t av) aS k 0 [] C A (by lia) (by simp) ax ⟨Y,S,t,λi v h=>by cases h⟩ (.refl K) ⟨0,aQ⟩ ⟨_,af,.inl ⟨t,t⟩⟩).mono ?_;rintro (aF|_) w
 ·refine aT ?_;rintro rfl;refine λB=>cE λz bc aU=>bu ?_;refine bu λ_ _ b c d f y=> ?_;rcases y with⟨_,y⟩|⟨o,v,y⟩
  ·exact absurd y (aX (aI))
  ·exact⟨t,B,z,bc,o,v,b,c,d,by unfold I;refine r f (r y ?_);rfl⟩
 ·exact λh=>h
end
end
section
open PySem PySem.W PySem.Calls PySem.SeqAt
open PyProof.Rows
theorem B8 {c:Type}{b:Nat->Nat->Bool}{X:Prop}:∀(M:KasT c) (C:ac),M.kasWp (λi a d C=>d (b i a) C) (λ_ _=>X) C->X
 | .ret _,_,h=>h
 | .ask i a k,C,h=>B8 (k (b i a)) C h
theorem I6(C:ac)(c:Nat->Nat){n:Nat}(f:1<=n):∃A,cu n A/\ep c A n:=
 B8 (b:=λi d=>decide (c i<c d)) (kas_sort n) C
  (Bn (dt:=λ_=>True) (jk:=λi d e C=>e (decide (c i<c d)) C) (λi d e C _ _ _ _ h=>h C trivial) f trivial λA _ _ a b=>⟨A,a,b⟩)
section
variable {A:Array Nat}{a3:Nat->Nat}
theorem cu.list(h:cu n A):A.toList=(c8 n).map (bf A):=by
 refine sF (by rw [sU,h.z];simp) λi d b=> ?_;have a:i<n:=by simpa using b
 have:=jj h a;simp only [sG,qv,Array.getElem_toList];have c:i<A.size:=by rw [h.z];exact a
 rw [zj c]at this;injection this
theorem cu.I7(h:cu n A){a:Nat}(b:a<n):∃i,i<n/\bf A i=a:=by
 have:a∈A.toList:=(h.perm.mem_iff).mpr (mr.mpr b);rw [h.list]at this;refine aw (hx.mp this) (aH λi=>an λc e=> ?_);exact⟨i,mr.mp c,e⟩
theorem I8 {a b:Nat}(h:lY a3 a b):¬lY a3 b a:=by
 exact λq=>h.elim (λc=>q.elim (λbV=>lp c bV) λbV=>aX c bV.1) λc=>q.elim (λbV=>aX bV c.1) λbV=>lp c.2 bV.2
theorem I9(i n:Nat)(h:i<=n):((c8 n).filter λk=>decide (k<i)).length=i:=by
 induction n with
 |zero=>
  have:i=0:=dF h (be _);subst this;rfl
 |succ n b=>
  rw [vz,ls,e9];rcases fV n i with q|q
  ·have:i=n+1:=dF (h) (q);subst this;have e:((c8 n).filter λk=>decide (k<n+1))=c8 n:=qw.mpr λa c=>by
    have:=mr.mp c;simp;exact V 1 0 1 1 t this
   refine r e ?_;simp
  ·refine r (b q) ?_;simp;exact q
theorem xA(h:cu n A)(C:ep a3 A n){i:Nat}(b:i<n):hN a3 n (bf A i)=i:=by
 unfold hN;have c:((c8 n).filter λa=>j6 a3 a (bf A i)).length=(A.toList.filter λa=>j6 a3 a (bf A i)).length:=((h.perm.filter _).length_eq).symm;rw [c,h.list,qx,bM];have d:((c8 n).filter ((λa=>j6 a3 a (bf A i))∘bf A))=(c8 n).filter λk=>decide (k<i):=by
  refine qy λk e=> ?_;have f:=mr.mp e;refine(?_:j6 a3 (bf A k) (bf A i)=decide (k<i));rw [nK];unfold j6;simp only [decide_eq_true_eq];constructor
  ·intro q;rcases sy k i with a|a|a
   ·exact a
   ·subst a;exact absurd q (by lia)
   ·exact absurd (C i k a f) (I8 (a3:=a3) q)
  ·intro q;exact C k i q b
 exact r d (I9 i n (eW b))
theorem B9(h:cu n A)(C:ep a3 A n){a i:Nat}(b:a<n)(d:i<n)(e:hN a3 n a=i):a=bf A i:=by
 refine aw (h.I7 b) (aH λk=>an λc=> ?_);rintro rfl;rw [xA h C c]at e;refine r e ?_;rfl
theorem B_ {q:Array Nat}(h:cu n A)(C:ep a3 A n)(b:cu n q)(c:ep a3 q n){i:Nat}(a:i<n):bf q i=bf A i:=B9 h C (b.lt a) a (xA b c a)
end
theorem I_(W:Base g)(X:na g u.params)(bv:hi g u.params)(Y:l<=190)(K:aR g C){y e m:Nat}{c:List (Nat×List Bool)}(bU:∀q∈c,q.2.length=m)(bx:1<=c.length)(ar:c.length<=500)
  (as:I C (y+101) (ah (c.map λq=>E q.1) e))(bz:∀q∈c,∃aI,I C (q.1+101) (dx q.2 aI)){A:Array Nat}(aK:cu c.length A)(bA:ep (gY c) A c.length):
  a4 u l J (.call (.ref 94) ⟨[E y],[]⟩) C λq N=>aa g p p C N/\∃a Q e,q= .ok (.ret (E a))/\C.heap.objs.size<=a+101/\I N (a+101) (ah Q e)/\Q.length=c.length/\d7 (bf A) Q:=by
 refine a4.c1 λj O=>ai.dN λcT bV=> ?_;have bX:∀n:Nat,C.heap.objs.size=n+101->y+101<n+101:=λn L=>by
  have:=b9 as;rw [L]at this;exact this
 generalize bB:(c.map λq=>E q.1)=G at as;have bC:G.length=c.length:=by rw [<-bB,bM]
 refine B7 (ak:=200) (bm t Y) W K (db as) .nil (aC:=[]) a0 t (cr:=8) (λn=>X 3 _ ..) t
  (aG:=λ_ D v k=>aa g p p D k/\∃z,v=aj G.length z) ?_ ?_
 ·intro n D cU _ aL _ _ _ _ _;exact ux aL.K (aL.aE.fr _ _ as (λh=>h)) (aD 0 0 0 500 0 1000 t (aB bC) ar)
 refine λn D bY k v L bZ b0 cW aL a6=>an λau=>aH λz=> ?_;rintro rfl;refine r bC ?_;have S:bY=ug g u.params n y C.toks C.gens.size e j O G:=bZ;subst S;have ac:∀x:Nat,n+101<=x->g x=none:=λx f=>K.fresh (by rw [L];exact f);have b2:aa g p p C k:=aL.aE.trans au;have b3:=au.fr _ _ (a6 _ _ aO) (λh=>h);have b4:=au.fr _ _ (a6 _ _ ci) (λh=>h);have bD:=au.fr _ _ (a6 _ _ dK) (λh=>h);generalize (ug g u.params n y C.toks C.gens.size e j O G).p=Z;refine gb (ak:=200) (bm t Y) W au.K (db b4) (cK (ac _ (bw t))) (aC:=[]) a0 b0 (br:=l+8) (λb=>X 4 _ ..) t (aW _)
  (R:=λ_ D q N=>q= .ok (.ret (.ref D.heap.objs.size))/\aa g p p D N/\I N D.heap.objs.size (dn (bq 0) (bq c.length))/\N.heap.objs.size=D.heap.objs.size+1) ?_ ?_
 ·intro b b5 _ aM f _;exact uw aM.K (f _ _ ci) (V 0 500 1 1000 t ar)
 refine λb b5 b7 o q b_ b' ca cX aM bE _=>bu ?_;rintro rfl;intro aP a8 aQ;have S:b7=uh g u.params n y C.toks C.gens.size e j O c.length G b k.toks k.gens.size z Z:=b';subst S;obtain ⟨M,bF⟩:=aM.K.size;rw [bF]at a8 aQ⊢;have s:n+104<b+101:=by
  have:=b9 bD;rw [b_]at this;exact this
 have bG:=bE _ _ ci;have P:b+101<M+101:=by
  have:=b9 bG;rw [bF]at this;exact this
 have cb:=aM.bW;have a_:aa g (· =n+103) p k o:=cb.then aP aF aF;have ba:aa g p p C o:=b2.then a_ (λx f=> .inr (by rw [f,L];exact bw t)) aF;have cc:∀q∈c,q.1+101<n+101:=λq B=>by
  obtain ⟨aI,bb⟩:=bz q B;have:=b9 bb;rw [L]at this;exact this
 have bH:jr (b+102) c y e n b k.toks z (k.toks+1) o.heap:=⟨by refine r bB ?_;exact ba.fr _ _ as (λh=>h),λq B=>by obtain ⟨aI,bb⟩:=bz q B;exact⟨aI,ba.fr _ _ bb (λh=>h)⟩,a_.fr _ _ b3 (by intro q;have:n+102=n+103:=q;exact a2 103 102 t (ao q)),aP.fr _ _ (bE _ _ aO) (λh=>h),aP.fr _ _ bG (λh=>h),
  by have:=bX n L;refine(?_:y+101<b+102);exact aD 102 101 105 101 102 102 t this s,λq B=>by have:=cc q B;refine(?_:q.1+101<b+102);exact aD 102 101 105 101 102 102 t this s,V 105 101 105 102 t s,by refine(?_:b+101<b+102);exact cV 102 102 t⟩
 have cd:=a_.fr _ _ bD (by intro q;have:n+104=n+103:=q;exact a2 104 103 t (aB q));have ce:∀x:Nat,b+102<=x->g x=none:=λx f=>ac x (aD 105 101 102 0 101 0 t s f);generalize (uh g u.params n y C.toks C.gens.size e j O c.length G b k.toks k.gens.size z Z).p=af;refine gb (ak:=200) (bm t Y) W aP.K (db a8) .nil (aC:=[]) a0 ca (br:=l+8) (λd=>X 5 _ ..) t (aW _)
  (R:=λd bc q w=>q= .ok .next/\aa g (λx=>x=d+101\/x=d+2+101\/x=M+101) p bc w/\∃aU e u,aU.length=c.length/\d7 (hN (gY c) c.length) aU/\I w (d+101) (ah aU e)/\I w (d+2+101) (a' u)) ?_ ?_
 ·intro d bc aV bd be _;have bg:=bd.aE;refine I3 W X bv (V 0 190 8 230 t Y) bg.K (bH.only bg aF) bU ar P ?_ (bg.fr _ _ a8 (λh=>h)) (be _ _ aO) (be _ _ ci) ce bx;exact aD 102 0 0 101 1 0 t (ao aQ) (aB aV)
 refine λd bc cf w q aV cg ch cY bd be _=>aT ?_;rintro rfl;refine λbI=>cE λaU cZ al=>bu λck cl cm bJ=> ?_;have S:cf=ui g u.params n y C.toks d C.gens.size e j O M c.length G b k.toks k.gens.size z Z o.toks o.gens.size af:=cg;subst S;have T:d=M+1:=dF (aD 101 0 0 102 0 1 t (ao aV) (aB aQ)) (aD 102 0 0 101 1 0 t (ao aQ) (aB aV));have bh:aa g (λx=>x=d+101\/x=d+2+101\/x=M+101) p o w:=bd.aE.zero.then bI (λ_ h=> .inl h) aF;have bi:∀x:ae,(x=d+101\/x=d+2+101\/x=M+101)->b+102<=x:=λx f=>by rcases f with q|q|q<;>refine r q ?_<;>refine(?_:b+102<=_)<;>lia
 have aY:=bH.only bh bi;have cn:=bh.fr _ _ cd (λq=>absurd (bi _ q) (by refine(?_:¬(b+102<=n+104));exact gG (V 105 101 105 102 t s)));have co:aa g p p C w:=ba.then bh (λx f=> .inr (by have:=bi x f;exact r L (aS (show n+101<=b+102 from V 105 101 101 102 t s) this))) aF;generalize (ui g u.params n y C.toks d C.gens.size e j O M c.length G b k.toks k.gens.size z Z o.toks o.gens.size af).p=a1;have cp:∀x∈[((d+103:ae),a' al),(n+104,dD),(n+103,a' (E b)),(b+101,k3 (bq c.length) k.toks z (k.toks+1))],I w x.1 x.2:=by
  intro x f;rcases b8.mp f with rfl|f
  ·exact bJ
  rcases b8.mp f with rfl|f
  ·exact cn
  exact hJ aY.p aY.g x f
 have cq:b6 g [((d+103:ae),a' al),(n+104,dD),(n+103,a' (E b)),(b+101,k3 (bq c.length) k.toks z (k.toks+1))] [0,1]:=by
  refine .nodup ?_ ?_
  ·simp;exact⟨⟨aX (cy 105 101 102 101 1 0 2 0 t s P (ao T)),⟨aX (cy 105 101 102 101 1 0 1 0 t s P (ao T)),aX (aD 102 101 1 0 1 2 t P (ao T))⟩⟩,⟨a7 (V 105 101 4 0 t s),a7 (V 105 101 3 0 t s)⟩⟩
  ·intro i av a bj;simp only [b8,nJ,or_false]at av;rcases av with rfl|rfl<;>injection bj with bj<;>refine r (cj bj) ?_
   ·exact ac (d+103) (cy 105 101 102 101 1 0 101 103 t s P (ao T))
   ·exact ac (n+104) (bw t)
 refine gb (ak:=200) (bm t Y) W bI.K cp cq (aC:=[]) a0 ch (br:=l+8) (λam=>X 6 _ ..) t (aW _)
  (R:=λ_ D q N=>q= .ok (.ret (.ref D.heap.objs.size))/\aa g p p D N/\I N D.heap.objs.size (dn (bq 0) (bq c.length))/\N.heap.objs.size=D.heap.objs.size+1) ?_ ?_
 ·intro am bK _ ap f _;refine uw ap.K (ap.fr _ _ aY.g λq=> ?_) (V 0 500 1 1000 t ar);refine aw (hW.mp q) (aH λcs=>an λax B=> ?_);simp only [b8,nJ,or_false]at ax;rcases ax with rfl|rfl<;>injection B with B
  ·have:d+103=b+101:=B;exact a2 206 202 t (aq 103 101 103 101 (aq 102 101 1 0 P (ao T)) (aB this))
  ·have:n+104=b+101:=B;exact a2 206 205 t (aq 105 101 101 104 s (ao this))
 refine λam bK ct ay q c0 cv cw c3 ap cx _=>bu ?_;rintro rfl;intro az bk bL;have S:ct=um g u.params n y C.toks d C.gens.size e j O M c.length G b k.toks k.gens.size z Z o.toks o.gens.size af al am w.toks w.gens.size a1:=cv;subst S;obtain ⟨ab,bN⟩:=ap.K.size;rw [bN]at bk bL⊢;have bl:d+103<ab+101:=by
  have:=b9 bJ;have bO:=ap.aZ;rw [bN]at bO;exact bP this bO
 have bn:aa g (λx=>x=d+103\/x=n+104) p w bK:=ap.mono (λx f=>by
  refine aw (hW.mp f) (aH λcs=>an λax B=> ?_);simp only [b8,nJ,or_false]at ax;rcases ax with rfl|rfl<;>injection B with B
  ·exact .inl (.inl B.symm)
  ·exact .inl (.inr B.symm)) aF
 have cz:aa g p p C ay:=(co.then bn (λx f=> .inr (by rcases f with q|q<;>(refine r q (r L ?_))<;>lia)) aF).trans az;have cB:=az.fr _ _ (cx _ _ aO) (λh=>h);have cC:=az.fr _ _ (bn.fr _ _ cm (by rintro (q|q);{have:d+101=d+103:=q;exact a2 103 101 t (ao q)};{have:d+101=n+104:=q;exact a2 309 306 t (aq 208 202 101 104 (aq 207 202 1 0 (aq 105 101 102 101 s P) (ao T)) (aB q))})) (λh=>h);have cD:=az.fr _ _ (bn.fr _ _ aY.g (by rintro (q|q);{have:b+101=d+103:=q;exact a2 206 202 t (aq 103 101 103 101 (aq 102 101 1 0 P (ao T)) (ao q))};{have:b+101=n+104:=q;exact a2 206 205 t (aq 105 101 101 104 s (aB q))})) (λh=>h);generalize (um g u.params n y C.toks d C.gens.size e j O M c.length G b k.toks k.gens.size z Z o.toks o.gens.size af al am w.toks w.gens.size a1).p=bQ;refine gb (ak:=200) (bm t Y) W az.K (hJ cD bk) .nil (aC:=[]) a0 cw (br:=l+8) (λF=>X 7 _ ..) t (aW _)
  (R:=λF bo q aA=>q= .ok .next/\aa g (λx=>x=F+101\/x=F+1+101\/x=ab+101) p bo aA/\∃Q e z v,Q.length=c.length/\d7 (bf A) Q/\I aA (F+101) (ah Q e)/\I aA (F+1+101) (aJ [U u.params kD z v])) ?_ ?_
 ·intro F bo bR bp bs _;have a3:=bp.aE;refine I5 (a9:=ab+101) W X bv (V 0 190 8 230 t Y) a3.K ar bx ck cl (λc4 a5=>⟨aK.lt a5,xA aK bA a5,λi av e=> ?_⟩) (aW _) (aD 102 0 0 101 1 0 t (ao bL) (aB bR)) (a3.fr _ _ cB (λh=>h)) (a3.fr _ _ cC (λh=>h)) (by refine(?_:n+104<ab+101);exact aD 208 202 104 101 105 101 t (aq 207 202 1 0 (aq 105 101 102 101 s P) (ao T)) bl) (by refine(?_:d+101<ab+101);exact V 104 101 102 101 t bl) (a3.fr _ _ bk (λh=>h)) (bs _ _ aO) (bs _ _ ci) (λx f=>ac x (aD 312 303 101 0 101 0 t (aq 208 202 104 101 (aq 207 202 1 0 (aq 105 101 102 101 s P) (ao T)) bl) f));have:=B9 aK bA (hV av (aK.lt a5)) a5 e;exact a2 1 0 t (aq 1 0 0 0 av (ao this))
 refine λF bo cF aA q bR cG cH c5 bp bs _=>aT ?_;rintro rfl;refine λbt=>gL λQ cI c6 c7=>bu λcJ cL cM cN=> ?_;have S:cF=un g u.params n y C.toks d C.gens.size e j F O M c.length G b k.toks ab k.gens.size z Z o.toks o.gens.size af ay.toks al am ay.gens.size w.toks w.gens.size bQ a1:=cG;subst S;generalize (un g u.params n y C.toks d C.gens.size e j F O M c.length G b k.toks ab k.gens.size z Z o.toks o.gens.size af ay.toks al am ay.gens.size w.toks w.gens.size bQ a1).p=c9;obtain ⟨c_,cO⟩:=bt.K.size;refine c2 (ak:=200) (bm t Y) W bt.K cO t t (db cN) (cK (ac _ (by lia))) (aC:=[]) a0 cH (X 8 _ ..) ?_;intro bS c' da dc cP cQ cR;refine r (e' cP) (r (cA cQ) ?_);have bT:aa g (· =F+1+101) p aA bS:=(cR.only t).bW;have cS:aa g p p C bS:=((cz.trans bp.aE).then bt (λx f=> .inr (by rcases f with q|q|q<;>(refine r q (r L ?_))<;>lia)) aF).then bT (λx f=> .inr (by rw [f,L];lia)) aF;exact ai.done (.ok (.ret _)) (bV _ _ ⟨cS,F,Q,cI,t,by rw [L];lia,bT.fr _ _ cM (by intro q;have:F+101=F+1+101:=q;exact a2 102 101 t (ao q)),cJ,cL⟩)
end
section
open PySem PySem.W PySem.Calls PySem.SeqAt
open PyProof.Rows
theorem I' {P:a1}{h:aY}(e:h.get? 60=H (xx P)):h.Ns 60 (nsFind (tT (xx P))):=
 ⟨_,_,_,e,t,by
  refine w5 ?_;exact a_ (bh _ _ t)<|a_ (bh _ _ t)<|a_ (bh _ _ t)<|a_ (bh _ _ t)<|a_ (bh _ _ t)<|a_ (bh _ _ t)<|a_ (bh _ _ t)<|a_ (bh _ _ t)<|dG,λ_=>t⟩
theorem B'(a:nc g u.params)(K:aR g C){x d:ae}(h:I C x (ea d)):C.heap.CmpInst x 61 [.type "object"]:=
 gr _ _ _ 60 _ _ _ _ (gr _ _ _ _ _ _ _ _ (bh _ _ ⟨h,t,K.kt _ _ (a 0),I' (K.kt _ _ (a 1)),by kernel_rfl,by kernel_rfl⟩))
theorem Ja(a:nc g u.params)(K:aR g C){b:ef}(c:b.units<mw){x y d f:ae}(h:I C x (ea d))(i:I C y (ea f)):jJ b C (.ref x) (.ref y) (decide (x=y)):=by
 by_cases e:x=y
 ·subst e;rw [decide_eq_true t];exact jJ.same _
 ·rw [decide_eq_false e];obtain ⟨k,l,d,M,os⟩:=C;exact jJ.of_refs e λm n af o j=>richCompare_eq_other lA lA (B' a K h) (B' a K i) e c j
noncomputable def nf(d:Nat)(a:List (Nat×Int×Nat)):List (Nat×Int×Nat):=a.filter (λq=> !b' q.2.1 d)++a.filter (λq=>b' q.2.1 d)
noncomputable def ih(q:Nat×Int×Nat):fU:=(bg q,q.2)
theorem Jb(d:Nat)(a:List (Nat×Int×Nat)):(dC d (a.map ih)).map (·.1)=(a.filter λq=> !b' q.2.1 d).map bg:=by
 unfold dC;refine r qx (r hX ?_);rfl
theorem xB(a:List (Nat×Int×Nat)):(a.map ih).map (·.1)=a.map bg:=by
 rw [hX];rfl
theorem xC(K:aR g C){a b:ae}{c d:List O}{e f:Nat}(h:I C a (ah c e))(j:I C b (ah d f))(k:c.length+d.length<=2000):
  a4 u l J (.call (.builtin "list.__add__") ⟨[.ref a,.ref b],[]⟩) C λq i=>q= .ok (.ret (.ref C.heap.objs.size))/\aa g p p C i/\I i C.heap.objs.size (ah (c++d) 0):=by
 refine a4.meets F.slot_list_add ⟨_,h,t⟩ F.entry_list_add (F.args_list_add_2 _ _) (AutoSeq1.list___add___list_list_0 a ⟨c⟩ e b ⟨d⟩ f (aS k (show 2000<=lv by decide+kernel))) ⟨h,j,t,aa.push K, ?_⟩;have:(⟨c⟩:Array O)++⟨d⟩=⟨c++d⟩:=by simp
 refine r this (kA _ t)
section
variable {dv:ae->Prop}{ay a d e:Nat}{aP:List (Nat×Int×Nat)}
theorem df.obj {P:a1}{h:aY}{q:Nat×Int×Nat}{x:Int}{b:Nat}(M:df P dv h (bg q) x b):dv (q.1+101)/\∃c,h.get? (q.1+101)=H (ea c):=by
 refine aw M (jK λf g _ _ _ _=>gs λa d _ e _=> ?_);injection a with a;exact r a ⟨d,_,e⟩
theorem Jc:∀v a,d9 fE.target (.ref a) v=pure ():=λ_ _=>by rfl
theorem Jd:∃A,fE.ifs=[.Compare (d5 (fE.ifs.headD default)).1 [.NotIn] [(d5 (fE.ifs.headD default)).2] A]:=⟨ez (fE.ifs.headD default),by kernel_rfl⟩
theorem Je:mD .NotIn (d5 (fE.ifs.headD default)).2=false:=by kernel_rfl
theorem Jf(N:Base g)(G:nc g u.params)(B:l<=230)(K:aR g C){n k ar ac:Nat}{bS:List (Nat×Int×Nat)}(az:aP.length<=500)(aA:1<=aP.length)(aD:∀y∈bS,y∈aP)
  (P:∀q∈aP,∃o,I C (q.1+101) (ea o))(aF:∀q∈aP,q.1+101<k+101)(T:I C (ar+101) (ah (bS.map bg) ac))(aG:ar+101<k+101)(W:I C (n+102) (a' (E ar)))(aI:n+102<k+101)
  (aK:I C (ay+101) (ah (aP.map bg) e))(ae:ay+101<k+101)(ap:I C (k+101) (b2 (ay+101) 0))(aL:I C (k+102) (ah [] 0))(X:I C (k+103) (aJ []))(af:∀x:Nat,k+101<=x->g x=J):
  a4 u l J (.compStart fE.e 0 (E k) (.ref (k+102)) (ig n k)) C λq z=>q= .ok .next/\aa g (λx=>x=k+1+101\/x=k+2+101\/x=k+101) p C z/\
   ∃e D v,I z (k+102) (ah ((aP.filter λq=> !(bS.any λy=>decide (y.1=q.1))).map bg) e)/\I z (k+103) (aJ [U u.params el D v]):=by
 refine nd (xz ap) (a4.c1 λj A=> ?_);obtain ⟨bc,aM⟩:=Jd;have ai:∀{x:Nat},x<k+101->¬(x=k+1+101\/x=k+2+101\/x=k+101):=λh q=>gG h (q.elim (λe=>aS (g7 (dq k 1) 101) (ao e)) λq=>q.elim (λe=>aS (g7 (dq k 2) 101) (ao e)) λe=>ao e);have aQ:oi u g l (.compLoop fE.e 0 (E k) (.ref (k+102)) (ig n k)) (E k) fE.target fE.elt fE.ifs (ig n k) (k+1) (k+2) aP.length
   (λi C=>I C (k+101) (b2 (ay+101) i)/\I C (ay+101) (ah (aP.map bg) e)) (λi v=>∃q,aP[i]? =H q/\v=bg q) (· =k+101) p
   (λi Y C=>(∀q∈aP,∃o,I C (q.1+101) (ea o))/\I C (ar+101) (ah (bS.map bg) ac)/\I C (n+102) (a' (E ar))/\Y=((aP.take i).filter λq=> !(bS.any λy=>decide (y.1=q.1))).map bg) (aJ []) (λD v=>aJ [U u.params el D v]):=by
  refine⟨?_, ?_, ?_, ?_, ?_, ?_, ?_, ?_,af _ (cV 101 102 t)⟩
  ·refine λj i C aj K=>an λbs Z=>(B2 (cP (by kernel_rfl)) (V 0 230 4 600 t B) K (by rw [bM];exact aj) (af _ (aW _)) bs Z).mono ?_ (λ_ _ h=>h);refine λm z=>an λL R=>⟨L, ?_⟩;cases m with
   |none=>exact R.trans (bM ..)
   |some v=>
    refine aw R (aT λa b c=> ?_);rw [bM]at a;rw [d1]at b;refine aw (fL.mp b) (aH λq=>an λs=> ?_);rintro rfl;exact⟨a,⟨q,s,t⟩,c,L.fr _ _ Z (by intro q;have:ay+101=k+101:=q;exact a2 203 202 t (aq 102 101 101 101 ae (ao q)))⟩
  ·exact λi C z=>an λbs Z m=>⟨m.fr _ _ bs (by rintro (q|q);{have:k+101=k+1+101:=q;exact a2 102 101 t (ao q)};{have:k+101=k+2+101:=q;exact a2 103 101 t (ao q)}),m.fr _ _ Z (by rintro (q|q);{have:ay+101=k+1+101:=q;exact a2 204 202 t (aq 102 101 102 101 ae (ao q))};{have:ay+101=k+2+101:=q;exact a2 205 202 t (aq 102 101 103 101 ae (ao q))})⟩
  ·refine λi Y C z=>bu λa b c d m=> ?_;exact⟨λq s=>by obtain ⟨o,h⟩:=a q s;exact⟨o,m.fr _ _ h (ai (aF q s))⟩,m.fr _ _ b (ai aG),m.fr _ _ c (ai aI),d⟩
  ·refine λj i v C aU aj=>aH λq=>an λs=> ?_;rintro rfl;intro K R aV;refine r ja ?_;have as:g (k+103)=none:=af _ (bw t);rcases aV with rfl|⟨D,bd,rfl⟩
   ·exact Q.eC (ak:=240) (bm t B) N K (db R) (cK as) (aC:=[]) a0 (λF A=>G 7 _ ..) t (λF z _ m al=>⟨_,m.bW,al _ _ aO⟩)
   ·exact Q.eC (ak:=240) (bm t B) N K (db R) (cK as) (aC:=[]) a0 (λF A=>G 8 _ ..) t (λF z _ m al=>⟨_,m.bW,al _ _ aO⟩)
  ·refine λj i v D Y C aj=>aH λq=>an λs=> ?_;rintro rfl;refine λK=>bu λP T W au X=>r aM (Q.rG (Q.jW ?_ Je));refine r en (Q.V (ak:=240) (v:=λ_=>bg q) (bm t B) N K (db X) .nil (aC:=[]) a0 (λF A=>G 9 _ ..) t (λF be bf aY bh=> ?_));have L:=aY.aE;refine Q.V (ak:=240) (v:=λ_=>E ar) (bm t B) N L.K (db (L.fr _ _ W (λh=>h))) .nil (aC:=[]) a0 (λF A=>G 10 _ ..) t (λbi am bj aZ bk=> ?_);have w:=L.trans aZ.aE;have a1:q∈aP:=dP s;have av:aP.take (i+1)=aP.take i++[q]:=by rw [sC,s];rfl
   refine Q.any (notIn_listAt (items:=⟨bS.map bg⟩) (λv=>match v with| .ref a=>decide (a=q.1+101)|_=>aN) ⟨_,w.fr _ _ T (λh=>h),t,_,t⟩ ?_ ?_)
   ·intro y a3;have a5:y∈bS.map bg:=by simpa using a3
    refine aw (hx.mp a5) (aH λa6=>an λa7=> ?_);rintro rfl;obtain ⟨o,a8⟩:=P a6 (aD _ a7);obtain ⟨bl,a9⟩:=P q a1;exact Ja G w.K (Nat.lt_of_succ_lt (pY (bm t B) (cP (by kernel_rfl)))) (w.fr _ _ a8 (λh=>h)) (w.fr _ _ a9 (λh=>h))
   refine Q.jc ?_;have a_:((⟨bS.map bg⟩:Array O).any λv=>match v with| .ref a=>decide (a=q.1+101)|_=>aN)=bS.any λy=>decide (y.1=q.1):=by
    refine r (show(⟨bS.map bg⟩:Array O)=(bS.map bg).toArray from t) (r List.any_toArray ?_);refine r List.any_map ?_;congr 1;funext y;refine(?_:decide (y.1+101=q.1+101)=decide (y.1=q.1));rw [decide_eq_decide];exact⟨λh=>f7 h,λh=>by refine r h ?_;rfl⟩
   refine r a_ ?_;have M:(∀q∈aP,∃o,I am (q.1+101) (ea o))/\I am (ar+101) (ah (bS.map bg) ac)/\I am (n+102) (a' (E ar)):=⟨λq s=>by obtain ⟨o,h⟩:=P q s;exact⟨o,w.fr _ _ h (λh=>h)⟩,w.fr _ _ T (λh=>h),w.fr _ _ W (λh=>h)⟩;cases ax:(bS.any λy=>decide (y.1=q.1))with
   |true=>
    rw [if_neg (by simp)];exact⟨w,M.1,M.2.1,M.2.2,by rw [au,av,ls];simp [ax]⟩
   |false=>
    rw [if_pos (by simp)];refine Q.V (ak:=240) (v:=λ_=>bg q) (bm t B) N w.K (db (w.fr _ _ X (λh=>h))) .nil (aC:=[]) a0 (λF A=>G 11 _ ..) t (λbn bo _ ba _=> ?_);have ab:=ba.aE;exact⟨w.trans ab,λq s=>by obtain ⟨o,h⟩:=M.1 q s;exact⟨o,ab.fr _ _ h (λh=>h)⟩,ab.fr _ _ M.2.1 (λh=>h),ab.fr _ _ M.2.2 (λh=>h),by rw [au,av,ls];simp [ax]⟩
  ·intro q;have:k+1+101=k+101:=q;exact a2 102 101 t (aB q)
  ·intro q;have:k+2+101=k+101:=q;exact a2 103 101 t (aB q)
  ·exact bA 1 2 t
 refine(pV (cC:=C) t (λv=>Jc v _) (by kernel_rfl) (cP (by kernel_rfl)) (V 0 230 4 600 t B) (bm t az) aQ aP.length 0 [] C A (by lia) (by simp) ⟨ap,aK⟩ ⟨P,T,W,t⟩ (.refl K) ⟨0,aL⟩ ⟨_,X,.inl ⟨t,t⟩⟩).mono ?_;rintro (bp|_) z
 ·refine aT ?_;rintro rfl;refine λm=>cE λY bb aU=>bu ?_;refine bu λ_ _ _ b d f S=> ?_;rcases S with⟨_,S⟩|⟨D,v,S⟩
  ·exact absurd S (aX (aA))
  ·exact⟨t,m,bb,D,v,by rw [ms]at b;refine r (cj b) ?_;exact d,by rw [<-S];exact f⟩
 ·exact λh=>h
end
end
section
open PySem PySem.W PySem.Calls PySem.SeqAt
open PyProof.Rows
section
variable {dv:ae->Prop}{ay f d e:Nat}{aP:List (Nat×Int×Nat)}
theorem Jg {d:Nat}{aP:List (Nat×Int×Nat)}(j:(aP.map (·.1)).Nodup):aP.filter (λq=> !((aP.filter λq=> !b' q.2.1 d).any λy=>decide (y.1=q.1)))=aP.filter λq=>b' q.2.1 d:=by
 refine qy λq c=> ?_;rw [nK,Bool.not_eq_true',List.any_eq_false];constructor
 ·intro h;cases k:b' q.2.1 d with
  |true=>rfl
  |false=>exact absurd (decide_eq_true (p:=q.1=q.1) t) (h q (gI.mpr ⟨c,by refine r k ?_;rfl⟩))
 ·intro h y l e;obtain ⟨m,f⟩:=gI.mp l;have:y=q:=by
   have n:=of_decide_eq_true e;obtain ⟨i,g⟩:=oU.mp m;obtain ⟨o,b⟩:=oU.mp c;have:=py j (i:=i) (bi:=o) (a:=y.1) (by simp [g]) (by simp [b,n]);subst this;rw [g]at b;injection b
  subst this;rw [h]at f;cases f
theorem Jh(N:Base g)(af:nc g u.params)(bl:du g u.params)(bV:gu g u.params)(bW:fB g u.params)(a5:∀d<6,∀x,d6 u g d x (λ_=>True))(O:l<=150)(K:aR g C)(bs:∀x,dv x->x<C.heap.objs.size)(Y:d<6)(bn:ic g u.params dv C.heap f d)
  (a6:∀q∈aP,df u.params dv C.heap (bg q) q.2.1 q.2.2)(bX:(aP.map (·.1)).Nodup)(bp:aP.length<=500)(bY:1<=aP.length)(a8:I C (ay+101) (ah (aP.map bg) e)):
  a4 u l J (.call (.ref 84) ⟨[E ay,E f],[]⟩) C λbZ bt=>aa g p p C bt/\∃a e,bZ= .ok (.ret (E a))/\C.heap.objs.size<=a+101/\I bt (a+101) (ah ((nf d aP).map bg) e):=by
 refine a4.c1 λj A=>ai.dN λcG b0=> ?_;obtain ⟨P,cH,b2⟩:=bn.fn bW Y;refine gb (ak:=200) (bm t O) N K (db b2) .nil (aC:=[]) a0 t (br:=l+8) (λn=>af 2 _ ..) t (aW _)
  (λn B L aI m _=>t2 N bl (V 0 150 8 200 t O) Y aI.K (bn.mono (λb o _ e=>aI.aE.fr b o e (λh=>h)) (λ_ h=>h))) ?_
 refine λn B b3 z q L b4 b5 cI aI bu _=>an λaK=>i7 λcJ cK cL M aj al cM cN=>pk λa9=> ?_;rintro rfl;intro b7 bv b_ cO cP ca;have W:=aI.aE;have X:b3=uq g u.params ay f n C.toks j P C.gens.size A:=b4;subst X;have a_:∀x:Nat,n+101<=x->g x=none:=λx m=>K.fresh (by rw [L];exact m);have cb:=bu _ _ ci;have bx:=bu _ _ dK;have bz:=W.fr _ _ a8 (λh=>h);have bB:=t3 (c3:=aP.map ih) (br:=l+8+10) N bl Y (a5 d Y) (V 0 150 18 340 t O) W.K (λx m=>bP (bs x m) W.aZ) (λy Q=>by
  refine aw (hx.mp Q) (aH λq=>an λk=> ?_);rintro rfl;exact(a6 q k).mono u.params (λb o _ e=>W.fr b o e (λh=>h)) (λ_ h=>h)) (by rw [xB];exact bz) aK a9 b7 bv b_ ca
 rw [Jb]at bB;have cc:((aP.filter λq=> !b' q.2.1 d).map bg).length<800:=by
  rw [bM];exact dZ (hy _ _) (V 0 500 1 800 t bp)
 generalize (uq g u.params ay f n C.toks j P C.gens.size A).p=am;refine gb (ak:=200) (bm t O) N aK.K (db bv) .nil (aC:=[]) a0 b5 (br:=l+8) (λS=>af 3 _ ..) t (aW _)
  (λS cd ce aL _ cf=>xh N bV (V 0 150 8 200 t O) cc (bB.ext (aL.aE.mono aF aF))) ?_
 refine λS cd cg w q ce ch ck cQ cl _ cf=>an λbC=>bo λs a'=>aT ?_;rintro rfl;intro cm aM;obtain ⟨s,rfl⟩:∃cn:Nat,cn=s:=⟨s,t⟩;have X:cg=ur g u.params ay f n C.toks j P C.gens.size A (M+1) B.gens.size aj al S z.toks z.gens.size am:=ch;subst X;have aL:=cl.aE;have Z:n+102<M+101:=by
  have:=b9 bx;rw [a9]at this;exact this
 have bD:aa g (λx=>M+101<=x) (λba=>B.gens.size<=ba) B w:=(aK.zero.trans aL.zero).then bC (λx m=>by
  rcases m with rfl|m
  ·exact .inl (aW _)
  ·exact m.elim) (λba as=>by
  rcases as with rfl|as
  ·exact .inl (aW _)
  ·exact as.elim)
 have aQ:∀{b:Nat} {o},I B b o->b<M+101->I w b o:=λ{b o} h a5=>bD.fr b o h (gG a5);have co:=aQ cb (V 103 101 102 101 t Z);have bb:=aQ bx Z;have bE:=aQ bz (by have:=b9 a8;rw [L]at this;have h:ay+101<n+101:=this;exact aD 102 101 103 101 102 101 t this Z);have bc:B.heap.objs.size<=s+101:=aS (aS aK.aZ aL.aZ) cm;rw [a9]at bc;have au:∀q∈aP,∃ap,I w (q.1+101) (ea ap):=λq k=>by
  obtain ⟨_,ap,h⟩:=df.obj (a6 q k);have bF:=b9 h;rw [L]at bF;exact⟨ap,aQ (W.fr _ _ h (λh=>h)) (hV bF (V 103 101 102 101 t Z))⟩
 have bG:∀q∈aP,q.1+101<n+101:=λq k=>by
  obtain ⟨_,ap,h⟩:=df.obj (a6 q k);have:=b9 h;rw [L]at this;exact this
 have aU:ay+101<n+101:=by
  have:=b9 a8;rw [L]at this;exact this
 generalize (ur g u.params ay f n C.toks j P C.gens.size A (M+1) B.gens.size aj al S z.toks z.gens.size am).p=aV;have cp:b6 g [((n+101:ae),xv u.params C.toks ay f),(n+102,dD),(ay+101,ah (aP.map bg) e)] [1]:=by
  refine .nodup ?_ ?_
  ·simp;exact⟨aX (V 102 101 1 0 t aU),aX (V 102 101 1 1 t aU)⟩
  ·intro i bH a bd;rw [bQ]at bH;subst bH;injection bd with bd;exact r (cj bd) (a_ (n+102) (bw t))
 refine gb (ak:=200) (bm t O) N bC.K (j2 co bb bE) cp (aC:=[]) a0 ck (br:=l+8) (λc=>af 4 _ ..) t (aW _)
  (R:=λc av q F=>q= .ok .next/\aa g (λx=>x=c+1+101\/x=c+2+101\/x=c+101) p av F/\∃e ax v,I F (c+102) (ah ((aP.filter λq=> !((aP.filter λq=> !b' q.2.1 d).any λy=>decide (y.1=q.1))).map bg) e)/\I F (c+103) (aJ [U u.params el ax v])) ?_ ?_
 ·intro c av az aY aA _;have be:∀{b:Nat} {o},I w b o->b≠n+102->I av b o:=λ{b o} h au=>aY.fr b o h λq=>by
   refine aw (hW.mp q) (aH λbf=>an λG k=> ?_);rw [bQ]at G;subst G;injection k with k;exact au k.symm
  have ab:n+102<c+101:=by
   have:=b9 bb;rw [az]at this;exact this
  have ac:s+101<c+101:=by
   have:=b9 aM;rw [az]at this;exact this
  refine Jf (aP:=aP) (ay:=ay) N af (V 0 150 8 230 t O) aY.K (ar:=s) (bS:=aP.filter λq=> !b' q.2.1 d) bp bY (λy Q=>(gI.mp Q).1) (λq k=> ?_) (λq k=> ?_) (be aM ?_) ac (aA _ _ aO) ab (be bE ?_) ?_ (aA _ _ ci) (aA _ _ dK) (aA _ _ kI) (λx m=>a_ x (aD 103 101 101 0 101 0 t ab m))
  ·obtain ⟨ap,h⟩:=au q k;exact⟨ap,be h (by have:=bG q k;exact a7 (V 102 101 102 102 t this))⟩
  ·have:=bG q k;exact aD 102 101 103 101 102 101 t this ab
  ·exact aX (aD 103 101 101 101 103 101 t Z bc)
  ·exact a7 (V 102 101 102 102 t aU)
  ·exact aD 102 101 103 101 102 101 t aU ab
 refine λc av cq F q az cr cs cR aY aA _=>aT ?_;rintro rfl;refine λbh=>cE λbi ax v=>an λbj ct=> ?_;have X:cq=us g u.params ay f n c C.toks w.toks w.gens.size j s P e (aP.map bg) C.gens.size A (M+1) aV B.gens.size aj al S z.toks z.gens.size am:=cr;subst X;rw [Jg bX]at bj;have ab:n+102<c+101:=by
  have:=b9 bb;rw [az]at this;exact this
 have ac:s+101<c+101:=by
  have:=b9 aM;rw [az]at this;exact this
 have bI:aa g (· =n+102) p w av:=aY.mono (λx m=>by
  refine aw (hW.mp m) (aH λbf=>an λG k=> ?_);rw [bQ]at G;subst G;injection k with k;exact .inl k.symm) aF
 have bJ:=bh.fr _ _ (bI.fr _ _ aM (by intro q;have:s+101=n+102:=q;exact a2 305 304 t (aq 204 202 101 102 (aq 103 101 101 101 Z bc) (aB q)))) (by rintro (q|q|q);{have:s+101=c+1+101:=q;exact a2 204 202 t (aq 102 101 102 101 ac (ao q))};{have:s+101=c+2+101:=q;exact a2 205 202 t (aq 102 101 103 101 ac (ao q))};{have:s+101=c+101:=q;exact a2 203 202 t (aq 102 101 101 101 ac (ao q))});have bK:aa g p p C F:=(((W.then bD (λx m=> .inr (by rw [L];exact aS (show n+101<=M+101 from V 103 101 101 101 t Z) m)) (λba as=> .inr (aS W.dH as))).then bI (λx m=> .inr (by rw [m,L];exact bw t)) aF)).then bh (λx m=> .inr (by rcases m with q|q|q<;>(refine r q (r L ?_))<;>lia)) aF;generalize (us g u.params ay f n c C.toks w.toks w.gens.size j s P e (aP.map bg) C.gens.size A (M+1) aV B.gens.size aj al S z.toks z.gens.size am).p=bL;have cu:b6 g [((c+103:ae),aJ [U u.params el ax v]),(s+101,ah ((aP.filter λq=> !b' q.2.1 d).map bg) a'),(c+102,ah ((aP.filter λq=>b' q.2.1 d).map bg) bi)] [0]:=by
  refine .head (a_ (c+103) (V 103 101 101 103 t ab)) λy Q=> ?_;rcases b8.mp Q with rfl|Q
  ·refine(?_:s+101≠c+103);exact a7 (V 102 101 102 103 t ac)
  ·rw [bQ]at Q;subst Q;refine(?_:c+102≠c+103);exact bA 102 103 t
 refine gb (ak:=200) (bm t O) N bh.K (j2 ct bJ bj) cu (aC:=[]) a0 cs (br:=l+8) (λa1=>af 5 _ ..) t (aW _)
  (R:=λ_ T q a3=>q= .ok (.ret (.ref T.heap.objs.size))/\aa g p p T a3/\I a3 T.heap.objs.size (ah ((aP.filter λq=> !b' q.2.1 d).map bg++(aP.filter λq=>b' q.2.1 d).map bg) 0)) ?_ ?_
 ·intro a1 T _ aG _ _;have bN:∀{b:Nat} {o},I F b o->b≠c+103->I T b o:=λ{b o} h au=>aG.fr b o h λq=>by
   refine aw (hW.mp q) (aH λbf=>an λG k=> ?_);rw [bQ]at G;subst G;injection k with k;exact au k.symm
  refine xC aG.K (bN bJ (a7 (V 102 101 102 103 t ac))) (bN bj (bA 102 103 t)) ?_;rw [bM,bM];have cS:=hy (λq:Nat×Int×Nat=> !b' q.2.1 d) aP;have cT:=hy (λq:Nat×Int×Nat=>b' q.2.1 d) aP;lia
 refine λa1 T cv a3 q cU cw cx cV aG _ _=>aT ?_;rintro rfl;intro bk bO;have X:cv=ut g u.params ay f n c C.toks w.toks w.gens.size j s P e (aP.map bg) C.gens.size A (M+1) aV B.gens.size aj al ax S z.toks z.gens.size am a1 F.toks F.gens.size bL bi a' v ((aP.filter λq=> !b' q.2.1 d).map bg) ((aP.filter λq=>b' q.2.1 d).map bg):=cw;subst X;have bR:aa g (· =c+103) p F T:=aG.mono (λx m=>by
  refine aw (hW.mp m) (aH λbf=>an λG k=> ?_);rw [bQ]at G;subst G;injection k with k;exact .inl k.symm) aF
 have cy:aa g p p C a3:=(bK.then bR (λx m=> .inr (by rw [m,L];exact V 103 101 101 103 t ab)) aF).trans bk;obtain ⟨cz,cB⟩:=aG.K.size;have bT:C.heap.objs.size<=T.heap.objs.size:=aS bK.aZ bR.aZ;rw [cB]at bO bT⊢;generalize (ut g u.params ay f n c C.toks w.toks w.gens.size j s P e (aP.map bg) C.gens.size A (M+1) aV B.gens.size aj al ax S z.toks z.gens.size am a1 F.toks F.gens.size bL bi a' v ((aP.filter λq=> !b' q.2.1 d).map bg) ((aP.filter λq=>b' q.2.1 d).map bg)).p=cW;obtain ⟨cX,cC⟩:=bk.K.size;refine c2 (ak:=200) (bm t O) N bk.K cC t t (D:=[]) a0 .nil (aC:=[]) a0 cx (af 6 _ ..) ?_;intro cY cZ c0 c4 cD cF bU;refine r (e' cD) (r (cA cF) ?_);refine ai.done (.ok (.ret _)) (b0 _ _ ⟨cy.trans (bU.e1 t),cz,0,t,bT, ?_⟩);unfold nf;exact r e8 ((bU.e1 t).fr _ _ bO (λh=>h))
end
end
section
open PySem PySem.W PySem.Calls
open PyProof.Rows
theorem Ca {a b c d:ae}{x y z f:ab}{h:aY}(g:h.get? a=H x)(i:h.get? b=H y)(j:h.get? c=H z)(k:h.get? d=H f):∀v∈[(a,x),(b,y),(c,z),(d,f)],h.get? v.1=H v.2:=λv e=>by
 rcases b8.mp e with rfl|e
 ·exact g
 ·exact j2 i j k v e
section
variable {n d b m M e:Nat}{d4:g'}{f:List Nat}{dt:Nat->Nat->ac->Prop}
noncomputable def uy(P:a1)(M d b m c v:Nat)(h:aY)(a:Nat):Prop:=h.get? a=H (gv P M d b m c v [])\/∃e y,h.get? a=H (gv P M d b m c v (fF P e y))
noncomputable def iH(n:Nat):ae->Prop:=λx=>x=n+101\/x=n+102
theorem p0 {a b:ae}{f i:ab}{j:List (ae×ab)}{C e:ac}(k:aa g (· ∈c' ((a,f)::(b,i)::j) [0,1]) p C e):aa g (λx=>x=a\/x=b) p C e:=k.mono (λx l=>by
 refine aw (hW.mp l) (aH λm=>an λd c=> ?_);rcases b8.mp d with rfl|d
 ·injection c with c;exact .inl (.inl c.symm)
 ·rw [bQ]at d;subst d;injection c with c;exact .inl (.inr c.symm)) (λ_ h=> .inl h)
theorem Ji(S:Base g)(T:om g u.params)(U:l<=230)(au:g (n+101)=J)(aU:g (n+102)=J)(W:b<n)(aw:d<n+101)
  (Z:∀i v C B,dt i v C->aa g (iH n) p C B->dt i v B)
  (aV:∀i v x C,f[i]? =H x->aR g C->n+103<=C.heap.objs.size->dt i v C->a4 u (l+8) J (.call (.ref d) ⟨[.ref v,.ref x],[]⟩) C λX B=>∃c,X= .ok (.ret (.ref c))/\dt (i+1) c B/\aa g p p C B):
  ∀k i v C A j,i+k=f.length->aR g C->I C d (de d4)->uy u.params M d b m (n+102) v C.heap (n+101)->I C (n+102) (b2 (b+101) i)->I C (b+101) (ah (f.map .ref) e)->dt i v C->
   ai u l J j (eT n (n+102)) A (bI (eT n (n+102))) [] C (ei λX B=>X= .ok .next/\aa g (iH n) p C B/\∃c,dt f.length c B/\uy u.params M d b m (n+102) c B.heap (n+101)):=by
 intro k;induction k with
 |zero=>
  intro i v C A j ab K O G Y P af;have aY:i=f.length:=dF ((aB ab)) ((ao ab));have a1:(f.map iv).length<=i:=by rw [bM];lia
  have aj:∀F o al,b6 g [((n+101:ae),F),(n+102,o),(b+101,al)] [0,1]:=λF o al=>by
   refine .nodup ?_ ?_
   ·simp;exact⟨aX (W),aX (V 1 0 1 1 t W)⟩
   ·intro a_ N a E;rcases b8.mp N with rfl|N
    ·injection E with E;exact r (cj E) au
    ·rw [bQ]at N;subst N;injection E with E;exact r (cj E) aU
  rcases G with G|⟨L,y,G⟩
  ·refine lM (ak:=230) U S K (j2 G Y P) (aj _ _ _) (aC:=[hC 1 2 (n+102) (b+101) i (f.map .ref) e]) (fk (n3 a1)) (λs=>T 3 d b m v M n (n+102) s C.toks C.gens.size j A d4 (b+101) i e 0 (f.map .ref) 0 0) t ?_;intro s B am w Q _;have ar:=p0 w;subst aY;exact⟨t,ar,v,Z _ _ _ _ af ar,.inl (Q _ _ aO)⟩
  ·refine lM (ak:=230) U S K (j2 G Y P) (aj _ _ _) (aC:=[hC 1 2 (n+102) (b+101) i (f.map .ref) e]) (fk (n3 a1)) (λs=>T 7 d b m v M n (n+102) s C.toks C.gens.size j A d4 (b+101) i e 0 (f.map .ref) L y) t ?_;intro s B am w Q _;have ar:=p0 w;subst aY;exact⟨t,ar,v,Z _ _ _ _ af ar,.inr (bh L y (Q _ _ aO))⟩
 |succ k a'=>
  intro i v C A j ab K O G Y P af;have ba:i<f.length:=aD 1 0 0 0 1 0 t i8 (aB ab);obtain ⟨x,Q⟩:∃x,f[i]? =H x:=⟨f[i],by simp [ba]⟩;have a3:(f.map iv)[i]? =H (.ref x):=by simp [Q]
  have bA:d≠b+101:=λq=>by
   rw [q]at O;unfold I at O;rw [P]at O;exact absurd (congrArg (·.cls) (o' O)) (by simp [ah,de])
  have aj:∀F o al a5,b6 g [((n+101:ae),F),(n+102,o),(b+101,al),(d,a5)] [0,1]:=λF o al a5=>by
   refine .nodup ?_ ?_
   ·simp;have bb:¬n=b:=aX (W);have bc:¬n+101=d:=aX (aw);have bd:¬n+1=b:=aX (V 1 0 1 1 t W);have be:¬n+102=d:=aX (V 1 101 1 102 t aw);have bf:¬b+101=d:=by lia
    exact⟨⟨bb,bc⟩,⟨bd,be⟩,bf⟩
   ·intro a_ N a E;rcases b8.mp N with rfl|N
    ·injection E with E;exact r (cj E) au
    ·rw [bQ]at N;subst N;injection E with E;exact r (cj E) aU
  have a6:n+103<=C.heap.objs.size:=b9 Y;have a7:∀(av D z:ac) (c L:Nat) (a8:aL) (ax:ap),aa g (iH n) p C av->I av (n+102) (b2 (b+101) (i+1))->aa g p p av D->dt (i+1) c D->aa g (· =n+101) p D z->I z (n+101) (gv u.params M d b m (n+102) c (fF u.params L x))->
    ai u l J j a8 ax (.pure (.again (eT n (n+102)))) [] z (ei λX B=>X= .ok .next/\aa g (iH n) p C B/\∃c,dt f.length c B/\uy u.params M d b m (n+102) c B.heap (n+101)):=by
   intro av D z c L a8 ax bg bi F bj o bk;have a9:aa g (iH n) p D z:=o.mono (λx h=> .inl (.inl h)) (λ_ h=> .inl h);have bl:aa g (iH n) p C D:=bg.trans F.zero;have ay:=bl.trans a9;refine ai.again _ t ?_;have bm:I z d (de d4):=ay.fr _ _ O (by rintro (q|q)<;>rw [q]at aw<;>lia);have bn:I z (b+101) (ah (f.map .ref) e):=ay.fr _ _ P (by rintro (q|q);{have:b+101=n+101:=q;exact a2 102 101 t (aq 1 0 101 101 W (ao q))};{have:b+101=n+102:=q;exact a2 103 101 t (aq 1 0 102 101 W (ao q))});have bo:I z (n+102) (b2 (b+101) (i+1)):=o.fr _ _ (F.fr _ _ bi (λh=>h)) (by intro q;have:n+102=n+101:=q;exact a2 102 101 t (aB q));refine ai.mono ?_ (a' (i+1) c z ax j (by rw [<-ab];exact(hU i 1 k)) o.K bm (.inr (bh L x bk)) bo bn (Z _ _ _ _ bj a9));rintro (X|_) B
   ·refine aT ?_;rintro rfl;exact λw=>aH λbp=>an λbs bt=>⟨t,ay.trans w,bp,bs,bt⟩
   ·exact λh=>h
  rcases G with G|⟨L,y,G⟩
  ·refine gb (ak:=230) U S K (Ca G Y P O) (aj _ _ _ _) (aC:=[hB 1 2 (n+102) (b+101) i (f.map .ref) e (.ref x)]) (fk (n2 a3)) t (br:=l+8) (λs=>T 1 d b m v M n (n+102) s C.toks C.gens.size j A d4 (b+101) i e x (f.map .ref) 0 0) t (aW _)
    (λs D am w R _=>aV i v x D Q w.K (aS a6 w.aZ) (Z _ _ _ _ af (p0 w))) ?_
   refine λs D az z q am aA aE bu w R _=>aH λc=>aT ?_;rintro rfl;intro aF o;have aG:az=uu g u.params d b m M n (n+102) v s C.toks C.gens.size j e A d4 (b+101) (f.map .ref) i x:=aA;subst aG;have F:=p0 w;obtain ⟨aI,aJ⟩:=o.K.size;generalize bv:(uu g u.params d b m M n (n+102) v s C.toks C.gens.size j e A d4 (b+101) (f.map .ref) i x).p=aK;refine c2 (ak:=230) U S o.K aJ t t (db (o.fr _ _ (R _ _ aO) (λh=>h))) (cK au) (aC:=[]) a0 aE (T 2 d b m v M n (n+102) s C.toks C.gens.size j A d4 (b+101) i e x (f.map .ref) 0 0 aI z.toks z.gens.size aK c) ?_;intro aM bw bx bz aP aQ as;refine r (kL aP) (r (cA aQ) ?_);exact a7 D z aM c _ _ _ F (R _ _ ci) o aF (as.only t).bW (as.xs _ _ aO)
  ·refine gb (ak:=230) U S K (Ca G Y P O) (aj _ _ _ _) (aC:=[hB 1 2 (n+102) (b+101) i (f.map .ref) e (.ref x)]) (fk (n2 a3)) t (br:=l+8) (λs=>T 5 d b m v M n (n+102) s C.toks C.gens.size j A d4 (b+101) i e x (f.map .ref) L y) t (aW _)
    (λs D am w R _=>aV i v x D Q w.K (aS a6 w.aZ) (Z _ _ _ _ af (p0 w))) ?_
   refine λs D az z q am aA aE bu w R _=>aH λc=>aT ?_;rintro rfl;intro aF o;have aG:az=uv g u.params d b m M n (n+102) v s C.toks C.gens.size j e A d4 (b+101) (f.map .ref) i x L y:=aA;subst aG;have F:=p0 w;obtain ⟨aI,aJ⟩:=o.K.size;generalize bv:(uv g u.params d b m M n (n+102) v s C.toks C.gens.size j e A d4 (b+101) (f.map .ref) i x L y).p=aK;refine c2 (ak:=230) U S o.K aJ t t (db (o.fr _ _ (R _ _ aO) (λh=>h))) (cK au) (aC:=[]) a0 aE (T 6 d b m v M n (n+102) s C.toks C.gens.size j A d4 (b+101) i e x (f.map .ref) L y aI z.toks z.gens.size aK c) ?_;intro aM bw bx bz aP aQ as;refine r (kL aP) (r (cA aQ) ?_);exact a7 D z aM c _ _ _ F (R _ _ ci) o aF (as.only t).bW (as.xs _ _ aO)
theorem Cb {C:ac}{s:Nat}{w:List O}(M:Base g)(N:om g u.params)(P:l<=200)(K:aR g C)(k:C.heap.objs.size=n+101)(ab:I C d (de d4))(ae:I C (b+101) (ah (f.map .ref) e))(as:I C (m+101) (ah w s))
  (start:∀a,aa g p p C a->dt 0 (m+101) a)
  (U:∀i v C a,dt i v C->aa g (iH n) p C a->dt i v a)
  (au:∀i v x C,f[i]? =H x->aR g C->n+103<=C.heap.objs.size->dt i v C->a4 u (l+16) J (.call (.ref d) ⟨[.ref v,.ref x],[]⟩) C λz a=>∃c,z= .ok (.ret (.ref c))/\dt (i+1) c a/\aa g p p C a):
  a4 u l J (.call (.ref 30) ⟨[.ref d,E b,E m],[]⟩) C λz a=>∃c,z= .ok (.ret (.ref c))/\dt f.length c a/\aa g p p C a:=by
 refine a4.c1 λj A=>ai.dN λaQ af=> ?_;have av:b<n:=by
  have:=b9 ae;rw [k]at this;exact Nat.lt_of_add_lt_add_right this
 have aw:d<n+101:=by
  have:=b9 ab;rw [k]at this;exact this
 have ax:g (n+101)=none:=K.fresh (by rw [k];exact aW _);have ay:g (n+102)=none:=K.fresh (by rw [k];exact Nat.le_succ _);refine gb (ak:=200) P M K (hJ ae as) .nil (aC:=[]) a0 t (br:=l+8) (λo=>N 0 d b m e s o C.toks C.gens.size (f.map .ref) w j A) t (aW _)
  (R:=λ_ Q z a=>z= .ok .next/\aa g (iH n) p Q a/\∃c,dt f.length c a/\uy u.params C.toks d b m (n+102) c a.heap (n+101))
  (λo Q B W S _=> ?_) ?_
 ·obtain rfl:o=n:=dF (aD 101 0 0 101 0 0 t (ao B) (aB k)) (aD 101 0 0 101 0 0 t (ao k) (aB B));have D:=W.aE;exact a4.c1 λj A=>Ji (d4:=d4) M N (V 0 200 8 230 t P) ax ay av aw U au f.length 0 (m+101) Q A j (by lia) D.K (D.fr _ _ ab (λh=>h)) (.inl (S _ _ dK)) (S _ _ kI) (S _ _ aO) (start _ D)
 refine λo Q az F q B aA aj aS W S _=>aT ?_;rintro rfl;refine λT=>aH λc=>an λal G=> ?_;obtain rfl:o=n:=dF (aD 101 0 0 101 0 0 t (ao B) (aB k)) (aD 101 0 0 101 0 0 t (ao k) (aB B));have D:=W.aE;have aG:az=rJ g u.params d b m s o C.toks C.gens.size w j e A (f.map .ref):=aA;subst aG;obtain ⟨am,ap⟩:=T.K.size;have aq:aa g p p C F:=D.then T (λx aI=> .inr (by rw [k];rcases aI with q|q<;>refine r q ?_<;>exact bw t)) aF;generalize aU:(rJ g u.params d b m s o C.toks C.gens.size w j e A (f.map .ref)).p=ar;rcases G with G|⟨aJ,y,G⟩
 ·refine c2 (ak:=200) P M T.K ap t t (db G) .nil (aC:=[]) a0 aj (N 4 d b m e s o C.toks C.gens.size (f.map .ref) w j A am F.toks F.gens.size c ar) ?_;intro aK aL aM aP X Y Z;refine r (e' X) (r (cA Y) ?_);have L:=Z.e1 t;exact ai.done (.ok (.ret _)) (af _ _ ⟨c,t,U _ _ _ _ al L.zero,aq.trans L⟩)
 ·refine c2 (ak:=200) P M T.K ap t t (db G) .nil (aC:=[]) a0 aj (N 8 d b m e s o C.toks C.gens.size (f.map .ref) w j A aJ y am F.toks F.gens.size c ar) ?_;intro aK aL aM aP X Y Z;refine r (e' X) (r (cA Y) ?_);have L:=Z.e1 t;exact ai.done (.ok (.ret _)) (af _ _ ⟨c,t,U _ _ _ _ al L.zero,aq.trans L⟩)
end
open PyProof.Rows
section
variable {dv:ae->Prop}
noncomputable def j7(a:List Nat)(b:List (Nat×Int×Nat)):List (Nat×Int×Nat):=a.foldl (λc d=>nf d c) b
theorem Jj(d:Nat)(a:List (Nat×Int×Nat)):(nf d a).Perm a:=by
 unfold nf;refine(zo _ ?_).trans (yO (λq:Nat×Int×Nat=> !b' q.2.1 d) a);refine .of_eq (qy λq _=> ?_);cases b' q.2.1 d<;>rfl
theorem xD(b:List Nat):∀a:List (Nat×Int×Nat),(j7 b a).Perm a:=by
 induction b with
 |nil=>exact λ_=> .refl _
 |cons d b c=>exact λa=>(c (nf d a)).trans (Jj d a)
theorem Cc(a:List Nat)(d:Nat)(b:List (Nat×Int×Nat)):j7 (a++[d]) b=nf d (j7 a b):=by
 unfold j7;rw [vD];rfl
structure k6(b5:Nat->Option ab)(P:a1)(dv:ae->Prop)(h:aY)(a:List (Nat×Nat)):Prop where
 at_:∀q∈a,q.2<6/\ic b5 P dv h q.1 q.2
theorem k6.mono {P:a1}{dv jn:ae->Prop}{h a:aY}{c:List (Nat×Nat)}(M:k6 g P dv h c)(k:∀b d,dv b->h.get? b=H d->a.get? b=H d)(f:∀b,dv b->jn b):k6 g P jn a c:=
 ⟨λq e=>⟨(M.at_ q e).1,(M.at_ q e).2.mono k f⟩⟩
theorem Jk(L:Base g)(S:om g u.params)(T:nc g u.params)(U:du g u.params)(W:gu g u.params)(X:fB g u.params)(o:∀d<6,∀x,d6 u g d x (λ_=>True))(M:l<=130)(K:aR g C){Z:g'}(ab:g 84=H (de Z))
  (bs:∀x,dv x->x<C.heap.objs.size){dw:List (Nat×Nat)}(ac:k6 g u.params dv C.heap dw){aP:List (Nat×Int×Nat)}(ae:∀q∈aP,df u.params dv C.heap (bg q) q.2.1 q.2.2)(af:(aP.map (·.1)).Nodup)(ai:aP.length<=500)(aj:1<=aP.length)
  {ay N e D:Nat}(F:I C (ay+101) (ah (aP.map bg) e))(O:I C (N+101) (ah (dw.map λq=>E q.1) D)):
  a4 u l J (.call (.ref 30) ⟨[.ref 84,E N,E ay],[]⟩) C λG k=>aa g p p C k/\∃a e,G= .ok (.ret (E a))/\I k (a+101) (ah ((j7 (dw.map (·.2)) aP).map bg) e):=by
 obtain ⟨n,s⟩:=K.size;have ak:dw.map (λq:Nat×Nat=>E q.1)=(dw.map λq=>q.1+101).map .ref:=by
  rw [hX];rfl
 rw [ak]at O;have P:∀x,dv x->¬iH n x:=λx f q=>by
  have:=bs x f;rw [s]at this;rcases q with q|q<;>rw [q]at this
  ·exact eK _ this
  ·exact absurd this (cx (Nat.le_succ _))
 have step:=Cb (dt:=λi v k=>(∃a e,v=a+101/\(v<n+101\/n+103<=v)/\I k (a+101) (ah ((j7 ((dw.take i).map (·.2)) aP).map bg) e))/\k6 g u.params dv k.heap dw/\(∀q∈aP,df u.params dv k.heap (bg q) q.2.1 q.2.2)/\n+101<=k.heap.objs.size)
  L S (l:=l) (bm t M) K s (K.kt _ _ ab) O F ?_ ?_ ?_
 ·refine step.mono (λG k=>aH λaw=>aT ?_);rintro rfl;refine an (bo λa e=>aT ?_);rintro rfl;intro _ h _ c;refine⟨c,a,e,t, ?_⟩;rw [bM,ms]at h;exact h
 ·intro k c;refine⟨bh ay e ⟨t,.inl ?_,c.fr _ _ F (λh=>h)⟩,ac.mono (λb j _ h=>c.fr b j h (λh=>h)) (λ_ h=>h),λq m=>(ae q m).mono u.params (λb j _ h=>c.fr b j h (λh=>h)) (λ_ h=>h), ?_⟩
  ·have:=b9 F;rw [s]at this;exact this
  ·rw [<-s];exact c.aZ
 ·refine λi v al am=>bu (bo λa e=>aT ?_);rintro rfl;intro Q h w z A c;refine⟨bh a e ⟨t,Q,c.fr _ _ h ?_⟩,w.mono (λb j o h=>c.fr b j h (P b o)) (λ_ h=>h),λq m=>(z q m).mono u.params (λb j o h=>c.fr b j h (P b o)) (λ_ h=>h),aS A c.aZ⟩;rintro (q|q)
  ·have:a+101=n+101:=q;lia
  ·have:a+101=n+102:=q;lia
 ·refine λi v x al f ao ap=>bu (bo λa e=>aT ?_);rintro rfl;intro Q h w z A;rw [d1]at f;obtain ⟨q,m,rfl⟩:∃q,dw[i]? =H q/\q.1+101=x:=by
   cases R:dw[i]? with
   |none=>rw [R]at f;cases f
   |some q=>rw [R]at f;injection f with f;exact⟨q,t,f⟩
  obtain ⟨Y,aq⟩:=w.at_ q (dP m);have B:=xD ((dw.take i).map (·.2)) aP;refine(Jh L T U W X o (V 0 130 16 150 t M) ao (λx f=>bP (bs x f) (by rw [s];exact A)) Y aq (λy ar=>z y (B.mem_iff.mp ar)) ((B.map (·.1)).nodup_iff.mpr af) (by rw [B.length_eq];exact ai) (by rw [B.length_eq];exact aj) h).mono (λG am=>an λc=>bo λas D=>aT ?_);rintro rfl;intro au av;refine⟨_,t,⟨bh as D ⟨t,.inr (aS ap au), ?_⟩,w.mono (λb j _ h=>c.fr b j h (λh=>h)) (λ_ h=>h),λq m=>(z q m).mono u.params (λb j _ h=>c.fr b j h (λh=>h)) (λ_ h=>h),aS A c.aZ⟩,c⟩;refine r sC (r m ?_);refine r (show(H q:Option (Nat×Nat)).toList=[q]from t) (r e8 ?_);refine r (show [q].map (·.2)=[q.2]from t) ?_;rewrite [Cc];exact av
end
open PyProof.Rows
noncomputable def p1(a b c:O):Obj:={cls:= .type "slice",data:= .fields ⟨[a,b,c]⟩}
noncomputable def cO(a:List (Int×Nat)):List Value:=a.map λq=> .int q.1 q.2
section
variable {aV:ef}{af:O->ac->Prop}
theorem uz {i a:ae}{j:List O}{e:Nat}{b d f:O}{lo k st:Option Int}(K:aR g C)(o:I C i (ah j e))(l:I C a (p1 b d f))(w:IsPart b lo)(y:IsPart d k)(z:IsPart f st)(q:st≠H 0)(A:j.length<=2000):
  bD (b1 bH u) aV (f8 (.builtin "list.__getitem__") [.ref i,.ref a]) (λv n=>v= .ref C.heap.objs.size/\aa g p p C n/\I n C.heap.objs.size (ah (mE ⟨j⟩ lo k st).toList 0)/\n.heap.objs.size=C.heap.objs.size+1) af C:=by
 have B:C.TypeIs (.ref i) "list":=⟨_,o,t⟩;have s:C.TypeIs (.ref a) "slice":=⟨_,l,t⟩;have Y:(p1 b d f).data= .fields #[b,d,f]:=rfl;have D:¬(rawPart st==d2 0)=true:=by
  cases st with
  |none=>exact jE
  |some c=>
   intro h;refine q ?_;have:c=0:=by simpa [rawPart,d2]using h
   refine r this ?_;rfl
 refine vQ vM B vN ?_ (vO _ _);refine(?_:bD _ _ (sV (.ref a)>>=_) _ _ C);refine bl ?_;unfold sV;refine bl (wpAny_specialOf s slice_no_index ?_);refine r (if_pos (show(J:Option O).isNone=ag from t)) (cG ?_);refine(?_:bD _ _ (typeOf (.ref a)>>=_) _ _ C);refine bl (wpAny_typeOf s ?_);rw [if_neg (by decide),listSliceParts_eq];refine bl (bl (gn l Y (x:=f) t (bl (vR z ?_))));refine r (if_neg D) (bl (gn l Y (x:=b) t (bl (vR w ?_))));refine bl (gn l Y (x:=d) t (bl (vR y (cG ?_))));refine bl (m:=sW (.ref i)) ?_;unfold sW;refine bl (o3 o t (cG ?_));refine bl (wpAny_of_eq (sliceIndices_raw lo k st _ q) ?_);have E:(mE ⟨j⟩ lo k st).size<=sizeLine:=aS (slicePick_size_le _ _ _ _) (aS A (by decide+kernel));refine bl (mC (cG ⟨_,t,t,aa.push K, ?_,kB ..⟩) E);refine(kA _ t).trans ?_;unfold ah;refine r Array.toArray_toList ?_;rfl
theorem Jl(a:List (Int×Nat))(lo d st:Option Int):∃b:List (Int×Nat),(mE ⟨cO a⟩ lo d st).toList=cO b/\b.length<=a.length:=by
 have l:=slicePick_size_le ⟨cO a⟩ lo d st;have m:∀v∈(mE ⟨cO a⟩ lo d st).toList,∃q:Int×Nat,v= .int q.1 q.2:=by
  intro v g;unfold mE at g;refine aw (hW.mp g) (aH λi=>an λ_ d=> ?_);have c:(cO a)[i]? =H v:=by simpa using d
  unfold cO at c;rw [d1]at c;cases j:a[i]? with
  |none=>rw [j]at c;cases c
  |some q=>rw [j]at c;injection c with c;exact⟨q,c.symm⟩
 have n:∀e:List O,(∀v∈e,∃q:Int×Nat,v= .int q.1 q.2)->∃b:List (Int×Nat),e=cO b:=by
  intro e;induction e with
  |nil=>exact λ_=>⟨[],t⟩
  |cons v e o=>
   intro h;obtain ⟨q,p⟩:=h v aO;obtain ⟨b,f⟩:=o λx s=>h x (.tail _ s);exact⟨q::b,by refine r p (r f ?_);rfl⟩
 obtain ⟨b,f⟩:=n _ m;refine⟨b,f, ?_⟩;have k:(mE ⟨cO a⟩ lo d st).toList.length=b.length:=by refine r f ?_;unfold cO;rw [bM]
 have u:(⟨cO a⟩:Array O).size=a.length:=by unfold cO;simp
 rw [sU]at k;exact cy 0 0 0 0 0 0 0 0 t (ao k) l (aB u)
theorem Jm {d:aY}{k:Nat}{c:ab}(K:aR g C){a:Nat}(l:C.heap.objs.size=a+1)(m:I C a c)(f:∀b c,I C b c->d.get? b=H c):aa g p p C {C with heap:=d,toks:=k}:=by
 have j:C.heap.objs.size<=d.objs.size:=by
  rw [l];exact b9 (f _ _ m)
 exact⟨⟨aS K.lo j,λb i e=>f _ _ (K.kt b i e)⟩,λb i e _=>f b i e,j,λ_ _ h _=>h,aW _,λh=>h,t,t⟩
theorem Jn {d:ae}{b:List (Int×Nat)}{e:Nat}(K:aR g C)(f:aV.handled=J)(Y:I C d (ah (cO b) e)){a:Nat}{h:ab}(i:C.heap.objs.size=a+1)(j:I C a h):
  bD (b1 bH u) aV (f8 (.builtin "sum") [.ref d]) (λv k=>aa g p p C k/\∃x c,v= .int x c) af C:=by
 have l:C.heap.IsList d (intItems b.toArray):=⟨_,Y,t,e,by unfold ah cO intItems;simp⟩;exact sum_intListG f l λn c o m=>⟨Jm K i j m,_,_,t⟩
end
variable(g:Nat->Option ab)(P:a1)
noncomputable def Cd:=0 where
 j8:List cb×Scope:=fnOf (jd 14)
 bb(n:Nat):Env:={scope:=j8.2,locals:=(n+101),globals:=3,cells:=[(⟨⟨pi⟩⟩,(n+107)),(⟨⟨[119,97,110,116]⟩⟩,(n+106)),(⟨⟨[116,111,108,100]⟩⟩,(n+105)),(⟨⟨[116,101,115,116,115]⟩⟩,(n+104)),(⟨⟨[110,117,109,98,101,114,115]⟩⟩,(n+103)),(⟨⟨[115,99,114,105,112,116]⟩⟩,(n+102))],qual:=⟨⟨[108,97,119,46,60,108,111,99,97,108,115,62,46]⟩⟩,func:=(H 99),code:=(.ref 98),frame:=(H (n+101)),builtins:=0}
 cn(n:Nat):Code:= .func j8.1 (bb n)
 bO(i:Nat):List Stmt:=(j8.1.drop i).take 1
 ek(a:List gp):Obj:={cls:= .type "frame",data:= .dict ⟨a⟩ a.length}
 gw(a:List cb):Expr:=dm (d_ a 0) 0
 j9(a:List cb):Expr:=dm (d_ a 0) 1
 Jo(a:g_):Scope:={a with names:=a.names.map λq=>(q.1,match q.2 with| .free=> .cell|k=>k)}
 js(a:fq)(b:Nat)(c:List (c0×ae))(n:Nat):Env:={scope:=Jo a.scope,locals:=b,globals:=3,cells:=c,qual:=⟨⟨[108,97,119,46,60,108,111,99,97,108,115,62,46]⟩⟩,func:=J,code:=(.ref 98),frame:=(H (n+101)),builtins:=0}
 xE:fq:=hj (gw (bO 2))
 Ce(n a:Nat):Env:=js xE a [(⟨⟨pi⟩⟩,(n+107))] n
 iI:fq:=hj (d_ (bO 3) 0)
 l7(n a:Nat):Env:=js iI a [(⟨⟨[115,99,114,105,112,116]⟩⟩,(n+102))] n
open Cd
section
variable(n av T s o L:Nat)(j:List (aL×ap))(m bL:Nat)(A:ap)(bi r e q:Nat)(aA:List O)(bp i eq:Nat)(t:List O)(bk d cS bx a:Nat)(u:O)(p b x:Nat)(v:O)(C:c0)(y:cL)(f:ap)(bS:List O)(z D a3:Nat)(F:ap)(I K N:Nat)(S:Int)(Q:Nat)(R:ap)
noncomputable def xF:=0 where
 P1:G:=c_ g P 0 n o L j [(100,ah aA e)] [] [] 14 [0,0,3,3,3] (.call (.ref 99) ⟨[.ref 100],[]⟩) A
 Cf:G:=h g P 0 s o L j [(n+102,a' (.ref 100)),(100,ah aA e)] [] [] 9 [1,2,2,2] (cn n) A (cM (b7 (bO 0) (bb n)))
 Cg:G:=bJ g P 0 bk a b j [(d+101,ah bS x)] [] [] 16 [1,2,1] Cf f (.ok (.ret (E d)))
 Jp:G:=bJ g P 0 av z D j [(n+103,dD)] [0] [] 6 [1,1] Cg F (.ok (.ret (E a3)))
 rF(n s o L:Nat)(j:List (aL×ap))(A:ap):G:=h g P 0 s o L j [(n+101,ek []),(n+107,dD)] [1] [] 16 [2,2] (cn n) A (cM (b7 (bO 1) (bb n)))
 eE(M:Nat):List Value:=[.str ⟨⟨[123,42,125,42]⟩⟩ M,.str ⟨⟨[123,125,42]⟩⟩ (M+1),.str ⟨⟨[123,117,125,42]⟩⟩ (M+2),.str ⟨⟨[123,117,117,125,42]⟩⟩ (M+3),.str ⟨⟨[123,42,125,97]⟩⟩ (M+4),.str ⟨⟨[123,42,125,97,97]⟩⟩ (M+5),.str ⟨⟨[42]⟩⟩ (M+6),.str ⟨⟨[123,117,125,42,97]⟩⟩ (M+7)]
 Ci:G:=h g P 0 s o L j [] [] [] 38 [0,0,1,1,1,1,1,1,1,1,1,1,1,2] (cn n) A (bN (bT (gw (bO 2)) (bb n)))
 Jq:G:=c_ g P 20 s o L j [(m+104,aJ []),(m+102,dn 0 8),(m+103,ah [] 0),(n+107,a' (E bp)),(bp+101,ah (eE cS) 0)] [0,1,2] [] 790 [2,2,2,2,2,2,2,2,2,0,1,1,0,4,1,5,5,5,5,5,0,0,0,0,6,6,3,6,7,7,7,7,1,1,1,2,2,2,2,2,2,2,2,2,0,1,1,0,4,1,5,5,5,5,5,0,0,0,0,8,8,3,8,9,9,9,9,1,8,10,10,10,10,1,1,1,2,2,2,2,2,2,2,2,2,0,1,1,0,4,1,5,5,5,5,5,0,0,0,0,11,11,3,11,12,12,12,12,1,11,13,13,13,13,1,1,1,2,2,2,2,2,2,2,2,2,0,1,1,0,4,1,5,5,5,5,5,0,0,0,0,14,14,3,14,15,15,15,15,1,14,16,16,16,16,1,1,1,2,2,2,2,2,2,2,2,2,0,1,1,0,4,1,5,5,5,5,5,0,0,0,0,17,17,3,17,18,18,18,18,1,1,1,2,2,2,2,2,2,2,2,2,0,1,1,0,4,1,5,5,5,5,5,0,0,0,0,19,19,3,19,20,20,20,20,1,1,1,2,2,2,2,2,2,2,2,2,0,1,1,0,4,1,5,5,5,5,5,0,0,0,0,21,21,3,21,22,22,22,22,1,21,23,23,23,23,1,1,1,2,2,2,2,2,2,2,2,2,0,1,1,0,4,1,5,5,5,5,5,0,0,0,0,24,24,3,24,25,25,25,25,1,24,26,26,26,26,1,1,1,2,2,2,2,2,28] (.compLoop xE.e 0 (.ref (m+102)) (.ref (m+103)) (Ce n (m+104))) A
 Cj:G:=h g P 0 s o L j [(n+101,ek [])] [] [] 40 [0,0,2,2,2,2,2,2,1,2,2,2,2,3] (cn n) A (cM (b7 (bO 3) (bb n)))
 Jr:G:=h g P 20 s o L j [(av+102,aJ [])] [0] [] 7 [0,1,1] (.compLoop iI.e 0 (E T) (E av) (l7 n (av+102))) A (cf (cm iI.target (l7 n (av+102)) (aj bi i)))
 Js:G:=h g P 20 s o L j [(av+102,aJ [U P [106] bx u])] [0] [] 7 [0,1,1] (.compLoop iI.e 0 (E T) (E av) (l7 n (av+102))) A (cf (cm iI.target (l7 n (av+102)) (aj bi i)))
 Ck:G:=h g P 20 s o L j [(av+102,aJ [U P [106] bx (aj bi i)]),(n+102,a' (.ref 100)),(100,ah aA e)] [] [] 13 [0,0,2,1,3,3,3] (.compLoop iI.e 0 (E T) (E av) (l7 n (av+102))) A (bN (bT iI.elt (l7 n (av+102))))
 Cm:G:=bJ g P 20 bk a b j [(d+101,ah bS 0)] [] [] 2 [] Ck f (.ok (.ret (E d)))
 Cn(bi:Nat):Int:=[0,4,2].getD bi 0
 Co:G:=bJ g P 20 I K N j [(av+102,aJ [U P [106] bx (aj bi i)])] [] [] 30 [1,2,2,2,2,2] Cm R (.ok (.ret (.int S Q)))
 gx:fq:=hj (d_ (bO 4) 0)
 j_(n a:Nat):Env:=js gx a [] n
 gy:fq:=hj (d_ (bO 5) 0)
 j'(n a:Nat):Env:=js gy a [(⟨⟨pi⟩⟩,(n+107))] n
 Jt:G:=bJ g P 0 bk a b j [(s+104,aJ [U P [106] p v]),(n+101,ek [])] [0,1] [] 13 [0,2,2,1,1,1] Cj f (.ok .next)
 Ju:G:=h g P 20 s o L j [(av+102,aJ [])] [0] [] 7 [0,1,1] (.compLoop gx.e 0 (E T) (E av) (j_ n (av+102))) A (cf (cm gx.target (j_ n (av+102)) (aj d eq)))
 Jv:G:=h g P 20 s o L j [(av+102,aJ [U P eg bx u])] [0] [] 7 [0,1,1] (.compLoop gx.e 0 (E T) (E av) (j_ n (av+102))) A (cf (cm gx.target (j_ n (av+102)) (aj d eq)))
 Jw:G:=h g P 20 s o L j [(av+102,aJ [U P eg bx (aj d eq)])] [] [] 2 [1] (.compLoop gx.e 0 (E T) (E av) (j_ n (av+102))) A (bN (bT (d5 (gx.ifs.headD default)).1 (j_ n (av+102))))
 Jx:G:=h g P 20 s o L j [(av+102,aJ [U P eg bx (aj d eq)])] [] [] 1 [] (.compLoop gx.e 0 (E T) (E av) (j_ n (av+102))) A (bN (bT (d5 (gx.ifs.headD default)).2 (j_ n (av+102))))
 Jy:G:=h g P 20 s o L j [(av+102,aJ [U P eg bx (aj d eq)])] [] [] 2 [1] (.compLoop gx.e 0 (E T) (E av) (j_ n (av+102))) A (bN (bT gx.elt (j_ n (av+102))))
 lo1:G:=h g P 20 s o L j [(av+102,aJ [])] [0] [] 7 [0,1,1] (.compLoop gy.e 0 (E T) (E av) (j' n (av+102))) A (cf (cm gy.target (j' n (av+102)) (aj d eq)))
 Jz:G:=h g P 20 s o L j [(av+102,aJ [U P eg bx u])] [0] [] 7 [0,1,1] (.compLoop gy.e 0 (E T) (E av) (j' n (av+102))) A (cf (cm gy.target (j' n (av+102)) (aj d eq)))
 JA:G:=h g P 20 s o L j [(av+102,aJ [U P eg bx (aj d eq)])] [] [] 2 [1] (.compLoop gy.e 0 (E T) (E av) (j' n (av+102))) A (bN (bT (d5 (gy.ifs.headD default)).1 (j' n (av+102))))
 JB:G:=h g P 20 s o L j [(av+102,aJ [U P eg bx (aj d eq)])] [] [] 1 [] (.compLoop gy.e 0 (E T) (E av) (j' n (av+102))) A (bN (bT (d5 (gy.ifs.headD default)).2 (j' n (av+102))))
 JC:G:=h g P 20 s o L j [(av+102,aJ [U P eg bx (aj d eq)]),(n+107,a' (E bp)),(bp+101,ah (eE cS) 0)] [] [e0 2 (bp+101) (eE cS) 0 d eq (.str C y)] 9 [2,1,3,3,3,1] (.compLoop gy.e 0 (E T) (E av) (j' n (av+102))) A (bN (bT gy.elt (j' n (av+102))))
 Cp:G:=h g P 0 s o L j [(n+101,ek [U P k q (E bL)]),(bL+101,ah t r)] [] [] 15 [1,2,2,1,2,3] (cn n) A (cM (b7 (bO 4) (bb n)))
 Cq:G:=h g P 0 s o L j [(n+101,ek [U P k q (E bL)]),(bL+101,ah t r)] [] [] 16 [1,2,2,1,2,3] (cn n) A (cM (b7 (bO 5) (bb n)))
 JD:G:=bJ g P 0 bk a b j [(s+103,aJ [U P eg p v]),(n+104,dD)] [0,1] [] 10 [1,1,1,2,2] Cp f (.ok .next)
 JE:G:=bJ g P 0 bk a b j [(s+103,aJ [U P eg p v]),(n+101,ek [U P k q (E bL)])] [0,1] [] 13 [0,2,2,1,1,1] Cq f (.ok .next)
 JF:G:=bJ g P 0 bk a b j [(s+104,aJ [U P eg p v])] [0] [] 5 [1,1,1] Ci f (.ok .next)
 JG:G:=h g P 0 s o L j [] [] [] 2 [] (cn n) A (bN (bT (j9 (bO 2)) (bb n)))
open xF
end
open xF
noncomputable def Cr:=0 where
 uA(M:Nat):List (Int×Nat):=[(5,M),(0,M+1),(2,M+2),(4,M+3),(1,M+4),(3,M+5),(7,M+6),(9,M+7)]
 JH(g:Nat->Option ab)(P:a1):List Prop:=[
  iI.e=d_ (bO 3) 0,
  gx.e=d_ (bO 4) 0,
  gy.e=d_ (bO 5) 0,
  ∀n a b c j A e w,b3 [2] (Cf g P n a b c j A e w) J J 8 (.call (.call (.builtin "list.__getitem__") ⟨[.ref 100,E a],[]⟩) J) 0 [H (a+101,p1 .none (aj 8 b) .none)] 1 1 [] J,
  ∀n a b c j A e w p o q d I y r,b3 [1] (Cg g P n a b c j A e w p d o q I r y) J J 8 (.call (.call (.builtin "list.__add__") ⟨[E d,E p],[]⟩) J) 0 [H (p+101,ah (cO (uA o)) 0)] 1 8 [] J,
  ∀n a b c j A e w p o q d I y r f T V N W,ok [0] (Jp g P n f a b c j A e w p d o q I r y T V N W) (.next) 0 [H (n+103,a' (E N))] 0 0 [],
  ∀n a b c j A,ok [1,2] (rF g P n a b c j A) (.next) 0 [H (n+107,a' (E a)),H (a+101,ah (eE b) 0)] 1 8 [],
  ∀n a b c j A,b3 [1,2,3] (Ci g P n a b c j A) J J 8 (.call (.compStart xE.e 0 (E (a+1)) (E (a+2)) (Ce n (a+104))) J) 0 [H (a+102,dn 0 8),H (a+103,ah [] 0),H (a+104,aJ [])] 4 3 [] J,
  ∀n a b c j A m K L,ok [0,2] (Jq g P n a b c j m A K L) (.next) 0 [H (m+104,aJ [U P eg (b+1) (aj 7 (b+62))]),H (m+103,ah [] 0)] 23 73 [],
  ∀n a b c j A,b3 [2,3,4] (Cj g P n a b c j A) J J 8 (.call (.compStart iI.e 0 (E (a+1)) (E (a+2)) (l7 n (a+104))) J) 0 [H (a+102,dn 0 3),H (a+103,ah [] 0),H (a+104,aJ [])] 4 3 [] J,
  ∀n f h a b c j A s t,ok [0] (Jr g P n f h a b c j A s t) (.next) 0 [H (f+102,aJ [U P [106] b (aj s t)])] 0 1 [],
  ∀n f h a b c j A s t i u,ok [0] (Js g P n f h a b c j A s t i u) (.next) 0 [H (f+102,aJ [U P [106] i (aj s t)])] 0 1 [],
  ∀n f h a b c j A s t i e w,b3 [3] (Ck g P n f h a b c j A s e w t i) J J 8 (.call (.call (.builtin "list.__getitem__") ⟨[.ref 100,E a],[]⟩) J) 0 [H (a+101,p1 (aj s t) .none (aj 3 b))] 1 1 [] J,
  ∀n f h a b c j A s t i e w p o q d y r,b3 [] (Cm g P n f h a b c j A s e w t p d i o q r y) J J 8 (.call (.call (.builtin "sum") ⟨[E d],[]⟩) J) 0 [] 0 0 [] J,
  ∀n f h a b c j A t i e w p o q d y r O M Q S G R,eM (λs=>bF [] (Co g P n f h a b c j A s e w t p d i o q r y O M Q S G R)) 3=eN (λs=>⟨.ret (.int (qz (S+Cn s) 8) (M+5)),0,[],1,6,[],bG (Co g P n f h a b c j A s e w t p d i o q r y O M Q S G R)⟩) 3,
  ∀n a b c j A p o q B v r,ok [1] (Jt g P n a b c j A p o B q v r) (.next) 0 [H (n+101,ek [U P k o (.ref (a+103))])] 0 1 [],
  ∀n f h a b c j A d l,ok [0] (Ju g P n f h a b c j A l d) (.next) 0 [H (f+102,aJ [U P eg b (aj d l)])] 0 1 [],
  ∀n f h a b c j A d l i u,ok [0] (Jv g P n f h a b c j A l d i u) (.next) 0 [H (f+102,aJ [U P eg i (aj d l)])] 0 1 [],
  ∀n f h a b c j A d l,ok [0] (lo1 g P n f h a b c j A l d) (.next) 0 [H (f+102,aJ [U P eg b (aj d l)])] 0 1 [],
  ∀n f h a b c j A d l i u,ok [0] (Jz g P n f h a b c j A l d i u) (.next) 0 [H (f+102,aJ [U P eg i (aj d l)])] 0 1 [],
  ∀n f h a b c j A d l i,ok [] (Jw g P n f h a b c j A l d i) (.ret (aj d l)) 0 [] 0 0 [],
  ∀n f h a b c j A d l i,ok [] (JA g P n f h a b c j A l d i) (.ret (aj d l)) 0 [] 0 0 [],
  ∀n f h a b c j A d l i,ok [] (Jy g P n f h a b c j A l d i) (.ret (aj d l)) 0 [] 0 0 [],
  ∀n f h a b c j A d l i,ok [] (Jx g P n f h a b c j A l d i) (.ret (aj 6 b)) 0 [] 0 1 [],
  ∀n f h a b c j A d l i,ok [] (JB g P n f h a b c j A l d i) (.ret (aj 6 b)) 0 [] 0 1 [],
  ∀n f h a b c j A d l i K L C G,ok [] (JC g P n f h a b c j A K l d L i C G) (.ret (.str C G)) 0 [] 0 0 [],
  ∀n a b c j A x D z F,b3 [2,3,4] (Cp g P n a b c j x A D z F) J J 8 (.call (.compStart gx.e 0 (E a) (E (a+1)) (j_ n (a+103))) J) 0 [H (a+101,b2 (x+101) 0),H (a+102,ah [] 0),H (a+103,aJ [])] 3 0 [] J,
  ∀n a b c j A x D z F,b3 [2,3,4] (Cq g P n a b c j x A D z F) J J 8 (.call (.compStart gy.e 0 (E a) (E (a+1)) (j' n (a+103))) J) 0 [H (a+101,b2 (x+101) 0),H (a+102,ah [] 0),H (a+103,aJ [])] 3 0 [] J,
  ∀n a b c j A x D z F p o q B v r,ok [1] (JD g P n a b c j x A D z F p o B q v r) (.next) 0 [H (n+104,a' (.ref (a+102)))] 0 0 [],
  ∀n a b c j A x D z F p o q B v r,ok [1] (JE g P n a b c j x A D z F p o B q v r) (.next) 0 [H (n+101,ek [U P k z (E x),U P dh o (.ref (a+102))])] 0 1 [],
  ∀n a b c j A p o q B v r,ok [] (JF g P n a b c j A p o B q v r) (.ret (.ref (a+103))) 0 [] 0 0 [],
  ∀n a b c j A,ok [0] (JG g P n a b c j A) (.ret (E a)) 0 [H (a+101,ah [] 0)] 1 0 []]
 l8(g:Nat->Option ab)(P:a1):Prop:=AllP (JH g P)
open Cr
variable(g:Nat->Option ab)(P:a1)
noncomputable def Cs(e:Expr):Expr:=dm (dm e 1) 0
noncomputable abbrev dI(P:a1)(a b c d e f:Nat)(g:List gp):List DictEntry:=U P k a (E b)::U P dh c (E d)::U P fW e (E f)::g
noncomputable abbrev d8(P:a1)(a b:Nat):DictEntry:=U P ph a (E b)
noncomputable abbrev eu(P:a1)(a b:Nat):DictEntry:=U P [100,117,101] a (E b)
noncomputable abbrev fe(P:a1)(a b:Nat):DictEntry:=U P [110,111,100,101,115] a (E b)
noncomputable abbrev gz(P:a1)(a b:Nat):DictEntry:=U P [107,101,121] a (.ref (b+159))
noncomputable abbrev p2(P:a1)(a b:Nat):DictEntry:=U P [116,104,114,111,117,103,104] a (E b)
noncomputable abbrev eF(P:a1)(a b c:Nat):DictEntry:=U P [106] a (aj b c)
noncomputable abbrev f2(P:a1)(M a:Nat):DictEntry:=U P [114,105,103,104,116] M (E a)
noncomputable abbrev f3(P:a1)(M a:Nat):DictEntry:=U P [108,101,102,116] M (E a)
noncomputable abbrev gA(P:a1)(M a:Nat):DictEntry:=U P s2 M (E a)
noncomputable abbrev gB(P:a1)(M a:Nat):DictEntry:=U P [111,110,101] M (E a)
noncomputable abbrev ed(P:a1)(a b c d e f g h i j k l m n o p:Nat)(q:List gp):List DictEntry:=dI P a b c d e f (d8 P g h::eu P i j::fe P k l::gz P m n::p2 P o p::q)
noncomputable def Ct:=0 where
 bz(a:List gp)(b:Nat)(c:Array (Option O)):Obj:={cls:= .type "frame",data:= .dict ⟨a⟩ b,slots:=c}
 kb:fq:=hj (d_ (bO 7) 0)
 on(n a:Nat):Env:=js kb a [(⟨⟨[116,101,115,116,115]⟩⟩,(n+104))] n
open Ct
section
variable(m n p3 s T o L av:Nat)(j:List (aL×ap))(A:ap)(d V az:Nat)(i:Array (Option O))(bi an a p X:Nat)(d4:g')(x:Int)(bL Z bp:Nat)(u:O)(q cp aB ac bU e cS bx r ao b cH aq iE y aC:Nat)(ae:O)(t ar K:Nat)(aD:ap)(z N bk Q D R ab F S k aE af a3:Nat)(aF:List O)(aG f:Nat)(aA:List O)(aa:Nat)(I:ap)(aH aI as aK aM aO aP au aw ax W aQ:Nat)(v:O)(aR aS ai:Nat)(ay:ap)(ak al:Nat)(aT:ap)(aU:List O)(aV:Nat)(am:ap)(aW aX aY:Nat)(aZ:ap)
noncomputable def xG:=0 where
 JI:G:=h g P 20 s o L j [(av+102,aJ [])] [0] [] 7 [0,1,1] (.compLoop kb.e 0 (E T) (E av) (on n (av+102))) A (cf (cm kb.target (on n (av+102)) (.int x bp)))
 JJ:G:=h g P 20 s o L j [(av+102,aJ [U P [120] bx u])] [0] [] 7 [0,1,1] (.compLoop kb.e 0 (E T) (E av) (on n (av+102))) A (cf (cm kb.target (on n (av+102)) (.int x bp)))
 Cu:G:=h g P 20 s o L j [(av+102,aJ [U P [120] bx (.int x bp)]),(n+104,a' (E cp))] [] [] 8 [0,1,2,0] (.compLoop kb.e 0 (E T) (E av) (on n (av+102))) A (bN (bT kb.elt (on n (av+102))))
 Cv:G:=h g P 0 s o L j [(n+103,a' (E V)),(V+101,ah aA az)] [] [] 16 [1,2,2,1,2,3] (cn n) A (cM (b7 (bO 7) (bb n)))
 kc:fq:=hj (d_ (bO 9) 0)
 oo(n a:Nat):Env:=js kc a [(⟨⟨[110,117,109,98,101,114,115]⟩⟩,(n+103))] n
 JK:G:=bJ g P 20 bk D F j [] [] [] 1 [] Cu I (.ok (.ret (E a3)))
 JL:G:=bJ g P 0 bk D F j [(s+103,aJ [U P [120] W v]),(n+101,bz (dI P p bL q bU r b []) d i)] [0,1] [] 13 [0,2,2,1,1,1] Cv I (.ok .next)
 Cw:G:=h g P 0 s o L j [(n+101,bz (dI P p bL q bU r b [d8 P y t]) d i)] [] [] 7 [0,1,0] (cn n) A (cM (b7 (bO 8) (bb n)))
 JM:G:=h g P 20 s o L j [(av+102,aJ [])] [0] [] 7 [0,1,1] (.compLoop kc.e 0 (E T) (E av) (oo n (av+102))) A (cf (cm kc.target (oo n (av+102)) (aj bi X)))
 JN:G:=h g P 20 s o L j [(av+102,aJ [U P [106] bx u])] [0] [] 7 [0,1,1] (.compLoop kc.e 0 (E T) (E av) (oo n (av+102))) A (cf (cm kc.target (oo n (av+102)) (aj bi X)))
 rL(n av T s o L:Nat)(j:List (aL×ap))(A:ap)(bi X bx V e:Nat)(aA:List O)(x:Int)(bp:Nat):G:=h g P 20 s o L j [(av+102,aJ [eF P bx bi X]),(n+103,a' (E V)),(V+101,ah aA e)] [] [e0 2 (V+101) aA e bi X (.int x bp)] 15 [0,2,1,3,3,3,1,1,0] (.compLoop kc.e 0 (E T) (E av) (oo n (av+102))) A (bN (bT kc.elt (oo n (av+102))))
 Cx:G:=h g P 0 s o L j [(n+103,a' (E V))] [] [] 10 [0,0,0,0,1] (cn n) A (cM (b7 (bO 9) (bb n)))
 JO:G:=bJ g P 0 bk D F j [(n+101,bz (dI P p bL q bU r b [d8 P y t]) d i)] [0] [] 8 [0,1,1] Cw I (.ok (.ret (E z)))
 JP:G:=bJ g P 20 bk D F j [] [] [] 1 [] (rL n av T s o L j A bi X bx V e aA x bp) I (.ok (.ret (E a3)))
 Cy:G:=bJ g P 0 bk D F j [] [] [] 24 [1,1,1,1,1,1,1] Cx I (.ok (.ret (aj k aB)))
 Cz:G:=bJ g P 0 ao cH aC j [(ar+101,dn (bq 0) (bq k))] [] [] 4 [1] Cy aD (.ok (.ret (E ar)))
 JQ:G:=bJ g P 0 aQ aR aS j [(ao+102,aJ [U P [106] W v]),(n+101,bz (dI P p bL q bU r b [d8 P y t,eu P K z]) d i)] [0,1] [] 13 [0,2,2,1,1,1] Cz aT (.ok .next)
 CA:G:=h g P 0 s o L j [(n+101,bz (dI P p bL q bU r b [d8 P y t,eu P K z,fe P N Q]) d i)] [] [] 9 [0,0,1,0] (cn n) A (cM (b7 (bO 10) (bb n)))
 CB:G:=h g P 0 s o L j [(96,co ⟨[.int 121 0,.int 25 0,.ref aq]⟩)] [0] [] 27 [0,0,1,1,1,1,0,0,0,0] (cn n) A (cM (b7 (bO 11) (bb n)))
 CC:G:=h g P 0 s o L j [(n+101,bz (dI P p bL q bU r b [d8 P y t,eu P K z,fe P N Q,gz P R S]) d i)] [] [] 9 [0,0,1,1] (cn n) A (bN (bT (gw (bO 12)) (bb n)))
 CD:G:=h g P 0 s o L j [(n+101,bz (dI P p bL q bU r b [d8 P y t,eu P K z,fe P N Q,gz P R S]) d i),(b+101,ah aF aE)] [] [] 17 [0,0,1,2,2,2] (cn n) A (bN (bT (gw (bO 13)) (bb n)))
 CE:G:=h g P 0 s o L j [(n+101,bz (dI P p bL q bU r b [d8 P y t,eu P K z,fe P N Q,gz P R S]) d i),(96,co ⟨[.int 121 0,.int 25 0,.ref aq,.int 132 0,.int 15 0,.ref aG]⟩)] [1] [] 31 [0,0,2,2,2,2,0,0,0,1,1,0] (cn n) A (cM (b7 (bO 14) (bb n)))
 CF:G:=bJ g P 0 bk D F j [] [] [] 3 [0] CA I (.ok (.ret (.ref (f+110))))
 JR:G:=bJ g P 0 bk D F j [] [] [] 4 [] CB I (.ok (.ret (.ref an)))
 CG:G:=bJ g P 0 bk D F j [(as+101,ah aA aM)] [] [] 13 [1,1,1,1,2] CC I (.ok (.ret (E as)))
 k7:fq:=hj (gw (bO 12))
 oq(n a:Nat):Env:=js k7 a [] n
 JS:G:=bJ g P 0 av aw ax j [(n+101,bz (dI P p bL q bU r b [d8 P y t,eu P K z,fe P N Q]) d i)] [0] [] 8 [0,1,1] CF ay (.ok (.ret (.ref (k+161))))
 JT:G:=h g P 20 s o L j [(av+102,aJ [])] [0] [] 7 [0,1,1] (.compLoop k7.e 0 (E T) (E av) (oq n (av+102))) A (cf (cm k7.target (oq n (av+102)) (E a)))
 JU:G:=h g P 20 s o L j [(av+102,aJ [U P el bx u])] [0] [] 7 [0,1,1] (.compLoop k7.e 0 (E T) (E av) (oq n (av+102))) A (cf (cm k7.target (oq n (av+102)) (E a)))
 JV:G:=h g P 20 s o L j [(av+102,aJ [U P el bx (E a)]),(a+101,ea (Z+101)),(Z+101,fZ P ac cS (aj ab iE) ae)] [] [] 19 [1,2,0,0,0,2,0,0,0,2,2,0,3] (.compLoop k7.e 0 (E T) (E av) (oq n (av+102))) A (bN (bT k7.elt (oq n (av+102))))
 CH:G:=bJ g P 0 bk D F j [(n+101,bz (dI P p bL q bU r b [d8 P y t,eu P K z,fe P N Q,gz P R S]) d i)] [] [] 5 [1,0] CD I (.ok (.ret (E aP)))
 JW:G:=bJ g P 0 bk D F j [(n+101,bz (dI P p bL q bU r b [d8 P y t,eu P K z,fe P N Q,gz P R S]) d i)] [0] [] 8 [0,1,1] CE I (.ok (.ret (E aa)))
 JX:G:=bJ g P 0 ai ak al j [(bk+103,aJ [U P el W v])] [0] [] 5 [1,1,1] CG am (.ok .next)
 CI:G:=bJ g P 0 av aw ax j [(ab+101,ah aA au)] [] [] 13 [1,1,1,1,2] CH ay (.ok (.ret (E ab)))
 xH:G:=h g P 0 s o L j [(n+101,bz (ed P p bL q bU r b y t K z N Q R S af aa []) d i),(aa+101,dd aH aK aO)] [] [] 13 [1,2,2,1,2,2] (cn n) A (bN (bT (gw (bO 15)) (bb n)))
 JY:G:=h g P 0 s o L j [(n+101,bz (dI P p bL q bU r b [d8 P y t,eu P K z,fe P N Q,gz P R S]) d i)] [] [] 2 [1] (cn n) A (bN (bT (j9 (bO 12)) (bb n)))
 JZ:G:=bJ g P 0 ai ak al j [(av+103,aJ [U P el W v])] [0] [] 5 [1,1,1] CI am (.ok .next)
 J0:G:=h g P 0 s o L j [(n+101,bz (dI P p bL q bU r b [d8 P y t,eu P K z,fe P N Q,gz P R S]) d i)] [] [] 2 [1] (cn n) A (bN (bT (j9 (bO 13)) (bb n)))
 kd:fq:=hj (gw (bO 15))
 ng(n a:Nat):Env:=js kd a [] n
 J1:G:=h g P 20 s o L j [(av+102,aJ [])] [0] [] 7 [0,1,1] (.compLoop kd.e 0 (E T) (E av) (ng n (av+102))) A (cf (cm kd.target (ng n (av+102)) (E a)))
 J2:G:=h g P 20 s o L j [(av+102,aJ [U P el bx u])] [0] [] 7 [0,1,1] (.compLoop kd.e 0 (E T) (E av) (ng n (av+102))) A (cf (cm kd.target (ng n (av+102)) (E a)))
 J3:G:=h g P 20 s o L j [(av+102,aJ [U P el bx (E a)]),(a+101,ea (Z+101)),(Z+101,fZ P ac cS (aj ab iE) ae)] [] [] 19 [1,2,0,0,0,2,0,0,0,2,2,0,3] (.compLoop kd.e 0 (E T) (E av) (ng n (av+102))) A (bN (bT kd.elt (ng n (av+102))))
 J4:G:=bJ g P 0 bk D F j [(s+102,aJ [U P el W v])] [0] [] 5 [1,1,1] xH I (.ok .next)
 J5:G:=bJ g P 0 bk D F j [(s+102,aJ [])] [0] [] 1 [1] xH I (.ok .next)
 CJ:G:=h g P 0 s o L j [(n+101,bz (ed P p bL q bU r b y t K z N Q R S af aa []) d i),(aa+101,ah aA au)] [] [] 14 [1,2,2,1,2,3] (cn n) A (bN (bT (gw (bO 15)) (bb n)))
 J6:G:=bJ g P 0 bk D F j [(s+103,aJ [U P el W v])] [0] [] 5 [1,1,1] CJ I (.ok .next)
 CK:G:=h g P 0 s o L j [(n+101,bz (ed P p bL q bU r b y t K z N Q R S af aa []) d i),(t+101,ah aA aI)] [] [] 19 [1,0,0,1,2,2,1,2,3] (cn n) A (bN (bT (j9 (bO 15)) (bb n)))
 CL:G:=bJ g P 0 bk D F j [(s+103,aJ [U P kE W v])] [0] [] 6 [1,1,1] CK I (.ok .next)
 gC:fq:=hj (dm (Cs (j9 (bO 15))) 1)
 ke(n a:Nat):Env:=js gC a [] n
 CM:G:=bJ g P 0 ai ak al j [(z+101,ah aU aV)] [] [] 6 [1,1,1] CL am (.ok (.ret (aj k bx)))
 J7:G:=h g P 20 s o L j [(av+102,aJ [])] [0] [] 7 [0,1,1] (.compLoop gC.e 0 (E T) (E av) (ke n (av+102))) A (cf (cm gC.target (ke n (av+102)) (E a)))
 J8:G:=h g P 20 s o L j [(av+102,aJ [U P kE bx u])] [0] [] 7 [0,1,1] (.compLoop gC.e 0 (E T) (E av) (ke n (av+102))) A (cf (cm gC.target (ke n (av+102)) (E a)))
 J9:G:=h g P 20 s o L j [(av+102,aJ [U P kE bx (E a)])] [] [] 0 [] (.compLoop gC.e 0 (E T) (E av) (ke n (av+102))) A (bN (bT (d5 (gC.ifs.headD default)).1 (ke n (av+102))))
 J_:G:=h g P 20 s o L j [(av+102,aJ [U P kE bx (E a)])] [] [] 2 [1] (.compLoop gC.e 0 (E T) (E av) (ke n (av+102))) A (bN (bT (d5 (gC.ifs.headD default)).2 (ke n (av+102))))
 J':G:=h g P 20 s o L j [(av+102,aJ [U P kE bx (E a)])] [] [] 2 [1] (.compLoop gC.e 0 (E T) (E av) (ke n (av+102))) A (bN (bT gC.elt (ke n (av+102))))
 Ka:G:=bJ g P 0 aW aX aY j [] [] [] 1 [] CM aZ (.ok (.ret (E a3)))
 k8:fq:=hj (gw (bO 13))
 ot(n a:Nat):Env:=js k8 a [] n
 CN:Expr->sO×Expr×g_
  | .Lambda a b C _=>(a,b,C)
  |_=>(⟨[],[],J,[],[],J,[]⟩,default,⟨.function,[],aN,aN,[]⟩)
 xI:sO×Expr×Scope:=CN (dm (d_ (bO 14) 0) 1)
 uB(c:Nat):FuncData:={name:=⟨⟨s6⟩⟩,qualname:=⟨⟨s7⟩⟩,params:=xI.1,body:= .expr xI.2.1,scope:=xI.2.2,globals:=3,closure:=[],defaults:= .none,kwdefaults:= .none,doc:= .none,pyModule:=(.str ⟨⟨i4⟩⟩ 265),annotations:=J,code:=(.ref c),closureTuple:= .none,builtins:=0}
 Kb:FuncData:={name:=⟨⟨nV⟩⟩,qualname:=⟨⟨nV⟩⟩,params:=wJ (jd 11),body:= .stmts (fnOf (jd 11)).1,scope:=(fnOf (jd 11)).2,globals:=3,closure:=[],defaults:= .none,kwdefaults:= .none,doc:= .none,pyModule:=(.str ⟨⟨i4⟩⟩ 265),annotations:=J,code:=(.ref 83),closureTuple:= .none,builtins:=0}
 uC(m o:Nat):Obj:={cls:=(.type "code"),data:=(.fields ⟨[(.str ⟨⟨s6⟩⟩ o),(.str ⟨⟨s7⟩⟩ (o+1)),(.str ⟨⟨fj⟩⟩ (o+2)),(aj 137 0),(aj 2 0),(aj 0 0),(aj 0 0),(aj 19 0),(E m),(.bool ag),(aj 181 0),(.ref (m+102)),.none,(.ref (m+103)),(.ref (m+104)),(.ref (m+105)),(aj (o+5) 0),(aj 137 0),(.str ⟨⟨fj⟩⟩ (o+6))]⟩)}
 Kc:G:=h g P 20 s o L j [(av+102,aJ [])] [0] [] 7 [0,1,1] (.compLoop k8.e 0 (E T) (E av) (ot n (av+102))) A (cf (cm k8.target (ot n (av+102)) (E a)))
 Kd:G:=h g P 20 s o L j [(av+102,aJ [U P el bx u])] [0] [] 7 [0,1,1] (.compLoop k8.e 0 (E T) (E av) (ot n (av+102))) A (cf (cm k8.target (ot n (av+102)) (E a)))
 Ke:G:=h g P 20 s o L j [(av+102,aJ [U P el bx (E a)]),(a+101,ea (Z+101)),(Z+101,fZ P ac cS (aj ab iE) ae)] [] [] 19 [1,2,0,0,0,2,0,0,0,2,2,0,3] (.compLoop k8.e 0 (E T) (E av) (ot n (av+102))) A (bN (bT k8.elt (ot n (av+102))))
 CO:G:=c_ g P 200 n o L j [(m+107,de (uB (m+106))),(m+106,uC m p3),(a,de d4)] [] [] 20 [1,2,0,4,4,0,4,4,3,4,4,3] (.call (.ref (m+107)) ⟨[.ref an,.ref a],[]⟩) A
 Kf:G:=bJ g P 200 bk D F j [] [] [] 1 [] CO I (.ok (.ret (.ref a3)))
open xG
end
open xG
noncomputable def Kg(g:Nat->Option ab)(P:a1):List Prop:=[
 kb.e=d_ (bO 7) 0,
 kc.e=d_ (bO 9) 0,
 k7.e=gw (bO 12),
 k8.e=gw (bO 13),
 kd.e=gw (bO 15),
 gC.e=dm (Cs (j9 (bO 15))) 1,
 ∀n d K a b c j A x V,ok [0] (JI g P n a K b c d j A x V) (.next) 0 [H (d+102,aJ [U P [120] b (.int x V)])] 0 1 [],
 ∀n d K a b c j A x V L u,ok [0] (JJ g P n a K b c d j A x V u L) (.next) 0 [H (d+102,aJ [U P [120] L (.int x V)])] 0 1 [],
 ∀n d K a b c j A x V L aD,b3 [] (Cu g P n a K b c d j A x V aD L) J J 8 (.call (.call (.ref 89) ⟨[.int x V,E aD],[]⟩) J) 0 [] 0 0 [] J,
 ∀n d K a b c j A x V L aD z B G X I,ok [] (JK g P n a K b c d j A x V aD L z B G X I) (.ret (E X)) 0 [] 0 0 [],
 ∀n a b c j A R aH O,b3 [2,3,4] (Cv g P n a b c j A R aH O) J J 8 (.call (.compStart kb.e 0 (E a) (E (a+1)) (on n (a+103))) J) 0 [H (a+101,b2 (R+101) 0),H (a+102,ah [] 0),H (a+103,aJ [])] 3 0 [] J,
 ∀n a b c j A R aH O i l o p q r s h z B G S v I,ok [1] (JL g P n a b c j A i R aH l o p q r s h z B G O I S v) (.next) 0 [H (n+101,bz (dI P o p q r s h [U P ph B (.ref (a+102))]) (i+1) l)] 0 1 [],
 ∀n a b c j A i l o p q r s h y t,b3 [] (Cw g P n a b c j A i l o p q r s h y t) J J 8 (.call (.call (.ref 94) ⟨[E t],[]⟩) J) 0 [] 0 0 [] J,
 ∀n a b c j A i l o p q r s h y t z B G w I,ok [0] (JO g P n a b c j A i l o p q r s h y t w z B G I) (.next) 0 [H (n+101,bz (dI P o p q r s h [d8 P y t,eu P B w]) (i+1) l)] 0 1 [],
 ∀n a b c j A R,b3 [] (Cx g P n a b c j A R) J J 8 (.call (.call (.builtin "len") ⟨[E R],[]⟩) J) 0 [] 0 0 [] J,
 ∀n d K a b c j A Y Z,ok [0] (JM g P n a K b c d j A Y Z) (.next) 0 [H (d+102,aJ [eF P b Y Z])] 0 1 [],
 ∀n d K a b c j A Y Z L u,ok [0] (JN g P n a K b c d j A Y Z u L) (.next) 0 [H (d+102,aJ [eF P L Y Z])] 0 1 [],
 ∀n d K a b c j A Y Z L R e O x V,b3 [] (rL g P n d K a b c j A Y Z L R e O x V) J J 8 (.call (.call (.ref 72) ⟨[.int x V,aj Y Z],[]⟩) J) 0 [] 0 0 [] J,
 ∀n d K a b c j A Y Z L R e O x V z B G X I,ok [] (JP g P n a K b c d j A R Y Z x V e L z B G X O I) (.ret (E X)) 0 [] 0 0 [],
 ∀n a b c j A R z B G k aq I,b3 [0] (Cy g P n a b c j A R aq z B G k I) J J 8 (.call (.call (.builtin "range.__iter__") ⟨[E z],[]⟩) J) 0 [H (z+101,k3 (bq k) B aq (B+1))] 1 2 [] J,
 ∀n a b c j A R z B G k aq I ae aI aK aE aL,b3 [1,2] (Cz g P n a b c j A R aq ae aI aK aE aL z B G k I) J J 8 (.call (.compStart kc.e 0 (E aE) (E ae) (oo n (ae+102))) J) 0 [H (ae+101,ah [] 0),H (ae+102,aJ [])] 2 0 [] J,
 ∀n a b c j A R z B G k aq I ae aI aK aE aL i l o p q r s h y t C w aT aS aU S v aV,ok [1] (JQ g P n a b c j A i R l o p q aq r s ae h aI y aK t aE C aL w z B G k I S aT v aS aU aV) (.next) 0 [H (n+101,bz (dI P o p q r s h [d8 P y t,eu P C w,fe P aS ae]) (i+1) l)] 0 1 [],
 ∀n a b c j A i l o p q r s h y t C w F D,b3 [] (CA g P n a b c j A i l o p q r s h y t C w F D) J J 8 (.call (.call (.ref 79) ⟨[E h],[]⟩) J) 0 [] 0 0 [] J,
 ∀n a b c j A i l o p q r s h y t C w F D z B G f I,b3 [] (CF g P n a b c j A i l o p q r s h y t C w F z D B G f I) J J 8 (.call (.call (.ref 21) ⟨[.ref (f+110)],[]⟩) J) 0 [] 0 0 [] J,
 ∀n a b c j A i l o p q r s h y t C w F D z B G f I d ar au k av,ok [0] (JS g P n a b c d j A i l o p q r s h y t C w F z D B G k f I ar au av) (.next) 0 [H (n+101,bz (dI P o p q r s h [d8 P y t,eu P C w,fe P F D,U P [107,101,121] ar (.ref (k+161))]) (i+1) l)] 0 1 [],
 ∀n a b c j A aa,b3 [0] (CB g P n a b c j A aa) J J 8 (.call (.call (.ref 21) ⟨[.ref (a+107)],[]⟩) J) 0 [H (96,co ⟨[.int 121 0,.int 25 0,.ref aa,.int 132 0,.int 15 0,.ref (a+106)]⟩)] 7 7 [] J,
 ∀n a b c j A aa z B G v I,ok [] (JR g P n a b c j A v aa z B G I) (.next) 0 [] 0 0 [],
 ∀n a b c j A i l o p q r s h y t C w F D N M,b3 [] (CC g P n a b c j A i l o p q r s h y t C w F D N M) J J 8 (.call (.call (.builtin "sorted") ⟨[E D],[(⟨⟨[107,101,121]⟩⟩,.ref (M+159))]⟩) J) 0 [] 0 0 [] J,
 ∀n a b c j A i l o p q r s h y t C w F D N M z B G aF aM O I,b3 [1,2,3] (CG g P n a b c j A i l o p q r s h y t C w F z D B N G M O I aF aM) J J 8 (.call (.compStart k7.e 0 (E z) (E (z+1)) (oq n (z+103))) J) 0 [H (z+101,b2 (aF+101) 0),H (z+102,ah [] 0),H (z+103,aJ [])] 3 0 [] J,
 ∀n d K a b c j A x,ok [0] (JT g P n a K b c d j A x) (.next) 0 [H (d+102,aJ [U P el b (E x)])] 0 1 [],
 ∀n d K a b c j A x L u,ok [0] (JU g P n a K b c d j A x u L) (.next) 0 [H (d+102,aJ [U P el L (E x)])] 0 1 [],
 ∀n d K a b c j A x L aw ax ay W af az,ok [] (JV g P n a K b c d j A x aw ax ay L af az W) (.ret (aj W af)) 0 [] 0 1 [],
 ∀n d K a b c j A x,ok [0] (Kc g P n a K b c d j A x) (.next) 0 [H (d+102,aJ [U P el b (E x)])] 0 1 [],
 ∀n d K a b c j A x L u,ok [0] (Kd g P n a K b c d j A x u L) (.next) 0 [H (d+102,aJ [U P el L (E x)])] 0 1 [],
 ∀n d K a b c j A x L aw ax ay W af az,ok [] (Ke g P n a K b c d j A x aw ax ay L af az W) (.ret (aj W af)) 0 [] 0 1 [],
 ∀n d K a b c j A x,ok [0] (J1 g P n a K b c d j A x) (.next) 0 [H (d+102,aJ [U P el b (E x)])] 0 1 [],
 ∀n d K a b c j A x L u,ok [0] (J2 g P n a K b c d j A x u L) (.next) 0 [H (d+102,aJ [U P el L (E x)])] 0 1 [],
 ∀n d K a b c j A x L aw ax ay W af az,ok [] (J3 g P n a K b c d j A x aw ax ay L af az W) (.ret (aj W af)) 0 [] 0 1 [],
 ∀n a b c j A i l o p q r s h y t C w F D N M z B G aF aM O I ac ai ak S v al,ok [] (JX g P n a b c j A i l o p q r s h y t C w F z D B N G M O I aF aM S v ac ai ak al) (.ret (.ref (z+102))) 0 [] 0 0 [],
 ∀n a b c j A i l o p q r s h y t C w F D N M,ok [] (JY g P n a b c j A i l o p q r s h y t C w F D N M) (.ret (E w)) 0 [] 0 0 [],
 ∀n a b c j A i l o p q r s h y t C w F D N M am an,b3 [2] (CD g P n a b c j A i l o p q r s h y t C w F D N M am an) J J 8 (.call (.call (.builtin "list.__getitem__") ⟨[E h,E a],[]⟩) J) 0 [H (a+101,p1 .none .none (.int (-1) (b+1)))] 1 2 [] J,
 ∀n a b c j A i l o p q r s h y t C w F D N M am an z B G as I,b3 [] (CH g P n a b c j A i l o p q r s h y t C w F z D B N G M am an I as) J J 8 (.call (.call (.ref 30) ⟨[.ref 84,E as,E D],[]⟩) J) 0 [] 0 0 [] J,
 ∀n a b c j A i l o p q r s h y t C w F D N M am an z B G as I d ar au W ao O av,b3 [1,2,3] (CI g P n a b c d j A i l o p q r s h y t C w F z D B N W G M am an O I as ao ar au av) J J 8 (.call (.compStart k8.e 0 (E d) (E (d+1)) (ot n (d+103))) J) 0 [H (d+101,b2 (W+101) 0),H (d+102,ah [] 0),H (d+103,aJ [])] 3 0 [] J,
 ∀n a b c j A i l o p q r s h y t C w F D N M am an z B G as I d ar au W ao O av ac ai ak S v al,ok [] (JZ g P n a b c d j A i l o p q r s h y t C w F z D B N W G M am an O I as ao ar au S v ac av ai ak al) (.ret (.ref (d+102))) 0 [] 0 0 [],
 ∀n a b c j A i l o p q r s h y t C w F D N M,ok [] (J0 g P n a b c j A i l o p q r s h y t C w F D N M) (.ret (E w)) 0 [] 0 0 [],
 ∀n a b c j A i l o p q r s h y t C w F D N M aa aG,b3 [1,7,8] (CE g P n a b c j A i l o p q r s h aa y t C w F D N M aG) J J 8 (.call (.call (.ref 30) ⟨[.ref (a+107),E h,E D],[]⟩) J) 0 [H (96,co ⟨[.int 121 0,.int 25 0,.ref aa,.int 132 0,.int 15 0,.ref aG,.int 137 0,.int 21 0,.ref (a+106)]⟩),H (a+106,uC a b),H (a+107,de (uB (a+106)))] 7 7 [] J,
 ∀n a b c j A i l o p q r s h y t C w F D N M aa aG z B G Q I,ok [0] (JW g P n a b c j A i l o p q r s h aa y t C w F z D B N G M aG Q I) (.next) 0 [H (n+101,bz (ed P o p q r s h y t C w F D N M B Q []) (i+1) l)] 0 1 [],
 ∀n a b c j A i l o p q r s h y t C w F D N M T Q aA aB aC,b3 [2,3] (xH g P n a b c j A i l o p q r s h y t C w F D N M T Q aA aB aC) J J 8 (.call (.compStart kd.e 0 (E Q) (E a) (ng n (a+102))) J) 0 [H (a+101,ah [] 0),H (a+102,aJ [])] 2 0 [] J,
 ∀n a b c j A i l o p q r s h y t C w F D N M T Q aA aB aC z B G S v I,ok [] (J4 g P n a b c j A i l o p q r s h y t C w F z D B N G M T Q I aA aB aC S v) (.ret (E a)) 0 [] 0 0 [],
 ∀n a b c j A i l o p q r s h y t C w F D N M T Q aA aB aC z B G I,ok [] (J5 g P n a b c j A i l o p q r s h y t C w F z D B N G M T Q I aA aB aC) (.ret (E a)) 0 [] 0 0 [],
 ∀n a b c j A i l o p q r s h y t C w F D N M T Q ao O,b3 [2,3,4] (CJ g P n a b c j A i l o p q r s h y t C w F D N M T O Q ao) J J 8 (.call (.compStart kd.e 0 (E a) (E (a+1)) (ng n (a+103))) J) 0 [H (a+101,b2 (Q+101) 0),H (a+102,ah [] 0),H (a+103,aJ [])] 3 0 [] J,
 ∀n a b c j A i l o p q r s h y t C w F D N M T Q ao O z B G S v I,ok [] (J6 g P n a b c j A i l o p q r s h y t C w F z D B N G M T O Q I ao S v) (.ret (.ref (a+102))) 0 [] 0 0 [],
 ∀n a b c j A i l o p q r s h y t C w F D N M T Q ap O,b3 [2,3,4] (CK g P n a b c j A i l o p q r s h y t C w F D N M T O Q ap) J J 8 (.call (.compStart gC.e 0 (E a) (E (a+1)) (ke n (a+103))) J) 0 [H (a+101,b2 (t+101) 0),H (a+102,ah [] 0),H (a+103,aJ [])] 3 0 [] J,
 ∀n a b c j A i l o p q r s h y t C w F D N M T Q ap O z B G S v I,b3 [] (CL g P n a b c j A i l o p q r s h y t C w F z D B N G M T O Q I ap S v) J J 8 (.call (.call (.builtin "len") ⟨[.ref (a+102)],[]⟩) J) 0 [] 0 0 [] J,
 ∀n a b c j A i l o p q r s h y t C w F D N M T Q ap O z B G S v I ac ai ak k L aO aP al,b3 [1] (CM g P n a b c j A i l o p q r L s h y t C w F z D B N G M k T O Q I ap S v ac ai ak aO aP al) J J 8 (.call (.call (.builtin "list.__getitem__") ⟨[E w,E ac],[]⟩) J) 0 [H (ac+101,p1 .none (aj k L) .none)] 1 0 [] J,
 ∀n a b c j A i l o p q r s h y t C w F D N M T Q ap O z B G S v I ac ai ak k L aO aP al aW aX aY X aZ,ok [] (Ka g P n a b c j A i l o p q r L s h y t C w F z D B N G M k T X O Q I ap S v ac ai ak aO aP al aW aX aY aZ) (.ret (E X)) 0 [] 0 0 [],
 ∀n d K a b c j A x,ok [0] (J7 g P n a K b c d j A x) (.next) 0 [H (d+102,aJ [U P kE b (E x)])] 0 1 [],
 ∀n d K a b c j A x L u,ok [0] (J8 g P n a K b c d j A x u L) (.next) 0 [H (d+102,aJ [U P kE L (E x)])] 0 1 [],
 ∀n d K a b c j A x L,ok [] (J9 g P n a K b c d j A x L) (.ret (.bool ag)) 0 [] 0 0 [],
 ∀n d K a b c j A x L,ok [] (J_ g P n a K b c d j A x L) (.ret (E x)) 0 [] 0 0 [],
 ∀n d K a b c j A x L,ok [] (J' g P n a K b c d j A x L) (.ret (E x)) 0 [] 0 0 [],
 ∀m aQ n b c j A v x aR,b3 [] (CO g P m n aQ b c j A v x aR) J J 8 (.call (.call (.ref x) ⟨[.none,.ref v],[]⟩) J) 0 [] 1 2 [] J,
 ∀m aQ n b c j A v x aR z B G X I,ok [] (Kf g P m n aQ b c j A v x aR z B G X I) (.ret (.ref X)) 0 [] 0 0 [],
 g 84=H (de Kb)]
noncomputable def ii(g:Nat->Option ab)(P:a1):Prop:=AllP (Kg g P)
variable(g:Nat->Option ab)(P:a1)
noncomputable def CP:=0 where
 fG:Expr×List cb×List Stmt:=d' (rl 2).1
 hl(b a c n d:Nat):Code:= .forLoop fG.1 (E d) fG.2.1 fG.2.2 (gU 2 b n a c)
 xJ(b a c n d:Nat)(v:O):aI PySem.Fin:=R.onRaiseR (d3 (wF fG.1 (E d) v) λ_=>d3 (cm fG.1 (gU 2 b n a c) v) λ_=>d3 (b7 fG.2.1 (gU 2 b n a c)) λf=>(match f with
  | .next| .cont=> .pure (.again (hl b a c n d))
  | .brk=> .pure (.done .next)
  | .ret v=> .pure (.done (.ret v)):aI b0)) λx=>d3 (y' x (gU 2 b n a c)) λ_=>za x
 xK:Expr×List Stmt:=(d_ (fG.2.1.drop 1) 0,(d' (fG.2.1.drop 1)).2.1)
 nh:Expr×Expr:=d5 xK.1
 p4:Expr:=dm nh.2 0
open CP
section
variable(b_ a c n T s o L:Nat)(j:List (aL×ap))(A:ap)(b:Nat)(v:O)(d e:Nat)(ay:O)(i r f cS k:Nat)(p:O)(m:Nat)(t:O)(aA:List O)(q:O)
noncomputable def xL:=0 where
 Kh:G:=h g P 510 s o L j [(n+101,cF P d e ay [])] [0] [] 7 [0,1,1] (hl b_ a c n T) A (cf (cm fG.1 (gU 2 b_ n a c) (E b)))
 Ki:G:=h g P 510 s o L j [(n+101,cF P d e ay (gt P 4 f k p q))] [0] [] 7 [0,1,1] (hl b_ a c n T) A (cf (cm fG.1 (gU 2 b_ n a c) (E b)))
 Kj:G:=h g P 510 s o L j [(n+101,cF P d e ay [U P qT f (E b)]),(b+101,ea (i+101)),(i+101,fZ P r cS t (E m))] [0] [] 27 [1,2,0,0,0,2,0,0,0,2,2,0,3,0,1,1] (hl b_ a c n T) A (cM (b7 (fG.2.1.take 1) (gU 2 b_ n a c)))
 Kk:G:=h g P 510 s o L j [(n+101,cF P d e ay (gt P 4 f k (E b) q)),(b+101,ea (i+101)),(i+101,fZ P r cS t (E m))] [0] [] 27 [1,2,0,0,0,2,0,0,0,2,2,0,3,0,1,1] (hl b_ a c n T) A (cM (b7 (fG.2.1.take 1) (gU 2 b_ n a c)))
 Kl:G:=h g P 510 s o L j [(n+101,cF P d e ay (gt P 4 f k p q))] [] [] 2 [1] (hl b_ a c n T) A (bN (bT (dm nh.1 0) (gU 2 b_ n a c)))
 Km:G:=h g P 510 s o L j [(b_+102,a' v)] [] [] 2 [1] (hl b_ a c n T) A (bN (bT (dm nh.1 1) (gU 2 b_ n a c)))
 Kn:G:=h g P 510 s o L j [(n+101,cF P d e ay (gt P 4 f k p (E m))),(b_+103,a' (.builtin "isinstance")),(b_+104,a' (.type "str")),(m+101,ah aA)] [] [] 29 [2,1,3,4,4,4,4,4,4,4] (hl b_ a c n T) A (bN (bT p4 (gU 2 b_ n a c)))
open xL
end
open xL
noncomputable def Ko(g:Nat->Option ab)(P:a1):List Prop:=[
 ∀b a c n d,((au g P 2 b a c n d).c,(au g P 2 b a c n d).aU.map cU,(au g P 2 b a c n d).aU.any mG)=(hl b a c n d,(au g P 2 b a c n d).aU.map cU,aN),
 ∀b a c n d A v,eh (f g P 2 b a c n d A).t (.ok (.ret v))=xJ b a c n d v,
 ∀b a c n d A,((f g P 2 b a c n d A).c,(f g P 2 b a c n d A).aU,dp (cW (f g P 2 b a c n d A).c (f g P 2 b a c n d A).aU) 8)=(hl b a c n d,(au g P 2 b a c n d).aU,ag),
 ∀b a c n d,(fw (au g P 2 b a c n d).aU (J,J)).1=J,
 ∀b a c n d k e l j A m h i ay,ok [0] (Kh g P b a c n d k e l j A m h i ay) (.next) 0 [H (n+101,cF P h i ay [U P qT e (E m)])] 0 1 [],
 ∀b a c n d k e l j A m h i ay o p s q,ok [0] (Ki g P b a c n d k e l j A m h i ay o p s q) (.next) 0 [H (n+101,cF P h i ay (gt P 4 o p (E m) q))] 0 1 [],
 ∀b a c n d k e l j A m h i ay t u w r x o,ok [0] (Kj g P b a c n d k e l j A m h i ay t u o w r x) (.next) 0 [H (n+101,cF P h i ay (gt P 4 o (e+1) (E m) (E r)))] 0 2 [],
 ∀b a c n d k e l j A m h i ay t u w r x o p q,ok [0] (Kk g P b a c n d k e l j A m h i ay t u o w p r x q) (.next) 0 [H (n+101,cF P h i ay (gt P 4 o p (E m) (E r)))] 0 2 [],
 ∀b a c n d k e l j A (m:Nat) h i ay o p s q,ok [] (Kl g P b a c n d k e l j A h i ay o p s q) (.ret q) 0 [] 0 0 [],
 ∀b a c n d k e l j A v,ok [] (Km g P b a c n d k e l j A v) (.ret v) 0 [] 0 0 [],
 ∀b a c n d k e l j A (m:Nat) h i ay o p r s y,ok [] (Kn g P b a c n d k e l j A h i ay o p s r y) (.ret (.bool aN)) 0 [] 0 1 []]
noncomputable def uD(g:Nat->Option ab)(P:a1):Prop:=AllP (Ko g P)
variable(g:Nat->Option ab)(P:a1)
noncomputable def kf:List Stmt:=(d' (bO 6)).2.1
noncomputable def jt(a:O)(b:Bool)(c i:Nat)(d:O):Obj:={cls:= .type "enumerate",data:= .fields ⟨[a,.bool b,.ref c,aj i 0,.none,d]⟩}
section
variable(p b_ b m r p3 n ar v M s t o f Q L R i:Nat)(j:List (aL×ap))(ae bL K:Nat)(A:ap)(e bU ai:Nat)(N:O)(ak:List O)(T:Nat)(bS:List O)(S:List gp)(d:Nat)(x:O)(V hk:Nat)(al:O)(q y:Nat)(d4:g')(eq:Nat)(z:O)(af:List O)(bp j5:Nat)(aA:List O)(cS bk am D an F W:Nat)(st:c0)(I:ap)(aM:Nat)(ao X:O)(a3:Nat)(Z aa:O)(a:Nat)(ab ac:O)(av:Nat)(aq:List O)(as:Nat)(au:List O)(aw:Nat)(ax:ap)
noncomputable def xM:=0 where
 rM:G:=h g P 0 s o L j [(n+101,ek [U P k Q (E bL),U P dh R (E bU)]),(96,co ⟨[]⟩),(bL+101,ah ak ai)] [1] [] 62 [0,0,2,2,2,2,0,0,0,0,0,1,0,3,3,1,3,12,13,13,13,13,0] (cn n) A (cM (b7 (kf.take 1) (bb n)))
 Kp:G:=c_ g P 230 n o L j [] [] [] 17 [0,0,0,0,1,1,0,1,1,0,1,1,3] (.call (.ref 30) ⟨[.ref p,E b,E r],[]⟩) A
 CQ(P:a1)(M p b r:Nat):Obj:={cls:= .type "frame",data:= .dict ⟨[U P s3 M (.ref p),U P s4 (M+1) (E b),U P s5 (M+2) (E r)]⟩ 3}
 rN(n:Nat):Code:= .func l6.1 (fd n)
 rO:G:=h g P 230 s o L j [(n+101,CQ P M p b r),(b+101,jt .none aN f 0 N),(r+101,ah bS j5)] [0] [] 57 [0,0,1,2,2,1,2,2,0,1,1,1,0,3,0,1,0,1,1,1,2,2,1,2,2] (rN n) A (cM (b7 (l6.1.take 3) (fd n)))
 iJ(P:a1)(M t p b r v:Nat)(S:List gp):Obj:={cls:= .type "frame",data:= .dict ⟨[U P s3 M (.ref p),U P s4 (M+1) (E b),U P s5 (M+2) (E r),U P [105,116] t (E b),U P [118,97,108,117,101] (t+1) (.ref v)]++S⟩ (5+S.length)}
 CR(a X:O)(aM:Nat)(b:List O):Obj:={cls:=a,data:= .fields ⟨X:: .ref aM::b⟩}
 gZ(Z aa ab ac:O)(a:List O):Obj:={cls:= .type "traceback",data:= .fields ⟨Z::aa::ab::ac::a⟩}
 Kq:G:=bJ g P 230 bk D F j [] [] [] 0 [] rO I (.ok .next)
 Kr:G:=bJ g P 230 bk D F j [(e,CR ao X aM aq),(aM,gZ Z aa ab ac au)] [1] [] 4 [1,1,2,2] rO I (.error (.ref e))
 Ks:G:=h g P 230 s o L j [(n+101,iJ P M t p b r v S)] [] [] 3 [1] (rN n) A (cM (b7 (l6.1.drop 3) (fd n)))
 Kt:G:=h g P 240 s o L j [(b+101,jt .none aN f i N),(f,b2 ar i),(ar,ah aA e)] [0,1] [hB 1 2 f ar i aA e x] 26 [1,0,1,1,2,1,1,1,1,1,1,1,1,1,1,1,1,1,1,1] (eT n (b+101)) A (gR (n5 (E b)))
 Ku:G:=h g P 240 s o L j [(b+101,jt (aj q 0) aN f i N),(f,b2 ar i),(ar,ah aA e),(q,fQ af)] [0,1] [hB 1 2 f ar i aA e x] 21 [1,0,1,1,2,1,1,1,1,1,1,1,1,4,1,1,1] (eT n (b+101)) A (gR (n5 (E b)))
 Kv:G:=h g P 240 s o L j [(b+101,jt (aj q 0) ag f i N),(f,b2 ar i),(ar,ah aA e),(q,fQ af)] [0,1] [hB 1 2 f ar i aA e x] 19 [1,0,1,1,2,1,1,1,1,1,1,1,1,4,1] (eT n (b+101)) A (gR (n5 (E b)))
 Kw:G:=h g P 240 s o L j [(b+101,jt (aj q 0) ag f i N),(f,b2 ar i),(ar,ah aA e)] [0,1] [hC 1 2 f ar i aA e] 9 [1,0,1,1,2,1,5] (eT n (b+101)) A (gR (n5 (E b)))
 Kx:G:=h g P 240 s o L j [(n+101,iJ P M t p b r v [])] [0] [] 7 [0,1,1] (eT n (b+101)) A (cf (cm k5.1 (fd n) (.ref K)))
 Ky:G:=h g P 240 s o L j [(n+101,iJ P M t p b r v (fF P V y))] [0] [] 7 [0,1,1] (eT n (b+101)) A (cf (cm k5.1 (fd n) (.ref K)))
 rP:G:=h g P 240 s o L j [(n+101,iJ P M t p b r v (fF P V K)),(p,de d4)] [] [] 9 [1,1,1,2] (eT n (b+101)) A (cM (b7 k5.2.1 (fd n)))
 Kz:G:=bJ g P 240 bk D F j [(n+101,iJ P M t p b r v (fF P V K))] [0] [] 8 [0,1,1] rP I (.ok (.ret (.ref an)))
 KA:G:=bJ g P 240 bk D F j [] [] [] 0 [] rP I (.error (.ref W))
 p5:sO×Expr×Scope:=CN (dm (d_ (kf.take 1) 0) 1)
 rQ(n m:Nat):FuncData:={name:=⟨⟨s6⟩⟩,qualname:=⟨⟨s7⟩⟩,params:=p5.1,body:= .expr p5.2.1,scope:=p5.2.2,globals:=3,closure:=[(⟨⟨pi⟩⟩,n+107)],defaults:= .none,kwdefaults:= .none,doc:= .none,pyModule:=(.str ⟨⟨i4⟩⟩ 265),annotations:=J,code:=(.ref (m+107)),closureTuple:=(E m),builtins:=0}
 rR(m o:Nat):Obj:={cls:=(.type "code"),data:=(.fields ⟨[(.str ⟨⟨s6⟩⟩ o),(.str ⟨⟨s7⟩⟩ (o+1)),(.str ⟨⟨fj⟩⟩ (o+2)),(aj 121 0),(aj 2 0),(aj 0 0),(aj 0 0),(aj 19 0),(.ref (m+102)),(.bool ag),(aj 181 0),(.ref (m+103)),.none,(.ref (m+104)),(.ref (m+105)),(.ref (m+106)),(aj (o+6) 0),(aj 121 0),(.str ⟨⟨fj⟩⟩ (o+7))]⟩)}
 KC:G:=c_ g P 245 n o L j [(m+108,de (rQ b_ m)),(m+107,rR m p3)] [] [] 12 [1,2,0,3,3,0,3,3,3] (.call (.ref (m+108)) ⟨[.ref v,.ref K],[]⟩) A
 ni(b_ m n:Nat):Env:={scope:=p5.2.2,locals:=n+101,globals:=3,cells:=[(⟨⟨pi⟩⟩,b_+107)],qual:=⟨⟨[108,97,119,46,60,108,111,99,97,108,115,62,46,60,108,97,109,98,100,97,62,46,60,108,111,99,97,108,115,62,46]⟩⟩,func:=H (m+108),code:= .ref (m+107),frame:=H (n+101),builtins:=0}
 xN(b_ m n:Nat):Code:= .expr p5.2.1 (ni b_ m n)
 CS(P:a1)(M v x:Nat):Obj:={cls:= .type "frame",data:= .dict ⟨[U P kE M (.ref v),U P [112,97,105,114] (M+1) (.ref x)]⟩ 2}
 rS:G:=h g P 250 s o L j [(n+101,CS P M v K),(K,fQ [aj i hk,aj d eq]),(b_+107,a' (E bp)),(bp+101,ah (eE cS) 0)] [] [e0 3 (bp+101) (eE cS) 0 d eq (.str st am)] 26 [1,0,3,1,2,2,2,0,2,2,4,4,4,1,0] (xN b_ m n) A (bN (bT p5.2.1 (ni b_ m n)))
 KD:G:=bJ g P 250 bk D F j [] [] [] 0 [] rS I (.error (.ref W))
 CT:G:=bJ g P 250 bk D F j [(v,ah aA j5)] [] [] 7 [1,2,1] rS I (.ok (.ret (E a)))
 KE:G:=bJ g P 250 av as aw j [] [] [] 1 [] CT ax (.ok (.ret (E a3)))
 CU:Expr:=d_ (kf.drop 1) 0
 nj:Expr×Expr:=d5 CU
 KG:G:=bJ g P 0 bk D F j [(n+101,ek [U P k Q (E bL),U P dh R (E bU)])] [0] [] 8 [0,1,1] rM I (.ok (.ret (E a3)))
 KH:G:=bJ g P 0 bk D F j [] [] [] 0 [] rM I (.error (.ref W))
 KI:G:=h g P 0 s o L j [(n+101,ek [U P k Q (E bL),U P dh R (E bU),U P fW ae (E T)]),(T+101,ah [x,al,z] e)] [] [] 25 [0,0,1,2,2,2,1] (cn n) A (jU (ri nj.1 (bb n) (bT nj.1 (bb n))))
 KJ:G:=h g P 0 s o L j [(n+101,ek [U P k Q (E bL),U P dh R (E bU),U P fW ae (E T)])] [] [] 2 [1] (cn n) A (bN (bT (dm nj.2 0) (bb n)))
 KL:G:=h g P 0 s o L j [] [] [] 2 [] (cn n) A (bN (bT (dm nj.2 1) (bb n)))
 KN:G:=c_ g P 240 s o L j [] [] [] 0 [] (.block k5.2.2 (fd n)) A
open xM
end
open xM
noncomputable def KO(g:Nat->Option ab)(P:a1):List Prop:=[
 ∀n b c f j A L N F G X Y,b3 [1,9,10,11,12,13] (rM g P n b c L f N j F A G X Y) J J 8 (.call (.call (.ref 30) ⟨[.ref (b+108),.ref (b+110),.ref (b+111)],[]⟩) J) 0 [H (96,co ⟨[.int 121 0,.int 25 0,.ref (b+107)]⟩),H (b+107,rR b c),H (b+108,de (rQ n b)),H (b+109,b2 (F+101) 0),H (b+110,jt .none aN (b+109) 0 .none),H (b+111,ah [] 0)] 11 8 [] J,
 ∀l h o n c f j A,ok [0] (Kp g P l h o n c f j A) (.again (rN n)) 0 [H (n+101,CQ P c l h o)] 1 3 [],
 ∀l h o M n b c f j A t p Z D,b3 [0] (rO g P l h o n M b c p f j A t Z D) J J 8 (.call (eT n (h+101)) J) 0 [H (n+101,iJ P M c l h o (o+101) [])] 0 2 [] J,
 ∀l h o M n b c f j A t p Z D s u w B,ok [] (Kq g P l h o n M b c p f j A t Z D s u w B) (.next) 0 [] 0 0 [],
 ∀l h o M n b c f j A t p Z D s u w B e (aB:Nat) aM aq ar al am an as au ao,ok [1] (Kr g P l h o n M b c p f j A e t Z D s u w B aM aq ar al am an as au ao) (.err (.ref e)) 0 [H (aM,gZ al am an (aj (n+101) 0) ao)] 0 0 [],
 ∀l h o v M C n b c f j A av,ok [] (Ks g P l h o n v M b C c f j A av) (.ret (.ref v)) 0 [] 0 0 [],
 ∀n h p r i e b c f j A t I x,ok [0,1,3] (Kt g P h n r b c p f i j A e t x I) (.ret (E b)) 0 [H (h+101,jt (aj (b+101) 0) aN p (i+1) x),H (p,b2 r (i+1)),H (b+101,fQ [aj i c,x])] 1 1 [],
 ∀n h p r i e b c f j A t I x q af,ok [0,1,4] (Ku g P h n r b c p f i j A e t x q af I) (.ret (E b)) 0 [H (h+101,jt (aj q 0) ag p (i+1) t),H (p,b2 r (i+1)),H (b+101,fQ [aj i c,x])] 1 1 [],
 ∀n h p r i e b c f j A t I x q af,ok [0,1,4] (Kv g P h n r b c p f i j A e t x q af I) (.ret (E b)) 0 [H (h+101,jt (aj q 0) ag p (i+1) t),H (p,b2 r (i+1)),H (b+101,fQ [aj i c,x])] 1 1 [],
 ∀n h p r i e b c f j A t I (x:O) q (af:List O),ok [] (Kw g P h n r b c p f i j A e t q I) (.next) 0 [] 2 0 [],
 ∀l h o v M C n b c f j A x,ok [0] (Kx g P l h o n v M b C c f j x A) (.next) 0 [H (n+101,iJ P M C l h o v (fF P c x))] 0 1 [],
 ∀l h o v M C n b c f j A x Q y,ok [0] (Ky g P l h o n v M b C c f j x A Q y) (.next) 0 [H (n+101,iJ P M C l h o v (fF P Q x))] 0 1 [],
 ∀l h o v M C n b c f j A x Q aa,b3 [] (rP g P l h o n v M b C c f j x A Q aa) J J 8 (.call (.call (.ref l) ⟨[.ref v,.ref x],[]⟩) J) 0 [] 0 0 [] J,
 ∀l h o v M C n b c f j A x Q aa s u w ap B,ok [0] (Kz g P l h o n v M b C c f j x A Q aa s u ap w B) (.next) 0 [H (n+101,iJ P M C l h o ap (fF P Q x))] 0 1 [],
 ∀l h o v M C n b c f j A x Q aa s u w ac B,ok [] (KA g P l h o n v M b C c f j x A Q aa s u w ac B) (.err (.ref ac)) 0 [] 0 0 [],
 ∀n b c f j A,ok [] (KN g P n b c f j A) (.next) 0 [] 0 0 [],
 ∀K m aw v x n c f j A,ok [2] (KC g P K m aw n v c f j x A) (.again (xN K m n)) 0 [H (n+101,CS P c v x)] 1 2 [],
 ∀K m n M v x b c f j A i d S T V W R (D:Nat) st (I:List O),b3 [] (rS g P K m n v M b c f i j x A d S T V W R st) J J 8 (.call (.call (.ref 44) ⟨[.str st R],[]⟩) J) 0 [] 0 1 [] J,
 ∀K m n M v x b c f j A i d S T V W R (D:Nat) st (I:List O) s u w ac B,ok [] (KD g P K m n v M b c f i j x A d S T V W s R u w ac st B) (.err (.ref ac)) 0 [] 0 0 [],
 ∀K m n M v x b c f j A i d S T V W R D st I s u w a B,b3 [1] (CT g P K m n v M b c f i j x A d S T V D I W s R u w st B a) J J 8 (.call (.call (.builtin "list.__add__") ⟨[.ref v,E s],[]⟩) J) 0 [H (s+101,ah [E a] 0)] 1 0 [] J,
 ∀K m n M v x b c f j A i d S T V W R D st I s u w a B ax ay az ae aA,ok [] (KE g P K m n v M b c f i j x A d S T V D I W s R u w st B ae a ax ay az aA) (.ret (E ae)) 0 [] 0 0 [],
 ∀n b c f j A L N F G X Y s u w ae B,ok [0] (KG g P n b c L f N j F A G X Y s u w B ae) (.next) 0 [H (n+101,ek [U P k L (E F),U P dh N (E G),U P fW u (E ae)])] 0 1 [],
 ∀n b c f j A L N F G X Y s u w ac B,ok [] (KH g P n b c L f N j F A G X Y s u w ac B) (.err (.ref ac)) 0 [] 0 0 [],
 ∀n b c f j A L N ai F G ak x y z e,ok [] (KI g P n b c L f N j ai F A e G ak x y z) (.ret (.bool aN)) 0 [] 0 3 [],
 ∀n b c f j A L N ai F G ak,ok [] (KJ g P n b c L f N j ai F A G ak) (.ret (E G)) 0 [] 0 0 [],
 ∀n b c f j A,ok [0] (KL g P n b c f j A) (.ret (E b)) 0 [H (b+101,ah [] 0)] 1 0 [],
 ∀K m n M v x b c f j A i d S T V W R (D:Nat) st (I:List O) r,(rS g P K m n v M b c f i j x A d S T V W R st).c.envs++(eX ((rS g P K m n v M b c f i j x A d S T V W R st).aU.map cU)++r)=ni K m n::r,
 ∀l h o v M C n b c f j A x Q aa r,(rP g P l h o n v M b C c f j x A Q aa).c.envs++(eX ((rP g P l h o n v M b C c f j x A Q aa).aU.map cU)++r)=r,
 ∀l h o M n b c f j A t p Z D r,(rO g P l h o n M b c p f j A t Z D).c.envs++(eX ((rO g P l h o n M b c p f j A t Z D).aU.map cU)++r)=fd n::r,
 ∀n b c f j A L N F G X Y r,(rM g P n b c L f N j F A G X Y).c.envs++(eX ((rM g P n b c L f N j F A G X Y).aU.map cU)++r)=bb n::r]
noncomputable def k9(g:Nat->Option ab)(P:a1):Prop:=AllP (KO g P)
variable(g:Nat->Option ab)(P:a1)
noncomputable def CV:=0 where
 fH:Expr×List cb×List Stmt:=d' (bO 16)
 i(n a:Nat):Code:= .forLoop fH.1 (E a) fH.2.1 fH.2.2 (bb n)
 p6(i:Nat):List Expr:=tv (d_ (fH.2.1.drop i) 0)
 e6(i:Nat):List Stmt:=(fH.2.1.drop i).take 1
open CV
section
variable(n T s o L:Nat)(j:List (aL×ap))(A:ap)(m a3 f ac:Nat)(u:O)(k:Array (Option O))(bK p ao ay bL aq:Nat)(v:O)(r bU bi t x y d z D F a I b K N Q bk e af R ai S V:Nat)(ak:ap)(W ab aM al X ae am Z an aa:Nat)(aA:List O)(q:ap)(ar av as au aw:Nat)(ax:ap)
noncomputable def xO:=0 where
 CW:G:=h g P 0 s o L j [] [] [] 37 [0,0,1,1,1,1,1,1,1,1,1,1,1,2] (cn n) A (cM (b7 (bO 16) (bb n)))
 KP:G:=bJ g P 0 bk af ai j [] [] [] 0 [] CW ak (.ok .next)
 KQ:G:=c_ g P 20 s o L j [] [] [] 0 [] (.block fH.2.2 (bb n)) A
 KR:G:=h g P 20 s o L j [(n+101,bz (ed P p bL r bU t x y d z D F a I b K N []) f k)] [0] [] 7 [0,1,1] (i n T) A (cf (cm fH.1 (bb n) (aj 0 e)))
 CX:G:=h g P 20 s o L j [(n+101,bz (ed P p bL r bU t x y d z D F a I b K N [eF P Q 0 e]) f k),(a+101,ah aA ab),(b+159,ej b an)] [] [re 1 (a+101) aA ab (o+1) (E al)] 22 [1,1,1,0,2,2,2,1,3,3] (i n T) A (cM (b7 (e6 0) (bb n)))
 t'(bi n T s o L:Nat)(j:List (aL×ap))(A:ap)(f:Nat)(k:Array (Option O))(p bL r bU t x y d z D F a I b K N Q e R S V W aM X Z aa c:Nat):G:=h g P 20 s o L j [(n+101,bz (ed P p bL r bU t x y d z D F a I b K N [eF P Q bi e,f2 P V W,f3 P R S,gA P Z aa,gB P aM X]) f k)] [0] [] 7 [0,1,1] (i n T) A (cf (cm fH.1 (bb n) (aj (bi+1) c)))
 uE:G:=h g P 20 s o L j [(n+101,bz (ed P p bL r bU t x y d z D F a I b K N [eF P Q (bi+1) e,f2 P V W,f3 P R S,gA P Z aa,gB P aM X]) f k),(a+101,ah aA ab),(b+159,ej b an)] [] [e0 1 (a+101) aA ab bi (o+1) (E al)] 22 [1,1,1,0,2,2,2,1,3,3] (i n T) A (cM (b7 (e6 0) (bb n)))
 CY:G:=bJ g P 20 bk af ai j [(n+101,bz (ed P p bL r bU t x y d z D F a I b K N [eF P Q 0 e]) f k),(a+101,ah aA ab),(b+159,ej b an)] [] [e0 1 (a+101) aA ab 0 e (E am)] 15 [1,1,1,2,2,2,1,3,3] CX ak (.ok (.ret (E ar)))
 uF:G:=bJ g P 20 bk af ai j [(n+101,bz (ed P p bL r bU t x y d z D F a I b K N [eF P Q (bi+1) e,f2 P V W,f3 P R S,gA P Z aa,gB P aM X]) f k),(a+101,ah aA ab),(b+159,ej b an)] [] [e0 1 (a+101) aA ab (bi+1) e (E am)] 15 [1,1,1,2,2,2,1,3,3] uE ak (.ok (.ret (E ar)))
 KS:G:=bJ g P 20 av as au j [(n+101,bz (ed P p bL r bU t x y d z D F a I b K N [eF P Q 0 e]) f k)] [0] [] 60 [2,2,2,1,2,3,3,3,3,3,2,3,3,3,3,3,3,2,3,3,3,3,3,3,2,3,3,5,0,1,1,0,1,1] CY ax (.ok (.ret (E aw)))
 KU:G:=h g P 20 s o L j [(n+101,bz (ed P p bL r bU t x y d z D F a I b K N [eF P Q 0 e,f2 P V W,f3 P R S]) f k),(d+101,ah aA ae)] [0] [re 1 (d+101) aA ae (o+1) (E al),e0 1 (d+101) aA ae 0 e (E am)] 85 [1,1,0,2,2,2,1,1,1,2,2,2,2,3,3,3,1,0,3,4,4,0,4,4,4,3,4,4,4,0,4,4,4,3,4,4,4,0,4,4,4,3,4,4,6,0,1,1,0,1,1] (i n T) A (cM (b7 (e6 1) (bb n)))
 CZ:G:=bJ g P 20 av as au j [(n+101,bz (ed P p bL r bU t x y d z D F a I b K N [eF P Q (bi+1) e,f2 P V W,f3 P R S,gA P Z aa,gB P aM X]) f k)] [0] [] 60 [2,2,2,1,2,3,3,3,3,3,2,3,3,3,3,3,3,2,3,3,3,3,3,3,2,3,3,5,0,1,1,0,1,1] uF ax (.ok (.ret (E aw)))
 C0:G:=h g P 20 s o L j [(n+101,bz (ed P p bL r bU t x y d z D F a I b K N [eF P Q (bi+1) e,f2 P V W,f3 P R S,gA P Z aa,gB P aM X]) f k),(d+101,ah aA ae)] [0] [e0 1 (d+101) aA ae bi (o+1) (E al),e0 1 (d+101) aA ae (bi+1) e (E am)] 85 [1,1,0,2,2,2,1,1,1,2,2,2,2,3,3,3,1,0,3,4,4,0,4,4,4,3,4,4,4,0,4,4,4,3,4,4,4,0,4,4,4,3,4,4,6,0,1,1,0,1,1] (i n T) A (cM (b7 (e6 1) (bb n)))
 KV:G:=h g P 20 s o L j [(n+101,bz (ed P p bL r bU t x y d z D F a I b K N [eF P Q bi e,f2 P V W,f3 P R S,gA P Z aa,gB P aM X]) f k)] [] [] 2 [1] (i n T) A (bN (bT (.Name ⟨⟨[108,101,102,116]⟩⟩ q) (bb n)))
 KW:G:=h g P 20 s o L j [(n+101,bz (ed P p bL r bU t x y d z D F a I b K N [eF P Q bi e,f2 P V W,f3 P R S,gA P Z aa,gB P aM X]) f k)] [] [] 2 [1] (i n T) A (bN (bT (.Name ⟨⟨[114,105,103,104,116]⟩⟩ q) (bb n)))
 KY:G:=h g P 20 s o L j [(n+101,bz (ed P p bL r bU t x y d z D F a I b K N [eF P Q bi e,f2 P V W,f3 P R S,gA P Z aa,gB P aM X]) f k)] [] [] 2 [1] (i n T) A (bN (bT (.Name ⟨⟨[111,110,101]⟩⟩ q) (bb n)))
 KZ:G:=h g P 20 s o L j [(n+101,bz (ed P p bL r bU t x y d z D F a I b K N [eF P Q bi e,f2 P V W,f3 P R S,gA P Z aa,gB P aM X]) f k)] [] [] 2 [1] (i n T) A (bN (bT (.Name ⟨⟨s2⟩⟩ q) (bb n)))
 p7:fq:=hj (gw (e6 4))
 uG(n a:Nat):Env:=js p7 a [(⟨⟨[119,97,110,116]⟩⟩,(n+106)),(⟨⟨[116,111,108,100]⟩⟩,(n+105))] n
 C1:G:=h g P 20 s o L j [] [] [] 38 [0,0,1,1,1,1,1,1,1,1,1,1,1,2] (i n T) A (bN (bT (gw (e6 4)) (bb n)))
 K0:G:=c_ g P 40 s o L j [(m+104,aJ []),(m+102,dn 0 6),(m+103,ah [] 0),(n+105,a' (E ac)),(ac+101,dx [ag,ag,aN,ag,aN,aN] ao),(n+106,a' (E bK)),(bK+101,dx [ag,ag,aN,ag,aN,aN] aq)] [0,1,2] [] 308 [2,2,2,2,2,2,2,2,2,0,1,1,4,1,5,5,5,5,5,6,1,7,7,7,7,7,2,2,2,2,2,2,2,2,2,0,1,1,4,1,5,5,5,5,5,6,1,7,7,7,7,7,2,2,2,2,2,2,2,2,2,0,1,1,4,1,5,5,5,5,5,6,1,7,7,7,7,7,2,2,2,2,2,2,2,2,2,0,1,1,4,1,5,5,5,5,5,6,1,7,7,7,7,7,2,2,2,2,2,2,2,2,2,0,1,1,4,1,5,5,5,5,5,6,1,7,7,7,7,7,2,2,2,2,2,2,2,2,2,0,1,1,4,1,5,5,5,5,5,6,1,7,7,7,7,7,2,2,2,2,2,9] (.compLoop p7.e 0 (.ref (m+102)) (.ref (m+103)) (uG n (m+104))) A
 K1:G:=c_ g P 40 s o L j [(m+104,aJ []),(m+102,dn 0 6),(m+103,ah [] 0),(n+105,a' (E ac)),(ac+101,dx [aN,ag,ag,aN,ag,aN] ao),(n+106,a' (E bK)),(bK+101,dx [aN,ag,ag,aN,ag,aN] aq)] [0,1,2] [] 308 [2,2,2,2,2,2,2,2,2,0,1,1,4,1,5,5,5,5,5,6,1,7,7,7,7,7,2,2,2,2,2,2,2,2,2,0,1,1,4,1,5,5,5,5,5,6,1,7,7,7,7,7,2,2,2,2,2,2,2,2,2,0,1,1,4,1,5,5,5,5,5,6,1,7,7,7,7,7,2,2,2,2,2,2,2,2,2,0,1,1,4,1,5,5,5,5,5,6,1,7,7,7,7,7,2,2,2,2,2,2,2,2,2,0,1,1,4,1,5,5,5,5,5,6,1,7,7,7,7,7,2,2,2,2,2,2,2,2,2,0,1,1,4,1,5,5,5,5,5,6,1,7,7,7,7,7,2,2,2,2,2,9] (.compLoop p7.e 0 (.ref (m+102)) (.ref (m+103)) (uG n (m+104))) A
 K2:G:=c_ g P 40 s o L j [(m+104,aJ []),(m+102,dn 0 6),(m+103,ah [] 0),(n+105,a' (E ac)),(ac+101,dx [aN,aN,aN,ag,ag,ag] ao),(n+106,a' (E bK)),(bK+101,dx [aN,aN,aN,ag,ag,ag] aq)] [0,1,2] [] 308 [2,2,2,2,2,2,2,2,2,0,1,1,4,1,5,5,5,5,5,6,1,7,7,7,7,7,2,2,2,2,2,2,2,2,2,0,1,1,4,1,5,5,5,5,5,6,1,7,7,7,7,7,2,2,2,2,2,2,2,2,2,0,1,1,4,1,5,5,5,5,5,6,1,7,7,7,7,7,2,2,2,2,2,2,2,2,2,0,1,1,4,1,5,5,5,5,5,6,1,7,7,7,7,7,2,2,2,2,2,2,2,2,2,0,1,1,4,1,5,5,5,5,5,6,1,7,7,7,7,7,2,2,2,2,2,2,2,2,2,0,1,1,4,1,5,5,5,5,5,6,1,7,7,7,7,7,2,2,2,2,2,9] (.compLoop p7.e 0 (.ref (m+102)) (.ref (m+103)) (uG n (m+104))) A
 ju(i:Nat):Expr:=d_ (fH.2.1.drop i) 1
 K3:G:=bJ g P 20 bk af ai j [(s+104,aJ [U P [107] ay v])] [0] [] 5 [1,1,1] C1 ak (.ok .next)
 K4:G:=h g P 20 s o L j [] [] [] 2 [] (i n T) A (bN (bT (j9 (e6 4)) (bb n)))
 K5:G:=h g P 20 s o L j [(n+105,dD)] [0] [] 5 [1,1] (i n T) A (cf (cm (ju 2) (bb n) (E a3)))
 K6:G:=h g P 20 s o L j [(n+105,a' u)] [0] [] 5 [1,1] (i n T) A (cf (cm (ju 2) (bb n) (E a3)))
 K7:G:=h g P 20 s o L j [(n+106,dD)] [0] [] 5 [1,1] (i n T) A (cf (cm (ju 3) (bb n) (E a3)))
 K8:G:=h g P 20 s o L j [(n+106,a' u)] [0] [] 5 [1,1] (i n T) A (cf (cm (ju 3) (bb n) (E a3)))
 K9:G:=h g P 0 s o L j [] [] [] 1 [] (cn n) A (cM (b7 (bO 17) (bb n)))
open xO
end
open xO
noncomputable def K_(g:Nat->Option ab)(P:a1):List Prop:=[
 p7.e=gw (e6 4),
 ∀n a b c j A,b3 [1] (CW g P n a b c j A) J J 8 (.call (i n (a+1)) J) 0 [H (a+102,dn 0 4)] 2 3 [] J,
 ∀n a b c j A Z aa ac ae,ok [] (KP g P n a b c j A Z aa ac ae) (.next) 0 [] 0 0 [],
 ∀n (d:Nat) a b c j A,ok [] (KQ g P n a b c j A) (.next) 0 [] 0 0 [],
 ∀n d a b c j A f h k l o p r s t w x y z B C e D F G,ok [0] (KR g P n d a b c j A f h k l o p r s t w x y z B C e D F G) (.next) 0 [H (n+101,bz (ed P k l o p r s t w x y z B C e D F [eF P b 0 G]) (f+1) h)] 0 1 [],
 ∀n d a b c j A f h k l o p r s t w x y z B C e D F I G X T (V:Nat) Y W,b3 [] (CX g P n d a b c j A f h k l o p r s t w x y z B C e D F I G X T Y W) J J 8 (.call (.call (.ref (e+159)) ⟨[E T],[]⟩) J) 0 [] 0 2 [] J,
 ∀n d a b c j A f h k l o p r s t w x y z B C e D F I G X T V Y W Z aa ac af ae,b3 [] (CY g P n d a b c j A f h k l o p r s t w x y z B C e D F I Z G aa ac ae X T V Y W af) J J 8 (.call (.call (.ref (e+159)) ⟨[E V],[]⟩) J) 0 [] 0 0 [] J,
 ∀n d a b c j A f h k l o p r s t w x y z B C e D F I G X T V Y W Z aa ac af ae ap ak aq al ar,ok [0] (KS g P n d a b c j A f h k l o p r s t w x y z B C e D F I Z G aa ac ae X T V Y W af ap ak aq al ar) (.next) 0 [H (n+101,bz (ed P k l o p r s t w x y z B C e D F [eF P I 0 G,f2 P ak al,f3 P (ak+1) af]) (f+2) h)] 4 2 [],
 ∀n d a b c j A f h k l o p r s t w x y z B C e D F I G L M N O as T V W,ok [0] (KU g P n d a b c j A f h k l o p r s t w x y z B C e D F I G L M N O T as V W) (.next) 0 [H (n+101,bz (ed P k l o p r s t w x y z B C e D F [eF P I 0 G,f2 P N O,f3 P L M,gA P (b+2) V,gB P (b+3) T]) (f+2) h)] 4 4 [],
 ∀n d a b c j A f h k l o p r s t w x y z B C e D F I G L M N O aM Q R S au,eM (λK=>bF [0] (t' g P K n d a b c j A f h k l o p r s t w x y z B C e D F I G L M N O aM Q R S au)) 3=eN (λK=>⟨.next,0,[H (n+101,bz (ed P k l o p r s t w x y z B C e D F [eF P I (K+1) au,f2 P N O,f3 P L M,gA P R S,gB P aM Q]) f h)],0,1,[],bG (t' g P K n d a b c j A f h k l o p r s t w x y z B C e D F I G L M N O aM Q R S au)⟩) 3,
 ∀n d a b c j A f h k l o p r s t w x y z B C e D F I G L M N O aM Q R S X T (V:Nat) Y W,eM (λK=>(bF [] (uE g P n d a b c j A f h k l o p K r s t w x y z B C e D F I G L M N O X aM T Q R Y S W),eA (uE g P n d a b c j A f h k l o p K r s t w x y z B C e D F I G L M N O X aM T Q R Y S W) J J 8)) 3=eN (λK=>(⟨.call (.call (.ref (e+159)) ⟨[E T],[]⟩) J,0,[],0,2,[],bG (uE g P n d a b c j A f h k l o p K r s t w x y z B C e D F I G L M N O X aM T Q R Y S W)⟩,(ag,J))) 3,
 ∀n d a b c j A f h k l o p r s t w x y z B C e D F I G L M N O aM Q R S X T V Y W Z aa ac af ae,eM (λK=>(bF [] (uF g P n d a b c j A f h k l o p K r s t w x y z B C e D F I Z G aa L ac M N ae O X aM T Q V R Y S W af),eA (uF g P n d a b c j A f h k l o p K r s t w x y z B C e D F I Z G aa L ac M N ae O X aM T Q V R Y S W af) J J 8)) 3=eN (λK=>(⟨.call (.call (.ref (e+159)) ⟨[E V],[]⟩) J,0,[],0,0,[],bG (uF g P n d a b c j A f h k l o p K r s t w x y z B C e D F I Z G aa L ac M N ae O X aM T Q V R Y S W af)⟩,(ag,J))) 3,
 ∀n d a b c j A f h k l o p r s t w x y z B C e D F I G L M N O aM Q R S X T V Y W Z aa ac af ae ap ak aq al ar,eM (λK=>bF [0] (CZ g P n d a b c j A f h k l o p K r s t w x y z B C e D F I Z G aa L ac M N ae O X aM T Q V R Y S W af ap ak aq al ar)) 3=eN (λK=>⟨.next,0,[H (n+101,bz (ed P k l o p r s t w x y z B C e D F [eF P I (K+1) G,f2 P N al,f3 P L af,gA P R S,gB P aM Q]) f h)],4,2,[],bG (CZ g P n d a b c j A f h k l o p K r s t w x y z B C e D F I Z G aa L ac M N ae O X aM T Q V R Y S W af ap ak aq al ar)⟩) 3,
 ∀n d a b c j A f h k l o p r s t w x y z B C e D F I G L M N O aM Q R S as T V W,eM (λK=>bF [0] (C0 g P n d a b c j A f h k l o p K r s t w x y z B C e D F I G L M N O aM T Q as V R S W)) 3=eN (λK=>⟨.next,0,[H (n+101,bz (ed P k l o p r s t w x y z B C e D F [eF P I (K+1) G,f2 P N O,f3 P L M,gA P R V,gB P aM T]) f h)],4,4,[],bG (C0 g P n d a b c j A f h k l o p K r s t w x y z B C e D F I G L M N O aM T Q as V R S W)⟩) 3,
 ∀n d a b c j A f h k l o p r s t w x y z B C e D F K I G L M N O aM Q R S q,ok [] (KV g P n d a b c j A f h k l o p K r s t w x y z B C e D F I G L M N O aM Q R S q) (.ret (E M)) 0 [] 0 0 [],
 ∀n d a b c j A f h k l o p r s t w x y z B C e D F K I G L M N O aM Q R S q,ok [] (KW g P n d a b c j A f h k l o p K r s t w x y z B C e D F I G L M N O aM Q R S q) (.ret (E O)) 0 [] 0 0 [],
 ∀n d a b c j A f h k l o p r s t w x y z B C e D F K I G L M N O aM Q R S q,ok [] (KY g P n d a b c j A f h k l o p K r s t w x y z B C e D F I G L M N O aM Q R S q) (.ret (E Q)) 0 [] 0 0 [],
 ∀n d a b c j A f h k l o p r s t w x y z B C e D F K I G L M N O aM Q R S q,ok [] (KZ g P n d a b c j A f h k l o p K r s t w x y z B C e D F I G L M N O aM Q R S q) (.ret (E S)) 0 [] 0 0 [],
 ∀n d a b c j A,b3 [1,2,3] (C1 g P n d a b c j A) J J 8 (.call (.compStart p7.e 0 (E (a+1)) (E (a+2)) (uG n (a+104))) J) 0 [H (a+102,dn 0 6),H (a+103,ah [] 0),H (a+104,aJ [])] 4 3 [] J,
 ∀n (d:Nat) a b c j A m am bK an ao,ok [0,2] (K0 g P n a b c j A m am bK an ao) (.next) 0 [H (m+104,aJ [U P [107] (b+1) (aj 5 (b+10))]),H (m+103,ah [] 0)] 2 12 [],
 ∀n (d:Nat) a b c j A m am bK an ao,ok [0,2] (K1 g P n a b c j A m am bK an ao) (.next) 0 [H (m+104,aJ [U P [107] (b+1) (aj 5 (b+10))]),H (m+103,ah [] 0)] 2 12 [],
 ∀n (d:Nat) a b c j A m am bK an ao,ok [0,2] (K2 g P n a b c j A m am bK an ao) (.next) 0 [H (m+104,aJ [U P [107] (b+1) (aj 5 (b+10))]),H (m+103,ah [] 0)] 2 12 [],
 ∀n d a b c j A Z aa ac av v ae,ok [] (K3 g P n d a b c j A av v Z aa ac ae) (.ret (.ref (a+103))) 0 [] 0 0 [],
 ∀n d a b c j A,ok [0] (K4 g P n d a b c j A) (.ret (E a)) 0 [H (a+101,ah [] 0)] 1 0 [],
 ∀n d a b c j A ai,ok [0] (K5 g P n d a b c j A ai) (.next) 0 [H (n+105,a' (E ai))] 0 0 [],
 ∀n d a b c j A ai u,ok [0] (K6 g P n d a b c j A ai u) (.next) 0 [H (n+105,a' (E ai))] 0 0 [],
 ∀n d a b c j A ai,ok [0] (K7 g P n d a b c j A ai) (.next) 0 [H (n+106,a' (E ai))] 0 0 [],
 ∀n d a b c j A ai u,ok [0] (K8 g P n d a b c j A ai u) (.next) 0 [H (n+106,a' (E ai))] 0 0 [],
 ∀n a b c j A,ok [] (K9 g P n a b c j A) (.ret (.bool ag)) 0 [] 0 0 []]
noncomputable def jv(g:Nat->Option ab)(P:a1):Prop:=AllP (K_ g P)
end
open Cd xF Cr Ct xG CP xL xM CV xO
section
open PySem PySem.W PySem.Calls PySem.SeqAt
open PyProof.Rows
noncomputable def hO(b:Nat):ae->Prop:=λx=>b<=x
noncomputable def cY(a:List Nat):ae->Prop:=λx=>(x:Nat)∈a
section
variable {C am:ac}
theorem aa.lo {b a:Nat}{d:Nat->Prop}{c:ab}(e:aa g (hO b) d C am)(h:I C a c)(f:a<b):I am a c:=e.fr _ _ h λq=>absurd (show b<=a from q) (gG f)
theorem aa.cD {b:List Nat}{a:Nat}{d:Nat->Prop}{c:ab}(e:aa g (cY b) d C am)(h:I C a c)(f:a∉b):I am a c:=e.fr _ _ h f
theorem aa.ax {a:Nat}{c:Nat->Prop}{b:ab}(d:aa g p c C am)(h:I C a b):I am a b:=d.fr _ _ h λq=>q
theorem aa.xP {a:ae->Prop}{b:Nat}(c:aa g a p C am)(h:∀x:Nat,a x->b<=x):aa g (hO b) p C am:=c.mono (λx d=> .inl (h x d)) aF
theorem aa.xQ {a:ae->Prop}{b:List Nat}(c:aa g a p C am)(h:∀x:Nat,a x->x∈b\/C.heap.objs.size<=x):aa g (cY b) p C am:=c.mono (λx d=>h x d) aF
theorem aa.kg {b:Nat}{a:Nat->Prop}(c:aa g (hO b) a C am)(h:C.heap.objs.size<=b):aa g p a C am:=c.mono (λx d=> .inr (aS h d)) (λ_ h=> .inl h)
theorem bB {h:aY}{a:Nat}{b:ab}(e:h.get? a=H b):a<h.objs.size:=b9 e
theorem aa.rT {a:List (ae×ab)}{c:List Nat}{b:Nat}(f:aa g (· ∈c' a c) p C am)(d:List Nat)(e:c' a c=d)(h:∀x∈d,b<=x):aa g (hO b) p C am:=f.xP λx i=>h x (e▸i)
theorem aa.xR {a:List (ae×ab)}{b:List Nat}(d:aa g (· ∈c' a b) p C am)(c:List Nat)(e:c' a b=c):aa g (cY c) p C am:=d.xQ λx f=> .inl (e▸f)
theorem aa.k_ {a:ae->Prop}{b:List Nat}{c:ac}(d:aa g p p C c)(e:aa g a p c am)(h:∀x:Nat,a x->x∈b\/C.heap.objs.size<=x):aa g (cY b) p C am:=d.zero.then e h aF
theorem g0 {Y:Option O}{m:aI dQ}{d:ac->Prop}(h:∀A,ai u l Y j c A (cM m) [] C (ei λe am=>e= .ok .next/\d am)):Q u l Y j c m (λf am=>f= .next/\d am) a8 C:=by
 refine Q.mono (Q.cM h) ?_ ?_
 ·refine λf am=>an λa b=> ?_;cases a;exact⟨t,b⟩
 ·refine λf am=>an λa b=> ?_;cases a
theorem hP {Y:Option O}{m:aI O}{d:O->ac->Prop}(h:∀A,ai u l Y j c A (bN m) [] C (ei λe am=>∃v,e= .ok (.ret v)/\d v am)):Q u l Y j c m d a8 C:=by
 refine Q.mono (Q.bN h) ?_ ?_
 ·refine λf am=>aH λv=>an λa b=> ?_;cases a;exact b
 ·refine λf am=>aH λv=>an λa b=> ?_;cases a
theorem nk(w:Base g)(x:l<=20){h:Expr}{i:bX}{a:Nat}{d:List Nat}{v:O}{y z G L:Nat}{B D:List Nat}
  (M:∀k e m A,bF [0] (run (cB g u.params 20 k e m J j [(a,aJ [])] [0] []) y B c A (cf (cm h i v)) [])=⟨.next,0,[H (a,aJ [U u.params d e v])],0,G,[],bG (run (cB g u.params 20 k e m J j [(a,aJ [])] [0] []) y B c A (cf (cm h i v)) [])⟩)
  (N:∀k e m A b f,bF [0] (run (cB g u.params 20 k e m J j [(a,aJ [U u.params d b f])] [0] []) z D c A (cf (cm h i v)) [])=⟨.next,0,[H (a,aJ [U u.params d b v])],0,L,[],bG (run (cB g u.params 20 k e m J j [(a,aJ [U u.params d b f])] [0] []) z D c A (cf (cm h i v)) [])⟩)
  (E:g a=J)(K:aR g C){o:ab}(F:I C a o)(P:o=aJ []\/∃b f,o=aJ [U u.params d b f]):
  Q u l J j c (hZ h i v) (λ_ am=>∃b,aa g (· =a) p C am/\I am a (aJ [U u.params d b v])) a8 C:=by
 refine r ja ?_;rcases P with rfl|⟨b,f,rfl⟩
 ·exact Q.eC (ak:=20) x w K (db F) (cK E) (aC:=[]) a0 (λn A=>M n C.toks C.gens.size A) t (λn am _ q s=>⟨_,q.bW,s _ _ aO⟩)
 ·exact Q.eC (ak:=20) x w K (db F) (cK E) (aC:=[]) a0 (λn A=>N n C.toks C.gens.size A b f) t (λn am _ q s=>⟨_,q.bW,s _ _ aO⟩)
noncomputable def rU(b a:Nat):ae->Prop:=λx=>x=b+101\/x=a+101\/x=a+102
theorem aa.k' {b c a:Nat}{e:ab}(i:aa g (rU b c) p C am)(h:I C a e)(f:b<c)(d:a<b+101):I am a e:=i.fr _ _ h λq=>by
 rcases q with q|q|q
 ·have:a=b+101:=q;exact a2 102 101 t (aq 1 101 101 0 d (ao q))
 ·have:a=c+101:=q;exact a2 103 101 t (aq 102 0 1 101 (aq 1 0 101 0 f (ao q)) d)
 ·have:a=c+102:=q;exact a2 104 101 t (aq 103 0 1 101 (aq 1 0 102 0 f (ao q)) d)
theorem aa.K' {c b a:Nat}{e:ab}(f:aa g (rU c b) p C am)(h:I C a e)(i:c<b)(d:b+102<a):I am a e:=f.fr _ _ h λq=>by
 rcases q with q|q|q
 ·have:a=c+101:=q;exact a2 104 101 t (aq 104 0 0 101 (aq 1 0 103 0 i d) (aB q))
 ·have:a=b+101:=q;exact a2 103 101 t (aq 103 0 0 101 d (aB q))
 ·have:a=b+102:=q;exact a2 103 102 t (aq 103 0 0 102 d (aB q))
noncomputable def iK(g:Nat->Option ab)(P:a1)(d b n:Nat)(f:List Nat)(h:Nat->List O->ac->Prop)(C:ac):bZ->ac->Prop:=λq am=>q= .ok .next/\aa g (hO d) p C am/\
 ∃c e a,h n c am/\I am (b+101) (ah c e)/\I am (b+102) a/\((a=aJ []/\n=0)\/∃i v,a=aJ [U P f i v])
section
variable {ar:fq}{m:bX}{T z n dE:Nat}{hQ:List Nat}{N:Nat->O->Prop}{aG:Nat->List O->ac->Prop}
theorem C2 {j3:Nat->ac->Prop}(B:∀(D:ef) (aG af:O->ac->Prop),aG (E T) C->bD (b1 bH u) D (o6 (E T)) aG af C)
  (F:∀v,d9 ar.target (E T) v=pure ())(G:(qM ar.e 0 (E T) (E z) m).quiet=ag)(L:cW (.compLoop ar.e 0 (E T) (E z) m) []<=4)(M:l<=100)(P:n<=1000)(K:aR g C)
  (R:dE<=T+101)(s:T<z)(S:∀x:Nat,dE<=x->g x=J)(W:I C (z+101) (ah [] 0))(X:I C (z+102) (aJ []))
  (Y:∀j i C,i<=n->aR g C->j3 i C->Q u l J j (.compLoop ar.e 0 (E T) (E z) m) (hY (E T)) (λk am=>aa g (· =T+101) p C am/\match k with|some v=>i<n/\N i v/\j3 (i+1) am|none=>i=n) a8 C)
  (Z:∀i C am,j3 i C->aa g (λx=>x=z+101\/x=z+102) p C am->j3 i am)
  (ab:j3 0 C)(ae:aG 0 [] C)(ai:∀i c C am,aG i c C->aa g (rU T z) p C am->aG i c am)
  (aj:∀j i v C o,i<n->N i v->aR g C->I C (z+102) o->(o=aJ []\/∃e ak,o=aJ [U u.params hQ e ak])->
   Q u l J j (.compLoop ar.e 0 (E T) (E z) m) (hZ ar.target m v) (λ_ am=>∃e,aa g (· =z+102) p C am/\I am (z+102) (aJ [U u.params hQ e v])) a8 C)
  (al:∀j i v e c C,i<n->N i v->aR g C->aG i c C->I C (z+102) (aJ [U u.params hQ e v])->Q u l J j (.compLoop ar.e 0 (E T) (E z) m) (kZ ar.ifs m) (λok w=>if ok=ag then
   Q u l J j (.compLoop ar.e 0 (E T) (E z) m) (dR ar.elt m) (λy am=>aa g p p C am/\aG (i+1) (c++[y]) am) a8 w else aa g p p C w/\aG (i+1) c w) a8 C):
  a4 u l J (.compStart ar.e 0 (E T) (E z) m) C (iK g u.params dE z n hQ aG C):=by
 refine nd B (a4.c1 λj A=> ?_);have an:∀x,(x=z+101\/x=z+102\/x=T+101)->dE<=x:=λx q=>by rcases q with q|q|q<;>refine r q ?_<;>refine(?_:dE<=_)<;>lia
 have ao:oi u g l (.compLoop ar.e 0 (E T) (E z) m) (E T) ar.target ar.elt ar.ifs m z (z+1) n j3 N (· =T+101) p aG (aJ []) (λe v=>aJ [U u.params hQ e v]):=by
  refine⟨Y,Z,λi c C am q k=>ai i c C am q (k.mono (λx ap=> .inl (by rcases ap with h|h|h;{exact .inr (.inl h)};{exact .inr (.inr h)};{exact .inl h})) aF),aj,al, ?_, ?_,bA 0 1 t,S _ (aD 0 101 1 0 0 101 t R s)⟩
  ·intro q;have:z+101=T+101:=q;exact a2 102 101 t (aq 1 0 101 101 s (aB q))
  ·intro q;have:z+1+101=T+101:=q;exact a2 103 101 t (aq 1 0 102 101 s (aB q))
 refine(pV (cC:=C) t F G L (V 0 100 4 600 t M) P ao n 0 [] C A (by lia) (by simp) ab ae (.refl K) ⟨0,W⟩ ⟨_,X,.inl ⟨t,t⟩⟩).mono ?_;rintro (au|_) am
 ·refine aT ?_;rintro rfl;exact λk=>cE λc as o=>bu λa b d f=>⟨t,k.xP an,c,as,o,a,b,d,f⟩
 ·exact λh=>h
theorem rV {c:List O}{a A:Nat}(M:∀v,d9 ar.target (E T) v=pure ())(P:(qM ar.e 0 (E T) (E z) m).quiet=ag)(B:cW (.compLoop ar.e 0 (E T) (E z) m) []<=4)(D:l<=100)(R:c.length<=1000)(K:aR g C)
  (e:dE<=T+101)(f:T<z)(F:∀x:Nat,dE<=x->g x=J)(S:I C (z+101) (ah [] 0))(W:I C (z+102) (aJ []))
  (G:I C (T+101) (b2 (a+101) 0))(X:I C (a+101) (ah c A))(s:a+101<dE)
  (Y:aG 0 [] C)(Z:∀i b C am,aG i b C->aa g (rU T z) p C am->aG i b am)
  (ab:∀j (i:Nat) (v:O) C k,c[i]? =H v->aR g C->I C (z+102) k->(k=aJ []\/∃d ac,k=aJ [U u.params hQ d ac])->
   Q u l J j (.compLoop ar.e 0 (E T) (E z) m) (hZ ar.target m v) (λ_ am=>∃d,aa g (· =z+102) p C am/\I am (z+102) (aJ [U u.params hQ d v])) a8 C)
  (ae:∀j (i:Nat) (v:O) d b C,c[i]? =H v->aR g C->aG i b C->I C (z+102) (aJ [U u.params hQ d v])->Q u l J j (.compLoop ar.e 0 (E T) (E z) m) (kZ ar.ifs m) (λok w=>if ok=ag then
   Q u l J j (.compLoop ar.e 0 (E T) (E z) m) (dR ar.elt m) (λy am=>aa g p p C am/\aG (i+1) (b++[y]) am) a8 w else aa g p p C w/\aG (i+1) b w) a8 C):
  a4 u l J (.compStart ar.e 0 (E T) (E z) m) C (iK g u.params dE z c.length hQ aG C):=
 C2 (j3:=λi C=>I C (T+101) (b2 (a+101) i)/\I C (a+101) (ah c A)) (N:=λi v=>c[i]? =H v) (xz G) M P B D R K e f F S W
  (λj i C af K ⟨bs,n⟩=>by
   refine(B2 B (V 0 100 4 600 t D) K af (F _ e) bs n).mono ?_ (λ_ _ h=>h);refine λo am=>an λL r=>⟨L, ?_⟩;cases o with
   |none=>exact r
   |some v=>exact⟨r.1,r.2.1,r.2.2,L.fr _ _ n (by intro q;have:a+101=T+101:=q;exact a2 203 202 t (aq 101 202 102 0 (aq 0 101 101 101 e (ao q)) s))⟩)
  (λi C am ⟨bs,n⟩ o=>⟨o.fr _ _ bs (by rintro (q|q);{have:T+101=z+101:=q;exact a2 102 101 t (aq 1 0 101 101 f (ao q))};{have:T+101=z+102:=q;exact a2 103 101 t (aq 1 0 102 101 f (ao q))}),o.fr _ _ n (by rintro (q|q);{have:a+101=z+101:=q;exact a2 204 202 t (aq 102 202 102 0 (aq 1 101 101 101 (aq 0 101 1 0 e f) (ao q)) s)};{have:a+101=z+102:=q;exact a2 205 202 t (aq 103 202 102 0 (aq 1 101 102 101 (aq 0 101 1 0 e f) (ao q)) s)})⟩)
  ⟨G,X⟩ Y Z (λj i v C k _=>ab j i v C k) (λj i v d b C _=>ae j i v d b C)
theorem C3(B:Base g)(D:hi g u.params)(F:∀v,d9 ar.target (E T) v=pure ())(G:(qM ar.e 0 (E T) (E z) m).quiet=ag)(o:cW (.compLoop ar.e 0 (E T) (E z) m) []<=4)(r:l<=100)(L:n<=1000)(K:aR g C)
  (s:dE<=T+101)(f:T<z)(w:∀x:Nat,dE<=x->g x=J)(M:I C (z+101) (ah [] 0))(O:I C (z+102) (aJ []))
  (A:I C (T+101) (dn (bq 0) (bq n)))
  (P:aG 0 [] C)(R:∀i b C am,aG i b C->aa g (rU T z) p C am->aG i b am)
  (S:∀j i a C d,i<n->aR g C->I C (z+102) d->(d=aJ []\/∃c W,d=aJ [U u.params hQ c W])->
   Q u l J j (.compLoop ar.e 0 (E T) (E z) m) (hZ ar.target m (aj i a)) (λ_ am=>∃c,aa g (· =z+102) p C am/\I am (z+102) (aJ [U u.params hQ c (aj i a)])) a8 C)
  (X:∀j i a c b C,i<n->aR g C->aG i b C->I C (z+102) (aJ [U u.params hQ c (aj i a)])->Q u l J j (.compLoop ar.e 0 (E T) (E z) m) (kZ ar.ifs m) (λok h=>if ok=ag then
   Q u l J j (.compLoop ar.e 0 (E T) (E z) m) (dR ar.elt m) (λy am=>aa g p p C am/\aG (i+1) (b++[y]) am) a8 h else aa g p p C h/\aG (i+1) b h) a8 C):
  a4 u l J (.compStart ar.e 0 (E T) (E z) m) C (iK g u.params dE z n hQ aG C):=
 C2 (j3:=λi C=>I C (T+101) (dn (bq i) (bq (n-i)))) (N:=λi v=>∃a,v=aj i a) (pZ A) F G o r L K s f w M O
  (λj i C e K bs=>rK B D o (V 0 100 4 500 t r) K e (w _ s) bs)
  (λi C am bs Y=>Y.fr _ _ bs (by rintro (q|q);{have:T+101=z+101:=q;exact a2 102 101 t (aq 1 0 101 101 f (ao q))};{have:T+101=z+102:=q;exact a2 103 101 t (aq 1 0 102 101 f (ao q))}))
  A P R (λj i v C d e ⟨a,k⟩=>by subst k;exact S j i a C d e) (λj i v c b C e ⟨a,k⟩=>by subst k;exact X j i a c b C e)
end
end
theorem b6.front {g:Nat->Option ab}{d:List (ae×ab)}{j:List Nat}{b:Nat}(k:Nat)(o:∀x:Nat,b<=x->g x=J)(Y:((d.take k).map (·.1)).Nodup)(p:∀x∈d.take k,@eY Nat _ b x.1)(s:∀x∈d.drop k,@LT.lt Nat _ x.1 b)(t:∀i∈j,i<k):b6 g d j:=by
 intro i u a v;have w:=t i u;have l:((d.take k).map (·.1))[i]? =H a:=by
  refine r vE (r sH ?_);simp [w,v]
 obtain ⟨C,y⟩:=mT l;have m:=p _ y;refine⟨o a m,λf c n z=> ?_⟩;rcases fV f k with q|q
 ·have h:((d.take k).map (·.1))[f]? =H c:=by
   refine r vE (r sH ?_);simp [q,n]
  intro e;subst e;exact z (py Y h l)
 ·have h:((d.drop k).map (·.1))[f-k]? =H c:=by
   refine r List.map_drop (r List.getElem?_drop ?_);exact r (show k+(f-k)=f from qu (q)) n
  obtain ⟨D,A⟩:=mT h;have B:=s _ A;intro e;subst e;exact absurd m (gG B)
section
variable {l ak:Nat}{D:List (ae×ab)}{aQ:List Nat}{aC:List cI}{a9:Nat}{bj bR:List Nat}{m i:Nat}{au:List dM}{aA:Nat->List (Option (ae×ab))}{y:Nat->G}
theorem aa.hn {c:ac}{a b:ae}{d e:ab}{f:List (ae×ab)}(h:aa g (· ∈c' ((a,d)::(b,e)::f) [0,1]) p C c):aa g (λx=>x=a\/x=b) p C c:=h.mono (λx i=> .inl (by
 have:x∈[a,b]:=i;simpa using this)) aF
section
variable(b:l<=ak)(d:Base g)(K:aR g C)(o:∀x∈D,I C x.1 x.2)(s:b6 g D aQ)(E:∀az∈aC,az.Ok bH u)(ok:cw w=ag)
include b d K o s E ok
theorem ee {N:Nat->aL}{cr V br:Nat}{R:Nat->ac->bZ->ac->Prop}(e:∀n,(bF bR (y n),eA (y n) J Y cr)=(⟨.call (N n) J,V,aA n,m,i,au,bG (y n)⟩,(ag,Y)))(O:∀n,y n=ce u g ak n C.toks C.gens.size Y j D aQ aC a9 bj c A M w)(P:au.all er=ag)(W:l+cr<=br)
  (X:∀n f,C.heap.objs.size=n+101->aa g (· ∈c' D aQ) p C f->(∀a h,H (a,h)∈aA n->I f a h)->f.heap.objs.size=n+m+101->a4 u br Y (N n) f (R n f))
  (k:∀n f x q Z,C.heap.objs.size=n+101->cw (y n).aU=ag->aa g (· ∈c' D aQ) p C f->(∀a h,H (a,h)∈aA n->I f a h)->f.heap.objs.size=n+m+101->R n f q x->ai u l Y j (y n).c Z (eh (y n).t q) (y n).aU x B):ai u l Y j c A M w C B:=by
 obtain ⟨n,F⟩:=K.size;have Q:=e n;simp only [eZ]at Q;obtain ⟨S,G⟩:=Q;rw [O n]at S G;refine c2 b d K F t t o s E ok S ?_;intro f L T ok ab al v;refine aw (iA ab) (bo λam an ae=> ?_);refine r ae ?_;have U:L=y n:=T.trans (O n).symm;rw [<-show L=ce u g ak n C.toks C.gens.size Y j D aQ aC a9 bj c A M w from T]at G;injection G with af ah;have z:f.heap.objs.size=n+m+101:=by rw [v.aZ,F];exact hU _ _ _
 refine ai.i' (br:=br) (fm:=Y) ok t (jL af W) ah.symm (X n f F (v.only P) v.xs z) λq x aj=> ?_;have:=k n f x q L.p F (U▸ok) (v.only P) v.xs z aj;rw [<-U]at this;exact this
theorem l9 {f:Nat->O}{pos:Nat->List O}{kw:Nat->List (c0×O)}{cr X:Nat}{aG:Nat->ac->O->ac->Prop}(e:∀n,(bF bR (y n),eA (y n) J Y cr)=(⟨.call (.call (f n) ⟨pos n,kw n⟩) J,X,aA n,m,i,au,bG (y n)⟩,(ag,Y)))(R:∀n,y n=ce u g ak n C.toks C.gens.size Y j D aQ aC a9 bj c A M w)(S:au.all er=ag)
  (Z:∀n q L,C.heap.objs.size=n+101->aa g (· ∈c' D aQ) p C q->(∀a F,H (a,F)∈aA n->I q a F)->q.heap.objs.size=n+m+101->L.handled=Y->L.depth<=301+(l+cr)->L.units<=4+3*(l+cr)->bD (b1 bH u) L (f8 (f n) (pos n) (kw n)) (aG n q) (λ_ _=>False) q)
  (k:∀n q N v ab,C.heap.objs.size=n+101->cw (y n).aU=ag->aa g (· ∈c' D aQ) p C q->(∀a F,H (a,F)∈aA n->I q a F)->q.heap.objs.size=n+m+101->aG n q v N->ai u l Y j (y n).c ab (eh (y n).t (.ok (.ret v))) (y n).aU N B):ai u l Y j c A M w C B:=by
 obtain ⟨n,P⟩:=K.size;have T:=e n;simp only [eZ]at T;obtain ⟨U,Q⟩:=T;rw [R n]at U Q;refine c2 b d K P t t o s E ok U ?_;intro q x V ok ae am G;refine aw (iA ae) (bo λan ao af=> ?_);refine r af ?_;have W:x=y n:=V.trans (R n).symm;rw [<-show x=ce u g ak n C.toks C.gens.size Y j D aQ aC a9 bj c A M w from V]at Q;injection Q with ah aj;have ap:=cP ah;have aq:=jP x.c x.aU;have ar:=jQ x.c x.aU;have z:q.heap.objs.size=n+m+101:=by rw [G.aZ,P];exact hU _ _ _
 refine ai.Bo ok (Z n q _ P (G.only S) G.xs z aj ?_ ?_) (λv N al=> ?_) (λ_ _ h=>h.elim)
 ·refine(?_:301+l+gm (x.aU.map cU)+x.c.weight<=_);lia
 ·refine(?_:4+3*l+fK (x.aU.map cU)+x.c.cUnits<=_);lia
 ·have:=k n q N v x.p P (W▸ok) (G.only S) G.xs z al;rw [<-W]at this;exact this
theorem eU(e:∀n,bF bR (y n)=⟨.next,0,aA n,m,i,au,bG (y n)⟩)(z:∀n,y n=ce u g ak n C.toks C.gens.size Y j D aQ aC a9 bj c A M w)(F:au.all er=ag)
  (h:∀n f,C.heap.objs.size=n+101->aa g (· ∈c' D aQ) p C f->(∀a v,H (a,v)∈aA n->I f a v)->f.heap.objs.size=n+m+101->B (.ret (.ok .next)) f):ai u l Y j c A M w C B:=by
 obtain ⟨n,k⟩:=K.size;have x:=e n;rw [z n]at x;refine c2 b d K k t t o s E ok x ?_;intro f N O ok G L q;refine r (n1 G) (r (cA L) ?_);exact ai.done (.ok .next) (h n f k (q.only F) q.xs (by rw [q.aZ,k];exact hU _ _ _))
theorem f4 {v:Nat->O}(e:∀n,bF bR (y n)=⟨.ret (v n),0,aA n,m,i,au,bG (y n)⟩)(F:∀n,y n=ce u g ak n C.toks C.gens.size Y j D aQ aC a9 bj c A M w)(G:au.all er=ag)
  (h:∀n f,C.heap.objs.size=n+101->aa g (· ∈c' D aQ) p C f->(∀a x,H (a,x)∈aA n->I f a x)->f.heap.objs.size=n+m+101->B (.ret (.ok (.ret (v n)))) f):ai u l Y j c A M w C B:=by
 obtain ⟨n,k⟩:=K.size;have z:=e n;rw [F n]at z;refine c2 b d K k t t o s E ok z ?_;intro f P Q ok L N q;refine r (e' L) (r (cA N) ?_);exact ai.done (.ok (.ret (v n))) (h n f k (q.only G) q.xs (by rw [q.aZ,k];exact hU _ _ _))
end
end
end
section
open PySem PySem.W PySem.Calls PySem.SeqAt
open PyProof.Rows
theorem a6 {h:aY}:∀x∈([]:List (ae×ab)),h.get? x.1=H x.2:=λ_ h=>nomatch h
theorem aK {h:aY}{a:ae}{az:ab}{c:List (ae×ab)}(d:h.get? a=H az)(e:∀x∈c,h.get? x.1=H x.2):∀x∈(a,az)::c,h.get? x.1=H x.2:=λx b=>by
 rcases b8.mp b with rfl|b
 ·exact d
 ·exact e x b
theorem ba {u:cZ}:∀a∈([]:List cI),a.Ok bH u:=λ_ h=>nomatch h
theorem La(B:Base g)(D:l8 g u.params)(K:aR g C){e:Nat}{i:List (Int×Nat)}(ae:I C (n+102) (a' (.ref 100)))(S:I C 100 (ah (cO i) e))(T:I C (n+103) dD)(af:i.length<=63)(aj:g (n+103)=J):
  Q u 0 J j (cn n) (b7 (bO 0) (bb n)) (λf F=>f= .next/\aa g (cY [n+103]) p C F/\∃G al L,C.heap.objs.size<=G+101/\I F (n+103) (a' (E G))/\I F (G+101) (ah (cO L) al)/\8<=L.length/\L.length<=16) a8 C:=by
 refine g0 λA=>ai.dN λay am=> ?_;refine l9 (ak:=0) (aW 0) B K (aK ae (aK S a6)) .nil ba t (cr:=8) (λs=>D 3 _ ..) (λ_=>t) t
  (aG:=λs M v k=>∃d,v=E d/\aa g p p M k/\I k (d+101) (ah (cO (i.take 8)) 0)) ?_ ?_
 ·intro s M az aA U m N _ _ _;have bV:=U.aE.ax S;refine o1 (uz U.K bV (m _ _ aO) .none (.int _ _) .none (by decide) (by unfold cO;rw [bM];exact bm t af)) ?_ (λ_ _ h=>h);refine λv k=>bu λa b c d=> ?_;rw [N]at a c;refine⟨s+1,a,b, ?_⟩;rw [show(mE ⟨cO i⟩ J (H (bq 8)) J).toList=cO (i.take 8)from by
   rw [show(bq 8)=((8:Nat):Int)from t,slicePick_upto'];refine(?_:(cO i).take 8=_);unfold cO;rw [vE]]at c
  exact c
 refine λs M k v aC an ap O aF N=>aH λd=>aT ?_;rintro rfl;intro w V;refine ee (ak:=0) (aW 0) B w.K (aK V a6) .nil ba ap (cr:=8) (br:=8) (λo=>D 4 _ ..) (λ_=>t) t (a5 t)
  (R:=λo P q y=>∃l,o<=l/\q= .ok (.ret (E l))/\aa g p p P y/\I y (l+101) (ah (cO (i.take 8++uA k.toks)) 0)) ?_ ?_
 ·intro o P _ W m z;refine(xC W.K (W.aE.ax V) (m _ _ aO) (by unfold cO;rw [bM,bM,mv];exact aS (g7 (vq _ _) 8) (a5 t))).mono ?_;refine r z ?_;refine r (show cO (i.take 8)++cO (uA k.toks)=cO (i.take 8++uA k.toks)from by unfold cO;refine r e8 ?_;rfl) ?_;exact λl y h=>⟨o+1,cV 0 1 t,h⟩
 refine λo P y q aI X ar as aJ aL=>aH λl=>bu λY=> ?_;rintro rfl;intro Z au;have ab:=((O.aE.trans w).trans as.aE).trans Z;refine eU (ak:=0) (aW 0) B Z.K (aK (ab.ax T) a6) (cK aj) ba ar (λav=>D 5 _ ..) (λ_=>t) t ?_;intro av aM aP ac aw aQ;refine(am _ _ ⟨t,ab.zero.trans (ac.bW.xQ (λx m=> .inl (by rw [m];exact .head _))),l,0,_, ?_,aw _ _ aO,ac.bW.fr _ _ au ?_, ?_, ?_⟩)
 ·have:=O.aE.aZ;have:=w.aZ;exact aD 102 202 0 0 0 101 t (aq 102 101 0 101 (aq 102 101 0 0 (aq 0 101 102 0 (aB an) (ao N)) this) (aB X)) Y
 ·intro q;have:l+101=n+103:=q;exact eK _ (aS (bB T) (aS O.aE.aZ (aS w.aZ (aS (aB X) (aS (g7 Y 101) (aB this))))))
 ·rw [e9];exact hT 8 _
 ·rw [e9,mv];exact g7 (vq _ _) 8
theorem Lb(e:Base g)(h:l8 g u.params)(K:aR g C)(i:I C (n+101) (ek []))(k:I C (n+107) dD)(l:g (n+107)=J):
  Q u 0 J j (cn n) (b7 (bO 1) (bb n)) (λf a=>f= .next/\aa g (cY [n+107]) p C a/\∃b m,C.heap.objs.size<=b+101/\I a (n+107) (a' (E b))/\I a (b+101) (ah (eE m) 0)) a8 C:=by
 refine g0 λA=> ?_;have o:b6 g [((n+101:ae),ek []),(n+107,dD)] [1]:= .nodup (lC (bA 101 107 t)) (a_ (eo l) dG);refine eU (ak:=0) (aW 0) e K (aK i (aK k a6)) o ba t (λc=>h 6 _ ..) (λ_=>t) t ?_;intro c v q r d w;refine⟨t,r.xQ (λx s=> .inl ?_),c,_,(aB q),d _ _ aO,d _ _ ci⟩;have:x∈[n+107]:=s;exact this
theorem Lc(k i:Nat):m' (λ_=>ag) (λ_=>ag) aN k i=false:=by
 induction k generalizing i with
 |zero=>rfl
 |succ k a=>exact a _
theorem C4 {i:ef}{af j:O->ac->Prop}{l m:ae}{c g:List O}{o p:Nat}{f:Nat->Nat}(q:I C l (ah c o))(w:I C m (ah g p))(y:c.length=g.length)(z:d7 f c)(B:d7 f g)(D:i.units<mw)(h:j (.bool aN) C):
  bD (b1 bH u) i (hz .NotEq (.ref l) (.ref m)) j af C:=by
 refine(?_:bD (b1 bH u) i (o5 .NotEq (.ref l) (.ref m)) j af C);refine nL (op:= .NotEq) ⟨_,q,t⟩ ⟨_,w,t⟩ F.slot_list_ne F.entry_list_ne (F.args_list_ne_2 _ _) (BS (k:=2) (ar:=l) (b:=m) (oj:=⟨c⟩) (k1:=⟨g⟩) (n:=o) (bk:=p) (by decide) y (e:=λ_=>ag) (d:=λ_=>ag))
  ⟨⟨q,w,λa E G=> ?_,λ_ _ _ h=>nomatch h⟩, ?_⟩ D
 ·obtain ⟨K,bV⟩:=z a c[a] (jD E);obtain ⟨L,bc⟩:=B a g[a] (jD G);refine(?_:jJ _ _ c[a] g[a] ag);refine r bV (r bc ?_);exact(beq_self_eq_true (bq (f a)))▸v4 (A:=i.in1) (s:=C) (bq (f a)) K (bq (f a)) L
 ·exact ol (R:=wants (λv M=>v≠O.notImplemented/\j v M) af) (Lc _ _) ⟨(λx=>nomatch x),h⟩
theorem rW {l:Nat}{c:aL}{i:bX}{st:List cb}(v:l<=400)(w:cW c []<=4)(k:∃A q b,st=[.If (.Compare (gw st) [.NotEq] [j9 st] A) b [] q])(x:mD .NotEq (j9 st)=aN){f:Nat->Nat}{R:ac->Prop}
  (h:Q u l J j c (bT (gw st) i) (λa o=>Q u l J j c (bT (j9 st) i) (λb d=>∃m n e g p s,a= .ref m/\b= .ref n/\I d m (ah e p)/\I d n (ah g s)/\e.length=g.length/\d7 f e/\d7 f g/\R d) a8 o) a8 C):
  Q u l J j c (b7 st i) (λf y=>f= .next/\R y) a8 C:=by
 refine aw k (cE λA q b k=> ?_);rw [k,<-jb,<-ts];refine Q.If (Q.jW ?_ x);refine r en (h.mono (λa o z=>z.mono ?_ (λ_ _ h=>h)) (λ_ _ h=>h));refine λL d=>jK λm n e g p s=>pk ?_;rintro rfl;rintro rfl;intro B D E F G K;refine Q.any (C4 B D E F G ?_ (Q.jc ?_))
 ·exact dZ (dq _ 2) (pY (bm t v) w)
 ·rw [if_neg (by simp)];exact Q.execs_nil ⟨t,K⟩
theorem ou:cW (cn n) []<=4:=cP (by kernel_rfl)
theorem d7.nil {f:Nat->Nat}:d7 f []:=λ_ _ h=>by cases h
theorem Ld(i:Base g)(k:l8 g u.params)(K:aR g C){l y:Nat}(z:I C (n+107) (a' (E l)))(B:I C (l+101) (ah (eE y) 0)):
  Q u 0 J j (cn n) (b7 (bO 2) (bb n)) (λf L=>f= .next/\aa g p p C L) a8 C:=by
 refine rW (f:=id) (a5 t) ou (dT (ez ((d' (bO 2)).1)) (iC (bO 2)) ((d' (bO 2)).2.1) (by kernel_rfl)) (by kernel_rfl) (hP λA=> ?_);refine ai.dN λaj N=> ?_;have O:=bB z;have P:=bB B;refine ee (ak:=0) (aW 0) i K a6 .nil ba t (cr:=8) (br:=8) (λa=>k 7 _ ..) (λ_=>t) t (a5 t)
  (R:=λa o q e=>q= .ok .next/\aa g (hO (a+101)) p o e/\I e (a+103) (ah [] 0)/\∃M v,I e (a+104) (aJ [U u.params eg M v])) ?_ ?_
 ·intro a o d h c S;have r:∀x:Nat,a+101<=x->g x=none:=λx c=>K.fresh (by rw [d];exact c);refine nd (pZ (c _ _ aO)) (a4.c1 λj al=> ?_);have T:b6 g [((a+104:ae),aJ []),(a+102,dn 0 8),(a+103,ah [] 0),(n+107,a' (E l)),(l+101,ah (eE y) 0)] [0,1,2]:=
   .front (b:=a+101) 3 r (pj a (ar:=[104,102,103]) (by decide)) (a_ (bw t) (a_ (bw t) (a_ (bw t) dG))) (a_ (nH O d) (a_ (nH P d) dG)) (by decide)
  refine eU (ak:=20) (a5 t) i h.K (aK (c _ _ dK) (aK (c _ _ aO) (aK (c _ _ ci) (aK (h.aE.ax z) (aK (h.aE.ax B) a6))))) T ba t (λs=>k 8 _ ..) (λ_=>t) t ?_;intro s e V m D am;exact⟨t,m.rT [a+104,a+102,a+103] t (a_ (bw t) (a_ (bw t) (a_ (bw t) dG))),D _ _ ci,_,_,D _ _ aO⟩
 refine λa o e q an d W h ap S=>bu ?_;rintro rfl;refine λm X=>bo λM v Y=> ?_;have r:∀x:Nat,a+101<=x->g x=none:=λx c=>K.fresh (by rw [d];exact c);have Z:=(h.aE.zero.trans m).kg (ew d);refine f4 (ak:=0) (aW 0) i m.K (aK Y a6) (cK (r _ (bw t))) ba W (λs=>k 30 _ ..) (λ_=>t) t ?_;intro s aq V ab as au;have w:=ab.bW;have ac:=w.fr _ _ X (by intro q;have:a+103=a+104:=q;exact a2 104 103 t (ao q));refine(N _ _ ⟨_,t,hP λav=> ?_⟩);refine f4 (ak:=0) (aW 0) i w.K a6 .nil ba t (λF=>k 31 _ ..) (λ_=>t) t ?_;intro F aw ay G af az;refine⟨_,t,a+103,F+101,[],[],0,0,t,t,G.aE.ax ac,af _ _ aO,t,.nil,.nil,(Z.then w (λx c=> .inr (by rw [c,d];refine(?_:a+101<=a+104);exact bw t)) aF).trans G.aE⟩
end
section
open PySem PySem.W PySem.Calls PySem.SeqAt
open PyProof.Rows
theorem C5(a:List (Nat×cL))(q:Nat×cL):ca (a++[q])=ca a++[aj q.1 q.2]:=by
 unfold ca;rw [e8];rfl
theorem Le(y:Base g)(z:l8 g u.params)(K:aR g C){l af m ai B e:Nat}{D:List (Int×Nat)}(al:m<3)(am:D.length<=63)(V:I C (l+102) (aJ [U u.params [106] B (aj m ai)]))(F:I C (n+102) (a' (.ref 100)))(o:I C 100 (ah (cO D) e)):
  Q u 8 J j (.compLoop iI.e 0 (E af) (E l) (l7 n (l+102))) (dR iI.elt (l7 n (l+102))) (λv ap=>aa g p p C ap/\∃d M,v=aj d M/\d<8) a8 C:=by
 refine r en (hP λA=> ?_);refine l9 (ak:=20) (a5 t) y K (aK V (aK F (aK o a6))) .nil ba t (cr:=8) (λq=>z 12 _ ..) (λ_=>t) t
  (aG:=λq G v f=>∃d s,v=E d/\aa g p p G f/\I f (d+101) (ah (cO s) 0)/\f.heap.objs.size=d+102) ?_ ?_
 ·intro q G aq aC w W X _ _ _;refine o1 (uz w.K (w.aE.ax o) (W _ _ aO) (.int _ _) .none (.int _ _) (by decide) (by unfold cO;rw [bM];exact bm t am)) ?_ (λ_ _ h=>h);refine λv f=>bu λa b c d=>aw (Jl D (H (bq m)) J (H (bq 3))) (aH λs=>an λar _=> ?_);rw [ar]at c;rw [X]at a c d;exact bh (q+1) s ⟨a,b,c,d⟩
 refine λq G f v aF aI as w aL X=>bo λd s=>bu ?_;rintro rfl;intro Y L Z;refine l9 (ak:=20) (a5 t) y Y.K (aK L a6) .nil ba as (cr:=8) (λN=>z 13 _ ..) (λ_=>t) t
  (aG:=λN O v P=>aa g p p O P/\∃x B,v= .int x B) ?_ ?_
 ·intro N O aq R i W ab au _ _;exact Jn (a:=d+101) i.K au (i.aE.ax L) (by rw [ab];exact dF (aD 101 0 0 102 101 102 t (ao R) (aB Z)) (aD 102 0 0 101 102 101 t (ao Z) (aB R))) (i.aE.ax L)
 refine λN O P v aM R av i aP ab=>an λac=>bo λS aQ=> ?_;rintro rfl;have ae:=((w.aE.trans Y).trans i.aE).trans ac;have ay:=ae.ax V;have az:∀(c:Int) (M:Nat) k,aa g p p P k->∃x,(qS (dQ.ret (.int (qz (S+c) 8) M)):bZ)= .ok (.ret x)/\aa g p p C k/\∃d M,x=aj d M/\d<8:=by
  intro c M k T;refine⟨_,t,ae.trans T,(qz (S+c) 8).toNat,M, ?_, ?_⟩
  ·unfold aj;refine r (show bq (qz (S+c) 8).toNat=qz (S+c) 8 from by
    have:=oY (S+c) (show(0:Int)<8 by decide);exact sJ this) ?_;rfl
  ·have o:=oY (S+c) (show(0:Int)<8 by decide);have F:=vH (S+c) (show(0:Int)<8 by decide);exact(Int.toNat_lt o).mpr F
 exact f4 (ak:=20) (a5 t) y ac.K (aK ay a6) .nil ba av (λaA=>d0 (z 14 _ ..) al) (λ_=>t) t λaA k _ T _ _=>az (Cn m) _ k T.aE
theorem Lf:∀v a,d9 iI.target (.ref a) v=pure ():=λ_ _=>by rfl
theorem Lg(z:Base g)(B:l8 g u.params)(au:hi g u.params)(K:aR g C){e:Nat}{S:List (Int×Nat)}(av:S.length<=63)(W:I C (n+101) (ek []))(D:I C (n+102) (a' (.ref 100)))(F:I C 100 (ah (cO S) e))(aw:g (n+101)=J):
  Q u 0 J j (cn n) (b7 (bO 3) (bb n)) (λf G=>f= .next/\aa g (cY [n+101]) p C G/\∃X ay az m,C.heap.objs.size<=X+101/\I G (n+101) (ek [U u.params k az (E X)])/\
   I G (X+101) (ah (ca m) ay)/\m.length=3/\∀q∈m,q.1<8) a8 C:=by
 refine g0 λA=>ai.dN λa0 aA=> ?_;have Z:=bB W;have a1:=bB D;have a3:=bB F;refine ee (ak:=0) (aW 0) z K (aK W a6) .nil ba t (cr:=8) (br:=8) (λl=>B 9 _ ..) (λ_=>t) t (a5 t)
  (R:=λl ab=>iK g u.params (l+101) (l+2) 3 [106] (λi O C=>I C (n+102) (a' (.ref 100))/\I C 100 (ah (cO S) e)/\∃m:List (Nat×Nat),O=ca m/\m.length=i/\∀q∈m,q.1<8) ab) ?_ ?_
 ·intro l ab o L s aC;have P:∀x:Nat,l+101<=x->g x=none:=λx s=>K.fresh (by rw [o];exact s);refine C3 (T:=l+1) z au (λv=>Lf v _) (by kernel_rfl) (cP (by kernel_rfl)) (a5 t) (a5 t) L.K (cV 101 102 t) (cV 2 2 t) P (s _ _ ci) (s _ _ dK) (s _ _ aO)
   ⟨L.aE.ax D,L.aE.ax F,[],t,t,λ_ h=>nomatch h⟩ ?_ ?_ ?_
  ·exact λi O C G=>aT λa b c w=>⟨w.k' a (cV 2 2 t) (aD 102 0 0 101 103 102 t Z (aB o)),w.k' b (cV 2 2 t) (V 0 0 101 102 t (be _)),c⟩
  ·intro j i aF C aG am K aI N;exact nk z (a5 t) (λac aL aM A=>B 10 _ ..) (λac aL aM A af a4=>B 11 _ ..) (P _ (cV 101 104 t)) K aI N
  ·refine λj i aF af O C am K=>aT λD F=>aH λm=>aT ?_;rintro rfl;intro aj al aP;refine r (show iI.ifs=[]from by kernel_rfl) (Q.m_ ?_);rw [if_pos t];refine(Le z B K am av aP D F).mono ?_ (λ_ _ h=>h);refine λv G=>an λw=>bo λd M=>an ?_;rintro rfl;intro Y;refine⟨w,w.ax D,w.ax F,m++[(d,M)],(C5 m (d,M)).symm,by refine r e9 (r aj ?_);rfl,λq y=> ?_⟩;rcases is.mp y with y|y
   ·exact al q y
   ·rw [bQ]at y;exact r y Y
 refine λl ab a7 q a9 o aQ L bc aC=>aT ?_;rintro rfl;refine λap=>cE λO aS aG=>bu (aT λ_ _=>aH λm=>aT ?_);rintro rfl;intro aj al aU aV N;rcases N with⟨_,N⟩|⟨af,v,rfl⟩
 ·cases N
 have ar:=(L.aE.zero.trans ap).kg (ew o);have P:∀x:Nat,l+101<=x->g x=none:=λx s=>K.fresh (by rw [o];exact s);have aY:b6 g [((l+104:ae),aJ [U u.params [106] af v]),(n+101,ek [])] [0,1]:= .nodup (lC (a:=l+104) (b:=n+101) (aX (aD 102 0 0 101 102 104 t Z (aB o)))) (a_ (eo (P _ (bw t))) (a_ (eo aw) dG));refine eU (ak:=0) (aW 0) z ap.K (aK aV (aK (ar.ax W) a6)) aY ba aQ (λac=>B 15 _ ..) (λ_=>t) t ?_;intro ac bd bf as aZ bg;refine(aA _ _ ⟨t,ar.k_ as.hn (by rintro x (q|q)<;>simp [q];exact .inr (V 0 101 0 104 t (aB o))),l+2,aS,_,m,V 0 101 0 103 t (aB o),aZ _ _ aO,as.hn.fr _ _ aU ?_,aj,al⟩);rintro (q|q)
 ·have:l+103=l+104:=q;exact a2 104 103 t (ao q)
 ·have:l+103=n+101:=q;exact a2 205 202 t (aq 102 101 103 101 (aq 102 0 0 101 Z (aB o)) (aB q))
end
section
open PySem PySem.W PySem.Calls PySem.SeqAt
open PyProof.Rows
theorem rX {a:List (Nat×cL)}{i:Nat}{v:O}(h:(ca a)[i]? =H v):∃q,a[i]? =H q/\v=aj q.1 q.2:=by
 unfold ca at h;rw [d1]at h;refine aw (fL.mp h) (aH λq=>an λb=> ?_);rintro rfl;exact⟨q,b,t⟩
theorem ov {b:Type}{a:List b}{i:Nat}{x:b}(h:a[i]? =H x):a.take (i+1)=a.take i++[x]:=by
 refine r sC (r h ?_);rfl
theorem Lh:∀v a,d9 gx.target (.ref a) v=pure ():=λ_ _=>by rfl
theorem Li:∀v a,d9 gy.target (.ref a) v=pure ():=λ_ _=>by rfl
theorem Lj(w:Base g)(m:l8 g u.params)(K:aR g C){al au av:Nat}{y:List (Nat×Nat)}(am:I C (n+101) (ek [U u.params k av (E al)]))(Y:I C (al+101) (ah (ca y) au))(D:y.length=3)(ap:I C (n+104) dD)(ay:g (n+104)=J):
  Q u 0 J j (cn n) (b7 (bO 4) (bb n)) (λf O=>f= .next/\aa g (cY [n+104]) p C O/\∃S e,C.heap.objs.size<=S+101/\I O (n+104) (a' (E S))/\
   I O (S+101) (ah (ca (y.filter λq=>decide (q.1<6))) e)) a8 C:=by
 refine g0 λA=>ai.dN λaZ az=> ?_;have a0:=bB am;have aA:=bB Y;have ar:=bB ap;have W:(ca y).length=3:=by unfold ca;rw [bM];exact D
 refine ee (ak:=0) (aW 0) w K (aK am (aK Y a6)) .nil ba t (cr:=8) (br:=8) (λc=>m 26 _ ..) (λ_=>t) t (a5 t)
  (R:=λc B=>iK g u.params (c+101) (c+1) (ca y).length eg (λi X C=>X=ca ((y.take i).filter λq=>decide (q.1<6))) B) ?_ ?_
 ·intro c B d l o aC;have F:∀x:Nat,c+101<=x->g x=none:=λx o=>K.fresh (by rw [d];exact o);refine rV (T:=c) (λv=>Lh v _) (by kernel_rfl) (cP (by kernel_rfl)) (a5 t) (bm t (aB W)) l.K (bw t) (cV 1 1 t) F (o _ _ ci) (o _ _ dK) (o _ _ aO) (l.aE.ax Y) (aD 102 0 0 101 102 101 t aA (aB d))
   rfl (λ_ _ _ _ h _=>h) ?_ ?_
  ·intro j i v C aF Z K aG z;refine aw (rX Z) (aH λq=>an λ_=> ?_);rintro rfl;exact nk w (a5 t) (λG aI aL A=>m 16 _ ..) (λG aI aL A ab a1=>m 17 _ ..) (F _ (cV 101 103 t)) K aG z
  ·rintro j i v ab X C Z K rfl ac;refine aw (rX Z) (aH λq=>an λD=> ?_);rintro rfl;refine r (show gx.ifs=[.Compare (d5 (gx.ifs.headD default)).1 [.Lt] [(d5 (gx.ifs.headD default)).2] (ez (gx.ifs.headD default))]from by kernel_rfl) (Q.rG (Q.jW ?_ (by kernel_rfl)));refine r en (Q.V (ak:=20) (v:=λ_=>aj q.1 q.2) (a5 t) w K (aK ac a6) .nil ba (λaf A=>m 20 _ ..) t (λaf B _ l _=> ?_));refine Q.V (ak:=20) (v:=λ_=>aj 6 B.toks) (a5 t) w l.K (aK (l.aE.ax ac) a6) .nil ba (λaf A=>m 23 _ ..) t (λG aM _ L _=> ?_);refine Q.any (P.lt_int (Q.jc ?_));have s:=l.aE.trans L.aE;refine r (ov D) ?_;rewrite [ls];refine r (show decide (bq q.1<bq 6)=decide (q.1<6)from decide_eq_decide.mpr vG) ?_
   by_cases M:q.1<6
   ·rw [if_pos (by simp [M])];refine Q.V (ak:=20) (v:=λ_=>aj q.1 q.2) (a5 t) w s.K (aK (s.ax ac) a6) .nil ba (λaf A=>m 22 _ ..) t (λa3 aP _ N _=> ?_);exact⟨s.trans N.aE,by rw [show [q].filter (λq=>decide (q.1<6))=[q]from by simp [M],C5]⟩
   ·rw [if_neg (by simp [M])];exact⟨s,by rw [show [q].filter (λq=>decide (q.1<6))=[]from by simp [M],mo]⟩
 refine λc B aM q a4 d aQ l a7 aC=>aT ?_;rintro rfl;refine λL=>cE λX aS aF=>bu ?_;rintro rfl;intro as aU z;rcases z with⟨_,z⟩|⟨ab,v,rfl⟩
 ·rw [W]at z;cases z
 have s:=(l.aE.zero.trans L).kg (ew d);have F:∀x:Nat,c+101<=x->g x=none:=λx o=>K.fresh (by rw [d];exact o);have aV:b6 g [((c+103:ae),aJ [U u.params eg ab v]),(n+104,dD)] [0,1]:= .nodup (lC (a:=c+103) (b:=n+104) (aX (aD 105 0 0 101 105 103 t ar (aB d)))) (a_ (eo (F _ (bw t))) (a_ (eo ay) dG));refine eU (ak:=0) (aW 0) w L.K (aK aU (aK (s.ax ap) a6)) aV ba aQ (λG=>m 28 _ ..) (λ_=>t) t ?_;intro G aP a9 N aY bc;refine(az _ _ ⟨t,s.k_ N.hn (by rintro x (q|q)<;>simp [q];exact .inr (V 0 101 0 103 t (aB d))),c+1,aS,V 0 101 0 102 t (aB d),aY _ _ aO, ?_⟩);rw [W,<-D,ms]at as;refine N.hn.fr _ _ as ?_;rintro (q|q)
 ·have:c+102=c+103:=q;exact a2 103 102 t (ao q)
 ·have:c+102=n+104:=q;exact a2 207 205 t (aq 105 101 102 104 (aq 105 0 0 101 ar (aB d)) (aB q))
noncomputable def nl(a d:Nat):Value:=(eE a).getD d .none
theorem Lk(D:Base g)(y:l8 g u.params)(K:aR g C){S aI al L s:Nat}{z:List (Nat×Nat)}(am:I C (n+101) (ek [U u.params k al (E S)]))(Y:I C (S+101) (ah (ca z) aI))(M:z.length=3)(aL:∀q∈z,q.1<8)
  (l:I C (n+107) (a' (E L)))(F:I C (L+101) (ah (eE s) 0))(aM:g (n+101)=J):
  Q u 0 J j (cn n) (b7 (bO 5) (bb n)) (λf W=>f= .next/\aa g (cY [n+101]) p C W/\∃ap e aP,C.heap.objs.size<=ap+101/\I W (n+101) (ek [U u.params k al (E S),U u.params dh aP (E ap)])/\
   I W (ap+101) (ah ((z.filter λq=>decide (6<=q.1)).map λq=>nl s q.1) e)) a8 C:=by
 refine g0 λA=>ai.dN λbi aQ=> ?_;have az:=bB am;have aS:=bB Y;have aU:=bB l;have aV:=bB F;have ar:(ca z).length=3:=by unfold ca;rw [bM];exact M
 refine ee (ak:=0) (aW 0) D K (aK am (aK Y a6)) .nil ba t (cr:=8) (br:=8) (λh=>y 27 _ ..) (λ_=>t) t (a5 t)
  (R:=λh N=>iK g u.params (h+101) (h+1) (ca z).length eg (λi X C=>I C (n+107) (a' (E L))/\I C (L+101) (ah (eE s) 0)/\X=((z.take i).filter λq=>decide (6<=q.1)).map λq=>nl s q.1) N) ?_ ?_
 ·intro h N o w B aY;have Z:∀x:Nat,h+101<=x->g x=none:=λx B=>K.fresh (by rw [o];exact B);refine rV (T:=h) (λv=>Li v _) (by kernel_rfl) (cP (by kernel_rfl)) (a5 t) (bm t (aB ar)) w.K (bw t) (cV 1 1 t) Z (B _ _ ci) (B _ _ dK) (B _ _ aO) (w.aE.ax Y) (aD 102 0 0 101 102 101 t aS (aB o))
   ⟨w.aE.ax l,w.aE.ax F,t⟩ ?_ ?_ ?_
  ·exact λi X C W=>aT λa b c aA=>⟨aA.k' a (cV 1 1 t) (aD 108 0 0 101 108 101 t aU (aB o)),aA.k' b (cV 1 1 t) (aD 102 0 0 101 102 101 t aV (aB o)),c⟩
  ·intro j i v C aZ as K a0 l;refine aw (rX as) (aH λq=>an λ_=> ?_);rintro rfl;exact nk D (a5 t) (λab a1 a3 A=>y 18 _ ..) (λab a1 a3 A au bj=>y 19 _ ..) (Z _ (cV 101 103 t)) K a0 l
  ·refine λj i v au X C as K=>aT λl F=> ?_;rintro rfl;intro av;refine aw (rX as) (aH λq=>an λM=> ?_);rintro rfl;refine r (show gy.ifs=[.Compare (d5 (gy.ifs.headD default)).1 [.GtE] [(d5 (gy.ifs.headD default)).2] (ez (gy.ifs.headD default))]from by kernel_rfl) (Q.rG (Q.jW ?_ (by kernel_rfl)));refine r en (Q.V (ak:=20) (v:=λ_=>aj q.1 q.2) (a5 t) D K (aK av a6) .nil ba (λay A=>y 21 _ ..) t (λay N _ w _=> ?_));refine Q.V (ak:=20) (v:=λ_=>aj 6 N.toks) (a5 t) D w.K (aK (w.aE.ax av) a6) .nil ba (λay A=>y 24 _ ..) t (λab a4 _ ac _=> ?_);refine Q.any (P.ge_int (Q.jc ?_));have m:=w.aE.trans ac.aE;refine r (ov M) ?_;rewrite [ls];refine r (show decide (bq q.1>=bq 6)=decide (6<=q.1)from decide_eq_decide.mpr Int.ofNat_le) ?_;have a7:=aL q (dP M)
   by_cases af:6<=q.1
   ·rw [if_pos (by simp [af])];refine aw (bh _ _ (d0 (f:=λd=>(eE s)[d]?) (cs:=λd=>H (.str ⟨⟨eQ d⟩⟩ (s+d))) (n:=8) t a7):∃st O,(eE s)[q.1]? =H (.str st O)) (bo λst O aF=> ?_);refine Q.V (ak:=20) (v:=λ_=> .str st O) (a5 t) D m.K (aK (m.ax av) (aK (m.ax l) (aK (m.ax F) a6))) .nil (aC:=[e0 2 (L+101) (eE s) 0 q.1 q.2 (.str st O)]) (fk (iB (by lia) aF)) (λay A=>y 25 _ ..) t (λbk a9 _ G _=> ?_);refine⟨m.trans G.aE,G.aE.ax (m.ax l),G.aE.ax (m.ax F), ?_⟩;refine r (show [q].filter (λq=>decide (6<=q.1))=[q]from by simp [af]) (r e8 ?_);refine(?_:_=_++[nl s q.1]);refine r (show nl s q.1= .str st O from by unfold nl;rw [fv,aF];rfl) ?_;rfl
   ·rw [if_neg (by simp [af])];exact⟨m,m.ax l,m.ax F,by rw [show [q].filter (λq=>decide (6<=q.1))=[]from by simp [af],mo]⟩
 refine λh N a4 q bl o bc w bn aY=>aT ?_;rintro rfl;refine λac=>cE λX bd aZ=>bu (aT λ_ _=> ?_);rintro rfl;intro aG be l;rcases l with⟨_,l⟩|⟨au,v,rfl⟩
 ·rw [ar]at l;cases l
 have m:=(w.aE.zero.trans ac).kg (ew o);have Z:∀x:Nat,h+101<=x->g x=none:=λx B=>K.fresh (by rw [o];exact B);have bf:b6 g [((h+103:ae),aJ [U u.params eg au v]),(n+101,ek [U u.params k al (E S)])] [0,1]:= .nodup (lC (a:=h+103) (b:=n+101) (aX (aD 102 0 0 101 102 103 t az (aB o)))) (a_ (eo (Z _ (bw t))) (a_ (eo aM) dG));refine eU (ak:=0) (aW 0) D ac.K (aK be (aK (m.ax am) a6)) bf ba bc (λab=>y 29 _ ..) (λ_=>t) t ?_;intro ab a9 bp G bg bs;refine(aQ _ _ ⟨t,m.k_ G.hn (by rintro x (q|q)<;>simp [q];exact .inr (V 0 101 0 103 t (aB o))),h+1,bd,_,V 0 101 0 102 t (aB o),bg _ _ aO, ?_⟩);rw [ar,<-M,ms]at aG;refine G.hn.fr _ _ aG ?_;rintro (q|q)
 ·have:h+102=h+103:=q;exact a2 103 102 t (ao q)
 ·have:h+102=n+101:=q;exact a2 204 202 t (aq 102 101 102 101 (aq 102 0 0 101 az (aB o)) (aB q))
end
section
open PySem PySem.W PySem.Calls PySem.SeqAt
open PyProof.Rows
noncomputable def ow(a:List (Nat×Nat))(x:Int):List Bool:=a.map λq=>b' x q.1
theorem em.only {a:ac}(b:em g [] C a):aa g p p C a:=(aa.mS b b.dH).mono (λx h=>by cases h) (λ_ h=> .inl h)
theorem C6 {a:List (Int×Nat)}{i:Nat}{v:O}(h:(cO a)[i]? =H v):∃q,a[i]? =H q/\v= .int q.1 q.2:=by
 unfold cO at h;rw [d1]at h;refine aw (fL.mp h) (aH λq=>an λb=> ?_);rintro rfl;exact⟨q,b,t⟩
theorem C7 {b a:Nat}{c d:ab}(e:b≠a)(f:g b=J)(h:g a=J):b6 g [((b:ae),c),(a,d)] [0,1]:= .nodup (lC e) (a_ (eo f) (a_ (eo h) dG))
theorem Ll:∀v a,d9 kb.target (.ref a) v=pure ():=λ_ _=>by rfl
theorem Lm:∀v a,d9 kc.target (.ref a) v=pure ():=λ_ _=>by rfl
theorem Ln(L:Base g)(M:ii g u.params)(be:pR g u.params)(K:aR g C){aQ aS aU aV aY a0 a1 a3 bf aj a4:Nat}{a7:Array (Option O)}{z:List (Int×Nat)}{B:List (Nat×Nat)}(N:I C (n+101) (bz (dI u.params aS aU aV aY a0 a1 []) aQ a7))
  (al:I C (n+103) (a' (E a3)))(av:I C (a3+101) (ah (cO z) bf))(bg:8<=z.length)(am:z.length<=16)(W:I C (n+104) (a' (E aj)))(X:I C (aj+101) (ah (ca B) a4))(bh:∀q∈B,q.1<6)(bL:B.length<=3)(bi:g (n+101)=J):
  Q u 0 J j (cn n) (b7 (bO 7) (bb n)) (λf s=>f= .next/\aa g (cY [n+101]) p C s/\∃ay e bj,C.heap.objs.size<=ay+101/\I s (n+101) (bz (dI u.params aS aU aV aY a0 a1 [d8 u.params bj ay]) (aQ+1) a7)/\
   ∃k:List (Nat×List Bool),k.map (·.2)=z.map (λx=>ow B x.1)/\I s (ay+101) (ah (k.map λq=>E q.1) e)/\∀q∈k,C.heap.objs.size<=q.1+101/\∃w,I s (q.1+101) (dx q.2 w)) a8 C:=by
 refine g0 λA=>ai.dN λbk az=> ?_;have aA:=bB N;have bN:=bB al;have bl:=bB W;have bm:=bB av;have bn:=bB X;have aC:(cO z).length=z.length:=by unfold cO;rw [bM]
 refine ee (ak:=0) (aW 0) L K (aK al (aK av a6)) .nil ba t (cr:=8) (br:=8) (λl=>M 10 _ ..) (λ_=>t) t (a5 t)
  (R:=λl D=>iK g u.params (l+101) (l+1) (cO z).length [120] (λi ap C=>I C (n+104) (a' (E aj))/\I C (aj+101) (ah (ca B) a4)/\
   ∃k:List (Nat×List Bool),ap=k.map (λq=>E q.1)/\k.map (·.2)=(z.take i).map (λx=>ow B x.1)/\∀q∈k,l+103<q.1+101/\∃w,I C (q.1+101) (dx q.2 w)) D) ?_ ?_
 ·intro l D m o G a9;have ar:∀x:Nat,l+101<=x->g x=none:=λx G=>K.fresh (by rw [m];exact G);refine rV (T:=l) (λv=>Ll v _) (by kernel_rfl) (cP (by kernel_rfl)) (a5 t) (aD 0 0 0 16 0 1000 t (aB aC) am) o.K (bw t) (cV 1 1 t) ar (G _ _ ci) (G _ _ dK) (G _ _ aO) (o.aE.ax av) (aD 102 0 0 101 102 101 t bm (aB m))
   ⟨o.aE.ax W,o.aE.ax X,[],t,t,λ_ h=>nomatch h⟩ ?_ ?_ ?_
  ·refine λi ap C s=>aT λa b=>aH λk=>aT λc d f aF=> ?_;exact⟨aF.k' a (cV 1 1 t) (aD 105 0 0 101 105 101 t bl (aB m)),aF.k' b (cV 1 1 t) (aD 102 0 0 101 102 101 t bn (aB m)),k,c,d,λq Y=>by
    obtain ⟨F,w,Z⟩:=f q Y;exact⟨F,w,aF.K' Z (cV 1 1 t) F⟩⟩
  ·intro j i v C bp aG K bs ab;refine aw (C6 aG) (aH λq=>an λ_=> ?_);rintro rfl;exact nk L (a5 t) (λP bt bv A=>M 6 _ ..) (λP bt bv A a_ bP=>M 7 _ ..) (ar _ (cV 101 103 t)) K bs ab
  ·refine λj i v a_ ap C aG K=>aT λW X=>aH λk=>aT ?_;rintro rfl;intro aI aJ bc;refine aw (C6 aG) (aH λq=>an λY=> ?_);rintro rfl;refine r (show kb.ifs=[]from by kernel_rfl) (Q.m_ ?_);rw [if_pos t,en];refine hP λA=>ai.dN λbk az=> ?_;refine ee (ak:=20) (a5 t) L K (aK bc (aK W a6)) .nil ba t (cr:=8) (br:=16) (λP=>M 8 _ ..) (λ_=>t) t (a5 t)
    (R:=λ_ D aL s=>aa g p p D s/\∃a ac,D.heap.objs.size<=a+101/\aL= .ok (.ret (E a))/\I s (a+101) (dx (ow B q.1) ac)) ?_ ?_
   ·intro P D am o _ _;refine((Ho L be o.K bh (by lia) (o.aE.ax X)).lower (a5 t)).mono (λaL s=>aT λbx _=>bo λa ac=>aT λN aM al=> ?_);refine⟨bx.only,a,ac,N,aM,al.trans ?_⟩;unfold dx ow;refine r hX ?_;rfl
   refine λP D bC aL bD am aP o _ a9=>an λaf=>bo λa ac=>aT λbR=> ?_;rintro rfl;intro bE;have as:=o.aE.trans af;refine f4 (ak:=20) (a5 t) L af.K a6 .nil ba aP (λbF=>M 9 _ ..) (λ_=>t) t ?_;intro bF bG bS S _ _;have au:=as.trans S.aE;refine(az _ _ ⟨_,t,au,au.ax W,au.ax X,k++[(a,ow B q.1)],by rw [e8];rfl,by rw [e8,aI,ov Y,e8];rfl,λy U=> ?_⟩);rcases is.mp U with U|U
   ·obtain ⟨F,w,Z⟩:=aJ y U;exact⟨F,w,au.ax Z⟩
   ·rw [bQ]at U;subst U;have:=bB bc;have:=o.aE.aZ;exact⟨by refine(?_:l+103<a+101);lia,ac,S.aE.ax bE⟩
 refine λl D bC q bD m aP o bT a9=>aT ?_;rintro rfl;refine λaf=>cE λap bH bp=>bu (aT λ_ _=>aH λk=>aT ?_);rintro rfl;intro aI aJ bI bJ ab;rcases ab with⟨_,ab⟩|⟨a_,v,rfl⟩
 ·exact a2 8 0 t (aq 8 0 0 0 (aq 8 0 0 0 bg (ao aC)) (aB ab))
 have as:=(o.aE.zero.trans af).kg (ew m);have ar:∀x:Nat,l+101<=x->g x=none:=λx G=>K.fresh (by rw [m];exact G);refine eU (ak:=0) (aW 0) L af.K (aK bJ (aK (as.ax N) a6)) (C7 (aX (aD 102 0 0 101 102 103 t aA (aB m))) (ar _ (cV 101 103 t)) bi) ba aP (λP=>M 11 _ ..) (λ_=>t) t ?_;intro P bG am S bK bU;have bd:∀x:Nat,x≠l+103->x≠n+101->¬((x:ae)=l+1+102\/(x:ae)=n+101):=λx N aM=>by
  rintro (q|q)
  ·exact N q
  ·exact aM q
 refine(az _ _ ⟨t,as.k_ S.hn (by rintro x (q|q)<;>simp [q];exact .inr (V 0 101 0 103 t (aB m))),l+1,bH,_,V 0 101 0 102 t (aB m),bK _ _ aO,k,by refine r aI (r aC ?_);refine r ms ?_;rfl,S.hn.fr _ _ bI (bd _ (bA 102 103 t) (aX (aD 102 0 0 101 102 102 t aA (aB m)))),λq Y=> ?_⟩);obtain ⟨F,w,Z⟩:=aJ q Y;exact⟨aD 0 101 104 101 0 101 t (aB m) F,w,S.hn.fr _ _ Z (bd _ (aX (F)) (aX (cy 102 0 0 101 104 101 102 101 t aA (aB m) F)))⟩
theorem Lo(i:Base g)(s:ii g u.params)(U:na g u.params)(V:hi g u.params)(K:aR g C){v w y z B D F G k W m:Nat}{L:Array (Option O)}{a:List (Nat×List Bool)}(l:I C (n+101) (bz (dI u.params w y z B D F [d8 u.params G k]) v L))
  (X:I C (k+101) (ah (a.map λq=>E q.1) W))(Y:∀q∈a,∃o,I C (q.1+101) (dx q.2 o))(Z:∀q∈a,q.2.length=m)(ab:1<=a.length)(ac:a.length<=500){A:Array Nat}(ae:cu a.length A)(af:ep (gY a) A a.length)(aj:g (n+101)=J):
  Q u 0 J j (cn n) (b7 (bO 8) (bb n)) (λf r=>f= .next/\aa g (cY [n+101]) p C r/\∃b e al c,C.heap.objs.size<=b+101/\I r (n+101) (bz (dI u.params w y z B D F [d8 u.params G k,eu u.params al b]) (v+1) L)/\
   I r (b+101) (ah c e)/\c.length=a.length/\d7 (bf A) c) a8 C:=by
 refine g0 λA=>ai.dN λaC am=> ?_;have aD:=bB l;refine ee (ak:=0) (aW 0) i K (aK l a6) .nil ba t (cr:=8) (br:=8) (λM=>s 12 _ ..) (λ_=>t) t (a5 t)
  (λM ap N d aF P=>I_ i U V (a5 t) d.K Z ab ac (d.aE.ax X) (λq aq=>by obtain ⟨o,h⟩:=Y q aq;exact⟨o,d.aE.ax h⟩) ae af) ?_
 refine λM ap aG q aH N ar d aI P=>an λR=>cE λb c e=>gs ?_;rintro rfl;intro as au av aw;obtain ⟨b,rfl⟩:∃ay:Nat,ay=b:=⟨b,t⟩;have S:=d.aE.trans R;refine eU (ak:=0) (aW 0) i R.K (aK (S.ax l) a6) (cK aj) ba ar (λaz=>s 13 _ ..) (λ_=>t) t ?_;intro az aJ aL T aA aM;exact(am _ _ ⟨t,S.k_ T.bW (by rintro x q;simp [show x=n+101 from q]),b,e,_,c,cy 0 101 101 0 0 101 0 101 t (aB N) (ao P) as,aA _ _ aO,T.bW.fr _ _ au (by intro q;have:b+101=n+101:=q;lia),av,aw⟩)
noncomputable def dL(lo a:Nat):ae->Prop:=λx=> @eY Nat _ lo x/\@LT.lt Nat _ x a
theorem df.of_is {P:a1}{b a f:Nat}{x:Int}{h:aY}(M:ro b P h a x f)(k:b<=a+101):df P (dL b h.objs.size) h (E a) x f:=by
 refine aw M (i6 λd l m n v=> ?_);rintro ⟨o,g,i,c⟩;refine kH a d l m n v ⟨t,⟨k,bB g⟩,⟨o,bB i⟩,g,i, ?_⟩;rcases c with c|⟨c,p|⟨q,r,e,s,j⟩⟩
 ·exact .inl c
 ·exact .inr (.inl ⟨c,p⟩)
 ·exact .inr (.inr ⟨c,q,r,e,⟨s,bB j⟩,j⟩)
structure kh(P:a1)(lo:Nat)(b:List (Int×Nat))(k:Nat)(a:List (Nat×Int×Nat))(C:ac):Prop where
 len:a.length=k
 val:∀(i:Nat) q,a[i]? =H q->q.2.2=i/\(b[i]?).map (·.1)=H q.2.1
 fy:∀q∈a,df P (dL lo C.heap.objs.size) C.heap (bg q) q.2.1 q.2.2
 inj:(a.map (·.1)).Nodup
theorem kh.only {P:a1}{c:ae->Prop}{lo k:Nat}{d:List (Int×Nat)}{f:List (Nat×Int×Nat)}{i:ac}(h:kh P lo d k f C)(j:aa g c p C i)(l:∀x:Nat,c x->lo<=x->C.heap.objs.size<=x):kh P lo d k f i:=
 ⟨h.len,h.val,λq m=>(h.fy q m).mono P (λb n a e=>j.fr b n e λq=>absurd (l b q a.1) (gG a.2)) (λb a=>⟨a.1,bP a.2 j.aZ⟩),h.inj⟩
theorem kh.snoc {P:a1}{lo k a:Nat}{m:List (Int×Nat)}{l:List (Nat×Int×Nat)}{n:ac}{x:Int×Nat}(h:kh P lo m k l C)(A:aa g p p C n)(B:m[k]? =H x)(u:C.heap.objs.size<=a+101)(D:lo<=C.heap.objs.size)(M:ro C.heap.objs.size P n.heap a x.1 k):
  kh P lo m (k+1) (l++[(a,x.1,k)]) n:=by
 have E:=h.only A aF;refine⟨by rw [e9,h.len];rfl,λi q c=> ?_,λq j=> ?_, ?_⟩
 ·rcases fV i l.length with o|o
  ·rw [iU o]at c;exact h.val i q c
  ·rw [iV o]at c;have:i-l.length=0:=by
    rcases qt (i-l.length)with s|s
    ·exact s
    ·rw [vw (by simp;exact s)]at c;cases c
   rw [this]at c;injection c with c;have:i=k:=zx (by assumption) (by assumption) h.len;subst this;refine r (cj c) (r B ?_);exact⟨t,t⟩
 ·rcases is.mp j with j|j
  ·exact E.fy q j
  ·rw [bQ]at j;subst j;exact(df.of_is M u).mono P (λ_ _ _ e=>e) (λb v=>⟨aS D v.1,v.2⟩)
 ·rw [e8,List.nodup_append];refine⟨h.inj,by simp, ?_⟩;rintro y F z w rfl;refine aw (hx.mp F) (aH λq=>an λj=> ?_);rintro rfl;simp only [sD,List.map_nil,bQ]at w;refine aw (h.fy q j) (jK λd _ _ _ _ _=>aT λe f _=> ?_);injection e with e;rw [<-e]at f;have:=f.2;rw [w]at this;have:a+101<C.heap.objs.size:=this;exact a2 102 101 t (aq 0 101 102 0 u this)
theorem kh.nil {P:a1}{lo:Nat}{a:List (Int×Nat)}:kh P lo a 0 [] C:=⟨t,(λ_ _ h=>nomatch h),a0,.nil⟩
theorem Lp(B:Base g)(M:ii g u.params)(bC:tE g u.params)(bD:hi g u.params)(K:aR g C){a0 a1 a3 a4 a7 a9 a_ bc bd be bf Z ay:Nat}{bh:Array (Option O)}{h:List (Int×Nat)}(P:I C (n+101) (bz (dI u.params a1 a3 a4 a7 a9 a_ [d8 u.params bc bd,eu u.params be bf]) a0 bh))
  (N:I C (n+103) (a' (E Z)))(S:I C (Z+101) (ah (cO h) ay))(bE:8<=h.length)(U:h.length<=16)(bF:g (n+101)=J):
  Q u 0 J j (cn n) (b7 (bO 9) (bb n)) (λf D=>f= .next/\aa g (cY [n+101]) p C D/\∃az e bG o,C.heap.objs.size<=az+101/\I D (n+101) (bz (dI u.params a1 a3 a4 a7 a9 a_ [d8 u.params bc bd,eu u.params be bf,fe u.params bG az]) (a0+1) bh)/\
   I D (az+101) (ah (o.map bg) e)/\kh u.params C.heap.objs.size h h.length o D) a8 C:=by
 refine g0 λA=>ai.dN λbH aA=> ?_;have bi:=bB P;have bI:=bB N;have bJ:=bB S;have bj:(cO h).length=h.length:=by unfold cO;rw [bM]
 refine l9 (ak:=0) (aW 0) B K (aK N a6) .nil ba t (cr:=8) (λbk=>M 14 _ ..) (λ_=>t) t
  (aG:=λ_ F v aI=>aa g p p F aI/\∃am,v=aj h.length am) ?_ ?_
 ·intro bk F b' _ w _ _ _ _ _;exact r (cj bj) (ux w.K (w.aE.ax S) (aD 0 0 0 16 0 1000 t (aB bj) U))
 refine λbk F aI v bK ca aJ w _ bL=>an λW=>aH λcb=> ?_;rintro rfl;have bl:=w.aE.trans W;refine ee (ak:=0) (aW 0) B W.K a6 .nil ba aJ (cr:=8) (br:=8) (λG=>M 19 _ ..) (λ_=>t) t (a5 t)
  (R:=λG ap q ab=>∃y,G+1=y/\q= .ok (.ret (E y))/\aa g p p ap ab/\I ab (y+101) (dn (bq 0) (bq h.length))/\ab.heap.objs.size=y+102) ?_ ?_
 ·intro G ap _ X k z;refine(uw X.K (k _ _ aO) (V 0 16 1 1000 t U)).mono (r z ?_);exact λq ab=>bu λa b c d=>⟨G+1,t,a,b,c,d⟩
 refine λG ap ab q cc U bN X cd ce=>aH λy=>gs λbP=> ?_;rintro rfl;intro bm ar s;have aL:=(bl.trans X.aE).trans bm;have L:C.heap.objs.size<=y+101:=by have:=bl.aZ;exact cy 0 0 0 101 1 0 0 101 t this (aB U) (aB bP)
 have aM:∀x:Nat,y+101<=x->g x=none:=λx k=>K.fresh (aS L k);refine ee (ak:=0) (aW 0) B bm.K (aK ar a6) .nil ba bN (cr:=8) (br:=8) (λl=>M 20 _ ..) (λ_=>t) t (a5 t)
  (R:=λl aP=>iK g u.params (y+101) l h.length [106] (λi as C=>I C (n+103) (a' (E Z))/\I C (Z+101) (ah (cO h) ay)/\∃o,as=o.map bg/\kh u.params (l+103) h i o C/\l+103<=C.heap.objs.size) aP) ?_ ?_
 ·intro l aP m Y aQ bn;have bR:=Y.aE.ax (aL.ax S);refine C3 (T:=y) (n:=h.length) B bD (λv=>Lm v _) (by kernel_rfl) (cP (by kernel_rfl)) (a5 t) (by lia) Y.K (bw t) (aD 102 0 0 101 1 0 t (ao s) (aB m)) aM (aQ _ _ aO) (aQ _ _ ci) (Y.aE.ax ar)
   ⟨Y.aE.ax (aL.ax N),bR,[],t,.nil,(ao bn)⟩ ?_ ?_ ?_
  ·refine λi as C D=>aT λa b=>aH λo=>aT λc d f ac=>⟨ac.k' a (aD 102 0 0 101 1 0 t (ao s) (aB m)) (aD 104 0 0 101 104 101 t bI L),ac.k' b (aD 102 0 0 101 1 0 t (ao s) (aB m)) (aD 102 0 0 101 102 101 t bJ L),o,c,d.only ac ?_,aS f ac.aZ⟩;rintro x (q|q|q) k
   ·have:x=y+101:=q;exact a2 205 202 t (aq 205 101 0 101 (aq 102 101 103 0 (aq 102 0 0 101 (ao s) (aB m)) k) (aB q))
   ·have:x=l+101:=q;exact a2 103 101 t (aq 0 101 103 0 (aB q) k)
   ·have:x=l+102:=q;exact a2 103 102 t (aq 0 102 103 0 (aB q) k)
  ·intro j i bo C af bp K au al;exact nk B (a5 t) (λG bS bT A=>M 15 _ ..) (λG bS bT A am cf=>M 16 _ ..) (aM _ (aD 102 0 0 101 101 102 t (ao s) (aB m))) K au al
  ·refine λj i bo am as C bp K=>aT λN S=>aH λo=>aT ?_;rintro rfl;intro bs aU bU;obtain ⟨x,k⟩:∃x,h[i]? =H x:=⟨h[i],by simp [bp]⟩;refine r (show kc.ifs=[]from by kernel_rfl) (Q.m_ ?_);rw [if_pos t,en];refine hP λA=>ai.dN λbH aA=> ?_;refine ee (ak:=20) (a5 t) B K (aK bU (aK N (aK S a6))) .nil (aC:=[e0 2 (Z+101) (cO h) ay i bo (.int x.1 x.2)]) (λac au=>by rw [bQ]at au;subst au;exact iB (by lia) (by unfold cO;rw [d1,k];rfl)) t (cr:=8) (br:=16) (λG=>M 17 _ ..) (λ_=>t) t (a5 t)
    (R:=λ_ F aV D=>aa g p p F D/\∃a,F.heap.objs.size<=a+101/\aV= .ok (.ret (E a))/\ro F.heap.objs.size u.params D.heap a x.1 i) ?_ ?_
   ·intro G F U w _ _;refine((FG B bC w.K).lower (a5 t)).mono (λaV D=>aT λbV _=>aH λa=>aT λP aY N=> ?_);exact⟨bV.only,a,P,aY,N⟩
   refine λcg F aI aV bK U aJ w _ bL=>an λW=>aH λa=>aT λbW=> ?_;rintro rfl;intro ar;obtain ⟨a,rfl⟩:∃bX:Nat,bX=a:=⟨a,t⟩;refine f4 (ak:=20) (a5 t) B W.K a6 .nil ba aJ (λbY=>M 18 _ ..) (λ_=>t) t ?_;intro bY ap ch X _ _;have av:=(w.aE.trans W).trans X.aE;have bZ:=(bs.only w.aE aF).snoc W k bW (aS aU w.aE.aZ) ar;exact(aA _ _ ⟨_,t,av,av.ax N,av.ax S,o++[(a,x.1,i)],by rw [e8];rfl,bZ.only X.aE aF,aS aU av.aZ⟩)
 refine λl aP b0 q ck m b2 Y aQ bn=>aT ?_;rintro rfl;refine λbt=>cE λas b3 af=>bu (aT λ_ _=>aH λo=>aT ?_);rintro rfl;intro bs aU b4 b5 al;rcases al with⟨_,al⟩|⟨am,v,rfl⟩
 ·exact a2 8 0 t (aq 8 0 0 0 bE (aB al))
 have bv:aa g p p C b0:=((aL.trans Y.aE).zero.trans bt).kg L;refine eU (ak:=0) (aW 0) B bt.K (aK b5 (aK (bv.ax P) a6)) (C7 (aX (aD 204 101 0 101 102 102 t (aq 102 101 102 0 (aq 102 0 0 101 bi L) (ao s)) (aB m))) (aM _ (aD 102 0 0 101 101 102 t (ao s) (aB m))) bF) ba b2 (λb6=>M 21 _ ..) (λ_=>t) t ?_;intro b6 cl cm af b8 co;have b9:∀x:Nat,x≠l+102->x≠n+101->¬((x:ae)=l+102\/(x:ae)=n+101):=λx P aY=>by
  rintro (q|q)
  ·exact P q
  ·exact aY q
 have aw:=bs.only af.hn (by rintro x (q|q) k;{have:x=l+102:=q;exact a2 103 102 t (aq 0 102 103 0 (aB q) k)};{have:x=n+101:=q;lia});refine(aA _ _ ⟨t,bv.k_ af.hn (by rintro x (q|q)<;>simp [q];exact .inr (cy 0 101 102 0 0 101 0 102 t L (ao s) (aB m))),l,b3,_,o,cy 0 101 102 0 0 101 0 101 t L (ao s) (aB m),b8 _ _ aO,af.hn.fr _ _ b4 (b9 _ (bA 101 102 t) (aX (aD 204 101 0 101 102 101 t (aq 102 101 102 0 (aq 102 0 0 101 bi L) (ao s)) (aB m)))),aw.len,aw.val,λq b_=>(aw.fy q b_).mono _ (λ_ _ _ e=>e) (λb bx=>⟨aS (cy 0 101 102 0 0 101 0 103 t L (ao s) (aB m)) bx.1,bx.2⟩),aw.inj⟩)
end
section
open PySem PySem.W PySem.Calls PySem.SeqAt
open PyProof.Rows
theorem Lq(d:Base g)(e:fB g u.params)(i:l<=200)(K:aR g C){da:Nat}(k:g 74=J)(h:I C 74 (co ⟨[]⟩)):
  a4 u l J (.call (.ref 79) ⟨[E da],[]⟩) C λm a=>aa g (· =74) p C a/\∃f,C.heap.objs.size=f+101/\m= .ok (.ret (.ref (f+110)))/\a.heap.objs.size=f+111/\(∃o,I a 74 (co ⟨o⟩))/\∃q r j A,∀y∈n8 g u.params f q r j A da,I a y.1 y.2:=by
 refine a4.c1 λj A=>f4 (ak:=200) i d K (aK h a6) (cK k) ba t (λn=>e 0 _ ..) (λ_=>t) t ?_;intro f a s v b z;refine⟨v.bW,f,s,t,dF ((aB z)) ((ao z)),⟨_,b _ _ aO⟩,C.toks,C.gens.size,j,A, ?_⟩;intro y c;unfold n8 at c;simp only [b8,nJ,or_false]at c;rcases c with rfl|rfl|rfl
 ·exact b _ _ kI
 ·exact b _ _ dK
 ·exact b _ _ ci
theorem Lr {P:a1}{f b c d:Nat}{A:ap}{y:ae×ab}(a:y∈n8 g P f b c j A d): @eY Nat _ (f+102) y.1/\@eY Nat _ y.1 (f+110):=by
 unfold n8 at a;simp only [b8,nJ,or_false]at a;rcases a with rfl|rfl|rfl<;>exact⟨by refine(?_:f+102<=f+_);exact bw t,by refine(?_:f+_<=f+110);exact bw t⟩
structure ox(dj:cZ)(b5:Nat->Option ab)(lo f k a b c:Nat)(d:List (Nat×Nat))(C:ac):Prop where
 l4:l3 dj b5 (dL lo (k+101)) f d C.heap
 hH:gV dj.params (f+9) k (k+2) a b C.heap
 j:∀x∈n' (k+2) a,I C x.1 x.2
 ns:I C (k+101) (m4 dj.params (k+2) c)
theorem oy {P:a1}{m k b c d:Nat}(e:b=k+2):∀x∈f1 P m k b c d,@eY Nat _ (k+102) x.1:=by
 subst e;refine a_ (aW _) ?_
 repeat refine a_ (bw (x:=k+2) (a:=100) t) ?_
 exact dG
theorem xS {k b:Nat}:∀x∈n' (k+2) b,x.1=16\/@eY Nat _ (k+102) x.1:=by
 exact a_ (.inl t) (a_ (.inr (bw (x:=k+2) (a:=100) t)) (a_ (.inr (bw (x:=k+2) (a:=100) t)) dG))
theorem ox.only {j:ae->Prop}{lo f k n o r:Nat}{s:List (Nat×Nat)}{l:ac}(h:ox u g lo f k n o r s C)(v:aa g j p C l)(w:∀x:Nat,j x->lo<=x->C.heap.objs.size<=x)(y:¬j 16)(m:lo<=k+101):ox u g lo f k n o r s l:=by
 have i:∀(b:Nat) a,lo<=b->I C b a->I l b a:=λb a d e=>v.fr b a e λq=>absurd (w b q d) (gG (bB e));exact⟨h.l4.mono (λb a d e=>i b a d.1 e) (λ_ d=>d),λx c=>i _ _ (aS (V 0 101 0 102 t m) (oy t x c)) (h.hH x c),λx c=>(xS x c).elim (λe=>v.fr _ _ (h.j x c) (by rw [e];exact y)) (λe=>i _ _ (aS (V 0 101 0 102 t m) e) (h.j x c)),i _ _ m h.ns⟩
theorem Ls(D:Base g)(V:ii g u.params)(aY:fB g u.params)(a0:kS 0 g u.params)(a1:j0 g u.params)(a3:gf g u.params)(K:aR g C){ae af aj al am ap l ar as au av aw ay az lo:Nat}{aA:Array (Option O)}{W:List (Nat×Nat)}
  (X:I C (n+101) (bz (dI u.params af aj al am ap l [d8 u.params ar as,eu u.params au av,fe u.params aw ay]) ae aA))(aC:I C (l+101) (ah (W.map λq=>E q.1) az))(o:lo<=l+101)(F:n+107<lo)
  (aG:∀q∈W,q.2<6/\ic g u.params (dL lo C.heap.objs.size) C.heap q.1 q.2)(a4:I C 16 (co ⟨[]⟩))(a7:I C 74 (co ⟨[]⟩))(a9:g 16=J)(a_:g 74=J)(a':g (n+101)=J):
  Q u 0 J j (cn n) (b7 (bO 10) (bb n)) (λf M=>f= .next/\aa g (cY [n+101,16,74]) p C M/\(∃bc,I M 74 (co ⟨bc⟩))/\∃bd f k s G L,C.heap.objs.size<=k+101/\I M (n+101) (bz (dI u.params af aj al am ap l [d8 u.params ar as,eu u.params au av,fe u.params aw ay,gz u.params bd (k+2)]) (ae+1) aA)/\
   ox u g lo f k s G L W M) a8 C:=by
 refine g0 λA=>ai.dN λbG bf=> ?_;have bH:=bB X;have N:=bB aC;refine ee (ak:=0) (aW 0) D K (aK X a6) .nil ba t (cr:=8) (br:=8) (λaI=>V 22 _ ..) (λ_=>t) t (a5 t)
  (λaI bg bh P d bi=>Lq D aY (a5 t) P.K (da:=l) a_ (P.aE.ax a7)) ?_
 refine λaI bg aJ q bI bh bj P bJ bi=>an λaL=>aH λf=>gs λbK=> ?_;rintro rfl;refine λbk=>aH λbl bm=>gL λbn bo bp bt bu=> ?_;have Y:aa g (cY [74]) p C aJ:=P.aE.k_ aL (by rintro x q;simp [show x=74 from q]);refine ee (ak:=0) (aW 0) D aL.K a6 .nil ba bj (cr:=8) (br:=8) (λc=>V 23 _ ..) (λ_=>t) t (a5 t)
  (R:=λc Z bv i=>bv= .ok (.ret (.ref (c+161)))/\aa g (· =16) p Z i/\∃s G L,gV u.params (f+9) c (c+2) s G i.heap/\(∀x∈n' (c+2) s,I i x.1 x.2)/\I i (c+101) (m4 u.params (c+2) L)) ?_ ?_
 ·intro c Z ab S d z;exact H1 D a0 a1 a3 (a5 t) S.K a9 (S.aE.ax (Y.cD a4 (by simp))) (m:=f+9) (by refine r z ?_;rfl)
 refine λc Z i q bL ab bw S bM bN=>aT ?_;rintro rfl;refine λaM=>cE λs G L=>aT λbx aP oz=> ?_;have ac:aa g (cY [16]) p aJ i:=S.aE.k_ aM (by rintro x q;simp [show x=16 from q]);have T:aa g (cY [16,74]) p C i:=(Y.mono (gQ:=cY [16,74]) (λx h=> .inl (by have:x∈[74]:=h;refine(?_:x∈[16,74]);simp at this;simp [this])) aF).then ac (λx h=> .inl (by have:x∈[16]:=h;refine(?_:x∈[16,74]);simp at this;simp [this])) aF;have v:C.heap.objs.size<=c+101:=by have:=Y.aZ;exact aD 0 0 0 101 0 101 t this (aB ab)
 refine eU (ak:=0) (aW 0) D aM.K (aK (T.cD X (by simp)) a6) (cK a') ba bw (λbA=>V 24 _ ..) (λ_=>t) t ?_;intro bA bC bQ bD bE bR;have U:=bD.bW;have bs:dL lo C.heap.objs.size 16->False:=λh=>by have:lo<=16:=h.1;exact a2 108 16 t (aq 108 16 0 0 (aq 108 0 0 16 F this) (be _))
 have w:∀(b:Nat) B,lo<=b->I i b B->I bC b B:=λb B a e=>U.fr b B e (by intro q;have:b=n+101:=q;exact a2 108 101 t (aq 108 0 0 101 (aq 108 0 0 0 F a) (aB q)));have bF:∀b:Nat,lo<=b->b∉ [16]:=λb a=>by
  simp;exact aX (cy 0 0 108 0 0 0 17 0 t (be _) F a)
 have aQ:∀b:Nat,lo<=b->b∉ [16,74]:=λb a=>by simp;exact⟨aX (cy 0 0 108 0 0 0 17 0 t (be _) F a),aX (cy 0 0 108 0 0 0 75 0 t (be _) F a)⟩
 refine(bf _ _ ⟨t, ?_,⟨bl,U.fr _ _ (ac.cD bm (by simp)) (by intro q;have:74=n+101:=q;exact a2 101 74 t (aq 101 74 0 0 (ao q) (be _)))⟩,_,f,c,s,G,L,v,bE _ _ aO,⟨⟨kH bn bo bp bt l az ⟨λy aU=> ?_, ?_, ?_⟩,λq aV=> ?_⟩,λx d=> ?_,λx d=> ?_, ?_⟩⟩)
 ·refine(T.mono (gQ:=cY [n+101,16,74]) (λx h=> .inl (vF _ h)) aF).then U (λx q=> .inl ?_) aF;rw [show x=n+101 from q];exact .head _
 ·have:=Lr aU;exact⟨⟨by lia,cy 0 110 111 0 0 101 1 101 t this.2 (ao bk) (aB ab)⟩,w _ _ (by lia) (ac.cD (bu y aU) (bF _ (by lia)))⟩
 ·exact⟨o,aD 102 0 0 101 102 101 t N v⟩
 ·exact w _ _ o (T.cD aC (aQ _ o))
 ·exact⟨(aG q aV).1,(aG q aV).2.mono (λb B a e=>w b B a.1 (T.cD e (aQ _ a.1))) (λb a=>⟨a.1,bP a.2 v⟩)⟩
 ·exact w _ _ (aS (cy 0 101 102 0 0 101 0 102 t o N v) (oy t x d)) (bx x d)
 ·rcases xS x d with e|e
  ·have:=aP x d;rw [e]at this⊢;exact U.fr _ _ this (by intro q;have:16=n+101:=q;exact a2 101 16 t (aq 101 16 0 0 (ao q) (be _)))
  ·exact w _ _ (aS (cy 0 101 102 0 0 101 0 102 t o N v) e) (aP x d)
 ·exact w _ _ (cy 0 101 102 0 0 101 0 101 t o N v) oz
theorem Lu(o:Base g)(v:ii g u.params)(G:j0 g u.params)(L:kS 1 g u.params)(K:aR g C){lo f k M N O w:Nat}{P:List (Nat×Nat)}(y:ox u g lo f k M N O P C)(S:I C 96 (co ⟨[.int 121 0,.int 25 0,.ref w]⟩))(T:g 96=J):
  Q u 0 J j (cn n) (b7 (bO 11) (bb n)) (λf h=>f= .next/\aa g (cY [96]) p C h/\∃U,I h 96 (co ⟨[.int 121 0,.int 25 0,.ref w,.int 132 0,.int 15 0,.ref U]⟩)/\∃b,I h (h.heap.objs.size-1) b) a8 C:=by
 refine g0 λA=> ?_;refine ee (ak:=0) (aW 0) o K (aK S a6) (cK T) ba t (cr:=8) (br:=8) (λi=>v 25 _ ..) (λ_=>t) t (a5 t)
  (R:=λae s V c=>(∃a,V= .ok (.ret (.ref a)))/\aa g p p s c/\∃b,I c (c.heap.objs.size-1) b) ?_ ?_
 ·intro i s W d l z;exact H0 o L G (a5 t) d.K (m:=i+6) (n:=i+7) (λx l=>(xS x l).elim (λe=>d.bW.fr _ _ (y.j x l) (by refine r e ?_;intro q;have:(16:Nat)=96:=q;exact a2 96 16 t (ao q))) (λe=>d.bW.fr _ _ (y.j x l) (λq=>by
   rw [q]at e;have af:k+102<=96:=e;exact a2 102 96 t (aq 102 96 0 0 e (be _))))) (by refine r z ?_;rfl)
 refine λi s c q ah W X d Y z=>aT (aH λa=> ?_);rintro rfl;refine λB=>aH λb Z=>eU (ak:=0) (aW 0) o B.K a6 .nil ba X (λD=>v 26 _ ..) (λ_=>t) t ?_;intro D ai ab E aj ac;have F:=B.trans E.aE;refine⟨t,(d.xR [96] t).trans F.zero,_,F.ax (Y _ _ aO),b, ?_⟩;refine r ac ?_;refine r (show D+0+101=c.heap.objs.size from by refine r ab ?_;rfl) ?_;exact E.aE.ax Z
end
section
open PySem PySem.W
noncomputable abbrev ff:=Nat×Int×Nat
noncomputable def y:ff:=(0,0,0)
noncomputable def gD(a:List ff)(i:Nat):Nat:=(a.getD i y).2.2
theorem uH {a:List ff}{i:Nat}{q:ff}(h:a[i]? =H q):gD a i=q.2.2:=by
 unfold gD;rw [fv,h];rfl
noncomputable def p8(c:List Nat)(a b:ff):Prop:=cl c a.2.1<cl c b.2.1\/(cl c a.2.1=cl c b.2.1/\a.2.2<b.2.2)
theorem xT:∀(c:List Nat) {j:List ff},j.Pairwise (λa b=>a.2.2<b.2.2)->(j7 c.reverse j).Pairwise (p8 c)
 | [],j,h=>h.imp λh=> .inr ⟨t,h⟩
 |d::c,j,h=>by
  have l:=xT c h;rw [List.reverse_cons,Cc];unfold nf;rw [List.pairwise_append];have same:∀a b:ff,b' a.2.1 d=b' b.2.1 d->p8 c a b->p8 (d::c) a b:=λa b e h=>by
   unfold p8 at*;simp only [cl];refine r e ?_;exact h.imp (λq=>lq q _) (λq=>⟨congrArg (_+ ·) q.1,q.2⟩)
  refine⟨?_, ?_,λa f b g=> .inl ?_⟩
  ·refine v5 (λ{a b} f g h=>same a b ?_ h) (l.filter _);have i:=(gI.mp f).2;have k:=(gI.mp g).2;simp at i k;refine r i (r k ?_);rfl
  ·refine v5 (λ{a b} f g h=>same a b ?_ h) (l.filter _);rw [(gI.mp f).2,(gI.mp g).2]
  ·have i:=(gI.mp f).2;have k:=(gI.mp g).2;simp at i;simp only [cl];refine r i (r k ?_);have:=t8 c a.2.1;simp;exact aD 1 0 0 0 1 0 t this (dq _ _)
section
variable {d:List Nat}{aP:List ff}{f:Array Nat}
theorem C8(o:∀(i:Nat) q,aP[i]? =H q->q.2.2=i)(z:cu aP.length f)(A:ep (λi=>cl d (fD aP i)) f aP.length){b:List ff}(h:b.Perm aP)(B:b.Pairwise (p8 d)){i:Nat}(p:i<aP.length):gD b i=bf f i:=by
 have c:b.length=aP.length:=h.length_eq;have C:aP.map (·.2.2)=c8 aP.length:=by
  refine sF (by simp) λa L D=> ?_;rw [sG,qv];have E:a<aP.length:=by simpa using D
  exact o a aP[a] (by simp [E])
 let q:Array Nat:=(b.map (·.2.2)).toArray
 have F:cu aP.length q:=⟨by simp [q,c],by
  refine(?_:(b.map (·.2.2)).Perm _);rw [<-C];exact h.map _⟩
 have g:∀a (s:a<b.length),bf q a=b[a].2.2:=λa s=>by
  unfold bf;simp [q,s]
 have G:ep (λi=>cl d (fD aP i)) q aP.length:=by
  intro a k u v;have j:a<b.length:=cy 1 0 1 0 0 0 1 0 t u v (ao c);have l:k<b.length:=aD 1 0 0 0 1 0 t v (ao c);have I:=yP.mp B a k j l u;have w:∀m (n:m<b.length),fD aP (bf q m)=b[m].2.1:=λm n=>by
   obtain ⟨M,x⟩:=oU.mp (h.mem_iff.mp (List.getElem_mem n));have e:=o M _ x;refine r (g m n) (r e ?_);unfold fD;rw [fv,x];rfl
  refine(?_:cl d (fD aP (bf q a))<cl d (fD aP (bf q k))\/(cl d (fD aP (bf q a))=cl d (fD aP (bf q k))/\bf q a<bf q k));refine r (w a j) (r (w k l) ?_);refine r (g a j) (r (g k l) ?_);exact I
 have K:=B_ z A F G p;have y:i<b.length:=aD 1 0 0 0 1 0 t p (ao c);refine r (uH (q:=b[i]) (by simp [y])) (r (cj (g i y)) ?_);refine r K ?_;rfl
theorem C9(c:∀(i:Nat) q,aP[i]? =H q->q.2.2=i):aP.Pairwise (λa b=>a.2.2<b.2.2):=by
 refine yP.mpr λi d e f g=> ?_;rw [c i aP[i] (by simp [e]),c d aP[d] (by simp [f])];exact g
theorem Lv(k:∀(i:Nat) q,aP[i]? =H q->q.2.2=i)(o:cu aP.length f)(p:ep (λi=>cl d (fD aP i)) f aP.length){i:Nat}(l:i<(aP.filter λq=>decide (cl d q.2.1=0)).length):gD (aP.filter λq=>decide (cl d q.2.1=0)) i=bf f i:=by
 have m:=C9 k;have n:=xD d.reverse (aP.filter λq=> !decide (cl d q.2.1=0));have s:((aP.filter λq=>decide (cl d q.2.1=0))++j7 d.reverse (aP.filter λq=> !decide (cl d q.2.1=0))).Perm aP:=
  (zo _ n).trans (yO (λq:ff=>decide (cl d q.2.1=0)) aP)
 have t:((aP.filter λq=>decide (cl d q.2.1=0))++j7 d.reverse (aP.filter λq=> !decide (cl d q.2.1=0))).Pairwise (p8 d):=by
  rw [List.pairwise_append];refine⟨?_,xT d (m.filter _),λa g b j=> .inl ?_⟩
  ·refine v5 (λ{a b} g j h=> .inr ⟨?_,h⟩) (m.filter _);have c:=(gI.mp g).2;have e:=(gI.mp j).2;simp at c e;refine r c (r e ?_);rfl
  ·have c:=(gI.mp g).2;have e:=(gI.mp (n.mem_iff.mp j)).2;simp at c e;rw [c];exact Nat.pos_of_ne_zero e
 have u:i<aP.length:=bP l (hy _ _);rw [<-C8 k o p s t u];unfold gD;rw [fv,fv,iU l]
end
end
section
open PySem PySem.W PySem.Calls PySem.SeqAt
open PyProof.Rows
noncomputable abbrev fu:List Nat:=el
theorem C_(B:Base g){c:aL}{l:Expr}{m:bX}{n x a o D:Nat}{q:List Nat}{y:Int}{d:cL}{F:ae->Prop}
  (G:∀s w z A x f h i a b k,bF [] (run (cB g u.params 20 s w z J j [(n,aJ [U u.params fu d (E x)]),(x+101,ea (f+101)),(f+101,fZ u.params h i (aj a b) k)] [] []) o q c A (bN (bT l m)) [])=⟨.ret (aj a b),0,[],0,D,[],bG (run (cB g u.params 20 s w z J j [(n,aJ [U u.params fu d (E x)]),(x+101,ea (f+101)),(f+101,fZ u.params h i (aj a b) k)] [] []) o q c A (bN (bT l m)) [])⟩)
  (K:aR g C)(L:I C n (aJ [U u.params fu d (E x)]))(bs:df u.params F C.heap (E x) y a):
  Q u 8 J j c (dR l m) (λv M=>aa g p p C M/\∃d,v=aj a d) a8 C:=by
 refine aw bs (jK λN O h i b k=>f9 λe _ _ P R _=> ?_);injection e with e;have S:x=N:=f7 e;subst S;refine r en (Q.V (ak:=20) (v:=λ_=>aj a b) (a5 t) B K (aK L (aK P (aK R a6))) .nil ba (λT A=>G T C.toks C.gens.size A x O h i a b k) t (λW X _ V _=>⟨V.aE,b,t⟩))
theorem xU(S:Base g){k:fq}{l:bX}{T d B lo dY G ao:Nat}{s:List (Nat×Int×Nat)}{V W X aq ar as:Nat}{Y Z aa:List Nat}(au:k.ifs=[])
  (av:∀(j:List (aL×ap)) w m n A x,bF [0] (run (cB g u.params 20 w m n J j [(d+102,aJ [])] [0] []) V Y (.compLoop k.e 0 (E T) (E d) l) A (cf (cm k.target l (E x))) [])=⟨.next,0,[H (d+102,aJ [U u.params fu m (E x)])],0,aq,[],bG (run (cB g u.params 20 w m n J j [(d+102,aJ [])] [0] []) V Y (.compLoop k.e 0 (E T) (E d) l) A (cf (cm k.target l (E x))) [])⟩)
  (ay:∀(j:List (aL×ap)) w m n A x o D,bF [0] (run (cB g u.params 20 w m n J j [(d+102,aJ [U u.params fu o D])] [0] []) W Z (.compLoop k.e 0 (E T) (E d) l) A (cf (cm k.target l (E x))) [])=⟨.next,0,[H (d+102,aJ [U u.params fu o (E x)])],0,ar,[],bG (run (cB g u.params 20 w m n J j [(d+102,aJ [U u.params fu o D])] [0] []) W Z (.compLoop k.e 0 (E T) (E d) l) A (cf (cm k.target l (E x))) [])⟩)
  (az:∀(j:List (aL×ap)) o w m n A x F ab ac L M ae,bF [] (run (cB g u.params 20 w m n J j [(d+102,aJ [U u.params fu o (E x)]),(x+101,ea (F+101)),(F+101,fZ u.params ab ac (aj L M) ae)] [] []) X aa (.compLoop k.e 0 (E T) (E d) l) A (bN (bT k.elt l)) [])=⟨.ret (aj L M),0,[],0,as,[],bG (run (cB g u.params 20 w m n J j [(d+102,aJ [U u.params fu o (E x)]),(x+101,ea (F+101)),(F+101,fZ u.params ab ac (aj L M) ae)] [] []) X aa (.compLoop k.e 0 (E T) (E d) l) A (bN (bT k.elt l)) [])⟩)
  (aA:∀v,d9 k.target (E T) v=pure ())(aB:(qM k.e 0 (E T) (E d) l).quiet=ag)(aC:cW (.compLoop k.e 0 (E T) (E d) l) []<=4)(aE:s.length<=1000)(K:aR g C)
  (N:B<=T+101)(O:T<d)(af:∀x:Nat,B<=x->g x=J)(aF:I C (d+101) (ah [] 0))(P:I C (d+102) (aJ []))
  (aI:I C (T+101) (b2 (G+101) 0))(aK:I C (G+101) (ah (s.map bg) ao))(aM:G+101<B)(aO:dY<=B)(bs:∀q∈s,df u.params (dL lo dY) C.heap (bg q) q.2.1 q.2.2):
  a4 u 8 J (.compStart k.e 0 (E T) (E d) l) C (iK g u.params B d (s.map bg).length fu (λi p _=>p.length=i/\d7 (gD s) p) C):=by
 refine a4.mono (rV (aG:=λi p C=>(∀q∈s,df u.params (dL lo dY) C.heap (bg q) q.2.1 q.2.2)/\p.length=i/\d7 (gD s) p) (hQ:=fu) aA aB aC (a5 t) (by rw [bM];exact aE) K N O af aF P aI aK aM ⟨bs,t,.nil⟩ ?_ ?_ ?_) ?_
 ·refine λi p C ai=>aT λa b c z=>⟨λq y=>(a q y).mono _ (λx aP ak e=> ?_) (λ_ h=>h),b,c⟩;have:=ak.2;exact z.k' e O (cy 1 0 0 0 0 101 1 101 t this aO N)
 ·intro j i v C al dY K aQ aS;rw [d1]at dY;refine aw (fL.mp dY) (aH λq=>an λy=> ?_);rintro rfl;exact nk S (a5 t) (λR m n A=>av j R m n A q.1) (λR m n A o D=>ay j R m n A q.1 o D) (af _ (aD 0 101 1 0 0 102 t N O)) K aQ aS
 ·refine λj i v o p C dY K=>aT λbs am aU P=> ?_;rw [d1]at dY;refine aw (fL.mp dY) (aH λq=>an λy=> ?_);rintro rfl;refine r au (Q.m_ ?_);rw [if_pos t];refine(C_ S (az j o) K P (bs q (dP y))).mono ?_ (λ_ _ h=>h);refine λv ai=>an λz=>aH λaV=> ?_;rintro rfl;refine⟨z,λq y=>(bs q y).mono _ (λx aP ak e=>z.ax e) (λ_ h=>h),by rw [e9,am];rfl, ?_⟩;have:=aU.snoc (f:=gD s) (i:=i) (bx:=aV) am
  rwa [uH y]at this
 ·refine λaW ai=>aT ?_;rintro rfl;exact λz=>cE λp e al=>an (aT λ_ a b c=>⟨t,z,p,e,al,⟨a,b⟩,c⟩)
theorem Lw:∀v a,d9 k7.target (.ref a) v=pure ():=λ_ _=>by rfl
theorem Lx:∀v a,d9 k8.target (.ref a) v=pure ():=λ_ _=>by rfl
theorem C':∀v a,d9 kd.target (.ref a) v=pure ():=λ_ _=>by rfl
structure la(dj:cZ)(b5:Nat->Option ab)(lo l_ b fy:Nat)(d:List Nat)(a:List (Nat×Int×Nat))(c:Array Nat)(C:ac):Prop where
 gh:8<=a.length
 ki:a.length<=16
 val:∀(i:Nat) q,a[i]? =H q->q.2.2=i
 inj:(a.map (·.1)).Nodup
 l':∀q∈a,df dj.params (dL lo l_) C.heap (bg q) q.2.1 q.2.2
 rY:∃e,I C (fy+101) (ah (a.map bg) e)
 lb:∃e lb,I C (b+101) (ah lb e)/\lb.length=a.length/\d7 (cQ.bf c) lb
 mY:cu a.length c
 uI:ep (λi=>cl d (fD a i)) c a.length
 jw:lo<=fy+101
 iL:fy+101<l_
 oA:lo<=b+101
 oB:b+101<l_
theorem la.only {l:ae->Prop}{lo i m n:Nat}{o:List Nat}{r:List (Nat×Int×Nat)}{s:Array Nat}{j:ac}(h:la u g lo i m n o r s C)(t:aa g l p C j)(v:∀x:Nat,l x->lo<=x->i<=x):la u g lo i m n o r s j:=by
 have k:∀(b:Nat) d,lo<=b->b<i->I C b d->I j b d:=λb d f w e=>t.fr b d e λq=>absurd (v b q f) (gG w);obtain ⟨y,a⟩:=h.rY;refine aw h.lb (bo λz A=>an λb c=> ?_);exact⟨h.gh,h.ki,h.val,h.inj,λq B=>(h.l' q B).mono _ (λb d f e=>k b d f.1 f.2 e) (λ_ f=>f),⟨y,k _ _ h.jw h.iL a⟩,bh z A ⟨k _ _ h.oA h.oB b,c⟩,h.mY,h.uI,h.jw,h.iL,h.oA,h.oB⟩
theorem Ly {a:List (Nat×Int×Nat)}{A:Array Nat}(b:cu a.length A):(A.toList.map λi=>(a.map bg).getD i fx)=(A.toList.map λi=>a.getD i y).map bg:=by
 rw [hX];refine List.map_congr_left λi c=> ?_;have:i<a.length:=mr.mp ((b.perm.mem_iff).mp c);refine(?_:_=bg (a.getD i y));rw [fv,fv,d1,jD this];rfl
theorem Lz {lo h j k:Nat}{e:List Nat}{a:List (Nat×Int×Nat)}{f A:Array Nat}(b:la u g lo h j k e a f C)(c:cu a.length A)(l:ep (λi=>cl e (fD a i)) A a.length){i:Nat}(d:i<a.length):gD (A.toList.map λi=>a.getD i y) i=bf f i:=by
 have m:=B_ b.mY b.uI c l d;have n:=c.lt d;have o:a[bf A i]? =H (a.getD (bf A i) y):=by rw [fv,jD n];rfl
 have p:(A.toList.map λi=>a.getD i y)[i]? =H (a.getD (bf A i) y):=by
  rw [d1,vZ,jj c d];rfl
 refine r (uH p) (r (b.val _ _ o) ?_);refine r m ?_;rfl
theorem LA(L:Base g)(B:ii g u.params)(bj:gf g u.params)(bk:du g u.params)(bl:gu g u.params)(bn:fB g u.params)(bp:∀d<6,∀x,d6 u g d x (λ_=>True))(am:∀x:Nat,101<=x->g x=J)(K:aR g C){bs bt bv bx bA bC bD bE bF bG aL bH Y bI lo f k N aM aP:Nat}{bJ:Array (Option O)}{Z:List (Nat×Nat)}{m:List (Nat×Int×Nat)}{aQ:Array Nat}
  (ap:I C (n+101) (bz (dI u.params bt bv bx bA bC bD [d8 u.params bE bF,eu u.params bG aL,fe u.params bH Y,gz u.params bI (k+2)]) bs bJ))(a:la u g lo (k+101) aL Y (Z.map (·.2)) m aQ C)(P:ox u g lo f k N aM aP Z C)(cq:n+107<lo)(bK:∃S,I C (C.heap.objs.size-1) S):
  Q u 0 J j (cn n) (b7 (bO 12) (bb n)) (λf aU=>f= .next/\aa g (cY [k+101]) p C aU) a8 C:=by
 refine rW (f:=bf aQ) (a5 t) ou (dT (ez ((d' (bO 12)).1)) (iC (bO 12)) ((d' (bO 12)).2.1) (by kernel_rfl)) (by kernel_rfl) (hP λA=> ?_);refine ai.dN λcs bL=> ?_;have ct:=bB ap;have aV:=bB P.ns;obtain ⟨bN,bQ⟩:=a.rY;refine aw a.lb (bo λbR bS=>aT λbT bU bV=> ?_);have:=a.iL;have:=a.jw;have:=a.oB;have bX:k+2+160<C.heap.objs.size:=bB (P.hH.at 15 t);refine l9 (ak:=0) (aW 0) L K (aK ap a6) .nil ba t (cr:=8) (λD=>B 27 _ ..) (λ_=>t) t
  (aG:=λ_ F v G=>∃z aX A,v=E z/\aa g (· =k+101) p F G/\F.heap.objs.size<=z+101/\cu m.length A/\ep (λi=>cl (Z.map (·.2)) (fD m i)) A m.length/\I G (z+101) (ah ((A.toList.map λi=>m.getD i y).map bg) aX)) ?_ ?_
 ·intro D F cv aY ar _ as bY bZ cw;have o:=ar.aE;have b0:xn u g (k+101) (nsFind (tT (m4 u.params (k+2) aP))) (dL lo (k+101)) f k (k+2) N aM Y bN Z m F:=by
   refine⟨o.K,λx s=>bP s.2 (aS (V 102 0 101 0 t aV) o.aZ),λq=>absurd q.2 (eK _),am _ (V 0 0 101 101 t (be _)),H2 (o.ax P.ns),λx s=>o.ax (P.hH x s),λx s e=> ?_,P.l4.mono (λb a0 _ e=>o.ax e) (λ_ h=>h),λq au=>(a.l' q au).mono _ (λb a0 _ e=>o.ax e) (λ_ h=>h),a.inj,o.ax bQ, ?_, ?_, ?_⟩
   ·have U:=oy t x s;rw [e]at U;have cx:k+102<=k+101:=U;exact a2 102 101 t U
   ·intro q;have:Y+101=k+101:=q;lia
   ·refine r as ?_;refine r (show D+0+101=C.heap.objs.size from by refine r aY ?_;rfl) ?_;obtain ⟨S,b2⟩:=bK;exact⟨S,o.ax b2⟩
   ·refine r as ?_;refine(?_:k+101<D+0+101-1);exact cy 163 0 0 101 101 1 102 0 t bX (aB aY) (qs (aW _))
  refine HY (l:=12) L bj bk bl bn bp b0 (a5 t) bY (bm t bZ) (by lia) (dZ (show _<=1600 by lia) (by decide)) (by have:=a.gh;exact V 8 0 2 0 t this) (by have:=a.ki;exact V 0 16 1 64 t this) ?_;intro av A c aU S a1 M ay b3;obtain ⟨z,rfl⟩:∃z,av=z+101:=⟨av-101,by
   have:101<=F.heap.objs.size:=o.K.lo;have U:F.heap.objs.size<=av:=a1;exact(ir (aS this U)).symm⟩
  exact dT z c A ⟨t,S,a1,M,ay,by exact r (cj (Ly M)) b3⟩
 refine λD F G v cz cA b4 ar _ as=>cE λz aX az=>f9 ?_;rintro rfl;intro a3 cB M ay ab;have o:=ar.aE;have aA:aa g (cY [k+101]) p C G:=o.k_ a3 (by rintro x q;simp [show x=k+101 from q]);have ac:(az.toList.map λi=>m.getD i y).length=m.length:=by rw [bM,sU,M.z]
 have b5:=a.only aA (by intro x s ab;have:x∈[k+101]:=s;simp at this;exact(ao this));have b6:C.heap.objs.size<=G.heap.objs.size:=aA.aZ;refine ee (ak:=0) (aW 0) L a3.K (aK ab a6) .nil ba b4 (cr:=8) (br:=8) (λw=>B 28 _ ..) (λ_=>t) t (a5 t)
  (R:=λw aC=>iK g u.params (w+101) (w+1) ((az.toList.map λi=>m.getD i y).map bg).length fu (λi ae _=>ae.length=i/\d7 (gD (az.toList.map λi=>m.getD i y)) ae) aC) ?_ ?_
 ·intro w aC W X af b8;have b9:∀x:Nat,w+101<=x->g x=none:=λx s=>am x (aD 0 0 101 0 101 0 t (be _) s);have b_:=bB ab;refine xU (T:=w) (lo:=lo) (dY:=k+101) L (by kernel_rfl) (λj D N a4 A x=>B 29 _ ..) (λj D N a4 A x aj cC=>B 30 _ ..) (λj aj D N a4 A x cF cG cH cI cJ cL=>B 31 _ ..) (λv=>Lw v _) (by kernel_rfl) (cP (by kernel_rfl)) (by rw [ac];have:=a.ki;exact bm t this) X.K (bw t) (cV 1 1 t) b9
   (af _ _ ci) (af _ _ dK) (af _ _ aO) (X.aE.ax ab) (aD 102 0 0 101 102 101 t b_ (aB W)) (cy 102 0 0 0 0 101 101 101 t aV b6 (aB W)) λq au=> ?_
  refine aw (hx.mp au) (aH λi=>an λaI=> ?_);rintro rfl;have b':i<m.length:=mr.mp ((M.perm.mem_iff).mp aI);refine(b5.l' _ ?_).mono _ (λb a0 _ e=>X.aE.ax e) (λ_ h=>h);rw [fv,jD b'];exact List.getElem_mem _
 refine λw aC ca q cM W cb cc af b8=>aT ?_;rintro rfl;refine λa9=>cE λae cd cN=>bu (an λa_ ce cf cg al=> ?_);rcases al with⟨_,al⟩|⟨aj,v,rfl⟩
 ·rw [bM,ac]at al;have:=a.gh;exact a2 8 0 t (aq 0 0 8 0 (aB al) this)
 have X:=cc.aE;have ch:aa g p p G ca:=(X.zero.trans a9).kg (ew W);refine f4 (ak:=0) (aW 0) L a9.K (aK cg a6) (cK (am _ (V 0 0 101 103 t (be _)))) ba cb (λck=>B 38 _ ..) (λ_=>t) t ?_;intro ck a' cO bc cQ cR;have cm:aa g p p G a':=ch.then bc.bW (λx s=> .inr (by rw [s,W];refine(?_:w+101<=w+103);exact bw t)) aF;have co:=bc.bW.fr _ _ cf (by intro q;have:w+102=w+103:=q;exact a2 103 102 t (ao q));have aJ:aa g (cY [k+101]) p C a':=aA.trans cm.zero;refine(bL _ _ ⟨_,t,hP λcS=> ?_⟩);refine f4 (ak:=0) (aW 0) L aJ.K (aK (aJ.cD ap (by simp;lia)) a6) .nil ba t (λcp=>B 39 _ ..) (λ_=>t) t ?_;intro cp cT cU bd cW cX;have bh:=aJ.trans bd.aE.zero;refine⟨_,t,_,_,ae,bS,cd,bR,t,t,bd.aE.ax co,bh.cD bT (by simp;exact a7 (V 102 101 1 0 t this)), ?_,λi v bi=> ?_,bV,bh⟩
 ·rw [a_,bU,bM,ac]
 ·obtain ⟨aj,rfl⟩:=ce i v bi;have aI:i<m.length:=by
   have:=(g8.mp bi).1;rw [a_,bM,ac]at this;exact this
  refine⟨aj, ?_⟩;refine r (Lz a M ay aI) ?_;rfl
end
section
open PySem PySem.W PySem.Calls PySem.SeqAt
open PyProof.Rows
theorem LB(s:Base g)(l:ii g u.params)(a_:om g u.params)(a':nc g u.params)(bc:du g u.params)(bd:gu g u.params)(bh:fB g u.params)(bi:∀d<6,∀x,d6 u g d x (λ_=>True))(au:∀x:Nat,101<=x->g x=J)(K:aR g C){bj bk bl bn bp bs av bt bv bx ay bA az bC bD lo L bE:Nat}{bF:Array (Option O)}{m:List (Nat×Nat)}{z:List (Nat×Int×Nat)}{aA:Array Nat}
  (P:I C (n+101) (bz (dI u.params bk bl bn bp bs av [d8 u.params bt bv,eu u.params bx ay,fe u.params bA az,gz u.params bC bD]) bj bF))(k:la u g lo L ay az (m.map (·.2)) z aA C)(aC:L<=C.heap.objs.size)(aI:I C (av+101) (ah (m.map λq=>E q.1) bE))(bG:m.length<=3)(aJ:k6 g u.params (dL lo L) C.heap m):
  Q u 0 J j (cn n) (b7 (bO 13) (bb n)) (λf bH=>f= .next/\aa g p p C bH) a8 C:=by
 refine rW (f:=bf aA) (a5 t) ou (dT (ez ((d' (bO 13)).1)) (iC (bO 13)) ((d' (bO 13)).2.1) (by kernel_rfl)) (by kernel_rfl) (hP λA=> ?_);refine ai.dN λck bI=> ?_;have cl:=bB P;obtain ⟨cm,bJ⟩:=k.rY;refine aw k.lb (bo λbK bL=>aT λbN bQ bR=> ?_);have aL:=k.gh;have aM:=k.ki;refine l9 (ak:=0) (aW 0) s K (aK P (aK aI a6)) .nil ba t (cr:=8) (λw=>l 40 _ ..) (λ_=>t) t
  (aG:=λw ae v S=>∃af,v=E af/\aa g p p ae S/\I S (af+101) (ah (m.reverse.map λq=>E q.1) 0)) ?_ ?_
 ·intro w ae co cp U y aQ _ _ _;refine o1 (uz U.K (U.aE.ax aI) (y _ _ aO) .none .none (.int _ _) (by decide) (by rw [bM];exact bm t bG)) ?_ (λ_ _ h=>h);refine λv S=>bu λa b c d=> ?_;rw [krv_pick]at c;rw [aQ]at a c;exact⟨w+1,a,b,by exact r List.map_reverse c⟩
 refine λw ae S v cq cs bS U ct aQ=>aH λaf=>aT ?_;rintro rfl;intro aU bT;have B:=U.aE.trans aU;refine ee (ak:=0) (aW 0) s aU.K (aK (B.ax P) a6) .nil ba bS (cr:=8) (br:=8) (λM=>l 41 _ ..) (λ_=>t) t (a5 t)
  (λM aj bU D bV bX=>Jk (dv:=dL lo L) (dw:=m.reverse) (aP:=z) s a_ a' bc bd bh bi (a5 t) D.K (l 63) (λx y=>bP y.2 (aS aC (aS B.aZ D.aE.aZ))) ⟨λq F=>⟨(aJ.at_ q (List.mem_reverse.mp F)).1,(aJ.at_ q (List.mem_reverse.mp F)).2.mono (λb aV _ e=>D.aE.ax (B.ax e)) (λ_ h=>h)⟩⟩ (λq F=>(k.l' q F).mono _ (λb aV _ e=>D.aE.ax (B.ax e)) (λ_ h=>h)) k.inj (bm t aM) (V 8 0 1 0 t aL) (D.aE.ax (B.ax bJ)) (D.aE.ax bT)) ?_
 refine λM aj al q cu bU bY bZ bV bX=>an λaX=>bo λW cv=>an ?_;rintro rfl;intro X;obtain ⟨W,rfl⟩:∃b0:Nat,b0=W:=⟨W,t⟩;rw [List.map_reverse]at X;have G:=xD (m.map (·.2)).reverse z;have am:=(B.trans bZ.aE).trans aX;have b2:C.heap.objs.size<=al.heap.objs.size:=am.aZ;refine ee (ak:=0) (aW 0) s aX.K (aK X a6) .nil ba bY (cr:=8) (br:=8) (λo=>l 42 _ ..) (λ_=>t) t (a5 t)
  (R:=λM aj=>iK g u.params (M+101) (M+1) ((j7 (m.map (·.2)).reverse z).map bg).length fu (λi Y _=>Y.length=i/\d7 (gD (j7 (m.map (·.2)).reverse z)) Y) aj) ?_ ?_
 ·intro o b3 N ap Z b4;have b5:∀x:Nat,o+101<=x->g x=none:=λx y=>au x (aD 0 0 101 0 101 0 t (be _) y);have b6:=bB X;refine xU (T:=o) (lo:=lo) (dY:=L) s (by kernel_rfl) (λj w aY a0 A x=>l 32 _ ..) (λj w aY a0 A x ab cw=>l 33 _ ..) (λj ab w aY a0 A x cx cz cA W cB cC=>l 34 _ ..) (λv=>Lx v _) (by kernel_rfl) (cP (by kernel_rfl)) (by rw [G.length_eq];exact bm t aM) ap.K (bw t) (cV 1 1 t) b5
   (Z _ _ ci) (Z _ _ dK) (Z _ _ aO) (ap.aE.ax X) (aD 102 0 0 101 102 101 t b6 (aB N)) (cy 0 0 0 0 0 101 0 101 t aC b2 (aB N)) λq F=> ?_
  exact(k.l' q (G.mem_iff.mp F)).mono _ (λb aV _ e=>ap.aE.ax (am.ax e)) (λ_ h=>h)
 refine λo b3 b8 q cD N b9 b_ Z b4=>aT ?_;rintro rfl;refine λa1=>cE λY b' ar=>bu (an λa3 ca cb cc ac=> ?_);rcases ac with⟨_,ac⟩|⟨ab,v,rfl⟩
 ·rw [bM,G.length_eq]at ac;exact a2 8 0 t (aq 8 0 0 0 aL (aB ac))
 have cd:aa g p p al b8:=(b_.aE.zero.trans a1).kg (ew N);refine f4 (ak:=0) (aW 0) s a1.K (aK cc a6) (cK (au _ (V 0 0 101 103 t (be _)))) ba b9 (λce=>l 43 _ ..) (λ_=>t) t ?_;intro ce cf cF ar cG cH;have cg:aa g p p al cf:=cd.then ar.bW (λx y=> .inr (by rw [y,N];refine(?_:o+101<=o+103);exact bw t)) aF;have ch:=ar.bW.fr _ _ cb (by intro q;have:o+102=o+103:=q;exact a2 103 102 t (ao q));have as:=am.trans cg;refine(bI _ _ ⟨_,t,hP λcI=> ?_⟩);refine f4 (ak:=0) (aW 0) s as.K (aK (as.ax P) a6) .nil ba t (λcJ=>l 44 _ ..) (λ_=>t) t ?_;intro cL cM cN a4 cO cQ;have a7:=as.trans a4.aE;refine⟨_,t,_,_,Y,bL,b',bK,t,t,a4.aE.ax ch,a7.ax bN, ?_,λi v a9=> ?_,bR,a7⟩
 ·rw [a3,bQ,bM,G.length_eq]
 ·obtain ⟨ab,rfl⟩:=ca i v a9;have cj:i<z.length:=by
   have:=(g8.mp a9).1;rw [a3,bM,G.length_eq]at this;exact this
  exact⟨ab,by refine r (C8 k.val k.mY k.uI G (xT _ (C9 k.val)) cj) ?_;rfl⟩
end
section
open PySem PySem.W PySem.Calls PySem.SeqAt
open PyProof.Rows
theorem LC(G:Base g)(L:du g u.params){d:Nat}(Y:d<6)(M:∀x,d6 u g d x (λ_=>True)){br:Nat}(N:br<=340){f:ac}(K:aR g C){i:ae->Prop}{a ay O P Q:Nat}{c3:List fU}
  (bs:∀x,i x->x<C.heap.objs.size)(R:∀y∈c3,df u.params i C.heap y.1 y.2.1 y.2.2)(S:I C (ay+101) (dd O P Q)){F l:ae->Prop}{s:Nat->Prop}(T:F (ay+101))(k:cX u g (br+5+5) (eB ay) (fT ay) (c3.map (·.1)) F l s C)(U:∀x,i x->¬l x)(j:aa g p p C f)
  {m v c n V W w z:Nat}(o:C.heap.objs.size=n+101)(A:I f (n+101) (cF u.params w z (E ay) []))(B:I f (n+1+101) (dd C.gens.size V W))(X:f.gens[C.gens.size]? =H (.fresh (fz (cN d) m n a c)))
  (Z:∀y∈fP m v d,i y.1/\I f y.1 y.2):
  cX u g br (eB (n+1)) (fT (n+1)) ((dC d c3).map (·.1)) (h' i n (n+1) F) (ia n l) (gW C.gens.size s) f:=by
 have ab:h_ u g d m v n (n+1) i w z (E ay) c3 f:=by
  refine⟨j.K,λq=> ?_,K.fresh (by rw [o];exact aW _),bA 1 0 t,λx r=>bP (bs x r) j.aZ,λy af=>(R y af).mono u.params (λb ah _ e=>j.fr b ah e (λh=>h)) (λ_ h=>h),Z,⟨[],.inl t,A⟩,dT _ _ _ B⟩;have:=bs _ q;rw [o]at this;exact absurd this (eK _)
 have D:∀x,F x->x<n+101:=λx r=>by have:=k.foot.h5 x r;rw [o]at this;exact this
 exact HA G L Y M N c3 ab B X A (j.ax S) T (k.ext (j.mono aF aF)) U (λq=>absurd (D _ q) (eK _)) (λq=>absurd (D _ (k.foot.lL _ q)) (cx (by refine(?_:n+101<=n+1+101);exact cV 101 102 t))) (λq=>absurd (k.foot.ga _ q) (eK _))
noncomputable def lc(a:List Nat)(b:List fU):List fU:=a.foldl (λc d=>dC d c) b
theorem LD(a:List Nat)(d:Nat)(b:List fU):lc (a++[d]) b=dC d (lc a b):=by
 unfold lc;rw [vD];rfl
theorem LF(a:List Nat):∀(b:List fU),∀y∈lc a b,y∈b:=by
 induction a with
 |nil=>exact λ_ _ h=>h
 |cons d a c=>exact λb y e=>(gI.mp (c _ y e)).1
noncomputable def iM(u:cZ)(g:Nat->Option ab)(n X:ae->Prop)(j ds c:Nat)(d:List (Nat×Int×Nat))(b:List Nat)(v:Nat)(C:ac):Prop:=
 (b=[]/\v=c+101/\∃e,I C (c+101) (ah (d.map bg) e))\/
 (∃a k l m F f h,v=a+101/\I C (a+101) (dd k l m)/\F (a+101)/\cX u g (60+10*(3-b.length)) (eB a) (fT a) ((lc b (d.map ih)).map (·.1)) F f h C/\(∀x:Nat,f x->j<=x)/\(∀x,F x->¬X x)/\(∀i,h i->ds<=i))
theorem LG(w:Base g)(ac:ii g u.params)(N:du g u.params)(aI:fB g u.params)(af:∀d<6,∀x,d6 u g d x (λ_=>True))(O:l<=100)(K:aR g C){i X:ae->Prop}{z ds B m aJ v a d:Nat}{k:List (Nat×Int×Nat)}{f:List Nat}(a_:f.length<3)(Y:d<6)
  (bs:∀x:Nat,i x->x<z)(P:z<=C.heap.objs.size)(aL:ds<=C.gens.size)(D:∀x:Nat,X x->x<C.heap.objs.size)(ah:∀x,i x->¬X x)(aM:¬X (B+101))(aO:I C (m+107) (de (uB (m+106))))(aP:I C (m+106) (uC m aJ))(ai:ic g u.params i C.heap a d)(aj:∀q∈k,df u.params i C.heap (bg q) q.2.1 q.2.2)
  (al:iM u g i X z ds B k f v C):
  a4 u l J (.call (.ref (m+107)) ⟨[.ref v,E a],[]⟩) C λaQ am=>∃ap,aQ= .ok (.ret (.ref ap))/\aa g p p C am/\iM u g i X z ds B k (f++[d]) ap am:=by
 refine a4.c1 λj A=> ?_;obtain ⟨a',_,aT⟩:=ai.fn aI Y;have aU:∀y∈lc f (k.map ih),df u.params i C.heap y.1 y.2.1 y.2.2:=λy Q=>by
  refine aw (hx.mp (LF f _ y Q)) (aH λq=>an λaV=> ?_);rintro rfl;exact aj q aV
 obtain ⟨ay,aX⟩:∃ay,v=ay+101:=by
  rcases al with⟨_,h,_⟩|⟨aq,_,_,_,_,_,_,h,_⟩
  ·exact⟨_,h⟩
  ·exact⟨_,h⟩
 subst aX;refine ee (ak:=200) (bm t O) w K (aK aO (aK aP (aK aT a6))) .nil ba t (cr:=8) (br:=l+8) (λn=>ac 61 _ ..) (λ_=>t) t (aW _)
  (λn G aj c _ aY=>t2 (ay:=ay) w N (V 0 100 8 200 t O) Y c.K (ai.mono (λb a0 _ e=>c.aE.ax e) (λ_ h=>h))) ?_
 refine λn G bb q bc bd a1 a2 _ aY=>an λL=>i7 λbe bf bh o bi bj bk bl=>pk λR=> ?_;rintro rfl;intro ar S as bn bo au;have c:=a2.aE;have av:∀x,i x->x<G.heap.objs.size:=λx T=>bP (bs x T) (aS P c.aZ);have az:∀y∈lc f (k.map ih),df u.params i G.heap y.1 y.2.1 y.2.2:=λy Q=>(aU y Q).mono _ (λb a0 _ e=>c.ax e) (λ_ h=>h);have s:C.heap.objs.size<=o+101:=by rw [<-R];exact c.aZ
 have aA:ds<=G.gens.size:=aS aL c.dH;refine f4 (ak:=200) (bm t O) w L.K a6 .nil ba a1 (λbp=>ac 62 _ ..) (λ_=>t) t ?_;intro bt bu bv a3 _ _;have M:=a3.aE;refine⟨_,t,(c.trans L).trans M,.inr ?_⟩;have aB:=M.ax S;have a7:60+10*(3-f.length)=60+10*(3-(f++[d]).length)+5+5:=by refine r e9 (r yN ?_);refine wh (show f.length<3 by assumption) ?_ ?_ ?_<;>rfl
 refine l2 λZ cz=> ?_;rcases al with⟨rfl,U,e,W⟩|⟨aq,bw,bx,bz,F,bA,bB,U,W,dW,aC,aD,a8,a9⟩<;>refine cz ?_
 ·have:ay=B:=f7 U;subst this;have ab:=t3 (c3:=k.map ih) (br:=60+10*(3-([]++[d]).length)) w N Y (af d Y) (by simp) c.K av az (by rw [xB];exact c.ax W) L R ar S as au;refine nW (o+1) _ _ _ _ _ _ ⟨t,aB,.inr (.inl t),ab.ext (M.mono aF aF), ?_, ?_, ?_⟩
  ·rintro x (q|q)
   ·have:x=o+101:=q;exact cy 0 0 0 101 101 0 0 0 t P s (ao q)
   ·exact q.elim
  ·rintro x (q|q|q|q)
   ·exact ah x q
   ·exact λh=>absurd (D x h) (by refine r q (cx (by refine(?_:_<=o+1+101);exact V 0 101 0 102 t s)))
   ·exact λh=>absurd (D x h) (by exact r q (cx s))
   ·rw [q];exact aM
  ·rintro aG (q|q)
   ·rw [q];exact aA
   ·exact q.elim
 ·have:ay=aq:=f7 U;subst this;rw [a7]at aC;have ab:=LC (c3:=lc f (k.map ih)) (br:=60+10*(3-(f++[d]).length)) w N Y (af d Y) (aS (ey (qp 10 (oR 3 _)) 60) (a5 t)) c.K av az (c.ax W) dW (aC.ext (c.mono aF aF)) (λx T q=>absurd (bs x T) (cx (aD x q))) L R ar S as au;rw [LD];refine nW (o+1) _ _ _ _ _ _ ⟨t,aB,.inr (.inl t),ab.ext (M.mono aF aF), ?_, ?_, ?_⟩
  ·rintro x (q|q)
   ·have:x=o+101:=q;exact cy 0 0 0 101 101 0 0 0 t P s (ao q)
   ·exact aD x q
  ·rintro x (q|q|q|q)
   ·exact ah x q
   ·exact λh=>absurd (D x h) (by refine r q (cx (by refine(?_:_<=o+1+101);exact V 0 101 0 102 t s)))
   ·exact λh=>absurd (D x h) (by exact r q (cx s))
   ·exact a8 x q
  ·rintro aG (q|q)
   ·rw [q];exact aA
   ·exact a9 aG q
theorem iM.ext {j X:ae->Prop}{k ds b v:Nat}{l:List (Nat×Int×Nat)}{m:List Nat}{n:ac}{c:ae->Prop}(h:iM u g j X k ds b l m v C)(d:aa g c p C n)(o:∀x,c x->X x\/C.heap.objs.size<=x)(z:¬X (b+101)):iM u g j X k ds b l m v n:=by
 rcases h with⟨rfl,f,e,a⟩|⟨A,B,D,E,F,G,I,f,a,dW,r,K,s,L⟩
 ·refine .inl ⟨t,f,e,d.fr _ _ a λq=> ?_⟩;rcases o _ q with q|q
  ·exact z q
  ·exact absurd (bB a) (cx q)
 ·have w:∀x,c x->F x->False:=λx i y=>by
   rcases o x i with q|q
   ·exact s x y q
   ·exact absurd (r.foot.h5 x y) (cx q)
  exact .inr (nW A B D E F G I ⟨f,d.fr _ _ a (λq=>w _ q dW),dW,r.ext (d.mono (λx i=> .inl λq=>w x i q) aF),K,s,L⟩)
theorem iM.weak {a X b:ae->Prop}{c ds d v:Nat}{e:List (Nat×Int×Nat)}{f:List Nat}(h:iM u g a X c ds d e f v C)(i:∀x,b x->X x):iM u g a b c ds d e f v C:=by
 rcases h with h|⟨j,k,l,m,F,n,o,p,r,dW,s,t,w,y⟩
 ·exact .inl h
 ·exact .inr (nW j k l m F n o ⟨p,r,dW,s,t,λx z q=>w x z (i x q),y⟩)
theorem LH(V:Base g)(ac:ii g u.params)(bf:om g u.params)(bh:du g u.params)(bi:fB g u.params)(M:∀d<6,∀x,d6 u g d x (λ_=>True))(K:aR g C){af aj al am ap ar S as au av W ay D az aA lo y bj aP aQ:Nat}{aC:Array (Option O)}{s:List (Nat×Nat)}{N:List (Nat×Int×Nat)}{bk:Array Nat}
  (X:I C (n+101) (bz (dI u.params aj al am ap ar S [d8 u.params as au,eu u.params av W,fe u.params ay D,gz u.params az aA]) af aC))(Z:la u g lo y W D (s.map (·.2)) N bk C)(aU:n+107<lo)(bl:y<=C.heap.objs.size)(aV:I C (S+101) (ah (s.map λq=>E q.1) bj))(bN:s.length<=3)(bm:k6 g u.params (dL lo y) C.heap s)
  (bn:lo<=S+101)(bo:I C 96 (co ⟨[.int 121 0,.int 25 0,.ref aP,.int 132 0,.int 15 0,.ref aQ]⟩))(bp:g 96=J)(bs:g (n+101)=J):
  Q u 0 J j (cn n) (b7 (bO 14) (bb n)) (λf z=>f= .next/\aa g (cY [n+101,96]) p C z/\(∃bt,I z 96 (co ⟨bt⟩))/\∃bu P,I z (n+101) (bz (dI u.params aj al am ap ar S [d8 u.params as au,eu u.params av W,fe u.params ay D,gz u.params az aA,p2 u.params bu P]) (af+1) aC)/\
   iM u g (dL lo y) (· =n+101) C.heap.objs.size C.gens.size D N (s.map (·.2)) (P+101) z) a8 C:=by
 refine g0 λA=>ai.dN λbQ bv=> ?_;have bR:=bB X;have bS:=bB aV;obtain ⟨bw,aY⟩:=Z.rY;have bV:=Z.jw;have bc:=Z.iL;have bx:b6 g [((n+101:ae),bz (dI u.params aj al am ap ar S [d8 u.params as au,eu u.params av W,fe u.params ay D,gz u.params az aA]) af aC),(96,co ⟨[.int 121 0,.int 25 0,.ref aP,.int 132 0,.int 15 0,.ref aQ]⟩)] [1]:= .nodup (lC (a:=n+101) (b:=96) (i5 t).symm) (a_ (eo bp) dG);have T:∀x:Nat,lo<=x->x∉ [96]:=λx k=>by simp;exact aX (cy 0 0 108 0 0 0 97 0 t (be _) aU k)
 refine ee (ak:=0) (aW 0) V K (aK X (aK bo a6)) bx ba t (cr:=8) (br:=8) (λm=>ac 45 _ ..) (λ_=>t) t (a5 t)
  (R:=λm U aE G=>∃L,aE= .ok (.ret (.ref L))/\(iM u g (dL lo y) (· =n+101) C.heap.objs.size C.gens.size D N (s.map (·.2)) L G)/\aa g p p U G) ?_ ?_
 ·intro m U aZ aG ab a0;have F:=aG.xR [96] t;have bA:=ab _ _ ci;have a1:=ab _ _ dK;have bC:k6 g u.params (dL lo y) U.heap s:=bm.mono (λb w M e=>F.cD e (T b M.1)) (λ_ h=>h);have bD:∀q∈N,df u.params (dL lo y) U.heap (bg q) q.2.1 q.2.2:=λq B=>(Z.l' q B).mono _ (λb w M e=>F.cD e (T b M.1)) (λ_ h=>h);have bE:s.map (λq:Nat×Nat=>E q.1)=(s.map λq=>q.1+101).map .ref:=by rw [hX];rfl
  have a3:=F.cD aV (T _ bn);rw [bE]at a3;have aI:∀x:Nat,(iH (m+7) x\/x=n+101)->x=m+108\/x=m+109\/x=n+101:=by
   rintro x ((q|q)|q)
   ·exact .inl q
   ·exact .inr (.inl q)
   ·exact .inr (.inr q)
  have a7:∀x:Nat,dL lo y x->¬(iH (m+7) x\/x=n+101):=λx k q=>by
   have X:=k.1;have bT:=k.2;rcases aI x q with q|q|q<;>lia
  have a9:¬(iH (m+7) (D+101)\/D+101=n+101):=λq=>by rcases aI _ q with q|q|q<;>lia
  refine a4.mono (Cb (l:=8) (n:=m+7) (dt:=λi v z=>iM u g (dL lo y) (λx=>iH (m+7) x\/x=n+101) C.heap.objs.size C.gens.size D N ((s.map (·.2)).take i) v z/\k6 g u.params (dL lo y) z.heap s/\(∀q∈N,df u.params (dL lo y) z.heap (bg q) q.2.1 q.2.2)/\I z (m+107) (de (uB (m+106)))/\I z (m+106) (uC m C.toks)/\C.gens.size<=z.gens.size)
   V bf (a5 t) F.K (by refine r a0 ?_;rfl) a1 a3 (F.cD aY (T _ bV)) ?_ ?_ ?_) ?_
  ·intro z o;exact⟨.inl ⟨t,t,bw,o.ax (F.cD aY (T _ bV))⟩,bC.mono (λb w M e=>o.ax e) (λ_ h=>h),λq B=>(bD q B).mono _ (λb w M e=>o.ax e) (λ_ h=>h),o.ax a1,o.ax bA,aS F.dH o.dH⟩
  ·refine λi v G aJ=>f9 λa b c d e f o=> ?_;have a':∀(x:Nat) w,dL lo y x->I G x w->I aJ x w:=λx w k h=>o.fr _ _ h λq=>a7 x k (.inl q);refine⟨a.ext o (λx k=> .inl (.inl k)) a9,b.mono (λx w k h=>a' x w k h) (λ_ h=>h),λq B=>(c q B).mono _ (λx w k h=>a' x w k h) (λ_ h=>h),o.fr _ _ d ?_,o.fr _ _ e ?_,aS f o.dH⟩
   ·rintro (q|q)
    ·have:m+107=m+108:=q;exact a2 108 107 t (ao q)
    ·have:m+107=m+109:=q;exact a2 109 107 t (ao q)
   ·rintro (q|q)
    ·have:m+106=m+108:=q;exact a2 108 106 t (ao q)
    ·have:m+106=m+109:=q;exact a2 109 106 t (ao q)
  ·refine λi v x G k bF bG=>f9 λa b c d e f=> ?_;rw [d1]at k;refine aw (fL.mp k) (aH λq=>an λB=> ?_);rintro rfl;have bU:=(g8.mp B).1;obtain ⟨Y,bH⟩:=b.at_ q (dP B);have bI:((s.map (·.2)).take i)++[q.2]=(s.map (·.2)).take (i+1):=(ov (by rw [d1,B];rfl)).symm;refine(LG V ac bh bi M (a5 t) bF (by rw [mv,bM];lia) Y (λx k=>bP k.2 bl) (aD 0 101 110 0 0 0 t (aB aZ) bG) f (λx k=>by rcases aI x k with q|q|q<;>lia) a7 a9 d e bH c a).mono ?_;refine λaE aJ=>aH λL=>aT ?_;rintro rfl;intro o st;rw [bI]at st;exact⟨L,t,⟨st,b.mono (λx w k h=>o.ax h) (λ_ h=>h),λq B=>(c q B).mono _ (λx w k h=>o.ax h) (λ_ h=>h),o.ax d,o.ax e,aS f o.dH⟩,o⟩
  ·refine λaE G=>aH λL=>aT ?_;rintro rfl;refine an λa _ o=> ?_;rw [bM,yQ (by simp)]at a;exact⟨L,t,a.weak (λx k=> .inr k),o⟩
 refine λm U G q bX aZ bJ aG ab a0=>aH λL=>aT ?_;rintro rfl;intro st aL;have F:=aG.xR [96] t;have bd:aa g (cY [96]) p C G:=F.trans aL.zero;obtain ⟨P,rfl⟩:∃P,L=P+101:=by
  rcases st with⟨_,h,_⟩|⟨bY,_,_,_,_,_,_,h,_⟩
  ·exact⟨_,h⟩
  ·exact⟨_,h⟩
 refine eU (ak:=0) (aW 0) V aL.K (aK (bd.cD X (by simp)) a6) (cK bs) ba bJ (λbK=>ac 46 _ ..) (λ_=>t) t ?_;intro bK aJ bZ aM bL b0;refine(bv _ _ ⟨t,(bd.mono (gQ:=cY [n+101,96]) (λx h=> .inl (vF _ h)) aF).then aM.bW (λx q=> .inl (by rw [show x=n+101 from q];exact .head _)) aF,⟨_,aM.bW.fr _ _ (aL.ax (ab _ _ aO)) (λq:96=n+101=>a2 101 96 t (aq 101 96 0 0 (ao q) (be _)))⟩,_,P,bL _ _ aO,st.ext aM.bW (λx k=> .inl k) (by intro q;have:D+101=n+101:=q;exact a2 209 202 t (aq 108 101 101 101 (aq 108 0 0 101 aU bV) (aB q)))⟩)
end
section
open PySem PySem.W PySem.Calls PySem.SeqAt
open PyProof.Rows
theorem Db:∀(b:List Nat) (a:List ff),lc b (a.map ih)=(a.filter λq=>decide (cl b q.2.1=0)).map ih
 | [],a=>by
  refine(?_:a.map ih=_)
  (refine r (qw.mpr (λq _=>by simp [cl])) ?_;rfl)
 |d::b,a=>by
  refine(?_:lc b (dC d (a.map ih))=_);have e:dC d (a.map ih)=(a.filter λq=> !b' q.2.1 d).map ih:=by
   unfold dC;rw [qx];rfl
  rw [e,Db b,List.filter_filter];congr 1;refine qy λq _=> ?_;simp only [cl];have:=Nat.two_pow_pos b.length;rcases yT (b' q.2.1 d)with h|h<;>simp [h]<;>lia
theorem LI {a:ae}{d:Nat}{e f:cL}(h:I C a (dd d e f))(g:ef)(c af:O->ac->Prop)(i:c (.ref a) C):bD (b1 bH u) g (o6 (.ref a)) c af C:=by
 have b:C.TypeIs (.ref a) "generator":=⟨_,h,t⟩;refine wpAny_pyIter_slot b slot_gen_iter (vQ slot_gen_iter b entry_gen_iter ?_ (args_gen_iter _));refine(?_:bD _ _ (ret (.ref a)) _ _ C);exact cG ⟨_,t,"generator",_,b,vS.lookup,i⟩
theorem LJ(au:Base g){l:fq}{m:bX}{cR z lo dY cg ds:Nat}{bS:List ff}{av ay az aY a0 a1:Nat}{aA aB aC:List Nat}(a3:l.ifs=[])
  (a6:∀(j:List (aL×ap)) L w k A x,bF [0] (run (cB g u.params 20 L w k J j [(z+102,aJ [])] [0] []) av aA (.compLoop l.e 0 (E cR) (E z) m) A (cf (cm l.target m (E x))) [])=⟨.next,0,[H (z+102,aJ [U u.params fu w (E x)])],0,aY,[],bG (run (cB g u.params 20 L w k J j [(z+102,aJ [])] [0] []) av aA (.compLoop l.e 0 (E cR) (E z) m) A (cf (cm l.target m (E x))) [])⟩)
  (a7:∀(j:List (aL×ap)) L w k A x s W,bF [0] (run (cB g u.params 20 L w k J j [(z+102,aJ [U u.params fu s W])] [0] []) ay aB (.compLoop l.e 0 (E cR) (E z) m) A (cf (cm l.target m (E x))) [])=⟨.next,0,[H (z+102,aJ [U u.params fu s (E x)])],0,a0,[],bG (run (cB g u.params 20 L w k J j [(z+102,aJ [U u.params fu s W])] [0] []) ay aB (.compLoop l.e 0 (E cR) (E z) m) A (cf (cm l.target m (E x))) [])⟩)
  (a8:∀(j:List (aL×ap)) s L w k A x X aE aG ac af aI,bF [] (run (cB g u.params 20 L w k J j [(z+102,aJ [U u.params fu s (E x)]),(x+101,ea (X+101)),(X+101,fZ u.params aE aG (aj ac af) aI)] [] []) az aC (.compLoop l.e 0 (E cR) (E z) m) A (bN (bT l.elt m)) [])=⟨.ret (aj ac af),0,[],0,a1,[],bG (run (cB g u.params 20 L w k J j [(z+102,aJ [U u.params fu s (E x)]),(x+101,ea (X+101)),(X+101,fZ u.params aE aG (aj ac af) aI)] [] []) az aC (.compLoop l.e 0 (E cR) (E z) m) A (bN (bT l.elt m)) [])⟩)
  (a9:∀v,d9 l.target (E cR) v=pure ())(a_:(qM l.e 0 (E cR) (E z) m).quiet=ag)(ai:cW (.compLoop l.e 0 (E cR) (E z) m) []<=4)(a':bS.length<=1000)(K:aR g C)
  (aK:∀x:Nat,z+101<=x->g x=J)(ba:I C (z+101) (ah [] 0))(Z:I C (z+102) (aJ [])){bb bc bd:Nat}(ak:I C (cR+101) (dd bb bc bd))
  {F D:ae->Prop}{k:Nat->Prop}(B:cX u g 60 (eB cR) (fT cR) (bS.map bg) F D k C)(dW:∀x:Nat,F x->x<z+101)(O:∀x:Nat,D x->cg<=x)(M:∀y,k y->ds<=y)(be:ds<=C.gens.size)(S:cg<=z+101)(aM:dY<=cg)(bs:∀q∈bS,df u.params (dL lo dY) C.heap (bg q) q.2.1 q.2.2):
  a4 u 8 J (.compStart l.e 0 (E cR) (E z) m) C λq p=>q= .ok .next/\aa g (hO cg) (ds<= ·) C p/\∃G e P,G.length=bS.length/\d7 (gD bS) G/\I p (z+101) (ah G e)/\I p (z+102) P/\((P=aJ []/\bS.length=0)\/∃s v,P=aJ [U u.params fu s v]):=by
 refine nd (LI ak) (a4.c1 λj A=> ?_);have al:z+102<C.heap.objs.size:=bB Z;have bf:oi u g 8 (.compLoop l.e 0 (E cR) (E z) m) (E cR) l.target l.elt l.ifs m z (z+1) bS.length
   (λi p=>C.heap.objs.size<=p.heap.objs.size/\ds<=p.gens.size/\∃F D k,cX u g 60 (eB cR) (fT cR) ((bS.drop i).map bg) F D k p/\(∀x:Nat,F x->x<z+101\/C.heap.objs.size<=x)/\(∀x:Nat,D x->cg<=x)/\(∀y,k y->ds<=y))
   (λi v=>∃q,bS[i]? =H q/\v=bg q) (λx=> @eY Nat _ cg x/\(@LT.lt Nat _ x (z+101)\/@eY Nat _ C.heap.objs.size x)) (ds<= ·)
   (λi G p=>(∀q∈bS,df u.params (dL lo dY) p.heap (bg q) q.2.1 q.2.2)/\G.length=i/\d7 (gD bS) G) (aJ []) (λs v=>aJ [U u.params fu s v]):=by
  refine⟨?_, ?_, ?_, ?_, ?_, ?_, ?_,bA 0 1 t,aK _ (bw t)⟩
  ·refine λj i p dY bE=>aT λT ab=>cE λF D k=>bu λB dW O M=>aw (B.foot.it p (.refl B.foot.K)) (cE λaO bH bI ak=> ?_);have aP:p.TypeIs (E cR) "generator":=⟨_,ak,t⟩;have aQ:∀x:Nat,D x->cg<=x/\(x<z+101\/C.heap.objs.size<=x):=λx n=>⟨O x n,dW x (B.foot.lL x n)⟩;rcases nC dY with q|q
   ·rw [q,List.drop_length]at B;refine Q.next ai aP vS (B.nil.lower (a5 t)) (λR am=>an λo=>aH λe=>aT ?_);rintro rfl;exact aH λbi bj _=> .inr (bh _ bi ⟨t,bj,o.mono (λx n=> .inl (aQ x n)) (λy V=> .inl (M y V)),q⟩)
   ·have Y:(bS.drop i).map bg=bg bS[i]::(bS.drop (i+1)).map bg:=by refine r (sE q) ?_;rfl
    rw [Y]at B;refine Q.next ai aP vS (B.cons.lower (a5 t)) (λR am=>aT λo=> ?_);rintro rfl;refine cE λbk bl bm=>bu λbn bo bp br=> ?_;refine .inl ⟨_,t,o.mono (λx n=> .inl (aQ x n)) (λy V=> .inl (M y V)),q,⟨bS[i],by simp [q],t⟩,aS T o.aZ,aS ab o.dH,bk,bl,bm,br,λx n=> ?_,λx n=> ?_,λy V=> ?_⟩
    ·rcases bn x n with h|h
     ·exact dW x h
     ·exact .inr (aS T h)
    ·rcases bo x n with h|h
     ·exact O x h
     ·have:p.heap.objs.size<=x:=h;exact aD 103 101 0 0 0 0 t (aq 103 101 0 0 (aq 0 101 103 0 S al) T) h
    ·rcases bp y V with h|h
     ·exact M y h
     ·exact aS ab h
  ·refine λi ar am=>aT λT ab=>cE λF D k=>bu λB dW O M o=>⟨aS T o.aZ,aS ab o.dH,F,D,k,B.ext (o.mono (λx n=> .inl λq=> ?_) aF),dW,O,M⟩;rcases n with h|h
   ·have h: @Eq Nat x (z+101):=h;rcases dW _ q with R|R<;>lia
   ·have h: @Eq Nat x (z+1+101):=h;rcases dW _ q with R|R<;>lia
  ·refine λi G ar am=>aT λa b c o=>⟨λq N=>(a q N).mono _ (λx aU aV e=>o.fr x aU e λq=> ?_) (λ_ h=>h),b,c⟩;have:=aV.2;rcases q with h|h|h
   ·have h: @Eq Nat x (z+101):=h;exact a2 102 101 t (aq 102 101 0 0 (aq 101 101 1 0 (aq 0 101 101 0 S (ao h)) this) aM)
   ·have h: @Eq Nat x (z+1+101):=h;exact a2 103 101 t (aq 103 101 0 0 (aq 102 101 1 0 (aq 0 101 102 0 S (ao h)) this) aM)
   ·have:=h.1;lia
  ·refine λj i v ar P dY=>aH λq=>an λN=> ?_;rintro rfl;intro K bt bv;exact nk au (a5 t) (λas w k A=>a6 j as w k A q.1) (λas w k A s W=>a7 j as w k A q.1 s W) (aK _ (cV 101 102 t)) K bt bv
  ·refine λj i v s G ar dY=>aH λq=>an λN=> ?_;rintro rfl;refine λK=>aT λbs aX bz Z=>r a3 (Q.m_ ?_);rw [if_pos t];refine(C_ au (a8 j s) K Z (bs q (dP N))).mono ?_ (λ_ _ h=>h);refine λv p=>an λo=>aH λbC=> ?_;rintro rfl;refine⟨o,λq N=>(bs q N).mono _ (λx aU aV e=>o.ax e) (λ_ h=>h),by rw [e9,aX];rfl, ?_⟩;have:=bz.snoc (f:=gD bS) (i:=i) (bx:=bC) aX
   rwa [uH N]at this
  ·rintro ⟨_,q|q⟩
   ·exact absurd q (eK _)
   ·have:C.heap.objs.size<=z+101:=q;exact a2 103 101 t (aq 103 0 0 101 al q)
  ·rintro ⟨_,q|q⟩
   ·have:z+1+101<z+101:=q;exact a2 103 101 t q
   ·have:C.heap.objs.size<=z+1+101:=q;exact a2 103 102 t (aq 103 0 0 102 al q)
 refine(pV (cC:=C) t a9 a_ ai (a5 t) a' bf bS.length 0 [] C A (by lia) (by simp) ⟨aW _,be,F,D,k,B,λx n=> .inl (dW x n),O,M⟩ ⟨bs,t,.nil⟩ (.refl K) ⟨0,ba⟩ ⟨_,Z,.inl ⟨t,t⟩⟩).mono ?_;rintro (R|_) p
 ·refine aT ?_;rintro rfl;refine λo=>cE λG bD P=>bu ?_;refine aT λ_ a b d f aO=>⟨t,o.mono (λx n=> .inl ?_) (λ_ h=> .inl h),G,bD,P,a,b,d,f,aO⟩;rcases n with h|h|h
  ·refine(?_: @eY Nat _ cg x);have h: @Eq Nat x (z+101):=h;exact aD 0 101 101 0 0 0 t S (ao h)
  ·refine(?_: @eY Nat _ cg x);have h: @Eq Nat x (z+1+101):=h;exact aD 0 101 102 0 0 0 t S (ao h)
  ·exact h.1
 ·exact λh=>h
end
section
open PySem PySem.W PySem.Calls PySem.SeqAt
open PyProof.Rows
noncomputable abbrev g1(a:List Nat)(x:Int):List Bool:=a.map (b' x)
noncomputable def gi(a:List Bool):Bool:= !a.any id
theorem Dc(x:Int):∀a:List Nat,gi (g1 a x)=decide (cl a x=0)
 | []=>by simp [gi,cl]
 |d::a=>by
  have b:=Dc x a;unfold gi g1 at*;simp only [sD,List.any_cons,cl];have:=Nat.two_pow_pos a.length;rcases yT (b' x d)with h|h
  ·simp [h]
  ·simp only [h];simpa using b
theorem cX.lower {d n:Nat}{o:aL}{p:aY->Prop}(q:n<=d):∀{i:List O} {F j:ae->Prop} {k:Nat->Prop} {C:ac},cX u g d o p i F j k C->cX u g n o p i F j k C:=by
 intro i;induction i with
 |nil=>intro F j k C h;exact⟨h.1,λl m=>(h.2 l m).lower q⟩
 |cons _ i r=>
  intro F j k C h;refine⟨h.1,λl m=>((h.2 l m).lower q).mono λ_ _=> ?_⟩;rintro ⟨a,b,s,t,v,c,d,e,f⟩;exact⟨a,b,s,t,v,c,d,e,r f⟩
theorem LK(D:Base g)(k:ii g u.params)(X:∀x:Nat,101<=x->g x=J)(K:aR g C){aZ a0 a1 a3 a4 a7 a9 a_ a' bc aQ bd ar bf bh bi Y lo ab cg ds:Nat}{bj:Array (Option O)}{ac:List Nat}{m:List (Nat×Int×Nat)}{bk:Array Nat}
  (aC:I C (n+101) (bz (dI u.params a0 a1 a3 a4 a7 a9 [d8 u.params a_ a',eu u.params bc aQ,fe u.params bd ar,gz u.params bf bh,p2 u.params bi Y]) aZ bj))(as:la u g lo ab aQ ar ac m bk C)(aU:ab<=cg)(ae:cg<=C.heap.objs.size)(bl:ds<=C.gens.size)(bn:iM u g (dL lo ab) (· =n+101) cg ds ar m ac (Y+101) C):
  Q u 0 J j (cn n) (bT (gw (bO 15)) (bb n)) (λa N=>aa g (hO cg) (ds<= ·) C N/\∃af c e,a= .ref af/\I N af (ah c e)/\c.length=(m.filter λq=>decide (cl ac q.2.1=0)).length/\d7 (gD (m.filter λq=>decide (cl ac q.2.1=0))) c) a8 C:=by
 refine hP λA=> ?_;have bJ:=bB aC;have bo:=as.gh;have aV:=as.ki;refine l2 λZ cz=> ?_;rcases bn with⟨rfl,aG,e,G⟩|⟨bp,bK,bL,bN,F,bP,P,aG,G,dW,au,bs,bQ,bt⟩<;>refine cz ?_
 ·obtain rfl:Y=ar:=f7 aG;have av:(m.filter λq=>decide (cl [] q.2.1=0))=m:=qw.mpr (λq _=>by simp [cl]);refine r av ?_;have aX:=bB G;refine ee (ak:=0) (aW 0) D K (aK aC (aK G a6)) .nil ba t (cr:=8) (br:=8) (λd=>k 50 _ ..) (λ_=>t) t (a5 t)
   (R:=λy l=>iK g u.params (y+101) (y+1) (m.map bg).length fu (λi c _=>c.length=i/\d7 (gD m) c) l) ?_ ?_
  ·intro d ai o s f aH;exact xU (T:=d) (lo:=lo) (dY:=ab) D (by kernel_rfl) (λj y aj P A x=>k 35 _ ..) (λj y aj P A x L bv=>k 36 _ ..) (λj L y aj P A x bw bx bA bC bD bE=>k 37 _ ..) (λv=>C' v _) (by kernel_rfl) (cP (by kernel_rfl)) (bm t aV) s.K (aW _) (cV 1 1 t) (λx f=>X x (aD 0 0 101 0 101 0 t (be _) f))
    (f _ _ ci) (f _ _ dK) (f _ _ aO) (s.aE.ax G) (aD 102 0 0 101 102 101 t aX (aB o)) (cy 0 0 0 0 0 101 0 101 t aU ae (aB o)) λq S=>(as.l' q S).mono _ (λb bF _ e=>s.aE.ax e) (λ_ h=>h)
  refine λd ai aw q bG o ay al bH aH=>aT ?_;rintro rfl;refine λW=>cE λc aI am=>bu (an λaz aL aM aA M=> ?_);rw [bM]at M az;rcases M with⟨_,M⟩|⟨L,v,rfl⟩
  ·exact a2 8 0 t (aq 8 0 0 0 bo (aB M))
  have aP:aa g (hO cg) p C aw:=(al.aE.zero.trans W).mono (λx f=> .inl (aS (aD 0 0 0 101 0 101 t ae (aB o)) f)) aF;refine f4 (ak:=0) (aW 0) D W.K (aK aA a6) (cK (X _ (V 0 0 101 103 t (be _)))) ba ay (λap=>k 51 _ ..) (λ_=>t) t ?_;intro ap l bR w bU bV;refine⟨_,t,(aP.trans (w.bW.xP (b:=cg) (by rintro x q;have:x=d+103:=q;exact cy 0 0 0 101 103 0 0 0 t ae (aB o) (ao q)))).mono (λx h=> .inl h) aF,_,c,aI,t,w.bW.fr _ _ aM (by intro q;have:d+102=d+103:=q;exact a2 103 102 t (ao q)),az,aL⟩
 ·obtain rfl:Y=bp:=f7 aG;have aX:=bB G;rw [Db,xB]at au;generalize av:(m.filter λq=>decide (cl ac q.2.1=0))=B at au;have bI:∀q∈B,q∈m:=λq S=>by rw [<-av]at S;exact(gI.mp S).1
  have bX:B.length<=16:=by exact r (cj av) (aS (hy _ _) aV)
  refine ee (ak:=0) (aW 0) D K (aK aC (aK G a6)) .nil ba t (cr:=8) (br:=8) (λd=>k 47 _ ..) (λ_=>t) t (a5 t)
   (R:=λd ai q N=>q= .ok .next/\aa g (hO cg) (ds<= ·) ai N/\∃c e am,c.length=B.length/\d7 (gD B) c/\I N (d+101) (ah c e)/\I N (d+102) am/\((am=aJ []/\B.length=0)\/∃L v,am=aJ [U u.params fu L v])) ?_ ?_
  ·intro d ai o al f aH;have s:=al.aE;refine LJ (cR:=Y) (z:=d) (lo:=lo) (dY:=ab) (cg:=cg) (ds:=ds) (bS:=B) D (by kernel_rfl) (λj y aj P A x=>k 35 _ ..) (λj y aj P A x L bv=>k 36 _ ..) (λj L y aj P A x bw bx bA bC bD bE=>k 37 _ ..) (λv=>C' v _) (by kernel_rfl) (cP (by kernel_rfl)) (by lia) s.K (λx f=>X x (aD 0 0 101 0 101 0 t (be _) f))
    (f _ _ aO) (f _ _ ci) (s.ax G) (cX.lower (by lia) (au.ext (s.mono aF aF))) (λx f=> ?_) bs bt (aS bl s.dH) (aD 0 0 0 101 0 101 t ae (aB o)) aU λq S=>(as.l' q (bI q S)).mono _ (λb bF _ e=>s.ax e) (λ_ h=>h)
   have: @LT.lt Nat _ x C.heap.objs.size:=au.foot.h5 x f;exact aD 1 0 0 101 1 101 t this (aB o)
  refine λd ai aw q bG o ay al bH aH=>aT ?_;rintro rfl;refine λW=>cE λc aI am=>gs λaz aL aM aA M=> ?_;have aP:aa g (hO cg) (ds<= ·) C aw:=(al.aE.mono aF aF).trans W;have aY:∀l,aa g (· =d+102) p aw l->∃x,(qS (dQ.ret (E d)):bZ)= .ok (.ret x)/\aa g (hO cg) (ds<= ·) C l/\∃af c e,x= .ref af/\I l af (ah c e)/\c.length=B.length/\d7 (gD B) c:=λl w=>
   ⟨_,t,aP.trans (w.mono (λx q=> .inl (by
    have q: @Eq Nat x (d+102):=q;refine(?_: @eY Nat _ cg x);exact cy 0 0 0 101 102 0 0 0 t ae (aB o) (ao q))) aF),_,c,aI,t,w.fr _ _ aM (by intro q;have:d+101=d+102:=q;exact a2 102 101 t (ao q)),az,aL⟩
  rcases M with⟨rfl,M⟩|⟨L,v,rfl⟩
  ·exact f4 (ak:=0) (aW 0) D W.K (aK aA a6) (cK (X _ (V 0 0 101 102 t (be _)))) ba ay (λap=>k 49 _ ..) (λ_=>t) t λap l _ w _ _=>aY l w.bW
  ·exact f4 (ak:=0) (aW 0) D W.K (aK aA a6) (cK (X _ (V 0 0 101 102 t (be _)))) ba ay (λap=>k 48 _ ..) (λ_=>t) t λap l _ w _ _=>aY l w.bW
theorem LL:∀v a,d9 gC.target (.ref a) v=pure ():=λ_ _=>by rfl
noncomputable abbrev Dd:List Nat:=kE
theorem LM {f:ef}{af d:O->ac->Prop}{a:ae}{c:List Bool}{e:Nat}(h:I C a (dx c e))(g:d (.bool (gi c)) C):bD (b1 bH u) f (hz .NotIn (.bool ag) (.ref a)) d af C:=by
 refine notIn_listAt (items:=⟨c.map dS⟩) (λv=>match v with| .bool b=>b==ag|_=>aN) ⟨_,h,t,_,t⟩ (λy i=> ?_) ?_
 ·have j:y∈c.map Value.bool:=by simpa using i
  refine aw (hx.mp j) (aH λb=>an λ_=> ?_);rintro rfl;exact jJ.bool_bool b ag
 ·have:((⟨c.map dS⟩:Array O).any λv=>match v with| .bool b=>b==ag|_=>aN)=c.any id:=by
   refine r (show(⟨c.map dS⟩:Array O)=(c.map dS).toArray from t) (r List.any_toArray ?_);refine r List.any_map ?_;congr 1;funext b;cases b<;>rfl
  exact r this g
theorem LN(o:Base g)(m:ii g u.params)(av:∀x:Nat,101<=x->g x=J)(K:aR g C){aZ a0 a1 a3 a4 a7 a9 a_ ay a' az bc bd bf bg bh bi bj bk:Nat}{bl:Array (Option O)}{e:List (Nat×List Bool)}{B:List O}
  (aA:I C (n+101) (bz (dI u.params a0 a1 a3 a4 a7 a9 [d8 u.params a_ ay,eu u.params a' az,fe u.params bc bd,gz u.params bf bg,p2 u.params bh bi]) aZ bl))(al:I C (ay+101) (ah (e.map λq=>E q.1) bj))(D:∀q∈e,∃f,I C (q.1+101) (dx q.2 f))(bS:1<=e.length)(bn:e.length<=16)(aC:I C (az+101) (ah B bk))(Y:B.length<=500):
  Q u 0 J j (cn n) (bT (j9 (bO 15)) (bb n)) (λa am=>aa g p p C am/\∃aI,a= .ref aI/\I am aI (ah (B.take (e.filter λq=>gi q.2).length) 0)) a8 C:=by
 refine hP λA=>ai.dN λbU bo=> ?_;have bV:=bB aA;have bp:=bB al;have bs:(e.map λq:Nat×List Bool=>E q.1).length=e.length:=bM ..;refine ee (ak:=0) (aW 0) o K (aK aA (aK al a6)) .nil ba t (cr:=8) (br:=8) (λl=>m 52 _ ..) (λ_=>t) t (a5 t)
  (R:=λl P=>iK g u.params (l+101) (l+1) (e.map λq=>E q.1).length Dd (λi S C=>(∀q∈e,∃f,I C (q.1+101) (dx q.2 f))/\S.length=((e.take i).filter λq=>gi q.2).length) P) ?_ ?_
 ·intro l P F ap w bt;have y:=ap.aE;have aJ:∀x:Nat,l+101<=x->g x=none:=λx w=>av x (aD 0 0 101 0 101 0 t (be _) w);have bv:∀q∈e,q.1+101<l+101:=λq k=>by
   obtain ⟨f,h⟩:=D q k;have:=bB h;exact aD 102 0 0 101 102 101 t this (aB F)
  refine rV (T:=l) (hQ:=Dd) (λv=>LL v _) (by kernel_rfl) (cP (by kernel_rfl)) (a5 t) (by lia) y.K (bw t) (cV 1 1 t) aJ (w _ _ ci) (w _ _ dK) (w _ _ aO) (y.ax al) (aD 102 0 0 101 102 101 t bp (aB F))
   ⟨λq k=>by obtain ⟨f,h⟩:=D q k;exact⟨f,y.ax h⟩,t⟩ ?_ ?_ ?_
  ·refine λi S C am=>an λa b bx=>⟨λq k=> ?_,b⟩;obtain ⟨f,h⟩:=a q k;exact⟨f,bx.k' h (cV 1 1 t) (by have:=bv q k;exact this)⟩
  ·intro j i v C U G K L W;rw [d1]at G;refine aw (fL.mp G) (aH λq=>an λk=> ?_);rintro rfl;exact nk o (a5 t) (λM bA bC A=>m 56 _ ..) (λM bA bC A X bX=>m 57 _ ..) (aJ _ (cV 101 103 t)) K L W
  ·refine λj i v X S C G K=>an λD aL aq=> ?_;rw [d1]at G;refine aw (fL.mp G) (aH λq=>an λk=> ?_);rintro rfl;refine r (show gC.ifs=[.Compare (d5 (gC.ifs.headD default)).1 [.NotIn] [(d5 (gC.ifs.headD default)).2] (ez (gC.ifs.headD default))]from by kernel_rfl) (Q.rG (Q.jW ?_ (by kernel_rfl)));refine r en (Q.V (ak:=20) (v:=λ_=> .bool ag) (a5 t) o K (aK aq a6) .nil ba (λar A=>m 58 _ ..) t (λar P _ y _=> ?_));refine Q.V (ak:=20) (v:=λ_=>E q.1) (a5 t) o y.K (aK (y.aE.ax aq) a6) .nil ba (λar A=>m 59 _ ..) t (λM aM _ Z _=> ?_);have s:=y.aE.trans Z.aE;obtain ⟨f,bD⟩:=D q (dP k);refine Q.any (LM (s.ax bD) (Q.jc ?_));have aP:∀q∈e,∃f,I aM (q.1+101) (dx q.2 f):=λq k=>by obtain ⟨f,h⟩:=D q k;exact⟨f,s.ax h⟩
   refine r (ov k) ?_;rewrite [ls];refine r e9 ?_;cases aQ:gi q.2 with
   |true=>
    rw [if_pos t];refine Q.V (ak:=20) (v:=λ_=>E q.1) (a5 t) o s.K (aK (s.ax aq) a6) .nil ba (λar A=>m 60 _ ..) t (λbY N _ z _=> ?_);exact⟨s.trans z.aE,λq k=>by obtain ⟨f,h⟩:=aP q k;exact⟨f,z.aE.ax h⟩,by rw [e9,aL,show [q].filter (λq=>gi q.2)=[q]from by simp [aQ]];rfl⟩
   |false=>
    rw [if_neg (by simp)];exact⟨s,aP,by rw [aL,show [q].filter (λq=>gi q.2)=[]from by simp [aQ]];rfl⟩
 refine λl P aM q bZ F bE ap b0 bt=>aT ?_;rintro rfl;refine λZ=>cE λS b2 U=>bu (an λ_ L bF bG W=> ?_);rcases W with⟨_,W⟩|⟨X,v,rfl⟩
 ·lia
 rw [bs,ms]at L;have s:=(ap.aE.zero.trans Z).kg (ew F);have bH:(e.filter λq=>gi q.2).length<=16:=aS (hy _ _) bn;refine l9 (ak:=0) (aW 0) o Z.K (aK bG a6) (cK (av _ (V 0 0 101 103 t (be _)))) ba bE (cr:=8) (λM=>m 53 _ ..) (λ_=>t) t
  (aG:=λ_ N v aU=>aa g p p N aU/\∃X,v=aj (e.filter λq=>gi q.2).length X) ?_ ?_
 ·intro M N bI _ z _ _ _ _ _;exact r (cj L) (ux z.K (z.bW.fr _ _ bF (by intro q;have:l+102=l+103:=q;exact a2 103 102 t (ao q))) (aD 0 0 0 16 0 1000 t (aB L) bH))
 refine λM N aU b3 b4 b5 bJ z _ b6=>an λaV=>aH λb7=> ?_;rintro rfl;have bK:aa g p p C N:=s.then z.bW (λx w=> .inr (by rw [w,F];refine(?_:l+101<=l+103);exact bw t)) aF;have as:=bK.trans aV;refine l9 (ak:=0) (aW 0) o aV.K (aK (as.ax aC) a6) .nil ba bJ (cr:=8) (λab=>m 54 _ ..) (λ_=>t) t
  (aG:=λab au v ac=>∃ae,v=E ae/\aa g p p au ac/\I ac (ae+101) (ah (B.take (e.filter λq=>gi q.2).length) 0)) ?_ ?_
 ·intro ab au bI bL af bN aX _ _ _;refine o1 (uz af.K (af.aE.ax (as.ax aC)) (bN _ _ aO) .none (.int _ _) .none (by decide) (bm t Y)) ?_ (λ_ _ h=>h);refine λv ac=>bu λa b c d=> ?_;rw [aX]at a c;refine⟨ab+1,a,b, ?_⟩;rw [show(mE ⟨B⟩ J (H (bq (e.filter λq=>gi q.2).length)) J).toList=B.take (e.filter λq=>gi q.2).length from by
   rw [show bq (e.filter λq=>gi q.2).length=(((e.filter λq=>gi q.2).length:Nat):Int)from t,slicePick_upto']]at c
  exact c
 refine λab au ac b8 b9 bL bP af _ aX=>aH λae=>aT ?_;rintro rfl;intro aY bQ;refine f4 (ak:=0) (aW 0) o aY.K a6 .nil ba bP (λbR=>m 55 _ ..) (λ_=>t) t ?_;intro bR b_ b' U _ _;exact(bo _ _ ⟨_,t,((as.trans af.aE).trans aY).trans U.aE,ae+101,t,U.aE.ax bQ⟩)
theorem LO(A:Base g)(B:ii g u.params)(D:∀x:Nat,101<=x->g x=J)(K:aR g C){V W X Y Z ab ac ae o af F ai p aj ak al G lo s cg ds am:Nat}{ap:Array (Option O)}{m:List Nat}{d:List (Nat×Int×Nat)}{L:Array Nat}{e:List (Nat×List Bool)}
  (M:I C (n+101) (bz (dI u.params W X Y Z ab ac [d8 u.params ae o,eu u.params af F,fe u.params ai p,gz u.params aj ak,p2 u.params al G]) V ap))(c:la u g lo s F p m d L C)(ar:n+107<lo)(w:s<=cg)(as:cg<=C.heap.objs.size)(au:ds<=C.gens.size)(av:iM u g (dL lo s) (· =n+101) cg ds p d m (G+101) C)
  (ay:I C (o+101) (ah (e.map λq=>E q.1) am))(az:o+101<cg)(aA:∀q∈e,q.1+101<cg/\∃y,I C (q.1+101) (dx q.2 y))(N:e.map (·.2)=d.map λq=>g1 m q.2.1):
  Q u 0 J j (cn n) (b7 (bO 15) (bb n)) (λf aC=>f= .next/\aa g (hO cg) (ds<= ·) C aC) a8 C:=by
 refine rW (f:=bf L) (a5 t) ou (dT (ez ((d' (bO 15)).1)) (iC (bO 15)) ((d' (bO 15)).2.1) (by kernel_rfl)) (by kernel_rfl) ((LK A B D K M c w as au av).mono ?_ (λ_ _ h=>h));refine λa a0=>an λl=>cE λaE aG z=>bu ?_;rintro rfl;intro aI P aJ;have aK:=c.gh;have R:=c.ki;have aL:=c.jw;have aM:=c.iL;have aO:=c.oB;have S:e.length=d.length:=by
  have:=congrArg iu N;simpa using this
 refine aw c.lb (bo λa1 a2=>aT λaP aQ aS=> ?_);have aU:(e.filter λq=>gi q.2).length=(d.filter λq=>decide (cl m q.2.1=0)).length:=by
  have z:(e.filter λq=>gi q.2).length=((e.map (·.2)).filter gi).length:=by rw [qx,bM];rfl
  rw [z,N,qx,bM];congr 1;exact qy λq _=>Dc _ _
 refine(LN A B D l.K (l.lo M (aD 210 101 0 0 102 0 t (aq 108 101 102 0 (aq 108 0 0 101 ar aL) aM) w)) (l.lo ay az) (λq aV=>by obtain ⟨h,y,aW⟩:=aA q aV;exact⟨y,l.lo aW h⟩) (aD 8 0 0 0 1 0 t aK (ao S)) (aD 0 0 0 16 0 16 t (aB S) R) (l.lo aP (aD 102 0 0 0 102 0 t aO w)) (aD 0 0 0 16 0 500 t (aB aQ) R)).mono ?_ (λ_ _ h=>h);refine λb a3=>an λT=>aH λaX=>an ?_;rintro rfl;intro aY;have a4:(d.filter λq=>decide (cl m q.2.1=0)).length<=d.length:=hy _ _;refine kH aE aX aG _ z 0 ⟨t,t,T.ax aI,aY, ?_,λi v k=> ?_,λi v k=> ?_,l.trans (T.mono aF aF)⟩
 ·rw [P,aU,mv];lia
 ·obtain ⟨aZ,rfl⟩:=aJ i v k;have U:=(g8.mp k).1;rw [P]at U;exact⟨aZ,by refine r (Lv c.val c.mY c.uI U) ?_;rfl⟩
 ·rw [sH]at k;split at k
  ·exact aS i v k
  ·cases k
end
section
open PySem PySem.W PySem.Calls PySem.SeqAt
open PyProof.Rows
noncomputable def xV(u:cZ)(g:Nat->Option ab)(n:Nat)(d:Array (Option O))(e f h i j k l m o q r s t a v w x:Nat)(y:ac)(bV bc:ff)(z A:Nat)(C:ac):Prop:=
 aa g (cY [n+101]) p y C/\∃B D E b F c aM G K L M,I C (n+101) (bz (ed u.params e f h i j k l m o q r s t a v w [eF u.params B x D,f2 u.params F c,f3 u.params E b,gA u.params G A,gB u.params aM z]) K d)/\
  I C (b+101) (cq (a+58) L #[H (bg bV)])/\I C (c+101) (cq (a+58) M #[H (bg bc)])
theorem LP(z:Base g)(P:jv g u.params)(a7:gf g u.params)(K:aR g C){S Z ae af al am an ao ap l ar as au m av f k aw a9 ay az L aA aQ:Nat}{aG:Array (Option O)}{o:List ff}{B:List (Nat×List Bool)}{bV bc:ff}{s v:Nat×List Bool}(aS:g (n+101)=J)
  (a_:I C (n+101) (bz (ed u.params ae af al am an ao ap l ar as au m av (k+2) ay az []) Z aG))(bv:I C (m+101) (ah (o.map bg) aA))(a':gV u.params (f+9) k (k+2) aw a9 C.heap)(bw:I C (l+101) (ah (B.map λq=>E q.1) aQ))
  (bx:o.getLast? =H bV)(bA:o[0]? =H bc)(bC:B.getLast? =H s)(bD:B[0]? =H v)(bE:n+107<m+101)(aT:n+107<l+101)(aI:n+107<k+101):
  Q u 8 J j (i n S) (cm fH.1 (bb n) (aj 0 L)) (λ_ D=>Q u 8 J j (i n S) (b7 (e6 0) (bb n)) (λf T=>f= .next/\Q u 8 J j (i n S) (b7 (e6 1) (bb n)) (λf F=>f= .next/\xV u g n aG ae af al am an ao ap l ar as au m av (k+2) ay az 0 C bV bc s.1 v.1 F) a8 T) a8 D) a8 C:=by
 refine Q.eC (ak:=20) (a5 t) z K (aK a_ a6) (cK aS) ba (λh A=>P 4 n S h C.toks C.gens.size j A Z aG ae af al am an ao ap l ar as au m av (k+2) ay az L) t (λca D cb bF bG=> ?_);have M:=bF.bW;have w:∀{C U:ac} {b:Nat} {bd:ab},aa g (· =n+101) p C U->n+107<b->I C b bd->I U b bd:=λaJ bH e=>aJ.fr _ _ e (by intro q;have q: @Eq Nat _ (n+101):=q;exact a2 108 101 t (aq 108 0 0 101 bH (aB q)));have aU:=bG _ _ aO;have be:=w M bE bv;have aV:gV u.params (f+9) k (k+2) aw a9 D.heap:=λx bf=>w M (bP (V 108 101 108 102 t aI) (oy t x bf)) (a' x bf);have bh:I D (k+2+159) (ej (k+2) aw):=aV.at 14 t;have bI:(o.map bg).getLast? =H (E bV.1):=by simp [bx,bg]
 have bJ:(o.map bg)[0]? =H (E bc.1):=by simp [bA,bg]
 refine g0 λA=>ai.dN λcc bK=> ?_;refine ee (ak:=20) (a5 t) z M.K (aK aU (aK be (aK bh a6))) .nil (aC:=[re 1 (m+101) (o.map bg) aA (D.toks+1) (E bV.1)]) (fk (z5 bI)) t (cr:=8) (br:=16) (λh=>P 5 n S h D.toks D.gens.size j A (Z+1) aG ae af al am an ao ap l ar as au m av (k+2) ay az C.toks L aA bV.1 bc.1 aw (o.map bg)) (λ_=>t) t (a5 t)
  (R:=λh T W F=>∃s,h+1=s/\W= .ok (.ret (E s))/\aa g p p T F/\I F (s+101) (cq (k+2+58) h #[H (bg bV)])) ?_ ?_
 ·intro h T aW aL _ bi;refine(rC z a7 (a5 t) aL.K (bk:=h) (ob aV aL.aE) (by refine r bi ?_;rfl)).mono ?_;exact λW F=>bu λa b c d=>⟨h+1,t,a,b,c⟩
 refine λh T F q cd aW bL aL ce bi=>aH λbM=>bu λbj=> ?_;rintro rfl;intro bl bN;have N:=aL.aE.trans bl;refine ee (ak:=20) (a5 t) z bl.K (aK (N.ax aU) (aK (N.ax be) (aK (N.ax bh) a6))) .nil (aC:=[e0 1 (m+101) (o.map bg) aA 0 L (E bc.1)]) (fk (iB (by decide) bJ)) bL (cr:=8) (br:=16) (λG=>P 6 _ ..) (λ_=>t) t (a5 t)
  (R:=λG aX W X=>∃v,G+1=v/\W= .ok (.ret (E v))/\aa g p p aX X/\I X (v+101) (cq (k+2+58) G #[H (bg bc)])) ?_ ?_
 ·intro G aX bm aM _ bn;refine(rC z a7 (a5 t) aM.K (bk:=G) (ob (ob aV N) aM.aE) (by refine r bn ?_;rfl)).mono ?_;exact λW F=>bu λa b c d=>⟨G+1,t,a,b,c⟩
 refine λG aX X q cf bm bO aM ch bn=>aH λbo=>bu λbR=> ?_;rintro rfl;intro bp bS;have bs:=aM.aE.trans bp;have aY:=N.trans bs;refine eU (ak:=20) (a5 t) z bp.K (aK (aY.ax aU) a6) (cK aS) ba bO (λbT=>P 7 _ ..) (λ_=>t) t ?_;intro bT a0 ci bU bX cj;have Y:=bU.bW;have cg:k+2+160<C.heap.objs.size:=bB (a'.at 15 t);have ck:=bB a_;have a1:=M.aZ;have bY:=N.aZ;have bZ:=w Y (aD 271 202 1 0 108 101 t (aq 271 101 0 101 (aq 271 101 0 0 (aq 108 101 163 0 aI cg) a1) (aB aW)) (aB bj)) (bs.ax bN);have bc:n+107<bo+101:=aD 271 202 1 0 108 101 t (aq 271 101 0 101 (aq 271 101 0 0 (aq 271 101 0 0 (aq 108 101 163 0 aI cg) a1) bY) (aB bm)) (aB bR);have b0:=w Y bc bS;have b2:=bX _ _ aO;have b3:=w Y aT (aY.ax (w M aT bw));have b4:(B.map λq=>E q.1).getLast? =H (E s.1):=by simp [bC]
 have b5:(B.map λq=>E q.1)[0]? =H (E v.1):=by simp [bD]
 refine(bK _ _ ⟨t,g0 λcl=> ?_⟩);refine eU (ak:=20) (a5 t) z Y.K (aK b2 (aK b3 a6)) (b6.head aS (by intro y bt;rw [bQ]at bt;refine r bt ?_;intro q;have q: @Eq Nat (l+101) (n+101):=q;exact a2 209 202 t (aq 108 101 101 101 aT (aB q)))) (aC:=[re 1 (l+101) (B.map λq=>E q.1) aQ (a0.toks+1) (E s.1),e0 1 (l+101) (B.map λq=>E q.1) aQ 0 L (E v.1)]) (λaJ aP=>by
  rcases b8.mp aP with rfl|aP
  ·exact z5 b4
  ·rw [bQ]at aP;subst aP;exact iB (by decide) b5) t (λb9=>P 8 _ ..) (λ_=>t) t ?_
 intro b9 cn co b_ b' cp;have a3:=b_.bW;have a4:∀{C U:ac},aa g (· =n+101) p C U->aa g (cY [n+101]) p C U:=λaJ=>aJ.mono (λx q=> .inl (by rw [show x=n+101 from q];exact .head _)) aF;exact⟨t,((((a4 M).trans aY.zero).trans (a4 Y)).trans (a4 a3)),C.toks,L,X.toks+1,bM,X.toks,bo,a0.toks+3,a0.toks+2,Z+1+2+2,_,_,b' _ _ aO,w a3 (aD 271 202 1 0 108 101 t (aq 271 101 0 101 (aq 271 101 0 0 (aq 108 101 163 0 aI cg) a1) (aB aW)) (aB bj)) bZ,w a3 bc b0⟩
theorem LQ {h:Nat}(S:h<3)(B:Base g)(T:jv g u.params)(bl:gf g u.params)(K:aR g C){U ae af al am an ao ap ar m as au av o aw f k ay bm az aA M aG aX aI bn aJ aY aL a0 aM a1 aP a3:Nat}{aQ:Array (Option O)}{s:List ff}{D:List (Nat×List Bool)}{bV bc:ff}{v w:Nat×List Bool}(a4:g (n+101)=J)
  (bo:I C (n+101) (bz (ed u.params af al am an ao ap ar m as au av o aw (k+2) az aA [eF u.params aI h bn,f2 u.params aL a0,f3 u.params aJ aY,gA u.params aP a3,gB u.params aM a1]) ae aQ))(bJ:I C (o+101) (ah (s.map bg) aG))(bp:gV u.params (f+9) k (k+2) ay bm C.heap)(bK:I C (m+101) (ah (D.map λq=>E q.1) aX))
  (bL:s[h]? =H bV)(bM:s[(h+1)]? =H bc)(bN:D[h]? =H v)(bO:D[(h+1)]? =H w)(bR:n+107<o+101)(a7:n+107<m+101)(aS:n+107<k+101):
  Q u 8 J j (i n U) (cm fH.1 (bb n) (aj (h+1) M)) (λ_ F=>Q u 8 J j (i n U) (b7 (e6 0) (bb n)) (λf W=>f= .next/\Q u 8 J j (i n U) (b7 (e6 1) (bb n)) (λf G=>f= .next/\xV u g n aQ af al am an ao ap ar m as au av o aw (k+2) az aA (h+1) C bV bc v.1 w.1 G) a8 W) a8 F) a8 C:=by
 refine Q.eC (ak:=20) (a5 t) B K (aK bo a6) (cK a4) ba (λl A=>d0 (T 9 n U l C.toks C.gens.size j A ae aQ af al am an ao ap ar m as au av o aw (k+2) az aA aI bn aJ aY aL a0 aM a1 aP a3 M) S) t (λco F cp bS bT=> ?_);have N:=bS.bW;have z:∀{C X:ac} {b:Nat} {bs:ab},aa g (· =n+101) p C X->n+107<b->I C b bs->I X b bs:=λaT bU e=>aT.fr _ _ e (by intro q;have q: @Eq Nat _ (n+101):=q;exact a2 108 101 t (aq 108 0 0 101 bU (aB q)));have a9:=bT _ _ aO;have bt:=z N bR bJ;have a_:gV u.params (f+9) k (k+2) ay bm F.heap:=λx bv=>z N (bP (V 108 101 108 102 t aS) (oy t x bv)) (bp x bv);have bw:I F (k+2+159) (ej (k+2) ay):=a_.at 14 t;have bX:(s.map bg)[h]? =H (E bV.1):=by simp [bL,bg]
 have bY:(s.map bg)[(h+1)]? =H (E bc.1):=by simp [bM,bg]
 refine g0 λA=>ai.dN λcs bZ=> ?_;refine ee (ak:=20) (a5 t) B N.K (aK a9 (aK bt (aK bw a6))) .nil (aC:=[e0 1 (o+101) (s.map bg) aG h (F.toks+1) (E bV.1)]) (fk (iB (by lia) bX)) t (cr:=8) (br:=16) (λl=>d0 (T 10 n U l F.toks F.gens.size j A ae aQ af al am an ao ap ar m as au av o aw (k+2) az aA aI M aJ aY aL a0 aM a1 aP a3 aG bV.1 bc.1 ay (s.map bg)) S) (λ_=>t) t (a5 t)
  (R:=λl W Y G=>∃v,l+1=v/\Y= .ok (.ret (E v))/\aa g p p W G/\I G (v+101) (cq (k+2+58) l #[H (bg bV)])) ?_ ?_
 ·intro l W a' aU _ bx;refine(rC B bl (a5 t) aU.K (bk:=l) (ob a_ aU.aE) (by refine r bx ?_;rfl)).mono ?_;exact λY G=>bu λa b c d=>⟨l+1,t,a,b,c⟩
 refine λl W G q ct a' b0 aU cu bx=>aH λb2=>bu λbA=> ?_;rintro rfl;intro bC b3;have P:=aU.aE.trans bC;refine ee (ak:=20) (a5 t) B bC.K (aK (P.ax a9) (aK (P.ax bt) (aK (P.ax bw) a6))) .nil (aC:=[e0 1 (o+101) (s.map bg) aG (h+1) M (E bc.1)]) (fk (iB (by lia) bY)) b0 (cr:=8) (br:=16) (λL=>d0 (T 11 _ ..) S) (λ_=>t) t (a5 t)
  (R:=λL bd Y be=>∃w,L+1=w/\Y= .ok (.ret (E w))/\aa g p p bd be/\I be (w+101) (cq (k+2+58) L #[H (bg bc)])) ?_ ?_
 ·intro L bd bD aV _ bE;refine(rC B bl (a5 t) aV.K (bk:=L) (ob (ob a_ P) aV.aE) (by refine r bE ?_;rfl)).mono ?_;exact λY G=>bu λa b c d=>⟨L+1,t,a,b,c⟩
 refine λL bd be q cv bD b4 aV cw bE=>aH λbF=>bu λb5=> ?_;rintro rfl;intro bG b9;have bH:=aV.aE.trans bG;have bf:=P.trans bH;refine eU (ak:=20) (a5 t) B bG.K (aK (bf.ax a9) a6) (cK a4) ba b4 (λb_=>d0 (T 12 _ ..) S) (λ_=>t) t ?_;intro b_ b' cx ca cb cy;have Z:=ca.bW;have cg:k+2+160<C.heap.objs.size:=bB (bp.at 15 t);have cz:=bB bo;have bh:=N.aZ;have cc:=P.aZ;have cd:=z Z (aD 271 202 1 0 108 101 t (aq 271 101 0 101 (aq 271 101 0 0 (aq 108 101 163 0 aS cg) bh) (aB a')) (aB bA)) (bH.ax b3);have bc:n+107<bF+101:=aD 271 202 1 0 108 101 t (aq 271 101 0 101 (aq 271 101 0 0 (aq 271 101 0 0 (aq 108 101 163 0 aS cg) bh) cc) (aB bD)) (aB b5);have ce:=z Z bc b9;have cf:=cb _ _ aO;have ch:=z Z a7 (bf.ax (z N a7 bK));have ci:(D.map λq=>E q.1)[h]? =H (E v.1):=by simp [bN]
 have cj:(D.map λq=>E q.1)[(h+1)]? =H (E w.1):=by simp [bO]
 refine(bZ _ _ ⟨t,g0 λcA=> ?_⟩);refine eU (ak:=20) (a5 t) B Z.K (aK cf (aK ch a6)) (b6.head a4 (by intro y bI;rw [bQ]at bI;refine r bI ?_;intro q;have q: @Eq Nat (m+101) (n+101):=q;exact a2 209 202 t (aq 108 101 101 101 a7 (aB q)))) (aC:=[e0 1 (m+101) (D.map λq=>E q.1) aX h (b'.toks+1) (E v.1),e0 1 (m+101) (D.map λq=>E q.1) aX (h+1) M (E w.1)]) (λaT aW=>by
  rcases b8.mp aW with rfl|aW
  ·exact iB (by lia) ci
  ·rw [bQ]at aW;subst aW;exact iB (by lia) cj) t (λck=>d0 (T 13 _ ..) S) (λ_=>t) t ?_
 intro ck cB cC cl cn cD;have bi:=cl.bW;have bj:∀{C X:ac},aa g (· =n+101) p C X->aa g (cY [n+101]) p C X:=λaT=>aT.mono (λx q=> .inl (by rw [show x=n+101 from q];exact .head _)) aF;exact⟨t,((((bj N).trans bf.zero).trans (bj Z)).trans (bj bi)),aI,M,aJ,b2,aL,bF,aM,aP,ae,_,_,cn _ _ aO,z bi (aD 271 202 1 0 108 101 t (aq 271 101 0 101 (aq 271 101 0 0 (aq 108 101 163 0 aS cg) bh) (aB a')) (aB bA)) cd,z bi bc ce⟩
end
section
open PySem PySem.W PySem.Calls PySem.SeqAt
open PyProof.Rows
section
variable {a b:Type}{af:O->ac->Prop}
theorem Q.LR {x:aI O}{a:List (Bool×aI O)}{b:List O->ac->Prop}(h:Q u l Y j c x (λv d=>Q u l Y j c (mF a) (λe f=>b (v::e) f) af d) af C):Q u l Y j c (mF ((aN,x)::a)) b af C:=by
 rw [mF];exact Q.bind (h.mono (λv d g=>Q.bind (Q.pure (Q.bind (Q.hold (g.mono (λe f i=>Q.pure i) λ_ _ h=>h))))) λ_ _ h=>h)
theorem Q.LS {a:List O->ac->Prop}(h:a [] C):Q u l Y j c (mF []) a af C:=Q.pure h
theorem Q.LU {g:Expr}{d:h0}{e:Expr}{pos:ap}{f:bX}{i:O->ac->Prop}(h:Q u l Y j c (dR g f) (λa k=>Q u l Y j c (dR e f) (λb m=>Q u l Y j c (hz d a b) i af m) af k) af C)(n:mD d e=aN):
  Q u l Y j c (dR (.Compare g [d] [e] pos) f) i af C:=
 Q.bind (h.mono (λa q o=>Q.bind (Q.hold (by exact r (yW n) (o.mono (λb s p=>Q.jV (Q.Aa p)) λ_ _ h=>h)))) λ_ _ h=>h)
theorem Q.LV {d:List Expr}{pos:ap}{e:bX}{f:O->ac->Prop}(h:Q u l Y j c (mF (backTo pos (starEach d e))) (λb a=>b.length<=1000/\f (.ref a.heap.objs.size) {a with heap:=a.heap.push (ah b 0)}) af C):Q u l Y j c (dR (.List d pos) e) f af C:=by
 rw [arm_eval_List];refine Q.jV (Q.bind (h.mono ?_ (λ_ _ h=>h)));refine λb a=>an λg i=>Q.any ?_;unfold newList;exact mC i (aS g (show 1000<=lv by decide+kernel))
noncomputable def uJ(a R:c0)(b:List (h0×ap×ap×ap)):List Expr:=b.map λx=> .Compare (.Name a x.2.1) [x.1] [.Name R x.2.2.1] x.2.2.2
theorem xW {m R:c0}{k:bX}{pos:ap}{a b:O}{f:h0->Bool}{cT:ac}(r:∀B q,mD B (.Name R q)=aN)
  (bs:∀C q,aa g p p cT C->Q u l Y j c (dR (.Name m q) k) (λv d=>v=a/\aa g p p C d) a8 C)(s:∀C q,aa g p p cT C->Q u l Y j c (dR (.Name R q) k) (λv d=>v=b/\aa g p p C d) a8 C):
  ∀(e:List (h0×ap×ap×ap)),(∀x∈e,∀C,aa g p p cT C->Q u l Y j c (hz x.1 a b) (λv d=>v= .bool (f x.1)/\aa g p p C d) a8 C)->∀C,aa g p p cT C->
   Q u l Y j c (mF (backTo pos (starEach (uJ m R e) k))) (λw d=>w=e.map (λx=> .bool (f x.1))/\aa g p p C d) a8 C
 | [],_,C,i=>Q.LS ⟨t,.refl i.K⟩
 |x::e,z,C,i=>by
  refine(?_:Q u l Y j c (mF ((aN,dR (.Compare (.Name m x.2.1) [x.1] [.Name R x.2.2.1] x.2.2.2) k)::backTo pos (starEach (uJ m R e) k))) _ _ _);refine Q.LR (Q.LU ?_ (r _ _));refine(bs C _ i).mono ?_ (λ_ _ h=>h);refine λv D=>an ?_;rintro rfl;intro n;refine(s D _ (i.trans n)).mono ?_ (λ_ _ h=>h);refine λK E=>an ?_;rintro rfl;intro o;refine(z x aO E ((i.trans n).trans o)).mono ?_ (λ_ _ h=>h);refine λv F=>an ?_;rintro rfl;intro A;refine(xW r bs s e (λy G=>z y (.tail _ G)) F (((i.trans n).trans o).trans A)).mono ?_ (λ_ _ h=>h);refine λw L=>an ?_;rintro rfl;intro I;exact⟨t,((n.trans o).trans A).trans I⟩
noncomputable def hp:List CmpOp:=[.Lt,.LtE,.Eq,.NotEq,.GtE,.Gt]
noncomputable def nm(i:Nat):List (h0×ap×ap×ap):=(hp.zip (p6 i)).map λx=>(x.1,ez (d5 x.2).1,ez (d5 x.2).2,ez x.2)
theorem De(i:Nat)(h:(p6 i).length=6):(nm i).map (·.1)=hp:=by
 unfold nm;rw [hX];exact List.map_fst_zip (by rw [h];decide)
theorem Df(a:h0)(R:c0)(q:ap):mD a (.Name R q)=false:=by cases a<;>rfl
noncomputable def xX:=0 where
 LW:Str:=⟨⟨[108,101,102,116]⟩⟩
 LX:Str:=⟨⟨[114,105,103,104,116]⟩⟩
 LY:Str:=⟨⟨[111,110,101]⟩⟩
 LZ:Str:=⟨⟨s2⟩⟩
open xX
theorem L0:e6 2=[.Assign [ju 2] (.List (uJ LW LX (nm 2)) (ez (d_ (e6 2) 0))) (iC (e6 2))]:=by kernel_rfl
theorem L1:e6 3=[.Assign [ju 3] (.List (uJ LY LZ (nm 3)) (ez (d_ (e6 3) 0))) (iC (e6 3))]:=by kernel_rfl
theorem L2:ju 2= .Name ⟨⟨[116,111,108,100]⟩⟩ (ez (ju 2)):=by kernel_rfl
theorem L3:ju 3= .Name ⟨⟨[119,97,110,116]⟩⟩ (ez (ju 3)):=by kernel_rfl
theorem Dg {st:List cb}{o:Expr}{x:c0}{s v A:ap}{w:List Expr}{i:bX}{f:List Bool}{a:Nat}(V:Base g)(N:st=[.Assign [o] (.List w v) A])(O:o= .Name x s)
  (h:Q u l Y j c (mF (backTo v (starEach w i))) (λB b=>B=f.map dS/\aa g p p C b) a8 C)(P:f.length<=1000)
  (R:∀b d,aa g p p C b->Q u l Y j c (cm o i (E d)) (λ_ k=>aa g (· =a) p b k/\I k a (a' (E d))) a8 b)(S:a<C.heap.objs.size):
  Q u l Y j c (b7 st i) (λT z=>T= .next/\aa g (cY [a]) p C z/\∃d e,C.heap.objs.size<=d+101/\I z a (a' (E d))/\I z (d+101) (dx f e)) a8 C:=by
 subst O;rw [N,<-jb,<-ts,exec_Assign_Name (env:=i) x s (.List w v) A t];refine Q.jV (Q.bind (Q.LV (h.mono ?_ (λ_ _ h=>h))));refine λB b=>an ?_;rintro rfl;intro m;refine⟨by rw [bM];exact P, ?_⟩;have D:aa g p p b {b with heap:=b.heap.push (ah (f.map dS) 0)}:=aa.push m.K;obtain ⟨d,n⟩:∃d,b.heap.objs.size=d+101:=m.K.size;have F:({b with heap:=b.heap.push (ah (f.map dS) 0)}:ac).heap.get? (d+101)=H (dx f 0):=by
  refine r (cj n) (kA _ t)
 refine r n ?_;generalize ({b with heap:=b.heap.push (ah (f.map dS) 0)}:ac)=k at D F;have G:=m.trans D;have K:=R k d G;rw [<-ja]at K;refine(?_:Q u l Y j c (hZ (.Name x s) i (E d)>>=λ_=>pure dQ.next) _ _ _);refine Q.bind (K.mono ?_ (λ_ _ h=>h));refine λ_ W=>an λL U=> ?_;have M:=m.aZ;exact Q.pure ⟨t,G.k_ L (by rintro y q;simp [show y=a from q]),d,0,aD 0 0 0 101 0 101 t M (aB n),U,L.fr _ _ F (by intro q;have q: @Eq Nat (d+101) a:=q;exact a2 102 101 t (aq 1 101 101 0 (aq 1 0 0 101 (aq 1 0 0 0 S M) (aB n)) (aB q)))⟩
end
open xX
end
open xX
section
open PySem PySem.W PySem.Calls PySem.SeqAt
open PyProof.Rows
section
variable {af:O->ac->Prop}
noncomputable def lf(z:Int):h0->Bool
 | .Lt=>decide (z<0)
 | .LtE=>decide (z<=0)
 | .Eq=>decide (z=0)
 | .NotEq=> !decide (z=0)
 | .GtE=>decide (0<=z)
 | .Gt=>decide (0<z)
 |_=>aN
noncomputable def gE(C:ac)(a:Nat):Prop:=I C a dD\/∃v,I C a (a' v)
theorem gE.ax {a:Nat}{b:ac}{d:Nat->Prop}(h:gE C a)(c:aa g p d C b):gE b a:=h.imp (λh=>c.ax h) (fun⟨v,h⟩=>⟨v,c.ax h⟩)
theorem gE.cD {a:Nat}{b:ac}{c:List Nat}{f:Nat->Prop}(h:gE C a)(d:aa g (cY c) f C b)(e:a∉c):gE b a:=h.imp (λh=>d.cD h e) (fun⟨v,h⟩=>⟨v,d.cD h e⟩)
theorem uK {a:Nat}:cW (i n a) []<=4:=cP (by kernel_rfl)
theorem Q.steps {a:List cb}{b:bX}{d:dQ->ac->Prop}(i:Nat)(g:i<a.length)(h:Q u l Y j c (b7 ((a.drop i).take 1) b) (λf e=>f= .next/\Q u l Y j c (c6 (a.drop (i+1)) b) d af e) af C):Q u l Y j c (c6 (a.drop i) b) d af C:=by
 rw [sE g]at h⊢;refine Q.execs_cons ((Q.wI h).mono ?_ (λ_ _ h=>h));refine λf e=>an ?_;rintro rfl;intro k;exact k
theorem L4(o:Base g)(q:gf g u.params)(U:du g u.params)(W:gu g u.params)(X:fB g u.params)(Z:∀d<6,∀x,d6 u g d x (λ_=>True))(r:l<=100)(ab:cW c []<=4)(K:aR g C){dv:ae->Prop}(bs:∀x,dv x->x<C.heap.objs.size){f k L ac af a b ah ai:Nat}{G:List (Nat×Nat)}{bV bc:ff}(M:l3 u g dv f G C.heap)(s:gV u.params (f+9) k L ac af C.heap)
  (w:I C (a+101) (cq (L+58) ah #[H (bg bV)]))(y:I C (b+101) (cq (L+58) ai #[H (bg bc)]))(aj:bV.1≠bc.1)(ak:df u.params dv C.heap (bg bV) bV.2.1 bV.2.2)(al:df u.params dv C.heap (bg bc) bc.2.1 bc.2.2)(n:h0)(am:n∈hp):
  Q u l J j c (hz n (E a) (E b)) (λv m=>v= .bool (lf (eS (G.map (·.2)) bV.2.1 bc.2.1) n)/\aa g p p C m) a8 C:=by
 refine Q.any ?_;obtain ⟨av,aw,ay⟩:=oh (Y:=J) (l:=l) ab;have an:=M;obtain ⟨⟨N,O,P,R,S,e,ao,_⟩,_⟩:=an;have z:I C (f+9+101) (de (fdOf (gc (jf g u.params f S N O P R).D 10))):=by
  have bc:=(ao (f+110,gc (jf g u.params f S N O P R).D 10) aO).2;rw [(q 18)]at bc;exact bc
 have A:∀m,aa g p p C m->a4 u (l+5+10) J (.call (E (f+9)) ⟨[E bV.1,E bc.1],[]⟩) m λap aq=>aa g p p m aq/\∃ar,ap= .ok (.ret (.int (eS (G.map (·.2)) bV.2.1 bc.2.1) ar)):=λm i=>
  BL (l:=l+5+10) o U W X Z (V 0 100 15 140 t r) (dv:=dv) i.K (λx as=>bP (bs x as) i.aZ) (f:=f) (M.mono (λb T _ e=>i.ax e) (λ_ h=>h)) aj (ak.mono u.params (λb T _ e=>i.ax e) (λ_ h=>h)) (al.mono u.params (λb T _ e=>i.ax e) (λ_ h=>h))
 have B:=xm (G.map (·.2)) bV.2.1 bc.2.1;have F:((di J l).over c []).units+1<cLine:=dZ (show _<=1600 by lia) (by decide);have au:n= .Lt\/n= .LtE\/n= .Eq\/n= .NotEq\/n= .GtE\/n= .Gt:=by simpa [hp]using am
 rcases au with rfl|rfl|rfl|rfl|rfl|rfl
 ·exact G2 (l:=l+5) o q K s w y z B (V 0 100 5 250 t r) A t (by lia) (by lia) F λm i=>⟨t,i⟩
 ·exact G8 (l:=l+5) o q K s w y z B (V 0 100 5 250 t r) A t (by lia) (by lia) F λm i=>⟨t,i⟩
 ·exact G6 (l:=l+5) o q K s w y z B (V 0 100 5 250 t r) A t (by lia) (by lia) F λm i=>⟨t,i⟩
 ·exact Ha (l:=l+5) o q K s w y z B (V 0 100 5 250 t r) A t (by lia) (by lia) F λm i=>⟨t,i⟩
 ·exact G_ (l:=l+5) o q K s w y z B (V 0 100 5 250 t r) A t (by lia) (by lia) F λm i=>⟨t,i⟩
 ·exact G4 (l:=l+5) o q K s w y z B (V 0 100 5 250 t r) A t (by lia) (by lia) F λm i=>⟨t,i⟩
theorem L5(w:l<=400)(z:cW c []<=4)(K:aR g C){a b e f:Nat}{h:List Nat}{x y:Int}(i:I C (a+101) (dx (g1 h x) e))(m:I C (b+101) (dx (g1 h y) f))(d:h0)(A:d∈hp):
  Q u l J j c (hz d (E a) (E b)) (λv B=>v= .bool (lf (eS h x y) d)/\aa g p p C B) a8 C:=by
 refine Q.any ?_;have n:((di J l).over c []).units<cLine:=dZ (dq _ 2) (pY (bm t w) z);have o:(g1 h x).length=(g1 h y).length:=by simp
 have q:=aa.refl K (aV:=p) (L:=p);have e:=uc x h;have f:=uc y h;have s:=t9 h x y;have D:d= .Lt\/d= .LtE\/d= .Eq\/d= .NotEq\/d= .GtE\/d= .Gt:=by simpa [hp]using A
 rcases D with rfl|rfl|rfl|rfl|rfl|rfl
 ·refine pX i m o n (k:=0) (by decide) ⟨congrArg dS ?_,q⟩;show decide _=decide _;rw [e,f];exact decide_eq_decide.mpr ((pU s).1.symm)
 ·refine pX i m o n (k:=1) (by decide) ⟨congrArg dS ?_,q⟩;show decide _=decide _;rw [e,f];exact decide_eq_decide.mpr (Nat.not_lt.symm.trans ((not_congr (pU s).2.2).symm.trans Int.not_lt))
 ·refine Ih i m o n ⟨congrArg dS ?_,q⟩;show decide _=decide _;rw [e,f];exact decide_eq_decide.mpr ((pU s).2.1.symm)
 ·refine pX i m o n (k:=2) (by decide) ⟨congrArg dS ?_,q⟩;show decide _= !decide _;refine r e (r f ?_);rewrite [nK];simp;lia
 ·refine pX i m o n (k:=4) (by decide) ⟨congrArg dS ?_,q⟩;show decide _=decide _;rw [e,f];exact decide_eq_decide.mpr (Nat.not_lt.symm.trans ((not_congr (pU s).1).symm.trans Int.not_lt))
 ·refine pX i m o n (k:=3) (by decide) ⟨congrArg dS ?_,q⟩;show decide _=decide _;rw [e,f];exact decide_eq_decide.mpr ((pU s).2.2.symm)
theorem L6(c:Base g)(d:jv g u.params)(K:aR g C){l e:Nat}(h:gE C (n+105))(f:g (n+105)=J):
  Q u 8 J j (i n l) (cm (ju 2) (bb n) (E e)) (λ_ k=>aa g (· =n+105) p C k/\I k (n+105) (a' (E e))) a8 C:=by
 rcases h with h|⟨v,h⟩
 ·exact Q.eC (ak:=20) (a5 t) c K (aK h a6) (cK f) ba (λm A=>d 24 _ ..) t (λ_ o _ a b=>⟨a.bW,b _ _ aO⟩)
 ·exact Q.eC (ak:=20) (a5 t) c K (aK h a6) (cK f) ba (λm A=>d 25 _ ..) t (λ_ o _ a b=>⟨a.bW,b _ _ aO⟩)
theorem L7(c:Base g)(d:jv g u.params)(K:aR g C){l e:Nat}(h:gE C (n+106))(f:g (n+106)=J):
  Q u 8 J j (i n l) (cm (ju 3) (bb n) (E e)) (λ_ k=>aa g (· =n+106) p C k/\I k (n+106) (a' (E e))) a8 C:=by
 rcases h with h|⟨v,h⟩
 ·exact Q.eC (ak:=20) (a5 t) c K (aK h a6) (cK f) ba (λm A=>d 26 _ ..) t (λ_ o _ a b=>⟨a.bW,b _ _ aO⟩)
 ·exact Q.eC (ak:=20) (a5 t) c K (aK h a6) (cK f) ba (λm A=>d 27 _ ..) t (λ_ o _ a b=>⟨a.bW,b _ _ aO⟩)
theorem L8(y:Base g)(B:jv g u.params)(az:∀x:Nat,101<=x->g x=J)(K:aR g C){D e bK s w:Nat}{z:Int}(ac:z=0\/z=5\/z= -7)(S:I C (n+105) (a' (E e)))(T:I C (e+101) (dx (hp.map (lf z)) s))(V:I C (n+106) (a' (E bK)))(W:I C (bK+101) (dx (hp.map (lf z)) w)):
  Q u 8 J j (i n D) (b7 (e6 4) (bb n)) (λf af=>f= .next/\aa g p p C af) a8 C:=by
 refine rW (f:=id) (a5 t) uK (dT (ez ((d' (e6 4)).1)) (iC (e6 4)) ((d' (e6 4)).2.1) (by kernel_rfl)) (by kernel_rfl) (hP λA=> ?_);have ai:=bB S;have aj:=bB V;have al:=bB T;have am:=bB W;refine ee (ak:=20) (a5 t) y K a6 .nil ba t (cr:=8) (br:=16) (λa=>B 18 _ ..) (λ_=>t) t (a5 t)
  (R:=λa c q k=>q= .ok .next/\aa g (hO (a+101)) p c k/\I k (a+103) (ah [] 0)/\∃M v,I k (a+104) (aJ [U u.params [107] M v])) ?_ ?_
 ·intro a c l m h an;have F:∀x:Nat,a+101<=x->g x=none:=λx h=>K.fresh (by rw [l];exact h);refine nd (pZ (h _ _ aO)) (a4.c1 λj G=> ?_);have L:∀X,b6 g [((a+104:ae),aJ []),(a+102,dn 0 6),(a+103,ah [] 0),(n+105,a' (E e)),(e+101,dx X s),(n+106,a' (E bK)),(bK+101,dx X w)] [0,1,2]:=λ_=>
   .front (b:=a+101) 3 F (pj a (ar:=[104,102,103]) (by decide)) (a_ (bw t) (a_ (bw t) (a_ (bw t) dG))) (a_ (nH ai l) (a_ (nH al l) (a_ (nH aj l) (a_ (nH am l) dG)))) (by decide)
  have aA:∀d k,c.heap.objs.size=d+101->aa g (· ∈c' [((a+104:ae),aJ []),(a+102,dn 0 6),(a+103,ah [] 0),(n+105,a' (E e)),(e+101,dx (hp.map (lf z)) s),(n+106,a' (E bK)),(bK+101,dx (hp.map (lf z)) w)] [0,1,2]) p c k->True:=λ_ _ _ _=>trivial;have N:∀x∈[((a+104:ae),aJ []),(a+102,dn 0 6),(a+103,ah [] 0),(n+105,a' (E e)),(e+101,dx (hp.map (lf z)) s),(n+106,a' (E bK)),(bK+101,dx (hp.map (lf z)) w)],I c x.1 x.2:=
   aK (h _ _ dK) (aK (h _ _ aO) (aK (h _ _ ci) (aK (m.aE.ax S) (aK (m.aE.ax T) (aK (m.aE.ax V) (aK (m.aE.ax W) a6))))))
  rcases ac with rfl|rfl|rfl
  ·refine eU (ak:=40) (a5 t) y m.K N (L _) ba t (λd=>B 20 n D d c.toks c.gens.size j G a e bK s w) (λ_=>t) t ?_;intro d k O o r Y;exact⟨t,o.rT [a+104,a+102,a+103] t (a_ (bw t) (a_ (bw t) (a_ (bw t) dG))),r _ _ ci,_,_,r _ _ aO⟩
  ·refine eU (ak:=40) (a5 t) y m.K N (L _) ba t (λd=>B 21 n D d c.toks c.gens.size j G a e bK s w) (λ_=>t) t ?_;intro d k O o r Y;exact⟨t,o.rT [a+104,a+102,a+103] t (a_ (bw t) (a_ (bw t) (a_ (bw t) dG))),r _ _ ci,_,_,r _ _ aO⟩
  ·refine eU (ak:=40) (a5 t) y m.K N (L _) ba t (λd=>B 19 n D d c.toks c.gens.size j G a e bK s w) (λ_=>t) t ?_;intro d k O o r Y;exact⟨t,o.rT [a+104,a+102,a+103] t (a_ (bw t) (a_ (bw t) (a_ (bw t) dG))),r _ _ ci,_,_,r _ _ aO⟩
 refine λa c k q aB l ap m aC an=>bu ?_;rintro rfl;refine λo aq=>bo λM v as=> ?_;have F:∀x:Nat,a+101<=x->g x=none:=λx h=>K.fresh (by rw [l];exact h);have au:=(m.aE.zero.trans o).kg (ew l);refine f4 (ak:=20) (a5 t) y o.K (aK as a6) (cK (F _ (bw t))) ba ap (λd=>B 22 _ ..) (λ_=>t) t ?_;intro d aD O av aG aH;have P:=av.bW;have aw:=P.fr _ _ aq (by intro q;have:a+103=a+104:=q;exact a2 104 103 t (ao q));refine⟨_,t,hP λaI=> ?_⟩;refine f4 (ak:=20) (a5 t) y P.K a6 .nil ba t (λZ=>B 23 _ ..) (λ_=>t) t ?_;intro Z aL aM ab ay aP;refine⟨_,t,a+103,Z+101,[],[],0,0,t,t,ab.aE.ax aw,ay _ _ aO,t,.nil,.nil,(au.then P (λx h=> .inr (by rw [h,l];show a+101<=a+104;exact bw t)) aF).trans ab.aE⟩
end
end
section
open PySem PySem.W PySem.Calls PySem.SeqAt
open PyProof.Rows
theorem Dh {i:Nat}(h:(p6 i).length=6){x:h0×ap×ap×ap}(a:x∈nm i):x.1∈hp:=by
 rw [<-De i h];exact oV a
theorem Di {i:Nat}(h:(p6 i).length=6)(f:h0->Bool):(nm i).map (λx=>dS (f x.1))=(hp.map f).map Value.bool:=by
 rewrite [<-De i h,hX,hX];rfl
theorem xY(i:Nat):(fH.2.1.drop i).take 1=e6 i:=rfl
theorem Dj:(p6 2).length=6:=by kernel_rfl
theorem Dk:(p6 3).length=6:=by kernel_rfl
theorem p9:fH.2.1.length=5:=by kernel_rfl
theorem L9(m:Base g)(w:jv g u.params)(ai:gf g u.params)(aj:du g u.params)(al:gu g u.params)(am:fB g u.params)(ao:∀d<6,∀x,d6 u g d x (λ_=>True))(P:∀x:Nat,101<=x->g x=J)(K:aR g C){ap aq ar as au av aw ay az aA aB aC aG aH aI f k aJ aL aO aP aQ aU aV aW L aY M aM a0 a1 a2 lo z:Nat}{a3:Array (Option O)}{B:List (Nat×Nat)}{bV bc:ff}{D F a4 a7:Nat}
  (N:I C (n+101) (bz (ed u.params ar as au av aw ay az aA aB aC aG aH aI (k+2) aO aP [eF u.params aU aQ aV,f2 u.params aY M,f3 u.params aW L,gA u.params a0 F,gB u.params aM D]) aq a3))
  (a9:I C (L+101) (cq (k+2+58) a1 #[H (bg bV)]))(a_:I C (M+101) (cq (k+2+58) a2 #[H (bg bc)]))(a':bV.1≠bc.1)(bd:z<=C.heap.objs.size)(bA:n+107<lo)(bf:l3 u g (dL lo z) f B C.heap)(bh:gV u.params (f+9) k (k+2) aJ aL C.heap)
  (bi:df u.params (dL lo z) C.heap (bg bV) bV.2.1 bV.2.2)(bj:df u.params (dL lo z) C.heap (bg bc) bc.2.1 bc.2.2)(bk:I C (D+101) (dx (g1 (B.map (·.2)) bV.2.1) a4))(bl:I C (F+101) (dx (g1 (B.map (·.2)) bc.2.1) a7))(bm:n+107<D+101)(bn:n+107<F+101)
  (W:gE C (n+105))(X:gE C (n+106)):
  Q u 8 J j (i n ap) (c6 (fH.2.1.drop 2) (bb n)) (λf R=>f= .next/\aa g (cY [n+105,n+106]) p C R/\gE R (n+105)/\gE R (n+106)) a8 C:=by
 have bC:=bB N;have bp:n+105<C.heap.objs.size:=W.elim (λh=>bB h) (fun⟨_,h⟩=>bB h);have Y:n+106<C.heap.objs.size:=X.elim (λh=>bB h) (fun⟨_,h⟩=>bB h);refine Q.steps 2 (by rw [p9];decide) ?_;rw [xY];refine Q.mono (Dg (f:=hp.map (lf (eS (B.map (·.2)) bV.2.1 bc.2.1))) (a:=n+105) m L0 L2 ?_ (by rw [bM];decide) ?_ bp) ?_ (λ_ _ h=>h)
 ·rw [<-Di Dj];refine xW (a:=E L) (b:=E M) (cT:=C) (λS q=>Df S _ q) ?_ ?_ (nm 2) ?_ C (.refl K)
  ·intro s q c;exact r en (Q.V (ak:=20) (v:=λ_=>E L) (a5 t) m c.K (aK (c.ax N) a6) .nil ba (λT A=>w 14 _ ..) t (λ_ o _ l _=>⟨t,l.aE⟩))
  ·intro s q c;exact r en (Q.V (ak:=20) (v:=λ_=>E M) (a5 t) m c.K (aK (c.ax N) a6) .nil ba (λT A=>w 15 _ ..) t (λ_ o _ l _=>⟨t,l.aE⟩))
  ·intro x G s c;exact L4 m ai aj al am ao (a5 t) uK c.K (dv:=dL lo z) (λx G=>bP G.2 (aS bd c.aZ)) (bf.mono (λb Z _ e=>c.ax e) (λ_ h=>h)) (ob bh c) (c.ax a9) (c.ax a_) a' (bi.mono _ (λb Z _ e=>c.ax e) (λ_ h=>h)) (bj.mono _ (λb Z _ e=>c.ax e) (λ_ h=>h)) x.1 (Dh Dj G)
 ·intro s br c;exact L6 m w c.K (W.ax c) (P _ (V 0 0 101 105 t (be _)))
 refine λab s=>aT ?_;rintro rfl;refine λy=>bo λbD bE=>aT λbs bt ac=>⟨t,Q.steps 3 (by rw [p9];decide) ?_⟩;rw [xY];have bF:=bB ac;refine Q.mono (Dg (f:=hp.map (lf (eS (B.map (·.2)) bV.2.1 bc.2.1))) (a:=n+106) m L1 L3 ?_ (by rw [bM];decide) ?_ (bP Y y.aZ)) ?_ (λ_ _ h=>h)
 ·rw [<-Di Dk];have ae:=y.cD N (by simp);refine xW (a:=E D) (b:=E F) (cT:=s) (λS q=>Df S _ q) ?_ ?_ (nm 3) ?_ s (.refl y.K)
  ·intro o q c;exact r en (Q.V (ak:=20) (v:=λ_=>E D) (a5 t) m c.K (aK (c.ax ae) a6) .nil ba (λT A=>w 16 _ ..) t (λ_ o _ l _=>⟨t,l.aE⟩))
  ·intro o q c;exact r en (Q.V (ak:=20) (v:=λ_=>E F) (a5 t) m c.K (aK (c.ax ae) a6) .nil ba (λT A=>w 17 _ ..) t (λ_ o _ l _=>⟨t,l.aE⟩))
  ·intro x G o c;exact L5 (a5 t) uK c.K (c.ax (y.cD bk (by simp;exact aX (V 108 101 5 0 t bm)))) (c.ax (y.cD bl (by simp;exact aX (V 108 101 5 0 t bn)))) x.1 (Dh Dk G)
 ·intro o br c;exact L7 m w c.K ((X.cD y (by simp)).ax c) (P _ (V 0 0 101 106 t (be _)))
 refine λab o=>aT ?_;rintro rfl;refine λl=>bo λbK bG=>aT λbH af bu=>⟨t,Q.steps 4 (by rw [p9];decide) ?_⟩;rw [xY];have ah:=l.cD bt (by simp);refine(L8 m w P l.K (xm _ _ _) ah (l.cD ac (by simp;exact aX (aD 107 0 0 101 6 0 t Y bs))) af bu).mono ?_ (λ_ _ h=>h);refine λab bI=>an ?_;rintro rfl;intro U;refine⟨t, ?_⟩;have bv:fH.2.1.drop (4+1)=[]:=vC (ew p9);refine r bv (Q.execs_nil ⟨t, ?_,.inr ⟨_,U.ax ah⟩,.inr ⟨_,U.ax af⟩⟩);have bw:aa g (cY [n+105,n+106]) p C s:=y.mono (λx h=> .inl (by have h:x∈[n+105]:=h;refine(?_:x∈[n+105,n+106]);simp at h;simp [h])) aF;have bx:aa g (cY [n+105,n+106]) p s o:=l.mono (λx h=> .inl (by have h:x∈[n+106]:=h;refine(?_:x∈[n+105,n+106]);simp at h;simp [h])) aF;exact(bw.trans bx).trans U.zero
end
section
open PySem PySem.W PySem.Calls PySem.SeqAt
open PyProof.Rows
noncomputable def xZ {a:Type}(b:List a)(d:a):Nat->a
 |0=>b.getLast?.getD d
 |c+1=>b.getD c d
theorem L_:∀v a,d9 fH.1 (.ref a) v=pure ():=λ_ _=>by rfl
structure kj(dj:cZ)(b5:Nat->Option ab)(n lo l_ fy h5 f k d g:Nat)(c:List (Nat×Nat))(a:List ff)(b:List (Nat×List Bool))(C:ac):Prop where
 gh:8<=a.length
 inj:(a.map (·.1)).Nodup
 m8:∀q∈a,df dj.params (dL lo l_) C.heap (bg q) q.2.1 q.2.2
 Dl:∃e,I C (fy+101) (ah (a.map bg) e)
 uL:gV dj.params (f+9) k (k+2) d g C.heap
 l4:l3 dj b5 (dL lo l_) f c C.heap
 Dm:∃e,I C (h5+101) (ah (b.map λq=>E q.1) e)
 p_:∀q∈b,n+107<q.1+101/\∃h,I C (q.1+101) (dx q.2 h)
 rZ:b.map (·.2)=a.map λq=>g1 (c.map (·.2)) q.2.1
 cg:n+107<lo
 jw:n+107<fy+101
 iL:n+107<h5+101
 oA:n+107<k+101
 oB:l_<=C.heap.objs.size
theorem kj.only {lo m o r f k s v:Nat}{w:List (Nat×Nat)}{y:List ff}{z:List (Nat×List Bool)}{l:ac}(h:kj u g n lo m o r f k s v w y z C)(A:aa g (cY [n+101,n+105,n+106]) p C l):kj u g n lo m o r f k s v w y z l:=by
 have d:∀{b:Nat} {c:ab},n+107<b->I C b c->I l b c:=λi e=>A.cD e (by simp;exact⟨aX (V 108 0 102 0 t i),⟨aX (V 108 0 106 0 t i),aX (V 108 0 107 0 t i)⟩⟩);have E:=h.cg;have F:=h.oA;obtain ⟨G,a⟩:=h.Dl;obtain ⟨K,b⟩:=h.Dm;have B:∀(x:ae) c,dL lo m x->I C x c->I l x c:=λx c i e=>d (b:=x) (by have:=i.1;exact aD 108 0 0 0 108 0 t E this) e;exact⟨h.gh,h.inj,λq j=>(h.m8 q j).mono _ B (λ_ h=>h),⟨G,d h.jw a⟩,λx D=>d (bP (V 108 101 108 102 t F) (oy t x D)) (h.uL x D),h.l4.mono B (λ_ h=>h),⟨K,d h.iL b⟩,λq j=>⟨(h.p_ q j).1,by obtain ⟨L,e⟩:=(h.p_ q j).2;exact⟨L,d (h.p_ q j).1 e⟩⟩,h.rZ,h.cg,h.jw,h.iL,h.oA,aS h.oB A.aZ⟩
noncomputable def x0(u:cZ)(n a:Nat)(c:Array (Option O))(d e f g h i j k l m o p q r s t b:Nat)(C:ac):Prop:=
 match b with
 |0=>I C (n+101) (bz (ed u.params d e f g h i j k l m o p q r s t []) a c)
 |b+1=>∃v w x y z A aM B D E a,I C (n+101) (bz (ed u.params d e f g h i j k l m o p q r s t [eF u.params v b w,f2 u.params z A,f3 u.params x y,gA u.params D E,gB u.params aM B]) a c)
theorem kk {b:Type}{a:List b}{d:b}{i:Nat}(h:i<a.length):a[i]? =H (a.getD i d):=by rw [fv,jD h];rfl
theorem Dn {c:Type}{b:List c}{d:c}(h:0<b.length):b.getLast? =H (b.getLast?.getD d):=by
 cases b with
 |nil=>simp at h
 |cons a b=>refine r List.getLast?_cons ?_;rfl
section
variable {T al D bL F bU G L N s P S U z W f k ah cH X Z lo ae:Nat}{af:Array (Option O)}{dw:List (Nat×Nat)}{aP:List ff}{o:List (Nat×List Bool)}
theorem L'(h:Base g)(l:jv g u.params)(m:gf g u.params)(K:aR g C)(p:g (n+101)=J)(a:kj u g n lo ae z s f k ah cH dw aP o C){b v:Nat}(d:b<4)(bs:x0 u n al af D bL F bU G L N s P S U z W (k+2) X Z b C):
  Q u 8 J j (i n T) (cm fH.1 (bb n) (aj b v)) (λ_ w=>Q u 8 J j (i n T) (b7 (e6 0) (bb n)) (λf x=>f= .next/\Q u 8 J j (i n T) (b7 (e6 1) (bb n)) (λf A=>f= .next/\xV u g n af D bL F bU G L N s P S U z W (k+2) X Z b C (xZ aP y b) (aP.getD b y) (xZ o (0,[]) b).1 (o.getD b (0,[])).1 A) a8 x) a8 w) a8 C:=by
 obtain ⟨B,q⟩:=a.Dl;obtain ⟨E,r⟩:=a.Dm;have c:=a.gh;have e:o.length=aP.length:=by
  have:=congrArg iu a.rZ;simpa using this
 cases b with
 |zero=>exact LP h l m K p bs q a.uL r (Dn (V 8 0 1 0 t c)) (kk (V 8 0 1 0 t c)) (Dn (aD 8 0 0 0 1 0 t c (ao e))) (kk (aD 8 0 0 0 1 0 t c (ao e))) a.jw a.iL a.oA
 |succ b=>
  refine aw bs (i7 λI M O R Y aa aM ab=>cE λac ai ak bs=> ?_);exact LQ (sv d) h l m K p bs q a.uL r (kk (aD 2 4 8 0 1 0 t d c)) (kk (aD 2 4 8 0 2 0 t d c)) (kk (cy 2 4 8 0 0 0 1 0 t d c (ao e))) (kk (cy 2 4 8 0 0 0 2 0 t d c (ao e))) a.jw a.iL a.oA
noncomputable def oC(m:Nat):Nat->Nat
 |0=>m-1
 |a+1=>a
theorem Ma:∀{m a:Nat},8<=m->a<m->oC m a<m/\oC m a≠a
 |_,0,h,b=>⟨oS b (by decide),aX (bP (by decide) (Nat.sub_le_sub_right h 1))⟩
 |_,a+1,_,b=>⟨Nat.lt_of_succ_lt b,a7 (sx a)⟩
theorem Do {b:Type}{ar:List b}{d:b}{a m:Nat}(c:ar.length=m):xZ ar d a=ar.getD (oC m a) d:=by
 subst c;cases a with
 |zero=>refine(?_:ar.getLast?.getD d=ar.getD (ar.length-1) d);rw [yL,fv]
 |succ a=>rfl
theorem kj.node(a:kj u g n lo ae z s f k ah cH dw aP o C){i:Nat}(b:i<aP.length):df u.params (dL lo ae) C.heap (bg (aP.getD i y)) (aP.getD i y).2.1 (aP.getD i y).2.2:=a.m8 _ (dP (kk b))
theorem kj.row(a:kj u g n lo ae z s f k ah cH dw aP o C){i:Nat}(c:i<aP.length):n+107<(o.getD i (0,[])).1+101/\∃b,I C ((o.getD i (0,[])).1+101) (dx (g1 (dw.map (·.2)) (aP.getD i y).2.1) b):=by
 have j:o.length=aP.length:=by
  have:=congrArg iu a.rZ;simpa using this
 have h:o[i]? =H (o.getD i (0,[])):=kk (aD 1 0 0 0 1 0 t c (ao j));obtain ⟨l,b,m⟩:=a.p_ _ (dP h);have p:(o.getD i (0,[])).2=g1 (dw.map (·.2)) (aP.getD i y).2.1:=by
  have e:=congrArg (λq:List (List Bool)=>q[i]?) a.rZ;simp only [d1,h,kk (d:=y) c,Option.map_some]at e;injection e
 exact⟨l,b,by exact r (cj p) m⟩
theorem Mb(Y:Base g)(aJ:jv g u.params)(a':hi g u.params)(aW:gf g u.params)(bc:du g u.params)(bd:gu g u.params)(bf:fB g u.params)(aK:∀d<6,∀x,d6 u g d x (λ_=>True))(aL:∀x:Nat,101<=x->g x=J){O:ac}(aY:kj u g n lo ae z s f k ah cH dw aP o O)(bg:O.heap.objs.size<=T+101):∀(m c:Nat) (C:ac) (A:ap),c+m=4->aa g (cY [n+101,n+105,n+106]) p O C->I C (T+101) (dn (bq c) (bq (4-c)))->
  x0 u n al af D bL F bU G L N s P S U z W (k+2) X Z c C->gE C (n+105)->gE C (n+106)->n+107<T+101->
   ai u 8 J j (i n T) A (bI (i n T)) [] C (ei λbh aO=>bh= .ok .next/\aa g (cY [n+101,n+105,n+106]) p O aO):=by
 intro m;induction m using vt with
 |ind m bi=>
  intro c C A bQ aZ bj bs bk bl l;refine(?_:ai u 8 J j (i n T) A (bI (.forLoop fH.1 (E T) fH.2.1 fH.2.2 (bb n))) [] C _);refine ai.for (aG:=λbm aO=>∀K,ai u 8 J j (i n T) K (.pure bm) [] aO _) ?_ (λ_ K _ h=>h K);refine(rK (n:=4) Y a' uK (a5 t) aZ.K (by lia) (aL _ (V 0 0 101 101 t (be _))) bj).mono ?_ (λ_ _ h=>h);refine λv w=>an λam bn=> ?_;have aQ:aa g (cY [n+101,n+105,n+106]) p O w:=aZ.then am (λx bo=> .inr (by rw [show x=T+101 from bo];exact bg)) aF;have M:∀{b:Nat} {a0:ab},b<T+101->I C b a0->I w b a0:=λaK e=>am.fr _ _ e (by intro q;have q: @Eq Nat _ (T+101):=q;exact a2 102 101 t (aq 1 101 101 0 aK (ao q)));cases v with
  |none=>
   intro K;refine ai.again _ (by kernel_rfl) (eU (ak:=20) (a5 t) Y am.K a6 .nil ba t (λa1=>aJ 3 n T a1 w.toks w.gens.size j K) (λ_=>t) t ?_);intro a1 a3 _ bp _ _;exact⟨t,aQ.trans bp.aE.zero⟩
  |some v=>
   obtain ⟨a4,⟨br,rfl⟩,bt⟩:=bn;refine(?_:Q u 8 J j (i n T) (d9 fH.1 (E T) (aj c br)) _ _ w);rw [L_];refine Q.pure (r ja ?_);have aR:=aY.only aQ;have bv:x0 u n al af D bL F bU G L N s P S U z W (k+2) X Z c w:=by
    cases c with
    |zero=>exact M (V 108 101 102 101 t l) bs
    |succ c=>
     refine aw bs (i7 λas au av ax ay az aM bw=>cE λaA bx aB bs=> ?_);exact gr as au av ax ay az aM bw (dT aA bx aB (M (V 108 101 102 101 t l) bs))
   have a7:=aR.gh;have bA:o.length=aP.length:=by
    have:=congrArg iu aR.rZ;simpa using this
   refine(L' Y aJ aW am.K (aL _ (V 0 0 101 101 t (be _))) aR a4 bv).mono ?_ (λ_ _ h=>h);intro _ a3 bB;refine(?_:Q u 8 J j (i n T) (c6 (fH.2.1.drop 0) (bb n)) _ _ a3);refine Q.steps 0 (by rw [p9];decide) (bB.mono ?_ (λ_ _ h=>h));refine λ_ bR=>an ?_;rintro rfl;intro aS;refine⟨t,Q.steps 1 (by rw [p9];decide) (aS.mono ?_ (λ_ _ h=>h))⟩;refine λ_ R=>aT ?_;rintro rfl;refine λaC=>i7 λas au av ax ay az aM aA=>cE λaB bS bT=>aT λbC a8 bD=>⟨t, ?_⟩;have bE:aa g (cY [n+101,n+105,n+106]) p w R:=aC.mono (λx h=> .inl (by have h:x∈[n+101]:=h;refine(?_:x∈[n+101,n+105,n+106]);simp at h;simp [h])) aF;have aU:=aQ.trans bE;have B:=aY.only aU;have aH:c<aP.length:=aD 1 4 8 0 1 0 t a4 a7;have aI:oC aP.length c<aP.length/\oC aP.length c≠c:=Ma a7 aH;rw [Do (ar:=aP) t]at a8;have a9:I R (n+101) (bz (ed u.params D bL F bU G L N s P S U z W (k+2) X Z [eF u.params as c au,f2 u.params ay az,f3 u.params av ax,gA u.params aA (o.getD c (0,[])).1,gB u.params aM (o.getD (oC aP.length c) (0,[])).1]) aB af):=by
    exact r (cj (Do bA)) bC
   obtain ⟨bF,bV,aS⟩:=B.row aI.1;obtain ⟨bG,bW,bH⟩:=B.row aH;have bJ:(aP.getD (oC aP.length c) y).1≠(aP.getD c y).1:=λe=>aI.2 (py B.inj (a:=(aP.getD c y).1) (by rw [d1,kk (d:=y) aI.1,<-e];rfl) (by rw [d1,kk (d:=y) aH];rfl));have bK:gE R (n+105):=gE.cD (C:=w) (bk.imp (λh=>M (V 108 101 106 101 t l) h) (fun⟨v,h⟩=>⟨v,M (V 108 101 106 101 t l) h⟩)) aC (by simp);have bM:gE R (n+106):=gE.cD (C:=w) (bl.imp (λh=>M (V 108 101 107 101 t l) h) (fun⟨v,h⟩=>⟨v,M (V 108 101 107 101 t l) h⟩)) aC (by simp);refine(L9 Y aJ aW bc bd bf aK aL aU.K a9 a8 bD bJ B.oB B.cg B.l4 B.uL (B.node aI.1) (B.node aH) aS bH bF bG bK bM).mono ?_ (λ_ _ h=>h);refine λ_ a_=>bu ?_;rintro rfl;intro aV bN bO;intro K;refine ai.again _ (by kernel_rfl) ?_;have bP:aa g (cY [n+101,n+105,n+106]) p R a_:=aV.mono (λx h=> .inl (vF _ h)) aF;refine bi (m-1) (by lia) (c+1) a_ K (by lia) (aU.trans bP) ?_ (gr as au av ax ay az aM _ (dT aA _ aB (aV.cD a9 (by simp)))) bN bO l;exact aV.cD (aC.cD bt (by simp;exact aX (V 108 101 1 0 t l))) (by simp;exact⟨aX (V 108 101 5 0 t l),aX (V 108 101 6 0 t l)⟩)
theorem Mc(c:Base g)(e:jv g u.params)(r:hi g u.params)(v:gf g u.params)(w:du g u.params)(y:gu g u.params)(B:fB g u.params)(E:∀d<6,∀x,d6 u g d x (λ_=>True))(M:∀x:Nat,101<=x->g x=J)(K:aR g C)(O:kj u g n lo ae z s f k ah cH dw aP o C)
  (Y:I C (n+101) (bz (dI u.params D bL F bU G L [d8 u.params N s,eu u.params P S,fe u.params U z,gz u.params W (k+2),p2 u.params X Z]) al af))(ab:I C (n+105) dD)(ac:I C (n+106) dD)(ai:n+107<C.heap.objs.size):
  Q u 0 J j (cn n) (b7 (bO 16) (bb n)) (λf aj=>f= .next/\aa g (cY [n+101,n+105,n+106]) p C aj) a8 C:=by
 refine g0 λA=> ?_;refine ee (ak:=0) (aW 0) c K a6 .nil ba t (cr:=8) (br:=8) (λb=>e 1 _ ..) (λ_=>t) t (a5 t)
  (R:=λb h am l=>am= .ok .next/\aa g (cY [n+101,n+105,n+106]) p C l) ?_ ?_
 ·intro b h i ao ap aq;have a:=ao.aE;exact a4.c1 λj A=>Mb c e r v w y B E M O (T:=b+1) (V 0 101 0 102 t (aB i)) 4 0 h A t a.zero (ap _ _ aO) (a.ax Y) (.inl (a.ax ab)) (.inl (a.ax ac)) (aD 108 0 0 101 108 102 t ai (aB i))
 refine λb h l q au i ar a av aq=>an ?_;rintro rfl;intro m;refine eU (ak:=0) (aW 0) c m.K a6 .nil ba ar (λaw=>e 2 _ ..) (λ_=>t) t ?_;intro ay az _ as _ _;exact⟨t,m.trans as.aE.zero⟩
end
end
section
open PySem PySem.W PySem.Calls
noncomputable def fg(u:cZ)(l:Nat)(Y:Option O)(e:List bX)(c:aL)(C:ac)(R:bZ->ac->Prop):Prop:=
 ∀a A,a.code=c->a.Below (di Y l)->eX a.below=e->∃b d,dB (b1 bH u) a A (bI c) [] C (.ret b) d/\R b d
section
variable {gj:List bX}{a b:Type}
theorem fg.c1 {R:bZ->ac->Prop}(h:∀j A,eX j=gj->ai u l Y j c A (bI c) [] C (ei R)):fg u l Y gj c C R:=λa A b d f=>by
 refine aw (h a.below A f a b d t) (bo λe g=>aT λi _ q=> ?_);cases e with
 |ret k=>exact bh k g ⟨i,q⟩
 |susp=>cases q
theorem fg.mono {R cJ:bZ->ac->Prop}(h:fg u l Y gj c C R)(d:∀a b,R a b->cJ a b):fg u l Y gj c C cJ:=λe A f g i=>by
 refine aw (h e A f g i) (bo λa b=>an λj q=> ?_);exact bh a b ⟨j,d a b q⟩
theorem a4.toF {R:bZ->ac->Prop}(h:a4 u l Y c C R):fg u l Y gj c C R:=λa A b d _=>h a A b d
theorem fg.lower {a:Nat}{R:bZ->ac->Prop}(h:fg u a Y gj c C R)(b:l<=a):fg u l Y gj c C R:=λd A e f=>h d A e (nY b f)
theorem ai.Md {b:aL}{a i:Option O}{o:Bool}{p:List O}{k:bZ->aI b0}{f:Nat}{R:bZ->ac->Prop}(ok:cw w=ag)(E:jG a=ag)
  (F:dp (l+cW c w) f=ag)(G:i=a.or (fw w (Y,Y)).1)(I:fg u f i (c.envs++(eX (w.map cU)++eX j)) b C R)
  (x:∀g h,R g h->ai u l Y j c A (k g) w h B):ai u l Y j c A (.call b a o p k) w C B:=λd m r s=>by
 have v:=iy r w ok;rw [m]at v;have n:=v.enter b a A (q' E);have K:((d.over w).enter b a A).Below (di i f):=by
  have L:=jP c w;have M:=jQ c w;have z:l+cW c w<=f:=cP F;refine⟨?_, ?_,(λp N=>by cases N),(λo P=>by cases P), ?_⟩
  ·rw [n.1,G];rfl
  ·have q:gm ((d.over w).enter b a A).below<=301+l+gm (w.map cU)+c.weight:=n.2.1;exact mL q L z
  ·have q:fK ((d.over w).enter b a A).below<=4+3*l+fK (w.map cU)+c.cUnits:=n.2.2.2.2;exact pl q M z
 have Q:eX ((d.over w).enter b a A).below=c.envs++(eX (w.map cU)++eX j):=by
  refine(?_:eX ((d.code,A)::(w.map cU++d.below))=_);rw [envsOf_cons,envsOf_append,m,s]
 refine aw (I ((d.over w).enter b a A) A t K Q) (bo λg S=>an λD T=> ?_);refine aw (x g S T d m r s) (bo λe h=>an λU V=> ?_);rw [<-hA]at D;exact bh e h ⟨jH (λ_ _ y=> .call D y) U,V⟩
noncomputable def Me(Y:Option O)(l:Nat)(c:aL)(gj:List bX):Around:={(di Y l).over c []with frames:=H (c.envs++gj)}
theorem Q.anyF {m:aI a}{e:a->ac->Prop}{af:O->ac->Prop}(g:eX j=gj)(h:bD (b1 bH u) (Me Y l c gj) m e af C):Q u l Y j c m e af C:=λi A f k n=>by
 have b:=iy k [] t;rw [f]at b;refine h i A ⟨b.1,b.2.1,λo d=> ?_,b.2.2.2.1,b.2.2.2.2⟩;injection d with d;refine r f (r n ?_);refine r g (r (cj d) ?_);rfl
theorem ai.Dp {d:List cb}{c:bX}{aG:dQ->ac->Prop}{af:O->ac->Prop}(h:Q u l Y j (.func d c) (c6 d c) aG af C)
  (k:∀m b,aG m b->B (.ret (.ok (.ret (pv m)))) b)(e:∀x b,af x b->Q u l Y j (.func d c) (lx c x) (λ_ i=>B (.ret (.error x)) i) a8 b):ai u l Y j (.func d c) A (bI (.func d c)) [] C B:=by
 rw [z7];refine ai.rg (aG:=aG) (af:=λx i=>B (.ret (.error x)) i) ?_ (λa r b s=>ai.done (.ok (.ret (pv a))) (k a b s)) (λa r b t=>ai.done (.error a) t);refine Q.bind ?_;intro g A n o p;refine(?_:gJ _ g (aI.point _ _) _ _ A C);rw [vW,aI.wp_pure];refine Q.onRaise (h.mono (λ_ _ q=>q) λx b f=> ?_);have:=e x b f;intro g A n o p;exact nM _ g _ (λ_ _ _ h=>h) (λ_ _ _ h=>h.elim) _ _ (this g A n o p)
theorem Mf(e:Expr)(a:bX):bI (.expr e a)=((do point;(dR e a).onRaise (lx a))>>=λv=>ret v):=by
 refine r (cj hA) ?_;rfl
theorem ai.Mg {e:Expr}{c:bX}{aG af:O->ac->Prop}(h:Q u l Y j (.expr e c) (dR e c) aG af C)
  (k:∀v b,aG v b->B (.ret (.ok (.ret v))) b)(o:∀x b,af x b->Q u l Y j (.expr e c) (lx c x) (λ_ g=>B (.ret (.error x)) g) a8 b):ai u l Y j (.expr e c) A (bI (.expr e c)) [] C B:=by
 rw [Mf];refine ai.rg (aG:=aG) (af:=λx g=>B (.ret (.error x)) g) ?_ (λa p b r=>ai.done (.ok (.ret a)) (k a b r)) (λa p b s=>ai.done (.error a) s);refine Q.bind ?_;intro d A i m n;refine(?_:gJ _ d (aI.point _ _) _ _ A C);rw [vW,aI.wp_pure];refine Q.onRaise (h.mono (λ_ _ q=>q) λx b f=> ?_);have:=o x b f;intro d A i m n;exact nM _ d _ (λ_ _ _ h=>h) (λ_ _ _ h=>h.elim) _ _ (this d A i m n)
theorem ai.Dq {e:Expr}{g:O}{m n:List cb}{d:bX}{aG:b0->ac->Prop}{af:O->ac->Prop}
  (h:Q u l Y j c (hY g) (λo p=>match o with
   |none=>aG (.again (.block n d)) p
   |some v=>Q u l Y j c (d9 e g v) (λ_ s=>Q u l Y j c (hZ e d v) (λ_ t=>Q u l Y j c (c6 m d) (λf i=>match f with
    | .next| .cont=>aG (.again (.forLoop e g m n d)) i
    | .brk=>aG (.done .next) i
    | .ret v=>aG (.done (.ret v)) i) af t) af s) af p) a8 C)
  (x:∀f w b,aG f b->ai u l Y j c w (.pure f) [] b B)
  (E:∀y b,af y b->Q u l Y j c (do iY y d;qE y) (λ_ q=>B (.ret (.error y)) q) a8 b):ai u l Y j c A (bI (.forLoop e g m n d)) [] C B:=by
 rw [Ac];refine ai.ofFin (aG:=aG) (af:=λy q=>B (.ret (.error y)) q) (Q.onRaise (Q.mono (aG:=aG) (af:=af) ?_ (λ_ _ h=>h) (λy b h=> ?_))) x (λa w b h=>ai.done (.error a) h)
 ·unfold forTurn;refine Q.bind ?_;intro r A x y z;rw [sR];refine Q.bind (aG:=aG) (af:=af) (Q.onRaise (h.mono (λo p D=> ?_) (λ_ _ h=>h.elim)));cases o with
  |none=>
   refine(?_:Q u l Y j c (PySem.again _) _ _ _);exact Q.pure D
  |some v=>
   refine Q.bind (D.mono (λ_ s F=>Q.bind (F.mono (λ_ t G=>Q.bind (G.mono (λf i k=> ?_) λ_ _ h=>h)) λ_ _ h=>h)) λ_ _ h=>h);cases f with
   |next=>exact Q.pure k
   |cont=>exact Q.pure k
   |brk=>exact Q.pure k
   |ret v=>exact Q.pure k
 ·have:=E y b h;intro r A I K L;exact nM _ r _ (λ_ _ _ h=>h) (λ_ _ _ h=>h.elim) _ _ (this r A I K L)
end
noncomputable def x1:Obj:={cls:= .none,data:= .freed}
noncomputable def ij(h:aY):List Nat->aY
 | []=>h
 |a::b=>(ij h b).update a λ_=>x1
theorem oD {h:aY}:∀{c:List Nat} {b:Nat},b∉c->(ij h c).get? b=h.get? b
 | [],_,_=>rfl
 |a::c,b,d=>by
  unfold ij;rw [qQ _ _ (λe:a=b=>d (by exact r e (.head _)))];exact oD λq=>d (.tail _ q)
theorem Mh {h:aY}{a:Nat}:(h.update a λ_=>x1).get? a=none:=by
 cases q:(h.update a λ_=>x1).get? a with
 |none=>rfl
 |some e=>
  have b:=aY.get?_some_iff.mp q;exfalso;obtain ⟨f,g⟩:=h;simp only [aY.update,zd,if_true]at b;obtain ⟨c,d⟩:=b;refine aw (fL.mp c) (aH λx=>an λ_=> ?_);rintro rfl;exact absurd d (by decide)
theorem x2 {h:aY}:∀{c:List Nat} {b:Nat},b∈c->(ij h c).get? b=J
 |a::c,b,d=>by
  unfold ij
  by_cases e:a=b
  ·subst e;exact Mh
  ·rw [qQ _ _ e];rcases b8.mp d with q|q
   ·exact absurd q.symm e
   ·exact x2 q
noncomputable def iN(M:Nat)(v:O):Obj:={cls:= .type "RuntimeError",data:= .fields ⟨[.ref M,v,.none,.none,.bool aN,.none]⟩}
theorem Mi {M:Nat}{v x:O}:gK (·.setIfInBounds 1 x) (iN M v)=iN M x:=rfl
theorem Mj {a b c e x:O}{d:List O}:gK (·.setIfInBounds 3 x) (gZ a b c e d)=gZ a b c x d:=by
 have:(⟨a::b::c::e::d⟩:Array O).setIfInBounds 3 x=⟨a::b::c::x::d⟩:=by
  simp [Array.setIfInBounds]
 refine(?_:{gZ a b c e d with data:= .fields ((⟨a::b::c::e::d⟩:Array O).setIfInBounds 3 x)}=_);refine r this ?_;rfl
noncomputable def g2(a:aY)(c:List bX)(e M:Nat)(d:O)(h:aY):Prop:=
 a.StaysIn h/\a.get? e=J/\h.FunFrames a c/\∃(b:Nat) (f g i:O) (j:List O),h.get? e=H (iN M (.ref b))/\h.get? b=H (gZ f g i d j)/\a.get? b=J/\b≠e
section
variable {d:Model}{aV:ef}{af:O->ac->Prop}{dE:aY}{m:bX}{kl ar:List bX}{bv e M:Nat}{aG:Unit->ac->Prop}
theorem uM {h:aY}{a:Nat}{f:ab}{c:Array O}(g:h.get? a=H f)(Y:f.data= .fields c):∀(b:Nat) e,h.get? b=H e->(∀c,e.data≠ .fields c)->b≠a:=λb e d i q=>by
 subst q;rw [g]at d;injection d with d;subst d;exact i c Y
theorem Dr {v head:O}{L:Bool}(N:aV.frames=H (m::kl))(o:C.heap.FunFrames dE (m::kl))(P:m.frame=H bv)(p:I C e (iN M v))(k:dE.StaysIn C.heap)(z:dE.get? e=J)
  (h:∀u,g2 dE (m::kl) e M (d2 bv) u->C.heap.UpToSlots u->aG () {C with heap:=u}):
  bD d aV (do let a<-frameOf m;let s<-entryPlaceOf bv L;let b<-EntryCells.newEntry head a .none (d2 bv) .none s;setField (.ref e) 1 b) aG af C:=by
 refine bl (wpAny_frameOf_fun N o P λf x=>bl (wpAny_entryPlaceOf λs Q=> ?_));unfold EntryCells.newEntry newFields;refine bl (mC ?_ (Q.sizeOk5 _ _ _ _ _));have R:(e:ae)∉(m::kl).filterMap (·.frame):=λw=>by
  refine aw (o.mem w) (an λ_=>aH λc=>an λj l=> ?_);rw [p]at j;injection j with j;subst j;exact l _ t
 have A:f.get? e=H (iN M v):=(x.2.1 e R).trans p;have B:dE.StaysIn f:=λb c g=>(x.2.1 b λw=>by rw [(o.mem w).1]at g;cases g).trans (k b c g);have S:dE.get? f.objs.size=none:=B.fresh;have D:e<f.objs.size:=bB A;generalize U:(if s.isEmpty then List.replicate 6 fx else s)=i;have T:({cls:= .type "traceback",dict:=J,data:= .fields ([head,.ref bv,.none,d2 bv,.none]++i).toArray}:ab)=gZ head (.ref bv) .none (d2 bv) (.none::i):=rfl;refine r T ?_;have E:(f.push (gZ head (.ref bv) .none (d2 bv) (.none::i))).get? e=H (iN M v):=nN _ A;refine mB E t (by simp) (h _ ?_ ?_)
 ·have F:∀b,b≠e->((f.push (gZ head (.ref bv) .none (d2 bv) (.none::i))).update e (gK (·.setIfInBounds 1 (iv f.objs.size)))).get? b=(f.push (gZ head (.ref bv) .none (d2 bv) (.none::i))).get? b:=λb k=>qQ _ _ (nT k);have G:∀b c,b≠e->f.get? b=H c->((f.push (gZ head (.ref bv) .none (d2 bv) (.none::i))).update e (gK (·.setIfInBounds 1 (iv f.objs.size)))).get? b=H c:=λb c k j=>(F b k).trans (nN _ j);refine⟨λb c g=>G b c (λq=>by rw [q,z]at g;cases g) (B b c g),z,o.of_keeps λb c n l=> ?_,f.objs.size,head,.ref bv,.none,.none::i, ?_, ?_,S,aX D⟩
  ·obtain ⟨K,y⟩:=x.2.2 b c n;exact⟨_,G b _ (uM p t b c n l) y,t⟩
  ·exact(i1 _ E (zk (ab.data_mapFields (vs:=⟨[.ref M,v,.none,.none,.bool aN,.none]⟩) t _))).trans (congrArg H Mi)
  ·exact(F _ (aX D)).trans (kA f t)
 ·intro b c n l;obtain ⟨K,y⟩:=x.2.2 b c n;refine⟨K, ?_⟩;rw [qQ _ _ (nT (uM p t b c n l))];exact nN _ y
theorem Mk(f:aV.frames=H (m::kl))(g:C.heap.FunFrames dE (m::kl))(b:m.frame=H bv)(c:I C e (iN M .none))(j:dE.StaysIn C.heap)(k:dE.get? e=J)
  (h:∀a,g2 dE (m::kl) e M (d2 bv) a->C.heap.UpToSlots a->aG () {C with heap:=a}):bD d aV (iY (.ref e) m) aG af C:=by
 unfold iY;simp only [b];refine bl (gn (i:=1) (x:= .none) c t t ?_);exact r (if_neg (by decide)) (Dr f g b c j k h)
theorem Ds {h x:O}(f:g2 dE ar e M h C.heap){a:Nat}{i j k:O}{l:List O}(s:I C e (iN M (.ref a)))(m:I C a (gZ i j k h l))(p:dE.get? a=J)(r:a≠e):
  g2 dE ar e M x (C.heap.update a (gK (·.setIfInBounds 3 x)))/\C.heap.UpToSlots (C.heap.update a (gK (·.setIfInBounds 3 x))):=by
 refine aw f (bu λu v w _=> ?_);have g:∀b,b≠a->(C.heap.update a (gK (·.setIfInBounds 3 x))).get? b=C.heap.get? b:=λb c=>qQ _ _ (nT c);refine⟨⟨λb d n=>(g b λq=>by rw [q,p]at n;cases n).trans (u b d n),v,w.of_keeps λb d c o=>⟨d,(g b (uM m t b d c o)).trans c,t⟩,a,i,j,k,l,(g e (nT r)).trans s, ?_,p,r⟩,λb d c o=>⟨d.slots,(g b (uM m t b d c o)).trans c⟩⟩;exact(i1 _ m (zk (ab.data_mapFields (vs:=⟨i::j::k::h::l⟩) t _))).trans (congrArg H Mj)
theorem uN {j:O}{a:Option ae}(f:g2 dE ar e M j C.heap)(h:∀b,g2 dE ar e M (a.elim .none λf=>d2 f) b->C.heap.UpToSlots b->aG () {C with heap:=b}):bD d aV (qJ (.ref e) a) aG af C:=by
 refine aw (id f) (bu λ_ _ _=>i6 λk p q s u=>bu λc g l m=> ?_);unfold qJ;refine bl (gn (i:=1) (x:= .ref k) c t t ?_);refine r (if_pos t) ?_;obtain ⟨n,o⟩:=Ds (x:=a.elim .none λf=>d2 f) f c g l m;exact mB g t (by simp) (h _ n o)
theorem x3(j:aV.frames=H (m::kl))(c:m.frame=H bv)(f:g2 dE (m::kl) e M .none C.heap)
  (h:∀a,g2 dE (m::kl) e M (d2 bv) a->C.heap.UpToSlots a->aG () {C with heap:=a}):bD d aV (iY (.ref e) m) aG af C:=by
 refine aw (id f) (bu λ_ _ _=>i6 λk w z A B=>bu λg b l n=> ?_);unfold iY;simp only [c];refine bl (gn (i:=1) (x:= .ref k) g t t ?_);refine r (if_pos t) (bl (gn (i:=3) (x:= .none) b t t ?_));refine r (if_neg (by simp [d2])) ?_;obtain ⟨o,p⟩:=Ds (x:= .none) f g b l n;refine bl (mB b t (by simp) ?_);refine aw (id o) (bu λq s u=>i6 λ_ _ _ _ _=>an λv _=> ?_);exact Dr j u c v q s λa x y=>h a x (p.trans y)
theorem Ml(a:m.frame=H bv)(f:g2 dE ar e M (d2 bv) C.heap)(h:aG () C):bD d aV (iY (.ref e) m) aG af C:=by
 refine aw f (bu λ_ _ _=>i6 λb j k l n=>bu λc g o p=> ?_);unfold iY;simp only [a];refine bl (gn (i:=1) (x:= .ref b) c t t ?_);refine r (if_pos t) (bl (gn (i:=3) (x:=d2 bv) g t t ?_));exact r (if_pos (by simp)) (cG h)
end
open PyProof.Rows (AllBare)
section
variable {l ak:Nat}{D:List (ae×ab)}{aQ:List Nat}{aC:List cI}{a9:Nat}{bj bR:List Nat}{m i:Nat}{au:List dM}{aA:Nat->List (Option (ae×ab))}{y:Nat->G}
noncomputable def r0(g:Nat->Option ab)(D:List (ae×ab))(aQ:List Nat)(au:List dM)(d:List (Option (ae×ab)))(C b:ac):Prop:=
 aa g (· ∈c' D aQ) p C b/\(∀a c,H (a,c)∈d->I b a c)/\b.gens=C.gens++au.toArray
section
variable(a:l<=ak)(b:Base g)(K:aR g C)(d:∀x∈D,I C x.1 x.2)(f:b6 g D aQ)(o:∀az∈aC,az.Ok bH u)(ok:cw w=ag)
include a b K d f o ok
theorem uO {nn:Nat->aL}(e:∀n,bF bR (y n)=⟨.again (nn n),0,aA n,m,i,au,bG (y n)⟩)(v:∀n,y n=ce u g ak n C.toks C.gens.size J j D aQ aC a9 bj c A M w)(x:au.all er=ag)(z:∀n,(nn n).quiet=ag)
  (h:∀n k E,C.heap.objs.size=n+101->r0 g D aQ au (aA n) C k->k.heap.objs.size=n+m+101->ai u l J j (nn n) E (bI (nn n)) [] k B):ai u l J j c A M w C B:=by
 obtain ⟨n,q⟩:=K.size;have s:=e n;rw [v n]at s;refine c2 a b K q t t d f o ok s ?_;intro k I L ok F G p;refine r (kL F) (r (cA G) ?_);exact ai.again _ (z n) (h n k _ q ⟨p.only x,p.xs,p.ct⟩ (by rw [p.aZ,q];exact hU _ _ _))
theorem uP {gj:List bX}{F:Nat->aL}{cr Q br:Nat}{R:Nat->ac->bZ->ac->Prop}(e:∀n,(bF bR (y n),eA (y n) J J cr)=(⟨.call (F n) J,Q,aA n,m,i,au,bG (y n)⟩,(ag,J)))(v:∀n,y n=ce u g ak n C.toks C.gens.size J j D aQ aC a9 bj c A M w)(S:au.all er=ag)(T:l+cr<=br)
  (U:∀n,(y n).c.envs++(eX ((y n).aU.map cU)++eX j)=gj)
  (V:∀n h,C.heap.objs.size=n+101->r0 g D aQ au (aA n) C h->h.heap.objs.size=n+m+101->fg u br J gj (F n) h (R n h))
  (k:∀n h x q W,C.heap.objs.size=n+101->cw (y n).aU=ag->r0 g D aQ au (aA n) C h->h.heap.objs.size=n+m+101->R n h q x->ai u l J j (y n).c W (eh (y n).t q) (y n).aU x B):ai u l J j c A M w C B:=by
 obtain ⟨n,z⟩:=K.size;have G:=e n;simp only [eZ]at G;obtain ⟨I,L⟩:=G;have N:=U n;rw [v n]at I L N;refine c2 a b K z t t d f o ok I ?_;intro h p s ok X ah E;have s:p=y n:=s.trans (v n).symm;refine aw (iA X) (bo λaj al Y=> ?_);refine r Y ?_;have Z:eA p J J cr=(ag,J):=by refine r s (r (v n) ?_);exact L
 injection Z with aa ab;have O:h.heap.objs.size=n+m+101:=by rw [E.aZ,z];exact hU _ _ _
 have P:r0 g D aQ au (aA n) C h:=⟨E.only S,E.xs,E.ct⟩;have ae:fg u br J (p.c.envs++(eX (p.aU.map cU)++eX j)) (F n) h (R n h):=by
  refine r (show p.c.envs++(eX (p.aU.map cU)++eX j)=gj from by refine r s (r (v n) ?_);exact N) ?_;exact V n h z P O
 refine ai.Md ok t (jL aa T) ab.symm ae λq x af=> ?_;rw [s]at ok⊢;exact k n h x q _ z ok P O af
end
end
structure f5(b:aY)(c:List bX)(e M:Nat)(m:c0)(d:O)(C a:ac):Prop where
 km:g2 b c e M d a.heap
 arg:∃bx kn,a.heap.get? M=H {fQ [.str m bx]with slots:=kn}
 up:C.heap.UpToSlots a.heap
 lo: @eY Nat _ C.heap.objs.size e
 ct:a.gens=C.gens
 eP:a.drawn=C.drawn
 os:a.os=C.os
section
variable {C am:ac}
theorem f5.K {c d e M m i}(f:f5 c d e M m i C am)(K:aR g C)(j:∀a b,g a=H b->c.get? a=H b):aR g am:=by
 refine aw f.km (bu λ_ _ _=>i6 λl _ _ _ _=>an λk _=> ?_);have:=bB k;have:=f.lo;have:=K.lo;exact⟨by lia,λa b h=>f.km.1 a b (j a b h)⟩
theorem f5.r1 {a i c e M m j d}(f:f5 a i e M m j C am){b:aY}(k:g2 a c e M d b)(g:am.heap.UpToSlots b):f5 a c e M m d C {am with heap:=b}:=by
 refine⟨k, ?_,f.up.trans g,f.lo,f.ct,f.eP,f.os⟩;refine aw f.arg (bo λl p h=> ?_);obtain ⟨n,o⟩:=g M _ h (λr q=>by cases q);exact bh l n o
theorem g2.tail {a:aY}{d:bX}{b:List bX}{e M:Nat}{c:O}{h:aY}(f:g2 a (d::b) e M c h):g2 a b e M c h:=⟨f.1,f.2.1,f.2.2.1.2.2,f.2.2.2⟩
theorem f5.Mm {d a e M m}{b:bX}{bv:Nat}(k:eX j=a)(n:c.envs=[b])(o:b.frame=H bv)(f:f5 d (b::a) e M m .none C am){g:Unit->ac->Prop}(h:∀i,f5 d a e M m .none C i->g () i):Q u l Y j c (lx b (.ref e)) g a8 am:=by
 refine Q.anyF k ?_;unfold lx;refine bl (x3 (bv:=bv) ?_ o f.km λp q s=>uN (C:={am with heap:=p}) q λw t v=>h _ (f.r1 t.tail (s.trans v)));refine(?_:H (c.envs++a)=_);refine r n ?_;rfl
theorem uQ(P:a1){b:Bool}(h:P.followText m0=b):gN P m0 b=P:=by exact r (cj h) (zR _ _)
theorem P2(b:List cb)(e:bX):(aL.func b e).envs=[e]:=rfl
theorem Heap.P4 {h:aY}{a:Nat}(b: @eY Nat _ h.objs.size a):h.get? a=none:=by
 cases q:h.get? a with
 |none=>rfl
 |some c=>exact absurd (b9 q) (cx b)
theorem Mn {n:Nat}:(lR n).scope.kind= .function:=by kernel_rfl
noncomputable def r2(d n b:Nat):List (ae×ab):=[(n+101,{cls:= .type "frame",data:= .dict ⟨[]⟩ 0}),(n+102,{cls:= .type "cell",data:= .cell (H (.str ⟨⟨eQ d⟩⟩ b))}),(n+103,a),(n+104,a),(n+105,a),(n+106,a),(n+107,a),(n+108,a)]
theorem uR(S:Base g){d T U aj al:Nat}{V W:List Nat}{k:Nat}(X:l<=300)(K:aR g C)
  (an:∀n A j,bF [0,1,2,3,4,5,6,7] (ce u g 300 n C.toks C.gens.size J j [] [] [] T V (gS d k) A (bI (gS d k)) [])=⟨.again (kQ n),0,(r2 d n k).map H,8,0,[],bG (ce u g 300 n C.toks C.gens.size J j [] [] [] T V (gS d k) A (bI (gS d k)) [])⟩)
  (ap:∀n c F Y j A,bF [0,15,16] (ce u g 300 c F Y J j (r2 d n k) [0,1,2,3,4,5,6,7] [] U W (kQ n) A (cM (b7 mZ.1 (lR n))) [])=⟨.err (.ref (c+108)),0,[H (n+101,{cls:= .type "frame",data:= .dict ⟨[]⟩ 0}),H (c+108,n9 (c+109)),H (c+109,fQ [.str (dz d) (F+al)])],9,aj,[],bG (ce u g 300 c F Y J j (r2 d n k) [0,1,2,3,4,5,6,7] [] U W (kQ n) A (cM (b7 mZ.1 (lR n))) [])⟩)
  {v:aY}{B:List bX}(aq:v.StaysIn C.heap)(Z:∀a:Nat,C.heap.objs.size<=a->v.get? a=J)(as:C.heap.FunFrames v B):
  fg u l J B (gS d k) C λG am=>∃e M,G= .error (.ref e)/\f5 v B e M (dz d) .none C am:=by
 refine fg.c1 λj A au=> ?_;refine uO (ak:=300) X S K a6 .nil ba t (nn:=kQ) (λn=>an n A j) (λ_=>t) t (λn=>by kernel_rfl) (λn s aZ w av ab=> ?_);refine aw av (aT λD ay az=> ?_);have D:=D.aE;have aA:∀x:Nat,n+101<=x->g x=none:=λx L=>K.fresh (by rw [w];exact L);have aC:b6 g (r2 d n k) [0,1,2,3,4,5,6,7]:= .ge aA (pj n (ar:=[101,102,103,104,105,106,107,108]) (by decide)) (a_ (bw t)<|a_ (bw t)<|a_ (bw t)<|a_ (bw t)<|a_ (bw t)<|a_ (bw t)<|a_ (bw t)<|a_ (bw t)<|dG);have aF:∀x∈r2 d n k,I s x.1 x.2:=λx L=>ay x.1 x.2 (hx.mpr ⟨x,L,t⟩);refine ai.Dp (aG:=λ_ _=>False) (af:=λx i=>∃c:Nat,s.heap.objs.size=c+101/\x= .ref (c+108)/\aa g p p C i/\i.gens=C.gens/\i.heap.get? (n+101)=H {cls:= .type "frame",data:= .dict ⟨[]⟩ 0}/\I i (c+108) (n9 (c+109))/\∃y,I i (c+109) (fQ [.str (dz d) y])) ?_ (λ_ _ h=>h.elim) ?_
 ·refine r jb ?_;refine Q.mono (Q.cM (cJ:=λG i=>∃c:Nat,s.heap.objs.size=c+101/\G= .error (.ref (c+108))/\aa g p p C i/\i.gens=C.gens/\i.heap.get? (n+101)=H {cls:= .type "frame",data:= .dict ⟨[]⟩ 0}/\I i (c+108) (n9 (c+109))/\∃y,I i (c+109) (fQ [.str (dz d) y])) λaI=>
   Ft X S D.K aF aC ba (λc=>ap n c s.toks s.gens.size j aI) t λc i E z N O=> ?_) ?_ ?_
  ·refine⟨c,E,t, ?_,by rw [O,az];rfl,N _ _ aO,N _ _ ci,_,N _ _ dK⟩;have aJ:aa g (hO (n+101)) p s i:=z.rT [n+101,n+102,n+103,n+104,n+105,n+106,n+107,n+108] t (a_ (bw t)<|a_ (bw t)<|a_ (bw t)<|a_ (bw t)<|a_ (bw t)<|a_ (bw t)<|a_ (bw t)<|a_ (bw t)<|dG);exact(D.zero.trans aJ).kg (ew w)
  ·refine λf i=>aH λc=>aT λ_ h _=> ?_;cases h
  ·refine λx i=>aH λc=>aT λP ac aK=> ?_;cases ac;exact⟨c,P,t,aK⟩
 ·refine λx i=>aH λc=>s_ λE=> ?_;rintro rfl;refine λz O aL aM=>aH λy aP=> ?_;have ae:n+8=c:=dF (aD 109 0 0 101 8 0 t (ao ab) (aB E)) (aD 101 0 0 109 0 8 t (ao E) (aB ab));have R:∀b o,I C b o->I i b o:=λb o h=>z.ax h;refine Q.anyF au ?_;unfold lx;refine bl (Mk (bv:=n+101) (m:=lR n) (kl:=B) (dE:=v) (M:=c+109) t ⟨(by rw [Mn];decide),bh (n+101) _ ⟨t,Z _ ((aB w)),aL,λaQ q=>by cases q⟩,as.of_keeps λb o h _=>⟨o,R b o h,t⟩⟩ t aM (λb o h=>R b o (aq b o h)) (Z _ (aD 0 101 8 0 0 108 t (aB w) (aB ae))) λP aS aU=>
   uN (C:={i with heap:=P}) aS λac aV aW=> ?_)
  have ah:=aU.trans aW;refine bh (c+108) (c+109) ⟨t,aV.tail, ?_,(aY.UpToSlots.of_keeps R).trans ah,aD 0 101 8 0 0 108 t (aB w) (aB ae),O,z.eP,z.os⟩;obtain ⟨aX,h⟩:=ah _ _ aP (λaQ q=>by cases q);exact bh y aX h
theorem Mo(k:Base g)(b:m1 g u.params){d:Nat}(Y:d=6\/d=7)(m:l<=300)(K:aR g C){dE:aY}{s:List bX}(o:dE.StaysIn C.heap)(p:∀a:Nat,C.heap.objs.size<=a->dE.get? a=J)(r:C.heap.FunFrames dE s){bp:Nat}:
  fg u l J s (gS d bp) C λt am=>∃e M,t= .error (.ref e)/\f5 dE s e M (dz d) .none C am:=by
 rcases Y with rfl|rfl
 ·cases h:u.params.followText m0 with
  |true=>exact uR k m K (λn A j=>b 0 _ ..) (λn c f i j A=>by have q:=b 1 n c f i j A bp;unfold AB at q;rw [uQ u.params h]at q;exact q) o p r
  |false=>exact uR k m K (λn A j=>b 0 _ ..) (λn c f i j A=>by have q:=b 2 n c f i j A bp;unfold AC at q;rw [uQ u.params h]at q;exact q) o p r
 ·cases h:u.params.followText m0 with
  |true=>exact uR k m K (λn A j=>b 3 _ ..) (λn c f i j A=>by have q:=b 4 n c f i j A bp;unfold AD at q;rw [uQ u.params h]at q;exact q) o p r
  |false=>exact uR k m K (λn A j=>b 3 _ ..) (λn c f i j A=>by have q:=b 5 n c f i j A bp;unfold AE at q;rw [uQ u.params h]at q;exact q) o p r
end
open PyProof.Rows (AllBare)
section
variable {l ak:Nat}{D:List (ae×ab)}{aQ:List Nat}{aC:List cI}{a9:Nat}{bj bR:List Nat}{m i:Nat}{au:List dM}{aA:Nat->List (Option (ae×ab))}{y:Nat->G}
theorem uS {v:Nat->O}(k:l<=ak)(o:Base g)(K:aR g C)(p:∀x∈D,I C x.1 x.2)(q:b6 g D aQ)(s:∀z∈aC,z.Ok bH u)(ok:cw w=ag)(e:∀n,bF bR (y n)=⟨.err (v n),0,aA n,m,i,au,bG (y n)⟩)(E:∀n,y n=ce u g ak n C.toks C.gens.size J j D aQ aC a9 bj c A M w)(F:au.all er=ag)
  (h:∀n a,C.heap.objs.size=n+101->r0 g D aQ au (aA n) C a->B (.ret (.error (v n))) a):ai u l J j c A M w C B:=by
 obtain ⟨n,d⟩:=K.size;have f:=e n;rw [E n]at f;refine c2 k o K d t t p q s ok f ?_;intro a N P ok G L b;refine r (pu G) (r (cA L) ?_);exact ai.done (.error (v n)) (h n a d ⟨b.only F,b.xs,b.ct⟩)
end
theorem Dt {h:aY}{a:List Nat}{b:Nat}{c:ab}(e:(ij h a).get? b=H c):b∉a/\h.get? b=H c:=by
 have:b∉a:=λq=>by rw [x2 q]at e;cases e
 exact⟨this,(oD this).symm.trans e⟩
theorem Mp {h:aY}{b:List Nat}{a:Nat}(c:h.objs.size<=a):(ij h b).get? a=none:=by
 cases q:(ij h b).get? a with
 |none=>rfl
 |some d=>
  have:=bB (Dt q).2;exact a2 1 0 t (aq 0 0 1 0 c this)
noncomputable def f6(d:List Nat)(h:aY)(e:List bX):Prop:=∀b∈e,b.scope.kind≠ .module/\∃(a:Nat) (c:ab),b.frame=H a/\a∈d/\h.get? a=H c/\∀f,c.data≠ .fields f
theorem f6.frames {g:List Nat}{h j:aY}:∀{i:List bX},f6 g h i->h.FunFrames (ij j g) i
 | [],_=>trivial
 |k::o,f=>by
  refine aw (f k aO) (an λa=>bo λl m=>bu λb c d e=> ?_);exact⟨a,bh l m ⟨b,x2 c,d,e⟩,f6.frames λx n=>f x (.tail _ n)⟩
theorem f6.mono {j n:List Nat}{h o:aY}{p:List bX}(f:f6 j h p)(q:∀x∈j,x∈n)(k:∀(b:Nat) g,b∈j->h.get? b=H g->(∀l,g.data≠ .fields l)->∃i,o.get? b=H i/\∀l,i.data≠ .fields l):f6 n o p:=λr s=>by
 refine aw (f r s) (an λa=>bo λm g=>bu λb c d e=> ?_);refine aw (k m g c d e) (aH λi=>an λt u=> ?_);exact⟨a,m,i,b,q m c,t,u⟩
theorem f6.keep {c d:List Nat}{h g:aY}{i:List bX}(f:f6 c h i)(j:∀x∈c,x∈d)(k:∀(b:Nat) a,b∈c->h.get? b=H a->g.get? b=H a):f6 d g i:=f.mono j λb a l e Y=>⟨a,k b a l e,Y⟩
theorem f6.nil {a:List Nat}{h:aY}:f6 a h []:=λ_ b=>by cases b
theorem f6.cons {i:List Nat}{h:aY}{m:List bX}{j:bX}{g:Nat}{k:ab}(f:f6 i h m)(a:j.scope.kind= .function)(b:j.frame=H g)(c:g∈i)(d:h.get? g=H k)(e:∀n,k.data≠ .fields n):f6 i h (j::m):=λx l=>by
 rcases b8.mp l with rfl|l
 ·exact⟨by rw [a];decide,g,k,b,c,d,e⟩
 ·exact f x l
noncomputable def eV(g:Nat->Option ab)(d:ae->Prop)(f:List Nat)(h:List bX)(m:c0)(i:O)(P:aY->Prop)(C:ac)(j:bZ)(k:ac):Prop:=
 ∃a b e M,j= .error (.ref e)/\aa g d p C a/\(∀x∈b,x∈f\/C.heap.objs.size<=x)/\(∀x∈b,g x=J/\∃c,I a x c/\∀l,c.data≠ .fields l)/\P a.heap/\f5 (ij a.heap b) h e M m i a k
theorem eV.pre {g:Nat->Option ab}{a:ae->Prop}{b:List Nat}{c:List bX}{m:c0}{d:O}{P:aY->Prop}{i C j:ac}{k:bZ}(l:aa g a p i C)(h:eV g p b c m d P C k j):eV g a b c m d P i k j:=by
 refine aw h (gL λn o e M=>f9 λq r s t u f=> ?_);exact h4 n o e M ⟨q,l.then r aF aF,λx v=>(s x v).imp id (aS l.aZ),t,u,f⟩
section
variable {C k am:ac}
theorem eV.imp {g:Nat->Option ab}{a:ae->Prop}{b:List Nat}{c:List bX}{m:c0}{d:O}{P i:aY->Prop}{C am:ac}{j:bZ}(h:eV g a b c m d P C j am)(k:∀h,P h->i h):eV g a b c m d i C j am:=by
 refine aw h (gL λl n e M=>f9 λo p q r s f=> ?_);exact h4 l n e M ⟨o,p,q,r,k _ s,f⟩
theorem Mq {cS d:Nat}(h:d<8):∃a,(eE cS)[d]? =H (.str ⟨⟨eQ d⟩⟩ a):=by
 exact⟨_,d0 (f:=λd=>(eE cS)[d]?) (cs:=λd=>H (.str ⟨⟨eQ d⟩⟩ (cS+d))) (n:=8) t h⟩
theorem oE {C:ac}(K:aR g C){c:List Nat}{P:Nat->Prop}(d:∀x∈c,g x=J/\P x):∀a b,g a=H b->(ij C.heap c).get? a=H b:=λa b h=>by
 have:(a:Nat)∉c:=λq=>by rw [(d a q).1]at h;cases h
 exact(oD this).trans (K.kt a b h)
theorem TabAt.keep {lo:Nat}{h c:aY}{d:List (Nat×ae)}(M:TabAt lo h d)(k:∀b a,h.get? b=H a->c.get? b=H a):TabAt lo c d:=⟨k _ _ M.1,λq f=>(M.2 q f).mono λb a _ e=>k b a e⟩
theorem fp.keep {lo a d:Nat}{h g:aY}(M:fp lo h a d)(k:∀(b:Nat) i,lo<=b->h.get? b=H i->g.get? b=H i):fp lo g a d:=by
 refine aw M (cE λl m c=>bu λj n o e=> ?_);exact dT l m c ⟨j,k _ _ j n,o.mono k,λy f=>⟨(e y f).1,k _ _ (e y f).1 (e y f).2⟩⟩
theorem g2.keep {j:aY}{l:List bX}{e M:Nat}{m:O}{h n:aY}(f:g2 j l e M m h)(k:∀b g,h.get? b=H g->n.get? b=H g):g2 j l e M m n:=by
 refine aw f (bu λo p q=>i6 λr s u v w=>bu λa b c d=> ?_);exact⟨λb g i=>k b g (o b g i),p,q.of_keeps λb g i _=>⟨g,k b g i,t⟩,r,s,u,v,w,k _ _ a,k _ _ b,c,d⟩
theorem f5.only {d:aY}{i:List bX}{e M:Nat}{m:c0}{j:O}{C k c:ac}(f:f5 d i e M m j C k)(a:aa g p p k c)(l:c.gens=k.gens):f5 d i e M m j C c:=by
 refine aw f.arg (bo λn o q=> ?_);exact⟨f.km.keep λb r h=>a.ax h,bh n o (a.ax q),f.up.trans (.of_keeps λb r h=>a.ax h),f.lo,l.trans f.ct,a.eP.trans f.eP,a.os.trans f.os⟩
theorem Mr {a m n:Nat}:(ni a m n).scope.kind= .function:=by kernel_rfl
theorem Ms(U:Base g)(ac:k9 g u.params)(a3:m1 g u.params)(a4:je g u.params)(W:l<=240)(K:aR g C)(a5:g 39=J){b_ m p3 v x i hk d eq bp cS j5 lo:Nat}{L:List O}{z:List (Nat×ae)}{X:List bX}{P:List Nat}
  (a7:I C (m+108) (de (rQ b_ m)))(a8:I C (m+107) (rR m p3))(a9:I C v (ah L j5))(a_:101<=v)(bb:L.length<=1000)(G:I C x (fQ [aj i hk,aj d eq]))(bc:d<8)
  (bd:I C (b_+107) (a' (E bp)))(be:I C (bp+101) (ah (eE cS) 0))(bf:lo<=C.heap.objs.size)(aI:TabAt lo C.heap z)(bg:z.map (·.1)∈jY)(dW:f6 P C.heap X)(bh:∀x∈P,g x=J/\∃D,I C x D/\∀ar,D.data≠ .fields ar):
  fg u l J X (.call (.ref (m+108)) ⟨[.ref v,.ref x],[]⟩) C λS am=>
   (d<6/\aa g (· =39) p C am/\∃s a y,S= .ok (.ret (E s))/\@eY Nat _ C.heap.objs.size (s+101)/\I am (s+101) (ah (L++[E a]) 0)/\fp lo am.heap a d/\TabAt lo am.heap y/\y.map (·.1)=(if c7 d∈z.map (·.1)then z.map (·.1)else z.map (·.1)++[c7 d]))\/
   (6<=d/\eV g p P X (dz d) .none (λh=>TabAt lo h z) C S am):=by
 obtain ⟨al,bi⟩:=Mq (cS:=cS) bc;refine fg.c1 λj A aJ=> ?_;refine uO (ak:=245) (bm t W) U K (aK a7 (aK a8 a6)) .nil ba t (nn:=λn=>xN b_ m n) (λn=>ac 16 _ ..) (λ_=>t) t (λn=>by kernel_rfl) (λn k bL aL bj bM=> ?_);refine aw bj (aT λT bk bO=> ?_);have T:=T.aE;have au:=bk _ _ aO;refine ai.Mg (aG:=λS o=>d<6/\aa g (· =39) p C o/\∃s a y,S=E s/\@eY Nat _ C.heap.objs.size (s+101)/\I o (s+101) (ah (L++[E a]) 0)/\fp lo o.heap a d/\TabAt lo o.heap y/\y.map (·.1)=(if c7 d∈z.map (·.1)then z.map (·.1)else z.map (·.1)++[c7 d]))
  (af:=λx o=>6<=d/\eV g p ((n+101)::P) (ni b_ m n::X) (dz d) .none (λh=>TabAt lo h z) C (.error x) o) ?_ ?_ ?_
 ·refine r en (Q.mono (Q.bN (cJ:=λS o=>(d<6/\aa g (· =39) p C o/\∃s a y,S= .ok (.ret (E s))/\@eY Nat _ C.heap.objs.size (s+101)/\I o (s+101) (ah (L++[E a]) 0)/\fp lo o.heap a d/\TabAt lo o.heap y/\y.map (·.1)=(if c7 d∈z.map (·.1)then z.map (·.1)else z.map (·.1)++[c7 d]))\/(6<=d/\eV g p ((n+101)::P) (ni b_ m n::X) (dz d) .none (λh=>TabAt lo h z) C S o)) λav=> ?_) ?_ ?_)
  ·refine uP (ak:=250) (bm t W) U T.K (aK au (aK (T.ax G) (aK (T.ax bd) (aK (T.ax be) a6)))) .nil (aC:=[e0 3 (bp+101) (eE cS) 0 d eq (.str ⟨⟨eQ d⟩⟩ al)]) (fk (iB (by lia) bi)) t (cr:=8) (br:=l+8) (gj:=ni b_ m n::X)
    (λY=>ac 17 b_ m n C.toks v x Y k.toks k.gens.size j av i d hk eq bp cS al j5 ⟨⟨eQ d⟩⟩ L) (λ_=>t) t (bw t) (λY=>(ac 26 b_ m n C.toks v x Y k.toks k.gens.size j av i d hk eq bp cS al j5 ⟨⟨eQ d⟩⟩ L _).trans (by refine r aJ ?_;rfl))
    (R:=λY o q F=>(d<6/\aa g (· =39) p o F/\∃a y,q= .ok (.ret (E a))/\fp lo F.heap a d/\TabAt lo F.heap y/\y.map (·.1)=(if c7 d∈z.map (·.1)then z.map (·.1)else z.map (·.1)++[c7 d]))\/(6<=d/\∃e M,q= .error (.ref e)/\f5 (ij o.heap ((n+101)::P)) (ni b_ m n::X) e M (dz d) .none o F)) ?_ ?_
   ·intro Y o bl ay bn;refine aw ay (aT λw _ bo=> ?_);have w:=w.aE;have N:aa g p p C o:=T.trans w
    by_cases B:d<6
    ·refine((Ap U a4 w.K a5 (.inl t) (lo:=lo) (bp:=al) (aS bf N.aZ) B (aI.keep λb D h=>N.ax h) bg).toF.lower (V 0 240 8 300 t W)).mono λS F h=> .inl ⟨B,h⟩
    ·refine(Mo U a3 (d:=d) (bp:=al) (zy (by assumption) (by assumption)) (V 0 240 8 300 t W) w.K (dE:=ij o.heap ((n+101)::P)) (λb D h=>(Dt h).2) (λa bs=>Mp bs) (f6.frames ?_)).mono λS F h=> .inr ⟨(eJ B),h⟩;exact f6.cons (dW.keep (λx G=> .tail _ G) (λb D _ e=>N.ax e)) Mr t aO (w.ax au) (λar q=>by cases q)
   ·rintro Y o F q bt bl aM ay bn bu;refine aw ay (aT λw _ bo=> ?_);have w:=w.aE;have N:aa g p p C o:=T.trans w;rcases bu with⟨B,as,a,y,rfl,az⟩|⟨B,e,M,rfl,f⟩
    ·have aP:I F v (ah L j5):=as.fr _ _ (N.ax a9) (λq=>by
      have:v=39:=q;exact a2 101 39 t (aq 101 0 0 39 a_ (aB q)))
     refine ee (ak:=250) (bm t W) U as.K (aK aP a6) .nil ba aM (cr:=8) (br:=l+8) (λZ=>ac 19 _ ..) (λ_=>t) t (bw t)
      (R:=λZ ab q aA=>q= .ok (.ret (.ref ab.heap.objs.size))/\aa g p p ab aA/\I aA ab.heap.objs.size (ah (L++[E a]) 0)) ?_ ?_
     ·intro Z ab aQ ap aU aD;exact xC ap.K (ap.aE.ax aP) (aU _ _ aO) (by simp;exact bm t bb)
     ·refine λZ ab aA q bP aQ bx ap aU aD=>aT ?_;rintro rfl;intro aV aX;obtain ⟨s,bz⟩:∃s,ab.heap.objs.size=s+101:=⟨Z+1,dF ((aB aD)) ((ao aD))⟩;rw [bz]at aX⊢;refine f4 (ak:=250) (bm t W) U aV.K a6 .nil ba bx (λbA=>ac 20 _ ..) (λ_=>t) t ?_;intro bA bB bQ aY bR bS;have aF:aa g p p F bB:=(ap.aE.trans aV).trans aY.aE;refine .inl ⟨B,(N.zero.trans as).trans aF.zero,s,a,y,t,by have:=N.aZ;have:=as.aZ;lia,aY.aE.ax aX,az.1.keep λb D _ h=>aF.ax h,az.2.1.keep λb D h=>aF.ax h,az.2.2⟩
    ·have a0:∀x∈(n+101)::P,g x=J/\∃D,I o x D/\∀ar,D.data≠ .fields ar:=λx G=>by
      rcases b8.mp G with rfl|G
      ·exact⟨K.fresh (by rw [aL];exact aW _),_,w.ax au,λar q=>by cases q⟩
      ·refine aw (bh x G) (an λa=>aH λD=>an λb c=> ?_);exact⟨a,D,N.ax b,c⟩
     refine uS (ak:=250) (bm t W) U (f.K w.K (oE w.K a0)) a6 .nil ba aM (λZ=>ac 18 b_ m n C.toks v x Y k.toks k.gens.size j av i d hk eq bp cS al j5 ⟨⟨eQ d⟩⟩ L Z F.toks F.gens.size e bt) (λ_=>t) t (λZ ab aQ bC=> ?_);refine aw bC (aT λap _ bD=> ?_);exact .inr ⟨B,o,(n+101)::P,e,M,t,N,λx G=> .inl G,a0,aI.keep (λb D h=>N.ax h),f.only ap.aE (by rw [bD];rfl)⟩
  ·rintro v o (⟨B,w,s,a,y,h,a1⟩|⟨_,_,_,_,_,h,_⟩)
   ·injection h with h;injection h with h;exact⟨B,w,s,a,y,h,a1⟩
   ·cases h
  ·rintro x o (⟨B,w,s,a,y,h,a1⟩|h)
   ·cases h
   ·exact h
 ·refine λv o=>aT λB w=>cE λs a y=>an ?_;rintro rfl;intro h;exact .inl ⟨B,w,s,a,y,t,h⟩
 ·refine λx o=>an λB=>gL λbE bF e M=>f9 λbG w bH bI bJ f=> ?_;cases bG;refine f5.Mm (bv:=n+101) aJ t t f λF bK=> .inr ⟨B,bE,bF,e,M,t,w,λx G=> ?_,bI,bJ,bK⟩;rcases bH x G with h|h
  ·rcases b8.mp h with rfl|h
   ·exact .inr ((aB aL))
   ·exact .inl h
  ·exact .inr h
end
open PyProof.Rows (AllBare)
noncomputable def fh(b:List Nat):List Nat:=b.foldl (λa d=>if c7 d∈a then a else a++[c7 d]) []
theorem Du(a:List Nat)(d:Nat):fh (a++[d])=if c7 d∈fh a then fh a else fh a++[c7 d]:=by
 unfold fh;rw [vD];rfl
theorem Dv:∀c:List Nat,c.length<=2->(∀d∈c,d<6)->fh c∈jY
 | [],_,_=>by decide
 | [a],_,h=>by
  have e:=h a aO;have:∀a<6,fh [a]∈jY:=by decide
  exact this a e
 | [a,b],_,h=>by
  have e:=h a aO;have f:=h b ci;have:∀a<6,∀b<6,fh [a,b]∈jY:=by decide
  exact this a e b f
 |_::_::_::_,h,_=>by simp at h
noncomputable def jx(a b i:Nat)(h:aY):Prop:=(i=0/\∃c,h.get? (a+101)=H (jt .none aN b 0 c))\/(∃(q:Nat) (e:List O) (c:O) (d:Bool),1<=i/\(d=ag↔2<=i)/\h.get? (a+101)=H (jt (aj q 0) d b i c)/\h.get? q=H (fQ e)/\q≠a+101/\q≠b)
section
variable {C k am:ac}
theorem x4 {ak:Nat}{d:List (ae×ab)}{f D:List Nat}{q:List cI}{w m i:Nat}{z:List Nat}{B:Nat->List (Option (ae×ab))}{a:aI (Option O)}{v:Nat->O}{s:Option O->ac->Prop}(E:l<=ak)(F:Base g)(K:aR g C)(G:∀x∈d,I C x.1 x.2)(L:b6 g d f)(M:∀k∈q,k.Ok bH u)
  (e:∀n A,bF D (ce u g ak n C.toks C.gens.size J j d f q w z c A (cQ.gR a) [])=⟨.ret (v n),0,B n,m,i,[],bG (ce u g ak n C.toks C.gens.size J j d f q w z c A (cQ.gR a) [])⟩)
  (h:∀n am,C.heap.objs.size=n+101->aa g (· ∈c' d f) p C am->(∀a k,H (a,k)∈B n->I am a k)->s (H (v n)) am):Q u l J j c a s a8 C:=by
 refine Q.mono (Q.gR (cJ:=λN am=>∃n,N= .ok (.ret (v n))/\s (H (v n)) am) λA=>mV E F K G L M (λn=>e n A) t λn am b o P _=>⟨n,t,h n am b o P⟩) ?_ ?_
 ·refine λx am=>aH λn=>an λb o=> ?_;cases x with
  |none=>cases b
  |some y=>
   injection b with b;injection b with b;exact r b o
 ·refine λx am=>aH λn=>an λb o=> ?_;cases b
noncomputable def r3(a b:Nat):ae->Prop:=λx=>x=a+101\/x=b
theorem Mt(F:Base g)(G:k9 g u.params)(L:l<=240)(K:aR g C){n c b o i T d M:Nat}{N:List O}(c4:jx c b i C.heap)(x:I C b (b2 (o+101) i))(y:I C (o+101) (ah N T))(ar:N[i]? =H (aj d M))
  (U:g (c+101)=J)(W:g b=J)(X:b≠c+101)(Y:o+101≠c+101)(af:o+101≠b):
  Q u l J j (eT n (c+101)) (hY (E c)) (λs k=>∃(a as:Nat),s=H (.ref a)/\aa g (r3 c b) p C k/\@eY Nat _ C.heap.objs.size a/\I k a (fQ [aj i as,aj d M])/\I k b (b2 (o+101) (i+1))/\jx c b (i+1) k.heap) a8 C:=by
 refine r tr ?_;have ok:∀s∈[hB 1 2 b (o+101) i N T (aj d M)],s.Ok bH u:=λs ai=>by
  rw [bQ]at ai;subst ai;exact n2 ar
 have au:=bB x;have lF:∀{e z:ab} {av:List (ae×ab)} {k:ac},aa g (· ∈c' ((c+101,e)::(b,z)::av) [0,1]) p C k->aa g (r3 c b) p C k:=λs=>s.hn;refine l2 λZ cz=> ?_;rcases c4 with⟨rfl,aw,c4⟩|⟨q,P,aw,ax,R,al,c4,v,B,D⟩<;>refine cz ?_
 ·have am:=bB c4;refine x4 (ak:=240) L F K (aK c4 (aK x (aK y a6))) (.nodup (s9 X.symm Y.symm af.symm) (a_ (eo U) (a_ (eo W) dG))) ok (λm A=>G 6 _ ..) (λm k w e f=> ?_)
  ·exact⟨m+101,_,t,lF e,ew w,f _ _ dK,f _ _ ci,.inr (h4 (m+101) _ _ aN ⟨aW _,by simp,f _ _ aO,f _ _ dK,aX (aD 102 0 0 101 102 101 t am (aB w)),aX (aD 1 0 0 101 1 101 t au (aB w))⟩)⟩
 ·have am:=bB c4;have ay:q≠o+101:=λh=>by
   rw [h,y]at v;injection v with v;have S:nQ "list"=nQ "tuple":=congrArg ha v;injection S with S;exact absurd S (by decide)
  have an:∀e z ao ap,b6 g [((c+101:ae),e),(b,z),(o+101,ao),(q,ap)] [0,1]:=λe z ao ap=> .nodup (EU X.symm Y.symm B.symm af.symm D.symm ay.symm) (a_ (eo U) (a_ (eo W) dG));have aq:∀{k:ac},aa g (r3 c b) p C k->I k q (fQ P):=λs=>s.fr _ _ v (λh=>h.elim B D);cases ax with
  |false=>
   have:i=1:=by
    have:¬2<=i:=λh=>by cases al.mpr h
    exact dF (V 1 2 0 1 t (Nat.lt_of_not_le this)) (R)
   subst this;refine x4 (ak:=240) L F K (aK c4 (aK x (aK y (aK v a6)))) (an _ _ _ _) ok (λm A=>G 7 _ ..) (λm k w e f=> ?_);exact⟨m+101,_,t,lF e,ew w,f _ _ dK,f _ _ ci,.inr (h4 q P _ ag ⟨a5 t,by simp,f _ _ aO,aq (lF e),B,D⟩)⟩
  |true=>
   have:2<=i:=al.mp t;refine x4 (ak:=240) L F K (aK c4 (aK x (aK y (aK v a6)))) (an _ _ _ _) ok (λm A=>G 8 _ ..) (λm k w e f=> ?_);exact⟨m+101,_,t,lF e,ew w,f _ _ dK,f _ _ ci,.inr (h4 q P _ ag ⟨V 1 0 1 1 t R,by simp;exact R,f _ _ aO,aq (lF e),B,D⟩)⟩
theorem Mu(s:Base g)(v:k9 g u.params)(w:l<=240)(K:aR g C){n a b c i f:Nat}{d:List O}(c4:jx a b i C.heap)(x:I C b (b2 (c+101) i))(y:I C (c+101) (ah d f))(h:2<=i)(z:d.length<=i)
  (B:g (a+101)=J)(D:g b=J)(F:b≠a+101)(G:c+101≠a+101)(L:c+101≠b):
  Q u l J j (eT n (a+101)) (hY (E a)) (λe k=>e=J/\aa g (r3 a b) p C k) a8 C:=by
 refine r tr ?_;have ok:∀e∈[hC 1 2 b (c+101) i d f],e.Ok bH u:=λe m=>by
  rw [bQ]at m;subst m;exact n3 z
 rcases c4 with⟨rfl,_⟩|⟨q,M,N,S,T,P,c4,U,V,W⟩
 ·exact a2 2 0 t h
 ·rw [P.mpr h]at c4;refine Q.Ad (ak:=240) w s K (aK c4 (aK x (aK y a6))) (.nodup (s9 F.symm G.symm L.symm) (a_ (eo B) (a_ (eo D) dG))) ok (λo A=>v 9 n a b (c+101) i f o C.toks C.gens.size j A N d .none q M) t (λo k X R Y=>⟨t,R.hn⟩)
structure ko(dj:cZ)(b_ m f n M g c i j k d l lo:Nat)(o Dw a:List (Nat×Nat))(e:List (Nat×ae))(v p:Nat)(h:aY):Prop where
 fn:h.get? (m+108)=H (de (rQ b_ m))
 cd:h.get? (m+107)=H (rR m f)
 m7:h.get? (b_+107)=H (a' (E d))
 m9:h.get? (d+101)=H (ah (eE l) 0)
 dl:h.get? (j+101)=H (ah (ca o) k)
 v1:101<=v/\v≠n+101/\v≠c+101/\v≠m+109
 x5:h.get? v=H (ah (a.map λq=>E q.1) p)
 ns:∃b,h.get? (n+101)=H (iJ dj.params M g (m+108) c i v b)/\(b=[]\/∃r y,b=fF dj.params r y)
 kn:∀q∈a,fp lo h q.1 q.2
 np:a.map (·.2)=Dw.map (·.1)
 tab:TabAt lo h e
 cD:e.map (·.1)=fh (Dw.map (·.1))
noncomputable def nq(a b:List (Nat×Nat)):Prop:=(∀q∈a,q.1<6)/\∃q c,6<=q.1/\b=a++q::c
noncomputable def iO(n a b:Nat):ae->Prop:=λx=>x=n+101\/x=a+101\/x=b\/x=39
theorem Mv:∀v a,d9 k5.1 (.ref a) v=pure ():=λ_ _=>by rfl
theorem Mw {n:Nat}:(fd n).scope.kind= .function:=by kernel_rfl
theorem Mx {n:Nat}:(bb n).scope.kind= .function:=by kernel_rfl
theorem jx.keep {f g i:Nat}{h j:aY}(af:jx f g i h)(k:∀(b:Nat) a,h.get? b=H a->a.cls= .type "tuple"\/a.cls= .type "enumerate"->j.get? b=H a):jx f g i j:=by
 rcases af with⟨c,d,e⟩|⟨q,l,d,m,c,e,n,o,p⟩
 ·exact .inl ⟨c,d,k _ _ e (.inr t)⟩
 ·exact .inr (h4 q l d m ⟨c,e,k _ _ n (.inr t),k _ _ o (.inl t),p⟩)
theorem Dx {h:aY}{a:Nat}{c d:ab}{x:O}(e:h.get? a=H c)(b:h.get? a=H d)(f:c.cls=x):d.cls=x:=by
 rw [e]at b;injection b with b;exact r (cj b) f
theorem dA {x y:String}(h:nQ x=nQ y)(a:x≠y):False:=by
 injection h with h;exact a h
theorem jx.only {e f i a:Nat}{C am:ac}{h:ae->Prop}{j k:ab}(af:jx e f i C.heap)(l:aa g h p C am)(m:∀x,h x->x=a\/x=39)(n:I C a j)(o:j.cls= .type "frame")(r:I C 39 k)(s:k.cls= .none):jx e f i am.heap:=
 af.keep λb t d c=>l.fr _ _ d λq=>by
  rcases m b q with rfl|rfl
  ·have:=Dx n d o;rcases c with c|c<;>exact dA (this.symm.trans c) (by decide)
  ·have:=Dx r d s;rcases c with c|c
   ·cases this.symm.trans c
   ·cases this.symm.trans c
theorem ko.step {e m x n M f c g i z j A:Nat}{B C D:List (Nat×Nat)}{E:List (Nat×ae)}{v G:Nat}{h d:aY}(N:n=m+11)(O:c=m+9)(l:i<m)(o:j<m)(p:e+6<m)(F:ko u e m x n M f c g i z j A (m+113) B C D E v G h)(k:∀(b:Nat) a,b≠m+109->b≠m+110->b≠m+112->h.get? b=H a->d.get? b=H a)
  (K:∃r,d.get? (n+101)=H (iJ u.params M f (m+108) c g v r)/\(r=[]\/∃L y,r=fF u.params L y)):ko u e m x n M f c g i z j A (m+113) B C D E v G d:=by
 have I:∀(b:Nat) a,m+113<=b->h.get? b=H a->d.get? b=H a:=λb a s=>k b a (aX (V 113 0 110 0 t s)) (aX (V 113 0 111 0 t s)) (aX (s));refine aw F.v1 (bu λP Q R S=> ?_);exact⟨k _ _ (bA 108 109 t) (bA 108 110 t) (bA 108 112 t) F.fn,k _ _ (bA 107 109 t) (bA 107 110 t) (bA 107 112 t) F.cd,k _ _ (a7 (V 7 0 108 109 t p)) (a7 (V 7 0 108 110 t p)) (a7 (V 7 0 108 112 t p)) F.m7,k _ _ (a7 (V 1 0 102 109 t o)) (a7 (V 1 0 102 110 t o)) (a7 (V 1 0 102 112 t o)) F.m9,k _ _ (a7 (V 1 0 102 109 t l)) (a7 (V 1 0 102 110 t l)) (a7 (V 1 0 102 112 t l)) F.dl,F.v1,k _ _ (by lia) (by lia) (by lia) F.x5,K,
  λq w=>(F.kn q w).keep I,F.np,⟨k _ _ (a7 (V 0 0 40 109 t (be _))) (a7 (V 0 0 40 110 t (be _))) (a7 (V 0 0 40 112 t (be _))) F.tab.1,λq w=>(F.tab.2 q w).mono I⟩,F.cD⟩
theorem My {a b:List (Nat×Nat)}{q:Nat×Nat}(h:∀q∈a,q.1<6)(c:6<=q.1):(a++q::b).find? (λq=>decide (6<=q.1))=H q:=by
 rw [List.find?_append,List.find?_eq_none.mpr (λx d=>by have:=h x d;simp;exact this)];simp [c]
theorem Mz(au:Base g)(ae:k9 g u.params)(cn:m1 g u.params)(co:je g u.params)(av:l<=230)(cp:g 39=J){s m a4 n M aJ c aL z al a' aM a5:Nat}{O:List (Nat×Nat)}(ce:O.length=3)(cq:∀q∈O,q.1<8)
  (G:n=m+11)(T:c=m+9)(W:z=m+109)(ay:al<m)(bi:aM<m)(aP:s+6<m){cT:ac}(c9:aR g cT)(bj:m+113<=cT.heap.objs.size)(bk:∀x:Nat,m+101<=x->g x=J)(cs:g (s+101)=J){bP:ab}(ct:I cT (s+101) bP)(cf:∀bR,bP.data≠ .fields bR):
  ∀(bn o U:List (Nat×Nat)) K v ap C j A,eX j=[fd n,bb s]->O=o++bn->aa g (iO n c z) p cT C->ko u s m a4 n M aJ c aL al a' aM a5 (m+113) O o U K v ap C.heap->I C z (b2 (al+101) o.length)->jx c z o.length C.heap->(∀q∈o,q.1<6)->
   ai u l J j (eT n (c+101)) A (bI (eT n (c+101))) [] C (ei λaz am=>
    (az= .ok .next/\(∀q∈O,q.1<6)/\aa g (iO n c z) p cT am/\∃U K v ap,ko u s m a4 n M aJ c aL al a' aM a5 (m+113) O O U K v ap am.heap)\/
    (∃q,O.find? (λq=>decide (6<=q.1))=H q/\eV g (iO n c z) [n+101,s+101] [fd n,bb s] (dz q.1) (d2 (n+101:Nat)) (λh=>∃K o,TabAt (m+113) h K/\K.map (·.1)=fh (o.map (·.1))/\nq o O) cT az am)):=by
 intro bn;induction bn with
 |nil=>
  intro o U K v ap C j A bB aA w F bS c4 bc;rw [mo]at aA;subst aA;refine ai.dN λB bC=>ai.Dq (aG:=λbT am=>∀ar,ai u l J j (eT n (c+101)) ar (.pure bT) [] am _) (af:=a8) ?_ (λ_ ar _ h=>h ar) (λ_ _ h=>h.elim);refine(Mu au ae (bm t av) w.K c4 bS F.dl (V 3 0 2 0 t (ao ce)) (by simp [ca]) (bk _ (V 9 0 101 101 t (ao T))) (bk _ (V 109 0 101 0 t (ao W))) (a7 (aD 0 109 9 0 1 101 t (aB W) (ao T))) (a7 (aD 1 0 9 0 102 101 t ay (ao T))) (a7 (aD 1 0 109 0 102 0 t ay (ao W)))).mono ?_ (λ_ _ h=>h);refine λ_ k=>an ?_;rintro rfl;intro aQ ar;refine ai.again _ (by kernel_rfl) (lM (ak:=240) (bm t av) au aQ.K (D:=[]) a0 .nil (aC:=[]) a0 (λbD=>ae 15 _ ..) t (λc_ P _ aU _ _=> ?_));have cu:=aU.aE;have bU:aa g (r3 c z) p C P:=aQ.trans cu.zero;have cv:aa g (iO n c z) p cT P:=w.then bU (λx h=>h.elim (λh=> .inl (.inr (.inl h))) (λh=> .inl (.inr (.inr (.inl h))))) aF;refine bC _ _ (.inl ⟨t,bc,cv,U,K,v,ap,F.step G T ay bi aP (λb bV aV a9 bX h=>bU.fr _ _ h (λq=>q.elim (λq:b=c+101=>by lia) (λq:b=z=>by lia))) ?_⟩);refine aw F.ns (aH λbs=>an λa b=> ?_);exact⟨bs,bU.fr _ _ a (λq=>q.elim (λq:n+101=c+101=>a2 112 110 t (aq 112 101 0 9 (aq 11 0 101 101 (ao G) (aB q)) (aB T))) (λq:n+101=z=>a2 112 109 t (aq 112 0 0 109 (aq 11 0 101 0 (ao G) (aB q)) (aB W)))),b⟩
 |cons cw bn cx=>
  obtain ⟨d,aW⟩:=cw;intro o U K v ap C j A bB aA w F bS c4 bc;have Y:d<8:=cq (d,aW) (by rw [aA];simp);have cy:(ca O)[o.length]? =H (aj d aW):=by refine r aA ?_;simp [ca]
  have cg:o.length<=2:=by
   have:=ce;rw [aA]at this;simp at this;exact aD 1 0 0 3 0 2 t i8 (aB this)
  refine ai.dN λB bC=>ai.Dq (aG:=λbT am=>∀ar,ai u l J j (eT n (c+101)) ar (.pure bT) [] am _) (af:=λy am=>6<=d/\eV g (iO n c z) [n+101,s+101] [fd n,bb s] (dz d) .none (λh=>∃K o,TabAt (m+113) h K/\K.map (·.1)=fh (o.map (·.1))/\nq o O) cT (.error y) am) ?_ (λ_ ar _ h=>h ar) ?_
  ·refine(Mt au ae (bm t av) w.K c4 bS F.dl cy (bk _ (V 9 0 101 101 t (ao T))) (bk _ (V 109 0 101 0 t (ao W))) (a7 (aD 0 109 9 0 1 101 t (aB W) (ao T))) (a7 (aD 1 0 9 0 102 101 t ay (ao T))) (a7 (aD 1 0 109 0 102 0 t ay (ao W)))).mono ?_ (λ_ _ h=>h);refine λ_ k=>bo λa ch=>f9 ?_;rintro rfl;intro aQ c' cA cB cC;have bE:ko u s m a4 n M aJ c aL al a' aM a5 (m+113) O o U K v ap k.heap:=by
    refine F.step G T ay bi aP (λb bV aV a9 bX h=>aQ.fr _ _ h (λq=>q.elim (λq:b=c+101=>by lia) (λq:b=z=>by lia))) (aw F.ns (aH λbs=>an λa b=> ?_));exact⟨bs,aQ.fr _ _ a (λq=>q.elim (λq:n+101=c+101=>a2 112 110 t (aq 112 101 0 9 (aq 11 0 101 101 (ao G) (aB q)) (aB T))) (λq:n+101=z=>a2 112 109 t (aq 112 0 0 109 (aq 11 0 101 0 (ao G) (aB q)) (aB W)))),b⟩
   have cE:aa g (iO n c z) p cT k:=w.then aQ (λx h=>h.elim (λh=> .inl (.inr (.inl h))) (λh=> .inl (.inr (.inr (.inl h))))) aF;refine(?_:Q u l J j (eT n (c+101)) (d9 k5.1 (E c) (.ref a)) _ _ k);rw [Mv];refine Q.pure ?_;have bF:g (n+101)=none:=bk _ (V 11 0 101 101 t (ao G));have cF:Q u l J j (eT n (c+101)) (hZ k5.1 (fd n) (.ref a)) (λ_ P=>aa g (· =n+101) p k P/\∃a_,I P (n+101) (iJ u.params M aJ (m+108) c aL v (fF u.params a_ a))) a8 k:=by
    refine r ja (aw bE.ns (aH λbs=>an λbG=> ?_));rintro (rfl|⟨a_,y,rfl⟩)
    ·exact Q.eC (ak:=240) (bm t av) au aQ.K (db bG) (cK bF) (aC:=[]) ba (λbD A=>ae 10 _ ..) t (λbD P _ w as=>⟨w.bW,_,as _ _ aO⟩)
    ·exact Q.eC (ak:=240) (bm t av) au aQ.K (db bG) (cK bF) (aC:=[]) ba (λbD A=>ae 11 _ ..) t (λbD P _ w as=>⟨w.bW,_,as _ _ aO⟩)
   refine cF.mono (λ_ P a9=> ?_) (λ_ _ h=>h.elim);obtain ⟨aU,a_,bt⟩:=a9;have X:ko u s m a4 n M aJ c aL al a' aM a5 (m+113) O o U K v ap P.heap:=
    bE.step G T ay bi aP (λb bV aV a9 bX h=>aU.fr _ _ h (λq:b=n+101=>by lia)) ⟨_,bt,.inr (bh a_ a t)⟩
   have bu:aa g (iO n c z) p cT P:=cE.then aU (λx h=> .inl (.inl h)) aF;have cG:I P z (b2 (al+101) (o.length+1)):=aU.fr _ _ cB (λq:z=n+101=>a2 112 109 t (aq 112 0 0 109 (aq 11 0 101 0 (ao G) (ao q)) (aB W)));have lg:jx c z (o.length+1) P.heap:=by
    refine aw bE.ns (aH λbs=>an λbG _=> ?_);exact cC.only (a:=n+101) aU (λx h=> .inl h) bG t bE.tab.1 t
   refine r jb ?_;refine Q.mono (Q.cM (cJ:=λaz L=>(az= .ok .next/\d<6/\aa g (λx=>x=n+101\/x=39) p P L/\∃bY aY bZ,ko u s m a4 n M aJ c aL al a' aM a5 (m+113) O (o++[(d,aW)]) (U++[(bY,d)]) aY bZ 0 L.heap)\/
    (6<=d/\eV g p [n+101,s+101] [fd n,bb s] (dz d) .none (λh=>TabAt (m+113) h K) P az L)) λda=> ?_) ?_ ?_
   ·refine uP (ak:=240) (bm t av) au aU.K (aK bt (aK X.fn a6)) .nil ba t (cr:=8) (br:=l+8) (gj:=[fd n,bb s]) (λbH=>ae 12 _ ..) (λ_=>t) t (bw t)
     (λbH=>(ae 27 _ ..).trans bB)
     (R:=λbH a1 az L=>(d<6/\aa g (· =39) p a1 L/\∃bx a aY,az= .ok (.ret (E bx))/\@eY Nat _ a1.heap.objs.size (bx+101)/\I L (bx+101) (ah ((U.map λq=>E q.1)++[E a]) 0)/\fp (m+113) L.heap a d/\TabAt (m+113) L.heap aY/\aY.map (·.1)=(if c7 d∈K.map (·.1)then K.map (·.1)else K.map (·.1)++[c7 d]))\/
      (6<=d/\eV g p [n+101,s+101] [fd n,bb s] (dz d) .none (λh=>TabAt (m+113) h K) a1 az L)) ?_ ?_
    ·intro bH a1 cH b0 cI;refine aw b0 (aT λN _ cL=> ?_);have N:=N.aE;have b3:=N.ax bt;have aI:ko u s m a4 n M aJ c aL al a' aM a5 (m+113) O o U K v ap a1.heap:=X.step G T ay bi aP (λb bV aV a9 bX h=>N.ax h) ⟨_,b3,.inr (bh a_ a t)⟩;have dc:=w.aZ;have cN:I a1 a (fQ [aj o.length ch,aj d aW]):=N.ax (aU.fr _ _ cA (λq:a=n+101=>by lia));have cj:I a1 (s+101) bP:=N.ax (bu.fr _ _ ct (by
      rintro (q|q|q|q)
      ·have q:s+101=n+101:=q;exact a2 119 101 t (aq 112 101 7 0 (aq 11 0 101 101 (ao G) (ao q)) aP)
      ·have q:s+101=c+101:=q;exact a2 117 101 t (aq 110 101 7 0 (aq 9 0 101 101 (ao T) (ao q)) aP)
      ·have q:s+101=z:=q;exact a2 116 101 t (aq 109 101 7 0 (aq 109 0 0 101 (ao W) (ao q)) aP)
      ·have q:s+101=39:=q;exact a2 101 39 t (aq 101 39 0 0 (aB q) (be _))))
     have cO:U.length=o.length:=by
      have:=congrArg iu aI.np;simpa using this
     refine(Ms (l:=l+8) au ae cn co (V 0 230 8 240 t av) N.K cp (b_:=s) (m:=m) (p3:=a4) (v:=v) (x:=a) (i:=o.length) (hk:=ch) (d:=d) (eq:=aW) (bp:=aM) (cS:=a5) (j5:=ap) (lo:=m+113) aI.fn aI.cd aI.x5 aI.v1.1 (by rw [bM];exact aD 0 0 0 2 0 1000 t (aB cO) cg) cN Y aI.m7 aI.m9 (aS bj (aS bu.aZ N.aZ)) aI.tab (by
      rw [aI.cD];refine Dv _ (by rw [bM];exact cg) (λx as=> ?_);refine aw (hx.mp as) (aH λy=>an λb4=> ?_);rintro rfl;exact bc y b4) (f6.cons (f6.cons f6.nil Mx t ci cj cf) Mw t aO b3 (λbR q=>by cases q)) (λx as=>by
      rcases b8.mp as with rfl|as
      ·exact⟨bF,_,b3,λbR q=>by cases q⟩
      ·rw [bQ]at as;subst as;exact⟨cs,_,cj,cf⟩)).mono λaz L h=>h
    ·rintro bH a1 L q dd cH ck b0 cI cP;refine aw b0 (aT λN _ cL=> ?_);have N:=N.aE;have bJ:=N.aZ;have bK:=bu.aZ;refine l2 λZ cz=> ?_;rcases cP with⟨b5,a3,bx,cQ,aY,rfl,bL,cR,cU,cl,cV⟩|⟨bd,b6,b7,e,b9,rfl,bz,b',bN,cb,f⟩<;>refine cz ?_
     ·have cW:I L (n+101) (iJ u.params M aJ (m+108) c aL v (fF u.params a_ a)):=a3.fr _ _ (N.ax bt) (λq:n+101=39=>a2 101 39 t (aq 101 39 0 0 (aB q) (be _)));refine eU (ak:=240) (bm t av) au a3.K (db cW) (cK bF) ba ck (λcc=>ae 13 _ ..) (λ_=>t) t ?_;intro cc cd cX bO cY de;have bO:=bO.bW;have bA:∀(b:Nat) w,b≠n+101->I L b w->I cd b w:=λb w aV h=>bO.fr _ _ h aV;have bf:∀(b:Nat) w,b≠n+101->b≠39->I P b w->I cd b w:=λb w aV a9 h=>bA b w aV (a3.fr _ _ (N.ax h) a9);refine .inl ⟨t,b5,((N.zero.then a3 (λx h=> .inl (.inr h)) aF).then bO (λx h=> .inl (.inl h)) aF),cQ,aY,bx+101, ?_⟩;refine⟨bf _ _ (a7 (V 11 0 109 101 t (ao G))) (aX (V 0 0 40 108 t (be _))) X.fn,bf _ _ (a7 (V 11 0 108 101 t (ao G))) (aX (V 0 0 40 107 t (be _))) X.cd,bf _ _ (a7 (aD 7 0 11 0 108 101 t aP (ao G))) (aX (V 0 0 40 107 t (be _))) X.m7,bf _ _ (a7 (aD 1 0 11 0 102 101 t bi (ao G))) (aX (V 0 0 40 101 t (be _))) X.m9,bf _ _ (a7 (aD 1 0 11 0 102 101 t ay (ao G))) (aX (V 0 0 40 101 t (be _))) X.dl,⟨V 0 0 101 101 t (be _),aX (aD 113 11 0 101 102 101 t (aq 113 11 0 0 (aq 113 11 0 0 (aq 0 11 113 0 (aB G) bj) bK) bJ) bL),aX (aD 113 9 0 101 102 101 t (aq 113 9 0 0 (aq 113 9 0 0 (aq 0 9 113 0 (aB T) bj) bK) bJ) bL),aX (aD 113 0 0 101 110 101 t (aq 113 0 0 0 (aq 113 0 0 0 bj bK) bJ) bL)⟩, ?_,⟨_,cY _ _ aO,.inr (bh a_ a t)⟩,λq S=> ?_, ?_, ?_, ?_⟩
      ·exact r e8 (bA _ _ (aX (aD 113 11 0 101 102 101 t (aq 113 11 0 0 (aq 113 11 0 0 (aq 0 11 113 0 (aB G) bj) bK) bJ) bL)) cR)
      ·rcases is.mp S with S|S
       ·exact(X.kn q S).keep λb w bg=>bf b w (aX (aD 0 11 113 0 102 0 t (aB G) bg)) (aX (aD 0 0 113 0 40 0 t (be _) bg))
       ·rw [bQ]at S;subst S;exact cU.keep λb w bg=>bA b w (aX (aD 0 11 113 0 102 0 t (aB G) bg))
      ·rw [e8,e8,X.np];rfl
      ·exact⟨bA 39 _ (a7 (V 0 0 40 101 t (be _))) cl.1,λq S=>(cl.2 q S).mono λb w bg=>bA b w (aX (aD 0 11 113 0 102 0 t (aB G) bg))⟩
      ·rw [cV,X.cD,e8];exact(Du _ _).symm
     ·refine uS (ak:=240) (bm t av) au (f.K bz.K (oE bz.K bN)) a6 .nil ba ck (λcc=>ae 14 _ ..) (λ_=>t) t (λcc cd cX cm=> ?_);exact .inr ⟨bd,eV.pre N (h4 b6 b7 e b9 ⟨t,bz,b',bN,cb,f.only cm.1.aE (by rw [cm.2.2];rfl)⟩)⟩
   ·rintro f L (⟨h,b5,a3,bY,aY,bZ,cZ⟩|⟨_,_,_,_,_,h,_⟩)
    ·injection h with h;subst h;have c0:aa g (iO n c z) p cT L:=bu.then a3 (λx h=>h.elim (λh=> .inl (.inl h)) (λh=> .inl (.inr (.inr (.inr h))))) aF;have c1:I L z (b2 (al+101) (o.length+1)):=a3.fr _ _ cG (λq=>q.elim (λq:z=n+101=>a2 112 109 t (aq 112 0 0 109 (aq 11 0 101 0 (ao G) (ao q)) (aB W))) (λq:z=39=>a2 109 39 t (aq 109 39 0 0 (aq 109 0 0 39 (ao W) (aB q)) (be _))));have c2:jx c z (o.length+1) L.heap:=lg.only (a:=n+101) a3 (λx h=>h) bt t X.tab.1 t;intro ar;refine ai.again _ (by kernel_rfl) (ai.imp ?_ bC);exact cx (o++[(d,aW)]) (U++[(bY,d)]) aY bZ 0 L j ar bB (by rw [aA];simp) c0 cZ (by exact r e9 c1) (by rw [e9];exact c2) (λq S=>by
      rcases is.mp S with S|S
      ·exact bc q S
      ·rw [bQ]at S;subst S;exact b5)
    ·cases h
   ·rintro x L (⟨h,_⟩|⟨bd,h⟩)
    ·cases h
    ·exact⟨bd,(h.pre bu).imp λh c3=>bh K o ⟨c3,F.cD,bc,(d,aW),bn,bd,aA⟩⟩
  ·refine λy am=>an λbd=>gL λb6 b7 e b9=>f9 λb4 bz b' bN cb f=> ?_;cases b4;refine Q.anyF bB (bl (x3 (bv:=n+101) t t f.km λaV c5 c6=>wpAny_theTreesLotGoes (bC _ _ (.inr ⟨(d,aW),by refine r aA ?_;exact My bc bd,b6,b7,e,b9,t,bz,b',bN,cb,f.r1 c5 c6⟩))))
end
open PyProof.Rows (AllBare)
section
variable {C d am:ac}{m:bX}
theorem Dy {b:List cb}:∀a:List cb,c6 (a++b) m=c6 a m>>=λf=>match f with
  | .next=>c6 b m
  |f=>pure f
 | []=>by
  refine(?_:c6 b m=(pure dQ.next:aI dQ)>>=_);rw [s0]
 |st::a=>by
  rw [List.cons_append,sN,sN,bind_assoc];refine congrArg (λk=>jF st m>>=k) (funext λf=> ?_);cases f with
  |next=>exact Dy a
  |brk=>exact(s0 _ _).symm
  |cont=>exact(s0 _ _).symm
  |ret v=>exact(s0 _ _).symm
theorem Q.Dz {d e:List cb}{b:dQ->ac->Prop}{af:O->ac->Prop}(h:Q u l Y j c (c6 d m) (λf am=>match f with| .next=>Q u l Y j c (c6 e m) b af am|f=>b f am) af C):Q u l Y j c (c6 (d++e) m) b af C:=by
 rw [Dy];refine Q.bind (h.mono (λf am a=> ?_) λ_ _ h=>h);cases f with
 |next=>exact a
 |brk=>exact Q.pure a
 |cont=>exact Q.pure a
 |ret v=>exact Q.pure a
theorem f5.MA {c:aY}{g:List bX}{e M:Nat}{m:c0}{h:O}{C d a:ac}(f:f5 c g e M m h C d)(k:∀b i,I d b i->I a b i)(j:a.gens=d.gens)(l:a.drawn=d.drawn)(n:a.os=d.os):f5 c g e M m h C a:=by
 refine aw f.arg (bo λo p q=> ?_);exact⟨f.km.keep k,bh o p (k _ _ q),f.up.trans (.of_keeps k),f.lo,j.trans f.ct,l.trans f.eP,n.trans f.os⟩
theorem eV.DA {g:Nat->Option ab}{a c:ae->Prop}{d:List Nat}{i:List bX}{m:c0}{j:O}{P:aY->Prop}{b C am:ac}{k:bZ}(l:aa g a p b C)(n:∀x,c x->a x\/b.heap.objs.size<=x)(h:eV g c d i m j P C k am):eV g a d i m j P b k am:=by
 refine aw h (gL λo q e M=>f9 λr s t u v f=> ?_);exact h4 o q e M ⟨r,l.then s n aF,λx w=>(t x w).imp id (aS l.aZ),u,v,f⟩
noncomputable def ma(m:Nat):ae->Prop:=λx=>x=m+110\/x=m+109\/x=39
noncomputable def lh(lo:Nat)(b:List (Nat×Nat))(v:Nat)(h:aY):Prop:=∃(a:List (Nat×Nat)) (c:List (Nat×ae)) (d:Nat),h.get? (v+101)=H (ah (a.map λq=>E q.1) d)/\(∀q∈a,fp lo h q.1 q.2)/\a.map (·.2)=b.map (·.1)/\TabAt lo h c
theorem MB(ac:Base g)(U:k9 g u.params)(bG:m1 g u.params)(bH:je g u.params)(ae:l<=220)(K:aR g C)(bI:g 39=J){s m aU ap aV ar aX:Nat}{k:List (Nat×Nat)}(bJ:k.length=3)(bK:∀q∈k,q.1<8)
  (aY:ap<m)(aZ:ar<m)(aI:s+6<m)(bc:C.heap.objs.size=m+112)(bd:∀x:Nat,m+101<=x->g x=J)(bL:g (s+101)=J){bf:ab}(bM:I C (s+101) bf)(bN:∀bO,bf.data≠ .fields bO)
  (bP:I C (m+108) (de (rQ s m)))(bR:I C (m+107) (rR m aU))(bS:I C (s+107) (a' (E ar)))(bT:I C (ar+101) (ah (eE aX) 0))(bU:I C (ap+101) (ah (ca k) aV))
  (bV:I C (m+109) (b2 (ap+101) 0)){a1:O}(bg:I C (m+9+101) (jt .none aN (m+109) 0 a1))(bh:I C (m+10+101) (ah [] 0))(bX:I C 39 (co ⟨[]⟩)):
  fg u l J [bb s] (.call (.ref 30) ⟨[.ref (m+108),E (m+9),E (m+10)],[]⟩) C λD am=>
   ((∀q∈k,q.1<6)/\aa g (ma m) p C am/\∃v,D= .ok (.ret (E v))/\lh (m+113) k v am.heap)\/
   (∃q,k.find? (λq=>decide (6<=q.1))=H q/\eV g (ma m) [s+101] [bb s] (dz q.1) .none (λh=>∃o B,TabAt (m+113) h o/\o.map (·.1)=fh (B.map (·.1))/\nq B k) C D am):=by
 refine fg.c1 λj A bi=> ?_;refine uO (ak:=230) (bm t ae) ac K a6 .nil ba t (nn:=rN) (λn=>U 1 _ ..) (λ_=>t) t (λn=>by kernel_rfl) (λn d cy as bY bZ=> ?_);have w:n=m+11:=dF (aD 101 0 0 112 0 11 t (ao as) (aB bc)) (aD 112 0 0 101 11 0 t (ao bc) (aB as));refine aw bY (aT λP b0 cA=> ?_);have P:=P.aE;have b3:=b0 _ _ aO;refine ai.Dp (aG:=λbj c=>(∀q∈k,q.1<6)/\aa g (ma m) p C c/\∃v,bj= .ret (E v)/\lh (m+113) k v c.heap)
  (af:=λx c=>∃q,k.find? (λq=>decide (6<=q.1))=H q/\eV g (ma m) [n+101,s+101] [fd n,bb s] (dz q.1) (d2 (n+101:Nat)) (λh=>∃o B,TabAt (m+113) h o/\o.map (·.1)=fh (B.map (·.1))/\nq B k) C (.error x) c) ?_ ?_ ?_
 ·have b4:c6 l6.1 (fd n)=c6 (l6.1.take 3++l6.1.drop 3) (fd n):=by rw [yR]
  refine r b4 (Q.Dz ?_);refine r jb ?_;refine Q.mono (Q.cM (cJ:=λD c=>(D= .ok .next/\(∀q∈k,q.1<6)/\aa g (iO n (m+9) (m+109)) p d c/\∃M bk W o v X,ko u s m aU n M bk (m+9) (m+10) ap aV ar aX (m+113) k k W o v X c.heap)\/
   (∃q,k.find? (λq=>decide (6<=q.1))=H q/\eV g (iO n (m+9) (m+109)) [n+101,s+101] [fd n,bb s] (dz q.1) (d2 (n+101:Nat)) (λh=>∃o B,TabAt (m+113) h o/\o.map (·.1)=fh (B.map (·.1))/\nq B k) d D c)) λb5=> ?_) ?_ ?_
  ·have b9:g (n+101)=none:=bd _ (V 11 0 101 101 t (ao w));refine uP (ak:=230) (bm t ae) ac P.K (aK b3 (aK (P.ax bg) (aK (P.ax bh) a6))) (b6.head b9 (λy aJ=>by
    rcases b8.mp aJ with rfl|aJ
    ·refine(?_:(m+9+101:Nat)≠n+101);exact a7 (V 11 0 111 101 t (ao w))
    ·rw [bQ]at aJ;subst aJ;refine(?_:(m+10+101:Nat)≠n+101);exact a7 (V 11 0 112 101 t (ao w)))) ba t (cr:=8) (br:=l+8) (gj:=[fd n,bb s]) (λau=>U 2 _ ..) (λ_=>t) t (bw t)
    (λau=>(U 28 _ ..).trans (by refine r bi ?_;rfl))
    (R:=λau c D aj=>(D= .ok .next/\(∀q∈k,q.1<6)/\aa g (iO n (m+9) (m+109)) p c aj/\∃W o v X,ko u s m aU n C.toks d.toks (m+9) (m+10) ap aV ar aX (m+113) k k W o v X aj.heap)\/
     (∃q,k.find? (λq=>decide (6<=q.1))=H q/\eV g (iO n (m+9) (m+109)) [n+101,s+101] [fd n,bb s] (dz q.1) (d2 (n+101:Nat)) (λh=>∃o B,TabAt (m+113) h o/\o.map (·.1)=fh (B.map (·.1))/\nq B k) c D aj)) ?_ ?_
   ·intro au c bn a2 bo;refine aw a2 (aT λz bp b_=> ?_);have z:=z.bW;have G:∀(b:Nat) S,b≠n+101->I C b S->I c b S:=λb S T h=>z.fr _ _ (P.ax h) T;refine fg.c1 λb' cb cc=>Mz ac U bG bH (l:=l+8) (V 0 220 8 230 t ae) bI bJ bK w t t aY aZ aI (cT:=c) z.K (aD 113 101 101 0 113 0 t (aq 113 0 0 101 (aq 11 0 102 0 (ao w) (ao bZ)) (aB bn)) (ao bo)) bd bL (G _ _ (a7 (aD 7 0 11 0 102 101 t aI (ao w))) bM) bN k [] [] [] (m+10+101) 0 c b' cb cc t (aa.refl z.K) ?_ (G _ _ (a7 (V 11 0 110 101 t (ao w))) bV) (.inl ⟨t,a1,G _ _ (a7 (V 11 0 111 101 t (ao w))) bg⟩) a0;exact⟨G _ _ (a7 (V 11 0 109 101 t (ao w))) bP,G _ _ (a7 (V 11 0 108 101 t (ao w))) bR,G _ _ (a7 (aD 7 0 11 0 108 101 t aI (ao w))) bS,G _ _ (a7 (aD 1 0 11 0 102 101 t aZ (ao w))) bT,G _ _ (a7 (aD 1 0 11 0 102 101 t aY (ao w))) bU,⟨V 0 0 101 111 t (be _),a7 (V 11 0 112 101 t (ao w)),bA 111 110 t,bA 111 109 t⟩,G _ _ (a7 (V 11 0 112 101 t (ao w))) bh,⟨[],bp _ _ aO,.inl t⟩,a0,t,⟨G _ _ (a7 (V 0 0 40 101 t (be _))) bX,a0⟩,t⟩
   ·rintro au c aj q bs bn bt a2 bo cd;refine aw a2 (aT λz bp b_=> ?_);have z:=z.bW;have bx:aa g (iO n (m+9) (m+109)) p d c:=z.mono (λx h=> .inl (.inl h)) aF;refine l2 λZ cz=> ?_;rcases cd with⟨rfl,av,bz,W,o,v,X,F⟩|⟨ce,L,a3,a4,e,M,rfl,aL,a5,ay,a8,f⟩<;>refine cz ?_
    ·refine eU (ak:=230) (bm t ae) ac bz.K a6 .nil ba bt (λaM=>U 3 _ ..) (λ_=>t) t ?_;intro aM cf cg N bB cB;have N:=N.aE;refine .inl ⟨t,av,(bx.trans bz).trans N.zero,C.toks,d.toks,W,o,v,X,F.step w t aY aZ aI (λb cC aP a9 bC h=>N.ax h) ?_⟩;refine aw F.ns (aH λbD=>an λa b=> ?_);exact⟨bD,N.ax a,b⟩
    ·refine aw (id f.km) (bu λ_ _ _=>i6 λY aP a9 bC ch=>bu λci bE aA ck=> ?_);have cl:g Y=none:=by
      cases L:g Y with
      |none=>rfl
      |some S=>rw [oE aL.K ay Y S L]at aA;cases aA
     refine uS (ak:=230) (bm t ae) ac (f.K aL.K (oE aL.K ay)) (aK (az:=CR (.type "RuntimeError") (.ref M) Y [.none,.none,.bool aN,.none]) ci (aK bE a6)) ?_ ba bt (λaM=>U 4 (m+108) (m+9) (m+10) C.toks n au d.toks d.gens.size j b5 a1 (m+109) [] 0 aM aj.toks aj.gens.size bs e 0 Y (.type "RuntimeError") (.ref M) aP a9 bC (d2 (n+101:Nat)) [.none,.none,.bool aN,.none] ch) (λ_=>t) t (λaM cf cg cm=> ?_)
     ·intro i bF a a_;rw [bQ]at bF;subst bF;injection a_ with a_;subst a_;refine⟨cl,λcn b aC cp=> ?_⟩
      match cn,aC with
      |0,aC=>injection aC with aC;exact r (cj aC) (λh=>ck h.symm)
      |1,_=>exact absurd t cp
     ·refine aw cm (aT λN bB cq=> ?_);have cs:=bB _ _ aO;refine .inr ⟨ce,L,eV.DA bx (λx h=> .inl h) (h4 a3 a4 e M ⟨t,aL,a5,ay,a8,f.MA (λb S T=> ?_) (by rw [cq];rfl) N.eP N.os⟩)⟩
      by_cases aA:b=Y
      ·subst aA;unfold I at T;rw [bE]at T;injection T with T;rw [<-T];exact cs
      ·refine N.fr _ _ T λq=>aA ?_;have:b∈[Y]:=q
       rwa [bQ]at this
  ·rintro f c (⟨h,av,z,M,bk,W,o,v,X,F⟩|⟨_,_,_,_,_,_,h,_⟩)
   ·injection h with h;subst h;obtain ⟨aQ,rfl⟩:∃aQ,v=aQ+101:=⟨v-101,by have:=F.v1.1;exact dF ((qs (aW _))) ((ew (ir (this))))⟩;refine aw F.ns (aH λbD=>an λct _=> ?_);refine(?_:Q u l J j (rN n) (b7 (l6.1.drop 3) (fd n)) _ _ c);refine Q.mono (Q.cM (cJ:=λD aS=>D= .ok (.ret (E aQ))/\aa g p p c aS) λbs=>mV (ak:=230) (bm t ae) ac z.K (db ct) .nil ba (λcu=>U 5 _ ..) t (λcu aS _ al _ _=>⟨t,al.aE⟩)) ?_ ?_
    ·refine λf aS=>an λh al=> ?_;injection h with h;subst h;refine⟨av,((P.zero.then z (λx h=> ?_) aF).trans al.zero),aQ,t,W,o,X,al.ax F.x5,λq L=>(F.kn q L).keep λb S _ h=>al.ax h,F.np,F.tab.keep λb S h=>al.ax h⟩;rcases h with h|h|h|h
     ·have h:x=n+101:=h;exact .inr (by rw [h];refine(?_:C.heap.objs.size<=n+101);exact(aB as))
     ·exact .inl (.inl h)
     ·exact .inl (.inr (.inl h))
     ·exact .inl (.inr (.inr h))
    ·refine λx aS=>an λh _=> ?_;cases h
   ·cases h
  ·rintro x c (⟨h,_⟩|⟨q,L,h⟩)
   ·cases h
   ·refine⟨q,L,eV.DA P.zero (λx h=> ?_) h⟩;rcases h with h|h|h|h
    ·have h:x=n+101:=h;exact .inr (by rw [h];refine(?_:C.heap.objs.size<=n+101);exact(aB as))
    ·exact .inl (.inl h)
    ·exact .inl (.inr (.inl h))
    ·exact .inl (.inr (.inr h))
 ·refine λbj c=>aT λav z=>aH λv=>an ?_;rintro rfl;intro h;exact .inl ⟨av,z,v,t,h⟩
 ·refine λx c=>aH λq=>an λL=>gL λa3 a4 e M=>f9 λaP z a5 ay a8 f=> ?_;cases aP;refine Q.anyF bi ?_;unfold lx;refine bl (Ml (bv:=n+101) t f.km (uN f.km λa9 cv cw=> .inr ⟨q,L,a3,a4,e,M,t,z,λx cx=> ?_,ay,a8,f.r1 cv.tail cw⟩));rcases a5 x cx with h|h
  ·rcases b8.mp h with rfl|h
   ·exact .inr ((aB as))
   ·exact .inl h
  ·exact .inr h
end
open PyProof.Rows (AllBare)
noncomputable def DB:=0 where
 nr(n:Nat):ae->Prop:=λx=>x=n+101\/x=96\/x=39
 r4:ae->Prop:=λx=>x=96\/x=39
 x6(lo:Nat)(c:List (Nat×Nat)):aY->Prop:=λh=>∃a b,TabAt lo h a/\a.map (·.1)=fh (b.map (·.1))/\nq b c
open DB
theorem MC(T:Base g)(G:k9 g u.params)(aH:m1 g u.params)(aI:je g u.params)(K:aR g C)(aJ:g 39=J)(aL:g 96=J)(aM:eX j=[]){m bL aP bU af ai bp cS:Nat}{i:List (Nat×Nat)}(aQ:i.length=3)(aU:∀q∈i,q.1<8)
  (s:C.heap.objs.size=m+101)(aV:bL<m)(aY:bL≠n)(a0:bp<m)(W:n+6<m)(au:g (n+101)=J)
  (aj:I C (n+101) (ek [U u.params k af (E bL),U u.params dh ai (E bU)]))(a1:I C 96 (co ⟨[]⟩))(a3:I C 39 (co ⟨[]⟩))(av:I C (bL+101) (ah (ca i) aP))
  (a4:I C (n+107) (a' (E bp)))(a7:I C (bp+101) (ah (eE cS) 0)):
  Q u 0 J j (cn n) (b7 (kf.take 1) (bb n)) (λf l=>f= .next/\(∀q∈i,q.1<6)/\aa g (nr n) p C l/\∃al v D,I l (n+101) (ek [U u.params k af (E bL),U u.params dh ai (E bU),U u.params fW al (E v)])/\lh (m+113) i v l.heap/\I l 96 (co ⟨[.int 121 0,.int 25 0,.ref D]⟩))
   (λx l=>∃q,i.find? (λq=>decide (6<=q.1))=H q/\eV g r4 [n+101] [bb n] (dz q.1) .none (λh=>x6 (m+113) i h/\∃D,h.get? 96=H (co ⟨[.int 121 0,.int 25 0,.ref D]⟩)) C (.error x) l) C:=by
 refine Q.mono (Q.cM (cJ:=λL l=>(L= .ok .next/\(∀q∈i,q.1<6)/\aa g (nr n) p C l/\∃al v D,I l (n+101) (ek [U u.params k af (E bL),U u.params dh ai (E bU),U u.params fW al (E v)])/\lh (m+113) i v l.heap/\I l 96 (co ⟨[.int 121 0,.int 25 0,.ref D]⟩))\/(∃q,i.find? (λq=>decide (6<=q.1))=H q/\eV g r4 [n+101] [bb n] (dz q.1) .none (λh=>x6 (m+113) i h/\∃D,h.get? 96=H (co ⟨[.int 121 0,.int 25 0,.ref D]⟩)) C L l)) λA=> ?_) ?_ ?_
 ·refine uP (ak:=0) (aW 0) T K (aK aj (aK a1 (aK av a6))) (.nodup (s9 (a:=n+101) (b:=96) (c:=bL+101) (i5 t).symm (λq=>aY (f7 q).symm) (i5 t)) (a_ (eo aL) dG)) ba t (cr:=8) (br:=8) (gj:=[bb n]) (λd=>G 0 _ ..) (λ_=>t) t (a5 t) (λd=>(G 29 _ ..).trans (by refine r aM ?_;rfl))
   (R:=λd w L X=>((∀q∈i,q.1<6)/\aa g (ma m) p w X/\∃v,L= .ok (.ret (E v))/\lh (m+113) i v X.heap)\/(∃q,i.find? (λq=>decide (6<=q.1))=H q/\eV g (ma m) [n+101] [bb n] (dz q.1) .none (λh=>∃Y ax,TabAt (m+113) h Y/\Y.map (·.1)=fh (ax.map (·.1))/\nq ax i) w L X)) ?_ ?_
  ·intro d w F am an;have e:d=m:=dF (aD 101 0 0 101 0 0 t (ao F) (aB s)) (aD 101 0 0 101 0 0 t (ao s) (aB F));subst e;refine aw am (aT λo y a8=> ?_);have N:∀(b:Nat) O,b≠96->I C b O->I w b O:=λb O z h=>o.fr _ _ h (λq=>z (by
    have:b∈[96]:=q
    rwa [bQ]at this))
   exact MB T G aH aI (a5 t) o.K aJ aQ aU aV a0 W (dF ((aB an)) ((ao an))) (λx ap=>K.fresh (by rw [F];exact ap)) au (N _ _ (aX (V 0 0 97 101 t (be _))) aj) (λbD q=>by cases q) (y _ _ dK) (y _ _ ci) (N _ _ (aX (V 0 0 97 107 t (be _))) a4) (N _ _ (aX (V 0 0 97 101 t (be _))) a7) (N _ _ (aX (V 0 0 97 101 t (be _))) av)
    (y _ _ kI) (y _ _ q6) (y _ _ tb) (N _ _ (bA 39 96 t) a3)
  ·rintro d w X q bE F ay am an a9;have e:d=m:=dF (aD 101 0 0 101 0 0 t (ao F) (aB s)) (aD 101 0 0 101 0 0 t (ao s) (aB F));subst e;refine aw am (aT λo y a8=> ?_);have o:aa g (λx=>x=96) p C w:=o.mono (λx h=> .inl (by
    have:x∈[(96:ae)]:=h
    rwa [bQ]at this)) aF
   have ar:∀b:Nat,b<d+101->b≠39->¬ma d b:=λb z bc h=>by
    rcases h with h|h|h
    ·have h:b=d+110:=h;exact a2 111 101 t (aq 1 101 110 0 z (ao h))
    ·have h:b=d+109:=h;exact a2 110 101 t (aq 1 101 109 0 z (ao h))
    ·exact bc h
   have cY:∀x,ma d x->nr n x\/C.heap.objs.size<=x:=λx h=>by
    rcases h with h|h|h
    ·exact .inr (by rw [h,s];exact ey (by decide) d)
    ·exact .inr (by rw [h,s];exact ey (by decide) d)
    ·exact .inl (.inr (.inr h))
   have bd:aa g (nr n) p C w:=o.mono (λx h=> .inl (.inr (.inl h))) aF;have bf:∀x,ma d x->r4 x\/C.heap.objs.size<=x:=λx h=>by
    rcases h with h|h|h
    ·exact .inr (by rw [h,s];exact ey (by decide) d)
    ·exact .inr (by rw [h,s];exact ey (by decide) d)
    ·exact .inl (.inr h)
   have bg:aa g r4 p C w:=o.mono (λx h=> .inl (.inl h)) aF;refine l2 λZ cz=> ?_;rcases a9 with⟨bh,ab,v,rfl,bi⟩|⟨bj,P,bk,bl,e,M,rfl,ac,bm,az,bn,f⟩<;>refine cz ?_
   ·have aA:=ab.fr _ _ (o.fr _ _ aj (λq:n+101=96=>a2 101 96 t (aq 101 96 0 0 (aB q) (be _)))) (ar _ (V 7 0 102 101 t W) (aX (V 0 0 40 101 t (be _))));have bo:=ab.fr _ _ (y _ _ aO) (ar 96 (V 0 0 97 101 t (be _)) (by decide));refine eU (ak:=0) (aW 0) T ab.K (aK aA a6) (cK au) ba ay (λas=>G 21 _ ..) (λ_=>t) t ?_;intro as bs bt B bv bF;have B:=B.bW;refine aw bi (cE λbw Y bx=>bu λS bz bB aC=> ?_);refine .inl ⟨t,bh,(bd.then ab (λx h=> ?_) aF).then B (λx h=> .inl (.inl h)) aF,_,v,d+107,bv _ _ aO,dT bw Y bx ⟨B.fr _ _ S (λq=> ?_),λq P=>(bz q P).keep λb O z h=>B.fr _ _ h (λq:b=n+101=>a2 120 101 t (aq 120 0 0 101 (aq 7 0 113 0 W z) (aB q))),bB,B.fr _ _ aC.1 (λq:39=n+101=>a2 101 39 t (aq 101 39 0 0 (ao q) (be _))),λq P=>(aC.2 q P).mono λb O z h=>B.fr _ _ h (λq:b=n+101=>a2 120 101 t (aq 120 0 0 101 (aq 7 0 113 0 W z) (aB q)))⟩,B.fr _ _ bo (λq:96=n+101=>a2 101 96 t (aq 101 96 0 0 (ao q) (be _)))⟩
    ·exact cY x h
    ·have q:v+101=n+101:=q;rw [q,aA]at S;injection S with S;exact dA (congrArg ha S) (by decide)
   ·refine uS (ak:=0) (aW 0) T (f.K ac.K (oE ac.K az)) a6 .nil ba ay (λas=>G 22 _ ..) (λ_=>t) t (λas bs bt aG=> ?_);exact .inr ⟨bj,P,bk,bl,e,M,t,bg.then ac bf aF,λx ap=>(bm x ap).imp id (aS o.aZ),az,⟨bn,d+107,ac.fr _ _ (y _ _ aO) (ar 96 (V 0 0 97 101 t (be _)) (by decide))⟩,f.only aG.1.aE (by rw [aG.2.2];rfl)⟩
 ·rintro f l (⟨h,bC⟩|⟨_,_,_,_,_,_,h,_⟩)
  ·injection h with h;exact⟨h,bC⟩
  ·cases h
 ·rintro x l (⟨h,_⟩|h)
  ·cases h
  ·exact h
open PyProof.Rows (AllBare)
section
variable {l br:Nat}{Y fm:Option O}{m:bX}
theorem ai.MD {m:aI b0}{aG:b0->ac->Prop}{af:O->ac->Prop}(ok:cw w=ag)(s:dp (l+cW c w) br=ag)(t:(fw w (Y,Y)).1=fm)(v:Q u br fm (w.map cU++j) c m aG af C)
  (x:∀f g b,aG f b->ai u l Y j c g (.pure f) w b B)(y:∀a g b,af a b->ai u l Y j c g (.raise a) w b B):ai u l Y j c A m w C B:=λd i h k=>by
 have o:=iy h w ok;rw [i]at o;have z:(d.over w).Below (di fm br):=by
  have L:=jP c w;have M:=jQ c w;have p:l+cW c w<=br:=cP s;have D:=h.2.1;have E:=h.2.2.2.2;refine⟨?_, ?_,(λN F=>by cases F),(λP G=>by cases G), ?_⟩
  ·rw [o.1,<-t];rfl
  ·have q:gm d.below<=301+l:=D;refine(?_:gm (w.map cU++d.below)<=301+br);rw [frameCount_append];exact zw q (jP c w) p
  ·have q:fK d.below<=4+3*l:=E;refine(?_:fK (w.map cU++d.below)<=4+3*br);rw [unitsOf_append];exact zw q (jQ c w) (qo 3 _ _▸qp 3 p)
 have e:m=m.wrap (λf=>(.pure f:aI b0)) .raise id id:=by
  rw [<-qN];exact(bind_pure m).symm
 refine r e ?_;refine aw (oZ (Γ:=d) (fs:=w) (Φ:=λe b=>e.quiet=ag/\B e b) (λf=>(.pure f:aI b0)) .raise id id m (v (d.over w) A i z (by refine(?_:w.map cU++d.below=_);refine r k ?_;rfl))
  (λa g b n=>x a g b n d i h k) (λa g b n=>y a g b n d i h k)) (bo λe b=>an λI K=> ?_)
 exact bh e b ⟨I,K⟩
theorem Q.x7 {x y:Expr}{pos}{f:aI O}{e:Bool->ac->Prop}{af:O->ac->Prop}(h:Q u l Y j c (g9 x m (dR x m)) (λb a=>if b then e ag a else Q u l Y j c (g9 y m (dR y m)) e af a) af C):
  Q u l Y j c (g9 (.BoolOp .Or [x,y] pos) m f) e af C:=by
 rw [show g9 (.BoolOp .Or [x,y] pos) m f=allTrue .Or [x,y] m from arm_isTrue_BoolOp ..,vT];refine Q.bind (h.mono (λb a d=> ?_) λ_ _ h=>h);cases b with
 |true=>exact Q.pure d
 |false=>
  refine(?_:Q u l Y j c (allTrue .Or [y] m) e af a);rw [vT];refine Q.bind (Q.mono d (λb a d=> ?_) λ_ _ h=>h);cases b with
  |true=>exact Q.pure d
  |false=>exact Q.pure d
theorem Q.ME {x:Expr}{a:List Expr}{pos}{e:aI O}{f:Bool->ac->Prop}{af:O->ac->Prop}(h:Q u l Y j c (g9 x m (dR x m)) (λb g=>b=aN/\f aN g) af C):
  Q u l Y j c (g9 (.BoolOp .And (x::a) pos) m e) f af C:=by
 rw [show g9 (.BoolOp .And (x::a) pos) m e=allTrue .And (x::a) m from arm_isTrue_BoolOp ..,vT];refine Q.bind (h.mono (λb g d=> ?_) λ_ _ h=>h);obtain ⟨rfl,d⟩:=d;exact Q.pure d
theorem Q.plain {e:Expr}{b:aI O}{d:Bool->ac->Prop}{af:O->ac->Prop}(h:Q u l Y j c b (λv f=>Q u l Y j c (truthy v) d af f) af C)
  (g:g9 e m b=(do let v<-b;standAt e.pos;holding [v] (truthy v))):Q u l Y j c (g9 e m b) d af C:=by
 exact r g (Q.bind (h.mono (λa f i=>Q.jV (Q.hold i)) λ_ _ h=>h))
end
theorem MF(b a c n d:Nat)(v:O):xJ b a c n d v=(d9 fG.1 (E d) v>>=λ_=>hZ fG.1 (gU 2 b n a c) v>>=λ_=>c6 fG.2.1 (gU 2 b n a c)>>=λf=>(match f with
 | .next| .cont=> .pure (.again (hl b a c n d))
 | .brk=> .pure (.done .next)
 | .ret v=> .pure (.done (.ret v)):aI b0)).onRaise λx=>(y' x (gU 2 b n a c)).bind λ_=>za x:=by
 unfold xJ;refine r (cj qL) (r (cj R.onRaiseR_eq) ?_);refine r (cj z') (r (cj ja) ?_);refine r (cj jb) ?_;rfl
section
variable {l ak:Nat}{D:List (ae×ab)}{aQ bR:List Nat}{aA:Nat->List (Option (ae×ab))}{m i a9:Nat}{bj:List Nat}
theorem DC {a:aI Unit}{f:Unit->ac->Prop}(q:l<=ak)(r:Base g)(K:aR g C)(s:∀x∈D,I C x.1 x.2)(v:b6 g D aQ)(e:∀n A,bF bR (ce u g ak n C.toks C.gens.size J j D aQ [] a9 bj c A (cQ.cf a) [])=⟨.next,0,aA n,m,i,[],bG (ce u g ak n C.toks C.gens.size J j D aQ [] a9 bj c A (cQ.cf a) [])⟩)
  (h:∀n b,aa g (· ∈c' D aQ) p C b->(∀a o,H (a,o)∈aA n->I b a o)->b.gens=C.gens->f () b):Q u l J j c a f a8 C:=by
 refine Q.mono (Q.cf (cJ:=λw b=>w= .ok .next/\f () b) λA=>lM q r K s v (aC:=[]) a0 (λn=>e n A) t λn b k d y z=>⟨t,h n b d y (by rw [z];rfl)⟩) ?_ ?_
 ·rintro x b ⟨k,d⟩;exact d
 ·refine λx b=>an λk d=> ?_;cases k
theorem DD {a:aI dQ}{k:dQ->ac->Prop}(q:l<=ak)(r:Base g)(K:aR g C)(s:∀x∈D,I C x.1 x.2)(v:b6 g D aQ)(e:∀n A,bF bR (ce u g ak n C.toks C.gens.size J j D aQ [] a9 bj c A (cQ.cM a) [])=⟨.next,0,aA n,m,i,[],bG (ce u g ak n C.toks C.gens.size J j D aQ [] a9 bj c A (cQ.cM a) [])⟩)
  (h:∀n b,aa g (· ∈c' D aQ) p C b->(∀a o,H (a,o)∈aA n->I b a o)->b.gens=C.gens->k .next b):Q u l J j c a k a8 C:=by
 refine Q.mono (Q.cM (cJ:=λw b=>w= .ok .next/\k .next b) λA=>lM q r K s v (aC:=[]) a0 (λn=>e n A) t λn b d f y z=>⟨t,h n b f y (by rw [z];rfl)⟩) ?_ ?_
 ·refine λx b=>an λd f=> ?_;cases d;exact f
 ·refine λx b=>an λd f=> ?_;cases d
theorem x8 {a:aI O}{v:Nat->O}{k:O->ac->Prop}(q:l<=ak)(r:Base g)(K:aR g C)(s:∀x∈D,I C x.1 x.2)(w:b6 g D aQ)(e:∀n A,bF bR (ce u g ak n C.toks C.gens.size J j D aQ [] a9 bj c A (cQ.bN a) [])=⟨.ret (v n),0,aA n,m,i,[],bG (ce u g ak n C.toks C.gens.size J j D aQ [] a9 bj c A (cQ.bN a) [])⟩)
  (h:∀n b,aa g (· ∈c' D aQ) p C b->(∀a o,H (a,o)∈aA n->I b a o)->b.gens=C.gens->k (v n) b):Q u l J j c a k a8 C:=by
 refine Q.mono (Q.bN (cJ:=λz b=>∃x,z= .ok (.ret x)/\k x b) λA=>mV q r K s w (aC:=[]) a0 (λn=>e n A) t λn b d f B E=>⟨_,t,h n b f B (by rw [E];rfl)⟩) ?_ ?_
 ·refine λx b=>aH λy=>an λd f=> ?_;cases d;exact f
 ·refine λx b=>aH λy=>an λd f=> ?_;cases d
end
theorem MG:∃st q a bc dr b f',fG.2.1=[st,.If (.BoolOp .Or [.Compare (dm nh.1 0) [.Eq] [dm nh.1 1] q,.BoolOp .And (p4::a) bc] dr) b [] f']/\fG.2.1.take 1=[st]/\∃f x y z,p4= .Call f x y z:=
 nW (fG.2.1.headD (.Pass default)) (ez nh.1) ((tv nh.2).drop 1) (ez nh.2) (ez xK.1) xK.2 (cb.pos (fG.2.1.getD 1 (.Pass default))) ⟨by kernel_rfl,by kernel_rfl,dm p4 0,(tv p4).drop 1,[],p4.pos,by kernel_rfl⟩
theorem MH(T:Base g)(bn:du g u.params)(R:uD g u.params){d:Nat}(Y:d=4\/d=5)(x:Int):d6 u g d x (λaH=>∃ap,aH= .ref ap):=by
 intro l j C B W K b ca a c n m A w aq aI aJ bp bt aH an aL aM F a2 a3 bv bw bx a4 L N ay cb aP bz cc bs;obtain ⟨P,ar,rfl,aQ,aR,as⟩:∃P ar,aH=E P/\an (P+101)/\I C (P+101) (ah [.str ⟨⟨[97]⟩⟩ ar])/\gT x=3:=by
  rcases bx with⟨as,ar,rfl⟩|⟨as,rfl⟩|⟨as,ap,ar,rfl,aQ,aR⟩
  ·obtain ⟨ap,e⟩:=a4;cases e
  ·obtain ⟨ap,e⟩:=a4;cases e
  ·exact bh ap ar ⟨t,aQ,aR,as⟩
 have bA:b' x d=true:=by rw [Bv,as];rfl
 have aS:=bs bA;have a5:cN d=2:=by rcases Y with rfl|rfl<;>rfl
 obtain ⟨v,a7,bB,bC,bD,bE,bF,bG⟩:∃v M,I C (b+102) (a' (.str v M))/\I C (b+103) (a' (.builtin "isinstance"))/\I C (b+104) (a' (.type "str"))/\an (b+102)/\an (b+103)/\an (b+104):=by
  rcases Y with rfl|rfl
  ·exact bh _ _ ⟨(F _ dK).2,(F _ aO).2,(F _ ci).2,(F _ dK).1,(F _ aO).1,(F _ ci).1⟩
  ·exact bh _ _ ⟨(F _ dK).2,(F _ aO).2,(F _ ci).2,(F _ dK).1,(F _ aO).1,(F _ ci).1⟩
 refine r a5 ?_;rewrite [(R 1)];rw [a5]at aS;have a9:=R 2 b a c n m A;simp only [eZ]at a9;obtain ⟨bH,bI,a_⟩:=a9;have ba:=R 0 b a c n m;simp only [eZ]at ba;obtain ⟨bb,-,-⟩:=ba;refine aw (pS bn (k:=2) (by decide) b a c n m) (bu λcd ce bJ bK=> ?_);rw [bH,bI]at a_⊢;rw [bb]at aS;have aC:∀{y:ae} {o:ab},I C y o->an y->∀G,aa g (· =n+101) p C G->I G y o:=λe q G aV=>aV.fr _ _ e (λh=>aL (h▸q));refine ai.MD (br:=l+8) (fm:=J) bJ ?_ (R 3 b a c n m) (aG:=λf G=>f= .again (hl b a c n m)/\aa g (· =n+101) p C G/\G.gens=C.gens/\∃av,jo u.params d av/\I G (n+101) (cF u.params L N ay av)) (af:=a8) ?_ (λf bL G h=> ?_) (λ_ _ _ h=>h.elim)
 ·exact jL a_ (aW _)
 ·refine aw MG (q5 λst q cf bc dr cg f'=>aT λbM bN=>gL λch ck cl cm bO=> ?_);have bd:gt u.params d=gt u.params 4:=by rcases Y with rfl|rfl<;>rfl
  rw [MF];refine Q.onRaise (Q.mono (af:=a8) ?_ (λ_ _ h=>h) (λ_ _ h=>h.elim));refine Q.bind ?_;refine r (show d9 fG.1 (E m) (E w)=pure ()from by rfl) (Q.pure (Q.bind ?_));have bP:Q u (l+8) J ((au g u.params 2 b a c n m).aU.map cU++j) (hl b a c n m) (hZ fG.1 (gU 2 b n a c) (E w)) (λ_ s=>aa g (· =n+101) p C s/\s.gens=C.gens/\((∃z,I s (n+101) (cF u.params L N ay [U u.params qT z (E w)]))\/∃z S az,I s (n+101) (cF u.params L N ay (gt u.params 4 z S (E w) az)))) a8 C:=by
   refine r ja (l2 λZ cz=> ?_);rcases bz with rfl|⟨bR,bS,bT,az,rfl⟩<;>refine cz ?_
   ·exact DC (ak:=510) (V 0 500 8 510 t W) T K (db aP) (cK aM) (λi A=>R 4 b a c n m i C.toks C.gens.size _ A w L N ay) (λi s o X O=>⟨o.bW,O,.inl ⟨_,X _ _ aO⟩⟩)
   ·rw [bd]at aP;exact DC (ak:=510) (V 0 500 8 510 t W) T K (db aP) (cK aM) (λi A=>R 5 b a c n m i C.toks C.gens.size _ A w L N ay bR bS bT az) (λi s o X O=>⟨o.bW,O,.inr (dT _ _ _ (X _ _ aO))⟩)
  refine bP.mono (λ_ s al=> ?_) (λ_ _ h=>h);obtain ⟨aA,bU,al⟩:=al;have i:(w+101:Nat)≠n+101:=λh=>aL (h▸a2);have bV:(aq+101:Nat)≠n+101:=λh=>aL (h▸a3);have bX:Q u (l+8) J ((au g u.params 2 b a c n m).aU.map cU++j) (hl b a c n m) (b7 (fG.2.1.take 1) (gU 2 b n a c)) (λf D=>f= .next/\aa g (· =n+101) p s D/\D.gens=s.gens/\∃z S,I D (n+101) (cF u.params L N ay (gt u.params 4 z S (E w) (E P)))) a8 s:=by
   have be:=aC bv a2 s aA;have bf:=aC bw a3 s aA;have bg:∀bi,b6 g [(n+101,bi),(w+101,ea (aq+101)),(aq+101,fZ u.params aI aJ (aj bt bp) (E P))] [0]:=λbi=>b6.head aM (λy aD=>by
    rcases b8.mp aD with rfl|aD
    ·exact i
    ·rw [bQ]at aD;subst aD;exact bV)
   rcases al with⟨z,al⟩|⟨z,S,az,al⟩
   ·exact DD (ak:=510) (V 0 500 8 510 t W) T aA.K (aK al (aK be (aK bf a6))) (bg _) (λi A=>R 6 b a c n m i s.toks s.gens.size _ A w L N ay aq aI aJ P _ z) (λi D o X O=>⟨t,o.bW,O,_,_,X _ _ aO⟩)
   ·exact DD (ak:=510) (V 0 500 8 510 t W) T aA.K (aK al (aK be (aK bf a6))) (bg _) (λi A=>R 7 b a c n m i s.toks s.gens.size _ A w L N ay aq aI aJ P _ z S az) (λi D o X O=>⟨t,o.bW,O,_,_,X _ _ aO⟩)
  refine Q.bind (Q.mono (aG:=λf am=>f= .next/\aa g (· =n+101) p C am/\am.gens=C.gens/\∃av,jo u.params d av/\I am (n+101) (cF u.params L N ay av)) ?_ (λf am h=> ?_) (λ_ _ h=>h))
  ·refine r bM (Q.execs_cons (Q.wI ?_));refine r (cj bN) (bX.mono (λf D aB=> ?_) (λ_ _ h=>h));refine aw aB (bu ?_);rintro rfl;refine λbj bY=>bo λz S aB=> ?_;have aX:aa g (· =n+101) p C D:=(aA.then bj (λ_ h=> .inl h) aF);refine(?_:Q _ _ _ _ _ (c6 _ _) _ _ D);refine Q.execs_cons (Q.If (Q.x7 (Q.jW ?_ (by kernel_rfl))));refine r en (x8 (ak:=510) (V 0 500 8 510 t W) T bj.K (db aB) .nil (λi A=>R 8 b a c n m i D.toks D.gens.size _ A w L N ay z S _ _) (λi bk bZ _ b2=> ?_));have aY:=bZ.aE;have aZ:∀{a0:Nat} {o:ab} {G:ac},an (b+a0)->I C (b+a0) o->aa g p p D G->I G (b+a0) o:=λbs e aV=>aV.ax (aC e bs D aX);refine x8 (ak:=510) (v:=λ_=> .str v a7) (V 0 500 8 510 t W) T aY.K (db (aZ bE bB aY)) .nil (λi A=>R 9 b a c n m i bk.toks bk.gens.size _ A _) (λi am b3 _ b4=> ?_);have ao:=aY.zero.trans b3.aE;have bl:=ao.ax (aC aR aQ D aX);have b5:cW (hl b a c n m) []<=4:=cP (by kernel_rfl);refine Q.any (SeqAt.RcAt.list_str v a7 ⟨_,bl,t,_,t⟩ ?_ _ _ _ _ (Q.jc ?_))
   ·have h:=(oh (Y:=J) (l:=l+8) b5).2.2;exact dZ (show _<=1700 by lia) (by decide)
   rw [if_neg (by simp)];refine Q.ME (Q.plain ?_ ?_)
   ·refine r en (x8 (ak:=510) (v:=λ_=> .bool aN) (V 0 500 8 510 t W) T ao.K (aK (ao.ax aB) (aK (aZ bF bC ao) (aK (aZ bG bD ao) (aK bl a6)))) .nil (λi A=>R 10 b a c n m i am.toks am.gens.size _ A w L N ay z S P _ _) (λi cn b9 _ b_=>Q.jc ⟨t, ?_⟩));have bm:=ao.zero.trans b9.aE;rw [if_neg (by simp)];refine Q.execs_nil (Q.execs_nil ⟨t,aX.then bm aF aF,by refine r b_ (r b4 ?_);refine r b2 (r bY ?_);refine r bU ?_;rfl,_,.inr (h4 z S _ _ (by refine r bd ?_;rfl)),bm.ax aB⟩)
   ·refine r bO ?_;rfl
  ·obtain ⟨rfl,o,O,a1⟩:=h;exact Q.pure (a:=b0.again (hl b a c n m)) ⟨t,o,O,a1⟩
 ·obtain ⟨rfl,o,O,a1⟩:=h;exact ai.again _ (by exact r (cj bb) bK) (aS G bL o O a1)
theorem d6.or {d:Nat}{x:Int}{bV bc q:O->Prop}(v:d6 u g d x bV)(w:d6 u g d x bc)(h:∀b,q b->bV b\/bc b):d6 u g d x q:=by
 intro l j C B f K y z a c n D A E F G I L M b N i k m o p r s t e;rcases h b e with e|e
 ·exact v f K i k m o p r s t e
 ·exact w f K i k m o p r s t e
theorem DE(a:Base g)(b:du g u.params)(R:uD g u.params):∀d<6,∀x,d6 u g d x (λ_=>True):=λd Y x=>by
 by_cases h:d<4
 ·exact d6.or (xb a b Y x) (xb a b Y x) λf _=> .inl λj=>absurd h (cx (j))
 ·refine d6.or (xb a b Y x) (MH a b R (by lia) x) λf _=> ?_
  by_cases i:∃c,f= .ref c
  ·exact .inr i
  ·exact .inl λ_ c e=>i ⟨c,e⟩
open PyProof.Rows (AllBare)
theorem MI:∃q bc a dr,kf.drop 1=[.If (.BoolOp .Or [nj.1,.Compare (dm nj.2 0) [.NotEq] [dm nj.2 1] q] bc) a [] dr]:=
 h4 (ez nj.2) (ez CU) ((d' (kf.drop 1)).2.1) (iC (kf.drop 1)) (by kernel_rfl)
theorem MJ(c:Base g)(d:k9 g u.params)(K:aR g C){D F G L i v e M:Nat}{x y z:O}(o:I C (n+101) (ek [U u.params k D (E L),U u.params dh F (E i),U u.params fW G (E v)]))
  (N:I C (v+101) (ah [x,y,z] e))(P:I C (i+101) (ah [] M)):
  Q u 0 J j (cn n) (c6 (kf.drop 1) (bb n)) (λf l=>f= .next/\aa g p p C l) a8 C:=by
 refine aw MI (gL λq bc Y dr R=> ?_);refine r R (Q.execs_cons (Q.If (Q.x7 ?_)));refine r wG (r en ?_);refine Q.mono (Q.jU (cJ:=λS l=>S= .ok (.ret (.bool aN))/\aa g p p C l) λA=>mV (ak:=0) (aW 0) c K (aK o (aK N a6)) .nil ba (λa=>d 23 _ ..) t (λa s _ T _ _=>⟨t,T.aE⟩)) ?_ ?_
 ·refine λb s=>an λh m=> ?_;injection h with h;injection h with h;injection h with h;subst h;rw [if_neg (by simp),<-wG,<-en];refine Q.jW ?_ (by kernel_rfl);refine r en (Q.V (ak:=0) (v:=λ_=>E i) (aW 0) c m.K (aK (m.ax o) a6) .nil ba (λa A=>d 24 _ ..) t (λa Z _ V _=> ?_));have w:=m.trans V.aE;refine Q.V (ak:=0) (aW 0) c w.K a6 .nil ba (λa A=>d 25 _ ..) t (λab ac _ W X=> ?_);have B:=w.trans W.aE;refine Q.any (C4 (f:=id) (B.ax P) (X _ _ aO) t d7.nil d7.nil ?_ (Q.jc ?_))
  ·exact dZ (dq _ 2) (pY (a5 t) ou)
  ·rw [if_neg (by simp)];exact Q.execs_nil (Q.execs_nil ⟨t,B⟩)
 ·refine λb s=>an λh _=> ?_;cases h
end
open DB
set_option backward.match.sparseCases true
section
open PySem PySem.W PySem.Calls
section
variable {m:bX}{aG:dQ->ac->Prop}{af:O->ac->Prop}
theorem Q.Try {d g:List cb}{i:o4}{k:List o4}{pos:ap}
  (h:Q u l Y j c (c6 d m) (λf b=>match f with| .next=>Q u l Y j c (c6 g m) aG af b|f=>aG f b)
   (λe b=>Q u l Y j c (iY e m) (λ_ n=>Q u l Y j c (qJ e J) (λ_ o=>Q u l Y j c (handleBy e m (i::k)) aG af o) af n) af b) C):Q u l Y j c (jF (.Try d (i::k) g [] pos) m) aG af C:=by
 rw [arm_exec_Try];refine Q.jV (Q.bind (Q.Ab ?_));refine h.mono (λf b a=> ?_) λe b a=>Q.bind (a.mono (λ_ n p=>Q.bind (p.mono (λ_ o q=>q) λ_ _ h=>h)) λ_ _ h=>h);exact match f,a with
  | .next,a=>a
  | .brk,a=>Q.pure a
  | .cont,a=>Q.pure a
  | .ret _,a=>Q.pure a
end
end
set_option backward.match.sparseCases false
section
open PySem PySem.W PySem.Calls
variable(g:Nat->Option ab)(P:a1)
noncomputable def DF:=0 where
 MK:o4->Expr×Option c0×List cb×ap
  | .ExceptHandler M n b A=>(M.getD default,n,b,A)
 hq:Expr×Option c0×List cb×Pos:=MK ((rj (rk (bO 6))).2.2.2.headD default)
 uT(n e:Nat):Code:= .handlers (.ref e) [.ExceptHandler (H hq.1) J [] hq.2.2.2] (bb n)
 gk(n e:Nat):Code:= .handlers (.ref e) [.ExceptHandler J hq.2.1 hq.2.2.1 hq.2.2.2] (bb n)
 ik:List Stmt:=hq.2.2.1
 g3:Expr×Expr:=d5 (d_ ik 0)
 nt:Str:=⟨⟨e_⟩⟩
 DG:O->Option ae->aI Unit:=PySem.W.Fast.tw5670386056902412789
 x9:bX->c0->O->aI Unit:=PySem.W.Fast.tw7536695828754713326
 DH:bX->c0->ap->aI Unit:=PySem.W.Fast.tw14851354246082423155
 DI:O->O->aI Bool:=PySem.W.Fast.tw17346088374725804007
open DF
theorem ML:excMatches=DI:=PySem.W.Fast.te17346088374725804007
theorem MM:qJ=DG:=PySem.W.Fast.te5670386056902412789
theorem DJ:bindName=x9:=y3
theorem MN:unbindBehindTheSuite=DH:=PySem.W.Fast.te14851354246082423155
noncomputable def hR:fq:=hj (d_ (ik.drop 1) 0)
noncomputable def kp(n a:Nat):Env:=js hR a [(⟨⟨pi⟩⟩,(n+107))] n
section
variable(n e M T s aM av o L:Nat)(j:List (aL×ap))(A:ap)(da a jy:Nat)(F:O)(bL:Nat)(aA:List O)(d:Nat)(I:O)(b eq:Nat)(K:O)(bU bk:Nat)(N:O)(f t:Nat)(a3:List O)(i:Array (Option O))(z q Q p bx r:Nat)(D:ap)(R:Nat)(x:O)(S:ap)(y:O)(m:c0)(v:O)(V:Nat)
noncomputable def x_:=0 where
 MO:G:=gO g P 20 s o L (H (.ref e)) j [] [] [] 3 [0,0] (uT n e) A (bN (bT hq.1 (bb n)))
 MP:G:=gO g P 20 s o L (H (.ref e)) j [(e,iN M (.ref aM)),(aM,gZ F I K N a3)] [] [] 1 [1] (uT n e) A (jU (DI (.ref e) (.type "RuntimeError")))
 dW(n e M aM s o L:Nat)(j:List (aL×ap))(A:ap)(F I K N:O)(a3:List O):G:=gO g P 20 s o L (H (.ref e)) j [(e,iN M (.ref aM)),(aM,gZ F I K N a3)] [1] [] 3 [1,2,2] (gk n e) A (cf (DG (.ref e) J))
 MQ:G:=gO g P 20 s o L (H (.ref e)) j [(n+101,bz [U P k a (E bL),U P dh b (E bU)] f i)] [0] [] 6 [0,1,1] (gk n e) A (cf (x9 (bb n) nt (.ref e)))
 MR:G:=gO g P 20 s o L (H (.ref e)) j [(n+101,bz [U P k a (E bL),U P dh b (E bU),U P e_ p (.ref e)] f i)] [] [] 2 [1] (gk n e) A (bN (bT (dm g3.1 0) (bb n)))
 MS:G:=gO g P 20 s o L (H (.ref e)) j [(n+101,bz [U P k a (E bL),U P dh b (E bU),U P e_ p (.ref e)] f i)] [] [] 2 [] (gk n e) A (bN (bT (dm g3.1 1) (bb n)))
 DK:G:=gO g P 20 s o L (H (.ref e)) j [(n+101,bz [U P k a (E bL),U P dh b (E bU),U P e_ p (.ref e)] f i)] [] [] 6 [0,0,1] (gk n e) A (bN (bT (dm g3.2 0) (bb n)))
 MT:G:=gO g P 20 s o L (H (.ref e)) j [(n+101,bz [U P k a (E bL),U P dh b (E bU),U P e_ p (.ref e)] f i),(bU+101,ah [.str ⟨⟨eQ 6⟩⟩ q] r)] [] [] 19 [1,2,2,2,2,2] (gk n e) A (bN (bT (dm g3.2 1) (bb n)))
 MU:G:=gO g P 20 s o L (H (.ref e)) j [(n+101,bz [U P k a (E bL),U P dh b (E bU),U P e_ p (.ref e)] f i),(bU+101,ah [.str ⟨⟨eQ 6⟩⟩ q,x] r)] [] [] 19 [1,2,2,2,2,2] (gk n e) A (bN (bT (dm g3.2 1) (bb n)))
 MV:G:=gO g P 20 s o L (H (.ref e)) j [(n+101,bz [U P k a (E bL),U P dh b (E bU),U P e_ p (.ref e)] f i),(bU+101,ah [.str ⟨⟨eQ 6⟩⟩ q,x,y] r)] [] [] 19 [1,2,2,2,2,2] (gk n e) A (bN (bT (dm g3.2 1) (bb n)))
 MW:G:=gO g P 20 s o L (H (.ref e)) j [(n+101,bz [U P k a (E bL),U P dh b (E bU),U P e_ p (.ref e)] f i),(bU+101,ah [.str ⟨⟨eQ 7⟩⟩ q] r)] [] [] 19 [1,2,2,2,2,2] (gk n e) A (bN (bT (dm g3.2 1) (bb n)))
 MX:G:=gO g P 20 s o L (H (.ref e)) j [(n+101,bz [U P k a (E bL),U P dh b (E bU),U P e_ p (.ref e)] f i),(bU+101,ah [.str ⟨⟨eQ 7⟩⟩ q,x] r)] [] [] 19 [1,2,2,2,2,2] (gk n e) A (bN (bT (dm g3.2 1) (bb n)))
 MY:G:=gO g P 20 s o L (H (.ref e)) j [(n+101,bz [U P k a (E bL),U P dh b (E bU),U P e_ p (.ref e)] f i),(bU+101,ah [.str ⟨⟨eQ 7⟩⟩ q,x,y] r)] [] [] 19 [1,2,2,2,2,2] (gk n e) A (bN (bT (dm g3.2 1) (bb n)))
 oz(n e s o L:Nat)(j:List (aL×ap))(A:ap)(da jy:Nat)(aA:List O):G:=gO g P 20 s o L (H (.ref e)) j [(n+104,a' (E da)),(da+101,ah aA jy)] [] [] 16 [1,2,2,1,2,3] (gk n e) A (cM (b7 (ik.drop 1) (bb n)))
 MZ:G:=tm g P 20 bk t z (H (.ref e)) j [] [] [] 1 [] DK D (.ok (.ret (.str m bx)))
 M0:G:=tm g P 20 bk t z (H (.ref e)) j [(n+101,bz [U P k a (E bL),U P dh b (E bU),U P e_ p (.ref e)] f i),(s+103,aJ [])] [0,1] [] 9 [0,1,1,2] (oz n e s o L j A da jy aA) D (.ok .next)
 M1:G:=tm g P 20 bk t z (H (.ref e)) j [(n+101,bz [U P k a (E bL),U P dh b (E bU),U P e_ p (.ref e)] f i),(s+103,aJ [U P eg V v])] [0,1] [] 13 [0,1,1,2,2,2] (oz n e s o L j A da jy aA) D (.ok .next)
 xc(n e T av s o L:Nat)(j:List (aL×ap))(A:ap)(d eq:Nat):G:=gO g P 30 s o L (H (.ref e)) j [(av+102,aJ [])] [0] [] 7 [0,1,1] (.compLoop hR.e 0 (E T) (E av) (kp n (av+102))) A (cf (cm hR.target (kp n (av+102)) (aj d eq)))
 M2:G:=gO g P 30 s o L (H (.ref e)) j [(av+102,aJ [U P eg bx v])] [0] [] 7 [0,1,1] (.compLoop hR.e 0 (E T) (E av) (kp n (av+102))) A (cf (cm hR.target (kp n (av+102)) (aj d eq)))
 c4(n e T av s o L:Nat)(j:List (aL×ap))(A:ap)(d eq bx a b:Nat):G:=gO g P 30 s o L (H (.ref e)) j [(av+102,aJ [U P eg bx (aj d eq)]),(n+107,a' (E a)),(a+101,ah (eE b) 0)] [] [] 17 [0,2,1,3,3,3,3,3,0] (.compLoop hR.e 0 (E T) (E av) (kp n (av+102))) A (bN (bT hR.elt (kp n (av+102))))
 lg(n e T av s o L:Nat)(j:List (aL×ap))(A:ap)(d eq bx a b bk t z a3:Nat)(D:ap):G:=tm g P 30 bk t z (H (.ref e)) j [] [] [] 1 [] (c4 n e T av s o L j A d eq bx a b) D (.ok (.ret (.ref a3)))
 bs(n e s o L:Nat)(j:List (aL×ap))(A:ap)(a bL b bU f:Nat)(i:Array (Option O))(p Q R:Nat):G:=h g P 20 s o L j [(n+101,bz [U P k a (E bL),U P dh b (E bU),U P e_ p (.ref e),U P fW Q (E R)] f i)] [0] [] 6 [0,1,1] (cn n) A (cf (x9 (bb n) nt .none))
 M3:G:=h g P 20 s o L j [(n+101,bz [U P k a (E bL),U P dh b (E bU),U P e_ p .none,U P fW Q (E R)] f i)] [0] [] 4 [1,1] (cn n) A (cf (DH (bb n) nt S))
open x_
end
open x_
noncomputable def M4(g:Nat->Option ab)(P:a1):List Prop:=[
 hR.e=d_ (ik.drop 1) 0,
 ∀n e (M:Nat) (aM:Nat) a b c j A (N:O) (Q:O) (R:O) (X:O) (B:List O),ok [] (MO g P n e a b c j A) (.ret (.type "RuntimeError")) 0 [] 0 0 [],
 ∀n e M aM a b c j A N Q R X B,ok [] (MP g P n e M a aM b c j A N Q R X B) (.ret (.bool ag)) 0 [] 0 0 [],
 ∀n e M aM a b c j A N Q R X B,ok [1] (dW g P n e M aM a b c j A N Q R X B) (.next) 0 [H (aM,gZ N Q R .none B)] 0 0 [],
 ∀n e a b c j A r s t p u w,ok [0] (MQ g P n e a b c j A r s t p u w) (.next) 0 [H (n+101,bz [U P k r (E s),U P dh t (E p),U P e_ b (.ref e)] (u+1) w)] 0 1 [],
 ∀n e a b c j A r s t p u w z,ok [] (MR g P n e a b c j A r s t p u w z) (.ret (E p)) 0 [] 0 0 [],
 ∀n e a b c j A r s t p u w z,ok [1] (MS g P n e a b c j A r s t p u w z) (.ret (E a)) 0 [H (a+101,ah [] 0)] 1 0 [],
 ∀n e a b c j A r s t p u w z,b3 [] (DK g P n e a b c j A r s t p u w z) J (H (.ref e)) 8 (.call (.call (.type "str") ⟨[.ref e],[]⟩) J) 0 [] 0 0 [] (H (.ref e)),
 ∀n e a b c j A r s t p u w z D C F m f G,ok [] (MZ g P n e a b c j A r s t p D u C w F z f G m) (.ret (.str m f)) 0 [] 0 0 [],
 ∀n e a b c j A r s t p u w z I K,ok [] (MT g P n e a b c j A r s t p u w I z K) (.ret (.str (dz 6) (b+2))) 0 [] 0 3 [],
 ∀n e a b c j A r s t p u w z I K x,ok [] (MU g P n e a b c j A r s t p u w I z K x) (.ret (.str (dz 6) (b+2))) 0 [] 0 3 [],
 ∀n e a b c j A r s t p u w z I K x y,ok [] (MV g P n e a b c j A r s t p u w I z K x y) (.ret (.str (dz 6) (b+2))) 0 [] 0 3 [],
 ∀n e a b c j A r s t p u w z I K,ok [] (MW g P n e a b c j A r s t p u w I z K) (.ret (.str (dz 7) (b+2))) 0 [] 0 3 [],
 ∀n e a b c j A r s t p u w z I K x,ok [] (MX g P n e a b c j A r s t p u w I z K x) (.ret (.str (dz 7) (b+2))) 0 [] 0 3 [],
 ∀n e a b c j A r s t p u w z I K x y,ok [] (MY g P n e a b c j A r s t p u w I z K x y) (.ret (.str (dz 7) (b+2))) 0 [] 0 3 [],
 ∀n e a b c j A L S T,b3 [2,3,4] (oz g P n e a b c j A L S T) J (H (.ref e)) 8 (.call (.compStart hR.e 0 (E a) (E (a+1)) (kp n (a+1+102))) J) 0 [H (a+101,b2 (L+101) 0),H (a+102,ah [] 0),H (a+103,aJ [])] 3 0 [] (H (.ref e)),
 ∀n e a b c j A L S T D C F G r s t p u w z,ok [0] (M0 g P n e a b c j A L r S s T t p D u C w F z G) (.next) 0 [H (n+101,bz [U P k r (E s),U P dh t (E p),U P e_ z (.ref e),U P fW C (.ref (a+102))] (u+1) w)] 0 1 [],
 ∀n e a b c j A L S T D C F G r s t p u w z Y v,ok [0] (M1 g P n e a b c j A L r S s T t p D u C w F z G v Y) (.next) 0 [H (n+101,bz [U P k r (E s),U P dh t (E p),U P e_ z (.ref e),U P fW C (.ref (a+102))] (u+1) w)] 0 1 [],
 ∀n e o h a b c j A d i,ok [0] (xc g P n e o h a b c j A d i) (.next) 0 [H (h+102,aJ [U P eg b (aj d i)])] 0 1 [],
 ∀n e o h a b c j A d i f v,ok [0] (M2 g P n e o a h b c j A d i f v) (.next) 0 [H (h+102,aJ [U P eg f (aj d i)])] 0 1 [],
 ∀n e o h a b c j A i f q l,(bF [] (c4 g P n e o h a b c j A 0 i f q l),eA (c4 g P n e o h a b c j A 0 i f q l) J (H (.ref e)) 8)=(⟨.call (gS 0 (l+0)) J,0,[],0,0,[],bG (c4 g P n e o h a b c j A 0 i f q l)⟩,(ag,H (.ref e))),
 ∀n e o h a b c j A i f q l D C F B G,ok [] (lg g P n e o h a b c j A 0 i f q l D C F B G) (.ret (.ref B)) 0 [] 0 0 [],
 ∀n e o h a b c j A i f q l,(bF [] (c4 g P n e o h a b c j A 1 i f q l),eA (c4 g P n e o h a b c j A 1 i f q l) J (H (.ref e)) 8)=(⟨.call (gS 1 (l+1)) J,0,[],0,0,[],bG (c4 g P n e o h a b c j A 1 i f q l)⟩,(ag,H (.ref e))),
 ∀n e o h a b c j A i f q l D C F B G,ok [] (lg g P n e o h a b c j A 1 i f q l D C F B G) (.ret (.ref B)) 0 [] 0 0 [],
 ∀n e o h a b c j A i f q l,(bF [] (c4 g P n e o h a b c j A 2 i f q l),eA (c4 g P n e o h a b c j A 2 i f q l) J (H (.ref e)) 8)=(⟨.call (gS 2 (l+2)) J,0,[],0,0,[],bG (c4 g P n e o h a b c j A 2 i f q l)⟩,(ag,H (.ref e))),
 ∀n e o h a b c j A i f q l D C F B G,ok [] (lg g P n e o h a b c j A 2 i f q l D C F B G) (.ret (.ref B)) 0 [] 0 0 [],
 ∀n e o h a b c j A i f q l,(bF [] (c4 g P n e o h a b c j A 3 i f q l),eA (c4 g P n e o h a b c j A 3 i f q l) J (H (.ref e)) 8)=(⟨.call (gS 3 (l+3)) J,0,[],0,0,[],bG (c4 g P n e o h a b c j A 3 i f q l)⟩,(ag,H (.ref e))),
 ∀n e o h a b c j A i f q l D C F B G,ok [] (lg g P n e o h a b c j A 3 i f q l D C F B G) (.ret (.ref B)) 0 [] 0 0 [],
 ∀n e o h a b c j A i f q l,(bF [] (c4 g P n e o h a b c j A 4 i f q l),eA (c4 g P n e o h a b c j A 4 i f q l) J (H (.ref e)) 8)=(⟨.call (gS 4 (l+4)) J,0,[],0,0,[],bG (c4 g P n e o h a b c j A 4 i f q l)⟩,(ag,H (.ref e))),
 ∀n e o h a b c j A i f q l D C F B G,ok [] (lg g P n e o h a b c j A 4 i f q l D C F B G) (.ret (.ref B)) 0 [] 0 0 [],
 ∀n e o h a b c j A i f q l,(bF [] (c4 g P n e o h a b c j A 5 i f q l),eA (c4 g P n e o h a b c j A 5 i f q l) J (H (.ref e)) 8)=(⟨.call (gS 5 (l+5)) J,0,[],0,0,[],bG (c4 g P n e o h a b c j A 5 i f q l)⟩,(ag,H (.ref e))),
 ∀n e o h a b c j A i f q l D C F B G,ok [] (lg g P n e o h a b c j A 5 i f q l D C F B G) (.ret (.ref B)) 0 [] 0 0 [],
 ∀n e a b c j A r s t p u w z V W,ok [0] (bs g P n e a b c j A r s t p u w z V W) (.next) 0 [H (n+101,bz [U P k r (E s),U P dh t (E p),U P e_ z .none,U P fW V (E W)] u w)] 0 1 [],
 ∀n (e:Nat) a b c j A r s t p u w z V W Z,ok [0] (M3 g P n a b c j A r s t p u w V z W Z) (.next) 0 [H (n+101,bz [U P k r (E s),U P dh t (E p),U P fW V (E W)] (u+1) w)] 0 0 []]
noncomputable def li(g:Nat->Option ab)(P:a1):Prop:=AllP (M4 g P)
open PyProof.Rows (AllBare)
section
variable {g:Nat->Option ab}{C am:ac}
theorem M5(e:O)(b:List o4)(a:bX):bI (.handlers e b a)=((qK e a b).onRaise (λx=>do iY x a;qE x))>>=λf=>pure (.done f):=by
 refine r (cj hA) ?_;rfl
theorem ai.DL {e:O}{a:List o4}{b:bX}{aG:dQ->ac->Prop}(h:Q u l Y j (.handlers e a b) (qK e b a) aG a8 C)(k:∀f am,aG f am->B (.ret (.ok f)) am):ai u l Y j (.handlers e a b) A (bI (.handlers e a b)) [] C B:=by
 rw [M5];exact ai.rg (aG:=aG) (af:=a8) (Q.onRaise (h.mono (λ_ _ h=>h) (λ_ _ h=>h.elim))) (λf c am h=>ai.done (.ok f) (k f am h)) (λ_ _ _ h=>h.elim)
theorem M6(d:Base g)(i:li g u.params)(K:aR g C){n e M aM:Nat}{k l m o:O}{b:List O}(q:I C e (iN M (.ref aM)))(s:I C aM (gZ k l m o b)):a4 u 20 (H (.ref e)) (uT n e) C λb am=>b= .ok .brk/\aa g p p C am:=by
 refine a4.c1 λj A=> ?_;unfold uT;refine ai.DL (aG:=λf am=>f= .brk/\aa g p p C am) ?_ (λf am h=>⟨congrArg qS h.1,h.2⟩);refine(?_:Q u 20 _ j _ (do standAt _;let w<-dR hq.1 (bb n);standAt _;return if<-excMatches (.ref e) w then dQ.brk else dQ.next) _ _ C);refine Q.jV (Q.bind ?_);refine r en (Q.V (ak:=20) (v:=λ_=> .type "RuntimeError") (aW 20) d K a6 .nil ba (λc A=>i 1 n e M aM c C.toks C.gens.size j A k l m o b) t (λc y _ a _=> ?_));have a:=a.aE;refine Q.jV (Q.bind ?_);exact r ML (Q.tt (ak:=20) (aW 20) d a.K (aK (a.ax q) (aK (a.ax s) a6)) .nil ba (λc A=>i 2 _ ..) t (λ_ z _ x _=>Q.pure ⟨t,a.trans x.aE⟩))
theorem M7 {b:ae}{a:List O}{e:Nat}{y:O}(q:cW c []<=4)(K:aR g C)(i:g b=J)(d:I C b (ah a e))(m:a.length<=1000){af f:O->ac->Prop}
  (k:∀v am,aa g (· =b) p C am->am.gens=C.gens->I am b (ah (a++[y]) (e+1))->f v am):Q u l Y j c (f8 (.builtin "list.append") [.ref b,y]) f af C:=by
 have h:a.length<=sizeLine:=aS m (show 1000<=lv by decide+kernel);refine Q.any (qH ?_);refine jS (id:="list.append") slot_list_append ⟨_,d,t⟩ entry_list_append (args_list_append _ _) ?_;refine(?_:bD _ _ (updateSeq b (·.push y)>>=λ_=>ret .none) _ _ C);refine bl (vL (xs:=⟨a⟩) (n:=e) d t (cG ⟨.none,t, ?_⟩) (show(⟨a⟩:Array O).size<=lv from h) (by refine(?_:(Array.push ⟨a⟩ y).size<=_);rw [vY];exact qr h));have o:=Heap.rd C.heap b (i2 (·.push y)) (λ_=>ah (a++[y]) (e+1)) d (by simp [ah,i2]);refine r o (k _ _ (aa.update K i _) t (i1 (λ_=>ah (a++[y]) (e+1)) d t))
theorem M8 {d f:Nat}{k:List O}{e i:Nat}(E:pA Y C.heap)(K:aR g C)(y:g d=J)(m:I C d (b2 f i))(F:I C f (ah k e))(n:i<=k.length){af:O->ac->Prop}{v:Option O->ac->Prop}
  (G:∀e,Y=H (.ref e)->e≠d)
  (L:∀x am,k[i]? =H x->aa g (· =d) p C am->am.gens=C.gens->I am d (b2 f (i+1))->v (H x) am)(M:∀am,i=k.length->aa g (· =d) p C am->am.gens=C.gens->v J am):Q u l Y j c (hY (.ref d)) v af C:=by
 refine Q.any ?_;unfold hY;have z:C.TypeIs (.ref d) "list_iterator":=⟨_,m,t⟩;refine bl (wpAny_attempt (yX (name:=v3 "__next__") z o2 ?_));refine qH (jS (id:="list_iterator.__next__") o2 z vJ (vK _) ?_);refine(?_:bD _ _ (mA (.ref d) 0>>=_) _ _ C);refine bl (gn m t (x:= .ref f) t ?_);refine(?_:bD _ _ (if(iv f==fx)=ag then _ else _) _ _ C);refine r (if_neg (show¬((iv f==fx)=ag)from jE)) ?_;refine(?_:bD _ _ (mA (.ref d) 1>>=_) _ _ C);refine bl (gn m t (x:= .int i 0) t ?_);refine(?_:bD _ _ (qA (.ref f)>>=_) _ _ C);refine bl (o3 F t ?_);rcases nC n with n|n
 ·have w:(⟨k⟩:Array O)[(i:Int).toNat]? =none:=by simp;exact(ao n)
  simp only [w];have o:aa g (· =d) p C {C with heap:=C.heap.update d (gK (·.setIfInBounds 0 .none))}:=aa.update K y _;refine bl (qB (bl (mB m t (by simp) ?_)));refine(?_:bD _ _ (newExc (.type "StopIteration") []>>=_) _ _ _);refine Am ?_ ?_
  ·refine E.imp id fun⟨e,N,P,a,b,c⟩=>dT e N P ⟨a,o.fr _ _ b (G _ a),c⟩
  ·intro R S A B q;refine bl (wpAny_isInstance (T:="StopIteration") (b:=ag) ⟨_,q,t⟩ isSubtype_stop (cG (M _ n (o.then ?_ (λx h=> .inl h) (λ_ h=> .inl h)) t)));exact⟨⟨aS o.K.lo (by refine r B ?_;exact dq _ 2),λa s h=>A a s (o.K.kt a s h)⟩,λb s h _=>A b s h,by refine r B ?_;exact dq _ 2,λ_ _ h _=>h,aW _,λh=>h,t,t⟩
 ·obtain ⟨x,q⟩:∃x,k[i]? =H x:=⟨k[i],by simp [n]⟩;have w:(⟨k⟩:Array O)[(i:Int).toNat]? =H x:=by simpa using q
  simp only [w];have D:=Heap.rd C.heap d (gK (·.setIfInBounds 1 (d2 (i+1)))) (λ_=>b2 f (i+1)) m t;refine bl (mB m t (by simp) (cG ⟨x,t,cG ?_⟩));simp only [d2,Int.toNat_natCast]at D⊢;refine r D (L x _ q (aa.update K y _) t (i1 (λ_=>b2 f (i+1)) m t))
end
open PyProof.Rows (AllBare)
theorem DM(x:Nat):∀(b a:List Nat),(x∈a\/∃d∈b,c7 d=x)->x∈b.foldl (λa d=>if c7 d∈a then a else a++[c7 d]) a
 | [],a,h=>by
  rcases h with h|⟨d,h,_⟩
  ·exact h
  ·cases h
 |y::b,a,h=>by
  refine(?_:x∈b.foldl _ (if c7 y∈a then a else a++[c7 y]));refine DM x b _ ?_;rcases h with h|⟨d,h,rfl⟩
  ·refine .inl ?_;split
   ·exact h
   ·exact oT _ h
  ·rcases b8.mp h with rfl|h
   ·refine .inl ?_;split
    ·assumption
    ·exact mn _ aO
   ·exact .inr ⟨d,h,t⟩
theorem M9 {a:List Nat}{d:Nat}(h:d∈a):c7 d∈fh a:=DM _ a [] (.inr ⟨d,h,t⟩)
theorem M_ {a:List Nat}{b i d:Nat}(h:a[i]? =H d):(if c7 d∈fh (a.take (max i b))then fh (a.take (max i b))else fh (a.take (max i b))++[c7 d])=fh (a.take (max (i+1) b)):=by
 rcases fV i b with q|q
 ·have:(a.take b)[i]? =H d:=by rw [sH,if_pos q];exact h
  rw [vv (eW q),vv q,if_pos (M9 (dP this))]
 ·rw [vp q,vp (Nat.le_succ_of_le q),<-Du,ov h]
theorem M':∀v a,d9 hR.target (.ref a) v=pure ():=λ_ _=>by rfl
section
variable {g:Nat->Option ab}{C am:ac}
theorem Na(a:li g u.params):∀{d:Nat},d<6->∀(n e c f i k l:Nat) (j:List (aL×ap)) (A:ap) (m o p b:Nat),(bF [] (c4 g u.params n e c f i k l j A d m o p b),eA (c4 g u.params n e c f i k l j A d m o p b) J (H (.ref e)) 8)=(⟨.call (gS d (b+d)) J,0,[],0,0,[],bG (c4 g u.params n e c f i k l j A d m o p b)⟩,(ag,H (.ref e)))
 |0,_=>(a 20)
 |1,_=>(a 22)
 |2,_=>(a 24)
 |3,_=>(a 26)
 |4,_=>(a 28)
 |5,_=>(a 30)
 |_+6,h=>absurd h (cx (V 0 0 6 6 t (be _)))
theorem Nb(a:li g u.params):∀{d:Nat},d<6->∀(n e c f i k l:Nat) (j:List (aL×ap)) (A:ap) (m o p q r s v b:Nat) (w:ap),bF [] (lg g u.params n e c f i k l j A d m o p q r s v b w)=⟨.ret (.ref b),0,[],0,0,[],bG (lg g u.params n e c f i k l j A d m o p q r s v b w)⟩
 |0,_=>(a 21)
 |1,_=>(a 23)
 |2,_=>(a 25)
 |3,_=>(a 27)
 |4,_=>(a 29)
 |5,_=>(a 31)
 |_+6,h=>absurd h (cx (V 0 0 6 6 t (be _)))
noncomputable def iP(n b a:Nat):Code:= .compLoop hR.e 0 (E b) (E a) (kp n (a+102))
noncomputable def il(a:ab):Prop:=a.cls= .type "function"\/a.cls= .type "code"\/a.cls= .type "cell"\/a.cls= .type "slice"
theorem il.ne {h:aY}{a b:Nat}{f d:ab}(k:il f)(e:h.get? b=H f)(g:h.get? a=H d)(c:d.cls= .type "list"\/d.cls= .type "list_iterator"\/d.cls= .type "dict"):b≠a:=by
 rintro rfl;rw [g]at e;injection e with e;subst e;unfold il at k;rcases c with c|c|c<;>rw [c]at k<;>rcases k with k|k|k|k<;>exact dA k (by decide)
theorem Nc {a b d:Nat}:∀y∈fP a b d,il y.2:=
 match d with
 |0|1|2|3|4|_+5=>by
  repeat first|refine a_ (.inr (.inr (.inl t))) ?_|refine a_ (.inr (.inr (.inr t))) ?_
  exact dG
theorem h6.hS {lo f:Nat}{c:ae}{h g:aY}(M:h6 lo h f c)(k:∀(b:Nat) d,il d->h.get? b=H d->g.get? b=H d):h6 lo g f c:=by
 obtain ⟨i,j,a,b,e⟩:=M;exact bh i j ⟨a,b,k _ _ (.inr (.inl t)) e⟩
theorem fp.hS {lo a d:Nat}{h g:aY}(M:fp lo h a d)(k:∀(b:Nat) e,il e->h.get? b=H e->g.get? b=H e):fp lo g a d:=by
 obtain ⟨j,l,c,m,n,o,i⟩:=M;exact dT j l c ⟨m,k _ _ (.inl t) n,o.hS k,λy f=>⟨(i y f).1,k _ _ (Nc y f) (i y f).2⟩⟩
noncomputable def oF(b a:Nat):ae->Prop:=λx=>x=b+101\/x=a+101\/x=a+102\/x=39
structure Nd(dj:cZ)(n e it c d j da jy lo k:Nat)(a:List (Nat×Nat))(i:Nat)(b:List (Nat×Nat))(f:List (Nat×ae))(C:ac):Prop where
 it:I C (it+101) (b2 (da+101) i)
 da:I C (da+101) (ah (ca a) jy)
 z:∃l,I C (c+101) (ah (b.map λq=>E q.1) l)
 ns:∃az,I C (c+102) az/\(az=aJ []\/∃bx v,az=aJ [U dj.params eg bx v])
 m7:I C (n+107) (a' (E d))
 m9:I C (d+101) (ah (eE j) 0)
 kn:∀q∈b,fp lo C.heap q.1 q.2
 np:b.map (·.2)=(a.take i).map (·.1)
 tab:TabAt lo C.heap f
 cD:f.map (·.1)=fh ((a.map (·.1)).take (max i k))
 ex:∃g h,I C (e+101) g/\g.data= .fields h/\h[2]? =H fx
noncomputable def uU(u:cZ)(b lo:Nat)(c:List (Nat×Nat))(C:ac):Prop:=lh lo c b C.heap/\∃a,I C (b+102) a/\(a=aJ []\/∃d v,a=aJ [U u.params eg d v])
theorem Nf(ah:Base g)(aA:li g u.params)(bz:je g u.params)(aB:∀x:Nat,101<=x->g x=J)(aC:g 39=J)(al:l<=28){n e T av bp cS da jy lo p':Nat}{o:List (Nat×Nat)}(a':o.length<=2)(bb:∀q∈o,q.1<6){cT:ac}
  (r:T<av)(an:n+107<T+101)(ar:bp<T)(aM:da<T)(bB:lo<=cT.heap.objs.size)(W:e<T):∀(m i:Nat) (as:List (Nat×Nat)) (K:List (Nat×ae)) (C:ac) (A:ap),i+m=o.length->aa g (oF T av) p cT C->Nd u n e T av bp cS da jy lo p' o i as K C->
   ai u l (H (E e)) j (iP n T av) A (bI (iP n T av)) [] C (ei λN am=>N= .ok .next/\aa g (oF T av) p cT am/\uU u av lo o am):=by
 intro m;induction m using vt with
 |ind m bC=>
  intro i as K C A cg au F;obtain ⟨bd,aP⟩:=F.z;obtain ⟨bD,aQ,aR⟩:=F.ns;have bf:(ca o).length=o.length:=by unfold ca;rw [bM]
  have bE:=F.ex;obtain ⟨aT,aU,aV,aW,aY⟩:=bE;have bF:=au.aZ;have bG:cW (iP n T av) []<=4:=cP (by kernel_rfl);refine ai.comp (aG:=λbH am=>∀B,ai u l _ j (iP n T av) B (.pure bH) [] am _) (c:=iP n T av) t (λv=>M' v _) ?_ (λ_ B _ h=>h B);refine M8 (Y:=H (E e)) (.inr (dT e aT aU ⟨t,aV,aW,aY⟩)) au.K (aB _ (V 0 0 101 101 t (be _))) F.it F.da (by rw [bf];lia) ?_ ?_ ?_
  ·intro bg q;injection q with q;injection q with q;have q: @Eq Nat (e+101) bg:=q;intro bc;have bc: @Eq Nat bg (T+101):=bc;exact a2 102 101 t (aq 102 0 0 101 (aq 1 0 101 0 W (ao bc)) (ao q))
  ·intro x O bJ L bK bL;obtain ⟨q,w,rfl⟩:=rX bJ;have a0:=bb q (dP w);have P:∀{b:Nat} {f:ab},b≠T+101->I C b f->I O b f:=λk e=>L.fr _ _ e k;have bi:=P (aX (V 1 0 102 102 t r)) aQ;refine(?_:Q u l _ j (iP n T av) (hZ hR.target (kp n (av+102)) (aj q.1 q.2)) _ _ O);rw [ja];have cont:∀s X,aa g (· =av+102) p O s->I s (av+102) (aJ [U u.params eg X (aj q.1 q.2)])->Q u l (H (E e)) j (iP n T av) (kZ hR.ifs (kp n (av+102))) (λok bj=>if ok=ag then
     Q u l (H (E e)) j (iP n T av) (dR hR.elt (kp n (av+102))) (λx bN=>Q u l (H (E e)) j (iP n T av) (f8 (.builtin "list.append") [E av,x]) (λ_ bO=>∀B,ai u l (H (E e)) j (iP n T av) B (.pure (.again (iP n T av))) [] bO (ei λN am=>N= .ok .next/\aa g (oF T av) p cT am/\uU u av lo o am)) a8 bN) a8 bj
     else∀B,ai u l (H (E e)) j (iP n T av) B (.pure (.again (iP n T av))) [] bj (ei λN am=>N= .ok .next/\aa g (oF T av) p cT am/\uU u av lo o am)) a8 s:=by
    intro s X D bk;rw [show hR.ifs=[]from by kernel_rfl];refine Q.m_ ?_;rw [if_pos t,en];have S:∀{b:Nat} {f:ab},b≠T+101->b≠av+102->I C b f->I s b f:=λk bP e=>D.fr _ _ (P k e) bP;have bR:=D.fr _ _ bL (λq:T+101=av+102=>a2 103 101 t (aq 1 0 102 101 r (ao q)));have bS:=S (aX (V 1 0 102 101 t r)) (bA 101 102 t) aP;have a1:∀{b:Nat} {f:ab},il f->I C b f->b≠T+101/\b≠av+101/\b≠av+102:=λk e=>⟨k.ne e F.it (.inr (.inl t)),k.ne e aP (.inl t),k.ne e aQ (.inr (.inr (by rcases aR with rfl|⟨_,_,rfl⟩<;>rfl)))⟩;have bT:∀(b:Nat) f,il f->I C b f->I s b f:=λb f k e=>S (a1 k e).1 (a1 k e).2.2 e;have bU:TabAt lo s.heap K:=⟨S (a7 (V 0 0 40 101 t (be _))) (a7 (V 0 0 40 102 t (be _))) F.tab.1,λq w=>(F.tab.2 q w).hS bT⟩;have bV:K.map (·.1)∈jY:=by
     rw [F.cD];refine Dv _ (aS (List.length_take_le' ..) (by rw [bM];exact a')) λd Y=> ?_;obtain ⟨q,w,rfl⟩:=hx.mp (List.mem_of_mem_take Y);exact bb q w
    refine hP λbl=> ?_;refine ee (ak:=30) (bm t al) ah D.K (aK bk (aK (S (a7 (an)) (a7 (aD 108 101 1 0 108 102 t an r)) F.m7) (aK (S (a7 (V 1 0 102 101 t ar)) (a7 (aD 1 0 1 0 102 102 t ar r)) F.m9) a6))) .nil ba t (cr:=8) (br:=36) (λG=>Na aA a0 n (e+101) T av G s.toks s.gens.size j bl q.2 X bp cS) (λ_=>t) t (V 0 28 8 36 t al)
     (R:=λG a3 N Z=>aa g (· =39) p a3 Z/\∃a aH,N= .ok (.ret (E a))/\fp lo Z.heap a q.1/\TabAt lo Z.heap aH/\aH.map (·.1)=(if c7 q.1∈K.map (·.1)then K.map (·.1)else K.map (·.1)++[c7 q.1])) ?_ ?_
    ·intro G a3 bX y bY bZ;have y:=y.aE;refine(Ap ah bz y.K aC (.inr (dT e aT aU ⟨t,y.ax (S (a7 (V 1 0 102 101 t W)) (a7 (aD 1 0 1 0 102 102 t W r)) aV),aW,aY⟩)) (aS bB (aS bF (aS L.aZ (aS D.aZ y.aZ)))) a0 (bU.keep λb au e=>y.ax e) bV).lower (a5 t)
    ·rintro G a3 Z bn b0 bX b2 y bY bZ ⟨a4,a,aH,rfl,b3,bo,b4⟩;have y:=y.aE;refine f4 (ak:=30) (bm t al) ah a4.K a6 .nil ba b2 (λb5=>Nb aA a0 n (e+101) T av G s.toks s.gens.size j bl q.2 X bp cS b5 Z.toks Z.gens.size (a+101) b0) (λ_=>t) t ?_;intro ch a9 ci M cj ck;have M:=M.aE;refine⟨_,t, ?_⟩;have aI:∀{b:Nat} {f:ab},b≠39->I s b f->I a9 b f:=λk e=>M.ax (a4.fr _ _ (y.ax e) k);have bs:=aI (aX (V 0 0 40 101 t (be _))) bS;have b6:(as.map λq=>E q.1).length<=1000:=by
      rw [bM];have:=congrArg iu F.np;rw [bM,bM,mv]at this;rw [this];exact aS (Nat.min_le_right _ _) (bm t a')
     refine M7 bG M.K (aB _ (V 0 0 101 101 t (be _))) bs b6 λv aL bt cl b7 B=>ai.again _ (by kernel_rfl) ?_;have aw:∀{b:Nat} {f:ab},b≠av+101->I a9 b f->I aL b f:=λk e=>bt.fr _ _ e k;have b8:=aI (aX (V 0 0 40 101 t (be _))) bR;have b9:=aI (aX (V 0 0 40 102 t (be _))) bk;have bu:∀(b:Nat) f,il f->I a9 b f->I aL b f:=λb f k e=>aw (k.ne e bs (.inl t)) e;have b_:aa g (oF T av) p cT O:=au.then L (λ_ h=> .inl (.inl h)) aF;have b':=b_.then D (λ_ h=> .inl (.inr (.inr (.inl h)))) aF;have cb:=(b'.trans y.zero).then a4 (λ_ h=> .inl (.inr (.inr (.inr h)))) aF;have cc:=(cb.trans M.zero).then bt (λ_ h=> .inl (.inr (.inl h))) aF;have ay:∀{b:Nat} {f:ab},b≠T+101->b≠av+102->b≠39->b≠av+101->I C b f->I aL b f:=λaz cd ce cf e=>aw cf (aI ce (S az cd e));have bv:i<o.length:=(g8.mp w).1;refine bC (m-1) (ta (by assumption) bv).1 (i+1) (as++[(a,q.1)]) aH aL B (ta (by assumption) bv).2 cc ⟨aw (a7 (V 1 0 102 101 t r)) b8,ay (a7 (V 1 0 102 101 t aM)) (a7 (aD 1 0 1 0 102 102 t aM r)) (aX (V 0 0 40 101 t (be _))) (a7 (aD 1 0 1 0 102 101 t aM r)) F.da,⟨bd+1,by rw [e8];exact b7⟩,⟨_,aw (bA 102 101 t) b9,.inr (bh X _ t)⟩,ay (a7 (an)) (a7 (aD 108 101 1 0 108 102 t an r)) (aX (V 0 0 40 107 t (be _))) (a7 (aD 108 101 1 0 108 101 t an r)) F.m7,ay (a7 (V 1 0 102 101 t ar)) (a7 (aD 1 0 1 0 102 102 t ar r)) (aX (V 0 0 40 101 t (be _))) (a7 (aD 1 0 1 0 102 101 t ar r)) F.m9, ?_, ?_, ?_, ?_,bh aT aU ⟨ay (a7 (V 1 0 102 101 t W)) (a7 (aD 1 0 1 0 102 102 t W r)) (aX (V 0 0 40 101 t (be _))) (a7 (aD 1 0 1 0 102 101 t W r)) aV,aW,aY⟩⟩
     ·intro bn af;rcases is.mp af with af|af
      ·refine(F.kn bn af).hS λb f k e=> ?_;have az:=a1 k e
       by_cases aC:b=39
       ·subst aC;rw [F.tab.1]at e;injection e with e;subst e;unfold il at k;rcases k with k|k|k|k<;>exact nomatch k
       ·exact ay az.1 az.2.2 aC az.2.1 e
      ·rw [bQ]at af;subst af;exact(b3.hS λb f _ e=>M.ax e).hS bu
     ·rw [e8,F.np,ov w,e8];rfl
     ·exact⟨aw (a7 (V 0 0 40 101 t (be _))) (M.ax bo.1),λq w=>((bo.2 q w).hS λb f _ e=>M.ax e).hS bu⟩
     ·rw [b4,F.cD];exact M_ (by rw [d1,w];rfl)
   rcases aR with rfl|⟨X,v,rfl⟩
   ·exact Q.eC (ak:=30) (bm t al) ah L.K (aK bi a6) (cK (aB _ (V 0 0 101 102 t (be _)))) ba (λG A=>aA 18 _ ..) t (λG s _ D a_=>cont s _ D.bW (a_ _ _ aO))
   ·exact Q.eC (ak:=30) (bm t al) ah L.K (aK bi a6) (cK (aB _ (V 0 0 101 102 t (be _)))) ba (λG A=>aA 19 _ ..) t (λG s _ D a_=>cont s _ D.bW (a_ _ _ aO))
  ·intro O bw L bK B;rw [bf]at bw;subst bw;have P:∀{b:Nat} {f:ab},b≠T+101->I C b f->I O b f:=λk e=>L.fr _ _ e k;have bx:∀(b:Nat) f,il f->I C b f->I O b f:=λb f k e=>P (k.ne e F.it (.inr (.inl t))) e;exact ai.done (.ok .next) ⟨t,au.then L (λ_ h=> .inl (.inl h)) aF,dT as K bd ⟨P (aX (V 1 0 102 101 t r)) aP,λq w=>(F.kn q w).hS bx,by rw [F.np,ms],P (a7 (V 0 0 40 101 t (be _))) F.tab.1,λq w=>(F.tab.2 q w).hS bx⟩,bD,P (aX (V 1 0 102 102 t r)) aQ,aR⟩
end
open PyProof.Rows (AllBare)
theorem Ng:∃q a bc b dr st,ik=[.If (.BoolOp .Or [.Compare (dm g3.1 0) [.Eq] [dm g3.1 1] q,.Compare (dm g3.2 0) [.NotEq] [dm g3.2 1] a] bc) b [] dr,st]/\ik.drop 1=[st]:=
 kH (ez g3.1) (ez g3.2) (ez (d' ik).1) ((d' ik).2.1) (iC ik) (ik.getD 1 (.Pass default)) ⟨by kernel_rfl,by kernel_rfl⟩
section
variable {g:Nat->Option ab}{C am:ac}
theorem Q.Nh {e:O}{a:bX}{n:c0}{b:List cb}{pos:ap}{d:dQ->ac->Prop}(h:Q u l Y j c (qJ e J) (λ_ f=>Q u l Y j c (bindName a n e) (λ_ g=>Q u l Y j c (c6 b a) d a8 g) a8 f) a8 C):Q u l Y j c (qK e a [.ExceptHandler J (H n) b pos]) d a8 C:=by
 unfold qK;refine Q.jV (Q.bind (h.mono (λ_ f i=>Q.bind (i.mono (λ_ g k=> ?_) (λ_ _ h=>h))) (λ_ _ h=>h)));exact Q.bind (Q.Ab (k.mono (λ_ _ h=>Q.pure h) λ_ _ h=>h.elim))
theorem Ni {b c d:Expr}{e:List Expr}{f:g_}{pos:ap}{a g:O}{i:bX}{R:bZ->ac->Prop}(k:∀(m:ef) (j:O->ac->Prop) (af:O->ac->Prop),j a C->bD (b1 bH u) m (o6 a) j af C)
  (h:a4 u l Y (.compLoop (.ListComp b [⟨c,d,e,0⟩] f pos) 0 a g i) C R):a4 u l Y (.compStart (.ListComp b [⟨c,d,e,0⟩] f pos) 0 a g i) C R:=
 fb.rc (yY (fb.code h) (k _ _ _ (fb.code h)))
section
variable {n e d bL i bU m o:Nat}{q:Array (Option O)}(a:Base g)(b:li g u.params)(K:aR g C)(f:l<=20)(h:I C (n+101) (bz [U u.params k d (E bL),U u.params dh i (E bU),U u.params e_ o (.ref e)] m q))
include a b K f h
theorem Nj {d:Nat}(Y:d=6\/d=7){r s:Nat}{o:List O}(q:o.length<=2)(c:I C (bU+101) (ah (.str ⟨⟨eQ d⟩⟩ r::o) s)):
  Q u l (H (.ref e)) j (gk n e) (bT (dm g3.2 1) (bb n)) (λv am=>(∃w,v= .str (dz d) w)/\aa g p p C am) a8 C:=by
 revert c;rcases Y with rfl|rfl
 ·refine wi q ?_ ?_ ?_
  ·exact λc=>Q.V (ak:=20) (v:=λ_=> .str (dz 6) (C.toks+2)) f a K (aK h (aK c a6)) .nil ba (λk A=>b 9 _ ..) t (λ_ m _ i _=>⟨⟨_,t⟩,i.aE⟩)
  ·exact λx c=>Q.V (ak:=20) (v:=λ_=> .str (dz 6) (C.toks+2)) f a K (aK h (aK c a6)) .nil ba (λk A=>b 10 _ ..) t (λ_ m _ i _=>⟨⟨_,t⟩,i.aE⟩)
  ·exact λx y c=>Q.V (ak:=20) (v:=λ_=> .str (dz 6) (C.toks+2)) f a K (aK h (aK c a6)) .nil ba (λk A=>b 11 _ ..) t (λ_ m _ i _=>⟨⟨_,t⟩,i.aE⟩)
 ·refine wi q ?_ ?_ ?_
  ·exact λc=>Q.V (ak:=20) (v:=λ_=> .str (dz 7) (C.toks+2)) f a K (aK h (aK c a6)) .nil ba (λk A=>b 12 _ ..) t (λ_ m _ i _=>⟨⟨_,t⟩,i.aE⟩)
  ·exact λx c=>Q.V (ak:=20) (v:=λ_=> .str (dz 7) (C.toks+2)) f a K (aK h (aK c a6)) .nil ba (λk A=>b 13 _ ..) t (λ_ m _ i _=>⟨⟨_,t⟩,i.aE⟩)
  ·exact λx y c=>Q.V (ak:=20) (v:=λ_=> .str (dz 7) (C.toks+2)) f a K (aK h (aK c a6)) .nil ba (λk A=>b 14 _ ..) t (λ_ m _ i _=>⟨⟨_,t⟩,i.aE⟩)
theorem Nk(z:l<=12){M:Nat}{aM:O}{m:c0}{d:Nat}{q:Array (Option O)}(r:I C e (iN M aM))(s:C.heap.get? M=H {fQ [.str m d]with slots:=q}):
  Q u l (H (.ref e)) j (gk n e) (bT (dm g3.2 0) (bb n)) (λv am=>v= .str m d/\aa g p p C am) a8 C:=by
 refine hP λA=> ?_;refine l9 (ak:=20) f a K (aK h a6) .nil ba t (cr:=8) (λi=>b 7 _ ..) (λ_=>t) t
  (aG:=λi k v o=>v= .str m d/\o=k) ?_ ?_
 ·intro i k B D c E w G L N;have c:=c.aE;exact P.str_of_exc_one F.excStr_RuntimeError (dZ (show _<=1600 by lia) (by decide)) (bh _ _ ⟨c.ax r,t,t,t⟩) (bh _ _ ⟨c.ax s,t,t⟩) ⟨t,t⟩
 rintro i k o v R S x c T w ⟨rfl,rfl⟩;have c:=c.aE;refine f4 (ak:=20) f a c.K a6 .nil ba x (λU=>b 8 _ ..) (λ_=>t) t ?_;intro V W X y Y Z;exact⟨_,t,t,c.trans y.aE⟩
end
end
open PyProof.Rows (AllBare)
section
variable {g:Nat->Option ab}{C am:ac}
noncomputable def qa(n aM:Nat):ae->Prop:=λx=>x=n+101\/x=39\/x=aM
theorem Nl:hq.2.1=H nt:=by kernel_rfl
theorem Nm {n e:Nat}:gk n e= .handlers (.ref e) [.ExceptHandler J (H nt) ik hq.2.2.2] (bb n):=by
 unfold gk;refine r Nl ?_;rfl
theorem Nn {n e:Nat}:cW (gk n e) []<=4:=cP (by kernel_rfl)
theorem No(B:Base g)(D:li g u.params)(bX:je g u.params)(K:aR g C)(aU:∀x:Nat,101<=x->g x=J)(bY:g 39=J){n e M aM Z ac af L aV d bZ b0 b2 a9 bs bd bt lo p':Nat}{aj b3:Array (Option O)}{b4 b5 b7 b8:O}{ar bv:List O}{F:List (Nat×Nat)}{bf:List (Nat×ae)}
  (bg:I C (n+101) (bz [U u.params k Z (E ac),U u.params dh af (E L)] aV aj))
  (as:I C (e+101) (iN M (.ref aM)))(bx:I C aM (gZ b4 b5 b7 b8 ar))(b9:g aM=J)(b_:C.heap.get? M=H {fQ [.str (dz d) b2]with slots:=b3})(Y:d=6\/d=7)
  (b':I C (L+101) (ah (.str ⟨⟨eQ d⟩⟩ bZ::bv) b0))(cb:bv.length<=2)(cc:I C (n+104) (a' (E a9)))(bA:I C (a9+101) (ah (ca F) bs))(cd:F.length<=2)(ce:∀q∈F,q.1<6)
  (bC:I C (n+107) (a' (E bd)))(bD:I C (bd+101) (ah (eE bt) 0))(cf:lo<=C.heap.objs.size)(bE:TabAt lo C.heap bf)(cg:bf.map (·.1)=fh ((F.map (·.1)).take p')):
  a4 u 8 (H (E e)) (gk n (e+101)) C λar am=>ar= .ok .next/\aa g (qa n aM) p C am/\∃y au N ay,I am (n+101) (bz [U u.params k Z (E ac),U u.params dh af (E L),U u.params e_ au (E e),U u.params fW N (E y)] ay aj)/\@eY Nat _ C.heap.objs.size (y+101)/\lh lo F y am.heap:=by
 refine a4.c1 λj A=> ?_;have rL:∀{b:Nat} {m:ab},I C b m->m.cls≠ .type "traceback"->b≠aM:=λc S q=>by
  subst q;unfold I at c;rw [bx]at c;injection c with c;exact S (by refine r (cj c) ?_;rfl)
 have bF:Q u 8 (H (E e)) j (gk n (e+101)) (qK (E e) (bb n) [.ExceptHandler J (H nt) ik hq.2.2.2]) (λf am=>f= .next/\aa g (qa n aM) p C am/\∃y au N ay,I am (n+101) (bz [U u.params k Z (E ac),U u.params dh af (E L),U u.params e_ au (E e),U u.params fW N (E y)] ay aj)/\@eY Nat _ C.heap.objs.size (y+101)/\lh lo F y am.heap) a8 C:=by
  refine Q.Nh (r MM ?_);have ch:e+101≠aM:=rL as (λq=>dA q (by decide));refine Q.eC (ak:=20) (a5 t) B K (aK as (aK bx a6)) (.nodup (lC ch) (a_ (eo b9) dG)) ba (λi A=>D 3 _ ..) t (λi az _ aA cU=> ?_);have aA:aa g (· =aM) p C az:=aA.mono (λx h=> .inl (by
   have:x∈[aM]:=h
   rwa [bQ]at this)) aF
  have bG:∀{b:Nat} {m:ab},I C b m->m.cls≠ .type "traceback"->I az b m:=λc S=>aA.fr _ _ c (rL c S);have ck:=bG bg (λq=>dA q (by decide));have bi:=bB bg;refine r DJ (Q.eC (ak:=20) (a5 t) B aA.K (aK ck a6) (cK (aU _ (V 0 0 101 101 t (be _)))) ba (λi A=>D 4 _ ..) t (λi bH _ aC cl=> ?_));have aC:=aC.bW;have aG:=cl _ _ aO;have aW:∀{b:Nat} {m:ab},I C b m->m.cls≠ .type "traceback"->m.cls≠ .type "frame"->I bH b m:=λc S aI=>aC.fr _ _ (bG c S) (by
   rintro rfl;unfold I at c;rw [bg]at c;injection c with c;exact aI (by refine r (cj c) ?_;rfl))
  have cm:=aW as (λq=>dA q (by decide)) (λq=>dA q (by decide));have cn:=aW b_ (λq=>dA q (by decide)) (λq=>dA q (by decide));have bI:=aW b' (λq=>dA q (by decide)) (λq=>dA q (by decide));have co:aa g (qa n aM) p C bH:=(aA.mono (gQ:=qa n aM) (λ_ h=> .inl (.inr (.inr h))) aF).then aC (λ_ h=> .inl (.inl h)) aF;refine aw Ng (jK λq cW bc cX dr st=>an λcp cq=> ?_);refine r cp (Q.execs_cons (Q.If (Q.x7 (Q.jW ?_ (by kernel_rfl)))));refine r en (Q.V (ak:=20) (v:=λ_=>E L) (a5 t) B aC.K (aK aG a6) .nil ba (λi A=>D 5 _ ..) t (λ_ cY _ aJ _=> ?_));have aJ:=aJ.aE;refine Q.V (ak:=20) (a5 t) B aJ.K (aK (aJ.ax aG) a6) .nil ba (λi A=>D 6 _ ..) t (λcs cZ _ ct cu=> ?_);have al:=aJ.trans ct.aE;refine Q.any (SeqAt.RcAt.lists_lengths (l:=L+101) (b:=cs+101) ⟨_,al.ax bI,t,_,t⟩ ⟨_,cu _ _ aO,t,_,t⟩ t ?_ _ _ _ _ (Q.jc ?_))
  ·exact dZ (dq _ 2) (pY (a5 t) Nn)
  rw [if_neg (by simp)];refine Q.jW ?_ (by kernel_rfl);refine r en ((Nk B D al.K (a5 t) (al.ax aG) (a5 t) (al.ax cm) (al.ax cn)).mono ?_ (λ_ _ h=>h));refine λv c0=>an ?_;rintro rfl;intro bJ;have bj:=al.trans bJ;refine(Nj B D bJ.K (a5 t) (bj.ax aG) Y cb (bj.ax bI)).mono ?_ (λ_ _ h=>h);refine λv aY=>an (aH λc2=> ?_);rintro rfl;intro bK;have bk:=bj.trans bK;refine Q.any (P.ne_str (Q.jc ?_));rw [if_neg (by simp)];refine Q.execs_nil ?_;refine(?_:Q u 8 _ j _ (c6 [st] (bb n)) _ _ aY);refine r jb (r (cj cq) ?_);have bl:∀{b:Nat} {m:ab},I C b m->m.cls≠ .type "traceback"->m.cls≠ .type "frame"->I aY b m:=λc S aI=>bk.ax (aW c S aI);have cv:=bl cc (λq=>dA q (by decide)) (λq=>dA q (by decide));have bL:=bl bA (λq=>dA q (by decide)) (λq=>dA q (by decide));have bM:=co.trans bk.zero;have cw:=bB bA;have cx:=bB as;have cz:=bB bD;have cA:=bB bC;have s:=bM.aZ;refine g0 λc3=>ai.dN λc4 bN=> ?_;refine ee (ak:=20) (a5 t) B bK.K (aK cv (aK bL a6)) .nil ba t (cr:=8) (br:=16) (λi=>D 15 _ ..) (λ_=>t) t (a5 t)
   (R:=λi X ar ap=>ar= .ok .next/\aa g (oF i (i+1)) p X ap/\uU u (i+1) lo F ap) ?_ ?_
  ·intro i X w G aL bO;have G:=G.aE;have aP:∀{b:Nat} {m:ab},I C b m->m.cls≠ .type "traceback"->m.cls≠ .type "frame"->I X b m:=λc S aI=>G.ax (bl c S aI);refine Ni (xz (aL _ _ aO)) (a4.c1 λj cB=> ?_);have cC:∀(b:Nat) m,il m->I C b m->I X b m:=λb m c h=>aP h (by rcases c with c|c|c|c<;>refine r c ?_<;>exact λq=>dA q (by decide)) (by rcases c with c|c|c|c<;>refine r c ?_<;>exact λq=>dA q (by decide));have aQ:aY.heap.objs.size=i+101:=w;exact Nf (p':=p') B D bX aU bY (a5 t) (cT:=X) (n:=n) (e:=e) (T:=i) (av:=i+1) (bp:=bd) (cS:=bt) (da:=a9) (jy:=bs) (lo:=lo) (o:=F) cd ce (cV 1 1 t) (cy 108 0 0 0 0 101 108 101 t cA s (aB w)) (cy 102 0 0 0 0 101 1 0 t cz s (aB w)) (cy 102 0 0 0 0 101 1 0 t cw s (aB w)) (aD 0 101 104 0 0 0 t (aq 0 0 0 101 (aq 0 0 0 0 cf s) (aB w)) (ao bO)) (cy 102 0 0 0 0 101 1 0 t cx s (aB w)) F.length 0 [] bf X cB (by lia) (.refl G.K)
    ⟨aL _ _ aO,G.ax bL,⟨0,aL _ _ ci⟩,⟨_,aL _ _ dK,.inl t⟩,aP bC (λq=>dA q (by decide)) (λq=>dA q (by decide)),aP bD (λq=>dA q (by decide)) (λq=>dA q (by decide)),a0,t,⟨aP bE.1 (λq=>by cases q) (λq=>by cases q),λq aT=>(bE.2 q aT).hS cC⟩,by rw [cg,vv (be _)],bh _ _ ⟨aP as (λq=>dA q (by decide)) (λq=>dA q (by decide)),t,t⟩⟩
  refine λi X ap c5 c7 w bP G aL bO=>bu ?_;rintro rfl;refine λa1=>cE λcD cF cG=>bu λcH cI cJ bR=>aH λW=>an λbm a3=> ?_;have G:=G.aE;have aQ:aY.heap.objs.size=i+101:=w;have cL:∀{b:Nat},b<i+101->b≠39->¬oF i (i+1) b:=λ{b} c a3 q=>by
   rcases q with q|q|q|q
   ·have q:b=i+101:=q;exact a2 102 101 t (aq 1 101 101 0 c (ao q))
   ·have q:b=i+1+101:=q;exact a2 103 101 t (aq 1 101 102 0 c (ao q))
   ·have q:b=i+1+102:=q;exact a2 104 101 t (aq 1 101 103 0 c (ao q))
   ·exact a3 q
  have bn:=a1.fr _ _ (G.ax (bk.ax aG)) (cL (cy 102 0 0 0 0 101 102 101 t bi s (aB w)) (aX (V 0 0 40 101 t (be _))));have cM:aa g (qa n aM) p C ap:=(bM.trans G.zero).then a1 (λx q=>by
   rcases q with q|q|q|q
   ·exact .inr (by rw [show x=i+101 from q];exact aD 0 0 0 101 0 101 t s (aB w))
   ·exact .inr (by rw [show x=i+1+101 from q];exact aS s (by rw [aQ];exact cV 101 102 t))
   ·exact .inr (by rw [show x=i+1+102 from q];exact aS s (by rw [aQ];exact cV 101 103 t))
   ·exact .inl (.inr (.inl q))) aF
  have bS:∀z N,aa g (λx=>x=n+101\/x=i+103) p ap z->I z (n+101) (bz [U u.params k Z (E ac),U u.params dh af (E L),U u.params e_ az.toks (E e),U u.params fW N (.ref (i+102))] (aV+1+1) aj)->
    aa g (qa n aM) p C z/\∃y au N ay,I z (n+101) (bz [U u.params k Z (E ac),U u.params dh af (E L),U u.params e_ au (E e),U u.params fW N (E y)] ay aj)/\@eY Nat _ C.heap.objs.size (y+101)/\lh lo F y z.heap:=by
   intro z N W cN;have bT:∀(b:Nat) m,il m->I ap b m->I z b m:=λb m c h=>W.fr _ _ h λq=>by
    rcases q with q|q
    ·subst q;unfold I at h;rw [bn]at h;injection h with h;subst h;rcases c with c|c|c|c<;>exact dA c (by decide)
    ·exact c.ne h bm (.inr (.inr (by rcases a3 with rfl|⟨_,_,rfl⟩<;>rfl))) q
   refine⟨cM.then W (λx q=>q.imp .inl λq=>by rw [show x=i+103 from q];exact aS s (by rw [aQ];exact bw t)) aF,i+1,az.toks,N,aV+1+1,cN,aS s (by rw [aQ];exact cV 101 102 t),cD,cF,cG,W.fr _ _ cH ?_,λq aT=>(cI q aT).hS bT,cJ,W.fr _ _ bR.1 ?_,λq aT=>(bR.2 q aT).hS bT⟩
   ·rintro (q|q)
    ·have q:i+1+101=n+101:=q;exact a2 204 202 t (aq 102 101 102 101 (aq 102 0 0 101 (aq 102 0 0 0 bi s) (aB w)) (aB q))
    ·have q:i+1+101=i+103:=q;exact a2 103 102 t (ao q)
   ·rintro (q|q)
    ·have q:39=n+101:=q;exact a2 101 39 t (aq 101 39 0 0 (ao q) (be _))
    ·have q:39=i+103:=q;exact a2 103 39 t (aq 103 39 0 0 (ao q) (be _))
  have bU:∀bV,b6 g [((n+101:ae),bz [U u.params k Z (E ac),U u.params dh af (E L),U u.params e_ az.toks (E e)] (aV+1) aj),(i+103,bV)] [0,1]:=λbV=> .nodup (lC (a:=n+101) (b:=i+103) (a7 (cy 102 0 0 0 0 101 102 103 t bi s (aB w)))) (a_ (eo (aU (n+101) (hT _ _))) (a_ (eo (aU (i+103) (V 0 0 101 103 t (be _)))) dG));rcases a3 with rfl|⟨c9,c_,rfl⟩
  ·refine eU (ak:=20) (a5 t) B a1.K (aK bn (aK bm a6)) (bU _) ba bP (λcO=>D 16 _ ..) (λ_=>t) t ?_;intro cP z cQ W bo cR;exact(bN _ _ ⟨t,bS z _ W.hn (bo _ _ aO)⟩)
  ·refine eU (ak:=20) (a5 t) B a1.K (aK bn (aK bm a6)) (bU _) ba bP (λcO=>D 17 _ ..) (λ_=>t) t ?_;intro cP z cQ W bo cR;exact(bN _ _ ⟨t,bS z _ W.hn (bo _ _ aO)⟩)
 rw [Nm]at bF⊢;exact ai.DL bF (λf am h=>⟨congrArg qS h.1,h.2⟩)
end
end
open DF x_
set_option backward.match.sparseCases true
section
open PySem PySem.W PySem.Calls
open PyProof.Rows (AllBare)
theorem Np:∃q,bO 6=[.Try kf [.ExceptHandler (H hq.1) (H nt) ik hq.2.2.2] [] [] q]:=⟨iC (bO 6),by kernel_rfl⟩
section
variable {C am:ac}{af:O->ac->Prop}
theorem Q.own {m:aL}{e:Nat}{n:bX}{R:bZ->ac->Prop}{i:dQ->ac->Prop}(o:cW c []<=4)(h:cQ.a4 u (l+4) (H (.ref e)) m C R)(k:∀g am,R g am->∃f,g= .ok f/\i f am):Q u l Y j c (runOwn m n (H (.ref e))) i af C:=by
 obtain ⟨a,b,d⟩:=oh (Y:=Y) (l:=l) o;exact Q.any (wpAny_runOwn ((h.mono (cJ:=λg am=>match g with| .ok f=>i f am| .error e=>cameBackBy _ _ _ _ e am) (λg am p=>by
  obtain ⟨f,rfl,r⟩:=k g am p;exact r)).code t b d) (λq=>by cases q))
theorem Q.Nq {e:O}{a:bX}{M:Expr}{n:c0}{d:List cb}{pos:ap}{g:dQ->ac->Prop}
  (h:Q u l Y j c (runOwn (.handlers e [.ExceptHandler (H M) J [] pos] a) a (H e)) (λf i=>f= .brk/\Q u l Y j c (runOwn (.handlers e [.ExceptHandler J (H n) d pos] a) a (H e)) (λf k=>Q u l Y j c (bindName a n .none) (λ_ m=>Q u l Y j c (unbindBehindTheSuite a n pos) (λ_ o=>g f o) a8 m) a8 k) a8 i) a8 C):Q u l Y j c (handleBy e a [.ExceptHandler (H M) (H n) d pos]) g af C:=by
 rw [handleBy];refine Q.bind (Q.hold (h.mono (λf i b=> ?_) λ_ _ h=>h.elim));obtain ⟨rfl,b⟩:=b;exact Q.bind (Q.pure (Q.bind (Q.hold (b.mono (λf k p=>Q.bind (Q.hold (Q.bind (p.mono (λ_ m q=>q.mono (λ_ o r=>Q.pure r) λ_ _ h=>h.elim) λ_ _ h=>h.elim)))) λ_ _ h=>h.elim))))
theorem Nr {cS d:Nat}(Y:d=6\/d=7):∃a,nl cS d= .str ⟨⟨eQ d⟩⟩ a:=by
 rcases Y with rfl|rfl<;>exact⟨_,t⟩
theorem Nt {a d c:List (Nat×Nat)}{q:Nat×Nat}(e:∀q∈a,q.1<6)(f:6<=q.1)(g:c=a++q::d):c.find? (λq=>decide (6<=q.1))=H q/\c.filter (λq=>decide (q.1<6))=a++d.filter (λq=>decide (q.1<6))/\c.filter (λq=>decide (6<=q.1))=q::d.filter (λq=>decide (6<=q.1)):=by
 subst g;have h:a.find? (λq=>decide (6<=q.1))=none:=List.find?_eq_none.mpr λx b=>by have:=e x b;simp;exact this
 have i:a.filter (λq=>decide (6<=q.1))=[]:=yS.mpr λx b=>by have:=e x b;simp;exact this
 have j:a.filter (λq=>decide (q.1<6))=a:=qw.mpr λx b=>by have:=e x b;simp;exact this
 refine⟨?_, ?_, ?_⟩
 ·rw [List.find?_append,h];simp [f]
 ·rw [ls,j,List.filter_cons_of_neg (by simp;exact f)]
 ·rw [ls,i,List.filter_cons_of_pos (by simp;exact f)];rfl
end
open PyProof.Rows (AllBare)
theorem h6.lower {lo e f:Nat}{c:ae}{h:aY}(M:h6 lo h f c)(g:e<=lo):h6 e h f c:=by
 refine aw M (bo λi j=>aT λa b d=> ?_);exact bh i j ⟨a,aS g b,d⟩
theorem TabAt.lower {lo a:Nat}{h:aY}{b:List (Nat×ae)}(M:TabAt lo h b)(c:a<=lo):TabAt a h b:=⟨M.1,λq d=>(M.2 q d).lower c⟩
theorem fp.lower {lo e a d:Nat}{h:aY}(M:fp lo h a d)(b:e<=lo):fp e h a d:=by
 refine aw M (cE λi j c=>bu λk l m f=> ?_);exact dT i j c ⟨aS b k,l,m.lower b,λy g=>⟨aS b (f y g).1,(f y g).2⟩⟩
noncomputable def DN(u:cZ)(n m b c:Nat)(d:List (Nat×Nat))(C:ac):Prop:=∃e f g h i a j,I C (n+101) (bz (dI u.params e b f c g a []) h i)/\lh (m+101) d a C.heap/\I C 96 (co ⟨[.int 121 0,.int 25 0,.ref j]⟩)
theorem Nu(av:Base g)(ay:li g u.params)(bL:je g u.params)(aY:∀x:Nat,101<=x->g x=J)(az:g 39=J){B D:ac}{T:List Nat}{e M m aj G bN al am a0 a1 a3 bO a4:Nat}{F:List (Nat×Nat)}{q:Nat×Nat}(K:aR g C)(bR:F.length=3)(bS:∀q∈F,q.1<8)
  (bT:C.heap.objs.size=m+101)(w:F.find? (λq=>decide (6<=q.1))=H q)
  (L:I C (n+101) (ek [U u.params k al (E aj),U u.params dh am (E G)]))
  (bU:I C (n+107) (a' (E a0)))(W:I C (a0+101) (ah (eE a1) 0))(X:I C (G+101) (ah ((F.filter λq=>decide (6<=q.1)).map λq=>nl a1 q.1) bN))
  (bV:I C (n+104) (a' (E a3)))(Z:I C (a3+101) (ah (ca (F.filter λq=>decide (q.1<6))) bO))
  (s:aa g r4 p C B)(bX:∀x∈T,x∈[n+101]\/C.heap.objs.size<=x)(a9:∀x∈T,g x=J/\∃d,I B x d/\∀aA,d.data≠ .fields aA)(bY:x6 (m+113) F B.heap)(a_:I B 96 (co ⟨[.int 121 0,.int 25 0,.ref a4]⟩))
  (f:f5 (ij B.heap T) [bb n] e M (dz q.1) .none B D):
  Q u 0 J j (cn n) (handleBy (.ref e) (bb n) [.ExceptHandler (H hq.1) (H nt) ik hq.2.2.2]) (λf aC=>f= .next/\aa g (nr n) p C aC/\DN u n m aj G (F.filter λq=>decide (q.1<6)) aC) a8 D:=by
 have cC:=bB L;have bc:=s.aZ;have bp:=f.K s.K (oE s.K a9);refine aw f.km (bu λbZ cD cF=>i6 λN cG cH cI aE=>bu λbd v y cJ=> ?_);have br:=f.lo;have ae:=K.lo;obtain ⟨aG,rfl⟩:∃aG:Nat,e=aG+101:=⟨e-101,dF ((qs (aW _))) ((ew (ir (cy 101 0 0 0 0 0 101 0 t ae bc br))))⟩;refine aw f.arg (bo λcL cM b0=> ?_);have ap:∀{b:Nat} {d:ab},b∉T->I B b d->I D b d:=λi h=>bZ _ _ ((oD i).trans h);have P:∀{b:Nat},b<C.heap.objs.size->b≠n+101->b∉T:=λi l q=>by
  rcases bX _ q with h|h
  ·rw [bQ]at h;exact l h
  ·exact a2 1 0 t (aq 1 0 0 0 i h)
 have af:∀{b:Nat} {d:ab},b≠n+101->b≠96->b≠39->I C b d->I D b d:=λL b2 b3 h=>ap (P (bB h) L) (s.fr _ _ h (λq=>q.elim b2 b3));have b4:g N=none:=by
  cases w:g N with
  |none=>rfl
  |some d=>rw [oE s.K a9 N d w]at y;cases y
 obtain ⟨aI,aJ⟩:=f.up (n+101) _ (s.fr _ _ L (λq=>q.elim (λq:n+101=96=>a2 101 96 t (aq 101 96 0 0 (aB q) (be _))) (λq:n+101=39=>a2 101 39 t (aq 101 39 0 0 (aB q) (be _))))) (λaA q=>by cases q);have aJ:I D (n+101) (bz [U u.params k al (E aj),U u.params dh am (E G)] 2 aI):=aJ;refine aw bY (bo λbs bt=>bu λbf b5 b6=>bo λcN bg=>an λbv bi=> ?_);obtain ⟨aL,bx,b7⟩:=Nt b6 bv bi;rw [w]at aL;injection aL with aL;subst aL;have b8:bt.length+(1+bg.length)=3:=by rw [<-bR,bi,e9,jC,iq 1]
 have bC:q.1=6\/q.1=7:=by
  exact zy (bS q (by rw [bi];simp)) (cx bv)
 obtain ⟨cO,b9⟩:=Nr (cS:=a1) bC;have cP:=hy (λq=>decide (q.1<6)) bg;have cQ:=hy (λq=>decide (6<=q.1)) bg;have b_:∀d,I C N d->False:=λd h=>by
  by_cases l:N=n+101
  ·rw [l]at v;rw [aJ]at v;injection v with v;exact dA (congrArg ha v) (by decide)
  ·by_cases bD:N=96
   ·rw [bD]at y;rw [(oD (P (V 101 0 97 0 t ae) (a7 (V 0 0 97 101 t (be _))))).trans a_]at y;cases y
   ·by_cases az:N=39
    ·rw [az]at y;rw [(oD (P (V 101 0 40 0 t ae) (a7 (V 0 0 40 101 t (be _))))).trans bf.1]at y;cases y
    ·rw [(oD (P (bB h) l)).trans (s.fr _ _ h (λq=>q.elim bD az))]at y;cases y
 have b':∀{b:Nat} {d:ab} {aA:Array O},I B b d->d.data= .fields aA->b∉T:=λi Y q=>by
  refine aw (a9 _ q) (an λ_=>aH λcR=>an λar l=> ?_);unfold I at ar;rw [i]at ar;injection ar with ar;subst ar;exact l _ Y
 have cb:TabAt (m+113) D.heap bs:=⟨ap (P (V 101 0 40 0 t ae) (a7 (V 0 0 40 101 t (be _)))) bf.1,λq w=>by
  refine aw (bf.2 q w) (bo λcc cd=>aT λa b c=> ?_);exact bh cc cd ⟨a,b,ap (b' c t) c⟩⟩
 have bE:B.heap.objs.size<=D.heap.objs.size:=eW (dZ br (bB bd));refine Q.Nq (Q.own (R:=λaE aC=>aE= .ok .brk/\aa g p p D aC) ou ((M6 av ay bp bd v).lower (a5 t)) ?_);refine λaE ce=>an ?_;rintro rfl;intro o;refine⟨_,t,t, ?_⟩;have cf:=af (by rintro q;have q: @Eq Nat (G+101) (n+101):=q;unfold I at X;rw [q,L]at X;injection X with X;exact dA (congrArg ha X) (by decide)) (by lia) (by lia) X;have bF:=o.ax cf;rw [b7,sD,b9]at bF;have cg:=af (by rintro q;have q: @Eq Nat (a3+101) (n+101):=q;unfold I at Z;rw [q,L]at Z;injection Z with Z;exact dA (congrArg ha Z) (by decide)) (by lia) (by lia) Z;have ch:=af (by rintro q;have q: @Eq Nat (a0+101) (n+101):=q;unfold I at W;rw [q,L]at W;injection W with W;exact dA (congrArg ha W) (by decide)) (by lia) (by lia) W;have ci:TabAt (m+113) ce.heap bs:=cb.keep λb d h=>o.ax h;have cj:aa g (nr n) p C D:=⟨bp,λb d h l=>af (λq=>l (.inl q)) (λq=>l (.inr (.inl q))) (λq=>l (.inr (.inr q))) h,aS bc bE,λaM st h aP=>by refine r f.ct ?_;exact s.ct aM st h aP,by rw [f.ct];exact s.dH,λh=>by rw [f.ct];exact s.gP h,f.eP.trans s.eP,f.os.trans s.os⟩;have S:=cj.trans o.zero;have ck:=af (bA 104 101 t) (aX (V 0 0 97 104 t (be _))) (aX (V 0 0 40 104 t (be _))) bV;have cl:=af (bA 107 101 t) (aX (V 0 0 97 107 t (be _))) (aX (V 0 0 40 107 t (be _))) bU;have cm:(F.filter λq=>decide (q.1<6)).length<=2:=by refine r bx (r e9 ?_);exact io (bP (lq (dZ (hy _ _) (Nat.lt_add_of_pos_left nF)) _) (aB b8))
 refine Q.own ou ((No (p':=bt.length) (lo:=m+101) av ay bL o.K aY az (o.ax aJ) (o.ax bd) (o.ax v) b4 (o.ax b0) bC bF (by rw [bM];lia) (o.ax ck) (o.ax cg) cm (λq w=>by simpa using (gI.mp w).2) (o.ax cl) (o.ax ch) (by have:=o.aZ;exact aD 101 0 0 0 101 0 t (aq 101 0 0 0 (aq 101 0 0 0 (ao bT) bc) bE) this) (ci.lower (bw t)) (by rw [b5,bx,e8,List.take_left' (by rw [bM])])).lower (a5 t)) (λaE ai=>aT ?_);rintro rfl;refine λz=>gL λbj bG bk bl=>aT λbm cT cp=>⟨_,t, ?_⟩;have cq:aa g (nr n) p C ai:=⟨z.K,λb d h l=>z.fr _ _ (S.fr _ _ h l) (λq=>by
  rcases q with q|q|q
  ·exact l (.inl q)
  ·exact l (.inr (.inr q))
  ·subst q;exact b_ _ h),aS S.aZ z.aZ,λaM st h aP=>z.ct aM st (S.ct aM st h aP) aP,aS S.dH z.dH,λh=>z.gP (S.gP h),z.eP.trans S.eP,z.os.trans S.os⟩
 refine r DJ (Q.eC (ak:=20) (a5 t) av z.K (aK bm a6) (cK (aY _ (V 0 0 101 101 t (be _)))) ba (λbn A=>ay 32 n (aG+101) bn ai.toks ai.gens.size j A al aj am G bl aI bG bk bj) t (λ_ bH _ as cr=> ?_));have as:=as.bW;refine r MN (Q.eC (ak:=20) (a5 t) av as.K (aK (cr _ _ aO) a6) (cK (aY _ (V 0 0 101 101 t (be _)))) ba (λbn A=>ay 33 n (aG+101) bn bH.toks bH.gens.size j A al aj am G bl aI bG bk bj hq.2.2.2) t (λ_ bI _ aQ cs=> ?_));have aQ:=aQ.bW;have cu:I ai 96 (co ⟨[.int 121 0,.int 25 0,.ref a4]⟩):=z.fr _ _ (o.ax (ap (P (V 101 0 97 0 t ae) (a7 (V 0 0 97 101 t (be _)))) a_)) (λq=>by
  rcases q with q|q|q
  ·have q:96=n+101:=q;exact a2 101 96 t (aq 101 96 0 0 (ao q) (be _))
  ·exact absurd (show @Eq Nat 96 39 from q) (by decide)
  ·rw [<-q]at v;rw [ap (P (V 101 0 97 0 t ae) (a7 (V 0 0 97 101 t (be _)))) a_]at v;injection v with v;exact nomatch (congrArg ha v))
 have aU:∀{b:Nat} {d:ab},b≠n+101->I ai b d->I bI b d:=λi h=>aQ.fr _ _ (as.fr _ _ h i) i;refine aw cp (cE λcv cw cz=>bu λau cA cB bJ=> ?_);have bK:∀(b:Nat) aV,il aV->I ai b aV->I bI b aV:=λb aV i h=>aU (λq=>by
  subst q;unfold I at h;rw [bm]at h;injection h with h;subst h;rcases i with i|i|i|i<;>exact dA i (by decide)) h
 refine⟨t,(cq.then as (λ_ h=> .inl (.inl h)) aF).then aQ (λ_ h=> .inl (.inl h)) aF,al,am,bk,bl+1,aI,bj,a4,cs _ _ aO,dT cv cw cz ⟨aU (λq=> ?_) au,λq w=>(cA q w).hS bK,cB,aU (a7 (V 0 0 40 101 t (be _))) bJ.1,λq w=>(bJ.2 q w).hS bK⟩,aU (a7 (V 0 0 97 101 t (be _))) cu⟩;rw [q,bm]at au;injection au with au;exact dA (congrArg ha au) (by decide)
theorem Nv(A:Base g)(W:k9 g u.params)(aw:m1 g u.params)(X:je g u.params)(ay:li g u.params)(K:aR g C)(Y:∀x:Nat,101<=x->g x=J)(Z:g 39=J)(az:g 96=J)(ab:eX j=[]){m s aA c aC ac ae B D af aE:Nat}{a:List (Nat×Nat)}(F:a.length=3)(ai:∀q∈a,q.1<8)
  (w:C.heap.objs.size=m+101)(aF:n+6<m)(G:I C (n+101) (ek [U u.params k ac (E s),U u.params dh ae (E c)]))(aG:I C 96 (co ⟨[]⟩))(aI:I C 39 (co ⟨[]⟩))(L:I C (s+101) (ah (ca a) aA))
  (aj:I C (n+107) (a' (E B)))(N:I C (B+101) (ah (eE D) 0))(i:I C (c+101) (ah ((a.filter λq=>decide (6<=q.1)).map λq=>nl D q.1) aC))
  (aJ:I C (n+104) (a' (E af)))(aK:I C (af+101) (ah (ca (a.filter λq=>decide (q.1<6))) aE)):
  Q u 0 J j (cn n) (b7 (bO 6) (bb n)) (λf ak=>f= .next/\aa g (nr n) p C ak/\DN u n m s c (a.filter λq=>decide (q.1<6)) ak) a8 C:=by
 obtain ⟨a_,aL⟩:=Np;have aM:=bB L;have aO:=bB N;have al:∀{b:Nat} {aP:List O} {e:Nat},I C (b+101) (ah aP e)->b≠n:=λl q=>by
  unfold I at l;rw [q,G]at l;injection l with l;exact dA (congrArg ha l) (by decide)
 rw [aL,<-jb,<-ts];refine Q.Try (r ((yR 1 kf).symm) ?_);refine Q.Dz (r jb ?_);refine(MC (m:=m) (bL:=s) (bp:=B) (cS:=D) (bU:=c) A W aw X K Z az ab F ai w (aD 102 0 0 101 1 0 t aM (aB w)) (al L) (aD 102 0 0 101 1 0 t aO (aB w)) aF (Y _ (V 0 0 101 101 t (be _))) G aG aI L aj N).mono ?_ ?_
 ·refine λf am=>bu ?_;rintro rfl;refine λao P=>cE λaQ v ap=>aT λar=>cE λR aS aU=>bu λas aV au aW S=> ?_;have aX:R.length=3:=by
   have:=congrArg iu au;rw [bM,bM,F]at this;exact this
  have aY:a.filter (λq=>decide (6<=q.1))=[]:=yS.mpr λx o=>by have:=ao x o;simp;exact this
  have aZ:a.filter (λq=>decide (q.1<6))=a:=qw.mpr λx o=>by have:=ao x o;simp;exact this
  rw [aY]at i;obtain ⟨x,y,z,rfl⟩:∃x y z,R=[x,y,z]:=by
   match R,aX with
   | [x,y,z],_=>exact dT x y z t
  have ba:=bB i;refine(?_:Q u 0 J j (cn n) (b7 (kf.drop 1) (bb n)) _ _ am);refine r (cj jb) ((MJ A W P.K ar as (P.fr _ _ i (λq=> ?_))).mono ?_ (λ_ _ h=>h.elim))
  ·rcases q with q|q|q
   ·exact al i (f7 q)
   ·have q:c+101=96:=q;exact a2 101 96 t (aq 101 96 0 0 (aB q) (be _))
   ·have q:c+101=39:=q;exact a2 101 39 t (aq 101 39 0 0 (aB q) (be _))
  ·refine λf bc=>an ?_;rintro rfl;intro d;refine Q.execs_nil ⟨t,P.trans d.zero, ?_⟩;rw [aZ];exact⟨ac,ae,aQ,3,#[],v,ap,d.ax ar,dT _ aS aU ⟨d.ax as,λq T=>((aV q T).lower (bw t)).keep λb a0 _ h=>d.ax h,au,(aW.lower (bw t)).keep λb a0 h=>d.ax h⟩,d.ax S⟩
 ·refine λx am=>aH λq=>an λT=>gL λbd bf e M=>f9 λo a1 a3 a4=>an λa5=>aH λap S f=> ?_;cases o;refine Q.anyF ab (x3 (bv:=n+101) t t f.km λbg av a6=> ?_);refine Q.any (uN av λbh a7 a9=> ?_);exact Nu A ay X Y Z K F ai w T G aj N i aJ aK a1 a3 a4 a5 S ((f.r1 av a6).r1 a7 a9)
variable(g:Nat->Option ab)(P:a1)
noncomputable def Nw(n a b:Nat)(j:List (aL×ap))(A:ap):G:=c_ g P 0 n a b j [] [] [] 12 [0,0,2,2,3] (.call (.ref 99) ⟨[.ref 100],[]⟩) A
noncomputable def Nx(g:Nat->Option ab)(P:a1):List Prop:=[
 ∀n a b j A,ok [0,1,2,3,4,5,6] (Nw g P n a b j A) (.again (cn n)) 0 [H (n+101,ek []),H (n+102,a' (.ref 100)),H (n+103,dD),H (n+104,dD),H (n+105,dD),H (n+106,dD),H (n+107,dD)] 7 0 []]
noncomputable def DO(g:Nat->Option ab)(P:a1):Prop:=AllP (Nx g P)
open PyProof.Rows (AllBare)
theorem ep.congr {b c:Nat->Nat}{n:Nat}{A:Array Nat}(h:ep b A n)(d:cu n A)(e:∀i,i<n->b i=c i):ep c A n:=λi g f a=>by
 have:=h i g f a;unfold lY at this⊢
 rwa [e _ (d.lt (aD 1 0 1 0 1 0 t f a)),e _ (d.lt a)]at this
theorem Ny {P:a1}{lo:Nat}{c:List (Int×Nat)}{b:List (Nat×Nat)}{a:List ff}{d:List (Nat×List Bool)}{C:ac}(h:kh P lo c c.length a C)(j:d.map (·.2)=c.map λx=>ow b x.1):d.map (·.2)=a.map λq=>g1 (b.map (·.1)) q.2.1:=by
 have e:a.map (λq=>H q.2.1)=c.map (λx=>H x.1):=by
  refine sF (by rw [bM,bM,h.len]) λi f g=> ?_;rw [bM]at f g;rw [sG,sG];have:=(h.val i a[i] (by simp [f])).2;rw [jD g]at this;exact this.symm
 have k:a.map (λq=>q.2.1)=c.map (λx=>x.1):=by
  have:=congrArg (List.map λl:Option Int=>l.getD 0) e
  rwa [hX,hX]at this
 rw [j,show(a.map λq=>g1 (b.map (·.1)) q.2.1)=(a.map (λq=>q.2.1)).map (g1 (b.map (·.1)))from by refine r hX ?_;rfl,k,hX];refine List.map_congr_left λx _=> ?_;refine(?_:b.map _=(b.map _).map _);rw [hX];rfl
theorem Nz {c:List Nat}{b:List ff}{a:List (Nat×List Bool)}(h:a.map (·.2)=b.map λq=>g1 c q.2.1){i:Nat}(d:i<b.length):gY a i=cl c (fD b i):=by
 have f:a.length=b.length:=by
  have:=congrArg iu h;simpa using this
 have e:=congrArg (λg:List (List Bool)=>g[i]?) h;simp only [d1]at e;rw [jD (show i<a.length from aD 1 0 0 0 1 0 t d (ao f)),jD d]at e;injection e with e;unfold gY fD;rw [fv,fv,jD (show i<a.length from aD 1 0 0 0 1 0 t d (ao f)),jD d];refine(?_:dg (a[i]).2=cl c (b[i]).2.1);have e:(a[i]).2=g1 c (b[i]).2.1:=e;exact r e (uc _ _)
theorem fp.DP {g:Nat->Option ab}{P:a1}{lo dY a d:Nat}{h:aY}(M:fp lo h a d)(n:h.objs.size<=dY):ic g P (dL lo dY) h a d:=by
 refine aw M (cE λo p c=>bu λq k=>bo λl r=>aT ?_);rintro rfl;intro s m i;have j:∀{b:Nat} {t:ab},h.get? b=H t->b<dY:=λe=>bP (bB e) n;refine⟨⟨o,p,l,r⟩,λy f=> ?_,λy f=>⟨⟨(i y f).1,j (i y f).2⟩,(i y f).2⟩⟩;unfold rq at f;simp only [b8,nJ,or_false]at f;rcases f with rfl|rfl
 ·exact⟨⟨q,j k⟩,k⟩
 ·refine⟨⟨aS s ?_,j m⟩,m⟩;refine ey ?_ l;unfold iD;split<;>decide
open PyProof.Rows (AllBare)
structure uV(b5:Nat->Option ab)(P:a1):Prop where
 h5:pR b5 P
 no:tE b5 P
 pp:je b5 P
 g:du b5 P
 DQ:uD b5 P
 j:kS 1 b5 P
 k:kS 0 b5 P
 s:j0 b5 P
 q:gf b5 P
 l:gu b5 P
 m:fB b5 P
 az:na b5 P
 p:nc b5 P
 d:om b5 P
 r:hi b5 P
 w:l8 b5 P
 x:ii b5 P
 y:jv b5 P
 NA:m1 b5 P
 NB:k9 b5 P
 NC:li b5 P
 lw:DO b5 P
noncomputable def r5:ae->Prop:=λx=> @Eq Nat x 16\/@Eq Nat x 39\/@Eq Nat x 74\/@Eq Nat x 96\/@eY Nat _ 101 x
noncomputable def x'(g:Nat->Option ab)(C b:ac):Prop:=aa g r5 (λ_=>True) C b/\(∃a,I b 16 (co ⟨a⟩))/\(∃a,I b 39 (co ⟨a⟩))/\(∃a,I b 74 (co ⟨a⟩))/\∃a,I b 96 (co ⟨a⟩)
theorem aM {n b:Nat}(e:dp 101 b=ag):n+b=16\/n+b=39\/n+b=74\/n+b=96\/101<=n+b:= .inr (.inr (.inr (.inr (aS (cP e) (hT b n)))))
theorem aa.bK {g:Nat->Option ab}{a:ae->Prop}{c:Nat->Prop}{C b:ac}(d:aa g a c C b)(h:∀x:Nat,a x->r5 x):aa g r5 (λ_=>True) C b:=d.mono (λx e=> .inl (h x e)) (λ_ _=> .inl trivial)
theorem aa.iQ {g:Nat->Option ab}{a:List Nat}{c:Nat->Prop}{C b:ac}(d:aa g (cY a) c C b)(h:∀x∈a,x=16\/x=39\/x=74\/x=96\/101<=x):aa g r5 (λ_=>True) C b:=d.bK h
theorem DR:j8.1.length=18:=by kernel_rfl
section
variable {g:Nat->Option ab}{cT:ac}
theorem g4 {a:dQ->ac->Prop}{C:ac}(i:Nat){bi:Nat}(b:i+1=bi)(c:i<18)(h:Q u 0 J j (cn n) (b7 (bO i) (bb n)) (λf d=>f= .next/\Q u 0 J j (cn n) (c6 (j8.1.drop bi) (bb n)) a a8 d) a8 C):Q u 0 J j (cn n) (c6 (j8.1.drop i) (bb n)) a a8 C:=by
 subst b;exact Q.steps i (by rw [DR];exact c) h
theorem ND(c:Base g)(d:jv g u.params){C:ac}(K:aR g C):Q u 0 J j (cn n) (c6 (j8.1.drop 17) (bb n)) (λf a=>f= .ret (.bool ag)/\aa g p p C a) a8 C:=by
 refine r (show j8.1.drop 17=bO 17 from(yQ (by rw [vB,DR];decide)).symm) (r jb ?_);refine Q.mono (Q.cM (cJ:=λe a=>e= .ok (.ret (.bool ag))/\aa g p p C a) λA=>mV (ak:=0) (aW 0) c K a6 .nil ba (λi=>d 28 _ ..) t (λi k _ b _ _=>⟨t,b.aE⟩)) ?_ ?_
 ·refine λf a=>an λh b=> ?_;injection h with h;exact⟨h,b⟩
 ·refine λx a=>an λh _=> ?_;cases h
set_option maxHeartbeats 4000000 in
theorem NE {eG:ac}(eH:Base g)(ck:uV g u.params)(K:aR g eG)(hr:∀x:Nat,101<=x->g x=J)(r6:g 16=J)(r7:g 39=J)(r8:g 74=J)(oG:g 96=J)(bY:n=0)(dJ:n+109<=eG.heap.objs.size){DS bL DT bU DU qb DV qc ya cp jy DW DX:Nat}{kn:Array (Option O)}{qd:List (Int×Nat)}{nu dw:List (Nat×Nat)}{DY:List O}
  (r9:I eG (n+101) (bz (dI u.params DS bL DT bU DU qb []) DV kn))(r_:I eG (n+103) (a' (E qc)))(kq:I eG (qc+101) (ah (cO qd) ya))(oH:8<=qd.length)(qe:qd.length<=16)(uW:I eG (n+104) (a' (E cp)))(yb:I eG (cp+101) (ah (ca nu) jy))(uX:∀q∈nu,q.1<6)(uY:nu.length<=3)
  (lj:I eG (qb+101) (ah (dw.map λq=>E q.1) DW))(oI:∀q∈dw,fp (n+108) eG.heap q.1 q.2)(mc:dw.map (·.2)=nu.map (·.1))(md:n+108<=qb+101)(me:I eG 39 (co ⟨DY⟩))(mf:I eG 96 (co ⟨[.int 121 0,.int 25 0,.ref DX]⟩))(mh:I eG 16 (co ⟨[]⟩))(mi:I eG 74 (co ⟨[]⟩))(uZ:I eG (n+105) dD)(u0:I eG (n+106) dD):
  Q u 0 J j (cn n) (c6 (j8.1.drop 7) (bb n)) (λf am=>f= .ret (.bool ag)/\x' g eG am) a8 eG:=by
 have nv:=hr (n+101) (V 0 0 101 101 t (ao bY));have cv:=DE eH ck.g ck.DQ;with_reducible refine g4 7 (bi:=8) t (by decide) ((Ln eH ck.x ck.h5 K r9 r_ kq oH qe uW yb uX uY nv).mono ?_ (λ_ _ h=>h))
 refine λ_ DZ=>aT ?_;rintro rfl;refine λu1=>cE λh5 NF P5=>aT λD0 NG=>aH λmj=>aT λyc yd ye=> ?_;have iR:=u1.aZ;have u2:mj.length=qd.length:=by
  have:=congrArg iu yc;simpa using this
 have NH:∀q∈mj,q.2.length=nu.length:=λq eI=>by
  have:q.2∈mj.map (·.2):=oV eI;rw [yc]at this;refine aw (hx.mp this) (aH λx=>an λ_ dO=> ?_);refine r (cj dO) ?_;unfold ow;rw [bM]
 refine aw (I6 DZ (gY mj) (n:=mj.length) (aD 8 0 0 0 1 0 t oH (ao u2))) (aH λD1=>an λyf D2=> ?_);refine⟨t, ?_⟩;with_reducible refine g4 8 (bi:=9) t (by decide) ((Lo eH ck.x ck.az ck.r u1.K NG yd (λq eI=>(ye q eI).2) NH (aD 8 0 0 0 1 0 t oH (ao u2)) (aD 0 0 0 16 0 500 t (aB u2) qe) yf D2 nv).mono ?_ (λ_ _ h=>h))
 refine λ_ D3=>aT ?_;rintro rfl;refine λr'=>gL λNI NJ P6 lb=>gs λu3 NK D4 dl NL=> ?_;have lk:=r'.aZ;have hs:∀{b:Nat} {bE:ab},b≠n+101->I eG b bE->I D3 b bE:=λA h=>r'.cD (u1.cD h (by simpa using A)) (by simpa using A);have P7:=bB kq;have NM:qc+101≠n+101:=λq=>by
  unfold I at kq;rw [q,r9]at kq;injection kq with kq;exact dA (congrArg ha kq) (by decide)
 refine⟨t, ?_⟩;with_reducible refine g4 9 (bi:=10) t (by decide) ((Lp eH ck.x ck.no ck.r r'.K NK (hs (bA 103 101 t) r_) (hs NM kq) oH qe nv).mono ?_ (λ_ _ h=>h))
 refine λ_ sa=>aT ?_;rintro rfl;refine λu4=>gL λfy NN P8 aP=>bu λu5 NO D5 oJ=> ?_;have u6:=u4.aZ;have gF:∀{b:Nat} {bE:ab},b≠n+101->I D3 b bE->I sa b bE:=λA h=>u4.cD h (by simpa using A);have yg:∀q∈dw,fp (n+108) sa.heap q.1 q.2:=λq eI=>(oI q eI).keep λb az cv h=>gF (aX (V 108 0 102 0 t cv)) (hs (aX (V 108 0 102 0 t cv)) h);have D6:∀q∈dw,q.2<6:=λq eI=>by
  have:q.2∈dw.map (·.2):=oV eI;rw [mc]at this;refine aw (hx.mp this) (aH λx=>an λdO NP=> ?_);exact r (cj NP) (uX x dO)
 have D7:dw.length<=3:=by
  have:=congrArg iu mc;rw [bM,bM]at this;exact aD 0 0 0 3 0 3 t (aB this) uY
 refine⟨t, ?_⟩;with_reducible refine g4 10 (bi:=11) t (by decide) ?_
 refine(Ls (lo:=n+108) eH ck.x ck.m ck.k ck.s ck.q u4.K NO (gF (aX (V 108 101 102 101 t md)) (hs (aX (V 108 101 102 101 t md)) lj)) md (cV 108 108 t) (λq eI=>⟨D6 q eI,(yg q eI).DP (aW _)⟩) (gF (a7 (V 0 0 17 101 t (ao bY))) (hs (a7 (V 0 0 17 101 t (ao bY))) mh)) (gF (a7 (V 0 0 75 101 t (ao bY))) (hs (a7 (V 0 0 75 101 t (ao bY))) mi)) r6 r8 nv).mono ?_ (λ_ _ h=>h);refine λ_ u7=>bu ?_;rintro rfl;refine λu8=>aH λNQ yh=>jK λP9 f k D8 cH NR=>aT λnw D9 yi=> ?_;have P_:=u8.aZ;have iS:∀{b:Nat} {bE:ab},b≠n+101->b≠16->b≠74->I sa b bE->I u7 b bE:=λA q a3 h=>u8.cD h (by simp;exact⟨A,q,a3⟩);have NS:∀{b:Nat} {bE:ab},n+108<=b->I sa b bE->I u7 b bE:=λA h=>iS (aX (V 108 0 102 0 t A)) (aX (aD 0 0 108 0 17 0 t (ao bY) A)) (aX (aD 0 0 108 0 75 0 t (ao bY) A)) h;refine⟨t, ?_⟩;with_reducible refine g4 11 (bi:=12) t (by decide) ((Lu eH ck.x ck.s ck.j u8.K yi (iS (a7 (V 0 0 97 101 t (ao bY))) (bA 96 16 t) (bA 96 74 t) (gF (a7 (V 0 0 97 101 t (ao bY))) (hs (a7 (V 0 0 97 101 t (ao bY))) mf))) oG).mono ?_ (λ_ _ h=>h))
 refine λ_ ny=>aT ?_;rintro rfl;refine λsb=>aH λD_=>an λyj l_=> ?_;have P':=sb.aZ;have g5:∀{b:Nat} {bE:ab},b≠96->I u7 b bE->I ny b bE:=λA h=>sb.cD h (by simpa using A);have sd:ox u g (n+108) f k D8 cH NR dw ny:=yi.only sb (λx dO D'=>by
  have:x=96:=by simpa [cY]using dO
  exact a2 108 96 t (aq 108 0 0 96 (aq 0 0 108 0 (ao bY) D') (aB this))) (by simp [cY]) (aD 109 0 0 101 108 101 t (aq 109 0 0 0 (aq 109 0 0 0 (aq 109 0 0 0 dJ iR) lk) u6) nw)
 have u9:=Ny oJ yc;rw [<-mc]at u9;have u_:aP.length=mj.length:=by rw [oJ.len,u2]
 have qf:∀{b:Nat} {bE:ab},n+108<=b->I sa b bE->I ny b bE:=λA h=>g5 (aX (aD 0 0 108 0 97 0 t (ao bY) A)) (NS A h);have yk:la u g (n+108) (k+101) NI fy (dw.map (·.2)) aP D1 ny:=⟨by rw [oJ.len];exact oH,by rw [oJ.len];exact qe,λi q h=>(oJ.val i q h).1,oJ.inj,
  λq eI=>(oJ.fy q eI).mono _ (λb bE kr e=>qf (aS (cy 109 0 0 0 0 0 108 0 t dJ iR lk) kr.1) e) (λb kr=>⟨aS (cy 109 0 0 0 0 0 108 0 t dJ iR lk) kr.1,bP kr.2 nw⟩),
  ⟨NN,qf (aD 109 0 0 101 108 101 t (aq 109 0 0 0 (aq 109 0 0 0 dJ iR) lk) u5) D5⟩,bh NJ lb ⟨qf (cy 109 0 0 0 0 101 108 101 t dJ iR u3) (gF (aX (cy 109 0 0 0 0 101 102 101 t dJ iR u3)) D4),by rw [dl,u_],NL⟩,u_▸yf,(u_▸D2:ep (gY mj) D1 aP.length).congr (u_▸yf) λi dY=>Nz u9 dY,
  aD 109 0 0 101 108 101 t (aq 109 0 0 0 (aq 109 0 0 0 dJ iR) lk) u5,bP (bB D5) nw,cy 109 0 0 0 0 101 108 101 t dJ iR u3,bP (bB (gF (aX (cy 109 0 0 0 0 101 102 101 t dJ iR u3)) D4)) nw⟩
 refine⟨t, ?_⟩;with_reducible refine g4 12 (bi:=13) t (by decide) ((LA eH ck.x ck.q ck.g ck.l ck.m cv hr sb.K (g5 (aX (V 0 0 97 101 t (ao bY))) D9) yk sd (cV 108 108 t) l_).mono ?_ (λ_ _ h=>h))
 refine λ_ Ea=>an ?_;rintro rfl;intro se;have ks:=se.aZ;have im:∀{b:Nat} {bE:ab},b≠k+101->I ny b bE->I Ea b bE:=λA h=>se.cD h (by simpa using A);have Eb:=yk.only se (λx dO _=>by
  have:x=k+101:=by simpa [cY]using dO
  exact(ao this))
 have NT:=bB lj;have Ec:=im (a7 (aD 102 0 0 101 102 101 t (aq 102 0 0 0 (aq 102 0 0 0 (aq 102 0 0 0 NT iR) lk) u6) nw)) (qf md (gF (aX (V 108 101 102 101 t md)) (hs (aX (V 108 101 102 101 t md)) lj)));have Ed:k6 g u.params (dL (n+108) (k+101)) Ea.heap dw:=⟨λq eI=>⟨D6 q eI,((yg q eI).DP (dY:=k+101) nw).mono (λb bE kr e=>im (by have:=kr.2;exact a7 (this)) (qf kr.1 e)) (λ_ h=>h)⟩⟩;have ll:k+101<ny.heap.objs.size:=bB sd.ns;have Ee:=im (a7 (aD 109 0 0 101 102 101 t (aq 109 0 0 0 (aq 109 0 0 0 (aq 109 0 0 0 dJ iR) lk) u6) nw)) (g5 (aX (V 0 0 97 101 t (ao bY))) D9);refine⟨t, ?_⟩;with_reducible refine g4 13 (bi:=14) t (by decide) ((LB eH ck.x ck.d ck.p ck.g ck.l ck.m cv hr se.K Ee Eb (aD 102 0 0 0 101 0 t ll ks) Ec D7 Ed).mono ?_ (λ_ _ h=>h))
 refine λ_ sf=>an ?_;rintro rfl;intro ku;have lm:=ku.aZ;have Ef:=Eb.only ku (λx dO _=>dO.elim);refine⟨t, ?_⟩;with_reducible refine g4 14 (bi:=15) t (by decide) ((LH eH ck.x ck.d ck.g ck.m cv ku.K (ku.ax Ee) Ef (cV 108 108 t) (cy 102 0 0 0 0 0 101 0 t ll ks lm) (ku.ax Ec) D7 (Ed.mono (λb bE _ e=>ku.ax e) (λ_ h=>h)) md (ku.ax (im (a7 (V 0 0 97 101 t (be _))) yj)) oG nv).mono ?_ (λ_ _ h=>h))
 refine λ_ sg=>bu ?_;rintro rfl;refine λqg=>aH λNU NV=>bo λQa Qb=>an λEg NW=> ?_;have Eh:=qg.aZ;have yl:∀{b:Nat} {bE:ab},b≠n+101->b≠96->I sf b bE->I sg b bE:=λA q h=>qg.cD h (by simp;exact⟨A,q⟩);have qh:=Ef.only qg (λx dO D'=>by
  have:x=n+101\/x=96:=by simpa [cY]using dO
  lia)
 have Qc:=bB yd;have ym:∀{b:Nat} {bE:ab},n+108<=b->b≠k+101->I ny b bE->I sg b bE:=λA q h=>yl (aX (V 108 0 102 0 t A)) (aX (aD 0 0 108 0 97 0 t (ao bY) A)) (ku.ax (im q h));have Ei:∀{b:Nat} {bE:ab},n+108<=b->I DZ b bE->I sg b bE:=λA h=>ym A (by have:=bB h;exact a7 (aD 1 0 0 101 1 101 t (aq 1 0 0 0 (aq 1 0 0 0 this lk) u6) nw)) (qf A (gF (aX (V 108 0 102 0 t A)) (r'.cD h (by simp;exact aX (V 108 0 102 0 t A)))));have Ej:=Ei (aD 109 0 0 101 108 101 t dJ D0) yd;have Ek:∀q∈mj,q.1+101<sf.heap.objs.size/\∃sh,I sg (q.1+101) (dx q.2 sh):=λq eI=>by
  obtain ⟨a,sh,b⟩:=ye q eI;exact⟨by have:=bB b;lia,sh,Ei (aD 109 0 0 101 108 101 t dJ a) b⟩
 refine⟨t, ?_⟩;with_reducible refine g4 15 (bi:=16) t (by decide) ((LO (cg:=sf.heap.objs.size) eH ck.x hr qg.K Eg qh (cV 108 108 t) (cy 102 0 0 0 0 0 101 0 t ll ks lm) Eh qg.dH NW Ej (by lia) Ek u9).mono ?_ (λ_ _ h=>h))
 refine λ_ si=>an ?_;rintro rfl;intro u';have NX:=u'.aZ;have ml:∀{b:Nat} {bE:ab},b<sf.heap.objs.size->I sg b bE->I si b bE:=λA h=>u'.lo h A;have NY:kj u g n (n+108) (k+101) fy h5 f k D8 cH dw aP mj si:=by
  have El:∀b bE,dL (n+108) (k+101) b->I ny b bE->I si b bE:=λb bE kr e=>ml (by have:=kr.2;exact aD 103 101 0 0 1 0 t (aq 103 101 0 0 (aq 1 101 102 0 this ll) ks) lm) (ym kr.1 (by have:=kr.2;exact a7 (this)) e);obtain ⟨NZ,N0⟩:=qh.rY;have yn:=qh.iL;refine⟨qh.gh,qh.inj,λq eI=>(yk.l' q eI).mono _ El (λ_ h=>h),⟨NZ,ml (aD 204 101 0 0 102 0 t (aq 204 101 0 0 (aq 102 101 102 0 yn ll) ks) lm) N0⟩,λx dO=> ?_,sd.l4.mono El (λ_ h=>h),⟨NF,ml (by lia) Ej⟩,λq eI=>⟨?_, ?_⟩,u9,cV 108 108 t,by have:=qh.jw;exact this,aD 109 0 0 101 108 101 t dJ D0,aD 109 101 102 101 108 101 t (aq 109 0 0 101 (aq 109 0 0 0 (aq 109 0 0 0 dJ iR) lk) u5) yn,aD 102 0 0 0 101 0 t (aq 102 0 0 0 (aq 102 0 0 0 (aq 102 0 0 0 ll ks) lm) Eh) NX⟩
  ·have va:=oy t x dO;have jz:=bB (sd.hH x dO);exact ml (bP jz (aS ks lm)) (ym (aS (aD 109 101 102 101 108 102 t (aq 109 0 0 101 (aq 109 0 0 0 (aq 109 0 0 0 dJ iR) lk) u5) yn) va) (aX (bP (cV 102 102 t) va)) (sd.hH x dO))
  ·have:=(ye q eI).1;exact aD 109 0 0 101 108 101 t dJ this
  ·obtain ⟨a,sh,b⟩:=Ek q eI;exact⟨sh,ml a b⟩
 have Em:∀{b:Nat} {bE:ab},b≠n+101->b≠16->b≠74->b≠96->b<n+108->I eG b bE->I si b bE:=λkv sj sk qi En h=>ml (by lia) (yl kv qi (ku.ax (im (by lia) (g5 qi (iS kv sj sk (gF kv (hs kv h)))))));refine⟨t, ?_⟩;with_reducible refine g4 16 (bi:=17) t (by decide) ((Mc eH ck.y ck.r ck.q ck.g ck.l ck.m cv hr u'.K NY (ml (aD 102 0 0 0 102 0 t (aq 102 0 0 0 (aq 0 0 102 0 (aq 0 0 0 0 (aB bY) (be _)) ll) ks) lm) Eg) (Em (bA 105 101 t) (aX (V 0 0 17 105 t (ao bY))) (aX (V 0 0 75 105 t (ao bY))) (aX (V 0 0 97 105 t (ao bY))) (cV 106 108 t) uZ) (Em (bA 106 101 t) (aX (V 0 0 17 106 t (ao bY))) (aX (V 0 0 75 106 t (ao bY))) (aX (V 0 0 97 106 t (ao bY))) (cV 107 108 t) u0) (by lia)).mono ?_ (λ_ _ h=>h))
 refine λ_ N1=>an ?_;rintro rfl;intro yo;have Eo:∀{b:Nat} {bE:ab},b≠n+101->b≠n+105->b≠n+106->I si b bE->I N1 b bE:=λA q a3 h=>yo.cD h (by simp;exact⟨A,q,a3⟩);refine⟨t, ?_⟩;refine(ND eH ck.y yo.K).mono ?_ (λ_ _ h=>h);refine λf N2=>an ?_;rintro rfl;intro yp;have yq:∀{b:Nat} {bE:ab},b<100->b≠96->I u7 b bE->I N2 b bE:=λA q h=>yp.ax (Eo (a7 (aD 1 100 0 0 1 101 t A (ao bY))) (a7 (aD 1 100 0 0 1 105 t A (ao bY))) (a7 (aD 1 100 0 0 1 106 t A (ao bY))) (ml (aD 103 100 0 0 1 0 t (aq 103 100 0 0 (aq 1 100 102 0 (aq 1 100 0 0 A (be _)) ll) ks) lm) (yl (a7 (aD 1 100 0 0 1 101 t A (ao bY))) q (ku.ax (im (a7 (aD 1 100 0 0 1 101 t A (be _))) (g5 q h))))));refine⟨t, ?_, ?_,⟨DY, ?_⟩,⟨NQ,yq (a5 t) (bA 74 96 t) yh⟩,⟨NU,yp.ax (Eo (a7 (V 0 0 97 101 t (ao bY))) (a7 (V 0 0 97 105 t (ao bY))) (a7 (V 0 0 97 106 t (ao bY))) (ml (aD 102 0 0 0 97 0 t (aq 102 0 0 0 (aq 0 0 102 0 (be _) ll) ks) lm) NV))⟩⟩
 ·refine(((((((((((u1.iQ ?_).trans (r'.iQ ?_)).trans (u4.iQ ?_)).trans (u8.iQ ?_)).trans (sb.iQ ?_)).trans (se.iQ ?_)).trans (ku.bK λ_ h=>h.elim)).trans (qg.iQ ?_)).trans (u'.mono (λx h=> .inl ?_) (λ_ _=> .inl trivial))).trans (yo.iQ ?_)).trans (yp.bK λ_ h=>h.elim))
  all_goals first|((repeat refine a_ (by first|exact aM t|exact .inl t|exact .inr (.inl t)|exact .inr (.inr (.inl t))|exact .inr (.inr (.inr (.inl t)))) ?_);exact dG)|(simp;lia)|skip
  exact .inr (.inr (.inr (.inr (aS (aD 102 0 0 0 101 0 t (aq 102 0 0 0 (aq 0 0 102 0 (be _) ll) ks) lm) (show sf.heap.objs.size<=x from h)))))
 ·refine⟨_,yq (a5 t) (bA 16 96 t) (yi.j (16,A0 (k+2)) aO)⟩
 ·exact yq (a5 t) (bA 39 96 t) (iS (a7 (V 0 0 40 101 t (ao bY))) (bA 39 16 t) (bA 39 74 t) (gF (a7 (V 0 0 40 101 t (ao bY))) (hs (a7 (V 0 0 40 101 t (ao bY))) me)))
theorem N3(eH:Base g)(ck:uV g u.params)(K:aR g cT)(hr:∀x:Nat,101<=x->g x=J)(r6:g 16=J)(r7:g 39=J)(r8:g 74=J)(oG:g 96=J)(oK:eX j=[]){e:Nat}{bj:List (Int×Nat)}(qj:bj.length<=63)(bY:n=0)(dJ:cT.heap.objs.size=n+108)
  (jz:I cT (n+101) (ek []))(mm:I cT (n+102) (a' (.ref 100)))(sl:I cT (n+103) dD)(yr:I cT (n+104) dD)(uZ:I cT (n+105) dD)(u0:I cT (n+106) dD)(N4:I cT (n+107) dD)(qk:I cT 100 (ah (cO bj) e))
  (mh:I cT 16 (co ⟨[]⟩))(me:I cT 39 (co ⟨[]⟩))(mi:I cT 74 (co ⟨[]⟩))(mf:I cT 96 (co ⟨[]⟩)):
  Q u 0 J j (cn n) (c6 j8.1 (bb n)) (λf am=>f= .ret (.bool ag)/\x' g cT am) a8 cT:=by
 refine(?_:Q u 0 J j (cn n) (c6 (j8.1.drop 0) (bb n)) _ a8 cT);have nv:=hr (n+101) (V 0 0 101 101 t (ao bY));have cv:=DE eH ck.g ck.DQ;refine g4 0 (bi:=1) t (by decide) ((La eH ck.w K mm qk sl qj (hr _ (V 0 0 101 103 t (ao bY)))).mono ?_ (λ_ _ h=>h));refine λ_ N5=>aT ?_;rintro rfl;refine λht=>cE λqc ya qd=>gs λgh D_ Ep oH qe=>⟨t, ?_⟩;with_reducible refine g4 1 (bi:=2) t (by decide) ?_
 refine(Lb eH ck.w ht.K (ht.cD jz (by simp)) (ht.cD N4 (by simp)) (hr _ (V 0 0 101 107 t (ao bY)))).mono ?_ (λ_ _ h=>h);refine λ_ Qd=>aT ?_;rintro rfl;refine λql=>bo λbp cS=>aT λki Er ys=> ?_;have nz:=ht.aZ;have Es:=ql.aZ;refine⟨t, ?_⟩;with_reducible refine g4 2 (bi:=3) t (by decide) ((Ld eH ck.w ql.K Er ys).mono ?_ (λ_ _ h=>h))
 refine λ_ Et=>an ?_;rintro rfl;intro nA;have yt:=nA.aZ;have hs:∀{b:Nat} {bE:ab},b≠n+103->b≠n+107->I cT b bE->I Et b bE:=λA q h=>nA.ax (ql.cD (ht.cD h (by simpa using A)) (by simpa using q));refine⟨t, ?_⟩;with_reducible refine g4 3 (bi:=4) t (by decide) ((Lg eH ck.w ck.r nA.K qj (hs (bA 101 103 t) (bA 101 107 t) jz) (hs (bA 102 103 t) (bA 102 107 t) mm) (hs (a7 (V 0 0 101 103 t (ao bY))) (a7 (V 0 0 101 107 t (ao bY))) qk) nv).mono ?_ (λ_ _ h=>h))
 refine λ_ Eu=>aT ?_;rintro rfl;refine λvb=>gL λbL Qe DS N6=>gs λvc Ev yu dr Ew=> ?_;have Qf:=vb.aZ;have gF:∀{b:Nat} {bE:ab},b≠n+101->I Et b bE->I Eu b bE:=λA h=>vb.cD h (by simpa using A);refine⟨t, ?_⟩;with_reducible refine g4 4 (bi:=5) t (by decide) ?_
 refine(Lj eH ck.w vb.K Ev yu dr (gF (bA 104 101 t) (hs (bA 104 103 t) (bA 104 107 t) yr)) (hr _ (V 0 0 101 104 t (ao bY)))).mono ?_ (λ_ _ h=>h);refine λ_ Ex=>aT ?_;rintro rfl;refine λvd=>bo λcp jy=>aT λQg Ey ve=> ?_;have Qh:=vd.aZ;have iS:∀{b:Nat} {bE:ab},b≠n+104->I Eu b bE->I Ex b bE:=λA h=>vd.cD h (by simpa using A);have yv:=iS (bA 107 104 t) (gF (bA 107 101 t) (nA.ax Er));have Ez:=iS (aX (cy 108 0 0 0 0 101 105 101 t (ao dJ) nz ki)) (gF (aX (cy 108 0 0 0 0 101 102 101 t (ao dJ) nz ki)) (nA.ax ys));refine⟨t, ?_⟩;with_reducible refine g4 5 (bi:=6) t (by decide) ((Lk eH ck.w vd.K (iS (bA 101 104 t) Ev) (iS (aX (aD 108 0 0 101 105 101 t (aq 108 0 0 0 (aq 108 0 0 0 (aq 108 0 0 0 (ao dJ) nz) Es) yt) vc)) yu) dr Ew yv Ez nv).mono ?_ (λ_ _ h=>h))
 refine λ_ yw=>aT ?_;rintro rfl;refine λsm=>cE λbU Qi DT=>aT λQj N7 N8=> ?_;have Qk:=sm.aZ;have g5:∀{b:Nat} {bE:ab},b≠n+101->I Ex b bE->I yw b bE:=λA h=>sm.cD h (by simpa using A);have yx:∀{b:Nat} {bE:ab},b≠n+101->b≠n+103->b≠n+104->b≠n+107->I cT b bE->I yw b bE:=λkv sj sk qi h=>g5 kv (iS sk (gF kv (hs sj qi h)));obtain ⟨m,N9⟩:=sm.K.size;have jw:=bB Ep;have iL:=bB ys;have Ql:=bB ve;refine⟨t, ?_⟩;with_reducible refine g4 6 (bi:=7) t (by decide) ((Nv (m:=m) eH ck.NB ck.NA ck.pp ck.NC sm.K hr r7 oG oK dr Ew N9 (by lia) N7 (yx (a7 (V 0 0 97 101 t (ao bY))) (a7 (V 0 0 97 103 t (ao bY))) (a7 (V 0 0 97 104 t (ao bY))) (a7 (V 0 0 97 107 t (ao bY))) mf) (yx (a7 (V 0 0 40 101 t (ao bY))) (a7 (V 0 0 40 103 t (ao bY))) (a7 (V 0 0 40 104 t (ao bY))) (a7 (V 0 0 40 107 t (ao bY))) me) (g5 (aX (aD 102 0 0 101 102 101 t (aq 102 0 0 0 (aq 0 0 102 0 (aq 0 0 0 0 (aB bY) (be _)) iL) yt) vc)) (iS (aX (aD 108 0 0 101 105 101 t (aq 108 0 0 0 (aq 108 0 0 0 (aq 108 0 0 0 (ao dJ) nz) Es) yt) vc)) yu)) (g5 (bA 107 101 t) yv) (g5 (aX (cy 108 0 0 0 0 101 102 101 t (ao dJ) nz ki)) Ez) N8 (g5 (bA 104 101 t) Ey) (g5 (by lia) ve)).mono ?_ (λ_ _ h=>h))
 generalize qm:(N6.filter λq=>decide (q.1<6))=nu at ve;have uX:∀q∈nu,q.1<6:=λq eI=>by
  rw [<-qm]at eI;simpa using (gI.mp eI).2
 have uY:nu.length<=3:=by
  rw [<-qm,<-dr];exact hy _ _
 refine λ_ eG=>aT ?_;rintro rfl;refine λvf=>q5 λQm Qn DU DV kn qb DX=>aT λr9=>cE λdw yg DW=>bu λlj oI mc sn yj=> ?_;have Qo:=vf.aZ;have im:∀{b:Nat} {bE:ab},b≠n+101->b≠96->b≠39->I yw b bE->I eG b bE:=λA q a3 h=>vf.fr _ _ h (λx=>x.elim A (λx=>x.elim q a3));have oL:∀{b:Nat} {bE:ab},b≠n+101->b≠n+103->b≠n+104->b≠n+107->b≠96->b≠39->I cT b bE->I eG b bE:=λkv sj sk qi En N_ h=>im kv En N_ (yx kv sj sk qi h);have N':aa g r5 (λ_=>True) cT eG:=((((((ht.iQ (by simp)).trans (ql.iQ (by simp))).trans (nA.bK aF)).trans (vb.iQ (by simp))).trans (vd.iQ (by simp))).trans (sm.iQ (by simp))).trans (vf.bK (by
  rintro x (h|h|h)
  ·exact .inr (.inr (.inr (.inr (by rw [show x=n+101 from h];exact V 0 0 101 101 t (ao bY)))))
  ·exact .inr (.inr (.inr (.inl h)))
  ·exact .inr (.inl h)))
 have r_:I eG (n+103) (a' (E qc)):=im (bA 103 101 t) (aX (V 0 0 97 103 t (ao bY))) (aX (V 0 0 40 103 t (ao bY))) (g5 (bA 103 101 t) (iS (bA 103 104 t) (gF (bA 103 101 t) (nA.ax (ql.cD D_ (by simp))))));have kq:I eG (qc+101) (ah (cO qd) ya):=im (aX (aD 108 0 0 101 102 101 t (ao dJ) gh)) (aX (V 0 0 97 101 t (be _))) (aX (V 0 0 40 101 t (be _))) (g5 (aX (aD 108 0 0 101 102 101 t (ao dJ) gh)) (iS (aX (aD 108 0 0 101 105 101 t (ao dJ) gh)) (gF (aX (aD 108 0 0 101 102 101 t (ao dJ) gh)) (nA.ax (ql.cD Ep (by simp;exact aX (aD 108 0 0 101 7 0 t (ao dJ) gh)))))));have uW:=im (bA 104 101 t) (aX (V 0 0 97 104 t (ao bY))) (aX (V 0 0 40 104 t (ao bY))) (g5 (bA 104 101 t) Ey);have yb:=im (by lia) (aX (V 0 0 97 101 t (be _))) (aX (V 0 0 40 101 t (be _))) (g5 (by lia) ve);have Oa:n+109<=eG.heap.objs.size:=by have:=bB kq;exact cy 108 0 0 101 102 0 109 0 t (ao dJ) gh this
 have md:n+108<=qb+101:=by
  have dO:∀{b:Nat} {az:ab},I eG b az->az.cls≠ .type "list"->qb+101≠b:=λcv hu q=>by
   unfold I at cv;rw [<-q,lj]at cv;injection cv with cv;exact hu (by refine r (cj cv) ?_;rfl)
  have bk:=dO (oL (bA 102 101 t) (bA 102 103 t) (bA 102 104 t) (bA 102 107 t) (aX (V 0 0 97 102 t (ao bY))) (aX (V 0 0 40 102 t (ao bY))) mm) (λq=>dA q (by decide));have av:=dO r_ (λq=>dA q (by decide));have Qp:=dO uW (λq=>dA q (by decide));have Qq:=dO (oL (bA 105 101 t) (bA 105 103 t) (bA 105 104 t) (bA 105 107 t) (aX (V 0 0 97 105 t (ao bY))) (aX (V 0 0 40 105 t (ao bY))) uZ) (λq=>dA q (by decide));have Qr:=dO (oL (bA 106 101 t) (bA 106 103 t) (bA 106 104 t) (bA 106 107 t) (aX (V 0 0 97 106 t (ao bY))) (aX (V 0 0 40 106 t (ao bY))) u0) (λq=>dA q (by decide));have Qs:=dO (im (bA 107 101 t) (aX (V 0 0 97 107 t (ao bY))) (aX (V 0 0 40 107 t (ao bY))) (g5 (bA 107 101 t) yv)) (λq=>dA q (by decide));have rp:=dO r9 (λq=>dA q (by decide));lia
 have Ob:=oL (b:=16) (a7 (V 0 0 17 101 t (ao bY))) (a7 (V 0 0 17 103 t (ao bY))) (a7 (V 0 0 17 104 t (ao bY))) (a7 (V 0 0 17 107 t (ao bY))) (bA 16 96 t) (bA 16 39 t) mh;have yh:=oL (b:=74) (a7 (V 0 0 75 101 t (ao bY))) (a7 (V 0 0 75 103 t (ao bY))) (a7 (V 0 0 75 104 t (ao bY))) (a7 (V 0 0 75 107 t (ao bY))) (bA 74 96 t) (bA 74 39 t) mi;have Oc:=oL (b:=n+105) (bA 105 101 t) (bA 105 103 t) (bA 105 104 t) (bA 105 107 t) (aX (V 0 0 97 105 t (ao bY))) (aX (V 0 0 40 105 t (ao bY))) uZ;have Od:=oL (b:=n+106) (bA 106 101 t) (bA 106 103 t) (bA 106 104 t) (bA 106 107 t) (aX (V 0 0 97 106 t (ao bY))) (aX (V 0 0 40 106 t (ao bY))) u0;refine⟨t, ?_⟩;refine Q.mono (NE eH ck vf.K hr r6 r7 r8 oG bY Oa r9 r_ kq oH qe uW yb uX uY lj (λq eI=>(oI q eI).lower (by lia)) (mc.trans t) md sn.1 yj Ob yh Oc Od) ?_ (λ_ _ h=>h);rintro f am ⟨rfl,az,h⟩;exact⟨t,N'.trans az,h⟩
end
open PyProof.Rows (AllBare IntsAre)
section
variable {g:Nat->Option ab}
theorem Oe(eH:Base g)(ck:uV g u.params)(K:aR g C)(hr:∀x:Nat,101<=x->g x=J)(r6:g 16=J)(r7:g 39=J)(r8:g 74=J)(oG:g 96=J){e:Nat}{bj:List (Int×Nat)}(qj:bj.length<=63)(dJ:C.heap.objs.size=101)(qk:I C 100 (ah (cO bj) e))
  (mh:I C 16 (co ⟨[]⟩))(me:I C 39 (co ⟨[]⟩))(mi:I C 74 (co ⟨[]⟩))(mf:I C 96 (co ⟨[]⟩)):
  fg u 0 J [] (.call (.ref 99) ⟨[.ref 100],[]⟩) C λa3 am=>a3= .ok (.ret (.bool ag))/\x' g C am:=by
 refine fg.c1 λj A oK=> ?_;refine uO (ak:=0) (aW 0) eH K a6 .nil ba t (nn:=λn=>cn n) (λn=>ck.lw 0 n C.toks C.gens.size j A) (λ_=>t) t (λn=>by kernel_rfl) (λn N5 kv m8 Of nz=> ?_);refine aw Of (aT λht dO _=> ?_);have ht:=ht.aE;refine ai.func (N3 (n:=n) eH ck ht.K hr r6 r7 r8 oG oK qj (dF (aD 101 0 0 101 0 0 t (ao m8) (aB dJ)) ((be _))) (dF ((aB nz)) ((ao nz))) (dO _ _ aO) (dO _ _ ci) (dO _ _ dK) (dO _ _ kI) (dO _ _ q6) (dO _ _ tb) (dO _ _ zA) (ht.ax qk) (ht.ax mh) (ht.ax me) (ht.ax mi) (ht.ax mf)) ?_;rintro f am ⟨rfl,az,h⟩;exact⟨t,(ht.bK λ_ h=>h.elim).trans az,h⟩
theorem fg.caller {f:O}{pos:List O}{R:bZ->ac->Prop}{aG af:O->ac->Prop}(h:fg u 0 J [] (.call f ⟨pos,[]⟩) C R)(k:∀a3 am,R a3 am->∃v,a3= .ok (.ret v)/\aG v am):bD (b1 bH u) callerA (f8 f pos) aG af C:=by
 refine qH λEA A hu cv=> ?_;refine aw (h EA A hu ⟨cv.1,cv.2.1,(λar j4=>by cases j4),(λcs so=>by cases so),cv.2.2.2.2⟩ (cv.2.2.1 _ t)) (bo λa3 am=>an λp_ q=> ?_);obtain ⟨v,rfl,bc⟩:=k a3 am q;refine bh (.ok (.ret v)) am ⟨?_,bc⟩;refine(?_:dB _ _ _ (denote mx EA.code) _ _ _ _);refine r hu (r hA ?_);exact p_
noncomputable def oM(az:Option ab):Option Value:=az.bind λaz=>match az.data with
 | .fields c3=>c3[11]?
 |_=>J
theorem Og {h:aY}{c b:Nat}{az:Option ab}(hu:az.map ha=H (.type "code"))(sp:oM az=H (.ref b))(yy:∀x,az=H x->h.get? c=H x):isCodeTable h b:=by
 cases az with
 |none=>cases hu
 |some az=>
  injection hu with hu;unfold oM at sp;simp only [Option.bind_some]at sp;split at sp
  ·rename_i c3 Y;exact dT c az c3 ⟨yy _ t,hu,Y,sp⟩
  ·cases sp
structure yz(M:X.KT)(P:a1):Prop where
 EB:uV (kM M.get) P
 st:(kM M.get cStatics).isSome=ag
 mh:M.get 16=H (co ⟨[]⟩)
 me:M.get 39=H (co ⟨[]⟩)
 mi:M.get 74=H (co ⟨[]⟩)
 mf:M.get 96=H (co ⟨[]⟩)
 EC:(M.get 20).map ha=H (.type "code")/\oM (M.get 20)=H (.ref 16)
 ED:(M.get 43).map ha=H (.type "code")/\oM (M.get 43)=H (.ref 39)
 EE:(M.get 78).map ha=H (.type "code")/\oM (M.get 78)=H (.ref 74)
 EF:(M.get 98).map ha=H (.type "code")/\oM (M.get 98)=H (.ref 96)
theorem Oh {k:Nat->Option ab}{a:Nat}{az:ab}(h:kM k a=H az):k a=H az/\a≠16/\a≠39/\a≠74/\a≠96:=by
 unfold kM at h;cases cv:(e7 a 16||e7 a 39||e7 a 74||e7 a 96)with
 |true=>rw [cv]at h;cases h
 |false=>
  rw [cv]at h;simp only [Bool.or_eq_false_iff]at cv;obtain ⟨⟨⟨jz,mm⟩,sl⟩,yr⟩:=cv;exact⟨h,qq jz,qq mm,qq sl,qq yr⟩
theorem Oi {c3:List O}{aA:List Int}(h:IntsAre c3 aA):∃bj:List (Int×Nat),c3=cO bj/\bj.length=aA.length:=by
 induction h with
 |nil=>exact⟨[],t,t⟩
 |cons n M h Oj=>
  obtain ⟨bj,rfl,mm⟩:=Oj;exact⟨(n,M)::bj,t,by rw [jC,jC,mm]⟩
theorem Ol {M:X.KT}(hv:yz M u.params)(jA:X.KT.Holds C.heap 1 0 M)(qm:C.heap.NoLimit)(so:C.gens=#[])(dJ:C.heap.objs.size=101){az:ab}{c3:List O}{aA:List Int}(qk:I C 100 az)(oK:az={cls:= .type "list",data:= .seq c3.toArray})(dY:IntsAre c3 aA)(j4:aA.length<=63){af:O->ac->Prop}:
  bD (b1 bH u) callerA (f8 (.ref 99) [.ref 100]) (λv am=>v= .bool ag/\OldK C.heap am.heap/\am.os=C.os/\nR am.gens) af C:=by
 subst oK;obtain ⟨bj,rfl,qj⟩:=Oi dY;have hH:∀a az,kM M.get a=H az->I C a az:=λa az h=>kz jA (Oh h).1;have hr:∀x:Nat,101<=x->kM M.get x=none:=λx dO=>by
  cases h:kM M.get x with
  |none=>rfl
  |some az=>
   have:=b9 (hH x az h);rw [dJ]at this;exact absurd this (cx dO)
 have eH:Base (kM M.get):=⟨λh yy=>qm.at λaz oK=>by
  cases hu:kM M.get cStatics with
  |none=>have:=hv.st;rw [hu]at this;cases this
  |some pL=>
   have:=hH _ _ hu;unfold I at this;rw [oK]at this;injection this with this;subst this;exact yy _ _ hu⟩
 refine(Oe (bj:=bj) (e:=0) eH hv.EB ⟨ew dJ.symm,hH⟩ hr t t t t (aD 0 0 0 63 0 63 t (aB qj) j4) dJ ?_ (kz jA hv.mh) (kz jA hv.me) (kz jA hv.mi) (kz jA hv.mf)).caller ?_
 ·unfold I;rw [qk];unfold ah;simp
 refine λa3 am=>f9 ?_;rintro rfl;refine λaz=>aH λgh Om=>aH λki On=>aH λQt Oo=>aH λvc Op=>⟨_,t,t, ?_,az.os,az.gP (by rw [so];exact nR.empty)⟩;have vg:∀(b c:Nat) (ar:List O),((M.get c).map ha=H (.type "code")/\oM (M.get c)=H (.ref b))->I C b (co ⟨[]⟩)->I am b (co ⟨ar⟩)->∀bE,I C b bE->asItWas C.heap am.heap b bE/\∃yA,I am b yA:=λb c ar hu va jz bE cv=>by
  unfold I at cv;rw [va]at cv;injection cv with cv;subst cv;refine⟨.inr (.inl ⟨Og hu.1 hu.2 (λx dO=>kz jA dO),t,⟨[]⟩,⟨ar⟩,t,jz.trans ?_⟩),_,jz⟩;have e:(⟨[]⟩:Array O)++⟨ar⟩=⟨ar⟩:=by simp
  refine r e ?_;rfl
 have EG:∀b bE,I C b bE->asItWas C.heap am.heap b bE/\∃yA,I am b yA:=λb bE cv=>by
  have Oq:b<101:=by have:=b9 cv;rwa [dJ]at this
  by_cases EH:b=16
  ·subst EH;exact vg _ _ _ hv.EC (kz jA hv.mh) Om bE cv
  by_cases EI:b=39
  ·subst EI;exact vg _ _ _ hv.ED (kz jA hv.me) On bE cv
  by_cases EJ:b=74
  ·subst EJ;exact vg _ _ _ hv.EE (kz jA hv.mi) Oo bE cv
  by_cases EK:b=96
  ·subst EK;exact vg _ _ _ hv.EF (kz jA hv.mf) Op bE cv
  have h:=az.fr b bE cv (by
   rintro (q|q|q|q|q)
   ·exact EH q
   ·exact EI q
   ·exact EJ q
   ·exact EK q
   ·exact absurd Oq (cx q))
  exact⟨.inl h,bE,h⟩
 exact⟨λb bE cv=>(EG b bE cv).1,λb bE cv=>(EG b bE cv).2⟩
end
end
section
open PySem PySem.W PySem.W.X
noncomputable abbrev af:=KT.nil
noncomputable abbrev bC(az:ab):=KT.node (H az)
noncomputable abbrev oN:=KT.node J
noncomputable def EL:=0 where
 cg:List Stmt:=nP.row.prog.main.body
 fi (ar:List cb) (n:Nat):Stmt:=ar.getD n (.Pass default)
 EM (C:cb):List Stmt:=(n6 C).2.2.1
 EN (M:O) (C:cb) (q:c0) (cs:ae) (d m c:O):Obj:={cls:=M,data:= .func ⟨(n6 C).1,q,(n6 C).2.1,.stmts (n6 C).2.2.1,(n6 C).2.2.2,cs,[],d,.none,.none,m,J,c,.none,0⟩}
 iT (ar:List O):Obj:={cls:= .type zp,data:= .seq ⟨ar⟩ 0}
 EO (ar:List O):Obj:={cls:= .none,data:= .fields ⟨ar⟩}
 sq (ar:List gp) (e:Nat):Obj:={cls:= .type zq,data:= .dict ⟨ar⟩ e}
 kx (C:cb) (q:List Nat) (d:O) (m:List Nat) (M c:Nat):Obj:=EN (.type SZ.s7174869446012820540x8) C ⟨⟨q⟩⟩ 3 d (b4 m M) (.ref c)
 ky (C:cb) (q:List Nat):Obj:=EN .none C ⟨⟨q⟩⟩ 0 .none .none .none
 g6:Obj:=iT []
 jB:Obj:=EO []
 Ot (P:a1):Obj:=sq [U P [95,95,110,97,109,101,95,95] 1 (b4 [98,117,105,108,116,105,110,115] 160),U P qU 2 (.builtin ("builtins.__doc__:str#opaque")),U P [95,95,112,97,99,107,97,103,101,95,95] 3 (.builtin ("builtins.__package__:str#opaque")),U P [95,95,108,111,97,100,101,114,95,95] 4 (.builtin ("builtins.__loader__:shared#opaque")),U P [95,95,115,112,101,99,95,95] 5 (.builtin SZ.s11665532747177232413x24),U P [95,95,98,117,105,108,100,95,99,108,97,115,115,95,95] 6 (.builtin SZ.s15183661809925369436x15),U P [95,95,105,109,112,111,114,116,95,95] 7 (.builtin SZ.s13915890719876406383x10),U P [97,98,115] 8 (.builtin SZ.s13459172003223722735x3),U P [97,108,108] 9 (.builtin SZ.s10557405761357834076x3),U P [97,110,121] 10 (.builtin SZ.s4233737765568776869x3),U P [97,115,99,105,105] 11 (.builtin SZ.s2508922471967985374x5),U P [98,105,110] 12 (.builtin SZ.s15574269061696679450x3),U P [98,114,101,97,107,112,111,105,110,116] 13 (.builtin SZ.s6016482663378992977x10),U P [99,97,108,108,97,98,108,101] 14 (.builtin SZ.s5596568736180474577x8),U P [99,104,114] 15 (.builtin SZ.s2839554839881490554x3),U P [99,111,109,112,105,108,101] 16 (.builtin SZ.s725004073602090463x7),U P [100,101,108,97,116,116,114] 17 (.builtin SZ.s9436932552931045734x7),U P [100,105,114] 18 (.builtin SZ.s2754603736356183583x3),U P [100,105,118,109,111,100] 19 (.builtin SZ.s15185746759980889043x6),U P [101,118,97,108] 20 (.builtin SZ.s8192189862530294059x4),U P [101,120,101,99] 21 (.builtin SZ.s7038307821325472102x4),U P [102,111,114,109,97,116] 22 (.builtin SZ.s5662562618415449548x6),U P [103,101,116,97,116,116,114] 23 (.builtin SZ.s15281542589158584767x7),U P [103,108,111,98,97,108,115] 24 (.builtin SZ.s17651547275483570877x7),U P [104,97,115,97,116,116,114] 25 (.builtin SZ.s4036449017235975746x7),U P [104,97,115,104] 26 (.builtin SZ.s8879979712987360175x4),U P [104,101,120] 27 (.builtin SZ.s1801250619170735830x3),U P [105,100] 28 (.builtin SZ.s17659931425627118568x2),U P [105,110,112,117,116] 29 (.builtin SZ.s6063217899685152688x5),U P [105,115,105,110,115,116,97,110,99,101] 30 (.builtin SZ.s8008927332132565319x10),U P [105,115,115,117,98,99,108,97,115,115] 31 (.builtin SZ.s3544116645089599534x10),U P [105,116,101,114] 32 (.builtin SZ.s13761710972054866084x4),U P [97,105,116,101,114] 33 (.builtin SZ.s12896375587409280029x5),U P [108,101,110] 34 (.builtin SZ.s13014049009108672802x3),U P [108,111,99,97,108,115] 35 (.builtin SZ.s13935586738268321596x6),U P [109,97,120] 36 (.builtin SZ.s8200498257699607233x3),U P [109,105,110] 37 (.builtin SZ.s14114244577727609259x3),U P [110,101,120,116] 38 (.builtin SZ.s1499430450269397089x4),U P [97,110,101,120,116] 39 (.builtin SZ.s8755793994789770505x5),U P [111,99,116] 40 (.builtin SZ.s15725212667919936108x3),U P [111,114,100] 41 (.builtin SZ.s15791221867095933363x3),U P [112,111,119] 42 (.builtin SZ.s81309575031448614x3),U P [112,114,105,110,116] 43 (.builtin SZ.s8069831620301644142x5),U P [114,101,112,114] 44 (.builtin SZ.s10061844253413749634x4),U P [114,111,117,110,100] 45 (.builtin SZ.s9496514870978017513x5),U P [115,101,116,97,116,116,114] 46 (.builtin SZ.s8899691144933366716x7),U P [115,111,114,116,101,100] 47 (.builtin SZ.s15201008993051130160x6),U P [115,117,109] 48 (.builtin SZ.s741896355592496720x3),U P [118,97,114,115] 49 (.builtin SZ.s17925004256654032244x4),U P [78,111,110,101] 50 .none,U P [69,108,108,105,112,115,105,115] 51 .ellipsis,U P [78,111,116,73,109,112,108,101,109,101,110,116,101,100] 52 .notImplemented,U P [70,97,108,115,101] 53 (.bool aN),U P [84,114,117,101] 54 (.bool ag),U P [98,111,111,108] 55 (.type SZ.s11695548795398191787x4),U P [109,101,109,111,114,121,118,105,101,119] 56 (.type SZ.s4156966113859768872x10),U P [98,121,116,101,97,114,114,97,121] 57 (.type SZ.s9501651726347032510x9),U P [98,121,116,101,115] 58 (.type SZ.s15722918466584999320x5),U P [99,108,97,115,115,109,101,116,104,111,100] 59 (.type SZ.s591115383303110208x11),U P [99,111,109,112,108,101,120] 60 (.type SZ.s15721156781594690315x7),U P [100,105,99,116] 61 (.type zq),U P [101,110,117,109,101,114,97,116,101] 62 (.type SZ.s14340494229221121180x9),U P [102,105,108,116,101,114] 63 (.type SZ.s13429844117177748173x6),U P [102,108,111,97,116] 64 (.type SZ.s16463266125957815391x5),U P [102,114,111,122,101,110,115,101,116] 65 (.type SZ.s4922535414793169389x9),U P [112,114,111,112,101,114,116,121] 66 (.type SZ.s8101838861749082086x8),U P [105,110,116] 67 (.type SZ.s7066276694103001551x3),U P [108,105,115,116] 68 (.type SZ.s9222952809800978799x4),U P [109,97,112] 69 (.type SZ.s462964344163437139x3),U P [111,98,106,101,99,116] 70 (.type s1),U P [114,97,110,103,101] 71 (.type SZ.s1438033511350832697x5),U P [114,101,118,101,114,115,101,100] 72 (.type SZ.s14365286008749172514x8),U P [115,101,116] 73 (.type SZ.s3642769012341782148x3),U P [115,108,105,99,101] 74 (.type SZ.s4674234679698826739x5),U P [115,116,97,116,105,99,109,101,116,104,111,100] 75 (.type SZ.s16656946322747308186x12),U P [115,116,114] 76 (.type SZ.s10796804682411823810x3),U P [115,117,112,101,114] 77 (.type SZ.s4290257624100764138x5),U P [116,117,112,108,101] 78 (.type zp),U P [116,121,112,101] 79 (.type zr),U P [122,105,112] 80 (.type SZ.s14339709457334898076x3),U P [95,95,100,101,98,117,103,95,95] 81 (.bool ag),U P [66,97,115,101,69,120,99,101,112,116,105,111,110] 82 (.type SZ.s4278001404047624695x13),U P [66,97,115,101,69,120,99,101,112,116,105,111,110,71,114,111,117,112] 83 (.type SZ.s6585700554429387442x18),U P [69,120,99,101,112,116,105,111,110] 84 (.type SZ.s5946037652744460706x9),U P [71,101,110,101,114,97,116,111,114,69,120,105,116] 85 (.type SZ.s7410770068591931388x13),U P [75,101,121,98,111,97,114,100,73,110,116,101,114,114,117,112,116] 86 (.type SZ.s11817881795495490833x17),U P [83,121,115,116,101,109,69,120,105,116] 87 (.type SZ.s15679963881808890155x10),U P [65,114,105,116,104,109,101,116,105,99,69,114,114,111,114] 88 (.type SZ.s3871700062485845797x15),U P [65,115,115,101,114,116,105,111,110,69,114,114,111,114] 89 (.type SZ.s7689518266570723881x14),U P [65,116,116,114,105,98,117,116,101,69,114,114,111,114] 90 (.type SZ.s9001593270443806431x14),U P [66,117,102,102,101,114,69,114,114,111,114] 91 (.type SZ.s6882542574934516792x11),U P [69,79,70,69,114,114,111,114] 92 (.type SZ.s14403400214490484960x8),U P [73,109,112,111,114,116,69,114,114,111,114] 93 (.type SZ.s14457978657717015782x11),U P [76,111,111,107,117,112,69,114,114,111,114] 94 (.type SZ.s1753610191782819921x11),U P [77,101,109,111,114,121,69,114,114,111,114] 95 (.type SZ.s14119380538032626715x11),U P [78,97,109,101,69,114,114,111,114] 96 (.type SZ.s11437920000406562045x9),U P [79,83,69,114,114,111,114] 97 (.type v6),U P [82,101,102,101,114,101,110,99,101,69,114,114,111,114] 98 (.type SZ.s14816307405966870543x14),U P [82,117,110,116,105,109,101,69,114,114,111,114] 99 (.type SZ.s8682627914449686677x12),U P [83,116,111,112,65,115,121,110,99,73,116,101,114,97,116,105,111,110] 100 (.type SZ.s4428170145600203450x18),U P [83,116,111,112,73,116,101,114,97,116,105,111,110] 101 (.type SZ.s5991306692159431302x13),U P [83,121,110,116,97,120,69,114,114,111,114] 102 (.type SZ.s16067994140765818257x11),U P [83,121,115,116,101,109,69,114,114,111,114] 103 (.type SZ.s2327743974964600596x11),U P [84,121,112,101,69,114,114,111,114] 104 (.type SZ.s2804747833354056582x9),U P [86,97,108,117,101,69,114,114,111,114] 105 (.type SZ.s6070975301684473832x10),U P [87,97,114,110,105,110,103] 106 (.type SZ.s14270485950484850486x7),U P [70,108,111,97,116,105,110,103,80,111,105,110,116,69,114,114,111,114] 107 (.type SZ.s12041534306414923332x18),U P [79,118,101,114,102,108,111,119,69,114,114,111,114] 108 (.type SZ.s2531307568338490285x13),U P [90,101,114,111,68,105,118,105,115,105,111,110,69,114,114,111,114] 109 (.type SZ.s631175304937289666x17),U P [66,121,116,101,115,87,97,114,110,105,110,103] 110 (.type SZ.s5144983644357021410x12),U P [68,101,112,114,101,99,97,116,105,111,110,87,97,114,110,105,110,103] 111 (.type SZ.s18039099521571816885x18),U P [69,110,99,111,100,105,110,103,87,97,114,110,105,110,103] 112 (.type SZ.s6011586214260557989x15),U P [70,117,116,117,114,101,87,97,114,110,105,110,103] 113 (.type SZ.s5430567037509283100x13),U P [73,109,112,111,114,116,87,97,114,110,105,110,103] 114 (.type SZ.s8117915138073963741x13),U P [80,101,110,100,105,110,103,68,101,112,114,101,99,97,116,105,111,110,87,97,114,110,105,110,103] 115 (.type SZ.s3423317712779056401x25),U P [82,101,115,111,117,114,99,101,87,97,114,110,105,110,103] 116 (.type SZ.s2007317383269046180x15),U P [82,117,110,116,105,109,101,87,97,114,110,105,110,103] 117 (.type SZ.s17481586968713580700x14),U P [83,121,110,116,97,120,87,97,114,110,105,110,103] 118 (.type SZ.s2450899226349176912x13),U P [85,110,105,99,111,100,101,87,97,114,110,105,110,103] 119 (.type SZ.s16626165730633575011x14),U P [85,115,101,114,87,97,114,110,105,110,103] 120 (.type SZ.s14288496050688921416x11),U P [66,108,111,99,107,105,110,103,73,79,69,114,114,111,114] 121 (.type SZ.s5735081916595925998x15),U P [67,104,105,108,100,80,114,111,99,101,115,115,69,114,114,111,114] 122 (.type SZ.s3865607918536308442x17),U P [67,111,110,110,101,99,116,105,111,110,69,114,114,111,114] 123 (.type SZ.s13337502604062700212x15),U P [70,105,108,101,69,120,105,115,116,115,69,114,114,111,114] 124 (.type SZ.s13114017843053701147x15),U P [70,105,108,101,78,111,116,70,111,117,110,100,69,114,114,111,114] 125 (.type SZ.s17467278006356818441x17),U P [73,110,116,101,114,114,117,112,116,101,100,69,114,114,111,114] 126 (.type SZ.s17722149559621369488x16),U P [73,115,65,68,105,114,101,99,116,111,114,121,69,114,114,111,114] 127 (.type SZ.s7855274175708717672x17),U P [78,111,116,65,68,105,114,101,99,116,111,114,121,69,114,114,111,114] 128 (.type SZ.s13351283678309829046x18),U P [80,101,114,109,105,115,115,105,111,110,69,114,114,111,114] 129 (.type SZ.s6668348653404991179x15),U P [80,114,111,99,101,115,115,76,111,111,107,117,112,69,114,114,111,114] 130 (.type SZ.s12913350958174193794x18),U P [84,105,109,101,111,117,116,69,114,114,111,114] 131 (.type SZ.s16115879512475548326x12),U P [73,110,100,101,110,116,97,116,105,111,110,69,114,114,111,114] 132 (.type SZ.s15920661018069861047x16),U P [95,73,110,99,111,109,112,108,101,116,101,73,110,112,117,116,69,114,114,111,114] 133 (.type SZ.s10779130036587390575x21),U P [73,110,100,101,120,69,114,114,111,114] 134 (.type SZ.s7801419657504700863x10),U P [75,101,121,69,114,114,111,114] 135 (.type SZ.s1688129525768580628x8),U P [77,111,100,117,108,101,78,111,116,70,111,117,110,100,69,114,114,111,114] 136 (.type SZ.s1031832959479892071x19),U P [78,111,116,73,109,112,108,101,109,101,110,116,101,100,69,114,114,111,114] 137 (.type SZ.s8991790508128307865x19),U P [80,121,116,104,111,110,70,105,110,97,108,105,122,97,116,105,111,110,69,114,114,111,114] 138 (.type SZ.s14539662485746970245x23),U P [82,101,99,117,114,115,105,111,110,69,114,114,111,114] 139 (.type SZ.s11643622729373238714x14),U P [85,110,98,111,117,110,100,76,111,99,97,108,69,114,114,111,114] 140 (.type SZ.s3386828779285465597x17),U P [85,110,105,99,111,100,101,69,114,114,111,114] 141 (.type SZ.s13042696260734638735x12),U P [66,114,111,107,101,110,80,105,112,101,69,114,114,111,114] 142 (.type SZ.s18239426817015966623x15),U P [67,111,110,110,101,99,116,105,111,110,65,98,111,114,116,101,100,69,114,114,111,114] 143 (.type SZ.s1270395311379034370x22),U P [67,111,110,110,101,99,116,105,111,110,82,101,102,117,115,101,100,69,114,114,111,114] 144 (.type SZ.s10696252587037064777x22),U P [67,111,110,110,101,99,116,105,111,110,82,101,115,101,116,69,114,114,111,114] 145 (.type SZ.s7852717498200857586x20),U P [84,97,98,69,114,114,111,114] 146 (.type SZ.s6377248116197321094x8),U P [85,110,105,99,111,100,101,68,101,99,111,100,101,69,114,114,111,114] 147 (.type SZ.s3834378056692298002x18),U P [85,110,105,99,111,100,101,69,110,99,111,100,101,69,114,114,111,114] 148 (.type SZ.s17586630440231065808x18),U P [85,110,105,99,111,100,101,84,114,97,110,115,108,97,116,101,69,114,114,111,114] 149 (.type SZ.s15234114252648025395x21),U P [69,120,99,101,112,116,105,111,110,71,114,111,117,112] 150 (.type SZ.s8496462677383758984x14),U P [69,110,118,105,114,111,110,109,101,110,116,69,114,114,111,114] 151 (.type v6),U P [73,79,69,114,114,111,114] 152 (.type v6),U P [111,112,101,110] 153 (.builtin SZ.s16789243406116112673x4),U P [113,117,105,116] 154 (.builtin SZ.s14400166428656793546x20),U P [101,120,105,116] 155 (.builtin SZ.s5857708277339239366x20),U P [99,111,112,121,114,105,103,104,116] 156 (.builtin "builtins.copyright#opaque"),U P [99,114,101,100,105,116,115] 157 (.builtin "builtins.credits#opaque"),U P [108,105,99,101,110,115,101] 158 (.builtin "builtins.license#opaque"),U P [104,101,108,112] 159 (.builtin SZ.s7804999707787243718x20)] 159
 Ou (P:a1):Obj:=sq [U P [98,117,105,108,116,105,110,115] 162 (.ref 4),U P wf 163 (.ref 5)] 2
 Ov:Obj:={cls:= .none,data:=(.dict ⟨[]⟩ 0)}
 Ow (P:a1):Obj:=sq [U P [95,95,110,97,109,101,95,95] 165 (b4 i4 265),U P qU 166 .none,U P [95,95,112,97,99,107,97,103,101,95,95] 167 .none,U P [95,95,108,111,97,100,101,114,95,95] 168 (.builtin SZ.s7097527257260152453x26),U P [95,95,115,112,101,99,95,95] 169 .none,U P [95,95,97,110,110,111,116,97,116,105,111,110,115,95,95] 170 (.ref 6),U P [95,95,98,117,105,108,116,105,110,115,95,95] 171 (.ref 4),U P [95,95,102,105,108,101,95,95] 173 (b4 fj 172),U P [95,95,99,97,99,104,101,100,95,95] 174 .none,U P qW 197 (.ref 21),U P [95,105,110,105,116,105,97,108,95,109,105,115,115,105,110,103] 198 (.ref 22),U P qX 210 (.ref 30),U P qY 219 (.ref 37),U P qZ 234 (.ref 44),U P lB 264 (.ref 61),U P q0 276 (.ref 72),U P q1 285 (.ref 79),U P nV 291 (.ref 84),U P q2 297 (.ref 89),U P q3 303 (.ref 94),U P [108,97,119] 309 (.ref 99)] 21
 Ox:Obj:={cls:=(.type zs),dict:=(H 0),data:= .plain}
 Oy:Obj:={cls:=(.type zs),dict:=(H 3),data:= .plain}
 Oz:Obj:=sq [] 0
 OA:Obj:={cls:=(.type iw),data:=(.fields ⟨[(b4 s8 176),(b4 s8 177),(b4 fj 178),(aj 1 0),(aj 0 0),(aj 0 0),(aj 0 0),(aj 0 0),(.ref 7),(.bool aN),(aj 175 0),(.ref 8),.none,.none,.none,.none,(aj 179 0),(aj 1 0),(b4 fj 180)]⟩)}
 OB:Obj:={cls:=(.type zt),data:= .plain,slots:=⟨[(H (.ref 9)),(H (.ref 3)),(H (.ref 3)),J,(H (b4 wf 164)),J,(H (.ref 0))]⟩}
 OC:Obj:=EO [(aj 2 0),(aj 0 0),(.ref 20),(aj 28 0),(aj 0 0),(.ref 29),(aj 41 0),(aj 0 0),(.ref 36),(aj 43 0),(aj 0 0),(.ref 43),(aj 80 0),(aj 0 0),(.ref 50),(aj 86 0),(aj 0 0),(.ref 71),(aj 91 0),(aj 0 0),(.ref 78),(aj 100 0),(aj 0 0),(.ref 83),(aj 103 0),(aj 0 0),(.ref 88),(aj 108 0),(aj 0 0),(.ref 93),(aj 112 0),(aj 0 0),(.ref 98)]
 OD:Obj:={cls:=(.type iw),data:=(.fields ⟨[(b4 s8 182),(b4 s8 183),(b4 fj 184),(aj 1 0),(aj 0 0),(aj 0 0),(aj 0 0),(aj 0 0),(.ref 11),(.bool aN),(aj 181 0),(.ref 12),.none,.none,.none,.none,(aj 185 0),(aj 1 0),(b4 fj 186)]⟩)}
 OE:Obj:={cls:=(.type zt),data:= .plain,slots:=⟨[(H (.ref 13)),(H (.ref 3)),(H (.ref 3)),J,(H (b4 wf 164)),J,(H (.ref 0))]⟩}
 OF:Obj:=iT [(b4 mJ 192),(b4 [75] 193)]
 OG:Obj:=iT [(b4 mJ 194)]
 OH:Obj:=ky (fi cg 1) qW
 OI:Obj:=mP iw qW qW 189 2 1 3 15 195
 OJ:Obj:=kx (fi cg 1) qW .none v_ 187 20
 OK:Obj:={cls:=(.type s1),data:= .plain}
 OL:Obj:=iT [(.ref 22)]
 OM:Obj:=iT [(b4 s3 202),(b4 s4 203),(b4 s5 204),(b4 [105,116] 205),(b4 [118,97,108,117,101] 206),(b4 [101,108,101,109,101,110,116] 207)]
 ON:Obj:=ky (fi cg 3) qX
 OO:Obj:=mP iw qX qX 199 28 3 3 24 208
 OP:Obj:=kx (fi cg 3) qX (.ref 23) v_ 187 29
 OQ:Obj:=iT [(b4 [116,97,103] 216)]
 OR:Obj:=ky (fi cg 5) qY
 OS:Obj:=mP iw qY qY 213 41 1 3 31 217
 OT:Obj:=kx (fi cg 5) qY .none qV 211 36
 OU:Obj:=iT [(b4 [116,97,103] 223),(b4 i3 224)]
 OV:Obj:=iT [(b4 [116,97,103] 225),(b4 pe 226),(b4 pd 227),(b4 [110,111,95,110,115] 228),(b4 [110,115] 229),(b4 v7 230),(b4 [115,117,102,102,105,120] 231)]
 OW:Obj:=ky (fi cg 6) qZ
 OX:Obj:=mP iw qZ qZ 220 43 1 3 38 232
 OY:Obj:=kx (fi cg 6) qZ .none qV 211 43
 OZ:Obj:=iT [(b4 [115,101,108,102] 251),(b4 [114,111,111,116] 252)]
 O0:Obj:=ky (fi (EM (fi cg 7)) 1) wg
 O1:Obj:=mP iw pg wg 248 83 2 3 52 253
 O2:Obj:=kx (fi (EM (fi cg 7)) 1) wg .none qV 211 57
 O3:Obj:=iT [(b4 [114,111,111,116] 256)]
 O4 (P:a1):Obj:=sq [U P v9 242 (b4 qV 211),U P v' 246 (aj 80 245),U P [112,97,114,101,110,116,95,109,97,112] 247 .none,U P pg 255 (.ref 58),U P wa 257 (.ref 59),U P wd 259 (.ref 62),U P we 261 (.ref 63),U P qU 262 .none] 4
 O5:Obj:={cls:=(.type zr),data:=(.cls {name:=⟨⟨lB⟩⟩,bases:=[(.type s1)],mro:=[(.ref 61),(.type s1)],ns:=60,qualname:=⟨⟨lB⟩⟩,hasDict:=ag,slotNames:=[],subclasses:=[],abstract:=aN,collection:=J,hasDel:=aN}),slots:=⟨[J,J,(H (b4 lB 235)),(H (b4 lB 243)),(H (.builtin SZ.s11443829558043349243x14)),(H (.bool ag))]⟩}
 O6:Obj:={cls:=(.type zu),data:=(.fields ⟨[(b4 wd 258),(.ref 61),(.builtin SZ.s6511155373996960695x17),(.builtin SZ.s12411053484034534018x21)]⟩)}
 O7:Obj:={cls:=(.type zu),data:=(.fields ⟨[(b4 we 260),(.ref 61),(.builtin SZ.s10220274742760427390x26),.none]⟩)}
 O8:Obj:=iT [(b4 [120] 270),(b4 kD 271),(b4 el 272),(b4 [108,111,99,97,108] 273)]
 O9:Obj:=ky (fi cg 9) q0
 O_:Obj:=mP iw q0 q0 267 86 2 3 66 274
 O':Obj:=kx (fi cg 9) q0 .none i4 265 71
 Pa:Obj:=iT [(b4 fW 280),(b4 [99,111,109,112,97,114,101] 281)]
 Pb:Obj:=iT [(b4 fW 282)]
 Pc:Obj:=ky (fi cg 10) q1
 Pd:Obj:=mP iw q1 q1 277 91 1 3 73 283
 Pe:Obj:=kx (fi cg 10) q1 .none i4 265 78
 Pf:Obj:=ky (fi cg 11) nV
 Pg:Obj:={cls:=(.type iw),data:=(.fields ⟨[(b4 nV 286),(b4 nV 287),(b4 fj 288),(aj 100 0),(aj 2 0),(aj 0 0),(aj 0 0),(aj 3 0),(.ref 80),(.bool ag),(aj 181 0),(.ref 81),.none,.none,.none,(.ref 82),(aj 289 0),(aj 100 0),(b4 fj 290)]⟩)}
 Ph:Obj:=kx (fi cg 11) nV .none i4 265 83
 Pj:Obj:=ky (fi cg 12) q2
 Pk:Obj:={cls:=(.type iw),data:=(.fields ⟨[(b4 q2 292),(b4 q2 293),(b4 fj 294),(aj 103 0),(aj 2 0),(aj 0 0),(aj 0 0),(aj 3 0),(.ref 85),(.bool ag),(aj 181 0),(.ref 86),.none,.none,.none,(.ref 87),(aj 295 0),(aj 103 0),(b4 fj 296)]⟩)}
 Pl:Obj:=kx (fi cg 12) q2 .none i4 265 88
 Pm:Obj:=ky (fi cg 13) q3
 Pn:Obj:={cls:=(.type iw),data:=(.fields ⟨[(b4 q3 298),(b4 q3 299),(b4 fj 300),(aj 108 0),(aj 1 0),(aj 0 0),(aj 0 0),(aj 3 0),(.ref 90),(.bool ag),(aj 181 0),(.ref 91),.none,.none,.none,(.ref 92),(aj 301 0),(aj 108 0),(b4 fj 302)]⟩)}
 Po:Obj:=kx (fi cg 13) q3 .none i4 265 93
 Pp:Obj:=ky (fi cg 14) [108,97,119]
 Pq:Obj:={cls:=(.type iw),data:=(.fields ⟨[(b4 [108,97,119] 304),(b4 [108,97,119] 305),(b4 fj 306),(aj 112 0),(aj 1 0),(aj 0 0),(aj 0 0),(aj 3 0),(.ref 95),(.bool ag),(aj 181 0),(.ref 96),.none,.none,.none,(.ref 97),(aj 307 0),(aj 112 0),(b4 fj 308)]⟩)}
 Pr:Obj:=kx (fi cg 14) [108,97,119] .none i4 265 98
 yB (P:a1):KT:=(bC (Ot P) (bC (Ou P) (bC (Ow P) (bC g6 (bC g6 (bC g6 (bC O7 af af) (bC g6 af af)) (oN (bC Pe af af) af)) (bC OL (bC jB (bC O_ af af) af) (bC g6 (bC Pj af af) af))) (bC g6 (bC OH (bC OR (bC jB af af) (bC Pr af af)) (oN (bC Pg af af) af)) (bC g6 (bC OX (bC Pa af af) af) (bC O3 (bC jB af af) af)))) (bC Oy (bC OA (bC OF (bC OQ af (bC Pp af af)) (oN (bC jB af af) af)) (bC jB (bC OV (bC g6 af af) af) (bC O1 (bC Pl af af) af))) (bC OD (bC OJ (bC OT (bC g6 af af) af) (bC jB (bC g6 af af) af)) (bC OO (oN (bC Pc af af) af) (bC O5 (bC Pn af af) af))))) (bC Ov (bC Ox (bC jB (bC jB (bC jB af (bC jB af af)) (oN (bC g6 af af) af)) (bC g6 (bC OU (bC O' af af) af) (bC O0 (bC Pk af af) af))) (bC OC (bC OI (bC OS (bC O8 af af) af) (bC g6 (bC Ph af af) af)) (bC ON (bC OY (bC Pb af af) af) (bC (O4 P) (bC Pm af af) af)))) (bC Oz (bC OB (bC OG (bC g6 (bC g6 af af) (bC Pq af af)) (oN (bC Pf af af) af)) (bC OM (bC OW (bC jB af af) af) (bC O2 (bC g6 af af) af))) (bC OE (bC OK (bC g6 (bC O9 af af) af) (bC OZ (bC jB af af) af)) (bC OP (oN (bC Pd af af) af) (bC O6 (bC Po af af) af))))))
open EL
end
open EL
section
open PySem PySem.W PySem.W.X
set_option maxHeartbeats 0
noncomputable abbrev fI(P:a1):Nat->Option Obj:=kM (KT.get (yB P))
theorem sr(P:a1):pR (fI P) P/\tE (fI P) P/\je (fI P) P/\du (fI P) P/\uD (fI P) P:=by
 refine⟨?_, ?_, ?_, ?_, ?_⟩<;>(refine AllP.st 0 ?_ ?_;repeat' first|exact AllP.fin _ (by kernel_rfl!)|refine AllP.st _ ?_ ?_|(intro _;intros;first|kernel_rfl|(constructor<;>(intros;kernel_rfl)))|(refine(?_:_=_);kernel_rfl))
theorem vh(P:a1):kS 1 (fI P) P/\kS 0 (fI P) P/\j0 (fI P) P/\gf (fI P) P:=by
 refine⟨?_, ?_, ?_, ?_⟩<;>(refine AllP.st 0 ?_ ?_;repeat' first|exact AllP.fin _ (by kernel_rfl!)|refine AllP.st _ ?_ ?_|(intro _;intros;first|kernel_rfl|(constructor<;>(intros;kernel_rfl)))|(refine(?_:_=_);kernel_rfl))
theorem vi(P:a1):gu (fI P) P/\fB (fI P) P/\na (fI P) P/\nc (fI P) P:=by
 refine⟨?_, ?_, ?_, ?_⟩<;>(refine AllP.st 0 ?_ ?_;repeat' first|exact AllP.fin _ (by kernel_rfl!)|refine AllP.st _ ?_ ?_|(intro _;intros;first|kernel_rfl|(constructor<;>(intros;kernel_rfl)))|(refine(?_:_=_);kernel_rfl))
theorem yC(P:a1):om (fI P) P/\hi (fI P) P/\l8 (fI P) P:=by
 refine⟨?_, ?_, ?_⟩<;>(refine AllP.st 0 ?_ ?_;repeat' first|exact AllP.fin _ (by kernel_rfl!)|refine AllP.st _ ?_ ?_|(intro _;intros;first|kernel_rfl|(constructor<;>(intros;kernel_rfl)))|(refine(?_:_=_);kernel_rfl))
theorem Ps(P:a1):ii (fI P) P:=by
 refine AllP.st 0 ?_ ?_
 repeat' first|exact AllP.fin _ (by kernel_rfl!)|refine AllP.st _ ?_ ?_|(intro _;intros;first|kernel_rfl|(constructor<;>(intros;kernel_rfl)))|(refine(?_:_=_);kernel_rfl)
theorem EP(P:a1):jv (fI P) P/\m1 (fI P) P:=by
 refine⟨?_, ?_⟩<;>(refine AllP.st 0 ?_ ?_;repeat' first|exact AllP.fin _ (by kernel_rfl!)|refine AllP.st _ ?_ ?_|(intro _;intros;first|kernel_rfl|(constructor<;>(intros;kernel_rfl)))|(refine(?_:_=_);kernel_rfl))
theorem yD(P:a1):k9 (fI P) P/\li (fI P) P/\DO (fI P) P:=by
 refine⟨?_, ?_, ?_⟩<;>(refine AllP.st 0 ?_ ?_;repeat' first|exact AllP.fin _ (by kernel_rfl!)|refine AllP.st _ ?_ ?_|(intro _;intros;first|kernel_rfl|(constructor<;>(intros;kernel_rfl)))|(refine(?_:_=_);kernel_rfl))
theorem Pt(P:a1):yz (yB P) P where
 EB:=⟨(sr P).1,(sr P).2.1,(sr P).2.2.1,(sr P).2.2.2.1,(sr P).2.2.2.2,(vh P).1,(vh P).2.1,(vh P).2.2.1,(vh P).2.2.2,(vi P).1,(vi P).2.1,(vi P).2.2.1,(vi P).2.2.2,(yC P).1,(yC P).2.1,(yC P).2.2,Ps P,(EP P).1,(EP P).2,(yD P).1,(yD P).2.1,(yD P).2.2⟩
 st:=by kernel_rfl
 mh:=by kernel_rfl
 me:=by kernel_rfl
 mi:=by kernel_rfl
 mf:=by kernel_rfl
 EC:=by constructor<;>kernel_rfl
 ED:=by constructor<;>kernel_rfl
 EE:=by constructor<;>kernel_rfl
 EF:=by constructor<;>kernel_rfl
end
section
open PySem PySem.W PySem.W.X PyProof.Rows
noncomputable def nB:KT->Nat->Nat->Frag
 | .nil,_,_=>[]
 | .node v ar a3,C,b=>match v with
  |some az=>(b,az)::(nB ar (2*C) (C+b)++nB a3 (2*C) (2*C+b))
  |none=>nB ar (2*C) (C+b)++nB a3 (2*C) (2*C+b)
theorem qn {h:aY}:∀{a b:Frag},AllIn h (a++b)->AllIn h a/\AllIn h b
 | [],_,x=>⟨trivial,x⟩
 |_::_,_,x=>⟨⟨x.1,(qn x.2).1⟩,(qn x.2).2⟩
theorem ss {h:aY}:∀{M:KT} {C b:Nat},AllIn h (nB M C b)->KT.Holds h C b M
 | .nil,_,_,_=>trivial
 | .node (H az) ar a3,C,b,x=>⟨λpL e=>by cases e;exact x.1,ss (qn x.2).1,ss (qn x.2).2⟩
 | .node J ar a3,C,b,x=>⟨λ_ e=>(nomatch e),ss (qn (a:=nB ar (2*C) (C+b)) x).1,ss (qn (a:=nB ar (2*C) (C+b)) x).2⟩
noncomputable def EQ:=0 where
 oO:Program:=view bH [1,2,5,6,7,9,10,11,12,13,14]
 yE:List PySem.Str:=[.ofString "_initial_missing",.ofString "reduce",.ofString "_SelectorContext"]
 yF:List Nat:=[0,1,3,7,15,31,63,95,79,23,39,71,55,87,11,19,35,67,99,83,27,43,75,59,91,5,9,17,33,97,81,25,41,73,57,89,13,21,37,69,53,85,29,77,61,93,2,4,8,16,32,96,80,24,40,72,56,88,12,20,36,68,52,84,28,44,76,60,92,6,10,18,34,66,98,82,26,42,74,58,90,14,22,38,70,54,86,30,78,62,94]
open EQ
noncomputable def vj(P:a1):Frag:=nB (yB P) 1 0
theorem Pu(P:a1):yF=(vj P).map (·.1):=by kernel_rfl
noncomputable def ER(C:ac):Bool:=xlAt oO [] C&&recOk nP.row.toRowW.records C
theorem Pw:opening bH=plainProg bH.main.scope.names:=by kernel_rfl
theorem Px(C:ac):fenceModules? bH C=H C:=by kernel_rfl
theorem Py(u:cZ)(os:o0):(topFrom treeTable bH u 1300 ⟨boot_heap u.params,#[],boot_drawn,boot_toks,os⟩).map (λC=>(openSeen oO yE (importedModules bH.main.body) ER ag C,obsZ yF C))=H (openGood oO yE,valZ vj 100 310 u):=by
 unfold topFrom;rw [PySem.W.Fast.te14082659384304107361,y0];kernel_rfl
theorem Pz:LeftO bH oO yE ER (obsZ yF) (valZ vj 100 310) 1300:=by
 intro u;have cv:=boot_open (p:=bH) (N:=1300) Pw (by decide) Px u;cases su:fencedOpening treeTable bH u 1300 with
 |none=>rw [su]at cv;exact nomatch cv
 |some C=>
  rw [su]at cv;obtain ⟨h,cs,d,M,os⟩:=C;have cv:=o' cv;have lj:=congrArg lz cv;have oI:=congrArg (λx=>x.2.1) cv;have mc:=congrArg (λx=>x.2.2.1) cv;have sn:=congrArg (λx=>x.2.2.2) cv;have lj:h=_:=lj;have oI:cs=_:=oI;have mc:d=_:=mc;have sn:M=_:=sn;unfold openEnds;rw [su,lj,oI,mc,sn];exact Py u os
theorem PA:(defOf oO nP.row.name).isSome=true:=by kernel_rfl
noncomputable def oP:DefRec×List (PySem.Str×PySem.Expr):=(defOf oO nP.row.name).get PA
theorem PB:nP.wellSaid=true:=by kernel_rfl
theorem PC:defOf oO nP.row.name=H oP:=by kernel_rfl
theorem PD:bH.theDef nP.row.name=H (oP.1.params,oP.1.body,oP.1.scope):=by kernel_rfl
theorem PE:kwWritten? oP.1.params.kwonlyargs oP.1.params.kw_defaults=H oP.2:=by kernel_rfl
theorem PF(c3:List O)(aA:List Int){M:X.KT}(hv:yz M u.params)(jA:X.KT.Holds C.heap 1 0 M)(qm:C.heap.NoLimit)(so:C.gens=#[])(dJ:C.heap.objs.size=101)(su:∀{az n},I C 100 az->az.cls= .type "list"->az.data= .seq c3.toArray n->az={cls:= .type "list",data:= .seq c3.toArray})
  (oz:C.heap.IsList 100 c3.toArray)(dY:IntsAre c3 aA)(j4:aA.length<=63){af:O->ac->Prop}:
  bD (b1 bH u) callerA (f8 (.ref 99) [.ref 100]) (λv am=>v= .bool ag/\OldK C.heap am.heap/\am.os=C.os/\nR am.gens) af C:=by
 obtain ⟨az,jz,mm,n,sl⟩:=oz;exact Ol hv jA qm so dJ jz (su jz mm sl) dY j4
end
open EQ
end cQ
open PySem PySem.W PySem.W.X PyProof.Rows
set_option maxHeartbeats 0 in
theorem PySem.Challenge.cw_ij0159_01_holds : PySem.Challenge.rw_ij0159_01.Holds := by
 w_on;refine holds_law cQ.PB λsaid=> ?_
 refine PySem.W.holds_openX cQ.Pz (λs e=>xl_of s (Bool.and_eq_true_iff.mp e).1) XL.keeps cQ.PC cQ.PD cQ.PE (λs e=>recFacts_of (Bool.and_eq_true_iff.mp e).2) (by rfl) (by first|assumption|decide+kernel) (by decide+kernel) ⟨rfl,rfl,rfl,rfl,rfl,by decide+kernel⟩ ?hw ?hc
 ·w_witness2
 k_fill
 intro w s₀ s₁ mg mb G y fa o pm cd doc dV kV ho hd hcd hD hmg hg args vals as L hpre hlay hrd hwl hlo;obtain ⟨ZA,ZI,ZN,ZT⟩:=z_facts cQ.Pu y;have KX:Frag.In (cQ.vj w.params) s₁.heap:=InK.keeps w s₀.heap s₁.heap ZI L.keeps;have ZH:=KT.Holds.keeps L.keeps (cQ.ss ZA);refine Ground.open G ?_;intro T B D TE TW
 wrow_args hpre hlay hrd hwl hlo
 obtain ⟨hat,hsz⟩:=script_at L;rw [ZN]at hat hsz;subst hat
 x_fa T KX hmg
 all_lens
 have hnew:s₀.heap.get? 100=none:=new_of_ge (Nat.le_of_eq ZN);refine wpAny_mono (cQ.PF ?vs ?xs (cQ.Pt w.params) ZH T.nolimit hg hsz (λh1 h2 h3=>L.list hnew h1 h2 h3) ?h1 ?h2 ?h3) ?_ (λ_ _ h=>h)
 case h1=>assumption
 case h2=>assumption
 case h3=>lia
 rintro v s' ⟨rfl,hK,hos,hb⟩;refine⟨.inl ⟨_,_,[],rfl,λ_=>rfl,ReadsW.bool true, ?_,λ_=>⟨List.nodup_nil,λ_ hm=>(nomatch hm)⟩⟩,hK,hos,hb⟩
 first|rfl|wrow_post
