import PyProof.Rows.All
import Wide.All
import OpenK.AllK
import Wide.FinOn
import Lean
import PySem.Challenge.RW_ph0122_01
open Array renaming getElem?_eq_getElem->Xd,size_push->Zo
open Bool renaming false_ne_true->Vx,false_eq_true->W9
open Eq renaming symm->Y9
open HAppend renaming hAppend->WG
open Int renaming ofNat->SR,natCast_nonneg->Vo,eq_ofNat_of_zero_le->VR,not_lt->V5,toNat_natCast->WW,toNat_of_nonneg->WY,ofNat_lt->W0,ofNat_le->W2,natCast_pos->Xe,add_zero->XA,fdiv->X4,le_trans->X6,zero_add->Yg,add_assoc->Ys,fmod->YQ,sub_nonneg_of_le->Zf,add_le_of_le_sub_right->Zz,add_nonneg->ZD,fmod_eq_emod_of_nonneg->ZG
open LawfulMonad renaming bind_assoc->WN,pure_bind->Z8
open List renaming getD_eq_getElem?_getD->Ta,getElem?_eq_some_iff->Tb,getElem?_eq_getElem->Ti,length->Tn,range->Tp,mem_map_of_mem->U9,map_map->Vb,length_append->Vd,mem_of_getElem?->Vf,sublist_append_left->Vg,getElem?_map->Vi,not_mem_nil->Vn,nodup_append->Vp,nodup_cons->Vs,filter_eq_self->Vu,map_congr_left->VD,filter_cons->VF,mem_append->VK,range_eq_range'->VO,mem_append_right->VP,length_range->VW,mem_cons->V2,take_append_drop->V9,pairwise_cons->Wf,mem_range->Wg,map_take->Wv,drop_eq_nil_of_le->WA,toArray->WB,drop_eq_getElem_cons->WJ,length_filter_le->WK,nodup_nil->WQ,take_append_of_le_length->WR,eq_nil_of_length_eq_zero->WS,getElem?_range->WZ,map_nil->W3,mem_iff_getElem?->Xb,getElem?_append_left->Xc,drop_eq_nil_iff->Xh,map_eq_nil_iff->Xl,Perm->Xn,length_take->Xo,mem_singleton_self->Xq,filter_append->XB,length_map->XC,range_succ->XD,sum_cons->XH,perm_append_comm->XM,mem_of_mem_take->XW,drop_drop->XZ,range'->X0,Sublist->X9,take_length->Yc,range'_succ->Ye,length_drop->Yi,filterMap_cons->Yk,append_nil->Yv,length_nil->Yw,count_cons->Yx,mem_singleton->Yz,pairwise_singleton->YH,getElem?_eq_none->YU,nil_sublist->YZ,dropLast_append_of_ne_nil->Y6,getLast?_eq_some_getLast->Ze,dropLast_concat_getLast->Zj,foldl_cons->Zk,nil_append->Zn,getD_cons_zero->Zr,getD_cons_succ->Zs,map_id'->Zw,set_cons_zero->ZL,set_cons_succ->ZM,pairwise_iff_getElem->ZQ,getLastD_eq_getLast?->ZR,getElem?_eq_none_iff->ZS,size_toArray->ZW,filter_congr->ZY,length_erase_of_mem->Z3
open List.Perm renaming refl->Xp,append_left->XK
open List.Sublist renaming refl->ZV
open List.cons renaming inj->Z4
open Nat renaming le_trans->SQ,le_of_eq->Th,add_le_add_right->Tq,zero_le->Vc,le_succ_of_le->Ve,succ_le_succ->Vk,succ_pos->Vl,add_right_comm->Vt,le_refl->VA,add_le_add->VB,add_le_add_left->VC,le_add_right->VI,le_of_ble_eq_true->VL,lt_of_lt_of_eq->V4,zero_add->V6,mul_le_mul_left->V7,sub_add_cancel->Wd,lt_of_le_of_lt->Ws,add_assoc->Wu,add_comm->Ww,le_of_lt->Wz,ble->WH,le_add_left->WX,lt_irrefl->W6,beq->Xa,le_of_lt_succ->Xg,le_of_succ_le_succ->Xz,eq_of_beq_eq_true->XJ,ble_eq_true_of_le->XO,mod_two_eq_zero_or_one->X3,div_lt_of_lt_mul->X5,le_of_not_lt->Yh,lt_succ_iff_lt_or_eq->Yo,blt->Yy,lt_of_lt_of_le->YA,lt_add_of_pos_right->YB,le_succ->YF,lt_trans->YJ,ne_of_gt->YL,ne_of_lt->YO,lt_succ_of_lt->YP,sub_eq_zero_of_le->YS,succ->Za,exists_eq_succ_of_ne_zero->Zc,le_of_add_le_add_right->Zy,add_sub_cancel_left->Z9
open Nat.succ renaming inj->Zt
open Option renaming some->Wl,some_ne_none->Yl,not_isSome_iff_eq_none->Zd,isSome_iff_exists->Z1
open Option.some renaming inj->WD
open Pure renaming pure->Y2
open PyProof.Rows renaming wpS_pure->Vj,wpS_bind->V3,SortSt->XN,listUpdate_at->Z6
open PySem renaming Value->va,wpAny_bind->SU,DictEntry->SS,Str->SX,Obj->S9,Code->Td,wpAny_pure->Te,Shared->Tf,PyData->Tg,Builtin->Tj,wpAny->To,wpOwn_of_wpAny->Va,Heap->Vm,recursionLimit->Vv,model->Vy,Result->Vz,wpAny_callSpecial?_slot->VH,Sem->VM,sizeLine->VZ,wpAny_call_entry->V1,pyNext->Wk,letOwnedTupleGo->Wn,Stmt->Wq,Around->Wr,rawInt->Wy,wpAny_updateSeq->WE,wpOwn_bind->WL,wpAny_typeNameOfWhole_itemiter->WM,Addr->WO,OsState->WU,World->W5,wpAny_isInstance->W7,Flow->W8,Tok->Xi,wpOwn->Xs,slot_listiter_next->Xx,entry_list_getitem->Xy,Comprehension->XE,wpAny_onRaise->XF,slicePick->XG,currentRecursionLimit->XI,Pos->XT,isSubtype_stop->XX,seqItems?->X7,holding->X8,codeAny->Yb,Params->Yj,entry_listiter_next->Ym,wpAny_holding->Yn,entryFor->Yp,plainId_quiet->Yt,Drawn->YD,sliceBounds->YE,wpAny_listSubscript_int->YG,wpAny_newObj_type->YK,wpAny_isOneOf_itemiter->YM,wpAny_mono->YV,wpOwn_mono->Y1,updateSeq->Y4,Program->Y7,wpAny_standAt->Y8,Env->Zb,wpAny_typeNameOfWhole_keyiter->Zg,slicePick_upto'->Zi,wpAny_typeOf->Zu,wpAny_setField_rec->ZC,markedBehindIn->ZJ,Data->ZP,wpAny_dictEntries->ZX,Args->ZZ,swappedStores->Z5
open PySem.Args renaming mk->Yd
open PySem.AutoIntG2 renaming int___pow___int_int_4->Xk
open PySem.AutoIntG4 renaming int___gt___int_int_0->YW
open PySem.AutoIntG7 renaming int___eq___int_int_0->YY
open PySem.AutoIntG9 renaming int___ge___int_int_0->YX
open PySem.AutoRange renaming range_iterator___next___range_iterator_1->ZE
open PySem.Builtin renaming bitAnd->X2,bitNot->ZF,«list.extend.loop»->ZK
open PySem.Builtin.Dict_items renaming ownedTupleIsFree->Yq,pairFromOwner->YN
open PySem.Builtin.List renaming listSubscript?->VY,listExtendWith->Wc,listItems->Wj,listUpdate->Wt,listLengthHint->XS,listFitsIndex->XY,listSameRef->Z7
open PySem.Builtin.Range renaming rangeFitsLong->Wb,rangeSize->YI
open PySem.Builtin.SmallTypes renaming stopIteration->Wa,nextOf->WI,ownedTupleIsFree->Yr
open PySem.Builtin.Str renaming strSliceIndices->W4
open PySem.Code renaming compLoop->S0,call->Vh,builtin->VQ,isCreation->Zh
open PySem.Data renaming fields->YC,dict->Zx
open PySem.ExcName renaming means->Z0
open PySem.F renaming slot_tuple_iterator_next->Wx,slot_dict_itemiterator_next->WT,slot_str_ascii_iterator_next->Xm,entry_range_iterator_next->XR,slot_range_iterator_next->XU,args_dict_itemiterator_next_1->YR,entry_dict_itemiterator_next->Y0,args_tuple_iterator_next_1->Zl,slot_zip_next->Zm,entry_int_pow->Zp,slot_dict_keyiterator_next->Zq,entry_tuple_iterator_next->Zv
open PySem.Flow renaming next->Xf,ret->Xr
open PySem.Heap renaming SameBut->Vq,get?_push_of_some->Vw,lt_size->VN,get?_push_size->VT,size_push->Wm,get?_update_self->YT
open PySem.Heap.SameBut renaming update->VU
open PySem.Obj renaming mapFields->Tc,mapSeq->Vr,mk->Xv
open PySem.PyData renaming int->VX,str->Y3
open PySem.Sem renaming wp->VG,wp_bind'->V0,wp_mono->V8,wp_pure'->Wo
open PySem.Shared renaming TypeIs->Xj
open PySem.Str renaming ofString->SV,mk->VJ,length_append->WV
open PySem.Value renaming type->SW,none->SY,ref->VV,builtin->Wh,isStrOf->Wi,int->WC,isStr->Xu,bool->Xw
open PySem.W renaming hideAll->XQ,hideAll_get->ZU
open PySem.W.X renaming tableObj->We
open PySem.W.X.KT renaming Holds->ZO
open PySem.W.Z renaming oMod->Yu
open Std.Legacy renaming Range->Y5
open Std.Legacy.Range renaming forIn_eq_forIn_range'->X1
open PySem PySem.W PySem.W.X PyProof.Rows
set_option genInjectivity false
set_option genSizeOf false
set_option Elab.async false
set_option tactic.hygienic false
set_option maxRecDepth 100000
set_option maxHeartbeats 0
set_option linter.unusedVariables false
noncomputable section
namespace Mine.Internal
abbrev Sy:=PySem.Obj.mapFields (·.setIfInBounds 0 .none)
abbrev H7(v:PySem.Value):PySem.Result:=.ok (.ret v)
theorem az{b:Type}{a:b}{s t:List b}(h:a∈t):a∈s++t:=VP _ h
theorem bq{b:Type}{a:b}{s t:List b}(h:a∈s):a∈s++t:=List.mem_append_left _ h
theorem ar{n:Nat}:n<=n:=VA _
theorem Sw{a:Type}{Z:List a}:∀p∈Z,p∈Z:=λ_ q=>q
theorem aM{a b:Type}{f:a->b}{l:List a}:(l.map f).length=l.length:=XC f
theorem aP{a:Type}{l:List a}:l++[]=l:=Yv l
theorem aZ{d:Type}{a b c:List d}:a++b++c=a++(b++c):=List.append_assoc a b c
theorem bT{b:Type}{a:b}{l:List b}:(a::l).length=l.length+1:=List.length_cons
theorem mapA{c d:Type}{f:c->d}{a b:List c}:(a++b).map f=a.map f++b.map f:=List.map_append
theorem cc{c d:Type}{f:c->d}{a:c}{b:List c}:(a::b).map f=f a::b.map f:=List.map_cons
theorem bK{c:Type}{a b:c}{l:List c}(h:a∈b::l):a=b\/a∈l:=V2.mp h
theorem bB{b:Type}{a:b}{s t:List b}(h:a∈s++t):a∈s\/a∈t:=VK.mp h
theorem dg{c:Type}{a b:c}(h:a∈[b]):a=b:=Yz.mp h
theorem bO{c d:Type}{f:c->d}{l:List c}{b:d}(h:b∈l.map f):∃a,a∈l/\f a=b:=List.mem_map.mp h
theorem a0{a b G:Prop}(h:a/\b)(k:a->b->G):G:=k h.1 h.2
theorem cK{a b c G:Prop}(h:a/\b/\c)(k:a->b->c->G):G:=a0 h.2<|k h.1
theorem ei{a b c d G:Prop}(h:a/\b/\c/\d)(k:a->b->c->d->G):G:=cK h.2<|k h.1
theorem gb{a b c d e G:Prop}(h:a/\b/\c/\d/\e)(k:a->b->c->d->e->G):G:=ei h.2<|k h.1
theorem lU{a b c d e f G:Prop}(h:a/\b/\c/\d/\e/\f)(k:a->b->c->d->e->f->G):G:=gb h.2<|k h.1
theorem oP{a b c d e f g G:Prop}(h:a/\b/\c/\d/\e/\f/\g)(k:a->b->c->d->e->f->g->G):G:=lU h.2<|k h.1
theorem aw{b:c->Prop}{G:Prop}(h:∃a,b a)(k:∀a,b a->G):G:=h.elim k
theorem fg{c:d->e->Prop}{G:Prop}(h:∃a b,c a b)(k:∀a b,c a b->G):G:=aw h λa h=>aw h<|k a
theorem kC{d:e->f->g->Prop}{G:Prop}(h:∃a b c,d a b c)(k:∀a b c,d a b c->G):G:=aw h λa h=>fg h<|k a
theorem iX{e:f->g->i->j->Prop}{G:Prop}(h:∃a b c d,e a b c d)(k:∀a b c d,e a b c d->G):G:=aw h λa h=>kC h<|k a
theorem nV{f:g->i->j->l->m->Prop}{G:Prop}(h:∃a b c d e,f a b c d e)(k:∀a b c d e,f a b c d e->G):G:=aw h λa h=>iX h<|k a
theorem zj{g:i->j->l->m->n->o->Prop}{G:Prop}(h:∃a b c d e f,g a b c d e f)(k:∀a b c d e f,g a b c d e f->G):G:=aw h λa h=>nV h<|k a
theorem mI{i:j->l->m->n->o->p->q->Prop}{G:Prop}(h:∃a b c d e f g,i a b c d e f g)(k:∀a b c d e f g,i a b c d e f g->G):G:=aw h λa h=>zj h<|k a
theorem aI{b c:d->Prop}{G:Prop}(h:∃a,b a/\c a)(k:∀a,b a->c a->G):G:=aw h λa h=>a0 h<|k a
theorem dB{b c d:e->Prop}{G:Prop}(h:∃a,b a/\c a/\d a)(k:∀a,b a->c a->d a->G):G:=aw h λa h=>cK h<|k a
theorem pL{b c d e:f->Prop}{G:Prop}(h:∃a,b a/\c a/\d a/\e a)(k:∀a,b a->c a->d a->e a->G):G:=aw h λa h=>ei h<|k a
theorem hH{b c d e f:g->Prop}{G:Prop}(h:∃a,b a/\c a/\d a/\e a/\f a)(k:∀a,b a->c a->d a->e a->f a->G):G:=aw h λa h=>gb h<|k a
theorem Bm{b c d e f g:i->Prop}{G:Prop}(h:∃a,b a/\c a/\d a/\e a/\f a/\g a)(k:∀a,b a->c a->d a->e a->f a->g a->G):G:=aw h λa h=>lU h<|k a
theorem cw{c d:e->f->Prop}{G:Prop}(h:∃a b,c a b/\d a b)(k:∀a b,c a b->d a b->G):G:=fg h λa b h=>a0 h<|k a b
theorem bE{c d e:f->g->Prop}{G:Prop}(h:∃a b,c a b/\d a b/\e a b)(k:∀a b,c a b->d a b->e a b->G):G:=fg h λa b h=>cK h<|k a b
theorem oM{c d e f:g->i->Prop}{G:Prop}(h:∃a b,c a b/\d a b/\e a b/\f a b)(k:∀a b,c a b->d a b->e a b->f a b->G):G:=fg h λa b h=>ei h<|k a b
theorem c0{d e:f->g->i->Prop}{G:Prop}(h:∃a b c,d a b c/\e a b c)(k:∀a b c,d a b c->e a b c->G):G:=kC h λa b c h=>a0 h<|k a b c
theorem cQ{d e f:g->i->j->Prop}{G:Prop}(h:∃a b c,d a b c/\e a b c/\f a b c)(k:∀a b c,d a b c->e a b c->f a b c->G):G:=kC h λa b c h=>cK h<|k a b c
theorem pF{d e f g i:j->l->m->Prop}{G:Prop}(h:∃a b c,d a b c/\e a b c/\f a b c/\g a b c/\i a b c)(k:∀a b c,d a b c->e a b c->f a b c->g a b c->i a b c->G):G:=kC h λa b c h=>gb h<|k a b c
theorem nt{e f:g->i->j->l->Prop}{G:Prop}(h:∃a b c d,e a b c d/\f a b c d)(k:∀a b c d,e a b c d->f a b c d->G):G:=iX h λa b c d h=>a0 h<|k a b c d
theorem lY{e f g:i->j->l->m->Prop}{G:Prop}(h:∃a b c d,e a b c d/\f a b c d/\g a b c d)(k:∀a b c d,e a b c d->f a b c d->g a b c d->G):G:=iX h λa b c d h=>cK h<|k a b c d
theorem y5{e f g i j:l->m->n->o->Prop}{G:Prop}(h:∃a b c d,e a b c d/\f a b c d/\g a b c d/\i a b c d/\j a b c d)(k:∀a b c d,e a b c d->f a b c d->g a b c d->i a b c d->j a b c d->G):G:=iX h λa b c d h=>gb h<|k a b c d
theorem iS{f g:i->j->l->m->n->Prop}{G:Prop}(h:∃a b c d e,f a b c d e/\g a b c d e)(k:∀a b c d e,f a b c d e->g a b c d e->G):G:=nV h λa b c d e h=>a0 h<|k a b c d e
theorem xf{f g i:j->l->m->n->o->Prop}{G:Prop}(h:∃a b c d e,f a b c d e/\g a b c d e/\i a b c d e)(k:∀a b c d e,f a b c d e->g a b c d e->i a b c d e->G):G:=nV h λa b c d e h=>cK h<|k a b c d e
theorem qV{f g i j:l->m->n->o->p->Prop}{G:Prop}(h:∃a b c d e,f a b c d e/\g a b c d e/\i a b c d e/\j a b c d e)(k:∀a b c d e,f a b c d e->g a b c d e->i a b c d e->j a b c d e->G):G:=nV h λa b c d e h=>ei h<|k a b c d e
theorem zw{f g i j l:m->n->o->p->q->Prop}{G:Prop}(h:∃a b c d e,f a b c d e/\g a b c d e/\i a b c d e/\j a b c d e/\l a b c d e)(k:∀a b c d e,f a b c d e->g a b c d e->i a b c d e->j a b c d e->l a b c d e->G):G:=nV h λa b c d e h=>gb h<|k a b c d e
theorem zt{f g i j l m:n->o->p->q->r->Prop}{G:Prop}(h:∃a b c d e,f a b c d e/\g a b c d e/\i a b c d e/\j a b c d e/\l a b c d e/\m a b c d e)(k:∀a b c d e,f a b c d e->g a b c d e->i a b c d e->j a b c d e->l a b c d e->m a b c d e->G):G:=nV h λa b c d e h=>lU h<|k a b c d e
theorem NC{i j:l->m->n->o->p->q->r->Prop}{G:Prop}(h:∃a b c d e f g,i a b c d e f g/\j a b c d e f g)(k:∀a b c d e f g,i a b c d e f g->j a b c d e f g->G):G:=mI h λa b c d e f g h=>a0 h<|k a b c d e f g
theorem A8{i j l:m->n->o->p->q->r->s->Prop}{G:Prop}(h:∃a b c d e f g,i a b c d e f g/\j a b c d e f g/\l a b c d e f g)(k:∀a b c d e f g,i a b c d e f g->j a b c d e f g->l a b c d e f g->G):G:=mI h λa b c d e f g h=>cK h<|k a b c d e f g
theorem zV{i j l m n o p:q->r->s->t->u->v->w->Prop}{G:Prop}(h:∃a b c d e f g,i a b c d e f g/\j a b c d e f g/\l a b c d e f g/\m a b c d e f g/\n a b c d e f g/\o a b c d e f g/\p a b c d e f g)(k:∀a b c d e f g,i a b c d e f g->j a b c d e f g->l a b c d e f g->m a b c d e f g->n a b c d e f g->o a b c d e f g->p a b c d e f g->G):G:=mI h λa b c d e f g h=>oP h<|k a b c d e f g
theorem aB{b:d->Prop}(a:d)(c:b a):∃a,b a:=⟨a,c⟩
theorem cG{c:e->f->Prop}(a:e)(b:f)(d:c a b):∃a b,c a b:=⟨a,aB b d⟩
theorem j8{d:f->g->h->Prop}(a:f)(b:g)(c:h)(e:d a b c):∃a b c,d a b c:=⟨a,cG b c e⟩
theorem jy{e:g->h->i->j->Prop}(a:g)(b:h)(c:i)(d:j)(f:e a b c d):∃a b c d,e a b c d:=⟨a,j8 b c d f⟩
theorem iH{f:h->i->j->k->l->Prop}(a:h)(b:i)(c:j)(d:k)(e:l)(g:f a b c d e):∃a b c d e,f a b c d e:=⟨a,jy b c d e g⟩
theorem Es{g:i->j->k->l->m->n->Prop}(a:i)(b:j)(c:k)(d:l)(e:m)(f:n)(h:g a b c d e f):∃a b c d e f,g a b c d e f:=⟨a,iH b c d e f h⟩
theorem Ra{h:j->k->l->m->n->o->p->Prop}(a:j)(b:k)(c:l)(d:m)(e:n)(f:o)(g:p)(i:h a b c d e f g):∃a b c d e f g,h a b c d e f g:=⟨a,Es b c d e f g i⟩
theorem aX{b c:f->Prop}(a:f)(d:b a)(e:c a):∃a,b a/\c a:=aB a ⟨d,e⟩
theorem aY{b c d:h->Prop}(a:h)(e:b a)(f:c a)(g:d a):∃a,b a/\c a/\d a:=aB a ⟨e,f,g⟩
theorem hO{b c d e:j->Prop}(a:j)(f:b a)(g:c a)(h:d a)(i:e a):∃a,b a/\c a/\d a/\e a:=aB a ⟨f,g,h,i⟩
theorem di{b c d e f:l->Prop}(a:l)(g:b a)(h:c a)(i:d a)(j:e a)(k:f a):∃a,b a/\c a/\d a/\e a/\f a:=aB a ⟨g,h,i,j,k⟩
theorem cA{c d:g->h->Prop}(a:g)(b:h)(e:c a b)(f:d a b):∃a b,c a b/\d a b:=cG a b ⟨e,f⟩
theorem dR{c d e:i->j->Prop}(a:i)(b:j)(f:c a b)(g:d a b)(h:e a b):∃a b,c a b/\d a b/\e a b:=cG a b ⟨f,g,h⟩
theorem pT{c d e f:k->l->Prop}(a:k)(b:l)(g:c a b)(h:d a b)(i:e a b)(j:f a b):∃a b,c a b/\d a b/\e a b/\f a b:=cG a b ⟨g,h,i,j⟩
theorem jd{d e f:j->k->l->Prop}(a:j)(b:k)(c:l)(g:d a b c)(h:e a b c)(i:f a b c):∃a b c,d a b c/\e a b c/\f a b c:=j8 a b c ⟨g,h,i⟩
theorem pB{d e f g:l->m->n->Prop}(a:l)(b:m)(c:n)(h:d a b c)(i:e a b c)(j:f a b c)(k:g a b c):∃a b c,d a b c/\e a b c/\f a b c/\g a b c:=j8 a b c ⟨h,i,j,k⟩
theorem i6{d e f g h:n->o->p->Prop}(a:n)(b:o)(c:p)(i:d a b c)(j:e a b c)(k:f a b c)(l:g a b c)(m:h a b c):∃a b c,d a b c/\e a b c/\f a b c/\g a b c/\h a b c:=j8 a b c ⟨i,j,k,l,m⟩
theorem oH{e f:i->j->k->l->Prop}(a:i)(b:j)(c:k)(d:l)(g:e a b c d)(h:f a b c d):∃a b c d,e a b c d/\f a b c d:=jy a b c d ⟨g,h⟩
theorem qr{f g:j->k->l->m->n->Prop}(a:j)(b:k)(c:l)(d:m)(e:n)(h:f a b c d e)(i:g a b c d e):∃a b c d e,f a b c d e/\g a b c d e:=iH a b c d e ⟨h,i⟩
theorem oY{f g h:l->m->n->o->p->Prop}(a:l)(b:m)(c:n)(d:o)(e:p)(i:f a b c d e)(j:g a b c d e)(k:h a b c d e):∃a b c d e,f a b c d e/\g a b c d e/\h a b c d e:=iH a b c d e ⟨i,j,k⟩
theorem A0{f g h i:n->o->p->q->r->Prop}(a:n)(b:o)(c:p)(d:q)(e:r)(j:f a b c d e)(k:g a b c d e)(l:h a b c d e)(m:i a b c d e):∃a b c d e,f a b c d e/\g a b c d e/\h a b c d e/\i a b c d e:=iH a b c d e ⟨j,k,l,m⟩
theorem Rh{f g h i j:p->q->r->s->t->Prop}(a:p)(b:q)(c:r)(d:s)(e:t)(k:f a b c d e)(l:g a b c d e)(m:h a b c d e)(n:i a b c d e)(o:j a b c d e):∃a b c d e,f a b c d e/\g a b c d e/\h a b c d e/\i a b c d e/\j a b c d e:=iH a b c d e ⟨k,l,m,n,o⟩
theorem Cq{f g h i j k:r->s->t->u->v->Prop}(a:r)(b:s)(c:t)(d:u)(e:v)(l:f a b c d e)(m:g a b c d e)(n:h a b c d e)(o:i a b c d e)(p:j a b c d e)(q:k a b c d e):∃a b c d e,f a b c d e/\g a b c d e/\h a b c d e/\i a b c d e/\j a b c d e/\k a b c d e:=iH a b c d e ⟨l,m,n,o,p,q⟩
theorem Ay{h i j:n->o->p->q->r->s->t->Prop}(a:n)(b:o)(c:p)(d:q)(e:r)(f:s)(g:t)(k:h a b c d e f g)(l:i a b c d e f g)(m:j a b c d e f g):∃a b c d e f g,h a b c d e f g/\i a b c d e f g/\j a b c d e f g:=Ra a b c d e f g ⟨k,l,m⟩
theorem vF{a b c:Nat}(h:a+(b+1)=c):a+1+b=c:=(Vt a 1 b).trans h
theorem rI{a b c:Nat}(h:a+(b+1)<=c):a+1+b<=c:=SQ (Th<|Vt a 1 b) h
theorem nN{a b c:Nat}(h:a+(b+1)=c):a<c:=V4 (YB<|Vl b) h
theorem qN{a b c:Nat}(h:a+(b+1)<=c):a+1<=c:=SQ (VC (Vk<|Vc b) a) h
theorem d4{a b c:Nat}(e:a=b)(h:b<=c):a<=c:=e▸h
theorem z2{a b c:Nat}(e:a=b)(h:c<b):c<a:=e▸h
theorem oS{a b c:Nat}(h:b<=c):min a b<=c:=SQ (Nat.min_le_right _ _) h
theorem uN{a b c d k:Nat}(h:a<=5*b)(q:b+d<=c)(e:k<=5*d):a+k<=5*c:=
 SQ (VB h e) (SQ (Th (Nat.mul_add 5 b d).symm)<|V7 5 q)
theorem Nh{b c d k:Nat}(q:b+d<=c)(a:k<=d):b+k<=c:=SQ (VC a b) q
theorem nP{b c d a:Nat}(q:b+d<=c)(k:c<=a):b<=a:=SQ (VI b d)<|SQ q k
theorem Lm{a b c d e k:Nat}(h:a<=5*b)(q:b+d<=e)(r:5*e+k<=c+5*d):a+k<=c:=
 Zy (b:=5*d) (SQ (Th<|Vt a k<|5*d)<|SQ (Tq (SQ (Tq h _)<|SQ (Th (Nat.mul_add 5 b d).symm)<|V7 5 q) k) r)
theorem CI{a b c d e k:Nat}(h:a<=b)(q:b+d<=e)(r:e+k<=c+d):a+k<=c:=
 Zy (b:=d) (SQ (Th<|Vt a k d)<|SQ (Tq (SQ (Tq h _) q) k) r)
theorem tK{b c d e k:Nat}(q:b+d<=e)(r:e+k<=c+d):b+k<=c:=CI (VA b) q r
theorem JE{a b:Nat}(h:a<=5*b+2):a+1<=5*(b+1):=SQ (Vk h)<|VC (by decide:3<=5)<|5*b
theorem zd{n m:Nat}(h:WH n m=true):n<=m:=VL h
noncomputable def xX:Expr:=.Tuple [] 0 ⟨0,0,0,0⟩
def sY:Wq->(Arguments×Scope)×List Expr×Expr×List Wq×List Wq×XT
 | .For t i b o p=>(default,[t],i,b,o,p)
 | .If t b o p=>(default,[],t,b,o,p)
 | .While t b o p=>(default,[],t,b,o,p)
 | .Assign t e p=>(default,t,e,[],[],p)
 | .Return e p=>(default,[],e.getD xX,[],[],p)
 | .Expr e p=>(default,[],e,[],[],p)
 | .ClassDef _ _ _ b .. =>(default,[],xX,b,[],⟨0,0,0,0⟩)
 | .FunctionDef _ a b _ _ _ s _ _ _=>((a,s),[],xX,b,[],⟨0,0,0,0⟩)
 |_=>(default,[],xX,[],[],⟨0,0,0,0⟩)
def sX(s:Wq):List Expr×Expr×List Wq×List Wq×XT:=(sY s).2
def eX:Expr->Expr×List Expr×List XE×Scope×XT
 | .Call f a _ p=>(f,a,[],default,p)
 | .Tuple a _ p=>(xX,a,[],default,p)
 | .Compare l _ r p=>(xX,l::r,[],default,p)
 | .BoolOp _ a p=>(xX,a,[],default,p)
 | .ListComp e g s p=>(e,[e],g,s,p)
 | .GeneratorExp e g s p=>(e,[e],g,s,p)
 | .DictComp e _ g s p=>(e,[],g,s,p)
 | .Name _ p=>(xX,[],[],default,p)
 |_=>(xX,[],[],default,⟨0,0,0,0⟩)
def cR(s:Wq):List Wq:=(sX s).2.2.1
def CC(s:Wq):Arguments×FuncBody×Scope:=((sY s).1.1,.stmts<|cR s,(sY s).1.2)
noncomputable def uZ(l:List Wq)(i:Nat):Wq:=l.getD i<|.Pass default
def fn(i:Nat):Arguments×FuncBody×Scope:=CC<|uZ PySem.Challenge.pw_ph0122_01.main.body i
def mt(i:Nat):Arguments×FuncBody×Scope:=CC<|uZ (cR<|uZ PySem.Challenge.pw_ph0122_01.main.body 9) i
noncomputable abbrev st(s:String)(n:Nat):va:=.str (SV s) n
noncomputable abbrev hk(P:Yj)(s:String):Int:=Tg.keyHash P<|SV s
abbrev de(P:Yj)(s:String)(n:Nat)(v:va):SS:=⟨hk P s,st s n,v⟩
def AF(P:Yj):Nat->List String->List SS
 |_,[]=>[]
 |n,s::l=>de P s n (.builtin s)::AF P (n+1) l
abbrev dG(a b:String)(f:Arguments×FuncBody×Scope)(v u:va)(m:String)(k c:Nat):S9:=.mk (.type "function") .none (.func<|.mk (SV a) (SV b) f.1 f.2.1 f.2.2 3 [] v u .none (st m k) .none (.ref c) .none 0) #[]
abbrev d9(a b:String)(k l c f r:Nat)(o:Bool)(v u:va)(q t:Nat):S9:=.mk (.type "code") .none (.fields #[st a k,st b<|k+1,st "/claim/cut.py"<|k+2,.int l 0,.int c 0,.int 0 0,.int 0 0,.int f 0,.ref r,.bool o,.int 181 0,.ref<|r+1,.none,v,u,.ref q,.int t 0,.int l 0,st "/claim/cut.py"<|t+1]) #[]
def Dc(P:Yj):S9:=Xv (SW "dict") .none (Zx ⟨[de P "__name__" 1<|st "builtins" 160,de P "__doc__" 2<|Wh "builtins.__doc__:str#opaque",de P "__package__" 3<|Wh "builtins.__package__:str#opaque",de P "__loader__" 4<|Wh "builtins.__loader__:shared#opaque",de P "__spec__" 5<|Wh "builtins.__spec__#opaque"]++(AF P 6 ["__build_class__","__import__","abs","all","any","ascii","bin","breakpoint","callable","chr","compile","delattr","dir","divmod","eval","exec","format","getattr","globals","hasattr","hash","hex","id","input","isinstance","issubclass","iter","aiter","len","locals","max","min","next","anext","oct","ord","pow","print","repr","round","setattr","sorted","sum","vars"]++[de P "None" 50 SY,de P "Ellipsis" 51 va.ellipsis,de P "NotImplemented" 52 va.notImplemented,de P "False" 53<|Xw false,de P "True" 54<|Xw true,de P "bool" 55<|SW "bool",de P "memoryview" 56<|SW "memoryview",de P "bytearray" 57<|SW "bytearray",de P "bytes" 58<|SW "bytes",de P "classmethod" 59<|SW "classmethod",de P "complex" 60<|SW "complex",de P "dict" 61<|SW "dict",de P "enumerate" 62<|SW "enumerate",de P "filter" 63<|SW "filter",de P "float" 64<|SW "float",de P "frozenset" 65<|SW "frozenset",de P "property" 66<|SW "property",de P "int" 67<|SW "int",de P "list" 68<|SW "list",de P "map" 69<|SW "map",de P "object" 70<|SW "object",de P "range" 71<|SW "range",de P "reversed" 72<|SW "reversed",de P "set" 73<|SW "set",de P "slice" 74<|SW "slice",de P "staticmethod" 75<|SW "staticmethod",de P "str" 76<|SW "str",de P "super" 77<|SW "super",de P "tuple" 78<|SW "tuple",de P "type" 79<|SW "type",de P "zip" 80<|SW "zip",de P "__debug__" 81<|Xw true,de P "BaseException" 82<|SW "BaseException",de P "BaseExceptionGroup" 83<|SW "BaseExceptionGroup",de P "Exception" 84<|SW "Exception",de P "GeneratorExit" 85<|SW "GeneratorExit",de P "KeyboardInterrupt" 86<|SW "KeyboardInterrupt",de P "SystemExit" 87<|SW "SystemExit",de P "ArithmeticError" 88<|SW "ArithmeticError",de P "AssertionError" 89<|SW "AssertionError",de P "AttributeError" 90<|SW "AttributeError",de P "BufferError" 91<|SW "BufferError",de P "EOFError" 92<|SW "EOFError",de P "ImportError" 93<|SW "ImportError",de P "LookupError" 94<|SW "LookupError",de P "MemoryError" 95<|SW "MemoryError",de P "NameError" 96<|SW "NameError",de P "OSError" 97<|SW "OSError",de P "ReferenceError" 98<|SW "ReferenceError",de P "RuntimeError" 99<|SW "RuntimeError",de P "StopAsyncIteration" 100<|SW "StopAsyncIteration",de P "StopIteration" 101<|SW "StopIteration",de P "SyntaxError" 102<|SW "SyntaxError",de P "SystemError" 103<|SW "SystemError",de P "TypeError" 104<|SW "TypeError",de P "ValueError" 105<|SW "ValueError",de P "Warning" 106<|SW "Warning",de P "FloatingPointError" 107<|SW "FloatingPointError",de P "OverflowError" 108<|SW "OverflowError",de P "ZeroDivisionError" 109<|SW "ZeroDivisionError",de P "BytesWarning" 110<|SW "BytesWarning",de P "DeprecationWarning" 111<|SW "DeprecationWarning",de P "EncodingWarning" 112<|SW "EncodingWarning",de P "FutureWarning" 113<|SW "FutureWarning",de P "ImportWarning" 114<|SW "ImportWarning",de P "PendingDeprecationWarning" 115<|SW "PendingDeprecationWarning",de P "ResourceWarning" 116<|SW "ResourceWarning",de P "RuntimeWarning" 117<|SW "RuntimeWarning",de P "SyntaxWarning" 118<|SW "SyntaxWarning",de P "UnicodeWarning" 119<|SW "UnicodeWarning",de P "UserWarning" 120<|SW "UserWarning",de P "BlockingIOError" 121<|SW "BlockingIOError",de P "ChildProcessError" 122<|SW "ChildProcessError",de P "ConnectionError" 123<|SW "ConnectionError",de P "FileExistsError" 124<|SW "FileExistsError",de P "FileNotFoundError" 125<|SW "FileNotFoundError",de P "InterruptedError" 126<|SW "InterruptedError",de P "IsADirectoryError" 127<|SW "IsADirectoryError",de P "NotADirectoryError" 128<|SW "NotADirectoryError",de P "PermissionError" 129<|SW "PermissionError",de P "ProcessLookupError" 130<|SW "ProcessLookupError",de P "TimeoutError" 131<|SW "TimeoutError",de P "IndentationError" 132<|SW "IndentationError",de P "_IncompleteInputError" 133<|SW "_IncompleteInputError",de P "IndexError" 134<|SW "IndexError",de P "KeyError" 135<|SW "KeyError",de P "ModuleNotFoundError" 136<|SW "ModuleNotFoundError",de P "NotImplementedError" 137<|SW "NotImplementedError",de P "PythonFinalizationError" 138<|SW "PythonFinalizationError",de P "RecursionError" 139<|SW "RecursionError",de P "UnboundLocalError" 140<|SW "UnboundLocalError",de P "UnicodeError" 141<|SW "UnicodeError",de P "BrokenPipeError" 142<|SW "BrokenPipeError",de P "ConnectionAbortedError" 143<|SW "ConnectionAbortedError",de P "ConnectionRefusedError" 144<|SW "ConnectionRefusedError",de P "ConnectionResetError" 145<|SW "ConnectionResetError",de P "TabError" 146<|SW "TabError",de P "UnicodeDecodeError" 147<|SW "UnicodeDecodeError",de P "UnicodeEncodeError" 148<|SW "UnicodeEncodeError",de P "UnicodeTranslateError" 149<|SW "UnicodeTranslateError",de P "ExceptionGroup" 150<|SW "ExceptionGroup",de P "EnvironmentError" 151<|SW "OSError",de P "IOError" 152<|SW "OSError",de P "open" 153<|Wh "open",de P "quit" 154<|Wh "builtins.quit#opaque",de P "exit" 155<|Wh "builtins.exit#opaque",de P "copyright" 156<|Wh "builtins.copyright#opaque",de P "credits" 157<|Wh "builtins.credits#opaque",de P "license" 158<|Wh "builtins.license#opaque",de P "help" 159<|Wh "builtins.help#opaque"])⟩ 159) #[]
noncomputable def zX:S9:=Xv SY .none (Zx #[] 0) #[]
def oT(P:Yj):S9:=Xv (SW "dict") .none (Zx #[de P "__name__" 165<|st "law_ph0122_01" 330,de P "__doc__" 166 SY,de P "__package__" 167 SY,de P "__loader__" 168<|Wh "__main__.__loader__#opaque",de P "__spec__" 169 SY,de P "__annotations__" 170<|.ref 6,de P "__builtins__" 171<|.ref 4,de P "__file__" 173<|st "/claim/cut.py" 172,de P "__cached__" 174 SY,de P "add_func_stats" 206<|.ref 21,de P "add_callers" 217<|.ref 28,de P "count_calls" 226<|.ref 35,de P "insort_right" 241<|.ref 44,de P "bisect_right" 255<|.ref 53,de P "bisect_left" 269<|.ref 62,de P "_netrclex" 329<|.ref 100,de P "_law_reader" 341<|.ref 111,de P "_law_need" 348<|.ref 118,de P "_law_line" 358<|.ref 125,de P "_law_run" 364<|.ref 130,de P "_law_ledger" 370<|.ref 135,de P "_law_firsts" 376<|.ref 140,de P "_law_sums" 382<|.ref 145,de P "_law_added" 388<|.ref 150,de P "_law_same" 394<|.ref 155,de P "_law_fits" 400<|.ref 160,de P "_law_shares" 406<|.ref 165,de P "_law_text" 421<|.ref 172,de P "law" 427<|.ref 177] 29) #[]
noncomputable def Dx:S9:=Xv (SW "module") (Wl 0) ZP.plain #[]
def zK:S9:=Xv (SW "code") .none (YC #[st "<module>" 176,st "<module>" 177,st "/claim/cut.py" 178,.int 1 0,.int 0 0,.int 0 0,.int 0 0,.int 0 0,.ref 7,Xw false,.int 175 0,.ref 8,SY,SY,SY,SY,.int 179 0,.int 1 0,st "/claim/cut.py" 180]) #[]
def zU:S9:=Xv (SW "code") .none (YC #[st "<module>" 182,st "<module>" 183,st "/claim/cut.py" 184,.int 1 0,.int 0 0,.int 0 0,.int 0 0,.int 0 0,.ref 11,Xw false,.int 181 0,.ref 12,SY,SY,SY,SY,.int 185 0,.int 1 0,st "/claim/cut.py" 186]) #[]
def B7:S9:=d9 "add_func_stats" "add_func_stats" 189 2 2 3 15 .true (.ref 17) (.ref 18) 19 204
def C7:S9:=dG "add_func_stats" "add_func_stats" (fn 1) SY SY "cpy313.pstats" 187 20
noncomputable def DR:S9:=Xv SY .none (YC #[]) #[]
def rr:S9:=d9 "add_callers" "add_callers" 207 6 2 3 22 .true (.ref 24) (.ref 25) 26 215
def yi:S9:=dG "add_callers" "add_callers" (fn 2) SY SY "cpy313.pstats" 187 27
def Dk:S9:=d9 "count_calls" "count_calls" 218 19 1 3 29 .true (.ref 31) (.ref 32) 33 224
def yf:S9:=dG "count_calls" "count_calls" (fn 3) SY SY "cpy313.pstats" 187 34
noncomputable def DI:S9:=Xv (SW "tuple") .none (ZP.seq #[.int 0 229,SY] 0) #[]
def zy(P:Yj):S9:=Xv (SW "dict") .none (Zx #[de P "key" 230 SY] 1) #[]
def DP:S9:=Xv (SW "code") .none (YC #[st "insort_right" 231,st "insort_right" 232,st "/claim/cut.py" 233,.int 25 0,.int 4 0,.int 0 0,.int 1 0,.int 3 0,.ref 38,Xw true,.int 181 0,.ref 39,SY,.ref 40,.ref 41,.ref 42,.int 239 0,.int 25 0,st "/claim/cut.py" 240]) #[]
def yS:S9:=dG "insort_right" "insort_right" (fn 5) (.ref 36) (.ref 37) "cpy313.bisect" 227 43
noncomputable def Ap:S9:=Xv (SW "tuple") .none (ZP.seq #[.int 0 242,SY] 0) #[]
def Cn(P:Yj):S9:=Xv (SW "dict") .none (Zx #[de P "key" 243 SY] 1) #[]
def Di:S9:=Xv (SW "code") .none (YC #[st "bisect_right" 244,st "bisect_right" 245,st "/claim/cut.py" 246,.int 31 0,.int 4 0,.int 0 0,.int 1 0,.int 3 0,.ref 47,Xw true,.int 181 0,.ref 48,SY,.ref 49,.ref 50,.ref 51,.int 253 0,.int 31 0,st "/claim/cut.py" 254]) #[]
def ze:S9:=dG "bisect_right" "bisect_right" (fn 6) (.ref 45) (.ref 46) "cpy313.bisect" 227 52
noncomputable def yQ:S9:=Xv (SW "tuple") .none (ZP.seq #[.int 0 256,SY] 0) #[]
def yq(P:Yj):S9:=Xv (SW "dict") .none (Zx #[de P "key" 257 SY] 1) #[]
def Cw:S9:=Xv (SW "code") .none (YC #[st "bisect_left" 258,st "bisect_left" 259,st "/claim/cut.py" 260,.int 51 0,.int 4 0,.int 0 0,.int 1 0,.int 3 0,.ref 56,Xw true,.int 181 0,.ref 57,SY,.ref 58,.ref 59,.ref 60,.int 267 0,.int 51 0,st "/claim/cut.py" 268]) #[]
def DE:S9:=dG "bisect_left" "bisect_left" (fn 7) (.ref 54) (.ref 55) "cpy313.bisect" 227 61
def xS:S9:=d9 "__init__" "_netrclex.__init__" 284 74 2 3 70 .true (.ref 72) (.ref 73) 74 289
def As:S9:=dG "__init__" "_netrclex.__init__" (mt 0) SY SY "cpy313.netrc" 270 75
def z4:S9:=d9 "_read_char" "_netrclex._read_char" 292 80 1 3 77 .true (.ref 79) (.ref 80) 81 297
def y7:S9:=dG "_read_char" "_netrclex._read_char" (mt 1) SY SY "cpy313.netrc" 270 82
def yI:S9:=d9 "get_token" "_netrclex.get_token" 300 86 1 3 84 .true (.ref 86) (.ref 87) 88 307
def CS:S9:=dG "get_token" "_netrclex.get_token" (mt 2) SY SY "cpy313.netrc" 270 89
def Ds:S9:=d9 "push_token" "_netrclex.push_token" 310 113 2 3 91 .true (.ref 93) (.ref 94) 95 315
def AJ:S9:=dG "push_token" "_netrclex.push_token" (mt 3) SY SY "cpy313.netrc" 270 96
def zA(P:Yj):S9:=Xv (SW "dict") .none (Zx #[de P "__module__" 279<|st "cpy313.netrc" 270,de P "__firstlineno__" 283<|.int 72 282,de P "__init__" 291<|.ref 76,de P "_read_char" 299<|.ref 83,de P "get_token" 309<|.ref 90,de P "push_token" 317<|.ref 97,de P "__static_attributes__" 322<|.ref 98,de P "__dict__" 324<|.ref 101,de P "__weakref__" 326<|.ref 102,de P "__doc__" 327 SY] 4) #[]
def Dw:S9:=Xv (SW "type") .none (ZP.cls<|ClassData.mk "_netrclex" [SW "object"] [.ref 100,SW "object"] 99 "_netrclex" true [] [] false .none false) #[.none,.none,Wl<|st "_netrclex" 272,Wl<|st "_netrclex" 280,Wl<|Wh "object.__new__",Wl<|Xw true]
noncomputable def yR:S9:=Xv SY .none (YC #[]) #[]
def tN:S9:=d9 "_law_reader" "_law_reader" 332 116 1 3 105 .true (.ref 107) (.ref 108) 109 339
def BP:S9:=dG "_law_reader" "_law_reader" (fn 11) SY SY "law_ph0122_01" 330 110
def ya:S9:=d9 "_law_need" "_law_need" 342 126 1 3 112 .true (.ref 114) (.ref 115) 116 346
def xZ:S9:=dG "_law_need" "_law_need" (fn 12) SY SY "law_ph0122_01" 330 117
def yw:S9:=d9 "_law_line" "_law_line" 349 128 1 3 119 .true (.ref 121) (.ref 122) 123 356
def yY:S9:=dG "_law_line" "_law_line" (fn 13) SY SY "law_ph0122_01" 330 124
def DJ:S9:=d9 "_law_run" "_law_run" 359 134 3 3 126 .true SY SY 128 362
def Dr:S9:=dG "_law_run" "_law_run" (fn 14) SY SY "law_ph0122_01" 330 129
def xR:S9:=d9 "_law_ledger" "_law_ledger" 365 150 2 3 131 .true SY SY 133 368
def zL:S9:=dG "_law_ledger" "_law_ledger" (fn 15) SY SY "law_ph0122_01" 330 134
def yG:S9:=d9 "_law_firsts" "_law_firsts" 371 163 1 3 136 .true SY SY 138 374
def CZ:S9:=dG "_law_firsts" "_law_firsts" (fn 16) SY SY "law_ph0122_01" 330 139
def BO:S9:=d9 "_law_sums" "_law_sums" 377 165 1 3 141 .true SY SY 143 380
def Aw:S9:=dG "_law_sums" "_law_sums" (fn 17) SY SY "law_ph0122_01" 330 144
def zi:S9:=d9 "_law_added" "_law_added" 383 170 2 3 146 .true SY SY 148 386
def CW:S9:=dG "_law_added" "_law_added" (fn 18) SY SY "law_ph0122_01" 330 149
def DQ:S9:=d9 "_law_same" "_law_same" 389 177 2 3 151 .true SY SY 153 392
def Df:S9:=dG "_law_same" "_law_same" (fn 19) SY SY "law_ph0122_01" 330 154
def BI:S9:=d9 "_law_fits" "_law_fits" 395 188 2 3 156 .true SY SY 158 398
def ym:S9:=dG "_law_fits" "_law_fits" (fn 20) SY SY "law_ph0122_01" 330 159
def yP:S9:=d9 "_law_shares" "_law_shares" 401 194 2 3 161 .true SY SY 163 404
def Dd:S9:=dG "_law_shares" "_law_shares" (fn 21) SY SY "law_ph0122_01" 330 164
def Cg:S9:=d9 "_law_text" "_law_text" 407 201 2 3 166 .true (.ref 168) (.ref 169) 170 419
def x9:S9:=dG "_law_text" "_law_text" (fn 22) SY SY "law_ph0122_01" 330 171
def CF:S9:=d9 "law" "law" 422 211 1 3 173 .true SY SY 175 425
def Bf:S9:=dG "law" "law" (fn 23) SY SY "law_ph0122_01" 330 176
noncomputable def pJ:List Nat:=[0,2,3,4,9,13,20,21,23,27,28,34,35,36,37,43,44,45,46,52,53,54,55,61,62,75,76,82,83,89,90,96,97,99,100,106,110,111,117,118,124,125,129,130,134,135,139,140,144,145,149,150,154,155,159,160,164,165,171,172,176,177]
def mU(P:Yj):Frag:=[(0,Dc P),(2,zX),(3,oT P),(4,Dx),(9,zK),(13,zU),(20,B7),(21,C7),(23,DR),(27,rr),(28,yi),(34,Dk),(35,yf),(36,DI),(37,zy P),(43,DP),(44,yS),(45,Ap),(46,Cn P),(52,Di),(53,ze),(54,yQ),(55,yq P),(61,Cw),(62,DE),(75,xS),(76,As),(82,z4),(83,y7),(89,yI),(90,CS),(96,Ds),(97,AJ),(99,zA P),(100,Dw),(106,yR),(110,tN),(111,BP),(117,ya),(118,xZ),(124,yw),(125,yY),(129,DJ),(130,Dr),(134,xR),(135,zL),(139,yG),(140,CZ),(144,BO),(145,Aw),(149,zi),(150,CW),(154,DQ),(155,Df),(159,BI),(160,ym),(164,yP),(165,Dd),(171,Cg),(172,x9),(176,CF),(177,Bf)]
def jw(P:Yj):KT:=.node (some<|Dc P) (.node none (.node (some<|oT P) (.node none (.node none (.node none .nil<|.node none (.node (some<|BI) .nil .nil) .nil)<|.node none .nil<|.node (some<|BP) .nil .nil)<|.node (some<|DR) (.node none (.node none (.node (some<|zL) .nil .nil) .nil) .nil)<|.node (some<|yq P) .nil .nil)<|.node none (.node none (.node (some<|yf) .nil<|.node (some<|zA P) .nil .nil)<|.node none (.node (some<|y7) .nil .nil) .nil)<|.node (some<|rr) (.node (some<|DP) (.node (some<|xS) (.node (some<|yG) .nil .nil) .nil)<|.node none (.node (some<|Cg) .nil .nil) .nil)<|.node none (.node none (.node (some<|Df) .nil .nil) .nil) .nil)<|.node none (.node (some<|zK) (.node none (.node none (.node none (.node (some<|DJ) .nil .nil) .nil)<|.node (some<|AJ) .nil .nil)<|.node none (.node none (.node (some<|Aw) .nil .nil) .nil)<|.node none (.node (some<|Bf) .nil .nil) .nil)<|.node none .nil<|.node none (.node (some<|yI) .nil .nil) .nil)<|.node (some<|zU) (.node (some<|C7) (.node (some<|zy P) .nil<|.node none (.node (some<|Dd) .nil .nil) .nil)<|.node (some<|ze) (.node none (.node (some<|zi) .nil .nil) .nil)<|.node (some<|ya) .nil .nil)<|.node none (.node (some<|Ap) .nil .nil)<|.node (some<|Cw) .nil<|.node (some<|yY) .nil .nil)<|.node (some<|zX) (.node (some<|Dx) (.node none (.node none (.node none .nil<|.node (some<|Ds) (.node (some<|ym) .nil .nil) .nil)<|.node none (.node none (.node (some<|BO) .nil .nil) .nil)<|.node none (.node (some<|CF) .nil .nil) .nil) .nil)<|.node none (.node (some<|B7) (.node (some<|DI) .nil<|.node (some<|Dw) (.node (some<|yP) .nil .nil) .nil)<|.node (some<|Di) .nil .nil)<|.node (some<|yi) (.node (some<|yS) (.node (some<|As) (.node (some<|CZ) .nil .nil) .nil)<|.node none (.node (some<|x9) .nil .nil) .nil)<|.node none .nil<|.node (some<|yw) .nil .nil)<|.node none (.node none (.node none (.node (some<|Dk) (.node none (.node (some<|Dr) .nil .nil) .nil) .nil)<|.node none (.node (some<|z4) .nil .nil) .nil)<|.node none (.node none .nil<|.node (some<|yR) .nil .nil)<|.node none (.node (some<|CS) (.node (some<|DQ) .nil .nil) .nil) .nil)<|.node none (.node none (.node none (.node none (.node (some<|xR) .nil .nil) .nil) .nil)<|.node (some<|yQ) (.node none (.node (some<|CW) .nil .nil) .nil)<|.node (some<|xZ) .nil .nil)<|.node none (.node (some<|Cn P) .nil<|.node (some<|tN) .nil .nil)<|.node (some<|DE) .nil .nil
noncomputable def qv:Y7:=view PySem.Challenge.pw_ph0122_01 [1,2,3,9,11,12,13,14,15,16,17,18,19,20,21,22,23]
noncomputable def B1:List SX:=["insort_right","bisect_right","bisect_left"]
theorem left:LeftO PySem.Challenge.pw_ph0122_01 qv B1 (λs=>xlAt qv [] s&&recOk (RowW.records<|OpenRow.toRowW (PySem.Challenge.rw_ph0122_01).row) s) (obsZ pJ) (valZ mU 178 428) 2024:=by
 intro w;kernel_rfl
noncomputable def Du:Td->VM PySem.Fin:=PySem.W.ZFast.zw11892475500146522536 PySem.W.ZFast.tableZ
theorem JU:denote table=Du:=by
 show PySem.denote table=_;rw[PySem.W.ZFast.ze11892475500146522536,PySem.W.ZFast.tableZ_eq];rfl
noncomputable def callU(e:WO)(a:FuncData)(d:ZZ):VM PySem.Fin:=do
 match a.code with
 | .ref c=>
  match<-field (.ref c) 1 with
  | .str q _=>
   let env<-newFunctionEnv a.scope a.globals a.closure (<-bindArgs a d) (q++".<locals>.") (some e) (.ref c) none a.builtins;let limit<-XI
   if Xa limit Vv then
    match a.body,a.scope.isGenerator,a.scope.isCoroutine with
    | .stmts b,false,false=>again<|.func b env
    |_,_,_=>unsupported "mine"
   else unsupported "mine"
  |_=>unsupported "mine"
 |_=>unsupported "mine"
lay_z callU
theorem JF{A:Wr}{a:Ctx}{Q:Unit->XT->Tf->Prop}{E:va->XT->Tf->Prop}(d:a.In A)(g:A.depth<Vv)
  (h:VG M a XI (λl b c=>l=Vv/\Q () b c) E p s):VG M a enterFrame Q E p s:=by
 have o:((((a.code,p)::a.below).map (·.1)).map (·.frames)).sum+((((a.code,p)::a.below).map (·.1)).filter Zh).length<Vv:=by
  have i:=frameCount_ge ((a.code,p)::a.below);rw[frameCount_cons] at i;have:=d.2.1;lia
 have j:¬((((a.code,p)::a.below).map (·.1)).map (·.frames)).sum≥Vv:=by lia
 have k:¬((((a.code,p)::a.below).map (·.1)).map (·.frames)).sum+((((a.code,p)::a.below).map (·.1)).filter Zh).length≥Vv:=by lia
 unfold enterFrame;rw[V0];show VG M a (XI>>=_) _ _ p s;rw[V0];show VG M a XI _ _ p s;refine V8 M a _ ?_ (λf f f x=>x) p s h;rintro l b c e;refine a0 e λn m=>?_;clear e;subst n
 show VG M a (if nearTheLimitUnderAClaim (((a.code,p)::a.below).map (·.1)) (((((a.code,p)::a.below).map (·.1)).map (·.frames)).sum+((((a.code,p)::a.below).map (·.1)).filter Zh).length) Vv=true then _ else _) _ _ b c;rw[if_neg<|by rw[not_nearTheLimit d g];exact Vx];show VG M a (if((((a.code,p)::a.below).map (·.1)).map (·.frames)).sum≥Vv then _ else _) _ _ b c;rw[if_neg j];show VG M a (if((((a.code,p)::a.below).map (·.1)).map (·.frames)).sum+((((a.code,p)::a.below).map (·.1)).filter Zh).length≥Vv then _ else _) _ _ b c;rw[if_neg k];exact m
theorem lR{c i j:Type}{E:va->XT->Tf->Prop}{t:VM c}{f:c->VM i}{g:c->VM j}{Q:i->XT->Tf->Prop}{d:j->XT->Tf->Prop}(h:VG M b (t>>=g) d E p s)(k:∀a p s,VG M b (g a) d E p s->VG M b (f a) Q E p s):VG M b (t>>=f) Q E p s:=by
 rw[V0] at h⊢;exact V8 _ b _ k (λe e e h=>h) p s h
theorem RW{A:Wr}{g:Ctx}{s:Tf}{Q:PySem.Fin->XT->Tf->Prop}{E:va->XT->Tf->Prop}{o:S9}
  (z:s.heap.get? f=some o) (w:o.data= .func d) (B:g.In A) (u:A.depth<Vv) (h:VG M g (callU f d m) Q E p s):VG M g (callAny (.ref f) m) Q E p s:=by
 unfold callAny;rw[V0,VM.wp_load_of _ _ _ _ _ z];rw[w];dsimp only;unfold callU at h;unfold callFunction;generalize I:d.code=c at h⊢;cases c with
 |ref G=>
  refine lR h λv J O i=>?_
  (try dsimp only at i);(try dsimp only)
  cases v with
  |str q _=>
   try dsimp only
   rw[Z8];refine lR i λF L P n=>?_
   (try dsimp only at n);(try dsimp only)
   refine lR n λH C D j=>?_
   (try dsimp only at j);(try dsimp only)
   rw[V0] at j⊢;refine JF B u<|V8 M g _ ?_ (λt t t x=>x) C D j;intro l N R a;split at a
   ·rename_i y
    refine⟨XJ y,?_⟩;cases e:d.body with
    |stmts b=>cases k:d.scope.isGenerator with
     |false=>cases r:d.scope.isCoroutine with
      |false=>rw[e,k,r] at a;exact a
      |true=>rw[e,k,r] at a;exact absurd a λx=>x
     |true=>rw[e,k] at a;exact absurd a λx=>x
    |_=>rw[e] at a;exact absurd a λx=>x
   ·exact absurd a<|by show ¬False;exact λx=>x
  |_=>exact absurd i<|by show ¬False;exact λx=>x
 |_=>exact absurd h<|by show ¬False;exact λx=>x
section
variable{M:Model}{A:Wr}{E:va->Tf->Prop}{s:Tf}{α β:Type}{Q:β->Tf->Prop}
theorem bF{f:va->VM β}(e:s.heap.get? a=some o)(c:o.data= .fields b)(d:b[i]?=some x)(h:To M A (f x) Q E s):To M A (field (.ref a) i>>=f) Q E s:=SU<|wpAny_field e c d h
theorem bI{f:Option (Array va)->VM β}(d:s.heap.get? a=some o)(c:o.data= .seq b n)(h:To M A (f<|some b) Q E s):To M A (X7 (.ref a)>>=f) Q E s:=SU<|wpAny_seqItems d c h
theorem bR{f:Unit->VM β}(h:To M A (f ()) Q E s):To M A (rule t>>=f) Q E s:=SU<|wpAny_rule h
theorem bP{f:α->VM β}(h:To M A (f a) Q E s):To M A (pure a>>=f) Q E s:=SU<|Te h
theorem bL{f:Unit->VM β}(h:To M A (f ()) Q E s):To M A (letGo r k>>=f) Q E s:=SU<|wpAny_letGo h
theorem bS{f:Unit->VM β}(e:s.heap.get? a=some o)(c:o.data= .fields b)(d:i<b.size)(h:To M A (f ()) Q E {s with heap:=s.heap.update a (Tc (·.setIfInBounds i x))}):To M A (setField (.ref a) i x>>=f) Q E s:=SU<|wpAny_setField e c d h
theorem bA{f:Except va α->VM β}(h:To M A m (λa s=>To M A (f<|.ok a) Q E s) (λe s=>To M A (f<|.error e) Q E s) s):To M A (m.attempt>>=f) Q E s:=SU<|wpAny_attempt h
theorem bH{f:α->VM β}(h:To M A m (λa s=>To M A (f a) Q E s) E s):To M A (X8 b m>>=f) Q E s:=SU<|Yn h
theorem kL{w:W5}{c:Array va}{f:Unit->VM β}(g:s.heap.get? a=some {cls:=d,dict:=none,data:=.fields c,slots:= #[]})(hk:k<c.size)
  (h:∀b,b.get? a=some {cls:=d,dict:=none,data:=.fields<|c.setIfInBounds k x,slots:= #[]}->Vq a s.heap b->To (Vy e w) A (f ()) Q E {s with heap:=b}):To (Vy e w) A (setField (.ref a) k x>>=f) Q E s:=SU<|ZC g hk h
end
section
variable{M:Model}{A:Wr}{E:va->Tf->Prop}{s:Tf}{α:Type}{Q:α->Tf->Prop}{c:Prop}[Decidable c]{a b:VM α}
theorem wN(h:¬c)(k:To M A b Q E s):To M A (if c then a else b) Q E s:=by rw[if_neg h];exact k
theorem wP(h:c)(k:To M A a Q E s):To M A (if c then a else b) Q E s:=by rw[if_pos h];exact k
end
noncomputable def Dn:WO->FuncData->ZZ->VM PySem.Fin:=PySem.W.ZFast.zw8440968065755401671
theorem RL:@callU=Dn:=PySem.W.ZFast.ze8440968065755401671
noncomputable def notCaller(c:Td):Bool:=match c with
 | .builtin id _=>!(id=="claim.caller")
 |_=>true
lay_z notCaller
noncomputable abbrev Led:=List<|WO×S9
inductive Ko where
 |base
 |ret (c:Td) (k:Vz->VM PySem.Fin) (a:Ko)
noncomputable def wt:Td->Nat
 | .func .. =>1
 | .expr .. =>1
 | .body .. =>1
 | .compStart .. =>1
 | .compLoop .. =>1
 | .builtin .. =>5
 | .call .. =>1
 |_=>0
theorem qO(h:r<2):r=0\/r=1:=(Yo.mp h).imp Nat.lt_one_iff.mp id
theorem nT(h:r<3):r=0\/r=1\/r=2:=(Yo.mp h).elim (λh=>(qO h).imp id .inl) λe=>.inr<|.inr e
theorem eg(h:r<4):r=0\/r=1\/r=2\/r=3:=(Yo.mp h).elim (λh=>(nT h).imp id<|Or.imp id .inl) λe=>.inr<|.inr<|.inr e
theorem kJ(h:1<=n):n=n-1+1:=(Wd h).symm
theorem sL(h:4<=n):n=n-4+4:=(Wd h).symm
theorem yO(h:a<b):b-a=b-(a+1)+1:=(Nat.succ_pred_eq_of_pos<|Nat.sub_pos_of_lt h).symm
theorem r9{m k:Nat}(h:4-(m:Int)<=k):4<=m+k:=W2.mp<|Int.le_add_of_sub_left_le h
theorem xw{m k:Nat}(h:4<=m+k):4-(m:Int)<=k:=Int.sub_left_le_of_le_add<|W2.mpr h
theorem Jr{m k:Nat}(h:4-(m:Int)<=k):4-m-k=0:=by rw[Nat.sub_sub];exact YS<|r9 h
theorem H0{m k:Nat}(h:4-(m:Int)<=k):4-m-(k+1)=0:=by rw[Nat.sub_sub];exact YS<|Ve<|r9 h
theorem Ho{m k:Nat}(h:¬4-(m:Int)<=k):4-m-k=4-m-(k+1)+1:=yO<|Nat.lt_sub_of_add_lt<|Ww m k▸Nat.lt_of_not_le λq=>h<|xw q
theorem Lo{m k:Nat}(h:4-m<=k):4-(m:Int)<=k:=xw<|Nat.sub_le_iff_le_add'.mp h
theorem Rf{m k:Nat}(h:¬4-m<=k):¬4-(m:Int)<=k:=λq=>h<|Nat.sub_le_iff_le_add'.mpr<|r9 q
theorem Ki{q:Int}{i k:Nat}(a:q % 4=i):(((k:Int)+q) % 4).toNat=(i+k) % 4:=by
 have e:((k:Int)+q) % 4=((i+k) % 4:Nat):=by
  rw[Int.add_comm,<-Int.emod_add_emod,a];rfl
 rw[e];rfl
theorem Gp{a b c d e f g h i j k l:Int}:a+(b+(c+(d+0)))+(e+(f+(g+(h+0))))+(i+(j+(k+(l+0))))=a+(e+(i+0))+(b+(f+(j+0)))+(c+(g+(k+0)))+(d+(h+(l+0))):=by grind
theorem Hk(h:a+b+c=n):a<n+1:=Nat.lt_succ_of_le<|h▸SQ (VI _ _) (VI _ _)
theorem JC(h:a+b+c=n):b<n+1-a:=Nat.lt_sub_of_add_lt<|Nat.lt_succ_of_le<|h▸Ww b a▸VI _ _
theorem Su{n a b c:Nat}(h:a+b+c=n):n-a-b=c:=by rw[<-h,Nat.sub_sub,Z9]
theorem L5{x y z:Int}{a b c:Nat}(e:x<y\/(x=y/\a<b))(d:y<z\/(y=z/\b<c)):x<z\/(x=z/\a<c):=
 e.elim (λp=>.inl<|d.elim (Int.lt_trans p) λq=>q.1▸p) λp=>d.elim (λq=>.inl<|p.1▸q) λq=>.inr ⟨p.1.trans q.1,YJ p.2 q.2⟩
theorem rg{x:Int}(h:x=0\/x=1):0<=x/\x<=1:=by
 rcases h with rfl|rfl<;>decide
theorem IU{x y z:Int}(a:x=0\/x=1)(b:y=0\/y=1)(c:z=0\/z=1):0<=x+(y+(z+0))/\x+(y+(z+0))<4:=by
 rcases a with rfl|rfl<;>rcases b with rfl|rfl<;>rcases c with rfl|rfl<;>decide
theorem Qm{x y z u:Int}(a:x=0\/x=1)(b:y=0\/y=1)(c:z=0\/z=1)(d:u=0\/u=1):0<=x+(y+(z+(u+0))):=
 ZD (rg a).1 (ZD (rg b).1<|ZD (rg c).1<|ZD (rg d).1<|Int.le_refl 0)
theorem M6(y:Nat):((y:Int)-1).toNat=y-1:=Int.toNat_sub y 1
theorem wd(h:n=4)(a:4<=m):n-k<=m:=SQ (Nat.sub_le _ _)<|h▸a
theorem Nw(h:B+4*(n+1)<=900):B+4+4*n<=900:=by rw[Wu,Ww 4];exact h
theorem Sb(h:B+4*(n+1)<=900)(e:l=4):B+(l-k)<=900:=SQ (VC (wd e<|Nat.le_mul_of_pos_right 4<|Vl n) B) h
theorem Rm{B n:Nat}(h:B+(n+1)<=900):B+1+n<=900:=by rw[Wu,Ww 1];exact h
theorem BH{B n k:Nat}(h:B+n<=900)(e:k<=B):k<=900:=SQ e<|SQ (VI _ _) h
theorem Qf{k n:Nat}(a:1<=k)(b:k<4):k=1\/k=2\/k=3:=(eg b).elim (λe=>absurd a<|e▸by decide) id
theorem q8(h:k+(n+1)=4):k+1+n=4:=by rw[Vt];exact h
theorem si(h:n<=4):((4-n:Nat):Int)=4-n:=Int.ofNat_sub h
theorem FX{n m i:Nat}(h:¬4-(n:Int)<m)(q:4-m<=i):n<=i:=SQ (Nat.le_sub_of_add_le<|Ww n m▸W2.mp (Zz<|V5.mp h)) q
theorem nL{a b c d:Nat}:a+b+c+d=b+c+d+a:=by ac_rfl
theorem Mp{c:Prop}{d:Decidable c}{a:c->Nat}{b:¬c->Nat}(e:∀h,a h<=3)(f:∀h,b h<=3):@dite Nat c d a b<=3:=by
 cases d with
 |isTrue h=>exact e h
 |isFalse h=>exact f h
theorem mv{c:Prop}{d:Decidable c}:@ite Nat c d 1 0<=1:=match d with
 | .isTrue _=>VA _
 | .isFalse _=>Vc _
theorem CO(id:String)(a:ZZ):(VQ id a).frames<=3:=by
 unfold Td.frames;delta Td.frames.match_1;dsimp only;iterate 9 refine Mp (λh=>by subst h;decide) (λh=>?_)
 exact SQ mv (zd rfl)
theorem yT(c:Td)(h:notCaller c=true):c.weight<=wt c:=by
 cases c with
 |builtin id b=>
  have hk:(VQ id b).isCaller=false:=by
   unfold Td.isCaller;delta Td.isCaller.match_1;dsimp only;exact dif_neg λe=>by subst e;exact absurd (show(!("claim.caller"=="claim.caller"))=true from h)<|by decide
  unfold Td.weight;rw[hk];exact VB (VB (VB (CO id b) mv) mv)<|VA 0
 |compStart e d i a g=>exact mv
 |compLoop e d i a g=>exact mv
 |call f a=>exact Vc _
 |_=>exact VA _
theorem units_le(c:Td)(h:notCaller c=true):c.cUnits<=5*wt c:=by
 cases c with
 |builtin id j=>
  have k:=CO id j;exact SQ (VC (V7 3 k) 1) (by decide:1+3*3<=25)
 |call f a=>exact(by decide:1<=5)
 |compStart e d i a g=>exact SQ (V7 3 mv) (by decide:3*1<=5)
 |compLoop e d i a g=>exact SQ (V7 3 mv) (by decide:3*1<=5)
 |func b g=>exact(by decide:3<=5)
 |expr b g=>exact(by decide:3<=5)
 |body b g=>exact(by decide:3<=5)
 |_=>exact Vc _
def Ko.jF:Ko->Nat
 | .base=>0
 | .ret c _ a=>wt c+a.jF
def Ko.Ok:Ko->Prop
 | .base=>True
 | .ret c _ a=>notCaller c=true/\a.Ok
noncomputable def A2(n:Nat):Nat->Bool:=Nat.rec (motive:=λc=>Nat->Bool) (λa=>Nat.rec (motive:=λc=>Bool) true (λc c=>false) a) (λc d a=>Nat.rec (motive:=λc=>Bool) false (λb c=>d b) a) n
theorem x5:∀{n a:Nat},A2 n a=true->a=n
 |0,0,_=>rfl
 |0,_+1,h=>Bool.noConfusion (h:false=true)
 |_+1,0,h=>Bool.noConfusion (h:false=true)
 |n+1,a+1,h=>congrArg Za<|x5 (n:=n) (a:=a) h
noncomputable def setAt:Led->Nat->S9->Led
 |[],_,_=>[]
 |p::l,0,o=>(p.1,o)::l
 |p::l,i+1,o=>p::setAt l i o
theorem iD:∀(l:Led) (i:Nat) (o:S9),(setAt l i o).map (·.1)=l.map (·.1):=by
 intro l;induction l with
 |nil=>intro b b;exact rfl
 |cons p l a=>exact fun
  |0,_=>rfl
  |i+1,o=>by show p.1::(setAt l i o).map (·.1)=_;rw[a i o];rfl
theorem pP:∀{l:Led} {i:Nat} {a:WO} {c o:S9},l[i]?=some (a,c)->(l.map (·.1)).Nodup->∀p∈setAt l i o,p=(a,o)\/(p∈l/\p.1≠a)
 |[],_,_,_,_,h,_,_,_=>nomatch h
 |q::l,0,a,c,o,h,b,p,hp=>by
  cases h
  rw[cc,Vs] at b;rcases bK hp with rfl|hp
  ·exact .inl rfl
  ·refine .inr ⟨.tail _ hp,λe=>b.1 ?_⟩
   exact List.mem_map.mpr (aX p hp e)
 |q::l,i+1,a,c,o,h,b,p,hp=>by
  rw[cc,Vs] at b;have d:l[i]?=some (a,c):=by simpa using h
  rcases bK hp with rfl|hp
  ·refine .inr ⟨.head _,λe=>b.1 ?_⟩
   have:(a,c)∈l:=Vf d;exact List.mem_map.mpr<|aX _ this e.symm
  ·rcases pP d b.2 p hp with r|⟨r,n⟩
   ·exact .inl r
   ·exact .inr ⟨.tail _ r,n⟩
theorem Hj:∀(l:Led) (i m:Nat) (o:S9),((setAt l i o).take m).map (·.1)=(l.take m).map (·.1):=λl i m o=>by
 rw[Wv,iD,Wv]
structure Rep(hb h:Vm)(L:Led)(N:Nat):Prop where
 size:h.objs.size=N
 own:∀p∈L,h.get? p.1=some p.2
 nd:(L.map (·.1)).Nodup
 keep:∀b o,hb.get? b=some o->h.get? b=some o
 off:∀p∈L,hb.get? p.1=none
 big:4<=N
theorem Rep.at(D:Rep a h L N){i:Nat}(e:L[i]?=some p):h.get? p.1=some p.2:=D.own p<|Vf e
theorem Rep.alloc(D:Rep d h L N)(k:o.isFreed=false):Rep d (h.push o) (L++[(N,o)]) (N+1):=by
 have i:∀p∈L,p.1≠N:=λp c e=>by
  have:=VN<|D.own p c;rw[D.size,e] at this;exact absurd this (W6 _)
 refine⟨by rw[Wm,D.size],λp c=>?_,?_,λb f e=>Vw _<|D.keep b f e,λp c=>?_,?_⟩
 ·rcases bB c with c|c
  ·exact Vw _<|D.own p c
  ·rcases dg c with rfl
   show(h.push o).get? N=some o;rw[<-D.size];exact VT _ k
 ·rw[mapA,Vp]
  refine⟨D.nd,by simp,λa j b g=>?_⟩;refine aI (bO j) λp c l=>?_;subst l
  simp only[cc,W3,Yz] at g;rw[g];exact i p c
 ·rcases bB c with c|c
  ·exact D.off p c
  ·rcases dg c with rfl
   show d.get? N=none;cases q:d.get? N with
   |none=>rfl
   |some f=>
    have:=VN<|D.keep N f q;rw[D.size] at this;exact absurd this (W6 _)
 ·exact Ve D.big
theorem Rep.update(D:Rep c h L N){f:S9->S9}(e:L[i]?=some (a,o))(j:(f o).isFreed=false):Rep c (h.update a f) (setAt L i<|f o) N:=by
 have k:h.get? a=some o:=D.at e;have g:Vq a h (h.update a f):=VU ..;have ge:(h.update a f).get? a=some (f o):=by first|exact YT f k j|exact YT _ k j
 have l:c.get? a=none:=D.off (a,o)<|Vf e;refine⟨by rw[g.1,D.size],λp d=>?_,by rw[iD];exact D.nd,λb m q=>?_,λp d=>?_,D.big⟩
 ·rcases pP e D.nd p d with rfl|⟨q,n⟩
  ·exact ge
  ·exact(g.2 p.1 n).trans (D.own p q)
 ·exact(g.2 b λz=>by rw[z,l] at q;cases q).trans (D.keep b m q)
 ·rcases pP e D.nd p d with rfl|⟨q,n⟩
  ·exact l
  ·exact D.off p q
noncomputable def xN:Td->Bool:=PySem.W.ZFast.zw2992485423021624247
theorem LC:@notCaller=xN:=PySem.W.ZFast.ze2992485423021624247
abbrev aU:=Vz->List S9->Led->Led->Led->Prop
structure DV where
 prog:Y7
 w:W5
 kt:Nat->Option S9
 vm:Nat->Td->Led->Led->(Nat->aU)->Prop
 m:Nat
 Z:Led
 b:Nat
 R:aU
noncomputable def sel:Nat->List Nat->List Nat
 |_,[]=>[]
 |0,m::r=>r.take m
 |i+1,m::r=>sel i<|r.drop m
noncomputable def a8:Led->List S9->Led
 |p::l,o::os=>(p.1,o)::a8 l os
 |l,[]=>l
 |[],_::_=>[]
theorem ly:∀(l:Led) (a:List S9),(a8 l a).map (·.1)=l.map (·.1):=by
 intro l;induction l with
 |nil=>exact fun
  |[]=>rfl
  |_::_=>rfl
 |cons c l b=>exact fun
  |_::a=>by show _::(a8 l a).map (·.1)=_;rw[b a];rfl
  |[]=>rfl
noncomputable def pick(L:Led):List Nat->Option Led
 |[]=>some []
 |i::a=>match L[i]? with
  |some p=>match pick L a with
   |some q=>some (p::q)
   |none=>none
  |none=>none
def putAll(L:Led):List Nat->List S9->Led
 |i::a,o::os=>putAll (setAt L i o) a os
 |[],_=>L
 |_::_,[]=>L
noncomputable def ml:List Nat->Bool
 |[]=>true
 |i::a=>(a.all λj=>!(Xa i j))&&ml a
theorem pS:∀{l:List Nat},ml l=true->l.Nodup:=by
 intro l;induction l with
 |nil=>intro d;exact WQ
 |cons i c b=>
  intro h;have h:=Bool.and_eq_true_iff.mp h;refine Vs.mpr ⟨λa=>?_,b h.2⟩;have:=List.all_eq_true.mp h.1 i a;rw[Nat.beq_refl] at this;cases this
theorem PI:∀(l:Led) (i j:Nat) (o:S9),i≠j->(setAt l i o)[j]?=l[j]?:=by
 intro l;induction l with
 |nil=>intro a a a a;exact rfl
 |cons p l b=>exact fun
  |0,0,_,h=>absurd rfl h
  |0,_+1,_,_=>rfl
  |_+1,0,_,_=>rfl
  |i+1,j+1,o,h=>by
   show(p::setAt l i o)[j+1]?=(p::l)[j+1]?;simp only[List.getElem?_cons_succ];exact b i j o λe=>h<|congrArg Za e
theorem Pj:∀{a:List Nat},(∀i∈a,L'[i]?=L[i]?)->pick L' a=pick L a:=by
 intro a;induction a with
 |nil=>intro d;exact rfl
 |cons i a c=>
  intro h;show(match L'[i]? with|some p=>_|none=>none)=(match L[i]? with|some p=>_|none=>none);rw[h i<|.head _,c λj b=>h j<|.tail _ b]
theorem mB{sub:Led}(h:pick L (i::a)=some sub):∃p q,L[i]?=some p/\pick L a=some q/\sub=p::q:=by
 replace h:(match L[i]? with|some p=>(match pick L a with|some q=>some (p::q)|none=>none)|none=>none)=some sub:=h;cases b:L[i]? with
 |none=>rw[b] at h;cases h
 |some p=>cases c:pick L a with
  |none=>rw[b,c] at h;cases h
  |some q=>rw[b,c] at h;exact dR p q rfl rfl (WD h).symm
theorem jW:∀{b:List Nat} {sub:Led},pick L b=some sub->∀p∈sub,p∈L:=by
 intro b;induction b with
 |nil=>intro j h p a;cases h;cases a
 |cons i b e=>
  intro sub h p a;refine bE (mB h) λg q c d f=>?_;subst f
  rcases bK a with rfl|a
  ·exact Vf c
  ·exact e d p a
theorem xC:∀{c:List Nat} {sub:Led},pick L c=some sub->∀a∈sub.map (·.1),∃j∈c,∃o,L[j]?=some (a,o):=by
 intro c;induction c with
 |nil=>intro n h a b;cases h;cases b
 |cons i c k=>
  intro sub h a b;refine bE (mB h) λp q d f l=>?_;subst l
  rw[cc] at b;rcases bK b with rfl|b
  ·exact aX i (.head _)<|aB p.2 d
  ·exact aI (k f a b) λj g m=>aw m λo e=>aX j (.tail _ g)<|aB o e
theorem qd{L:Led}(k:(L.map (·.1)).Nodup){i j:Nat}(f:L[i]?=some (a,o))(g:L[j]?=some (a,l)):i=j:=by
 refine aw (Tb.mp f) λd b=>aw (Tb.mp g) λe c=>?_
 have:=ZQ.mp k;rcases Nat.lt_trichotomy i j with h|h|h
 ·have:=this i j (by simpa using d) (by simpa using e) h
  simp[b,c] at this
 ·exact h
 ·have:=this j i (by simpa using e) (by simpa using d) h
  simp[b,c] at this
theorem uo(m:(L.map (·.1)).Nodup):∀{b:List Nat} {sub:Led},pick L b=some sub->b.Nodup->(sub.map (·.1)).Nodup:=by
 intro b;induction b with
 |nil=>intro s h s;cases h;exact WQ
 |cons i b l=>
  intro sub h c;refine bE (mB h) λp q f d n=>?_;subst n
  rw[Vs] at c;rw[cc,Vs];refine⟨λk=>?_,l d c.2⟩;refine aI (xC d p.1 k) λj g r=>aw r λo e=>?_
  have:i=j:=qd m (a:=p.1) (o:=p.2) f e;exact c.1<|this▸g
theorem qD:∀(a:List Nat) (b:List S9) (L:Led),(putAll L a b).map (·.1)=L.map (·.1):=by
 intro a;induction a with
 |nil=>intro d d;exact rfl
 |cons i a c=>exact fun
  |o::b,L=>by show(putAll (setAt L i o) a b).map (·.1)=_;rw[c b,iD]
  |[],_=>rfl
theorem yt:∀{d:List Nat} {l:List S9} {L sub:Led},pick L d=some sub->d.Nodup->(L.map (·.1)).Nodup->∀p∈putAll L d l,p∈a8 sub l\/(p∈L/\p.1∉sub.map (·.1))
 |[],l,L,sub,h,_,_,p,f=>by
  cases h
  exact .inr ⟨f,λq=>nomatch q⟩
 |i::d,[],L,sub,h,g,k,p,f=>by
  have u:p∈L:=f;by_cases c:p.1∈sub.map (·.1)
  ·left
   refine aI (bO c) λq s e=>?_
   have z:=jW h q s;refine aw (Xb.mp z) λa t=>aw (Xb.mp u) λb m=>?_
   have:a=b:=qd k (a:=p.1) (o:=q.2) (l:=p.2) (by rw[t,<-e]) m;subst this;rw[t] at m;cases m;show p∈a8 sub [];cases sub with
   |nil=>cases s
   |cons _ _=>exact s
  ·exact .inr ⟨u,c⟩
 |i::d,o::l,L,sub,h,g,k,p,f=>by
  refine bE (mB h) λq E v w C=>?_;subst C
  rw[Vs] at g;have x:pick (setAt L i o) d=some E:=by
   rw[Pj (L:=L) (L':=setAt L i o) λj y=>PI L i j o λe=>g.1<|e▸y];exact w
  have B:((setAt L i o).map (·.1)).Nodup:=by rw[iD];exact k
  rcases yt x g.2 B p f with r|⟨r,n⟩
  ·exact .inl<|.tail _ r
  ·obtain⟨F,G⟩:=q
   rcases pP v k p r with rfl|⟨D,A⟩
   ·exact .inl<|.head _
   ·refine .inr ⟨D,λc=>?_⟩
    rw[cc] at c;rcases bK c with e|c
    ·exact A e
    ·exact n c
theorem Rep.sub{L sub:Led}(D:Rep c h L N){b:List Nat}(a:pick L b=some sub)(d:b.Nodup):Rep (XQ h (sub.map (·.1))) h sub N:=
 ⟨D.size,λp q=>D.own p<|jW a p q,uo D.nd a d,λf f e=>of_hideAll _ e,λp q=>hideAll_none _<|U9 q,D.big⟩
theorem Rep.base{L sub:Led}(D:Rep a h L N)(f:pick L g=some sub):∀b o,a.get? b=some o->(XQ h (sub.map (·.1))).get? b=some o:=λb o e=>by
 refine ZU _ (D.keep b o e) λd=>aI (bO d) λp q c=>?_
 have:=D.off p<|jW f p q;rw[c,e] at this;cases this
theorem Rep.join{L sub w:Led}(D:Rep g h L N){d:List Nat}(i:pick L d=some sub)(A:d.Nodup)
  (c:Rep (XQ h (sub.map (·.1))) s (a8 sub j++w) m):Rep g s (putAll L d j++w) m:=by
 have x:∀p∈L,p.1∉sub.map (·.1)->(XQ h (sub.map (·.1))).get? p.1=some p.2:=λp q n=>ZU _ (D.own p q) n
 have v:=Vp.mp (by have:=c.nd;rw[mapA] at this;exact this);refine⟨c.size,λp q=>?_,?_,λb o e=>c.keep b o<|D.base i b o e,λp q=>?_,c.big⟩
 ·rcases bB q with q|q
  ·rcases yt i A D.nd p q with r|⟨r,n⟩
   ·exact c.own p<|bq r
   ·exact c.keep _ _<|x p r n
  ·exact c.own p<|az q
 ·rw[mapA,Vp,qD]
  refine⟨D.nd,v.2.1,λa y b t e=>?_⟩;subst e;by_cases u:a∈sub.map (·.1)
  ·exact v.2.2 a (by rw[ly];exact u) a t rfl
  ·refine aI (bO y) λp q B=>?_;subst B
   refine aI (bO t) λk l f=>?_
   have:=c.off k<|az l;rw[f,x p q u] at this;cases this
 ·rcases bB q with q|q
  ·have:p.1∈L.map (·.1):=by rw[<-qD d j L];exact U9 q
   refine aI (bO this) λk l f=>?_
   have:=D.off k l;rw[f] at this;exact this
  ·have z:=c.off p<|az q
   cases e:g.get? p.1 with
   |none=>rfl
   |some o=>rw[D.base i _ _ e] at z;cases z
def ep(h:Vm)(Z:Led):Prop:=∀p∈Z,h.get? p.1=some p.2
def KH(h:Vm)(a:Nat->Option S9):Prop:=∀j o,a j=some o->h.get? j=some o
def Le(h a:Vm):Prop:=∀b o,h.get? b=some o->a.get? b=some o
theorem ep.le(B:ep h Z)(k:Le h a):ep a Z:=λp b=>k _ _<|B p b
theorem KH.le{b:Nat->Option S9}(B:KH h b)(k:Le h a):KH a b:=λj o e=>k _ _<|B j o e
theorem Rep.perm(D:Rep b h L N)(p:L'.Perm L):Rep b h L' N:=
 ⟨D.size,λq a=>D.own q<|p.mem_iff.mp a,(p.map (·.1)).nodup_iff.mpr D.nd,D.keep,λq a=>D.off q<|p.mem_iff.mp a,D.big⟩
theorem RN:∀{a:List Nat} {sub:Led},pick L a=some sub->pick (L++F) a=some sub:=by
 intro a;induction a with
 |nil=>intro f h;exact h
 |cons i a d=>
  intro sub h;refine bE (mB h) λp q b c e=>?_;subst e
  show(match(L++F)[i]? with|some p=>_|none=>none)=_;have:(L++F)[i]?=some p:=by
   rw[Xc]
   ·exact b
   ·exact(Tb.mp b).1
  rw[this,d c]
theorem Cf:∀(L:Led) (i:Nat) (o:S9),i<L.length->setAt (L++F) i o=setAt L i o++F:=by
 intro L;induction L with
 |nil=>intro b b h;exact absurd h<|Nat.not_lt_zero _
 |cons p L a=>exact fun
  |0,_,_=>rfl
  |i+1,o,h=>by
   show p::setAt (L++F) i o=p::(setAt L i o++F);rw[a i o<|Nat.lt_of_succ_lt_succ h]
theorem l9(L:Led)(i:Nat)(o:S9):(setAt L i o).length=L.length:=by
 have:=congrArg Tn<|iD L i o;simpa using this
theorem zq(a:List Nat)(b:List S9)(L:Led):(putAll L a b).length=L.length:=by
 have:=congrArg Tn<|qD a b L;simpa using this
theorem DA:∀{a:List Nat} {b:List S9} {L:Led},(∀i∈a,i<L.length)->putAll (L++F) a b=putAll L a b++F
 |[],_,_,_=>rfl
 |_::_,[],_,_=>rfl
 |i::a,o::b,L,h=>by
  show putAll (setAt (L++F) i o) a b=putAll (setAt L i o) a b++F;rw[Cf L i o<|h i<|.head _];exact DA λj c=>by rw[l9];exact h j<|.tail _ c
theorem En:∀{a:List Nat} {sub:Led},pick L a=some sub->∀i∈a,i<L.length:=by
 intro a;induction a with
 |nil=>intro c c c f;exact nomatch f
 |cons i a g=>
  intro sub h j b;refine bE (mB h) λp q d e k=>?_;subst k
  rcases bK b with rfl|b
  ·exact(Tb.mp d).1
  ·exact g e j b
noncomputable def dU(a:List Nat):Nat->Led->Led
 |_,[]=>[]
 |n,p::l=>match a.any λj=>Xa j n with
  |true=>dU a (n+1) l
  |false=>p::dU a (n+1) l
theorem rP(a:List Nat)(n:Nat)(p:WO×S9)(l:Led):dU a n (p::l)=match a.any λj=>Xa j n with|true=>dU a (n+1) l|false=>p::dU a (n+1) l:=rfl
theorem JN(b:List Nat):∀(n:Nat) (L:Led),(dU b n L).Sublist L:=by
 intro n L;induction L generalizing n with
 |nil=>exact ZV _
 |cons p l a=>
  rw[rP];cases b.any λj=>Xa j n with
  |true=>exact(a<|n+1).cons _
  |false=>exact(a<|n+1).cons₂ _
theorem Fx:∀{n:Nat} {L:Led} {p:WO×S9},p∈dU a n L->∃i,L[i]?=some p/\n+i∉a:=by
 intro n L;induction L generalizing n with
 |nil=>intro g h;cases h
 |cons q l f=>
  intro p h;rw[rP] at h;have up:p∈dU a (n+1) l->∃i,(q::l)[i]?=some p/\n+i∉a:=λh=>by
   exact aI (f h) λi e c=>(aX (i+1) e<|by rw[<-Wu,Vt];exact c)
  cases b:a.any λj=>Xa j n with
  |true=>rw[b] at h;exact up h
  |false=>
   rw[b] at h;rcases bK h with rfl|h
   ·exact aX 0 rfl (λd=>Vx<|b.symm.trans<|List.any_eq_true.mpr<|aX n d<|Nat.beq_refl n)
   ·exact up h
theorem uy(h:∀j∈a,m<=j):∀(n k:Nat) (L:Led),n+k<=m->(dU a n L).take k=L.take k:=by
 intro n k;induction k generalizing n with
 |zero=>intro f f;exact rfl
 |succ k d=>exact fun
  |[],_=>rfl
  |p::l,hk=>by
   have c:(a.any λj=>Xa j n)=false:=by
    cases q:a.any λj=>Xa j n with
    |false=>rfl
    |true=>
     refine aI (List.any_eq_true.mp q) λj b e=>?_
     have:=h j b;have:j=n:=XJ e;lia
   rw[rP,c];show p::(dU a (n+1) l).take k=p::l.take k;rw[d (n+1) l<|by exact rI ‹_›]
theorem E5(h:∀j∈a,m<=j):∀(n:Nat) (L:Led),m<=n+L.length->m<=n+(dU a n L).length:=by
 intro n L;induction L generalizing n with
 |nil=>intro hk;exact hk
 |cons p l d=>
  intro hk;have f:=d (n+1) (by simp only[bT] at hk;lia);rw[rP];cases c:a.any λj=>Xa j n with
  |true=>
   refine aI (List.any_eq_true.mp c) λj b e=>?_
   have:=h j b;have:j=n:=XJ e;lia
  |false=>show m<=n+((dU a (n+1) l).length+1);lia
theorem Rep.freeze(D:Rep s h (L++F) N)(k:pick L d=some l)(y:d.Nodup):Rep s h (dU d 0 L++(l++F)) N:=by
 have n:=JN d 0 L;have c:=Vp.mp (by have:=D.nd;rw[mapA] at this;exact this);have t:∀p∈dU d 0 L++(l++F),p∈L++F:=λp q=>by
  rcases bB q with q|q
  ·exact bq<|n.subset q
  ·rcases bB q with q|q
   ·exact bq<|jW k p q
   ·exact az q
 refine⟨D.size,λp q=>D.own p<|t p q,?_,D.keep,λp q=>D.off p<|t p q,D.big⟩;rw[mapA,mapA,Vp];refine⟨c.1.sublist<|n.map _,Vp.mpr ⟨uo c.1 k y,c.2.1,λa g b m=>?_⟩,λa g b m e=>?_⟩
 ·refine aI (bO g) λp q f=>?_;subst f
  exact c.2.2 p.1 (U9<|jW k p q) b m
 ·subst e
  rcases bB m with q|q
  ·refine aI (xC k a q) λj x z=>aw z λo u=>aI (bO g) λp r f=>?_;subst f
   refine aI (Fx r) λi v w=>?_
   have:i=j:=qd c.1 (a:=p.1) (o:=p.2) (l:=o) v u;exact w<|by rw[V6,this];exact x
  ·refine aI (bO g) λp r f=>?_;subst f
   exact c.2.2 p.1 (U9<|n.subset r) p.1 q rfl
theorem Rep.frame(D:Rep a h (X++Y) N):Rep (XQ h (X.map (·.1))) h X N:=
 ⟨D.size,λp q=>D.own p<|bq q,by have:=D.nd;rw[mapA,Vp] at this;exact this.1,λb b e=>of_hideAll _ e,λp q=>hideAll_none _<|U9 q,D.big⟩
theorem Rep.cV(D:Rep a h (X++Y) N):Le a (XQ h (X.map (·.1))):=λb o e=>by
 refine ZU _ (D.keep b o e) λd=>aI (bO d) λp q c=>?_
 have:=D.off p<|bq q;rw[c,e] at this;cases this
theorem Rep.jn(D:Rep b h (X++Y) N):ep (XQ h (X.map (·.1))) Y:=λp q=>by
 refine ZU _ (D.own p<|az q) λc=>?_
 have a:=D.nd;rw[mapA,Vp] at a;exact a.2.2 p.1 c p.1 (U9 q) rfl
theorem Rep.gu{os:List S9}(D:Rep d h (X++Y) N)(c:Rep (XQ h (X.map (·.1))) i (a8 X os++new) f):Rep d i (a8 X os++new++Y) f:=by
 have r:=c.nd;rw[mapA,Vp] at r;have j:=D.nd;rw[mapA,Vp] at j;refine⟨c.size,λp q=>?_,?_,λb o e=>c.keep b o<|D.cV b o e,λp q=>?_,c.big⟩
 ·rcases bB q with q|q
  ·exact c.own p q
  ·exact c.keep _ _<|D.jn p q
 ·rw[mapA,Vp]
  refine⟨c.nd,j.2.1,λa m b n e=>?_⟩;subst e;refine aI (bO m) λp q e=>?_
  have l:=c.off p q;refine aI (bO n) λs t k=>?_
  have g:=D.jn s t;rw[k,<-e,l] at g;cases g
 ·rcases bB q with q|q
  ·have z:=c.off p q
   cases e:d.get? p.1 with
   |none=>rfl
   |some o=>rw[D.cV _ _ e] at z;cases z
  ·exact D.off p<|az q
theorem Rep.fp(D:Rep a h L N)(s:L'.Sublist L):Rep a h L' N:=
 ⟨D.size,λp q=>D.own p<|s.subset q,D.nd.sublist<|s.map _,D.keep,λp q=>D.off p<|s.subset q,D.big⟩
theorem tL{w:W5}{E:va->Tf->Prop}{s:Tf}{Q:va->Tf->Prop}{o:S9}{T id k:String}{B:Tj}(j:s.heap.get? a=some o)(f:o.cls= .type T)
  (c:Slot T "__iter__" id) (g:Yp table id=some B) (d:B ⟨[.ref a],[]⟩=ret (.ref a)) (e:argsOk id ⟨[.ref a],[]⟩) (i:Slot T "__next__" k) (h:Q (.ref a) s):To (Vy l w) A (pyIter<|.ref a) Q E s:=by
 have b:s.TypeIs (.ref a) T:=aX o j f;refine wpAny_pyIter_slot b c<|V1 c b g ?_ e;rw[d];exact Te<|aX _ rfl (dR T _ b i.lookup h)
noncomputable def sU:va->Bool
 | .type t=>match PySem.W.S.strDecS t "list_iterator" with
  | .isTrue _=>true
  | .isFalse _=>match PySem.W.S.strDecS t "tuple_iterator" with
   | .isTrue _=>true
   | .isFalse _=>match PySem.W.S.strDecS t "range_iterator" with
    | .isTrue _=>true
    | .isFalse _=>match PySem.W.S.strDecS t "str_ascii_iterator" with
     | .isTrue _=>true
     | .isFalse _=>false
 |_=>false
theorem RX{w:W5}{E:va->Tf->Prop}{s:Tf}{Q:va->Tf->Prop}{o:S9}(d:s.heap.get? a=some o)(b:sU o.cls=true)(h:Q (.ref a) s):
  To (Vy k w) A (pyIter<|.ref a) Q E s:=by
 generalize c:o.cls=v at b;cases v with
 |type t=>
  cases f:PySem.W.S.strDecS t "list_iterator" with
  |isTrue e=>exact tL d (by rw[c,e]) slot_listiter_iter entry_listiter_iter rfl (args_listiter_iter _) Xx h
  |isFalse _=>cases g:PySem.W.S.strDecS t "tuple_iterator" with
   |isTrue e=>exact tL d (by rw[c,e]) F.slot_tuple_iterator_iter F.entry_tuple_iterator_iter rfl (F.args_tuple_iterator_iter_1 _) Wx h
   |isFalse _=>cases i:PySem.W.S.strDecS t "range_iterator" with
    |isTrue e=>exact tL d (by rw[c,e]) F.slot_range_iterator_iter F.entry_range_iterator_iter rfl (F.args_range_iterator_iter_1 _) XU h
    |isFalse _=>cases j:PySem.W.S.strDecS t "str_ascii_iterator" with
     |isTrue e=>exact tL d (by rw[c,e]) F.slot_str_ascii_iterator_iter F.entry_str_ascii_iterator_iter rfl (F.args_str_ascii_iterator_iter_1 _) Xm h
     |isFalse _=>
      delta sU at b;dsimp only at b;rw[f,g,i,j] at b;exact nomatch (show false=true from b)
 |_=>exact nomatch (show false=true from b)
theorem Kn{w:W5}{R:Vz->Tf->Prop}{s:Tf}{o:S9}(n:s.heap.get? a=some o)(p:sU o.cls=true)
  (h:Yb (Vy j w) A (.compLoop e d (.ref a) b c) R s):Yb (Vy j w) A (.compStart e d (.ref a) b c) R s:=by
 refine codeAny_of_tree ?_;have m:(S0 e d (.ref a) b c).quiet=true:=rfl;have t:To (Vy j w) (A.under<|.compStart e d (.ref a) b c) (PySem.compStart e d (.ref a) b c)
   (λi l=>match i with| .done f=>R (.ok f) l| .again k=>k.quiet=true/\Yb (Vy j w) A k R l) (λg g=>False) s:=by
  unfold PySem.compStart;split
  ·exact Te ⟨m,h⟩
  ·refine SU<|wpAny_askSetting ?_
   split
   ·exact Te ⟨m,h⟩
   ·refine bR ?_
    have i:To (Vy j w) (A.under<|.compStart e d (.ref a) b c) (pyIter (.ref a)>>=λr=>again<|.compLoop e d r b c) (λi l=>match i with| .done f=>R (.ok f) l| .again k=>k.quiet=true/\Yb (Vy j w) A k R l) (λg g=>False) s:=
     SU (RX n p<|Te ⟨m,h⟩)
    (try dsimp only)
    split
    ·exact SU<|Y8 i
    ·exact i
 show To _ _ (if _ then _ else _) _ _ s;split<;>exact XF (YV t (λg g q=>q) λg g f=>f.elim)
noncomputable abbrev GB:={g:Array GenState // AllBare g}
def Behind(f:aU)(Z:Led)(j:Vm)(L:Led)(d:YD)(k:WU)(R:Vz->Tf->Prop):Prop:=
 ∀r a c F e b g h (i:GB),f r a c F e->a.length=L.length->(∀p∈e,p∈F++Z)->Rep j b (a8 L a++c++F) g->R r ⟨b,i,d,h+1,k⟩
def Spec(j:Y7)(w:W5)(i:Nat->Option S9)(b:Nat)(c:Td)(L Z:Led)(f:aU):Prop:=
 ∀(A:Wr) (a h:Vm) (N T:Nat) (g:GB) (d:YD) (e:WU),A.handled=none->A.depth<=b->A.units<=5*b->KH a i->ep a Z->Rep a h L N->
 ∀R:Vz->Tf->Prop,Behind f Z a L d e R->Yb (Vy j w) A c R ⟨h,g,d,T+1,e⟩
def Bk(f:Y7)(w:W5)(j:Nat->Option S9)(b:Nat)(c:Td)(t:VM PySem.Fin)(L Z:Led)(i:aU):Prop:=
 ∀(A:Wr) (a h:Vm) (N T:Nat) (g:GB) (d:YD) (e:WU),A.handled=none->A.depth<=b->A.units<=5*b->KH a j->ep a Z->Rep a h L N->
 ∀R:Vz->Tf->Prop,Behind i Z a L d e R->Xs (Vy f w) A c t (postC f w A R) (postE R) ⟨h,g,d,T+1,e⟩
abbrev jB:=Td->Ko->VM PySem.Fin->List Nat->Led->Led->Led->Nat->Nat->Prop
noncomputable def allB(f:Nat->Bool):List Nat->Bool
 |[]=>true
 |i::a=>f i&&allB f a
theorem allB_iff{f:Nat->Bool}:∀{l:List Nat},allB f l=true->∀i∈l,f i=true:=by
 intro l;induction l with
 |nil=>intro c c h;exact nomatch h
 |cons i d b=>
  intro h j a;have h:=Bool.and_eq_true_iff.mp h;rcases bK a with rfl|a
  ·exact h.1
  ·exact b h.2 j a
def Ck(V:DV)(r:Vz)(g:List Nat)(L F f:Led):Prop:=match g with
 |a::b=>match ml (b.take a) with
  |true=>match allB (λi=>WH V.m i) (b.take a) with
   |true=>match pick L (b.take a) with
    |some e=>match b.drop a with
     |c::d=>match pick (dU (b.take a) 0 L) (d.take c) with
      |some h=>match ml (d.take c) with
       |true=>match allB (λi=>WH V.m i) (d.take c) with
        |true=>match pick (f++e) (d.drop c) with
         |some j=>V.R r ((L.take V.m).map (·.2)) h (e++F) j
         |none=>False
        |false=>False
       |false=>False
      |none=>False
     |[]=>False
    |none=>False
   |false=>False
  |false=>False
 |[]=>False
def sM(V:DV)(e:jB)(r:Vz)(a:Ko)(d:List Nat)(L F b:Led)(N T:Nat):Prop:=match a with
 | .base=>Ck V r d L F b
 | .ret c k a=>e c a (k r) d L F b N T
def M0(g:jB)(d:Td)(f:WO)(c:ZZ)(o:S9)(h:Ko)(b:List Nat)(L F a:Led)(N T:Nat):Prop:=match o.data with
 | .func e=>g d h (Dn f e c) b L F a N T
 |_=>False
def tI(V:DV)(x:Nat)(a:WO)(L b:Led)(go:S9->Prop):Prop:=match x % 3 with
 |0=>match A2 (x / 3) a with
  |true=>match V.kt (x / 3) with
   |some o=>go o
   |none=>False
  |false=>False
 |1=>match L[x / 3]? with
  |some p=>a=p.1/\go p.2
  |none=>False
 |_=>match b[x / 3]? with
  |some p=>a=p.1/\go p.2
  |none=>False
def xP(V:DV)(e:jB)(b:Td)(c:Ko)(m:List Nat)(L F d:Led)(N T:Nat):Prop:=match m with
 |[]=>False
 |a::rest=>match a with
  |0=>match xN b with
   |true=>e b c (Du b) rest L F d N T
   |false=>False
  |1=>match rest with
   |x::r=>match b with
    | .call (.ref f) g=>match WH c.jF 40 with
     |true=>tI V x f L d λo=>M0 e (.call (.ref f) g) f g o c r L F d N T
     |false=>False
    |_=>False
   |[]=>False
  |_=>match rest with
   |j::n::r=>match WH c.jF 40 with
    |true=>match ml (r.take n) with
     |true=>match pick L (r.take n) with
      |some sub=>V.vm j b sub (F++V.Z) λi s q p h t=>∀k l,sM V e s c (match Xa a 2 with|true=>r.drop n|false=>sel i<|r.drop n) (putAll L (r.take n) q++p) (h++F) (d++t) (k+4)<|l+1
      |none=>False
     |false=>False
    |false=>False
   |_=>False
def vU(V:DV)(e:jB)(c:Td)(f:Ko)(g:List Nat)(L F b:Led)(N T:Nat):Prop:=match g with
 |[]=>False
 |a::rest=>match Xa a 4 with
  |true=>match rest with
   |n::r=>match ml (r.take n) with
    |true=>match allB (λi=>WH V.m i) (r.take n) with
     |true=>match pick L (r.take n) with
      |some d=>xP V e c f (r.drop n) (dU (r.take n) 0 L) (d++F) (b++d) N T
      |none=>False
     |false=>False
    |false=>False
   |[]=>False
  |false=>xP V e c f (a::rest) L F b N T
def Aj(V:DV)(g:jB)(c:Td)(h:Ko)(k:List Nat)(L F b:Led)(N T:Nat):Prop:=match k with
 |[]=>False
 |a::rest=>match Xa a 5 with
  |true=>match rest with
   |i::r=>match c with
    | .compStart e d (.ref f) j l=>match L[i]? with
     |some p=>match sU p.2.cls with
      |true=>f=p.1/\vU V g (.compLoop e d (.ref f) j l) h r L F b N T
      |false=>False
     |none=>False
    |_=>False
   |[]=>False
  |false=>vU V g c h (a::rest) L F b N T
def mZ(V:DV)(j:jB)(c:Td)(e:Ko)(h:List Nat)(L F g:Led)(N T:Nat):Prop:=match h with
 |[]=>False
 |a::rest=>match Xa a 7 with
  |true=>match rest with
   |n::r=>match e with
    | .base=>match ml (r.take n) with
     |true=>match allB (λi=>WH V.m i) (r.take n) with
      |true=>match pick L (r.take n) with
       |some d=>Spec V.prog V.w V.kt V.b c (L.take V.m) (d++F++V.Z) λo l k f p=>V.R o l k (f++(d++F)) p
       |none=>False
      |false=>False
     |false=>False
    | .ret .. =>False
   |[]=>False
  |false=>Aj V j c e (a::rest) L F g N T
def BL(V:DV)(g:jB)(c:Td)(h:Ko)(t:VM PySem.Fin)(d:List Nat)(L F b:Led)(N T:Nat):Prop:=match t with
 | .pure m=>match m with
  | .done f=>sM V g (.ok f) h d L F b N T
  | .again j=>match j.quiet with
   |true=>mZ V g j h d L F b N T
   |false=>False
 | .raise e=>sM V g (.error e) h d L F b N T
 | .rule _ k=>g c h (k ()) d L F b N T
 | .at _ k=>g c h (k ()) d L F b N T
 | .point _ k=>g c h (k ()) d L F b N T
 | .ask k=>g c h (k ⟨V.prog,V.w.params⟩) d L F b N T
 | .load a _ k=>match d with
  |x::r=>tI V x a L b λo=>g c h (k o) r L F b N T
  |[]=>False
 | .loadIfAlive a k=>match d with
  |x::r=>tI V x a L b λo=>g c h (k<|some o) r L F b N T
  |[]=>False
 | .alloc o k=>match o.isFreed with
  |true=>False
  |false=>g c h (k N) d (L++[(N,o)]) F b (N+1) T
 | .update a _ f k=>match d with
  |i::r=>match L[i]? with
   |some p=>match(f p.2).isFreed with
    |true=>False
    |false=>a=p.1/\g c h (k ()) r (setAt L i<|f p.2) F b N T
   |none=>False
  |[]=>False
 | .fresh k=>g c h (k T) d L F b N<|T+1
 | .stack k=>∀(p:XT) (l:List (Td×XT)),g c h (k ((c,p)::l)) d L F b N T
 | .handled q k=>match q with
  |false=>g c h (k none) d L F b N T
  |true=>False
 | .call j n _ _ k=>match n with
  |none=>match xN c with
   |true=>mZ V g j (.ret c k h) d L F b N T
   |false=>False
  |some _=>False
 |_=>False
noncomputable def je(V:DV):Nat->jB
 |0=>λa a a a a a a a a=>False
 |n+1=>BL V<|je V n
section
variable(V:DV)(a:Wr)(k:Vm)(d:YD)(e:WU)(l:Vz->Tf->Prop)
noncomputable def eT:Ko->Wr
 | .base=>a
 | .ret c _ b=>((eT b).under c).mark none
def j4:Ko->Vz->Tf->Prop
 | .base=>l
 | .ret c f b=>postR V.prog V.w (eT a b) c (postC V.prog V.w (eT a b)<|j4 b) (postE<|j4 b) f
def wo(c:Td)(b:Ko)(t:VM PySem.Fin)(s:Tf):Prop:=
 Xs (Vy V.prog V.w) (eT a b) c t (postC V.prog V.w (eT a b)<|j4 V a l b) (postE<|j4 V a l b) s
theorem wz(h:a.handled=none):∀b,(eT a b).handled=none
 | .base=>h
 | .ret c f b=>by
  show(Option.none.or (eT a b).handled)=none;rw[wz h b];rfl
theorem xm:∀b:Ko,b.Ok->(eT a b).depth<=a.depth+b.jF
 | .base,_=>VA _
 | .ret c f b,h=>by
  show(eT a b).depth+c.weight<=a.depth+(wt c+b.jF);exact SQ (VB (xm b h.2)<|yT c h.1)<|Th<|by rw[Wu,Ww b.jF]
theorem AQ:∀b:Ko,b.Ok->(eT a b).units<=a.units+5*b.jF
 | .base,_=>VA _
 | .ret c f b,h=>by
  show(eT a b).units+c.cUnits<=a.units+5*(wt c+b.jF);exact SQ (VB (AQ b h.2)<|units_le c h.1)<|Th<|by rw[Wu,Nat.mul_add,Ww<|5*b.jF]
structure Inv(c:List WO)(f:Ko)(L F b:Led)(N T:Nat)(h:Vm):Prop where
 ko:f.Ok
 tok:1<=T
 fst:(L.take V.m).map (·.1)=c
 len:V.m<=L.length
 ro:∀p∈b,p∈F++V.Z
 rep:Rep k h (L++F) N
variable{V a k d e l}
variable(y:a.handled=none)(b:Nat)(D:a.depth<=V.b)(E:a.units<=5*V.b)(z:a.depth+40<=b)(C:a.units+200<=5*b)(A:b<Vv)(v:KH k V.kt)(w:ep k V.Z)
 (B:∀j c sub Z K,V.vm j c sub Z K->Spec V.prog V.w V.kt b c sub Z λr o n F ro=>∃i,K i r o n F ro)
 (s:List WO) (x:∀(r:Vz) (L new F ro:Led) (h:Vm) (N T:Nat) (g:GB),V.R r ((L.take V.m).map (·.2)) new F ro->(∀p∈ro,p∈F++V.Z)->(L.take V.m).map (·.1)=s->Rep k h (L.take V.m++new++F) N->l r ⟨h,g,d,T+1,e⟩)
 (u:jB) (m:∀(c:Td) (κ:Ko) (t:VM PySem.Fin) (acts:List Nat) (L F RO:Led) (N T:Nat) (h:Vm) (g:GB),Inv V k s κ L F RO N T h->u c κ t acts L F RO N T->wo V a l c κ t ⟨h,g,d,T,e⟩)
theorem gB{b:Bool}{P G:Prop}(H:match b with|true=>P|false=>False)(c:b=true->P->G):G:=by
 cases b
 ·exact H.elim
 ·exact c rfl H
theorem gN{b:Bool}{P G:Prop}(H:match b with|true=>False|false=>P)(c:b=false->P->G):G:=by
 cases b
 ·exact c rfl H
 ·exact H.elim
theorem gM{b:Bool}{P Q G:Prop}(H:match b with|true=>P|false=>Q)(c:P->G)(f:Q->G):G:=by
 cases b
 ·exact f H
 ·exact c H
theorem gP{o:Option (Nat×S9)}{P:Nat×S9->Prop}{G:Prop}(H:match o with|some c=>P c|none=>False)(f:∀c,o=some c->P c->G):G:=by
 cases o
 ·exact H.elim
 ·exact f _ rfl H
theorem gO{o:Option Led}{P:Led->Prop}{G:Prop}(H:match o with|some c=>P c|none=>False)(f:∀c,o=some c->P c->G):G:=by
 cases o
 ·exact H.elim
 ·exact f _ rfl H
theorem gQ{o:Option S9}{P:S9->Prop}{G:Prop}(H:match o with|some c=>P c|none=>False)(f:∀c,o=some c->P c->G):G:=by
 cases o
 ·exact H.elim
 ·exact f _ rfl H
theorem gC{c:Td}{P:WO->ZZ->Prop}{G:Prop}(H:match c with| .call (.ref f) g=>P f g|_=>False)(h:∀f g,c= .call (.ref f) g->P f g->G):G:=by
 cases c with
 |call i g=>cases i with
  |ref j=>exact h _ _ rfl H
  |_=>exact H.elim
 |_=>exact H.elim
theorem gS{c:Td}{P:Expr->Nat->WO->va->Zb->Prop}{G:Prop}(H:match c with| .compStart h d (.ref f) g i=>P h d f g i|_=>False)(j:∀h d f g i,c= .compStart h d (.ref f) g i->P h d f g i->G):G:=by
 cases c with
 |compStart h d n g i=>cases n with
  |ref o=>exact j _ _ _ _ _ rfl H
  |_=>exact H.elim
 |_=>exact H.elim
theorem gF{c:ZP}{P:FuncData->Prop}{G:Prop}(H:match c with| .func f=>P f|_=>False)(g:∀f,c= .func f->P f->G):G:=by
 cases c with
 |func f=>exact g _ rfl H
 |_=>exact H.elim
theorem My{f g h G:Prop}(H:match n with|0=>f|1=>g|_=>h)(i:f->G)(b:g->G)(c:h->G):G:=by
 rcases n with _|_|n
 ·exact i H
 ·exact b H
 ·exact c H
theorem gL{o:List Nat}{P:Nat->List Nat->Prop}{G:Prop}(H:match o with|c::r=>P c r|[]=>False)(f:∀c r,o=c::r->P c r->G):G:=by
 cases o
 ·exact H.elim
 ·exact f _ _ rfl H
include x in
theorem Oi{Z:List Nat}{Tr:GB}(I:Inv V k s .base L F Y N T h)(H:Ck V r Z L F Y):l r ⟨h,Tr,d,T,e⟩:=by
 obtain⟨P,rfl⟩:∃P,T=P+1:=aB (T-1)<|kJ I.tok;cases Z with
 |nil=>exact H.elim
 |cons G J=>
 refine gB H λTA H=>gB H λTx H=>gO H λQ TC H=>gL H λnk r2 er H=>gO H λTt O H=>gB H λTB H=>gB H λTz H=>gO H λro TF H=>?_
 have Tv:∀j∈J.take G,V.m<=j:=λj t=>VL<|allB_iff Tx j t
 have Tw:∀j∈r2.take nk,V.m<=j:=λj t=>VL<|allB_iff Tz j t
 have tk:(dU (J.take G) 0 L).take V.m=L.take V.m:=uy Tv 0 V.m L (by lia);have f:=I.rep.freeze TC<|pS TA;refine x r L Tt (Q++F) ro h N P Tr H ?_ I.fst ?_
 ·intro p hp
  rcases bB (jW TF p hp) with q|q
  ·rcases bB (I.ro p q) with U|U
   ·exact bq<|az U
   ·exact az U
  ·exact bq<|bq q
 ·rw[<-tk]
  have g:=f.nd;rw[mapA,Vp] at g;have Ts:∀p∈(dU (J.take G) 0 L).take V.m++Tt++(Q++F),p∈dU (J.take G) 0 L++(Q++F):=λp q=>by
   rcases bB q with q|q
   ·rcases bB q with q|q
    ·exact bq<|XW q
    ·exact bq<|jW O p q
   ·exact az q
  refine⟨f.size,λp q=>f.own p<|Ts p q,?_,f.keep,λp q=>f.off p<|Ts p q,f.big⟩;rw[mapA,Vp,mapA,Vp];refine⟨⟨?_,uo g.1 O<|pS TB,λn M b' R Tu=>?_⟩,g.2.1,λn M b' R=>?_⟩
  ·rw[Wv];exact g.1.sublist<|List.take_sublist _ _
  ·subst Tu
   refine aI (xC O n R) λj t qs=>aw qs λo e1=>?_
   have TH:=Tw j t;rw[Wv] at M;refine aw (Xb.mp M) λi c=>?_
   rw[List.getElem?_take] at c;split at c
   ·rename_i TJ
    rw[Vi] at c;cases S:(dU (J.take G) 0 L)[i]? with
    |none=>rw[S] at c;cases c
    |some q=>
     rw[S] at c;have ea:q.1=n:=WD c;have:i=j:=qd g.1 (a:=n) (o:=q.2) (l:=o) (by rw[S,<-ea]) e1;lia
   ·cases c
  ·refine g.2.2 n ?_ b' R
   rcases bB M with q|q
   ·rw[Wv] at q;exact XW q
   ·refine aI (bO q) λp q' TG=>?_;subst TG
    exact U9 (jW O p q')
include x m
theorem wW{j:List Nat}{g:GB}(I:Inv V k s f L F i N T h)(H:sM V u r f j L F i N T):
  j4 V a l f r ⟨h,g,d,T,e⟩:=by
 cases f with
 |base=>exact Oi s x I H
 |ret c n f=>exact m _ _ _ _ _ _ _ _ _ _ _ ⟨I.ko.2,I.tok,I.fst,I.len,I.ro,I.rep⟩ H
include v w
omit x m in
theorem vM{h:Vm}{go:S9->Prop}{P:Prop}(t:∀p∈i,p∈F++V.Z)(c:Rep k h (L++F) N)(H:tI V G j L i go)(f:∀o,h.get? j=some o->go o->P):P:=
 My H (λH=>gB H λn H=>gQ H λo r H=>f o (x5 n▸c.keep _ _ (v _ _ r)) H)
  (λH=>gP H λp g H=>f _ (H.1▸c.own p (bq<|Vf g)) H.2)
  (λH=>gP H λp g H=>f _ (H.1▸(bB<|t p<|Vf g).elim (λq=>c.own p<|az q) λq=>c.keep _ _<|w p q) H.2)
include y z C A B
theorem AI{c':Td}{n:Ko}{Ts:List Nat}{L F RO:Led}{N T:Nat}{h:Vm}{g:GB}(I:Inv V k s n L F RO N T h)(H:xP V u c' n Ts L F RO N T):
  Yb (Vy V.prog V.w) (eT a n) c' (j4 V a l n) ⟨h,g,d,T,e⟩:=by
 cases Ts with
 |nil=>exact H.elim
 |cons Tr rest=>
 rcases Tr with _|_|Tr
 ·refine gB H λzu H=>y_code _ _ _ _ _ _ ?_
  rw[JU];exact m _ _ _ _ _ _ _ _ _ _ _ I H
 ·cases rest with
  |nil=>exact H.elim
  |cons TH r=>
    refine gC H λf Tz O H=>?_
    subst O;refine gB H λt H=>?_
    have TA:((eT a n).under<|.call (.ref f) Tz).depth<Vv:=by
     show(eT a n).depth+0<Vv;exact Ws (SQ (xm a n I.ko)<|SQ (VC (VL t) _) z) A
    refine vM v w I.ro I.rep H λo ho H=>gF H λfd TB H=>?_
    have c:=m _ _ _ _ _ _ _ _ _ _ g I H;refine y_code _ _ _ _ _ _ λΓ p hc hΓ=>?_
    have z':=c Γ p hc hΓ;rw[<-RL] at z';exact RW (M:=Vy V.prog V.w) ho TB (hc▸hΓ.in) TA z'
 ·rcases rest with _|⟨j,_|⟨Tv,r⟩⟩
  ·exact H.elim
  ·exact H.elim
  ·refine gB H λt Y=>gB Y λhn Z=>gO Z λsub P H3=>?_
   clear H Y Z;have H:=H3;clear H3;have Tu:=pS hn;have Q:=RN (F:=F) P;obtain⟨J,rfl⟩:∃J,T=J+1:=aB (T-1)<|kJ I.tok;have Tt:Le k (XQ h (sub.map (·.1))):=I.rep.base Q;refine B _ _ _ _ _ H (eT a n) (XQ h (sub.map (·.1))) h N J g d e (wz a y n) ?_ ?_ (v.le Tt) ?_ (I.rep.sub Q Tu) _ ?_
   ·have:=xm a n I.ko
    have:=VL t;lia
   ·have:=AQ a n I.ko
    have:=VL t;lia
   ·intro p q
    rcases bB q with q|q
    ·refine ZU _ (I.rep.own p<|az q) λhm=>?_
     have nd:=I.rep.nd;rw[mapA,Vp] at nd;exact aI (bO hm) λp' q' O=>nd.2.2 p'.1 (U9<|jW P p' q') p.1 (U9 q) O
    ·exact Tt _ _<|w p q
   ·intro TG R Tw F' ro h' G Tx g' ⟨i,HK⟩ _ TF S
    have D2:Rep (XQ h (sub.map (·.1))) h' (a8 sub R++(Tw++F')) G:=by rw[<-aZ];exact S
    have U:=I.rep.join Q Tu D2;rw[DA<|En P] at U;obtain⟨M,rfl⟩:∃M,G=M+4:=aB (G-4)<|sL S.big;have TC:(putAll L (r.take Tv) R++Tw).take V.m=(putAll L (r.take Tv) R).take V.m:=by
     rw[WR];rw[zq];exact I.len
    refine wW s x u m ⟨I.ko,Vk<|Vc _,?_,?_,?_,?_⟩ (HK M Tx)
    ·rw[TC,Wv,qD,<-Wv];exact I.fst
    ·rw[Vd,zq]
     have:=I.len;lia
    ·intro p q
     rcases bB q with q|q
     ·rcases bB (I.ro p q) with c|c
      ·exact bq<|az c
      ·exact az c
     ·rcases bB (TF p q) with c|c
      ·exact bq<|bq c
      ·rcases bB c with c|c
       ·exact bq<|az c
       ·exact az c
    ·refine U.perm ?_
     rw[aZ,aZ];refine XK _ ?_;rw[<-aZ];exact XM
theorem Ae{o:List Nat}{g:GB}(I:Inv V k s c L F i N T h)(H:vU V u t c o L F i N T):
  Yb (Vy V.prog V.w) (eT a c) t (j4 V a l c) ⟨h,g,d,T,e⟩:=by
 cases o with
 |nil=>exact H.elim
 |cons P rest=>
  refine gM H (λH=>?_) λH=>AI y b z C A v w B s x u m I H
  cases rest with
   |nil=>exact H.elim
   |cons n r=>
       refine gB H λM H=>gB H λG H=>gO H λQ O H=>?_
       have ge:∀j∈r.take n,V.m<=j:=λj J=>VL<|allB_iff G j J
       refine AI y b z C A v w B s x u m ⟨I.ko,I.tok,?_,?_,?_,I.rep.freeze O<|pS M⟩ H
       ·rw[uy ge 0 V.m L<|by lia];exact I.fst
       ·have:=E5 ge 0 L (by have:=I.len;lia)
        lia
       ·intro p q
        rcases bB q with q|q
        ·rcases bB (I.ro p q) with f|f
         ·exact bq<|az f
         ·exact az f
        ·exact bq<|bq q
theorem Sk{q:Td}{c:Ko}{o:List Nat}{L F n:Led}{N T:Nat}{h:Vm}{g:GB}(I:Inv V k s c L F n N T h)(H:Aj V u q c o L F n N T):
  Yb (Vy V.prog V.w) (eT a c) q (j4 V a l c) ⟨h,g,d,T,e⟩:=by
 cases o with
 |nil=>exact H.elim
 |cons O rest=>
  refine gM H (λj=>?_) λH=>Ae y b z C A v w B s x u m I H
  clear H;cases rest with
   |nil=>exact j.elim
   |cons i r=>
   refine gS j λQ d f P R t H=>gP H λp G H=>gB H λJ H=>?_
   clear j;cases t
   refine a0 H λM H=>?_
   subst M;exact Kn (I.rep.own p<|bq<|Vf G) J<|Ae y b z C A v w B s x u m I H
include D E
theorem wL{S:Td}{i:Ko}{R:List Nat}{L F Q:Led}{N T:Nat}{h:Vm}{g:GB}(I:Inv V k s i L F Q N T h)(H:mZ V u S i R L F Q N T):
  Yb (Vy V.prog V.w) (eT a i) S (j4 V a l i) ⟨h,g,d,T,e⟩:=by
 cases R with
 |nil=>exact H.elim
 |cons Tz rest=>
  refine gM H (λH=>?_) λH=>Sk y b z C A v w B s x u m I H
  cases rest with
   |nil=>exact H.elim
   |cons n r=>
   cases i with
   |ret=>exact H.elim
   |base=>
        refine gB H λhn M=>gB M λha O=>gO O λU hp H3=>?_
        clear H M O;obtain⟨t,rfl⟩:∃t,T=t+1:=aB (T-1)<|kJ I.tok;have ge:∀j∈r.take n,V.m<=j:=λj hj=>VL<|allB_iff ha j hj
        have tk:(dU (r.take n) 0 L).take V.m=L.take V.m:=uy ge 0 V.m L (by lia);have D0:=I.rep.freeze hp<|pS hn;have c:=D0.fp<|X9.append_right (List.take_sublist V.m _)<|U++F;rw[tk] at c;refine H3 a (XQ h ((L.take V.m).map (·.1))) h N t g d e y D E (v.le c.cV) ?_ c.frame _ ?_
        ·intro p q
         rcases bB q with q|q
         ·exact c.jn p q
         ·exact c.cV _ _<|w p q
        ·intro Tx f Tr J ro Y P Ts g' HK Tt Tu D'
         have D2:Rep (XQ h ((L.take V.m).map (·.1))) Y (a8 (L.take V.m) f++(Tr++J)) P:=by rw[<-aZ];exact D'
         have D3:=c.gu D2;have Z:(a8 (L.take V.m) f).map (·.1)=(L.take V.m).map (·.1):=ly _ _;have TA:(a8 (L.take V.m) f).length=V.m:=by
          have:=congrArg Tn Z;simp only[aM,Xo] at this;rw[this];exact Nat.min_eq_left I.len
         have G:(a8 (L.take V.m) f).take V.m=a8 (L.take V.m) f:=List.take_of_length_le (by exact Th ‹_›);have Tv:∀(X:Led) (e:List S9),e.length=X.length->(a8 X e).map (·.2)=e:=by
          intro X;induction X with
          |nil=>intro e h;cases e with
           |nil=>rfl
           |cons _ _=>cases h
          |cons p Tw u=>intro e h;cases e with
           |nil=>cases h
           |cons o e=>
            show o::(a8 Tw e).map (·.2)=o::e;rw[u e<|by simpa using h]
         refine x Tx (a8 (L.take V.m) f) Tr (J++(U++F)) ro Y P Ts g' ?_ ?_ ?_ ?_
         ·rw[G,Tv _ _ Tt];exact HK
         ·intro p q
          have:=Tu p q;rw[<-aZ] at this;exact this
         ·rw[G,Z];exact I.fst
         ·rw[G]
          refine D3.perm ?_;simp only[aZ];exact Xp _
theorem K7{c:Td}{n:Ko}{t:VM PySem.Fin}{J:List Nat}{L F S:Led}{N T:Nat}{h:Vm}{g:GB}(I:Inv V k s n L F S N T h)(H:BL V u c n t J L F S N T):
  wo V a l c n t ⟨h,g,d,T,e⟩:=by
 cases t with
 |pure Tt=>
  cases Tt with
  |done f=>exact y_pure _ _ _ _ _ _ _ _ _<|y_done _ _ _ _ _ _<|wW s x u m I H
  |again c'=>
   exact gB H λhq H=>y_pure _ _ _ _ _ _ _ _ _<|y_again _ _ _ _ _ _ hq<|wL y b D E z C A v w B s x u m I H
 |raise Y=>exact y_raise _ _ _ _ _ _ _ _ _<|y_err _ _ _<|wW s x u m I H
 |rule TB j=>exact y_skim _ _ _ _ _ _ _ _ _ 1<|m _ _ _ _ _ _ _ _ _ _ _ I H
 |«at» q j=>exact y_skim _ _ _ _ _ _ _ _ _ 1<|m _ _ _ _ _ _ _ _ _ _ _ I H
 |point Tx j=>exact y_skim _ _ _ _ _ _ _ _ _ 1<|m _ _ _ _ _ _ _ _ _ _ _ I H
 |ask j=>exact y_skim _ _ _ _ _ _ _ _ _ 1<|m _ _ _ _ _ _ _ _ _ _ _ I H
 |load U q j=>
  cases J
  ·exact H.elim
  ·exact vM v w I.ro I.rep H λo O H=>y_load _ _ _ _ _ _ _ _ _ _ _ _ _ _ _ _ O<|m _ _ _ _ _ _ _ _ _ _ _ I H
 |loadIfAlive U j=>
  cases J
  ·exact H.elim
  ·exact vM v w I.ro I.rep H λo O H=>y_alive _ _ _ _ _ _ _ _ _ _ _ _ _ _ _ O<|m _ _ _ _ _ _ _ _ _ _ _ I H
 |alloc o j=>
  refine gN H λM H=>?_
  ·have Tu:(L++[(N,o)]).take V.m=L.take V.m:=WR I.len
   have G:=(I.rep.alloc M).perm (L':=(L++[(N,o)])++F) (by
    rw[aZ,aZ];exact XK _ XM)
   have P:=m _ _ _ _ _ _ _ _ _ (h.push o) g ⟨I.ko,I.tok,by rw[Tu];exact I.fst,by rw[Vd];have:=I.len;exact Ve ‹_›,I.ro,G⟩ H;have ea:h.objs.size=N:=I.rep.size;exact WL (m:=PySem.alloc o) (f:=j)<|Va<|wpAny_alloc<|by rw[ea];exact P
 |update U q f j=>
  cases J with
  |nil=>exact H.elim
  |cons i r=>
     refine gP H λp hp Q=>gN Q λM R=>?_
     clear H Q;refine a0 R λTA H=>?_;clear R;subst TA
     have Z:i<L.length:=(Tb.mp hp).1;have Tr:(L++F)[i]?=some (p.1,p.2):=by rw[Xc Z];exact hp
     have G:=I.rep.update (f:=f) Tr M;rw[Cf L i (f p.2) Z] at G;have P:=m _ _ _ _ _ _ _ _ _ (h.update p.1 f) g ⟨I.ko,I.tok,by rw[Hj];exact I.fst,by rw[l9];exact I.len,I.ro,G⟩ H;exact WL (m:=updatePart p.1 q f) (f:=j)<|Va<|wpAny_updatePart (I.rep.at Tr) P
 |fresh j=>exact y_fresh _ _ _ _ _ _ _ _ _ _ _ _ _<|m _ _ _ _ _ _ _ _ _ _ _ ⟨I.ko,by have:=I.tok;exact Vl _,I.fst,I.len,I.ro,I.rep⟩ H
 |stack j=>exact y_stack _ _ _ _ _ _ _ _ _ λp Ts zu=>m _ _ _ _ _ _ _ _ _ _ _ I<|H p Ts
 |handled Tz j=>
  cases Tz with
  |true=>exact H.elim
  |false=>
   refine y_handled _ _ _ _ _ _ _ _ _ ?_;rw[wz a y n];exact m _ _ _ _ _ _ _ _ _ _ _ I H
 |call c' hd gd Tx j=>
  cases hd with
  |some _=>exact H.elim
  |none=>
    refine gB H λTv H=>?_
    have Tw:(Ko.ret c j n).Ok:=⟨by rw[LC];exact Tv,I.ko⟩;exact y_call _ _ _ _ _ _ _ _ _ _ _ _ _ (by intro Y;cases Y)<|wL y b D E z C A v w B s x u m ⟨Tw,I.tok,I.fst,I.len,I.ro,I.rep⟩ H
 |_=>exact H.elim
end
section
variable{V:DV}{e:Wr}{f:Vm}{d:YD}{k:WU}{l:Vz->Tf->Prop}(m:e.handled=none)(b:Nat)(q:e.depth<=V.b)(s:e.units<=5*V.b)(t:e.depth+40<=b)(u:e.units+200<=5*b)(v:b<Vv)(w:KH f V.kt)(x:ep f V.Z)
 (y:∀j c sub Z K,V.vm j c sub Z K->Spec V.prog V.w V.kt b c sub Z λr o n F ro=>∃i,K i r o n F ro)
 (a:List WO) (z:∀(r:Vz) (L new F ro:Led) (h:Vm) (N T:Nat) (g:GB),V.R r ((L.take V.m).map (·.2)) new F ro->(∀p∈ro,p∈F++V.Z)->(L.take V.m).map (·.1)=a->Rep f h (L.take V.m++new++F) N->l r ⟨h,g,d,T+1,k⟩)
include m q s t u v w x y z
theorem AB:∀(n:Nat) (c:Td) (j:Ko) (p:VM PySem.Fin) (r:List Nat) (L F o:Led) (N T:Nat) (h:Vm) (g:GB),Inv V f a j L F o N T h->je V n c j p r L F o N T->wo V e l c j p ⟨h,g,d,T,k⟩:=by
 intro n;induction n with
 |zero=>intro i i i i i i i i i i i i H;cases H
 |succ n A=>intro c j p r L F o N T h g I H;exact K7 m b q s t u v w x y a z (je V n) (A) I H
end
theorem rT(L L':Led)(h:L'.map (·.1)=L.map (·.1)):a8 L (L'.map (·.2))=L':=by
 induction L generalizing L' with
 |nil=>cases L' with
  |nil=>rfl
  |cons _ _=>cases h
 |cons p l b=>cases L' with
  |nil=>cases h
  |cons q a=>
   rw[cc,cc,List.cons.injEq] at h;show(p.1,q.2)::a8 l (a.map (·.2))=q::a;rw[b a h.2,<-h.1]
section
variable{a:Y7}{w:W5}{d:Nat->Option S9}{f:Nat->Td->Led->Led->(Nat->aU)->Prop}{b e n:Nat}{c:Td}{t:VM PySem.Fin}{g:List Nat}{L Z h:Led}{K:aU}(q:e+40<=b)(k:b<Vv)
 (l:∀j c sub Z K,f j c sub Z K->Spec a w d b c sub Z λr o n F ro=>∃i,K i r o n F ro) (m:∀p∈h,p∈Z)
include q k l m
theorem Hr(H:∀N T,mZ ⟨a,w,d,f,L.length,Z,e,K⟩ (je ⟨a,w,d,f,L.length,Z,e,K⟩ n) c .base g L [] h (N+4)<|T+1):Spec a w d e c L Z K:=by
 intro A U s N T u J os B y C hk x D R S;obtain⟨N,rfl⟩:∃M,N=M+4:=aB (N-4)<|sL D.big;have v:∀(r:Vz) (i j F o:Led) (s:Vm) (N T:Nat) (u:GB),K r ((i.take L.length).map (·.2)) j F o->(∀p∈o,p∈F++Z)->(i.take L.length).map (·.1)=L.map (·.1)->Rep U s (i.take L.length++j++F) N->R r ⟨s,u,J,T+1,os⟩:=by
  intro r i j F o P G I O Q Y z E;refine S r _ j F o P G I O Q (by simpa using congrArg Tn z) Y ?_;rw[rT L _ z];exact E
 exact wL (i:=.base) (V:=⟨a,w,d,f,L.length,Z,e,K⟩) (a:=A) (l:=R) B b y C (by exact SQ (Tq ‹_› _) ‹_›) (by exact uN ‹_› ‹_› (zd rfl)) k hk x l (L.map (·.1)) v (je ⟨a,w,d,f,L.length,Z,e,K⟩ n)
  (AB B b y C (by exact SQ (Tq ‹_› _) ‹_›) (by exact uN ‹_› ‹_› (zd rfl)) k hk x l (L.map (·.1)) v n)
  ⟨True.intro,Vk<|Vc T,by rw[Yc],VA _,λp Tr=>az<|m p Tr,by rw[aP];exact D⟩ (H N T)
theorem Ik(H:∀N T,je ⟨a,w,d,f,L.length,Z,e,K⟩ n c .base t g L [] h (N+4)<|T+1):Bk a w d e c t L Z K:=by
 intro A P j N T u B os S Q Y hk O D R I;obtain⟨N,rfl⟩:∃M,N=M+4:=aB (N-4)<|sL D.big;have J:∀(r:Vz) (i o F s:Led) (j:Vm) (N T:Nat) (u:GB),K r ((i.take L.length).map (·.2)) o F s->(∀p∈s,p∈F++Z)->(i.take L.length).map (·.1)=L.map (·.1)->Rep P j (i.take L.length++o++F) N->R r ⟨j,u,B,T+1,os⟩:=by
  intro r i o F s E y z C G U v x;refine I r _ o F s E y z C G (by simpa using congrArg Tn v) U ?_;rw[rT L _ v];exact x
 exact AB (V:=⟨a,w,d,f,L.length,Z,e,K⟩) (e:=A) (l:=R) S b Q Y (by exact SQ (Tq ‹_› _) ‹_›) (by exact uN ‹_› ‹_› (zd rfl)) k hk O l (L.map (·.1)) J n c .base t g L [] h (N+4) (T+1) j u
  ⟨True.intro,Vk<|Vc T,by rw[Yc],VA _,λp Tr=>az<|m p Tr,by rw[aP];exact D⟩ (H N T)
end
noncomputable def uF(a b:Bool)(f:String->Bool)(s:String):Bool:=
 match PySem.W.S.strDecS s "special-get-raises" with
 | .isTrue _=>a
 | .isFalse _=>match PySem.W.S.strDecS s "comprehension-iter-twice" with
  | .isTrue _=>b
  | .isFalse _=>f s
def zF(a b:Bool)(P:Yj):Yj:={P with followText:=uF a b P.followText}
def br(a b:Bool)(w:W5):W5:={w with params:=zF a b w.params}
theorem BU(w:W5):br (w.params.followText "special-get-raises") (w.params.followText "comprehension-iter-twice") w=w:=by
 have:uF (w.params.followText "special-get-raises") (w.params.followText "comprehension-iter-twice") w.params.followText=w.params.followText:=by
  funext s;unfold uF;cases PySem.W.S.strDecS s "special-get-raises" with
  |isTrue h=>exact congrArg _ h.symm
  |isFalse _=>cases PySem.W.S.strDecS s "comprehension-iter-twice" with
   |isTrue h=>exact congrArg _ h.symm
   |isFalse _=>rfl
 unfold br zF;rw[this]
theorem hide{G:Prop}(k:∀P:Prop,(G->P)->P):G:=k G id
theorem vu{Q A:Vz->List S9->Led->Led->Led->Prop}(h:∀G:Vz->List S9->Led->Led->Led->Prop,(∀{r o n F a},Q r o n F a->G r o n F a)->∀r o n F a,A r o n F a->G r o n F a):∀r o n F a,A r o n F a->Q r o n F a:=h Q id
theorem wJ{Q A B C:Vz->List S9->Led->Led->Led->Prop}(h:∀G:Vz->List S9->Led->Led->Led->Prop,(∀{r o n F a},Q r o n F a->G r o n F a)->∀r o n F a,B r o n F a->A r o n F a->C r o n F a->G r o n F a):∀r o n F a,B r o n F a->A r o n F a->C r o n F a->Q r o n F a:=h Q id
inductive L1{b:Type}:List b->Prop
 |mk (a):L1 [a]
inductive L2{c:Type}:List c->Prop
 |mk (a b):L2 [a,b]
inductive L3{d:Type}:List d->Prop
 |mk (a b c):L3 [a,b,c]
inductive L4{e:Type}:List e->Prop
 |mk (a b c d):L4 [a,b,c,d]
theorem qG{b:Type}{l:List b}(h:l.length=n+1):∃a t,l=a::t/\t.length=n:=by
 cases l with
 |nil=>exact absurd h.symm<|Nat.succ_ne_zero n
 |cons a t=>exact cA a t rfl (Zt h)
theorem mi{c:Type}{l:List c}(h:l.length=1):L1 l:=by
 refine cw (qG h) λa t b k=>?_;subst b
 cases WS k
 exact⟨a⟩
theorem p7{c:Type}{l:List c}(h:l.length=2):L2 l:=by
 refine cw (qG h) λa t b k=>?_;subst b
 cases mi k
 exact⟨_,_⟩
theorem kd{c:Type}{l:List c}(h:l.length=3):L3 l:=by
 refine cw (qG h) λa t b k=>?_;subst b
 cases p7 k
 exact⟨_,_,_⟩
theorem ib{c:Type}{l:List c}(h:l.length=4):L4 l:=by
 refine cw (qG h) λa t b k=>?_;subst b
 cases kd k
 exact⟨_,_,_,_⟩
def rep:Nat->Nat->Prop->Prop
 |0,_,P=>P
 |k+1,x,P=>x=x/\rep k x P
def ae:List Nat->List Nat->Prop->Prop
 |k::a,x::b,P=>rep k (x+4)<|ae a b P
 |[],_,P=>P
 |_::_,[],P=>P
theorem KR{P:Prop}(h:P):∀k x,rep k x P:=by
 intro k;induction k with
 |zero=>intro b;exact h
 |succ k a=>intro x;exact⟨rfl,a x⟩
theorem ah{P:Prop}:∀{a b:List Nat},P->ae a b P
 |k::a,x::b,h=>KR (ah h) k<|x+4
 |[],_,h=>h
 |_::_,[],h=>h
theorem bz{P:Prop}(h:P)(a:List Nat){b:List Nat}:ae a b P:=ah h
noncomputable def ag(a:List va):S9:={cls:=.type "tuple",data:=.seq ⟨a⟩ 0}
noncomputable def aa(a:List va)(n:Nat):S9:={cls:=.type "list",data:=.seq ⟨a⟩ n}
noncomputable def ab(a:List SS)(n:Nat):S9:={cls:=.type "dict",data:=.dict ⟨a⟩ n}
noncomputable def ao(a:List SS)(n:Nat):S9:={cls:=.type "frame",data:=.dict ⟨a⟩ n}
noncomputable def av(T:String)(a:List va):S9:={cls:=.type T,data:=.fields ⟨a⟩}
def cu(w:W5)(s:SX):Int:=condFn Int s.cps.isEmpty 0<|PySem.W.ZFast.zw12210062019545310541<|w.params.strHash s.cps
theorem mQ(w:W5)(s:SX):cu w s=hashStr w s:=by
 unfold cu hashStr;rw[PySem.W.ZFast.ze12210062019545310541];cases s.cps.isEmpty<;>rfl
def kK(w:W5)(j:Nat):Option S9:=match Xa j 106 with
 |true=>none
 |false=>match Xa j 23 with
  |true=>none
  |false=>(jw w.params).get j
abbrev VE(a c:Bool)(w:W5)(d:Nat->Td->Led->Led->(Nat->aU)->Prop)(m:Nat)(Z:Led)(b:Nat)(R:aU):DV:=
 ⟨PySem.Challenge.pw_ph0122_01,br a c w,kK<|br a c w,d,m,Z,b,R⟩
def SP(w:W5)(b:Nat)(c:Td)(L Z:Led)(a:aU):Prop:=Spec PySem.Challenge.pw_ph0122_01 w (kK w) b c L Z a
def d7(w:W5)(b:Nat)(c:Td)(t:VM PySem.Fin)(L Z:Led)(a:aU):Prop:=Bk PySem.Challenge.pw_ph0122_01 w (kK w) b c t L Z a
noncomputable def bi(s:String)(l:List va):Td:=.builtin s ⟨l,[]⟩
noncomputable def cp(a:Nat)(l:List va):Td:=.call (.ref a) ⟨l,[]⟩
abbrev aA:=Td->Led->Led->(Nat->aU)->Prop
def i4:List aA->Nat->Td->Led->Led->(Nat->aU)->Prop
 |[],_,_,_,_,_=>False
 |c::l,n,co,sub,Z,K=>match n with
  |0=>c co sub Z K
  |n+1=>i4 l n co sub Z K
def aA.Ok(w:W5)(b:Nat)(C:aA):Prop:=∀c sub Z a,C c sub Z a->SP w b c sub Z λr o n F d=>∃i,a i r o n F d
theorem Cd:∀{l:List aA},(∀C∈l,aA.Ok w b C)->∀j c sub Z a,i4 l j c sub Z a->SP w b c sub Z λr o n F g=>∃i,a i r o n F g:=by
 intro l;induction l with
 |nil=>intro d d d d d d H;exact H.elim
 |cons C l f=>exact fun
  |h,0,c,sub,Z,a,H=>h C (.head _) c sub Z a H
  |h,n+1,c,sub,Z,a,H=>f (λC e=>h C<|.tail _ e) n c sub Z a H
theorem SP.of{w:W5}{i:List Nat}{L Z f:Led}(j:a+40<=b)(k:b<Vv)(m:∀C∈l,aA.Ok w b C)(o:∀p∈f,p∈Z)
  (H:∀g h N T,br g h w=w->mZ (VE g h w (i4 l) L.length Z a d) (je (VE g h w (i4 l) L.length Z a d) n) c .base i L [] f (N+4) (T+1)):SP w a c L Z d:=by
 have e:=BU w;refine Hr (n:=n) (g:=i) (h:=f) (f:=i4 l) j k (Cd m) o λN T=>?_
 have:=H (w.params.followText "special-get-raises") (w.params.followText "comprehension-iter-twice") N T e;unfold VE at this;rw[e] at this;exact this
theorem d7.of{w:W5}{t:VM PySem.Fin}{g:List Nat}{L Z a:Led}(j:d+40<=b)(k:b<Vv)(m:∀C∈l,aA.Ok w b C)(o:∀p∈a,p∈Z)
  (H:∀h i N T,br h i w=w->je (VE h i w (i4 l) L.length Z d f) n c .base t g L [] a (N+4) (T+1)):d7 w d c t L Z f:=by
 have e:=BU w;refine Ik (n:=n) (g:=g) (h:=a) (f:=i4 l) j k (Cd m) o λN T=>?_
 have:=H (w.params.followText "special-get-raises") (w.params.followText "comprehension-iter-twice") N T e;unfold VE at this;rw[e] at this;exact this
noncomputable def dec(B:Nat)(k n:Nat):List Nat:=Nat.rec (motive:=λa=>Nat->List Nat) (λa=>[]) (λa b n=>Nat.mod n B::b (Nat.div n B)) k n
def EN(w:W5)(L f:Led)(l:List aA)(c:Td)(a:List Nat)(d e:Bool)(N T:Nat)(Z:Led)(b:Nat)(R:aU):Prop:=
 mZ (VE d e w (i4 l) L.length Z b R) (je (VE d e w (i4 l) L.length Z b R) 1000000) c .base a L [] f (N+4) (T+1)
def TN(w:W5)(L d:Led)(l:List aA)(c:Td)(t:VM PySem.Fin)(a:List Nat)(e f:Bool)(N T:Nat)(Z:Led)(b:Nat)(R:aU):Prop:=
 je (VE e f w (i4 l) L.length Z b R) 1000000 c .base t a L [] d (N+4) (T+1)
abbrev Q7:=Bool->Bool->Nat->Nat->Led->Nat->aU->Prop
def CK(w:W5)(L f:Led)(l:List aA)(c:Td)(P:Q7):Prop:=∀ ⦃a:Nat⦄ ⦃Z:Led⦄ ⦃R:aU⦄ (b:Nat),a+40<=b->b<Vv->(∀C∈l,aA.Ok w b C)->(∀p∈f,p∈Z)->
 (∀d e N T,br d e w=w->P d e N T Z a R)->SP w a c L Z R
def a9(w:W5)(L f:Led)(l:List aA)(c:Td)(t:VM PySem.Fin)(P:Q7):Prop:=∀ ⦃a:Nat⦄ ⦃Z:Led⦄ ⦃R:aU⦄ (b:Nat),a+40<=b->b<Vv->(∀C∈l,aA.Ok w b C)->(∀p∈f,p∈Z)->
 (∀d e N T,br d e w=w->P d e N T Z a R)->d7 w a c t L Z R
theorem aV(B k n:Nat)(g:EN w L b l c (dec B k n) false=P false:=by kernel_rfl)(h:EN w L b l c (dec B k n) true=P true:=by kernel_rfl):CK w L b l c P:=
 λd d d d j i m o H=>SP.of j i m o λf a N T e=>match f with
  |false=>cast (congrFun (congrFun (congrFun (congrFun (congrFun (congrFun g a) N) T) _) _) _).symm<|H false a N T e
  |true=>cast (congrFun (congrFun (congrFun (congrFun (congrFun (congrFun h a) N) T) _) _) _).symm<|H true a N T e
theorem ba(B k n:Nat)(g:TN w L b l c t (dec B k n) false=P false:=by kernel_rfl)(h:TN w L b l c t (dec B k n) true=P true:=by kernel_rfl):a9 w L b l c t P:=
 λd d d d j i m o H=>d7.of j i m o λf a N T e=>match f with
  |false=>cast (congrFun (congrFun (congrFun (congrFun (congrFun (congrFun g a) N) T) _) _) _).symm<|H false a N T e
  |true=>cast (congrFun (congrFun (congrFun (congrFun (congrFun (congrFun h a) N) T) _) _) _).symm<|H true a N T e
theorem Spec.mono{w:W5}{s:Nat->Option S9}{L Z k:Led}(h:Spec t w s b c L Z i)(P:l<=b)(m:∀p∈Z,p∈k)
  (H:∀r a f F e,a.length=L.length->i r a f F e->(∀p∈e,p∈F++Z)->j r a f F e):Spec t w s l c L k j:=by
 intro A J C N T g d O M Q S hk G D R I;refine h A J C N T g d O M (by exact SQ ‹_› ‹_›) (by exact SQ ‹_› (V7 5 ‹_›)) hk (λp q=>G p<|m p q) D R ?_;intro r a f F e E x y B v n o u;refine I r a f F e E x y B (H _ _ _ _ _ n v o) n (λp q=>?_) u;rcases bB (o p q) with z|z
 ·exact bq z
 ·exact az<|m p z
theorem SP.mono{w:W5}{L Z g:Led}(h:SP w b c L Z e)(m:i<=b)(l:∀p∈Z,p∈g)
  (k:∀r a j F d,a.length=L.length->e r a j F d->(∀p∈d,p∈F++Z)->f r a j F d):SP w i c L g f:=Spec.mono h m l k
def Runs(w:W5):Prop:=∀(a b:Tf) (c:List WData) (h:List va) (i:List WO) (g:SX->Option va) (f:WO),obsZ pJ a=valZ mU 178 428 w->b.heap.Ns 3 g->g "law"=some (.ref f)->b.gens= #[]->
  Laid PySem.Challenge.rw_ph0122_01.row.toRowW.records w a b c h i->PySem.Challenge.rw_ph0122_01.row.toRowW.claim.pre c=true->
  To (Vy PySem.Challenge.pw_ph0122_01 w) callerA (PySem.call (.ref f) h) (λv d=>GoodWG PySem.Challenge.rw_ph0122_01.row.toRowW.claim (classAt a.heap) (Z0 a.heap) c b (H7 v) d) (λe d=>GoodWG PySem.Challenge.rw_ph0122_01.row.toRowW.claim (classAt a.heap) (Z0 a.heap) c b (.error e) d) b
theorem zm:∃w:W5,(∃b,¬Runs b)->¬Runs w:=by
 by_cases h:∃b,¬Runs b
 ·exact⟨_,λa=>h.choose_spec⟩
 ·exact⟨⟨λa a=>0,{strHash:=λa=>0,shareClass:=id,mergeTok:=id,idOf:=λa=>0,idOfShared:=λa a=>0,followText:=λa=>false,idOfImm:=λa=>0}⟩,λk=>absurd k h⟩
noncomputable def w:W5:=zm.choose
theorem gz(L:Led):a8 L (L.map (·.2))=L:=rT L L rfl
theorem vy{id:String}(c:Yp table id=some B):denote table (.builtin id a)=B a:=by
 show(match Yp table id with|some b=>b a|none=>unsupported<|(withoutEnding? id "#data").getD id)=_;rw[c]
noncomputable abbrev Pw:Y7:=PySem.Challenge.pw_ph0122_01
theorem SP.kN{id:String}{B:Tj}(m:Yp table id=some B)(o:plainId id=true)
  (h:∀(A:Wr) (a h:Vm) (N T:Nat) (g:GB) (d:YD) (c:WU) (R:Vz->Tf->Prop),A.handled=none->A.depth<=b->A.units<=5*b->KH a (kK w)->ep a Z->Rep a h L N->Behind f Z a L d c R->
   To (Vy Pw w) A.in1 (B e) (postC Pw w A R) (postE R) ⟨h,g,d,T+1,c⟩):SP w b (.builtin id e) L Z f:=by
 intro A a i N T g d c n l p hk k D R j;refine codeAny_of_tree ?_;show To (Vy Pw w) (A.under _) (denote table<|.builtin id e) _ _ _;rw[Wr.under_plainId o,vy m];exact h A a i N T g d c R n l p hk k D j
theorem SP.builtin{id:String}{B:Tj}(l:Yp table id=some B)(n:plainId id=true)
  (h:∀(A:Wr) (a h:Vm) (N T:Nat) (g:GB) (d:YD) (c:WU) (R:Vz->Tf->Prop),A.handled=none->A.units<=5*b->KH a (kK w)->ep a Z->Rep a h L N->Behind e Z a L d c R->
   To (Vy Pw w) A.in1 (B f) (postC Pw w A R) (postE R) ⟨h,g,d,T+1,c⟩):SP w b (.builtin id f) L Z e:=
 SP.kN l n λA a i N T g d c R m p o hk k D j=>h A a i N T g d c R m o hk k D j
theorem Behind.done{L:Led}{d:YD}{c:WU}{R:Vz->Tf->Prop}(e:Behind a Z b L d c R){g:GB}(f:a r (L.map (·.2)) [] [] [])(D:Rep b h L N):
  R r ⟨h,g,d,T+1,c⟩:=e _ _ _ _ _ _ _ _ _ f (by rw[aM]) (λi q=>nomatch q)<|by rw[gz,aP,aP];exact D
section
variable{b:Nat}{id:String}{B:Tj}{a:ZZ}{L Z:Led}{K:aU}
theorem SP.int(f:Yp table id=some B)(k:plainId id=true)(j:Gives (B a) (.int i))(e:∀t,K (H7<|.int i<|t+1) (L.map (·.2)) [] [] []):SP w b (.builtin id a) L Z K:=
 SP.builtin f k λA m h N T g d p R n o hk l D c=>j Pw w A R _<|c.done (T:=T+1) (e T) D
theorem SP.val(f:Yp table id=some B)(j:plainId id=true)(i:Gives (B a) (.val v))(e:K (H7 v) (L.map (·.2)) [] [] []):SP w b (.builtin id a) L Z K:=
 SP.builtin f j λA l h N T g d o R m n hk k D c=>i Pw w A R _<|c.done e D
end
noncomputable def r8(id x:String):Bool:=match PySem.W.S.strDecS id x with
 | .isTrue _=>true
 | .isFalse _=>false
theorem Mf{id x:String}(h:r8 id x=true):id=x:=by
 unfold r8 at h;cases e:PySem.W.S.strDecS id x with
 |isTrue p=>exact p
 |isFalse _=>rw[e] at h;cases h
def jP(c:Td)(f:String->List va->Prop):Prop:=match c with
 | .builtin id ⟨a,[]⟩=>f id a
 |_=>False
inductive A7(f:String->List va->Prop):Td->Prop
 |mk (id vs) (h:f id vs):A7 f (.builtin id ⟨vs,[]⟩)
theorem kU{f:String->List va->Prop}(h:jP c f):A7 f c:=by
 cases c with
 |builtin id a=>cases a with|mk d b=>cases b with
  |nil=>exact⟨_,_,h⟩
  |cons=>exact h.elim
 |_=>exact h.elim
def uJ(c:List va)(f:Int->Int->Prop):Prop:=match c with
 |[.int a _,.int b _]=>f a b
 |_=>False
inductive zk(f:Int->Int->Prop):List va->Prop
 |mk (a t b u) (h:f a b):zk f [.int a t,.int b u]
theorem B0{f:Int->Int->Prop}(h:uJ c f):zk f c:=by
 cases c with
 |nil=>exact h.elim
 |cons v l=>cases v with
  |int a t=>cases l with
   |nil=>exact h.elim
   |cons u r=>cases u with
    |int b u=>cases r with
     |nil=>exact⟨_,_,_,_,h⟩
     |cons=>exact h.elim
    |_=>exact h.elim
  |_=>exact h.elim
def qP(c:List va)(f:SX->Xi->SX->Xi->Prop):Prop:=match c with
 |[.str a t,.str b u]=>f a t b u
 |_=>False
inductive Ab(f:SX->Xi->SX->Xi->Prop):List va->Prop
 |mk (a t b u) (h:f a t b u):Ab f [.str a t,.str b u]
theorem uj{f:SX->Xi->SX->Xi->Prop}(h:qP c f):Ab f c:=by
 cases c with
 |nil=>exact h.elim
 |cons v l=>cases v with
  |str a t=>cases l with
   |nil=>exact h.elim
   |cons u r=>cases u with
    |str b u=>cases r with
     |nil=>exact⟨_,_,_,_,h⟩
     |cons=>exact h.elim
    |_=>exact h.elim
  |_=>exact h.elim
def fH(id x:String)(p q:Prop):Prop:=match r8 id x with
 |true=>p
 |false=>q
theorem gJ{id x:String}{p q:Prop}(h:fH id x p q):(id=x/\p)\/q:=by
 unfold fH at h;cases e:r8 id x with
 |true=>rw[e] at h;exact .inl ⟨Mf e,h⟩
 |false=>rw[e] at h;exact .inr h
def eR:aA:=λc sub f d=>jP c λid e=>uJ e λa b=>
 fH id "int.__floordiv__" ((0<b/\b<1073741824)/\∀t,d 0 (H7<|.int (a.fdiv b)<|t+1) (sub.map (·.2)) [] [] [])
  (fH id "int.__mod__" (0<b/\∀t,d 0 (H7<|.int (a.fmod b)<|t+1) (sub.map (·.2)) [] [] []) False)
def two(p:Prop)(a:Nat->aU)(sub:Led):Prop:=(p->a 0 (H7<|.bool true) (sub.map (·.2)) [] [] [])/\(¬p->a 1 (H7<|.bool false) (sub.map (·.2)) [] [] [])
def dX:aA:=λc sub f d=>jP c λid e=>uJ e λa b=>
 fH id "int.__lt__" (two (a<b) d sub) (fH id "int.__gt__" (two (b<a) d sub)<|fH id "int.__ge__" (two (b<=a) d sub)<|fH id "int.__eq__" (two (a=b) d sub) False)
theorem mr{id x:String}{a:Nat->aU}{p:Prop}[Decidable p](g:id=x)(d:Yp table x=some B)(f:plainId x=true)(e:Gives (B c) (.val<|.bool<|decide p))(H:two p a L):
  SP w b (.builtin id c) L Z λr o n F j=>∃i,a i r o n F j:=by
 subst g;refine SP.val d f e ?_;by_cases h:p
 ·rw[decide_eq_true h];exact⟨0,H.1 h⟩
 ·rw[decide_eq_false h];exact⟨1,H.2 h⟩
theorem lp:eR.Ok w b:=by
 intro c sub Z h H;replace H:=kU H;obtain⟨id,i,H⟩:=H;replace H:=B0 H;obtain⟨a,t,d,u,H⟩:=H;replace H:=gJ H;rcases H with⟨rfl,⟨f,g⟩,H⟩|H
 ·refine SP.int F.entry_int_floordiv (by decide+kernel) (AutoIntG4.int___floordiv___int_int_1 _ _ _ _ (λe=>?_) ?_) λt=>⟨0,H t⟩
  ·exact absurd (eq_of_beq e)<|Int.ne_of_gt f
  ·rw[PyProof.noPylong_small<|(Int.natAbs_lt_natAbs_of_nonneg_of_lt (Int.le_of_lt f) g:d.natAbs<(1073741824:Int).natAbs)];exact Vx
 ·replace H:=gJ H
  rcases H with⟨rfl,f,H⟩|H
  ·refine SP.int F.entry_int_mod (by decide+kernel) (AutoIntG6.int___mod___int_int_1 _ _ _ _ λe=>?_) λt=>⟨0,H t⟩
   exact absurd (eq_of_beq e) (Int.ne_of_gt f)
  ·exact H.elim
theorem mc:dX.Ok w b:=by
 intro c sub Z e H;replace H:=kU H;obtain⟨id,f,H⟩:=H;replace H:=B0 H;obtain⟨a,t,d,u,H⟩:=H;replace H:=gJ H;rcases H with⟨h,H⟩|H
 ·exact mr h F.entry_int_lt (by decide+kernel) (AutoIntG1.int___lt___int_int_0 _ _ _ _) H
 replace H:=gJ H;rcases H with⟨h,H⟩|H
 ·exact mr h F.entry_int_gt (by decide+kernel) (YW _ _ _ _) H
 replace H:=gJ H;rcases H with⟨h,H⟩|H
 ·exact mr h F.entry_int_ge (by decide+kernel) (YX _ _ _ _) H
 replace H:=gJ H;rcases H with⟨h,H⟩|H
 ·exact mr h F.entry_int_eq (by decide+kernel) (YY _ _ _ _) H
 ·exact H.elim
mutual
inductive Tells(Z:Led):va->Tg->Prop
 |none:Tells Z .none .none
 |bool (b):Tells Z (.bool b) (.bool b)
 |int (i t):Tells Z (.int i<|t+1) (.int i)
 |str (s t):Tells Z (.str s<|t+1) (.str s)
 |tup {a vs ds}:(a+4,ag vs)∈Z->ak Z vs ds->Tells Z (.ref<|a+4) (.tuple ds)
 |row {a i0 c e f t0 t1 h t3}:(a+4,ag [.int i0 t0,.int c t1,.int e h,.int f t3])∈Z->Tells Z (.ref<|a+4) (.tuple [.int i0,.int c,.int e,.int f])
 |kv {a s t v d}:(a+4,ag [.str s t,v])∈Z->Tells Z v d->Tells Z (.ref<|a+4) (.tuple [.str s,d])
 |lst {a vs n ds}:(a+4,aa vs n)∈Z->ak Z vs ds->Tells Z (.ref<|a+4) (.list ds)
 |iW {a es n g}:(a+4,ab es n)∈Z->n=es.length->a7 Z es g->Tells Z (.ref<|a+4) (.dict g)
inductive ak(Z:Led):List va->List Tg->Prop
 |nil:ak Z [] []
 |cons {v vs d ds}:Tells Z v d->ak Z vs ds->ak Z (v::vs) (d::ds)
inductive a7(Z:Led):List SS->List (Tg×Tg)->Prop
 |nil:a7 Z [] []
 |cons {k t v d es a}:Tells Z v d->a7 Z es a->a7 Z (⟨cu w k,.str k<|t+1,v⟩::es) ((.str k,d)::a)
end
def BW(o:S9):Prop:=o.cls= .type "tuple"\/o.cls= .type "list"\/o.cls= .type "dict"
theorem Tells.zQ(s:∀p∈Z,BW p.2->p∈f){v:va}{d:Tg}(h:Tells Z v d):Tells f v d:=
 h.rec (motive_1:=λv d c=>Tells f v d) (motive_2:=λj g c=>ak f j g) (motive_3:=λi l c=>a7 f i l) .none .bool .int .str (λh c r=>.tup (s _ h<|.inl rfl) r) (λh=>.row<|s _ h<|.inl rfl) (λh c r=>.kv (s _ h<|.inl rfl) r) (λh c r=>.lst (s _ h<|.inr<|.inl rfl) r) (λh e c r=>.iW (s _ h<|.inr<|.inr rfl) e r) .nil (λc c a b=>.cons a b) .nil (λc c a b=>.cons a b)
theorem Tells.sub(s:∀p∈Z,p∈Z'){v:va}{d:Tg}(h:Tells Z v d):Tells Z' v d:=h.zQ λp q a=>s p q
theorem ak.ind{P:List va->List Tg->Prop}(n:P [] [])(c:∀{v e d b},Tells Z v d->ak Z e b->P e b->P (v::e) (d::b)){e b}(h:ak Z e b):P e b:=
 h.rec (motive_1:=λa a a=>True) (motive_2:=λe b a=>P e b) (motive_3:=λa a a=>True) trivial (λa=>trivial) (λa a=>trivial) (λa a=>trivial) (λa a a=>trivial) (λa=>trivial) (λa a a=>trivial) (λa a a=>trivial) (λa a a a=>trivial) n (λh r a i=>c h r i) trivial λa a a a=>trivial
theorem a7.ind{P:List SS->List (Tg×Tg)->Prop}(n:P [] [])(c:∀{k t v d b l},Tells Z v d->a7 Z b l->P b l->P (⟨cu w k,.str k<|t+1,v⟩::b) ((.str k,d)::l)){b l}(h:a7 Z b l):P b l:=
 h.rec (motive_1:=λa a a=>True) (motive_2:=λa a a=>True) (motive_3:=λb l a=>P b l) trivial (λa=>trivial) (λa a=>trivial) (λa a=>trivial) (λa a a=>trivial) (λa=>trivial) (λa a a=>trivial) (λa a a=>trivial) (λa a a a=>trivial) trivial (λa a a a=>trivial) n λh r a i=>c h r i
theorem ak.sub(s:∀p∈Z,p∈Z'){b:List va}{a:List Tg}(h:ak Z b a):ak Z' b a:=h.ind .nil λh c r=>.cons (h.sub s) r
theorem a7.sub(s:∀p∈Z,p∈Z'){a:List SS}{b:List (Tg×Tg)}(h:a7 Z a b):a7 Z' a b:=h.ind .nil λh c r=>.cons (h.sub s) r
theorem Tells.more(h:Tells Z v d):Tells (F++Z) v d:=h.sub λa q=>az q
theorem ak.more(h:ak Z v d):ak (F++Z) v d:=h.sub λa q=>az q
theorem ak.len{b:List va}{a:List Tg}(h:ak Z b a):b.length=a.length:=h.ind (P:=λb a=>b.length=a.length) rfl λc c e=>congrArg Za e
theorem ak.app(h:ak Z c b)(f:ak Z e d):ak Z (c++e) (b++d):=
 h.ind (P:=λc b=>ak Z (c++e)<|b++d) f λa g r=>.cons a r
theorem ak.get{Z:Led}{c:List va}{b:List Tg}{i:Nat}{d:Tg}(h:ak Z c b):b[i]?=some d->∃v,c[i]?=some v/\Tells Z v d:=
 h.ind (P:=λc b=>∀i,b[i]?=some d->∃v,c[i]?=some v/\Tells Z v d) (λf e=>absurd (Vf e) Vn) (λ{v _ _ _} a f r i=>match i with
  |0=>λe=>aX v rfl (WD e▸a)
  |i+1=>r i) i
theorem ak.lW(h:ak Z b (d::c)){P:Prop}(M:List va->Prop)(m:M b)(k:∀v b,Tells Z v d->M (v::b)->ak Z b c->P):P:=by
 cases h with|cons a r=>exact k _ _ a m r
theorem ak.jU{i:Int}(h:ak Z b (.int i::c)){P:Prop}(M:List va->Prop)(m:M b)(k:∀t b,M (.int i (t+1)::b)->ak Z b c->P):P:=
 h.lW M m λv b a m r=>by cases a;exact k _ _ m r
theorem ak.OH(h:ak Z b (.str i::c)){P:Prop}(M:List va->Prop)(m:M b)(k:∀t b,M (.str i (t+1)::b)->ak Z b c->P):P:=
 h.lW M m λv b a m r=>by cases a;exact k _ _ m r
theorem ak.tC(h:ak Z a []){P:Prop}(M:List va->Prop)(m:M a)(k:M []->P):P:=by
 cases h;exact k m
theorem Tells.qy(h:Tells Z v (.tuple b)){P:Prop}(k:∀a g,v= .ref (a+4)->(a+4,ag g)∈Z->ak Z g b->P)
  (i:∀a i0 c e f l m n o,b=[.int i0,.int c,.int e,.int f]->v= .ref (a+4)->(a+4,ag [.int i0 l,.int c m,.int e n,.int f o])∈Z->P) (j:∀s d,b=[.str s,d]->P):P:=by
 cases h with
 |tup h r=>exact k _ _ rfl h r
 |row h=>exact i _ _ _ _ _ _ _ _ _ rfl rfl h
 |kv h r=>exact j _ _ rfl
noncomputable def item(p:Int×SX):Tg:=.tuple [.int p.1,.str p.2]
theorem Tells.dQ{p:Int×SX}(h:Tells Z v (item p)):∃a t u,v= .ref (a+4)/\(a+4,ag [.int p.1<|t+1,.str p.2<|u+1])∈Z:=by
 exact Tells.qy (show Tells Z v (.tuple [.int p.1,.str p.2]) from h) (λa d e c r=>r.jU (λv=>(a+4,ag v)∈Z) c λt d c r=>r.OH (λv=>(a+4,ag (_::v))∈Z) c λu d c r=>r.tC (λv=>(a+4,ag (_::_::v))∈Z) c λc=>⟨a,t,u,e,c⟩)
  (λb b b b b b b b b e=>nomatch e) λb b e=>nomatch e
theorem Tells.ng{m:Int}(h:(a+4,ag [.int m<|t+1,.str s<|u+1])∈Z):Tells Z (.ref<|a+4) (item (m,s)):=
 .tup h (.cons (.int _ _)<|.cons (.str _ _) .nil)
noncomputable def js(i:Int):List (Int×SX)->Nat
 |[]=>0
 |[a]=>if i<a.1 then 0 else 1
 |[a,b]=>if i<b.1 then(if i<a.1 then 0 else 1) else 2
 |[a,b,c]=>if i<b.1 then(if i<a.1 then 0 else 1) else(if i<c.1 then 2 else 3)
 |_=>0
noncomputable def eJ{a:Type}(k:Nat)(x:a)(l:List a):List a:=l.take k++x::l.drop k
theorem ak.eJ(k:Nat):∀{c:List va} {a:List Tg},ak Z c a->Tells Z v d->ak Z (eJ k v c) (eJ k d a):=by
 induction k with
 |zero=>intro c a h b;exact .cons b h
 |succ k e=>
  intro c a h b;cases h with
  |nil=>exact .cons b .nil
  |cons h r=>exact .cons h<|e r b
def Hf(a x n:Nat):Q7:=λc d N T Z b R=>ae [14,3,5,3,13,3,6,3,4,2,4] [N,N+1,x,N,N+2,a,N+2,N,a,N,a]<|R (H7<|.none) [aa [.ref<|x+4]<|n+1] [] [] []
theorem Ob(a x n d c:Nat)(i:Int)(b:SX):CK w [(a+4,aa [] n)] [(x+4,ag [.int i<|d+1,.str b<|c+1])] [eR,dX] (Vh (.ref 44) ⟨[.ref<|a+4,.ref<|x+4],[("key",.ref 118)]⟩) (Hf a x n):=aV 355 97 0x14377f252bdf7be5046d582f2adb0248b3088e26d7d19ea109353b67456dac8e0a197bcbe4ac0362f6a90f771cd4a050b94e3692c3bf9823913632d4bfcf5aff76eeaa3f4ea23339a45f896b8305005aa6af3c87b069420e26a46b7d9fd2b5540adabf54
def Sm(a x n p0:Nat)(i c:Int):Q7:=λk l N T Z b R=>ae [14,3,5,3,13,3,7] [N,N+1,x,N,N+2,a,N+2] ((((0:Int)<(2:Int))/\((2:Int)<(1073741824:Int)))/\∀m:Xi,∀d g:Nat,ae [6,5,3,5] [N+2,a,d,p0]<|((i<c)->∀e h:Nat,ae [6,3,4,2,4] [N+2,N,a,N,a]<|R (H7<|.none) [aa [.ref<|x+4,.ref<|p0+4]<|n+1] [] [] [])/\((¬(i<c))->∀f j:Nat,ae [6,3,4,2,4] [N+2,N,a,N,a]<|R (H7<|.none) [aa [.ref<|p0+4,.ref<|x+4]<|n+1] [] [] []))
theorem It(a x n b j g h f:Nat)(i c:Int)(e d:SX):CK w [(a+4,aa [.ref<|b+4] n)] [(x+4,ag [.int i<|j+1,.str e<|g+1]),(b+4,ag [.int c<|h+1,.str d<|f+1])] [eR,dX] (Vh (.ref 44) ⟨[.ref<|a+4,.ref<|x+4],[("key",.ref 118)]⟩) (Sm a x n b i c):=aV 355 176 0x307f3b40d24ac96cdb5d85199bd2c89ad6458f5ed60ebf6908ac5a9ff9dbccb5e87eb5c51bbda88bf1701c8444099b00f2bd31978ab782de849dd466173ba8c803fc0f4d7ec6c0106651f958a7b3837d16772c21bb315d19fc10de682c08ff3d53eecd2977c65923b082882ff077b4d2f0f674250db49aeb0339c1925a23989c6f9667f11757780fbff7d8e409db4ced4f505d2f65c71461900ef9943c80e696f43ab5193c27f03ae60bbfbc675078ae8cb11358f8ec855
def GO(a x n p0 c:Nat)(i d e:Int):Q7:=λt u N T Z b R=>ae [14,3,5,3,13,3,7] [N,N+1,x,N,N+2,a,N+2] ((((0:Int)<(2:Int))/\((2:Int)<(1073741824:Int)))/\∀v:Xi,∀f m:Nat,ae [6,5,3,5] [N+2,a,f,c]<|((i<e)->∀h o:Nat,ae [7] [N+2] ((((0:Int)<(2:Int))/\((2:Int)<(1073741824:Int)))/\∀w:Xi,∀g p:Nat,ae [6,5,3,5] [N+2,a,g,p0]<|((i<d)->∀j q:Nat,ae [6,3,4,2,4] [N+2,N,a,N,a]<|R (H7<|.none) [aa [.ref<|x+4,.ref<|p0+4,.ref<|c+4]<|n+1] [] [] [])/\((¬(i<d))->∀k r:Nat,ae [6,3,4,2,4] [N+2,N,a,N,a]<|R (H7<|.none) [aa [.ref<|p0+4,.ref<|x+4,.ref<|c+4]<|n+1] [] [] [])))/\((¬(i<e))->∀l s:Nat,ae [6,3,4,2,4] [N+2,N,a,N,a]<|R (H7<|.none) [aa [.ref<|p0+4,.ref<|c+4,.ref<|x+4]<|n+1] [] [] []))
theorem K2(a x n b c p l m o j k:Nat)(i d e:Int)(h f g:SX):CK w [(a+4,aa [.ref<|b+4,.ref<|c+4] n)] [(x+4,ag [.int i<|p+1,.str h<|l+1]),(b+4,ag [.int d<|m+1,.str f<|j+1]),(c+4,ag [.int e<|o+1,.str g<|k+1])] [eR,dX] (Vh (.ref 44) ⟨[.ref<|a+4,.ref<|x+4],[("key",.ref 118)]⟩) (GO a x n b c i d e):=aV 355 255 0x745641d0ff210923a1155c7f596ee9d166329c4d1ac23b3a60fde65bdc082e23f906f736e5048295158001060d191481e625c03abd9b7eecd54ff5f610d596120f0ef2561240e1eb49e435614adc5b6c98f86f076d80e9eaec9eec27e94945454922919359765bf51f1fde263104b514f30c146813098775e65229f1cbfe6bc5dc250bfcf1faf2ad2a4bc6a9c10e722ad44a6f265d1c11c987ddc5f9141989e2dc24e1ec100eeb7ba62a6ba4cdc7c0d1cd57ad0e15c4659c0aab961f379080b80ea0073af0be96918a8cf56a5dcfcb9398e3854da5357c3f624be3da9f6f5a624393b74ccf41b75b1e5ee182e52b5306a3176823cfb6dc21b41ff7a68f938551bf61fc0d9216ef1fdcd80b
def MX(a x n p0 c d:Nat)(i e f g:Int):Q7:=λC D N T Z b R=>ae [14,3,5,3,13,3,7] [N,N+1,x,N,N+2,a,N+2] ((((0:Int)<(2:Int))/\((2:Int)<(1073741824:Int)))/\∀E:Xi,∀h s:Nat,ae [6,5,3,5] [N+2,a,h,c]<|((i<f)->∀l t:Nat,ae [7] [N+2] ((((0:Int)<(2:Int))/\((2:Int)<(1073741824:Int)))/\∀F:Xi,∀j u:Nat,ae [6,5,3,5] [N+2,a,j,p0]<|((i<e)->∀m v:Nat,ae [6,3,4,2,4] [N+2,N,a,N,a]<|R (H7<|.none) [aa [.ref<|x+4,.ref<|p0+4,.ref<|c+4,.ref<|d+4]<|n+1] [] [] [])/\((¬(i<e))->∀o w:Nat,ae [6,3,4,2,4] [N+2,N,a,N,a]<|R (H7<|.none) [aa [.ref<|p0+4,.ref<|x+4,.ref<|c+4,.ref<|d+4]<|n+1] [] [] [])))/\((¬(i<f))->∀p y:Nat,ae [7] [N+2] ((((0:Int)<(2:Int))/\((2:Int)<(1073741824:Int)))/\∀G:Xi,∀k z:Nat,ae [6,5,3,5] [N+2,a,k,d]<|((i<g)->∀q A:Nat,ae [6,3,4,2,4] [N+2,N,a,N,a]<|R (H7<|.none) [aa [.ref<|p0+4,.ref<|c+4,.ref<|x+4,.ref<|d+4]<|n+1] [] [] [])/\((¬(i<g))->∀r B:Nat,ae [6,3,4,2,4] [N+2,N,a,N,a]<|R (H7<|.none) [aa [.ref<|p0+4,.ref<|c+4,.ref<|d+4,.ref<|x+4]<|n+1] [] [] []))))
theorem Kb(a x n b c d u q r s t m o p:Nat)(i e f g:Int)(l h j k:SX):CK w [(a+4,aa [.ref<|b+4,.ref<|c+4,.ref<|d+4] n)] [(x+4,ag [.int i<|u+1,.str l<|q+1]),(b+4,ag [.int e<|r+1,.str h<|m+1]),(c+4,ag [.int f<|s+1,.str j<|o+1]),(d+4,ag [.int g<|t+1,.str k<|p+1])] [eR,dX] (Vh (.ref 44) ⟨[.ref<|a+4,.ref<|x+4],[("key",.ref 118)]⟩) (MX a x n b c d i e f g):=aV 355 334 0x117131e092af55ff55e1c0ce918fa4d833067b06e925a3bbfe3148812e021980469e942a5d47bc91876fc6f544a5058ddde846d312a86d9e0bdabde546ad3254958139437cbc910f5bb43528d4572d3fe39aa928ae835b768e89a698c907e9589ae8e07d8054335daa0bcafcb18ac30a28fa53f180c32351e154cb71c0620446b10ced34d63dd08a3b90a04788353012db8c273ed471951dad2e52e566a738a5e7c6a08dce92cb0f46a73a22cf6382faa23345e3c3b1d6f99bed2c1e698742a44ced5f504102c8d9bb2843b7249d6e3f6b343a7a8351d186ad6b07ddd234a86c3669c0672a06e7d762ffa44462a491f8c0a19fdb77aa9ff356a5d02b05ae4491e76e25f45b3829e80041c1f8d5e11c0c51c23c54cd16ece9b7f112c468d41f1bc375fa02f20b6c4b7bd6a37faca55c3f2ef7b5fae4bd0d2dedece933a1373d6bdb451cee1d52da6d5e23d82758b545830fd7b135d71c7629e59cc9ff5696ca
theorem ay:∀C∈([]:List aA),aA.Ok w b C:=λa h=>nomatch h
theorem aj{C:aA}(h:C.Ok w b)(r:∀C∈l,aA.Ok w b C):∀D∈C::l,aA.Ok w b D:=λD q=>by
 rcases bK q with rfl|q
 ·exact h
 ·exact r D q
def Rv(v:va)(c:List S9):aU:=λr b a F d=>r= .ok (.ret v)/\b=c/\a=[]/\F=[]/\d=[]
theorem Rv.mk(e:b=a):Rv v a (H7 v) b [] [] []:=⟨rfl,e,rfl,rfl,rfl⟩
def Ri(i:Int)(c:List S9):aU:=λr b a F d=>∃u,Rv (.int i<|u+1) c r b a F d
theorem Ri.mk(e:c=b)(h:a=i):Ri i b (H7<|.int a<|u+1) c [] [] []:=⟨u,by rw[h];exact Rv.mk e⟩
theorem fz{a:Type}{P:a->Prop}:∀p∈([]:List a),P p:=λb h=>nomatch h
theorem fc{b:Type}{P:b->Prop}{a:b}{l:List b}(h:P a)(t:∀p∈l,P p):∀p∈a::l,P p:=λp q=>(bK q).elim (λe=>e▸h)<|t p
theorem ax{Z:Led}:∀p∈([]:Led),p∈Z:=fz
theorem aq{Z:Led}{p:WO×S9}{l:Led}(h:p∈Z)(r:∀p∈l,p∈Z):∀q∈p::l,q∈Z:=fc h r
noncomputable abbrev Lh(a:WO)(x:va):Td:=.call (.ref 44) ⟨[.ref a,x],[("key",.ref 118)]⟩
theorem rE:((0:Int)<2/\(2:Int)<1073741824):=⟨by decide,by decide⟩
theorem Jd(q:b+40<=960)(M:j.length<=3)(f:ak Z G (j.map item))(O:Tells Z x (item p)):
  SP w b (Lh (a+4) x) [(a+4,aa G n)] Z (Rv .none [aa (eJ (js p.1 j) x G)<|n+1]):=by
 refine c0 O.dQ λo v u d s=>?_;subst d
 have r:∀C∈[eR,dX],aA.Ok w 960 C:=aj lp<|aj mc ay;rcases j with _|⟨p0,_|⟨t,_|⟨H,_|⟨U,j⟩⟩⟩⟩
 ·cases f
  exact Ob a o n v u p.1 p.2 _ q (zd rfl) r (aq s ax) λz A N T e=>bz (Rv.mk rfl) _
 ·rcases f with _|⟨i,f⟩
  cases f
  refine c0 i.dQ λg m l d k=>?_;subst d
  refine It a o n g v u m l p.1 p0.1 p.2 p0.2 _ q (zd rfl) r (aq s<|aq k ax) λz A N T e=>?_
  repeat' (first|refine bz ?_ _|refine⟨rE,λc c c=>?_⟩|(refine⟨λh c c=>?_,λh c c=>?_⟩)|fail)
  all_goals exact Rv.mk (by delta js;dsimp only;repeat (first|rfl|rw[if_pos<|by assumption]|rw[if_neg<|by assumption]|rw[if_neg<|by lia]|rw[if_pos<|by lia]))
 ·rcases f with _|⟨i,_|⟨B,f⟩⟩
  cases f
  refine c0 i.dQ λg m l d k=>?_;subst d
  refine c0 B.dQ λy F E d D=>?_;subst d
  refine K2 a o n g y v u m F l E p.1 p0.1 t.1 p.2 p0.2 t.2 _ q (zd rfl) r (aq s<|aq k<|aq D ax) λz A N T e=>?_
  repeat' (first|refine bz ?_ _|refine⟨rE,λc c c=>?_⟩|(refine⟨λh c c=>?_,λh c c=>?_⟩)|fail)
  all_goals exact Rv.mk (by delta js;dsimp only;repeat (first|rfl|rw[if_pos<|by assumption]|rw[if_neg<|by assumption]|rw[if_neg<|by lia]|rw[if_pos<|by lia]))
 ·rcases f with _|⟨i,_|⟨B,_|⟨J,f⟩⟩⟩
  cases f
  refine hide λS L=>c0 i.dQ λg m l d k=>?_;subst d
  refine c0 B.dQ λy F E d D=>?_;subst d
  refine c0 J.dQ λI R Q d P=>?_;subst d
  refine L<|Kb a o n g y I v u m F R l E Q p.1 p0.1 t.1 H.1 p.2 p0.2 t.2 H.2 _ q (zd rfl) r (aq s<|aq k<|aq D<|aq P ax) λz A N T e=>?_
  repeat' (first|refine bz ?_ _|refine⟨rE,λc c c=>?_⟩|(refine⟨λh c c=>?_,λh c c=>?_⟩)|fail)
  all_goals exact Rv.mk (by delta js;dsimp only;repeat (first|rfl|rw[if_pos<|by assumption]|rw[if_neg<|by assumption]|rw[if_neg<|by lia]|rw[if_pos<|by lia]))
 ·simp only[bT] at M;lia
noncomputable def ef:List (Int×SX)->Nat
 |[a,b,c,d]=>if c.1<1 then(if d.1<1 then 4 else 3) else if b.1<1 then 2 else if a.1<1 then 1 else 0
 |_=>0
noncomputable abbrev EY(a:WO)(t:Xi):Td:=.call (.ref 62) ⟨[.ref a,.int 1 t],[("key",.ref 118)]⟩
section
variable{a:Y7}{A:Wr}{E:va->Tf->Prop}{s:Tf}{Q:PySem.Fin->Tf->Prop}
theorem CJ{R:Option Int->Tf->Prop}(c:s.heap.get? b=some (av "slice" [d,f,e]))(h:R none s):To (Vy a w) A (VY<|.ref b) R E s:=by
 unfold VY;refine SU<|wpAny_specialOf (aX _ c rfl) slice_no_index ?_;simp only[Option.isNone_none,if_true];exact Te h
theorem CB{i g st:Option Int}{R:va×va×va->Tf->Prop}(b:s.heap.get? j=some (av "slice" [d,f,e]))(n:IsPart d i)(o:IsPart f g)(ps:IsPart e st)(k:st≠some 0)
  (h:R (rawPart i,rawPart g,rawPart st) s):To (Vy a w) A (Tj.List.listSliceParts<|.ref j) R E s:=by
 rw[listSliceParts_eq];have m:¬((rawPart st==Wy 0)=true):=by
  cases st with
  |none=>exact Vx
  |some c=>exact λl=>k<|by rw[show c=0 by simpa[rawPart,Wy] using l]
 refine bF b rfl (x:=e) rfl (SU<|wpAny_listPart ps ?_);exact wN m<|bF b rfl (x:=d) rfl (SU<|wpAny_listPart n<|bF b rfl (x:=f) rfl (SU<|wpAny_listPart o<|Te h))
theorem zf{R:Array va->Tf->Prop}(c:s.heap.get? l=some (aa b n))(h:R ⟨b⟩ s):To (Vy a w) A (Wj<|.ref l) R E s:=by
 unfold Wj;exact bI c rfl (Te h)
theorem ux{e:List va}{c b st:Option Int}(m:s.heap.get? l=some (aa e n))(f:s.heap.get? d=some (av "slice" [i,k,j]))
  (p:IsPart i c) (q:IsPart k b) (ps:IsPart j st) (g:st≠some 0) (o:e.length<=VZ)
  (h:Q (.done<|.ret<|.ref s.heap.objs.size) {s with heap:=s.heap.push {cls:=.type "list",data:=.seq (XG ⟨e⟩ c b st)}}):
  To (Vy a w) A (Tj.«list.__getitem__» ⟨[.ref l,.ref d],[]⟩) Q E s:=by
 show To _ _ (VY (.ref d)>>=_) _ _ s;refine SU<|CJ f ?_;show To _ _ (typeOf (.ref d)>>=_) _ _ s;exact SU<|Zu (aX _ f rfl)<|wN (by decide)<|SU<|CB f p q ps g<|SU<|zf m<|SU<|wpAny_of_eq (sliceIndices_raw c b st _ g)<|SU<|YK (Te h)<|SQ (slicePick_size_le ⟨e⟩ c b st) o
theorem Ls{Q:Unit->Tf->Prop}(h:Q () s):∀(c b:List va),To M A (letGo c b) Q E s:=by
 intro c;induction c with
 |nil=>intro e;exact Te h
 |cons e rest d=>
  intro b;unfold letGo;exact bH<|wpAny_point<|d b
theorem E8{c:Type}{g:Nat->Bool}{x:c}{b:List c}(e:g 0=true)(h:∀k,g (k+1)=false):((x::b).zipIdx.filterMap λp=>match p with|(x,k)=>if g k=true then none else some x)=b:=by
 have d:∀(b:List c) (n:Nat),((b.zipIdx<|n+1).filterMap λp=>match p with|(x,k)=>if g k=true then none else some x)=b:=by
  intro b;induction b with
  |nil=>intro n;rfl
  |cons i l f=>
   intro n;rw[List.zipIdx_cons,Yk];simp only[h n,W9,if_false];rw[f<|n+1]
 rw[List.zipIdx_cons,Yk];simp only[e,if_true];exact d b 0
theorem LW{c:List va}{t:Xi}(e:s.heap.get? l=some (aa (x::c) n))(d:s.heap.get? b=some (av "slice" [.none,.int 1 t,.none]))(g:c.length+1<=VZ)
  (h:∀f:Array va->Array va,f ⟨x::c⟩=⟨c⟩->Q (.done<|.ret .none) {s with heap:=s.heap.update l (Vr f)}):
  To (Vy a w) A (Tj.«list.__delitem__» ⟨[.ref l,.ref b],[]⟩) Q E s:=by
 show To _ _ (VY (.ref b)>>=_) _ _ s;refine SU<|CJ d ?_;show To _ _ (typeOf (.ref b)>>=_) _ _ s;refine SU<|Zu (aX _ d rfl)<|wN (by decide)<|SU<|CB d .none (.int 1 t) .none (by simp)<|SU<|zf e<|SU<|wpAny_of_eq (a:=((0:Int),(1:Int),(1:Int))) ((sliceIndices_raw none (some 1) none _<|by simp).trans<|congrArg pure ?_) ?_
 ·simp[YE]
  lia
 refine bR<|SU (m:=Wt (.ref l) _)<|WE e rfl (SU<|Ls (Te<|h _ ?_) _ _) g ?_
 ·show Array.mk _=_
  refine congrArg Array.mk (E8 rfl λk=>?_);show(if(1:Int)>0 then decide ((0:Int)<=((k+1:Nat):Int))&&decide (((k+1:Nat):Int)<1)&&((((k+1:Nat):Int)-0) % 1==0) else _)=false;rw[if_pos<|by decide,decide_eq_false (by lia:¬((k+1:Nat):Int)<1),Bool.and_false,Bool.false_and]
 ·rw[ZW]
  refine SQ (List.length_filterMap_le _ _) ?_;rw[List.length_zipIdx];exact Ve g
end
theorem Behind.alloc{L:Led}{d:YD}{c:WU}{R:Vz->Tf->Prop}(e:Behind a Z b L d c R){h:Vm}{g:GB}{o:S9}(i:o.isFreed=false)(D:Rep b h L N)
  (f:a r (L.map (·.2)) [(N,o)] [] []):R r ⟨h.push o,g,d,T+1,c⟩:=e _ _ _ _ _ _ _ _ _ f (by rw[aM]) (λj q=>nomatch q)<|by rw[gz,aP];exact D.alloc i
noncomputable def Dp(d:ZP):Option (List va×Nat):=match d with
 | .seq a n=>some (a.toList,n)
 |_=>none
noncomputable def AS(v:va):Option String:=match v with
 | .type t=>some t
 |_=>none
theorem Fc{d:ZP}{p:List va×Nat}:Dp d=some p->d= .seq ⟨p.1⟩ p.2:=by
 cases d with
 |seq a n=>exact λh=>by cases h;rfl
 |_=>exact λh=>absurd h.symm<|Yl p
theorem J1{o:S9}(b:o.cls= .type "list")(c:o.dict=none)(d:o.data= .seq ⟨a⟩ n)(e:o.slots.toList=[]):o=aa a n:=by
 obtain⟨f,h,g,⟨i⟩⟩:=o;cases b;cases c;cases d;cases e;rfl
theorem Qa{t:String}:AS v=some t->v= .type t:=by
 cases v with
 |type a=>exact λh=>congrArg _<|WD h
 |_=>exact λh=>absurd h.symm<|Yl t
def qa{a:Type}(o:Option a)(P:a->Prop):Prop:=match o with
 |some x=>P x
 |none=>False
theorem rU{a:Type}{o:Option a}{P:a->Prop}{G:Prop}(H:qa o P)(k:∀x,o=some x->P x->G):G:=by
 cases o with
 |some x=>exact k x rfl H
 |none=>exact H.elim
def Ca{a:Type}(o:Option a)(P:Prop):Prop:=match o with
 |some _=>False
 |none=>P
theorem GX{a:Type}{o:Option a}{P G:Prop}(H:Ca o P)(k:o=none->P->G):G:=by
 cases o with
 |some x=>exact H.elim
 |none=>exact k rfl H
def qQ{a:Type}(o:List a)(P:Prop):Prop:=match o with
 |_::_=>False
 |[]=>P
theorem uP{a:Type}{o:List a}{P G:Prop}(H:qQ o P)(k:o=[]->P->G):G:=by
 cases o with
 |nil=>exact k rfl H
 |cons _ _=>exact H.elim
def q7(sub:Led)(f:WO->List va->Nat->Prop):Prop:=match sub with
 |[]=>False
 |p::r=>qQ r<|qa (AS p.2.cls) λt=>Ca p.2.dict<|qa (Dp p.2.data) λq=>qQ p.2.slots.toList<|fH t "list" (f p.1 q.1 q.2) False
inductive Lx(f:WO->List va->Nat->Prop):Led->Prop
 |mk (l vs n) (h:f l vs n):Lx f [(l,aa vs n)]
theorem Lx.of{f:WO->List va->Nat->Prop}{p:WO×S9}(e:p.2=aa a n)(h:f p.1 a n):Lx f [p]:=by
 obtain⟨l,o⟩:=p;cases e
 exact⟨_,_,_,h⟩
theorem um{sub:Led}{f:WO->List va->Nat->Prop}(h:q7 sub f):Lx f sub:=by
 cases sub with
 |nil=>exact h.elim
 |cons p r=>exact uP h λe h=>rU h λt a h=>GX h λb h=>rU h λq c h=>uP h λd h=>e▸(gJ h).elim (λh=>.of (J1 (h.1▸Qa a) b (Fc c) d) h.2) False.elim
noncomputable def DN(v:va):Option WO:=match v with
 | .ref l=>some l
 |_=>none
theorem Q0:DN v=some l->v= .ref l:=by
 cases v with
 |ref a=>exact λh=>congrArg _<|WD h
 |_=>exact λh=>absurd h.symm<|Yl l
def tV(a:List va)(f:WO->List va->Prop):Prop:=match a with
 |v::r=>qa (DN v) λl=>f l r
 |[]=>False
inductive Rx(f:WO->List va->Prop):List va->Prop
 |mk (l r) (h:f l r):Rx f (.ref l::r)
theorem xr{f:WO->List va->Prop}(h:tV a f):Rx f a:=by
 cases a with
 |nil=>exact h.elim
 |cons v r=>exact rU h λl e h=>by cases Q0 e;exact⟨_,_,h⟩
def ue(a:List va)(p:Prop):Prop:=match a with
 |[]=>p
 |_::_=>False
theorem CT{p:Prop}(h:ue [] p):p:=h
def xj(a:List va)(f:va->List va->Prop):Prop:=match a with
 |x::r=>f x r
 |[]=>False
theorem O5{f:va->List va->Prop}(h:xj (x::r) f):f x r:=h
theorem Rep.seq{f:Array va->Array va}(D:Rep d h ((l,aa a n)::L) N)(g:f ⟨a⟩=⟨b⟩)(j:b.length≠a.length):
  Rep d (h.update l<|Vr f) ((l,aa b<|n+1)::L) N:=by
 have e:Vr f (aa a n)=aa b (n+1):=by
  unfold Vr aa;simp only[g];rw[show((⟨b⟩:Array va).size==(⟨a⟩:Array va).size)=false from beq_eq_false_iff_ne.mpr j];rfl
 have c:=D.update (i:=0) (f:=Vr f) rfl (by rw[e];rfl);rw[e] at c;exact c
theorem Behind.seq{L:Led}{d:YD}{i:WU}{R:Vz->Tf->Prop}{a b:List va}{f:Array va->Array va}(j:Behind c Z e ((l,aa a n)::L) d i R)
  {r:Vz} {h:Vm} {N T:Nat} {g:GB} (D:Rep e h ((l,aa a n)::L) N) (m:f ⟨a⟩=⟨b⟩) (o:b.length≠a.length) (k:c r (aa b (n+1)::L.map (·.2)) [] [] []):R r ⟨h.update l<|Vr f,g,d,T+1,i⟩:=by
 refine j _ _ _ _ _ _ N T g k (by rw[bT,bT,aM]) (λp q=>nomatch q) ?_;rw[aP,aP];show Rep _ _ ((l,_)::a8 L (L.map (·.2))) _;rw[gz];exact D.seq m o
theorem Rep.d3(D:Rep b h L N):∃a,N=a+4:=aB (N-4) (Wd D.big).symm
inductive qk(id:String)(x:va)(vs:List va)(n:Nat):Td->Led->(Xi->Prop)->Prop
 |mk {l a t k} (hz:vs.length+1<=VZ) (h:k t):qk id x vs n (.builtin id ⟨[.ref l,.ref a],[]⟩) [(l,aa (x::vs) n),(a,av "slice" [.none,.int 1 t,.none])] k
def oE(x:va)(d:List va)(n:Nat):aA:=λc sub e b=>qk "list.__getitem__" x d n c sub λe=>∀a,b 0 (H7<|.ref<|a+4) (sub.map (·.2)) [(a+4,aa [x] 0)] [] []
theorem zZ:(oE x e n).Ok w b:=by
 intro c sub Z k H;obtain @⟨l,r,t,_,j,H⟩:=H;refine SP.builtin Xy (by decide+kernel) λA o h N T g d f R p q hk m D i=>ux (s:=⟨h,g,d,T+1,f⟩) (D.own _<|.head _) (D.own _<|.tail _<|.head _) (c:=none) (b:=some 1) (st:=none) .none (.int 1 _) .none (by simp) j ?_;obtain⟨a,rfl⟩:=D.d3;show R (H7<|.ref h.objs.size) ⟨h.push {cls:=.type "list",data:=.seq (XG ⟨x::e⟩ none (some 1) none)},g,d,T+1,f⟩;rw[D.size,show XG (⟨x::e⟩:Array va) none (some 1) none=⟨[x]⟩ by simpa using Zi (⟨x::e⟩:Array va) 1];exact i.alloc rfl D (aB 0<|H a)
def p4(x:va)(a:List va)(n:Nat):aA:=λc sub d b=>qk "list.__delitem__" x a n c sub λt=>b 0 (H7 .none) [aa a<|n+1,av "slice" [.none,.int 1 t,.none]] [] [] []
theorem D9:a.length≠(x::a).length:=(Nat.succ_ne_self _).symm
theorem DT:(p4 x k n).Ok w b:=by
 intro c sub Z m H;obtain @⟨l,u,t,_,i,H⟩:=H;exact SP.builtin F.entry_list_delitem (by decide+kernel) λA p h N T g d j R q r hk o D a=>LW (s:=⟨h,g,d,T+1,j⟩) (D.own _<|.head _) (D.own _<|.tail _<|.head _) i λf e=>a.seq D e D9 (aB 0 H)
def ip:aA:=λc sub b a=>jP c λid d=>qP d λx b y b=>fH id "str.__eq__" (two (x=y) a sub)<|fH id "str.__ne__" (two (x≠y) a sub) False
theorem sq(x y:SX):(x.cps.toList==y.cps.toList)=decide (x=y):=by
 by_cases h:x=y
 ·subst h;simp
 ·rw[decide_eq_false h]
  exact beq_eq_false_iff_ne.mpr λe=>h<|SX.ext'<|Array.toList_inj.mp e
theorem qt:ip.Ok w b:=by
 intro c sub Z a H;replace H:=kU H;obtain⟨id,d,H⟩:=H;replace H:=uj H;obtain⟨x,t,y,u,H⟩:=H;replace H:=gJ H;rcases H with⟨h,H⟩|H
 ·exact mr h F.entry_str_eq (by decide+kernel) (by rw[<-sq];exact gives_str_eq x y t u) H
 replace H:=gJ H;rcases H with⟨h,H⟩|H
 ·refine mr h F.entry_str_ne (by decide+kernel) ?_ H
  have:=gives_str_ne x y t u;rw[show(x.cps.toList !=y.cps.toList)=!(x.cps.toList==y.cps.toList) from rfl,sq] at this;simpa[decide_not] using this
 ·exact H.elim
noncomputable def jK(x y:SX):Bool:=!(Tj.Str.occurrences x y 0 x.length 1).isEmpty
def iq:aA:=λc sub a b=>jP c λid d=>qP d λx a y a=>fH id "str.__contains__" (two (jK x y=true) b sub) False
theorem p8:iq.Ok w b:=by
 intro c sub Z a H;replace H:=kU H;obtain⟨id,d,H⟩:=H;replace H:=uj H;obtain⟨x,t,y,u,H⟩:=H;replace H:=gJ H;rcases H with⟨h,H⟩|H
 ·exact mr h F.entry_str_contains (by decide+kernel) (by rw[Bool.decide_eq_true];exact gives_str_contains x y t u) H
 ·exact H.elim
def fU:aA:=λc sub d a=>jP c λid b=>qP b λx t y u=>fH id "str.__add__" (((0<t/\0<u)/\x.length+y.length<=VZ)/\∀v,a 0 (H7<|.str (x++y)<|v+1) (sub.map (·.2)) [] [] []) False
theorem Az(h:(x.length==0)=true):x=SX.empty:=by
 have:x.cps.size=0:=by simpa[SX.length] using h
 exact SX.ext' (by rw[Array.size_eq_zero_iff.mp this];rfl)
theorem nH:fU.Ok w b:=by
 intro c sub Z l H;replace H:=kU H;obtain⟨id,q,H⟩:=H;replace H:=uj H;obtain⟨x,t,y,u,H⟩:=H;replace H:=gJ H;rcases H with⟨rfl,⟨⟨f,e⟩,k⟩,H⟩|H
 ·obtain⟨t,rfl⟩:=Zc<|YL f
  obtain⟨u,rfl⟩:=Zc<|YL e;refine SP.builtin F.entry_str_add (by decide+kernel) λA n h N T g d p R o e hk m D a=>gives_str_add x y (t+1) (u+1) Pw w A R _ ?_;split
  ·rename_i i
   rw[Az i,SX.empty_append] at H;exact a.done (aB 0<|H u) D
  ·split
   ·rename_i j
    rw[Az j,SX.append_empty] at H;exact a.done (aB 0<|H t) D
   ·exact⟨by rw[WV];exact k,a.done (T:=T+1) (aB 0<|H T) D⟩
 ·exact H.elim
def gX(j:Nat):FuncData:=match kK w j with
 |some o=>match o.data with
  | .func a=>a
  |_=>default
 |none=>default
def j2(c co d:Nat):S9:=match(gX 111).body with
 | .stmts (_:: .FunctionDef e a b _ _ _ f _ _ _::_)=>
  {cls:=.type "function",data:=.func {name:=e,qualname:="_law_reader.<locals>.taken",params:=a,body:=.stmts b,scope:=f,globals:=3,closure:=[("left",c)],defaults:=.none,kwdefaults:=.none,doc:=.none,pyModule:=.str "law_ph0122_01" 330,annotations:=none,code:=.ref co,closureTuple:=.ref d,builtins:=0}}
 |_=>default
def j6(a:Nat->Nat)(x:Nat->Nat):S9:=av "code" [.str "taken"<|a 0+1,.str "_law_reader.<locals>.taken"<|a 1+1,.str "/claim/cut.py"<|a 2+1,.int 119 0,.int 1 0,.int 0 0,.int 0 0,.int 19 0,.ref<|x 0+4,.bool true,.int 181 0,
 .ref (x 1+4),.none,.ref<|x 2+4,.ref<|x 3+4,.ref<|x 4+4,.int (a 3) 0,.int 119 0,.str "/claim/cut.py"<|a 4+1]
noncomputable def iN:SX:="\n\t\x0d "
def ent(s:String)(t:Nat)(v:va):SS:=⟨cu w<|SV s,.str (SV s)<|t+1,v⟩
def e9(a:Nat->Nat)(d c:Nat)(b:Int)(t:Nat):S9:=ab [ent "lineno" (a 5)<|.int b<|t+1,ent "instream" (a 6)<|.ref<|d+4,ent "whitespace" (a 7)<|.str iN<|a 8+1,ent "pushback" (a 9)<|.ref<|c+4] 4
def ka(a:Nat->Nat)(b fn:Nat):S9:=ab [ent "lineno" (a 10)<|.int 1<|a 11+1,ent "instream" (a 12) .none,ent "whitespace" (a 13)<|.str iN<|a 14+1,ent "pushback" (a 15)<|.ref<|b+4,ent "read" (a 16)<|.ref<|fn+4] 5
noncomputable def eI(C d:Nat):S9:={cls:=.ref C,dict:=some (d+4)}
noncomputable def jS(a:Nat):S9:={cls:=.type "cell",data:=.cell (some<|.ref<|a+4)}
structure aE where
 rd:Nat
 src:Nat
 d1:Nat
 d2:Nat
 fn:Nat
 co:Nat
 cl:Nat
 pb:Nat
 i7:Nat
 lf:Nat
 ct:Nat
 tk:Nat->Nat
 x:Nat->Nat
def aO(P:aE)(a:Int)(b:Nat):S9:=e9 P.tk P.src P.pb a b
def bp(P:aE):Led:=[(P.rd+4,eI 100 P.d1),(P.src+4,eI 100 P.d2),(P.d2+4,ka P.tk P.i7 P.fn),(P.fn+4,j2 (P.cl+4) (P.co+4)<|P.ct+4),(P.co+4,j6 P.tk P.x),(P.cl+4,jS P.lf)]
noncomputable def aC(a:List (Nat×Nat)):List va:=a.map λp=>.str ⟨#[p.1+1]⟩<|p.2+1
def dO(P:aE)(b:Int)(c:Nat)(n:Nat)(a:List (Nat×Nat)):Led:=[(P.d1+4,aO P b c),(P.lf+4,aa (aC a) n)]
noncomputable def bc(c:Nat)(a:Int):Int:=if c=10 then a+1 else a
def b4(j:Nat):List Wq:=match(gX j).body with
 | .stmts b=>b
 |_=>[]
noncomputable def bJ:List Wq->Nat->Wq
 |s::_,0=>s
 |_::l,n+1=>bJ l n
 |[],_=>.Pass ⟨0,0,0,0⟩
def gU(s:Wq):List Wq:=(sX s).2.2.2.1
def aS(s:Wq)(b:va)(a:Zb):Td:=.forLoop ((sX s).1.headD xX) b (sX s).2.2.1 (sX s).2.2.2.1 a
def aT(j a:Nat):Zb:={scope:=(gX j).scope,locals:=a,globals:=(gX j).globals,cells:=(gX j).closure,qual:=(gX j).qualname++".<locals>.",func:=some j,code:=(gX j).code,frame:=some a,builtins:=(gX j).builtins}
def gZ:Wq:=bJ (b4 90) 3
def iG:Wq:=bJ (cR<|bJ (cR gZ) 1) 0
def gg:Wq:=bJ (gU<|bJ (cR gZ) 1) 2
def BK(c d e:Nat)(f b:Nat)(a:SX)(g:Nat):List SS:=[ent "self" c<|.ref<|f+4,ent "token" d<|.str a<|g+1,ent "fiter" e<|.ref<|b+4]
def mO(c d e:Nat)(f b:Nat)(a:SX)(g:Nat):S9:=ao (BK c d e f b a g) 3
def dV(d e f g:Nat)(h b:Nat)(a:SX)(i:Nat)(c:SX)(j:Nat):S9:=ao (BK d e f h b a i++[ent "ch" g<|.str c<|j+1]) 4
def bV(a b:Nat):S9:=av "callable_iterator" [.ref<|a+4,.str ""<|b+1,.bool false]
def df(a:Nat):S9:=av "method" [.ref 83,.ref<|a+4]
def EE(g h f p fn co j l C d B n a t q:Nat)(e x:Nat->Nat)(k:Int)(c:List (Nat×Nat)):Q7:=λz A N T Z b R=>ae [3,4,1,7,1,2,1,2,1,1,4] [N,g,f,h,p,fn,co,N+1,j,N+1,d]<|qk "list.__getitem__" (.str (VJ ⟨[a+1]⟩)<|t+1) (aC c) n (bi "list.__getitem__" [.ref<|d+4,.ref<|N+6]) [(d+4,aa (aC ((a,t)::c)) n),(((N+4)+1)+1,av "slice" [.none,.int 1<|T+4,.none])] (λE=>∀o:WO,∀i y:Nat,ae [2,2,1,1,3] [o,N+1,j,N+1,d]<|qk "list.__delitem__" (.str (VJ ⟨[a+1]⟩)<|t+1) (aC c) n (bi "list.__delitem__" [.ref<|d+4,.ref<|i+4]) [(d+4,aa (aC ((a,t)::c)) n),(i+4,av "slice" [.none,.int 1<|T+4,.none])] (λD=>∀r v:Nat,ae [1,3] [N+1,N]<|((VJ ⟨[a+1]⟩="\n")->∀s m:Nat,ae [1,4,1,5,3,1] [N,g,f,g,f,N]<|R (H7<|.str (VJ ⟨[a+1]⟩)<|t+1) [ab [ent "lineno" (e 5)<|.int (k+1)<|m+3,ent "instream" (e 6)<|.ref<|h+4,ent "whitespace" (e 7)<|.str iN<|e 8+1,ent "pushback" (e 9)<|.ref<|l+4] 4,aa (aC c)<|n+1] [] [] [])/\((¬(VJ ⟨[a+1]⟩="\n"))->∀u w:Nat,ae [1] [N]<|R (H7<|.str (VJ ⟨[a+1]⟩)<|t+1) [e9 e h l k q,aa (aC c)<|n+1] [] [] [])))
theorem MF(h i e f fn co d l m g j n a t o:Nat)(c x:Nat->Nat)(k:Int)(b:List (Nat×Nat)):CK w [(e+4,e9 c i l k o),(g+4,aa (aC ((a,t)::b)) n)] [(h+4,eI 100 e),(i+4,eI 100 f),(f+4,ka c m fn),(fn+4,j2 (d+4) (co+4)<|j+4),(co+4,j6 c x),(d+4,jS g)] [oE (.str ⟨#[a+1]⟩<|t+1) (aC b) n,p4 (.str ⟨#[a+1]⟩<|t+1) (aC b) n,ip,iq,fU] (Vh (.ref 83) ⟨[.ref<|h+4],[]⟩) (EE h i e f fn co d l m g j n a t o c x k b):=aV 301 134 0x2a9fad62fa94a3f7b57253e34689914ef14653e3f437a3c282e1fedaa01cbd62de4e6ef382cc5370ec24f176fd754b5ad8bedccea86c45ab10aaa0f86116a395d84ac40509288fb28bb3c65b047dc6eecf9d03846c333394a833cdddc4854209b8ffe4567e0e71e84d2696991cb8766cfa99e8e09a6d9068c00dc249a0ee4a962e14ee96856d7af
def IY(j e f g fn co d i r c p n o t k:Nat)(a x:Nat->Nat)(h:Int)(q:List (Nat×Nat)):Q7:=λl m N T Z b R=>ae [3,4,1,7,1,2,1,2,1,1,4,5,1,2,2,1,1,3,5,4,1,4] [N,j,f,e,g,fn,co,N+1,d,N+1,c,N+2,c,N+3,N+1,d,N+1,c,N+4,c,N+1,N]<|R (H7<|.str ""<|T+7) [ab [ent "lineno" (a 5)<|.int h<|k+1,ent "instream" (a 6)<|.ref<|e+4,ent "whitespace" (a 7)<|.str "\n\t\x0d "<|a 8+1,ent "pushback" (a 9)<|.ref<|i+4] 4,aa [] n] [] [] []
theorem Kh(h i e f fn co c l m g j n b t o:Nat)(a x:Nat->Nat)(k:Int)(d:List (Nat×Nat)):CK w [(e+4,e9 a i l k o),(g+4,aa [] n)] [(h+4,eI 100 e),(i+4,eI 100 f),(f+4,ka a m fn),(fn+4,j2 (c+4) (co+4)<|j+4),(co+4,j6 a x),(c+4,jS g)] [oE (.str ⟨#[b+1]⟩<|t+1) (aC d) n,p4 (.str ⟨#[b+1]⟩<|t+1) (aC d) n,ip,iq,fU] (Vh (.ref 83) ⟨[.ref<|h+4],[]⟩) (IY h i e f fn co c l m g j n b t o a x k d):=aV 301 99 0x25a82d5a45cc9e3817ecd9758e417391b6a400774a97bc9b36f88bd0c9bbf7c7e91b9b35093a87406df270a25b9ae85c2ec990678606be9109ba9ae67f8cebef12046649dad891817273e2e22d736613eb74ee7842dceaa55af12ab55889d95a3525b72
noncomputable abbrev j7(P:aE):Td:=.call (.ref 83) ⟨[.ref<|P.rd+4],[]⟩
theorem gh:(VJ ⟨[c]⟩=VJ ⟨[k]⟩)↔c=k:=⟨λh=>by injection h with h;injection h with h;injection h,λh=>by rw[h]⟩
theorem A4:"\n"=VJ ⟨[10]⟩:=by decide+kernel
theorem yH(k:b+40<=960)(o:d.length+1<=VZ)(m:∀p∈bp P,p∈Z):
  SP w b (j7 P) (dO P f j n ((c,t)::d)) Z λr s q F u=>∃v,Rv (.str ⟨#[c+1]⟩<|t+1) [aO P (bc (c+1) f) v,aa (aC d)<|n+1] r s q F u:=by
 have l:∀C∈[oE (.str ⟨#[c+1]⟩<|t+1) (aC d) n,p4 (.str ⟨#[c+1]⟩<|t+1) (aC d) n,ip,iq,fU],aA.Ok w 960 C:=aj zZ<|aj DT<|aj qt<|aj p8<|aj nH ay;refine MF P.rd P.src P.d1 P.d2 P.fn P.co P.cl P.pb P.i7 P.lf P.ct n c t j P.tk P.x f d _ k (zd rfl) l m λy z N T e=>?_
 have i:(aC d).length+1<=VZ:=by unfold aC;rw[aM];exact o
 refine bz (.mk i λa g g=>bz (.mk i λg g=>bz ⟨λh g g=>bz ?_ _,λh g g=>bz ?_ _⟩ _) _) _
 ·rw[A4,gh] at h
  rw[show bc (c+1) f=f+1 from if_pos h];exact⟨_,Rv.mk rfl⟩
 ·rw[A4,gh] at h
  rw[show bc (c+1) f=f from if_neg h];exact⟨_,Rv.mk rfl⟩
theorem EL(d:b+40<=960)(g:∀p∈bp P,p∈Z):
  SP w b (j7 P) (dO P a c n []) Z λr i h F j=>∃u,Rv (.str ""<|u+1) [aO P a c,aa (aC []) n] r i h F j:=by
 have f:∀C∈[oE (.str ⟨#[0+1]⟩<|0+1) (aC []) n,p4 (.str ⟨#[0+1]⟩<|0+1) (aC []) n,ip,iq,fU],aA.Ok w 960 C:=aj zZ<|aj DT<|aj qt<|aj p8<|aj nH ay;exact Kh P.rd P.src P.d1 P.d2 P.fn P.co P.cl P.pb P.i7 P.lf P.ct n 0 0 c P.tk P.x a [] _ d (zd rfl) f g λk l N T e=>bz ⟨_,Rv.mk rfl⟩ _
inductive qh(P:aE)(c:Td)(sub Z:Led)(k0:Int->Nat->Nat->Nat->List (Nat×Nat)->Nat->Prop)(k1:Int->Nat->Nat->Nat->Prop):Prop
 |mk (h0:c=j7 P) (h1:∀p∈bp P,p∈Z) (ln b n aN) (h2:sub=dO P ln b n aN/\aN.length<=VZ) (h3:∀a t rest,aN=(a,t)::rest->∀d,k0 ln n a t rest d) (h4:aN=[]->∀u,k1 ln b n u)
def jz(P:aE):aA:=λc sub Z b=>qh P c sub Z (λa n d t rest f=>b 0 (H7<|.str ⟨#[d+1]⟩<|t+1) [aO P (bc (d+1) a) f,aa (aC rest)<|n+1] [] [] [])
 λa e n u=>b 1 (H7<|.str ""<|u+1) [aO P a e,aa (aC []) n] [] [] []
theorem qC(j:b+40<=960):(jz P).Ok w b:=by
 intro c sub Z A H;obtain⟨rfl,k,B,C,n,p,⟨rfl,s⟩,l,m⟩:=H;rcases p with _|⟨⟨o,t⟩,rest⟩
 ·refine(EL j k).mono ar (λd q=>q) ?_
  rintro r x v F y d a d;refine hH a λu e f g h i=>?_;clear a;subst e f g h i
  exact⟨1,m rfl u⟩
 ·refine(yH j s k).mono ar (λd q=>q) ?_
  rintro r x v F y d a d;refine hH a λz e f g h i=>?_;clear a;subst e f g h i
  exact⟨0,l o t rest rfl z⟩
inductive CD(P:aE)(c:Td)(sub Z:Led)(k0:Int->Nat->Nat->Nat->List (Nat×Nat)->Nat->Prop):Prop
 |mk (h0:c=j7 P) (h1:∀p∈bp P,p∈Z) (ln a n ch t rest) (h2:sub=dO P ln a n ((ch,t)::rest)/\rest.length+1<=VZ) (h3:∀b,k0 ln n ch t rest b)
def wI(P:aE):aA:=λc sub Z b=>CD P c sub Z λd n a t rest e=>b 0 (H7<|.str ⟨#[a+1]⟩<|t+1) [aO P (bc (a+1) d) e,aa (aC rest)<|n+1] [] [] []
theorem Gg(f:b+40<=960):(wI P).Ok w b:=by
 intro c sub Z p H;obtain⟨rfl,g,u,z,n,s,t,rest,⟨rfl,h⟩,e⟩:=H;refine(yH f h g).mono ar (λd q=>q) ?_;rintro r x v F y d a d;refine hH a λo i j k l m=>?_;clear a;subst i j k l m
 exact⟨0,e o⟩
def Ia(P:aE)(n m v t l x y h B z A:Nat)(k:Nat->Nat)(g:Int)(f:List (Nat×Nat))(r w:SX):Q7:=λs u N T Z b R=>ae [1] [h]<|qh P (j7 P) [(P.d1+4,aO P g l),(P.lf+4,aa (aC f) n)] Z (λa c d j i o=>∀e T2:Nat,R (H7<|.str (VJ ⟨[d+1]⟩)<|j+1) [aO P (bc (d+1) a) o,aa (aC i)<|c+1] [] [] []) (λa p c q=>∀e T2:Nat,R (H7<|.str ""<|q+1) [aO P a p,aa (aC []) c] [] [] [])
theorem NF(P:aE)(n m f t d h i a o j l:Nat)(k:Nat->Nat)(c:Int)(b:List (Nat×Nat))(e g:SX):CK w [(P.d1+4,aO P c d),(P.lf+4,aa (aC b) n)] [(P.rd+4,eI 100 P.d1),(P.src+4,eI 100 P.d2),(P.d2+4,ka P.tk P.i7 P.fn),(P.fn+4,j2 (P.cl+4) (P.co+4)<|P.ct+4),(P.co+4,j6 P.tk P.x),(P.cl+4,jS P.lf),(a+4,df P.rd)] [jz P] (Vh (.ref<|a+4) ⟨[],[]⟩) (Ia P n m f t d h i a o j l k c b e g):=aV 21 13 0x1e58089a6086
def EC(P:aE)(n e t m c d l:Nat)(g:Int)(f:List (Nat×Nat)):Q7:=λq r N T Z b R=>ae [2,2] [c,d]<|CD P (j7 P) [(P.d1+4,aO P g m),(P.lf+4,aa (aC ((e,t)::f)) n)] Z (λh i a k j o=>∀p T7:Nat,ae [2] [c]<|R (H7<|.str (VJ ⟨[a+1]⟩)<|k+1) [aO P (bc (a+1) h) o,aa (aC j)<|i+1,bV d l] [] [] [])
theorem EX(P:aE)(n c t g a b f:Nat)(e:Int)(d:List (Nat×Nat)):CK w [(P.d1+4,aO P e g),(P.lf+4,aa (aC ((c,t)::d)) n),(a+4,bV b f)] [(P.rd+4,eI 100 P.d1),(P.src+4,eI 100 P.d2),(P.d2+4,ka P.tk P.i7 P.fn),(P.fn+4,j2 (P.cl+4) (P.co+4)<|P.ct+4),(P.co+4,j6 P.tk P.x),(P.cl+4,jS P.lf),(b+4,df P.rd)] [wI P] (VQ "callable_iterator.__next__" ⟨[.ref<|a+4],[]⟩) (EC P n c t g a b f e d):=aV 250 18 0x529d2a9604960b7946da0773d82
theorem Em(v:b+80<=960)(g:∀p∈bp P,p∈Z)(j:(c+4,df P.rd)∈Z):
  SP w b (.call (.ref<|c+4) ⟨[],[]⟩) (dO P d f n []) Z λr m l F o=>∃u,Rv (.str ""<|u+1) [aO P d f,aa (aC []) n] r m l F o:=by
 have i:∀C∈[jz P],aA.Ok w 920 C:=aj (qC<|zd rfl) ay;have k:∀p∈bp P++[(c+4,df P.rd)],p∈Z:=λp q=>by
  rcases bB q with q|q
  ·exact g p q
  ·rcases dg q with rfl;exact j
 exact NF P n 0 0 0 f 0 0 c 0 0 0 (λa=>0) d [] "" "" 920 (by exact tK ‹_› (zd rfl)) (zd rfl) i k λs t N T e=>bz ⟨rfl,g,_,_,_,[],⟨rfl,Vc _⟩,(λa a a h=>by cases h),λa u a a=>aB u<|Rv.mk rfl⟩ _
def eW:S9:=av "callable_iterator" [.none,.none,.bool true]
def cm(t:Nat):S9:=av "StopIteration" [.ref<|t+4,.none,.none,.none,.bool false,.none]
theorem zz{b:Type}{A:Wr}{E:va->Tf->Prop}{s:Tf}{Q:b->Tf->Prop}(c:A.handled=none)
  (h:E (.ref (s.heap.push<|ag []).objs.size) {s with heap:=(s.heap.push<|ag []).push {cls:=.type "StopIteration",data:=.fields #[.ref s.heap.objs.size,.none,.none,.none,.bool false,.none]}}):To M A (Wa:VM b) Q E s:=by
 show To _ _ (newExc (.type "StopIteration") []>>=_) _ _ _;refine SU ?_;unfold newExc newTuple;refine SU (YK ?_<|by size_fits);refine SU (m:=firstArgMember _ _) (wpAny_of_eq (a:=SY) (by first|rfl|(simp only[firstArgMember];rfl)) ?_);refine YK ?_ (by size_fits);exact wpAny_raiseNew_none c h
theorem ke{a:Type}{A:Wr}{E:va->Tf->Prop}{s:Tf}{Q:a->Tf->Prop}(b:A.handled=none)(c:s.heap.objs.size=t+4)
  (h:E (.ref<|t+5) {s with heap:=(s.heap.push<|ag []).push (cm t)}):To M A (Wa:VM a) Q E s:=
 zz b (by rw[Wm,c];exact h)
theorem Lb:Yp table "callable_iterator.__next__"=some Tj.«callable_iterator.__next__»:=entryFor_of_fast<|by kernel_rfl
theorem CL:kK w 83=some ((kK w 83).getD default):=by kernel_rfl
theorem zD:((kK w 83).getD default).data= .func (gX 83):=by kernel_rfl
theorem zp{E:va->Tf->Prop}{Q:Bool->Tf->Prop}(e:s.heap.get? b=some (av "method" [.ref f,.ref a]))(g:s.heap.get? f=some o)(d:o.data= .func c)(h:Q true s):
  To M A (borrowsExactly<|.ref b) Q E s:=by
 unfold borrowsExactly;refine SU<|wpAny_load e ?_;show To _ _ (if((av "method" [.ref f,.ref a]).cls== .type "method")=true then _ else _) _ _ _;refine wP (show((av "method" [.ref f,.ref a]).cls== .type "method")=true from beq_self_eq_true _) ?_;show To _ _ (load f>>=_) _ _ _;refine SU<|wpAny_load g ?_;rw[d];exact Te h
theorem Hm{E:va->Tf->Prop}{Q:Unit->Tf->Prop}{b:Td->Bool}(e:s.heap.get? a=some (av "method" [.ref f,.ref i]))(g:s.heap.get? f=some o)(d:o.data= .func c)(h:Q () s):
  To M A (slotLetsGo j (.ref a) b) Q E s:=by
 unfold slotLetsGo;exact SU<|zp e g d<|Te h
theorem MH(hb:b+120<=960)(V:∀Tw∈bp P,Tw∈Z)(y:(a+4,df P.rd)∈Z):
  SP w b (.builtin "callable_iterator.__next__" ⟨[.ref<|j+4],[]⟩) (dO P l m n []++[(j+4,bV a i)]) Z
   λr J I F O=>∃e,r= .error (.ref<|e+5)/\J=[aO P l m,aa (aC []) n,eW]/\I=[(e+4,ag []),(e+5,cm e)]/\F=[]/\O=[]:=by
 refine SP.kN Lb (by decide+kernel) λA TG h N T g d os TF H hd hu hk v D U=>?_
 have L:h.get? (j+4)=some (bV a i):=D.own (j+4,bV a i) (by simp[dO]);have Tu:h.get? (a+4)=some (df P.rd):=D.keep _ _<|v _ y;show To _ _ (field (.ref<|j+4) 2>>=_) _ _ _;refine bF L rfl (x:=.bool false) rfl<|wN (by decide)<|bF L rfl (x:=.ref<|a+4) rfl ?_;have Y:h.get? 83=some _:=D.keep _ _<|hk _ _<|CL;refine bA ?_;unfold callOutOfASlot;refine SU<|zp Tu Y (zD)<|wP rfl ?_;unfold callBorrowed;refine x_call (c:=.call (.ref<|a+4) ⟨[],[]⟩) (hd:=none) ?_ (by simp);refine Em (b:=880) (by exact WX _ _) V y (A.in1.mark none) _ h N T g d os ?_ ?_ ?_ (hk.le D.cV) (v.le D.cV) D.frame _ ?_
 ·show(Option.none.or A.handled)=none
  rw[H];rfl
 ·show A.depth<=880;exact CI (k:=0) ‹_› ‹_›<|by decide
 ·show A.units+1<=_;exact Lm ‹_› ‹_›<|by decide
 rintro r J I F O u N1 T1 g1 M- - B;refine hH M λTH z Tz TA TB TC=>?_;clear M;subst z;subst Tz;subst TA;subst TB;subst TC
 rw[aP] at B;have p:=D.gu B;rw[aP] at p;show To _ _ (VM.pure _) _ _ _;refine Te ?_;have q:u.get? (j+4)=some (bV a i):=p.own (j+4,bV a i) (by simp);show To _ _ (field (.ref<|j+4) 2>>=_) _ _ _;refine bF q rfl (x:=.bool false) rfl<|wN (by decide)<|bF q rfl (x:=.str (SV "")<|i+1) rfl<|bH<|wpAny_eqBool_str ?_;rw[decide_eq_true rfl];show To _ _ (if(false=true) then _ else _) _ _ _;refine wN (by decide)<|bR ?_;have Tv:u.get? (a+4)=some (df P.rd):=p.keep _ _<|v _ y;have Tr:u.get? 83=some _:=p.keep _ _<|hk _ _<|CL;refine SU<|bF q rfl (x:=.ref<|a+4) rfl<|SU<|Hm Tv Tr (zD) ?_;have Q:(a8 (dO P l m n []) [aO P l m,aa (aC []) n]++[(j+4,bV a i)])[2]?=some (j+4,bV a i):=rfl;refine bS q rfl (by show 0<3;decide) ?_;have C:=p.update (f:=Tc (·.setIfInBounds 0 .none)) Q rfl;have Ts:=C.own (j+4,Tc (·.setIfInBounds 0 .none)<|bV a i) (by simp[setAt,dO,a8]);refine bS Ts rfl (by show 1<3;decide) ?_;have R:(setAt (a8 (dO P l m n []) [aO P l m,aa (aC []) n]++[(j+4,bV a i)]) 2 (Tc (·.setIfInBounds 0 .none)<|bV a i))[2]?=some (j+4,Tc (·.setIfInBounds 0 .none)<|bV a i):=rfl;have E:=C.update (f:=Tc (·.setIfInBounds 1 .none)) R rfl;have Tt:=E.own (j+4,Tc (·.setIfInBounds 1 .none) (Tc (·.setIfInBounds 0 .none)<|bV a i)) (by simp[setAt,dO,a8]);refine wpAny_setField Tt rfl (by show 2<3;decide) ?_;have S:(setAt (setAt (a8 (dO P l m n []) [aO P l m,aa (aC []) n]++[(j+4,bV a i)]) 2 (Tc (·.setIfInBounds 0 .none)<|bV a i)) 2 (Tc (·.setIfInBounds 1 .none) (Tc (·.setIfInBounds 0 .none)<|bV a i)))[2]?=some (j+4,Tc (·.setIfInBounds 1 .none) (Tc (·.setIfInBounds 0 .none)<|bV a i)):=rfl;have s:=E.update (f:=Tc (·.setIfInBounds 2 (.bool true))) S rfl;refine aw s.d3 λt z=>?_;subst z
 refine ke (t:=t) H s.size ?_;have G:=(s.alloc (o:=ag []) rfl).alloc (o:=cm t) rfl;refine U (.error<|.ref<|t+5) [aO P l m,aa (aC []) n,eW] [(t+4,ag []),(t+5,cm t)] [] [] _ (t+6) T1 g1 (di t rfl rfl rfl rfl rfl) rfl (λzu Tx=>nomatch Tx) ?_;rw[aP];rw[aZ] at G;exact G
theorem j5{P:aE}{Z:Led}{a:Nat}(c:∀p∈bp P,p∈Z)(b:(a+4,df P.rd)∈Z):∀p∈bp P++[(a+4,df P.rd)],p∈Z:=λp q=>by
 rcases bB q with q|q
 ·exact c p q
 ·rcases dg q with rfl;exact b
theorem Ep(z:b+80<=960)(o:c.length+1<=VZ)(j:∀p∈bp P,p∈Z)(m:(d+4,df P.rd)∈Z):
  SP w b (.builtin "callable_iterator.__next__" ⟨[.ref<|f+4],[]⟩) (dO P g k n ((a,t)::c)++[(f+4,bV d h)]) Z
   λr s q F u=>∃i,Rv (.str ⟨#[a+1]⟩<|t+1) [aO P (bc (a+1) g) i,aa (aC c)<|n+1,bV d h] r s q F u:=by
 have l:∀C∈[wI P],aA.Ok w 920 C:=aj (Gg<|zd rfl) ay;exact EX P n a t k f d h g c 920 (by exact tK ‹_› (zd rfl)) (zd rfl) l (j5 j m) λx y N T e=>bz ⟨rfl,j,_,_,_,_,_,_,⟨rfl,o⟩,λi v v=>bz (aB i<|Rv.mk rfl) _⟩ _
inductive sI(P:aE)(me fi te:Nat)(c:Td)(sub Z:Led)(k0:Int->Nat->Nat->Nat->List (Nat×Nat)->Nat->Prop)(k1:Int->Nat->Nat->Nat->Prop):Prop
 |mk (h0:c= .builtin "callable_iterator.__next__" ⟨[.ref<|fi+4],[]⟩) (h1:(∀p∈bp P,p∈Z)/\(me+4,df P.rd)∈Z) (ln b n aN) (h2:sub=dO P ln b n aN++[(fi+4,bV me te)]/\aN.length<=VZ) (h3:∀a t rest,aN=(a,t)::rest->∀d,k0 ln n a t rest d) (h4:aN=[]->∀e,k1 ln b n e)
def ll(P:aE)(f h g:Nat):aA:=λc sub Z b=>sI P f h g c sub Z (λa n d t rest j=>b 0 (H7<|.str ⟨#[d+1]⟩<|t+1) [aO P (bc (d+1) a) j,aa (aC rest)<|n+1,bV f g] [] [] [])
 λa i n e=>b 1 (.error<|.ref<|e+5) [aO P a i,aa (aC []) n,eW] [(e+4,ag []),(e+5,cm e)] [] []
theorem uB(v:b+120<=960):(ll P y u C).Ok w b:=by
 intro c sub Z E H;obtain⟨rfl,⟨l,k⟩,G,I,n,s,⟨rfl,x⟩,m,o⟩:=H;rcases s with _|⟨⟨p,t⟩,rest⟩
 ·refine(MH v l k).mono ar (λd q=>q) ?_
  rintro r A z F B d a d;refine hH a λe f g h i j=>?_;clear a;subst f g h i j
  exact aB 1<|o rfl e
 ·refine(Ep (by exact Nh ‹_› (zd rfl)) x l k).mono ar (λd q=>q) ?_
  rintro r A z F B d a d;refine hH a λD f g h i j=>?_;clear a;subst f g h i j
  exact aB 0<|m p t rest rfl D
def Gz(P:aE)(n TP L a c f h g J j k l m:Nat)(H:Int)(F:List (Nat×Nat))(e E:SX):Q7:=λu v N TA Z b R=>ae [2] [c]<|sI P f c h (bi "callable_iterator.__next__" [.ref<|c+4]) [(P.d1+4,aO P H L),(P.lf+4,aa (aC F) n),(c+4,bV f h)] Z (λp q d A z B=>∀N5 T5:Nat,ae [4,4,1] [a,P.rd,P.d1]<|((jK iN (VJ ⟨[d+1]⟩)=Bool.true)->∀Tt TH:Nat,ae [1] [a]<|R (H7<|.str e<|g+1) [aO P (bc (d+1) p) B,aa (aC z)<|q+1,ao [ent "self" j<|.ref<|P.rd+4,ent "token" k<|.str e<|g+1,ent "fiter" l<|.ref<|c+4,ent "ch" m<|.str (VJ ⟨[d+1]⟩)<|A+1] 4,bV f h] [] [] [])/\((¬(jK iN (VJ ⟨[d+1]⟩)=Bool.true))->∀Tu TJ:Nat,ae [1] [a]<|((VJ ⟨[d+1]⟩=SV "\\")->∀Tv TK:Nat,ae [1,4,1] [a,P.rd,P.d1]<|qh P (j7 P) [(P.d1+4,aO P (bc (d+1) p) B),(P.lf+4,aa (aC z)<|q+1)] Z (λx y t C I M=>∀Tw TL:Nat,ae [4] [a]<|(((0<(g+1))/\(0<(C+1)))/\((PySem.Str.length e+PySem.Str.length (VJ ⟨[t+1]⟩))<=PySem.sizeLine))/\(∀U:Xi,∀Tx TM:Nat,ae [2] [a]<|SP (br u v w) b (aS gg (.ref<|c+4)<|aT 90<|a+4) [(P.d1+4,aO P (bc (t+1) x) M),(P.lf+4,aa (aC I)<|y+1),(a+4,ao [ent "self" j<|.ref<|P.rd+4,ent "token" k<|.str (WG e<|VJ ⟨[t+1]⟩)<|U+1,ent "fiter" l<|.ref<|c+4,ent "ch" m<|.str (VJ ⟨[t+1]⟩)<|C+1] 4),(c+4,bV f h)] Z λr o n i s=>R r o n (i++[]) s)) (λx Q y D=>∀Tz TO:Nat,ae [4] [a]<|(((0<(g+1))/\(0<(D+1)))/\((PySem.Str.length e+PySem.Str.length (SV ""))<=PySem.sizeLine))/\(∀S:Xi,∀V TB:Nat,ae [2] [a]<|SP (br u v w) b (aS gg (.ref<|c+4)<|aT 90<|a+4) [(P.d1+4,aO P x Q),(P.lf+4,aa (aC []) y),(a+4,ao [ent "self" j<|.ref<|P.rd+4,ent "token" k<|.str (WG e<|SV "")<|S+1,ent "fiter" l<|.ref<|c+4,ent "ch" m<|.str (SV "")<|D+1] 4),(c+4,bV f h)] Z λr o n i s=>R r o n (i++[]) s)))/\((¬(VJ ⟨[d+1]⟩=SV "\\"))->∀Y TC:Nat,ae [2] [a]<|(((0<(g+1))/\(0<(A+1)))/\((PySem.Str.length e+PySem.Str.length (VJ ⟨[d+1]⟩))<=PySem.sizeLine))/\(∀T:Xi,∀Tr TF:Nat,ae [2] [a]<|SP (br u v w) b (aS gg (.ref<|c+4)<|aT 90<|a+4) [(P.d1+4,aO P (bc (d+1) p) B),(P.lf+4,aa (aC z)<|q+1),(a+4,ao [ent "self" j<|.ref<|P.rd+4,ent "token" k<|.str (WG e<|VJ ⟨[d+1]⟩)<|T+1,ent "fiter" l<|.ref<|c+4,ent "ch" m<|.str (VJ ⟨[d+1]⟩)<|A+1] 4),(c+4,bV f h)] Z λr o n i s=>R r o n (i++[]) s)))) (λp O q G=>∀Ts TG:Nat,ae [1] [G+1]<|R (.ok .next) [aO P p O,aa (aC []) q,dV j k l m P.rd c e g E J,eW] [] [] [])
theorem CY(P:aE)(n t p c a b d m o h i j k:Nat)(l:Int)(g:List (Nat×Nat))(e f:SX):CK w [(P.d1+4,aO P l p),(P.lf+4,aa (aC g) n),(c+4,dV h i j k P.rd a e m f o),(a+4,bV b d)] [(P.rd+4,eI 100 P.d1),(P.src+4,eI 100 P.d2),(P.d2+4,ka P.tk P.i7 P.fn),(P.fn+4,j2 (P.cl+4) (P.co+4)<|P.ct+4),(P.co+4,j6 P.tk P.x),(P.cl+4,jS P.lf),(b+4,df P.rd)] [ll P b a d,jz P,ip,iq,fU] (aS gg (.ref<|a+4)<|aT 90<|c+4) (Gz P n t p c a b d m o h i j k l g e f):=aV 301 107 0x10b9de1d70f6d9f0bebf52236d6578fdcf0f7f87a39805d9b235419f83d85787e2cf95235e3f5fd83b85ee0cc249c34bc571af390fa6685d1305c955767bcf812464f850d3d5a2c84d2f2ba218311876775d0f6c20341a796b4fde3d42af8a6321adb766aee12e87701690
def PX(P:aE)(n TP L a c f h g J j k l m:Nat)(H:Int)(F:List (Nat×Nat))(e E:SX):Q7:=λu v N TA Z b R=>ae [2] [c]<|sI P f c h (bi "callable_iterator.__next__" [.ref<|c+4]) [(P.d1+4,aO P H L),(P.lf+4,aa (aC F) n),(c+4,bV f h)] Z (λp q d A z B=>∀N5 T5:Nat,ae [3] [a]<|((VJ ⟨[d+1]⟩=SV "\"")->∀Ts TG:Nat,ae [1] [a]<|R (H7<|.str e<|g+1) [aO P (bc (d+1) p) B,aa (aC z)<|q+1,ao [ent "self" j<|.ref<|P.rd+4,ent "token" k<|.str e<|g+1,ent "fiter" l<|.ref<|c+4,ent "ch" m<|.str (VJ ⟨[d+1]⟩)<|A+1] 4,bV f h] [] [] [])/\((¬(VJ ⟨[d+1]⟩=SV "\""))->∀Tt TH:Nat,ae [1] [a]<|((VJ ⟨[d+1]⟩=SV "\\")->∀Tu TJ:Nat,ae [1,4,1] [a,P.rd,P.d1]<|qh P (j7 P) [(P.d1+4,aO P (bc (d+1) p) B),(P.lf+4,aa (aC z)<|q+1)] Z (λx y t C I M=>∀Tv TK:Nat,ae [4] [a]<|(((0<(g+1))/\(0<(C+1)))/\((PySem.Str.length e+PySem.Str.length (VJ ⟨[t+1]⟩))<=PySem.sizeLine))/\(∀T:Xi,∀Tw TL:Nat,ae [2] [a]<|SP (br u v w) b (aS iG (.ref<|c+4)<|aT 90<|a+4) [(P.d1+4,aO P (bc (t+1) x) M),(P.lf+4,aa (aC I)<|y+1),(a+4,ao [ent "self" j<|.ref<|P.rd+4,ent "token" k<|.str (WG e<|VJ ⟨[t+1]⟩)<|T+1,ent "fiter" l<|.ref<|c+4,ent "ch" m<|.str (VJ ⟨[t+1]⟩)<|C+1] 4),(c+4,bV f h)] Z λr o n i s=>R r o n (i++[]) s)) (λx Q y D=>∀Tx TM:Nat,ae [4] [a]<|(((0<(g+1))/\(0<(D+1)))/\((PySem.Str.length e+PySem.Str.length (SV ""))<=PySem.sizeLine))/\(∀U:Xi,∀Tz TO:Nat,ae [2] [a]<|SP (br u v w) b (aS iG (.ref<|c+4)<|aT 90<|a+4) [(P.d1+4,aO P x Q),(P.lf+4,aa (aC []) y),(a+4,ao [ent "self" j<|.ref<|P.rd+4,ent "token" k<|.str (WG e<|SV "")<|U+1,ent "fiter" l<|.ref<|c+4,ent "ch" m<|.str (SV "")<|D+1] 4),(c+4,bV f h)] Z λr o n i s=>R r o n (i++[]) s)))/\((¬(VJ ⟨[d+1]⟩=SV "\\"))->∀V TB:Nat,ae [2] [a]<|(((0<(g+1))/\(0<(A+1)))/\((PySem.Str.length e+PySem.Str.length (VJ ⟨[d+1]⟩))<=PySem.sizeLine))/\(∀S:Xi,∀Y TC:Nat,ae [2] [a]<|SP (br u v w) b (aS iG (.ref<|c+4)<|aT 90<|a+4) [(P.d1+4,aO P (bc (d+1) p) B),(P.lf+4,aa (aC z)<|q+1),(a+4,ao [ent "self" j<|.ref<|P.rd+4,ent "token" k<|.str (WG e<|VJ ⟨[d+1]⟩)<|S+1,ent "fiter" l<|.ref<|c+4,ent "ch" m<|.str (VJ ⟨[d+1]⟩)<|A+1] 4),(c+4,bV f h)] Z λr o n i s=>R r o n (i++[]) s)))) (λp O q G=>∀Tr TF:Nat,ae [1] [G+1]<|R (.ok .next) [aO P p O,aa (aC []) q,dV j k l m P.rd c e g E J,eW] [] [] [])
theorem yv(P:aE)(n t p c a b d m o h i j k:Nat)(l:Int)(g:List (Nat×Nat))(e f:SX):CK w [(P.d1+4,aO P l p),(P.lf+4,aa (aC g) n),(c+4,dV h i j k P.rd a e m f o),(a+4,bV b d)] [(P.rd+4,eI 100 P.d1),(P.src+4,eI 100 P.d2),(P.d2+4,ka P.tk P.i7 P.fn),(P.fn+4,j2 (P.cl+4) (P.co+4)<|P.ct+4),(P.co+4,j6 P.tk P.x),(P.cl+4,jS P.lf),(b+4,df P.rd)] [ll P b a d,jz P,ip,iq,fU] (aS iG (.ref<|a+4)<|aT 90<|c+4) (PX P n t p c a b d m o h i j k l g e f):=aV 301 93 0x1bbabfa50065aed39ab68e0ef02168dcdd4b91ac2666908b06214b1f1815a86333566a57e385b7d54e48582e6f0124dfde5a4a39515e2481aee86cc51b072e4cbec8aabc8b29b6fb9a32dc699fb5247fbf3fa45e6d8bebf1c506daef3
structure eN where
 ret:Bool
 tok:SX
 rest:List (Nat×Nat)
 ln:Int
noncomputable abbrev one(c:Nat):SX:=⟨#[c]⟩
open Classical in
def cU(a:SX)(b:Int):List (Nat×Nat)->eN
 |[]=>⟨false,a,[],b⟩
 |p::c=>if jK iN (one<|p.1+1)=true then⟨true,a,c,bc (p.1+1) b⟩
  else if p.1+1=92 then(match c with
   |[]=>⟨false,a++"",[],bc (p.1+1) b⟩
   |q::d=>cU (a++one (q.1+1)) (bc (q.1+1)<|bc (p.1+1) b) d)
  else cU (a++one (p.1+1)) (bc (p.1+1) b) c
open Classical in
def dy(a:SX)(b:Int):List (Nat×Nat)->eN
 |[]=>⟨false,a,[],b⟩
 |p::c=>if p.1+1=34 then⟨true,a,c,bc (p.1+1) b⟩
  else if p.1+1=92 then(match c with
   |[]=>⟨false,a++"",[],bc (p.1+1) b⟩
   |q::d=>dy (a++one (q.1+1)) (bc (q.1+1)<|bc (p.1+1) b) d)
  else dy (a++one (p.1+1)) (bc (p.1+1) b) c
abbrev fk(s:Wq)(b a:Nat):Td:=aS s (.ref<|b+4)<|aT 90<|a+4
def nG(P:aE)(f g h i:Nat)(e a k o:Nat)(j:Int)(p n:Nat)(d:List (Nat×Nat))(b:SX)(l:Nat)(c:SX)(m:Nat):Led:=
 [(P.d1+4,aO P j p),(P.lf+4,aa (aC d) n),(e+4,dV f g h i P.rd a b l c m),(a+4,bV k o)]
inductive wM(P:aE)(k0 k1 k2 k3:Nat)(fi me te:Nat)(R:eN)(r:Vz)(objs:List S9)(new F ro:Led):Prop
 |mk (a n u) (h1:new=[]/\F=[]/\ro=[]) (h2:(R.ret=true/\r= .ok (.ret<|.str R.tok<|u+1)/\∃fr,objs=[aO P R.ln a,aa (aC R.rest) n,fr,bV me te])\/(R.ret=false/\r= .ok .next/\∃cs tc,objs=[aO P R.ln a,aa (aC []) n,dV k0 k1 k2 k3 P.rd fi R.tok u cs tc,eW]))
theorem lq:SV "\\"=VJ ⟨[92]⟩:=by decide+kernel
theorem qj:SV "\""=VJ ⟨[34]⟩:=by decide+kernel
theorem b6(h:n<=1000):n<=VZ:=SQ h<|by rw[sizeLine_eq];decide
theorem len_one(c:Nat):(one c).length=1:=rfl
theorem kP:(SV "").length=0:=by decide+kernel
theorem tH(a:SX)(b:Int):cU a b []=⟨false,a,[],b⟩:=rfl
open Classical in
theorem mW(a:SX)(c:Int)(p:Nat×Nat)(b:List (Nat×Nat)):cU a c (p::b)=if jK iN (one<|p.1+1)=true then⟨true,a,b,bc (p.1+1) c⟩
  else if p.1+1=92 then(match b with
   |[]=>⟨false,a++"",[],bc (p.1+1) c⟩
   |q::d=>cU (a++one (q.1+1)) (bc (q.1+1)<|bc (p.1+1) c) d)
  else cU (a++one (p.1+1)) (bc (p.1+1) c) b:=by cases b<;>rfl
theorem xu(a:SX)(b:Int):dy a b []=⟨false,a,[],b⟩:=rfl
open Classical in
theorem ni(a:SX)(c:Int)(p:Nat×Nat)(b:List (Nat×Nat)):dy a c (p::b)=if p.1+1=34 then⟨true,a,b,bc (p.1+1) c⟩
  else if p.1+1=92 then(match b with
   |[]=>⟨false,a++"",[],bc (p.1+1) c⟩
   |q::d=>dy (a++one (q.1+1)) (bc (q.1+1)<|bc (p.1+1) c) d)
  else dy (a++one (p.1+1)) (bc (p.1+1) c) b:=by cases b<;>rfl
theorem FF(hb:b<=800)(p:∀Tr∈bp P,Tr∈Z)(B:(k+4,df P.rd)∈Z):
  ∀(m:Nat) (g:List (Nat×Nat)) (d:SX) (f:Int) (y n s:Nat) (l:SX) (u:Nat),g.length<=m->d.length+g.length<=1000->
   SP w b (fk gg j A) (nG P D E G H A j k x f y n g d s l u) Z (wM P D E G H j k x<|cU d f g):=by
 have O:∀C∈[ll P k j x,jz P,ip,iq,fU],aA.Ok w 840 C:=aj (uB<|by decide) (aj (qC<|by decide)<|aj qt<|aj p8<|aj nH ay);intro m;induction m with
 |zero=>
  intro g d f y n s l u J I;have:g=[]:=WS (by lia);subst this;refine CY P n 0 y A j k x s u D E G H f [] d l 840 (by exact Tq ‹_› _) (by decide) O (j5 p B) λV Y N T e=>bz ⟨rfl,⟨p,B⟩,_,_,_,[],⟨rfl,Vc _⟩,(λa a a h=>by cases h),λa e a a=>bz ?_ _⟩ _;exact⟨_,_,_,⟨rfl,rfl,rfl⟩,.inr ⟨rfl,rfl,_,_,rfl⟩⟩
 |succ m L=>
  intro g d f y n s l u J I;refine CY P n 0 y A j k x s u D E G H f g d l 840 (by exact Tq ‹_› _) (by decide) O (j5 p B) λV Y N T e=>bz ⟨rfl,⟨p,B⟩,_,_,_,g,⟨rfl,b6<|by exact SQ (WX _ _) ‹_›⟩,?_,?_⟩ _
  ·rintro c t rest rfl fe a a
   rw[bT] at J I;refine bz ⟨λo a a=>bz ?_ _,λo a a=>bz ⟨λi a a=>bz ⟨rfl,p,_,_,_,rest,⟨rfl,b6<|by lia⟩,?_,?_⟩ _,λi a a=>bz ⟨⟨⟨Vl _,Vl _⟩,b6<|by show d.length+1<=1000;exact qN ‹_›⟩,λv a a=>bz ?_ _⟩ _⟩ _⟩ _
   ·rw[show cU d f ((c,t)::rest)=⟨true,d,rest,bc (c+1) f⟩ from by rw[mW,if_pos o]]
    exact⟨_,_,_,⟨rfl,rfl,rfl⟩,.inl ⟨rfl,rfl,_,rfl⟩⟩
   ·rintro z U M rfl Ts a a
    rw[bT] at J I;rw[lq,gh] at i;refine bz ⟨⟨⟨Vl _,Vl _⟩,b6<|by show d.length+1<=1000;exact qN ‹_›⟩,λv a a=>bz ?_ _⟩ _;rw[e,show cU d f ((c,t)::(z,U)::M)=cU (d++one (z+1)) (bc (z+1)<|bc (c+1) f) M from by rw[mW,if_neg o,if_pos i]];refine(L M (d++one (z+1)) _ Ts _ v _ U (by lia)<|by rw[WV,len_one];lia).mono ar (λa q=>q) λr R Q F S a h a=>?_
    rw[aP];exact h
   ·rintro rfl Tt a a
    rw[lq,gh] at i;refine bz ⟨⟨⟨Vl _,Vl _⟩,b6<|by rw[kP];lia⟩,λv a a=>bz ?_ _⟩ _;rw[e,show cU d f ((c,t)::[])=cU (d++SV "") (bc (c+1) f) [] from by rw[mW,if_neg o,if_pos i,tH]];refine(L [] (d++SV "") _ fe _ v _ Tt (Vc _)<|by rw[WV,kP];lia).mono ar (λa q=>q) λr R Q F S a h a=>?_
    rw[aP];exact h
   ·rw[lq,gh] at i
    rw[e,show cU d f ((c,t)::rest)=cU (d++one (c+1)) (bc (c+1) f) rest from by rw[mW,if_neg o,if_neg i]];refine(L rest (d++one (c+1)) _ fe _ v _ t (by lia)<|by rw[WV,len_one];lia).mono ar (λa q=>q) λr R Q F S a h a=>?_
    rw[aP];exact h
  ·rintro rfl e a a
   refine bz ?_ _;exact⟨_,_,_,⟨rfl,rfl,rfl⟩,.inr ⟨rfl,rfl,_,_,rfl⟩⟩
theorem PJ(hb:b<=800)(p:∀Tr∈bp P,Tr∈Z)(B:(l+4,df P.rd)∈Z):
  ∀(m:Nat) (g:List (Nat×Nat)) (d:SX) (f:Int) (y n s:Nat) (o:SX) (u:Nat),g.length<=m->d.length+g.length<=1000->
   SP w b (fk iG k A) (nG P D E G H A k l x f y n g d s o u) Z (wM P D E G H k l x<|dy d f g):=by
 have O:∀C∈[ll P l k x,jz P,ip,iq,fU],aA.Ok w 840 C:=aj (uB<|by decide) (aj (qC<|by decide)<|aj qt<|aj p8<|aj nH ay);intro m;induction m with
 |zero=>
  intro g d f y n s o u J I;have:g=[]:=WS (by lia);subst this;refine yv P n 0 y A k l x s u D E G H f [] d o 840 (by exact Tq ‹_› _) (by decide) O (j5 p B) λV Y N T e=>bz ⟨rfl,⟨p,B⟩,_,_,_,[],⟨rfl,Vc _⟩,(λa a a h=>by cases h),λa e a a=>bz ?_ _⟩ _;exact⟨_,_,_,⟨rfl,rfl,rfl⟩,.inr ⟨rfl,rfl,_,_,rfl⟩⟩
 |succ m L=>
  intro g d f y n s o u J I;refine yv P n 0 y A k l x s u D E G H f g d o 840 (by exact Tq ‹_› _) (by decide) O (j5 p B) λV Y N T e=>bz ⟨rfl,⟨p,B⟩,_,_,_,g,⟨rfl,b6<|by exact SQ (WX _ _) ‹_›⟩,?_,?_⟩ _
  ·rintro c t rest rfl fe a a
   rw[bT] at J I;refine bz ⟨λi a a=>bz ?_ _,λi a a=>bz ⟨λj a a=>bz ⟨rfl,p,_,_,_,rest,⟨rfl,b6<|by lia⟩,?_,?_⟩ _,λj a a=>bz ⟨⟨⟨Vl _,Vl _⟩,b6<|by show d.length+1<=1000;exact qN ‹_›⟩,λv a a=>bz ?_ _⟩ _⟩ _⟩ _
   ·rw[qj,gh] at i
    rw[show dy d f ((c,t)::rest)=⟨true,d,rest,bc (c+1) f⟩ from by rw[ni,if_pos i]];exact⟨_,_,_,⟨rfl,rfl,rfl⟩,.inl ⟨rfl,rfl,_,rfl⟩⟩
   ·rintro z U M rfl Ts a a
    rw[bT] at J I;rw[qj,gh] at i;rw[lq,gh] at j;refine bz ⟨⟨⟨Vl _,Vl _⟩,b6<|by show d.length+1<=1000;exact qN ‹_›⟩,λv a a=>bz ?_ _⟩ _;rw[e,show dy d f ((c,t)::(z,U)::M)=dy (d++one (z+1)) (bc (z+1)<|bc (c+1) f) M from by rw[ni,if_neg i,if_pos j]];refine(L M (d++one (z+1)) _ Ts _ v _ U (by lia)<|by rw[WV,len_one];lia).mono ar (λa q=>q) λr R Q F S a h a=>?_
    rw[aP];exact h
   ·rintro rfl Tt a a
    rw[qj,gh] at i;rw[lq,gh] at j;refine bz ⟨⟨⟨Vl _,Vl _⟩,b6<|by rw[kP];lia⟩,λv a a=>bz ?_ _⟩ _;rw[e,show dy d f ((c,t)::[])=dy (d++SV "") (bc (c+1) f) [] from by rw[ni,if_neg i,if_pos j,xu]];refine(L [] (d++SV "") _ fe _ v _ Tt (Vc _)<|by rw[WV,kP];lia).mono ar (λa q=>q) λr R Q F S a h a=>?_
    rw[aP];exact h
   ·rw[qj,gh] at i
    rw[lq,gh] at j;rw[e,show dy d f ((c,t)::rest)=dy (d++one (c+1)) (bc (c+1) f) rest from by rw[ni,if_neg i,if_neg j]];refine(L rest (d++one (c+1)) _ fe _ v _ t (by lia)<|by rw[WV,len_one];lia).mono ar (λa q=>q) λr R Q F S a h a=>?_
    rw[aP];exact h
  ·rintro rfl e a a
   refine bz ?_ _;exact⟨_,_,_,⟨rfl,rfl,rfl⟩,.inr ⟨rfl,rfl,_,_,rfl⟩⟩
inductive qq(P:aE)(fa fi me te:Nat)(s:Wq)(lx:SX->Int->List (Nat×Nat)->eN)(c:Td)(sub Z:Led)(q0:eN->Nat->Nat->Nat->S9->Prop)(q1:Nat->Nat->Nat->Nat->eN->Nat->Nat->Nat->SX->Nat->Prop):Prop
 |mk (h0:c=fk s fi fa) (h1:(∀p∈bp P,p∈Z)/\(me+4,df P.rd)∈Z) (k0 k1 k2 k3 ln a n aN acc ta cs tc) (h2:sub=nG P k0 k1 k2 k3 fa fi me te ln a n aN acc ta cs tc/\acc.length+aN.length<=1000)
  (h3:(lx acc ln aN).ret=true->∀a n u fr,q0 (lx acc ln aN) a n u fr) (h4:(lx acc ln aN).ret=false->∀a n u cs tc,q1 k0 k1 k2 k3 (lx acc ln aN) a n u cs tc)
def jZ(P:aE)(h d e f:Nat)(s:Wq)(o:SX->Int->List (Nat×Nat)->eN):aA:=λc sub Z b=>qq P h d e f s o c sub Z (λR a n u i=>b 0 (H7<|.str R.tok<|u+1) [aO P R.ln a,aa (aC R.rest) n,i,bV e f] [] [] [])
 λj k l m R a n u g p=>b 1 (.ok .next) [aO P R.ln a,aa (aC []) n,dV j k l m P.rd d R.tok u g p,eW] [] [] []
theorem zx{P:aE}{A:SX->Int->List (Nat×Nat)->eN}
  (h:∀{Z:Led} {l m o t:Nat},(∀p∈bp P,p∈Z)->(g+4,df P.rd)∈Z->∀(d:List (Nat×Nat)) (a:SX) (f:Int) (z n v:Nat) (i:SX) (x:Nat),a.length+d.length<=1000->
   SP w b (fk s e j) (nG P l m o t j e g y f z n d a v i x) Z (wM P l m o t e g y<|A a f d)):(jZ P j e g y s A).Ok w b:=by
 intro c sub Z Q H;obtain⟨rfl,⟨M,L⟩,l,m,o,t,f,z,n,d,a,v,i,x,⟨rfl,N⟩,E,G⟩:=H;refine(h M L d a f z n v i x N).mono ar (λD q=>q) ?_;rintro r S R F T D ⟨C,B,u,⟨rfl,rfl,rfl⟩,⟨k,rfl,J,rfl⟩|⟨k,rfl,I,O,rfl⟩⟩ D
 ·exact⟨0,E k C B u J⟩
 ·exact⟨1,G k C B u I O⟩
theorem PH(g:b<=800):(jZ P e f l p gg cU).Ok w b:=
 zx λj i d a k q n m c o h=>FF g j i _ d a k q n m c o ar h
theorem Lq(g:b<=800):(jZ P e f l p iG dy).Ok w b:=
 zx λj i d a k q n m c o h=>PJ g j i _ d a k q n m c o ar h
section
variable(P:aE)(n e b a c d i m f g h l:Nat)(j:Int)(k:List (Nat×Nat))(p:SX)(Z:Led)
def Bb(w:Nat->Nat)(A:Int->Nat->List (Nat×Nat)->Nat->Nat->Nat->Nat->Prop)(B:eN->Nat->Nat->Nat->S9->Prop)(C:Nat->Nat->Nat->Nat->eN->Nat->Nat->Nat->SX->Nat->Prop)(D:Int->Nat->Nat->Prop):Prop:=ae [2] [a]<|sI P c a d (bi "callable_iterator.__next__" [.ref<|a+4]) (dO P j e n k++[(a+4,bV c d)]) Z (λq r o u t v=>∀N5 T5:Nat,ae [4,4,1] [b,P.rd,P.d1]<|((jK iN (VJ ⟨[o+1]⟩)=true)->∀Ux UR:Nat,A (bc (o+1) q) v t (r+1) T5 o u)/\((¬(jK iN (VJ ⟨[o+1]⟩)=true))->∀Uy US:Nat,ae [1] [b]<|((VJ ⟨[o+1]⟩="\"")->∀Uz UT:Nat,ae [1,4] [b,a]<|qq P b a c d iG dy (fk iG a b) (dO P (bc (o+1) q) v (r+1) t++[(b+4,dV f g h (w T5) P.rd a "" i (VJ ⟨[o+1]⟩) u),(a+4,bV c d)]) Z (λG T6 TP Ui T=>∀UA UU:Nat,B G T6 TP Ui T) (λTr Tv TA TG G T7 TQ Uj N TX=>∀UB UW:Nat,C Tr Tv TA TG G T7 TQ Uj N TX))/\((¬(VJ ⟨[o+1]⟩="\""))->∀UC UX:Nat,ae [1] [b]<|((VJ ⟨[o+1]⟩="\\")->∀UD UY:Nat,ae [1,4,1] [b,P.rd,P.d1]<|qh P (j7 P) (dO P (bc (o+1) q) v (r+1) t) Z (λx y s H TR T8=>∀UE UZ:Nat,ae [4] [b]<|(((0<(i+1))/\(0<(H+1)))/\((PySem.Str.length ""+PySem.Str.length (VJ ⟨[s+1]⟩))<=VZ))/\(∀Uk:Xi,∀Um UG:Nat,ae [3,4] [b,a]<|qq P b a c d gg cU (fk gg a b) (dO P (bc (s+1) x) T8 (y+1) TR++[(b+4,dV f g h (w T5) P.rd a (VJ ⟨[s+1]⟩) Uk (VJ ⟨[s+1]⟩) H),(a+4,bV c d)]) Z (λz TY TH Ub Q=>∀Un UH:Nat,B z TY TH Ub Q) (λU Ts Tw TB z TZ TJ Uc J TS=>∀Uo UI:Nat,C U Ts Tw TB z TZ TJ Uc J TS))) (λx Ua y I=>∀Up UJ:Nat,ae [7,4] [b,a]<|qq P b a c d gg cU (fk gg a b) (dO P x Ua y []++[(b+4,dV f g h (w T5) P.rd a "" I "" I),(a+4,bV c d)]) Z (λE T1 TK Ud R=>∀Uq UK:Nat,B E T1 TK Ud R) (λV Tt Tx TC E T2 TL Ue L TU=>∀Ur UL:Nat,C V Tt Tx TC E T2 TL Ue L TU)))/\((¬(VJ ⟨[o+1]⟩="\\"))->∀Us UM:Nat,ae [2] [b]<|(((0<(i+1))/\(0<(u+1)))/\((PySem.Str.length ""+PySem.Str.length (VJ ⟨[o+1]⟩))<=VZ))/\(∀Ul:Xi,∀Ut UN:Nat,ae [3,4] [b,a]<|qq P b a c d gg cU (fk gg a b) (dO P (bc (o+1) q) v (r+1) t++[(b+4,dV f g h (w T5) P.rd a (VJ ⟨[o+1]⟩) Ul (VJ ⟨[o+1]⟩) u),(a+4,bV c d)]) Z (λF T3 TM Ug S=>∀Uu UO:Nat,B F T3 TM Ug S) (λY Tu Tz TF F T4 TO Uh M TV=>∀Uv UP:Nat,C Y Tu Tz TF F T4 TO Uh M TV)))))) (λq T9 r O=>∀Uw UQ:Nat,ae [1] [O+1]<|D q T9 r)
def Cp(y:Nat->Nat)(A:S9):Q7:=λv x C C Z s R=>Bb P n e b a c d i f g h j k Z y
 (λj e k n T z t=>SP (br v x w) s (fk gZ a b) (nG P f g h (y T) b a c d j e n k "" i ⟨#[z+1]⟩ t) Z λr o n F q=>R r o n (F++[]) q)
 (λr e n u B=>R (H7<|.str r.tok<|u+1) [aO P r.ln e,aa (aC r.rest) n,B,bV c d] [] [] [])
 (λf g h l r e n u p m=>SP (br v x w) s (fk gZ a b) [(P.d1+4,aO P r.ln e),(P.lf+4,aa (aC []) n),(b+4,dV f g h l P.rd a r.tok u p m),(a+4,eW)] Z λr o n F q=>R r o n (F++[]) q)
 λj e n=>R (.ok .next) [aO P j e,aa (aC []) n,A,eW] [] [] []
noncomputable def B8:Nat:=0x4e0d402f9cdb52d4be90d330d117f945897d5984ad77f6f0dec54604f74d7bd43bcdd366ab8c72b2ee4c5c5d1ad36ace2e09a65091757f1bd5edabaad7a2443f1a6b8809a55458ca512a8be267eea09fe4b5b280e5a6ec39884eb5500f4be1c08ff57e12a480ce051ac50b6a0b5bf0c22e9901c37952cec0297a8459e244f2adab7cce6c7486bd884c9de86b6e51af2d587665d3017e1cef71afb2aeb86d05b7707537135dbcb667cf65a685b3f2337e88046e5780b5d1e09748fd
theorem Lc:CK w (dO P j e n k++[(b+4,mO f g h P.rd a "" i),(a+4,bV c d)]) (bp P++[(c+4,df P.rd)]) [ll P c a d,jZ P b a c d gg cU,jZ P b a c d iG dy,jz P,ip,iq,fU] (fk gZ a b) (Cp P n e b a c d i f g h j k (λT=>T)<|mO f g h P.rd a "" i):=aV 301 185 B8
theorem y4:CK w (dO P j e n k++[(b+4,dV f g h l P.rd a "" i p m),(a+4,bV c d)]) (bp P++[(c+4,df P.rd)]) [ll P c a d,jZ P b a c d gg cU,jZ P b a c d iG dy,jz P,ip,iq,fU] (fk gZ a b) (Cp P n e b a c d i f g h j k (λo=>l)<|dV f g h l P.rd a "" i p m):=aV 301 185 B8
end
def Ij(P:aE)(n t m q a r s k l f g h i:Nat)(j:Int)(e:List (Nat×Nat))(d c:SX):Q7:=λo p N T Z b R=>ae [3,1] [a,N+1]<|R (.ok .next) [aO P j m,aa (aC e) n,dV f g h i P.rd a c k d l,eW] [] [] []
theorem Fd(P:aE)(n t o b a k p l m f g h i:Nat)(j:Int)(e:List (Nat×Nat))(d c:SX):CK w [(P.d1+4,aO P j o),(P.lf+4,aa (aC e) n),(b+4,dV f g h i P.rd a c l d m),(a+4,eW)] [(P.rd+4,eI 100 P.d1),(P.src+4,eI 100 P.d2),(P.d2+4,ka P.tk P.i7 P.fn),(P.fn+4,j2 (P.cl+4) (P.co+4)<|P.ct+4),(P.co+4,j6 P.tk P.x),(P.cl+4,jS P.lf),(k+4,df P.rd)] [] (aS gZ (.ref<|a+4)<|aT 90<|b+4) (Ij P n t o b a k p l m f g h i j e d c):=aV 17 10 0x17de5dce
open Classical in
def lex(a:Int):List (Nat×Nat)->eN
 |[]=>⟨false,"",[],a⟩
 |p::b=>if jK iN (one<|p.1+1)=true then lex (bc (p.1+1) a) b
  else if p.1+1=34 then dy "" (bc (p.1+1) a) b
  else if p.1+1=92 then(match b with
   |[]=>cU "" (bc (p.1+1) a) []
   |q::c=>cU (one<|q.1+1) (bc (q.1+1)<|bc (p.1+1) a) c)
  else cU (one<|p.1+1) (bc (p.1+1) a) b
theorem pk:∀(m:Nat) (a:List (Nat×Nat)) (c:SX) (d:Int),a.length<=m->(cU c d a).ret=false->(cU c d a).rest=[]
 |_,[],c,d,_,_=>by rw[tH]
 |0,_::_,_,_,h,_=>by simp at h
 |m+1,p::a,c,d,h,b=>by
  rw[bT] at h;rw[mW] at b⊢;split at b
  ·cases b
  ·rename_i g
   rw[if_neg g];split at b
   ·rename_i e
    rw[if_pos e];cases a with
    |nil=>rfl
    |cons q f=>exact pk m f _ _ (by rw[bT] at h;lia) b
   ·rename_i e
    rw[if_neg e];exact pk m a _ _ (by exact Xg ‹_›) b
theorem wa:∀(m:Nat) (a:List (Nat×Nat)) (c:SX) (d:Int),a.length<=m->(dy c d a).ret=false->(dy c d a).rest=[]
 |_,[],c,d,_,_=>by rw[xu]
 |0,_::_,_,_,h,_=>by simp at h
 |m+1,p::a,c,d,h,b=>by
  rw[bT] at h;rw[ni] at b⊢;split at b
  ·cases b
  ·rename_i g
   rw[if_neg g];split at b
   ·rename_i e
    rw[if_pos e];cases a with
    |nil=>rfl
    |cons q f=>exact wa m f _ _ (by rw[bT] at h;lia) b
   ·rename_i e
    rw[if_neg e];exact wa m a _ _ (by exact Xg ‹_›) b
theorem lex_nil(a:Int):lex a []=⟨false,"",[],a⟩:=rfl
open Classical in
theorem nh(b:Int)(p:Nat×Nat)(a:List (Nat×Nat)):lex b (p::a)=if jK iN (one<|p.1+1)=true then lex (bc (p.1+1) b) a
  else if p.1+1=34 then dy "" (bc (p.1+1) b) a
  else if p.1+1=92 then(match a with
   |[]=>cU "" (bc (p.1+1) b) []
   |q::c=>cU (one<|q.1+1) (bc (q.1+1)<|bc (p.1+1) b) c)
  else cU (one<|p.1+1) (bc (p.1+1) b) a:=by cases a<;>rfl
inductive mh(P:aE)(k0 k1 k2 fi me te:Nat)(first:Prop)(R:eN)(r:Vz)(objs:List S9)(new F ro:Led):Prop
 |mk (a n u) (h1:new=[]/\F=[]/\ro=[]) (h2:(R.ret=true/\r= .ok (.ret<|.str R.tok<|u+1)/\∃fr b,objs=[aO P R.ln a,aa (aC R.rest) n,fr,b])\/(R.ret=false/\r= .ok .next/\∃k3 cs tc,objs=[aO P R.ln a,aa (aC []) n,dV k0 k1 k2 k3 P.rd fi R.tok u cs tc,eW])\/(first/\R.ret=false/\r= .ok .next/\objs=[aO P R.ln a,aa (aC []) n,mO k0 k1 k2 P.rd fi R.tok u,eW]))
theorem mh.mono{p q:Prop}(h:p->q){R:eN}{r objs new F ro}(H:mh P e f g d i j p R r objs new F ro):mh P e f g d i j q R r objs new F ro:=by
 obtain⟨c,n,u,b,a|a|⟨k,a⟩⟩:=H
 ·exact⟨c,n,u,b,.inl a⟩
 ·exact⟨c,n,u,b,.inr<|.inl a⟩
 ·exact⟨c,n,u,b,.inr<|.inr ⟨h k,a⟩⟩
theorem Nr{b:Nat}{Z:Led}{P:aE}{h i j k g a s A:Nat}{l:Int}{q n m o:Nat}{c d:SX}{f:List (Nat×Nat)}(t:b+40<=960)(v:∀p∈bp P,p∈Z)(u:(s+4,df P.rd)∈Z):
  SP w b (fk gZ a g) [(P.d1+4,aO P l q),(P.lf+4,aa (aC f) n),(g+4,dV h i j k P.rd a c m d o),(a+4,eW)] Z
   λr y x F z=>r= .ok .next/\y=[aO P l q,aa (aC f) n,dV h i j k P.rd a c m d o,eW]/\x=[]/\F=[]/\z=[]:=by
 exact Fd P n 0 q g a s A m o h i j k l f d c 960 t (zd rfl) ay (j5 v u) λB C N T e=>bz ⟨rfl,rfl,rfl,rfl,rfl⟩ _
theorem wF{b:Nat}{Z:Led}{P:aE}{d e f y c a g j:Nat}{G n u E:Nat}{m:SX}{first:Prop}{R:eN}(t:b+40<=960)(x:∀p∈bp P,p∈Z)(v:(g+4,df P.rd)∈Z)(s:R.ret=false):
  SP w b (fk gZ a c) [(P.d1+4,aO P R.ln G),(P.lf+4,aa (aC []) n),(c+4,dV d e f y P.rd a R.tok u m E),(a+4,eW)] Z
   λr o n l i=>mh P d e f a g j first R r o n (l++[]) i:=by
 refine(Nr (A:=j) t x v).mono ar (λk q=>q) ?_;rintro r I H F i k h k;refine gb h λz A B C D=>?_;clear h;subst z A B C D
 exact⟨_,_,_,⟨rfl,rfl,rfl⟩,.inr<|.inl ⟨s,rfl,_,_,_,rfl⟩⟩
theorem xI{first:Prop}(d:R.ret=true):
  mh P e f g a h i first R (H7<|.str R.tok<|u+1) [aO P R.ln j,aa (aC R.rest) n,c,b] [] [] []:=⟨_,_,_,⟨rfl,rfl,rfl⟩,.inl ⟨d,rfl,_,_,rfl⟩⟩
theorem vQ{P:aE}{n e E F w N L q r s:Nat}{d:Int}{b:List (Nat×Nat)}(i:∀p∈bp P,p∈Z)(m:(w+4,df P.rd)∈Z)(o:b.length<=1000){x A B C D}
  (H:∀c t rest,b=(c,t)::rest->lex d b=lex (bc (c+1) d) rest->∀e T,A (bc (c+1) d) e rest (n+1) T c t) (f:(lex d b).ret=true->∀e n u G,B (lex d b) e n u G)
  (g:(lex d b).ret=false->∀T e n u z M,C q r s (x T) (lex d b) e n u z M) (I:b=[]->D d e n):Bb P n e E F w N L q r s d b Z x A B C D:=by
 refine bz ⟨rfl,⟨i,m⟩,_,_,_,b,⟨rfl,b6<|by assumption⟩,?_,λh a a a=>bz (I h) _⟩ _;rintro c t rest rfl fe a T;rw[bT] at o;refine bz ⟨λj a a=>H c t rest rfl (by rw[nh,if_pos j]) _ _,λj a a=>bz ⟨λk a a=>?_,λk a a=>bz ⟨λl a a=>?_,λl a a=>?_⟩ _⟩ _⟩ _<;>rw[qj,gh] at k
 ·rw[nh,if_neg j,if_pos k] at f g
  exact bz ⟨rfl,⟨i,m⟩,_,_,_,_,_,_,_,rest,"",_,_,_,⟨rfl,by rw[kP];lia⟩,λh a a a a a a=>f h ..,λh a a a a a a a=>g h ..⟩ _
 ·rw[lq,gh] at l
  rw[nh,if_neg j,if_neg k,if_pos l] at f g;refine bz ⟨rfl,i,_,_,_,rest,⟨rfl,b6<|by exact Wz ‹_›⟩,?_,?_⟩ _
  ·rintro y O J rfl Q a a
   rw[bT] at o;exact bz ⟨⟨⟨Vl _,Vl _⟩,b6<|by rw[kP];show 0+1<=1000;exact Vl _⟩,λv a a=>bz ⟨rfl,⟨i,m⟩,_,_,_,_,_,_,_,J,one<|y+1,_,_,_,⟨rfl,by rw[len_one];lia⟩,λh a a a a a a=>f h ..,λh a a a a a a a=>g h ..⟩ _⟩ _
  ·rintro rfl R a a
   exact bz ⟨rfl,⟨i,m⟩,_,_,_,_,_,_,_,[],"",_,_,_,⟨rfl,by rw[kP];exact Vc _⟩,λh a a a a a a=>f h ..,λh a a a a a a a=>g h ..⟩ _
 ·rw[lq,gh] at l
  rw[nh,if_neg j,if_neg k,if_neg l] at f g;exact bz ⟨⟨⟨Vl _,Vl _⟩,b6<|by rw[kP];show 0+1<=1000;exact Vl _⟩,λv a a=>bz ⟨rfl,⟨i,m⟩,_,_,_,_,_,_,_,rest,one<|c+1,_,_,_,⟨rfl,by rw[len_one];lia⟩,λh a a a a a a=>f h ..,λh a a a a a a a=>g h ..⟩ _⟩ _
theorem uq:∀C∈[ll P b a c,jZ P d a b c gg cU,jZ P d a b c iG dy,jz P,ip,iq,fU],aA.Ok w 800 C:=
 aj (uB<|zd rfl) (aj (PH<|zd rfl)<|aj (Lq<|zd rfl)<|aj (qC<|zd rfl)<|aj qt<|aj p8<|aj nH ay)
theorem Mj(J:b<=760)(i:∀p∈bp P,p∈Z)(g:(l+4,df P.rd)∈Z):
  ∀(m:Nat) (d:List (Nat×Nat)) (f:Int) (u n o:Nat) (j:SX) (s:Nat),d.length<=m->d.length<=1000->
   SP w b (fk gZ k v) (nG P y z A D v k l B f u n d "" o j s) Z (mh P y z A k l B False<|lex f d):=by
 intro m;induction m with
 |zero=>
  intro d f u n o j s C x;cases WS (Nat.le_zero.mp C)
  exact y4 P n u v k l B o s y z A D f [] j 800 (by exact Tq ‹_› _) (zd rfl) uq (j5 i g) λE G N T e=>vQ i g x (λa a a h=>nomatch h) (λh a a a a=>xI h) (λh a a a a a a=>e.symm▸wF (by exact SQ (Tq ‹_› _) (zd rfl)) i g h) λa=>by
   rw[lex_nil];exact⟨_,_,_,⟨rfl,rfl,rfl⟩,.inr<|.inl ⟨rfl,rfl,_,_,_,rfl⟩⟩
 |succ m I=>
  intro d f u n o j s C x;refine y4 P n u v k l B o s y z A D f d j 800 (by exact Tq ‹_› _) (zd rfl) uq (j5 i g) λE G N T e=>vQ i g x ?_ (λh a a a a=>xI h) (λh a a a a a a=>e.symm▸wF (by exact SQ (Tq ‹_› _) (zd rfl)) i g h) λh=>?_
  ·rintro c t rest rfl H fe T
   rw[H,e];refine(I rest (bc (c+1) f) fe _ _ _ t (by rw[bT] at C;exact Xg ‹_›)<|by rw[bT] at x;exact Wz ‹_›).mono ar (λa q=>q) λr M L F O a h a=>?_
   rw[aP];exact h
  ·rw[h,lex_nil];exact⟨_,_,_,⟨rfl,rfl,rfl⟩,.inr<|.inl ⟨rfl,rfl,_,_,_,rfl⟩⟩
theorem NM(A:b<=760)(i:∀p∈bp P,p∈Z)(g:(k+4,df P.rd)∈Z)(f:List (Nat×Nat))(j:Int)(z n y:Nat)(v:f.length<=1000):
   SP w b (fk gZ d l) [(P.d1+4,aO P j z),(P.lf+4,aa (aC f) n),(l+4,mO m o s P.rd d "" y),(d+4,bV k u)] Z (mh P m o s d k u True<|lex j f):=by
 refine Lc P n z l d k u y m o s j f 800 (by exact Tq ‹_› _) (zd rfl) uq (j5 i g) λC D N T e=>vQ i g v ?_ (λh a a a a=>xI h) (λh a a a a a a=>e.symm▸wF (by exact SQ (Tq ‹_› _) (zd rfl)) i g h) λh=>?_
 ·rintro c t rest rfl B fe T
  rw[B,e];refine(Mj A i g _ rest (bc (c+1) j) fe _ _ _ t ar<|by rw[bT] at v;exact Wz ‹_›).mono ar (λa q=>q) λr G E F H a h a=>?_
  rw[aP];exact h.mono λx=>x.elim
 ·rw[h,lex_nil];exact⟨_,_,_,⟨rfl,rfl,rfl⟩,.inr<|.inr ⟨trivial,rfl,rfl,rfl⟩⟩
inductive Bp(P:aE)(c:Td)(sub Z:Led)(q0:eN->Nat->Nat->Nat->S9->S9->Prop)(q1:Nat->Nat->Nat->Nat->eN->Nat->Nat->Nat->Nat->SX->Nat->Prop)(q2:Nat->Nat->Nat->Nat->eN->Nat->Nat->Nat->Prop):Prop
 |mk (fi fa me te k0 k1 k2 ln a n aN ta) (h0:c=fk gZ fi fa) (h1:(∀p∈bp P,p∈Z)/\(me+4,df P.rd)∈Z)
  (h2:sub=[(P.d1+4,aO P ln a),(P.lf+4,aa (aC aN) n),(fa+4,mO k0 k1 k2 P.rd fi "" ta),(fi+4,bV me te)]/\aN.length<=1000)
  (h3:(lex ln aN).ret=true->∀a n u fr fi,q0 (lex ln aN) a n u fr fi) (h4:(lex ln aN).ret=false->∀a n u k3 cs tc,q1 fi k0 k1 k2 (lex ln aN) a n u k3 cs tc) (h5:(lex ln aN).ret=false->∀a n u,q2 fi k0 k1 k2 (lex ln aN) a n u)
def wY(P:aE):aA:=λc sub Z d=>Bp P c sub Z (λr b n u i a=>d 0 (H7<|.str r.tok<|u+1) [aO P r.ln b,aa (aC r.rest) n,i,a] [] [] [])
 (λa e f g r b n u j h k=>d 1 (.ok .next) [aO P r.ln b,aa (aC []) n,dV e f g j P.rd a r.tok u h k,eW] [] [] [])
 λa e f g r b n u=>d 2 (.ok .next) [aO P r.ln b,aa (aC []) n,mO e f g P.rd a r.tok u,eW] [] [] []
theorem Fl(o:b<=760):(wY P).Ok w b:=by
 rintro c sub Z B ⟨D,C,I,N,E,G,H,x,A,n,k,y,rfl,⟨s,p⟩,⟨rfl,t⟩,g,h,i⟩;refine(NM o s p k x A n y t).mono ar (λf q=>q) ?_;rintro r L J F M f ⟨e,d,u,⟨rfl,rfl,rfl⟩,⟨a,rfl,m,l,rfl⟩|⟨a,rfl,v,j,z,rfl⟩|⟨-,a,rfl,rfl⟩⟩ f
 ·exact aB 0<|g a e d u m l
 ·exact aB 1<|h a e d u v j z
 ·exact aB 2<|i a e d u
theorem yC:∀(a:List (Nat×Nat)) (b:Int),(lex b a).ret=false->(lex b a).rest=[]:=by
 intro a;induction a with
 |nil=>intro b i;rw[lex_nil]
 |cons p a g=>
  intro b h;rw[nh] at h⊢;split at h
  ·rename_i c
   rw[if_pos c];exact g _ h
  ·rename_i c
   rw[if_neg c];split at h
   ·rename_i d
    rw[if_pos d];exact wa _ a _ _ ar h
   ·rename_i d
    rw[if_neg d];split at h
    ·rename_i e
     rw[if_pos e];cases a with
     |nil=>exact pk _ [] _ _ ar h
     |cons q f=>exact pk _ f _ _ ar h
    ·rename_i e
     rw[if_neg e];exact pk _ a _ _ ar h
theorem SP.meets{id:String}{B:Tj}{S:PySem.Spec}(l:Yp table id=some B)(n:plainId id=true)(m:Meets (B f) S)
  (h:∀(A:Wr) (a h:Vm) (N T:Nat) (g:GB) (d:YD) (c:WU) (R:Vz->Tf->Prop),KH a (kK w)->ep a Z->Rep a h L N->Behind e Z a L d c R->S A R ⟨h,g,d,T+1,c⟩):SP w b (.builtin id f) L Z e:=
 SP.builtin l n λA a i N T g d c R o p hk k D j=>m Pw w A R _<|h A a i N T g d c R hk k D j
noncomputable def Dm(v:va):Option Int:=match v with
 | .int i _=>some i
 |_=>none
theorem Oj{i:Int}:Dm v=some i->∃t,v= .int i t:=by
 cases v with
 |int j t=>exact λh=>aB t<|WD h▸rfl
 |_=>exact λh=>absurd h.symm<|Yl i
def CN(a:List va)(f:Int->Prop):Prop:=match a with
 |v::r=>qQ r<|qa (Dm v) f
 |[]=>False
inductive Ix(f:Int->Prop):List va->Prop
 |mk (i t) (h:f i):Ix f [.int i t]
theorem J5{f:Int->Prop}(h:CN b f):Ix f b:=by
 cases b with
 |nil=>exact h.elim
 |cons v r=>exact uP h λe h=>rU h λi a h=>(Oj a).elim λt a=>by subst e a;exact⟨_,_,h⟩
def uz:aA:=λc sub e b=>jP c λid a=>fH id "list.pop" (tV a λl r=>CN r λi=>q7 sub λd a n=>xj a λx a=>
 ((l=d/\i=0)/\a.length+1<=VZ)/\b 0 (H7 x) [aa a<|n+1] [] [] []) False
theorem Lg:uz.Ok w b:=by
 intro c sub Z j H;replace H:=kU H;obtain⟨id,a,H⟩:=H;replace H:=gJ H;rcases H with⟨rfl,H⟩|H
 ·replace H:=xr H
  obtain⟨l,r,H⟩:=H;replace H:=J5 H;obtain⟨i,t,H⟩:=H;replace H:=um H;obtain⟨o,a,n,H⟩:=H;rcases a with _|⟨x,a⟩
  ·exact H.elim
  obtain⟨⟨⟨rfl,rfl⟩,f⟩,H⟩:=H;exact SP.meets F.entry_list_pop (by decide+kernel) (MeetsSeq.list_pop_at l ⟨x::a⟩ n 0 t 0 x (by decide) (by simp[seqIndex?]) rfl f) λA m h N T g d p R hk k D e=>
   ⟨D.own _<|.head _,e.seq D (by simp[Array.eraseIdxIfInBounds]) D9<|aB 0 H⟩
 ·exact H.elim
def wV:aA:=λc sub e b=>jP c λid a=>fH id "len" (tV a λl r=>ue r (q7 sub λd a n=>
 (l=d/\a.length<=VZ)/\∀t,b 0 (H7<|.int a.length<|t+1) (sub.map (·.2)) [] [] [])) False
theorem PF:wV.Ok w b:=by
 intro c sub Z p H;replace H:=kU H;obtain⟨id,f,H⟩:=H;replace H:=gJ H;rcases H with⟨rfl,H⟩|H
 ·replace H:=xr H
  obtain⟨l,r,H⟩:=H;rcases r with _|_
  ·replace H:=um<|CT H
   obtain⟨B,f,n,⟨rfl,j⟩,H⟩:=H;refine SP.builtin entry_len plain_len λA x h N T g d k R y z hk u D i=>?_
   rw[sizeLine_eq] at j;refine YV (wpAny_len_body_list (items:=⟨f⟩) (s:=⟨h,g,d,T+1,k⟩) (Q:=λv e=>R (H7 v) e) (E:=postE R) (aY _ (D.own _<|.head _) rfl (aB n rfl)) (by rw[ZW];lia)<|i.done (T:=T+2) (aB 0<|H<|T+1) D) ?_ λo o q=>q
   rintro t e a;refine aI a λr m q=>?_;clear a;subst m
   exact q
  ·exact H.elim
 ·exact H.elim
def O9(P:aE)(n m t a:Nat)(i:Int)(e:List (Nat×Nat))(s:SX)(ps:List va):Q7:=λj k N T Z b R=>ae [3,4,1,5,3,4,1,1,3,4] [N,P.rd,P.d1,P.pb,N,P.rd,P.d1,N+1,N,N+2]<|Bp P (aS gZ (.ref<|N+6)<|aT 90<|N+4) [(P.d1+4,aO P i a),(P.lf+4,aa (aC e) n),(N+4,ao [ent "self" T<|.ref<|P.rd+4,ent "token" (T+5)<|.str ""<|T+5,ent "fiter" (T+8)<|.ref<|N+6] 3),(N+4+1+1,av "callable_iterator" [.ref<|N+5,.str ""<|T+8,.bool false])] ([(N+5,av "method" [.ref 83,.ref<|P.rd+4])]++Z) (λr a n u o d=>∀c T1:Nat,R (H7<|.str r.tok<|u+1) [aO P r.ln a,aa (aC r.rest) n,aa [] m] [] [(N+5,av "method" [.ref 83,.ref<|P.rd+4])] []) (λd f g h r a n u p l q=>∀c T1:Nat,ae [1] [N]<|R (H7<|.str r.tok<|u+1) [aO P r.ln a,aa (aC []) n,aa [] m] [] [(N+5,av "method" [.ref 83,.ref<|P.rd+4])] []) (λd f g h r a n u=>∀c T1:Nat,ae [1] [N]<|R (H7<|.str r.tok<|u+1) [aO P r.ln a,aa (aC []) n,aa [] m] [] [(N+5,av "method" [.ref 83,.ref<|P.rd+4])] [])
theorem NL(P:aE)(n m t c:Nat)(b:Int)(a:List (Nat×Nat))(s:SX)(ps:List va):CK w [(P.d1+4,aO P b c),(P.lf+4,aa (aC a) n),(P.pb+4,aa [] m)] (bp P) [wY P] (Vh (.ref 90) ⟨[.ref<|P.rd+4],[]⟩) (O9 P n m t c b a s ps):=aV 301 89 0xaa9f28e3c878fbeac4a46b4c416c6aa6372fc36a22527986bb90b59f77f59e8a3783394f87b35f823c395c8674d1c686007cd2d350b7ddb5c63750c6bfb4ea4dd1319fe98098b1b17448695396517f184ab39a44646cd1ad55
def PY(P:aE)(n m t d:Nat)(c:Int)(a:List (Nat×Nat))(s:SX)(ps:List va):Q7:=λi j N T Z b R=>ae [3,4,1,2] [N,P.rd,P.d1,P.pb] ((((P.pb+4)=(P.pb+4))/\(Tn (.str s (t+1)::ps)<=PySem.sizeLine))/\∀k:Xi,∀e g:Nat,ae [1,4,1,5] [N,P.rd,P.d1,P.pb] (((((P.pb+4)=(P.pb+4))/\((0:Int)=(0:Int)))/\((Tn ps+1)<=PySem.sizeLine))/\∀f h:Nat,R (H7<|.str s<|t+1) [aO P c d,aa (aC a) n,aa ps<|m+1] [] [] []))
theorem P2(P:aE)(n m t c:Nat)(b:Int)(a:List (Nat×Nat))(s:SX)(ps:List va):CK w [(P.d1+4,aO P b c),(P.lf+4,aa (aC a) n),(P.pb+4,aa (.str s (t+1)::ps) m)] (bp P) [uz,wV] (Vh (.ref 90) ⟨[.ref<|P.rd+4],[]⟩) (PY P n m t c b a s ps):=aV 301 53 0x19b1bfef9611e3c753f77fe54d01857a89ec620ff88306b1c4c488ca1a1ee8e8daf5472fce15c3572f879e46563682a1c5c590f7
structure bt where
 ln:Int
 aN:List (Nat×Nat)
 ps:List (SX×Nat)
noncomputable def b7(ps:List (SX×Nat)):List va:=ps.map λp=>.str p.1<|p.2+1
def mq(P:aE)(S:bt)(a n m:Nat):List S9:=[aO P S.ln a,aa (aC S.aN) n,aa (b7 S.ps) m]
def jj(P:aE)(S:bt)(a n m:Nat):Led:=[(P.d1+4,aO P S.ln a),(P.lf+4,aa (aC S.aN) n),(P.pb+4,aa (b7 S.ps) m)]
def f5(S:bt):SX×bt:=match S.ps with
 |p::r=>(p.1,⟨S.ln,S.aN,r⟩)
 |[]=>((lex S.ln S.aN).tok,⟨(lex S.ln S.aN).ln,(lex S.ln S.aN).rest,[]⟩)
theorem SP.gc(h:SP w b c L Z k)(z:∀r a f F j,a.length=L.length->k r a f F j->∃i e,i.Sublist f/\e.Sublist F/\l r a i e []):SP w b c L Z l:=by
 intro A C v N T g d I G E H hk y D R B;refine h A C v N T g d I G E H hk y D R ?_;intro r a f F j x s t u o m O n;exact bE (z r a f F j m o) λi e J M p=>B r a i e [] x s t u p m (λP q=>nomatch q) (n.fp<|((ZV _).append J).append M)
def Rw(v:va)(b:List S9):aU:=λr a c F d=>r= .ok (.ret v)/\a=b
noncomputable abbrev pf(P:aE):Td:=.call (.ref 90) ⟨[.ref<|P.rd+4],[]⟩
theorem IQ(G:b<=720)(j:∀p∈bp P,p∈Z)(t:S.aN.length<=1000)(v:S.ps.length<=1000):
  SP w b (pf P) (jj P S g n m) Z λr z y F A=>∃u c a x,Rw (.str (f5 S).1<|u+1) (mq P (f5 S).2 c a x) r z y F A:=by
 obtain⟨f,d,ps⟩:=S;cases ps with
 |nil=>
  have i:∀C∈[wY P],aA.Ok w 760 C:=aj (Fl<|zd rfl) ay;refine NL P n m 0 g f d "" [] 760 (by exact Tq ‹_› _) (zd rfl) i j λo s N T e=>bz ⟨_,_,_,_,_,_,_,f,g,n,d,_,rfl,⟨λp q=>az<|j p q,bq<|by simp[df]⟩,⟨rfl,t⟩,?_,?_,?_⟩ _
  ·intro h c a u E D _ _
   exact oH _ _ _ _ rfl rfl
  ·intro h c a u H B J _ _
   refine bz (oH u c a m rfl ?_) _;unfold mq f5;rw[yC d f h];rfl
  ·intro h c a u _ _
   refine bz (oH u c a m rfl ?_) _;unfold mq f5;rw[yC d f h];rfl
 |cons p r=>
  have i:∀C∈[uz,wV],aA.Ok w 760 C:=aj Lg<|aj PF ay;refine P2 P n m p.2 g f d p.1 (b7 r) 760 (by exact Tq ‹_› _) (zd rfl) i j λo s N T e=>?_
  have l:(b7 r).length+1<=1000:=by unfold b7;rw[aM];exact v
  refine bz ⟨⟨rfl,b6 l⟩,λI k k=>bz ⟨⟨⟨rfl,rfl⟩,b6 l⟩,λk k=>?_⟩ _⟩ _;exact oH _ _ _ _ rfl rfl
theorem A1(i:b<=720)(l:∀p∈bp P,p∈Z)(j:S.aN.length<=1000)(k:S.ps.length<=1000):
  SP w b (pf P) (jj P S s n m) Z λr f e F h=>∃u d c a,Rv (.str (f5 S).1<|u+1) (mq P (f5 S).2 d c a) r f e F h:=by
 refine(IQ i l j k).gc ?_;rintro r f e F h t g;refine nt g λu d c a o q=>?_;clear g;subst o q
 exact dR [] [] (YZ _) (YZ _) ⟨u,d,c,a,rfl,rfl,rfl,rfl,rfl⟩
def Ow:Q7:=λa c N T Z b R=>R (H7<|.int 0<|T+1) [] [] [] []
theorem NT:CK w [] [] [] (Vh (.type "int") ⟨[.str (VJ ⟨[48]⟩)<|t+1],[]⟩) Ow:=aV 2 8 0x0
def JQ:Q7:=λa c N T Z b R=>R (H7<|.int 1<|T+1) [] [] [] []
theorem KG:CK w [] [] [] (Vh (.type "int") ⟨[.str (VJ ⟨[49]⟩)<|t+1],[]⟩) JQ:=aV 2 8 0x0
def Kk:Q7:=λa c N T Z b R=>R (H7<|.int 2<|T+1) [] [] [] []
theorem OW:CK w [] [] [] (Vh (.type "int") ⟨[.str (VJ ⟨[50]⟩)<|t+1],[]⟩) Kk:=aV 2 8 0x0
def IE:Q7:=λa c N T Z b R=>R (H7<|.int 3<|T+1) [] [] [] []
theorem HP:CK w [] [] [] (Vh (.type "int") ⟨[.str (VJ ⟨[51]⟩)<|t+1],[]⟩) IE:=aV 2 8 0x0
def O2:Q7:=λa c N T Z b R=>R (H7<|.str "0"<|T+1) [] [] [] []
theorem Hh(t:Nat):CK w [] [] [] (Vh (.type "str") ⟨[.int 0<|t+1],[]⟩) O2:=aV 2 12 0x0
def HB:Q7:=λa c N T Z b R=>R (H7<|.str "1"<|T+1) [] [] [] []
theorem Jm(t:Nat):CK w [] [] [] (Vh (.type "str") ⟨[.int 1<|t+1],[]⟩) HB:=aV 2 12 0x0
def NX:Q7:=λa c N T Z b R=>R (H7<|.str "2"<|T+1) [] [] [] []
theorem GI(t:Nat):CK w [] [] [] (Vh (.type "str") ⟨[.int 2<|t+1],[]⟩) NX:=aV 2 12 0x0
def LQ:Q7:=λa c N T Z b R=>R (H7<|.str "3"<|T+1) [] [] [] []
theorem Kv(t:Nat):CK w [] [] [] (Vh (.type "str") ⟨[.int 3<|t+1],[]⟩) LQ:=aV 2 12 0x0
def QT:Q7:=λa c N T Z b R=>R (H7<|.str "0\n"<|T+3) [] [] [] []
theorem KC(t u:Nat):CK w [] [] [] (VQ "str.__mod__" ⟨[.str "%d\n"<|t+1,.int 0<|u+1],[]⟩) QT:=aV 2 5 0x0
def RV:Q7:=λa c N T Z b R=>R (H7<|.str "1\n"<|T+3) [] [] [] []
theorem Jf(t u:Nat):CK w [] [] [] (VQ "str.__mod__" ⟨[.str "%d\n"<|t+1,.int 1<|u+1],[]⟩) RV:=aV 2 5 0x0
def Qp:Q7:=λa c N T Z b R=>R (H7<|.str "2\n"<|T+3) [] [] [] []
theorem G3(t u:Nat):CK w [] [] [] (VQ "str.__mod__" ⟨[.str "%d\n"<|t+1,.int 2<|u+1],[]⟩) Qp:=aV 2 5 0x0
def Il:Q7:=λa c N T Z b R=>R (H7<|.str "3\n"<|T+3) [] [] [] []
theorem QM(t u:Nat):CK w [] [] [] (VQ "str.__mod__" ⟨[.str "%d\n"<|t+1,.int 3<|u+1],[]⟩) Il:=aV 2 5 0x0
def JX:Q7:=λa c N T Z b R=>R (H7<|.str "\"0\""<|T+3) [] [] [] []
theorem Gx(t u:Nat):CK w [] [] [] (VQ "str.__mod__" ⟨[.str "\"%d\""<|t+1,.int 0<|u+1],[]⟩) JX:=aV 2 5 0x0
def Im:Q7:=λa c N T Z b R=>R (H7<|.str "\"1\""<|T+3) [] [] [] []
theorem PC(t u:Nat):CK w [] [] [] (VQ "str.__mod__" ⟨[.str "\"%d\""<|t+1,.int 1<|u+1],[]⟩) Im:=aV 2 5 0x0
def HV:Q7:=λa c N T Z b R=>R (H7<|.str "\"2\""<|T+3) [] [] [] []
theorem KY(t u:Nat):CK w [] [] [] (VQ "str.__mod__" ⟨[.str "\"%d\""<|t+1,.int 2<|u+1],[]⟩) HV:=aV 2 5 0x0
def Rk:Q7:=λa c N T Z b R=>R (H7<|.str "\"3\""<|T+3) [] [] [] []
theorem Qb(t u:Nat):CK w [] [] [] (VQ "str.__mod__" ⟨[.str "\"%d\""<|t+1,.int 3<|u+1],[]⟩) Rk:=aV 2 5 0x0
def FO(t:Nat):Q7:=λa c N T Z b R=>R (H7<|.str "\\0\t"<|T+3) [] [] [] []
theorem Ni(t u:Nat):CK w [] [] [] (VQ "str.__mod__" ⟨[.str "\\%d\t"<|t+1,.int 0<|u+1],[]⟩) (FO t):=aV 2 5 0x0
def RE(t:Nat):Q7:=λa c N T Z b R=>R (H7<|.str "\\1\t"<|T+3) [] [] [] []
theorem LO(t u:Nat):CK w [] [] [] (VQ "str.__mod__" ⟨[.str "\\%d\t"<|t+1,.int 1<|u+1],[]⟩) (RE t):=aV 2 5 0x0
def EO(t:Nat):Q7:=λa c N T Z b R=>R (H7<|.str "\\2\t"<|T+3) [] [] [] []
theorem J2(t u:Nat):CK w [] [] [] (VQ "str.__mod__" ⟨[.str "\\%d\t"<|t+1,.int 2<|u+1],[]⟩) (EO t):=aV 2 5 0x0
def GV(t:Nat):Q7:=λa c N T Z b R=>R (H7<|.str "\\3\t"<|T+3) [] [] [] []
theorem QH(t u:Nat):CK w [] [] [] (VQ "str.__mod__" ⟨[.str "\\%d\t"<|t+1,.int 3<|u+1],[]⟩) (GV t):=aV 2 5 0x0
noncomputable def dig(m:Nat):SX:=VJ ⟨[48+m]⟩
noncomputable def rF:Nat->SX
 |0=>"%d\n"
 |1=>"\"%d\""
 |_=>"\\%d\t"
noncomputable def dk:Nat->Nat->SX
 |0,m=>VJ ⟨[48+m,10]⟩
 |1,m=>VJ ⟨[34,48+m,34]⟩
 |_,m=>VJ ⟨[92,48+m,9]⟩
def Rs(s:SX)(c:List S9):aU:=λr b a F d=>∃u,Rv (.str s<|u+1) c r b a F d
structure lH(c:Td)(sub:Led)(k:Nat->Prop):Prop where
 ask:∃m t,(m<4/\c= .call (.type "int") ⟨[.str (dig m)<|t+1],[]⟩/\sub=[])/\k m
theorem lH.dD{k:Nat->Prop}(a:m<4)(h:k m):lH (.call (.type "int") ⟨[.str (dig m)<|t+1],[]⟩) [] k:=⟨m,t,⟨a,rfl,rfl⟩,h⟩
def cInt:aA:=λc sub b a=>lH c sub λm=>∀u,a 0 (H7<|.int m<|u+1) [] [] [] []
theorem PO(a:b+40<=960)(f:m<4):SP w b (.call (.type "int") ⟨[.str (dig m)<|t+1],[]⟩) [] Z (Ri m []):=by
 rcases(by exact eg ‹_› :m=0\/m=1\/m=2\/m=3) with rfl|rfl|rfl|rfl
 ·exact NT 960 a (zd rfl) ay ax λc d N T e=>Ri.mk rfl rfl
 ·exact KG 960 a (zd rfl) ay ax λc d N T e=>Ri.mk rfl rfl
 ·exact OW 960 a (zd rfl) ay ax λc d N T e=>Ri.mk rfl rfl
 ·exact HP 960 a (zd rfl) ay ax λc d N T e=>Ri.mk rfl rfl
theorem Kf(e:b+40<=960):cInt.Ok w b:=by
 rintro c sub Z l ⟨m,t,⟨f,rfl,rfl⟩,H⟩;refine(PO e f).mono ar (λd q=>q) ?_;rintro r o n F p d a d;refine hH a λu g h i j k=>?_;clear a;subst g h i j k
 exact⟨0,H u⟩
structure sF(c:Td)(sub:Led)(k:Nat->Prop):Prop where
 ask:∃m t i,(m<4/\i=SR m/\c= .call (.type "str") ⟨[.int i<|t+1],[]⟩/\sub=[])/\k m
theorem sF.dD{k:Nat->Prop}(b:m<4)(a:i=SR m)(h:k m):sF (.call (.type "str") ⟨[.int i<|t+1],[]⟩) [] k:=⟨m,t,i,⟨b,a,rfl,rfl⟩,h⟩
def zP:aA:=λc sub b a=>sF c sub λm=>∀u,a 0 (H7<|.str (dig m)<|u+1) [] [] [] []
theorem Fs:"0"=dig 0:=by decide+kernel
theorem Sf:"1"=dig 1:=by decide+kernel
theorem FY:"2"=dig 2:=by decide+kernel
theorem Mv:"3"=dig 3:=by decide+kernel
theorem EV{b t m:Nat}(a:b+40<=960)(f:m<4):SP w b (.call (.type "str") ⟨[.int m<|t+1],[]⟩) [] Z (Rs (dig m) []):=by
 rcases(by exact eg ‹_› :m=0\/m=1\/m=2\/m=3) with rfl|rfl|rfl|rfl
 ·exact Hh t 960 a (zd rfl) ay ax λc d N T e=>⟨T,by rw[Fs];exact Rv.mk rfl⟩
 ·exact Jm t 960 a (zd rfl) ay ax λc d N T e=>⟨T,by rw[Sf];exact Rv.mk rfl⟩
 ·exact GI t 960 a (zd rfl) ay ax λc d N T e=>⟨T,by rw[FY];exact Rv.mk rfl⟩
 ·exact Kv t 960 a (zd rfl) ay ax λc d N T e=>⟨T,by rw[Mv];exact Rv.mk rfl⟩
theorem I9(e:b+40<=960):zP.Ok w b:=by
 rintro c sub Z l ⟨m,t,_,⟨f,rfl,rfl,rfl⟩,H⟩;refine(EV e f).mono ar (λd q=>q) ?_;rintro r o n F p d a d;refine hH a λu g h i j k=>?_;clear a;subst g h i j k
 exact⟨0,H u⟩
structure CX(c:Td)(sub:Led)(k:Nat->Nat->Prop):Prop where
 ask:∃j m t u,((j<3/\m<4)/\c= .builtin "str.__mod__" ⟨[.str (rF j)<|t+1,.int (SR m)<|u+1],[]⟩/\sub=[])/\k j m
def rq:aA:=λc sub b a=>CX c sub λj m=>∀v,a 0 (H7<|.str (dk j m)<|v+1) [] [] [] []
theorem OV{b t u j m:Nat}(a:b+40<=960)(f:j<3)(g:m<4):SP w b (.builtin "str.__mod__" ⟨[.str (rF j)<|t+1,.int m<|u+1],[]⟩) [] Z (Rs (dk j m) []):=by
 rcases(by exact nT ‹_› :j=0\/j=1\/j=2) with rfl|rfl|rfl<;>rcases(by exact eg ‹_› :m=0\/m=1\/m=2\/m=3) with rfl|rfl|rfl|rfl
 ·exact KC t u 960 a (zd rfl) ay ax λc d N T e=>⟨T+2,by rw[show "0\n"=dk 0 0 from by decide+kernel];exact Rv.mk rfl⟩
 ·exact Jf t u 960 a (zd rfl) ay ax λc d N T e=>⟨T+2,by rw[show "1\n"=dk 0 1 from by decide+kernel];exact Rv.mk rfl⟩
 ·exact G3 t u 960 a (zd rfl) ay ax λc d N T e=>⟨T+2,by rw[show "2\n"=dk 0 2 from by decide+kernel];exact Rv.mk rfl⟩
 ·exact QM t u 960 a (zd rfl) ay ax λc d N T e=>⟨T+2,by rw[show "3\n"=dk 0 3 from by decide+kernel];exact Rv.mk rfl⟩
 ·exact Gx t u 960 a (zd rfl) ay ax λc d N T e=>⟨T+2,by rw[show "\"0\""=dk 1 0 from by decide+kernel];exact Rv.mk rfl⟩
 ·exact PC t u 960 a (zd rfl) ay ax λc d N T e=>⟨T+2,by rw[show "\"1\""=dk 1 1 from by decide+kernel];exact Rv.mk rfl⟩
 ·exact KY t u 960 a (zd rfl) ay ax λc d N T e=>⟨T+2,by rw[show "\"2\""=dk 1 2 from by decide+kernel];exact Rv.mk rfl⟩
 ·exact Qb t u 960 a (zd rfl) ay ax λc d N T e=>⟨T+2,by rw[show "\"3\""=dk 1 3 from by decide+kernel];exact Rv.mk rfl⟩
 ·exact Ni t u 960 a (zd rfl) ay ax λc d N T e=>⟨T+2,by rw[show "\\0\t"=dk 2 0 from by decide+kernel];exact Rv.mk rfl⟩
 ·exact LO t u 960 a (zd rfl) ay ax λc d N T e=>⟨T+2,by rw[show "\\1\t"=dk 2 1 from by decide+kernel];exact Rv.mk rfl⟩
 ·exact J2 t u 960 a (zd rfl) ay ax λc d N T e=>⟨T+2,by rw[show "\\2\t"=dk 2 2 from by decide+kernel];exact Rv.mk rfl⟩
 ·exact QH t u 960 a (zd rfl) ay ax λc d N T e=>⟨T+2,by rw[show "\\3\t"=dk 2 3 from by decide+kernel];exact Rv.mk rfl⟩
theorem QV(e:b+40<=960):rq.Ok w b:=by
 rintro c sub Z o ⟨j,m,t,u,⟨⟨f,g⟩,rfl,rfl⟩,H⟩;refine(OV e f g).mono ar (λd q=>q) ?_;rintro r s p F x d a d;refine hH a λv h i k l n=>?_;clear a;subst h i k l n
 exact⟨0,H v⟩
structure en(P:aE)(c:Td)(sub Z:Led)(k:SX->bt->Prop):Prop where
 code:c=pf P
 ro:∀p∈bp P,p∈Z
 ask:∃S a n m,(sub=jj P S a n m/\S.aN.length<=1000/\S.ps.length<=1000)/\k (f5 S).1 (f5 S).2
theorem en.dD{k:SX->bt->Prop}(c:∀p∈bp P,p∈Z)(o:S.aN.length<=1000/\S.ps.length<=1000)(e:f5 S=(s,a))(h:k s a):en P (pf P) (jj P S b n m) Z k:=
 ⟨rfl,c,S,b,n,m,⟨rfl,o⟩,by rw[e];exact h⟩
def xF(P:aE):aA:=λc sub Z a=>en P c sub Z λs S=>∀u e d b,a 0 (H7<|.str s<|u+1) [aO P S.ln e,aa (aC S.aN) d,aa (b7 S.ps) b] [] [] []
theorem LG(e:b<=720):(xF P).Ok w b:=by
 intro c sub Z v H;obtain⟨rfl,h,S,A,n,m,⟨rfl,f,g⟩,H⟩:=H;refine(A1 e h f g).mono ar (λd q=>q) ?_;rintro r y x F z d a d;refine y5 a λu t j i k l o p s=>?_;clear a;subst k l o p s
 exact⟨0,H u t j i⟩
structure l7(c:Td)(sub Z:Led)(n:Nat)(k:List va->Prop):Prop where
 ask:∃l x vs eb p,(c= .call (.ref 44) ⟨[.ref<|l+4,x],[("key",.ref 118)]⟩/\sub=[(l+4,aa vs n)]/\eb.length<=3/\ak Z vs (eb.map item)/\Tells Z x (item p))/\
  ∀a,ak Z a ((eJ (js p.1 eb) p eb).map item)->k a
theorem l7.dD{k:List va->Prop}(a:List (Int×SX))(p:Int×SX)(d:a.length<=3)(e:ak Z b (a.map item))(f:Tells Z x (item p))
  (h:∀c,ak Z c ((eJ (js p.1 a) p a).map item)->k c):l7 (.call (.ref 44) ⟨[.ref<|l+4,x],[("key",.ref 118)]⟩) [(l+4,aa b n)] Z n k:=⟨_,_,_,a,p,⟨rfl,rfl,d,e,f⟩,h⟩
noncomputable def lenOf(L:Led):Nat:=match L with
 |(_,⟨_,_,.seq _ n,_⟩)::_=>n
 |_=>0
def ur:aA:=λc sub Z a=>l7 c sub Z (lenOf sub) λb=>a 0 (H7 .none) [aa b<|lenOf sub+1] [] [] []
theorem R3{a b:Type}(f:a->b)(k:Nat)(x:a)(l:List a):(eJ k x l).map f=eJ k (f x) (l.map f):=by
 unfold eJ;rw[mapA,cc,Wv,List.map_drop]
theorem NH(h:b+40<=960):ur.Ok w b:=by
 rintro c sub Z t ⟨l,x,A,u,p,⟨rfl,g,i,a,d⟩,H⟩;rw[g];refine(Jd (n:=lenOf sub) h i a d).mono ar (λf q=>q) ?_;rintro r y v F z f e f;refine gb e λj k m o s=>?_;clear e;subst j k m o s
 refine⟨0,H _ ?_⟩;rw[R3];exact a.eJ _ d
def jN:aA:=λc sub e b=>jP c λid a=>fH id "list.append" (tV a λl r=>xj r λx r=>ue r (q7 sub λd a n=>
 (l=d/\a.length<=VZ)/\b 0 (H7 .none) [aa (a++[x])<|n+1] [] [] [])) False
theorem pH:jN.Ok w b:=by
 intro c sub Z i H;replace H:=kU H;obtain⟨id,a,H⟩:=H;replace H:=gJ H;rcases H with⟨rfl,H⟩|H
 ·replace H:=xr H
  obtain⟨l,r,H⟩:=H;rcases r with _|⟨x,_|_⟩
  ·exact H.elim
  ·replace H:=um<|CT<|O5 H
   obtain⟨m,a,n,⟨rfl,f⟩,H⟩:=H;exact SP.meets F.entry_list_append (by decide+kernel) (AutoListH.list_append_list_val_0 l ⟨a⟩ n x f) λA k h N T g d o R hk j D e=>
    ⟨D.own _<|.head _,e.seq D (by simp) (by simp) ⟨0,H⟩⟩
  ·exact H.elim
 ·exact H.elim
def I1(P:aE)(n m t a:Nat)(S:bt)(s:SX):Q7:=λe f N T Z b R=>ae [5,4,1,4,1,1] [N,P.rd,P.d1,P.pb,N,P.pb] ((((P.pb+4)=(P.pb+4))/\(Tn (b7 S.ps)<=PySem.sizeLine))/\∀c d:Nat,R (H7<|.none) [aO P S.ln a,aa (aC S.aN) n,aa (b7 S.ps++[.str s<|t+1])<|m+1] [] [] [])
theorem Ih:CK w [(P.d1+4,aO P S.ln a),(P.lf+4,aa (aC S.aN) n),(P.pb+4,aa (b7 S.ps) m)] (bp P) [jN] (Vh (.ref 97) ⟨[.ref<|P.rd+4,.str s<|t+1],[]⟩) (I1 P n m t a S s):=aV 301 36 0x1a34d29c84554c7081aea1220271c523fc4b5b4a3c942ae356b6d945163585a6aa44b
def Pz(N:Nat)(Z:Led)(R:aU)(P:aE)(g:SX)(j:Xi)(d:Nat)(k:Xi)(a:Nat)(h:SX)(l:Xi)(e:Nat)(m:Xi)(b:Nat)(i:SX)(n:Xi)(q:bt)(G C z f:Nat)(o:Xi)(c:Nat)(x:List va):Prop:=ae [9,3,4,1] [N+3,N,P.rd,P.d1]<|en P (cp 90 [.ref<|P.rd+4]) [(P.d1+4,aO P q.ln G),(P.lf+4,aa (aC q.aN) C),(P.pb+4,aa (b7 q.ps) z)] (([(c+4,ag [.int (SR f)<|o+1,.str i<|n+1])]++([(b+4,ag [.int (SR e)<|m+1,.str h<|l+1])]++[(a+4,ag [.int (SR d)<|k+1,.str g<|j+1])]))++Z) (λu r=>∀v:Xi,∀H:Nat,∀D:Nat,∀A:Nat,∀M Q:Nat,ae [4,4,1] [N,P.rd,P.d1]<|en P (cp 90 [.ref<|P.rd+4]) [(P.d1+4,aO P r.ln H),(P.lf+4,aa (aC r.aN) D),(P.pb+4,aa (b7 r.ps) A)] (([(c+4,ag [.int (SR f)<|o+1,.str i<|n+1])]++([(b+4,ag [.int (SR e)<|m+1,.str h<|l+1])]++[(a+4,ag [.int (SR d)<|k+1,.str g<|j+1])]))++Z) (λF s=>∀J:Xi,∀I:Nat,∀E:Nat,∀B:Nat,∀O S:Nat,lH (Vh (.type "int")<|Yd [.str F<|J+1] []) [] (λt=>∀w:Xi,∀p T:Nat,ae [1] [N]<|l7 (Vh (.ref 44)<|Yd [.ref<|N+5,.ref<|p+4] [("key",((.ref 118):va))]) [((N+4)+1,aa x 3)] (([(p+4,ag [.int (SR t)<|w+1,.str u<|v+1])]++([(c+4,ag [.int (SR f)<|o+1,.str i<|n+1])]++([(b+4,ag [.int (SR e)<|m+1,.str h<|l+1])]++[(a+4,ag [.int (SR d)<|k+1,.str g<|j+1])])))++Z) (lenOf [((N+4)+1,aa x 3)]) (λL=>∀y U:Nat,ae [5,1,1] [N+3,y+1,N]<|R (H7<|.ref<|N+5) [aO P s.ln I,aa (aC s.aN) E,aa (b7 s.ps) B] [(N+5,aa L 4)] ([(p+4,ag [.int (SR t)<|w+1,.str u<|v+1])]++([(c+4,ag [.int (SR f)<|o+1,.str i<|n+1])]++([(b+4,ag [.int (SR e)<|m+1,.str h<|l+1])]++[(a+4,ag [.int (SR d)<|k+1,.str g<|j+1])]))) []))))
def Lp(N:Nat)(Z:Led)(R:aU)(P:aE)(e:SX)(g:Xi)(c:Nat)(h:Xi)(b:Nat)(r:List va)(f:SX)(i:Xi)(l:bt)(B x u d:Nat)(j:Xi)(a:Nat):Prop:=ae [1] [N]<|l7 (Vh (.ref 44)<|Yd [.ref<|N+5,.ref<|a+4] [("key",((.ref 118):va))]) [((N+4)+1,aa r 1)] (([(a+4,ag [.int (SR d)<|j+1,.str f<|i+1])]++[(b+4,ag [.int (SR c)<|h+1,.str e<|g+1])])++Z) (lenOf [((N+4)+1,aa r 1)]) (λs=>∀G L:Nat,ae [9,3,4,1] [N+3,N,P.rd,P.d1]<|en P (cp 90 [.ref<|P.rd+4]) [(P.d1+4,aO P l.ln B),(P.lf+4,aa (aC l.aN) x),(P.pb+4,aa (b7 l.ps) u)] (([(a+4,ag [.int (SR d)<|j+1,.str f<|i+1])]++[(b+4,ag [.int (SR c)<|h+1,.str e<|g+1])])++Z) (λo m=>∀p:Xi,∀C:Nat,∀y:Nat,∀v:Nat,∀H M:Nat,ae [4,4,1] [N,P.rd,P.d1]<|en P (cp 90 [.ref<|P.rd+4]) [(P.d1+4,aO P m.ln C),(P.lf+4,aa (aC m.aN) y),(P.pb+4,aa (b7 m.ps) v)] (([(a+4,ag [.int (SR d)<|j+1,.str f<|i+1])]++[(b+4,ag [.int (SR c)<|h+1,.str e<|g+1])])++Z) (λA t=>∀E:Xi,∀D:Nat,∀z:Nat,∀w:Nat,∀I O:Nat,lH (Vh (.type "int")<|Yd [.str A<|E+1] []) [] (λn=>∀q:Xi,∀k Q:Nat,ae [1] [N]<|l7 (Vh (.ref 44)<|Yd [.ref<|N+5,.ref<|k+4] [("key",((.ref 118):va))]) [((N+4)+1,aa s 2)] (([(k+4,ag [.int (SR n)<|q+1,.str o<|p+1])]++([(a+4,ag [.int (SR d)<|j+1,.str f<|i+1])]++[(b+4,ag [.int (SR c)<|h+1,.str e<|g+1])]))++Z) (lenOf [((N+4)+1,aa s 2)]) (λF=>∀J S:Nat,Pz N Z R P e g c h b f i d j a o p t D z w n q k F)))))
def RQ(P:aE)(n m y:Nat)(S:bt):Q7:=λb1 b2 N T Z Tu R=>ae [4,10,10,3,4,1] [N,N+2,N+3,N,P.rd,P.d1]<|en P (cp 90 [.ref<|P.rd+4]) [(P.d1+4,aO P S.ln y),(P.lf+4,aa (aC S.aN) n),(P.pb+4,aa (b7 S.ps) m)] Z (λc f=>∀d:Xi,∀z:Nat,∀r:Nat,∀k:Nat,∀I Q:Nat,ae [4,4,1] [N,P.rd,P.d1]<|en P (cp 90 [.ref<|P.rd+4]) [(P.d1+4,aO P f.ln z),(P.lf+4,aa (aC f.aN) r),(P.pb+4,aa (b7 f.ps) k)] Z (λv g=>∀D:Xi,∀A:Nat,∀s:Nat,∀l:Nat,∀J U:Nat,lH (Vh (.type "int")<|Yd [.str v<|D+1] []) [] (λb=>∀e:Xi,∀a V:Nat,ae [1] [N]<|l7 (Vh (.ref 44)<|Yd [.ref<|N+5,.ref<|a+4] [("key",((.ref 118):va))]) [((N+4)+1,aa [] 0)] ([(a+4,ag [.int (SR b)<|e+1,.str c<|d+1])]++Z) (lenOf [((N+4)+1,aa [] 0)]) (λH=>∀L Y:Nat,ae [9,3,4,1] [N+3,N,P.rd,P.d1]<|en P (cp 90 [.ref<|P.rd+4]) [(P.d1+4,aO P g.ln A),(P.lf+4,aa (aC g.aN) s),(P.pb+4,aa (b7 g.ps) l)] ([(a+4,ag [.int (SR b)<|e+1,.str c<|d+1])]++Z) (λw h=>∀E:Xi,∀B:Nat,∀t:Nat,∀o:Nat,∀M Tr:Nat,ae [4,4,1] [N,P.rd,P.d1]<|en P (cp 90 [.ref<|P.rd+4]) [(P.d1+4,aO P h.ln B),(P.lf+4,aa (aC h.aN) t),(P.pb+4,aa (b7 h.ps) o)] ([(a+4,ag [.int (SR b)<|e+1,.str c<|d+1])]++Z) (λx j=>∀F:Xi,∀C:Nat,∀u:Nat,∀p:Nat,∀O Ts:Nat,lH (Vh (.type "int")<|Yd [.str x<|F+1] []) [] (λq=>∀G:Xi,∀i Tt:Nat,Lp N Z R P c d b e a H w E j C u p q G i)))))))
theorem JG(P:aE)(n m a:Nat)(S:bt):CK w [(P.d1+4,aO P S.ln a),(P.lf+4,aa (aC S.aN) n),(P.pb+4,aa (b7 S.ps) m)] (bp P) [xF P,cInt,ur] (Vh (.ref 125) ⟨[.ref<|P.rd+4],[]⟩) (RQ P n m a S):=aV 376 360 0x2241f92c2a8d9bd37fd32ef1cf652a6c30175a008f1148a015e4add0a870638220e518b2acab098d988de1e772fc0030e5613c011d40a73115eb4aa56028419e1277652b48404373fc48a2949dd7e719deb9f34d87bf149e04ed29686ecd2620758501cd493997573fdf37ffcf1c2dced767bf9b95cbdb05f987196d2bfa48d953369a58ceb482cd319736599c7fbac1763440aa8316c1f624e1ff280f4eb811624ec934ed94c53f460da80e9c93251b479676bb326105ee6c1d3706f16e61fd8636a557c279f8bcebf771cec378d15dbbd0973007d04c795578c5c9e4b71b7e07f12905acf4cc25358466485fa3f0b7cb81bdd355175aad19592bf616572492c5ec99ecf3338eb6aa77fba31d644c1d0c5c18468ca37ff2b2609b8a9f86c7572bd3521df3c2abe2194709db7393c688929d9eaf36380a182fe9c728c3f25330658d0ff6a8cd46cffe142f7bdb0223eb53c9dd5685b959921d2f97737f1008ff930f7fd317563a2476cbd5f2383a63f315a364c792c59613759a47302cb5cffc9
theorem rh:∀(m:Nat) (a:List (Nat×Nat)) (b:SX) (c:Int),a.length<=m->(cU b c a).rest.length<=a.length
 |_,[],b,c,_=>by rw[tH];exact VA _
 |0,_::_,_,_,h=>by simp at h
 |m+1,p::a,b,c,h=>by
  rw[bT] at h;rw[mW];split
  ·exact YF _
  ·split
   ·cases a with
    |nil=>exact Vc _
    |cons q d=>
     have:=rh m d (b++one (q.1+1)) (bc (q.1+1)<|bc (p.1+1) c)<|Nat.le_of_succ_le<|Xz h;exact Ve<|Ve this
   ·exact Ve<|rh m a (b++one (p.1+1)) (bc (p.1+1) c)<|Xz h
theorem vg:∀(m:Nat) (a:List (Nat×Nat)) (b:SX) (c:Int),a.length<=m->(dy b c a).rest.length<=a.length
 |_,[],b,c,_=>by rw[xu];exact VA _
 |0,_::_,_,_,h=>by simp at h
 |m+1,p::a,b,c,h=>by
  rw[bT] at h;rw[ni];split
  ·exact YF _
  ·split
   ·cases a with
    |nil=>exact Vc _
    |cons q d=>
     have:=vg m d (b++one (q.1+1)) (bc (q.1+1)<|bc (p.1+1) c)<|Nat.le_of_succ_le<|Xz h;exact Ve<|Ve this
   ·exact Ve<|vg m a (b++one (p.1+1)) (bc (p.1+1) c)<|Xz h
theorem Ew:∀(a:List (Nat×Nat)) (b:Int),(lex b a).rest.length<=a.length:=by
 intro a;induction a with
 |nil=>intro b;rw[lex_nil];exact VA _
 |cons p a d=>
  intro b;rw[nh];split
  ·exact Ve<|d _
  ·split
   ·exact Ve<|vg _ a _ _ ar
   ·split
    ·cases a with
     |nil=>rw[tH];exact Vc _
     |cons q c=>exact Ve<|Ve<|rh _ c _ _ ar
    ·exact Ve<|rh _ a _ _ ar
theorem ak.add(h:ak (F++Z) v d):ak ((G++F)++Z) v d:=h.sub λa q=>by
 rw[aZ];exact az q
def bt.Ok(S:bt):Prop:=S.aN.length<=1000/\S.ps.length<=1000
theorem lK(h:S.Ok)(e:f5 S=(s,a)):a.Ok:=by
 obtain⟨c,b,ps⟩:=S;cases ps with
 |nil=>
  cases e
  exact⟨SQ (Ew b c) h.1,Vc _⟩
 |cons p r=>
  cases e
  exact⟨h.1,SQ (YF _) h.2⟩
def Reads:bt->List (Nat×SX)->bt->Prop
 |S,[],a=>S=a
 |S,(m,d)::r,a=>m<4/\∃b c,f5 S=(d,b)/\f5 b=(dig m,c)/\Reads c r a
def insI(p:Int×SX)(l:List (Int×SX)):List (Int×SX):=eJ (js p.1 l) p l
def cv(b:List (Nat×SX)):List (Int×SX):=b.foldl (λa p=>insI ((p.1:Int),p.2) a) []
theorem qZ{a:Type}{x:a}{l:List a}(h:l.length=n):(eJ k x l).length=n+1:=by
 rw[eJ,Vd,bT,<-Wu,<-Vd,V9,h]
theorem wg{a:Type}{x:a}{l:List a}(h:l.length=n)(c:n<m):(eJ k x l).length<=m:=SQ (Th<|qZ h) c
theorem Qg{b:Nat}{Z:Led}{P:aE}{S k:bt}{I n m:Nat}{g:List (Nat×SX)}(hb:b<=680)(f:∀p∈bp P,p∈Z)(y:S.Ok)(z:Reads S g k)(hl:g.length=4):
  SP w b (.call (.ref 125) ⟨[.ref<|P.rd+4],[]⟩) (jj P S I n m) Z λr Ts Tr F ro=>∃a J Tv n' U,ak (F++Z) J ((cv g).map item)/\r= .ok (.ret<|.ref<|a+4)/\Ts=mq P k Tv n' U/\Tr=[(a+4,aa J 4)]/\ro=[]:=by
 have T:∀C∈[xF P,cInt,ur],aA.Ok w 720 C:=aj (LG<|zd rfl)<|aj (Kf<|zd rfl)<|aj (NH<|zd rfl) ay;refine hide λGq R=>?_
 obtain⟨⟨V,n0⟩,⟨Y,n1⟩,⟨m2,n2⟩,⟨m3,n3⟩⟩:=ib (l:=g) (by assumption);refine a0 z λM d=>oM d λS1 S2 o q N d=>oM d λS3 S4 s t O d=>oM d λS5 S6 u v Q d=>bE d λS7 S8 x L Tu=>?_;clear z;subst Tu
 refine R ?_;have A:=lK y o;have B:=lK A q;have D:=lK B s;have E:=lK D t;have G:=lK E u;have H:=lK G v;have o7:=lK H x;refine JG P n m I S 720 (by exact Tq ‹_› _) (zd rfl) T f λb1 b2 Tw Tx Tz=>?_
 have e:∀{F:Led},∀p∈bp P,p∈F++Z:=λp Tt=>az<|f p Tt
 refine ah (en.dD f y o λi c c c c c=>ah<|en.dD f A q λc c c c c c=>.dD M λj h c=>ah<|.dD [] ((V:Int),n0) (by simp) .nil (.ng<|.head _) λTA t1 c c=>?_);exact ah<|en.dD e B s λi c c c c c=>ah<|en.dD e D t λc c c c c c=>.dD N λj h c=>ah<|.dD _ ((Y:Int),n1) (wg (n:=0) rfl (zd rfl)) t1.add (.ng<|.head _) λTB t2 c c=>ah<|en.dD e E u λi c c c c c=>ah<|en.dD e G v λc c c c c c=>.dD O λj h c=>ah<|.dD _ ((m2:Int),n2) (wg (qZ (n:=0) rfl)<|zd rfl) t2.add (.ng<|.head _) λTC t3 c c=>ah<|en.dD e H x λi c c c c c=>ah<|en.dD e o7 L λc c c c c c=>.dD Q λj h c=>ah<|.dD _ ((m3:Int),n3) (wg (qZ<|qZ (n:=0) rfl)<|zd rfl) t3.add (.ng<|.head _) λTF t4 c c=>ah<|Rh _ _ _ _ _ t4 rfl rfl rfl rfl
noncomputable def tail3(c:Expr)(d v:va)(b e:List Wq)(a:Zb):VM PySem.Fin:=do
 assign c a v
 match<-execs b a with
 | .next| .cont=>again<|.forLoop c d b e a
 | .brk=>pure<|.done .next
 | .ret v=>pure<|.done<|.ret v
lay_z tail3
noncomputable def jL:Expr->va->va->List Wq->List Wq->Zb->VM PySem.Fin:=PySem.W.ZFast.zw9828570748124532941
theorem xE:@tail3=jL:=PySem.W.ZFast.ze9828570748124532941
def d6(s:Wq):Expr:=(sX s).1.headD xX
def bj(k:Nat):Wq:=bJ (b4 28) k
def StrKeys(a:List SS):Prop:=∀e∈a,∃k t,e.key= .str k t/\e.hash=hashStr w k
noncomputable def isKey(x:SX):va->Bool
 | .str y _=>PySem.W.Fast.sEq y x
 |_=>false
theorem sg(x:SX)(v:va):isKey x v=Wi x v:=by
 cases v with
 |str y t=>
  show PySem.W.Fast.sEq y x=(y==x);by_cases h:y=x
  ·rw[h,PySem.W.Fast.sEq_iff.mpr rfl,beq_self_eq_true]
  ·have a:PySem.W.Fast.sEq y x=false:=by
    cases q:PySem.W.Fast.sEq y x with
    |false=>rfl
    |true=>exact absurd (PySem.W.Fast.sEq_iff.mp q) h
   rw[a,beq_eq_false_iff_ne.mpr h]
 |_=>rfl
def bY(x:SX):List SS->Option va
 |[]=>none
 |e::a=>match isKey x e.key with
  |true=>some e.val
  |false=>bY x a
theorem Jv(x:SX):∀a:List SS,bY x a=(a.find? λe=>Wi x e.key).map (·.val):=by
 intro a;induction a with
 |nil=>exact rfl
 |cons e a b=>
  unfold bY;rw[List.find?_cons,<-sg];cases isKey x e.key with
  |true=>rfl
  |false=>exact b
theorem mapOf{h:Vm}(g:h.get? d=some (ab a n))(hk:StrKeys a):h.MapOf (strKind i w) d (λx=>bY x a):=by
 refine i6 _ ⟨a⟩ n g ⟨rfl,rfl,rfl⟩ rfl (λe f=>?_) (λk=>?_)
 ·refine cw (hk e<|by simpa using f) λk t b c=>aX k ?_ c;show Wi k e.key=true;rw[b];exact beq_self_eq_true k
 ·show findBy Wi ⟨a⟩ k=_
  unfold findBy;show _=bY k a;rw[Jv];simp
def gy(x:SX)(v:va):List SS->Option (List SS)
 |[]=>none
 |e::a=>match isKey x e.key with
  |true=>some ({e with val:=v}::a)
  |false=>match gy x v a with
   |some b=>some (e::b)
   |none=>none
def c9(x:SX)(t:Xi)(v:va)(a:List SS):List SS:=match gy x v a with
 |some b=>b
 |none=>a++[⟨hashStr w x,.str x t,v⟩]
def dI(x:SX)(a:List SS)(n:Nat):Nat:=match bY x a with
 |some _=>n
 |none=>n+1
theorem BV(x:SX)(v:va):∀a:List SS,(gy x v a).isSome=(bY x a).isSome:=by
 intro a;induction a with
 |nil=>exact rfl
 |cons e a b=>
  unfold gy bY;cases isKey x e.key with
  |true=>rfl
  |false=>
   have:=b;cases q:gy x v a with
   |none=>rw[q] at this;exact this
   |some y=>rw[q] at this;exact this
theorem sx(x:SX)(v:va):∀a:List SS,gy x v a=(a.findIdx? λe=>Wi x e.key).map λi=>a.modify i λe=>{e with val:=v}:=by
 intro a;induction a with
 |nil=>exact rfl
 |cons e a b=>
  unfold gy;rw[List.findIdx?_cons,<-sg];cases isKey x e.key with
  |true=>rfl
  |false=>
   dsimp only;rw[b];cases a.findIdx? λe=>Wi x e.key with
   |none=>rfl
   |some i=>rfl
theorem G8{E:va->Tf->Prop}{s:Tf}{a:List SS}{t:Xi}{Q:Unit->Tf->Prop}
  (h:s.heap.get? d=some (ab a n)) (hk:StrKeys a) (z:a.length<=VZ)
  (l:∀f:S9->S9,f (ab a n)=ab (c9 x t v a) (dI x a n)->Q () {s with heap:=s.heap.update d f,toks:=s.toks+1}):To (Vy b w) A (dictSet d (.str x t) v) Q E s:=by
 have m:(strKind b w).is x (.str x t)=true:=beq_self_eq_true x;have u:KeysOf (strKind b w) ⟨a⟩:=λe q=>by
  refine cw (hk e<|by simpa using q) λk B o p=>aX k ?_ p;show Wi k e.key=true;rw[o];exact beq_self_eq_true k
 unfold dictSet;try with_reducible refine Yn ?_
 refine SU ((strKind b w).pyHash m ?_);unfold dictSetHashed;try with_reducible refine Yn ?_
 refine SU (wpAny_dictFind_of (s:={s with toks:=s.toks+1}) m h rfl u ?_);have r:((⟨a⟩:Array SS).findIdx? λe=>(strKind b w).is x e.key)=a.findIdx? λe=>Wi x e.key:=by simp;rfl
 rw[r];have g:=BV x v a;cases c:a.findIdx? λe=>Wi x e.key with
 |some i=>
  refine bR (SU<|wpAny_updateDict (s:={s with toks:=s.toks+1}) h rfl (wpAny_point<|l _ ?_));rw[sx,c] at g;refine aw (Z1.mp g.symm) λy j=>?_
  unfold c9 dI;rw[sx,c,j];simp[S9.mapDict,ab]
 |none=>
  refine bR (wpAny_updateDictKeys (hz:=by simpa using z) (s:={s with toks:=s.toks+1}) h rfl (l _ ?_));rw[sx,c] at g;have j:bY x a=none:=Zd.mp (by rw[<-g];simp);unfold c9 dI;rw[sx,c,j];simp[S9.mapDictKeys,ab];rfl
theorem SP.tp{id:String}{B:Tj}{S:PySem.Spec}(l:Yp table id=some B)(n:plainId id=true)(m:MeetsIn Pw w (B f) S)
  (h:∀(A:Wr) (a h:Vm) (N T:Nat) (g:GB) (d:YD) (c:WU) (R:Vz->Tf->Prop),KH a (kK w)->ep a Z->Rep a h L N->Behind e Z a L d c R->S A R ⟨h,g,d,T+1,c⟩):SP w b (.builtin id f) L Z e:=
 SP.builtin l n λA a i N T g d c R o p hk k D j=>m A R _<|h A a i N T g d c R hk k D j
def kq(sub Z:Led)(d:WO)(a:List SS)(n:Nat):Prop:=sub=[(d,ab a n)]\/(sub=[]/\(d,ab a n)∈Z)
theorem kq.get{sub Z:Led}(x:kq sub Z d a n){b h:Vm}(D:Rep b h sub N)(c:ep b Z):h.get? d=some (ab a n):=by
 rcases x with rfl|⟨rfl,e⟩
 ·exact D.own (d,ab a n)<|.head _
 ·exact D.keep _ _<|c _ e
inductive qX(c:Td)(sub Z:Led)(k0 k1:Prop):Prop
 |mk (d) (x) (t) (es) (n) (h0:c= .builtin "dict.__contains__" ⟨[.ref<|d+4,.str x t],[]⟩) (h1:StrKeys es) (h2:kq sub Z (d+4) es n) (h3:(∃v,bY x es=some v)->k0) (h4:bY x es=none->k1):qX c sub Z k0 k1
def mV:aA:=λc sub Z a=>qX c sub Z (a 0 (H7<|.bool true) (sub.map (·.2)) [] [] []) (a 1 (H7<|.bool false) (sub.map (·.2)) [] [] [])
theorem Qj:sysModules<4:=by decide
theorem yd:((d+4:WO)==sysModules)=false:=beq_eq_false_iff_ne.mpr λe=>absurd (show(d+4:Nat)<4 from e▸Qj)<|by lia
theorem Pb:mV.Ok w b:=by
 rintro c sub Z m ⟨d,x,t,f,n,rfl,hk,l,a,e⟩;refine SP.tp F.entry_dict_contains (by decide+kernel) (meets_dict_contains (strKind Pw w) (k:=x) (d+4) (show Wi x (.str x t)=true from beq_self_eq_true x) yd) ?_;intro A p h N T g o s R r j D i;refine⟨_,mapOf (i:=Pw) (l.get D j) hk,i.done (T:=T+1) ?_ D⟩;cases q:bY x f with
 |none=>exact⟨1,e q⟩
 |some v=>exact⟨0,a ⟨v,q⟩⟩
inductive jH(c:Td)(sub Z:Led)(v:va)(k:Prop):Prop
 |mk (d) (x) (t) (es) (n) (h0:c= .builtin "dict.__getitem__" ⟨[.ref<|d+4,.str x t],[]⟩) (h1:StrKeys es) (h2:kq sub Z (d+4) es n) (h3:bY x es=some v) (h4:k):jH c sub Z v k
def jx(v:va):aA:=λc sub Z a=>jH c sub Z v (a 0 (H7 v) (sub.map (·.2)) [] [] [])
theorem qY{sub Z:Led}(hk:StrKeys a)(j:kq sub Z (d+4) a n)(l:bY x a=some v)(f:c (H7 v) (sub.map (·.2)) [] [] []):
  SP w b (.builtin "dict.__getitem__" ⟨[.ref<|d+4,.str x t],[]⟩) sub Z c:=by
 refine SP.tp F.entry_dict_getitem (by decide+kernel) (meets_dict_getitem (strKind Pw w) (k:=x) (d+4)<|show Wi x (.str x t)=true from beq_self_eq_true x) ?_;intro A o h N T g m q R p i D e;exact dR _ v (mapOf (i:=Pw) (j.get D i) hk) l<|e.done (T:=T+1) f D
theorem pK:(jx v).Ok w b:=by
 rintro c sub Z f ⟨d,x,t,g,n,rfl,hk,a,e,H⟩;exact qY hk a e<|aB 0 H
inductive vc(c:Td)(sub Z:Led)(k:Int->Nat->Prop):Prop
 |mk (d) (x) (t) (es) (n) (i) (u) (h0:c= .builtin "dict.__getitem__" ⟨[.ref<|d+4,.str x t],[]⟩) (h1:StrKeys es) (h2:kq sub Z (d+4) es n) (h3:bY x es=some (.int i<|u+1)) (h4:k i u):vc c sub Z k
def gK:aA:=λc sub Z a=>vc c sub Z λi u=>a 0 (H7<|.int i<|u+1) (sub.map (·.2)) [] [] []
theorem uK:gK.Ok w b:=by
 rintro c sub Z f ⟨d,x,t,g,n,i,u,rfl,hk,a,e,H⟩;exact qY hk a e<|aB 0 H
noncomputable def b9:Led->List SS
 |(_,⟨_,_,.dict ⟨a⟩ _,_⟩)::_=>a
 |_=>[]
noncomputable def Gr:Led->Nat
 |(_,⟨_,_,.dict _ n,_⟩)::_=>n
 |_=>0
noncomputable def za:Td->Nat->SX
 | .builtin _ ⟨a,_⟩,i=>match a[i]? with
  |some (.str x _)=>x
  |_=>""
 |_,_=>""
noncomputable def Qe:Td->Nat->Nat
 | .builtin _ ⟨a,_⟩,i=>match a[i]? with
  |some (.str _ t)=>t
  |_=>0
 |_,_=>0
noncomputable def Pl:Td->Nat->va
 | .builtin _ ⟨a,_⟩,i=>match a[i]? with
  |some v=>v
  |_=>.none
 |_,_=>.none
inductive lF(c:Td)(sub:Led)(k:Prop):Prop
 |mk (d) (x) (t) (v) (es) (n) (h0:c= .builtin "dict.__setitem__" ⟨[.ref<|d+4,.str x t,v],[]⟩) (h1:StrKeys es) (h2:sub=[(d+4,ab es n)]) (h3:es.length<=VZ) (h4:k):lF c sub k
def fT:aA:=λc sub Z a=>lF c sub<|a 0 (H7 .none) [ab (c9 (za c 1) (Qe c 1) (Pl c 2)<|b9 sub)<|dI (za c 1) (b9 sub)<|Gr sub] [] [] []
theorem r1:fT.Ok w b:=by
 rintro c sub Z r ⟨d,x,t,v,a,n,rfl,hk,rfl,o,H⟩;refine SP.tp F.entry_dict_setitem (by decide+kernel) (S:=λp R s=>s.heap.get? (d+4)=some (ab a n)/\∀f:S9->S9,f (ab a n)=ab (c9 x t v a) (dI x a n)->R (H7 .none) {s with heap:=s.heap.update (d+4) f,toks:=s.toks+1}) ?_ ?_
 ·refine .of_wp λA R s ⟨i,h⟩=>?_
  show To _ _ (Tj.Dict.notOrdered "__setitem__" ⟨[.ref<|d+4,.str x t,v],[]⟩>>=_) _ _ s;refine SU<|wpAny_notOrdered_dict (mapOf (i:=Pw) i hk).typeIs ?_;show To _ _ (dictSet (d+4) (.str x t) v>>=_) _ _ s;exact SU<|G8 i hk o λf e=>Te<|aX .none rfl (h f e)
 ·intro A m h N T g u B R z y D l
  refine⟨D.own (d+4,ab a n)<|.head _,λf e=>?_⟩;have k:([(d+4,ab a n)]:Led)[0]?=some (d+4,ab a n):=rfl;have j:=D.update (f:=f) k (by rw[e];rfl);refine l _ [ab (c9 x t v a)<|dI x a n] [] [] [] (h.update (d+4) f) N (T+1) g (aB 0 H) rfl (λp q=>nomatch q) ?_;show Rep m (h.update (d+4) f) ([(d+4,ab (c9 x t v a)<|dI x a n)]++[]++[]) N;rw[<-e];exact j
inductive sD(c:Td)(sub Z:Led)(r:Bool)(k:Prop):Prop
 |mk (d) (x) (t) (es) (n) (h0:c= .builtin "dict.__contains__" ⟨[.ref<|d+4,.str x t],[]⟩) (h1:StrKeys es) (h2:kq sub Z (d+4) es n) (h3:(bY x es).isSome=r) (h4:k):sD c sub Z r k
def jT(r:Bool):aA:=λc sub Z a=>sD c sub Z r (a 0 (H7<|.bool r) (sub.map (·.2)) [] [] [])
theorem Ao:(jT r).Ok w b:=by
 rintro c sub Z j ⟨d,x,t,m,n,rfl,hk,f,i,H⟩;refine SP.tp F.entry_dict_contains (by decide+kernel) (meets_dict_contains (strKind Pw w) (k:=x) (d+4) (show Wi x (.str x t)=true from beq_self_eq_true x) yd) ?_;intro A o h N T g l q R p e D a;refine aX _ (mapOf (i:=Pw) (f.get D e) hk)<|a.done (T:=T+1) (aB 0 ?_) D;rw[i];exact H
def om(b c e a s d:Nat):List SS:=[ent "target" b<|.ref<|a+4,ent "source" c<|.ref<|s+4,ent "new_callers" e<|.ref<|d+4]
def nu(b c e a s d:Nat):S9:=ao (om b c e a s d) 3
def c8(b c e f g a s d:Nat)(x:SX)(h:Nat)(v:va):S9:=ao (om b c e a s d++[ent "func" f<|.str x<|h+1,ent "caller" g v]) 5
def bw(d i n e:Nat)(ok a:va):S9:=av "dict_itemiterator" [.none,.bool false,.ref<|d+4,.int i 0,.int n 0,.int e 0,ok,a]
inductive wZ(c:Td)(k:Prop):Prop
 |mk (i) (t) (h0:c= .builtin "isinstance" ⟨[.int i t,.type "tuple"],[]⟩) (h1:k):wZ c k
def gs:aA:=λc sub Z a=>wZ c (a 0 (H7<|.bool false) (sub.map (·.2)) [] [] [])
theorem sub_tuple_tuple:isSubtype (.type "tuple") (.type "tuple")=pure true:=by rw[isSubtype_type];kernel_rfl
theorem vP:gs.Ok w b:=by
 rintro c sub Z e ⟨i,t,rfl,H⟩;exact SP.meets F.entry_isinstance (by decide+kernel) (isinstance_false_int (n:=i) (u:=t) (T:="tuple") (by decide) F.isi_meta_tuple F.sub_int_tuple) λA j h N T g d k R hk f D a=>a.done (T:=T+1) (aB 0 H) D
inductive wO(c:Td)(Z:Led)(k:Prop):Prop
 |mk (a) (vs) (h0:c= .builtin "isinstance" ⟨[.ref<|a+4,.type "tuple"],[]⟩) (h1:(a+4,ag vs)∈Z) (h2:k):wO c Z k
def gp:aA:=λc sub Z a=>wO c Z (a 0 (H7<|.bool true) (sub.map (·.2)) [] [] [])
theorem vW:gp.Ok w b:=by
 rintro c sub Z k ⟨a,j,rfl,i,H⟩;exact SP.meets F.entry_isinstance (by decide+kernel) (isinstance_true (x:=.ref<|a+4) (Tx:="tuple") (T:="tuple") F.isi_meta_tuple sub_tuple_tuple) λA l h N T g d m R hk f D e=>⟨aX (ag j) (D.keep _ _<|f _ i) rfl,e.done (aB 0 H) D⟩
def qc(a s d j g c n A i m e t u x:Nat)(k:SX)(h:Nat)(ok y:va)(v:va)(f:List SS)(B C:Nat->Nat):Q7:=λp q N T Z b R=>ae [4,5,1,6,1,6,1,2,1,7,3] [c,N,c,N,c,N,c,N,N+2,g,d]<|lF (bi "dict.__setitem__" [.ref<|d+4,.str k<|h+1,v]) [(d+4,ab f n)] (∀D E:Nat,SP (br p q w) b (aS (bj 1) (.ref<|j+4)<|aT 28<|g+4) [(g+4,ao [ent "target" t<|.ref<|a+4,ent "source" u<|.ref<|s+4,ent "new_callers" x<|.ref<|d+4,ent "func" (B T)<|.str k<|h+1,ent "caller" (C T) v] 5),(d+4,ab (c9 k (h+1) v f)<|dI k f n),(j+4,bw A i m e ok y)] Z λr o n l z=>R r o n (l++[]) z)
noncomputable def rp:Nat:=0x925bd8ee1234857c9ee40fa94f6d980d548a89695c6016dc5715
theorem Mm(a s d c b f n p i m e h j l:Nat)(k:SX)(q:Nat)(ok o:va)(r:Int)(u:Nat)(g:List SS):a9 w [(b+4,nu h j l a s d),(d+4,ab g n),(c+4,bw p i m e ok o)] [(f+4,ag [.str k<|q+1,.int r<|u+1])] [mV,gK,fT,gs,gp] (aS (bj 1) (.ref<|c+4)<|aT 28<|b+4) (jL (d6<|bj 1) (.ref<|c+4) (.ref<|f+4) (cR<|bj 1) (gU<|bj 1)<|aT 28<|b+4) (qc a s d c b f n p i m e h j l k q ok o (.int r<|u+1) g (λt=>t) λt=>t+1):=ba 17 52 rp
theorem Sg(a s d c b f n r i m e h j l o p:Nat)(k x:SX)(t y:Nat)(z ok q:va)(u:Int)(v:Nat)(g:List SS):a9 w [(b+4,c8 h j l o p a s d x y z),(d+4,ab g n),(c+4,bw r i m e ok q)] [(f+4,ag [.str k<|t+1,.int u<|v+1])] [mV,gK,fT,gs,gp] (aS (bj 1) (.ref<|c+4)<|aT 28<|b+4) (jL (d6<|bj 1) (.ref<|c+4) (.ref<|f+4) (cR<|bj 1) (gU<|bj 1)<|aT 28<|b+4) (qc a s d c b f n r i m e h j l k t ok q (.int u<|v+1) g (λA=>o) λA=>p):=ba 17 52 rp
theorem Qu(a s d c b f n q i m e j l o:Nat)(k:SX)(r:Nat)(ok p:va)(g:Nat)(h:List SS)(u:List va):a9 w [(b+4,nu j l o a s d),(d+4,ab h n),(c+4,bw q i m e ok p)] [(f+4,ag [.str k<|r+1,.ref<|g+4]),(g+4,ag u)] [jT false,gK,fT,gs,gp] (aS (bj 1) (.ref<|c+4)<|aT 28<|b+4) (jL (d6<|bj 1) (.ref<|c+4) (.ref<|f+4) (cR<|bj 1) (gU<|bj 1)<|aT 28<|b+4) (qc a s d c b f n q i m e j l o k r ok p (.ref<|g+4) h (λt=>t) λt=>t+1):=ba 17 52 rp
theorem Oh(a s d c b f n t i m e j l o p q:Nat)(k x:SX)(u v:Nat)(y ok r:va)(g:Nat)(h:List SS)(z:List va):a9 w [(b+4,c8 j l o p q a s d x v y),(d+4,ab h n),(c+4,bw t i m e ok r)] [(f+4,ag [.str k<|u+1,.ref<|g+4]),(g+4,ag z)] [jT false,gK,fT,gs,gp] (aS (bj 1) (.ref<|c+4)<|aT 28<|b+4) (jL (d6<|bj 1) (.ref<|c+4) (.ref<|f+4) (cR<|bj 1) (gU<|bj 1)<|aT 28<|b+4) (qc a s d c b f n t i m e j l o k u ok r (.ref<|g+4) h (λA=>p) λA=>q):=ba 17 52 rp
def wC(a s d l c p n D i m e z A B:Nat)(k:SX)(g:Nat)(ok C:va)(h:Int)(j:Nat)(f:List SS)(E F:Nat->Nat):Q7:=λv x N T Z b R=>ae [4,5,1,6,1,6,1,2,1,6,3] [p,N,p,N,p,N,p,N,N+2,c,d]<|qX (bi "dict.__contains__" [.ref<|d+4,.str k<|g+1]) [(d+4,ab f n)] Z (∀J S:Nat,ae [1] [c]<|wZ (bi "isinstance" [.int h<|j+1,.type "tuple"]) (∀L U:Nat,ae [2,3] [c,d]<|vc (bi "dict.__getitem__" [.ref<|d+4,.str k<|g+1]) [(d+4,ab f n)] Z (λy V=>∀M u:Nat,ae [1,3] [c,d]<|lF (bi "dict.__setitem__" [.ref<|d+4,.str k<|g+1,.int (y+h)<|u+1]) [(d+4,ab f n)] (∀G O:Nat,SP (br v x w) b (aS (bj 2) (.ref<|l+4)<|aT 28<|c+4) [(c+4,ao [ent "target" z<|.ref<|a+4,ent "source" A<|.ref<|s+4,ent "new_callers" B<|.ref<|d+4,ent "func" (E T)<|.str k<|g+1,ent "caller" (F T)<|.int h<|j+1] 5),(d+4,ab (c9 k (g+1) (.int (y+h)<|u+1) f)<|dI k f n),(l+4,bw D i m e ok C)] Z λr o n q t=>R r o n (q++[]) t)))) (∀H P:Nat,ae [3,3] [c,d]<|lF (bi "dict.__setitem__" [.ref<|d+4,.str k<|g+1,.int h<|j+1]) [(d+4,ab f n)] (∀I Q:Nat,SP (br v x w) b (aS (bj 2) (.ref<|l+4)<|aT 28<|c+4) [(c+4,ao [ent "target" z<|.ref<|a+4,ent "source" A<|.ref<|s+4,ent "new_callers" B<|.ref<|d+4,ent "func" (E T)<|.str k<|g+1,ent "caller" (F T)<|.int h<|j+1] 5),(d+4,ab (c9 k (g+1) (.int h<|j+1) f)<|dI k f n),(l+4,bw D i m e ok C)] Z λr o n q t=>R r o n (q++[]) t))
noncomputable def z7:Nat:=0x1fb594f363774d6a511d47bf161320e8875b3717d135f71e5990d13b2adee673df968ce0398bf8d239e4825398e0e655bb159e941e322a298948992a
theorem Pk(a s d c b f n p i m e h j l:Nat)(k:SX)(q:Nat)(ok o:va)(r:Int)(u:Nat)(g:List SS):a9 w [(b+4,nu h j l a s d),(d+4,ab g n),(c+4,bw p i m e ok o)] [(f+4,ag [.str k<|q+1,.int r<|u+1])] [mV,gK,fT,gs,gp] (aS (bj 2) (.ref<|c+4)<|aT 28<|b+4) (jL (d6<|bj 2) (.ref<|c+4) (.ref<|f+4) (cR<|bj 2) (gU<|bj 2)<|aT 28<|b+4) (wC a s d c b f n p i m e h j l k q ok o r u g (λt=>t) λt=>t+1):=ba 33 96 z7
theorem MP(a s d c b f n r i m e h j l o p:Nat)(k x:SX)(t y:Nat)(z ok q:va)(u:Int)(v:Nat)(g:List SS):a9 w [(b+4,c8 h j l o p a s d x y z),(d+4,ab g n),(c+4,bw r i m e ok q)] [(f+4,ag [.str k<|t+1,.int u<|v+1])] [mV,gK,fT,gs,gp] (aS (bj 2) (.ref<|c+4)<|aT 28<|b+4) (jL (d6<|bj 2) (.ref<|c+4) (.ref<|f+4) (cR<|bj 2) (gU<|bj 2)<|aT 28<|b+4) (wC a s d c b f n r i m e h j l k t ok q u v g (λA=>o) λA=>p):=ba 33 96 z7
theorem nX{d:Type}{t:VM d}{h:va->VM Unit}{Q:d->Tf->Prop}{E:va->Tf->Prop}
  (x:Xs (Vy b w) A c t Q (λa a=>False) s):Xs (Vy b w) A c (t.onRaise h) Q E s:=λg p e f=>by
 rw[VM.wp_onRaise];exact V8 _ _ _ (λa a a h=>h) (λa a a h=>h.elim) _ _<|x g p e f
theorem Rep.turned{d h h':Vm}(D:Rep d h L N)(e:L[j]?=some (a,o))(s:h'.objs.size=N+1)(i:h'.get? a=some o')(k:h'.get? N=some o2)
  (hk:∀b x,b≠a->h.get? b=some x->h'.get? b=some x):Rep d h' (setAt L j o'++[(N,o2)]) (N+1):=by
 have m:d.get? a=none:=D.off (a,o)<|Vf e;have l:∀p∈L,p.1≠N:=λp c q=>by
  have:=VN<|D.own p c;rw[D.size,q] at this;exact absurd this (W6 _)
 have t:∀p∈setAt L j o',h'.get? p.1=some p.2:=λp c=>by
  rcases pP e D.nd p c with rfl|⟨q,n⟩
  ·exact i
  ·exact hk _ _ n<|D.own p q
 refine⟨s,λp c=>?_,?_,λb x q=>?_,λp c=>?_,Ve D.big⟩
 ·rcases bB c with c|c
  ·exact t p c
  ·rcases dg c with rfl;exact k
 ·rw[mapA,Vp,iD]
  refine⟨D.nd,by simp,λx r y f=>?_⟩;refine aI (bO r) λp c w=>?_;subst w
  simp only[cc,W3,Yz] at f;rw[f];exact l p c
 ·exact hk b x (λz=>by rw[z,m] at q;cases q)<|D.keep b x q
 ·rcases bB c with c|c
  ·have:p.1∈L.map (·.1):=by rw[<-iD L j o'];exact U9 c
   refine aI (bO this) λu v g=>?_
   rw[<-g];exact D.off u v
  ·rcases dg c with rfl
   show d.get? N=none;cases q:d.get? N with
   |none=>rfl
   |some x=>
    have:=VN<|D.keep N x q;rw[D.size] at this;exact absurd this (W6 _)
noncomputable def keysOf(a:List SS):List SX:=a.map λe=>match e.key with
 | .str k _=>k
 |_=>""
def LD(a d i n e:Nat)(ok b:va):S9:=av "dict_itemiterator" [Wy a,.bool false,.ref<|d+4,.int i 0,.int n 0,.int e 0,ok,b]
theorem DX{E:va->Tf->Prop}{Q:Option va->Tf->Prop}{h:Vm}{g:GB}{p:YD}{r:WU}{H:Int}{k:List SS}
  (m:h.get? a=some (bw d i n e ok G)) (L:h.get? (d+4)=some (ab k e)) (hn:n=k.length) (P:k[i]?=some ⟨H,c,v⟩) (hN:h.objs.size=N)
  (hQ:∀l,l.get? a=some (LD N d (i+1) n e c v)->l.get? N=some (ag [c,v])->l.objs.size=N+1->(∀b o,b≠a->h.get? b=some o->l.get? b=some o)->Q (some<|.ref N) ⟨l,g,p,T,r⟩):
  To (Vy Pw w) A (Wk<|.ref a) Q E ⟨h,g,p,T,r⟩:=by
 subst hn hN;have s:∀{l:Vm} {g p T r} {o:S9},l.get? a=some o->o.cls= .type "dict_itemiterator"->Xj ⟨l,g,p,T,r⟩ (.ref a) "dict_itemiterator":=λq Tr=>aX _ q Tr
 have Tx:i<k.length:=(Tb.mp P).1;have Tw:(⟨k⟩:Array SS)[i]?=some ⟨H,c,v⟩:=by simpa using P
 have zl:=VN m;unfold Wk;refine bA (VH (name:="__next__") (s m rfl) WT
  (V1 WT (s m rfl) Y0 ?_<|YR _))
 refine bP<|SU<|SU<|SU<|WM (s m rfl)<|Te<|SU<|wpAny_fieldsOf m rfl ?_;show To _ _ (if(VV (d+4)==SY)=true then _ else _) _ _ _;refine wN (show ¬((VV (d+4)==SY)=true) from Vx)<|bP<|SU<|ZX L rfl<|wN (by simp)<|bP<|SU<|wpAny_dictEpoch L rfl<|wN (by simp)<|Te ?_;dsimp only;rw[show(if((i:Int)<0) then none else(⟨k⟩:Array SS)[(i:Int).toNat]?)=some ⟨H,c,v⟩ from(if_neg<|V5.mpr<|Vo i).trans Tw];refine SU<|SU<|WM (s m rfl)<|Te<|SU<|YM (s m rfl) ?_;show To _ _ (setField (.ref a) 3 (Wy<|(i:Int)+1)>>=_) _ _ _;refine kL m (by simp) λf t y=>?_
 replace y:Vq a h f:=y;replace t:f.get? a=some (bw d (i+1) k.length e ok G):=t.trans (by simp[bw,av,Wy]);refine bH<|SU<|YM (s t rfl)<|SU<|YM (s t rfl) ?_;show To _ _ (YN (.ref a) 6 c v) _ _ ⟨f,g,p,T,r⟩;unfold YN;refine SU<|wpAny_newTuple ?_;have J:f.objs.size=h.objs.size:=y.1;show To _ _ (Yq (.ref a)>>=_) _ _ ⟨f.push<|ag [c,v],g,p,T,r⟩;rw[show(Tf.heap ⟨f,g,p,T,r⟩).objs.size=h.objs.size from J];have u:(f.push<|ag [c,v]).get? a=some (bw d (i+1) k.length e ok G):=Vw _ t;have O:(f.push<|ag [c,v]).get? h.objs.size=some (ag [c,v]):=by rw[<-J];exact VT _ rfl
 have R:(f.push<|ag [c,v]).objs.size=h.objs.size+1:=by rw[Wm,J]
 have M:∀b o,b≠a->h.get? b=some o->(f.push<|ag [c,v]).get? b=some o:=λb o j q=>Vw _<|y.extBut b o j q
 generalize f.push (ag [c,v])=S at u O R M⊢;refine SU ?_;unfold Yq;refine bF u rfl (x:=.none) rfl (Te ?_);simp only[if_true];refine bF u rfl (x:=ok) rfl (bF u rfl (x:=G) rfl ?_);refine kL u (by simp) λU Ts z=>?_
 replace z:Vq a S U:=z;refine kL Ts (by simp) λV Tt B=>?_
 replace B:Vq a U V:=B;refine kL Tt (by simp) λY Tu C=>?_
 replace C:Vq a V Y:=C;refine kL Tu (by simp) λI Tv D=>?_
 replace D:Vq a Y I:=D;have Z:∀b o,b≠a->S.get? b=some o->I.get? b=some o:=λb o j q=>D.extBut b o j<|C.extBut b o j<|B.extBut b o j<|z.extBut b o j q
 exact bL (Te<|Te<|aX _ rfl (Te<|hQ I Tv (Z _ _ (YL zl) O) (by rw[D.1,C.1,B.1,z.1,R]) λb o j q=>Z b o j<|M b o j q))
theorem nE:∀(L L':Led) (a:List S9),L'.map (·.1)=L.map (·.1)->a.length=L.length->a8 L' a=a8 L a:=by
 intro L;induction L with
 |nil=>exact fun
  |[],_,_,_=>rfl
  |_::_,_,h,_=>nomatch h
 |cons p L c=>exact fun
  |[],_,h,_=>nomatch h
  |q::L',[],_,h=>nomatch h
  |q::L',o::a,h,b=>by
   rw[cc,cc,List.cons.injEq] at h;show(q.1,o)::a8 L' a=(p.1,o)::a8 L a;rw[h.1,c L' a h.2<|by simpa using b]
def Calm(a:aU):Prop:=∀r o n F b,a r o n F b->∃f,r= .ok f
theorem uW{b j g k i n e:Nat}{ok Q v:va}{h₀:Int}{d:va}{l:Expr}{Ts:List Expr}{xx:Nat}{TO:XT}{p t:List Wq}{s:Zb}{L Z:Led}{B:List SS}{z:aU}
  (ht:l= .Tuple Ts xx TO) (J:L[j]?=some (g+4,bw k i n e ok Q)) (hd:(k+4,ab B e)∈Z) (hl:n=B.length) (hi:B[i]?=some ⟨h₀,d,v⟩) (hK:Calm z)
  (H:∀a:Nat,d7 w b (.forLoop l (.ref<|g+4) p t s) (tail3 l (.ref<|g+4) (.ref<|a+4) p t s) (setAt L j<|bw k (i+1) n e d v) ((a+4,ag [d,v])::Z) λr o nw F S=>S=[]/\z r o nw (F++[(a+4,ag [d,v])]) []):
  SP w b (.forLoop l (.ref<|g+4) p t s) L Z z:=by
 intro A C h TQ T Tu Tr os hh Tw hu TA M D R hR;refine y_code _ _ _ _ _ _ ?_;show Xs _ A _ ((forTurn l (.ref<|g+4) p t s).onRaise _) _ _ _;refine nX ?_;unfold forTurn;refine WL<|Va<|Y8<|WL<|Va<|XF ?_;have N:h.get? (g+4)=some (bw k i n e ok Q):=D.at J;refine aw D.d3 λa TM=>?_;subst TM
 have P:h.objs.size=a+4:=D.size;refine DX N (D.keep _ _<|M _ hd) hl hi P λh₁ Tx TG TH TB=>?_
 show Xs _ _ _ (Wn l (.ref<|g+4) (.ref<|a+4)>>=λU=>tail3 l (.ref<|g+4) (.ref<|a+4) p t s) _ _ _;subst ht;refine WL<|Va<|wpAny_letOwnedTupleGo_items Tx λG Tz E=>?_;have TC:a+4≠g+4:=λq=>by
  have:=VN N;rw[P,q] at this;exact absurd this (W6 _)
 have m:=D.turned (h':=G) (o':=bw k (i+1) n e d v) (o2:=ag [d,v]) J (by rw[E.1];exact TH)
  Tz ((E.2 _ TC).trans TG) λb x C hx=>(E.2 b C).trans<|TB b x C hx
 have Tv:ep (XQ G ((setAt L j<|bw k (i+1) n e d v).map (·.1))) ((a+4,ag [d,v])::Z):=λTK q=>by
  rcases bK q with rfl|q
  ·exact m.jn _<|.head _
  ·exact m.cV _ _<|M TK q
 have TP:=H a A _ G _ T Tu Tr os hh Tw hu (TA.le m.cV) Tv m.frame (λr y=>(∃f,r= .ok f)/\R r y) ?_
 ·refine Y1 TP (λTt y c=>?_) λe' y c=>?_
  ·cases Tt with
   |done f=>exact c.2
   |again c'=>exact⟨c.1,codeAny_mono c.2 λr y x=>x.2⟩
  ·refine a0 c λTL U=>?_;obtain⟨f,hf⟩:=TL
   cases hf
 ·intro r u TJ F S h3 Y T' g' c TF TR V
  obtain⟨rfl,c⟩:=c;refine⟨hK _ _ _ _ _ c,?_⟩;have O:u.length=L.length:=by rw[TF,l9]
  refine hR r u TJ (F++[(a+4,ag [d,v])]) [] h3 Y T' g' c O (λU q=>nomatch q) ?_;have I:=m.gu (by rw[<-aZ];exact V);have e1:a8 (setAt L j<|bw k (i+1) n e d v) u=a8 L u:=nE _ _ _ (iD ..) O;rw[e1] at I;refine I.perm ?_;simp only[aZ];exact Xp _
def lQ(i n e:Nat)(ok a:va):S9:=av "dict_itemiterator" [.none,.bool false,.none,.int i 0,.int n 0,.int e 0,ok,a]
def qf(a b:va)(d i n e:Nat)(ok c:va):S9:=av "dict_itemiterator" [a,b,.ref<|d+4,.int i 0,.int n 0,.int e 0,ok,c]
theorem yK{A:Wr}{E:va->Tf->Prop}{Q:Option va->Tf->Prop}{h:Vm}{g:GB}{f:YD}{i:WU}{c:List SS}
  (u:A.handled=none) (k:h.get? a=some (qf o p d n n e ok y)) (l:h.get? (d+4)=some (ab c e)) (v:n=c.length) (q:h.objs.size=N+4)
  (r:Q none ⟨((h.update a (Tc (·.setIfInBounds 2 .none))).push<|ag []).push<|cm N,g,f,T,i⟩):
  To (Vy Pw w) A (Wk<|.ref a) Q E ⟨h,g,f,T,i⟩:=by
 subst v;have j:Xj ⟨h,g,f,T,i⟩ (.ref a) "dict_itemiterator":=aX _ k rfl;have x:(⟨c⟩:Array SS)[c.length]?=none:=by simp
 unfold Wk;refine bA (VH (name:="__next__") j WT
  (V1 WT j Y0 ?_<|YR _))
 refine bP<|SU<|SU<|SU<|WM j<|Te<|SU<|wpAny_fieldsOf k rfl ?_;show To _ _ (if(VV (d+4)==SY)=true then _ else _) _ _ _;refine wN (show ¬((VV (d+4)==SY)=true) from Vx)<|bP<|SU<|ZX l rfl<|wN (by simp)<|bP<|SU<|wpAny_dictEpoch l rfl<|wN (by simp)<|Te ?_;dsimp only;rw[show(if((c.length:Int)<0) then none else(⟨c⟩:Array SS)[(c.length:Int).toNat]?)=none from(if_neg<|V5.mpr<|Vo _).trans x];refine SU<|SU<|WM j<|Te ?_;show To _ _ (setField (.ref a) 2 .none>>=_) _ _ _;refine bS k rfl (by show 2<8;decide) ?_;show To _ _ (Wa:VM PySem.Fin) _ _ _;have z:(h.update a (Tc (·.setIfInBounds 2 .none))).objs.size=N+4:=by rw[(show Vq a h (h.update a (Tc (·.setIfInBounds 2 .none))) from VU ..).1];exact q
 refine ke (t:=N) (s:=⟨h.update a (Tc (·.setIfInBounds 2 .none)),g,f,T,i⟩) u z<|SU<|W7 (T:="StopIteration") (b:=true) (aX (cm N) ?_ rfl) XX<|Te r;have m:(((h.update a (Tc (·.setIfInBounds 2 .none))).push<|ag []).objs.size)=N+5:=by rw[Wm,z]
 show((((h.update a (Tc (·.setIfInBounds 2 .none))).push<|ag []).push<|cm N).get?<|N+5)=some (cm N);rw[<-m];exact VT _ rfl
theorem vA{b j i k n e:Nat}{ok a:va}{v:Expr}{r:List Wq}{l:Zb}{L Z:Led}{s:List SS}{p:aU}
  (u:L[j]?=some (i+4,bw k n n e ok a)) (F:(k+4,ab s e)∈Z) (I:n=s.length) (B:p (.ok .next) ((setAt L j<|lQ n n e ok a).map (·.2)) [] [] []):
  SP w b (.forLoop v (.ref<|i+4) r [] l) L Z p:=by
 intro A O h N T g d U G P S Q E D R C;refine y_code _ _ _ _ _ _ ?_;show Xs _ A _ ((forTurn v (.ref<|i+4) r [] l).onRaise _) _ _ _;refine nX ?_;unfold forTurn;refine WL<|Va<|Y8<|WL<|Va<|XF ?_;have H:h.get? (i+4)=some (bw k n n e ok a):=D.at u;refine aw D.d3 λt M=>?_;subst M
 have J:h.objs.size=t+4:=D.size;refine yK (o:=.none) (p:=.bool false) G H (D.keep _ _<|E _ F) I J ?_;have c:Tc (·.setIfInBounds 2 .none) (bw k n n e ok a)=lQ n n e ok a:=rfl;revert c;generalize Tc (·.setIfInBounds 2 .none)=f;intro c;refine Va<|Te ⟨rfl,?_⟩;refine codeAny_of_tree ?_;show To _ _ ((execs [] l).onRaise _>>=_) _ _ _;refine SU<|XF<|wpAny_execs_nil<|Te ?_;have m:=D.update (f:=f) u (by rw[c];rfl);rw[c] at m;have x:=(m.alloc (o:=ag []) rfl).alloc (o:=cm t) rfl;have y:=x.fp (L':=setAt L j<|lQ n n e ok a)<|(Vg _ _).trans<|Vg _ _;show R _ _;refine C (.ok .next) ((setAt L j<|lQ n n e ok a).map (·.2)) [] [] [] _ (t+4+1+1) T g B (by rw[aM,l9]) (λV q=>nomatch q) ?_;have z:a8 L ((setAt L j<|lQ n n e ok a).map (·.2))=setAt L j (lQ n n e ok a):=by
  rw[<-nE L (setAt L j<|lQ n n e ok a) _ (iD ..) (by rw[aM,l9]),gz]
 rw[z,aP,aP];exact y
noncomputable abbrev KV:=List<|SX×Tg
noncomputable def bu(l:KV):List (Tg×Tg):=l.map λp=>(.str p.1,p.2)
noncomputable def cM(x:SX):KV->Option Tg
 |[]=>none
 |p::l=>match PySem.W.Fast.sEq p.1 x with
  |true=>some p.2
  |false=>cM x l
noncomputable def fo(x:SX)(d:Tg):KV->Option KV
 |[]=>none
 |p::l=>match PySem.W.Fast.sEq p.1 x with
  |true=>some ((p.1,d)::l)
  |false=>match fo x d l with
   |some a=>some (p::a)
   |none=>none
def dput(x:SX)(d:Tg)(l:KV):KV:=match fo x d l with
 |some a=>a
 |none=>l++[(x,d)]
noncomputable def dh:Tg->Tg->Tg
 | .int a,.int b=>.int<|b+a
 | .tuple [.int c,.int d,.int e,.int f],.tuple [.int g,.int h,.int i,.int j]=>.tuple [.int<|c+g,.int<|d+h,.int<|e+i,.int<|f+j]
 |_,_=>.none
def cP(a:KV)(p:SX×Tg):KV:=match cM p.1 a with
 |some o=>dput p.1 (dh p.2 o) a
 |none=>dput p.1 p.2 a
def th(t:KV):KV:=t.foldl (λa p=>dput p.1 p.2 a) []
def dA(t s:KV):KV:=s.foldl cP<|th t
theorem a7.cons_inv{p:SX×Tg}(h:a7 Z c (bu (p::l))):∃t v d,c=⟨cu w p.1,.str p.1<|t+1,v⟩::d/\Tells Z v p.2/\a7 Z d (bu l):=by
 have e:a7 Z c ((.str p.1,p.2)::bu l):=h;cases e with|cons a b=>exact jd _ _ _ rfl a b
theorem a7.nil_inv(h:a7 Z a (bu [])):a=[]:=by
 have b:a7 Z a []:=h;cases b;rfl
theorem a7.oy(b:Tells Z v d)(r:a7 Z a (bu l)):a7 Z (⟨cu w x,.str x<|t+1,v⟩::a) (bu ((x,d)::l)):=a7.cons b r
theorem a7.keys:∀{l:KV} {b:List SS},a7 Z b (bu l)->StrKeys b:=by
 intro l;induction l with
 |nil=>intro c h;rw[h.nil_inv];exact λc h=>nomatch h
 |cons p l d=>
  intro c h;refine cQ h.cons_inv λt v g f h r=>?_;subst f
  intro e a;rcases bK a with rfl|a
  ·exact cA _ _ rfl (mQ w _)
  ·exact d r e a
theorem a7.pM:∀{l:KV} {a:List SS},a7 Z a (bu l)->a.length=l.length:=by
 intro l;induction l with
 |nil=>intro d h;rw[h.nil_inv];rfl
 |cons p l b=>
  intro d h;refine cQ h.cons_inv λt v e c h r=>?_;subst c
  rw[bT,bT,b r]
theorem a7.find(x:SX):∀{l:KV} {a:List SS},a7 Z a (bu l)->(bY x a=none/\cM x l=none)\/∃v d,bY x a=some v/\cM x l=some d/\Tells Z v d:=by
 intro l;induction l with
 |nil=>intro c h;rw[h.nil_inv];exact .inl ⟨rfl,rfl⟩
 |cons p l b=>
  intro c h;obtain⟨t,v,e,rfl,h,r⟩:=h.cons_inv;unfold bY cM isKey;dsimp only;cases PySem.W.Fast.sEq p.1 x with
  |true=>exact .inr<|dR _ _ rfl rfl h
  |false=>exact b r
theorem a7.Rb(x:SX)(i:Tells Z v d):∀{l:KV} {b:List SS},a7 Z b (bu l)->(gy x v b=none/\fo x d l=none)\/∃a f,gy x v b=some a/\fo x d l=some f/\a7 Z a (bu f):=by
 intro l;induction l with
 |nil=>intro k h;rw[h.nil_inv];exact .inl ⟨rfl,rfl⟩
 |cons p l j=>
  intro k h;obtain⟨t,m,a,rfl,h,r⟩:=h.cons_inv;unfold gy fo isKey;dsimp only;cases PySem.W.Fast.sEq p.1 x with
  |true=>exact .inr<|dR _ _ rfl rfl (.oy i r)
  |false=>
   rcases j r with⟨c,e⟩|⟨a,f,c,e,g⟩
   ·rw[c,e];exact .inl ⟨rfl,rfl⟩
   ·rw[c,e];exact .inr<|dR _ _ rfl rfl (.oy h g)
theorem a7.snoc(b:Tells Z v d):∀{l:KV} {a:List SS},a7 Z a (bu l)->a7 Z (a++[⟨cu w x,.str x<|t+1,v⟩]) (bu<|l++[(x,d)]):=by
 intro l;induction l with
 |nil=>intro e h;rw[h.nil_inv];exact .cons b .nil
 |cons p l c=>
  intro e h;obtain⟨t,g,f,rfl,h,r⟩:=h.cons_inv;exact .oy h<|c r
theorem a7.put(r:a7 Z c (bu l))(e:Tells Z v d):a7 Z (c9 x (t+1) v c) (bu<|dput x d l):=by
 unfold c9 dput;rcases r.Rb x e with⟨a,b⟩|⟨g,h,a,b,f⟩
 ·rw[a,b,<-mQ];exact r.snoc e
 ·rw[a,b];exact f
theorem Q5(x:SX)(v:va):∀(a b:List SS),gy x v a=some b->b.length=a.length:=by
 intro a;induction a with
 |nil=>intro d h;exact nomatch h
 |cons e a c=>
  intro b h;unfold gy at h;cases q:isKey x e.key with
  |true=>rw[q] at h;cases h;rfl
  |false=>
   rw[q] at h;dsimp only at h;cases q2:gy x v a with
   |none=>rw[q2] at h;cases h
   |some y=>rw[q2] at h;cases h;rw[bT,bT,c y q2]
theorem mN(a:List SS):dI x a a.length=(c9 x t v a).length:=by
 unfold dI c9;have:=BV x v a;cases q:bY x a with
 |none=>
  rw[q] at this;have h:gy x v a=none:=Zd.mp (by rw[this];simp);rw[h];simp
 |some y=>
  rw[q] at this;refine aw (Z1.mp this) λb h=>?_
  rw[h];exact(Q5 x v a b h).symm
theorem Tells.int_inv(h:Tells Z v (.int i)):∃t,v= .int i (t+1):=by cases h;exact⟨_,rfl⟩
theorem Tells.str_inv(h:Tells Z v (.str i)):∃t,v= .str i (t+1):=by cases h;exact⟨_,rfl⟩
theorem Tells.pR(h:Tells Z v (.tuple b)):∃a c,v= .ref (a+4)/\(a+4,ag c)∈Z:=by
 cases h with
 |tup h r=>exact cA _ _ rfl h
 |row h=>exact cA _ _ rfl h
 |kv h _=>exact cA _ _ rfl h
theorem Tells.lst_inv(h:Tells Z v (.list b)):∃a c n,v= .ref (a+4)/\(a+4,aa c n)∈Z/\ak Z c b:=by cases h with|lst h r=>exact jd _ _ _ rfl h r
theorem Tells.fE{l:List (Tg×Tg)}(h:Tells Z v (.dict l)):∃a b,v= .ref (a+4)/\(a+4,ab b b.length)∈Z/\a7 Z b l:=by cases h with|iW h e r=>subst e;exact dR _ _ rfl h r
theorem ak.cons_inv(h:ak Z e (d::c)):∃v f,e=v::f/\Tells Z v d/\ak Z f c:=by cases h with|cons a b=>exact dR _ _ rfl a b
theorem ak.nil_inv(h:ak Z a []):a=[]:=by cases h;rfl
theorem a7.at:∀{a:KV} {b:List SS},a7 Z b (bu (a++p::l))->∃t v,b[a.length]?=some ⟨cu w p.1,.str p.1<|t+1,v⟩/\Tells Z v p.2:=by
 intro a;induction a with
 |nil=>
  intro k h;obtain⟨t,j,c,rfl,h,r⟩:=a7.cons_inv h;exact cA _ _ rfl h
 |cons q a g=>
  intro k h;refine hide λQ d=>cQ (a7.cons_inv (p:=q) (l:=a++p::l) h) λt j c i h r=>?_;subst i
  exact cw (g r) λt v e f=>d<|(cA t v (by simpa using e) f)
def x7(e:Expr):List Expr:=(eX e).2.1
def AL(e:Expr):XT:=(eX e).2.2.2.2
abbrev c6(k b a:Nat):Td:=aS (bj k) (.ref<|b+4)<|aT 28<|a+4
theorem vV(b a:Nat):c6 1 b a= .forLoop (d6<|bj 1) (.ref<|b+4) (cR<|bj 1) [] (aT 28<|a+4):=by kernel_rfl
theorem mH(b a:Nat):c6 2 b a= .forLoop (d6<|bj 2) (.ref<|b+4) (cR<|bj 2) [] (aT 28<|a+4):=by kernel_rfl
theorem FQ:d6 (bj 1)= .Tuple (x7<|d6<|bj 1) 0 (AL<|d6<|bj 1):=by kernel_rfl
theorem xW:d6 (bj 2)= .Tuple (x7<|d6<|bj 2) 0 (AL<|d6<|bj 2):=by kernel_rfl
theorem H2:gU (bj 1)=[]:=by kernel_rfl
theorem zW:gU (bj 2)=[]:=by kernel_rfl
def jD(c e f a s d:Nat)(b:S9):Prop:=b=nu c e f a s d\/∃g h x i v,b=c8 c e f g h a s d x i v
inductive iZ(Z:Led)(k0 k1 k2 a s d:Nat)(l:KV)(r:Vz)(objs:List S9)(new F ro:Led):Prop
 |mk (fr es it) (h1:r= .ok .next/\new=[]/\ro=[]) (h2:jD k0 k1 k2 a s d fr) (h3:objs=[fr,ab es es.length,it]) (h4:a7 (F++Z) es (bu l))
theorem yF:Calm (iZ Z b c e a s d l):=by
 rintro r o n F f ⟨_,_,_,⟨rfl,_⟩,_⟩;exact⟨_,rfl⟩
inductive mg:Tg->Prop
 |int (i):mg (.int i)
 |tup (a b c e):mg (.tuple [.int a,.int b,.int c,.int e])
theorem Tells.num(h:Tells Z v d)(j:mg d):(∃i t,v= .int i (t+1)/\d= .int i)\/∃a f,v= .ref (a+4)/\(a+4,ag f)∈Z:=by
 rcases j with⟨i⟩|⟨a,b,c,e⟩
 ·refine aw h.int_inv λt k=>?_;subst k;exact .inl<|cA _ _ rfl rfl
 ·refine cw h.pR λa f l g=>?_;subst l;exact .inr<|cA _ _ rfl g
theorem rn:∀C∈[mV,gK,fT,gs,gp],aA.Ok w b C:=aj Pb<|aj uK<|aj r1<|aj vP<|aj vW ay
theorem tZ:∀C∈[jT false,gK,fT,gs,gp],aA.Ok w b C:=aj Ao<|aj uK<|aj r1<|aj vP<|aj vW ay
theorem Ah(h:SP w b c L (q::Z) (iZ (q::Z) f g i a s d l)):
  SP w b c L (q::Z) λr o n k e=>(λr o y F e=>e=[]/\iZ Z f g i a s d l r o y (F++[q]) []) r o n (k++[]) e:=by
 refine h.mono ar (λj q=>q) ?_;rintro r A z F e j ⟨p,m,x,⟨rfl,rfl,rfl⟩,t,u,v⟩ j;refine⟨rfl,p,m,x,⟨rfl,rfl,rfl⟩,t,u,?_⟩;rw[aP,aZ];exact v
theorem Oe(P:Tg->Prop)(g:P d):∀{l f:KV},(∀p∈l,P p.2)->fo x d l=some f->∀p∈f,P p.2:=by
 intro l;induction l with
 |nil=>intro j j h;exact nomatch h
 |cons q l i=>
  intro f c h;unfold fo at h;cases e:PySem.W.Fast.sEq q.1 x with
  |true=>
   rw[e] at h;cases h;intro p a;rcases bK a with rfl|a
   ·exact g
   ·exact c p<|.tail _ a
  |false=>
   rw[e] at h;dsimp only at h;cases b:fo x d l with
   |none=>rw[b] at h;cases h
   |some y=>
    rw[b] at h;cases h;intro p a;rcases bK a with rfl|a
    ·exact c _<|.head _
    ·exact i (λp q=>c p<|.tail _ q) b p a
theorem pa(P:Tg->Prop)(c:∀p∈l,P p.2)(b:P d):∀p∈dput x d l,P p.2:=by
 unfold dput;cases e:fo x d l with
 |none=>
  intro p a;rcases bB a with a|a
  ·exact c p a
  ·rcases dg a with rfl;exact b
 |some y=>exact Oe P b c e
theorem rM(P:Tg->Prop):∀{l:KV},(∀p∈l,P p.2)->cM x l=some d->P d:=by
 intro l;induction l with
 |nil=>intro c h;exact nomatch h
 |cons q l b=>
  intro a h;unfold cM at h;cases e:PySem.W.Fast.sEq q.1 x with
  |true=>rw[e] at h;cases h;exact a q<|.head _
  |false=>rw[e] at h;exact b (λp r=>a p<|.tail _ r) h
theorem Jx(J:b+40<=960):∀(z h g:KV) (c:List SS) (G:S9) (ok U:va) (Z:Led),a7 Z f (bu<|h++z)->(∀p∈z,mg p.2)->(C+4,ab f f.length)∈Z->
  a7 Z c (bu g)->jD k l m a s d G->c.length+z.length<=1000->
  SP w b (c6 1 y u) [(u+4,G),(d+4,ab c c.length),(y+4,bw C h.length f.length f.length ok U)] Z (iZ Z k l m a s d<|z.foldl (λg p=>dput p.1 p.2 g) g):=by
 intro z;induction z with
 |nil=>
  intro h g c G ok U Z M _ P L O _;rw[vV,show h.length=f.length by rw[M.pM,aP]];exact vA (j:=2) rfl P rfl ⟨G,c,_,⟨rfl,rfl,rfl⟩,O,rfl,L⟩
 |cons p z ih=>
  intro h g c G ok U Z M hn P L O hl;refine cw (a7.at M) λt v hi hv=>?_
  rw[vV];refine uW (j:=2) (FQ) rfl P rfl hi yF λn=>?_
  rw[<-vV,xE,<-H2];rw[bT] at hl;have up:∀x∈Z,x∈(n+4,ag [.str p.1<|t+1,v])::Z:=λx q=>.tail _ q
  have go:∀(A B:Bool) (D E:Nat),br A B w=w->SP (br A B w) b (c6 1 y u) [(u+4,c8 k l m D E a s d p.1 t v),(d+4,ab (c9 p.1 (t+1) v c)<|dI p.1 c c.length),(y+4,bw C (h.length+1) f.length f.length (.str p.1<|t+1) v)] ((n+4,ag [.str p.1<|t+1,v])::Z)
    λr o Ts F' H=>(λr o S F H=>H=[]/\iZ Z k l m a s d ((p::z).foldl (λg p=>dput p.1 p.2 g) g) r o S (F++[(n+4,ag [.str p.1<|t+1,v])]) []) r o Ts (F'++[]) H:=by
   intro A B D E e;rw[e,mN (t:=t+1) (v:=v)];have Tr:=ih (h++[p]) (dput p.1 p.2 g) (c9 p.1 (t+1) v c) (c8 k l m D E a s d p.1 t v) (.str p.1<|t+1) v ((n+4,ag [.str p.1<|t+1,v])::Z) (by rw[aZ];exact M.sub up) (λx q=>hn x<|.tail _ q) (.tail _ P)
    ((L.put hv).sub up) (.inr<|iH _ _ _ _ _ rfl) (by rw[<-mN];unfold dI;split<;>(first|exact Wz ‹_› |exact rI ‹_›))
   rw[Vd] at Tr;exact Ah Tr
  have I:∀(κ κ1:Nat->Nat) (A B:Bool) (N T:Nat),br A B w=w->qc a s d y u n c.length C (h.length+1) f.length f.length k l m p.1 t (.str p.1<|t+1) v v c κ κ1 A B N T ((n+4,ag [.str p.1<|t+1,v])::Z) b (λr o S F H=>H=[]/\iZ Z k l m a s d ((p::z).foldl (λg p=>dput p.1 p.2 g) g) r o S (F++[(n+4,ag [.str p.1<|t+1,v])]) []):=λκ κ1 A B N T e=>ah ⟨_,_,_,_,_,_,rfl,L.keys,rfl,b6<|by exact SQ (VI _ _) ‹_›,λzu zu=>go A B _ _ e⟩
  rcases hv.num (hn p<|.head _) with⟨i,Q,rfl,-⟩|⟨R,xs,rfl,hm⟩
  ·rcases O with rfl|⟨D,E,x,V,Y,rfl⟩
   ·exact Mm a s d y u n c.length C (h.length+1) f.length f.length k l m p.1 t (.str p.1<|t+1) (.int i<|Q+1) i Q c 960 J (zd rfl) rn (aq (.head _) ax)<|I _ _
   ·exact Sg a s d y u n c.length C (h.length+1) f.length f.length k l m D E p.1 x t V Y (.str p.1<|t+1) (.int i<|Q+1) i Q c 960 J (zd rfl) rn (aq (.head _) ax)<|I _ _
  ·rcases O with rfl|⟨D,E,x,V,Y,rfl⟩
   ·exact Qu a s d y u n c.length C (h.length+1) f.length f.length k l m p.1 t (.str p.1<|t+1) (.ref<|R+4) R c xs 960 J (zd rfl) tZ (aq (.head _)<|aq (.tail _ hm) ax)<|I _ _
   ·exact Oh a s d y u n c.length C (h.length+1) f.length f.length k l m D E p.1 x t V Y (.str p.1<|t+1) (.ref<|R+4) R c xs 960 J (zd rfl) tZ (aq (.head _)<|aq (.tail _ hm) ax)<|I _ _
theorem Ks(hb:b+40<=960):∀(C y g:KV) (f:List SS) (L:S9) (ok ov:va) (Z:Led),a7 Z k (bu<|y++C)->(∀p∈C,∃i,p.2= .int i)->(∀p∈g,∃i,p.2= .int i)->(J+4,ab k k.length)∈Z->
  a7 Z f (bu g)->jD l m B a s d L->f.length+C.length<=1000->
  SP w b (c6 2 I G) [(G+4,L),(d+4,ab f f.length),(I+4,bw J y.length k.length k.length ok ov)] Z (iZ Z l m B a s d<|C.foldl cP g):=by
 intro C;induction C with
 |nil=>
  intro y g f L ok ov Z S _ _ T E U _;rw[mH,show y.length=k.length by rw[S.pM,aP]];exact vA (j:=2) rfl T rfl ⟨L,f,_,⟨rfl,rfl,rfl⟩,U,rfl,E⟩
 |cons p C ih=>
  intro y g f L ok ov Z S hn Tu T E U hl;refine cw (a7.at S) λt Tv hi M=>?_
  rw[mH];refine uW (j:=2) (xW) rfl T rfl hi yF λD=>?_
  rw[<-mH,xE,<-zW];rw[bT] at hl;have up:∀x∈Z,x∈(D+4,ag [.str p.1<|t+1,Tv])::Z:=λx q=>.tail _ q
  refine aw (hn p<|.head _) λi V=>?_
  rw[V] at M;refine aw M.int_inv λh P=>?_;subst P
  have go:∀(z A:Bool) (N O:Nat) (H:Int) (u:Nat),br z A w=w->dput p.1 (.int H) g=cP g p->SP (br z A w) b (c6 2 I G) [(G+4,c8 l m B N O a s d p.1 t<|.int i<|h+1),(d+4,ab (c9 p.1 (t+1) (.int H<|u+1) f)<|dI p.1 f f.length),(I+4,bw J (y.length+1) k.length k.length (.str p.1<|t+1)<|.int i<|h+1)] ((D+4,ag [.str p.1<|t+1,.int i<|h+1])::Z)
    λr o TB F' Q=>(λr o Y F Q=>Q=[]/\iZ Z l m B a s d ((p::C).foldl cP g) r o Y (F++[(D+4,ag [.str p.1<|t+1,.int i<|h+1])]) []) r o TB (F'++[]) Q:=by
   intro z A N O H u e hq;rw[e,mN (t:=t+1) (v:=.int H<|u+1)];have hd:a7 Z (c9 p.1 (t+1) (.int H<|u+1) f) (bu<|cP g p):=by rw[<-hq];exact E.put<|.int H u
   have Tw:=ih (y++[p]) (cP g p) (c9 p.1 (t+1) (.int H<|u+1) f) (c8 l m B N O a s d p.1 t<|.int i<|h+1) (.str p.1<|t+1) (.int i<|h+1) ((D+4,ag [.str p.1<|t+1,.int i<|h+1])::Z) (by rw[aZ];exact S.sub up) (λx q=>hn x<|.tail _ q) (by rw[<-hq];exact pa (λd=>∃i,d= .int i) Tu ⟨_,rfl⟩) (.tail _ T)
    (hd.sub up) (.inr<|iH _ _ _ _ _ rfl) (by rw[<-mN];unfold dI;split<;>(first|exact Wz ‹_› |exact rI ‹_›))
   rw[Vd] at Tw;exact Ah Tw
  have Tt:=E.find p.1;have TA:cM p.1 g=none->dput p.1 (.int i) g=cP g p:=λq=>by unfold cP;rw[q,V]
  have Tz:∀j,cM p.1 g=some (.int j)->dput p.1 (.int<|j+i) g=cP g p:=λj q=>by unfold cP;rw[q,V];rfl
  have Tx:∀{Z':Led} {c:Td} {l m:Prop},c= .builtin "dict.__contains__" ⟨[.ref<|d+4,.str p.1<|t+1],[]⟩->(∀j u,bY p.1 f=some (.int j<|u+1)->cM p.1 g=some (.int j)->l)->(cM p.1 g=none->m)->qX c [(d+4,ab f f.length)] Z' l m:=by
   intro Z' c l m hc h0 h1;refine⟨_,_,_,_,_,hc,E.keys,.inl rfl,?_,?_⟩
   ·rintro TC;refine aw TC λTv M=>?_
    rcases Tt with⟨n,_⟩|⟨v',d',n,R,h4⟩
    ·rw[n] at M;cases M
    ·refine aw (rM (λd=>∃i,d= .int i) Tu R) λj P=>?_;subst P
     refine aw h4.int_inv λu P=>?_;subst P
     exact h0 j u n R
   ·intro q
    rcases Tt with⟨_,n⟩|⟨v',d',n,_⟩
    ·exact h1 n
    ·rw[n] at q;cases q
  have gl:∀(κ κ1:Nat->Nat) (z A:Bool) (Tr Ts:Nat),br z A w=w->wC a s d I G D f.length J (y.length+1) k.length k.length l m B p.1 t (.str p.1<|t+1) (.int i<|h+1) i h f κ κ1 z A Tr Ts ((D+4,ag [.str p.1<|t+1,.int i<|h+1])::Z) b (λr o Y F Q=>Q=[]/\iZ Z l m B a s d ((p::C).foldl cP g) r o Y (F++[(D+4,ag [.str p.1<|t+1,.int i<|h+1])]) []):=λκ κ1 z A Tr Ts e=>ah (Tx rfl (λj u n R v v=>ah ⟨_,_,rfl,λv v=>ah ⟨_,_,_,_,_,_,_,rfl,E.keys,.inl rfl,n,λv v=>ah ⟨_,_,_,_,_,_,rfl,E.keys,rfl,b6<|by exact SQ (VI _ _) ‹_›,λv v=>go z A _ _ _ _ e<|Tz j R⟩⟩⟩)
     (λn v v=>ah ⟨_,_,_,_,_,_,rfl,E.keys,rfl,b6<|by exact SQ (VI _ _) ‹_›,λv v=>go z A _ _ _ _ e<|TA n⟩))
  rcases U with rfl|⟨N,O,x,tx,v0,rfl⟩
  ·exact Pk a s d I G D f.length J (y.length+1) k.length k.length l m B p.1 t (.str p.1<|t+1) (.int i<|h+1) i h f 960 hb (zd rfl) rn (aq (.head _) ax)<|gl _ _
  ·exact MP a s d I G D f.length J (y.length+1) k.length k.length l m B N O p.1 x t tx v0 (.str p.1<|t+1) (.int i<|h+1) i h f 960 hb (zd rfl) rn (aq (.head _) ax)<|gl _ _
def fO(j:Nat)(l a:KV):KV:=match j with
 |1=>l.foldl (λa p=>dput p.1 p.2 a) a
 |_=>l.foldl cP a
inductive nj(j:Nat)(c:Td)(sub Z:Led)(kA:List SS->S9->Led->Prop)(kB:Nat->Nat->SX->Nat->va->List SS->S9->Led->Prop):Prop
 |mk (it) (fa) (k0) (k1) (k2) (a) (s) (d) (src) (b) (l) (fr) (es) (acc) (ok) (g) (h0:c=c6 j it fa) (h1:sub=[(fa+4,fr),(d+4,ab es es.length),(it+4,bw src 0 b.length b.length ok g)]) (h2:b9 sub=om k0 k1 k2 a s d++(b9 sub).drop 3) (h3:a7 Z b (bu l)) (h4:∀p∈l,mg p.2/\(j=2->∃i,p.2= .int i)) (h5:j=2->∀p∈acc,∃i,p.2= .int i) (h6:(src+4,ab b b.length)∈Z) (h7:a7 Z es (bu acc)) (h8:jD k0 k1 k2 a s d fr) (h9:es.length+l.length<=1000) (Jp:∀e f F,a7 (F++Z) e (bu<|fO j l acc)->kA e f F/\∀k3 k4 x tx v,kB k3 k4 x tx v e f F):nj j c sub Z kA kB
noncomputable def take3(d:List SS):List SS:=match d with
 |a::b::c::_=>[a,b,c]
 |_=>[]
def l6(j:Nat):aA:=λc sub Z d=>nj j c sub Z (λa b F=>d 0 (.ok .next) [ao (take3<|b9 sub) 3,ab a a.length,b] [] F [])
 (λe f x g v a b F=>d 1 (.ok .next) [ao (take3 (b9 sub)++[ent "func" e<|.str x<|g+1,ent "caller" f v]) 5,ab a a.length,b] [] F [])
theorem vK(C:b+40<=960)(P:j=1\/j=2):(l6 j).Ok w b:=by
 rintro c sub Z Y ⟨D,k,G,I,J,a,s,d,U,m,l,g,e,f,ok,h,rfl,Q,R,n,o,M,t,u,y,A,H⟩;have N:take3 (b9 sub)=om G I J a s d:=by rw[R];rfl
 rw[N] at H;have z:SP w b (c6 j D k) [(k+4,g),(d+4,ab e e.length),(D+4,bw U 0 m.length m.length ok h)] Z (iZ Z G I J a s d<|fO j l f):=by
  rcases P with rfl|rfl
  ·exact Jx C l [] f e g ok h Z n (λp q=>(o p q).1) t u y A
  ·exact Ks C l [] f e g ok h Z n (λp q=>(o p q).2 rfl) (M rfl) t u y A
 rw[Q];refine z.mono ar (λL q=>q) ?_;rintro r Tt Ts F ro L ⟨Tr,i,E,⟨rfl,rfl,rfl⟩,O,rfl,B⟩ L;rcases O with rfl|⟨S,T,x,V,v,rfl⟩
 ·exact⟨0,(H i E F B).1⟩
 ·exact⟨1,(H i E F B).2 S T x V v⟩
def EM(t s:Nat)(m d:List SS):Q7:=λI J N T Z b R=>ae [7,6,4,2,1] [N,t,N+2,t,N+3]<|nj 1 (aS (bj 1) (.ref<|N+7)<|aT 28<|N+4) [(N+4,ao [ent "target" T<|.ref<|t+4,ent "source" (T+1)<|.ref<|s+4,ent "new_callers" (T+2)<|.ref<|N+5] 3),((N+4)+1,ab [] 0),((((N+4)+1)+1)+1,av "dict_itemiterator" [.none,.bool false,.ref<|t+4,.int 0 0,.int (SR<|Tn m) 0,.int (SR<|Tn m) 0,.none,.none])] Z (λi O e=>∀a E:Nat,ae [1,6,4,2,1] [N,s,a,s,a+1]<|nj 2 (aS (bj 2) (.ref<|a+5)<|aT 28<|N+4) [(N+4,ao [ent "target" T<|.ref<|t+4,ent "source" (T+1)<|.ref<|s+4,ent "new_callers" (T+2)<|.ref<|N+5] 3),((N+4)+1,ab i<|Tn i),((a+4)+1,av "dict_itemiterator" [.none,.bool false,.ref<|s+4,.int 0 0,.int (SR<|Tn d) 0,.int (SR<|Tn d) 0,.none,.none])] ((e++[])++Z) (λj P p=>∀A F:Nat,ae [1] [N]<|R (H7<|.ref<|N+5) [] [] ([(N+5,ab j<|Tn j)]++(p++(e++[]))) []) (λV Tr Tx Tt Tv k Q q=>∀B G:Nat,ae [1] [N]<|R (H7<|.ref<|N+5) [] [] ([(N+5,ab k<|Tn k)]++(q++(e++[]))) [])) (λr u x v w l S f=>∀c H:Nat,ae [1,6,4,2,1] [N,s,c,s,c+1]<|nj 2 (aS (bj 2) (.ref<|c+5)<|aT 28<|N+4) [(N+4,ao [ent "target" T<|.ref<|t+4,ent "source" (T+1)<|.ref<|s+4,ent "new_callers" (T+2)<|.ref<|N+5,ent "func" r<|.str x<|v+1,ent "caller" u w] 5),((N+4)+1,ab l<|Tn l),((c+4)+1,av "dict_itemiterator" [.none,.bool false,.ref<|s+4,.int 0 0,.int (SR<|Tn d) 0,.int (SR<|Tn d) 0,.none,.none])] ((f++[])++Z) (λg L n=>∀y C:Nat,ae [1] [N]<|R (H7<|.ref<|N+5) [] [] ([(N+5,ab g<|Tn g)]++(n++(f++[]))) []) (λU Y Tw Ts Tu h M o=>∀z D:Nat,ae [1] [N]<|R (H7<|.ref<|N+5) [] [] ([(N+5,ab h<|Tn h)]++(o++(f++[]))) []))
theorem I4:CK w [] [(t+4,ab b b.length),(s+4,ab a a.length)] [l6 1,l6 2] (Vh (.ref 28) ⟨[.ref<|t+4,.ref<|s+4],[]⟩) (EM t s b a):=aV 85 105 0x122e4b76ff8a562a9845d80a68c5b6273b7e4c0b33883b94d07ffe07e44a0c660015b3d38415e3d0ee2edf140ab1dc951315236bd0f56936ad40926a3a540cca5e715becd8296b85adbd476d70cab45dbbf1d4
theorem uO(P:Tg->Prop):∀(l a:KV),(∀p∈l,P p.2)->(∀p∈a,P p.2)->∀p∈l.foldl (λa p=>dput p.1 p.2 a) a,P p.2:=by
 intro l;induction l with
 |nil=>intro a d h;exact h
 |cons q l c=>intro a b h;exact c (dput q.1 q.2 a) (λp r=>b p<|.tail _ r)<|pa P h<|b q<|.head _
theorem z9(x:SX)(d:Tg)(l:KV):(dput x d l).length<=l.length+1:=by
 have h:∀(l a:KV),fo x d l=some a->a.length=l.length:=by
  intro l;induction l with
  |nil=>intro a h;cases h
  |cons q l c=>
   intro a h;unfold fo at h;cases e:PySem.W.Fast.sEq q.1 x with
   |true=>rw[e] at h;cases h;rfl
   |false=>
    rw[e] at h;dsimp only at h;cases b:fo x d l with
    |none=>rw[b] at h;cases h
    |some y=>rw[b] at h;cases h;rw[bT,bT,c y b]
 unfold dput;cases e:fo x d l with
 |none=>simp
 |some y=>exact Ve<|Th<|h l y e
theorem wG:∀(l a:KV),(l.foldl (λa p=>dput p.1 p.2 a) a).length<=a.length+l.length:=by
 intro l;induction l with
 |nil=>intro a;exact VA _
 |cons q l b=>
  intro a;exact SQ (b<|dput q.1 q.2 a)<|SQ (Tq (z9 q.1 q.2 a) _)<|Th<|Vt _ 1 _
noncomputable abbrev xa(t s:Nat):Td:=.call (.ref 28) ⟨[.ref<|t+4,.ref<|s+4],[]⟩
inductive zR(Z:Led)(l:KV)(r:Vz)(objs:List S9)(new F ro:Led):Prop
 |mk (d) (h1:r= .ok (.ret<|.ref<|d+4)) (h2:objs=[]) (h3:new=[]) (h4:ro=[]) (h5:Tells (F++Z) (.ref<|d+4) (.dict<|bu l))
theorem OS(S:b+80<=960)(J:Tells Z (.ref<|t+4) (.dict<|bu c))(I:Tells Z (.ref<|s+4) (.dict<|bu f))(A:∀p∈c,∃i,p.2= .int i)(o:∀p∈f,∃i,p.2= .int i)(U:c.length+f.length<=900):
  SP w b (xa t s) [] Z (zR Z<|dA c f):=by
 refine hide λQ E=>bE J.fE λt' B e mt G=>?_
 cases e
 refine bE I.fE λs' u e r y=>?_
 cases e
 refine E ?_;have H:∀C∈[l6 1,l6 2],aA.Ok w 920 C:=aj (vK (zd rfl)<|.inl rfl)<|aj (vK (zd rfl)<|.inr rfl) ay;have num:∀{p:SX×Tg},(∃i,p.2= .int i)->mg p.2:=λ⟨i,h⟩=>by rw[h];exact .int _
 have O:(fO 1 c []).length<=c.length:=by have:=wG c [];simpa[fO] using this
 refine I4 920 (by exact tK ‹_› (zd rfl)) (zd rfl) H (aq mt<|aq r ax) λP R N T e=>?_
 have up:∀{F:Led},∀p∈Z,p∈F++Z:=λp q=>az q
 refine ah ⟨N+3,N,T,T+1,T+2,t,s,N+1,t,B,c,_,[],[],.none,.none,rfl,rfl,rfl,G,λp q=>⟨num<|A p q,λh=>absurd h<|by decide⟩,λh=>absurd h<|by decide,mt,.nil,.inl rfl,by rw[Yw];lia,λl V F v=>⟨?_,?_⟩⟩;all_goals
  have x:a7 ((F++[])++Z) l (bu<|fO 1 c []):=by rw[aP];exact v
  have l2:l.length<=c.length:=by rw[v.pM];exact O
  have z:∀p∈fO 1 c [],∃i,p.2= .int i:=uO (λd=>∃i,d= .int i) c [] A λa h=>nomatch h
  have m:∀{M:Nat} {g:List SS} {k:Led},a7 (k++((F++[])++Z)) g (bu<|fO 2 f<|fO 1 c [])->zR Z (dA c f) (H7<|.ref<|M+5) [] [] ([(M+5,ab g g.length)]++(k++(F++[]))) []:=by
   intro M g k j;refine⟨M+1,rfl,rfl,rfl,rfl,.iW (n:=g.length) (bq<|.head _) rfl (j.sub λp q=>?_)⟩;rw[aZ,aZ];exact az q
 ·intro D T2
  exact ah ⟨_,_,_,_,_,t,s,N+1,s,u,f,_,l,_,.none,.none,rfl,rfl,rfl,y.sub up,λp q=>⟨num<|o p q,λa=>o p q⟩,λa=>z,up _ r,x,.inl rfl,by lia,λg L k j=>⟨λa a=>ah<|m j,λa a a a a a a=>ah<|m j⟩⟩
 ·intro k3 k4 Tr tx Y D T2
  exact ah ⟨_,_,_,_,_,t,s,N+1,s,u,f,_,l,_,.none,.none,rfl,rfl,rfl,y.sub up,λp q=>⟨num<|o p q,λa=>o p q⟩,λa=>z,up _ r,x,.inr<|iH _ _ _ _ _ rfl,by lia,λg L k j=>⟨λa a=>ah<|m j,λa a a a a a a=>ah<|m j⟩⟩
def iU(sub Z:Led)(l:WO)(a:List va)(n:Nat):Prop:=sub=[(l,aa a n)]\/(sub=[]/\(l,aa a n)∈Z)
theorem iU.get{sub Z:Led}(x:iU sub Z d a n)(D:Rep b h sub N)(c:ep b Z):h.get? d=some (aa a n):=by
 rcases x with rfl|⟨rfl,e⟩
 ·exact D.own (d,aa a n)<|.head _
 ·exact D.keep _ _<|c _ e
theorem kj{b l n j:Nat}{k:Int}{u:Nat}{a:List va}{y:va}{sub Z:Led}{c:aU}(s:iU sub Z l a n)(hk:k=j)(C:j<1000)(x:a[j]?=some y)(e:Led)(v:∀p∈e,p∈Z)(i:c (H7 y) (sub.map (·.2)) [] [] e):
  SP w b (.builtin "list.__getitem__" ⟨[.ref l,.int k u],[]⟩) sub Z c:=by
 refine SP.builtin Xy (by decide+kernel) λA z h N T g d G R B F E m D f=>?_
 have t:=s.get D m;have o:XY k=true:=fitsIndex_of (by lia) (by lia);show To _ _ (VY (.int k u)>>=_) _ _ _;refine SU<|YG o ?_;subst hk;show To _ _ ((seqItemAt l j>>=λr=>pure (r.map (j,·)))>>=_) _ _ _;refine SU<|SU<|wpAny_seqItemAt t rfl (Te ?_);rw[show(⟨a⟩:Array va)[j]?=some y by simpa using x];exact Te<|f _ _ _ _ _ _ _ _ _ i (by rw[aM]) (λp q=>az<|v p q)<|by rw[gz,aP,aP];exact D
theorem QK{sub Z:Led}(p:iU sub Z l (a++[y]) n)(hk:k=Int.negSucc 0)(j:c (H7 y) (sub.map (·.2)) [] [] []):
  SP w b (.builtin "list.__getitem__" ⟨[.ref l,.int k u],[]⟩) sub Z c:=by
 refine SP.builtin Xy (by decide+kernel) λA r h N T g d x R s v t m D f=>?_
 have q:=p.get D m;have o:XY k=true:=fitsIndex_neg (by lia) (by lia);show To _ _ (VY (.int k u)>>=_) _ _ _;refine SU<|YG o ?_;subst hk;show To _ _ ((Wj (.ref l)>>=λe=>pure ((seqIndex? (Int.negSucc 0) e.size).bind λi=>e[i]?.map (i,·)))>>=_) _ _ _;refine SU<|SU ?_;show To _ _ (X7 (.ref l)>>=_) _ _ _;refine bI q rfl (Te<|Te ?_);rw[show seqIndex? (Int.negSucc 0) (⟨a++[y]⟩:Array va).size=some a.length by
  rw[MeetsSeq.seqIndex_neg (by decide)<|by simp;lia];simp;lia]
 simp only[Option.bind_some,show(⟨a++[y]⟩:Array va)[a.length]?=some y by simp,Option.map_some];exact Te<|f.done j D
inductive jr(c:Td)(sub Z:Led)(k:Nat->Prop):Prop
 |mk (l) (u) (vs) (n) (a) (h0:c= .builtin "list.__getitem__" ⟨[.ref l,.int (Int.negSucc 0) u],[]⟩) (h1:iU sub Z l (vs++[.ref<|a+4]) n) (h2:k a):jr c sub Z k
def pN:aA:=λc sub Z b=>jr c sub Z λa=>b 0 (H7<|.ref<|a+4) (sub.map (·.2)) [] [] []
theorem ru:pN.Ok w b:=by
 rintro c sub Z e ⟨l,u,f,n,a,rfl,d,H⟩;exact QK d rfl ⟨0,H⟩
inductive tY(c:Td)(sub Z:Led)(k:Nat->Int->Nat->SX->Nat->Prop):Prop
 |mk (l) (j) (u) (vs) (n) (a) (m) (t) (s) (v) (h0:c= .builtin "list.__getitem__" ⟨[.ref l,.int (SR j) u],[]⟩) (h1:iU sub Z l vs n) (h2:j<1000) (h3:vs[j]?=some (.ref<|a+4)) (h4:(a+4,ag [.int m<|t+1,.str s<|v+1])∈Z) (h5:k a m t s v):tY c sub Z k
def qm:aA:=λc sub Z b=>tY c sub Z λa m t s v=>b 0 (H7<|.ref<|a+4) (sub.map (·.2)) [] [] [(a+4,ag [.int m<|t+1,.str s<|v+1])]
theorem z8:qm.Ok w b:=by
 rintro c sub Z h ⟨l,j,u,i,n,a,m,t,s,v,rfl,e,d,g,f,H⟩;exact kj e rfl d g _ (fc (f) fz) ⟨0,H⟩
def aK(x left:Int):S9:=av "range_iterator" [Wy x,Wy left,Wy 1]
inductive Bl(c:Td)(sub:Led)(k0:Int->Int->Nat->Prop)(k1:Int->Int->Nat->Prop):Prop
 |mk (it) (x) (left) (h0:c= .builtin "range_iterator.__next__" ⟨[.ref it],[]⟩) (h1:sub=[(it,aK x left)]) (h2:0<left->∀t,k0 x left t) (h3:left<=0->∀e,k1 x left e):Bl c sub k0 k1
def Fo:aA:=λc sub Z a=>Bl c sub (λx left t=>a 0 (H7<|.int x<|t+1) [aK (x+1)<|left-1] [] [] []) λx left e=>a 1 (.error<|.ref<|e+5) [aK x left] [(e+4,ag []),(e+5,cm e)] [] []
theorem yo:Fo.Ok w b:=by
 rintro c sub Z H ⟨a,x,left,rfl,rfl,n,p⟩;by_cases C:0<left
 ·refine SP.meets XR (by decide+kernel) (ZE a x left 1 (by lia)) λA z h N T g d k R hk y D e=>⟨D.own (a,aK x left)<|.head _,?_⟩;have r:([(a,aK x left)]:Led)[0]?=some (a,aK x left):=rfl;have l:=D.update (f:=Tc λv=>v.setIfInBounds 0<|Wy<|x+1) r rfl;have u:(setAt [(a,aK x left)] 0<|Tc (λv=>v.setIfInBounds 0<|Wy<|x+1)<|aK x left)[0]?=some (a,Tc (λv=>v.setIfInBounds 0<|Wy<|x+1)<|aK x left):=rfl;have m:=l.update (f:=Tc λv=>v.setIfInBounds 1<|Wy<|left-1) u rfl;exact e _ [aK (x+1)<|left-1] [] [] [] _ N (T+1) g ⟨0,n C T⟩ rfl (λG q=>nomatch q) (by rw[aP,aP];exact m)
 ·refine SP.kN XR (by decide+kernel) λA z h N T g d k R B I J hk y D e=>?_
  have i:h.get? a=some (aK x left):=D.own (a,aK x left)<|.head _;show To _ _ (field (.ref a) 0>>=_) _ _ _;refine bF i rfl (x:=Wy x) rfl ?_;show To _ _ (field (.ref a) 1>>=_) _ _ _;refine bF i rfl (x:=Wy left) rfl ?_;show To _ _ (field (.ref a) 2>>=_) _ _ _;refine bF i rfl (x:=Wy 1) rfl ?_;show To _ _ (if left<=0 then _ else _) _ _ _;rw[if_pos<|by exact V5.mp ‹_›];refine bR ?_;refine aw D.d3 λt E=>?_;subst E
  refine SU (ke (t:=t) (s:=⟨h,g,d,T+1,k⟩) B D.size ?_);have j:=(D.alloc (o:=ag []) rfl).alloc (o:=cm t) rfl;refine e (.error<|.ref<|t+5) [aK x left] [(t+4,ag []),(t+5,cm t)] [] [] _ (t+6) T g ⟨1,p (by exact V5.mp ‹_›) t⟩ rfl (λG q=>nomatch q) ?_;rw[aP];rw[aZ] at j;exact j
inductive oj(c:Td)(sub:Led)(k0:Int->Int->Nat->Prop):Prop
 |mk (it) (x) (left) (h0:c= .builtin "range_iterator.__next__" ⟨[.ref it],[]⟩) (h1:sub=[(it,aK x left)]) (h2:0<left) (h3:∀t,k0 x left t):oj c sub k0
def jM:aA:=λc sub Z a=>oj c sub λx left t=>a 0 (H7<|.int x<|t+1) [aK (x+1)<|left-1] [] [] []
theorem sS:jM.Ok w b:=by
 rintro c sub Z d ⟨a,x,left,rfl,rfl,e,H⟩;exact yo _ _ _ _ ⟨a,x,left,rfl,rfl,λf=>H,λh=>absurd h<|by lia⟩
inductive ot(c:Td)(sub:Led)(k1:Int->Int->Nat->Prop):Prop
 |mk (it) (x) (left) (h0:c= .builtin "range_iterator.__next__" ⟨[.ref it],[]⟩) (h1:sub=[(it,aK x left)]) (h2:left<=0) (h3:∀e,k1 x left e):ot c sub k1
def pU:aA:=λc sub Z a=>ot c sub λx left e=>a 0 (.error<|.ref<|e+5) [aK x left] [(e+4,ag []),(e+5,cm e)] [] []
theorem qI:pU.Ok w b:=by
 rintro c sub Z f ⟨g,x,left,rfl,rfl,k,H⟩;have z:=yo (b:=b) _ _ Z (λi r o n F d=>f (i-1) r o n F d) ⟨g,x,left,rfl,rfl,λh=>absurd h<|by lia,λa e=>H e⟩;refine z.mono ar (λa q=>q) ?_;rintro r m l F d a j a;refine aw j λi h=>?_
 exact⟨_,h⟩
inductive rR(c:Td)(r:Bool)(k:Prop):Prop
 |mk (a) (b) (t) (u) (h0:c= .builtin "int.__ge__" ⟨[.int a t,.int b u],[]⟩) (h1:decide (b<=a)=r) (h2:k):rR c r k
def zE(r:Bool):aA:=λc sub Z a=>rR c r (a 0 (H7<|.bool r) (sub.map (·.2)) [] [] [])
theorem LJ:(zE r).Ok w b:=by
 rintro c sub Z e ⟨a,d,t,u,rfl,f,H⟩;exact SP.val F.entry_int_ge (by decide+kernel) (YX _ _ _ _) ⟨0,by show e 0 (H7<|.bool<|decide (d<=a)) _ _ _ _;rw[f];exact H⟩
noncomputable def pushS(S:bt)(s:SX)(t:Nat):bt:=⟨S.ln,S.aN,S.ps++[(s,t)]⟩
theorem HW(c:b+40<=960)(g:∀p∈bp P,p∈Z)(f:S.ps.length<=1000):
  SP w b (.call (.ref 97) ⟨[.ref<|P.rd+4,.str s<|t+1],[]⟩) (jj P S a n m) Z λr i h F j=>Rv .none (mq P (pushS S s t) a n<|m+1) r i h F j:=by
 have d:∀C∈[jN],aA.Ok w 960 C:=aj pH ay;refine Ih _ c (zd rfl) d g λl o N T e=>ah ⟨⟨rfl,b6<|by unfold b7;rw[aM];exact f⟩,λk k=>?_⟩;refine Rv.mk ?_;unfold mq pushS b7;rw[mapA];rfl
inductive mF(P:aE)(c:Td)(sub Z:Led)(k:bt->Nat->Nat->Nat->Prop):Prop
 |mk (S) (s) (t) (a) (n) (m) (h0:c= .call (.ref 97) ⟨[.ref<|P.rd+4,.str s<|t+1],[]⟩) (h1:∀p∈bp P,p∈Z) (h2:sub=jj P S a n m) (h3:S.ps.length<=1000) (h4:k (pushS S s t) a n (m+1)):mF P c sub Z k
def xQ(P:aE):aA:=λc sub Z a=>mF P c sub Z λS b n m=>a 0 (H7 .none) [aO P S.ln b,aa (aC S.aN) n,aa (b7 S.ps) m] [] [] []
theorem mF.dD{k:bt->Nat->Nat->Nat->Prop}(c:∀p∈bp P,p∈Z)(b:S.ps.length<=1000)(h:k (pushS S s t) a n (m+1)):
  mF P (.call (.ref 97) ⟨[.ref<|P.rd+4,.str s<|t+1],[]⟩) (jj P S a n m) Z k:=⟨S,s,t,a,n,m,rfl,c,rfl,b,h⟩
theorem GF(e:b+40<=960):(xQ P).Ok w b:=by
 rintro c sub Z o ⟨S,s,t,x,n,m,rfl,g,rfl,f,H⟩;refine(HW e g f).mono ar (λd q=>q) ?_;rintro r u p F v d a d;refine gb a λh i j k l=>?_;clear a;subst h i j k l
 exact⟨0,H⟩
def bC(o:S9):Prop:=o=We ⟨[]⟩\/∃c,o=We ⟨[.int 13 0,.int 42 0,.ref<|c+4]⟩
structure R4 where
 a:Int
 b:Int
 c:Int
 d:Int
noncomputable def jg(r:R4):Tg:=.tuple [.int r.a,.int r.b,.int r.c,.int r.d]
def dW(d:Tg):Prop:=∃r,d=jg r
inductive vx(c:Td)(sub Z:Led)(k:Nat->Led->S9->Prop):Prop
 |mk (t) (s) (tk) (a) (tb) (h0:c=xa t s) (h1:sub=[(23,tb)]) (h2:bC tb) (h3:Tells Z (.ref<|t+4) (.dict<|bu tk)) (h4:Tells Z (.ref<|s+4) (.dict<|bu a)) (h5:∀p∈tk,dW p.2) (h6:∀p∈a,dW p.2) (h7:tk.length+a.length<=900) (h8:∀d F b,bC b->Tells (F++Z) (.ref<|d+4) (.dict<|bu<|dA tk a)->k d F b):vx c sub Z k
def vj:aA:=λc sub Z a=>vx c sub Z λd F b=>a 0 (H7<|.ref<|d+4) [b] [] F []
inductive qM(c:Td)(sub Z:Led)(k:Nat->Led->Prop):Prop
 |mk (t) (s) (tk) (a) (h0:c=xa t s) (h1:sub=[]) (h2:Tells Z (.ref<|t+4) (.dict<|bu tk)) (h3:Tells Z (.ref<|s+4) (.dict<|bu a)) (h4:∀p∈tk,∃i,p.2= .int i) (h5:∀p∈a,∃i,p.2= .int i) (h6:tk.length+a.length<=900) (h7:∀d F,Tells (F++Z) (.ref<|d+4) (.dict<|bu<|dA tk a)->k d F):qM c sub Z k
def wH:aA:=λc sub Z a=>qM c sub Z λd F=>a 0 (H7<|.ref<|d+4) [] [] F []
theorem yr(k:b+80<=960):wH.Ok w b:=by
 rintro c sub Z l ⟨t,s,u,p,rfl,rfl,e,f,g,h,i,H⟩;refine(OS k e f g h i).mono ar (λa q=>q) ?_;rintro r n m F o a ⟨d,rfl,rfl,rfl,rfl,j⟩ a;exact⟨0,H d F j⟩
def og(r:R4)(kv:KV):Tg:=.tuple [.int r.a,.int r.b,.int r.c,.int r.d,.dict<|bu kv]
def Mr(f e m j:Nat)(x y:R4)(k:S9):Q7:=λo p N T Z b R=>ae [5,4,5,1,6,1,6,1,6,1,6,1,6,1,2,1,11,4,5,1,6,1,6,1,6,1,6,1,6,1,2,1,20] [N,e,N+1,e,N+1,e,N+1,e,N+1,e,N+1,e,N+1,e,N+1,N+3,N,f,N+4,f,N+4,f,N+4,f,N+4,f,N+4,f,N+4,f,N+4,N+6,N]<|vx (cp 28 [.ref<|m+4,.ref<|j+4]) [(23,k)] Z (λi h l=>∀g n:Nat,R (H7<|.ref<|g+4) [l] [] ([(g+4,ag [.int (y.a+x.a)<|T+13,.int (y.b+x.b)<|T+14,.int (y.c+x.c)<|T+15,.int (y.d+x.d)<|T+16,.ref<|i+4])]++(h++[])) [])
theorem LP:CK w [(23,h)] [(f+4,ag [.int x.a<|j+1,.int x.b<|k+1,.int x.c<|l+1,.int x.d<|m+1,.ref<|i+4]),(e+4,ag [.int y.a<|n+1,.int y.b<|o+1,.int y.c<|p+1,.int y.d<|q+1,.ref<|g+4])] [vj] (Vh (.ref 21) ⟨[.ref<|f+4,.ref<|e+4],[]⟩) (Mr f e i g x y h):=aV 85 182 0x19db6b3ae156082a7fd73c1e72a8267f18e3141fa89e1a7a552d506c0cee1b3c76a3a66b81b84dc8dff94c42981944e3ab6095cdd308a8d3f8e2f542fd92a9400a55d3d405c0823407aa6ce8f5463ade52a0c86a05a5320d2ee2ea3cce2514565e0a63000071e387e0880d07fb21e1026385e75c61eb3183ae77c41656a641d88b2ce1429e2c14139e7ee3991526c4b86b
noncomputable def tT(y x:R4):R4:=⟨y.a+x.a,y.b+x.b,y.c+x.c,y.d+x.d⟩
inductive rK(c:Td)(sub Z:Led)(k:Nat->Led->S9->Prop):Prop
 |mk (t) (s) (x) (y) (tk) (a) (tb) (h0:c= .call (.ref 21) ⟨[.ref<|t+4,.ref<|s+4],[]⟩) (h1:sub=[(23,tb)]) (h2:bC tb) (h3:Tells Z (.ref<|t+4) (og x tk)) (h4:Tells Z (.ref<|s+4) (og y a)) (h5:∀p∈tk,dW p.2) (h6:∀p∈a,dW p.2) (h7:tk.length+a.length<=900) (h8:∀d F b,bC b->Tells (F++Z) (.ref<|d+4) (og (tT y x)<|dA tk a)->k d F b):rK c sub Z k
def kY:aA:=λc sub Z a=>rK c sub Z λd F b=>a 0 (H7<|.ref<|d+4) [b] [] F []
theorem qK(h:Tells Z (.ref<|t+4) (og x kv)):∃i j k l c,(t+4,ag [.int x.a<|i+1,.int x.b<|j+1,.int x.c<|k+1,.int x.d<|l+1,.ref<|c+4])∈Z/\Tells Z (.ref<|c+4) (.dict<|bu kv):=by
 refine Tells.qy (show Tells Z (.ref<|t+4) (.tuple [.int x.a,.int x.b,.int x.c,.int x.d,.dict<|bu kv]) from h) (λa o e g r=>?_) (λf f f f f f f f f e=>nomatch e) λf f e=>nomatch e
 cases e
 exact r.jU (λv=>(t+4,ag v)∈Z) g λi f g r=>r.jU (λv=>(t+4,ag (_::v))∈Z) g λj f g r=>r.jU (λv=>(t+4,ag (_::_::v))∈Z) g λk f g r=>r.jU (λv=>(t+4,ag (_::_::_::v))∈Z) g λl f g r=>
  r.lW (λv=>(t+4,ag (_::_::_::_::v))∈Z) g λv f h g r=>r.tC (λv=>(t+4,ag (_::_::_::_::_::v))∈Z) g λg=>by
   refine hide λQ m=>cw h.fE λc f n f=>?_;subst n
   exact m<|(qr _ _ _ _ _ g h)
theorem Fn(p:a+40<=b)(r:b<1000)(n:vj.Ok w b):kY.Ok w a:=by
 rintro Y sub Z S ⟨t,s,x,y,L,C,d,rfl,rfl,z,i,j,k,l,m,H⟩;refine hide λQ o=>iS (qK i) λD E G I e A g=>iS (qK j) λM O P R c B h=>o<|LP b p r (aj n ay) (aq A<|aq B ax) λU V N T Ts=>ah ⟨e,c,L,C,d,rfl,rfl,z,g,h,k,l,m,λTr F J v u f T2=>⟨0,H f _ J v ?_⟩⟩;refine .tup (bq<|.head _)<|.cons (.int _ _)<|.cons (.int _ _)<|.cons (.int _ _)<|.cons (.int _ _)<|.cons (u.sub λTt q=>?_) .nil;simp only[VK] at q⊢;rcases q with q|q<;>simp[q]
def tS:Wq:=bJ (b4 130) 2
def xD:Wq:=bJ (cR tS) 2
structure dq where
 fa:Nat
 nm:Nat
 cl:Nat
 bo:Nat
 ta:Nat
 k0:Nat
 k1:Nat
 k2:Nat
 k3:Nat
 k4:Nat
 m6:Nat
 nq:Nat
 oi:Nat
 cn:Nat
 fZ:List va
 f9:List SS
 fW:List SS
structure ia where
 ri:Nat
 on:Nat
 ln:Nat
 vJ:Nat
 fC:List va
 k5:Nat
 k6:Nat
 k7:Nat
 k8:Nat
 sh:Int
 ts:Nat
 aD:SX
 tw:Nat
 q:R4
 q0:Nat
 q1:Nat
 q2:Nat
 q3:Nat
def CQ(Y:ia):S9:=ag [.int Y.q.a<|Y.q0+1,.int Y.q.b<|Y.q1+1,.int Y.q.c<|Y.q2+1,.int Y.q.d<|Y.q3+1]
def cg(P:aE)(X:dq):List SS:=[ent "reader" X.k0<|.ref<|P.rd+4,ent "names" X.k1<|.ref<|X.nm+4,ent "calls" X.k2<|.ref<|X.cl+4,ent "books" X.k3<|.ref<|X.bo+4,ent "tables" X.k4<|.ref<|X.ta+4]
def dj(Y:ia):List SS:=[ent "share" Y.k5<|.int Y.sh<|Y.ts+1,ent "who" Y.k6<|.str Y.aD<|Y.tw+1,ent "one" Y.k7<|.ref<|Y.on+4,ent "line" Y.k8<|.ref<|Y.ln+4]
def kO(a b c d:Nat)(e f g h:va):List SS:=[ent "share" a e,ent "who" b f,ent "one" c g,ent "line" d h]
def fD(c a b:Nat)(f d e:va):List SS:=[ent "k" c f,ent "need" a d,ent "name" b e]
def j9(a:Nat)(b:va):List SS:=[ent "row" a b]
theorem SP.perm{L L' Z:Led}(H:L'.Perm L)(h:SP w b c L' Z l)
  (y:∀r i a F j,i.length=L'.length->l r i a F j->∃f,f.length=L.length/\(a8 L f).Perm (a8 L' i)/\k r f a F j):SP w b c L Z k:=by
 intro A B u N T g d M E C J hk x D R z;refine h A B u N T g d M E C J hk x (D.perm H) R ?_;intro r i a F j v o s t n G I m;exact dB (y r i a F j G n) λf e p q=>z r f a F j v o s t q e I (m.perm<|(p.append_right a).append_right F)
def bZ(ps:List (SX×Nat))(a:SX->List va)(ne:SX->Nat):Led:=ps.map λp=>(p.2+4,aa (a p.1)<|ne p.1)
def c7(ps:List (SX×Nat))(a:SX->List va)(ne:SX->Nat):List S9:=ps.map λp=>aa (a p.1)<|ne p.1
theorem jt:∀(A B:Led) (a b:List S9),a.length=A.length->a8 (A++B) (a++b)=a8 A a++a8 B b:=by
 intro A;induction A with
 |nil=>exact fun
  |B,[],b,_=>rfl
  |_,_::_,_,h=>nomatch h
 |cons p A c=>exact fun
  |_,[],_,h=>nomatch h
  |B,o::a,b,h=>by
   show(p.1,o)::a8 (A++B) (a++b)=(p.1,o)::(a8 A a++a8 B b);rw[c B a b<|by simpa using h]
theorem kI(c b:SX->List va)(ne a:SX->Nat):∀ps:List (SX×Nat),a8 (bZ ps c ne) (c7 ps b a)=bZ ps b a:=by
 intro ps;induction ps with
 |nil=>exact rfl
 |cons p ps d=>
  show(p.2+4,aa (b p.1)<|a p.1)::a8 (bZ ps c ne) (c7 ps b a)=_;rw[d];rfl
noncomputable def bG{a:Type}(f:SX->a)(x:SX)(v:a):SX->a:=λy=>if y=x then v else f y
theorem iy{a:Type}(f:SX->a)(x:SX)(v:a):bG f x v x=v:=if_pos rfl
theorem fV{a:Type}(f:SX->a)(v:a)(h:y≠x):bG f x v y=f y:=if_neg h
structure bU where
 ps:List SX
 bk:SX->List (R4×KV)
 tb:SX->List KV
def gk(e:R4×KV):Tg:=og e.1 e.2
def gE(t:KV):Tg:=.dict<|bu t
noncomputable def e6(l:List (R4×KV)):R4×KV:=l.getLastD (⟨0,0,0,0⟩,[])
noncomputable def fG(l:List KV):KV:=l.getLastD []
noncomputable def p9(q:R4):R4:=⟨q.b,q.a,q.c,q.d⟩
def jE(one:R4)(a:SX)(e:R4×KV):R4×KV:=(tT one e.1,dA e.2 [(a,jg<|p9 one)])
def iu(c:Int)(b:SX)(one:R4)(k:Nat)(a:Int×SX)(s:bU):bU:=
 if 4-c<=(k:Int) then⟨s.ps++[a.2,dig (a.1-1).toNat],bG s.bk a.2<|s.bk a.2++[jE one b<|e6<|s.bk a.2],bG s.tb b<|s.tb b++[dA (fG<|s.tb b) [(a.2,.int 1)]]⟩
 else⟨s.ps++[a.2,dig a.1.toNat],s.bk,s.tb⟩
def gG(a:Int)(b:SX)(one:R4):Nat->List (Int×SX)->bU->bU
 |_,[],s=>s
 |k,c::r,s=>gG a b one (k+1) r<|iu a b one k c s
def bU.Inv(s:bU)(B:Nat):Prop:=(∀x,s.bk x≠[]/\(s.bk x).length<=B/\∀e∈s.bk x,(∀p∈e.2,dW p.2)/\e.2.length<=B)/\(∀x,s.tb x≠[]/\(s.tb x).length<=B/\∀t∈s.tb x,(∀p∈t,∃i,p.2= .int i)/\t.length<=B)
theorem Ir(a:KV)(p:SX×Tg):(cP a p).length<=a.length+1:=by
 unfold cP;split<;>exact z9 _ _ _
theorem MU:∀(l a:KV),(l.foldl cP a).length<=a.length+l.length:=by
 intro l;induction l with
 |nil=>intro a;exact VA _
 |cons q l b=>
  intro a;exact SQ (b<|cP a q)<|SQ (Tq (Ir a q) _)<|Th<|Vt _ 1 _
theorem AM(t s:KV):(dA t s).length<=t.length+s.length:=by
 have a:=MU s<|th t;have b:=wG t [];unfold dA;unfold th at a⊢;simp only[Yw] at b;lia
theorem Q6(P:Tg->Prop)(f:∀a b,P a->P b->P (dh a b)):∀(l c:KV),(∀p∈l,P p.2)->(∀p∈c,P p.2)->∀p∈l.foldl cP c,P p.2:=by
 intro l;induction l with
 |nil=>intro c i h;exact h
 |cons q l g=>
  intro c d h;refine g (cP c q) (λp r=>d p<|.tail _ r) ?_;unfold cP;cases e:cM q.1 c with
  |none=>exact pa P h<|d q<|.head _
  |some o=>exact pa P h<|f _ _ (d q<|.head _)<|rM P h e
theorem yA(P:Tg->Prop)(c:∀a b,P a->P b->P (dh a b))(e:∀p∈t,P p.2)(d:∀p∈s,P p.2):∀p∈dA t s,P p.2:=
 Q6 P c s _ d (uO P t [] e λf h=>nomatch h)
theorem Oo(a b:Tg):dW a->dW b->dW (dh a b):=by
 rintro f g;refine aw f λx e=>?_;clear f;subst e;refine aw g λy e=>?_;clear g;subst e;exact⟨⟨x.a+y.a,x.b+y.b,x.c+y.c,x.d+y.d⟩,rfl⟩
theorem Nt(a b:Tg):(∃i,a= .int i)->(∃i,b= .int i)->∃i,dh a b= .int i:=by
 rintro d e;refine aw d λx c=>?_;clear d;subst c;refine aw e λy c=>?_;clear e;subst c;exact⟨_,rfl⟩
theorem CR{l:List (R4×KV)}(h:l≠[]):∃a,l=a++[e6 l]:=by
 refine⟨l.dropLast,?_⟩;unfold e6;rw[ZR,Ze h];exact(Zj h).symm
theorem Cj{l:List KV}(h:l≠[]):∃a,l=a++[fG l]:=by
 refine⟨l.dropLast,?_⟩;unfold fG;rw[ZR,Ze h];exact(Zj h).symm
theorem bU.Inv.turn{s:bU}(h:s.Inv B)(n:Int)(g:SX)(one:R4)(k:Nat)(f:Int×SX):(iu n g one k f s).Inv (B+1):=by
 have up:∀{a:Nat},a<=B->a<=B+1:=λx=>Ve x
 have base:s.Inv (B+1):=⟨λx=>⟨(h.1 x).1,up (h.1 x).2.1,λe b=>⟨((h.1 x).2.2 e b).1,up ((h.1 x).2.2 e b).2⟩⟩,λx=>⟨(h.2 x).1,up (h.2 x).2.1,λe b=>⟨((h.2 x).2.2 e b).1,up ((h.2 x).2.2 e b).2⟩⟩⟩;unfold iu;split
 ·refine⟨λx=>?_,λx=>?_⟩
  ·dsimp only[bG]
   split
   ·have c:=h.1 f.2
    refine⟨by simp,by rw[Vd];exact Vk c.2.1,λe b=>?_⟩;rcases bB b with b|b
    ·exact(base.1 f.2).2.2 e b
    ·rcases dg b with rfl
     refine aw (CR c.1) λm l=>?_
     have j:=c.2.2 (e6<|s.bk f.2) (by have z:=VP m<|Xq<|e6<|s.bk f.2;rwa[<-l] at z);refine⟨yA dW Oo j.1<|fc (⟨_,rfl⟩) fz,?_⟩;have:=AM (e6<|s.bk f.2).2 [(g,jg<|p9 one)];simp only[bT,Yw] at this;exact SQ this (Vk j.2)
   ·exact base.1 x
  ·dsimp only[bG]
   split
   ·have c:=h.2 g
    refine⟨by simp,by rw[Vd];exact Vk c.2.1,λe b=>?_⟩;rcases bB b with b|b
    ·exact(base.2 g).2.2 e b
    ·rcases dg b with rfl
     refine aw (Cj c.1) λm l=>?_
     have j:=c.2.2 (fG<|s.tb g) (by have z:=VP m<|Xq<|fG<|s.tb g;rwa[<-l] at z);refine⟨yA (λd=>∃i,d= .int i) Nt j.1<|fc (⟨_,rfl⟩) fz,?_⟩;have:=AM (fG<|s.tb g) [(f.2,.int 1)];exact SQ this (Vk j.2)
   ·exact base.2 x
 ·exact base
structure nW(P:aE)(Z:Led)(X:dq)(Y:ia)(bs ts:List (SX×Nat))(all:List (Int×SX)):Prop where
 ro:∀p∈bp P,p∈Z
 bo:(X.bo+4,ab X.f9 X.m6)∈Z
 bk:StrKeys X.f9
 bf:∀p∈bs,bY p.1 X.f9=some (.ref<|p.2+4)
 ta:(X.ta+4,ab X.fW X.nq)∈Z
 tk:StrKeys X.fW
 tf:∀p∈ts,bY p.1 X.fW=some (.ref<|p.2+4)
 on:(Y.on+4,CQ Y)∈Z
 ln:(Y.ln+4,aa Y.fC Y.vJ)∈Z
 it:ak Z Y.fC (all.map item)
 all:all.length<=900
theorem nW.up{P:aE}{Z Z':Led}{X:dq}{Y:ia}{a b bs' ts':List (SX×Nat)}{all:List (Int×SX)}
  (h:nW P Z X Y a b all) (s:∀p∈Z,p∈Z') (c:∀p∈bs',p∈a) (d:∀p∈ts',p∈b):nW P Z' X Y bs' ts' all:=
 ⟨λp q=>s _<|h.ro p q,s _ h.bo,h.bk,λp q=>h.bf p<|c p q,s _ h.ta,h.tk,λp q=>h.tf p<|d p q,s _ h.on,s _ h.ln,h.it.sub s,h.all⟩
def kW(P:aE)(X:dq)(Y:ia):Led:=bp P++[(X.bo+4,ab X.f9 X.m6),(X.ta+4,ab X.fW X.nq),(Y.ln+4,aa Y.fC Y.vJ),(Y.on+4,CQ Y)]
theorem nW.shown{all:List (Int×SX)}(C:nW P Z X Y a b all):∀p∈kW P X Y,p∈Z:=
 λp h=>(bB h).elim (C.ro p)<|aq C.bo (aq C.ta<|aq C.ln<|aq C.on ax) p
inductive QW(B:List SS)(fr:S9):Prop
 |mk (c a b d v10 v11) (e:fr=ao (B++fD c a b d v10 v11) 12)
inductive I7(B:List SS)(fr:S9):Prop
 |mk (d a b g v10 v11 c f) (e:fr=ao (B++fD d a b g v10 v11++j9 c f) 13)
def iO(B:List SS)(a:S9):Prop:=a=ao B 9\/QW B a\/I7 B a
def hV(Z:Led)(b:List (SX×Nat))(c:SX->List va)(a:SX->List (R4×KV)):Prop:=∀p∈b,ak Z (c p.1)<|(a p.1).map gk
def hJ(Z:Led)(b:List (SX×Nat))(c:SX->List va)(a:SX->List KV):Prop:=∀p∈b,ak Z (c p.1)<|(a p.1).map gE
abbrev ie(X:dq)(Y:ia):Td:=aS xD (.ref<|Y.ri+4)<|aT 130<|X.fa+4
def dY(P:aE)(X:dq)(Y:ia)(S:bt)(d n m:Nat)(a b c:S9):Led:=[(P.d1+4,aO P S.ln d),(P.lf+4,aa (aC S.aN) n),(P.pb+4,aa (b7 S.ps) m),(X.fa+4,a),(Y.ri+4,b),(23,c)]
def iV(P:aE)(S:bt)(d n m:Nat)(a b c:S9):List S9:=[aO P S.ln d,aa (aC S.aN) n,aa (b7 S.ps) m,a,b,c]
inductive zN(P:aE)(B:List SS)(bs ts:List (SX×Nat))(ln:Int)(aN:List (Nat×Nat))(s:bU)(r:Vz)(objs:List S9)(new Z ro:Led):Prop
 |mk (h1:r= .ok .next/\new=[]/\ro=[]) (S a n m fr it tb vs ne lj oL) (h2:objs=iV P S a n m fr it tb++c7 bs vs ne++c7 ts lj oL) (h3:S.ln=ln/\S.aN=aN/\S.ps.map (·.1)=s.ps) (h4:bC tb) (h5:iO B fr) (h6:hV Z bs vs s.bk) (h7:hJ Z ts lj s.tb)
def j0(P:aE)(Z:Led)(B:List SS)(a e:List (SX×Nat))(c:Int)(b:List (Nat×Nat))(s:bU):aU:=λr o n F d=>zN P B a e c b s r o n (F++Z) d
theorem BJ{g:Int}(e:a=G++Z)(h:SP w b c L a (j0 P a B d j g f s)):
  SP w b c L a λr o n l i=>j0 P Z B d j g f s r o n (l++G) i:=by
 subst e;refine h.mono ar (λk q=>q) λr o n F i k h k=>?_
 show zN P B d j g f s r o n ((F++G)++Z) i;rw[aZ];exact h
theorem Eo{a e d f:List (SX×Nat)}{C:Int}{v u:SX->List va}{ne t:SX->Nat}
  (j:d.Perm a) (k:f.Perm e) (h:SP w b c (dY P X Y S o n m g i l++bZ d v ne++bZ f u t) Z (j0 P Z B d f C y s)):
  SP w b c (dY P X Y S o n m g i l++bZ a v ne++bZ e u t) Z (j0 P Z B a e C y s):=by
 refine SP.perm (L':=dY P X Y S o n m g i l++bZ d v ne++bZ f u t) (((Xp _).append<|j.map _).append<|k.map _) h ?_;rintro r Tr V F ro zu ⟨N,x,I,E,D,z,A,H,M,G,L,J,rfl,O,Q,R,T,U⟩;refine⟨iV P x I E D z A H++c7 a M G++c7 e L J,by simp[iV,dY,c7,bZ],?_,N,x,I,E,D,z,A,H,M,G,L,J,rfl,O,Q,R,λp q=>T p<|j.mem_iff.mpr q,λp q=>U p<|k.mem_iff.mpr q⟩;rw[jt _ _ _ _<|by simp[iV,dY,c7,bZ],jt _ _ _ _<|by simp[iV,dY],jt _ _ _ _<|by simp[iV,dY,c7,bZ],jt _ _ _ _<|by simp[iV,dY],kI,kI,kI,kI];exact((Xp _).append (j.map _).symm).append (k.map _).symm
theorem tE{b:Type}[DecidableEq b]{a:b}{l:List b}(h:a∈l):∃r,(a::r).Perm l/\r.length+1=l.length/\∀p∈r,p∈l:=
 aY (l.erase a) (List.perm_cons_erase h).symm (by rw[Z3 h];exact(kJ<|List.length_pos_of_mem h).symm) (λp q=>List.mem_of_mem_erase q)
def pw(P:aE)(S:bt)(a n m:Nat):Led:=[(P.d1+4,aO P S.ln a),(P.lf+4,aa (aC S.aN) n),(P.pb+4,aa (b7 S.ps) m)]
def oU(Y:ia)(a b:Nat):Led:=[(b+5,ag [.int Y.q.a<|Y.q0+1,.int Y.q.b<|Y.q1+1,.int Y.q.c<|Y.q2+1,.int Y.q.d<|Y.q3+1,.ref<|a+4]),(a+4,ab [⟨cu w Y.aD,.str Y.aD<|Y.tw+1,.ref<|a+5⟩] 1),(a+5,ag [.int Y.q.b<|Y.q1+1,.int Y.q.a<|Y.q0+1,.int Y.q.c<|Y.q2+1,.int Y.q.d<|Y.q3+1])]
def xG(s:SX)(v a t:Nat):Led:=[(a+4,ab [⟨cu w s,.str s<|v+1,.int 1<|t+1⟩] 1)]
section
variable(P:aE)(X:dq)(Y:ia)(S:bt)(n m g a b p q s t e f:Nat)(u v y A:Nat)(B C D E:va)(x left:Int)(i j k l h z:S9)(c d:List va)(Z:Led)
noncomputable def lz(o:Bool):List aA:=[jM,qm,pN,xQ P,zP,zE o,jx<|.ref<|a+4,jx<|.ref<|b+4,kY,wH,jN]
def jX(c d:List va)(e f:Nat):Led:=[(a+4,aa c e),(p+4,i),(q+4,j),(s+4,k),(b+4,aa d f),(t+4,l)]
def uM(G:Bool)(iv:Int->Int)(tv:Nat->Nat->Nat)(M:Int->Int->Nat->Nat->Int->Nat->SX->Nat->Nat->bt->Nat->Nat->Nat->Nat->Nat->Prop):Prop:=ae [2] [Y.ri]<|oj (bi "range_iterator.__next__" [.ref<|Y.ri+4]) [(Y.ri+4,aK x left)] (λF Ts w=>∀N5 T5:Nat,ae [4,4] [X.fa,Y.ln]<|tY (bi "list.__getitem__" [.ref<|Y.ln+4,.int F<|w+1]) [] Z (λr H J I L=>∀o Tr:Nat,ae [4,5,1,6,1,6,1,2,1,5,4,1,1] [r,o,r,o,r,o,r,o,o+2,X.fa,P.rd,P.d1,X.fa]<|mF P (cp 97 [.ref<|P.rd+4,.str I<|L+1]) (pw P S g n m) Z (λO Tz Tw Tt=>∀TC R:Nat,ae [1,4,1,2] [X.fa,P.rd,P.d1,X.fa]<|rR (bi "int.__ge__" [.int F<|w+1,.int (4-Y.sh)<|R+2]) G (∀TF T:Nat,ae [1] [X.fa]<|sF (Vh (.type "str")<|Yd [.int (iv H)<|tv J T+1] []) [] (λTu=>∀TB:Xi,∀TG TJ:Nat,mF P (cp 97 [.ref<|P.rd+4,.str (dig Tu)<|TB+1]) (pw P O Tz Tw Tt) Z (λQ TA Tx Tv=>∀TH U:Nat,ae [2] [X.fa]<|rR (bi "int.__ge__" [.int F<|w+1,.int (4-Y.sh)<|U+2]) G (∀N V:Nat,M F Ts w T5 H J I L Tr Q TA Tx Tv N V)))))))
def Bu(w:SX)(F r:Nat)(G:Nat->Nat->Led->S9->Prop):Prop:=ae [2,5,1,5,1,5,1,5,4,4,4] [X.fa,Y.on,X.fa,Y.on,X.fa,Y.on,X.fa,Y.on,r,X.fa,X.bo]<|jH (bi "dict.__getitem__" [.ref<|X.bo+4,.str w<|F+1]) [] Z (.ref<|a+4) (∀N T:Nat,ae [4,2,4] [a,X.fa,X.bo]<|jH (bi "dict.__getitem__" [.ref<|X.bo+4,.str w<|F+1]) [] Z (.ref<|a+4) (∀O I:Nat,ae [4] [a]<|jr (bi "list.__getitem__" [.ref<|a+4,.int (-1)<|I+2]) [(a+4,aa c e)] Z (λJ=>∀o U:Nat,ae [2,1,1,2,1,1,1] [X.fa,Y.on,o,Y.on,o,Y.on,o]<|rK (cp 21 [.ref<|J+4,.ref<|o+5]) [(23,h)] (oU Y r o++Z) (λL H M=>∀Q V:Nat,ae [1] [a] ((((a+4)=(a+4))/\(c.length<=VZ))/\∀R Tr:Nat,G o L H M)))))
def Aq(L:SX)(M:Nat)(G:Led)(w:Nat->Nat->Nat->Led->Prop):Prop:=ae [2,4] [X.fa,X.ta]<|jH (bi "dict.__getitem__" [.ref<|X.ta+4,.str Y.aD<|Y.tw+1]) [] (G++Z) (.ref<|b+4) (∀N T:Nat,ae [4,2,4] [b,X.fa,X.ta]<|jH (bi "dict.__getitem__" [.ref<|X.ta+4,.str Y.aD<|Y.tw+1]) [] (G++Z) (.ref<|b+4) (∀O H:Nat,ae [4] [b]<|jr (bi "list.__getitem__" [.ref<|b+4,.int (-1)<|H+2]) [(b+4,aa d f)] (G++Z) (λI=>∀o r:Nat,ae [1,4] [X.fa,o]<|qM (cp 28 [.ref<|I+4,.ref<|o+4]) [] ((xG L M o r++G)++Z) (λJ F=>∀Q U:Nat,ae [1] [b] ((((b+4)=(b+4))/\(d.length<=VZ))/\∀R V:Nat,w o r J F)))))
def sE(L:Int->Nat->Nat->Int->Nat->SX->Nat->Nat->Nat->Nat->S9)(I:bt->Nat->Nat->Nat->S9->S9->S9->Nat->Nat->Led->Prop):Prop:=uM P X Y S n m g x left Z true (λm=>m-1) (λzu T=>T+1) λH Tr t5 T5 Tt Tv r w Q N Tx Tu Ts o O=>Bu X Y a e h c Z r w o λG U F Tw=>Aq X Y b f d Z r w (F++oU Y o G) λM R V J=>I N Tx Tu Ts (L H t5 T5 Tt Tv r w Q O o) (aK (H+1)<|Tr-1) Tw U V<|J++(xG r w M R++(F++oU Y o G))
def sC(F:Int->Nat->Nat->Int->Nat->SX->Nat->Nat->S9)(w:bt->Nat->Nat->Nat->S9->S9->Prop):Prop:=uM P X Y S n m g x left Z false (λm=>m) (λO r=>O) λo I R T5 L Q N U H G T M J r r=>w G T M J (F o R T5 L Q N U H)<|aK (o+1)<|I-1
def vt:Bool->Bool->Led->Nat->aU->bt->Nat->Nat->Nat->S9->S9->S9->Nat->Nat->Led->Prop:=λI J Z H R S g n m z N h L M G=>SP (br I J w) H (ie X Y) (dY P X Y S g n m z N h++jX a b p q s t i j k l (c++[.ref<|L+4]) (d++[.ref<|M+4]) (e+1) (f+1)) (G++Z) λr o n F O=>R r o n (F++G) O
def uT:Bool->Bool->Led->Nat->aU->bt->Nat->Nat->Nat->S9->S9->Prop:=λH I Z G R S g n m z J=>SP (br H I w) G (ie X Y) (dY P X Y S g n m z J h++jX a b p q s t i j k l c d e f) Z λr o n F L=>R r o n (F++[]) L
def Pt:Q7:=λG H N T Z F R=>sE P X Y S n m g a b e f x left h c d Z (λQ M T5 I L J O o w r=>ao (cg P X++dj Y++fD T5 o (o+1) (.int Q<|M+1) (.int I<|L+1) (.str J<|O+1)++j9 (w+5) (.ref<|r+4)) 13) (vt P X Y a b p q s t e f i j k l c d G H Z F R)
noncomputable def ug:Nat:=0x82cad45c48eae3409586dec9a4cce8a6dde3e75557d01cba377c06614e3bade74f4dc1d7fb46614e2dc0dd5640c4d83bb2746e1047562d453c3d6380da8cd175341dc9993d93b6c4c724c73d99d09e40ef653a9c4c5e3400e04c368ca72bee5b27d0be52cba12d52b001c59f3897a62b6fc937ebf8e560fc525592c686e7bb972f52633d6bd5c9a7a667cad25c3c90a8326ffae7fa6c0bfd4ec7c8d3334bc6c12c8bd0adaf03480e406841caf591ed743fcea310ada0912587d2fdc33f09746de191d1c7e5db5fc0f5154145c4b1e841195ca561a23f89535d7e5e037d3714395b67acbd803e599ba4323be7f73bd52ae97671261c394bd64955ee207281ccbbfcae56ffe9039126fd229b1c27773669db61a8cd6704e116dad2a394c81e2dbbf907c96a0e13e1697980501826
theorem Mh:CK w (dY P X Y S g n m (ao (cg P X++dj Y) 9) (aK x left) h++jX a b p q s t i j k l c d e f) (kW P X Y) (lz P a b true) (ie X Y) (Pt P X Y S n m g a b p q s t e f x left i j k l h c d):=aV 301 294 ug
def K1:Q7:=λF G N T Z w R=>sE P X Y S n m g a b e f x left h c d Z (λO L T5 H J I M Q r o=>ao (cg P X++dj Y++fD u v y (.int O<|L+1) (.int H<|J+1) (.str I<|M+1)++j9 (r+5) (.ref<|o+4)) 13) (vt P X Y a b p q s t e f i j k l c d F G Z w R)
theorem L7:CK w (dY P X Y S g n m (ao (cg P X++dj Y++fD u v y B C D) 12) (aK x left) h++jX a b p q s t i j k l c d e f) (kW P X Y) (lz P a b true) (ie X Y) (K1 P X Y S n m g a b p q s t e f u v y x left i j k l h c d):=aV 301 294 ug
def Je:Q7:=λw F N T Z r R=>sE P X Y S n m g a b e f x left h c d Z (λM J T5 G I H L Q O o=>ao (cg P X++dj Y++fD u v y (.int M<|J+1) (.int G<|I+1) (.str H<|L+1)++j9 A (.ref<|o+4)) 13) (vt P X Y a b p q s t e f i j k l c d w F Z r R)
theorem Rr:CK w (dY P X Y S g n m (ao (cg P X++dj Y++fD u v y B C D++j9 A E) 13) (aK x left) h++jX a b p q s t i j k l c d e f) (kW P X Y) (lz P a b true) (ie X Y) (Je P X Y S n m g a b p q s t e f u v y A x left i j k l h c d):=aV 301 294 ug
def Lv:Q7:=λw F N T Z r R=>sC P X Y S n m g x left Z (λM J T5 G I H L o=>ao (cg P X++dj Y++fD T5 o (o+1) (.int M<|J+1) (.int G<|I+1) (.str H<|L+1)) 12) (uT P X Y a b p q s t e f i j k l h c d w F Z r R)
noncomputable def xb:Nat:=0x1a2f6f792f4faf0dafe5f9d7b9204946cc4ed06853d872342fd6a7b4b5587abd3211f952b1aa29387d8ce6da5c327f438798a1dc5926047e42dce434558571b389dd58468baf3b4457cbf74aad375d3979ed61464267be945bbc103e8eacde8185e351c51e1e99b155d5043b29fcc2d047959c4dcddcbb9b95f8045f6b580ce680c129f88
theorem Q9:CK w (dY P X Y S g n m (ao (cg P X++dj Y) 9) (aK x left) h++jX a b p q s t i j k l c d e f) (kW P X Y) (lz P a b false) (ie X Y) (Lv P X Y S n m g a b p q s t e f x left i j k l h c d):=aV 301 130 xb
def LI:Q7:=λr w N T Z o R=>sC P X Y S n m g x left Z (λL I T5 F H G J M=>ao (cg P X++dj Y++fD u v y (.int L<|I+1) (.int F<|H+1) (.str G<|J+1)) 12) (uT P X Y a b p q s t e f i j k l h c d r w Z o R)
theorem KJ:CK w (dY P X Y S g n m (ao (cg P X++dj Y++fD u v y B C D) 12) (aK x left) h++jX a b p q s t i j k l c d e f) (kW P X Y) (lz P a b false) (ie X Y) (LI P X Y S n m g a b p q s t e f u v y x left i j k l h c d):=aV 301 130 xb
def Rq:Q7:=λr w N T Z o R=>sC P X Y S n m g x left Z (λL I T5 F H G J M=>ao (cg P X++dj Y++fD u v y (.int L<|I+1) (.int F<|H+1) (.str G<|J+1)++j9 A E) 13) (uT P X Y a b p q s t e f i j k l h c d r w Z o R)
theorem J0:CK w (dY P X Y S g n m (ao (cg P X++dj Y++fD u v y B C D++j9 A E) 13) (aK x left) h++jX a b p q s t i j k l c d e f) (kW P X Y) (lz P a b false) (ie X Y) (Rq P X Y S n m g a b p q s t e f u v y A E x left i j k l h c d):=aV 301 130 xb
def Ot:Q7:=λH I N T Z G R=>ae [2] [Y.ri]<|ot (bi "range_iterator.__next__" [.ref<|Y.ri+4]) [(Y.ri+4,aK x left)] (λw r o=>∀F T5:Nat,ae [1] [o+1]<|R (.ok .next) [aO P S.ln g,aa (aC S.aN) n,aa (b7 S.ps) m,z,aK w r,h,aa c e,i,j,k,aa d f,l] [] [] [])
theorem RG:CK w (dY P X Y S g n m z (aK x left) h++jX a b p q s t i j k l c d e f) (kW P X Y) [pU] (ie X Y) (Ot P Y S n m g e f x left i j k l h z c d):=aV 41 12 0x12333e5d45479
end
theorem ak.snoc_inv:∀{a:List Tg} {c:List va} {d:Tg},ak Z c (a++[d])->∃e v,c=e++[v]/\ak Z e a/\Tells Z v d:=by
 intro a;induction a with
 |nil=>
  intro c d h;refine bE (ak.cons_inv h) λv l b f g=>?_;subst b
  rw[g.nil_inv];exact dR [] v rfl .nil f
 |cons x a k=>
  intro c d h;refine bE (ak.cons_inv (c:=a++[d]) h) λv l b f g=>?_;subst b
  refine bE (k g) λe u b i j=>?_;subst b
  exact dR (v::e) u rfl (.cons f i) j
theorem rz{b:SX->List va}{ne:SX->Nat}(h:∀p∈r,p.1≠x):bZ ((x,a)::r) (bG b x V) (bG ne x k)=(a+4,aa V k)::bZ r b ne:=by
 show(a+4,aa (bG b x V x)<|bG ne x k x)::bZ r _ _=_;rw[iy,iy];congr 1;unfold bZ;exact VD λp c=>by rw[fV _ _<|h p c,fV _ _<|h p c]
theorem hV.sub{c:SX->List va}{a:SX->List (R4×KV)}(h:hV Z b c a)(s:∀p∈Z,p∈Z'):hV Z' b c a:=λp q=>(h p q).sub s
theorem hJ.sub{c:SX->List va}{a:SX->List KV}(h:hJ Z b c a)(s:∀p∈Z,p∈Z'):hJ Z' b c a:=λp q=>(h p q).sub s
theorem hV.upd{b:SX->List va}{a:SX->List (R4×KV)}(h:hV Z c b a)(f:ak Z (b x) ((a x).map gk))(d:Tells Z v (gk e)):
  hV Z c (bG b x<|b x++[v]) (bG a x<|a x++[e]):=λp q=>by
 dsimp only[bG];split
 ·rw[mapA];exact f.app<|.cons d .nil
 ·exact h p q
theorem hJ.upd{b:SX->List va}{a:SX->List KV}(h:hJ Z c b a)(f:ak Z (b x) ((a x).map gE))(d:Tells Z v (gE e)):
  hJ Z c (bG b x<|b x++[v]) (bG a x<|a x++[e]):=λp q=>by
 dsimp only[bG];split
 ·rw[mapA];exact f.app<|.cons d .nil
 ·exact h p q
theorem GZ{a G Z b D:Led}:∀p∈a++(G++Z),p∈(b++(D++(a++G)))++Z:=λp h=>by
 rw[<-aZ] at h;rcases bB h with h|h
 ·exact bq<|az<|az h
 ·exact az h
theorem mR{a G Z:Led}:∀p∈a++(G++Z),p∈(a++G)++Z:=λp h=>by rw[aZ];exact h
theorem AK{b S:bt}(f:b.ps.map (·.1)=d++[a,c])(e:S.ps.map (·.1)=d)(h:S.ps.length+2*(n+1)<=1000):b.ps.length+2*n<=1000:=by
 have:=congrArg Tn f;rw[<-e,Vd,aM,aM] at this;rw[this];show S.ps.length+2+2*n<=1000;lia
theorem Hx{a:Type}{l:List a}{x:a}(h:l.length+2*(n+1)<=1000):(l++[x]).length<=1000:=by
 rw[Vd];exact SQ (VC (Vk<|Vc _) _) h
theorem AG{i:Int}(a:0<=i)(h:i<4):i.toNat<4/\i=(i.toNat:Int):=⟨(Int.toNat_lt a).mpr h,(WY a).symm⟩
theorem yE{b:Type}{a:List va}{l:List b}{f:b->Tg}(h:ak Z a (l.map f))(c:l.length<=B)(d:B+n<=800):a.length<=1000:=by
 rw[h.len,aM];lia
theorem yB(b:a<=B)(c:B+(n+1)<=800):a+1<=900:=SQ (Vk b)<|SQ (VC (Vk<|Vc n) B)<|SQ c<|zd rfl
theorem Ar{g:Bool}(b:a+80<=960)(d:kY.Ok w a):∀X∈lz P c e g,aA.Ok w a X:=
 have h:a+40<=960:=SQ (VC (zd rfl) a) b
 aj sS (aj z8<|aj ru<|aj (GF h)<|aj (I9 h)<|aj LJ<|aj pK<|aj pK<|aj d<|aj (yr b)<|aj pH ay)
section
variable{b a:Nat}{P:aE}{X:dq}{Y:ia}{c:List (Int×SX)}
theorem MY(hb:b+40<=a)(T2:a+80<=960)(hA:kY.Ok w a)(UI:∀(i:Nat) g,c[i]?=some g->0<=g.1/\g.1<4/\(4-Y.sh<=(i:Int)->1<=g.1)):
  ∀(v q:List (Int×SX)) (S:bt) (tl n m:Nat) (fr U:S9) (t x:SX->List va) (ne D:SX->Nat) (Z:Led) (bs ts:List (SX×Nat)) (s:bU) (BB:Nat),
  nW P Z X Y bs ts c->c=q++v->bs.length=4->ts.length=2->(bs.map (·.1)).Nodup->(ts.map (·.1)).Nodup->(∀g∈v,∃Tv,(g.2,Tv)∈bs)->(∃Tv,(Y.aD,Tv)∈ts)->
  bC U->iO (cg P X++dj Y) fr->hV Z bs t s.bk->hJ Z ts x s.tb->s.Inv BB->BB+v.length<=800->S.ps.map (·.1)=s.ps->S.ps.length+2*v.length<=1000->
  SP w b (ie X Y) (dY P X Y S tl n m fr (aK q.length v.length) U++bZ bs t ne++bZ ts x D) Z (j0 P Z (cg P X++dj Y) bs ts S.ln S.aN<|gG Y.sh Y.aD Y.q q.length v s):=by
 have TB:a<Vv:=Ws (SQ (VI a 80) T2)<|zd rfl;intro v;induction v with
 |nil=>
  intro q S tl n m fr U t x ne D Z bs ts s BB C TV T5 Uc _ _ _ _ TY TX T3 Ua _ _ TP _;obtain⟨p0,y,z,A⟩:=ib T5;obtain⟨r0,B⟩:=p7 Uc;exact RG P X Y S n m tl p0.2 r0.2 y.2 z.2 A.2 B.2 (ne p0.1) (D r0.1) q.length 0 (aa (t y.1)<|ne y.1) (aa (t z.1)<|ne z.1) (aa (t A.1)<|ne A.1) (aa (x B.1)<|D B.1) U fr (t p0.1) (x r0.1) a hb TB (aj qI ay) C.shown λO Q N T e=>ah ⟨_,_,_,rfl,rfl,Int.le_refl _,λTt k k=>ah ⟨⟨rfl,rfl,rfl⟩,S,_,_,_,_,_,_,t,ne,x,D,rfl,⟨rfl,rfl,TP⟩,TY,TX,T3.sub λp Uh=>az Uh,Ua.sub λp Uh=>az Uh⟩⟩
 |cons g v ih=>
  intro q S tl n m fr U t x ne D Z bs ts s BB C TV T5 Uc UH UJ T8 UR TY TX T3 Ua Tw TA TP TO;refine aw (T8 g<|.head _) λI Uz=>aw UR λH UB=>dB (tE Uz) λrb pb lb mb=>dB (tE UB) λrt pt lt mt=>Eo pb pt (hide λU5 hQ=>?_);have Uw:∀p∈(g.2,I)::rb,p∈bs:=λp h=>pb.mem_iff.mp h
  have Ux:∀p∈(Y.aD,H)::rt,p∈ts:=λp h=>pt.mem_iff.mp h
  have C':=C.up (Z':=Z) (bs':=(g.2,I)::rb) (ts':=(Y.aD,H)::rt) (λp h=>h) Uw Ux;have Ue:(((g.2,I)::rb).map (·.1)).Nodup:=(pb.map _).nodup_iff.mpr UH;have Ug:(((Y.aD,H)::rt).map (·.1)).Nodup:=(pt.map _).nodup_iff.mpr UJ;have UU:∀p∈rb,p.1≠g.2:=λp h Tu=>by have TS:=U9 (f:=λTt:SX×Nat=>Tt.1) h;rw[Tu] at TS;exact(Vs.mp Ue).1 TS
  have UW:∀p∈rt,p.1≠Y.aD:=λp h Tu=>by have TS:=U9 (f:=λTt:SX×Nat=>Tt.1) h;rw[Tu] at TS;exact(Vs.mp Ug).1 TS
  have UE:rb.length=3:=Zt<|lb.trans T5;have UG:rt.length=1:=Zt<|lt.trans Uc;have T4:hV Z ((g.2,I)::rb) t s.bk:=λp h=>T3 p<|Uw p h
  have Ub:hJ Z ((Y.aD,H)::rt) x s.tb:=λp h=>Ua p<|Ux p h
  have hi:c[q.length]?=some g:=by rw[TV];simp
  refine aI (C.it.get (i:=q.length) (d:=item g)<|by rw[Vi,hi];rfl) λTJ UN UO=>c0 UO.dQ λai ti ui U0 UA=>?_;subst U0
  refine cK (UI _ g hi) λn1 n2 n3=>?_
  have UD:q.length<1000:=Ws (SQ (by rw[TV,Vd];exact VI _ _) C.all)<|zd rfl;rw[bT] at TA TO;have TM:=C.shown;have UX:S.ps.length<=1000:=SQ (VI _ _) TO;have hx:((q++[g]).length:Int)=(q.length:Int)+1:=by simp
  have hy:((g::v).length:Int)-1=v.length:=by simp
  have hz:(0:Int)<((g::v).length:Int):=Xe.mpr<|Vl _;have Ur:c=(q++[g])++v:=by rw[TV];simp
  obtain⟨y,z,A⟩:=kd UE;obtain⟨B⟩:=mi UG;have UY:(pushS S g.2 ui).ps.length<=1000:=Hx TO;have UZ:∀Tt Uk,(pushS (pushS S g.2 ui) Tt Uk).ps.map (·.1)=s.ps++[g.2,Tt]:=by
   intro Tt Uk;show((S.ps++[(g.2,ui)])++[(Tt,Uk)]).map (·.1)=_;rw[mapA,mapA,TP,aZ];rfl
  have gA:∀(Tx:Bool) (iv:Int->Int) (tv:Nat->Nat->Nat) E,decide (4-Y.sh<=(q.length:Int))=Tx->(iv g.1).toNat<4/\iv g.1=((iv g.1).toNat:Int)->(∀(u:bt) (tl n m t5 Uo Un N T:Nat),u.ln=S.ln->u.aN=S.aN->u.ps.map (·.1)=s.ps++[g.2,dig (iv g.1).toNat]->E q.length (g::v).length t5 Uo g.1 ti g.2 ui Un u tl n m N T)->
    uM P X Y S n m tl q.length (g::v).length Z Tx iv tv E:=by
   intro Tx iv tv E ge dm hE;refine ah ⟨_,_,_,rfl,rfl,hz,λt5 k Uo=>ah ⟨_,q.length,_,Y.fC,Y.vJ,ai,g.1,ti,g.2,ui,rfl,.inr ⟨rfl,C.ln⟩,UD,UN,UA,λk Un=>ah<|.dD C.ro UX λk k=>ah ⟨_,_,_,_,rfl,ge,λk k=>ah<|.dD (m:=(iv g.1).toNat) dm.1 dm.2 λU4 k k=>?_⟩⟩⟩;exact .dD C.ro UY λk k=>ah ⟨_,_,_,_,rfl,ge,λk k=>hE (pushS (pushS S g.2 ui) (dig (iv g.1).toNat) U4) _ _ _ _ _ _ _ _ rfl rfl (UZ _ _)⟩
  by_cases TQ:4-Y.sh<=(q.length:Int)
  ·
   have TF:iu Y.sh Y.aD Y.q q.length g s=⟨s.ps++[g.2,dig (g.1-1).toNat],bG s.bk g.2<|s.bk g.2++[jE Y.q Y.aD<|e6<|s.bk g.2],bG s.tb Y.aD<|s.tb Y.aD++[dA (fG<|s.tb Y.aD) [(g.2,.int 1)]]⟩:=if_pos TQ;have n4:=n3 TQ;refine aw (CR (Tw.1 g.2).1) λl0 Uq=>aw (Cj (Tw.2 Y.aD).1) λt0 Us=>?_
   have be:=T4 _<|.head _;have te:=Ub _<|.head _;have lm:e6 (s.bk g.2)∈s.bk g.2:=by have Tu:=VP l0<|Xq<|e6<|s.bk g.2;rwa[<-Uq] at Tu
   have tm:fG (s.tb Y.aD)∈s.tb Y.aD:=by have Tu:=VP t0<|Xq<|fG<|s.tb Y.aD;rwa[<-Us] at Tu
   have le:=(Tw.1 g.2).2.2 _ lm;have Uv:=(Tw.2 Y.aD).2.2 _ tm;have Up:=be;have Uy:=te;rw[Uq,mapA] at Up;rw[Us,mapA] at Uy;refine bE Up.snoc_inv λUm v1 UQ U7 Ut=>bE Uy.snoc_inv λUj v2 UM U6 Uu=>cw (Tells.pR<|show Tells Z v1 (.tuple _) from Ut) λeA k Ui k=>?_;subst Ui
   refine bE (Tells.fE<|show Tells Z v2 (.dict _) from Uu) λtA k Ui k k=>?_;subst Ui
   have ge:decide (4-Y.sh<=(q.length:Int))=true:=decide_eq_true TQ;have TC:=Ar (P:=P) (c:=I) (e:=H) (g:=true) T2 hA;have Tr:∀(O Q:Bool) (u:bt) (M L J:Nat) (F Ts:S9) (G:Led) (d e2:Nat),br O Q w=w->u.ln=S.ln->u.aN=S.aN->u.ps.map (·.1)=s.ps++[g.2,dig (g.1-1).toNat]->iO (cg P X++dj Y) F->bC Ts->
     Tells (G++Z) (.ref<|d+4) (gk<|jE Y.q Y.aD<|e6<|s.bk g.2)->Tells (G++Z) (.ref<|e2+4) (gE<|dA (fG<|s.tb Y.aD) [(g.2,.int 1)])->
     SP (br O Q w) b (ie X Y) (dY P X Y u M L J F (aK ((q.length:Int)+1)<|((g::v).length:Int)-1) Ts++((I+4,aa (t g.2++[.ref<|d+4])<|ne g.2+1)::bZ [y,z,A] t ne)++((H+4,aa (x Y.aD++[.ref<|e2+4])<|D Y.aD+1)::bZ [B] x D)) (G++Z)
      λr o n F' ro=>j0 P Z (cg P X++dj Y) ((g.2,I)::[y,z,A]) ((Y.aD,H)::[B]) S.ln S.aN (gG Y.sh Y.aD Y.q q.length (g::v) s) r o n (F'++G) ro:=by
    intro O Q u M L J F Ts G d e2 e s1 s2 s3 T7 UK td U3;rw[e,hy,<-hx,<-rz UU,<-rz UW];have up:∀p∈Z,p∈G++Z:=λp h=>az h
    have Tu:=ih (q++[g]) u M L J F Ts (bG t g.2<|t g.2++[.ref<|d+4]) (bG x Y.aD<|x Y.aD++[.ref<|e2+4]) (bG ne g.2<|ne g.2+1) (bG D Y.aD<|D Y.aD+1) (G++Z) ((g.2,I)::[y,z,A]) ((Y.aD,H)::[B])
     (iu Y.sh Y.aD Y.q q.length g s) (BB+1) (C'.up up (λp h=>h) λp h=>h) Ur rfl rfl Ue Ug (λTt hx=>by refine aw (T8 Tt<|.tail _ hx) λTv h=>?_;exact⟨Tv,pb.mem_iff.mpr h⟩) ⟨H,.head _⟩ UK T7
     (by rw[TF];exact(T4.sub up).upd (be.sub up) td) (by rw[TF];exact(Ub.sub up).upd (te.sub up) U3) (Tw.turn ..) (by rw[Nat.succ_add];exact TA) (by rw[s3,TF]) (AK s3 TP TO)
    rw[s1,s2,show(q++[g]).length=q.length+1 by simp] at Tu;rw[show(q++[g]).length=q.length+1 by simp];exact BJ rfl Tu
   have TZ:∀{G:Led},∀p∈Z,p∈G++Z:=λp h=>az h
   have UL:[(H+4,aa (x Y.aD)<|D Y.aD)]=[(H+4,aa (Uj++[.ref<|tA+4])<|D Y.aD)]:=by rw[show x Y.aD=Uj++[.ref<|tA+4] from UM]
   have UP:[(I+4,aa (t g.2)<|ne g.2)]=[(I+4,aa (Um++[.ref<|eA+4])<|ne g.2)]:=by rw[show t g.2=Um++[.ref<|eA+4] from UQ]
   have US:(t g.2).length<=1000:=yE be (Tw.1 g.2).2.1 TA;have UT:(x Y.aD).length<=1000:=yE te (Tw.2 Y.aD).2.1 TA;have U1:∀N1 N2:Nat,Tells (oU Y N1 N2++Z) (.ref<|N2+1+4) (og Y.q [(Y.aD,jg<|p9 Y.q)]):=by
    intro N1 N2;refine .tup (bq<|.head _)<|.cons (.int _ _)<|.cons (.int _ _)<|.cons (.int _ _)<|.cons (.int _ _)<|.cons (.iW (a:=N1) (n:=1) (bq<|.tail _<|.head _) rfl (a7.oy (l:=[]) (.tup (a:=N1+1) (bq<|.tail _<|.tail _<|.head _)<|.cons (.int _ _)<|.cons (.int _ _)<|.cons (.int _ _)<|.cons (.int _ _) .nil) .nil)) .nil
   have gB:∀TJ N E,(∀N1 d1 F1 TR,bC TR->Tells (F1++(oU Y N N1++Z)) (.ref<|d1+4) (gk<|jE Y.q Y.aD<|e6<|s.bk g.2)->E N1 d1 F1 TR)->Bu X Y I (ne g.2) U (t g.2) Z g.2 TJ N E:=by
    intro TJ N E hE;refine ah ⟨X.bo,g.2,_,X.f9,X.m6,rfl,C.bk,.inr ⟨rfl,C.bo⟩,C'.bf _<|.head _,λk k=>ah ⟨X.bo,g.2,_,X.f9,X.m6,rfl,C.bk,.inr ⟨rfl,C.bo⟩,C'.bf _<|.head _,λk k=>ah ⟨_,_,Um,_,eA,rfl,.inl UP,λN1 k=>?_⟩⟩⟩;exact ah ⟨eA,N1+1,(e6<|s.bk g.2).1,Y.q,(e6<|s.bk g.2).2,[(Y.aD,jg<|p9 Y.q)],U,rfl,rfl,TY,Ut.sub TZ,U1 N N1,le.1,fc (⟨_,rfl⟩) fz,yB le.2 TA,λd1 F1 TR T9 T6 k k=>ah ⟨⟨rfl,b6 US⟩,λk k=>hE _ d1 F1 TR T9 T6⟩⟩
   have gC:∀TJ G E,(∀N T d TU,Tells (TU++((xG g.2 TJ N T++G)++Z)) (.ref<|d+4) (gE<|dA (fG<|s.tb Y.aD) [(g.2,.int 1)])->E N T d TU)->Aq X Y H (D Y.aD) (x Y.aD) Z g.2 TJ G E:=by
    intro TJ G E hE;refine ah ⟨X.ta,Y.aD,_,X.fW,X.nq,rfl,C.tk,.inr ⟨rfl,TZ _ C.ta⟩,C'.tf _<|.head _,λk k=>ah ⟨X.ta,Y.aD,_,X.fW,X.nq,rfl,C.tk,.inr ⟨rfl,TZ _ C.ta⟩,C'.tf _<|.head _,λk k=>ah ⟨_,_,Uj,_,tA,rfl,.inl UL,λN T=>?_⟩⟩⟩;exact ah ⟨tA,N,fG<|s.tb Y.aD,[(g.2,.int 1)],rfl,rfl,Uu.sub TZ,.iW (a:=N) (n:=1) (bq<|.head _) rfl (a7.oy (l:=[]) (.int 1 T) .nil),Uv.1,fc (⟨_,rfl⟩) fz,yB Uv.2 TA,λd TU hd k k=>ah ⟨⟨rfl,b6 UT⟩,λk k=>hE N T d TU hd⟩⟩
   refine hQ ?_;generalize j0 P Z (cg P X++dj Y) ((g.2,I)::[y,z,A]) ((Y.aD,H)::[B]) S.ln S.aN (gG Y.sh Y.aD Y.q q.length (g::v) s)=R at Tr⊢;have Tz:∀FR E,(∀Tv b T1 d e f Tx h i j,iO (cg P X++dj Y)<|FR Tv b T1 d e f Tx h i j)->
     (∀(u:bt) (M L J:Nat) (F Ts:S9) (G:Led) (d e2:Nat),u.ln=S.ln->u.aN=S.aN->u.ps.map (·.1)=s.ps++[g.2,dig (g.1-1).toNat]->iO (cg P X++dj Y) F->bC Ts->Tells (G++Z) (.ref<|d+4) (gk<|jE Y.q Y.aD<|e6<|s.bk g.2)->Tells (G++Z) (.ref<|e2+4) (gE<|dA (fG<|s.tb Y.aD) [(g.2,.int 1)])->E u M L J F (aK ((q.length:Int)+1)<|((g::v).length:Int)-1) Ts d e2 G)->
     sE P X Y S n m tl I H (ne g.2) (D Y.aD) q.length (g::v).length U (t g.2) (x Y.aD) Z FR E:=by
    intro FR E hF Tr;exact gA true (λm=>m-1) (λk T=>T+1) _ ge (AG (Zf n4)<|Int.lt_of_le_of_lt (Int.sub_le_self _<|by decide) n2) λu k k k k k k k k V h2 h3=>gB _ _ _ λk d1 F1 TR T9 T6=>gC _ _ _ λk k d2 F2 UC=>Tr u _ _ _ _ _ _ d1 d2 V h2 h3 (hF ..) T9 (T6.sub GZ)<|UC.sub mR
   rcases TX with rfl|⟨k9,TG,TH,v9,TK,TL,rfl⟩|⟨k9,TG,TH,v9,TK,TL,Ud,Ul,rfl⟩
   ·exact Mh P X Y S n m tl I H y.2 z.2 A.2 B.2 (ne g.2) (D Y.aD) q.length (g::v).length (aa (t y.1)<|ne y.1) (aa (t z.1)<|ne z.1) (aa (t A.1)<|ne A.1) (aa (x B.1)<|D B.1) U (t g.2) (x Y.aD) a hb TB TC TM λO Q N T e=>Tz _ _ (λk k k k k k k k k k=>.inr<|.inr ⟨_,_,_,_,_,_,_,_,rfl⟩) λu M L J F Ts G d e2 V h2 h3 h4 h5 h6=>Tr O Q u M L J F Ts G d e2 e V h2 h3 h4 h5 h6
   ·exact L7 P X Y S n m tl I H y.2 z.2 A.2 B.2 (ne g.2) (D Y.aD) k9 TG TH v9 TK TL q.length (g::v).length (aa (t y.1)<|ne y.1) (aa (t z.1)<|ne z.1) (aa (t A.1)<|ne A.1) (aa (x B.1)<|D B.1) U (t g.2) (x Y.aD) a hb TB TC TM λO Q N T e=>Tz _ _ (λk k k k k k k k k k=>.inr<|.inr ⟨_,_,_,_,_,_,_,_,rfl⟩) λu M L J F Ts G d e2 V h2 h3 h4 h5 h6=>Tr O Q u M L J F Ts G d e2 e V h2 h3 h4 h5 h6
   ·exact Rr P X Y S n m tl I H y.2 z.2 A.2 B.2 (ne g.2) (D Y.aD) k9 TG TH Ud v9 TK TL Ul q.length (g::v).length (aa (t y.1)<|ne y.1) (aa (t z.1)<|ne z.1) (aa (t A.1)<|ne A.1) (aa (x B.1)<|D B.1) U (t g.2) (x Y.aD) a hb TB TC TM λO Q N T e=>Tz _ _ (λk k k k k k k k k k=>.inr<|.inr ⟨_,_,_,_,_,_,_,_,rfl⟩) λu M L J F Ts G d e2 V h2 h3 h4 h5 h6=>Tr O Q u M L J F Ts G d e2 e V h2 h3 h4 h5 h6
  ·have TF:iu Y.sh Y.aD Y.q q.length g s=⟨s.ps++[g.2,dig g.1.toNat],s.bk,s.tb⟩:=if_neg TQ
   have ge:decide (4-Y.sh<=(q.length:Int))=false:=decide_eq_false TQ;have TC:=Ar (P:=P) (c:=I) (e:=H) (g:=false) T2 hA;have Tr:∀(O Q:Bool) (u:bt) (M L J:Nat) (F:S9),br O Q w=w->u.ln=S.ln->u.aN=S.aN->u.ps.map (·.1)=s.ps++[g.2,dig g.1.toNat]->iO (cg P X++dj Y) F->
     SP (br O Q w) b (ie X Y) (dY P X Y u M L J F (aK ((q.length:Int)+1)<|((g::v).length:Int)-1) U++bZ ((g.2,I)::[y,z,A]) t ne++bZ ((Y.aD,H)::[B]) x D) Z
      λr o n F' ro=>j0 P Z (cg P X++dj Y) ((g.2,I)::[y,z,A]) ((Y.aD,H)::[B]) S.ln S.aN (gG Y.sh Y.aD Y.q q.length (g::v) s) r o n (F'++[]) ro:=by
    intro O Q u M L J F e s1 s2 s3 T7;rw[e,hy,<-hx];have Tu:=ih (q++[g]) u M L J F U t x ne D Z ((g.2,I)::[y,z,A]) ((Y.aD,H)::[B])
     (iu Y.sh Y.aD Y.q q.length g s) (BB+1) C' Ur rfl rfl Ue Ug (λTt hx=>by refine aw (T8 Tt<|.tail _ hx) λTv h=>?_;exact⟨Tv,pb.mem_iff.mpr h⟩) ⟨H,.head _⟩ TY T7
     (by rw[TF];exact T4) (by rw[TF];exact Ub) (Tw.turn ..) (by rw[Nat.succ_add];exact TA) (by rw[s3,TF]) (AK s3 TP TO)
    rw[s1,s2,show(q++[g]).length=q.length+1 by simp] at Tu;rw[show(q++[g]).length=q.length+1 by simp];exact BJ rfl Tu
   refine hQ ?_;generalize j0 P Z (cg P X++dj Y) ((g.2,I)::[y,z,A]) ((Y.aD,H)::[B]) S.ln S.aN (gG Y.sh Y.aD Y.q q.length (g::v) s)=R at Tr⊢;have Tz:∀FR E,(∀Tv b T1 d e f Tx h,iO (cg P X++dj Y)<|FR Tv b T1 d e f Tx h)->
     (∀(u:bt) (M L J:Nat) (F:S9),u.ln=S.ln->u.aN=S.aN->u.ps.map (·.1)=s.ps++[g.2,dig g.1.toNat]->iO (cg P X++dj Y) F->E u M L J F (aK ((q.length:Int)+1)<|((g::v).length:Int)-1))->
     sC P X Y S n m tl q.length (g::v).length Z FR E:=by
    intro FR E hF Tr;exact gA false (λm=>m) (λU2 k=>U2) _ ge (AG n1 n2) λu k k k k k k k k V h2 h3=>Tr u _ _ _ _ V h2 h3<|hF ..
   rcases TX with rfl|⟨k9,TG,TH,v9,TK,TL,rfl⟩|⟨k9,TG,TH,v9,TK,TL,Ud,Ul,rfl⟩
   ·exact Q9 P X Y S n m tl I H y.2 z.2 A.2 B.2 (ne g.2) (D Y.aD) q.length (g::v).length (aa (t y.1)<|ne y.1) (aa (t z.1)<|ne z.1) (aa (t A.1)<|ne A.1) (aa (x B.1)<|D B.1) U (t g.2) (x Y.aD) a hb TB TC TM λO Q N T e=>Tz _ _ (λk k k k k k k k=>.inr<|.inl ⟨_,_,_,_,_,_,rfl⟩) λu M L J F V h2 h3 h4=>Tr O Q u M L J F e V h2 h3 h4
   ·exact KJ P X Y S n m tl I H y.2 z.2 A.2 B.2 (ne g.2) (D Y.aD) k9 TG TH v9 TK TL q.length (g::v).length (aa (t y.1)<|ne y.1) (aa (t z.1)<|ne z.1) (aa (t A.1)<|ne A.1) (aa (x B.1)<|D B.1) U (t g.2) (x Y.aD) a hb TB TC TM λO Q N T e=>Tz _ _ (λk k k k k k k k=>.inr<|.inl ⟨_,_,_,_,_,_,rfl⟩) λu M L J F V h2 h3 h4=>Tr O Q u M L J F e V h2 h3 h4
   ·exact J0 P X Y S n m tl I H y.2 z.2 A.2 B.2 (ne g.2) (D Y.aD) k9 TG TH Ud v9 TK TL Ul q.length (g::v).length (aa (t y.1)<|ne y.1) (aa (t z.1)<|ne z.1) (aa (t A.1)<|ne A.1) (aa (x B.1)<|D B.1) U (t g.2) (x Y.aD) a hb TB TC TM λO Q N T e=>Tz _ _ (λk k k k k k k k=>.inr<|.inr ⟨_,_,_,_,_,_,_,_,rfl⟩) λu M L J F V h2 h3 h4=>Tr O Q u M L J F e V h2 h3 h4
end
def IX(a p0 o p q:Nat)(c d e f:Int):Q7:=λH I N T Z b R=>ae [13,3,7] [N,a,N] ((((0:Int)<(2:Int))/\((2:Int)<(1073741824:Int)))/\∀O:Xi,∀j G:Nat,ae [5,5,3,5,1] [N,a,j,p,N]<|((e<(1:Int))->∀r k:Nat,ae [7] [N] ((((0:Int)<(2:Int))/\((2:Int)<(1073741824:Int)))/\∀J:Xi,∀g z:Nat,ae [5,5,3,5,1] [N,a,g,q,N]<|((f<(1:Int))->∀s l:Nat,ae [6] [N]<|R (H7<|.int 4<|l+2) [] [] [] [])/\((¬(f<(1:Int)))->∀t A:Nat,ae [6] [N]<|R (H7<|.int 3<|k+2) [] [] [] [])))/\((¬(e<(1:Int)))->∀u B:Nat,ae [7] [N] ((((0:Int)<(2:Int))/\((2:Int)<(1073741824:Int)))/\∀L:Xi,∀h C:Nat,ae [5,5,3,5,1] [N,a,h,o,N]<|((d<(1:Int))->∀v m:Nat,ae [6] [N]<|R (H7<|.int 2<|m+2) [] [] [] [])/\((¬(d<(1:Int)))->∀w D:Nat,ae [7] [N] ((((0:Int)<(2:Int))/\((2:Int)<(1073741824:Int)))/\∀M:Xi,∀i E:Nat,ae [5,5,3,5,1] [N,a,i,p0,N]<|((c<(1:Int))->∀x n:Nat,ae [6] [N]<|R (H7<|.int 1<|n+2) [] [] [] [])/\((¬(c<(1:Int)))->∀y F:Nat,ae [6] [N]<|R (H7<|.int 0 256) [] [] [] []))))))
theorem Px:CK w [] [(a+4,aa [.ref<|b+4,.ref<|c+4,.ref<|d+4,.ref<|e+4] n),(b+4,ag [.int f<|s+1,.str j<|o+1]),(c+4,ag [.int g<|t+1,.str k<|p+1]),(d+4,ag [.int h<|u+1,.str l<|q+1]),(e+4,ag [.int i<|v+1,.str m<|r+1])] [eR,dX] (Vh (.ref 62) ⟨[.ref<|a+4,.int 1<|x+1],[("key",.ref 118)]⟩) (IX a b c d e f g h i):=aV 355 297 0x6601967796d017cd0e577e7564b1f45796cd760afbb1704a00558fc2a44eef8348ba763f6d4e160cf8401135411751c9b063a70e3dddd5accee79beacea762de658ad57ac34d28bedd7f4386f8e74dd0a400f636225da59dca2f9cb4bb7c0b38aa8e1b525c021d5d04033c5726d3a0a34b4b37c1ee40d396350f2420ae26e163672de53549c22d679b32fed9fa3dd75b1f0754ca0fa3dbe9acbb7eef1dbb5d2dd8bed425826fb814e2003bdc16211485c20fc5e7a3509c2765a861347dc09bd302450616c1aff5928dae775b4255583d6a70f2d271d3a519ea4d3231659e19748d39a2a28951f75b95c568e2ef38bf424dc8709c06d98f7890018eb25aada96fa0dd4788d6a38122013de27fca2b23276a7b3238a6638a87e7b348777721a28f1d6cccaf485cfeec41a2c6877ca88c81d23d457b9a820e4
theorem SP.gI(h:SP w b c L Z j)(z:∀r e a F i,e.length=L.length->j r e a F i->∃f,(∀p∈f,p∈(a++F)++Z)/\k r e [] (a++F) f):SP w b c L Z k:=by
 intro A C t N T g d I G E H hk y D R B;refine h A C t N T g d I G E H hk y D R ?_;intro r e a F i v o q s n l J m;exact aI (z r e a F i l n) λf u x=>B r e [] (a++F) f v o q s x l u (by rw[aP,<-aZ];exact m)
def aF(l i:Nat):S9:=av "list_iterator" [.ref<|l+4,.int i 0]
def litE(i:Nat):S9:=av "list_iterator" [.none,.int i 0]
theorem yy{b a l i n F:Nat}{c:List va}{x:va}{Z:Led}{k:aU}(u:(l+4,aa c n)∈Z)(z:c[i]?=some x)(j:Led)(y:∀p∈j,p∈Z)(s:k (H7 x) [aF l<|i+1] [] [] j):
  SP w b (.builtin "list_iterator.__next__" ⟨[.ref a],[]⟩) [(a,aF l i)] Z k:=by
 refine SP.builtin Ym (by decide+kernel) λA B h N T g d G R C E hk t D r=>?_
 have e:h.get? a=some (aF l i):=D.own (a,aF l i)<|.head _;have v:h.get? (l+4)=some (aa c n):=D.keep _ _<|t _ u;show To _ _ (field (.ref a) 0>>=_) _ _ _;refine bF e rfl (x:=.ref<|l+4) rfl ?_;show To _ _ (if(VV (l+4)==SY)=true then _ else _) _ _ _;refine wN (show ¬((VV (l+4)==SY)=true) from Vx) ?_;show To _ _ (field (.ref a) 1>>=_) _ _ _;refine bF e rfl (x:=.int i 0) rfl ?_;show To _ _ (X7 (.ref<|l+4)>>=_) _ _ _;refine bI v rfl ?_;simp only[WW,show(⟨c⟩:Array va)[i]?=some x by simpa using z];refine bS e rfl (by show 1<2;decide) (Te ?_);have o:([(a,aF l i)]:Led)[0]?=some (a,aF l i):=rfl;have m:=D.update (f:=Tc (·.setIfInBounds 1 (Wy<|(i:Int)+1))) o rfl;exact r _ [aF l<|i+1] [] [] j _ N T g s rfl (λp q=>az<|y p q) (by rw[aP,aP];exact m)
theorem L9(B:(l+4,aa c n)∈Z)(E:c.length<=i)(v:∀e,p (.error<|.ref<|e+5) [litE i] [(e+4,ag []),(e+5,cm e)] [] []):
  SP w b (.builtin "list_iterator.__next__" ⟨[.ref a],[]⟩) [(a,aF l i)] Z p:=by
 refine SP.builtin Ym (by decide+kernel) λA H h N T g d F R z I hk y D u=>?_
 have k:h.get? a=some (aF l i):=D.own (a,aF l i)<|.head _;have C:h.get? (l+4)=some (aa c n):=D.keep _ _<|y _ B;show To _ _ (field (.ref a) 0>>=_) _ _ _;refine bF k rfl (x:=.ref<|l+4) rfl ?_;show To _ _ (if(VV (l+4)==SY)=true then _ else _) _ _ _;refine wN (show ¬((VV (l+4)==SY)=true) from Vx) ?_;show To _ _ (field (.ref a) 1>>=_) _ _ _;refine bF k rfl (x:=.int i 0) rfl ?_;show To _ _ (X7 (.ref<|l+4)>>=_) _ _ _;refine bI C rfl ?_;simp only[WW,show(⟨c⟩:Array va)[i]?=none by simpa using E];refine bR (bS k rfl (by show 0<2;decide) ?_);have r:([(a,aF l i)]:Led)[0]?=some (a,aF l i):=rfl;have j:=D.update (f:=Tc (·.setIfInBounds 0 .none)) r rfl;refine aw j.d3 λt G=>?_;subst G
 refine ke (t:=t) (s:=⟨h.update a Sy,g,d,T+1,F⟩) z j.size ?_;have m:=(j.alloc (o:=ag []) rfl).alloc (o:=cm t) rfl;refine u (.error<|.ref<|t+5) [litE i] [(t+4,ag []),(t+5,cm t)] [] [] _ (t+6) T g (v t) rfl (λJ q=>nomatch q) ?_;rw[aP];rw[aZ] at m;exact m
inductive mC(c:Td)(sub Z:Led)(k:Nat->Int->Nat->SX->Nat->Nat->R4->Nat->Nat->Nat->Nat->Prop):Prop
 |mk (it l i n vs x sh ts aD tw on q q0 q1 q2 q3) (h0:c= .builtin "list_iterator.__next__" ⟨[.ref it],[]⟩) (h1:sub=[(it,aF l i)]) (h2:(l+4,aa vs n)∈Z) (h3:vs[i]?=some (.ref<|x+4))
   (h4:(x+4,ag [.int sh<|ts+1,.str aD<|tw+1,.ref<|on+4])∈Z) (h5:(on+4,ag [.int q.a<|q0+1,.int q.b<|q1+1,.int q.c<|q2+1,.int q.d<|q3+1])∈Z) (h6:k x sh ts aD tw on q q0 q1 q2 q3):mC c sub Z k
noncomputable def BR:Led->Nat
 |(_,⟨_,_,.fields ⟨.ref l::_⟩,_⟩)::_=>l-4
 |_=>0
noncomputable def wB:Led->Nat
 |(_,⟨_,_,.fields ⟨_:: .int (.ofNat i) _::_⟩,_⟩)::_=>i
 |_=>0
def j3:aA:=λc sub Z f=>mC c sub Z λx g h j i e q q0 q1 q2 q3=>f 0 (H7<|.ref<|x+4) [aF (BR sub)<|wB sub+1] [] [] [(x+4,ag [.int g<|h+1,.str j<|i+1,.ref<|e+4]),(e+4,ag [.int q.a<|q0+1,.int q.b<|q1+1,.int q.c<|q2+1,.int q.d<|q3+1])]
theorem Ec{b:Nat}:j3.Ok w b:=by
 rintro c sub Z g ⟨j,l,i,n,s,x,m,o,t,r,k,q,q0,q1,q2,q3,rfl,rfl,a,d,e,f,H⟩;refine yy (F:=0) a d _ ?_<|aB 0 H;intro p h;rcases bK h with rfl|h
 ·exact e
 ·rcases dg h with rfl;exact f
inductive mK(c:Td)(sub Z:Led)(k:Nat->Prop):Prop
 |mk (it l i n vs) (h0:c= .builtin "list_iterator.__next__" ⟨[.ref it],[]⟩) (h1:sub=[(it,aF l i)]) (h2:(l+4,aa vs n)∈Z) (h3:vs.length<=i) (h4:∀e,k e):mK c sub Z k
def qp:aA:=λc sub Z a=>mK c sub Z λe=>a 0 (.error<|.ref<|e+5) [litE<|wB sub] [(e+4,ag []),(e+5,cm e)] [] []
theorem se:qp.Ok w b:=by
 rintro c sub Z f ⟨g,l,i,n,h,rfl,rfl,a,d,H⟩;exact L9 a d λe=>aB 0<|H e
inductive jb(c:Td)(sub Z:Led)(k:Nat->Prop):Prop
 |mk (l vs n) (h0:c= .builtin "len" ⟨[.ref l],[]⟩) (h1:iU sub Z l vs n) (h2:vs.length<=1000) (h3:k vs.length):jb c sub Z k
def fA:aA:=λc sub Z a=>jb c sub Z λm=>∀t,a 0 (H7<|.int (SR m)<|t+1) (sub.map (·.2)) [] [] []
theorem lN:fA.Ok w b:=by
 rintro c sub Z u ⟨l,f,n,rfl,i,C,H⟩;refine SP.builtin entry_len plain_len λA y h N T g d o R z B hk k D j=>?_
 have m:h.get? l=some (aa f n):=i.get D k;refine YV (wpAny_len_body_list (items:=⟨f⟩) (s:=⟨h,g,d,T+1,o⟩) (Q:=λv e=>R (H7 v) e) (E:=postE R) (aY _ m rfl (aB n rfl)) (by simp;lia) ?_) ?_ λt t q=>q
 ·exact j.done (T:=T+2) (aB 0<|H<|T+1) D
 ·rintro x e a;refine aI a λr p q=>?_;clear a;subst p
  exact q
inductive vL(c:Td)(sub Z:Led)(k:Nat->Prop):Prop
 |mk (a t n vs eb) (h0:c=EY (a+4) (t+1)) (h1:sub=[]) (h2:(a+4,aa vs n)∈Z) (h3:ak Z vs (eb.map item)) (h4:eb.length=4) (h5:k (ef eb)):vL c sub Z k
def nF:aA:=λc sub Z a=>vL c sub Z λm=>∀t,a 0 (H7<|.int (SR m)<|t+1) [] [] [] []
theorem R8(D:b+40<=960):nF.Ok w b:=by
 rintro Tu sub Tt l ⟨a,t,n,vs,Tw,rfl,rfl,I,e,G,H⟩;have E:∀C∈[eR,dX],aA.Ok w 960 C:=aj lp<|aj mc ay;obtain⟨p0,f,g,k⟩:=ib G;rcases e with _|⟨x,_|⟨y,_|⟨z,_|⟨A,e⟩⟩⟩⟩;cases e
 refine hide λZ B=>c0 x.dQ λm T P c J=>?_;subst c
 refine c0 y.dQ λp U Q c L=>?_;subst c
 refine c0 z.dQ λq V R c M=>?_;subst c
 refine c0 A.dQ λs Y S c N=>?_;subst c
 refine B<|Px _ D (zd rfl) E (aq I<|aq J<|aq L<|aq M<|aq N ax) λb1 b2 Tr Ts Tv=>?_
 have v:∀{u:Nat} {i:Int},i=(ef [p0,f,g,k]:Nat)->(λr o n F O=>∃j,l j r o n F O) (H7<|.int i<|u+1) [] [] [] []:=λh=>aB 0 (by rw[h];exact H _)
 repeat' (first|refine ah ?_|refine⟨rE,λd d d=>?_⟩|(refine⟨λh d d=>?_,λh d d=>?_⟩)|fail)
 all_goals exact v (by delta ef;dsimp only;repeat (first|rfl|rw[if_pos<|by assumption]|rw[if_neg<|by assumption]|rw[if_neg<|by lia]|refine wP (by lia) ?_))
inductive oZ(P:aE)(c:Td)(sub Z:Led)(k:bt->Nat->Nat->Nat->Nat->List va->Led->Prop):Prop
 |mk (S b f n m eb) (h0:c= .call (.ref 125) ⟨[.ref<|P.rd+4],[]⟩) (h1:∀p∈bp P,p∈Z) (h2:sub=jj P S f n m) (h3:S.Ok) (h4:Reads S eb b) (h5:eb.length=4)
   (h6:∀g e d a vs F,ak (F++Z) vs ((cv eb).map item)->k b g e d a vs F):oZ P c sub Z k
def cLine(P:aE):aA:=λc sub Z d=>oZ P c sub Z λS e n m a b F=>d 0 (H7<|.ref<|a+4) [aO P S.ln e,aa (aC S.aN) n,aa (b7 S.ps) m] [] ([(a+4,aa b 4)]++F) [(a+4,aa b 4)]
theorem AX(g:b<=680):(cLine P).Ok w b:=by
 rintro c sub Z x ⟨S,y,u,n,m,z,rfl,j,rfl,f,i,h,H⟩;refine(Qg (I:=u) (n:=n) (m:=m) g j f i h).gI ?_;rintro r B A F C D d;refine zw d λa e v o l k p q s t=>?_;clear d;subst p q s t
 exact aX [(a+4,aa e 4)] (fc (bq<|bq<|.head _) fz)<|aB 0<|H v o l a e F k
inductive R6(P:aE)(k:bt->Nat->Nat->Nat->S9->S9->S9->S9->S9->S9->S9->S9->S9->Led->Prop)(r:Vz)(objs:List S9)(new F ro:Led):Prop
 |mk (h0:r= .ok .next/\new=[]/\ro=[]) (S e n m fr it tb o0 a b c d o5) (h1:objs=iV P S e n m fr it tb++[o0,a,b,c,d,o5]) (h2:k S e n m fr it tb o0 a b c d o5 F)
inductive tX(P:aE)(b0:Nat)(c:Td)(sub Z:Led)(k:bt->Nat->Nat->Nat->S9->S9->S9->S9->S9->S9->S9->S9->S9->Led->Prop):Prop
 |mk (gv:aU) (h0:SP w b0 c sub Z gv) (h1:∀r objs new F ro,gv r objs new F ro->R6 P k r objs new F ro):tX P b0 c sub Z k
def mX(P:aE)(b:Nat):aA:=λc sub Z a=>tX P b c sub Z λS o n m d e l f g h i j k F=>a 0 (.ok .next) [aO P S.ln o,aa (aC S.aN) n,aa (b7 S.ps) m,d,e,l,f,g,h,i,j,k] [] F []
theorem Ju(e:b<=a):(mX P a).Ok w b:=by
 rintro c sub Z g ⟨i,h,H⟩;refine h.mono e (λd q=>q) ?_;rintro r x l F y d f d;obtain⟨⟨rfl,rfl,rfl⟩,S,A,n,m,j,k,z,o,p,s,t,u,v,rfl,hk⟩:=H _ _ _ _ _ f;exact aB 0 hk
abbrev iT(l:List (Int×SX)):Prop:=l.Pairwise λa b=>a.1<=b.1
noncomputable def ins(p:Int×SX):List (Int×SX)->List (Int×SX)
 |[]=>[p]
 |q::r=>if p.1<q.1 then p::q::r else q::ins p r
theorem uw(p:Int×SX):∀l,(ins p l).Perm (p::l):=by
 intro l;induction l with
 |nil=>exact .refl _
 |cons q r a=>
  unfold ins;split
  ·exact .refl _
  ·exact((a).cons q).trans (.swap p q r)
theorem Dg(p:Int×SX):∀{l},iT l->iT (ins p l):=by
 intro l;induction l with
 |nil=>intro g;exact YH _ _
 |cons q r f=>
  intro h;refine a0 (Wf.mp h) λb d=>?_
  unfold ins;split
  ·rename_i c
   exact Wf.mpr ⟨λx a=>(bK a).elim (λe=>e▸Int.le_of_lt c) λy=>X6 (Int.le_of_lt c)<|b x y,h⟩
  ·rename_i c
   exact Wf.mpr ⟨λx a=>(bK<|(uw p r).mem_iff.mp a).elim (λe=>e▸V5.mp c)<|b x,f d⟩
theorem Nk(p:Int×SX)(h:iT l)(n:l.length<=3):insI p l=ins p l:=by
 rcases l with _|⟨a,_|⟨b,_|⟨c,_|⟨d,l⟩⟩⟩⟩
 ·rfl
 ·simp only[insI,js,ins]
  by_cases f:p.1<a.1<;>simp[f,eJ]
 ·refine a0 (Wf.mp h) λf j=>?_
  have i:=f b<|.head _;simp only[insI,js,ins];by_cases e:p.1<a.1
  ·rw[if_pos<|Int.lt_of_lt_of_le e i,if_pos e,if_pos e];rfl
  ·by_cases g:p.1<b.1<;>simp[e,g,eJ]
 ·refine a0 (Wf.mp h) λf j=>a0 (Wf.mp j) λm o=>?_
  have i:=f b<|.head _;have q:=m c<|.head _;simp only[insI,js,ins];by_cases e:p.1<a.1
  ·rw[if_pos<|Int.lt_of_lt_of_le e i,if_pos e,if_pos e];rfl
  ·by_cases g:p.1<b.1
   ·simp[e,g,eJ]
   ·by_cases k:p.1<c.1<;>simp[e,g,k,eJ]
 ·simp only[bT] at n;lia
noncomputable def cO(p:Nat×SX):Int×SX:=((p.1:Int),p.2)
def bW(l:List (Int×SX)):List (Int×SX):=l.foldl (λa p=>ins p a) []
theorem vX:∀(l a:List (Int×SX)),iT a->(l.foldl (λa p=>ins p a) a).Perm (l.reverse++a)/\iT (l.foldl (λa p=>ins p a) a):=by
 intro l;induction l with
 |nil=>intro a h;exact⟨.refl _,h⟩
 |cons p l d=>
  intro a h;refine a0 (d (ins p a)<|Dg p h) λb c=>⟨b.trans ?_,c⟩;rw[List.reverse_cons,aZ];exact(uw p a).append_left _
theorem Qc:∀(b:List (Nat×SX)) (a:List (Int×SX)),iT a->b.length+a.length<=4->b.foldl (λa p=>insI ((p.1:Int),p.2) a) a=(b.map cO).foldl (λa p=>ins p a) a:=by
 intro b;induction b with
 |nil=>intro c c c;exact rfl
 |cons p b e=>
  intro a h d;rw[bT] at d;rw[Zk,cc,Zk,Nk _ h<|by lia];exact e _ (Dg _ h)<|by rw[(uw _ _).length_eq];simp only[bT];lia
theorem oI(h:a.length<=4):cv a=bW (a.map cO):=Qc a [] .nil<|by simpa using h
theorem vD(h:a.length<=4):iT (cv a):=oI h▸(vX _ _ .nil).2
theorem pE(h:a.length<=4):(cv a).Perm (a.map cO):=by
 rw[oI h];have:=(vX (a.map cO) [] .nil).1;rw[aP] at this;exact this.trans<|List.reverse_perm _
theorem IH(a b c d:Int×SX):ef [a,b,c,d]=if c.1<1 then(if d.1<1 then 4 else 3) else if b.1<1 then 2 else if a.1<1 then 1 else 0:=rfl
theorem iT.mono(h:iT l){i j:Nat}(c:i<=j)(b:l[i]?=some x)(d:l[j]?=some y):x.1<=y.1:=by
 rcases Nat.lt_or_eq_of_le c with c|rfl
 ·refine aw (Tb.mp b) λe a=>?_;subst a
  refine aw (Tb.mp d) λe a=>?_;subst a
  exact ZQ.mp h _ _ _ _ c
 ·cases b.symm.trans d;exact Int.le_refl _
theorem ER{l:List (Int×SX)}(m:l.length=4):ef l<=4/\(∀x,l[ef l]?=some x->¬x.1<1)/\(∀j x,j+1=ef l->l[j]?=some x->x.1<1):=by
 obtain⟨a,b,c,d⟩:=ib m;rw[IH];by_cases i:c.1<1
 ·rw[if_pos i]
  by_cases k:d.1<1
  ·rw[if_pos k];exact⟨by decide,λx e=>(by cases e),λj x e h=>by cases e;cases h;exact k⟩
  ·rw[if_neg k];exact⟨by decide,λx h=>by cases h;exact k,λj x e h=>by cases e;cases h;exact i⟩
 ·rw[if_neg i]
  by_cases g:b.1<1
  ·rw[if_pos g];exact⟨by decide,λx h=>by cases h;exact i,λj x e h=>by cases e;cases h;exact g⟩
  ·rw[if_neg g]
   by_cases f:a.1<1
   ·rw[if_pos f];exact⟨by decide,λx h=>by cases h;exact g,λj x e h=>by cases e;cases h;exact f⟩
   ·rw[if_neg f];exact⟨by decide,λx h=>by cases h;exact f,λj x e n=>by cases e⟩
theorem qw(h:iT l)(f:l.length=4):ef l<=4/\∀i a,l[i]?=some a->(ef l<=i->1<=a.1)/\(i<ef l->a.1<1):=by
 refine cK (ER f) λg k m=>⟨g,λi a b=>⟨λc=>?_,λc=>?_⟩⟩
 ·have e:=Ti<|Ws c (Tb.mp b).1
  exact X6 (V5.mp<|k _ e) (h.mono c e b)
 ·obtain⟨j,e⟩:∃j,j+1=ef l:=⟨ef l-1,Wd<|Ws (Vc _) c⟩
  have d:j<l.length:=by rw[f];exact SQ (Th e) g
  exact Int.lt_of_le_of_lt (h.mono (Xg<|V4 c e.symm) b<|Ti d) (m j _ e<|Ti d)
noncomputable def e7(b:Int):Nat->List (Int×SX)->List (Nat×SX)
 |_,[]=>[]
 |k,a::r=>((if 4-b<=(k:Int) then a.1-1 else a.1).toNat,a.2)::e7 b (k+1) r
def rO(a:List (Nat×SX)):List SX:=a.flatMap λp=>[p.2,dig p.1]
theorem rY(b:Int):∀(l:List (Int×SX)) (k:Nat),(e7 b k l).length=l.length:=by
 intro l;induction l with
 |nil=>intro c;exact rfl
 |cons c r a=>intro k;exact congrArg (· +1)<|a<|k+1
theorem y6(c:Int):∀(l:List (Int×SX)) (k:Nat),(e7 c k l).map (·.2)=l.map (·.2):=by
 intro l;induction l with
 |nil=>intro d;exact rfl
 |cons b r a=>intro k;exact congrArg (b.2:: ·)<|a<|k+1
theorem Al(b:Int):∀(l:List (Int×SX)) (k:Nat),(∀a∈l,a.1<4)->∀p∈e7 b k l,p.1<4:=by
 intro l;induction l with
 |nil=>intro e e e h;exact nomatch h
 |cons a r f=>
  intro k d p h;rcases bK h with rfl|h
  ·have:=d a<|.head _
   by_cases c:4-b<=(k:Int)
   ·show(if 4-b<=(k:Int) then a.1-1 else a.1).toNat<4
    rw[if_pos c];exact(Int.toNat_lt'<|zd rfl).mpr (by show a.1-1<4;lia)
   ·show(if 4-b<=(k:Int) then a.1-1 else a.1).toNat<4
    rw[if_neg c];exact(Int.toNat_lt'<|zd rfl).mpr this
  ·exact f (k+1) (λx q=>d x<|.tail _ q) p h
theorem NK(a:Int)(c:SX)(one:R4):∀(b:List (Int×SX)) (k:Nat) (s:bU),(gG a c one k b s).ps=s.ps++rO (e7 a k b):=by
 intro b;induction b with
 |nil=>intro k s;exact(Yv _).symm
 |cons d r e=>
  intro k s;show(gG a c one (k+1) r<|iu a c one k d s).ps=s.ps++([d.2,dig _]++rO (e7 a (k+1) r));rw[e,<-aZ];congr 1;unfold iu;split<;>rfl
theorem Nc:∀(a:List (Nat×SX)) (S:bt),S.ps.map (·.1)=rO a->(∀p∈a,p.1<4)->Reads S a ⟨S.ln,S.aN,[]⟩:=by
 intro a;induction a with
 |nil=>exact fun
  |⟨c,b,ps⟩,h,_=>by
   have:ps=[]:=Xl.mp h;subst this;rfl
 |cons l r j=>obtain⟨m,n⟩:=l;exact fun
  |⟨c,b,ps⟩,h,d=>by
   rcases ps with _|⟨⟨o,t⟩,_|⟨⟨s,k⟩,ps⟩⟩
   ·exact nomatch h
   ·exact nomatch (Z4 h).2
   ·refine a0 (Z4 h) λe g=>a0 (Z4 g) λf i=>?_
    cases e;cases f
    exact⟨d _<|.head _,⟨c,b,(dig m,k)::ps⟩,⟨c,b,ps⟩,rfl,rfl,j ⟨c,b,ps⟩ i λp q=>d p<|.tail _ q⟩
noncomputable abbrev Call:=Int×SX×R4
def cD:List Call->List (Nat×SX)->bU->Bool×List (Int×SX)×bU
 |[],a,s=>(true,cv a,s)
 |c::b,a,s=>if 4-(ef (cv a):Int)<c.1 then(false,cv a,s) else cD b (e7 c.1 0<|cv a) {gG c.1 c.2.1 c.2.2 0 (cv a) s with ps:=[]}
theorem bU.Inv.turns{B:Nat}(b:Int)(c:SX)(one:R4):∀(a:List (Int×SX)) (k:Nat) {s:bU} {B:Nat},s.Inv B->(gG b c one k a s).Inv (B+a.length):=by
 intro a;induction a with
 |nil=>intro d d d h;exact h
 |cons f r e=>
  intro k s B h;have:=e (k+1)<|h.turn b c one k f;rw[Wu,Ww 1] at this;exact this
inductive nS(Z:Led)(v:va)(c:Call):Prop
 |mk (x ts tw on q0 q1 q2 q3) (h1:v= .ref (x+4)) (h2:(x+4,ag [.int c.1<|ts+1,.str c.2.1<|tw+1,.ref<|on+4])∈Z) (h3:(on+4,ag [.int c.2.2.a<|q0+1,.int c.2.2.b<|q1+1,.int c.2.2.c<|q2+1,.int c.2.2.d<|q3+1])∈Z)
inductive d0{c d:Type}(R:c->d->Prop):List c->List d->Prop
 |nil:d0 R [] []
 |cons {a as b bs}:R a b->d0 R as bs->d0 R (a::as) (b::bs)
section
variable{α β:Type}{R:α->β->Prop}{a c:List α}{b d:List β}
theorem d0.mono{e:α->β->Prop}(s:∀{f g},R f g->e f g)(h:d0 R a b):d0 e a b:=h.rec .nil λh i r=>.cons (s h) r
theorem d0.len(h:d0 R a b):a.length=b.length:=h.rec rfl λe e r=>congrArg Za r
theorem d0.app(h:d0 R a b)(f:d0 R c d):d0 R (a++c) (b++d):=h.rec (motive:=λa b g=>d0 R (a++c)<|b++d) f λe g r=>.cons e r
theorem d0.take(n:Nat)(h:d0 R a b):d0 R (a.take n) (b.take n):=
 h.rec (motive:=λa b f=>∀n,d0 R (a.take n)<|b.take n) (λn=>by rw[List.take_nil,List.take_nil];exact .nil) (λe f r n=>n.casesOn .nil λn=>.cons e<|r n) n
theorem d0.get{i:Nat}(h:d0 R a b):a[i]?=some x->∃y,b[i]?=some y/\R x y:=
 h.rec (motive:=λa b f=>∀i,a[i]?=some x->∃y,b[i]?=some y/\R x y) (λf e=>absurd (Vf e) Vn) (λ{_ _ g _} r f j i=>i.casesOn (λe=>aX g rfl (WD e▸r)) λi=>j i) i
end
abbrev fJ(Z:Led):List va->List Call->Prop:=d0<|nS Z
theorem nS.sub(s:∀p∈Z,p∈Z')(h:nS Z v c):nS Z' v c:=h.rec λx f g d q0 q1 q2 q3 e a b=>⟨x,f,g,d,q0,q1,q2,q3,e,s _ a,s _ b⟩
theorem fJ.sub(s:∀p∈Z,p∈Z')(h:fJ Z b a):fJ Z' b a:=h.mono<|nS.sub s
theorem fJ.nil_inv(h:fJ Z a []):a=[]:=by cases h;rfl
structure nC(P:aE)(Z:Led)(X:dq)(bs ts:List (SX×Nat)):Prop where
 ro:∀p∈bp P,p∈Z
 bo:(X.bo+4,ab X.f9 X.m6)∈Z
 bk:StrKeys X.f9
 bf:∀p∈bs,bY p.1 X.f9=some (.ref<|p.2+4)
 ta:(X.ta+4,ab X.fW X.nq)∈Z
 tk:StrKeys X.fW
 tf:∀p∈ts,bY p.1 X.fW=some (.ref<|p.2+4)
 cl:(X.cl+4,aa X.fZ X.cn)∈Z
theorem nC.up(h:nC P Z X a b)(s:∀p∈Z,p∈Z'):nC P Z' X a b:=
 ⟨λp q=>s _<|h.ro p q,s _ h.bo,h.bk,h.bf,s _ h.ta,h.tk,h.tf,s _ h.cl⟩
theorem nC.shown(C:nC P Z X a b):∀p∈bp P++[(X.cl+4,aa X.fZ X.cn)],p∈Z:=
 λp h=>(bB h).elim (C.ro p)<|aq C.cl ax p
abbrev kn(X:dq):Td:=aS tS (.ref<|X.oi+4)<|aT 130<|X.fa+4
def lL(P:aE)(X:dq)(S:bt)(d n m:Nat)(a b c:S9):Led:=[(P.d1+4,aO P S.ln d),(P.lf+4,aa (aC S.aN) n),(P.pb+4,aa (b7 S.ps) m),(X.fa+4,a),(X.oi+4,b),(23,c)]
inductive Pd(P:aE)(X:dq)(fr:S9):Prop
 |mk (k5 k6 k7 k8 a v6 b c) (h:iO (cg P X++kO k5 k6 k7 k8 a v6 b c) fr)
def oR(P:aE)(X:dq)(a:S9):Prop:=a=ao (cg P X) 5\/Pd P X a
def MJ(Z:Led)(X:dq)(f:Int)(e:List (Nat×Nat))(S:bt)(b:Bool×List (Int×SX)×bU)(r:Vz):Prop:=
 (b.1=true/\r= .ok .next/\∃c,c.length=4/\b.2.1=cv c/\Reads S c ⟨f,e,[]⟩)\/
 (b.1=false/\S=⟨f,e,[]⟩/\∃d a g,r= .ok (.ret<|.ref<|d+4)/\(d+4,ag [.bool false,.ref<|a+4,.ref<|X.bo+4,.ref<|X.ta+4])∈Z/\(a+4,aa g 4)∈Z/\ak Z g (b.2.1.map item))
inductive An(P:aE)(X:dq)(bs ts:List (SX×Nat))(ln:Int)(aN:List (Nat×Nat))(res:Bool×List (Int×SX)×bU)(r:Vz)(objs:List S9)(new Z ro:Led):Prop
 |mk (h1:new=[]/\ro=[]) (S a n m fr it tb vs ne lj oL) (h2:objs=iV P S a n m fr it tb++c7 bs vs ne++c7 ts lj oL) (h3:S.Ok) (h4:MJ Z X ln aN S res r) (h5:bC tb/\oR P X fr) (h6:hV Z bs vs res.2.2.bk) (h7:hJ Z ts lj res.2.2.tb)
def lS(P:aE)(Z:Led)(X:dq)(a f:List (SX×Nat))(c:Int)(b:List (Nat×Nat))(d:Bool×List (Int×SX)×bU):aU:=λr o n F e=>An P X a f c b d r o n (F++Z) e
theorem H4(e:a=G++Z)(h:SP w b c L a (lS P a X d k g f i)):
  SP w b c L a λr o n m j=>lS P Z X d k g f i r o n (m++G) j:=by
 subst e;refine h.mono ar (λl q=>q) λr o n F j l h l=>?_
 show An P X d k g f i r o n ((F++G)++Z) j;rw[aZ];exact h
section
variable(P:aE)(X:dq)(S:bt)(n m i j k l p q s a:Nat)(t u v x y z A J:Nat)(E F G H B C D L:va)(b c d e f g h I:S9)
def pW:Led:=bp P++[(X.cl+4,aa X.fZ X.cn)]
noncomputable def ph:Led:=[(j+4,b),(k+4,c),(l+4,d),(p+4,e),(q+4,f),(s+4,g)]
noncomputable def qA:Nat:=0x335ef7d5c0d6a0cc28e30f5fea51d1edc6d707ed9b63f70190f6b911efd10b9e3c7b31b312219b8764c5f551a920add42f508e75d2c16f792c66cd36f6f3157cefa4d33d4ddf1b22d36dad5d6384aa3e75add6b8765821b8f5e724647137e998016e525beb3c6c244eaf5467cbe4a043d0229b154952a376e4665db592a81f4480403f97b2d919bbb77788c568cbdcb918
def pX(FR:Int->Nat->SX->Nat->Nat->Nat->Nat->Nat->S9):Q7:=λb1 b2 TY T4 Z TJ Ts=>ae [2] [X.oi]<|mC (bi "list_iterator.__next__" [.ref<|X.oi+4]) [(X.oi+4,aF X.cl a)] Z (λR V TB TF TC Tz q5 Ub Uc Ud Ue=>∀O T5:Nat,ae [1,4,5,1,6,1,6,1,6,1,2,1,7] [X.oi,R,O,R,O,R,O,R,O,R,O,O+2,X.fa]<|oZ P (cp 125 [.ref<|P.rd+4]) (pw P S i n m) Z (λU TA Tx Tw M Q N=>∀T3 Tt:Nat,ae [3] [X.fa]<|jb (bi "len" [.ref<|M+4]) [] ((((M+4,aa Q 4)::N)++[])++Z) (λTu=>∀Ug:Xi,∀TZ TH:Nat,ae [1] [X.fa]<|vL (Vh (.ref 62)<|Yd [.ref<|M+4,.int 1<|TH+1] [("key",((.ref 118):va))]) [] ((((M+4,aa Q 4)::N)++[])++Z) (λTv=>∀Uh:Xi,∀T1 T6:Nat,ae [1] [X.fa]<|((((SR Tu)-(SR Tv))<V)->∀Tr T7:Nat,ae [3] [X.fa]<|Ts (H7<|.ref<|Tr+4) [aO P U.ln TA,aa (aC U.aN) Tx,aa (b7 U.ps) Tw,FR V TB TF TC Tz T5 Tt M,aF (X.cl)<|a+1,h,b,c,d,e,f,g] [] ([(Tr+4,ag [.bool false,.ref<|M+4,.ref<|X.bo+4,.ref<|X.ta+4])]++(((M+4,aa Q 4)::N)++[])) [])/\((¬(((SR Tu)-(SR Tv))<V))->∀T T8:Nat,ae [10,1] [T,T+1]<|tX P 540 (aS xD (.ref<|T+5)<|aT 130<|X.fa+4) (pw P U TA Tx Tw++[(X.fa+4,FR V TB TF TC Tz T5 Tt M),((T+4)+1,av "range_iterator" [.int 0 0,.int 4 0,.int 1 0]),(23,h),(j+4,b),(k+4,c),(l+4,d),(p+4,e),(q+4,f),(s+4,g)]) ((((M+4,aa Q 4)::N)++[])++Z) (λTG TX TM TL TK Ua TV TO TP TQ TR TS TU Y=>∀T2 T9:Nat,SP (br b1 b2 w) TJ (aS tS (.ref<|X.oi+4)<|aT 130<|X.fa+4) (pw P TG TX TM TL++[(X.fa+4,TK),(X.oi+4,aF (X.cl)<|a+1),(23,TV),(j+4,TO),(k+4,TP),(l+4,TQ),(p+4,TR),(q+4,TS),(s+4,TU)]) ((Y++(((M+4,aa Q 4)::N)++[]))++Z) λr o n F' ro=>Ts r o n (F'++(Y++(((M+4,aa Q 4)::N)++[]))) ro))))))
theorem LA:CK w (lL P X S i n m (ao (cg P X) 5) (aF X.cl a) h++ph j k l p q s b c d e f g) (pW P X) [j3,cLine P,fA,nF,dX,mX P 540] (kn X) (pX P X S n m i j k l p q s a b c d e f g h λN O R Q M T5 o r=>ao (cg P X++kO T5 (T5+1) (T5+2) o (.int N<|O+1) (.str R<|Q+1) (.ref<|M+4) (.ref<|r+4)) 9):=aV 376 137 qA
theorem JR:CK w (lL P X S i n m (ao (cg P X++kO t u v x E F G H) 9) (aF X.cl a) h++ph j k l p q s b c d e f g) (pW P X) [j3,cLine P,fA,nF,dX,mX P 540] (kn X) (pX P X S n m i j k l p q s a b c d e f g h λM N Q O r T5 R o=>ao (cg P X++kO t u v x (.int M<|N+1) (.str Q<|O+1) (.ref<|r+4) (.ref<|o+4)) 9):=aV 376 137 qA
theorem OR:CK w (lL P X S i n m (ao (cg P X++kO t u v x E F G H++fD y z A B C D) 12) (aF X.cl a) h++ph j k l p q s b c d e f g) (pW P X) [j3,cLine P,fA,nF,dX,mX P 540] (kn X) (pX P X S n m i j k l p q s a b c d e f g h λM N Q O r T5 R o=>ao (cg P X++kO t u v x (.int M<|N+1) (.str Q<|O+1) (.ref<|r+4) (.ref<|o+4)++fD y z A B C D) 12):=aV 376 137 qA
theorem Ly:CK w (lL P X S i n m (ao (cg P X++kO t u v x E F G H++fD y z A B C D++j9 J L) 13) (aF X.cl a) h++ph j k l p q s b c d e f g) (pW P X) [j3,cLine P,fA,nF,dX,mX P 540] (kn X) (pX P X S n m i j k l p q s a b c d e f g h λM N Q O r T5 R o=>ao (cg P X++kO t u v x (.int M<|N+1) (.str Q<|O+1) (.ref<|r+4) (.ref<|o+4)++fD y z A B C D++j9 J L) 13):=aV 376 137 qA
def FW:Q7:=λM O N T Z w R=>ae [2] [X.oi]<|mK (bi "list_iterator.__next__" [.ref<|X.oi+4]) [(X.oi+4,aF X.cl a)] Z (λo=>∀r T5:Nat,ae [1] [o+1]<|R (.ok .next) [aO P S.ln i,aa (aC S.aN) n,aa (b7 S.ps) m,I,litE a,h,b,c,d,e,f,g] [] [] [])
theorem Jn:CK w (lL P X S i n m I (aF X.cl a) h++ph j k l p q s b c d e f g) (pW P X) [qp] (kn X) (FW P X S n m i a b c d e f g h I):=aV 41 12 0x12333e5d45479
end
section
variable{b:Nat}{P:aE}{X:dq}{d e:List (SX×Nat)}{c:Int}{a:List (Nat×Nat)}
theorem Oy(hb:b+40<=540)(hA:kY.Ok w 580)(Uo:d.length=4)(Uy:e.length=2)(Ut:(d.map (·.1)).Nodup)(Uv:(e.map (·.1)).Nodup)(T4:a.length<=1000):
  ∀(J:List Call) (j:Nat) (S:bt) (L n m:Nat) (fr I:S9) (t E:SX->List va) (ne G:SX->Nat) (Z:Led) (D:List (Nat×SX)) (s:bU) (BB:Nat),
  nC P Z X d e->fJ Z (X.fZ.drop j) J->(∀k∈J,∃g,(k.2.1,g)∈e)->(∀p∈D,∃g,(p.2,g)∈d)->D.length=4->Reads S D ⟨c,a,[]⟩->(∀p∈D,p.1<4)->S.Ok->s.ps=[]->
  bC I->oR P X fr->hV Z d t s.bk->hJ Z e E s.tb->s.Inv BB->BB+4*J.length<=700->
  SP w b (kn X) (lL P X S L n m fr (aF X.cl j) I++bZ d t ne++bZ e E G) Z (lS P Z X d e c a<|cD J D s):=by
 obtain⟨u,v,x,y⟩:=ib Uo;obtain⟨z,A⟩:=p7 Uy;intro J;induction J with
 |nil=>
  intro j S L n m fr I t E ne G Z D s BB C TK _ _ Tx hr T8 hS TR TM TP TJ TO _ _;have hj:X.fZ.length<=j:=Xh.mp TK.nil_inv;exact Jn P X S n m L u.2 v.2 x.2 y.2 z.2 A.2 j (aa (t u.1)<|ne u.1) (aa (t v.1)<|ne v.1) (aa (t x.1)<|ne x.1) (aa (t y.1)<|ne y.1) (aa (E z.1)<|G z.1) (aa (E A.1)<|G A.1) I fr 540 hb (zd rfl) (aj se ay) C.shown λc1 c2 Tz TA Tt=>ah ⟨_,_,_,_,_,rfl,rfl,C.cl,hj,λTZ q q=>ah ⟨⟨rfl,rfl⟩,S,_,_,_,_,_,_,t,ne,E,G,rfl,hS,.inl ⟨rfl,rfl,D,Tx,rfl,hr⟩,⟨TM,TP⟩,TJ.sub λp Tu=>az Tu,TO.sub λp Tu=>az Tu⟩⟩
 |cons k J ih=>
  intro j S L n m fr I t E ne G Z D s BB C TK Ub Uu Tx hr T8 hS TR TM TP TJ TO T6 Ul;rw[bT] at Ul;obtain⟨TV,TG,hd,⟨TZ,Tv,tw,on,q0,q1,q2,q3,rfl,hx,ho⟩,Up⟩:∃TV TG,X.fZ.drop j=TV::TG/\nS Z TV k/\fJ Z TG J:=by
   generalize X.fZ.drop j=UQ at TK;cases TK with|cons g b=>exact dR _ _ rfl g b
  have hj:X.fZ[j]?=some (.ref<|TZ+4):=by
   have:=congrArg (·[0]?) hd;simpa using this
  have Uq:X.fZ.drop (j+1)=TG:=by rw[<-XZ,hd];rfl
  have Um:bt.Ok ⟨c,a,[]⟩:=⟨T4,Vc _⟩;have UG:=vD (a:=D)<|Th Tx;have Uc:=pE (a:=D)<|Th Tx;have T7:(cv D).length=4:=by rw[Uc.length_eq,aM];exact Tx
  refine a0 (qw UG T7) λbl bg=>?_
  have TC:∀H∈cv D,0<=H.1/\H.1<4/\∃g,(H.2,g)∈[u,v,x,y]:=by
   intro H h;refine aI (bO<|Uc.mem_iff.mp h) λp hp UE=>?_;subst UE
   exact⟨Vo _,W0.mpr<|T8 p hp,Uu p hp⟩
  have T9:cD (k::J) D s=if 4-(ef (cv D):Int)<k.1 then(false,cv D,s) else cD J (e7 k.1 0<|cv D) {gG k.1 k.2.1 k.2.2 0 (cv D) s with ps:=[]}:=rfl;generalize hL:cv D=UN at*;obtain⟨T,U,l2,l3⟩:=ib T7;have TL:∀C∈[j3,cLine P,fA,nF,dX,mX P 540],aA.Ok w 540 C:=
   aj Ec (aj (AX<|zd rfl)<|aj lN<|aj (R8<|zd rfl)<|aj mc<|aj (Ju ar) ay)
  have T1:∀(cu:4-(ef [T,U,l2,l3]:Int)<k.1) (TB g:Nat) (l:List va) (F:Led) (Tr n' m':Nat) (Ts:S9),oR P X Ts->ak (F++Z) l ([T,U,l2,l3].map item)->
    lS P Z X [u,v,x,y] [z,A] c a (cD (k::J) D s) (H7<|.ref<|TB+4) (iV P ⟨c,a,[]⟩ Tr n' m' Ts (aF X.cl<|j+1) I++c7 [u,v,x,y] t ne++c7 [z,A] E G) []
     ([(TB+4,ag [.bool false,.ref<|g+4,.ref<|X.bo+4,.ref<|X.ta+4])]++(((g+4,aa l 4)::F)++[])) []:=by
   intro cu TB g l F Tr n' m' Ts TQ hv;rw[T9,if_pos cu];have up:∀p∈F++Z,p∈([(TB+4,ag [.bool false,.ref<|g+4,.ref<|X.bo+4,.ref<|X.ta+4])]++(((g+4,aa l 4)::F)++[]))++Z:=λp h=>by
    rw[aP];exact(bB h).elim (λh=>bq<|.tail _<|.tail _ h) λh=>az h
   exact⟨⟨rfl,rfl⟩,_,_,_,_,_,_,_,t,ne,E,G,rfl,Um,.inr ⟨rfl,rfl,TB,g,l,rfl,.head _,.tail _<|.head _,hv.sub up⟩,⟨TM,TQ⟩,TJ.sub λp Tu=>az Tu,TO.sub λp Tu=>az Tu⟩
  have T2:∀(cu:¬4-(ef [T,U,l2,l3]:Int)<k.1) (c1 c2:Bool) (Tt:br c1 c2 w=w) (ri g N O Q R:Nat) (l:List va) (F:Led) (Tr n' m':Nat) (Ts:S9),ak (F++Z) l ([T,U,l2,l3].map item)->
    iO (cg P X++dj ⟨ri,on,g,4,l,N,O,Q,R,k.1,Tv,k.2.1,tw,k.2.2,q0,q1,q2,q3⟩) Ts->
    tX P 540 (aS xD (.ref<|ri+4)<|aT 130<|X.fa+4) (dY P X ⟨ri,on,g,4,l,N,O,Q,R,k.1,Tv,k.2.1,tw,k.2.2,q0,q1,q2,q3⟩ ⟨c,a,[]⟩ Tr n' m' Ts (aK 0 4) I++bZ [u,v,x,y] t ne++bZ [z,A] E G) ((((g+4,aa l 4)::F)++[])++Z)
     λM L n m fr H I o0 o1 o2 o3 o4 o5 F'=>∀Tz TA:Nat,SP (br c1 c2 w) b (kn X) [(P.d1+4,aO P M.ln L),(P.lf+4,aa (aC M.aN) n),(P.pb+4,aa (b7 M.ps) m),(X.fa+4,fr),(X.oi+4,aF X.cl<|j+1),(23,I),(u.2+4,o0),(v.2+4,o1),(x.2+4,o2),(y.2+4,o3),(z.2+4,o4),(A.2+4,o5)]
      ((F'++(((g+4,aa l 4)::F)++[]))++Z) λr o n Ug ro=>lS P Z X [u,v,x,y] [z,A] c a (cD (k::J) D s) r o n (Ug++(F'++(((g+4,aa l 4)::F)++[]))) ro:=by
   intro cu c1 c2 Tt ri g N O Q R l F Tr n' m' Ts hv TQ;rw[T9,if_neg cu,Tt];generalize hG:((g+4,aa l 4)::F)++[]=Tw;have hm:∀p∈F++Z,p∈Tw++Z:=λp h=>(bB h).elim (λh=>bq<|by rw[<-hG,aP];exact .tail _ h) λh=>az h
   have up:∀p∈Z,p∈Tw++Z:=λp h=>az h
   have Us:(g+4,aa l 4)∈Tw++Z:=bq (by rw[<-hG];exact .head _);refine⟨_,MY (X:=X) (Y:=⟨ri,on,g,4,l,N,O,Q,R,k.1,Tv,k.2.1,tw,k.2.2,q0,q1,q2,q3⟩) (c:=[T,U,l2,l3]) (b:=540) (a:=580) (zd rfl) (zd rfl) hA ?_ [T,U,l2,l3] [] ⟨c,a,[]⟩ Tr n' m' Ts I t E ne G (Tw++Z) [u,v,x,y] [z,A] s BB
    ⟨λp h=>up _<|C.ro p h,up _ C.bo,C.bk,C.bf,up _ C.ta,C.tk,C.tf,up _ ho,Us,hv.sub hm,by simp⟩ rfl rfl rfl Ut Uv (λH h=>(TC H h).2.2) (Ub k<|.head _) TM TQ (TJ.sub up) (TO.sub up) T6 (by simp only[bT,Yw];lia) TR.symm (by simp),?_⟩
   ·intro i H hi
    have h:=TC H<|Vf hi;exact⟨h.1,h.2.1,λUM=>(bg i H hi).1 (by show ef _<=i;have:4-k.1<=(i:Int):=UM;lia)⟩
   ·rintro r US UR F' ro ⟨h0,M,Ue,n2,m2,T3,Uz,Ud,UL,UC,UI,UH,rfl,⟨e1,e2,e3⟩,Uw,Ur,Un,Ux⟩
    refine⟨h0,M,Ue,n2,m2,T3,Uz,Ud,_,_,_,_,_,_,rfl,λTz TA=>H4 rfl ?_⟩;have fR:∀p∈Z,p∈(F'++Tw)++Z:=λp h=>az h
    have e4:M.ps.map (·.1)=rO (e7 k.1 0 [T,U,l2,l3]):=by rw[e3];exact(NK ..).trans (by rw[TR];rfl)
    have l8:M.ps.length=8:=by have:=congrArg Tn e4;rw[aM] at this;exact this
    have lr:Reads M (e7 k.1 0 [T,U,l2,l3]) ⟨c,a,[]⟩:=by rw[<-show M.ln=c from e1,<-show M.aN=a from e2];exact Nc _ _ e4<|Al _ _ _ λH h=>(TC H h).2.1
    refine ih (j+1) M Ue n2 m2 T3 Ud UL UI UC UH ((F'++Tw)++Z) (e7 k.1 0 [T,U,l2,l3]) _ (BB+4) (C.up fR) (by rw[Uq];exact Up.sub fR) (λk h=>Ub k<|.tail _ h) ?_ (rY ..) lr (Al _ _ _ λH h=>(TC H h).2.1)
     ⟨by rw[show M.aN=a from e2];exact T4,by lia⟩ rfl Uw (.inr ⟨N,O,Q,R,_,_,_,_,Ur⟩) (by rw[aZ];exact Un) (by rw[aZ];exact Ux) (bU.Inv.turns (B:=0) k.1 k.2.1 k.2.2 [T,U,l2,l3] 0 T6) (by lia)
    intro p hp;have:=U9 (f:=λp:Nat×SX=>p.2) hp;rw[y6] at this;exact aI (bO this) λH hi Tt=>Tt▸(TC H hi).2.2
  have UD:∀{TF:Nat->Int->Nat->SX->Nat->Nat->R4->Nat->Nat->Nat->Nat->Prop},TF TZ k.1 Tv k.2.1 tw on k.2.2 q0 q1 q2 q3->mC (.builtin "list_iterator.__next__" ⟨[.ref<|X.oi+4],[]⟩) [(X.oi+4,aF X.cl j)] Z TF:=
   λh=>⟨_,_,_,_,_,_,_,_,_,_,_,_,_,_,_,_,rfl,rfl,C.cl,hj,hx,ho,h⟩
  have UB:∀{TF:bt->Nat->Nat->Nat->Nat->List va->Led->Prop},(∀Tr n' m' g l F,l.length=4->ak (F++Z) l ([T,U,l2,l3].map item)->TF ⟨c,a,[]⟩ Tr n' m' g l F)->oZ P (.call (.ref 125) ⟨[.ref<|P.rd+4],[]⟩) (jj P S L n m) Z TF:=
   λh=>⟨S,⟨c,a,[]⟩,L,n,m,D,rfl,C.ro,rfl,hS,hr,Tx,λTr n' m' g l F hv=>h Tr n' m' g l F (by rw[hv.len,hL];rfl)<|by rw[hL] at hv;exact hv⟩
  have UJ:∀(g:Nat) (l:List va) (F:Led),∀p∈F++Z,p∈(((g+4,aa l 4)::F)++[])++Z:=λg l F p h=>(bB h).elim (λh=>bq<|bq<|.tail _ h) λh=>az h
  generalize lS P Z X [u,v,x,y] [z,A] c a (cD (k::J) D s)=Uj at T1 T2⊢;have TH:∀(κ:Nat->Nat->Nat×Nat×Nat×Nat) FR,(∀T5 V ri g l,iO (cg P X++dj ⟨ri,on,g,4,l,(κ T5 V).1,(κ T5 V).2.1,(κ T5 V).2.2.1,(κ T5 V).2.2.2,k.1,Tv,k.2.1,tw,k.2.2,q0,q1,q2,q3⟩)<|FR k.1 Tv k.2.1 tw on T5 V g)->∀c1 c2 Tz TA,br c1 c2 w=w->pX P X S n m L u.2 v.2 x.2 y.2 z.2 A.2 j (aa (t u.1)<|ne u.1) (aa (t v.1)<|ne v.1) (aa (t x.1)<|ne x.1) (aa (t y.1)<|ne y.1) (aa (E z.1)<|G z.1) (aa (E A.1)<|G A.1) I FR c1 c2 Tz TA Z b Uj:=by
   intro κ FR hF c1 c2 Tz TA Tt;refine ah<|UD λq T5=>ah<|UB λfe n1 m1 g l F Ua hv q V=>ah ⟨g+4,l,4,rfl,.inr ⟨rfl,bq<|bq<|.head _⟩,by lia,λq q Uk=>ah ⟨g,Uk,4,l,[T,U,l2,l3],rfl,rfl,bq<|bq<|.head _,hv.sub<|UJ g l F,rfl,λq UO UP=>ah ⟨λh Uh q=>ah ?_,λh Ui q=>ah ?_⟩⟩⟩
   ·exact T1 (by rw[Ua] at h;exact h) Uh g l F fe n1 m1 _ (.inr ⟨_,_,_,_,.int k.1<|Tv+1,.str k.2.1<|tw+1,.ref<|on+4,.ref<|g+4,hF T5 V 0 g l⟩) hv
   ·exact T2 (by rw[Ua] at h;exact h) c1 c2 Tt (Ui+1) g _ _ _ _ l F fe n1 m1 _ hv<|hF T5 V _ g l
  rcases TP with rfl|⟨N,O,Q,R,v5,v6,v7,v8,rfl|⟨k9,TS,TU,v9,TX,TY,rfl⟩|⟨k9,TS,TU,v9,TX,TY,UA,UK,rfl⟩⟩
  ·exact LA P X S n m L u.2 v.2 x.2 y.2 z.2 A.2 j (aa (t u.1)<|ne u.1) (aa (t v.1)<|ne v.1) (aa (t x.1)<|ne x.1) (aa (t y.1)<|ne y.1) (aa (E z.1)<|G z.1) (aa (E A.1)<|G A.1) I 540 hb (zd rfl) TL C.shown<|TH (λT5 V=>(T5,T5+1,T5+2,V)) _ λq q q q q=>.inl rfl
  ·exact JR P X S n m L u.2 v.2 x.2 y.2 z.2 A.2 j N O Q R v5 v6 v7 v8 (aa (t u.1)<|ne u.1) (aa (t v.1)<|ne v.1) (aa (t x.1)<|ne x.1) (aa (t y.1)<|ne y.1) (aa (E z.1)<|G z.1) (aa (E A.1)<|G A.1) I 540 hb (zd rfl) TL C.shown<|TH (λq q=>(N,O,Q,R)) _ λq q q q q=>.inl rfl
  ·exact OR P X S n m L u.2 v.2 x.2 y.2 z.2 A.2 j N O Q R k9 TS TU v5 v6 v7 v8 v9 TX TY (aa (t u.1)<|ne u.1) (aa (t v.1)<|ne v.1) (aa (t x.1)<|ne x.1) (aa (t y.1)<|ne y.1) (aa (E z.1)<|G z.1) (aa (E A.1)<|G A.1) I 540 hb (zd rfl) TL C.shown<|TH (λq q=>(N,O,Q,R)) _ λq q q q q=>.inr<|.inl ⟨_,_,_,_,_,_,rfl⟩
  ·exact Ly P X S n m L u.2 v.2 x.2 y.2 z.2 A.2 j N O Q R k9 TS TU UA v5 v6 v7 v8 v9 TX TY UK (aa (t u.1)<|ne u.1) (aa (t v.1)<|ne v.1) (aa (t x.1)<|ne x.1) (aa (t y.1)<|ne y.1) (aa (E z.1)<|G z.1) (aa (E A.1)<|G A.1) I 540 hb (zd rfl) TL C.shown<|TH (λq q=>(N,O,Q,R)) _ λq q q q q=>.inr<|.inr ⟨_,_,_,_,_,_,_,_,rfl⟩
end
noncomputable def wX(f:List SS):List SS:=match f with
 |a::b::c::d::e::_=>[a,b,c,d,e]
 |_=>[]
noncomputable def ku(k:Nat)(a:List SS):va:=match a.drop k with
 |⟨_,_,v⟩::_=>v
 |[]=>.none
inductive FG(P:aE)(sub Z:Led)(k1:bt->Nat->Nat->Nat->List SS->Nat->S9->S9->S9->S9->S9->S9->S9->S9->Led->Prop)(k2:Nat->Nat->bt->Nat->Nat->Nat->List SS->Nat->S9->S9->S9->S9->S9->S9->S9->S9->Led->Prop)(r:Vz)(objs:List S9)(new F ro:Led):Prop
 |mk (h0:new=[]/\ro=[]) (S g n m es nn it tb o0 b c e f o5) (h1:objs=iV P S g n m (ao (wX (b9<|sub.drop 3)++es) nn) it tb++[o0,b,c,e,f,o5]) (h2:(r= .ok .next/\k1 S g n m es nn it tb o0 b c e f o5 F)\/∃d a,r= .ok (.ret<|.ref<|d+4)/\(d+4,ag [.bool false,.ref<|a+4,ku 3<|b9<|sub.drop 3,ku 4<|b9<|sub.drop 3])∈F++Z/\k2 d a S g n m es nn it tb o0 b c e f o5 F)
inductive rj(P:aE)(b0:Nat)(c:Td)(sub Z:Led)(k1:bt->Nat->Nat->Nat->List SS->Nat->S9->S9->S9->S9->S9->S9->S9->S9->Led->Prop)(k2:Nat->Nat->bt->Nat->Nat->Nat->List SS->Nat->S9->S9->S9->S9->S9->S9->S9->S9->Led->Prop):Prop
 |mk (gv:aU) (h0:SP w b0 c sub Z gv) (h1:∀r objs new F ro,gv r objs new F ro->FG P sub Z k1 k2 r objs new F ro):rj P b0 c sub Z k1 k2
def AH(P:aE)(r:Nat):aA:=λc sub Z q=>rj P r c sub Z
 (λS p n m b f e o g h i j k l F=>q 0 (.ok .next) [aO P S.ln p,aa (aC S.aN) n,aa (b7 S.ps) m,ao (wX (b9<|sub.drop 3)++b) f,e,o,g,h,i,j,k,l] [] F [])
 (λd a S p n m b f e o g h i j k l F=>q 1 (H7<|.ref<|d+4) [aO P S.ln p,aa (aC S.aN) n,aa (b7 S.ps) m,ao (wX (b9<|sub.drop 3)++b) f,e,o,g,h,i,j,k,l] [] F [(d+4,ag [.bool false,.ref<|a+4,ku 3<|b9<|sub.drop 3,ku 4<|b9<|sub.drop 3])])
theorem Gw(i:b<=g):(AH P g).Ok w b:=by
 rintro c sub Z k ⟨l,h,H⟩;refine(h.mono i (λe q=>q) λe e e e e e f e=>f).gI ?_;rintro r C t F D e f;obtain⟨⟨rfl,rfl⟩,S,G,n,m,o,u,s,E,v,x,y,z,A,B,rfl,⟨rfl,hk⟩|⟨d,a,rfl,j,hk⟩⟩:=H _ _ _ _ _ f
 ·exact⟨[],⟨λp h=>(Vn h).elim,0,hk⟩⟩
 ·exact⟨_,fc (j) fz,1,hk⟩
noncomputable def zv(N:Nat)(a b c d e f:S9):Led:=[(N+10,a),(N+13,b),(N+16,c),(N+19,d),(N+24,e),(N+26,f)]
def qT(N t1 a t3 t4 T):=([(N+6,ab [ent "a" t1<|.ref<|N+10,ent "b c" a<|.ref<|N+13,ent "" t3<|.ref<|N+16,ent "\"q" t4<|.ref<|N+19] 4),(N+8,ab [] 0),(N+9,ag [.int 0<|T+5,.int 0<|T+6,.int 0<|T+7,.int 0<|T+8,.ref<|N+8]),(N+11,ab [] 0),(N+12,ag [.int 0<|T+11,.int 0<|T+12,.int 0<|T+13,.int 0<|T+14,.ref<|N+11]),(N+14,ab [] 0),(N+15,ag [.int 0<|T+17,.int 0<|T+18,.int 0<|T+19,.int 0<|T+20,.ref<|N+14]),(N+17,ab [] 0),(N+18,ag [.int 0<|T+23,.int 0<|T+24,.int 0<|T+25,.int 0<|T+26,.ref<|N+17]),(N+22,ab [ent "f" (T+28)<|.ref<|N+24,ent "g" (T+29)<|.ref<|N+26] 2),(N+23,ab [] 0),(N+25,ab [] 0)]:Led)
def OE(P:aE)(S:bt)(n m O a i b c d e:Nat)(J:S9):Q7:=λb1 b2 N T Z Tx R=>ae [7,3,6,1,2,3,4,4,1,2,3,4,4,1,2,3,4,4,1,2,3,4,4,1,2,1,2,3,8,3,3,1] [N,a,N+1,a,N+1,N+3,N+2,N+1,a,N+1,N+3,N+2,N+1,a,N+1,N+3,N+2,N+1,a,N+1,N+3,N+2,N+1,a,N+1,N+17,N,N+3,N+18,N,i,N+23]<|rj P 490 (aS tS (.ref<|N+27)<|aT 130<|N+4) [(P.d1+4,aO P S.ln O),(P.lf+4,aa (aC S.aN) n),(P.pb+4,aa (b7 S.ps) m),(N+4,ao [ent "reader" T<|.ref<|P.rd+4,ent "names" (T+1)<|.ref<|a+4,ent "calls" (T+2)<|.ref<|i+4,ent "books" (T+27)<|.ref<|N+6,ent "tables" (T+32)<|.ref<|N+22] 5),(N+27,av "list_iterator" [.ref<|i+4,.int 0 0]),(23,J),(N+10,aa [.ref<|N+9] 0),(N+13,aa [.ref<|N+12] 0),(N+16,aa [.ref<|N+15] 0),(N+19,aa [.ref<|N+18] 0),(N+24,aa [.ref<|N+23] 0),(N+26,aa [.ref<|N+25] 0)] (qT N b c d e T++Z) (λf Q u r Tz TF TB L x z B D F H j=>∀Tr Tt:Nat,ae [1] [N]<|oZ P (cp 125 [.ref<|P.rd+4]) [(P.d1+4,aO P f.ln Q),(P.lf+4,aa (aC f.aN) u),(P.pb+4,aa (b7 f.ps) r)] ((j++qT N b c d e T)++Z) (λg U v s l Y o=>∀k Tu:Nat,ae [2] [N]<|R (H7<|.ref<|k+4) [aO P g.ln U,aa (aC g.aN) v,aa (b7 g.ps) s,L] [] (((k+4,ag [.bool true,.ref<|l+4,.ref<|N+6,.ref<|N+22])::zv N x z B D F H)++(((l+4,aa Y 4)::o)++(j++qT N b c d e T))) [])) (λq Tw h V w t TA TG TC M y A C E G I p=>∀Ts Tv:Nat,R (H7<|.ref<|q+4) [aO P h.ln V,aa (aC h.aN) w,aa (b7 h.ps) t,M] [] (zv N y A C E G I++(p++qT N b c d e T)) [])
theorem GN(P:aE)(S:bt)(n m h b a i j c d e f:Nat)(k:List va)(g:S9):CK w [(P.d1+4,aO P S.ln h),(P.lf+4,aa (aC S.aN) n),(P.pb+4,aa (b7 S.ps) m),(23,g)] [(P.rd+4,eI 100 P.d1),(P.src+4,eI 100 P.d2),(P.d2+4,ka P.tk P.i7 P.fn),(P.fn+4,j2 (P.cl+4) (P.co+4)<|P.ct+4),(P.co+4,j6 P.tk P.x),(P.cl+4,jS P.lf),(b+4,aa [.str "a"<|c+1,.str "b c"<|d+1,.str ""<|e+1,.str "\"q"<|f+1] i),(a+4,aa k j)] [AH P 490,cLine P] (Vh (.ref 130) ⟨[.ref<|P.rd+4,.ref<|b+4,.ref<|a+4],[]⟩) (OE P S n m h b a c d e f g):=aV 391 192 0xefc49b621cd019fdbd7d1f209e39b55a380d3a559efe7fdb8458b9e3505e778266a29dfbb0f7d5e288b78ab506ac47fd09e1c335096652f813c7e494f6971bd6b12dda525f21b4063e36dc8b68883bae693c95735fc011032268ee96217b8336b62ba9e26d787bdf2d4aa062d11cef57fcac426eb7b3cde4c35301c2b2ea302ca51b98c022ee1c533d94f43ec1ed9bb49c514f403263d73a3430c18e88907cc5c78599883a10b6880e708eb33399a3bfcd5b894de3317423e94e010cad8d0231903e700a3131b2dc3203eab6be
def dE(l:List (SX×Nat×Nat)):List SS:=l.map λp=>⟨cu w p.1,.str p.1<|p.2.1+1,.ref<|p.2.2+4⟩
noncomputable def nA(l:List (SX×Nat×Nat)):List (SX×Nat):=l.map λp=>(p.1,p.2.2)
theorem mD(l:List (SX×Nat×Nat)):StrKeys (dE l):=λe h=>by
 refine aI (bO h) λp b a=>?_;subst a
 exact cA p.1 (p.2.1+1) rfl (mQ w p.1)
theorem FV(x:SX)(t:Xi):isKey x (.str x t)=true:=by rw[sg];exact beq_self_eq_true x
theorem RS(h:x≠y):isKey x (.str y t)=false:=by rw[sg];exact beq_false_of_ne h.symm
theorem ou:∀{l:List (SX×Nat×Nat)},((nA l).map (·.1)).Nodup->∀p∈nA l,bY p.1 (dE l)=some (.ref<|p.2+4):=by
 intro l;induction l with
 |nil=>intro g g h;exact nomatch h
 |cons q l a=>
  intro d p h;obtain⟨b,c⟩:=Vs.mp (show(q.1::(nA l).map (·.1)).Nodup from d);show(match isKey p.1 (.str q.1<|q.2.1+1) with|true=>some (VV<|q.2.2+4)|false=>bY p.1<|dE l)=_;rcases bK (show p∈(q.1,q.2.2)::nA l from h) with rfl|h
  ·rw[show isKey q.1 (.str q.1<|q.2.1+1)=true from FV ..]
  ·have:p.1≠q.1:=λe=>b<|e▸U9 (f:=λx:SX×Nat=>x.1) h
   rw[show isKey p.1 (.str q.1<|q.2.1+1)=false from RS this];exact a c p h
theorem B4{D:SX->Tg}:∀{l:List (SX×Nat×Nat)},(∀p∈nA l,Tells Z (.ref<|p.2+4)<|D p.1)->a7 Z (dE l) (bu<|(nA l).map λp=>(p.1,D p.1)):=by
 intro l;induction l with
 |nil=>intro c;exact .nil
 |cons q l b=>intro h;exact .cons (h (q.1,q.2.2)<|.head _)<|b λp a=>h p<|.tail _ a
theorem Mu{k:Type}(h:[j,a,b,c].Nodup)(d e g i:k):∃f:SX->k,f j=d/\f a=e/\f b=g/\f c=i:=by
 simp only[Vs,V2,Vn,or_false,not_or] at h;refine hide λQ r=>ei h λs t q u=>?_;obtain⟨l,m,n⟩:=s;obtain⟨o,p⟩:=t
 refine r<|(hO (bG (bG (bG (λu=>d) a e) b g) c i) ?_ ?_ ?_<|iy ..)
 ·rw[fV _ _ n,fV _ _ m,fV _ _ l]
 ·rw[fV _ _ p,fV _ _ o,iy]
 ·rw[fV _ _ q,iy]
theorem Iu{e:Type}(h:[d,a].Nodup)(b c:e):∃f:SX->e,f d=b/\f a=c:=by
 simp only[Vs,V2,Vn,or_false] at h;exact aX (bG (λg=>b) a c) (fV _ _ h.1)<|iy ..
theorem oR.open(h:oR P X a):∃b f,a=ao (cg P X++b) f:=by
 rcases h with rfl|⟨l,m,n,o,q,r,s,t,rfl|⟨e,c,d,j,g,i,rfl⟩|⟨e,c,d,j,g,i,k,p,rfl⟩⟩
 ·exact cG [] 5<|by rw[aP]
 ·exact cG _ _ rfl
 ·exact cG _ _<|by rw[aZ]
 ·exact cG _ _<|by rw[aZ,aZ]
noncomputable def names4:List SX:=["a","b c","","\"q"]
noncomputable def cH:List SX:=["f","g"]
def m9(a:Bool×List (Int×SX)×bU):Tg:=.tuple [.bool a.1,.list<|a.2.1.map item,.dict<|bu<|names4.map λx=>(x,.list<|(a.2.2.bk x).map gk),.dict<|bu<|cH.map λx=>(x,.list<|(a.2.2.tb x).map gE)]
noncomputable def cL:bU:=⟨[],λa=>[(⟨0,0,0,0⟩,[])],λa=>[[]]⟩
theorem B5{e f:List (SX×Nat×Nat)}{m l:SX->List va}{ne A:SX->Nat}{b:Bool×List (Int×SX)×bU}(h:(nA e).map (·.1)=names4)(i:(nA f).map (·.1)=cH)
  (r:(d+4,ag [.bool b.1,.ref<|a+4,.ref<|g+4,.ref<|k+4])∈Z) (q:(a+4,aa j 4)∈Z) (s:ak Z j (b.2.1.map item)) (n:(g+4,ab (dE e) 4)∈Z) (o:(k+4,ab (dE f) 2)∈Z)
  (v:∀p∈nA e,(p.2+4,aa (m p.1)<|ne p.1)∈Z) (w:∀p∈nA f,(p.2+4,aa (l p.1)<|A p.1)∈Z) (y:hV Z (nA e) m b.2.2.bk) (z:hJ Z (nA f) l b.2.2.tb):Tells Z (.ref<|d+4) (m9 b):=by
 have t:4=(dE e).length:=by have:=congrArg Tn h;simp only[nA,aM] at this;unfold dE;rw[aM,this];rfl
 have u:2=(dE f).length:=by have:=congrArg Tn i;simp only[nA,aM] at this;unfold dE;rw[aM,this];rfl
 refine .tup r (.cons (.bool _)<|.cons (.lst q s)<|.cons ?_<|.cons ?_ .nil)
 ·rw[<-h,Vb]
  exact .iW n t (B4 (D:=λx=>.list<|(b.2.2.bk x).map gk) λp c=>.lst (v p c)<|y p c)
 ·rw[<-i,Vb]
  exact .iW o u (B4 (D:=λx=>.list<|(b.2.2.tb x).map gE) λp c=>.lst (w p c)<|z p c)
theorem uI:names4.Nodup:=by decide+kernel
theorem nR:cH.Nodup:=by decide+kernel
theorem da{Z:Led}{l:Led}{p:Nat×S9}(i:Nat)(h:l[i]?=some p):p∈l++Z:=bq<|Vf h
theorem rN(h:(a+4,ag [.int 0<|c+1,.int 0<|e+1,.int 0<|f+1,.int 0<|g+1,.ref<|d+4])∈Z)(b:(d+4,ab [] 0)∈Z):Tells Z (.ref<|a+4) (gk (⟨0,0,0,0⟩,[])):=
 .tup h (.cons (.int _ _)<|.cons (.int _ _)<|.cons (.int _ _)<|.cons (.int _ _)<|.cons (.iW b rfl .nil) .nil)
theorem r3{A B F D Z:Led}:∀p∈F++(D++Z),p∈(A++(B++(F++D)))++Z:=λp h=>by
 rw[<-aZ] at h;exact(bB h).elim (λh=>bq<|az<|az h) λh=>az h
theorem fp{x:Nat×S9}:∀p∈a++((F++D)++Z),p∈(A++((x::a)++(F++D)))++Z:=λp h=>by
 rw[<-aZ] at h;exact(bB h).elim (λh=>bq<|az<|.tail _ h) λh=>az h
theorem qg{A F D Z:Led}:∀p∈F++(D++Z),p∈(A++(F++D))++Z:=λp h=>by
 rw[<-aZ] at h;exact(bB h).elim (λh=>bq<|az h) λh=>az h
theorem lA{A B F D Z:Led}(i:Nat)(h:A[i]?=some p):p∈(A++(B++(F++D)))++Z:=bq<|da i h
theorem zM{A B F D Z:Led}(i:Nat)(h:D[i]?=some p):p∈(A++(B++(F++D)))++Z:=bq<|az<|az<|az<|Vf h
theorem mS{A F D Z:Led}(i:Nat)(h:A[i]?=some p):p∈(A++(F++D))++Z:=bq<|da i h
theorem zG{A F D Z:Led}(i:Nat)(h:D[i]?=some p):p∈(A++(F++D))++Z:=bq<|az<|az<|Vf h
noncomputable abbrev runC(P:aE)(b a:Nat):Td:=.call (.ref 130) ⟨[.ref<|P.rd+4,.ref<|b+4,.ref<|a+4],[]⟩
inductive Lk(P:aE)(Z:Led)(ln:Int)(aN:List (Nat×Nat))(res:Bool×List (Int×SX)×bU)(r:Vz)(objs:List S9)(new F ro:Led):Prop
 |mk (h1:new=[]/\ro=[]) (d a n m tb) (h2:r= .ok (.ret<|.ref<|d+4)) (h3:objs=[aO P ln a,aa (aC aN) n,aa (b7 []) m,tb]) (h4:bC tb) (h5:Tells (F++Z) (.ref<|d+4) (m9 res))
theorem Jk{b:Nat}{P:aE}{S:bt}{v n m t k m1 s H I J L:Nat}{y:List va}{q:S9}{Z:Led}{l:Int}{j:List (Nat×Nat)}{i:List Call}{g:List (Nat×SX)}
  (hb:b+40<=490) (hA:kY.Ok w 580) (C:∀p∈bp P,p∈Z) (TH:(t+4,aa [.str "a"<|H+1,.str "b c"<|I+1,.str ""<|J+1,.str "\"q"<|L+1] m1)∈Z) (Tr:(k+4,aa y s)∈Z)
  (TB:fJ Z y i) (TM:∀c∈i,c.2.1∈cH) (TY:i.length<=100) (hn:∀p∈g,p.2∈names4) (hl:g.length=4) (hr:Reads S g ⟨l,j,[]⟩) (hm:∀p∈g,p.1<4) (hS:S.Ok) (hc:j.length<=1000) (TL:bC q):
  SP w b (runC P t k) [(P.d1+4,aO P S.ln v),(P.lf+4,aa (aC S.aN) n),(P.pb+4,aa (b7 S.ps) m),(23,q)] Z (Lk P Z l j<|cD i g cL):=by
 refine GN P S n m v t k m1 s H I J L y q 490 hb (zd rfl) (aj (Gw ar)<|aj (AX<|zd rfl) ay) (λp h=>(bB h).elim (C p)<|aq TH (aq Tr ax) p) λc1 c2 N T TX=>hide λTV hQ=>pL (Mu uI [VV<|N+9] [.ref<|N+12] [.ref<|N+15] [.ref<|N+18]) λO v0 v1 v2 v3=>aI (Iu nR [VV<|N+23] [.ref<|N+25]) λM u0 u1=>hQ ?_;let e:List (SX×Nat×Nat):=[("a",H,N+6),("b c",I,N+9),("",J,N+12),("\"q",L,N+15)];let f:List (SX×Nat×Nat):=[("f",T+28,N+20),("g",T+29,N+22)];let X:dq:={fa:=N,nm:=t,cl:=k,bo:=N+2,ta:=N+18,k0:=T,k1:=T+1,k2:=T+2,k3:=T+27,k4:=T+32,m6:=4,nq:=2,oi:=N+23,cn:=s,fZ:=y,f9:=dE e,fW:=dE f};have A:∀{G:Led},∀p∈Z,p∈G++Z:=λp h=>az h
 have TO:∀x∈names4,∃a,(x,a)∈nA e:=λx E=>by
  have F:x∈(nA e).map (·.1):=E;refine aI (bO F) λp B o=>?_;subst o
  exact⟨p.2,B⟩
 have TP:∀x∈cH,∃a,(x,a)∈nA f:=λx E=>by
  have F:x∈(nA f).map (·.1):=E;refine aI (bO F) λp B o=>?_;subst o
  exact⟨p.2,B⟩
 have TQ:cL.Inv 1:=⟨λx=>⟨by simp[cL],by simp[cL],by simp[cL]⟩,λx=>⟨by simp[cL],by simp[cL],by simp[cL]⟩⟩;have z:∀G:Led,(N+6,ab (dE e) 4)∈G++Z->(N+22,ab (dE f) 2)∈G++Z->hV (G++Z) (nA e) O cL.bk->hJ (G++Z) (nA f) M cL.tb->
   SP w 490 (kn X) (lL P X S v n m (ao (cg P X) 5) (aF k 0) q++[(N+10,aa [VV<|N+9] 0),(N+13,aa [.ref<|N+12] 0),(N+16,aa [.ref<|N+15] 0),(N+19,aa [.ref<|N+18] 0)]++[(N+24,aa [VV<|N+23] 0),(N+26,aa [.ref<|N+25] 0)]) (G++Z) (lS P (G++Z) X (nA e) (nA f) l j<|cD i g cL):=by
  intro G g1 g2 g3 g4;have z:=Oy (b:=490) (P:=P) (X:=X) (d:=nA e) (e:=nA f) (c:=l) (a:=j) (zd rfl) hA rfl rfl uI nR hc i 0 S v n m (ao (cg P X) 5) q O M (λQ=>0) (λQ=>0) (G++Z) g cL 1
   ⟨λp h=>A p<|C p h,g1,mD e,ou uI,g2,mD f,ou nR,A _ Tr⟩ (TB.sub A) (λc h=>TP _<|TM c h) (λp h=>TO _<|hn p h) hl hr hm hS rfl TL (.inl rfl) g3 g4 TQ (by lia)
  have e1:bZ (nA e) O (λQ=>0)=[(N+10,aa [VV<|N+9] 0),(N+13,aa [.ref<|N+12] 0),(N+16,aa [.ref<|N+15] 0),(N+19,aa [.ref<|N+18] 0)]:=by
   rw[<-v0,<-v1,<-v2,<-v3];rfl
  have e2:bZ (nA f) M (λQ=>0)=[(N+24,aa [VV<|N+23] 0),(N+26,aa [.ref<|N+25] 0)]:=by rw[<-u0,<-u1];rfl
  rw[e1,e2] at z;exact z
 refine ah ?_;apply rj.mk;case h0=>
  refine z _ (da 0 rfl) (da 9 rfl) ?_ ?_
  ·exact fc (by rw[v0];exact .cons (rN (da 2 rfl)<|da 1 rfl) .nil)<|fc (by rw[v1];exact .cons (rN (da 4 rfl)<|da 3 rfl) .nil)<|fc (by rw[v2];exact .cons (rN (da 6 rfl)<|da 5 rfl) .nil)<|fc (by rw[v3];exact .cons (rN (da 8 rfl)<|da 7 rfl) .nil) fz
  ·exact fc (by rw[u0];exact .cons (.iW (a:=N+19) (n:=0) (da 10 rfl) rfl .nil) .nil)<|fc (by rw[u1];exact .cons (.iW (a:=N+21) (n:=0) (da 11 rfl) rfl .nil) .nil) fz
 case h1=>
  refine vu λG V=>?_
  rintro r T1 TZ TU ro ⟨⟨rfl,rfl⟩,R,Tv,n',m',fr,it,u,Tz,Tu,Tx,Tw,rfl,TA,TC,⟨Ts,TF⟩,Y,Tt⟩;refine fg TF.open λU nn o=>?_;subst o
  rcases TC with⟨h1,rfl,TR,TG,TK,TJ⟩|⟨h1,rfl,d,a,TS,rfl,hd,ha,D⟩
  ·refine V ⟨⟨rfl,rfl⟩,R,Tv,n',m',U,nn,it,u,_,_,_,_,_,_,rfl,?_⟩
   refine .inl ⟨rfl,λN2 T2=>ah ⟨R,⟨l,j,[]⟩,_,_,_,TR,rfl,λp h=>A p<|C p h,rfl,TA,TJ,TG,λT4 n2 s a TS F2 D N3 T3=>ah ⟨⟨rfl,rfl⟩,N3,_,_,_,u,rfl,rfl,Ts,?_⟩⟩⟩;refine B5 (e:=e) (f:=f) (g:=N+2) (k:=N+18) (m:=Tz) (l:=Tx) (ne:=Tu) (A:=Tw) rfl rfl (by rw[h1];exact lA 0 rfl) (bq<|az<|bq<|.head _) (by rw[TK];exact D.sub fp) (zM 0 rfl) (zM 9 rfl) ?_ ?_ (Y.sub r3) (Tt.sub r3)
   ·exact fc (lA 1 rfl)<|fc (lA 2 rfl)<|fc (lA 3 rfl)<|fc (lA 4 rfl) fz
   ·exact fc (lA 5 rfl)<|fc (lA 6 rfl) fz
  ·refine V ⟨⟨rfl,rfl⟩,_,Tv,n',m',U,nn,it,u,_,_,_,_,_,_,rfl,?_⟩
   refine .inr (dR d a rfl hd (λN2 T2=>?_));refine⟨⟨rfl,rfl⟩,d,_,_,_,u,rfl,rfl,Ts,?_⟩;refine B5 (e:=e) (f:=f) (g:=N+2) (k:=N+18) (m:=Tz) (l:=Tx) (ne:=Tu) (A:=Tw) rfl rfl (by rw[h1];exact qg _ hd) (qg _ ha) (D.sub qg) (zG 0 rfl) (zG 9 rfl) ?_ ?_ (Y.sub qg) (Tt.sub qg)
   ·exact fc (mS 0 rfl)<|fc (mS 1 rfl)<|fc (mS 2 rfl)<|fc (mS 3 rfl) fz
   ·exact fc (mS 4 rfl)<|fc (mS 5 rfl) fz
section
variable{a:Y7}{A:Wr}{E:va->Tf->Prop}{s:Tf}
theorem zH{g:Array va}{Q:va->Tf->Prop}(f:s.heap.IsTupleIter b t i)(n:s.heap.IsTuple t g)(p:g[i]?=some x)
  (j:∀e,e.IsTupleIter b t (i+1)->Vq b s.heap e->Q x {s with heap:=e}):To (Vy a w) A (WI<|.ref b) Q E s:=by
 refine hide λr h=>dB (id f) λo d k c=>dB n λv m y q=>aw q λu l=>?_
 refine h ?_;refine SU<|VH (name:="__next__") f.typeIs Wx<|V1 Wx f.typeIs Zv ?_<|Zl _;show To _ _ (field (.ref b) 0>>=_) _ _ s;refine bF d c (x:=.ref t) rfl ?_;show To _ _ (if(VV t==SY)=true then _ else _) _ _ s;refine wN (show ¬((VV t==SY)=true) from Vx) ?_;show To _ _ (field (.ref b) 1>>=_) _ _ s;refine bF d c (x:=.int i 0) rfl ?_;show To _ _ (X7 (.ref t)>>=_) _ _ s;refine bI m l ?_;dsimp only;rw[show g[(i:Int).toNat]?=some x from p];refine bS d c (by simp)<|Te<|aX x rfl (Te<|j _ ?_<|VU ..);exact aY _ (YT _ d<|S9.isFreed_of_fields<|S9.data_mapFields c _) ((S9.cls_mapFields ..).trans k) (by
  rw[S9.data_mapFields c];simp[Wy])
theorem Np{h:Array va}{Q:va->Tf->Prop}(m:A.handled=none)(f:s.heap.IsTupleIter b t i)(p:s.heap.IsTuple t h)(q:h[i]?=none)
  (j:∀c e,Vm.ExtBut b s.heap c->(∃o,c.get? e=some o/\o.cls= .type "StopIteration")->E (.ref e) {s with heap:=c}):To (Vy a w) A (WI<|.ref b) Q E s:=by
 refine hide λu k=>dB (id f) λo g v d=>dB p λz n B r=>aw r λy l=>k<|SU<|VH (name:="__next__") f.typeIs Wx<|V1 Wx f.typeIs Zv ?_<|Zl _;show To _ _ (field (.ref b) 0>>=_) _ _ s;refine bF g d (x:=.ref t) rfl ?_;show To _ _ (if(VV t==SY)=true then _ else _) _ _ s;refine wN (show ¬((VV t==SY)=true) from Vx) ?_;show To _ _ (field (.ref b) 1>>=_) _ _ s;refine bF g d (x:=.int i 0) rfl ?_;show To _ _ (X7 (.ref t)>>=_) _ _ s;refine bI n l ?_;dsimp only;rw[show h[(i:Int).toNat]?=none from q];refine bR (bS g d (by simp) ?_);exact zz m<|j _ _ (((VU ..).extBut.push _).push _)<|aX _ (VT _ rfl) rfl
def iB(z i j c d e g:WO)(m n:Array va)(f:va)(k:Nat)(h:Vm):Prop:=
 IsZip h z i j f/\IsPair h i (.ref c) (.ref d)/\(∃l b,IsPair h j l b)/\h.IsTupleIter c e k/\h.IsTupleIter d g k/\h.IsTuple e m/\h.IsTuple g n
variable{z c b d e f g:WO}{h i:Array va}{k:Nat}
theorem PE{Q:va->Tf->Prop}(D:ZipApart z c b d e f g)(st:iB z c b d e f g h i .none k s.heap)(hx:h[k]?=some x)(hy:i[k]?=some y)
  (hQ:∀(F:Vm) (T:WO),iB z c b d e f g h i (Wy T) (k+1) F->IsPair F T x y->s.heap.objs.size<=T->(∀j o,j∉[z,b,d,e]->s.heap.get? j=some o->F.get? j=some o)->Q (.ref T) {s with heap:=F}):
  To (Vy a w) A (Tj.«zip.__next__» ⟨[.ref z],[]⟩) (λTu s'=>∃Tr,Tu= .done (.ret Tr)/\Q Tr s') E s:=by
 refine hide λGq L=>oP st λu V TH h1 h2 S U=>?_;obtain⟨Tt,J,TA⟩:=TH
 refine L ?_;show To _ _ (field (.ref z) 2>>=_) _ _ _;refine bF u rfl (x:=.bool false) rfl ?_;show To _ _ (field (.ref z) 3>>=_) _ _ _;refine bF u rfl (x:=.ref c) rfl (bI V rfl (SU (m:=Yr<|.ref z) ?_));refine bF u rfl (x:=.none) rfl (Te ?_);refine bR (bF u rfl (x:=.ref b) rfl (kL u (by simp) λg1 M p=>SU ?_));replace M:IsZip g1 z c b .ellipsis:=M;show To _ _ ((_>>=_)>>=_) _ _ _;refine SU<|SU<|XF<|SU (m:=WI<|.ref d)<|zH (h1.extBut p.extBut D.i1z) (S.extBut p.extBut D.l1z) hx λg2 Tv q=>Te ?_;have Z:IsPair g2 b Tt J:=q.extBut _ _ D.TOi1<|p.extBut _ _ D.TOz TA;refine bI Z rfl (SU<|wpAny_updateSeq_pair Z λg3 P r=>bL<|Te ?_);replace P:IsPair g3 b x J:=P;refine SU (SU (XF (SU (m:=WI<|.ref e) (zH (((h2.extBut p.extBut D.i2z).extBut q.extBut D.i12.symm).extBut r.extBut D.TOi2.symm)
  (((U.extBut p.extBut D.l2z).extBut q.extBut D.l2i1).extBut r.extBut D.l2TO) hy λg4 Tx v=>Te ?_))))
 have o4:IsPair g4 b x J:=v.extBut _ _ D.TOi2 P;refine bI o4 rfl (SU<|wpAny_updateSeq_pair o4 λg5 H B=>bL<|Te<|Te ?_);replace H:IsPair g5 b x y:=H;refine bI H rfl (SU<|wpAny_newTuple<|SU (m:=Tj.SmallTypes.ownedTupleHandOut (.ref z)<|.ref g5.objs.size) ?_);have TJ:∀j o,j∉[z,b,d,e]->s.heap.get? j=some o->g5.get? j=some o:=λj o n l=>by
  simp only[V2,Vn,or_false,not_or] at n;exact ei n λC R c3 c4=>B.extBut _ _ R (v.extBut _ _ c4<|r.extBut _ _ R<|q.extBut _ _ c3<|p.extBut _ _ C l)
 have Y:IsZip g5 z c b .ellipsis:=B.extBut _ _ D.TOz.symm<|v.extBut _ _ D.i2z.symm<|r.extBut _ _ D.TOz.symm<|q.extBut _ _ D.i1z.symm M;have Tw:g5.IsTupleIter d f (k+1):=((Tv.extBut r.extBut D.TOi1.symm).extBut v.extBut D.i12).extBut B.extBut D.TOi1.symm;have Tz:g5.IsTupleIter e g (k+1):=Tx.extBut B.extBut D.TOi2.symm;have Ts:z<g5.objs.size:=VN Y;have TB:IsZip (g5.push {cls:=.type "tuple",data:=.seq #[x,y]}) z c b .ellipsis:=Vw _ Y;refine kL TB (by simp) λg7 N s7=>?_
 replace N:IsZip g7 z c b (Wy g5.objs.size):=N;refine ZC N (by simp) λt O s8=>?_
 replace O:IsZip t z c b (Wy g5.objs.size):=O;have I:∀j o,j≠z->g5.get? j=some o->t.get? j=some o:=λj o C l=>s8.extBut _ _ C<|s7.extBut _ _ C<|Vw _ l
 have T8:IsPair t g5.objs.size x y:=s8.extBut _ _ (YL Ts)<|s7.extBut _ _ (YL Ts)<|VT _ rfl;have sz:s.heap.objs.size<=g5.objs.size:=Th (by rw[B.1,v.1,r.1,q.1,p.1]);have G:∀(j:WO),j∉[z,b,d,e]->∀o,s.heap.get? j=some o->t.get? j=some o:=λj n o l=>I j o (λl=>n<|by simp[l])<|TJ j o n l
 have TG:c∉[z,b,d,e]:=by simp[D.TIz,D.TITO,D.TIi1,D.TIi2]
 have TC:f∉[z,b,d,e]:=by simp[D.l1z,D.l1TO,D.l1i1,D.l1i2]
 have TF:g∉[z,b,d,e]:=by simp[D.l2z,D.l2TO,D.l2i1,D.l2i2]
 refine hide λGq L=>aI S λoA eA rA=>aI U λoB eB rB=>aI Tw λoC eC rC=>aI Tz λoD eD rD=>L<|Te<|aX _ rfl (hQ t _ ⟨O,G c TG _ V,cG _ _<|I _ _ D.TOz H,aX oC (I _ _ D.i1z eC) rC,aX oD (I _ _ D.i2z eD) rD,aX oA (G f TC _ eA) rA,aX oB (G g TF _ eB) rB⟩ T8 sz λj o n l=>G j n o l)
end
section
variable{a:Y7}{A:Wr}{E:va->Tf->Prop}{s:Tf}
variable{z d b c e g h:WO}{j l:Array va}{k:Nat}
theorem Nm{Q:Fin->Tf->Prop}(L:A.handled=none)(D:ZipApart z d b c e g h)(st:iB z d b c e g h j l .none k s.heap)(O:j[k]?=none)
  (G:∀q f,(∀n o,n∉[z,b,c,e]->s.heap.get? n=some o->q.get? n=some o)->(∃o,q.get? f=some o/\o.cls= .type "StopIteration")->E (.ref f) {s with heap:=q}):
  To (Vy a w) A (Tj.«zip.__next__» ⟨[.ref z],[]⟩) Q E s:=by
 refine hide λQ H=>oP st λi N R F U M V=>?_;obtain⟨S,T,Y⟩:=R
 refine H ?_;show To _ _ (field (.ref z) 2>>=_) _ _ _;refine bF i rfl (x:=.bool false) rfl ?_;show To _ _ (field (.ref z) 3>>=_) _ _ _;refine bF i rfl (x:=.ref d) rfl (bI N rfl (SU (m:=Yr<|.ref z) ?_));refine bF i rfl (x:=.none) rfl (Te ?_);refine bR (bF i rfl (x:=.ref b) rfl (kL i (by simp) λg1 t u=>SU ?_));replace t:IsZip g1 z d b .ellipsis:=t;show To _ _ ((_>>=_)>>=_) _ _ _;refine SU<|SU<|XF<|SU (m:=WI<|.ref c)<|Np L (F.extBut u.extBut D.i1z) (M.extBut u.extBut D.l1z) O λg2 f B I=>aI I λP r v=>?_
 have y:IsZip g2 z d b .ellipsis:=B _ _ D.i1z.symm t;have J:f≠z:=λx=>by subst x;rw[y] at r;cases r;simp at v
 refine ZC y (by simp) λg3 Z C=>G g3 f (λn o p x=>?_)<|aX P (C.extBut _ _ J r) v
 simp only[V2,Vn,or_false,not_or] at p;exact C.extBut _ _ p.1<|B _ _ p.2.2.1<|u.extBut _ _ p.1 x
theorem iB.type(st:iB z d b c e g h j l f k s.heap):s.TypeIs (.ref z) "zip":=aX _ st.1 rfl
theorem iB.frame(st:iB z d b c e g h j l f k m)(H:∀i∈[z,d,b,c,e,g,h],∀o,m.get? i=some o->n.get? i=some o):iB z d b c e g h j l f k n:=by
 refine hide λQ v=>oP st λy w G I J L M=>?_;obtain⟨p,i,x⟩:=G;obtain⟨B,q,N⟩:=I;obtain⟨C,r,O⟩:=J;obtain⟨D,t,P⟩:=L;obtain⟨F,u,R⟩:=M
 exact v<|⟨H z (by simp) _ y,H d (by simp) _ w,cG p i<|H b (by simp) _ x,aX B (H c (by simp) _ q) N,aX C (H e (by simp) _ r) O,aX D (H g (by simp) _ t) P,aX F (H h (by simp) _ u) R⟩
theorem La(Z:A.handled=none)(D:ZipApart z d b c e g h)(v:j.size=l.size):
  WalksU a w A z [z,d,b,c,e,g,h] [z,b,c,e] j.size (λi Tz=>∃x y,j[i]?=some x/\l[i]?=some y/\Tz= #[x,y])
   (λi f=>iB z d b c e g h j l .none i f) (λi T f=>iB z d b c e g h j l (Wy T) (i+1) f/\T∉[z,b,c,e]) where
 sub:=λt q=>by simp only[V2,Vn,or_false] at q⊢;rcases q with rfl|rfl|rfl|rfl<;>simp
 frame:=λi f p st hk=>st.frame hk
 item:=λi s Q E B st m=>by
  refine bA (VH (name:="__next__") st.type Zm (V1 Zm st.type F.entry_zip_next
   (PE D st (Xd B) (Xd<|v▸B) λp T M N O P=>Te<|m T _ p s.toks (dR _ _ (Xd B) (Xd<|v▸B) rfl) (aY _ N rfl (aB _ rfl)) ⟨M,?_⟩ P) (F.args_zip_next_1 _)))
  intro r;refine lU st λH L Tv Tw Tx zu=>?_;obtain⟨I,J,G⟩:=Tv;obtain⟨o1,R,_⟩:=Tw;obtain⟨o2,S,_⟩:=Tx
  have C:∀{t o},s.heap.get? t=some o->T≠t:=λu x=>W6 T<|YA (x▸VN u) O
  simp only[V2,Vn,or_false] at r;rcases r with f|f|f|f
  ·exact C H f
  ·exact C G f
  ·exact C R f
  ·exact C S f
 go:=λTA k TB i T s Q E r m=>by
  refine hide λGq Y=>a0 r λTu zu=>?_;obtain⟨H,L,⟨I,J,G⟩,U,V,Tr,Ts⟩:=Tu
  exact Y<|wpAny_letOwnedTupleGo_zip H λp Tt n=>m p ⟨Tt,n.extBut _ _ D.TIz L,cG I J<|n.extBut _ _ D.TOz G,U.extBut n.extBut D.i1z,V.extBut n.extBut D.i2z,Tr.extBut n.extBut D.l1z,Ts.extBut n.extBut D.l2z⟩
   λt o q u=>n.extBut _ _ (λx=>q<|by simp[x]) u
 apart:=λi T f r=>r.2
 done:=λs Q E st m=>by
  refine bA (VH (name:="__next__") st.type Zm (V1 Zm st.type F.entry_zip_next
   (Nm Z D st (Array.getElem?_eq_none ar) λp u hk v=>?_) (F.args_zip_next_1 _)))
  exact aI v λo ho q=>SU (W7 (T:="StopIteration") (b:=true) (aX o ho q) XX<|Te<|m p s.toks hk)
 self:=λi s Q E st m=>wpAny_pyIter_zip st.1 m
end
noncomputable def uA(h:Expr)(v:va)(a:Zb)(c:Expr)(e:XT)(d:Expr)(g:XT)(i:List Expr)(val:Expr)(b:XT)(fn:Expr):VM (Bool×Bool×Bool×va):=do
 assign h a v
 standAt e
 if<-isTrue c a (eval c a) then do
  standAt g
  if<-isTrue d a (eval d a) then do
   standAt b
   if<-swapsWithSole i val b.line a then pure (true,true,true,.none)
   else do
    let f<-eval fn a
    pure (true,true,false,f)
  else pure (true,false,false,.none)
 else pure (false,false,false,.none)
noncomputable def acRest(g:Expr)(d:va)(a:Zb)(b:List Expr)(val:Expr)(c e:List Wq)(v:va):VM PySem.Fin:=do
 let f<-assignStores a v (<-Z5 b val a) ((assignEach b a).map (·.2));match f with
 | .next| .cont=>again<|.forLoop g d c e a
 | .brk=>pure<|.done .next
 | .ret v=>pure<|.done<|.ret v
theorem Aa(t:Expr)(b o:List Wq)(p:XT)(a:Zb):exec (.If t b o p) a=(do
  standAt p
  if<-isTrue t a (eval t a) then execs b a else execs o a):=by kernel_rfl
theorem FJ(b:List Expr)(val:Expr)(p:XT)(a:Zb):exec (.Assign b val p) a=(do
  standAt p
  if<-swapsWithSole b val p.line a then do
   evalThenUse val a λv=>assignAll v ((assignEach b a).map (·.2))
   pure .next
  else do
   let v<-eval val a
   assignStores a v (<-Z5 b val a) ((assignEach b a).map (·.2))):=by kernel_rfl
theorem H6(s:Wq)(a:Zb):execs [s] a=(do match<-exec s a with
  | .next=>pure .next
  |f=>pure f):=by kernel_rfl
theorem FD(id:SX)(f a e:XT)(c:Expr)(d:List XE)(g:Scope)(b:Zb):eval (.Call (.Name id f) [.GeneratorExp c d g e] [] a) b=(do
  callWith a (<-eval (.Name id f) b) [] (backTo a [(false,eval (.GeneratorExp c d g e) b)]) (backToKw a [])):=by kernel_rfl
section
variable{M:Model}{Γ:Ctx}{α β γ δ:Type}{E:va->XT->Tf->Prop}{p:XT}{s:Tf}{a:Zb}
theorem bm{f:α->VM β}{g:α->VM γ}{F:γ->VM δ}{Q:β->XT->Tf->Prop}{b:δ->XT->Tf->Prop}(h:VG M Γ ((t>>=g)>>=F) b E p s)(k:∀c p s,VG M Γ (g c>>=F) b E p s->VG M Γ (f c) Q E p s):VG M Γ (t>>=f) Q E p s:=by
 rw[WN] at h;exact lR h k
theorem zO(s:Wq)(a:Zb):execs [s] a=exec s a:=by
 rw[H6];exact(congrArg (exec s a>>= ·)<|funext λf=>by cases f<;>rfl).trans (bind_pure _)
variable{F:γ->VM δ}{K:W8->VM β}{Q:β->XT->Tf->Prop}{b:δ->XT->Tf->Prop}
theorem C1{x:γ}(h:VG M Γ ((PySem.standAt f>>=λj=>isTrue d a (eval d a)>>=λc=>if c then g else pure x)>>=F) b E p s)
  (i:∀p s,¬VG M Γ (F x) b E p s) (k:∀p s,VG M Γ (g>>=F) b E p s->VG M Γ (execs e a>>=K) Q E p s):VG M Γ (execs [.If d e o f] a>>=K) Q E p s:=by
 rw[zO,Aa,WN];refine bm h λj q r h=>?_
 rw[WN];refine bm h λc q r h=>?_
 cases c with
 |false=>exact absurd (Z8 x F▸h)<|i _ _
 |true=>exact k _ _ h
theorem R9{d:List Expr}{val fn:Expr}{e:XT}{G:va->VM va}{y:γ}{g:va->γ}(i:eval val a=eval fn a>>=G)
  (h:VG M Γ ((PySem.standAt e>>=λl=>swapsWithSole d val e.line a>>=λc=>if c then pure y else eval fn a>>=λf=>pure<|g f)>>=F) b E p s)
  (j:∀p s,¬VG M Γ (F y) b E p s) (k:∀f p s,VG M Γ (F<|g f) b E p s->VG M Γ ((G f>>=λv=>Z5 d val a>>=λst=>assignStores a v st ((assignEach d a).map (·.2)))>>=K) Q E p s):
  VG M Γ (execs [.Assign d val e] a>>=K) Q E p s:=by
 rw[zO,FJ,WN];refine bm h λl q r h=>?_
 rw[WN];refine bm h λc q r h=>?_
 cases c with
 |true=>exact absurd (Z8 y F▸h)<|j _ _
 |false=>
  show VG M Γ ((eval val a>>=λv=>Z5 d val a>>=λst=>assignStores a v st ((assignEach d a).map (·.2)))>>=K) Q E _ _;rw[i,WN,WN];refine bm h λf q r h=>?_
  rw[Z8] at h;rw[<-WN];exact k f _ _ h
end
theorem Gf{Q:PySem.Fin->Tf->Prop}{E:va->Tf->Prop}
  {z:Expr} {H v:va} {L:List Wq} {n:Zb} {B C g:Expr} {I J:List Wq} {t u x b l j:XT} {o:List Expr} {id:SX} {i:List XE} {m:Scope}
  (h:Xs (Vy y w) A c (uA z v n B t C u o (.Call (.Name id l) [.GeneratorExp g i m j] [] b) x (.Name id l)>>=λa=>(pure (PySem.Fin.done<|if a.1&&a.2.1&&!a.2.2.1 then .ret a.2.2.2 else .brk):VM PySem.Fin))
   (λr O=>∀f,r=PySem.Fin.done f->f= .ret (.type "tuple")/\Xs (Vy y w) A c (callWith b (.type "tuple") [] (backTo b [(false,eval (.GeneratorExp g i m j) n)]) (backToKw b [])>>=acRest z H n o (.Call (.Name id l) [.GeneratorExp g i m j] [] b) [.If B [.If C [.Assign o (.Call (.Name id l) [.GeneratorExp g i m j] [] b) x] J u] I t] L) Q E O) E s):
  Xs (Vy y w) A c (tail3 z H v [.If B [.If C [.Assign o (.Call (.Name id l) [.GeneratorExp g i m j] [] b) x] J u] I t] L n) Q E s:=λM p F G=>by
 have D:=h M p F G;unfold uA at D;unfold tail3;refine bm D λd q r h=>C1 h (λd d h=>nomatch (h _ rfl).1) λq r h=>C1 h (λd d h=>nomatch (h _ rfl).1) λq r h=>R9 (FD ..) h (λd d h=>nomatch (h _ rfl).1) λf q r h=>a0 ((show ∀f,_ from h) _ rfl) λe k=>?_
 cases e
 rw[WN];refine lR (k M q F G) λv q r h=>?_
 unfold acRest at h;rw[WN];refine lR h λst q r h=>lR h λN q r h=>?_
 cases N<;>exact h
noncomputable def Py(a:Bool×Bool×Bool×va):VM PySem.Fin:=pure<|PySem.Fin.done<|if a.1&&a.2.1&&!a.2.2.1 then .ret a.2.2.2 else .brk
def acPreE(e:Expr)(v:va)(a:Zb)(f:Expr)(b:XT)(g:Expr)(c:XT)(h:List Expr)(val:Expr)(d:XT)(fn:Expr):VM PySem.Fin:=uA e v a f b g c h val d fn>>=Py
lay_z acPreE acRest
def DH(s:Wq):Expr×List Wq×List Wq×XT:=(sX s).2
def Lu(s:Wq):List Expr×Expr×XT:=((sX s).1,(sX s).2.1,(sX s).2.2.2.2)
def QA(e:Expr):Expr×List Expr×XT:=((eX e).1,(eX e).2.1,(eX e).2.2.2.2)
def LX(e:Expr):Expr×List XE×Scope×XT:=((eX e).1,(eX e).2.2)
noncomputable def CA:Expr->va->Zb->Expr->XT->Expr->XT->List Expr->Expr->XT->Expr->VM PySem.Fin:=PySem.W.ZFast.zw10886271878377752983
theorem Sj:@acPreE=CA:=PySem.W.ZFast.ze10886271878377752983
noncomputable def Bx:Expr->va->Zb->List Expr->Expr->List Wq->List Wq->va->VM PySem.Fin:=PySem.W.ZFast.zw2786371775093358347
theorem J4:@acRest=Bx:=PySem.W.ZFast.ze2786371775093358347
def g1:=DH<|bJ (cR<|bj 2) 0
def g2:=DH<|bJ g1.2.1 0
def g3:=Lu<|bJ g2.2.1 0
def g4:=QA g3.2.1
def g5:=LX<|g4.2.1.headD<|.Tuple [] 0 ⟨0,0,0,0⟩
def pD(v:va)(a:Zb):VM PySem.Fin:=CA (d6<|bj 2) v a g1.1 g1.2.2.2 g2.1 g2.2.2.2 g3.1 g3.2.1 g3.2.2 g4.1
def lD(c:va)(a:Zb)(b:va):VM PySem.Fin:=Bx (d6<|bj 2) c a g3.1 g3.2.1 (cR<|bj 2) (gU<|bj 2) b
def we(a s d g c n r i m e l o p:Nat)(k:SX)(h:Nat)(ok q:va)(j:Nat)(f:List SS)(t u:Nat->Nat):Q7:=λz A N T Z b R=>ae [4,5,1,6,1,6,1,2,1,6,3] [c,N,c,N,c,N,c,N,N+2,g,d]<|sD (bi "dict.__contains__" [.ref<|d+4,.str k<|h+1]) [(d+4,ab f n)] Z true (∀v x:Nat,ae [1] [g]<|wO (bi "isinstance" [.ref<|j+4,.type "tuple"]) Z (∀w y:Nat,R (H7<|.type "tuple") [ao [ent "target" l<|.ref<|a+4,ent "source" o<|.ref<|s+4,ent "new_callers" p<|.ref<|d+4,ent "func" (t T)<|.str k<|h+1,ent "caller" (u T)<|.ref<|j+4] 5,ab f n,bw r i m e ok q] [] [] []))
noncomputable def Dj:Nat:=0x12f6509c95e2a505fbab897ac2320be842b2fe940164a89dbe8a8b7d5075d
theorem O0(a s d h b c n q i m e j l o:Nat)(k:SX)(r:Nat)(ok p:va)(f:Nat)(g:List SS)(u:List va):a9 w [(b+4,nu j l o a s d),(d+4,ab g n),(h+4,bw q i m e ok p)] [(c+4,ag [.str k<|r+1,.ref<|f+4]),(f+4,ag u)] [jT true,gK,fT,gs,gp] (aS (bj 2) (.ref<|h+4)<|aT 28<|b+4) (pD (.ref<|c+4)<|aT 28<|b+4) (we a s d b c n q i m e j l o k r ok p f g (λt=>t) λt=>t+1):=ba 17 62 Dj
theorem JH(a s d h b c n t i m e j l o p q:Nat)(k x:SX)(u v:Nat)(y ok r:va)(f:Nat)(g:List SS)(z:List va):a9 w [(b+4,c8 j l o p q a s d x v y),(d+4,ab g n),(h+4,bw t i m e ok r)] [(c+4,ag [.str k<|u+1,.ref<|f+4]),(f+4,ag z)] [jT true,gK,fT,gs,gp] (aS (bj 2) (.ref<|h+4)<|aT 28<|b+4) (pD (.ref<|c+4)<|aT 28<|b+4) (we a s d b c n t i m e j l o k u ok r f g (λA=>p) λA=>q):=ba 17 62 Dj
noncomputable def evE(e:Expr)(a:Zb):VM PySem.Fin:=eval e a>>=λv=>pure<|PySem.Fin.done<|.ret v
lay_z evE
noncomputable def P4:List XE->Expr
 |c::_=>c.iter
 |[]=>.Tuple [] 0 ⟨0,0,0,0⟩
noncomputable def bN:Expr->Zb->VM PySem.Fin:=PySem.W.ZFast.zw4132040032627898958
theorem Co:@evE=bN:=PySem.W.ZFast.ze4132040032627898958
def wq:Expr:=P4 g5.2.1
section
variable{a:Y7}{A:Wr}{c:Td}{E:va->Tf->Prop}{s:Tf}
theorem LR{d:Zb}{v:List Expr}{f:Scope}{p:List (SX×WO)}{Q:va->Tf->Prop}
  (M:f.isCoroutine=false) (L:closureFor f d=pure p) (J:∀y∈f.names,y.2≠.cell) (D:f.names.lookup (".0":SX)=some NameKind.local) (N:f.kind= .function) (O:(A.under c).depth<Vv)
  (h:Xs (Vy a w) A c (eval l d) (λo z=>To (Vy a w) (A.under c) (pyIter o) (λj n=>n.heap.NoLimit/\
   To (Vy a w) (A.under c) (genexprCode d m (d.qual++"<genexpr>") f) (λq B=>To (Vy a w) (A.under c) (builtinsFor d.globals d.builtins) (λbi b=>
    ∀i,i.Ns b.heap.objs.size (λy=>if y=".0" then some j else none)->Vq b.heap.objs.size (b.heap.push {cls:=.type "frame",data:=.dict #[]}) i->
     Q (.ref i.objs.size) {b with
      gens:=b.gens.push<|.fresh<|.compStart (.GeneratorExp r [⟨C,l,v,0⟩] f m) 0 j .none<|genEnv f p b.heap.objs.size q bi d,
      toks:=b.toks+1+1+1,
      heap:=i.push {cls:=.type "generator",data:=.fields #[.int b.gens.size 0,.str "<genexpr>"<|b.toks+1,.str (d.qual++"<genexpr>")<|b.toks+1+1]}}) E B) E n) E z) E s)
  (P:∀x,genFold l d x=pure x):Xs (Vy a w) A c (eval (.GeneratorExp r [⟨C,l,v,0⟩] f m) d) Q E s:=by
 rw[eval_GeneratorExp1 _ _ _ _ _ _ _ M,L];refine WL<|Y1 h (λo z F=>Va ?_) λg g e=>e;refine SU<|Y8<|SU<|wpAny_of_eq (P o)<|bH<|YV F (λj n t=>?_) λg g e=>e;refine SU<|wpAny_enterFrame t.1 O<|bP<|SU<|YV t.2 (λq B G=>?_) λg g e=>e;refine SU<|YV G (λbi b H=>?_) λg g e=>e;have I:∀y∈([((".0":SX),j)]:List (SX×va)),f.names.lookup y.1=some NameKind.local:=λy k=>by
  rcases dg k with rfl;exact D
 refine SU (wpAny_newFunctionEnv J I (λi u R=>?_) N);have e:(λy:SX=>([((".0":SX),j)]:List (SX×va)).reverse.lookup y)=λy:SX=>if y=(".0":SX) then some j else none:=by
  funext y;by_cases k:y=".0"
  ·subst k;simp
  ·have:(y==(".0":SX))=false:=by simpa using k
   simp[List.lookup,this,k]
 rw[e] at u;simp only[newGenerator,newFields];exact SU<|wpAny_newGen<|SU<|wpAny_mkText<|SU<|wpAny_mkText<|YK (H i u R)<|by size_fits
end
def BX(k l:Bool)(Z:Led)(b:Nat)(R:aU)(a s d g f n A i m e C D p q t u v:Nat)(x:SX)(h:Nat)(ok y:va)(c:List SS)(B:S9):Prop:=SP (br k l w) b (aS (bj 2) (.ref<|g+4)<|aT 28<|f+4) [(f+4,ao [ent "target" p<|.ref<|a+4,ent "source" q<|.ref<|s+4,ent "new_callers" t<|.ref<|d+4,ent "func" u<|.str x<|h+1,ent "caller" v<|.ref<|D+4] 5),(d+4,ab (c9 x (h+1) (.ref<|C+4) c)<|dI x c n),(g+4,bw A i m e ok y),(23,B)] Z λr o n j z=>R r o n (j++[]) z
def Fm(a s d l f n v i m e g y:Nat)(o p q r t:Nat)(x:PySem.Str)(h:Nat)(ok u:va)(c:List PySem.DictEntry)(w:S9):Q7:=λj k N T Z b R=>ae [2,3] [f,d]<|lF (bi "dict.__setitem__" [.ref<|d+4,.str x<|h+1,.ref<|g+4]) [(d+4,ab c n)] (∀z A:Nat,BX j k Z b R a s d l f n v i m e g y o p q r t x h ok u c w)
theorem EI:a9 w [(b+4,c8 g h j k l a s d x t<|.ref<|u+4),(d+4,ab f n),(c+4,bw p i m e ok o),(23,q)] [] [fT] (aS (bj 2) (.ref<|c+4)<|aT 28<|b+4) (lD (.ref<|c+4) (aT 28<|b+4)<|.ref<|r+4) (Fm a s d c b n p i m e r u g h j k l x t ok o f q):=ba 8 12 0x1c90a0909
def PG(a s d i n e f j k l m o:Nat)(x:SX)(h:Nat)(g:List SS):Q7:=λq r N T Z b R=>ae [3,4] [i,d]<|jH (bi "dict.__getitem__" [.ref<|d+4,.str x<|h+1]) [(d+4,ab g n)] Z (.ref<|f+4) (∀c p:Nat,ae [3,1,3,1,4] [e,c,f,c+1,c+4]<|R (H7<|.ref<|c+8) [ao [ent "target" j<|.ref<|a+4,ent "source" k<|.ref<|s+4,ent "new_callers" l<|.ref<|d+4,ent "func" m<|.str x<|h+1,ent "caller" o<|.ref<|e+4] 5,ab g n] [(c+8,av "zip" [.none,.bool false,.bool false,.ref<|c+6,.ref<|c+7]),(c+6,ag [.ref<|c+4,.ref<|c+5]),(c+7,ag [.none,.none]),(c+4,av "tuple_iterator" [.ref<|e+4,.int 0 0]),(c+5,av "tuple_iterator" [.ref<|f+4,.int 0 0])] [] [])
theorem Q3:a9 w [(b+4,c8 g h i j k a s d x l<|.ref<|c+4),(d+4,ab f n)] [(c+4,ag o),(e+4,ag p)] [jx<|.ref<|e+4] (aS (bj 2) (.ref<|m+4)<|aT 28<|b+4) (bN wq<|aT 28<|b+4) (PG a s d b n c e g h i j k x l f):=ba 20 43 0x8ef19936dec801609efc100ecf7a8e9236ed371ba521d9
def oK(j:Nat):S9:=(kK w j).getD {cls:=.none,data:=.plain}
noncomputable def tJ(o:S9):Array SS:=match o.data with
 | .dict a _=>a
 |_=>⟨[]⟩
noncomputable def Hu(o:S9):Nat:=match o.data with
 | .dict _ n=>n
 |_=>0
noncomputable def I8(o:S9):Array va:=match o.data with
 | .fields a=>a
 |_=>⟨[]⟩
noncomputable def Cv:List SS->Bool
 |[]=>true
 |⟨_,.str _ _,_⟩::r=>Cv r
 |_=>false
theorem JW:∀{l:List SS},Cv l=true->∀e∈l,∃n t,e.key= .str n t:=by
 intro l;induction l with
 |nil=>intro d d h;exact nomatch h
 |cons c r b=>
  obtain⟨_,k,_⟩:=c;intro h e a;cases k with
  |str n t=>
   rcases bK a with rfl|a
   ·exact cG _ _ rfl
   ·exact b h e a
  |_=>cases h
theorem wk(k:KH h (kK w)):h.NoLimit:=aX _ (pB (oK 2) ⟨[]⟩ 0 (k 2 _<|by kernel_rfl) (by kernel_rfl) (λe a=>by simp at a) λb=>rfl) rfl
theorem Mk(k:KH h (kK w)):h.Ns 3 (nsFind<|tJ<|oK 3):=
 pB (oK 3) (tJ<|oK 3) (Hu<|oK 3) (k 3 _<|by kernel_rfl) (by kernel_rfl) (λe a=>JW (l:=(tJ<|oK 3).toList) (by kernel_rfl) e<|by simpa using a) (λb=>rfl)
noncomputable def Nd:Option va->Nat
 |some (.ref a)=>a
 |_=>0
def s6:Nat:=Nd<|nsFind (tJ<|oK 3) "__builtins__"
theorem Nn{E:va->Tf->Prop}{Q:WO->Tf->Prop}(k:KH s.heap (kK w))(h:Q builtinsNs s)(a:Nat):To (Vy b w) A (builtinsFor (aT 28 a).globals (aT 28 a).builtins) Q E s:=by
 have e:(aT 28 a).globals=3:=by kernel_rfl
 rw[e];exact wpAny_builtinsFor (Mk k) (bm:=s6) (by kernel_rfl) (by
  have:Xa s6 builtinsNs=false:=by kernel_rfl
  exact λe=>by rw[e] at this;cases this) (k s6 (oK s6)<|by kernel_rfl) (by kernel_rfl) (by kernel_rfl) (by kernel_rfl) h
noncomputable def vS:va->SX
 | .str s _=>s
 |_=>⟨⟨[]⟩⟩
noncomputable def vT:va->Nat
 | .str _ t=>t
 | .int _ t=>t
 |_=>0
noncomputable def vI:va->Int
 | .int i _=>i
 |_=>0
noncomputable def vB:va->Bool
 | .bool b=>b
 |_=>false
def i3:Array va:=I8<|oK 27
theorem AA(k:KH h (kK w))(a:h.get? 23=some (We ⟨ps⟩))(b:TriplesOk ps):h.IsCode 27 23 ⟨ps⟩/\h.TableAt 27 23 ⟨ps⟩:=by
 have e:h.get? 27=some (oK 27):=k 27 _ (by kernel_rfl);have d:(oK 27).data= .fields i3:=by kernel_rfl
 refine⟨⟨oK 27,i3,vS<|i3.getD 18 .none,vT<|i3.getD 18 .none,vI<|i3.getD 7 .none,vT<|i3.getD 7 .none,vB<|i3.getD 9 .none,vI<|i3.getD 10 .none,vT<|i3.getD 10 .none,_,e,d,by kernel_rfl,by kernel_rfl,by kernel_rfl,by kernel_rfl,by kernel_rfl,a,rfl,b,by decide⟩,
  (pT (oK 27) i3 e (by kernel_rfl) d<|by kernel_rfl),a⟩
section
variable{a:Y7}{A:Wr}{c:Td}{E:va->Tf->Prop}{s:Tf}
theorem MI{Q:va->Tf->Prop}(h:Xs (Vy a w) A c (evE e g) (λr d=>∀v,r= .done (.ret v)->Q v d) E s):Xs (Vy a w) A c (eval e g) Q E s:=λj p k l=>by
 have b:=h j p k l;unfold evE at b;rw[V0] at b;exact V8 _ j _ (λf m d b=>(show ∀v,PySem.Fin.done (.ret f)= .done (.ret v)->Q v d from b) f rfl) (λi i i b=>b) p s b
theorem O7(d:XT)(T:String)(b:VM va):callWith d (.type T) [] (backTo d [(false,b)]) (backToKw d [])=b>>=λv=>callWith d (.type T) [] [(false,pure v)] []:=by
 have e:∀t:VM va,evalArgs (.type T) true [(false,t)] []=t>>=λv=>evalArgs (.type T) true [(false,pure v)] []:=λt=>by
  have q:∃f,∀u,spliced [(false,u)]=u>>=f:=⟨_,λi=>rfl⟩;have h:∃g:List va->VM ZZ,∀u,evalArgs (.type T) true [(false,u)] []=spliced [(false,u)]>>=g:=⟨_,λi=>rfl⟩;refine aw q λf q=>aw h λg h=>?_
  rw[h,q,WN];exact congrArg _<|funext λv=>by rw[h,q,Z8]
 show callWith d (.type T) [] [(false,b)] []=_;have k:∀r:ZZ->VM va,(evalArgs (.type T) true [(false,b)] []>>=r)=b>>=λv=>evalArgs (.type T) true [(false,pure v)] []>>=r:=λr=>by rw[e b,WN]
 exact k _
theorem Sp{d:Zb}{h j:Array va}{F Z:List WO}(hk:d.scope.kind= .function)(I:d.kindOf "i"=some .local)(J:d.kindOf "j"=some .local)
  (H:k= .BinOp (.Name "i" S) .Add (.Name "j" T) U) (P:∀(i:Nat) x,h[i]?=some x->∃p t,x=WC p t) (Q:∀(i:Nat) x,j[i]?=some x->∃p t,x=WC p t):
  QuietGenT a w d "i" "j" [] k F Z (λ(i:Nat) Y=>∃x y,h[i]?=some x/\j[i]?=some y/\Y= #[x,y]) (λb=>true) (λ(i:Nat) y=>∃p q t u v,h[i]?=some (.int p t)/\j[i]?=some (.int q u)/\y=WC (p+q) v) O where
 tests:=λz B i o r V R b b b b b b=>Te ⟨rfl,cA _ _ rfl (λb b e=>e)⟩
 elt:=λz B i o r V R b N b n L M b=>by
  refine hide λTr G=>bE N λx y l m e=>?_
  have C:o=x:=by have:=congrArg (λf:Array va=>f[0]?) e;simpa using this
  have D:r=y:=by have:=congrArg (λf:Array va=>f[1]?) e;simpa using this
  subst C D;refine fg (P i _ l) λp t g=>?_;subst g
  refine fg (Q i _ m) λq u g=>?_;subst g
  refine G ?_;subst H;refine wpAny_BinOp (wpAny_Name (wpAny_loadName_local hk I n L<|wpAny_Name (wpAny_loadName_local hk J n M ?_)<|by decide+kernel)<|by decide+kernel);exact add_int ⟨oY p q t u _ l m rfl,_,_,rfl,λb b e=>e⟩
end
theorem Ro{E:va->Tf->Prop}{s:Tf}{Q:va->Tf->Prop}{h:XT}(k:KH s.heap (kK w))(g:s.heap.get? 23=some t)(z:bC t)(r:h.line=13)(p:h.col=42)(J:4<=s.heap.objs.size)
  (n:∀d a i u,bC u->a.get? 23=some u->s.heap.objs.size<=a.objs.size->(∀b o,b≠23->s.heap.get? b=some o->a.get? b=some o)->Q (.ref d) {s with heap:=a,toks:=i}):
  To (Vy B w) A (genexprCode (aT 28 l) h q C) Q E s:=by
 have j:(aT 28 l).code= .ref 27:=by kernel_rfl
 rcases z with rfl|⟨c,rfl⟩
 ·refine a0 (AA k g trivial) λf m=>wpAny_genexprCodeX j f m rfl λd a i x D F G H y I=>?_
  obtain⟨c,rfl⟩:∃c,d=c+4:=⟨d-4,by exact sL (SQ ‹4<=_› ‹_›)⟩;refine n _ a i _ (.inr ⟨c,?_⟩) y.2 (by lia) x;rw[r,p];rfl
 ·exact a0 (AA k g<|by simp[TriplesOk]) λf m=>wpAny_genexprCode_hit (c':=.ref<|c+4) j f (by rw[codeAmong,r,p];rfl)<|n _ s.heap s.toks _ (.inr ⟨c,rfl⟩) g ar λv v v e=>e
theorem HH{A:Wr}{L Y Z:Led}{g:GB}{d:YD}{y:WU}{Q:va->Tf->Prop}{E:va->Tf->Prop}
  (M:d7 w b c (bN e B) L Z m) (S:A.handled=none) (R:A.depth<=b) (V:A.units<=5*b) (hk:KH k (kK w)) (O:ep k Z) (D:Rep k h (L++Y) N)
  (P:∀r o n F i,m r o n F i->∃v,r= .ok (.ret v))
  (J:∀v a l F i j q s (u:GB),m (H7 v) a l F i->a.length=L.length->Rep k j (a8 L a++(l++F)++Y) q->Q v ⟨j,u,d,s+1,y⟩):
  Xs (Vy Pw w) A c (eval e B) Q E ⟨h,g,d,T+1,y⟩:=by
 refine MI ?_;rw[Co];refine Y1 (M A _ h N T g d y S R V (hk.le D.cV) (λp Tr=>D.cV _ _<|O p Tr) D.frame (λr s1=>∃v,r= .ok (.ret v)/\Q v s1) ?_) (λH s' x=>?_) λe' s' x=>?_
 ·intro r a l F i j q s u z U _ C
  refine aw (P _ _ _ _ _ z) λv Ts=>?_;subst Ts
  exact aX v rfl (J v a l F i j q s u z U<|D.gu<|by rw[<-aZ];exact C)
 ·cases H with
  |done f=>
   refine aI x λv t I=>?_
   intro v' G;cases G;cases t
   exact I
  |again c'=>exact λv e=>by cases e
 ·refine aI x λv t zu=>?_
  cases t
abbrev O1(a b M:Nat):Led:=[(M+8,av "zip" [.none,.bool false,.bool false,.ref<|M+6,.ref<|M+7]),(M+6,ag [.ref<|M+4,.ref<|M+5]),(M+7,ag [.none,.none]),(M+4,av "tuple_iterator" [.ref<|a+4,.int 0 0]),(M+5,av "tuple_iterator" [.ref<|b+4,.int 0 0])]
theorem Ol(y:b+40<=960)(hk:StrKeys c)(A:bY x c=some (.ref<|h+4))(v:(f+4,ag q)∈Z)(z:(h+4,ag t)∈Z):
  d7 w b (c6 2 p g) (bN wq<|aT 28<|g+4) [(g+4,c8 i j k l m a s d x o<|.ref<|f+4),(d+4,ab c n)] Z λr C B F D=>∃M,r= .ok (.ret<|.ref<|M+8)/\C=[c8 i j k l m a s d x o<|.ref<|f+4,ab c n]/\B=O1 f h M/\F=[]/\D=[]:=by
 exact Q3 960 y (zd rfl) (aj pK ay) (aq v<|aq z ax) λE G N T e=>ah ⟨_,_,_,_,_,rfl,hk,.inl rfl,A,λu H=>ah<|di u rfl rfl rfl rfl rfl⟩
theorem BZ(n:Nat):(passing (λa=>true) n 0).length=n:=by
 unfold passing;rw[Vu.mpr λa a=>rfl];simp
theorem QJ(n i:Nat)(h:(passing (λb=>true) n 0)[i]?=some j):j=i:=by
 unfold passing at h;rw[Vu.mpr λb b=>rfl,List.drop_zero] at h;refine aw (Tb.mp h) λc a=>?_
 simp at a;exact a.symm
theorem jo(M i j:Nat)(h:i≠j):M+i≠M+j:=by exact λh=> ‹_≠_› (Nat.add_left_cancel h)
theorem dz(D:Rep b h L N)(i j:Nat)(c:L[i]?=some p)(f:L[j]?=some q)(d:i≠j):p.1≠q.1:=λe=>d<|qd D.nd (a:=p.1) c<|by rw[e];exact f
theorem g0{a:Vm}(h:a.get? x=some o)(b:a.get? y=none):x≠y:=λe=>by rw[e,b] at h;cases h
theorem B6(h:kK w j=some o):j≠23:=λe=>by subst e;exact nomatch (show(none:Option S9)=some o from h)
abbrev sd:Expr:=.GeneratorExp g5.1 [⟨.Tuple [.Name "i" ⟨13,53,13,54⟩,.Name "j" ⟨13,56,13,57⟩] 0 ⟨13,53,13,57⟩,wq,[],0⟩] g5.2.2.1 g5.2.2.2
theorem Ml:g5.2.2.1.names=[(SV ".0",.local),(SV "i",.local),(SV "j",.local)]/\g5.2.2.1.kind= .function/\g5.2.2.1.isCoroutine=false:=⟨by kernel_rfl,by kernel_rfl,by kernel_rfl⟩
theorem MM:g5.1= .BinOp (.Name "i" ⟨13,43,13,44⟩) .Add (.Name "j" ⟨13,47,13,48⟩) ⟨13,43,13,48⟩:=by kernel_rfl
def mT(b c a:List va):Prop:=∀(i:Nat) (y:va),a[i]?=some y->∃p q t u v,b[i]?=some (.int p t)/\c[i]?=some (.int q u)/\y= .int (p+q) v
inductive A9{j:Type}(P:j->Prop)(a b c d e f g h i:j):Prop
 |mk (h1:P a) (h2:P b) (h3:P c) (h4:P d) (h5:P e) (h6:P f) (h7:P g) (h8:P h) (h9:P i)
theorem CE{j:Type}{P:j->Prop}{a b c d e f g h i:j}(q:∀p∈[a,b,c,d,e,f,g,h,i],P p):A9 P a b c d e f g h i:=⟨q _<|.head _,q _<|.tail _<|.head _,q _<|.tail _<|.tail _<|.head _,q _<|.tail _<|.tail _<|.tail _<|.head _,q _<|.tail _<|.tail _<|.tail _<|.tail _<|.head _,q _<|.tail _<|.tail _<|.tail _<|.tail _<|.tail _<|.head _,q _<|.tail _<|.tail _<|.tail _<|.tail _<|.tail _<|.tail _<|.head _,q _<|.tail _<|.tail _<|.tail _<|.tail _<|.tail _<|.tail _<|.tail _<|.head _,q _<|.tail _<|.tail _<|.tail _<|.tail _<|.tail _<|.tail _<|.tail _<|.tail _<|.head _⟩
theorem GK{v F:List va}{K:aU}
  (hb:b+40<=960) (hk:StrKeys H) (hv:bY x H=some (.ref<|vb+4)) (ha:(u+4,ag v)∈Tw) (T4:(vb+4,ag F)∈Tw) (TM:v.length=4) (Uw:F.length=4)
  (hx:∀(i:Nat) y,v[i]?=some y->∃p t,y=WC p t) (hy:∀(i:Nat) y,F[i]?=some y->∃p t,y=WC p t) (UA:bC tb) (hK:Calm K)
  (Ug:∀z Tr E,bC E->Tr.length=4->mT v F Tr->d7 w b (c6 2 k h) (lD (.ref<|k+4) (aT 28<|h+4)<|.ref<|z+4) [(h+4,c8 R S T U V a s d x Z<|.ref<|u+4),(d+4,ab H n),(k+4,bw N i m e ok L),(23,E)] ((z+4,ag Tr)::Tw) λr o nw Tt ro=>ro=[]/\K r o nw (Tt++[(z+4,ag Tr)]) []):
  d7 w b (c6 2 k h) (callWith pC (.type "tuple") [] (backTo pC [(false,eval sd<|aT 28<|h+4)]) (backToKw pC [])>>=lD (.ref<|k+4) (aT 28<|h+4))
   [(h+4,c8 R S T U V a s d x Z<|.ref<|u+4),(d+4,ab H n),(k+4,bw N i m e ok L),(23,tb)] Tw K:=by
 intro A Tv Tu UO UQ US dr os hh hd hu TL hZ Ue Uh hR;refine cK Ml λsn sk sc=>?_
 have T8:(A.under<|c6 2 k h).depth<Vv:=by
  have C:=yT (c6 2 k h) (by kernel_rfl);have l:wt (c6 2 k h)=0:=by kernel_rfl
  show A.depth+(c6 2 k h).weight<1000;lia
 rw[O7,WN];refine WL<|LR (p:=[]) sc (by kernel_rfl) (λy hy=>?_) (by rw[sn];rfl) sk T8 ?_ λzu=>rfl
 ·rw[sn] at hy
  simp only[V2,Vn,or_false] at hy;rcases hy with rfl|rfl|rfl<;>exact λTu=>by cases Tu
 refine HH (Y:=[(k+4,bw N i m e ok L),(23,tb)]) (Ol (d:=d) (n:=n) hb hk hv ha T4) hh hd hu TL hZ Ue (λr o n Tt ro Tu=>by refine aI Tu λM UI zu=>?_;clear Tu;subst UI;exact aB _ rfl) λTC TB Uc Tt ro C N1 Ui g1 T2 TP g=>?_
 refine hide λUP hQ=>hH T2 λM e UJ UK UL UM=>?_;clear T2;subst UJ UK UL UM
 cases e
 refine hQ ?_;replace g:Rep Tv C [(h+4,c8 R S T U V a s d x Z<|.ref<|u+4),(d+4,ab H n),(M+8,av "zip" [.none,.bool false,.bool false,.ref<|M+6,.ref<|M+7]),(M+6,ag [.ref<|M+4,.ref<|M+5]),(M+7,ag [.none,.none]),(M+4,av "tuple_iterator" [.ref<|u+4,.int 0 0]),(M+5,av "tuple_iterator" [.ref<|vb+4,.int 0 0]),(k+4,bw N i m e ok L),(23,tb)] N1:=g;have Ts:∀b o,Tv.get? b=some o->C.get? b=some o:=g.keep;have Tz:KH C (kK w):=TL.le Ts;obtain⟨Uo,ed,ez,T1,TK,TH,TJ,Up,Um⟩:=CE g.own;have O:=hZ _ ha;have Q:=hZ _ T4;obtain⟨UD,od,oz,UU,TY,TV,TX,UE,Ud⟩:=CE g.off;have Uj:4<=C.objs.size:=by rw[g.size];exact g.big
 refine wpAny_pyIter_zip (TI:=M+6) (TO:=M+7) (f0:=.none) ez<|⟨wk Tz,?_⟩;refine Ro (s:=⟨C,g1,dr,Ui+1,os⟩) Tz Um UA (by kernel_rfl) (by kernel_rfl) Uj λc' l tk E UB TF T9 TS=>?_
 have Ub:KH l (kK w):=λj o ej=>TS j o (B6 ej)<|Tz j o ej
 refine Nn (s:=⟨l,g1,dr,tk,os⟩) Ub ?_ (h+4);intro J Ux TQ;have fR:∀b o,b≠23->C.get? b=some o->J.get? b=some o:=λb o hb e=>TQ.extBut b o (YO<|VN<|TS b o hb e)<|Vw _<|TS b o hb e
 have Un:J.get? 23=some E:=TQ.extBut 23 _ (YO<|VN TF)<|Vw _ TF;have TR:J.objs.size=l.objs.size+1:=by rw[TQ.1,Wm]
 have SZ:iB (M+8) (M+6) (M+7) (M+4) (M+5) (u+4) (vb+4) ⟨v⟩ ⟨F⟩ .none 0 C:=⟨ez,T1,cG _ _ TK,aY _ TH rfl rfl,aY _ TJ rfl rfl,aY _ (Ts _ _ O) rfl (aB 0 rfl),aY _ (Ts _ _ Q) rfl (aB 0 rfl)⟩;have AP:ZipApart (M+8) (M+6) (M+7) (M+4) (M+5) (u+4) (vb+4):=⟨jo M 6 8<|by decide,jo M 7 8<|by decide,jo M 4 8<|by decide,jo M 5 8<|by decide,jo M 6 7<|by decide,jo M 6 4<|by decide,jo M 6 5<|by decide,jo M 7 4<|by decide,jo M 7 5<|by decide,jo M 4 5<|by decide,g0 O oz,g0 O TY,g0 O TV,g0 O TX,g0 Q oz,g0 Q TY,g0 Q TV,g0 Q TX⟩;have TU:∀{b o},Tv.get? b=some o->b≠23:=λe=>g0 e Ud
 have B:∀{b o},C.get? b=some o->b<l.objs.size:=λe=>YA (VN e) T9
 have UC:∀b∈[M+8,M+6,M+7,M+4,M+5,u+4,vb+4],b<l.objs.size:=fc (B ez)<|fc (B T1)<|fc (B TK)<|fc (B TH)<|fc (B TJ)<|fc (B<|Ts _ _ O)<|fc (B<|Ts _ _ Q) fz;have T5:cStatics<l.objs.size:=let⟨_,hn,_⟩:=wk Ub;hn.lt;have Uv:cStatics∉[M+8,M+7,M+4,M+5]:=by
  show 2∉_;simp
 have Us:J.objs.size≠l.objs.size:=by rw[TR];exact Nat.succ_ne_self _
 have Ut:J.objs.size∉Tp l.objs.size:=λhm=>by have:=Wg.mp hm;lia
 have Uy:∀b∈[M+8,M+7,M+4,M+5],b∈Tp l.objs.size:=fc (Wg.mpr<|B ez)<|fc (Wg.mpr<|B TK)<|fc (Wg.mpr<|B TH)<|fc (Wg.mpr<|B TJ) fz;have W:=WalksS.genexpQ (prog:=Pw) (w:=w) (A:=(A.under<|c6 2 k h).in4) hh J.objs.size g1.1.size l.objs.size (Tp l.objs.size) [M+8,M+7,M+4,M+5] (λzu=>true) (⟨v⟩:Array va).size (λ(i:Nat) y=>∃p q t TZ TC,(⟨v⟩:Array va)[i]?=some (.int p t)/\(⟨F⟩:Array va)[i]?=some (.int q TZ)/\y=WC (p+q) TC)
  Us Ut Uy T8 (Wg.mpr T5) (YO T5) Uv
 refine WL (Va<|callWith_type1<|Te ?_);refine call_tuple_gen (A:=A.under<|c6 2 k h) W.in4_3 (λi s st=>let⟨o,nm,qn,ho,hc,_⟩:=st.1;(aX o ho hc)) ?_ ?_ (List.mem_cons_self ..) (λs' Tr hm T3=>?_)<|by rw[BZ,show(⟨v⟩:Array va).size=4 from TM];decide
 ·refine GenAt.freshT (A:=(A.under<|c6 2 k h).in4) (cenv:=genEnv g5.2.2.1 [] l.objs.size (.ref c') builtinsNs<|aT 28<|h+4) (m:=λy=>if y=".0" then some (.ref<|M+8) else none) hh
   (λA' hA=>WalksU.mono_fp (La (j:=⟨v⟩) (l:=⟨F⟩) hA AP<|show v.length=F.length from TM.trans Uw.symm) λb hb=>Wg.mpr<|UC b hb) (λi UW hp=>by refine bE hp λx y zu zu e=>?_;exact cG x y e) (by decide+kernel) (λzu=>true) _ (by show g5.2.2.1.names.lookup _=_;rw[sn];rfl) (by show g5.2.2.1.names.lookup _=_;rw[sn];rfl) (by simp[genEnv,sk]) sc
   (λhm=>W6 _<|Wg.mp hm) (Sp sk (by show g5.2.2.1.names.lookup _=_;rw[sn];rfl) (by show g5.2.2.1.names.lookup _=_;rw[sn];rfl) (MM) (h:=⟨v⟩) (j:=⟨F⟩) (λi y e=>hx i y<|by simpa using e) λi y e=>hy i y<|by simpa using e) (pB _ _ _ (VT _ rfl) rfl rfl rfl) (Array.getElem?_push_size ..) ?_ (Ux.push _) ?_
  ·have ne:∀b∈[M+8,M+6,M+7,M+4,M+5,u+4,vb+4],b≠23:=fc (dz g 2 8 rfl rfl (by decide))<|fc (dz g 3 8 rfl rfl (by decide))<|fc (dz g 4 8 rfl rfl (by decide))<|fc (dz g 5 8 rfl rfl (by decide))<|fc (dz g 6 8 rfl rfl (by decide))<|fc (TU O)<|fc (TU Q) fz
   exact SZ.frame λb hb o e=>Vw _<|fR b o (ne b hb) e
  ·exact wk λj o e=>Vw _<|fR j o (B6 e)<|Tz j o e
 ·intro b hb
  rw[show({heap:=J.push _,gens:=_,drawn:=dr,toks:=_,os:=os}:Tf).heap.objs.size=J.objs.size+1 from Wm ..];rcases bK hb with rfl|hb
  ·exact Nat.lt_succ_self _
  ·rcases bK hb with rfl|hb
   ·rw[TR];exact YP<|Nat.lt_succ_self _
   ·rw[TR];exact YP<|YP<|Wg.mp hb
 ·obtain⟨I,g6,Ul,T6,UG⟩:=s'
  obtain⟨m1,m2,m3,m4,m5⟩:=hm;cases(show Ul=dr from m3);cases(show UG=os from m4)
  obtain⟨T7,rfl⟩:∃T7,T6=T7+1:=aB (T6-1) (Wd<|SQ (WX 1 _) m5).symm;have Tx:∀b o,b∉[M+8,M+7,M+4,M+5]->b≠23->C.get? b=some o->I.get? b=some o:=λb o hb Ur e=>m1 b o (λhm=>by
   rcases bK hm with rfl|hm
   ·exact absurd (VN e)<|Nat.not_lt.mpr T9
   ·exact hb hm)<|Vw _<|fR b o Ur e
  have TG:I.get? 23=some E:=m1 23 _ (λhm=>by
   rcases bK hm with e|hm
   ·exact absurd (VN TF)<|by rw[e];exact W6 _
   ·exact(fc (P:=λb=>b≠23) (dz g 2 8 rfl rfl (by decide))<|fc (dz g 4 8 rfl rfl (by decide))<|fc (dz g 5 8 rfl rfl (by decide))<|fc (dz g 6 8 rfl rfl (by decide)) fz) _ hm rfl)<|Vw _ Un
  have Uk:4<=I.objs.size:=SQ (by decide:4<=24)<|VN TG;obtain⟨z,Ua⟩:∃z,I.objs.size=z+4:=aB (I.objs.size-4) (Wd Uk).symm;obtain⟨G⟩:=Tr;have Uu:G.length=4:=by have:=T3.1;rw[BZ,show(⟨v⟩:Array va).size=4 from TM] at this;exact this
  have Uz:mT v F G:=λi y hi=>by
   refine aI (T3.2 i y<|by simpa using hi) λj hj qs=>xf qs λp q t TZ TC e1 e2 e3=>?_
   cases QJ _ _ hj
   exact oY p q t TZ TC (by simpa using e1) (by simpa using e2) e3
  have UR:(I.push<|ag G).get? 23=some E:=Vw _ TG;have D7:Rep Tv (I.push<|ag G) ([(h+4,c8 R S T U V a s d x Z<|.ref<|u+4),(d+4,ab H n),(k+4,bw N i m e ok L),(23,E)]++[(z+4,ag G)]) (z+5):=by
   have TA:∀{c:Nat},c≠M+8->c≠M+7->c≠M+4->c≠M+5->c∉[M+8,M+7,M+4,M+5]:=λ{x} a b c d hm=>fc (P:=λy=>x≠y) a (fc b<|fc c<|fc d fz) _ hm rfl
   suffices D6:Rep Tv I [(h+4,c8 R S T U V a s d x Z<|.ref<|u+4),(d+4,ab H n),(k+4,bw N i m e ok L),(23,E)] (z+4) from D6.alloc (o:=ag G) rfl
   exact⟨Ua,fc (Tx _ _ (TA (dz g 0 2 rfl rfl (by decide)) (dz g 0 4 rfl rfl (by decide)) (dz g 0 5 rfl rfl (by decide))<|dz g 0 6 rfl rfl (by decide)) (dz g 0 8 rfl rfl (by decide)) Uo)<|fc (Tx _ _ (TA (dz g 1 2 rfl rfl (by decide)) (dz g 1 4 rfl rfl (by decide)) (dz g 1 5 rfl rfl (by decide))<|dz g 1 6 rfl rfl (by decide)) (dz g 1 8 rfl rfl (by decide)) ed)<|fc (Tx _ _ (TA (dz g 7 2 rfl rfl (by decide)) (dz g 7 4 rfl rfl (by decide)) (dz g 7 5 rfl rfl (by decide))<|dz g 7 6 rfl rfl (by decide)) (dz g 7 8 rfl rfl (by decide)) Up)<|fc TG fz,(show([h+4,d+4,k+4,23]:List WO).Nodup from g.nd.sublist (.cons_cons _<|.cons_cons _<|.cons _<|.cons _<|.cons _<|.cons _<|.cons _<|.cons_cons _<|.cons_cons _ .slnil)),λb o e=>Tx b o (TA (g0 e oz) (g0 e TY) (g0 e TV)<|g0 e TX) (TU e)<|Ts b o e,fc UD<|fc od<|fc UE<|fc Ud fz,WX 4 z⟩
  have UN:=Ug z G E UB Uu Uz A _ (I.push<|ag G) _ T7 ⟨g6,AllBare.moved (AllBare.push g1.2 rfl) m2⟩ dr os hh hd hu (TL.le D7.cV) (λp q=>by
   rcases bK q with rfl|q
   ·exact D7.jn _<|.head _
   ·exact D7.cV _ _<|hZ p q) D7.frame (λr s'=>(∃f,r= .ok f)/\Uh r s') ?_
  ·rw[Ua]
   refine Y1 UN (λUq s' D=>?_) (λe' s' D=>?_)
   ·cases Uq with
    |done f=>exact D.2
    |again c'=>exact⟨D.1,codeAny_mono D.2 λr s' x=>x.2⟩
   ·refine a0 D λUH zu=>?_;obtain⟨f,hf⟩:=UH
    cases hf
  ·intro r TB Uc Tt ro h3 N' T' g' D TP UT D3
   obtain⟨rfl,D⟩:=D;refine⟨hK _ _ _ _ _ D,?_⟩;refine hR r TB Uc (Tt++[(z+4,ag G)]) [] h3 N' T' g' D TP (λzu q=>nomatch q) ?_;have D4:=D7.gu (by rw[<-aZ];exact D3);have e1:a8 [(h+4,c8 R S T U V a s d x Z<|.ref<|u+4),(d+4,ab H n),(k+4,bw N i m e ok L),(23,E)] TB=a8 [(h+4,c8 R S T U V a s d x Z<|.ref<|u+4),(d+4,ab H n),(k+4,bw N i m e ok L),(23,tb)] TB:=nE _ _ _ rfl TP;rw[e1] at D4;refine D4.perm ?_;simp only[aZ];exact Xp _
def vf(a s d l f h n A i m e j u v x:Nat)(k:SX)(g:Nat)(ok y:va)(c:List SS)(B:S9)(C D:Nat->Nat):Q7:=λq t N T Z b R=>ae [4,5,1,6,1,6,1,2,1,6,3] [h,N,h,N,h,N,h,N,N+2,f,d]<|sD (bi "dict.__contains__" [.ref<|d+4,.str k<|g+1]) [(d+4,ab c n)] Z false (∀E G:Nat,ae [3,3] [f,d]<|lF (bi "dict.__setitem__" [.ref<|d+4,.str k<|g+1,.ref<|j+4]) [(d+4,ab c n)] (∀F H:Nat,SP (br q t w) b (aS (bj 2) (.ref<|l+4)<|aT 28<|f+4) [(f+4,ao [ent "target" u<|.ref<|a+4,ent "source" v<|.ref<|s+4,ent "new_callers" x<|.ref<|d+4,ent "func" (C T)<|.str k<|g+1,ent "caller" (D T)<|.ref<|j+4] 5),(d+4,ab (c9 k (g+1) (.ref<|j+4) c)<|dI k c n),(l+4,bw A i m e ok y),(23,B)] Z λr o n p z=>R r o n (p++[]) z))
noncomputable def xV:Nat:=0x46391f154649bb3705b7a3623b642f90812d7a6ab49e5a5a1347bb491c2d32754a
theorem HT(a s d c b f n q i m e g j l o:Nat)(k:SX)(u:Nat)(ok p:va)(h:List SS)(v:List va)(r:S9):a9 w [(b+4,nu j l o a s d),(d+4,ab h n),(c+4,bw q i m e ok p),(23,r)] [(f+4,ag [.str k<|u+1,.ref<|g+4]),(g+4,ag v)] [jT false,gK,fT,gs,gp] (aS (bj 2) (.ref<|c+4)<|aT 28<|b+4) (jL (d6<|bj 2) (.ref<|c+4) (.ref<|f+4) (cR<|bj 2) (gU<|bj 2)<|aT 28<|b+4) (vf a s d c b f n q i m e g j l o k u ok p h r (λt=>t) λt=>t+1):=ba 20 62 xV
theorem HE(a s d c b f n t i m e g j l o p q:Nat)(k x:SX)(v y:Nat)(z ok r:va)(h:List SS)(A:List va)(u:S9):a9 w [(b+4,c8 j l o p q a s d x y z),(d+4,ab h n),(c+4,bw t i m e ok r),(23,u)] [(f+4,ag [.str k<|v+1,.ref<|g+4]),(g+4,ag A)] [jT false,gK,fT,gs,gp] (aS (bj 2) (.ref<|c+4)<|aT 28<|b+4) (jL (d6<|bj 2) (.ref<|c+4) (.ref<|f+4) (cR<|bj 2) (gU<|bj 2)<|aT 28<|b+4) (vf a s d c b f n t i m e g j l o k v ok r h u (λB=>p) λB=>q):=ba 20 62 xV
theorem Af:cR (bj 2)=[.If g1.1 [.If g2.1 [.Assign g3.1 (.Call (.Name "tuple" ⟨13,36,13,41⟩) [sd] [] g4.2.2) g3.2.2] g2.2.2.1 g2.2.2.2] g1.2.2.1 g1.2.2.2]:=by kernel_rfl
theorem DK:g3.2.1= .Call (.Name "tuple" ⟨13,36,13,41⟩) [sd] [] g4.2.2:=by kernel_rfl
theorem ME:g4.1= .Name "tuple" ⟨13,36,13,41⟩:=by kernel_rfl
theorem NQ:gU (bj 2)=[]:=by kernel_rfl
theorem Behind.keys{R:Vz->Tf->Prop}(h:Behind a Z b L d i R)(e:L'.map (·.1)=L.map (·.1)):Behind a Z b L' d i R:=
 λr g q F s n k l m o f p j=>by
  have c:L'.length=L.length:=by have:=congrArg Tn e;simpa using this
  exact h r g q F s n k l m o (f.trans c) p (by rw[<-nE L L' g e (f.trans c)];exact j)
section
variable{b a s d h c y n j D l p q t i m e:Nat}{x:SX}{k:Nat}{u v:va}{g:List SS}{z C:List va}{A B:S9}{Z:Led}{K:aU}
theorem Kr(M:b+40<=960)(hk:StrKeys g)(O:g.length<=1000)
  (H:SP w b (c6 2 h c) [(c+4,c8 l p q E G a s d x k<|.ref<|j+4),(d+4,ab (c9 x (k+1) (.ref<|I+4) g)<|dI x g n),(h+4,bw t i m e u v),(23,A)] Z K):
  d7 w b (c6 2 h c) (lD (.ref<|h+4) (aT 28<|c+4)<|.ref<|I+4) [(c+4,c8 l p q E G a s d x k<|.ref<|j+4),(d+4,ab g n),(h+4,bw t i m e u v),(23,A)] Z K:=by
 refine EI 960 M (zd rfl) (aj r1 ay) ax λQ R N T J=>ah ⟨_,_,_,_,_,_,rfl,hk,rfl,b6 O,λf f=>?_⟩;unfold BX;rw[J];exact H.mono ar (λf P=>P) λr o S F U f L f=>by rw[aP];exact L
inductive Ak(j l p q a s d:Nat)(x:SX)(k:Nat)(g:List SS)(n:Nat)(io:S9)(r:Vz)(objs:List S9)(new F ro:Led):Prop
 |mk (k3 k4) (h1:r= .ok (.ret<|.type "tuple")) (h2:objs=[c8 l p q k3 k4 a s d x k<|.ref<|j+4,ab g n,io]) (h3:new=[]) (h4:F=[]) (h5:ro=[])
theorem IC(H:b+40<=960)(hk:StrKeys g)(P:(bY x g).isSome=true)(O:jD l p q a s d B)(I:(y+4,ag [.str x<|k+1,.ref<|j+4])∈Z)(r:(j+4,ag z)∈Z):
  d7 w b (c6 2 h c) (pD (.ref<|y+4)<|aT 28<|c+4) [(c+4,B),(d+4,ab g n),(h+4,bw t i m e u v)] Z (Ak j l p q a s d x k g n<|bw t i m e u v):=by
 have F:∀M∈[jT true,gK,fT,gs,gp],aA.Ok w 960 M:=aj Ao<|aj uK<|aj r1<|aj vP<|aj vW ay;have G:∀(J L:Nat->Nat) (f o:Bool) (N T:Nat),br f o w=w->we a s d c y n t i m e l p q x k u v j g J L f o N T Z b (Ak j l p q a s d x k g n<|bw t i m e u v):=λJ L f o N T Y=>ah ⟨_,_,_,_,_,rfl,hk,.inl rfl,P,λE E=>ah ⟨_,_,rfl,r,λE E=>⟨_,_,rfl,rfl,rfl,rfl,rfl⟩⟩⟩
 rcases O with rfl|⟨Q,R,V,S,U,rfl⟩
 ·exact O0 a s d h c y n t i m e l p q x k u v j g z 960 H (zd rfl) F (aq I<|aq r ax)<|G _ _
 ·exact JH a s d h c y n t i m e l p q Q R x V k S U u v j g z 960 H (zd rfl) F (aq I<|aq r ax)<|G _ _
theorem NY(P:b+40<=960)(hk:StrKeys g)(hl:g.length<=1000)(hv:bY x g=some (.ref<|D+4))(TF:jD l p q a s d B)(ht:(y+4,ag [.str x<|k+1,.ref<|j+4])∈Z)(ha:(j+4,ag z)∈Z)(TC:(D+4,ag C)∈Z)
  (TG:z.length=4) (TH:C.length=4) (hx:∀(i:Nat) J,z[i]?=some J->∃H V,J=WC H V) (hy:∀(i:Nat) J,C[i]?=some J->∃H V,J=WC H V) (TJ:bC A) (hK:Calm K)
  (Tw:∀S T I E O,bC O->E.length=4->mT z C E->SP w b (c6 2 h c) [(c+4,c8 l p q S T a s d x k<|.ref<|j+4),(d+4,ab (c9 x (k+1) (.ref<|I+4) g)<|dI x g n),(h+4,bw t i m e u v),(23,O)] ((I+4,ag E)::Z) λr o nw F ro=>ro=[]/\K r o nw (F++[(I+4,ag E)]) []):
  d7 w b (c6 2 h c) (tail3 (d6<|bj 2) (.ref<|h+4) (.ref<|y+4) (cR<|bj 2) []<|aT 28<|c+4) [(c+4,B),(d+4,ab g n),(h+4,bw t i m e u v),(23,A)] Z K:=by
 intro L Ts N Tr Tx TA dr os hh hd hu Tt hZ Tv R hR;rw[Af];refine Gf ?_;have M:Rep Ts N ([(c+4,B),(d+4,ab g n),(h+4,bw t i m e u v)]++[(23,A)]) Tr:=Tv;have Tu:=IC (h:=h) (c:=c) (n:=n) (t:=t) (i:=i) (m:=m) (e:=e) (u:=u) (v:=v) P hk (by rw[hv];rfl) TF ht ha L _ N Tr Tx TA dr os hh hd hu (Tt.le M.cV) (λH TK=>M.cV _ _<|hZ H TK) M.frame
  (λr U=>r= .ok (.ret<|.type "tuple")/\Xs (Vy Pw w) L (c6 2 h c) (callWith g4.2.2 (.type "tuple") [] (backTo g4.2.2 [(false,eval sd<|aT 28<|c+4)]) (backToKw g4.2.2 [])>>=lD (.ref<|h+4) (aT 28<|c+4)) (postC Pw w L R) (postE R) U) ?_
 ·rw[show pD (.ref<|y+4) (aT 28<|c+4)=acPreE (d6<|bj 2) (.ref<|y+4) (aT 28<|c+4) g1.1 g1.2.2.2 g2.1 g2.2.2.2 g3.1 g3.2.1 g3.2.2 g4.1 by unfold pD;rw[Sj],DK,ME] at Tu
  refine Y1 Tu (λTz U Q=>?_) (λe' U Q=>by obtain⟨N,-⟩:=Q;cases N);cases Tz with
  |done f=>
   obtain⟨e1,G⟩:=Q;cases e1
   rintro zu ⟨⟩;refine⟨rfl,?_⟩;rw[show lD (.ref<|h+4) (aT 28<|c+4)=acRest (d6<|bj 2) (.ref<|h+4) (aT 28<|c+4) g3.1 g3.2.1 (cR<|bj 2) (gU<|bj 2) by unfold lD;rw[J4],DK,NQ,Af] at G;exact G
  |again c'=>exact λf e=>by cases e
 ·rintro r TO TM F ro G N1 T1 TB ⟨S,T,rfl,rfl,rfl,rfl,rfl⟩ TL zu Y
  refine⟨rfl,?_⟩;have D2:=M.gu (new:=[]) (by rw[aP] at Y;exact Y);exact GK P hk hv ha TC TG TH hx hy TJ hK (λI E O G h2 h3=>Kr P hk hl<|Tw S T I E O G h2 h3) L Ts G N1 T1 TB dr os hh hd hu Tt hZ D2 R<|hR.keys rfl
end
inductive qu(Z:Led)(k0 k1 k2 a s d:Nat)(l:KV)(r:Vz)(objs:List S9)(new F ro:Led):Prop
 |mk (fr es it tb) (h1:r= .ok .next/\new=[]/\ro=[]) (h2:jD k0 k1 k2 a s d fr) (h3:bC tb) (h4:objs=[fr,ab es es.length,it,tb]) (h5:a7 (F++Z) es (bu l))
theorem xU:Calm (qu Z b c e a s d l):=by
 rintro r o n F f ⟨_,_,_,_,⟨rfl,_⟩,_⟩;exact⟨_,rfl⟩
theorem Tells.Cy(h:Tells Z v (jg r)):∃a i j k l,v= .ref (a+4)/\(a+4,ag [.int r.a i,.int r.b j,.int r.c k,.int r.d l])∈Z:=by
 exact Tells.qy (show Tells Z v (.tuple [.int r.a,.int r.b,.int r.c,.int r.d]) from h) (λa n e f q=>q.jU (λv=>(a+4,ag v)∈Z) f λi g f q=>q.jU (λv=>(a+4,ag (_::v))∈Z) f λj g f q=>q.jU (λv=>(a+4,ag (_::_::v))∈Z) f λk g f q=>q.jU (λv=>(a+4,ag (_::_::_::v))∈Z) f λl g f q=>
  q.tC (λv=>(a+4,ag (_::_::_::_::v))∈Z) f λf=>qr _ _ _ _ _ e f) (λa g g g g i j k l e m f=>qr a i j k l m<|by cases e;exact f) λg g e=>nomatch e
theorem ints4:∀(i:Nat) (y:va),[WC p0 d,.int a e,.int b f,.int c g][i]?=some y->∃p t,y=WC p t:=λi y h=>by
 rcases i with _|_|_|_|i
 ·cases h;exact cG _ _ rfl
 ·cases h;exact cG _ _ rfl
 ·cases h;exact cG _ _ rfl
 ·cases h;exact cG _ _ rfl
 ·simp at h
theorem mT.at{c d b:List va}{i:Nat}{p q:Int}{t u:Nat}{y:va}(h:mT c d b)(k:c[i]?=some (.int p t))(l:d[i]?=some (.int q u))(j:b[i]?=some y):∃v,y= .int (p+q) v:=by
 refine xf (h i y j) λa a a a v e f g=>?_
 cases k.symm.trans e
 cases l.symm.trans f
 exact⟨v,g⟩
theorem Ex{p0 j k l q0 q1 q2 q3:Int}{q r s t u v w x:Nat}{b:List va}(c:b.length=4)(h:mT [.int p0 q,.int j r,.int k s,.int l t] [.int q0 u,.int q1 v,.int q2 w,.int q3 x] b):
  ∃m n o p,b=[.int (p0+q0) m,.int (j+q1) n,.int (k+q2) o,.int (l+q3) p]:=by
 obtain⟨y,z,A,B⟩:=ib c;have d:=h.at (i:=0) rfl rfl rfl;have e:=h.at (i:=1) rfl rfl rfl;have f:=h.at (i:=2) rfl rfl rfl;have g:=h.at (i:=3) rfl rfl rfl;clear h c;refine aw d λm a=>?_;clear d;subst a
 refine aw e λn a=>?_;clear e;subst a
 refine aw f λo a=>?_;clear f;subst a
 refine aw g λp a=>?_;clear g;subst a
 exact jy _ _ _ _ rfl
theorem JB(hb:b+40<=960):∀(H D i:KV) (g:List SS) (N m:S9) (ok ov:va) (Z:Led),a7 Z k (bu<|D++H)->(∀p∈H,dW p.2)->(∀p∈i,dW p.2)->(Q+4,ab k k.length)∈Z->
  a7 Z g (bu i)->jD v y A a s d N->bC m->g.length+H.length<=1000->
  SP w b (c6 2 u I) [(I+4,N),(d+4,ab g g.length),(u+4,bw Q D.length k.length k.length ok ov),(23,m)] Z (qu Z v y A a s d<|H.foldl cP i):=by
 intro H;induction H with
 |nil=>
  intro D i g N m ok ov Z V _ _ hs O Y Tr _;rw[mH,show D.length=k.length by rw[V.pM,aP]];exact vA (j:=2) rfl hs rfl ⟨N,g,_,m,⟨rfl,rfl,rfl⟩,Y,Tr,rfl,O⟩
 |cons p H ih=>
  intro D i g N m ok ov Z V hn Tu hs O Y Tr hl;refine cw (a7.at V) λt TP hi hv=>?_
  rw[mH];refine uW (j:=2) (xW) rfl hs rfl hi xU λl=>?_
  rw[<-mH];rw[bT] at hl;refine aw (hn p<|.head _) λr hr=>?_
  have Ts:=hv;rw[hr] at Ts;refine hide λGq Tt=>iS Ts.Cy λf t0 t1 t2 t3 Tz Tw=>?_;subst Tz
  refine Tt ?_;have go:∀(B C:Nat) (R:va) (T:S9) (G:Led),bC T->Tells (G++((l+4,ag [.str p.1<|t+1,.ref<|f+4])::Z)) R (match cM p.1 i with|some o=>dh p.2 o|none=>p.2)->SP w b (c6 2 u I) [(I+4,c8 v y A B C a s d p.1 t<|.ref<|f+4),(d+4,ab (c9 p.1 (t+1) R g)<|dI p.1 g g.length),(u+4,bw Q (D.length+1) k.length k.length (.str p.1<|t+1)<|.ref<|f+4),(23,T)] (G++((l+4,ag [.str p.1<|t+1,.ref<|f+4])::Z))
    λr o P F E=>E=[]/\qu Z v y A a s d ((p::H).foldl cP i) r o P (F++(G++[(l+4,ag [.str p.1<|t+1,.ref<|f+4])])) []:=by
   intro B C R T G Tv Ts;have up:∀x∈Z,x∈G++((l+4,ag [.str p.1<|t+1,.ref<|f+4])::Z):=λx q=>az<|.tail _ q
   have ea:cP i p=dput p.1 (match cM p.1 i with|some o=>dh p.2 o|none=>p.2) i:=by
    unfold cP;cases cM p.1 i<;>rfl
   have TH:dW (match cM p.1 i with|some o=>dh p.2 o|none=>p.2):=by
    cases e:cM p.1 i with
    |none=>exact⟨r,hr⟩
    |some o=>
     refine aw (rM dW Tu e) λJ Tx=>?_;subst Tx
     exact⟨⟨r.a+J.a,r.b+J.b,r.c+J.c,r.d+J.d⟩,by rw[hr];rfl⟩
   rw[mN (t:=t+1) (v:=R)];have hd:a7 (G++((l+4,ag [.str p.1<|t+1,.ref<|f+4])::Z)) (c9 p.1 (t+1) R g) (bu<|cP i p):=by rw[ea];exact(O.sub up).put Ts
   have z:=ih (D++[p]) (cP i p) (c9 p.1 (t+1) R g) (c8 v y A B C a s d p.1 t<|.ref<|f+4) T (.str p.1<|t+1) (.ref<|f+4) (G++((l+4,ag [.str p.1<|t+1,.ref<|f+4])::Z)) (by rw[aZ];exact V.sub up) (λx q=>hn x<|.tail _ q) (by rw[ea];exact pa dW Tu TH) (up _ hs)
    hd (.inr<|iH _ _ _ _ _ rfl) Tv (by rw[<-mN];unfold dI;split<;>(first|exact Wz ‹_› |exact rI ‹_›))
   rw[Vd] at z;refine z.mono ar (λn q=>q) ?_;rintro r TO TM F E n ⟨N,g,u,m,⟨rfl,rfl,rfl⟩,h1,U,S,h4⟩ n;refine⟨rfl,N,g,u,m,⟨rfl,rfl,rfl⟩,h1,U,S,?_⟩;have h5:=h4;simp only[aZ,List.cons_append,Zn] at h5⊢;exact h5
  rcases O.find p.1 with⟨U,S⟩|⟨R,d',U,S,h4⟩
  ·have TF:∀(L M:Bool) (B C:Nat),br L M w=w->SP (br L M w) b (c6 2 u I) [(I+4,c8 v y A B C a s d p.1 t<|.ref<|f+4),(d+4,ab (c9 p.1 (t+1) (.ref<|f+4) g)<|dI p.1 g g.length),(u+4,bw Q (D.length+1) k.length k.length (.str p.1<|t+1)<|.ref<|f+4),(23,m)] ((l+4,ag [.str p.1<|t+1,.ref<|f+4])::Z)
     λr o TC F' E=>(λr o P F E=>E=[]/\qu Z v y A a s d ((p::H).foldl cP i) r o P (F++[(l+4,ag [.str p.1<|t+1,.ref<|f+4])]) []) r o TC (F'++[]) E:=by
    intro L M B C e;rw[e];have z:=go B C (.ref<|f+4) m [] Tr (by rw[S];exact hv.sub λx q=>.tail _ q);refine z.mono ar (λn q=>q) λr o P F E n h n=>?_
    rw[aP];exact h
   rw[xE,<-zW];have gl:∀(κ κ1:Nat->Nat) (L M:Bool) (TA TB:Nat),br L M w=w->vf a s d u I l g.length Q (D.length+1) k.length k.length f v y A p.1 t (.str p.1<|t+1) (.ref<|f+4) g m κ κ1 L M TA TB ((l+4,ag [.str p.1<|t+1,.ref<|f+4])::Z) b (λr o P F E=>E=[]/\qu Z v y A a s d ((p::H).foldl cP i) r o P (F++[(l+4,ag [.str p.1<|t+1,.ref<|f+4])]) []):=λκ κ1 L M TA TB e=>ah ⟨_,_,_,_,_,rfl,O.keys,.inl rfl,by rw[U];rfl,λn n=>ah ⟨_,_,_,_,_,_,rfl,O.keys,rfl,b6<|by exact SQ (VI _ _) ‹_›,λn n=>TF L M _ _ e⟩⟩
   rcases Y with rfl|⟨B,C,x,tx,v0,rfl⟩
   ·exact HT a s d u I l g.length Q (D.length+1) k.length k.length f v y A p.1 t (.str p.1<|t+1) (.ref<|f+4) g _ m 960 hb (zd rfl) tZ (aq (.head _)<|aq (.tail _ Tw) ax)<|gl _ _
   ·exact HE a s d u I l g.length Q (D.length+1) k.length k.length f v y A B C p.1 x t tx v0 (.str p.1<|t+1) (.ref<|f+4) g _ m 960 hb (zd rfl) tZ (aq (.head _)<|aq (.tail _ Tw) ax)<|gl _ _
  ·refine aw (rM dW Tu S) λJ Tx=>?_;subst Tx
   refine hide λGq Tt=>iS h4.Cy λvb u0 u1 u2 u3 Tz TK=>?_;subst Tz
   refine Tt<|NY hb O.keys (by lia) U Y (.head _) (.tail _ Tw) (.tail _ TK) rfl rfl ints4 ints4 Tr ?_ λB C tv ac T Tv TG TJ=>?_
   ·rintro r o TC F E ⟨-,h⟩;exact xU _ _ _ _ _ h
   ·refine iX (Ex TG TJ) λv0 v1 v2 v3 TL=>?_;subst TL
    have z:=go B C (.ref<|tv+4) T [(tv+4,ag [.int (r.a+J.a) v0,.int (r.b+J.b) v1,.int (r.c+J.c) v2,.int (r.d+J.d) v3])] Tv (by
     rw[S,hr];exact .row<|.head _)
    refine z.mono ar (λn q=>q) ?_;rintro r' o P F E n ⟨rfl,h⟩ n;refine⟨rfl,rfl,?_⟩;rw[aZ];exact h
inductive qE(c:Td)(sub Z:Led)(kA:List SS->S9->S9->Led->Prop)(kB:Nat->Nat->SX->Nat->va->List SS->S9->S9->Led->Prop):Prop
 |mk (it) (fa) (k0) (k1) (k2) (a) (s) (d) (src) (b) (l) (fr) (es) (acc) (ok) (h) (tb) (h0:c=c6 2 it fa) (h1:sub=[(fa+4,fr),(d+4,ab es es.length),(it+4,bw src 0 b.length b.length ok h),(23,tb)]) (h2:b9 sub=om k0 k1 k2 a s d++(b9 sub).drop 3) (h3:a7 Z b (bu l)) (h4:∀p∈l,dW p.2) (h5:∀p∈acc,dW p.2) (h6:(src+4,ab b b.length)∈Z) (h7:a7 Z es (bu acc)) (h8:jD k0 k1 k2 a s d fr) (h9:es.length+l.length<=1000) (ht:bC tb) (Jp:∀e g f F,bC f->a7 (F++Z) e (bu<|fO 2 l acc)->kA e g f F/\∀k3 k4 x tx v,kB k3 k4 x tx v e g f F):qE c sub Z kA kB
def uv:aA:=λc sub Z e=>qE c sub Z (λa b d F=>e 0 (.ok .next) [ao (take3<|b9 sub) 3,ab a a.length,b,d] [] F [])
 (λf g x h v a b d F=>e 1 (.ok .next) [ao (take3 (b9 sub)++[ent "func" f<|.str x<|h+1,ent "caller" g v]) 5,ab a a.length,b,d] [] F [])
theorem PB(E:b+40<=960):uv.Ok w b:=by
 rintro c sub Z V ⟨M,n,N,O,P,a,s,d,Tt,fs,l,o,m,k,ok,S,T,rfl,I,J,p,t,u,y,A,B,C,L,H⟩;have D:take3 (b9 sub)=om N O P a s d:=by rw[J];rfl
 rw[D] at H;have z:=JB (u:=M) (I:=n) E l [] k m o T ok S Z p t u y A B L C;rw[I];refine z.mono ar (λj q=>q) ?_;rintro r Ts Tr F ro j ⟨Y,e,h,i,⟨rfl,rfl,rfl⟩,G,g,rfl,f⟩ j;rcases G with rfl|⟨Q,R,x,U,v,rfl⟩
 ·exact⟨0,(H e h i F g f).1⟩
 ·exact⟨1,(H e h i F g f).2 Q R x U v⟩
def IA(t s:Nat)(n d:List SS)(m:S9):Q7:=λP Q N T Z b R=>ae [7,6,4,2,1] [N,t,N+2,t,N+3]<|nj 1 (aS (bj 1) (.ref<|N+7)<|aT 28<|N+4) [(N+4,ao [ent "target" T<|.ref<|t+4,ent "source" (T+1)<|.ref<|s+4,ent "new_callers" (T+2)<|.ref<|N+5] 3),((N+4)+1,ab [] 0),((((N+4)+1)+1)+1,av "dict_itemiterator" [.none,.bool false,.ref<|t+4,.int 0 0,.int (SR<|Tn n) 0,.int (SR<|Tn n) 0,.none,.none])] Z (λi V e=>∀a J:Nat,ae [1,6,4,2,1] [N,s,a,s,a+1]<|qE (aS (bj 2) (.ref<|a+5)<|aT 28<|N+4) [(N+4,ao [ent "target" T<|.ref<|t+4,ent "source" (T+1)<|.ref<|s+4,ent "new_callers" (T+2)<|.ref<|N+5] 3),((N+4)+1,ab i<|Tn i),((a+4)+1,av "dict_itemiterator" [.none,.bool false,.ref<|s+4,.int 0 0,.int (SR<|Tn d) 0,.int (SR<|Tn d) 0,.none,.none]),(23,m)] ((e++[])++Z) (λj Y y q=>∀F L:Nat,ae [1] [N]<|R (H7<|.ref<|N+5) [y] [] ([(N+5,ab j<|Tn j)]++(q++(e++[]))) []) (λTu Tw TF Tz TB k Tr z r=>∀G M:Nat,ae [1] [N]<|R (H7<|.ref<|N+5) [z] [] ([(N+5,ab k<|Tn k)]++(r++(e++[]))) [])) (λu v C A B l Ts f=>∀c O:Nat,ae [1,6,4,2,1] [N,s,c,s,c+1]<|qE (aS (bj 2) (.ref<|c+5)<|aT 28<|N+4) [(N+4,ao [ent "target" T<|.ref<|t+4,ent "source" (T+1)<|.ref<|s+4,ent "new_callers" (T+2)<|.ref<|N+5,ent "func" u<|.str C<|A+1,ent "caller" v B] 5),((N+4)+1,ab l<|Tn l),((c+4)+1,av "dict_itemiterator" [.none,.bool false,.ref<|s+4,.int 0 0,.int (SR<|Tn d) 0,.int (SR<|Tn d) 0,.none,.none]),(23,m)] ((f++[])++Z) (λg S w o=>∀D H:Nat,ae [1] [N]<|R (H7<|.ref<|N+5) [w] [] ([(N+5,ab g<|Tn g)]++(o++(f++[]))) []) (λTt Tv TC Tx TA h U x p=>∀E I:Nat,ae [1] [N]<|R (H7<|.ref<|N+5) [x] [] ([(N+5,ab h<|Tn h)]++(p++(f++[]))) []))
theorem Iv:CK w [(23,c)] [(t+4,ab b b.length),(s+4,ab a a.length)] [l6 1,uv] (Vh (.ref 28) ⟨[.ref<|t+4,.ref<|s+4],[]⟩) (IA t s b a c):=aV 85 107 0x3fc650756c64138b2a2fd7063a2b07a3a4aea66473ecfdcb45ff5c5902e00bdf03f2e9aa015cf100fcaa113960f44f8da8d91da07e471fa29178b9c5fc5bb01798202f0cbbe2ad0c7804a3b1a503bd1165c337d0b
theorem Sh(hb:b+80<=960):vj.Ok w b:=by
 rintro Ts sub Z I ⟨t,s,c,r,v,rfl,rfl,A,S,R,E,D,hl,H⟩;refine hide λTr O=>bE S.fE λt' G e mt P=>?_
 cases e
 refine bE R.fE λs' u e o z=>?_
 cases e
 refine O ?_;have Q:∀C∈[l6 1,uv],aA.Ok w 920 C:=aj (vK (zd rfl)<|.inl rfl)<|aj (PB<|zd rfl) ay;have num:∀{p:SX×Tg},dW p.2->mg p.2:=λ⟨i,h⟩=>by rw[h];exact .tup ..
 have V:(fO 1 c []).length<=c.length:=by have:=wG c [];simpa[fO] using this
 refine Iv 920 (by exact tK ‹_› (zd rfl)) (zd rfl) Q (aq mt<|aq o ax) λb1 b2 N T e=>?_
 have up:∀{F:Led},∀p∈Z,p∈F++Z:=λp q=>az q
 have B:∀p∈fO 1 c [],dW p.2:=uO dW c [] E λa h=>nomatch h
 have l:∀{F:Led} {M:Nat} {d:List SS} {g:Led} {m:S9},bC m->a7 (g++((F++[])++Z)) d (bu<|fO 2 r<|fO 1 c [])->∃i,I i (H7<|.ref<|M+5) [m] [] ([(M+5,ab d d.length)]++(g++(F++[]))) []:=λ{F M d g m} L f=>
  ⟨0,H (M+1) _ m L<|.iW (n:=d.length) (bq<|.head _) rfl (f.sub λp q=>by rw[aZ,aZ];exact az<|by simpa[aZ] using q)⟩
 refine ah ⟨N+3,N,T,T+1,T+2,t,s,N+1,t,G,c,_,[],[],.none,.none,rfl,rfl,rfl,P,λp q=>⟨num<|E p q,λh=>absurd h<|by decide⟩,λh=>absurd h<|by decide,mt,.nil,.inl rfl,by rw[Yw];lia,λk Tt F x=>?_⟩;have y:a7 ((F++[])++Z) k (bu<|fO 1 c []):=by rw[aP];exact x
 have l2:k.length<=c.length:=by rw[x.pM];exact V
 refine⟨λJ T2=>ah ⟨_,_,_,_,_,t,s,N+1,s,u,r,_,k,_,.none,.none,v,rfl,rfl,rfl,z.sub up,D,B,up _ o,y,.inl rfl,by lia,A,λd U Y g j f=>⟨λa a=>ah<|l j f,λa a a a a a a=>ah<|l j f⟩⟩,
  λk3 k4 Tv tx Tu J T2=>ah ⟨_,_,_,_,_,t,s,N+1,s,u,r,_,k,_,.none,.none,v,rfl,rfl,rfl,z.sub up,D,B,up _ o,y,.inr<|iH _ _ _ _ _ rfl,by lia,A,λd U Y g j f=>⟨λa a=>ah<|l j f,λa a a a a a a=>ah<|l j f⟩⟩⟩
theorem DW(a:b+120<=960):kY.Ok w b:=Fn (b:=b+40) (by exact VA _) (by lia)<|Sh<|by assumption
inductive fY(c:Td)(sub:Led)(k:Nat->Nat->Prop):Prop
 |mk (r m t u v) (h0:c= .builtin "range.__iter__" ⟨[.ref r],[]⟩) (h1:sub=[(r,av "range" [.int 0 t,.int (SR m) u,.int 1 v])]) (h2:m<=1000) (h3:∀a,k m a):fY c sub k
def ik:aA:=λc sub Z b=>fY c sub λm a=>b 0 (H7<|.ref<|a+4) (sub.map (·.2)) [(a+4,aK 0<|SR m)] [] []
theorem I0{m:Nat}(h:m<=1000):(Wb 0&&Wb (m:Int)&&Wb 1&&Wb (YI 0 m 1)&&(YI 0 m 1==0||if(1:Int)>0 then Wb ((m:Int)+(1-1)) else Wb ((m:Int)+(1+1))))=true/\YI 0 m 1=m:=by
 refine⟨small_one (a:=0) (b:=(m:Int)) (by decide) (by decide) (by exact Vo _)<|by lia,?_⟩;rw[rangeSize_one];split<;>lia
theorem j1{b:Nat}:ik.Ok w b:=by
 rintro c sub Z o ⟨r,m,t,u,v,rfl,rfl,j,H⟩;refine a0 (I0 j) λe f=>SP.meets F.entry_range_iter (by decide+kernel) (AutoRange.range___iter___range_1 r 0 m 1 t u v<|by rw[e];decide) λA q h N T g d l R hk p D i=>⟨D.own (r,_)<|.head _,?_⟩;refine aw D.d3 λa n=>?_;subst n
 have k:h.objs.size=a+4:=D.size;rw[e,f];show R (H7<|.ref h.objs.size) ⟨h.push _,g,d,T+1,l⟩;rw[k];exact i.alloc rfl D ⟨0,H a⟩
def VS(b:Nat)(c:Td){i:Type}(t:VM i)(L Z:Led)(l:i->List S9->Led->Prop):Prop:=
 ∀(A:Wr) (e h:Vm) (N T:Nat) (g:GB) (d:YD) (k:WU),A.handled=none->A.depth<=b->A.units<=5*b->KH e (kK w)->ep e Z->Rep e h L N->
 ∀(Q:i->Tf->Prop) (E:va->Tf->Prop),(∀a f F j m n (o:GB),l a f F->f.length=L.length->Rep e j (a8 L f++F) m->Q a ⟨j,o,d,n+1,k⟩)->Xs (Vy Pw w) A c t Q E ⟨h,g,d,T+1,k⟩
section
variable{b:Nat}{c:Td}{α β:Type}{t:VM α}{L Z:Led}
theorem iA:∀(L:Led) (a:List S9),a.length=L.length->(a8 L a).map (·.2)=a:=by
 intro L;induction L with
 |nil=>exact fun
  |[],_=>rfl
  |_::_,h=>nomatch h
 |cons e L d=>exact fun
  |[],h=>nomatch h
  |o::a,h=>by
   show o::(a8 L a).map (·.2)=o::a;rw[d a<|by simpa using h]
theorem qb(L:Led)(d a:List S9)(h:a.length=L.length):a8 (a8 L d) a=a8 L a:=nE L (a8 L d) a (ly _ _) h
theorem VS.bind{f:α->VM β}{n:α->List S9->Led->Prop}{m:β->List S9->Led->Prop}(P:VS b c t L Z n)(R:∀a e F,n a e F->e.length=L.length->VS b c (f a) (a8 L e) (F++Z) λa j l=>m a j<|l++F):VS b c (t>>=f) L Z m:=by
 intro A Y h N T g d x s r w hk o D Q E V;refine WL<|P A Y h N T g d x s r w hk o D _ _ λa e F M z C I S hl i=>R a e F S hl A _ M z C I d x s r w (hk.le i.cV) (λp q=>?_) i.frame Q E λH j l O B G J U u y=>?_
 ·rcases bB q with q|q
  ·exact i.jn p q
  ·exact i.cV _ _<|o p q
 ·have v:(a8 L e).length=L.length:=by have:=congrArg Tn<|ly L e;simpa using this
  have k:=i.gu y;rw[qb _ _ _<|u.trans v,aZ] at k;exact V H j _ O B G J U (u.trans v) k
theorem VS.mono{f i:α->List S9->Led->Prop}(h:VS b c t L Z f)(H:k<=b)(z:∀p∈Z,p∈j)(w:∀a e F,e.length=L.length->f a e F->i a e F):VS k c t L j i:=
 λA B s N T g d G C I J hk v D Q E y=>h A B s N T g d G C (by exact SQ ‹_› ‹_›) (by exact SQ ‹_› (V7 5 ‹_›)) hk (λp q=>v p<|z p q) D Q E λa e F u n o r x l m=>y a e F u n o r (w _ _ _ l x) l m
theorem VS.pure{e:α->List S9->Led->Prop}(h:e a (L.map (·.2)) []):VS b c (Y2 a) L Z e:=λA k i N T g d o m l n hk j D Q E f=>
 Va (Te<|f _ _ _ _ N T g h (by rw[aM])<|by rw[gz,aP];exact D)
theorem VS.one{k:α->List S9->Led->Prop}(I:L[i]?=some (a,o))(h:VS b c t [(a,o)] Z k):VS b c t L Z λr j F=>∃f,j=(setAt L i f).map (·.2)/\k r [f] F:=by
 intro A O x N T g d M H G J hk C D Q E B;have e:pick L [i]=some [(a,o)]:=by
  show(match L[i]? with|some p=>_|none=>none)=_;rw[I];rfl
 have n:=D.sub e<|Vs.mpr ⟨Vn,WQ⟩;refine h A _ x N T g d M H G J (hk.le<|D.base e) (λp q=>D.base e _ _<|C p q) n Q E λr j F y u v w z l m=>?_
 rcases j with _|⟨f,_|⟨_,_⟩⟩
 ·cases l
 ·have s:=D.join e (Vs.mpr ⟨Vn,WQ⟩) m
  refine B r _ F y u v w (aX f rfl z) (by rw[aM,l9]) ?_;rw[rT L _<|iD ..];exact s
 ·cases l
end
noncomputable def tsE(e:Expr)(a:Zb):VM PySem.Fin:=isTrue e a (eval e a)>>=λb=>pure<|PySem.Fin.done<|.ret<|.bool b
noncomputable def apE(a v:va):VM PySem.Fin:=call (.builtin "list.append") [a,v]>>=λr=>pure<|PySem.Fin.done<|.ret r
lay_z tsE apE
section
variable{b:Nat}{c:Td}{L Z:Led}{a:aU}
theorem VS.qS{m:Type}{t:VM m}{i:m->va}{n:m->List S9->Led->Prop}(h:d7 w b c (t>>=λf=>Y2<|PySem.Fin.done<|.ret<|i f) L Z a)
  (M:∀r l k F q,a r l k F q->(∃v,r= .ok (.ret v))/\∀f,r= .ok (.ret<|i f)->n f l (k++F)):VS b c t L Z n:=by
 intro A R j N T g d os V U hu hk P D Q Tu O;have Tt:=h A R j N T g d os V U hu hk P D (λr Ts=>(∃v,r= .ok (.ret v))/\∀f,r= .ok (.ret<|i f)->Q f Ts) λr l k F q I B C G z Y Tv y=>by
  obtain⟨H,J⟩:=M _ _ _ _ _ z;exact⟨H,λf e=>O f l (k++F) I B C G (J f e) Y<|by rw[<-aZ];exact y⟩
 intro x p S hΓ;have u:=Tt x p S hΓ;rw[V0] at u;refine V8 _ x t (λf p' s j=>?_) (λE p' s j=>?_) p _ u
 ·exact(show(∃v,(Except.ok (Xr<|i f):Vz)= .ok (.ret v))/\∀o,(Except.ok (Xr<|i f):Vz)= .ok (.ret<|i o)->Q o s from j).2 f rfl
 ·refine a0 (show(∃v,(Except.error E:Vz)= .ok (.ret v))/\_ from j) λTr zu=>?_;obtain⟨v,e⟩:=Tr
  cases e
end
noncomputable def jQ:Expr->Zb->VM PySem.Fin:=PySem.W.ZFast.zw4119935685716989565
theorem yl:@tsE=jQ:=PySem.W.ZFast.ze4119935685716989565
noncomputable def C2:va->va->VM PySem.Fin:=PySem.W.ZFast.zw16889333931858194166
theorem Nu:@apE=C2:=PySem.W.ZFast.ze16889333931858194166
def LM(x:va)(a k:Nat)(c:List va):Q7:=λe f N T Z b R=>ae [1] [a] ((((a+4)=(a+4))/\(Tn c<=PySem.sizeLine))/\∀d T3:Nat,R (H7<|.none) [aa (c++[x])<|k+1] [] [] [])
theorem LV(e:Expr)(i v x:va)(c:Zb)(a k:Nat)(b:List va):a9 w [(a+4,aa b k)] [] [jN] (S0 e 0 i v c) (C2 (.ref<|a+4) x) (LM x a k b):=ba 3 8 0x66
section
variable{b:Nat}
theorem Gm(m:b+40<=960)(n:c.length<=1000):
  VS b (.compLoop e 0 i v g) (call (.builtin "list.append") [.ref<|d+4,x]) [(d+4,aa c k)] Z λr f F=>f=[aa (c++[x])<|k+1]/\F=[]:=by
 refine VS.qS (i:=λa=>a) (a:=λr f j F s=>(∃v,r= .ok (.ret v))/\f=[aa (c++[x])<|k+1]/\j=[]/\F=[]) ?_ λr f j F s h=>?_
 ·show d7 w b _ (apE (.ref<|d+4) x) _ _ _
  rw[Nu];exact LV e i v x g d k c 960 m (zd rfl) (aj pH ay) ax λu y N T z=>ah ⟨⟨rfl,b6 n⟩,λt t=>⟨⟨_,rfl⟩,rfl,rfl,rfl⟩⟩
 ·refine ei h λl o p q=>?_;clear h;subst o p q
  exact⟨l,λa e=>⟨rfl,rfl⟩⟩
theorem OF{R:Vz->Tf->Prop}(h:Xs (Vy Pw w) A (.compLoop e 0 i v a) (compTurn e 0 i v a) (postC Pw w A R) (λc c=>False) s):Yb (Vy Pw w) A (.compLoop e 0 i v a) R s:=by
 refine y_code _ _ _ _ _ _ ?_;show Xs _ A _ (if _ then(compTurn e 0 i v a).onRaise _ else(compTurn e 0 i v a).onRaise _) _ _ _;split<;>exact nX h
theorem SP.comp{L Z:Led}{x:PySem.Fin->List S9->Led->Prop}(Tr:VS b (.compLoop e 0 i v h) (compTurn e 0 i v h) L Z x)
  (hK:∀j a F,x j a F->a.length=L.length->(∃f,j= .done f/\l (.ok f) a [] F [])\/(j= .again (.compLoop e 0 i v h)/\SP w b (.compLoop e 0 i v h) (a8 L a) (F++Z) λr o n k S=>n=[]/\S=[]/\l r o [] (k++F) [])):
  SP w b (.compLoop e 0 i v h) L Z l:=by
 intro A hb h0 N T g d Q I H P hk G D R E;refine OF<|Tr A hb h0 N T g d Q I H P hk G D _ _ λj a F C y z B Tt J c=>?_;rcases hK j a F Tt J with⟨f,rfl,m⟩|⟨rfl,m⟩
 ·exact E (.ok f) a [] F [] C y z B m J (λzu q=>nomatch q)<|by rw[aP];exact c
 ·refine⟨rfl,?_⟩
  refine m A _ C y z B d Q I H P (hk.le c.cV) (λp q=>?_) c.frame R λr o n k S Ts U V Y s M Tu t=>?_
  ·rcases bB q with q|q
   ·exact c.jn p q
   ·exact c.cV _ _<|G p q
  ·obtain⟨rfl,rfl,s⟩:=s
   have O:(a8 L a).length=L.length:=by have:=congrArg Tn<|ly L a;simpa using this
   have u:=c.gu (new:=k) (by rw[aP] at t;exact t);rw[qb _ _ _<|M.trans O,aZ] at u;exact E r o [] (k++F) [] Ts U V Y s (M.trans O) (λzu q=>nomatch q)<|by rw[aP];exact u
end
noncomputable def jl(b:List Expr)(a:Zb):VM Bool:=forIn b true λc r=>if r=true then do let ok<-PySem.isTrue c a (eval c a);pure (ForInStep.yield ok) else pure (ForInStep.yield r)
noncomputable abbrev bD(a f c:Expr)(b:List Expr)(e:Scope)(d:XT):Expr:=.ListComp a [⟨f,c,b,0⟩] e d
theorem HJ(e c g:Expr)(f:List Expr)(j:Scope)(i:XT)(b:va)(d:va)(a:Zb):
  compTurn (bD e c g f j i) 0 b d a=standAt g.pos>>=λh=>Wk b>>=λr=>match r with
   |none=>pure<|.done .next
   |some v=>Wn c b v>>=λh=>assign c a v>>=λh=>jl f a>>=λok=>
    if ok=true then((eval e a>>=λx=>call (.builtin "list.append") [d,x]>>=λh=>pure ())>>=λh=>again<|.compLoop (bD e c g f j i) 0 b d a) else again (.compLoop (bD e c g f j i) 0 b d a):=by
 rw[compTurn_list];rfl
section
variable{b a g d n:Nat}{h j s:Expr}{l:List Expr}{u:Scope}{v:XT}{c:Zb}{Z:Led}{I:Nat->S9}{x:S9}{e:S9->Prop}{t:Nat->va->Prop}{q:Nat->S9->Prop}{p:Nat->Bool}{D:Nat->Tg}
theorem VS.standAt{b:Nat}{L Z:Led}:VS b f (standAt r) L Z λJ o F=>o=L.map (·.2)/\F=[]:=λA z k N T i w H C B G hk y D Q E m=>
 Va (Y8<|m _ _ [] k N T i ⟨rfl,rfl⟩ (by rw[aM])<|by rw[gz,aP];exact D)
theorem VS.lC{z A:Type}{y:VM z}{f:z->VM A}{r:A->List S9->Led->Prop}(B:VS b o y L Z λi w F=>w=L.map (·.2)/\F=[])(C:∀m,VS b o (f m) L Z r):VS b o (y>>=f) L Z r:=by
 refine VS.bind B λm w F k i=>a0 k λG H=>?_;clear k;subst G H
 rw[gz];exact(C m).mono ar (λi E=>E) λi i J i k=>by rw[aP];exact k
theorem VS.uR{z M A:Type}{b i:Nat}{r:Td}{L Z:Led}{C:WO}{o:S9}{H:VM z}{f:z->VM M}{E:A->z}{w:A->S9}{P:A->Prop}{B:M->List S9->Led->Prop}(S:L[i]?=some (C,o))(O:VS b r H [(C,o)] Z λJ G F=>∃k,J=E k/\G=[w k]/\F=[]/\P k)
  (Q:∀k,P k->VS b r (f<|E k) (setAt L i<|w k) Z B):VS b r (H>>=f) L Z B:=by
 refine VS.bind (VS.one S O) λJ G F m hl=>aI m λo1 U qs=>pL qs λk V N Y R=>?_;clear m;subst U V Y
 cases N
 rw[<-nE L (setAt L i<|w k) _ (iD ..) (by rw[aM,l9]),gz];exact(Q k R).mono ar (λy T=>T) λy y F' y m=>by rw[aP];exact m
theorem VS.bindC{C E:Type}{o w:S9}{B:VM C}{f:C->VM E}{y:E->List S9->Led->Prop}(J:L[i]?=some (z,o))(G:VS b r B [(z,o)] Z λk M F=>M=[w]/\F=[])(H:∀m,VS b r (f m) (setAt L i w) Z y):VS b r (B>>=f) L Z y:=
 VS.uR (E:=id) (w:=λk=>w) (P:=λk=>True) J (G.mono ar (λk N=>N) λm k k k A=>hO m rfl A.1 A.2 trivial) λm k=>H m
theorem IT{w:Expr}(L:C= .compLoop w 0 i R H)(M:b+40<=960)(N:A.length<=1000)(f:VS b C (eval h c) [(d+4,z)] r λy m F=>m=[z]/\Tells (F++r) y Dt):
  VS b C ((eval h c>>=λS=>call (.builtin "list.append") [.ref<|g+4,S]>>=λo=>pure ())>>=λo=>again C) [(d+4,z),(g+4,aa A k),(a+4,E)] r λJ m F=>J= .again C/\∃y,Tells (F++r) y Dt/\m=[z,aa (A++[y])<|k+1,E]:=by
 subst L;refine VS.bind (n:=λo m F=>∃y,Tells (F++r) y Dt/\m=[z,aa (A++[y])<|k+1,E]) (VS.bind (VS.one (i:=0) rfl f) λy m F f o=>?_) λo m F f o=>?_
 ·refine dB f λO G w B=>?_;clear f;subst G
  cases w
  refine VS.bind (VS.one (i:=1) rfl (Gm M N)) λo m T f o=>dB f λO G w Q=>?_;clear f;subst G Q
  cases w
  exact VS.pure (aX y B rfl)
 ·refine aI f λy B P=>?_;clear f;subst P
  exact VS.pure ⟨rfl,y,B,rfl⟩
theorem SP.x4{L Z:Led}{B:PySem.Fin->List S9->Led->Prop}(J:C= .compLoop (bD h j s l u v) 0 i E c)
  (H:VS b C (standAt s.pos>>=λy=>Wk i>>=λr=>match r with
   |none=>pure<|.done .next
   |some m=>Wn j i m>>=λy=>assign j c m>>=λy=>jl l c>>=λok=>
    if ok=true then((eval h c>>=λm=>call (.builtin "list.append") [E,m]>>=λy=>pure ())>>=λy=>again C) else again C) L Z B)
  (M:∀A k F,B A k F->k.length=L.length->(∃f,A= .done f/\z (.ok f) k [] F [])\/(A= .again C/\SP w b C (a8 L k) (F++Z) λr o n G N=>n=[]/\N=[]/\z r o [] (G++F) [])):SP w b C L Z z:=by
 subst J;exact SP.comp (by rw[HJ];exact H) M
inductive Mg(e:S9->Prop)(m:Nat)(ld:S9)(ys:List va)(k:Nat)(ds:List Tg)(r:Vz)(objs:List S9)(new Z ro:Led):Prop
 |mk (h0:r= .ok .next/\new=[]/\ro=[]) (f zs i o) (h1:(m=0/\f=ld/\zs=[]/\i=k)\/(m≠0/\e f)) (h2:objs=[f,aa (ys++zs) i,o]) (h3:ak Z zs ds)
theorem pZ{C:Td}(V:C= .compLoop (bD h j s l u v) 0 (.ref<|a+4) (.ref<|g+4) c)(hb:b+40<=960)
  (nx:∀i,i<n->VS b C (Wk<|.ref<|a+4) [(a+4,I i)] Z λr A F=>∃L,r=some L/\A=[I<|i+1]/\F=[]/\t i L)
  (Tz:VS b C (Wk<|.ref<|a+4) [(a+4,I n)] Z λr A F=>r=none/\F=[])
  (go:∀i L,i<n->t i L->VS b C (Wn j (.ref<|a+4) L) [(a+4,I<|i+1)] Z λz A F=>A=[I<|i+1]/\F=[])
  (Tw:∀i L B,i<n->t i L->(B=x\/e B)->VS b C (assign j c L) [(d+4,B)] Z λz A F=>F=[]/\∀o,A=[o]->q i o)
  (Tu:∀i B,q i B->e B)
  (ts:∀i B G,i<n->(∀E∈Z,E∈G)->q i B->VS b C (jl l c) [(d+4,B)] G λok A F=>ok=p i/\A=[B])
  (el:∀i B G,i<n->(∀E∈Z,E∈G)->q i B->p i=true->VS b C (eval h c) [(d+4,B)] G λy A F=>A=[B]/\Tells (F++G) y (D i)):
  ∀(m i:Nat) (B:S9) (H:List va) (k:Nat) (G:Led),i+m=n->(B=x\/e B)->H.length+m<=1000->(∀E∈Z,E∈G)->
   SP w b C [(d+4,B),(g+4,aa H k),(a+4,I i)] G
    λr A Ts F ro=>Mg e m B H k (((X0 i m).filter p).map D) r A Ts (F++G) ro:=by
 intro m;induction m with
 |zero=>
  intro i B H k G hi hl hy M;have:i=n:=by assumption
  subst this;refine SP.x4 V (B:=λO A F=>O= .done .next/\F=[]/\∃o,A=[B,aa H k,o]) ?_ ?_
  ·refine VS.lC VS.standAt λz=>VS.bind (VS.one (i:=2) rfl (Tz.mono ar M λz z z z f=>f)) λr A F f z=>dB f λo' N S T=>?_;clear f;subst N S T
   exact VS.pure ⟨rfl,rfl,o',rfl⟩
  ·rintro O A F Tv z;refine cK Tv λTt N qs=>aw qs λo T=>?_;clear Tv;subst Tt N T
   exact .inl ⟨_,rfl,⟨rfl,rfl,rfl⟩,B,[],k,o,.inl ⟨rfl,rfl,rfl,rfl⟩,by rw[aP],.nil⟩
 |succ m ih=>
  intro i B H k G hi hl hy M;have Q:i<n:=by exact nN ‹_›
  refine SP.x4 V (B:=λO A F=>O= .again C/\∃J,e J/\((p i=false/\A=[J,aa H k,I<|i+1])\/(p i=true/\∃y,Tells (F++G) y (D i)/\A=[J,aa (H++[y])<|k+1,I<|i+1]))) ?_ ?_
  ·refine VS.lC VS.standAt λz=>VS.uR (i:=2) rfl ((nx i Q).mono ar M λz z z z f=>f) λL hv=>VS.bindC (i:=2) rfl ((go i L Q hv).mono ar M λz z z z f=>f) λz=>VS.bind (VS.one (i:=0) rfl ((Tw i L B Q hv hl).mono ar M λz z z z f=>f)) λz A F f z=>dB f λJ N S P=>?_;clear f;subst N S
   replace P:=P J rfl;show VS _ _ _ [(d+4,J),(g+4,aa H k),(a+4,I<|i+1)] G _;refine VS.bind (VS.one (i:=0) rfl (ts i _ _ Q M P)) λok A F f z=>dB f λo' N S Tx=>?_;clear f;subst N S
   cases Tx
   show VS _ _ _ [(d+4,J),(g+4,aa H k),(a+4,I<|i+1)] (F++_) _;cases R:p i with
   |false=>exact VS.pure ⟨rfl,_,Tu _ _ P,.inl ⟨rfl,rfl⟩⟩
   |true=>
    rw[if_pos rfl];refine(IT V hb (by exact SQ (VI _ _) ‹_›)<|el i _ _ Q (λE f=>az<|M E f) P R).mono ar (λz E=>E) λO A F z f=>a0 f λTt qs=>aI qs λy Tr T=>?_;clear f;subst Tt T
    exact⟨rfl,J,Tu _ _ P,.inr ⟨rfl,y,by simpa only[aP,aZ,Zn] using Tr,rfl⟩⟩
  ·intro O A F f _
   refine hide λTA hQ=>?_
   obtain⟨rfl,J,U,⟨R,rfl⟩|⟨R,y,Tr,rfl⟩⟩:=f<;>refine hQ ?_
   ·refine .inr ⟨rfl,(ih (i+1) J H k (F++G) (by exact vF ‹_›) (.inr U) (by lia) λE f=>az<|M E f).mono ar (λz E=>E) ?_⟩
    rintro r A Ts F2 ro z ⟨⟨rfl,rfl,rfl⟩,dc,zs,k',o,Y,rfl,ht⟩ z;refine⟨rfl,rfl,⟨rfl,rfl,rfl⟩,dc,zs,k',o,.inr ⟨Nat.succ_ne_zero _,Y.elim (λf=>f.2.1▸U) (·.2)⟩,rfl,?_⟩;rw[Ye,VF,if_neg<|by simp[R],aZ];exact ht
   ·refine .inr ⟨rfl,(ih (i+1) J (H++[y]) (k+1) (F++G) (by lia) (.inr U) (by simp;lia) λE f=>az<|M E f).mono ar (λz E=>E) ?_⟩
    rintro r A Ts F2 ro z ⟨⟨rfl,rfl,rfl⟩,dc,zs,k',o,Y,rfl,ht⟩ z;refine⟨rfl,rfl,⟨rfl,rfl,rfl⟩,dc,y::zs,k',o,.inr ⟨Nat.succ_ne_zero _,Y.elim (λf=>f.2.1▸U) (·.2)⟩,by rw[aZ];rfl,?_⟩;rw[Ye,VF,if_pos<|by simp[R],aZ];exact .cons (Tr.sub λE f=>az f) ht
end
section
variable{b:Nat}{c:Td}{a l i n m:Nat}{d:List va}{x:va}{Z:Led}
theorem BF{E:va->Tf->Prop}{Q:Option va->Tf->Prop}{h:Vm}{g:GB}{f:YD}{j:WU}(e:h.get? (a+4)=some (aF l i))(p:h.get? (l+4)=some (aa d n))(q:d[i]?=some x)
  (o:Q (some x) ⟨h.update (a+4) (Tc (·.setIfInBounds 1 (Wy<|(i:Int)+1))),g,f,T,j⟩):To (Vy Pw w) A (Wk<|.ref<|a+4) Q E ⟨h,g,f,T,j⟩:=by
 have k:Xj ⟨h,g,f,T,j⟩ (.ref<|a+4) "list_iterator":=aX _ e rfl;unfold Wk;refine bA<|VH (name:="__next__") k Xx<|V1 Xx k Ym ?_<|args_listiter_next _;show To _ _ (field (.ref<|a+4) 0>>=_) _ _ _;refine bF e rfl (x:=.ref<|l+4) rfl ?_;show To _ _ (if(VV (l+4)==SY)=true then _ else _) _ _ _;refine wN (show ¬((VV (l+4)==SY)=true) from Vx) ?_;show To _ _ (field (.ref<|a+4) 1>>=_) _ _ _;refine bF e rfl (x:=.int i 0) rfl ?_;show To _ _ (X7 (.ref<|l+4)>>=_) _ _ _;refine bI p rfl ?_;simp only[WW,show(⟨d⟩:Array va)[i]?=some x by simpa using q];exact bS e rfl (by show 1<2;decide) (Te<|aX _ rfl (Te o))
theorem xd{A:Wr}{E:va->Tf->Prop}{Q:Option va->Tf->Prop}{h:Vm}{g:GB}{e:YD}{j:WU}(q:A.handled=none)(u:h.objs.size=t+4)(f:h.get? (a+4)=some (aF l i))(r:h.get? (l+4)=some (aa d n))(v:d.length<=i)
  (p:Q none ⟨((h.update (a+4) Sy).push<|ag []).push<|cm t,g,e,T,j⟩):To (Vy Pw w) A (Wk<|.ref<|a+4) Q E ⟨h,g,e,T,j⟩:=by
 have k:Xj ⟨h,g,e,T,j⟩ (.ref<|a+4) "list_iterator":=aX _ f rfl;unfold Wk;refine bA<|VH (name:="__next__") k Xx<|V1 Xx k Ym ?_<|args_listiter_next _;show To _ _ (field (.ref<|a+4) 0>>=_) _ _ _;refine bF f rfl (x:=.ref<|l+4) rfl ?_;show To _ _ (if(VV (l+4)==SY)=true then _ else _) _ _ _;refine wN (show ¬((VV (l+4)==SY)=true) from Vx) ?_;show To _ _ (field (.ref<|a+4) 1>>=_) _ _ _;refine bF f rfl (x:=.int i 0) rfl ?_;show To _ _ (X7 (.ref<|l+4)>>=_) _ _ _;refine bI r rfl ?_;simp only[WW,show(⟨d⟩:Array va)[i]?=none by simpa using v];refine bR (bS f rfl (by show 0<2;decide) ?_);have z:(h.update (a+4) Sy).objs.size=t+4:=by rw[(show Vq (a+4) h (h.update (a+4) Sy) from VU ..).1];exact u
 refine ke (t:=t) (s:=⟨h.update (a+4) Sy,g,e,T,j⟩) q z<|SU<|W7 (T:="StopIteration") (b:=true) (aX (cm t) ?_ rfl) XX<|Te p;have o:((h.update (a+4) Sy).push<|ag []).objs.size=t+5:=by rw[Wm,z]
 show((((h.update (a+4) Sy).push<|ag []).push<|cm t).get?<|t+5)=some (cm t);rw[<-o];exact VT _ rfl
theorem rx(o:(l+4,aa d n)∈Z)(p:d[i]?=some x):VS b c (Wk<|.ref<|a+4) [(a+4,aF l i)] Z λr q F=>r=some x/\q=[aF l<|i+1]/\F=[]:=by
 intro A t h N T g s y v u w hk k D Q E j;refine Va<|BF (D.own (a+4,aF l i)<|.head _) (D.keep _ _<|k _ o) p ?_;have e:([(a+4,aF l i)]:Led)[0]?=some (a+4,aF l i):=rfl;exact j (some x) [aF l<|i+1] [] _ N T g ⟨rfl,rfl,rfl⟩ rfl (by rw[aP];exact D.update (f:=Tc (·.setIfInBounds 1 (Wy<|(i:Int)+1))) e rfl)
theorem w4(s:(l+4,aa d n)∈Z)(u:d.length<=i):VS b c (Wk<|.ref<|a+4) [(a+4,aF l i)] Z λr B F=>r=none/\F=[]:=by
 intro A w h N T g v C q y z hk p D Q E k;obtain⟨t,rfl⟩:=D.d3;refine Va<|xd q D.size (D.own (a+4,aF l i)<|.head _) (D.keep _ _<|p _ s) u ?_;have j:([(a+4,aF l i)]:Led)[0]?=some (a+4,aF l i):=rfl;have e:=((D.update (f:=Tc (·.setIfInBounds 0 .none)) j rfl).alloc (o:=ag []) rfl).alloc (o:=cm t) rfl;exact k none [litE i] [] _ (t+6) T g ⟨rfl,rfl⟩ rfl (e.fp<|(Vg _ _).trans<|Vg _ _)
theorem Ag(M:i<m):VS b c (Wk<|.ref<|a+4) [(a+4,aK (i:Int)<|SR m-i)] Z λr C F=>(∃t,r=some (.int (i:Int)<|t+1))/\C=[aK ((i+1:Nat):Int)<|SR m-((i+1:Nat):Int)]/\F=[]:=by
 intro A I h N T g v G L J O hk H D Q E y;have B:h.get? (a+4)=some (aK (i:Int)<|SR m-i):=D.own (a+4,_)<|.head _;refine Va (wpAny_pyNext_range_item (s:=⟨h,g,v,T+1,G⟩) (x:=(i:Int)) (left:=SR m-i) (step:=1) B (by show 0<(m:Int)-i;exact Int.sub_pos_of_lt<|W0.mpr ‹_›) λk w u=>?_);have e:Vm.get? k (a+4)=some (aK ((i+1:Nat):Int)<|SR m-((i+1:Nat):Int)):=by
  rw[show SR m-((i+1:Nat):Int)=SR m-i-1 by lia,show((i+1:Nat):Int)=(i:Int)+1 by lia];exact w
 refine y _ [_] [] k N (T+1) g ⟨aB T rfl,rfl,rfl⟩ rfl<|⟨u.1.trans D.size,λp f=>?_,by simp[a8],λq o q1=>(u.2 q λz=>?_).trans<|D.keep q o q1,λp f=>?_,D.big⟩
 ·have j:p∈[(a+4,aK ((i+1:Nat):Int)<|SR m-((i+1:Nat):Int))]:=by rw[aP] at f;exact f
  rcases dg j with rfl;exact e
 ·have:=D.off (a+4,aK (i:Int)<|SR m-i)<|.head _
  rw[z] at q1;rw[q1] at this;cases this
 ·have j:p∈[(a+4,aK ((i+1:Nat):Int)<|SR m-((i+1:Nat):Int))]:=by rw[aP] at f;exact f
  rcases dg j with rfl;exact D.off (a+4,aK (i:Int)<|SR m-i)<|.head _
theorem zT{left x:Int}(w:left<=0):VS b c (Wk<|.ref<|a+4) [(a+4,aK x left)] Z λr G F=>r=none/\F=[]:=by
 intro A z h N T g f j v B C hk y D Q E u;have e:h.get? (a+4)=some (aK x left):=D.own (a+4,_)<|.head _;have k:Xj ⟨h,g,f,T+1,j⟩ (.ref<|a+4) "range_iterator":=aX _ e rfl;refine Va ?_;unfold Wk;refine bA<|VH (name:="__next__") k XU<|V1 XU k XR ?_<|F.args_range_iterator_next_1 _;show To _ _ (field (.ref<|a+4) 0>>=_) _ _ _;refine bF e rfl (x:=Wy x) rfl ?_;show To _ _ (field (.ref<|a+4) 1>>=_) _ _ _;refine bF e rfl (x:=Wy left) rfl ?_;show To _ _ (field (.ref<|a+4) 2>>=_) _ _ _;refine bF e rfl (x:=Wy 1) rfl ?_;show To _ _ (if left<=0 then _ else _) _ _ _;refine wP w<|bR ?_;obtain⟨t,rfl⟩:=D.d3;refine SU<|ke (t:=t) (s:=⟨h,g,f,T+1,j⟩) v D.size ?_;have p:=(D.alloc (o:=ag []) rfl).alloc (o:=cm t) rfl;refine SU<|W7 (T:="StopIteration") (b:=true) (aX (cm t) ?_ rfl) XX<|Te ?_
 ·have q:(h.push<|ag []).objs.size=t+5:=by rw[Wm,D.size]
  show(((h.push<|ag []).push<|cm t).get?<|t+5)=some (cm t);rw[<-q];exact VT _ rfl
 ·exact u none [aK x left] [] _ (t+6) T g ⟨rfl,rfl⟩ rfl (p.fp<|(Vg _ _).trans<|Vg _ _)
end
section
variable{b:Nat}{c:Td}{Z:Led}
theorem tQ:VS b c (Wn (.Name x p) (.ref<|d+4) v) [(d+4,a)] Z λf e F=>e=[a]/\F=[]:=VS.pure ⟨rfl,rfl⟩
theorem RF:VS b c (Wn (.Tuple f k p) (.ref<|e+4)<|.ref a) [(e+4,aF l i)] Z λu m F=>m=[aF l i]/\F=[]:=by
 intro A o h N T g d t r q s hk n D Q E j;exact Va<|wpAny_letOwnedTupleGo_listiter (aY (aF l i) (D.own (e+4,aF l i)<|.head _) rfl rfl)<|j _ [aF l i] [] h N T g ⟨rfl,rfl⟩ rfl (by rw[aP];exact D)
def oQ(x:SX)(t:Nat)(v:va)(a:List SS):List SS:=putIn (λe=>e.key.isStr x) (λe=>{e with val:=v}) ⟨cu w x,.str x t,v⟩ a
noncomputable def lX(x:SX)(a:List SS)(n:Nat):Nat:=if a.any (λe=>e.key.isStr x) then n else n+1
theorem OO{E:va->Tf->Prop}{s:Tf}{Q:Unit->Tf->Prop}(g:s.heap.get? a=some (ab d n))(hk:∀e∈d,∃k t,e.key= .str k t)
  (i:∀f:S9->S9,f (ab d n)=ab (oQ x s.toks v d) (lX x d n)->Q () {s with heap:=s.heap.update a f,toks:=s.toks+1}):To (Vy l w) A (nsSet a x v) Q E s:=by
 unfold nsSet strHash;refine SU<|SU<|wpAny_askSetting<|Te<|SU<|wpAny_mkText<|SU<|wpAny_loadPart (s:={s with toks:=s.toks+1}) g ?_;show To _ _ (if aRefKeyMayBeTheName x ⟨d⟩=true then _ else _) _ _ _;rw[if_neg]
 ·refine wpAny_updatePart (s:={s with toks:=s.toks+1}) g<|i _ ?_
  show S9.putName x _ _ _ ⟨_,_,.dict d.toArray n,_⟩=_;rw[putName_eq];have:(if x.cps.isEmpty=true then 0 else reduceHash (w.params.strHash x.cps))=cu w x:=(mQ w x).symm;show Xv _ _ (.dict (putIn _ _ ⟨(if x.cps.isEmpty=true then 0 else reduceHash (w.params.strHash x.cps)),_,_⟩ d).toArray _) _=_;rw[this];rfl
 ·rw[aRefKeyMayBeTheName_at]
  have:(⟨d⟩:Array SS).any (λe=>e.refKey)=false:=by
   rw[Array.any_eq_false'];intro e j;refine fg (hk e<|by simpa using j) λk t h=>?_
   unfold SS.refKey;rw[h];simp
  rw[this];simp
end
theorem Rep.ext(D:Rep c h L N)(d:Vm.ExtBut h.objs.size h a)(f:4<=a.objs.size):Rep c a L a.objs.size:=
 ⟨rfl,λp q=>d _ _ (YO<|VN<|D.own p q)<|D.own p q,D.nd,λb o e=>d _ _ (YO<|VN<|D.keep b o e)<|D.keep b o e,D.off,f⟩
theorem xT(x:String)(t:Nat):Xu (.str (SV x) t) (SV x)=true:=beq_self_eq_true _
theorem vZ:oQ (SV x) t v (ent x u a::r)=ent x u v::r:=putIn_hit _ _ _ _ _<|xT x _
theorem wc:lX (SV x) (ent x u a::r) n=n:=by
 unfold lX;rw[List.any_cons,show Xu (ent x u a).key (SV x)=true from xT x _];rfl
theorem Bs(b:Xu (.str (SV x) 0) (SV y)=false):oQ (SV y) t v (ent x u a::r)=ent x u a::oQ (SV y) t v r:=
 putIn_miss _ _ _ _ _ (show Xu (ent x u a).key (SV y)=false from b)
theorem z1(b:Xu (.str (SV x) 0) (SV y)=false):lX (SV y) (ent x u a::r) n=lX (SV y) r n:=by
 unfold lX;rw[List.any_cons,show Xu (ent x u a).key (SV y)=false from b];rfl
section
variable{b:Nat}{c:Td}{d:Nat}{Z:Led}{a:Zb}{v:va}
structure ij(a:Zb)(d:Nat)(x:String):Prop where
 k:a.kindOf (SV x)=some .local
 f:(a.scope.kind== .class||(a.scope.kind== .module&&a.locals !=a.globals))=false
 l:a.locals=d+4
theorem nD(H:ij a d x)(hk:∀e∈i,∃k t,e.key= .str k t):VS b c (assign (.Name (SV x) p) a v) [(d+4,ab i n)] Z λy u F=>F=[]/\∃t,u=[ab (oQ (SV x) (t+1) v i)<|lX (SV x) i n]:=by
 rw[PySem.assign_Name];refine VS.lC VS.standAt λy=>?_
 intro A B h N T g o w G C J I z D Q E r;refine Va<|wpAny_bindName ?_;rw[storeName_local H.k H.f,H.l];refine OO (s:=⟨h,g,o,T+1,w⟩) (D.own (d+4,ab i n)<|.head _) hk λf m=>?_
 have q:([(d+4,ab i n)]:Led)[0]?=some (d+4,ab i n):=rfl;have j:=D.update (f:=f) q (by rw[m];rfl);rw[m] at j;exact r _ [_] [] _ N (T+1) g ⟨rfl,T,rfl⟩ rfl (by rw[aP];exact j)
theorem Cz:∀e∈[ent x t v],∃k t,e.key= .str k t:=fc (cG _ _ rfl) fz
theorem By:∀e∈[ent x t v,ent y u f],∃k t,e.key= .str k t:=λe h=>by
 rcases bK h with rfl|h
 ·exact cG _ _ rfl
 ·rcases dg h with rfl;exact cG _ _ rfl
def O3(x:String)(e:S9):Prop:=e=ab [] 0\/∃t v,e=ab [ent x t v] 1
theorem zJ(H:ij a d x)(h:O3 x g):VS b c (assign (.Name (SV x) p) a v) [(d+4,g)] Z λe f F=>F=[]/\∃t,f=[ab [ent x t v] 1]:=by
 rcases h with rfl|⟨t,i,rfl⟩
 ·refine(nD (i:=[]) (n:=0) H λe h=>nomatch h).mono ar (λe q=>q) ?_
  rintro e f F e ⟨rfl,t,rfl⟩;exact⟨rfl,t,rfl⟩
 ·refine(nD H Cz).mono ar (λe q=>q) ?_
  rintro e f F e ⟨rfl,u,rfl⟩;exact⟨rfl,t,by rw[vZ,wc]⟩
def yz(x y:String)(e:S9):Prop:=e=ab [] 0\/∃t v u f,e=ab [ent x t v,ent y u f] 2
theorem VS.hold{f:Type}{t:VM f}{w:List va}{e:f->List S9->Led->Prop}(h:VS b c t L Z e):VS b c (X8 w t) L Z e:=λA m j N T g i u q o r hk k D Q E l x p n s=>by
 rw[VM.wp_holding];exact h A m j N T g i u q o r hk k D Q E l x p n s
theorem Hz(H:ij a d x)(j:ij a d y)(g:Xu (.str (SV x) 0) (SV y)=false)(h:yz x y k):
  VS b c (X8 [i] (assign (.Name (SV x) p) a v)>>=λe=>X8 [] (assign (.Name (SV y) q) a i)>>=λe=>pure ()) [(d+4,k)] Z λe f F=>F=[]/\∃t u,f=[ab [ent x t v,ent y u i] 2]:=by
 rcases h with rfl|⟨t,r,u,l,rfl⟩
 ·refine VS.bind (VS.hold<|nD (i:=[]) (n:=0) H λe h=>nomatch h) λe f F h e=>?_
  obtain⟨rfl,t,rfl⟩:=h;refine VS.bind (VS.hold<|nD (i:=[ent x t v]) (n:=1) j Cz) λe f F h e=>VS.pure ?_
  obtain⟨rfl,u,rfl⟩:=h;exact⟨rfl,t,u,by rw[Bs g,z1 g];rfl⟩
 ·refine VS.bind (VS.hold<|nD H By) λe f F h e=>?_
  obtain⟨rfl,m,rfl⟩:=h;rw[vZ,wc];refine VS.bind (VS.hold<|nD (i:=[ent x t v,ent y u l]) (n:=2) j By) λe f F h e=>VS.pure ?_
  obtain⟨rfl,o,rfl⟩:=h;exact⟨rfl,t,u,by rw[Bs g,z1 g,vZ,wc];rfl⟩
theorem I3(H:ij a d x)(z:ij a d y)(O:Xu (.str (SV x) 0) (SV y)=false)(h:yz x y l)(J:(j+4,ag [v,m])∈Z):
  VS b c (assign (.Tuple [.Name (SV x) p,.Name (SV y) q] k S) a<|.ref<|j+4) [(d+4,l)] Z λi f F=>F=[]/\∃t u,f=[ab [ent x t v,ent y u m] 2]:=by
 rw[arm_assign_Tuple];refine VS.lC VS.standAt λi=>?_
 show VS b c (X8 [.ref<|j+4] (unpackItems (.ref<|j+4) 2 none)>>=λP=>assignInOrder _ P) _ _ _;refine VS.bind (n:=λr f F=>r=[v,m]/\f=[l]/\F=[]) (VS.hold ?_) λr f F C i=>?_
 ·intro A U h N T g B R L V Y M I D Q E G
  refine Va (wpAny_unpackItems_tuple (s:=⟨h,g,B,T+1,R⟩) (items:=⟨[v,m]⟩) L (aY _ (D.keep _ _<|I _ J) rfl (aB 0 rfl)) λn w=>?_);refine G _ [l] [] n n.objs.size T g ⟨rfl,rfl,rfl⟩ rfl ?_;rw[aP];refine D.ext w (SQ (by decide:4<=28)<|VN (o:=oK 27) ?_);have e:h.get? 27=some (oK 27):=D.keep _ _ (M 27 _<|by kernel_rfl);exact w _ _ (YO<|VN e) e
 ·obtain⟨rfl,rfl,rfl⟩:=C
  refine(Hz H z O h).mono ar (λi q=>q) λi f F i h=>?_
  obtain⟨rfl,t,u,rfl⟩:=h;exact⟨rfl,t,u,rfl⟩
end
theorem hY:VS b c (jl [] a) L Z λok d F=>ok=true/\d=L.map (·.2):=VS.pure ⟨rfl,rfl⟩
theorem JD(c:Expr)(a:Zb):jl [c] a=PySem.isTrue c a (eval c a)>>=λok=>pure ok:=by
 unfold jl;simp only[List.forIn_cons,List.forIn_nil,if_true,WN,Z8]
inductive cC(Z:Led)(m:Nat)(Bd:List SS->Nat->Prop)(ds:List Tg)(r:Vz)(objs:List S9)(new F ro:Led):Prop
 |mk (h1:r= .ok .next/\new=[]/\ro=[]) (eo ln zs k o) (h2:(m=0/\eo=[]/\ln=0/\zs=[]/\k=0/\ds=[])\/(m≠0/\Bd eo ln)) (h3:objs=[ab eo ln,aa zs k,o]) (h4:ak (F++Z) zs ds)
def dF(x:String)(a:List SS)(b:Nat):Prop:=∃t v,a=[ent x t v]/\b=1
def jq(x y:String)(a:List SS)(b:Nat):Prop:=∃t v u c,a=[ent x t v,ent y u c]/\b=2
section
variable{b e f d l n m:Nat}{g j:Expr}{h:List Expr}{k:Scope}{q:XT}{a:Zb}{c:List va}{Z:Led}{p:Nat->Bool}{D:Nat->Tg}
theorem vw{x:String}(T:b+40<=960)(H:ij a d x)(O:(l+4,aa c n)∈Z)(Y:c.length<=1000)
  (ts:∀i v t y,c[i]?=some v->(∀u∈Z,u∈y)->VS b (.compLoop (bD g (.Name (SV x) J) j h k q) 0 (.ref<|e+4) (.ref<|f+4) a) (jl h a) [(d+4,ab [ent x t v] 1)] y λok E F=>ok=p i/\E=[ab [ent x t v] 1])
  (R:∀i v t y,c[i]?=some v->(∀u∈Z,u∈y)->p i=true->VS b (.compLoop (bD g (.Name (SV x) J) j h k q) 0 (.ref<|e+4) (.ref<|f+4) a) (eval g a) [(d+4,ab [ent x t v] 1)] y λTu E F=>E=[ab [ent x t v] 1]/\Tells (F++y) Tu (D i)):
  SP w b (.compLoop (bD g (.Name (SV x) J) j h k q) 0 (.ref<|e+4) (.ref<|f+4) a) [(d+4,ab [] 0),(f+4,aa [] 0),(e+4,aF l 0)] Z (cC Z c.length (dF x)<|((Tp c.length).filter p).map D):=by
 have Tv:=pZ (V:=rfl) (b:=b) (a:=e) (g:=f) (d:=d) (n:=c.length) (I:=λi=>aF l i) (x:=ab [] 0) (e:=λA=>∃t v,A=ab [ent x t v] 1) (t:=λi v=>c[i]?=some v) (q:=λi A=>∃t v,c[i]?=some v/\A=ab [ent x t v] 1) (p:=p) (D:=D) (Z:=Z) (h:=g) (j:=.Name (SV x) J) (s:=j) (l:=h) (u:=k) (v:=q) (c:=a) T
  (λi B=>(rx O<|Ti B).mono ar (λz u=>u) λr E F z s=>hO _ s.1 s.2.1 s.2.2<|Ti B)
  (w4 O ar) (λi v B C=>tQ)
  (λi v A B C U=>(zJ H U).mono ar (λz u=>u) λz E F z s=>by refine a0 s λTs qs=>?_;refine aw qs λt Tt=>?_;clear s;subst Ts Tt;exact⟨rfl,λo Q=>by cases Q;exact cA t v C rfl⟩)
  (λi A s=>by refine cw s λt v z G=>?_;clear s;subst G;exact cG t v rfl)
  (λi A y B L s=>by refine cw s λt v C G=>?_;clear s;subst G;exact ts i v t y C L)
  (λi A y B L s hp=>by refine cw s λt v C G=>?_;clear s;subst G;exact R i v t y C L hp)
  c.length 0 (ab [] 0) [] 0 Z (by exact V6 _) (.inl rfl) (by simpa using Y) λz u=>u
 refine Tv.mono ar (λz u=>u)<|wJ λTw S=>?_
 rintro r E Tx F ro z ⟨N,A,zs,Tr,o,⟨M,rfl,rfl,rfl⟩|⟨V,t,v,rfl⟩,rfl,P⟩ z;all_goals refine S ?_
 ·exact⟨N,_,_,_,_,o,.inl ⟨M,rfl,rfl,rfl,rfl,by rw[M];rfl⟩,rfl,by rw[VO];exact P⟩
 ·exact⟨N,_,_,zs,Tr,o,.inr ⟨V,t,v,rfl,rfl⟩,rfl,by rw[VO];exact P⟩
theorem qo{x:String}(hb:b+40<=960)(H:ij a d x)(Ts:m<=1000)
  (ts:∀(i:Nat) u t A,i<m->(∀y∈Z,y∈A)->VS b (.compLoop (bD g (.Name (SV x) L) j h k q) 0 (.ref<|e+4) (.ref<|f+4) a) (jl h a) [(d+4,ab [ent x t<|.int (i:Int)<|u+1] 1)] A λok J F=>ok=p i/\J=[ab [ent x t<|.int (i:Int)<|u+1] 1])
  (V:∀(i:Nat) u t A,i<m->(∀y∈Z,y∈A)->p i=true->VS b (.compLoop (bD g (.Name (SV x) L) j h k q) 0 (.ref<|e+4) (.ref<|f+4) a) (eval g a) [(d+4,ab [ent x t<|.int (i:Int)<|u+1] 1)] A λTu J F=>J=[ab [ent x t<|.int (i:Int)<|u+1] 1]/\Tells (F++A) Tu (D i)):
  SP w b (.compLoop (bD g (.Name (SV x) L) j h k q) 0 (.ref<|e+4) (.ref<|f+4) a) [(d+4,ab [] 0),(f+4,aa [] 0),(e+4,aK 0<|SR m)] Z (cC Z m (dF x)<|((Tp m).filter p).map D):=by
 have z:=pZ (V:=rfl) (b:=b) (a:=e) (g:=f) (d:=d) (n:=m) (I:=λi=>aK (i:Int)<|SR m-i) (x:=ab [] 0) (e:=λC=>∃t v,C=ab [ent x t v] 1) (t:=λi v=>∃t,v= .int (i:Int) (t+1)) (q:=λi C=>∃t u,C=ab [ent x t<|.int (i:Int)<|u+1] 1) (p:=p) (D:=D) (Z:=Z) (h:=g) (j:=.Name (SV x) L) (s:=j) (l:=h) (u:=k) (v:=q) (c:=a) hb
  (λi G=>(Ag G).mono ar (λE y=>y) λr J F E s=>by refine cK s λO P B=>?_;clear s;obtain⟨t,rfl⟩:=O;subst P B;exact hO _ rfl rfl rfl (aB t rfl))
  (zT<|by show(m:Int)-m<=0;lia) (λi v G N=>tQ)
  (λi v C G N Tr=>(zJ H Tr).mono ar (λE y=>y) λE J F E s=>by refine a0 s λO qs=>?_;refine aw qs λt B=>?_;clear s;subst O B;refine aw N λu P=>?_;clear N;subst P;exact⟨rfl,λo T=>by cases T;exact cG t u rfl⟩)
  (λi C s=>by refine fg s λt u B=>?_;clear s;subst B;exact cG t _ rfl)
  (λi C A G M s=>by refine fg s λt u B=>?_;clear s;subst B;exact ts i u t A G M)
  (λi C A G M s hp=>by refine fg s λt u B=>?_;clear s;subst B;exact V i u t A G M hp)
  m 0 (ab [] 0) [] 0 Z (by lia) (.inl rfl) (by simpa using Ts) λE y=>y
 have U:aK ((0:Nat):Int) (SR m-((0:Nat):Int))=aK 0 (SR m):=by rw[show SR m-((0:Nat):Int)=SR m by lia];rfl
 rw[U] at z;refine z.mono ar (λE y=>y)<|wJ λTv Y=>?_
 rintro r J Tw F ro E ⟨R,C,zs,Tt,o,⟨Q,rfl,rfl,rfl⟩|⟨hm,t,v,rfl⟩,rfl,S⟩ E;all_goals refine Y ?_
 ·exact⟨R,_,_,_,_,o,.inl ⟨Q,rfl,rfl,rfl,rfl,by rw[Q];rfl⟩,rfl,by rw[VO];exact S⟩
 ·exact⟨R,_,_,zs,Tt,o,.inr ⟨hm,t,v,rfl,rfl⟩,rfl,by rw[VO];exact S⟩
theorem lJ{x y:String}{P:Nat->va->va->Prop}(hb:b+40<=960)(Ts:ij a d x)(H':ij a d y)(Tv:Xu (.str (SV x) 0) (SV y)=false)(hl:(l+4,aa c n)∈Z)(hn:c.length<=1000)
  (hv:∀(i:Nat) (v:va),c[i]?=some v->∃A s z,v= .ref (A+4)/\(A+4,ag [s,z])∈Z/\P i s z)
  (ts:∀i A s z t u G,c[i]?=some (.ref<|A+4)->(A+4,ag [s,z])∈Z->P i s z->(∀E∈Z,E∈G)->VS b (.compLoop (bD g (.Tuple [.Name (SV x) U,.Name (SV y) V] S T) j h k q) 0 (.ref<|e+4) (.ref<|f+4) a) (jl h a) [(d+4,ab [ent x t s,ent y u z] 2)] G λok N F=>ok=p i/\N=[ab [ent x t s,ent y u z] 2])
  (el:∀i A s z t u G,c[i]?=some (.ref<|A+4)->(A+4,ag [s,z])∈Z->P i s z->(∀E∈Z,E∈G)->p i=true->VS b (.compLoop (bD g (.Tuple [.Name (SV x) U,.Name (SV y) V] S T) j h k q) 0 (.ref<|e+4) (.ref<|f+4) a) (eval g a) [(d+4,ab [ent x t s,ent y u z] 2)] G λTr N F=>N=[ab [ent x t s,ent y u z] 2]/\Tells (F++G) Tr (D i)):
  SP w b (.compLoop (bD g (.Tuple [.Name (SV x) U,.Name (SV y) V] S T) j h k q) 0 (.ref<|e+4) (.ref<|f+4) a) [(d+4,ab [] 0),(f+4,aa [] 0),(e+4,aF l 0)] Z (cC Z c.length (jq x y)<|((Tp c.length).filter p).map D):=by
 have Tr:=pZ (V:=rfl) (b:=b) (a:=e) (g:=f) (d:=d) (n:=c.length) (I:=λi=>aF l i) (x:=ab [] 0) (e:=λJ=>∃t v u v',J=ab [ent x t v,ent y u v'] 2) (t:=λi v=>c[i]?=some v) (q:=λi J=>∃A t s u z,c[i]?=some (.ref<|A+4)/\(A+4,ag [s,z])∈Z/\P i s z/\J=ab [ent x t s,ent y u z] 2) (p:=p) (D:=D) (Z:=Z) (h:=g) (j:=.Tuple [.Name (SV x) U,.Name (SV y) V] S T) (s:=j) (l:=h) (u:=k) (v:=q) (c:=a) hb
  (λi M=>(rx hl<|Ti M).mono ar (λC E=>E) λr N F C B=>hO _ B.1 B.2.1 B.2.2<|Ti M)
  (w4 hl ar) (λi v M H=>by refine cQ (hv i v H) λA s z Q L C=>?_;subst Q;exact RF)
  (λi v J M H Tu=>by
   refine cQ (hv i v H) λA s z Q L O=>?_;subst Q
   refine(I3 Ts H' Tv Tu L).mono ar (λC E=>E) λC N F C B=>a0 B λTx qs=>fg qs λt u Q=>?_;clear B;subst Tx Q
   exact⟨rfl,λo Tt=>by cases Tt;exact A0 A t s u z H L O rfl⟩)
  (λi J B=>by refine qV B λA t s u z C C C R=>?_;clear B;subst R;exact jy t s u z rfl)
  (λi J G M Y B=>by refine qV B λA t s u z H L O R=>?_;clear B;subst R;exact ts i A s z t u G H L O Y)
  (λi J G M Y B hp=>by refine qV B λA t s u z H L O R=>?_;clear B;subst R;exact el i A s z t u G H L O Y hp)
  c.length 0 (ab [] 0) [] 0 Z (by exact V6 _) (.inl rfl) (by simpa using hn) λC E=>E
 refine Tr.mono ar (λC E=>E)<|wJ λTz hG=>?_
 rintro r N TA F ro C ⟨h1,J,zs,Tw,o,⟨h0,rfl,rfl,rfl⟩|⟨hm,t,v,u,v',rfl⟩,rfl,ht⟩ C;all_goals refine hG ?_
 ·exact⟨h1,_,_,_,_,o,.inl ⟨h0,rfl,rfl,rfl,rfl,by rw[h0];rfl⟩,rfl,by rw[VO];exact ht⟩
 ·exact⟨h1,_,_,zs,Tw,o,.inr ⟨hm,t,v,u,v',rfl,rfl⟩,rfl,by rw[VO];exact ht⟩
end
def bM(s:Wq):Expr:=(sX s).2.1
def JY(e:Expr):List Expr:=(eX e).2.1
def wQ(e:Expr):List XE×Scope×XT:=(eX e).2.2
def bb(e:Expr):XT:=(eX e).2.2.2.2
def bh(k:Nat)(e:Expr):Expr:=(JY e).getD k xX
def a6(e:Expr):Expr:=bh 0 e
def aG(e:Expr):XE:=(wQ e).1.headD ⟨xX,xX,[],0⟩
def aW(e:Expr):Scope:=(wQ e).2.1
def bX(e:Expr):XT:=(wQ e).2.2
def fN(e:Expr):Expr:=(aG e).ifs.headD xX
def au(j b c:Nat)(d:Scope)(a:List (SX×WO)):Zb:={scope:=d,locals:=c,globals:=(gX j).globals,cells:=a,qual:=(gX j).qualname++".<locals>.",func:=none,code:=(gX j).code,frame:=some b,builtins:=(gX j).builtins}
def aQ(e:Expr)(a:List SX):Scope:={aW e with names:=(aW e).names.map λ(n,k)=>if a.contains n then(n,.cell) else(n,k)}
noncomputable def af(v:va):S9:={cls:=.type "cell",data:=.cell (some v)}
noncomputable def aJ:S9:={cls:=.type "cell",data:=.cell none}
inductive fI(b0:Nat)(c:Td)(sub Z:Led)(v:va)(k:Prop):Prop
 |mk (h0:SP w b0 c sub Z (Rv v (sub.map (·.2)))) (h1:k):fI b0 c sub Z v k
def ir(b:Nat)(v:va):aA:=λc sub Z a=>fI b c sub Z v (a 0 (H7 v) (sub.map (·.2)) [] [] [])
theorem iC(f:b<=a):(ir a v).Ok w b:=by
 rintro c sub Z m ⟨h,H⟩;refine h.mono f (λe q=>q) ?_;rintro r o n F p e d e;refine gb d λg i j k l=>?_;clear d;subst g i j k l
 exact aB 0 H
inductive ee(b0:Nat)(c:Td)(sub Z:Led)(k:Int->Nat->Prop):Prop
 |mk (i) (h0:SP w b0 c sub Z (Ri i (sub.map (·.2)))) (h1:∀t,k i t):ee b0 c sub Z k
def gD(b:Nat):aA:=λc sub Z a=>ee b c sub Z λi t=>a 0 (H7<|.int i<|t+1) (sub.map (·.2)) [] [] []
theorem iE(f:b<=a):(gD a).Ok w b:=by
 rintro c sub Z n ⟨i,h,H⟩;refine h.mono f (λe q=>q) ?_;rintro r p o F s e d e;refine hH d λt g j k l m=>?_;clear d;subst g j k l m
 exact aB 0<|H t
def Dv(Z:Led)(d:Tg)(e:List S9):aU:=λr c b F f=>∃a,r= .ok (.ret<|.ref<|a+4)/\c=e/\b=[]/\f=[]/\Tells (F++Z) (.ref<|a+4) d
inductive qF(b0:Nat)(c:Td)(sub Z:Led)(k:Nat->Led->Prop):Prop
 |mk (d) (h0:SP w b0 c sub Z (Dv Z d (sub.map (·.2)))) (h1:∀a F,Tells (F++Z) (.ref<|a+4) d->k a F):qF b0 c sub Z k
def wi(d:Nat):aA:=λc sub Z b=>qF d c sub Z λa F=>b 0 (H7<|.ref<|a+4) (sub.map (·.2)) [] F []
theorem CG(i:b<=e):(wi e).Ok w b:=by
 rintro c sub Z o ⟨d,h,H⟩;refine h.mono i (λg q=>q) ?_;rintro r s p F t g f g;refine hH f λa k l m n j=>?_;clear f;subst k l m n
 exact aB 0<|H a F j
inductive Dl(Z:Led)(ds:List Tg)(os:List S9)(r:Vz)(objs:List S9)(new F ro:Led):Prop
 |mk (a ys n) (h1:r= .ok (.ret<|.ref<|a+4)) (h2:objs=os) (h3:new=[]) (h4:ro=[]) (h5:(a+4,aa ys n)∈F++Z) (h6:ak (F++Z) ys ds)
inductive fQ(b0:Nat)(c:Td)(sub Z:Led)(k:Nat->List va->Nat->Led->Prop):Prop
 |mk (ds) (h0:SP w b0 c sub Z (Dl Z ds (sub.map (·.2)))) (h1:∀a ys n F,(a+4,aa ys n)∈F++Z->ak (F++Z) ys ds->k a ys n F):fQ b0 c sub Z k
def fM(d:Nat):aA:=λc sub Z b=>fQ d c sub Z λa e n F=>b 0 (H7<|.ref<|a+4) (sub.map (·.2)) [] F [(a+4,aa e n)]
theorem i5(g:b<=e):(fM e).Ok w b:=by
 rintro c sub Z l ⟨m,h,H⟩;refine(h.mono g (λd q=>q) λd d d d d d i d=>i).gI ?_;rintro r p o F s d ⟨a,k,n,rfl,rfl,rfl,rfl,f,j⟩;exact aX _ (fc (f) fz)<|aB 0<|H a k n F f j
def fK(o:S9):Prop:=∃v,o={cls:=.type "cell",data:=.cell v}
theorem Qd{P Z F:Led}(a:∀p∈P,fK p.2)(b:BW p.2)(h:p∈F++(P++Z)):p∈F++Z:=
 (bB h).elim (bq) λh=>(bB h).elim (λh=>(a _ h).elim λv e=>b.elim (λt=>absurd (SW.inj<|t.symm.trans<|congrArg S9.cls e)<|by decide) λt=>t.elim (λt=>absurd (SW.inj<|t.symm.trans<|congrArg S9.cls e)<|by decide) λt=>absurd (SW.inj<|t.symm.trans<|congrArg S9.cls e)<|by decide)<|az
theorem Tells.lT(a:∀p∈P,fK p.2)(h:Tells (F++(P++Z)) v d):Tells (F++Z) v d:=h.zQ λp q t=>Qd a t q
theorem ak.lT(c:∀p∈P,fK p.2)(h:ak (F++(P++Z)) b a):ak (F++Z) b a:=h.ind .nil λh d r=>.cons (h.lT c) r
theorem SP.pin(h:SP w b c L (P++Z) i)(y:∀r o n F a,i r o n F a->a=[]):SP w b c (L++P) Z λr f e F a=>∃l,f=l++P.map (·.2)/\a=[]/\i r l e F []:=by
 intro A M z N T g d I G E H hk B D R C;refine h A _ z N T g d I G E H (hk.le D.cV) (λp q=>?_) D.frame R λr f e F a x t u v j k J m=>?_
 ·rcases bB q with q|q
  ·exact D.jn p q
  ·exact D.cV _ _<|B p q
 ·cases y _ _ _ _ _ j
  have s:=D.gu (new:=e++F) (by rw[<-aZ];exact m);refine C r (f++P.map (·.2)) e F [] x t u v (aY f rfl rfl j) (by simp[k]) (λJ q=>nomatch q) ?_;rw[jt _ _ _ _ k,gz];refine s.perm ?_;simp only[aZ];exact XK _ (XM.trans<|by rw[aZ]) |>.symm.symm
inductive pV(b0:Nat)(c:Td)(sub Z:Led)(x:String)(kA:S9->Led->Prop)(kB:Nat->va->List va->Nat->S9->Led->Prop):Prop
 |mk (m ds) (hp:∀p∈sub.drop 3,fK p.2) (h0:SP w b0 c (sub.take 3) (sub.drop 3++Z) (cC (sub.drop 3++Z) m (dF x) ds)) (h1:m=0->ds=[]->∀o F,kA o F) (h2:m≠0->∀t v a n o F,ak (F++Z) a ds->kB t v a n o F):pV b0 c sub Z x kA kB
def rf(b:Nat)(x:String):aA:=λc sub Z a=>pV b c sub Z x (λo F=>a 0 (.ok .next) ([ab [] 0,aa [] 0,o]++(sub.drop 3).map (·.2)) [] F []) λt v d n o F=>a 1 (.ok .next) ([ab [ent x t v] 1,aa d n,o]++(sub.drop 3).map (·.2)) [] F []
theorem vN(j:b<=d):(rf d x).Ok w b:=by
 rintro c sub Z u ⟨m,y,k,h,g,i⟩;have z:=h.pin λr o n F p h=>h.1.2.2
 rw[V9] at z;refine z.mono j (λf q=>q) ?_;rintro r D C F p f ⟨_,rfl,rfl,⟨rfl,rfl,_⟩,A,B,s,n,o,⟨a,rfl,rfl,rfl,rfl,e⟩|⟨a,t,v,rfl,rfl⟩,rfl,l⟩ f
 ·exact aB 0<|g a e o F
 ·exact aB 1<|i a t v s n o F<|l.lT k
inductive nQ(b0:Nat)(c:Td)(sub Z:Led)(x y:String)(kA:S9->Led->Prop)(kB:Nat->va->Nat->va->List va->Nat->S9->Led->Prop):Prop
 |mk (m ds) (hp:∀p∈sub.drop 3,fK p.2) (h0:SP w b0 c (sub.take 3) (sub.drop 3++Z) (cC (sub.drop 3++Z) m (jq x y) ds)) (h1:m=0->ds=[]->∀o F,kA o F) (h2:m≠0->∀t v u b a n o F,ak (F++Z) a ds->kB t v u b a n o F):nQ b0 c sub Z x y kA kB
def mx(b:Nat)(x y:String):aA:=λc sub Z a=>nQ b c sub Z x y (λo F=>a 0 (.ok .next) ([ab [] 0,aa [] 0,o]++(sub.drop 3).map (·.2)) [] F []) λt v u d e n o F=>a 1 (.ok .next) ([ab [ent x t v,ent y u d] 2,aa e n,o]++(sub.drop 3).map (·.2)) [] F []
theorem ua(j:b<=d):(mx d x y).Ok w b:=by
 rintro c sub Z B ⟨m,C,k,h,g,i⟩;have z:=h.pin λr o n F p h=>h.1.2.2
 rw[V9] at z;refine z.mono j (λf q=>q) ?_;rintro r H G F p f ⟨_,rfl,rfl,⟨rfl,rfl,_⟩,D,E,A,n,o,⟨a,rfl,rfl,rfl,rfl,e⟩|⟨a,t,v,u,s,rfl,rfl⟩,rfl,l⟩ f
 ·exact aB 0<|g a e o F
 ·exact aB 1<|i a t v u s A n o F<|l.lT k
inductive mG(b0:Nat)(c:Td)(sub Z:Led)(x y:String)(kB:Nat->va->Nat->va->List va->Nat->S9->Led->Prop):Prop
 |mk (m ds) (hp:∀p∈sub.drop 3,fK p.2) (h0:SP w b0 c (sub.take 3) (sub.drop 3++Z) (cC (sub.drop 3++Z) m (jq x y) ds)) (h1:m≠0) (h2:∀t v u b a n o F,ak (F++Z) a ds->kB t v u b a n o F):mG b0 c sub Z x y kB
def ky(b:Nat)(x y:String):aA:=λc sub Z a=>mG b c sub Z x y λt v u d e n o F=>a 0 (.ok .next) ([ab [ent x t v,ent y u d] 2,aa e n,o]++(sub.drop 3).map (·.2)) [] F []
theorem xe(i:b<=a):(ky a x y).Ok w b:=by
 rintro c sub Z A ⟨m,B,j,h,e,f⟩;have z:=h.pin λr o n F l h=>h.1.2.2
 rw[V9] at z;refine z.mono i (λd q=>q) ?_;rintro r G E F l d ⟨_,rfl,rfl,⟨rfl,rfl,_⟩,C,D,s,n,o,⟨g,_⟩|⟨_,t,v,u,p,rfl,rfl⟩,rfl,k⟩ d
 ·exact absurd g e
 ·exact aB 0<|f t v u p s n o F<|k.lT j
section
variable{b:Nat}{d Z:Led}{l e n:Nat}{a:List va}{c:List SX}{s:SX}{t:Nat}
theorem ak.strs:∀{a:List va} {c:List SX},ak Z a (c.map .str)->∀v∈a,∃s t,v= .str s (t+1):=by
 intro a c;induction c generalizing a with
 |nil=>intro h q f;rw[h.nil_inv] at f;cases f
 |cons s c j=>
  intro h v f;refine bE (ak.cons_inv (c:=c.map .str) h) λo p m g i=>?_;subst m
  rcases bK f with rfl|f
  ·refine aw g.str_inv λt k=>?_;subst k;exact cG _ _ rfl
  ·exact j i v f
noncomputable def kX(s:SX):va->Bool
 | .str x _=>decide (x=s)
 |_=>false
theorem ak.anyS(s:SX):∀{a:List va} {c:List SX},ak Z a (c.map .str)->a.any (kX s)=decide (s∈c)/\a.countP (kX s)=c.count s:=by
 intro a c;induction c generalizing a with
 |nil=>intro h;rw[h.nil_inv];simp
 |cons x c p=>
  intro h;refine bE (ak.cons_inv (c:=c.map .str) h) λu v r i j=>?_;subst r
  refine aw i.str_inv λt q=>?_;subst q
  obtain⟨m,o⟩:=p j;rw[List.any_cons,m,List.countP_cons,o,Yx];have g:kX s (.str x<|t+1)=decide (x=s):=rfl;rw[g];by_cases f:x=s
  ·subst f;simp
  ·have k:s≠x:=λh=>f h.symm
   simp[f,k]
theorem yp(h:∃x u,y=va.str x (u+1)):MeetsSeq.EqGives y (.str s t) (kX s y):=by
 refine fg h λx u f=>?_;clear h;subst f
 have:=SeqRoads2.EqGives.str x s (u+1) t;rw[sq] at this;exact this
theorem Jb(k:iU d Z l a n)(f:ak Z a (c.map .str)):SP w b (.builtin "list.__contains__" ⟨[.ref l,.str s t],[]⟩) d Z (Rv (.bool<|decide (s∈c)) (d.map (·.2))):=by
 refine SP.meets F.entry_list_contains (by decide+kernel) (MeetsSeq.list_contains l ⟨a⟩ n (.str s t) (kX s) λy m=>yp<|f.strs y<|by simpa using m) λA p h N T g o q R hk j D i=>⟨k.get D j,?_⟩;rw[show(⟨a⟩:Array va).any (kX s)=decide (s∈c) by rw[<-(f.anyS s).1];simp];exact i.done (T:=T) ⟨rfl,rfl,rfl,rfl,rfl⟩ D
theorem ud(k:iU d Z l a n)(f:ak Z a (c.map .str)):SP w b (.builtin "list.count" ⟨[.ref l,.str s t],[]⟩) d Z (Ri ((c.count s:Nat):Int) (d.map (·.2))):=by
 refine SP.meets F.entry_list_count (by decide+kernel) (MeetsSeq.list_count l ⟨a⟩ n (.str s t) (kX s) λy m=>yp<|f.strs y<|by simpa using m) λA p h N T g o q R hk j D i=>⟨k.get D j,?_⟩;rw[show(⟨a⟩:Array va).toList.countP (kX s)=c.count s from(f.anyS s).2];exact i.done (T:=T+1) (di T rfl rfl rfl rfl rfl) D
theorem rZ{j i st:Option Int}(B:(l,aa a n)∈Z)(C:(e,av "slice" [r,v,u])∈Z)(F:IsPart r j)(G:IsPart v i)(ps:IsPart u st)(x:st≠some 0)(E:a.length<=1000)(z:ak Z (XG ⟨a⟩ j i st).toList m):
  SP w b (.builtin "list.__getitem__" ⟨[.ref l,.ref e],[]⟩) [] Z (Dl Z m []):=by
 refine SP.builtin Xy (by decide+kernel) λA I h N T g k p R J L hk o D y=>ux (s:=⟨h,g,k,T+1,p⟩) (D.keep _ _<|o _ B) (D.keep _ _<|o _ C) F G ps x (b6 E)<|aw D.d3 λf H=>?_;subst H
 show R (H7<|.ref h.objs.size) ⟨h.push _,g,k,T+1,p⟩;rw[show h.objs.size=f+4 from D.size];exact y _ [] [] [(f+4,aa (XG ⟨a⟩ j i st).toList 0)] [] _ _ T g ⟨f,_,0,rfl,rfl,rfl,rfl,.head _,z.more⟩ rfl (λM q=>nomatch q) (D.alloc rfl)
end
def Gu(c:Nat):Q7:=λs t N T Z b R=>ae [3] [N+1]<|jb (bi "len" [.ref<|c+4]) [] Z (λi=>∀l:Xi,∀d f:Nat,ae [7] [d]<|fY (bi "range.__iter__" [.ref<|d+4]) [(d+4,av "range" [.int 0<|f+1,.int (SR i)<|l+1,.int 1<|f+2])] (λj e=>∀a p:Nat,ae [2] [e]<|pV 840 (S0 (bM<|bJ (b4 140) 0) 0 (.ref<|e+4) (.ref<|a+4)<|au 140 (N+4) (a+5) (aQ (bM<|bJ (b4 140) 0) ["names"]) [("names",N+5)]) [(a+5,ab [] 0),(a+4,aa [] 0),(e+4,aK (0:Int) ((SR j):Int))] ([(N+5,af<|.ref<|c+4)]++Z) "k" (λu g=>∀n q:Nat,ae [1] [a+1]<|R (H7<|.ref<|a+4) [] [] ([(a+4,aa [] 0)]++(g++[(N+5,af<|.ref<|c+4)])) []) (λw x m k v h=>∀o r:Nat,ae [3] [a+1]<|R (H7<|.ref<|a+4) [] [] ([(a+4,aa m k)]++(h++[(N+5,af<|.ref<|c+4)])) [])))
theorem Po:CK w [] [(a+4,aa b n)] [fA,ik,rf 840 "k"] (Vh (.ref 140) ⟨[.ref<|a+4],[]⟩) (Gu a):=aV 421 58 0x36cbbd5d37fb33755d370602c26b01d2d21858ebb1d7bf85ca4700d6980d835ee7c91b1cdefb92aeb0defab259914c1cecaabc79fbdd29d7c202504b0ce
def Jh(c g f k t j u:Nat)(s:SX)(v:Nat)(r:Bool):Q7:=λo p N T Z b R=>ae [1,1,4] [f,g,c]<|fI 920 (bi "list.__getitem__" [.ref<|c+4,.int (SR j)<|u+1]) [] Z (.str s<|v+1) (∀a l:Nat,ae [1,1,4] [f,g,c]<|fQ 920 (bi "list.__getitem__" [.ref<|c+4,.ref<|a+4]) [] ([(a+4,av "slice" [.none,.int (SR j)<|u+1,.none])]++Z) (λe w q d=>∀h m:Nat,ae [3] [e]<|fI 920 (bi "list.__contains__" [.ref<|e+4,.str s<|v+1]) [] ((d++[(a+4,av "slice" [.none,.int (SR j)<|u+1,.none])])++Z) (.bool r) (∀i n:Nat,R (H7<|.bool<|!r) [ab [ent "k" t<|.int (SR j)<|u+1] 1] [] (d++[(a+4,av "slice" [.none,.int (SR j)<|u+1,.none])]) [])))
theorem Kx(f:Expr)(g e:va)(c n d b a k t j u:Nat)(h:List va)(s:SX)(v:Nat)(r:Bool):a9 w [(b+4,ab [ent "k" t<|.int (SR j)<|u+1] 1)] [(a+4,af<|.ref<|c+4),(c+4,aa h n)] [fM 920,ir 920<|.str s<|v+1,ir 920<|.bool r] (S0 f 0 g e<|au 140 d (b+4) (aQ (bM<|bJ (b4 140) 0) ["names"]) [("names",a+4)]) (jQ (fN<|bM<|bJ (b4 140) 0)<|au 140 d (b+4) (aQ (bM<|bJ (b4 140) 0) ["names"]) [("names",a+4)]) (Jh c b a k t j u s v r):=ba 12 32 0x2eae8362aa139bdc3cf3ac099e
def Er(a d c k t j u:Nat)(s:SX)(v:Nat):Q7:=λg h N T Z b R=>ae [1,1,4] [c,d,a]<|fI 920 (bi "list.__getitem__" [.ref<|a+4,.int (SR j)<|u+1]) [] Z (.str s<|v+1) (∀e f:Nat,R (H7<|.str s<|v+1) [ab [ent "k" t<|.int (SR j)<|u+1] 1] [] [] [])
theorem Qo(f:Expr)(g e:va)(c n d b a k t j u:Nat)(h:List va)(s:SX)(v:Nat):a9 w [(b+4,ab [ent "k" t<|.int (SR j)<|u+1] 1)] [(a+4,af<|.ref<|c+4),(c+4,aa h n)] [ir 920<|.str s<|v+1] (S0 f 0 g e<|au 140 d (b+4) (aQ (bM<|bJ (b4 140) 0) ["names"]) [("names",a+4)]) (bN (a6<|bM<|bJ (b4 140) 0)<|au 140 d (b+4) (aQ (bM<|bJ (b4 140) 0) ["names"]) [("names",a+4)]) (Er c b a k t j u s v):=ba 6 12 0xc3884
noncomputable def bQ(l:List SX):List SX:=((Tp l.length).filter λk=>!decide (l.getD k default∈l.take k)).map λk=>l.getD k default
abbrev fL:Expr:=bM<|bJ (b4 140) 0
theorem Ms:fL=bD (a6 fL) (.Name "k"<|bb (aG fL).target) (aG fL).iter [fN fL] (aW fL) (bX fL):=by kernel_rfl
theorem VS.b5{g:va->List S9->Led->Prop}(h:d7 w b c (bN e i) L Z λr f d F j=>∃v,r= .ok (.ret v)/\g v f (d++F)):VS b c (eval e i) L Z g:=by
 refine VS.qS (i:=λa=>a) (a:=λr f d F j=>∃v,r= .ok (.ret v)/\g v f (d++F)) ?_ λr f d F j h=>?_
 ·rw[<-Co] at h;exact h
 ·refine aI h λv k hk=>?_;clear h;subst k
  exact⟨aB v rfl,λa e=>by cases e;exact hk⟩
theorem VS.pQ{f:Bool->List S9->Led->Prop}(h:d7 w b c (jQ e i) L Z λr d g F j=>∃v,r= .ok (.ret<|.bool v)/\f v d (g++F)):VS b c (jl [e] i) L Z f:=by
 rw[JD];refine VS.bind (VS.qS (i:=λa=>.bool a) (a:=λr d g F j=>∃v,r= .ok (.ret<|.bool v)/\f v d (g++F)) (n:=f) ?_ λr d g F j h=>?_) λa d F h k=>?_
 ·rw[<-yl] at h;exact h
 ·refine aI h λv l hk=>?_;clear h;subst l
  exact⟨aB _ rfl,λa e=>by cases e;exact hk⟩
 ·refine VS.pure ?_
  rw[iA L d k];exact h
theorem ak.strAt{a:List SX}(h:ak Z c (a.map .str))(b:j<a.length):∃u,c[j]?=some (.str (a.getD j default)<|u+1):=by
 refine hide λQ f=>aI (h.get (i:=j) (d:=.str<|a.getD j default)<|by rw[Vi,Ti b,Ta,Ti b];rfl) λv e g=>aw g.str_inv λu k=>?_;subst k
 exact f<|(aB u e)
theorem ak.qU:∀{b:List va} {a:List Tg} (n:Nat),ak Z b a->ak Z (b.take n) (a.take n)
 |_,_,0,_=>.nil
 |_,_,n+1,.nil=>.nil
 |_,_,n+1,.cons h r=>.cons h<|r.qU n
theorem ak.DB:∀{b:List va} {a:List Tg} (n:Nat),ak Z b a->ak Z (b.drop n) (a.drop n)
 |_,_,0,h=>h
 |_,_,n+1,.nil=>.nil
 |_,_,n+1,.cons h r=>r.DB n
theorem EF(C:b+40<=920)(o:ak Z r (c.map .str))(O:c.length<=900)(E:(h+4,af<|.ref<|q+4)∈Z)(i:(q+4,aa r n)∈Z):
  SP w b (.compLoop fL 0 (.ref<|B+4) (.ref<|s+4)<|au 140 l (f+4) (aQ fL ["names"]) [("names",h+4)]) [(f+4,ab [] 0),(s+4,aa [] 0),(B+4,aK 0<|SR c.length)] Z (cC Z c.length (dF "k")<|(bQ c).map .str):=by
 have e:((bQ c).map Y3)=((Tp c.length).filter λk=>!decide (c.getD k default∈c.take k)).map λk=>Y3 (c.getD k default):=by unfold bQ;rw[Vb];rfl
 rw[e];have z:=qo (b:=b) (e:=B) (f:=s) (d:=f) (m:=c.length) (Z:=Z) (g:=a6 fL) (j:=(aG fL).iter) (h:=[fN fL]) (k:=aW fL) (q:=bX fL) (x:="k") (L:=bb (aG fL).target) (p:=λk=>!decide (c.getD k default∈c.take k)) (D:=λk=>.str<|c.getD k default) (a:=au 140 l (f+4) (aQ fL ["names"]) [("names",h+4)]) (by exact SQ ‹_› (zd rfl)) ⟨by kernel_rfl,by kernel_rfl,rfl⟩ (by exact SQ ‹_› (zd rfl))
  (λj u t G y d=>?_) (λj u t G y d g=>?_)
 ·rw[<-Ms] at z;exact z
 ·refine aw (o.strAt y) λv A=>VS.pQ (Kx _ _ _ q n l f h 0 t j u r (c.getD j default) v (decide (c.getD j default∈c.take j)) 920 C (zd rfl) (aj (i5 ar)<|aj (iC ar)<|aj (iC ar) ay) (aq (d _ E)<|aq (d _ i) ax) λH I N T e=>?_);refine ah ⟨kj (.inr ⟨rfl,d _ i⟩) rfl (by exact SQ (SQ ‹_› ‹_›) (zd rfl)) A [] ax ⟨rfl,rfl,rfl,rfl,rfl⟩,λM T1=>ah ⟨(c.take j).map .str,rZ (j:=none) (i:=some (j:Int)) (st:=none) (az<|d _ i) (.head _) .none (.int _ _) .none (by simp) (by rw[o.len,aM];exact SQ ‹_›<|zd rfl) ?_,λa Q P F J L g g=>ah ⟨Jb (.inr ⟨rfl,by simpa only[aZ] using J⟩)<|by simpa only[aZ] using L,λg g=>aY _ rfl rfl rfl⟩⟩⟩;rw[Zi,Wv];exact((o.sub d).qU j).more
 ·refine aw (o.strAt y) λv A=>VS.b5 (Qo _ _ _ q n l f h 0 t j u r (c.getD j default) v 920 C (zd rfl) (aj (iC ar) ay) (aq (d _ E)<|aq (d _ i) ax) λH I N T e=>?_);exact ah ⟨kj (.inr ⟨rfl,d _ i⟩) rfl (by exact SQ (SQ ‹_› ‹_›) (zd rfl)) A [] ax ⟨rfl,rfl,rfl,rfl,rfl⟩,λg g=>aY _ rfl rfl (.str _ _)⟩
theorem uX(k:b+40<=840)(j:ak Z g (c.map .str))(m:c.length<=900)(i:(f+4,aa g n)∈Z):
  SP w b (.call (.ref 140) ⟨[.ref<|f+4],[]⟩) [] Z (Dl Z ((bQ c).map .str) []):=by
 refine Po 840 k (zd rfl) (aj lN<|aj j1<|aj (vN ar) ay) (aq i ax) λy z N T e=>?_
 have r:g.length=c.length:=by rw[j.len,aM]
 refine ah ⟨_,_,_,rfl,.inr ⟨rfl,i⟩,by exact d4 ‹_› (SQ ‹_›<|zd rfl),λt u T1=>ah ⟨_,_,_,_,_,rfl,rfl,by exact d4 ‹_› (SQ ‹_›<|zd rfl),λa x T2=>ah ⟨c.length,(bQ c).map .str,(λd h=>nomatch h),?_,λd l o F d d=>ah ?_,λd t v s n o F p d d=>ah ?_⟩⟩⟩
 ·rw[r]
  exact EF (Z:=[(N+5,af<|.ref<|f+4)]++Z) (q:=f) (n:=n) (zd rfl) (j.sub λq h=>az h) m (.head _) (.tail _ i)
 ·exact⟨_,[],0,rfl,rfl,rfl,rfl,.head _,by rw[l];exact .nil⟩
 ·exact⟨_,s,n,rfl,rfl,rfl,rfl,.head _,p.sub λq h=>by simp only[VK] at h⊢;rcases h with h|h|h<;>simp[h]⟩
section
variable{b a S l n:Nat}{d:List va}{Z:Led}
theorem IV(hl:(l+4,aa d n)∈Z):∀(m i:Nat) (s:List Int) (c:Int) (t k:Nat) (st:Int),(st=0\/st=2)->i+m=d.length->ak Z (d.drop i) (s.map .int)->
  SP w b (.builtin "sum.loop" ⟨[.ref<|a+4,.ref<|S+4,.int st 0,.int 0 0],[]⟩) [(a+4,aF l i),(S+4,aa [.int c<|t+1] k)] Z λr Tz Tx F ro=>∃u G H,r= .ok (.ret<|.int (c+s.sum)<|u+1)/\Tz=[G,H]/\Tx=[]/\F=[]/\ro=[]:=by
 intro m;induction m with
 |zero=>
  intro i s c t k st Tw hi v;rw[WA<|by exact Th (Y9 ‹_›)] at v;cases s with
  |cons x s=>refine cw (ak.cons_inv (c:=s.map .int) v) λj j e j=>?_;cases e
  |nil=>
  refine SP.kN F.entry_sum_loop (by decide+kernel) λA P h N T g B I R Q Tu hu hk E D M=>aw D.d3 λq y=>?_;subst y
  have O:h.get? (S+4)=some (aa [.int c<|t+1] k):=D.own (S+4,_)<|.tail _<|.head _;have U:h.get? (a+4)=some (aF l i):=D.own (a+4,_)<|.head _;show To _ A.in1 (X7 (.ref<|S+4)>>=_) _ _ _;refine bI O rfl ?_;show To _ A.in1 (tryCatch (Wk<|.ref<|a+4) _>>=_) _ _ _;refine SU (wpAny_tryCatch<|xd Q D.size U (D.keep _ _<|E _ hl) (by exact Th (Y9 ‹_›))<|Te ?_);have L:([(a+4,aF l i),(S+4,aa [.int c<|t+1] k)]:Led)[0]?=some (a+4,aF l i):=rfl;have D6:=((D.update (f:=Tc (·.setIfInBounds 0 .none)) L rfl).alloc (o:=ag []) rfl).alloc (o:=cm q) rfl;exact M (H7<|.int c<|t+1) [litE i,aa [.int c<|t+1] k] [] [] [] _ (q+6) T g (i6 t _ _ (by simp) rfl rfl rfl rfl) rfl (λj q=>nomatch q) (D6.fp<|(Vg _ _).trans<|Vg _ _)
 |succ m ih=>
  intro i s c t k st Tw hi v;have Tv:i<d.length:=by exact nN ‹_›
  rw[WJ Tv] at v;cases s with
  |nil=>exact nomatch v.nil_inv
  |cons x s=>
  refine bE (ak.cons_inv (c:=s.map .int) v) λTr TV e hv TL=>a0 (Z4 e) λe1 y=>?_;subst y
  refine aw hv.int_inv λu y=>?_;subst y
  have TK:d[i]?=some (.int x<|u+1):=by rw[Ti Tv,e1]
  refine SP.kN F.entry_sum_loop (by decide+kernel) λA P h N T g B I R Q Tu hu hk E D M=>?_
  have O:h.get? (S+4)=some (aa [.int c<|t+1] k):=D.own (S+4,_)<|.tail _<|.head _;have U:h.get? (a+4)=some (aF l i):=D.own (a+4,_)<|.head _;have L:([(a+4,aF l i),(S+4,aa [.int c<|t+1] k)]:Led)[0]?=some (a+4,aF l i):=rfl;have J:=D.update (f:=Tc (·.setIfInBounds 1 (Wy<|(i:Int)+1))) L rfl;have Tt:=J.own (S+4,aa [.int c<|t+1] k)<|.tail _<|.head _;show To _ A.in1 (X7 (.ref<|S+4)>>=_) _ _ _;refine bI O rfl ?_;show To _ A.in1 (tryCatch (Wk<|.ref<|a+4) _>>=_) _ _ _;refine SU<|wpAny_tryCatch<|BF U (D.keep _ _<|E _ hl) TK ?_;have go:∀(C:Vm) (Y V:Nat) (z:Int) (p:Nat),(z=0\/z=2)->Rep P C [(a+4,aF l<|i+1),(S+4,aa [.int (c+x)<|Y+1] V)] N->Yb (Vy Pw w) A (.builtin "sum.loop" ⟨[.ref<|a+4,.ref<|S+4,.int z 0,.int 0 0],[]⟩) R ⟨C,g,B,p+1,I⟩:=by
   intro C Y V z p TJ D';refine ih (i+1) s (c+x) Y V z TJ (by exact vF ‹_›) TL A P C N p g B I Q Tu hu hk E D' R λr Tz Tx F ro TG TB TC TF hK TS TU TA=>pF hK λu' G H TM TO TP TQ TR=>?_;clear hK;subst TM TO TP TQ TR
   exact M _ [G,H] [] [] [] TG TB TC TF (i6 u' G H (by rw[XH,Ys]) rfl rfl rfl rfl) rfl (λj q=>nomatch q) TA
  have one:∀(Tr:va),Vr (λj=> #[Tr]) (aa [.int c<|t+1] k)=aa [Tr] k:=λj=>rfl
  have Ts:(setAt [(a+4,aF l i),(S+4,aa [.int c<|t+1] k)] 0 (Tc (·.setIfInBounds 1 (Wy<|(i:Int)+1))<|aF l i))[1]?=some (S+4,aa [.int c<|t+1] k):=rfl;have two:∀p,To (Vy Pw w) A.in1 (Y4 (S+4) (λj=> #[WC (c+x)<|p+1])>>=λj=>letGo [.int c<|t+1,.int x<|u+1]>>=λj=>Y4 (S+4) (λj=> #[WC (c+x)<|p+1])>>=λj=>again<|.builtin "sum.loop" ⟨[.ref<|a+4,.ref<|S+4,.int 2 0,.int 0 0],[]⟩) (postC Pw w A R) (postE R) ⟨h.update (a+4) (Tc (·.setIfInBounds 1 (Wy<|(i:Int)+1))),g,B,p+1+1,I⟩:=by
   intro p;have D2:=J.update (f:=Vr λj=> #[WC (c+x)<|p+1]) Ts rfl;refine SU<|WE Tt rfl<|bL ?_;have TH:=D2.own (S+4,aa [.int (c+x)<|p+1] k)<|.tail _<|.head _;refine SU<|WE TH rfl (Te ⟨Yt F.plain_sum_loop _,?_⟩);exact go _ p k 2 (p+1) (.inr rfl)<|D2.update (i:=1) (f:=Vr λj=> #[WC (c+x)<|p+1]) rfl rfl
  rcases Tw with rfl|rfl
  ·show To _ A.in1 (if(_:Bool)=true then(mkInt (c+x)>>=_) else _) _ _ _
   split
   ·refine SU<|wpAny_mkInt ?_
    show To _ A.in1 (Y4 (S+4) (λj=> #[.int (c+x)<|T+1])>>=_) _ _ _;refine SU<|WE Tt rfl (Te ⟨Yt F.plain_sum_loop _,?_⟩);exact go _ T k 0 (T+1) (.inl rfl)<|J.update (f:=Vr λj=> #[WC (c+x)<|T+1]) Ts rfl
   ·refine bR<|bA (Yn<|wpAny_add_int ?_);exact two T
  ·show To _ A.in1 ((X8 [WC x<|u+1]<|binaryOp .Add (.int c<|t+1)<|.int x<|u+1).attempt>>=_) _ _ _
   refine bA (Yn<|wpAny_add_int ?_);exact two T
inductive gn(c:Td)(sub Z:Led)(k:Int->Nat->S9->S9->Prop):Prop
 |mk (a S l d n m t) (xs:List Int) (h0:c= .builtin "sum.loop" ⟨[.ref<|a+4,.ref<|S+4,.int 0 0,.int 0 0],[]⟩) (h1:sub=[(a+4,aF l 0),(S+4,aa [.int 0<|t+1] m)]) (h2:(l+4,aa d n)∈Z) (h3:ak Z d (xs.map .int)) (h4:∀u e f,k xs.sum u e f):gn c sub Z k
def jG:aA:=λc sub Z e=>gn c sub Z λi u f g=>e 0 (H7<|.int i<|u+1) [f,g] [] [] []
theorem kh:jG.Ok w b:=by
 rintro c sub Z y ⟨a,S,l,d,n,m,t,x,rfl,rfl,g,h,H⟩;refine(IV g d.length 0 x 0 t m 0 (.inl rfl) (by exact V6 _) h).mono ar (λf q=>q) ?_;rintro r A z F B f e f;refine pF e λu i j k o p s v=>?_;clear e;subst k o p s v
 rw[Yg];exact⟨0,H u i j⟩
end
structure nZ(a:Zb)(b:Nat)(x:String):Prop where
 k:a.kindOf (SV x)=some .cell
 f:(a.scope.kind== .class)=false
 l:a.cells.lookup (SV x)=some (b+4)
section
variable{b:Nat}{c:Td}{a e f l n m:Nat}{Z:Led}{d:Zb}{v:va}{g h:Expr}{t:List Expr}{j:Scope}{q:XT}{s:List va}{p:Nat->Bool}{D:Nat->Tg}
theorem oW(H:nZ d a x):VS b c (assign (.Name (SV x) G) d v) [(a+4,{cls:=.type "cell",data:=.cell o})] Z λI C F=>C=[af v]/\F=[]:=by
 rw[PySem.assign_Name];refine VS.lC VS.standAt λI=>?_
 intro A M y N T w J U P O S R L D Q E B;have i:y.get? (a+4)=some {cls:=.type "cell",data:=.cell o}:=D.own (a+4,_)<|.head _;refine Va<|wpAny_bindName ?_;have r:storeName d (SV x) v=cellSet (a+4) (some v):=by
  unfold storeName;have z:(some NameKind.cell==some NameKind.globalImplicit)=false:=rfl;simp only[H.k,z,Bool.false_and,W9,if_false,H.f];unfold cellOf;rw[H.l];rfl
 rw[r];unfold cellSet;refine SU<|wpAny_load i<|wpAny_update i ?_;have u:([(a+4,({cls:=.type "cell",data:=.cell o}:S9))]:Led)[0]?=some (a+4,{cls:=.type "cell",data:=.cell o}):=rfl;exact B _ [af v] [] _ N T w ⟨rfl,rfl⟩ rfl (by rw[aP];exact D.update (f:=λo=>{o with data:=.cell (some v)}) u rfl)
inductive kr(Z:Led)(ds:List Tg)(r:Vz)(objs:List S9)(new F ro:Led):Prop
 |mk (h1:r= .ok .next/\new=[]/\ro=[]) (i zs k o) (h2:objs=[i,aa zs k,o]) (h3:ak (F++Z) zs ds)
theorem vG{x:String}(U:b+40<=960)(H:nZ d a x)(Q:(l+4,aa s n)∈Z)(Y:s.length<=1000)
  (S:∀i v E,s[i]?=some v->(∀C∈Z,C∈E)->VS b (.compLoop (bD g (.Name (SV x) L) h [] j q) 0 (.ref<|e+4) (.ref<|f+4) d) (eval g d) [(a+4,af v)] E λy J F=>J=[af v]/\Tells (F++E) y (D i)):
  SP w b (.compLoop (bD g (.Name (SV x) L) h [] j q) 0 (.ref<|e+4) (.ref<|f+4) d) [(a+4,aJ),(f+4,aa [] 0),(e+4,aF l 0)] Z (kr Z<|(Tp s.length).map D):=by
 have z:=pZ (V:=rfl) (b:=b) (a:=e) (g:=f) (d:=a) (n:=s.length) (I:=λi=>aF l i) (x:=aJ) (e:=λB=>∃v,B=af v) (t:=λi v=>s[i]?=some v) (q:=λi B=>∃v,s[i]?=some v/\B=af v) (p:=λA=>true) (D:=D) (Z:=Z) (h:=g) (j:=.Name (SV x) L) (s:=h) (l:=[]) (u:=j) (v:=q) (c:=d) U
  (λi G=>(rx Q<|Ti G).mono ar (λA C=>C) λr J F A u=>hO _ u.1 u.2.1 u.2.2<|Ti G)
  (w4 Q ar) (λi v G M=>tQ)
  (λi v B G M V=>by
   have u:VS b (.compLoop (bD g (.Name (SV x) L) h [] j q) 0 (.ref<|e+4) (.ref<|f+4) d) (assign (.Name (SV x) L) d v) [(a+4,B)] Z λA J F=>J=[af v]/\F=[]:=by
    rcases V with rfl|⟨v',rfl⟩
    ·exact oW H
    ·exact oW H
   exact u.mono ar (λA C=>C) λA J F A u=>⟨u.2,λo O=>by rw[u.1] at O;cases O;exact aX v M rfl⟩)
  (λi B u=>by refine aI u λv A N=>?_;clear u;subst N;exact aB v rfl)
  (λi B E G P u=>hY)
  (λi B E G P u hp=>by refine aI u λv M N=>?_;clear u;subst N;exact S i v E M P)
  s.length 0 aJ [] 0 Z (by exact V6 _) (.inl rfl) (by simpa using Y) λA C=>C
 refine z.mono ar (λA C=>C) ?_;rintro r J Tr F ro A ⟨T,B,zs,k,o,_,rfl,R⟩ A;refine⟨T,_,zs,k,o,rfl,?_⟩;rw[Vu.mpr λA A=>rfl] at R;rw[VO];exact R
theorem yM{x:String}(U:b+40<=960)(H:nZ d a x)(Y:m<=1000)
  (S:∀(i:Nat) u E,i<m->(∀B∈Z,B∈E)->VS b (.compLoop (bD g (.Name (SV x) L) h [] j q) 0 (.ref<|e+4) (.ref<|f+4) d) (eval g d) [(a+4,af<|.int (i:Int)<|u+1)] E λTu J F=>J=[af<|.int (i:Int)<|u+1]/\Tells (F++E) Tu (D i)):
  SP w b (.compLoop (bD g (.Name (SV x) L) h [] j q) 0 (.ref<|e+4) (.ref<|f+4) d) [(a+4,aJ),(f+4,aa [] 0),(e+4,aK 0<|SR m)] Z (kr Z<|(Tp m).map D):=by
 have z:=pZ (V:=rfl) (b:=b) (a:=e) (g:=f) (d:=a) (n:=m) (I:=λi=>aK (i:Int)<|SR m-i) (x:=aJ) (e:=λA=>∃v,A=af v) (t:=λi v=>∃N,v= .int (i:Int) (N+1)) (q:=λi A=>∃u,A=af (.int (i:Int)<|u+1)) (p:=λy=>true) (D:=D) (Z:=Z) (h:=g) (j:=.Name (SV x) L) (s:=h) (l:=[]) (u:=j) (v:=q) (c:=d) U
  (λi G=>(Ag G).mono ar (λy B=>B) λr J F y k=>by refine cK k λTs C Tt=>?_;clear k;obtain⟨N,rfl⟩:=Ts;subst C Tt;exact hO _ rfl rfl rfl (aB N rfl))
  (zT<|by show(m:Int)-m<=0;lia) (λi v G M=>tQ)
  (λi v A G M V=>by
   have k:VS b (.compLoop (bD g (.Name (SV x) L) h [] j q) 0 (.ref<|e+4) (.ref<|f+4) d) (assign (.Name (SV x) L) d v) [(a+4,A)] Z λy J F=>J=[af v]/\F=[]:=by
    rcases V with rfl|⟨v',rfl⟩
    ·exact oW H
    ·exact oW H
   refine aw M λu C=>?_;clear M;subst C
   exact k.mono ar (λy B=>B) λy J F y k=>⟨k.2,λo O=>by rw[k.1] at O;cases O;exact aB u rfl⟩)
  (λi A k=>by refine aw k λu C=>?_;clear k;subst C;exact aB _ rfl)
  (λi A E G P k=>hY)
  (λi A E G P k hp=>by refine aw k λu C=>?_;clear k;subst C;exact S i u E G P)
  m 0 aJ [] 0 Z (by lia) (.inl rfl) (by simpa using Y) λy B=>B
 have R:aK ((0:Nat):Int) (SR m-((0:Nat):Int))=aK 0 (SR m):=by rw[show SR m-((0:Nat):Int)=SR m by lia];rfl
 rw[R] at z;refine z.mono ar (λy B=>B) ?_;rintro r J Tv F ro y ⟨T,A,zs,Tr,o,_,rfl,Q⟩ y;refine⟨T,_,zs,Tr,o,rfl,?_⟩;rw[Vu.mpr λy y=>rfl] at Q;rw[VO];exact Q
end
inductive kk(b0:Nat)(c:Td)(sub Z:Led)(k:S9->List va->Nat->S9->Led->Prop):Prop
 |mk (ds) (hp:∀p∈sub.drop 3,fK p.2) (h0:SP w b0 c (sub.take 3) (sub.drop 3++Z) (kr (sub.drop 3++Z) ds)) (h1:∀b a n o F,ak (F++Z) a ds->k b a n o F):kk b0 c sub Z k
def n7(b:Nat):aA:=λc sub Z a=>kk b c sub Z λd e n o F=>a 0 (.ok .next) ([d,aa e n,o]++(sub.drop 3).map (·.2)) [] F []
theorem pz(e:b<=a):(n7 a).Ok w b:=by
 rintro c sub Z l ⟨m,f,h,H⟩;have z:=h.pin λr o n F j h=>h.1.2.2
 rw[V9] at z;refine z.mono e (λd q=>q) ?_;rintro r s p F j d ⟨_,rfl,rfl,⟨rfl,rfl,_⟩,i,k,n,o,rfl,g⟩ d;exact aB 0<|H i k n o F<|g.lT f
inductive Dt(Z:Led)(ds:List Tg)(os:List S9)(r:Vz)(objs:List S9)(new F ro:Led):Prop
 |mk (a ys) (h1:r= .ok (.ret<|.ref<|a+4)) (h2:objs=os) (h3:new=[]) (h4:ro=[]) (h5:(a+4,ag ys)∈F++Z) (h6:ak (F++Z) ys ds)
inductive qi(b0:Nat)(c:Td)(sub Z:Led)(k:Nat->List va->Led->Prop):Prop
 |mk (ds) (h0:SP w b0 c sub Z (Dt Z ds (sub.map (·.2)))) (h1:∀a ys F,(a+4,ag ys)∈F++Z->ak (F++Z) ys ds->k a ys F):qi b0 c sub Z k
def w8(d:Nat):aA:=λc sub Z b=>qi d c sub Z λa e F=>b 0 (H7<|.ref<|a+4) (sub.map (·.2)) [] F [(a+4,ag e)]
theorem Ef(g:b<=e):(w8 e).Ok w b:=by
 rintro c sub Z l ⟨m,h,H⟩;refine(h.mono g (λd q=>q) λd d d d d d i d=>i).gI ?_;rintro r o n F p d ⟨a,k,rfl,rfl,rfl,rfl,f,j⟩;exact aX _ (fc (f) fz)<|aB 0<|H a k F f j
abbrev dM:Expr:=bh 0<|bM<|bJ (b4 145) 1
abbrev ec:Expr:=bh 0<|bh 1<|bh 0<|bM<|bJ (cR<|bJ (b4 145) 1) 0
abbrev cW:Expr:=bh 0<|a6 ec
abbrev dS:Expr:=bh 0<|bh 0<|bM<|bJ (b4 145) 2
abbrev dK:Expr:=bh 0<|a6 dS
def dC(j b:Nat)(a:List (SX×WO)):Zb:={aT j b with cells:=a}
inductive rG(c:Td)(sub Z:Led)(v:va)(k:Prop):Prop
 |mk (it l i vs n) (h0:c= .builtin "list_iterator.__next__" ⟨[.ref it],[]⟩) (h1:sub=[(it,aF l i)]) (h2:(l+4,aa vs n)∈Z) (h3:vs[i]?=some v) (h4:k):rG c sub Z v k
def pg(v:va):aA:=λc sub Z a=>rG c sub Z v<|a 0 (H7 v) [aF (BR sub)<|wB sub+1] [] [] []
theorem BA:(pg v).Ok w b:=by
 rintro c sub Z e ⟨f,l,i,g,n,rfl,rfl,a,d,H⟩;exact yy (F:=0) a d [] ax<|aB 0 H
def Ej(a t u v:Nat)(s:SX)(x:va):Q7:=λc d N T Z b R=>ae [1] [a]<|R (H7<|.str s<|v+1) [ab [ent "who" t<|.str s<|v+1,ent "one" u x] 2] [] [] []
theorem Fh(d:Expr)(e c:va)(b a t u v:Nat)(s:SX)(x:va):a9 w [(a+4,ab [ent "who" t<|.str s<|v+1,ent "one" u x] 2)] [] [] (S0 d 0 e c<|au 145 b (a+4) (aW dM) []) (bN (a6 dM)<|au 145 b (a+4) (aW dM) []) (Ej a t u v s x):=ba 2 3 0x1
def Js(a e t u v d o:Nat)(s c:SX)(r:Bool):Q7:=λg h N T Z b R=>ae [1,1] [a,e]<|fI 960 (bi "str.__eq__" [.str s<|v+1,.str c<|d+1]) [] Z (.bool r) (∀f T8:Nat,R (H7<|.bool r) [ab [ent "other" t<|.str s<|v+1,ent "one" u<|.ref<|o+4] 2] [] [] [])
theorem HF(h:Expr)(i g:va)(d a b c t u v f o j k:Nat)(s e:SX)(l:List va)(r:Bool):a9 w [(a+4,ab [ent "other" t<|.str s<|v+1,ent "one" u<|.ref<|o+4] 2)] [(b+4,af<|.str e<|f+1),(c+4,af<|.int (SR j)<|k+1),(o+4,ag l)] [ir 960<|.bool r] (S0 h 0 i g<|au 145 d (a+4) (aQ cW ["who","k"]) [("who",b+4),("k",c+4)]) (jQ (fN cW)<|au 145 d (a+4) (aQ cW ["who","k"]) [("who",b+4),("k",c+4)]) (Js a b t u v f o s e r):=ba 3 8 0x3d
def EZ(d a t u v o j c q:Nat)(s:SX)(p:Int):Q7:=λg h N T Z b R=>ae [1,1,4] [d,a,o]<|fI 960 (bi "tuple.__getitem__" [.ref<|o+4,.int (SR j)<|c+1]) [] Z (.int p<|q+1) (∀e f:Nat,R (H7<|.int p<|q+1) [ab [ent "other" t<|.str s<|v+1,ent "one" u<|.ref<|o+4] 2] [] [] [])
theorem RZ(g:Expr)(h f:va)(d b c a t u v l o j e q:Nat)(s k:SX)(i:List va)(p:Int):a9 w [(b+4,ab [ent "other" t<|.str s<|v+1,ent "one" u<|.ref<|o+4] 2)] [(c+4,af<|.str k<|l+1),(a+4,af<|.int (SR j)<|e+1),(o+4,ag i)] [ir 960<|.int p<|q+1] (S0 g 0 h f<|au 145 d (b+4) (aQ cW ["who","k"]) [("who",c+4),("k",a+4)]) (bN (a6 cW)<|au 145 d (b+4) (aQ cW ["who","k"]) [("who",c+4),("k",a+4)]) (EZ b a t u v o j e q s p):=ba 9 12 0xd3bd00
def ET(h n s gc g j d:Nat):Q7:=λx y N T Z b R=>ae [1,3,2] [gc,h,N]<|nQ 880 (S0 cW 0 (.ref<|N+4) (.ref<|N+5)<|au 145 (n) (N+6) (aQ cW ["who","k"]) [("who",s+4),("k",g+4)]) [(N+6,ab [] 0),(N+5,aa [] 0),(N+4,av "list_iterator" [.ref<|h+4,.int 0 0]),(g+4,af<|.int (SR j)<|d+1)] Z "other" "one" (λB e=>∀a l:Nat,ae [2,3,1] [N+2,N+1,a]<|gn (bi "sum.loop" [.ref<|a+4,.ref<|a+5,.int 0 0,.int 0 0]) [(a+4,av "list_iterator" [.ref<|N+5,.int 0 0]),(a+5,aa [.int 0<|l+1] 0)] (([(N+5,aa [] 0)]++(e++[]))++Z) (λo q z C=>∀t v:Nat,R (H7<|.int o<|q+1) [af<|.int (SR j)<|d+1] [] ([(N+5,aa [] 0)]++(e++[])) [])) (λF I G H k i E f=>∀c m:Nat,ae [6,3,1] [N+2,N+1,c]<|gn (bi "sum.loop" [.ref<|c+4,.ref<|c+5,.int 0 0,.int 0 0]) [(c+4,av "list_iterator" [.ref<|N+5,.int 0 0]),(c+5,aa [.int 0<|m+1] 0)] (([(N+5,aa k i)]++(f++[]))++Z) (λp r A D=>∀u w:Nat,R (H7<|.int p<|r+1) [af<|.int (SR j)<|d+1] [] ([(N+5,aa k i)]++(f++[])) []))
theorem Nf(h:Expr)(i g:va)(d n c b gc a f j e l:Nat)(m:List va)(k:SX):a9 w [(a+4,af<|.int (SR j)<|e+1)] [(b+4,af<|.str k<|l+1),(gc+4,af<|.ref<|d+4),(d+4,aa m n)] [mx 880 "other" "one",jG] (S0 h 0 i g<|au 145 c (f+4) (aQ ec ["who","log"]) [("k",a+4),("who",b+4),("log",gc+4)]) (bN (a6 ec)<|au 145 c (f+4) (aQ ec ["who","log"]) [("k",a+4),("who",b+4),("log",gc+4)]) (ET d c b gc a j e):=ba 25 64 0x27eb5a6f3ec140d82a85b69b9bf79964e02c2bbd6b0fb7f4b0071d96139b3d61942e1815
def KO(d a t u o j c q:Nat)(x:va)(p:Int):Q7:=λg h N T Z b R=>ae [1,1,4] [d,a,o]<|fI 960 (bi "tuple.__getitem__" [.ref<|o+4,.int (SR j)<|c+1]) [] Z (.int p<|q+1) (∀e f:Nat,R (H7<|.int p<|q+1) [ab [ent "who" t x,ent "one" u<|.ref<|o+4] 2] [] [] [])
theorem M4(f:Expr)(g e:va)(c b a t u o j d q:Nat)(x:va)(h:List va)(p:Int):a9 w [(b+4,ab [ent "who" t x,ent "one" u<|.ref<|o+4] 2)] [(a+4,af<|.int (SR j)<|d+1),(o+4,ag h)] [ir 960<|.int p<|q+1] (S0 f 0 g e<|au 145 c (b+4) (aQ dK ["k"]) [("k",a+4)]) (bN (a6 dK)<|au 145 c (b+4) (aQ dK ["k"]) [("k",a+4)]) (KO b a t u o j d q x p):=ba 6 12 0xc3889
def QY(h n gc g j d:Nat):Q7:=λw x N T Z b R=>ae [1,3,2] [gc,h,N]<|nQ 880 (S0 dK 0 (.ref<|N+4) (.ref<|N+5)<|au 145 (n) (N+6) (aQ dK ["k"]) [("k",g+4)]) [(N+6,ab [] 0),(N+5,aa [] 0),(N+4,av "list_iterator" [.ref<|h+4,.int 0 0]),(g+4,af<|.int (SR j)<|d+1)] Z "who" "one" (λA e=>∀a l:Nat,ae [2,3,1] [N+2,N+1,a]<|gn (bi "sum.loop" [.ref<|a+4,.ref<|a+5,.int 0 0,.int 0 0]) [(a+4,av "list_iterator" [.ref<|N+5,.int 0 0]),(a+5,aa [.int 0<|l+1] 0)] (([(N+5,aa [] 0)]++(e++[]))++Z) (λo q y B=>∀s u:Nat,R (H7<|.int o<|q+1) [af<|.int (SR j)<|d+1] [] ([(N+5,aa [] 0)]++(e++[])) [])) (λE H F G k i D f=>∀c m:Nat,ae [6,3,1] [N+2,N+1,c]<|gn (bi "sum.loop" [.ref<|c+4,.ref<|c+5,.int 0 0,.int 0 0]) [(c+4,av "list_iterator" [.ref<|N+5,.int 0 0]),(c+5,aa [.int 0<|m+1] 0)] (([(N+5,aa k i)]++(f++[]))++Z) (λp r z C=>∀t v:Nat,R (H7<|.int p<|r+1) [af<|.int (SR j)<|d+1] [] ([(N+5,aa k i)]++(f++[])) []))
theorem QB(g:Expr)(h f:va)(c n b gc a e j d:Nat)(i:List va):a9 w [(a+4,af<|.int (SR j)<|d+1)] [(gc+4,af<|.ref<|c+4),(c+4,aa i n)] [mx 880 "who" "one",jG] (S0 g 0 h f<|au 145 b (e+4) (aQ dS ["log"]) [("k",a+4),("log",gc+4)]) (bN (a6 dS)<|au 145 b (e+4) (aQ dS ["log"]) [("k",a+4),("log",gc+4)]) (QY c b gc a j d):=ba 25 64 0x27eb5a6f3ec140d82a85b69b9bf79964e02c2bbd6b0fb7f4b0071d96139b3d6168739911
def DO(t u:Bool)(Z:Led)(b:Nat)(R:aU)(h m gc rw j l i v z d:Nat)(y:List va)(s:SX)(a T5:Nat)(p:List va)(k:Nat)(e:Led)(g:Nat)(f:Led)(c:Nat):Prop:=SP (br t u w) b (aS (bJ (b4 145) 1) (.ref<|j+4)<|dC 145 (h+4) [("who",m+4),("log",gc+4)]) [(h+4,ao [ent "rows" z<|.ref<|rw+4] 1),(m+4,af<|.str s<|d+1),(rw+4,aa (y++[.ref<|c+4])<|v+1),(j+4,aF l<|i+1)] (([(c+4,ag [.str s<|d+1,.ref<|g+4])]++(f++([(a+6,aa p k)]++(e++[(a+4,aa [.int 1<|T5+1,.int 0<|T5+2,.int 2<|T5+3,.int 3<|T5+4] 0)]))))++Z) λr o n q x=>R r o n (q++([(c+4,ag [.str s<|d+1,.ref<|g+4])]++(f++([(a+6,aa p k)]++(e++[(a+4,aa [.int 1<|T5+1,.int 0<|T5+2,.int 2<|T5+3,.int 3<|T5+4] 0)]))))) x
def Sl(e c gc rw d l i r t f:Nat)(k:List va)(s:SX):Q7:=λp q N T Z b R=>ae [2] [d]<|rG (bi "list_iterator.__next__" [.ref<|d+4]) [(d+4,aF l i)] Z (.str s<|f+1) (∀a T5:Nat,ae [2,1,4,1,3,2] [c,e,rw,c,a,a+1]<|kk 800 (S0 ec 0 (.ref<|a+5) (.ref<|a+6)<|au 145 (e+4) (a+7) (aQ ec ["who","log"]) [("k",a+8),("who",c+4),("log",gc+4)]) [(a+8,aJ),(a+6,aa [] 0),(a+5,av "list_iterator" [.ref<|a+4,.int 0 0]),(c+4,af<|.str s<|f+1)] ([(a+4,aa [.int 1<|T5+1,.int 0<|T5+2,.int 2<|T5+3,.int 3<|T5+4] 0)]++Z) (λA m j z g=>∀u w:Nat,qi 960 (bi "tuple.__new__" [.type "tuple",.ref<|a+6]) [] (([(a+6,aa m j)]++(g++[(a+4,aa [.int 1<|T5+1,.int 0<|T5+2,.int 2<|T5+3,.int 3<|T5+4] 0)]))++Z) (λh B n=>∀o x:Nat,ae [4,1] [h,rw] ((((rw+4)=(rw+4))/\(Tn k<=VZ))/\∀v y:Nat,DO p q Z b R e c gc rw d l i r t f k s a T5 m j g h n o))))
theorem Ht(d n a c gc rw b l i e j h g:Nat)(k f o:List va)(s:SX)(m:Option va):CK w [(a+4,ao [ent "rows" h<|.ref<|rw+4] 1),(c+4,({cls:=.type "cell",data:=.cell m}:S9)),(rw+4,aa f e),(b+4,aF l i)] [(gc+4,af<|.ref<|d+4),(d+4,aa k n),(l+4,aa o j)] [pg<|.str s<|g+1,n7 800,w8 960,jN] (aS (bJ (b4 145) 1) (.ref<|b+4)<|dC 145 (a+4) [("who",c+4),("log",gc+4)]) (Sl a c gc rw b l i e h g f s):=aV 18 60 0x1cd0ff32d2415ec9d7901e8497de0ce1cd9bfaf8bbcd7839207d6dd3c52ac64
def RT(rw a l i d f:Nat)(e:List va)(g:Option va):Q7:=λj k N T Z b R=>ae [2] [a]<|mK (bi "list_iterator.__next__" [.ref<|a+4]) [(a+4,aF l i)] Z (λc=>∀h T5:Nat,ae [1] [c+1]<|R (.ok .next) [ao [ent "rows" f<|.ref<|rw+4] 1,({cls:=.type "cell",dict:=none,data:=.cell g,slots:=⟨[]⟩}:S9),aa e d,litE i] [] [] [])
theorem OM(c n b g gc rw a l i d j f:Nat)(k e m:List va)(h:Option va):CK w [(b+4,ao [ent "rows" f<|.ref<|rw+4] 1),(g+4,({cls:=.type "cell",data:=.cell h}:S9)),(rw+4,aa e d),(a+4,aF l i)] [(gc+4,af<|.ref<|c+4),(c+4,aa k n),(l+4,aa m j)] [qp] (aS (bJ (b4 145) 1) (.ref<|a+4)<|dC 145 (b+4) [("who",g+4),("log",gc+4)]) (RT rw a l i d f e h):=aV 17 12 0x1a476d34da
inductive De(Z:Led)(fr:S9)(ds:List Tg)(r:Vz)(objs:List S9)(new F ro:Led):Prop
 |mk (h1:r= .ok .next/\new=[]/\ro=[]) (a zs n o) (h2:objs=[fr,a,aa zs n,o]) (h3:ak (F++Z) zs ds)
inductive tu(b0:Nat)(c:Td)(sub Z:Led)(k:S9->List va->Nat->S9->Led->Prop):Prop
 |mk (ds) (h0:SP w b0 c sub Z (De Z ((sub.map (·.2)).headD<|ag []) ds)) (h1:∀b a n o F,ak (F++Z) a ds->k b a n o F):tu b0 c sub Z k
def CH(b:Nat):aA:=λc sub Z a=>tu b c sub Z λd e n o F=>a 0 (.ok .next) [(sub.map (·.2)).headD<|ag [],d,aa e n,o] [] F []
theorem J8(e:b<=a):(CH a).Ok w b:=by
 rintro c sub Z j ⟨k,h,H⟩;refine h.mono e (λd q=>q) ?_;rintro r m l F p d ⟨⟨rfl,rfl,rfl⟩,g,i,n,o,rfl,f⟩ d;exact⟨0,H g i n o F f⟩
def C5(N T:Nat)(Z:Led)(R:aU)(d:Nat)(f:List va)(e:Nat)(b:Led)(k:Nat)(c:Led)(h:Nat):Prop:=ae [3,1] [k,h]<|tu 760 (aS (bJ (b4 145) 1) (.ref<|h+4)<|dC 145 (N+4) [("who",N+6),("log",N+5)]) [(N+4,ao [ent "rows" T<|.ref<|N+7] 1),(N+6,aJ),(N+7,aa [] 0),(h+4,av "list_iterator" [.ref<|k+4,.int 0 0])] (([(N+5,af<|.ref<|d+4)]++(c++([(N+9,aa f e)]++(b++[]))))++Z) (λx q p v g=>∀a s:Nat,ae [10,2] [a,a+1]<|kk 760 (S0 dS 0 (.ref<|a+5) (.ref<|a+6)<|au 145 (N+4) (a+7) (aQ dS ["log"]) [("k",a+8),("log",N+5)]) [(a+8,aJ),(a+6,aa [] 0),(a+5,av "range_iterator" [.int 0 0,.int 4 0,.int 1 0])] ((g++([(N+5,af<|.ref<|d+4)]++(c++([(N+9,aa f e)]++(b++[])))))++Z) (λy n m w i=>∀r t:Nat,qi 960 (bi "tuple.__new__" [.type "tuple",.ref<|a+6]) [] (([(a+6,aa n m)]++(i++(g++([(N+5,af<|.ref<|d+4)]++(c++([(N+9,aa f e)]++(b++[])))))))++Z) (λl z o=>∀j u:Nat,ae [4,1] [l,N]<|R (H7<|.ref<|j+4) [] [] ([(j+4,ag [.ref<|l+4,.ref<|N+7]),(N+7,aa q p)]++(o++([(a+6,aa n m)]++(i++(g++([(N+5,af<|.ref<|d+4)]++(c++([(N+9,aa f e)]++(b++[]))))))))) [])))
def Ky(c:Nat):Q7:=λG H N T Z b R=>ae [2,2,1,3,2] [N+1,N,N+1,c,N+4]<|nQ 760 (S0 dM 0 (.ref<|N+8) (.ref<|N+9)<|au 145 (N+4) (N+10) (aW dM) []) [(N+10,ab [] 0),(N+9,aa [] 0),(N+8,av "list_iterator" [.ref<|c+4,.int 0 0])] Z "who" "one" (λM d=>∀x C:Nat,ae [2] [N+6]<|fQ 760 (cp 140 [.ref<|N+9]) [] (([(N+9,aa [] 0)]++(d++[]))++Z) (λl Tu J e=>∀g D:Nat,ae [3,1] [l,g]<|tu 760 (aS (bJ (b4 145) 1) (.ref<|g+4)<|dC 145 (N+4) [("who",N+6),("log",N+5)]) [(N+4,ao [ent "rows" T<|.ref<|N+7] 1),(N+6,aJ),(N+7,aa [] 0),(g+4,av "list_iterator" [.ref<|l+4,.int 0 0])] (([(N+5,af<|.ref<|c+4)]++(e++([(N+9,aa [] 0)]++(d++[]))))++Z) (λQ v u O f=>∀a E:Nat,ae [10,2] [a,a+1]<|kk 760 (S0 dS 0 (.ref<|a+5) (.ref<|a+6)<|au 145 (N+4) (a+7) (aQ dS ["log"]) [("k",a+8),("log",N+5)]) [(a+8,aJ),(a+6,aa [] 0),(a+5,av "range_iterator" [.int 0 0,.int 4 0,.int 1 0])] ((f++([(N+5,af<|.ref<|c+4)]++(e++([(N+9,aa [] 0)]++(d++[])))))++Z) (λS p n P i=>∀y F:Nat,qi 960 (bi "tuple.__new__" [.type "tuple",.ref<|a+6]) [] (([(a+6,aa p n)]++(i++(f++([(N+5,af<|.ref<|c+4)]++(e++([(N+9,aa [] 0)]++(d++[])))))))++Z) (λk Ts q=>∀j z:Nat,ae [4,1] [k,N]<|R (H7<|.ref<|j+4) [] [] ([(j+4,ag [.ref<|k+4,.ref<|N+7]),(N+7,aa v u)]++(q++([(a+6,aa p n)]++(i++(f++([(N+5,af<|.ref<|c+4)]++(e++([(N+9,aa [] 0)]++(d++[]))))))))) []))))) (λU Tr V Y o m L h=>∀w A:Nat,ae [6] [N+6]<|fQ 760 (cp 140 [.ref<|N+9]) [] (([(N+9,aa o m)]++(h++[]))++Z) (λt Tt I r=>∀s B:Nat,C5 N T Z R c o m h t r s))
theorem P7(a n:Nat)(b:List va):CK w [] [(a+4,aa b n)] [mx 760 "who" "one",fM 760,CH 760,n7 760,w8 960] (Vh (.ref 145) ⟨[.ref<|a+4],[]⟩) (Ky a):=aV 436 183 0x10a77eb229a90abdf03eaf978523e5ecab6f32febfd95ddb254a36c562610b949d883ab2f0cd2ec5915345006e9a02ea593f44a976afa7f6fc2663ece71d26df30505b0703f972d3d308d181aae94bfe023c5d92e228298a4f66d4f32c53ebffa0637b10acd3f0937b82eeda610e36b3520a8fb26a3216ac17c89938251db071529d6d6fcdde9403b49bb1871be50c2f532f7cb1bd2b351050e4c9902da0984ff91f4aaf0e3b43cd75582275fc9a83c1817e0293a6eecd13ae823fa446c45685e60ee1f89cb5dd
noncomputable def col(k:Nat)(r:R4):Int:=match k with
 |0=>r.a
 |1=>r.b
 |2=>r.c
 |_=>r.d
inductive ow(Z:Led)(v:va)(p:SX×R4):Prop
 |mk (a t o q0 q1 q2 q3) (h1:v= .ref (a+4)) (h2:(a+4,ag [.str p.1<|t+1,.ref<|o+4])∈Z) (h3:(o+4,ag [.int p.2.a<|q0+1,.int p.2.b<|q1+1,.int p.2.c<|q2+1,.int p.2.d<|q3+1])∈Z)
theorem aR{A B:Led}(h:q∈B):q∈A++B:=az h
theorem aL{q:Nat×S9}{A B:Led}(h:q∈A):q∈A++B:=bq h
theorem iQ{A B:Led}(h:∀p∈A,p∈B)(a:q∈A):q∈B:=h q a
theorem cT{A B T:Led}(a:∀q∈A,q∈T)(b:∀q∈B,q∈T):∀q∈A++B,q∈T:=λq h=>(bB h).elim (a q)<|b q
abbrev fh(Z:Led):List va->List (SX×R4)->Prop:=d0<|ow Z
theorem ow.sub(s:∀p∈Z,p∈Z')(h:ow Z v p):ow Z' v p:=h.rec λa t o q0 q1 q2 q3 e b c=>⟨a,t,o,q0,q1,q2,q3,e,s _ b,s _ c⟩
theorem fh.sub(s:∀p∈Z,p∈Z')(h:fh Z a ps):fh Z' a ps:=h.mono<|ow.sub s
theorem Fz{b m:Type}(p:Nat->Bool)(f:Nat->m):∀(l:List b) (P:b->Bool) (g:b->m) (k:Nat),(∀i x,l[i]?=some x->p (k+i)=P x/\f (k+i)=g x)->((X0 k l.length).filter p).map f=(l.filter P).map g:=by
 intro l;induction l with
 |nil=>intro a a a a;exact rfl
 |cons x l n=>
  intro P g k h;refine a0 (h 0 x rfl) λc d=>?_
  have j:=n P g (k+1) λi y e=>by rw[Wu,Ww 1];exact h (i+1) y<|by simpa using e
  rw[bT,Ye,VF,VF];rw[Nat.add_zero] at c d;rw[c];cases P x with
  |true=>simp only[if_true,cc];rw[j,d]
  |false=>simp only[W9,if_false];rw[j]
theorem ju{a b:Type}{p:Nat->Bool}{f:Nat->b}{l:List a}(P:a->Bool)(g:a->b)(c:n=l.length)(h:∀i x,l[i]?=some x->p i=P x/\f i=g x):((Tp n).filter p).map f=(l.filter P).map g:=by
 rw[c,VO];exact Fz p f l P g 0 λi x e=>by rw[V6];exact h i x e
theorem HI(h:j<n):seqIndex? (SR j) n=some j:=by
 unfold seqIndex?;have a:¬(SR j<0):=by show ¬((j:Int)<0);exact V5.mpr<|Vo _
 have b:(0<=SR j&&SR j<(n:Int))=true:=by
  have:(0:Int)<=(j:Int)/\(j:Int)<(n:Int):=by exact⟨Vo _,W0.mpr ‹_›⟩
  simpa using this
 simp only[a,if_false,b,if_true];rfl
theorem Dq(k:(a,ag c)∈Z)(m:j<1000)(e:c[j]?=some y):SP w b (.builtin "tuple.__getitem__" ⟨[.ref a,.int (SR j) u],[]⟩) [] Z (Rv y []):=by
 refine SP.meets F.entry_tuple_getitem (by decide+kernel) (MeetsSeq.tuple_getitem_at a ⟨c⟩ 0 (SR j) u j y (by show-2 ^ 63<=(j:Int);exact Vo _) (by show(j:Int)<2 ^ 63;lia) (HI (Tb.mp e).1)<|by simpa using e) λA l h N T g d n R hk i D f=>⟨D.keep _ _<|i _ k,f.done ⟨rfl,rfl,rfl,rfl,rfl⟩ D⟩
theorem D1(v:(l,aa c n)∈Z)(y:c.length<=1000)(x:ak Z c i):SP w b (.builtin "tuple.__new__" ⟨[.type "tuple",.ref l],[]⟩) [] Z (Dt Z i []):=by
 refine SP.meets F.entry_tuple_new (by decide+kernel) (meets_tuple_new_list l (aa c n) ⟨c⟩ n rfl rfl (b6 y)) λA u h N T g d z R hk t D s=>⟨D.keep _ _<|t _ v,λf k=>?_⟩
 have r:f.get? 27=some (oK 27):=k _ _ (D.keep _ _<|hk 27 _<|by kernel_rfl);obtain⟨a,j⟩:∃a,f.objs.size=a+4:=⟨f.objs.size-4,(Wd<|SQ (by decide:4<=28)<|VN r).symm⟩;have p:Rep u f [] (a+4):=⟨j,(λm q=>nomatch q),WQ,(λb o e=>k _ _<|D.keep b o e),(λm q=>nomatch q),by exact WX _ _⟩;show R (H7<|.ref f.objs.size) ⟨f.push<|ag c,g,d,T+1,z⟩;rw[j];exact s _ [] [] [(a+4,ag c)] [] _ _ T g ⟨a,c,rfl,rfl,rfl,rfl,.head _,x.more⟩ rfl (λm q=>nomatch q) (p.alloc rfl)
theorem He:dM=bD (a6 dM) (.Tuple [.Name "who"<|bb<|bh 0 (aG dM).target,.Name "one"<|bb<|bh 1 (aG dM).target] 0<|bb (aG dM).target) (aG dM).iter [] (aW dM) (bX dM):=by kernel_rfl
theorem Qr:cW=bD (a6 cW) (.Tuple [.Name "other"<|bb<|bh 0 (aG cW).target,.Name "one"<|bb<|bh 1 (aG cW).target] 0<|bb (aG cW).target) (aG cW).iter [fN cW] (aW cW) (bX cW):=by kernel_rfl
theorem LS:ec=bD (a6 ec) (.Name "k"<|bb (aG ec).target) (aG ec).iter [] (aW ec) (bX ec):=by kernel_rfl
theorem FN:dK=bD (a6 dK) (.Tuple [.Name "who"<|bb<|bh 0 (aG dK).target,.Name "one"<|bb<|bh 1 (aG dK).target] 0<|bb (aG dK).target) (aG dK).iter [] (aW dK) (bX dK):=by kernel_rfl
theorem MC:dS=bD (a6 dS) (.Name "k"<|bb (aG dS).target) (aG dS).iter [] (aW dS) (bX dS):=by kernel_rfl
def my(a:List (SX×R4))(b:SX)(k:Nat):Int:=((a.filter λp=>decide (p.1=b)).map λp=>col k p.2).sum
def cE(a:List (SX×R4))(k:Nat):Int:=(a.map λp=>col k p.2).sum
noncomputable def p0:SX×R4:=("",⟨0,0,0,0⟩)
theorem R4.at(e:j<4):∃q,[WC r.a<|q0+1,.int r.b<|q1+1,.int r.c<|q2+1,.int r.d<|q3+1][j]?=some (.int (col j r)<|q+1):=by
 rcases(by exact eg ‹_› :j=0\/j=1\/j=2\/j=3) with rfl|rfl|rfl|rfl<;>exact aB _ rfl
theorem Au:SP w b (.builtin "str.__eq__" ⟨[.str x t,.str y u],[]⟩) [] Z (Rv (.bool<|decide (x=y)) []):=by
 refine SP.val F.entry_str_eq (by decide+kernel) ?_ ⟨rfl,rfl,rfl,rfl,rfl⟩;rw[<-sq];exact gives_str_eq x y t u
section
variable{b g h c e l m k n f:Nat}{d:List va}{a:List (SX×R4)}{Z:Led}
inductive rL(Z:Led)(a:List (SX×R4))(i:Nat)(v1 v2:va):Prop
 |mk (p t o q0 q1 q2 q3) (h1:a[i]?=some p) (h2:v1= .str p.1 (t+1)) (h3:v2= .ref (o+4)) (h4:(o+4,ag [.int p.2.a<|q0+1,.int p.2.b<|q1+1,.int p.2.c<|q2+1,.int p.2.d<|q3+1])∈Z)
theorem pairsOf(z:fh Z d a):∀(i:Nat) (v:va),d[i]?=some v->∃j q r,v= .ref (j+4)/\(j+4,ag [q,r])∈Z/\rL Z a i q r:=λi v s=>by
 refine hide λQ x=>?_
 obtain⟨p,y,j,t,o,q0,q1,q2,q3,rfl,u,w⟩:=z.get s;exact x<|⟨_,_,_,rfl,u,p,t,o,q0,q1,q2,q3,y,rfl,rfl,w⟩
theorem Ny(s:b+40<=960)(q:fh Z d a)(M:a.length<=900)(E:(k+4,aa d n)∈Z):
  SP w b (.compLoop dM 0 (.ref<|g+4) (.ref<|h+4)<|au 145 f (c+4) (aW dM) []) [(c+4,ab [] 0),(h+4,aa [] 0),(g+4,aF k 0)] Z (cC Z d.length (jq "who" "one") ((a.map (·.1)).map .str)):=by
 have z:=lJ (b:=b) (e:=g) (f:=h) (d:=c) (l:=k) (n:=n) (c:=d) (Z:=Z) (g:=a6 dM) (j:=(aG dM).iter) (h:=[]) (k:=aW dM) (q:=bX dM) (x:="who") (y:="one") (U:=bb<|bh 0 (aG dM).target) (V:=bb<|bh 1 (aG dM).target) (T:=bb (aG dM).target) (S:=0) (P:=rL Z a) (p:=λj=>true) (D:=λi=>.str (a.getD i p0).1) (a:=au 145 f (c+4) (aW dM) []) s ⟨by kernel_rfl,by kernel_rfl,rfl⟩ ⟨by kernel_rfl,by kernel_rfl,rfl⟩ (by decide+kernel) E (by rw[q.len];exact SQ ‹_›<|zd rfl) (pairsOf q)
  (λi A H I t u v j j j C=>hY) (λi A H I t u v j j B C j=>?_)
 ·rw[<-He,ju (l:=a) (λj=>true) (λp=>Y3 p.1) q.len λi x r=>⟨rfl,by rw[Ta,r];rfl⟩,Vu.mpr λj j=>rfl] at z
  rw[Vb];exact z
 ·obtain⟨p,G,o,q0,q1,q2,q3,F,rfl,rfl,_⟩:=B
  refine VS.b5 (Fh _ _ _ f c t u G p.1 (.ref<|o+4) 960 s (zd rfl) ay ax λJ L N T r=>?_);exact ah<|aY _ rfl rfl (by rw[Ta,F];exact .str _ _)
theorem I5(S:j<4)(E:b+40<=960)(G:fh Z d a)(hl:a.length<=900)(U:(k+4,aa d n)∈Z)(L:(l+4,af<|.str x<|J+1)∈Z)(hk:(e+4,af<|.int (SR j)<|H+1)∈Z):
  SP w b (.compLoop cW 0 (.ref<|g+4) (.ref<|h+4)<|au 145 f (c+4) (aQ cW ["who","k"]) [("who",l+4),("k",e+4)]) [(c+4,ab [] 0),(h+4,aa [] 0),(g+4,aF k 0)] Z (cC Z d.length (jq "other" "one")<|((a.filter λp=>decide (p.1=x)).map λp=>col j p.2).map .int):=by
 have z:=lJ (b:=b) (e:=g) (f:=h) (d:=c) (l:=k) (n:=n) (c:=d) (Z:=Z) (g:=a6 cW) (j:=(aG cW).iter) (h:=[fN cW]) (k:=aW cW) (q:=bX cW) (x:="other") (y:="one") (U:=bb<|bh 0 (aG cW).target) (V:=bb<|bh 1 (aG cW).target) (T:=bb (aG cW).target) (S:=0) (P:=rL Z a) (p:=λi=>decide ((a.getD i p0).1=x)) (D:=λi=>.int<|col j (a.getD i p0).2) (a:=au 145 f (c+4) (aQ cW ["who","k"]) [("who",l+4),("k",e+4)]) E ⟨by kernel_rfl,by kernel_rfl,rfl⟩ ⟨by kernel_rfl,by kernel_rfl,rfl⟩ (by decide+kernel) U (by rw[G.len];exact SQ ‹_›<|zd rfl) (pairsOf G)
  (λi O Y v2 t u M v v C s=>?_) (λi O Y v2 t u M v v C s v=>?_)
 ·rw[<-Qr,ju (l:=a) (λp=>decide (p.1=x)) (λp=>VX<|col j p.2) G.len λi Tr B=>by rw[Ta,B];exact⟨rfl,rfl⟩] at z
  rw[Vb];exact z
 ·obtain⟨p,I,o,q0,q1,q2,q3,F,rfl,rfl,A⟩:=C
  refine VS.pQ (HF _ _ _ f c l e t u I J o j H p.1 x _ (decide (p.1=x)) 960 E (zd rfl) (aj (iC ar) ay) (aq (s _ L)<|aq (s _ hk)<|aq (s _ A) ax) λQ R N T B=>?_);exact ah ⟨Au,λv v=>aY _ rfl (by rw[Ta,F];rfl) rfl⟩
 ·obtain⟨p,I,o,q0,q1,q2,q3,F,rfl,rfl,A⟩:=C
  refine aw (R4.at (r:=p.2) (q0:=q0) (q1:=q1) (q2:=q2) (q3:=q3) S) λq V=>VS.b5 (RZ _ _ _ f c l e t u I J o j H q p.1 x _ (col j p.2) 960 E (zd rfl) (aj (iC ar) ay) (aq (s _ L)<|aq (s _ hk)<|aq (s _ A) ax) λQ R N T B=>?_);exact ah ⟨Dq (s _ A) (by exact SQ ‹_› (zd rfl)) V,λv v=>aY _ rfl rfl (by rw[Ta,F];exact .int _ _)⟩
theorem Ie(J:j<4)(C:b+40<=960)(A:fh Z d a)(V:a.length<=900)(L:(k+4,aa d n)∈Z)(hk:(e+4,af<|.int (SR j)<|F+1)∈Z):
  SP w b (.compLoop dK 0 (.ref<|g+4) (.ref<|h+4)<|au 145 f (c+4) (aQ dK ["k"]) [("k",e+4)]) [(c+4,ab [] 0),(h+4,aa [] 0),(g+4,aF k 0)] Z (cC Z d.length (jq "who" "one")<|(a.map λp=>col j p.2).map .int):=by
 have z:=lJ (b:=b) (e:=g) (f:=h) (d:=c) (l:=k) (n:=n) (c:=d) (Z:=Z) (g:=a6 dK) (j:=(aG dK).iter) (h:=[]) (k:=aW dK) (q:=bX dK) (x:="who") (y:="one") (U:=bb<|bh 0 (aG dK).target) (V:=bb<|bh 1 (aG dK).target) (T:=bb (aG dK).target) (S:=0) (P:=rL Z a) (p:=λs=>true) (D:=λi=>.int<|col j (a.getD i p0).2) (a:=au 145 f (c+4) (aQ dK ["k"]) [("k",e+4)]) C ⟨by kernel_rfl,by kernel_rfl,rfl⟩ ⟨by kernel_rfl,by kernel_rfl,rfl⟩ (by decide+kernel) L (by rw[A.len];exact SQ ‹_›<|zd rfl) (pairsOf A)
  (λi H Q R t u G s s s v=>hY) (λi H Q R t u G s s I v s=>?_)
 ·rw[<-FN,ju (l:=a) (λs=>true) (λp=>VX<|col j p.2) A.len λi x B=>⟨rfl,by rw[Ta,B];rfl⟩,Vu.mpr λs s=>rfl] at z
  rw[Vb];exact z
 ·obtain⟨p,Y,o,q0,q1,q2,q3,M,rfl,rfl,E⟩:=I
  refine aw (R4.at (r:=p.2) (q0:=q0) (q1:=q1) (q2:=q2) (q3:=q3) J) λq O=>VS.b5 (M4 _ _ _ f c e t u o j F q _ _ (col j p.2) 960 C (zd rfl) (aj (iC ar) ay) (aq (v _ hk)<|aq (v _ E) ax) λS U N T B=>?_);exact ah ⟨Dq (v _ E) (by exact SQ ‹_› (zd rfl)) O,λs s=>aY _ rfl rfl (by rw[Ta,M];exact .int _ _)⟩
theorem cZ(o:va):fK (af o):=aB _ rfl
theorem PL{r:List Nat}(hb:b+40<=880)(T:fh Z d a)(R:a.length<=900)(E:(k+4,aa d n)∈Z)(G:(l+4,af<|.str t<|I+1)∈Z)(M:(m+4,af<|.ref<|k+4)∈Z)
  {A:List va} (Q:∀(i:Nat) (v:va),A[i]?=some v->∃j u:Nat,r[i]?=some j/\j<4/\v= .int (SR j) (u+1)) (P:A.length=r.length) (Tv:r.length<=1000) (S:(B+4,aa A H)∈Z):
  SP w b (.compLoop ec 0 (.ref<|g+4) (.ref<|h+4)<|au 145 f (c+4) (aQ ec ["who","log"]) [("k",e+4),("who",l+4),("log",m+4)]) [(e+4,aJ),(h+4,aa [] 0),(g+4,aF B 0)] Z (kr Z<|(r.map λj=>my a t j).map .int):=by
 have z:=vG (b:=b) (e:=g) (f:=h) (a:=e) (l:=B) (n:=H) (s:=A) (Z:=Z) (g:=a6 ec) (h:=(aG ec).iter) (j:=aW ec) (q:=bX ec) (x:="k") (L:=bb (aG ec).target) (D:=λi=>.int<|my a t<|r.getD i 0) (d:=au 145 f (c+4) (aQ ec ["who","log"]) [("k",e+4),("who",l+4),("log",m+4)]) (by exact SQ ‹_› (zd rfl)) ⟨by kernel_rfl,by kernel_rfl,rfl⟩ S (by exact d4 ‹_› ‹_›)
  (λi v J V x=>?_)
 ·have y:=ju (n:=A.length) (p:=λq=>true) (f:=λi=>VX<|my a t<|r.getD i 0) (l:=r) (λq=>true) (λj=>VX<|my a t j) P λi Tx y=>⟨rfl,by rw[Ta,y];rfl⟩
  rw[Vu.mpr λq q=>rfl,Vu.mpr λq q=>rfl] at y;rw[<-LS,y] at z;rw[Vb];exact z
 ·refine bE (Q i v V) λj u N O Ts=>?_;subst Ts
  have C:r.getD i 0=j:=by rw[Ta,N];rfl
  refine VS.b5 (Nf _ _ _ k n f l m e c j u I d t 880 (by assumption) (zd rfl) (aj (ua ar)<|aj kh ay) (aq (x _ G)<|aq (x _ M)<|aq (x _ E) ax) λb1 b2 Tt Tu y=>?_);refine ah ⟨_,_,fc (cZ _) fz,I5 (Z:=[(e+4,af<|.int (SR j)<|u+1)]++J) (n:=n) (d:=d) (a:=a) O (zd rfl) ((T.sub x).sub λTr s=>.tail _ s) R (.tail _<|x _ E) (.tail _<|x _ G)<|.head _,λq L o F q q=>ah ?_,λq Tw v u' v' zs Y o F U q q=>ah ?_⟩
  ·refine⟨_,_,_,[],0,0,_,[],rfl,rfl,.head _,.nil,λu1 o1 o2 q q=>aY _ rfl rfl ?_⟩
   have:my a t j=0:=by unfold my;rw[Xl.mp L];rfl
   rw[C,this];exact .int _ _
  ·refine⟨_,_,_,zs,Y,0,_,_,rfl,rfl,.head _,U.sub λTr s=>?_,λu1 o1 o2 q q=>aY _ rfl rfl ?_⟩
   ·simp only[VK] at s⊢;rcases s with s|s<;>simp[s]
   ·rw[C];exact .int _ _
theorem KN(U:b+40<=880)(H:fh Z d a)(G:a.length<=900)(y:(k+4,aa d n)∈Z)(C:(m+4,af<|.ref<|k+4)∈Z):
  SP w b (.compLoop dS 0 (.ref<|g+4) (.ref<|h+4)<|au 145 f (c+4) (aQ dS ["log"]) [("k",e+4),("log",m+4)]) [(e+4,aJ),(h+4,aa [] 0),(g+4,aK 0<|SR 4)] Z (kr Z<|((Tp 4).map λj=>cE a j).map .int):=by
 have z:=yM (b:=b) (e:=g) (f:=h) (a:=e) (m:=4) (Z:=Z) (g:=a6 dS) (h:=(aG dS).iter) (j:=aW dS) (q:=bX dS) (x:="k") (L:=bb (aG dS).target) (D:=λi=>.int<|cE a i) (d:=au 145 f (c+4) (aQ dS ["log"]) [("k",e+4),("log",m+4)]) (by exact SQ ‹_› (zd rfl)) ⟨by kernel_rfl,by kernel_rfl,rfl⟩ (zd rfl)
  (λj u A E s=>?_)
 ·rw[<-MC] at z
  rw[Vb];exact z
 ·refine VS.b5<|QB _ _ _ k n f m e c j u d 880 (by assumption) (zd rfl) (aj (ua ar)<|aj kh ay) (aq (s _ C)<|aq (s _ y) ax) λQ R N T S=>ah ⟨_,_,fc (cZ _) fz,Ie (Z:=[(e+4,af<|.int (SR j)<|u+1)]++A) (n:=n) (d:=d) (a:=a) E (zd rfl) ((H.sub s).sub λq r=>.tail _ r) G (.tail _<|s _ y)<|.head _,λp B o F p p=>ah ?_,λp t v V Y P J o F I p p=>ah ?_⟩
  ·refine⟨_,_,_,[],0,0,_,[],rfl,rfl,.head _,.nil,λO L M p p=>aY _ rfl rfl ?_⟩
   have:cE a j=0:=by unfold cE;rw[Xl.mp B];rfl
   rw[this];exact .int _ _
  ·refine⟨_,_,_,P,J,0,_,_,rfl,rfl,.head _,I.sub λq r=>?_,λO L M p p=>aY _ rfl rfl (.int _ _)⟩
   simp only[VK] at r⊢;rcases r with r|r<;>simp[r]
end
def nK(a:List (SX×R4))(s:SX):Tg:=.tuple [.str s,.tuple<|([1,0,2,3].map λj=>my a s j).map .int]
section
variable{b h g rw l k m d n p:Nat}{e f:List va}{c:List SX}{a:List (SX×R4)}{Z:Led}
theorem NR(T:b+40<=800):∀(J i:Nat) (t:List va) (x y:Nat) (G:Option va) (A:List Tg) (Z:Led),i+J=c.length->c.length<=900->t.length<=i->ak Z f (c.map .str)->fh Z e a->a.length<=900->(d+4,aa e n)∈Z->(m+4,af<|.ref<|d+4)∈Z->(l+4,aa f p)∈Z->ak Z t A->
  SP w b (aS (bJ (b4 145) 1) (.ref<|k+4)<|dC 145 (h+4) [("who",g+4),("log",m+4)]) [(h+4,ao [ent "rows" y<|.ref<|rw+4] 1),(g+4,{cls:=.type "cell",data:=.cell G}),(rw+4,aa t x),(k+4,aF l i)] Z (De Z (ao [ent "rows" y<|.ref<|rw+4] 1)<|A++(c.drop i).map (nK a)):=by
 intro J;induction J with
 |zero=>
  intro i t x y G A Z hi S hr I N L E D B M;refine OM d n h g m rw k l i x p y e t f G 800 T (zd rfl) (aj se ay) (aq D<|aq E<|aq B ax) λb1 b2 Tr Ts R=>?_
  have TG:f.length=c.length:=by rw[I.len,aM]
  refine ah ⟨_,_,_,_,_,rfl,rfl,B,by lia,λO z T5=>ah ⟨⟨rfl,rfl,rfl⟩,_,t,x,_,rfl,?_⟩⟩;rw[WA<|by exact Th (Y9 ‹_›),W3,aP];exact M
 |succ J ih=>
  intro i t x y G A Z hi S hr I N L E D B M;refine aw (I.strAt (j:=i)<|by exact nN ‹_›) λu hu=>Ht d n h g m rw k l i x p y u e t f (c.getD i default) G 800 T (zd rfl) (aj BA<|aj (pz ar)<|aj (Ef<|zd rfl)<|aj pH ay) (aq D<|aq E<|aq B ax) λb1 b2 Tr Ts R=>ah ⟨_,_,_,_,_,rfl,rfl,B,hu,λz T5=>ah ⟨_,fc (cZ _) fz,PL (r:=[1,0,2,3]) (n:=n) (d:=e) (a:=a) (Z:=[(g+4,af<|.str (c.getD i default)<|u+1)]++([(z+4,aa [.int 1<|T5+1,.int 0<|T5+2,.int 2<|T5+3,.int 3<|T5+4] 0)]++Z)) (zd rfl) (N.sub λq s=>.tail _<|.tail _ s) L (.tail _<|.tail _ E) (.head _) (.tail _<|.tail _ D) ?_ rfl (zd rfl) (.tail _<|.head _),λoc zs Y o F U Tz TB=>⟨_,D1 (.head _) (by rw[U.len,aM,aM];decide) (U.sub λq s=>by simp only[VK] at s⊢;rcases s with s|s|s<;>simp[s]),λQ TL P hm Tt H TC=>ah ⟨⟨rfl,?_⟩,λTA TF=>?_⟩⟩⟩⟩
  ·intro i' TK v
   match i',v with
   |0,v=>cases v;exact dR 1 _ rfl (zd rfl) rfl
   |1,v=>cases v;exact dR 0 _ rfl (zd rfl) rfl
   |2,v=>cases v;exact dR 2 _ rfl (zd rfl) rfl
   |3,v=>cases v;exact dR 3 _ rfl (zd rfl) rfl
  ·exact SQ (by exact SQ ‹_› (SQ (Wz<|nN ‹_›) ‹_›):t.length<=900)<|zd rfl
  ·unfold DO
   rw[R];have C:∀q∈Z,q∈([(H+4,ag [.str (c.getD i default)<|u+1,.ref<|Q+4])]++(P++([(z+6,aa zs Y)]++(F++[(z+4,aa [.int 1<|T5+1,.int 0<|T5+2,.int 2<|T5+3,.int 3<|T5+4] 0)]))))++Z:=λq s=>az s
   have Tu:Tells (([(H+4,ag [.str (c.getD i default)<|u+1,.ref<|Q+4])]++(P++([(z+6,aa zs Y)]++(F++[(z+4,aa [.int 1<|T5+1,.int 0<|T5+2,.int 2<|T5+3,.int 3<|T5+4] 0)]))))++Z) (.ref<|H+4) (nK a<|c.getD i default):=by
    unfold nK;refine .tup (.head _)<|.cons (.str _ _)<|.cons (.tup ?_<|Tt.sub ?_) .nil
    ·refine iQ ?_ hm;((repeat' with_reducible refine cT ?_ ?_)<;>intro q s<;>with_reducible solve_by_elim (maxDepth:=20) [aL,aR])
    ·((repeat' with_reducible refine cT ?_ ?_)<;>intro q s<;>with_reducible solve_by_elim (maxDepth:=20) [aL,aR])
   have Tw:=ih (i+1) (t++[.ref<|H+4]) (x+1) y (some<|.str (c.getD i default)<|u+1) (A++[nK a<|c.getD i default]) _ (by exact vF ‹_›) S (by simp;lia) (I.sub C) (N.sub C) L (C _ E) (C _ D) (C _ B)<|(M.sub C).app<|.cons Tu .nil;refine Tw.mono ar (λO q=>q) ?_;rintro r TJ TH F2 ro O ⟨h1,Tv,Tx,n',o',rfl,V⟩ O;refine⟨h1,Tv,Tx,n',o',rfl,?_⟩;have e2:c.drop i=c.getD i default::c.drop (i+1):=by rw[WJ<|by lia,Ta,Ti<|by lia];rfl
   rw[e2,cc];rw[List.append_assoc A] at V;exact V.sub<|by((repeat' with_reducible refine cT ?_ ?_)<;>intro q s<;>with_reducible solve_by_elim (maxDepth:=20) [aL,aR])
theorem Ig{l:List (SX×R4)}(i:l.length<=900):(bQ (l.map (·.1))).length<=900:=by
 unfold bQ;rw[aM];exact SQ (WK _ _)<|by rw[VW,aM];exact i
def fy(a:List (SX×R4)):Tg:=.tuple [.tuple<|((Tp 4).map λj=>cE a j).map .int,.list ((bQ (a.map (·.1))).map<|nK a)]
theorem Bt(D:b+40<=760)(y:fh Z e a)(t:a.length<=900)(v:(d+4,aa e n)∈Z):
  SP w b (.call (.ref 145) ⟨[.ref<|d+4],[]⟩) [] Z (Dv Z (fy a) []):=by
 refine P7 d n e 760 D (zd rfl) (aj (ua ar)<|aj (i5 ar)<|aj (J8 ar)<|aj (pz ar)<|aj (Ef<|zd rfl) ay) (aq v ax) λQ R N T S=>?_
 have B:∀s r F,ak (F++Z) s ((a.map (·.1)).map .str)->fQ 760 (.call (.ref 140) ⟨[.ref<|N+9],[]⟩) [] (([(N+9,aa s r)]++(F++[]))++Z) λx f n' z=>∀C T1:Nat,C5 N T Z (Dv Z (fy a) []) d s r F x z C:=by
  intro s r F u;refine⟨_,uX (b:=760) (c:=a.map (·.1)) (zd rfl) (u.sub<|by((repeat' with_reducible refine cT ?_ ?_)<;>intro q j<;>with_reducible solve_by_elim (maxDepth:=20) [aL,aR])) (by rw[aM];exact t)<|.head _,λx f r z G u i i=>ah ⟨_,NR (b:=760) (c:=bQ (a.map (·.1))) (a:=a) (d:=d) (n:=n) (e:=e) (f:=f) (p:=r) (l:=x) (zd rfl) (bQ (a.map (·.1))).length 0 [] 0 T none [] _ (by exact V6 _) (Ig t) (by simp) (u.sub ?_) (y.sub λq j=>az j) t (az v) (.head _) (?_:_∈_) .nil,λoc Tv U o2 L I i i=>ah ⟨_,(λi j=>nomatch j),KN (b:=760) (k:=d) (n:=n) (d:=e) (zd rfl) (y.sub λq j=>az<|az j) t (az<|az v)<|by simp,λY Tw V o3 M A i i=>⟨_,D1 (.head _) (by rw[A.len,aM,aM];decide)<|A.sub ?_,λP Tu O H J i i=>ah<|di _ rfl rfl rfl rfl (.tup (.head _)<|.cons (.tup ?_<|J.sub ?_)<|.cons (.lst (.tail _<|.head _)<|I.sub ?_) .nil)⟩⟩⟩⟩
  ·((repeat' with_reducible refine cT ?_ ?_)<;>intro q j<;>with_reducible solve_by_elim (maxDepth:=20) [aL,aR])
  ·refine iQ ?_ G;((repeat' with_reducible refine cT ?_ ?_)<;>intro q j<;>with_reducible solve_by_elim (maxDepth:=20) [aL,aR])
  ·((repeat' with_reducible refine cT ?_ ?_)<;>intro q j<;>with_reducible solve_by_elim (maxDepth:=20) [aL,aR])
  ·refine iQ ?_ H;((repeat' with_reducible refine cT ?_ ?_)<;>intro q j<;>with_reducible solve_by_elim (maxDepth:=20) [aL,aR])
  ·((repeat' with_reducible refine cT ?_ ?_)<;>intro q j<;>with_reducible solve_by_elim (maxDepth:=20) [aL,aR])
  ·((repeat' with_reducible refine cT ?_ ?_)<;>intro q j<;>with_reducible solve_by_elim (maxDepth:=20) [aL,aR])
 refine ah ⟨_,_,(λi j=>nomatch j),Ny (b:=760) (zd rfl) y t v,λi E o F i i=>?_,λi Tr Tt Ts v' s r o F u i i=>?_⟩
 ·exact ah<|B [] 0 F<|by rw[E];exact .nil
 ·exact ah<|B s r F u
end
def Jz(d:Nat):Q7:=λa c N T Z b R=>ae [5,6,4,2,5,2,3,1,1] [N,d,N+1,d,N+2,d,N+2,N+4,N]<|R (H7<|.int 0<|T+2) [] [] [] []
theorem Nx:CK w [] [(d+4,ab [] 0)] [] (Vh (.ref 35) ⟨[.ref<|d+4],[]⟩) (Jz d):=aV 106 44 0xe625880c07c5644fc6ff8d4547916b7ca099d56385fdf0d63bf696eae9a2d43d110fb
def Fg(d:Nat)(i0:Int):Q7:=λa c N T Z b R=>ae [5,6,4,2,5,2,6,6,4,2,3,1,1] [N,d,N+1,d,N+2,d,N+2,N,N+2,d,N+2,N+4,N]<|R (H7<|.int (0+i0)<|T+5) [] [] [] []
theorem Nv:CK w [] [(d+4,ab [⟨cu w b,.str b<|c+1,.int a<|e+1⟩] 1)] [] (Vh (.ref 35) ⟨[.ref<|d+4],[]⟩) (Fg d a):=aV 106 67 0x603db293245a508ea8fddae8a9d7f1bf03a043bfa8fa49cb43bc093bf0f39d984713e21c8b0ecbc47d726cf248cbfb9914ed43d110fb
def FE(d:Nat)(i0 a:Int):Q7:=λc e N T Z b R=>ae [5,6,4,2,5,2,6,6,4,2,6,6,4,2,3,1,1] [N,d,N+1,d,N+2,d,N+2,N,N+2,d,N+2,N,N+2,d,N+2,N+4,N]<|R (H7<|.int ((0+i0)+a)<|T+8) [] [] [] []
theorem Gd:CK w [] [(d+4,ab [⟨cu w c,.str c<|f+1,.int a<|h+1⟩,⟨cu w e,.str e<|g+1,.int b<|i+1⟩] 2)] [] (Vh (.ref 35) ⟨[.ref<|d+4],[]⟩) (FE d a b):=aV 106 90 0x283ecf6613df18bc6319577581aa91a9c9cce5bd34efea110ad262bb2ad123abc4f365e8be47b77509abfa3a62af76961bb09c1f591181059589db7f25d7cf0b27bdb9914ed43d110fb
def Gh(d:Nat)(i0 a c:Int):Q7:=λe f N T Z b R=>ae [5,6,4,2,5,2,6,6,4,2,6,6,4,2,6,6,4,2,3,1,1] [N,d,N+1,d,N+2,d,N+2,N,N+2,d,N+2,N,N+2,d,N+2,N,N+2,d,N+2,N+4,N]<|R (H7<|.int (((0+i0)+a)+c)<|T+11) [] [] [] []
theorem LL:CK w [] [(d+4,ab [⟨cu w e,.str e<|h+1,.int a<|k+1⟩,⟨cu w f,.str f<|i+1,.int b<|l+1⟩,⟨cu w g,.str g<|j+1,.int c<|m+1⟩] 3)] [] (Vh (.ref 35) ⟨[.ref<|d+4],[]⟩) (Gh d a b c):=aV 106 113 0x10d45a5b178536da939fad131db4b5c22f1fb5a30400655bdf23087a01fbc1b47dae62ebd4df26cc62086b0b759cd48d0afec05fdc4f0d11df07ff440074c36ed78522678209ae6e139d760323f5f4048bd920b27bdb9914ed43d110fb
def MN(d:Nat)(i0 a c e:Int):Q7:=λf g N T Z b R=>ae [5,6,4,2,5,2,6,6,4,2,6,6,4,2,6,6,4,2,6,6,4,2,3,1,1] [N,d,N+1,d,N+2,d,N+2,N,N+2,d,N+2,N,N+2,d,N+2,N,N+2,d,N+2,N,N+2,d,N+2,N+4,N]<|R (H7<|.int ((((0+i0)+a)+c)+e)<|T+14) [] [] [] []
theorem QS:CK w [] [(d+4,ab [⟨cu w f,.str f<|j+1,.int a<|n+1⟩,⟨cu w g,.str g<|k+1,.int b<|o+1⟩,⟨cu w h,.str h<|l+1,.int c<|p+1⟩,⟨cu w i,.str i<|m+1,.int e<|q+1⟩] 4)] [] (Vh (.ref 35) ⟨[.ref<|d+4],[]⟩) (MN d a b c e):=aV 106 136 0x709a29ac8a28cfeea6d66e7e6a7e6caa48afc2146a713d7c85edc147a0c8260d501eaea8a702fd3fa1185a198efc8635bbd3ea74a12564b5571671e01e83cb108c392a5b869f00632f393ed3f828f7324a76f5c787ee60439b73a9c89ee50a64e493bc8bd920b27bdb9914ed43d110fb
noncomputable def intOf:Tg->Int
 | .int i=>i
 |_=>0
def eL(kv:KV):Int:=(kv.map λp=>intOf p.2).sum
theorem jc(h:p.2= .int i):eL (p::l)=i+eL l:=by
 show intOf p.2+eL l=_;rw[h];rfl
theorem a7.int_inv(h:a7 Z b (bu (p::l)))(f:∃i,p.2= .int i):∃t u i a,p.2= .int i/\b=⟨cu w p.1,.str p.1<|t+1,.int i<|u+1⟩::a/\a7 Z a (bu l):=by
 refine hide λQ e=>aw f λi c=>cQ h.cons_inv λt v a k d g=>?_;subst k
 rw[c] at d;refine aw d.int_inv λu j=>?_;subst j
 exact e<|⟨t,u,i,a,c,rfl,g⟩
theorem EB(f:b+40<=960)(h:Tells Z v (.dict<|bu kv))(l:∀p∈kv,∃i,p.2= .int i)(x:kv.length<=4):SP w b (.call (.ref 35) ⟨[v],[]⟩) [] Z (Ri (eL kv) []):=by
 refine bE h.fE λd G B g o=>?_;subst B
 cases kv with
 |nil=>
  cases o.nil_inv
  refine Nx 960 f (zd rfl) ay (aq g ax) λj k N T e=>ah<|di (T+1) rfl rfl rfl rfl rfl
 |cons p0 kv=>
  refine lY (o.int_inv<|l _<|.head _) λI O i0 C q0 c q=>?_;subst c
  cases kv with
  |nil=>
   cases q.nil_inv
   have a:eL [p0]=0+i0:=by rw[jc q0,show eL []=0 from rfl,XA,Yg]
   refine Nv 960 f (zd rfl) ay (aq g ax) λj k N T e=>ah<|di (T+4) (by rw[a]) rfl rfl rfl rfl
  |cons n kv=>
   refine lY (q.int_inv<|l _<|.tail _<|.head _) λJ P m D q1 c r=>?_;subst c
   cases kv with
   |nil=>
    cases r.nil_inv
    have a:eL [p0,n]=0+i0+m:=by rw[jc q0,jc q1,show eL []=0 from rfl,XA,Yg]
    refine Gd 960 f (zd rfl) ay (aq g ax) λj k N T e=>ah<|di (T+7) (by rw[a]) rfl rfl rfl rfl
   |cons u kv=>
    refine lY (r.int_inv<|l _<|.tail _<|.tail _<|.head _) λL Q t E q2 c s=>?_;subst c
    cases kv with
    |nil=>
     cases s.nil_inv
     have a:eL [p0,n,u]=0+i0+m+t:=by rw[jc q0,jc q1,jc q2,show eL []=0 from rfl,XA,Yg,Ys]
     refine LL 960 f (zd rfl) ay (aq g ax) λj k N T e=>ah<|di (T+10) (by rw[a]) rfl rfl rfl rfl
    |cons A kv=>
     refine lY (s.int_inv<|l _<|.tail _<|.tail _<|.tail _<|.head _) λM R z F q3 c y=>?_;subst c
     cases kv with
     |nil=>
      cases y.nil_inv
      have a:eL [p0,n,u,A]=0+i0+m+t+z:=by rw[jc q0,jc q1,jc q2,jc q3,show eL []=0 from rfl,XA,Yg,Ys,Ys]
      refine QS 960 f (zd rfl) ay (aq g ax) λj k N T e=>ah<|di (T+13) (by rw[a]) rfl rfl rfl rfl
     |cons H kv=>exact absurd (show kv.length+5<=4 from x)<|by lia
theorem sN{d e:Type}{E:va->Tf->Prop}{c:Prop}[Decidable c]{a b:StateT d VM e}{Q:e->d->Prop}{st:d}(h:¬c)(k:wpS M A E s b Q st):wpS M A E s (if c then a else b) Q st:=by rw[if_neg h];exact k
theorem sP{d e:Type}{E:va->Tf->Prop}{c:Prop}[Decidable c]{a b:StateT d VM e}{Q:e->d->Prop}{st:d}(h:c)(k:wpS M A E s a Q st):wpS M A E s (if c then a else b) Q st:=by rw[if_pos h];exact k
section
variable{M:Model}{A:Wr}{E:va->Tf->Prop}{s:Tf}{σ β:Type}{a b:Nat}{f:Nat->β->StateT σ VM (ForInStep β)}{c:β}{Q:β->σ->Prop}{d:σ}
theorem eu(k:a<b)(h:wpS M A E s (f a c) (λr j=>match r with| .done g=>Q g j| .yield g=>wpS M A E s (forIn [a+1:b] g f) Q j) d):wpS M A E s (forIn [a:b] c f) Q d:=by
 have e:∀a c,(forIn [a:b] c f:StateT σ VM β)=forIn (X0 a (b-a) 1) c f:=λa c=>by
  rw[X1];simp[Y5.size]
 rw[e];rw[show b-a=(b-(a+1))+1 from yO k,Ye,List.forIn_cons];refine V3<|wpS_mono h λr j i=>?_;cases r with
 |done g=>exact Vj i
 |yield g=>dsimp only at i⊢;rw[e] at i;exact i
theorem iF(g:b<=a)(h:Q c d):wpS M A E s (forIn [a:b] c f) Q d:=by
 have e:(forIn [a:b] c f:StateT σ VM β)=forIn (X0 a (b-a) 1) c f:=by
  rw[X1];simp[Y5.size]
 rw[e,show b-a=0 from YS g,List.range'_zero,List.forIn_nil];exact Vj h
end
def Sr(m:Nat->Int)(i j:Nat):Prop:=m i<m j\/(m i=m j/\i<j)
def jC(e:Nat->Keyed)(m:Nat->Int):Prop:=∀i,∃t v,e i=(.int (m i) t,v)
noncomputable def cy(e:Nat->Keyed)(i j k l:Nat):XN:=XN.mk' oneType' #[e i,e j,e k,e l] #[] 7 none
def Pf(m:Nat->Int):Nat->Nat->Nat->Nat->Nat->Prop
 |1,a,b,c,d=>a=0/\b=1/\c=2/\d=3
 |2,a,b,c,d=>a<2/\b<2/\Sr m a b/\c=2/\d=3
 |3,a,b,c,d=>a<3/\b<3/\c<3/\Sr m a b/\Sr m b c/\d=3
 |4,a,b,c,d=>a<4/\b<4/\c<4/\d<4/\Sr m a b/\Sr m b c/\Sr m c d
 |_,_,_,_,_=>False
theorem Sr.ge{m:Nat->Int}(h:¬m y<m x)(a:x<y):Sr m x y:=(Int.lt_or_eq_of_le<|V5.mp h).imp id λe=>⟨e,a⟩
theorem dH(h:a<k):a<k+1:=YP h
section
variable{e:Nat->Keyed}{m:Nat->Int}{A:Wr}{E:va->Tf->Prop}{s:Tf}{a b c d x y i j:Nat}
theorem GD{Q:Option Bool->XN->Prop}(f:jC e m)(g:(#[e a,e b,e c,e d]:Array Keyed)[i]?=some (e x))(k:(#[e a,e b,e c,e d]:Array Keyed)[j]?=some (e y))(h:Q (some<|decide (m x<m y)) (cy e a b c d)):
  wpS (Vy Pw w) A E s (ltAt' i j) Q (cy e a b c d):=by
 exact hide λQ o=>fg (f x) λt v l=>fg (f y) λp q n=>o<|wpS_ltAt rfl (by rw[l] at g;exact g) (by rw[n] at k;exact k) h
theorem et{g:Type}{f:Option Bool->StateT XN VM g}{Q:g->XN->Prop}(n:jC e m)(o:(#[e a,e b,e c,e d]:Array Keyed)[i]?=some (e x))(p:(#[e a,e b,e c,e d]:Array Keyed)[j]?=some (e y))(k:m x<m y->wpS (Vy Pw w) A E s (f<|some true) Q (cy e a b c d))(l:¬m x<m y->wpS (Vy Pw w) A E s (f<|some false) Q (cy e a b c d)):
  wpS (Vy Pw w) A E s (ltAt' i j>>=f) Q (cy e a b c d):=V3 (GD n o p (by
 by_cases h:m x<m y
 ·rw[decide_eq_true h];exact k h
 ·rw[decide_eq_false h];exact l h))
theorem jV{q:Type}{f:Unit->StateT XN VM q}{Q:q->XN->Prop}(r:setArr (cy e a b c d) (bubble #[e a,e b,e c,e d] g<|g-p)=cy e k l n o)(h:wpS (Vy Pw w) A E s (f ()) Q (cy e k l n o)):wpS (Vy Pw w) A E s (moveDown' g p>>=f) Q (cy e a b c d):=by
 rw[moveDown'_eq];exact V3<|wpS_modify<|r▸h
theorem kg{o:Type}{f:Unit->StateT XN VM o}{Q:o->XN->Prop}(p:setArr (cy e a b c d) (mirror #[e a,e b,e c,e d] i j<|(j-i) / 2)=cy e g k l n)(h:wpS (Vy Pw w) A E s (f ()) Q (cy e g k l n)):wpS (Vy Pw w) A E s (reverseSlice' i j>>=f) Q (cy e a b c d):=by
 rw[reverseSlice'_eq];exact V3<|wpS_modify<|p▸h
theorem So{Q:Bool->XN->Prop}(q:jC e m)(hk:1<=ok)(T:ok<=4)(Z:Pf m ok a b c d)(O:∀a b c d,Pf m 4 a b c d->Q true (cy e a b c d)):wpS (Vy Pw w) A E s (binarySort' 0 4 ok) Q (cy e a b c d):=by
 rw[binarySort'_eq];simp only[V6];refine V3<|wpS_mono (wpS_forRange (I:=λk p t=>p=(none,())/\∃a b c d,t=cy e a b c d/\Pf m (min k 4) a b c d) (Q:=λp t=>p=(none,())/\∃a b c d,t=cy e a b c d/\Pf m 4 a b c d) ?_ ?_ ⟨rfl,a,b,c,d,rfl,by rwa[show min (max ok 1) 4=ok by rw[Nat.max_eq_left hk,Nat.min_eq_left T]]⟩) ?_
 ·rintro k p t P R o;refine a0 o λv B=>nt B λa b c d z l=>?_;clear o;subst v z
  have S:=Qf (n:=0) (SQ (Nat.le_max_right _ _) P) R;rcases S with rfl|rfl|rfl
  ·refine ei l λv U V L=>?_;clear l;subst v U V L
   refine V3 (eu (zd rfl) ?_);refine sN (by decide)<|et (x:=1) (y:=0) q rfl rfl (λC=>?_) λC=>?_
   ·refine Vj<|iF (zd rfl)<|jV (k:=1) (l:=0) (n:=2) (o:=3) rfl (Vj ⟨rfl,_,_,_,_,rfl,?_⟩);exact⟨by decide,by decide,.inl C,rfl,rfl⟩
   ·refine Vj<|iF (zd rfl)<|jV (k:=0) (l:=1) (n:=2) (o:=3) rfl (Vj ⟨rfl,_,_,_,_,rfl,?_⟩);exact⟨by decide,by decide,Sr.ge C<|zd rfl,rfl,rfl⟩
  ·refine gb l λf g r L Y=>?_;clear l;subst L Y
   refine V3 (eu (zd rfl) ?_);refine sN (by decide)<|et (x:=2) (y:=b) q rfl rfl (λF=>?_) λF=>?_
   ·refine Vj<|eu (zd rfl)<|sN (by decide)<|et (x:=2) (y:=a) q rfl rfl (λD=>?_) λD=>?_
    ·refine Vj<|iF (zd rfl)<|jV (k:=2) (l:=a) (n:=b) (o:=3) rfl (Vj ⟨rfl,_,_,_,_,rfl,?_⟩);exact⟨by decide,dH f,dH g,.inl D,r,rfl⟩
    ·refine Vj<|iF (zd rfl)<|jV (k:=a) (l:=2) (n:=b) (o:=3) rfl (Vj ⟨rfl,_,_,_,_,rfl,?_⟩);exact⟨dH f,by decide,dH g,Sr.ge D f,.inl F,rfl⟩
   ·refine Vj<|eu (zd rfl)<|sP (zd rfl)<|Vj<|jV (k:=a) (l:=b) (n:=2) (o:=3) rfl (Vj ⟨rfl,_,_,_,_,rfl,?_⟩);exact⟨dH f,dH g,by decide,r,Sr.ge F g,rfl⟩
  ·refine lU l λf g u r M z=>?_;clear l;subst z
   refine V3 (eu (zd rfl) ?_);refine sN (by decide)<|et (x:=3) (y:=b) q rfl rfl (λH=>?_) λH=>?_
   ·refine Vj<|eu (zd rfl)<|sN (by decide)<|et (x:=3) (y:=a) q rfl rfl (λG=>?_) λG=>?_
    ·refine Vj<|eu (zd rfl)<|sP (zd rfl)<|Vj<|jV (k:=3) (l:=a) (n:=b) (o:=c) rfl (Vj ⟨rfl,_,_,_,_,rfl,?_⟩);exact⟨by decide,dH f,dH g,dH u,.inl G,r,M⟩
    ·refine Vj<|eu (zd rfl)<|sP (zd rfl)<|Vj<|jV (k:=a) (l:=3) (n:=b) (o:=c) rfl (Vj ⟨rfl,_,_,_,_,rfl,?_⟩);exact⟨dH f,by decide,dH g,dH u,Sr.ge G f,.inl H,M⟩
   ·refine Vj<|eu (zd rfl)<|sN (by decide)<|et (x:=3) (y:=c) q rfl rfl (λJ=>?_) λJ=>?_
    ·refine Vj<|eu (zd rfl)<|sP (zd rfl)<|Vj<|jV (k:=a) (l:=b) (n:=3) (o:=c) rfl (Vj ⟨rfl,_,_,_,_,rfl,?_⟩);exact⟨dH f,dH g,by decide,dH u,r,Sr.ge H g,.inl J⟩
    ·refine Vj<|eu (zd rfl)<|sP (zd rfl)<|Vj<|jV (k:=a) (l:=b) (n:=c) (o:=3) rfl (Vj ⟨rfl,_,_,_,_,rfl,?_⟩);exact⟨dH f,dH g,dH u,by decide,r,M,Sr.ge J u⟩
 ·rintro p t o;exact a0 o λh B=>nt B λa b c d N l=>⟨h,a,b,c,d,N,by rwa[show min (max (max ok 1) 4) 4=4 from Nat.min_eq_right (Nat.le_max_right _ _)] at l⟩
 ·rintro p t o;refine a0 o λv B=>nt B λa b c d z l=>?_;clear o;subst v z
  exact Vj (O a b c d l)
end
section
variable{e:Nat->Keyed}{m:Nat->Int}{A:Wr}{E:va->Tf->Prop}{s:Tf}{a b c d x y i j n:Nat}
theorem AD{Q:AscSt->XN->Prop}(B:jC e m)(S:1<=n)(M:n<=4)(J:Pf m n a b c d)(u:∀k,n<=k->Pf m k a b c d->(k=1->m b<m a)->(k=2->m c<m b)->(k=3->m d<m c)->Q (none,k) (cy e a b c d)):wpS (Vy Pw w) A E s (ascLoop n 4) Q (cy e a b c d):=by
 unfold ascLoop;refine wpS_forRange (I:=λk v F=>v=(none,k)/\F=cy e a b c d/\Pf m k a b c d) ?_ ?_ ⟨rfl,rfl,J⟩
 ·rintro k v F C R r;refine cK r λo p f=>?_;clear r;subst o p
  have L:k=1\/k=2\/k=3:=by lia
  rcases L with rfl|rfl|rfl
  ·refine ei f λo p N D=>?_;clear f;subst o p N D
   refine et (x:=1) (y:=0) B rfl rfl (λh=>?_) λh=>?_
   ·exact Vj<|u 1 C ⟨rfl,rfl,rfl,rfl⟩ (λH=>h) (λq=>nomatch q) λq=>nomatch q
   ·exact Vj ⟨rfl,rfl,by decide,by decide,Sr.ge h<|zd rfl,rfl,rfl⟩
  ·refine gb f λl g t D O=>?_;clear f;subst D O
   refine et (x:=2) (y:=b) B rfl rfl (λh=>?_) λh=>?_
   ·exact Vj<|u 2 C ⟨l,g,t,rfl,rfl⟩ (λq=>nomatch q) (λH=>h) λq=>nomatch q
   ·exact Vj ⟨rfl,rfl,dH l,dH g,by decide,t,Sr.ge h g,rfl⟩
  ·refine lU f λl g z t G P=>?_;clear f;subst P
   refine et (x:=3) (y:=c) B rfl rfl (λh=>?_) λh=>?_
   ·exact Vj<|u 3 C ⟨l,g,z,t,G,rfl⟩ (λq=>nomatch q) (λq=>nomatch q) λH=>h
   ·exact Vj ⟨rfl,rfl,dH l,dH g,dH z,by decide,t,G,Sr.ge h z⟩
 ·rintro v F r;refine cK r λo p f=>?_;clear r;subst o p
  rw[show max n 4=4 by lia] at f⊢;exact u 4 M f (λq=>nomatch q) (λq=>nomatch q) λq=>nomatch q
theorem Pf.le{m:Nat->Int}:∀{k a b c d:Nat},Pf m k a b c d->k<=4
 |0,_,_,_,_,h=>h.elim
 |1,_,_,_,_,_=>by decide
 |2,_,_,_,_,_=>by decide
 |3,_,_,_,_,_=>by decide
 |4,_,_,_,_,_=>by decide
 |_+5,_,_,_,_,h=>h.elim
theorem iR{Q:Option Nat->XN->Prop}(v:jC e m)(o:1<=n)(z:n<=4)(t:setArr (cy e a b c d) (mirror #[e a,e b,e c,e d] 0 n<|(n-0) / 2)=cy e f g h l)(r:Pf m n f g h l)(u:∀k a b c d,1<=k->k<=4->Pf m k a b c d->Q (some k) (cy e a b c d)):wpS (Vy Pw w) A E s (PyProof.Rows.tail3 n 4) Q (cy e a b c d):=by
 unfold PyProof.Rows.tail3;refine kg t<|V3<|AD v o z r λk hk p q q q=>Vj<|u k _ _ _ _ (SQ o hk) (Pf.le p) p
theorem wu{Q:Option Nat->XN->Prop}(f:jC e m)(p:∀k a b c d,1<=k->k<=4->Pf m k a b c d->Q (some k) (cy e a b c d)):
  ((m 3<m 0/\m 0=m 1/\m 1=m 2)->wpS (Vy Pw w) A E s (descPart 3 4) Q (cy e 2 1 0 3))/\((m 2<m 0/\m 0=m 1)->wpS (Vy Pw w) A E s (descPart 2 4) Q (cy e 1 0 2 3))/\(m 1<m 0->wpS (Vy Pw w) A E s (descPart 1 4) Q (cy e 0 1 2 3)):=by
 have h:∀{x y:Nat},¬m y<m x->¬m x<m y->m x=m y:=λz B=>Int.le_antisymm (V5.mp z)<|V5.mp B
 refine⟨λ⟨C,t,v⟩=>?_,λ⟨u,t⟩=>?_,λr=>?_⟩
 ·unfold descPart descLoop
  refine V3 (wpS_lift<|wpAny_rule ⟨rfl,?_⟩);refine V3 (iF (by decide) ?_);simp only[W6,if_false,gt_iff_lt];exact iR (n:=4) f (by decide) (by decide) (f:=3) (g:=0) (h:=1) (l:=2) rfl ⟨by decide,by decide,by decide,by decide,.inl C,.inr ⟨t,by decide⟩,.inr ⟨v,by decide⟩⟩ p
 ·unfold descPart descLoop
  refine V3 (wpS_lift<|wpAny_rule ⟨rfl,?_⟩);refine V3 (eu (by decide) ?_);refine et (x:=3) (y:=2) f rfl rfl (λg=>?_) λg=>?_
  ·rw[if_neg<|by decide]
   refine Vj (iF (by decide) ?_);exact sN (by decide)<|iR (n:=4) f (by decide) (by decide) (f:=3) (g:=2) (h:=0) (l:=1) rfl ⟨by decide,by decide,by decide,by decide,.inl g,.inl u,.inr ⟨t,by decide⟩⟩ p
  ·refine et (x:=2) (y:=3) f rfl rfl (λo=>?_) λo=>?_
   ·refine Vj ?_
    dsimp only;exact sN (by decide)<|iR (n:=3) f (by decide) (by decide) (f:=2) (g:=0) (h:=1) (l:=3) rfl ⟨by decide,by decide,by decide,.inl u,.inr ⟨t,by decide⟩,rfl⟩ p
   ·exact Vj<|iF (by decide)<|sP (by decide)<|kg (g:=1) (k:=0) (l:=3) (n:=2) rfl<|iR (n:=4) f (by decide) (by decide) (f:=2) (g:=3) (h:=0) (l:=1) rfl ⟨by decide,by decide,by decide,by decide,.inr ⟨h g o,by decide⟩,.inl<|h g o▸u,.inr ⟨t,by decide⟩⟩ p
 ·unfold descPart descLoop
  refine V3 (wpS_lift<|wpAny_rule ⟨rfl,?_⟩);refine V3 (eu (by decide) ?_);refine et (x:=2) (y:=1) f rfl rfl (λl=>?_) λl=>?_
  ·rw[if_neg<|by decide]
   refine Vj (eu (by decide) ?_);refine et (x:=3) (y:=2) f rfl rfl (λg=>?_) λg=>?_
   ·rw[if_neg<|by decide]
    refine Vj (iF (by decide) ?_);exact sN (by decide)<|iR (n:=4) f (by decide) (by decide) (f:=3) (g:=2) (h:=1) (l:=0) rfl ⟨by decide,by decide,by decide,by decide,.inl g,.inl l,.inl r⟩ p
   ·refine et (x:=2) (y:=3) f rfl rfl (λo=>?_) λo=>?_
    ·refine Vj ?_
     dsimp only;exact sN (by decide)<|iR (n:=3) f (by decide) (by decide) (f:=2) (g:=1) (h:=0) (l:=3) rfl ⟨by decide,by decide,by decide,.inl l,.inl r,rfl⟩ p
    ·exact Vj<|iF (by decide)<|sP (by decide)<|kg (g:=0) (k:=1) (l:=3) (n:=2) rfl<|iR (n:=4) f (by decide) (by decide) (f:=2) (g:=3) (h:=1) (l:=0) rfl ⟨by decide,by decide,by decide,by decide,.inr ⟨h g o,by decide⟩,.inl<|h g o▸l,.inl r⟩ p
  ·refine et (x:=1) (y:=2) f rfl rfl (λq=>?_) λq=>?_
   ·refine Vj ?_
    dsimp only;exact sN (by decide)<|iR (n:=2) f (by decide) (by decide) (f:=1) (g:=0) (h:=2) (l:=3) rfl ⟨by decide,by decide,.inl r,rfl,rfl⟩ p
   ·refine Vj<|eu (by decide)<|et (x:=3) (y:=2) f rfl rfl (λg=>?_) λg=>?_
    ·refine sP (by decide)<|kg (g:=0) (k:=2) (l:=1) (n:=3) rfl<|Vj (iF (by decide) ?_);exact sN (by decide)<|iR (n:=4) f (by decide) (by decide) (f:=3) (g:=1) (h:=2) (l:=0) rfl ⟨by decide,by decide,by decide,by decide,.inl<|h l q▸g,.inr ⟨h l q,by decide⟩,.inl<|h l q▸r⟩ p
    ·refine et (x:=2) (y:=3) f rfl rfl (λo=>?_) λo=>?_
     ·refine Vj ?_
      dsimp only;exact sP (by decide)<|kg (g:=0) (k:=2) (l:=1) (n:=3) rfl<|iR (n:=3) f (by decide) (by decide) (f:=1) (g:=2) (h:=0) (l:=3) rfl ⟨by decide,by decide,by decide,.inr ⟨h l q,by decide⟩,.inl<|h l q▸r,rfl⟩ p
     ·exact Vj<|iF (by decide)<|sP (by decide)<|kg (g:=0) (k:=3) (l:=2) (n:=1) rfl<|iR (n:=4) f (by decide) (by decide) (f:=1) (g:=2) (h:=3) (l:=0) rfl ⟨by decide,by decide,by decide,by decide,.inr ⟨h l q,by decide⟩,.inr ⟨h g o,by decide⟩,.inl<|h g o▸h l q▸r⟩ p
theorem MA{Q:Option Nat->XN->Prop}(l:jC e m)(g:∀k a b c d,1<=k->k<=4->Pf m k a b c d->Q (some k) (cy e a b c d)):wpS (Vy Pw w) A E s (countRun' 0 4) Q (cy e 0 1 2 3):=by
 have q:∀{x y:Nat},Sr m x y->¬m x<m y->m x=m y:=λv z=>v.elim (λh=>absurd h z) (·.1)
 rw[countRun0_eq];refine V3<|AD l (zd rfl) (zd rfl) ⟨rfl,rfl,rfl,rfl⟩ λk hk f r t u=>?_;match k,f with
 |4,f=>exact Vj<|g 4 _ _ _ _ (zd rfl) (zd rfl) f
 |3,f=>
  rw[if_neg<|by decide,if_pos<|by decide];refine et (x:=0) (y:=2) l rfl rfl (λh=>?_) λh=>?_
  ·exact Vj<|g 3 _ _ _ _ (zd rfl) (zd rfl) f
  ·refine kg (g:=2) (k:=1) (l:=0) (n:=3) rfl ((wu l g).1 ?_)
   refine hide λQ g=>lU f λo o o B C o=>g ?_;have D:=u rfl;unfold Sr at B C;lia
 |2,f=>
  rw[if_neg<|by decide,if_pos<|by decide];refine et (x:=0) (y:=1) l rfl rfl (λh=>?_) λh=>?_
  ·exact Vj<|g 2 _ _ _ _ (zd rfl) (zd rfl) f
  ·refine kg (g:=1) (k:=0) (l:=2) (n:=3) rfl ((wu l g).2.1 ?_)
   have p:=q f.2.2.1 h;exact⟨p▸t rfl,p⟩
 |1,f=>
  rw[if_neg<|by decide,if_neg<|by decide];exact(wu l g).2.2 (r rfl)
end
section
variable{e:Nat->Keyed}{m:Nat->Int}{A:Wr}{E:va->Tf->Prop}{s:Tf}
theorem QI{Q:Unit->XN->Prop}(g:jC e m)(l:∀a b c d p,Pf m 4 a b c d->Q () (XN.mk' oneType' #[e a,e b,e c,e d] p 7 none)):wpS (Vy Pw w) A E s sortRuns' Q (cy e 0 1 2 3):=by
 rw[sortRuns'_eq];refine V3<|wpS_get ?_;have q:minRun' 4 4 0=4:=by rw[minRun'_succ];rfl
 show wpS _ _ _ _ _ Q (cy e 0 1 2 3);generalize r:(arrOf<|cy e 0 1 2 3).size=n;have t:n=4:=r.symm;subst t;dsimp only;rw[q];refine V3<|wpS_mono (Q:=λc j=>c=(none,4)/\∃a b c d,Pf m 4 a b c d/\j=XN.mk' oneType' #[e a,e b,e c,e d] #[(0,4,0)] 7 none) (eu (zd rfl) ?_) ?_
 ·refine sN (by decide)<|V3 (MA g λk a b c d hk o f=>?_);dsimp only;by_cases h:k<4
  ·refine sP h<|V3 (wpS_lift<|wpAny_rule ⟨rfl,?_⟩);refine V3<|So g hk o f λa b c d f=>V3<|wpS_get ?_;exact V3<|wpS_modify<|Vj<|eu (zd rfl)<|sP (zd rfl)<|Vj ⟨rfl,a,b,c,d,f,rfl⟩
  ·refine sN h ?_
   have:k=4:=by exact Nat.le_antisymm ‹_› (Yh ‹_›)
   subst this;exact V3<|wpS_get<|V3<|wpS_modify<|Vj<|eu (zd rfl)<|sP (zd rfl)<|Vj ⟨rfl,a,b,c,d,f,rfl⟩
 ·rintro y j i;refine a0 i λu x=>nt x λa b c d f v=>?_;clear i;subst u v
  refine V3 (eu (zd rfl) ?_);exact V3<|wpS_get<|sP (by exact VA 1)<|Vj<|Vj<|l a b c d _ f
noncomputable def e8(m:Nat->Int)(p:Nat):List Nat->List Nat
 |[]=>[p]
 |q::r=>if m p<m q then p::q::r else q::e8 m p r
theorem px(p:Nat):∀l,(e8 m p l).Perm (p::l):=by
 intro l;induction l with
 |nil=>exact .refl _
 |cons q r a=>
  unfold e8;split
  ·exact .refl _
  ·exact((a).cons q).trans (.swap p q r)
theorem Sr.tr(d:Sr m a b)(f:Sr m b c):Sr m a c:=L5 d f
theorem uL(p:Nat):∀{l},(∀q∈l,q<p)->l.Pairwise (Sr m)->(e8 m p l).Pairwise (Sr m):=by
 intro l;induction l with
 |nil=>intro i i;exact YH _ _
 |cons q r g=>
  intro d h;refine a0 (Wf.mp h) λb f=>?_
  unfold e8;split
  ·rename_i c
   exact Wf.mpr ⟨λx a=>(bK a).elim (λe=>e▸.inl c) λy=>Sr.tr (.inl c)<|b x y,h⟩
  ·rename_i c
   exact Wf.mpr ⟨λx a=>(bK<|(px p r).mem_iff.mp a).elim (λe=>e▸Sr.ge c (d q<|.head _))<|b x,g (λx a=>d x<|.tail _ a) f⟩
theorem Gi(f:Nat->Int×SX)(a:∀i,(f i).1=m i)(p:Nat):∀l,(e8 m p l).map f=ins (f p) (l.map f):=by
 intro l;induction l with
 |nil=>exact rfl
 |cons q r b=>
  unfold e8;simp only[cc,ins,a];split
  ·rfl
  ·rw[cc,b]
theorem OT:∀a b c d:Fin 4,a≠b->a≠c->a≠d->b≠c->b≠d->c≠d->[a,b,c,d].Perm [0,1,2,3]:=by decide+kernel
theorem Sr.ne(h:Sr m a b):a≠b:=by rintro rfl;unfold Sr at h;lia
theorem Ga(f:Nat->Int×SX)(G:∀i,(f i).1=m i)(h:Pf m 4 a b c d):[f a,f b,f c,f d]=bW [f 0,f 1,f 2,f 3]:=by
 refine hide λQ z=>oP h λB C D F n j k=>z ?_;have o:=n.tr j;have t:=j.tr k;have u:=o.tr k;have L:[a,b,c,d].Pairwise (Sr m):=by simp[n,j,k,o,t,u]
 have g:∀{x y:Nat} (H:x<4) (I:y<4),Sr m x y->(⟨x,H⟩:Fin 4)≠⟨y,I⟩:=λp p h e=>h.ne<|Fin.mk.inj e
 have J:[a,b,c,d].Perm [0,1,2,3]:=(OT ⟨a,B⟩ ⟨b,C⟩ ⟨c,D⟩ ⟨d,F⟩ (g _ _ n) (g _ _ o) (g _ _ u) (g _ _ j) (g _ _ t)<|g _ _ k).map Fin.val;let l:=e8 m 3<|e8 m 2<|e8 m 1<|e8 m 0 [];have q0:(e8 m 0 []).Perm [0]:=px 0 [];have q1:(e8 m 1<|e8 m 0 []).Perm [1,0]:=(px 1 _).trans<|q0.cons 1;have q2:(e8 m 2<|e8 m 1<|e8 m 0 []).Perm [2,1,0]:=(px 2 _).trans<|q1.cons 2;have q3:l.Perm [3,2,1,0]:=(px 3 _).trans<|q2.cons 3;have M:l.Pairwise (Sr m):=uL 3 (λq h=>by have:=q2.mem_iff.mp h;simp at this;lia) (uL 2 (λq h=>by have:=q1.mem_iff.mp h;simp at this;lia)<|uL 1 (λq h=>by have:=q0.mem_iff.mp h;simp at this;lia)<|YH _ _);have e:[a,b,c,d]=l:=Xn.eq_of_pairwise (le:=Sr m) (λx y p p v w=>absurd (v.tr w) λh=>h.ne rfl) L M (J.trans<|(by decide:[0,1,2,3].Perm [3,2,1,0]).trans q3.symm);have r:=congrArg (List.map f) e;simp only[l,Gi f G] at r;exact r
end
def Pa(a t:Nat)(m:Int):Q7:=λc d N T Z b R=>ae [3,5] [N,a]<|R (H7<|.int m<|t+1) [] [] [] []
theorem G9:CK w [] [(a+4,ag [.int m<|t+1,.str s<|u+1])] [] (Vh (.ref 118) ⟨[.ref<|a+4],[]⟩) (Pa a t m):=aV 355 17 0xc27a69aba279153d0102e0ca475144
theorem Qx(c:b+40<=960)(h:(a+4,ag [.int m<|t+1,.str s<|u+1])∈Z):SP w b (.call (.ref 118) ⟨[.ref<|a+4],[]⟩) [] Z (Rv (.int m<|t+1) []):=
 G9 960 c (zd rfl) ay (aq h ax) λd f N T e=>ah ⟨rfl,rfl,rfl,rfl,rfl⟩
section
variable{b l n:Nat}{Z:Led}{a c d:Nat->Nat}{f:Nat->Int×SX}
noncomputable def cJ(f:Nat->Int×SX)(c:Nat->Nat)(i:Nat):va:=.int (f i).1<|c i+1
noncomputable def aH(a:Nat->Nat)(i:Nat):va:=.ref<|a i+4
theorem mapSeq_push:Vr (λg=>g.push x) (aa e n)=aa (e++[x]) (n+1):=by
 unfold Vr aa;have:(⟨e⟩:Array va).push x=⟨e++[x]⟩:=by simp
 simp only[this];have:((⟨e++[x]⟩:Array va).size==(⟨e⟩:Array va).size)=false:=by simp
 rw[this];rfl
theorem KW{A:Wr}{g:GB}{u:YD}{C:WU}{Q:va->Tf->Prop}{Tu:va->Tf->Prop}(TL:b+80<=960)(hh:A.handled=none)(hd:A.depth<=b)(hu:A.units<=5*b+2)(hk:KH y (kK w))(hZ:ep y Z)
  (hi:∀i,i<4->(a i+4,ag [.int (f i).1<|c i+1,.str (f i).2<|d i+1])∈Z) (D:Rep y h [(m,aa [aH a 0,aH a 1,aH a 2,aH a 3] 0)] N)
  (J:∀q s t (v:GB) n' i j k l,Pf (λi=>(f i).1) 4 i j k l->Rep y q [(m,aa [aH a i,aH a j,aH a k,aH a l] n')] s->Q .none ⟨q,v,u,t+1,C⟩):
  To (Vy Pw w) A (call (.builtin "list.sort") [.ref m] [("key",.ref 118)]) Q Tu ⟨h,g,u,T+1,C⟩:=by
 have L:=D.own (m,_)<|.head _;refine wpAny_call_entry_kw slot_list_sort (aX _ L rfl) entry_list_sort ?_<|ksk_l1 _ _;rw[ksk_t1];unfold ksk_tree;refine SU<|listItems_at L rfl ?_;have H:=D.update (i:=0) (f:=Vr λz=> #[]) rfl rfl;refine SU (Z6 L rfl ?_ (b6<|show 4<=1000 by decide) (Vc _));generalize h.update m (Vr λz=> #[])=h1 at H⊢;have Tx:=H.own (m,aa [] 1)<|.head _;refine SU<|seqEpoch_at Tx rfl<|SU (wpAny_newTuple ?_<|b6<|show 4<=1000 by decide);have S:=H.alloc (o:=ag [aH a 0,aH a 1,aH a 2,aH a 3]) rfl;refine SU<|wpAny_newList ?_<|Vc _;have U:=(S.alloc (o:=aa [] 0) rfl).fp (L':=[(m,aa [] 1),(N+1,aa [] 0)])<|.cons_cons _<|.cons _<|.cons_cons _ .slnil;have e1:(h1.push<|ag [aH a 0,aH a 1,aH a 2,aH a 3]).objs.size=N+1:=S.size;show To _ _ (X8 [_,.ref (h1.push<|ag [aH a 0,aH a 1,aH a 2,aH a 3]).objs.size]<|ksk_rest m (.ref 118) false (WB [aH a 0,aH a 1,aH a 2,aH a 3]) 1<|.ref (h1.push<|ag [aH a 0,aH a 1,aH a 2,aH a 3]).objs.size) _ _ ⟨(h1.push<|ag [aH a 0,aH a 1,aH a 2,aH a 3]).push<|aa [] 0,g,u,T+1,C⟩;rw[e1];generalize(h1.push<|ag [aH a 0,aH a 1,aH a 2,aH a 3]).push (aa [] 0)=h2 at U⊢;refine Yn ?_;unfold ksk_rest;refine bR ?_;rw[List.forIn_toArray];refine SU<|ksk_fold (λi G=>∃(q:Vm) (t:Nat) (v:GB) (e s:Nat),G=⟨q,v,u,t+1,C⟩/\Rep y q [(m,aa [] 1),(N+1,aa ((Tp i).map<|cJ f c) e)] s) _ 0 _ (qr h2 T g 0 _ rfl U) ?step ?done;case step=>
  rintro j x G hx E;refine iS E λq t v e s R B=>?_;clear E;subst R
  rw[V6] at B⊢;have hj:j<4:=(Tb.mp hx).1;have TA:x= .ref (a j+4):=by
   rcases eg hj with rfl|rfl|rfl|rfl<;>exact(WD hx).symm
  subst TA;refine bA<|wpAny_call ?_;have F:Rep y q ([]++[(m,aa [] 1),(N+1,aa ((Tp j).map<|cJ f c) e)]) s:=B;refine Qx (b:=b+1) (Z:=Z) (by lia) (hi j hj) A.in1 _ q s t v u C hh (Ve hd) (by show A.units+1<=_;exact JE ‹_›) (hk.le F.cV) (λp TB=>F.cV _ _<|hZ p TB) F.frame _ λr TQ TP TK ro h3 N3 T3 g3 hK hl TM D4=>hide λQ J=>gb hK λP TC TF TG TH=>?_;clear hK;subst P TC TF TG TH
  refine J ?_;have V:Rep y h3 [(m,aa [] 1),(N+1,aa ((Tp j).map<|cJ f c) e)] N3:=F.gu (X:=[]) (os:=[]) (new:=[]) D4;have Tz:=V.own (N+1,aa ((Tp j).map<|cJ f c) e)<|.tail _<|.head _;have TO:((Tp j).map<|cJ f c).length=j:=by rw[aM,VW]
  refine SU<|Z6 Tz rfl ?_ (b6<|show((Tp j).map<|cJ f c).length<=1000 by lia) (SQ (Th<|Zo ..)<|Vk<|b6<|show((Tp j).map<|cJ f c).length<=1000 by lia)
  ·refine Te ⟨rfl,_,T3,g3,e+1,N3,rfl,?_⟩
   have Y:=V.update (i:=1) (f:=Vr (·.push (cJ f c j))) rfl rfl;rw[mapSeq_push] at Y;rw[XD,mapA];exact Y
 case done=>
  rintro G E;refine iS E λq t v e s R B=>?_;clear E;subst R
  have Tr:=B.own (N+1,_)<|.tail _<|.head _;have M:=B.own (m,aa [] 1)<|.head _;refine SU<|listItems_at Tr rfl ?_;have Tw:keyKind' (WB [cJ f c 0,cJ f c 1,cJ f c 2,cJ f c 3])=pure oneType':=ksk_kind (kz:=[(f 0).1,(f 1).1,(f 2).1,(f 3).1]) (.cons _ _<|.cons _ _<|.cons _ _<|.cons _ _ .nil) (by show 2<=4;decide);unfold ksk_end;show To _ _ (keyKind' (WB [cJ f c 0,cJ f c 1,cJ f c 2,cJ f c 3])>>=_) _ _ _;rw[Tw];refine bP ?_;have he:jC (λi=>(cJ f c i,aH a i)) λi=>(f i).1:=λi=>cG _ _ rfl
  rw[if_neg<|show ¬((WB [aH a 0,aH a 1,aH a 2,aH a 3]).size<2) by show ¬(4<2);decide];have ez:(⟨List.map (cJ f c)<|Tp<|0+[aH a 0,aH a 1,aH a 2,aH a 3].length⟩:Array va).zip (WB [aH a 0,aH a 1,aH a 2,aH a 3])= #[(cJ f c 0,aH a 0),(cJ f c 1,aH a 1),(cJ f c 2,aH a 2),(cJ f c 3,aH a 3)]:=Array.toList_inj.mp (by rw[ksk_zip];rfl);dsimp only;rw[if_neg Vx,ez];show To _ _ (sortRuns'.run (cy (λi=>(cJ f c i,aH a i)) 0 1 2 3)>>=_) _ _ _;refine SU<|YV (QI (Q:=λz Tt=>∃i j k l p,Pf (λi=>(f i).1) 4 i j k l/\Tt=XN.mk' oneType' #[(cJ f c i,aH a i),(cJ f c j,aH a j),(cJ f c k,aH a k),(cJ f c l,aH a l)] p 7 none) he λm b Tv u p O=>qr m b Tv u p O rfl) ?_ λz z e=>e;rintro⟨⟨⟩,Tt⟩ G Ts;refine a0 Ts λP qs=>?_;refine iS qs λi j k l p O TJ=>?_;clear Ts;subst P TJ
  unfold ksk_tail;have ea:(arrOf<|XN.mk' oneType' #[(cJ f c i,aH a i),(cJ f c j,aH a j),(cJ f c k,aH a k),(cJ f c l,aH a l)] p 7 none).map (λx=>x.2)=WB [aH a i,aH a j,aH a k,aH a l]:=by
   show Array.map _ #[_,_,_,_]=_;simp
  dsimp only;rw[if_neg Vx,ea];have I:=B.update (i:=1) (f:=Vr λz=> #[]) rfl rfl;refine SU (Z6 Tr rfl ?_ (b6<|show 4<=1000 by decide) (Vc _));generalize q.update (N+1) (Vr λz=> #[])=h3 at I⊢;refine bL ?_;have M:=I.own (m,aa [] 1)<|.head _;refine SU<|seqEpoch_at M rfl<|SU (Z6 M rfl ?_ (Vc _) (Ve<|b6<|show 4<=1000 by decide));have D8:=I.update (i:=0) (f:=Vr λz=>WB [aH a i,aH a j,aH a k,aH a l]) rfl rfl;exact Te<|aX _ rfl<|J _ _ t v 2 i j k l O<|D8.fp<|.cons_cons _<|.cons _ .slnil
theorem Hv(r:b+80<=960)(Q:(l+4,aa [aH a 0,aH a 1,aH a 2,aH a 3] n)∈Z)(z:∀i,i<4->(a i+4,ag [.int (f i).1<|c i+1,.str (f i).2<|d i+1])∈Z):
  SP w b (.builtin "sorted" ⟨[.ref<|l+4],[("key",.ref 118)]⟩) [] Z (Dl Z ((bW [f 0,f 1,f 2,f 3]).map item) []):=by
 refine SP.kN entry_sorted (by decide+kernel) λA M h N T g v E R P t hu hk y D I=>aw D.d3 λq Y=>?_;subst Y
 have V:h.objs.size=q+4:=D.size;unfold Tj.«sorted»;refine SU (m:=checkCount "sorted" 1 1 _)<|Te ?_;have S:h.get? (l+4)=some (aa [aH a 0,aH a 1,aH a 2,aH a 3] n):=D.keep _ _<|y _ Q;have U:Vm.IsList h (l+4) (WB [aH a 0,aH a 1,aH a 2,aH a 3]):=aY _ S rfl (aB n rfl);refine SU (collect_list (s:=⟨h,g,v,T+1,E⟩) U ?_<|b6<|show 4<=1000 by decide);have e:=(D.alloc (o:=aa [] 0) rfl).update (i:=0) (f:=Vr (· ++WB [aH a 0,aH a 1,aH a 2,aH a 3])) rfl rfl;replace e:Rep M ((h.push<|aa [] 0).update h.objs.size (Vr (· ++WB [aH a 0,aH a 1,aH a 2,aH a 3]))) [(q+4,aa [aH a 0,aH a 1,aH a 2,aH a 3] 1)] (q+5):=by rw[V];exact e
 show To _ _ _ _ _ ⟨(h.push<|aa [] 0).update h.objs.size (Vr (· ++WB [aH a 0,aH a 1,aH a 2,aH a 3])),g,v,T+1,E⟩;generalize(h.push<|aa [] 0).update h.objs.size (Vr (· ++WB [aH a 0,aH a 1,aH a 2,aH a 3]))=p at e⊢;refine SU (wpAny_newList ?_<|b6<|show 4<=1000 by decide);have G:=(e.alloc (o:=aa [aH a 0,aH a 1,aH a 2,aH a 3] 0) rfl).fp (L':=[(q+5,aa [aH a 0,aH a 1,aH a 2,aH a 3] 0)])<|.cons _<|.cons_cons _ .slnil;have H:p.objs.size=q+5:=e.size;show To _ _ (X8 [.ref p.objs.size] (call (.builtin "list.sort") [.ref p.objs.size] [("key",.ref 118)])>>=λu=>ret<|.ref p.objs.size) _ _ _;rw[H];refine bH (KW (A:=A.in1) r P t (by show A.units+1<=_;lia) hk y z G λh' N' T' g' C i j k l B F=>?_);refine Te ?_;show R (H7<|.ref<|q+5) _;refine I _ [] [] [(q+5,aa [aH a i,aH a j,aH a k,aH a l] C)] [] _ _ _ _ ⟨q+1,_,_,rfl,rfl,rfl,rfl,.head _,?_⟩ rfl (λu q=>nomatch q) F;rw[<-Ga f (λu=>rfl) B];refine hide λTr J=>gb B λL r O t u=>J ?_;have one:∀x,x<4->Tells ([(q+5,aa [aH a i,aH a j,aH a k,aH a l] C)]++Z) (aH a x) (item<|f x):=λx h=>(Tells.ng<|z x h).more
 exact .cons (one _ L) (.cons (one _ r)<|.cons (one _ O)<|.cons (one _ t) .nil)
end
abbrev iz:Wq:=bJ (b4 135) 2
abbrev lE:Wq:=bJ (cR iz) 3
abbrev c5:Expr:=bh 0<|bh 0<|bM<|bJ (cR iz) 1
abbrev dc:Expr:=bM<|bJ (cR iz) 2
abbrev dw:Expr:=bM<|bJ (cR iz) 4
structure cB where
 fa:Nat
 lo:Nat
 ca:Nat
 pc:Nat
 cl:Nat
 k0:Nat
 k1:Nat
 k2:Nat
 k3:Nat
 k4:Nat
 k5:Nat
 k6:Nat
 tw:Nat
 on:Nat
 lI:Nat
 mf:Nat
 v0:va
 v4:va
 aD:SX
 eo:List SS
 gi:List SS
def lu(X:cB)(a:va):List SS:=[ent "line" X.k0 a,ent "calls" X.k1<|.ref<|X.cl+4,ent "logs" X.k2<|.ref<|X.lo+4,ent "called" X.k3<|.ref<|X.ca+4]
def kR(X:cB):List SS:=lu X X.v0++[ent "share" X.k4 X.v4,ent "who" X.k5<|.str X.aD<|X.tw+1,ent "one" X.k6<|.ref<|X.on+4]
def hM(X:cB):Zb:=dC 135 (X.fa+4) [("picked",X.pc+4)]
def ub(X:cB)(d j i e a t c q A B C D:Nat)(h g:List va)(s:SX)(p u v x y:S9)(E:Nat->Nat):Q7:=λl m N T Z b R=>ae [2] [d]<|rG (bi "list_iterator.__next__" [.ref<|d+4]) [(d+4,aF j i)] Z (.str s<|e+1) (∀G T5:Nat,ae [4,4] [X.fa,X.lo]<|jH (bi "dict.__getitem__" [.ref<|X.lo+4,.str s<|e+1]) [] Z (.ref<|a+4) (∀f J:Nat,ae [4,2,1] [a,X.fa,a] ((((a+4)=(a+4))/\(Tn h<=VZ))/\∀F L:Nat,ae [2,4] [X.fa,X.ca]<|jH (bi "dict.__getitem__" [.ref<|X.ca+4,.str X.aD<|X.tw+1]) [] Z (.ref<|c+4) (∀H M:Nat,ae [4,1,1] [c,X.fa,c] ((((c+4)=(c+4))/\(Tn g<=VZ))/\∀I O:Nat,SP (br l m w) b (aS lE (.ref<|d+4)<|hM X) [(X.fa+4,ao [ent "line" X.k0 X.v0,ent "calls" X.k1<|.ref<|X.cl+4,ent "logs" X.k2<|.ref<|X.lo+4,ent "called" X.k3<|.ref<|X.ca+4,ent "share" X.k4 X.v4,ent "who" X.k5<|.str X.aD<|X.tw+1,ent "one" X.k6<|.ref<|X.on+4,ent "name" (E T5)<|.str s<|e+1] 8),(d+4,aF j<|i+1),(X.pc+4,p),(a+4,aa (h++[.ref<|f+4])<|t+1),(A+4,u),(B+4,v),(C+4,x),(c+4,aa (g++[.str s<|e+1])<|q+1),(D+4,y)] ([(f+4,ag [.str X.aD<|X.tw+1,.ref<|X.on+4])]++Z) λr o n k z=>R r o n (k++[(f+4,ag [.str X.aD<|X.tw+1,.ref<|X.on+4])]) z)))))
noncomputable def BC:Nat:=0xfb998d936a065c3189a495eb013b41cf048aee22bb716ff97fab6a10e6d960a
theorem PV(X:cB)(c d i v o a h b f p q r u:Nat)(x j g:List va)(s:SX)(e k l m n:S9):CK w [(X.fa+4,ao (kR X) 7),(c+4,aF d i),(X.pc+4,e),(a+4,aa j h),(p+4,k),(q+4,l),(r+4,m),(b+4,aa g f),(u+4,n)] [(X.lo+4,ab X.eo X.lI),(X.ca+4,ab X.gi X.mf),(d+4,aa x v)] [pg<|.str s<|o+1,jx<|.ref<|a+4,jx<|.ref<|b+4,jN] (aS lE (.ref<|c+4)<|hM X) (ub X c d i o a h b f p q r u j g s e k l m n λt=>t):=aV 23 56 BC
theorem Ek(X:cB)(c d i v p a j b f q r t u h:Nat)(x k g:List va)(s:SX)(y:va)(e l m n o:S9):CK w [(X.fa+4,ao (kR X++[ent "name" h y]) 8),(c+4,aF d i),(X.pc+4,e),(a+4,aa k j),(q+4,l),(r+4,m),(t+4,n),(b+4,aa g f),(u+4,o)] [(X.lo+4,ab X.eo X.lI),(X.ca+4,ab X.gi X.mf),(d+4,aa x v)] [pg<|.str s<|p+1,jx<|.ref<|a+4,jx<|.ref<|b+4,jN] (aS lE (.ref<|c+4)<|hM X) (ub X c d i p a j b f q r t u k g s e l m n o λz=>h):=aV 23 56 BC
def Kq(a o i h d:Nat)(j e:List va)(c k l m n:S9)(g:S9):Q7:=λq r N T Z b R=>ae [2] [a]<|mK (bi "list_iterator.__next__" [.ref<|a+4]) [(a+4,aF o i)] Z (λf=>∀p T5:Nat,ae [1] [f+1]<|R (.ok .next) [g,litE i,c,aa j h,k,l,m,aa e d,n] [] [] [])
theorem Ku(X:cB)(a b i p n g o d r s t u:Nat)(q h e:List va)(c j k l m:S9)(f:S9):CK w [(X.fa+4,f),(a+4,aF b i),(X.pc+4,c),(n+4,aa h g),(r+4,j),(s+4,k),(t+4,l),(o+4,aa e d),(u+4,m)] [(X.lo+4,ab X.eo X.lI),(X.ca+4,ab X.gi X.mf),(b+4,aa q p)] [qp] (aS lE (.ref<|a+4)<|hM X) (Kq a b i g d h e c j k l m f):=aV 32 12 0x1f0840220080
structure b8 where
 lg:SX->List (SX×R4)
 cd:SX->List SX
def kx(a:SX)(one:R4)(s:b8)(x:SX):b8:=⟨bG s.lg x<|s.lg x++[(a,one)],bG s.cd a<|s.cd a++[x]⟩
def eV(b:SX)(one:R4)(a:List SX)(s:b8):b8:=a.foldl (kx b one) s
def fX(Z:Led)(a:List (SX×Nat))(c:SX->List va)(b:SX->List (SX×R4)):Prop:=∀p∈a,fh Z (c p.1)<|b p.1
def fS(Z:Led)(b:List (SX×Nat))(c:SX->List va)(a:SX->List SX):Prop:=∀p∈b,ak Z (c p.1)<|(a p.1).map .str
theorem fX.sub{c:SX->List va}{b:SX->List (SX×R4)}(h:fX Z a c b)(s:∀p∈Z,p∈Z'):fX Z' a c b:=λp q=>(h p q).sub s
theorem fS.sub{c:SX->List va}{b:SX->List SX}(h:fS Z a c b)(s:∀p∈Z,p∈Z'):fS Z' a c b:=λp q=>(h p q).sub s
theorem fX.upd{b:SX->List va}{a:SX->List (SX×R4)}{e:SX×R4}(h:fX Z c b a)(f:fh Z (b x) (a x))(d:ow Z v e):fX Z c (bG b x<|b x++[v]) (bG a x<|a x++[e]):=λp q=>by
 dsimp only[bG];split
 ·exact f.app<|.cons d .nil
 ·exact h p q
theorem fS.upd{b:SX->List va}{a:SX->List SX}(h:fS Z c b a)(f:ak Z (b x) ((a x).map .str))(d:Tells Z v (.str e)):fS Z c (bG b x<|b x++[v]) (bG a x<|a x++[e]):=λp q=>by
 dsimp only[bG];split
 ·rw[mapA];exact f.app<|.cons d .nil
 ·exact h p q
theorem NU{B Z:Led}{j n k o:List (SX×Nat)}{t s:SX->List va}{ne q:SX->Nat}{P:Vz->List S9->Led->Led->Led->(SX->List va)->(SX->List va)->Prop}
  (u:k.Perm j) (v:o.Perm n) (h:SP w b c (B++bZ k t ne++bZ o s q) Z λr p l F m=>∃a e g d i,a.length=B.length/\p=a++c7 k e g++c7 o d i/\P r a l F m e d):
  SP w b c (B++bZ j t ne++bZ n s q) Z λr p l F m=>∃a e g d i,a.length=B.length/\p=a++c7 j e g++c7 n d i/\P r a l F m e d:=by
 refine SP.perm (L':=B++bZ k t ne++bZ o s q) (((Xp _).append<|u.map _).append<|v.map _) h ?_;rintro r A l F m C x;refine xf x λa e g d i f z y=>?_;clear x;subst z
 refine(aY (a++c7 j e g++c7 n d i) (by simp[c7,bZ,f]) ?_<|oY a e g d i f rfl y);rw[jt _ _ _ _<|by simp[c7,bZ,f],jt _ _ _ _ f,jt _ _ _ _<|by simp[c7,bZ,f],jt _ _ _ _ f,kI,kI,kI,kI];exact((Xp _).append (u.map _).symm).append (v.map _).symm
theorem rv{a:Type}{f:SX->List a}(x:SX)(e:a)(y:SX)(h:∀y,(f y).length<=B):(bG f x (f x++[e]) y).length<=B+1:=by
 unfold bG;split
 ·rw[Vd];exact Vk<|h x
 ·exact Ve<|h y
def Pm(X:cB)(a:S9):Prop:=a=ao (kR X) 7\/∃t v,a=ao (kR X++[ent "name" t v]) 8
def md(X:cB)(Z:Led)(e p f q:List (SX×Nat))(h g:S9)(j:List SX)(s:b8):aU:=λr l n F m=>∃a d k c o,a.length=3/\l=a++c7 f d k++c7 q c o/\
 (r= .ok .next/\n=[]/\m=[])/\(∃b i,a=[b,i,g]/\((j=[]/\b=h)\/∃t v,b=ao (kR X++[ent "name" t v]) 8))/\fX (F++Z) e d s.lg/\fS (F++Z) p c s.cd
abbrev RH(X:cB)(Z:Led)(a b:List (SX×Nat))(d c:S9)(e:List SX)(s:b8):aU:=md X Z a b a b d c e s
structure q6(Z:Led)(X:cB)(bs ts:List (SX×Nat))(q:R4):Prop where
 lo:(X.lo+4,ab X.eo X.lI)∈Z
 lk:StrKeys X.eo
 lf:∀p∈bs,bY p.1 X.eo=some (.ref<|p.2+4)
 ca:(X.ca+4,ab X.gi X.mf)∈Z
 ck:StrKeys X.gi
 cf:∀p∈ts,bY p.1 X.gi=some (.ref<|p.2+4)
 on:∃q0 q1 q2 q3,(X.on+4,ag [.int q.a<|q0+1,.int q.b<|q1+1,.int q.c<|q2+1,.int q.d<|q3+1])∈Z
theorem q6.up(h:q6 Z X a b q)(s:∀p∈Z,p∈Z')(c:∀p∈bs',p∈a)(d:∀p∈ts',p∈b):q6 Z' X bs' ts' q:=
 ⟨s _ h.lo,h.lk,λp q=>h.lf p<|c p q,s _ h.ca,h.ck,λp q=>h.cf p<|d p q,by refine iX h.on λq0 q1 q2 q3 h=>?_;exact jy q0 q1 q2 q3<|s _ h⟩
section
variable{b c d g:Nat}{X:cB}{q:R4}{e:List va}{f:List SX}{a:S9}
theorem K3(hb:b+40<=960):∀(m:List SX) (i:Nat) (H:S9) (j l:SX->List va) (ne D:SX->Nat) (Z:Led) (E F:List (SX×Nat)) (s:b8) (Q:Nat),
  q6 Z X E F q->f.drop i=m->i<=f.length->ak Z e (f.map .str)->(d+4,aa e g)∈Z->E.length=4->F.length=2->(E.map (·.1)).Nodup->(F.map (·.1)).Nodup->(∀x∈m,∃R,(x,R)∈E)->(∃R,(X.aD,R)∈F)->
  Pm X H->fX Z E j s.lg->fS Z F l s.cd->(∀x,(s.lg x).length<=Q/\(s.cd x).length<=Q)->Q+m.length<=900->
  SP w b (aS lE (.ref<|c+4)<|hM X) ([(X.fa+4,H),(c+4,aF d i),(X.pc+4,a)]++bZ E j ne++bZ F l D) Z (RH X Z E F H a m<|eV X.aD q m s):=by
 intro m;induction m with
 |nil=>
  intro i H j l ne D Z E F s Q C V hi hp O Tx Tz _ _ _ _ TL Tr Y _ _;obtain⟨p0,n,t,v⟩:=ib Tx;obtain⟨r0,A⟩:=p7 Tz;refine Ku X c d i g p0.2 (ne p0.1) r0.2 (D r0.1) n.2 t.2 v.2 A.2 e (j p0.1) (l r0.1) a (aa (j n.1)<|ne n.1) (aa (j t.1)<|ne t.1) (aa (j v.1)<|ne v.1) (aa (l A.1)<|D A.1) H 960 hb (zd rfl) (aj se ay) (aq C.lo<|aq C.ca<|aq O ax) λJ L Tt Tu T=>?_
  have:=Xh.mp V;exact ah ⟨_,_,_,_,_,rfl,rfl,O,by rw[hp.len,aM];exact this,λx k k=>ah<|Cq [H,_,a] j ne l D rfl rfl ⟨rfl,rfl,rfl⟩ (cA H _ rfl (.inl ⟨rfl,rfl⟩)) (Tr.sub λp q=>az q) (Y.sub λp q=>az q)⟩
 |cons x m ih=>
  intro i H j l ne D Z E F s Q C V hi hp O Tx Tz T4 T5 TO T8 TL Tr Y U Tv;refine hide λGq Tw=>aw (TO x<|.head _) λI TH=>aw T8 λG TJ=>dB (tE TH) λrb S lb mb=>dB (tE TJ) λrt pt lt mt=>Tw<|(NU (B:=[(X.fa+4,H),(c+4,aF d i),(X.pc+4,a)]) (P:=λr bo Ud TF ro TC TB=>(r= .ok .next/\Ud=[]/\ro=[])/\(∃M c,bo=[M,c,a]/\((x::m=[]/\M=H)\/∃TA Ts,M=ao (kR X++[ent "name" TA Ts]) 8))/\fX (TF++Z) E TC (eV X.aD q (x::m) s).lg/\fS (TF++Z) F TB (eV X.aD q (x::m) s).cd) S pt ?_).mono ar (λk q=>q) λk k k k k k h k=>h
  have TQ:∀p∈(x,I)::rb,p∈E:=λp h=>S.mem_iff.mp h
  have TR:∀p∈(X.aD,G)::rt,p∈F:=λp h=>pt.mem_iff.mp h
  have TU:(((x,I)::rb).map (·.1)).Nodup:=(S.map _).nodup_iff.mpr T4;have TV:(((X.aD,G)::rt).map (·.1)).Nodup:=(pt.map _).nodup_iff.mpr T5;have Ub:∀p∈rb,p.1≠x:=λp h z=>by have y:=U9 (f:=λx:SX×Nat=>x.1) h;rw[z] at y;exact(Vs.mp TU).1 y
  have Uc:∀p∈rt,p.1≠X.aD:=λp h z=>by have y:=U9 (f:=λx:SX×Nat=>x.1) h;rw[z] at y;exact(Vs.mp TV).1 y
  have C':=C.up (Z':=Z) (bs':=(x,I)::rb) (ts':=(X.aD,G)::rt) (λp h=>h) TQ TR;have be:fh Z (j x) (s.lg x):=Tr _ TH;have te:ak Z (l X.aD) ((s.cd X.aD).map .str):=Y _ TJ;refine hide λGq Tw=>?_
  obtain⟨n,t,v⟩:=kd<|Zt<|lb.trans Tx;obtain⟨A⟩:=mi<|Zt<|lt.trans Tz;have TP:f[i]?=some x:=by have:=congrArg (·[0]?) V;simpa using this
  have T3:=(Tb.mp TP).1;refine aI (hp.get (i:=i) (d:=.str x)<|by rw[Vi,TP];rfl) λTs hv T7=>aw T7.str_inv λu Ue=>?_;subst Ue
  have T2:f.drop (i+1)=m:=by rw[<-XZ,V];rfl
  have l1:(j x).length<=900:=by rw[be.len];exact BH Tv (U x).1
  have l2:(l X.aD).length<=900:=by rw[te.len,aM];exact BH Tv (U X.aD).2
  refine iX C.on λq0 q1 q2 q3 T6=>Tw ?_;have TG:∀(J L:Bool) (M:S9) (N:Nat),br J L w=w->(∃TA Ts,M=ao (kR X++[ent "name" TA Ts]) 8)->
    SP (br J L w) b (aS lE (.ref<|c+4)<|hM X) ([(X.fa+4,M),(c+4,aF d<|i+1),(X.pc+4,a)]++((I+4,aa (j x++[.ref<|N+4])<|ne x+1)::bZ [n,t,v] j ne)++((G+4,aa (l X.aD++[.str x<|u+1])<|D X.aD+1)::bZ [A] l D)) ([(N+4,ag [.str X.aD<|X.tw+1,.ref<|X.on+4])]++Z)
     λr o TS F' ro=>md X Z E F ((x,I)::[n,t,v]) ((X.aD,G)::[A]) H a (x::m) (eV X.aD q (x::m) s) r o TS (F'++[(N+4,ag [.str X.aD<|X.tw+1,.ref<|X.on+4])]) ro:=by
   intro J L M N T TM;rw[T,<-rz Ub,<-rz Uc];have up:∀p∈Z,p∈[(N+4,ag [.str X.aD<|X.tw+1,.ref<|X.on+4])]++Z:=λp h=>.tail _ h
   have z:=ih (i+1) M (bG j x<|j x++[.ref<|N+4]) (bG l X.aD<|l X.aD++[.str x<|u+1]) (bG ne x<|ne x+1) (bG D X.aD<|D X.aD+1) _ ((x,I)::[n,t,v]) ((X.aD,G)::[A]) (kx X.aD q s x) (Q+1)
    (C'.up up (λp h=>h) λp h=>h) T2 T3 (hp.sub up) (up _ O) rfl rfl TU TV (λy hy=>by refine aw (TO y<|.tail _ hy) λR h=>?_;exact⟨R,S.mem_iff.mpr h⟩) ⟨G,.head _⟩ (.inr TM)
    (fX.upd (λp h=>(Tr p<|TQ p h).sub up) (be.sub up) ⟨N,X.tw,X.on,q0,q1,q2,q3,rfl,.head _,up _ T6⟩) (fS.upd (λp h=>(Y p<|TR p h).sub up) (te.sub up)<|.str _ _)
    (λy=>⟨rv x _ y λz=>(U z).1,rv X.aD _ y λz=>(U z).2⟩) (Rm Tv)
   refine z.mono ar (λk q=>q) ?_;rintro r o TS F' ro k TX k;refine zt TX λbo TC Ua TB Ui hl Ug h1 Uh h3 h4=>?_;clear TX;subst Ug;obtain⟨T1,T9,rfl,h2⟩:=Uh
   refine Cq _ TC Ua TB Ui hl rfl h1 (cA T1 T9 rfl (.inr<|h2.elim (λh=>h.2▸TM) id)) (λp h=>(h3 p<|S.mem_iff.mpr h).sub mR) (λp h=>(h4 p<|pt.mem_iff.mpr h).sub mR)
  have TK:∀X∈[pg<|.str x<|u+1,jx<|.ref<|I+4,jx<|.ref<|G+4,jN],aA.Ok w 960 X:=aj BA<|aj pK<|aj pK<|aj pH ay;show SP w b _ _ Z (md X Z E F ((x,I)::[n,t,v]) ((X.aD,G)::[A]) H a (x::m)<|eV X.aD q (x::m) s);generalize md X Z E F ((x,I)::[n,t,v]) ((X.aD,G)::[A]) H a (x::m) (eV X.aD q (x::m) s)=TZ at TG⊢;have go:∀(κ:Nat->Nat) (J L:Bool) (Tt Tu:Nat),br J L w=w->ub X c d i u I (ne x) G (D X.aD) n.2 t.2 v.2 A.2 (j x) (l X.aD) x a (aa (j n.1)<|ne n.1) (aa (j t.1)<|ne t.1) (aa (j v.1)<|ne v.1) (aa (l A.1)<|D A.1) κ J L Tt Tu Z b TZ:=λκ J L Tt Tu T=>ah ⟨_,_,_,_,_,rfl,rfl,O,hv,λk Uj=>ah ⟨X.lo,x,_,X.eo,X.lI,rfl,C.lk,.inr ⟨rfl,C.lo⟩,C'.lf _<|.head _,λTY k=>ah ⟨⟨rfl,b6<|SQ l1<|zd rfl⟩,λk k=>ah ⟨X.ca,X.aD,_,X.gi,X.mf,rfl,C.ck,.inr ⟨rfl,C.ca⟩,C'.cf _<|.head _,λk k=>ah ⟨⟨rfl,b6<|SQ l2<|zd rfl⟩,λk k=>TG J L _ TY T<|cG _ _ rfl⟩⟩⟩⟩⟩
  rcases TL with rfl|⟨t7,v7,rfl⟩
  ·exact PV X c d i g u I (ne x) G (D X.aD) n.2 t.2 v.2 A.2 e (j x) (l X.aD) x a (aa (j n.1)<|ne n.1) (aa (j t.1)<|ne t.1) (aa (j v.1)<|ne v.1) (aa (l A.1)<|D A.1) 960 hb (zd rfl) TK (aq C.lo<|aq C.ca<|aq O ax)<|go _
  ·exact Ek X c d i g u I (ne x) G (D X.aD) n.2 t.2 v.2 A.2 t7 e (j x) (l X.aD) x v7 a (aa (j n.1)<|ne n.1) (aa (j t.1)<|ne t.1) (aa (j v.1)<|ne v.1) (aa (l A.1)<|D A.1) 960 hb (zd rfl) TK (aq C.lo<|aq C.ca<|aq O ax)<|go _
end
noncomputable def B2(h:List SS):List SS:=match h with
 |a::b::c::d::e::f::g::_=>[a,b,c,d,e,f,g]
 |_=>[]
def ji(sub:Led)(k:Nat):S9:=match sub.drop k with
 |(_,o)::_=>o
 |[]=>ag []
inductive Ib(sub:Led)(k:Nat->va->S9->S9->S9->S9->S9->S9->S9->Led->Prop)(r:Vz)(objs:List S9)(new F ro:Led):Prop
 |mk (h0:r= .ok .next/\new=[]/\ro=[]) (t v it o0 a b c d o5) (h1:objs=[ao (B2 (b9 sub)++[ent "name" t v]) 8,it,ji sub 2,o0,a,b,c,d,o5]) (h2:k t v it o0 a b c d o5 F)
inductive uD(b0:Nat)(c:Td)(sub Z:Led)(k:Nat->va->S9->S9->S9->S9->S9->S9->S9->Led->Prop):Prop
 |mk (gv:aU) (h0:SP w b0 c sub Z gv) (h1:∀r objs new F ro,gv r objs new F ro->Ib sub k r objs new F ro):uD b0 c sub Z k
def ry(b:Nat):aA:=λc sub Z a=>uD b c sub Z λt v d e f g h i j F=>a 0 (.ok .next) [ao (B2 (b9 sub)++[ent "name" t v]) 8,d,ji sub 2,e,f,g,h,i,j] [] F []
theorem HL(e:b<=a):(ry a).Ok w b:=by
 rintro c sub Z g ⟨i,h,H⟩;refine h.mono e (λd q=>q) ?_;rintro r u k F x d f d;obtain⟨⟨rfl,rfl,rfl⟩,t,v,j,l,m,n,o,p,s,rfl,hk⟩:=H _ _ _ _ _ f;exact⟨0,hk⟩
def OQ(u v:Bool)(Z:Led)(b:Nat)(R:aU)(X:cB)(q i O P Q S T U x y z B:Nat)(A:List SS)(C D E F G H:S9)(d:Int)(L:Nat)(N:SX)(M I m:Nat)(h e:Led)(j k:Nat)(f:Led)(c:Nat)(g:Led)(a:Nat):Prop:=ae [2,3,3,5,1,2,1,1,3,2] [c+2,X.pc,c+1,a,c+1,a,a+2,X.fa,m,a+3]<|mG 700 (S0 dw 0 (.ref<|a+7) (.ref<|a+8)<|au 135 (X.fa+4) (a+9) (aQ dw ["picked"]) [("picked",X.pc+4)]) [(a+9,ab [] 0),(a+8,aa [] 0),(a+7,av "list_iterator" [.ref<|m+4,.int 0 0]),(X.pc+4,af<|.ref<|c+5)] (([(c+5,aa [] 0)]++(g++(f++([(j+4,av "slice" [.int (4-d)<|k+2,.none,.none])]++(e++(h++[]))))))++Z) "need" "name" (λTs Tv Tt Tu s p Tr l=>∀V Y:Nat,ae [2,6] [X.fa,a+5]<|SP (br u v w) b (aS iz (.ref<|q+4)<|hM X) [(X.fa+4,ao (ent "line" X.k0 (.ref<|a+8)::ent "calls" X.k1 (.ref<|X.cl+4)::ent "logs" X.k2 (.ref<|X.lo+4)::ent "called" X.k3 (.ref<|X.ca+4)::ent "share" x (.int d<|L+1)::ent "who" y (.str N<|M+1)::ent "one" z (.ref<|I+4)::([]++A)) B),(X.pc+4,af<|.ref<|c+5),(q+4,aF (X.cl)<|i+1),(O+4,C),(P+4,D),(Q+4,E),(S+4,F),(T+4,G),(U+4,H)] (([(a+8,aa s p)]++(l++([(c+5,aa [] 0)]++(g++(f++([(j+4,av "slice" [.int (4-d)<|k+2,.none,.none])]++(e++(h++[]))))))))++Z) λr o n t J=>R r o n (t++([(a+8,aa s p)]++(l++([(c+5,aa [] 0)]++(g++(f++([(j+4,av "slice" [.int (4-d)<|k+2,.none,.none])]++(e++(h++[]))))))))) J)
def Ei(V Y:Bool)(Z:Led)(b:Nat)(R:aU)(X:cB)(S i A B C D E F s t u J:Nat)(I:List SS)(L M N O P Q:S9)(d:Int)(x:Nat)(z:SX)(y v m:Nat)(h e:Led)(j l:Nat)(f:Led)(a:Nat)(p:List va)(n:Nat)(g:Led)(k:Nat):Prop:=ae [6,3,3,1] [a+2,X.pc,a+1,k]<|uD 700 (aS lE (.ref<|k+4)<|dC 135 (X.fa+4) [("picked",X.pc+4)]) [(X.fa+4,ao (ent "line" X.k0 (.ref<|m+4)::ent "calls" X.k1 (.ref<|X.cl+4)::ent "logs" X.k2 (.ref<|X.lo+4)::ent "called" X.k3 (.ref<|X.ca+4)::ent "share" s (.int d<|x+1)::ent "who" t (.str z<|y+1)::ent "one" u (.ref<|v+4)::([]++I)) J),(k+4,av "list_iterator" [.ref<|a+5,.int 0 0]),(X.pc+4,af<|.ref<|a+5),(A+4,L),(B+4,M),(C+4,N),(D+4,O),(E+4,P),(F+4,Q)] (([(a+5,aa p n)]++(g++(f++([(j+4,av "slice" [.int (4-d)<|l+2,.none,.none])]++(e++(h++[]))))))++Z) (λTz TA TG Ts Tt Tu Tv Tw Tx q=>∀c TC:Nat,ae [1,3,2] [X.fa,m,c]<|mG 700 (S0 dw 0 (.ref<|c+4) (.ref<|c+5)<|au 135 (X.fa+4) (c+6) (aQ dw ["picked"]) [("picked",X.pc+4)]) [(c+6,ab [] 0),(c+5,aa [] 0),(c+4,av "list_iterator" [.ref<|m+4,.int 0 0]),(X.pc+4,ji [(X.fa+4,ao (ent "line" X.k0 (.ref<|m+4)::ent "calls" X.k1 (.ref<|X.cl+4)::ent "logs" X.k2 (.ref<|X.lo+4)::ent "called" X.k3 (.ref<|X.ca+4)::ent "share" s (.int d<|x+1)::ent "who" t (.str z<|y+1)::ent "one" u (.ref<|v+4)::([]++I)) J),(k+4,av "list_iterator" [.ref<|a+5,.int 0 0]),(X.pc+4,af<|.ref<|a+5),(A+4,L),(B+4,M),(C+4,N),(D+4,O),(E+4,P),(F+4,Q)] 2)] ((q++([(a+5,aa p n)]++(g++(f++([(j+4,av "slice" [.int (4-d)<|l+2,.none,.none])]++(e++(h++[])))))))++Z) "need" "name" (λTJ TM TK TL T H TH G=>∀TB TF:Nat,ae [2,6] [X.fa,c+2]<|SP (br V Y w) b (aS iz (.ref<|S+4)<|hM X) [(X.fa+4,ao [ent "line" X.k0<|.ref<|c+5,ent "calls" X.k1<|.ref<|X.cl+4,ent "logs" X.k2<|.ref<|X.lo+4,ent "called" X.k3<|.ref<|X.ca+4,ent "share" s<|.int d<|x+1,ent "who" t<|.str z<|y+1,ent "one" u<|.ref<|v+4,ent "name" Tz TA] 8),(X.pc+4,af<|.ref<|a+5),(S+4,aF (X.cl)<|i+1),(A+4,Ts),(B+4,Tt),(C+4,Tu),(D+4,Tv),(E+4,Tw),(F+4,Tx)] (([(c+5,aa T H)]++(G++(q++([(a+5,aa p n)]++(g++(f++([(j+4,av "slice" [.int (4-d)<|l+2,.none,.none])]++(e++(h++[])))))))))++Z) λr o Tr U ro=>R r o Tr (U++([(c+5,aa T H)]++(G++(q++([(a+5,aa p n)]++(g++(f++([(j+4,av "slice" [.int (4-d)<|l+2,.none,.none])]++(e++(h++[])))))))))) ro))
def xl(C D:Bool)(Z:Led)(b:Nat)(R:aU)(X:cB)(F i G H I J L M l m n p:Nat)(o:List SS)(S:Option va)(q r s t u v:S9)(f:Int)(x:Nat)(z:SX)(y w d:Nat)(e:Led)(a:Nat):Prop:=ae [3,3,2] [X.fa,d,a]<|mG 700 (S0 c5 0 (.ref<|a+4) (.ref<|a+5)<|au 135 (X.fa+4) (a+6) (aW c5) []) [(a+6,ab [] 0),(a+5,aa [] 0),(a+4,av "list_iterator" [.ref<|d+4,.int 0 0])] ((e++[])++Z) "need" "name" (λTG TP TK TM V T TB g=>∀Tr Tt:Nat,ae [6] [a+2]<|jb (bi "len" [.ref<|a+5]) [(a+5,aa V T)] ((g++(e++[]))++Z) (λE=>∀TH:Xi,∀Ts Tu:Nat,ae [1] [X.fa]<|((((SR E):Int)<f)->∀A Tv:Nat,ae [3] [X.fa]<|R (H7<|.ref<|A+4) [ao (ent "line" X.k0 (.ref<|d+4)::ent "calls" X.k1 (.ref<|X.cl+4)::ent "logs" X.k2 (.ref<|X.lo+4)::ent "called" X.k3 (.ref<|X.ca+4)::ent "share" l (.int f<|x+1)::ent "who" m (.str z<|y+1)::ent "one" n (.ref<|w+4)::([]++o)) p,({cls:=.type "cell",dict:=none,data:=.cell S,slots:=⟨[]⟩}:S9),aF (X.cl)<|i+1,q,r,s,t,u,v] [] ([(A+4,ag [.bool false,.ref<|d+4,.ref<|X.lo+4,.ref<|X.ca+4])]++(g++(e++[]))) [])/\((¬(((SR E):Int)<f))->∀h j:Nat,ae [2,4] [X.fa,d]<|fQ 700 (bi "list.__getitem__" [.ref<|d+4,.ref<|h+4]) [] (([(h+4,av "slice" [.int (4-f)<|j+2,.none,.none])]++(g++(e++[])))++Z) (λB TR TA k=>∀c Tw:Nat,ae [3,2] [B,c]<|nQ 700 (S0 dc 0 (.ref<|c+4) (.ref<|c+5)<|au 135 (X.fa+4) (c+6) (aW dc) []) [(c+6,ab [] 0),(c+5,aa [] 0),(c+4,av "list_iterator" [.ref<|B+4,.int 0 0])] ((k++([(h+4,av "slice" [.int (4-f)<|j+2,.none,.none])]++(g++(e++[]))))++Z) "need" "name" (λTC N=>∀P Tx:Nat,OQ C D Z b R X F i G H I J L M l m n p o q r s t u v f x z y w d e g h j k c N P) (λTJ TQ TL TO Y U TF O=>∀Q Tz:Nat,Ei C D Z b R X F i G H I J L M l m n p o q r s t u v f x z y w d e g h j k c Y U O Q)))))
def LN(X:cB)(c i l C D E F G H m n o q:Nat)(p:List SS)(k:Option va)(r s t u v w:S9):Q7:=λh j N T Z b R=>ae [2] [c]<|mC (bi "list_iterator.__next__" [.ref<|c+4]) [(c+4,aF X.cl i)] Z (λd y z B A x Q L M O P=>∀a T5:Nat,ae [1,4,5,1,6,1,6,1,6,1,2,1,7] [c,d,a,d,a,d,a,d,a,d,a,a+2,X.fa]<|fQ 700 (VQ "sorted"<|Yd [.ref<|l+4] [("key",((.ref 118):va))]) [] Z (λg S J e=>∀f I:Nat,xl h j Z b R X c i C D E F G H m n o q p k r s t u v w y z B A x g e f))
noncomputable def Cb:Nat:=0xcdd2ffb79ff454a9b82943fb5a0d892f9f954a19d0473810cac35358c361e8cebc9c18a6d03211e432dbb6c6f7b470d617256eef112a4df15cad4b67c9d10d78df9fb894425d03f895cad65766fd27a717a4a58bc544b9e7acab2462ba876556ae0c19dd906c71538fe2a1315c38eff0e85e2af766c47b40fa655024b0e4292d0c43194d48fded096d07cda9ea79f9d6161fadb3db5d9cf4d9406e37ffc6b5e5c1746ee20664b86dd8a28f5a588360f0afc72291c41f43fd4e8ffc13e518a90106f277c732370b25eb3208b0bb3bb1f0fb5cb1f2058e9e4e04e9faf22ce8b74a
theorem IM(X:cB)(a i v l y p q r s t u c d e g:Nat)(f:List SS)(x z:List va)(A B C:va)(b:Option va)(h j k m n o:S9):CK w [(X.fa+4,ao (lu X (.ref<|l+4)++[ent "share" c A,ent "who" d B,ent "one" e C]++f) g),(X.pc+4,({cls:=.type "cell",data:=.cell b}:S9)),(a+4,aF X.cl i),(p+4,h),(q+4,j),(r+4,k),(s+4,m),(t+4,n),(u+4,o)] [(X.cl+4,aa x v),(l+4,aa z y)] [j3,fM 700,ky 700 "need" "name",fA,dX,fM 700,mx 700 "need" "name",ry 700,ky 700 "need" "name"] (aS iz (.ref<|a+4)<|hM X) (LN X a i l p q r s t u c d e g f b h j k m n o):=aV 142 251 Cb
def Rj(X:cB)(c i l x y z A B C:Nat)(k:Option va)(m n o p q r:S9):Q7:=λh j N T Z b R=>ae [2] [c]<|mC (bi "list_iterator.__next__" [.ref<|c+4]) [(c+4,aF X.cl i)] Z (λd t u w v s J F G H I=>∀a T5:Nat,ae [1,4,5,1,6,1,6,1,6,1,2,1,7] [c,d,a,d,a,d,a,d,a,d,a,a+2,X.fa]<|fQ 700 (VQ "sorted"<|Yd [.ref<|l+4] [("key",((.ref 118):va))]) [] Z (λg L E e=>∀f D:Nat,xl h j Z b R X c i x y z A B C T5 (T5+1) (T5+2) 7 [] k m n o p q r t u w v s g e f))
theorem KQ(X:cB)(a i q l s j k m n o p:Nat)(r t:List va)(b:Option va)(c d e f g h:S9):CK w [(X.fa+4,ao (lu X<|.ref<|l+4) 4),(X.pc+4,({cls:=.type "cell",data:=.cell b}:S9)),(a+4,aF X.cl i),(j+4,c),(k+4,d),(m+4,e),(n+4,f),(o+4,g),(p+4,h)] [(X.cl+4,aa r q),(l+4,aa t s)] [j3,fM 700,ky 700 "need" "name",fA,dX,fM 700,mx 700 "need" "name",ry 700,ky 700 "need" "name"] (aS iz (.ref<|a+4)<|hM X) (Rj X a i l j k m n o p b c d e f g h):=aV 142 251 Cb
def MS(X:cB)(a i:Nat)(c:Option va)(f g h j k l:S9)(e:S9):Q7:=λn o N T Z b R=>ae [2] [a]<|mK (bi "list_iterator.__next__" [.ref<|a+4]) [(a+4,aF X.cl i)] Z (λd=>∀m T5:Nat,ae [1] [d+1]<|R (.ok .next) [e,({cls:=.type "cell",dict:=none,data:=.cell c,slots:=⟨[]⟩}:S9),litE i,f,g,h,j,k,l] [] [] [])
theorem O6(X:cB)(a i k l n p q r s t u:Nat)(m o:List va)(b:Option va)(d e f g h j:S9)(c:S9):CK w [(X.fa+4,c),(X.pc+4,({cls:=.type "cell",data:=.cell b}:S9)),(a+4,aF X.cl i),(p+4,d),(q+4,e),(r+4,f),(s+4,g),(t+4,h),(u+4,j)] [(X.cl+4,aa m k),(l+4,aa o n)] [qp] (aS iz (.ref<|a+4)<|hM X) (MS X a i b d e f g h j c):=aV 32 12 0x1f10402380e0
def Gn(c t u a v:Nat)(m:Int)(s:SX)(r:Bool):Q7:=λe f N T Z b R=>ae [1] [c]<|fI 960 (bi "int.__gt__" [.int m<|a+1,.int 0<|T+1]) [] Z (.bool r) (∀d T7:Nat,R (H7<|.bool r) [ab [ent "need" t<|.int m<|a+1,ent "name" u<|.str s<|v+1] 2] [] [] [])
theorem Om(e:Expr)(f d:va)(b a t u c v:Nat)(m:Int)(s:SX)(r:Bool):a9 w [(a+4,ab [ent "need" t<|.int m<|c+1,ent "name" u<|.str s<|v+1] 2)] [] [ir 960<|.bool r] (S0 e 0 f d<|au 135 b (a+4) (aW c5) []) (jQ (fN c5)<|au 135 b (a+4) (aW c5) []) (Gn a t u c v m s r):=ba 3 7 0x13
def Rl(a t u c v:Nat)(m:Int)(s:SX):Q7:=λd e N T Z b R=>ae [1] [a]<|R (H7<|.str s<|v+1) [ab [ent "need" t<|.int m<|c+1,ent "name" u<|.str s<|v+1] 2] [] [] []
theorem Qw(e:Expr)(f d:va)(b a t u c v:Nat)(m:Int)(s:SX):a9 w [(a+4,ab [ent "need" t<|.int m<|c+1,ent "name" u<|.str s<|v+1] 2)] [] [] (S0 e 0 f d<|au 135 b (a+4) (aW c5) []) (bN (a6 c5)<|au 135 b (a+4) (aW c5) []) (Rl a t u c v m s):=ba 2 3 0x1
def Lj(a t u c v:Nat)(m:Int)(s:SX):Q7:=λd e N T Z b R=>ae [1] [a]<|R (H7<|.str s<|v+1) [ab [ent "need" t<|.int m<|c+1,ent "name" u<|.str s<|v+1] 2] [] [] []
theorem J6:a9 w [(a+4,ab [ent "need" t<|.int m<|c+1,ent "name" u<|.str s<|v+1] 2)] [] [] (S0 e 0 f d<|au 135 b (a+4) (aW dc) []) (bN (a6 dc)<|au 135 b (a+4) (aW dc) []) (Lj a t u c v m s):=ba 2 3 0x1
def Rz(a t u h v:Nat)(m:Int)(s:SX)(g c:Nat):Q7:=λi j N T Z b R=>ae [1,1,4,1,1] [a,g,c,a,c]<|ee 960 (bi "list.count" [.ref<|c+4,.str s<|v+1]) [] Z (λf k=>∀d e:Nat,ae [1] [a]<|R (H7<|.ref<|d+4) [ab [ent "need" t<|.int m<|h+1,ent "name" u<|.str s<|v+1] 2] [] [(d+4,ag [.int (m-f)<|e+1,.str s<|v+1])] [])
theorem Kw:a9 w [(a+4,ab [ent "need" t<|.int m<|e+1,ent "name" u<|.str s<|v+1] 2)] [(b+4,af<|.ref<|c+4),(c+4,aa j i)] [gD 960] (S0 g 0 h f<|au 135 d (a+4) (aQ dw ["picked"]) [("picked",b+4)]) (bN (a6 dw)<|au 135 d (a+4) (aQ dw ["picked"]) [("picked",b+4)]) (Rz a t u e v m s b c):=ba 6 18 0x3109109dd69
theorem Ha:c5=bD (a6 c5) (.Tuple [.Name "need"<|bb<|bh 0 (aG c5).target,.Name "name"<|bb<|bh 1 (aG c5).target] 0<|bb (aG c5).target) (aG c5).iter [fN c5] (aW c5) (bX c5):=by kernel_rfl
theorem HD:dc=bD (a6 dc) (.Tuple [.Name "need"<|bb<|bh 0 (aG dc).target,.Name "name"<|bb<|bh 1 (aG dc).target] 0<|bb (aG dc).target) (aG dc).iter [] (aW dc) (bX dc):=by kernel_rfl
theorem EJ:dw=bD (a6 dw) (.Tuple [.Name "need"<|bb<|bh 0 (aG dw).target,.Name "name"<|bb<|bh 1 (aG dw).target] 0<|bb (aG dw).target) (aG dw).iter [] (aW dw) (bX dw):=by kernel_rfl
noncomputable def i0:Int×SX:=(0,"")
inductive oV(eb:List (Int×SX))(i:Nat)(v1 v2:va):Prop
 |mk (p t u) (h1:eb[i]?=some p) (h2:v1= .int p.1 (t+1)) (h3:v2= .str p.2 (u+1))
section
variable{b f g d l n e h j m:Nat}{c k:List va}{a:List (Int×SX)}{Z:Led}
theorem sZ(q:ak Z c (a.map item)):∀(i:Nat) (v:va),c[i]?=some v->∃o w x,v= .ref (o+4)/\(o+4,ag [w,x])∈Z/\oV a i w x:=λi v s=>by
 have r:i<a.length:=by have:=q.len;rw[aM] at this;rw[<-this];exact(Tb.mp s).1
 refine aI (q.get (i:=i) (d:=item a[i])<|by rw[Vi,Ti r];rfl) λC p A=>?_
 rw[s] at p;cases p;refine hide λQ y=>c0 A.dQ λo t u B z=>?_;subst B
 exact y<|⟨_,_,_,rfl,z,a[i],t,u,Ti r,rfl,rfl⟩
theorem HC:SP w b (.builtin "int.__gt__" ⟨[.int x t,.int 0 u],[]⟩) [] Z (Rv (.bool<|decide (0<x)) []):=
 SP.val F.entry_int_gt (by decide+kernel) (YW _ _ _ _) ⟨rfl,rfl,rfl,rfl,rfl⟩
theorem RJ(s:b+40<=960)(C:ak Z c (a.map item))(Q:a.length<=900)(J:(l+4,aa c n)∈Z):
  SP w b (.compLoop c5 0 (.ref<|f+4) (.ref<|g+4)<|au 135 e (d+4) (aW c5) []) [(d+4,ab [] 0),(g+4,aa [] 0),(f+4,aF l 0)] Z (cC Z c.length (jq "need" "name")<|(a.filter λp=>decide (0<p.1)).map λp=>.str p.2):=by
 have L:c.length=a.length:=by rw[C.len,aM]
 have z:=lJ (b:=b) (e:=f) (f:=g) (d:=d) (l:=l) (n:=n) (c:=c) (Z:=Z) (g:=a6 c5) (j:=(aG c5).iter) (h:=[fN c5]) (k:=aW c5) (q:=bX c5) (x:="need") (y:="name") (U:=bb<|bh 0 (aG c5).target) (V:=bb<|bh 1 (aG c5).target) (T:=bb (aG c5).target) (S:=0) (P:=oV a) (p:=λi=>decide (0<(a.getD i i0).1)) (D:=λi=>.str (a.getD i i0).2) (a:=au 135 e (d+4) (aW c5) []) s ⟨by kernel_rfl,by kernel_rfl,rfl⟩ ⟨by kernel_rfl,by kernel_rfl,rfl⟩ (by decide+kernel) J (by exact d4 ‹_› (SQ ‹_›<|zd rfl)) (sZ C)
  (λi F M O t u E o o r I=>?_) (λi F M O t u E o o r I o=>?_)
 ·rw[<-Ha,ju (l:=a) (λp=>decide (0<p.1)) (λp=>Y3 p.2) L λi x q=>by rw[Ta,q];exact⟨rfl,rfl⟩] at z
  exact z
 ·obtain⟨p,A,B,v,rfl,rfl⟩:=r
  refine VS.pQ (Om _ _ _ e d t u A B p.1 p.2 (decide (0<p.1)) 960 s (zd rfl) (aj (iC ar) ay) ax λG H N T q=>?_);exact ah ⟨HC,λo o=>aY _ rfl (by rw[Ta,v];rfl) rfl⟩
 ·obtain⟨p,A,B,v,rfl,rfl⟩:=r
  refine VS.b5 (Qw _ _ _ e d t u A B p.1 p.2 960 s (zd rfl) ay ax λG H N T q=>?_);exact ah<|aY _ rfl rfl (by rw[Ta,v];exact .str _ _)
theorem Rc(s:b+40<=960)(r:ak Z c (a.map item))(Q:a.length<=900)(E:(l+4,aa c n)∈Z):
  SP w b (.compLoop dc 0 (.ref<|f+4) (.ref<|g+4)<|au 135 e (d+4) (aW dc) []) [(d+4,ab [] 0),(g+4,aa [] 0),(f+4,aF l 0)] Z (cC Z c.length (jq "need" "name") ((a.map (·.2)).map .str)):=by
 have G:c.length=a.length:=by rw[r.len,aM]
 have z:=lJ (b:=b) (e:=f) (f:=g) (d:=d) (l:=l) (n:=n) (c:=c) (Z:=Z) (g:=a6 dc) (j:=(aG dc).iter) (h:=[]) (k:=aW dc) (q:=bX dc) (x:="need") (y:="name") (U:=bb<|bh 0 (aG dc).target) (V:=bb<|bh 1 (aG dc).target) (T:=bb (aG dc).target) (S:=0) (P:=oV a) (p:=λo=>true) (D:=λi=>.str (a.getD i i0).2) (a:=au 135 e (d+4) (aW dc) []) s ⟨by kernel_rfl,by kernel_rfl,rfl⟩ ⟨by kernel_rfl,by kernel_rfl,rfl⟩ (by decide+kernel) E (by exact d4 ‹_› (SQ ‹_›<|zd rfl)) (sZ r)
  (λi A J L t u v o o o C=>hY) (λi A J L t u v o o B C o=>?_)
 ·rw[<-HD,ju (l:=a) (λo=>true) (λp=>Y3 p.2) G λi x q=>by rw[Ta,q];exact⟨rfl,rfl⟩,Vu.mpr λo o=>rfl] at z
  rw[Vb];exact z
 ·obtain⟨p,H,I,F,rfl,rfl⟩:=B
  refine VS.b5 (J6 960 s (zd rfl) ay ax λM O N T q=>?_);exact ah<|aY _ rfl rfl (by rw[Ta,F];exact .str _ _)
theorem yV{ps:List SX}(v:b+40<=960)(s:ak Z c (a.map item))(U:a.length<=900)(F:(l+4,aa c n)∈Z)(G:ak Z k (ps.map .str))(A:(j+4,aa k m)∈Z)(I:(h+4,af<|.ref<|j+4)∈Z):
  SP w b (.compLoop dw 0 (.ref<|f+4) (.ref<|g+4)<|au 135 e (d+4) (aQ dw ["picked"]) [("picked",h+4)]) [(d+4,ab [] 0),(g+4,aa [] 0),(f+4,aF l 0)] Z (cC Z c.length (jq "need" "name")<|(a.map λp=>(p.1-((ps.count p.2:Nat):Int),p.2)).map item):=by
 have J:c.length=a.length:=by rw[s.len,aM]
 have z:=lJ (b:=b) (e:=f) (f:=g) (d:=d) (l:=l) (n:=n) (c:=c) (Z:=Z) (g:=a6 dw) (j:=(aG dw).iter) (h:=[]) (k:=aW dw) (q:=bX dw) (x:="need") (y:="name") (U:=bb<|bh 0 (aG dw).target) (V:=bb<|bh 1 (aG dw).target) (T:=bb (aG dw).target) (S:=0) (P:=oV a) (p:=λo=>true) (D:=λi=>item ((a.getD i i0).1-((ps.count (a.getD i i0).2:Nat):Int),(a.getD i i0).2)) (a:=au 135 e (d+4) (aQ dw ["picked"]) [("picked",h+4)]) v ⟨by kernel_rfl,by kernel_rfl,rfl⟩ ⟨by kernel_rfl,by kernel_rfl,rfl⟩ (by decide+kernel) F (by exact d4 ‹_› (SQ ‹_›<|zd rfl)) (sZ s)
  (λi C O Q t u B o o o q=>hY) (λi C O Q t u B o o E q o=>?_)
 ·rw[<-EJ,ju (l:=a) (λo=>true) (λp=>item (p.1-((ps.count p.2:Nat):Int),p.2)) J λi x r=>by rw[Ta,r];exact⟨rfl,rfl⟩,Vu.mpr λo o=>rfl] at z
  rw[Vb];exact z
 ·obtain⟨p,L,M,H,rfl,rfl⟩:=E
  refine VS.b5 (Kw 960 v (zd rfl) (aj (iE ar) ay) (aq (q _ I)<|aq (q _ A) ax) λR S N T r=>?_);refine ah ⟨_,ud (.inr ⟨rfl,q _ A⟩)<|G.sub q,λo o o=>ah<|aY _ rfl rfl ?_⟩;rw[Ta,H];exact Tells.ng<|.head _
end
noncomputable def q4{e:Type}(a b c d:e):Nat->e
 |0=>a
 |1=>b
 |2=>c
 |_=>d
theorem uk{g:List (Int×SX)}(y:b+80<=960)(A:(l+4,aa k n)∈Z)(a:ak Z k (g.map item))(x:g.length=4):
  SP w b (.builtin "sorted" ⟨[.ref<|l+4],[("key",.ref 118)]⟩) [] Z (Dl Z ((bW g).map item) []):=by
 refine hide λm e=>?_
 obtain⟨p0,j,h,d⟩:=ib x;obtain⟨O,_,rfl,s,a⟩:=ak.cons_inv (c:=[j,h,d].map item) a;obtain⟨P,_,rfl,t,a⟩:=ak.cons_inv (c:=[h,d].map item) a;obtain⟨Q,_,rfl,u,a⟩:=ak.cons_inv (c:=[d].map item) a;obtain⟨R,_,rfl,v,a⟩:=ak.cons_inv (c:=[]) a;refine e ?_;cases a.nil_inv
 refine hide λm e=>c0 s.dQ λo F J c B=>?_;subst c
 refine c0 t.dQ λp G L c C=>?_;subst c
 refine c0 u.dQ λq H M c D=>?_;subst c
 refine c0 v.dQ λr I N c E=>?_;subst c
 exact e<|Hv (a:=q4 o p q r) (c:=q4 F G H I) (d:=q4 J L M N) (f:=q4 p0 j h d) y A λi z=>by
  rcases eg z with rfl|rfl|rfl|rfl
  ·exact B
  ·exact C
  ·exact D
  ·exact E
theorem mL(l:List (Int×SX)):(bW l).Perm l:=by
 have:=(vX l [] .nil).1;rw[aP] at this;exact this.trans<|List.reverse_perm _
def d5:List Call->List (Int×SX)->b8->Bool×List (Int×SX)×b8
 |[],a,s=>(true,bW a,s)
 |c::b,a,s=>if(((bW a).filter λp=>decide (0<p.1)).length:Int)<c.1 then(false,bW a,s)
  else d5 b ((bW a).map λp=>(p.1-(((((bW a).drop (4-c.1).toNat).map (·.2)).count p.2:Nat):Int),p.2)) (eV c.2.1 c.2.2 (((bW a).drop (4-c.1).toNat).map (·.2)) s)
structure qR(Z:Led)(X:cB)(bs ts:List (SX×Nat))(fZ:List va)(cn:Nat):Prop where
 lo:(X.lo+4,ab X.eo X.lI)∈Z
 lk:StrKeys X.eo
 lf:∀p∈bs,bY p.1 X.eo=some (.ref<|p.2+4)
 ca:(X.ca+4,ab X.gi X.mf)∈Z
 ck:StrKeys X.gi
 cf:∀p∈ts,bY p.1 X.gi=some (.ref<|p.2+4)
 cl:(X.cl+4,aa fZ cn)∈Z
theorem qR.up(h:qR Z X a d c b)(s:∀p∈Z,p∈Z'):qR Z' X a d c b:=⟨s _ h.lo,h.lk,h.lf,s _ h.ca,h.ck,h.cf,s _ h.cl⟩
def AW(a:List SS)(b:Nat):Prop:=(a=[]/\b=7)\/∃t v,a=[ent "name" t v]/\b=8
def yN(a b c:Nat)(d e f:va):List SS:=[ent "share" a d,ent "who" b e,ent "one" c f]
inductive LK(X:cB)(l:Nat)(fr:S9):Prop
 |mk (k4 k5 k6 v4 a v6 nm nn) (h:AW nm nn) (e:fr=ao (lu X (.ref<|l+4)++yN k4 k5 k6 v4 a v6++nm) nn)
def s9(X:cB)(l:Nat)(a:S9):Prop:=a=ao (lu X<|.ref<|l+4) 4\/LK X l a
noncomputable def nO(a:Option va):S9:={cls:=.type "cell",data:=.cell a}
inductive Ci(X:cB)(bs ts:List (SX×Nat))(res:Bool×List (Int×SX)×b8)(r:Vz)(objs:List S9)(n Z ro:Led):Prop
 |mk (h1:n=[]/\ro=[]) (es nn ce it b ne2 a c l fC ln line) (h2:objs=[ao (lu X (.ref<|l+4)++es) nn,nO ce,it]++c7 bs b ne2++c7 ts a c) (h3:(l+4,aa fC ln)∈Z) (h4:ak Z fC (line.map item)) (h5:line.length=4) (h6:(r= .ok .next/\res.1=true/\bW line=res.2.1)\/∃d,r= .ok (.ret<|.ref<|d+4)/\(d+4,ag [.bool false,.ref<|l+4,.ref<|X.lo+4,.ref<|X.ca+4])∈Z/\res.1=false/\line=res.2.1) (h7:fX Z bs b res.2.2.lg) (h8:fS Z ts a res.2.2.cd)
def pd(X:cB)(Z:Led)(a d:List (SX×Nat))(b:Bool×List (Int×SX)×b8):aU:=λr o n F c=>Ci X a d b r o n (F++Z) c
theorem QN(h:SP w b c L (G++Z) (pd X (G++Z) a f d)):SP w b c L (G++Z) λr o n i e=>pd X Z a f d r o n (i++G) e:=by
 refine h.mono ar (λg q=>q) λr o n F e g h g=>?_
 show Ci X a f d r o n ((F++G)++Z) e;rw[aZ];exact h
theorem Og(b:0<=k):(XG ⟨a⟩ (some k) none none).toList=a.drop k.toNat:=by
 have:=slicePick_from' (⟨a⟩:Array va) k.toNat;rw[WY b] at this;rw[this]
theorem s9.K0(h:s9 X l a):∃b c,a=ao (lu X (.ref<|l+4)++b) c:=by
 rcases h with rfl|⟨_,_,_,_,_,_,_,_,_,rfl⟩
 ·exact cG [] 4<|by rw[aP]
 ·exact cG _ _<|by rw[aZ]
theorem Qq(l:List (Int×SX)):(bW l).length=l.length:=(mL l).length_eq
theorem Mx(h:∀x,(s.lg x).length<=B/\(s.cd x).length<=B)(a:SX)(q:R4)(l:List SX)(b:l.length<=4):∀x,((eV a q l s).lg x).length<=B+4/\((eV a q l s).cd x).length<=B+4:=by
 have go:∀(l:List SX) (s:b8) (B:Nat),(∀x,(s.lg x).length<=B/\(s.cd x).length<=B)->∀x,((eV a q l s).lg x).length<=B+l.length/\((eV a q l s).cd x).length<=B+l.length:=by
  intro l;induction l with
  |nil=>intro s B h x;exact h x
  |cons y l c=>
   intro s B h x;have:=c (kx a q s y) (B+1) (λz=>⟨rv y _ z λz=>(h z).1,rv a _ z λz=>(h z).2⟩) x;rw[bT,show B+(l.length+1)=B+1+l.length from Vt B l.length 1];exact this
 intro x;have:=go l s B h x;exact⟨SQ this.1<|VC b B,SQ this.2<|VC b B⟩
theorem zh:∀C∈[j3,fM 700,ky 700 "need" "name",fA,dX,fM 700,mx 700 "need" "name",ry 700,ky 700 "need" "name"],aA.Ok w 700 C:=
 aj Ec (aj (i5 ar)<|aj (xe ar)<|aj lN<|aj mc<|aj (i5 ar)<|aj (ua ar)<|aj (HL ar)<|aj (xe ar) ay)
theorem fJ.NN{f:List va}{c:Call}{M:Prop}(h:fJ Z (f.drop i) (c::n))
  (k:∀x j m g q0 q1 q2 q3,f[i]?=some (.ref<|x+4)->(x+4,ag [.int c.1<|j+1,.str c.2.1<|m+1,.ref<|g+4])∈Z->(g+4,ag [.int c.2.2.a<|q0+1,.int c.2.2.b<|q1+1,.int c.2.2.c<|q2+1,.int c.2.2.d<|q3+1])∈Z->fJ Z (f.drop<|i+1) n->M):M:=by
 generalize e:f.drop i=l at h;cases h with
 |cons a b=>
  obtain⟨x,j,m,g,q0,q1,q2,q3,rfl,p,o⟩:=a;refine k x j m g q0 q1 q2 q3 ?_ p o ?_
  ·have:=congrArg (·[0]?) e;simpa using this
  ·rw[<-XZ,e];exact b
theorem md.elim{s:b8}{G:Vz->List S9->Led->Led->Led->Prop}(y:m≠[])
  (k:∀z t v b c a g F,fX (F++Z) i b s.lg->fS (F++Z) o a s.cd->G (.ok .next) ([ao (kR X++[ent "name" t v]) 8,z,l]++c7 j b c++c7 p a g) [] F []):∀r e d F f,md X Z i o j p q l m s r e d F f->G r e d F f:=by
 rintro r e d F f n;refine zt n λH b c a g J C D E x w=>?_;clear n;subst C;obtain⟨rfl,rfl,rfl⟩:=D;obtain⟨I,A,rfl,u⟩:=E
 refine fg (u.resolve_left λh=>y h.1) λt v B=>?_;subst B
 exact k A t v b c a g F x w
section
variable{b a f:Nat}{X:cB}{e:List va}{c d:List (SX×Nat)}
theorem Gj(hb:b+40<=700)(T7:c.length=4)(Un:d.length=2)(Uj:(c.map (·.1)).Nodup)(Uk:(d.map (·.1)).Nodup):∀(J:List Call) (i:Nat) (j:List (Int×SX)) (l ln:Nat) (V:List va) (fr:S9) (N:Option va) (k y:SX->List va) (ne D:SX->Nat) (Z:Led) (s:b8) (BB:Nat),
  qR Z X c d e f->fJ Z (e.drop i) J->(l+4,aa V ln)∈Z->ak Z V (j.map item)->j.length=4->(∀p∈j,∃B,(p.2,B)∈c)->(∀g∈J,0<=g.1/\∃B,(g.2.1,B)∈d)->
  s9 X l fr->fX Z c k s.lg->fS Z d y s.cd->(∀Tt,(s.lg Tt).length<=BB/\(s.cd Tt).length<=BB)->BB+4*J.length<=900->
  SP w b (aS iz (.ref<|a+4)<|hM X) ([(X.fa+4,fr),(X.pc+4,nO N),(a+4,aF X.cl i)]++bZ c k ne++bZ d y D) Z (pd X Z c d<|d5 J j s):=by
 obtain⟨p0,m,t,u⟩:=ib T7;obtain⟨v,x⟩:=p7 Un;intro J;induction J with
 |nil=>
  intro i j l ln V fr N k y ne D Z s BB C TM hl Tr Tw TY TO TP Tx Tv TL TK;refine O6 X a i f l ln p0.2 m.2 t.2 u.2 v.2 x.2 e V N (aa (k p0.1)<|ne p0.1) (aa (k m.1)<|ne m.1) (aa (k t.1)<|ne t.1) (aa (k u.1)<|ne u.1) (aa (y v.1)<|D v.1) (aa (y x.1)<|D x.1) fr 700 hb (zd rfl) (aj se ay) (aq C.cl<|aq hl ax) λE H Tu TV O=>fg TP.K0 λes M TA=>?_;subst TA
  exact ah ⟨_,_,_,_,_,rfl,rfl,C.cl,Xh.mp TM.nil_inv,λTt A A=>ah ⟨⟨rfl,rfl⟩,es,M,N,_,k,ne,y,D,l,V,ln,j,rfl,hl,Tr,Tw,.inl ⟨rfl,rfl,rfl⟩,Tx,Tv⟩⟩
 |cons g J ih=>
  intro i j l ln V fr N k y ne D Z s BB C TM hl Tr Tw TY TO TP Tx Tv TL TK;refine fJ.NN TM λTt Ts tw on q0 q1 q2 q3 hj hx ho Ua=>?_
  obtain⟨cu,Uo⟩:=TO g<|.head _;have I:(bW j).length=4:=by rw[Qq];exact Tw
  have TZ:∀p∈bW j,∃B,(p.2,B)∈[p0,m,t,u]:=λp h=>TY p<|(mL j).mem_iff.mp h
  have TX:∀(E H:Bool) (l' TR:Nat) (TF:List va) (TB:S9) (TJ:Option va) (TH TG:SX->List va) (TS TU:SX->Nat) (G:Led),br E H w=w->¬((((bW j).filter λp=>decide (0<p.1)).length:Int)<g.1)->s9 X l' TB->(l'+4,aa TF TR)∈G++Z->
    ak (G++Z) TF (((bW j).map λp=>(p.1-(((((bW j).drop (4-g.1).toNat).map (·.2)).count p.2:Nat):Int),p.2)).map item)->fX (G++Z) [p0,m,t,u] TH (eV g.2.1 g.2.2 (((bW j).drop (4-g.1).toNat).map (·.2)) s).lg->fS (G++Z) [v,x] TG (eV g.2.1 g.2.2 (((bW j).drop (4-g.1).toNat).map (·.2)) s).cd->
    SP (br E H w) b (aS iz (.ref<|a+4)<|hM X) ([(X.fa+4,TB),(X.pc+4,nO TJ),(a+4,aF X.cl<|i+1)]++bZ [p0,m,t,u] TH TS++bZ [v,x] TG TU) (G++Z) λr o n F' ro=>pd X Z [p0,m,t,u] [v,x] (d5 (g::J) j s) r o n (F'++G) ro:=by
   intro E H l' TR TF TB TJ TH TG TS TU G O T Uc Ud Uh Ue T8;have up:∀p∈Z,p∈G++Z:=λp h=>az h
   rw[O];have er:d5 (g::J) j s=_:=if_neg T;rw[er];refine QN (ih (i+1) _ l' TR TF TB TJ TH TG TS TU (G++Z) _ (BB+4) (C.up up) (Ua.sub up) Ud Uh (by rw[aM];exact I) (λp h=>?_) (λg h=>TO g<|.tail _ h) Uc Ue T8 (Mx TL _ _ _<|by rw[aM,Yi];exact wd I<|VA 4)<|Nw TK);refine aI (bO h) λp' h' TA=>?_;subst TA
   exact TZ p' h'
  have T4:∀(E H:Bool) (Q R S M:Nat) (Y:List SS) (B n:Nat) (z:List va) (F Tu:_),br E H w=w->AW Y M->(B+4,aa z n)∈F++Z->ak (F++Z) z ((bW j).map item)->
    xl E H Z b (pd X Z [p0,m,t,u] [v,x]<|d5 (g::J) j s) X a i p0.2 m.2 t.2 u.2 v.2 x.2 Q R S M Y N (aa (k p0.1)<|ne p0.1) (aa (k m.1)<|ne m.1) (aa (k t.1)<|ne t.1) (aa (k u.1)<|ne u.1) (aa (y v.1)<|D v.1) (aa (y x.1)<|D x.1) g.1 Ts g.2.1 tw on B F Tu:=by
   intro E H Q R S M Y B n z F Tu O TC P L;have U:z.length=4:=by rw[L.len,aM];exact I
   refine ah ⟨_,_,(λA h=>nomatch h),RJ (b:=700) (n:=n) (c:=z) (a:=bW j) (zd rfl) (L.sub ?_) (by first|exact SQ (Th I) (zd rfl)|exact SQ (Th U) (zd rfl)) (?_:_∈_),(U▸by decide:z.length≠0),λt1 v1 u1 w1 zs n2 o F2 Tz N2 A=>ah ⟨_,zs,n2,rfl,.inl rfl,?_,λUB A A=>ah ⟨λTr N3 A=>ah ?_,λT N3 UA=>ah ⟨((bW j).drop (4-g.1).toNat).map item,rZ (b:=700) (j:=some<|4-g.1) (i:=none) (st:=none) (n:=n) (a:=z) (?_:_∈_) (.head _) (.int _ _) .none .none (by simp) (by first|exact SQ (Th I) (zd rfl)|exact SQ (Th U) (zd rfl)) ?_,λa4 Ux n4 F4 Ui T1 N4 A=>ah ⟨_,_,(λA h=>nomatch h),Rc (b:=700) (n:=n4) (c:=Ux) (a:=(bW j).drop (4-g.1).toNat) (zd rfl) (T1.sub ?_) (by rw[Yi];exact wd I<|zd rfl) (?_:_∈_),λT3 Ub o F5 N5 A=>?_,λT3 t5 v5 u5 w5 T6 n5 o5 F5 T2 N5 A=>?_⟩⟩⟩⟩⟩
   ·((repeat' with_reducible refine cT ?_ ?_)<;>intro q h<;>with_reducible solve_by_elim (maxDepth:=20) [aL,aR])
   ·refine iQ ?_ P;((repeat' with_reducible refine cT ?_ ?_)<;>intro q h<;>with_reducible solve_by_elim (maxDepth:=20) [aL,aR])
   ·rw[Tz.len,aM];exact SQ (WK _ _)<|by first|exact SQ (Th I) (zd rfl)|exact SQ (Th U) (zd rfl)
   ·rw[Tz.len,aM] at Tr
    have er:d5 (g::J) j s=(false,bW j,s):=if_pos Tr;rw[er];refine⟨⟨rfl,rfl⟩,yN Q R S (.int g.1<|Ts+1) (.str g.2.1<|tw+1) (.ref<|on+4)++Y,M,N,_,k,ne,y,D,B,z,n,bW j,rfl,?_,L.sub ?_,I,.inr<|hO N3 rfl (.head _) rfl rfl,Tx.sub λp q=>az q,Tv.sub λp q=>az q⟩
    ·refine iQ ?_ P;((repeat' with_reducible refine cT ?_ ?_)<;>intro q h<;>with_reducible solve_by_elim (maxDepth:=20) [aL,aR])
    ·((repeat' with_reducible refine cT ?_ ?_)<;>intro q h<;>with_reducible solve_by_elim (maxDepth:=20) [aL,aR])
   ·exact .tail _<|show _∈(F2++(F++[]))++Z by refine iQ ?_ P;((repeat' with_reducible refine cT ?_ ?_)<;>intro q h<;>with_reducible solve_by_elim (maxDepth:=20) [aL,aR])
   ·have h0:0<=4-g.1:=by
     have h1:((bW j).filter λp=>decide (0<p.1)).length<=(bW j).length:=WK _ _;rw[Tz.len,aM] at T;have h2:g.1<=(((bW j).filter λp=>decide (0<p.1)).length:Int):=V5.mp T;exact Zf<|X6 h2<|W2.mpr<|SQ h1<|Th I
    rw[Og h0,List.map_drop];refine(L.DB _).sub λq h=>.tail _<|show q∈(F2++(F++[]))++Z by refine iQ ?_ h;((repeat' with_reducible refine cT ?_ ?_)<;>intro q h<;>with_reducible solve_by_elim (maxDepth:=20) [aL,aR])
   ·((repeat' with_reducible refine cT ?_ ?_)<;>intro q h<;>with_reducible solve_by_elim (maxDepth:=20) [aL,aR])
   ·refine iQ ?_ Ui;((repeat' with_reducible refine cT ?_ ?_)<;>intro q h<;>with_reducible solve_by_elim (maxDepth:=20) [aL,aR])
   ·have TQ:((bW j).drop (4-g.1).toNat).map (·.2)=[]:=Xl.mp Ub
    rw[Tz.len,aM] at T;refine ah ⟨_,_,fc (cZ _) fz,yV (b:=700) (ps:=[]) (k:=[]) (m:=0) (j:=N4+1) (n:=n) (c:=z) (a:=bW j) (zd rfl) (L.sub ?_) (by first|exact SQ (Th I) (zd rfl)|exact SQ (Th U) (zd rfl)) (?_:_∈_) .nil (?_:_∈_)<|.head _,(U▸by decide:z.length≠0),λt6 v6 u6 w6 Uy n6 o6 F6 Ul N6 A=>ah<|TX E H (N5+4) n6 Uy _ (some<|.ref<|N4+5) k y ne D _ O T (.inr ⟨Q,R,S,.int g.1<|Ts+1,.str g.2.1<|tw+1,.ref<|on+4,Y,M,TC,rfl⟩) (.head _) ?_ ?_ ?_⟩
    ·((repeat' with_reducible refine cT ?_ ?_)<;>intro q h<;>with_reducible solve_by_elim (maxDepth:=20) [aL,aR])
    ·refine iQ ?_ P;((repeat' with_reducible refine cT ?_ ?_)<;>intro q h<;>with_reducible solve_by_elim (maxDepth:=20) [aL,aR])
    ·exact az<|bq<|bq<|.head _
    ·rw[TQ];exact Ul.sub<|by((repeat' with_reducible refine cT ?_ ?_)<;>intro q h<;>with_reducible solve_by_elim (maxDepth:=20) [aL,aR])
    ·rw[TQ];exact Tx.sub λp q=>az q
    ·rw[TQ];exact Tv.sub λp q=>az q
   ·rw[Tz.len,aM] at T
    have Up:((bW j).drop (4-g.1).toNat).map (·.2)≠[]:=λh=>T3 (by rw[T1.len];have:=Xl.mp h;rw[this];rfl)
    refine ah ⟨_,K3 (b:=700) (X:={X with v0:=.ref<|B+4,k4:=Q,k5:=R,k6:=S,v4:=.int g.1<|Ts+1,aD:=g.2.1,tw:=tw,on:=on}) (q:=g.2.2) (e:=T6) (g:=n5) (d:=N4+1) (c:=N5) (f:=((bW j).drop (4-g.1).toNat).map (·.2)) (a:=af<|.ref<|N4+5) (zd rfl) (((bW j).drop (4-g.1).toNat).map (·.2)) 0 _ k y ne D _ [p0,m,t,u] [v,x] s BB ⟨?_,C.lk,C.lf,?_,C.ck,C.cf,q0,q1,q2,q3,?_⟩ rfl (Vc _) (T2.sub ?_) (?_:_∈_) rfl rfl Uj Uk ?_ Uo ?_ (Tx.sub ?_) (Tv.sub ?_) TL ?_,?_⟩
    ·exact az C.lo
    ·exact az C.ca
    ·exact az ho
    ·((repeat' with_reducible refine cT ?_ ?_)<;>intro q h<;>with_reducible solve_by_elim (maxDepth:=20) [aL,aR])
    ·exact bq<|bq<|.head _
    ·intro UC hy
     refine aI (bO hy) λp' h' TA=>?_;subst TA
     exact TZ p' (List.mem_of_mem_drop h')
    ·exact TC.elim (λh=>.inl<|by rw[h.1,h.2];rfl) λ⟨Us,Uv,h1,h2⟩=>.inr<|cG Us Uv<|by rw[h1,h2];rfl
    ·exact λp q=>az q
    ·exact λp q=>az q
    ·rw[aM,Yi];exact Sb TK I
    ·refine md.elim Up λUq t8 v8 Uw Ur Uu Ut F6 Ug T9=>⟨⟨rfl,rfl,rfl⟩,t8,v8,Uq,_,_,_,_,_,_,rfl,λN7 A=>ah ⟨_,_,fc (cZ _) fz,yV (b:=700) (ps:=((bW j).drop (4-g.1).toNat).map (·.2)) (k:=T6) (m:=n5) (j:=N4+1) (n:=n) (c:=z) (a:=bW j) (zd rfl) (L.sub ?_) (by first|exact SQ (Th I) (zd rfl)|exact SQ (Th U) (zd rfl)) (?_:_∈_) (T2.sub ?_) (?_:_∈_)<|.head _,(U▸by decide:z.length≠0),λt9 v9 u9 w9 Uz n9 o9 F9 Um N9 A=>ah<|TX E H (N7+1) n9 Uz _ (some<|.ref<|N4+5) Uw Uu Ur Ut _ O T (.inr ⟨Q,R,S,.int g.1<|Ts+1,.str g.2.1<|tw+1,.ref<|on+4,[ent "name" t8 v8],8,.inr<|cA t8 v8 rfl rfl,rfl⟩) (.head _) ?_ ?_ ?_⟩⟩
     ·((repeat' with_reducible refine cT ?_ ?_)<;>intro q h<;>with_reducible solve_by_elim (maxDepth:=20) [aL,aR])
     ·refine iQ ?_ P;((repeat' with_reducible refine cT ?_ ?_)<;>intro q h<;>with_reducible solve_by_elim (maxDepth:=20) [aL,aR])
     ·((repeat' with_reducible refine cT ?_ ?_)<;>intro q h<;>with_reducible solve_by_elim (maxDepth:=20) [aL,aR])
     ·exact az<|bq<|az<|bq<|.head _
     ·exact Um.sub<|by((repeat' with_reducible refine cT ?_ ?_)<;>intro q h<;>with_reducible solve_by_elim (maxDepth:=20) [aL,aR])
     ·exact Ug.sub<|by((repeat' with_reducible refine cT ?_ ?_)<;>intro q h<;>with_reducible solve_by_elim (maxDepth:=20) [aL,aR])
     ·exact T9.sub<|by((repeat' with_reducible refine cT ?_ ?_)<;>intro q h<;>with_reducible solve_by_elim (maxDepth:=20) [aL,aR])
  rcases TP with rfl|⟨Q,R,S,v4,v5,v6,Y,M,TC,rfl⟩
  ·exact KQ X a i f l ln p0.2 m.2 t.2 u.2 v.2 x.2 e V N (aa (k p0.1)<|ne p0.1) (aa (k m.1)<|ne m.1) (aa (k t.1)<|ne t.1) (aa (k u.1)<|ne u.1) (aa (y v.1)<|D v.1) (aa (y x.1)<|D x.1) 700 hb (zd rfl) zh (aq C.cl<|aq hl ax) λE H Tu TV O=>ah ⟨_,_,_,_,_,Tt,g.1,Ts,g.2.1,tw,on,g.2.2,q0,q1,q2,q3,rfl,rfl,C.cl,hj,hx,ho,λN5 T5=>ah ⟨_,uk (zd rfl) hl Tr Tw,λB z n F P L N1 A=>T4 E H T5 (T5+1) (T5+2) 7 [] B n z F N1 O (.inl ⟨rfl,rfl⟩) P L⟩⟩
  ·exact IM X a i f l ln p0.2 m.2 t.2 u.2 v.2 x.2 Q R S M Y e V v4 v5 v6 N (aa (k p0.1)<|ne p0.1) (aa (k m.1)<|ne m.1) (aa (k t.1)<|ne t.1) (aa (k u.1)<|ne u.1) (aa (y v.1)<|D v.1) (aa (y x.1)<|D x.1) 700 hb (zd rfl) zh (aq C.cl<|aq hl ax) λE H Tu TV O=>ah ⟨_,_,_,_,_,Tt,g.1,Ts,g.2.1,tw,on,g.2.2,q0,q1,q2,q3,rfl,rfl,C.cl,hj,hx,ho,λN5 A=>ah ⟨_,uk (zd rfl) hl Tr Tw,λB z n F P L N1 A=>T4 E H Q R S M Y B n z F N1 O TC P L⟩⟩
end
def m7(e:Expr):Scope:=(eX e).2.2.2.1
abbrev ic:Expr:=bM<|bJ (b4 135) 0
def pO(h a g l c d e f p q r s j:Nat)(k:Int)(m n o i:String):Q7:=λt u N T Z b R=>ae [4,1,3,4,5,1,6,1,6,1,2,1,5,4,4,1,3,4,5,1,6,1,6,1,2,1,5,4,4,1,3,4,5,1,6,1,6,1,2,1,5,4,4,1,3,4,5,1,6,1,6,1,2,1,5,4,4,1,2,1] [a,l,a,c,N,c,N,c,N,c,N,N+2,h,g,a,l,a,d,N+4,d,N+4,d,N+4,d,N+4,N+6,h,g,a,l,a,e,N+8,e,N+8,e,N+8,e,N+8,N+10,h,g,a,l,a,f,N+12,f,N+12,f,N+12,f,N+12,N+14,h,g,a,l,a,N+17]<|R (.ok .next) [ab [ent "need" T<|.int k<|p+1,ent "name" (T+1)<|.str i<|j+1] 2,ab [ent m q<|.ref<|N+7,ent n r<|.ref<|N+11,ent o s<|.ref<|N+15,ent i j<|.ref<|N+19] 4,av "list_iterator" [.none,.int 4 0]] [(N+7,aa [] 0),(N+11,aa [] 0),(N+15,aa [] 0),(N+19,aa [] 0)] [] []
noncomputable def tn:Nat:=0x20448757cd13240a24408b4d76b807e4776eb3e560e31365acbcdad8fe10179b613db4068778eb2abdf9a3b8c2a0961d1df8e155249e2570a301b2517a3e2c7d2a4fb85e14248386c5f8b4a0d47a04967536f69ae38080c239a219efe78065259200a2b9b0a1eb0154ff8466b66d7f5fc260720f2b55f45b08dec5588be06ee26b3b5f5c429d082d61cd85b36f7ec571b093bd1b4693d0dd2dd40028860f5848af8783bebecc690d19304cc749c02d7757991c30a395a
theorem P5:CK w [(g+4,ab [] 0),(e+4,ab [] 0),(f+4,aF l 0)] [(l+4,aa [.ref<|a+4,.ref<|b+4,.ref<|c+4,.ref<|d+4] n),(a+4,ag [.int q<|t+1,.str "a"<|j+1]),(b+4,ag [.int r<|u+1,.str "b c"<|k+1]),(c+4,ag [.int s<|v+1,.str ""<|m+1]),(d+4,ag [.int h<|i+1,.str "\"q"<|o+1])] [] (S0 ic 0 (.ref<|f+4) (.ref<|e+4)<|au 135 p (g+4) (m7 ic) []) (pO g f e l a b c d i j k m o h "a" "b c" "" "\"q"):=aV 62 245 tn
theorem J3:CK w [(g+4,ab [] 0),(e+4,ab [] 0),(f+4,aF l 0)] [(l+4,aa [.ref<|a+4,.ref<|b+4,.ref<|c+4,.ref<|d+4] n),(a+4,ag [.int q<|t+1,.str "b c"<|j+1]),(b+4,ag [.int r<|u+1,.str ""<|k+1]),(c+4,ag [.int s<|v+1,.str "\"q"<|m+1]),(d+4,ag [.int h<|i+1,.str "a"<|o+1])] [] (S0 ic 0 (.ref<|f+4) (.ref<|e+4)<|au 135 p (g+4) (m7 ic) []) (pO g f e l a b c d i j k m o h "b c" "" "\"q" "a"):=aV 62 245 tn
theorem PR:CK w [(g+4,ab [] 0),(e+4,ab [] 0),(f+4,aF l 0)] [(l+4,aa [.ref<|a+4,.ref<|b+4,.ref<|c+4,.ref<|d+4] n),(a+4,ag [.int q<|t+1,.str ""<|j+1]),(b+4,ag [.int r<|u+1,.str "\"q"<|k+1]),(c+4,ag [.int s<|v+1,.str "a"<|m+1]),(d+4,ag [.int h<|i+1,.str "b c"<|o+1])] [] (S0 ic 0 (.ref<|f+4) (.ref<|e+4)<|au 135 p (g+4) (m7 ic) []) (pO g f e l a b c d i j k m o h "" "\"q" "a" "b c"):=aV 62 245 tn
theorem Ry:CK w [(g+4,ab [] 0),(e+4,ab [] 0),(f+4,aF l 0)] [(l+4,aa [.ref<|a+4,.ref<|b+4,.ref<|c+4,.ref<|d+4] n),(a+4,ag [.int q<|t+1,.str "\"q"<|j+1]),(b+4,ag [.int r<|u+1,.str "a"<|k+1]),(c+4,ag [.int s<|v+1,.str "b c"<|m+1]),(d+4,ag [.int h<|i+1,.str ""<|o+1])] [] (S0 ic 0 (.ref<|f+4) (.ref<|e+4)<|au 135 p (g+4) (m7 ic) []) (pO g f e l a b c d i j k m o h "\"q" "a" "b c" ""):=aV 62 245 tn
inductive Ka(k:Nat->va->Nat->va->Int->Int->Int->Int->va->va->va->va->S9->Nat->Nat->Nat->Nat->Prop)(r:Vz)(objs:List S9)(new F ro:Led):Prop
 |mk (p0:r= .ok .next/\F=[]/\ro=[]) (t v u i h0 h1 h2 h3 e f g h it a b c d) (p1:objs=[ab [ent "need" t v,ent "name" u i] 2,ab [⟨h0,e,.ref<|a+4⟩,⟨h1,f,.ref<|b+4⟩,⟨h2,g,.ref<|c+4⟩,⟨h3,h,.ref<|d+4⟩] 4,it]) (p2:new=[(a+4,aa [] 0),(b+4,aa [] 0),(c+4,aa [] 0),(d+4,aa [] 0)]) (p3:k t v u i h0 h1 h2 h3 e f g h it a b c d)
inductive wD(b0:Nat)(c:Td)(sub Z:Led)(k:Nat->va->Nat->va->Int->Int->Int->Int->va->va->va->va->S9->Nat->Nat->Nat->Nat->Prop):Prop
 |mk (gv:aU) (h0:SP w b0 c sub Z gv) (h1:∀r objs new F ro,gv r objs new F ro->Ka k r objs new F ro):wD b0 c sub Z k
def BD(g:Nat):aA:=λc sub Z f=>wD g c sub Z λt v u q l m n o h i j k p a b d e=>f 0 (.ok .next) [ab [ent "need" t v,ent "name" u q] 2,ab [⟨l,h,.ref<|a+4⟩,⟨m,i,.ref<|b+4⟩,⟨n,j,.ref<|d+4⟩,⟨o,k,.ref<|e+4⟩] 4,p] [(a+4,aa [] 0),(b+4,aa [] 0),(d+4,aa [] 0),(e+4,aa [] 0)] [] []
theorem IG(e:b<=a):(BD a).Ok w b:=by
 rintro c sub Z g ⟨i,h,H⟩;refine h.mono e (λd q=>q) ?_;rintro r z y F A d f d;obtain⟨⟨rfl,rfl,rfl⟩,t,v,u,B,n,o,p,s,j,k,l,m,x,C,D,E,G,rfl,rfl,hk⟩:=H _ _ _ _ _ f;exact aB 0 hk
noncomputable def fe(a:List SS):List SS:=match a with
 |_::b::c::d::_=>[b,c,d]
 |_=>[]
noncomputable def vH(a:List SS):Nat:=match a with
 |⟨_,.str _<|t+1,_⟩::_=>t
 |_=>0
inductive IF(sub Z:Led)(k1:Nat->List SS->Nat->Option va->S9->S9->S9->S9->S9->S9->S9->Led->Prop)(k2:Nat->Nat->List SS->Nat->Option va->S9->S9->S9->S9->S9->S9->S9->Led->Prop)(r:Vz)(objs:List S9)(new F ro:Led):Prop
 |mk (p0:new=[]/\ro=[]) (l es nn ce it o0 a b c e o5) (p1:objs=[ao (ent "line" (vH<|b9 sub) (.ref<|l+4)::(fe (b9 sub)++es)) nn,nO ce,it,o0,a,b,c,e,o5]) (p2:(r= .ok .next/\k1 l es nn ce it o0 a b c e o5 F)\/∃d,r= .ok (.ret<|.ref<|d+4)/\(d+4,ag [.bool false,.ref<|l+4,ku 2<|b9 sub,ku 3<|b9 sub])∈F++Z/\k2 d l es nn ce it o0 a b c e o5 F)
inductive wy(b0:Nat)(c:Td)(sub Z:Led)(k1:Nat->List SS->Nat->Option va->S9->S9->S9->S9->S9->S9->S9->Led->Prop)(k2:Nat->Nat->List SS->Nat->Option va->S9->S9->S9->S9->S9->S9->S9->Led->Prop):Prop
 |mk (gv:aU) (h0:SP w b0 c sub Z gv) (h1:∀r objs new F ro,gv r objs new F ro->IF sub Z k1 k2 r objs new F ro):wy b0 c sub Z k1 k2
def ye(o:Nat):aA:=λc sub Z n=>wy o c sub Z
 (λl b f a e g h i j k m F=>n 0 (.ok .next) [ao (ent "line" (vH<|b9 sub) (.ref<|l+4)::(fe (b9 sub)++b)) f,nO a,e,g,h,i,j,k,m] [] F [])
 (λd l b f a e g h i j k m F=>n 1 (H7<|.ref<|d+4) [ao (ent "line" (vH<|b9 sub) (.ref<|l+4)::(fe (b9 sub)++b)) f,nO a,e,g,h,i,j,k,m] [] F [(d+4,ag [.bool false,.ref<|l+4,ku 2<|b9 sub,ku 3<|b9 sub])])
theorem Pp(g:b<=f):(ye f).Ok w b:=by
 rintro c sub Z j ⟨k,h,H⟩;refine(h.mono g (λa q=>q) λa a a a a a e a=>e).gI ?_;rintro r A p F B a e;obtain⟨⟨rfl,rfl⟩,l,n,s,m,o,t,u,v,x,y,z,rfl,⟨rfl,hk⟩|⟨d,rfl,i,hk⟩⟩:=H _ _ _ _ _ e
 ·exact aX [] (λa h=>nomatch h)<|aB 0 hk
 ·exact aX _ (fc (i) fz)<|aB 1 hk
def Qh(l q:Nat):Q7:=λS U N T Z b R=>ae [5,3,2] [N,l,N+2]<|wD 640 (S0 ic 0 (.ref<|N+6) (.ref<|N+7)<|au 135 (N+4) (N+8) (m7 ic) []) [(N+8,ab [] 0),(N+7,ab [] 0),(N+6,av "list_iterator" [.ref<|l+4,.int 0 0])] Z (λTB TG TC TF m n o p h i j k Tv d e f g=>∀a c:Nat,ae [2,6,8,3,3,1] [N,N+4,a,N,q,a+3]<|wy 640 (aS iz (.ref<|a+7)<|dC 135 (N+4) [("picked",N+5)]) [(N+4,ao [ent "line" T<|.ref<|l+4,ent "calls" (T+1)<|.ref<|q+4,ent "logs" c<|.ref<|N+7,ent "called" (c+5)<|.ref<|a+4] 4),(N+5,aJ),(a+7,av "list_iterator" [.ref<|q+4,.int 0 0]),(d+4,aa [] 0),(e+4,aa [] 0),(f+4,aa [] 0),(g+4,aa [] 0),(a+5,aa [] 0),(a+6,aa [] 0)] ([(N+7,ab [⟨m,h,.ref<|d+4⟩,⟨n,i,.ref<|e+4⟩,⟨o,j,.ref<|f+4⟩,⟨p,k,.ref<|g+4⟩] 4),(a+4,ab [ent "f" (c+1)<|.ref<|a+5,ent "g" (c+2)<|.ref<|a+6] 2)]++Z) (λx Tr Tz V Tt y A C E G I r=>∀L O:Nat,ae [1] [N]<|fQ 640 (VQ "sorted"<|Yd [.ref<|x+4] [("key",((.ref 118):va))]) [] ((r++[(N+7,ab [⟨m,h,.ref<|d+4⟩,⟨n,i,.ref<|e+4⟩,⟨o,j,.ref<|f+4⟩,⟨p,k,.ref<|g+4⟩] 4),(a+4,ab [ent "f" (c+1)<|.ref<|a+5,ent "g" (c+2)<|.ref<|a+6] 2)])++Z) (λv TH Tx t=>∀s P:Nat,ae [2] [N]<|R (H7<|.ref<|s+4) [] [] ([(s+4,ag [.bool true,.ref<|v+4,.ref<|N+7,.ref<|a+4]),(d+4,y),(e+4,A),(f+4,C),(g+4,E),(a+5,G),(a+6,I)]++(t++(r++[(N+7,ab [⟨m,h,.ref<|d+4⟩,⟨n,i,.ref<|e+4⟩,⟨o,j,.ref<|f+4⟩,⟨p,k,.ref<|g+4⟩] 4),(a+4,ab [ent "f" (c+1)<|.ref<|a+5,ent "g" (c+2)<|.ref<|a+6] 2)]))) [])) (λw Tw Ts TA Y Tu z B D F H J u=>∀M Q:Nat,R (H7<|.ref<|w+4) [] [] ([(d+4,z),(e+4,B),(f+4,D),(g+4,F),(a+5,H),(a+6,J)]++(u++[(N+7,ab [⟨m,h,.ref<|d+4⟩,⟨n,i,.ref<|e+4⟩,⟨o,j,.ref<|f+4⟩,⟨p,k,.ref<|g+4⟩] 4),(a+4,ab [ent "f" (c+1)<|.ref<|a+5,ent "g" (c+2)<|.ref<|a+6] 2)])) []))
theorem Sn(l n a b:Nat)(d c:List va):CK w [] [(l+4,aa d n),(a+4,aa c b)] [BD 640,ye 640,fM 640] (Vh (.ref 135) ⟨[.ref<|l+4,.ref<|a+4],[]⟩) (Qh l a):=aV 406 98 0x84160bae808bbc8e18624f1518be5e588b2defdf543ddd0426a20e3cc6a3f7d0b31a456f97b8dc6bfabaf5c7cb5cbe5e5d68a1aa0e130354e0488ee80a7a0431b4119f3f589d81224ad4a5be5a7ac30e92d47d8097309b7671a9ce125689c3dba95378b42e27d7c4f
def iK(r:Nat):List SX:=names4.drop r++names4.take r
inductive DL(ns:List SX)(r:Vz)(objs:List S9)(new F ro:Led):Prop
 |mk (h1:r= .ok .next/\F=[]/\ro=[]) (t v u i it q0 q1 q2 q3 e f g h a b c d) (h2:ns=[a,b,c,d]) (h3:objs=[ab [ent "need" t v,ent "name" u i] 2,ab (dE [(a,q0,e),(b,q1,f),(c,q2,g),(d,q3,h)]) 4,it]) (h4:new=[(e+4,aa [] 0),(f+4,aa [] 0),(g+4,aa [] 0),(h+4,aa [] 0)])
inductive BQ(Z:Led):List va->List (Int×SX)->Prop
 |mk (a a1 a2 b t0 t1 f t3 g h i j i0 c d e s0 s1 s2 s3) (m0:(a+4,ag [.int i0<|t0+1,.str s0<|g+1])∈Z) (m1:(a1+4,ag [.int c<|t1+1,.str s1<|h+1])∈Z) (m2:(a2+4,ag [.int d<|f+1,.str s2<|i+1])∈Z) (m3:(b+4,ag [.int e<|t3+1,.str s3<|j+1])∈Z):BQ Z [.ref<|a+4,.ref<|a1+4,.ref<|a2+4,.ref<|b+4] [(i0,s0),(c,s1),(d,s2),(e,s3)]
theorem GJ{d:List (Int×SX)}(a:ak Z h (d.map item))(m:d.length=4):BQ Z h d:=by
 obtain⟨⟨i0,x⟩,⟨n,s⟩,⟨f,g⟩,⟨c,e⟩⟩:=ib m;obtain⟨G,_,rfl,i,a⟩:=ak.cons_inv (c:=[(n,s),(f,g),(c,e)].map item) a;obtain⟨H,_,rfl,j,a⟩:=ak.cons_inv (c:=[(f,g),(c,e)].map item) a;obtain⟨I,_,rfl,k,a⟩:=ak.cons_inv (c:=[(c,e)].map item) a;obtain⟨J,_,rfl,l,a⟩:=ak.cons_inv (c:=[]) a;cases a.nil_inv
 refine c0 i.dQ λt y C b o=>?_;subst b
 refine c0 j.dQ λu z D b p=>?_;subst b
 refine c0 k.dQ λv A E b q=>?_;subst b
 refine c0 l.dQ λw B F b r=>?_;subst b
 exact⟨_,_,_,_,_,_,_,_,_,_,_,_,_,_,_,_,_,_,_,_,o,p,q,r⟩
theorem GP{O:List (Int×SX)}(I:b+40<=960)(hl:(l+4,aa R n)∈Z)(ht:ak Z R (O.map item))(J:∃r,r<4/\O.map (·.2)=iK r):
  SP w b (.compLoop ic 0 (.ref<|k+4) (.ref<|j+4)<|au 135 A (m+4) (m7 ic) []) [(m+4,ab [] 0),(j+4,ab [] 0),(k+4,aF l 0)] Z (DL (O.map (·.2))):=by
 obtain⟨r,J,B⟩:=J;have h4:O.length=4:=by
  have:=congrArg Tn B;rw[aM] at this;rw[this];rcases eg J with rfl|rfl|rfl|rfl<;>rfl
 obtain⟨f,g,h,i,E,F,G,z,t,u,v,x,i0,C,D,y,a,c,d,e,m0,m1,m2,m3⟩:=GJ ht h4;have L:∀Ts∈[(l+4,aa [.ref<|f+4,.ref<|g+4,.ref<|h+4,.ref<|i+4] n),(f+4,ag [.int i0<|E+1,.str a<|t+1]),(g+4,ag [.int C<|F+1,.str c<|u+1]),(h+4,ag [.int D<|G+1,.str d<|v+1]),(i+4,ag [.int y<|z+1,.str e<|x+1])],Ts∈Z:=aq hl<|aq m0<|aq m1<|aq m2<|aq m3 ax;have M:∀{S U V Y y0 y1 y2 y3:SX},[S,U,V,Y]=[y0,y1,y2,y3]->S=y0/\U=y1/\V=y2/\Y=y3:=λTr=>by simpa using Tr
 have H:∀(a c d e:String) (P Q:Bool) (N T:Nat),br P Q w=w->pO m k j l f g h i z t u v x y a c d e P Q N T Z b (DL [a,c,d,e]):=λa c d e P Q N T Tt=>ah ⟨⟨rfl,rfl,rfl⟩,_,_,_,_,_,t,u,v,x,N+3,N+7,N+11,N+15,_,_,_,_,rfl,rfl,rfl⟩
 rcases eg J with rfl|rfl|rfl|rfl
 ·refine ei (M<|show[a,c,d,e]=iK 0 from B) λo p q s=>?_;subst o p q s
  exact P5 960 I (zd rfl) ay L (H _ _ _ _)
 ·refine ei (M<|show[a,c,d,e]=iK 1 from B) λo p q s=>?_;subst o p q s
  exact J3 960 I (zd rfl) ay L (H _ _ _ _)
 ·refine ei (M<|show[a,c,d,e]=iK 2 from B) λo p q s=>?_;subst o p q s
  exact PR 960 I (zd rfl) ay L (H _ _ _ _)
 ·refine ei (M<|show[a,c,d,e]=iK 3 from B) λo p q s=>?_;subst o p q s
  exact Ry 960 I (zd rfl) ay L (H _ _ _ _)
theorem oN{A F D Z:Led}:∀p∈F++(D++Z),p∈(A++(F++D))++Z:=λp h=>(bB<|mR p h).elim (λh=>bq<|az h)<|az
inductive oh(Z:Led)(d:Nat)(res:Bool×List (Int×SX)×b8)(ns:List SX):Prop
 |mk (l lo ca ln:Nat) (fC:List va) (lb lt:List (SX×Nat×Nat)) (vs lj:SX->List va) (ne oL:SX->Nat) (hd:(d+4,ag [.bool res.1,.ref<|l+4,.ref<|lo+4,.ref<|ca+4])∈Z) (hl:(l+4,aa fC ln)∈Z) (ht:ak Z fC (res.2.1.map item))
  (eK:(lo+4,ab (dE lb) 4)∈Z) (gm:(ca+4,ab (dE lt) 2)∈Z) (hb:(nA lb).map (·.1)=ns) (hq:(nA lt).map (·.1)=cH) (mb:∀p∈nA lb,(p.2+4,aa (vs p.1)<|ne p.1)∈Z) (mt:∀p∈nA lt,(p.2+4,aa (lj p.1)<|oL p.1)∈Z)
  (tb:fX Z (nA lb) vs res.2.2.lg) (tt:fS Z (nA lt) lj res.2.2.cd):oh Z d res ns
noncomputable def gq:b8:=⟨λa=>[],λa=>[]⟩
theorem tU:∀r,r<4->(iK r).Nodup:=by
 intro r a;rcases eg a with rfl|rfl|rfl|rfl<;>decide+kernel
theorem yU{b l G q y:Nat}{v s:List va}{m:List (Int×SX)}{n:List Call}{Z:Led}(hb:b+40<=640)(z:(l+4,aa v G)∈Z)(ht:ak Z v (m.map item))(U:(q+4,aa s y)∈Z)(TH:fJ Z s n)
  (u:∃r,r<4/\m.map (·.2)=iK r) (hw:∀c∈n,0<=c.1/\c.2.1∈cH) (TX:n.length<=100):
  SP w b (.call (.ref 135) ⟨[.ref<|l+4,.ref<|q+4],[]⟩) [] Z λr O M F P=>(O=[]/\M=[]/\P=[])/\∃d,r= .ok (.ret<|.ref<|d+4)/\oh (F++Z) d (d5 n m gq) (m.map (·.2)):=by
 refine Sn l G q y v s 640 hb (zd rfl) (aj (IG ar)<|aj (Pp ar)<|aj (i5 ar) ay) (aq z<|aq U ax) λb1 b2 N T e=>ah ⟨_,GP (b:=640) (zd rfl) z ht u,?_⟩;refine vu λTF t=>?_
 rintro r O M F P ⟨⟨rfl,rfl,rfl⟩,TR,TU,TS,v',it,q0,q1,q2,q3,y0,y1,y2,y3,H,I,J,L,o,rfl,rfl⟩;refine t<|⟨⟨rfl,rfl,rfl⟩,TR,TU,TS,v',_,_,_,_,_,_,_,_,it,y0,y1,y2,y3,rfl,rfl,λj T1=>ah ?_⟩;have Tx:[H,I,J,L].Nodup:=by
  refine aI u λr u hn=>?_
  rw[<-o,hn];exact tU r u
 have h4:m.length=4:=by have:=congrArg Tn o;rw[aM] at this;exact this
 let g:List (SX×Nat×Nat):=[(H,q0,y0),(I,q1,y1),(J,q2,y2),(L,q3,y3)];let i:List (SX×Nat×Nat):=[("f",T1+1,j+1),("g",T1+2,j+2)];let X:cB:={fa:=N,lo:=N+3,ca:=j,pc:=N+1,cl:=q,k0:=T,k1:=T+1,k2:=T1,k3:=T1+5,k4:=0,k5:=0,k6:=0,tw:=0,on:=0,lI:=4,mf:=2,v0:=.none,v4:=.none,aD:=default,eo:=dE g,gi:=dE i};have up:∀p∈Z,p∈[(N+7,ab (dE g) 4),(j+4,ab (dE i) 2)]++Z:=λp h=>az h
 have TM:∀x∈cH,∃a,(x,a)∈nA i:=λx hx=>by
  have D:x∈(nA i).map (·.1):=hx;refine aI (bO D) λp A TQ=>?_;subst TQ
  exact aB p.2 A
 have TL:∀p∈m,∃a,(p.2,a)∈nA g:=λp A=>by
  have D:p.2∈(nA g).map (·.1):=by
   show p.2∈[H,I,J,L];rw[<-o];exact U9 (f:=λx:Int×SX=>x.2) A
  exact aI (bO D) λp' TJ e=>(aB p'.2<|by rw[<-e];exact TJ)
 have TV:=Gj (b:=640) (X:=X) (a:=j+3) (c:=nA g) (d:=nA i) (e:=s) (f:=y) (zd rfl) rfl rfl Tx nR n 0 m l G v (ao (lu X<|.ref<|l+4) 4) none (λk=>[]) (λk=>[]) (λk=>0) (λk=>0) ([(N+7,ab (dE g) 4),(j+4,ab (dE i) 2)]++Z) gq 0
  ⟨.head _,mD g,ou Tx,.tail _<|.head _,mD i,ou nR,up _ U⟩ (TH.sub up) (up _ z) (ht.sub up) h4 TL (λc h=>⟨(hw c h).1,TM _ (hw c h).2⟩) (.inl rfl) (λp k=>.nil) (λp k=>.nil) (λx=>⟨VA _,VA _⟩) (by lia)
 refine⟨_,TV,?_⟩;refine vu λTF t=>?_
 rintro r O M F P ⟨⟨rfl,rfl⟩,R,nn,Q,Tu,TC,Tz,TB,TA,E,Tw,Tv,TY,rfl,Y,Ts,TG,TK,Tr,S⟩;rcases TK with⟨rfl,B,C⟩|⟨d,rfl,V,B,C⟩
 ·refine t ⟨⟨rfl,rfl⟩,E,R,nn,Q,Tu,_,_,_,_,_,_,rfl,?_⟩
  refine .inl ⟨rfl,λN2 k=>ah ⟨_,uk (n:=Tv) (k:=Tw) (zd rfl) (?_:_∈_) (Ts.sub ?_) TG,λa ys TO F2 hm Tt N3 k=>ah ⟨⟨rfl,rfl,rfl⟩,N3,rfl,?_⟩⟩⟩
  ·exact mR _ Y
  ·exact mR
  ·rw[C] at Tt
   refine .mk a (N+3) j TO ys g i TC TB Tz TA ?_ ?_ (Tt.sub ?_) ?_ ?_ o.symm rfl ?_ ?_ (Tr.sub ?_) (S.sub ?_)
   ·rw[B];exact da 0 rfl
   ·refine iQ ?_ hm;((repeat' with_reducible refine cT ?_ ?_)<;>intro TP h<;>with_reducible solve_by_elim (maxDepth:=20) [aL,aR])
   ·((repeat' with_reducible refine cT ?_ ?_)<;>intro TP h<;>with_reducible solve_by_elim (maxDepth:=20) [aL,aR])
   ·exact bq<|az<|az<|az<|.head _
   ·exact bq<|az<|az<|az<|.tail _<|.head _
   ·exact fc (da 1 rfl)<|fc (da 2 rfl)<|fc (da 3 rfl)<|fc (da 4 rfl) fz
   ·exact fc (da 5 rfl)<|fc (da 6 rfl) fz
   ·exact r3
   ·exact r3
 ·refine t ⟨⟨rfl,rfl⟩,E,R,nn,Q,Tu,_,_,_,_,_,_,rfl,?_⟩
  refine .inr (aY d rfl V (λN2 k=>⟨⟨rfl,rfl,rfl⟩,d,rfl,?_⟩));refine .mk E (N+3) j Tv Tw g i TC TB Tz TA ?_ ?_ ?_ ?_ ?_ o.symm rfl ?_ ?_ (Tr.sub ?_) (S.sub ?_)
  ·rw[B];exact oN _ V
  ·exact oN _ Y
  ·rw[<-C];exact Ts.sub oN
  ·exact bq<|az<|az<|.head _
  ·exact bq<|az<|az<|.tail _<|.head _
  ·exact fc (da 0 rfl)<|fc (da 1 rfl)<|fc (da 2 rfl)<|fc (da 3 rfl) fz
  ·exact fc (da 4 rfl)<|fc (da 5 rfl) fz
  ·exact oN
  ·exact oN
abbrev eh:Expr:=bM<|bJ (b4 165) 0
abbrev ew:Expr:=bh 0<|a6 eh
inductive fm(b0:Nat)(c:Td)(sub Z:Led)(x:String)(kB:Nat->va->List va->Nat->S9->Led->Prop):Prop
 |mk (m ds) (hp:∀p∈sub.drop 3,fK p.2) (h0:SP w b0 c (sub.take 3) (sub.drop 3++Z) (cC (sub.drop 3++Z) m (dF x) ds)) (h1:m≠0) (h2:∀t v a n o F,ak (F++Z) a ds->kB t v a n o F):fm b0 c sub Z x kB
def ek(b:Nat)(x:String):aA:=λc sub Z a=>fm b c sub Z x λt v d n o F=>a 0 (.ok .next) ([ab [ent x t v] 1,aa d n,o]++(sub.drop 3).map (·.2)) [] F []
theorem f7(i:b<=a):(ek a x).Ok w b:=by
 rintro c sub Z s ⟨m,u,j,h,e,f⟩;have z:=h.pin λr o n F l h=>h.1.2.2
 rw[V9] at z;refine z.mono i (λd q=>q) ?_;rintro r C B F l d ⟨_,rfl,rfl,⟨rfl,rfl,_⟩,y,A,p,n,o,⟨g,_⟩|⟨_,t,v,rfl,rfl⟩,rfl,k⟩ d
 ·exact absurd g e
 ·exact⟨0,f t v p n o F<|k.lT j⟩
def EW(e f t j a tr:Nat)(row:Int):Q7:=λm n N T Z b R=>ae [1,1] [f,e]<|ee 960 (bi "int.__rshift__" [.int row<|tr+1,.int (SR j)<|a+1]) [] Z (λd h=>∀k T7:Nat,ee 960 (bi "int.__and__" [.int d<|h+1,.int 1<|T7+1]) [] Z (λc g=>∀i l:Nat,R (H7<|.int c<|g+1) [ab [ent "k" t<|.int (SR j)<|a+1] 1] [] [] []))
theorem PZ:a9 w [(a+4,ab [ent "k" t<|.int (SR j)<|d+1] 1)] [(b+4,af<|.int row<|tr+1)] [gD 960] (S0 f 0 g e<|au 165 c (a+4) (aQ ew ["row"]) [("row",b+4)]) (bN (a6 ew)<|au 165 c (a+4) (aQ ew ["row"]) [("row",b+4)]) (EW a b t j d tr row):=ba 3 12 0x1151
def E6(h e tr:Nat)(row:Int):Q7:=λm n N T Z b R=>ae [10,2] [N,N+1]<|fm 880 (S0 ew 0 (.ref<|N+5) (.ref<|N+6)<|au 165 (h) (N+7) (aQ ew ["row"]) [("row",e+4)]) [(N+7,ab [] 0),(N+6,aa [] 0),(N+5,av "range_iterator" [.int 0 0,.int 4 0,.int 1 0]),(e+4,af<|.int row<|tr+1)] Z "k" (λr s f d q c=>∀a g:Nat,ae [3,3,1] [N+3,N+2,a]<|gn (bi "sum.loop" [.ref<|a+4,.ref<|a+5,.int 0 0,.int 0 0]) [(a+4,av "list_iterator" [.ref<|N+6,.int 0 0]),(a+5,aa [.int 0<|g+1] 0)] (([(N+6,aa f d)]++(c++[]))++Z) (λi j o p=>∀k l:Nat,R (H7<|.int i<|j+1) [af<|.int row<|tr+1] [] ([(N+6,aa f d)]++(c++[])) []))
theorem GL:a9 w [(a+4,af<|.int row<|tr+1)] [] [ek 880 "k",jG] (S0 e 0 f d<|au 165 b (c+4) (aW eh) [("row",a+4)]) (bN (a6 eh)<|au 165 b (c+4) (aW eh) [("row",a+4)]) (E6 b a tr row):=ba 17 53 0x6ca343687b1baca7d1442c9329aed58d00379f851db9eb4c4529
theorem M7(a b:Int)(t u:Xi):Gives (Tj.«int.__and__» ⟨[.int a t,.int b u],[]⟩) (.int<|X2 a b):=
 .of_wp λM A E s Q h=>by obtain⟨c,g,d,f,e⟩:=s;wp_walk;exact aX _ rfl h
noncomputable def vp(a:Int)(k:Nat):Int:=if(k:Int)≥((Tj.Int.intBits a:Nat):Int) then(if a<0 then-1 else 0) else a.fdiv (2 ^ ((k:Int).toNat))
def cF(a:Int)(k:Nat):Int:=X2 (vp a k) 1
theorem MV(a:Int):X2 a 1=0\/X2 a 1=1:=by
 unfold X2;have b:(decide ((0:Int)<=1))=true:=rfl;rw[b];cases decide (0<=a) with
 |true=>
  show((a.toNat&&& (1:Int).toNat:Nat):Int)=0\/_;have:a.toNat&&& 1=a.toNat % 2:=Nat.and_one_is_mod _;show((a.toNat&&& 1:Nat):Int)=0\/((a.toNat&&& 1:Nat):Int)=1;rw[this];exact(X3 _).imp (congrArg SR) (congrArg SR)
 |false=>
  have:((1:Int).toNat&&& (ZF a).toNat)=(ZF a).toNat % 2:=by
   show 1&&& _=_;rw[Nat.and_comm];exact Nat.and_one_is_mod _
  show(1:Int)-(((1:Int).toNat&&& (ZF a).toNat:Nat):Int)=0\/(1:Int)-(((1:Int).toNat&&& (ZF a).toNat:Nat):Int)=1;rw[this];exact(X3 _).elim (λe=>.inr<|by rw[e];rfl) λe=>.inl<|by rw[e];rfl
theorem lB(a:Int)(k:Nat):cF a k=0\/cF a k=1:=MV _
section
variable{b:Nat}{Z:Led}
theorem xn:SP w b (.builtin "int.__rshift__" ⟨[.int a t,.int (SR k) u],[]⟩) [] Z (Ri (vp a k) []):=by
 have hk:¬((k:Int)<0):=by exact V5.mpr (Vo _)
 unfold vp;by_cases h:(k:Int)≥((Tj.Int.intBits a:Nat):Int)
 ·rw[if_pos h]
  exact SP.int F.entry_int_rshift (by decide+kernel) (AutoIntG9.int___rshift___int_int_1 a t k u hk h) λt=>di t rfl rfl rfl rfl rfl
 ·rw[if_neg h]
  exact SP.int F.entry_int_rshift (by decide+kernel) (AutoIntG0.int___rshift___int_int_2 a t k u hk h) λt=>di t rfl rfl rfl rfl rfl
theorem vY:SP w b (.builtin "int.__and__" ⟨[.int a t,.int c u],[]⟩) [] Z (Ri (X2 a c) []):=
 SP.int F.entry_int_and (by decide+kernel) (M7 a c t u) λt=>di t rfl rfl rfl rfl rfl
end
theorem Lz:ew=bD (a6 ew) (.Name "k"<|bb (aG ew).target) (aG ew).iter [] (aW ew) (bX ew):=by kernel_rfl
theorem Rg:eh=bD (a6 eh) (.Name "row"<|bb (aG eh).target) (aG eh).iter [] (aW eh) (bX eh):=by kernel_rfl
section
variable{b e f d c m g l n:Nat}{h:Int}{Z:Led}{k:List va}{a:List Int}
theorem JI(r:b+40<=960)(y:(c+4,af<|.int h<|m+1)∈Z):
  SP w b (.compLoop ew 0 (.ref<|e+4) (.ref<|f+4)<|au 165 g (d+4) (aQ ew ["row"]) [("row",c+4)]) [(d+4,ab [] 0),(f+4,aa [] 0),(e+4,aK 0<|SR 4)] Z (cC Z 4 (dF "k")<|((Tp 4).map λo=>cF h o).map .int):=by
 have z:=qo (b:=b) (e:=e) (f:=f) (d:=d) (m:=4) (Z:=Z) (g:=a6 ew) (j:=(aG ew).iter) (h:=[]) (k:=aW ew) (q:=bX ew) (x:="k") (L:=bb (aG ew).target) (p:=λi=>true) (D:=λo=>.int<|cF h o) (a:=au 165 g (d+4) (aQ ew ["row"]) [("row",c+4)]) r ⟨by kernel_rfl,by kernel_rfl,rfl⟩ (zd rfl)
  (λj u t s v q=>hY) (λj u t s v q i=>?_)
 ·rw[<-Lz] at z;exact z
 ·exact VS.b5<|PZ 960 r (zd rfl) (aj (iE ar) ay) (aq (q _ y) ax) λA B N T C=>ah ⟨_,xn,λF i T7=>⟨_,vY,λE i i=>aY _ rfl rfl (.int _ _)⟩⟩
def f6(h:Int):Int:=((Tp 4).map λi=>cF h i).sum
theorem Ll(E:b+40<=880)(G:(l+4,aa k n)∈Z)(B:ak Z k (a.map .int))(R:a.length<=900):
  SP w b (.compLoop eh 0 (.ref<|e+4) (.ref<|f+4)<|au 165 g (d+4) (aW eh) [("row",c+4)]) [(c+4,aJ),(f+4,aa [] 0),(e+4,aF l 0)] Z (kr Z<|(a.map f6).map .int):=by
 have C:k.length=a.length:=by rw[B.len,aM]
 have z:=vG (b:=b) (e:=e) (f:=f) (a:=c) (l:=l) (n:=n) (s:=k) (Z:=Z) (g:=a6 eh) (h:=(aG eh).iter) (j:=aW eh) (q:=bX eh) (x:="row") (L:=bb (aG eh).target) (D:=λi=>.int<|f6<|a.getD i 0) (d:=au 165 g (d+4) (aW eh) [("row",c+4)]) (by exact SQ ‹_› (zd rfl)) ⟨by kernel_rfl,by kernel_rfl,rfl⟩ G (by exact d4 ‹_› (SQ ‹_›<|zd rfl))
  (λi v M y Q=>?_)
 ·have u:=ju (n:=k.length) (p:=λj=>true) (f:=λi=>VX<|f6<|a.getD i 0) (l:=a) (λj=>true) (λr=>VX<|f6 r) C λi Tr u=>⟨rfl,by rw[Ta,u];rfl⟩
  rw[Vu.mpr λj j=>rfl,Vu.mpr λj j=>rfl] at u;rw[<-Rg,u] at z;rw[Vb];exact z
 ·have A:i<a.length:=by rw[<-C];exact(Tb.mp y).1
  refine aI (B.get (i:=i) (d:=.int<|a.getD i 0)<|by rw[Vi,Ti A,Ta,Ti A];rfl) λY x I=>?_
  rw[y] at x;cases x;obtain⟨m,rfl⟩:=I.int_inv;refine VS.b5<|GL 880 E (zd rfl) (aj (f7 ar)<|aj kh ay) ax λO P N T u=>ah ⟨_,_,(λq s=>by rcases dg s with rfl;exact cZ _),JI (b:=880) (by decide)<|.head _,(by decide),λt v L J o F H j j=>ah ⟨_,_,_,L,J,0,_,_,rfl,rfl,.head _,H.sub λq s=>?_,λV S U j j=>aY _ rfl rfl (.int _ _)⟩⟩;simp only[VK] at s⊢;rcases s with s|s<;>simp[s]
end
inductive iJ(c:Td)(sub Z:Led)(k:Int->Nat->Prop):Prop
 |mk (l a) (j:Nat) (u vs n x t) (h0:c= .builtin "list.__getitem__" ⟨[.ref l,.int a u],[]⟩) (h1:iU sub Z l vs n) (h2:a=j) (h3:j<1000) (h4:vs[j]?=some (.int x<|t+1)) (h5:k x t):iJ c sub Z k
def jO:aA:=λc sub Z a=>iJ c sub Z λx t=>a 0 (H7<|.int x<|t+1) (sub.map (·.2)) [] [] []
theorem m8:jO.Ok w b:=by
 rintro c sub Z g ⟨l,h,j,u,i,n,x,t,rfl,d,e,a,f,H⟩;exact kj d e a f [] ax ⟨0,H⟩
inductive sQ(c:Td)(sub Z:Led)(k:List va->Nat->Prop):Prop
 |mk (l a) (j:Nat) (u v vs n) (h0:c= .builtin "list.__setitem__" ⟨[.ref l,.int a u,v],[]⟩) (h1:sub=[(l,aa vs n)]) (h2:a=j) (h3:j<1000) (h4:j<vs.length) (h5:k (vs.set j v) n):sQ c sub Z k
def qB:aA:=λc sub Z a=>sQ c sub Z λb n=>a 0 (H7 .none) [aa b n] [] [] []
theorem Qv:qB.Ok w b:=by
 rintro c sub Z y ⟨l,m,j,u,v,a,n,rfl,rfl,p,E,x,H⟩;refine SP.builtin entry_list_setitem (by decide+kernel) λA B h N T g d I R C G F z D s=>?_
 have k:=D.own (l,aa a n)<|.head _;have t:XY m=true:=fitsIndex_of (by lia) (by lia);show To _ _ (VY (.int m u)>>=_) _ _ _;refine SU<|YG t ?_;subst p;show To _ _ ((seqItemAt l j>>=λr=>pure (r.map (j,·)))>>=_) _ _ _;refine SU<|SU<|wpAny_seqItemAt k rfl (Te ?_);rw[show(⟨a⟩:Array va)[j]?=some a[j] by simp[x]];show To _ _ (setSeqItemAt l j v>>=_) _ _ _;refine SU<|wpAny_setSeqItemAt k rfl ?_;have o:([(l,aa a n)]:Led)[0]?=some (l,aa a n):=rfl;have i:Vr (·.setIfInBounds j v) (aa a n)=aa (a.set j v) n:=by
  unfold Vr aa;have:(⟨a⟩:Array va).setIfInBounds j v=⟨a.set j v⟩:=by simp
  simp only[this];have:((⟨a.set j v⟩:Array va).size==(⟨a⟩:Array va).size)=true:=by simp
  rw[this];rfl
 have e:=D.update (f:=Vr (·.setIfInBounds j v)) o (by rw[i];rfl);rw[i] at e;exact Te<|s _ [aa (a.set j v) n] [] [] [] _ N T g ⟨0,H⟩ rfl (λJ q=>nomatch q) (by rw[aP,aP];exact e)
abbrev kD:Wq:=bJ (b4 165) 1
def kS(b c d u rw a:Nat)(e:Int):List SS:=[ent "rows" b<|.ref<|rw+4,ent "total" c<|.int e<|u+1,ent "shares" d<|.ref<|a+4]
def xp(c rw a d p q s u n:Nat)(e x left:Int)(f:List va)(B:Nat->Nat):Q7:=λj k N Tu Z b R=>ae [2] [d]<|oj (bi "range_iterator.__next__" [.ref<|d+4]) [(d+4,aK x left)] (λg l t=>∀S T5:Nat,ae [4] [c] ((((0:Int)<(4:Int))/\((4:Int)<(1073741824:Int)))/\∀TK:Xi,∀L Tw:Nat,(((0:Int)<(3:Int))/\∀F:Xi,∀M Tx:Nat,ae [4] [a]<|iJ (bi "list.__getitem__" [.ref<|a+4,.int (YQ (X4 e 4) 3)<|F+1]) [(a+4,aa f n)] Z (λA TL=>∀O Tz:Nat,(((0:Int)<A)->∀P TA:Nat,ae [2] [c] ((((0:Int)<(4:Int))/\((4:Int)<(1073741824:Int)))/\∀TM:Xi,∀Q TB:Nat,(((0:Int)<(3:Int))/\∀v:Xi,∀T TC:Nat,ae [3] [a]<|iJ (bi "list.__getitem__" [.ref<|a+4,.int (YQ (X4 e 4) 3)<|v+1]) [(a+4,aa f n)] Z (λH TO=>∀U C:Nat,ae [3] [a]<|sQ (bi "list.__setitem__" [.ref<|a+4,.int (YQ (X4 e 4) 3)<|v+1,.int (H-1)<|C+2]) [(a+4,aa f n)] Z (λz m=>∀V TF:Nat,ae [2] [c] ((((0:Int)<(12:Int))/\((12:Int)<(1073741824:Int)))/\∀TP:Xi,∀Y TG:Nat,(((0:Int)<(3:Int))/\∀y:Xi,∀Tr TH:Nat,ae [3] [a]<|iJ (bi "list.__getitem__" [.ref<|a+4,.int (YQ (X4 e 12) 3)<|y+1]) [(a+4,aa z m)] Z (λI TQ=>∀Ts D:Nat,ae [3] [a]<|sQ (bi "list.__setitem__" [.ref<|a+4,.int (YQ (X4 e 12) 3)<|y+1,.int (I+1)<|D+2]) [(a+4,aa z m)] Z (λG E=>∀Tt TJ:Nat,SP (br j k w) b (aS kD (.ref<|d+4)<|aT 165<|c+4) [(c+4,ao [ent "rows" p<|.ref<|rw+4,ent "total" q<|.int e<|u+1,ent "shares" s<|.ref<|a+4,ent "k" (B T5)<|.int g<|t+1] 4),(a+4,aa G E),(d+4,aK (g+1)<|l-1)] Z λr o n h i=>R r o n (h++[]) i)))))))))/\((¬((0:Int)<A))->∀J Tv:Nat,SP (br j k w) b (aS kD (.ref<|d+4)<|aT 165<|c+4) [(c+4,ao [ent "rows" p<|.ref<|rw+4,ent "total" q<|.int e<|u+1,ent "shares" s<|.ref<|a+4,ent "k" (B T5)<|.int g<|t+1] 4),(a+4,aa f n),(d+4,aK (g+1)<|l-1)] Z λr o n h i=>R r o n (h++[]) i)))))
noncomputable def B9:Nat:=0x3bb83e6daf470b97196e8cc5f2f20e2c184684189388e5db6f40358eac92b5cc9fe6f37f32745aef273ec1de9bf304f0c9669c3634bf146f5371bf11b07851b45a3779df32
theorem Qt(a rw c b e f g u n:Nat)(h x d:Int)(i:List va):CK w [(a+4,ao (kS e f g u rw c h) 3),(c+4,aa i n),(b+4,aK x d)] [] [jM,eR,jO,dX,qB] (aS kD (.ref<|b+4)<|aT 165<|a+4) (xp a rw c b e f g u n h x d i (λt=>t)):=aV 59 95 B9
theorem Ph(a rw c b e f g h u n:Nat)(i x d:Int)(j:List va)(k:va):CK w [(a+4,ao (kS e f g u rw c i++[ent "k" h k]) 4),(c+4,aa j n),(b+4,aK x d)] [] [jM,eR,jO,dX,qB] (aS kD (.ref<|b+4)<|aT 165<|a+4) (xp a rw c b e f g u n i x d j (λl=>h)):=aV 59 95 B9
def QP(a n:Nat)(x left:Int)(f:List va)(d:S9):Q7:=λi j N T Z b R=>ae [2] [a]<|ot (bi "range_iterator.__next__" [.ref<|a+4]) [(a+4,aK x left)] (λg e c=>∀h T5:Nat,ae [1] [c+1]<|R (.ok .next) [d,aa f n,aK g e] [] [] [])
theorem Oc(b f a n:Nat)(x d:Int)(e:List va)(c:S9):CK w [(b+4,c),(f+4,aa e n),(a+4,aK x d)] [] [pU] (aS kD (.ref<|a+4)<|aT 165<|b+4) (QP a n x d e c):=aV 14 12 0x4848d1fca
noncomputable def jJ(i j:Nat)(a:List Int):List Int:=if 0<a.getD i 0 then(a.set i<|a.getD i 0-1).set j ((a.set i<|a.getD i 0-1).getD j 0+1) else a
def mA(i j:Nat):Nat->List Int->List Int
 |0,a=>a
 |m+1,a=>mA i j m<|jJ i j a
theorem MR(i j:Nat)(a:List Int):(jJ i j a).length=a.length:=by
 unfold jJ;split<;>simp
theorem ak.su:∀(j:Nat) {b:List va} {a:List Int},ak Z b (a.map .int)->ak Z (b.set j<|.int x<|t+1) ((a.set j x).map .int)
 |j,_,[],h=>by rw[h.nil_inv];exact .nil
 |0,_,y::a,h=>by
  refine bE (ak.cons_inv (c:=a.map .int) h) λv b d f c=>?_;subst d
  exact .cons (.int _ _) c
 |j+1,_,y::a,h=>by
  refine bE (ak.cons_inv (c:=a.map .int) h) λv b d e c=>?_;subst d
  exact .cons e (c.su j)
theorem ak.intAt{a:List Int}(h:ak Z b (a.map .int))(e:j<a.length):∃t,b[j]?=some (.int (a.getD j 0)<|t+1):=by
 refine hide λQ c=>aI (h.get (i:=j) (d:=.int<|a.getD j 0)<|by rw[Vi,Ta,Ti e];rfl) λv f g=>aw g.int_inv λt k=>?_;subst k
 exact c<|⟨t,f⟩
inductive sT(xO:List SS)(xs:List Int)(r:Vz)(objs:List S9)(new F ro:Led):Prop
 |mk (h1:r= .ok .next/\new=[]/\F=[]/\ro=[]) (es nn vs n it) (h2:objs=[ao (xO++es) nn,aa vs n,it]) (h3:ak [] vs (xs.map .int))
inductive wm(b0:Nat)(c:Td)(sub Z:Led)(k:List SS->Nat->List va->Nat->S9->Prop):Prop
 |mk (xs) (h0:SP w b0 c sub Z (sT (take3<|b9 sub) xs)) (h1:∀es a vs n it,ak [] vs (xs.map .int)->k es a vs n it):wm b0 c sub Z k
def DM(b:Nat):aA:=λc sub Z a=>wm b c sub Z λd f g n e=>a 0 (.ok .next) [ao (take3 (b9 sub)++d) f,aa g n,e] [] [] []
theorem LZ(f:b<=d):(DM d).Ok w b:=by
 rintro c sub Z l ⟨m,h,H⟩;refine h.mono f (λa q=>q) ?_;rintro a a a a a a ⟨⟨rfl,rfl,rfl,rfl⟩,e,j,k,n,i,rfl,g⟩ a;exact⟨0,H e j k n i g⟩
theorem x6:∀C∈[jM,eR,jO,dX,qB],aA.Ok w 960 C:=aj sS<|aj lp<|aj m8<|aj mc<|aj Qv ay
theorem G5{b A f B q s z u rw i j:Nat}{g:Int}{Z:Led}(G:b+40<=960)(H:(g.fdiv 4).fmod 3=i)(O:(g.fdiv 12).fmod 3=j)(Ts:i<3)(Tt:j<3):∀(m:Nat) (x:Int) (C:List SS) (D:Nat) (c:List va) (n:Nat) (d:List Int),((C=[]/\D=3)\/∃t v,C=[ent "k" t v]/\D=4)->d.length=3->ak [] c (d.map .int)->
  SP w b (aS kD (.ref<|B+4)<|aT 165<|A+4) [(A+4,ao (kS q s z u rw f g++C) D),(f+4,aa c n),(B+4,aK x (m:Int))] Z (sT (kS q s z u rw f g)<|mA i j m d):=by
 intro m;induction m with
 |zero=>intro x C D c n d M F p;exact Oc A f B n x 0 c (ao (kS q s z u rw f g++C) D) 960 G (zd rfl) (aj qI ay) ax λk l N T e=>ah ⟨_,_,_,rfl,rfl,by decide,λa a a=>ah ⟨⟨rfl,rfl,rfl,rfl⟩,C,D,c,n,_,rfl,p⟩⟩
 |succ m ih=>
  intro x C D c n d M F p;have hm:((m+1:Nat):Int)-1=(m:Int):=by lia
  have P:∀{c:List va} {d:List Int},d.length=3->ak [] c (d.map .int)->c.length=3:=λh h'=>by rw[h'.len,aM,h]
  have J:∀(k l:Bool) (y:Int) (t v:Nat) (c:List va) (n:Nat),br k l w=w->ak [] c ((jJ i j d).map .int)->
    SP (br k l w) b (aS kD (.ref<|B+4)<|aT 165<|A+4) [(A+4,ao (kS q s z u rw f g++[ent "k" t<|.int x<|v+1]) 4),(f+4,aa c n),(B+4,aK y<|((m+1:Nat):Int)-1)] Z λr o n V Q=>sT (kS q s z u rw f g) (mA i j (m+1) d) r o n (V++[]) Q:=λk l y t v c n e p=>by
   rw[e,hm];have Tv:=ih y [ent "k" t<|.int x<|v+1] 4 c n (jJ i j d) (.inr<|cA _ _ rfl rfl) (by rw[MR,F]) p;exact Tv.mono ar (λa Tu=>Tu) λr o n Tw Q a h a=>by rw[aP];exact h
  refine aw (p.intAt (j:=i)<|by exact V4 ‹_<_› (Y9 ‹_›)) λS L=>?_
  have E:=p.su (x:=d.getD i 0-1) (t:=0) i;have go:∀(U:Nat->Nat) (k l:Bool) (N T:Nat),br k l w=w->xp A rw f B q s z u n g x ((m+1:Nat):Int) c U k l N T Z b (sT (kS q s z u rw f g)<|mA i j (m+1) d):=λU k l N T e=>by
   refine ah ⟨_,_,_,rfl,rfl,by exact Xe.mpr (Vl _),λR N5 T5=>ah ⟨⟨by decide,by decide⟩,λTC a a=>⟨by decide,λTF a a=>ah ⟨_,_,i,_,c,n,_,S,rfl,.inl rfl,H,by omega,L,λa a=>⟨λI a a=>ah ⟨⟨by decide,by decide⟩,λTG a a=>⟨by decide,λTH a a=>ah ⟨_,_,i,_,c,n,_,S,rfl,.inl rfl,H,by omega,L,λTx Y=>ah ⟨_,_,i,_,_,c,n,rfl,rfl,H,by omega,by rw[P F p];exact Ts,λa a=>ah ⟨⟨by decide,by decide⟩,λTJ a a=>⟨by decide,λTK a a=>?_⟩⟩⟩⟩⟩⟩,λI a a=>?_⟩⟩⟩⟩⟩
   ·have E:=p.su (x:=d.getD i 0-1) (t:=Y+1) i
    have l1:(d.set i<|d.getD i 0-1).length=3:=by rw[List.length_set,F]
    refine aw (E.intAt (j:=j)<|by omega) λtj gj=>ah ⟨_,_,j,_,_,n,_,tj,rfl,.inl rfl,O,by omega,gj,λTz Tr=>ah ⟨_,_,j,_,_,_,n,rfl,rfl,O,by omega,by rw[P l1 E];exact Tt,λTA TB=>J k l _ _ R _ _ e ?_⟩⟩;have h2:=E.su (x:=(d.set i<|d.getD i 0-1).getD j 0+1) (t:=Tr+1) j;unfold jJ;rw[if_pos I];exact h2
   ·refine J k l _ _ R _ _ e ?_
    unfold jJ;rw[if_neg I];exact p
  rcases M with⟨rfl,rfl⟩|⟨t,v,rfl,rfl⟩
  ·exact Qt A rw f B q s z u n g x ((m+1:Nat):Int) c 960 G (zd rfl) x6 ax (go _)
  ·exact Ph A rw f B q s z t u n g x ((m+1:Nat):Int) c v 960 G (zd rfl) x6 ax (go _)
def LF(l u:Nat)(f:Int):Q7:=λt v N T Z b R=>ae [5,3,2] [N,l,N+1]<|kk 840 (S0 eh 0 (.ref<|N+5) (.ref<|N+6)<|au 165 (N+4) (N+7) (aW eh) [("row",N+8)]) [(N+8,aJ),(N+6,aa [] 0),(N+5,av "list_iterator" [.ref<|l+4,.int 0 0])] Z (λA n i z d=>∀o g:Nat,ae [3] [N] (((0:Int)<(4:Int))/\∀k:Xi,∀a e:Nat,ae [7] [a]<|fY (bi "range.__iter__" [.ref<|a+4]) [(a+4,av "range" [.int 0<|e+1,.int (YQ f 4)<|k+1,.int 1<|e+2])] (λh c=>∀p r:Nat,ae [1] [c]<|wm 840 (aS kD (.ref<|c+4)<|aT 165<|N+4) [(N+4,ao [ent "rows" T<|.ref<|l+4,ent "total" (T+1)<|.int f<|u+1,ent "shares" g<|.ref<|N+6] 3),(N+6,aa n i),(c+4,aK (0:Int) ((SR h):Int))] ((d++[])++Z) (λw y m j x=>∀q s:Nat,ae [1] [N]<|R (H7<|.ref<|N+6) [] [] ([(N+6,aa m j)]++(d++[])) []))))
theorem IB:CK w [] [(l+4,aa b n)] [n7 840,eR,ik,DM 840] (Vh (.ref 165) ⟨[.ref<|l+4,.int a<|u+1],[]⟩) (LF l u a):=aV 496 62 0x4c47b5dd378c1fc0fd2f260032cb708693c10dde0fc08502e95e61c0f15efa372a94017543102db51226576ce1ad88f9a4d1936a0cd297411e714079d7d001138709b11
theorem ak.ints:∀{b:List va} {a:List Int},ak Z b (a.map .int)->ak c b (a.map .int)
 |_,[],h=>by rw[h.nil_inv];exact .nil
 |_,x::a,h=>by
  refine bE (ak.cons_inv (c:=a.map .int) h) λv b g d e=>?_;subst g
  refine aw d.int_inv λt f=>?_;subst f
  exact .cons (.int _ _) e.ints
theorem jY(a:Int){k:Nat}(hk:0<k):∃i:Nat,a.fmod k=i/\i<k:=by
 have c:=Int.fmod_nonneg_of_pos a (b:=(k:Int))<|Xe.mpr hk;have d:=Int.fmod_lt_of_pos a (b:=(k:Int))<|Xe.mpr hk;exact aX (a.fmod k).toNat (WY c).symm<|(Int.toNat_lt c).mpr d
def ox(b:List Int)(a:Int):List Int:=mA ((a.fdiv 4).fmod 3).toNat ((a.fdiv 12).fmod 3).toNat (a.fmod 4).toNat<|b.map f6
theorem Gy{b l n u:Nat}{a:Int}{Z:Led}{d:List va}{c:List Int}(x:b+40<=840)(q:(l+4,aa d n)∈Z)(E:ak Z d (c.map .int))(t:c.length=3):
  SP w b (.call (.ref 165) ⟨[.ref<|l+4,.int a<|u+1],[]⟩) [] Z (Dl Z ((ox c a).map .int) []):=by
 refine hide λQ v=>aI (jY a (k:=4)<|zd rfl) λm r R=>aI (jY (a.fdiv 4) (k:=3)<|zd rfl) λi g z=>aI (jY (a.fdiv 12) (k:=3)<|zd rfl) λj p B=>v ?_;have C:a.fmod 4=SR m:=r;refine IB 840 x (zd rfl) (aj (pz ar)<|aj lp<|aj j1<|aj (LZ ar) ay) (aq q ax) λM O N T e=>ah ⟨_,(λf h=>nomatch h),Ll (b:=840) (a:=c) (k:=d) (zd rfl) q E<|by exact d4 ‹_› (zd rfl),λV I k o F G f s=>ah ⟨by decide,λY f J=>ah ⟨_,m,_,_,_,rfl,by rw[C],by exact SQ (Wz ‹_›) (zd rfl),λL f f=>ah ⟨_,G5 (b:=840) (q:=T) (s:=T+1) (z:=s) (u:=u) (rw:=l) (zd rfl) g p z B m 0 [] 3 I k (c.map f6) (.inl ⟨rfl,rfl⟩) (by rw[aM,t]) G.ints,λP U d n S H f f=>ah ⟨_,d,n,rfl,rfl,rfl,rfl,.head _,?_⟩⟩⟩⟩⟩;have e:ox c a=mA i j m (c.map f6):=by
  unfold ox;have D:a.fmod 4=(m:Int):=r;have y:(a.fdiv 4).fmod 3=(i:Int):=g;have A:(a.fdiv 12).fmod 3=(j:Int):=p;rw[D,y,A];simp only[WW]
 rw[e];exact H.ints
abbrev lV:Wq:=bJ (b4 160) 0
abbrev dx:Expr:=bM<|bJ (cR lV) 0
abbrev eE:Expr:=bh 0<|bh 1<|bM<|bJ (cR lV) 1
def Be(ok:Bool):aU:=λr f a F g=>(a=[]/\g=[])/\(if ok then r= .ok .next else r= .ok (.ret<|.bool false))/\∃b c d e,f=[b,c,d,e]
inductive uG(b0:Nat)(c:Td)(sub Z:Led)(k0 k1:S9->S9->S9->S9->Led->Prop):Prop
 |mk (ok) (h0:SP w b0 c sub Z (Be ok)) (h1:ok=true->∀a b d e F,k0 a b d e F) (h2:ok=false->∀a b d e F,k1 a b d e F):uG b0 c sub Z k0 k1
def Cu(g:Nat):aA:=λc sub Z f=>uG g c sub Z (λa b d e F=>f 0 (.ok .next) [a,b,d,e] [] F []) λa b d e F=>f 1 (H7<|.bool false) [a,b,d,e] [] F []
theorem Ke(n:b<=d):(Cu d).Ok w b:=by
 rintro c sub Z t ⟨ok,h,l,m⟩;refine h.mono n (λa q=>q) ?_;rintro r a a F a a k a;refine cK k λo e s=>iX s λf g i j p=>?_;clear k;obtain⟨rfl,rfl⟩:=o;subst p
 cases ok with
 |true=>cases(show r= .ok .next from e);exact⟨0,l rfl f g i j F⟩
 |false=>cases(show r= .ok (.ret<|.bool false) from e);exact⟨1,m rfl f g i j F⟩
def Q4(l m:Nat):Q7:=λn o N T Z b R=>ae [2,2,7] [N+1,N,N+4]<|fY (bi "range.__iter__" [.ref<|N+8]) [(N+8,av "range" [.int 0<|T+3,.int 8<|T+2,.int 1<|T+4])] (λe a=>∀f i:Nat,ae [1] [a]<|uG 800 (aS lV (.ref<|a+4)<|dC 160 (N+4) [("some",N+7),("mask",N+6),("shares",N+5)]) [(N+4,ao [ent "needs" T<|.ref<|m+4] 1),(N+6,aJ),(N+7,aJ),(a+4,aK (0:Int) ((SR e):Int))] ([(N+5,af<|.ref<|l+4)]++Z) (λp r t v c=>∀g j:Nat,R (H7<|.bool true) [] [] (c++[(N+5,af<|.ref<|l+4)]) []) (λq s u w d=>∀h k:Nat,R (H7<|.bool false) [] [] (d++[(N+5,af<|.ref<|l+4)]) []))
theorem Iz:CK w [] [(l+4,aa c a),(m+4,aa d b)] [ik,Cu 800] (Vh (.ref 160) ⟨[.ref<|l+4,.ref<|m+4],[]⟩) (Q4 l m):=aV 481 46 0x1173f764c3beefccd0576f7dbcdad5d4a3ac9564d8fa27434ee2c488f056f4d72365d0b3a5a967afdbd3cb698a721f11e
def Q8(i l k A s j B:Nat)(x left:Int):Q7:=λF G N T Z b R=>ae [2] [j]<|oj (bi "range_iterator.__next__" [.ref<|j+4]) [(j+4,aK x left)] (λm z u=>∀a T5:Nat,ae [2,10,2] [k,a,a+1]<|fm 840 (S0 dx 0 (.ref<|a+5) (.ref<|a+6)<|au 160 (i+4) (a+7) (aQ dx ["shares","mask"]) [("shares",A+4),("mask",k+4)]) [(a+7,ab [] 0),(a+6,aa [] 0),(a+5,av "range_iterator" [.int 0 0,.int 3 0,.int 1 0]),(k+4,af<|.int m<|u+1)] Z "k" (λTu Tz f e Ts d=>∀h E:Nat,ae [3,3,3,1] [a+3,l,a+2,h]<|gn (bi "sum.loop" [.ref<|h+4,.ref<|h+5,.int 0 0,.int 0 0]) [(h+4,av "list_iterator" [.ref<|a+6,.int 0 0]),(h+5,aa [.int 0<|E+1] 0)] (([(a+6,aa f e)]++(d++[]))++Z) (λy Tw V Tr=>∀c Q:Nat,ae [1,3,2] [i,s,c]<|fm 840 (S0 eE 0 (.ref<|c+4) (.ref<|c+5)<|au 160 (i+4) (c+6) (aQ eE ["some"]) [("some",l+4)]) [(c+6,ab [] 0),(c+5,aa [] 0),(c+4,av "list_iterator" [.ref<|s+4,.int 0 0]),(l+4,af<|.ref<|a+6)] (([(a+6,aa f e)]++(d++[]))++Z) "need" (λTt Tx t q S p=>∀g D:Nat,ae [3,3,1] [c+2,c+1,g]<|gn (bi "sum.loop" [.ref<|g+4,.ref<|g+5,.int 0 0,.int 0 0]) [(g+4,av "list_iterator" [.ref<|c+5,.int 0 0]),(g+5,aa [.int 0<|D+1] 0)] (([(c+5,aa t q)]++(p++([(a+6,aa f e)]++(d++[]))))++Z) (λv Tv U Y=>∀I M:Nat,((v<y)->∀J O:Nat,R (H7<|.bool false) [ao [ent "needs" B<|.ref<|s+4] 1,af<|.int m<|u+1,af<|.ref<|a+6,aK (m+1)<|z-1] [] ([(c+5,aa t q)]++(p++([(a+6,aa f e)]++(d++[])))) [])/\((¬(v<y))->∀L P:Nat,SP (br F G w) b (aS lV (.ref<|j+4)<|dC 160 (i+4) [("some",l+4),("mask",k+4),("shares",A+4)]) [(i+4,ao [ent "needs" B<|.ref<|s+4] 1),(k+4,af<|.int m<|u+1),(l+4,af<|.ref<|a+6),(j+4,aK (m+1)<|z-1)] (([(c+5,aa t q)]++(p++([(a+6,aa f e)]++(d++[]))))++Z) λr o n C H=>R r o n (C++([(c+5,aa t q)]++(p++([(a+6,aa f e)]++(d++[]))))) H))))))
theorem Qy:CK w [(a+4,ao [ent "needs" h<|.ref<|d+4] 1),(c+4,({cls:=.type "cell",data:=.cell i}:S9)),(e+4,({cls:=.type "cell",data:=.cell m}:S9)),(b+4,aK x g)] [(f+4,af<|.ref<|l+4),(l+4,aa n j),(d+4,aa o k)] [jM,ek 840 "k",jG,ek 840 "need",dX] (aS lV (.ref<|b+4)<|dC 160 (a+4) [("some",e+4),("mask",c+4),("shares",f+4)]) (Q8 a e c f d b h x g):=aV 38 111 0x72be2d7582ea520d0aa66eccee75f6a36a3210a5b8ebcd569fe514c46cf97130ab05670ba0f8fcf6149632cdadef4f866bf1ddd1e126d1cf1ac3a95dc9bbeafbc27d30a5a656a7cc
def Jg(f a h:Nat)(x left:Int)(e g:Option va):Q7:=λk l N T Z b R=>ae [2] [a]<|ot (bi "range_iterator.__next__" [.ref<|a+4]) [(a+4,aK x left)] (λi d c=>∀j T5:Nat,ae [1] [c+1]<|R (.ok .next) [ao [ent "needs" h<|.ref<|f+4] 1,({cls:=.type "cell",dict:=none,data:=.cell e,slots:=⟨[]⟩}:S9),({cls:=.type "cell",dict:=none,data:=.cell g,slots:=⟨[]⟩}:S9),aK i d] [] [] [])
theorem Kd:CK w [(c+4,ao [ent "needs" j<|.ref<|b+4] 1),(e+4,({cls:=.type "cell",data:=.cell f}:S9)),(g+4,({cls:=.type "cell",data:=.cell i}:S9)),(a+4,aK x d)] [(h+4,af<|.ref<|l+4),(l+4,aa n k),(b+4,aa o m)] [pU] (aS lV (.ref<|a+4)<|dC 160 (c+4) [("some",g+4),("mask",e+4),("shares",h+4)]) (Jg b a j x d f i):=aV 17 12 0x1a476d34da
def PK(f g t j a mt:Nat)(x:Int)(r:Bool):Q7:=λo p N T Z b R=>ae [1,1] [g,f]<|ee 960 (bi "int.__rshift__" [.int x<|mt+1,.int (SR j)<|a+1]) [] Z (λe i=>∀m T7:Nat,ee 960 (bi "int.__and__" [.int e<|i+1,.int 1<|T7+1]) [] Z (λd h=>∀k c:Nat,fI 960 (bi "int.__eq__" [.int d<|h+1,.int 1<|c+1]) [] Z (.bool r) (∀l n:Nat,R (H7<|.bool r) [ab [ent "k" t<|.int (SR j)<|a+1] 1] [] [] [])))
theorem RP:a9 w [(a+4,ab [ent "k" t<|.int (SR j)<|e+1] 1)] [(c+4,af<|.ref<|l+4),(b+4,af<|.int x<|f+1),(l+4,aa k n)] [gD 960,ir 960<|.bool r] (S0 h 0 i g<|au 160 d (a+4) (aQ dx ["shares","mask"]) [("shares",c+4),("mask",b+4)]) (jQ (fN dx)<|au 160 d (a+4) (aQ dx ["shares","mask"]) [("shares",c+4),("mask",b+4)]) (PK a b t j e f x r):=ba 6 16 0xad074cbb
def LH(c d l t j a:Nat):Q7:=λi k N T Z b R=>ae [1,1,4] [d,c,l]<|iJ (bi "list.__getitem__" [.ref<|l+4,.int (SR j)<|a+1]) [] Z (λf e=>∀g h:Nat,R (H7<|.int f<|e+1) [ab [ent "k" t<|.int (SR j)<|a+1] 1] [] [] [])
theorem Io:a9 w [(a+4,ab [ent "k" t<|.int (SR j)<|e+1] 1)] [(b+4,af<|.ref<|l+4),(c+4,af<|.int x<|i+1),(l+4,aa k n)] [jO] (S0 g 0 h f<|au 160 d (a+4) (aQ dx ["shares","mask"]) [("shares",b+4),("mask",c+4)]) (bN (a6 dx)<|au 160 d (a+4) (aQ dx ["shares","mask"]) [("shares",b+4),("mask",c+4)]) (LH a b l t j e):=ba 9 12 0xd3bcdd
def MK(g h a t v:Nat)(y:Int):Q7:=λm n N T Z b R=>ae [1,1] [g,h]<|jb (bi "len" [.ref<|a+4]) [] Z (λd=>∀i:Xi,∀c j:Nat,ae [3,1,1,4,1,2,4,4,1,2] [c,c+1,c+2,c+1,c,c+1,c+2,c+1,c,c+1]<|((((SR d):Int)<y)->∀e k:Nat,ae [4,4,1,2,1,3] [c+2,c+1,c,c+1,e+1,c+2]<|R (H7<|.int (SR d)<|i+1) [ab [ent "need" t<|.int y<|v+1] 1] [] [] [])/\((¬(((SR d):Int)<y))->∀f l:Nat,ae [1,4,1,2,1,3] [c+2,c+1,c,c+1,f+1,c+2]<|R (H7<|.int y<|v+1) [ab [ent "need" t<|.int y<|v+1] 1] [] [] []))
theorem MB:a9 w [(b+4,ab [ent "need" t<|.int y<|v+1] 1)] [(c+4,af<|.ref<|a+4),(a+4,aa h k)] [fA,dX] (S0 f 0 g e<|au 160 d (b+4) (aQ eE ["some"]) [("some",c+4)]) (bN (a6 eE)<|au 160 d (b+4) (aQ eE ["some"]) [("some",c+4)]) (MK b c a t v y):=ba 21 86 0xf038155aab929764be4cbc8dca962eac98db6bbb07b7edfbc3e3f037409bc9c20a8d75efca151fdd5d0ad2344a83
def jR(a:List Int)(x:Int):List Int:=((Tp 3).filter λj=>decide (cF x j=1)).map λj=>a.getD j 0
noncomputable def minD(a:List Int)(k:Nat):List Int:=a.map λy=>if(SR k)<y then SR k else y
def d8(a b:List Int)(x:Int):Bool:=decide ¬((minD b (jR a x).length).sum<(jR a x).sum)
def kZ(b a:List Int):Bool:=(Tp 8).all λi=>d8 b a (i:Int)
theorem OB:dx=bD (a6 dx) (.Name "k"<|bb (aG dx).target) (aG dx).iter [fN dx] (aW dx) (bX dx):=by kernel_rfl
theorem F7:eE=bD (a6 eE) (.Name "need"<|bb (aG eE).target) (aG eE).iter [] (aW eE) (bX eE):=by kernel_rfl
section
variable{b h m c o p q g l s a n k t:Nat}{x:Int}{d f:List va}{r e:List Int}{Z:Led}
theorem QL:SP w b (.builtin "int.__eq__" ⟨[.int i j,.int 1 u],[]⟩) [] Z (Rv (.bool<|decide (i=1)) []):=
 SP.val F.entry_int_eq (by decide+kernel) (YY _ _ _ _) ⟨rfl,rfl,rfl,rfl,rfl⟩
theorem G0(y:b+40<=960)(E:(o+4,af<|.ref<|l+4)∈Z)(C:(p+4,af<|.int x<|t+1)∈Z)(A:(l+4,aa d n)∈Z)(M:ak Z d (r.map .int))(P:r.length=3):
  SP w b (.compLoop dx 0 (.ref<|h+4) (.ref<|m+4)<|au 160 g (c+4) (aQ dx ["shares","mask"]) [("shares",o+4),("mask",p+4)]) [(c+4,ab [] 0),(m+4,aa [] 0),(h+4,aK 0<|SR 3)] Z (cC Z 3 (dF "k")<|(jR r x).map .int):=by
 have z:=qo (b:=b) (e:=h) (f:=m) (d:=c) (m:=3) (Z:=Z) (g:=a6 dx) (j:=(aG dx).iter) (h:=[fN dx]) (k:=aW dx) (q:=bX dx) (x:="k") (L:=bb (aG dx).target) (p:=λj=>decide (cF x j=1)) (D:=λj=>.int<|r.getD j 0) (a:=au 160 g (c+4) (aQ dx ["shares","mask"]) [("shares",o+4),("mask",p+4)]) y ⟨by kernel_rfl,by kernel_rfl,rfl⟩ (zd rfl)
  (λj u B F L i=>?_) (λj u B F L i v=>?_)
 ·rw[<-OB] at z
  unfold jR;rw[Vb];exact z
 ·exact VS.pQ<|RP 960 y (zd rfl) (aj (iE ar)<|aj (iC ar) ay) (aq (i _ E)<|aq (i _ C)<|aq (i _ A) ax) λG H N T I=>ah ⟨_,xn,λR v T7=>⟨_,vY,λQ v v=>⟨QL,λv v=>aY _ rfl rfl rfl⟩⟩⟩
 ·obtain⟨O,J⟩:=M.intAt (j:=j)<|by exact V4 ‹_<_› (Y9 ‹_›)
  refine VS.b5 (Io 960 y (zd rfl) (aj m8 ay) (aq (i _ E)<|aq (i _ C)<|aq (i _ A) ax) λG H N T I=>?_);exact ah ⟨_,_,j,_,d,n,_,O,rfl,.inr ⟨rfl,i _ A⟩,rfl,by exact SQ ‹_› (zd rfl),J,λv v=>aY _ rfl rfl (.int _ _)⟩
theorem Hs(G:b+40<=960)(P:(q+4,af<|.ref<|a+4)∈Z)(F:(a+4,aa f k)∈Z)(Q:f.length<=1000)(O:(s+4,aa d n)∈Z)(H:ak Z d (e.map .int))(h9:e.length<=1000):
  SP w b (.compLoop eE 0 (.ref<|h+4) (.ref<|m+4)<|au 160 g (c+4) (aQ eE ["some"]) [("some",q+4)]) [(c+4,ab [] 0),(m+4,aa [] 0),(h+4,aF s 0)] Z (cC Z d.length (dF "need")<|(minD e f.length).map .int):=by
 have I:d.length=e.length:=by rw[H.len,aM]
 have z:=vw (b:=b) (e:=h) (f:=m) (d:=c) (l:=s) (n:=n) (c:=d) (Z:=Z) (g:=a6 eE) (j:=(aG eE).iter) (h:=[]) (k:=aW eE) (q:=bX eE) (x:="need") (J:=bb (aG eE).target) (p:=λj=>true) (D:=λi=>.int<|if(SR f.length)<e.getD i 0 then SR f.length else e.getD i 0) (a:=au 160 g (c+4) (aQ eE ["some"]) [("some",q+4)]) G ⟨by kernel_rfl,by kernel_rfl,rfl⟩ O (by exact d4 ‹_› ‹_›)
  (λi v J L C A=>hY) (λi v J L C A j=>?_)
 ·have u:=ju (n:=d.length) (p:=λj=>true) (f:=λi=>VX<|if(SR f.length)<e.getD i 0 then SR f.length else e.getD i 0) (l:=e) (λj=>true) (λy=>VX<|if(SR f.length)<y then SR f.length else y) I λi x u=>⟨rfl,by rw[Ta,u];rfl⟩
  rw[<-F7,u,Vu.mpr λj j=>rfl] at z;unfold minD;rw[Vb];exact z
 ·have M:i<e.length:=by rw[<-I];exact(Tb.mp C).1
  obtain⟨R,E⟩:=H.intAt M;rw[C] at E;cases E;refine VS.b5<|MB 960 G (zd rfl) (aj lN<|aj mc ay) (aq (A _ P)<|aq (A _ F) ax) λV Y N T u=>ah ⟨_,_,_,rfl,.inr ⟨rfl,A _ F⟩,Q,λTr S U=>ah ⟨λB j j=>ah<|aY _ rfl rfl ?_,λB j j=>ah<|aY _ rfl rfl ?_⟩⟩
  ·rw[if_pos B];exact .int _ _
  ·rw[if_neg B];exact .int _ _
end
theorem IL(S:b+40<=840)(h3:c.length=3)(h4:f.length=4):∀(m i:Nat) (u v:Option va) (Z:Led),i+m=8->
  (I+4,af<|.ref<|l+4)∈Z->(l+4,aa x D)∈Z->(G+4,aa g E)∈Z->ak [] x (c.map .int)->ak [] g (f.map .int)->
  SP w b (aS lV (.ref<|C+4)<|dC 160 (z+4) [("some",H+4),("mask",t+4),("shares",I+4)]) [(z+4,ao [ent "needs" M<|.ref<|G+4] 1),(t+4,{cls:=.type "cell",data:=.cell u}),(H+4,{cls:=.type "cell",data:=.cell v}),(C+4,aK (i:Int) (m:Int))] Z (Be<|(X0 i m).all λi=>d8 c f (i:Int)):=by
 intro m;induction m with
 |zero=>intro i u v Z Ts s j q L A;exact Kd 840 S (zd rfl) (aj qI ay) (aq s<|aq j<|aq q ax) λP Q N T e=>ah ⟨_,_,_,rfl,rfl,by decide,λd d d=>ah ⟨⟨rfl,rfl⟩,rfl,_,_,_,_,rfl⟩⟩
 |succ m ih=>
  intro i u v Z Ts s j q L A;have up:∀{Z' Z2:Led} {p:Nat×S9},p∈Z2->p∈Z'++Z2:=λh=>az h
  have l4:g.length=4:=by rw[A.len,aM,h4]
  refine Qy 840 S (zd rfl) (aj sS<|aj (f7 ar)<|aj kh<|aj (f7 ar)<|aj mc ay) (aq s<|aq j<|aq q ax) λP Q N T e=>?_
  have mi:∀{y:List va} {F:Led},ak F y ((jR c (i:Int)).map .int)->y.length=(jR c (i:Int)).length:=λh=>by rw[h.len,aM]
  have sl:(jR c (i:Int)).length<=3:=by unfold jR;rw[aM];exact WK _ _
  refine ah ⟨_,_,_,rfl,rfl,by exact Xe.mpr (Vl _),λU O T5=>ah ⟨_,_,fc (cZ _) fz,G0 (Z:=[(t+4,af<|.int (i:Int)<|U+1)]++Z) (n:=D) (d:=x) (r:=c) (zd rfl) (up s) (.head _) (up j) L.ints h3,by decide,λTw Tx y k o F B TB Y=>ah ⟨_,_,_,y,k,0,Y,_,rfl,rfl,.head _,B.ints,λTK o1 o2 TC TF=>ah ⟨_,_,fc (cZ _) fz,Hs (a:=O+2) (f:=y) (k:=k) (n:=E) (d:=g) (e:=f) (zd rfl) (.head _) (.tail _<|.head _) (by rw[mi B];exact SQ ‹_›<|zd rfl) (up<|up q) A.ints<|by lia,by rw[l4];decide,λTw Tx Tz k2 o' F2 Tu TA V=>ah ⟨_,_,_,Tz,k2,0,V,_,rfl,rfl,.head _,Tu.ints,λTJ o1 o2 d d=>⟨λTt d d=>?_,λTr d d=>?_⟩⟩⟩⟩⟩⟩;all_goals have R:(X0 i<|m+1).all (λi=>d8 c f (i:Int))=(d8 c f (i:Int)&&(X0 (i+1) m).all λi=>d8 c f (i:Int)):=rfl
  ·have J:d8 c f (i:Int)=false:=by unfold d8;rw[<-mi B];exact decide_eq_false λh=>h Tt
   rw[R,J];exact⟨⟨rfl,rfl⟩,rfl,_,_,_,_,rfl⟩
  ·have J:d8 c f (i:Int)=true:=by unfold d8;rw[<-mi B];exact decide_eq_true Tr
   rw[R,J,Bool.true_and];show SP (br P Q w) b _ _ _ _;rw[e];have hm:((m+1:Nat):Int)-1=(m:Int):=by lia
   rw[hm];refine(ih (i+1) (some<|.int (i:Int)<|U+1) (some<|.ref<|O+6) _ (by lia) (up s) (up j) (up q) L A).mono ar (λd Tv=>Tv) ?_;rintro r TH TG F' ro d ⟨⟨rfl,rfl⟩,h⟩ d;exact⟨⟨rfl,rfl⟩,h⟩
theorem yD(t:b+40<=800)(q:d.length=3)(s:c.length=4)(k:(l+4,aa f i)∈Z)(n:(m+4,aa g j)∈Z)(o:ak Z f (d.map .int))(p:ak Z g (c.map .int)):
  SP w b (.call (.ref 160) ⟨[.ref<|l+4,.ref<|m+4],[]⟩) [] Z λr v u F x=>r= .ok (.ret<|.bool<|kZ d c)/\v=[]/\u=[]/\x=[]:=by
 refine Iz 800 t (zd rfl) (aj j1<|aj (Ke ar) ay) (aq k<|aq n ax) λz A N T e=>ah ⟨_,8,_,_,_,rfl,rfl,by decide,λy a a=>ah ⟨_,IL (b:=800) (M:=T) (D:=i) (E:=j) (x:=f) (g:=g) (c:=d) (f:=c) (zd rfl) q s 8 0 none none _ rfl (.head _) (.tail _ k) (.tail _ n) o.ints p.ints,λh a a a a a a a=>⟨?_,rfl,rfl,rfl⟩,λh a a a a a a a=>⟨?_,rfl,rfl,rfl⟩⟩⟩
 ·unfold kZ;rw[VO,h]
 ·unfold kZ;rw[VO,h]
abbrev mz:Wq:=bJ (b4 172) 3
inductive kM(b0:Nat)(c:Td)(sub Z:Led)(k:SX->Nat->Prop):Prop
 |mk (s) (h0:SP w b0 c sub Z (Rs s (sub.map (·.2)))) (h1:∀t,k s t):kM b0 c sub Z k
def iM(b:Nat):aA:=λc sub Z a=>kM b c sub Z λs t=>a 0 (H7<|.str s<|t+1) (sub.map (·.2)) [] [] []
theorem nY(f:b<=a):(iM a).Ok w b:=by
 rintro c sub Z n ⟨i,h,H⟩;refine h.mono f (λe q=>q) ?_;rintro r p o F s e d e;refine hH d λt g j k l m=>?_;clear d;subst g j k l m
 exact⟨0,H t⟩
inductive ve(c:Td)(sub Z:Led)(k:Nat->List SS->Nat->Prop):Prop
 |mk (l b) (j:Nat) (u vs n a es m) (h0:c= .builtin "list.__getitem__" ⟨[.ref l,.int b u],[]⟩) (h1:iU sub Z l vs n) (h2:b=j) (h3:j<1000) (h4:vs[j]?=some (.ref<|a+4)) (h5:(a+4,ab es m)∈Z) (h6:k a es m):ve c sub Z k
def r5:aA:=λc sub Z b=>ve c sub Z λa d m=>b 0 (H7<|.ref<|a+4) (sub.map (·.2)) [] [] [(a+4,ab d m)]
theorem P6:r5.Ok w b:=by
 rintro c sub Z i ⟨l,o,j,u,p,n,a,k,m,rfl,f,e,d,h,g,H⟩;exact kj f e d h _ (aq g ax) ⟨0,H⟩
def pI(c d e f g u l a b i:Nat)(h:Int)(s:SX):List SS:=[ent "line" c<|.ref<|l+4,ent "total" d<|.int h<|u+1,ent "bare" e<|.ref<|a+4,ent "marked" f<|.ref<|b+4,ent "text" g<|.str s<|i+1]
def u4(a l n u z f M N U V t4 Y tt:Nat)(h Tu left:Int)(s:SX)(κ κ1 κ2 κ3:Nat->Nat):Q7:=λG H Tv TK Z b R=>ae [2] [f]<|oj (bi "range_iterator.__next__" [.ref<|f+4]) [(f+4,aK Tu left)] (λc I p=>∀N5 T5:Nat,ae [4,4] [a,l]<|tY (bi "list.__getitem__" [.ref<|l+4,.int c<|p+1]) [] Z (λg y B A C=>∀d q:Nat,ae [4,5,1,6,1,6,1,2,1,6] [g,d,g,d,g,d,g,d,d+2,a] ((((0:Int)<(144:Int))/\((144:Int)<(1073741824:Int)))/\∀T2:Xi,∀TJ F:Nat,ae [1] [a]<|ee 960 (bi "int.__pow__" [.int 6<|F+1,.int c<|p+1]) [] Z (λe TZ=>∀Tw TL:Nat,((((0:Int)<e)/\(e<(1073741824:Int)))/\∀T1:Xi,∀Tx TM:Nat,(((0:Int)<(6:Int))/\∀O:Xi,∀i E:Nat,ae [6] [a] (((0:Int)<(2:Int))/\∀P:Xi,∀Tz TO:Nat,ae [4] [i]<|ve (bi "list.__getitem__" [.ref<|i+4,.int (YQ (YQ ((2+c)+X4 (X4 h 144) e) 6) 2)<|P+1]) [(i+4,aa [.ref<|u+4,.ref<|z+4] 0)] Z (λt TX TY=>∀TA TP:Nat,ae [1,4] [a,t]<|kM 960 (bi "dict.__getitem__" [.ref<|t+4,.str A<|C+1]) [] Z (λm Q=>∀TB TQ:Nat,((((0<(tt+1))/\(0<(Q+1)))/\((PySem.Str.length s+PySem.Str.length m)<=VZ))/\∀Tr:Xi,∀j k:Nat,ae [4] [a] ((((0:Int)<(2:Int))/\((2:Int)<(1073741824:Int)))/\∀S:Xi,∀TC TR:Nat,ae [4] [j]<|kM 960 (bi "list.__getitem__" [.ref<|j+4,.int (X4 (YQ ((2+c)+X4 (X4 h 144) e) 6) 2)<|S+1]) [(j+4,aa [.str "%d\n"<|k+2,.str "\"%d\""<|k+3,.str "\\%d\t"<|k+4] 0)] Z (λL T=>∀TF TS:Nat,ae [1] [a]<|CX (bi "str.__mod__" [.str L<|T+1,.int y<|B+1]) [] (λv x=>∀Ts:Xi,∀TG TU:Nat,((((0<(Tr+1))/\(0<(Ts+1)))/\((PySem.Str.length (WG s m)+PySem.Str.length (dk v x))<=VZ))/\∀Tt:Xi,∀TH TV:Nat,ae [2] [a]<|SP (br G H w) b (aS mz (.ref<|f+4)<|aT 172<|a+4) [(a+4,ao [ent "line" M<|.ref<|l+4,ent "total" N<|.int h<|Y+1,ent "bare" U<|.ref<|u+4,ent "marked" V<|.ref<|z+4,ent "text" t4<|.str (WG (WG s m)<|dk v x)<|Tt+1,ent "k" (κ T5)<|.int c<|p+1,ent "need" (κ1 q)<|.int y<|B+1,ent "name" (κ2 q)<|.str A<|C+1,ent "style" (κ3 E)<|.int (YQ ((2+c)+X4 (X4 h 144) e) 6)<|O+1] 9),(f+4,aK (c+1)<|I-1)] Z λr o n D J=>R r o n (D++[]) J))))))))))))))
noncomputable def zI:Nat:=0x2cdce87907be98adad11fe6e2e0d713cbe7310c6c2af2ee151c40cc3fb3adeb9114b77a1a66abb5eb41fb089f8ddcb69cfdd9544e532459e89d698c390d4a08d45f0bc2edaa9cf44bdd44296d22f50
theorem Ez:CK w [(b+4,ao (pI f g h i j u l a d m k s) 5),(c+4,aK x e)] [(l+4,aa q n),(a+4,ab o 4),(d+4,ab p 4)] [jM,qm,eR,gD 960,r5,iM 960,fU,iM 960,rq] (aS mz (.ref<|c+4)<|aT 172<|b+4) (u4 b l n a d c f g h i j u m k x e s (λt=>t) (λt=>t) (λt=>t+1) λt=>t):=aV 20 147 zI
theorem QD:CK w [(b+4,ao (pI k m o p q u l a d t r s++[ent "k" f z,ent "need" g A,ent "name" h B,ent "style" i C]) 9),(c+4,aK x j)] [(l+4,aa D n),(a+4,ab v 4),(d+4,ab y 4)] [jM,qm,eR,gD 960,r5,iM 960,fU,iM 960,rq] (aS mz (.ref<|c+4)<|aT 172<|b+4) (u4 b l n a d c k m o p q u t r x j s (λe=>f) (λe=>g) (λe=>h) λe=>i):=aV 20 147 zI
def Qz(a:Nat)(x left:Int)(d:S9):Q7:=λh i N T Z b R=>ae [2] [a]<|ot (bi "range_iterator.__next__" [.ref<|a+4]) [(a+4,aK x left)] (λf e c=>∀g T5:Nat,ae [1] [c+1]<|R (.ok .next) [d,aK f e] [] [] [])
theorem E1:CK w [(b+4,c),(a+4,aK x d)] [] [pU] (aS mz (.ref<|a+4)<|aT 172<|b+4) (Qz a x d c):=aV 11 12 0x81097b10
noncomputable def xJ:List (SX×SX):=[("a","a "),("b c","b\\ c\n"),("","\"\""),("\"q","\\\"q\t")]
noncomputable def markL:List (SX×SX):=[("a","\\a\r"),("b c","\"b c\""),("","\"\" \n"),("\"q","\"\\\"q\"")]
def fj(k:Nat)(x:SX):SX:=((if k=0 then xJ else markL).lookup x).getD SX.empty
noncomputable def cS(a:Int)(i:Nat):Nat:=((2+(i:Int)+(a.fdiv 144).fdiv ((6 ^ i:Nat):Int)).fmod 6).toNat
def eG(a:Int):Nat->List (Nat×SX)->SX->SX
 |_,[],s=>s
 |i,b::r,s=>eG a (i+1) r<|(s++fj (cS a i % 2) b.2)++dk (cS a i / 2) b.1
theorem JP{b i t u:Nat}(a:i<4):SP w b (.builtin "int.__pow__" ⟨[.int 6 t,.int (i:Int) u],[]⟩) [] Z (Ri ((6 ^ i:Nat):Int) []):=by
 rcases(by exact eg ‹_› :i=0\/i=1\/i=2\/i=3) with rfl|rfl|rfl|rfl
 ·exact SP.int Zp (by decide+kernel) (AutoIntG9.int___pow___int_int_0 6 t 0 u (by decide)<|by decide) λt=>di t rfl rfl rfl rfl rfl
 ·exact SP.int Zp (by decide+kernel) (Xk 6 t 1 u (by decide) (by decide) (by decide) (by decide)<|by decide+kernel) λt=>di t rfl rfl rfl rfl rfl
 ·exact SP.int Zp (by decide+kernel) (Xk 6 t 2 u (by decide) (by decide) (by decide) (by decide)<|by decide+kernel) λt=>di t rfl rfl rfl rfl rfl
 ·exact SP.int Zp (by decide+kernel) (Xk 6 t 3 u (by decide) (by decide) (by decide) (by decide)<|by decide+kernel) λt=>di t rfl rfl rfl rfl rfl
def vn(Z:Led)(a k:Nat):Prop:=∃b m,(a+4,ab b m)∈Z/\StrKeys b/\∀x∈names4,∃t,bY x b=some (.str (fj k x)<|t+1)
theorem lM(x y:SX):(x++y).length=x.length+y.length:=by
 show(x.cps++y.cps).size=_;exact Array.size_append
theorem CM(k:Nat)(h:x∈names4):(fj k x).length<=6:=by
 have:∀y∈names4,(fj 0 y).length<=6/\(fj 1 y).length<=6:=by decide+kernel
 refine a0 (this x h) λa b=>?_
 unfold fj at a b⊢;by_cases hk:k=0
 ·rw[if_pos hk];exact a
 ·rw[if_neg hk];exact b
theorem zg(j m:Nat):(dk j m).length<=3:=by
 rcases j with _|_|j
 ·show 2<=3;decide
 ·show 3<=3;decide
 ·show 3<=3;decide
def Hb(a:List SS)(b:Nat):Prop:=(a=[]/\b=5)\/∃c d e f g h i j,a=[ent "k" c g,ent "need" d h,ent "name" e i,ent "style" f j]/\b=9
noncomputable def DG(e:List SS):List SS:=match e with
 |a::b::c::d::_=>[a,b,c,d]
 |_=>[]
noncomputable def Cr(a:List SS):Nat:=match a with
 |_::_::_::_::e::_=>match e.key with| .str _ t=>t-1|_=>0
 |_=>0
inductive sf(xO:List SS)(t4:Nat)(s:SX)(r:Vz)(objs:List S9)(new F ro:Led):Prop
 |mk (h1:r= .ok .next/\new=[]/\F=[]/\ro=[]) (tt es nn it) (h2:objs=[ao (xO++ent "text" t4 (.str s<|tt+1)::es) nn,it])
theorem DD:∀C∈[jM,qm,eR,gD 960,r5,iM 960,fU,iM 960,rq],aA.Ok w 920 C:=
 aj sS (aj z8<|aj lp<|aj (iE<|zd rfl)<|aj P6<|aj (nY<|zd rfl)<|aj nH<|aj (nY<|zd rfl)<|aj (QV<|zd rfl) ay)
theorem Gb(h:j<3):∃t,[va.str "%d\n"<|T+2,.str "\"%d\""<|T+3,.str "\\%d\t"<|T+4][j]?=some (.str (rF j)<|t+1):=by
 rcases(by exact nT ‹_› :j=0\/j=1\/j=2) with rfl|rfl|rfl<;>exact aB _ rfl
theorem Ic(a:Nat){k:Nat}(hk:0<k):((a:Nat):Int).fdiv (k:Int)=((a / k:Nat):Int):=by
 rw[Int.fdiv_eq_ediv_of_nonneg _<|by exact Vo _];exact(Int.natCast_ediv a k).symm
theorem Fe(a:Nat)(k:Nat):((a:Nat):Int).fmod (k:Int)=((a % k:Nat):Int):=by
 rw[ZG _<|by exact Vo _];exact(Int.natCast_emod a k).symm
theorem Fy{b C l n f g D t x y z B u:Nat}{c:Int}{U:List va}{F:List (Nat×SX)}{Tr Tv:List SS}{Z:Led}(hb:b+40<=920)(hl:(l+4,aa U n)∈Z)(TA:(f+4,ab Tr 4)∈Z)(TG:(g+4,ab Tv 4)∈Z)(h0:vn Z f 0)(h1:vn Z g 1)(ht:ak Z U ((F.map cO).map item))(h4:F.length=4)(hn:∀p∈F,p.2∈names4/\p.1<4):
  ∀(r:List (Nat×SX)) (i E:Nat) (s:SX) (h:List SS) (G:Nat),F.drop i=r->i+r.length=4->Hb h G->s.length<=20*i->
   SP w b (aS mz (.ref<|D+4)<|aT 172<|C+4) [(C+4,ao (pI t x y z B u l f g E c s++h) G),(D+4,aK (i:Int) (r.length:Int))] Z (sf [ent "line" t<|.ref<|l+4,ent "total" x<|.int c<|u+1,ent "bare" y<|.ref<|f+4,ent "marked" z<|.ref<|g+4] B<|eG c i r s):=by
 intro r;induction r with
 |nil=>intro i E s h G hd hi TC V;exact E1 920 hb (zd rfl) (aj qI ay) ax λm q N T e=>ah ⟨_,_,_,rfl,rfl,by decide,λa a a=>ah ⟨⟨rfl,rfl,rfl,rfl⟩,E,h,G,_,rfl⟩⟩
 |cons p r ih=>
  intro i E s h G hd hi TC V;have I:i<4:=V4 (YB<|Vl r.length) hi;have TF:F[i]?=some p:=by have:=congrArg (·[0]?) hd;simpa using this
  have TM:F.drop (i+1)=r:=by rw[<-XZ,hd];rfl
  refine hide λT6 hQ=>a0 (hn p<|Vf TF) λTt TR=>aI (ht.get (i:=i) (d:=item<|cO p)<|by rw[Vi,Vi,TF];rfl) λv hv TU=>c0 TU.dQ λTJ Tw uu TX hm=>?_;subst TX
  have TQ:(((p::r).length:Nat):Int)-1=(r.length:Int):=Int.add_sub_cancel (r.length:Int) 1;refine aI (jY (2+(i:Int)+(c.fdiv 144).fdiv ((6 ^ i:Nat):Int)) (k:=6)<|zd rfl) λst TH TS=>?_
  have eS:cS c i=st:=by unfold cS;have Y:(2+(i:Int)+(c.fdiv 144).fdiv ((6 ^ i:Nat):Int)).fmod 6=(st:Int):=TH;rw[Y,WW]
  have Y:(2+(i:Int)+(c.fdiv 144).fdiv ((6 ^ i:Nat):Int)).fmod 6=(st:Int):=TH;have e2:((2+(i:Int)+(c.fdiv 144).fdiv ((6 ^ i:Nat):Int)).fmod 6).fmod 2=((st % 2:Nat):Int):=by rw[Y];exact Fe st 2
  have e3:((2+(i:Int)+(c.fdiv 144).fdiv ((6 ^ i:Nat):Int)).fmod 6).fdiv 2=((st / 2:Nat):Int):=by rw[Y];exact Ic st<|zd rfl
  have p6:0<((6 ^ i:Nat):Int)/\((6 ^ i:Nat):Int)<1073741824:=by
   rcases eg I with rfl|rfl|rfl|rfl<;>decide
  obtain⟨d,H,dn,TO,TB,TP,Ts⟩:∃d H dn,[VV<|f+4,.ref<|g+4][st % 2]?=some (.ref<|d+4)/\(d+4,ab H dn)∈Z/\StrKeys H/\∃Tw,bY p.2 H=some (.str (fj (st % 2) p.2)<|Tw+1):=by
   rcases X3 st with e|e
   ·rw[e];exact bE h0 λh Tu q1 q2 q3=>pB f h Tu rfl q1 q2 (q3 _ Tt)
   ·rw[e];exact bE h1 λh Tu q1 q2 q3=>pB g h Tu rfl q1 q2 (q3 _ Tt)
  refine aw Ts λdt Ts=>hQ ?_;have q3:st / 2<3:=X5 TS;have q2:st % 2<1000:=YJ (Nat.mod_lt st (by decide:0<2))<|zd rfl;have i9:i<1000:=YJ I<|zd rfl;have rl:(0:Int)<((p::r).length:Int):=Xe.mpr<|Vl _;have l1:=CM (st % 2) Tt;have l2:=zg (st / 2) p.1;have l3:((s++fj (st % 2) p.2)++dk (st / 2) p.1).length<=20*(i+1):=by rw[lM,lM];exact SQ (VB (VB V l1) l2)<|VC (by decide:9<=20)<|20*i
  have l4:s.length+(fj (st % 2) p.2).length<=VZ:=SQ (VB (SQ V<|V7 20<|Wz I) l1)<|b6 (n:=86)<|zd rfl;have l5:(s++fj (st % 2) p.2).length+(dk (st / 2) p.1).length<=VZ:=SQ (VB (by rw[lM];exact VB (SQ V<|V7 20<|Wz I) l1) l2)<|b6 (n:=89)<|zd rfl;have TK:∀(m q:Bool) (J L M O v:Nat) (P Q R S:va),br m q w=w->
    SP (br m q w) b (aS mz (.ref<|D+4)<|aT 172<|C+4) [(C+4,ao (pI t x y z B u l f g v c ((s++fj (st % 2) p.2)++dk (st / 2) p.1)++[ent "k" J P,ent "need" L Q,ent "name" M R,ent "style" O S]) 9),(D+4,aK ((i:Int)+1)<|(((p::r).length:Nat):Int)-1)] Z
     λr' o n F' ro=>sf [ent "line" t<|.ref<|l+4,ent "total" x<|.int c<|u+1,ent "bare" y<|.ref<|f+4,ent "marked" z<|.ref<|g+4] B (eG c i (p::r) s) r' o n (F'++[]) ro:=λm q J L M O v P Q R S e=>by
   rw[e,TQ];have T1:=ih (i+1) v _ [ent "k" J P,ent "need" L Q,ent "name" M R,ent "style" O S] 9 TM (q8 hi) (.inr ⟨_,_,_,_,_,_,_,_,rfl,rfl⟩) l3;refine T1.mono ar (λa TV=>TV) λr' o n T2 ro a TL a=>?_
   rw[aP];have e5:eG c i (p::r) s=eG c (i+1) r ((s++fj (st % 2) p.2)++dk (st / 2) p.1):=by rw[<-eS];rfl
   rw[e5];exact TL
  have hp:∀{Tz t5:Nat},SP w 960 (.builtin "int.__pow__" ⟨[.int 6<|Tz+1,.int (i:Int)<|t5+1],[]⟩) [] Z (Ri ((6 ^ i:Nat):Int) []):=λ{_ _}=>JP I
  have hg:∀{TZ:Nat},SP w 960 (.builtin "dict.__getitem__" ⟨[.ref<|d+4,.str p.2<|TZ+1],[]⟩) [] Z (Rs (fj (st % 2) p.2) []):=λ{_}=>qY TP (.inr ⟨rfl,TB⟩) Ts<|di _ rfl rfl rfl rfl rfl
  have hf:∀{A T Tx:Nat},SP w 960 (.builtin "list.__getitem__" ⟨[.ref<|A+4,.int (((2+(i:Int)+(c.fdiv 144).fdiv ((6 ^ i:Nat):Int)).fmod 6).fdiv 2)<|Tx+1],[]⟩) [(A+4,aa [.str "%d\n"<|T+2,.str "\"%d\""<|T+3,.str "\\%d\t"<|T+4] 0)] Z (Rs (rF<|st / 2) [aa [.str "%d\n"<|T+2,.str "\"%d\""<|T+3,.str "\\%d\t"<|T+4] 0]):=λ{A T Tx}=>by
   exact aw (Gb (T:=T) (j:=st / 2) q3) λtf hf=>kj (.inl rfl) e3 (YJ q3<|zd rfl) hf [] ax (di _ rfl rfl rfl rfl rfl)
  have go:∀(κ κ1 κ2 κ3:Nat->Nat) (m q:Bool) (N T:Nat),br m q w=w->u4 C l n f g D t x y z B u E c (i:Int) ((p::r).length:Int) s κ κ1 κ2 κ3 m q N T Z b (sf [ent "line" t<|.ref<|l+4,ent "total" x<|.int c<|u+1,ent "bare" y<|.ref<|f+4,ent "marked" z<|.ref<|g+4] B<|eG c i (p::r) s):=λκ κ1 κ2 κ3 m q N T e=>ah ⟨_,_,_,rfl,rfl,rl,λt5 N5 Ua=>ah ⟨_,i,_,U,n,TJ,_,Tw,_,uu,rfl,.inr ⟨rfl,hl⟩,i9,hv,hm,λT5 T9=>ah ⟨by decide,λUi a Tz=>ah ⟨_,hp,λUb a a=>⟨p6,λUc a a=>⟨by decide,λUd T3 T7=>ah ⟨by decide,λUe a a=>ah ⟨_,_,st % 2,_,_,_,d,H,dn,rfl,.inl rfl,e2,q2,TO,TB,λa a=>ah ⟨_,hg,λUg a a=>⟨⟨⟨Vl _,Vl _⟩,l4⟩,λUj T4 T8=>ah ⟨by decide,λTx a a=>ah ⟨_,hf,λUh a a=>ah ⟨oH (st / 2) p.1 _ _ ⟨⟨q3,TR⟩,rfl,rfl⟩ λUk a a=>⟨⟨⟨Vl _,Vl _⟩,l5⟩,λTY a a=>ah<|TK m q _ _ _ _ TY _ _ _ _ e⟩⟩⟩⟩⟩⟩⟩⟩⟩⟩⟩⟩⟩⟩
  rcases TC with⟨rfl,rfl⟩|⟨J,L,M,O,P,Q,R,S,rfl,rfl⟩
  ·exact Ez 920 hb (zd rfl) DD (aq hl<|aq TA<|aq TG ax)<|go _ _ _ _
  ·exact QD 920 hb (zd rfl) DD (aq hl<|aq TA<|aq TG ax)<|go _ _ _ _
inductive xv(b0:Nat)(c:Td)(sub Z:Led)(k:SX->Nat->List SS->Nat->S9->Prop):Prop
 |mk (s) (h0:SP w b0 c sub Z (sf (DG<|b9 sub) (Cr<|b9 sub) s)) (h1:∀tt es a it,k s tt es a it):xv b0 c sub Z k
def Bv(b:Nat):aA:=λc sub Z a=>xv b c sub Z λs g d f e=>a 0 (.ok .next) [ao (DG (b9 sub)++ent "text" (Cr<|b9 sub) (.str s<|g+1)::d) f,e] [] [] []
theorem Hp(f:b<=d):(Bv d).Ok w b:=by
 rintro c sub Z k ⟨s,h,H⟩;refine h.mono f (λa q=>q) ?_;rintro a a a a a a ⟨⟨rfl,rfl,rfl,rfl⟩,j,e,i,g,rfl⟩ a;exact⟨0,H j e i g⟩
def Fi(l n u:Nat)(i:Int):Q7:=λq r N T Z b R=>ae [4,16,2,16,4,7] [N,N+1,N,N+2,N,N+3]<|fY (bi "range.__iter__" [.ref<|N+7]) [(N+7,av "range" [.int 0<|T+32,.int 4<|T+31,.int 1<|T+33])] (λe c=>∀k o:Nat,ae [1] [c]<|xv 880 (aS mz (.ref<|c+4)<|aT 172<|N+4) [(N+4,ao [ent "line" T<|.ref<|l+4,ent "total" (T+1)<|.int i<|u+1,ent "bare" (T+14)<|.ref<|N+5,ent "marked" (T+27)<|.ref<|N+6,ent "text" (T+29)<|.str ""<|T+29] 5),(c+4,aK (0:Int) ((SR e):Int))] ([(N+5,ab [ent "a" (T+2)<|.str "a "<|T+4,ent "b c" (T+4)<|.str "b\\ c\n"<|T+6,ent "" (T+6)<|.str "\"\""<|T+8,ent "\"q" (T+8)<|.str "\\\"q\t"<|T+10] 4),(N+6,ab [ent "a" (T+15)<|.str "\\a\x0d"<|T+17,ent "b c" (T+17)<|.str "\"b c\""<|T+19,ent "" (T+19)<|.str "\"\" \n"<|T+21,ent "\"q" (T+21)<|.str "\"\\\"q\""<|T+23] 4)]++Z) (λf j s v t=>∀a d:Nat,ae [1] [N]<|kM 960 (bi "str.__getitem__" [.str f<|j+1,.ref<|a+4]) [] (([(a+4,av "slice" [.none,.int (-1)<|d+2,.none])]++[(N+5,ab [ent "a" (T+2)<|.str "a "<|T+4,ent "b c" (T+4)<|.str "b\\ c\n"<|T+6,ent "" (T+6)<|.str "\"\""<|T+8,ent "\"q" (T+8)<|.str "\\\"q\t"<|T+10] 4),(N+6,ab [ent "a" (T+15)<|.str "\\a\x0d"<|T+17,ent "b c" (T+17)<|.str "\"b c\""<|T+19,ent "" (T+19)<|.str "\"\" \n"<|T+21,ent "\"q" (T+21)<|.str "\"\\\"q\""<|T+23] 4)])++Z) (λg h=>∀m p:Nat,R (H7<|.str g<|h+1) [] [] ([(a+4,av "slice" [.none,.int (-1)<|d+2,.none])]++[(N+5,ab [ent "a" (T+2)<|.str "a "<|T+4,ent "b c" (T+4)<|.str "b\\ c\n"<|T+6,ent "" (T+6)<|.str "\"\""<|T+8,ent "\"q" (T+8)<|.str "\\\"q\t"<|T+10] 4),(N+6,ab [ent "a" (T+15)<|.str "\\a\x0d"<|T+17,ent "b c" (T+17)<|.str "\"b c\""<|T+19,ent "" (T+19)<|.str "\"\" \n"<|T+21,ent "\"q" (T+21)<|.str "\"\\\"q\""<|T+23] 4)]) [])))
theorem JV:CK w [] [(l+4,aa b n)] [ik,Bv 880,iM 960] (Vh (.ref 172) ⟨[.ref<|l+4,.int a<|u+1],[]⟩) (Fi l n u a):=aV 517 105 0xab1eaf34fc8d06e2110b39e69c82b0274f72b2fbeaf2abf4c68f83909a211937bcbf7903c1efcd2147a8e15383c1415e8dfd60ba019a8272ead0da0df5f6747af14331e056b61ac43ac7f2042ef8603ca816dab95e31edcb894a09e931a5cf33215b43b9f9a22badb238dfa94d948b5e58d4
section
open PySem.StrLaws
noncomputable def lO(x:SX):SX:=⟨x.cps.toList.dropLast.toArray⟩
theorem JS(h:x.length=m+1):sliceMade x t none (some (-1,u)) none= .str (lO x):=by
 have e:slicePicked x none (some (-1,u)) none=W4 (some ((0:Nat):Int)) (some ((m:Nat):Int)) 1 x.length:=by
  show W4 none (some<|-1) 1 x.length=_;rw[sliceIdx_none_lo];unfold W4;rw[h];have a:((-1:Int)<0):=by decide
  have c:¬(((m:Nat):Int)<0):=V5.mpr<|Vo m;have d:(-1:Int)+((m+1:Nat):Int)=(m:Int):=(Int.add_comm _ _).trans<|Int.add_sub_cancel (m:Int) 1;simp only[a,c,d,if_true,if_false];rfl
 have b:m<=x.length:=SQ (YF m)<|Th h.symm;unfold sliceMade;rw[e];have f:(W4 (some ((0:Nat):Int)) (some ((m:Nat):Int)) 1 x.length).length=m:=by
  rw[StrLaws.strSliceIndices_plain (Vc _) b];simp
 rw[if_neg<|by rw[f,h];simp];rw[StrLaws.sliced_plain x (Vc _) b];unfold lO;have g:x.cps.toList.length=m+1:=h;rw[List.dropLast_eq_take,g];rfl
theorem KD(j:(a,av "slice" [.none,.int (-1) u,.none])∈Z)(h:x.length=m+1)(c:x.length<=1000):SP w b (.builtin "str.__getitem__" ⟨[.str x t,.ref a],[]⟩) [] Z (Rs (lO x) []):=by
 refine SP.meets F.entry_str_getitem (by decide+kernel) (meets_str_getitem_slice x t a none (some (-1,u)) none rfl) λA l k N T g d o R hk f D e=>⟨aY _ (D.keep _ _<|f _ j) rfl rfl,?_⟩;rw[JS h];refine⟨?_,e.done (T:=T+1) (di T rfl rfl rfl rfl rfl) D⟩;have:(lO x).length=m:=by
  show(x.cps.toList.dropLast.toArray).size=m;have i:x.cps.toList.length=m+1:=h;simp only[ZW,List.length_dropLast,i];rfl
 rw[this];exact SQ (SQ (YF m)<|SQ (Th h.symm) c)<|b6 (n:=1000)<|zd rfl
theorem RU(a:Int):∀(r:List (Nat×SX)) (i:Nat) (s:SX),s.length+r.length<=(eG a i r s).length:=by
 intro r;induction r with
 |nil=>intro d s;exact VA _
 |cons p r c=>
  intro i s;have h:=c (i+1)<|(s++fj (cS a i % 2) p.2)++dk (cS a i / 2) p.1;have b:1<=(dk (cS a i / 2) p.1).length:=by
   rcases cS a i / 2 with _|_|j
   ·show 1<=2;decide
   ·show 1<=3;decide
   ·show 1<=3;decide
  show s.length+(r.length+1)<=(eG a (i+1) r _).length;rw[lM,lM] at h;exact SQ (Th<|Vt s.length r.length 1)<|SQ (Tq (VB (VI _ _) b) _) h
theorem Ct(a:Int):∀(r:List (Nat×SX)) (i:Nat) (s:SX),(∀p∈r,p.2∈names4)->(eG a i r s).length<=s.length+9*r.length:=by
 intro r;induction r with
 |nil=>intro g s g;exact VA _
 |cons p r f=>
  intro i s b;have h:=f (i+1) ((s++fj (cS a i % 2) p.2)++dk (cS a i / 2) p.1) λq e=>b q<|.tail _ e
  have c:=CM (cS a i % 2)<|b p<|.head _;have d:=zg (cS a i / 2) p.1;show(eG a (i+1) r _).length<=s.length+9*(r.length+1);rw[lM,lM] at h;exact SQ h<|SQ (Tq (VB (VC c s.length) d) _)<|Th<|Vt s.length 9<|9*r.length
def pq(a:List (Nat×SX))(b:Int):SX:=lO<|eG b 0 a ""
theorem AE(k:Nat)(L:List (SX×SX))(c:L=if k=0 then xJ else markL)(f:Nat->Nat)(b:List SS)(n:Nat)(hk:StrKeys b)(h:(a+4,ab b n)∈Z)(d:∀x∈names4,∃t,bY x b=some (.str ((L.lookup x).getD SX.empty)<|t+1)):vn Z a k:=
 dR b n h hk (λx e=>by unfold fj;rw[<-c];exact d x e)
theorem yh(h:∀e∈a,∃x k v,e=ent x k v):StrKeys a:=λe b=>by
 refine kC (h e b) λx k v c=>?_;subst c
 exact cA _ _ rfl (mQ w _)
theorem HA{g:Int}{f:List (Nat×SX)}(G:b+40<=880)(v:(l+4,aa k n)∈Z)(L:ak Z k ((f.map cO).map item))(h:f.length=4)(y:∀p∈f,p.2∈names4/\p.1<4):
  SP w b (.call (.ref 172) ⟨[.ref<|l+4,.int g<|u+1],[]⟩) [] Z λr O M F P=>∃t,r= .ok (.ret<|.str (pq f g)<|t+1)/\O=[]/\M=[]/\P=[]:=by
 refine JV 880 G (zd rfl) (aj j1<|aj (Hp ar)<|aj (nY<|zd rfl) ay) (aq v ax) λU V N T e=>?_
 obtain⟨p0,p1,p2,p3,Y⟩:∃a b c d,f=[a,b,c,d]:=by obtain⟨a,b,c,d⟩:=ib h;exact jy a b c d rfl
 have C:(f.length:Int)=SR 4:=by rw[h];rfl
 have I:4<=(eG g 0 f "").length:=by have:=RU g f 0 "";rw[h] at this;exact SQ (WX _ _) this
 have H:(eG g 0 f "").length<=36:=by have:=Ct g f 0 "" λp J=>(y p J).1;rw[h] at this;exact this
 refine ah ⟨_,4,_,_,_,rfl,rfl,by decide,λB o o=>ah ⟨eG g 0 f "",?_,λtt es nn it R S=>ah ⟨_,KD (.head _) (m:=(eG g 0 f "").length-1) (kJ<|SQ (zd rfl) I)<|SQ H<|zd rfl,λQ o o=>hO Q rfl rfl rfl rfl⟩⟩⟩;have z:=λs A D E=>Fy (Z:=(N+5,ab s 4)::(N+6,ab A 4)::Z) (b:=880) (Tr:=s) (Tv:=A) (t:=T) (x:=T+1) (y:=T+14) (z:=T+27) (B:=T+29) (u:=u) (C:=N) (D:=B) (f:=N+1) (g:=N+2) (c:=g) (l:=l) (n:=n) (U:=k) (F:=f) (zd rfl) (.tail _<|.tail _ v) (.head _) (.tail _<|.head _) D E (L.sub λo q=>.tail _<|.tail _ q) h y f 0 (T+28) "" [] 5 rfl ((V6 _).trans h) (.inl ⟨rfl,rfl⟩) (Vc _)
 rw[C] at z;refine z _ _ ?_ ?_
 ·refine AE 0 xJ rfl id _ 4 (yh ?_) (.head _) ?_
  ·intro e i;simp only[V2,Vn,or_false] at i;rcases i with rfl|rfl|rfl|rfl<;>exact j8 _ _ _ rfl
  ·intro x j;simp only[names4,V2,Vn,or_false] at j;rcases j with rfl|rfl|rfl|rfl
   ·exact aB (T+3)<|by kernel_rfl
   ·exact aB (T+5)<|by kernel_rfl
   ·exact aB (T+7)<|by kernel_rfl
   ·exact aB (T+9)<|by kernel_rfl
 ·refine AE 1 markL rfl id _ 4 (yh ?_) (.tail _<|.head _) ?_
  ·intro e i;simp only[V2,Vn,or_false] at i;rcases i with rfl|rfl|rfl|rfl<;>exact j8 _ _ _ rfl
  ·intro x j;simp only[names4,V2,Vn,or_false] at j;rcases j with rfl|rfl|rfl|rfl
   ·exact aB (T+16)<|by kernel_rfl
   ·exact aB (T+18)<|by kernel_rfl
   ·exact aB (T+20)<|by kernel_rfl
   ·exact aB (T+22)<|by kernel_rfl
end
section
open PySem.SeqAt
theorem Tells.reads(g:∀p∈Z,h.get? p.1=some p.2)(t:Tells Z v d):∃f,PySem.Reads h v d f:=
 t.rec (motive_1:=λv d c=>∃f,PySem.Reads h v d f) (motive_2:=λq o c=>∃f,PySem.ReadsAll h q o f) (motive_3:=λ(k:List SS) (l:List (Tg×Tg)) c=>∃f n,PySem.ReadsAll h (k.map λx:SS=>x.key) (l.map λx:Tg×Tg=>x.1) f/\PySem.ReadsAll h (k.map λx:SS=>x.val) (l.map λx:Tg×Tg=>x.2) n)
  (aB _ .none) (λb=>aB _<|.bool b) (λi t=>aB _<|.int i _) (λx t=>aB _<|.str x _) (λm c r=>r.elim λc j=>aB _<|.tuple (g _ m) rfl rfl j) (λm=>aB _<|.tuple (g _ m) rfl rfl (.cons (.int _ _)<|.cons (.int _ _)<|.cons (.int _ _)<|.cons (.int _ _) .nil))
  (λm c r=>r.elim λc j=>aB _<|.tuple (g _ m) rfl rfl (.cons (.str _ _)<|.cons j .nil)) (λm c r=>r.elim λc j=>aB _<|.list (g _ m) rfl rfl j) (λm e c r=>r.elim λc r=>r.elim λc r=>aB _<|.dict (g _ m) rfl rfl (by simpa using r.1) (by simpa using r.2))
  (aB _ .nil) (λc c a b=>a.elim λc a=>b.elim λc b=>aB _<|.cons a b) (cA _ _ .nil .nil) λc c a b=>a.elim λc a=>b.elim λc b=>b.elim λc b=>cA _ _ (.cons (.str _ _) b.1)<|.cons a b.2
section
variable{b:Nat}{c:Td}{L Z:Led}
noncomputable def rQ:CmpOp->Bool
 | .Eq=>true
 |_=>false
theorem AR(z:e= .Eq\/e= .NotEq)(J:c.cUnits<=100)(H:b<=960)(v:Tells Z f d)(w:Tells Z i d)(a:PySem.SeqAt.shaped d=true):VS b c (compareOp e f i) L Z λr B F=>r= .bool (rQ e)/\B=L.map (·.2)/\F=[]:=by
 intro A I h N T g j o O M P hk y D Q E x;have m:=x (.bool<|rQ e) (L.map (·.2)) [] h N T g ⟨rfl,rfl,rfl⟩ (XC _) (by rw[gz,aP];exact D);have l:∀p∈Z,h.get? p.1=some p.2:=λp q=>D.keep _ _<|y p q
 refine aw (v.reads l) λC t=>aw (w.reads l) λG u=>?_
 have n:(A.under c).units+64<PySem.cLine:=by
  show A.units+c.cUnits+64<9900;lia
 have k:=eqv_refl d<|canLay_of_shaped a;rcases z with rfl|rfl
 ·exact Va<|eq_dataH (s:=⟨h,g,j,T+1,o⟩) t u a a n<|by rw[k];exact m
 ·exact Va<|ne_dataH (s:=⟨h,g,j,T+1,o⟩) t u a a n<|by rw[k];exact m
theorem VS.operate{a:va->List S9->Led->Prop}(h:VS b c t L Z a):VS b c (operate r t) L Z a:=λA j e N T g d q m l n hk f D Q E i s p k o=>by
 rw[VM.wp_operate];exact h A j e N T g d q m l n hk f D Q E i s p k o
theorem VS.mJ{d:Type}{f:Unit->VM d}{a:d->List S9->Led->Prop}(h:VS b c (f ()) L Z a):VS b c (PySem.standAt q>>=f) L Z a:=VS.lC VS.standAt λe=>h
theorem z5(f:d= .Eq\/d= .NotEq)(e:Expr):behindInMarks d e=false:=by
 rcases f with rfl|rfl<;>cases e with
 |Set a k p=>exact(show((k==0)&&false&&a.all (constantsAlone 8))=false by cases(k==0)<;>rfl)
 |_=>rfl
theorem rW{n:va->List S9->Led->Prop}{m:List S9->Led->Prop}(s:f= .Eq\/f= .NotEq)(E:c.cUnits<=100)(D:b<=960)(x:VS b c (eval l g) L Z n)
  (y:∀a i F,n a i F->i.length=L.length->VS b c (eval r g) (a8 L i) (F++Z) λp t k=>m t (k++F)/\∃d,PySem.SeqAt.shaped d=true/\Tells (k++(F++Z)) a d/\Tells (k++(F++Z)) p d):
  VS b c (eval (.Compare l [f] [r] j) g) L Z λv i F=>v= .bool (rQ f)/\m i F:=by
 have e:eval (.Compare l [f] [r] j) g=(eval l g>>=λa=>X8 [a] (eval r g)>>=λu=>PySem.standAt j>>=λw=>PySem.operate [a,u]<|compareOp f a u):=by
  show(eval l g>>=λa=>compareChain j a [f]<|markedEach [f] [r]<|evalEach [r] g)=_;refine congrArg _<|funext λa=>?_;show compareChain j a [f] [ZJ f r<|eval r g]=_;unfold ZJ;rw[z5 s];rfl
 rw[e];refine VS.bind x λa i F z G=>VS.bind (VS.hold<|y a i F z G) λp t k A H=>VS.mJ<|VS.operate ?_
 refine hide λQ C=>a0 A λB O=>dB O λd I P R=>C<|(AR s E D P R I).mono ar (λw q=>q) λv o S w h=>cK h λJ M N=>?_;clear h;subst J M N
 rw[iA _ _ H];exact⟨rfl,B⟩
theorem Bq{a:Bool->List S9->Led->Prop}(h:a v (L.map (·.2)) []):VS b c (truthy<|.bool v) L Z a:=VS.pure h
theorem u7{n:va->List S9->Led->Prop}{m:List S9->Led->Prop}(q:f= .Eq\/f= .NotEq)(D:c.cUnits<=100)(C:b<=960)(w:VS b c (eval l g) L Z n)
  (x:∀a i F,n a i F->i.length=L.length->VS b c (eval r g) (a8 L i) (F++Z) λp s k=>m s (k++F)/\∃d,PySem.SeqAt.shaped d=true/\Tells (k++(F++Z)) a d/\Tells (k++(F++Z)) p d):
  VS b c (isTrue (.Compare l [f] [r] j) g u) L Z λv i F=>v=rQ f/\m i F:=by
 have e:isTrue (.Compare l [f] [r] j) g u=(eval l g>>=λa=>X8 [a] (eval r g)>>=λt=>PySem.standAt j>>=λT=>PySem.operate [a,t] (compareOp f a t)>>=λv=>X8 [v]<|truthy v):=by
  show(eval l g>>=λa=>testChain j a [f]<|markedEach [f] [r]<|evalEach [r] g)=_;refine congrArg _<|funext λa=>?_;show testChain j a [f] [ZJ f r<|eval r g]=_;unfold ZJ;rw[z5 q];rfl
 rw[e];refine VS.bind w λa i F y E=>VS.bind (VS.hold<|x a i F y E) λp s k z G=>VS.mJ ?_
 refine hide λQ B=>a0 z λA O=>dB O λd I P R=>B<|VS.bind (VS.operate<|AR q D C P R I) λv o S h H=>VS.hold ?_
 refine cK h λJ M N=>?_;clear h;subst J M N
 refine Bq ?_;rw[iA _ _ H,iA _ _ G];exact⟨rfl,A⟩
end
end
noncomputable def exE(b:List Wq)(a:Zb):VM PySem.Fin:=execs b a>>=λf=>pure<|PySem.Fin.done f
noncomputable def lh(a:Expr)(b:va)(c:Zb):VM Bool:=do
 PySem.standAt a.pos
 match<-Wk b with
 |none=>pure false
 |some v=>do
  Wn a b v
  assign a c v
  pure true
def fpE(d:Expr)(c:va)(a:Zb):VM PySem.Fin:=lh d c a>>=λb=>pure<|PySem.Fin.done<|.ret<|.bool b
lay_z exE fpE
noncomputable def gw:List Wq->Zb->VM PySem.Fin:=PySem.W.ZFast.zw4252832827347822041
theorem RB:@exE=gw:=PySem.W.ZFast.ze4252832827347822041
section
variable{b:Nat}{c:Td}{L Z:Led}{a:aU}
theorem VS.Nj{l:W8->List S9->Led->Prop}(h:d7 w b c (t>>=λf=>Y2<|PySem.Fin.done f) L Z a)
  (I:∀r k j F n,a r k j F n->(∃v,r= .ok v)/\∀f,r= .ok f->l f k (j++F)):VS b c t L Z l:=by
 intro A O i N T g d os S R V hk M D Q Tu J;have Tt:=h A O i N T g d os S R V hk M D (λr Ts=>(∃v,r= .ok v)/\∀f,r= .ok f->Q f Ts) λr k j F n G y z C x U Tv u=>by
  exact a0 (I _ _ _ _ _ x) λE H=>⟨E,λf e=>J f k (j++F) G y z C (H f e) U<|by rw[<-aZ];exact u⟩
 intro s p P Y;have q:=Tt s p P Y;rw[V0] at q;refine V8 _ s t (λf p' o i=>?_) (λB p' o i=>?_) p _ q
 ·exact(show(∃v,(Except.ok f:Vz)= .ok v)/\∀m,(Except.ok f:Vz)= .ok m->Q m o from i).2 f rfl
 ·refine a0 (show(∃v,(Except.error B:Vz)= .ok v)/\_ from i) λTr zu=>aw Tr λv e=>?_
  cases e
def sV(d:W8->List S9->Led->Prop):aU:=λr g e F h=>∃f,r= .ok f/\d f g (e++F)
theorem VS.execs{d:W8->List S9->Led->Prop}(h:d7 w b c (gw i g) L Z (sV d)):VS b c (PySem.execs i g) L Z d:=by
 refine VS.Nj (a:=sV d) ?_ λr l k F m h=>?_
 ·show d7 w b c (exE i g) _ _ _
  rw[RB];exact h
 ·obtain⟨f,rfl,h⟩:=h
  exact⟨⟨f,rfl⟩,λj e=>by cases e;exact h⟩
theorem Na{Q:W8->XT->Tf->Prop}{E:va->XT->Tf->Prop}:∀(k:List Wq) (p:XT) (s:Tf),VG M g (PySem.execs k i) (λf d e=>f=Xf/\VG M g (PySem.execs rest i) Q E d e) E p s->VG M g (PySem.execs (k++rest) i) Q E p s:=by
 intro k;induction k with
 |nil=>
  intro p s h;have l:VG M g (pure Xf) (λf d e=>f=Xf/\VG M g (PySem.execs rest i) Q E d e) E p s:=h;rw[Wo] at l;exact l.2
 |cons st k n=>
  intro p s h;have l:VG M g (PySem.exec st i>>=λf=>match f with| .next=>PySem.execs k i|f=>pure f) (λf d e=>f=Xf/\VG M g (PySem.execs rest i) Q E d e) E p s:=h;show VG M g (PySem.exec st i>>=λf=>match f with| .next=>PySem.execs (k++rest) i|f=>pure f) Q E p s;rw[V0] at l⊢;refine V8 M g _ (λf d e x=>?_) (λm m m x=>x) p s l;cases f with
  |next=>exact n d e x
  |brk=>have j:VG M g (pure W8.brk) (λf d e=>f=Xf/\_) E d e:=x;rw[Wo] at j;exact absurd j.1<|by simp
  |cont=>have j:VG M g (pure W8.cont) (λf d e=>f=Xf/\_) E d e:=x;rw[Wo] at j;exact absurd j.1<|by simp
  |ret v=>have j:VG M g (pure<|Xr v) (λf d e=>f=Xf/\_) E d e:=x;rw[Wo] at j;exact absurd j.1<|by simp
theorem Rp{Q:W8->Tf->Prop}{E:va->Tf->Prop}(h:Xs (Vy Pw w) A c (PySem.execs e d>>=λf=>match f with| .next=>PySem.execs rest d|_=>.unsupported "") Q E s):Xs (Vy Pw w) A c (PySem.execs (e++rest) d) Q E s:=λj p k l=>by
 have g:=h j p k l;rw[V0] at g;refine Na e p s<|V8 _ j _ (λf m n x=>?_) (λi i i x=>x) p s g;cases f with
 |next=>exact⟨rfl,x⟩
 |_=>exact absurd x<|by show ¬False;exact id
theorem VS.app{m:List S9->Led->Prop}{j:W8->List S9->Led->Prop}(p:VS b c (PySem.execs l i) L Z λf e F=>f=Xf/\m e F)
  (q:∀e F,m e F->e.length=L.length->VS b c (PySem.execs rest i) (a8 L e) (F++Z) λo y n=>j o y<|n++F):VS b c (PySem.execs (l++rest) i) L Z j:=by
 have z:VS b c (PySem.execs l i>>=λf=>match f with| .next=>PySem.execs rest i|_=>.unsupported "") L Z j:=VS.bind p λf e F k w=>by
  obtain⟨rfl,k⟩:=k;exact q e F k w
 exact λA t h N T g d B v u x hk s D Q E r=>Rp<|z A t h N T g d B v u x hk s D Q E r
theorem VS.ny{d:W8->List S9->Led->Prop}(h:VS b c (PySem.exec s g) L Z d):VS b c (PySem.execs [s] g) L Z d:=by
 show VS b c (PySem.exec s g>>=λf=>match f with| .next=>Y2 Xf|f=>Y2 f) L Z d;refine VS.bind h λf k F i j=>?_
 have e:(match f with| .next=>(Y2 Xf:VM W8)|f=>Y2 f)=Y2 f:=by cases f<;>rfl
 rw[e];exact VS.pure<|by rw[iA _ _ j];exact i
theorem uV{i:List S9->Led->Prop}(h:VS b c (isTrue t e<|eval t e) L Z λv d F=>v=false/\i d F):VS b c (PySem.exec (.If t j [] l) e) L Z λf d F=>f=Xf/\i d F:=by
 rw[Aa];refine VS.mJ<|VS.bind h λv d F g k=>?_;obtain⟨rfl,g⟩:=g;exact VS.pure ⟨rfl,by rw[iA _ _ k];exact g⟩
theorem uH{g:va->List S9->Led->Prop}(h:VS b c (eval e d) L Z g):VS b c (PySem.exec (.Return (some e) j) d) L Z λf i F=>∃v,f= .ret v/\g v i F:=by
 show VS b c (PySem.standAt j>>=λm=>eval e d>>=λv=>pure<|Xr v) L Z _;exact VS.mJ<|VS.bind h λv i F k l=>VS.pure ⟨v,rfl,by rw[iA _ _ l];exact k⟩
theorem GC{l k:List S9->Led->Prop}(n:VS b c (isTrue f d<|eval f d) L Z λv e F=>v=false/\l e F)
  (o:∀e F,l e F->e.length=L.length->VS b c (isTrue g d<|eval g d) (a8 L e) (F++Z) λv m j=>v=false/\k m (j++F)):VS b c (isTrue (.BoolOp .Or [f,g] r) d s) L Z λv e F=>v=false/\k e F:=by
 show VS b c (isTrue f d (eval f d)>>=λv=>match BoolOp.Or,v with| .And,false=>pure false| .Or,true=>pure true|_,_=>isTrue g d (eval g d)>>=λv=>match BoolOp.Or,v with| .And,false=>pure false| .Or,true=>pure true|_,_=>pure false) L Z _;refine VS.bind n λv e F h p=>?_
 obtain⟨rfl,h⟩:=h;refine VS.bind (o e F h p) λv m j i q=>?_
 obtain⟨rfl,i⟩:=i;exact VS.pure ⟨rfl,by rw[iA _ _ q];exact i⟩
theorem AY{p:List S9->Led->Prop}{g:va->List S9->Led->Prop}(u:VS b c (eval n e) L Z λv d F=>v= .bool true/\p d F)
  (w:∀d F,p d F->d.length=L.length->VS b c (eval i e) (a8 L d) (F++Z) λv m f=>g v m<|f++F):VS b c (eval (.BoolOp .And [n,i] r) e) L Z g:=by
 show VS b c (eval n e>>=λv=>PySem.standAt r>>=λj=>X8 [v] (truthy v)>>=λt=>match BoolOp.And,t with| .And,false=>pure v| .Or,true=>pure v|_,_=>eval i e) L Z g;refine VS.bind u λv d F k l=>VS.mJ ?_
 obtain⟨rfl,k⟩:=k;refine VS.bind (VS.hold (Bq (v:=true) (a:=λv o F=>v=true/\o=(a8 L d).map (·.2)/\F=[]) ⟨rfl,rfl,rfl⟩)) λv o f h x=>?_
 obtain⟨rfl,rfl,rfl⟩:=h;rw[iA _ _ l];show VS b c (eval i e) (a8 (a8 L d) d) (F++Z) λs m f=>g s m<|f++[]++F
 rw[qb _ _ _ l];exact(w d F k l).mono ar (λj q=>q) λj j F j h=>by rw[aP];exact h
theorem SP.func{l:W8->List S9->Led->Prop}(h:VS b (.func j i) (PySem.execs j i) L Z l)(u:∀f e F,l f e F->e.length=L.length->∃v,f= .ret v/\k (H7 v) e [] F []):SP w b (.func j i) L Z k:=by
 intro A C t N T g d I G E H hk B D R z;refine y_code _ _ _ _ _ _ ?_;show Xs _ A _ (point>>=λM=>(PySem.execs j i).onRaise (leaving i)>>=λf=>match f with| .ret v=>ret v|_=>ret .none) _ _ _;refine WL<|Va<|wpAny_point<|WL<|nX<|h A C t N T g d I G E H hk B D _ _ λf e F s o p r x m n=>aI (u f e F x m) λv J y=>?_;subst J
 exact Va (Te<|z (H7 v) e [] F [] s o p r y m (λM q=>nomatch q)<|by rw[aP];exact n)
theorem SP.Sa(h:e (.ok .next) (L.map (·.2)) [] [] []):SP w b (.block [] i) L Z e:=by
 intro A m j N T g d r o n p hk l D R k;refine y_code _ _ _ _ _ _ ?_;show Xs _ A _ ((PySem.execs [] i).onRaise _>>=λf=>pure<|PySem.Fin.done f) _ _ _;refine WL<|nX ?_;show Xs _ A _ (pure Xf) _ _ _;exact Va<|Te<|Va<|Te<|k (.ok .next) _ [] [] [] j N T g h (XC _) (λs q=>nomatch q)<|by rw[gz,aP,aP];exact D
end
noncomputable def sr(d:Expr)(c:va)(a:List Wq)(b:Zb):W8->VM PySem.Fin
 | .next| .cont=>again<|.forLoop d c a [] b
 | .brk=>pure<|.done .next
 | .ret v=>pure<|.done<|.ret v
theorem IZ{Q:PySem.Fin->XT->Tf->Prop}{E:va->XT->Tf->Prop}
  (h:VG M c (lh d g b) (λok p s=>(ok=true->VG M c (PySem.execs e b>>=sr d g e b) Q E p s)/\(ok=false->Q (.again<|.block [] b) p s)) (λa a a=>False) p s):VG M c (forTurn d g e [] b) Q E p s:=by
 unfold lh at h;unfold forTurn;rw[V0] at h⊢;refine V8 M c _ (λa u z l=>?_) (λa a a x=>x.elim) p s h;rw[V0] at l⊢;rw[VM.wp_onRaise];refine V8 M c _ (λr j k m=>?_) (λa a a x=>x.elim) u z l;cases r with
 |none=>
  have i:VG M c (pure false) (λok p s=>(ok=true->VG M c (PySem.execs e b>>=sr d g e b) Q E p s)/\(ok=false->Q (.again<|.block [] b) p s)) (λa a a=>False) j k:=m;rw[Wo] at i;show VG M c (pure<|PySem.Fin.again<|.block [] b) Q E j k;rw[Wo];exact i.2 rfl
 |some v=>
  have i:VG M c (Wn d g v>>=λa=>assign d b v>>=λa=>pure true) (λok p s=>(ok=true->VG M c (PySem.execs e b>>=sr d g e b) Q E p s)/\(ok=false->Q (.again<|.block [] b) p s)) (λa a a=>False) j k:=m;show VG M c (Wn d g v>>=λa=>assign d b v>>=λa=>PySem.execs e b>>=λf=>match f with| .next| .cont=>again (.forLoop d g e [] b)| .brk=>pure (.done .next)| .ret v=>pure<|.done<|.ret v) Q E j k;rw[V0] at i⊢;refine V8 M c _ (λa w A n=>?_) (λa a a x=>x.elim) j k i;rw[V0] at n⊢;refine V8 M c _ (λa y B o=>?_) (λa a a x=>x.elim) w A n;rw[Wo] at o;have q:=o.1 rfl;rw[V0] at q⊢;refine V8 M c _ (λf C D t=>?_) (λa a a x=>x) y B q;cases f<;>exact t
section
variable{b:Nat}{L Z:Led}
theorem SP.turn{H:Bool->List S9->Led->Prop}{I:W8->List S9->Led->Prop}
  (h1:VS b (.forLoop k j i [] c) (lh k j c) L Z H)
  (h0:∀a F,H false a F->a.length=L.length->E (.ok .next) a [] F [])
  (v:∀a F,H true a F->a.length=L.length->VS b (.forLoop k j i [] c) (PySem.execs i c) (a8 L a) (F++Z) λf o h=>f= .next/\I f o (h++F))
  (h3:∀a F,I .next a F->a.length=L.length->SP w b (.forLoop k j i [] c) (a8 L a) (F++Z) λr o n h D=>n=[]/\D=[]/\E r o [] (h++F) []):
  SP w b (.forLoop k j i [] c) L Z E:=by
 have Tz:VS b (.forLoop k j i [] c) (lh k j c>>=λok=>match ok with|false=>pure (PySem.Fin.again<|.block [] c)|true=>PySem.execs i c>>=sr k j i c) L Z λN a F=>(N= .again (.block [] c)/\E (.ok .next) a [] F [])\/(N= .again (.forLoop k j i [] c)/\I .next a F):=by
  refine VS.bind h1 λok a F m s=>?_
  cases ok with
  |false=>exact VS.pure<|.inl ⟨rfl,by rw[iA _ _ s];exact h0 a F m s⟩
  |true=>
   refine VS.bind (v a F m s) λf o h y z=>a0 y λB y=>?_;subst B
   exact VS.pure (.inr ⟨rfl,by rw[iA _ _ z];exact y⟩)
 intro A hb h' Tu Tv Tw d U S Q T hk hZ Tt R hR;refine y_code _ _ _ _ _ _ ?_;show Xs _ A _ ((forTurn k j i [] c).onRaise _) _ _ _;refine nX ?_;have TF:=Tz A hb h' Tu Tv Tw d U S Q T hk hZ Tt (postC Pw w A R) (λg g=>False) λN a F v Y T' g' m s l=>by
  have Ts:(a8 L a).length=L.length:=by have:=congrArg Tn<|ly L a;simpa using this
  have Tr:ep (XQ v ((a8 L a).map (·.1))) (F++Z):=λp q=>by
   rcases bB q with q|q
   ·exact l.jn p q
   ·exact l.cV _ _<|hZ p q
  rcases m with⟨rfl,m⟩|⟨rfl,m⟩
  ·refine⟨rfl,?_⟩
   refine SP.Sa (Z:=F++Z) (e:=λr o n h D=>n=[]/\D=[]/\h=[]/\o=(a8 L a).map (·.2)/\r= .ok .next) ⟨rfl,rfl,rfl,rfl,rfl⟩ A _ v Y T' g' d U S Q T (hk.le l.cV) Tr l.frame R ?_;rintro r o n h D P J M O C z Tx t;refine gb C λB V TA TB TC=>?_;clear C;subst B V TA TB TC
   have u:=l.gu (new:=[]) (by rw[aP] at t;exact t);rw[gz,aP] at u;exact hR (.ok .next) a [] F [] P J M O m s (λg q=>nomatch q)<|by rw[aP];exact u
  ·refine⟨rfl,?_⟩
   refine h3 a F m s A _ v Y T' g' d U S Q T (hk.le l.cV) Tr l.frame R ?_;rintro r o n h D P J M O C z Tx t;refine cK C λB V y=>?_;clear C;subst B V
   have u:=l.gu (new:=h) (by rw[aP] at t;exact t);rw[qb _ _ _<|z.trans Ts,aZ] at u;exact hR r o [] (h++F) [] P J M O y (z.trans Ts) (λg q=>nomatch q)<|by rw[aP];exact u
 intro G p hc hΓ;have z':=TF G p hc hΓ;rw[V0] at z';refine IZ<|V8 _ G _ (λok p' s' x=>?_) (λg g g x=>x) p _ z';refine⟨λe=>?_,λe=>?_⟩
 ·subst e;exact V8 _ G _ (λg g g x=>x) (λg g g x=>x.elim) _ _ x
 ·subst e
  have x':VG (Vy Pw w) G (pure<|PySem.Fin.again<|.block [] c) _ _ p' s':=x;rw[Wo] at x';exact x'
end
theorem SP.tree{t:VM PySem.Fin}{L Z:Led}{y:PySem.Fin->List S9->Led->Prop}
  (Tv:∀(A:Wr) (R:Vz->Tf->Prop) (s:Tf),Xs (Vy Pw w) A c t (postC Pw w A R) (λu u=>False) s->Yb (Vy Pw w) A c R s) (Ts:VS b c t L Z y)
  (hK:∀h a F,y h a F->a.length=L.length->(∃f,h= .done f/\k (.ok f) a [] F [])\/(∃j,h= .again j/\j.quiet=true/\SP w b j (a8 L a) (F++Z) λr o n i U=>n=[]/\U=[]/\k r o [] (i++F) [])):SP w b c L Z k:=by
 intro A hb h0 N T g d S J I Q hk H D R G;refine Tv A R _<|Ts A hb h0 N T g d S J I Q hk H D _ _ λh a F E z B C Tu M e=>?_;rcases hK h a F Tu M with⟨f,rfl,l⟩|⟨j,rfl,hq,l⟩
 ·exact G (.ok f) a [] F [] E z B C l M (λu q=>nomatch q)<|by rw[aP];exact e
 ·refine⟨hq,?_⟩
  refine l A _ E z B C d S J I Q (hk.le e.cV) (λp q=>?_) e.frame R λr o n i U Tt V Y Tr m O Tw v=>?_
  ·rcases bB q with q|q
   ·exact e.jn p q
   ·exact e.cV _ _<|H p q
  ·obtain⟨rfl,rfl,m⟩:=m
   have P:(a8 L a).length=L.length:=by have:=congrArg Tn<|ly L a;simpa using this
   have x:=e.gu (new:=i) (by rw[aP] at v;exact v);rw[qb _ _ _<|O.trans P,aZ] at x;exact G r o [] (i++F) [] Tt V Y Tr m (O.trans P) (λu q=>nomatch q)<|by rw[aP];exact x
theorem a7.split:∀{a:List SS} {kv:KV},a7 Z a (bu kv)->a.length=kv.length/\StrKeys a/\∀(i:Nat) (p:SX×Tg),kv[i]?=some p->∃t v,a[i]?=some ⟨cu w p.1,.str p.1<|t+1,v⟩/\Tells Z v p.2
 |_,[],h=>by rw[h.nil_inv];exact⟨rfl,(λn q=>nomatch q),λi p q=>nomatch q⟩
 |_,q::kv,h=>by
  refine hide λQ g=>cQ h.cons_inv λt v a m d f=>?_;subst m
  refine cK f.split λj k l=>g<|⟨congrArg (· +1) j,λe b=>?_,λi p c=>?_⟩
  ·rcases bK b with rfl|b
   ·exact cA q.1 (t+1) rfl (mQ w _)
   ·exact k e b
  ·cases i with
   |zero=>cases c;exact cA t v rfl d
   |succ i=>exact l i p c
noncomputable def dZ(a:List SS):List (SX×va):=a.map λe=>((match e.key with| .str k _=>k|_=>""),e.val)
theorem dictAt{h:Vm}(i:h.get? d=some (ab a n))(hk:StrKeys a)(m:(keysOf a).Nodup):h.DictAt (strKind Pw w) d (dZ a) n:=by
 refine⟨_,⟨a⟩,i,⟨rfl,rfl,rfl⟩,rfl,(λe c=>?_),?_,?_⟩
 ·refine cw (hk e<|by simpa using c) λk t b f=>aX k ?_ f;show Wi k e.key=true;rw[b];exact beq_self_eq_true k
 ·have:∀l:List SS,StrKeys l->Pairs (strKind Pw w) l (dZ l):=λl=>by
   induction l with
   |nil=>exact λo=>.nil
   |cons e l j=>
    intro hk;refine cw (hk e<|.head _) λk t b f=>?_
    have g:dZ (e::l)=(k,e.val)::dZ l:=by show((match e.key with| .str k _=>k|_=>""),e.val)::dZ l=_;rw[b]
    rw[g];exact .cons (by rw[b];exact beq_self_eq_true k) rfl (j λe c=>hk e<|.tail _ c)
  exact this a hk
 ·unfold dZ;rw[Vb];exact m
def oG(Z:Led)(I S d i n e:Nat)(c:S9):Prop:=(i=0/\∃ok b,c=bw d 0 n e ok b)\/∃(ok b:va) (a:Nat) (f:Bool) (g:S9),c=qf (Wy a) (.bool f) d i n e ok b/\(a,g)∈Z/\a≠I
section
variable{b:Nat}{c:Td}{Z:Led}{S I d i e:Nat}{a:List SS}{g:S9}{h:KV}
theorem RM(Y:oG Z (I+4) (S+4) d i a.length e g)(hd:(d+4,ab a e)∈Z)(ht:a7 Z a (bu h))(nd:(keysOf a).Nodup)(hp:h[i]?=some p):
  VS b c (Wk<|.ref<|I+4) [(I+4,g)] Z λr Tt F=>∃j P,r=some (.ref<|j+4)/\Tt=[P]/\oG (F++Z) (I+4) (S+4) d (i+1) a.length e P/\Tells (F++Z) (.ref<|j+4) (.tuple [.str p.1,p.2]):=by
 refine cK ht.split λhl hk Tr=>cw (Tr i p hp) λTv v L O=>?_
 intro Tw hb k Tz T t U os hh TA hu TB G D Q Tx E;refine aw D.d3 λn B=>?_;subst B
 have A:=D.own (I+4,g)<|.head _;have J:=D.keep _ _<|G _ hd;have C:([(I+4,g)]:Led)[0]?=some (I+4,g):=rfl;rcases Y with⟨rfl,ok,ov,rfl⟩|⟨ok,ov,j,f,oa,rfl,H,N⟩
 ·refine Va<|DX A J rfl L D.size λl m u x y=>?_
  have o:=D.turned C x m u y;refine E _ [_] [(n+4,ag [.str p.1<|Tv+1,v])] l _ T t (pT n _ rfl rfl (.inr<|oY _ _ (n+4) false _ rfl (.head _) ?_) (.kv (.head _) O.more)) rfl o;intro Tu;have:=D.off (I+4,_)<|.head _;have z:=VN A;rw[D.size] at z;exact absurd Tu<|YL z
 ·have hm:Vm.DictAt (strKind Pw w) k (d+4) (dZ a) e:=dictAt J hk nd
  have M:(dZ a).length=a.length:=XC _;have hx:(dZ a)[i]?=some (p.1,v):=by unfold dZ;rw[Vi,L];rfl
  refine Va (kdx_next_out (s:=⟨k,t,U,T+1,os⟩) (knd:=strKind Pw w) (kvs:=dZ a) (by rw[M];exact A) (D.keep _ _<|G _ H) N hm hx λTC l Ts m u x y=>?_);refine aw (va.isStrOf_shape Ts) λR B=>?_;subst B
  rw[M] at m;have q:k.objs.size=n+4:=D.size;have V:l.get? (n+4)=some (ag [.str p.1 R,v]):=by rw[<-q];exact u
  have o:=D.turned C (by rw[<-q];exact x) m V y;show Q (some<|.ref k.objs.size) _;rw[q];exact E _ [_] [(n+4,ag [.str p.1 R,v])] l _ T t (pT n _ rfl rfl (.inr<|oY _ _ j true oa rfl (.tail _ H) N) (.kv (.head _) O.more)) rfl o
theorem G2(s:oG Z (I+4) (S+4) d a.length a.length e g)(v:(d+4,ab a e)∈Z):VS b c (Wk<|.ref<|I+4) [(I+4,g)] Z λr z F=>r=none/\∃y,z=[y]/\F=[]:=by
 intro A J H N T q G R x L O M u D Q E t;refine aw D.d3 λn B=>?_;subst B
 have w:=D.keep _ _<|u _ v;obtain⟨k,l,ok,j,rfl⟩:∃k l ok j,g=qf k l d a.length a.length e ok j:=by
  rcases s with⟨m,ok,j,rfl⟩|⟨ok,j,C,f,P,rfl,_⟩
  ·rw[m];exact jy _ _ _ _ rfl
  ·exact jy _ _ _ _ rfl
 have m:([(I+4,qf k l d a.length a.length e ok j)]:Led)[0]?=some (I+4,qf k l d a.length a.length e ok j):=rfl;refine Va<|yK x (D.own (I+4,_)<|.head _) w rfl D.size ?_;have p:=((D.update (f:=Tc (·.setIfInBounds 2 .none)) m rfl).alloc (o:=ag []) rfl).alloc (o:=cm n) rfl;exact t none [_] [] _ (n+6) T q ⟨rfl,_,rfl,rfl⟩ rfl (p.fp<|(Vg _ _).trans<|Vg _ _)
theorem NW(m:j.length<=1000):VS b c (Wt (.ref<|S+4) (·.push x)) [(S+4,aa j k)] Z λC q F=>q=[aa (j++[x])<|k+1]/\F=[]:=by
 intro A u s N T o r B w v z y t D Q E p;have n:([(S+4,aa j k)]:Led)[0]?=some (S+4,aa j k):=rfl;have l:=D.update (f:=Vr (·.push x)) n (by rw[mapSeq_push];rfl);rw[mapSeq_push] at l;show Xs _ _ _ (Y4 (S+4) (·.push x)) _ _ _;exact Va<|WE (D.own (S+4,_)<|.head _) rfl (p _ [aa (j++[x])<|k+1] [] _ N T o ⟨rfl,rfl⟩ rfl (by rw[aP];exact l)) (b6 m) (by show((⟨j⟩:Array va).push x).size<=VZ+1;rw[Zo];exact Vk<|b6 m)
noncomputable def jf(p:SX×Tg):Tg:=.tuple [.str p.1,p.2]
noncomputable abbrev iL(S I:Nat)(f:va):Td:=.builtin "list.extend.loop" ⟨[.ref<|S+4,.ref<|I+4,f],[]⟩
theorem Eg(j:VS b (iL S I l) (Wk<|.ref<|I+4) [(I+4,g)] Z λr m F=>r=none/\∃f,m=[f]/\F=[])(B:∀f,v (H7 l) [aa u k,f] [] [] []):SP w b (iL S I l) [(S+4,aa u k),(I+4,g)] Z v:=by
 refine SP.tree (t:=ZK ⟨[.ref<|S+4,.ref<|I+4,l],[]⟩) (y:=λy m F=>y= .done (.ret l)/\F=[]/\∃f,m=[aa u k,f]) (λA R s j=>y_code _ _ _ _ _ _<|by rw[vy PySem.F.entry_extend_loop];exact Y1 j (λn n q=>q) λn n q=>q.elim) ?_ ?_
 ·show VS b _ (Wk (.ref<|I+4)>>=λr=>match r with|none=>ret l|some x=>Wt (.ref<|S+4) (·.push x)>>=λn=>again _) _ _ _
  refine VS.bind (VS.one (i:=1) rfl j) λr m F j L=>dB j λC o E p=>aI p λf J H=>?_;clear j;subst o E H
  exact VS.pure ⟨rfl,rfl,C,rfl⟩
 ·rintro y m F z n;refine cK z λD o p=>aw p λf G=>?_;clear z;subst D o G
  exact .inl (aX _ rfl (B f))
theorem yc{u:List va}{P:va->S9->Led->Prop}(L:u.length<=1000)(m:VS b (iL S I j) (Wk<|.ref<|I+4) [(I+4,g)] Z λr p F=>∃v f,r=some v/\p=[f]/\P v f F)
  (H:∀v f F,P v f F->SP w b (iL S I j) [(S+4,aa (u++[v])<|k+1),(I+4,f)] (F++Z) λr o n E V=>n=[]/\V=[]/\B r o [] (E++F) []):SP w b (iL S I j) [(S+4,aa u k),(I+4,g)] Z B:=by
 refine SP.tree (t:=ZK ⟨[.ref<|S+4,.ref<|I+4,j],[]⟩) (y:=λC p F=>C= .again (iL S I j)/\∃v f,p=[aa (u++[v])<|k+1,f]/\P v f F) (λA R s m=>y_code _ _ _ _ _ _<|by rw[vy PySem.F.entry_extend_loop];exact Y1 m (λl l q=>q) λl l q=>q.elim) ?_ ?_
 ·show VS b _ (Wk (.ref<|I+4)>>=λr=>match r with|none=>ret j|some x=>Wt (.ref<|S+4) (·.push x)>>=λl=>again<|iL S I j) _ _ _
  refine VS.bind (VS.one (i:=1) rfl m) λq p F m l=>hide λQ J=>aI m λM O z=>bE z λv f U G y=>?_;clear m;subst O U
  cases G
  exact J<|VS.bindC (i:=0) rfl (NW (S:=S) L) λl=>VS.pure ⟨rfl,v,M,rfl,y⟩
 ·rintro C p F D l;refine a0 D λN z=>cw z λv f T y=>?_;clear D;subst N T
  exact .inr (aY _ rfl (Yt PySem.F.plain_extend_loop _) (H v f F y))
theorem R0(nd:(keysOf a).Nodup)(h9:a.length<=900):∀(r:KV) (i:Nat) (j:List va) (k:Nat) (g:S9) (Z:Led) (l:List Tg),h.drop i=r->i<=h.length->(d+4,ab a e)∈Z->a7 Z a (bu h)->oG Z (I+4) (S+4) d i a.length e g->ak Z j l->j.length=i->
  SP w b (iL S I J) [(S+4,aa j k),(I+4,g)] Z λq G E F L=>(q= .ok (.ret J)/\E=[]/\L=[])/\∃x A f,G=[aa x A,f]/\ak (F++Z) x (l++r.map jf):=by
 intro r;induction r with
 |nil=>
  intro i j k g Z l u R t m y z B;have U:i=a.length:=by have:=Xh.mp u;have:=m.split.1;lia
  subst U;exact Eg (G2 (S:=S) y t) λf=>⟨⟨rfl,rfl,rfl⟩,j,k,f,rfl,by rw[W3,aP];exact z⟩
 |cons p r Y=>
  intro i j k g Z l u R t m y z B;have C:h[i]?=some p:=by have:=congrArg (·[0]?) u;simpa using this
  have T:=(Tb.mp C).1;have V:h.drop (i+1)=r:=by rw[<-XZ,u];rfl
  have hs:=m.split.1;refine yc (P:=λv f F=>oG (F++Z) (I+4) (S+4) d (i+1) a.length e f/\Tells (F++Z) v (jf p)) (by lia) ((RM (S:=S) y t m nd C).mono ar (λn q=>q) λr o F n s=>?_) λv f F s=>?_
  ·exact oM s λTu f M N O Q=>pT _ f M N O Q
  ·refine(Y (i+1) (j++[v]) (k+1) f (F++Z) (l++[jf p]) V T (az t) (m.sub λn q=>az q) s.1 (z.more.app<|.cons s.2 .nil)<|by rw[Vd,B];rfl).mono ar (λn q=>q) ?_
   rintro q G E F' L n H n;refine a0 H λTs qs=>c0 qs λx A Tr Tt D=>?_;clear H;obtain⟨rfl,rfl,rfl⟩:=Ts;subst Tt
   refine⟨rfl,rfl,⟨rfl,rfl,rfl⟩,x,A,Tr,rfl,?_⟩;rw[aZ] at D⊢;exact D
end
theorem QO(h:a7 Z a (bu kv)):keysOf a=kv.map (·.1):=by
 induction kv generalizing a with
 |nil=>rw[h.nil_inv];rfl
 |cons q kv c=>refine cQ h.cons_inv λt v a d e b=>?_;subst d;exact congrArg (q.1:: ·)<|c b
abbrev ix:Wq:=bJ (b4 155) 0
abbrev iP:Wq:=bJ (b4 155) 1
abbrev jA:Wq:=bJ (b4 155) 2
inductive eP(c:Td)(sub Z:Led)(k:Nat->List va->Nat->Prop):Prop
 |mk (d x t es n a vs m) (h0:c= .builtin "dict.__getitem__" ⟨[.ref<|d+4,.str x t],[]⟩) (h1:StrKeys es) (h2:kq sub Z (d+4) es n) (h3:bY x es=some (.ref<|a+4)) (h4:(a+4,aa vs m)∈Z) (h5:k a vs m):eP c sub Z k
def hI:aA:=λc sub Z b=>eP c sub Z λa d m=>b 0 (H7<|.ref<|a+4) (sub.map (·.2)) [] [] [(a+4,aa d m)]
theorem jv:hI.Ok w b:=by
 rintro c sub Z q ⟨d,x,t,s,n,a,p,m,rfl,hk,f,g,h,H⟩;refine(qY (c:=Rv (.ref<|a+4) (sub.map (·.2))) hk f g ⟨rfl,rfl,rfl,rfl,rfl⟩).gI ?_;rintro r v u F y z e;refine gb e λi j k l o=>?_;clear e;subst i j k l o
 exact aX [(a+4,aa p m)] (aq h ax)<|aB 0 H
inductive q9(c:Td)(sub Z:Led)(k:Nat->List va->Prop):Prop
 |mk (p q xs ys n m) (h0:c= .builtin "list.__add__" ⟨[.ref p,.ref q],[]⟩) (h1:sub=[]) (h2:(p,aa xs n)∈Z) (h3:(q,aa ys m)∈Z) (h4:xs.length+ys.length<=1000) (h5:∀a,k a<|xs++ys):q9 c sub Z k
def uQ:aA:=λc sub Z b=>q9 c sub Z λa d=>b 0 (H7<|.ref<|a+4) [] [] [(a+4,aa d 0)] []
theorem Ax:uQ.Ok w b:=by
 rintro c sub Z x ⟨p,q,e,f,n,m,rfl,rfl,l,o,t,H⟩;refine SP.meets F.entry_list_add (by decide+kernel) (AutoSeq1.list___add___list_list_0 p ⟨e⟩ n q ⟨f⟩ m<|b6 (n:=e.length+f.length) t) λA s h N T g d u R hk i D r=>⟨D.keep _ _<|i _ l,D.keep _ _<|i _ o,?_⟩;refine aw D.d3 λa v=>?_;subst v
 show R (H7<|.ref h.objs.size) ⟨h.push _,g,d,T+1,u⟩;rw[show h.objs.size=a+4 from D.size];have j:Rep s (h.push<|aa (e++f) 0) ([]++[(a+4,aa (e++f) 0)]) (a+5):=D.alloc rfl;have k:({cls:=SW "list",data:=ZP.seq ((⟨e⟩:Array va)++⟨f⟩)}:S9)=aa (e++f) 0:=by unfold aa;simp
 rw[k];exact r _ [] [] [(a+4,aa (e++f) 0)] [] _ _ T g (aB 0<|H a) rfl (λy q=>nomatch q) j
inductive vz(b0:Nat)(c:Td)(sub Z:Led)(v:va)(k:S9->S9->S9->Led->Prop):Prop
 |mk (h0:SP w b0 c sub Z λr objs new F ro=>r= .ok (.ret v)/\new=[]/\ro=[]/\∃tb a b,bC tb/\objs=[tb,a,b]) (h1:∀tb a b F,bC tb->k tb a b F):vz b0 c sub Z v k
def yu(b:Nat)(v:va):aA:=λc sub Z a=>vz b c sub Z v λf d e F=>a 0 (H7 v) [f,d,e] [] F []
theorem Jo(f:b<=d):(yu d v).Ok w b:=by
 rintro c sub Z r ⟨h,H⟩;refine h.mono f (λa q=>q) ?_;rintro a a a F a a e a;refine ei e λk l m o=>c0 o λp i j g n=>?_;clear e;subst k l m n
 exact aB 0<|H p i j F g
inductive xK(b0:Nat)(c:Td)(sub Z:Led)(v:va)(k:S9->S9->S9->S9->S9->Led->Prop):Prop
 |mk (h0:SP w b0 c sub Z λr objs new F ro=>r= .ok (.ret v)/\new=[]/\ro=[]/\∃tb a b d e,bC tb/\objs=[tb,a,b,d,e]) (h1:∀tb a b d e F,bC tb->k tb a b d e F):xK b0 c sub Z v k
def Ai(b:Nat)(v:va):aA:=λc sub Z a=>xK b c sub Z v λh d e f g F=>a 0 (H7 v) [h,d,e,f,g] [] F []
theorem RR(f:b<=d):(Ai d v).Ok w b:=by
 rintro c sub Z t ⟨h,H⟩;refine h.mono f (λa q=>q) ?_;rintro a a a F a a e a;refine ei e λm n o r=>iS r λs i j k l g p=>?_;clear e;subst m n o p
 exact aB 0<|H s i j k l F g
abbrev eM(k:Nat):Wq:=bJ (b4 150) k
abbrev wK:Expr:=bh 0<|bM<|eM 1
abbrev vd:Expr:=bh 1<|bM<|eM 1
abbrev uh:Expr:=bh 0<|bM<|eM 4
abbrev dN:Expr:=bh 1<|bM<|eM 4
abbrev ff(a b:Nat):Td:=.func (b4 150)<|dC 150 (a+4) [("named",b+4)]
abbrev gW(a b:Nat):Zb:=dC 150 (a+4) [("named",b+4)]
noncomputable abbrev Bn(S r:Nat):Td:=.builtin "list.__init__" ⟨[.ref<|S+4,.ref<|r+4],[]⟩
theorem JL(x:(r+4,av "dict_items" [.ref<|d+4])∈Z)(z:(d+4,ab a e)∈Z)(C:a7 Z a (bu kv))(nd:(kv.map (·.1)).Nodup)(h9:kv.length<=900):
  SP w b (Bn S r) [(S+4,aa [] 0)] Z λq N M F P=>(q= .ok (.ret .none)/\M=[]/\P=[])/\∃t k,N=[aa t k]/\ak (F++Z) t (kv.map jf):=by
 have B:=C.split;have E:(keysOf a).Nodup:=by rw[QO C];exact nd
 refine SP.kN PySem.F.entry_list_init (by decide+kernel) λA H h TB T g u y R hh Y hu Tr l D hB=>aw D.d3 λn Tz=>?_;subst Tz
 have G:=D.own (S+4,aa [] 0)<|.head _;have hv:Vm.IsItemsView h (r+4) (d+4):=aY _ (D.keep _ _<|l _ x) rfl rfl;have hm:Vm.DictAt (strKind Pw w) h (d+4) (dZ a) e:=dictAt (D.keep _ _<|l _ z) B.2.1 E;have Ts:(dZ a).length=a.length:=XC _;have ne:S+4≠r+4:=λq=>by
  have i:=D.off (S+4,_)<|.head _;have j:=l _ x;rw[show((S+4,aa [] 0):Nat×S9).1=r+4 from q] at i;rw[i] at j;cases j
 have e0:([(S+4,aa [] 0)]:Led)[0]?=some (S+4,aa [] 0):=rfl;have u0:Vr (λc=> #[]) (aa [] 0)=aa [] 0:=rfl;have m:=D.update (f:=Vr λc=> #[]) e0 rfl;rw[u0] at m;generalize I:h.update (S+4) (Vr λc=> #[])=i at m;have sb:Vq (S+4) h i:=I▸VU ..;have J:Vm.IsItemsView i (r+4) (d+4):=aY _ (m.keep _ _<|l _ x) rfl rfl;have Tt:Vm.DictAt (strKind Pw w) i (d+4) (dZ a) e:=dictAt (m.keep _ _<|l _ z) B.2.1 E;have Tv:({cls:=.type "dict_itemiterator",data:=.fields #[.none,.bool false,.ref<|d+4,.int 0 0,.int (dZ a).length 0,.int e 0,.none,.none]}:S9)=bw d 0 a.length e .none .none:=by rw[Ts];rfl
 have s:=m.alloc (o:=bw d 0 a.length e .none .none) rfl;have go:∀(v:Vm) (k:Nat),Rep H v ([(S+4,aa [] k)]++[(n+4,bw d 0 a.length e .none .none)]) (n+5)->Yb (Vy Pw w) A (iL S n .none) R ⟨v,g,u,T+1,y⟩:=λv k Q=>by
  refine R0 (b:=b) (h:=kv) (a:=a) E (by rw[B.1];exact h9) kv 0 [] k _ Z [] rfl (Vc _) z C (.inl ⟨rfl,.none,.none,rfl⟩) .nil rfl A H v _ T g u y hh Y hu Tr l Q R ?_;rintro q N M F P j V T2 g2 O hl TG p;refine a0 O λTx qs=>c0 qs λt L io TA hz=>?_;clear O;obtain⟨rfl,rfl,rfl⟩:=Tx;subst TA
  refine hB _ [aa t L] [] F [] j V T2 g2 ⟨⟨rfl,rfl,rfl⟩,t,L,rfl,hz⟩ rfl (λc q=>nomatch q)<|p.fp ?_;rw[aP,aP];exact X9.append (X9.cons_cons _<|YZ _)<|ZV F
 show To _ A.in1 (Wj (.ref<|S+4)>>=λTw=>Wt (.ref<|S+4) (λc=> #[])>>=λc=>letGo Tw.toList.reverse>>=λc=>Wc (.ref<|S+4) (.ref<|r+4) .none) _ _ _;refine SU ?_;unfold Wj;refine bI G rfl (Te ?_);show To _ _ (Y4 (S+4) (λc=> #[])>>=λc=>letGo (#[]:Array va).toList.reverse>>=λc=>Wc (.ref<|S+4) (.ref<|r+4) .none) _ _ _;refine SU<|WE G rfl ?_;rw[I];refine bL ?_;unfold Wc;refine SU<|Zu (T:="dict_items") J.typeIs ?_;have b1:Z7 (.ref<|S+4) (.ref<|r+4)=false:=decide_eq_false ne;have b2:(SW "dict_items"==SW "list")=false:=by decide
 have b3:(SW "dict_items"==SW "tuple")=false:=by decide
 simp only[b1,b2,b3,Bool.or_false,W9,if_false];refine SU<|wpAny_pyIter_items J Tt ?_;show To _ _ (X8 [.ref i.objs.size] (XS<|.ref<|r+4)>>=_) _ _ ⟨i.push _,g,u,T+1,y⟩;rw[Tv,show i.objs.size=n+4 from m.size];generalize TC:i.push (bw d 0 a.length e .none .none)=j at s;have Tu:Xj ⟨j,g,u,T+1,y⟩ (.ref<|r+4) "dict_items":=aX _ (s.keep _ _<|l _ x) rfl;refine bH<|kdx_hint Tu<|wpAny_ite_split (λc=>?_) λc=>Te ⟨Yt PySem.F.plain_extend_loop _,go j 0 s⟩;refine bR<|SU ?_;show To _ _ (Y4 (S+4) (·.push .none)>>=λc=>Y4 (S+4) (·.pop)) _ _ _;have f0:∀k,([(S+4,aa [] k)]++[(n+4,bw d 0 a.length e .none .none)]:Led)[0]?=some (S+4,aa [] k):=λc=>rfl
 have p:=s.update (f:=Vr (·.push SY)) (f0 0) (by rw[mapSeq_push];rfl);rw[mapSeq_push] at p;refine SU<|WE (s.own (S+4,aa [] 0)<|.head _) rfl ?_;generalize TF:j.update (S+4) (Vr (·.push SY))=h3 at p;have f1:(setAt ([(S+4,aa [] 0)]++[(n+4,bw d 0 a.length e .none .none)]) 0<|aa ([]++[SY]) 1)[0]?=some (S+4,aa ([]++[SY]) 1):=rfl;have U:=p.update (f:=Vr (·.pop)) f1 rfl;exact WE (hz:=by seq_fits) (p.own (S+4,aa ([]++[SY]) 1)<|.head _) rfl<|Te ⟨Yt PySem.F.plain_extend_loop _,go _ 2 U⟩
inductive nv(c:Td)(sub Z:Led)(k:List va->Nat->Led->Prop):Prop
 |mk (S r d e es) (kv:KV) (h0:c=Bn S r) (h1:sub=[(S+4,aa [] 0)]) (h2:(r+4,av "dict_items" [.ref<|d+4])∈Z) (h3:(d+4,ab es e)∈Z) (h4:a7 Z es (bu kv)) (h5:(kv.map (·.1)).Nodup) (h6:kv.length<=900) (h7:∀vs n F,ak (F++Z) vs (kv.map jf)->k vs n F):nv c sub Z k
def oX:aA:=λc sub Z a=>nv c sub Z λb n F=>a 0 (H7 .none) [aa b n] [] F []
theorem qz:oX.Ok w b:=by
 rintro c sub Z t ⟨S,r,d,e,u,kv,rfl,rfl,g,h,i,j,l,H⟩;refine(JL g h i j l).mono ar (λf q=>q) ?_;rintro q x v F y f a f;refine a0 a λn p=>cw p λs k o m=>?_;clear a;obtain⟨rfl,rfl,rfl⟩:=n;subst o
 exact aB 0<|H s k F m
def M3(t d:Nat)(c:S9):Q7:=λh i N T Z b R=>ae [4] [N]<|vz 640 (Td.func (b4 150)<|dC 150 (N+4) [("named",N+5)]) [(23,c),(N+4,ao [ent "told" T<|.ref<|t+4,ent "due" (T+1)<|.ref<|d+4] 2),(N+5,aJ)] Z (.bool true) (λe j k a=>∀f g:Nat,R (H7<|.bool true) [e] [] (a++[]) [])
theorem Gs:CK w [(23,a)] [] [yu 640<|.bool true] (Vh (.ref 150) ⟨[.ref<|t+4,.ref<|d+4],[]⟩) (M3 t d a):=aV 451 16 0xc50bac0b79f44b3135a350845d376
def ES(c t d a o p:Nat)(q:S9):Q7:=λz A N T Z b R=>ae [1,5,4] [c,t,a]<|eP (bi "dict.__getitem__" [.ref<|a+4,.str "a"<|T+2]) [] Z (λe D B=>∀s h:Nat,ae [4] [e]<|jr (bi "list.__getitem__" [.ref<|e+4,.int (-1)<|h+2]) [] Z (λl=>∀u i:Nat,ae [1,5,4] [c,t,a]<|eP (bi "dict.__getitem__" [.ref<|a+4,.str "b c"<|i+2]) [] Z (λf E C=>∀v j:Nat,ae [4] [f]<|jr (bi "list.__getitem__" [.ref<|f+4,.int (-1)<|j+2]) [] Z (λm=>∀w y:Nat,rK (cp 21 [.ref<|l+4,.ref<|m+4]) [(23,q)] Z (λn g r=>∀x k:Nat,ae [2] [c]<|R (.ok .next) [r,ao [ent "told" o<|.ref<|t+4,ent "due" p<|.ref<|d+4,ent "both" k<|.ref<|n+4] 3,aJ] [] (g++[]) [])))))
theorem IW:a9 w [(23,j),(a+4,ao ([ent "told" f<|.ref<|t+4,ent "due" g<|.ref<|d+4]) 2),(c+4,aJ)] [(t+4,ag [x,.ref<|p+4,.ref<|b+4,.ref<|i+4]),(d+4,ag [v,.ref<|o+4,.ref<|h+4,.ref<|e+4]),(b+4,ab k l),(i+4,ab s u),(h+4,ab q r),(e+4,ab m n)] [hI,pN,kY] (ff a c) (gw [eM 0]<|gW a c) (ES a t d b f g j):=ba 64 66 0x44001082fc00010970175d7000000002200208202002002082100001094014514000000002200208202002002082109
def Jw(f t d k l:Nat)(o:S9)(a m c q0 q1 q2 q3:Nat)(i0 h i j:Int):Q7:=λr s N T Z b R=>ae [1,5,4,1,5,6] [f,a,N,f,a,c] (∀(_:XT) (_:List (Td×XT)),ae [3] [N+3]<|nv (bi "list.__init__" [.ref<|N+7,.ref<|N+6]) [(N+7,aa [] 0)] ([(N+6,av "dict_items" [.ref<|c+4])]++Z) (λp n g=>∀e q:Nat,R (H7<|.ref<|e+4) [o,ao [ent "told" k<|.ref<|t+4,ent "due" l<|.ref<|d+4,ent "both" m<|.ref<|a+4] 3,aJ] [] ([(e+4,ag [.ref<|N+5,.ref<|N+7]),(N+5,ag [.int i0<|q0+1,.int h<|q1+1,.int i<|q2+1,.int j<|q3+1]),(N+7,aa p n)]++(g++[(N+6,av "dict_items" [.ref<|c+4])])) []))
theorem Oa:a9 w [(23,m),(a+4,ao ([ent "told" j<|.ref<|t+4,ent "due" k<|.ref<|d+4,ent "both" l<|.ref<|b+4]) 3),(e+4,aJ)] [(b+4,ag [.int f<|q0+1,.int g<|q1+1,.int h<|q2+1,.int i<|q3+1,.ref<|c+4]),(c+4,ab n o)] [oX] (ff a e) (bN wK<|gW a e) (Jw a t d j k m b l c q0 q1 q2 q3 f g h i):=ba 20 50 0x3918aeb2fd2d0ab0fd372cd7d4fd2402519cab29301b2e8aa69cc
def E2(g t d a m n:Nat)(p:S9)(l o:Nat):Q7:=λy z N T Z b R=>ae [1,5,4] [g,d,a]<|eP (bi "dict.__getitem__" [.ref<|a+4,.str "a"<|T+2]) [] Z (λc C A=>∀q j:Nat,ae [1,5,4] [g,d,a]<|eP (bi "dict.__getitem__" [.ref<|a+4,.str "b c"<|j+2]) [] Z (λf D B=>∀r v:Nat,ae [1,1,2] [c,f,c]<|q9 (bi "list.__add__" [.ref<|c+4,.ref<|f+4]) [] Z (λe h=>∀s w:Nat,qF 680 (cp 145 [.ref<|e+4]) [] ([(e+4,aa h 0)]++Z) (λk i=>∀u x:Nat,R (H7<|.ref<|k+4) [p,ao [ent "told" m<|.ref<|t+4,ent "due" n<|.ref<|d+4,ent "both" o<|.ref<|l+4] 3,aJ] [] (i++[(e+4,aa h 0)]) []))))
theorem HO:a9 w [(23,l),(a+4,ao ([ent "told" h<|.ref<|t+4,ent "due" i<|.ref<|d+4,ent "both" j<|.ref<|f+4]) 3),(c+4,aJ)] [(t+4,ag [z,.ref<|r+4,.ref<|e+4,.ref<|k+4]),(d+4,ag [y,.ref<|q+4,.ref<|b+4,.ref<|g+4]),(e+4,ab m n),(k+4,ab v x),(b+4,ab s u),(g+4,ab o p)] [hI,uQ,wi 680] (ff a c) (bN vd<|gW a c) (E2 a t d b h i l f j):=ba 436 49 0xbe726e46652ab7bb5522edd34de346984fc5c8aa39d589d3934b585e152b79207eb03cea790233b5173ccff25ebac600ee9
def EU(e A t d g f x y:Nat)(B:S9)(v z:Nat):Q7:=λO P N T Z b R=>ae [1,5,4] [e,d,f]<|eP (bi "dict.__getitem__" [.ref<|f+4,.str "g"<|T+2]) [] Z (λh Tr S=>∀F o:Nat,ae [1,5,4] [e,d,f]<|eP (bi "dict.__getitem__" [.ref<|f+4,.str "f"<|o+2]) [] Z (λj Ts U=>∀G M:Nat,ae [1,1,2] [h,j,h]<|q9 (bi "list.__add__" [.ref<|h+4,.ref<|j+4]) [] Z (λa c=>∀H p:Nat,ae [2,1,5,4] [A,e,t,g]<|eP (bi "dict.__getitem__" [.ref<|g+4,.str "g"<|p+2]) [] ([(a+4,aa c 0)]++Z) (λk Tt V=>∀I q:Nat,ae [4] [k]<|jr (bi "list.__getitem__" [.ref<|k+4,.int (-1)<|q+2]) [] ([(a+4,aa c 0)]++Z) (λu=>∀J r:Nat,ae [1,5,4] [e,t,g]<|eP (bi "dict.__getitem__" [.ref<|g+4,.str "f"<|r+2]) [] ([(a+4,aa c 0)]++Z) (λi Y Q=>∀C m:Nat,ae [4] [i]<|jr (bi "list.__getitem__" [.ref<|i+4,.int (-1)<|m+2]) [] ([(a+4,aa c 0)]++Z) (λs=>∀D L:Nat,qM (cp 28 [.ref<|u+4,.ref<|s+4]) [] ([(a+4,aa c 0)]++Z) (λw l=>∀E n:Nat,ae [2] [e]<|R (.ok .next) [B,ao [ent "told" x<|.ref<|t+4,ent "due" y<|.ref<|d+4,ent "both" z<|.ref<|v+4,ent "counts" n<|.ref<|w+4] 4,af<|.ref<|a+4] [] (l++[(a+4,aa c 0)]) []))))))))
theorem FA:a9 w [(23,l),(a+4,ao ([ent "told" h<|.ref<|t+4,ent "due" i<|.ref<|d+4,ent "both" j<|.ref<|g+4]) 3),(b+4,aJ)] [(t+4,ag [z,.ref<|r+4,.ref<|f+4,.ref<|e+4]),(d+4,ag [y,.ref<|q+4,.ref<|k+4,.ref<|c+4]),(f+4,ab m n),(e+4,ab v x),(k+4,ab s u),(c+4,ab o p)] [hI,uQ,pN,wH] (ff a b) (gw [eM 2,eM 3]<|gW a b) (EU a b t d e c h i l g j):=ba 85 109 0xb049aaee17cb4f421460e35e4dfe5753ffa6bf171d07ec7479e7dd1a2bdfa042aac554f897a11cce3b54e41b71811a4c1146995bd7a5b36f0db42058c532ffe9cc2a07dd87d9a35100d23660a7d24fe461a19606f0
def M9(f t d g h:Nat)(m:S9)(e i j a l:Nat):Q7:=λq r N T Z b R=>ae [1,6] [f,a] (∀(_:XT) (_:List (Td×XT)),ae [3] [N+1]<|nv (bi "list.__init__" [.ref<|N+5,.ref<|N+4]) [(N+5,aa [] 0)] ([(N+4,av "dict_items" [.ref<|a+4])]++Z) (λn k c=>∀o p:Nat,R (H7<|.ref<|N+5) [m,ao [ent "told" g<|.ref<|t+4,ent "due" h<|.ref<|d+4,ent "both" i<|.ref<|e+4,ent "counts" j<|.ref<|a+4] 4,af<|.ref<|l+4] [] ([(N+5,aa n k)]++(c++[(N+4,av "dict_items" [.ref<|a+4])])) []))
theorem MW(a c t d f g:Nat)(k:S9)(e h i b j m:Nat)(l:List SS):a9 w [(23,k),(a+4,ao ([ent "told" f<|.ref<|t+4,ent "due" g<|.ref<|d+4,ent "both" h<|.ref<|e+4,ent "counts" i<|.ref<|b+4]) 4),(c+4,af<|.ref<|j+4)] [(b+4,ab l m)] [oX] (ff a c) (bN uh<|gW a c) (M9 a t d f g k e h i b j):=ba 14 29 0x157a8de66089b8676436cb300e9
def Hc(q f t d j k:Nat)(n:S9)(h l m i c:Nat):Q7:=λy z N T Z b R=>ae [1] [f]<|fQ 680 (cp 140 [.ref<|c+4]) [] Z (λg F A e=>∀a T7:Nat,ae [3,2] [g,a]<|pV 720 (S0 dN 0 (.ref<|a+4) (.ref<|a+5)<|au 150 (q+4) (a+6) (aQ dN ["named"]) [("named",f+4)]) [(a+6,ab [] 0),(a+5,aa [] 0),(a+4,av "list_iterator" [.ref<|g+4,.int 0 0]),(f+4,af<|.ref<|c+4)] ((e++[])++Z) "name" (λB o=>∀u w:Nat,ae [1] [a+2]<|R (H7<|.ref<|a+5) [n,ao [ent "told" j<|.ref<|t+4,ent "due" k<|.ref<|d+4,ent "both" l<|.ref<|h+4,ent "counts" m<|.ref<|i+4] 4,af<|.ref<|c+4] [] ([(a+5,aa [] 0)]++(o++(e++[]))) []) (λD E s r C p=>∀v x:Nat,ae [3] [a+2]<|R (H7<|.ref<|a+5) [n,ao [ent "told" j<|.ref<|t+4,ent "due" k<|.ref<|d+4,ent "both" l<|.ref<|h+4,ent "counts" m<|.ref<|i+4] 4,af<|.ref<|c+4] [] ([(a+5,aa s r)]++(p++(e++[]))) []))
theorem NJ(a b t d g h:Nat)(k:S9)(e i j f c l:Nat)(m:List va):a9 w [(23,k),(a+4,ao ([ent "told" g<|.ref<|t+4,ent "due" h<|.ref<|d+4,ent "both" i<|.ref<|e+4,ent "counts" j<|.ref<|f+4]) 4),(b+4,af<|.ref<|c+4)] [(c+4,aa m l)] [fM 680,rf 720 "name"] (ff a b) (bN dN<|gW a b) (Hc a b t d g h k e i j f c):=ba 421 33 0x1303103283d4bd537b0f7f325c2af080dc6d76fc1337a436f7a2f85906d24218df37a
def ML(d f a t u:Nat)(x:SX):Q7:=λi j N T Z b R=>ae [1,1,4,1,1] [d,f,a,d,a]<|ee 960 (bi "list.count" [.ref<|a+4,.str x<|u+1]) [] Z (λe g=>∀c h:Nat,R (H7<|.ref<|c+4) [ab [ent "name" t<|.str x<|u+1] 1] [] [(c+4,ag [.str x<|u+1,.int e<|g+1])] [])
theorem OY:a9 w [(a+4,ab [ent "name" t<|.str x<|u+1] 1)] [(b+4,af<|.ref<|c+4),(c+4,aa i h)] [gD 960] (S0 f 0 g e<|au 150 d (a+4) (aQ dN ["named"]) [("named",b+4)]) (bN (a6 dN)<|au 150 d (a+4) (aQ dN ["named"]) [("named",b+4)]) (ML a b c t u x):=ba 6 15 0x38dee8d69
theorem vq(a b:SX):PySem.W.Fast.sEq a b=decide (a=b):=by
 by_cases h:a=b
 ·rw[decide_eq_true h];exact PySem.W.Fast.sEq_iff.mpr h
 ·rw[decide_eq_false h]
  cases e:PySem.W.Fast.sEq a b with
  |false=>rfl
  |true=>exact absurd (PySem.W.Fast.sEq_iff.mp e) h
theorem mP(x:SX)(p:SX×Tg)(l:KV):cM x (p::l)=if p.1=x then some p.2 else cM x l:=by
 show(match PySem.W.Fast.sEq p.1 x with|true=>some p.2|false=>cM x l)=_;rw[vq];by_cases h:p.1=x<;>simp[h]
theorem r7:∀{l:KV},x∉l.map (·.1)->cM x l=none:=by
 intro l;induction l with
 |nil=>intro b;exact rfl
 |cons p l a=>
  intro h;rw[cc,V2,not_or] at h;rw[mP,if_neg λe=>h.1 e.symm,a h.2]
theorem C9:∀{l:KV},x∉l.map (·.1)->fo x d l=none:=by
 intro l;induction l with
 |nil=>intro c;exact rfl
 |cons p l a=>
  intro h;rw[cc,V2,not_or] at h;have e:PySem.W.Fast.sEq p.1 x=false:=by rw[vq];exact decide_eq_false λe=>h.1 e.symm
  show(match PySem.W.Fast.sEq p.1 x with|true=>some ((p.1,d)::l)|false=>match fo x d l with|some b=>some (p::b)|none=>none)=none;rw[e,a h.2]
theorem F8:∀{l:KV},x∈l.map (·.1)->(l.map (·.1)).Nodup->fo x d l=some (l.map λp=>if p.1=x then(p.1,d) else p):=by
 intro l;induction l with
 |nil=>intro h n;exact nomatch h
 |cons p l g=>
  intro h m;refine a0 (Vs.mp m) λj k=>?_
  show(match PySem.W.Fast.sEq p.1 x with|true=>some ((p.1,d)::l)|false=>match fo x d l with|some i=>some (p::i)|none=>none)=_;rw[vq];by_cases e:p.1=x
  ·rw[decide_eq_true e]
   show some ((p.1,d)::l)=some ((if p.1=x then(p.1,d) else p)::l.map λp=>if p.1=x then(p.1,d) else p);rw[if_pos e];have:(l.map λp=>if p.1=x then(p.1,d) else p)=l:=by
    conv=>rhs;rw[<-List.map_id l]
    refine VD λq b=>?_
    have:q.1≠x:=λa=>j<|by show p.1∈l.map λp=>p.1;rw[e,<-a];exact U9 (f:=λp:SX×Tg=>p.1) b
    rw[if_neg this];rfl
   rw[this]
  ·rw[decide_eq_false e]
   have c:x∈l.map (·.1):=by rcases bK h with h|h;exact absurd h.symm e;exact h
   rw[g c k];show some (p::_)=some ((if p.1=x then(p.1,d) else p)::_);rw[if_neg e]
theorem OX(g:(t.map (·.1)).Nodup):th t=t:=by
 have:∀(l a:KV),((a++l).map (·.1)).Nodup->l.foldl (λa p=>dput p.1 p.2 a) a=a++l:=λl=>by
  induction l with
  |nil=>intro a _;rw[aP];rfl
  |cons p l d=>
   intro a h;have c:p.1∉a.map (·.1):=λb=>by
    rw[mapA,Vp] at h;exact h.2.2 _ b _ (U9 (f:=λp:SX×Tg=>p.1)<|.head l) rfl
   have e:dput p.1 p.2 a=a++[p]:=by unfold dput;rw[C9 c]
   rw[Zk,e,d (a++[p])<|by rw[aZ];exact h,aZ];rfl
 exact this t [] g
def nB(A s:KV):KV:=(A.map λp=>match cM p.1 s with|some v=>(p.1,dh v p.2)|none=>p)++s.filter λp=>decide (p.1∉A.map (·.1))
theorem HS(c:(A.map (·.1)).Nodup):cP A p=if p.1∈A.map (·.1) then A.map λq=>if q.1=p.1 then(q.1,dh p.2 q.2) else q else A++[p]:=by
 by_cases h:p.1∈A.map (·.1)
 ·rw[if_pos h]
  obtain⟨o,d⟩:∃o,cM p.1 A=some o/\∀q∈A,q.1=p.1->q.2=o:=by
   revert h c;induction A with
   |nil=>intro _ h;cases h
   |cons q A m=>
    intro c h;refine a0 (Vs.mp c) λn r=>?_
    rw[mP];by_cases e:q.1=p.1
    ·rw[if_pos e]
     refine aX _ rfl (λg a b=>?_);rcases bK a with rfl|a
     ·rfl
     ·exact absurd (by show q.1∈A.map λp=>p.1;rw[e,<-b];exact U9 (f:=λp:SX×Tg=>p.1) a) n
    ·rw[if_neg e]
     have i:p.1∈A.map (·.1):=by rcases bK h with h|h;exact absurd h.symm e;exact h
     refine aI (m r i) λo j k=>aX o j λg a b=>?_;rcases bK a with rfl|a
     ·exact absurd b e
     ·exact k g a b
  unfold cP;rw[d.1];show dput p.1 (dh p.2 o) A=_;unfold dput;rw[F8 h c];refine VD λq l=>?_
  by_cases e:q.1=p.1
  ·rw[if_pos e,if_pos e,d.2 q l e]
  ·rw[if_neg e,if_neg e]
 ·rw[if_neg h]
  unfold cP;rw[r7 h];show dput p.1 p.2 A=_;unfold dput;rw[C9 h]
theorem Iq:∀(s A:KV),(A.map (·.1)).Nodup->(s.map (·.1)).Nodup->s.foldl cP A=nB A s:=by
 intro s;induction s with
 |nil=>
  intro A g g;unfold nB;show A=(A.map λp=>p)++[];rw[aP,Zw]
 |cons p s k=>
  intro A nA w;refine a0 (Vs.mp w) λd l=>?_
  rw[Zk,HS nA];by_cases h:p.1∈A.map (·.1)
  ·rw[if_pos h]
   have i:(A.map λq=>if q.1=p.1 then(q.1,dh p.2 q.2) else q).map (·.1)=A.map (·.1):=by
    rw[Vb];refine VD λq g=>?_
    show(if q.1=p.1 then(q.1,dh p.2 q.2) else q).1=q.1;by_cases e:q.1=p.1<;>simp[e]
   rw[k _ (by rw[i];exact nA) l];unfold nB;rw[i,Vb,VF,if_neg<|by simpa using h];refine congrArg (· ++_)<|VD λq g=>?_;show(match cM (if q.1=p.1 then(q.1,dh p.2 q.2) else q).1 s with|some v=>((if q.1=p.1 then(q.1,dh p.2 q.2) else q).1,dh v (if q.1=p.1 then(q.1,dh p.2 q.2) else q).2)|none=>if q.1=p.1 then(q.1,dh p.2 q.2) else q)=_;rw[mP];by_cases e:q.1=p.1
   ·simp only[if_pos e,if_pos e.symm]
    rw[e,r7 d]
   ·simp only[if_neg e,if_neg (λm=>e m.symm:¬p.1=q.1)]
  ·rw[if_neg h]
   have u:((A++[p]).map (·.1)).Nodup:=by
    rw[mapA,Vp];exact⟨nA,Vs.mpr ⟨Vn,WQ⟩,λa j b t e=>by rcases dg t with rfl;have e:a=p.1:=e;rw[e] at j;exact h j⟩
   rw[k _ u l];unfold nB;rw[mapA,VF,if_pos<|by simpa using h,aZ];have n:(A.map λq=>match cM q.1 s with|some v=>(q.1,dh v q.2)|none=>q)=A.map λq=>match cM q.1 (p::s) with|some v=>(q.1,dh v q.2)|none=>q:=by
    refine VD λq c=>?_
    rw[mP,if_neg λe:p.1=q.1=>h<|by rw[e];exact U9 (f:=λp:SX×Tg=>p.1) c]
   have o:([p].map λq=>match cM q.1 s with|some v=>(q.1,dh v q.2)|none=>q)=[p]:=by
    show[match cM p.1 s with|some v=>(p.1,dh v p.2)|none=>p]=[p];rw[r7 d]
   have r:(s.filter λq=>decide (q.1∉(A++[p]).map (·.1)))=s.filter λq=>decide (q.1∉A.map (·.1)):=by
    refine ZY λq c=>?_
    have:q.1≠p.1:=λe=>d<|by show p.1∈s.map λp=>p.1;rw[<-e];exact U9 (f:=λp:SX×Tg=>p.1) c
    simp[this]
   rw[n,o,r];rfl
theorem N0(a:(t.map (·.1)).Nodup)(b:(s.map (·.1)).Nodup):dA t s=nB t s:=by
 unfold dA;rw[OX a,Iq s t a b]
theorem qe(l:List SX)(x:SX):bQ (l++[x])=if x∈l then bQ l else bQ l++[x]:=by
 unfold bQ;rw[Vd,List.length_singleton,XD,XB,mapA];have c:((Tp l.length).filter λk=>!decide ((l++[x]).getD k default∈(l++[x]).take k))=(Tp l.length).filter λk=>!decide (l.getD k default∈l.take k):=by
  refine ZY λk hk=>?_
  have hk:=Wg.mp hk;rw[Ta,Xc hk,<-Ta,WR<|Wz hk]
 have d:(((Tp l.length).filter λk=>!decide (l.getD k default∈l.take k)).map λk=>(l++[x]).getD k default)=((Tp l.length).filter λk=>!decide (l.getD k default∈l.take k)).map λk=>l.getD k default:=by
  refine VD λk hk=>?_
  have hk:=Wg.mp (List.mem_filter.mp hk).1;rw[Ta,Xc hk,<-Ta]
 have a:(l++[x]).getD l.length default=x:=by rw[Ta,List.getElem?_append_right ar,Nat.sub_self];rfl
 have b:(l++[x]).take l.length=l:=List.take_left;rw[c,d];by_cases h:x∈l
 ·rw[if_pos h]
  have:([l.length].filter λk=>!decide ((l++[x]).getD k default∈(l++[x]).take k))=[]:=by
   rw[VF,if_neg<|by rw[a,b];simp[h]];rfl
  rw[this];exact Yv _
 ·rw[if_neg h]
  have:([l.length].filter λk=>!decide ((l++[x]).getD k default∈(l++[x]).take k))=[l.length]:=by
   rw[VF,if_pos<|by rw[a,b];simp[h]];rfl
  rw[this,cc,W3,a]
theorem snoc_ind{a:Type}{P:List a->Prop}(h0:P [])(h1:∀l x,P l->P (l++[x]))(l:List a):P l:=by
 have:∀r:List a,P r.reverse:=λr=>by
  induction r with
  |nil=>exact h0
  |cons x r b=>rw[List.reverse_cons];exact h1 _ _ b
 have:=this l.reverse;rwa[List.reverse_reverse] at this
theorem jI(l:List SX)(x:SX):x∈bQ l↔x∈l:=by
 induction l using snoc_ind with
 |h0=>exact Iff.rfl
 |h1 l y a=>
  rw[qe];by_cases h:y∈l
  ·rw[if_pos h,a,VK,Yz]
   exact⟨.inl,λb=>b.elim id λe=>e▸h⟩
  ·rw[if_neg h,VK,VK,a]
theorem ob(l:List SX):(bQ l).Nodup:=by
 induction l using snoc_ind with
 |h0=>exact WQ
 |h1 l y c=>
  rw[qe];by_cases h:y∈l
  ·rw[if_pos h];exact c
  ·rw[if_neg h,Vp]
   exact⟨c,Vs.mpr ⟨Vn,WQ⟩,λa d b f e=>by rcases dg f with rfl;exact h<|(jI l _).mp<|e▸d⟩
theorem NG(b c:List SX):bQ (b++c)=bQ b++(bQ c).filter λx=>decide (x∉b):=by
 induction c using snoc_ind with
 |h0=>
  have:bQ []=[]:=rfl;rw[aP,this];exact(Yv _).symm
 |h1 l y d=>
  rw[<-aZ,qe,qe,d];by_cases h1:y∈b
  ·rw[if_pos<|bq h1]
   by_cases a:y∈l
   ·rw[if_pos a]
   ·rw[if_neg a,XB]
    have:([y].filter λx=>decide (x∉b))=[]:=by rw[VF,if_neg<|by simp[h1]];rfl
    rw[this,aP]
  ·by_cases a:y∈l
   ·rw[if_pos<|az a,if_pos a]
   ·rw[if_neg λh=>(bB h).elim h1 a,if_neg a,XB,aZ]
    have:([y].filter λx=>decide (x∉b))=[y]:=by rw[VF,if_pos<|by simp[h1]];rfl
    rw[this]
section
variable{β:Type}(f:β->SX)(a:List β->Tg)
def gR(l:List β):KV:=(bQ<|l.map f).map λs=>(s,a<|l.filter λb=>decide (f b=s))
theorem lP(l:List β):(gR f a l).map (·.1)=bQ (l.map f):=by
 unfold gR;rw[Vb];exact Zw _
theorem GU(l:List β)(s:SX):cM s (gR f a l)=if s∈l.map f then some (a<|l.filter λb=>decide (f b=s)) else none:=by
 by_cases h:s∈l.map f
 ·rw[if_pos h]
  have c:s∈bQ (l.map f):=(jI _ _).mpr h;unfold gR;revert c;generalize bQ (l.map f)=d;induction d with
  |nil=>intro h;cases h
  |cons k d i=>
   intro c;rw[cc,mP];by_cases e:k=s
   ·rw[if_pos e,e]
   ·rw[if_neg e]
    exact i ((bK c).resolve_left λg=>e g.symm)
 ·rw[if_neg h]
  exact r7 (by rw[lP,jI];exact h)
theorem zo(q:∀c d:List β,c≠[]->d≠[]->dh (a d) (a c)=a (c++d))(c d:List β):dA (gR f a c) (gR f a d)=gR f a (c++d):=by
 rw[N0 (by rw[lP];exact ob _)<|by rw[lP];exact ob _];unfold nB;rw[lP];have ne:∀{l:List β} {s:SX},s∈l.map f->(l.filter λb=>decide (f b=s))≠[]:=λ{l s} h e=>by
  refine aI (bO h) λb j m=>?_
  have:b∈l.filter λb=>decide (f b=s):=List.mem_filter.mpr ⟨j,decide_eq_true m⟩
  rw[e] at this;cases this
 have nil:∀{l:List β} {s:SX},s∉l.map f->(l.filter λb=>decide (f b=s))=[]:=λ{l s} h=>by
  refine List.filter_eq_nil_iff.mpr λb j=>?_
  intro e;exact h<|of_decide_eq_true e▸U9 (f:=f) j
 have n:gR f a (c++d)=((bQ<|c.map f).map λs=>(s,a<|(c++d).filter λb=>decide (f b=s)))++((bQ<|d.map f).filter λx=>decide (x∉c.map f)).map λs=>(s,a<|(c++d).filter λb=>decide (f b=s)):=by
  unfold gR;rw[mapA,NG,mapA]
 rw[n];congr 1
 ·unfold gR
  rw[Vb];refine VD λs k=>?_
  have i:s∈c.map f:=(jI _ _).mp k;show(match cM s (gR f a d) with|some v=>(s,dh v<|a<|c.filter λb=>decide (f b=s))|none=>(s,a<|c.filter λb=>decide (f b=s)))=_;rw[GU,XB];by_cases g:s∈d.map f
  ·rw[if_pos g]
   show(s,dh _ _)=_;rw[q _ _ (ne i)<|ne g]
  ·rw[if_neg g,nil g,aP]
 ·unfold gR
  rw[List.filter_map];have o:((bQ<|d.map f).filter<|(λp:SX×Tg=>decide (p.1∉bQ (c.map f)))∘λs=>(s,a<|d.filter λb=>decide (f b=s)))=(bQ<|d.map f).filter λx=>decide (x∉c.map f):=by
   refine ZY λs r=>?_
   show decide (s∉bQ (c.map f))=_;exact decide_eq_decide.mpr<|not_congr<|jI _ _
  rw[o];refine VD λs k=>?_
  have i:s∉c.map f:=of_decide_eq_true (List.mem_filter.mp k).2;rw[XB,nil i,Zn]
end
theorem yb(a b:List (SX×R4))(k:Nat):cE (a++b) k=cE a k+cE b k:=by
 unfold cE;rw[mapA,List.sum_append]
def mM(l:List (SX×R4)):Tg:=jg ⟨cE l 1,cE l 0,cE l 2,cE l 3⟩
noncomputable def nU(l:List SX):Tg:=.int (l.length:Int)
theorem Eh(a b:List (SX×R4)):dh (mM b) (mM a)=mM (a++b):=by
 show Tg.tuple [.int<|cE b 1+cE a 1,.int<|cE b 0+cE a 0,.int<|cE b 2+cE a 2,.int<|cE b 3+cE a 3]=_;unfold mM jg;simp only[yb,Int.add_comm]
theorem EK(a b:List SX):dh (nU b) (nU a)=nU (a++b):=by
 show VX ((a.length:Int)+(b.length:Int))= .int ((a++b).length:Int);rw[Vd];rfl
abbrev fP(l:List (SX×R4)):KV:=gR (λp:SX×R4=>p.1) mM l
abbrev cY(l:List SX):KV:=gR (λx:SX=>x) nU l
def fw(l:List (SX×R4)):R4×KV:=(⟨cE l 0,cE l 1,cE l 2,cE l 3⟩,fP l)
theorem Q2(a b:List (SX×R4)):dA (fP a) (fP b)=fP (a++b):=zo _ _ (λa b c c=>Eh a b) a b
theorem Av(a b:List SX):dA (cY a) (cY b)=cY (a++b):=zo _ _ (λa b c c=>EK a b) a b
theorem Dz(x:SX):bQ [x]=[x]:=by have:=qe [] x;rw[if_neg Vn] at this;exact this
theorem KZ(e:SX)(one:R4):fP [(e,one)]=[(e,jg<|p9 one)]:=by
 have f:∀i:Int,i+0=i:=λi=>by exact XA _
 show(bQ [e]).map (λs=>(s,mM<|[(e,one)].filter λb=>decide (b.1=s)))=_;rw[Dz,cc,W3,VF,if_pos<|decide_eq_true rfl,List.filter_nil];show[(e,jg ⟨one.b+0,one.a+0,one.c+0,one.d+0⟩)]=_;simp only[f];rfl
theorem Qs(x:SX):cY [x]=[(x,.int 1)]:=by
 show(bQ [x]).map (λs=>(s,nU<|[x].filter λb=>decide (b=s)))=_;rw[Dz,cc,W3,VF,if_pos<|decide_eq_true rfl,List.filter_nil];rfl
theorem Br(a b:List (SX×R4)):(tT (fw b).1 (fw a).1,dA (fw a).2 (fw b).2)=fw (a++b):=by
 show((⟨cE b 0+cE a 0,cE b 1+cE a 1,cE b 2+cE a 2,cE b 3+cE a 3⟩:R4),dA (fP a)<|fP b)=_;unfold fw;rw[Q2];simp only[yb,Int.add_comm]
theorem GG(e:SX)(one:R4)(l:List (SX×R4)):jE one e (fw l)=fw (l++[(e,one)]):=by
 rw[<-Br];have f:∀i:Int,i+0=i:=λi=>by exact XA _
 unfold jE;rw[<-KZ];show _=(tT (⟨one.a+0,one.b+0,one.c+0,one.d+0⟩:R4) _,_);simp only[f];rfl
theorem EA(x:SX)(l:List SX):dA (cY l) [(x,.int 1)]=cY (l++[x]):=by rw[<-Qs,Av]
noncomputable def cx{a b:Type}(g:List a->b)(l:List a):List b:=(Tp<|l.length+1).map λk=>g<|l.take k
theorem Bi{a b:Type}(g:List a->b)(l:List a)(x:a):cx g (l++[x])=cx g l++[g<|l++[x]]:=by
 unfold cx;rw[Vd,List.length_singleton,XD (n:=l.length+1),mapA];congr 1
 ·refine VD λk hk=>?_
  have hk:=Wg.mp hk;rw[WR<|by exact Xg ‹_›]
 ·show[g<|(l++[x]).take<|l.length+1]=_
  rw[List.take_of_length_le<|by simp]
theorem y9{a b:Type}(g:List a->b)(l:List a)(d:b):(cx g l).getLastD d=g l:=by
 unfold cx;rw[XD,mapA,cc,W3,Yc,List.getLastD_concat]
theorem pG{a b:Type}(g:List a->b)(l:List a):(cx g l).length=l.length+1:=by unfold cx;rw[aM,VW]
structure dP(s:bU)(t:b8):Prop where
 bk:∀x,s.bk x=cx fw (t.lg x)
 tb:∀y,s.tb y=cx cY (t.cd y)
theorem dP.pick(h:dP s t)(a:SX)(one:R4)(x:SX)(ps:List SX):dP ⟨ps,bG s.bk x<|s.bk x++[jE one a<|e6<|s.bk x],bG s.tb a<|s.tb a++[dA (fG<|s.tb a) [(x,.int 1)]]⟩ (kx a one t x):=by
 refine⟨λy=>?_,λy=>?_⟩
 ·show bG s.bk x _ y=cx fw (bG t.lg x (t.lg x++[(a,one)]) y)
  by_cases e:y=x
  ·subst e
   rw[iy,iy,Bi,h.bk,<-GG];unfold e6;rw[y9]
  ·rw[fV _ _ e,fV _ _ e];exact h.bk y
 ·show bG s.tb a _ y=cx cY (bG t.cd a (t.cd a++[x]) y)
  by_cases e:y=a
  ·subst e
   rw[iy,iy,Bi,h.tb,<-EA];unfold fG;rw[y9]
  ·rw[fV _ _ e,fV _ _ e];exact h.tb y
theorem dP.ps(h:dP s t)(ps:List SX):dP {s with ps:=ps} t:=⟨h.bk,h.tb⟩
theorem PW(m:Nat)(i:m<=4)(b:SX)(one:R4):∀(l:List (Int×SX)) (k:Nat) (s:bU) (t:b8),k+l.length=4->dP s t->dP (gG (m:Int) b one k l s) (eV b one ((l.drop<|4-m-k).map (·.2)) t):=by
 intro l;induction l with
 |nil=>intro k s t j h;rw[List.drop_nil];exact h
 |cons a r f=>
  intro k s t hk h;rw[bT] at hk;show dP (gG (m:Int) b one (k+1) r<|iu (m:Int) b one k a s) _;by_cases c:4-(m:Int)<=(k:Int)
  ·have e:4-m-k=0:=Jr c
   have g:4-m-(k+1)=0:=H0 c;have d:iu (m:Int) b one k a s=⟨s.ps++[a.2,dig (a.1-1).toNat],bG s.bk a.2<|s.bk a.2++[jE one b<|e6<|s.bk a.2],bG s.tb b<|s.tb b++[dA (fG<|s.tb b) [(a.2,.int 1)]]⟩:=if_pos c;rw[d,e];have z:=f (k+1) _ _ (q8 hk)<|h.pick b one a.2<|s.ps++[a.2,dig (a.1-1).toNat];rw[g] at z;exact z
  ·have e:4-m-k=(4-m-(k+1))+1:=Ho c
   have d:iu (m:Int) b one k a s=⟨s.ps++[a.2,dig a.1.toNat],s.bk,s.tb⟩:=if_neg c;rw[d,e,List.drop_succ_cons];exact f (k+1) _ _ (q8 hk) ⟨h.bk,h.tb⟩
theorem MT(m:Nat)(s:m<=4):∀(l:List (Int×SX)) (k:Nat) (P:List SX),k+l.length=4->(∀i a,l[i]?=some a->0<=a.1/\(4-m<=i+k->1<=a.1)/\P.count a.2=if 4-m<=i+k then 1 else 0)->(e7 (m:Int) k l).map cO=l.map λp=>(p.1-((P.count p.2:Nat):Int),p.2):=by
 intro l;induction l with
 |nil=>intro d d d d;exact rfl
 |cons a r o=>
  intro k P hk h;rw[bT] at hk;refine cK (h 0 a rfl) λf e g=>?_
  have n:=o (k+1) P (q8 hk) λi q j=>by
   have:=h (i+1) q (by simpa using j);rw[show i+1+k=i+(k+1) from Vt i 1 k] at this;exact this
  show cO ((if 4-(m:Int)<=(k:Int) then a.1-1 else a.1).toNat,a.2)::(e7 (m:Int) (k+1) r).map cO=_;rw[n,cc];congr 1;rw[g];rw[V6] at e⊢;by_cases c:4-m<=k
  ·have b:4-(m:Int)<=(k:Int):=Lo c
   rw[if_pos c,if_pos b];have:=e c;show(((a.1-1).toNat:Int),a.2)=_;rw[WY<|Zf this];rfl
  ·have b:¬4-(m:Int)<=(k:Int):=Rf c
   rw[if_neg c,if_neg b];show((a.1.toNat:Int),a.2)=_;rw[WY f];show(a.1,a.2)=(a.1-0,a.2);rw[Int.sub_zero]
theorem Fu{l:List (Int×SX)}(g:(l.map (·.2)).Nodup)(n:Nat):∀(i:Nat) (b:Int×SX),l[i]?=some b->((l.drop n).map (·.2)).count b.2=if n<=i then 1 else 0:=by
 intro i b d;have o:=(Tb.mp d).1;have sub:((l.drop n).map (·.2)).Nodup:=g.sublist<|(List.drop_sublist n l).map _;have e:=List.Nodup.count (a:=b.2) sub;rw[e];by_cases c:n<=i
 ·rw[if_pos c,if_pos]
  refine List.mem_map.mpr ⟨b,?_,rfl⟩;refine Xb.mpr ⟨i-n,?_⟩;rw[List.getElem?_drop,show n+(i-n)=i from Nat.add_sub_cancel' c];exact d
 ·rw[if_neg c,if_neg]
  intro p;refine aI (bO p) λq r h=>aw (Xb.mp r) λj f=>?_
  rw[List.getElem?_drop] at f;have s:=(Tb.mp f).1;have k:(l.map (·.2))[n+j]?=some b.2:=by rw[Vi,f];exact congrArg some h
  have m:(l.map (·.2))[i]?=some b.2:=by rw[Vi,d];rfl
  exact c ((List.getElem?_inj (by rw[aM];exact o) g).mp (m.trans k.symm)▸VI n j)
theorem OK:∀(l:List (Int×SX)) (n:Nat),(∀i a,l[i]?=some a->(n<=i->1<=a.1)/\(i<n->a.1<1))->(l.filter λp=>decide (0<p.1)).length=l.length-n:=by
 intro l;induction l with
 |nil=>intro n f;exact(Nat.zero_sub n).symm
 |cons p l e=>exact fun
  |0,b=>by
   rw[VF,if_pos<|decide_eq_true (p:=0<p.1)<|(b 0 p rfl).1 ar,bT,e 0 λi a d=>⟨λf=>(b (i+1) a d).1<|Vc _,λc=>nomatch c⟩];rfl
  |n+1,b=>by
   rw[VF,if_neg λc=>Int.not_le.mpr ((b 0 p rfl).2<|Vl _)<|of_decide_eq_true (p:=0<p.1) c,e n λi a d=>⟨λc=>(b (i+1) a d).1<|Vk c,λc=>(b (i+1) a d).2<|Nat.succ_lt_succ c⟩];exact(Nat.add_sub_add_right l.length 1 n).symm
theorem BM(h:iT l)(a:l.length=4):(l.filter λp=>decide (0<p.1)).length=4-ef l:=
 (OK l _ (qw h a).2).trans (by rw[a])
theorem uY:∀(b:List Call) (a:List (Nat×SX)) (s:bU) (t:b8),a.length=4->(a.map (·.2)).Nodup->(∀c∈b,0<=c.1)->dP s t->
  (cD b a s).1=(d5 b (a.map cO) t).1/\(cD b a s).2.1=(d5 b (a.map cO) t).2.1/\dP (cD b a s).2.2 (d5 b (a.map cO) t).2.2:=by
 intro b;induction b with
 |nil=>
  intro a s t e v k h;refine⟨rfl,?_,h⟩;show cv a=bW (a.map cO);exact oI<|Th e
 |cons c L G=>
  intro a s t e v k h;have A:cv a=bW (a.map cO):=oI<|Th e;have u:=vD (a:=a)<|Th e;have n:=pE (a:=a)<|Th e;have g:(cv a).length=4:=by rw[n.length_eq,aM,e]
  have I:∀f∈cv a,0<=f.1:=λf E=>by
   refine aI (bO<|n.mem_iff.mp E) λq M J=>?_;subst J
   exact Vo _
  have w:((cv a).map (·.2)).Nodup:=by
   have:=n.map (λp:Int×SX=>p.2);refine this.nodup_iff.mpr ?_;rw[Vb];exact v
  refine a0 (qw u g) λo F=>?_
  have D:=BM u g;have C:=k c<|.head _;unfold cD d5;rw[<-A,D];by_cases d:4-(ef (cv a):Int)<c.1
  ·rw[if_pos d,if_pos<|by rw[si o];exact d]
   exact⟨rfl,rfl,h⟩
  ·rw[if_neg d,if_neg<|by rw[si o];exact d]
   refine aw (VR C) λm j=>?_
   have r:m<=4:=W2.mp<|j▸X6 (V5.mp d) (Int.sub_le_self 4<|Vo _);have z:(4-c.1).toNat=4-m:=by rw[j];exact Int.toNat_sub 4 m
   rw[z,j];have H:=MT m r (cv a) 0 (((cv a).drop<|4-m).map (·.2)) (by rw[V6];exact g) λi f l=>by
    refine⟨I f<|Vf l,λh=>(F i f l).1<|FX (j▸d) h,?_⟩;rw[Nat.add_zero];exact Fu w (4-m) i f l
   rw[<-H];have x:=PW m r c.2.1 c.2.2 (cv a) 0 s t (by rw[V6];exact g) h;rw[Nat.sub_zero] at x;exact G (e7 (m:Int) 0<|cv a) _ _ (by rw[rY,g]) (by rw[y6];exact w) (λy B=>k y<|.tail _ B)<|x.ps []
structure cq(n:Nat)(d:Tg):Prop where
 lay:d.canLay0=true
 dep:d.depth<=n
theorem cq.shaped(h:cq n d)(a:n<=64):PySem.SeqAt.shaped d=true:=by
 unfold PySem.SeqAt.shaped;rw[h.lay,decide_eq_true<|SQ h.dep a];rfl
theorem cq.all:∀{a:List Tg},(∀d∈a,cq n d)->Tg.canLayAll0 a=true/\Tg.depthAll a<=n:=by
 intro a;induction a with
 |nil=>intro i;exact⟨rfl,Vc _⟩
 |cons d a g=>
  intro h;refine a0 (g λd f=>h d<|.tail _ f) λc e=>?_
  have b:=h d<|.head _;refine⟨?_,Nat.max_le.mpr ⟨b.dep,e⟩⟩;show(d.canLay0&&Tg.canLayAll0 a)=true;rw[b.lay,c];rfl
theorem cq.lst(h:∀d∈a,cq n d):cq (n+1) (.list a):=⟨(cq.all h).1,Vk (cq.all h).2⟩
theorem cq.tup(h:∀d∈a,cq n d):cq (n+1) (.tuple a):=⟨(cq.all h).1,Vk (cq.all h).2⟩
theorem cq.int(n:Nat)(i:Int):cq n (.int i):=⟨rfl,Vc _⟩
theorem cq.bool(n:Nat)(i:Bool):cq n (.bool i):=⟨rfl,Vc _⟩
theorem cq.str(h:x∈names4\/x∈cH):cq n (.str x):=by
 refine⟨?_,Vc _⟩;have a:∀x∈names4,(Y3 x).canLay0=true:=by decide+kernel
 have b:∀x∈cH,(Y3 x).canLay0=true:=by decide+kernel
 exact h.elim (a x) (b x)
theorem cq.up(h:cq n d)(a:n<=m):cq m d:=⟨h.lay,SQ h.dep a⟩
theorem pe(e:cq n a)(f:cq n b):cq (n+1) (.tuple [a,b]):=.tup λd c=>by
 simp only[V2,Vn,or_false] at c;rcases c with rfl|rfl
 ·exact e
 ·exact f
def zB(e:R4×KV):Tg:=.tuple [.tuple [.int e.1.a,.int e.1.b,.int e.1.c,.int e.1.d],.list<|e.2.map jf]
theorem yn(l:List (SX×R4)):zB (fw l)=fy l:=by
 unfold zB fw fy;have:(fP l).map jf=(bQ (l.map (·.1))).map (nK l):=by
  show((bQ (l.map (·.1))).map _).map jf=_;rw[Vb];rfl
 rw[this];rfl
theorem Bw(h:∀p∈l,p.1∈cH):cq 5 (fy l):=by
 unfold fy;refine pe ?_ ?_
 ·exact(cq.tup (n:=3) λd b=>by refine aI (bO b) λi f a=>?_;subst a;exact cq.int _ _).up (zd rfl)
 ·refine(cq.lst (n:=3) λd b=>?_).up (zd rfl)
  refine aI (bO b) λs e a=>?_;subst a
  refine aI (bO<|(jI _ _).mp e) λp c a=>?_;subst a
  exact pe (cq.str<|.inr<|h p c) (cq.tup (n:=1) λd b=>by refine aI (bO b) λi f a=>?_;subst a;exact cq.int _ _)
def yX(t:KV):Tg:=.list<|t.map jf
def ey(l:List SX):Tg:=.list<|(bQ l).map λx=>.tuple [.str x,.int ((l.count x:Nat):Int)]
theorem count_filter(l:List SX)(x:SX):(l.filter λb=>decide (b=x)).length=l.count x:=by
 rw[List.count_eq_countP,List.countP_eq_length_filter];congr 1
theorem DU(l:List SX):yX (cY l)=ey l:=by
 unfold yX ey;congr 1;show((bQ<|l.map λx=>x).map _).map jf=_;rw[Zw,Vb];refine VD λx a=>?_
 show Tg.tuple [.str x,.int ((l.filter λb=>decide (b=x)).length:Int)]=_;rw[count_filter]
theorem Am(h:∀p∈l,p∈names4):cq 3 (ey l):=.lst λd a=>by
 refine aI (bO a) λs b c=>?_;subst c
 exact pe (cq.str<|.inl<|h s<|(jI _ _).mp b) (.int _ _)
structure eY(Z:Led)(t:Nat)(res:Bool×List (Int×SX)×bU)(b bo ta ln:Nat)(fC:List va)(f9 fW:List SS):Prop where
 ht:(t+4,ag [.bool res.1,.ref<|b+4,.ref<|bo+4,.ref<|ta+4])∈Z
 hl:(b+4,aa fC ln)∈Z
 mj:ak Z fC (res.2.1.map item)
 hb:(bo+4,ab f9 f9.length)∈Z
 kb:StrKeys f9
 fb:∀x∈names4,∃a vs n,bY x f9=some (.ref<|a+4)/\(a+4,aa vs n)∈Z/\ak Z vs ((res.2.2.bk x).map gk)
 gr:(ta+4,ab fW fW.length)∈Z
 kt:StrKeys fW
 ft:∀y∈cH,∃a vs n,bY y fW=some (.ref<|a+4)/\(a+4,aa vs n)∈Z/\ak Z vs ((res.2.2.tb y).map gE)
theorem eY.sub(h:eY Z t m j i o k l g q)(s:∀p∈Z,p∈Z'):eY Z' t m j i o k l g q:=
 ⟨s _ h.ht,s _ h.hl,h.mj.sub s,s _ h.hb,h.kb,λx e=>by refine cQ (h.fb x e) λa f n b c d=>?_;exact jd a f n b (s _ c)<|d.sub s,s _ h.gr,h.kt,λx e=>by refine cQ (h.ft x e) λa f n b c d=>?_;exact jd a f n b (s _ c)<|d.sub s⟩
theorem wU{g:SX->Tg}:∀{a:List SX} {x:SX},x∈a->cM x (a.map λx=>(x,g x))=some (g x)
 |n::a,x,h=>by
  rw[cc,mP];by_cases e:n=x
  ·rw[if_pos e,e]
  ·rw[if_neg e]
   exact wU ((bK h).resolve_left λb=>e b.symm)
theorem yx{i:List SX}{g:SX->List Tg}(h:a7 Z e (bu<|i.map λx=>(x,.list<|g x))):∀x∈i,∃a c n,bY x e=some (.ref<|a+4)/\(a+4,aa c n)∈Z/\ak Z c (g x):=λx f=>by
 rcases h.find x with⟨_,b⟩|⟨v,d,j,b,k⟩
 ·rw[wU (g:=λx=>.list<|g x) f] at b;cases b
 ·rw[wU (g:=λx=>.list<|g x) f] at b
  refine hide λQ l=>?_
  cases b
  refine cQ k.lst_inv λa c n p m o=>?_;subst p
  exact l<|(jd a c n j m o)
theorem uc(h:Tells Z (.ref<|t+4) (m9 d)):∃j i m k l g n,eY Z t d j i m k l g n:=by
 refine Tells.qy (show Tells Z (.ref<|t+4) (.tuple [.bool d.1,.list<|d.2.1.map item,.dict<|bu<|names4.map λx=>(x,.list<|(d.2.2.bk x).map gk),.dict<|bu<|cH.map λx=>(x,.list<|(d.2.2.tb x).map gE)]) from h) (λa J e c q=>?_) (λb b b b b b b b b e=>nomatch e) λb b e=>nomatch e
 cases e
 refine q.lW (λv=>(t+4,ag v)∈Z) c λf b z c q=>q.lW (λv=>(t+4,ag (f::v))∈Z) c λo b A c q=>q.lW (λv=>(t+4,ag (f::o::v))∈Z) c λs b B c q=>q.lW (λv=>(t+4,ag (f::o::s::v))∈Z) c λI b C c q=>q.tC (λv=>(t+4,ag (f::o::s::I::v))∈Z) c λc=>hide λQ D=>cQ A.lst_inv λj l k u F G=>bE B.fE λi g w E p=>bE C.fE λm n y H r=>?_
 cases z
 refine D ?_;rw[u,w,y] at c;exact⟨j,i,m,k,l,g,n,c,F,G,E,p.keys,yx p,H,r.keys,yx r⟩
structure gx(t:b8):Prop where
 lg:∀x,(t.lg x).length<=100/\∀p∈t.lg x,p.1∈cH
 cd:∀y,(t.cd y).length<=100/\∀n∈t.cd y,n∈names4
structure eQ(Z:Led)(d:Nat)(res:Bool×List (Int×SX)×b8)(b lo ca e:Nat)(c:List va)(eo gi:List SS):Prop where
 hd:(d+4,ag [.bool res.1,.ref<|b+4,.ref<|lo+4,.ref<|ca+4])∈Z
 hl:(b+4,aa c e)∈Z
 mj:ak Z c (res.2.1.map item)
 eK:(lo+4,ab eo 4)∈Z
 kl:StrKeys eo
 fl:∀x∈names4,∃a vs n,bY x eo=some (.ref<|a+4)/\(a+4,aa vs n)∈Z/\fh Z vs (res.2.2.lg x)
 gm:(ca+4,ab gi 2)∈Z
 kc:StrKeys gi
 fc:∀y∈cH,∃a vs n,bY y gi=some (.ref<|a+4)/\(a+4,aa vs n)∈Z/\ak Z vs ((res.2.2.cd y).map .str)
theorem eQ.sub(h:eQ Z d r k q i l m o j)(s:∀p∈Z,p∈Z'):eQ Z' d r k q i l m o j:=
 ⟨s _ h.hd,s _ h.hl,h.mj.sub s,s _ h.eK,h.kl,λx f=>by refine cQ (h.fl x f) λa g n b c e=>?_;exact jd a g n b (s _ c)<|e.sub s,s _ h.gm,h.kc,λx f=>by refine cQ (h.fc x f) λa g n b c e=>?_;exact jd a g n b (s _ c)<|e.sub s⟩
theorem C3(l:List (SX×R4)):∀p∈fP l,dW p.2:=λp a=>by
 refine aI (bO a) λs c b=>?_;subst b;exact⟨_,rfl⟩
theorem AU(l:List SX):∀p∈cY l,∃i,p.2= .int i:=λp a=>by
 refine aI (bO a) λs c b=>?_;subst b;exact⟨_,rfl⟩
theorem rk(l:List SX):(bQ l).length<=l.length:=by
 unfold bQ;rw[aM];exact SQ (WK _ _)<|by rw[VW];exact VA _
theorem tM(l:List (SX×R4)):(fP l).length<=l.length:=by
 show((bQ _).map _).length<=_;rw[aM];exact SQ (rk _)<|by rw[aM];exact VA _
theorem tG(l:List SX):(cY l).length<=l.length:=by
 show((bQ _).map _).length<=_;rw[aM];exact SQ (rk _)<|by rw[aM];exact VA _
theorem qH{o p:Type}{g:List o->p}{l:List o}{P:p->Tg}(h:ak Z f ((cx g l).map P)):∃t v,f=t++[v]/\Tells Z v (P<|g l):=by
 have e:(cx g l).map P=((Tp l.length).map λk=>P<|g<|l.take k)++[P<|g l]:=by
  unfold cx;rw[XD,mapA,mapA,Vb];congr 1;show[P<|g<|l.take l.length]=_;rw[Yc]
 rw[e] at h;obtain⟨a,c,rfl,_,m⟩:∃a c,f=a++c/\ak Z a ((Tp l.length).map λk=>P<|g<|l.take k)/\ak Z c [P<|g l]:=by
  revert h;generalize((Tp l.length).map λk=>P<|g<|l.take k)=i;induction i generalizing f with
  |nil=>intro h;exact dR [] f rfl .nil h
  |cons d i r=>
   intro h;refine bE (ak.cons_inv (c:=i++[P<|g l]) h) λv s b j m=>?_;subst b
   refine bE (r m) λa c b n q=>?_;subst b
   exact dR (v::a) c rfl (.cons j n) q
 refine bE (ak.cons_inv (c:=[]) m) λv s b j n=>?_;subst b
 cases n.nil_inv
 exact cA a v rfl j
def gf(e:Expr):XT:=(eX e).2.2.2.2
def gT(s:Wq):List Wq×XT:=((sX s).2.2.1,(sX s).2.2.2.2)
theorem Fj:b4 150=[eM 0]++([.If (.Compare wK [.NotEq] [vd]<|gf<|bM<|eM 1) (gT<|eM 1).1 [] (gT<|eM 1).2]++([eM 2,eM 3]++[.Return (some<|.Compare uh [.Eq] [dN]<|gf<|bM<|eM 4) (gT<|eM 4).2])):=by kernel_rfl
theorem ED:dN=bD (a6 dN) (.Name "name"<|bb (aG dN).target) (aG dN).iter [] (aW dN) (bX dN):=by kernel_rfl
section
variable{b t d g h c e j k l v m n o w:Nat}{i:S9}{x y:List va}{p q r s:List SS}{Z:Led}{u:Bool×List (Int×SX)×bU}{a:Bool×List (Int×SX)×b8}
abbrev tO(t d c e:Nat):List SS:=[ent "told" c<|.ref<|t+4,ent "due" e<|.ref<|d+4]
theorem yL:SV "a"∈names4:=.head _
theorem C8:SV "b c"∈names4:=.tail _<|.head _
theorem mY:SV "f"∈cH:=.head _
theorem oo:SV "g"∈cH:=.tail _<|.head _
theorem JO(hb:b+40<=680)(Ts:bC i)(I:eY Z t u j k l v x p q)(D:eQ Z d a m n o w y r s)(S:dP u.2.2 a.2.2)(H:gx a.2.2):
  VS b (ff g h) (PySem.execs [eM 0]<|gW g h) [(23,i),(g+4,ao (tO t d c e) 2),(h+4,aJ)] Z λf Tt F=>f= .next/\∃B C k2,bC B/\Tt=[B,ao (tO t d c e++[ent "both" k2<|.ref<|C+4]) 3,aJ]/\Tells (F++Z) (.ref<|C+4) (gk<|fw<|a.2.2.lg "a"++a.2.2.lg "b c"):=by
 refine hide λTv hQ=>cQ (I.fb _ yL) λR TA n1 V M J=>cQ (I.fb _ C8) λT TB n2 Y N L=>?_
 rw[S.bk] at J L;refine cw (qH J) λu1 x1 A O=>?_;subst A
 refine cw (qH L) λu2 x2 A P=>?_;subst A
 refine cw O.pR λE z A z=>?_;subst A
 refine cw P.pR λG z A z=>?_;subst A
 refine hQ<|VS.execs<|IW 680 hb (zd rfl) (aj jv<|aj ru<|aj (DW<|zd rfl) ay) (aq I.ht<|aq D.hd<|aq I.hb<|aq I.gr<|aq D.eK<|aq D.gm ax) λb1 b2 Tu Tw Tz=>ah ⟨_,_,_,_,_,R,_,_,rfl,I.kb,.inr ⟨rfl,I.hb⟩,V,M,λz z=>ah ⟨_,_,u1,_,E,rfl,.inr ⟨rfl,M⟩,λz Tx=>ah ⟨_,_,_,_,_,T,_,_,rfl,I.kb,.inr ⟨rfl,I.hb⟩,Y,N,λz z=>ah ⟨_,_,u2,_,G,rfl,.inr ⟨rfl,N⟩,λz z=>⟨E,G,_,_,_,_,i,rfl,rfl,Ts,O,P,C3 _,C3 _,?_,λU F B Tr hT z Q=>ah<|aY _ rfl rfl (jd B U Q Tr rfl ?_)⟩⟩⟩⟩⟩
 ·have h1:=tM<|a.2.2.lg "a"
  have h2:=tM<|a.2.2.lg "b c";have h3:=(H.lg "a").1;have h4:=(H.lg "b c").1;show(fP _).length+(fP _).length<=900;lia
 ·rw[<-Br]
  show Tells ((F++[])++Z) _ _;rw[aP];exact hT
end
section
variable{b t d c a e g k l m y n p q z:Nat}{h:S9}{A B:List va}{r s u v:List SS}{Z:Led}{x:Bool×List (Int×SX)×bU}{j:Bool×List (Int×SX)×b8}
abbrev fv(t d e g i f:Nat):List SS:=tO t d e g++[ent "both" i<|.ref<|f+4]
theorem Eb(f:List (SX×R4)):((fP f).map (·.1)).Nodup:=by rw[lP];exact ob _
theorem Cs(f:List SX):((cY f).map (·.1)).Nodup:=by rw[lP];exact ob _
theorem PA(L:b+40<=680)(I:Tells Z (.ref<|o+4) (gk<|fw i))(P:i.length<=900):
  VS b (ff c a) (eval wK<|gW c a) [(23,h),(c+4,ao (fv t d e g C o) 3),(a+4,aJ)] Z λV U F=>U=[h,ao (fv t d e g C o) 3,aJ]/\Tells (F++Z) V (fy i):=by
 refine hide λQ J=>iS (qK I) λq0 q1 q2 q3 G R M=>bE M.fE λw H D E O=>?_
 cases D
 refine J<|VS.b5<|Oa 680 L (zd rfl) (aj qz ay) (aq R<|aq E ax) λb1 b2 N T D=>ah λw w=>ah ⟨_,_,_,_,_,fP i,rfl,rfl,.head _,az E,O.sub λw f=>az f,Eb i,SQ (tM i) P,λvs Tr F S Y w=>aY _ rfl rfl ?_⟩
 rw[<-yn];refine .tup (.head _)<|.cons (.tup (.tail _<|.head _)<|.cons (.int _ _)<|.cons (.int _ _)<|.cons (.int _ _)<|.cons (.int _ _) .nil)<|.cons (.lst (.tail _<|.tail _<|.head _)<|S.sub λTs f=>?_) .nil;simp only[VK] at f⊢;rcases f with f|f|f<;>simp[f]
theorem Of{o w:Nat}(Q:b+40<=680)(D:eQ Z d j n p q z B u v)(I:eY Z t x k l m y A r s)(H:gx j.2.2):
  VS b (ff c a) (eval vd<|gW c a) [(23,h),(c+4,ao (fv t d e g w o) 3),(a+4,aJ)] Z λV U F=>U=[h,ao (fv t d e g w o) 3,aJ]/\Tells (F++Z) V (fy<|j.2.2.lg "a"++j.2.2.lg "b c"):=by
 refine hide λTt P=>cQ (D.fl _ yL) λL Y S N G C=>cQ (D.fl _ C8) λM Tr T O J E=>P ?_;have h3:=(H.lg "a").1;have h4:=(H.lg "b c").1;refine VS.b5<|HO 680 Q (zd rfl) (aj jv<|aj Ax<|aj (CG ar) ay) (aq I.ht<|aq D.hd<|aq I.hb<|aq I.gr<|aq D.eK<|aq D.gm ax) λb1 b2 Ts Tu Tx=>ah ⟨_,_,_,_,_,L,_,_,rfl,D.kl,.inr ⟨rfl,D.eK⟩,N,G,λi i=>ah ⟨_,_,_,_,_,M,_,_,rfl,D.kl,.inr ⟨rfl,D.eK⟩,O,J,λi i=>ah ⟨_,_,Y,Tr,S,T,rfl,rfl,G,J,by rw[C.len,E.len];exact SQ (VB ‹_› ‹_›)<|zd rfl,λTw i i=>⟨_,Bt (n:=0) (zd rfl) (fh.sub (λi f=>az f)<|C.app E) (by rw[Vd];exact SQ (VB ‹_› ‹_›)<|zd rfl)<|.head _,λTv F R i i=>aY _ rfl rfl ?_⟩⟩⟩⟩;refine R.sub λTz f=>?_
 simp only[VK] at f⊢;rcases f with f|f|f<;>simp[f]
theorem Mo(hb:b+40<=680)(D:eQ Z d j n p q z B u v)(I:eY Z t x k l m y A r s)(Tu:dP x.2.2 j.2.2)(H:gx j.2.2):
  VS b (ff c a) (PySem.execs [eM 2,eM 3]<|gW c a) [(23,h),(c+4,ao (fv t d e g G E) 3),(a+4,aJ)] Z λf Tx F=>f= .next/\∃k3 M V Y nn,Tx=[h,ao (fv t d e g G E++[ent "counts" k3<|.ref<|M+4]) 4,af<|.ref<|V+4]/\Tells (F++Z) (.ref<|M+4) (gE<|cY<|j.2.2.cd "g"++j.2.2.cd "f")/\(V+4,aa Y nn)∈F++Z/\ak (F++Z) Y ((j.2.2.cd "g"++j.2.2.cd "f").map .str):=by
 refine hide λTA hQ=>cQ (D.fc _ oo) λa1 Tr n1 f1 R N=>cQ (D.fc _ mY) λa2 Ts n2 f2 S O=>cQ (I.ft _ oo) λa3 TG n3 f3 T P=>cQ (I.ft _ mY) λa4 TH n4 f4 U Q=>?_
 rw[Tu.tb] at P Q;refine cw (qH P) λu1 x1 w p1=>?_;subst w
 refine cw (qH Q) λu2 x2 w p2=>?_;subst w
 refine cw p1.fE λJ i w i=>?_;subst w
 refine cw p2.fE λL i w i=>?_;subst w
 refine hQ ?_;have h3:=(H.cd "g").1;have h4:=(H.cd "f").1;have up:∀{Tt:Led},∀C∈Z,C∈Tt++Z:=λC o=>az o
 refine VS.execs (FA 680 hb (zd rfl) (aj jv<|aj Ax<|aj ru<|aj (yr<|zd rfl) ay) (aq I.ht<|aq D.hd<|aq I.hb<|aq I.gr<|aq D.eK<|aq D.gm ax) λb1 b2 Tz TB TF=>?_);refine ah ⟨_,_,_,_,_,a1,_,_,rfl,D.kc,.inr ⟨rfl,D.gm⟩,f1,R,λi i=>ah ⟨_,_,_,_,_,a2,_,_,rfl,D.kc,.inr ⟨rfl,D.gm⟩,f2,S,λi i=>ah ⟨_,_,Tr,Ts,n1,n2,rfl,rfl,R,S,by rw[N.len,O.len,aM,aM];exact SQ (VB ‹_› ‹_›)<|zd rfl,λTw i TC=>ah ⟨_,_,_,_,_,a3,_,_,rfl,I.kt,.inr ⟨rfl,up _ I.gr⟩,f3,up _ T,λi i=>ah ⟨_,_,u1,_,J,rfl,.inr ⟨rfl,up _ T⟩,λi i=>ah ⟨_,_,_,_,_,a4,_,_,rfl,I.kt,.inr ⟨rfl,up _ I.gr⟩,f4,up _ U,λi i=>ah ⟨_,_,u2,_,L,rfl,.inr ⟨rfl,up _ U⟩,λi i=>⟨J,L,_,_,rfl,rfl,p1.sub up,p2.sub up,AU _,AU _,?_,λdd F hT i Tv=>ah<|aY _ rfl rfl (A0 Tv dd Tw (Tr++Ts) 0 rfl ?_ ?_ ?_)⟩⟩⟩⟩⟩⟩⟩⟩
 ·have h1:=tG<|j.2.2.cd "g"
  have h2:=tG<|j.2.2.cd "f";lia
 ·rw[<-Av]
  refine hT.sub λC o=>?_
  simp only[VK] at o⊢;rcases o with o|o|o<;>simp[o]
 ·simp
 ·rw[mapA]
  exact(N.app O).sub λC o=>az o
theorem Se{C D E w G:Nat}(O:b+40<=680)(L:Tells Z (.ref<|w+4) (gE<|cY i))(R:i.length<=900):
  VS b (ff c a) (eval uh<|gW c a) [(23,h),(c+4,ao (fv t d e g D C++[ent "counts" E<|.ref<|w+4]) 4),(a+4,af<|.ref<|G+4)] Z λV U F=>U=[h,ao (fv t d e g D C++[ent "counts" E<|.ref<|w+4]) 4,af<|.ref<|G+4]/\Tells (F++Z) V (ey i):=by
 refine hide λQ M=>bE L.fE λo J H I P=>?_
 cases H
 refine M<|VS.b5<|MW c a t d e g h C D E w G _ J 680 O (zd rfl) (aj qz ay) (aq I ax) λY b2 N T H=>ah λo o=>ah ⟨_,_,_,_,_,cY i,rfl,rfl,.head _,az I,P.sub λo f=>az f,Cs i,SQ (tG i) R,λvs Tr F S o o=>aY _ rfl rfl ?_⟩
 rw[<-DU];refine .lst (.head _)<|S.sub λTs f=>?_;simp only[VK] at f⊢;rcases f with f|f|f<;>simp[f]
theorem Mt{I o:List SX}(R:b+40<=960)(Tt:(a+4,af<|.ref<|P+4)∈Z)(S:(P+4,aa Q nn)∈Z)(ht:ak Z Q (I.map .str))(hl:(O+4,aa F Y)∈Z)(V:ak Z F (o.map .str))(h9:o.length<=900):
  SP w b (.compLoop dN 0 (.ref<|N+4) (.ref<|L+4)<|au 150 c (H+4) (aQ dN ["named"]) [("named",a+4)]) [(H+4,ab [] 0),(L+4,aa [] 0),(N+4,aF O 0)] Z (cC Z F.length (dF "name")<|o.map λE=>.tuple [.str E,.int ((I.count E:Nat):Int)]):=by
 have U:F.length=o.length:=by rw[V.len,aM]
 have Tr:=vw (b:=b) (e:=N) (f:=L) (d:=H) (l:=O) (n:=Y) (c:=F) (Z:=Z) (g:=a6 dN) (j:=(aG dN).iter) (h:=[]) (k:=aW dN) (q:=bX dN) (x:="name") (J:=bb (aG dN).target) (p:=λC=>true) (D:=λi=>.tuple [.str<|o.getD i default,.int ((I.count (o.getD i default):Nat):Int)]) (a:=au 150 c (H+4) (aQ dN ["named"]) [("named",a+4)]) R ⟨by kernel_rfl,by kernel_rfl,rfl⟩ hl (by exact d4 ‹_› (SQ ‹_›<|zd rfl))
  (λi Tv t Z' M G=>hY) (λi Tv t Z' M G C=>?_)
 ·have J:=ju (n:=F.length) (p:=λC=>true) (f:=λi=>Tg.tuple [.str<|o.getD i default,.int ((I.count (o.getD i default):Nat):Int)]) (l:=o) (λC=>true) (λE=>Tg.tuple [.str E,.int ((I.count E:Nat):Int)]) U λi E J=>⟨rfl,by rw[Ta,J];rfl⟩
  rw[<-ED,J,Vu.mpr λC C=>rfl] at Tr;exact Tr
 ·have Ts:i<o.length:=by rw[<-U];exact(Tb.mp M).1
  refine aw (V.strAt Ts) λTu T=>?_
  rw[M] at T;cases T;exact VS.b5<|OY 960 R (zd rfl) (aj (iE ar) ay) (aq (G _ Tt)<|aq (G _ S) ax) λb1 b2 Tw Tx J=>ah ⟨_,ud (.inr ⟨rfl,G _ S⟩)<|ht.sub G,λTz C C=>aY _ rfl rfl (.tup (.head _)<|.cons (.str _ _)<|.cons (.int _ _) .nil)⟩
theorem Rt{w:List SX}(P:b+40<=680)(H:(C+4,aa D L)∈Z)(N:ak Z D (w.map .str))(M:w.length<=900):
  VS b (ff c a) (eval dN<|gW c a) [(23,h),(c+4,ao (fv t d e g I E++[ent "counts" J<|.ref<|G+4]) 4),(a+4,af<|.ref<|C+4)] Z λTr V F=>V=[h,ao (fv t d e g I E++[ent "counts" J<|.ref<|G+4]) 4,af<|.ref<|C+4]/\Tells (F++Z) Tr (ey w):=by
 refine VS.b5 (NJ c a t d e g h E I J G C L D 680 P (zd rfl) (aj (i5 ar)<|aj (vN<|zd rfl) ay) (aq H ax) λb1 b2 Ts Tt Tv=>?_);refine ah ⟨_,uX (zd rfl) N M H,λTu ys U F R S N7 i=>ah ⟨_,_,fc (cZ _) fz,Mt (b:=720) (I:=w) (o:=bQ w) (nn:=L) (Q:=D) (Y:=U) (F:=ys) (zd rfl) (.head _) (.tail _<|VP (F++[]) H) (N.sub λi f=>.tail _<|VP (F++[]) f) (.tail _ ?_) (S.sub λY f=>.tail _ ?_)<|SQ (rk w) M,λi Q o O i i=>ah<|aY _ rfl rfl ?_,λi t2 v2 zs n2 o O T i i=>ah<|aY _ rfl rfl ?_⟩⟩
 ·show _∈(F++[])++Z
  rw[aP];exact R
 ·show _∈(F++[])++Z
  rw[aP];exact f
 ·unfold ey;rw[Q];exact .lst (.head _) .nil
 ·unfold ey
  refine .lst (.head _) (T.sub λY f=>?_);simp only[VK,Vn,or_false] at f⊢;rcases f with f|f|f<;>simp[f]
end
section
variable{b t d c e h i k l m n p q s u:Nat}{g:S9}{v x:List va}{y z A B:List SS}{Z:Led}{j:Bool×List (Int×SX)×bU}{a:Bool×List (Int×SX)×b8}
theorem wA{f o C:Led}(w:r∈f++(o++C)):r∈(f++o)++C:=by rw[aZ];exact w
theorem GW(M:b+40<=680)(Tv:bC g)(I:eY Z t j k l m n v y z)(D:eQ Z d a p q s u x A B)(Tr:dP j.2.2 a.2.2)(H:gx a.2.2):
  VS b (ff c e) (PySem.execs (b4 150)<|gW c e) [(23,g),(c+4,ao (tO t d h i) 2),(e+4,aJ)] Z λf C F=>f= .ret (.bool true)/\∃g o0 o1,bC g/\C=[g,o0,o1]:=by
 have hc:(ff c e).cUnits<=100:=by show 3*1<=100;decide
 have up:∀{Ts Z:Led},∀E∈Z,E∈Ts++Z:=λE G=>az G
 have hA:(a.2.2.lg "a"++a.2.2.lg "b c").length<=900:=by rw[Vd];have P:=(H.lg "a").1;have S:=(H.lg "b c").1;exact SQ (VB ‹_› ‹_›)<|zd rfl
 have hG:(a.2.2.cd "g"++a.2.2.cd "f").length<=900:=by rw[Vd];have P:=(H.cd "g").1;have S:=(H.cd "f").1;exact SQ (VB ‹_› ‹_›)<|zd rfl
 have sA:∀E∈a.2.2.lg "a"++a.2.2.lg "b c",E.1∈cH:=λE U=>(bB U).elim ((H.lg _).2 E)<|(H.lg _).2 E
 have sG:∀E∈a.2.2.cd "g"++a.2.2.cd "f",E∈names4:=λE U=>(bB U).elim ((H.cd _).2 E)<|(H.cd _).2 E
 rw[Fj];refine VS.app (JO M Tv I D Tr H) λC F r w=>hide λTt T=>cQ r λJ L N Tu TA hT=>?_;clear r;subst TA
 refine T ?_;show VS b (ff c e) _ [(23,J),(c+4,ao (fv t d h i N L) 3),(e+4,aJ)] (F++Z) _;have R:=I.sub (Z':=F++Z) up;have Q:=D.sub (Z':=F++Z) up;clear I D;refine VS.app (m:=λC F'=>C=[J,ao (fv t d h i N L) 3,aJ]) (VS.ny<|uV ?_) λC O r w=>?_
 ·refine(u7 (m:=λC w=>C=[J,ao (fv t d h i N L) 3,aJ]) (.inr rfl) hc (by exact nP ‹_› (zd rfl)) (PA M hT hA) λY C O r w=>?_).mono ar (λw G=>G) λY o F w r=>r
  refine a0 r λV P=>?_;clear r;subst V
  refine(Of M (Q.sub up) (R.sub up) H).mono ar (λw G=>G) λv2 o F3 w r=>⟨r.1,_,(Bw sA).shaped<|zd rfl,P.sub up,r.2⟩
 ·cases r
  have I2:=R.sub (Z':=O++(F++Z)) up;have D2:=Q.sub (Z':=O++(F++Z)) up;clear R Q hT;show VS b (ff c e) _ [(23,J),(c+4,ao (fv t d h i N L) 3),(e+4,aJ)] (O++(F++Z)) _;refine VS.app (Mo M D2 I2 Tr H) λC F3 r w=>hide λTt T=>qV r λk3 cb na TC nn TB P S h3=>?_;clear r;subst TB
  refine T ?_;show VS b (ff c e) _ [(23,J),(c+4,ao (fv t d h i N L++[ent "counts" k3<|.ref<|cb+4]) 4),(e+4,af<|.ref<|na+4)] (F3++(O++(F++Z))) _;refine VS.ny<|(uH<|rW (m:=λC w=>C=[J,ao (fv t d h i N L++[ent "counts" k3<|.ref<|cb+4]) 4,af<|.ref<|na+4]) (.inl rfl) hc (by lia) (Se M P hG) λY C F4 r w=>?_).mono ar (λw G=>G) λf o F4 w r=>?_
  ·refine a0 r λV h4=>?_;clear r;subst V
   exact(Rt M (up _ S) (h3.sub up) hG).mono ar (λw G=>G) λv2 o F5 w r=>⟨r.1,_,(Am sG).shaped<|zd rfl,h4.sub up,r.2⟩
  ·refine dB r λY Tw Tx Tz=>?_;clear r;subst Tw Tx Tz
   exact⟨rfl,J,_,_,Tu,rfl⟩
theorem Kp(J:b+40<=640)(L:bC g)(I:eY Z t j k l m n v y z)(D:eQ Z d a p q s u x A B)(S:dP j.2.2 a.2.2)(H:gx a.2.2):
  SP w b (.call (.ref 150) ⟨[.ref<|t+4,.ref<|d+4],[]⟩) [(23,g)] Z λr E M F O=>r= .ok (.ret<|.bool true)/\M=[]/\O=[]/\∃C,bC C/\E=[C]:=by
 refine Gs 640 J (zd rfl) (aj (Jo ar) ay) ax λP Q N T R=>ah ⟨SP.func (GW (b:=640) (c:=N) (e:=N+1) (h:=T) (i:=T+1) (zd rfl) L I D S H) λf E F o G=>?_,λC U V F o G G=>⟨rfl,rfl,rfl,C,o,rfl⟩⟩;obtain⟨rfl,o⟩:=o;exact di _ rfl rfl rfl rfl o
end
abbrev fx(k:Nat):Wq:=bJ (cR ix) k
abbrev eH(k:Nat):Wq:=bJ (cR iP) k
abbrev hW:Expr:=bM<|fx 0
abbrev fF:Expr:=bh 1<|bh 0<|bM<|fx 1
abbrev uE:Expr:=bh 1<|bM<|fx 1
abbrev xy:Expr:=bh 0<|bh 0<|bM<|fx 1
abbrev gV:Expr:=bM<|eH 0
abbrev gY:Expr:=bM<|eH 1
abbrev fq:Expr:=bh 1<|bM<|eH 2
abbrev xH:Expr:=bh 0<|bM<|eH 2
abbrev hU:Expr:=a6 fq
abbrev vO:Expr:=bh 0<|bh 0<|bM jA
abbrev xc:Expr:=bh 1<|bh 0<|bM jA
abbrev uC:Expr:=bh 1<|bM jA
abbrev cj(a d b c:Nat):Zb:=dC 155 (a+4) [("who",d+4),("name",b+4),("due",c+4)]
abbrev mn(a d b c:Nat):Td:=.func (b4 155)<|cj a d b c
inductive oJ(b0:Nat)(c:Td)(sub Z:Led)(v:va)(k:S9->Led->Prop):Prop
 |mk (h0:SP w b0 c sub Z λr objs new F ro=>r= .ok (.ret v)/\new=[]/\ro=[]/\∃a,bC a/\objs=[a]) (h1:∀a F,bC a->k a F):oJ b0 c sub Z v k
def uf(b:Nat)(v:va):aA:=λc sub Z a=>oJ b c sub Z v λd F=>a 0 (H7 v) [d] [] F []
theorem Ac(f:b<=d):(uf d v).Ok w b:=by
 rintro c sub Z n ⟨h,H⟩;refine h.mono f (λa q=>q) ?_;rintro a a a F a a e a;refine ei e λg i j l=>aI l λm h k=>?_;clear e;subst g i j k
 exact aB 0<|H m F h
noncomputable def take1(a:List SS):List SS:=match a with
 |e::_=>[e]
 |_=>[]
def Bg(a:List SS)(h:S9):aU:=λr f c F g=>r= .ok .next/\c=[]/\g=[]/\∃b v d e,f=[ao (a++[ent "seen" b v]) 2,h,d,e]
inductive xq(b0:Nat)(c:Td)(sub Z:Led)(k:Nat->va->S9->S9->Led->Prop):Prop
 |mk (h0:SP w b0 c (sub.take 4) (sub.drop 4++Z) (Bg (take1<|b9 sub)<|ji sub 1)) (h1:∀a v b d F,k a v b d F):xq b0 c sub Z k
def zY(b:Nat):aA:=λc sub Z a=>xq b c sub Z λd v e f F=>a 0 (.ok .next) ([ao (take1 (b9 sub)++[ent "seen" d v]) 2,ji sub 1,e,f]++(sub.drop 4).map (·.2)) [] F []
theorem KX(f:b<=d):(zY d).Ok w b:=by
 rintro c sub Z u ⟨h,H⟩;have z:=h.pin λr o n F x h=>h.2.2.1
 rw[V9] at z;refine z.mono f (λa q=>q) ?_;rintro a a a F a a e a;refine Bm e λa l m p s a t=>iX t λg v i j k=>?_;clear e;subst l m p s k
 exact aB 0<|H g v i j F
def zb(a:List SS)(i:S9):aU:=λr g d F h=>r= .ok .next/\d=[]/\h=[]/\∃c v b p e f,g=[ao (a++[ent "seen" c v,ent "parts" b p]) 3,i,e,f]
inductive uU(b0:Nat)(c:Td)(sub Z:Led)(k:Nat->va->Nat->va->S9->S9->Led->Prop):Prop
 |mk (h0:SP w b0 c (sub.take 4) (sub.drop 4++Z) (zb (take1<|b9 sub)<|ji sub 1)) (h1:∀b v a p d e F,k b v a p d e F):uU b0 c sub Z k
def B3(b:Nat):aA:=λc sub Z a=>uU b c sub Z λe v d p f g F=>a 0 (.ok .next) ([ao (take1 (b9 sub)++[ent "seen" e v,ent "parts" d p]) 3,ji sub 1,f,g]++(sub.drop 4).map (·.2)) [] F []
theorem Mb(f:b<=d):(B3 d).Ok w b:=by
 rintro c sub Z y ⟨h,H⟩;have z:=h.pin λr o n F A h=>h.2.2.1
 rw[V9] at z;refine z.mono f (λa q=>q) ?_;rintro a a a F a a e a;refine Bm e λa m s t u a x=>zj x λi v g p j k l=>?_;clear e;subst m s t u l
 exact aB 0<|H i v g p j k F
def mu(d i n e:Nat)(o:S9):Prop:=o.cls= .type "dict_keyiterator"/\o.data= .fields #[.ref<|d+4,.int i 0,.int n 0,.int e 0]
section
variable{b:Nat}{c:Td}{Z:Led}{f d i e:Nat}{a:List SS}{o:S9}
theorem OL(n:mu d i a.length e o)(I:(d+4,ab a e)∈Z)(hk:StrKeys a)(P:(keysOf a).Nodup)(J:i<a.length):
  VS b c (Wk<|.ref<|f+4) [(f+4,o)] Z λr R F=>∃x t j,r=some (.str x t)/\x∈keysOf a/\R=[j]/\mu d (i+1) a.length e j/\F=[]:=by
 intro A H h N T g v S Y V hu Tr G D Q E C;have L:=D.own (f+4,o)<|.head _;have l:(dZ a).length=a.length:=XC _;have O:Vm.DictAt (strKind Pw w) h (d+4) (dZ a) e:=dictAt (D.keep _ _<|G _ I) hk P;obtain⟨p,u⟩:∃p,(dZ a)[i]?=some p:=aB _ (Ti<|by rw[l];exact J);refine Va (wpAny_pyNext_dict_item (s:=⟨h,g,v,T+1,S⟩) (knd:=strKind Pw w) (kvs:=dZ a) (aY o L n.1<|by rw[l];exact n.2) O u λTs y M B m=>?_);refine aw (va.isStrOf_shape M) λt U=>?_;subst U
 refine dB B λj g1 g2 g3=>?_
 rw[l] at g3;refine C _ [j] [] y N T g (i6 p.1 t j rfl ?_ rfl ⟨g2,g3⟩ rfl) rfl ?_
 ·have:p.1∈(dZ a).map (·.1):=U9<|Vf u
  unfold dZ at this;rw[Vb] at this;exact this
 ·have ne:∀q k,H.get? q=some k->q≠f+4:=λq k q1 z=>by have:=D.off (f+4,o)<|.head _;rw[<-z,q1] at this;cases this
  exact⟨m.1.trans D.size,fc g1 fz,by simp[a8],λq k q1=>(m.2 q<|ne q k q1).trans<|D.keep q k q1,fc (D.off (f+4,o)<|.head _) fz,D.big⟩
theorem Pq{A:Wr}{E:va->Tf->Prop}{Q:Option va->Tf->Prop}{h:Vm}{g:GB}{j:YD}{k:WU}
  (B:A.handled=none) (m:h.get? (f+4)=some o) (u:mu d n n e o) (p:h.get? (d+4)=some (ab a e)) (C:n=a.length) (v:h.objs.size=N+4)
  (x:Q none ⟨((h.update (f+4) Sy).push<|ag []).push<|cm N,g,j,T,k⟩):
  To (Vy Pw w) A (Wk<|.ref<|f+4) Q E ⟨h,g,j,T,k⟩:=by
 subst C;refine a0 u λy q=>?_
 have l:Xj ⟨h,g,j,T,k⟩ (.ref<|f+4) "dict_keyiterator":=aX _ m y;have D:(⟨a⟩:Array SS)[a.length]?=none:=by simp
 unfold Wk;refine bA (VH (name:="__next__") l Zq
  (V1 Zq l F.entry_dict_keyiterator_next ?_<|F.args_dict_keyiterator_next_1 _))
 refine bP<|SU<|SU<|SU<|Zg l<|Te<|SU<|wpAny_fieldsOf m q ?_;show To _ _ (if(VV (d+4)==SY)=true then _ else _) _ _ _;refine wN (show ¬((VV (d+4)==SY)=true) from Vx)<|bP<|SU<|ZX p rfl<|wN (by simp)<|bP<|SU<|wpAny_dictEpoch p rfl<|wN (by simp)<|Te ?_;dsimp only;rw[show(if((a.length:Int)<0) then none else(⟨a⟩:Array SS)[(a.length:Int).toNat]?)=none from(if_neg<|V5.mpr<|Vo _).trans D];refine SU<|SU<|Zg l<|Te ?_;show To _ _ (setField (.ref<|f+4) 0 .none>>=_) _ _ _;refine bS m q (by show 0<4;decide) ?_;show To _ _ (Wa:VM PySem.Fin) _ _ _;have z:(h.update (f+4) Sy).objs.size=N+4:=by rw[(show Vq (f+4) h (h.update (f+4) Sy) from VU ..).1];exact v
 refine ke (t:=N) (s:=⟨h.update (f+4) Sy,g,j,T,k⟩) B z<|SU<|W7 (T:="StopIteration") (b:=true) (aX (cm N) ?_ rfl) XX<|Te x;have r:(((h.update (f+4) Sy).push<|ag []).objs.size)=N+5:=by rw[Wm,z]
 show((((h.update (f+4) Sy).push<|ag []).push<|cm N).get?<|N+5)=some (cm N);rw[<-r];exact VT _ rfl
theorem OU(j:mu d a.length a.length e o)(s:(d+4,ab a e)∈Z):VS b c (Wk<|.ref<|f+4) [(f+4,o)] Z λr w F=>r=none/\(∃v,w=[v])/\F=[]:=by
 intro A G h N T g C L u H J I q D Q E p;refine aw D.d3 λn x=>?_;subst x
 have l:([(f+4,o)]:Led)[0]?=some (f+4,o):=rfl;have t:(Tc (·.setIfInBounds 0 .none) o).isFreed=false:=by
  obtain⟨y,B,z,M⟩:=o;refine a0 j λO m=>?_
  cases m;rfl
 refine Va (Pq u (D.own (f+4,o)<|.head _) j (D.keep _ _<|q _ s) rfl D.size ?_);have k:=((D.update (f:=Tc (·.setIfInBounds 0 .none)) l t).alloc (o:=ag []) rfl).alloc (o:=cm n) rfl;exact p none [_] [] _ (n+6) T g ⟨rfl,aB _ rfl,rfl⟩ rfl (k.fp<|(Vg _ _).trans<|Vg _ _)
end
inductive rS(c:Td)(sub Z:Led)(k:Nat->List va->Prop):Prop
 |mk (l j u vs n b) (h0:c= .builtin "list.__getitem__" ⟨[.ref l,.ref b],[]⟩) (h1:sub=[]) (h2:(l,aa vs n)∈Z) (h3:(b,av "slice" [.none,.int (SR j) u,.none])∈Z) (h4:vs.length<=1000) (h5:∀a,k a<|vs.take j):rS c sub Z k
def vo:aA:=λc sub Z b=>rS c sub Z λa d=>b 0 (H7<|.ref<|a+4) [] [] [(a+4,aa d 0)] []
theorem Ba:vo.Ok w b:=by
 rintro c sub Z x ⟨l,j,u,d,n,C,rfl,rfl,o,p,t,H⟩;refine SP.builtin Xy (by decide+kernel) λA y h N T g f k R z B hk i D r=>ux (s:=⟨h,g,f,T+1,k⟩) (c:=none) (b:=some (j:Int)) (st:=none) (D.keep _ _<|i _ o) (D.keep _ _<|i _ p) .none (.int _ _) .none (by simp) (b6 t)<|aw D.d3 λa v=>?_;subst v
 show R (H7<|.ref h.objs.size) ⟨h.push _,g,f,T+1,k⟩;rw[show h.objs.size=a+4 from D.size];have e:XG ⟨d⟩ none (some (j:Int)) none=⟨d.take j⟩:=by
  exact Zi (⟨d⟩:Array va) j
 have m:({cls:=.type "list",data:=.seq (XG ⟨d⟩ none (some (j:Int)) none)}:S9)=aa (d.take j) 0:=by rw[e];rfl
 rw[m];exact r _ [] [] [(a+4,aa (d.take j) 0)] [] _ _ T g (aB 0<|H a) rfl (λE q=>nomatch q) (D.alloc rfl)
def Gv(t d:Nat)(c:S9):Q7:=λh i N T Z b R=>ae [2,2] [N,N+1]<|xK 560 (Td.func (b4 155)<|dC 155 (N+4) [("who",N+7),("name",N+6),("due",N+5)]) [(23,c),(N+4,ao [ent "told" T<|.ref<|t+4] 1),(N+5,af<|.ref<|d+4),(N+6,aJ),(N+7,aJ)] Z (.bool true) (λe j k l m a=>∀f g:Nat,R (H7<|.bool true) [e] [] (a++[]) [])
theorem IP:CK w [(23,a)] [] [Ai 560<|.bool true] (Vh (.ref 155) ⟨[.ref<|t+4,.ref<|d+4],[]⟩) (Gv t d a):=aV 466 18 0x7cf12babe76637f7c444ef29f63cfe9bbb
def QC(e g f c t d j l h:Nat)(w:S9)(k:List SS):Q7:=λA B N T Z b R=>ae [1,5,6,1] [c,d,j,N]<|xq 600 (aS ix (.ref<|N+4)<|dC 155 (e+4) [("who",g+4),("name",f+4),("due",c+4)]) [(e+4,ao [ent "told" h<|.ref<|t+4] 1),(c+4,af<|.ref<|d+4),(f+4,aJ),(N+4,av "dict_keyiterator" [.ref<|j+4,.int 0 0,.int (SR<|Tn k) 0,.int (SR l) 0]),(g+4,aJ)] Z (λo p m C n=>∀a i:Nat,ae [3,1] [a,a+1]<|uU 600 (aS iP (.ref<|a+5)<|dC 155 (e+4) [("who",g+4),("name",f+4),("due",c+4)]) [(e+4,ao [ent "told" h<|.ref<|t+4,ent "seen" o p] 2),(c+4,ji [(e+4,ao [ent "told" h<|.ref<|t+4] 1),(c+4,af<|.ref<|d+4),(f+4,aJ),(N+4,av "dict_keyiterator" [.ref<|j+4,.int 0 0,.int (SR<|Tn k) 0,.int (SR l) 0]),(g+4,aJ)] 1),(g+4,aJ),(a+5,av "list_iterator" [.ref<|a+4,.int 0 0]),(f+4,m)] (([(a+4,aa [.str "f"<|i+1,.str "g"<|i+2] 0)]++(n++[]))++Z) (λs x r v u D q=>∀y z:Nat,R (.ok .next) [w,ao [ent "told" h<|.ref<|t+4,ent "seen" s x,ent "parts" r v] 3,ji [(e+4,ao [ent "told" h<|.ref<|t+4,ent "seen" o p] 2),(c+4,ji [(e+4,ao [ent "told" h<|.ref<|t+4] 1),(c+4,af<|.ref<|d+4),(f+4,aJ),(N+4,av "dict_keyiterator" [.ref<|j+4,.int 0 0,.int (SR<|Tn k) 0,.int (SR l) 0]),(g+4,aJ)] 1),(g+4,aJ),(a+5,av "list_iterator" [.ref<|a+4,.int 0 0]),(f+4,m)] 1,m,u] [] (q++([(a+4,aa [.str "f"<|i+1,.str "g"<|i+2] 0)]++(n++[]))) []))
theorem GA:a9 w [(23,j),(a+4,ao ([ent "told" g<|.ref<|t+4]) 1),(c+4,af<|.ref<|d+4),(b+4,aJ),(e+4,aJ)] [(d+4,ag [m,.ref<|l+4,.ref<|f+4,.ref<|k+4]),(f+4,ab h i)] [zY 600,B3 600] (mn a e b c) (gw [ix,iP]<|cj a e b c) (QC a e b c t d f i g j h):=ba 23 44 0x907a8b81e34996a14c51f5fe4b3c47c60726e5b62df63e7
def HU(a t d f e:Nat)(g:S9)(h:va)(c:List SS)(fn:Nat):Q7:=λi j N T Z b R=>ae [1,5,4] [a,t,N]<|R (H7<|.ref<|N+5) [g,ao (ent "told" e (.ref<|t+4)::c) fn,af<|.ref<|d+4] [] [(N+5,ag [h,.ref<|f+4])] []
theorem Ru:a9 w [(23,m),(a+4,ao (ent "told" h (.ref<|t+4)::f) g),(b+4,af<|.ref<|d+4)] [(t+4,ag [n,.ref<|i+4,.ref<|c+4,.ref<|l+4]),(d+4,ag [A,.ref<|u+4,.ref<|j+4,.ref<|e+4]),(c+4,ab p q),(l+4,ab y z),(j+4,ab v x),(e+4,ab r s)] [] (mn a o k b) (bN vO<|cj a o k b) (HU a t d i h m n f g):=ba 11 15 0x834d2f5bdbdb
def OC(g t d a e:Nat)(f:S9)(h:va)(c:List SS)(fn:Nat):Q7:=λi j N T Z b R=>ae [1,5,4] [g,d,N]<|R (H7<|.ref<|N+5) [f,ao (ent "told" e (.ref<|t+4)::c) fn,af<|.ref<|d+4] [] [(N+5,ag [h,.ref<|a+4])] []
theorem RI:a9 w [(23,m),(b+4,ao (ent "told" i (.ref<|t+4)::g) h),(a+4,af<|.ref<|d+4)] [(t+4,ag [A,.ref<|u+4,.ref<|c+4,.ref<|l+4]),(d+4,ag [n,.ref<|f+4,.ref<|j+4,.ref<|e+4]),(c+4,ab p q),(l+4,ab y z),(j+4,ab v x),(e+4,ab r s)] [] (mn b o k a) (bN xc<|cj b o k a) (OC a t d f i m n g h):=ba 11 15 0x834d32df599d
def MQ(c i t d f:Nat)(g:S9)(e:List SS)(fn:Nat):Q7:=λk l N T Z b R=>ae [1,1] [c,i]<|oJ 600 (cp 150 [.ref<|t+4,.ref<|d+4]) [(23,g)] Z (.bool true) (λh a=>∀j T9:Nat,R (H7<|.bool true) [h,ao (ent "told" f (.ref<|t+4)::e) fn,af<|.ref<|d+4] [] (a++[]) [])
theorem Fv:a9 w [(23,l),(a+4,ao (ent "told" h (.ref<|t+4)::f) g),(b+4,af<|.ref<|d+4)] [(t+4,ag [A,.ref<|s+4,.ref<|c+4,.ref<|k+4]),(d+4,ag [z,.ref<|r+4,.ref<|i+4,.ref<|e+4]),(c+4,ab n o),(k+4,ab x y),(i+4,ab u v),(e+4,ab p q)] [uf 600<|.bool true] (mn a m j b) (bN uC<|cj a m j b) (MQ a b t d h l f g):=ba 451 10 0x1de599e42343c5
def vk(c m t d f k:Nat)(g:Nat)(x:SX)(j:S9)(o:Nat->Nat):Q7:=λr s N T Z b R=>ae [1,5,1,4] [c,t,m,f]<|eP (bi "dict.__getitem__" [.ref<|f+4,.str x g]) [] Z (λe z u=>∀a q:Nat,ae [3,2] [e,a]<|fm 640 (S0 hW 0 (.ref<|a+4) (.ref<|a+5)<|au 155 (c+4) (a+6) (aW hW) []) [(a+6,ab [] 0),(a+5,aa [] 0),(a+4,av "list_iterator" [.ref<|e+4,.int 0 0])] Z "entry" (λw y n l v h=>∀p i:Nat,ae [2,3] [c,a+2]<|R (.ok .next) [ao [ent "told" k<|.ref<|t+4,ent "seen" (o i)<|.ref<|a+5] 2,af<|.ref<|d+4,af<|.str x g,j] [] ([(a+5,aa n l)]++(h++[])) []))
noncomputable def BN:Nat:=0x2601932f6549cc48abe11363499bbbf49da2af31f3e
theorem E7:a9 w [(a+4,ao ([ent "told" i<|.ref<|t+4]) 1),(e+4,af<|.ref<|d+4),(b+4,af<|.str x m),(h+4,g)] [(t+4,ag [B,.ref<|s+4,.ref<|c+4,.ref<|k+4]),(d+4,ag [A,.ref<|r+4,.ref<|j+4,.ref<|f+4]),(c+4,ab n o),(k+4,ab y z),(j+4,ab u v),(f+4,ab p q)] [hI,ek 640 "entry"] (aS ix (.ref<|h+4)<|cj a l b e) (gw [fx 0]<|cj a l b e) (vk a b t d c i m x g λt=>t):=ba 21 40 BN
theorem R1:a9 w [(a+4,ao ([ent "told" i<|.ref<|t+4,ent "seen" j z]) 2),(e+4,af<|.ref<|d+4),(b+4,af<|.str x n),(h+4,g)] [(t+4,ag [D,.ref<|u+4,.ref<|c+4,.ref<|l+4]),(d+4,ag [C,.ref<|s+4,.ref<|k+4,.ref<|f+4]),(c+4,ab o p),(l+4,ab A B),(k+4,ab v y),(f+4,ab q r)] [hI,ek 640 "entry"] (aS ix (.ref<|h+4)<|cj a m b e) (gw [fx 0]<|cj a m b e) (vk a b t d c i n x g λE=>j):=ba 21 40 BN
def JT(c t d f:Nat)(h g a:Nat)(x:SX)(e:S9):Q7:=λi j N T Z b R=>ae [1] [c]<|R (H7<|.ref<|a+4) [ao [ent "told" f<|.ref<|t+4,ent "seen" g<|.ref<|a+4] 2,af<|.ref<|d+4,af<|.str x h,e] [] [] []
theorem NO:a9 w [(a+4,ao ([ent "told" g<|.ref<|t+4,ent "seen" h<|.ref<|i+4]) 2),(c+4,af<|.ref<|d+4),(b+4,af<|.str x k),(f+4,e)] [] [] (aS ix (.ref<|f+4)<|cj a j b c) (bN xy<|cj a j b c) (JT a t d g k h i x e):=ba 2 3 0x1
def RK(g h j t d n:Nat)(k o i:Nat)(x:SX)(m:S9):Q7:=λz A N T Z b R=>ae [1] [g]<|jb (bi "len" [.ref<|i+4]) [] Z (λp=>∀s:Xi,∀c f:Nat,ae [7] [c]<|fY (bi "range.__iter__" [.ref<|c+4]) [(c+4,av "range" [.int 0<|f+1,.int (SR p)<|s+1,.int 1<|f+2])] (λq e=>∀a w:Nat,ae [2] [e]<|fm 640 (S0 fF 0 (.ref<|e+4) (.ref<|a+4)<|au 155 (g+4) (a+5) (aQ fF ["due","name"]) [("name",h+4),("due",j+4)]) [(a+5,ab [] 0),(a+4,aa [] 0),(e+4,aK (0:Int) ((SR q):Int)),(j+4,af<|.ref<|d+4),(h+4,af<|.str x k)] Z "k" (λC D u r B l=>∀v y:Nat,ae [3] [a+1]<|R (H7<|.ref<|a+4) [ao [ent "told" n<|.ref<|t+4,ent "seen" o<|.ref<|i+4] 2,af<|.ref<|d+4,af<|.str x k,m] [] ([(a+4,aa u r)]++(l++[])) [])))
theorem F0:a9 w [(a+4,ao ([ent "told" h<|.ref<|t+4,ent "seen" i<|.ref<|e+4]) 2),(c+4,af<|.ref<|d+4),(b+4,af<|.str x k),(g+4,f)] [(e+4,aa m l)] [fA,ik,ek 640 "k"] (aS ix (.ref<|g+4)<|cj a j b c) (bN fF<|cj a j b c) (RK a b c t d h k i e x f):=ba 23 44 0x180f7384a3636c9268351276391a6105ea7ba5956f0327a30
def Ey(h n p t d a j:Nat)(e k c:Nat)(x:SX)(i:S9):Q7:=λy z N T Z b R=>ae [1] [h]<|jb (bi "len" [.ref<|c+4]) [] Z (λm=>∀o:Xi,∀u T8:Nat,ae [1,5,1,4] [p,d,n,a]<|eP (bi "dict.__getitem__" [.ref<|a+4,.str x e]) [] Z (λg C A=>∀q v:Nat,jb (bi "len" [.ref<|g+4]) [] Z (λl=>∀B:Xi,∀r f:Nat,fI 960 (bi "int.__ne__" [.int (SR m)<|o+1,.int (SR<|l+1)<|f+2]) [] Z (.bool false) (∀s w:Nat,R (H7<|.bool false) [ao [ent "told" j<|.ref<|t+4,ent "seen" k<|.ref<|c+4] 2,af<|.ref<|d+4,af<|.str x e,i] [] [] []))))
theorem KL:a9 w [(a+4,ao ([ent "told" k<|.ref<|t+4,ent "seen" l<|.ref<|f+4]) 2),(c+4,af<|.ref<|d+4),(b+4,af<|.str x o),(j+4,i)] [(f+4,aa B A),(t+4,ag [F,.ref<|v+4,.ref<|g+4,.ref<|m+4]),(d+4,ag [E,.ref<|u+4,.ref<|e+4,.ref<|h+4]),(g+4,ab p q),(m+4,ab C D),(e+4,ab y z),(h+4,ab r s)] [fA,hI,ir 960<|.bool false] (aS ix (.ref<|j+4)<|cj a n b c) (jQ uE<|cj a n b c) (Ey a b c t d e k o l f x i):=ba 18 39 0x8245805117925ed75fba7a14d74261ce5fded
def JK(d k t a q0 q1 q2 q3:Nat)(f g h i:Int):Q7:=λn o N T Z b R=>ae [1,5,4,1,5,6] [d,t,N,d,t,a] (∀(_:XT) (_:List (Td×XT)),ae [3] [N+3]<|nv (bi "list.__init__" [.ref<|N+7,.ref<|N+6]) [(N+7,aa [] 0)] ([(N+6,av "dict_items" [.ref<|a+4])]++Z) (λl j e=>∀c m:Nat,R (H7<|.ref<|c+4) [ab [ent "entry" k<|.ref<|t+4] 1] [] ([(c+4,ag [.ref<|N+5,.ref<|N+7]),(N+5,ag [.int f<|q0+1,.int g<|q1+1,.int h<|q2+1,.int i<|q3+1]),(N+7,aa l j)]++(e++[(N+6,av "dict_items" [.ref<|a+4])])) []))
theorem Mz:a9 w [(a+4,ab [ent "entry" k<|.ref<|t+4] 1)] [(t+4,ag [.int d<|q0+1,.int e<|q1+1,.int f<|q2+1,.int g<|q3+1,.ref<|b+4]),(b+4,ab i j)] [oX] (S0 l 0 m h<|au 155 c (a+4) (aW hW) []) (bN (a6 hW)<|au 155 c (a+4) (aW hW) []) (JK a k t b q0 q1 q2 q3 d e f g):=ba 14 50 0x155523411231af95194a2a7bd099f560fcda847d02473d5
def K4(n o d g:Nat)(m k j c p:Nat)(x:SX):Q7:=λv w N T Z b R=>ae [1,5,1,4] [o,d,n,g]<|eP (bi "dict.__getitem__" [.ref<|g+4,.str x p]) [] Z (λf z y=>∀a s:Nat,ae [1,4] [m,f]<|rS (bi "list.__getitem__" [.ref<|f+4,.ref<|a+4]) [] ([(a+4,av "slice" [.none,.int (SR j)<|c+1,.none])]++Z) (λe h=>∀q t:Nat,qF 680 (cp 145 [.ref<|e+4]) [] (([(e+4,aa h 0)]++[(a+4,av "slice" [.none,.int (SR j)<|c+1,.none])])++Z) (λl i=>∀r u:Nat,R (H7<|.ref<|l+4) [ab [ent "k" k<|.int (SR j)<|c+1] 1] [] (i++([(e+4,aa h 0)]++[(a+4,av "slice" [.none,.int (SR j)<|c+1,.none])])) [])))
theorem Rn:a9 w [(a+4,ab [ent "k" k<|.int (SR j)<|h+1] 1)] [(c+4,af<|.ref<|d+4),(b+4,af<|.str x i),(d+4,ag [t,.ref<|o+4,.ref<|e+4,.ref<|f+4]),(e+4,ab r s),(f+4,ab m n)] [hI,vo,wi 680] (S0 p 0 q l<|au 155 g (a+4) (aQ fF ["due","name"]) [("name",b+4),("due",c+4)]) (bN (a6 fF)<|au 155 g (a+4) (aQ fF ["due","name"]) [("name",b+4),("due",c+4)]) (K4 b c d e a k j h i x):=ba 436 38 0x8b69a6766afbb9d8e4cefb52e0e49dec7dcfa671fb2063be3aa4325e51c812defee21cda9f1
def w7(e g l t d o n u:Nat)(h v:Nat)(x:SX)(s:S9)(D:Nat->Nat):Q7:=λM O N T Z b R=>ae [1,5,1,4] [e,t,g,o]<|eP (bi "dict.__getitem__" [.ref<|o+4,.str x h]) [] Z (λm Tu P=>∀a I:Nat,ae [3,2] [m,a]<|fm 640 (S0 gV 0 (.ref<|a+4) (.ref<|a+5)<|au 155 (e+4) (a+6) (aW gV) []) [(a+6,ab [] 0),(a+5,aa [] 0),(a+4,av "list_iterator" [.ref<|m+4,.int 0 0])] Z "table" (λY Tt C A U f=>∀F J:Nat,ae [2,3,1,5,1,4] [e,a+2,l,d,g,n]<|eP (bi "dict.__getitem__" [.ref<|n+4,.str x h]) [] ((f++[])++Z) (λr Tv Q=>∀G L:Nat,jb (bi "len" [.ref<|r+4]) [] ((f++[])++Z) (λy=>∀Tr:Xi,∀i j:Nat,ae [7] [i]<|fY (bi "range.__iter__" [.ref<|i+4]) [(i+4,av "range" [.int 0<|j+3,.int (SR<|y+1)<|j+2,.int 1<|j+4])] (λw k=>∀c H:Nat,ae [2] [k]<|fm 640 (S0 gY 0 (.ref<|k+4) (.ref<|c+4)<|au 155 (e+4) (c+5) (aQ gY ["due","who"]) [("who",g+4),("due",l+4)]) [(c+5,ab [] 0),(c+4,aa [] 0),(k+4,aK (0:Int) ((SR w):Int)),(l+4,af<|.ref<|d+4),(g+4,af<|.str x h)] ((f++[])++Z) "k" (λV Ts B z S p=>∀E q:Nat,ae [2,3] [e,c+1]<|R (.ok .next) [ao [ent "told" u<|.ref<|t+4,ent "seen" v<|.ref<|a+5,ent "parts" (D q)<|.ref<|c+4] 3,af<|.ref<|d+4,af<|.str x h,s] [] ([(a+5,aa C A),(c+4,aa B z)]++(p++(f++[]))) []))))))
noncomputable def Bc:Nat:=0x12512bff004414254520905c9c2315816b581605ac0000000004200000144118c4e50140529480481269cc01214c30888568280a5000009605ad671004010841
theorem Oq:a9 w [(a+4,ao ([ent "told" j<|.ref<|t+4,ent "seen" k z]) 2),(b+4,af<|.ref<|d+4),(c+4,af<|.str x n),(i+4,h)] [(t+4,ag [D,.ref<|u+4,.ref<|g+4,.ref<|f+4]),(d+4,ag [C,.ref<|s+4,.ref<|l+4,.ref<|e+4]),(g+4,ab o p),(f+4,ab A B),(l+4,ab v y),(e+4,ab q r)] [hI,ek 640 "table",fA,ik,ek 640 "k"] (aS iP (.ref<|i+4)<|cj a c m b) (gw [eH 0,eH 1]<|cj a c m b) (w7 a c b t d f e j n k x h λt=>t):=ba 32 103 Bc
theorem Fp:a9 w [(a+4,ao ([ent "told" j<|.ref<|t+4,ent "seen" l B,ent "parts" k A]) 3),(b+4,af<|.ref<|d+4),(c+4,af<|.str x o),(i+4,h)] [(t+4,ag [F,.ref<|v+4,.ref<|g+4,.ref<|f+4]),(d+4,ag [E,.ref<|u+4,.ref<|m+4,.ref<|e+4]),(g+4,ab p q),(f+4,ab C D),(m+4,ab y z),(e+4,ab r s)] [hI,ek 640 "table",fA,ik,ek 640 "k"] (aS iP (.ref<|i+4)<|cj a c n b) (gw [eH 0,eH 1]<|cj a c n b) (w7 a c b t d f e j o l x h λG=>k):=ba 32 103 Bc
def Oz(c t d f:Nat)(j h g a i:Nat)(x:SX)(e:S9):Q7:=λk l N T Z b R=>ae [1] [c]<|R (H7<|.ref<|a+4) [ao [ent "told" f<|.ref<|t+4,ent "seen" h<|.ref<|a+4,ent "parts" g<|.ref<|i+4] 3,af<|.ref<|d+4,af<|.str x j,e] [] [] []
theorem Nq:a9 w [(a+4,ao ([ent "told" g<|.ref<|t+4,ent "seen" i<|.ref<|l+4,ent "parts" h<|.ref<|k+4]) 3),(b+4,af<|.ref<|d+4),(c+4,af<|.str x m),(f+4,e)] [] [] (aS iP (.ref<|f+4)<|cj a c j b) (bN xH<|cj a c j b) (Oz a t d g m i h l k x e):=ba 2 3 0x1
def Qi(c t d g:Nat)(l i h k a:Nat)(x:SX)(f:S9):Q7:=λp q N T Z b R=>ae [1,3,2] [c,a,N]<|kk 640 (S0 fq 0 (.ref<|N+4) (.ref<|N+5)<|au 155 (c+4) (N+6) (aW fq) [("part",N+7)]) [(N+7,aJ),(N+5,aa [] 0),(N+4,av "list_iterator" [.ref<|a+4,.int 0 0])] Z (λs m j r e=>∀n o:Nat,R (H7<|.ref<|N+5) [ao [ent "told" g<|.ref<|t+4,ent "seen" i<|.ref<|k+4,ent "parts" h<|.ref<|a+4] 3,af<|.ref<|d+4,af<|.str x l,f] [] ([(N+5,aa m j)]++(e++[])) [])
theorem K6:a9 w [(a+4,ao ([ent "told" h<|.ref<|t+4,ent "seen" j<|.ref<|l+4,ent "parts" i<|.ref<|b+4]) 3),(c+4,af<|.ref<|d+4),(e+4,af<|.str x m),(g+4,f)] [(b+4,aa o n)] [n7 640] (aS iP (.ref<|g+4)<|cj a e k c) (bN fq<|cj a e k c) (Qi a t d h m j i l b x f):=ba 14 18 0x99f66023f9d7c685
def ID(c k t:Nat):Q7:=λh i N T Z b R=>ae [1,6] [c,t] (∀(_:XT) (_:List (Td×XT)),ae [3] [N+1]<|nv (bi "list.__init__" [.ref<|N+5,.ref<|N+4]) [(N+5,aa [] 0)] ([(N+4,av "dict_items" [.ref<|t+4])]++Z) (λe d a=>∀f g:Nat,R (H7<|.ref<|N+5) [ab [ent "table" k<|.ref<|t+4] 1] [] ([(N+5,aa e d)]++(a++[(N+4,av "dict_items" [.ref<|t+4])])) []))
theorem R2:a9 w [(a+4,ab [ent "table" k<|.ref<|t+4] 1)] [(t+4,ab d e)] [oX] (S0 f 0 g c<|au 155 b (a+4) (aW gV) []) (bN (a6 gV)<|au 155 b (a+4) (aW gV) []) (ID a k t):=ba 10 29 0x39703e1112114c65c65f21d
def Nl(l i d g:Nat)(h k j c m:Nat)(x:SX):Q7:=λr s N T Z b R=>ae [1,5,1,4] [i,d,l,g]<|eP (bi "dict.__getitem__" [.ref<|g+4,.str x m]) [] Z (λe u t=>∀a p:Nat,ae [1,4] [h,e]<|rS (bi "list.__getitem__" [.ref<|e+4,.ref<|a+4]) [] ([(a+4,av "slice" [.none,.int (SR j)<|c+1,.none])]++Z) (λf n=>∀o q:Nat,R (H7<|.ref<|f+4) [ab [ent "k" k<|.int (SR j)<|c+1] 1] [] ([(f+4,aa n 0)]++[(a+4,av "slice" [.none,.int (SR j)<|c+1,.none])]) []))
theorem Lr:a9 w [(a+4,ab [ent "k" k<|.int (SR j)<|g+1] 1)] [(b+4,af<|.ref<|d+4),(c+4,af<|.str x i),(d+4,ag [t,.ref<|o+4,.ref<|h+4,.ref<|e+4]),(h+4,ab r s),(e+4,ab m n)] [hI,vo] (S0 p 0 q l<|au 155 f (a+4) (aQ gY ["due","who"]) [("who",c+4),("due",b+4)]) (bN (a6 gY)<|au 155 f (a+4) (aQ gY ["due","who"]) [("who",c+4),("due",b+4)]) (Nl c b d e a k j g i x):=ba 18 33 0x1e26f215d105e23202570aca2c76f2
def QZ(h d l:Nat):Q7:=λp q N T Z b R=>ae [1] [d]<|fQ 680 (cp 140 [.ref<|l+4]) [] Z (λe w r c=>∀a T7:Nat,ae [3,2] [e,a]<|pV 720 (S0 hU 0 (.ref<|a+4) (.ref<|a+5)<|au 155 (h) (a+6) (aQ hU ["part"]) [("part",d+4)]) [(a+6,ab [] 0),(a+5,aa [] 0),(a+4,av "list_iterator" [.ref<|e+4,.int 0 0]),(d+4,af<|.ref<|l+4)] ((c++[])++Z) "name" (λs f=>∀k n:Nat,ae [1] [a+2]<|R (H7<|.ref<|a+5) [af<|.ref<|l+4] [] ([(a+5,aa [] 0)]++(f++(c++[]))) []) (λu v j i t g=>∀m o:Nat,ae [3] [a+2]<|R (H7<|.ref<|a+5) [af<|.ref<|l+4] [] ([(a+5,aa j i)]++(g++(c++[]))) []))
theorem EH:a9 w [(a+4,af<|.ref<|l+4)] [(l+4,aa g n)] [fM 680,rf 720 "name"] (S0 e 0 f d<|au 155 b (c+4) (aW fq) [("part",a+4)]) (bN (a6 fq)<|au 155 b (c+4) (aW fq) [("part",a+4)]) (QZ b a l):=ba 421 33 0x982fab4c2d00d6ab0087795495ecdd35d42772400abb54c66ab9a3113c217821341c
def FZ(d f a t u:Nat)(x:SX):Q7:=λi j N T Z b R=>ae [1,1,4,1,1] [d,f,a,d,a]<|ee 960 (bi "list.count" [.ref<|a+4,.str x<|u+1]) [] Z (λe g=>∀c h:Nat,R (H7<|.ref<|c+4) [ab [ent "name" t<|.str x<|u+1] 1] [] [(c+4,ag [.str x<|u+1,.int e<|g+1])] [])
theorem Fq:a9 w [(a+4,ab [ent "name" t<|.str x<|u+1] 1)] [(b+4,af<|.ref<|c+4),(c+4,aa i h)] [gD 960] (S0 f 0 g e<|au 155 d (a+4) (aQ hU ["part"]) [("part",b+4)]) (bN (a6 hU)<|au 155 d (a+4) (aQ hU ["part"]) [("part",b+4)]) (FZ a b c t u x):=ba 6 15 0x38dee8d69
theorem HQ{b c:Type}{l:List b}(g:b->c)(d:c)(e:n=l.length):((Tp n).filter λa=>true).map (λi=>((l[i]?).map g).getD d)=l.map g:=by
 rw[Vu.mpr λa a=>rfl,e];refine List.ext_getElem? λi=>?_
 rw[Vi,Vi];by_cases h:i<l.length
 ·rw[WZ h,Ti h]
  show some (((l[i]?).map g).getD d)=_;rw[Ti h];rfl
 ·rw[YU<|by rw[VW];exact Yh ‹_›,YU<|by exact Yh ‹_›];rfl
section
variable{b c d e l n m:Nat}{h j:Expr}{k:Scope}{o:XT}{a:Zb}{q:List va}{Z:Led}{α:Type}{p:List α}{g:α->Tg}
theorem pj{x:String}(G:b+40<=960)(H:ij a e x)(J:(l+4,aa q n)∈Z)(C:q.length=p.length)(O:p.length<=1000)
  (E:∀(i:Nat) (u:α) v t f,p[i]?=some u->q[i]?=some v->(∀M∈Z,M∈f)->VS b (.compLoop (bD h (.Name (SV x) s) j [] k o) 0 (.ref<|c+4) (.ref<|d+4) a) (eval h a) [(e+4,ab [ent x t v] 1)] f λy L F=>L=[ab [ent x t v] 1]/\Tells (F++f) y (g u)):
  SP w b (.compLoop (bD h (.Name (SV x) s) j [] k o) 0 (.ref<|c+4) (.ref<|d+4) a) [(e+4,ab [] 0),(d+4,aa [] 0),(c+4,aF l 0)] Z (cC Z q.length (dF x)<|p.map g):=by
 have z:=vw (b:=b) (e:=c) (f:=d) (d:=e) (l:=l) (n:=n) (c:=q) (Z:=Z) (g:=h) (j:=j) (h:=[]) (k:=k) (q:=o) (x:=x) (J:=s) (p:=λN=>true) (D:=λi=>((p[i]?).map g).getD .none) (a:=a) G H J (by exact d4 ‹_› ‹_›)
  (λi v t f r A=>hY) (λi v t f r A N=>?_)
 ·rw[HQ g .none C] at z;exact z
 ·have I:i<p.length:=by rw[<-C];exact(Tb.mp r).1
  have B:=Ti I;rw[B];exact E i _ v t f B r A
theorem nf{x:String}{f:Nat->Tg}(E:b+40<=960)(H:ij a e x)(G:m<=1000)
  (C:∀(i:Nat) u t r,i<m->(∀J∈Z,J∈r)->VS b (.compLoop (bD h (.Name (SV x) s) j [] k o) 0 (.ref<|c+4) (.ref<|d+4) a) (eval h a) [(e+4,ab [ent x t<|.int (i:Int)<|u+1] 1)] r λy I F=>I=[ab [ent x t<|.int (i:Int)<|u+1] 1]/\Tells (F++r) y (f i)):
  SP w b (.compLoop (bD h (.Name (SV x) s) j [] k o) 0 (.ref<|c+4) (.ref<|d+4) a) [(e+4,ab [] 0),(d+4,aa [] 0),(c+4,aK 0<|SR m)] Z (cC Z m (dF x)<|(Tp m).map f):=by
 have z:=qo (b:=b) (e:=c) (f:=d) (d:=e) (m:=m) (Z:=Z) (g:=h) (j:=j) (h:=[]) (k:=k) (q:=o) (x:=x) (L:=s) (p:=λv=>true) (D:=f) (a:=a) E H G (λi u t r B A=>hY) λi u t r B A v=>C i u t r B A;rw[Vu.mpr λv v=>rfl] at z;exact z
end
theorem JZ:hW=bD (a6 hW) (.Name "entry"<|bb (aG hW).target) (aG hW).iter [] (aW hW) (bX hW):=by kernel_rfl
theorem Od:fF=bD (a6 fF) (.Name "k"<|bb (aG fF).target) (aG fF).iter [] (aW fF) (bX fF):=by kernel_rfl
theorem Iw:gV=bD (a6 gV) (.Name "table"<|bb (aG gV).target) (aG gV).iter [] (aW gV) (bX gV):=by kernel_rfl
theorem Fw:gY=bD (a6 gY) (.Name "k"<|bb (aG gY).target) (aG gY).iter [] (aW gY) (bX gY):=by kernel_rfl
theorem J9:fq=bD (a6 fq) (.Name "part"<|bb (aG fq).target) (aG fq).iter [] (aW fq) (bX fq):=by kernel_rfl
theorem PD:hU=bD (a6 hU) (.Name "name"<|bb (aG hU).target) (aG hU).iter [] (aW hU) (bX hU):=by kernel_rfl
section
variable{b e g c l n h z A m p t d q r s B u:Nat}{a C:List va}{v y:List SS}{Z:Led}{x:SX}{k:Bool×List (Int×SX)×b8}
theorem Cx{w i j Z:Led}(f:o∈i++(j++Z)):o∈(w++(i++j))++Z:=by
 simp only[VK] at f⊢;rcases f with f|f|f<;>simp[f]
theorem JM(J:b+40<=960)(U:(l+4,aa a n)∈Z)(E:ak Z a ((cx fw f).map gk))(h9:f.length<=100):
  SP w b (.compLoop hW 0 (.ref<|e+4) (.ref<|g+4)<|au 155 h (c+4) (aW hW) []) [(c+4,ab [] 0),(g+4,aa [] 0),(e+4,aF l 0)] Z (cC Z a.length (dF "entry")<|cx fy f):=by
 have o:cx fy f=(Tp<|f.length+1).map λG=>fy (f.take G):=rfl
 have Y:a.length=(Tp<|f.length+1).length:=by rw[E.len,aM,pG,VW]
 rw[o,JZ];refine pj (p:=Tp<|f.length+1) J ⟨by kernel_rfl,by kernel_rfl,rfl⟩ U Y (by rw[VW];exact Ws ‹_›<|zd rfl) λi Tx TA G Z' F T D=>?_
 have M:i<f.length+1:=by have:=(Tb.mp F).1;rwa[VW] at this
 rw[WZ M] at F;cases F;refine aI (E.get (i:=i) (d:=gk<|fw<|f.take i)<|by rw[Vi];unfold cx;rw[Vi,WZ M];rfl) λv' N I=>?_
 rw[T] at N;cases N;refine hide λTv Q=>cw I.pR λt j Tr j=>?_;subst Tr
 refine iS (qK I) λq0 q1 q2 q3 O V R=>bE R.fE λj P o L S=>?_
 cases o
 refine Q<|VS.b5<|Mz 960 J (zd rfl) (aj qz ay) (aq (D _ V)<|aq (D _ L) ax) λb1 b2 Tt Tw o=>ah λj j=>ah ⟨_,_,_,_,_,fP<|f.take i,rfl,rfl,.head _,az<|D _ L,S.sub λj H=>az<|D _ H,Eb _,SQ (tM _)<|by rw[Xo];exact oS<|SQ ‹_›<|zd rfl,λa n Ts E Tu j=>aY _ rfl rfl ?_⟩
 rw[<-yn];exact .tup (.head _)<|.cons (.tup (.tail _<|.head _)<|.cons (.int _ _)<|.cons (.int _ _)<|.cons (.int _ _)<|.cons (.int _ _) .nil)<|.cons (.lst (.tail _<|.tail _<|.head _)<|E.sub λTz H=>Cx H) .nil
theorem Hy(O:b+40<=680)(D:eQ Z d k q r s B C v y)(R:(m+4,af<|.ref<|d+4)∈Z)(Q:(A+4,af<|.str x u)∈Z)(S:x∈names4)(h9:(k.2.2.lg x).length<=100)(P:o<=1000):
  SP w b (.compLoop fF 0 (.ref<|e+4) (.ref<|g+4)<|au 155 h (c+4) (aQ fF ["due","name"]) [("name",A+4),("due",m+4)]) [(c+4,ab [] 0),(g+4,aa [] 0),(e+4,aK 0<|SR o)] Z (cC Z o (dF "k")<|(Tp o).map λF=>fy<|(k.2.2.lg x).take F):=by
 rw[Od];refine nf (by exact SQ ‹_› (zd rfl)) ⟨by kernel_rfl,by kernel_rfl,rfl⟩ P λj T F Z' hj i=>hide λV L=>cQ (D.fl x S) λJ a n f I H=>L<|VS.b5<|Rn 680 O (zd rfl) (aj jv<|aj Ba<|aj (CG ar) ay) (aq (i _ R)<|aq (i _ Q)<|aq (i _ D.hd)<|aq (i _ D.eK)<|aq (i _ D.gm) ax) λb1 b2 N Tr Tv=>ah ⟨_,_,_,_,_,J,a,n,rfl,D.kl,.inr ⟨rfl,i _ D.eK⟩,f,i _ I,λY Ts=>ah ⟨_,j,_,a,n,_,rfl,rfl,az<|i _ I,.head _,by rw[H.len];exact SQ ‹_›<|zd rfl,λTt E E=>⟨_,Bt (n:=0) (e:=a.take j) (a:=(k.2.2.lg x).take j) (zd rfl) (fh.sub (λE G=>az<|i _ G)<|H.take j) (by rw[Xo];exact oS<|SQ ‹_›<|zd rfl)<|.head _,λTu U M E E=>aY _ rfl rfl (M.sub λTw G=>wA G)⟩⟩⟩
theorem FH(J:b+40<=960)(U:(l+4,aa a n)∈Z)(j:ak Z a ((cx cY f).map gE))(h9:f.length<=100):
  SP w b (.compLoop gV 0 (.ref<|e+4) (.ref<|g+4)<|au 155 h (c+4) (aW gV) []) [(c+4,ab [] 0),(g+4,aa [] 0),(e+4,aF l 0)] Z (cC Z a.length (dF "table")<|cx ey f):=by
 have I:cx ey f=(Tp<|f.length+1).map λG=>ey (f.take G):=rfl
 have V:a.length=(Tp<|f.length+1).length:=by rw[j.len,aM,pG,VW]
 rw[I,Iw];refine pj (p:=Tp<|f.length+1) J ⟨by kernel_rfl,by kernel_rfl,rfl⟩ U V (by rw[VW];exact Ws ‹_›<|zd rfl) λi Tt Tv G Z' E T D=>?_
 have M:i<f.length+1:=by have:=(Tb.mp E).1;rwa[VW] at this
 rw[WZ M] at E;cases E;refine aI (j.get (i:=i) (d:=gE<|cY<|f.take i)<|by rw[Vi];unfold cx;rw[Vi,WZ M];rfl) λv' O Q=>?_
 rw[T] at O;cases O;refine hide λTr R=>bE Q.fE λt P Y L S=>?_;subst Y
 refine R<|VS.b5<|R2 960 J (zd rfl) (aj qz ay) (aq (D _ L) ax) λb1 b2 N Ts I=>ah λo o=>ah ⟨_,_,_,_,_,cY<|f.take i,rfl,rfl,.head _,az<|D _ L,S.sub λo H=>az<|D _ H,Cs _,SQ (tG _)<|by rw[Xo];exact oS<|SQ ‹_›<|zd rfl,λa n F j o o=>aY _ rfl rfl ?_⟩
 rw[<-DU];exact .lst (.head _)<|j.sub λTu H=>Cx H
noncomputable def kV(f:List SX):List Tg:=(Tp<|f.length+1).map λi=>.list<|(f.take i).map .str
theorem Et(J:b+40<=960)(D:eQ Z d k q r s B C v y)(O:(m+4,af<|.ref<|d+4)∈Z)(M:(z+4,af<|.str x u)∈Z)(P:x∈cH)(h9:(k.2.2.cd x).length<=100)(L:o=(k.2.2.cd x).length+1):
  SP w b (.compLoop gY 0 (.ref<|e+4) (.ref<|g+4)<|au 155 h (c+4) (aQ gY ["due","who"]) [("who",z+4),("due",m+4)]) [(c+4,ab [] 0),(g+4,aa [] 0),(e+4,aK 0<|SR o)] Z (cC Z o (dF "k")<|kV<|k.2.2.cd x):=by
 subst L;unfold kV;rw[Fw];refine nf (by assumption) ⟨by kernel_rfl,by kernel_rfl,rfl⟩ (by exact Ws ‹_› (zd rfl)) λj S Q Z' hj i=>hide λV I=>cQ (D.fc x P) λH a n f G F=>I<|VS.b5<|Lr 960 J (zd rfl) (aj jv<|aj Ba ay) (aq (i _ O)<|aq (i _ M)<|aq (i _ D.hd)<|aq (i _ D.eK)<|aq (i _ D.gm) ax) λb1 b2 N T Tt=>ah ⟨_,_,_,_,_,H,a,n,rfl,D.kc,.inr ⟨rfl,i _ D.gm⟩,f,i _ G,λY Tr=>ah ⟨_,j,_,a,n,_,rfl,rfl,az<|i _ G,.head _,by rw[F.len,aM];exact SQ ‹_›<|zd rfl,λTs U U=>aY _ rfl rfl (.lst (.head _) ?_)⟩⟩;have E:=(F.sub i).qU j;rw[<-Wv] at E;exact E.sub λTu R=>az R
theorem Kc{M f:List SX}(G:b+40<=960)(R:(p+4,af<|.ref<|D+4)∈Z)(H:(D+4,aa E L)∈Z)(S:ak Z E (M.map .str))(Q:(l+4,aa o n)∈Z)(J:ak Z o (f.map .str))(h9:f.length<=900):
  SP w b (.compLoop hU 0 (.ref<|e+4) (.ref<|g+4)<|au 155 h (c+4) (aQ hU ["part"]) [("part",p+4)]) [(c+4,ab [] 0),(g+4,aa [] 0),(e+4,aF l 0)] Z (cC Z o.length (dF "name")<|f.map λx=>.tuple [.str x,.int ((M.count x:Nat):Int)]):=by
 have T:o.length=f.length:=by rw[J.len,aM]
 rw[PD];refine pj (p:=f) G ⟨by kernel_rfl,by kernel_rfl,rfl⟩ Q T (by exact SQ ‹_› (zd rfl)) λi F Tv t Z' O P j=>aI (J.get (i:=i) (d:=.str F)<|by rw[Vi,O];rfl) λv' I N=>?_
 rw[P] at I;cases I;refine aw N.str_inv λV U=>?_;subst U
 refine VS.b5 (Fq 960 G (zd rfl) (aj (iE ar) ay) (aq (j _ R)<|aq (j _ H) ax) λb1 b2 Tr Ts Tt=>?_);exact ah ⟨_,ud (.inr ⟨rfl,j _ H⟩)<|S.sub j,λTu Y Y=>aY _ rfl rfl (.tup (.head _)<|.cons (.str _ _)<|.cons (.int _ _) .nil)⟩
theorem HM(V:b+40<=680)(hl:(l+4,aa a n)∈Z)(O:ak Z a (kV f))(h9:f.length<=100):
  SP w b (.compLoop fq 0 (.ref<|e+4) (.ref<|g+4)<|au 155 h (c+4) (aW fq) [("part",p+4)]) [(p+4,aJ),(g+4,aa [] 0),(e+4,aF l 0)] Z (kr Z<|cx ey f):=by
 have P:a.length=f.length+1:=by rw[O.len];unfold kV;rw[aM,VW]
 have J:cx ey f=(Tp a.length).map λTt=>ey (f.take Tt):=by rw[P];rfl
 rw[J,J9];refine vG (by exact SQ ‹_› (zd rfl)) ⟨by kernel_rfl,by kernel_rfl,rfl⟩ hl (by exact d4 ‹_› (SQ (Vk ‹_›)<|zd rfl)) λi TB I N E=>?_
 have Tr:i<f.length+1:=by rw[<-P];exact(Tb.mp N).1
 refine aI (O.get (i:=i) (d:=.list<|(f.take i).map .str)<|by unfold kV;rw[Vi,WZ Tr];rfl) λv' Q T=>?_
 rw[N] at Q;cases Q;refine hide λTx U=>cQ T.lst_inv λl2 R H Tv G L=>?_;subst Tv
 refine U ?_;have M:(f.take i).length<=900:=by rw[Xo];exact oS<|SQ ‹_›<|zd rfl
 refine VS.b5 (EH 680 V (zd rfl) (aj (i5 ar)<|aj (vN<|zd rfl) ay) (aq (E _ G) ax) λb1 b2 Tw Tz J=>?_);refine ah ⟨_,uX (zd rfl) (L.sub E) M<|E _ G,λTA ys n F Ts hy N7 D=>ah ⟨_,_,fc (cZ _) fz,Kc (b:=720) (M:=f.take i) (f:=bQ<|f.take i) (L:=H) (E:=R) (n:=n) (o:=ys) (zd rfl) (.head _) (.tail _<|VP (F++[])<|E _ G) (L.sub λD j=>.tail _<|VP (F++[])<|E _ j) (.tail _ ?_) (hy.sub λTu j=>.tail _ ?_)<|SQ (rk _) M,λD Y o S D D=>ah<|aY _ rfl rfl ?_,λD t2 v2 zs H o S hz D D=>ah<|aY _ rfl rfl ?_⟩⟩
 ·show _∈(F++[])++I
  rw[aP];exact Ts
 ·show _∈(F++[])++I
  rw[aP];exact j
 ·unfold ey;rw[Y];exact .lst (.head _) .nil
 ·unfold ey
  refine .lst (.head _) (hz.sub λTu j=>?_);simp only[VK,Vn,or_false] at j⊢;rcases j with j|j|j<;>simp[j]
end
theorem VS.PS{i:Bool->List S9->Led->Prop}(h:d7 w b c (jQ e d) L Z λr g f F j=>∃v,r= .ok (.ret<|.bool v)/\i v g (f++F)):VS b c (isTrue e d<|eval e d) L Z i:=by
 refine VS.qS (i:=Xw) (a:=λr g f F j=>∃v,r= .ok (.ret<|.bool v)/\i v g (f++F)) ?_ λr g f F j h=>?_
 ·show d7 w b c (tsE e d) _ _ _
  rw[yl];exact h
 ·obtain⟨v,rfl,h⟩:=h
  exact⟨aB _ rfl,λa e=>by cases e;exact h⟩
theorem vv(b:va)(a:Zb):aS ix b a= .forLoop (.Name "name"<|bb<|match ix with| .For t _ _ _ _=>t|_=>xX) b ([fx 0]++[.If (.BoolOp .Or [.Compare xy [.NotEq] [fF]<|gf<|bh 0<|bM<|fx 1,uE]<|gf<|bM<|fx 1) (gT<|fx 1).1 [] (gT<|fx 1).2]) [] a:=by kernel_rfl
theorem QX(h:i=j):SP w b (.builtin "int.__ne__" ⟨[.int (SR i) t,.int (SR j) u],[]⟩) [] Z (Rv (.bool false) []):=by
 subst h;have:=AutoIntG6.int___ne___int_int_0 (SR i) t (SR i) u;have e:(λa c:Int=>a !=c) (SR i) (SR i)=false:=by simp
 rw[e] at this;exact SP.val F.entry_int_ne (by decide+kernel) this ⟨rfl,rfl,rfl,rfl,rfl⟩
theorem SP.r4{L Z:Led}{g:Bool->List S9->Led->Prop}{i:W8->List S9->Led->Prop}(t:c= .forLoop l k j [] h)
  (p:VS b c (lh l k h) L Z g)
  (m:∀a F,g false a F->a.length=L.length->e (.ok .next) a [] F [])
  (q:∀a F,g true a F->a.length=L.length->VS b c (PySem.execs j h) (a8 L a) (F++Z) λf o d=>f= .next/\i f o (d++F))
  (s:∀a F,i .next a F->a.length=L.length->SP w b c (a8 L a) (F++Z) λr o n d u=>n=[]/\u=[]/\e r o [] (d++F) []):SP w b c L Z e:=by
 subst t;exact SP.turn p m q s
section
variable{b:Nat}{c i e g t d l k m y n p q z h a:Nat}{A B:List va}{r s u v:List SS}{Z:Led}{x:Bool×List (Int×SX)×bU}{j:Bool×List (Int×SX)×b8}
abbrev eF(t a:Nat):List SS:=[ent "told" a<|.ref<|t+4]
abbrev kQ(c g e h d:Nat)(f w o:S9):Led:=[(c+4,f),(g+4,af<|.ref<|d+4),(e+4,w),(h+4,o)]
abbrev pA(c i e g h:Nat):Td:=aS ix (.ref<|h+4)<|cj c i e g
theorem NS:(pA c i e g h).cUnits<=100:=by
 have:pA c i e g h=_:=vv (.ref<|h+4)<|cj c i e g;rw[this];show 3*0<=100;decide
def xh(t a d:Nat)(I:SX)(J:Nat)(C:S9)(Z:Led)(E:List (SX×R4))(f:W8)(G:List S9)(F:Led):Prop:=f= .next/\∃D o w H,G=[ao (eF t a++[ent "seen" D<|.ref<|o+4]) 2,af<|.ref<|d+4,af<|.str I J,C]/\(o+4,aa w H)∈F++Z/\ak (F++Z) w (cx fy E)
theorem Hq(U:b+40<=640)(I:eY Z t x l k m y A r s)(D:eQ Z d j n p q z B u v)(Tt:dP x.2.2 j.2.2)(Ts:gx j.2.2)(hx:C∈names4)(Tw:P=ao (eF t a) 1\/∃H S,P=ao (eF t a++[ent "seen" H S]) 2):
  VS b (pA c i e g h) (PySem.execs [fx 0]<|cj c i e g) (kQ c g e h d P (af<|.str C G) E) Z (xh t a d C G E Z<|j.2.2.lg C):=by
 refine hide λTB hQ=>cQ (I.fb C hx) λTu vs Tz f Y R=>hQ ?_;rw[Tt.bk] at R;have V:=aq I.ht<|aq D.hd<|aq I.hb<|aq I.gr<|aq D.eK<|aq D.gm ax;have Tx:vs.length≠0:=by rw[R.len,aM,pG];lia
 have Tv:∀{N H:Nat} {J:List va} {L:Nat} {F:Led},ak (F++Z) J (cx fy<|j.2.2.lg C)->xh t a d C G E Z (j.2.2.lg C) .next [ao (eF t a++[ent "seen" H<|.ref<|N+5]) 2,af<|.ref<|d+4,af<|.str C G,E] ([]++([(N+5,aa J L)]++(F++[]))):=λ{N H J L F} Q=>⟨rfl,H,N+1,J,L,rfl,.head _,Q.sub λTG Tr=>by rw[aP];exact .tail _ Tr⟩
 have go:∀(κ:Nat->Nat) (M O:Bool) (N T:Nat),br M O w=w->vk c e t d k a G C E κ M O N T Z b (sV<|xh t a d C G E Z<|j.2.2.lg C):=λκ M O N T TF=>ah ⟨_,_,_,_,_,Tu,vs,Tz,rfl,I.kb,.inr ⟨rfl,I.hb⟩,f,Y,λTA zu=>ah ⟨_,_,(λTr Q=>nomatch Q),JM (b:=640) (zd rfl) Y R (Ts.lg C).1,Tx,λTH TJ J L o F hz zu TC=>ah<|aX _ rfl (Tv hz)⟩⟩
 rcases Tw with rfl|⟨H,S,rfl⟩
 ·exact VS.execs<|E7 640 U (zd rfl) (aj jv<|aj (f7 ar) ay) V<|go _
 ·exact VS.execs<|R1 640 U (zd rfl) (aj jv<|aj (f7 ar) ay) V<|go _
theorem HR(S:b+40<=640)(I:eY Z t x l k m y A r s)(D:eQ Z d j n p q z B u v)(H:gx j.2.2)(hx:C∈names4)(R:(G+4,aa Q V)∈Z)(hs:ak Z Q (cx fy<|j.2.2.lg C)):
  VS b (pA c i e g h) (PySem.execs [.If (.BoolOp .Or [.Compare xy [.NotEq] [fF]<|gf<|bh 0<|bM<|fx 1,uE]<|gf<|bM<|fx 1) (gT<|fx 1).1 [] (gT<|fx 1).2]<|cj c i e g) (kQ c g e h d (ao (eF t a++[ent "seen" N<|.ref<|G+4]) 2) (af<|.str C O) M) Z λf J F=>f= .next/\J=[ao (eF t a++[ent "seen" N<|.ref<|G+4]) 2,af<|.ref<|d+4,af<|.str C O,M]:=by
 have up:∀{Tu Z:Led},∀P∈Z,P∈Tu++Z:=λP L=>az L
 have Tw:=(H.lg C).1;have T:Q.length=(j.2.2.lg C).length+1:=by rw[hs.len,pG]
 have TF:PySem.SeqAt.shaped (.list<|cx fy<|j.2.2.lg C)=true:=(cq.lst (n:=5) λL hq=>by
  refine aI (bO hq) λTz w U=>?_;subst U
  exact Bw λP hp=>(H.lg C).2 P<|XW hp).shaped<|zd rfl
 refine VS.ny (uV<|GC (l:=λJ w=>J=[ao (eF t a++[ent "seen" N<|.ref<|G+4]) 2,af<|.ref<|d+4,af<|.str C O,M]) ?_ λJ F E w=>?_)
 ·refine(u7 (n:=λY J F=>Y= .ref (G+4)/\J=[ao (eF t a++[ent "seen" N<|.ref<|G+4]) 2,af<|.ref<|d+4,af<|.str C O,M]/\F=[]) (m:=λJ w=>J=[ao (eF t a++[ent "seen" N<|.ref<|G+4]) 2,af<|.ref<|d+4,af<|.str C O,M]) (.inr rfl) NS (by exact nP ‹_› (zd rfl)) ?_ λY J F E w=>?_).mono ar (λw L=>L) λY o F w E=>E
  ·exact VS.b5<|NO 640 S (zd rfl) ay ax λb1 b2 Tr Ts Tt=>ah<|hO _ rfl rfl rfl rfl
  ·refine cK E λTB TC U=>?_;clear E;subst TB TC U
   refine VS.b5 (F0 640 S (zd rfl) (aj lN<|aj j1<|aj (f7 ar) ay) (aq R ax) λb1 b2 Tr Ts Tt=>?_);refine ah ⟨_,_,_,rfl,.inr ⟨rfl,R⟩,by exact d4 ‹_› (SQ (Vk ‹_›)<|zd rfl),λTM TG TK=>ah ⟨_,Q.length,_,_,_,rfl,rfl,by exact d4 ‹_› (SQ (Vk ‹_›)<|zd rfl),λTL TH w=>ah ⟨_,_,(λL E=>by rcases bK E with rfl|E;exact cZ _;rcases dg E with rfl;exact cZ _),Hy (b:=640) (zd rfl) (D.sub up) (.head _) (.tail _<|.head _) hx Tw<|by exact d4 ‹_› (SQ (Vk ‹_›)<|zd rfl),by rw[T];lia,λTP TQ zs Tz o F hz w w=>ah<|aX _ rfl ⟨rfl,_,TF,(Tells.lst R hs).sub λP L=>az L,.lst (.head _) ?_⟩⟩⟩⟩;rw[T] at hz;exact hz.sub λP L=>by rw[aP];exact .tail _ L
 ·cases E
  refine hide λTJ hQ=>cQ (D.fl C hx) λTv vs TA f ma ht=>hQ ?_;have Tx:=aq (Z:=F++Z) (up _ R)<|aq (up _ I.ht)<|aq (up _ D.hd)<|aq (up _ I.hb)<|aq (up _ I.gr)<|aq (up _ D.eK)<|aq (up _ D.gm) ax;exact VS.PS<|KL 640 S (zd rfl) (aj lN<|aj jv<|aj (iC<|zd rfl) ay) Tx λb1 b2 Tr Ts Tt=>ah ⟨_,_,_,rfl,.inr ⟨rfl,up _ R⟩,by lia,λt8 w w=>ah ⟨_,_,_,_,_,Tv,vs,TA,rfl,D.kl,.inr ⟨rfl,up _ D.eK⟩,f,up _ ma,λw w=>⟨_,_,_,rfl,.inr ⟨rfl,up _ ma⟩,by rw[ht.len];lia,λTO w w=>⟨QX<|by rw[T,ht.len],λw w=>aY _ rfl rfl rfl⟩⟩⟩⟩
end
section
variable{b:Nat}{e j h g t d p q s u v l x y c k:Nat}{z A:List va}{B C a D:List SS}{n:Bool×List (Int×SX)×bU}{m:Bool×List (Int×SX)×b8}
theorem zS:nZ (cj e j h g) h "name":=⟨by kernel_rfl,by kernel_rfl,rfl⟩
theorem Dh:nZ (cj e j h g) j "who":=⟨by kernel_rfl,by kernel_rfl,rfl⟩
theorem VS.bind1{H O:Type}{b i:Nat}{t:VM H}{f:H->VM O}{P:H->S9->Prop}{M:O->List S9->Led->Prop}(S:L[i]?=some (N,o))(Q:VS b I t [(N,o)] Z λE T F=>∃w,T=[w]/\F=[]/\P E w)
  (R:∀E w,P E w->VS b I (f E) (setAt L i w) Z M):VS b I (t>>=f) L Z M:=
 VS.uR (E:=λr:H×S9=>r.1) (w:=λr=>r.2) (P:=λr=>P r.1 r.2) S (Q.mono ar (λJ U=>U) λE J J J G=>G.elim λw G=>aX (E,w) rfl G) λr G=>R r.1 r.2 G
theorem sy{E:String}{P e g c:Nat}{co:Option va}{G:Option va->S9->Prop}(H:nZ J P E)
  (T:VS b I (Wk<|.ref<|c+4) [(c+4,R)] Z λr w F=>∃f,w=[f]/\F=[]/\G r f):
  VS b I (lh (.Name (SV E) N) (.ref<|c+4) J) [(e+4,L),(g+4,M),(P+4,{cls:=.type "cell",data:=.cell co}),(c+4,R)] Z λok w F=>F=[]/\((ok=false/\∃f,G none f/\w=[L,M,{cls:=.type "cell",data:=.cell co},f])\/(ok=true/\∃o f,G (some o) f/\w=[L,M,af o,f])):=by
 unfold lh;refine VS.mJ<|VS.bind1 (i:=3) rfl T λr S Q=>?_;cases r with
 |none=>exact VS.pure ⟨rfl,.inl ⟨rfl,S,Q,rfl⟩⟩
 |some o=>
  show VS b I (Wn (.Name (SV E) N) (.ref<|c+4) o>>=λO=>assign (.Name (SV E) N) J o>>=λO=>pure true) _ Z _;exact VS.lC (VS.pure ⟨rfl,rfl⟩) λO=>VS.bindC (i:=2) rfl (oW H) λO=>VS.pure ⟨rfl,.inr ⟨rfl,o,S,Q,rfl⟩⟩
theorem O4(hb:b+40<=640)(TC:dP n.2.2 m.2.2)(Tx:gx m.2.2)(TH:∀H∈keysOf a,H∈names4)(nd:(keysOf a).Nodup)(U:a.length=4):∀(Tt i:Nat) (P io:S9) (co:Option va) (Z:Led),i+Tt=4->
  eY Z t n p q s u z B C->eQ Z d m v l x y A a D->((i=0/\P=ao (eF t k) 1)\/∃I L,P=ao (eF t k++[ent "seen" I L]) 2)->mu l i 4 4 io->
  SP w b (pA e j h g c) (kQ e g h c d P {cls:=.type "cell",data:=.cell co} io) Z (Bg (eF t k)<|af<|.ref<|d+4):=by
 intro Tt;induction Tt with
 |zero=>
  intro i P io co Z hi Ts O Tu V;have TF:i=a.length:=by lia
  obtain⟨I,L,rfl⟩:∃I L,P=ao (eF t k++[ent "seen" I L]) 2:=by rcases Tu with⟨E,_⟩|E;lia;exact E
  rw[TF,<-U] at V;have e4:(ab a 4)=ab a a.length:=by rw[U]
  have Y:=O.eK;rw[e4] at Y;refine SP.r4 (vv (.ref<|c+4)<|cj e j h g) (i:=λG G G=>False) (sy (G:=λr o=>r=none) zS<|(OU (e:=a.length) V Y).mono ar (λG J=>J) λr o F G E=>?_) (λN F E G=>?_) (λN F E G=>?_) λN F E=>E.elim
  ·refine cK E λTr R Tv=>?_;clear E;subst Tr;refine aw R λT R=>?_;subst R Tv;exact aY T rfl rfl rfl
  ·obtain⟨rfl,⟨_,T,_,rfl⟩|⟨E,_⟩⟩:=E
   ·exact⟨rfl,rfl,rfl,I,L,_,_,rfl⟩
   ·cases E
  ·obtain⟨rfl,⟨E,_⟩|⟨_,L,T,E,_⟩⟩:=E
   ·cases E
   ·cases E
 |succ Tt ih=>
  intro i P io co Z hi Ts O Tu V;have TG:i<a.length:=by exact z2 ‹_› (nN ‹_›)
  have e4:(ab a 4)=ab a a.length:=by rw[U]
  have Y:=O.eK;rw[e4] at Y;rw[<-U] at V;have up:∀{TB Z:Led},∀Tz∈Z,Tz∈TB++Z:=λTz J=>az J
  refine SP.r4 (vv (.ref<|c+4)<|cj e j h g) (i:=λG N F=>∃I L H M Q,N=[ao (eF t k++[ent "seen" I L]) 2,af<|.ref<|d+4,af<|.str H M,Q]/\mu l (i+1) 4 4 Q) (sy (G:=λr o=>∃H M,r=some (.str H M)/\H∈names4/\mu l (i+1) 4 4 o) zS<|(OL (e:=a.length) V Y O.kl nd TG).mono ar (λG J=>J) λr o F G E=>?_) (λN F E G=>?_) (λN F E G=>?_) (λN F E G=>?_)
  ·refine pF E λH M T TJ hx Tw S TL=>?_;clear E;subst TJ Tw TL
   rw[U] at S;exact aY T rfl rfl (dR H M rfl (TH H hx) S)
  ·obtain⟨rfl,⟨_,T,⟨H,M,E,_⟩,_⟩|⟨E,_⟩⟩:=E<;>cases E
  ·obtain⟨rfl,⟨E,_⟩|⟨_,L,Q,⟨H,M,E,hx,S⟩,rfl⟩⟩:=E
   ·cases E
   ·cases E
    show VS b _ _ (kQ e g h c d P (af<|.str H M) Q) ([]++Z) _;refine VS.app ((Hq hb (Ts.sub up) (O.sub up) TC Tx hx<|Tu.elim (λE=>.inl E.2) .inr).mono ar (λG J=>J) λf o F G E=>E) λN F E G=>hide λTM hQ=>lY E λI sl TP sn TK h1 h2=>?_;clear E;subst TK
    refine hQ<|(HR hb ((Ts.sub up).sub up) ((O.sub up).sub up) Tx hx h1 h2).mono ar (λG J=>J) λf o F G E=>a0 E λTr R=>?_;clear E;subst Tr R
    exact⟨rfl,I,_,H,M,Q,rfl,S⟩
  ·refine iS E λI L H M Q Tw S=>?_;clear E;subst Tw
   refine(ih (i+1) _ Q (some<|.str H M) (F++Z) (by lia) (Ts.sub up) (O.sub up) (.inr<|cG I L rfl) S).mono ar (λG J=>J) ?_;rintro r o TO F' ro G TA G;refine ei TA λTr R Tv E=>?_;clear TA;subst Tr R Tv
   exact⟨rfl,rfl,rfl,rfl,rfl,E⟩
end
theorem vi(b:va)(a:Zb):aS iP b a= .forLoop (.Name "who"<|bb<|match iP with| .For t _ _ _ _=>t|_=>xX) b ([eH 0,eH 1]++[.If (.Compare xH [.NotEq] [fq]<|gf<|bM<|eH 2) (gT<|eH 2).1 [] (gT<|eH 2).2]) [] a:=by kernel_rfl
section
variable{b:Nat}{g c j e t d n p l A q s m B h a:Nat}{C D:List va}{u v x y:List SS}{Z:Led}{z:Bool×List (Int×SX)×bU}{k:Bool×List (Int×SX)×b8}
abbrev pY(g c j e h:Nat):Td:=aS iP (.ref<|h+4)<|cj g c j e
theorem QU:(pY g c j e h).cUnits<=100:=by
 have:pY g c j e h=_:=vi (.ref<|h+4)<|cj g c j e;rw[this];show 3*0<=100;decide
abbrev jk(t a i:Nat)(r:va)(f:Nat)(o:va):List SS:=eF t a++[ent "seen" i r,ent "parts" f o]
def wR(t a d:Nat)(N:SX)(O:Nat)(G:S9)(Z:Led)(i:List SX)(f:W8)(J:List S9)(F:Led):Prop:=f= .next/\∃I w E M H o r L,J=[ao (jk t a I (.ref<|w+4) H<|.ref<|o+4) 3,af<|.ref<|d+4,af<|.str N O,G]/\(w+4,aa E M)∈F++Z/\ak (F++Z) E (cx ey i)/\(o+4,aa r L)∈F++Z/\ak (F++Z) r (kV i)
theorem L0(hb:b+40<=640)(I:eY Z t z n p l A C u v)(L:eQ Z d k q s m B D x y)(Tz:dP z.2.2 k.2.2)(Tx:gx k.2.2)(hx:i∈cH)(TF:(∃r Q,fr=ao (eF t a++[ent "seen" r Q]) 2)\/∃r Q P G,fr=ao (jk t a r Q P G) 3):
  VS b (pY g c j e h) (PySem.execs [eH 0,eH 1]<|cj g c j e) (kQ g e c h d fr (af<|.str i H) J) Z (wR t a d i H J Z<|k.2.2.cd i):=by
 refine hide λTR hQ=>cQ (I.ft i hx) λTA vs TK f ma ht=>?_
 rw[Tz.tb] at ht;refine cQ (L.fc i hx) λa2 Tr n2 f2 Tv TH=>hQ ?_;have Tu:=aq I.ht<|aq L.hd<|aq I.hb<|aq I.gr<|aq L.eK<|aq L.gm ax;have TG:vs.length≠0:=by rw[ht.len,aM,pG];lia
 have TC:Tr.length=(k.2.2.cd i).length:=by rw[TH.len,aM]
 have h9:=(Tx.cd i).1;have up:∀{F:Led},∀G∈Z,G∈(F++[])++Z:=λG E=>az E
 have TB:∀{N r P M:Nat} {S T:List va} {U V:Nat} {F R:Led},ak (F++Z) S (cx ey<|k.2.2.cd i)->ak (R++((F++[])++Z)) T (kV<|k.2.2.cd i)->wR t a d i H J Z (k.2.2.cd i) .next [ao (jk t a r (.ref<|N+5) P<|.ref<|M+4) 3,af<|.ref<|d+4,af<|.str i H,J] ([]++([(N+5,aa S U),(M+4,aa T V)]++(R++(F++[])))):=λ{N r P M S T U V F R} O h'=>⟨rfl,r,N+1,S,U,P,M,T,V,rfl,.head _,O.sub λG E=>.tail _<|.tail _<|wA (f:=R) (o:=F++[])<|VP R<|by rw[aP];exact E,.tail _<|.head _,h'.sub λG E=>.tail _<|.tail _<|wA E⟩
 have Tt:∀Tw∈[hI,ek 640 "table",fA,ik,ek 640 "k"],aA.Ok w 640 Tw:=aj jv<|aj (f7 ar)<|aj lN<|aj j1<|aj (f7 ar) ay;have TL:∀E∈[(e+4,af<|.ref<|d+4),(c+4,af<|.str i H)],fK E.2:=λE O=>by rcases bK O with rfl|O;exact cZ _;rcases dg O with rfl;exact cZ _
 have go:∀(r:Nat) (κ:Nat->Nat) (Y b2:Bool) (N Ts:Nat),br Y b2 w=w->w7 g c e t d l m a H r i J κ Y b2 N Ts Z b (sV<|wR t a d i H J Z<|k.2.2.cd i):=λr κ Y b2 N Ts TZ=>ah ⟨_,_,_,_,_,TA,vs,TK,rfl,I.kt,.inr ⟨rfl,I.gr⟩,f,ma,λTO zu=>ah ⟨_,_,(λE O=>nomatch O),FH (b:=640) (zd rfl) ma ht h9,TG,λT2 T5 S U o F hz TP TV=>ah ⟨_,_,_,_,_,a2,Tr,n2,rfl,L.kc,.inr ⟨rfl,up _ L.gm⟩,f2,up _ Tv,λzu zu=>⟨_,_,_,rfl,.inr ⟨rfl,up _ Tv⟩,by exact d4 ‹_› (SQ ‹_›<|zd rfl),λT3 TQ TX=>ah ⟨_,Tr.length+1,_,_,_,rfl,rfl,by lia,λTY TM TS=>ah ⟨_,_,TL,Et (b:=640) (zd rfl) (L.sub λG E=>az<|up G E) (.head _) (.tail _<|.head _) hx h9<|by rw[TC],by lia,λT1 T4 T V o2 R TJ zu TU=>ah<|aX _ rfl (TB hz TJ)⟩⟩⟩⟩⟩⟩
 rcases TF with⟨r,Q,rfl⟩|⟨r,Q,P,G,rfl⟩
 ·exact VS.execs<|Oq 640 hb (zd rfl) Tt Tu<|go _ _
 ·exact VS.execs<|Fp 640 hb (zd rfl) Tt Tu<|go _ _
theorem FT{O L r sn J w Y:Nat}(U:b+40<=640)(H:gx k.2.2)(hx:i∈cH)(Tv:(r+4,aa Tr sn)∈Z)(hs:ak Z Tr (cx ey<|k.2.2.cd i))(V:(w+4,aa R Y)∈Z)(P:ak Z R (kV<|k.2.2.cd i)):
  VS b (pY g c j e h) (PySem.execs [.If (.Compare xH [.NotEq] [fq]<|gf<|bM<|eH 2) (gT<|eH 2).1 [] (gT<|eH 2).2]<|cj g c j e) (kQ g e c h d (ao (jk t a L (.ref<|r+4) J<|.ref<|w+4) 3) (af<|.str i O) I) Z λf M F=>f= .next/\M=[ao (jk t a L (.ref<|r+4) J<|.ref<|w+4) 3,af<|.ref<|d+4,af<|.str i O,I]:=by
 have h9:=(H.cd i).1;have TA:PySem.SeqAt.shaped (.list<|cx ey<|k.2.2.cd i)=true:=(cq.lst (n:=3) λN hq=>by
  refine aI (bO hq) λTw E S=>?_;subst S
  exact Am λQ P=>(H.cd i).2 Q<|XW P).shaped<|zd rfl
 refine VS.ny (uV<|(u7 (n:=λT M F=>T= .ref (r+4)/\M=[ao (jk t a L (.ref<|r+4) J<|.ref<|w+4) 3,af<|.ref<|d+4,af<|.str i O,I]/\F=[]) (m:=λM E=>M=[ao (jk t a L (.ref<|r+4) J<|.ref<|w+4) 3,af<|.ref<|d+4,af<|.str i O,I]) (.inr rfl) QU (by exact nP ‹_› (zd rfl)) ?_ λT M F G E=>?_).mono ar (λE N=>N) λT o F E G=>G)
 ·exact VS.b5<|Nq 640 U (zd rfl) ay ax λb1 b2 Ts Tt Tu=>ah<|hO _ rfl rfl rfl rfl
 ·refine cK G λTx Tz S=>?_;clear G;subst Tx Tz S
  refine VS.b5 (K6 640 U (zd rfl) (aj (pz ar) ay) (aq V ax) λb1 b2 Ts Tt Tu=>?_);refine ah ⟨_,(λE G=>nomatch G),HM (b:=640) (zd rfl) V P h9,λoc zs Tw o F hz E E=>aX _ rfl ⟨rfl,_,TA,(Tells.lst Tv hs).sub λQ N=>az N,.lst (.head _) ?_⟩⟩;exact hz.sub λQ N=>by rw[aP];exact .tail _ N
theorem Ji(hb:b+40<=640)(TA:dP z.2.2 k.2.2)(Tu:gx k.2.2):∀(V i:Nat) (Q:S9) (co:Option va) (Z:Led),i+V=2->
  eY Z t z n p l A C u v->eQ Z d k q s m B D x y->(O+4,aa [.str "f" t1,.str "g" t2] Tv)∈Z->((i=0/\∃H I,Q=ao (eF t a++[ent "seen" H I]) 2)\/∃H I L J,Q=ao (jk t a H I L J) 3)->
  SP w b (pY g c j e h) (kQ g e c h d Q {cls:=.type "cell",data:=.cell co}<|aF O i) Z (zb (eF t a)<|af<|.ref<|d+4):=by
 intro V;induction V with
 |zero=>
  intro i Q co Z hi Tr Y U Ts;obtain⟨H,I,L,J,rfl⟩:∃H I L J,Q=ao (jk t a H I L J) 3:=by rcases Ts with⟨E,_⟩|E;lia;exact E
  refine SP.r4 (vi (.ref<|h+4)<|cj g c j e) (i:=λG G G=>False) (sy (G:=λr o=>r=none) Dh ?_) (λP F E G=>?_) (λP F E G=>?_) (λP F E=>E.elim)
  ·intro TJ TM E TL TB TC dr os hh TO hu TP hZ S Tz TK hQ
   refine aw S.d3 λn' T=>?_;subst T
   refine Va (xd hh S.size (S.own (h+4,aF O i)<|.head _) (S.keep _ _<|hZ _ U) (by show 2<=i;exact Th<|Y9 ‹_›) ?_);have e0:([(h+4,aF O i)]:Led)[0]?=some (h+4,aF O i):=rfl;have D6:=((S.update (f:=Tc (·.setIfInBounds 0 .none)) e0 rfl).alloc (o:=ag []) rfl).alloc (o:=cm n') rfl;exact hQ none [_] [] _ (n'+6) TB TC (aY _ rfl rfl rfl) rfl (D6.fp<|(Vg _ _).trans<|Vg _ _)
  ·obtain⟨rfl,⟨_,o',_,rfl⟩|⟨E,_⟩⟩:=E
   ·exact⟨rfl,rfl,rfl,H,I,L,J,_,_,rfl⟩
   ·cases E
  ·obtain⟨rfl,⟨E,_⟩|⟨_,I,o',E,_⟩⟩:=E
   ·cases E
   ·cases E
 |succ V ih=>
  intro i Q co Z hi Tr Y U Ts;have up:∀{Tx Z:Led},∀J∈Z,J∈Tx++Z:=λJ M=>az M
  obtain⟨R,N,hx,hv⟩:∃R N,R∈cH/\[va.str "f" t1,.str "g" t2][i]?=some (.str R N):=by
   rcases(by exact qO (nN ‹_›):i=0\/i=1) with rfl|rfl
   ·exact cA _ _ mY rfl
   ·exact cA _ _ oo rfl
  refine SP.r4 (vi (.ref<|h+4)<|cj g c j e) (i:=λG P F=>∃H I L J N,P=[ao (jk t a H I L J) 3,af<|.ref<|d+4,af<|.str R N,aF O<|i+1]) (sy (G:=λr o=>r=some (.str R N)/\o=aF O (i+1)) Dh<|(rx U hv).mono ar (λG M=>M) λr o F G E=>hO _ E.2.1 E.2.2 E.1 rfl) (λP F E G=>?_) (λP F E G=>?_) (λP F E G=>?_)
  ·obtain⟨rfl,⟨_,o',⟨E,_⟩,_⟩|⟨E,_⟩⟩:=E<;>cases E
  ·obtain⟨rfl,⟨E,_⟩|⟨_,I,TQ,⟨E,rfl⟩,rfl⟩⟩:=E
   ·cases E
   ·cases E
    show VS b _ _ (kQ g e c h d Q (af<|.str R N)<|aF O<|i+1) ([]++Z) _;refine VS.app ((L0 hb (Tr.sub up) (Y.sub up) TA Tu hx<|Ts.elim (λE=>.inl E.2) .inr).mono ar (λG M=>M) λf o F G E=>E) λP F E G=>hide λTz hQ=>?_
    obtain⟨H,sl,TS,sn,L,pl,TR,pn,TH,h1,h2,h3,h4⟩:=E;subst TH;refine hQ<|(FT hb Tu hx h1 h2 h3 h4).mono ar (λG M=>M) λf o F G E=>a0 E λTt T=>?_;clear E;subst Tt T
    exact⟨rfl,H,_,L,_,N,rfl⟩
  ·obtain⟨H,I,L,J,N,TG⟩:=E;subst TG
   refine(ih (i+1) _ (some<|.str R N) (F++Z) (by lia) (Tr.sub up) (Y.sub up) (up _ U)<|.inr<|jy H I L J rfl).mono ar (λG M=>M) ?_;rintro r o Tv F' ro G Tw G;refine ei Tw λTt T TF E=>?_;clear Tw;subst Tt T TF
   exact⟨rfl,rfl,rfl,rfl,rfl,E⟩
end
theorem VS.rest{k:Type}{t:VM k}{j:k->List S9->Led->Prop}(h:VS b c t L Z j):VS b c t (L++P) Z λa e F=>∃i,e=i++P.map (·.2)/\i.length=L.length/\j a i F:=by
 intro A G u N T g d C z y B hk x D Q E w;refine h A _ u N T g d C z y B (hk.le D.cV) (λp q=>D.cV _ _<|x p q) D.frame Q E λa e F s n o r v f l=>?_
 have m:=D.gu (new:=F) l;refine w a (e++P.map (·.2)) F s n o r (aY e rfl f v) (by simp[f]) ?_;rw[jt _ _ _ _ f,gz];refine m.perm ?_;simp only[aZ];exact XK _ XM
theorem H9:b4 155=[ix,iP]++[.Return (some<|.BoolOp .And [.Compare vO [.Eq] [xc]<|gf<|bh 0<|bM jA,uC]<|gf<|bM jA) (gT jA).2]:=by kernel_rfl
section
variable{b:Nat}{h e i j t d x p q z s m n A k:Nat}{c:S9}{B C:List va}{u v g y:List SS}{Z:Led}{l:Bool×List (Int×SX)×bU}{a:Bool×List (Int×SX)×b8}
theorem RD{o:List (Int×SX)}(r:∀f∈o,f.2∈names4):cq 2 (.list<|o.map item):=.lst λF D=>by
 refine aI (bO D) λf w E=>?_;subst E
 exact pe (.int 0 _) (.str<|.inl<|r f w)
theorem IS(Y:b+40<=600)(TF:bC c)(Tr:eY Z t l x p q z B u v)(D:eQ Z d a s m n A C g y)(Tu:dP l.2.2 a.2.2)(H:gx a.2.2)(TC:∀TP∈keysOf g,TP∈names4)(nd:(keysOf g).Nodup)(h4:g.length=4)(e1:l.1=a.1)(e2:l.2.1=a.2.1)(hn:∀E∈a.2.1,E.2∈names4):
  VS b (mn h e i j) (PySem.execs (b4 155)<|cj h e i j) [(23,c),(h+4,ao (eF t k) 1),(j+4,af<|.ref<|d+4),(i+4,aJ),(e+4,aJ)] Z λf r F=>f= .ret (.bool true)/\∃c O Q R S,bC c/\r=[c,O,Q,R,S]:=by
 have hc:(mn h e i j).cUnits<=100:=by show 3*1<=100;decide
 have up:∀{G Z:Led},∀E∈Z,E∈G++Z:=λE J=>az J
 rw[H9];refine VS.app (m:=λr F=>∃N fn R S,r=[c,ao (ent "told" k (.ref<|t+4)::N) fn,af<|.ref<|d+4,R,S]) (VS.execs<|GA 600 Y (zd rfl) (aj (KX ar)<|aj (Mb ar) ay) (aq D.hd<|aq D.eK ax) λb1 b2 Ts Tv Tw=>?_) λr F w I=>?_
 ·refine ah ⟨O4 (b:=600) (j:=e) (k:=k) (zd rfl) Tu H TC nd h4 4 0 _ _ none _ rfl (Tr.sub up) (D.sub up) (.inl ⟨rfl,rfl⟩) ?_,λks M R S F TB Tz=>ah ⟨Ji (b:=600) (c:=e) (a:=k) (O:=TB) (Tv:=0) (t1:=Tz+1) (t2:=Tz+2) (zd rfl) Tu H 2 0 _ none _ rfl ((Tr.sub up).sub up) ((D.sub up).sub up) ?_ (.inl ⟨rfl,ks,M,rfl⟩),λTQ v2 kp E TR TS V I I=>aY _ rfl rfl (jy _ _ _ _ rfl)⟩⟩
  ·rw[h4];exact⟨rfl,rfl⟩
  ·exact az<|bq<|.head _
 ·refine iX w λN fn R S TL=>?_;clear w;subst TL
  have U:=Tr.sub (Z':=F++Z) up;have T:=D.sub (Z':=F++Z) up;have Tx:∀{G:Led},∀E∈[(t+4,ag [.bool l.1,.ref<|x+4,.ref<|p+4,.ref<|q+4]),(d+4,ag [.bool a.1,.ref<|s+4,.ref<|m+4,.ref<|n+4]),(p+4,ab u u.length),(q+4,ab v v.length),(m+4,ab g 4),(n+4,ab y 2)],E∈G++(F++Z):=λE J=>up E<|(aq U.ht<|aq T.hd<|aq U.hb<|aq U.gr<|aq T.eK<|aq T.gm ax) E J
  have TO:PySem.SeqAt.shaped (.tuple [.bool a.1,.list<|a.2.1.map item])=true:=(pe (.bool 2 _)<|RD hn).shaped<|zd rfl;let Tt:List S9:=[c,ao (ent "told" k (.ref<|t+4)::N) fn,af<|.ref<|d+4];have TG:VS b (mn h e i j) (PySem.execs [.Return (some<|.BoolOp .And [.Compare vO [.Eq] [xc]<|gf<|bh 0<|bM jA,uC]<|gf<|bM jA) (gT jA).2]<|cj h e i j) [(23,c),(h+4,ao (ent "told" k (.ref<|t+4)::N) fn),(j+4,af<|.ref<|d+4)] (F++Z) λf r F=>f= .ret (.bool true)/\∃L O Q,bC L/\r=[L,O,Q]:=by
   refine VS.ny ((uH<|AY (p:=λr I=>r=Tt) (g:=λM r F=>M= .bool true/\∃L O Q,bC L/\r=[L,O,Q]) ((rW (n:=λM r V=>r=Tt/\Tells (V++(F++Z)) M (.tuple [.bool a.1,.list<|a.2.1.map item])) (m:=λr I=>r=Tt) (.inl rfl) hc (by exact nP ‹_› (zd rfl)) ?_ λM r V w I=>?_).mono ar (λI J=>J) λM o F I w=>w) λr V w I=>?_).mono ar (λI J=>J) λf o F I w=>?_)
   ·refine VS.b5<|Ru 600 Y (zd rfl) ay (λE J=>Tx (G:=[]) E J) λb1 b2 Ts Tv Tw=>ah (aY _ rfl rfl ?_);rw[<-e1,<-e2];exact .tup (.head _)<|.cons (.bool _)<|.cons (.lst (az U.hl)<|U.mj.sub up) .nil
   ·refine a0 w λTH hT=>?_;clear w;subst TH
    refine VS.b5 (RI 600 Y (zd rfl) ay Tx λb1 b2 Ts Tv Tw=>?_);exact ah<|aY _ rfl rfl (aY _ TO (hT.sub up)<|.tup (.head _)<|.cons (.bool _)<|.cons (.lst (az<|up _ T.hl)<|T.mj.sub λE J=>up E<|up E J) .nil)
   ·cases w
    refine VS.b5 (Fv 600 Y (zd rfl) (aj (Ac ar) ay) Tx λb1 b2 Ts Tv Tw=>?_);exact ah ⟨Kp (zd rfl) TF (U.sub up) (T.sub up) Tu H,λL F9 h9 I I=>aY _ rfl rfl ⟨L,_,_,h9,rfl⟩⟩
   ·obtain⟨M,rfl,rfl,w⟩:=w
    exact⟨rfl,w⟩
  refine(TG.rest (P:=[(i+4,R),(e+4,S)])).mono ar (λI J=>J) ?_;rintro f r V I TA;refine pL TA λo TJ I TK qs=>c0 qs λL O Q w TM=>?_;clear TA;subst TJ TK TM
  exact⟨rfl,L,O,Q,R,S,w,rfl⟩
theorem Ng(P:b+40<=560)(U:bC c)(I:eY Z t l x p q z B u v)(D:eQ Z d a s m n A C g y)(S:dP l.2.2 a.2.2)(H:gx a.2.2)(Q:∀Ts∈keysOf g,Ts∈names4)(V:(keysOf g).Nodup)(O:g.length=4)(L:l.1=a.1)(M:l.2.1=a.2.1)(R:∀Tr∈a.2.1,Tr.2∈names4):
  SP w b (.call (.ref 155) ⟨[.ref<|t+4,.ref<|d+4],[]⟩) [(23,c)] Z λr G Y F ro=>r= .ok (.ret<|.bool true)/\Y=[]/\ro=[]/\∃E,bC E/\G=[E]:=by
 refine IP 560 P (zd rfl) (aj (RR ar) ay) ax λb1 b2 N T Tt=>ah ⟨SP.func (IS (b:=560) (h:=N) (j:=N+1) (i:=N+2) (e:=N+3) (k:=T) (zd rfl) U I D S H Q V O L M R) λf G F o J=>?_,λE o0 o1 o2 o3 F o J J=>⟨rfl,rfl,rfl,E,o,rfl⟩⟩;obtain⟨rfl,o⟩:=o;exact di _ rfl rfl rfl rfl o
end
def pv(x:SX)(t i:Nat)(o:S9):Prop:=o.cls= .type "str_ascii_iterator"/\o.data= .fields #[.str x t,.int i 0]
section
variable{b:Nat}{c:Td}{Z:Led}{a i t:Nat}{x:SX}{o:S9}
theorem G6(k:pv x t i o)(w:x.cps[i]?=some f):VS b c (Wk<|.ref<|a+4) [(a+4,o)] Z λr y F=>∃C d,r=some (.str ⟨#[f]⟩<|C+1)/\y=[d]/\pv x t (i+1) d/\F=[]:=by
 intro A u h N T g l B I H L J G D Q E p;have v:=D.own (a+4,o)<|.head _;refine Va<|wpAny_pyNext_ascii_item (s:=⟨h,g,l,T+1,B⟩) (aY o v k.1 k.2) w λm n j=>dB n λd g1 g2 g3=>p _ [d] [] m N (T+1) g (pT T d rfl rfl ⟨g2,g3⟩ rfl) rfl ?_;have ne:∀q e,u.get? q=some e->q≠a+4:=λq e q1 z=>by have:=D.off (a+4,o)<|.head _;rw[<-z,q1] at this;cases this
 exact⟨j.1.trans D.size,fc g1 fz,by simp[a8],λq e q1=>(j.2 q<|ne q e q1).trans<|D.keep q e q1,fc (D.off (a+4,o)<|.head _) fz,D.big⟩
theorem Ff(d:pv x t i o)(B:x.cps[i]?=none):VS b c (Wk<|.ref<|a+4) [(a+4,o)] Z λr G F=>r=none/\(∃C,G=[C])/\F=[]:=by
 intro A O h N T g j k y P S R M D Q E v;refine aw D.d3 λn H=>?_;subst H
 have p:([(a+4,o)]:Led)[0]?=some (a+4,o):=rfl;have w:(Tc (·.setIfInBounds 0 .none) o).isFreed=false:=by
  obtain⟨I,L,J,U⟩:=o;refine a0 d λV u=>?_
  cases u;rfl
 have e:=D.own (a+4,o)<|.head _;have l:Xj ⟨h,g,j,T+1,k⟩ (.ref<|a+4) "str_ascii_iterator":=aX _ e d.1;refine Va ?_;unfold Wk;refine bA (VH (name:="__next__") l Xm
  (V1 Xm l F.entry_str_ascii_iterator_next ?_<|F.args_str_ascii_iterator_next_1 _))
 show To _ _ (field (.ref<|a+4) 0>>=_) _ _ _;refine bF e d.2 (x:=.str x t) rfl ?_;show To _ _ (field (.ref<|a+4) 1>>=_) _ _ _;refine bF e d.2 (x:=.int i 0) rfl ?_;simp only[WW,B];refine bR (bS e d.2 (by show 0<2;decide)<|bL ?_);show To _ _ (Wa:VM PySem.Fin) _ _ _;have z:(h.update (a+4) Sy).objs.size=n+4:=by rw[(show Vq (a+4) h (h.update (a+4) Sy) from VU ..).1];exact D.size
 refine ke (t:=n) (s:=⟨h.update (a+4) Sy,g,j,T+1,k⟩) y z ?_;have m:=((D.update (f:=Tc (·.setIfInBounds 0 .none)) p w).alloc (o:=ag []) rfl).alloc (o:=cm n) rfl;refine SU<|W7 (T:="StopIteration") (b:=true) (aX (cm n) ?_ rfl) XX<|Te<|v none [_] [] _ (n+6) T g ⟨rfl,aB _ rfl,rfl⟩ rfl (m.fp<|(Vg _ _).trans<|Vg _ _);have q:(((h.update (a+4) Sy).push<|ag []).objs.size)=n+5:=by rw[Wm,z]
 show((((h.update (a+4) Sy).push<|ag []).push<|cm n).get?<|n+5)=some (cm n);rw[<-q];exact VT _ rfl
theorem FK(p:∀d∈x.cps.toList,1<=d)(h9:x.cps.toList.length<=900):∀(r:List Nat) (i:Nat) (l:List va) (k:Nat) (o:S9),x.cps.toList.drop i=r->i<=x.cps.toList.length->pv x t i o->l.length=i->
  SP w b (iL S I J) [(S+4,aa l k),(I+4,o)] Z λq G E F L=>(q= .ok (.ret J)/\E=[]/\F=[]/\L=[])/\∃j z o',G=[aa (l++aC j) z,o']/\j.map (λTs=>Ts.1+1)=r:=by
 intro r;induction r with
 |nil=>
  intro i l k o n R s D;have y:x.cps[i]?=none:=by
   have:=Xh.mp n;rw[<-Array.getElem?_toList];exact YU this
  exact Eg ((Ff s y).mono ar (λm q=>q) λr o F m h=>⟨h.1,h.2.1.elim λf e=>aX f e h.2.2⟩) λf=>⟨⟨rfl,rfl,rfl,rfl⟩,[],k,f,by rw[show aC []=[] from rfl,aP],rfl⟩
 |cons d r Y=>
  intro i l k o n R s D;have u:x.cps.toList[i]?=some d:=by have:=congrArg (·[0]?) n;simpa using this
  have y:x.cps[i]?=some d:=by rw[<-Array.getElem?_toList];exact u
  have T:=(Tb.mp u).1;have U:x.cps.toList.drop (i+1)=r:=by rw[<-XZ,n];rfl
  have C:=p d<|Vf u;refine yc (P:=λv f F=>F=[]/\pv x t (i+1) f/\∃g,v= .str ⟨#[d]⟩ (g+1)) (by exact d4 ‹_› (SQ (Wz<|YA ‹_› ‹_›)<|zd rfl)) ((G6 s y).mono ar (λm q=>q) λr o F m h=>?_) λv f F h=>?_
  ·exact oM h λg f p M N O=>⟨_,f,p,M,O,N,(aB g rfl)⟩
  ·refine cK h λA Q B=>aw B λg Tt=>?_;clear h;subst A Tt
   refine(Y (i+1) (l++[.str ⟨#[d]⟩<|g+1]) (k+1) f U T Q<|by rw[Vd,D];rfl).mono ar (λm q=>q) ?_;rintro q G E F' L m H m;refine a0 H λA B=>?_;refine c0 B λj z Tr Tu V=>?_;clear H;obtain⟨rfl,rfl,rfl,rfl⟩:=A;subst Tu
   refine⟨rfl,rfl,⟨rfl,rfl,rfl,rfl⟩,(d-1,g)::j,z,Tr,?_,?_⟩
   ·have:aC ((d-1,g)::j)= .str ⟨#[d]⟩ (g+1)::aC j:=by
     show va.str ⟨#[d-1+1]⟩ (g+1)::aC j=_;rw[Wd C]
    rw[this,aZ];rfl
   ·rw[cc,V,Wd C]
theorem PN(V:∀Q∈x.cps.toList,1<=Q)(ha:x.cps.all (· <128)=true)(h9:x.cps.toList.length<=900):
  SP w b (.builtin "list.__init__" ⟨[.ref<|S+4,.str x t],[]⟩) [(S+4,aa [] 0)] Z λq G E F I=>(q= .ok (.ret .none)/\E=[]/\F=[]/\I=[])/\∃e k,G=[aa (aC e) k]/\e.map (λTu=>Tu.1+1)=x.cps.toList:=by
 refine SP.kN PySem.F.entry_list_init (by decide+kernel) λA B h Tz T g r u R hh Y hu Ts hZ D hB=>aw D.d3 λn Tw=>?_;subst Tw
 have z:=D.own (S+4,aa [] 0)<|.head _;have U:([(S+4,aa [] 0)]:Led)[0]?=some (S+4,aa [] 0):=rfl;have u0:Vr (λd=> #[]) (aa [] 0)=aa [] 0:=rfl;have l:=D.update (f:=Vr λd=> #[]) U rfl;rw[u0] at l;generalize Tr:h.update (S+4) (Vr λd=> #[])=p at l;let j:S9:={cls:=.type "str_ascii_iterator",data:=.fields #[.str x t,.int 0 0]};have y:=l.alloc (o:=j) rfl;have go:∀(m:Vm) (k:Nat),Rep B m ([(S+4,aa [] k)]++[(n+4,j)]) (n+5)->Yb (Vy Pw w) A (iL S n .none) R ⟨m,g,r,T+1,u⟩:=λm k J=>by
  refine FK (b:=b) (t:=t) (Z:=Z) V h9 x.cps.toList 0 [] k j rfl (Vc _) ⟨rfl,rfl⟩ rfl A B m _ T g r u hh Y hu Ts hZ J R ?_;rintro q G E F I s M T2 g2 H hl TB L;refine a0 H λTv qs=>c0 qs λe C o' Tx hz=>?_;clear H;obtain⟨rfl,rfl,rfl,rfl⟩:=Tv;subst Tx
  refine hB _ [aa (aC e) C] [] [] [] s M T2 g2 ⟨⟨rfl,rfl,rfl,rfl⟩,e,C,rfl,hz⟩ rfl (λd q=>nomatch q)<|L.fp ?_;rw[aP,aP,aP,aP];exact X9.cons_cons _<|YZ _
 show To _ A.in1 (Wj (.ref<|S+4)>>=λTt=>Wt (.ref<|S+4) (λd=> #[])>>=λd=>letGo Tt.toList.reverse>>=λd=>Wc (.ref<|S+4) (.str x t) .none) _ _ _;refine SU ?_;unfold Wj;refine bI z rfl (Te ?_);show To _ _ (Y4 (S+4) (λd=> #[])>>=λd=>letGo (#[]:Array va).toList.reverse>>=λd=>Wc (.ref<|S+4) (.str x t) .none) _ _ _;refine SU<|WE z rfl ?_;rw[Tr];refine bL ?_;unfold Wc;refine SU<|Zu (T:="str") (v:=.str x t) rfl ?_;have N:Z7 (.ref<|S+4) (.str x t)=false:=rfl;have O:(SW "str"==SW "list")=false:=by decide
 have P:(SW "str"==SW "tuple")=false:=by decide
 simp only[N,O,P,Bool.or_false,W9,if_false];refine SU<|wpAny_pyIter_ascii ha ?_;show To _ _ (X8 [.ref p.objs.size] (XS<|.str x t)>>=_) _ _ ⟨p.push j,g,r,T+1,u⟩;rw[show p.objs.size=n+4 from l.size];generalize TA:p.push j=s at y;refine bH ?_;unfold XS;refine SU (wpAny_specialOf (T:="str") (v:=.str x t) rfl PySem.F.str_len ?_)
 wp_delta
 refine SU (W7 (T:="str") (v:=.str x t) (b:=true) rfl (by rw[isSubtype_type];kernel_rfl) ?_);show To _ A.in1 (typeOf (va.str x t)>>=_) _ _ _;refine SU<|Zu (T:="str") (v:=.str x t) rfl (Te ?_);exact wN (by decide)<|Te ⟨Yt PySem.F.plain_extend_loop _,go s 0 y⟩
end
inductive xM(c:Td)(sub:Led)(k:List (Nat×Nat)->Nat->Prop):Prop
 |mk (S t) (x:SX) (h0:c= .builtin "list.__init__" ⟨[.ref<|S+4,.str x t],[]⟩) (h1:sub=[(S+4,aa [] 0)]) (h2:∀a∈x.cps.toList,1<=a) (h3:x.cps.all (· <128)=true) (h4:x.cps.toList.length<=900) (h5:∀aN n,aN.map (λp=>p.1+1)=x.cps.toList->k aN n):xM c sub k
def yZ:aA:=λc sub Z a=>xM c sub λb n=>a 0 (H7 .none) [aa (aC b) n] [] [] []
theorem Si:yZ.Ok w b:=by
 rintro c sub Z n ⟨S,t,x,rfl,rfl,f,g,h,H⟩;refine(PN f g h).mono ar (λd q=>q) ?_;rintro q p o F r d a d;refine a0 a λj m=>cw m λe k l i=>?_;clear a;obtain⟨rfl,rfl,rfl,rfl⟩:=j;subst l
 exact aB 0<|H e k i
noncomputable def ki(T:Nat):Nat->Nat:=λi=>[T,T+1,T+2,T+7,T+7,T+28,T+30,T+33,T+31,T+35,T+13,T+11,T+15,T+18,T+16,T+20,T+23].getD i 0
noncomputable def R5(M:Nat):Nat->Nat:=λi=>[M+1,M+2,M+3,M+4,M+5].getD i 0
def cz(N M T:Nat):aE:={rd:=M+13,src:=M+9,d1:=M+12,d2:=M+8,fn:=M+7,co:=M+6,cl:=N+1,pb:=M+15,i7:=M+11,lf:=N+2,ct:=M,tk:=ki T,x:=R5 M}
theorem SP.shown{L Z:Led}(h:SP w b c L Z j)(z:∀r a e F i,a.length=L.length->j r a e F i->∃f,(∀p∈f,p∈F++Z)/\k r a e F f):SP w b c L Z k:=by
 intro A C t N T g d I G E H hk y D R B;refine h A C t N T g d I G E H hk y D R ?_;intro r a e F i v o q s n l J m;exact aI (z r a e F i l n) λf u x=>B r a e F f v o q s x l u m
def Mi(N:Nat)(R:aU)(c:List (Nat×Nat))(d a b:Nat):Prop:=
  ae [2,4,2,2,5,5,3,2,5,3,1,5,3,1,5,3,4,5,3,1,2,5,5,3,2,5,3,1,5,3,1,5,3] [N+1,102,N,a+9,a+10,a+9,a+8,a+10,a+9,a+8,a+10,a+9,a+8,a+10,a+9,a+8,N,a+9,a+8,N,a+13,a+14,a+13,a+12,a+14,a+13,a+12,a+14,a+13,a+12,a+14,a+13,a+12] (R (H7<|.ref<|a+17) [We ⟨[.int 119 0,.int 4 0,.ref<|a+10]⟩] [(a+16,e9 (ki b) (a+9) (a+15) 1<|b+26),(N+6,aa (aC c) d),(a+19,aa [] 0)] (bp<|cz N a b) [])
def MG(u:Nat)(x:SX):Q7:=λf g N T Z b R=>
  ae [3] [N] (∀(_:XT) (_:List (Td×XT)),ae [3] [N+2]<|xM (VQ "list.__init__"<|Yd [.ref<|N+6,.str x<|u+1] []) [(N+6,aa [] 0)] (λd e=>∀a c:Nat,Mi N R d e a c))
theorem Hl:CK w [(106,We ⟨[]⟩)] [] [yZ] (Vh (.ref 111) ⟨[.str x<|u+1],[]⟩) (MG u x):=aV 334 331 0x5016c65dd29138193bac2feab949c513510d3c23b0cd4d835c9b7d844e27b7db0abbe856207f89e545b3d860382991be0ba6a344acfd12fb6ca04379fd48f026a175ca730629a748c9eb64ad1b5819a77ab786b3a8c3bb875a575bc5f51f248121265d4bf01dea8af48253af2e15251de9a48f9b0d9dd3746d10a12473e6d236667ba39ce8416f16ee637d29729ae28590130caeeb0a4eee937ffeea6f36c78b5e520e03112462bb8f087533aaf25febeced73e92eda48a4d9c5984c25d7948f642e171ee15a1319c2fa41918f5dd1163e43e1a5e296c151633d28b77c3e509e059eb3f02da103b8203289750a815b61c5e7802cc3c7dcdb889d0e95878dd8211aec039918a29df22fb22646e2a855a32ff48e664a763fb0f9e1f1157fdc32ab35b63cf3098b43bf114b39c16c3d3044e6eebcf15656b2be68d11a75b929b42d9c357603e58c3aba6110d8a666ab68315e4cd8298f4bc5d9996cf
inductive xA(c:Td)(sub:Led)(k:SX->Nat->List (Nat×Nat)->Nat->Nat->Nat->Prop):Prop
 |mk (u) (x:SX) (h0:c= .call (.ref 111) ⟨[.str x<|u+1],[]⟩) (h1:sub=[(106,We ⟨[]⟩)]) (h2:∀a∈x.cps.toList,1<=a) (h3:x.cps.all (· <128)=true) (h4:x.cps.toList.length<=900) (h5:∀N aN n M T,aN.map (λp=>p.1+1)=x.cps.toList->k x N aN n M T):xA c sub k
def A3:aA:=λc sub Z a=>xA c sub λx D b n M U=>a 0 (H7<|.ref<|M+17) [We ⟨[.int 119 0,.int 4 0,.ref<|M+10]⟩] [(M+16,e9 (ki U) (M+9) (M+15) 1<|U+26),(D+6,aa (aC b) n),(M+19,aa [] 0)] (bp<|cz D M U)<|bp<|cz D M U
theorem ON(m:b+40<=960):A3.Ok w b:=by
 rintro c sub Z C ⟨u,x,rfl,rfl,j,k,l,H⟩;have z:SP w b (.call (.ref 111) ⟨[.str x<|u+1],[]⟩) [(106,We ⟨[]⟩)] Z λr o f F h=>h=[]/\∃N a n M T,a.map (λp=>p.1+1)=x.cps.toList/\r= .ok (.ret<|.ref<|M+17)/\o=[We ⟨[.int 119 0,.int 4 0,.ref<|M+10]⟩]/\f=[(M+16,e9 (ki T) (M+9) (M+15) 1<|T+26),(N+6,aa (aC a) n),(M+19,aa [] 0)]/\F=bp (cz N M T):=by
  exact Hl 960 m (zd rfl) (aj Si ay) ax λD E N T e=>ah λi i=>ah ⟨_,_,x,rfl,rfl,j,k,l,λa n d M T=>ah ⟨rfl,N,a,n,M,T,d,rfl,rfl,rfl,rfl⟩⟩
 refine z.shown ?_;rintro r o f F h i g;refine a0 g λs B=>zw B λN a n M T d v y A t=>?_;clear g;subst s v y A t
 exact aX (bp<|cz N M T) (λp q=>bq q)<|aB 0<|H N a n M T d
def g8(o:S9):Prop:=∃a,o=We a
inductive wb(objs:List S9):Prop
 |mk (a b c d e f g h i j k l m) (ha:g8 a) (hb:g8 b) (hl:objs=[a,b,c,d,e,f,g,h,i,j,k,l,m])
inductive xt(b0:Nat)(c:Td)(sub Z:Led)(v:va)(k:S9->S9->S9->S9->S9->S9->S9->S9->S9->S9->S9->S9->S9->Led->Prop):Prop
 |mk (h0:SP w b0 c sub Z λr objs new F ro=>r= .ok (.ret v)/\new=[]/\ro=[]/\wb objs) (h1:∀a b c d e f g h i j p l m F,g8 a->g8 b->k a b c d e f g h i j p l m F):xt b0 c sub Z v k
def Ce(n:Nat)(v:va):aA:=λc sub Z k=>xt n c sub Z v λa b c d e f g h i j p l m F=>k 0 (H7 v) [a,b,c,d,e,f,g,h,i,j,p,l,m] [] F []
theorem RA(n:b<=o):(Ce o v).Ok w b:=by
 rintro c sub Z s ⟨h,H⟩;refine h.mono n (λk q=>q) ?_;rintro k k k F k k ⟨rfl,rfl,rfl,a,b,c,d,e,f,g,h,i,j,p,l,m,r,n,rfl⟩ k;exact⟨0,H a b c d e f g h i j p l m F r n⟩
abbrev bx(k:Nat):Wq:=bJ (b4 177) k
abbrev eZ(f:Nat):Zb:=dC 177 (f+4) [("told",f+14),("needs",f+13),("costs",f+12),("whos",f+11),("shares",f+10),("total",f+9),("rows",f+8),("sums",f+7),("names",f+6),("cells",f+5)]
abbrev fu(f:Nat):Td:=.func (b4 177)<|eZ f
abbrev a5(k:Nat):Expr:=bM<|bx k
abbrev g9:Expr:=bh 0<|a6<|a5 9
abbrev dp:Expr:=bh 0<|a6<|a5 17
abbrev sW:Expr:=a5 18
abbrev dv:Expr:=bh 0<|bh 0 sW
abbrev yj:Expr:=bh 1<|bh 0 sW
abbrev xY:Expr:=bh 0<|bh 1 sW
abbrev DC:Expr:=bh 1<|bh 1 sW
inductive vl(b0:Nat)(c:Td)(sub Z:Led)(k:SX->Nat->Led->Prop):Prop
 |mk (s) (h0:SP w b0 c sub Z λr objs new F ro=>∃t,r= .ok (.ret<|.str s<|t+1)/\objs=sub.map (·.2)/\new=[]/\ro=[]) (h1:∀t F,k s t F):vl b0 c sub Z k
def AZ(b:Nat):aA:=λc sub Z a=>vl b c sub Z λs t F=>a 0 (H7<|.str s<|t+1) (sub.map (·.2)) [] F []
theorem Ld(f:b<=a):(AZ a).Ok w b:=by
 rintro c sub Z m ⟨i,h,H⟩;refine h.mono f (λe q=>q) ?_;rintro r o n F p e d e;refine pL d λt g j k l=>?_;clear d;subst g j k l
 exact⟨0,H t F⟩
def Fb(f s F:Nat)(M tr:S9):Q7:=λb1 b2 N T Z Tu R=>ae [1,4] [f,s]<|fQ 720 (bi "list.__getitem__" [.ref<|s+4,.ref<|N+4]) [] ([(N+4,av "slice" [.none,.int 63<|T+1,.none])]++Z) (λn TQ Tv d=>∀m g:Nat,ae [2,2,7] [f+1,f+2,m+1]<|fY (bi "range.__iter__" [.ref<|m+5]) [(m+5,av "range" [.int 0<|g+6,.int 3<|g+5,.int 1<|g+7])] (λI y=>∀a Tt:Nat,ae [2] [y]<|fm 720 (S0 (a5 2) 0 (.ref<|y+4) (.ref<|a+4)<|au 177 (f+4) (a+5) (aQ (a5 2) ["cells"]) [("cells",f+5)]) [(a+5,ab [] 0),(a+4,aa [] 0),(y+4,aK (0:Int) ((SR I):Int)),(f+5,af<|.ref<|n+4)] ((d++[(N+4,av "slice" [.none,.int 63<|T+1,.none])])++Z) "k" (λTK TP j i TF h=>∀t v:Nat,ae [3,2,7] [a+1,f+3,t]<|fY (bi "range.__iter__" [.ref<|t+4]) [(t+4,av "range" [.int 0<|v+2,.int 3<|v+1,.int 1<|v+3])] (λG w=>∀b U:Nat,ae [2] [w]<|fm 720 (S0 (a5 3) 0 (.ref<|w+4) (.ref<|b+4)<|au 177 (f+4) (b+5) (aQ (a5 3) ["sums"]) [("sums",f+7)]) [(b+5,ab [] 0),(b+4,aa [] 0),(w+4,aK (0:Int) ((SR G):Int)),(f+7,af<|.ref<|a+4)] (([(a+4,aa j i)]++(h++(d++[(N+4,av "slice" [.none,.int 63<|T+1,.none])])))++Z) "k" (λTG TL p o Tx k=>∀l D:Nat,ae [3,2,1,3,1] [b+1,f+4,f+1,n,l]<|gn (bi "sum.loop" [.ref<|l+4,.ref<|l+5,.int 0 0,.int 0 0]) [(l+4,av "list_iterator" [.ref<|n+4,.int 0 0]),(l+5,aa [.int 0<|D+1] 0)] ((k++([(a+4,aa j i)]++(h++(d++[(N+4,av "slice" [.none,.int 63<|T+1,.none])]))))++Z) (λA B Tz TB=>∀Q V:Nat,ae [2,1,1] [f+5,f+4,f+5]<|fQ 720 (cp 165 [.ref<|b+4,.int A<|B+1]) [] (([(b+4,aa p o)]++(k++([(a+4,aa j i)]++(h++(d++[(N+4,av "slice" [.none,.int 63<|T+1,.none])])))))++Z) (λE TR Tw q=>∀c Y:Nat,ae [2,1,3,2] [f+6,f+4,b,c]<|fm 720 (S0 (a5 6) 0 (.ref<|c+4) (.ref<|c+5)<|au 177 (f+4) (c+6) (aW<|a5 6) []) [(c+6,ab [] 0),(c+5,aa [] 0),(c+4,av "list_iterator" [.ref<|b+4,.int 0 0])] ((q++([(b+4,aa p o)]++(k++([(a+4,aa j i)]++(h++(d++[(N+4,av "slice" [.none,.int 63<|T+1,.none])]))))))++Z) "row" (λTH TM O J TA z=>∀r u:Nat,ae [3,2,7] [c+2,f+7,r]<|fY (bi "range.__iter__" [.ref<|r+4]) [(r+4,av "range" [.int 0<|u+2,.int 3<|u+1,.int 1<|u+3])] (λH x=>∀e Tr:Nat,ae [2] [x]<|fm 720 (S0 (a5 7) 0 (.ref<|x+4) (.ref<|e+4)<|au 177 (f+4) (e+5) (aQ (a5 7) ["sums"]) [("sums",f+7)]) [(e+5,ab [] 0),(e+4,aa [] 0),(x+4,aK (0:Int) ((SR H):Int)),(f+7,af<|.ref<|a+4)] ((z++(q++([(b+4,aa p o)]++(k++([(a+4,aa j i)]++(h++(d++[(N+4,av "slice" [.none,.int 63<|T+1,.none])])))))))++Z) "k" (λTJ TO P L TC C=>∀S Ts:Nat,ae [3,2] [e+1,f+8]<|R (.ok .next) [M,tr,ao [ent "script" F<|.ref<|s+4] 1,af<|.ref<|n+4,af<|.ref<|m+4,af<|.ref<|a+4,af<|.ref<|b+4,af<|.int A<|B+1,af<|.ref<|E+4,af<|.ref<|c+5,af<|.ref<|e+4,aJ,aJ] [] ([(m+4,aa [.str "a"<|g+1,.str "b c"<|g+2,.str ""<|g+3,.str "\"q"<|g+4] 0),(c+5,aa O J),(e+4,aa P L)]++(C++(z++(q++([(b+4,aa p o)]++(k++([(a+4,aa j i)]++(h++(d++[(N+4,av "slice" [.none,.int 63<|T+1,.none])]))))))))) []))))))))))
theorem Sq:a9 w [(23,b),(106,tr),(f+4,ao [ent "script" a<|.ref<|s+4] 1),(f+5,aJ),(f+6,aJ),(f+7,aJ),(f+8,aJ),(f+9,aJ),(f+10,aJ),(f+11,aJ),(f+12,aJ),(f+13,aJ),(f+14,aJ)] [(s+4,aa c n)] [fM 720,ik,ek 720 "k",ek 720 "k",jG,fM 720,ek 720 "row",ek 720 "k",eR] (fu f) (gw [bx 0,bx 1,bx 2,bx 3,bx 4,bx 5,bx 6,bx 7]<|eZ f) (Fb f s a b tr):=ba 496 179 0x3237a1b6df60b561c3b407da4f0fdbe9089be6bca82ae7e04beb3fa256344bd6856ccb93d11cdc5159923d527897eb0434b90648191d593359128e5aecc875e27a318b343511e5a8ea26312bf41255a6d44dcda5366288a5cea21c1f2a10635b8baf2e0c64da7d033ce323d3c1fb7f04cbf0956701900bf8f167296725c4a131d22cab551a7c55ebe3df91896894f9a5f28b8427c5f90c7cca6b8f4e47720299c41cada2ad95fc70d45589b96ff463c8e1a60dcb6c6220cc52daa6f7a4202e93d3a943167365e7
def NV(h t f l u:Nat)(j:Nat):Q7:=λn o N T Z b R=>ae [1,1,4] [f,h,l]<|fQ 960 (bi "list.__getitem__" [.ref<|l+4,.ref<|N+4]) [] ([(N+4,av "slice" [.int (SR j)<|u+1,.none,.int 3<|T+1])]++Z) (λd s p c=>∀a e:Nat,ae [3,1] [d,a]<|gn (bi "sum.loop" [.ref<|a+4,.ref<|a+5,.int 0 0,.int 0 0]) [(a+4,av "list_iterator" [.ref<|d+4,.int 0 0]),(a+5,aa [.int 0<|e+1] 0)] ((c++[(N+4,av "slice" [.int (SR j)<|u+1,.none,.int 3<|T+1])])++Z) (λg i q r=>∀k m:Nat,R (H7<|.int g<|i+1) [ab [ent "k" t<|.int (SR j)<|u+1] 1] [] (c++[(N+4,av "slice" [.int (SR j)<|u+1,.none,.int 3<|T+1])]) []))
theorem P1:a9 w [(b+4,ab [ent "k" t<|.int (SR j)<|u+1] 1)] [(a+4,af<|.ref<|l+4),(l+4,aa g n)] [fM 960,jG] (S0 e 0 f d<|au 177 c (b+4) (aQ (a5 2) ["cells"]) [("cells",a+4)]) (bN (a6<|a5 2)<|au 177 c (b+4) (aQ (a5 2) ["cells"]) [("cells",a+4)]) (NV b t a l u j):=ba 12 30 0x3a3327b01ec46ebac9a9d68e9
def Jt(a t d l u:Nat)(j:Nat):Q7:=λk m N T Z b R=>ae [1,4] [a,N]<|iJ (bi "list.__getitem__" [.ref<|N+4,.int (SR j)<|u+1]) [(N+4,aa [.int 11<|T+1,.int 22<|T+2,.int 14<|T+3] 0)] Z (λe n=>∀g i:Nat,ae [1,1,4] [d,a,l]<|iJ (bi "list.__getitem__" [.ref<|l+4,.int (SR j)<|u+1]) [] Z (λf o=>∀h c:Nat,R (H7<|.int (e+f)<|c+1) [ab [ent "k" t<|.int (SR j)<|u+1] 1] [] [] []))
theorem GY:a9 w [(b+4,ab [ent "k" t<|.int (SR j)<|u+1] 1)] [(a+4,af<|.ref<|l+4),(l+4,aa g n)] [jO] (S0 e 0 f d<|au 177 c (b+4) (aQ (a5 3) ["sums"]) [("sums",a+4)]) (bN (a6<|a5 3)<|au 177 c (b+4) (aQ (a5 3) ["sums"]) [("sums",a+4)]) (Jt b t a l u j):=ba 6 25 0x108443e60b109
def Mq(a t d l u:Nat)(j:Nat):Q7:=λi k N T Z b R=>ae [1] [a]<|ee 960 (bi "int.__mul__" [.int 7<|T+2,.int (SR j)<|u+1]) [] Z (λe n=>∀h T7:Nat,ae [1,1,4] [d,a,l]<|iJ (bi "list.__getitem__" [.ref<|l+4,.int (SR j)<|u+1]) [] Z (λf m=>∀g c:Nat,R (H7<|.int ((3+e)+f)<|c+1) [ab [ent "k" t<|.int (SR j)<|u+1] 1] [] [] []))
theorem EP:a9 w [(b+4,ab [ent "k" t<|.int (SR j)<|u+1] 1)] [(a+4,af<|.ref<|l+4),(l+4,aa g n)] [jO,gD 960] (S0 e 0 f d<|au 177 c (b+4) (aQ (a5 7) ["sums"]) [("sums",a+4)]) (bN (a6<|a5 7)<|au 177 c (b+4) (aQ (a5 7) ["sums"]) [("sums",a+4)]) (Mq b t a l u j):=ba 6 21 0x343367d721
def Jj(a t u:Nat)(x:Int):Q7:=λg h N T Z b R=>ae [1] [a]<|kM 960 (bi "str.__getitem__" [.str "fg"<|T+1,.int (Yu.1 (W.Z.divQ x (16:Int)) (2:Int))<|T+5]) [] Z (λc d=>∀e f:Nat,R (H7<|.str c<|d+1) [ab [ent "row" t<|.int x<|u+1] 1] [] [] [])
theorem L6:a9 w [(a+4,ab [ent "row" t<|.int x<|u+1] 1)] [] [iM 960] (S0 d 0 e c<|au 177 b (a+4) (aW<|a5 6) []) (bN (a6<|a5 6)<|au 177 b (a+4) (aW<|a5 6) []) (Jj a t u x):=ba 3 11 0x5b3
def El(h u j d k rw:Nat):Q7:=λo p N T Z b R=>ae [1,3,2] [k,rw,N]<|fm 880 (S0 g9 0 (.ref<|N+4) (.ref<|N+5)<|au 177 (h) (N+6) (aQ g9 ["k"]) [("k",d+4)]) [(N+6,ab [] 0),(N+5,aa [] 0),(N+4,av "list_iterator" [.ref<|rw+4,.int 0 0]),(d+4,af<|.int (SR j)<|u+1)] Z "row" (λt v f e r c=>∀a g:Nat,ae [3,3,1] [N+2,N+1,a]<|gn (bi "sum.loop" [.ref<|a+4,.ref<|a+5,.int 0 0,.int 0 0]) [(a+4,av "list_iterator" [.ref<|N+5,.int 0 0]),(a+5,aa [.int 0<|g+1] 0)] (([(N+5,aa f e)]++(c++[]))++Z) (λi l q s=>∀m n:Nat,R (H7<|.int i<|l+1) [af<|.int (SR j)<|u+1] [] ([(N+5,aa f e)]++(c++[])) []))
theorem KU:a9 w [(a+4,af<|.int (SR j)<|u+1)] [(b+4,af<|.ref<|rw+4),(rw+4,aa i h)] [ek 880 "row",jG] (S0 f 0 g e<|au 177 c (d+4) (aQ (a5 9) ["rows"]) [("k",a+4),("rows",b+4)]) (bN (a6<|a5 9)<|au 177 c (d+4) (aQ (a5 9) ["rows"]) [("k",a+4),("rows",b+4)]) (El c u j a b rw):=ba 14 39 0x8d67e4f5732d499e5e0dde97feaafbad8b9
def Ma(f t u j d e:Nat)(x:Int):Q7:=λm n N T Z b R=>ae [1,1] [f,d]<|ee 960 (bi "int.__rshift__" [.int x<|u+1,.int (SR j)<|e+1]) [] Z (λc h=>∀k T7:Nat,ee 960 (bi "int.__and__" [.int c<|h+1,.int 1<|T7+1]) [] Z (λa g=>∀i l:Nat,R (H7<|.int a<|g+1) [ab [ent "row" t<|.int x<|u+1] 1] [] [] []))
theorem NI:a9 w [(b+4,ab [ent "row" t<|.int x<|u+1] 1)] [(a+4,af<|.int (SR j)<|d+1)] [gD 960] (S0 f 0 g e<|au 177 c (b+4) (aQ g9 ["k"]) [("k",a+4)]) (bN (a6 g9)<|au 177 c (b+4) (aQ g9 ["k"]) [("k",a+4)]) (Ma b t u j a d x):=ba 3 12 0x1153
def Sv(c t u j f k i d e:Nat)(g:Int):Q7:=λr s N T Z b R=>ae [1,1,1,4] [k,c,f,d]<|iJ (bi "list.__getitem__" [.ref<|d+4,.int (Yu.1 (SR j+W.Z.divQ g (36:Int)) (4:Int))<|T+5]) [] Z (λo m=>∀p h:Nat,ae [1,1,1,4] [i,c,f,e]<|kM 960 (bi "list.__getitem__" [.ref<|e+4,.int (Yu.1 (SR j+W.Z.divQ g (36:Int)) (4:Int))<|h+5]) [] Z (λl n=>∀a q:Nat,R (H7<|.ref<|a+4) [ab [ent "k" t<|.int (SR j)<|u+1] 1] [(a+4,ag [.int o<|m+1,.str l<|n+1])] [] []))
theorem RY:a9 w [(a+4,ab [ent "k" t<|.int (SR j)<|u+1] 1)] [(d+4,af<|.int h<|q+1),(c+4,af<|.ref<|e+4),(b+4,af<|.ref<|f+4),(e+4,aa n p),(f+4,aa o m)] [iM 960,jO] (S0 k 0 l i<|au 177 g (a+4) (aQ (a5 10) ["needs","total","names"]) [("total",d+4),("needs",c+4),("names",b+4)]) (bN (a6<|a5 10)<|au 177 g (a+4) (aQ (a5 10) ["needs","total","names"]) [("total",d+4),("needs",c+4),("names",b+4)]) (Sv a t u j d c b e f h):=ba 15 37 0x1abe9e8a3189560b4965cf16e5e49b76e382
def Hn(f w x rw h i co u A B C G H I k l m:Nat)(F i0 q s n o p:Int)(J L M:SX)(E tr y z:S9)(D:va):Q7:=λO P N T Z b R=>ae [10,11,2,1,1,5,1,1,5,1,1,1,5,1,1,5] [N,N+1,N+3,f+6,N+3,h,f+7,N+3,i,N+3,f+8,N+3,co,f+8,N+3,co]<|ee 960 (bi "int.__mul__" [.int 2<|T+9,.int n<|k+1]) [] Z (λr Q=>∀c e:Nat,ae [1,4,9,2,1,1,5,1,1,5,1,1,1,5,1,1,5] [N+3,N+2,N+1,N+3,f+6,N+3,h,f+7,N+3,i,N+3,f+8,N+3,co,f+8,N+3,co]<|ee 960 (bi "int.__mul__" [.int 2<|e+7,.int o<|l+1]) [] Z (λt S=>∀d g:Nat,ae [1,4,9,2,1,1,5,1,1,5,1,1,1,5,1,1,5] [N+3,N+2,N+1,N+3,f+6,N+3,h,f+7,N+3,i,N+3,f+8,N+3,co,f+8,N+3,co]<|ee 960 (bi "int.__mul__" [.int 2<|g+7,.int p<|m+1]) [] Z (λv U=>∀a j:Nat,ae [1,4,5,1,2,3] [N+3,N+2,N+1,a+3,f,N+3]<|R (.ok .next) [E,tr,ao [ent "script" w D,ent "calls" (j+1)<|.ref<|N+6] 2,y,af<|.ref<|x+4,z,af<|.ref<|rw+4,af<|.int F<|u+1,af<|.ref<|h+4,af<|.ref<|i+4,af<|.ref<|co+4,aJ,aJ] [] [(N+6,aa [.ref<|c+5,.ref<|d+5,.ref<|a+5] 3),(c+5,ag [.int i0<|A+1,.str J<|G+1,.ref<|c+4]),(d+5,ag [.int q<|B+1,.str L<|H+1,.ref<|d+4]),(a+5,ag [.int s<|C+1,.str M<|I+1,.ref<|a+4]),(c+4,ag [.int (Yu.1 (0:Int) (2:Int))<|T+7,.int 1<|T+8,.int n<|k+1,.int (r+0)<|e+1]),(d+4,ag [.int (Yu.1 ((0:Int)+(1:Int)) (2:Int))<|e+5,.int 1<|e+6,.int o<|l+1,.int (t+1)<|g+1]),(a+4,ag [.int (Yu.1 ((0:Int)+(1:Int)+(1:Int)) (2:Int))<|g+5,.int 1<|g+6,.int p<|m+1,.int (v+2)<|j+1])] [])))
theorem Pr:a9 w [(23,v),(106,tr),(f+4,ao [ent "script" m t] 1),(f+5,o),(f+6,af<|.ref<|n+4),(f+7,p),(f+8,af<|.ref<|rw+4),(f+9,af<|.int x<|u+1),(f+10,af<|.ref<|a+4),(f+11,af<|.ref<|b+4),(f+12,af<|.ref<|co+4),(f+13,aJ),(f+14,aJ)] [(a+4,aa [.int g<|q+1,.int h<|r+1,.int i<|s+1] F),(b+4,aa [.str B<|y+1,.str C<|z+1,.str D<|A+1] G),(co+4,aa [.int j<|c+1,.int k<|d+1,.int l<|e+1] E)] [gD 960] (fu f) (gw [bx 8]<|eZ f) (Hn f m n rw a b co u q r s y z A c d e x g h i j k l B C D v tr o p t):=ba 74 244 0x88f9d5e8b1824a6216233e5ccf67d14e9f81e672f7196b2448698f741561c1b5e828c69d18d3b10a3d5437edb800ff511d94dec4c1e183c6f01b5de067ec3fa3693344d48245c594d430984283a20c4b4a3065b623fa4e887599b98a74260baedcbf214de9932efd52048ca7b804f62c1eb133bde88b2049a6fd5f8909254c82de3106a4cce918398324094b390efa426ae521aaac337c7f35d85647229e180186aec0592667e9aaa65527f23d08b98a22f923cef4c322bc5e23a2e09
def Iy(f v w t o rw u:Nat)(F:va)(k:Int)(H tr C D z A B:S9):Q7:=λO P N T Z b R=>ae [7] [N]<|fY (bi "range.__iter__" [.ref<|N+4]) [(N+4,av "range" [.int 0<|T+2,.int 4<|T+1,.int 1<|T+3])] (λx h=>∀a L:Nat,ae [2] [h]<|kk 720 (S0 (a5 9) 0 (.ref<|h+4) (.ref<|a+4)<|au 177 (f+4) (a+5) (aQ (a5 9) ["rows"]) [("k",a+6),("rows",f+8)]) [(a+6,aJ),(a+4,aa [] 0),(h+4,aK (0:Int) ((SR x):Int)),(f+8,af<|.ref<|rw+4)] Z (λU l j Q d=>∀e g:Nat,ae [2,7] [f+9,e]<|fY (bi "range.__iter__" [.ref<|e+4]) [(e+4,av "range" [.int 0<|g+2,.int 4<|g+1,.int 1<|g+3])] (λy i=>∀c M:Nat,ae [2] [i]<|fm 720 (S0 (a5 10) 0 (.ref<|i+4) (.ref<|c+4)<|au 177 (f+4) (c+5) (aQ (a5 10) ["needs","total","names"]) [("total",f+9),("needs",f+13),("names",f+6)]) [(c+5,ab [] 0),(c+4,aa [] 0),(i+4,aK (0:Int) ((SR y):Int)),(f+13,af<|.ref<|a+4),(f+9,af<|.int k<|u+1),(f+6,af<|.ref<|o+4)] (([(a+4,aa l j)]++(d++[]))++Z) "k" (λV Y p n S m=>∀J s:Nat,ae [2,3,1,1] [f,c+1,f,f+5]<|vl 720 (cp 172 [.ref<|c+4,.int k<|u+1]) [] (([(c+4,aa p n)]++(m++([(a+4,aa l j)]++(d++[]))))++Z) (λE G q=>∀I r:Nat,ae [2] [f]<|R (.ok .next) [H,tr,ao [ent "script" v F,ent "calls" w<|.ref<|t+4,ent "line" s<|.ref<|c+4,ent "text" r<|.str E<|G+1] 4,C,af<|.ref<|o+4,D,af<|.ref<|rw+4,af<|.int k<|u+1,z,A,B,af<|.ref<|a+4,aJ] [] (q++([(c+4,aa p n)]++(m++([(a+4,aa l j)]++(d++[]))))) [])))))
theorem M5:a9 w [(23,l),(106,tr),(f+4,ao [ent "script" c k,ent "calls" d<|.ref<|b+4] 2),(f+5,i),(f+6,af<|.ref<|a+4),(f+7,j),(f+8,af<|.ref<|rw+4),(f+9,af<|.int m<|u+1),(f+10,e),(f+11,g),(f+12,h),(f+13,aJ),(f+14,aJ)] [(rw+4,aa p o),(a+4,aa [.str "a"<|q+1,.str "b c"<|r+1,.str ""<|s+1,.str "\"q"<|t+1] n)] [ik,n7 720,ek 720 "k",AZ 720,eR] (fu f) (gw [bx 9,bx 10,bx 11]<|eZ f) (Iy f c d b a rw u k m l tr i j e g h):=ba 517 86 0x24166fa4333bc4047cdb74b45e37a8077dd7735c9f43cea9b826d0108357ba6943740949f492c4648c34ad254c2070e9d5490a5008c2288a3db0508529404f298c44faa2cdbe98038e135cdef600eb8fbfb42e15aebd93f57db0dd57232c
noncomputable def mE(a:List Int):List Int:=(Tp 3).map λ(k:Nat)=>(pickNums a (some (k:Int)) none<|some 3).sum
noncomputable def tB(a:List Int):List Int:=(Tp 3).map λ(k:Nat)=>[11,22,14].getD k 0+a.getD k 0
noncomputable def nJ(x:Int):SX:=if(x.fdiv 16).fmod 2=0 then "f" else "g"
noncomputable def rH(a:List Int):List Int:=(Tp 3).map λ(k:Nat)=>3+7*(k:Int)+a.getD k 0
def hP(a:List Int):List Int:=(Tp 4).map λk=>(a.map λr=>cF r k).sum
noncomputable def iw(a:Int)(k:Nat):Nat:=(((k:Int)+a.fdiv 36).fmod 4).toNat
def nM(b:List Int)(a:Int):List (Int×SX):=(Tp 4).map λk=>(b.getD (iw a k) 0,names4.getD (iw a k) default)
theorem ak.places(h:ak Z e c):∀b:List Nat,ak Z (b.filterMap (e[·]?)) (b.filterMap (c[·]?))
 |[]=>.nil
 |j::b=>by
  have f:=h.places b;cases a:c[j]? with
  |some n=>
   refine aI (h.get a) λv d g=>?_
   simp only[Yk,a,d];exact .cons g f
  |none=>
   have d:e[j]?=none:=by
    rw[ZS] at a⊢;rw[h.len];exact a
   simp only[Yk,a,d];exact f
theorem ak.Mc(h:ak Z d (a.map .int))(c b st:Option Int):ak Z (XG ⟨d⟩ c b st).toList ((pickNums a c b st).map .int):=by
 have g:d.length=a.length:=by rw[h.len,aM]
 have e:(XG ⟨d⟩ c b st).toList=(sliceRange (YE c b st a.length).1 (YE c b st a.length).2.1 (YE c b st a.length).2.2).filterMap (d[·]?):=by
  simp[XG,g]
 have f:(pickNums a c b st).map VX=(sliceRange (YE c b st a.length).1 (YE c b st a.length).2.1 (YE c b st a.length).2.2).filterMap ((a.map VX)[·]?):=by
  simp only[pickNums,List.map_filterMap,Vi]
 rw[e,f];exact h.places _
theorem K5{x:Int}:SP w b (.builtin "str.__getitem__" ⟨[.str (SV "fg") t,.int (Yu.1 (W.Z.divQ x 16) 2) u],[]⟩) [] Z (Rs (nJ x) []):=by
 rw[Yu.2,<-W.Z.divQ_eq];unfold nJ;refine hide λQ j=>aI (jY (x.fdiv 16) (k:=2)<|zd rfl) λi l a=>j ?_;rw[show(x.fdiv 16).fmod 2=(i:Int) from l];have go:∀{i:Nat} {s:SX} {c:Nat},s=⟨#[c]⟩->(decide ((i:Int)< -(2 ^ 63:Int))||decide ((i:Int)≥2 ^ 63))=false->(seqIndex? (i:Int) (SV "fg").length).bind ((SV "fg").cps[·]?)=some c->SP w b (.builtin "str.__getitem__" ⟨[.str (SV "fg") t,.int (i:Int) u],[]⟩) [] Z (Rs s []):=λ{i s c} e m h=>by
  subst e;exact SP.builtin F.entry_str_getitem (by decide+kernel) λA p n N T g d v R q r hk o D f=>gives_str_getitem _ _ t u c m h Pw w A R _ ⟨(by show 1<=VZ;decide),f.done (T:=T+1) (di T rfl rfl rfl rfl rfl) D⟩
 rcases qO a with rfl|rfl
 ·exact go (c:=102) rfl (by decide) rfl
 ·exact go (c:=103) rfl (by decide) rfl
theorem qx{i k:Int}{t u:Xi}(h:IntMulOk i k):SP w b (.builtin "int.__mul__" ⟨[.int i t,.int k u],[]⟩) [] Z (Ri (i*k) []):=
 SP.int F.entry_int_mul (by decide+kernel) (gives_int_mul i k t u h) λt=>di t rfl rfl rfl rfl rfl
theorem PM:a5 2=bD (a6<|a5 2) (.Name "k"<|bb (aG<|a5 2).target) (aG<|a5 2).iter [] (aW<|a5 2) (bX<|a5 2):=by kernel_rfl
theorem Qk:a5 3=bD (a6<|a5 3) (.Name "k"<|bb (aG<|a5 3).target) (aG<|a5 3).iter [] (aW<|a5 3) (bX<|a5 3):=by kernel_rfl
theorem FI:a5 6=bD (a6<|a5 6) (.Name "row"<|bb (aG<|a5 6).target) (aG<|a5 6).iter [] (aW<|a5 6) (bX<|a5 6):=by kernel_rfl
theorem LY:a5 7=bD (a6<|a5 7) (.Name "k"<|bb (aG<|a5 7).target) (aG<|a5 7).iter [] (aW<|a5 7) (bX<|a5 7):=by kernel_rfl
theorem E4:a5 9=bD (a6<|a5 9) (.Name "k"<|bb (aG<|a5 9).target) (aG<|a5 9).iter [] (aW<|a5 9) (bX<|a5 9):=by kernel_rfl
theorem Nb:g9=bD (a6 g9) (.Name "row"<|bb (aG g9).target) (aG g9).iter [] (aW g9) (bX g9):=by kernel_rfl
theorem P8:a5 10=bD (a6<|a5 10) (.Name "k"<|bb (aG<|a5 10).target) (aG<|a5 10).iter [] (aW<|a5 10) (bX<|a5 10):=by kernel_rfl
section
variable{b e f d h l n g:Nat}{c:List va}{a:List Int}{Z:Led}
theorem HZ(o:b+40<=960)(s:(h+4,af<|.ref<|l+4)∈Z)(p:(l+4,aa c n)∈Z)(q:ak Z c (a.map .int))(E:a.length<=900):
  SP w b (.compLoop (a5 2) 0 (.ref<|e+4) (.ref<|f+4)<|au 177 g (d+4) (aQ (a5 2) ["cells"]) [("cells",h+4)]) [(d+4,ab [] 0),(f+4,aa [] 0),(e+4,aK 0<|SR 3)] Z (cC Z 3 (dF "k")<|(mE a).map .int):=by
 unfold mE;rw[Vb,PM];refine nf o ⟨by kernel_rfl,by kernel_rfl,rfl⟩ (zd rfl) λj u t z G i=>VS.b5 (P1 960 o (zd rfl) (aj (i5 ar)<|aj kh ay) (aq (i _ s)<|aq (i _ p) ax) λB C N T D=>?_);exact ah ⟨(pickNums a (some (j:Int)) none<|some 3).map .int,rZ (j:=some (j:Int)) (i:=none) (st:=some 3) (az<|i _ p) (.head _) (.int _ _) .none (.int _ _) (by decide) (by rw[q.len,aM];exact SQ ‹_›<|by decide)<|((q.sub i).Mc _ _ _).more,λA H m F v r x y=>ah ⟨_,_,_,_,_,_,_,_,rfl,rfl,by simpa only[aZ] using v,by simpa only[aZ] using r,λk k k k k=>aY _ rfl rfl (.int _ _)⟩⟩
theorem GH(m:b+40<=960)(p:(h+4,af<|.ref<|l+4)∈Z)(o:(l+4,aa c n)∈Z)(x:ak Z c (a.map .int))(C:a.length=3):
  SP w b (.compLoop (a5 3) 0 (.ref<|e+4) (.ref<|f+4)<|au 177 g (d+4) (aQ (a5 3) ["sums"]) [("sums",h+4)]) [(d+4,ab [] 0),(f+4,aa [] 0),(e+4,aK 0<|SR 3)] Z (cC Z 3 (dF "k")<|(tB a).map .int):=by
 unfold tB;rw[Vb,Qk];refine nf m ⟨by kernel_rfl,by kernel_rfl,rfl⟩ (zd rfl) λj u t y r i=>aw (x.intAt (j:=j)<|by exact V4 ‹_<_› (Y9 ‹_›)) λq s=>VS.b5 (GY 960 m (zd rfl) (aj m8 ay) (aq (i _ p)<|aq (i _ o) ax) λz A N T B=>?_);refine aw ((show ak [] [.int 11<|T+1,.int 22<|T+2,.int 14<|T+3] ([11,22,14].map VX) from .cons (.int _ _) (.cons (.int _ _)<|.cons (.int _ _) .nil)).intAt (j:=j) r) λq1 v=>?_
 exact ah ⟨_,_,j,_,_,_,_,_,rfl,.inl rfl,rfl,by exact SQ ‹_› (zd rfl),v,λk k=>ah ⟨_,_,j,_,_,_,_,_,rfl,.inr ⟨rfl,i _ o⟩,rfl,by exact SQ ‹_› (zd rfl),s,λk k=>aY _ rfl rfl (.int _ _)⟩⟩
theorem Pn(m:b+40<=960)(p:(h+4,af<|.ref<|l+4)∈Z)(o:(l+4,aa c n)∈Z)(s:ak Z c (a.map .int))(A:a.length=3):
  SP w b (.compLoop (a5 7) 0 (.ref<|e+4) (.ref<|f+4)<|au 177 g (d+4) (aQ (a5 7) ["sums"]) [("sums",h+4)]) [(d+4,ab [] 0),(f+4,aa [] 0),(e+4,aK 0<|SR 3)] Z (cC Z 3 (dF "k")<|(rH a).map .int):=by
 unfold rH;rw[Vb,LY];refine nf m ⟨by kernel_rfl,by kernel_rfl,rfl⟩ (zd rfl) λj u t v B k=>aw (s.intAt (j:=j)<|by exact V4 ‹_<_› (Y9 ‹_›)) λq r=>VS.b5 (EP 960 m (zd rfl) (aj m8<|aj (iE ar) ay) (aq (k _ p)<|aq (k _ o) ax) λx y N T z=>?_);exact ah ⟨_,qx<|by mul_fits,λi i i=>ah ⟨_,_,j,_,_,_,_,_,rfl,.inr ⟨rfl,k _ o⟩,rfl,by lia,r,λi i=>aY _ rfl rfl (.int _ _)⟩⟩
theorem L8(k:b+40<=960)(y:(l+4,aa c n)∈Z)(m:ak Z c (a.map .int))(D:a.length=3):
  SP w b (.compLoop (a5 6) 0 (.ref<|e+4) (.ref<|f+4)<|au 177 g (d+4) (aW<|a5 6) []) [(d+4,ab [] 0),(f+4,aa [] 0),(e+4,aF l 0)] Z (cC Z c.length (dF "row")<|a.map λx=>.str<|nJ x):=by
 rw[FI];refine pj (p:=a) k ⟨by kernel_rfl,by kernel_rfl,rfl⟩ y (by rw[m.len,aM]) (by exact d4 ‹_› (zd rfl)) λi j v t z r s E=>aI (m.get (i:=i) (d:=.int j)<|by rw[Vi,r];rfl) λF o q=>?_
 rw[s] at o;cases o;obtain⟨u,rfl⟩:=q.int_inv;exact VS.b5<|L6 960 k (zd rfl) (aj (nY ar) ay) ax λA B N T C=>ah ⟨_,K5,λp p p=>aY _ rfl rfl (.str _ _)⟩
theorem Km(p:b+40<=960)(hk:(m+4,af<|.int (SR j)<|x+1)∈Z)(C:(l+4,aa c n)∈Z)(q:ak Z c (a.map .int))(H:a.length=3):
  SP w b (.compLoop g9 0 (.ref<|e+4) (.ref<|f+4)<|au 177 g (d+4) (aQ g9 ["k"]) [("k",m+4)]) [(d+4,ab [] 0),(f+4,aa [] 0),(e+4,aF l 0)] Z (cC Z c.length (dF "row")<|(a.map λr=>cF r j).map .int):=by
 rw[Vb,Nb];refine pj (p:=a) p ⟨by kernel_rfl,by kernel_rfl,rfl⟩ C (by rw[q.len,aM]) (by exact d4 ‹_› (zd rfl)) λi o v t D A B z=>aI (q.get (i:=i) (d:=.int o)<|by rw[Vi,A];rfl) λI s y=>?_
 rw[B] at s;cases s;obtain⟨u,rfl⟩:=y.int_inv;exact VS.b5<|NI 960 p (zd rfl) (aj (iE ar) ay) (aq (z _ hk) ax) λE F N T G=>ah ⟨_,xn,λk k k=>⟨_,vY,λk k k=>aY _ rfl rfl (.int _ _)⟩⟩
theorem QQ(A:b+40<=880)(B:(s+4,af<|.ref<|l+4)∈Z)(y:(l+4,aa c n)∈Z)(z:ak Z c (a.map .int))(x:a.length=3):
  SP w b (.compLoop (a5 9) 0 (.ref<|e+4) (.ref<|f+4)<|au 177 g (d+4) (aQ (a5 9) ["rows"]) [("k",r+4),("rows",s+4)]) [(r+4,aJ),(f+4,aa [] 0),(e+4,aK 0<|SR 4)] Z (kr Z<|(hP a).map .int):=by
 have M:c.length=3:=by rw[z.len,aM,x]
 unfold hP;rw[Vb,E4];refine yM (by exact SQ ‹_› (zd rfl)) ⟨by kernel_rfl,by kernel_rfl,rfl⟩ (zd rfl) λj u G L i=>VS.b5 (KU 880 A (zd rfl) (aj (f7 ar)<|aj kh ay) (aq (i _ B)<|aq (i _ y) ax) λH I N T J=>?_);exact ah ⟨_,_,fc (cZ _) fz,Km (b:=880) (zd rfl) (.head _) (az<|i _ y) ((z.sub i).more) x,by lia,λt v O m o F C D E=>ah ⟨_,_,_,_,_,_,_,_,rfl,rfl,bq<|.head _,C.sub λp q=>by rw[aP];exact .tail _ q,λk k k k k=>aY _ rfl rfl (.int _ _)⟩⟩
theorem OA(j:i<4):∃u,[va.str "a"<|k+1,.str "b c"<|m+1,.str ""<|o+1,.str "\"q"<|p+1][i]?=some (.str (names4.getD i default)<|u+1):=by
 rcases eg j with rfl|rfl|rfl|rfl<;>exact aB _ rfl
theorem HX{m:Int}(z:b+40<=960)(U:(x+4,af<|.int m<|I+1)∈Z)(O:(s+4,af<|.ref<|l+4)∈Z)(M:(r+4,af<|.ref<|v+4)∈Z)(B:(l+4,aa c n)∈Z)(S:ak Z c (a.map .int))(h4:a.length=4)
  (C:(v+4,aa [.str "a"<|E+1,.str "b c"<|F+1,.str ""<|G+1,.str "\"q"<|H+1] D)∈Z):
  SP w b (.compLoop (a5 10) 0 (.ref<|e+4) (.ref<|f+4)<|au 177 g (d+4) (aQ (a5 10) ["needs","total","names"]) [("total",x+4),("needs",s+4),("names",r+4)]) [(d+4,ab [] 0),(f+4,aa [] 0),(e+4,aK 0<|SR 4)] Z (cC Z 4 (dF "k")<|(nM a m).map item):=by
 unfold nM;rw[Vb,P8];refine nf z ⟨by kernel_rfl,by kernel_rfl,rfl⟩ (zd rfl) λj u t V hj o=>hide λQ L=>aI (jY ((j:Int)+m.fdiv 36) (k:=4)<|zd rfl) λi A q=>?_
 have J:iw m j=i:=by show(((j:Int)+m.fdiv 36).fmod (4:Nat)).toNat=i;rw[A];rfl
 have y:Yu.1 (SR j+W.Z.divQ m 36) 4=(i:Int):=by rw[Yu.2,<-W.Z.divQ_eq];exact A
 refine aw (S.intAt (j:=i)<|by exact V4 ‹_<_› (Y9 ‹_›)) λTs P=>aw (OA (k:=E) (m:=F) (o:=G) (p:=H) q) λq2 R=>L<|VS.b5<|RY 960 z (zd rfl) (aj (nY ar)<|aj m8 ay) (aq (o _ U)<|aq (o _ O)<|aq (o _ M)<|aq (o _ B)<|aq (o _ C) ax) λY b2 N T Tr=>ah ⟨_,_,i,_,_,_,_,_,rfl,.inr ⟨rfl,o _ B⟩,y,YJ q<|zd rfl,P,λp p=>ah ⟨_,kj (.inr ⟨rfl,o _ C⟩) y (YJ q<|zd rfl) R [] ax<|di _ rfl rfl rfl rfl rfl,λp p p=>aY _ rfl rfl ?_⟩⟩;show Tells _ _ (item (a.getD (iw m j) 0,names4.getD (iw m j) default));rw[J];exact .tup (.head _)<|.cons (.int _ _)<|.cons (.str _ _) .nil
end
inductive xi(b0:Nat)(c:Td)(sub Z:Led)(kT kF:(Nat->Nat)->Nat->Nat->Int->Nat->S9->S9->S9->Nat->Nat->Nat->Nat->Led->Prop):Prop
 |mk (res:Bool) (tk src pb ln) (X:S9->S9->Led->Nat->Prop) (h0:SP w b0 c sub Z λr objs new F ro=>(new=[]/\ro=[])/\∃d f a b tb e bo ta,r= .ok (.ret<|.ref<|d+4)/\objs=[e9 tk src pb ln f,a,b,tb]/\bC tb/\(d+4,ag [.bool res,.ref<|e+4,.ref<|bo+4,.ref<|ta+4])∈F++Z/\X a b (F++Z) d)
   (h1:res=true->∀f a b tb d e bo ta F,bC tb->X a b (F++Z) d->kT tk src pb ln f a b tb d e bo ta F) (h2:res=false->∀f a b tb d e bo ta F,bC tb->X a b (F++Z) d->kF tk src pb ln f a b tb d e bo ta F):xi b0 c sub Z kT kF
def Bo(o:Nat):aA:=λc sub Z n=>xi o c sub Z (λl i h e m f g k d b a j F=>n 0 (H7<|.ref<|d+4) [e9 l i h e m,f,g,k] [] F [(d+4,ag [.bool true,.ref<|b+4,.ref<|a+4,.ref<|j+4])]) λl i h e m f g k d b a j F=>n 1 (H7<|.ref<|d+4) [e9 l i h e m,f,g,k] [] F [(d+4,ag [.bool false,.ref<|b+4,.ref<|a+4,.ref<|j+4])]
theorem E0(u:b<=e):(Bo e).Ok w b:=by
 rintro c sub Z C ⟨B,M,L,I,D,X,h,H,t⟩;refine(h.mono u (λa q=>q) λa a a a a a v a=>v).shown ?_;rintro r G E F J a n;refine a0 n λx A=>?_;obtain⟨d,s,l,m,p,k,f,o,z,y,j,i,g⟩:=A;clear n;obtain⟨rfl,rfl⟩:=x;subst z y
 cases B with
 |true=>exact aX _ (fc (i) fz)<|aB 0<|H rfl s l m p d k f o F j g
 |false=>exact aX _ (fc (i) fz)<|aB 1<|t rfl s l m p d k f o F j g
inductive qJ(b0:Nat)(c:Td)(sub Z:Led)(k:Nat->Led->Prop):Prop
 |mk (X:Led->Nat->Prop) (h0:SP w b0 c sub Z λr objs new F ro=>(objs=sub.map (·.2)/\new=[]/\ro=[])/\∃d,r= .ok (.ret<|.ref<|d+4)/\X (F++Z) d) (h1:∀d F,X (F++Z) d->k d F):qJ b0 c sub Z k
def Bj(b:Nat):aA:=λc sub Z a=>qJ b c sub Z λd F=>a 0 (H7<|.ref<|d+4) (sub.map (·.2)) [] F []
theorem FL(i:b<=a):(Bj a).Ok w b:=by
 rintro c sub Z m ⟨X,h,H⟩;refine h.mono i (λf q=>q) ?_;rintro r o n F p f e f;refine a0 e λj l=>aI l λd k g=>?_;clear e;obtain⟨rfl,rfl,rfl⟩:=j;subst k
 exact aB 0<|H d F g
inductive r6(b0:Nat)(c:Td)(sub Z:Led)(k:(Nat->Nat)->Nat->Nat->Int->Nat->S9->S9->Nat->Prop):Prop
 |mk (tk src pb ln) (h0:SP w b0 c sub Z λr objs new F ro=>(new=[]/\F=[]/\ro=[])/\∃u d a b,r= .ok (.ret<|.str ""<|u+1)/\objs=[e9 tk src pb ln d,a,b]) (h1:∀d a b u,k tk src pb ln d a b u):r6 b0 c sub Z k
def yk(b:Nat):aA:=λc sub Z a=>r6 b c sub Z λi h g d j e f u=>a 0 (H7<|.str ""<|u+1) [e9 i h g d j,e,f] [] [] []
theorem G7(f:b<=a):(yk a).Ok w b:=by
 rintro c sub Z o ⟨z,y,v,p,h,H⟩;refine h.mono f (λe q=>q) ?_;rintro r t s F x e d e;refine a0 d λj m=>nt m λu n g i k l=>?_;clear d;obtain⟨rfl,rfl,rfl⟩:=j;subst k l
 exact aB 0<|H n g i u
inductive so(b0:Nat)(c:Td)(sub Z:Led)(v:va)(k:Led->Prop):Prop
 |mk (h0:SP w b0 c sub Z λr objs new F ro=>r= .ok (.ret v)/\objs=sub.map (·.2)/\new=[]/\ro=[]) (h1:∀F,k F):so b0 c sub Z v k
def uS(b:Nat)(v:va):aA:=λc sub Z a=>so b c sub Z v λF=>a 0 (H7 v) (sub.map (·.2)) [] F []
theorem Cm(f:b<=a):(uS a v).Ok w b:=by
 rintro c sub Z l ⟨h,H⟩;refine h.mono f (λe q=>q) ?_;rintro r n m F o e d e;refine ei d λg i j k=>?_;clear d;subst g i j k
 exact aB 0<|H F
def QR(s:Nat)(e tr:S9):Q7:=λh i N T Z b R=>ae [2] [N]<|xt 410 (Td.func (b4 177)<|dC 177 (N+4) [("told",N+14),("needs",N+13),("costs",N+12),("whos",N+11),("shares",N+10),("total",N+9),("rows",N+8),("sums",N+7),("names",N+6),("cells",N+5)]) [(23,e),(106,tr),(N+4,ao [ent "script" T<|.ref<|s+4] 1),(N+5,aJ),(N+6,aJ),(N+7,aJ),(N+8,aJ),(N+9,aJ),(N+10,aJ),(N+11,aJ),(N+12,aJ),(N+13,aJ),(N+14,aJ)] Z (.bool true) (λc d j k l m n o p q u r t a=>∀f g:Nat,R (H7<|.bool true) [c,d] [] (a++[]) [])
theorem GR:CK w [(23,a),(106,tr)] [] [Ce 410<|.bool true] (Vh (.ref 177) ⟨[.ref<|s+4],[]⟩) (QR s a tr):=aV 532 24 0x35c1cce593f16de9c75e95529e1b67910c6b91cce2956fd3d
def NA(f s t v w l o u:Nat)(x:SX)(tb C D E F A B:S9)(q p r:Nat)(G:va):Q7:=λb1 b2 TR Uc Z Uq R=>ae [1] [f]<|xA (cp 111 [.str x<|u+1]) [(106,({cls:=.none,dict:=none,data:=.fields ⟨[]⟩,slots:=⟨[]⟩}:S9))] (λx8 b O n8 a U8=>∀N8 T8:Nat,ae [3,1,1] [f,f+2,f]<|xi 450 (cp 130 [.ref<|a+17,.ref<|r+4,.ref<|l+4]) [(a+16,e9 (ki U8) (a+9) (a+15) (1:Int)<|U8+26),(b+6,aa (aC O) n8),(a+19,aa [] 0),(23,tb)] ((bp (cz b a U8)++[])++Z) (λTO TC Tx V TQ Tr Tt TJ n Uu Us UC d=>∀T5 Uk:Nat,ae [3,2] [f+10,f]<|qJ 600 (cp 135 [.ref<|o+4,.ref<|l+4]) [] ((d++(bp (cz b a U8)++[]))++Z) (λQ g=>∀T7 Um:Nat,oJ 520 (cp 155 [.ref<|n+4,.ref<|Q+4]) [(23,TJ)] ((g++(d++(bp (cz b a U8)++[])))++Z) (.bool true) (λTG i=>∀T9 Un:Nat,ae [1,5,1,1] [f+10,n,f+6,f+9]<|so 760 (cp 160 [.ref<|q+4,.ref<|p+4]) [] ((i++(g++(d++(bp (cz b a U8)++[]))))++Z) (.bool true) (λk=>∀Ua Uo:Nat,fI 960 (bi "int.__ne__" [.bool true,.bool true]) [] ((k++(i++(g++(d++(bp (cz b a U8)++[])))))++Z) (.bool false) (∀Ub Up:Nat,ae [1,4,1] [f,(cz b a U8).rd,a+12]<|r6 720 (cp 90 [.ref<|a+17]) [(a+16,e9 TO TC Tx V TQ),(b+6,Tr),(a+19,Tt)] ((k++(i++(g++(d++(bp (cz b a U8)++[])))))++Z) (λTK Tz Tu y H Uv Ux UD=>∀TS J:Nat,ae [1,4,1,1] [f,(cz b a U8).rd,a+12,f]<|ee 960 (bi "str.count" [.str x<|u+1,.str "\n"<|J+4]) [] ((k++(i++(g++(d++(bp (cz b a U8)++[])))))++Z) (λS Uz=>∀TU L:Nat,fI 960 (bi "int.__ne__" [.int y<|H+1,.int (1+S)<|L+1]) [] ((k++(i++(g++(d++(bp (cz b a U8)++[])))))++Z) (.bool false) (∀TV Ud:Nat,ae [1,5] [f+10,n]<|R (.ok .next) [TG,({cls:=.none,dict:=none,data:=.fields ⟨[.int 119 0,.int 4 0,.ref<|a+10]⟩,slots:=⟨[]⟩}:S9),ao [ent "script" s G,ent "calls" t<|.ref<|l+4,ent "line" v<|.ref<|o+4,ent "text" w<|.str x<|u+1,ent "reader" T8<|.ref<|a+17] 5,C,af<|.ref<|r+4,D,E,F,af<|.ref<|q+4,A,B,af<|.ref<|p+4,af<|.ref<|n+4] [] ([(a+16,e9 TK Tz Tu y H)]++(k++(i++(g++(d++(bp (cz b a U8)++[])))))) [])))))))) (λTL TA Tv U TP Y Ts TH m Ut Ur UB c=>∀TX Ue:Nat,ae [3,2] [f+10,f]<|qJ 600 (cp 135 [.ref<|o+4,.ref<|l+4]) [] ((c++(bp (cz b a U8)++[]))++Z) (λP e=>∀TY Ug:Nat,oJ 520 (cp 155 [.ref<|m+4,.ref<|P+4]) [(23,TH)] ((e++(c++(bp (cz b a U8)++[])))++Z) (.bool true) (λTF h=>∀TZ Uh:Nat,ae [1,5,1,1] [f+10,m,f+6,f+9]<|so 760 (cp 160 [.ref<|q+4,.ref<|p+4]) [] ((h++(e++(c++(bp (cz b a U8)++[]))))++Z) (.bool false) (λj=>∀T1 Ui:Nat,fI 960 (bi "int.__ne__" [.bool false,.bool false]) [] ((j++(h++(e++(c++(bp (cz b a U8)++[])))))++Z) (.bool false) (∀T2 Uj:Nat,ae [1,4,1] [f,(cz b a U8).rd,a+12]<|r6 720 (cp 90 [.ref<|a+17]) [(a+16,e9 TL TA Tv U TP),(b+6,Y),(a+19,Ts)] ((j++(h++(e++(c++(bp (cz b a U8)++[])))))++Z) (λTM TB Tw z I Uw Uy UE=>∀T3 M:Nat,ae [1,4,1,1] [f,(cz b a U8).rd,a+12,f]<|ee 960 (bi "str.count" [.str x<|u+1,.str "\n"<|M+4]) [] ((j++(h++(e++(c++(bp (cz b a U8)++[])))))++Z) (λT UA=>∀T4 N:Nat,fI 960 (bi "int.__ne__" [.int z<|I+1,.int (1+T)<|N+1]) [] ((j++(h++(e++(c++(bp (cz b a U8)++[])))))++Z) (.bool false) (∀T6 Ul:Nat,ae [1,5] [f+10,m]<|R (H7<|.bool true) [TF,({cls:=.none,dict:=none,data:=.fields ⟨[.int 119 0,.int 4 0,.ref<|a+10]⟩,slots:=⟨[]⟩}:S9),ao [ent "script" s G,ent "calls" t<|.ref<|l+4,ent "line" v<|.ref<|o+4,ent "text" w<|.str x<|u+1,ent "reader" T8<|.ref<|a+17] 5,C,af<|.ref<|r+4,D,E,F,af<|.ref<|q+4,A,B,af<|.ref<|p+4,af<|.ref<|m+4] [] ([(a+16,e9 TM TB Tw z I)]++(j++(h++(e++(c++(bp (cz b a U8)++[])))))) [])))))))))
theorem FP:a9 w [(23,r),(106,We ⟨[]⟩),(f+4,ao [ent "script" b q,ent "calls" c<|.ref<|a+4,ent "line" d<|.ref<|g+4,ent "text" e<|.str x<|u+1] 4),(f+5,l),(f+6,af<|.ref<|i+4),(f+7,m),(f+8,n),(f+9,o),(f+10,af<|.ref<|p+4),(f+11,j),(f+12,k),(f+13,af<|.ref<|h+4),(f+14,aJ)] [] [A3,Bo 450,Bj 600,uf 520<|.bool true,uS 760<|.bool true,uS 760<|.bool false,yk 720,gD 960,ir 960<|.bool false,eR] (fu f) (gw [bx 12,bx 13,bx 14,bx 15,bx 16]<|eZ f) (NA f b c d e a g u x r l m n o j k p h i q):=ba 481 215 0x2d80e7f1c3f69979ad8b58eb523b26202272b3a0a863d712c10692513283dceb79767a651f94b095761b97765997d47b1c67ad11b14e994a05c8b2e4d5226d9116c11169294944fd6a8bf0eb27f3f890ae0ac473ccfd040641ac7066214d7b6e466667b8914c6316503b99be920ebc3b8fbe3ae8b911913ad815ab351e257a59e8307d6a0885588b5ef59d23908fa5df154dab0f70a593e489babe1a097a0590dc0a8559c1498da1c8cf7bc5ff28e705a437f10fefb60468c2552304adef93c222b52de74bb702649928e12691fca4d6f712f9219ed5a7c33aa7c9bece027b1762b09d5821cf4449190f56fdc2cf
def LB(f m n:Nat)(V tr L M O P Q H I J:S9)(z A B C D w E u S:Nat)(Ts:SX)(U:va):Q7:=λb1 b2 N T Z Tv R=>ae [8,2,7] [N,N+3,N+4]<|fY (bi "range.__iter__" [.ref<|N+8]) [(N+8,av "range" [.int 0<|T+4,.int 3<|T+3,.int 1<|T+5])] (λG l=>∀a Tu:Nat,ae [2] [l]<|fm 840 (S0 dp 0 (.ref<|l+4) (.ref<|a+4)<|au 177 (f+4) (a+5) (aQ dp ["whos","who","shares"]) [("whos",f+11),("who",N+7),("shares",f+10)]) [(a+5,ab [] 0),(a+4,aa [] 0),(l+4,aK (0:Int) ((SR G):Int)),(f+10,af<|.ref<|m+4),(f+11,af<|.ref<|n+4),(N+7,af<|.str "f"<|T+2)] Z "k" (λTG TJ i h TC e=>∀d v:Nat,ae [3,3,1] [a+1,a,d]<|gn (bi "sum.loop" [.ref<|d+4,.ref<|d+5,.int 0 0,.int 0 0]) [(d+4,av "list_iterator" [.ref<|a+4,.int 0 0]),(d+5,aa [.int 0<|v+1] 0)] (([(a+4,aa i h)]++(e++[]))++Z) (λy Tr Tz TB=>∀j g:Nat,ae [4,6,2,7] [N+1,N,N+3,j]<|fY (bi "range.__iter__" [.ref<|j+4]) [(j+4,av "range" [.int 0<|g+3,.int 3<|g+2,.int 1<|g+4])] (λF k=>∀b Tt:Nat,ae [2] [k]<|fm 840 (S0 dp 0 (.ref<|k+4) (.ref<|b+4)<|au 177 (f+4) (b+5) (aQ dp ["whos","who","shares"]) [("whos",f+11),("who",N+7),("shares",f+10)]) [(b+5,ab [] 0),(b+4,aa [] 0),(k+4,aK (0:Int) ((SR F):Int)),(f+10,af<|.ref<|m+4),(f+11,af<|.ref<|n+4),(N+7,af<|.str "g"<|g+1)] (([(a+4,aa i h)]++(e++[]))++Z) "k" (λTF TH q p Tx o=>∀c s:Nat,ae [3,3,1] [b+1,b,c]<|gn (bi "sum.loop" [.ref<|c+4,.ref<|c+5,.int 0 0,.int 0 0]) [(c+4,av "list_iterator" [.ref<|b+4,.int 0 0]),(c+5,aa [.int 0<|s+1] 0)] (([(b+4,aa q p)]++(o++([(a+4,aa i h)]++(e++[]))))++Z) (λx Y Tw TA=>∀r t:Nat,ae [4,6,1,2] [N+1,N,r+1,f]<|R (.ok .next) [V,tr,ao [ent "script" z U,ent "calls" A<|.ref<|w+4,ent "line" B<|.ref<|E+4,ent "text" C<|.str Ts<|u+1,ent "reader" D<|.ref S,ent "due" t<|.ref<|N+5] 6,L,M,O,P,Q,af<|.ref<|m+4,af<|.ref<|n+4,H,I,J] [] ([(N+5,aa [.int y<|Tr+1,.int x<|Y+1] 2)]++([(b+4,aa q p)]++(o++([(a+4,aa i h)]++(e++[]))))) []))))))
theorem Hw:a9 w [(23,v),(106,tr),(f+4,ao [ent "script" d t,ent "calls" e<|.ref<|c+4,ent "line" g<|.ref<|j+4,ent "text" h<|.str x<|u+1,ent "reader" i<|.ref s] 5),(f+5,n),(f+6,o),(f+7,p),(f+8,q),(f+9,r),(f+10,af<|.ref<|a+4),(f+11,af<|.ref<|b+4),(f+12,k),(f+13,l),(f+14,m)] [(a+4,aa y z),(b+4,aa A B)] [ik,ek 840 "k",jG] (fu f) (gw [bx 17]<|eZ f) (LB f a b v tr n o p q r k l m d e g h i c j u s x t):=ba 86 160 0x8edb03e461500394c8f18c2cf0619aaaceccdd5fae6ba9056335255be014cb2b223d391dcd630ccf4be00e62fa70d5f0fb1871740b70a55007f71b53f2873c2b09976f7d67791b6dc509847913b77eeb9bf5ff3beb7379a880be03d7235d4c979923f64817a14b546a8b5b20dca9ea3211eb6eaad5e8b65defee410763bfc68
def K8(c t u j d a:Nat):Q7:=λi k N T Z b R=>ae [1,1,4] [d,c,a]<|iJ (bi "list.__getitem__" [.ref<|a+4,.int (SR j)<|u+1]) [] Z (λf e=>∀g h:Nat,R (H7<|.int f<|e+1) [ab [ent "k" t<|.int (SR j)<|u+1] 1] [] [] [])
theorem PT:a9 w [(a+4,ab [ent "k" t<|.int (SR j)<|u+1] 1)] [(d+4,af<|.ref<|g+4),(b+4,af<|.ref<|c+4),(e+4,af<|.str x p),(g+4,aa n o),(c+4,aa l m)] [jO] (S0 i 0 k h<|au 177 f (a+4) (aQ dp ["whos","who","shares"]) [("whos",d+4),("who",e+4),("shares",b+4)]) (bN (a6 dp)<|au 177 f (a+4) (aQ dp ["whos","who","shares"]) [("whos",d+4),("who",e+4),("shares",b+4)]) (K8 a t u j b c):=ba 15 12 0x1deb192e
def NZ(c t u j f g a h:Nat)(x:SX)(r:Bool):Q7:=λn o N T Z b R=>ae [1,1,4] [f,c,a]<|kM 960 (bi "list.__getitem__" [.ref<|a+4,.int (SR j)<|u+1]) [] Z (λd e=>∀i l:Nat,ae [1] [g]<|fI 960 (bi "str.__eq__" [.str d<|e+1,.str x h]) [] Z (.bool r) (∀k m:Nat,R (H7<|.bool r) [ab [ent "k" t<|.int (SR j)<|u+1] 1] [] [] []))
theorem Jq(k:Expr)(l i:va)(f a t u j b c d e g p n h:Nat)(x:SX)(o m:List va)(r:Bool):a9 w [(a+4,ab [ent "k" t<|.int (SR j)<|u+1] 1)] [(b+4,af<|.ref<|e+4),(d+4,af<|.ref<|g+4),(c+4,af<|.str x h),(e+4,aa o p),(g+4,aa m n)] [iM 960,ir 960<|.bool r] (S0 k 0 l i<|au 177 f (a+4) (aQ dp ["whos","who","shares"]) [("whos",b+4),("who",c+4),("shares",d+4)]) (jQ (fN dp)<|au 177 f (a+4) (aQ dp ["whos","who","shares"]) [("whos",b+4),("who",c+4),("shares",d+4)]) (NZ a t u j b c e h x r):=ba 12 17 0x71fa88be7b7e
def OP(f d a:Nat)(q tr e l m n o p h i j k:S9):Q7:=λu v N T Z b R=>ae [1,5,3,2] [f+10,d,a,N]<|mG 880 (S0 dv 0 (.ref<|N+4) (.ref<|N+5)<|au 177 (f+4) (N+6) (aW dv) []) [(N+6,ab [] 0),(N+5,aa [] 0),(N+4,av "list_iterator" [.ref<|a+4,.int 0 0])] Z "need" "name" (λx A y z r g w c=>∀s t:Nat,ae [6] [N+2]<|R (H7<|.ref<|N+5) [q,tr,e,l,m,n,o,p,h,i,j,k,af<|.ref<|d+4] [] ([(N+5,aa r g)]++(c++[])) [])
theorem Hi:a9 w [(23,o),(106,tr),(f+4,b),(f+5,i),(f+6,j),(f+7,k),(f+8,l),(f+9,m),(f+10,c),(f+11,e),(f+12,g),(f+13,h),(f+14,af<|.ref<|d+4)] [(d+4,ag [u,.ref<|a+4,.ref<|p+4,.ref<|n+4]),(a+4,aa r q),(n+4,ab s t)] [ky 880 "need" "name"] (fu f) (bN dv<|eZ f) (OP f d a o tr b i j k l m c e g h):=ba 47 31 0x1db85924d7a7f78bb4e3e1dd6da3141999091abc94
def Eu(d:Nat)(m tr a h i j k l c e f g:S9):Q7:=λn o N T Z b R=>ae [5] [N]<|R (H7<|.ref<|N+5) [m,tr,a,h,i,j,k,l,c,e,f,g,af<|.ref<|d+4] [] [(N+5,aa [.int 0<|T+1,.int 0<|T+1,.int 0<|T+1,.int 0<|T+1] 0)] []
theorem Gk:a9 w [(23,o),(106,tr),(f+4,a),(f+5,i),(f+6,j),(f+7,k),(f+8,l),(f+9,m),(f+10,c),(f+11,e),(f+12,g),(f+13,h),(f+14,af<|.ref<|d+4)] [(d+4,ag [u,.ref<|b+4,.ref<|p+4,.ref<|n+4]),(b+4,aa r q),(n+4,ab s t)] [] (fu f) (bN yj<|eZ f) (Eu d o tr a i j k l m c e g h):=ba 41 12 0x29dea23eaedfddf
def Hg(f d a:Nat)(A tr m t u v w x p q r s:S9):Q7:=λJ L N T Z b R=>ae [8,2,1,5,1,4] [N,N+2,f+10,d,N+2,a]<|eP (bi "dict.__getitem__" [.ref<|a+4,.str "f"<|T+2]) [] Z (λe Q O=>∀D i:Nat,ae [4] [e]<|jr (bi "list.__getitem__" [.ref<|e+4,.int (-1)<|i+2]) [] Z (λl=>∀E I:Nat,ee 900 (cp 35 [.ref<|l+4]) [] Z (λo z=>∀F j:Nat,ae [4,6,2,1,5,1,4] [N+1,N,N+2,f+10,d,N+2,a]<|eP (bi "dict.__getitem__" [.ref<|a+4,.str "g"<|j+1]) [] Z (λc P M=>∀B h:Nat,ae [4] [c]<|jr (bi "list.__getitem__" [.ref<|c+4,.int (-1)<|h+2]) [] Z (λk=>∀C G:Nat,ee 900 (cp 35 [.ref<|k+4]) [] Z (λn y=>∀g H:Nat,ae [4,6,1,3] [N+1,N,g+1,N+2]<|R (H7<|.ref<|N+5) [A,tr,m,t,u,v,w,x,p,q,r,s,af<|.ref<|d+4] [] [(N+5,aa [.int o<|z+1,.int n<|y+1] 2)] []))))))
theorem O8:a9 w [(23,o),(106,tr),(f+4,b),(f+5,j),(f+6,k),(f+7,l),(f+8,m),(f+9,n),(f+10,e),(f+11,g),(f+12,h),(f+13,i),(f+14,af<|.ref<|d+4)] [(d+4,ag [u,.ref<|c+4,.ref<|p+4,.ref<|a+4]),(c+4,aa r q),(a+4,ab s t)] [hI,pN,gD 900] (fu f) (bN xY<|eZ f) (Hg f d a o tr b j k l m n e g h i):=ba 106 123 0x3b2c09868d4b5493e6542b459260ba57770aeee5231cfa93cf293df8a78c3b8b33d342c90bd4cbb1b306874b12f0de413d015abb1f8b85839857977619803efd397013811cddce0519c69b362cdcfeb10cef1bfbdb2ae1fc9bf7004334a854a4ce1d4b9cf0378
def Kl(f d:Nat)(z tr q r s t v m n o p:S9)(e g h i j k c l u w a:Nat)(x:SX)(y:va):Q7:=λA B N T Z b R=>ae [1] [f]<|R (H7<|.ref<|a+4) [z,tr,ao [ent "script" e y,ent "calls" g<|.ref<|c+4,ent "line" h<|.ref<|l+4,ent "text" i<|.str x<|u+1,ent "reader" j<|.ref w,ent "due" k<|.ref<|a+4] 6,q,r,s,t,v,m,n,o,p,af<|.ref<|d+4] [] [] []
theorem ND:a9 w [(23,B),(106,tr),(f+4,ao [ent "script" c z,ent "calls" e<|.ref<|a+4,ent "line" g<|.ref<|l+4,ent "text" h<|.str x<|u+1,ent "reader" i<|.ref y,ent "due" j<|.ref<|b+4] 6),(f+5,q),(f+6,r),(f+7,s),(f+8,t),(f+9,v),(f+10,m),(f+11,n),(f+12,o),(f+13,p),(f+14,af<|.ref<|d+4)] [(d+4,ag [H,.ref<|k+4,.ref<|C+4,.ref<|A+4]),(k+4,aa E D),(A+4,ab F G)] [] (fu f) (bN DC<|eZ f) (Kl f d B tr q r s t v m n o p c e g h i j a l u y b x z):=ba 8 3 0x7
def Ou(a t u c:Nat)(x:Int)(d:va):Q7:=λe f N T Z b R=>ae [1] [a]<|R (H7<|.int x<|u+1) [ab [ent "need" t<|.int x<|u+1,ent "name" c d] 2] [] [] []
theorem Qn:a9 w [(a+4,ab [ent "need" t<|.int x<|u+1,ent "name" c d] 2)] [] [] (S0 f 0 g e<|au 177 b (a+4) (aW dv) []) (bN (a6 dv)<|au 177 b (a+4) (aW dv) []) (Ou a t u c x d):=ba 2 3 0x1
theorem mm{X Y Z:Led}(h:∀q∈X,q∈Y)(a:q∈X++Z):q∈Y++Z:=(bB a).elim (λz=>bq<|h _ z) λz=>az z
theorem A6{X Y Z:Led}(a:q∈X++(Y++Z)):q∈(X++Y)++Z:=by rw[aZ];exact a
theorem ak.oO:∀{b:List va} {a:List SX},ak Z b (a.map .str)->ak c b (a.map .str)
 |_,[],h=>by rw[h.nil_inv];exact .nil
 |_,x::a,h=>by
  refine bE (ak.cons_inv (c:=a.map .str) h) λv b g d e=>?_;subst g
  refine aw d.str_inv λt f=>?_;subst f
  exact .cons (.str _ _) e.oO
noncomputable abbrev xo(a b c d:Nat):List va:=[.str "a"<|a+1,.str "b c"<|b+1,.str ""<|c+1,.str "\"q"<|d+1]
def i8(a:List Int):List Int:=tB<|mE<|a.take 63
noncomputable def eO(a:List Int):Int:=(a.take 63).sum
def fB(a:List Int):List Int:=ox (i8 a)<|eO a
def iY(a:List Int):List SX:=(i8 a).map nJ
def oq(a:List Int):List Int:=rH<|mE<|a.take 63
inductive AO(tb tr fr:S9)(xs:List Int)(Y:Led)(objs:List S9):Prop
 |mk (c nm sm rw sh wh co t u nr ns nw nc:Nat) (rws D5 y8 cos:List va) (e:objs=[tb,tr,fr,af<|.ref<|c+4,af<|.ref<|nm+4,af<|.ref<|sm+4,af<|.ref<|rw+4,af<|.int (eO xs)<|u+1,af<|.ref<|sh+4,af<|.ref<|wh+4,af<|.ref<|co+4,aJ,aJ])
   (hn:(nm+4,aa (xo t (t+1) (t+2)<|t+3) 0)∈Y) (hr:(rw+4,aa rws nr)∈Y) (Sx:ak Y rws ((i8 xs).map .int)) (hs:(sh+4,aa D5 ns)∈Y) (ts:ak Y D5 ((fB xs).map .int)) (hw:(wh+4,aa y8 nw)∈Y) (tw:ak Y y8 ((iY xs).map .str)) (hc:(co+4,aa cos nc)∈Y) (tc:ak Y cos ((oq xs).map .int)):AO tb tr fr xs Y objs
noncomputable abbrev lG(f:Nat)(m tr a h i j k l b c d e g:S9):Led:=[(23,m),(106,tr),(f+4,a),(f+5,h),(f+6,i),(f+7,j),(f+8,k),(f+9,l),(f+10,b),(f+11,c),(f+12,d),(f+13,e),(f+14,g)]
theorem sO{p:Nat×S9}(h:fK p.2):∀q∈[p],fK q.2:=fc (h) fz
theorem km(a:List Int):(i8 a).length=3:=by unfold i8 tB;rw[aM];rfl
theorem Cc(a:List Int):(mE a).length=3:=by unfold mE;rw[aM];rfl
theorem KA(G:b+40<=720)(l:(s+4,aa e n)∈Z)(m:ak Z e (c.map .int))(h9:c.length<=900):
  VS b (fu f) (PySem.execs [bx 0,bx 1,bx 2,bx 3,bx 4,bx 5,bx 6,bx 7]<|eZ f) (lG f i tr (ao [ent "script" g<|.ref<|s+4] 1) aJ aJ aJ aJ aJ aJ aJ aJ aJ aJ) Z
   λA L F=>A= .next/\AO i tr (ao [ent "script" g<|.ref<|s+4] 1) c (F++Z) L:=by
 refine VS.execs (Sq 720 G (zd rfl) (aj (i5 ar)<|aj j1<|aj (f7 ar)<|aj (f7 ar)<|aj kh<|aj (i5 ar)<|aj (f7 ar)<|aj (f7 ar)<|aj lp ay) (aq l ax) λb1 b2 N Tu TL=>?_);have H:e.length<=1000:=by rw[m.len,aM];exact SQ ‹_›<|zd rfl
 have E:(c.take 63).length<=900:=by rw[Xo];exact oS ‹_›
 have p:=km c;refine ah ⟨(c.take 63).map .int,rZ (j:=none) (i:=some ((63:Nat):Int)) (st:=none) (az l) (.head _) .none (.int _ _) .none (by decide) H ?_,λy TU TO Q I o t x=>?_⟩
 ·rw[Zi,Wv];exact(m.qU 63).more
 have k:=A6 I;refine ah ⟨_,3,_,_,_,rfl,rfl,by decide,λTK w TF=>?_⟩;refine ah ⟨_,_,sO<|cZ _,HZ (b:=720) (zd rfl) (.head _) (.tail _ k) o.ints E,by decide,λa a TZ TS a U j Tt TG=>?_⟩;refine ah ⟨_,3,_,_,_,rfl,rfl,by decide,λTH r Tv=>?_⟩;refine ah ⟨_,_,sO<|cZ _,GH (b:=720) (zd rfl) (.head _) (.tail _<|.head _) j.ints<|Cc _,by decide,λa a O TM a P d V Tw=>?_⟩;refine ah ⟨_,_,_,_,_,_,_,c.take 63,rfl,rfl,mm (λq h=>aR<|aR<|aR h) k,o.ints,λM a a Y Tx=>?_⟩;refine ah ⟨_,Gy (zd rfl) (.head _) d.ints p,λz TV TP R J B u Tz=>?_⟩;refine ah ⟨_,_,(λa h=>nomatch h),L8 (b:=720) (zd rfl) (aR<|aL<|aR<|.head _) d.ints p,?_,λa a TX TQ a S C Tr TA=>?_⟩
 ·have:O.length=(i8 c).length:=by rw[d.len,aM];rfl
  lia
 refine ah ⟨_,3,_,_,_,rfl,rfl,by decide,λTJ v TB=>?_⟩;refine ah ⟨_,_,sO<|cZ _,Pn (b:=720) (zd rfl) (.head _) (aR<|aL<|aR<|aR<|aR<|aR<|.head _) j.ints<|Cc _,by decide,λa a TY TR a T D Ts TC=>?_⟩;exact ah (aY _ rfl rfl (.mk y t w r z (u+1) v x M _ _ _ _ _ _ _ _ rfl (.head _) (aL<|aR<|aR<|aR<|aR<|aR<|.head _) d.ints
  (mm (λq h=>aR<|aR<|aR<|aR h)<|A6 J) B.ints (.tail _<|.head _) (ak.oO (a:=iY c)<|by unfold iY;rw[Vb];exact C) (.tail _<|.tail _<|.head _) D.ints))
theorem ak.zc{a b c:Int}(h:ak Z l ([a,b,c].map .int)):∃i j k,l=[.int a<|i+1,.int b<|j+1,.int c<|k+1]:=by
 refine hide λq p=>bE (ak.cons_inv (d:=.int a) (c:=[.int b,.int c]) h) λg g f m g1=>?_;subst f
 refine bE (ak.cons_inv (d:=.int b) (c:=[.int c]) g1) λg g f n g2=>?_;subst f
 refine bE (ak.cons_inv (d:=.int c) (c:=[]) g2) λg g f o g3=>?_;subst f
 refine aw m.int_inv λi e=>?_;subst e
 refine aw n.int_inv λj e=>?_;subst e
 refine aw o.int_inv λk e=>?_;subst e
 refine p ?_;cases g3
 exact j8 i j k rfl
theorem ak.Ox(h:ak Z l ([a,b,c].map .str)):∃i j k,l=[.str a<|i+1,.str b<|j+1,.str c<|k+1]:=by
 refine hide λq p=>bE (ak.cons_inv (d:=.str a) (c:=[.str b,.str c]) h) λg g f m g1=>?_;subst f
 refine bE (ak.cons_inv (d:=.str b) (c:=[.str c]) g1) λg g f n g2=>?_;subst f
 refine bE (ak.cons_inv (d:=.str c) (c:=[]) g2) λg g f o g3=>?_;subst f
 refine aw m.str_inv λi e=>?_;subst e
 refine aw n.str_inv λj e=>?_;subst e
 refine aw o.str_inv λk e=>?_;subst e
 refine p ?_;cases g3
 exact j8 i j k rfl
noncomputable def qW(k:Nat)(s:Int)(x:SX)(c:Int):Call:=(s,x,⟨Yu.1 (k:Int) 2,1,c,2*c+k⟩)
def sj(a:List Int)(b:List SX)(co:List Int):List Call:=(Tp 3).map λ(k:Nat)=>qW k (a.getD k 0) (b.getD k default)<|co.getD k 0
inductive C6(xs:List Int)(ss:List SX)(cs:List Int)(kf:Int)(tb tr o5 o7:S9)(sv:va)(nm rw u k0 sh wh co:Nat)(Y:Led)(objs:List S9):Prop
 |mk (k1 ca fZ) (h0:objs=[tb,tr,ao [ent "script" k0 sv,ent "calls" k1<|.ref<|ca+4] 2,o5,af<|.ref<|nm+4,o7,af<|.ref<|rw+4,af<|.int kf<|u+1,af<|.ref<|sh+4,af<|.ref<|wh+4,af<|.ref<|co+4,aJ,aJ]) (h1:(ca+4,aa fZ 3)∈Y) (h2:fJ Y fZ (sj xs ss cs)):C6 xs ss cs kf tb tr o5 o7 sv nm rw u k0 sh wh co Y objs
section
variable{b f d w e rw a c co p q r u x:Nat}{g h i j y z A:S9}{k:va}{l:Int}{s t v:List va}{m n:List Int}{o:List SX}{Z:Led}
theorem Pu(hb:b+40<=960)(hs:(a+4,aa s p)∈Z)(ts:ak Z s (m.map .int))(s3:m.length=3)(hw:(c+4,aa t q)∈Z)(tw:ak Z t (o.map .str))(w3:o.length=3)(hc:(co+4,aa v r)∈Z)(tc:ak Z v (n.map .int))(U:n.length=3):
  VS b (fu f) (PySem.execs [bx 8]<|eZ f) (lG f g h (ao [ent "script" d k] 1) i (af<|.ref<|e+4) j (af<|.ref<|rw+4) (af<|.int l<|u+1) (af<|.ref<|a+4) (af<|.ref<|c+4) (af<|.ref<|co+4) aJ aJ) Z
   λV Tr F=>V= .next/\C6 m o n l g h i j k e rw u d a c co (F++Z) Tr:=by
 refine hide λGq Y=>?_
 obtain⟨i0,G,H⟩:=kd s3;obtain⟨M,O,P⟩:=kd w3;obtain⟨I,J,L⟩:=kd U;refine kC ts.zc λs0 s1 s2 B=>?_;subst B
 refine kC tw.Ox λw0 w1 w2 B=>?_;subst B
 refine kC tc.zc λR S T B=>?_;subst B
 refine Y<|VS.execs<|Pr 960 hb (zd rfl) (aj (iE ar) ay) (aq hs<|aq hw<|aq hc ax) λb1 b2 N Ts Tt=>ah ⟨_,qx<|by mul_fits,λQ C T1=>ah ⟨_,qx<|by mul_fits,λQ D T2=>ah ⟨_,qx<|by mul_fits,λQ E T3=>ah ⟨_,rfl,rfl,T3+1,N+2,_,rfl,.head _,?_⟩⟩⟩⟩;refine .cons (b:=qW 0 i0 M I) ⟨C+1,_,_,C,_,_,_,_,rfl,aL<|.tail _<|.head _,aL<|.tail _<|.tail _<|.tail _<|.tail _<|.head _⟩<|.cons (b:=qW 1 G O J) ⟨D+1,_,_,D,_,_,_,_,rfl,aL<|.tail _<|.tail _<|.head _,aL<|.tail _<|.tail _<|.tail _<|.tail _<|.tail _<|.head _⟩<|.cons (b:=qW 2 H P L) ⟨E+1,_,_,E,_,_,_,_,rfl,aL<|.tail _<|.tail _<|.tail _<|.head _,aL<|.tail _<|.tail _<|.tail _<|.tail _<|.tail _<|.tail _<|.head _⟩ .nil
end
def ig(b:List Int)(a:Int):List (Nat×SX):=(Tp 4).map λ(k:Nat)=>((b.getD (iw a k) 0).toNat,names4.getD (iw a k) default)
theorem Li(a:Int)(k:Nat):iw a k<4:=by
 refine aI (jY ((k:Int)+a.fdiv 36) (k:=4)<|zd rfl) λi c b=>?_
 show(((k:Int)+a.fdiv 36).fmod (4:Nat)).toNat<4;rw[c];exact b
theorem Ed{l:List Int}(h:∀x∈l,0<=x/\x<4)(i:Nat):0<=l.getD i 0/\l.getD i 0<4:=by
 rw[Ta];cases e:l[i]? with
 |none=>decide
 |some x=>exact h x<|Vf e
theorem AN(h:∀x∈a,0<=x/\x<4):(ig a b).map cO=nM a b:=by
 unfold ig nM;rw[Vb];refine VD λk c=>?_
 show(((a.getD (iw b k) 0).toNat:Int),_)=_;rw[WY (Ed h _).1]
theorem Rd(h:i<4):names4.getD i default∈names4:=by
 rcases eg h with rfl|rfl|rfl|rfl
 ·exact .head _
 ·exact .tail _<|.head _
 ·exact .tail _<|.tail _<|.head _
 ·exact .tail _<|.tail _<|.tail _<|.head _
theorem DZ(h:∀x∈b,0<=x/\x<4):∀p∈ig b a,p.2∈names4/\p.1<4:=λp c=>by
 refine aI (bO c) λk e d=>?_;subst d
 refine⟨Rd<|Li a k,?_⟩;have:=Ed h<|iw a k;exact(Int.toNat_lt this.1).mpr this.2
theorem qL(a:List Int)(b:Int):(ig a b).length=4:=by unfold ig;rw[aM];rfl
theorem tF{d:List Int}(e:d.length=3):∀x∈hP d,0<=x/\x<4:=λx f=>by
 obtain⟨a,b,c⟩:=kd e;refine aI (bO f) λk h g=>?_;subst g
 show 0<=cF a k+(cF b k+(cF c k+0))/\cF a k+(cF b k+(cF c k+0))<4;exact IU (lB a k) (lB b k)<|lB c k
theorem Kj(a:List Int):(hP a).length=4:=by unfold hP;rw[aM];rfl
theorem xk{p q r:Nat×S9}(h:fK p.2)(b:fK q.2)(c:fK r.2):∀x∈[p,q,r],fK x.2:=λx a=>by
 rcases bK a with rfl|a
 ·exact h
 ·rcases bK a with rfl|a
  ·exact b
  ·rcases dg a with rfl;exact c
inductive z6(rows:List Int)(kf:Int)(tb tr o5 o7 C4 Ad p5:S9)(sv:va)(nm rw u k0 k1 ca:Nat)(Y:Led)(objs:List S9):Prop
 |mk (k2 k3 li nd b fC ln a nn) (h0:objs=[tb,tr,ao [ent "script" k0 sv,ent "calls" k1<|.ref<|ca+4,ent "line" k2<|.ref<|li+4,ent "text" k3<|.str (pq (ig (hP rows) kf) kf)<|b+1] 4,o5,af<|.ref<|nm+4,o7,af<|.ref<|rw+4,af<|.int kf<|u+1,C4,Ad,p5,af<|.ref<|nd+4,aJ]) (h1:(li+4,aa fC ln)∈Y) (h2:ak Y fC ((nM (hP rows) kf).map item)) (h3:(nd+4,aa a nn)∈Y) (h4:ak Y a ((hP rows).map .int)):z6 rows kf tb tr o5 o7 C4 Ad p5 sv nm rw u k0 k1 ca Y objs
section
variable{b f e g d rw r s u h t v w x:Nat}{i j k l m n o:S9}{p:va}{a:Int}{q:List va}{c:List Int}{Z:Led}
theorem PU(Y:b+40<=720)(J:(rw+4,aa q r)∈Z)(ht:ak Z q (c.map .int))(O:c.length=3)(I:(d+4,aa (xo t v w x) s)∈Z):
  VS b (fu f) (PySem.execs [bx 9,bx 10,bx 11]<|eZ f) (lG f i j (ao [ent "script" e p,ent "calls" g<|.ref<|h+4] 2) k (af<|.ref<|d+4) l (af<|.ref<|rw+4) (af<|.int a<|u+1) m n o aJ aJ) Z
   λU Tr F=>U= .next/\z6 c a i j k l m n o p d rw u e g h (F++Z) Tr:=by
 have E:=tF O;refine VS.execs<|M5 720 Y (zd rfl) (aj j1<|aj (pz ar)<|aj (f7 ar)<|aj (Ld ar)<|aj lp ay) (aq J<|aq I ax) λb1 b2 Tu Tz TH=>ah ⟨_,4,_,_,_,rfl,rfl,by decide,λTF C TA=>?_⟩;refine ah ⟨_,sO<|cZ _,QQ (b:=720) (zd rfl) (.head _) (.tail _ J) (ht.sub λN y=>.tail _ y) O,λz P L z Q G Tw TB=>?_⟩;refine ah ⟨_,4,_,_,_,rfl,rfl,by decide,λTG D TC=>?_⟩;refine ah ⟨_,_,xk (cZ _) (cZ _)<|cZ _,HX (b:=720) (zd rfl) (.tail _<|.head _) (.head _) (.tail _<|.tail _<|.head _) (.tail _<|.tail _<|.tail _<|.head _) G.ints (Kj _)<|.tail _<|.tail _<|.tail _<|aR<|aR I,by decide,λz z B M z R V Tx T=>?_⟩;have H:ak (([(D+4,aa B M)]++(R++([(C+4,aa P L)]++(Q++[]))))++Z) B ((nM (hP c) a).map item):=V.sub λN y=>by
  rw[<-aZ] at y;exact mm (λy A=>aR A) y
 refine ah ⟨_,HA (b:=720) (zd rfl) (.head _) (f:=ig (hP c) a) (by rw[AN E];exact H) (qL _ _)<|DZ E,λTs Tt Tv S=>?_⟩;exact ah ⟨_,rfl,rfl,T,S,D,C,Ts,B,M,P,L,rfl,aL<|aR<|aR<|.head _,H.sub λN y=>mm (λy A=>aR<|aR A) y,aL<|aR<|aR<|aR<|aR<|.head _,G.ints⟩
end
structure jm(B:Nat)(t:b8):Prop where
 lg:∀x,(t.lg x).length<=B/\∀p∈t.lg x,p.1∈cH
 cd:∀y,(t.cd y).length<=B/\∀n∈t.cd y,n∈names4
theorem C0{c:Type}{f:SX->List c}{P:c->Prop}{a:c}(h:∀x,(f x).length<=B/\∀p∈f x,P p)(d:P a):∀x,(bG f k (f k++[a]) x).length<=B+1/\∀p∈bG f k (f k++[a]) x,P p:=λx=>by
 by_cases e:x=k
 ·subst e
  rw[iy,Vd];refine⟨VB (h x).1<|VA 1,λp b=>?_⟩;rcases bB b with b|b
  ·exact(h x).2 p b
  ·rcases dg b with rfl;exact d
 ·rw[fV _ _ e]
  exact⟨Ve (h x).1,(h x).2⟩
theorem IK{one:R4}(d:b∈cH):∀(a:List SX) (s:b8) (B:Nat),(∀x∈a,x∈names4)->jm B s->jm (B+a.length) (eV b one a s):=by
 intro a;induction a with
 |nil=>intro s B g h;exact h
 |cons x a f=>
  intro s B c h;have z:=f (kx b one s x) (B+1) (λy e=>c y<|.tail _ e) ⟨C0 h.lg d,C0 h.cd<|c x<|.head _⟩;rw[Wu,Ww 1] at z;exact z
theorem jm.le(h:jm B t)(b:B<=a):jm a t:=⟨λx=>⟨SQ (h.lg x).1 b,(h.lg x).2⟩,λx=>⟨SQ (h.cd x).1 b,(h.cd x).2⟩⟩
theorem Dy:∀(e:List Call) (a:List (Int×SX)) (s:b8) (B:Nat),(∀c∈e,c.2.1∈cH)->a.length=4->(∀p∈a,p.2∈names4)->jm B s->
  jm (B+4*e.length) (d5 e a s).2.2/\∀p∈(d5 e a s).2.1,p.2∈names4:=by
 intro e;induction e with
 |nil=>intro a s B u u g h;exact⟨h,λp b=>g p<|(mL a).mem_iff.mp b⟩
 |cons c v r=>
  intro a s B j m g h;have f:∀p∈bW a,p.2∈names4:=λp b=>g p<|(mL a).mem_iff.mp b
  have k:(bW a).length=4:=(mL a).length_eq.trans m;unfold d5;split
  ·exact⟨h.le<|VI _ _,f⟩
  ·have t:(((bW a).drop (4-c.1).toNat).map (·.2)).length<=4:=by rw[aM,Yi];exact SQ (Nat.sub_le _ _)<|Th k
   have z:=IK (one:=c.2.2) (j c<|.head _) (((bW a).drop (4-c.1).toNat).map (·.2)) s B (λx o=>by
    refine aI (bO o) λp b i=>?_;subst i
    exact f p (List.mem_of_mem_drop b)) h
   have q:=r ((bW a).map λp=>(p.1-(((((bW a).drop (4-c.1).toNat).map (·.2)).count p.2:Nat):Int),p.2)) (eV c.2.1 c.2.2 (((bW a).drop (4-c.1).toNat).map (·.2)) s) (B+4) (λd l=>j d<|.tail _ l) (by rw[aM];exact k) (λp b=>by
    refine aI (bO b) λq n i=>?_;subst i
    exact f q n)<|z.le<|VC t B
   rw[bT];exact⟨q.1.le<|Th<|by rw[Wu,Ww 4];rfl,q.2⟩
theorem CP:jm 0 gq:=⟨λa=>⟨VA _,λa h=>nomatch h⟩,λa=>⟨VA _,λa h=>nomatch h⟩⟩
theorem jm.ok(h:jm B t)(a:B<=100):gx t:=⟨(h.le a).lg,(h.le a).cd⟩
theorem wx:dP cL gq:=⟨λa=>rfl,λa=>rfl⟩
theorem Jy(h:oh Z d o b)(A:∀x∈names4,x∈b)(H:b.Nodup):
  ∃r j f s t i q,eQ Z d o r j f s t i q/\keysOf i=b/\i.length=b.length:=by
 obtain⟨l,j,f,E,F,c,e,P,O,ne,N,v,w,B,z,u,g,m,G,mt,L,M⟩:=h;have J:((nA e).map (·.1)).Nodup:=by rw[m];exact nR
 have I:((nA c).map (·.1)).Nodup:=by rw[g];exact H
 have n:keysOf (dE c)=b:=by
  rw[<-g];unfold keysOf dE nA;rw[Vb,Vb];rfl
 refine Ay l j f E F (dE c) (dE e) ⟨v,w,B,z,mD c,λx C=>?_,u,mD e,λy D=>?_⟩ n ?_
 ·have:x∈(nA c).map (·.1):=by rw[g];exact A x C
  refine aI (bO this) λp a k=>?_;subst k
  exact jd p.2 _ _ (ou I p a) (G p a)<|L p a
 ·have:y∈(nA e).map (·.1):=by rw[m];exact D
  refine aI (bO this) λp a k=>?_;subst k
  exact jd p.2 _ _ (ou J p a) (mt p a)<|M p a
 ·have:=congrArg Tn n
  unfold keysOf at this;rw[aM] at this;exact this
theorem HN{Q:W8->XT->Tf->Prop}{E:va->XT->Tf->Prop}:∀(g:List Wq) (p:XT) (s:Tf),VG M c (PySem.execs g i) (λf a b=>(∃v,f=Xr v)/\Q f a b) E p s->VG M c (PySem.execs (g++rest) i) Q E p s:=by
 intro g;induction g with
 |nil=>
  intro p s h;have j:VG M c (pure Xf) (λf a b=>(∃v,f=Xr v)/\Q f a b) E p s:=h;rw[Wo] at j;obtain⟨⟨v,e⟩,_⟩:=j;cases e
 |cons st g l=>
  intro p s h;have j:VG M c (PySem.exec st i>>=λf=>match f with| .next=>PySem.execs g i|f=>pure f) (λf a b=>(∃v,f=Xr v)/\Q f a b) E p s:=h;show VG M c (PySem.exec st i>>=λf=>match f with| .next=>PySem.execs (g++rest) i|f=>pure f) Q E p s;rw[V0] at j⊢;refine V8 M c _ (λf a b x=>?_) (λk k k x=>x) p s j;cases f with
  |next=>exact l a b x
  |brk=>have d:VG M c (pure W8.brk) (λf a b=>(∃v,f=Xr v)/\Q f a b) E a b:=x;rw[Wo] at d;obtain⟨⟨v,e⟩,_⟩:=d;cases e
  |cont=>have d:VG M c (pure W8.cont) (λf a b=>(∃v,f=Xr v)/\Q f a b) E a b:=x;rw[Wo] at d;obtain⟨⟨v,e⟩,_⟩:=d;cases e
  |ret v=>have d:VG M c (pure<|Xr v) (λf a b=>(∃v,f=Xr v)/\Q f a b) E a b:=x;rw[Wo] at d;show VG M c (pure<|Xr v) Q E a b;rw[Wo];exact d.2
theorem VS.Md{i rest:List Wq}{j:W8->List S9->Led->Prop}(t:VS b c (PySem.execs i k) L Z λf e F=>(∃v,f=Xr v)/\j f e F):VS b c (PySem.execs (i++rest) k) L Z j:=by
 intro A x h N T g d I B z G hk w D Q E u J p y H;exact HN i p _<|t A x h N T g d I B z G hk w D (λf s=>(∃v,f=Xr v)/\Q f s) E (λa e F r n o q l C m=>⟨l.1,u a e F r n o q l.2 C m⟩) J p y H
structure ql(x:SX)(d:Nat)(eb:List (Nat×SX))(a:List Call)(sh nd:List Int):Prop where
 h4:eb.length=4
 hr:∃r,r<4/\(eb.map cO).map (·.2)=iK r
 hm:∀p∈eb,p.2∈names4/\p.1<4
 hc:∀c∈a,0<=c.1/\c.2.1∈cH
 hl:a.length=3
 x1:∀e∈x.cps.toList,1<=e
 x2:x.cps.all (· <128)=true
 x3:x.cps.toList.length<=900
 hR:∀aN:List (Nat×Nat),aN.map (λp=>p.1+1)=x.cps.toList->Reads ⟨1,aN,[]⟩ eb ⟨1+d,[],[]⟩
 hN:∀(b:Nat) (t u:Xi) (Z:Led),SP w b (.builtin "str.count" ⟨[.str x t,.str "\n" u],[]⟩) [] Z (Ri (d:Int) [])
 hS:sh.length=3
 hD:nd.length=4
 hF:kZ sh nd=(cD a eb cL).1
theorem Ss:∀r,r<4->∀x∈names4,x∈iK r:=by
 intro r a;rcases(by exact eg ‹_› :r=0\/r=1\/r=2\/r=3) with rfl|rfl|rfl|rfl<;>decide+kernel
theorem JA:∀r,r<4->∀x∈iK r,x∈names4:=by
 intro r a;rcases(by exact eg ‹_› :r=0\/r=1\/r=2\/r=3) with rfl|rfl|rfl|rfl<;>decide+kernel
theorem BE:SP w b (.builtin "int.__ne__" ⟨[.bool r,.bool r],[]⟩) [] Z (Rv (.bool false) []):=
 SP.val F.entry_int_ne (by decide+kernel) (by have:=PySem.SeqAt.int___ne___bool_bool_0 r r;cases r<;>exact this) ⟨rfl,rfl,rfl,rfl,rfl⟩
theorem CU(h:i=k):SP w b (.builtin "int.__ne__" ⟨[.int i t,.int k u],[]⟩) [] Z (Rv (.bool false) []):=by
 subst h;exact SP.val F.entry_int_ne (by decide+kernel) (by have:=gives_int_ne i i t u;rw[show(i !=i)=false by simp] at this;exact this) ⟨rfl,rfl,rfl,rfl,rfl⟩
theorem BY(i:b<=720)(j:∀p∈bp P,p∈Z):
  SP w b (pf P) [(P.d1+4,aO P a c),(P.lf+4,aa (aC []) n),(P.pb+4,aa (b7 []) m)] Z λr e d F g=>(d=[]/\F=[]/\g=[])/\∃u c k l,r= .ok (.ret<|.str ""<|u+1)/\e=[aO P a c,k,l]:=by
 refine(A1 (S:=⟨a,[],[]⟩) i j (Vc _)<|Vc _).mono ar (λh q=>q) ?_;rintro r e d F g h f h;refine y5 f λu y A z o s t v x=>?_;clear f;subst o s t v x
 exact⟨⟨rfl,rfl,rfl⟩,u,y,_,_,rfl,rfl⟩
section
variable{b f m n p q i N u g k O c P l Q R S T U D:Nat}{j E s v y z A B:S9}{C:va}{x:SX}{I J L M:List va}{a:List (Nat×SX)}{e:List Call}{G H:List Int}{Z:Led}
theorem yJ(d:ql x D a e G H)(Tz:bC j)(hT:Tells (F++(t++Z)) (.ref<|Ts+4) (m9<|cD e a cL))(hD:oh (Tr++((F++t)++Z)) Tt (d5 e (a.map cO) gq) ((a.map cO).map (·.2))):
  SP w 520 (.call (.ref 155) ⟨[.ref<|Ts+4,.ref<|Tt+4],[]⟩) [(23,j)] ((Tr++(F++t))++Z) λr TB TA TF ro=>r= .ok (.ret<|.bool true)/\TA=[]/\ro=[]/\∃Tv,bC Tv/\TB=[Tv]:=by
 refine hide λTG hQ=>mI (uc hT) λla bo ta TM TO TH TP Tx=>aI d.hr λr hr Y=>?_
 have c:((a.map cO).map (·.2)).Nodup:=by rw[Y];exact tU r hr
 refine A8 (Jy hD (by rw[Y];exact Ss r hr) c) λdl lo g dn TK TL TJ Tw hk hl=>?_
 refine hQ ?_;have bd:=Dy e (a.map cO) gq 0 (λV h=>(d.hc V h).2) (by rw[aM];exact d.h4) (λTu hp=>by
  refine aI (bO hp) λo hq TC=>?_;subst TC
  exact(d.hm o hq).1) CP
 have rl:=uY e a cL gq d.h4 (by rw[Vb] at c;exact c) (λV h=>(d.hc V h).1) wx;exact Ng (zd rfl) Tz (Tx.sub λTu o=>by rw[<-aZ] at o;exact mm (λo h=>aR h) o) (Tw.sub λTu o=>by rw[aZ];exact o) rl.2.2 (bd.1.ok<|by rw[d.hl];decide) (by rw[hk,Y];exact JA r hr) (by rw[hk];exact c) (by rw[hl,aM,aM];exact d.h4) rl.1 rl.2.1 bd.2
theorem bC.tab(h:bC o):g8 o:=h.elim (λd=>aB _ d) λ⟨_,d⟩=>aB _ d
theorem fR(h:d∈Z):d∈F++Z:=aR h
inductive tR(f:Nat)(m n p q g k u i l c:Nat)(x:SX)(C:va)(s v y z A B:S9)(res:Bool×List (Int×SX)×bU)(Z:Led):W8->List S9->Led->Prop
 |no {objs F} (h:res.1=false) (t:wb objs):tR f m n p q g k u i l c x C s v y z A B res Z (.ret<|.bool true) objs F
 |go {F} (j E k4 rd d) (h:res.1=true) (ht:bC j) (Sz:g8 E) (hT:Tells (F++Z) (.ref<|d+4) (m9 res)):tR f m n p q g k u i l c x C s v y z A B res Z .next [j,E,ao [ent "script" m C,ent "calls" n<|.ref<|g+4,ent "line" p<|.ref<|k+4,ent "text" q<|.str x<|u+1,ent "reader" k4<|.ref rd] 5,s,af<|.ref<|i+4,v,y,z,af<|.ref<|l+4,A,B,af<|.ref<|c+4,af<|.ref<|d+4] F
theorem M1(hb:b+40<=450)(o:ql x D a e G H)(Ui:bC j)(Ug:(i+4,aa (xo R S T U) N)∈Z)(TA:(g+4,aa I 3)∈Z)(TB:fJ Z I e)(TK:(k+4,aa J O)∈Z)(TO:ak Z J ((a.map cO).map item))
  (cu:(l+4,aa M Q)∈Z) (TQ:ak Z M (G.map .int)) (TL:(c+4,aa L P)∈Z) (TP:ak Z L (H.map .int)):
  VS b (fu f) (PySem.execs [bx 12,bx 13,bx 14,bx 15,bx 16]<|eZ f) (lG f j (We ⟨[]⟩) (ao [ent "script" m C,ent "calls" n<|.ref<|g+4,ent "line" p<|.ref<|k+4,ent "text" q<|.str x<|u+1] 4) s (af<|.ref<|i+4) v y z (af<|.ref<|l+4) A B (af<|.ref<|c+4) aJ) Z
   (tR f m n p q g k u i l c x C s v y z A B (cD e a cL) Z):=by
 refine VS.execs (FP 450 hb (zd rfl) (aj (ON<|zd rfl)<|aj (E0 ar)<|aj (FL<|zd rfl)<|aj (Ac<|zd rfl)<|aj (Cm<|zd rfl)<|aj (Cm<|zd rfl)<|aj (G7<|zd rfl)<|aj (iE<|zd rfl)<|aj (iC<|zd rfl)<|aj lp ay) ax λb1 b2 Up Ur Ut=>?_);refine ah ⟨u,x,rfl,rfl,o.x1,o.x2,o.x3,λY Tu TG w V TJ N8 Ub=>?_⟩;have Uh:∀F∈bp (cz Y w V),F∈(bp (cz Y w V)++[])++Z:=λF h=>aL<|aL h
 have Uu:Tu.length<=900:=by have:=congrArg Tn TJ;rw[aM] at this;have:=o.x3;exact d4 ‹_› ‹_›
 have zr:=Jk (b:=450) (P:=cz Y w V) (S:=⟨1,Tu,[]⟩) (v:=V+26) (n:=TG) (m:=0) (t:=i) (k:=g) (q:=j) (Z:=(bp (cz Y w V)++[])++Z) (l:=1+(D:Int)) (j:=[]) (i:=e) (g:=a)
  (zd rfl) (DW<|zd rfl) Uh (aR Ug) (aR TA) (TB.sub λF t=>aR t) (λUd h=>(o.hc Ud h).2) (by rw[o.hl];decide) (λF h=>(o.hm F h).1) o.h4 (o.hR Tu TJ) (λF h=>(o.hm F h).2) ⟨by show Tu.length<=1000;exact SQ ‹_›<|zd rfl,Vc _⟩ (Vc _) Ui
 refine ah ⟨(cD e a cL).1,ki V,w+9,w+15,1+(D:Int),λo1 o2 Tr d=>(∃TG Uj,o1=aa (aC []) TG/\o2=aa (b7 []) Uj)/\Tells Tr (.ref<|d+4) (m9<|cD e a cL),?_,?_,?_⟩
 ·refine zr.mono ar (λzu t=>t) ?_
  rintro r Uy Ux Uo ro zu ⟨hn,d,tl,n',m',Ul,rfl,rfl,ht,hT⟩ zu;exact hide λUq hQ=>mI (uc hT) λla bo ta Uv Uw Us Uz TS=>hQ<|⟨hn,d,tl,_,_,Ul,la,bo,ta,rfl,rfl,ht,TS.ht,cA n' m' rfl rfl,hT⟩
 ·intro Ts tl o1 o2 Um TH la bo ta Tv TC hX TY T7
  refine hide λGq Tz=>?_
  obtain⟨⟨n',m',rfl,rfl⟩,hT⟩:=hX;refine Tz<|ah ⟨λTr d=>oh Tr d (d5 e (a.map cO) gq) ((a.map cO).map λx:Int×SX=>x.2),yU (b:=600) (zd rfl) (fR TK) (TO.sub λF t=>aR t) (fR TA) (TB.sub λF t=>aR t) o.hr o.hc<|by rw[o.hl];decide,λUe Tw hD TZ T8=>?_⟩;refine⟨yJ o TC hT hD,λTM Tx TF T1 T9=>?_⟩;refine ah ⟨?_,λTR T2 Ua=>⟨BE,λT3 Uc=>?_⟩⟩
  ·have Tt:=yD (b:=760) (zd rfl) o.hS o.hD (fR (F:=Tx++(Tw++(Tv++(bp (cz Y w V)++[])))) cu) (fR TL) TQ.ints TP.ints
   rw[o.hF,Ts] at Tt;exact Tt
  refine ah ⟨ki V,w+9,w+15,1+(D:Int),BY (P:=cz Y w V) (zd rfl) λF h=>aL<|aR<|aR<|aR<|aR<|aL h,λUn o3 o4 u2 TU T4=>?_⟩;exact ah ⟨_,o.hN _ _ _ _,λUk TV T5=>⟨CU rfl,λTX T6=>ah<|aX _ rfl (.go TM _ Ub _ TH Ts TF (aB _ rfl)<|hT.sub λF t=>by rw[<-aZ] at t;exact mm (λt h=>aR<|aR<|aR<|aR<|aR h) t)⟩⟩
 ·intro Ts tl o1 o2 Um TH la bo ta Tv TC hX TY T7
  refine hide λGq Tz=>?_
  obtain⟨⟨n',m',rfl,rfl⟩,hT⟩:=hX;refine Tz<|ah ⟨λTr d=>oh Tr d (d5 e (a.map cO) gq) ((a.map cO).map λx:Int×SX=>x.2),yU (b:=600) (zd rfl) (fR TK) (TO.sub λF t=>aR t) (fR TA) (TB.sub λF t=>aR t) o.hr o.hc<|by rw[o.hl];decide,λUe Tw hD TZ T8=>?_⟩;refine⟨yJ o TC hT hD,λTM Tx TF T1 T9=>?_⟩;refine ah ⟨?_,λTR T2 Ua=>⟨BE,λT3 Uc=>?_⟩⟩
  ·have Tt:=yD (b:=760) (zd rfl) o.hS o.hD (fR (F:=Tx++(Tw++(Tv++(bp (cz Y w V)++[])))) cu) (fR TL) TQ.ints TP.ints
   rw[o.hF,Ts] at Tt;exact Tt
  refine ah ⟨ki V,w+9,w+15,1+(D:Int),BY (P:=cz Y w V) (zd rfl) λF h=>aL<|aR<|aR<|aR<|aR<|aL h,λUn o3 o4 u2 TU T4=>?_⟩;exact ah ⟨_,o.hN _ _ _ _,λUk TV T5=>⟨CU rfl,λTX T6=>ah<|aX _ rfl (.no Ts ⟨_,_,_,_,_,_,_,_,_,_,_,_,_,TF.tab,aB _ rfl,rfl⟩)⟩⟩
end
theorem QG:dp=bD (a6 dp) (.Name "k"<|bb (aG dp).target) (aG dp).iter [fN dp] (aW dp) (bX dp):=by kernel_rfl
theorem QE:dv=bD (a6 dv) (.Tuple [.Name "need"<|bb<|bh 0 (aG dv).target,.Name "name"<|bb<|bh 1 (aG dv).target] 0<|bb (aG dv).target) (aG dv).iter [] (aW dv) (bX dv):=by kernel_rfl
theorem GQ:bx 18= .Return (some<|.BoolOp .And [.Compare dv [.Eq] [yj]<|gf<|bh 0<|bM<|bx 18,.Compare xY [.Eq] [DC]<|gf<|bh 1<|bM<|bx 18]<|gf<|bM<|bx 18) (gT<|bx 18).2:=by kernel_rfl
noncomputable def nI(b:List Int)(a:List SX)(x:SX):List Int:=((Tp 3).filter λk=>decide (a.getD k default=x)).map λk=>b.getD k 0
section
variable{b d e a l n c:Nat}{Z:Led}
theorem Bz{A:List Int}{i:List SX}(B:b+40<=960)(I:(o+4,af<|.ref<|v+4)∈Z)(J:(h+4,af<|.ref<|r+4)∈Z)(L:(q+4,af<|.str x H)∈Z)(E:(v+4,aa y G)∈Z)(C:(r+4,aa s F)∈Z)
  (Y:ak Z y (i.map .str)) (w3:i.length=3) (V:ak Z s (A.map .int)) (s3:A.length=3):
  SP w b (.compLoop dp 0 (.ref<|d+4) (.ref<|e+4)<|au 177 c (a+4) (aQ dp ["whos","who","shares"]) [("whos",o+4),("who",q+4),("shares",h+4)]) [(a+4,ab [] 0),(e+4,aa [] 0),(d+4,aK 0<|SR 3)] Z (cC Z 3 (dF "k")<|(nI A i x).map .int):=by
 unfold nI;rw[Vb];have z:=qo (b:=b) (e:=d) (f:=e) (d:=a) (m:=3) (Z:=Z) (g:=a6 dp) (j:=(aG dp).iter) (h:=[fN dp]) (k:=aW dp) (q:=bX dp) (x:="k") (L:=bb (aG dp).target) (p:=λk=>decide (i.getD k default=x)) (D:=λk=>.int<|A.getD k 0) (a:=au 177 c (a+4) (aQ dp ["whos","who","shares"]) [("whos",o+4),("who",q+4),("shares",h+4)]) B ⟨by kernel_rfl,by kernel_rfl,rfl⟩ (zd rfl)
  (λj u t M R f=>?_) (λj u t M R f g=>?_)
 ·rw[<-QG] at z;exact z
 ·obtain⟨Ts,U⟩:=Y.strAt (j:=j)<|by exact V4 ‹_<_› (Y9 ‹_›)
  refine VS.pQ (Jq _ _ _ c a t u j o q h v r G F H x y s (decide (i.getD j default=x)) 960 B (zd rfl) (aj (nY ar)<|aj (iC ar) ay) (aq (f _ I)<|aq (f _ J)<|aq (f _ L)<|aq (f _ E)<|aq (f _ C) ax) λO P N T Q=>?_);exact ah ⟨_,kj (.inr ⟨rfl,f _ E⟩) rfl (by exact SQ ‹_› (zd rfl)) U [] ax (di _ rfl rfl rfl rfl rfl),λg g g=>ah ⟨Au,λg g=>aY _ rfl rfl rfl⟩⟩
 ·obtain⟨Tr,S⟩:=V.intAt (j:=j)<|by exact V4 ‹_<_› (Y9 ‹_›)
  refine VS.b5 (PT 960 B (zd rfl) (aj m8 ay) (aq (f _ I)<|aq (f _ J)<|aq (f _ L)<|aq (f _ E)<|aq (f _ C) ax) λO P N T Q=>?_);exact ah ⟨_,_,j,_,_,_,_,_,rfl,.inr ⟨rfl,f _ C⟩,rfl,by exact SQ ‹_› (zd rfl),S,λg g=>aY _ rfl rfl (.int _ _)⟩
theorem QF{j:List (Int×SX)}(k:b+40<=960)(h:ak Z g (j.map item))(r:j.length=4)(C:∀p∈j,p.1=0)(A:(l+4,aa g n)∈Z):
  SP w b (.compLoop dv 0 (.ref<|d+4) (.ref<|e+4)<|au 177 c (a+4) (aW dv) []) [(a+4,ab [] 0),(e+4,aa [] 0),(d+4,aF l 0)] Z (cC Z g.length (jq "need" "name") [.int 0,.int 0,.int 0,.int 0]):=by
 have m:g.length=4:=by rw[h.len,aM,r]
 have z:=lJ (b:=b) (e:=d) (f:=e) (d:=a) (l:=l) (n:=n) (c:=g) (Z:=Z) (g:=a6 dv) (j:=(aG dv).iter) (h:=[]) (k:=aW dv) (q:=bX dv) (x:="need") (y:="name") (U:=bb<|bh 0 (aG dv).target) (V:=bb<|bh 1 (aG dv).target) (T:=bb (aG dv).target) (S:=0) (P:=oV j) (p:=λf=>true) (D:=λf=>.int 0) (a:=au 177 c (a+4) (aW dv) []) k ⟨by kernel_rfl,by kernel_rfl,rfl⟩ ⟨by kernel_rfl,by kernel_rfl,rfl⟩ (by decide+kernel) A (by exact d4 ‹_› (zd rfl)) (sZ h)
  (λi q F G t u o f f f v=>hY) (λi q F G t u o f f s v f=>?_)
 ·rw[<-QE,m] at z;rw[m];exact z
 ·obtain⟨p,E,L,B,rfl,rfl⟩:=s
  refine VS.b5 (Qn 960 k (zd rfl) ay ax λH I N T J=>?_);exact ah<|aY _ rfl rfl (by rw[C p<|Vf B];exact .int _ _)
end
theorem KS{c:Type}[DecidableEq c]:∀(l m:List c),l.Nodup->(∀x∈l,x∈m)->l.length<=m.length:=by
 intro l;induction l with
 |nil=>intro m j j;exact Vc _
 |cons x l g=>
  intro m i h;refine a0 (Vs.mp i) λd f=>?_
  have a:=h x<|.head _;have z:=g (m.erase x) f λy b=>(List.mem_erase_of_ne (λe:y=x=>d<|e▸b)).mpr<|h y<|.tail _ b
  rw[Z3 a] at z;have:0<m.length:=List.length_pos_of_mem a;rw[bT];exact SQ (Vk z)<|Th (kJ this).symm
theorem I6(h:∀x∈l,x∈names4):(cY l).length<=4:=by
 have e:(cY l).length=(bQ<|l.map λx=>x).length:=by
  have:=congrArg Tn<|lP (λx:SX=>x) nU l;rw[aM] at this;exact this
 rw[e];refine KS _ names4 (ob _) λx a=>?_
 have:=(jI _ _).mp a;rw[Zw] at this;exact h x this
theorem Mn(l:List SX):∀p∈cY l,∃i,p.2= .int i:=λp a=>by
 refine aI (bO a) λs c b=>?_;subst b
 exact aB _ rfl
theorem JJ{a b:Type}(g:List a->b)(l:List a):cx g l=(Tp l.length).map (λk=>g<|l.take k)++[g l]:=by
 show(Tp<|l.length+1).map (λk=>g<|l.take k)=_;rw[XD,mapA,cc,W3,Yc]
inductive z0(xs:List Int)(ss:List SX)(tb tr o5 o6 o7 o8 o9 p5 CV BS:S9)(sv:va)(x:SX)(sh wh u k0 k1 k2 k3 k4 ca li rd:Nat)(Y:Led)(objs:List S9):Prop
 |mk (k5 a q0 q1) (h0:objs=[tb,tr,ao [ent "script" k0 sv,ent "calls" k1<|.ref<|ca+4,ent "line" k2<|.ref<|li+4,ent "text" k3<|.str x<|u+1,ent "reader" k4<|.ref rd,ent "due" k5<|.ref<|a+4] 6,o5,o6,o7,o8,o9,af<|.ref<|sh+4,af<|.ref<|wh+4,p5,CV,BS]) (h1:(a+4,aa [.int (nI xs ss "f").sum<|q0+1,.int (nI xs ss "g").sum<|q1+1] 2)∈Y):z0 xs ss tb tr o5 o6 o7 o8 o9 p5 CV BS sv x sh wh u k0 k1 k2 k3 k4 ca li rd Y objs
section
variable{b f n p q r s t v u y F H N O d C I:Nat}{a c e g h j k z A l m J:S9}{B:va}{x:SX}{L M:List va}{D:List Int}{E:List SX}{Z:Led}
theorem E9(hb:b+40<=840)(o:(F+4,aa L N)∈Z)(P:ak Z L (D.map .int))(G:D.length=3)(w:(H+4,aa M O)∈Z)(Q:ak Z M (E.map .str))(R:E.length=3):
  VS b (fu f) (PySem.execs [bx 17]<|eZ f) (lG f a c (ao [ent "script" n B,ent "calls" p<|.ref<|t+4,ent "line" q<|.ref<|v+4,ent "text" r<|.str x<|u+1,ent "reader" s<|.ref y] 5) e g h j k (af<|.ref<|F+4) (af<|.ref<|H+4) l m J) Z
   λV Ts S=>V= .next/\z0 D E a c e g h j k l m J B x F H u n p q r s t v y (S++Z) Ts:=by
 refine VS.execs (Hw 840 hb (zd rfl) (aj j1<|aj (f7 ar)<|aj kh ay) (aq o<|aq w ax) λb1 b2 T TG TQ=>?_);refine ah ⟨_,3,_,_,_,rfl,rfl,by decide,λTP TB TK=>?_⟩;refine ah ⟨_,_,xk (cZ _) (cZ _)<|cZ _,Bz (b:=840) (A:=D) (i:=E) (zd rfl) (.tail _<|.head _) (.head _) (.tail _<|.tail _<|.head _) (aR w) (aR o) Q.oO R P.ints G,by decide,λi i TV TS i Tw Tr TC TL=>?_⟩;refine ah ⟨_,_,_,_,_,_,_,_,rfl,rfl,aL<|.head _,Tr.ints,λTu i i TF TM=>?_⟩;refine ah ⟨_,3,_,_,_,rfl,rfl,by decide,λTO Tx TH=>?_⟩;refine ah ⟨_,_,xk (cZ _) (cZ _)<|cZ _,Bz (b:=840) (A:=D) (i:=E) (zd rfl) (.tail _<|.head _) (.head _) (.tail _<|.tail _<|.head _) (aR<|aR w) (aR<|aR o) Q.oO R P.ints G,by decide,λi i TU TR i Tv Y Tz TJ=>?_⟩;refine ah ⟨_,_,_,_,_,_,_,_,rfl,rfl,aL<|.head _,Y.ints,λTt i i TA U=>?_⟩;exact ah ⟨_,rfl,rfl,U,T+1,Tu,Tt,rfl,.head _⟩
theorem Hd{Tx:Bool×List (Int×SX)×bU}{cd:SX->List SX}{i0 i1:Int}(hb:b+40<=880)(Y:eY Z d Tx la bo ta ln Tv TJ U)(h4:Tx.2.1.length=4)(hz:∀S∈Tx.2.1,S.1=0)(ht:∀V∈cH,Tx.2.2.tb V=cx cY (cd V))(hn:∀V∈cH,∀Ts∈cd V,Ts∈names4)
  (hf:eL (cY<|cd "f")=i0) (hg:eL (cY<|cd "g")=i1) (TM:(C+4,aa [.int i0<|q0+1,.int i1<|q1+1] 2)∈Z):
  VS b (fu f) (PySem.execs [bx 18]<|eZ f) (lG f a c (ao [ent "script" n B,ent "calls" p<|.ref<|t+4,ent "line" q<|.ref<|v+4,ent "text" r<|.str x<|u+1,ent "reader" s<|.ref y,ent "due" I<|.ref<|C+4] 6) e g h j k z A l m<|af<|.ref<|d+4) Z
   λfl T Tz=>fl= .ret (.bool true)/\T=[a,c,ao [ent "script" n B,ent "calls" p<|.ref<|t+4,ent "line" q<|.ref<|v+4,ent "text" r<|.str x<|u+1,ent "reader" s<|.ref y,ent "due" I<|.ref<|C+4] 6,e,g,h,j,k,z,A,l,m,af<|.ref<|d+4]:=by
 have hc:(fu f).cUnits<=100:=by show 3*1<=100;decide
 have TA:∀{G:Led},∀S∈[(d+4,ag [.bool Tx.1,.ref<|la+4,.ref<|bo+4,.ref<|ta+4]),(la+4,aa Tv ln),(ta+4,ab U U.length)],S∈G++Z:=λS P=>aR<|(aq Y.ht<|aq Y.hl<|aq Y.gr ax) S P
 let Tt:List S9:=[a,c,ao [ent "script" n B,ent "calls" p<|.ref<|t+4,ent "line" q<|.ref<|v+4,ent "text" r<|.str x<|u+1,ent "reader" s<|.ref y,ent "due" I<|.ref<|C+4] 6,e,g,h,j,k,z,A,l,m,af<|.ref<|d+4];rw[GQ];refine VS.ny<|(uH<|AY (p:=λT Q=>T=Tt) (g:=λTr T Tz=>Tr= .bool true/\T=Tt) ((rW (n:=λTr T F2=>T=Tt/\Tells (F2++Z) Tr (.list [.int 0,.int 0,.int 0,.int 0])) (m:=λT Q=>T=Tt) (.inl rfl) hc (by exact nP ‹_› (zd rfl)) ?_ λTr T F2 R Q=>?_).mono ar (λQ P=>P) λTr o Tz Q R=>R) λT F2 R Q=>?_).mono ar (λQ P=>P) λf o Tz Q R=>?_
 ·exact VS.b5<|Hi 880 hb (zd rfl) (aj (xe ar) ay) (λS P=>TA (G:=[]) S P) λb1 b2 TB TC Tw=>ah ⟨_,_,(λQ R=>nomatch R),QF (b:=880) (zd rfl) (Y.mj.sub λS P=>aR P) h4 hz<|aR Y.hl,by rw[Y.mj.len,aM,h4];decide,λQ Q Q Q Ub T8 Q TP TL TU T4=>ah<|aY _ rfl rfl (.lst (.head _)<|TL.sub λS P=>mm (λP R=>aR<|aR<|aL R) P)⟩
 ·refine a0 R λTF hT=>?_;clear R;subst TF
  refine VS.b5 (Gk 880 hb (zd rfl) ay (λS P=>TA S P) λb1 b2 TB TC Tw=>?_);exact ah<|aY _ rfl rfl (aY _ (by decide) (hT.sub λS P=>aR P)<|.lst (.head _)<|.cons (.int _ _)<|.cons (.int _ _)<|.cons (.int _ _)<|.cons (.int _ _) .nil)
 ·cases R
  have one:∀{G:Led} {V:SX} {i:Int},V∈cH->eL (cY<|cd V)=i->∃Tu vs Ts a2,bY V U=some (.ref<|Tu+4)/\(Tu+4,aa (vs++[.ref<|a2+4]) Ts)∈G++Z/\SP w 900 (.call (.ref 35) ⟨[.ref<|a2+4],[]⟩) [] (G++Z) (Ri i []):=λ{G V i} hy Tw=>by
   refine cQ (Y.ft V hy) λTu vs Ts h1 h2 h3=>?_
   rw[ht V hy,JJ,mapA] at h3;refine bE h3.snoc_inv λTO Tr TG Q hv=>?_;subst TG
   refine bE hv.fE λa2 Q TG Q Q=>?_;subst TG
   refine⟨Tu,TO,Ts,a2,h1,(aR h2),?_⟩;rw[<-Tw];exact EB (zd rfl) (hv.sub λS P=>aR P) (Mn _)<|I6<|hn V hy
  refine(rW (n:=λTr T F3=>T=Tt/\Tells (F3++(F2++Z)) Tr (.list [.int i0,.int i1])) (m:=λT Q=>T=Tt) (.inl rfl) hc (by exact nP ‹_› (zd rfl)) ?_ λTr T F3 R Q=>?_).mono ar (λQ P=>P) λTr o Tz Q R=>R
  ·refine lY (one (G:=F2) mY hf) λTu vs Ts a2 h1 h2 h3=>hide λTZ hQ=>lY (one (G:=F2) oo hg) λTK cs TH c2 g1 g2 g3=>hQ<|VS.b5<|O8 880 hb (zd rfl) (aj jv<|aj ru<|aj (iE<|zd rfl) ay) (λS P=>TA S P) λb1 b2 TB TC Tw=>ah ⟨_,_,_,_,_,Tu,_,Ts,rfl,Y.kt,.inr ⟨rfl,aR Y.gr⟩,h1,h2,λTV T5=>ah ⟨_,_,vs,Ts,a2,rfl,.inr ⟨rfl,h2⟩,λTX T6=>⟨_,h3,λUa TY T7=>ah ⟨_,_,_,_,_,TK,_,TH,rfl,Y.kt,.inr ⟨rfl,aR Y.gr⟩,g1,g2,λTQ T1=>ah ⟨_,_,cs,TH,c2,rfl,.inr ⟨rfl,g2⟩,λTR T2=>⟨_,g3,λT9 TS T3=>ah<|aY _ rfl rfl ?_⟩⟩⟩⟩⟩⟩;exact .lst (.head _)<|.cons (.int _ _)<|.cons (.int _ _) .nil
  ·refine a0 R λTF hT=>?_;clear R;subst TF
   refine VS.b5 (ND 880 hb (zd rfl) ay (λS P=>aR<|TA S P) λb1 b2 TB TC Tw=>?_);exact ah<|aY _ rfl rfl (aY _ rfl (hT.sub λS P=>aR P) (.lst (aR<|aR<|aR TM)<|.cons (.int _ _)<|.cons (.int _ _) .nil))
 ·obtain⟨Tr,rfl,rfl,R⟩:=R
  exact⟨rfl,R⟩
end
theorem Kg:b4 177=[bx 0,bx 1,bx 2,bx 3,bx 4,bx 5,bx 6,bx 7]++([bx 8]++([bx 9,bx 10,bx 11]++([bx 12,bx 13,bx 14,bx 15,bx 16]++([bx 17]++[bx 18])))):=by kernel_rfl
def iI(a:List Int):List Int:=hP<|i8 a
def cI(a:List Int):List (Nat×SX):=ig (iI a)<|eO a
def dT(a:List Int):List Call:=sj (fB a) (iY a)<|oq a
def kE(a:List Int):SX:=pq (cI a)<|eO a
structure vC(xs:List Int):Prop where
 hz:(cD (dT xs) (cI xs) cL).1=true->∀p∈(cD (dT xs) (cI xs) cL).2.1,p.1=0
 hq:(cD (dT xs) (cI xs) cL).1=true->∀y∈cH,eL (cY<|(d5 (dT xs) ((cI xs).map cO) gq).2.2.cd y)=(nI (fB xs) (iY xs) y).sum
theorem Ov:∀(b:List Call) (a:List (Nat×SX)) (s:bU),a.length=4->(cD b a s).2.1.length=4:=by
 intro b;induction b with
 |nil=>
  intro a s h;show(cv a).length=4;rw[(pE<|by exact Th ‹_›).length_eq,aM,h]
 |cons c f e=>
  intro a s h;have d:(cv a).length=4:=by rw[(pE<|by exact Th ‹_›).length_eq,aM,h]
  unfold cD;split
  ·exact d
  ·exact e _ _<|by rw[rY];exact d
section
variable{b f s g n h:Nat}{c d:S9}{e:List va}{a:List Int}{Z:Led}
theorem Pg(hb:b+40<=450)(hs:(s+4,aa e n)∈Z)(G:ak Z e (a.map .int))(h9:a.length<=900)(TB:bC c)(H:ql (kE a) h (cI a) (dT a) (fB a) (iI a))(E:vC a):
  VS b (fu f) (PySem.execs (b4 177)<|eZ f) (lG f c (We ⟨[]⟩) (ao [ent "script" g<|.ref<|s+4] 1) aJ aJ aJ aJ aJ aJ aJ aJ aJ aJ) Z λm k F=>m= .ret (.bool true)/\wb k:=by
 rw[Kg];refine VS.app (KA (by exact SQ ‹_› (zd rfl)) hs G h9) λk F hA j=>?_
 obtain⟨v,nm,sm,TL,sh,wh,co,t,TR,nr,ns,nw,nc,T1,T2,T4,TU,rfl,O,hr,TQ,D,N,P,U,hc,tc⟩:=hA;have L:=km a;have T:(fB a).length=3:=H.hS;have Y:(iY a).length=3:=by unfold iY;rw[aM];exact L
 have c3:(oq a).length=3:=by unfold oq rH;rw[aM];rfl
 refine VS.app ((Pu (Z:=F++Z) (by exact SQ ‹_› (zd rfl)) D N T P U Y hc tc c3).mono ar (λj q=>q) λm k l j i=>i) λk o B j=>?_
 obtain⟨Q,ca,TV,rfl,Tu,Tv⟩:=B;refine VS.app ((PU (Z:=o++(F++Z)) (c:=i8 a) (a:=eO a) (by exact SQ ‹_› (zd rfl)) (aR hr) TQ.ints L<|aR O).mono ar (λj q=>q) λm k l j i=>i) λk u B j=>?_
 obtain⟨R,S,li,nd,V,TF,ln,TZ,nn,rfl,Tx,TM,Tz,TP⟩:=B;have bd:∀x∈iI a,0<=x/\x<4:=tF L;have TO:ak (u++(o++(F++Z))) TF (((cI a).map cO).map item):=by unfold cI;rw[AN bd];exact TM
 have zC:=λ{o5 o7 o8 o9 TH TJ:S9}=>M1 (f:=f) (b:=b) (m:=g) (n:=Q) (p:=R) (q:=S) (u:=V) (j:=c) (s:=o5) (v:=o7) (y:=o8) (z:=o9) (A:=TH) (B:=TJ) (C:=.ref<|s+4) hb H TB (aR<|aR O) (aR Tu) (Tv.sub λp q=>aR q) Tx TO (aR<|aR D) N.ints Tz TP
 cases w:(cD (dT a) (cI a) cL).1 with
 |false=>
  refine VS.Md (zC.mono ar (λj q=>q) λm k l hl i=>?_);cases i with
  |go c d J M A i=>rw[w] at i;cases i
  |no i t=>
   exact⟨aB _ rfl,rfl,t⟩
 |true=>
  refine VS.app (m:=λk l=>tR f g Q R S ca li V nm sh nd (kE a) (.ref<|s+4) (af<|.ref<|v+4) (af<|.ref<|sm+4) (af<|.ref<|TL+4) (af<|.int (eO a)<|TR+1) (af<|.ref<|wh+4) (af<|.ref<|co+4) (cD (dT a) (cI a) cL) (u++(o++(F++Z))) .next k l) (zC.mono ar (λj q=>q) λm k l hl i=>?_) λk z hC j=>?_
  ·cases i with
   |go c d J M A i G I C=>exact⟨rfl,.go c d J M A i G I C⟩
   |no i t=>rw[w] at i;cases i
  ·cases hC with
   |go c d J M A i TC I C=>
   have up:∀{q:Nat×S9},q∈F++Z->q∈z++(u++(o++(F++Z))):=λq=>aR<|aR<|aR q
   refine VS.app ((E9 (Z:=z++(u++(o++(F++Z)))) (D:=fB a) (E:=iY a) (by lia) (up D) N.ints T (up P) U.oO Y).mono ar (λj q=>q) λm k l j i=>i) λk F4 hD j=>hide λGq Tt=>?_
   obtain⟨k5,du,q0,q1,rfl,Tw⟩:=hD;refine mI (uc C) λla bo ta TX TY TS T3 Tr=>aI H.hr λr TA er=>Tt ?_;have TG:((cI a).map (·.2)).Nodup:=by
    have:=tU r TA;rw[<-er,Vb] at this;exact this
   have Ts:=Dy (dT a) ((cI a).map cO) gq 0 (λv i=>(H.hc v i).2) (by rw[aM];exact H.h4) (λp hp=>by
    refine aI (bO hp) λq hq TK=>?_;subst TK
    exact(H.hm q hq).1) CP
   have rl:=uY (dT a) (cI a) cL gq H.h4 TG (λv i=>(H.hc v i).1) wx;exact(Hd (Z:=F4++(z++(u++(o++(F++Z))))) (by lia) (Tr.sub λp q=>aR q) (Ov _ _ _ H.h4) (E.hz w) (λy j=>rl.2.2.tb y) (λy j=>(Ts.1.cd y).2) (E.hq w _ mY) (E.hq w _ oo) Tw).mono ar (λj q=>q) λm k l j i=>⟨i.1,_,_,_,_,_,_,_,_,_,_,_,_,_,TC.tab,I,i.2⟩
theorem II(k:b+40<=410)(q:(s+4,aa e n)∈Z)(t:ak Z e (a.map .int))(o:a.length<=900)(u:bC c)(H:ql (kE a) h (cI a) (dT a) (fB a) (iI a))(E:vC a):
  SP w b (.call (.ref 177) ⟨[.ref<|s+4],[]⟩) [(23,c),(106,We ⟨[]⟩)] Z λr m v F A=>r= .ok (.ret<|.bool true)/\v=[]/\∃j b,g8 j/\g8 b/\m=[j,b]:=by
 exact GR 410 k (zd rfl) (aj (RA ar) ay) ax λx y N T z=>ah ⟨SP.func (Pg (b:=410) (f:=N) (g:=T) (zd rfl) q t o u H E) λf m F l i=>di _ l.1 rfl rfl rfl l.2,λj b i i i i i i i i i i i i p k i i=>⟨rfl,rfl,j,b,p,k,rfl⟩⟩
end
noncomputable def oF(x:Nat):List Nat->List Nat
 |[]=>[x]
 |y::r=>match Yy x y with
  |true=>x::y::r
  |false=>y::oF x r
def kG(l:List Nat):List Nat:=l.foldl (λa x=>oF x a) []
noncomputable def posB:List Nat->Nat
 |[]=>0
 |0::r=>posB r
 |(_+1)::r=>posB r+1
noncomputable def sa(s:Nat):Nat->List Nat->List Nat
 |_,[]=>[]
 |k,x::r=>(match WH 4 (s+k) with|true=>x-1|false=>x)::sa s (k+1) r
def oe:List Nat->List Nat->Option (List Nat)
 |[],a=>some<|kG a
 |s::b,a=>match WH s (posB<|kG a) with
  |true=>oe b<|sa s 0<|kG a
  |false=>none
noncomputable def eU(k:Nat)(a:List Nat):Nat:=(a.map λn=>match Yy k n with|true=>k|false=>n).sum
def lZ(a b c:Nat)(d:List Nat):Bool:=WH a (eU 1 d)&&WH b (eU 1 d)&&WH c (eU 1 d)&&WH (a+b) (eU 2 d)&&WH (a+c) (eU 2 d)&&WH (b+c) (eU 2 d)&&WH (a+b+c) (eU 3 d)
noncomputable def FU:Option (List Nat)->Bool
 |some l=>l.all λn=>Xa n 0
 |none=>false
noncomputable def NP:Option (List Nat)->Bool
 |none=>true
 |_=>false
def tq(a b c:Nat)(d:List Nat):Bool:=match lZ a b c d with
 |true=>FU<|oe [a,b,c] d
 |false=>NP<|oe [a,b,c] d
noncomputable def jh:Nat->(Nat->Bool)->Bool
 |0,_=>true
 |n+1,f=>f n&&jh n f
theorem nz:∀{n:Nat} {f:Nat->Bool},jh n f=true->∀i,i<n->f i=true:=by
 intro n;induction n with
 |zero=>intro j j i h;exact absurd h<|Nat.not_lt_zero _
 |succ n g=>
  intro f e i h;have a:(f n&&jh n f)=true:=e;refine a0 (Bool.and_eq_true _ _▸a:f n=true/\jh n f=true) λb d=>?_
  by_cases c:i=n
  ·subst c;exact b
  ·exact g d i<|by exact Nat.lt_of_le_of_ne (Xg ‹_›) ‹_›
def DF:Bool:=jh 4 λc=>jh 4 λd=>jh 4 λe=>jh 4 λf=>jh (c+d+e+f+1) λa=>jh (c+d+e+f+1-a) λb=>tq a b (c+d+e+f-a-b) [c,d,e,f]
theorem LU:DF=true:=by decide+kernel
noncomputable abbrev gH(l:List Nat):List Int:=l.map λ(n:Nat)=>(n:Int)
theorem Nz(x:Nat)(s:SX):∀(b:List Nat) (l:List (Int×SX)),l.map (·.1)=gH b->(ins ((x:Int),s) l).map (·.1)=gH (oF x b):=by
 intro b;induction b with
 |nil=>exact fun
  |[],_=>rfl
  |_::_,h=>nomatch h
 |cons y b i=>exact fun
  |[],h=>nomatch h
  |q::l,h=>by
   injection h with a g;replace a:q.1=(y:Int):=a;unfold ins oF;by_cases c:x<y
   ·have d:(x:Int)<q.1:=by rw[a];exact W0.mpr ‹_›
    have f:Yy x y=true:=by rw[Nat.blt_eq];exact c
    rw[if_pos d,f,cc,cc,a,g];rfl
   ·have d:¬(x:Int)<q.1:=by rw[a];exact λh=> ‹¬_› (W0.mp h)
    have f:Yy x y=false:=by
     cases e:Yy x y with
     |false=>rfl
     |true=>rw[Nat.blt_eq] at e;exact absurd e c
    rw[if_neg d,f,cc,i l g,a];rfl
theorem Me:∀(b:List (Nat×SX)) (a:List (Int×SX)) (c:List Nat),a.map (·.1)=gH c->((b.map cO).foldl (λa p=>ins p a) a).map (·.1)=gH ((b.map (·.1)).foldl (λa x=>oF x a) c):=by
 intro b;induction b with
 |nil=>intro e e h;exact h
 |cons p b d=>intro a c h;exact d _ _<|Nz p.1 p.2 c a h
theorem DY(h:a.length<=4):(cv a).map (·.1)=gH (kG (a.map (·.1))):=by
 rw[oI h];exact Me a [] [] rfl
theorem xg:∀(b:List Nat) (l:List (Int×SX)),l.map (·.1)=gH b->(l.filter λp=>decide (0<p.1)).length=posB b
 |[],[],_=>rfl
 |[],_::_,h=>nomatch h
 |_::_,[],h=>nomatch h
 |0::b,q::l,h=>by
  injection h with a c;replace a:q.1=((0:Nat):Int):=a;rw[VF,if_neg<|by rw[a];decide];exact xg b l c
 |(y+1)::b,q::l,h=>by
  injection h with a c;replace a:q.1=((y+1:Nat):Int):=a;rw[VF,if_pos<|by rw[a];exact decide_eq_true<|by exact Xe.mpr (Vl _),bT,xg b l c];rfl
theorem Ql(s:Nat):∀(k:Nat) (a:List Nat) (l:List (Int×SX)),l.map (·.1)=gH a->(e7 (s:Int) k l).map (·.1)=sa s k a:=by
 intro k a;induction a generalizing k with
 |nil=>exact fun
  |[],_=>rfl
  |_::_,h=>nomatch h
 |cons y a g=>exact fun
  |[],h=>nomatch h
  |q::l,h=>by
   injection h with b f;replace b:q.1=(y:Int):=b;show(if 4-(s:Int)<=(k:Int) then q.1-1 else q.1).toNat::(e7 (s:Int) (k+1) l).map (·.1)=_;rw[g (k+1) l f,b];show _=(match WH 4 (s+k) with|true=>y-1|false=>y)::sa s (k+1) a;congr 1;by_cases c:4<=s+k
   ·rw[if_pos<|xw c,XO c]
    exact M6 y
   ·have d:WH 4 (s+k)=false:=by
     cases e:WH 4 (s+k) with
     |false=>rfl
     |true=>exact absurd (VL e) c
    rw[if_neg λq=>c<|r9 q,d];rfl
theorem Sd:∀(b:List Nat) (d:List Call) (a:List (Nat×SX)) (st:bU),a.length=4->d.map (·.1)=gH b->
  match oe b (a.map (·.1)) with
  |none=>(cD d a st).1=false
  |some l=>(cD d a st).1=true/\(cD d a st).2.1.map (·.1)=gH l:=by
 intro b;induction b with
 |nil=>exact fun
  |[],a,st,j,_=>⟨rfl,DY<|by exact Th ‹_›⟩
  |_::_,_,_,_,h=>nomatch h
 |cons s b u=>exact fun
  |[],_,_,_,h=>nomatch h
  |c::r,a,st,j,h=>by
   injection h with g t;replace g:c.1=(s:Int):=g;have m:=DY (a:=a) (by exact Th ‹_›);have o:=vD (a:=a) (by exact Th ‹_›);have i:(cv a).length=4:=by rw[(pE (a:=a)<|by exact Th ‹_›).length_eq,aM,j]
   have n:4-ef (cv a)=posB (kG (a.map (·.1))):=by rw[<-BM o i];exact xg _ _ m
   have k:=(qw o i).1;unfold oe cD;rw[g];by_cases f:s<=posB (kG (a.map (·.1)))
   ·rw[XO f,if_neg λq=>V5.mpr (W2.mpr<|n▸f)<|si k▸q]
    have z:=u r (e7 (s:Int) 0<|cv a) {gG (s:Int) c.2.1 c.2.2 0 (cv a) st with ps:=[]} (by rw[rY];exact i) t;rw[Ql s 0 _ _ m] at z;exact z
   ·have p:WH s (posB (kG (a.map (·.1))))=false:=by
     cases e:WH s (posB (kG (a.map (·.1)))) with
     |false=>rfl
     |true=>exact absurd (VL e) f
    rw[p,if_pos<|si k▸W0.mpr (n▸Nat.lt_of_not_le f)]
def rm(T:Int)(l:List Int):Prop:=∃x y z:Int,l=[x,y,z]/\0<=x/\0<=y/\0<=z/\x+y+z=T
theorem OZ(h:rm T e)(n:i<3)(o:j<3):rm T (jJ i j e):=by
 refine pF h λa b c m f g k l=>?_;clear h;subst m
 unfold jJ;split
 ·rename_i d
  rcases(by exact nT ‹_› :i=0\/i=1\/i=2) with rfl|rfl|rfl
  ·replace d:0<a:=d
   rcases(by exact nT ‹_› :j=0\/j=1\/j=2) with rfl|rfl|rfl<;>refine(i6 _ _ _ rfl ?_ ?_ ?_ ?_)<;>(try simp only[Zr,Zs,ZL,ZM])<;>lia
  ·replace d:0<b:=d
   rcases(by lia:j=0\/j=1\/j=2) with rfl|rfl|rfl<;>refine(i6 _ _ _ rfl ?_ ?_ ?_ ?_)<;>(try simp only[Zr,Zs,ZL,ZM])<;>lia
  ·replace d:0<c:=d
   rcases(by lia:j=0\/j=1\/j=2) with rfl|rfl|rfl<;>refine(i6 _ _ _ rfl ?_ ?_ ?_ ?_)<;>(try simp only[Zr,Zs,ZL,ZM])<;>lia
 ·exact i6 a b c rfl f g k l
theorem FC{T:Int}(b:i<3)(c:j<3):∀(m:Nat) {a:List Int},rm T a->rm T (mA i j m a):=by
 intro m;induction m with
 |zero=>intro e h;exact h
 |succ m d=>intro e h;exact d<|OZ h b c
theorem xB(a:Int){k:Nat}(hk:0<k):(a.fmod k).toNat<k:=by
 refine aI (jY a hk) λi b h=>?_
 rw[b];exact h
theorem sR{x:Int}{n m:Nat}(e:x=n)(h:x<m):n<m:=W0.mp<|e▸h
theorem RC{a b c d e f g:Nat}{i j k l m n o p q r s t:Int}(h:(a:Int)+b+c=i+(j+(k+(l+0)))+(m+(n+(o+(p+0))))+(q+(r+(s+(t+0)))))
  (u:i+(m+(q+0))=d) (v:j+(n+(r+0))=e) (w:k+(o+(s+0))=f) (x:l+(p+(t+0))=g):a+b+c=d+e+f+g:=SR.inj<|by show(a:Int)+b+c=d+e+f+g;rw[h,<-u,<-v,<-w,<-x];exact Gp
theorem rJ{B:List Int}(q:Int)(L:B.length=3):∃a b c h l m n:Nat,ox B q=[(a:Int),(b:Int),(c:Int)]/\hP B=[(h:Int),(l:Int),(m:Int),(n:Int)]/\h<4/\l<4/\m<4/\n<4/\a+b+c=h+l+m+n:=by
 refine hide λH w=>?_
 obtain⟨d,e,f⟩:=kd L;have g:=tF (d:=[d,e,f]) rfl;have I:hP [d,e,f]=[cF d 0+(cF e 0+(cF f 0+0)),cF d 1+(cF e 1+(cF f 1+0)),cF d 2+(cF e 2+(cF f 2+0)),cF d 3+(cF e 3+(cF f 3+0))]:=rfl;have p:∀r,f6 r=cF r 0+(cF r 1+(cF r 2+(cF r 3+0))):=λP=>rfl
 have A:∀r,0<=f6 r:=λr=>by
  rw[p];exact Qm (lB r 0) (lB r 1) (lB r 2)<|lB r 3
 refine pF (FC (T:=f6 d+f6 e+f6 f) (i:=((q.fdiv 4).fmod 3).toNat) (j:=((q.fdiv 12).fmod 3).toNat) (xB _ (k:=3)<|zd rfl) (xB _ (k:=3)<|zd rfl) (q.fmod 4).toNat (a:=[f6 d,f6 e,f6 f])<|i6 _ _ _ rfl (A _) (A _) (A _) rfl) λx y z J M N O G=>w ?_;rw[I] at g⊢;rw[p,p,p] at G;have C:=g _<|.head _;have D:=g _<|.tail _<|.head _;have E:=g _<|.tail _<|.tail _<|.head _;have F:=g _<|.tail _<|.tail _<|.tail _<|.head _;refine hide λH w=>aw (VR M) λa o=>?_;subst o
 refine aw (VR N) λb o=>?_;subst o
 refine aw (VR O) λc o=>?_;subst o
 refine aw (VR C.1) λh s=>aw (VR D.1) λl t=>aw (VR E.1) λm u=>aw (VR F.1) λn v=>w<|(Ay a b c h l m n J (by rw[s,t,u,v]) ?_);exact⟨sR s C.2,sR t D.2,sR u E.2,sR v F.2,RC G s t u v⟩
theorem EG(k:Nat):∀a:List Nat,(minD (gH a) k).sum=(eU k a:Nat):=by
 intro a;induction a with
 |nil=>exact rfl
 |cons n a f=>
  have d:=f;show(if SR k<(n:Int) then SR k else(n:Int))+(minD (gH a) k).sum=(((match Yy k n with|true=>k|false=>n)+eU k a:Nat):Int);rw[d];by_cases c:k<n
  ·have b:Yy k n=true:=by rw[Nat.blt_eq];exact c
   rw[if_pos<|by show(k:Int)<n;exact W0.mpr ‹_›,b];rfl
  ·have b:Yy k n=false:=by
    cases e:Yy k n with
    |false=>rfl
    |true=>rw[Nat.blt_eq] at e;exact absurd e c
   rw[if_neg<|by show ¬(k:Int)<n;exact λh=> ‹¬_› (W0.mp h),b];rfl
theorem kH{k s:Nat}(e:jR d i=c)(hk:c.length=k)(f:c.sum=(s:Int)):d8 d (gH a) i=WH s (eU k a):=by
 unfold d8;rw[e,hk,f,EG];cases b:WH s (eU k a) with
 |true=>have:=VL b;exact decide_eq_true<|by exact V5.mpr (W2.mpr ‹_›)
 |false=>
  have:¬s<=eU k a:=λh=>by rw[XO h] at b;cases b
  exact decide_eq_false (by lia)
theorem Lf:∀a b c d e f g:Bool,(true&&(a&&(b&&(d&&(c&&(e&&(f&&(g&&true))))))))=(a&&b&&c&&d&&e&&f&&g):=by decide
theorem J7(a b c:Nat)(d:List Nat):kZ [(a:Int),(b:Int),(c:Int)] (gH d)=lZ a b c d:=by
 have e:d8 [(a:Int),(b:Int),(c:Int)] (gH d) ((0:Nat):Int)=true:=by rw[kH (c:=[]) (k:=0) (s:=0) (by kernel_rfl) rfl rfl];exact XO<|Vc _
 have f:=kH (d:=[(a:Int),(b:Int),(c:Int)]) (c:=[(a:Int)]) (i:=((1:Nat):Int)) (k:=1) (s:=a) (a:=d) (by kernel_rfl) rfl (by simp);have g:=kH (d:=[(a:Int),(b:Int),(c:Int)]) (c:=[(b:Int)]) (i:=((2:Nat):Int)) (k:=1) (s:=b) (a:=d) (by kernel_rfl) rfl (by simp);have h:=kH (d:=[(a:Int),(b:Int),(c:Int)]) (c:=[(a:Int),(b:Int)]) (i:=((3:Nat):Int)) (k:=2) (s:=a+b) (a:=d) (by kernel_rfl) rfl (by simp);have j:=kH (d:=[(a:Int),(b:Int),(c:Int)]) (c:=[(c:Int)]) (i:=((4:Nat):Int)) (k:=1) (s:=c) (a:=d) (by kernel_rfl) rfl (by simp);have l:=kH (d:=[(a:Int),(b:Int),(c:Int)]) (c:=[(a:Int),(c:Int)]) (i:=((5:Nat):Int)) (k:=2) (s:=a+c) (a:=d) (by kernel_rfl) rfl (by simp);have m:=kH (d:=[(a:Int),(b:Int),(c:Int)]) (c:=[(b:Int),(c:Int)]) (i:=((6:Nat):Int)) (k:=2) (s:=b+c) (a:=d) (by kernel_rfl) rfl (by simp);have n:=kH (d:=[(a:Int),(b:Int),(c:Int)]) (c:=[(a:Int),(b:Int),(c:Int)]) (i:=((7:Nat):Int)) (k:=3) (s:=a+b+c) (a:=d) (by kernel_rfl) rfl (by simp;lia);show(d8 _ _ ((0:Nat):Int)&&(d8 _ _ ((1:Nat):Int)&&(d8 _ _ ((2:Nat):Int)&&(d8 _ _ ((3:Nat):Int)&&(d8 _ _ ((4:Nat):Int)&&(d8 _ _ ((5:Nat):Int)&&(d8 _ _ ((6:Nat):Int)&&(d8 _ _ ((7:Nat):Int)&&true))))))))=_;rw[e,f,g,h,j,l,m,n];unfold lZ;exact Lf ..
theorem Ge(b:Int):∃r,r<4/\∀k,iw b k=(r+k) % 4:=by
 refine aI (jY (b.fdiv 36) (k:=4)<|zd rfl) λi a c=>aX i c λk=>?_;unfold iw;rw[ZG _<|by decide] at a⊢;exact Ki a
theorem vR{c d f g:Nat}(e:a=[(c:Int),(d:Int),(f:Int),(g:Int)])(b:Int):∃r,r<4/\(ig a b).map (·.1)=[c,d,f,g].drop r++[c,d,f,g].take r/\(ig a b).map (·.2)=iK r:=by
 refine aI (Ge b) λr h j=>aX r h ?_;have i:ig a b=(Tp 4).map λ(k:Nat)=>((a.getD ((r+k) % 4) 0).toNat,names4.getD ((r+k) % 4) default):=by
  unfold ig;simp only[j]
 rw[i,e];rcases eg h with rfl|rfl|rfl|rfl<;>exact⟨rfl,rfl⟩
theorem vh(k f g h i:Nat):∀r,r<4->eU k ([f,g,h,i].drop r++[f,g,h,i].take r)=eU k [f,g,h,i]:=by
 intro r l;have e:∀a b c d:Nat,eU k [a,b,c,d]=(match Yy k a with|true=>k|false=>a)+((match Yy k b with|true=>k|false=>b)+((match Yy k c with|true=>k|false=>c)+((match Yy k d with|true=>k|false=>d)+0))):=λj j j j=>rfl
 rcases eg l with rfl|rfl|rfl|rfl
 ·rfl
 ·show eU k [g,h,i,f]=_;rw[e,e];lia
 ·show eU k [h,i,f,g]=_;rw[e,e];lia
 ·show eU k [i,f,g,h]=_;rw[e,e];lia
theorem tW(i:d<4)(j:e<4)(k:f<4)(l:g<4)(h:a+b+c=d+e+f+g):tq a b c [d,e,f,g]=true:=by
 have z:=nz (nz (nz (nz (nz (nz (show DF=true from LU) d i) e j) f k) g l) a<|Hk h) b<|JC h;rw[show d+e+f+g-a-b=c from Su h] at z;exact z
theorem Jc(d:i<4)(e:j<4)(f:k<4)(g:l<4)(h:a+b+c=i+j+k+l):∀r,r<4->tq a b c ([i,j,k,l].drop r++[i,j,k,l].take r)=true:=by
 intro r m;rcases eg m with rfl|rfl|rfl|rfl
 ·exact tW d e f g h
 ·exact tW e f g d<|h.trans nL
 ·exact tW f g d e<|h.trans<|nL.trans nL
 ·exact tW g d e f<|h.trans<|nL.trans<|nL.trans nL
theorem z3(d:List Int):kZ (fB d) (iI d)=(cD (dT d) (cI d) cL).1/\((cD (dT d) (cI d) cL).1=true->∀p∈(cD (dT d) (cI d) cL).2.1,p.1=0):=by
 refine hide λH C=>zV (rJ (eO d)<|km d) λa b c i j k m s q x y A B F=>dB (vR q<|eO d) λr o u G=>?_
 refine C ?_;have ok:=Jc x y A B F r o;have z:=Sd [a,b,c] (dT d) (cI d) cL (qL _ _) (by
  show(sj (fB d) (iY d)<|oq d).map (·.1)=_;unfold fB;rw[s];rfl)
 have v:kZ (fB d) (iI d)=lZ a b c ([i,j,k,m].drop r++[i,j,k,m].take r):=by
  have:kZ (fB d) (iI d)=lZ a b c [i,j,k,m]:=by
   rw[<-J7];unfold fB iI;rw[s,q];rfl
  rw[this];unfold lZ;rw[vh 1 _ _ _ _ r o,vh 2 _ _ _ _ r o,vh 3 _ _ _ _ r o]
 rw[show(cI d).map (·.1)=[i,j,k,m].drop r++[i,j,k,m].take r from u] at z;rw[v];unfold tq at ok;generalize oe [a,b,c] ([i,j,k,m].drop r++[i,j,k,m].take r)=g at z ok;generalize lZ a b c ([i,j,k,m].drop r++[i,j,k,m].take r)=w at ok⊢;cases w with
 |true=>cases g with
  |none=>cases ok
  |some l=>
   refine⟨z.1.symm,λG p E=>?_⟩;have t:p.1∈(cD (dT d) (cI d) cL).2.1.map (·.1):=U9 (f:=λp:Int×SX=>p.1) E;rw[z.2] at t;refine aI (bO t) λn D e=>?_
   rw[<-e,XJ<|List.all_eq_true.mp ok n D];rfl
 |false=>cases g with
  |none=>exact⟨z.symm,λh=>absurd (z.symm.trans h) Vx⟩
  |some l=>cases ok
theorem sum_map_add{a:Type}(f g:a->Nat):∀l:List a,(l.map λx=>f x+g x).sum=(l.map f).sum+(l.map g).sum:=by
 intro l;induction l with
 |nil=>exact rfl
 |cons x l b=>
  have:=b;rw[cc,XH,this];exact Nat.add_add_add_comm _ _ _ _
theorem R7(x:SX):∀m:List SX,(m.map λs=>if x=s then 1 else 0).sum=m.count x:=by
 intro m;induction m with
 |nil=>exact rfl
 |cons s m b=>
  rw[cc,XH,b,Yx];by_cases e:x=s
  ·subst e;rw[if_pos rfl,beq_self_eq_true,if_pos rfl];exact Ww _ _
  ·have a:(s==x)=false:=beq_eq_false_iff_ne.mpr λh=>e h.symm
   rw[if_neg e,a];simp
theorem OI:∀(l m:List SX),m.Nodup->(∀x∈l,x∈m)->(m.map λs=>l.count s).sum=l.length:=by
 intro l;induction l with
 |nil=>
  intro m c c;have:∀m:List SX,(m.map λs=>([]:List SX).count s).sum=0:=λm=>by
   induction m with
   |nil=>rfl
   |cons a m i=>rw[cc,XH,i,List.count_nil]
  exact this m
 |cons x l j=>
  intro m b h;have e:(m.map λs=>(x::l).count s)=m.map λs=>l.count s+if x=s then 1 else 0:=VD λs c=>by
   rw[Yx];by_cases e:x=s
   ·subst e;simp
   ·have d:(x==s)=false:=beq_eq_false_iff_ne.mpr e
    rw[if_neg e,d];simp
  have f:=h x<|.head _;rw[e,sum_map_add,j m b λy g=>h y<|.tail _ g,R7,b.count,if_pos f,bT]
theorem P0(l:List SX):eL (cY l)=(l.length:Nat):=by
 have e:(cY l).map (λp=>intOf p.2)=(bQ l).map λs=>((l.count s:Nat):Int):=by
  show((bQ<|l.map λx=>x).map _).map _=_;rw[Zw,Vb];refine VD λs g=>?_
  show((l.filter λb=>decide (b=s)).length:Int)=_;rw[count_filter]
 unfold eL;rw[e];have z:=OI l (bQ l) (ob l) λx d=>(jI _ _).mpr d
 have c:∀m:List SX,(m.map λs=>((l.count s:Nat):Int)).sum=(((m.map λs=>l.count s).sum:Nat):Int):=λm=>by
  induction m with
  |nil=>rfl
  |cons a m f=>rw[cc,XH,f,cc,XH];rfl
 rw[c,z]
theorem K9(a:SX)(one:R4)(y:SX):∀(b:List SX) (s:b8),((eV a one b s).cd y).length=(s.cd y).length+if a=y then b.length else 0:=by
 intro b;induction b with
 |nil=>intro s;split<;>rfl
 |cons x b d=>
  intro s;have z:=d<|kx a one s x;have e:((kx a one s x).cd y).length=(s.cd y).length+if a=y then 1 else 0:=by
   show(bG s.cd a (s.cd a++[x]) y).length=_;by_cases c:y=a
   ·subst c;rw[iy,Vd,if_pos rfl];rfl
   ·rw[fV _ _ c,if_neg λh=>c h.symm];rfl
  show((eV a one b<|kx a one s x).cd y).length=_;rw[z,e,bT];split<;>(first|exact Vt _ _ _|exact Nat.add_zero _)
noncomputable def sH(y:SX):List Call->Int
 |[]=>0
 |c::a=>(if c.2.1=y then c.1 else 0)+sH y a
theorem OJ(b:0<=c)(f:c<=4):((a+(4-(4-c).toNat):Nat):Int)+d=a+(c+d):=by
 refine aw (VR b) λk e=>?_;subst e
 rw[show(4-(k:Int)).toNat=4-k from Int.toNat_sub 4 k,Nat.sub_sub_self<|W2.mp f,Int.natCast_add,Ys]
theorem HY(y:SX):∀(b:List Call) (a:List (Int×SX)) (s:b8),a.length=4->(∀c∈b,0<=c.1)->(d5 b a s).1=true->(((d5 b a s).2.2.cd y).length:Int)=(s.cd y).length+sH y b:=by
 intro b;induction b with
 |nil=>intro a s i i i;exact(XA _).symm
 |cons c j o=>
  intro a s m f h;have e:(bW a).length=4:=(mL a).length_eq.trans m;have k:=f c<|.head _;unfold d5 at h⊢;split at h
  ·cases h
  ·rename_i g
   rw[if_neg g];have z:=o _ _ (by rw[aM];exact e) (λd l=>f d<|.tail _ l) h;rw[z,K9,aM,Yi,e];have n:c.1<=4:=X6 (V5.mp g)<|W2.mpr<|SQ (WK _ _)<|Th e;show _=((s.cd y).length:Int)+((if c.2.1=y then c.1 else 0)+sH y j);split
   ·exact OJ k n
   ·rw[Yg];rfl
theorem PQ(y:SX):sH y (sj b a co)=(nI b a y).sum:=by
 show(if a.getD 0 default=y then b.getD 0 0 else 0)+((if a.getD 1 default=y then b.getD 1 0 else 0)+((if a.getD 2 default=y then b.getD 2 0 else 0)+0))=(((Tp 3).filter λk=>decide (a.getD k default=y)).map λk=>b.getD k 0).sum;have e:Tp 3=[0,1,2]:=rfl;rw[e];by_cases c:a.getD 0 default=y<;>by_cases d:a.getD 1 default=y<;>by_cases f:a.getD 2 default=y<;>simp only[VF,List.filter_nil,c,d,f,decide_true,decide_false,if_true,if_false,cc,W3,XH,List.sum_nil,W9]<;>lia
theorem sJ(e:List Int):(∀c∈dT e,0<=c.1/\c.2.1∈cH)/\(dT e).length=3:=by
 refine NC (rJ (eO e)<|km e) λa b c j k m n i r=>?_
 obtain⟨o,p,q,g⟩:∃a b c,i8 e=[a,b,c]:=by
  have h:=km e;generalize i8 e=l at h;obtain⟨a,b,c⟩:=kd h;exact j8 a b c rfl
 have f:∀x,nJ x∈cH:=λx=>by unfold nJ;split;exact mY;exact oo
 refine⟨λc d=>?_,rfl⟩;unfold dT fB iY at d;rw[i,g] at d;rcases bK d with rfl|d
 ·exact⟨Vo _,f _⟩
 rcases bK d with rfl|d
 ·exact⟨Vo _,f _⟩
 rcases dg d with rfl;exact⟨Vo _,f _⟩
theorem Pe(d:List Int):vC d:=by
 refine⟨(z3 d).2,λh y n=>?_⟩;refine A8 (rJ (eO d)<|km d) λa b c o p q s m i l=>dB (vR i<|eO d) λr j l g=>?_
 have f:(cI d).length=4:=qL _ _;have k:=uY (dT d) (cI d) cL gq f (by
  have:=tU r j;rw[<-g] at this;exact this) (λc e=>((sJ d).1 c e).1) wx
 rw[P0,HY y (dT d) ((cI d).map cO) gq (by rw[aM];exact f) (λc e=>((sJ d).1 c e).1)<|by rw[<-k.1];exact h];rw[<-PQ (co:=oq d)];show((0:Nat):Int)+_=_;rw[show((0:Nat):Int)=0 from rfl,Yg];rfl
noncomputable def ja:(Nat->Nat)->List Nat->List (Nat×Nat)
 |_,[]=>[]
 |a,c::l=>(c-1,a 0)::ja (λn=>a<|n+1) l
theorem A5:∀(l:List Nat) (a:List (Nat×Nat)),a.map (λp=>p.1+1)=l->∃b,a=ja b l:=by
 intro l;induction l with
 |nil=>exact fun
  |[],_=>aB (λi=>0) rfl
  |_::_,h=>nomatch h
 |cons c l g=>exact fun
  |[],h=>nomatch h
  |p::a,h=>by
   injection h with d f;refine aw (g a f) λb e=>aB (λn=>match n with|0=>p.2|n+1=>b n) ?_;show p::a=(c-1,p.2)::ja b l;rw[<-e,<-d];rfl
noncomputable def il:Nat->Int->Int
 |0,a=>a
 |k+1,a=>il k<|a+1
theorem ra:∀(k:Nat) (a:Int),il k a=a+k:=by
 intro k;induction k with
 |zero=>intro a;show a=a+0;exact(XA _).symm
 |succ k b=>
  intro a;show il k (a+1)=_;rw[b];lia
noncomputable def dJ(l:List Nat):Nat:=l.count 10
abbrev cX(k:Nat)(x:SX):List Nat:=(fj k x).cps.toList
abbrev cN(j m:Nat):List Nat:=(dk j m).cps.toList
structure vr(x:SX)(l:List Nat)(tr:List Nat):Prop where
 rd:∃(a:Nat) (f:(Nat->Nat)->Nat->Nat),a+dJ tr=dJ l/\∀ts ln rest,f5 ⟨ln,ja ts l++rest,[]⟩=(x,⟨il a ln,ja (f ts) tr++rest,[]⟩)
 yW:∀c∈l,1<=c/\c<128
theorem KP(hk:k<2)(c:x∈names4):vr x (cX k x) []\/vr x (cX k x) [32,10]:=by
 rcases(by exact qO ‹_› :k=0\/k=1) with rfl|rfl
 ·rcases bK c with rfl|c
  ·exact .inl ⟨cA 0 (λb=>b) (by decide) λa a a=>by kernel_rfl,by decide⟩
  rcases bK c with rfl|c
  ·exact .inl ⟨cA 1 (λb=>b) (by decide) λa a a=>by kernel_rfl,by decide⟩
  rcases bK c with rfl|c
  ·exact .inl ⟨cA 0 (λb=>b) (by decide) λa a a=>by kernel_rfl,by decide⟩
  rcases dg c with rfl;exact .inl ⟨cA 0 (λb=>b) (by decide) λa a a=>by kernel_rfl,by decide⟩
 ·rcases bK c with rfl|c
  ·exact .inl ⟨cA 0 (λb=>b) (by decide) λa a a=>by kernel_rfl,by decide⟩
  rcases bK c with rfl|c
  ·exact .inl ⟨cA 0 (λb=>b) (by decide) λa a a=>by kernel_rfl,by decide⟩
  rcases bK c with rfl|c
  ·exact .inr ⟨cA 0 (λb n=>b<|n+2) (by decide) λa a a=>by kernel_rfl,by decide⟩
  rcases dg c with rfl;exact .inl ⟨cA 0 (λb=>b) (by decide) λa a a=>by kernel_rfl,by decide⟩
structure GS(m:Nat)(tr l:List Nat):Prop where
 rd:∀ts a ln rest,f5 ⟨ln,ja a tr++(ja ts l++rest),[]⟩=(dig m,⟨il (dJ tr+dJ l) ln,rest,[]⟩)
structure E3(m:Nat)(tr l:List Nat):Prop where
 rd:∀ts a ln,f5 ⟨ln,ja a tr++ja ts l,[]⟩=(dig m,⟨il (dJ tr+dJ l) ln,[],[]⟩)
theorem tP(d:j<3)(e:m<4)(b:tr=[]\/tr=[32,10]):GS m tr (cN j m)/\E3 m tr (cN j m).dropLast/\∀c∈cN j m,1<=c/\c<128:=by
 rcases b with rfl|rfl<;>rcases(by exact nT ‹_› :j=0\/j=1\/j=2) with rfl|rfl|rfl<;>rcases(by exact eg ‹_› :m=0\/m=1\/m=2\/m=3) with rfl|rfl|rfl|rfl<;>exact⟨⟨λa a a a=>by kernel_rfl⟩,⟨λa a a=>by kernel_rfl⟩,by decide⟩
def MZ(b:Int)(i:Nat)(a:Nat×SX):List Nat:=cX (cS b i % 2) a.2++cN (cS b i / 2) a.1
def mw(a:Int):Nat->List (Nat×SX)->List Nat
 |_,[]=>[]
 |i,b::r=>MZ a i b++mw a (i+1) r
def i2(b:Int):Nat->Nat×SX->List (Nat×SX)->List Nat
 |i,a,[]=>cX (cS b i % 2) a.2++(cN (cS b i / 2) a.1).dropLast
 |i,a,p::r=>cX (cS b i % 2) a.2++(cN (cS b i / 2) a.1++i2 b (i+1) p r)
theorem yg(x y:SX):(x++y).cps.toList=x.cps.toList++y.cps.toList:=by
 show(x.cps++y.cps).toList=_;rw[Array.toList_append]
theorem OD(a:Int):∀(r:List (Nat×SX)) (i:Nat) (s:SX),(eG a i r s).cps.toList=s.cps.toList++mw a i r:=by
 intro r;induction r with
 |nil=>intro i s;exact(Yv _).symm
 |cons p r b=>
  intro i s;show(eG a (i+1) r _).cps.toList=_;rw[b,yg,yg,aZ,aZ];show _=s.cps.toList++((cX _ _++cN _ _)++mw a (i+1) r);rw[aZ]
theorem Ee:cN j m≠[]:=by
 rcases j with _|_|j<;>exact λh=>nomatch h
theorem MO(b:Int):∀(r:List (Nat×SX)) (i:Nat) (a:Nat×SX),(mw b i (a::r)).dropLast=i2 b i a r:=by
 intro r;induction r with
 |nil=>
  intro i a;show((cX _ _++cN _ _)++[]).dropLast=_;rw[aP,Y6 Ee];rfl
 |cons p r c=>
  intro i a;show((cX _ _++cN _ _)++mw b (i+1) (p::r)).dropLast=_;have ne:mw b (i+1) (p::r)≠[]:=by
   show(cX _ _++cN _ _)++_≠[];intro h;exact Ee (List.append_eq_nil_iff.mp (List.append_eq_nil_iff.mp h).1).2
  rw[Y6 ne,c,aZ];rfl
theorem NB(b:Int)(a:Nat×SX)(r:List (Nat×SX)):(pq (a::r) b).cps.toList=i2 b 0 a r:=by
 unfold pq lO;rw[OD,List.toList_toArray];show(([]:List Nat)++mw b 0 (a::r)).dropLast=_;rw[Zn,MO]
theorem tg(a:Int)(i:Nat):cS a i<6:=xB _ (k:=6)<|zd rfl
theorem vE(h:c.map (λp=>p.1+1)=d++e):∃b a,c=ja b d++a/\a.map (λp=>p.1+1)=e:=by
 refine bE (List.map_eq_append_iff.mp h) λk a j f g=>?_;subst j
 refine aw (A5 _ _ f) λb i=>?_;subst i
 exact cA b a rfl g
theorem wj(a b:List Nat):dJ (a++b)=dJ a+dJ b:=List.count_append ..
theorem tD(hk:k<2)(a:x∈names4):∃tr,(tr=[]\/tr=[32,10])/\vr x (cX k x) tr:=by
 rcases KP hk a with h|h
 ·exact aX _ (.inl rfl) h
 ·exact aX _ (.inr rfl) h
theorem rV(a b:Nat)(c:Int):il a (il b c)=il (b+a) c:=by rw[ra,ra,ra];exact Ys _ _ _
theorem IJ(b:Int):∀(r:List (Nat×SX)) (i:Nat) (c:Nat×SX) (n:List (Nat×Nat)) (d:Int),(∀p∈c::r,p.2∈names4/\p.1<4)->n.map (λp=>p.1+1)=i2 b i c r->
  Reads ⟨d,n,[]⟩ (c::r) ⟨il (dJ<|i2 b i c r) d,[],[]⟩:=by
 intro r;induction r with
 |nil=>
  intro i c n d o h;refine hide λE u=>a0 (o c<|.head _) λs g=>?_
  have I:=tg b i;obtain⟨tr,x,⟨a,f,v,y⟩,_⟩:=tD (k:=cS b i % 2) (by exact Nat.mod_lt _ (zd rfl)) s;refine cK (tP (j:=cS b i / 2) (by exact X5 ‹_›) g x) λC A C=>?_;obtain⟨w⟩:=A
  refine cw (vE h) λm F l t=>?_;subst l
  refine aw (A5 _ _ t) λB A=>?_;subst A
  refine u ?_;refine⟨g,_,_,y m d _,w B (f m) _,?_⟩;show(_:bt)=_;rw[rV,show dJ (i2 b i c [])=a+(dJ tr+dJ (cN (cS b i / 2) c.1).dropLast) by
   show dJ (cX _ _++_)=_;rw[wj,<-v];exact Wu _ _ _]
 |cons p r J=>
  intro i c n d o h;refine hide λE u=>a0 (o c<|.head _) λs g=>?_
  have I:=tg b i;obtain⟨tr,x,⟨a,f,v,y⟩,_⟩:=tD (k:=cS b i % 2) (by lia) s;refine cK (tP (j:=cS b i / 2) (by lia) g x) λL C C=>?_;obtain⟨w⟩:=L
  refine cw (vE h) λm F l t=>?_;subst l
  refine cw (vE t) λB D l G=>?_;subst l
  refine u<|⟨g,_,_,y m d _,w B (f m) _ D,?_⟩;have z:=J (i+1) p D (il (dJ tr+dJ (cN (cS b i / 2) c.1))<|il a d) (λq H=>o q<|.tail _ H) G;rw[rV,rV] at z;rw[rV];have e:dJ (i2 b i c (p::r))=a+(dJ tr+dJ (cN (cS b i / 2) c.1))+dJ (i2 b (i+1) p r):=by
   show dJ (cX _ _++(cN _ _++_))=_;rw[wj,wj,<-v];lia
  rw[e];exact z
theorem Kz(b:Int):∀(r:List (Nat×SX)) (i:Nat) (d:Nat×SX),(∀p∈d::r,p.2∈names4/\p.1<4)->∀c∈i2 b i d r,1<=c/\c<128:=by
 intro r;induction r with
 |nil=>
  intro i d e c a;refine a0 (e d<|.head _) λf g=>?_
  have n:=tg b i;refine aI (tD (k:=cS b i % 2) (by exact Nat.mod_lt _ (zd rfl)) f) λtr h l=>?_
  rcases bB a with a|a
  ·exact l.yW c a
  ·exact(tP (j:=cS b i / 2) (by exact X5 ‹_›) g h).2.2 c ((List.dropLast_sublist _).subset a)
 |cons p r o=>
  intro i d e c a;refine a0 (e d<|.head _) λf g=>?_
  have n:=tg b i;refine aI (tD (k:=cS b i % 2) (by exact Nat.mod_lt _ (zd rfl)) f) λtr h l=>?_
  rcases bB a with a|a
  ·exact l.yW c a
  ·rcases bB a with a|a
   ·exact(tP (j:=cS b i / 2) (by exact X5 ‹_›) g h).2.2 c a
   ·exact o (i+1) p (λq m=>e q<|.tail _ m) c a
open PySem.Builtin.Str in
theorem subAt_one(x:SX)(c i:Nat):subAt x ⟨#[c]⟩ i=decide (x.cps.toList[i]?=some c):=by
 unfold subAt;have e:x.cps.extract i (i+(⟨#[c]⟩:SX).length)=((x.cps.toList.drop i).take 1).toArray:=by
  show x.cps.extract i (i+1)=_;apply Array.ext';rw[Array.toList_extract,List.extract_eq_drop_take',List.drop_take,Z9]
 rw[e];cases h:x.cps.toList[i]? with
 |none=>
  have:x.cps.toList.drop i=[]:=WA<|ZS.mp h;rw[this];rfl
 |some d=>
  have a:=(Tb.mp h).1;have:x.cps.toList.drop i=d::x.cps.toList.drop (i+1):=by
   rw[WJ a,(Tb.mp h).2]
  rw[this];by_cases e:d=c
  ·subst e;simp
  ·have:¬(some d=some c):=λh=>e<|WD h
   rw[decide_eq_false this];simp[e]
open PySem.Builtin.Str PySem.StrLaws in
theorem Ii(x:SX)(c:Nat)(g:Nat):∀(k a:Nat) (st:Array Nat×Nat),st.2<=a->a+k=x.length+1->st.1.size+k<=g->
  ((forIn (X0 a k) st<|occBody x ⟨#[c]⟩ x.length g).run.fst).size=st.1.size+(x.cps.toList.drop a).count c:=by
 intro k;induction k with
 |zero=>
  intro a st i hk f;rw[WA<|show x.length<=a from SQ (YF _) (Th hk.symm)];rfl
 |succ k l=>
  intro a st i hk f;rw[Ye,List.forIn_cons];unfold occBody;by_cases d:x.cps.toList[a]?=some c
  ·have b:=(Tb.mp d).1
   have o:a<x.length:=b;have m:((st.fst.size<g/\st.snd<=a)/\a+(⟨#[c]⟩:SX).length<=x.length)/\subAt x ⟨#[c]⟩ a=true:=⟨⟨⟨YA (YB<|Vl k) f,i⟩,o⟩,by rw[subAt_one,d];exact decide_eq_true rfl⟩;rw[if_pos m];have j:=l (a+1) (st.fst.push a,a+1) ar (by rw[Vt];exact hk) (by rw[Zo,Vt];exact f);refine j.trans ?_;rw[WJ b,Yx,(Tb.mp d).2,Zo];simp;exact Vt _ _ _
  ·have n:¬(((st.fst.size<g/\st.snd<=a)/\a+(⟨#[c]⟩:SX).length<=x.length)/\subAt x ⟨#[c]⟩ a=true):=λh=>by
    have:=h.2;rw[subAt_one] at this;exact d<|of_decide_eq_true this
   rw[if_neg n];have j:=l (a+1) (st.fst,st.snd) (Ve i) (by rw[Vt];exact hk)<|SQ (YF _) f;refine j.trans ?_;show st.1.size+_=_;by_cases b:a<x.cps.toList.length
   ·rw[WJ b,Yx]
    have:¬(x.cps.toList[a]=c):=λe=>d<|Tb.mpr<|aB b e
    rw[beq_eq_false_iff_ne.mpr this];rfl
   ·rw[WA<|Yh b,WA<|Ve<|Yh b]
open PySem.Builtin.Str PySem.StrLaws in
theorem M8(x:SX)(c:Nat):(occurrences x ⟨#[c]⟩ 0 x.length<|x.length+1).length=x.cps.toList.count c:=by
 rw[occ_eq,Array.length_toList,Ii x c (x.length+1) (x.length+1-0) 0 (#[],0) ar (V6 _)<|Th<|V6 _];show 0+(x.cps.toList.drop 0).count c=_;rw[List.drop_zero,V6]
theorem Ja:SP w b (.builtin "str.count" ⟨[.str x t,.str "\n" u],[]⟩) [] Z (Ri ((dJ x.cps.toList:Nat):Int) []):=
 SP.int F.entry_str_count (by decide+kernel) (by
  have z:=gives_str_count x "\n" t u;rw[show SV "\n"=⟨#[10]⟩ by decide+kernel,M8] at z;exact z) λt=>di t rfl rfl rfl rfl rfl
theorem G1(d:List Int):ql (kE d) (dJ (kE d).cps.toList) (cI d) (dT d) (fB d) (iI d):=by
 refine zV (rJ (eO d)<|km d) λa b c G H I J w n C l D E F=>dB (vR n<|eO d) λr A B v=>?_
 have q:∀x∈iI d,0<=x/\x<4:=tF<|km d;have k:∀p∈cI d,p.2∈names4/\p.1<4:=DZ q;have j:(cI d).length=4:=qL _ _;obtain⟨g,rest,i⟩:∃g rest,cI d=g::rest:=by
  cases e:cI d with
  |nil=>rw[e] at j;cases j
  |cons g rest=>exact cG _ _ rfl
 have m:(kE d).cps.toList=i2 (eO d) 0 g rest:=by unfold kE;rw[i];exact NB _ _ _
 have o:∀f∈(kE d).cps.toList,1<=f/\f<128:=by rw[m];exact Kz _ rest 0 g<|by rw[<-i];exact k
 refine⟨j,aX r A<|by rw[Vb];exact v,k,(sJ d).1,(sJ d).2,λf h=>(o f h).1,?_,?_,λs h=>?_,λb t u Z=>Ja,by unfold fB;rw[w];rfl,by unfold iI;rw[n];rfl,(z3 d).1⟩
 ·rw[<-Array.all_toList,List.all_eq_true]
  exact λf h=>decide_eq_true (o f h).2
 ·have l:=Ct (eO d) (cI d) 0 "" λp y=>(k p y).1
  rw[j] at l;show(lO<|eG (eO d) 0 (cI d) "").cps.toList.length<=900;show((eG (eO d) 0 (cI d) "").cps.toList.dropLast.toArray).toList.length<=900;rw[List.toList_toArray,List.length_dropLast];exact SQ (Nat.sub_le _ _)<|SQ l<|show 0+9*4<=900 by decide
 ·rw[m] at h⊢
  have z:=IJ (eO d) rest 0 g s 1 (by rw[<-i];exact k) h;rw[ra] at z;rw[i];exact z
section
open PySem PySem.Spec PySem.Calls PySem.W PySem.W.X PyProof.Rows
theorem Lw{b:SX->Option WO}{c:List SS->List SS}:∀(a:List Int) (s:Tf) (r:List va×Tf),1<=s.toks->layAllW R b P c (ofPys<|a.map VX) s=some r->ak Z r.1 (a.map .int):=by
 intro a;induction a with
 |nil=>
  intro s r h e;have:layAllW R b P c (ofPys<|List.map VX []) s=some ([],s):=by simp[ofPys,layAllW]
  rw[this] at e;cases e;exact .nil
 |cons n a f=>
  intro s r h e;simp only[cc,ofPys,ofPy,layAllW,layW] at e;cases q:layAllW R b P c (ofPys<|List.map VX a) {s with toks:=s.toks+1} with
  |none=>rw[q] at e;cases e
  |some g=>
   rw[q] at e;cases e
   have z:=f {s with toks:=s.toks+1} g (WX 1 _) q;obtain⟨t,d⟩:∃t,s.toks=t+1:=aB (s.toks-1)<|kJ ‹_›;refine .cons ?_ z;rw[d];exact .int _ _
theorem KI{b:List Int}(L:Laid R w a c [ofPy<|Tg.list<|b.map VX] g i)(m:a.toks=428)(l:a.heap.objs.size=178):
  ∃h,g=[.ref 178]/\c.heap=a.heap.push (aa h 0)/\(∀Z,ak Z h<|b.map .int)/\428<=c.toks:=by
 refine aI L.laid λn o e=>?_
 simp only[ofPy,layAllW,layW] at e;cases q:layAllW R (classAt a.heap) w.params n (ofPys<|List.map VX b) a with
 |none=>rw[q] at e;cases e
 |some r=>
  rw[q] at e;have f:=lay_ints b a r q;have k:=lay_ints_toks b a r q;simp only[Wl.injEq,Prod.mk.injEq] at e;refine a0 e λj d=>hO r.1 ?_ ?_ (λZ=>Lw b a r (by exact z2 ‹_› (zd rfl)) q) ?_
  ·rw[<-j,f,l]
  ·rw[<-d,<-f];rfl
  ·rw[<-d,<-m];exact k
theorem P9:∀{a:List WData},WShape.hasItems R a .int=true->∃b:List Int,a=ofPys (b.map VX):=by
 intro a;induction a with
 |nil=>intro e;exact aB []<|by simp[ofPys]
 |cons x a d=>
  intro h;simp only[WShape.hasItems,Bool.and_eq_true] at h;refine aw (hasW_int h.1) λi c=>?_;subst c
  refine aw (d h.2) λb c=>?_;subst c
  exact aB (i::b)<|by simp[ofPys,ofPy]
end
section
open PySem PySem.Spec PySem.Calls PySem.W PySem.W.X PyProof.Rows
theorem Mw(P:Yj):KT.of (mU P)=jw P:=by kernel_rfl
theorem Pc(P:Yj):pJ=(mU P).map (·.1):=by kernel_rfl
noncomputable def gI(o:S9):S9:={o with data:=.freed}
theorem AV(h:Vm)(a:WO):(h.update a gI).get? a=none:=by
 obtain⟨b,c⟩:=h;show(match(b.modify a gI)[a]? with|some ⟨_,_,.freed,_⟩=>none|o=>o)=none;rw[Array.getElem?_modify,if_pos rfl];cases b[a]?<;>rfl
def base(h:Vm):Vm:=(h.update 23 gI).update 106 gI
theorem rX(a:j≠23)(b:j≠106):(base h).get? j=h.get? j:=by
 have c:Vq 23 h (h.update 23 gI):=VU ..;have d:Vq 106 (h.update 23 gI) (base h):=VU ..;rw[d.2 j b,c.2 j a]
theorem DS(h:Vm):(base h).get? 106=none:=AV _ _
theorem Bh(h:Vm):(base h).get? 23=none:=by
 have a:Vq 106 (h.update 23 gI) (base h):=VU ..;rw[a.2 23<|by decide];exact AV _ _
theorem H8(e:(base h).get? j=some o):h.get? j=some o:=by
 have a:j≠23:=λz=>by rw[z,Bh] at e;cases e
 have b:j≠106:=λz=>by rw[z,DS] at e;cases e
 rw[rX a b] at e;exact e
theorem H5(ZH:ZO h 1 0 (jw w.params)):KH (base h) (kK w):=λj o e=>by
 unfold kK at e;cases a:Xa j 106 with
 |true=>rw[a] at e;cases e
 |false=>
  rw[a] at e;cases b:Xa j 23 with
  |true=>rw[b] at e;cases e
  |false=>
   rw[b] at e;rw[rX (Nat.ne_of_beq_eq_false b)<|Nat.ne_of_beq_eq_false a];exact kt_at ZH e
theorem Kt{c:Tf}{k:List Int}{Q:va->Tf->Prop}{E:va->Tf->Prop}(ZH:ZO c.heap 1 0 (jw w.params))(M:c.heap.objs.size=179)(J:c.heap.get? 178=some (aa l 0))(L:k.length<=900)(N:∀Z,ak Z l<|k.map .int)(hk:1<=c.toks)(I:c.gens= #[])
  (y:c.heap.get? 23=some (We ⟨[]⟩)) (x:c.heap.get? 106=some (We ⟨[]⟩))
  (C:∀i (t:GB) q,(∀j o,j≠23->j≠106->c.heap.get? j=some o->i.get? j=some o)->(∃a,g8 a/\i.get? 23=some a)->(∃a,g8 a/\i.get? 106=some a)->Q (.bool true) ⟨i,t.1,c.drawn,q,c.os⟩):
  To (Vy PySem.Challenge.pw_ph0122_01 w) callerA (PySem.call (.ref 177) [.ref 178]) Q E c:=by
 obtain⟨h,g,d,v,O⟩:=c;obtain⟨T,rfl⟩:∃T,v=T+1:=aB (v-1)<|kJ hk;cases(show g= #[] from I)
 have D:Rep (base h) h [(23,We ⟨[]⟩),(106,We ⟨[]⟩)] 179:=by
  refine⟨M,λp f=>?_,by decide,λb o e=>H8 e,λp f=>?_,by decide⟩
  ·rcases bK f with rfl|f
   ·exact y
   ·rcases dg f with rfl;exact x
  ·rcases bK f with rfl|f
   ·exact Bh h
   ·rcases dg f with rfl;exact DS h
 have z:=II (b:=310) (s:=174) (n:=0) (c:=We ⟨[]⟩) (e:=l) (a:=k) (Z:=[(178,aa l 0)]) (zd rfl) (.head _) (N _) L (.inl rfl) (G1 k)<|Pe k;refine wpAny_call<|z callerA _ h 179 T ⟨#[],AllBare.empty⟩ d O ?_ ?_ ?_ (H5 ZH) ?_ D _ ?_
 ·rfl
 ·decide
 ·decide
 ·intro p f
  rcases dg f with rfl;exact(rX (j:=178) (by decide)<|by decide).trans J
 ·intro r Tt Ts F ro i V q t u Y Tr m
  refine cK u λP R U=>bE U λa b G H S=>?_;clear u;subst P R S
  exact C i t (q+1) (λj o A B e=>m.keep j o<|by rw[rX A B];exact e) (aX a G<|m.own (23,a)<|.head _) (aX b H<|m.own (106,b)<|.tail _<|.head _)
noncomputable def dictOf(o:S9):Array SS:=match o.data with
 | .dict a _=>a
 |_=> #[]
theorem Ln(P:Yj):nsFind (dictOf<|oT P) "law"=some (.ref 177):=by kernel_rfl
theorem Jl{c:SX->Option va}(ZH:ZO h 1 0 (jw w.params))(f:h.Ns 3 c)(k:c "law"=some (.ref a)):a=177:=by
 obtain⟨o,e,l,b,g,m,j⟩:=f;have d:h.get? 3=some (oT w.params):=kt_at ZH (by kernel_rfl);rw[d] at b;cases b
 have i:dictOf (oT w.params)=e:=by unfold dictOf;rw[g]
 have:=j "law";rw[<-i,Ln,k] at this;cases this;rfl
theorem Ea(ZH:ZO h 1 0 (jw w.params)):(h.get? 23=some (We ⟨[]⟩)/\h.get? 106=some (We ⟨[]⟩))/\h.TableAt 27 23 #[]/\h.TableAt 110 106 #[]:=by
 have a:h.get? 23=some (We ⟨[]⟩):=kt_at ZH (by kernel_rfl);have b:h.get? 106=some (We ⟨[]⟩):=kt_at ZH (by kernel_rfl);exact⟨⟨a,b⟩,table_at (vs:=match(rr).data with| .fields vs=>vs|_=> #[]) (kt_at ZH<|show(jw w.params).get 27=some (rr) by kernel_rfl) (by rfl) (by kernel_rfl) a rfl,table_at (vs:=match(tN).data with| .fields vs=>vs|_=> #[]) (kt_at ZH<|show(jw w.params).get 110=some (tN) by kernel_rfl) (by rfl) (by kernel_rfl) b rfl⟩
end
section
open PySem PySem.Spec PySem.Calls PySem.W PySem.W.X PyProof.Rows
theorem BG(h:g8 a):∃more:Array va,some a=some {We ⟨[]⟩ with data:=.fields (#[]++more)}:=by
 refine aw h λb c=>?_;clear h;subst c
 exact⟨b,by rw[show #[]++b=b by simp];rfl⟩
theorem Ip(ZH:ZO h 1 0 (jw w.params))(hk:∀j o,j≠23->j≠106->h.get? j=some o->f.get? j=some o)(n:∃a,g8 a/\f.get? 23=some a)(p:∃a,g8 a/\f.get? 106=some a):OldK h f:=by
 refine cK (Ea ZH) λs u t=>?_;obtain⟨m,l⟩:=s
 refine aI n λa q i=>aI p λb r k=>⟨λj o e=>?_,λj o e=>?_⟩
 ·by_cases c:j=23
  ·subst c
   rw[m] at e;cases e;exact aw (BG q) λmore g=>.inr (.inl ⟨u.isCodeTable,rfl,#[],more,rfl,i.trans g⟩)
  ·by_cases d:j=106
   ·subst d
    rw[l] at e;cases e;exact aw (BG r) λmore g=>.inr (.inl ⟨t.isCodeTable,rfl,#[],more,rfl,k.trans g⟩)
   ·exact .inl<|hk j o c d e
 ·by_cases c:j=23
  ·subst c;exact⟨a,i⟩
  ·by_cases d:j=106
   ·subst d;exact⟨b,k⟩
   ·exact⟨o,hk j o c d e⟩
theorem OG(e:KT.of a=t)(ZA:AllIn h a)(k:∀b o,h.get? b=some o->c.get? b=some o):ZO c 1 0 t:=by
 subst e;exact ZO.keeps k<|holds_of ZA
theorem Gl(h:(WTm.not<|.lt (.lit<|.int 63)<|.len<|.arg 0).holds R {args:=[.list a]}=true):a.length<=63:=by
 have e:(WTm.not<|.lt (.lit<|.int 63)<|.len<|.arg 0).value R {args:=[.list a]}=some (.bool<|!decide ((63:Int)<a.length)):=w_not (w_lt (by simp[WTm.value])<|w_len_list<|by simp[WTm.value]);unfold WTm.holds at h;rw[e] at h;by_cases c:(63:Int)<a.length
 ·simp[c] at h
 ·omega
theorem HG:∀a:List Int,(ofPys<|a.map VX).length=a.length:=by
 intro a;induction a with
 |nil=>simp[ofPys]
 |cons n a b=>simp only[cc,ofPys,bT,b]
theorem Ft:(WShape.has R (.bool true) .bool&&(WTm.eq .res<|.lit<|.bool true).holds R {args:=a,res:=some<|.bool true,after:=a})=true:=by
 have e:(WTm.eq .res<|.lit<|.bool true).value R {args:=a,res:=some<|.bool true,after:=a}=some (.bool<|true==true):=w_eq_bool (by simp[WTm.value]) (by simp[WTm.value]);have b:WShape.has R (.bool true) .bool=true:=by rfl
 rw[b];unfold WTm.holds;rw[e];rfl
theorem G4{b a:Tf}{c:List WData}{n:List WO}{l:SX->Option va}(y:obsZ pJ b=valZ mU 178 428 w)(t:a.heap.Ns 3 l)(A:l "law"=some (.ref j))(u:a.gens= #[])
  (L:Laid PySem.Challenge.rw_ph0122_01.row.toRowW.records w b a c m n) (C:PySem.Challenge.rw_ph0122_01.row.toRowW.claim.pre c=true):
  To (Vy PySem.Challenge.pw_ph0122_01 w) callerA (PySem.call (.ref j) m) (λv h=>GoodWG PySem.Challenge.rw_ph0122_01.row.toRowW.claim (classAt b.heap) (Z0 b.heap) c a (H7 v) h) (λe h=>GoodWG PySem.Challenge.rw_ph0122_01.row.toRowW.claim (classAt b.heap) (Z0 b.heap) c a (.error e) h) a:=by
 refine ei (z_facts Pc y) λZA ZI ZN ZT=>?_
 have ZH:ZO a.heap 1 0 (jw w.params):=OG (Mw w.params) ZA L.keeps;cases Jl ZH t A
 refine a0 (pre_splitW C) λI J=>bE (hasAllW_cons<|show WShape.hasAll _ c [.list .int]=true from I) λd r N q1 q2=>?_;subst N
 cases hasAllW_nil q2
 refine aI (hasW_list q1) λR f q3=>?_;subst f
 refine aw (P9 q3) λg f=>?_;subst f
 have q:WData.list (ofPys<|g.map VX)=ofPy (Tg.list<|g.map VX):=by simp[ofPy]
 have B:g.length<=900:=by
  have:=Gl (holds_andW<|show(WTm.and (.not<|.lt (.lit<|.int 63)<|.len<|.arg 0)<|.lit<|.bool true).holds _ {args:=[.list<|ofPys<|g.map VX]}=true from J).1;rw[HG] at this;omega
 rw[q] at L;refine pL (KI L ZT ZN) λO f k E hk=>?_;subst f
 have D:a.heap.objs.size=179:=by rw[k,Wm,ZN]
 have x:a.heap.get? 178=some (aa O 0):=by rw[k,<-ZN];exact VT _ rfl
 refine a0 (Ea ZH) λM i=>?_;obtain⟨p,o⟩:=M
 exact Kt ZH D x B E (by omega) u p o λQ s P F G H=>⟨.inl<|i6 _ _ [] rfl (λi=>rfl) (ReadsW.bool true) Ft (λi=>⟨WQ,λi z=>nomatch z⟩),Ip ZH F G H,rfl,s.2⟩
theorem Q1(b:W5):Runs b:=Classical.byContradiction λh=>zm.choose_spec ⟨b,h⟩ λa a a a a a a=>G4
end
open PySem PySem.Spec PySem.Calls PySem.W PySem.W.X PyProof.Rows
theorem MD:PySem.Challenge.rw_ph0122_01.wellSaid=true:=by decide+kernel
theorem prom:PySem.Challenge.rw_ph0122_01.row.toRowW.promised:=by
 show PySem.Challenge.rw_ph0122_01.row.promised
 w_witness2
end Mine.Internal
theorem PySem.Challenge.cw_ph0122_01_holds : PySem.Challenge.rw_ph0122_01.Holds := by
 refine holds_law Mine.Internal.MD λd=>?_
 refine holds_openX (q:=Mine.Internal.qv) (loose:=Mine.Internal.B1) (Xt:=λs=>xlAt Mine.Internal.qv [] s&&recOk (RowW.records<|OpenRow.toRowW (PySem.Challenge.rw_ph0122_01).row) s) (XP:=XL Mine.Internal.qv []) (Yf:=obsZ Mine.Internal.pJ) (Ya:=valZ Mine.Internal.mU 178 428) (N:=2024) Mine.Internal.left (λs e=>xl_of s (Bool.and_eq_true_iff.mp e).1) XL.keeps (by rfl) (by rfl) (by rfl) (λs e=>recFacts_of (Bool.and_eq_true_iff.mp e).2) (by rfl) d (by decide+kernel) ⟨rfl,rfl,rfl,rfl,rfl,by decide+kernel⟩ Mine.Internal.prom ?_;intro w D E B A G y l o C i k j z u p n m b a f F h L c r v x t;exact Mine.Internal.Q1 w _ _ _ _ _ _ _ y G.T.g b a L c
