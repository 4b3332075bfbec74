import PyProof.Rows.All
import Wide.All
import OpenK.AllK
import Wide.FinOn
import Lean
import PySem.Challenge.RW_oc0358_01
set_option Elab.async false
set_option linter.all false
set_option tactic.hygienic false
set_option genInjectivity false
set_option genSizeOf false
set_option genCtorIdx false
set_option genSizeOfSpec false
set_option maxRecDepth 100000
open Int renaming ofNat->ad,ofNat_lt->kr,natCast_nonneg->kX,ofNat_eq_natCast->oJ,ofNat_le->oK,le_trans->qi,ofNat_sub->rV,not_lt->wC,add_comm->zx,add_zero->zy,le_of_eq->zA,lt_of_lt_of_le->Fq,negSucc->Ft,not_le->Fu,toNat_natCast->Fv,eq_ofNat_of_zero_le->Sr,fdiv_eq_ediv_of_nonneg->Ss,fmod_eq_emod_of_nonneg->Su,le_sub_right_of_add_le->Sw,max_eq_right->Sx,sub_le_self->SA
open PySem renaming Value->af,Str->aA,model->aE,Addr->aH,Result->aL,Shared->aN,wpAny_bind->aT,wpOwn->aW,Env->aX,Code->bj,Sem->bk,DictEntry->bv,wpAny_pure->bK,Stmt->bO,entryFor_of_tree->cz,Around->dW,wpAny->d_,sizeLine->eF,Params->eH,World->eI,Builtin->fK,ret->gt,codeAny->gJ,wpOwn_bind->hM,rawInt->im,wpAny_holding->iw,Heap->ix,slicePick->iS,wpAny_field->jt,codeAny_mono->jz,SetTable->j4,execs->j7,Args->kT,mkInt->lH,wpAny_listItems->mR,wpOwn_mono->mS,wpOwn_of_wpAny->mT,denote->nP,treeTable->oA,wpAny_rule->oB,wpAny_typeOf->oD,intKind->pi,richCompare->pU,wpAny_setField->p8,Program->qD,standAt->rK,strKind->rN,Thread->sC,holding->s8,noteFrame->tX,wpAny_mono->ul,NameKind->uG,intItems->vc,mainGlobals->vr,seqIndex?->vX,truthy->wf,wpAny_dictEntries->wu,wpAny_updateSeq->wx,compareOp->xd,dictGet->xh,importedModules->xK,leaving->xY,mkBytes->yd,sysModules->yW,wpAny_call_entry->y8,wpAny_dictEpoch->zb,wpAny_newObj_type->zc,wpAny_of_eq->zd,wpAny_pyHash_str->ze,wpAny_seqItems->zg,ExceptHandler->zt,FuncData->zv,codeAny_builtin->AO,code_inj->AS,entryFor->Bt,fenceModules?->BF,wpAny_standAt->E5,wpAny_truthy_bool->E6,wpAny_typeNameOfWhole_keyiter->E7,wpAny_typeNameOfWhole_valiter->E_,Comprehension->Fk,markedBehindIn_of_false->MO,plainId_quiet->O8,sliceBounds->Qo,sliceRange_one->Qs,theTreesLotGoes->Rr,wpAny_isInstance->R1,wpAny_isOneOf_valiter->R2,wpAny_letGo->R3,wpAny_listPart->R4,wpAny_mkInt->R5,wpAny_updateDictKeys->R7,codeAny_call_builtin->U_,wpAny_isOneOf_keyiter->asq,wpAny_listSubscript_int->asr,wpAny_notOrdered_dict->ass
open Array renaming mk->ar,ext'->hU,getElem?_eq_some_iff->wA,eraseIdxIfInBounds->zi,getElem?_eq_getElem->zj,findIdx?_eq_none_iff->Fd,toList->Fe,all_toList->Sb,empty_append->Sc,findIdx?_eq_some_iff_getElem->Sd,getElem?_toList->Se,getElem_modify->Sf
open PySem.Value renaming ref->aF,type->aI,int->ic,none->i7,str->qH,isInt->Ax,isStrOf->TH
open List renaming length_map->aU,mem_cons->aY,map_append->bf,mem_map->bn,mem_map_of_mem->bw,map_map->bI,append_nil->bQ,map_cons->bV,append_assoc->bZ,length_append->cJ,not_mem_nil->cQ,nodup_cons->c_,cons_ne_nil->dl,length_cons->dM,mem_append_right->dX,mem_append->ej,getElem?_eq_getElem->eG,getElem?_map->fi,mem_append_left->fZ,length->gR,getD_eq_getElem?_getD->hV,mem_singleton->iy,exists_cons_of_ne_nil->jT,flatMap_cons->jU,nodup_append->jV,count_append->kY,length_nil->kZ,sum_cons->k_,mem_reverse->lW,take_succ_eq_append_getElem->lX,filter_cons_of_pos->m5,getElem_mem->m6,length_pos_iff->m7,map_reverse->m8,filter_cons_of_neg->oL,getElem?_append_right->oM,map_congr_left->oN,map->ql,mem_flatMap->qm,nil_append->qn,pairwise_cons->qo,take_of_length_le->qp,all_eq_true->r5,length_take->r6,map_id->r7,map_nil->r8,map_take->r9,perm_append_comm->r_,range->sb,countP_eq_zero->uC,find?_cons->uD,mem_of_getElem?->uE,reverse_cons->uF,countP_cons->wD,eq_nil_of_length_eq_zero->wE,not_lt->wF,perm_iff_count->wG,perm_middle->wH,replicate->wI,take_length->wJ,Perm->zE,drop->zF,forIn_cons->zG,mem_filter->zH,all_map->Fz,append_of_mem->FA,count_cons->FB,count_cons_of_ne->FC,count_cons_self->FD,count_pos_iff->FE,count_singleton->FF,drop_eq_nil_iff->FH,flatMap_append->FI,flatMap_map->FJ,getElem?_eq_none->FK,headD_cons->FM,length_filter_le->FN,length_take_le->FO,length_take_le'->FP,map_eq_nil_iff->FQ,mem_iff_getElem->FR,perm_ext_iff_of_nodup->FS,take_zero->FT,cons_append->SJ,countP_congr->SK,countP_pos_iff->SM,count_eq_zero->SO,dropWhile_cons->SP,dropWhile_sublist->SQ,drop_eq_getElem_cons->SR,filter_append->SS,filter_eq_nil_iff->ST,find?_eq_none->SU,find?_some->SV,findIdx?_cons->SW,foldl_cons->SX,getElem?_append_left->SY,getElem?_eq_none_iff->SZ,getElem_map->S0,length_drop->S1,length_reverse->S4,mem_of_find?_eq_some->S5,mem_range->S6,pairwise_singleton->S7,sublist_cons_self->S8,takeWhile_cons->S9
open Nat renaming sub_add_cancel->bh,mod_lt->bq,le_trans->b8,div_add_mod->cr,zero_le->dw,le_refl->d7,beq->eX,le_of_lt->iJ,lt_of_le_of_lt->kv,le_succ_of_le->ld,ne_of_gt->lg,sub_le->lh,ne_of_lt->lZ,not_lt->l5,eq_of_beq_eq_true->m_,le_of_ble_eq_true->ng,le_of_eq->nh,lt_irrefl->ni,zero_add->nj,add_le_add_right->oP,ble->oQ,le_add_right->oR,le_succ->oU,succ_le_succ->oV,add_le_add_left->qr,lt_succ_of_le->qt,not_le->qx,not_lt_zero->qy,add_comm->sf,lt_or_ge->sg,lt_trans->sj,min_eq_left->sk,pow_pos->sq,succ_pos->sr,add_le_add->uH,add_sub_cancel'->uI,le_add_left->uJ,lt_of_lt_of_le->wK,add_assoc->zK,blt->zL,le_of_lt_succ->zM,lt_succ_of_lt->zN,lt_succ_self->zO,lt_trichotomy->zP,max->zQ,mul_le_mul_left->zR,pos_of_ne_zero->zS,sub_pos_of_lt->zT,toUInt8->zU,add_right_comm->FV,add_sub_cancel_left->FW,div_div_eq_div_mul->FX,div_eq_of_lt->FY,div_lt_of_lt_mul->FZ,le_add_right_of_le->F5,le_antisymm->F9,le_of_not_lt->F_,le_of_succ_le_succ->Ga,lt_of_lt_of_eq->Gb,mod_eq_of_lt->Gc,mul_comm->Gd,not_succ_le_zero->Ge,pow_add->Gf,sub_sub->Gg,zero_mul->Gh,add_pos_left->Ta,eq_zero_or_pos->Tb,le_of_sub_eq_zero->Tc,lt_of_succ_lt->Td,lt_succ_iff_lt_or_eq->Te,max_eq_left->Tf,mul_right_comm->Tg,ne_zero_of_lt->Th,not_lt_of_le->Ti,pow_le_pow_right->Tj,strongRecOn->Tk,succ_lt_succ->Tl
open Option.some renaming inj->dY
open PySem.W.X renaming postE->eo,postC->mK,y_code->uo
open PySem.Sem renaming wp->eY,wp_mono->iz,wp_bind'->jx,pure->o6,wp_onRaise->Au,wp_cmd_standAt->TC
open False renaming elim->gQ
open PySem.Heap renaming lt_size->iI,get?_push_of_some->kW,get?_update_other->oI,get?_update_self->qf,get?_push_size->rU,size_push->zw
open PySem.Obj renaming mapFields->iW,mapSeq->su,mapDictKeys->Gi
open PySem.Str renaming mk->iZ
open PySem.Builtin.Str renaming strSliceIndices->jS,occurrences->zm,strSlot->Fi,tooLong->Fj,glued->So
open PySem.W.SL renaming s9222952809800978799x4->j3,s2766695959194262286x5->nB
open Bool renaming and_eq_true->kp,false_ne_true->kU,noConfusion->oG,eq_iff_iff->p_,and_eq_true_iff->ux,false_eq_true->Ff,not_eq_true'->Sh
open PySem.Data renaming set->mX,fields->Fl
open PySem.W renaming opening->oq,stepT->pZ,SharedT->sB
open Prod.mk renaming inj->oZ,injEq->Tw
open UInt8 renaming ofNat->o8,toNat_ofNat'->TG
open PySem.AutoSeq1 renaming wpAny_loadPart'->p9
open Iff renaming rfl->qg
open Nat.succ renaming inj->qz
open Prod renaming snd->sx,fst->z6,ext_iff->Gm
open PySem.Builtin renaming divisionGoesByPylong->uy,roomForPylong->zn
open Ne renaming symm->uK
open Option renaming isSome_iff_exists->uL,map->wL,map_eq_some_iff->zW,isNone_iff_eq_none->Gj
open PySem.Builtin.List renaming listTooLong->zl,listFitsIndex->Fg,listSubscript?->Fh,listItems->Sj,listSameRef->Sk
open ForInStep renaming yield->zu
open PyProof.Rows renaming risingS->z7,seqObj->z8,StrsAre->Gp,arrOf->Tx,ltCps_eq->Ty
open Decidable renaming not_not->Fm
open PySem.F renaming slot_list_eq->Fn
open List.Perm renaming trans->Fy,swap->SG
open PySem.PyData renaming int->Gn
open Std.Legacy.Range renaming forIn_eq_forIn_range'->GL,mk->GM,size->TE
open PySem.Around renaming under_plainId->Sa
open PySem.Builtin.Dict renaming showsAll->Si
open PySem.Builtin.SmallTypes renaming stopIteration->Sm
open PySem.Heap.SameBut renaming update->Sq
open Int.ofNat renaming inj->Sz
open List.cons renaming inj->SH,injEq->SI
open PySem.SetTable renaming fresh->TD
open PySem.Builtin.Frozenset renaming oneOther->asw
open PySem PySem.W PySem.W.X PySem.Calls
local macro_rules (kind:=Lean.Parser.Tactic.rwSeq)
|s=>if s[2][1].getNumArgs==1&&s[2][1][0][0].isNone&&s[3].isNone then return .node .none `Lean.Parser.Tactic.refine #[s[0],s[2][1][0][1]] else Lean.Macro.throwUnsupported
local macro_rules (kind:=term!_)
|s=>return Lean.Syntax.mkApp (Lean.mkIdent `List) #[⟨s[1]⟩]
local macro_rules (kind:=ident)
|s=>if s.getId== `N then return Lean.mkIdent `Nat else Lean.Macro.throwUnsupported
local macro_rules (kind:=Lean.Parser.Command.declaration)
|s=>do
 if s[0].getArgs.all (·.getNumArgs==0)&&(s[1].isOfKind `Lean.Parser.Command.definition||s[1].isOfKind `Lean.Parser.Command.abbrev) then return s.setArg 0 (s[0].setArg 4 (.node .none `null #[.node .none `Lean.Parser.Command.noncomputable #[s]]))
 Lean.Macro.throwUnsupported
local macro_rules (kind:=Lean.Parser.Term.quotedName)
|s=>return Lean.Syntax.mkApp (Lean.mkIdent `kS) #[Lean.quote ((s[0].isNameLit?.get!.toString false).toList.map (·.toNat))]
local macro_rules (kind:=«term#[_,]»)
|s=>return s.setKind ``Lean.Parser.Term.anonymousCtor
noncomputable section
namespace Mine
section
theorem ab:True:=⟨⟩
theorem ζ{p:Prop}[Decidable p](h:decide p=true:=by exact Eq.refl true):p:=of_decide_eq_true h
open PySem PySem.W PySem.W.X PySem.Calls PyProof.Rows
def asg:PySem.Challenge.rw_oc0358_01.wellSaid=true:=(congrFun PySem.W.Fast.te9446332074065402090 _).trans<|by kernel_rfl
end
inductive LX where
 |v (i:N)
 |n (k:N)
 |p (a b:LX)
 |l (k:N) (a:LX)
 |r (a:LX) (k:N)
def C4:!N->N->N
 |[],_=>0
 |a::_,0=>a
 |_::l,i+1=>C4 l i
def LX.d(w:!N):LX->N
 |.v i=>C4 w i
 |.n j=>j
 |.p a b=>a.d w+b.d w
 |.l j a=>j*a.d w
 |.r a j=>a.d w*j
def vq:N->!N
 |0=>[1]
 |i+1=>0::vq i
def lE:!N->!N->!N
 |[],b=>b
 |x::a,b=>match b with
  |[]=>x::a
  |y::b=>(x+y)::lE a b
def lG(k:N):!N->!N
 |[]=>[]
 |x::a=>(k*x)::lG k a
def xZ:!N->!N->Bool
 |[],_=>true
 |x::a,b=>match b with
  |[]=>eX x 0&&xZ a []
  |y::b=>oQ x y&&xZ a b
def LX.c:LX->!N
 |.v i=>0::vq i
 |.n j=>[j]
 |.p a b=>lE a.c b.c
 |.l j a=>lG j a.c
 |.r a j=>lG j a.c
def gD:!N->!N->N
 |[],_=>0
 |x::a,w=>match w with
  |[]=>0
  |y::w=>x*y+gD a w
def Lk:∀i w,gD (vq i) w=C4 w i
 |0,[]=>rfl
 |0,y::w=>(Nat.one_mul y)
 |i+1,[]=>rfl
 |i+1,y::w=>((congrArg (·+gD (vq i) w)<|Gh y).trans<|nj _).trans<|Lk i w
def rh:∀a b w,gD (lE a b) w=gD a w+gD b w
 |[],b,w=>(nj _).symm
 |x::a,[],w=>rfl
 |x::a,y::b,[]=>rfl
 |x::a,y::b,z::w=>by show(x+y)*z+gD (lE a b) w=_;rw[rh a b w,Nat.add_mul];rw[Nat.add_add_add_comm ..]
def ri(k:N):∀a w,gD (lG k a) w=k*gD a w
 |[],w=>rfl
 |x::a,[]=>rfl
 |x::a,z::w=>by show k*x*z+gD (lG k a) w=k*(x*z+gD a w);rw[ri k a w,Nat.mul_add,Nat.mul_assoc]
def C1:∀a b w,xZ a b=true->gD a w<=gD b w
 |[],_,_,_=>dw _
 |x::a,b,[],_=>dw _
 |x::a,[],z::w,h=>by have c:=ux.mp h;have e:x=0:=m_ c.1;subst e;show 0*z+gD a w<=0;rw[Gh,nj];rw[C1 a [] w c.2]
 |x::a,y::b,z::w,h=>by have c:=ux.mp h;rw[uH (Nat.mul_le_mul_right z<|ng c.1)<|C1 a b w c.2]
def LX.dc(w:!N):∀e:LX,e.d w=gD e.c (1::w)
 |.v i=>(((congrArg (·+gD (vq i) w)<|Gh 1).trans<|nj _).trans<|Lk i w).symm
 |.n j=>(Nat.mul_one j).symm
 |.p a b=>(congr (congrArg HAdd.hAdd<|LX.dc w a)<|LX.dc w b).trans (rh a.c b.c _).symm
 |.l j a=>(congrArg (j*·)<|LX.dc w a).trans (ri j a.c _).symm
 |.r a j=>((congrArg (·*j)<|LX.dc w a).trans<|Gd _ _).trans (ri j a.c _).symm
inductive LK where
 |le (a b:LX)
 |eq (a b:LX)
 |vx (a b:LX)
 |and (x y:LK)
 |ff
def LK.d(w:!N):LK->Prop
 |.le a b=>a.d w<=b.d w
 |.eq a b=>a.d w=b.d w
 |.vx a b=>¬a.d w<=b.d w
 |.and x y=>x.d w/\y.d w
 |.ff=>False
abbrev LP:Type:=List<|LX×LX
def LK.p:LK->LP
 |.le a b=>[(a,b)]
 |.eq a b=>[(a,b),(b,a)]
 |.vx a b=>[(.p b<|.n 1,a)]
 |.and x y=>x.p++y.p
 |.ff=>[(.n 1,.n 0)]
def LA(w:!N):LP->Prop
 |[]=>True
 |p::l=>p.1.d w<=p.2.d w/\LA w l
def rf{w:!N}{m:LP}:∀{l:LP},LA w (l++m)↔LA w l/\LA w m
 |[]=>#[λU=>#[ab,U],λU=>U.2]
 |p::l=>#[λU=>#[#[U.1,(rf.mp U.2).1],(rf.mp U.2).2],λU=>#[U.1.1,rf.mpr #[U.1.2,U.2]]]
def LK.ok(w:!N):∀k:LK,k.d w↔LA w k.p
 |.le a b=>#[λU=>#[U,ab],λU=>U.1]
 |.eq a b=>#[λU=>#[nh U,nh U.symm,ab],λU=>F9 U.1 U.2.1]
 |.vx a b=>#[λU=>#[qx.mp U,ab],λU=>qx.mpr U.1]
 |.and x y=>#[λU=>rf.mpr #[(LK.ok w x).mp U.1,(LK.ok w y).mp U.2],λU=>#[(LK.ok w x).mpr (rf.mp U).1,(LK.ok w y).mpr (rf.mp U).2]]
 |.ff=>#[λU=>U.elim,λU=>nomatch U.1]
def rv:LP->N->!N×!N×N
 |[],Z=>([],[],Z)
 |p::l,Z=>let u:=rv l<|Z/1024;(lE (lG (Z%1024) p.1.c) u.1,lE (lG (Z%1024) p.2.c) u.2.1,u.2.2)
def C5(g:LP):LP->N->Bool
 |[],_=>true
 |p::l,c=>let u:=rv g<|c/1024;oQ 1 (c%1024)&&(xZ (lE (lG (c%1024) p.1.c) u.2.1) (lE (lG (c%1024) p.2.c)<|lE [c%1024-1] u.1)&&C5 g l u.2.2)
def MI{w:!N}:∀{l:LP} {c:N},LA w l->gD (rv l c).1 (1::w)<=gD (rv l c).2.1 (1::w)
 |[],_,_=>d7 _
 |p::l,c,h=>by show gD (lE (lG (c%1024) p.1.c) (rv l<|c/1024).1) (1::w)<=gD (lE (lG (c%1024) p.2.c) (rv l<|c/1024).2.1) (1::w);rw[rh,rh,ri,ri,<-LX.dc,<-LX.dc];rw[uH (zR _ h.1)<|MI h.2]
def afb{m A B L R:N}(H:1<=m)(h:L<=R)(e:m*A+R<=m*B+(m-1+L)):A<=B:=F_ λq=>qx.mpr (Nat.sub_lt H (by decide:0<1))<|Nat.le_of_add_le_add_right<|Nat.le_of_add_le_add_left<|zK (m*B) m R▸b8 (oP (Nat.mul_succ m B▸zR m q) R) (b8 e<|qr (qr h _) _)
def Lp{w:!N}{g:LP}(a:LA w g):∀{l:LP} {c:N},C5 g l c=true->LA w l
 |[],_,_=>trivial
 |p::l,c,h=>by have b:=ux.mp h;have M:=ux.mp b.2;have u:=C1 _ _ (1::w) M.1;rw[rh,rh,rh,ri,ri,<-LX.dc,<-LX.dc]at u;rw[#[afb (ng b.1) (MI a)<|b8 u<|nh ?_,Lp a M.2]];show _=_+(c%1024-1+gD (rv g<|c/1024).1 (1::w));show _+((c%1024-1)*1+0+_)=_;rw[Nat.mul_one,Nat.add_zero]
def jg:N->N->!LX->!LK->!LK
 |0,_,_,t=>t
 |f+1,n,k,t=>match eX n 0 with
  |true=>t
  |false=>match oQ 24 (n%64)with
   |true=>jg f (n/64) (.n (n%64-24)::k) t
   |false=>match oQ 12 (n%64)with
    |false=>jg f (n/64) (.v (n%64)::k) t
    |true=>match n%64-12 with
     |9=>jg f (n/64/64/64^(n/64%64)) (.n (n/64/64%64^(n/64%64))::k) t
     |7=>match t with
      |y::x::t=>jg f (n/64) k (.and x y::t)
      |_=>[]
     |8=>jg f (n/64) k (.ff::t)
     |Y=>match k with
      |b::a::k=>match Y with
       |0=>jg f (n/64) (.p a b::k) t
       |1=>match a with
        |.n j=>jg f (n/64) (.l j b::k) t
        |_=>[]
       |2=>jg f (n/64) k (.le a b::t)
       |3=>jg f (n/64) k (.le (.p a<|.n 1) b::t)
       |4=>jg f (n/64) k (.eq a b::t)
       |5=>jg f (n/64) k (.vx a b::t)
       |6=>jg f (n/64) k (.vx (.p a<|.n 1) b::t)
       |_=>match b with
        |.n j=>jg f (n/64) (.r a j::k) t
        |_=>[]
      |_=>[]
def C6(w:!N):!LK->Prop->Prop
 |[],c=>c
 |U::hs,c=>C6 w hs<|U.d w->c
def C0:!LK->LP
 |[]=>[]
 |U::hs=>C0 hs++U.p
def Lj(w:!N):!LK->Prop
 |[]=>True
 |z::hs=>C6 w hs<|z.d w
def Li:!LK->N->Bool
 |[],_=>true
 |z::hs,c=>C5 (C0 hs) z.p c
def Lu{w:!N}:∀{hs:!LK} {P:Prop},(LA w (C0 hs)->P)->C6 w hs P
 |[],_,U=>U ab
 |j::hs,P,U=>Lu (hs:=hs) λq z=>U<|rf.mpr #[q,(LK.ok w j).mp z]
def afd(w:!N)(c:N):∀{t:!LK},Li t c=true->Lj w t
 |[],_=>trivial
 |z::hs,e=>Lu λq=>(LK.ok w z).mpr<|Lp q e
def ai(w:!N)(n c:N)(e:Li (jg 999 n [] []) c=true:=by rfl):Lj w (jg 999 n [] []):=afd w c e
section
variable{a b c d e f g h i j k l m n:N}
def g_:a<=1000->a<=10000:=ai [a] 0xe09c40354038fa02540 0x401
def kg:a<b->b≠0:=ai [a,b] 0x1441804f040 0x100401
def og:a<b->b<=5->16*a+b<16^10:=ai [a,b] 0xf40000000000754c04d02839d04f040 0x1104001
def tT:a<=10000->a<=16777216:=ai [a] 0x38100000015500e09c403540 0x401
def pG:a+(b+1)=c->a+1+b=c:=ai [a,b,c] 0x40230131901008c319040 0x4000040000401
def pH:0<2^63:=ai [] 0xf20000000000000000b558 0x1
def rt:a+(b+1)=c->a<c:=ai [a,b,c] 0x3c201008c319040 0x401
def rm(c:a<b*16):a/16<b:=ai [a,b,(a/16),(a%16)] 0x3c108fa03400303342a0f5a8040 0x10001405140 rfl c (cr _ 16)<|bq (y:=16) a<|ζ
def asz:a+1+1+1+1+1+1+1+1+1+1<10->False:=ai [a] 0x50f88c64c64c64c64c64c64c64c64c64c640 0x401
def rn:a<100->a+1<2^63:=ai [a] 0xf20000000000000000b54c6403c1902540 0x401
def rq:a<=9000->a<=16777216:=ai [a] 0x38100000015500e08ca03540 0x401
def vm:a+(b+1)<=1000->c=a->c<=1000:=ai [a,b,c] 0xe3e809509000238fa0254c319040 0x100401
def vp:a<16^0->a=0:=ai [a] 0x41800f640 0x100401
def x5:65<=a/\a<=80->a<128:=ai [a] 0xf080095013381402540380041095 0x100001
def x6:a+(b+1)<=1000->a+(0+1)+b<=1000:=ai [a,b] 0x38fa0254c04c31960038fa0254c319040 0x401
def LQ:a<=5->b<a->16*b+a<16^10:=ai [a,b] 0xf40000000000754c00d0683c004e740 0x1004401
def LR:a<b->b<=5->c<b->16*a+c<16^10:=ai [a,b,c] 0x3d00000000001d5302340a0f04239d04f040 0x41104001
def C_:a<b->b<=5->a<=5:=ai [a,b] 0xe74039d04f040 0x100401
def x7:a+b<=10000->a<=10000:=ai [a,b] 0x3827100d500e09c40354c040 0x401
def LS:1<a+4:=ai [a] 0xf31c019 0x1
def LT:a<=b+6->a<=b+6:=ai [a,b] 0x38c78100e31e040 0x401
def LU:a<=b+4->a<=b+6:=ai [a,b] 0x38c78100e31c040 0x401
def x_:a<b->0<b:=ai [a,b] 0x3c160f040 0x401
def Db:0+(a+1)<10->a+1<10:=ai [a] 0x3e231900f88c319018 0x401
def Dd:a<=60->b=a->b<=1000:=ai [a,b] 0x38fa0254140004ef01540 0x100401
def Df:a+(b+1)=9->a+1+b=9:=ai [a,b] 0x42130131901084c319040 0x4000040000401
def Dg:a+(b+1)<=1000->a+1+b<=1000:=ai [a,b] 0x38fa0254c04c64038fa0254c319040 0x401
def LZ:a<=9000->a<=10000:=ai [a] 0x3827100d500e08ca03540 0x401
def Dj:a+(b+1)<=9000->a<=9000:=ai [a,b] 0x3823280d500e08ca0354c319040 0x401
def Dk:a+(b+1)<=4000->c=a->c<=16777216:=ai [a,b,c] 0x3810000001550900023be80254c319040 0x100401
def Dl:a<=4001->a<=16777216:=ai [a] 0xe0400000055403be842540 0x401
def Dm:a<=5->b<a->b<=5:=ai [a,b] 0xe7413c004e740 0x100401
def Dn:a+(b+1)<10->b+1<10:=ai [a,b] 0x3e231904f88c319040 0x401
def Do:a<=9000->b<=a->b<=10000:=ai [a,b] 0xe09c40354138004e08ca03540 0x100401
def asG:a+1+1+1+1+1+1+1+1+1+1+1+1+1+1+1+1<16->False:=ai [a] 0x50fa0c64c64c64c64c64c64c64c64c64c64c64c64c64c64c64c640 0x401
def L0:a<=999->a<=16777213:=ai [a] 0x3bfffff4454038f9c2540 0x401
def L5:a<=999->1+(a+1)<=16777216:=ai [a] 0xe04000000554c31901938f9c2540 0x401
def L6:a<=1000->a<=16777216:=ai [a] 0xe04000000554038fa02540 0x401
def L8:a+b<=9000->a<=9000:=ai [a,b] 0x3823280d500e08ca0354c040 0x401
def L9(b:a<2^60):a/16<2^60:=ai [a,(a/16),(a%16)] 0x3c10000000000000002d504fa02400302341a0f04000000000000000b540 0x100410 rfl b (cr _ 16)<|bq (y:=16) a<|ζ
def L_:a<=6->a<=100:=ai [a] 0xe06409500e780 0x401
def ala:a<3->a<2^63:=ai [a] 0x3c80000000000000002d500f6c0 0x401
def Ma:a<=60->a<=1000:=ai [a] 0xe3e809500ef01540 0x401
def Mb:a<=1000->b=a->b<=16777216:=ai [a,b] 0x38100000015505000138fa02540 0x100401
def Mc:a+(b+1)<=1000->a<=1000:=ai [a,b] 0x38fa0254038fa0254c319040 0x401
def Md:a+0=b->a=b:=ai [a,b] 0x40101004c600 0x4000040000401
def Me:a+0=b->b<=a:=ai [a,b] 0x38005004c600 0x100001
def Mf:a<=50->a<=60:=ai [a] 0x3bc05500ec81540 0x401
def Mg:a<=100->a<=1000:=ai [a] 0x38fa02540381902540 0x401
def Mj:a<9->b=a->b<9:=ai [a,b] 0xf84140004f840 0x100401
def Mm:a=b+1->0<a:=ai [a,b] 0x3c0610319040 0x100001
def Mo:a+100*(b+1)<=9000->a+100<=9000:=ai [a,b] 0x3823280d53019025403823280d530d319041902540 0x401
def alb:a<16^5->a<2^60:=ai [a] 0xf04000000000000000b5403c4000004540 0x401
def alc:a<=5->a<=100:=ai [a] 0xe06409500e740 0x401
def Mp:a<=900->1+a<=1000:=ai [a] 0x38fa0254c01938e102540 0x401
def Mq:a+2<3*b->c<=2->a+c<3*b:=ai [a,b,c] 0xf3416cc08039a08f3416cc680 0x100401
def Mr:a+b+c=a+c+b:=ai [a,b,c] 0x1030130200c08c040 0x401
def Mt:a+1<=9990->a<=9998:=ai [a] 0x38270e0d500e09c18354c640 0x401
def Mu:a+1<=9990->a+1<=9998:=ai [a] 0x38270e0d531900e09c18354c640 0x401
def Mv:a<=9->b=a->b+3<=16777216:=ai [a,b] 0xe04000000554c6c140004e840 0x100401
def Mw:a+(b+1)<10->b+1<=4000:=ai [a,b] 0xefa009531904f88c319040 0x401
def ald(c:a<=5):a-b<=5:=ai [a,(a-b)] 0xe74138004e740 0x100401 rfl c<|lh a b
def ale:a+(b+1)=9->a<9:=ai [a,b] 0x3e101084c319040 0x401
def My:a+(b+1)=a+1+b:=ai [a,b] 0x1030131900c319040 0x401
def alg:a<=100->b<a->b<2^63:=ai [a,b] 0x3c80000000000000002d504f001381902540 0x100401
def ali:a<=100->b=a->b<=16777216:=ai [a,b] 0x381000000155050001381902540 0x100401
def Mz:0<a->16*b+a≠0:=ai [a,b] 0x14418300341a0f018 0x100401
def MA(c:0<a)(M:b<=a-1):b<a:=ai [a,b,(a-1)] 0x3c005000c64238204f018 0x40100001 rfl c M<|bh<|ai [a,b,(a-1)] 0xe01938204f018 0x401 rfl c M
def MB:a<=a+1+1:=ai [a] 0xe319319000 0x1
def MC:a<=1000->b=a->b<=1000:=ai [a,b] 0xe3e809505000138fa02540 0x100401
def MD:a+(b+1)<c->a<c:=ai [a,b,c] 0x3c200f08c319040 0x401
def ME:a+(b+1)<c->a+1+b<c:=ai [a,b,c] 0x3c230131900f08c319040 0x401
def MF:a+b<=c->a<=c:=ai [a,b,c] 0x38200e08c040 0x401
def afJ:a+1-a=1:=ai [((a+1)-a),a] 0x41901031904c040 0x4000040000401 rfl<|bh<|ai [((a+1)-a),a] 0xe319041 0x1 rfl
def LE:a+1+(b+1)<=10000->a+1+(0+1)<=16777216:=ai [a,b] 0x38100000015530c65831900e09c40354c31904c640 0x401
def LF:a+1+(b+1)<=10000->a+1+(0+1)+b<=10000:=ai [a,b] 0x3827100d530130c65831900e09c40354c31904c640 0x401
def afK:a<=100->a<=16777216:=ai [a] 0xe040000005540381902540 0x401
def LG:a+(b+1)<=80->c<=60*(a+1)->c<=5000:=ai [a,b,c] 0x3813880d508e34c640f0154238140254c319040 0x10f001
def LH:a+(b+1)<=80->a<100:=ai [a,b] 0x3c190254038140254c319040 0x401
def LI:a<=9000->b<=a+2->b<=10000:=ai [a,b] 0xe09c40354138c68004e08ca03540 0x100401
def LJ:a<=9000->b<=a+3->b<=16777216:=ai [a,b] 0xe04000000554138c6c004e08ca03540 0x100401
def LL:a<=16^5->b<a->a+b<16^6:=ai [a,b] 0x3c100000015530100f001384000004540 0x100801
def LM:a<=6->a<=16777216:=ai [a] 0x38100000015500e780 0x401
def afL:a<=5000->b<=3->a+b<=16777216:=ai [a,b] 0xe04000000554c04039b04e04e203540 0x100401
def afN:a<=998->a<=16777211:=ai [a] 0x3bffffec454038f982540 0x401
def afO:a<=998->3+(a+1)<=16777216:=ai [a] 0xe04000000554c31901b38f982540 0x401
def afP:a<=998->a<=16777214:=ai [a] 0x3bfffff8454038f982540 0x401
def afT:a+b<=100->b=c+1->1+a<=16777216:=ai [a,b,c] 0x38100000015530065031908138190254c040 0x401
def afU:a+b<=100->b=c+1->a+1+c<=100:=ai [a,b,c] 0xe06409530231901031908138190254c040 0x40000401
def afV:a<=100->a=b+1->0+1+b<=100:=ai [a,b] 0xe064095301319610319040381902540 0x40000401
def afW:a=9->0<a:=ai [a] 0x3c0610840 0x100009
def afY(c:a<16^5):b%1048576<3145729:=ai [a,(b%1048576),(b/1048576),b] 0x3cc0000445413c40000045414033013421000001153c4000004540 0x10000000001 rfl c (cr _ 1048576)<|bq (y:=1048576) b<|ζ
def afZ(e:a<16^5)(M:b<16^5):c%1048576+d%1048576<3145729:=ai [a,b,(c%1048576),(d%1048576),(c/1048576),c,(d/1048576),d] 0x3cc00004454c0c23c40000045434073033461000001153c40000045424053023441000001153c40000045413c4000004540 0x100000004000000000001 rfl e M (cr _ 1048576) (bq (y:=1048576) c<|ζ) (cr _ 1048576)<|bq (y:=1048576) d<|ζ
def af0(g:a<16^5)(M:b<16^5)(X:c<16^5):d%1048576+(e%1048576+f%1048576)<3145729:=ai [a,b,c,(d%1048576),(e%1048576),(f%1048576),(d/1048576),d,(e/1048576),e,(f/1048576),f] 0x3cc00004454c3051033c400000454540b30534a1000001153c40000045444093043481000001153c40000045434073033461000001153c40000045423c40000045413c4000004540 0x1000000040000001000000000000001 rfl g M X (cr _ 1048576) (bq (y:=1048576) d<|ζ) (cr _ 1048576) (bq (y:=1048576) e<|ζ) (cr _ 1048576)<|bq (y:=1048576) f<|ζ
def af1:a<3*16^5+1->a<16^6:=ai [a] 0xf0400000055403cc64c000004540 0x401
def af2:a<3*16^5+1->a<2^60:=ai [a] 0xf04000000000000000b5403cc64c000004540 0x401
def af3:a<16->a<2^63:=ai [a] 0x3c80000000000000002d500fa00 0x401
def af5:a+(b+c)=a+b+c:=ai [a,b,c] 0x1030230100c302040 0x401
def af6:a=3->b<3->b<a:=ai [a,b] 0xf0013db0506c0 0x40100001
def af7:9<=a/\a<=10->0=a->False:=ai [a] 0x144006133a200e021 0x10000000409
def af8:9<=a/\a<=10->b=a->b<=10:=ai [a,b] 0xe8814000533a200e021 0x40100001
def af9:9<=a/\a<=10->b=a->c<=0+53*b->c<=9990:=ai [a,b,c] 0x3827060d508e30d0750556024000533a200e021 0x4000d43500001
def af_:a<=3*b->c<=3->c+a<=3*(b+1):=ai [a,b,c] 0xe34c6416cc00239b08e3416c0 0x100401
def aga:a=9->b<=3*a->b<=30:=ai [a,b] 0xed8138d01b050840 0x40000c01
def agb:a<=9*30->a<300:=ai [a] 0x3c4b02540384382540 0x401
def agc:a<=30->b<=a->b<=100:=ai [a,b] 0x38190254138004ed80 0x100401
def agd:9<=a/\a<=10->b=a->b<=100:=ai [a,b] 0x3819025414000533a200e021 0x40100001
def agf:a+1<10->a<=999:=ai [a] 0xe3e709500f88c640 0x401
def agg:0+(a+1)<=0+(a+1):=ai [a] 0xe30c64060c319018 0x1
def agh:0+1<=0+(a+1):=ai [a] 0xe30c64060c658 0x1
def agj:a=b->b<=60->a<=900:=ai [a,b] 0x38e1025403bc055050040 0x40000401
def agk:a<=60->b<=a->b<64:=ai [a,b] 0x3c100254138004ef01540 0x100401
def agl:a=b->b+(c+1)=9->d=a->d<=10000:=ai [a,b,c,d] 0x3827100d50d000342130c642050040 0x4000040000401
def agm:a+1<=1000->1+a<=1000:=ai [a] 0x38fa0254c01938fa0254c640 0x401
def agn:a<=1000->a<=9000:=ai [a] 0xe08ca0354038fa02540 0x401
def agp:a+1<=50->a<=900:=ai [a] 0xe38409500ec8154c640 0x401
def agB:a=b->b<=a:=ai [a,b] 0x380050040 0x100001
def agC:a+1+b=a+b+1:=ai [a,b] 0x1031930100c04c640 0x401
def agE:a<9->¬b<9->a<b:=ai [a,b] 0xf0404a104f840 0x100401
def agF:a=b->c=b->a<c->False:=ai [a,b,c] 0x50f080401090040 0x4000040100001
def agH:a+1<=b->b=a->False:=ai [a,b] 0x1440004e04c640 0x100401
def agI:0<=1:=ai [] 0xe658 0x1
def agK:a=b->a<c->b<=c:=ai [a,b,c] 0xe0813c2010040 0x40100001
def agM:a=b->a<c->0<c:=ai [a,b,c] 0xf0983c2010040 0x40000001
def agN:a=b->a<c->d+1=c->d<=b->c=b+1:=ai [a,b,c,d] 0x103190423810d008c6433c2010040 0x10040000401004000000000001
def agO:a<9->b=a->b<c->c<9->d+1=c->d<=a->a+1<9:=ai [a,b,c,d] 0xf84c6403800d008c6433e108f08140004f840 0x4010040000001
def agP:a=b+1->a=b->False:=ai [a,b] 0x14401010319040 0x40100001
def agQ:a<9->b=a+1->a+1<9->b<9:=ai [a,b] 0x3e104f84c64040c64004f840 0x10000100001
def agR:a<9->a+1<9->b=a+1->b<9:=ai [a,b] 0x3e10503190013e131900f840 0x40100001
def agS:a+1<=b->c=a+1->b<c->False:=ai [a,b,c] 0x50f08140c64008e04c640 0x10000100401
def agT:a=b+1->c+1=a->c=b:=ai [a,b,c] 0x10042400319090319040 0x40000400004000040000401
def agU:a<=b->c<=d->c+a<=b+d:=ai [a,b,c,d] 0xe30304c00238308e040 0x100401
def agV:a<=63->a=b->b<=9000:=ai [a,b] 0xe08ca0354140100efc1540 0x40000401
def agW:a+100<=9000->b<=100->a+b<=9000:=ai [a,b] 0xe08ca0354c0403819025413823280d5301902540 0x100401
def agX:a=b+c->c<=d->d<=100->a<=b+100:=ai [a,b,c,d] 0x38c064095040381902543383090302040 0x10040000401
def agY:a+100*(b+1)<=9000->c<=a+100->c+100*b<=9000:=ai [a,b,c] 0x3823280d530d04190254238c0640950023823280d530d319041902540 0x100401
def ag0:a<=1000->a+100<=9000:=ai [a] 0x3823280d530190254038fa02540 0x401
def ag1:a<=1000->b<9->c<=a+100->c+100*b<=9000:=ai [a,b,c] 0xe08ca0354c34106409508e30190254008f84138fa02540 0x46400401
def ag3(b:0<a):a-1<a:=ai [a,(a-1)] 0xf00140031904f018 0x100001 rfl b<|bh<|ai [a,(a-1)] 0x38064f018 0x401 rfl b
def ag4(c:a<b-1):a<b-1:=ai [a,(b-1),b] 0xf04038204f040 0x401 rfl c<|lh b 1
def ag5(b:0<a):¬a-1=a:=λd=>ai [a,(a-1)] 0x51000c64140004f018 0x10040000001 rfl b d<|bh<|ai [a,(a-1)] 0xe01940004f018 0x401 rfl b d
def ag6:a<=100->a<=8000:=ai [a] 0xe07d003540381902540 0x401
def ag7:a<=1000->b=a->b<=9000:=ai [a,b] 0x3823280d505000138fa02540 0x100401
def ag9:a<=4->5+(a+1)<=16777216:=ai [a] 0x38100000015530c64074e700 0x401
def ag_:a<=4->a<=16777210:=ai [a] 0xefffffa11500e700 0x401
def aha:a<=4->a<=16777215:=ai [a] 0xeffffff11500e700 0x401
def ahb:a+(b+1)<=100->a<=1000:=ai [a,b] 0x38fa0254038190254c319040 0x401
def ahc:a+(b+1)<=100->a+1+b<=100:=ai [a,b] 0x38190254c04c64038190254c319040 0x401
def ahd:a+1<=100->1+a<=100:=ai [a] 0x38190254c01938190254c640 0x401
def ahe:a<b->b<=5->a<=4:=ai [a,b] 0xe70039d04f040 0x100401
def ahf(c:a=5):4-b<a:=ai [a,(4-b)] 0xf00139c050740 0x40100001 rfl c<|lh 4 b
def ahg:¬9<=a->a<=9:=ai [a] 0x3a1011021 0x401
def ahh:0+a=a:=ai [a] 0x1000c018 0x401
def ahi:(a*16+b)/16=a+b/16:=ai [(((a*16)+b)/16),a,(b/16),(((a*16)+b)%16),b,(b%16)] 0x103020403e815010c14d0a83e80d03045a804c0cd028 0x10040100010004010000000001040 rfl (cr _ 16) (bq (y:=16) ((a*16)+b)<|ζ) (cr _ 16)<|bq (y:=16) b<|ζ
def ahj(c:(a*16+b)/16=a+b/16):(a*16+b)%16=b%16:=ai [(((a*16)+b)/16),a,(b/16),(((a*16)+b)%16),(b%16),b] 0x4040cfa04405304342a0fa0340c156a01303340a0fa04405304342a0fa0340c156a01303340a10302040 0x40000400000100040000000000000000000400000000041000001 rfl c (cr _ 16) (bq (y:=16) ((a*16)+b)<|ζ) (cr _ 16) (bq (y:=16) b<|ζ) (cr _ 16) (bq (y:=16) ((a*16)+b)<|ζ) (cr _ 16)<|bq (y:=16) b<|ζ
def ahk(c:0<a)(M:(a*16+b)/16=a+b/16):a+b/16≠0:=λd=>ai [a,(((a*16)+b)/16),(b/16),(((a*16)+b)%16),b,(b%16)] 0x50fa05404305342a0fa0340c116a00303341a1060c08040c08004f018 0x10000000401 rfl c M d (cr _ 16) (bq (y:=16) ((a*16)+b)<|ζ) (cr _ 16)<|bq (y:=16) b<|ζ
def ahl:(a+b*16)/16=a/16+b:=ai [((a+(b*16))/16),(a/16),b,((a+(b*16))%16),a,(a%16)] 0x103020403e815010c14d0683e80d0316a0210c0cd028 0x10040100010004010000000001040 rfl (cr _ 16) (bq (y:=16) (a+(b*16))<|ζ) (cr _ 16)<|bq (y:=16) a<|ζ
def aho(e:a<b*16)(M:(a+c)/16=a/16+d):a/16<b:=ai [a,b,((a+c)/16),(a/16),d,((a+c)%16),c,(a%16)] 0xf0433e81d000c1cd0e83e815030600c14d0a840c10308f5a8040 0x5001000000000005140 rfl e M (cr _ 16) (bq (y:=16) (a+c)<|ζ) (cr _ 16)<|bq (y:=16) a<|ζ
def ahp:65<=65+a%16/\65+a%16<=80:=ai [(a%16),(a/16),a] 0x1338140254c00104254e3000410950410953e801008c00d068 0x400000010000000001 rfl (cr _ 16)<|bq (y:=16) a<|ζ
def ahr(c:a=b):b+1-1-0-a=0:=ai [a,b,((((b+1)-1)-0)-a),((b+1)-1),(((b+1)-1)-0)] 0x106024043000900cc60440c6413190d0040 0x40000400004000040100001 rfl c (bh<|ai [a,b,((((b+1)-1)-0)-a),((b+1)-1),(((b+1)-1)-0)] 0x38c641650040 0x1 rfl c) (bh<|ai [a,b,((((b+1)-1)-0)-a),((b+1)-1),(((b+1)-1)-0)] 0xe0d840c6413190d0040 0x1 rfl c<|bh<|ai [a,b,((((b+1)-1)-0)-a),((b+1)-1),(((b+1)-1)-0)] 0x38c641650040 0x1 rfl c)<|bh<|ai [a,b,((((b+1)-1)-0)-a),((b+1)-1),(((b+1)-1)-0)] 0x3840100cc60440c6413190d0040 0x1000010000000401 rfl c (bh<|ai [a,b,((((b+1)-1)-0)-a),((b+1)-1),(((b+1)-1)-0)] 0x38c641650040 0x1 rfl c)<|bh<|ai [a,b,((((b+1)-1)-0)-a),((b+1)-1),(((b+1)-1)-0)] 0xe0d840c6413190d0040 0x1 rfl c<|bh<|ai [a,b,((((b+1)-1)-0)-a),((b+1)-1),(((b+1)-1)-0)] 0x38c641650040 0x1 rfl c
def aht(d:a=b)(M:c+1<b+1):b+1-1-(c+1)<a:=ai [a,b,c,(((b+1)-1)-(c+1)),((b+1)-1)] 0xf00340430c6420d031904c6443cc641319090040 0x1000010000100001 rfl d M (bh<|ai [a,b,c,(((b+1)-1)-(c+1)),((b+1)-1)] 0xe3190593cc641319090040 0x1 rfl d M)<|bh<|ai [a,b,c,(((b+1)-1)-(c+1)),((b+1)-1)] 0x38431909031904c6443cc641319090040 0x4000040000001 rfl d M<|bh<|ai [a,b,c,(((b+1)-1)-(c+1)),((b+1)-1)] 0xe3190593cc641319090040 0x1 rfl d M
def ahx:0<=2:=ai [] 0xe698 0x1
def ahy:1<=2:=ai [] 0xe699 0x1
def ahz:2<=2:=ai [] 0xe69a 0x1
def ahA(d:a<=b)(M:b<=c):c-a=b-a+(c-b):=ai [a,b,c,(c-a),(b-a),(c-b)] 0x40c1440d008c04540130011008c00338204e040 0x10000100400000000040100001000000040000001 rfl d M (bh<|ai [a,b,c,(c-a),(b-a),(c-b)] 0xe08038204e040 0x100401 rfl d M) (bh<|ai [a,b,c,(c-a),(b-a),(c-b)] 0x38101008c00338204e040 0x401 rfl d M<|bh<|ai [a,b,c,(c-a),(b-a),(c-b)] 0xe08038204e040 0x100401 rfl d M)<|bh<|ai [a,b,c,(c-a),(b-a),(c-b)] 0xe08140130011008c00338204e040 0x100001 rfl d M (bh<|ai [a,b,c,(c-a),(b-a),(c-b)] 0xe08038204e040 0x100401 rfl d M)<|bh<|ai [a,b,c,(c-a),(b-a),(c-b)] 0x38101008c00338204e040 0x401 rfl d M<|bh<|ai [a,b,c,(c-a),(b-a),(c-b)] 0xe08038204e040 0x100401 rfl d M
def ahB(d:a<=b)(M:b<=c)(X:c-a=b-a+(c-b)):b=a+(b-a):=ai [a,b,c,(c-a),(b-a),(c-b)] 0x1030400140230115004c0044023000d030510338204e040 0x1000000000000000004000000100000000000000000001 rfl d M X (bh<|ai [a,b,c,(c-a),(b-a),(c-b)] 0x38201030510338204e040 0x100401 rfl d M X) (bh<|ai [a,b,c,(c-a),(b-a),(c-b)] 0xe0404023000d030510338204e040 0x401 rfl d M X<|bh<|ai [a,b,c,(c-a),(b-a),(c-b)] 0x38201030510338204e040 0x100401 rfl d M X)<|bh<|ai [a,b,c,(c-a),(b-a),(c-b)] 0x38205004c0044023000d030510338204e040 0x100001 rfl d M X (bh<|ai [a,b,c,(c-a),(b-a),(c-b)] 0x38201030510338204e040 0x100401 rfl d M X)<|bh<|ai [a,b,c,(c-a),(b-a),(c-b)] 0xe0404023000d030510338204e040 0x401 rfl d M X<|bh<|ai [a,b,c,(c-a),(b-a),(c-b)] 0x38201030510338204e040 0x100401 rfl d M X
def ahC:a+b+(c+d)=a+c+(b+d):=ai [a,b,c,d] 0x1030c0c130200c30308c040 0x401
def ahD:0<a->2<3*a:=ai [a] 0x3cd01b68f018 0xc01
def ahE:0<a->b<a->b+2<3*a:=ai [a,b] 0xf3406cc6813c004f018 0x100801
def ahF:a<b->c<b->d<b->a+(c+d)+2<3*b:=ai [a,b,c,d] 0x3cd05b31a30c0c200f0433c108f040 0x40100401
def ahG(d:a<=b)(M:b<=c):c-b+(b-a)=c-a:=ai [a,b,c,(c-b),(b-a),(c-a)] 0x4053040d008c00540130011008c04338204e040 0x10040000400000000040100000004000040000001 rfl d M (bh<|ai [a,b,c,(c-b),(b-a),(c-a)] 0xe08138204e040 0x100001 rfl d M) (bh<|ai [a,b,c,(c-b),(b-a),(c-a)] 0x38101008c04338204e040 0x401 rfl d M<|bh<|ai [a,b,c,(c-b),(b-a),(c-a)] 0xe08138204e040 0x100001 rfl d M)<|bh<|ai [a,b,c,(c-b),(b-a),(c-a)] 0xe08040130011008c04338204e040 0x100401 rfl d M (bh<|ai [a,b,c,(c-b),(b-a),(c-a)] 0xe08138204e040 0x100001 rfl d M)<|bh<|ai [a,b,c,(c-b),(b-a),(c-a)] 0x38101008c04338204e040 0x401 rfl d M<|bh<|ai [a,b,c,(c-b),(b-a),(c-a)] 0xe08138204e040 0x100001 rfl d M
def ahH:a-1<=a+1:=ai [(a-1),a] 0x38c64100e040 0x401 rfl<|lh a 1
def ahJ:a+(b+c+1)<=9999->b+c<=9999:=ai [a,b,c] 0x38270f0d530204e09c3c354c319302040 0x401
def ahK:¬a+1=0:=ai [a] 0x51060c640 0x401
def ahL:a+(b+c)<=9990->b+c<=9990:=ai [a,b,c] 0x3827060d530204e09c18354c302040 0x401
def ahM:a+(b+c)<=9990->c<=9990:=ai [a,b,c] 0x3827060d508e09c18354c302040 0x401
def ahN:a+(b+c)<=9990->b+c<=9999:=ai [a,b,c] 0x38270f0d530204e09c18354c302040 0x401
def ahO:a+b<=9990->b<=9990:=ai [a,b] 0x3827060d504e09c18354c040 0x401
def ahP:a+b<=9990->a+b<=9999:=ai [a,b] 0x38270f0d530100e09c18354c040 0x401
def ahQ:a+4*647<=9000->a+10<9900:=ai [a] 0xf09ab0354c8803823280d5328702540 0x401
def ahR:1<a->a=1->False:=ai [a] 0x1441900f019 0x100401
def ahS:a+(b+1)<10->a<10:=ai [a,b] 0x3e200f88c319040 0x401
def ahT:a+(b+1)<10->b+1<=100:=ai [a,b] 0xe06409531904f88c319040 0x401
def ahU:a+(b+1)<10->b<9:=ai [a,b] 0x3e104f88c319040 0x401
def ahV:a+(b+1)<10->b+1<64:=ai [a,b] 0xf04009531904f88c319040 0x401
def ahW:a<b+1->c+1<=a->c<b:=ai [a,b,c] 0xf04238031908f319040 0x100401
def ahX:a<b->c=a->c≠b:=ai [a,b,c] 0x51004240008f040 0x4000000100401
def ahZ:a=b->c+1<=a->c<b:=ai [a,b,c] 0xf042380319090040 0x40000401
def ah0:0<a->b=a->0<b:=ai [a,b] 0xf05840004f018 0x40000401
def ah1:a=b->c+1=a->c+1=b:=ai [a,b,c] 0x1004c642400319090040 0x40000400004000040000401
def ah2:¬a<9->a<=9->0<a:=ai [a] 0xf0183a1012840 0x409
def ah3(d:¬a<9)(M:a<=9)(X:b+1=a)(I:c<9)(Y:b<=c):c=8-0:=ai [a,b,c,(8-0)] 0x100c24203180ce0813e109000c6413a1012840 0x10040000400000010040100000004000000000001 rfl d M X I Y<|bh<|ai [a,b,c,(8-0)] 0x3a060e0813e109000c6413a1012840 0x1 rfl d M X I Y
def ah5(c:a=8-b):a<9:=ai [a,(8-b)] 0xf8403a0050040 0x40000401 rfl c<|lh 8 b
def ah6(c:a+1<=8)(M:b=8-a):0<b:=ai [a,b,(8-a)] 0x3c161080c00240204e80c640 0x4000040000401 rfl c M<|bh<|ai [a,b,(8-a)] 0xe80040204e80c640 0x401 rfl c M
def ah7(b:a<10)(M:a<9):8-a<=8:=ai [a,(8-a)] 0x3a005080c0013e100f880 0x40000001 rfl b M<|bh<|ai [a,(8-a)] 0xe8003e100f880 0x100001 rfl b M
def ah8(c:a<10)(M:a<9)(X:b=8-(8-a)):b=a:=ai [a,b,(8-(8-a)),(8-a)] 0x40005080c0c24203000d00813e100f880 0x4000000100400000000040000401000000040000001 rfl c M X (bh<|ai [a,b,(8-(8-a)),(8-a)] 0x3a00100813e100f880 0x100001 rfl c M X)<|bh<|ai [a,b,(8-(8-a)),(8-a)] 0xe8034203000d00813e100f880 0x4000000000001 rfl c M X<|bh<|ai [a,b,(8-(8-a)),(8-a)] 0x3a00100813e100f880 0x100001 rfl c M X
def ah9:¬a<9->a<=9->b<10->b>=9->a=b:=ai [a,b] 0x1004038184f8813a1012840 0x100001004010000100001
def ah_:a=9->10<=a->False:=ai [a] 0x14380890840 0x40000401
def aia:a<=b->1+a<=b+1:=ai [a,b] 0x38c64130064e040 0x401
def aib:a<=b->0+a<=b+1:=ai [a,b] 0x38c64130060e040 0x401
def aic:a+(b+1)<=900->c<=a->c<=1000:=ai [a,b,c] 0xe3e809508e00238e10254c319040 0x100401
def aid:a+(b+1)<=900->a+1+b<=900:=ai [a,b] 0x38e10254c04c64038e10254c319040 0x401
def aif:a=0->b<a->False:=ai [a,b] 0x143c0050600 0x40000401
def aig:a<b->a=b->False:=ai [a,b] 0x1440100f040 0x40000401
def aih:a<b+1->¬a<b->a=b:=ai [a,b] 0x1004048100f319040 0x4000040000401
def aii:a+(b+1)=9->c<a->c<9:=ai [a,b,c] 0xf8423c009084c319040 0x40000401
def aij:a+(b+1)=9->c=b+1->d<c->a+d<9:=ai [a,b,c,d] 0x3e130300f08340c64109084c319040 0x4000040000401
def aim:a+(b+1)=9->c=a->c<a+1:=ai [a,b,c] 0xf31900240009084c319040 0x40000001
def aip:a+(b+1)=9->a<c->¬c<a:=ai [a,b,c] 0x50f0023c201084c319040 0x10040000002
def air:a+(b+1)=9->c=a->c<9:=ai [a,b,c] 0xf84240009084c319040 0x40000401
def ais:a+(b+1)=9->c<a->c=a->False:=ai [a,b,c] 0x5100023c009084c319040 0x4000040000001
def ait:a=b->b+(c+1)=d->d<=9->a+(c+1)<10:=ai [a,b,c,d] 0x3e230c64200e84340330c642050040 0x4000040000401
def aiu:1<a+19:=ai [a] 0xf32b019 0x1
def aiw:a<=9000->b<=a->b<=16777216:=ai [a,b] 0xe04000000554138004e08ca03540 0x100401
def aix:¬a<b+1+c->¬(b+1<=a/\a<b+1+c):=ai [a,b,c] 0x144cf302319040380319052302319040 0x40000401
def aiz:¬a<b+1+c->¬(b<=a/\a<b+(c+1)):=ai [a,b,c] 0x144cf30c642040380052302319040 0x40000401
def aiA:a<b->a<0+b:=ai [a,b] 0x3cc05800f040 0x401
def aiB:¬a<b->b<=a:=ai [a,b] 0x380052040 0x401
def aiC:a+1+(b+1)<=1000->c=a->c<=16777215:=ai [a,b,c] 0xeffffff11509000238fa0254c31904c640 0x100401
def aiD:a+1+(b+1)<=1000->c=a->d<=2->c+d<=16777216:=ai [a,b,c,d] 0xe04000000554c0c239a0d000238fa0254c31904c640 0x10000100401
def aiE(c:a<b/\b<=100)(M:1<b-a):0<b-a-1:=ai [a,b,(b-a),((b-a)-1)] 0x3c361008c64340130008f0994ce06409504f040 0x400000000040000001 rfl c M (bh<|ai [a,b,(b-a),((b-a)-1)] 0x38100f0994ce06409504f040 0x401 rfl c M)<|bh<|ai [a,b,(b-a),((b-a)-1)] 0xe09940130008f0994ce06409504f040 0x40000002 rfl c M<|bh<|ai [a,b,(b-a),((b-a)-1)] 0x38100f0994ce06409504f040 0x401 rfl c M
def aiG(e:a<b/\b<=100)(M:c<b-a-1)(X:a+1+c=d):a<d/\d<=100:=ai [a,b,c,((b-a)-1),d,(b-a)] 0x4ce06409510f1004053190d004c00540430231900f0c24ce06409504f040 0x1000010040000401000010000000000000010000000001 rfl e M X (bh<|ai [a,b,c,((b-a)-1),d,(b-a)] 0xe04040430231900f0c24ce06409504f040 0x401 rfl e M X)<|bh<|ai [a,b,c,((b-a)-1),d,(b-a)] 0x38565004c00540430231900f0c24ce06409504f040 0x400000000000000401 rfl e M X<|bh<|ai [a,b,c,((b-a)-1),d,(b-a)] 0xe04040430231900f0c24ce06409504f040 0x401 rfl e M X
def aiH(e:a<b/\b<=100)(M:c<b-a-1)(X:a+1+c=d):d<b/\b<=100:=ai [a,b,c,((b-a)-1),d,(b-a)] 0x4ce06409504f0444053190d004c00540430231900f0c24ce06409504f040 0x1000010000100001004000040000001 rfl e M X (bh<|ai [a,b,c,((b-a)-1),d,(b-a)] 0xe04040430231900f0c24ce06409504f040 0x401 rfl e M X)<|bh<|ai [a,b,c,((b-a)-1),d,(b-a)] 0x38565004c00540430231900f0c24ce06409504f040 0x400000000000000401 rfl e M X<|bh<|ai [a,b,c,((b-a)-1),d,(b-a)] 0xe04040430231900f0c24ce06409504f040 0x401 rfl e M X
def aiI:a+1+(b+1)<=1000->a+1+1+b<=1000:=ai [a,b] 0x38fa0254c04c64c64038fa0254c31904c640 0x401
def aiJ(e:a<b/\b<=100)(M:2*(b-a)-1+c<=d+1)(X:¬1<b-a):c<=d:=ai [a,b,((2*(b-a))-1),c,d,(b-a)] 0xe10340d15a31909004c00548564e31910c0c24ce06409504f040 0x100002000000040000801 rfl e M X (bh<|ai [a,b,((2*(b-a))-1),c,d,(b-a)] 0xe04048564e31910c0c24ce06409504f040 0x401 rfl e M X)<|bh<|ai [a,b,((2*(b-a))-1),c,d,(b-a)] 0x38d15a65004c00548564e31910c0c24ce06409504f040 0x1000000000000401 rfl e M X<|bh<|ai [a,b,((2*(b-a))-1),c,d,(b-a)] 0xe04048564e31910c0c24ce06409504f040 0x401 rfl e M X
def aiK:a+1+(b+1)<=1000->a+b<=1000:=ai [a,b] 0x38fa0254c04038fa0254c31904c640 0x401
def aiL(c:1<a-b):0<a-b-1:=ai [(a-b),((a-b)-1),a] 0x3c161000c64138200f019 0x10000000401 rfl c (lh a b)<|bh<|ai [(a-b),((a-b)-1),a] 0xe01938200f019 0x402 rfl c<|lh a b
def aiM(c:0<a)(M:a<16):(16*b+a)/16=b:=ai [a,(((16*b)+a)/16),b,(((16*b)+a)%16)] 0x100813e80d0300342a0c0cd0683e800f018 0x14050000000c50000000100400040 rfl c M (cr _ 16)<|bq (y:=16) ((16*b)+a)<|ζ
def aiN(c:(16*a+b)/16=a):(16*a+b)%16=b:=ai [(((16*a)+b)/16),a,(((16*a)+b)%16),b] 0x40308fa0240c0cd068302340a0fa0240c0cd068302340a10040 0x400000100040000000000000041000001 rfl c (cr _ 16) (bq (y:=16) ((16*a)+b)<|ζ) (cr _ 16)<|bq (y:=16) ((16*a)+b)<|ζ
def aiO:65+a=65+b/\65+c=65+d->a=b/\c=d:=ai [a,b,c,d] 0x4d00c240101340c0c104254c081042550301041095300041095 0x400000000040000400000010000000400004000000000401
def Dc:a<16->65<=65+a/\65+a<=80:=ai [a] 0x4ce05009530004109538c00104254104254fa00 0x40100001
def aiP:a<b/\b<=5->a<16/\0<b/\b<16:=ai [a,b] 0x4d33e804f0583e801339d04f040 0x100001000010040100401
def aiQ:a+b+0<=9000->c=a->c<=9999:=ai [a,b,c] 0xe09c3c354240008e08ca0354c60c040 0x100401
def aiR:a+b+0<=9000->c=b->c<=10000:=ai [a,b,c] 0xe09c40354240108e08ca0354c60c040 0x100401
def aiS:a+b+(c+1)<=9000->d=a->d<=9999:=ai [a,b,c,d] 0xe09c3c35434000ce08ca0354c31908c040 0x100401
def aiT:a+b+(c+1)<=9000->a+1+c<=9000:=ai [a,b,c] 0x3823280d530231900e08ca0354c31908c040 0x401
def aiU:a+b+(c+1)<=9000->d=b->d<=10000:=ai [a,b,c,d] 0xe09c4035434010ce08ca0354c31908c040 0x100401
def aiV:a+b+(c+1)<=9000->a+(b+1)+c<=9000:=ai [a,b,c] 0x3823280d530230c64100e08ca0354c31908c040 0x401
def aiW(c:0<a)(M:b<a):b<=a-1:=ai [a,b,(a-1)] 0x38205000c6423c004f018 0x10000100001 rfl c M<|bh<|ai [a,b,(a-1)] 0xe0193c004f018 0x401 rfl c M
def aiY:a<=a/\a<=a+3:=ai [a] 0x1338c6c000e000 0x401
def aiZ:a+b<=1000->0+a+1+b+1<=16777216:=ai [a,b] 0xe04000000554c64c04c64c01838fa0254c040 0x401
def ai0:a+b<=1000->a+(b+1)<=16777216:=ai [a,b] 0xe04000000554c31904038fa0254c040 0x401
def ai1:a+b+c<=1000->0+a+1+b+1+c+1<=16777216:=ai [a,b,c] 0xe04000000554c64c08c64c04c64c01838fa0254c08c040 0x401
def ai2:a+b+c<=1000->a+(b+(c+1)+1)<=16777216:=ai [a,b,c] 0xe04000000554c31930c64204038fa0254c08c040 0x401
def ai3(b:a%4<4):a%4<2^63:=ai [(a%4),(a/4),a] 0x3c80000000000000002d500f70040230034170f700 0x401 rfl b (cr _ 4)<|bq (y:=4) a<|ζ
def ai4(c:a<b):b-1-a<b:=ai [a,b,((b-1)-a),(b-1)] 0x3c10900cc0024013190cf040 0x10000100001 rfl c (bh<|ai [a,b,((b-1)-a),(b-1)] 0x38164f040 0x401 rfl c)<|bh<|ai [a,b,((b-1)-a),(b-1)] 0xe0c04013190cf040 0x40000401 rfl c<|bh<|ai [a,b,((b-1)-a),(b-1)] 0x38164f040 0x401 rfl c
def ai5:a+1+1+1+1+1-a=5:=ai [((((((a+1)+1)+1)+1)+1)-a),a] 0x41d01031931931931931904c040 0x4000040000401 rfl<|bh<|ai [((((((a+1)+1)+1)+1)+1)-a),a] 0xe319319319319319041 0x1 rfl
def ai6:a<=a+b+c+d:=ai [a,b,c,d] 0xe303302301000 0x1
def ai7:a<b+1+c->a<b+(c+1):=ai [a,b,c] 0x3cc31908100f302319040 0x401
def ai8:a+1+b=a+(b+1):=ai [a,b] 0x1030c64100c04c640 0x401
def ai9:a<0+b->a<b:=ai [a,b] 0x3c100f301600 0x401
def ajd:a=b->c<a->c<b:=ai [a,b,c] 0xf0423c0090040 0x40000401
def aje(d:a-b=c+1)(M:b<a):a-(b+1)=c:=ai [(a-b),c,b,a,(a-(b+1))] 0x1004440330c6421100cc0803c3090319040 0x40000001000010000100001004000000000401 rfl d M (bh<|ai [(a-b),c,b,a,(a-(b+1))] 0xe0c23c3090319040 0x40000001 rfl d M)<|bh<|ai [(a-b),c,b,a,(a-(b+1))] 0x3833190900cc0803c3090319040 0x40000001 rfl d M<|bh<|ai [(a-b),c,b,a,(a-(b+1))] 0xe0c23c3090319040 0x40000001 rfl d M
def ajf:0<4:=ai [] 0xf718 0x1
def ajg:2<=16777216:=ai [] 0xe04000000555a 0x1
def aji:1<=16777216:=ai [] 0xe040000005559 0x1
def ajj(c:a%4<4)(M:0+1+a%4=b):2*(b-0)-1+(2*(5-b)-1+0)<=8:=ai [(a%4),b,((2*(b-0))-1),((2*(5-b))-1),(a/4),a,(b-0),(5-b)] 0xe80c3180c240d1da3190d074c04740d19a31909004c6063dc01014c00d11c40130031960f700 0x400008000040000800000000000000001 rfl c M (cr _ 4) (bq (y:=4) a<|ζ) (bh<|ai [(a%4),b,((2*(b-0))-1),((2*(5-b))-1),(a/4),a,(b-0),(5-b)] 0xe0583dc01014c00d11c40130031960f700 0x1 rfl c M (cr _ 4)<|bq (y:=4) a<|ζ) (bh<|ai [(a%4),b,((2*(b-0))-1),((2*(5-b))-1),(a/4),a,(b-0),(5-b)] 0x38d19a65004c6063dc01014c00d11c40130031960f700 0x100000000000000100001 rfl c M (cr _ 4) (bq (y:=4) a<|ζ)<|bh<|ai [(a%4),b,((2*(b-0))-1),((2*(5-b))-1),(a/4),a,(b-0),(5-b)] 0xe0583dc01014c00d11c40130031960f700 0x1 rfl c M (cr _ 4)<|bq (y:=4) a<|ζ) (bh<|ai [(a%4),b,((2*(b-0))-1),((2*(5-b))-1),(a/4),a,(b-0),(5-b)] 0xe74140d19a31909004c6063dc01014c00d11c40130031960f700 0x40000401 rfl c M (cr _ 4) (bq (y:=4) a<|ζ) (bh<|ai [(a%4),b,((2*(b-0))-1),((2*(5-b))-1),(a/4),a,(b-0),(5-b)] 0xe0583dc01014c00d11c40130031960f700 0x1 rfl c M (cr _ 4)<|bq (y:=4) a<|ζ)<|bh<|ai [(a%4),b,((2*(b-0))-1),((2*(5-b))-1),(a/4),a,(b-0),(5-b)] 0x38d19a65004c6063dc01014c00d11c40130031960f700 0x100000000000000100001 rfl c M (cr _ 4) (bq (y:=4) a<|ζ)<|bh<|ai [(a%4),b,((2*(b-0))-1),((2*(5-b))-1),(a/4),a,(b-0),(5-b)] 0xe0583dc01014c00d11c40130031960f700 0x1 rfl c M (cr _ 4)<|bq (y:=4) a<|ζ)<|bh<|ai [(a%4),b,((2*(b-0))-1),((2*(5-b))-1),(a/4),a,(b-0),(5-b)] 0x38d1da65074c04740d19a31909004c6063dc01014c00d11c40130031960f700 0x1000000000000000000000040000401 rfl c M (cr _ 4) (bq (y:=4) a<|ζ) (bh<|ai [(a%4),b,((2*(b-0))-1),((2*(5-b))-1),(a/4),a,(b-0),(5-b)] 0xe0583dc01014c00d11c40130031960f700 0x1 rfl c M (cr _ 4)<|bq (y:=4) a<|ζ) (bh<|ai [(a%4),b,((2*(b-0))-1),((2*(5-b))-1),(a/4),a,(b-0),(5-b)] 0x38d19a65004c6063dc01014c00d11c40130031960f700 0x100000000000000100001 rfl c M (cr _ 4) (bq (y:=4) a<|ζ)<|bh<|ai [(a%4),b,((2*(b-0))-1),((2*(5-b))-1),(a/4),a,(b-0),(5-b)] 0xe0583dc01014c00d11c40130031960f700 0x1 rfl c M (cr _ 4)<|bq (y:=4) a<|ζ)<|bh<|ai [(a%4),b,((2*(b-0))-1),((2*(5-b))-1),(a/4),a,(b-0),(5-b)] 0xe74140d19a31909004c6063dc01014c00d11c40130031960f700 0x40000401 rfl c M (cr _ 4) (bq (y:=4) a<|ζ) (bh<|ai [(a%4),b,((2*(b-0))-1),((2*(5-b))-1),(a/4),a,(b-0),(5-b)] 0xe0583dc01014c00d11c40130031960f700 0x1 rfl c M (cr _ 4)<|bq (y:=4) a<|ζ)<|bh<|ai [(a%4),b,((2*(b-0))-1),((2*(5-b))-1),(a/4),a,(b-0),(5-b)] 0x38d19a65004c6063dc01014c00d11c40130031960f700 0x100000000000000100001 rfl c M (cr _ 4) (bq (y:=4) a<|ζ)<|bh<|ai [(a%4),b,((2*(b-0))-1),((2*(5-b))-1),(a/4),a,(b-0),(5-b)] 0xe0583dc01014c00d11c40130031960f700 0x1 rfl c M (cr _ 4)<|bq (y:=4) a<|ζ
def ajk(c:a%4<4)(M:0+1+a%4=b):0<b/\b<=100:=ai [(a%4),b,(a/4),a] 0x4ce06409504f0583dc0100cc00d09c40130031960f700 0x10000100400000000000100001 rfl c M (cr _ 4)<|bq (y:=4) a<|ζ
def ajl(c:a%4<4)(M:0+1+a%4=b):b<5/\5<=100:=ai [(a%4),b,(a/4),a] 0x4ce06409574f7413dc0100cc00d09c40130031960f700 0x400000000040000401 rfl c M (cr _ 4)<|bq (y:=4) a<|ζ
def ajn:a<=b->a<=b+1+1:=ai [a,b] 0x38c64c64100e040 0x401
def ajo:a+(b+1)<=9000->c<=a+1->c+b<=9000:=ai [a,b,c] 0xe08ca0354c04238c64008e08ca0354c319040 0x100401
def ajp:a<=8000->b<=1->b+a<=9000:=ai [a,b] 0xe08ca0354c00139904e07d003540 0x100401
def ajq:a<=4000->a<=9000:=ai [a] 0xe08ca035403be802540 0x401
def aju:0+(a+1)<=10000->0+(0+1)+a<=10000:=ai [a] 0x3827100d530030c65860e09c40354c319018 0x401
def ajw:0+(a+1)<=10000->0+1+a<=10000:=ai [a] 0x3827100d530031960e09c40354c319018 0x401
def ajx:a+(b+1)<=4000->c<=d->d=a->c<=4000:=ai [a,b,c,d] 0x3be8025424000ce0c23be80254c319040 0x40100401
def ajy:a<=4000->a+1<=16777216:=ai [a] 0xe04000000554c6403be802540 0x401
def ajz:a+(b+1)<=4000->a<=16777216:=ai [a,b] 0xe0400000055403be80254c319040 0x401
def ajA:a+(b+1)<=c->a<=c:=ai [a,b,c] 0x38200e08c319040 0x401
def ajC:a+(b+1)<=4000->c<=a->c+b<=4000:=ai [a,b,c] 0xefa009530108e0023be80254c319040 0x100401
def ajD:a+(b+1)<=4000->c=a->c<=4001:=ai [a,b,c] 0xefa10950900023be80254c319040 0x100401
def ajE:a+(b+1)<=4000->a+1<=4000:=ai [a,b] 0x3be80254c6403be80254c319040 0x401
def ajF:a+(b+1)<=c->a+1<=c:=ai [a,b,c] 0x38231900e08c319040 0x401
def ajG:a+(b+1)<=c->a+1+b<=c:=ai [a,b,c] 0x38230131900e08c319040 0x401
def ajH:a+(b+1)<=4000->c<=a+1->c+b<=4000:=ai [a,b,c] 0xefa009530108e3190023be80254c319040 0x100401
def ajJ:a<=9999->0+a<=10000:=ai [a] 0x3827100d530060e09c3c3540 0x401
def ajK:a<=4000->a<=16777215:=ai [a] 0x3bfffffc45403be802540 0x401
def ajM:16*a+b<16^10->16*a+b<2^60:=ai [a,b] 0x3c10000000000000002d5301340a0f40000000000754c04d028 0x401
def ajN:a<=10->a<=100:=ai [a] 0xe06409500e880 0x401
def ajO:a<=10->a<=16777216:=ai [a] 0x38100000015500e880 0x401
def ajP:a<64->a<=16777216:=ai [a] 0xe0400000055403c1002540 0x401
def ajQ:a<64->a<9000:=ai [a] 0xf08ca035403c1002540 0x401
def ajR(c:a<=b)(M:0<a):b-(b-a)=a:=ai [a,b,(b-(b-a)),(b-a)] 0x1000240130309004c0033c060e040 0x400000010000000400004010000000001 rfl c M (bh<|ai [a,b,(b-(b-a)),(b-a)] 0xe0403c060e040 0x401 rfl c M)<|bh<|ai [a,b,(b-(b-a)),(b-a)] 0x3810d004c0033c060e040 0x40000001 rfl c M<|bh<|ai [a,b,(b-(b-a)),(b-a)] 0xe0403c060e040 0x401 rfl c M
def ajS(c:a<=b)(M:0<a):¬b-a=b:=λd=>ai [a,b,(b-a)] 0x144013000900423c060e040 0x4010000100001 rfl c M d<|bh<|ai [a,b,(b-a)] 0x3810100423c060e040 0x401 rfl c M d
def ajU(c:a<b):b<=a+(b-a):=ai [a,b,(b-a)] 0xe30200140130008f040 0x40000001 rfl c<|bh<|ai [a,b,(b-a)] 0x38100f040 0x401 rfl c
def ajW:a<=100->0+a<=16777216:=ai [a] 0xe04000000554c018381902540 0x401
def ajX:a+6*(b+1)<=9000->a<=9000:=ai [a,b] 0x3823280d500e08ca0354c34c641780 0x401
def ajY:a+6*(b+1)<=9000->a+6+6*b<=9000:=ai [a,b] 0x3823280d530d05e31e00e08ca0354c34c641780 0x401
def ajZ:a+6*(b+1)=a+6+6*b:=ai [a,b] 0x1030d05e31e00c34c641780 0x401
def aj0:0<=9000:=ai [] 0xe08ca03558 0x1
def aj1:a<=1000->6+6*a<=9000:=ai [a] 0xe08ca0354c34079e38fa02540 0x1801
def aj2:3<=a+3:=ai [a] 0xe31b01b 0x1
def aj3:a<=9->a+3<=100:=ai [a] 0xe06409531b00e840 0x401
def aj5:a/3%9<2^63:=ai [((a/3)%9),(a/3),(a%3),a,((a/3)/9)] 0xf20000000000000000b5403e101004c00d1213db0900cc08d05b 0x1000000000000001 rfl (cr _ 3) (bq (y:=3) a<|ζ) (cr _ 9)<|bq (y:=9) (a/3)<|ζ
def aj6:a/27%9<2^63:=ai [((a/27)%9),(a/27),(a%27),a,((a/27)/9)] 0xf20000000000000000b5403e101004c00d1213f30900cc08d073 0x1000000000000001 rfl (cr _ 27) (bq (y:=27) a<|ζ) (cr _ 9)<|bq (y:=9) (a/27)<|ζ
def aj7:a+(b+1)<=80->a+1+b<=80:=ai [a,b] 0x38140254c04c64038140254c319040 0x401
def aj8:a<=70->0+a<=80:=ai [a] 0x38140254c018381182540 0x401
def aj9:a<=5->b<=5->16*a+b<16^5:=ai [a,b] 0x3c400000454c04d02839d04e740 0x104001
def asA:8<=90:=ai [] 0x381682560 0x1
def asC:a+1=9->a<=70:=ai [a] 0xe04609501084c640 0x401
def asD:9<=90:=ai [] 0x381682561 0x1
def asF:a+1=10->a<=70:=ai [a] 0xe04609501088c640 0x401
def aka:a<=100->a<=10000:=ai [a] 0xe09c403540381902540 0x401
def akc:a=8->b=a+1->b=9:=ai [a,b] 0x1084140c640050800 0x40000400004000040000401
def akd:3<=a->3<=a:=ai [a] 0x3806ce01b 0x401
def ake:a+(0+1)+b=a+(b+1):=ai [a,b] 0x1030c64100c04c319600 0x401
def akf:a<=b->b<10->a<=1000:=ai [a,b] 0x38fa025403e204e040 0x100401
def akg:a<=b->b+(c+1)<10->a+(c+1)<=1000:=ai [a,b,c] 0x38fa0254c3190803e230c64204e040 0x100401
def aki:a<=b->a+(0+1)<=b+(c+1):=ai [a,b,c] 0x38c31908130c65800e040 0x401
def akk(d:a<=5)(M:b=a-c):b<=100:=ai [a,b,(a-c)] 0xe06409504e00240204e740 0x10000100401 rfl d M<|lh a c
def akl(c:a<b)(M:0=b-a):False:=ai [a,b,(b-a)] 0x51004c00240260f040 0x4000040000401 rfl c M<|bh<|ai [a,b,(b-a)] 0xe04040260f040 0x401 rfl c M
def akn:a%16+(b%16+(c%16+0))=a%16+b%16+c%16:=ai [(a%16),(b%16),(c%16),(a/16),a,(b/16),b,(c/16),c] 0x1030230100c30c6020403e809020c08d1e83e805018c04d1683e801010c00d0e8 0x10000000000000000000000001 rfl (cr _ 16) (bq (y:=16) a<|ζ) (cr _ 16) (bq (y:=16) b<|ζ) (cr _ 16)<|bq (y:=16) c<|ζ
def ako:a<=5->a<=5:=ai [a] 0x39d00e740 0x401
def akp:a<=a+53*b:=ai [a,b] 0xe30d075055000 0x1
def akq:a<=50->b<=3->c<=d+b+a+53*e->c<=d+53*(e+1):=ai [a,b,c,d,e] 0x38c34c644d4154308e30d1350553003010c239b04ec81540 0x40100401
def akr:a<=b->0<a->2<=b+(c+1):=ai [a,b,c] 0xe30c64205a3c060e040 0x100401
def aks:2<=a+(b+(c+1)+1):=ai [a,b,c] 0xe30c64c31908101a 0x1
def akv:a=b+c->c=d+e->a+f=b+f+d+e:=ai [a,b,c,d,e,f] 0x1030430330504c14040c103090302040 0x40000400004000040000401
def akw:a=b+c->d+(e+b+f)+c=d+a+(e+f):=ai [a,b,c,d,e,f] 0x40c30510c00330230c14c0440d0302040 0x10040100001
def akx:a=b+c->d+b+c=d+a:=ai [a,b,c,d] 0x40c0033023010d0302040 0x10040100001
def akz:a<=9000->b<=a+4->b<=10000:=ai [a,b] 0xe09c40354138c70004e08ca03540 0x100401
def akA:a<=9000->b<=a+5->b<=16777216:=ai [a,b] 0xe04000000554138c74004e08ca03540 0x100401
def akB:a+1<=100->b+1<=6+6*a->b<=1000:=ai [a,b] 0xe3e809504e30d01e78c64138190254c640 0x101801
def akC:a<=1000->a<=8000:=ai [a] 0xe07d00354038fa02540 0x401
def akD:a<=b->a<=b:=ai [a,b] 0x38100e040 0x401
def akE:a+4*b<=9000->a<9900:=ai [a,b] 0x3c26ac0d500e08ca0354c341700 0x401
def akG:a<=16^5->b<a->a+b<2^60:=ai [a,b] 0x3c10000000000000002d530100f001384000004540 0x100801
def akH:a<=100->a<2^63:=ai [a] 0xf20000000000000000b540381902540 0x401
def akI:a+1≠0:=ai [a] 0x51060c640 0x401
def akJ:a=b->c<b+1->c<=a:=ai [a,b,c] 0xe0023cc641090040 0x40100001
def akK:a=b->b<=100->a<=16777216:=ai [a,b] 0x38100000015500e064095050040 0x40000401
def akL:a<=100->b+(c+1)=a->b<=100:=ai [a,b,c] 0xe06409505000c319081381902540 0x100401
def akM:a=b->a+1=b+1:=ai [a,b] 0x40c641319010040 0x4000040000401
def akN:0<=100:=ai [] 0x381902558 0x1
def akO:a=b+1->b<=90->a<=100:=ai [a,b] 0xe06409500e05a095050319040 0x40000401
def akP:a=b+1->1+b=a:=ai [a,b] 0x400301650319040 0x10040100001
def akQ:a<=b/\b<=a+3->c<=d/\d<=c+3->a<=5->c<=5->b+(d+1)<=50:=ai [a,b,c,d] 0xec8154c3190c139d08e7404ce31b08338309338c6c004e040 0x1004010000100001
def akR:a<=b/\b<=a+3->c<=d/\d<=c+3->e<=f/\f<=e+3->a<=5->c<=5->e<=5->b+(d+(f+1)+1)<=50:=ai [a,b,c,d,e,f] 0xec8154c31930c6450c139d10e74239d01338c6c414e1444ce31b08338309338c6c004e040 0x40100401000010000100001
def akT:a<=0->a=0:=ai [a] 0x41800e600 0x100401
def akU(d:a<b):b-(a+1)+c+1<=b-a+c:=ai [a,b,(b-(a+1)),c,(b-a)] 0x38c0c431930309004c00440130c64008f040 0x4000000100001 rfl d (bh<|ai [a,b,(b-(a+1)),c,(b-a)] 0x38131900f040 0x401 rfl d)<|bh<|ai [a,b,(b-(a+1)),c,(b-a)] 0xe04040130c64008f040 0x401 rfl d<|bh<|ai [a,b,(b-(a+1)),c,(b-a)] 0x38131900f040 0x401 rfl d
def akV(e:a+1<=b):a+1<=c-d+b:=ai [a,b,(c-d),c] 0xe30108c64038308e04c640 0x401 rfl e<|lh c d
def akW:a+b<=c->d+a+b<=d+c:=ai [a,b,c,d] 0x38c0833013000ce08c040 0x401
def akX:a<=b->a<=c+b:=ai [a,b,c] 0x38c04200e040 0x401
def akZ:a+b<c+1->d+1<=a->d+b<c:=ai [a,b,c,d] 0xf08c0433803190cf31908c040 0x100401
def ak0(h:a+b<c+1)(M:d+1<=e)(X:f+g<=b)(I:e=g-0+a):d+f<c:=ai [a,b,c,d,e,f,g,(g-0)] 0x3c23050d018c60740c00710e04c1853843190cf31908c040 0x1000010040100401 rfl h M X I<|bh<|ai [a,b,c,d,e,f,g,(g-0)] 0xe19840c00710e04c1853843190cf31908c040 0x1 rfl h M X I
def ak1:a<b->0+a<b:=ai [a,b] 0x3c130060f040 0x401
def ak2:a+(b+1*c)<=4000->a+c+b<=4000:=ai [a,b,c] 0x3be80254c04c0803be80254c30d099040 0x401
def asH:0<a/\a<=4000->a<=4000:=ai [a] 0x3be8025404cefa009500f018 0x100001
def ak4:a+5<b->a<b:=ai [a,b] 0x3c100f04c740 0x401
def ak5:a+5<b->a+1+4<b:=ai [a,b] 0x3c131c31900f04c740 0x401
def ak6:a=b->c=a->d=b->c=d:=ai [a,b,c,d] 0x403090043400090040 0x1004000040000401000000040000401
def ak7:a+10<b->a<b:=ai [a,b] 0x3c100f04c880 0x401
def ak8:a+10<b->a+1+2<b:=ai [a,b] 0x3c131a31900f04c880 0x401
def ak9:a+10<b->a+1+5<b:=ai [a,b] 0x3c131d31900f04c880 0x401
def ak_:¬a+4<4:=ai [a] 0x50f70c700 0x401
end
section
variable{a b c d e f g h i j k l m n:N}
def yc(b:a=3):¬a<3:=b▸ni _
def tS(b:0<a):1+(a-1)=a:=uI b
def LN(b:a>=9):¬a<9:=Ti b
def ahm(b:a=3):a<=100:=b▸ng rfl
def x8(b:a+1<=4000):a<=4000:=iJ b
end
section
variable{a b c d e f g h i j k l m n:N}
def C9:a<16->d=65+a->d<128:=ai [a,d] 0xf08009505030004109504fa00 0x100401
def ql1:2*(e+j+1)+1+c<=d+1->2*e+1+(2*j+1+c)<=d:=ai [e,j,c,d] 0x38330c08c64d05a31934068e3190cc08c64d31930101a 0x401
def ql2:a+1+e=f->b=f+j+1->b=a+(e+j+2):=ai [a,e,f,b,j] 0x1030c68c10100340c64c1020d008c04c640 0x40000001004000040100001
def ql3:a+1+e=f->f=a+(e+1):=ai [a,e,f] 0x40c31904009008c04c640 0x10040100001
def ql4:a+1+e=f->e+(a+1)<b->f<b:=ai [a,e,f,b] 0xf0c23c330c64005008c04c640 0x40100001
end
def yT{x y z:N}(h:x=y+z):x-y=z:=h▸FW y z
def ql7{c d e j x y z:N}(h:x=e+1)(k:y=j+1)(l:z=e+j+2):2*z-1+c<=d+1->2*x-1+(2*y-1+c)<=d:=by subst h k l;rw[ql1]
section
variable{a b c d e f g h i j k l m n:N}
def Da(b:¬a=0):a/16<a:=Nat.div_lt_self (zS b)<|ζ
def LV{a:Int}(b:0<=a):¬a<0:=wC.mpr b
def LY(c:a<b):a+1<=b:=c
def Dh(c:a<b):a<=b:=iJ c
def Di(b:a<=2):a<3:=qt b
def Mh{a:Int}:a=a-0:=by simp+arith
def Mi{a:Int}:¬(1<=a/\a<=0):=λU=>absurd (qi U.1 U.2)<|ζ
def Ml(c:a+1<=b):a<=b:=iJ c
def Mn{a:Int}{b:N}:a+↑(b+1)=a+1+↑b:=by simp+arith
def Ms(b:a<=9998):a+1<=9999:=qt b
def Mx(c:a<b):a<b+1:=zN c
def alf(c:a<b):¬a=b:=lZ c
def alh(b:0<a):a≠0:=lg b
def MG(d:a+b<=c):a+b<=c+1:=ld d
def afM(b:a%4<4):a%4=0\/a%4=1\/a%4=2\/a%4=3:=(by decide:∀x,x<4->x=0\/x=1\/x=2\/x=3) _ b
def afQ(d:a<=1000)(M:b<a)(X:c=16777216):¬b>c:=λq=>absurd (sj (X▸q) M)<|l5.mpr<|b8 d<|ζ
def afR(c:a<=1000)(M:b=16777216):¬a>b:=M▸l5.mpr (b8 c<|ζ)
def afS(b:a≠0):¬a=0:=b
def afX(b:a=9):a<=900:=b▸ng rfl
def af4(e:a<16)(M:b<16)(X:c<16)(I:d=65+a\/d=65+b\/d=65+c):d<128:=I.elim (C9 e) λU=>U.elim (C9 M)<|C9 X
def age(b:a=9):a<=1000:=b▸ng rfl
def agi{a:Int}{b c:N}(d:0<=a)(M:a.toNat<=b)(X:b<=c)(I:c=16777216):a<2^63:=(Int.toNat_lt d).mp<|kv (b8 M X)<|I▸(by decide:16777216<2^63)
def ago(b:a<=2):a<=3:=ld b
def agq{a:Int}:a=a+0:=by simp+arith
def agr{a:Int}{b:N}:a-1-↑b=a-↑(b+1):=by simp+arith
def ags{a:Int}{b:N}(c:a-1=0):¬(1<=a-1/\a-1<=↑b):=by simp+arith [*]at*
def agt{a:Int}{b:N}(c:a-1=0):1<=a/\a<=↑(b+1):=(Int.sub_eq_zero.mp c).symm▸#[Int.le_refl _,oK.mpr<|oV<|dw b]
def agu{a:Int}{b:N}(c:¬a-1=0)(M:1<=a/\a<=↑(b+1)):1<=a-1/\a-1<=↑b:=#[Sw<|Int.lt_iff_le_and_ne.mpr ⟨M.1,λe=>c<|e▸rfl⟩,Int.sub_right_le_of_le_add M.2]
def agv{a:Int}{b:N}(c:¬(1<=a/\a<=↑(b+1))):¬(1<=a-1/\a-1<=↑b):=λU=>c #[qi U.1<|SA a<|ζ,Int.le_add_of_sub_right_le U.2]
def agw{a:Int}{b c:N}:a-↑b-↑c=a-↑(b+c):=by simp+arith
def agx{a:Int}{b c:N}(d:1<=a/\a<=↑b):¬(1<=a-↑b/\a-↑b<=↑c):=λU=>absurd (qi U.1<|Int.sub_nonpos_of_le d.2)<|ζ
def agy{a:Int}{b c:N}(d:1<=a/\a<=↑b):1<=a/\a<=↑(b+c):=#[d.1,qi d.2<|oK.mpr<|oR b c]
def agz{a:Int}{b c:N}(d:1<=a-↑b/\a-↑b<=↑c):1<=a/\a<=↑(b+c):=#[qi d.1<|SA a<|kX b,Int.le_add_of_sub_left_le d.2]
def agA{a:Int}{b c:N}(d:¬(1<=a/\a<=↑b))(M:¬(1<=a-↑b/\a-↑b<=↑c)):¬(1<=a/\a<=↑(b+c)):=λU=>M #[Sw<|zx 1 _▸Fu.mp λq=>d #[U.1,q],Int.sub_left_le_of_le_add U.2]
def agD:a+(b+1)=a+b+1:=rfl
def agG(c:a<b+1)(M:a≠b):a<b:=Nat.lt_of_le_of_ne (zM c) M
def agJ{a:Int}{b:N}(c:1<=a/\a<=↑b):0<b:=kr.mp<|qi c.1 c.2
def agL(d:a<9)(M:¬b<9)(X:b<=a):c<9:=absurd (kv X d) M
def agZ(b:a<9):a+1<10:=qt b
def ag2(b:a<=3999):a<=4000:=ld b
def ag8(b:a≠0):1<a+1:=Tl<|zS b
def ahn(d:(a+b)/16=a/16+c):(a+c*16)%16=a%16:=by simp+arith
def ahq(c:a=b):a<=b+1-1-0:=nh c
def ahs(c:a+1<b+1):a<b:=Nat.lt_of_succ_lt_succ c
def ahu:a+1-1-(b+1)=a-1-b:=Gg a 1 b▸sf b 1▸rfl
def ahv(b:a/16=0)(M:¬a=0):65+a%16≠65:=λq=>M (by have:=cr a 16;rw[b,Nat.add_left_cancel (k:=0) q]at this;rw[this.symm])
def ahw(b:¬a/16=0):a≠0:=λq=>b<|congrArg (·/16) q
def ahI(b:a+1<=9999):a<=9999:=iJ b
def ahY(d:a<=b)(M:b<c):a+1<=c:=kv d M
def ah4(b:a+1<=8):a<=8:=iJ b
def aie(b:a=0):a<9:=b▸ng rfl
def aik(d:a+(b+1)=9)(M:c<a):c<a+1:=zN M
def ail(d:a+(b+1)=9)(M:c<a):¬c=a:=lZ M
def ain(d:a+(b+1)=9)(M:c=a):¬c<a:=M▸ni _
def aio(d:a+(b+1)=9)(M:a<c):¬c<a+1:=Ti M
def aiq(d:a+(b+1)=9)(M:a<c):¬c=a:=lg M
def aiv(b:a<=9999):a<=10000:=ld b
def aiy(c:a<b):¬b=a:=lg c
def aiF(g:a<b/\b<=100)(M:2*(b-a)-1+c<=d+1)(X:1<b-a)(I:e<b-a-1)(Y:a+1+e=f):2*(f-a)-1+(2*(b-f)-1+c)<=d:=
 (Nat.exists_eq_add_of_lt<|ql4 Y<|Nat.add_lt_of_lt_sub<|Gg b a 1▸I).elim λK D=>ql7 (yT<|ql3 Y) (yT D) (yT<|ql2 Y D) M
def aiX(b:4-ad a=ad (4-a)):4-a<2^63:=by simp+arith
def ai_{a:Int}{b:N}(c:0<=a)(M:a.toNat<b):a<↑b:=(Int.toNat_lt c).mp M
def aja(c:a-b=0):a<=b:=Tc c
def ajb(d:a=b)(M:a-c=0):b<=c:=d▸Tc M
def ajc(d:a-b=c+1):b<a:=Nat.lt_of_sub_pos<|d▸sr c
def ajh:5+0-Nat.succ 0≠0:=ζ
def ajm{a:Int}(b:a<0)(M:-2^63<=a):-2^63<=a/\a<2^63:=#[M,Int.lt_trans b<|ζ]
def ajr(b:a<=80):a-65<16:=by simp+arith at*;assumption
def ajs(b:65<=a):65+(a-65)=a:=uI b
def ajt(c:a+1+(b+1)<=10000):a+1+b<=10000:=iJ c
def ajv(c:a+(b+1)<=10000):a+b<=10000:=iJ c
def ajB(d:a+(b+1)<=c):a+b<=c:=iJ d
def ajI(b:a<=9999):0+1+a<=10000:=qr b _
def ajL(c:a≠0):16*b+a≠0:=by simp+arith [*]at*
def ajT(c:0<a)(M:b<=16777216):b<=16777216+a:=F5 M
def ajV(c:a<=16777216):a<=16777216+(a-b):=F5 c
def aj4(b:¬a%3=0):a%3=a%3-1+1:=(bh<|zS b).symm
def aj_(b:a=3):a<=5:=b▸ng rfl
def asB(b:a+1=9):a=8:=qz b
def asE(b:a+1=10):a=9:=qz b
def akb(b:a=8):a<=900:=b▸ng rfl
def akh(d:a<=b):a+(c+1)<=b+(c+1):=oP d _
def akj(b:a=0\/a=1\/a=2):a<=2:=b.elim (·▸ζ) λU=>U.elim (·▸ζ) (·▸d7 _)
def akm(b:a+1<=5):a<5:=b
def akt(c:2<=a):2<=a+b:=F5 c
def aku(d:a<=4*b)(M:c=2\/c=3):c+a+1<=4*(b+1):=oV<|sf a c▸uH d (M.elim (·▸ζ) (·▸d7 _))
def aky(d:a+(b+1)<=c):a+(b+1)<=c+1:=ld d
def akF(c:a≠0):a+b≠0:=by simp+arith [*]at*
def akS(e:a=b+1)(M:c<d)(X:c>=a)(I:d<=a):c<a:=wK M I
def akY(d:a<=b):c+a<=c+b:=qr d _
def ak3(c:a+4<b):a+3<b:=Td c
end
def xI{a n:N}(h:a<=n):max (0:Int) (min (ad a) (n:Int))=a:=(congrArg (max (0:Int))<|Int.min_eq_left<|oK.mpr h).trans<|Sx<|kX a
def aaV{a n:N}(h:¬a<=n):max (0:Int) (min (a:Int) (n:Int))=n:=(congrArg (max (0:Int))<|Int.min_eq_right<|oK.mpr<|Nat.le_of_not_le h).trans<|Sx<|kX n
def aaW{k n:N}(h:k<=n):max (0:Int) (min (-(k:Int)+(n:Int)) (n:Int))=((n-k:N):Int):=(congrArg (λz=>max (0:Int)<|min z (n:Int))<|(zx _ _).trans (rV h).symm).trans<|xI<|lh n k
def Jz{a b:N}(h:b<=a):ad a-ad b=ad (a-b):=(rV h).symm
def vw(m:N):-1+((m:Int)+1)=m:=(congrArg (-1+·)<|zx (m:Int) 1).trans<|Int.neg_add_cancel_left 1 m
def Js{i n:N}(h:i<n):-1-ad i+(n:Int)=((n-1-i:N):Int):=(zx _ _).trans<|(congrArg ((n:Int)+·) (Int.neg_add (a:=1) (b:=i)).symm).trans<|(rV<|sf i 1▸h).symm.trans<|congrArg ad (Gg n 1 i).symm
def GN{r:N}(h:r<16):(65+r)%2^8=65+r:=Gc<|sj (Nat.add_lt_add_left h 65)<|ζ
def Iz{n:N}(h:n<=16777216):(n:Int)<2^63:=kr.mpr<|kv h<|ζ
def aaU{k:Int}(j:0<=k)(a:k<2^63):(decide (k< -(2^63:Int))||decide (k>=2^63))=false:=congr (congrArg or<|decide_eq_false<|wC.mpr<|qi ζ j)<|decide_eq_false<|Fu.mpr a
def aba{i n:N}(h:i<=n):¬min i n+(n-i+1)=n:=λe=>Nat.succ_ne_self n<|((congrArg (·+(n-i+1))<|sk h).trans<|congrArg (·+1)<|uI h).symm.trans e
def abb{i n z:N}(h:i<=n)(hz:n<=z):min i n+1+(n-i)<=z+1:=b8 (nh<|(congrArg (·+1+(n-i))<|sk h).trans<|(FV i 1<|n-i).trans<|congrArg (·+1)<|uI h)<|oV hz
def aot{n:N}(h:n-1<n):(if(-1:Int)<0 then(-1:Int)+↑n else-1).toNat=n-1:=by
 cases n with
 |zero=>rw[nomatch h]
 |succ E=>rw[congrArg Int.toNat<|vw E]
def aou{n:N}(h:n-1<n):(0:Int)<=-1+↑n/\(-1:Int)+↑n<↑n:=by
 cases n with
 |zero=>rw[nomatch h]
 |succ E=>rw[#[(vw E).symm▸kX E,(vw E).symm▸kr.mpr (zO E)]]
def alB{A c b q:N}(h:q+1<=b)(e:c=q)(z:A+b<=990):A+c+(b-(q+1))<=990:=b8 (zK A c _▸qr (b8 (oP (e▸oU c) _)<|nh<|uI h) A) z
section
variable{a b c d e f g h i j k l m n:N}
def alM:c=b->d+4*a<=9000->e<=4*(c+1)->k+(b+1)=a->d+e+4*k<=9000:=ai [c,b,d,a,e,k] 0xe08ca0354c34570c10240330c64114e34c6407043823280d530d0dc090040 0x10010040001001
def alO:d+b<=990->k+1=b->d+k<=990:=ai [d,b,k] 0xe3de09530201004c64238f78254c040 0x100401
def alP:d+4*b<=9000->k+1=b->d+1+4*k<=9000:=ai [d,b,k] 0xe08ca0354c34270c64040131908e08ca0354c341700 0x400401
def alQ:a<=b->1+3*a<=4*(b+1):=ai [a,b] 0x38d31905c30d01b64e040 0xc01
def alR:a<=b->3*a<=4*(b+1):=ai [a,b] 0x38d31905c3406ce040 0xc01
end
def ye{n t a b:Type}{f:n->a}{g:t->a}{u:n->b}{vs:!n}{l:!t}{k:N}(h:vs.map f=(l.take k).map g)(i:l.length<=1000):(vs.map u).length<=1000:=by have:=congrArg gR h;rw[aU,aU]at this;rw[aU,this];rw[b8 (FP k l) i]
section
variable{a b c d e f g h i j k l m n:N}
def alS:a<c->b<c->a+b+2<3*c:=ai [a,c,b] 0xf3416cc68c0803c108f040 0x100801
end
def aaS{i:Int}:(if i<0 then-i else i)=ad i.natAbs:=by
 split
 .next U=>rw[(Int.ofNat_natAbs_of_nonpos<|Int.le_of_lt U).symm]
 .next U=>rw[(Int.natAbs_of_nonneg<|wC.mp U).symm]
section
variable{a b c d e f g h i j k l m n:N}
def alT:a+b<=c->a+b<=b+c:=ai [a,b,c] 0x38c08130100e08c040 0x401
def alU:a+0<=c->a+b<=b+c:=ai [a,c,b] 0x38c04230200e04c600 0x401
def alC:d=e+f->a=b+c->d+a=e+b+(f+c):=ai [d,e,f,a,b,c] 0x1030c14230404c0c040c1440d0302040 0x40000400004000040000401
def alD:a<=5000->b<=3->c<=50->a+b+c<=16777216:=ai [a,b,c] 0x38100000015530230100ec8154239b04e04e203540 0x40100401
end
section
variable{a b c d e f g h i j k l m n:N}
def alE:a+b<=a->b=0:=ai [a,b] 0x41804e00c040 0x100401
def alF:0<a->b=0->1<=a+b:=ai [a,b] 0xe30101941804f018 0x401
def alG:b=0->a+b<=a:=ai [b,a] 0x381300050600 0x401
def alH:n+(m+1)*f<=4000->k<=n+f->k+m*f<=4000:=λU q=>b8 (oP q _)<|b8 (nh<|(FV n f<|m*f).trans<|(zK n (m*f) f).trans<|congrArg (n+·) (Nat.succ_mul m f).symm) U
end
def alI{a b s:N}(h:a<b):¬2*(b-a)-1+s<=0:=qx.mpr<|Ta (zT<|wK (by decide:1<2*1)<|zR 2<|zT h) s
def alJ{a b:N}(h:a<b)(c:1<b-a):1<ad b-ad a:=Fq (kr.mpr c)<|zA<|rV<|iJ h
def alK{a b:N}(h:a<b)(c:¬1<b-a):¬1<ad b-ad a:=λq=>c<|kr.mp<|Fq q<|zA (rV<|iJ h).symm
def alL{a b:N}(h:a<b):ad b-ad a-1=ad (b-a-1):=(congrArg (·-1) (rV<|iJ h).symm).trans (rV (n:=b-a) (m:=1)<|zT h).symm
section
variable{a b c d e f g h i j k l m n:N}
def alN:d+(f+1)<=1000->k=d->k<=16777216:=ai [d,f,k] 0x38100000015509000238fa0254c319040 0x100401
end
section
variable{D G H J a6 a8 bl bo bt:Prop} {C:Prop}
def ct{a b:Prop}{C:Prop}(h:a/\b)(k:a->b->C):C:=k h.1 h.2
def ek{a b d:Prop}{C:Prop}(h:a/\b/\d)(k:a->b->d->C):C:=k h.1 h.2.1 h.2.2
def nT{a b d e:Prop}{C:Prop}(h:a/\b/\d/\e)(k:a->b->d->e->C):C:=k h.1 h.2.1 h.2.2.1 h.2.2.2
def xo{a b d e c:Prop}{C:Prop}(h:a/\b/\d/\e/\c)(k:a->b->d->e->c->C):C:=k h.1 h.2.1 h.2.2.1 h.2.2.2.1 h.2.2.2.2
def HJ{a b d e c f:Prop}{C:Prop}(h:a/\b/\d/\e/\c/\f)(k:a->b->d->e->c->f->C):C:=k h.1 h.2.1 h.2.2.1 h.2.2.2.1 h.2.2.2.2.1 h.2.2.2.2.2
def XS{a b d e c f g i j:Prop}{C:Prop}(h:a/\b/\d/\e/\c/\f/\g/\i/\j)(k:a->b->d->e->c->f->g->i->j->C):C:=k h.1 h.2.1 h.2.2.1 h.2.2.2.1 h.2.2.2.2.1 h.2.2.2.2.2.1 h.2.2.2.2.2.2.1 h.2.2.2.2.2.2.2.1 h.2.2.2.2.2.2.2.2
end
section
variable{K:Sort _} {D G H J:K->Prop} {C:Prop}
def dm(h:∃c,D c)(k:∀c,D c->C):C:=h.elim λc h=>k c h
def aJ(h:∃c,D c/\G c)(k:∀c,D c->G c->C):C:=h.elim λc h=>k c h.1 h.2
def bA(c:K)(j:D c)(a:G c):∃c,D c/\G c:=#[c,j,a]
def kG(h:∃c,D c/\G c/\H c)(k:∀c,D c->G c->H c->C):C:=h.elim λc h=>k c h.1 h.2.1 h.2.2
def en(c:K)(j:D c)(a:G c)(M:H c):∃c,D c/\G c/\H c:=#[c,j,a,M]
def B2(c:K)(j:D c)(a:G c)(M:H c)(X:J c):∃c,D c/\G c/\H c/\J c:=#[c,j,a,M,X]
end
section
variable{K:Sort _} {U:Sort _} {D G H J a6 a8:K->U->Prop} {C:Prop}
def fU(h:∃c d,D c d)(k:∀c d,D c d->C):C:=h.elim λc h=>h.elim λd h=>k c d h
def j8(c:K)(d:U)(j:D c d):∃c d,D c d:=#[c,d,j]
def nU(h:∃c d,D c d/\G c d)(k:∀c d,D c d->G c d->C):C:=h.elim λc h=>h.elim λd h=>k c d h.1 h.2
def j9(c:K)(d:U)(j:D c d)(a:G c d):∃c d,D c d/\G c d:=#[c,d,j,a]
def cp(h:∃c d,D c d/\G c d/\H c d)(k:∀c d,D c d->G c d->H c d->C):C:=h.elim λc h=>h.elim λd h=>k c d h.1 h.2.1 h.2.2
def bX(c:K)(d:U)(j:D c d)(a:G c d)(M:H c d):∃c d,D c d/\G c d/\H c d:=#[c,d,j,a,M]
def Bn(h:∃c d,D c d/\G c d/\H c d/\J c d)(k:∀c d,D c d->G c d->H c d->J c d->C):C:=h.elim λc h=>h.elim λd h=>k c d h.1 h.2.1 h.2.2.1 h.2.2.2
def Jl(c:K)(d:U)(j:D c d)(a:G c d)(M:H c d)(X:J c d):∃c d,D c d/\G c d/\H c d/\J c d:=#[c,d,j,a,M,X]
def xp(h:∃c d,D c d/\G c d/\H c d/\J c d/\a6 c d)(k:∀c d,D c d->G c d->H c d->J c d->a6 c d->C):C:=h.elim λc h=>h.elim λd h=>k c d h.1 h.2.1 h.2.2.1 h.2.2.2.1 h.2.2.2.2
def Jm(c:K)(d:U)(j:D c d)(a:G c d)(M:H c d)(X:J c d)(I:a6 c d):∃c d,D c d/\G c d/\H c d/\J c d/\a6 c d:=#[c,d,j,a,M,X,I]
def aaY(c:K)(d:U)(j:D c d)(a:G c d)(M:H c d)(X:J c d)(I:a6 c d)(Y:a8 c d):∃c d,D c d/\G c d/\H c d/\J c d/\a6 c d/\a8 c d:=#[c,d,j,a,M,X,I,Y]
end
section
variable{K:Sort _} {U:Sort _} {a7:Sort _} {D G H J a6 a8 bl bo bt:K->U->a7->Prop} {C:Prop}
def Bo(h:∃c d f,D c d f)(k:∀c d f,D c d f->C):C:=h.elim λc h=>h.elim λd h=>h.elim λf h=>k c d f h
def Jn(c:K)(d:U)(f:a7)(j:D c d f):∃c d f,D c d f:=#[c,d,f,j]
def je(h:∃c d f,D c d f/\G c d f)(k:∀c d f,D c d f->G c d f->C):C:=h.elim λc h=>h.elim λd h=>h.elim λf h=>k c d f h.1 h.2
def u_(c:K)(d:U)(f:a7)(j:D c d f)(a:G c d f):∃c d f,D c d f/\G c d f:=#[c,d,f,j,a]
def gV(h:∃c d f,D c d f/\G c d f/\H c d f)(k:∀c d f,D c d f->G c d f->H c d f->C):C:=h.elim λc h=>h.elim λd h=>h.elim λf h=>k c d f h.1 h.2.1 h.2.2
def gC(c:K)(d:U)(f:a7)(j:D c d f)(a:G c d f)(M:H c d f):∃c d f,D c d f/\G c d f/\H c d f:=#[c,d,f,j,a,M]
def xq(h:∃c d f,D c d f/\G c d f/\H c d f/\J c d f)(k:∀c d f,D c d f->G c d f->H c d f->J c d f->C):C:=h.elim λc h=>h.elim λd h=>h.elim λf h=>k c d f h.1 h.2.1 h.2.2.1 h.2.2.2
def B3(c:K)(d:U)(f:a7)(j:D c d f)(a:G c d f)(M:H c d f)(X:J c d f):∃c d f,D c d f/\G c d f/\H c d f/\J c d f:=#[c,d,f,j,a,M,X]
def Jo(c:K)(d:U)(f:a7)(j:D c d f)(a:G c d f)(M:H c d f)(X:J c d f)(I:a6 c d f):∃c d f,D c d f/\G c d f/\H c d f/\J c d f/\a6 c d f:=#[c,d,f,j,a,M,X,I]
def u4(h:∃c d f,D c d f/\G c d f/\H c d f/\J c d f/\a6 c d f/\a8 c d f)(k:∀c d f,D c d f->G c d f->H c d f->J c d f->a6 c d f->a8 c d f->C):C:=h.elim λc h=>h.elim λd h=>h.elim λf h=>k c d f h.1 h.2.1 h.2.2.1 h.2.2.2.1 h.2.2.2.2.1 h.2.2.2.2.2
def aaZ(c:K)(d:U)(f:a7)(j:D c d f)(a:G c d f)(M:H c d f)(X:J c d f)(I:a6 c d f)(Y:a8 c d f):∃c d f,D c d f/\G c d f/\H c d f/\J c d f/\a6 c d f/\a8 c d f:=#[c,d,f,j,a,M,X,I,Y]
def aa0(c:K)(d:U)(f:a7)(j:D c d f)(b:G c d f)(M:H c d f)(X:J c d f)(I:a6 c d f)(Y:a8 c d f)(L:bl c d f)(z:bo c d f)(a:bt c d f):∃c d f,D c d f/\G c d f/\H c d f/\J c d f/\a6 c d f/\a8 c d f/\bl c d f/\bo c d f/\bt c d f:=#[c,d,f,j,b,M,X,I,Y,L,z,a]
end
section
variable{K:Sort _} {U:Sort _} {a7:Sort _} {bb:Sort _} {D G H J a6 a8 bl bo:K->U->a7->bb->Prop} {C:Prop}
def Bp(h:∃c d f g,D c d f g)(k:∀c d f g,D c d f g->C):C:=h.elim λc h=>h.elim λd h=>h.elim λf h=>h.elim λg h=>k c d f g h
def aa1(c:K)(d:U)(f:a7)(g:bb)(j:D c d f g):∃c d f g,D c d f g:=#[c,d,f,g,j]
def lq(h:∃c d f g,D c d f g/\G c d f g)(k:∀c d f g,D c d f g->G c d f g->C):C:=h.elim λc h=>h.elim λd h=>h.elim λf h=>h.elim λg h=>k c d f g h.1 h.2
def va(c:K)(d:U)(f:a7)(g:bb)(j:D c d f g)(a:G c d f g):∃c d f g,D c d f g/\G c d f g:=#[c,d,f,g,j,a]
def XT(h:∃c d f g,D c d f g/\G c d f g/\H c d f g)(k:∀c d f g,D c d f g->G c d f g->H c d f g->C):C:=h.elim λc h=>h.elim λd h=>h.elim λf h=>h.elim λg h=>k c d f g h.1 h.2.1 h.2.2
def HL(h:∃c d f g,D c d f g/\G c d f g/\H c d f g/\J c d f g)(k:∀c d f g,D c d f g->G c d f g->H c d f g->J c d f g->C):C:=h.elim λc h=>h.elim λd h=>h.elim λf h=>h.elim λg h=>k c d f g h.1 h.2.1 h.2.2.1 h.2.2.2
def Jp(c:K)(d:U)(f:a7)(g:bb)(j:D c d f g)(a:G c d f g)(M:H c d f g)(X:J c d f g):∃c d f g,D c d f g/\G c d f g/\H c d f g/\J c d f g:=#[c,d,f,g,j,a,M,X]
def XU(h:∃c d f g,D c d f g/\G c d f g/\H c d f g/\J c d f g/\a6 c d f g)(k:∀c d f g,D c d f g->G c d f g->H c d f g->J c d f g->a6 c d f g->C):C:=h.elim λc h=>h.elim λd h=>h.elim λf h=>h.elim λg h=>k c d f g h.1 h.2.1 h.2.2.1 h.2.2.2.1 h.2.2.2.2
def aa2(c:K)(d:U)(f:a7)(g:bb)(j:D c d f g)(a:G c d f g)(M:H c d f g)(X:J c d f g)(I:a6 c d f g):∃c d f g,D c d f g/\G c d f g/\H c d f g/\J c d f g/\a6 c d f g:=#[c,d,f,g,j,a,M,X,I]
def XV(h:∃c d f g,D c d f g/\G c d f g/\H c d f g/\J c d f g/\a6 c d f g/\a8 c d f g/\bl c d f g/\bo c d f g)(k:∀c d f g,D c d f g->G c d f g->H c d f g->J c d f g->a6 c d f g->a8 c d f g->bl c d f g->bo c d f g->C):C:=h.elim λc h=>h.elim λd h=>h.elim λf h=>h.elim λg h=>k c d f g h.1 h.2.1 h.2.2.1 h.2.2.2.1 h.2.2.2.2.1 h.2.2.2.2.2.1 h.2.2.2.2.2.2.1 h.2.2.2.2.2.2.2
def aa3(c:K)(d:U)(f:a7)(g:bb)(j:D c d f g)(a:G c d f g)(M:H c d f g)(X:J c d f g)(I:a6 c d f g)(Y:a8 c d f g)(L:bl c d f g)(z:bo c d f g):∃c d f g,D c d f g/\G c d f g/\H c d f g/\J c d f g/\a6 c d f g/\a8 c d f g/\bl c d f g/\bo c d f g:=#[c,d,f,g,j,a,M,X,I,Y,L,z]
end
section
variable{K:Sort _} {U:Sort _} {a7:Sort _} {bb:Sort _} {bs:Sort _} {D G H J a6 a8 bl bo bt:K->U->a7->bb->bs->Prop} {C:Prop}
def nV(h:∃c d f g a,D c d f g a/\G c d f g a)(k:∀c d f g a,D c d f g a->G c d f g a->C):C:=h.elim λc h=>h.elim λd h=>h.elim λf h=>h.elim λg h=>h.elim λa h=>k c d f g a h.1 h.2
def vb(c:K)(d:U)(f:a7)(g:bb)(a:bs)(j:D c d f g a)(b:G c d f g a):∃c d f g a,D c d f g a/\G c d f g a:=#[c,d,f,g,a,j,b]
def HM(h:∃c d f g a,D c d f g a/\G c d f g a/\H c d f g a)(k:∀c d f g a,D c d f g a->G c d f g a->H c d f g a->C):C:=h.elim λc h=>h.elim λd h=>h.elim λf h=>h.elim λg h=>h.elim λa h=>k c d f g a h.1 h.2.1 h.2.2
def Jq(c:K)(d:U)(f:a7)(g:bb)(a:bs)(j:D c d f g a)(b:G c d f g a)(M:H c d f g a):∃c d f g a,D c d f g a/\G c d f g a/\H c d f g a:=#[c,d,f,g,a,j,b,M]
def XW(h:∃c d f g a,D c d f g a/\G c d f g a/\H c d f g a/\J c d f g a/\a6 c d f g a/\a8 c d f g a/\bl c d f g a/\bo c d f g a/\bt c d f g a)(k:∀c d f g a,D c d f g a->G c d f g a->H c d f g a->J c d f g a->a6 c d f g a->a8 c d f g a->bl c d f g a->bo c d f g a->bt c d f g a->C):C:=h.elim λc h=>h.elim λd h=>h.elim λf h=>h.elim λg h=>h.elim λa h=>k c d f g a h.1 h.2.1 h.2.2.1 h.2.2.2.1 h.2.2.2.2.1 h.2.2.2.2.2.1 h.2.2.2.2.2.2.1 h.2.2.2.2.2.2.2.1 h.2.2.2.2.2.2.2.2
end
section
variable{K:Sort _} {U:Sort _} {a7:Sort _} {bb:Sort _} {bs:Sort _} {b0:Sort _} {ca:Sort _} {D G H J a6 a8 bl:K->U->a7->bb->bs->b0->ca->Prop} {C:Prop}
def XX(h:∃c d f g a b e,D c d f g a b e/\G c d f g a b e)(k:∀c d f g a b e,D c d f g a b e->G c d f g a b e->C):C:=h.elim λc h=>h.elim λd h=>h.elim λf h=>h.elim λg h=>h.elim λa h=>h.elim λb h=>h.elim λe h=>k c d f g a b e h.1 h.2
def Jr(c:K)(d:U)(f:a7)(g:bb)(a:bs)(b:b0)(e:ca)(j:D c d f g a b e)(h:G c d f g a b e):∃c d f g a b e,D c d f g a b e/\G c d f g a b e:=#[c,d,f,g,a,b,e,j,h]
def aa4(c:K)(d:U)(f:a7)(g:bb)(a:bs)(b:b0)(e:ca)(j:D c d f g a b e)(h:G c d f g a b e)(M:H c d f g a b e)(X:J c d f g a b e)(I:a6 c d f g a b e)(Y:a8 c d f g a b e)(L:bl c d f g a b e):∃c d f g a b e,D c d f g a b e/\G c d f g a b e/\H c d f g a b e/\J c d f g a b e/\a6 c d f g a b e/\a8 c d f g a b e/\bl c d f g a b e:=#[c,d,f,g,a,b,e,j,h,M,X,I,Y,L]
end
section
variable{K:Sort _} {U:Sort _} {a7:Sort _} {bb:Sort _} {bs:Sort _} {b0:Sort _} {ca:Sort _} {ch:Sort _} {ck:Sort _} {D:K->U->a7->bb->bs->b0->ca->ch->ck->Prop} {C:Prop}
def asx(h:∃c d f g a b e i j,D c d f g a b e i j)(k:∀c d f g a b e i j,D c d f g a b e i j->C):C:=h.elim λc h=>h.elim λd h=>h.elim λf h=>h.elim λg h=>h.elim λa h=>h.elim λb h=>h.elim λe h=>h.elim λi h=>h.elim λj h=>k c d f g a b e i j h
end
def HK{f:Sort _}{a b d e:f->Prop}{C:Prop}(h:∃c,a c/\b c/\d c/\e c)(k:∀c,a c->b c->d c->e c->C):C:=h.elim λc h=>k c h.1 h.2.1 h.2.2.1 h.2.2.2
@[elab_as_elim]theorem oh{P:N->Prop}(n)(h:n<k+1)(hk:P k)(r:n<k->P n):P n:=(Te.mp h).elim r λe=>e▸hk
@[elab_as_elim]theorem le3{n:Type}{P:!n->Prop}(j:P [])(d:∀a,P [a])(M:∀a b,P [a,b])(X:∀a b c,P [a,b,c])(l)(h:l.length<=3):P l:=l.casesOn (motive:=λl=>l.length<=3->P l) (λ_=>j) (λa l=>l.casesOn (λ_=>d a) λb l=>l.casesOn (λ_=>M a b) λc l=>l.casesOn (λ_=>X a b c) λ_ l h=>absurd h<|qx.mpr<|uJ 4 l.length) h
def Io{n:Type}{l:!n}(h:3<=l.length):∃a b c r,l=a::b::c::r:=l.casesOn (motive:=λl=>3<=l.length->∃a b c r,l=a::b::c::r) (λh=>(Ge _ h).elim) (λa l=>l.casesOn (λh=>(Ge _<|Ga h).elim) λb l=>l.casesOn (λh=>(Ge _<|Ga<|Ga h).elim) λc r _=>#[a,b,c,r,rfl]) h
def HX{n:Type}{l:!n}(h:l.length=3):∃a b c,l=[a,b,c]:=
 (Io<|nh h.symm).elim λa z=>z.elim λb z=>z.elim λc z=>z.elim λr e=>#[a,b,c,by subst e;rw[(wE<|qz<|qz<|qz h)▸rfl]]
def abl{n:Type}[Decidable c]{t e r:n}(h:c)(k:t=r):(if c then t else e)=r:=(if_pos h).trans k
def JA{n:Type}[Decidable c]{t e r:n}(h:¬c)(k:e=r):(if c then t else e)=r:=(if_neg h).trans k
section
variable{M:Model} {A:dW} {E:af->aN->Prop} {s:aN} {D G:Type} {Q:D->aN->Prop} {c:Prop} [Decidable c] {t e:bk D}
def wy(h:¬c)(k:d_ M A e Q E s):d_ M A (if c then t else e) Q E s:=(if_neg h)▸k
def ast{e:bk G}(h:e=pure v)(k:d_ M A (f v) Q E s):d_ M A (e>>=f) Q E s:=h▸aT (bK k)
end
abbrev pw:qD:=PySem.Challenge.pw_oc0358_01
abbrev uY:bj->bk Fin:=PySem.W.Fast.tw11892475500146522536 PySem.W.Fast.tw14364793385576792824
abbrev H4:!bO->aX->bk Flow:=PySem.W.Fast.tw12563942051412417395
abbrev Jy:PySem.Expr->aX->bk af->bk Bool:=PySem.W.Fast.tw15418851999007992765
abbrev xu:PySem.Expr->aX->bk af:=PySem.W.Fast.tw14044960220447912780
abbrev Eh:af->bk (Option af):=PySem.W.Fast.tw9404975358583537561
abbrev AE:PySem.Expr->aX->af->bk Unit:=PySem.W.Fast.tw17772580674575903948
abbrev C3:PySem.Expr->af->af->bk Unit:=PySem.W.Fast.tw1578499551869305889
def Ps:pyNext=Eh:=PySem.W.Fast.te9404975358583537561
def GV:PySem.assign=AE:=PySem.W.Fast.te17772580674575903948
def Ln:letOwnedTupleGo=C3:=PySem.W.Fast.te1578499551869305889
abbrev GX:zv->kT->bk (List<|aA×af):=PySem.W.Fast.tw9782568553167038054
abbrev Iy:af->aX->!zt->bk Flow:=PySem.W.Fast.tw14206642085496868694
def Z5:handleBy=Iy:=PySem.W.Fast.te14206642085496868694
abbrev Hm:PySem.CmpOp->af->af->bk af:=PySem.W.Fast.tw12886488535604756494
abbrev Ry:af->bk Bool:=PySem.W.Fast.tw15245631507167962100
def VX:xd=Hm:=PySem.W.Fast.te12886488535604756494
def arB:wf=Ry:=PySem.W.Fast.te15245631507167962100
abbrev Ei:bj->Bool:=PySem.W.ZFast.zw17772548960776305114
abbrev wn:bj->N:=PySem.W.ZFast.zw1243936422450756474
def Xn:nP table=uY:=by show _=PySem.W.Fast.tw11892475500146522536 PySem.W.Fast.tw14364793385576792824;rw[<-PySem.W.Fast.te11892475500146522536,<-PySem.W.Fast.te14364793385576792824,table_eq_tree]
def Yo:j7=H4:=PySem.W.Fast.te12563942051412417395
def abk:PySem.isTrue=Jy:=PySem.W.Fast.te15418851999007992765
def Bw:PySem.eval=xu:=PySem.W.Fast.te14044960220447912780
def Us:bindArgs=GX:=PySem.W.Fast.te9782568553167038054
def Pv:Code.quiet=Ei:=PySem.W.ZFast.ze17772548960776305114
def asi:Code.weight=wn:=PySem.W.ZFast.ze1243936422450756474
structure aR where
 L:!(aH×Obj)
 n:N
 t:N
 h:!N
 gv:!af:=[]
 arm:N:=0
 O:!(aH×Obj):=[]
 Y:!(aH×Obj):=[]
structure Mk where
 v:Option af:=none
 fs:Option (!aX):=none
 kept:Bool:=false
def Mk.mark(t:Mk)(v:Option af):Mk:=#[v.or t.v,t.fs,false]
def Mk.under(t:Mk)(c:bj):Mk:=#[t.v,t.fs.map (c.envs++·),false]
def Mk.B1(t:Mk):Mk:=#[t.v,t.fs,true]
def Mk.ag(t:Mk):Mk:=#[t.v,bif t.kept then t.fs else none,false]
inductive As where
 |adr (a b:N)
 |bol (a b:Bool)
 |Eb (P:Prop)
def As.ok(a:As):Prop:=a.rec (λx y=>x=y) (λx y=>x=y) λc=>c
inductive av where
 |ok (r:aL) (g:aR)
 |again (c:bj) (g:aR)
 |call (b:N) (hd:Mk) (c:bj) (g:aR) (k:aL->aR->av)
 |gx (b:N) (hd:Mk) (t:bk af) (g:aR) (k:aL->aR->av)
 |need (a:As) (o:av)
 |bad
def av.bind:av->(aL->aR->av)->av
 |.ok r z,f=>f r z
 |.again _ _,_=>.bad
 |.call b t Z z j,f=>.call b t Z z λr c=>(j r c).bind f
 |.gx b t D z j,f=>.gx b t D z λr c=>(j r c).bind f
 |.need a Y,f=>.need a<|Y.bind f
 |.bad,_=>.bad
def av.vF:av->(bj->aR->av)->av
 |.again Z z,f=>f Z z
 |.call b t Z z j,f=>.call b t Z z λr c=>(j r c).vF f
 |.gx b t D z j,f=>.gx b t D z λr c=>(j r c).vF f
 |.need a Y,f=>.need a<|Y.vF f
 |.ok r z,_=>.ok r z
 |.bad,_=>.bad
inductive rY where
 |tree (t:bk Fin)
 |code (c:bj)
 |loop (c:bj)
 |fn (a:aH) (args:kT)
 |gU (ss:!bO) (env:aX)
 |jP (e:PySem.Expr) (env:aX)
 |all (op:PySem.BoolOp) (es:!PySem.Expr) (env:aX)
 |emp (ne:Bool) (a:aH) (p2 pos:Pos) (env:aX)
abbrev rW:=N->String->kT->aR->Option (bk Fin×aR×!As)
abbrev Ih:=N->Mk->rY->aR->av
def nn{t:Type}{z:t}{C:Prop}(h:none=some z):C:=nomatch h
def oT{t:Type}(b:Bool)(x:Option t):Option t:=b.rec none x
def oE{n t:Type}(l:!n)(x:Option t):Option t:=l.rec x λU U U=>none
def oC{n t:Type}(l:!n)(k:n->!n->Option t):Option t:=l.rec none λa l U=>k a l
def oS{n t:Type}(o:Option n)(k:n->Option t):Option t:=o.rec none k
section
variable{J H:Type} {z:H}
variable{C:Prop}
def kh(h:oT b x=some z)(c:b=true->x=some z->C):C:=by
 cases b
 .rw[nn h]
 .rw[c rfl h]
def om(h:oE l x=some z)(c:l=[]->x=some z->C):C:=by
 cases l
 .rw[c rfl h]
 .rw[nn h]
def gq(h:oC l k=some z)(c:∀a Q,l=a::Q->k a Q=some z->C):C:=by
 cases l
 .rw[nn h]
 .rw[c _ _ rfl h]
def cV(h:oS o k=some z)(c:∀a,o=some a->k a=some z->C):C:=by
 cases o
 .rw[nn h]
 .rw[c _ rfl h]
end
def vR(v:af):Option aH:=match v with
 |.ref a=>some a
 |_=>none
def vI(v:af):Option (Int×Tok):=match v with
 |.int i D=>some (i,D)
 |_=>none
def vS(v:af):Option (aA×Tok):=match v with
 |.str x D=>some (x,D)
 |_=>none
def vB(v:af):Option Bool:=match v with
 |.bool b=>some b
 |_=>none
def vY(v:af):Option (Array UInt8×Tok):=match v with
 |.bytes b D=>some (b,D)
 |_=>none
def vN(v:af):Bool:=match v with
 |.none=>true
 |_=>false
def E3(h:vR v=some a):v=.ref a:=by
 cases v with
 |ref b=>rw[congrArg aF<|dY h]
 |_=>rw[nn h]
def E2(h:vI v=some p):v=.int p.1 p.2:=by
 cases v with
 |int=>rw[dY h▸rfl]
 |_=>rw[nn h]
def wj(h:vS v=some p):v=.str p.1 p.2:=by
 cases v with
 |str=>rw[dY h▸rfl]
 |_=>rw[nn h]
def ar5(h:vB v=some b):v=.bool b:=by
 cases v with
 |bool=>rw[congrArg Value.bool<|dY h]
 |_=>rw[nn h]
def ar6(h:vY v=some p):v=.bytes p.1 p.2:=by
 cases v with
 |bytes=>rw[dY h▸rfl]
 |_=>rw[nn h]
def RR(h:vN v=true):v=.none:=by
 cases v with
 |none=>rfl
 |_=>rw[oG h]
def dQ(d:Data):Option (Array af×N):=match d with
 |.seq Q n=>some (Q,n)
 |_=>none
def dD(d:Data):Option (Array bv×N):=match d with
 |.dict Q n=>some (Q,n)
 |_=>none
def dF(d:Data):Option (Array af):=match d with
 |.fields Q=>some Q
 |_=>none
def Hv(h:dQ d=some p):d=.seq p.1 p.2:=by
 cases d with
 |seq=>rw[dY h▸rfl]
 |_=>rw[nn h]
def Xe(h:dD d=some p):d=.dict p.1 p.2:=by
 cases d with
 |dict=>rw[dY h▸rfl]
 |_=>rw[nn h]
def AY(h:dF d=some p):d=.fields p:=by
 cases d with
 |fields=>rw[congrArg Fl<|dY h]
 |_=>rw[nn h]
def dU(d:Data):Option zv:=match d with
 |.func f=>some f
 |_=>none
def Xf(h:dU d=some p):d=.func p:=by
 cases d with
 |func=>rw[congrArg Data.func<|dY h]
 |_=>rw[nn h]
def B5(id:String)(n:N):Bool:=eX (PySem.W.S.codeS id) n
def Jv{id b:String}(h:B5 id n=true)(e:PySem.code b=n):id=b:=AS _ _<|(PySem.W.S.code_S id).trans<|(m_ h).trans e.symm
def qS(v:af)(n:N):Bool:=match v with
 |.type Z=>B5 Z n
 |_=>false
def th(h:qS v n=true)(e:PySem.code b=n):v=.type b:=by
 cases v with
 |type Z=>rw[congrArg aI<|Jv h e]
 |_=>rw[oG h]
def mF(b:Bool)(x:av):av:=b.rec .bad x
def mE{n:Type}(o:Option n)(k:n->av):av:=o.rec .bad k
def mD(g:aR)(k:N->aR->av):av:=g.h.rec .bad λi o U=>k i {g with h:=o}
def jh(i:N)(x:av)(k:N->av):av:=i.rec x λK U=>k K
def lI(r:aL)(k:Flow->av)(e:af->av):av:=r.rec e k
def vG(r:aL)(k:af->av)(e:af->av:=λU=>.bad):av:=lI r (λf=>f.rec .bad .bad .bad k) e
def vO(v:af)(k:Bool->av):av:=match v with
 |.bool b=>k b
 |_=>.bad
def vA(v:af)(k:aH->av):av:=match v with
 |.ref a=>k a
 |_=>.bad
def tY(r:aL)(k:Bool->av)(e:af->av:=λU=>.bad):av:=vG r (λv=>vO v k) e
def gN:!(aH×Obj)->N->Option (aH×Obj)
 |[],_=>none
 |p::_,0=>some p
 |_::l,i+1=>gN l i
def pT:!(aH×Obj)->N->Obj->!(aH×Obj)
 |[],_,_=>[]
 |p::l,0,o=>(p.1,o)::l
 |p::l,i+1,o=>p::pT l i o
def qI:!(aH×Obj)->aH->Obj->!(aH×Obj)
 |[],a,Y=>[(a,Y)]
 |p::l,a,Y=>p::qI l a Y
def tP(g:aR)(j:N):Option (aH×Obj):=(zL j 1000).rec (gN g.O<|j-1000)<|gN g.L j
def x4(T:N->Option Obj)(a:aH)(g:aR)(k:Obj->aR->av):av:=mD g λi b=>jh i (mE (T a) λY=>k Y b) λK=>mE (tP g K) λp=>.need (.adr a p.1)<|k p.2 b
def RL(a:aH)(f:Obj->Obj)(g:aR)(k:aR->av):av:=mD g λi b=>jh i .bad λK=>mE (gN g.L K) λp=>mF ((not ((f p.2).isFreed)))<|.need (.adr a p.1)<|k {b with L:=pT g.L K<|f p.2}
def sP(v:Bool)(g:aR)(k:Bool->aR->av):av:=mD g λi a=>jh i (v.rec (k false a)<|k true a) λK=>jh K (.need (.bol v false)<|k false a) λU=>.need (.bol v true)<|k true a
section
variable(T:N->Option Obj) (w:eI) (I:rW) (G:Ih) (b:N) (D:Mk)
def oj(E:Option af)(c:bj)(k:aL->bk Fin)(g:aR):av:=(G b (D.mark E) (.code c) g).bind λr a=>G b D (.tree<|k r) a
def wW(E:Option af)(args:kT)(k:aL->bk Fin)(g:aR)(f:af):av:=match f with
 |.ref a=>mD g λi c=>jh i (oj G b D E (.call (.ref a) args) k c) λi=>jh i (.call b (D.mark E) (.call (.ref a) args) c λr d=>G b D (.tree<|k r) d) λU=>(G b (D.mark E) (.fn a args) c).bind λr d=>G b D (.tree<|k r) d
 |.builtin id=>mD g λi c=>jh i (oj G b D E (.call (.builtin id) args) k c) λi=>jh i (E.rec (.call b D (.call (.builtin id) args) c λr d=>G b D (.tree<|k r) d) λU=>.bad) λK=>oj G b D E (.call (.builtin id) args) k {c with arm:=K+1}
 |f=>oj G b D E (.call f args) k g
def G3(E:Option af)(k:aL->bk Fin)(g:aR)(c:bj):av:=match c with
 |.call f n=>wW G b D E n k g f
 |.builtin id n=>(eX (PySem.W.S.codeS id) 7300717).rec (oj G b D E (.builtin id n) k g)
   <|mD g λi a=>jh i (oj G b D E (.builtin id n) k a) λK=>oj G b D E (.builtin id n) k {a with arm:=K}
 |.block B O=>oj G b D E (.block B O) k g
 |c=>mD g λi a=>jh i ((G b (D.mark E) (.loop c) a).bind λr d=>G b D (.tree<|k r) d) λU=>.call b (D.mark E) c a λr d=>G b D (.tree<|k r) d
def Q0(x:FuncBody):Option (!bO):=x.rec some λU=>none
def BO(o:Obj):Option (zv×!bO):=oS (dU o.data) λf=>oT ((not (f.scope.isCoroutine)))<|oT ((not (f.scope.isGenerator)))<|oS (Q0 f.body) λk=>some (f,k)
def H9(f:af):Option aH:=oS (vR f) λa=>oS (T a) λY=>oS (BO Y) λU=>some a
def afv(a:N)(id:String):Bool:=match PySem.W.S.codeS id with
 |n=>eX n 8174156937926964852||eX n 8174156937927680622||eX n 150786581052266377601598972183301089893||eX n 7635736742594467534504881056365||(eX a 0&&eX n 36058839055461744822429329989390181918337346850548333)
def GR(g:aR)(c:bj):av:=match c with
 |.whileLoop k h e O=>.again (.whileLoop k h e O) g
 |.forLoop k u h e O=>.again (.forLoop k u h e O) g
 |.compLoop e d u a O=>.again (.compLoop e d u a O) g
 |.builtin id n=>(afv g.arm id).rec (G b D.ag (.code<|.builtin id n) g)<|mD g λi j=>jh i (G b D.ag (.code<|.builtin id n) j) λi=>jh i (.again (.builtin id n) j) λK=>(eX K 99).rec (G b D.ag (.code<|.builtin id n) {j with arm:=K+1})<|.call b D.ag (.builtin id n) j .ok
 |.call f n=>(H9 T f).rec (G b D.ag (.code<|.call f n) g) λa=>G b D.ag (.fn a n) g
 |c=>G b D.ag (.code c) g
def Rv(t:bk Fin)(g:aR):av:=match t with
 |.pure r=>r.rec (λf=>.ok (.ok f) g) λZ=>mF (Ei Z)<|GR T G b D g Z
 |.raise e=>.ok (.error e) g
 |.rule _ j=>G b D (.tree<|j ()) g
 |.at _ j=>G b D (.tree<|j ()) g
 |.point _ j=>G b D (.tree<|j ()) g
 |.ask j=>G b D (.tree<|j #[pw,w.params]) g
 |.load a _ j=>x4 T a g λY c=>G b D (.tree<|j Y) c
 |.loadIfAlive a j=>x4 T a g λY c=>G b D (.tree<|j<|some Y) c
 |.update a _ f j=>RL a f g λc=>G b D (.tree<|j ()) c
 |.alloc Y j=>mF ((not (Y.isFreed)))<|G b D (.tree<|j g.n) {g with L:=qI g.L g.n Y,n:=g.n+1}
 |.fresh j=>G b D (.tree<|j g.t) {g with t:=g.t+1}
 |.handled i j=>i.rec (G b D (.tree<|j D.v) g) .bad
 |.call Z E _ _ j=>mF (okMark E)<|G3 G b D E j g Z
 |_=>.bad
def HW(a:aH)(f:zv)(k:!bO)(args:kT):bk Fin:=(GX f args).bind λb=>(newFunctionEnv f.scope f.globals f.closure b (f.qualname++".<locals>.") (some a) f.code none f.builtins).bind λO=>.pure<|.again<|.func k O
def Ha(v:af)(q:aA):Option Unit:=oS (vR v) λZ=>oS (T Z) λY=>oS (dF Y.data) λJ=>oC J.toList λU l=>oC l λn U=>oS (vS n) λp=>oT (PySem.W.Fast.sEq p.1 q)<|some ()
def H8(a:aH)(args:kT)(g:aR):av:=mE (T a) λY=>mE (BO Y) λp=>mE (Ha T p.1.code p.1.qualname) λU=>mF (oQ 1 b)<|G (b-1) D.B1 (.tree<|HW a p.1 p.2 args) g
def BI(a:PySem.Expr)(it:af)(O:aX):bk Fin:=
 (rK a.pos).bind λU=>((Eh it).onRaise λU=>rK {a.pos with line:=0}).bind λY=>match Y with
  |none=>.pure<|.done .brk
  |some v=>(C3 a it v).bind λU=>(AE a O v).bind λU=>.pure<|.done .next
def Lh(e:PySem.Expr):Option (PySem.Expr×!Fk):=match e with
 |.ListComp k d _ _=>some (k,d)
 |_=>none
def Jk(l:!PySem.Expr):Option (Option PySem.Expr):=match l with
 |[]=>some none
 |[Z]=>some<|some Z
 |_=>none
def Hl(e:PySem.Expr)(i:N):Option (PySem.Expr×Fk×Option PySem.Expr):=oT (eX i 0)<|oS (Lh e) λp=>oC p.2 λz l=>oE l<|oT (z.is_async==0)<|oS (Jk z.ifs) λD=>some (p.1,z,D)
def AW(g:Fk)(it:af)(O:aX):bk Fin:=
 (rK g.iter.pos).bind λU=>(Eh it).bind λY=>match Y with
  |none=>.pure<|.done .brk
  |some v=>(C3 g.target it v).bind λU=>(AE g.target O v).bind λU=>.pure<|.done .next
def AV(k:PySem.Expr)(m:af)(O:aX):bk Fin:=(xu k O).bind λx=>(PySem.call (.builtin "list.append") [m,x]).bind λU=>.pure<|.done .next
def Bq(c:bj)(m:af)(O:aX)(k:PySem.Expr)(g:aR):av:=(G b D (.tree<|AV k m O) g).bind λr a=>lI r (λf=>f.rec (.again c a) .bad .bad λU=>.bad) λU=>.bad
def Rq(c:bj)(m:af)(O:aX)(k:PySem.Expr)(t:Option PySem.Expr)(g:aR):av:=t.rec (Bq G b D c m O k g) λt=>(G b D (.jP t O) g).bind λr S=>tY r λv=>sP v S λq z=>q.rec (.again c z)<|Bq G b D c m O k z
def rj(O:aX)(e:af):bk af:=(xY O e).bind λU=>.pure .none
def EY(c:bj)(g:aR)(f:Flow):av:=f.rec (.again c g) (.ok (.ok .next) g) (.again c g) λv=>.ok (.ok<|.ret v) g
def MS(l:!As)(o:av):av:=l.rec o λa U x=>.need a x
def apd(f:Flow):af:=f.rec .none .none .none λv=>v
def AQ(T:N)(M:Mk)(g:aR)(c:bj):av:=match c with
 |.func k O=>(G b D (.gU k O) g).bind λr h=>lI r (λf=>.ok (.ok<|.ret<|apd f) h) λe=>.gx b D (rj O e) h λU d=>.ok (.error e) d
 |.whileLoop t k l O=>(G b D (.jP t O) g).bind λr h=>tY r λv=>sP v h λq d=>q.rec ((G b D (.gU l O) d).bind λr S=>lI r (λf=>.ok (.ok f) S) λU=>.bad)
   <|(G b D (.gU k O) d).bind λr S=>lI r (EY (.whileLoop t k l O) S) λU=>.bad
 |.forLoop a u k l O=>(G b D (.tree<|BI a u O) g).bind λr h=>lI r (λf=>f.rec ((G b D (.gU k O) h).bind λr S=>lI r (EY (.forLoop a u k l O) S) λU=>.bad) (G T M (.code<|.block l O) h) .bad λU=>.bad) λU=>.bad
 |.compLoop e i u m O=>mE (Hl e i) λp=>(G b D (.tree<|AW p.2.1 u O) g).bind λr h=>lI r (λf=>f.rec (Rq G b D (.compLoop e i u m O) m O p.1 p.2.2 h) (.ok (.ok .next) h) .bad λU=>.bad) λU=>.bad
 |.builtin id args=>jh g.arm (G b D (.tree<|uY<|.builtin id args) g) λK=>mE (I K id args {g with arm:=0}) λp=>MS p.2.2<|G b D (.tree p.1) p.2.1
 |c=>G b D (.tree<|uY c) g
def Vb(c:bj)(g:aR):av:=mF (oQ (wn c+1) b)<|AQ I G (b-(wn c+1)) (D.under c) b D g c
def ke(s:bO)(O:aX):bk Fin:=(H4 [s] O).bind λf=>.pure<|.done f
def vi(e:PySem.Expr)(O:aX):bk Fin:=(Jy e O<|xu e O).bind λb=>.pure<|.done<|.ret<|.bool b
def yY(rest:!bO)(O:aX)(r:aL)(g:aR):av:=lI r (λf=>f.rec (G b D (.gU rest O) g) (.ok (.ok .brk) g) (.ok (.ok .cont) g) λv=>.ok (.ok<|.ret v) g) λe=>.ok (.error e) g
def pD(e:PySem.Expr)(O:aX):bk Fin:=(xu e O).bind λv=>.pure<|.done<|.ret v
def Ix(e:af)(O:aX)(hs:!zt):bk Fin:=(Iy e O hs).bind λf=>.pure<|.done f
def Rz(k:!bO)(hs:!zt)(O:aX)(g:aR):av:=(G b D (.gU k O) g).bind λr a=>lI r (λf=>.ok (.ok f) a) λe=>hs.rec .bad λU hs K=>.gx b D (rj O e) a λK d=>G b D (.tree<|Ix e O (U::hs)) d
def E0(l r:PySem.Expr)(O:aX)(g:aR)(k:af->af->aR->av):av:=(G b D (.tree<|pD l O) g).bind λp a=>vG p λo=>(G b D (.tree<|pD r O) a).bind λc Z=>vG c λn=>k o n Z
def G7(l r:PySem.Expr)(O:aX)(g:aR):av:=E0 G b D l r O g λo n Z=>.gx b D (pU .Eq o n) Z λa S=>vG a λv=>.ok (.ok<|.ret v) S
def AK(e:PySem.Expr):Option (PySem.Expr×PySem.CmpOp×PySem.Expr×Pos):=match e with
 |.Compare l a f p=>oC a λd D=>oE D<|oC f λr D=>oE D<|some (l,d,r,p)
 |_=>none
def G9(h:AK e=some q):e=.Compare q.1 [q.2.1] [q.2.2.1] q.2.2.2:=by
 cases e with
 |Compare l a f p=>rw[gq h λd D K h=>om h λO h=>gq h λr i b h=>om h λj h=>?_];subst K O b j;rw[dY h▸rfl]
 |_=>rw[nn h]
def Bu(op:PySem.CmpOp):Option Bool:=match op with
 |.Eq=>some false
 |.NotEq=>some true
 |_=>none
def UN(o:Option PySem.Expr):Option (PySem.Expr×PySem.Expr×Pos):=oS o λe=>oS (AK e) λq=>oS (Bu q.2.1) λn=>oT ((not (n)))<|some (q.1,q.2.2.1,q.2.2.2)
def M0(a b:!bO):Bool:=a.rec (b.rec true λU U U=>false) λU U U=>false
def Qx(O:aX)(g:aR)(s:bO):av:=match s with
 |.If t k l _=>(G b D (.jP t O) g).bind λr c=>tY r (λv=>sP v c λf d=>G b D (.gU (cond f k l) O) d) λe=>.ok (.error e) c
 |.Try k o a Z p=>(M0 a Z).rec (G b D (.tree<|ke (.Try k o a Z p) O) g)<|Rz G b D k o O g
 |.Return Y p=>(UN Y).rec (G b D (.tree<|ke (.Return Y p) O) g) λq=>G7 G b D q.1 q.2.1 O g
 |s=>G b D (.tree<|ke s O) g
def GZ(ss:!bO)(O:aX)(g:aR):av:=ss.rec (.ok (.ok .next) g) λs Q U=>(Qx G b D O g s).bind<|yY G b D Q O
def qP:Obj:=#[.type "list",none,.seq #[[]] 0,#[[]]]
def Jw(o:Obj):Option (Array af):=oT (qS o.cls 1970563693)<|oS (dQ o.data) λp=>some p.1
def HQ(ne:Bool)(a:aH)(g:aR):av:=x4 T a g λY b=>mE (Jw Y) λQ=>.ok (.ok<|.ret<|.bool<|cond ne ((not ((eX Q.size 0))))<|eX Q.size 0) {b with L:=qI b.L b.n qP,n:=b.n+1}
def U4(l:PySem.Expr)(ne:Bool)(i S:Pos)(O:aX)(g:aR):av:=(G b D (.tree<|pD l O) g).bind λr c=>vG r λv=>vA v λa=>G b D (.emp ne a i S O) c
def U2(op:PySem.CmpOp)(a b:Int):Option Bool:=match op with
 |.Eq=>some<|a==b
 |.NotEq=>some<|a !=b
 |.Lt=>some<|decide<|a<b
 |.LtE=>some<|decide<|a<=b
 |.Gt=>some<|decide<|a>b
 |.GtE=>some<|decide<|a>=b
 |_=>none
def U5(op:PySem.CmpOp)(a b:!N):Option Bool:=match op with
 |.Eq=>some<|a==b
 |.NotEq=>some<|a !=b
 |_=>none
def AM(op:PySem.CmpOp)(o n:af):Option Bool:=(vI o).rec (oS (vS o) λa=>oS (vS n) λb=>U5 op a.1.cps.toList b.1.cps.toList) λa=>oS (vI n) λb=>U2 op a.1 b.1
def DO(op:PySem.CmpOp):Bool:=match op with
 |.Eq|.NotEq|.Lt|.LtE|.Gt|.GtE=>true
 |_=>false
def MX(e:PySem.Expr):Option Pos:=match e with
 |.List l p=>oE l<|some p
 |_=>none
def AL(op:PySem.CmpOp)(o n:af):bk Fin:=(Hm op o n).bind λZ=>(Ry Z).bind λb=>.pure<|.done<|.ret<|.bool b
def OI(l:PySem.Expr)(op:PySem.CmpOp)(r:PySem.Expr)(O:aX)(g:aR):av:=E0 G b D l r O g λo n Z=>(AM op o n).rec (G b D (.tree<|AL op o n) Z) λv=>.ok (.ok<|.ret<|.bool v) Z
def Jx(op:PySem.UnaryOp):Bool:=op.rec false true false false
def G_(e:PySem.Expr)(O:aX)(g:aR)(q:PySem.Expr×PySem.CmpOp×PySem.Expr×Pos):av:=(oS (Bu q.2.1) λX=>oS (MX q.2.2.1) λi=>some (X,i)).rec ((DO q.2.1).rec (G b D (.tree<|vi e O) g)<|OI G b D q.1 q.2.1 q.2.2.1 O g) λz=>U4 G b D q.1 z.1 z.2 q.2.2.2 O g
def RA(O:aX)(g:aR)(e:PySem.Expr):av:=match e with
 |.UnaryOp d x p=>(Jx d).rec (G b D (.tree<|vi (.UnaryOp d x p) O) g)<|(G b D (.jP x O) g).bind λr a=>tY r (λv=>.ok (.ok<|.ret<|.bool<|(not (v))) a) λe=>.ok (.error e) a
 |.BoolOp d k _=>G b D (.all d k O) g
 |e=>(AK e).rec (G b D (.tree<|vi e O) g)<|G_ G b D e O g
def GS(op:PySem.BoolOp)(es:!PySem.Expr)(O:aX)(g:aR):av:=es.rec (.ok (.ok<|.ret<|.bool<|op.rec true false) g) λx Q U=>(G b D (.jP x O) g).bind λr a=>tY r (λv=>sP v a λq d=>op.rec (q.rec (.ok (.ok<|.ret<|.bool false) d)<|G b D (.all op Q O) d)<|q.rec (G b D (.all op Q O) d)<|.ok (.ok<|.ret<|.bool true) d) λe=>.ok (.error e) a
def JB(j:rY)(g:aR):av:=match j with
 |.tree d=>Rv T w G b D d g
 |.code Z=>Vb I G b D Z g
 |.loop Z=>(G b D (.code Z) g).vF λp c=>mF (Ei p)<|G b D (.loop p) c
 |.fn a n=>H8 T G b D a n g
 |.gU B O=>GZ G b D B O g
 |.jP e O=>RA G b D O g e
 |.all op es O=>GS G b D op es O g
 |.emp X a _ _ _=>HQ T X a g
end
def yM(T:N->Option Obj)(w:eI)(I:rW)(n:N):Ih:=n.rec (λU U U U=>.bad) λU f=>JB T w I f
section
structure HY (F:aH->Obj->Prop) (ks:!aH) (Y:!(aH×Obj)) (h:ix):Prop where
 led:∀p∈Y,h.get? p.1=some p.2
 off:∀p∈Y,p.1∉ks
 nd:(Y.map (·.1)).Nodup
 dj:∀p∈Y,∀o,¬F p.1 o
structure bF (F:aH->Obj->Prop) (H:aN) (g:aR) (s:aN):Prop where
 fr:∀a o,F a o->s.heap.get? a=some o
 led:∀p∈g.L,s.heap.get? p.1=some p.2
 nd:(g.L.map (·.1)).Nodup
 dj:∀p∈g.L,∀o,¬F p.1 o
 sz:s.heap.objs.size=g.n
 tk:s.toks=g.t
 rest:s.gens=H.gens/\s.drawn=H.drawn/\s.os=H.os
 ro:∀p∈g.O,F p.1 p.2
 hy:HY F (g.L.map (·.1)) g.Y s.heap
def mC:∀{L j p},gN L j=some p->p∈L
 |[],_,_,U=>by cases U
 |q::L,0,p,U=>by cases U;rw[.head _]
 |q::L,j+1,p,U=>.tail _<|mC U
def Ee:∀(L j o),(pT L j o).map (·.1)=L.map (·.1)
 |[],_,_=>rfl
 |q::L,0,o=>rfl
 |q::L,j+1,o=>by show q.1::_=q.1::_;rw[Ee L j o,]
def Ef:∀{L j p o},(L.map (·.1)).Nodup->gN L j=some p->∀q∈pT L j o,q=(p.1,o)\/(q∈L/\q.1≠p.1)
 |[],_,_,_,_,U,_,_=>by cases U
 |x::L,0,p,o,hn,U,q,u=>by
  cases U;rcases aY.mp u with rfl|u
  .rw[.inl rfl]
  .rw[.inr ⟨.tail _ u,λe=>?_⟩]
   rw[bV,c_]at hn;rw[hn.1<|e▸bw u]
 |x::L,j+1,p,o,hn,U,q,u=>by
  rw[bV,c_]at hn;rcases aY.mp u with rfl|u
  .rw[.inr ⟨.head _,λe=>hn.1<|e▸bw (mC U)⟩]
  .rcases Ef hn.2 U q u with e|⟨a,b⟩
   .rw[.inl e]
   .rw[.inr #[.tail _ a,b]]
def wR:∀(L a o),qI L a o=L++[(a,o)]:=by
 intro J;induction J with
 |nil=>intro _ _;rw[rfl]
 |cons q L C=>intro a o;rw[congrArg (q::·)<|C a o]
variable{w:eI} {T:N->Option Obj} {F:aH->Obj->Prop} {H:aN}
def bF.update{g:aR}{s:aN}(E:bF F H g s){j:N}{p:aH×Obj}{f:Obj->Obj}(D:gN g.L j=some p)(B:(f p.2).isFreed=false)(h':!N):bF F H {g with h:=h',L:=pT g.L j<|f p.2} {s with heap:=s.heap.update p.1 f}:=by
 have I:=mC D;have o:Heap.SameBut p.1 s.heap (s.heap.update p.1 f):=Sq ..;rw[#[λa Y e=>?_,λq u=>?_,?_,λq u Y=>?_,?_,E.tk,E.rest,E.ro,#[λq u=>(o.2 q.1 λe=>E.hy.off q u<|e▸bw I).trans<|E.hy.led q u,λq u=>by show q.1∉(pT g.L j<|f p.2).map (·.1);rw[Ee,];rw[E.hy.off q u],E.hy.nd,E.hy.dj]]]
 .rw[(o.2 a λz=>E.dj p I Y<|z▸e).trans<|E.fr a Y e]
 .rcases Ef E.nd D q u with rfl|⟨a,b⟩
  .rw[qf f (E.led p I) B]
  .rw[(o.2 q.1 b).trans<|E.led q a]
 .rw[Ee,];rw[E.nd]
 .rcases Ef E.nd D q u with rfl|⟨a,b⟩
  .rw[E.dj p I Y]
  .rw[E.dj q a Y]
 .rw[o.1▸E.sz]
def bF.alloc{g:aR}{s:aN}(E:bF F H g s){o:Obj}(B:o.isFreed=false):bF F H {g with L:=qI g.L g.n o,n:=g.n+1} {s with heap:=s.heap.push o}:=by
 have d:∀p∈g.Y,p.1∉(qI g.L g.n o).map (·.1):=λq u f=>by
  rw[wR,bf]at f;rcases ej.mp f with f|f
  .rw[E.hy.off q u f]
  .have e:q.1=g.n:=by simpa using f
   have c:=iI<|E.hy.led q u;simp only[E.sz]at c;rw[ni _<|Gb c e.symm]
 rw[⟨λa h e=>kW _<|E.fr a h e,λq u=>?_,?_,λq u h=>?_,?_,E.tk,E.rest,E.ro,#[λq u=>kW _<|E.hy.led q u,d,E.hy.nd,E.hy.dj]⟩]
 .simp only[wR]at u
  rcases ej.mp u with u|u
  .rw[kW _<|E.led q u]
  .rcases iy.mp u with rfl
   rw[E.sz.symm▸rU _ B]
 .show((qI g.L g.n o).map (·.1)).Nodup
  rw[wR,bf,jV];refine⟨E.nd,by simp,λa i b y e=>(aJ (bn.mp i) λq u P=>?_)⟩;subst P;have c:=iI<|E.led q u;simp only[E.sz]at c;rw[ni _ (Gb c<|(by simpa using y:b=g.n).symm.trans e.symm)]
 .simp only[wR]at u
  rcases ej.mp u with u|u
  .rw[E.dj q u h]
  .rcases iy.mp u with rfl
   intro e;have c:=iI<|E.fr _ _ e;simp only[E.sz]at c;rw[ni _ c]
 .rw[zw,E.sz]
def bF.hints{g:aR}{s:aN}(E:bF F H g s)(h':!N)(a:N):bF F H {g with h:=h',arm:=a} s:=#[E.fr,E.led,E.nd,E.dj,E.sz,E.tk,E.rest,E.ro,E.hy]
def bF.fresh{g:aR}{s:aN}(E:bF F H g s):bF F H {g with t:=g.t+1} {s with toks:=s.toks+1}:=#[E.fr,E.led,E.nd,E.dj,E.sz,by show s.toks+1=g.t+1;rw[E.tk,],E.rest,E.ro,E.hy]
def fJ(b:N)(t:Mk)(A:dW):Prop:=A.depth+b<=990/\A.handled=t.v/\A.units+4*b<=9000/\∀l,t.fs=some l->A.frames=some l
def s_(c:bj):Bool:=match c with
 |.call (.builtin _) _=>true
 |_=>false
def fh(M:Model)(A:dW)(c:bj)(R:aL->aN->Prop)(s:aN):Prop:=(s_ c).rec (gJ M A c R s) (∀(j:Ctx) (p:Pos),j.In A->wpCode M (j.enter c none p) R p s)
def u5(h:gJ M A c R s):fh M A c R s:=by
 delta fh;cases s_ c
 .rw[h]
 .exactλj p t=>h _ p rfl<|Ctx.In.enter t c none p λe=>nn e
def gL(h:fh M A c R s)(f:∀r P,R r P->D r P):fh M A c D s:=by
 delta fh at h⊢
 revert h;cases s_ c
 .exactλh=>jz h f
 .exactλh j p t=>wpCode_mono f<|h j p t
def lr{id:String}(h:d_ M A (PySem.call (.builtin id) D) Q E s):fh M A (.call (.builtin id) #[D,[]]) (λr P=>match r with|.ok (.ret v)=>Q v P|.ok _=>False|.error e=>E e P) s:=λj p t=>by have u:=h j p t;simp only[Sem.wp_cmd_call]at u;rw[u]
abbrev Le(F F':aH->Obj->Prop):Prop:=∀a Y,F a Y->F' a Y
inductive Nx (F:aH->Obj->Prop) (H s:aN) (G:aR->(aH->Obj->Prop)->Prop):Prop where
 |mk (F':aH->Obj->Prop) (hF:Le F F') (g':aR) (D:bF F' H g' s) (h:G g' F')
variable(w H)in
def iH(A:dW)(R:aL->aN->Prop):av->(aH->Obj->Prop)->Prop
 |.ok r z,o=>∀s,bF o H z s->R r s
 |.again Z z,o=>Z.quiet=true/\∀s,bF o H z s->gJ (aE pw w) A Z R s
 |.call b t Z z j,o=>∀s n,bF o H z s->fJ b t n->fh (aE pw w) n Z (λr P=>Nx o H P λc T=>iH A R (j r c) T) s
 |.gx b t D z j,o=>∀s n,bF o H z s->fJ b t n->d_ (aE pw w) n D (λv P=>Nx o H P λc T=>iH A R (j (.ok<|.ret v) c) T) (λU U=>False) s
 |.need a Y,o=>a.ok/\iH A R Y o
 |.bad,_=>False
abbrev bE(w:eI)(F:aH->Obj->Prop)(m:aN)(A:dW)(R:aL->aN->Prop)(o:av):Prop:=iH w m A R o F
abbrev RN(w:eI)(F:aH->Obj->Prop)(m:aN)(A:dW)(R:aL->aN->Prop)(f:aL->aR->av)(r:aL)(s:aN):Prop:=Nx F m s λa T=>bE w T m A R<|f r a
section
variable{A A₁:dW} {R:aL->aN->Prop}
def xD:∀{o F},Le F0 F->bE w F H A R (o.bind f)->bE w F H A₁ (RN w F0 H A R f) o
 |.ok r z,F,W,U=>λs E=>#[F,W,z,E,U]
 |.again _ _,_,_,U=>U.elim
 |.call b t Z z j,F,W,U=>λs n E C=>gL (U s n E C) λr P L=>L.casesOn λT c d y e=>#[T,c,d,y,xD (λa o x=>c a o<|W a o x) e]
 |.gx b t D z j,F,W,U=>λs n E C=>ul (U s n E C) (λv P L=>L.casesOn λT c d y e=>#[T,c,d,y,xD (λa o x=>c a o<|W a o x) e]) λK K U=>U
 |.need a o,_,W,U=>#[U.1,xD W U.2]
 |.bad,_,_,U=>U.elim
def iE(h:bE w F H A R (o.bind f)):bE w F H A₁ (RN w F H A R f) o:=xD (λU U x=>x) h
def xE(B:∀{F},Le F0 F->∀c g,bE w F H A R (f c g)->c.quiet=true/\∀s,bF F H g s->gJ (aE pw w) A c R s):∀{o F},Le F0 F->bE w F H A R (o.vF f)->bE w F H A R o
 |.ok r g,_,_,U=>U
 |.again c g,_,W,U=>B W c g U
 |.call b t c g j,_,W,U=>λs n E C=>gL (U s n E C) λr P L=>L.casesOn λT d e y z=>#[T,d,e,y,xE B (λa o x=>d a o<|W a o x) z]
 |.gx b t D g j,_,W,U=>λs n E C=>ul (U s n E C) (λv P L=>L.casesOn λT d e y z=>#[T,d,e,y,xE B (λa o x=>d a o<|W a o x) z]) λK K U=>U
 |.need a o,_,W,U=>#[U.1,xE B W U.2]
 |.bad,_,_,U=>U.elim
variable{C:Prop}
def ry(h:bE w F H A R (mF b x))(c:b=true->bE w F H A R x->C):C:=by
 cases b
 .rw[gQ h]
 .rw[c rfl h]
def on{n:Type}{o:Option n}{k:n->av}(h:bE w F H A R (mE o k))(c:∀a,o=some a->bE w F H A R (k a)->C):C:=by
 cases o
 .rw[gQ h]
 .rw[c _ rfl h]
def pL(h:bE w F H A R (mD g k))(c:∀i hs,bE w F H A R (k i {g with h:=hs})->C):C:=by
 obtain⟨j,n,D,hs,O,a,J,d⟩:=g;cases hs
 .rw[gQ h]
 .rw[c _ _ h]
def ki(h:bE w F H A R (jh i x k))(p:bE w F H A R x->C)(m:∀j,bE w F H A R (k j)->C):C:=by
 cases i
 .rw[p h]
 .rw[m _ h]
def qT(h:bE w F H A R (b.rec x y))(p:b=false->bE w F H A R x->C)(m:b=true->bE w F H A R y->C):C:=by
 cases b
 .rw[p rfl h]
 .rw[m rfl h]
def vH{n:Type}{o:Option n}{k:n->av}(h:bE w F H A R (o.rec x k))(p:bE w F H A R x->C)(m:∀a,o=some a->bE w F H A R (k a)->C):C:=by
 cases o
 .rw[p h]
 .rw[m _ rfl h]
def MT(h:bE w F H A R (MS l o)):(∀a∈l,a.ok)/\bE w F H A R o:=by
 induction l with
 |nil=>rw[#[λU h=>(cQ h).elim,h]]
 |cons a l C=>rw[#[λx L=>(aY.mp L).elim (λe=>e▸h.1)<|(C h.2).1 x,(C h.2).2]]
end
def uA(I:rW)(w:eI)(F:aH->Obj->Prop)(m:aN):Prop:=∀K id n z x,I K id n z=some x->(∀a∈x.2.2,a.ok)->∀(b:N) (t:Mk) (A:dW),fJ b t A->∀(h:Fin->aN->Prop) (d:aL->aN->Prop) (s:aN),bF F m z s->(∀r P,h r P->mK pw w A d r P)->(∀P,bF F m x.2.1 P->aW (aE pw w) A (.builtin id n) x.1 h (eo d) P)->gJ (aE pw w) A (.builtin id n) d s
end
section
variable{w:eI} {T:N->Option Obj} {F:aH->Obj->Prop} {D:aN}
structure jR (T:N->Option Obj) (F:aH->Obj->Prop):Prop where
 top:∀a o,T a=some o->F a o
 M2:∀h:ix,(∀a o,F a o->h.get? a=some o)->h.NoLimit
def jR.mono{T:N->Option Obj}{F F':aH->Obj->Prop}(B:jR T F)(h:∀a o,F a o->F' a o):jR T F':=#[λa o e=>h a o<|B.top a o e,λI W=>B.M2 I λa o e=>W a o<|h a o e]
def ik(F:aH->Obj->Prop)(w:eI)(A:dW)(R:aL->aN->Prop):Fin->aN->Prop:=λr P=>match r with
 |.done f=>R (.ok f) P
 |.again p=>p.quiet=true/\(∀a Y,F a Y->P.heap.get? a=some Y)/\gJ (aE pw w) A p R P
def Pg:∀(r s),ik F w A R r s->mK pw w A R r s
 |.done _,_,U=>U
 |.again _,_,U=>#[U.1,U.2.2]
def zJ(F:aH->Obj->Prop)(w:eI)(A:dW)(c:bj)(R:aL->aN->Prop):rY->aN->Prop
 |.tree D,s=>aW (aE pw w) A c D (ik F w A R) (eo R) s
 |.code p,s=>gJ (aE pw w) A p R s
 |.loop p,s=>gJ (aE pw w) A p R s
 |.fn a n,s=>gJ (aE pw w) A (.call (.ref a) n) R s
 |.gU B O,s=>aW (aE pw w) A c (j7 B O) (λf P=>R (.ok f) P) (eo R) s
 |.jP e O,s=>aW (aE pw w) A c (PySem.isTrue e O<|PySem.eval e O) (λb P=>R (.ok<|.ret<|.bool b) P) (eo R) s
 |.all op es O,s=>aW (aE pw w) A c (allTrue op es O) (λb P=>R (.ok<|.ret<|.bool b) P) (eo R) s
 |.emp X a i S O,s=>aW (aE pw w) A c (s8 [.ref a] (PySem.eval (.List [] i) O)>>=λv=>rK S>>=λU=>operate [.ref a,v] (pU (cond X .NotEq .Eq) (.ref a) v)>>=λx=>s8 [x]<|wf x) (λb P=>R (.ok<|.ret<|.bool b) P) (eo R) s
def fI(b:N)(t:Mk)(A:dW)(c:bj):Prop:=fJ b t (A.under c)/\(t.kept=true->c.envs=[])
def Sp(b:N)(t:Mk)(A:dW)(c:bj):rY->Prop
 |.code _|.loop _|.fn _ _=>fJ b t A
 |_=>fI b t A c
abbrev wQ(T:N->Option Obj)(C:Ih)(w:eI)(m:aN):Prop:=∀{o},jR T o->∀(b:N) (t:Mk) K z A Z d s,bE w o m A d (C b t K z)->bF o m z s->Sp b t A Z K->zJ o w A Z d K s
def aow(W:Le F F'):∀(r s),ik F' w A R r s->ik F w A R r s
 |.done _,_,U=>U
 |.again _,_,U=>#[U.1,λa Y x=>U.2.1 a Y<|W a Y x,U.2.2]
def alx(W:Le F F'):∀{j s},zJ F' w A c R j s->zJ F w A c R j s
 |.tree _,_,U=>mS U (aow W) λK K U=>U
 |.code _,_,U=>U
 |.loop _,_,U=>U
 |.fn _ _,_,U=>U
 |.gU _ _,_,U=>U
 |.jP _ _,_,U=>U
 |.all _ _ _,_,U=>U
 |.emp _ _ _ _ _,_,U=>U
def bF.look{g:aR}{s:aN}(E:bF F D g s){j:N}{p:aH×Obj}(h:tP g j=some p):s.heap.get? p.1=some p.2:=by
 unfold Mine.tP at h
 cases e:zL j 1000<;>rw[e]at h
 .rw[E.fr _ _<|E.ro p<|mC h]
 .rw[E.led p<|mC h]
section
variable{A:dW} {R:aL->aN->Prop} {g:aR} {s:aN} {P:Prop} (G:bF F D g s)
include G
theorem C7{a:aH}{k:Obj->aR->av}(B:jR T F)(h:bE w F D A R (x4 T a g k))(b:∀o c,s.heap.get? a=some o->bE w F D A R (k o c)->bF F D c s->P):P:=pL h λU U h=>ki h (λh=>on h λo e h=>b o _ (G.fr a o<|B.top a o e) h<|G.hints _ _) λU h=>on h λp e h=>b p.2 _ ((h.1)▸G.look e) h.2<|G.hints _ _
theorem ar4{a:aH}{f:Obj->Obj}{k:aR->av}(h:bE w F D A R (RL a f g k))(b:∀o c,s.heap.get? a=some o->bE w F D A R (k c)->bF F D c {s with heap:=s.heap.update a f}->P):P:=
 pL h λU U h=>ki h (λh=>h.elim) λU h=>on h λp e h=>ry h λB h=>by
  have K:=h.1;subst K
  rw[b p.2 _ (G.led p<|mC e) h.2<|G.update e (by cases q:(f p.2).isFreed<;>rw[q]at B<;>first|rfl|cases B) _]
theorem Xm{v:Bool}{k:Bool->aR->av}(h:bE w F D A R (sP v g k))(b:∀a,bE w F D A R (k v a)->bF F D a s->P):P:=pL h λU U h=>ki h (λh=>by cases v<;>rw[b _ h<|G.hints _ _]) λU h=>ki h (λh=>b _ ((h.1)▸h.2)<|G.hints _ _) λU h=>b _ ((h.1)▸h.2)<|G.hints _ _
end
def wU(h:fJ b K A):fJ b (K.mark J) (A.mark J):=#[h.1,by show J.or A.handled=_;rw[h.2.1▸?_];rfl,h.2.2.1,h.2.2.2]
def T6(h:fI b J A c):fJ b J.ag A:=by
 obtain⟨⟨e,M,X,I⟩,Y⟩:=h;rw[#[b8 (oP (oR _ _) _) e,M,b8 (oP (oR _ _) _) X,λl a=>?_]];obtain⟨v,d,z⟩:=J;cases z with
 |false=>cases a
 |true=>rw[aJ (Around.frames_under<|I l a) λr K O=>?_];rw[Y rfl]at O;simp only[K,O];rfl
def ar2(c:bj):c.cUnits<=4*(c.weight+1):=by
 have B:c.frames<=c.weight:=ai6;unfold Code.cUnits
 split<;>first|rw[alQ B]|rw[alR B]
def T7(h:fJ b J A)(Y:oQ (wn c+1) b=true):fI (b-(wn c+1)) (J.under c) A c:=by
 have Y:=ng Y;have e:=congrFun asi c;rw[#[#[?_,h.2.1,?_,λl a=>?_],λe=>nomatch e]]
 .have u:=h.1
  rw[alB Y e u]
 .have u:=h.2.2.1
  have L:=ar2 c;rw[alM e u L<|bh Y]
 .show pushEnvs c.envs A.frames=some l
  have a:J.fs.map (c.envs++·)=some l:=a;rw[pushEnvs_eq,];cases e:J.fs with
  |none=>rw[e]at a;cases a
  |some r=>rw[h.2.2.2 r e,];rw[e]at a;rw[a]
def MN(h:okMark J=true):J≠some byPass:=by rintro rfl;simp[okMark]at h
def R8{n:Type}{m:bk n}{f c:n->bk Fin}(h:eY M J (m>>=f) Q E p s)(g:∀a o P,eY M J (f a) Q E o P->eY M J (c a) K E o P):eY M J (m>>=c) K E p s:=by simp only[jx]at h⊢;rw[iz M J m (λa o P z=>g a o P z) (λU U U z=>z) p s h]
def anY(y:A.depth<recursionLimit)(m:s.heap.get? a=some o)(E:o.data=.func K)(l:K.scope.isCoroutine=false)(q:K.scope.isGenerator=false)(g:K.body=.stmts a6)(c:s.heap.CodeRec K.code K.qualname)(r:∀h:ix,(∀a o,F a o->h.get? a=some o)->h.NoLimit)(h:aW (aE pw w) A (.call (.ref a) args) (bindArgs K args>>=λb=>newFunctionEnv K.scope K.globals K.closure b (K.qualname++".<locals>.") (some a) K.code none K.builtins>>=λO=>.pure<|.again<|.func a6 O) (ik F w A R) (eo R) s):gJ (aE pw w) A (.call (.ref a) args) R s:=by
 rw[uo pw w A R s _<|hM<|mT<|wpAny_load m<|HL c λZ z J C d x n u=>?_];simp only[E,callFunction,l,q,g,d];rw[d]at h;rw[hM<|mT<|jt x n u<|hM<|mT<|bK ?_];intro j p e t;rw[R8 (h j p e t) λb k B f=>R8 f λO i U M=>?_];have X:=M;have I:d_ (aE pw w) (A.under<|.call (.ref a) args) (enterFrame>>=λ_=>(o6<|Fin.again<|.func a6 O)) (mK pw w A R) (eo R) U:=aT<|wpAny_enterFrame (r U.heap X.2.1) y λ_ _ _=>#[X.1,X.2.2]
 rw[I j i<|e▸t.in]
end
section
variable{w:eI} {T:N->Option Obj} {F:aH->Obj->Prop} {H:aN}
def yl(h:((not (b)))=true):b=false:=by cases b<;>first|rfl|cases h
def aqC(h:Q0 x=some l):x=.stmts l:=by
 cases x with
 |stmts=>rw[congrArg FuncBody.stmts<|dY h]
 |_=>rw[nn h]
def Zx(h:BO o=some p):o.data=.func p.1/\p.1.scope.isCoroutine=false/\p.1.scope.isGenerator=false/\p.1.body=.stmts p.2:=cV h λf e h=>kh h λK h=>kh h λO h=>cV h λk a h=>dY h▸#[Xf e,yl K,yl O,aqC a]
def Zd(h:H9 T f=some a):f=.ref a:=cV h λL e h=>cV h λ_ _ h=>cV h λ_ _ h=>(dY h)▸E3 e
def Vc(B:jR T F){h:ix}(W:∀a o,F a o->h.get? a=some o)(e:Ha T v q=some u):h.CodeRec v q:=
 cV e λZ K e=>cV e λo O e=>cV e λJ b e=>gq e λx l j e=>gq e λn Q I e=>cV e λp f e=>kh e λd _=>Jp Z o J p.2 (E3 K) (W _ _<|B.top _ _ O) (AY b) (by rw[<-Se,j,I,wj f,<-PySem.W.Fast.sEq_iff.mp d];rfl)
def amd(h:MX r=some p):r=.List [] p:=by
 cases r with
 |List l q=>rw[om h λe h=>e▸dY h▸rfl]
 |_=>rw[nn h]
def U6(h:AM op b0 v2=some v)(k:Q (.bool v) s):d_ (aE pw w) A (xd op b0 v2) Q E s:=by
 unfold AM at h;cases e:vI b0 with
 |some a=>
  simp only[e]at h;rw[cV h λb O h=>?_];obtain rfl:=E2 e;obtain rfl:=E2 O;cases op with
  |Eq=>cases h;rw[P.eq_int k]
  |NotEq=>cases h;rw[P.ne_int k]
  |Lt=>cases h;rw[P.lt_int k]
  |LtE=>cases h;rw[P.le_int k]
  |Gt=>cases h;rw[P.gt_int k]
  |GtE=>cases h;rw[P.ge_int k]
  |_=>rw[nn h]
 |none=>
  simp only[e]at h;rw[cV h λa K h=>cV h λb O h=>?_];obtain rfl:=wj K;obtain rfl:=wj O;cases op with
  |Eq=>cases h;rw[P.eq_str k]
  |NotEq=>cases h;rw[P.ne_str k]
  |_=>rw[nn h]
def Vy:PySem.code "list"=1970563693:=by decide+kernel
def abg(h:Jw o=some xs):∃d n b0,o=#[.type "list",d,.seq xs n,b0]:=
 kh h λe h=>cV h λp O h=>Jn o.dict p.2 o.slots (by obtain⟨Z,d,a,b0⟩:=o;obtain rfl:=th e Vy;obtain rfl:=Hv O;obtain rfl:=dY h;rfl)
def ae0(h:Lh e=some p):∃x y,e=.ListComp p.1 p.2 x y:=by
 cases e with
 |ListComp k d x y=>rw[j8 x y<|dY h▸rfl]
 |_=>rw[nn h]
def aaT(h:Jk l=some t):l=t.toList:=by
 match l,h with
 |[],h=>rw[dY h▸rfl]
 |[Z],h=>rw[dY h▸rfl]
def VR(h:Hl e b0=some q):b0=0/\∃x y,e=.ListComp q.1 [#[q.2.1.target,q.2.1.iter,q.2.2.toList,0]] x y:=
 kh h λK h=>cV h λp O h=>gq h λz l a h=>om h λj h=>kh h λI h=>cV h λD f h=>by rw[fU (ae0 O) λx y d=>?_];obtain⟨g,b,U,c⟩:=z;obtain rfl:=aaT f;obtain rfl:=eq_of_beq I;obtain rfl:=dY h;rw[#[m_ K,x,y,by simp only[d,a,j]]]
def abh(h:Jx op=true):op=.Not:=by cases op<;>first|rfl|cases h
def HZ(h:Bu op=some n):op=cond n .NotEq .Eq:=by
 cases op with
 |Eq=>cases h;rfl
 |NotEq=>cases h;rfl
 |_=>rw[nn h]
def amg(h:M0 a b=true):a=[]/\b=[]:=by cases a<;>cases b<;>first|rw[#[rfl,rfl]]|cases h
def jH{n:Type}{a:n}{Q:n->aN->Prop}(h:Q a s):aW (aE pw w) A c (o6 a) Q E s:=λ_ _ _ _=>h
def yo{n:Type}{m:bk n}{k:n->Fin}(h:aW (aE pw w) A c (m.bind λa=>.pure<|k a) Q E s):aW (aE pw w) A c m (λa P=>Q (k a) P) E s:=λj p d t=>by have b:eY (aE pw w) j (m>>=λa=>(o6<|k a)) (λa _ P=>Q a P) (λe _ P=>E e P) p s:=(h j p d t);simp only[jx]at b;rw[b]
def C2(z:aW (aE pw w) A c (pD l b0) (ik F w A R) (eo R) s):aW (aE pw w) A c (PySem.eval l b0) (λv P=>R (.ok<|.ret v) P) (eo R) s:=yo (by unfold pD at z;rw[<-Bw]at z;rw[z])
def um{n:Type}{m:bk n}{f c:n->bk Fin}(h:eY M a7 (m>>=f) Q E p s)(g:∀a o P,eY M a7 (f a) Q E o P->eY M a7 (c a) ca b0 o P)(i:∀e o P,E e o P->b0 e o P):eY M a7 (m>>=c) ca b0 p s:=by simp only[jx]at h⊢;rw[iz M a7 m (λa o P z=>g a o P z) (λe o P z=>i e o P z) p s h]
def aoZ(ss O):(Code.block ss O).quiet=true:=by rfl
def X8(y:s_ c=false)(h:fh (aE pw w) A c R s):gJ (aE pw w) A c R s:=by unfold fh at h;rw[y]at h;rw[h]
def Ea{l J:af->bk Unit}{aK X:bk Fin}(F:∀e p s,E e p s->b0 e p s)(z:eY M a7 (ch>>=λ_=>m>>=λo=>match o with|none=>(.pure<|.done .brk:bk Fin)|some v=>l v>>=λ_=>J v>>=λ_=>.pure<|.done .next) Q E p s)(j:∀p s,Q (.done .brk) p s->eY M a7 aK ca b0 p s)(c:∀p s,Q (.done .next) p s->eY M a7 X ca b0 p s):eY M a7 (ch>>=λ_=>m>>=λo=>match o with|none=>aK|some v=>l v>>=λ_=>J v>>=λ_=>X) ca b0 p s:=
 um z (λ_ _ _ b=>um b (λo _ _ a=>by
  cases o with
  |none=>rw[j _ _ a]
  |some v=>rw[um a (λ_ _ _ I=>um I (λ_ _ _ Y=>c _ _ Y) F) F]) F) F
section
variable{I:rW} (bt:∀F,uA I w F H) {J:Ih} (G:wQ T J w H) (B:jR T F) {b:N} {D:Mk} {g:aR} {A:dW} {c:bj} {R:aL->aN->Prop} {s:aN}
include G B
theorem ES{k:aL->bk Fin}(C:fI b D A c){r:aL}{P:aN}(h:RN w F H A R (λr a=>J b D (.tree<|k r) a) r P):aW (aE pw w) A c (k r) (ik F w A R) (eo R) P:=by obtain⟨T,W,a,y,z⟩:=h;rw[alx W<|G (B.mono W) b D (.tree<|k r) a A c R P z y C]
section
variable{U:Option af} {k:aL->bk Fin} {a8:Bool} {bb:!af} (a6:okMark U=true) (K:fI b D A c)
include a6 K
theorem EK{j:rY}{p:bj}(z:∀e,bE w F H ((A.under c).mark U) e (J b (D.mark U) j g)->gJ (aE pw w) ((A.under c).mark U) p e s) (h:bE w F H A R ((J b (D.mark U) j g).bind λr a=>J b D (.tree<|k r) a)):aW (aE pw w) A c (.call p U a8 bb k) (ik F w A R) (eo R) s:=y_call Fin pw w A c _ _ s p U a8 bb k (MN a6)<|jz (z _<|iE h) λ_ _=>ES G B K
theorem pK{p:bj}(h:bE w F H A R (oj J b D U p k g))(E:bF F H g s):aW (aE pw w) A c (.call p U a8 bb k) (ik F w A R) (eo R) s:=EK G B a6 K (λe h=>G B b _ (.code p) g _ p e s h E<|wU K.1) h
theorem OH{p:bj}(y:s_ p=false)(h:bE w F H A R (.call b (D.mark U) p g λr d=>J b D (.tree<|k r) d))(E:bF F H g s):aW (aE pw w) A c (.call p U a8 bb k) (ik F w A R) (eo R) s:=y_call Fin pw w A c _ _ s p U a8 bb k (MN a6)<|jz (X8 y<|h s _ E<|wU K.1) λ_ _=>ES G B K
theorem UF{f:af}{args:kT}(h:bE w F H A R (wW J b D U args k g f))(E:bF F H g s):aW (aE pw w) A c (.call (.call f args) U a8 bb k) (ik F w A R) (eo R) s:=by
 cases f with
 |ref a=>delta wW at h;rw[pL h λi o h=>ki h (λh=>pK G B a6 K h<|E.hints _ _) λi h=>ki h (λh=>OH G B a6 K rfl h<|E.hints _ _) λ_ h=>EK G B a6 K (λe h=>G B b _ (.fn a args) _ _ c e s h (E.hints _ _)<|wU K.1) h]
 |builtin id=>
  delta wW at h;dsimp only at h;rw[pL h λi o h=>ki h (λh=>pK G B a6 K h<|E.hints _ _) λi h=>ki h (λh=>?_) λl h=>pK G B a6 K h<|E.hints _ _];cases U with
  |some _=>rw[gQ h]
  |none=>intro j p d t;rw[wpCode_mono (λr P q=>ES G B K q j p d t)<|h s (A.under c) (E.hints _ _) K.1 j p<|d▸t.in]
 |_=>rw[pK G B a6 K h E]
theorem UH{p:bj}(h:bE w F H A R (G3 J b D U k g p))(E:bF F H g s):aW (aE pw w) A c (.call p U a8 bb k) (ik F w A R) (eo R) s:=by
 have Y:s_ p=false->bE w F H A R (mD g λi a=>jh i ((J b (D.mark U) (.loop p) a).bind λr d=>J b D (.tree<|k r) d) λ_=>.call b (D.mark U) p a λr d=>J b D (.tree<|k r) d)->aW (aE pw w) A c (.call p U a8 bb k) (ik F w A R) (eo R) s:=λy h=>pL h λi o h=>ki h (λh=>EK G B a6 K (λe h=>G B b _ (.loop p) _ _ c e s h (E.hints _ _)<|wU K.1) h) λ_ h=>OH G B a6 K y h<|E.hints _ _
 cases p with
 |call f n=>rw[UF G B a6 K h E]
 |builtin id n=>rw[qT h (λ_ h=>pK G B a6 K h E) λ_ h=>pL h λi o h=>ki h (λh=>pK G B a6 K h<|E.hints _ _) λj h=>pK G B a6 K h<|E.hints _ _]
 |block=>rw[pK G B a6 K h E]
 |_=>rw[Y rfl h]
end
def T1{p:bj}(h:bE w F H A R (GR T J b D g p))(E:bF F H g s)(C:fJ b D.ag A):gJ (aE pw w) A p R s:=by
 have Y:∀{g},bE w F H A R (J b D.ag (.code p) g)->bF F H g s->gJ (aE pw w) A p R s:=λh E=>G B b D.ag (.code p) _ A p R _ h E C;cases p with
 |whileLoop=>rw[h.2 _ E]
 |forLoop=>rw[h.2 _ E]
 |compLoop=>rw[h.2 _ E]
 |builtin id n=>rw[qT h (λ_ h=>Y h E) λ_ h=>pL h λi o h=>ki h (λh=>Y h<|E.hints _ _) λi h=>ki h (λh=>h.2 _<|E.hints _ _) λK h=>qT h (λ_ h=>Y h<|E.hints _ _) λ_ h=>jz (h _ A (E.hints _ _) C) λr P L=>L.casesOn λc _ d y z=>z _ y]
 |call f n=>rw[vH h (λh=>Y h E) λa e h=>Zd e▸G B b D.ag (.fn a n) _ A (.call f n) R _ h E C]
 |_=>rw[Y h E]
def arz{t:bk Fin}(h:bE w F H A R (Rv T w J b D t g))(E:bF F H g s)(C:fI b D A c):aW (aE pw w) A c t (ik F w A R) (eo R) s:=by
 obtain⟨I,d,k,K,o⟩:=s;cases t with
 |pure r=>
  cases r with
  |done f=>rw[jH<|h _ E]
  |again p=>rw[ry h λQ h=>jH #[(congrFun Pv p).trans Q,E.fr,T1 G B h E<|T6 C]]
 |raise e=>rw[y_raise Fin pw w A c _ _ _ e<|h _ E]
 |rule U j=>rw[y_skim Fin pw w A c _ _ _ _ 1<|G B b D (.tree<|j ()) g A c R _ h E C]
 |«at» q j=>rw[y_skim Fin pw w A c _ _ _ _ 1<|G B b D (.tree<|j ()) g A c R _ h E C]
 |point l j=>rw[y_skim Fin pw w A c _ _ _ _ 1<|G B b D (.tree<|j ()) g A c R _ h E C]
 |ask j=>rw[y_skim Fin pw w A c _ _ _ _ 1<|G B b D (.tree<|j #[pw,w.params]) g A c R _ h E C]
 |load a q j=>rw[C7 E B h λY x L z y=>y_load Fin pw w A c _ _ _ _ _ _ _ a q j Y L<|G B b D (.tree<|j Y) x A c R _ z y C]
 |loadIfAlive a j=>rw[C7 E B h λY x L z y=>y_alive Fin pw w A c _ _ _ _ _ _ _ a j Y L<|G B b D (.tree<|j<|some Y) x A c R _ z y C]
 |update a q f j=>rw[ar4 E h λY x L z y=>hM (m:=updatePart a q f) (f:=j)<|mT<|wpAny_updatePart L<|G B b D (.tree<|j ()) x A c R _ z y C]
 |alloc Y j=>rw[ry h λO h=>?_];have u:=G B b D (.tree<|j g.n) _ A c R _ h (E.alloc<|yl O) C;rw[<-E.sz]at u;rw[hM (m:=alloc Y) (f:=j)<|mT<|wpAny_alloc u]
 |fresh j=>have u:=G B b D (.tree<|j g.t) _ A c R _ h E.fresh C;rw[<-E.tk]at u;rw[y_fresh Fin pw w A c _ _ _ _ _ _ _ j u]
 |handled i j=>rw[qT h (λe h=>?_) λ_ h=>h.elim];subst e;rw[y_handled Fin pw w A c _ _ _ j ?_];have e:A.handled=D.v:=C.1.2.1;rw[e▸G B b D (.tree<|j D.v) g A c R _ h E C]
 |call p S M n j=>rw[ry h λP h=>UH G B P C h E]
 |_=>rw[gQ h]
omit G B in
def xg{v:Bool}{k:Bool->aR->av}{e:af->av}{P:Prop}(E:bF F H g s)(h:bE w F H A R (tY (.ok<|.ret<|.bool v) (λv=>sP v g k) e))(b:∀a,bE w F H A R (k v a)->bF F H a s->P):P:=Xm E h b
def Ut{rest:!bO}{O:aX}{f:Flow}(h:bE w F H A R (yY J b D rest O (.ok f) g))(E:bF F H g s)(C:fI b D A c):aW (aE pw w) A c (match f with|.next=>j7 rest O|f=>pure f) (λf P=>R (.ok f) P) (eo R) s:=by
 cases f with
 |next=>rw[G B b D (.gU rest O) g A c R s h E C]
 |_=>rw[jH<|h _ E]
def aqj{st:bO}{rest:!bO}{O:aX}(h:aW (aE pw w) A c (PySem.exec st O) (λf=>RN w F H A R (yY J b D rest O)<|.ok f) (λe=>RN w F H A R (yY J b D rest O)<|.error e) s) (C:fI b D A c):aW (aE pw w) A c (j7 (st::rest) O) (λf P=>R (.ok f) P) (eo R) s:=by rw[hM<|mS h (λf P L=>L.casesOn λT W a y z=>Ut G (B.mono W) z y C) λe P L=>L.casesOn λT W a y z=>z _ y]
omit G B in
def Yp{st:bO}{O:aX}{Q:Flow->aN->Prop}{E:af->aN->Prop}(h:aW (aE pw w) A c (j7 [st] O) Q E s):aW (aE pw w) A c (PySem.exec st O) Q E s:=λj p d t=>by
 have u:eY (aE pw w) j (PySem.exec st O>>=λf=>match f with|.next=>j7 [] O|f=>pure f) (λa _ P=>Q a P) (λe _ P=>E e P) p s:=h j p d t;simp only[jx]at u;rw[iz _ j _ (λf o P z=>?_) (λ_ _ _ z=>z) p s u]
 cases f<;>rw[z]
def arC{k:!bO}{hs:!zt}{O:aX}{S:Pos}(h:bE w F H A R (Rz J b D k hs O g))(E:bF F H g s)(C:fI b D A c):aW (aE pw w) A c (PySem.exec (.Try k hs [] [] S) O) (λf P=>R (.ok f) P) (λe P=>R (.error e) P) s:=by
 show aW (aE pw w) A c (rK S>>=λ_=>(j7 k O).attempt>>=λr=>match r with
  |.ok .next=>j7 [] O
  |.ok f=>pure f
  |.error e=>tX e O>>=λ_=>if hs.isEmpty then throw e else setFlight e none>>=λ_=>handleBy e O hs) _ _ s
 rw[hM<|mT<|E5 ?_];intro j p d t;rw[jx,Sem.wp_attempt];rw[iz _ j _ (λf o P L=>L.casesOn λT W K y z=>?_) (λe o P L=>L.casesOn λT W K y z=>?_) p s<|(G B b D (.gU k O) g A c _ s (iE h) E C) j p d t]
 .have M:=z _ y
  cases f<;>rw[M]
 .cases hs with
  |nil=>rw[gQ z]
  |cons x Q=>dsimp only;rw[if_neg<|show¬(List.isEmpty (x::Q)=true)from kU,];have l:eY (aE pw w) j ((tX e O>>=λ_=>setFlight e none)>>=λ_=>(o6 i7)) _ _ o P:=(z P (A.under c) y C.1 j o<|d▸t.in);simp only[jx]at l⊢;rw[iz _ j _ (λ_ i U X=>iz _ j _ (λ_ a n L=>L.casesOn λu q Z m I=>(yo (by rw[Z5▸(G ((B.mono W).mono q) b D (.tree<|Ix e O (x::Q)) Z A c R n I m C)]:aW (aE pw w) A c ((handleBy e O (x::Q)).bind λf=>.pure<|.done f) (ik u w A R) (eo R) n) j a d t)) (λ_ _ _ Y=>Y.elim) i U X) (λ_ _ _ X=>X.elim) o P l]
def RJ{l r:PySem.Expr}{O:aX}{k:af->af->aR->av}(h:bE w F H A R (E0 J b D l r O g k))(X:bF F H g s)(C:fI b D A c){W:Type}{m:af->af->bk W}{Q:W->Pos->aN->Prop}{E:af->Pos->aN->Prop} (ac:∀o n u Z U j p,Le F u->bF u H Z U->bE w u H A R (k o n Z)->j.code=c->j.Below A->eY (aE pw w) j (m o n) Q E p U){j:Ctx}{p:Pos}(d:j.code=c)(t:j.Below A):eY (aE pw w) j (PySem.eval l O>>=λa=>s8 [a] (PySem.eval r O)>>=m a) Q E p s:=by
 rw[jx,];rw[iz _ j _ (λo y z L=>L.casesOn λS f T K M=>?_) (λe y z L=>L.casesOn λS f T K M=>gQ M) p s<|C2 (G B b D (.tree<|pD l O) g A c _ s (iE (A₁:=A) h) X C) j p d t];simp only[jx,Sem.wp_holding];rw[iz _ j _ (λn i U L=>L.casesOn λu q Z P I=>ac o n u Z U j i (λa Y x=>q a Y<|f a Y x) P I d t) (λe i U L=>L.casesOn λu q Z P I=>gQ I) y z
  <|C2 (G (B.mono f) b D (.tree<|pD r O) T A c _ z (iE (A₁:=A) M) K C) j y d t]
omit G B in
def MY{op:PySem.CmpOp}{r:PySem.Expr}(h:DO op=true):behindInMarks op r=false:=by
 have e:(op==.In||op==.NotIn)=false:=by cases op<;>first|rfl|cases h
 cases r with
 |Set a j p=>rw[(congrArg (λb=>(j==0&&b)&&a.all (constantsAlone 8)) e).trans (by cases(j==0)<;>rfl)]
 |_=>rfl
def UO{l r:PySem.Expr}{O:aX}{k i:Pos}(h:bE w F H A R (G7 J b D l r O g))(E:bF F H g s)(C:fI b D A c):aW (aE pw w) A c (PySem.exec (.Return (some<|.Compare l [.Eq] [r] k) i) O) (λf P=>R (.ok f) P) (λe P=>R (.error e) P) s:=by show aW (aE pw w) A c (rK i>>=λ_=>(PySem.eval l O>>=λa=>s8 [a] (markedBehindIn .Eq r<|PySem.eval r O)>>=λv=>rK k>>=λ_=>operate [a,v]<|xd .Eq a v)>>=λx=>pure<|Flow.ret x) _ _ s;rw[MO<|MY rfl,];rw[hM<|mT<|E5<|hM λj p d t=>RJ G B h E C (λo M u Z U j p W m I d t=>?_) d t];simp only[jx,TC,Sem.wp_operate];rw[iz _ j _ (λy q z L=>L.casesOn λK n S Q Y=>jH<|Y _ Q) (λ_ _ _ h=>h.elim) _ U<|I U (A.under c) m C.1 j _<|d▸t.in]
def aqp{st:bO}{O:aX}(h:bE w F H A R (Qx J b D O g st))(E:bF F H g s)(C:fI b D A c):aW (aE pw w) A c (PySem.exec st O) (λf P=>R (.ok f) P) (λe P=>R (.error e) P) s:=by
 have Y:bE w F H A R (J b D (.tree<|ke st O) g)->aW (aE pw w) A c (PySem.exec st O) (λf P=>R (.ok f) P) (λe P=>R (.error e) P) s:=λh=>by have u:aW (aE pw w) A c ((j7 [st] O).bind λf=>(o6<|Fin.done f:bk PySem.Fin)) (ik F w A R) (eo R) s:=Yo▸G B b D (.tree<|ke st O) g A c R s h E C;rw[Yp<|yo u]
 cases st with
 |If t k l S=>
  rw[hM<|mT<|E5<|hM<|mS (G B b D (.jP t O) g A c _ s (iE (A₁:=A) h) E C) (λv P L=>L.casesOn λT W M y z=>xg y z λZ X m=>?_) λe P L=>L.casesOn λT W M y z=>z _ y];cases v with
  |true=>rw[G (B.mono W) b D (.gU k O) Z A c _ P X m C]
  |false=>rw[G (B.mono W) b D (.gU l O) Z A c _ P X m C]
 |Try k o a b p=>rw[qT h (λ_ h=>Y h) λe h=>?_];obtain⟨rfl,rfl⟩:=amg e;rw[arC G B h E C]
 |Return r p=>rw[vH h Y λq e h=>cV e λi K e=>cV e λQ d e=>cV e λn x e=>kh e λj e=>?_];obtain rfl:=K;obtain rfl:=yl j;have I:=G9 d;rw[HZ x]at I;obtain rfl:=I;obtain rfl:=dY e;rw[UO G B h E C]
 |_=>rw[Y h]
def Uu{ss:!bO}{O:aX}(h:bE w F H A R (GZ J b D ss O g))(E:bF F H g s)(C:fI b D A c):aW (aE pw w) A c (j7 ss O) (λf P=>R (.ok f) P) (eo R) s:=by
 cases ss with
 |nil=>rw[jH<|h _ E]
 |cons i Q=>rw[aqj G B (aqp G B (iE h) E C) C]
def xX{e:PySem.Expr}{O:aX}(h:bE w F H A R (J b D (.tree<|vi e O) g))(E:bF F H g s)(C:fI b D A c):aW (aE pw w) A c (PySem.isTrue e O<|PySem.eval e O) (λb P=>R (.ok<|.ret<|.bool b) P) (eo R) s:=yo (by rw[abk▸Bw▸G B b D (.tree<|vi e O) g A c R s h E C]:aW (aE pw w) A c ((PySem.isTrue e O<|PySem.eval e O).bind λb=>.pure<|.done<|.ret<|.bool b) (ik F w A R) (eo R) s)
def anN{l r:PySem.Expr}{op:PySem.CmpOp}{S:Pos}{O:aX}(f:DO op=true)(h:bE w F H A R (OI J b D l op r O g))(E:bF F H g s)(C:fI b D A c){a:bk af}:aW (aE pw w) A c (PySem.isTrue (.Compare l [op] [r] S) O a) (λb P=>R (.ok<|.ret<|.bool b) P) (eo R) s:=by
 simp only[isTrue_Compare1,MO<|MY f];refineλj p d t=>RJ G B h E C (λo n k Z U j p W m I d t=>?_) d t;simp only[jx,Sem.wp_holding,TC,Sem.wp_operate];rw[vH I (λI=>?_) λv X I=>?_]
 .have L:=G (B.mono W) b D (.tree<|AL op o n) Z A c R U I m C j S d t
  unfold AL at L;rw[<-VX,<-arB]at L;have i:eY (aE pw w) j (xd op o n>>=λc=>wf c>>=λb=>(o6<|.done<|.ret<|.bool b:bk Fin)) _ _ S U:=L;simp only[jx]at i;rw[i]
 .rw[iz _ j _ (λ_ _ _ h=>h) (λ_ _ _ h=>h) _ U<|U6 (A:=A.under c) (Q:=λx P=>∀q,eY (aE pw w) j (wf x) (λb _ P=>R (.ok<|.ret<|.bool b) P) (λe _ P=>eo R e P) q P) X (λq=>(E6 (I U m) j q<|d▸t.in)) j S (d▸t.in)|>λz=>iz _ j _ (λx q P h=>h q) (λ_ _ _ h=>h) _ U z]
def U3{O:aX}{q:PySem.Expr×PySem.CmpOp×PySem.Expr×Pos}(h:bE w F H A R (G_ J b D (.Compare q.1 [q.2.1] [q.2.2.1] q.2.2.2) O g q))(E:bF F H g s)(C:fI b D A c):aW (aE pw w) A c (PySem.isTrue (.Compare q.1 [q.2.1] [q.2.2.1] q.2.2.2) O<|PySem.eval (.Compare q.1 [q.2.1] [q.2.2.1] q.2.2.2) O) (λb P=>R (.ok<|.ret<|.bool b) P) (eo R) s:=by
 rw[vH h (λh=>qT h (λ_ h=>xX G B h E C) λf h=>anN G B f h E C) λz e h=>cV e λX K e=>cV e λi m e=>?_];obtain rfl:=dY e;obtain⟨l,d,r,S⟩:=q;obtain rfl:=HZ K;obtain rfl:=amd m;show aW (aE pw w) A c (PySem.isTrue (.Compare l [cond X .NotEq .Eq] [.List [] i] S) O _) _ _ s;rw[isTrue_Compare1,MO<|rfl];rw[hM<|mS (C2<|G B b D (.tree<|pD l O) g A c _ s (iE h) E C) (λv P L=>L.casesOn λT W k y j=>?_) λe P L=>L.casesOn λT W k y j=>gQ j];cases v with
 |ref a=>rw[(show xd (cond X .NotEq .Eq)=pU (cond X .NotEq .Eq) by cases X<;>rfl)▸(G (B.mono W) b D (.emp X a i S O) k A c R P j y C)]
 |_=>rw[gQ j]
def arD{e:PySem.Expr}{O:aX}(h:bE w F H A R (RA J b D O g e))(E:bF F H g s)(C:fI b D A c):aW (aE pw w) A c (PySem.isTrue e O<|PySem.eval e O) (λb P=>R (.ok<|.ret<|.bool b) P) (eo R) s:=by
 cases e with
 |UnaryOp d x S=>rw[qT h (λ_ h=>xX G B h E C) λe h=>?_];obtain rfl:=abh e;rw[hM<|mS (G B b D (.jP x O) g A c _ s (iE (A₁:=A) h) E C) (λv P L=>L.casesOn λT W i y z=>jH<|z _ y) λe P L=>L.casesOn λT W i y z=>z _ y]
 |BoolOp d k S=>rw[G B b D (.all d k O) g A c R s h E C]
 |Compare l a f p=>rw[vH h (λh=>xX G B h E C) λq e h=>?_];have I:=G9 e;rw[I]at h⊢;rw[U3 G B h E C]
 |_=>rw[xX G B h E C]
omit G in
def XY{ne:Bool}{a:aH}{i S:Pos}{O:aX}(h:bE w F H A R (HQ T ne a g))(E:bF F H g s)(C:fI b D A c):aW (aE pw w) A c (s8 [.ref a] (PySem.eval (.List [] i) O)>>=λv=>rK S>>=λ_=>operate [.ref a,v] (pU (cond ne .NotEq .Eq) (.ref a) v)>>=λx=>s8 [x]<|wf x) (λb P=>R (.ok<|.ret<|.bool b) P) (eo R) s:=by
 rw[C7 E B h λY I m z y=>on z λQ L z=>Bo (abg L) λd n sl G=>?_];subst G;have f:(A.under c).units<cLine:=by have:=C.1.2.2.1;show _<9900;rw[akE this]
 have l:(s.heap.push qP).get? s.heap.objs.size=some qP:=rU _ rfl;have o:(s.heap.push qP).get? a=some #[.type "list",d,.seq Q n,sl]:=kW _ m;rw[mT<|aT<|iw<|wpAny_List<|bK #[dw _,(aT<|E5<|aT<|wpAny_operating ?_)]];have r:∀v:Bool,v=cond ne ((not ((eX Q.size 0)))) (eX Q.size 0)->d_ (aE pw w) (A.under c) (s8 [.bool v]<|wf<|.bool v) (λb P=>R (.ok<|.ret<|.bool b) P) (eo R) {s with heap:=s.heap.push qP}:=by intro v X;subst X;rw[iw<|E6<|z _<|y.alloc rfl]
 have j:{s with heap:=s.heap.push qP}.heap.IsList a Q:=en _ o rfl #[n,rfl];have k:{s with heap:=s.heap.push qP}.heap.IsList s.heap.objs.size (List.toArray []):=en _ l rfl #[0,rfl];by_cases Z:Q.size=0
 .have t:=Z
  have p:eX Q.size 0=true:=by rw[Z,];rfl
  cases ne with
  |true=>rw[PySem.SeqAt.RcNeAt.lists (e:=λ_=>true) j k t f (λK q M=>absurd M<|qy _) _ _ _ _ (Z▸r _ (by rw[p,];rfl))]
  |false=>rw[PySem.SeqAt.RcAt.lists (e:=λ_=>true) j k t f (λK q M=>absurd M<|qy _) _ _ _ _ (Z▸r _ (by rw[p,];rfl))]
 .have t:(Q.size !=((List.toArray []):Array af).size)=true:=by simpa using Z
  have p:eX Q.size 0=false:=by
   cases u:eX Q.size 0
   .rfl
   .rw[absurd (m_ u) Z]
  cases ne with
  |true=>rw[PySem.SeqAt.RcNeAt.lists_lengths j k t f _ _ _ _ (r _ (by rw[p,];rfl))]
  |false=>rw[PySem.SeqAt.RcAt.lists_lengths j k t f _ _ _ _<|r _ (by rw[p,];rfl)]
def T5{op:PySem.BoolOp}{es:!PySem.Expr}{O:aX}(h:bE w F H A R (GS J b D op es O g))(E:bF F H g s)(C:fI b D A c):aW (aE pw w) A c (allTrue op es O) (λb P=>R (.ok<|.ret<|.bool b) P) (eo R) s:=by
 cases es with
 |nil=>cases op<;>rw[jH<|h _ E]
 |cons x Q=>
  rw[hM<|mS (G B b D (.jP x O) g A c _ s (iE h) E C) (λv P L=>L.casesOn λT W a y z=>xg y z λZ X m=>?_) λe P L=>L.casesOn λT W a y z=>z _ y]
  cases op<;>cases v
  .rw[jH<|X _ m]
  .rw[G (B.mono W) b D (.all .And Q O) Z A c _ P X m C]
  .rw[G (B.mono W) b D (.all .Or Q O) Z A c _ P X m C]
  .rw[jH<|X _ m]
section
variable{a7:Ctx} {p:Pos} (bs:bF F H g s) (K:fI b D A c) (bl:a7.code=c) (bo:a7.Below A)
include bs K bl bo
theorem HO{C:bj}{m:af}{O:aX}{k:PySem.Expr}(h:bE w F H A R (Bq J b D C m O k g)):eY (aE pw w) a7 ((PySem.eval k O>>=λx=>PySem.call (.builtin "list.append") [m,x]>>=λ_=>pure ())>>=λ_=>again C) (λr _ P=>mK pw w A R r P) (λ_ _ _=>False) p s:=by
 have u:=G B _ D (.tree<|AV k m O) g A c _ s (iE h) bs K a7 p bl bo;unfold AV at u;rw[<-Bw]at u;have d:eY (aE pw w) a7 (PySem.eval k O>>=λx=>PySem.call (.builtin "list.append") [m,x]>>=λ_=>again C) (λr _ P=>mK pw w A R r P) (λ_ _ _=>False) p s:=um u (λ_ _ _ f=>um f (λ_ _ _ L=>L.casesOn λa n S Q X=>#[X.1,X.2 _ Q]) λe q j L=>L.casesOn λa n S Q X=>gQ X) λe q j L=>L.casesOn λa n S Q X=>gQ X
 simp only[jx]at d⊢;rw[d]
theorem aro{C:bj}{m:af}{O:aX}{k t:PySem.Expr}(h:bE w F H A R (Rq J b D C m O k (some t) g)):eY (aE pw w) a7 ((forIn [t] true λc b=>if b=true then(PySem.isTrue c O (PySem.eval c O)>>=λok=>pure<|zu ok)else pure (zu b):bk Bool)>>=λok=>if ok=true then(PySem.eval k O>>=λx=>PySem.call (.builtin "list.append") [m,x]>>=λ_=>pure ())>>=λ_=>again C else again C) (λr _ P=>mK pw w A R r P) (λ_ _ _=>False) p s:=by
 simp only[zG,List.forIn_nil,if_true,jx];rw[iz _ a7 _ (λv o q L=>L.casesOn λn l U d a=>xg d a λj i f=>?_) (λe o q L=>L.casesOn λn l U d a=>gQ a) p s<|G B _ D (.jP t O) g A c _ s (iE h) bs K a7 p bl bo];cases v with
 |true=>rw[HO G (B.mono l) f K bl bo i]
 |false=>rw[#[i.1,i.2 _ f]]
end
def VW{e:PySem.Expr}{i:N}{it m:af}{O:aX}{T:N}{M:Mk}(h:bE w F H A R (AQ I J b D T M g<|.compLoop e i it m O))(E:bF F H g s)(C:fI b D A (.compLoop e i it m O)):gJ (aE pw w) A (.compLoop e i it m O) R s:=by
 rw[on h λq u h=>uo pw w A R s _ λj p d t=>?_];have a:=(G B _ D (.tree<|AW q.2.1 it O) g A (.compLoop e i it m O) _ s (iE h) E C) j p d t;unfold AW at a;rw[<-Ps,<-Ln,<-GV]at a;have Y:eY (aE pw w) j (compTurn e i it m O) (λr _ P=>mK pw w A R r P) (λ_ _ _=>False) p s:=by
  obtain⟨k,⟨a6,ac,U,c⟩,W⟩:=q;obtain⟨rfl,x,y,rfl⟩:=VR u;cases W with
  |none=>rw[Ea (X:=(PySem.eval k O>>=λx=>PySem.call (.builtin "list.append") [m,x]>>=λ_=>pure ())>>=λ_=>again _) (λe p s L=>L.casesOn λK n S Q l=>gQ l) a (λ_ _ L=>L.casesOn λK n S Q l=>l _ Q) λp s L=>L.casesOn λK n S Q l=>HO G (B.mono n) Q C d t l]
  |some W=>rw[Ea (X:=(forIn [W] true λZ b=>if b=true then(PySem.isTrue Z O (PySem.eval Z O)>>=λok=>pure<|zu ok)else pure (zu b))>>=λok=>if ok=true then(PySem.eval k O>>=λx=>PySem.call (.builtin "list.append") [m,x]>>=λ_=>pure ())>>=λ_=>again _ else again _) (λe p s L=>L.casesOn λK n S Q l=>gQ l) a (λ_ _ L=>L.casesOn λK n S Q l=>l _ Q) λp s L=>L.casesOn λK n S Q l=>aro G (B.mono n) Q C d t l]
 show eY _ j (if(Code.compLoop e i it m O).isFrame then(compTurn e i it m O).onRaise (xY O)else(compTurn e i it m O).onRaise (λx=>do tX x O;Rr x)) _ _ p s
 split<;>
 .simp only[Au]
  rw[iz _ j _ (λf o P z=>z) (λe o P z=>z.elim) p s Y]
def RH{C:bj}{k:!bO}{O:aX}(h:bE w F H A R ((J b D (.gU k O) g).bind λr S=>lI r (EY C S) λ_=>.bad))(E:bF F H g s)(a:fI b D A c):aW (aE pw w) A c (j7 k O>>=λf=>match f with
     |.next|.cont=>again C
     |.brk=>pure<|.done .next
     |.ret v=>pure<|.done<|.ret v) (mK pw w A R) (λ_ _=>False) s:=by
 rw[hM<|mS (G B _ _ (.gU k O) g A c _ s (iE h) E a) (λf U L=>L.casesOn λK n S Q Y=>?_) λe U L=>L.casesOn λK n S Q Y=>gQ Y];cases f with
 |next=>rw[jH #[Y.1,Y.2 _ Q]]
 |cont=>rw[jH #[Y.1,Y.2 _ Q]]
 |_=>rw[jH<|Y _ Q]
include bt
theorem Va{a6:bj}{bb:N}{M:Mk}(h:bE w F H A R (AQ I J b D bb M g a6))(E:bF F H g s)(C:fJ bb M A)(u:fI b D A a6):gJ (aE pw w) A a6 R s:=by
 have b0:bE w F H A R (J b D (.tree<|uY a6) g)->gJ (aE pw w) A a6 R s:=λh=>uo pw w A R s _ (by rw[Xn▸mS (G B _ _ (.tree<|uY a6) g A a6 R s h E u) Pg λ_ _ h=>h])
 cases a6 with
 |func k O=>
  rw[uo pw w A R s _ ?_];rw[hM<|mT<|wpAny_point<|hM λj p d a7=>?_];rw[Au,];rw[iz _ j _ (λf o P L=>L.casesOn λT W bl y bo=>?_) (λe o P L=>L.casesOn λT W bl y bo=>?_) p s<|G B _ _ (.gU k O) g A (.func k O) _ s (iE (A₁:=A) h) E u j p d a7]
  .cases f<;>rw[jH<|bo _ y]
  .have c:eY (aE pw w) j (xY O e>>=λ_=>(o6 i7:bk af)) _ _ o P:=bo P (A.under<|.func k O) y u.1 j o<|d▸a7.in
   simp only[jx]at c;rw[iz _ j _ (λ_ i U L=>L.casesOn λck q Z m ca=>ca _ m) (λ_ _ _ ac=>ac.elim) o P c]
 |whileLoop t k l O=>
  rw[uo pw w A R s _ ?_];have ch:aW (aE pw w) A (.whileLoop t k l O) (whileTurn t k l O) (mK pw w A R) (λ_ _=>False) s:=by
   show aW (aE pw w) A _ (PySem.isTrue t O (PySem.eval t O)>>=λv=>if v then(j7 k O>>=λf=>match f with
    |.next|.cont=>again<|.whileLoop t k l O
    |.brk=>pure<|.done .next
    |.ret v=>pure<|.done<|.ret v)else(j7 l O>>=λf=>pure<|.done f)) _ _ s
   rw[hM<|mS (G B _ _ (.jP t O) g A (.whileLoop t k l O) _ s (iE (A₁:=A) h) E u) (λv P L=>L.casesOn λT W bl y z=>xg y z λZ ac m=>?_) λe P L=>L.casesOn λT W bl y z=>gQ z];cases v with
   |true=>rw[RH G (B.mono W) ac m u]
   |false=>rw[hM<|mS (G (B.mono W) _ _ (.gU l O) Z A (.whileLoop t k l O) _ P (iE (A₁:=A) ac) m u) (λf U L=>L.casesOn λK n S Q Y=>jH<|Y _ Q) λe U L=>L.casesOn λK n S Q Y=>gQ Y]
  show aW (aE pw w) A _ ((whileTurn t k l O).onRaise (λx=>do tX x O;Rr x)) _ _ s;intro j p d a7;rw[Au,];rw[iz _ j _ (λf o P z=>z) (λe o P z=>z.elim) p s<|ch j p d a7]
 |forLoop a a8 k l O=>
  rw[uo pw w A R s _ λj p d a7=>?_];show eY _ j ((forTurn a a8 k l O).onRaise (λx=>do tX x O;Rr x)) _ _ p s;rw[Au,];have bs:=G B _ _ (.tree<|BI a a8 O) g A (.forLoop a a8 k l O) _ s (iE (A₁:=A) h) E u j p d a7;unfold BI at bs;rw[<-Ps,<-Ln,<-GV]at bs;rw[iz _ j _ (λf o P z=>z) (λe o P z=>z.elim) p s (?_:eY (aE pw w) j (forTurn a a8 k l O) (λr _ P=>mK pw w A R r P) (λ_ _ _=>False) p s)];exact Ea (aK:=again<|.block l O) (X:=j7 k O>>=λf=>match f with
    |.next|.cont=>again<|.forLoop a a8 k l O
    |.brk=>pure<|.done .next
    |.ret v=>pure<|.done<|.ret v) (λe p s L=>L.casesOn λK n S Q ac=>gQ ac) bs
   (λi U L=>L.casesOn λK n S Q ac=>#[aoZ _ _,G (B.mono n) _ M (.code<|.block l O) S A (.block l O) R U ac Q C]) λi U L=>L.casesOn λK n S Q ac=>RH G (B.mono n) ac Q u j i d a7
 |compLoop e c1 a8 c0 O=>rw[VW G B h E u]
 |builtin id args=>rw[ki h b0 λc2 h=>on h λp e h=>(bt _) _ _ _ _ p e (MT h).1 bb M A C (ik F w A R) R s (E.hints g.h 0) Pg λP y=>G B _ _ (.tree p.1) p.2.1 A (.builtin id args) R P (MT h).2 y u]
 |_=>rw[b0 h]
omit bt in
theorem Zc{a:aH}{args:kT}(h:bE w F H A R (H8 T J b D a args g))(E:bF F H g s)(C:fJ b D A):gJ (aE pw w) A (.call (.ref a) args) R s:=
 on h λY m h=>on h λp I h=>on h λ_ e h=>ry h λM h=>by
  rw[nT (Zx I) λK O c j=>?_];have X:=ng M;have d:=C.1;have f:=C.2.2.1;have u:fI (b-1) D.B1 A (.call (.ref a) args):=by
   rw[#[#[?_,C.2.1,?_,C.2.2.2],λ_=>rfl]]
   .rw[alO d<|bh X]
   .rw[alP f<|bh X]
  rw[anY (kv (b8 (oR _ _) d)<|ζ) (E.fr _ _<|B.top _ _ m) K O c j (Vc B E.fr e) B.M2<|Us▸(G B (b-1) D.B1 (.tree<|HW a p.1 p.2 args) g A (.call (.ref a) args) R s h E u)]
end
def aqB(c:∀F,uA I w F H)(g:wQ T J w H):wQ T (JB T w I J) w H:=λ{F} f b t K z A Z d s U E C=>by
 cases K with
 |tree D=>rw[arz g f U E C]
 |code p=>rw[ry U λY U=>Va c g f U E C<|T7 C Y]
 |loop p=>rw[g f b t (.code p) z A Z d s (xE (F0:=F) (λ{l} W m j U=>ry U λu U=>#[(congrFun Pv m).trans u,λk h=>g (f.mono W) b t (.loop m) j A Z d k U h C]) (λ_ _ x=>x) U) E C]
 |fn a n=>rw[Zc g f U E C]
 |gU B O=>rw[Uu g f U E C]
 |jP e O=>rw[arD g f U E C]
 |all op es O=>rw[T5 g f U E C]
 |emp X a i S O=>rw[XY f U E C]
def yN(c:∀F,uA I w F H)(n):wQ T (yM T w I n) w H:=by
 induction n with
 |zero=>exactλ_ _ _ _ _ _ _ _ _ U=>gQ U
 |succ n C=>rw[aqB c C]
def av.resume(o:av)(r:aL)(g:aR):av:=o.rec (λ_ _=>.bad) (λ_ _=>.bad) (λ_ _ _ _ j _=>j r g) (λ_ _ _ _ j _=>j r g) (λ_ _ x=>x) .bad
end
def hs(P:eH)(s:aA):Int:=if s.cps.isEmpty then 0 else reduceHash (P.strHash s.cps)
def vD:!bO->N->bO
 |[],_=>.Pass default
 |s::_,0=>s
 |_::l,i+1=>vD l i
def st(i:N):bO:=vD pw.main.body i
def gh(s:bO)(i:N):bO:=match s with
 |.ClassDef _ _ _ b _ _ _ _ _ _ _=>vD b i
 |_=>.Pass default
def fA(s:bO):Arguments:=match s with
 |.FunctionDef _ a _ _ _ _ _ _ _ _=>a
 |_=>#[[],[],none,[],[],none,[]]
def fB(s:bO):!bO:=match s with
 |.FunctionDef _ _ b _ _ _ _ _ _ _=>b
 |_=>[]
def fS(s:bO):Scope:=match s with
 |.FunctionDef _ _ _ _ _ _ a _ _ _=>a
 |_=>#[.function,[],false,false,[]]
def sF:N->N->!N->!N
 |0,_,l=>l
 |f+1,n,l=>match eX n 0 with
  |true=>l
  |false=>sF f (n/256) (n%256::l)
def sK(n:N):aA:=#[#[sF 99 n []]]
def dE(P:eH)(k:aA)(t:N)(v:af):bv:=#[hs P k,.str k t,v]
def dO(l:!bv)(n:N):Obj:=#[.type "dict",none,.dict #[l] n,#[[]]]
def kS(l:!N):aA:=#[#[l]]
def k0:=`__name__
def k1:=`builtins
def k2:=`__doc__
def k3:=`__package__
def k4:=`__loader__
def k5:=`__spec__
def k6:=`__build_class__
def k7:=`__import__
def k8:=`abs
def k9:=`all
def k10:=`any
def k11:=`ascii
def k12:=`bin
def k13:=`breakpoint
def k14:=`callable
def k15:=`chr
def k16:=`compile
def k17:=`delattr
def k18:=`dir
def k19:=`divmod
def k20:=kS [101,118,97,108]
def k21:=`exec
def k22:=`format
def k23:=`getattr
def k24:=`globals
def k25:=`hasattr
def k26:=`hash
def k27:=`hex
def k28:=`id
def k29:=`input
def k30:=`isinstance
def k31:=`issubclass
def k32:=`iter
def k33:=`aiter
def k34:=`len
def k35:=`locals
def k36:=`max
def k37:=`min
def k38:=`next
def k39:=`anext
def k40:=`oct
def k41:=`ord
def k42:=`pow
def k43:=`print
def k44:=`repr
def k45:=`round
def k46:=`setattr
def k47:=`sorted
def k48:=`sum
def k49:=`vars
def k50:=`None
def J8:=`Ellipsis
def J9:=`NotImplemented
def k53:=`False
def k54:=`True
def k55:=`bool
def k56:=`memoryview
def k57:=`bytearray
def k58:=`bytes
def k59:=`classmethod
def k60:=`complex
def k61:=`dict
def k62:=`enumerate
def k63:=`filter
def k64:=`float
def k65:=`frozenset
def k66:=`property
def k67:=`int
def k68:=`list
def k69:=`map
def k70:=`object
def k71:=`range
def k72:=`reversed
def k73:=`set
def k74:=`slice
def k75:=`staticmethod
def k76:=`str
def k77:=`super
def k78:=`tuple
def k79:=`type
def k80:=`zip
def k81:=`__debug__
def k82:=`BaseException
def k83:=`BaseExceptionGroup
def k84:=`Exception
def k85:=`GeneratorExit
def k86:=`KeyboardInterrupt
def k87:=`SystemExit
def k88:=`ArithmeticError
def k89:=`AssertionError
def k90:=`AttributeError
def k91:=`BufferError
def k92:=`EOFError
def k93:=`ImportError
def k94:=`LookupError
def k95:=`MemoryError
def k96:=`NameError
def k97:=`OSError
def k98:=`ReferenceError
def k99:=`RuntimeError
def abn:=`StopAsyncIteration
def abo:=`StopIteration
def abp:=`SyntaxError
def abq:=`SystemError
def abr:=`TypeError
def abt:=`ValueError
def abu:=`Warning
def abv:=`FloatingPointError
def abw:=`OverflowError
def abx:=`ZeroDivisionError
def abz:=`BytesWarning
def abA:=`DeprecationWarning
def abB:=`EncodingWarning
def abC:=`FutureWarning
def abD:=`ImportWarning
def abE:=`PendingDeprecationWarning
def abF:=`ResourceWarning
def abG:=`RuntimeWarning
def abH:=`SyntaxWarning
def abI:=`UnicodeWarning
def abK:=`UserWarning
def abL:=`BlockingIOError
def abM:=`ChildProcessError
def abN:=`ConnectionError
def abO:=`FileExistsError
def abP:=`FileNotFoundError
def abQ:=`InterruptedError
def abR:=`IsADirectoryError
def abS:=`NotADirectoryError
def abT:=`PermissionError
def abV:=`ProcessLookupError
def abW:=`TimeoutError
def abX:=`IndentationError
def abY:=`_IncompleteInputError
def abZ:=`IndexError
def ab0:=`KeyError
def ab1:=`ModuleNotFoundError
def ab2:=`NotImplementedError
def ab3:=`PythonFinalizationError
def ab4:=`RecursionError
def ab6:=`UnboundLocalError
def ab7:=`UnicodeError
def ab8:=`BrokenPipeError
def ab9:=`ConnectionAbortedError
def ab_:=`ConnectionRefusedError
def aca:=`ConnectionResetError
def acb:=`TabError
def acd:=`UnicodeDecodeError
def ace:=`UnicodeEncodeError
def acf:=`UnicodeTranslateError
def ach:=`ExceptionGroup
def aci:=`EnvironmentError
def acj:=`IOError
def ack:=kS [111,112,101,110]
def acl:=`quit
def acm:=`exit
def acn:=`copyright
def aco:=`credits
def acp:=`license
def acq:=`help
def act:=kS [105,109,112,111,114,116,46,108,111,97,100,101,100,46,95,99,111,108,108,101,99,116,105,111,110,115]
def acu:=`class._frozen_importlib.BuiltinImporter
def acv:=kS [119,97,116,99,104,101,100,46,105,109,112,111,114,116]
def acw:=`class._frozen_importlib.ModuleSpec
def acx:=kS [115,121,115,46,109,111,100,117,108,101,115,46,98,111,111,107,101,100,45,101,112,111,99,104]
def acy:=`sys.modules.landed._collections
def acz:=kS [105,109,112,111,114,116,46,108,97,116,101,114,45,108,97,105,100,46,95,99,111,108,108,101,99,116,105,111,110,115]
def acA:=`watched.library
def acB:=kS [119,97,116,99,104,101,100,46,108,105,98,114,97,114,121,45,111,98,106,101,99,116,115]
def acC:=kS [13]
def acE:=kS [119,97,116,99,104,101,100,46,108,105,98,114,97,114,121,45,100,101,101,112,46,95,99,111,108,108,101,99,116,105,111,110,115]
def acF:=kS [4,0,0,12,4,0,0,12,4,0,0,3,4,0,0,12,8,4,100,105,99,116,2]
def acG:=kS [116,121,112,101,46,95,95,115,117,98,99,108,97,115,115,101,115,95,95,46,79,83,69,114,114,111,114,46,48]
def acH:=`type.__subclasses__.OSError.n
def lD:=`law_oc0358_01
def acI:=`__annotations__
def acJ:=`__builtins__
def acK:=`__file__
def B7:=kS [47,99,108,97,105,109,47,99,117,116,46,112,121]
def acL:=`__cached__
def acN:=`deque
def JD:=`_wall
def qV:=`Int2AP
def JE:=`_NODE_OUT
def JF:=`_NODE_DONE
def tj:=`_NodeInfo
def mw:=`CycleError
def tx:=`TopologicalSorter
def JG:=`_whence
def tA:=`_index
def JH:=`UnsupportedOperation
def tB:=`IOBase
def JI:=`BufferedIOBase
def tC:=`TextIOBase
def tD:=`BytesIO
def tF:=`StringIO
def JJ:=`_kind
def JK:=`_fspath
def JL:=`_check_arg_types
def JM:=`isabs
def JN:=`join
def JO:=`dirname
def tG:=`shlex
def tH:=`_law_name
def qW:=`_law_ranges
def tI:=`_law_extra
def tJ:=`_law_spelled
def qX:=`_law_page
def qY:=`_law_rows
def tK:=`_law_cell
def qZ:=`_law_run
def q6:=`_law_due
def tM:=`law
def acR:=`cpy313.imaplib
def kJ:=`__init__
def JP:=`_NodeInfo.__init__
def kK:=`cpy313.graphlib
def q7:=`__module__
def q8:=`__firstlineno__
def acS:=`__slots__
def q9:=`__static_attributes__
def B8:=`node
def B9:=`npredecessors
def B_:=`successors
def xQ:=`__weakref__
def JQ:=`TopologicalSorter.__init__
def Ca:=`_get_nodeinfo
def JR:=`TopologicalSorter._get_nodeinfo
def Cb:=`add
def JS:=`TopologicalSorter.add
def Cc:=`prepare
def Cd:=`TopologicalSorter.prepare
def Ce:=`get_ready
def Cf:=`TopologicalSorter.get_ready
def Cg:=`is_active
def JT:=`TopologicalSorter.is_active
def Ch:=`done
def Ci:=`TopologicalSorter.done
def Cj:=`_find_cycle
def Ck:=`TopologicalSorter._find_cycle
def acW:=`__bool__
def acX:=`static_order
def Cm:=`__dict__
def pz:=`io
def Cn:=`__new__
def JU:=`IOBase.__new__
def bM:=kS []
def Co:=kS [10]
def JV:=`StringIO.__init__
def JW:=`__translated
def JX:=`StringIO.__translated
def JY:=`__check
def JZ:=`StringIO.__check
def Cp:=`read
def J1:=`StringIO.read
def acZ:=`_io
def ac0:=`_StringIO__translated
def ac1:=`_StringIO__check
def ac2:=`_StringIO__check_dot
def ac3:=`_StringIO__line
def ac5:=`closed
def ac6:=`line_buffering
def ac7:=`newlines
def ac8:=`encoding
def ac9:=`errors
def ac_:=`close
def ada:=`__enter__
def adb:=`__exit__
def adc:=`readable
def add:=`writable
def adf:=`seekable
def adg:=`isatty
def adh:=`flush
def adi:=`fileno
def adj:=`detach
def adk:=`getvalue
def adl:=`tell
def adm:=`seek
def adn:=`truncate
def ado:=`readline
def adq:=`readlines
def J3:=`__iter__
def J4:=`__next__
def ads:=`write
def adt:=`writelines
def adu:=`__repr__
def J5:=`shlex.__init__
def ve:=`cpy313.shlex
def xR:=`punctuation_chars
def J6:=`shlex.punctuation_chars
def Cq:=`get_token
def J7:=`shlex.get_token
def Cr:=`read_token
def Cs:=`shlex.read_token
def adw:=`push_token
def adx:=`push_source
def ady:=`pop_source
def adz:=`sourcehook
def adA:=`error_leader
def cA(v w:af)(a b:aA)(n:N)(l p q c:Int)(r s y:N):Obj:=#[.type "code",none,.fields #[[.str a n,.str b<|n+1,.str B7<|n+2,.int l 0,.int p 0,.int q 0,.int 0 0,.int c 0,.ref r,.bool true,.int 273 0,.ref<|r+1,.none,v,w,.ref s,.int (ad y) 0,.int l 0,.str B7<|y+1]],#[[]]]
def cO(a b:aA)(n:N)(l p q c:Int)(r y:N):Obj:=cA (.ref<|r+2) (.ref<|r+3) a b n l p q c r (r+4) y
def cP(a b:aA)(n:N)(l p q c:Int)(r y:N):Obj:=cA .none .none a b n l p q c r (r+2) y
def oF(a b:aA)(s:bO)(d:af)(m:aA)(t c:N):Obj:=#[.type "function",none,.func #[a,b,fA s,.stmts<|fB s,fS s,3,[],d,.none,.none,.str m t,none,.ref c,.none,0],#[[]]]
def o0(P:eH):Obj:=dO [dE P k0 1<|.str k1 160,dE P k2 2<|.builtin "builtins.__doc__:str#opaque",dE P k3 3<|.builtin "builtins.__package__:str#opaque",dE P k4 4<|.builtin "builtins.__loader__:shared#opaque",dE P k5 5<|.builtin "builtins.__spec__#opaque",dE P k6 6<|.builtin "__build_class__",dE P k7 7<|.builtin "__import__",dE P k8 8<|.builtin "abs",dE P k9 9<|.builtin "all",dE P k10 10<|.builtin "any",dE P k11 11<|.builtin "ascii",dE P k12 12<|.builtin "bin",dE P k13 13<|.builtin "breakpoint",dE P k14 14<|.builtin "callable",dE P k15 15<|.builtin "chr",dE P k16 16<|.builtin "compile",dE P k17 17<|.builtin "delattr",dE P k18 18<|.builtin "dir",dE P k19 19<|.builtin "divmod",dE P k20 20<|.builtin "eval",dE P k21 21<|.builtin "exec",dE P k22 22<|.builtin "format",dE P k23 23<|.builtin "getattr",dE P k24 24<|.builtin "globals",dE P k25 25<|.builtin "hasattr",dE P k26 26<|.builtin "hash",dE P k27 27<|.builtin "hex",dE P k28 28<|.builtin "id",dE P k29 29<|.builtin "input",dE P k30 30<|.builtin "isinstance",dE P k31 31<|.builtin "issubclass",dE P k32 32<|.builtin "iter",dE P k33 33<|.builtin "aiter",dE P k34 34<|.builtin "len",dE P k35 35<|.builtin "locals",dE P k36 36<|.builtin "max",dE P k37 37<|.builtin "min",dE P k38 38<|.builtin "next",dE P k39 39<|.builtin "anext",dE P k40 40<|.builtin "oct",dE P k41 41<|.builtin "ord",dE P k42 42<|.builtin "pow",dE P k43 43<|.builtin "print",dE P k44 44<|.builtin "repr",dE P k45 45<|.builtin "round",dE P k46 46<|.builtin "setattr",dE P k47 47<|.builtin "sorted",dE P k48 48<|.builtin "sum",dE P k49 49<|.builtin "vars",dE P k50 50 .none,#[hs P J8,.str J8 51,.ellipsis],#[hs P J9,.str J9 52,.notImplemented],dE P k53 53<|.bool false,dE P k54 54<|.bool true,dE P k55 55<|.type "bool",dE P k56 56<|.type "memoryview",dE P k57 57<|.type "bytearray",dE P k58 58<|.type "bytes",dE P k59 59<|.type "classmethod",dE P k60 60<|.type "complex",dE P k61 61<|.type "dict",dE P k62 62<|.type "enumerate",dE P k63 63<|.type "filter",dE P k64 64<|.type "float",dE P k65 65<|.type "frozenset",dE P k66 66<|.type "property",dE P k67 67<|.type "int",dE P k68 68<|.type "list",dE P k69 69<|.type "map",dE P k70 70<|.type "object",dE P k71 71<|.type "range",dE P k72 72<|.type "reversed",dE P k73 73<|.type "set",dE P k74 74<|.type "slice",dE P k75 75<|.type "staticmethod",dE P k76 76<|.type "str",dE P k77 77<|.type "super",dE P k78 78<|.type "tuple",dE P k79 79<|.type "type",dE P k80 80<|.type "zip",dE P k81 81<|.bool true,dE P k82 82<|.type "BaseException",dE P k83 83<|.type "BaseExceptionGroup",dE P k84 84<|.type "Exception",dE P k85 85<|.type "GeneratorExit",dE P k86 86<|.type "KeyboardInterrupt",dE P k87 87<|.type "SystemExit",dE P k88 88<|.type "ArithmeticError",dE P k89 89<|.type "AssertionError",dE P k90 90<|.type "AttributeError",dE P k91 91<|.type "BufferError",dE P k92 92<|.type "EOFError",dE P k93 93<|.type "ImportError",dE P k94 94<|.type "LookupError",dE P k95 95<|.type "MemoryError",dE P k96 96<|.type "NameError",dE P k97 97<|.type "OSError",dE P k98 98<|.type "ReferenceError",dE P k99 99<|.type "RuntimeError",dE P abn 100<|.type "StopAsyncIteration",dE P abo 101<|.type "StopIteration",dE P abp 102<|.type "SyntaxError",dE P abq 103<|.type "SystemError",dE P abr 104<|.type "TypeError",dE P abt 105<|.type "ValueError",dE P abu 106<|.type "Warning",dE P abv 107<|.type "FloatingPointError",dE P abw 108<|.type "OverflowError",dE P abx 109<|.type "ZeroDivisionError",dE P abz 110<|.type "BytesWarning",dE P abA 111<|.type "DeprecationWarning",dE P abB 112<|.type "EncodingWarning",dE P abC 113<|.type "FutureWarning",dE P abD 114<|.type "ImportWarning",dE P abE 115<|.type "PendingDeprecationWarning",dE P abF 116<|.type "ResourceWarning",dE P abG 117<|.type "RuntimeWarning",dE P abH 118<|.type "SyntaxWarning",dE P abI 119<|.type "UnicodeWarning",dE P abK 120<|.type "UserWarning",dE P abL 121<|.type "BlockingIOError",dE P abM 122<|.type "ChildProcessError",dE P abN 123<|.type "ConnectionError",dE P abO 124<|.type "FileExistsError",dE P abP 125<|.type "FileNotFoundError",dE P abQ 126<|.type "InterruptedError",dE P abR 127<|.type "IsADirectoryError",dE P abS 128<|.type "NotADirectoryError",dE P abT 129<|.type "PermissionError",dE P abV 130<|.type "ProcessLookupError",dE P abW 131<|.type "TimeoutError",dE P abX 132<|.type "IndentationError",dE P abY 133<|.type "_IncompleteInputError",dE P abZ 134<|.type "IndexError",dE P ab0 135<|.type "KeyError",dE P ab1 136<|.type "ModuleNotFoundError",dE P ab2 137<|.type "NotImplementedError",dE P ab3 138<|.type "PythonFinalizationError",dE P ab4 139<|.type "RecursionError",dE P ab6 140<|.type "UnboundLocalError",dE P ab7 141<|.type "UnicodeError",dE P ab8 142<|.type "BrokenPipeError",dE P ab9 143<|.type "ConnectionAbortedError",dE P ab_ 144<|.type "ConnectionRefusedError",dE P aca 145<|.type "ConnectionResetError",dE P acb 146<|.type "TabError",dE P acd 147<|.type "UnicodeDecodeError",dE P ace 148<|.type "UnicodeEncodeError",dE P acf 149<|.type "UnicodeTranslateError",dE P ach 150<|.type "ExceptionGroup",dE P aci 151<|.type "OSError",dE P acj 152<|.type "OSError",dE P ack 153<|.builtin "open",dE P acl 154<|.builtin "builtins.quit#opaque",dE P acm 155<|.builtin "builtins.exit#opaque",dE P acn 156<|.builtin "builtins.copyright#opaque",dE P aco 157<|.builtin "builtins.credits#opaque",dE P acp 158<|.builtin "builtins.license#opaque",dE P acq 159<|.builtin "builtins.help#opaque"] 159
def o2(P:eH):Obj:=#[.none,none,.dict #[[dE P act 185<|.bool true,dE P acu 187<|.ref 15,dE P acv 208<|.ref 19,dE P acw 218<|.ref 23,dE P acx 247<|.int 3 0,dE P acy 248<|.bool true,dE P acz 263<|.bool true,dE P acA 265<|.ref 28,dE P acB 0<|.str acC 0,dE P acE 266<|.str acF 0,dE P acG 516<|.int 190 0,dE P acH 517<|.int 1 0]] 12,#[[]]]
def o3(P:eH):Obj:=dO [dE P k0 165<|.str lD 1336,dE P k2 166 .none,dE P k3 167 .none,dE P k4 168<|.builtin "__main__.__loader__#opaque",dE P k5 169 .none,dE P acI 170<|.ref 6,dE P acJ 171<|.ref 4,dE P acK 173<|.str B7 172,dE P acL 174 .none,dE P acN 272<|.type "collections.deque",dE P JD 285<|.ref 39,dE P qV 297<|.ref 46,dE P JE 302<|.int (-1) 301,dE P JF 305<|.int (-2) 304,dE P tj 342<|.ref 65,dE P mw 360<|.ref 80,dE P tx 479<|.ref 162,dE P JG 489<|.ref 173,dE P tA 497<|.ref 180,dE P JH 519<|.ref 190,dE P tB 551<|.ref 210,dE P JI 569<|.ref 225,dE P tC 587<|.ref 237,dE P tD 849<|.ref 467,dE P tF 1136<|.ref 714,dE P JJ 1147<|.ref 723,dE P JK 1156<|.ref 730,dE P JL 1166<|.ref 737,dE P JM 1173<|.ref 744,dE P JN 1184<|.ref 751,dE P JO 1194<|.ref 758,dE P tG 1335<|.ref 849,dE P tH 1345<|.ref 860,dE P qW 1358<|.ref 867,dE P tI 1367<|.ref 874,dE P tJ 1375<|.ref 881,dE P qX 1381<|.ref 886,dE P qY 1391<|.ref 893,dE P tK 1397<|.ref 898,dE P qZ 1403<|.ref 903,dE P q6 1409<|.ref 908,dE P tM 1415<|.ref 913] 42
def o45:Obj:=cO qV qV 288 6 1 0 3 40 295
def o46:Obj:=oF qV qV (st 3) .none acR 286 45
def o60:Obj:=cO kJ JP 322 20 2 0 3 55 327
def o61:Obj:=oF kJ JP (gh (st 7) 1) .none kK 298 60
def o64(P:eH):Obj:=dO [dE P q7 313<|.str kK 298,dE P q8 317<|.int 17 316,dE P acS 321<|.ref 54,dE P kJ 329<|.ref 61,dE P q9 333<|.ref 62,dE P B8 335<|.ref 66,dE P B9 337<|.ref 67,dE P B_ 339<|.ref 68,dE P k2 340 .none] 5
def o65:Obj:=#[.type "type",none,.cls #[tj,[.type "object"],[.ref 65,.type "object"],64,tj,false,[B8,B9,B_],[],false,none,false],#[[none,none,some<|.str tj 306,some<|.str tj 314,some<|.builtin "object.__new__",some<|.bool false]]]
def o66:Obj:=#[(.type "member_descriptor"),none,.fields #[[.str B8 334,.ref 65,(.builtin "proto.slot"),(.builtin "proto.slot#set"),.int 2 0]],#[[]]]
def o67:Obj:=#[(.type "member_descriptor"),none,.fields #[[.str B9 336,.ref 65,(.builtin "proto.slot"),(.builtin "proto.slot#set"),.int 1 0]],#[[]]]
def o68:Obj:=#[(.type "member_descriptor"),none,.fields #[[.str B_ 338,.ref 65,(.builtin "proto.slot"),(.builtin "proto.slot#set"),.int 0 0]],#[[]]]
def o79(P:eH):Obj:=dO [dE P q7 350<|.str kK 298,dE P q8 354<|.int 24 353,dE P q9 355<|.ref 78,dE P xQ 357<|.ref 81,dE P k2 358 .none] 3
def o80:Obj:=#[.type "type",none,.cls #[mw,[.type "ValueError"],[.ref 80,.type "ValueError",.type "Exception",.type "BaseException",.type "object"],79,mw,true,[],[],false,none,false],#[[some<|.ref 71,none,some<|.str mw 343,some<|.str mw 351,some<|.builtin "ValueError.__new__",some<|.bool true]]]
def o91:Obj:=#[(.type "tuple"),none,.seq #[[.none]] 0,#[[]]]
def o97:Obj:=cO kJ JQ 373 28 2 0 3 92 380
def o98:Obj:=oF kJ JQ (gh (st 9) 0) (.ref 91) kK 298 97
def amk:Obj:=cO Ca JR 383 37 2 0 3 99 389
def aml:Obj:=oF Ca JR (gh (st 9) 1) .none kK 298 104
def amm:Obj:=cO Cb JS 392 42 2 0 7 106 401
def amn:Obj:=oF Cb JS (gh (st 9) 2) .none kK 298 111
def amo:Obj:=cP Cc Cd 404 51 1 0 3 113 407
def amp:Obj:=oF Cc Cd (gh (st 9) 3) .none kK 298 116
def amq:Obj:=cO Ce Cf 410 59 1 0 3 118 417
def amr:Obj:=oF Ce Cf (gh (st 9) 4) .none kK 298 123
def ams:Obj:=cO Cg JT 420 70 1 0 3 125 424
def amt:Obj:=oF Cg JT (gh (st 9) 5) .none kK 298 130
def amu:Obj:=cO Ch Ci 434 78 1 0 7 139 445
def amv:Obj:=oF Ch Ci (gh (st 9) 7) .none kK 298 144
def amw:Obj:=cO Cj Ck 448 101 1 0 3 146 458
def amx:Obj:=oF Cj Ck (gh (st 9) 8) .none kK 298 151
def amy(P:eH):Obj:=dO [dE P q7 368<|.str kK 298,dE P q8 372<|.int 26 371,dE P kJ 382<|.ref 98,dE P Ca 391<|.ref 105,dE P Cb 403<|.ref 112,dE P Cc 409<|.ref 117,dE P Ce 419<|.ref 124,dE P Cg 426<|.ref 131,dE P acW 433<|.ref 138,dE P Ch 447<|.ref 145,dE P Cj 460<|.ref 152,dE P acX 467<|.ref 159,dE P q9 472<|.ref 160,dE P Cm 474<|.ref 163,dE P xQ 476<|.ref 164,dE P k2 477 .none] 4
def amz:Obj:=#[.type "type",none,.cls #[tx,[.type "object"],[.ref 162,.type "object"],161,tx,true,[],[],false,none,false],#[[none,none,some<|.str tx 361,some<|.str tx 369,some<|.builtin "object.__new__",some<|.bool true]]]
def amA:Obj:=cO tA tA 490 138 2 0 3 174 495
def amB:Obj:=oF tA tA (st 12) .none pz 480 179
def amC:Obj:=cO Cn JU 534 150 1 1 15 201 540
def amD:Obj:=oF Cn JU (gh (st 14) 1) .none pz 480 206
def amE(P:eH):Obj:=dO [dE P q7 527<|.str pz 532,dE P q8 531<|.int 147 530,dE P Cn 542<|.ref 211,dE P q9 543<|.ref 208,dE P Cm 546<|.ref 212,dE P xQ 548<|.ref 213,dE P k2 549 .none] 4
def amF:Obj:=#[.type "type",none,.cls #[tB,[.type "object"],[.ref 210,.type "object"],209,tB,true,[],[.ref 225,.ref 237],false,none,false],#[[none,none,some<|.str tB 520,some<|.str tB 528,some .none,some<|.bool true]]]
def amG:Obj:=#[(.type "staticmethod"),none,.fields #[[.ref 207]],#[[]]]
def amH(P:eH):Obj:=dO [dE P q7 577<|.str pz 582,dE P q8 581<|.int 156 580,dE P q9 584<|.ref 235,dE P k2 585 .none] 2
def amI:Obj:=#[.type "type",none,.cls #[tC,[.ref 210],[.ref 237,.ref 210,.type "object"],236,tC,true,[],[.ref 714],false,none,false],#[[some<|.ref 228,none,some<|.str tC 570,some<|.str tC 578,some .none,some<|.bool true]]]
def amL:Obj:=#[.type "type",none,.cls #[tD,[.ref 225],[.ref 467,.ref 225,.ref 210,.type "object"],466,tD,true,[],[],false,none,false],#[[some<|.ref 240,none,some<|.str tD 588,some<|.str tD 596,some .none,some<|.bool true]]]
def amM:Obj:=#[(.type "tuple"),none,.seq #[[.str bM 864,.str Co 865]] 0,#[[]]]
def amN:Obj:=cO kJ JV 866 331 3 0 3 478 872
def amO:Obj:=oF kJ JV (gh (st 18) 1) (.ref 477) pz 480 483
def amP:Obj:=cO JW JX 875 344 2 0 3 485 881
def amQ:Obj:=oF JW JX (gh (st 18) 2) .none pz 480 490
def amR:Obj:=cO JY JZ 884 352 1 0 3 492 888
def amS:Obj:=oF JY JZ (gh (st 18) 3) .none pz 480 497
def amX:Obj:=#[(.type "tuple"),none,.seq #[[(.int (-1) 1057)]] 0,#[[]]]
def amY:Obj:=cO Cp J1 1058 474 2 2 3 654 1065
def am0:Obj:=oF Cp J1 (gh (st 18) 25) (.ref 653) pz 480 659
def am3(P:eH):Obj:=dO [dE P q7 857<|.str acZ 862,dE P q8 861<|.int 328 860,dE P kJ 874<|.ref 484,dE P ac0 883<|.ref 491,dE P ac1 890<|.ref 498,dE P ac2 897<|.ref 505,dE P ac3 912<|.ref 512,dE P ac5 920<|.ref 520,dE P ac6 928<|.ref 528,dE P ac7 936<|.ref 536,dE P ac8 944<|.ref 544,dE P ac9 952<|.ref 552,dE P ac_ 959<|.ref 559,dE P ada 966<|.ref 566,dE P adb 974<|.ref 573,dE P adc 981<|.ref 580,dE P add 988<|.ref 587,dE P adf 995<|.ref 594,dE P adg 1002<|.ref 601,dE P adh 1009<|.ref 608,dE P adi 1016<|.ref 615,dE P adj 1023<|.ref 622,dE P adk 1030<|.ref 629,dE P adl 1037<|.ref 636,dE P adm 1047<|.ref 644,dE P adn 1055<|.ref 652,dE P Cp 1067<|.ref 660,dE P ado 1077<|.ref 668,dE P adq 1087<|.ref 676,dE P J3 1094<|.ref 683,dE P J4 1102<|.ref 690,dE P ads 1114<|.ref 697,dE P adt 1122<|.ref 704,dE P adu 1129<|.ref 711,dE P q9 1133<|.ref 712,dE P k2 1134 .none] 2
def am4:Obj:=#[.type "type",none,.cls #[tF,[.ref 237],[.ref 714,.ref 237,.ref 210,.type "object"],713,tF,true,[],[],false,none,false],#[[some<|.ref 470,none,some<|.str tF 850,some<|.str tF 858,some .none,some<|.bool true]]]
def am5:Obj:=#[(.type "tuple"),none,.seq #[[.none,.none,(.bool false),(.bool false)]] 0,#[[]]]
def am6:Obj:=cO kJ J5 1209 599 5 0 3 767 1218
def am7:Obj:=oF kJ J5 (gh (st 27) 0) (.ref 766) ve 1195 772
def am8:Obj:=cO xR J6 1221 640 1 0 3 774 1225
def am9:Obj:=oF xR J6 (gh (st 27) 1) .none ve 1195 779
def am_:Obj:=#[(.type "property"),none,.fields #[[.ref 780,.none,.none,.none,.str xR 1228,(.bool false)]],#[[]]]
def anc:Obj:=cO Cq J7 1253 667 1 0 3 804 1262
def ane:Obj:=oF Cq J7 (gh (st 27) 5) .none ve 1195 809
def anf:Obj:=cO Cr Cs 1265 694 1 0 3 811 1273
def ang:Obj:=oF Cr Cs (gh (st 27) 6) .none ve 1195 816
def anh(P:eH):Obj:=dO [dE P q7 1204<|.str ve 1195,dE P q8 1208<|.int 597 1207,dE P kJ 1220<|.ref 773,dE P xR 1228<|.ref 781,dE P adw 1236<|.ref 788,dE P adx 1245<|.ref 796,dE P ady 1252<|.ref 803,dE P Cq 1264<|.ref 810,dE P Cr 1275<|.ref 817,dE P adz 1283<|.ref 824,dE P adA 1292<|.ref 832,dE P J3 1299<|.ref 839,dE P J4 1307<|.ref 846,dE P q9 1328<|.ref 847,dE P Cm 1330<|.ref 850,dE P xQ 1332<|.ref 851,dE P k2 1333 .none] 4
def ani:Obj:=#[.type "type",none,.cls #[tG,[.type "object"],[.ref 849,.type "object"],848,tG,true,[],[],false,none,false],#[[none,none,some<|.str tG 1197,some<|.str tG 1205,some<|.builtin "object.__new__",some<|.bool true]]]
def anj:Obj:=cO tH tH 1338 850 2 0 3 854 1343
def ank:Obj:=oF tH tH (st 29) .none lD 1336 859
def anl:Obj:=cO qW qW 1346 852 1 0 3 861 1356
def anm:Obj:=oF qW qW (st 30) .none lD 1336 866
def ano:Obj:=cO tI tI 1359 864 2 0 3 868 1365
def anp:Obj:=oF tI tI (st 31) .none lD 1336 873
def anq:Obj:=cO tJ tJ 1368 869 2 0 3 875 1373
def anr:Obj:=oF tJ tJ (st 32) .none lD 1336 880
def ans:Obj:=cP qX qX 1376 877 3 0 3 882 1379
def ant:Obj:=oF qX qX (st 33) .none lD 1336 885
def anu:Obj:=cO qY qY 1382 897 1 0 3 887 1389
def anv:Obj:=oF qY qY (st 34) .none lD 1336 892
def anw:Obj:=cP tK tK 1392 908 2 0 3 894 1395
def anx:Obj:=oF tK tK (st 35) .none lD 1336 897
def anz:Obj:=cP qZ qZ 1398 917 1 0 3 899 1401
def anA:Obj:=oF qZ qZ (st 36) .none lD 1336 902
def anB:Obj:=cP q6 q6 1404 940 3 0 3 904 1407
def anC:Obj:=oF q6 q6 (st 37) .none lD 1336 907
def anE:Obj:=cP tM tM 1410 960 1 0 3 909 1413
def anF:Obj:=oF tM tM (st 38) .none lD 1336 912
def tE:KT:=.nil
def tN(a b:KT):KT:=.node none a b
def tR(b:KT):KT:=.node none .nil b
def tO(o:Obj)(a b:KT):KT:=.node (some o) a b
def tL(o:Obj):KT:=.node (some o) .nil .nil
def vg(P:eH):KT:=tO (o0 P) (tN (tO (o3 P) (tN (tR<|tN (tO (o79 P) tE<|tL amD)<|tL amm)<|tN (tN (tN (tR<|tR<|tL anA) tE) tE)<|tN (tN (tL amw) tE) tE)<|tN (tN (tN (tO o67 (tL amt) tE)<|tR<|tN (tR<|tL anm)<|tL amN)<|tN (tN (tR<|tN (tL amY) tE)<|tO amG tE<|tL amL)<|tN (tL amA) tE)<|tN (tN (tN (tN (tR<|tL am8)<|tR<|tL anB) tE)<|tR<|tR<|tL amQ)<|tN (tO o91 tE<|tN (tR<|tL anj) tE)<|tL amq)<|tN (tN (tN (tN (tO o65 (tR<|tR<|tL anw) tE)<|tO o97 (tL<|amy P) tE)<|tN (tN (tO amv tE<|tR<|tL anF)<|tO (amE P) (tR<|tL ani) tE)<|tN (tN (tR<|tL ang) tE)<|tN (tR<|tL anr)<|tL amR)<|tN (tN (tR<|tR<|tN (tL<|am3 P) tE)<|tO aml (tN (tR<|tL anc) tE)<|tN (tR<|tL ano) tE) tE)<|tN (tN (tN (tN (tN (tR<|tL am7) tE) tE) tE)<|tR<|tO amp tE<|tN (tR<|tL ans) tE)<|tN (tO o45 (tN (tN (tR<|tL am_)<|tN (tL amX) tE) tE)<|tR<|tL amI)<|tO o61 (tR<|tR<|tL amM)<|tR<|tN (tR<|tL anv) tE)<|tO (o2 P) (tN (tN (tN (tN (tL<|o64 P) tE)<|tN (tO o80 (tO amu tE<|tR<|tL anE)<|tN (tR<|tL<|anh P) tE)<|tO amn (tN (tR<|tL anf) tE)<|tN (tR<|tL anq) tE)<|tN (tR<|tL amk)<|tN (tN (tL amx) tE) tE)<|tN (tN (tN (tO o68 (tN (tR<|tL am6) tE) tE)<|tR<|tR<|tL amO)<|tN (tN (tR<|tN (tL am0) tE) tE)<|tO amo (tL amB) tE)<|tN (tN (tN (tN (tR<|tL am9)<|tR<|tL anC) tE)<|tR<|tL<|amH P)<|tO o60 (tR<|tN (tR<|tL ank) tE)<|tO amr tE<|tN (tR<|tL anu) tE)<|tN (tN (tN (tN (tO o66 (tO ams tE<|tR<|tL anx) tE)<|tO o98 (tL amz)<|tN (tR<|tL anl) tE)<|tN (tR<|tL amF)<|tR<|tR<|tL amS)<|tN (tN (tR<|tR<|tN (tL am4) tE)<|tN (tN (tR<|tL ane) tE)<|tN (tR<|tL anp)<|tL amP) tE)<|tN (tN (tN (tN (tR<|tR<|tL anz) tE) tE)<|tR<|tR<|tN (tR<|tL ant) tE)<|tN (tO o46 (tR<|tL amC) tE)<|tR<|tR<|tR<|tN (tL am5) tE
def T(P:eH)(a:N):Option Obj:=(vg P).get a
def ft(b1 i P:Bool)(f:String->Bool)(r:String):Bool:=
 match eX (PySem.W.S.codeS r) 10139888712337904147300001983332972444938612 with
 |true=>b1
 |false=>match eX (PySem.W.S.codeS r) 2510650655181157320538776789020469319833841985448949215332 with
  |true=>i
  |false=>match eX (PySem.W.S.codeS r) 2128753998966767838836 with
   |true=>P
   |false=>f r
def W(w:eI)(b1 i P:Bool):eI:={w with params:={w.params with followText:=ft b1 i P w.params.followText}}
def U7:PySem.code "special-get-raises"=10139888712337904147300001983332972444938612:=by decide+kernel
def U8:PySem.code "comprehension-iter-twice"=2510650655181157320538776789020469319833841985448949215332:=by decide+kernel
def U9:PySem.code "set-order"=2128753998966767838836:=by decide+kernel
set_option tactic.hygienic true in
def TI(w):W w (w.params.followText "special-get-raises") (w.params.followText "comprehension-iter-twice") (w.params.followText "set-order")=w:=by
 have e:ft (w.params.followText "special-get-raises") (w.params.followText "comprehension-iter-twice") (w.params.followText "set-order") w.params.followText=w.params.followText:=by
  funext r;unfold ft;split
  .rename_i U
   have:=AS r "special-get-raises" (by simp only[PySem.W.S.code_S,U7];rw[m_ U]);simp only[this]
  .split
   .rename_i U
    have:=AS r "comprehension-iter-twice" (by simp only[PySem.W.S.code_S,U8];rw[m_ U]);simp only[this]
   .split
    .rename_i U
     have:=AS r "set-order" (by simp only[PySem.W.S.code_S,U9];rw[m_ U]);simp only[this]
    .rfl
 unfold W;rw[e,]
def sH:KT->N->N->Frag
 |.nil,_,_=>[]
 |.node v l r,s,b=>(match v with
  |some Y=>[(b,Y)]
  |none=>[])++(sH l (2*s) (s+b)++sH r (2*s) (2*s+b))
def BX:∀{t s b},(∀p∈sH t s b,h.get? p.1=some p.2)->KT.Holds h s b t
 |.nil,_,_,_=>trivial
 |.node v l r,s,b,g=>by rw[#[λY e=>?_,BX λp I=>g p<|dX _<|fZ _ I,BX λp I=>g p<|dX _<|dX _ I]];subst e;rw[g (b,Y)<|fZ _<|.head _]
def Ru:!N:=[0,3,79,207,111,903,151,67,131,867,483,659,211,467,179,779,907,491,91,859,123,65,897,97,161,145,913,209,849,817,881,497,713,105,809,873,773,117,885,45,781,653,237,61,477,893,2,64,80,144,912,848,112,816,880,104,152,68,772,484,660,116,180,780,908,236,60,860,124,892,66,130,898,98,162,866,210,498,714,810,874,490,902,886,46,206,766]
def aru(P):Ru=(sH (vg P) 1 0).map (·.1):=by kernel_rfl
def vE(s:aN):!(Option Obj)×Bool:=(Ru.map s.heap.get?,(s.heap.get? 1).isSome)
def y5(w:eI):!(Option Obj)×Bool:=((sH (vg w.params) 1 0).map λp=>some p.2,true)
def anI(e:vE s=y5 w):(∀a o,T w.params a=some o->s.heap.get? a=some o)/\∃o,s.heap.get? 1=some o:=by
 rw[ct (oZ e) λK O=>#[λa o U=>?_,uL.mp O]];rw[aru w.params]at K;have A:=allIn_of K;have g:KT.Holds s.heap 1 0 (vg w.params):=BX λp I=>by
  clear U K O e;generalize sH (vg w.params) 1 0=h at A I;induction h with
  |nil=>cases I
  |cons q h C=>
   rcases aY.mp I with rfl|I
   .rw[A.1]
   .rw[C A.2 I]
 rw[kt_at g U]
def EW:!Obj->N->BT->Option BT
 |[],_,i=>some i
 |Y::os,n,i=>match((i.ins n Y).get n).isSome with
  |true=>EW os (n+1)<|i.ins n Y
  |false=>none
def arp:∀{os n T R},EW os n T=some R->∀i,R.get i=if n<=i/\i<n+os.length then os[i-n]?else T.get i:=by
 intro J;induction J with
 |nil=>intro n T R U i;cases U;rw[if_neg<|by simp,]
 |cons Y os C=>
  intro n T R U i
  conv at U=>lhs;whnf
  cases e:((T.ins n Y).get n).isSome with
  |false=>rw[e]at U;cases U
  |true=>
   rw[e]at U;rw[(C U i)▸(BT.get_ins Y T n e i)▸dM▸?_];rcases zP i n with q|q|q
   .rw[if_neg λU=>Nat.lt_asymm q U.1,if_neg<|lZ q,if_neg λU=>qx.mpr q U.1]
   .subst q
    rw[if_neg λU=>ni _ U.1,if_pos rfl,if_pos #[d7 _,Nat.lt_add_of_pos_right<|sr _],Nat.sub_self];rfl
   .by_cases M:i<n+1+os.length
    .rw[if_pos #[q,M],if_pos #[iJ q,FV n os.length 1▸M],show i-n=(i-(n+1))+1 from(Nat.succ_pred_eq_of_pos<|zT q).symm,List.getElem?_cons_succ]
    .rw[if_neg<|aix M,if_neg<|aiy q,if_neg<|aiz M]
def vj(s:aN):Option sB:=(EW s.heap.objs.toList 0 .nil).map λi=>#[i,s.heap.objs.size,s.heap.life,s.gens,s.drawn,s.toks,s.os]
def Lq(h:vj s=some r):r.abs=s:=by
 rw[aJ (zW.mp h) λd f P=>?_];subst P;obtain⟨⟨b,a⟩,g,c,j,o⟩:=s;have e:absHeap d b.size a=#[b,a]:=by
  have:(absHeap d b.size a).objs=b:=by
   rw[Array.ext_getElem? λi=>?_];rw[absHeap_at,];by_cases q:i<b.size
   .rw[if_pos q,(arp f) i,if_pos #[dw _,by rw[aiA q]],Nat.sub_zero,Se,zj q];rfl
   .rw[if_neg q,Array.getElem?_eq_none<|aiB q]
  show(#[(absHeap d b.size a).objs,a]:ix)=_;rw[this,]
 show(#[absHeap d b.size a,g,c,j,o]:aN)=_;rw[e,]
abbrev uT:=sB->sC->Option (sB×sC)
def xJ(st:uT):N->sB->sC->Option sB
 |0,_,_=>none
 |n+1,s,D=>match D.atExitBegin with
  |some []=>some s
  |some (_::_)=>none
  |none=>match st s D with
   |some (P,i)=>xJ st n P i
   |none=>none
def aaX:∀{n s r t},xJ (pZ (nP D) p w) n s t=some r->importEnds D p w n s.abs t=some r.abs:=by
 intro J;induction J with
 |zero=>intro _ _ _ U;cases U
 |succ n C=>
  intro s r t U
  conv at U=>lhs;whnf
  simp only[importEnds];cases W:t.atExitBegin with
  |some l=>rw[W]at U;cases l with
   |nil=>cases U;rfl
   |cons a l=>cases U
  |none=>
   rw[W]at U;cases o:pZ (nP D) p w s t with
   |none=>rw[o]at U;cases U
   |some x=>rw[x.casesOn λP i=>?_];rw[o]at U;rw[(stepT_spec o)▸C U]
def yZ(ok:sC->Bool)(st:uT):N->sB->sC->Option sB
 |0,_,_=>none
 |n+1,s,D=>match through D with
  |true=>some s
  |false=>match ok D with
   |false=>none
   |true=>match st s D with
    |some (P,i)=>yZ ok st n P i
    |none=>none
def art:∀{n s r t},yZ (stepOk G D) (pZ (nP K) p w) n s t=some r->topRun K p w G D n s.abs t=some r.abs:=by
 intro J;induction J with
 |zero=>intro _ _ _ U;cases U
 |succ n C=>
  intro s r t U
  conv at U=>lhs;whnf
  simp only[topRun];cases W:through t with
  |true=>rw[W]at U;cases U;rfl
  |false=>
   simp only[W]at U;cases c:stepOk G D t with
   |false=>rw[c]at U;cases U
   |true=>
    rw[c]at U;cases o:pZ (nP K) p w s t with
    |none=>rw[o]at U;cases U
    |some x=>rw[x.casesOn λP i=>?_];rw[o]at U;rw[(stepT_spec o)▸C U]
structure Fp (α:Type)where
 imp:uT
 top:uT
 ok:N->Option af->sC->Bool
 fence:aN->Option aN
 look:aN->aN->Option α
def xr{n:Type}(f:Fp n)(p:qD)(aK:N):Option n:=
 match vj (start<|oq p).1 with
 |none=>none
 |some z=>match xJ f.imp aK z (start<|oq p).2 with
  |none=>none
  |some a=>match f.fence a.abs with
   |none=>none
   |some m=>match m.heap.isNs vr&&m.gens.size==0 with
    |false=>none
    |true=>match vj m with
     |none=>none
     |some k=>match yZ (f.ok m.heap.objs.size<|m.heap.nsMap vr "__annotations__") f.top aK k (topStub p)with
      |none=>none
      |some b=>f.look m b.abs
def Ly{t:Type}(p q:qD)(loose:!aA)(Xt:aN->Bool)(Yf:aN->t)(m a:aN):=
 match staticsOk (xK p.main.body) m.heap a.heap&&namesBound p a.heap&&gensDone a&&laidKept m.heap a.heap with
 |true=>some (openSeen q loose (xK p.main.body) Xt true a,Yf a)
 |false=>none
def X6{t:Type}{Yf:aN->t}{r}(h:xr #[pZ (nP oA) (oq p) w,pZ (nP oA) p w,stepOk,BF p,Ly p q loose Xt Yf] p aK=some r):(openEnds oA p w aK).map (λs=>(openSeen q loose (xK p.main.body) Xt true s,Yf s))=some r:=by
 simp only[xr]at h;cases c:vj (start (oq p)).1 with
 |none=>rw[c]at h;cases h
 |some z=>
  rw[c]at h;dsimp only at h;cases M:xJ (pZ (nP oA) (oq p) w) aK z (start (oq p)).2 with
  |none=>rw[M]at h;cases h
  |some a=>
   rw[M]at h;dsimp only at h;cases X:BF p a.abs with
   |none=>rw[X]at h;cases h
   |some m=>
    rw[X]at h;dsimp only at h;cases I:m.heap.isNs vr&&m.gens.size==0 with
    |false=>rw[I]at h;cases h
    |true=>
     rw[I]at h;dsimp only at h;cases Y:vj m with
     |none=>rw[Y]at h;cases h
     |some k=>
      rw[Y]at h;dsimp only at h;cases L:yZ (stepOk m.heap.objs.size (m.heap.nsMap vr "__annotations__")) (pZ (nP oA) p w) aK k (topStub p)with
      |none=>rw[L]at h;cases h
      |some b=>
       rw[L]at h;dsimp only at h;have g:importEnds oA (oq p) w aK (start<|oq p).1 (start<|oq p).2=some a.abs:=by have:=aaX M;rw[Lq c▸this]
       have Z:topRun oA p w m.heap.objs.size (m.heap.nsMap vr "__annotations__") aK m (topStub p)=some b.abs:=by have:=art L;rwa[Lq Y]at this
       unfold Ly at h;unfold openEnds fencedOpening;rw[g,];show((BF p a.abs).bind<|topFrom oA p w aK).map _=_;rw[X,];show(topFrom oA p w aK m).map _=_;unfold topFrom;rw[I,Z];show(match staticsOk (xK p.main.body) m.heap b.abs.heap&&namesBound p b.abs.heap&&gensDone b.abs&&laidKept m.heap b.abs.heap with|true=>some b.abs|false=>none).map _=_;split at h
       .rw[h]
       .rw[nn h]
section
open PySem PySem.W PySem.W.X PySem.Calls PyProof.Rows
abbrev lL:OpenLaw:=PySem.Challenge.rw_oc0358_01
def qv:qD:={pw with main:={pw.main with body:=[st 0,st 38]}}
def aov(s:bO):Pos:=match s with
 |.FunctionDef _ _ _ _ _ _ _ _ _ p=>p
 |_=>default
def Ct:aA:=#[#[[108,97,119]]]
def dL:DefRec:=#[Ct,fA<|st 38,fB<|st 38,fS<|st 38,aov<|st 38]
def Z1:defOf qv lL.row.name=some (dL,[]):=by kernel_rfl
def Z4:lL.row.prog.theDef lL.row.name=some (dL.params,dL.body,dL.scope):=by kernel_rfl
def Z2:kwWritten? dL.params.kwonlyargs dL.params.kw_defaults=some []:=by kernel_rfl
def Z3:(chainsOk qv&&opensWell lL.row.prog&&(frees lL.row.toRowW&&lL.row.toRowW.within.isEmpty))=true:=by kernel_rfl
def Z0:lL.row.prog.bare:=#[rfl,rfl,rfl,rfl,rfl,by decide+kernel]
end
def tQ:!aA:=[JD,qV,JE,JF,tj,mw,tx,JG,tA,JH,tB,JI,tC,tD,tF,JJ,JK,JL,JM,JN,JO,tG,tH,qW,tI,tJ,qX,qY,tK,qZ,q6]
abbrev zI:=type_of%(openGood qv tQ)
abbrev FU:=zI×(!(Option Obj)×Bool)
def afe(a:qD->!aA->!aA->(aN->Bool)->Bool->aN->zI)(d:!bO->!aA)(m b:aN):Option FU:=
 match staticsOk (d pw.main.body) m.heap b.heap&&namesBound pw b.heap&&gensDone b&&laidKept m.heap b.heap with
 |true=>some (a qv tQ (d pw.main.body) (λU=>true) true b,vE b)
 |false=>none
def BG(b:(String->Option fK)->bj->bk Fin)(c:String->Option fK)(e:(bj->bk Fin)->qD->eI->uT)(ok:N->Option af->sC->Bool)(f:qD->aN->Option aN)(a:qD->!aA->!aA->(aN->Bool)->Bool->aN->zI)(d:!bO->!aA)(w:eI):Fp FU:=#[e (b c) (oq pw) w,e (b c) pw w,ok,f pw,afe a d]
def aqV(w):xr (BG PySem.W.Fast.tw11892475500146522536 PySem.W.Fast.tw14364793385576792824 PySem.W.Fast.tw10156331382660048174 PySem.W.Fast.tw6613529449190102663 PySem.W.Fast.tw14289696077712309145 PySem.W.Fast.tw4187177175401517315 PySem.W.Fast.tw5923862056798008813 w) pw 8000=some (openGood qv tQ,y5 w):=by kernel_rfl
def aq1(w):BG nP oA pZ stepOk BF openSeen xK w=BG PySem.W.Fast.tw11892475500146522536 PySem.W.Fast.tw14364793385576792824 PySem.W.Fast.tw10156331382660048174 PySem.W.Fast.tw6613529449190102663 PySem.W.Fast.tw14289696077712309145 PySem.W.Fast.tw4187177175401517315 PySem.W.Fast.tw5923862056798008813 w:=by rw[PySem.W.Fast.te11892475500146522536,PySem.W.Fast.te14364793385576792824,PySem.W.Fast.te10156331382660048174,PySem.W.Fast.te6613529449190102663,PySem.W.Fast.te14289696077712309145,PySem.W.Fast.te4187177175401517315,PySem.W.Fast.te5923862056798008813]
def ae7:LeftO pw qv tQ (λU=>true) vE y5 8000:=λT=>X6 (p:=pw) (q:=qv) (loose:=tQ) (Xt:=λU=>true) (Yf:=vE)<|(congrArg (λf=>xr f pw 8000)<|aq1 T).trans<|aqV T
abbrev Ar:=String->kT->aR->Option (bk Fin×aR×!As)
def b9(f:Ar):Prop:=∀(T:eI) (o:aH->Obj->Prop) (m:aN),uA (λU=>f) T o m
def anX{id:String}(y:Bt table id=some b)(i:∀r P,Q r P->mK pw w A R r P)(h:aW (aE pw w) A (.builtin id args) (b args) Q (eo R) s):gJ (aE pw w) A (.builtin id args) R s:=by rw[uo pw w A R s _ ?_];show aW _ _ _ (match Bt table id with|some b=>b args|none=>unsupported<|(withoutEnding? id "#data").getD id) _ _ s;rw[y▸mS h i λU U h=>h]
abbrev yU:bk Fin:=PySem.W.Fast.tw17615448654315672387
def Q1:(Sm:bk Fin)=yU:=by show _=PySem.W.Fast.tw17615448654315672387;rw[<-PySem.W.Fast.te17615448654315672387]
def df(xs:Array af)(k:Int)(v:af):Prop:=xs[k.toNat]? =some v
def h_(xs:Array af)(k:Int):Prop:=xs[k.toNat]? =none
def eO(v:af):bk Fin:=.pure<|.done<|.ret v
def bF.upd{F:aH->Obj->Prop}{m:aN}{g:aR}{s:aN}(E:bF F m g s){j:N}{p:aH×Obj}{f:Obj->Obj}{o':Obj}(D:gN g.L j=some p)(e:f p.2=o')(B:o'.isFreed=false){a:aR} (Q:a.L=pT g.L j o')(w:a.n=g.n)(W:a.t=g.t)(R:a.O=g.O)(b:a.Y=g.Y:=by rfl):bF F m a {s with heap:=s.heap.update p.1 f}:=by subst e;have u:=E.update D B a.h;rw[#[u.fr,by rw[Q▸u.led],by rw[Q▸u.nd],by rw[Q▸u.dj],u.sz.trans w.symm,u.tk.trans W.symm,u.rest,by rw[R▸E.ro],by rw[Q▸b▸u.hy]]]
def bF.same{F:aH->Obj->Prop}{m:aN}{g:aR}{s:aN}(E:bF F m g s){a:aR}(Q:a.L=g.L)(w:a.n=g.n)(W:a.t=g.t)(R:a.O=g.O)(b:a.Y=g.Y:=by rfl):bF F m a s:=#[E.fr,by rw[Q▸E.led],by rw[Q▸E.nd],by rw[Q▸E.dj],E.sz.trans w.symm,E.tk.trans W.symm,E.rest,by rw[R▸E.ro],by rw[Q▸b▸E.hy]]
section
variable{w:eI} {A:dW} {c:bj} {Q:Fin->aN->Prop} {E:af->aN->Prop} {s:aN}
def ob{n t:Type}{m:bk n}{f:n->bk t}{Q:t->aN->Prop}(h:d_ (aE pw w) (A.under c) m (λa P=>aW (aE pw w) A c (f a) Q E P) E s):aW (aE pw w) A c (m>>=f) Q E s:=hM<|mT h
def apl(y:b=Builtin.«list_iterator.__next__»\/b=Builtin.«tuple_iterator.__next__»)(hi:s.heap.get? it=some #[D,d,.fields #[[.ref l,.int k tk]],K])(a:s.heap.get? l=some #[G,J,.seq xs n,U])(L:xs[k.toNat]? =some v)(h:aW (aE pw w) A c (.pure<|.done<|.ret v) Q E {s with heap:=s.heap.update it<|iW (·.setIfInBounds 1 (im<|k+1))}):aW (aE pw w) A c (b #[[.ref it],[]]) Q E s:=by
 rcases y with rfl|rfl<;>
 .show aW _ _ _ (field (.ref it) 0>>=_) _ _ s
  rw[ob<|jt hi rfl (x:=.ref l) rfl<|ob<|jt hi rfl (x:=.int k tk) rfl<|ob<|zg a rfl ?_];simp only[L];rw[ob<|p8 hi rfl (zO 1) h]
def apk(y:b=Builtin.«list_iterator.__next__»\/b=Builtin.«tuple_iterator.__next__»)(hi:s.heap.get? it=some #[D,d,.fields #[[.ref l,.int k tk]],K])(a:s.heap.get? l=some #[G,J,.seq xs n,U])(L:xs[k.toNat]? =none)(h:aW (aE pw w) A c (Sm:bk Fin) Q E {s with heap:=s.heap.update it<|iW (·.setIfInBounds 0 .none)}):aW (aE pw w) A c (b #[[.ref it],[]]) Q E s:=by
 rcases y with rfl|rfl<;>
 .show aW _ _ _ (field (.ref it) 0>>=_) _ _ s
  rw[ob<|jt hi rfl (x:=.ref l) rfl<|ob<|jt hi rfl (x:=.int k tk) rfl<|ob<|zg a rfl ?_];simp only[L];rw[ob<|oB<|ob<|p8 hi rfl (wK Nat.zero_lt_one<|oU 1) h]
end
def VE:PySem.code "slice"=439771360628:=by decide+kernel
def jM(v:af):Option (Option Int):=match v with
 |.none=>some none
 |.int j _=>some<|some j
 |_=>none
def abf(x:aA):Bool:=PySem.W.Fast.sEq x #[#[[97,115,99,105,105]]]
def zh:!N->!(aH×Obj)->!As
 |a::as,p::ps=>.adr a p.1::zh as ps
 |_,_=>[]
def EF:!(aH×Obj)->!Obj
 |[]=>[]
 |p::l=>p.2::EF l
def ET:N->!N->!N
 |0,_=>[]
 |_+1,[]=>[]
 |j+1,i::l=>i::ET j l
def HC:N->!N->!N
 |0,l=>l
 |_+1,[]=>[]
 |j+1,_::l=>HC j l
def Ap(h:ix):!aH->!Obj->Prop
 |a::as,o::os=>h.get? a=some o/\Ap h as os
 |_,_=>True
set_option tactic.hygienic true in
def RP{h:ix}(C:h.get? a=some o)(e:f o=o'):h.update a f=h.update a (λU=>o'):=by
 obtain⟨b,l⟩:=h;show(#[b.modify a f,l]:ix)=#[b.modify a λU=>o',l];congr 1;apply Array.ext
 .simp
 .intro i c M
  simp only[Sf,Sf];split
  .rename_i S
   subst S;have X:a<b.size:=by simpa using c
   have:=zj X;have O:b[a]=o:=by have:=this.symm.trans<|(Heap.get?_some_iff.mp C).1;rw[dY this]
   simp only[O,e]
  .rfl
section
variable{w:eI} {A:dW} {c:bj} {Q:Fin->aN->Prop} {E:af->aN->Prop} {s:aN}
def pM(C:s.heap.get? a=some o)(e:f o=o')(h:aW (aE pw w) A c (.update a none (λU=>o') k) Q E s):aW (aE pw w) A c (k ()) Q E {s with heap:=s.heap.update a f}:=λj p d t=>by have b:eY (aE pw w) j (updatePart a none (λU=>o')>>=k) (λa U P=>Q a P) (λe U P=>E e P) p s:=(h j p d t);simp only[jx]at b;rw[(RP C e)▸((Sem.wp_cmd_updatePart (aE pw w) j _ p s a none (λU=>o') _).mp b).2]
def OL(h:aW (aE pw w) A c (.alloc o k) Q E s):aW (aE pw w) A c (k s.heap.objs.size) Q E {s with heap:=s.heap.push o}:=λj p d t=>h j p d t
end
def C8(g:aR)(a:!N):Option (List<|aH×Obj):=a.rec (some []) λi U f=>oS (tP g i) λp=>oS f λl=>some (p::l)
def aff(E:bF F D g s):∀{b l as},C8 g b=some l->(∀p∈zh as l,p.ok)->Ap s.heap as (EF l):=by
 intro J;induction J with
 |nil=>
  intro l as U _
  cases U;cases as<;>trivial
 |cons i b C=>
  intro l as U d;exact cV U λp K U=>cV U λQ O U=>by
   have U:=dY U;subst U;cases as with
   |nil=>trivial
   |cons a as=>have e:=d (.adr a p.1)<|.head _;subst e;rw[⟨E.look K,C O λq u=>d q<|.tail _ u⟩]
inductive VP where
 |nil
 |v (p:VP)
 |r (p:VP)
 |i (p:VP)
 |s (p:VP)
 |b (p:VP)
 |y (p:VP)
 |n (p:VP)
 |asc (p:VP)
def CV(p:VP)(t:Type):Type:=p.rec t (λU i=>af->i) (λU i=>aH->i) (λU i=>Int->Tok->i) (λU i=>aA->Tok->i) (λU i=>Bool->i) (λU i=>Array UInt8->Tok->i) (λU i=>i) λU i=>i
def mV{t:Type}(p:VP):CV p t->!af->Option (t×!af):=VP.rec (motive:=λp=>CV p t->!af->Option (t×!af)) (λj l=>some (j,l)) (λp f j l=>oC l λv l=>f (j v) l) (λp f j l=>oC l λv l=>oS (vR v) λa=>f (j a) l) (λp f j l=>oC l λv l=>oS (vI v) λa=>f (j a.1 a.2) l) (λp f j l=>oC l λv l=>oS (vS v) λa=>f (j a.1 a.2) l) (λp f j l=>oC l λv l=>oS (vB v) λa=>f (j a) l) (λp f j l=>oC l λv l=>oS (vY v) λa=>f (j a.1 a.2) l) (λp f j l=>oC l λv l=>oT (vN v)<|f j l) (λp f j l=>oC l λv l=>oS (vS v) λa=>oT (abf a.1)<|f j l) p
def wz{t:Type}(p:VP):CV p t->(!af->t->Prop)->Prop:=VP.rec (motive:=λp=>CV p t->(!af->t->Prop)->Prop) (λj c=>c [] j) (λp f j c=>∀v,f (j v) λl=>c (v::l)) (λp f j c=>∀a,f (j a) λl=>c (.ref a::l)) (λp f j c=>∀i D,f (j i D) λl=>c (.int i D::l)) (λp f j c=>∀x D,f (j x D) λl=>c (.str x D::l)) (λp f j c=>∀b,f (j b) λl=>c (.bool b::l)) (λp f j c=>∀b D,f (j b D) λl=>c (.bytes b D::l)) (λp f j c=>f j λl=>c (.none::l)) (λp f j c=>∀D,f j λl=>c (.str #[#[[97,115,99,105,105]]] D::l)) p
def Is{t:Type}(M:!af->t->Prop)(l:!af)(z:t×!af):Prop:=∃r,l=r++z.2/\M r z.1
def Is.c{t:Type}{M:!af->t->Prop}{z:t×!af}{v q:af}{l Q:!af}(e:l=v::Q)(O:v=q)(h:Is (λl=>M (q::l)) Q z):Is M l z:=h.elim λr h=>bA (q::r) (e.trans<|O▸congrArg (v::·) h.1) h.2
def Dq{t:Type}{z:t×!af}(p):∀(k l M),mV p k l=some z->wz p k M->Is M l z:=VP.rec (λk l M U g=>bA [] (congrArg sx<|dY U)<|(congrArg z6<|dY U)▸g) (λp f k l M U g=>gq U λv Q e U=>.c e rfl<|f (k v) Q _ U<|g v) (λp f k l M U g=>gq U λv Q e U=>cV U λa O U=>.c e (E3 O)<|f (k a) Q _ U<|g a) (λp f k l M U g=>gq U λv Q e U=>cV U λa O U=>.c e (E2 O)<|f (k a.1 a.2) Q _ U<|g a.1 a.2) (λp f k l M U g=>gq U λv Q e U=>cV U λa O U=>.c e (wj O)<|f (k a.1 a.2) Q _ U<|g a.1 a.2) (λp f k l M U g=>gq U λv Q e U=>cV U λa O U=>.c e (ar5 O)<|f (k a) Q _ U<|g a) (λp f k l M U g=>gq U λv Q e U=>cV U λa O U=>.c e (ar6 O)<|f (k a.1 a.2) Q _ U<|g a.1 a.2) (λp f k l M U g=>gq U λv Q e U=>kh U λO U=>.c e (RR O)<|f k Q _ U g) (λp f k l M U g=>gq U λv Q e U=>cV U λa O U=>kh U λb U=>.c e ((wj O).trans<|congrArg (qH · a.2)<|PySem.W.Fast.sEq_iff.mp b)<|f k Q _ U<|g a.2) p
inductive OP where
 |nil
 |q (p:OP)
 |d (p:OP)
 |f (u:VP) (p:OP)
 |sl (p:OP)
def CO(p:OP)(t:Type):Type:=p.rec t (λU i=>af->Option aH->Array af->N->Array (Option af)->i) (λU i=>af->Option aH->!bv->N->Array (Option af)->i) (λL U i=>af->Option aH->CV L (Array (Option af)->i)) (λU i=>Option Int->Option Int->i)
def Qn{t:Type}(l:!af)(k:Option Int->Option Int->Option t):Option t:=oC l λR E=>oC E λS E=>oC E λv E=>oT (vN v)<|oE E<|oS (jM R) λR=>oS (jM S) λS=>k R S
def aqk{t:Type}{z:t}{k:Option Int->Option Int->Option t}{C:Prop}(h:Qn l k=some z)(c:∀m b R hi,l=[m,b,.none]->jM m=some R->jM b=some hi->k R hi=some z->C):C:=
 gq h λo u K h=>gq h λn H O h=>gq h λy s a h=>kh h λj h=>om h λI h=>cV h λR f h=>cV h λhi d h=>c o n R hi (K.trans<|O▸a▸I▸RR j▸rfl) f d h
def mO{t:Type}(p:OP):CO p t->!Obj->Option t:=OP.rec (motive:=λp=>CO p t->!Obj->Option t) (λj l=>oE l<|some j) (λp f j l=>oC l λY l=>oS (dQ Y.data) λa=>f (j Y.cls Y.dict a.1 a.2 Y.slots) l) (λp f j l=>oC l λY l=>oS (dD Y.data) λa=>f (j Y.cls Y.dict a.1.toList a.2 Y.slots) l) (λL p f j l=>oC l λY l=>oS (dF Y.data) λa=>oS (mV L (j Y.cls Y.dict) a.toList) λz=>oE z.2<|f (z.1 Y.slots) l) (λp f j l=>oC l λY l=>oT (qS Y.cls 439771360628)<|oS (dF Y.data) λa=>Qn a.toList λR S=>f (j R S) l) p
def Fc{t:Type}(p:OP):CO p t->(!Obj->t->Prop)->Prop:=OP.rec (motive:=λp=>CO p t->(!Obj->t->Prop)->Prop) (λj c=>c [] j) (λp f j c=>∀H d Q n sl,f (j H d Q n sl) λl=>c (#[H,d,.seq Q n,sl]::l)) (λp f j c=>∀H d k n sl,f (j H d k n sl) λl=>c (#[H,d,.dict #[k] n,sl]::l)) (λL p f j c=>∀H d,wz L (j H d) λJ j=>∀sl,f (j sl) λl=>c (#[H,d,.fields #[J],sl]::l)) (λp f j c=>∀d m b R S sl,jM m=some R->jM b=some S->f (j R S) λl=>c (#[.type "slice",d,.fields #[[m,b,.none]],sl]::l)) p
def Obj.e{o:Obj}{d:Data}(h:o.data=d):o=#[o.cls,o.dict,d,o.slots]:=h▸rfl
def xe{M:!Obj->Prop}(e:l=o::D)(O:o=o')(h:M (o'::D)):M l:=e▸O▸h
def als{t:Type}{z:t}(p):∀(k l M),mO p k l=some z->Fc p k M->M l z:=OP.rec (λk l M U g=>om U λe U=>e▸dY U▸g) (λp f k l M U g=>gq U λY Q e U=>cV U λa O U=>xe (M:=(M · z)) e (Obj.e<|Hv O)<|f _ Q (λl=>M (_::l)) U<|g _ _ _ _ _) (λp f k l M U g=>gq U λY Q e U=>cV U λa O U=>xe (M:=(M · z)) e (Obj.e<|Xe O)<|f _ Q (λl=>M (_::l)) U<|g _ _ _ _ _) (λL p f k l M U g=>gq U λY Q e U=>cV U λa O U=>cV U λy c U=>om U λj U=>(Dq L _ _ _ c<|g Y.cls Y.dict).elim λr q=>have I:=congrArg ar (q.1.trans<|j▸bQ r);xe (M:=(M · z)) e (Obj.e<|(AY O).trans<|congrArg Fl I) (f _ Q (λl=>M (_::l)) U<|q.2 Y.slots)) (λp f k l M U g=>gq U λY Q e U=>kh U λi U=>cV U λa O U=>aqk U λm b R S c j I U=>xe (M:=(M · z)) e ((Obj.e<|(AY O).trans<|congrArg (λl=>Fl #[l]) c).trans<|congrArg (λZ=>(#[Z,Y.dict,.fields #[_],Y.slots]:Obj))<|th i VE)<|f _ Q (λl=>M (_::l)) U<|g _ _ _ _ _ _ j I) p
structure qF where
 t:bk Fin
 as:!aH:=[]
 P:Prop:=True
 w:Option Obj:=none
def qF.st(z:qF)(s:aN):aN:=z.w.rec s λY=>z.as.rec s λa U U=>{s with heap:=s.heap.update a λU=>Y}
def wr(w:Option Obj)(as:!aH)(k:N)(g:aR):Option (List<|aH×Obj):=w.rec (some g.L) λY=>oC as λU U=>oC g.h λi U=>oT (zL i 1000&&(zL 0 k&& (not (Y.isFreed))))<|some<|pT g.L i Y
abbrev RF(a i:VP)(q:OP):Type:=CV a<|CV i<|CO q qF
def ruC(k:N)(l:!(aH×Obj))(gv:!af)(g:aR)(z:qF):Option (bk Fin×aR×!As):=oS (wr z.w z.as k g) λj=>some (z.t,{g with L:=j,h:=HC k g.h,gv:=gv},.Eb z.P::zh z.as l)
def ruB(k:N)(i:VP)(q:OP)(l:!(aH×Obj))(g:aR)(f:CV i (CO q qF)):Option (bk Fin×aR×!As):=oS (mV i f g.gv) λy=>oS (mO q y.1<|EF l)<|ruC k l y.2 g
def ruA(k:N)(a i:VP)(q:OP)(f:RF a i q)(S:!af)(g:aR):Option (bk Fin×aR×!As):=oS (C8 g<|ET k g.h) λl=>oS (mV a f S) λx=>oE x.2<|ruB k i q l g x.1
def cw(n k:N){a i:VP}{q:OP}(f:RF a i q)(id:String)(args:kT)(g:aR):Option (bk Fin×aR×!As):=oT (B5 id n)<|oE args.kw<|ruA k a i q f args.pos g
def Tp(b:fK)(S:!af)(os:!Obj)(z:qF):Prop:=z.P->∀(T:eI) (J:N) (t:Mk) (A:dW) (Z:bj) (h:Fin->aN->Prop) (w:af->aN->Prop) (s:aN),fJ J t A->Ap s.heap z.as os->
   aW (aE pw T) A Z z.t h w (z.st s)->aW (aE pw T) A Z (b #[S,[]]) h w s
def sy(b:fK)(a i:VP)(q:OP)(f:RF a i q):Prop:=wz a f λS f=>wz i f λU f=>Fc q f<|Tp b S
def asu{z:qF}(E:bF F K g s)(e:C8 g (ET k g.h)=some l)(d:∀p∈zh z.as l,p.ok)(h:wr z.w z.as k g=some G.L)(w:G.n=g.n)(W:G.t=g.t)(R:G.O=g.O)(b:G.Y=g.Y):bF F K G (z.st s):=by
 obtain⟨D,J,c,r⟩:=z;cases r with
 |none=>rw[E.same (dY h).symm w W R b]
 |some Y=>
  rw[gq h λa Z u h=>gq h λi o n h=>kh h λy I=>?_];subst u;rw[kp,kp]at y;rw[n]at e;cases k with
  |zero=>rw[oG y.2.1]
  |succ k=>
   rw[cV e λq f O=>cV O λH U m=>?_];have j:=dY m;subst j;have u:=d (.adr a q.1)<|.head _;subst u
   rw[E.upd ((by unfold tP;rw[y.1,]:tP g i=gN g.L i)▸f) rfl (by have z:=y.2.2;revert z;cases Y.isFreed<;>decide) (dY I).symm w W R b]
def cB{f:RF G U a6}(name b)(w:PySem.code name=n)(H:Bt table name=some b)(g:sy b G U a6 f):b9 (cw n k f):=λT o W _ id #[S,M] Q x e d J t A C h P s E i R=>by rw[kh e λO e=>om e λK e=>cV e λl F e=>cV e λD u e=>om e λB e=>cV e λy c e=>cV e λz a e=>cV e λj L e=>?_];obtain rfl:=dY e;obtain rfl:M=[]:=K;obtain rfl:=Jv O w;rw[anX H i<|(Dq G _ _ _ u g).elim λr q=>(Dq U _ _ _ c q.2).elim λ_ m=>?_];obtain rfl:S=r:=q.1.trans<|B▸bQ r;rw[als a6 _ _ _ a m.2 (d _<|.head _) T J t A _ h _ s C (aff E F λp I=>d p<|.tail _ I)<|R _<|asu E F (λp I=>d p<|.tail _ I) L rfl rfl rfl rfl]
abbrev MV:!af->bk af:=PySem.W.Fast.tw6357449854754888395
def amc:newTuple=MV:=PySem.W.Fast.te6357449854754888395
def Vm:PySem.code "int.__divmod__"=1954748619459276632098664420306794:=by decide+kernel
def Ve:PySem.code "bytes.__add__"=7635736742593746904984533170787:=by decide+kernel
def pb{n t:Type}(x:n)(f:n->bk t):((pure x:bk n)>>=f)=f x:=rfl
def Xr(j:y≠0)(I:uy x y=false):Builtin.«int.__divmod__» #[[.int x t,.int y u],[]]=(lH (x.fdiv y)>>=λa=>lH (x.fmod y)>>=λb=>newTuple [a,b]>>=λv=>gt v):=by have e:Builtin.«int.__divmod__» #[[.int x t,.int y u],[]]=(if(y==0)=true then(rule "int.divmod.zero">>=λU=>raiseError "ZeroDivisionError" "integer division or modulo by zero">>=λr=>_)else(zn x y>>=λU=>lH (x.fdiv y)>>=λa=>lH (x.fmod y)>>=λb=>newTuple [a,b]>>=λv=>gt v)):=rfl;rw[e,if_neg<|by simpa using j];unfold zn;rw[I,];rfl
def Uw(o:a.isEmpty=false)(y:b.isEmpty=false)(hs:a.size+b.size<=eF):Builtin.«bytes.__add__» #[[.bytes a t,.bytes b u],[]]=(yd (a++b)>>=λv=>gt v):=by have c:slotArgs "__add__" 1 #[[.bytes a t,.bytes b u],[]]=pure (.bytes a t,[.bytes b u]):=rfl;have I:Builtin.Bytes.tooLong (a.size+b.size)=false:=decide_eq_false<|l5.mpr hs;unfold Builtin.«bytes.__add__»;simp only[c,pb,(by kernel_rfl:Builtin.Bytes.buffer? "bytes.__add__" (.bytes a t)=pure (some a)),(by kernel_rfl:Builtin.Bytes.bufferQuiet? "bytes.__add__" (.bytes b u)=pure (some b)),I,o,y,Ff,if_false]
def wM(x y q m:Int):Prop:=y≠0/\uy x y=false/\x.fdiv y=q/\x.fmod y=m
def Gk(a b:Array UInt8):Prop:=a.isEmpty=false/\b.isEmpty=false/\a.size+b.size<=eF
def lu(e:m=t)(k:aW (aE pw w) A c t Q E s):aW (aE pw w) A c m Q E s:=e▸k
def wg{s:aN}(C:s.heap.get? a=some o)(e:f o=o')(k:aW (aE pw w) A c t Q E {s with heap:=s.heap.update a λU=>o'}):aW (aE pw w) A c t Q E {s with heap:=s.heap.update a f}:=(RP C e)▸k
def tZ(p c:Ar)(id:String)(args:kT)(g:aR):Option (bk Fin×aR×!As):=(p id args g).rec (c id args g) some
def anM{id:String}(h:tZ D G id args g=some x):D id args g=some x\/G id args g=some x:=by
 unfold tZ at h
 revert h;cases D id args g with
 |none=>rw[.inr]
 |some=>rw[.inl]
def DN(a:b9 D)(M:b9 G):b9 (tZ D G):=λT o m K id n z x e=>(anM e).elim (a T o m K id n z x)<|M T o m K id n z x
def BC:RF (.r .nil) (.v .nil) (.f (.r<|.i .nil)<|.q .nil):=λu v H d l j U sl U U Q U U=>{t:=eO v,as:=[u,l],P:=df Q j v,w:=some #[H,d,.fields #[[.ref l,.int (j+1) 0]],sl]}
def BA:RF (.r .nil) .nil (.f (.r<|.i .nil)<|.q .nil):=λu H d l j K sl U U Q U U=>{t:=yU,as:=[u,l],P:=h_ Q j,w:=some #[H,d,.fields #[[.none,.int j K]],sl]}
def Ja:=tZ (cw 36058839055461744822429329989390181918337346850548333 2 BC)<|cw 9231062798198206674541908477283886571094360729198884469 2 BC
def IR:=tZ (cw 36058839055461744822429329989390181918337346850548333 2 BA)<|cw 9231062798198206674541908477283886571094360729198884469 2 BA
def He:PySem.code "list_iterator.__next__"=36058839055461744822429329989390181918337346850548333:=by decide+kernel
def Hh:PySem.code "tuple_iterator.__next__"=9231062798198206674541908477283886571094360729198884469:=by decide+kernel
def MW(y:b=Builtin.«list_iterator.__next__»\/b=Builtin.«tuple_iterator.__next__»):sy b _ _ _ BC:=λu v H d l j K sl U U Q U U g T J t A Z h w s C f z=>apl y f.1 f.2.1 g<|wg f.1 rfl z
def HT(y:b=Builtin.«list_iterator.__next__»\/b=Builtin.«tuple_iterator.__next__»):sy b _ _ _ BA:=λu H d l j K sl U U Q U U g T J t A Z h w s C f z=>apk y f.1 f.2.1 g<|Q1▸wg f.1 rfl z
def aaJ:b9 Ja:=DN (cB "list_iterator.__next__" _ He (cz<|by kernel_rfl)<|MW<|.inl rfl)<|cB "tuple_iterator.__next__" _ Hh (cz<|by kernel_rfl)<|MW<|.inr rfl
def aar:b9 IR:=DN (cB "list_iterator.__next__" _ He (cz<|by kernel_rfl)<|HT<|.inl rfl)<|cB "tuple_iterator.__next__" _ Hh (cz<|by kernel_rfl)<|HT<|.inr rfl
def YG:RF (.i<|.i .nil) (.i<|.i .nil) .nil:=λx U y U q U E U=>{t:=lH q>>=λa=>lH E>>=λb=>MV [a,b]>>=λv=>gt v,P:=wM x y q E}
def IP:=cw 1954748619459276632098664420306794 0 YG
def aap:b9 IP:=cB "int.__divmod__" Builtin.«int.__divmod__» Vm (cz<|by kernel_rfl) λx Y y G q a E e g T J t A Z h w s C f j=>lu (by rw[(Xr g.1 g.2.1)▸g.2.2.1▸g.2.2.2▸amc▸?_];rfl) j
def Yu:RF (.y<|.y .nil) .nil .nil:=λa U b U=>{t:=fresh>>=λD=>gt<|.bytes (a++b) D,P:=Gk a b}
def IB:=cw 7635736742593746904984533170787 0 Yu
def Z_:b9 IB:=cB "bytes.__add__" Builtin.«bytes.__add__» Ve (cz<|by kernel_rfl) λa Y b G g T J t A Z h w s C f j=>lu (by rw[Uw g.1 g.2.1 g.2.2,];unfold yd;rw[if_neg (by rw[Array.size_append,];rw[l5.mpr g.2.2]),];rfl) j
def px(v:af):Bool:=qS v 1970563693
def Vx:PySem.code "list"=1970563693:=by decide+kernel
def qR(h:px v=true):v=.type "list":=th h Vx
section
variable{w:eI} {A:dW} {c:bj} {Q:Fin->aN->Prop} {E:af->aN->Prop} {s:aN}
def anV(m:s.heap.get? a=some #[D,d,.seq xs n,G])(hz:xs.size<=eF)(h:aW (aE pw w) A c (.pure<|.done<|.ret .none) Q E {s with heap:=s.heap.update a<|su (·.push v)}):aW (aE pw w) A c (Builtin.«list.append» #[[.ref a,v],[]]) Q E s:=by show aW _ _ _ (updateSeq a (·.push v)>>=λU=>gt .none) _ _ s;rw[ob<|wx m rfl h hz (by simp;rw[hz])]
def an1(m:s.heap.get? a=some #[D,d,.seq xs n,G])(j:0<=k)(B:k<2^63)(L:xs[k.toNat]? =some v)(h:aW (aE pw w) A c (.pure<|.done<|.ret v) Q E s):aW (aE pw w) A c (Builtin.«list.__getitem__» #[[.ref a,.int k t],[]]) Q E s:=by show aW _ _ _ (Fh (.int k t)>>=_) _ _ s;rw[ob<|asr (fitsIndex_of j B) ?_];clear B;obtain⟨K,rfl⟩:=Sr j;rw[ob<|aT<|wpAny_seqItemAt m rfl<|bK<|L▸h]
def Zb(j:k<0)(h:-(2^63)<=k):Fg k=true:=by unfold Fg;simp only[kp,decide_eq_true_eq];rw[ajm j h]
def an2{k:Int}(m:s.heap.get? a=some #[D,d,.seq xs n,G])(j:k<0)(B:-(2^63)<=k)(hk:0<=k+xs.size)(L:xs[(k+xs.size).toNat]? =some v)(h:aW (aE pw w) A c (.pure<|.done<|.ret v) Q E s):aW (aE pw w) A c (Builtin.«list.__getitem__» #[[.ref a,.int k t],[]]) Q E s:=by
 show aW _ _ _ (Fh (.int k t)>>=_) _ _ s;rw[ob<|asr (Zb j B) ?_];clear B;obtain⟨K,rfl⟩:∃K,k=Ft K:=by
  cases k with
  |ofNat n=>rw[absurd j (by simp)]
  |negSucc K=>rw[#[K,rfl]]
 have S:vX (Ft K) xs.size=some (Ft K+xs.size).toNat:=by unfold vX;simp only[j,if_true];rw[if_pos,];have:=(wA.mp L).1;simp;rw[#[hk,Fq (Int.add_lt_add_right j _)<|zA<|Int.zero_add _]]
 rw[ob<|aT<|mR m rfl<|bK<|S▸?_];dsimp only[Option.bind];rw[L▸h]
def an4(m:s.heap.get? a=some #[D,d,.seq xs n,J])(hz:xs.size<=eF)(L:xs.back? =some v)(h:aW (aE pw w) A c (.pure<|.done<|.ret v) Q E {s with heap:=s.heap.update a<|su (·.eraseIdxIfInBounds (xs.size-1))}):aW (aE pw w) A c (Builtin.«list.pop» #[[.ref a],[]]) Q E s:=by
 show aW _ _ _ (Sj (.ref a)>>=_) _ _ s;rw[ob<|mR m rfl ?_];have g:xs[xs.size-1]? =some v:=by rw[L▸?_];rfl
 have G:=(wA.mp g).1;have S:vX (-1) xs.size=some (xs.size-1):=by unfold vX;rw[if_pos (by simp;rw[aou G]),];congr 1;rw[aot G]
 refine(by simp;intro e;rw[e]at G;simp at G:xs.isEmpty=false)▸S▸?_;dsimp only[Option.bind];rw[g▸(ob<|wx m rfl h hz ?_)];simp[zi]
 split<;>simp<;>rw[ajn hz]
def an0(m:s.heap.get? a=some #[G,d,.seq xs n,K])(y:s.heap.get? b=some #[.type "list",J,.seq D n',U])(hz:xs.size+D.size<=eF)(h:aW (aE pw w) A c (.pure<|.done<|.ret .none) Q E {s with heap:=s.heap.update a<|su (·++D)}):aW (aE pw w) A c (Builtin.«list.extend» #[[.ref a,.ref b],[]]) Q E s:=by
 show aW _ _ _ (typeOf (.ref b)>>=_) _ _ s;rw[ob<|oD (bA _ y rfl) ?_];have e:(Sk (.ref a) (.ref b)||aI "list"==aI "list"||aI "list"==aI "tuple")=true:=by simp
 rw[(if_pos e)▸(ob<|mR y rfl<|ob<|mR m rfl ?_)];have M:((not (xs.isEmpty))&&zl (xs.size+D.size))=false:=by have:zl (xs.size+D.size)=false:=decide_eq_false<|l5.mpr hz;rw[this,];simp
 rw[M▸(ob<|wx m rfl h (MF hz) (by simp;rw[MG hz]))]
def anZ(m:s.heap.get? a=some #[G,d,.seq xs n,K])(y:s.heap.get? b=some #[.type "list",J,.seq D n',U])(hz:xs.size≠D.size)(h:aW (aE pw w) A c (.pure<|.done<|.ret<|.bool op) Q E s):aW (aE pw w) A c (cond op Builtin.«list.__ne__» Builtin.«list.__eq__» #[[.ref a,.ref b],[]]) Q E s:=by
 cases op
 all_goals
  show aW _ _ _ (isInstance (.ref b) (.type "list")>>=_) _ _ s;rw[ob<|R1 (b:=true) (bA _ y rfl) (by kernel_rfl)<|ob<|mR m rfl<|ob<|mR y rfl<|(if_pos (by simpa using hz:(xs.size !=D.size)=true))▸ob (oB h)]
end
def alV(j:y≠0):Builtin.«int.__mod__» #[[.int x t,.int y u],[]]=(lH (x.fmod y)>>=λa=>gt a):=by have e:Builtin.«int.__mod__» #[[.int x t,.int y u],[]]=(if(y==0)=true then(rule "int.mod.zero">>=λU=>raiseError "ZeroDivisionError" "integer modulo by zero">>=λr=>_)else(lH (x.fmod y)>>=λa=>gt a)):=rfl;rw[e,if_neg<|by simpa using j]
def Xq(j:y≠0)(I:uy x y=false):Builtin.«int.__floordiv__» #[[.int x t,.int y u],[]]=(lH (x.fdiv y)>>=λa=>gt a):=by have e:Builtin.«int.__floordiv__» #[[.int x t,.int y u],[]]=(if(y==0)=true then(rule "int.floordiv.zero">>=λU=>raiseError "ZeroDivisionError" "integer division or modulo by zero">>=λr=>_)else(zn x y>>=λU=>lH (x.fdiv y)>>=λa=>gt a)):=rfl;rw[e,if_neg<|by simpa using j];unfold zn;rw[I,];rfl
def iD(a b n:N):N:=if b==a then n else n+1
def cm(xs:Array af):Prop:=xs.size<=eF
def d8(xs:Array af)(k:Int)(v:af):Prop:=0<=k/\k<2^63/\xs[k.toNat]? =some v
def iK(xs:Array af)(k:Int)(v:af):Prop:=k<0/\-(2^63)<=k/\0<=k+xs.size/\xs[(k+xs.size).toNat]? =some v
def oY(xs:Array af)(v:af):Prop:=xs.size<=eF/\xs.back? =some v
def uN(H:af)(xs R:Array af):Prop:=px H=true/\xs.size+R.size<=eF
def Tu(H:af)(xs R:Array af):Prop:=px H=true/\xs.size≠R.size
def cj(x y m:Int):Prop:=y≠0/\x.fmod y=m
def gj(x y m:Int):Prop:=y≠0/\uy x y=false/\x.fdiv y=m
def f_(H:af)(xs:Array af):Prop:=px H=true/\xs.size<=eF
def Yt:RF (.r<|.v .nil) .nil (.q .nil):=λa v H d Q n sl=>{t:=eO .none,as:=[a],P:=cm Q,w:=some #[H,d,.seq (Q.push v)<|n+1,sl]}
def IA:=cw 122627580202994350266018413 1 Yt
def Vd:PySem.code "list.append"=122627580202994350266018413:=by decide+kernel
def Z7:b9 IA:=cB "list.append" Builtin.«list.append» Vd (cz<|by kernel_rfl) λa v H d Q n sl g T J t A Z h w s C f j=>anV f.1 g<|wg f.1 (by simp[su]) j
def YJ:RF (.r<|.i .nil) (.v .nil) (.q .nil):=λa j U v U U Q U U=>{t:=eO v,as:=[a],P:=d8 Q j v}
def IT:=cw 128106587276438692081757506308484131437 1 YJ
def YK:RF (.r<|.i .nil) (.v .nil) (.q .nil):=λa j U v U U Q U U=>{t:=eO v,as:=[a],P:=iK Q j v}
def IU:=cw 128106587276438692081757506308484131437 1 YK
def AR:PySem.code "list.__getitem__"=128106587276438692081757506308484131437:=by decide+kernel
def aau:b9 IT:=cB "list.__getitem__" Builtin.«list.__getitem__» AR (cz<|by kernel_rfl) λa i D v H d Q n sl g T J t A Z h w s C f j=>an1 f.1 g.1 g.2.1 g.2.2 j
def aat:b9 IU:=cB "list.__getitem__" Builtin.«list.__getitem__» AR (cz<|by kernel_rfl) λa i D v H d Q n sl g T J t A Z h w s C f j=>an2 f.1 g.1 g.2.1 g.2.2.1 g.2.2.2 j
def YW:RF (.r .nil) (.v .nil) (.q .nil):=λa v H d Q n sl=>{t:=eO v,as:=[a],P:=oY Q v,w:=some #[H,d,.seq Q.pop<|n+1,sl]}
def Jb:=cw 8174157772325415533 1 YW
def VC:PySem.code "list.pop"=8174157772325415533:=by decide+kernel
def Yn{xs:Array af}(h:0<xs.size):xs.eraseIdxIfInBounds (xs.size-1)=xs.pop:=by
 unfold zi;rw[dif_pos<|ag3 h,];apply Array.ext
 .simp
 .intro i a M
  simp at a M;simp only[Array.getElem_eraseIdx,Array.getElem_pop];rw[dif_pos<|ag4 a,]
def aaK:b9 Jb:=cB "list.pop" Builtin.«list.pop» VC (cz<|by kernel_rfl) λa v H d Q n sl g T J t A Z h w s C f j=>an4 f.1 g.1 g.2 (wg f.1 (by have I:=kv (dw _) (wA.mp (by rw[g.2▸?_];rfl:Q[Q.size-1]? =some v)).1;have e:su (λx=>x.eraseIdxIfInBounds<|Q.size-1) #[H,d,.seq Q n,sl]=#[H,d,.seq (Q.eraseIdxIfInBounds<|Q.size-1)<|iD Q.size (Q.eraseIdxIfInBounds<|Q.size-1).size n,sl]:=rfl;rw[e,Yn I];unfold iD;rw[if_neg,];simp;rw[ag5 I]) j)
def YI:RF (.r<|.r .nil) .nil (.q<|.q .nil):=λa b H d Q n sl c U R U U=>{t:=eO .none,as:=[a,b],P:=uN c Q R,w:=some #[H,d,.seq (Q++R)<|iD Q.size (Q++R).size n,sl]}
def IS:=cw 122627580493480924277926509 2 YI
def Vq:PySem.code "list.extend"=122627580493480924277926509:=by decide+kernel
def aas:b9 IS:=cB "list.extend" Builtin.«list.extend» Vq (cz<|by kernel_rfl) λa b H d Q n sl c e R E i g T J t A Z h w s C f j=>an0 f.1 (qR g.1▸f.2.1) g.2<|wg f.1 rfl j
def BB(op:Bool):RF (.r<|.r .nil) .nil (.q<|.q .nil):=λa b U U Q U U H U R U U=>{t:=eO<|.bool op,as:=[a,b],P:=Tu H Q R}
def I_:=tZ (cw 116512115458775698011089517 2<|BB true)<|cw 116512336171186236184357485 2<|BB false
def VB:PySem.code "list.__ne__"=116512115458775698011089517:=by decide+kernel
def Vp:PySem.code "list.__eq__"=116512336171186236184357485:=by decide+kernel
def MR(op):sy (cond op Builtin.«list.__ne__» Builtin.«list.__eq__») _ _ _ (BB op):=λa b H d Q n sl c e R E i g T J t A Z h w s C f j=>anZ f.1 (qR g.1▸f.2.1) g.2 j
def aaI:b9 I_:=DN (cB "list.__ne__" _ VB (cz<|by kernel_rfl)<|MR true)<|cB "list.__eq__" _ Vp (cz<|by kernel_rfl)<|MR false
def YV:RF (.i<|.i .nil) (.i .nil) .nil:=λx U y U E U=>{t:=lH E>>=λa=>gt a,P:=cj x y E}
def I9:=cw 116512097088030077292474218 0 YV
def VA:PySem.code "int.__mod__"=116512097088030077292474218:=by decide+kernel
def aaH:b9 I9:=cB "int.__mod__" Builtin.«int.__mod__» VA (cz<|by kernel_rfl) λx D y L E v g T J t A Z h w s C f j=>lu ((alV g.1).trans<|g.2▸rfl) j
def YF:RF (.i<|.i .nil) (.i .nil) .nil:=λx U y U E U=>{t:=lH E>>=λa=>gt a,P:=gj x y E}
def IO:=cw 128106770130096871752080967664072486762 0 YF
def Vr:PySem.code "int.__floordiv__"=128106770130096871752080967664072486762:=by decide+kernel
def aao:b9 IO:=cB "int.__floordiv__" Builtin.«int.__floordiv__» Vr (cz<|by kernel_rfl) λx D y L E v g T J t A Z h w s C f j=>lu ((Xq g.1 g.2.1).trans<|g.2.2▸rfl) j
def jG(h:aW (aE pw w) A c (.fresh k) Q E s):aW (aE pw w) A c (k s.toks) Q E {s with toks:=s.toks+1}:=λj p d t=>h j p d t
def OM(m:s.heap.get? a=some #[.type "list",d,.seq xs n,D])(hz:xs.size<=eF)(h:aW (aE pw w) A c (eO<|.int xs.size<|s.toks+1) Q E {s with toks:=s.toks+1+1}):aW (aE pw w) A c (Builtin.«len» #[[.ref a],[]]) Q E s:=λj p b t=>by have B:=Iz hz;rw[iz _ j _ (λe o P u=>?_) (λU U U h=>h) _ _<|(wpAny_len_body_list (w:=w) (E:=E) (Q:=λr P=>r=.int xs.size (s.toks+1)/\P={s with toks:=s.toks+1+1}) (en _ m rfl #[n,rfl]) B #[rfl,rfl]) j p<|b▸t.in];obtain⟨r,rfl,rfl,rfl⟩:=u;rw[h j o b t]
def YS:RF (.r .nil) .nil (.q .nil):=λa H U Q U U=>{t:=.fresh λU=>.fresh λD=>eO<|.int Q.size D,as:=[a],P:=f_ H Q}
def I3:=cw 7300717 1 YS
def AT:PySem.code "len"=7300717:=by decide+kernel
def aaE:b9 I3:=cB "len" Builtin.«len» AT (cz<|by kernel_rfl) λa H d Q n sl g T J t A Z h w s C f j=>OM (qR g.1▸f.1) g.2<|jG<|jG j
def zY(H:af)(xs:Array af)(n:Int):Prop:=f_ H xs/\(xs.size:Int)=n
def YU:RF (.r .nil) (.i .nil) (.q .nil):=λa n U H U Q U U=>{t:=.fresh λU=>.fresh λD=>eO<|.int n D,as:=[a],P:=zY H Q n}
def I6:=cw 7300717 1 YU
def aaD:b9 I6:=cB "len" Builtin.«len» AT (cz<|by kernel_rfl) λa E U H d Q n sl g T J t A Z h w s C f j=>OM (qR g.1.1▸f.1) g.1.2<|jG<|jG<|g.2▸j
def mn(x:aA):bk Fin:=.fresh λD=>eO<|.str x D
def vv(h:x.length<=eF):(mkStr x>>=λv=>gt v)=mn x:=by unfold mkStr;rw[(if_neg<|l5.mpr h)▸?_];rfl
def fb(b:Array UInt8):!N:=b.toList.map (·.toNat)
def Zm{n b:Type}(f:n->b->bk (ForInStep b))(I:N->b):∀(l:!n) (k),(∀j a,k<=j->j<k+l.length->f a (I j)=pure (.yield<|I<|j+1))->(forIn l (I k) f:bk b)=pure (I<|k+l.length):=by
 intro J;induction J with
 |nil=>intro k _;rw[rfl]
 |cons a l C=>intro k U;simp only[zG,U k a (d7 _)<|by simp];show(forIn l (I<|k+1) f)=_;simp only[C (k+1) λj a c M=>U j a (Ml c) (by simp at M⊢;rw[ai7 M])];congr 2;rw[ai8]
def Zn{n b:Type}(I:N->b)(l:!n)(x:b)(f:n->b->bk (ForInStep b))(L:x=I 0)(h:∀j a,j<l.length->f a (I j)=pure (.yield<|I<|j+1)):(forIn l x f:bk b)=pure (I l.length):=by subst L;have u:=Zm f I l 0 λj a U M=>h j a<|ai9 M;simp only[nj]at u;rw[u]
def T_(id b)(y:∀x∈b.toList,x.toNat<128)(hz:b.size<=eF):fK._codecs.runDecoder id fK._codecs.asciiDecoder none true b 0 []=pure ((#[fb b]:Array N),b.size):=by
 unfold fK._codecs.runDecoder;dsimp only;rw[GL,];rw[Zn (λK=>(K,#[(fb b).take K],{})) _ _ _<|by rfl,]
 .show(pure _:bk (Array N×N))=pure _
  congr 1;simp only[List.length_range',TE];rw[show(b.size-0+1-1)/1=(fb b).length from by simp[fb],wJ];simp[fb]
 .intro K a D
  replace D:K<b.size:=by simpa using D
  have c:¬((#[(fb b).take K]:Array N).size>eF):=by simp[fb];rw[b8 (Nat.min_le_right _ _) hz]
  have X:b.getD K 0=b[K]:=by simp[Array.getD,D]
  have Y:fK._codecs.asciiDecoder.find true b K=.char (b.getD K 0).toNat (K+1):=by show(if(b.getD K 0).toNat<128 then _ else _)=_;rw[if_pos<|X▸y _ (by simp),]
  rw[if_neg c,if_neg<|qx.mpr D,Y];show pure _=pure _;congr 3;have L:(fb b).take (K+1)=(fb b).take K++[(b.getD K 0).toNat]:=by rw[List.take_add_one,];congr 1;rw[X,];simp[fb,D]
  rw[L,];simp
def T9(id b):fK._codecs.decodeRoad id b #[#[[97,115,99,105,105]]] none []=(fK._codecs.runDecoder id fK._codecs.asciiDecoder none true b 0 []>>=λr=>mkStr #[r.1]):=by kernel_rfl
def oW(b:Array UInt8):Prop:=(∀x∈b.toList,x.toNat<128)/\b.size<=eF
def fL(a b:aA):Prop:=a.cps.size≠0/\b.cps.size≠0/\a.cps.size+b.cps.size<=eF
def iX(a:aA)(k:Int)(x:aA):Prop:=0<=k/\k<2^63/\∃Z,a.cps[k.toNat]? =some Z/\x=#[#[[Z]]]
def eA(s a:aA):Bool:= (not ((zm s a 0 s.length 1).isEmpty))
def br(a b:aA)(r:Bool):Prop:=eA a b=r
def YE:RF (.y<|.asc<|.n<|.s .nil) .nil .nil:=λb U U U=>{t:=mn #[#[fb b]],P:=oW b}
def IN:=cw 2619762639393042134921171463191304907674117216 0 YE
def Vh:PySem.code "_codecs.decode.text"=2619762639393042134921171463191304907674117216:=by decide+kernel
def aan:b9 IN:=cB "_codecs.decode.text" Builtin.«_codecs.decode.text» Vh KBd.entry_text λb Y G d E g U U U U U U U U U U z=>lu (by
  have Z:(#[#[fb b]]:aA).length<=eF:=by show(#[fb b]:Array N).size<=_;simp[fb];rw[g.2]
  show(Builtin.Bytes.bytesLike _ (.bytes b Y)>>=λr=>fK._codecs.dataHeld _ (.bytes b Y)>>=λa=>fK._codecs.decodeRoad _ r #[#[_]] none a>>=λv=>gt v)=_;rw[KBd.like_eq,];rw[KBd.held_eq,];show(fK._codecs.decodeRoad _ b #[#[_]] none []>>=λv=>gt v)=_;rw[T9,T_ _ _ g.1 g.2];rw[vv Z]) z
def Ys:RF (.s<|.s .nil) .nil .nil:=λa U b U=>{t:=mn #[#[a.cps.toList++b.cps.toList]],P:=fL a b}
def Jd:=cw 116512096292018843154609524 0 Ys
def VF:PySem.code "str.__add__"=116512096292018843154609524:=by decide+kernel
def aqE(a b:aA):a++b=#[#[a.cps.toList++b.cps.toList]]:=by obtain⟨⟨a⟩⟩:=a;obtain⟨⟨b⟩⟩:=b;show(#[#[a]++#[b]]:aA)=_;congr 1;simp
def aaM:b9 Jd:=cB "str.__add__" Builtin.«str.__add__» VF (cz<|by kernel_rfl) λa Y b G g U U U U U U U U U U z=>lu (by
  have c:(a.length==0)=false:=by simpa[Str.length]using g.1
  have e:Builtin.«str.__add__» #[[.str a Y,.str b G],[]]=(if(true&&a.length==0)=true then _ else if(true&&b.length==0)=true then _ else(mkStr (a++b)>>=λv=>gt v)):=rfl;rw[e,c,(by simpa[Str.length]using g.2.1:(b.length==0)=false),aqE];rw[vv (by show Array.size _<=_;simp;rw[g.2.2])]) z
def Yv:RF (.s<|.i .nil) (.s .nil) .nil:=λa U j U x U=>{t:=mn x,P:=iX a j x}
def IC:=cw 500416356548588640944365259017385332 0 Yv
def AU:PySem.code "str.__getitem__"=500416356548588640944365259017385332:=by decide+kernel
def UP(a k t u)(j:0<=k)(b:k<2^63)(c)(M:a.cps[k.toNat]? =some c):Builtin.«str.__getitem__» #[[.str a t,.int k u],[]]=mn #[#[[c]]]:=by
 have I:vX k a.length=some k.toNat:=by unfold vX;simp only[wC.mpr j,if_false];rw[if_pos,];simp;rw[#[j,(ai_ j<|(wA.mp M).1)]]
 have Y:Fi "__getitem__" 1 #[[.str a t,.int k u],[]]=pure (.str a t,a,[.int k u]):=rfl;unfold Builtin.«str.__getitem__»;simp only[Y,pb,FM,(by kernel_rfl:PySem.typeOf (.int k u)=pure (.type "int")),(by decide+kernel:(aI "int"==aI "slice")=false),(by kernel_rfl:specialOf (.int k u) "__index__"=pure (some<|.builtin "int.__index__")),(by kernel_rfl:asIndex (.int k u)=pure k),aaU j b,I,Option.isNone_some,Ff,if_false,Option.bind_some,M];rw[vv (by show 1<=16777216;decide)]
def aac:b9 IC:=cB "str.__getitem__" Builtin.«str.__getitem__» AU (cz<|by kernel_rfl) λa Y c G x E g U U U U U U U U U U z=>lu (by rw[ek g λj b R=>aJ R λZ M k=>?_];subst k;rw[UP a c Y G j b Z M]) z
def YM:RF (.s<|.s .nil) (.b .nil) .nil:=λa U b U r=>{t:=eO<|.bool r,P:=br a b r}
def IW:=cw 128106709680535770272165659069392319860 0 YM
def VG:PySem.code "str.__contains__"=128106709680535770272165659069392319860:=by decide+kernel
def aaw:b9 IW:=cB "str.__contains__" Builtin.«str.__contains__» VG (cz<|by kernel_rfl) λa Y b G r g U U U U U U U U U U z=>lu (by rw[(rfl:Builtin.«str.__contains__» #[[.str a Y,.str b G],[]]=eO (.bool<|eA a b))▸g▸?_];rfl) z
section
variable{w:eI} {A:dW} {c:bj} {Q:Fin->aN->Prop} {E:af->aN->Prop} {s:aN}
def Hn(h:jM v=some x):(if(v==i7)=true then(pure none:bk (Option Int))else specialOf v "__index__">>=λo=>if o.isNone=true then X else asIndex v>>=λk=>pure<|some k)=pure x:=by
 cases v with
 |none=>cases h;rfl
 |int k D=>cases h;refine(by kernel_rfl:specialOf (.int k D) "__index__"=pure (some<|.builtin "int.__index__"))▸(by kernel_rfl:asIndex (.int k D)=pure k)▸?_;rfl
 |_=>rw[nn h]
def R6{Q:Option Int×Option Int×Int->aN->Prop}(h:s.heap.get? U=some o)(t:o.data=.fields #[[J,G,.none]])(D:jM J=some K)(g:jM G=some hi)(k:Q (K,hi,1) s):d_ (aE pw w) A (Builtin.Str.strSliceParts<|.ref U) Q E s:=by rw[aT<|jt h t (x:=.none) rfl<|aT<|zd rfl<|aT<|jt h t (x:=J) rfl<|aT<|zd (Hn D)<|aT<|jt h t (x:=G) rfl<|aT<|zd (Hn g)<|bK k]
def rH(a:aA)(R hi:Option Int):!N:=(jS R hi 1 a.length).filterMap (a.cps[·]?)
def an5(h:s.heap.get? J=some #[.type "slice",d,.fields #[[U,K,.none]],ss])(D:jM U=some G)(g:jM K=some hi)(b:(jS G hi 1 a.length).length≠a.length)(hz:(rH a G hi).length<=eF)(k:aW (aE pw w) A c (mn #[#[rH a G hi]]) Q E s):aW (aE pw w) A c (Builtin.«str.__getitem__» #[[.str a t,.ref J],[]]) Q E s:=by have Y:Fi "__getitem__" 1 #[[.str a t,.ref J],[]]=pure (.str a t,a,[.ref J]):=rfl;unfold Builtin.«str.__getitem__»;simp only[Y,pb,FM];rw[ob<|oD (bA _ h rfl)<|ob<|R6 h rfl D g ?_];rw[if_neg<|by rw[(by simpa using b:(1==1&&(jS G hi 1 a.length).length==a.length)=false)▸kU],];have e:retStr #[((jS G hi 1 a.length).filterMap (a.cps[·]?)).toArray]=mn #[#[rH a G hi]]:=vv hz;rw[e▸k]
def an6(h:s.heap.get? G=some #[.type "slice",d,.fields #[[U,K,.none]],ss])(D:jM U=some J)(g:jM K=some hi)(b:(jS J hi 1 a.length).length=a.length)(k:aW (aE pw w) A c (eO<|.str a t) Q E s):aW (aE pw w) A c (Builtin.«str.__getitem__» #[[.str a t,.ref G],[]]) Q E s:=by have Y:Fi "__getitem__" 1 #[[.str a t,.ref G],[]]=pure (.str a t,a,[.ref G]):=rfl;unfold Builtin.«str.__getitem__»;simp only[Y,pb,FM];rw[ob<|oD (bA _ h rfl)<|ob<|R6 h rfl D g<|(if_pos (by simpa using b:(1==1&&(jS J hi 1 a.length).length==a.length)=true))▸ob (oB k)]
end
def jX(a:aA)(R hi:Option Int)(x:aA):Prop:=(jS R hi 1 a.length).length≠a.length/\rH a R hi=x.cps.toList/\x.cps.size<=eF
def Tv(a:aA)(R hi:Option Int):Prop:=(jS R hi 1 a.length).length=a.length
def YY:RF (.s<|.r .nil) (.s .nil) (.sl .nil):=λa U sl x U R S=>{t:=mn x,as:=[sl],P:=jX a R S x}
def Je:=cw 500416356548588640944365259017385332 1 YY
def aaN:b9 Je:=cB "str.__getitem__" Builtin.«str.__getitem__» AU (cz<|by kernel_rfl) λa Y sl x G d m b R S B c M g T J t A Z h w s C f j=>by refine ek g λe i q=>an5 f.1 c M e (by rw[i▸?_];simpa using q) ?_;rw[i▸j]
def Y0:RF (.s<|.r .nil) .nil (.sl .nil):=λa D sl R S=>{t:=eO<|.str a D,as:=[sl],P:=Tv a R S}
def Jf:=cw 500416356548588640944365259017385332 1 Y0
def aaO:b9 Jf:=cB "str.__getitem__" Builtin.«str.__getitem__» AU (cz<|by kernel_rfl) λa Y sl d m b R S B c M g T J t A Z h w s C f j=>by rw[an6 f.1 c M g j]
def alj(xs:!af):Obj:=#[.type "list",none,.seq #[xs] 0,#[[]]]
def MU(xs:!af):bk Fin:=.alloc (alj xs) λa=>eO<|.ref a
def Qm(h:jM v=some x):IsPart v x:=by
 cases v with
 |none=>cases h;rw[.none]
 |int=>cases h;rw[.int _ _]
 |_=>rw[nn h]
def oX(H:af)(xs R:Array af):Prop:=px H=true/\xs.size+R.size<=eF
def wN(xs:Array af)(i:Int):Prop:=0<=i/\i.toNat<=xs.size/\xs.size<=eF
def YR:RF (.r<|.r .nil) .nil (.q<|.sl .nil):=λa sl U U Q U U R S=>{t:=MU (iS Q R S none).toList,as:=[a,sl],P:=cm Q}
def I8:=cw 128106587276438692081757506308484131437 2 YR
def aaG:b9 I8:=cB "list.__getitem__" Builtin.«list.__getitem__» AR (cz<|by kernel_rfl) λa sl e i Q n k d m b R S B l M g T J t A Z h w s C f j=>by rw[ek f λp o U=>?_];have c:s.TypeIs (.ref sl) "slice":=bA _ o rfl;show aW _ _ _ (Fh (.ref sl)>>=_) _ _ s;rw[ob<|aT<|wpAny_specialOf c slice_no_index<|bK<|ob<|oD c<|ob<|aT<|jt o rfl (x:=.none) rfl<|aT<|R4 .none<|aT<|jt o rfl (x:=m) rfl<|aT<|R4 (Qm l)<|aT<|jt o rfl (x:=b) rfl<|aT<|R4 (Qm M)<|bK<|ob ?_];rw[aT<|zg p rfl<|bK<|ob<|zd (sliceIndices_raw R S none Q.size<|ζ)<|ob<|zc (OL j)<|b8 (slicePick_size_le Q R S none) g]
def YQ:RF (.r<|.r .nil) .nil (.q<|.q .nil):=λa b U U Q U U H U R U U=>{t:=MU<|Q.toList++R.toList,as:=[a,b],P:=oX H Q R}
def I7:=cw 29827096650756823847613524589 2 YQ
def Vw:PySem.code "list.__add__"=29827096650756823847613524589:=by decide+kernel
def aaF:b9 I7:=cB "list.__add__" Builtin.«list.__add__» Vw (cz<|by kernel_rfl) λa b e i Q n k H d R l B g T J t A Z h w s C f j=>by obtain⟨c,M⟩:=g;have c:=qR c;subst c;rw[ek f λo y U=>?_];show aW _ _ _ (isInstance (.ref b) (.type "list")>>=_) _ _ s;rw[ob<|R1 (b:=true) (bA _ y rfl) (by kernel_rfl)<|ob<|mR o rfl<|ob<|mR y rfl<|(by apply hU;simp:(Q++R)=#[Q.toList++R.toList])▸(ob<|zc (OL j) (by show Array.size _<=_;simp;rw[M]))]
def YO:RF (.r<|.i<|.v .nil) .nil (.q .nil):=λa i U v H d Q n sl=>{t:=.update a none (λU=>#[H,d,.seq #[Q.toList.take i.toNat++v::Q.toList.drop i.toNat]<|n+1,sl]) λU=>eO .none,as:=[a],P:=wN Q i}
def IY:=cw 141989282998378523895556717 1 YO
def Vu:PySem.code "list.insert"=141989282998378523895556717:=by decide+kernel
def alu(h:f xs=J)(w:J.size≠xs.size):su f #[D,d,.seq xs n,G]=#[D,d,.seq J<|n+1,G]:=by have e:su f #[D,d,.seq xs n,G]=#[D,d,.seq (f xs)<|iD xs.size (f xs).size n,G]:=rfl;rw[e,h];unfold iD;rw[if_neg<|by simpa using w,]
def aay:b9 IY:=cB "list.insert" Builtin.«list.insert» Vu (cz<|by kernel_rfl) λa i Y v H d Q n sl g T J t A Z h w s C f c=>by
 rw[ek g λj b M=>ct f λo U=>?_];unfold Builtin.«list.insert»;simp only[(by kernel_rfl:selfAndSome "list.insert" "insert" 2 2 #[[.ref a,.int i Y,v],[]]=pure (.ref a,[.int i Y,v])),pb,(by kernel_rfl:asIndex (.int i Y)=pure i)];have B:((not (Fg i)))=false:=by rw[(fitsIndex_of j<|agi j b M rfl)▸?_];rfl
 rw[B▸(ob<|wx o rfl ?_ M ?_)]
 .rw[pM o (alu ?_ ?_) c]
  .have X:=LV j
   simp only[if_neg X,sk b];apply hU;simp;rw[qp (by simp)]
  .simp;rw[aba b]
 .have X:=LV j
  simp only[if_neg X,sk b];simp;rw[abb b M]
def Yw:RF (.r .nil) .nil (.q .nil):=λa H d Q n sl=>{t:=.update a none (λU=>#[H,d,.seq #[[]]<|iD Q.size 0 n,sl]) λU=>eO .none,as:=[a],P:=cm Q}
def ID:=cw 544887307114752062548589 1 Yw
def Vf:PySem.code "list.clear"=544887307114752062548589:=by decide+kernel
def aad:b9 ID:=cB "list.clear" Builtin.«list.clear» Vf (cz<|by kernel_rfl) λa H d Q n sl g T J t A Z h w s C f j=>by rw[ct f λo U=>?_];show aW _ _ _ (Sj (.ref a)>>=_) _ _ s;rw[ob<|mR o rfl<|ob<|wx o rfl (ob<|R3<|pM (o':=#[H,d,.seq #[[]]<|iD Q.size 0 n,sl]) o rfl j) g<|dw _]
def jr:!af->!aA
 |.str x _::l=>x::jr l
 |_=>[]
def p5:!af->!Tok
 |.str _ D::l=>D::p5 l
 |_=>[]
def rQ:!af->Prop
 |[]=>True
 |.str _ _::l=>rQ l
 |_=>False
def EJ:∀{l},rQ l->l=((jr l).zip<|p5 l).map λp=>.str p.1 p.2
 |[],_=>rfl
 |.str x D::l,h=>by congr 1;rw[EJ h]
 |.none::_,h|.bool _::_,h|.int _ _::_,h|.float _ _::_,h|.bytes _ _::_,h|.type _::_,h|.builtin _::_,h|.ref _::_,h|.ellipsis::_,h|.notImplemented::_,h=>h.elim
def Q4:∀{l},rQ l->(((jr l).zip<|p5 l).map (·.1))=jr l
 |[],_=>rfl
 |.str x D::l,h=>by show x::_=x::_;congr 1;rw[Q4 h]
 |.none::_,h|.bool _::_,h|.int _ _::_,h|.float _ _::_,h|.bytes _ _::_,h|.type _::_,h|.builtin _::_,h|.ref _::_,h|.ellipsis::_,h|.notImplemented::_,h=>h.elim
def nz(H:af)(xs:Array af)(b x:aA):Prop:=px H=true/\rQ xs.toList/\xs.size≠1/\Fj ((jr xs.toList).toArray.foldl (·+·.length+b.length) 0)=false/\So b (jr xs.toList)=x/\x.length<=eF
def YP:RF (.s<|.r .nil) (.s .nil) (.q .nil):=λb U a x U H U Q U U=>{t:=mn x,as:=[a],P:=nz H Q b x}
def IZ:=cw 8028352891401237876 1 YP
def Vv:PySem.code "str.join"=8028352891401237876:=by decide+kernel
def aaz:b9 IZ:=cB "str.join" Builtin.«str.join» Vv (cz<|by kernel_rfl) λb k a x G H d Q n sl g T J t m Z h w s C f j=>by
 rw[HJ g λi M X I Y L=>?_];have i:=qR i;subst i;obtain⟨o,_⟩:=f;obtain⟨e,c⟩:=join_tree b k a;rw[c▸(ob<|oD (bA _ o rfl)<|ob<|zg o rfl ?_)];show aW _ _ _ (joinTail b Q.toList) _ _ s;have D:joinTail b (strValues<|(jr Q.toList).zip<|p5 Q.toList)=mn x:=by
  have B:((jr Q.toList).zip<|p5 Q.toList).length≠1:=by intro O;apply X;rw[<-Array.length_toList,EJ M,aU,O]
  have A:joinTail b (strValues<|(jr Q.toList).zip<|p5 Q.toList)=joinRest b (strValues<|(jr Q.toList).zip<|p5 Q.toList):=by
   generalize(jr Q.toList).zip (p5 Q.toList)=l at B
   match l,B with
   |[],_=>rfl
   |[p],U=>rw[absurd rfl U]
   |p::q::r,_=>rfl
  simp only[A];unfold joinRest;simp only[join_loop,Q4 M];show(if Fj (((List.toArray [])++(jr Q.toList).toArray).foldl (λn (s:aA)=>n+s.length+b.length) 0)=true then _ else retStr (So b ((List.toArray [])++(jr Q.toList).toArray).toList))=_;simp only[Sc,I,Ff,if_false,List.toList_toArray,Y];rw[vv L]
 rw[(EJ M)▸D▸j]
def gf(k:aA)(e:bv):Bool:=e.key.isStr k
def d4(es:!bv)(k:aA):Option af:=(es.find?<|gf k).map (·.val)
def iT(es:!bv):Bool:=es.all λe=>isExactStrKey e.key
def Bk(h:d4 es k=none):(#[es]:Array bv).findIdx? (gf k)=none:=by unfold d4 at h;rw[Option.map_eq_none_iff]at h;rw[Fd,];intro x L;have:=SU.mp h x (by simpa using L);simpa using this
def Bl(h:d4 es k=some v):∃i e,(#[es]:Array bv).findIdx? (gf k)=some i/\(#[es]:Array bv)[i]? =some e/\gf k e=true/\e.val=v:=by
 rw[aJ (zW.mp h) λe d P=>?_];subst P;have b:((#[es]:Array bv).findIdx?<|gf k).isSome=true:=by
  cases L:(⟨es⟩:Array bv).findIdx? (gf k)with
  |some i=>rfl
  |none=>have:=Fd.mp L e (by simpa using S5 d);rw[SV d]at this;rw[oG this]
 rw[dm (uL.mp b) λi S=>aJ (Sd.mp S) λG c y=>Jl i ((#[es]:Array bv)[i]) S (zj G) c ?_];have a:es.find? (gf k)=some (#[es]:Array bv)[i]:=by rw[List.find?_eq_some_iff_getElem,];refine#[c,i,by simpa using G,rfl,λK D=>?_];have:=y K D;simpa using this
 rw[a]at d;cases d;rfl
section
variable{w:eI} {A:dW} {c:bj} {Q:Fin->aN->Prop} {E:af->aN->Prop} {s:aN}
def abj{v:af}(h:v.isStr k=true):∃t,v=.str k t:=by
 cases v with
 |str x t=>
  have:x=k:=by simpa[Value.isStr]using h
  subst this;rw[#[t,rfl]]
 |_=>cases h
def ww{Q:Option N->aN->Prop}(m:s.heap.get? d=some o)(c:o.data=.dict #[es] D)(hk:iT es=true)(g:Q ((#[es]:Array bv).findIdx?<|gf k) s):d_ (aE pw w) A (dictFind d (.str k t) h) Q E s:=by
 rw[iw<|aT<|wu m c ?_];have a:((⟨es⟩:Array bv).all λe=>isExactStrKey e.key)=true:=by rw[Sb▸hk]
 dsimp only;rw[if_pos a,];unfold foundByValue;have b:(λe:bv=>e.key.isStr k)=gf k:=rfl;rw[b▸?_];cases B:(⟨es⟩:Array bv).findIdx? (gf k)with
 |none=>rw[B]at g;rw[bK g]
 |some i=>rw[B]at g;rw[aJ (Sd.mp B) λG S U=>?_];simp only[zj G];rw[dm (abj S) λL f=>f▸(aT<|zb m c<|aT<|wpAny_eqBool_str<|aT<|zb m c ?_)];rw[if_neg<|by simp,decide_eq_true rfl];rw[aT<|oB<|bK g]
def za{Q:Option af->aN->Prop}(m:s.heap.get? d=some o)(b:o.data=.dict #[es] D)(hk:iT es=true)(g:Q (d4 es k) {s with toks:=s.toks+1}):d_ (aE pw w) A (xh d<|.str k t) Q E s:=by
 rw[iw<|aT<|ze<|aT<|ww m b hk ?_];cases X:d4 es k with
 |none=>rw[(Bk X)▸?_];rw[X]at g;rw[bK g]
 |some v=>rw[Bn (Bl X) λi e S c U a=>S▸(aT<|wu m b<|bK<|c▸?_)];simp only[X]at g;show Q (some e.val) _;rw[a▸g]
end
def mu(v:af):Bool:=qS v 1969515109
def Vi:PySem.code "dict"=1969515109:=by decide+kernel
def lC(h:mu v=true):v=.type "dict":=th h Vi
def cR(H:af)(es:!bv)(k:aA)(v:af):Prop:=mu H=true/\iT es=true/\d4 es k=some v
def Gl(H:af)(es:!bv)(k:aA)(d:N):Prop:=mu H=true/\iT es=true/\d4 es k=none/\1<d
def nv(H:af)(es:!bv)(k:aA)(r:Bool)(d:N):Prop:=mu H=true/\iT es=true/\(d4 es k).isSome=r/\1<d
def jW(H:af)(es:!bv)(k:aA):Prop:=mu H=true/\iT es=true/\d4 es k=none/\es.length<=eF
def zX(H:af)(es:!bv)(k:aA):Prop:=mu H=true/\iT es=true/\(d4 es k).isSome=true
def EX(v:af):bk Fin:=.fresh λU=>eO v
def H6:RF (.r<|.s .nil) (.v .nil) (.d .nil):=λd j U v H U k U U=>{t:=EX v,as:=[d],P:=cR H k j v}
def IF:=cw 8459563503104322149 1 H6
def IH:=cw 128106587276438692081757506308483082853 1 H6
def Hb:PySem.code "dict.get"=8459563503104322149:=by decide+kernel
def Vk:PySem.code "dict.__getitem__"=128106587276438692081757506308483082853:=by decide+kernel
def aaf:b9 IF:=cB "dict.get" Builtin.«dict.get» Hb (cz<|by kernel_rfl) λd z Y v H a k n sl g T J t A Z h w s C f j=>by rw[ek g λb M X=>?_];have b:=lC b;subst b;obtain⟨o,_⟩:=f;show aW _ _ _ (xh d (.str z Y)>>=_) _ _ s;rw[ob<|za o rfl M<|X▸jG j]
def aah:b9 IH:=cB "dict.__getitem__" Builtin.«dict.__getitem__» Vk (cz<|by kernel_rfl) λd z Y v H a k n sl g T J t A Z h w s C f j=>by rw[ek g λb M X=>?_];have b:=lC b;subst b;obtain⟨o,_⟩:=f;show aW _ _ _ (xh d (.str z Y)>>=_) _ _ s;rw[ob<|za o rfl M<|X▸jG j]
def YA:RF (.r<|.s .nil) .nil (.d .nil):=λd j U H U k U U=>{t:=EX .none,as:=[d],P:=Gl H k j d}
def IJ:=cw 8459563503104322149 1 YA
def aaj:b9 IJ:=cB "dict.get" Builtin.«dict.get» Hb (cz<|by kernel_rfl) λd z Y H a k n sl g T J t A Z h w s C f j=>by rw[nT g λb M X I=>?_];have b:=lC b;subst b;obtain⟨o,_⟩:=f;show aW _ _ _ (xh d (.str z Y)>>=_) _ _ s;rw[ob<|za o rfl M ?_];rw[X,];unfold Builtin.Dict.missed;rw[if_neg (by simp[yW];rw[lg I]),];rw[jG j]
def Yy:RF (.r<|.s .nil) (.b .nil) (.d .nil):=λd j U r H U k U U=>{t:=EX<|.bool r,as:=[d],P:=nv H k j r d}
def IG:=cw 32795317678217157189674408721764466322021 1 Yy
def Vj:PySem.code "dict.__contains__"=32795317678217157189674408721764466322021:=by decide+kernel
def aag:b9 IG:=cB "dict.__contains__" Builtin.«dict.__contains__» Vj (cz<|by kernel_rfl) λd z Y r H a k n sl g T J t A Z h w s C f j=>by
 rw[nT g λb M X I=>?_];have b:=lC b;subst b;obtain⟨o,_⟩:=f;show aW _ _ _ (xh d (.str z Y)>>=_) _ _ s;rw[ob<|za o rfl M ?_];cases r with
 |true=>rw[if_pos X,];rw[jG j]
 |false=>rw[if_neg (by rw[X,];rw[kU]),];unfold Builtin.Dict.pendingKey?;rw[if_neg (by simp[yW];rw[lg I]),];rw[jG j]
def Be(es:!bv)(n:N)(H:af)(a:Option aH)(f:Array (Option af))(P:eH)(k:aA)(t:Tok)(v:af):Obj:=#[H,a,.dict #[es++[#[hs P k,.str k t,v]]]<|n+1,f]
def YB:RF (.r<|.s<|.v .nil) .nil (.d .nil):=λd j D v H a k n sl=>{t:=.fresh λU=>.ask λi=>.update d none (λU=>Be k n H a sl i.params j D v) λU=>eO .none,as:=[d],P:=jW H k j}
def IK:=cw 128106587276438692082622197436938218085 1 YB
def Hc:PySem.code "dict.__setitem__"=128106587276438692082622197436938218085:=by decide+kernel
def anW(h:aW (aE pw w) A c (.ask k) Q E s):aW (aE pw w) A c (k #[pw,w.params]) Q E s:=λj p d t=>h j p d t
def aak:b9 IK:=cB "dict.__setitem__" Builtin.«dict.__setitem__» Hc (cz<|by kernel_rfl) λd z Y v H a k n sl g T J t A Z h w s C f j=>by rw[nT g λb M X I=>?_];have b:=lC b;subst b;obtain⟨o,_⟩:=f;rw[ob<|aT<|oD (bA _ o rfl)<|bK ?_];show aW _ _ _ (dictSet d (.str z Y) v>>=λU=>gt .none) _ _ s;refine ob (iw<|aT<|ze<|iw<|aT<|ww o rfl M<|(Bk X)▸(aT<|oB<|R7 (hz:=by simpa using I) o rfl<|pM (s:={s with toks:=s.toks+1}) (o':=Be k n (.type "dict") a sl T.params z Y v) o ?_<|anW<|jG j));simp[Gi,Be,hashStr,hs]
def uZ(k:aA)(v:af):!bv->!bv
 |[]=>[]
 |e::es=>match gf k e with
  |true=>#[e.hash,e.key,v]::es
  |false=>e::uZ k v es
def YC:RF (.r<|.s<|.v .nil) .nil (.d .nil):=λd j D v H a k n sl=>{t:=.fresh λU=>.update d none (λU=>#[H,a,.dict #[uZ j v k] n,sl]) λU=>eO .none,as:=[d],P:=zX H k j}
def IL:=cw 128106587276438692082622197436938218085 1 YC
def Xv:∀{es i},(#[es]:Array bv).findIdx? (gf k)=some i->(#[es]:Array bv).modify i (λe=>{e with val:=v})=#[uZ k v es]:=by
 intro es i U;have z:es.findIdx? (gf k)=some i:=by simpa using U
 apply hU;simp only[Array.toList_modify];clear U;induction es generalizing i with
 |nil=>simp at z
 |cons e es C=>
  rw[SW]at z
  revert z;show _->_=cond (gf k e) (#[e.hash,e.key,v]::es) (e::uZ k v es);cases gf k e
  .exactλU=>aJ (zW.mp U) λK D P=>P▸congrArg (e::·) (C D)
  .exactλU=>dY U▸rfl
def aal:b9 IL:=cB "dict.__setitem__" Builtin.«dict.__setitem__» Hc (cz<|by kernel_rfl) λd z Y v H a k n sl g T J t A Z h w s C f j=>by rw[ek g λc M X=>?_];have c:=lC c;subst c;obtain⟨o,_⟩:=f;rw[ob<|aT<|oD (bA _ o rfl)<|bK ?_];show aW _ _ _ (dictSet d (.str z Y) v>>=λK=>gt .none) _ _ s;rw[ob<|iw<|aT<|ze<|iw<|aT<|ww o rfl M<|dm (uL.mp X) λU b=>Bn (Bl b) λi e S K K K=>S▸(aT<|oB<|aT<|wpAny_updateDict o rfl<|wpAny_point ?_)];rw[pM (s:={s with toks:=s.toks+1}) (o':=#[.type "dict",a,.dict #[uZ z v k] n,sl]) o ?_<|jG j];rw[congrArg (λe=>Obj.mk (.type "dict") a (.dict e n) sl)<|Xv S]
def xP(v:af):Bool:=px v||qS v 439922816629
def Hg:PySem.code "tuple"=439922816629:=by decide+kernel
def l6(H:af)(xs R:Array af):Prop:=xP H=true/\xs.size+R.size<=eF
def YL:RF (.r<|.r .nil) .nil (.q<|.q .nil):=λa b H d Q n sl e U R U U=>{t:=.update a none (λU=>#[H,d,.seq (Q++R)<|iD Q.size (Q++R).size n,sl]) λU=>eO<|.ref a,as:=[a,b],P:=l6 e Q R}
def IV:=cw 7635736742594467534504881056365 2 YL
def Vs:PySem.code "list.__iadd__"=7635736742594467534504881056365:=by decide+kernel
def aav:b9 IV:=cB "list.__iadd__" Builtin.«list.__iadd__» Vs (cz<|by kernel_rfl) λa b H d Q n sl e l R c m g T J t A Z h w s C f j=>by
 obtain⟨p,M⟩:=g;obtain⟨o,y,_⟩:=f;have O:∀i:String,e=.type i->(i="list"\/i="tuple")->aW (aE pw T) A Z (Builtin.«list.__iadd__» #[[.ref a,.ref b],[]]) h w s:=by
  intro i E k;subst E;have Y:slotArgs "__iadd__" 1 #[[.ref a,.ref b],[]]=pure (.ref a,[.ref b]):=rfl;unfold Builtin.«list.__iadd__»;simp only[Y,pb];rw[ob<|oD (bA _ y rfl) ?_];have X:(Sk (.ref a) (.ref b)||aI i==aI "list"||aI i==aI "tuple")=true:=by rcases k with rfl|rfl<;>simp
  rw[(if_pos X)▸(ob<|mR y rfl<|ob<|mR o rfl ?_)];have I:((not (Q.isEmpty))&&zl (Q.size+R.size))=false:=by have:zl (Q.size+R.size)=false:=decide_eq_false<|l5.mpr M;rw[this,];simp
  rw[if_neg (by rw[I,];rw[kU]),];rw[ob (wx o rfl (pM (o':=#[H,d,.seq (Q++R)<|iD Q.size (Q++R).size n,sl]) o rfl j) (MF M) (by simp;rw[MG M]))]
 rcases(Bool.or_eq_true _ _).mp p with U|U
 .rw[O "list" (qR U)<|.inl rfl]
 .rw[O "tuple" (th U Hg)<|.inr rfl]
def dI(x:aA):Prop:=x.cps.size<=eF
def an3(hz:x.cps.size<=eF)(h:aW (aE pw w) A c (eO<|.int x.cps.size<|s.toks+1) Q E {s with toks:=s.toks+1+1}):aW (aE pw w) A c (Builtin.«len» #[[.str x t],[]]) Q E s:=by
 rw[ob<|bK ?_];rw[ob<|wpAny_callSpecial?_slot (name:=Str.ofString "__len__") rfl F.slot_str_len
  <|y8 F.slot_str_len rfl F.entry_str_len ?_<|F.args_str_len_1 _]
 show d_ _ _ (do retInt x.length) _ _ s;rw[aT<|R5<|bK #[_,rfl,(ob<|iw<|bK<|ob<|R3 ?_)]];show aW _ _ _ (if(x.cps.size:Int)<0 then _ else if(x.cps.size:Int)>=2^63 then _ else retInt x.cps.size) _ _ _;rw[if_neg<|by lia,if_neg (by have:eF=16777216:=rfl;lia)];rw[ob<|R5 h]
def YT:RF (.s .nil) .nil .nil:=λx U=>{t:=.fresh λU=>.fresh λD=>eO<|.int x.cps.size D,P:=dI x}
def I4:=cw 7300717 0 YT
def aaC:b9 I4:=cB "len" Builtin.«len» AT (cz<|by kernel_rfl) λx D g T J t A Z h w s C f j=>an3 g<|jG<|jG j
def Q3:∀{l},rQ l->Gp l (jr l)
 |[],_=>.nil
 |.str y D::l,h=>.cons y D<|Q3 h
 |.none::_,h|.bool _::_,h|.int _ _::_,h|.float _ _::_,h|.bytes _ _::_,h|.type _::_,h|.builtin _::_,h|.ref _::_,h|.ellipsis::_,h|.notImplemented::_,h=>h.elim
def l7(H:af)(xs:Array af):Prop:=qS H 439922816629=true/\rQ xs.toList
def YZ:RF (.r<|.s .nil) .nil (.q .nil):=λa x U H U Q U U=>{t:=eO<|.bool<|(jr Q.toList).any (·==x),as:=[a],P:=l7 H Q}
def Jg:=cw 8395601325623592240556648632771639105386101 1 YZ
def VH:PySem.code "tuple.__contains__"=8395601325623592240556648632771639105386101:=by decide+kernel
def aaP:b9 Jg:=cB "tuple.__contains__" Builtin.«tuple.__contains__» VH (cz<|by kernel_rfl) λa x L H d Q n sl g T J t A Z h w s C f j=>by obtain⟨b,M⟩:=g;have b:=th b Hg;subst b;have u:aW (aE pw T) A Z (Builtin.«tuple.__contains__» #[[.ref a,.str x L],[]]>>=λr=>o6 r) h w s:=ob<|PyProof.Rows.tuple_contains_strs ⟨_,f.1,rfl,n,rfl⟩ (Q3 M) j;have e:∀E:bk Fin,(E>>=λr=>o6 r)=E:=λE=>PySem.Sem.bind_pure E;rwa[e]at u
def y7(O:Bool):String:=if O then"dict_keyiterator"else"dict_valueiterator"
def vwP(O:Bool)(e:bv):af:=if O then e.key else e.val
section
variable{w:eI} {A:dW} {E:af->aN->Prop} {s:aN} {it:aH}
end
def gS(O:Bool)(H cd:af)(es:!bv)(n:N)(i z e:Int)(v:af):Prop:=H=.type (y7 O)/\mu cd=true/\z=es.length/\e=n/\0<=i/\∃x,es[i.toNat]? =some x/\vwP O x=v
def BD(O:Bool):RF (.r .nil) (.v .nil) (.f (.r<|.i<|.i<|.i .nil)<|.d .nil):=λu v H a d i p z q e b sl S U k n U=>{t:=.update u none (λU=>#[H,a,.fields #[[.ref d,.int (i+1) 0,.int z q,.int e b]],sl]) λU=>eO v,as:=[u,d],P:=gS O H S k n i z e v}
def I2:=cw 604966931542717672622778513967276790323241898245050534750821 2<|BD true
def Ji:=cw 39647112825583545393006412691359451730623886891278502357897603685 2<|BD false
def Hd:PySem.code "dict_keyiterator.__next__"=604966931542717672622778513967276790323241898245050534750821:=by decide+kernel
def Hi:PySem.code "dict_valueiterator.__next__"=39647112825583545393006412691359451730623886891278502357897603685:=by decide+kernel
def RU(O)(y:b=if O then Builtin.«dict_keyiterator.__next__» else Builtin.«dict_valueiterator.__next__»):sy b _ _ _ (BD O):=λu v H a d i p z q G F sl S r k n e g T J t A Z h w s C f D=>by
 obtain⟨rfl,B,rfl,rfl,j,x,L,X⟩:=g;have B:=lC B;subst B;obtain⟨m,o,_⟩:=f;have E:s.TypeIs (.ref u) (y7 O):=bA _ m rfl;obtain⟨K,rfl⟩:=Sr j
 have c:aW (aE pw T) A Z (.pure<|.done<|.ret v) h w {s with heap:=s.heap.update u<|iW (·.setIfInBounds 1 (im<|K+1))}:=pM m (by cases O<;>rfl) D
 subst X;cases O
 all_goals
  subst y;rw[ob<|bK<|ob<|aT ?_];first|rw[aT (E7 E<|bK ?_)]|rw[aT<|E_ E<|bK ?_]
  rw[aT<|wpAny_fieldsOf m rfl<|aT<|bK<|aT<|wu o rfl ?_];rw[if_neg<|by simp,];rw[aT<|bK<|aT<|zb o rfl ?_];rw[if_neg<|by simp,];rw[bK ?_];simp only[show¬(K<0)from by lia,if_false,Fv,(by simpa using L:(#[k]:Array bv)[K]? =some x)];rw[ob ?_];first|rw[aT (E7 E<|bK ?_)]|rw[aT<|E_ E<|bK ?_]
  first|rw[ob (asq E ?_)]|rw[ob<|R2 E ?_]
  show aW _ _ _ (setField (.ref u) 1 (im<|K+1)>>=_) _ _ s;refine ob (p8 m rfl (by simp) ?_);have l:(s.heap.update u<|iW (·.setIfInBounds 1 (im<|K+1))).get? u=some _:=qf _ m<|Obj.isFreed_of_fields<|Obj.data_mapFields rfl _;rw[ob<|iw ?_]
 .rw[aT<|R2 #[_,l,rfl]<|aT<|R2 #[_,l,rfl]<|bK c]
 .rw[aT<|asq (bA _ l rfl)<|bK c]
def aaB:b9 I2:=cB "dict_keyiterator.__next__" _ Hd (cz<|by kernel_rfl)<|RU true rfl
def aaR:b9 Ji:=cB "dict_valueiterator.__next__" _ Hi (cz<|by kernel_rfl)<|RU false rfl
def qC(O:Bool)(H cd:af)(es:!bv)(n:N)(i z e:Int):Prop:=H=.type (y7 O)/\mu cd=true/\z=es.length/\e=n/\i=es.length
def BE(O:Bool):RF (.r .nil) .nil (.f (.r<|.i<|.i<|.i .nil)<|.d .nil):=λu H a d i p z q e b sl S U k n U=>{t:=.update u none (λU=>#[H,a,.fields #[[.none,.int i p,.int z q,.int e b]],sl]) λU=>yU,as:=[u,d],P:=qC O H S k n i z e}
def I1:=cw 604966931542717672622778513967276790323241898245050534750821 2<|BE true
def Jh:=cw 39647112825583545393006412691359451730623886891278502357897603685 2<|BE false
def RT(O)(y:b=if O then Builtin.«dict_keyiterator.__next__» else Builtin.«dict_valueiterator.__next__»):sy b _ _ _ (BE O):=λu H a d i p z q G x sl S r k n e g T J t A Z h w s C f j=>by
 obtain⟨rfl,l,rfl,rfl,rfl⟩:=g;have l:=lC l;subst l;obtain⟨m,o,_⟩:=f;have E:s.TypeIs (.ref u) (y7 O):=bA _ m rfl
 have c:aW (aE pw T) A Z yU h w {s with heap:=s.heap.update u<|iW (·.setIfInBounds 0 .none)}:=pM m (by cases O<;>rfl) j
 rw[<-Q1]at c;cases O
 all_goals
  subst y;rw[ob<|bK<|ob<|aT ?_];first|rw[aT (E7 E<|bK ?_)]|rw[aT<|E_ E<|bK ?_]
  rw[aT<|wpAny_fieldsOf m rfl<|aT<|bK<|aT<|wu o rfl ?_];rw[if_neg<|by simp,];rw[aT<|bK<|aT<|zb o rfl ?_];rw[if_neg<|by simp,];rw[bK ?_];simp only[show¬(k.length<0)from by lia,if_false,Fv,(by simp:(#[k]:Array bv)[k.length]? =none)];rw[ob ?_];first|rw[aT (E7 E<|bK ?_)]|rw[aT<|E_ E<|bK ?_]
  rw[ob<|p8 m rfl (sr _) c]
def aaA:b9 I1:=cB "dict_keyiterator.__next__" _ Hd (cz<|by kernel_rfl)<|RT true rfl
def aaQ:b9 Jh:=cB "dict_valueiterator.__next__" _ Hi (cz<|by kernel_rfl)<|RT false rfl
def ml(k:aA):!bv->!bv
 |[]=>[]
 |e::es=>match gf k e with
  |true=>es
  |false=>e::ml k es
def Xh:∀{es i},es.findIdx? (gf k)=some i->es.eraseIdx i=ml k es:=by
 intro J;induction J with
 |nil=>intro _ U;simp at U
 |cons e es C=>
  intro i U;rw[SW]at U
  revert U;show _->_=cond (gf k e) es (e::ml k es);cases gf k e
  .exactλU=>aJ (zW.mp U) λK D P=>P▸congrArg (e::·) (C D)
  .exactλU=>dY U▸rfl
def Yx:RF (.r<|.s .nil) .nil (.d .nil):=λd j U H a k n sl=>{t:=.fresh λU=>.update d none (λU=>#[H,a,.dict #[ml j k]<|n+1,sl]) λU=>eO .none,as:=[d],P:=zX H k j/\k.length<=eF}
def IE:=cw 128106587276438654302609470569207589477 1 Yx
def Vg:PySem.code "dict.__delitem__"=128106587276438654302609470569207589477:=by decide+kernel
def aae:b9 IE:=cB "dict.__delitem__" Builtin.«dict.__delitem__» Vg (cz<|by kernel_rfl) λd z Y H a k n sl g T J t A Z h w s C f j=>by
 obtain⟨⟨l,M,X⟩,I⟩:=g;have l:=lC l;subst l;obtain⟨o,_⟩:=f;rw[dm (uL.mp X) λU b=>Bn (Bl b) λi e S m D D=>ob<|aT<|aT<|oD (bA _ o rfl)<|bK<|aT<|bK<|bK ?_];rw[ob<|bK<|ob<|iw<|aT<|ze<|aT<|ww o rfl M<|S▸(aT<|wu o rfl<|m▸?_)];have c:((#[k]:Array bv).eraseIdxIfInBounds i).size<=(#[k]:Array bv).size+1:=by
  unfold zi;split
  .rw[Array.size_eraseIdx,];rw[ahH]
  .rw[oU _]
 refine aT (R7 o rfl (bK<|ob<|R3 ?_) (by simpa using I) c);have G:i<k.length:=by have:=(wA.mp m).1;simpa using this
 have K:(#[k]:Array bv).eraseIdxIfInBounds i=#[ml z k]:=by refine(Xh<|by simpa using S)▸?_;unfold zi;rw[(dif_pos G)▸hU (by simp)]
 have O:Gi (λx=>x.eraseIdxIfInBounds i) #[.type "dict",a,.dict #[k] n,sl]=#[.type "dict",a,.dict #[ml z k]<|n+1,sl]:=by rw[K▸?_];rfl
 rw[pM (s:={s with toks:=s.toks+1}) o O<|jG j]
def qB(cd:af)(d:aH):Prop:=mu cd=true/\1<d
def Yz:RF (.r .nil) .nil (.d .nil):=λd S U k n U=>{t:=newFields "dict_keyiterator" [.ref d,im 0,im k.length,im n]>>=gt,as:=[d],P:=qB S d}
def YD:RF (.r .nil) .nil (.d .nil):=λd S U k n U=>{t:=newFields "dict_values" [.ref d]>>=gt,as:=[d],P:=qB S d}
def II:=cw 7635753672628796759583452588645 1 Yz
def IM:=cw 140719261054343729373276773 1 YD
def Vl:PySem.code "dict.__iter__"=7635753672628796759583452588645:=by decide+kernel
def Vn:PySem.code "dict.values"=140719261054343729373276773:=by decide+kernel
def Qt(h:1<d):((d:aH)==yW)=false:=beq_eq_false_iff_ne.mpr λe=>by rw[ahR h e]
def aai:b9 II:=cB "dict.__iter__" Builtin.«dict.__iter__» Vl (cz<|by kernel_rfl) λd S a k n sl g T J t A Z h w s C f j=>by obtain⟨b,M⟩:=g;have b:=lC b;subst b;obtain⟨m,_⟩:=f;rw[ob<|aT<|ass (bA _ m rfl)<|bK<|ob<|bK<|ob ?_];unfold Si;rw[if_neg (by rw[Qt M,];rw[kU]),];rw[bK<|ob<|wu m rfl<|ob<|zb m rfl j]
def aam:b9 IM:=cB "dict.values" Builtin.«dict.values» Vn (cz<|by kernel_rfl) λd S a k n sl g T J t A Z h w s C f j=>by obtain⟨b,M⟩:=g;have b:=lC b;subst b;obtain⟨m,_⟩:=f;rw[ob<|aT<|ass (bA _ m rfl)<|bK<|ob ?_];unfold Si;rw[if_neg (by rw[Qt M,];rw[kU]),];rw[bK j]
def BN(i:Int):bk Fin:=.fresh λD=>eO<|.int i D
def sw(x y:aA)(i:N):Prop:=∃r,zm x y 0 x.length 1=i::r
def YN:RF (.s<|.s .nil) (.i .nil) .nil:=λx U y U j U=>{t:=BN j,P:=j.rec (sw x y) λU=>False}
def IX:=cw 2239434458985225483636 0 YN
def Vt:PySem.code "str.index"=2239434458985225483636:=by decide+kernel
def aa6(h:sw x y i):Builtin.«str.index» #[[.str x t1,.str y G],[]]=BN (.ofNat i):=by rw[dm h λr h=>?_];show(match zm x y 0 (min x.length x.length) 1 with|i::_=>retInt i|[]=>(do rule "str.index.not-found";raiseError "ValueError" "substring not found"))=_;simp only[Nat.min_self,h];rfl
def aax:b9 IX:=cB "str.index" Builtin.«str.index» Vt (cz<|by kernel_rfl) λx Y y G i E=>match i with
 |.ofNat _=>λg K K K K K K K K K K z=>lu (aa6 g) z
 |.negSucc _=>λU=>U.elim
def jy(x:aA):Array UInt8:=#[x.cps.toList.map zU]
def uM(x:aA):Prop:=(∀Z∈x.cps.toList,Z<128)/\x.cps.size<=eF
def Zh:∀(l:!N) (m),l.foldl (λm y=>m++(fK._codecs.asciiCodec.bytesOf y).toArray) m=m++#[l.map zU]:=by
 intro J;induction J with
 |nil=>intro m;rfl
 |cons Z l C=>intro m;simp only[SX,C];show(m++(List.toArray [Z.toUInt8]))++_=_;simp only[Array.append_assoc];congr 1;rw[hU<|by simp]
def arH{t:Type}{f:N->t->bk (ForInStep t)}{T b1:t}(a:f 0 T=pure (.yield b1))(M:∀i,f i b1=pure (.done b1)):∀n,forIn (GM 0 (n+1) 1<|ζ) T f=pure b1:=λn=>by
 simp only[GL,(by simp[TE]:(GM 0 (n+1) 1<|ζ).size=n+1),List.range'_succ,zG,a,pb];cases n with
 |zero=>rfl
 |succ n=>show forIn ((0+1)::_) b1 f=_;simp only[zG,M,pb]
def amh{t:Type}{f:N->t->bk (ForInStep t)}{b:t}:forIn (GM 0 0 1<|ζ) b f=pure b:=by simp only[GL];rfl
def GY{n a:Type}{e:bk n}{v:n}{k:n->bk a}{r:bk a}(h:e=pure v)(q:k v=r):(e>>=k)=r:=by simp only[h,pb];rw[q]
def X4(id a x)(h:uM x):fK._codecs.encodeNarrow id fK._codecs.asciiCodec none a x=pure (jy x):=by
 obtain⟨⟨l⟩⟩:=x;rw[ct h λf M=>?_];have c:∀Z∈l,fK._codecs.asciiCodec.bad Z=false:=λZ d=>decide_eq_false<|qx.mpr<|f Z d;cases l with
 |nil=>rw[GY amh rfl]
 |cons Z l=>
  have e:(ar (Z::l)).extract 0 (ar (Z::l)).size=ar (Z::l):=Array.extract_size;have j:(ar (Z::l)).findIdx? fK._codecs.asciiCodec.bad=none:=by rw[Fd,];intro y b;rw[c y (by simpa using b)]
  have I:(ar (Z::l)).foldl (λm y=>m++(fK._codecs.asciiCodec.bytesOf y).toArray) (List.toArray [])=jy #[#[Z::l]]:=by have u:=Zh (Z::l) (List.toArray []);simp only[Sc]at u;rw[<-Array.foldl_toList];rw[u]
  have Y:¬((jy #[#[Z::l]]).size>eF):=by rw[(by simp[jy]:(jy #[#[Z::l]]).size=(Z::l).length)▸l5.mpr M]
  rw[GY (arH (b1:=(0+(ar (Z::l)).size,jy #[#[Z::l]],{})) (JA ζ<|abl (by rw[c Z<|.head _,];rfl:((not (fK._codecs.asciiCodec.bad Z)))=true) ?_) (λi=>JA Y ?_) l.length) rfl]
  .dsimp only
   rw[e,j];dsimp only[Option.getD];rw[e,I]
  .rw[(by simp:(ar (Z::l))[0+(ar (Z::l)).size]? =none)▸rfl]
def XZ(id a x):fK._codecs.encodeRoad id a x #[#[[97,115,99,105,105]]] none=(do yd (<-fK._codecs.encodeNarrow id fK._codecs.asciiCodec none a x)):=by kernel_rfl
def Zs(b:Array UInt8):bk Fin:=.fresh λD=>eO<|.bytes b D
def X5(x t1 G):Builtin.«str.encode» #[[.str x t1,.str #[#[[97,115,99,105,105]]] G],[]]=(do gt (<-fK._codecs.encodeRoad "str.encode" (.str x t1) x #[#[[97,115,99,105,105]]] none)):=by kernel_rfl
def YH:RF (.s<|.asc .nil) .nil .nil:=λx U=>{t:=Zs<|jy x,P:=uM x}
def IQ:=cw 483552601124663068947828 0 YH
def Vo:PySem.code "str.encode"=483552601124663068947828:=by decide+kernel
def aaq:b9 IQ:=cB "str.encode" Builtin.«str.encode» Vo (cz<|by kernel_rfl) λx Y G g U U U U U U U U U U z=>lu (by rw[X5,XZ,X4 _ _ _ g];show(do gt (<-yd (jy x)))=_;unfold yd;rw[if_neg<|l5.mpr (by show(jy x).size<=eF;rw[(by simp[jy]:(jy x).size=x.cps.size),];rw[g.2]),];rfl) z
def zZ(a b r:Int):Prop:=a=16/\∃n:N,n<=5/\b=ad n/\r=ad (16^n)
def YX:RF (.i<|.i .nil) (.i .nil) .nil:=λa U b U r U=>{t:=BN r,P:=zZ a b r}
def Jc:=cw 116512447577011902704086890 0 YX
def VD:PySem.code "int.__pow__"=116512447577011902704086890:=by decide+kernel
def aaL:b9 Jc:=cB "int.__pow__" Builtin.«int.__pow__» VD (cz<|by kernel_rfl) λa Y b G r E g K K K K K K K K K K z=>lu (by obtain⟨rfl,n,w,rfl,rfl⟩:=g;rw[oh n (qt w) rfl λU=>oh n U rfl λU=>oh n U rfl λU=>oh n U rfl λU=>oh n U rfl λU=>oh n U rfl λU=>nomatch U]) z
def gi(_:String)(_:kT)(_:aR):Option (bk Fin×aR×!As):=none
def gp:b9 gi:=λK K K K K K K K U=>nn U
def yn:!Ar->rW
 |[],_=>gi
 |f::_,0=>f
 |_::l,j+1=>yn l j
def bH(h:b9 f)(a:∀j,b9<|yn l j):∀j,b9<|yn (f::l) j
 |0=>h
 |j+1=>a j
def xN:rW:=yn [Ja,IR,IP,IB,IA,IT,IU,Jb,IS,I_,I9,IO,I3,IN,Jd,IC,Je,Jf,IW,IZ,I8,IY,ID,I7,IF,IH,IJ,IG,IK,IL,IE,II,I2,I1,Ji,Jh,IV,Jg,IM,I6,gi,gi,gi,gi,gi,gi,gi,gi,gi,gi,gi,gi,gi,gi,gi,gi,gi,gi,gi,gi,I4,IX,gi,IQ,Jc]
def xO(w F m):uA xN w F m:=have b:∀K,b9 (xN K):=bH aaJ<|bH aar<|bH aap<|bH Z_<|bH Z7<|bH aau<|bH aat<|bH aaK<|bH aas<|bH aaI<|bH aaH<|bH aao<|bH aaE<|bH aan<|bH aaM<|bH aac<|bH aaN<|bH aaO<|bH aaw<|bH aaz<|bH aaG<|bH aay<|bH aad<|bH aaF<|bH aaf<|bH aah<|bH aaj<|bH aag<|bH aak<|bH aal<|bH aae<|bH aai<|bH aaB<|bH aaA<|bH aaR<|bH aaQ<|bH aav<|bH aaP<|bH aam<|bH aaD<|bH gp<|bH gp<|bH gp<|bH gp<|bH gp<|bH gp<|bH gp<|bH gp<|bH gp<|bH gp<|bH gp<|bH gp<|bH gp<|bH gp<|bH gp<|bH gp<|bH gp<|bH gp<|bH gp<|bH gp<|bH aaC<|bH aax<|bH gp<|bH aaq<|bH aaL<|λU=>gp;λK=>b K w F m K
def z(l:!N):!(N×N):=l.map λa=>(a,a)
def asv(l):∀p∈z l,p.1=p.2:=λp I=>by rw[aJ (bn.mp I) λa U P=>?_];subst P;rfl
def V(P:eH)(k:aA)(t:N)(v:af):bv:=#[hs P k,.str k t,v]
def az(es:!bv)(n:N):Obj:=#[.type "frame",none,.dict #[es] n,#[[]]]
def wT(s:bO):PySem.Expr:=match s with
 |.While D _ _ _=>D
 |_=>.Constant .none 0 default
def wB(s:bO):!bO:=match s with
 |.While _ b _ _=>b
 |_=>[]
def wO(s:bO):!bO:=match s with
 |.While _ _ Y _=>Y
 |_=>[]
def whl(s:bO)(O:aX):bj:=.whileLoop (wT s) (wB s) (wO s) O
abbrev iq:aA:=#[#[[110,117,109]]]
abbrev iu:aA:=#[#[[118,97,108]]]
abbrev ip:aA:=#[#[[65,80]]]
abbrev pX:aA:=#[#[[109,111,100]]]
abbrev i8:Array UInt8:=#[[65,66,67,68,69,70,71,72,73,74,75,76,77,78,79,80]]
def aa(xs:Array af)(n:N):Obj:=#[.type "list",none,.seq xs n,#[[]]]
def aD(xs:!af):Obj:=#[.type "tuple",none,.seq #[xs] 0,#[[]]]
def ak(es:!bv)(n:N):Obj:=#[.type "dict",none,.dict #[es] n,#[[]]]
def bm(v:af):Obj:=#[.type "cell",none,.cell<|some v,#[[]]]
def cE:Obj:=#[.type "cell",none,.cell none,#[[]]]
abbrev Fs:=aH->Obj->Prop
abbrev ao:=List<|aH×Obj
structure Wd where
 w:eI
 b1:Bool
 b2:Bool
 b3:Bool
abbrev Wd.P(x:Wd):eH:=x.w.params
abbrev Wd.W(x:Wd):eI:=Mine.W x.w x.b1 x.b2 x.b3
abbrev aj:Mk:=#[none,none,false]
@[irreducible]noncomputable def ex(x:Wd)(t:Mk)(b:N)(j:rY)(g:aR):av:=yM (T x.P) x.W xN 100000 b t j g
def xv(x t b j g):ex x t b j g=yM (T x.P) x.W xN 100000 b t j g:=by unfold ex;rfl
abbrev cf(L:ao)(n t:N)(h:!N)(gv:!af)(O Y:ao):aR:=#[L,n,t,h,gv,0,O,Y]
def hN:!N->N->N
 |[],_=>0
 |a::_,0=>a
 |_::l,i+1=>hN l i
def hT:!N:=[0x3fc04,0x11c10,0x1211121212c102,0x12211121112,0x4441311131313c103,0x413f0416728077ff0f20ff0f20ff01ff01ff01ff0,0x150ff0418d0b601141d6066aa01aa0cd0,0x888811ab1c0bbb9399910,0xe90c70,0x3448002d22210d08000f051131533aa0aa016,0x555544866a6661666a6661666a6661666a666166a1038004343,0x9198188a77777a105aa1051c1031bbfe0b111b5558005444,0x17e1ee80021c02224a114449c0,0x1150ff0,0x511df4bb1bbbd9901dd8888d10,0xa304114451221a304151221a306664152c1021a30444311131333113fe03113,0xf00f00f00f0112014100100100ffeff1f1f,0x2c10211121112,0xd40dddd1c4cc0,0xd1d9ad0ad091bb1b1990c105551107898880d0454f60,0x883888181831336d801331316117171c107fe0fe071117666,0x77771f1841200d018488aa0aa016,0x3131c103fe0fe0311135,0x57361a0686999c910f80,0x5110b0f4bb1bbb0b099010b00b0dddddddd1,0x41b608d0b603f041d60,0x77a7771777a7771777a777177a10,0x98b0bb1b1990c1051f60,0x9704,0x4141c104fe0fe0411147,0x511cf4bb1bbbc9901cc999999991,0x1c10fe0211124,0x51cc1cccc0d00b00b0ec401c40ec401c40ec4010b00b0e1eee999b991919,0xb08e05555c3010d01155800292220d08000f051150f051151541555c309e5043c,0x587177f705111555e90155541b05a905558003646,0xaa0140077733ae0,0x77377717898699998181c108fe0fe081118666,0xf701e90559b0555563646,0x51105120c30733aae033aae033aae03a102212229b0930,0x7171c107111fe071717c107,0x380015,0xff01ff01ff05444,0xddd1c1fe0c1c1c11fe0c0b0,0x5160d00d090c0270dccc0c0998991919,0x6609414488888884a90144661661333,0x4385333350c092010f00f01100100100120ffeff1f1fef0ef0ef0,0x88881899991,0x4541802a9aaa560d015800292220d08000f061156a9075533333ae0,0x77a771717aa01411044aa04a90,0xa903f051221f00333414114a901,0xff0116616166ff01113fc0777e001,0x3f0c11cc99899191,0x5888881155c307334ae0334ae0334ae034144461511415,0x51dd1dddd0c0cceb00ceb00ceb00e1eee8960,0x1b60ff018d0f20fa05444,0xab9bbb4151c055522122244a90,0x3131c103111fe031313c103,0x1fe1ee50c092051b55597971797dd0b0960,0x110110110,0xb00b00b0,0x55555,0x5fc03,0x1111,0xfb06fb06,0x4133111311136,0x61304451221a304555121fe02121211fe0244,0x1508601501501501150150,0x1808901801801801180180,0x113f0ff0e301ff0f20fa0,0xff0413f0444f20ff05d60,0xfe0fe0fe0fe0,0x444fd014fc05,0x5165ee0615fc0666aa0,0xf2041,0x55155,0x5166432703a90aa10800292220d0f551,0x5110d061d761dd8888d10f61d7d1301001,0x510d0510d0c30,0xe207731432503,0xccc1cc,0x8160ddd0b0d10,0x33313,0x99919,0x51541555544977a77717e5068003646,0x660d3133999999933ae03771771666,0x6666,0x4444,0x11aa1a13113d7045,0xd7035,0x88188,0x514ee0,0xd0133d7045,0xfe021fe02,0x150f0441c20111c20c201c2033,0xa1aaa,0x1503fc0888e004,0x141ff0e3044ff0,0x50b0cccc1cb00172a05c1066,0x19b1bb5f50,0x5800152305,0x541c0444,0x8501850850850,0x2a9aaa37,0x53aaaa1aa21155a90a9014,0x333fd0,0x88b881818,0x515431c0333b508005444,0x515ac10a1fe0a1fe0acd0,0x51541e044555,0xc00c00c0,0x77e771717,0x1503fc0777e004f20e60,0x8880c0aa016ea0ea0ea0,0x430b0533335548555a90,0xff0f204,0x35800152405,0x1988a60a601]
def Hf:N->N->!N
 |0,_=>[]
 |f+1,n=>match eX n 0 with
  |true=>[]
  |false=>match eX (n%16) 0 with
   |true=>match oQ 139 (n/16%256)with
    |true=>Hf f (hN hT<|255-n/16%256)++Hf f (n/4096)
    |false=>(match oQ 2048 (n%4096)with
     |true=>n/16%256+872
     |false=>n/16%256-1)::Hf f (n/4096)
   |false=>hN [0,0,1001,3,2,1,4,5,6,7,1002,1003,9,8,1004,13] (n%16)::Hf f (n/16)
abbrev H(n:N):!N:=Hf 2000 n
def fz(F:Fs)(X:ao):Fs:=λa Y=>F a Y\/(a,Y)∈X
def an:Le F (fz F X):=λ_ _ U=>.inl U
def aV:Le F F:=λ_ _ U=>U
def dP(h:Le F U)(k:Le U a7):Le F a7:=λa Y x=>k a Y<|h a Y x
def cb(h:Le F U):Le F (fz U X):=λa Y x=>.inl<|h a Y x
def bN(h:Le (fz F X) U):Le F U:=λa Y x=>h a Y<|.inl x
def bc(h:(a,o)∈X):fz F X a o:=.inr h
def gz(F:Fs):ao->Prop
 |[]=>True
 |p::l=>F p.1 p.2/\gz F l
def gz.mem{F:Fs}:∀{l:ao},gz F l->∀p∈l,F p.1 p.2:=by
 intro J;induction J with
 |nil=>intro _ _ U;rw[nomatch U]
 |cons q l C=>intro g p U;rw[(aY.mp U).elim (λe=>e▸g.1)<|C g.2 p]
structure bg (x:Wd) (F:Fs) (L:ao) (K s:aN):Prop where
 base:jR (T x.P) F
 rep:bF F K (cf L s.heap.objs.size s.toks [] [] [] []) s
abbrev Po:=Fs->aL->ao->Prop
inductive QS (k:!N) (F':Fs):aL->ao->Prop
 |mk (t:N):QS k F' (.ok (.ret (.str #[#[k]] t))) []
inductive QT (k:!N) (F':Fs):aL->ao->Prop
 |mk (t:N) {L':ao}:QT k F' (.ok (.ret (.str #[#[k]] t))) L'
inductive QK (R:aL) (L:ao) (F':Fs):aL->ao->Prop
 |mk:QK R L F' R L
inductive QB (v:!UInt8) (F':Fs):aL->ao->Prop
 |mk (t:N):QB v F' (.ok (.ret (.bytes #[v] t))) []
def ay(x:Wd)(t:Mk)(b:N)(c:bj)(F:Fs)(L:ao)(Q:Po):Prop:=∀w m s A,fJ b t A->bg x F (L++w) m s->gJ (aE pw x.W) A c (λr P=>∃T h,Le F T/\bg x T (h++w) m P/\Q T r h) s
def Go(x:Wd)(t:Mk)(b:N)(F0:Fs)(Q:Po)(F:Fs)(Y:ao)(o:ao->av):Prop:=∀w m A,fJ b t A->jR (T x.P) F->iH x.W m A (λr P=>∃a h,Le F0 a/\bg x a (h++w) m P/\Q a r h) (o<|Y++w) F
section
variable{x:Wd} {G:Mk} {b:N} {c:bj} {F F0:Fs} {L L1 L2 O X Y:ao} {Q:Po} {r:aL} {h:!N} {gv:!af} {J:!(Bool×Bool)} {ps:!Prop} {K s:aN}
def ay.le{j:N}{d:Po}(g:ay x G b c F L Q)(y:b<=j)(u:∀r F' L',Le F F'->Q F' r L'->d F' r L'):ay x G j c F L d:=λw m s A C B=>jz (g w m s A #[b8 (qr y _) C.1,C.2.1,b8 (qr (zR 4 y) _) C.2.2.1,C.2.2.2] B) λr P a=>cp a λF' L' l H q=>bX F' L' l H<|u r F' L' l q
def rx{l m:ao}(h:((l++m).map (·.1)).Nodup):(l.map (·.1)).Nodup/\(m.map (·.1)).Nodup/\∀p∈l,∀q∈m,p.1≠q.1:=by rw[bf,jV]at h;rw[#[h.1,h.2.1,λp I q u=>h.2.2 _ (bw I) _<|bw u]]
def bg.run(S:bg x F (L++Y) K s)(R:gz F O):bF F K (cf L s.heap.objs.size s.toks h gv O Y) s:=by rw[ek (rx S.rep.nd) λl J D=>?_];rw[#[S.rep.fr,λp I=>S.rep.led p<|fZ _ I,l,λp I=>S.rep.dj p<|fZ _ I,rfl,rfl,S.rep.rest,λp I=>R.mem p I,#[λp I=>S.rep.led p<|dX _ I,λp I H=>?_,J,λp I=>S.rep.dj p<|dX _ I]]];rw[aJ (bn.mp H) λq u e=>D q u p I e]
def bg.back{g:aR}(B:jR (T x.P) F)(R:bF F K g s)(w:((L1++L2).map (·.1)).Nodup)(H:∀p∈L1++L2,p∈g.L):bg x (fz F L2) (L1++g.Y) K s:=by
 rw[ek (rx w) λl J D=>?_];have z:∀p∈L1++L2,∀q∈g.Y,p.1≠q.1:=λp I q u e=>R.hy.off q u<|e▸bw (H p I);rw[⟨B.mono λ_ _=>.inl,λa Y e=>?_,λp I=>?_,?_,λp I Y e=>?_,rfl,rfl,R.rest,λ_ U=>(cQ U).elim,#[λ_ U=>(cQ U).elim,λ_ U=>(cQ U).elim,.nil,λ_ U=>(cQ U).elim]⟩]
 .rw[e.elim (R.fr a Y) λe=>R.led (a,Y)<|H _<|dX _ e]
 .rw[(ej.mp I).elim (λI=>R.led p<|H p<|fZ _ I)<|R.hy.led p]
 .show((L1++g.Y).map (·.1)).Nodup
  rw[bf,jV];rw[⟨l,R.hy.nd,λa o b y=>(aJ (bn.mp o) λp I P=>?_)⟩];subst P;rw[aJ (bn.mp y) λq u P=>?_];subst P;rw[z p (fZ _ I) q u]
 .rw[(ej.mp I).elim (λI=>e.elim (R.dj p (H p<|fZ _ I) Y) λe=>D p I _ e rfl) λI=>e.elim (R.hy.dj p I Y) λe=>z (p.1,Y) (dX _ e) p I rfl]
def bg.perm{L L':ao}(S:bg x F L K s)(p:L.Perm L'):bg x F L' K s:=#[S.base,S.rep.fr,λq u=>S.rep.led q<|p.mem_iff.mpr u,(p.map (·.1)).nodup_iff.mp S.rep.nd,λq u=>S.rep.dj q<|p.mem_iff.mpr u,S.rep.sz,S.rep.tk,S.rep.rest,S.rep.ro,⟨λ_ U=>(nomatch U),λ_ U=>(nomatch U),.nil,λ_ U=>(nomatch U)⟩]
def ay.perm{L L':ao}(p:L.Perm L')(g:ay x G b c F L' Q):ay x G b c F L Q:=λw m s A C B=>g w m s A C<|B.perm<|p.append_right w
def bJ(R:gz F O)(k:∀n t,Go x G b F Q F Y λZ=>ex x G b (.code c)<|cf L n t h gv O Z):ay x G b c F (L++Y) Q:=λw m s A C B=>by rw[bZ]at B;have u:=k s.heap.objs.size s.toks w m A C B.base;dsimp only at u;simp only[xv]at u;rw[yN (λF=>xO _ F _) 100000 B.base b G (.code c) _ A c _ s u (B.run R) C]
def lU(R:gz F O)(k:∀n t,Go x G b F Q F Y λZ=>ex x G b (.fn a args)<|cf L n t h gv O Z):ay x G b (.call (.ref a) args) F (L++Y) Q:=λw m s A C B=>by rw[bZ]at B;have u:=k s.heap.objs.size s.toks w m A C B.base;dsimp only at u;simp only[xv]at u;rw[yN (λF=>xO _ F _) 100000 B.base b G (.fn a args) _ A (.call (.ref a) args) _ s u (B.run R) C]
def fp(R:gz F O)(k:∀n t,Go x G b F Q F [] λZ=>ex x G b (.code c)<|cf L n t h gv O Z):ay x G b c F L Q:=by have u:=bJ R k;rwa[bQ]at u
def fq(R:gz F O)(k:∀n t,Go x G b F Q F [] λZ=>ex x G b (.fn a args)<|cf L n t h gv O Z):ay x G b (.call (.ref a) args) F L Q:=by have u:=lU R k;rwa[bQ]at u
end
def pk(L:ao):!N->ao
 |[]=>[]
 |i::D=>match gN L i with
  |some p=>p::pk L D
  |none=>pk L D
def M5:∀{L i j p q},(L.map (·.1)).Nodup->gN L i=some p->gN L j=some q->p.1=q.1->i=j
 |[],_,_,_,_,_,U,_,_=>nn U
 |y::L,0,0,_,_,_,_,_,_=>rfl
 |y::L,0,j+1,p,q,hn,h1,h2,e=>by cases h1;rw[bV,c_]at hn;rw[absurd (e▸bw (mC h2)) hn.1]
 |y::L,i+1,0,p,q,hn,h1,h2,e=>by cases h2;rw[bV,c_]at hn;rw[absurd (e.symm▸bw (mC h1)) hn.1]
 |y::L,i+1,j+1,p,q,hn,h1,h2,e=>by rw[bV,c_]at hn;rw[congrArg (·+1)<|M5 hn.2 h1 h2 e]
def D4:∀{a},∀p∈pk L a,∃i∈a,gN L i=some p:=by
 intro J;induction J with
 |nil=>intro _ U;rw[(cQ U).elim]
 |cons i a C=>
  intro p U;replace U:p∈(match gN L i with
   |some p=>p::pk L a
   |none=>pk L a):=U
  cases e:gN L i with
  |some q=>
   rw[e]at U;rcases aY.mp U with rfl|U
   .rw[bA i (.head _) e]
   .rw[aJ (C p U) λK D e=>bA K (.tail _ D) e]
  |none=>rw[e]at U;rw[aJ (C p U) λK D e=>bA K (.tail _ D) e]
def vC(i:N):!N->Bool
 |[]=>true
 |K::l=> (not ((eX i K)))&&vC i l
def mB:!N->Bool
 |[]=>true
 |i::l=>vC i l&&mB l
def M3:∀{l},vC i l=true->i∉l
 |[],_,U=>(cQ U).elim
 |K::l,U,H=>by
  have z:((not ((eX i K)))&&vC i l)=true:=U;simp only[kp]at z;rcases aY.mp H with rfl|H
  .have:=z.1
   rw[Nat.beq_refl]at this;rw[oG this]
  .rw[M3 z.2 H]
def O7(w:(L.map (·.1)).Nodup):∀{a},mB a=true->((pk L a).map (·.1)).Nodup:=by
 intro J;induction J with
 |nil=>intro _;rw[.nil]
 |cons i a C=>
  intro U;have z:(vC i a&&mB a)=true:=U;simp only[kp]at z;show((match gN L i with
   |some p=>p::pk L a
   |none=>pk L a:ao).map (·.1)).Nodup
  cases e:gN L i with
  |some p=>rw[bV,c_];rw[#[λH=>(aJ (bn.mp H) λq u K=>aJ (D4 q u) λb D O=>M3 z.1<|M5 w e O K.symm▸D),C z.2]]
  |none=>rw[C z.2]
def AB:!(Bool×Bool)->Prop
 |[]=>True
 |p::l=>p.1=p.2/\AB l
def AP:!Prop->Prop
 |[]=>True
 |p::l=>p/\AP l
def AB.mem:∀{l:!(Bool×Bool)},AB l->∀p∈l,p.1=p.2:=by
 intro J;induction J with
 |nil=>intro _ _ U;rw[nomatch U]
 |cons q l C=>intro g p U;rw[(aY.mp U).elim (λe=>e▸g.1)<|C g.2 p]
def AP.mem:∀{l:!Prop},AP l->∀p∈l,p:=by
 intro J;induction J with
 |nil=>intro _ _ U;rw[nomatch U]
 |cons q l C=>intro g p U;rw[(aY.mp U).elim (λe=>e▸g.1)<|C g.2 p]
inductive kq where
 |res (r:aL)
 |next (c:bj)
 |pend (b:N) (hd:Mk) (c:bj) (k:aL->aR->av)
 |gx (b:N) (hd:Mk) (m:bk af) (k:aL->aR->av)
abbrev iN(k t:N):af:=.int (ad k) t
abbrev ah(k:!N)(t:N):af:=.str #[#[k]] t
abbrev c7(a:N)(i:Int):Obj:=#[.type "list_iterator",none,.fields #[[.ref a,.int i 0]],#[[]]]
abbrev fu(a:N)(i:Int):Obj:=#[.type "tuple_iterator",none,.fields #[[.ref a,.int i 0]],#[[]]]
abbrev Px(i n:Int):Obj:=#[.type "range_iterator",none,.fields #[[.int i 0,.int n 0,.int 1 0]],#[[]]]
abbrev Sn:Type:=Bool×Option (kq×ao×ao×!(Bool×Bool)×!Prop)×!(N×N)
def aR.sn(g:aR)(a:!N)(e:kq)(cs:!(N×N))(B:!(Bool×Bool))(ps:!Prop):Sn:=(mB a,some (e,pk g.L a,g.Y,B,ps),cs)
def av.RS(g:!N)(o:av):!(N×N)->!(Bool×Bool)->!Prop->Sn:=o.rec (λr z=>z.sn g<|.res r) (λZ z=>z.sn g<|.next Z) (λb t Z z j U=>z.sn g<|.pend b t Z j) (λb t E z j U=>z.sn g<|.gx b t E j) (λa U f d B e=>a.rec (λx y=>f ((x,y)::d) B e) (λx y=>f d ((x,y)::B) e) λc=>f d B (c::e)) λU U U=>(false,none,[])
def av.view(a:!N)(o:av):Sn:=o.RS a [] [] []
def Sn.ok(v:Sn)(R:kq×ao×ao×!(Bool×Bool)×!Prop):Sn:=(true,some R,z<|v.2.2.map (·.2))
abbrev Ev(o:av)(Y:ao)(a:!N)(e:kq)(L1 L2:ao)(B:!(Bool×Bool))(ps:!Prop):Prop:=o.view a=(o.view a).ok (e,L1++L2,Y,B,ps)
def v2(o:Wd->av)(x:Wd)(a:!N):Sn×Sn:=((o #[x.w,false,x.b2,x.b3]).view a,(o #[x.w,true,x.b2,x.b3]).view a)
def v4(o:Wd->av)(x:Wd)(a:!N):(Sn×Sn)×Sn×Sn:=(v2 o #[x.w,x.b1,false,x.b3] a,v2 o #[x.w,x.b1,true,x.b3] a)
abbrev Rs:Type:=kq×ao×ao×!(Bool×Bool)×!Prop
def ue(v:Sn×Sn)(R:Wd->Rs)(x:Wd):Sn×Sn:=(v.1.ok<|R #[x.w,false,x.b2,x.b3],v.2.ok<|R #[x.w,true,x.b2,x.b3])
def rwB(v:(Sn×Sn)×Sn×Sn)(R:Wd->Rs)(x:Wd):(Sn×Sn)×Sn×Sn:=(ue v.1 R #[x.w,x.b1,false,x.b3],ue v.2 R #[x.w,x.b1,true,x.b3])
def H3(o)(e:Wd->kq)(h:v2 o x D=ue (v2 o x D) (λx=>(e x,L1++L2,Y,J,ps)) x):Ev (o x) Y D (e x) L1 L2 J ps:=by
 obtain⟨T,a,i,P⟩:=x;exact match a with
 |false=>congrArg z6 h
 |true=>congrArg sx h
abbrev Ko:Type:=aL->aR->av
def G8(o:Wd->ao->av)(a:!N)(x:Wd)(Y:ao):Sn×Sn:=v2 (λx=>o x Y) x a
def wY(o:Wd->ao->av)(a:!N)(x:Wd)(Y:ao):(Sn×Sn)×Sn×Sn:=v4 (λx=>o x Y) x a
section
variable(o:Wd->ao->av) (D:!N) (e:Wd->ao->kq) (L1 L2:Wd->ao->ao) (J:Wd->ao->!(Bool×Bool)) (ps:Wd->ao->!Prop)
def UZ(x:Wd)(Y:ao):Sn×Sn:=ue (G8 o D x Y) (λx=>(e x Y,L1 x Y++L2 x Y,Y,J x Y,ps x Y)) x
def AG(x:Wd)(Y:ao):(Sn×Sn)×Sn×Sn:=rwB (wY o D x Y) (λx=>(e x Y,L1 x Y++L2 x Y,Y,J x Y,ps x Y)) x
variable{o D e L1 L2 J ps}
def cS(h:G8 o D=UZ o D e L1 L2 J ps:=by kernel_rfl):∀x Y,Ev (o x Y) Y D (e x Y) (L1 x Y) (L2 x Y) (J x Y)<|ps x Y
 |⟨T,false,i,P⟩,Y=>congrArg z6<|congrFun (congrFun h #[T,false,i,P]) Y
 |⟨T,true,i,P⟩,Y=>congrArg sx<|congrFun (congrFun h #[T,true,i,P]) Y
def bB(h:wY o D=AG o D e L1 L2 J ps:=by kernel_rfl):∀x Y,Ev (o x Y) Y D (e x Y) (L1 x Y) (L2 x Y) (J x Y)<|ps x Y
 |⟨T,false,false,P⟩,Y=>congrArg (·.1.1)<|congrFun (congrFun h #[T,false,false,P]) Y
 |⟨T,true,false,P⟩,Y=>congrArg (·.1.2)<|congrFun (congrFun h #[T,true,false,P]) Y
 |⟨T,false,true,P⟩,Y=>congrArg (·.2.1)<|congrFun (congrFun h #[T,false,true,P]) Y
 |⟨T,true,true,P⟩,Y=>congrArg (·.2.2)<|congrFun (congrFun h #[T,true,true,P]) Y
end
def PQ(e:Wd->kq)(L1 L2 Y:ao)(B:!(Bool×Bool))(ps:!Prop)(x:Wd):Rs:=(e x,L1++L2,Y,B,ps)
def PE(b:N)(t:Mk)(c:bj)(k:Wd->aL->aR->av)(x:Wd):kq:=.pend b t c<|k x
def sU(o)(h:v2 o x D=ue (v2 o x D) (PQ (λU=>e) L1 L2 Y J ps) x):Ev (o x) Y D e L1 L2 J ps:=H3 o (λU=>e) h
def Bv(o k)(h:v2 o x D=ue (v2 o x D) (PQ (PE b G c k) L1 L2 Y J ps) x):Ev (o x) Y D (.pend b G c<|k x) L1 L2 J ps:=H3 o (PE b G c k) h
section
variable{x:Wd} {G:Mk} {b:N} {c:bj} {F F0:Fs} {L L1 L2 O X Y:ao} {Q:Po} {o:ao->av} {a6:aL->aR->av} {D:!N} {r:aL} {J:!(Bool×Bool)} {ps:!Prop} {K s:aN}
def kq.out(e:kq)(g:aR):av:=e.rec (λr=>.ok r g) (λZ=>.again Z g) (λb t Z j=>.call b t Z g j) λb t E j=>.gx b t E g j
def yS{g:aR}{v:Sn}(q:g.sn D e cs J ps=v.ok (a7,L,Y,U,a8))(y:AB U)(c:AP a8)(h:∀g,mB D=true->pk g.L D=L/\g.Y=Y->bE w F K A R (a7.out g)):bE w F K A R (e.out g)/\(∀p∈cs,p.1=p.2)/\(∀p∈J,p.1=p.2)/\(∀p∈ps,p):=by injection q with d q;injection q with Q m;injection Q with Q;injection Q with a q;injection q with O q;injection q with b q;injection q with j I;subst a j I;rw[#[h g d #[O,b],by rw[m▸asv _],y.mem,c.mem]]
def y6{v:Sn}(a:AB U)(I:AP a7)(h:∀g,mB D=true->pk g.L D=L/\g.Y=Y->bE w F K A R (e.out g)):∀{o cs B ps},o.RS D cs B ps=v.ok (e,L,Y,U,a7)->bE w F K A R o/\(∀p∈cs,p.1=p.2)/\(∀p∈B,p.1=p.2)/\(∀p∈ps,p)
 |.ok _ _,_,_,_,q=>yS q a I h
 |.again _ _,_,_,_,q=>yS q a I h
 |.call _ _ _ _ _,_,_,_,q=>yS q a I h
 |.gx _ _ _ _ _,_,_,_,q=>yS q a I h
 |.bad,_,_,_,q=>nomatch congrArg (·.1) q
 |.need (.adr x y) o,cs,B,ps,q=>let u:=y6 a I h (o:=o) q;#[#[u.2.1 (x,y)<|.head _,u.1],λp E=>u.2.1 p<|.tail _ E,u.2.2]
 |.need (.bol x y) o,cs,B,ps,q=>let u:=y6 a I h (o:=o) q;#[#[u.2.2.1 (x,y)<|.head _,u.1],u.2.1,λp E=>u.2.2.1 p<|.tail _ E,u.2.2.2]
 |.need (.Eb c) o,cs,B,ps,q=>let u:=y6 a I h (o:=o) q;#[#[u.2.2.2 c<|.head _,u.1],u.2.1,u.2.2.1,λp E=>u.2.2.2 p<|.tail _ E]
def u6{o:av}(q:Ev o Y D e L1 L2 J ps)(y:AB J)(I:AP ps)(h:∀g,mB D=true->pk g.L D=L1++L2/\g.Y=Y->bE w F K A R (e.out g)):bE w F K A R o:=(y6 y I h q).1
def bg.got{g:aR}(hi:mB D=true)(e:pk g.L D=L1++L2/\g.Y=Y)(B:jR (T x.P) F)(R:bF F K g s):bg x (fz F L2) (L1++Y) K s:=e.2▸.back B R (e.1▸O7 R.nd hi) λp I=>let⟨_,_,h⟩:=D4 p<|e.1.symm▸I;mC h
def bp(e:∀Z,Ev (o Z) Z D (.res r) L1 L2 J ps)(y:AB J)(I:AP ps)(O:Le F0 F)(q:Q (fz F L2) r (L1++Y)):Go x G b F0 Q F Y o:=λw m A C c=>by rw[u6 (e<|Y++w) y I λz S M s d=>bX _ (L1++Y) (λa o U=>.inl<|O a o U) (by rw[bZ,];rw[.got S M c d]) q]
def bu(e:∀Z,Ev (o Z) Z D (.next c) L1 L2 J ps)(y:AB J)(I:AP ps)(u:c.quiet=true)(O:Le F0 F)(k:ay x G b c (fz F L2) (L1++Y) Q):Go x G b F0 Q F Y o:=λw m A C f=>by rw[u6 (e<|Y++w) y I λz S M=>#[u,λs d=>jz (k w m s A C (by rw[bZ,];rw[.got S M f d])) λr P L=>cp L λT h l B q=>bX T h (λa o U=>l a o<|.inl<|O a o U) B q]]
inductive qA (x:Wd) (hd:Mk) (b:N) (F0:Fs) (Q:Po) (k0:aL->aR->av) (Z:ao) (r:aL) (F':Fs) (L':ao):Prop where
 |mk (L3 Y3:ao) (pm:(L'++Z).Perm (L3++Y3)) (h:!N) (gv:!af) (O:ao) (hO:gz F' O) (k:∀n t,Go x hd b F0 Q F' Y3 λU=>k0 r (cf L3 n t h gv O U))
inductive On (x:Wd) (hd:Mk) (b:N) (F0:Fs) (Q:Po) (k0:aL->aR->av) (Lr Y:ao) (r:aL) (F':Fs) (L':ao):Prop where
 |mk (h:!N) (gv:!af) (O:ao) (hO:gz F' O) (k:∀n t,Go x hd b F0 Q F' Y λU=>k0 r (cf (L'++Lr) n t h gv O U))
def On.y{a:ao}{F':Fs}{L':ao}(k:On x G b F0 Q a6 a Y r F' L'):qA x G b F0 Q a6 (a++Y) r F' L':=by obtain⟨U,O,J,R,W⟩:=k;rw[#[L'++a,Y,by rw[bZ,],U,O,J,R,W]]
def Im(C:fJ b G A)(S:bg x F' (L'++(Z++X)) K s)(k:qA x G b F0 Q a6 Z r F' L')(l:Le F F'):Nx F K s λc a=>iH x.W K A (λr P=>∃F' L',Le F0 F'/\bg x F' (L'++X) K P/\Q F' r L') (a6 r c) a:=by obtain⟨g,f,h,U,O,J,R,W⟩:=k;rw[<-bZ]at S;have p:=S.perm<|h.append_right X;rw[bZ]at p;rw[#[F',l,_,p.run R,W _ _ X K A C p.base]]
def bg.side{g:aR}{Lc Z X:ao}(hi:mB D=true)(e:pk g.L D=L1++L2/\g.Y=Y++X)(B:jR (T x.P) F)(R:bF F K g s)(h:(L1++Y).Perm (Lc++Z)):bg x (fz F L2) (Lc++(Z++X)) K s:=by rw[<-bZ];rw[bg.perm ?_<|h.append_right X];rw[bZ,];rw[.got hi e B R]
def jf(e:∀Z,Ev (o Z) Z D (.pend a7 a8 c a6) L1 L2 J ps)(y:AB J)(I:AP ps)(h:(L1++Y).Perm (Lc++Z))(k:∀X m s A,fJ a7 a8 A->bg x (fz F L2) (Lc++X) m s->fh (aE pw x.W) A c (λr P=>∃F' L',Le (fz F L2) F'/\bg x F' (L'++X) m P/\qA x G b F0 Q a6 Z r F' L') s):Go x G b F0 Q F Y o:=λX m A C f=>by rw[u6 (e<|Y++X) y I λz S M s n d u=>gL (k (Z++X) m s n u<|.side S M f d h) λr P L=>cp L λF' L' l H q=>Im C H q λa o U=>l a o<|.inl U]
def bP(e:∀Z,Ev (o Z) Z D (.pend U a7 c a6) L1 L2 J ps)(y:AB J)(I:AP ps)(h:(L1++Y).Perm (Lc++Z))(g:ay x a7 U c (fz F L2) Lc Qc)(k:∀r F' L',Le (fz F L2) F'->Qc F' r L'->qA x G b F0 Q a6 Z r F' L'):Go x G b F0 Q F Y o:=jf e y I h λw m s A C B=>u5<|jz (g w m s A C B) λr P L=>cp L λF' L' l H q=>bX F' L' l H<|k r F' L' l q
def jC(e:∀Z,Ev (o Z) Z D (.pend a8 bb c a6) (U++a7) L2 J ps)(a:AB J)(I:AP ps)(g:ay x bb a8 c (fz F L2) U Qc)(k:∀r F' L',Le (fz F L2) F'->Qc F' r L'->On x G b F0 Q a6 a7 Y r F' L'):Go x G b F0 Q F Y o:=bP e a I (by rw[bZ,]) g λr F' L' l q=>(k r F' L' l q).y
def ZC(e:∀Z,Ev (o Z) Z D (.pend a8 bb c a6) (U++a7) L2 J ps)(y:AB J)(I:AP ps)(k:∀X m s A,fJ a8 bb A->bg x (fz F L2) (U++X) m s->fh (aE pw x.W) A c (λr P=>∃F' L',Le (fz F L2) F'/\bg x F' (L'++X) m P/\On x G b F0 Q a6 a7 Y r F' L') s):Go x G b F0 Q F Y o:=jf e y I (by rw[bZ,]) λX m s A C B=>gL (k X m s A C B) λr P L=>cp L λF' L' l H q=>bX F' L' l H q.y
def xG(e:∀Z,Ev (o Z) Z D (.gx a7 a8 m a6) L1 L2 J ps)(y:AB J)(I:AP ps)(h:(L1++Y).Perm (Lc++Z))(k:∀X c s A,fJ a7 a8 A->bg x (fz F L2) (Lc++X) c s->d_ (aE pw x.W) A m (λv P=>∃F' L',Le (fz F L2) F'/\bg x F' (L'++X) c P/\qA x G b F0 Q a6 Z (.ok<|.ret v) F' L') (λ_ _=>False) s):Go x G b F0 Q F Y o:=λX c A C f=>by rw[u6 (e<|Y++X) y I λz S M s n d u=>ul (k (Z++X) c s n u<|.side S M f d h) (λv P L=>cp L λF' L' l H q=>Im C H q λa o U=>l a o<|.inl U) λ_ _ U=>U]
end
structure PH where
 R:N->aL
 is:!N
 os:!N
 hs:!N
 w:N
 mv:N
 h:!N
 gv:!af
abbrev ph(R:N->aL)(a h:!N)(gv:!af):PH:=#[R,a,[],[],0,0,h,gv]
abbrev PP:Type:=N->Mk->bj->ao->(N->aL)->Prop
def oi:N->ao->ao->ao×ao
 |0,j,d=>(j,d)
 |E+1,j,d=>match d with
  |[]=>(j,[])
  |y::d=>oi E (j++[y]) d
def xM:N->ao->ao->ao
 |0,g,d=>g++d
 |T+1,g,d=>match d with
  |[]=>g
  |y::d=>y::xM T g d
def MP:∀{L Y},(oi m L Y).1++(oi m L Y).2=L++Y:=by
 induction m with
 |zero=>rw[rfl]
 |succ m C=>
  intro L Y;cases Y with
  |nil=>rfl
  |cons y Y=>rw[C.trans<|bZ L [y] Y]
def abd{g:ao}:∀{Y},(g++Y).Perm (xM w g Y):=by
 induction w with
 |zero=>rw[.refl _]
 |succ w C=>
  intro Y;cases Y with
  |nil=>rw[.of_eq<|bQ g]
  |cons y Y=>rw[wH.trans<|.cons y C]
def aR.fin(m:N)(g:aR):aR:={g with L:=(oi m [] g.Y).1++g.L,Y:=(oi m [] g.Y).2}
def av.fin(m:N)(o:av):av:=o.rec (λr z=>.ok r<|z.fin m) (λZ z=>.again Z<|z.fin m) (λb t Z z j U=>.call b t Z (z.fin m) j) (λb t D z j U=>.gx b t D (z.fin m) j) (λa U f=>.need a f) .bad
def fE(P:PP)(m:N):!PH->!(N×N×N)->av->av
 |[],_,Y=>Y.fin m
 |p::l,aK,Y=>match aK with
  |[]=>.bad
  |v::aK=>Y.rec (λU U=>.bad) (λU U=>.bad) (λb t Z z j U=>.need (.Eb<|P b t Z (pk z.L p.os) p.R)<|mF (mB<|(p.is++p.hs)++p.os)<|fE P m l aK<|j (p.R v.2.2)<|cf (oi p.mv (pk z.L p.is)<|xM p.w (pk z.L p.hs) z.Y).1 v.1 v.2.1 p.h p.gv z.O (oi p.mv (pk z.L p.is)<|xM p.w (pk z.L p.hs) z.Y).2) (λU U U U U U=>.bad) (λa U f=>.need a f) .bad
def uv:N->(!(N×N×N)->Prop)->Prop
 |0,c=>c []
 |j+1,c=>∀n D L,uv j λl=>c ((n,D,L)::l)
def kA(x:Wd)(F:Fs):PP:=λb t Z j d=>∀w S m s A,Le F S->fJ b t A->bg x (fz S j) w m s->fh (aE pw x.W) A Z (λr P=>∃T L,Le (fz S j) T/\bg x T w m P/\r=d L) s
section
variable{x:Wd} {G:Mk} {b:N} {c:bj} {F F0:Fs} {Y:ao} {Q:Po} {D:aN} {A:dW} {R:aL->aN->Prop}
def Y1(h:∀p∈L,F p.1 p.2):gz F L:=by
 induction L with
 |nil=>trivial
 |cons p l C=>rw[#[h p<|.head _,C λq E=>h q<|.tail _ E]]
def OT:∀{aK},iH x.W D A R (fE P m (p::l) aK<|.need a o) F->a.ok/\iH x.W D A R (fE P m (p::l) aK o) F:=by
 intro J;cases J with
 |nil=>intro U;rw[U.elim]
 |cons _ _=>intro U;rw[U]
def aok(e:∀f,o.rec (motive:=λ_=>av) (λ_ _=>.bad) (λ_ _=>.bad) f (λ_ _ _ _ _ _=>.bad) (λa _ f=>.need a f) .bad=.bad):∀{aK},iH x.W D A R (fE P m (p::l) aK o) F->False:=by
 intro J;cases J with
 |nil=>intro U;rw[U]
 |cons v aK=>intro U;have z:iH x.W D A R (o.rec _ _ _ _ _ _) F:=U;rw[e]at z;rw[z]
def OG{z:Bool}(h:iH x.W D A R (mF z o) F):z=true/\iH x.W D A R o F:=by
 cases z with
 |false=>rw[h.elim]
 |true=>rw[#[rfl,h]]
def uv.get:∀{k:N} {P:!(N×N×N)->Prop},uv k P->∀aK,aK.length=k->P aK
 |0,_,U,[],_=>U
 |k+1,_,U,v::aK,e=>uv.get (U v.1 v.2.1 v.2.2) aK<|qz e
def D0:pk L (l++m)=pk L l++pk L m:=by
 induction l with
 |nil=>rfl
 |cons i l C=>
  show(match gN L i with|some p=>p::pk L (l++m)|none=>pk L<|l++m)=(match gN L i with|some p=>p::pk L l|none=>pk L l)++pk L m;cases gN L i with
  |none=>rw[C]
  |some p=>rw[congrArg _ C]
def yF(E:bF F D g s):bF F D (g.fin m) s:=by
 have e:(oi m [] g.Y).1++(oi m [] g.Y).2=g.Y:=MP;have c:=λ{p}=>(iff_of_eq<|congrArg (p∈·) e.symm).trans ej;have j:=rx<|e▸E.hy.nd;rw[⟨E.fr,λp U=>(ej.mp U).elim (λU=>E.hy.led p<|c.mpr<|.inl U)<|E.led p,?_,λp U=>(ej.mp U).elim (λU=>E.hy.dj p<|c.mpr<|.inl U)<|E.dj p,E.sz,E.tk,E.rest,E.ro,⟨λp U=>E.hy.led p<|c.mpr<|.inr U,λp U H=>?_,j.2.1,λp U=>E.hy.dj p<|c.mpr<|.inr U⟩⟩]
 .show(ql _<|_++_).Nodup
  rw[bf,jV];rw[⟨j.1,E.nd,λa o b y e=>(aJ (bn.mp o) λq u O=>E.hy.off q (c.mpr<|.inl u)<|O.trans e▸y)⟩]
 .rw[aJ (bn.mp H) λq u O=>(ej.mp u).elim (λu=>j.2.2 q u p U O) λu=>E.hy.off p (c.mpr<|.inr U)<|O▸bw u]
def Y_(h:iH x.W D A R (o.fin m) F):iH x.W D A R o F:=by
 induction o with
 |ok r z=>exactλs E=>h s<|yF E
 |again Z z=>rw[#[h.1,λs E=>h.2 s<|yF E]]
 |call b t Z z j=>exactλs n E C=>h s n (yF E) C
 |gx b t Z z j=>exactλs n E C=>h s n (yF E) C
 |need a o c=>rw[#[h.1,c h.2]]
 |bad=>rw[h]
def aol:∀{o F},jR (T x.P) F->Le F0 F->(∀S,Le F S->∀aK,aK.length=l.length->iH x.W D A R (fE (kA x F0) m l aK o) S)->iH x.W D A R o F:=by
 have M:∀j:N,(wI j (0,0,0)).length=j:=λj=>List.length_replicate;induction l with
 |nil=>exactλ_ _ U=>Y_<|U _ (aV) [] rfl
 |cons p l G=>
  intro o;induction o with
  |ok|again|gx|bad=>exactλ_ _ U=>(aok (λ_=>rfl)<|U _ (aV) _<|M _).elim
  |need a o d=>exactλf W U=>#[(OT<|U _ (aV) _<|M _).1,d f W λS g aK e=>(OT<|U S g aK e).2]
  |call b t Z z j=>
   intro F f W U s n E C;have k:=U _ (aV) _<|M _;have B:bg x (fz F<|pk z.L p.os) (pk z.L (p.is++p.hs)++z.Y) D s:=.back f E (D0▸O7 E.nd ((OG k.2).1)) λq u=>by rw[aJ (D4 q<|(D0).symm▸u) λ_ _ e=>mC e]
   rw[gL (k.1 _ _ D s n W C B) λr P I=>cp I λi L Q H e=>?_];have c:Le F i:=λa o U=>Q a o<|.inl U;subst e;rw[D0,bZ]at H;have y:=H.perm<|List.Perm.append_left _<|abd (w:=p.w);rw[<-MP]at y;rw[#[i,c,_,y.run (h:=p.h) (gv:=p.gv)<|Y1 λq u=>c _ _<|E.ro q u,G y.base (dP W c) λS g aK e=>((OG (U S (dP c g) ((_,_,L)::aK)<|congrArg (·+1) e).2).2)]]
def gZ(k)(g:∀S,Le F S->uv k λaK=>Go x G b F0 Q S Y λZ=>fE (kA x F) m l aK<|o Z)(hk:l.length=k:=by rfl):Go x G b F0 Q F Y o:=λw c A C a=>aol a (aV) λS u aK e=>(g S u).get aK (e.trans hk) w c A C<|a.mono u
def Pm{R:N->aL}(g:∀F,ay x G b c F [] Qc)(k:∀F' r L',Qc F' r L'->L'=[]/\∃u,r=R u):kA x F b G c [] R:=λw S m s A U C B=>
 u5 (jz (g _ w m s A C B) λr P L=>cp L λF' L' l H q=>by rw[ct (k F' r L' q) λe a=>dm a λu O=>?_];subst e;rw[bX F' u l H O])
end
section
variable{J:Type} {o:Option J->Wd->ao->av} {H:!N} {e:Option J->Wd->ao->kq} {L1 L2:Option J->Wd->ao->ao} {K:Option J->Wd->ao->!(Bool×Bool)} {ps:Option J->Wd->ao->!Prop}
def gd(j:wY (o none) H=AG (o none) H (e none) (L1 none) (L2 none) (K none) (ps none):=by kernel_rfl)(a:(λp=>wY (o<|some p) H)=λp=>AG (o<|some p) H (e<|some p) (L1<|some p) (L2<|some p) (K<|some p) (ps<|some p):=by kernel_rfl):∀q x Y,Ev (o q x Y) Y H (e q x Y) (L1 q x Y) (L2 q x Y) (K q x Y)<|ps q x Y
 |none=>bB j
 |some p=>bB<|congrFun a p
end
abbrev fC(q:Option (N×af))(t:N):N:=q.rec t λp=>p.1
abbrev pS(s:!N):N->aL:=λL=>.ok<|.ret<|ah s L
abbrev pN(k:N):N->aL:=λL=>.ok<|.ret<|iN k L
abbrev pB(s:!UInt8):N->aL:=λL=>.ok<|.ret<|.bytes #[s] L
def ay.Pl{x:Wd}{F:Fs}{b j:N}{t:Mk}{c:bj}{s:!N}(g:∀F,ay x t b c F []<|QS s)(h:b<=j):kA x F j t c [] (pS s):=Pm (λF=>(g F).le h λU U U U h=>h) λU U U q=>q.casesOn λL=>#[rfl,L,rfl]
def ay.Ed{x:Wd}{F:Fs}{b j:N}{t:Mk}{c:bj}{s:!UInt8}(g:∀F,ay x t b c F []<|QB s)(h:b<=j):kA x F j t c [] (pB s):=Pm (λF=>(g F).le h λU U U U h=>h) λU U U q=>q.casesOn λL=>#[rfl,L,rfl]
def rO{L W Y O:ao}{gv:N->N->!af}(R:gz F O)(k:∀n t,Go x G b F Q F Y λZ=>ex x G b (.code c)<|cf L n t h (gv n t) O<|W++Z):ay x G b c F (L++(W++Y)) Q:=λw m s A C B=>by simp only[bZ,bZ]at B;have u:=k s.heap.objs.size s.toks w m A C B.base;dsimp only at u;simp only[xv]at u;rw[yN (λF=>xO _ F _) 100000 B.base b G (.code c) _ A c _ s u (B.run R) C]
def ay.rs{x:Wd}{t:Mk}{b it k n:N}{c:bj}{F:Fs}{Q:Po}{L1 L2:ao}(g:ay x t b c F (L1++(it,Px (ad<|k+1)<|ad n)::L2) Q):ay x t b c F (L1++(it,Px (ad k+1)<|ad (n+1)-1)::L2) Q:=(Int.add_sub_cancel n 1)▸g
def iU{gv:N->N->!af}(R:gz F O)(k:∀n t,Go x G U F Q F [] λZ=>ex x G U (.code c)<|cf L n t h (gv n t) O Z):ay x G U c F L Q:=λw m s A C B=>by have u:=k s.heap.objs.size s.toks w m A C B.base;dsimp only at u;simp only[xv]at u;rw[yN (λF=>xO _ F _) 100000 B.base U G (.code c) _ A c _ s u (B.run R) C]
def ER{t:Type}(f:N->t):N->!t
 |0=>[]
 |n+1=>f n::ER f n
def yX{t:Type}{f g:N->t}(h:ER f n=ER g n):∀i,i<n->f i=g i:=by
 intro i S;induction n with
 |zero=>rw[absurd S<|qy i]
 |succ n C=>rw[(Te.mp S).elim (C (SH h).2) λe=>e▸(SH h).1]
section
variable{D G:Type} {f g:!D->G}
abbrev Rc(f:!D->G):(G×(D->G)×(D->D->G)×(D->D->D->G)×(D->D->D->D->G))×(D->D->D->D->D->G)×(D->D->D->D->D->D->G)×(D->D->D->D->D->D->D->G)×(D->D->D->D->D->D->D->D->G)×(D->D->D->D->D->D->D->D->D->G):=((f [],λa=>f [a],λa b=>f [a,b],λa b Z=>f [a,b,Z],λa b Z d=>f [a,b,Z,d]),λa b Z d e=>f [a,b,Z,d,e],λa b Z d e i=>f [a,b,Z,d,e,i],λa b Z d e i K=>f [a,b,Z,d,e,i,K],λa b Z d e i K j=>f [a,b,Z,d,e,i,K,j],λa b Z d e i K j l=>f [a,b,Z,d,e,i,K,j,l])
def we(h:Rc f=Rc g):∀vs,vs.length<10->f vs=g vs
 |[],_=>congrArg (·.1.1) h
 |[a],_=>congrFun (congrArg (·.1.2.1) h) a
 |[a,b],_=>congrFun (congrFun (congrArg (·.1.2.2.1) h) a) b
 |[a,b,Z],_=>congrFun (congrFun (congrFun (congrArg (·.1.2.2.2.1) h) a) b) Z
 |[a,b,Z,d],_=>congrFun (congrFun (congrFun (congrFun (congrArg (·.1.2.2.2.2) h) a) b) Z) d
 |[a,b,Z,d,e],_=>congrFun (congrFun (congrFun (congrFun (congrFun (congrArg (·.2.1) h) a) b) Z) d) e
 |[a,b,Z,d,e,i],_=>congrFun (congrFun (congrFun (congrFun (congrFun (congrFun (congrArg (·.2.2.1) h) a) b) Z) d) e) i
 |[a,b,Z,d,e,i,K],_=>congrFun (congrFun (congrFun (congrFun (congrFun (congrFun (congrFun (congrArg (·.2.2.2.1) h) a) b) Z) d) e) i) K
 |[a,b,Z,d,e,i,K,j],_=>congrFun (congrFun (congrFun (congrFun (congrFun (congrFun (congrFun (congrFun (congrArg (·.2.2.2.2.1) h) a) b) Z) d) e) i) K) j
 |[a,b,Z,d,e,i,K,j,l],_=>congrFun (congrFun (congrFun (congrFun (congrFun (congrFun (congrFun (congrFun (congrFun (congrArg (·.2.2.2.2.2) h) a) b) Z) d) e) i) K) j) l
 |_::_::_::_::_::_::_::_::_::_::l,h=>absurd h<|l5.mpr<|uJ 10 l.length
end
def aqI(s:bO):!bO:=match s with
 |.For _ _ b Y _=>b++Y
 |.While _ b Y _=>b++Y
 |.If _ b Y _=>b++Y
 |.Try b o Y _ _=>b++(o.flatMap λU=>match U with|.ExceptHandler _ _ b _=>b)++Y
 |_=>[]
def lS:N->!bO->!bO
 |0,_=>[]
 |_+1,[]=>[]
 |n+1,s::r=>s::(lS n (aqI s)++lS n r)
def Bx(s:bO):!PySem.Expr:=match s with
 |.For _ i _ _ _=>[i]
 |.While D _ _ _=>[D]
 |.If D _ _ _=>[D]
 |.Assign _ v _=>[v]
 |.AugAssign _ _ v _=>[v]
 |.Return (some v) _=>[v]
 |.Expr v _=>[v]
 |_=>[]
def aqH(e:PySem.Expr):!PySem.Expr:=match e with
 |.ListComp T d _ _=>T::d.flatMap λz=>z.iter::z.ifs
 |.Call f J _ _=>f::J
 |.BinOp l _ r _=>[l,r]
 |.UnaryOp _ x _=>[x]
 |.BoolOp _ Q _=>Q
 |.Compare l _ Q _=>l::Q
 |.Subscript v i _=>[v,i]
 |.Attribute v _ _=>[v]
 |.Starred v _=>[v]
 |.List Q _=>Q
 |.Tuple Q _ _=>Q
 |.IfExp a b Z _=>[a,b,Z]
 |_=>[]
def uW:N->!PySem.Expr->!PySem.Expr
 |0,_=>[]
 |_+1,[]=>[]
 |n+1,e::r=>(match e with|.ListComp .. =>[e]|_=>[])++(uW n (aqH e)++uW n r)
def ym:!PySem.Expr->N->PySem.Expr
 |[],_=>.Constant .none 0 default
 |s::_,0=>s
 |_::l,i+1=>ym l i
def cM(d:bO)(i:N)(O:aX):bj:=whl (vD (lS 100<|fB d) i) O
def bL(d:bO)(i:N)(it:af)(O:aX):bj:=match vD (lS 100<|fB d) i with
 |.For D _ b Y _=>.forLoop D it b Y O
 |_=>default
def xw:!(aA×uG)->N->!(aA×aH)->!(aA×aH)
 |[],_,m=>m
 |(n,j)::r,a,m=>match j with
  |.cell=>xw r (a+1) ((n,a)::m)
  |_=>xw r a m
def Lw(n:aA):!(aA×aH)->N
 |[]=>0
 |(E,a)::r=>match PySem.W.Fast.sEq E n with
  |true=>a
  |false=>Lw n r
def Ju(n:aA):!(aA×uG)->Bool
 |[]=>false
 |(E,j)::r=>match PySem.W.Fast.sEq E n with
  |true=>(match j with|.cell=>true|_=>false)
  |false=>Ju n r
def AJ(cs:!(aA×aH)):!(aA×uG)->!(aA×aH)->!(aA×aH)
 |[],m=>m
 |(n,j)::r,m=>match j with
  |.free=>AJ cs r ((n,Lw n cs)::m)
  |_=>AJ cs r m
def anU(ns:!(aA×uG))(p:aA×uG):aA×uG:=match p.2 with
 |.free=>(match Ju p.1 ns with|true=>(p.1,.cell)|false=>p)
 |_=>p
def kH(d:bO)(q:aA)(a cd L:N):aX:={scope:=fS d,locals:=L,globals:=3,cells:=xw (fS d).names (L+1) [],qual:=q++".<locals>.",func:=some a,code:=.ref cd,frame:=some L,builtins:=0}
def UM(e:PySem.Expr)(O:aX)(L:N):aX:=match e with
 |.ListComp _ _ a _=>{scope:={a with names:=a.names.map<|anU O.scope.names},locals:=L,globals:=3,cells:=xw a.names (L+1)<|AJ O.cells a.names [],qual:=O.qual,func:=none,code:=O.code,frame:=O.frame,builtins:=O.builtins}
 |_=>O
def U1(d:bO)(k:N):PySem.Expr:=ym (uW 100<|(lS 100<|fB d).flatMap Bx) k
def fO(d:bO)(k:N)(O:aX)(L:N):aX:=UM (U1 d k) O L
def fQ(d:bO)(k:N)(it m:af)(O:aX):bj:=.compLoop (ym (uW 100<|(lS 100<|fB d).flatMap Bx) k) 0 it m O
def i_(d:bO)(k:N)(it m:af)(O:aX):bj:=.compStart (ym (uW 100<|(lS 100<|fB d).flatMap Bx) k) 0 it m O
abbrev mf:bO:=(st 3)
abbrev nR(L:N):aX:=kH mf qV 46 45 L
abbrev iB:bO:=(gh (st 9) 3)
abbrev jd(L:N):aX:=kH iB Cd 117 116 L
abbrev nO:bO:=(gh (st 9) 4)
abbrev pd(L:N):aX:=kH nO Cf 124 123 L
abbrev fw:bO:=(gh (st 9) 7)
abbrev fT(L:N):aX:=kH fw Ci 145 144 L
abbrev eZ:bO:=(gh (st 9) 8)
abbrev cF(L:N):aX:=kH eZ Ck 152 151 L
abbrev Hq:bO:=(gh (st 27) 6)
abbrev XM(L:N):aX:=kH Hq Cs 817 816 L
abbrev mh:bO:=(st 30)
abbrev nS(L:N):aX:=kH mh qW 867 866 L
abbrev mj:bO:=(st 33)
abbrev xk(L:N):aX:=kH mj qX 886 885 L
abbrev Hr:bO:=(st 34)
abbrev XN(L:N):aX:=kH Hr qY 893 892 L
abbrev b_:bO:=(st 36)
abbrev cn(L:N):aX:=kH b_ qZ 903 902 L
abbrev ll:bO:=(st 37)
abbrev xl(L:N):aX:=kH ll q6 908 907 L
abbrev uX:bO:=(st 38)
abbrev iC(L:N):aX:=kH uX tM 913 912 L
abbrev eu:aA:=#[#[[95]]]
abbrev vQ:aA:=#[#[[97]]]
abbrev eL:aA:=sK 0x62617365
abbrev vT:aA:=sK 0x6361727279
abbrev cg:aA:=sK 0x63656c6c73
abbrev yO:aA:=sK 0x6379636c65
abbrev jm:aA:=sK 0x647261776e
abbrev PW:aA:=sK 0x657363617065647374617465
abbrev fo:aA:=sK 0x6578747261
abbrev kN:aA:=#[#[[105]]]
abbrev Ex:aA:=sK 0x696e66696c65
abbrev Ey:aA:=sK 0x696e73747265616d
abbrev lM:aA:=sK 0x6974737461636b
abbrev vU:aA:=sK 0x6c657474657273
abbrev Ez:aA:=sK 0x6c65786572
abbrev ap9:aA:=sK 0x6c696e656e6f
abbrev cu:aA:=sK 0x6e3269
abbrev d6:aA:=sK 0x6e616d65
abbrev ap_:aA:=sK 0x6e65787463686172
abbrev bW:aA:=sK 0x6e6f6465
abbrev lN:aA:=sK 0x6e6f646532737461636b69
abbrev eE:aA:=sK 0x6e6f6465696e666f
abbrev eV:aA:=sK 0x6e6f646573
abbrev yP:aA:=sK 0x6e756d626572
abbrev jK:aA:=sK 0x70616765
abbrev EA:aA:=sK 0x706f736978
abbrev uh:aA:=sK 0x70726564
abbrev P_:aA:=sK 0x707265645f696e666f
abbrev kO:aA:=sK 0x7072656465636573736f7273
abbrev Qa:aA:=sK 0x70756e6374756174696f6e5f6368617273
abbrev Qb:aA:=sK 0x71756f746564
abbrev ez:aA:=sK 0x7265616479
abbrev mL:aA:=sK 0x726573756c74
abbrev cD:aA:=sK 0x726f756e6473
abbrev bD:aA:=sK 0x726f77
abbrev bU:aA:=sK 0x726f7773
abbrev iv:aA:=sK 0x736372697074
abbrev lP:aA:=sK 0x7365656e
abbrev bx:aA:=sK 0x73656c66
abbrev b5:aA:=sK 0x736f72746572
abbrev lQ:aA:=sK 0x737461636b
abbrev fF:aA:=sK 0x73746174
abbrev jo:aA:=sK 0x737563636573736f72
abbrev jp:aA:=sK 0x737563636573736f725f696e666f
abbrev Qe:aA:=#[#[[116]]]
abbrev EB:aA:=sK 0x746f6b656e
abbrev Qh:aA:=sK 0x746f74616c
abbrev kP:aA:=sK 0x74726565
abbrev mM:aA:=sK 0x77616974
abbrev cK:aA:=sK 0x77686f6c65
abbrev kQ:aA:=sK 0x776f7264
abbrev rF:aA:=sK 0x776f726473
abbrev vV:aA:=#[#[[120]]]
abbrev wc:!N:=[97,98,99,100,102,101,103,104,105,106,107,108,109,110,111,112,113,114,115,116,117,118,119,120,121,122,65,66,67,68,69,70,71,72,73,74,75,76,77,78,79,80,81,82,83,84,85,86,87,88,89,90,48,49,50,51,52,53,54,55,56,57,95,223,224,225,226,227,228,229,230,231,232,233,234,235,236,237,238,239,240,241,242,243,244,245,246,248,249,250,251,252,253,254,255,192,193,194,195,196,197,198,199,200,201,202,203,204,205,206,207,208,209,210,211,212,213,214,216,217,218,219,220,221,222,126,45,46,47,42,63,61]
abbrev iR:aA:=#[#[wc]]
abbrev ap7:aA:=#[#[[95,83,116,114,105,110,103,73,79,95,95,110,101,119,108,105,110,101]]]
abbrev ap6:aA:=#[#[[95,83,116,114,105,110,103,73,79,95,95,98,117,102]]]
abbrev ap8:aA:=#[#[[95,83,116,114,105,110,103,73,79,95,95,112,111,115]]]
abbrev ap2:aA:=#[#[[101,111,102]]]
abbrev ap0:aA:=#[#[[99,111,109,109,101,110,116,101,114,115]]]
abbrev aqg:aA:=#[#[[119,111,114,100,99,104,97,114,115]]]
abbrev aqe:aA:=#[#[[119,104,105,116,101,115,112,97,99,101]]]
abbrev aqf:aA:=#[#[[119,104,105,116,101,115,112,97,99,101,95,115,112,108,105,116]]]
abbrev aqb:aA:=#[#[[113,117,111,116,101,115]]]
abbrev ap3:aA:=#[#[[101,115,99,97,112,101]]]
abbrev ap4:aA:=#[#[[101,115,99,97,112,101,100,113,117,111,116,101,115]]]
abbrev aqd:aA:=#[#[[115,116,97,116,101]]]
abbrev aqa:aA:=#[#[[112,117,115,104,98,97,99,107]]]
abbrev ap1:aA:=#[#[[100,101,98,117,103]]]
abbrev ap5:aA:=#[#[[102,105,108,101,115,116,97,99,107]]]
abbrev aqc:aA:=#[#[[115,111,117,114,99,101]]]
abbrev apY:aA:=#[#[[95,112,117,110,99,116,117,97,116,105,111,110,95,99,104,97,114,115]]]
abbrev apZ:aA:=#[#[[95,112,117,115,104,98,97,99,107,95,99,104,97,114,115]]]
abbrev EC:aA:=#[#[[59]]]
abbrev vW:aA:=#[#[[32]]]
abbrev Qi:aA:=#[#[[99]]]
def qQ(P:eH)(t1 G E c tp p:N)(l:!N):Obj:=ak [V P ap7 t1<|.str Co 865,V P ap6 G<|.str #[#[l]] c,V P ap8 E<|.int (ad p) tp] 3
def cv(d:N):Obj:=#[.ref 714,some d,.plain,#[[]]]
def rG(P:eH)(z tk E:N)(st n a:af):Obj:=ak [V P Ey (tk+35)<|.ref<|z+8,V P Ex (tk+37)<|.none,V P EA (tk+39)<|.bool true,V P ap2 (tk+41)<|.none,V P ap0 (tk+44)<|.str #[#[[35]]]<|tk+42,V P aqg (tk+47)<|.str #[#[wc]] E,V P aqe (tk+56)<|.str #[#[[32,9,13,10]]]<|tk+54,V P aqf (tk+58)<|.bool false,V P aqb (tk+61)<|.str #[#[[39,34]]]<|tk+59,V P ap3 (tk+64)<|.str #[#[[92]]]<|tk+62,V P ap4 (tk+67)<|.str #[#[[34]]]<|tk+65,V P aqd (tk+70)<|st,V P aqa (tk+72)<|.ref<|z+11,V P ap9 (tk+75)<|a,V P ap1 (tk+78)<|.int 0<|tk+76,V P EB (tk+81)<|n,V P ap5 (tk+83)<|.ref<|z+12,V P aqc (tk+85)<|.none,V P apY (tk+89)<|.str #[#[[59]]]<|tk+1,V P apZ (tk+93)<|.ref<|z+13] 20
def cT(z:N):Obj:=#[.ref 849,some<|z+1,.plain,#[[]]]
def aP(n:Int)(xs:!af):Obj:=#[.type "collections.deque",none,.fields #[[.none,.int n 0]++xs],#[[]]]
structure Lc where
 z:N
 tk:N
 tw:N
 i1:N
 i2:N
 i3:N
 tb:N
 l:!N
abbrev Lc.io(C:Lc)(P:eH)(tp p:N):Obj:=qQ P C.i1 C.i2 C.i3 C.tb tp p C.l
abbrev Lc.sh(C:Lc)(P:eH)(st n a:af):Obj:=rG P C.z C.tk C.tw st n a
abbrev eW(L:N):bj:=cM Hq 2<|XM L
abbrev ii(P:eH)(z:N)(u:N->N)(b i:N)(q:Bool):Obj:=az [V P bx (u 0)<|.ref<|z+2,V P Qb (u 1)<|.bool q,V P PW (u 2)<|.str #[#[[i]]] b] 3
abbrev bT(P:eH)(z:N)(u:N->N)(M b i:N)(q:Bool)(v:af):Obj:=az [V P bx (u 0)<|.ref<|z+2,V P Qb (u 1)<|.bool q,V P PW (u 2)<|.str #[#[[i]]] b,V P ap_ M v] 4
abbrev mQ(L:N):bj:=cM Hr 3<|XN L
abbrev ij(P:eH)(l:!N)(z o:N)(f c t n b:N)(v:af):Obj:=az [V P jK f<|.str #[#[l]] c,V P Ez t<|.ref<|z+2,V P bU n<|.ref o,V P EB b v] 4
def uf(a b c:N):N->N
 |0=>a
 |1=>b
 |_=>c
abbrev b7(c t:N):af:=.str #[#[[c]]] t
def fX(j:m≠0)(h:n%m=r):cj (ad n) (ad m) (ad r):=by refine#[by simpa using j,?_];simp only[oJ];rw[Su _<|by lia,];lia
def aoH(x m)(H:m<2^64):uy x (ad m)=false:=by
 rw[PyProof.noPylong_of_log2 ?_];by_cases U:m=0
 .subst U;decide
 .have:=(Nat.log2_lt U).mpr H
  rw[ajQ this]
def mH(j:m≠0)(H:m<2^64)(h:n/m=r):gj (ad n) (ad m) (ad r):=by refine#[by simpa using j,aoH _ m H,?_];simp only[oJ];rw[Ss _<|by lia,];lia
def ji(a:l≠[])(M:m≠[])(h:l.length+m.length<=16777216):fL #[#[l]] #[#[m]]:=by
 rw[#[?_,?_,h]]
 .show l.length≠0
  simpa using a
 .show m.length≠0
  simpa using M
def yt(h:l[k]? =some c)(hk:k<2^63):iX #[#[l]] (ad k) #[#[[c]]]:=by refine#[kX k,by simp only[oJ];lia,c,?_,rfl];simpa using h
def Qp(a b n)(y:b<=n)(c:a<=b):jS (some<|ad a) (some<|ad b) 1 n=(sb<|b-a).map (a+·):=by
 simp only[jS];have d:¬(ad a<0):=by simp
 have M:¬(ad b<0):=by simp
 simp only[d,M,if_false,xI<|b8 c y,xI y,show 1>0 by decide,if_true];rw[Qs a b]
def Qq(a n)(o:a<=n):jS (some<|ad a) none 1 n=(sb<|n-a).map (a+·):=by
 simp only[jS];have b:¬(ad a<0):=by simp
 simp only[b,if_false,xI o,show 1>0 by decide,if_true];rw[Qs a n]
def Qr(k n:N)(hk:k<=n)(j:0<k):jS (some<|-(k:Int)) none 1 n=(sb k).map ((n-k)+·):=by simp only[jS];simp only[(by lia:(-(k:Int)<0)),if_true,aaW hk,show(1:Int)>0 by decide];simp only[Qs];congr 2;rw[ajR hk j]
def EI(l a k):((sb k).map (a+·)).filterMap ((#[#[l]]:aA).cps[·]?)=(l.drop a).take k:=pick_run #[l] a k
def Pi(y:b<=l.length)(c:a<=b)(hz:l.length<=16777216)(B:b-a≠l.length):jX #[#[l]] (some<|ad a) (some<|ad b) #[#[(l.drop a).take<|b-a]]:=by
 have e:(#[#[l]]:aA).length=l.length:=rfl;rw[#[?_,?_,?_]]
 .rw[e,Qp a b _ y c];simpa using B
 .unfold rH
  rw[e,Qp a b _ y c,EI]
 .rw[b8 (FP _ _)<|S1▸b8 (lh _ _) hz]
def Pj(o:a<=l.length)(j:0<a)(hz:l.length<=16777216):jX #[#[l]] (some<|ad a) none #[#[l.drop a]]:=by
 have e:(#[#[l]]:aA).length=l.length:=rfl;rw[#[?_,?_,?_]]
 .rw[e,Qq a _ o];simp;rw[ajS o j]
 .unfold rH
  rw[e,Qq a _ o,EI,qp<|by simp]
 .show(l.drop a).length<=16777216
  simp;rw[ajT j hz]
def aoB{k:N}(hk:k<l.length)(j:0<k)(hz:l.length<=16777216):jX #[#[l]] (some<|-(k:Int)) none #[#[l.drop<|l.length-k]]:=by
 have e:(#[#[l]]:aA).length=l.length:=rfl;rw[#[?_,?_,?_]]
 .rw[e,Qr k _ (Dh hk) j];simp;rw[alf hk]
 .unfold rH
  rw[e,Qr k _ (Dh hk) j,EI,qp (by simp;rw[ajU hk])]
 .show(l.drop _).length<=16777216
  simp;rw[ajV hz]
def gr(h:xs.toList[k]? =some v)(hk:k<2^63):d8 xs (ad k) v:=by rw[#[kX k,kr.mpr hk,?_]];simpa using h
def py:px (.type "list")=true:=by kernel_rfl
def dK:mu (.type "dict")=true:=by kernel_rfl
def ap(n:N):!UInt8:=if h:n=0 then[]else ap (n/16)++[o8<|65+n%16]
termination_by n
decreasing_by exact Da h
def qK:ap 0=[]:=by rw[ap,];rfl
def sI(h:n≠0):ap n=ap (n/16)++[o8<|65+n%16]:=by rw[ap,];rw[dif_neg h,]
def AA:∀(n),∀x∈ap n,65<=x.toNat/\x.toNat<=80:=by
 intro n;induction n using Tk with
 |_ n C=>
  intro x L;by_cases U:n=0
  .subst U;rw[qK]at L;cases L
  .rw[sI U]at L
   rcases ej.mp L with L|L
   .rw[C (n/16) (Da U) x L]
   .rcases iy.mp L with rfl
    have:n%16<16:=bq _ ζ;rw[TG,];rw[(GN this).symm▸#[oR 65 _,qr (zM this) 65]]
def qJ:∀(k n),n<16^k->(ap n).length<=k:=by
 intro k;induction k with
 |zero=>
  intro n U;have:n=0:=by simpa using U
  subst this;rw[qK▸d7 _]
 |succ k C=>
  intro n U;by_cases j:n=0
  .subst j;rw[qK▸dw _]
  .rw[(sI j)▸cJ▸?_]
   have:=C (n/16)<|rm U;simp;rw[akD this]
def AC(h:n≠0):ap n≠[]:=by rw[sI h,];simp
def d9(n:N):!N:=(ap n).map (·.toNat)
def nm(R hi:N):!N:=d9<|16*R+hi
def gO(am:!N):N->N->!(N×N)->!(N×N×Option N)
 |0,_,_=>[]
 |_,_,[]=>[]
 |f+1,j,(R,S)::rest=>
  if 1<S-R then
   let E:=R+1+(am.getD (j%am.length) 0)%(S-R-1);(R,S,some E)::gO am f (j+1) ((R,E)::(E,S)::rest)
  else(R,S,none)::gO am f (j+1) rest
def En(h:1<hi-D):gO am (f+1) k ((D,hi)::rest)=(D,hi,some<|D+1+(am.getD (k%am.length) 0)%(hi-D-1))::gO am f (k+1) ((D,D+1+(am.getD (k%am.length) 0)%(hi-D-1))::(D+1+(am.getD (k%am.length) 0)%(hi-D-1),hi)::rest):=if_pos h
def PD(h:¬1<hi-D):gO am (f+1) k ((D,hi)::rest)=(D,hi,none)::gO am f (k+1) rest:=if_neg h
def cy(w:!N)(n:N):!N:=match n%4 with
 |1=>39::(w++[39])
 |2=>34::(w++[34])
 |3=>92::(w.take 1++39::(w.drop 1++[39]))
 |_=>w
def nY(am:!N)(n:!(N×N×Option N)):!(!N):=
 if am.sum%3=0 then[]else
  let a:=n.getD (am.sum/3%9) (0,1,none);let b:=n.getD (am.sum/27%9) (0,1,none);[nm a.1 a.2.1,nm b.1 b.2.1]
def fv(n:N):!N:=([65,65,65,65,65]++d9 (n%16^5)).drop (d9<|n%16^5).length
def gk(r:N×N×Option N):Prop:=r.1<r.2.1/\r.2.1<=5/\∀E,r.2.2=some E->r.1<E/\E<r.2.1
def fk(ws:!(!N)):N×N×Option N->!(!N)
 |(R,S,none)=>[nm R S,ws.map λx=>x.getD (4-R) 65]
 |(R,S,some E)=>[nm R S,nm E S,nm R E]
def iF{n:Type}(l:!n)(m:N)(x:n):!n:=l.take m++x::l.drop m
def hG{n:Type}(am:!N):N->!n->!n->!n
 |_,[],m=>m
 |j,x::rest,m=>hG am (j+1) rest<|iF m (am.getD (j%am.length) 0%(j+1)) x
def rz{n:Type}(am:!N)(s:!n):!n:=hG am 0 s []
def gE(x:N):!N:=match x%4 with
 |0=>[59]
 |1=>[32,59,32]
 |2=>[59,10]
 |_=>[9,59]
def rJ:!(!N)->N->!(!N)
 |[],_=>[]
 |a::r,q=>cy a q::rJ r (q+1)
def qU:!(!N)->!N
 |[]=>[]
 |[a]=>a
 |a::r=>a++32::qU r
def dz(am:!N)(k:N):N:=am.getD (am.length-1-k%am.length) 0
def iQ(am:!N)(k:N)(o:!(!N)):!N:=qU<|rJ o<|dz am k/4
def fW(am:!N):N->!(List<|List N)->!N->!N
 |_,[],a=>a
 |j,o::rest,a=>fW am (j+1) rest<|a++(if j=0 then[]else gE (dz am j))++iQ am j o
def pW(am:!N)(n:!(N×N×Option N))(g:!(!N)):!(List<|List N):=n.map (fk<|(am.take 3).map fv)++(if g=[]then[]else[g])
def pP(am:!N)(n:!(N×N×Option N))(g:!(!N)):!N:=fW am 0 (rz am<|pW am n g) []
section
inductive PV where
 |none
 |bool (b:Bool)
 |int (i:Int)
 |str (l:!N)
 |nI (l:!UInt8)
 |tup (l:!PV)
 |lst (l:!PV)
mutual
def Rp(F:Fs):PV->af->Prop
 |.none,v=>v=.none
 |.bool b,v=>v=.bool b
 |.int i,v=>∃D,v=.int i D
 |.str l,v=>∃D,v=.str #[#[l]] D
 |.nI l,v=>∃D,v=.bytes #[l] D
 |.tup l,v=>∃a Q,v=.ref a/\F a (aD Q)/\aM F l Q
 |.lst l,v=>∃a Q n,v=.ref a/\F a (aa #[Q] n)/\aM F l Q
def aM(F:Fs):!PV->!af->Prop
 |[],J=>J=[]
 |x::l,J=>∃v E,J=v::E/\Rp F x v/\aM F l E
end
section
variable{F F':Fs} (T:Le F F')
include T
mutual
theorem Rp.to:∀{x:PV} {v:af},Rp F x v->Rp F' x v
 |.none,_,g=>g
 |.bool _,_,g=>g
 |.int _,_,g=>g
 |.str _,_,g=>g
 |.nI _,_,g=>g
 |.tup l,_,g=>by rw[cp g λa Q e b M=>bX a Q e (T _ _ b)<|aM.to M]
 |.lst l,_,g=>by rw[gV g λa Q n e b M=>gC a Q n e (T _ _ b)<|aM.to M]
theorem aM.to:∀{l:!PV} {vs:!af},aM F l vs->aM F' l vs
 |[],_,g=>g
 |x::l,_,g=>by rw[cp g λv E e a M=>bX v E e (Rp.to a)<|aM.to M]
end
end
section
variable{F:Fs}
def dS:Rp F (.int i) v↔∃t,v=.int i t:=qg
def c9:Rp F (.str l) v↔∃t,v=.str #[#[l]] t:=qg
def yI:Rp F (.nI l) v↔∃t,v=.bytes #[l] t:=qg
def yJ:Rp F .none v↔v=.none:=qg
def jJ:Rp F (.tup l) v↔∃a xs,v=.ref a/\F a (aD xs)/\aM F l xs:=qg
def dT:Rp F (.lst l) v↔∃a xs n,v=.ref a/\F a (aa #[xs] n)/\aM F l xs:=qg
def er:aM F [] vs↔vs=[]:=qg
def cq:aM F (x::l) vs↔∃v ws,vs=v::ws/\Rp F x v/\aM F l ws:=qg
def aM.nil:aM F [] []:=er.mpr rfl
def aM.cons{x:PV}{l:!PV}{v:af}{vs:!af}(h:Rp F x v)(h':aM F l vs):aM F (x::l) (v::vs):=cq.mpr<|bX v vs rfl h h'
def aM.length:∀{l:!PV} {vs:!af},aM F l vs->vs.length=l.length:=by
 intro J;induction J with
 |nil=>intro _ g;rw[(er.mp g)▸?_];rfl
 |cons x l C=>intro _ g;rw[cp (cq.mp g) λv E P U M=>?_];subst P;rw[congrArg (·+1)<|C M]
def aM.append:∀{l m:!PV} {vs ws:!af},aM F l vs->aM F m ws->aM F (l++m) (vs++ws):=by
 intro J;induction J with
 |nil=>intro m _ ws g d;rw[(er.mp g)▸d]
 |cons x l C=>intro m _ ws g d;rw[cp (cq.mp g) λv b P a M=>?_];subst P;rw[.cons a<|C M d]
def aM.push{l:!PV}{x:PV}{vs:!af}{v:af}(g:aM F l vs)(d:Rp F x v):aM F (l++[x]) (vs++[v]):=g.append<|.cons d .nil
def aM.get:∀{l:!PV} {vs:!af} (i:N) {x:PV},aM F l vs->l[i]? =some x->∃v,vs[i]? =some v/\Rp F x v
 |[],_,_,_,_,e=>nn e
 |y::l,_,0,x,H,e=>by rw[cp (cq.mp H) λv E P a U=>?_];subst P;cases e;rw[bA v rfl a]
 |y::l,_,i+1,x,H,e=>by rw[cp (cq.mp H) λv E P U M=>?_];subst P;rw[aM.get i M e]
end
def dG(l:!(!N)):PV:=.lst<|l.map .str
end
abbrev PX:aA:=sK 0x5f6e6f646532696e666f
abbrev PY:aA:=sK 0x5f72656164795f6e6f646573
abbrev PZ:aA:=sK 0x5f6e7061737365646f7574
abbrev P9:aA:=sK 0x5f6e66696e6973686564
abbrev jq(P:eH)(u:N->N)(nd:N)(rd:af)(po:Int)(tp:N)(nf:Int)(tf:N):Obj:=ak [V P PX (u 0)<|.ref nd,V P PY (u 1) rd,V P PZ (u 2)<|.int po tp,V P P9 (u 3)<|.int nf tf] 4
abbrev a9(d:N):Obj:=#[.ref 162,some d,.plain,#[[]]]
abbrev c8(d b:N)(a:Int)(tp:N)(v:af):Obj:=#[.ref 65,some d,.plain,#[[some v,some<|.int a tp,some<|.ref b]]]
section
variable(C:Lc) (tp p G sz tk D:N) (x:Wd) (Y:ao)
def ao4:Ev (ex x aj 100 (.fn 660 #[[.ref<|C.z+8,.int 1 G],[]])<|cf [(C.z+7,C.io x.P tp p)] sz tk (H 0x4ce0) [] [(C.z+8,cv<|C.z+7)] Y) Y [0] (.res<|.ok<|.ret<|.str bM<|tk+18) [((C.1+7),C.io x.P tp p)] [] [((decide<|(C.l.length:Int)<=ad p),true)] [dI #[#[C.8]]]:=by kernel_rfl
def ao6:Ev (ex x aj 100 (.fn 660 #[[.ref<|C.z+8,.int 1 G],[]])<|cf [(C.z+7,C.io x.P tp p)] sz tk (H 0xbe044144144144145ce0) [ah [D] 0] [(C.z+8,cv<|C.z+7)] Y) Y [0] (.res<|.ok<|.ret<|ah [D]<|tk+25) [((C.1+7),C.io x.P (tk+20)<|p+1)] [] [((decide<|ad p+1<(C.l.length:Int)),true),((decide<|(C.l.length:Int)<=ad p),false)] [jX #[#[C.8]] (some<|ad p) (some<|ad p+1) #[#[[D]]],dI #[#[C.8]]]:=by kernel_rfl
def ao5:Ev (ex x aj 100 (.fn 660 #[[.ref<|C.z+8,.int 1 G],[]])<|cf [(C.z+7,C.io x.P tp p)] sz tk (H 0xbe0154144145ce0) [ah [D] 0] [(C.z+8,cv<|C.z+7)] Y) Y [0] (.res<|.ok<|.ret<|ah [D]<|tk+23) [((C.1+7),C.io x.P (tk+16) C.l.length)] [] [((decide<|ad p+1<(C.l.length:Int)),false),((decide<|(C.l.length:Int)<=ad p),false)] [jX #[#[C.8]] (some<|ad p) (some (C.l.length:Int)) #[#[[D]]],dI #[#[C.8]]]:=by kernel_rfl
end
section
variable(C:Lc) (L tp p U ch sz tk bb a8 D G us ca J c1 bl bo b0 bs c2 ck:N) (u:N->N) (K k:Int) (a6 st c0 v:af) (q:Bool) (bt:!N) (x:Wd) (Y a7:ao)
def Oe:av:=ex x aj 200 (.code<|eW L)<|cf [(C.z+7,C.io x.P tp p),(L,ii x.P C.z u U 32 false),(C.z+1,C.sh x.P (st) (.str bM ch) a6),(C.z+13,aP K [])] sz tk (H 0x940) [] [(C.z+2,cT C.z),(C.z+8,cv<|C.z+7)] Y
def q_(x:Wd)(C:Lc)(L:N):Ko:=(Oe C L 0 0 0 0 0 0 (λn=>n) 0 .none .none x []).resume
def Py:Ev (Oe C L tp p U ch sz tk u K a6 st x Y) Y [0,1,2,3] (.pend 199 aj (.call (.ref 660) #[[.ref<|C.1+8,.int (1)<|tk+9],[]])<|q_ x C L) ([((C.1+7),C.io x.P tp p)]++[(L,ii x.P C.z u U 32 false),((C.1+1),C.sh x.P (st) (.str bM ch)<|a6),((C.1+13),aP (K) [])]) [] [] []:=by kernel_rfl
def TY:Ev (q_ x C L (.ok<|.ret<|ah [D] G)<|cf [(C.z+7,C.io x.P bb a8),(L,ii x.P C.z u U 32 false),(C.z+1,C.sh x.P (b7 32 us) (.str bM ch) a6),(C.z+13,aP K [])] ca J (H 0xe30e304f20e60) [.bool false,.bool false,.bool false,.bool true] [(C.z+2,cT C.z),(C.z+8,cv<|C.z+7)] a7) a7 [0,1,2,3] (.next<|eW L) [((C.1+7),C.io x.P bb a8),(L,bT x.P C.z u J U 32 false<|ah [D] G),((C.1+1),C.sh x.P (.str vQ<|J+16) (ah [D] G)<|a6),((C.1+13),aP (K) [])] [] [(([D]==[10]),false)] [br iR #[#[[D]]] true,br #[#[[92]]] #[#[[D]]] false,br #[#[[35]]] #[#[[D]]] false,br #[#[[32,9,13,10]]] #[#[[D]]] false,dI #[#[[D]]]]:=by kernel_rfl
def TU:Ev (q_ x C L (.ok<|.ret<|ah [D] G)<|cf [(C.z+7,C.io x.P bb a8),(L,ii x.P C.z u U 32 false),(C.z+1,C.sh x.P (b7 32 us) (.str bM ch) a6),(C.z+13,aP K [])] ca J (H 0xe3044e60) [.bool false,.bool false,.bool true] [(C.z+2,cT C.z),(C.z+8,cv<|C.z+7)] a7) a7 [0,1,2,3] (.next<|eW L) [((C.1+7),C.io x.P bb a8),(L,bT x.P C.z u J (J+13) 97 false<|ah [D] G),((C.1+1),C.sh x.P (ah [D] G) (.str bM ch)<|a6),((C.1+13),aP (K) [])] [] [(([D]==[10]),false)] [br #[#[[92]]] #[#[[D]]] true,br #[#[[35]]] #[#[[D]]] false,br #[#[[32,9,13,10]]] #[#[[D]]] false,dI #[#[[D]]]]:=by kernel_rfl
def TW:Ev (q_ x C L (.ok<|.ret<|ah [D] G)<|cf [(C.z+7,C.io x.P bb a8),(L,ii x.P C.z u U 32 false),(C.z+1,C.sh x.P (b7 32 us) (.str bM ch) a6),(C.z+13,aP K [])] ca J (H 0xe30e3041900) [.bool false,.bool false,.bool false,.bool false,.bool true] [(C.z+2,cT C.z),(C.z+8,cv<|C.z+7)] a7) a7 [0,1,2,3] (.next<|eW L) [((C.1+7),C.io x.P bb a8),(L,bT x.P C.z u J U 32 false<|ah [D] G),((C.1+1),C.sh x.P (.str Qi<|J+19) (ah [D] G)<|a6),((C.1+13),aP (K) [])] [] [(([D]==[10]),false)] [br #[#[[59]]] #[#[[D]]] true,br iR #[#[[D]]] false,br #[#[[92]]] #[#[[D]]] false,br #[#[[35]]] #[#[[D]]] false,br #[#[[32,9,13,10]]] #[#[[D]]] false,dI #[#[[D]]]]:=by kernel_rfl
def TX:Ev (q_ x C L (.ok<|.ret<|ah [D] G)<|cf [(C.z+7,C.io x.P bb a8),(L,ii x.P C.z u U 32 false),(C.z+1,C.sh x.P (b7 32 us) (.str bM ch) a6),(C.z+13,aP K [])] ca J (H 0xe3041ff0b60900) [.bool false,.bool false,.bool false,.bool false,.bool false,.bool true] [(C.z+2,cT C.z),(C.z+8,cv<|C.z+7)] a7) a7 [0,1,2,3] (.next<|eW L) [((C.1+7),C.io x.P bb a8),(L,bT x.P C.z u J U 32 false<|ah [D] G),((C.1+1),C.sh x.P (ah [D] G) (.str bM ch)<|a6),((C.1+13),aP (K) [])] [] [(([D]==[10]),false)] [br #[#[[39,34]]] #[#[[D]]] true,br #[#[[59]]] #[#[[D]]] false,br iR #[#[[D]]] false,br #[#[[92]]] #[#[[D]]] false,br #[#[[35]]] #[#[[D]]] false,br #[#[[32,9,13,10]]] #[#[[D]]] false,dI #[#[[D]]]]:=by kernel_rfl
def TV:Ev (q_ x C L (.ok<|.ret<|ah [] G)<|cf [(C.z+7,C.io x.P bb a8),(L,ii x.P C.z u U 32 false),(C.z+1,C.sh x.P (.none) (.str bM ch) a6),(C.z+13,aP K [])] ca J (H 0xe301ff01ff01444) [] [(C.z+2,cT C.z),(C.z+8,cv<|C.z+7)] a7) a7 [0,1,2,3] (.res<|.ok .next) [((C.1+7),C.io x.P bb a8),(L,bT x.P C.z u J U 32 false<|.str bM G),((C.1+1),C.sh x.P .none (.str bM<|J+5)<|a6),((C.1+13),aP (K) [])] [] [] []:=by kernel_rfl
def p_w:Ev (ex x aj 200 (.code<|eW L)<|cf [(C.z+7,C.io x.P tp p),(L,ii x.P C.z u U 32 false),(C.z+1,C.sh x.P (b7 32 c1) (.str bM ch) a6),(C.z+13,aP K [b7 D G])] sz tk (H 0xe30e304b601f90) [.bool false,.bool false,.bool false,.bool true] [(C.z+2,cT C.z),(C.z+8,cv<|C.z+7)] Y) Y [0,1,2,3] (.next<|eW L) [((C.1+7),C.io x.P tp p),(L,bT x.P C.z u (tk+9) U 32 false<|ah [D] G),((C.1+1),C.sh x.P (.str vQ<|tk+25) (ah [D] G)<|a6),((C.1+13),aP (K+1) [])] [] [(([D]==[10]),false)] [br iR #[#[[D]]] true,br #[#[[92]]] #[#[[D]]] false,br #[#[[35]]] #[#[[D]]] false,br #[#[[32,9,13,10]]] #[#[[D]]] false]:=by kernel_rfl
def p_e:Ev (ex x aj 200 (.code<|eW L)<|cf [(C.z+7,C.io x.P tp p),(L,ii x.P C.z u U 32 false),(C.z+1,C.sh x.P (b7 32 c1) (.str bM ch) a6),(C.z+13,aP K [b7 D G])] sz tk (H 0xe3044411f90) [.bool false,.bool false,.bool true] [(C.z+2,cT C.z),(C.z+8,cv<|C.z+7)] Y) Y [0,1,2,3] (.next<|eW L) [((C.1+7),C.io x.P tp p),(L,bT x.P C.z u (tk+9) (tk+22) 97 false<|ah [D] G),((C.1+1),C.sh x.P (ah [D] G) (.str bM ch)<|a6),((C.1+13),aP (K+1) [])] [] [(([D]==[10]),false)] [br #[#[[92]]] #[#[[D]]] true,br #[#[[35]]] #[#[[D]]] false,br #[#[[32,9,13,10]]] #[#[[D]]] false]:=by kernel_rfl
def p_p:Ev (ex x aj 200 (.code<|eW L)<|cf [(C.z+7,C.io x.P tp p),(L,ii x.P C.z u U 32 false),(C.z+1,C.sh x.P (b7 32 c1) (.str bM ch) a6),(C.z+13,aP K [b7 D G])] sz tk (H 0xe30e3041a00b601f90) [.bool false,.bool false,.bool false,.bool false,.bool true] [(C.z+2,cT C.z),(C.z+8,cv<|C.z+7)] Y) Y [0,1,2,3] (.next<|eW L) [((C.1+7),C.io x.P tp p),(L,bT x.P C.z u (tk+9) U 32 false<|ah [D] G),((C.1+1),C.sh x.P (.str Qi<|tk+28) (ah [D] G)<|a6),((C.1+13),aP (K+1) [])] [] [(([D]==[10]),false)] [br #[#[[59]]] #[#[[D]]] true,br iR #[#[[D]]] false,br #[#[[92]]] #[#[[D]]] false,br #[#[[35]]] #[#[[D]]] false,br #[#[[32,9,13,10]]] #[#[[D]]] false]:=by kernel_rfl
def p_q:Ev (ex x aj 200 (.code<|eW L)<|cf [(C.z+7,C.io x.P tp p),(L,ii x.P C.z u U 32 false),(C.z+1,C.sh x.P (b7 32 c1) (.str bM ch) a6),(C.z+13,aP K [b7 D G])] sz tk (H 0xe3041ff0b60a00b601f90) [.bool false,.bool false,.bool false,.bool false,.bool false,.bool true] [(C.z+2,cT C.z),(C.z+8,cv<|C.z+7)] Y) Y [0,1,2,3] (.next<|eW L) [((C.1+7),C.io x.P tp p),(L,bT x.P C.z u (tk+9) U 32 false<|ah [D] G),((C.1+1),C.sh x.P (ah [D] G) (.str bM ch)<|a6),((C.1+13),aP (K+1) [])] [] [(([D]==[10]),false)] [br #[#[[39,34]]] #[#[[D]]] true,br #[#[[59]]] #[#[[D]]] false,br iR #[#[[D]]] false,br #[#[[92]]] #[#[[D]]] false,br #[#[[35]]] #[#[[D]]] false,br #[#[[32,9,13,10]]] #[#[[D]]] false]:=by kernel_rfl
def Of:av:=ex x aj 200 (.code<|eW L)<|cf [(C.z+7,C.io x.P tp p),(L,bT x.P C.z u bl U bo q v),(C.z+1,C.sh x.P (st) c0 a6),(C.z+13,aP K [])] sz tk (H 0x940) [] [(C.z+2,cT C.z),(C.z+8,cv<|C.z+7)] Y
def jE(x:Wd)(C:Lc)(L:N):Ko:=(Of C L 0 0 0 0 0 0 0 (λn=>n) 0 .none .none .none .none false x []).resume
def PA:Ev (Of C L tp p U sz tk bl bo u K a6 st c0 v q x Y) Y [0,1,2,3] (.pend 199 aj (.call (.ref 660) #[[.ref<|C.1+8,.int (1)<|tk+9],[]])<|jE x C L) ([((C.1+7),C.io x.P tp p)]++[(L,bT x.P C.z u bl U bo (q)<|v),((C.1+1),C.sh x.P (st) (c0)<|a6),((C.1+13),aP (K) [])]) [] [] []:=by kernel_rfl
def Uh:Ev (jE x C L (.ok<|.ret<|ah [D] G)<|cf [(C.z+7,C.io x.P bb a8),(L,bT x.P C.z u bl U bo q v),(C.z+1,C.sh x.P (b7 97 us) (ah (bs::bt) b0) a6),(C.z+13,aP K [])] ca J (H 0x9701104ff01b60b60ff0c90) [.bool false,.bool false,.bool false,.bool false,.bool false,.bool false,.bool true] [(C.z+2,cT C.z),(C.z+8,cv<|C.z+7)] a7) a7 [0,1,2,3] (.next<|eW L) [((C.1+7),C.io x.P bb a8),(L,bT x.P C.z u bl U bo (q)<|ah [D] G),((C.1+1),C.sh x.P (.str vQ us) (ah (bs::bt++[D])<|J+26)<|a6),((C.1+13),aP (K) [])] [] [(([D]==[10]),false)] [fL #[#[(bs::bt)]] #[#[[D]]],br iR #[#[[D]]] true,br #[#[[92]]] #[#[[D]]] false,br #[#[[39,34]]] #[#[[D]]] false,br #[#[[35]]] #[#[[D]]] false,br #[#[[32,9,13,10]]] #[#[[D]]] false,dI #[#[[D]]],l7 (aI nB)<|ar [ah [97]<|J+12,ah [99]<|J+13],br #[#[[92]]] #[#[[97]]] false,br #[#[[39,34]]] #[#[[97]]] false]:=by kernel_rfl
def Ug:Ev (jE x C L (.ok<|.ret<|ah [D] G)<|cf [(C.z+7,C.io x.P bb a8),(L,bT x.P C.z u bl U bo q v),(C.z+1,C.sh x.P (b7 97 us) (ah (bs::bt) b0) a6),(C.z+13,aP K [])] ca J (H 0xbb05444) [.bool false,.bool false,.bool true] [(C.z+2,cT C.z),(C.z+8,cv<|C.z+7)] a7) a7 [0,1,2,3] (.res<|.ok .next) [((C.1+7),C.io x.P bb a8),(L,bT x.P C.z u bl U bo (q)<|ah [D] G),((C.1+1),C.sh x.P (.str vW<|J+19) (ah (bs::bt) b0)<|a6),((C.1+13),aP (K) [])] [] [(([D]==[10]),false)] [dI #[#[(bs::bt)]],br #[#[[32,9,13,10]]] #[#[[D]]] true,dI #[#[[D]]],l7 (aI nB)<|ar [ah [97]<|J+12,ah [99]<|J+13],br #[#[[92]]] #[#[[97]]] false,br #[#[[39,34]]] #[#[[97]]] false]:=by kernel_rfl
def Ue:Ev (jE x C L (.ok<|.ret<|ah [D] G)<|cf [(C.z+7,C.io x.P bb a8),(L,bT x.P C.z u bl U bo q v),(C.z+1,C.sh x.P (b7 97 us) (ah (bs::bt) b0) a6),(C.z+13,aP K [])] ca J (H 0x113f0ff0e301ff066aa014aa0ff013f03fc0888e001118d0b60b60ff0c90) [.bool false,.bool false,.bool false,.bool false,.bool false,.bool false,.bool false,.bool false] [(C.z+2,cT C.z),(C.z+8,cv<|C.z+7)] a7) a7 [0,1,2,3] (.res<|.ok .next) [((C.1+7),C.io x.P bb a8),(L,bT x.P C.z u bl U bo (q)<|ah [D] G),((C.1+1),C.sh x.P (.str vW<|J+35) (ah (bs::bt) b0)<|a6),((C.1+13),aP (K+1) [ah [D] G])] [] [(([D]==[10]),false)] [dI #[#[(bs::bt)]],dI #[#[[59]]],br #[#[[39,34]]] #[#[[D]]] false,br iR #[#[[D]]] false,br #[#[[92]]] #[#[[D]]] false,br #[#[[39,34]]] #[#[[D]]] false,br #[#[[35]]] #[#[[D]]] false,br #[#[[32,9,13,10]]] #[#[[D]]] false,dI #[#[[D]]],l7 (aI nB)<|ar [ah [97]<|J+12,ah [99]<|J+13],br #[#[[92]]] #[#[[97]]] false,br #[#[[39,34]]] #[#[[97]]] false]:=by kernel_rfl
def Uf:Ev (jE x C L (.ok<|.ret<|ah [D] G)<|cf [(C.z+7,C.io x.P bb a8),(L,bT x.P C.z u bl U bo q v),(C.z+1,C.sh x.P (b7 97 us) (ah (bs::bt) b0) a6),(C.z+13,aP K [])] ca J (H 0xe304c90) [.bool false,.bool false,.bool false,.bool false,.bool true] [(C.z+2,cT C.z),(C.z+8,cv<|C.z+7)] a7) a7 [0,1,2,3] (.next<|eW L) [((C.1+7),C.io x.P bb a8),(L,bT x.P C.z u bl U bo (q)<|ah [D] G),((C.1+1),C.sh x.P (ah [D] G) (ah (bs::bt) b0)<|a6),((C.1+13),aP (K) [])] [] [(([D]==[10]),false)] [br #[#[[39,34]]] #[#[[D]]] true,br #[#[[35]]] #[#[[D]]] false,br #[#[[32,9,13,10]]] #[#[[D]]] false,dI #[#[[D]]],l7 (aI nB)<|ar [ah [97]<|J+12,ah [99]<|J+13],br #[#[[92]]] #[#[[97]]] false,br #[#[[39,34]]] #[#[[97]]] false]:=by kernel_rfl
def Ud:Ev (jE x C L (.ok<|.ret<|ah [] G)<|cf [(C.z+7,C.io x.P bb a8),(L,bT x.P C.z u bl U bo q v),(C.z+1,C.sh x.P (b7 97 us) (ah (bs::bt) b0) a6),(C.z+13,aP K [])] ca J (H 0x970fa01444) [.bool false,.bool false] [(C.z+2,cT C.z),(C.z+8,cv<|C.z+7)] a7) a7 [0,1,2,3] (.res<|.ok .next) [((C.1+7),C.io x.P bb a8),(L,bT x.P C.z u bl U bo (q)<|.str bM G),((C.1+1),C.sh x.P .none (ah (bs::bt) b0)<|a6),((C.1+13),aP (K) [])] [] [] [dI #[#[[]]],l7 (aI nB)<|ar [ah [97]<|J+12,ah [99]<|J+13],br #[#[[92]]] #[#[[97]]] false,br #[#[[39,34]]] #[#[[97]]] false]:=by kernel_rfl
def Uk:Ev (jE x C L (.ok<|.ret<|ah [D] G)<|cf [(C.z+7,C.io x.P bb a8),(L,bT x.P C.z u bl U bo q v),(C.z+1,C.sh x.P (b7 99 us) (ah (bs::bt) b0) a6),(C.z+13,aP K [])] ca J (H 0xbb05444) [.bool false,.bool false,.bool true] [(C.z+2,cT C.z),(C.z+8,cv<|C.z+7)] a7) a7 [0,1,2,3] (.res<|.ok .next) [((C.1+7),C.io x.P bb a8),(L,bT x.P C.z u bl U bo (q)<|ah [D] G),((C.1+1),C.sh x.P (.str vW<|J+19) (ah (bs::bt) b0)<|a6),((C.1+13),aP (K) [])] [] [(([D]==[10]),false)] [dI #[#[(bs::bt)]],br #[#[[32,9,13,10]]] #[#[[D]]] true,dI #[#[[D]]],l7 (aI nB)<|ar [ah [97]<|J+12,ah [99]<|J+13],br #[#[[92]]] #[#[[99]]] false,br #[#[[39,34]]] #[#[[99]]] false]:=by kernel_rfl
def Ui:Ev (jE x C L (.ok<|.ret<|ah [10] G)<|cf [(C.z+7,C.io x.P bb a8),(L,bT x.P C.z u bl U bo q v),(C.z+1,C.sh x.P (b7 99 us) (ah (bs::bt) b0)<|.int k c2),(C.z+13,aP K [])] ca J (H 0xbb09701ff01444) [.bool false,.bool false,.bool true] [(C.z+2,cT C.z),(C.z+8,cv<|C.z+7)] a7) a7 [0,1,2,3] (.res<|.ok .next) [((C.1+7),C.io x.P bb a8),(L,bT x.P C.z u bl U bo (q)<|.str Co G),((C.1+1),C.sh x.P (.str vW<|J+24) (ah (bs::bt) b0)<|.int (k+1)<|J+4),((C.1+13),aP (K) [])] [] [] [dI #[#[(bs::bt)]],br #[#[[32,9,13,10]]] #[#[[10]]] true,dI #[#[[10]]],l7 (aI nB)<|ar [ah [97]<|J+17,ah [99]<|J+18],br #[#[[92]]] #[#[[99]]] false,br #[#[[39,34]]] #[#[[99]]] false]:=by kernel_rfl
def Uj:Ev (jE x C L (.ok<|.ret<|ah [D] G)<|cf [(C.z+7,C.io x.P bb a8),(L,bT x.P C.z u bl U bo q v),(C.z+1,C.sh x.P (b7 99 us) (ah (bs::bt) b0) a6),(C.z+13,aP K [])] ca J (H 0xe3066aa014aa0ff0b60a0018d0f20fa05444) [.bool false,.bool false,.bool false,.bool false,.bool false,.bool false] [(C.z+2,cT C.z),(C.z+8,cv<|C.z+7)] a7) a7 [0,1,2,3] (.res<|.ok .next) [((C.1+7),C.io x.P bb a8),(L,bT x.P C.z u bl U bo (q)<|ah [D] G),((C.1+1),C.sh x.P (.str vW<|J+25) (ah (bs::bt) b0)<|a6),((C.1+13),aP (K+1) [ah [D] G])] [] [(([D]==[10]),false)] [br #[#[[32,9,13,10]]] #[#[[D]]] false,br #[#[[59]]] #[#[[D]]] false,br #[#[[35]]] #[#[[D]]] false,br #[#[[32,9,13,10]]] #[#[[D]]] false,dI #[#[[D]]],l7 (aI nB)<|ar [ah [97]<|J+12,ah [99]<|J+13],br #[#[[92]]] #[#[[99]]] false,br #[#[[39,34]]] #[#[[99]]] false]:=by kernel_rfl
def Un:Ev (jE x C L (.ok<|.ret<|ah [D] G)<|cf [(C.z+7,C.io x.P bb a8),(L,bT x.P C.z u bl U bo q v),(C.z+1,C.sh x.P (b7 ck us) (ah (bs::bt) b0) a6),(C.z+13,aP K [])] ca J (H 0x9701104ff01b60ff05ba0) [.bool true,.bool false] [(C.z+2,cT C.z),(C.z+8,cv<|C.z+7)] a7) a7 [0,1,2,3] (.next<|eW L) [((C.1+7),C.io x.P bb a8),(L,bT x.P C.z u bl U bo true<|ah [D] G),((C.1+1),C.sh x.P (ah [ck] us) (ah (bs::bt++[D])<|J+16)<|a6),((C.1+13),aP (K) [])] [] [(([D]==[ck]),false),(([ck]==[32]),false),(([D]==[10]),false)] [fL #[#[(bs::bt)]] #[#[[D]]],br #[#[[92]]] #[#[[D]]] false,dI #[#[[D]]],br #[#[[39,34]]] #[#[[ck]]] true]:=by kernel_rfl
def Um:Ev (jE x C L (.ok<|.ret<|ah [D] G)<|cf [(C.z+7,C.io x.P bb a8),(L,bT x.P C.z u bl U bo q v),(C.z+1,C.sh x.P (b7 ck us) (ah [] b0) a6),(C.z+13,aP K [])] ca J (H 0x97014ff01b60ff05ba0) [.bool true,.bool false] [(C.z+2,cT C.z),(C.z+8,cv<|C.z+7)] a7) a7 [0,1,2,3] (.next<|eW L) [((C.1+7),C.io x.P bb a8),(L,bT x.P C.z u bl U bo true<|ah [D] G),((C.1+1),C.sh x.P (ah [ck] us) (ah [D] G)<|a6),((C.1+13),aP (K) [])] [] [(([D]==[ck]),false),(([ck]==[32]),false),(([D]==[10]),false)] [br #[#[[92]]] #[#[[D]]] false,dI #[#[[D]]],br #[#[[39,34]]] #[#[[ck]]] true]:=by kernel_rfl
def Ul:Ev (jE x C L (.ok<|.ret<|ah [D] G)<|cf [(C.z+7,C.io x.P bb a8),(L,bT x.P C.z u bl U bo q v),(C.z+1,C.sh x.P (b7 ck us) c0 a6),(C.z+13,aP K [])] ca J (H 0xe301ff04ba0) [.bool true] [(C.z+2,cT C.z),(C.z+8,cv<|C.z+7)] a7) a7 [0,1,2,3] (.next<|eW L) [((C.1+7),C.io x.P bb a8),(L,bT x.P C.z u bl U bo true<|ah [D] G),((C.1+1),C.sh x.P (.str vQ<|J+14) (c0)<|a6),((C.1+13),aP (K) [])] [] [(([D]==[ck]),true),(([ck]==[32]),false),(([D]==[10]),false)] [dI #[#[[D]]],br #[#[[39,34]]] #[#[[ck]]] true]:=by kernel_rfl
def Uo:Ev (jE x C L (.ok<|.ret<|ah [D] G)<|cf [(C.z+7,C.io x.P bb a8),(L,bT x.P C.z u bl U 97 q v),(C.z+1,C.sh x.P (b7 92 us) (ah [] b0) a6),(C.z+13,aP K [])] ca J (H 0xe30497014ff01b603f04f20ff0f20ff01d60) [.bool false,.bool true,.bool false] [(C.z+2,cT C.z),(C.z+8,cv<|C.z+7)] a7) a7 [0,1,2,3] (.next<|eW L) [((C.1+7),C.io x.P bb a8),(L,bT x.P C.z u bl U 97 (q)<|ah [D] G),((C.1+1),C.sh x.P (.str vQ U) (ah [D] G)<|a6),((C.1+13),aP (K) [])] [] [(([D]==[10]),false)] [br #[#[[39,34]]] #[#[[97]]] false,dI #[#[[D]]],br #[#[[92]]] #[#[[92]]] true,br #[#[[39,34]]] #[#[[92]]] false]:=by kernel_rfl
end
structure Rd (C:Lc):Prop where
 h2:2<=C.l.length
 hl:C.l.length<=10000
inductive Gu (x:Wd) (C:Lc) (p c:N) (F':Fs):aL->ao->Prop
 |mk (t tp):Gu x C p c F' (.ok (.ret (b7 c t))) [(C.z+7,C.io x.P tp (p+1))]
inductive Gw (x:Wd) (C:Lc) (tp p:N) (F':Fs):aL->ao->Prop
 |mk (t):Gw x C tp p F' (.ok (.ret (.str #[#[[]]] t))) [(C.z+7,C.io x.P tp p)]
def Rg(g:Rd C)(W:F (C.z+8) (cv<|C.z+7))(d:C.l.drop p=c::r):ay x aj 100 (.call (.ref 660) #[[.ref<|C.z+8,.int 1 J],[]]) F [(C.z+7,C.io x.P tp p)] (Gu x C p c):=by
 have G:=Nat.lt_of_not_le λU=>by rw[FH.mpr U]at d;cases d
 have h:=g.hl;have M:=g.h2;have f:(C.l.drop p).take 1=[c]:=by rw[d,];rfl
 have Z:dI (iZ<|ar C.l):=b8 h ζ;have i:=decide_eq_false<|Fu.mpr<|kr.mpr G;by_cases u:p+1<C.l.length
 .have K:=decide_eq_true<|kr.mpr u
  have:=Pi (l:=C.l) (a:=p) (b:=p+1) G (oU p) Z<|(FW p 1).symm▸lZ M;rw[FW,f]at this;rw[fq (O:=[(_,_)]) #[W,ab] λn D=>bp (ao6 C tp p J n D c x) #[K,i,ab] #[this,Z,ab] (aV) #[_,_]]
 .have e:=F9 (F_ u) G
  have K:=yT e;have:=Pi (l:=C.l) (a:=p) (b:=C.l.length) (d7 _) (iJ G) Z λq=>lZ M<|K.symm.trans q;rw[K,f]at this;rw[fq (O:=[(_,_)]) #[W,ab] λn D=>bp (ao5 C tp p J n D c x) #[decide_eq_false<|wC.mpr<|oK.mpr<|F_ u,i,ab] #[this,Z,ab] (aV)<|e▸#[_,_]]
def Rh(g:Rd C)(W:F (C.z+8) (cv<|C.z+7))(d:C.l.drop p=[]):ay x aj 100 (.call (.ref 660) #[[.ref<|C.z+8,.int 1 G],[]]) F [(C.z+7,C.io x.P tp p)] (Gw x C tp p):=by have a:=FH.mp d;rw[fq (O:=[(_,_)]) #[W,ab] λn D=>bp (ao4 C tp p G n D x) #[(decide_eq_true (by simp only[oJ];lia)),ab] #[(tT g.hl),ab] (aV) #[_]]
structure Lt (c:N):Prop where
 wc:eA iR #[#[[c]]]=true
 es:eA #[#[[92]]] #[#[[c]]]=false
 co:eA #[#[[35]]] #[#[[c]]]=false
 ws:eA #[#[[32,9,13,10]]] #[#[[c]]]=false
 qu:eA #[#[[39,34]]] #[#[[c]]]=false
 pu:eA #[#[[59]]] #[#[[c]]]=false
 nl:([c]==[10])=false
 n39:([c]==[39])=false
 n34:([c]==[34])=false
def MJ(c:N):Bool:=eA iR #[#[[c]]]&&((not (eA #[#[[92]]] #[#[[c]]]))&&((not (eA #[#[[35]]] #[#[[c]]]))&&((not (eA #[#[[32,9,13,10]]] #[#[[c]]]))&&((not (eA #[#[[39,34]]] #[#[[c]]]))&&((not (eA #[#[[59]]] #[#[[c]]]))&&((not (([c]==[10])))&&((not (([c]==[39])))&& (not (([c]==[34]))))))))))
def MK(h:65<=c)(M:c<=80):Lt c:=by have g:=r5.mp (by kernel_rfl:(sb 16).all (λj=>MJ<|65+j)=true) (c-65)<|S6.mpr<|ajr M;rw[show 65+(c-65)=c by rw[ajs h]]at g;unfold MJ at g;simp only[kp,Sh]at g;rw[XS g λa b c d e f z i K=>#[a,b,c,d,e,f,z,i,K]]
def kn:Option N->N->af
 |none,_=>.none
 |some Z,D=>b7 Z D
structure Lz where
 tp:N
 un:N
 te:N
 q:Bool
 v:af
 us:N
 ut:N
 k:Int
 uk:N
 dn:Int
 ts:N
abbrev S_(x:Wd)(C:Lc)(L:N)(u:N->N)(st:N)(n:!N)(p i:N)(m:Lz):ao:=[(C.z+7,C.io x.P m.tp p),(L,bT x.P C.z u m.un m.te i m.q m.v),(C.z+1,C.sh x.P (b7 st m.us) (.str #[#[n]] m.ut)<|.int m.k m.uk),(C.z+13,aP m.dn [])]
inductive Fo (x:Wd) (C:Lc) (L:N) (u:N->N) (st:Option N) (to pb:!N) (p:N):ao->Prop
 |mk (e0 m):Fo x C L u st to pb p ([(C.z+7,C.io x.P (Lz.tp m) p),(L,bT x.P C.z u m.un m.te e0 m.q m.v),(C.z+1,C.sh x.P (kn st m.us) (.str #[#[to]] m.ut) (.int m.k m.uk)),(C.z+13,aP m.dn (pb.map (b7 · m.ts)))])
abbrev FL(C:Lc)(F:Fs):Prop:=gz F [(C.z+2,cT C.z),(C.z+8,cv<|C.z+7)]
def gz.le{F F':Fs}(l:Le F F'):∀{O:ao},gz F O->gz F' O:=by
 intro J;induction J with
 |nil=>intro _;rw[trivial]
 |cons _ _ C=>intro U;rw[#[l _ _ U.1,C U.2]]
section
variable{x:Wd} {C:Lc} {L:N} {u:N->N} {F:Fs} {Q:Po}
def lV(g:Rd C)(W:FL C F){st e v a:af}(d:C.l.drop p=c::r)(k:∀(F':Fs) (t z:N),Le F F'->FL C F'->On x aj 200 F Q (jE x C L) [(L,bT x.P C.z u a6 J G q v),(C.z+1,C.sh x.P st e a),(C.z+13,aP D [])] [] (.ok<|.ret<|b7 c t) F' [(C.z+7,C.io x.P z<|p+1)]):ay x aj 200 (eW L) F [(C.z+7,C.io x.P tp p),(L,bT x.P C.z u a6 J G q v),(C.z+1,C.sh x.P st e a),(C.z+13,aP D [])] Q:=fp W λB K=>jC (PA C L tp p J B K a6 G u D a st e v q x) ab ab ((Rg g (an _ _ W.2.1) d).le ζ λ_ _ _ _ U=>U) λA F' h l q=>q.casesOn λt z=>k F' t z (bN l)<|W.le<|bN l
def eU(h:eA a b=r):br a b r:=h
def jc{l r:!N}(h:l.drop p=c::r):l.drop (p+1)=r:=by have:=congrArg (zF 1) h;simpa[sf]using this
def pR:l7 (.type "tuple") (ar [qH (iZ<|ar [97]) a,qH (iZ<|ar [99]) b]):=#[by kernel_rfl,ab]
def qq(h:q=39\/q=34):eA #[#[[39,34]]] #[#[[q]]]=true/\([q]==[32])=false/\([q]==[10])=false/\([q]==[q])=true/\eA #[#[[92]]] #[#[[q]]]=false:=by rcases h with rfl|rfl<;>rw[#[by kernel_rfl,rfl,rfl,rfl,by kernel_rfl]]
def rC(h:l.length<=10000):dI #[#[l]]:=by rw[tT h]
inductive ur (x:Wd) (C:Lc) (L:N) (u:N->N) (s:Option N) (k pb e:!N) (F':Fs):aL->ao->Prop
 |mk {L':ao} (p') (h1:C.l.drop p'=e) (h2:Fo x C L u s k pb p' L'):ur x C L u s k pb e F' (.ok .next) L'
def lB:eA #[#[[92]]] #[#[[97]]]=false/\eA #[#[[39,34]]] #[#[[97]]]=false:=#[by kernel_rfl,by kernel_rfl]
def sY:eA #[#[[92]]] #[#[[99]]]=false/\eA #[#[[39,34]]] #[#[[99]]]=false:=#[by kernel_rfl,by kernel_rfl]
def kL:dI (iZ<|ar [a]):=rC<|show 1<=10000 by decide
def Lx(st:N)(n a k:!N)(s:Option N)(pb e:!N):Prop:=k≠[]/\∀x f j L,Rd f->∀o p i E,FL f o->f.l.drop p=a->n.length+a.length<=10000->(st=92->i=97)->ay x aj 200 (eW j) o (S_ x f j L st n p i E) (ur x f j L s k pb e)
def Lx.aw{c m:N}{u r k pb e:!N}{s:Option N}(a:Lt c)(X:Lx 97 (m::u++[c]) r k s pb e):Lx 97 (m::u) (c::r) k s pb e:=by rw[#[X.1,λx f j L g o p i E W d Z b=>?_]];rw[lV g W d λT D z l h=>#[_,_,_,h,λJ G=>bu (Uh f j E.te z (p+1) _ D E.us J G E.un i E.ut m L E.dn (.int E.k E.uk) E.v E.q u x) #[a.nl,ab] #[ji (dl _ _) (dl _ _)<|LE Z,a.wc,a.es,a.qu,a.co,a.ws,kL,pR,lB.1,lB.2,ab] rfl l <|X.2 x f j L g _ _ _ ⟨_,_,_,_,_,_,_,_,_,_,0⟩ (h.le an) (jc d) (by simp only[cJ,dM,kZ];rw[LF Z]) λU=>nomatch U]]
def Lx.as{c m:N}{u r:!N}(a:c=32\/c=9):Lx 97 (m::u) (c::r) (m::u) (some 32) [] r:=by
 rw[#[dl _ _,λx f j L g o p i E W d Z b=>?_]]
 have Y:∀{c},(c=32\/c=9)->([c]==[10])=false/\eA #[#[[32,9,13,10]]] #[#[[c]]]=true:=λU=>by rcases U with rfl|rfl<;>rw[⟨rfl,by kernel_rfl⟩]
 rw[lV g W d λT D z l e=>#[_,_,_,e,λJ G=>bp (Ug f j E.te z (p+1) _ D E.us J G E.un i E.ut m L E.dn (.int E.k E.uk) E.v E.q u x) #[(Y a).1,ab] #[rC<|x7 Z,(Y a).2,kL,pR,lB.1,lB.2,ab] l #[p+1,jc d,#[_,#[_,_,_,_,_,_,_,_,_,_,0]]]]]
def Lx.ap{m:N}{u r:!N}:Lx 97 (m::u) (59::r) (m::u) (some 32) [59] r:=by rw[#[dl _ _,λx f j L g o p i E W d Z b=>?_]];rw[lV g W d λT D z l a=>#[_,_,_,a,λJ G=>bp (Ue f j E.te z (p+1) _ D E.us J G E.un i E.ut m L E.dn (.int E.k E.uk) E.v E.q u x) #[rfl,ab] #[rC<|x7 Z,kL,eU<|by kernel_rfl,eU<|by kernel_rfl,eU<|by kernel_rfl,eU<|by kernel_rfl,eU<|by kernel_rfl,eU<|by kernel_rfl,kL,pR,lB.1,lB.2,ab] l #[p+1,jc d,#[_,#[_,_,_,_,_,_,_,_,_,_,D]]]]]
def Lx.ae{m:N}{u:!N}:Lx 97 (m::u) [] (m::u) none [] []:=by
 rw[#[dl _ _,λx f j L g o p i E W d Z b=>?_]];exact fp W λB K=>jC (PA f j E.tp p E.te B K E.un i L E.dn (.int E.k E.uk) _ _ E.v E.q x) ab ab ((Rh g (an _ _ W.2.1) d).le ζ λ_ _ _ _ U=>U) λA T h l q=>by rw[q.casesOn λD=>?_];rw[#[_,_,_,W.le λa Y U=>l a Y<|an a Y U,λJ G=>bp (Ud f j E.te E.tp p D E.us J G E.un i E.ut m L E.dn (.int E.k E.uk) E.v E.q u x) ab #[rC<|ζ,pR,lB.1,lB.2,ab] (bN l) #[p,d,#[_,#[_,_,_,_,_,0,_,_,_,_,0]]]]]
def Lx.aq{m:N}{u r k pb e:!N}{s:Option N}(X:Lx 39 (m::u) r k s pb e):Lx 97 (m::u) (39::r) k s pb e:=by rw[#[X.1,λx f j L g o p i E W d Z b=>?_]];rw[lV g W d λT D z l a=>#[_,_,_,a,λJ G=>bu (Uf f j E.te z (p+1) _ D E.us J G E.un i E.ut m L E.dn (.int E.k E.uk) E.v E.q u x) #[rfl,ab] #[eU<|by kernel_rfl,eU<|by kernel_rfl,eU<|by kernel_rfl,kL,pR,lB.1,lB.2,ab] rfl l <|X.2 x f j L g _ _ _ ⟨_,_,_,_,_,_,_,_,_,_,0⟩ (a.le an) (jc d) (ajt Z) λU=>nomatch U]]
def Lx.qw{q c:N}{n r k pb e:!N}{s:Option N}(u:q=39\/q=34)(a:Lt c)(X:Lx q (n++[c]) r k s pb e):Lx q n (c::r) k s pb e:=by
 rw[#[X.1,λx f j L g o p i E W d Z b=>(xo (qq u) λQ m U U U=>?_)]];have w:([c]==[q])=false:=by rcases u with rfl|rfl;rw[a.n39];rw[a.n34]
 have t:=b;cases n with
 |nil=>rw[lV g W d λT D z l h=>#[_,_,_,h,λJ G=>bu (Um f j E.te z (p+1) _ D E.us J G E.un i E.ut q L E.dn (.int E.k E.uk) E.v E.q x) #[w,m,a.nl,ab] #[a.es,kL,Q,ab] rfl l <|X.2 x f j L g _ _ _ #[_,_,_,_,_,_,_,_,_,_,0] (h.le an) (jc d) (by dsimp only[cJ,dM,kZ]at Z⊢;rw[aju Z]) t]]
 |cons y A=>rw[lV g W d λT D z l h=>#[_,_,_,h,λJ G=>bu (Un f j E.te z (p+1) _ D E.us J G E.un i E.ut y q L E.dn (.int E.k E.uk) E.v E.q A x) #[w,m,a.nl,ab] #[ji (dl _ _) (dl _ _)<|LE Z,a.es,kL,Q,ab] rfl l <|X.2 x f j L g _ _ _ #[_,_,_,_,_,_,_,_,_,_,0] (h.le an) (jc d) (by simp only[cJ,dM,kZ];rw[LF Z]) t]]
def Lx.qe{q:N}{n r k pb e:!N}{s:Option N}(u:q=39\/q=34)(X:Lx 97 n r k s pb e):Lx q n (q::r) k s pb e:=by rw[#[X.1,λx f j L g o p i E W d Z b=>(xo (qq u) λQ m I h K=>?_)]];rw[lV g W d λT D z l a=>#[_,_,_,a,λJ G=>bu (Ul f j E.te z (p+1) _ D E.us J G E.un i q L E.dn (.int E.k E.uk) _ E.v E.q x) #[h,m,I,ab] #[kL,Q,ab] rfl l <|X.2 x f j L g _ _ _ ⟨_,_,_,_,_,_,_,_,_,_,0⟩ (a.le an) (jc d) (ajv Z) λU=>nomatch U]]
def Lx.xx{c:N}{r k pb e:!N}{s:Option N}(h:Lt c)(X:Lx 97 [c] r k s pb e):Lx 92 [] (c::r) k s pb e:=by rw[#[X.1,λx f j L g o p i E W d Z b=>?_]];obtain rfl:=b rfl;rw[lV g W d λT D z l a=>#[_,_,_,a,λJ G=>bu (Uo f j E.te z (p+1) _ D E.us J G E.un E.ut L E.dn (.int E.k E.uk) E.v E.q x) #[h.nl,ab] #[lB.2,kL,eU<|by kernel_rfl,eU<|by kernel_rfl,ab] rfl l <|X.2 x f j L g _ _ _ ⟨_,_,_,_,_,_,_,_,_,_,0⟩ (a.le an) (jc d) (ajw Z) λU=>nomatch U]]
def Lx.cs{c m:N}{u r:!N}(a:c=32\/c=9\/c=10):Lx 99 (m::u) (c::r) (m::u) (some 32) [] r:=by
 rw[#[dl _ _,λx f j L g o p i E W d Z b=>?_]];by_cases F:c=10
 .subst F
  rw[lV g W d λT D z l e=>#[_,_,_,e,λJ G=>bp (Ui f j E.te z (p+1) D E.us J G E.un i E.ut m E.uk L E.dn E.k E.v E.q u x) ab #[rC<|x7 Z,eU<|by kernel_rfl,kL,pR,sY.1,sY.2,ab] l #[p+1,jc d,#[_,#[_,_,_,_,_,_,_,_,_,_,0]]]]]
 .have Y:([c]==[10])=false/\eA #[#[[32,9,13,10]]] #[#[[c]]]=true:=by rcases a with rfl|rfl|rfl<;>first|rw[#[rfl,by kernel_rfl]]|rw[absurd rfl F]
  rw[lV g W d λT D z l e=>#[_,_,_,e,λJ G=>bp (Uk f j E.te z (p+1) _ D E.us J G E.un i E.ut m L E.dn (.int E.k E.uk) E.v E.q u x) #[Y.1,ab] #[rC<|x7 Z,Y.2,kL,pR,sY.1,sY.2,ab] l #[p+1,jc d,#[_,#[_,_,_,_,_,_,_,_,_,_,0]]]]]
def Lx.co{c m:N}{u r:!N}(a:Lt c\/c=92\/c=39\/c=34):Lx 99 (m::u) (c::r) (m::u) (some 32) [c] r:=by
 rw[#[dl _ _,λx f j L g o p i E W d Z b=>?_]];have Y:([c]==[10])=false/\eA #[#[[32,9,13,10]]] #[#[[c]]]=false/\eA #[#[[59]]] #[#[[c]]]=false/\eA #[#[[35]]] #[#[[c]]]=false:=by
  rcases a with U|rfl|rfl|rfl
  .rw[⟨U.nl,U.ws,U.pu,U.co⟩]
  all_goals exact⟨rfl,by kernel_rfl,by kernel_rfl,by kernel_rfl⟩
 rw[lV g W d λT D z l e=>#[_,_,_,e,λJ G=>bp (Uj f j E.te z (p+1) _ D E.us J G E.un i E.ut m L E.dn (.int E.k E.uk) E.v E.q u x) #[Y.1,ab] #[Y.2.1,Y.2.2.1,Y.2.2.2,Y.2.1,kL,pR,sY.1,sY.2,ab] l #[p+1,jc d,#[_,#[_,_,_,_,_,_,_,_,_,_,D]]]]]
end
section
variable(C:Lc) (tp p b0 sz tk a6 K c1 c0 ck bl a8 ca a7 ch:N) (bo D:Int) (st bt v U G:af) (pb J:!af) (u:N->N) (bs:!N) (x:Wd) (Y bb:ao)
def Oq:av:=ex x aj 300 (.fn 817 #[[.ref<|C.z+2],[]])<|cf [(C.z+7,C.io x.P tp p),(C.z+1,C.sh x.P (st) (.str bM b0) bt),(C.z+13,aP bo pb)] sz tk (H 0x566aa0) [] [(C.z+2,cT C.z),(C.z+8,cv<|C.z+7)] Y
def xT(x:Wd)(C:Lc)(sz:N):Ko:=(Oq C 0 0 0 sz 0 0 .none .none [] x []).resume
def PR:Ev (Oq C tp p b0 sz tk bo st bt pb x Y) Y [0,3,1,2] (.pend 297 aj (eW sz)<|xT x C sz) ([((C.1+7),C.io x.P tp p),(sz,ii x.P C.z (uf tk (tk+1)<|tk+3) (tk+2) 32 false),((C.1+1),C.sh x.P (st) (.str bM b0)<|bt),((C.1+13),aP bo pb)]++[]) [] [] []:=by kernel_rfl
def rt1:Ev (xT x C sz (.ok .next)<|cf [(C.z+7,C.io x.P a6 K),(sz,bT x.P C.z u c1 c0 ck true v),(C.z+1,C.sh x.P U (ah (bl::bs) a8) G),(C.z+13,aP D J)] ca a7 (H 0x41ff019f0) [] [(C.z+2,cT C.z),(C.z+8,cv<|C.z+7)] bb) bb [0,2,3] (.res<|.ok<|.ret<|ah (bl::bs) a8) [((C.1+7),C.io x.P a6 K),((C.1+1),C.sh x.P (U) (.str bM<|a7+2)<|G),((C.1+13),aP D J)] [] [] []:=by kernel_rfl
def rt2:Ev (xT x C sz (.ok .next)<|cf [(C.z+7,C.io x.P a6 K),(sz,bT x.P C.z u c1 c0 ck false v),(C.z+1,C.sh x.P U (ah (bl::bs) a8) G),(C.z+13,aP D J)] ca a7 (H 0x41ff01149f0) [] [(C.z+2,cT C.z),(C.z+8,cv<|C.z+7)] bb) bb [0,2,3] (.res<|.ok<|.ret<|ah (bl::bs) a8) [((C.1+7),C.io x.P a6 K),((C.1+1),C.sh x.P (U) (.str bM<|a7+2)<|G),((C.1+13),aP D J)] [] [] []:=by kernel_rfl
def rt3:Ev (xT x C sz (.ok .next)<|cf [(C.z+7,C.io x.P a6 K),(sz,bT x.P C.z u c1 c0 ck false v),(C.z+1,C.sh x.P U (ah [] a8) G),(C.z+13,aP D J)] ca a7 (H 0x41ff0441149f0) [] [(C.z+2,cT C.z),(C.z+8,cv<|C.z+7)] bb) bb [0,2,3] (.res<|.ok<|.ret .none) [((C.1+7),C.io x.P a6 K),((C.1+1),C.sh x.P (U) (.str bM<|a7+2)<|G),((C.1+13),aP D J)] [] [] []:=by kernel_rfl
def NK:av:=ex x aj 400 (.fn 810 #[[.ref<|C.z+2],[]])<|cf [(C.z+7,C.io x.P tp p),(C.z+1,C.sh x.P (st) (.str bM b0) bt),(C.z+13,aP bo pb)] sz tk (H 0xa5061bb1b1bb4fc0666) [] [(C.z+2,cT C.z),(C.z+8,cv<|C.z+7),(C.z+11,aP 0 []),(C.z+12,aP 0 [])] Y
def CK(x:Wd)(C:Lc)(sz:N):Ko:=(NK C 0 0 0 sz 0 0 .none .none [] x []).resume
def It:Ev (NK C tp p b0 sz tk bo st bt pb x Y) Y [0,1,2,3] (.pend 397 aj (.call (.ref 817) #[[.ref<|C.1+2],[]])<|CK x C sz) ([((C.1+7),C.io x.P tp p),((C.1+1),C.sh x.P (st) (.str bM b0)<|bt),((C.1+13),aP bo pb)]++[(sz,az [V x.P bx tk<|.ref<|C.1+2] 1)]) [] [] []:=by kernel_rfl
def ZU:∀(x:Wd) c,Ev (CK x C sz (.ok<|.ret<|ah (bl::bs) a8)<|cf [(C.z+7,C.io x.P a6 K),(C.z+1,C.sh x.P U (.str bM ch) G),(C.z+13,aP D J),(sz,az [V x.P bx tk<|.ref<|C.z+2] 1)] ca a7 (H 0x614fc061114fc066114fc0666) [] [(C.z+2,cT C.z),(C.z+8,cv<|C.z+7),(C.z+11,aP 0 []),(C.z+12,aP 0 [])] c) c [0,1,2] (.res<|.ok<|.ret<|ah (bl::bs) a8) [((C.1+7),C.io x.P a6 K),((C.1+1),C.sh x.P (U) (.str bM ch)<|G),((C.1+13),aP D J)] [] [] []:=cS
def ZV:∀(x:Wd) c,Ev (CK x C sz (.ok<|.ret<|.none)<|cf [(C.z+7,C.io x.P a6 K),(C.z+1,C.sh x.P U (.str bM ch) G),(C.z+13,aP D J),(sz,az [V x.P bx tk<|.ref<|C.z+2] 1)] ca a7 (H 0x4fc061ee1e1ee4fc06114fc066114fc0666) [] [(C.z+2,cT C.z),(C.z+8,cv<|C.z+7),(C.z+11,aP 0 []),(C.z+12,aP 0 [])] c) c [0,1,2] (.res<|.ok<|.ret .none) [((C.1+7),C.io x.P a6 K),((C.1+1),C.sh x.P (U) (.str bM ch)<|G),((C.1+13),aP D J)] [] [] []:=cS
end
def oO(c:N)(r k:!N)(s:Option N)(pb e:!N):Prop:=(Lt c/\Lx 97 [c] r k s pb e)\/(c=92/\Lx 92 [] r k s pb e)\/(c=59/\Lx 99 [59] r k s pb e)\/((c=39\/c=34)/\Lx c [] r k s pb e)
def Lx.ne{st:N}{n a k:!N}{s:Option N}{pb e:!N}(X:Lx st n a k s pb e):k≠[]:=X.1
def oO.ne{c:N}{r k:!N}{s:Option N}{pb e:!N}(X:oO c r k s pb e):k≠[]:=by rcases X with U|U|U|U<;>rw[U.2.ne]
inductive Ls (x:Wd) (C:Lc) (st:Option N) (pb:!N) (p:N):ao->Prop
 |mk (m):Ls x C st pb p ([(C.z+7,C.io x.P (Lz.tp m) p),(C.z+1,C.sh x.P (kn st m.us) (.str bM m.ut) (.int m.k m.uk)),(C.z+13,aP m.dn (pb.map (b7 · m.ts)))])
section
variable{x:Wd} {C:Lc} {L:N} {u:N->N} {F:Fs} {Q:Po}
def y4(g:Rd C)(W:FL C F){st a:af}(d:C.l.drop p=c::r)(k:∀(F':Fs) (t z:N),Le F F'->FL C F'->On x aj 200 F Q (q_ x C L) [(L,ii x.P C.z u G 32 false),(C.z+1,C.sh x.P st (.str bM J) a),(C.z+13,aP D [])] [] (.ok<|.ret<|b7 c t) F' [(C.z+7,C.io x.P z<|p+1)]):ay x aj 200 (eW L) F [(C.z+7,C.io x.P tp p),(L,ii x.P C.z u G 32 false),(C.z+1,C.sh x.P st (.str bM J) a),(C.z+13,aP D [])] Q:=fp W λB K=>jC (Py C L tp p G J B K u D a st x) ab ab ((Rg g (an _ _ W.2.1) d).le ζ λ_ _ _ _ U=>U) λA F' h l q=>q.casesOn λt z=>k F' t z (bN l)<|W.le<|bN l
def Lo(g:Rd C)(W:FL C F){r t pb e:!N}(X:oO c r t s pb e)(hz:r.length<=9999):(C.l.drop p=c::r->ay x aj 200 (eW L) F [(C.z+7,C.io x.P tp p),(L,ii x.P C.z u a7 32 false),(C.z+1,C.sh x.P (b7 32 us) (.str bM a8)<|.int k bb),(C.z+13,aP a6 [])] (ur x C L u s t pb e))/\ (C.l.drop p=r->ay x aj 200 (eW L) F [(C.z+7,C.io x.P tp p),(L,ii x.P C.z u a7 32 false),(C.z+1,C.sh x.P (b7 32 us) (.str bM a8)<|.int k bb),(C.z+13,aP a6 [b7 c ts])] (ur x C L u s t pb e)):=by
 have o:∀{a:N},dI (iZ<|ar [a]):=rC (show 1<=10000 by decide);have f:=W.le (F':=fz F []) an;have n:∀a:N,[a].length+r.length<=10000:=λa=>by rw[ajI hz]
 have H:=ajJ hz;have q:97=92->32=97:=λU=>nomatch U;rcases X with⟨j,X⟩|⟨rfl,X⟩|⟨rfl,X⟩|⟨w,X⟩
 .rw[⟨λd=>y4 g W d λT D z l b=>#[_,_,_,b,λJ G=>bu (TY C L a7 a8 z (p+1) c D us J G u a6 (.int k bb) x) #[j.nl,ab] #[j.wc,j.es,j.co,j.ws,o,ab] rfl l <|X.2 x C L u g _ _ _ ⟨_,_,_,_,_,_,_,_,_,_,0⟩ (b.le an) (jc d) (n c) q],λd=>fp W λB K=>bu (p_w C L tp p a7 a8 B K c ts us u a6 (.int k bb) x) #[j.nl,ab] #[j.wc,j.es,j.co,j.ws,ab] rfl (aV) <|X.2 x C L u g _ _ _ ⟨_,_,_,_,_,_,_,_,_,_,0⟩ f d (n c) q⟩]
 .rw[⟨λd=>y4 g W d λT D z l b=>#[_,_,_,b,λJ G=>bu (TU C L a7 a8 z (p+1) 92 D us J G u a6 (.int k bb) x) #[rfl,ab] #[eU<|by kernel_rfl,eU<|by kernel_rfl,eU<|by kernel_rfl,o,ab] rfl l <|X.2 x C L u g _ _ _ ⟨_,_,_,_,_,_,_,_,_,_,0⟩ (b.le an) (jc d) H λ_=>rfl],λd=>fp W λB K=>bu (p_e C L tp p a7 a8 B K 92 ts us u a6 (.int k bb) x) #[rfl,ab] #[eU<|by kernel_rfl,eU<|by kernel_rfl,eU<|by kernel_rfl,ab] rfl (aV) <|X.2 x C L u g _ _ _ ⟨_,_,_,_,_,_,_,_,_,_,0⟩ f d H λ_=>rfl⟩]
 .rw[#[λd=>y4 g W d λT D z l b=>#[_,_,_,b,λJ G=>bu (TW C L a7 a8 z (p+1) 59 D us J G u a6 (.int k bb) x) #[rfl,ab] #[eU<|by kernel_rfl,eU<|by kernel_rfl,eU<|by kernel_rfl,eU<|by kernel_rfl,eU<|by kernel_rfl,o,ab] rfl l <|X.2 x C L u g _ _ _ ⟨_,_,_,_,_,_,_,_,_,_,0⟩ (b.le an) (jc d) (n 59) λU=>nomatch U],λd=>fp W λB K=>bu (p_p C L tp p a7 a8 B K 59 ts us u a6 (.int k bb) x) #[rfl,ab] #[eU<|by kernel_rfl,eU<|by kernel_rfl,eU<|by kernel_rfl,eU<|by kernel_rfl,eU<|by kernel_rfl,ab] rfl (aV) <|X.2 x C L u g _ _ _ ⟨_,_,_,_,_,_,_,_,_,_,0⟩ f d (n 59) λU=>nomatch U]]
 .have Y:eA #[#[[59]]] #[#[[c]]]=false/\eA iR #[#[[c]]]=false/\eA #[#[[35]]] #[#[[c]]]=false/\eA #[#[[32,9,13,10]]] #[#[[c]]]=false/\(c=92->32=97):=by rcases w with rfl|rfl<;>rw[⟨by kernel_rfl,by kernel_rfl,by kernel_rfl,by kernel_rfl,λU=>nomatch U⟩]
  rw[xo (qq w) λQ m I h i=>?_];rw[#[λd=>y4 g W d λT D z l b=>#[_,_,_,b,λJ G=>bu (TX C L a7 a8 z (p+1) c D us J G u a6 (.int k bb) x) #[I,ab] #[Q,Y.1,Y.2.1,i,Y.2.2.1,Y.2.2.2.1,o,ab] rfl l <|X.2 x C L u g _ _ _ ⟨_,_,_,_,_,_,_,_,_,_,0⟩ (b.le an) (jc d) H Y.2.2.2.2],λd=>fp W λB K=>bu (p_q C L tp p a7 a8 B K c ts us u a6 (.int k bb) x) #[I,ab] #[Q,Y.1,Y.2.1,i,Y.2.2.1,Y.2.2.2.1,ab] rfl (aV) <|X.2 x C L u g _ _ _ #[_,_,_,_,_,_,_,_,_,_,0] f d H Y.2.2.2.2]]
inductive Aw (x:Wd) (C:Lc) (s:Option N) (k pb e:!N) (F':Fs):aL->ao->Prop
 |mk {L':ao} (t) (p') (h1:C.l.drop p'=e) (h2:Ls x C s pb p' L'):Aw x C s k pb e F' (.ok (.ret (.str #[#[k]] t))) L'
def aq3(g:Rd C)(W:FL C F){w rest r k pb e:!N}(X:oO c r k s pb e)(hz:r.length<=9999)(hs:w++rest=c::r)(I:w.length<=1)(t:C.l.drop p=rest)(Q:Ls x C (some 32) w p a6):ay x aj 300 (.call (.ref 817) #[[.ref<|C.z+2],[]]) F a6 (Aw x C s k pb e):=by
 rw[Q.casesOn λE=>?_];have O:∀{n D:N},ay x aj 297 (eW n) (fz F []) [(C.z+7,C.io x.P (Lz.tp E) p),(n,ii x.P C.z (uf D (D+1)<|D+3) (D+2) 32 false),(C.z+1,C.sh x.P (b7 32 E.us) (.str bM E.ut)<|.int E.k E.uk),(C.z+13,aP E.dn<|w.map (b7 · E.ts))] (ur x C n (uf D (D+1)<|D+3) s k pb e):=by
  intro n D;cases w with
  |nil=>rw[((Lo (ts:=0) g (W.le an) X hz).1<|t.trans hs).le ζ λ_ _ _ _ U=>U]
  |cons a l=>
   cases l with
   |cons _ _=>simp only[dM]at I;lia
   |nil=>cases hs;rw[((Lo g (W.le an) X hz).2 t).le ζ λ_ _ _ _ U=>U]
 rw[fq W λn D=>jC (PR C E.tp p E.ut n D E.dn (b7 32 E.us) (.int E.k E.uk) (w.map (b7 · E.ts)) x) ab ab O λA T h l q=>q.casesOn λo j K=>K.casesOn λi f=>fU (jT X.ne) λm u P=>?_];subst P;have d:=W.le λa Y U=>l a Y<|an a Y U;rw[f.casesOn λH M b q v S L z R y B=>?_];cases q
 .rw[#[_,_,_,d,λJ G=>bp (rt2 C n H o M b i m L J G y v (kn s S) (.int z R) (pb.map (b7 · B)) _ u x) ab ab (bN l) #[_,o,j,#[#[_,0,0,true,.none,_,_,_,_,_,_]]]]]
 .rw[#[_,_,_,d,λJ G=>bp (rt1 C n H o M b i m L J G y v (kn s S) (.int z R) (pb.map (b7 · B)) _ u x) ab ab (bN l) #[_,o,j,#[#[_,0,0,true,.none,_,_,_,_,_,_]]]]]
inductive Al (x:Wd) (C:Lc) (p:N) (F':Fs):aL->ao->Prop
 |mk {L'} (h:Ls x C none [] p L'):Al x C p F' (.ok (.ret .none)) L'
inductive GH (x:Wd) (C:Lc) (m:Lz) (p n t:N) (F':Fs):aL->ao->Prop
 |mk (un tc ut):GH x C m p n t F' (.ok .next) [(C.z+7,C.io x.P (Lz.tp m) p),(n,bT x.P C.z (uf t (t+1) (t+3)) un (t+2) 32 false (.str bM tc)),(C.z+1,C.sh x.P .none (.str bM ut) (.int m.k m.uk)),(C.z+13,aP m.dn [])]
def aq4(g:Rd C)(W:FL C F)(t:C.l.drop p=[])(Q:Ls x C none [] p a6):ay x aj 300 (.call (.ref 817) #[[.ref<|C.z+2],[]]) F a6 (Al x C p):=by
 rw[Q.casesOn λE=>?_];have f:=W.le (F':=fz F []) an;have O:∀{n D:N},ay x aj 297 (eW n) (fz F []) [(C.z+7,C.io x.P (Lz.tp E) p),(n,ii x.P C.z (uf D (D+1)<|D+3) (D+2) 32 false),(C.z+1,C.sh x.P .none (.str bM E.ut)<|.int E.k E.uk),(C.z+13,aP E.dn [])] (GH x C E p n D):=by intro n D;rw[ay.le (fp f λB K=>jC (Py C n E.tp p (D+2) E.ut B K (uf D (D+1)<|D+3) E.dn (.int E.k E.uk) .none x) ab ab ((Rh g (an _ _ f.2.1) t).le ζ λ_ _ _ _ U=>U) λA T h l q=>(q.casesOn λi=>#[_,_,_,f.le λa Y U=>l a Y<|an a Y U,λJ G=>bp (TV C n (D+2) E.ut E.tp p i J G (uf D (D+1)<|D+3) E.dn (.int E.k E.uk) x) ab ab (bN l) ⟨_,_,_⟩])) ζ λ_ _ _ _ U=>U]
 rw[fq W λn D=>jC (PR C E.tp p E.ut n D E.dn .none (.int E.k E.uk) [] x) ab ab O λA T h l q=>q.casesOn λM b L=>#[_,_,_,W.le λa Y U=>l a Y<|an a Y U,λJ G=>bp (rt3 C n E.tp p M (D+2) 32 L J G E.dn (.str bM b) .none (.int E.k E.uk) [] _ x) ab ab (bN l) #[#[#[_,0,0,true,.none,0,_,_,_,_,0]]]]]
abbrev FG(C:Lc)(F:Fs):Prop:=gz F [(C.z+2,cT C.z),(C.z+8,cv<|C.z+7),(C.z+11,aP 0 []),(C.z+12,aP 0 [])]
def EP(g:Rd C)(W:FG C F){w rest r k pb e:!N}(X:oO c r k s pb e)(hz:r.length<=9999)(hs:w++rest=c::r)(I:w.length<=1)(t:C.l.drop p=rest)(Q:Ls x C (some 32) w p K):ay x aj 400 (.call (.ref 810) #[[.ref<|C.z+2],[]]) F K (Aw x C s k pb e):=by rw[Q.casesOn λE=>fq W λn D=>jC (It C E.tp p E.ut n D E.dn (b7 32 E.us) (.int E.k E.uk) (w.map (b7 · E.ts)) x) ab ab ((aq3 g #[an _ _ W.1,an _ _ W.2.1,ab] X hz hs I t #[E]).le ζ λ_ _ _ _ U=>U) λA T h l q=>q.casesOn λL o j b=>b.casesOn λf=>fU (jT X.ne) λm u P=>?_];subst P;rw[#[_,_,_,W.le λa Y U=>l a Y<|an a Y U,λJ G=>bp (ZU C n D f.tp o m L J G f.ut f.dn (kn s f.us) (.int f.k f.uk) (pb.map (b7 · f.ts)) u x) ab ab (bN l) #[_,o,j,#[f]]]]
def Ri(g:Rd C)(W:FG C F)(t:C.l.drop p=[])(Q:Ls x C none [] p K):ay x aj 400 (.call (.ref 810) #[[.ref<|C.z+2],[]]) F K (Al x C p):=by rw[Q.casesOn λE=>fq W λn D=>jC (It C E.tp p E.ut n D E.dn .none (.int E.k E.uk) [] x) ab ab ((aq4 g #[an _ _ W.1,an _ _ W.2.1,ab] t #[E]).le ζ λ_ _ _ _ U=>U) λA T h l q=>q.casesOn λi=>i.casesOn λf=>#[_,_,_,W.le λa Y U=>l a Y<|an a Y U,λJ G=>bp (ZV C n D f.tp p J G f.ut f.dn .none (.int f.k f.uk) [] x) ab ab (bN l) #[#[f]]]]
end
section
variable(C:Lc) (tp p L o a K U a6 a7 G c0 J na a8 sz tk c2 ch c1 dd da db:N) (bo bs:Int) (st bt ck b0:af) (pb D xs ca:!af) (bb c3:!N) (x:Wd) (Y bl:ao)
def N7:av:=ex x aj 450 (.code<|mQ L)<|cf [(C.z+7,C.io x.P tp p),(C.z+1,C.sh x.P (st) (.str bM c0) bt),(C.z+13,aP bo pb),(L,ij x.P C.l C.z o K U a6 a7 G<|ah bb a8),(o,aa #[D++[.ref a]] J),(a,aa #[xs] na)] sz tk (H 0xa5067886888867d777165616) [.ref a] [(C.z+2,cT C.z),(C.z+8,cv<|C.z+7),(C.z+11,aP 0 []),(C.z+12,aP 0 [])] Y
def CR(x:Wd)(C:Lc)(L:N):Ko:=(N7 C 0 0 L 0 0 0 0 0 0 0 0 0 0 0 0 0 0 .none .none [] [] [] [] x []).resume
def Pw:Ev (N7 C tp p L o a K U a6 a7 G c0 J na a8 sz tk bo st bt pb D xs bb x Y) Y [0,1,2,3,4,5] (.pend 449 aj (.call (.ref 810) #[[.ref<|C.1+2],[]])<|CR x C L) ([((C.1+7),C.io x.P tp p),((C.1+1),C.sh x.P (st) (.str bM c0)<|bt),((C.1+13),aP bo pb)]++[(L,ij x.P C.l C.z o K U a6 a7 G<|ah bb a8),(o,aa #[D++[aF a]] J),(a,aa ((ar xs).push (V x.P EB G<|ah bb a8).3)<|na+1)]) [] [((bb==[59]),false)] [cm #[xs],iK (ar<|D++[aF a]) (-1)<|aF a]:=by kernel_rfl
def N6:av:=ex x aj 450 (.code<|mQ L)<|cf [(C.z+7,C.io x.P tp p),(C.z+1,C.sh x.P (st) (.str bM c0) bt),(C.z+13,aP bo pb),(L,ij x.P C.l C.z o K U a6 a7 G<|ah [59] a8),(o,aa #[D++[.ref a]] J),(a,aa #[xs] na)] sz tk (H 0xa506678777761616) [] [(C.z+2,cT C.z),(C.z+8,cv<|C.z+7),(C.z+11,aP 0 []),(C.z+12,aP 0 [])] Y
def CQ(x:Wd)(C:Lc)(L:N):Ko:=(N6 C 0 0 L 0 0 0 0 0 0 0 0 0 0 0 0 0 0 .none .none [] [] [] x []).resume
def Pu:Ev (N6 C tp p L o a K U a6 a7 G c0 J na a8 sz tk bo st bt pb D xs x Y) Y [0,1,2,3,4,6,5] (.pend 449 aj (.call (.ref 810) #[[.ref<|C.1+2],[]])<|CQ x C L) ([((C.1+7),C.io x.P tp p),((C.1+1),C.sh x.P (st) (.str bM c0)<|bt),((C.1+13),aP bo pb)]++[(L,ij x.P C.l C.z o K U a6 a7 G<|.str EC a8),(o,aa ((ar<|D++[aF a]).push<|aF sz)<|J+1),(sz,aa #[[]] 0)]) [(a,aa #[xs] na)] [] [cm #[D++[aF a]]]:=by kernel_rfl
def qw1:Ev (CR x C L (.ok<|.ret<|ah c3 dd)<|cf [(C.z+7,C.io x.P c2 ch),(C.z+1,C.sh x.P ck (.str bM c1) b0),(C.z+13,aP bs ca),(L,ij x.P C.l C.z o K U a6 a7 G<|ah bb a8),(o,aa #[D++[.ref a]] J),(a,aa #[xs++[ah bb a8]]<|na+1)] da db [4,4] [] [(C.z+2,cT C.z),(C.z+8,cv<|C.z+7),(C.z+11,aP 0 []),(C.z+12,aP 0 [])] bl) bl [0,1,2,3,4,5] (.next<|mQ L) [((C.1+7),C.io x.P c2 ch),((C.1+1),C.sh x.P (ck) (.str bM c1)<|b0),((C.1+13),aP bs ca),(L,ij x.P C.l C.z o K U a6 a7 G<|ah c3 dd),(o,aa #[D++[aF a]] J),(a,aa #[xs++[ah bb a8]]<|na+1)] [] [] []:=by kernel_rfl
def qs1:Ev (CQ x C L (.ok<|.ret<|ah c3 dd)<|cf [(C.z+7,C.io x.P c2 ch),(C.z+1,C.sh x.P ck (.str bM c1) b0),(C.z+13,aP bs ca),(L,ij x.P C.l C.z o K U a6 a7 G<|ah [59] a8),(o,aa #[D++[.ref a]++[.ref sz]]<|J+1),(sz,aa #[[]] 0)] da db [4,4] [] [(C.z+2,cT C.z),(C.z+8,cv<|C.z+7),(C.z+11,aP 0 []),(C.z+12,aP 0 [])] bl) bl [0,1,2,3,4,5] (.next<|mQ L) [((C.1+7),C.io x.P c2 ch),((C.1+1),C.sh x.P (ck) (.str bM c1)<|b0),((C.1+13),aP bs ca),(L,ij x.P C.l C.z o K U a6 a7 G<|ah c3 dd),(o,aa #[D++[aF a]++[aF sz]]<|J+1),(sz,aa #[[]] 0)] [] [] []:=by kernel_rfl
def qw2:Ev (CR x C L (.ok<|.ret<|.none)<|cf [(C.z+7,C.io x.P c2 ch),(C.z+1,C.sh x.P ck (.str bM c1) b0),(C.z+13,aP bs ca),(L,ij x.P C.l C.z o K U a6 a7 G<|ah bb a8),(o,aa #[D++[.ref a]] J),(a,aa #[xs++[ah bb a8]]<|na+1)] da db [4,4] [] [(C.z+2,cT C.z),(C.z+8,cv<|C.z+7),(C.z+11,aP 0 []),(C.z+12,aP 0 [])] bl) bl [0,1,2,3,4,5] (.next<|mQ L) [((C.1+7),C.io x.P c2 ch),((C.1+1),C.sh x.P (ck) (.str bM c1)<|b0),((C.1+13),aP bs ca),(L,ij x.P C.l C.z o K U a6 a7 G .none),(o,aa #[D++[aF a]] J),(a,aa #[xs++[ah bb a8]]<|na+1)] [] [] []:=by kernel_rfl
def qs2:Ev (CQ x C L (.ok<|.ret<|.none)<|cf [(C.z+7,C.io x.P c2 ch),(C.z+1,C.sh x.P ck (.str bM c1) b0),(C.z+13,aP bs ca),(L,ij x.P C.l C.z o K U a6 a7 G<|ah [59] a8),(o,aa #[D++[.ref a]++[.ref sz]]<|J+1),(sz,aa #[[]] 0)] da db [4,4] [] [(C.z+2,cT C.z),(C.z+8,cv<|C.z+7),(C.z+11,aP 0 []),(C.z+12,aP 0 [])] bl) bl [0,1,2,3,4,5] (.next<|mQ L) [((C.1+7),C.io x.P c2 ch),((C.1+1),C.sh x.P (ck) (.str bM c1)<|b0),((C.1+13),aP bs ca),(L,ij x.P C.l C.z o K U a6 a7 G .none),(o,aa #[D++[aF a]++[aF sz]]<|J+1),(sz,aa #[[]] 0)] [] [] []:=by kernel_rfl
def qe:Ev (ex x aj 450 (.code<|mQ L)<|cf [(C.z+7,C.io x.P tp p),(C.z+1,C.sh x.P (st) (.str bM c0) bt),(C.z+13,aP bo pb),(L,ij x.P C.l C.z o K U a6 a7 G<|.none),(o,aa #[D++[.ref a]] J),(a,aa #[xs] na)] sz tk [4,0] [] [(C.z+2,cT C.z),(C.z+8,cv<|C.z+7),(C.z+11,aP 0 []),(C.z+12,aP 0 [])] Y) Y [0,1,2,3,4,5] (.res<|.ok .next) [((C.1+7),C.io x.P tp p),((C.1+1),C.sh x.P (st) (.str bM c0)<|bt),((C.1+13),aP bo pb),(L,ij x.P C.l C.z o K U a6 a7 G .none)] [(o,aa #[D++[aF a]] J),(a,aa #[xs] na)] [] []:=by kernel_rfl
end
inductive la:Option N->!N->!N->!(!N)->Prop
 |nil:la none [] [] []
 |cons {c r k s pb e pb0 rest ks}:oO c r k s pb e->pb0++rest=c::r->pb0.length<=1->r.length<=9999->la s pb e ks->la (some 32) pb0 rest (k::ks)
def jl:!(List<|List N)->!(!N)->!(!N)->!(List<|List N)
 |d,Z,[]=>d++[Z]
 |d,Z,j::ks=>if j=[59]then jl (d++[Z]) [] ks else jl d (Z++[j]) ks
def Ep(h:¬k=[59]):jl d c (k::U)=jl d (c++[k]) U:=if_neg h
def OZ:iK (ar<|U++[v]) (-1) v:=by
 rw[#[ζ,ζ,?_,?_]]
 .simp;lia
 .rw[(by simp;lia:((-1)+((ar<|U++[v]).size:Int)).toNat=U.length),];simp
def yz(h:l.length<=10000):cm #[l]:=by rw[tT h]
def yA(xs)(v:af):(ar xs).push v=ar (xs++[v]):=hU<|by simp
abbrev zD(x:Wd)(C:Lc)(m:Lz)(s:Option N)(pb:!N)(p:N):ao:=[(C.z+7,C.io x.P m.tp p),(C.z+1,C.sh x.P (kn s m.us) (.str bM m.ut)<|.int m.k m.uk),(C.z+13,aP m.dn<|pb.map (b7 · m.ts))]
section
variable{x:Wd} {C:Lc} {L o D J G H K:N}
abbrev Fx(x:Wd)(C:Lc)(L o f c t n b a d na:N)(R xs:!af)(v:af):ao:=[(L,ij x.P C.l C.z o f c t n b v),(o,aa #[R++[.ref a]] d),(a,aa #[xs] na)]
inductive Aq (x:Wd) (C:Lc) (L o D tb G H te:N) (rows:!(!(!N))) (F':Fs):aL->ao->Prop
 |mk (m s pb p) (h1:Rp F' (.lst (rows.map dG)) (.ref o)):Aq x C L o D tb G H te rows F' (.ok .next) (zD x C m s pb p++[(L,ij x.P C.l C.z o D tb G H te .none)])
def HR(W:FG C F){pb:!N}(b:aM F (d.map dG) a6)(e:aM F (c.map .str) xs):ay x aj 450 (mQ L) F (zD x C m s pb p++Fx x C L o D J G H K a U na a6 xs .none) (Aq x C L o D J G H K<|d++[c]):=
 fp W λB f=>bp (qe C m.tp p L o a D J G H K m.ut U na B f m.dn (kn s m.us) (.int m.k m.uk) (pb.map (b7 · m.ts)) a6 xs x) ab ab (aV) #[m,s,pb,p,by rw[bf▸dT.mpr (gC o _ U rfl (bc<|.head _)<|(b.to an).push<|dT.mpr<|gC a xs na rfl (bc<|.tail _<|.head _)<|e.to an)]]
def afl(g:Rd C){pb e:!N}(X:la s pb e t):∀{ac P F m p a Y na R xs d c},FG C F->C.l.drop p=e->aM F (d.map dG) R->aM F (c.map .str) xs->d.length+c.length+t.length<=9000->ay x aj 450 (mQ L) F (zD x C m s pb p++Fx x C L o D J G H K a Y na R xs (.str #[#[ac]] P)) (Aq x C L o D J G H K<|jl d c (ac::t)):=by
 have O:∀{F:Fs} {d:!(List<|List N)} {R:!af},aM F (d.map dG) R->R.length=d.length:=λU=>by have:=U.length;simpa using this
 have z:∀{F:Fs} {c:!(!N)} {xs:!af},aM F (c.map PV.str) xs->xs.length=c.length:=λU=>by have:=U.length;simpa using this
 induction X with
 |nil=>
  intro ac P F m p a Y na R xs d c W I b a8 Z;have n:=O b;have k:=z a8;by_cases a7:ac=[59]
  .subst a7
   have a6:FG C (fz F [(a,aa #[xs] na)]):=W.le an;refine fp W λB bo=>jC (Pu C m.tp p L o a D J G H K m.ut Y na P B bo m.dn .none (.int m.k m.uk) [] R xs x) ab #[yz (by simp;rw[aiQ Z n]),ab] ((Ri g a6 I #[m]).le ζ λ_ _ _ _ U=>U) λA T h l q=>q.casesOn λi=>i.casesOn λf=>?_;simp only[yA];rw[#[_,_,_,a6.le l,λbb bl=>bu (qs2 C L o a D J G H K Y P B f.tp p f.ut bb bl f.dn .none (.int f.k f.uk) R [] x) ab ab rfl (bN l)<|HR (F:=fz T []) ((a6.le l).le an) (s:=none) (pb:=[]) (d:=d++[c]) (c:=[]) (by simp only[bf];rw[((b.to λa o U=>l a o<|an a o U).push<|dT.mpr<|gC a xs na rfl (l _ _<|bc<|.head _)<|a8.to λa o U=>l a o<|an a o U).to an]) .nil]]
  .rw[fp W λB bo=>jC (Pw C m.tp p L o a D J G H K m.ut Y na P B bo m.dn .none (.int m.k m.uk) [] R xs ac x) #[by simpa using a7,ab] #[yz<|aiR Z k,OZ,ab] ((Ri g (W.le an) I ⟨m⟩).le ζ λ_ _ _ _ U=>U) λA T h l q=>q.casesOn λi=>i.casesOn λf=>?_]
   have Q:=bN l;simp only[yA];rw[#[_,_,_,W.le Q,λbb bl=>bu (qw2 C L o a D J G H K Y na P f.tp p f.ut bb bl f.dn .none (.int f.k f.uk) R xs [] ac x) ab ab rfl Q ?_]];simp only[Ep a7];rw[HR (s:=none) (pb:=[]) ((W.le Q).le an) ((b.to Q).to an) (by simp only[bf];rw[((a8.to Q).push<|c9.mpr #[P,rfl]).to an])]
 |@cons S r ch s pb e w ck t y b0 M u _ ca=>
  intro ac P F m p a Y na R xs d c W I b a8 Z;have n:=O b;have k:=z a8;by_cases a7:ac=[59]
  .subst a7
   have a6:FG C (fz F [(a,aa #[xs] na)]):=W.le an;refine fp W λB bo=>jC (Pu C m.tp p L o a D J G H K m.ut Y na P B bo m.dn (kn (some 32) m.us) (.int m.k m.uk) (w.map (b7 · m.ts)) R xs x) ab #[yz (by simp;rw[aiS Z n]),ab] ((EP g a6 y u b0 M I #[m]).le ζ λ_ _ _ _ U=>U) λA T h l q=>q.casesOn λE bs j bt=>bt.casesOn λf=>?_;simp only[yA];rw[#[_,_,_,a6.le l,λbb bl=>bu (qs1 C L o a D J G H K Y P B f.tp bs f.ut E bb bl f.dn (kn s f.us) (.int f.k f.uk) R (pb.map (b7 · f.ts)) ch x) ab ab rfl (bN l)<|ca ((a6.le l).le an) j (by simp only[bf];rw[((b.to λa o U=>l a o<|an a o U).push<|dT.mpr<|gC a xs na rfl (l _ _<|bc<|.head _)<|a8.to λa o U=>l a o<|an a o U).to an]) .nil (by simp;rw[aiT Z])]]
  .rw[fp W λB bo=>jC (Pw C m.tp p L o a D J G H K m.ut Y na P B bo m.dn (kn (some 32) m.us) (.int m.k m.uk) (w.map (b7 · m.ts)) R xs ac x) #[by simpa using a7,ab] #[yz<|aiU Z k,OZ,ab] ((EP g (W.le an) y u b0 M I ⟨m⟩).le ζ λ_ _ _ _ U=>U) λA T h l q=>q.casesOn λE bs j bt=>bt.casesOn λf=>?_]
   have Q:=bN l;simp only[yA];rw[#[_,_,_,W.le Q,λbb bl=>bu (qw1 C L o a D J G H K Y na P f.tp bs f.ut E bb bl f.dn (kn s f.us) (.int f.k f.uk) R xs (pb.map (b7 · f.ts)) ac ch x) ab ab rfl Q ?_]];simp only[Ep a7];rw[ca ((W.le Q).le an) j ((b.to Q).to an) (by simp only[bf];rw[((a8.to Q).push<|c9.mpr #[P,rfl]).to an]) (by simp;rw[aiV Z])]
end
section
variable{w:eI} {A:dW} {E:af->aN->Prop} {s:aN}
def afg{c:N}(H:s.heap.MapOf (pi pw w) d f)(hv:f (c:Int)=none)(t:1<d)(O:A.handled=none)(h:∀h' tk,(∀b o,s.heap.get? b=some o->h'.get? b=some o)->Q .keep {s with heap:=h',toks:=tk}):d_ (aE pw w) A (Builtin.Str.tableLookup (.ref d) c) Q E s:=by rw[aT<|wpAny_attempt<|aT<|R5<|wpAny_getItem_missing_of (by simp[pi,Ax]) (by simp[yW];rw[lg t]) O H hv λh' e j=>(cp j.there λg D a M X=>aT<|R1 (b:=true) (bA g a M) (by kernel_rfl)<|aT<|oB<|bK<|h _ _ j.keeps)]
def MapOf.keeps{h h':ix}{d:aH}{f:Int->Option af}(H:h.MapOf (pi pw w) d f)(hk:∀b o,h.get? b=some o->h'.get? b=some o):h'.MapOf (pi pw w) d f:=je H λo k l m r=>u_ o k l (hk _ _ m) r
inductive uU (s:aN):aN->Prop
 |mk (h':ix) (tk:Tok) (hk:∀b o,s.heap.get? b=some o->h'.get? b=some o):uU s {s with heap:=h',toks:=tk}
def arw{B a:Type}{f:N->B->bk (ForInStep B)}{st:!N->B}{g:B->bk a}{Q:a->aN->Prop}{b:B}(j:b=st [])(hs:∀y c rest P,y++c::rest=x->uU s P->d_ M A (f c<|st y) (λr P=>r=.yield (st<|y++[c])/\uU s P) E P)(h:∀P,uU s P->d_ M A (g<|st x) Q E P):d_ M A (forIn (#[x]:Array N) b f>>=g) Q E s:=
 aT (wpAny_forIn_array' f (λrest b P=>∃y,y++rest=x/\b=st y/\uU s P) _ (λc rest b P q=>kG q λy K O e=>by
  rw[O▸(ul (hs y c rest P K e) λr d z=>(z.1▸(en (y++[c]) ((bZ ..).trans K) rfl z.2))) λJ J U=>U])
  (λb P q=>kG q λy K O e=>by rw[O,(bQ y).symm.trans K];rw[h P e]) _ _<|en [] rfl j<|.mk _ _ aV)
def arx{x:!N}(H:s.heap.MapOf (pi pw w) d f)(u:1<d)(O:A.handled=none)(L:x≠[])(hz:x.length<=1000)(B:x.all (·<128)=false)(hv:∀c∈x,f (c:Int)=none)(h:∀h' tk i,(∀b o,s.heap.get? b=some o->h'.get? b=some o)->Q (.str #[#[x]] i) {s with heap:=h',toks:=tk}):d_ (aE pw w) A (call (.builtin "str.translate") [.str #[#[x]] t,.ref d]) Q E s:=by
 rw[y8 F.slot_str_translate rfl F.entry_str_translate (ast (by kernel_rfl:Builtin.Str.strOneArg "translate" #[_,[]]=pure (.str #[#[x]] t,#[#[x]],.ref d))<|wy (λz=>kU<|(by show(x.length==0)=false;simpa using L:((#[#[x]]:aA).length==0)=false).symm.trans z)<|arw (st:=λy=>(y.reverse.map λc=>#[(List.toArray [c])],y.length,false,[],false)) ?_ ?_ ?_)<|F.args_str_translate_2 _ _]
 .rw[(by rw[Sb▸B]:(⟨⟨x⟩⟩:aA).cps.all (λx=>decide<|x<128)=false)▸rfl]
 .intro y c D P K q
  refine q.casesOn λh' tk n=>wy (λz=>kU<|(decide_eq_false (by have:eF=16777216:=rfl;rw[afQ hz (by rw[K▸?_];simp) this])).symm.trans z) ?_;rw[wy kU (wy kU<|aT<|afg (MapOf.keeps H n) (hv c<|K▸dX _ (.head _)) u O λg k a=>bK #[by simp,.mk _ _ λb o e=>a b o<|n b o e])]
 .intro P q
  refine q.casesOn λh' tk n=>wy (λz=>kU<|(decide_eq_false (by have:eF=16777216:=rfl;rw[afR hz this])).symm.trans z) ?_;have r:∀(l:!N) (m:Array N),(l.map λc=>(#[(List.toArray [c])]:aA)).foldl (λm p=>m++p.cps) m=m++#[l]:=by
   intro l;induction l with
   |nil=>intro m;simp
   |cons c l C=>intro m;simp only[bV,SX,C];apply hU;simp
  have j:(#[((x.reverse.map λc=>(#[(List.toArray [c])]:aA)).reverse).foldl (λm p=>m++p.cps) (List.toArray [])]:aA)=#[#[x]]:=by rw[<-m8,List.reverse_reverse,r];congr 1;apply hU;simp
  rw[j▸(aT<|wpAny_mkStr (bK<|bA _ rfl<|h _ _ _ n)<|L6 hz)]
end
section
variable(D t1 sz tk U J K tp p bb bo bl bs a8 db c1 o c3 da ck t4:N) (G a7:!N) (k a6 ca:Int) (st c2 ch dd:af) (pb c0:!af) (x:Wd) (Y bt b0 ds:ao)
def NL:av:=ex x aj 500 (.fn 893 #[[ah (D::G) t1],[]])<|cf [] sz tk (H 0x56bf0661501501501501c5011401201201201201201120110c50111012012012012012011201201110c5011101101100110061c10bf0fb01bf0fb060f00f00f00f010f00f01c106fb066161116c00ffff1ff11c00c000d00d00d00d010d00d011c00c00c00fb01bf01bf0fb06c0016fb066fb066fb0661666d500c0110c010c01920d1cc1fe0c1fe0c0c00c0920410b0dcc10c1fe0c1fe0c0b010b0d50d50d500b0c100b01110b0110b010b010b0c100b01110b0c40c4014c10c1c11fe0fe0b909fe09c109999999411b9061c1061166aa0aa014c10313fe0b905155) [] [] Y
def Ky(x:Wd)(sz:N):Ko:=(NL 0 0 sz 0 [] x []).resume
def ZW:∀(x:Wd) Y,Ev (NL D t1 sz tk G x Y) Y [7,1,13,0,3,2,8,11,12,19] (.pend 490 aj (.call (.builtin "str.translate") #[[.str iR<|tk+96,.ref<|sz+19],[]])<|Ky x sz) ([]++[((sz+7),qQ x.P (tk+18) (tk+21) (tk+24) t1 (tk+22) 0 (D::G)),((sz+1),rG x.P sz tk (tk+96) (b7 32<|tk+68) (.str bM<|tk+79)<|.int 1<|tk+73),((sz+13),aP 0 []),(sz,az [V x.P jK tk<|ah (D::G) t1] 1),((sz+3),az [V x.P bx (tk+2)<|.ref<|sz+2,V x.P Ey (tk+3)<|.ref<|sz+8,V x.P Ex (tk+4) .none,V x.P EA (tk+5)<|.bool true,V x.P Qa (tk+6)<|.str EC<|tk+1,V x.P Qe (tk+106)<|.ref<|sz+19] 6)]) [((sz+2),cT sz),((sz+8),cv<|sz+7),((sz+11),aP 0 []),((sz+12),aP 0 []),((sz+19),ak [#[59,.int (59)<|tk+104,.none]] 1)] [] []:=cS
def NM:av:=Ky x sz (.ok<|.ret<|.str iR U)<|cf [(sz+7,qQ x.P (tk+18) (tk+21) (tk+24) t1 (tk+22) 0 (D::G)),(sz+1,rG x.P sz tk (tk+96) (b7 32<|tk+68) (.str bM<|tk+79)<|.int 1<|tk+73),(sz+13,aP 0 []),(sz,az [V x.P jK tk<|ah (D::G) t1] 1),(sz+3,az [V x.P bx (tk+2)<|.ref<|sz+2,V x.P Ey (tk+3)<|.ref<|sz+8,V x.P Ex (tk+4) .none,V x.P EA (tk+5)<|.bool true,V x.P Qa (tk+6)<|.str EC<|tk+1,V x.P Qe (tk+106)<|.ref<|sz+19] 6)] J K (H 0xa506aa0444fd07) [] [(sz+2,cT sz),(sz+8,cv<|sz+7),(sz+11,aP 0 []),(sz+12,aP 0 [])] bt
def Kz(x:Wd)(sz:N):Ko:=(NM 0 0 sz 0 0 0 0 [] x []).resume
def ZX:∀(x:Wd) c,Ev (NM D t1 sz tk U J K G x c) c [0,1,2,3,6,5] (.pend 497 aj (.call (.ref 810) #[[.ref<|sz+2],[]])<|Kz x sz) ([((sz+7),qQ x.P (tk+18) (tk+21) (tk+24) t1 (tk+22) 0 (D::G)),((sz+1),rG x.P sz tk U (b7 32<|tk+68) (.str bM<|tk+79)<|.int 1<|tk+73),((sz+13),aP 0 [])]++[(sz,az [V x.P jK tk<|ah (D::G) t1,V x.P Ez (K+2)<|.ref<|sz+2,V x.P bU (K+3)<|.ref<|J+1] 3),((J+1),aa #[[.ref J]] 0),(J,aa #[[]] 0)]) [] [] []:=cS
def NN:av:=Kz x sz (.ok<|.ret<|ah a7 bl)<|cf [(sz+7,qQ x.P (tk+18) (tk+21) (tk+24) t1 tp p (D::G)),(sz+1,rG x.P sz tk U st (.str bM bb)<|.int k bo),(sz+13,aP a6 pb),(sz,az [V x.P jK tk<|ah (D::G) t1,V x.P Ez (K+2)<|.ref<|sz+2,V x.P bU (K+3)<|.ref<|J+1] 3),(J+1,aa #[[.ref J]] 0),(J,aa #[[]] 0)] bs a8 [4,4,1] [] [(sz+2,cT sz),(sz+8,cv<|sz+7),(sz+11,aP 0 []),(sz+12,aP 0 [])] b0
def KA(x:Wd)(sz:N):Ko:=(NN 0 0 sz 0 0 0 0 0 0 0 0 0 0 0 [] [] 0 0 .none [] x []).resume
def ZY:∀(x:Wd) f,Ev (NN D t1 sz tk U J K tp p bb bo bl bs a8 G a7 k a6 st pb x f) f [0,1,2,3,4,5] (.pend 497 aj (mQ sz)<|KA x sz) ([((sz+7),qQ x.P (tk+18) (tk+21) (tk+24) t1 tp p (D::G)),((sz+1),rG x.P sz tk U st (.str bM bb)<|.int k bo),((sz+13),aP a6 pb),(sz,ij x.P (D::G) sz (J+1) tk t1 (K+2) (K+3) a8<|ah a7 bl),((J+1),aa #[[.ref J]] 0),(J,aa #[[]] 0)]++[]) [] [] []:=cS
def ZZ:∀(x:Wd) i,Ev (KA x sz (.ok .next)<|cf [(sz+7,qQ x.P (tk+18) (tk+21) (tk+24) t1 db c1 (D::G)),(sz+1,rG x.P sz tk U c2 (.str bM da) ch),(sz+13,aP ca c0),(sz,ij x.P (D::G) sz o tk t1 (K+2) (K+3) c3 dd)] ck t4 [4] [] [] i) i [] (.res<|.ok<|.ret<|.ref o) [] [] [] []:=cS
end
def bg.keeps{x:Wd}{F:Fs}{L:ao}{m s:aN}{h':ix}{tk:N}(S:bg x F L m s)(hk:∀b o,s.heap.get? b=some o->h'.get? b=some o):bg x F L m {s with heap:=h',toks:=tk}:=#[S.base,λa o U=>hk _ _<|S.rep.fr a o U,λp I=>hk _ _<|S.rep.led p I,S.rep.nd,S.rep.dj,rfl,rfl,S.rep.rest,λK U=>(cQ U).elim,#[λK U=>(nomatch U),λK U=>(cQ U).elim,.nil,λK U=>(nomatch U)]]
def alt{s:aN}(h:s.heap.get? d=some #[.type "dict",none,.dict #[[#[59,.int 59 t,.none]]] 1,#[[]]]):s.heap.MapOf (pi pw w) d (λk=>if(59:Int)=k then some .none else none):=by
 rw[Jo _ _ _ h (by unfold Obj.ExactDict;simp) rfl ?_ λk=>?_]
 .intro e a
  have:e=#[59,.int 59 t,.none]:=by simpa using a
  subst this;rw[bA 59 (by simp[pi,Ax]) (by show 59=hashInt 59;decide+kernel)]
 .by_cases c:59=k
  .subst c;simp[findBy,pi,Ax]
  .simp[findBy,pi,Ax,c]
def Yg(g:F d #[.type "dict",none,.dict #[[#[59,.int 59 u,.none]]] 1,#[[]]])(a:1<d)(C:fJ b aj A)(S:bg x F L D s){R:aL->Fs->ao->Prop}(f:∀t,R (.ok<|.ret<|.str iR t) F []):fh (aE pw x.W) A (.call (.builtin "str.translate") ⟨[.str iR t,.ref d],[]⟩) (λr P=>∃F' L',Le F F'/\bg x F' (L'++L) D P/\R r F' L') s:=by
 rw[gL (lr (E:=λJ J=>False) (Q:=λv P=>∃t,v=.str iR t/\bg x F L D P)<|arx (alt<|S.rep.fr _ _ g) a C.2.1 (by decide+kernel) (by decide+kernel) (by decide+kernel) (λZ e=>?_) λz K i c=>bA i rfl<|S.keeps c) ?_]
 .have:=r5.mp (by decide+kernel:wc.all (λZ=>59≠(Z:Int))=true) Z e
  rw[if_neg<|by simpa using this,]
 .intro r P U
  split at U
  .rw[aJ U λt k H=>?_]
   subst k;rw[bX F [] aV H<|f t]
  .rw[U.elim]
  .rw[U.elim]
inductive QV (p:PV) (F':Fs):aL->ao->Prop
 |mk (v) (h:Rp F' p v):QV p F' (.ok (.ret v)) []
set_option tactic.hygienic true in
def aq_(M:2<=l.length)(S:l.length<=9999)(X:la (some 32) [] l (k::K))(hz:K.length<=9000):ay x aj 500 (.call (.ref 893) #[[.str #[#[l]] t1],[]]) F [] (QV<|.lst<|(jl [] [] (k::K)).map dG):=by
 cases l with
 |nil=>simp at M
 |cons p t=>
  refine fq (O:=[]) ab λn D=>ZC (ZW p t1 n D t x) ab ab λI m s bl C B=>Yg (bc<|.tail _<|.tail _<|.tail _<|.tail _<|.head _) (by rw[aiu]) C B λE=>?_;have g:Rd #[n,D,E,D+18,D+21,D+24,t1,p::t]:=#[M,by show(p::t).length<=10000;rw[aiv S]];cases X with
  |cons y o Y u R=>
   rename_i Z r s b bt;have W:FG #[n,D,E,D+18,D+21,D+24,t1,p::t] (fz F [(n+2,cT n),(n+8,cv<|n+7),(n+11,aP 0 []),(n+12,aP 0 []),(n+19,#[.type "dict",none,.dict #[[#[59,.int 59<|D+104,.none]]] 1,#[[]]])]):=#[bc<|.head _,bc<|.tail _<|.head _,bc<|.tail _<|.tail _<|.head _,bc<|by simp,ab]
   rw[⟨_,_,_,W,λJ G=>jC (ZX p t1 n D E J G t x) ab ab ((EP g (W.le an) y u o Y rfl #[#[_,0,0,true,.none,_,_,_,_,_,0]]).le ζ λ_ _ _ _ U=>U) λA bo h a q=>(q.casesOn λP a8 j z=>z.casesOn λf=>?_)⟩];have L:=(W.le an).le a;rw[#[_,_,_,L,λa6 Q=>jC (ZY p t1 n D E J G f.tp a8 f.ut f.uk P a6 Q t k f.k f.dn (kn s f.us) (b.map (b7 · f.ts)) x) ab ab ((afl g R (d:=[]) (c:=[]) (L.le an) j .nil .nil<|by simpa using hz).le ζ λ_ _ _ _ U=>U) λA bs h H q=>(q.casesOn λT bb w i ac=>#[_,_,[],ab,λa7 e=>bp (ZZ p t1 n D E G T.tp i (J+1) Q T.ut a7 e t T.dn (kn bb T.us) (.int T.k T.uk) .none (w.map (b7 · T.ts)) x) ab ab (dP (cb<|dP (cb an) a) H) #[_,ac.to an]])]]
def nE(w:!N):Prop:=w≠[]/\∀Z∈w,Lt Z
def alr{w f k pb e:!N}:∀{l},(∀c∈w,Lt c)->Lx 97 (D::l++w) f k s pb e->Lx 97 (D::l) (w++f) k s pb e:=by
 induction w with
 |nil=>intro l _ U;rwa[bQ]at U
 |cons c w C=>intro l Y U;rw[.aw (Y c<|.head _)<|C (l:=l++[c]) (λd t=>Y d<|.tail _ t)<|by simpa using U]
def MM:∀{w},w≠[]->Lx 97 w [] w none [] []
 |[],U=>absurd rfl U
 |_::_,_=>.ae
def alq(d:c=32\/c=9):∀{w},w≠[]->Lx 97 w (c::r) w (some 32) [] r
 |[],U=>absurd rfl U
 |_::_,_=>.as d
def alp:∀{w},w≠[]->Lx 97 w (59::r) w (some 32) [59] r
 |[],U=>absurd rfl U
 |_::_,_=>.ap
def Dp(u:q=39\/q=34){w f k pb e:!N}:∀{n},(∀c∈w,Lt c)->Lx 97 (n++w) f k s pb e->Lx q n (w++q::f) k s pb e:=by
 induction w with
 |nil=>intro n _ U;rw[bQ]at U;rw[.qe u U]
 |cons c w C=>intro n Y U;rw[.qw u (Y c<|.head _)<|C (λd t=>Y d<|.tail _ t)<|by rwa[bZ]]
def uS(c:N):Prop:=Lt c\/c=92\/c=39\/c=34
def ML{w f pb e:!N}(n)(Y:nE w)(h:Lx 97 w f w s pb e):∃c r,cy w n++f=c::r/\uS c/\oO c r w s pb e:=by
 rw[ct Y λB g=>fU (jT B) λc b P=>?_];subst P;have a:=λd t=>g d<|.tail _ t;have z:=h;unfold cy;split
 .rw[bX 39 ((c::b)++39::f) (by simp) (.inr<|.inr<|.inl rfl)<|.inr<|.inr<|.inr #[.inl rfl,Dp (.inl rfl) g h]]
 .rw[bX 34 ((c::b)++34::f) (by simp) (.inr<|.inr<|.inr rfl)<|.inr<|.inr<|.inr #[.inr rfl,Dp (.inr rfl) g h]]
 .rw[bX 92 (c::39::(b++39::f)) (by simp) (.inr<|.inl rfl)<|.inr<|.inl #[rfl,.xx (g c<|.head _)<|.aq<|Dp (.inl rfl) a z]]
 .rw[bX c (b++f) rfl (.inl<|g c<|.head _)<|.inl #[g c<|.head _,alr a z]]
def Gv(a:!N)(t:!(!N)):Prop:=∀w Q,w++Q=a->w.length<=1->la (some 32) w Q t
def rT(f:!N)(t:!(!N)):Prop:=∀T n,nE T->(cy T n++f).length<=9999->Gv (cy T n++f) (T::t)
def BR{r k pb e:!N}(X:oO c r k s pb e)(hz:r.length<=9999)(h:la s pb e D):Gv (c::r) (k::D):=λw Q K O=>.cons X K O hz h
def BU{w f pb e:!N}(Y:nE w)(hz:(cy w n++f).length<=9999)(h:Lx 97 w f w s pb e)(h':la s pb e D):Gv (cy w n++f) (w::D):=by rw[cp (ML n Y h) λZ r K U a=>?_];rw[K]at hz⊢;rw[BR a (ahI hz) h']
def Ze:rT [] []:=λT n Y Z=>BU Y Z (MM Y.1) .nil
def BH(d:c=32\/c=9)(h:Gv g D):rT (c::g) D:=λT n Y Z=>BU Y Z (alq d Y.1)<|h [] g rfl<|ζ
def H_(h:Gv (59::g) D):rT (59::g) D:=λT n Y Z=>BU Y Z (alp Y.1)<|h [59] g rfl<|ζ
def Iv(d:c=32\/c=9\/c=10)(hz:g.length<=9998)(h:Gv g D):Gv (59::c::g) ([59]::D):=BR (.inr<|.inr<|.inl #[rfl,.cs d]) (Ms hz)<|h [] g rfl<|ζ
def Iu(d:uS c)(hz:g.length<=9998)(h:Gv (c::g) D):Gv (59::c::g) ([59]::D):=BR (.inr<|.inr<|.inl #[rfl,.co d]) (Ms hz)<|h [c] g rfl<|d7 1
def Zf(C:∃c r,g=c::r/\uS c)(hz:g.length<=9990)(h:Gv g D):rT (gE x++g) ([59]::D):=by
 rw[nU C λc r P d=>?_];subst P;unfold gE;split
 .rw[H_<|Iu d (Mt hz) h]
 .rw[BH (.inl rfl) (Iv (.inl rfl) (by show(c::r).length<=9998;simp only[dM];rw[Mu hz]) h)]
 .rw[H_ (Iv (.inr<|.inr rfl) (by show(c::r).length<=9998;simp only[dM];rw[Mu hz]) h)]
 .rw[BH (.inr rfl)<|Iu d (Mt hz) h]
def BS(B:rT f D):∀(o q),o≠[]->(∀w∈o,nE w)->(qU (rJ o q)++f).length<=9999->Gv (qU (rJ o q)++f) (o++D)
 |[],_,U,_,_=>absurd rfl U
 |[a],q,_,Y,Z=>B a q (Y a<|.head _) Z
 |a::b::r,q,_,Y,Z=>by
  have e:qU (rJ (a::b::r) q)++f=cy a q++32::(qU (rJ (b::r)<|q+1)++f):=by show(cy a q++32::qU (rJ (b::r)<|q+1))++f=_;rw[bZ,];rfl
  rw[e]at Z⊢;rw[BH (.inl rfl) (BS B (b::r) (q+1) (dl _ _) (λw d=>Y w<|.tail _ d) ?_) a q (Y a<|.head _) Z];simp only[cJ,dM]at Z⊢;rw[ahJ Z]
def rA(am:!N):N->!(List<|List N)->!N
 |_,[]=>[]
 |j,o::rest=>gE (dz am j)++(iQ am j o++rA am (j+1) rest)
def OS(am):∀(s k jj),fW am (k+1) s jj=jj++rA am (k+1) s:=by
 intro J;induction J with
 |nil=>intro k jj;rw[(bQ _).symm]
 |cons o Q C=>intro k jj;show fW am (k+2) Q (jj++(if k+1=0 then[]else gE (dz am<|k+1))++iQ am (k+1) o)=_;rw[C<|k+1,if_neg<|ahK];simp only[bZ];rfl
def lT:!(List<|List N)->!(!N)
 |[]=>[]
 |o::rest=>[59]::(o++lT rest)
def qG(o:!(!N)):Prop:=o≠[]/\∀T∈o,nE T
def aqn(n)(Y:nE w):∃c r,cy w n=c::r/\uS c:=cp (ML n Y<|MM Y.1) λc r e U K=>j9 c r (by simpa using e) U
def apz(h:qG D)(g):∃c r,iQ am k D++g=c::r/\uS c:=by
 obtain⟨B,Y⟩:=h;rw[fU (jT B) λa l P=>?_];subst P;rw[nU (aqn (dz am k/4)<|Y a<|.head _) λc r e d=>?_];cases l with
 |nil=>rw[j9 c (r++g) (by show cy a _++g=_;rw[e,];rfl) d]
 |cons b l=>rw[j9 c _ (by show(cy a _++32::_)++g=_;rw[e,];rfl) d]
def Zg(am):∀(s k),(∀o∈s,qG o)->(rA am k s).length<=9990->rT (rA am k s) (lT s):=by
 intro J;induction J with
 |nil=>intro _ _ _;rw[Ze]
 |cons o Q C=>
  intro k U Z;have A:=U o<|.head _;have a:(gE (dz am k)++(iQ am k o++rA am (k+1) Q)).length<=9990:=Z;simp only[cJ]at a;rw[Zf (apz A _) (by rw[cJ,];rw[ahL a]) (BS (C (k+1) (λr A=>U r<|.tail _ A)<|ahM a) o _ A.1 A.2 (by rw[cJ,];rw[ahN a]))]
def aoe(am)(h:∀r∈D::rest,qG r)(hz:(fW am 0 (D::rest) []).length<=9990):la (some 32) [] (fW am 0 (D::rest) []) (D++lT rest):=by
 have e:fW am 0 (D::rest) []=iQ am 0 D++rA am 1 rest:=by show fW am 1 rest ([]++(if 0=0 then[]else gE (dz am 0))++iQ am 0 D)=_;rw[OS,if_pos rfl];rfl
 rw[e]at hz⊢;rw[cJ]at hz;have A:=h D<|.head _;rw[BS (Zg am rest 1 (λr A=>h r<|.tail _ A)<|ahO hz) D (dz am 0/4) A.1 A.2 (by rw[cJ,];rw[ahP hz]) [] _ rfl<|ζ]
def aqi(h:nE w):w≠[59]:=λe=>by
 have:=(h.2 59<|e▸.head _).pu;have u:eA #[#[[59]]] #[#[[59]]]=true:=by kernel_rfl
 rw[this]at u;rw[oG u]
def PK:∀(o d c t),(∀w∈o,nE w)->jl d c (o++t)=jl d (c++o) t:=by
 intro J;induction J with
 |nil=>intro d c t _;rw[bQ,];rfl
 |cons w o C=>intro d c t U;rw[SJ,Ep<|aqi<|U w<|.head _,C d (c++[w]) t λv X=>U v<|.tail _ X,bZ];rfl
def apB:∀(rest d c),(∀r∈rest,qG r)->jl d c (lT rest)=d++c::rest:=by
 intro J;induction J with
 |nil=>intro d c _;rw[rfl]
 |cons o rest C=>intro d c U;show jl (d++[c]) [] (o++lT rest)=_;simp only[PK o _ _ _ (U o<|.head _).2,qn,C (d++[c]) o λr A=>U r<|.tail _ A,bZ];rfl
def aof(h:∀r∈D::rest,qG r):jl [] [] (D++lT rest)=D::rest:=by rw[PK D [] [] _ (h D<|.head _).2,qn,apB rest [] D λr A=>h r<|.tail _ A];rfl
section
variable(so sd nd tp tf ne D a sz tk:N) (u:N->N) (po nf:Int) (rd:af) (es:!bv) (k:!N) (x:Wd) (Y:ao)
def Zy:Ev (ex x aj 150 (.fn 105 #[[.ref so,ah k D],[]])<|cf [(sd,jq x.P u nd rd po tp nf tf),(nd,ak es ne)] sz tk (H 0x3133541b03a90c203333) [.ref a] [(so,a9 sd)] Y) Y [0,1] (.res<|.ok<|.ret<|.ref a) [(sd,jq x.P u nd rd po tp nf tf),(nd,ak es ne)] [] [] [cR (aI "dict") es #[#[k]]<|aF a]:=by kernel_rfl
def Zz:Ev (ex x aj 150 (.fn 105 #[[.ref so,ah k D],[]])<|cf [(sd,jq x.P u nd rd po tp nf tf),(nd,ak es ne)] sz tk (H 0x3334541f0443c20d808d808d808888884c10717fe0b9031133541d03a90c203333) [] [(so,a9 sd)] Y) Y [0,1,4,6] (.res<|.ok<|.ret<|.ref<|sz+2) [(sd,jq x.P u nd rd po tp nf tf),(nd,ak (es++[V x.P #[#[k]] D<|aF<|sz+2])<|ne+1),((sz+2),c8 (sz+1) (sz+4) (0) (tk+8)<|ah k D),((sz+4),aa #[[]] 0)] [] [] [jW (aI "dict") es #[#[k]],Gl (aI "dict") es #[#[k]] nd]:=by kernel_rfl
end
structure Nd where
 a:N
 d:N
 b:N
 k:!N
 tk:N
 np:Int
 tp:N
 ss:!(!N×N)
 nb:N
abbrev ax(p:!N×N):af:=.str #[#[p.1]] p.2
abbrev Nd.ob(n:Nd):aH×Obj:=(n.a,c8 n.d n.b n.np n.tp<|.str #[#[n.k]] n.tk)
abbrev Nd.ls(n:Nd):aH×Obj:=(n.b,aa #[n.ss.map ax] n.nb)
def Gr:!Nd->ao
 |[]=>[]
 |n::l=>n.ob::n.ls::Gr l
def aG(P:eH)(ns:!Nd):!bv:=ns.map λn=>V P #[#[n.k]] n.tk<|.ref n.a
abbrev PG:=List<|List N×Int×!(!N)
def Nd.pg(n:Nd):!N×Int×!(!N):=(n.k,n.np,n.ss.map (·.1))
def bz(k:!N)(f:Int×!(!N)->Int×!(!N)):PG->PG
 |[]=>[(k,f (0,[]))]
 |x::g=>if x.1=k then(k,f x.2)::g else x::bz k f g
def ZQ:∀(l r),Gr (l++r)=Gr l++Gr r:=by
 intro J;induction J with
 |nil=>intro _;rw[rfl]
 |cons n l C=>intro r;show n.ob::n.ls::Gr (l++r)=_;rw[C r,];rfl
def xF(l n r):(Gr (l++n::r)).Perm (n.ob::n.ls::(Gr l++Gr r)):=by simp only[ZQ];rw[wH.trans<|.cons _ wH]
def oz(P ns):iT (aG P ns)=true:=by unfold iT aG;rw[Fz,];rw[r5.mpr λU U=>rfl]
def sZ:gf #[#[k]] (V P #[#[D]] t v)=decide (D=k):=by show((#[#[D]]:aA)==#[#[k]])=_;rw[p_,];simp
def Dt(P k):∀(ns),(∃l n r,ns=l++n::r/\n.k=k/\(∀m∈l,m.k≠k)/\d4 (aG P ns) #[#[k]]=some (.ref n.a))\/((∀m∈ns,m.k≠k)/\d4 (aG P ns) #[#[k]]=none):=by
 intro J;induction J with
 |nil=>rw[.inr #[λK U=>(nomatch U),rfl]]
 |cons n ns C=>
  have d:d4 (aG P (n::ns)) #[#[k]]=if n.k=k then some (.ref n.a)else d4 (aG P ns) #[#[k]]:=by
   unfold d4;show wL _ (List.find? _ (V P #[#[n.k]] n.tk (.ref n.a)::aG P ns))=_;simp only[uD,sZ];by_cases U:n.k=k
   .rw[decide_eq_true U,if_pos U];rfl
   .rw[decide_eq_false U,if_neg U]
  by_cases U:n.k=k
  .rw[.inl (B3 [] n ns rfl U (λK U=>(nomatch U))<|by rw[d,if_pos U])]
  .rw[d▸(if_neg U)▸?_]
   rcases C with⟨l,m,r,rfl,a,M,X⟩|⟨a,M⟩
   .rw[.inl<|B3 (n::l) m r rfl a (λq u=>(aY.mp u).elim (λe=>e▸U)<|M q) X]
   .rw[.inr ⟨λq u=>(aY.mp u).elim (λe=>e▸U)<|a q,M⟩]
def RK:∀{l},(∀m∈l,m.1≠k)->bz k f (l++(k,y)::g)=l++(k,f y)::g:=by
 intro J;induction J with
 |nil=>intro _;show(if k=k then _ else _)=_;rw[if_pos rfl,];rfl
 |cons x l C=>intro U;show(if x.1=k then _ else _)=_;rw[if_neg<|U x<|.head _,];rw[congrArg (x::·)<|C λm H=>U m<|.tail _ H]
def ar3:∀{l},(∀m∈l,m.1≠k)->bz k f l=l++[(k,f (0,[]))]:=by
 intro J;induction J with
 |nil=>intro _;rw[rfl]
 |cons x l C=>intro U;show(if x.1=k then _ else _)=_;rw[if_neg<|U x<|.head _,C λm H=>U m<|.tail _ H];rfl
structure At (ns:!Nd) (k:!N) (l:!Nd) (n:Nd) (r:!Nd):Prop where
 nk:n.k=k
 upd:∀f,bz k f (ns.map Nd.pg)=l.map Nd.pg++(k,f (n.np,n.ss.map (·.1)))::r.map Nd.pg
 mem:∀q∈l++n::r,q∈ns\/q.ss=[]
structure Sg where
 so:N
 sd:N
 nd:N
 u:N->N
abbrev Sg.D(S:Sg)(P:eH)(rd:af)(po:Int)(tp:N)(nf:Int)(tf:N):aH×Obj:=(S.sd,jq P S.u S.nd rd po tp nf tf)
abbrev Sg.N(S:Sg)(es:!bv)(ne:N):aH×Obj:=(S.nd,ak es ne)
inductive Gq (x:Wd) (S:Sg) (rd:af) (po nf:Int) (tp tf:N) (ns:!Nd) (k:!N) (F':Fs):aL->ao->Prop
 |mk {L':ao} (l n rr ne') (h1:At ns k l n rr) (h2:(l++n::rr).length<=ns.length+1) (h3:L'.Perm ([S.D x.P rd po tp nf tf,S.N (aG x.P (l++n::rr)) ne']++Gr (l++n::rr))):Gq x S rd po nf tp tf ns k F' (.ok (.ret (.ref n.a))) L'
def ui(W:F S.so (a9 S.sd))(w:1<S.nd)(c:es=aG x.P ns)(hz:ns.length<=10000):ay x aj 150 (.call (.ref 105) #[[.ref S.so,.str #[#[k]] t],[]]) F ([S.D x.P rd po tp nf tf,S.N es ne]++Gr ns) (Gq x S rd po nf tp tf ns k):=by
 subst c;obtain⟨d,m,j,L⟩:=S;rcases Dt x.P k ns with⟨l,n,r,rfl,b,M,X⟩|⟨b,M⟩
 .rw[lU (O:=[(_,_)]) #[W,ab] λB K=>bp (Zy d m j tp tf ne t n.a B K L po nf rd (aG x.P (l++n::r)) k x) ab #[#[dK,oz _ _,X],ab] (aV) #[l,n,r,ne,#[b,λf=>(bf▸bV▸?_),λq u=>.inl u],oU _,.refl _]]
  have e:n.pg=(k,n.np,n.ss.map (·.1)):=by rw[b▸?_];rfl
  exact e▸RK λE H=>by obtain⟨q,u,rfl⟩:=bn.mp H;rw[M q u]
 .rw[lU (O:=[(_,_)]) #[W,ab] λB K=>bp (Zz d m j tp tf ne t B K L po nf rd (aG x.P ns) k x) ab #[#[dK,oz _ _,M,?_],#[dK,oz _ _,M,w],ab] (aV) #[ns,#[B+2,B+1,B+4,k,t,0,K+8,[],0],[],ne+1,#[rfl,λf=>?_,λq u=>(ej.mp u).elim .inl λU=>.inr<|by rw[iy.mp U,]],by simp,?_]]
  .show(aG x.P ns).length<=16777216
   unfold aG;rw[aU,];rw[tT hz]
  .exact ar3 λE H=>by obtain⟨q,u,rfl⟩:=bn.mp H;rw[b q u]
  .have e:aG x.P (ns++[#[B+2,B+1,B+4,k,t,0,K+8,[],0]])=aG x.P ns++[V x.P #[#[k]] t<|.ref<|B+2]:=by unfold aG;simp only[bf];rfl
   rw[e▸(.cons _<|.cons _ ?_)];have a:=(xF ns #[B+2,B+1,B+4,k,t,0,K+8,[],0] []).symm;simp only[show Gr []=[]from rfl,bQ]at a;rw[a]
section
variable(S:Sg) (so sd nd tp tf ne D sz tk J a7 bl a d b c1 U K ch a8 bt b1 c2 ca db c0 d0 dd du da d2 dV eb t4:N) (u:N->N) (po nf bo ck d1:Int) (es bb b0 dx:!bv) (k G a6:!N) (v c3 d3:af) (bs ds:!af) (x:Wd) (Y dt ea ec:ao)
def M8:av:=ex x aj 250 (.fn 112 #[[.ref S.so,ah k D],[]])<|cf [(S.D x.P .none po tp nf tf),S.N es ne] sz tk (H 0xb70) [] [(S.so,a9 S.sd)] Y
def J_(x:Wd)(sz:N):Ko:=(M8 #[0,0,0,λn=>n] 0 0 0 0 sz 0 0 0 [] [] x []).resume
def TJ:Ev (M8 S tp tf ne D sz tk po nf es k x Y) Y [0,1,2,3] (.pend 247 aj (.call (.ref 105) #[[.ref S.so,ah k D],[]])<|J_ x sz) ([(S.D x.P .none po tp nf tf),S.N es ne]++[(sz,aD []),((sz+1),az [V x.P bx tk<|.ref S.so,V x.P bW (tk+1)<|ah k D,V x.P kO (tk+2)<|.ref sz] 3)]) [] [] []:=by kernel_rfl
def M_:av:=ex x aj 250 (.fn 112 #[[.ref S.so,ah k D,ah G J],[]])<|cf [(S.D x.P .none po tp nf tf),S.N es ne] sz tk (H 0xb70) [] [(S.so,a9 S.sd)] Y
def Ka(x:Wd)(sz:N):Ko:=(M_ #[0,0,0,λn=>n] 0 0 0 0 sz 0 0 0 0 [] [] [] x []).resume
def TM:Ev (M_ S tp tf ne D sz tk J po nf es k G x Y) Y [0,1,2,3] (.pend 247 aj (.call (.ref 105) #[[.ref S.so,ah k D],[]])<|Ka x sz) ([(S.D x.P .none po tp nf tf),S.N es ne]++[(sz,aD [ah G J]),((sz+1),az [V x.P bx tk<|.ref S.so,V x.P bW (tk+1)<|ah k D,V x.P kO (tk+2)<|.ref sz] 3)]) [] [] []:=by kernel_rfl
def Nb:av:=ex x aj 250 (.fn 112 #[[.ref S.so,ah k D,ah G J,ah a6 a7],[]])<|cf [(S.D x.P .none po tp nf tf),S.N es ne] sz tk (H 0xb70) [] [(S.so,a9 S.sd)] Y
def Kc(x:Wd)(sz:N):Ko:=(Nb #[0,0,0,λn=>n] 0 0 0 0 sz 0 0 0 0 0 [] [] [] [] x []).resume
def TQ:Ev (Nb S tp tf ne D sz tk J a7 po nf es k G a6 x Y) Y [0,1,2,3] (.pend 247 aj (.call (.ref 105) #[[.ref S.so,ah k D],[]])<|Kc x sz) ([(S.D x.P .none po tp nf tf),S.N es ne]++[(sz,aD [ah G J,ah a6 a7]),((sz+1),az [V x.P bx tk<|.ref S.so,V x.P bW (tk+1)<|ah k D,V x.P kO (tk+2)<|.ref sz] 3)]) [] [] []:=by kernel_rfl
def TK:∀(x:Wd) c,Ev (J_ x sz (.ok<|.ret<|.ref a)<|cf [(S.D x.P .none po tp nf tf),S.N bb bl,(sz,aD []),((sz+1),az [V x.P bx tk<|.ref S.so,V x.P bW (tk+1)<|ah k D,V x.P kO (tk+2)<|.ref sz] 3),(a,c8 d b bo c1 v)] U K (H 0xdeb0) [] [(S.so,a9 S.sd)] c) c [0,1,4] (.res<|.ok<|.ret .none) [(S.D x.P .none po tp nf tf),S.N bb bl,(a,c8 d b (bo+(0:Int)) (K+4)<|v)] [] [] []:=cS
def Na:av:=Ka x sz (.ok<|.ret<|.ref a)<|cf [(S.D x.P .none po tp nf tf),S.N bb bl,(sz,aD [ah G J]),((sz+1),az [V x.P bx tk<|.ref S.so,V x.P bW (tk+1)<|ah k D,V x.P kO (tk+2)<|.ref sz] 3),(a,c8 d b bo c1 v)] U K (H 0x5165ee0666eb0) [] [(S.so,a9 S.sd)] dt
def Kb(x:Wd)(sz:N)(J:N):Ko:=(Na #[0,0,0,λn=>n] 0 0 0 sz 0 0 0 0 0 0 0 J 0 0 0 0 [] [] [] .none x []).resume
def TN:∀(x:Wd) c,Ev (Na S tp tf D sz tk J bl a d b c1 U K po nf bo bb k G v x c) c [0,1,2,3,4,5] (.pend 246 aj (.call (.ref 105) #[[.ref S.so,ah G J],[]])<|Kb x sz U) ([(S.D x.P .none po tp nf tf),S.N bb bl]++[(sz,aD [ah G J]),((sz+1),az [V x.P bx tk<|.ref S.so,V x.P bW (tk+1)<|ah k D,V x.P kO (tk+2)<|.ref sz,V x.P eE K<|.ref a,V x.P uh (K+6)<|ah G J] 5),(a,c8 d b (bo+(1:Int)) (K+4)<|v),(U,fu sz 1)]) [] [] []:=cS
def Nc:av:=Kc x sz (.ok<|.ret<|.ref a)<|cf [(S.D x.P .none po tp nf tf),S.N bb bl,(sz,aD [ah G J,ah a6 a7]),((sz+1),az [V x.P bx tk<|.ref S.so,V x.P bW (tk+1)<|ah k D,V x.P kO (tk+2)<|.ref sz] 3),(a,c8 d b bo c1 v)] U K (H 0x5165ee0666eb0) [] [(S.so,a9 S.sd)] dt
def Kd(x:Wd)(sz:N)(J:N):Ko:=(Nc #[0,0,0,λn=>n] 0 0 0 sz 0 0 0 0 0 0 0 0 J 0 0 0 0 [] [] [] [] .none x []).resume
def TR:∀(x:Wd) c,Ev (Nc S tp tf D sz tk J a7 bl a d b c1 U K po nf bo bb k G a6 v x c) c [0,1,2,3,4,5] (.pend 246 aj (.call (.ref 105) #[[.ref S.so,ah G J],[]])<|Kd x sz U) ([(S.D x.P .none po tp nf tf),S.N bb bl]++[(sz,aD [ah G J,ah a6 a7]),((sz+1),az [V x.P bx tk<|.ref S.so,V x.P bW (tk+1)<|ah k D,V x.P kO (tk+2)<|.ref sz,V x.P eE K<|.ref a,V x.P uh (K+6)<|ah G J] 5),(a,c8 d b (bo+(2:Int)) (K+4)<|v),(U,fu sz 1)]) [] [] []:=cS
def TO:∀(x:Wd) f,Ev (Kb x sz U (.ok<|.ret<|.ref a8)<|cf [(S.D x.P .none po tp nf tf),S.N b0 ch,(sz,aD [ah G J]),((sz+1),az [V x.P bx tk<|.ref S.so,V x.P bW (tk+1)<|ah k D,V x.P kO (tk+2)<|.ref sz,V x.P eE K<|.ref a,V x.P uh (K+6)<|ah G J] 5),(U,fu sz 1),(a8,c8 bt b1 ck c2 c3),(b1,aa #[bs] ca)] db c0 (H 0xcdb0) [] [(S.so,a9 S.sd)] f) f [0,1,5,6] (.res<|.ok<|.ret .none) [(S.D x.P .none po tp nf tf),S.N b0 ch,(a8,c8 bt b1 (ck) c2<|c3),(b1,aa ((ar bs).push (V x.P bW (tk+1)<|ah k D).3)<|ca+1)] [] [] [cm #[bs]]:=cS
def Nf:av:=Kd x sz U (.ok<|.ret<|.ref a8)<|cf [(S.D x.P .none po tp nf tf),S.N b0 ch,(sz,aD [ah G J,ah a6 a7]),((sz+1),az [V x.P bx tk<|.ref S.so,V x.P bW (tk+1)<|ah k D,V x.P kO (tk+2)<|.ref sz,V x.P eE K<|.ref a,V x.P uh (K+6)<|ah G J] 5),(U,fu sz 1),(a8,c8 bt b1 ck c2 c3),(b1,aa #[bs] ca)] db c0 (H 0x5165ee0666db0) [] [(S.so,a9 S.sd)] ea
def Ke(x:Wd)(sz:N)(J:N):Ko:=(Nf #[0,0,0,λn=>n] 0 0 0 sz 0 0 0 0 J 0 0 0 0 0 0 0 0 0 0 0 0 [] [] [] [] .none [] x []).resume
def TS:∀(x:Wd) f,Ev (Nf S tp tf D sz tk J a7 a U K ch a8 bt b1 c2 ca db c0 po nf ck b0 k G a6 c3 bs x f) f [0,1,2,3,4,5,6] (.pend 246 aj (.call (.ref 105) #[[.ref S.so,ah a6 a7],[]])<|Ke x sz U) ([(S.D x.P .none po tp nf tf),S.N b0 ch]++[(sz,aD [ah G J,ah a6 a7]),((sz+1),az [V x.P bx tk<|.ref S.so,V x.P bW (tk+1)<|ah k D,V x.P kO (tk+2)<|.ref sz,V x.P eE K<|.ref a,V x.P uh (K+6)<|ah a6 a7,V x.P P_ c0<|.ref a8] 6),(U,fu sz 2),(a8,c8 bt b1 (ck) c2<|c3),(b1,aa ((ar bs).push (V x.P bW (tk+1)<|ah k D).3)<|ca+1)]) [] [] [cm #[bs]]:=cS
def TT:∀(x:Wd) i,Ev (Ke x sz U (.ok<|.ret<|.ref dd)<|cf [(S.D x.P .none po tp nf tf),S.N dx d0,(sz,aD [ah G J,ah a6 a7]),((sz+1),az [V x.P bx tk<|.ref S.so,V x.P bW (tk+1)<|ah k D,V x.P kO (tk+2)<|.ref sz,V x.P eE K<|.ref a,V x.P uh (K+6)<|ah a6 a7,V x.P P_ c0<|.ref a8] 6),(U,fu sz 2),(dd,c8 du da d1 d2 d3),(da,aa #[ds] dV)] eb t4 (H 0xcdb0) [] [(S.so,a9 S.sd)] i) i [0,1,5,6] (.res<|.ok<|.ret .none) [(S.D x.P .none po tp nf tf),S.N dx d0,(dd,c8 du da (d1) d2<|d3),(da,aa ((ar ds).push (V x.P bW (tk+1)<|ah k D).3)<|dV+1)] [] [] [cm #[ds]]:=cS
end
section
variable{L A D Z P Q R T I:ao}
def D5:(A++T++D).Perm ((A++D)++T):=by
 classical
 rw[wG,];intro a;simp only[kY];rw[Mr]
def uc(h:L.Perm (A++D))(C:D.Perm (P++Q)):(L++Z).Perm ((A++Z++P)++Q):=by
 classical
 rw[wG,];intro a;have b:=h.count_eq a;have M:=C.count_eq a;simp only[kY]at b M⊢;rw[akv b M]
def D6(C:D.Perm (P++Q)):(A++(T++P++I)++Q).Perm ((A++D)++(T++I)):=by
 classical
 rw[wG,];intro a;have M:=C.count_eq a;simp only[kY]at M⊢;rw[akw M]
def O9(C:D.Perm (P++Q)):((A++P)++Q).Perm (A++D):=by
 classical
 rw[wG,];intro a;have M:=C.count_eq a;simp only[kY]at M⊢;rw[akx M]
end
def jF(n:Int):Int×!(!N)->Int×!(!N):=λy=>(y.1+n,y.2)
def gP(k:!N):Int×!(!N)->Int×!(!N):=λy=>(y.1,y.2++[k])
def nW(h:(n'.a,n'.k,n'.tk)=(n.a,n.k,n.tk)):aG P (l++n'::r)=aG P (l++n::r):=by injection h with a h;injection h with M X;unfold aG;simp only[bf,bf,bV,bV,a,M,X]
def At.set{ns l r:!Nd}{k:!N}{n n':Nd}(g:At ns k l n r)(f:Int×!(!N)->Int×!(!N))(h:n'.k=n.k)(B:(n'.np,n'.ss.map (·.1))=f (n.np,n.ss.map (·.1))):(l++n'::r).map Nd.pg=bz k f (ns.map Nd.pg):=by simp only[g.upd f,<-B,bf,bV];show _++(n'.k,n'.np,n'.ss.map (·.1))::_=_;rw[h,g.nk]
def Bd(ns:!Nd)(z:N):Prop:=ns.length<=z/\∀n∈ns,n.ss.length<=z
inductive rP (x:Wd) (S:Sg) (po:Int) (tp:N) (nf:Int) (tf:N) (g:PG) (z:N) (F':Fs):aL->ao->Prop
 |mk {L':ao} (ns es ne) (h1:es=aG x.P ns) (h2:L'.Perm ([S.D x.P .none po tp nf tf,S.N es ne]++Gr ns)) (h3:ns.map Nd.pg=g) (h4:Bd ns z):rP x S po tp nf tf g z F' (.ok (.ret .none)) L'
def lK:(Gr (l++n::r)).Perm ([n.ob]++(n.ls::(Gr l++Gr r))):=xF l n r
def pQ:(Gr (l++n::r)).Perm ([n.ob,n.ls]++(Gr l++Gr r)):=xF l n r
def Pn:(ar<|ss.map ax).push (.str #[#[k]] t)=ar ((ss++[(k,t)]).map ax):=by simp only[bf];rw[hU<|by simp]
abbrev Nd.up(n:Nd)(i:Int)(t:N):Nd:={n with np:=n.np+i,tp:=t}
abbrev Nd.more(m:Nd)(k:!N)(t:N):Nd:={m with ss:=m.ss++[(k,t)],nb:=m.nb+1}
def pmP{A T:ao}{m:Nd}:(A++(T++[m.ob,(m.b,aa ((ar<|m.ss.map ax).push<|.str #[#[k]] t)<|m.nb+1)])++(Gr l++Gr r)).Perm ((A++Gr (l++m.more k t::r))++T):=by rw[Pn,];have u:=D6 (A:=A) (T:=T) (I:=[])<|pQ (n:=m.more k t) (l:=l) (r:=r);simp only[bQ,bQ]at u;rw[u]
def At.bd{ns l r:!Nd}{k:!N}{n:Nd}{z:N}(g:At ns k l n r)(a:(l++n::r).length<=ns.length+1)(hz:Bd ns z):Bd (l++n::r) (z+1):=#[b8 a<|oV hz.1,λq u=>(g.mem q u).elim (λU=>ld<|hz.2 q U) λU=>by rw[U▸dw _]]
def Bd.set{l r:!Nd}{n n':Nd}{z:N}(g:Bd (l++n::r) z)(h:n'.ss.length<=n.ss.length+1):Bd (l++n'::r) (z+1):=by
 refine g.casesOn λa M=>#[by simp only[cJ,dM]at a⊢;rw[aky a],λq u=>?_];rcases ej.mp u with u|u
 .rw[ld<|M q<|fZ _ u]
 .rcases aY.mp u with rfl|u
  .rw[b8 h<|oV<|M n<|dX _<|.head _]
  .rw[ld<|M q<|dX _<|.tail _ u]
section
variable{x:Wd} {F:Fs} {S:Sg} {po nf:Int} {tp tf ne t z:N} {ns:!Nd} {es:!bv} {k:!N}
def aqM(W:F S.so (a9 S.sd))(w:1<S.nd)(a:es=aG x.P ns)(hz:Bd ns z)(i:z<=9000):ay x aj 250 (.call (.ref 112) #[[.ref S.so,.str #[#[k]] t],[]]) F ([S.D x.P .none po tp nf tf,S.N es ne]++Gr ns) (rP x S po tp nf tf (bz k (jF 0)<|ns.map Nd.pg)<|z+2):=
 lU (O:=[(_,_)]) #[W,ab] λB K=>bP (TJ S tp tf ne t B K po nf es k x) ab ab D5 ((ui (an _ _ W) w a (by have:=hz.1;rw[Do i this])).le ζ λ_ _ _ _ U=>U) λr T h l q=>by rw[q.casesOn λu n p j o f I=>?_];rw[#[_,_,uc I lK,_,_,[(_,_)],#[l _ _<|an _ _ W,ab],λJ G=>bp (TK S tp tf t B K j n.a n.d n.b n.tp J G po nf n.np (aG x.P (u++n::p)) k (.str #[#[n.k]] n.tk) x) ab ab (bN l) #[u++n.up 0 (G+4)::p,aG x.P (u++n::p),j,(nW (n:=n) (n':=n.up 0<|G+4) rfl).symm,O9 (A:=[_,_])<|lK,o.set (jF 0) rfl rfl,(o.bd f hz).set<|oU _]]]
def GQ{R:!N}(y:At J R l m r)(C:J.map Nd.pg=g)(hz:Bd (l++m::r) z):rP x S po tp nf tf (bz R (gP k) g) (z+1) F' (.ok<|.ret .none) ([S.D x.P .none po tp nf tf,S.N (aG x.P (l++m::r)) G,m.ob,(m.b,aa ((ar<|m.ss.map ax).push<|.str #[#[k]] t)<|m.nb+1)]++(Gr l++Gr r)):=by rw[Pn,];rw[#[l++m.more k t::r,aG x.P (l++m::r),G,(nW (n:=m) (n':=m.more k t) rfl).symm,O9 (A:=[_,_])<|pQ,by simp only[y.set (n':=m.more k t) (gP k) rfl<|by simp[gP],C],hz.set<|by simp]]
def aqN(W:F S.so (a9 S.sd))(w:1<S.nd)(e:es=aG x.P ns)(hz:Bd ns z)(i:z<=9000){R:!N}:ay x aj 250 (.call (.ref 112) #[[.ref S.so,.str #[#[k]] t,.str #[#[R]] a6],[]]) F ([S.D x.P .none po tp nf tf,S.N es ne]++Gr ns) (rP x S po tp nf tf (bz R (gP k)<|bz k (jF 1)<|ns.map Nd.pg)<|z+4):=
 lU (O:=[(_,_)]) #[W,ab] λB K=>bP (TM S tp tf ne t B K a6 po nf es k R x) ab ab D5 ((ui (an _ _ W) w e (by have:=hz.1;rw[Do i this])).le ζ λ_ _ _ _ U=>U) λr s h l q=>by
  rw[q.casesOn λu n p j o f I=>?_];have d:=l _ _<|an _ _ W;have L:∀G,Bd (u++n.up 1 G::p) (z+2):=λG=>(o.bd f hz).set<|oU _;rw[⟨_,_,uc I lK,_,_,[(_,_)],⟨d,ab⟩,λJ G=>bP (TN S tp tf t B K a6 j n.a n.d n.b n.tp J G po nf n.np (aG x.P (u++n::p)) k R (.str #[#[n.k]] n.tk) x) ab ab (D6 (T:=[_,_]) (P:=[_])<|lK) ((ui (an _ _ d) w (nW (n:=n) (n':=n.up 1<|G+4) rfl).symm (by have:=(L<|G+4).1;rw[LI i this])).le ζ λ_ _ _ _ U=>U) λr M b H q=>by
    rw[q.casesOn λC E X g y Y A=>?_];have c:=y.bd Y<|L _;have a:E.ss.length<=16777216:=by have:=c.2 E<|dX _<|.head _;rw[LJ i this]
    rw[#[_,_,uc A pQ,_,_,[(_,_)],#[H _ _<|an _ _ d,ab],λD m=>bp (TO S tp tf t B K a6 n.a J G g E.a E.d E.b E.tp E.nb D m po nf E.np (aG x.P (C++E::X)) k R (.str #[#[E.k]] E.tk) (E.ss.map ax) x) ab #[by show(E.ss.map ax).length<=16777216;rw[aU,];rw[a],ab] (dP (cb<|bN l) H) <|GQ y (o.set (n':=n.up 1<|G+4) (jF 1) rfl rfl) c]]⟩]
def aqO(W:F S.so (a9 S.sd))(w:1<S.nd)(bl:es=aG x.P ns)(hz:Bd ns z)(i:z<=9000){R d:!N}:ay x aj 250 (.call (.ref 112) #[[.ref S.so,.str #[#[k]] t,.str #[#[R]] a6,.str #[#[d]] a7],[]]) F ([S.D x.P .none po tp nf tf,S.N es ne]++Gr ns) (rP x S po tp nf tf (bz d (gP k)<|bz R (gP k)<|bz k (jF 2)<|ns.map Nd.pg)<|z+6):=
 lU (O:=[(_,_)]) #[W,ab] λB K=>bP (TQ S tp tf ne t B K a6 a7 po nf es k R d x) ab ab D5 ((ui (an _ _ W) w bl (by have:=hz.1;rw[Do i this])).le ζ λ_ _ _ _ U=>U) λr c0 h l q=>by
  rw[q.casesOn λu n p j o f I=>?_];have m:=l _ _<|an _ _ W;have L:∀G,Bd (u++n.up 2 G::p) (z+2):=λG=>(o.bd f hz).set<|oU _;rw[⟨_,_,uc I lK,_,_,[(_,_)],⟨m,ab⟩,λJ G=>bP (TR S tp tf t B K a6 a7 j n.a n.d n.b n.tp J G po nf n.np (aG x.P (u++n::p)) k R d (.str #[#[n.k]] n.tk) x) ab ab (D6 (T:=[_,_]) (P:=[_])<|lK) ((ui (an _ _ m) w (nW (n:=n) (n':=n.up 2<|G+4) rfl).symm (by have:=(L<|G+4).1;rw[LI i this])).le ζ λ_ _ _ _ U=>U) λr c1 b H q=>by
    rw[q.casesOn λC E X b0 y Y A=>?_];have Q:=H _ _<|an _ _ m;have c:=y.bd Y<|L _;have Z:Bd (C++E.more k t::X) (z+4):=c.set (by simp);rw[#[_,_,uc A pQ,_,_,[(_,_)],#[Q,ab],λD a8=>bP (TS S tp tf t B K a6 a7 n.a J G b0 E.a E.d E.b E.tp E.nb D a8 po nf E.np (aG x.P (C++E::X)) k R d (.str #[#[E.k]] E.tk) (E.ss.map ax) x) ab #[by show(E.ss.map ax).length<=16777216;rw[aU,];rw[(by have:=c.2 E<|dX _<|.head _;rw[LJ i this])],ab] (pmP (T:=[_,_,_])) ((ui (an _ _ Q) w (nW (n:=E) (n':=E.more k t) rfl).symm (by have:=Z.1;rw[akz i this])).le ζ λ_ _ _ _ U=>U) λr c2 g s q=>by
      rw[q.casesOn λbt a ch ca ac bo bs=>?_];have bb:=ac.bd bo Z;have ck:a.ss.length<=16777216:=by have:=bb.2 a<|dX _<|.head _;rw[akA i this]
      rw[#[_,_,uc bs pQ,_,_,[(_,_)],#[s _ _<|an _ _ Q,ab],λM e=>bp (TT S tp tf t B K a6 a7 n.a J G E.a a8 ca a.a a.d a.b a.tp a.nb M e po nf a.np (aG x.P (bt++a::ch)) k R d (.str #[#[a.k]] a.tk) (a.ss.map ax) x) ab #[by show(a.ss.map ax).length<=16777216;rw[aU,];rw[ck],ab] (dP (cb<|dP (cb<|bN l) H) s) <|GQ ac (by rw[y.set (n':=E.more k t) (gP k) rfl<|by simp[gP],];rw[congrArg (bz R<|gP k)<|o.set (n':=n.up 2<|G+4) (jF 2) rfl rfl]) bb]]]]⟩]
end
structure Fr where
 a:N
 es:!bv
 n:N
abbrev bi(es:!bv)(n:N)(f:Array (Option af)):Obj:=#[.type "frame",none,.dict #[es] n,f]
abbrev be(u:N->Array (Option af))(f:Fr):aH×Obj:=(f.a,bi f.es f.n<|u f.a)
def iV:!aX->!Fr->Prop
 |[],[]=>True
 |e::l,f::fs=>e.scope.kind≠.module/\e.frame=some f.a/\iV l fs
 |_,_=>False
abbrev gX(cls:af)(vs:!af):Obj:=#[cls,none,.fields #[vs],#[[]]]
abbrev kR(z:N)(g:!af):Obj:=#[.type "traceback",none,.fields #[.none::.ref z::.none::.none::.none::g],#[[]]]
def BM{h b:ix}(y:∀a,b.get? a=none):∀{l d},iV l d->(∀f∈d,h.get? f.a=some (be u f).2)->h.FunFrames b l/\l.filterMap (·.frame)=d.map (·.a)
 |[],[],_,_=>#[ab,rfl]
 |e::l,f::d,⟨h1,h2,h3⟩,H=>by rw[ct (BM y h3 λz C=>H z<|.tail _ C) λP T=>#[#[h1,Jl f.a _ h2 (y _) (H f<|.head _) λJ e=>(nomatch e),P],?_]];simp only[List.filterMap_cons,h2];rw[congrArg (f.a::·) T]
def bg.move{x:Wd}{F:Fs}{L L':ao}{m s:aN}{h':ix}(S:bg x F L m s)(B:∀a o,F a o->s.heap.get? a=some o->h'.get? a=some o)(b:∀p∈L',h'.get? p.1=some p.2)(w:(L'.map (·.1)).Nodup)(t:∀p∈L',p.1∈L.map (·.1)\/s.heap.get? p.1=none):bg x F L' m {s with heap:=h'}:=by
 rw[#[S.base,λa o U=>B a o U<|S.rep.fr a o U,b,w,λp I o e=>?_,rfl,rfl,S.rep.rest,λJ U=>(cQ U).elim,#[λJ U=>(cQ U).elim,λJ U=>(cQ U).elim,.nil,λJ U=>(nomatch U)]]];rcases t p I with U|U
 .rw[aJ (bn.mp U) λq c K=>S.rep.dj q c o<|K▸e]
 .have u:=S.rep.fr _ _ e
  rw[U]at u;rw[nn u]
def Ll{z:Fr}{n v3 v4 v5:af}(C:fJ b bb A)(l:bb.fs=some (a6::a8))(hk:iV (a6::a8) (z::zs))(S:bg x F ((z::zs).map (be u)++(e,gX cls [a7,.none,n,v3,v4,v5])::X) bl s)(k:∀T g i c0,bg x F ((z::zs).map (be i)++(e,gX cls [a7,.ref T,n,v3,v4,v5])::(T,kR z.a g)::X) bl c0->Q .none c0):d_ (aE pw x.W) A (rj a6<|.ref e) Q E s:=by
 have y:∀a,{s.heap with objs:=(List.toArray [])}.get? a=none:=λa=>rfl;rw[ct (BM y hk λf B=>S.rep.led _<|fZ _<|bw B) λch H=>?_];have c:=S.rep.led _<|dX _<|.head _;have ca:=hk.2.1;rw[aT ?_];unfold xY tX;rw[ca▸(aT<|aT<|jt (x:=.none) c rfl rfl<|aT<|wpAny_frameOf_fun (C.2.2.2 _ l) ch ca λh r=>(aT<|wpAny_entryPlaceOf λg M=>(aT<|zc ?_<|M.sizeOk5 _ _ _ _ _)))];have c4:e∉(a6::a8).filterMap (·.frame):=λU=>by rw[ct (ch.mem U) λ_ R=>aJ R λY m c5=>?_];simp only[c]at m;injection m with m;subst m;rw[c5 _ rfl]
 have bs:h.get? e=some (gX cls _):=(r.2.1 e c4).trans c;generalize db:(if g.isEmpty then wI 6 i7 else g)=pl';have bt:=kW {cls:=.type "traceback",dict:=none,data:=.fields ([.none,.ref z.a,.none,im z.a,.none]++pl').toArray} bs;refine p8 bt rfl (show 1<6 by decide) ?_;have ac:=lg<|iI bs;have b0:=qf (iW (·.setIfInBounds 1 (aF h.objs.size))) bt rfl;have bo:=(oI (h.push {cls:=.type "traceback",dict:=none,data:=.fields ([.none,.ref z.a,.none,im z.a,.none]++pl').toArray}) (iW (·.setIfInBounds 1 (aF h.objs.size)))<|uK ac).trans<|rU h rfl;rw[aT<|jt (x:=.ref h.objs.size) b0 rfl rfl ?_];dsimp only[if_pos<|show(aF h.objs.size !=i7)=true from by simp];refine p8 bo rfl (by simp) ?_;have t:∀b Y,b≠e->h.get? b=some Y->(((h.push {cls:=.type "traceback",dict:=none,data:=.fields ([.none,.ref z.a,.none,im z.a,.none]++pl').toArray}).update e<|iW (·.setIfInBounds 1 (aF h.objs.size))).update h.objs.size <|iW (·.setIfInBounds 3 ((none:Option aH).elim i7 λf=>im f))).get? b=some Y:=λb Y c3 y=>by rw[oI _ _<|lg<|iI y,oI _ _<|uK c3];rw[kW _ y]
 have c2:∀f∈z::zs,h.get? f.a=some (bi f.es f.n<|((h.get? f.a).map (·.slots)).getD (List.toArray [])):=λf B=>by have j:=S.rep.led _<|fZ _<|bw B;rw[dm (r.2.2 f.a _ j) λsl c1=>c1▸?_];rfl
 have ck:∀b Y,b∉(z::zs).map (·.a)->s.heap.get? b=some Y->h.get? b=some Y:=λb Y y U=>(r.2.1 b<|H▸y).trans U;have L:∀v:N->Array (Option af),((z::zs).map<|be v).map (·.1)=(z::zs).map (·.a):=λv=>by rw[bI,];rfl
 have K:((z::zs).map (·.a)++e::X.map (·.1)).Nodup:=by
  have q:((z::zs).map (be u)++(e,gX cls [a7,.none,n,v3,v4,v5])::X).map (·.1)=(z::zs).map (·.a)++e::X.map (·.1):=by rw[bf,L];rfl
  rw[<-q];rw[S.rep.nd]
 rw[jV]at K;rw[ek K λda J D=>?_];rw[c_]at J;have w:∀a Y,s.heap.get? a=some Y->a≠h.objs.size:=λa Y U=>r.1.symm▸lZ (iI U);rw[bK<|k h.objs.size pl' (λa=>((h.get? a).map (·.slots)).getD (List.toArray [])) _<|S.move ?_ ?_ ?_ ?_]
 .intro a Y W U
  rw[t a Y (λq=>?_)<|ck a Y (λG=>?_) U]
  .subst q;rw[S.rep.dj _ (dX _<|.head _) Y W]
  .rw[aJ (bn.mp G) λf B P=>?_]
   subst P;rw[S.rep.dj _ (fZ _<|bw B) Y W]
 .intro p I
  rcases ej.mp I with I|I
  .rw[aJ (bn.mp I) λf B P=>?_]
   subst P;rw[t f.a _ (D f.a (bw B) e<|.head _)<|c2 f B]
  .rw[(aY.mp I).elim (λO=>?_) λI=>?_]
   .subst O
    rw[oI _ _ ac,];rw[b0]
   .rw[(aY.mp I).elim (λO=>?_) λI=>?_]
    .subst O
     rw[qf _ bo rfl]
    .have j:=S.rep.led p<|dX _<|.tail _ I
     rw[t p.1 _ (λq=>J.1<|q▸bw I)<|ck _ _ (λG=>D _ G p.1 (.tail _<|bw I) rfl) j]
 .rw[bf,L]
  rw[jV,];rw[⟨da,c_.mpr ⟨λU=>?_,c_.mpr #[λU=>?_,J.2]⟩,λa o Z d=>?_⟩]
  .rcases aY.mp U with U|U
   .rw[w _ _ c U]
   .rw[J.1 U]
  .rw[aJ (bn.mp U) λp I q=>w _ _ (S.rep.led p<|dX _<|.tail _ I) q]
  .rcases aY.mp d with rfl|d
   .rw[D a o _<|.head _]
   .rcases aY.mp d with rfl|d
    .rw[aJ (bn.mp o) λf B P=>?_]
     subst P;rw[w _ _<|S.rep.led _<|fZ _<|bw B]
    .rw[D a o Z<|.tail _ d]
 .intro p I
  rcases ej.mp I with I|I
  .rw[aJ (bn.mp I) λf B P=>?_]
   subst P;rw[.inl<|bn.mpr #[be u f,fZ _<|bw B,rfl]]
  .rcases aY.mp I with rfl|I
   .rw[.inl<|bn.mpr #[_,dX _<|.head _,rfl]]
   .rcases aY.mp I with rfl|I
    .rw[.inr ?_]
     cases q:s.heap.get? h.objs.size with
     |none=>rfl
     |some Y=>rw[absurd rfl<|w _ _ q]
    .rw[.inl<|bn.mpr #[p,dX _<|.tail _ I,rfl]]
abbrev fG(b:Array (Int×af))(c:N)(st:j4):Obj:=#[.type "set",none,.set b c st,#[[]]]
structure iY (w:eI) (sv:Array (Int×af)) (st:j4) (S:aA->Bool) (n:N):Prop where
 el:ElemsOf (rN pw w) sv.toList
 mem:∀k,S k=true↔∃e∈sv.toList,(rN pw w).is k e.2=true
 sz:sv.size<scanBound
 ft:st.fits sv.size=true
 n:sv.size=n
section
variable{x:Wd} {w:eI} {F:Fs} {L X:ao} {A:dW} {G s:aN} {h:ix} {a b n:N} {J:Mk} {S:aA->Bool} {k:aA} {t H:N} {D:Array (Int×af)} {st:j4}
def iY.of(g:iY w D st S n)(C:h.get? a=some (fG D H st)):h.SetOf (rN pw w) a S n:=aa3 _ D H st C #[rfl,rfl,rfl] rfl g.el g.mem g.sz g.ft g.n
def iY.back(g:h.SetOf (rN pw w) a S n):∃b c st,h.get? a=some (fG b c st)/\iY w b st S n:=by rw[XV g λk b c st C e I P T f y l=>?_];obtain⟨Z,d,i,sl⟩:=k;obtain⟨j,M,X⟩:=e;dsimp only at j M X I;subst j M X I;rw[u_ b c st C #[P,T,f,y,l]]
def bg.tok{tk:N}(T:bg x F L G s):bg x F L G {s with toks:=tk}:=#[T.base,T.rep.fr,T.rep.led,T.rep.nd,T.rep.dj,rfl,rfl,T.rep.rest,λK U=>(cQ U).elim,#[λK U=>(nomatch U),λK U=>(cQ U).elim,.nil,λK U=>(nomatch U)]]
def vd:(rN pw w).is k (.str k t)=true:=by show TH k (.str k t)=true;simp[TH]
def HU(T:bg x F ((a,fG D H st)::X) G s)(g:iY x.W D st S n){R:aL->Fs->ao->Prop}(f:R (.ok<|.ret<|.bool<|S k) F [(a,fG D H st)]):fh (aE pw x.W) A (.call (.builtin "set.__contains__") ⟨[.ref a,.str k t],[]⟩) (λr P=>∃F' L',Le F F'/\bg x F' (L'++X) G P/\R r F' L') s:=by
 have b:=g.of<|T.rep.led _<|.head _;rw[gL (lr (E:=λK K=>False) (Q:=λv P=>v=.bool (S k)/\P={s with toks:=s.toks+1}) ?_) ?_]
 .rw[y8 PySem.F.slot_set_contains b.typeIs entry_set_contains ?_<|PySem.F.args_set_contains_2 _ _]
  unfold Builtin.«frozenset.__contains__» asw;simp only[List.isEmpty_nil,bind_assoc];rw[aT<|bK ?_];try dsimp only
  rw[aT<|bK ?_];try dsimp only
  rw[aT<|wpAny_tryCatch<|iw<|aT<|(rN pw x.W).pyHash (vd)<|aT<|wpAny_setFind_of (vd) rfl b λr c=>(bK ?_)];rw[c,];rw[bK<|en _ rfl rfl rfl]
 .intro r P U
  split at U
  .obtain⟨rfl,rfl⟩:=U
   rw[bX F _ aV T.tok f]
  .rw[U.elim]
  .rw[U.elim]
def Yd(T:bg x F ((a,fG D H st)::X) G s)(g:iY x.W D st S n)(w:n+1<scanBound){R:aL->Fs->ao->Prop} (f:∀c e J,iY x.W c J (λu=>S u||decide (u=k)) (if S k then n else n+1)->R (.ok<|.ret .none) F [(a,fG c e J)]):fh (aE pw x.W) A (.call (.builtin "set.add") ⟨[.ref a,.str k t],[]⟩) (λr P=>∃F' L',Le F F'/\bg x F' (L'++X) G P/\R r F' L') s:=by
 rw[gL (lr (E:=λ_ _=>False) (Q:=λv P=>v=.none/\∃F' L',Le F F'/\bg x F' (L'++X) G P/\R (.ok<|.ret .none) F' L')<|call_set_add (vd) rfl (g.of<|T.rep.led _<|.head _) w λz y i=>#[rfl,?_]) ?_]
 .rw[je (iY.back i) λc e J C d=>?_]
  have j:=T.rep.nd;have K:(a::X.map (·.1)).Nodup:=j;rw[c_]at K;rw[bX F _ aV ((bg.move (L':=(a,fG c e J)::X) T (λb Y W h=>?_) (λp I=>?_) j λp I=>.inl ?_).tok)<|f c e J d]
  .rw[(y.2 b λq=>by subst q;rw[T.rep.dj _ (.head _) Y W]).trans h]
  .rcases aY.mp I with rfl|I
   .rw[C]
   .rw[(y.2 _ λq=>K.1<|q▸bw I).trans<|T.rep.led p<|.tail _ I]
  .rcases aY.mp I with rfl|I
   .rw[.head _]
   .rw[.tail _<|bw I]
 .intro r P U
  split at U
  .obtain⟨rfl,U⟩:=U
   rw[U]
  .rw[U.elim]
  .rw[U.elim]
end
section
structure Fa where
 z:N
 a0:N
 a1:N
 a2:N
 a3:N
 a4:N
 a5:N
abbrev Ic(P:eH)(S:Sg)(a:Fa):!bv:=[V P bx a.a0<|.ref S.so,V P cu a.a1<|.ref S.nd,V P lQ a.a2<|.ref<|a.z+1,V P lM a.a3<|.ref<|a.z+2,V P lP a.a4<|.ref<|a.z+3,V P lN a.a5<|.ref<|a.z+4]
abbrev e_(P:eH)(S:Sg)(a:Fa)(t:N)(v:af):!bv:=[V P bx a.a0<|.ref S.so,V P cu a.a1<|.ref S.nd,V P lQ a.a2<|.ref<|a.z+1,V P lM a.a3<|.ref<|a.z+2,V P lP a.a4<|.ref<|a.z+3,V P lN a.a5<|.ref<|a.z+4,V P bW t v]
variable(S:Sg) (D:Fa) (ol:!aX) (so sd nd tp tf ne sz tk z d2 d3 ea eb ec ed a8 nx a7 bo a6 G bl b0 dd p d b dt nb ch c1 q r da dx t4 du:N) (u:N->N) (po nf bt db c0:Int) (rd v0 v ck c3:af) (es K:!bv) (us d0:N->Array (Option af)) (xs U vs dV:!af) (bs ds:Array (Int×af)) (J c2:j4) (k:!N) (x:Wd) (Y bb ca d1:ao)
def Nh:av:=ex x #[none,some ol,false] 400 (.fn 152 #[[.ref S.so],[]])<|cf [(S.D x.P rd po tp nf tf),S.N es ne] sz tk (H 0x5d54220443333388a60111333333c2033) [] [(S.so,a9 S.sd)] Y
def Cv(x:Wd)(ol:!aX)(sz:N):Ko:=(Nh #[0,0,0,λn=>n] ol 0 0 0 sz 0 0 0 .none [] x []).resume
def Uy:∀(x:Wd) Y,Ev (Nh S ol tp tf ne sz tk po nf rd es x Y) Y [0,1,2,3,4,5,6,7] (.pend 397 #[none,some (cF sz::ol),false] (bL eZ 5 (.ref<|sz+5)<|cF sz)<|Cv x ol sz) [(S.D x.P rd po tp nf tf),S.N es ne,(sz,az [V x.P bx tk<|.ref S.so,V x.P cu (tk+2)<|.ref S.nd,V x.P lQ (tk+3)<|.ref<|sz+1,V x.P lM (tk+4)<|.ref<|sz+2,V x.P lP (tk+5)<|.ref<|sz+3,V x.P lN (tk+6)<|.ref<|sz+4] 6),((sz+1),aa #[[]] 0),((sz+2),aa #[[]] 0),((sz+3),#[.type "set",none,mX (ar []) 0<|TD 0 0 (not ((x.W.params).6 "set-order")),#[[]]]),((sz+4),ak [] 0),((sz+5),#[.type "dict_keyiterator",none,.fields #[[.ref S.nd,.int (0) 0,.int ((es.length:Int)) 0,iN ne 0]],#[[]]])] [] [] [qB (aI "dict") S.nd]:=cS
def No:av:=ex x #[none,some (cF D.z::ol),false] 300 (.code<|bL eZ 5 (.ref<|D.z+5)<|cF D.z)<|cf [(S.D x.P rd po tp nf tf),S.N es ne,(D.z,bi (Ic x.P S D) 6<|us D.z),((D.z+1),aa #[xs] nx),((D.z+2),aa #[U] a7),((D.z+3),#[.type "set",none,.set bs bo J,#[[]]]),((D.z+4),ak K a6),((D.z+5),#[.type "dict_keyiterator",none,.fields #[[.ref S.nd,.int bt 0,.int (es.length:Int) 0,iN ne 0]],#[[]]])] sz tk (H 0x5883333d59d230d) [ah k G] [(S.so,a9 S.sd)] Y
def Cz(x:Wd)(ol:!aX)(z:N)(a:j4)(k:!N)(f:N):Ko:=(No #[0,0,0,λn=>n] #[z,0,0,0,0,0,0] ol 0 0 0 0 0 0 0 0 0 f 0 0 0 .none [] [] (λ_=>#[[]]) [] [] #[[]] a k x []).resume
def co:Ev (No S D ol tp tf ne sz tk nx a7 bo a6 G po nf bt rd es K us xs U bs J k x Y) Y [0,1,2,3,4,5,6,7] (.pend 299 #[none,some (cF D.z::ol),false] (.call (.builtin "set.__contains__") #[[.ref<|D.z+3,ah k G],[]])<|Cz x ol D.z J k G) [(S.D x.P rd po tp nf tf),S.N es ne,(D.z,#[.type "frame",none,.dict #[(e_ x.P S D tk<|ah k G)] 7,us D.z]),((D.z+1),aa #[xs] nx),((D.z+2),aa #[U] a7),((D.z+3),#[.type "set",none,mX bs bo J,#[[]]]),((D.z+4),ak K a6),((D.z+5),#[.type "dict_keyiterator",none,.fields #[[.ref S.nd,.int (bt+1) 0,.int ((es.length:Int)) 0,iN ne 0]],#[[]]])] [] [] [gS true (aI "dict_keyiterator") (aI "dict") es ne bt ((es.length:Int)) (ad ne)<|ah k G]:=by kernel_rfl
def Nr:av:=ex x #[none,some (cF D.z::ol),false] 300 (.code<|bL eZ 5 (.ref<|D.z+5)<|cF D.z)<|cf [(S.D x.P rd po tp nf tf),S.N es ne,(D.z,bi (e_ x.P S D a8<|v0) 7<|us D.z),((D.z+1),aa #[xs] nx),((D.z+2),aa #[U] a7),((D.z+3),#[.type "set",none,.set bs bo J,#[[]]]),((D.z+4),ak K a6),((D.z+5),#[.type "dict_keyiterator",none,.fields #[[.ref S.nd,.int bt 0,.int (es.length:Int) 0,iN ne 0]],#[[]]])] sz tk (H 0x5883333d59d230d) [ah k G] [(S.so,a9 S.sd)] Y
def CB(x:Wd)(ol:!aX)(z:N)(a:j4)(k:!N)(f:N):Ko:=(Nr #[0,0,0,λn=>n] #[z,0,0,0,0,0,0] ol 0 0 0 0 0 0 0 0 0 0 f 0 0 0 .none .none [] [] (λ_=>#[[]]) [] [] #[[]] a k x []).resume
def cx:Ev (Nr S D ol tp tf ne sz tk a8 nx a7 bo a6 G po nf bt rd v0 es K us xs U bs J k x Y) Y [0,1,2,3,4,5,6,7] (.pend 299 #[none,some (cF D.z::ol),false] (.call (.builtin "set.__contains__") #[[.ref<|D.z+3,ah k G],[]])<|CB x ol D.z J k G) [(S.D x.P rd po tp nf tf),S.N es ne,(D.z,#[.type "frame",none,.dict #[(e_ x.P S D a8<|ah k G)] 7,us D.z]),((D.z+1),aa #[xs] nx),((D.z+2),aa #[U] a7),((D.z+3),#[.type "set",none,mX bs bo J,#[[]]]),((D.z+4),ak K a6),((D.z+5),#[.type "dict_keyiterator",none,.fields #[[.ref S.nd,.int (bt+1) 0,.int ((es.length:Int)) 0,iN ne 0]],#[[]]])] [] [] [gS true (aI "dict_keyiterator") (aI "dict") es ne bt ((es.length:Int)) (ad ne)<|ah k G]:=by kernel_rfl
def Nk:av:=ex x #[none,some (cF D.z::ol),false] 290 (.code<|cM eZ 8<|cF D.z)<|cf [(S.D x.P rd po tp nf tf),S.N es ne,(D.z,bi (e_ x.P S D a8<|ah k G) 7<|us D.z),((D.z+1),aa #[xs] nx),((D.z+2),aa #[U] a7),((D.z+3),#[.type "set",none,.set bs bo J,#[[]]]),((D.z+4),ak K a6)] sz tk (H 0x588331) [] [(S.so,a9 S.sd)] Y
def xS(x:Wd)(ol:!aX)(z:N)(a:j4)(k:!N)(f:N):Ko:=(Nk #[0,0,0,λn=>n] #[z,0,0,0,0,0,0] ol 0 0 0 0 0 0 0 0 0 0 f 0 0 .none [] [] (λ_=>#[[]]) [] [] #[[]] a k x []).resume
def ci:Ev (Nk S D ol tp tf ne sz tk a8 nx a7 bo a6 G po nf rd es K us xs U bs J k x Y) Y [0,1,2,3,4,5,6] (.pend 289 #[none,some (cF D.z::ol),false] (.call (.builtin "set.__contains__") #[[.ref<|D.z+3,ah k G],[]])<|xS x ol D.z J k G) [(S.D x.P rd po tp nf tf),S.N es ne,(D.z,#[.type "frame",none,.dict #[(e_ x.P S D a8<|ah k G)] 7,us D.z]),((D.z+1),aa #[xs] nx),((D.z+2),aa #[U] a7),((D.z+3),#[.type "set",none,mX bs bo J,#[[]]]),((D.z+4),ak K a6)] [] [] []:=by kernel_rfl
def Nn:av:=xS x ol D.z J k G (.ok<|.ret<|.bool true)<|cf [(S.D x.P rd po tp nf tf),S.N es ne,(D.z,#[.type "frame",none,.dict #[(e_ x.P S D a8<|ah k G)] 7,us D.z]),((D.z+1),aa #[xs] nx),((D.z+2),aa #[U] a7),((D.z+3),#[.type "set",none,mX bs bo J,#[[]]]),((D.z+4),ak K a6)] bl b0 (H 0x51891e099331) [.bool false] [(S.so,a9 S.sd)] bb
def Cy(x:Wd)(ol:!aX)(z:N)(a:j4):Ko:=(Nn #[0,0,0,λn=>n] #[z,0,0,0,0,0,0] ol 0 0 0 0 0 0 0 0 0 0 0 0 0 .none [] [] (λ_=>#[[]]) [] [] #[[]] a [] x []).resume
def UW:Ev (Nn S D ol tp tf ne a8 nx a7 bo a6 G bl b0 po nf rd es K us xs U bs J k x bb) bb [0,1,2,3,4,5,6] (.pend 289 #[none,some (cF D.z::ol),false] (cM eZ 16<|cF D.z)<|Cy x ol D.z J) [(S.D x.P rd po tp nf tf),S.N es ne,(D.z,#[.type "frame",none,.dict #[(e_ x.P S D a8<|ah k G)] 7,us D.z]),((D.z+1),aa #[xs] nx),((D.z+2),aa #[U] a7),((D.z+3),#[.type "set",none,mX bs bo J,#[[]]]),((D.z+4),ak K a6)] [] [] [nv (aI "dict") K #[#[k]] false<|D.z+4]:=by kernel_rfl
def Nl:av:=xS x ol D.z J k G (.ok<|.ret<|.bool false)<|cf [(S.D x.P rd po tp nf tf),S.N es ne,(D.z,#[.type "frame",none,.dict #[(e_ x.P S D a8<|ah k G)] 7,us D.z]),((D.z+1),aa #[xs] nx),((D.z+2),aa #[U] a7),((D.z+3),#[.type "set",none,mX bs bo J,#[[]]]),((D.z+4),ak K a6)] bl b0 (H 0x53888831) [] [(S.so,a9 S.sd)] bb
def Kg(x:Wd)(ol:!aX)(z:N)(a:j4):Ko:=(Nl #[0,0,0,λn=>n] #[z,0,0,0,0,0,0] ol 0 0 0 0 0 0 0 0 0 0 0 0 0 .none [] [] (λ_=>#[[]]) [] [] #[[]] a [] x []).resume
def UQ:Ev (Nl S D ol tp tf ne a8 nx a7 bo a6 G bl b0 po nf rd es K us xs U bs J k x bb) bb [0,1,2,3,4,5,6] (.pend 289 #[none,some (cF D.z::ol),false] (.call (.builtin "set.add") #[[.ref<|D.z+3,ah k G],[]])<|Kg x ol D.z J) [(S.D x.P rd po tp nf tf),S.N es ne,(D.z,#[.type "frame",none,.dict #[(e_ x.P S D a8<|ah k G)] 7,us D.z]),((D.z+1),aa #[xs] nx),((D.z+2),aa #[U] a7),((D.z+3),#[.type "set",none,mX bs bo J,#[[]]]),((D.z+4),ak K a6)] [] [] []:=by kernel_rfl
def Nm:av:=Kg x ol D.z J (.ok<|.ret .none)<|cf [(S.D x.P rd po tp nf tf),S.N es ne,(D.z,#[.type "frame",none,.dict #[(e_ x.P S D a8<|ah k G)] 7,us D.z]),((D.z+1),aa #[xs] nx),((D.z+2),aa #[U] a7),((D.z+3),#[.type "set",none,.set ds dd c2,#[[]]]),((D.z+4),ak K a6),(p,c8 d b db dt v),(b,aa #[vs] nb)] ch c1 (H 0x53683aa039891f0993330f03116780b010b0c4010b00b0c1cc1d1d1c10dfe0fe0d111d9b0331177773) [.ref p] [(S.so,a9 S.sd)] ca
def Cx(x:Wd)(ol:!aX)(z:N)(a:j4)(b:j4):Ko:=(Nm #[0,0,0,λn=>n] #[z,0,0,0,0,0,0] ol 0 0 0 0 0 0 0 0 0 0 0 0 0 0 0 0 0 0 0 .none .none [] [] (λ_=>#[[]]) [] [] [] #[[]] a b [] x []).resume
def UR:∀(x:Wd) f,Ev (Nm S D ol tp tf ne a8 nx a7 a6 G dd p d b dt nb ch c1 po nf db rd v es K us xs U vs ds J c2 k x f) f [0,1,2,3,4,5,6,7,8,9,10] (.pend 289 #[none,some (cF D.z::ol),false] (cM eZ 16<|cF D.z)<|Cx x ol D.z J c2) [(S.D x.P rd po tp nf tf),S.N es ne,(D.z,#[.type "frame",none,.dict #[(e_ x.P S D a8<|ah k G)] 7,us D.z]),((D.z+1),aa ((ar xs).push (V x.P bW a8<|ah k G).3)<|nx+1),((D.z+2),aa ((ar U).push<|aF<|ch+1)<|a7+1),((D.z+3),#[.type "set",none,mX ds dd c2,#[[]]]),((D.z+4),ak (K++[V x.P #[#[k]] G<|.int (xs.length:Int)<|c1+4])<|a6+1),(p,#[.ref 65,some d,.plain,#[[some<|v,some<|.int (db) dt,some<|.ref b]]]),(b,aa #[vs] nb),(ch,c7 b 0),((ch+1),#[.type "method-wrapper",none,.fields #[[.builtin "list_iterator.__next__",.ref ch]],#[[]]])] [] [] [cm #[xs],jW (aI "dict") K #[#[k]],f_ (aI "list")<|ar xs,cm #[U],cR (aI "dict") es #[#[k]]<|aF p]:=cS
def V0:Ev (ex x #[none,some (cF D.z::ol),false] 280 (.code<|cM eZ 16<|cF D.z)<|cf [(D.z,bi [V x.P bx D.a0<|.ref so,V x.P cu D.a1<|.ref nd,V x.P lQ D.a2<|.ref<|D.z+1,V x.P lM D.a3<|.ref<|D.z+2,V x.P lP D.a4<|.ref<|D.z+3,V x.P lN D.a5<|.ref<|D.z+4,V x.P bW a8<|v0] 7<|us D.z),((D.z+1),aa #[[]] nx),((D.z+2),aa #[U] a7),((D.z+4),ak K a6)] sz tk (H 0x150f0445) [] [] Y) Y [0,1,2,3] (.res<|.ok .brk) [(D.z,#[.type "frame",none,.dict #[[V x.P bx D.a0<|.ref so,V x.P cu D.a1<|.ref nd,V x.P lQ D.a2<|.ref<|D.z+1,V x.P lM D.a3<|.ref<|D.z+2,V x.P lP D.a4<|.ref<|D.z+3,V x.P lN D.a5<|.ref<|D.z+4,V x.P bW a8<|v0]] 7,us D.z]),((D.z+1),aa #[[]] nx),((D.z+2),aa #[U] a7),((D.z+4),ak K a6)] [] [] [f_ (aI "list")<|ar []]:=by kernel_rfl
def V1:Ev (ex x #[none,some (cF D.z::ol),false] 280 (.code<|cM eZ 16<|cF D.z)<|cf [(D.z,bi [V x.P bx D.a0<|.ref so,V x.P cu D.a1<|.ref nd,V x.P lQ D.a2<|.ref<|D.z+1,V x.P lM D.a3<|.ref<|D.z+2,V x.P lP D.a4<|.ref<|D.z+3,V x.P lN D.a5<|.ref<|D.z+4,V x.P bW a8<|v0] 7<|us D.z),((D.z+1),aa #[ck::xs] nx),((D.z+2),aa #[U] a7),((D.z+4),ak K a6),(q,#[.type "method-wrapper",none,.fields #[[.builtin "list_iterator.__next__",.ref r]],#[[]]]),(r,c7 b c0),(b,aa #[vs] nb)] sz tk (H 0x5587471743d33315150f0445) [.ref q,ah k G] [] Y) Y [0,1,2,3,4,5,6] (.res<|.ok .next) [(D.z,#[.type "frame",none,.dict #[[V x.P bx D.a0<|.ref so,V x.P cu D.a1<|.ref nd,V x.P lQ D.a2<|.ref<|D.z+1,V x.P lM D.a3<|.ref<|D.z+2,V x.P lP D.a4<|.ref<|D.z+3,V x.P lN D.a5<|.ref<|D.z+4,V x.P bW a8<|ah k G]] 7,us D.z]),((D.z+1),aa #[(ck::xs)] nx),((D.z+2),aa #[U] a7),((D.z+4),ak K a6),(q,#[.type "method-wrapper",none,.fields #[[.builtin "list_iterator.__next__",.ref r]],#[[]]]),(r,c7 b<|c0+1),(b,aa #[vs] nb)] [] [] [df #[vs] c0<|ah k G,iK (ar U) (-1)<|aF q,f_ (aI "list")<|ar (ck::xs)]:=by kernel_rfl
def Nq:av:=ex x #[none,some (cF D.z::ol),false] 280 (.code<|cM eZ 16<|cF D.z)<|cf [(D.z,bi [V x.P bx D.a0<|.ref so,V x.P cu D.a1<|.ref nd,V x.P lQ D.a2<|.ref<|D.z+1,V x.P lM D.a3<|.ref<|D.z+2,V x.P lP D.a4<|.ref<|D.z+3,V x.P lN D.a5<|.ref<|D.z+4,V x.P bW a8<|v0] 7<|us D.z),((D.z+1),aa #[ck::xs] nx),((D.z+2),aa #[U] a7),((D.z+4),ak K a6),(q,#[.type "method-wrapper",none,.fields #[[.builtin "list_iterator.__next__",.ref r]],#[[]]]),(r,c7 b c0),(b,aa #[vs] nb)] sz tk (H 0x87371743d33315150f0445) [.ref q,ah k G,.ref q] [] Y
def Kh(x:Wd)(ol:!aX)(z:N)(sz:N):Ko:=(Nq #[z,0,0,0,0,0,0] ol 0 0 sz 0 0 0 0 0 0 0 0 0 0 0 .none .none [] (λ_=>#[[]]) [] [] [] [] x []).resume
def V2:Ev (Nq D ol so nd sz tk a8 nx a7 a6 G b nb q r c0 v0 ck K us xs U vs k x Y) Y [0,1,2,3,4,5,6,8] (.gx 279 #[none,some (cF D.z::ol),false] (rj (cF D.z)<|.ref<|sz+1)<|Kh x ol D.z sz) ([]++[(D.z,#[.type "frame",none,.dict #[[V x.P bx D.a0<|.ref so,V x.P cu D.a1<|.ref nd,V x.P lQ D.a2<|.ref<|D.z+1,V x.P lM D.a3<|.ref<|D.z+2,V x.P lP D.a4<|.ref<|D.z+3,V x.P lN D.a5<|.ref<|D.z+4,V x.P bW a8<|v0]] 7,us D.z]),((D.z+1),aa #[(ck::xs)] nx),((D.z+2),aa #[U] a7),((D.z+4),ak K a6),(q,#[.type "method-wrapper",none,.fields #[[.builtin "list_iterator.__next__",.ref r]],#[[]]]),(r,#[.type "list_iterator",none,.fields #[[.none,.int (c0) 0]],#[[]]]),(b,aa #[vs] nb),((sz+1),#[.type "StopIteration",none,.fields #[[.ref sz,.none,.none,.none,.bool false,.none]],#[[]]])]) [] [] [h_ #[vs] c0,iK (ar U) (-1)<|aF q,f_ (aI "list")<|ar (ck::xs)]:=by kernel_rfl
def V3:Ev (Kh x ol D.z sz (.ok<|.ret .none)<|cf [(D.z,bi [V x.P bx D.a0<|.ref so,V x.P cu D.a1<|.ref nd,V x.P lQ D.a2<|.ref<|D.z+1,V x.P lM D.a3<|.ref<|D.z+2,V x.P lP D.a4<|.ref<|D.z+3,V x.P lN D.a5<|.ref<|D.z+4,V x.P bW a8<|v0] 7<|d0 D.z),((D.z+1),aa #[(ck::xs)] nx),((D.z+2),aa #[U] a7),((D.z+4),ak K a6),(q,#[.type "method-wrapper",none,.fields #[[.builtin "list_iterator.__next__",.ref r]],#[[]]]),(r,#[.type "list_iterator",none,.fields #[[.none,.int (c0) 0]],#[[]]]),(b,aa #[vs] nb),((sz+1),#[.type "StopIteration",none,.fields #[[.ref sz,.ref da,.none,.none,.bool false,.none]],#[[]]]),(da,#[.type "traceback",none,.fields #[.none::.ref D.z::.none::.none::.none::dV],#[[]]])] bl b0 (H 0x43c333356362106654ca9055ccd1d111) [ah k G,.ref q] [] bb) bb [0,1,2,3,6,4,5,7,8] (.next<|cM eZ 16<|cF D.z) [(D.z,#[.type "frame",none,.dict #[[V x.P bx D.a0<|.ref so,V x.P cu D.a1<|.ref nd,V x.P lQ D.a2<|.ref<|D.z+1,V x.P lM D.a3<|.ref<|D.z+2,V x.P lP D.a4<|.ref<|D.z+3,V x.P lN D.a5<|.ref<|D.z+4,V x.P bW a8<|v0]] 7,d0 D.z]),((D.z+1),aa ((ar (ck::xs)).pop)<|nx+1),((D.z+2),aa ((ar U).pop)<|a7+1),((D.z+4),ak (ml #[#[k]] K)<|a6+1),(b,aa #[vs] nb)] [(q,#[.type "method-wrapper",none,.fields #[[.builtin "list_iterator.__next__",.ref r]],#[[]]]),(r,#[.type "list_iterator",none,.fields #[[.none,.int (c0) 0]],#[[]]]),((sz+1),#[.type "StopIteration",none,.fields #[[.ref sz,.ref da,.none,.none,.bool false,.none]],#[[]]]),(da,#[.type "traceback",none,.fields<|(ar (i7::aF D.z::i7::i7::i7::dV)).setIfInBounds 3<|none.elim i7 λf=>im ((f:Int):Int),#[[]]])] [] [oY (ar U)<|aF q,zX (aI "dict") K #[#[k]]/\K.length<=16777216,oY (ar (ck::xs))<|ah k G]:=by kernel_rfl
def VZ:Ev (Cz x ol z J k G (.ok<|.ret<|.bool true)<|cf [] bl b0 [0] [] [] bb) bb [] (.next<|bL eZ 5 (.ref<|z+5)<|cF z) [] [] [] []:=by kernel_rfl
def Np:av:=Cz x ol z J k G (.ok<|.ret<|.bool false)<|cf [] bl b0 [0,1] [] [] bb
def CA(x:Wd)(ol:!aX)(z:N)(a:j4):Ko:=(Np ol z 0 0 0 a [] x []).resume
def VI:Ev (Np ol z G bl b0 J k x bb) bb [] (.pend 299 #[none,some (cF z::ol),false] (cM eZ 8<|cF z)<|CA x ol z J) [] [] [] []:=by kernel_rfl
def VJ:Ev (CA x ol z J (.ok .next)<|cf [] ch c1 [] [] [] ca) ca [] (.next<|bL eZ 5 (.ref<|z+5)<|cF z) [] [] [] []:=by kernel_rfl
def VY:Ev (CA x ol z J (.ok<|.ret c3)<|cf [] ch c1 [] [] [] ca) ca [] (.res<|.ok<|.ret<|c3) [] [] [] []:=by kernel_rfl
def V8:Ev (CB x ol z J k G (.ok<|.ret<|.bool true)<|cf [] bl b0 [0] [] [] bb) bb [] (.next<|bL eZ 5 (.ref<|z+5)<|cF z) [] [] [] []:=by kernel_rfl
def Nt:av:=CB x ol z J k G (.ok<|.ret<|.bool false)<|cf [] bl b0 [0,1] [] [] bb
def CC(x:Wd)(ol:!aX)(z:N)(a:j4):Ko:=(Nt ol z 0 0 0 a [] x []).resume
def V5:Ev (Nt ol z G bl b0 J k x bb) bb [] (.pend 299 #[none,some (cF z::ol),false] (cM eZ 8<|cF z)<|CC x ol z J) [] [] [] []:=by kernel_rfl
def V6:Ev (CC x ol z J (.ok .next)<|cf [] ch c1 [] [] [] ca) ca [] (.next<|bL eZ 5 (.ref<|z+5)<|cF z) [] [] [] []:=by kernel_rfl
def V7:Ev (CC x ol z J (.ok<|.ret c3)<|cf [] ch c1 [] [] [] ca) ca [] (.res<|.ok<|.ret<|c3) [] [] [] []:=by kernel_rfl
def V4:Ev (ex x #[none,some (cF z::ol),false] 300 (.code<|bL eZ 5 (.ref<|z+5)<|cF z)<|cf [(nd,ak es ne),((z+5),#[.type "dict_keyiterator",none,.fields #[[.ref nd,.int bt 0,.int (es.length:Int) 0,iN ne 0]],#[[]]])] sz tk (H 0x641542404) [] [] Y) Y [0,1] (.res<|.ok .next) [(nd,ak es ne),((z+5),#[.type "dict_keyiterator",none,.fields #[[.none,.int (bt) 0,.int ((es.length:Int)) 0,iN ne 0]],#[[]]])] [] [] [qC true (aI "dict_keyiterator") (aI "dict") es ne bt ((es.length:Int))<|ad ne]:=by kernel_rfl
def Uz:∀(x:Wd) c,Ev (Cv x ol sz (.ok .next)<|cf [] bl b0 [] [] [] c) c [] (.res<|.ok<|.ret .none) [] [] [] []:=cS
def UA:∀(x:Wd) c,Ev (Cv x ol sz (.ok<|.ret c3)<|cf [] bl b0 [] [] [] c) c [] (.res<|.ok<|.ret<|c3) [] [] [] []:=cS
def UY:Ev (Cy x ol z J (.ok .next)<|cf [] ch c1 [] [] [] ca) ca [] (.next<|cM eZ 8<|cF z) [] [] [] []:=by kernel_rfl
def UX:Ev (Cy x ol z J (.ok .brk)<|cf [] ch c1 [] [] [] ca) ca [] (.res<|.ok .next) [] [] [] []:=by kernel_rfl
def UU:∀(x:Wd) i,Ev (Cx x ol z J c2 (.ok .next)<|cf [] dx t4 [] [] [] i) i [] (.next<|cM eZ 8<|cF z) [] [] [] []:=cS
def UT:∀(x:Wd) i,Ev (Cx x ol z J c2 (.ok .brk)<|cf [] dx t4 [] [] [] i) i [] (.res<|.ok .next) [] [] [] []:=cS
def UV:Ev (xS x ol D.z J k G (.ok<|.ret<|.bool true)<|cf [(S.D x.P rd po tp nf tf),S.N es ne,(D.z,#[.type "frame",none,.dict #[(e_ x.P S D a8<|ah k G)] 7,us D.z]),((D.z+1),aa #[xs] nx),((D.z+2),aa #[U] a7),((D.z+3),#[.type "set",none,mX bs bo J,#[[]]]),((D.z+4),ak K a6)] bl b0 (H 0xcdc1a0c0b0c3936170666891c09993331891e099331) [.bool true,.int bt du] [(S.so,a9 S.sd)] bb) bb [0,1,10] (.res<|.ok<|.ret<|.ref<|bl+3) [(S.D x.P rd po tp nf tf),S.N es ne] [((bl+3),aa #[(iS (ar xs) (some bt) none none).1++[ah k G]] 0)] [] [oX (aI j3) (ar (iS (ar xs) (some bt) none none).1)<|ar [ah k G],cm #[xs],cR (aI "dict") K #[#[k]]<|ic bt du,nv (aI "dict") K #[#[k]] true<|D.z+4]:=by kernel_rfl
end
inductive Tr where
 |z
 |a (i:N)
 |p (l r:Tr)
def pO(E:!ao):N->ao:=λi=>(nthL E i)
where nthL:!ao->N->ao
 |[],_=>[]
 |x::_,0=>x
 |_::l,i+1=>nthL l i
def Tr.den(E:!ao):Tr->ao
 |.z=>[]
 |.a i=>pO E i
 |.p l r=>l.den E++r.den E
def Tr.flat:Tr->!N->!N
 |.z,m=>m
 |.a i,m=>i::m
 |.p l r,m=>l.flat<|r.flat m
def EU(i:N):!N->Option (!N)
 |[]=>none
 |K::l=>match eX i K with
  |true=>some l
  |false=>match EU i l with
   |some r=>some (K::r)
   |none=>none
def DV:!N->!N->Bool
 |[],[]=>true
 |i::l,m=>match EU i m with
  |some r=>DV l r
  |none=>false
 |_,_=>false
def me(E:!ao):!N->ao
 |[]=>[]
 |i::l=>pO E i++me E l
set_option tactic.hygienic true in
def arl:∀{l r},EU i l=some r->(me E l).Perm (pO E i++me E r):=by
 intro J;induction J with
 |nil=>intro _ U;rw[nn U]
 |cons K l C=>
  intro r U
  conv at U=>lhs;whnf
  split at U
  .rename_i e
   cases U;rw[(m_ e)▸.refl _]
  .split at U
   .rename_i A G
    cases U;rw[((C G).append_left<|pO E K).trans ?_];show(pO E K++(pO E i++me E A)).Perm (pO E i++(pO E K++me E A));rw[<-bZ,<-bZ];rw[r_.append_right _]
   .rw[nn U]
set_option tactic.hygienic true in
def OX:∀{l m},DV l m=true->(me E l).Perm (me E m)
 |[],[],_=>.refl _
 |[],_::_,h=>nomatch h
 |i::l,m,h=>by
  conv at h=>lhs;whnf
  split at h
  .rename_i r e
   rw[((OX h).append_left _).trans (arl e).symm]
  .rw[oG h]
def xy:∀{t:Tr} {m},me E (t.flat m)=t.den E++me E m
 |.z,_=>rfl
 |.a i,_=>rfl
 |.p l r,m=>by show me E (l.flat<|r.flat m)=(l.den E++r.den E)++_;simp only[xy,xy,bZ]
def pm(E)(s t:Tr)(h:DV (s.flat []) (t.flat [])=true):(s.den E).Perm (t.den E):=by have u:=OX (E:=E) h;simp only[xy,xy]at u;rw[bQ (t.den E)▸bQ (s.den E)▸u]
section
variable{x:Wd} {D:Mk} {b:N} {c:bj} {F:Fs} {L L' A J X:ao} {Q G:Po} {H s:aN}
def bg.sub(S:bg x F L H s)(h:L'.Sublist L):bg x F L' H s:=#[S.base,S.rep.fr,λq u=>S.rep.led q<|h.subset u,S.rep.nd.sublist<|h.map _,λq u=>S.rep.dj q<|h.subset u,S.rep.sz,S.rep.tk,S.rep.rest,S.rep.ro,⟨λU h=>(nomatch h),λU h=>(nomatch h),.nil,λU h=>(nomatch h)⟩]
def ay.post(g:ay x D b c F L Q)(h:∀r F' L',Le F F'->Q F' r L'->∃A R,L'.Perm (A++R)/\G F' r A):ay x D b c F L G:=λw m s A C a=>
 jz (g w m s A C a) λr P #[F',L',l,H,q]=>let⟨B,R,p,q'⟩:=h r F' L' l q;(bX F' B l ((H.perm<|p.append_right w).sub<|(List.sublist_append_left B R).append_right w) q')
def ay.nd(g:(L.map (·.1)).Nodup->ay x D b c F L Q):ay x D b c F L Q:=λw m s A C B=>g (rx B.rep.nd).1 w m s A C B
end
def aS:PG->!N->!(!N)
 |[],_=>[]
 |x::g,k=>if x.1=k then x.2.2 else aS g k
abbrev o7:=List<|List N×N
def ig(g:PG):o7->Option (!N×o7)
 |[]=>none
 |(j,K)::st=>match(aS g j)[K]?with
  |some E=>some (E,(j,K+1)::st)
  |none=>ig g st
def mr(g:PG):N->o7->!(!N)->!N->Option (Option<|List<|List N)
 |0,_,_,_=>none
 |f+1,i,z,j=>
  if j∈z then
   if j∈i.map (·.1)then some none
   else match ig g i with
    |none=>some<|some z
    |some y=>mr g f y.2 z y.1
  else match ig g ((j,0)::i)with
   |none=>some<|some (j::z)
   |some y=>mr g f y.2 (j::z) y.1
def iO(g:PG)(f:N):!(!N)->!(!N)->Option Bool
 |[],_=>some false
 |j::ks,seen=>
  if j∈seen then iO g f ks seen
  else match mr g f [] seen j with
   |none=>none
   |some none=>some true
   |some (some s)=>iO g f ks s
structure Kp where
 n:Nd
 t:N
 mi:N
 i:N
 j:N
 q:N
 r:N
abbrev Kp.v(e:Kp):af:=ax (e.n.k,e.t)
abbrev pJ(q r:N):aH×Obj:=(q,#[.type "method-wrapper",none,.fields #[[.builtin "list_iterator.__next__",.ref r]],#[[]]])
abbrev pF(r:N)(b:af)(j:N):aH×Obj:=(r,#[.type "list_iterator",none,.fields #[[b,.int (j:Int) 0]],#[[]]])
abbrev Kp.W(e:Kp):ao:=[pJ e.q e.r,pF e.r (.ref e.n.b) e.j]
abbrev Kp.pr(e:Kp):!N×N:=(e.n.k,e.j)
def WS:!Kp->ao
 |[]=>[]
 |e::l=>e.W++WS l
def dv(st:!Kp):!af:=(st.map Kp.v).reverse
def fj(st:!Kp):!af:=(st.map λe=>aF e.q).reverse
def eK(P:eH)(st:!Kp):!bv:=(st.map λe=>V P #[#[e.n.k]] e.t<|.int (e.i:Int) e.mi).reverse
structure Vz where
 us:N->Array (Option af)
 t:N
 nx:N
 ny:N
 nm:N
abbrev M6(x:Wd)(S:Sg)(a:Fa)(c:Vz)(xs R:!af)(d:!bv)(v:af):ao:=[(a.z,bi (e_ x.P S a c.t v) 7<|c.us a.z),(a.z+1,aa #[xs] c.nx),(a.z+2,aa #[R] c.ny),(a.z+4,ak d c.nm)]
abbrev lY(x:Wd)(S:Sg)(a:Fa)(c:Vz)(st:!Kp)(v:af):ao:=M6 x S a c (dv st) (fj st) (eK x.P st) v
def mW(x:Wd)(S:Sg)(a:Fa)(c:Vz)(st:!Kp)(v:af)(ns:!Nd)(zs:!Fr):ao:=lY x S a c st v++(WS st++(Gr ns++zs.map (be c.us)))
structure l8 (ns:!Nd) (st:!Kp):Prop where
 mem:∀e∈st,e.n∈ns/\aS (ns.map Nd.pg) e.n.k=e.n.ss.map (·.1)
 nd:(st.map (·.n.k)).Nodup
 le:st.length<=4000
def l8.tail{ns:!Nd}{e:Kp}{st:!Kp}(g:l8 ns (e::st)):l8 ns st:=#[λq u=>g.mem q<|.tail _ u,(c_.mp g.nd).2,by have:=g.le;simp only[dM]at this;rw[x8 this]]
def l8.next{ns:!Nd}{e:Kp}{st:!Kp}{j:N}(g:l8 ns (e::st)):l8 ns ({e with j:=j}::st):=#[λq u=>(aY.mp u).elim (λU=>U▸g.mem e (.head _)) λU=>g.mem q<|.tail _ U,g.nd,g.le]
def Tz(x:Wd)(S:Sg)(a:Fa)(st:!Kp)(v:af)(ns:!Nd)(zs:!Fr):Po:=λT r h=>∃Z,match ig (ns.map Nd.pg) (st.map Kp.pr)with
 |none=>r=.ok .brk/\h.Perm (mW x S a Z [] v ns zs)
 |some y=>r=.ok .next/\∃D J,y.2=J.map Kp.pr/\l8 ns J/\J.length<=st.length/\(∃n∈ns,(y.1,D)∈n.ss)/\h.Perm (mW x S a Z J (ax (y.1,D)) ns zs)
def Xg{st:!Kp}(h:e.n.k∉st.map (·.n.k)):ml #[#[e.n.k]] (eK P (e::st))=eK P st:=by
 have a:∀l:!Kp,e.n.k∉l.map (·.n.k)->ml #[#[e.n.k]] ((l.map λe=>V P #[#[e.n.k]] e.t<|.int e.i e.mi)++[V P #[#[e.n.k]] e.t<|.int e.i e.mi])=l.map λe=>V P #[#[e.n.k]] e.t (.int e.i e.mi):=λl=>by
  induction l with
  |nil=>intro _;show(match gf #[#[e.n.k]] (V P #[#[e.n.k]] e.t _)with|true=>[]|false=>_)=[];rw[sZ,decide_eq_true rfl]
  |cons d l C=>intro h;rw[bV,aY,not_or]at h;show(match gf #[#[e.n.k]] (V P #[#[d.n.k]] d.t _)with|true=>_|false=>_)=_;rw[sZ,decide_eq_false λq=>h.1 q.symm];rw[congrArg (_::·)<|C h.2]
 unfold eK;rw[bV▸uF▸m8▸(a st.reverse (by rw[m8,lW];rw[h]))]
def XJ:∀{l:!Kp},(d4 (l.map λe=>V P #[#[e.n.k]] e.t<|.int (e.i:Int) e.mi) #[#[k]]).isSome=decide (k∈l.map (·.n.k)):=by
 intro J;induction J with
 |nil=>rfl
 |cons d l C=>
  unfold d4 at C⊢;simp only[bV,uD,sZ];by_cases U:d.n.k=k
  .simp only[decide_eq_true U];simp[U]
  .simp only[decide_eq_false U]
   simp only[C];simp[uK U]
def Bj{st:!Kp}:(d4 (eK P st) #[#[k]]).isSome=decide (k∈st.map (·.n.k)):=by unfold eK;rw[<-m8,XJ,m8];rw[decide_eq_decide.mpr lW]
def v_{st:!Kp}:iT (eK P st)=true:=by unfold iT eK;rw[List.all_reverse,Fz];rw[r5.mpr λU U=>rfl]
def OY:iK (ar<|D++[v]) (-1) v:=by
 rw[#[ζ,ζ,?_,?_]]
 .simp;rw[qi (kX D.length)<|zA (vw _).symm]
 .rw[(by simp;rw[congrArg Int.toNat (vw _)]:((-1)+((ar<|D++[v]).size:Int)).toNat=D.length),];simp
def aoy(h:D.length<=4000):oY (ar<|D++[v]) v:=#[by show(D++[v]).length<=16777216;simp;rw[ajK h],by simp]
def Pe(xs)(v:af):(ar<|xs++[v]).pop=ar xs:=hU<|by simp
def ub(h:xs.length<=4001):f_ (.type "list") (ar xs):=#[py,by rw[Dl h]]
section
variable{x:Wd} {ol:!aX} {S:Sg} {a:Fa} {ns:!Nd} {zs:!Fr}
abbrev mq(ol:!aX)(z:N):Mk:=#[none,some (cF z::ol),false]
def yr{A B P Q W Z:ao}(h:W.Perm (P++Q)):(A++(B++(W++Z))).Perm ((A++P)++(B++(Q++Z))):=(((h.append_right Z).append_left B).append_left A).trans<|pm [A,B,P,Q,Z] (.p (.a 0)<|.p (.a 1)<|.p (.p (.a 2)<|.a 3)<|.a 4) (.p (.p (.a 0)<|.a 2)<|.p (.a 1)<|.p (.a 3)<|.a 4) rfl
def aqT{mt:!N×N}(hi:vs[j]? =some (ax mt))(d:(D::xs).length<=4001):ay x (mq ol a.z) 280 (cM eZ 16<|cF a.z) F (M6 x S a c (D::xs) (J++[aF q]) G v++[pJ q r,pF r (.ref b) j]++[(b,aa #[vs] nb)]++Y) (QK (.ok .next)<|M6 x S a c (D::xs) (J++[aF q]) G (ax mt)++[pJ q r,pF r (.ref b)<|j+1]++[(b,aa #[vs] nb)]++Y):=bJ (O:=[]) ab λB K=>bp (V1 a ol S.so S.nd B K c.t c.nx c.ny c.nm mt.2 b nb q r j v D G c.us xs (J++[aF q]) vs mt.1 x) ab #[by show(#[vs]:Array af)[(j:Int).toNat]? =_;simpa using hi,OY,ub d,ab] (aV) ⟨⟩
abbrev Rb(s t:N)(v:af):aH×Obj:=(s,gX (.type "StopIteration") [.ref t,v,.none,.none,.bool false,.none])
def aeI(z):(cF z).scope.kind=.function:=by kernel_rfl
def aqU(hk:iV ol zs)(hi:vs[j]? =none)(L:a6::xs=a8++[ax (k,t)])(n:(a6::xs).length<=4001)(u:a7.length<=4000)(H:iT D=true/\(d4 D #[#[k]]).isSome=true)(l:D.length<=4001)(h:∀F' f,ay x (mq ol a.z) 280 (cM eZ 16<|cF a.z) F' (M6 x S a f a8 a7 (ml #[#[k]] D) v++[(b,aa #[vs] nb)]++Y++zs.map (be f.us)) Q):ay x (mq ol a.z) 280 (cM eZ 16<|cF a.z) F (M6 x S a c (a6::xs) (a7++[aF q]) D v++[pJ q r,pF r (.ref b) j]++[(b,aa #[vs] nb)]++(Y++zs.map (be c.us))) Q:=
 bJ (O:=[]) ab λB K=>xG (V2 a ol S.so S.nd B K c.t c.nx c.ny c.nm t b nb q r j v a6 D c.us xs (a7++[aF q]) vs k x) ab #[by show(#[vs]:Array af)[(j:Int).toNat]? =_;simpa using hi,OY,ub n,ab] (Lc:=be c.us #[a.z,e_ x.P S a c.t v,7]::zs.map (be c.us)++[Rb (B+1) B .none]) (Z:=[(a.z+1,aa #[a6::xs] c.nx),(a.z+2,aa #[a7++[aF q]] c.ny),(a.z+4,ak D c.nm),pJ q r,pF r .none j,(b,aa #[vs] nb)]++Y) (pm [[be c.us #[a.z,e_ x.P S a c.t v,7]],[(a.z+1,aa #[a6::xs] c.nx),(a.z+2,aa #[a7++[aF q]] c.ny),(a.z+4,ak D c.nm),pJ q r,pF r .none j,(b,aa #[vs] nb)],_,Y,zs.map<|be c.us] (.p (.p (.a 0)<|.p (.a 1)<|.a 2)<|.p (.a 3)<|.a 4) (.p (.p (.p (.a 0)<|.a 4)<|.a 2)<|.p (.a 1)<|.a 3) rfl) λw m s A C o=>by
   have e:bg x (fz F []) ((#[a.z,e_ x.P S a c.t v,7]::zs).map (be c.us)++(B+1,gX (.type "StopIteration") [.ref B,.none,.none,.none,.bool false,.none])::w) m s:=by have q:=o;rw[bZ]at q;rw[q]
   refine Ll C rfl (hk:=#[λU=>(nomatch(aeI a.z).symm.trans U),rfl,hk]) e λd g i P y=>bX (fz F []) ((#[a.z,e_ x.P S a c.t v,7]::zs).map (be i)++[Rb (B+1) B<|.ref d,(d,kR a.z g)]) aV (by rw[bZ,];rw[y]) ?_;refine#[_++_++_,Y++zs.map (be i),pm [[(a.z,bi (e_ x.P S a c.t v) 7<|i a.z)],zs.map<|be i,_,_,Y] (.p (.p (.p (.a 0)<|.a 1)<|.a 2)<|.p (.a 3)<|.a 4) (.p (.p (.p (.a 0)<|.a 3)<|.a 2)<|.p (.a 4)<|.a 1) rfl,_,_,[],ab,λJ G=>bu (V3 a ol S.so S.nd B c.t c.nx c.ny c.nm t J G b nb q r d j v a6 D i xs (a7++[aF q]) vs g k x) ab #[aoy u,#[#[dK,H],by rw[Dl l]],#[by show(a6::xs).length<=16777216;rw[Dl n],by rw[L,];simp],ab] rfl (λ_ _ U=>.inl U) ?_];simp only[L,Pe,Pe];rw[(h (fz (fz F []) _) #[i,c.t,c.nx+1,c.ny+1,c.nm+1])]
def Ir(l n r):(Gr (l++n::r)).Perm ([n.ls]++(n.ob::(Gr l++Gr r))):=(xF l n r).trans<|.swap _ _ _
def AX{st:!Kp}:(lY x S a c (e::st) v++(WS (e::st)++(Gr (l++n::r)++zs.map (be c.us)))).Perm ((lY x S a c (e::st) v++e.W++[n.ls])++((WS st++(n.ob::(Gr l++Gr r)))++zs.map (be c.us))):=(yr<|Ir l n r).trans (pm [lY x S a c (e::st) v,e.W,WS st,[n.ls],n.ob::(Gr l++Gr r),zs.map<|be c.us] (.p (.p (.a 0)<|.a 3)<|.p (.p (.a 1)<|.a 2)<|.p (.a 4)<|.a 5) (.p (.p (.p (.a 0)<|.a 1)<|.a 3)<|.p (.p (.a 2)<|.a 4)<|.a 5) rfl)
def V_{M W Z:ao}{n:Nd}:(M++[n.ls]++(W++(n.ob::(Gr l++Gr r)))++Z).Perm (M++(W++(Gr (l++n::r)++Z))):=((yr (A:=M) (B:=W) (Z:=Z)<|Ir l n r).trans<|pm [M,[n.ls],W,n.ob::(Gr l++Gr r),Z] (.p (.p (.a 0)<|.a 1)<|.p (.a 2)<|.p (.a 3)<|.a 4) (.p (.p (.p (.a 0)<|.a 1)<|.p (.a 2)<|.a 3)<|.a 4) rfl).symm
def Q2{ss:!(!N×N)}{j:N}:(ss.map ax)[j]? =(ss[j]?).map ax:=fi ..
set_option tactic.hygienic true in
def Rf(hk:iV ol zs){st:!Kp}(g:l8 ns st):ay x (mq ol a.z) 280 (cM eZ 16<|cF a.z) F (mW x S a c st v ns zs) (Tz x S a st v ns zs):=by
 induction st generalizing c v F with
 |nil=>rw[bJ (O:=[]) ab λB K=>bp (V0 a ol S.so S.nd B K c.t c.nx c.ny c.nm v [] c.us [] x) ab #[ub<|dw _,ab] (aV)<|bA c rfl<|.refl _]
 |cons d st C=>
  rw[ct (g.mem d<|.head _) λH o=>?_];have i:=g.le;obtain⟨W,Q,L⟩:∃W Q,dv (d::st)=W::Q:=by
   cases U:dv (d::st)with
   |nil=>simp[dv]at U
   |cons W Q=>rw[j8 W Q rfl]
  have f:fj (d::st)=fj st++[aF d.q]:=by simp[fj]
  have k:(W::Q).length<=4001:=by rw[L▸?_];simp[dv];rw[x8 i]
  have t:ig (ns.map Nd.pg) ((d::st).map Kp.pr)=match(d.n.ss)[d.j]?with
    |some E=>some (E.1,({d with j:=d.j+1}::st).map Kp.pr)
    |none=>ig (ns.map Nd.pg) (st.map Kp.pr):=by
   show(match(aS (ns.map Nd.pg) d.n.k)[d.j]?with|some E=>_|none=>_)=_;simp only[o,fi]
   cases(d.n.ss)[d.j]? <;>rfl
  cases w:(d.n.ss)[d.j]?with
  |some s=>simp only[w]at t;rw[fU (FA H) λl r P=>?_];subst P;rw[.perm AX ?_];show ay _ _ _ _ _ (M6 x S a c (dv (d::st)) (fj (d::st)) (eK x.P (d::st)) v++d.W++[d.n.ls]++((WS st++(d.n.ob::(Gr l++Gr r)))++zs.map (be c.us))) _;refine L▸f▸((aqT (mt:=s) (by rw[Q2▸w▸?_];rfl) k).le (d7 _) λA T h _ q=>?_);cases q;rw[#[c,?_]];rw[t,];rw[#[rfl,s.2,{d with j:=d.j+1}::st,rfl,g.next,d7 _,bA d.n H<|uE w,?_]];have u:=(AX (x:=x) (S:=S) (a:=a) (c:=c) (e:={d with j:=d.j+1}) (st:=st) (v:=ax s) (l:=l) (r:=r) (n:=d.n) (zs:=zs)).symm;show zE _ (M6 x S a c (dv (d::st)) (fj (d::st)) (eK x.P (d::st)) (ax s)++_);have u:zE (M6 x S a c (dv (d::st)) (fj (d::st)) (eK x.P (d::st)) (ax s)++_++_++_) (M6 x S a c (dv (d::st)) (fj (d::st)) (eK x.P (d::st)) (ax s)++_):=u;rw[L,f]at u⊢;rw[u]
  |none=>
   rw[w]at t;rw[fU (FA H) λl r P=>?_];subst P;rw[.perm AX ?_];show ay _ _ _ _ _ (M6 x S a c (dv (d::st)) (fj (d::st)) (eK x.P (d::st)) v++d.W++[d.n.ls]++((WS st++(d.n.ob::(Gr l++Gr r)))++zs.map (be c.us))) _;refine L▸f▸(aqU hk (by rw[Q2▸w▸?_];rfl) (L.symm.trans (by simp[dv]:dv (d::st)=dv st++[d.v])) k (by simp[fj];rw[x8 i]) #[v_,by rw[Bj▸?_];simp] (by simp[eK];rw[x8 i]) λT p=>?_);rw[Xg (c_.mp g.nd).1,];rw[.perm V_<|(C g.tail).le (d7 _) λA T h _ G=>G.casesOn λb U=>#[b,(t▸?_)]];dsimp only;split
   .rename_i q;rw[q]at U;rw[U]
   .rename_i y q
    rw[q]at U;rw[ct U λm R=>xp R λD J M X I Y z=>#[m,D,J,M,X,ld I,Y,z]]
end
structure Sv where
 rd:af
 po:Int
 tp:N
 nf:Int
 tf:N
 ne:N
structure Sy where
 sv:Array (Int×af)
 sp:N
 st:j4
abbrev SN(x:Wd)(S:Sg)(d:Sv)(ns:!Nd):ao:=[S.D x.P d.rd d.po d.tp d.nf d.tf,S.N (aG x.P ns) d.ne]
abbrev E8(x:Wd)(S:Sg)(d:Sv)(ns:!Nd)(a:Fa)(c:Vz)(y:Sy)(st:!Kp)(v:af):ao:=[S.D x.P d.rd d.po d.tp d.nf d.tf,S.N (aG x.P ns) d.ne,(a.z,bi (e_ x.P S a c.t v) 7<|c.us a.z),(a.z+1,aa #[dv st] c.nx),(a.z+2,aa #[fj st] c.ny),(a.z+3,fG y.sv y.sp y.st),(a.z+4,ak (eK x.P st) c.nm)]
def D8(x:Wd)(S:Sg)(d:Sv)(ns:!Nd)(a:Fa)(c:Vz)(y:Sy)(st:!Kp)(v:af)(zs:!Fr):ao:=E8 x S d ns a c y st v++(WS st++(Gr ns++zs.map (be c.us)))
section
variable{x:Wd} {ol:!aX} {S:Sg} {d:Sv} {a:Fa} {ns:!Nd} {zs:!Fr}
def Hs{st:!Kp}:(D8 x S d ns a c y st v zs).Perm (mW x S a c st v ns zs++(SN x S d ns++[(a.z+3,fG y.sv y.sp y.st)])):=pm [SN x S d ns,[(a.z,bi (e_ x.P S a c.t v) 7<|c.us a.z),(a.z+1,aa #[dv st] c.nx),(a.z+2,aa #[fj st] c.ny)],[(a.z+3,fG y.sv y.sp y.st)],_,WS st,Gr ns,zs.map<|be c.us] (.p (.p (.a 0)<|.p (.a 1)<|.p (.a 2)<|.a 3)<|.p (.a 4)<|.p (.a 5)<|.a 6) (.p (.p (.p (.a 1)<|.a 3)<|.p (.a 4)<|.p (.a 5)<|.a 6)<|.p (.a 0)<|.a 2) rfl
def xf{st:!Kp}(h:L.Perm (mW x S a c st v ns zs)):(L++(SN x S d ns++[(a.z+3,fG y.sv y.sp y.st)])).Perm (D8 x S d ns a c y st v zs):=(h.append_right _).trans Hs.symm
abbrev jL(z:!(!N)):aA->Bool:=λs=>decide<|s.cps.toList∈z
def aqh:(λu=>jL D u||decide (u=(#[#[k]]:aA)))=jL (k::D):=by funext s;obtain⟨⟨l⟩⟩:=s;rw[p_,];simp[or_comm]
def Q8(x:Wd)(S:Sg)(d:Sv)(ns:!Nd)(a:Fa)(zs:!Fr)(m:N)(o:Option (List<|List N)):Po:=λT r h=>match o with
 |none=>∃b l Q n,r=.ok (.ret<|.ref l)/\T l (aa #[Q] n)/\0<Q.length/\Q.length<=9000/\(∃R,h.Perm<|(SN x S d ns++(Gr ns++zs.map (be b)))++R)
 |some z=>r=.ok .next/\∃Z y v n,iY x.W y.sv y.st (jL z) n/\n<=m/\h.Perm (D8 x S d ns a Z y [] v zs)
def ami(h:∃m∈ns,m.k=k):∃l n r,ns=l++n::r/\n.k=k/\d4 (aG P ns) #[#[k]]=some (.ref n.a)/\aS (ns.map Nd.pg) k=n.ss.map (·.1):=by
 rcases Dt P k ns with⟨l,n,r,rfl,a,M,X⟩|⟨a,M⟩
 .rw[B3 l n r rfl a X ?_]
  clear X h;induction l with
  |nil=>show(if n.k=k then _ else _)=_;rw[if_pos a,];rfl
  |cons m l C=>show(if m.k=k then _ else _)=_;rw[if_neg<|M m<|.head _,];rw[C λq u=>M q<|.tail _ u]
 .rw[aJ h λm H c=>absurd c<|a m H]
abbrev qd(ns:!Nd):Prop:=∀n∈ns,∀p∈n.ss,∃E∈ns,E.k=p.1
def Bb:∀{st y},ig g st=some y->∀k∈y.2.map (·.1),k∈st.map (·.1)
 |[],_,U=>nn U
 |(k,K)::st,y,U=>by
  conv at U=>lhs;whnf
  split at U
  .cases U
   exactλq u=>u
  .exactλq u=>.tail _<|Bb U q u
def XK:∀{l:!Kp},k∈l.map (·.n.k)->∃e∈l,d4 (l.map λe=>V P #[#[e.n.k]] e.t<|.int (e.i:Int) e.mi) #[#[k]]=some (.int (e.i:Int) e.mi):=by
 intro J;induction J with
 |nil=>intro U;rw[nomatch U]
 |cons d l C=>
  intro U;by_cases q:d.n.k=k
  .rw[bA d (.head _) (by unfold d4;simp only[bV,uD,sZ,decide_eq_true q];rfl)]
  .rw[aJ (C<|(aY.mp U).resolve_left λU=>q U.symm) λe a M=>bA e (.tail _ a) ?_]
   unfold d4 at M⊢;simp only[bV,uD,sZ,decide_eq_false q];rw[M]
def XL{st:!Kp}(h:k∈st.map (·.n.k)):∃e∈st,d4 (eK P st) #[#[k]]=some (.int (e.i:Int) e.mi):=by obtain⟨e,a,q⟩:=XK<|m8▸lW.mpr h;rw[bA e (lW.mp a) (by unfold eK;rw[m8▸q])]
def sR{st:!Kp}:(E8 x S d ns a c y st v++Y).Perm ([(a.z+3,fG y.sv y.sp y.st)]++(SN x S d ns++lY x S a c st v++Y)):=pm [SN x S d ns++[(a.z,bi (e_ x.P S a c.t v) 7<|c.us a.z),(a.z+1,aa #[dv st] c.nx),(a.z+2,aa #[fj st] c.ny)],[(a.z+3,fG y.sv y.sp y.st)],_,Y] (.p (.p (.a 0)<|.p (.a 1)<|.a 2)<|.a 3) (.p (.a 1)<|.p (.p (.a 0)<|.a 2)<|.a 3) rfl
def km(xs)(v:af):(ar xs).push v=ar (xs++[v]):=hU<|by simp
def US{c:Vz}{y:Sy}{st:!Kp}{t i m q p:N}:zE ([S.D x.P d.rd d.po d.tp d.nf d.tf,S.N (aG x.P (l++nd::r)) d.ne,(a.z,bi (e_ x.P S a c.t<|ax (nd.k,t)) 7<|c.us a.z),(a.z+1,aa ((ar<|dv st).push<|ax (nd.k,t))<|c.nx+1),(a.z+2,aa ((ar<|fj st).push<|.ref q)<|c.ny+1),(a.z+3,fG y.sv y.sp y.st),(a.z+4,ak (eK x.P st++[V x.P #[#[nd.k]] t<|.int (i:Int) m])<|c.nm+1),nd.ob,nd.ls,pF p (.ref nd.b) 0,pJ q p]++(WS st++((Gr l++Gr r)++zs.map (be c.us)))) (mW x S a #[c.us,c.t,c.nx+1,c.ny+1,c.nm+1] (#[nd,t,m,i,0,q,p]::st) (ax (nd.k,t)) (l++nd::r) zs++(SN x S d (l++nd::r)++[(a.z+3,fG y.sv y.sp y.st)])):=by
 have K:dv st++[ax (nd.k,t)]=dv (#[nd,t,m,i,0,q,p]::st):=by simp[dv]
 have O:fj st++[.ref q]=fj (#[nd,t,m,i,0,q,p]::st):=by simp[fj]
 have b:eK x.P st++[V x.P #[#[nd.k]] t<|.int i m]=eK x.P (#[nd,t,m,i,0,q,p]::st):=by simp[eK]
 simp only[km,km,K,O,b];rw[Fy ?_<|(yr<|pQ).symm.append_right _];rw[pm [SN x S d (l++nd::r),[(a.z,bi (e_ x.P S a c.t<|ax (nd.k,t)) 7<|c.us a.z),(a.z+1,aa #[dv (#[nd,t,m,i,0,q,p]::st)]<|c.nx+1),(a.z+2,aa #[fj (#[nd,t,m,i,0,q,p]::st)]<|c.ny+1)],[(a.z+3,fG y.sv y.sp y.st)],[(a.z+4,ak (eK x.P (#[nd,t,m,i,0,q,p]::st))<|c.nm+1)],[nd.ob,nd.ls],[pF p (.ref nd.b) 0],[pJ q p],WS st,Gr l++Gr r,zs.map<|be c.us] (.p (.p (.a 0)<|.p (.a 1)<|.p (.a 2)<|.p (.a 3)<|.p (.a 4)<|.p (.a 5)<|.a 6)<|.p (.a 7)<|.p (.a 8)<|.a 9) (.p (.p (.p (.p (.a 1)<|.a 3)<|.a 4)<|.p (.p (.p (.a 6)<|.a 5)<|.a 7)<|.p (.a 8)<|.a 9)<|.p (.a 0)<|.a 2) rfl]
def arc(hk:iV ol zs)(Y:qd ns)(ds:m<=4000):∀{st z k t n c y F o},F S.so (a9 S.sd)->l8 ns st->(∀e∈st,e.n.k∈z)->iY x.W y.sv y.st (jL z) n->n+f<=m->st.length+f<=4000->(∃n∈ns,n.k=k)->mr (ns.map Nd.pg) f (st.map Kp.pr) z k=some o->ay x (mq ol a.z) 290 (cM eZ 8<|cF a.z) F (D8 x S d ns a c y st (ax (k,t)) zs) (Q8 x S d ns a zs m o):=by
 induction f with
 |zero=>intro st z k t n c y F o W ca T g w a6 u A;cases A
 |succ f C=>
  intro st z k t n c y F o W ca T g w a6 u A;change(if _ then _ else _)=_ at A;rw[bJ (O:=[(S.so,a9 S.sd)]) #[W,ab] λB ed=>jf (ci S a ol d.tp d.tf d.ne B ed c.t c.nx c.ny y.sp c.nm t d.po d.nf d.rd (aG x.P ns) (eK x.P st) c.us (dv st) (fj st) y.sv y.st k x) ab ab sR λem ey s eh ev d1=>HU d1 g ?_];have ch:fz F [] S.so (a9 S.sd):=an _ _ W;by_cases bs:k∈z
  .rw[if_pos bs]at A
   rw[show jL z #[#[k]]=true from decide_eq_true bs,];by_cases h:k∈st.map (·.n.k)
   .rw[if_pos<|by simpa using h]at A
    cases A;rw[aJ (XL (P:=x.P) h) λe a8 ac=>?_];have dt:(iS (ar<|dv st) (some e.i) none none).1.length<=4000:=by
     have M:(dv st).length=st.length:=by simp[dv]
     rw[ajx a6 (slicePick_size_le _ _ _ _) M]
    rw[#[_,_,sR.symm,_,_,[(S.so,a9 S.sd)],#[ch,ab],λbt b0=>bp (UV S a ol d.tp d.tf d.ne c.t c.nx c.ny y.sp c.nm t bt b0 e.mi d.po d.nf e.i d.rd (aG x.P ns) (eK x.P st) c.us (dv st) (fj st) y.sv y.st k x) ab #[#[py,by show(iS (ar<|dv st) (some e.i) none none).1.length+1<=16777216;rw[ajy dt]],by show(dv st).length<=16777216;simp[dv];rw[ajz a6],#[dK,v_,ac],#[dK,v_,by rw[ac,];rfl,LS],ab] an<|aa2 c.us (bt+3) _ 0 rfl (bc<|.head _) (by simp) (by rw[cJ,];rw[b8 (oP dt 1)<|ζ]) #[WS st,pm [SN x S d ns,WS st,Gr ns++zs.map (be c.us)] (.p (.a 0)<|.p (.a 1)<|.a 2) (.p (.p (.a 0)<|.a 2)<|.a 1) rfl]]]
   .rw[if_neg<|by simpa using h]at A
    refine⟨_,_,sR.symm,_,_,[(S.so,a9 S.sd)],⟨ch,ab⟩,λbt b0=>bP (UW S a ol d.tp d.tf d.ne c.t c.nx c.ny y.sp c.nm t bt b0 d.po d.nf d.rd (aG x.P ns) (eK x.P st) c.us (dv st) (fj st) y.sv y.st k x) ab #[#[dK,v_,by rw[Bj,];rw[decide_eq_false h],LS],ab] Hs ((Rf hk ca).le ζ λ_ _ _ _ U=>U) λr d0 ck H L=>L.casesOn λb U=>?_⟩;have bl:=dP (cb an) H;cases ac:ig (ns.map Nd.pg) (st.map Kp.pr)with
    |none=>simp only[ac]at U A;rw[ct U λQ I=>?_];subst Q;cases A;rw[#[[],_,.refl _,_,_,[],ab,λD E=>bp (UX ol a.z D E y.st x) ab ab bl #[rfl,b,y,_,n,g,ajA w,xf I]]]
    |some bo=>
     rw[ac]at U A;rw[ct U λQ R=>xp R λi J K M X dd I=>?_];subst Q;rw[aJ dd λda c2 c3=>#[[],_,.refl _,_,_,[],ab,λD E=>bu (UY ol a.z D E y.st x) ab ab rfl bl<|.perm (xf I)<|C (an _ _<|bl _ _ W) M ?_ g (ajB w) (ajC a6 X) (Y da c2 _ c3)<|K▸A]];have eb:=Bb ac;intro e a8;have:e.pr.1∈bo.2.map (·.1):=by rw[K,bI];rw[bw a8]
     obtain⟨G,c1,q⟩:∃G∈st,G.n.k=e.n.k:=by have:=eb _ this;rw[bI]at this;rw[bn.mp this]
     rw[q▸T G c1]
  .rw[if_neg bs]at A
   rw[show jL z #[#[k]]=false from decide_eq_false bs,];rw[xq (ami (P:=x.P) u) λl j r ef eg d3 ec=>?_];subst ef;subst eg;have dx:(dv st).length=st.length:=by simp[dv]
   have ea:(fj st).length=st.length:=by simp[fj]
   have ds:(eK x.P st).length=st.length:=by simp[eK]
   have h:j.k∉st.map (·.n.k):=λU=>by obtain⟨e,a8,q⟩:=bn.mp U;rw[bs<|q▸T e a8]
   refine⟨_,_,sR.symm,_,_,[(S.so,a9 S.sd)],⟨ch,ab⟩,λbt b0=>jf (UQ S a ol d.tp d.tf d.ne c.t c.nx c.ny y.sp c.nm t bt b0 d.po d.nf d.rd (aG x.P (l++j::r)) (eK x.P st) c.us (dv st) (fj st) y.sv y.st j.k x) ab ab sR λep eB eC ei ew d2=>Yd d2 g (by show n+1<4096;lia) λa7 bb J c4=>?_⟩;simp only[aqh]at c4;have du:iY x.W a7 J (jL (j.k::z)) (n+1):=by rw[show jL z #[#[j.k]]=false from decide_eq_false bs]at c4;rw[c4]
   rw[#[E8 x S d (l++j::r) a c #[a7,bb,J] st (ax (j.k,t))++[j.ob,j.ls],WS st++((Gr l++Gr r)++zs.map (be c.us)),?_,_,_,[(S.so,a9 S.sd)],#[an _ _ ch,ab],λD E=>bP (UR S a ol d.tp d.tf d.ne c.t c.nx c.ny c.nm t bb j.a j.d j.b j.tp j.nb D E d.po d.nf j.np d.rd (.str #[#[j.k]] j.tk) (aG x.P (l++j::r)) (eK x.P st) c.us (dv st) (fj st) (j.ss.map ax) a7 y.st J j.k x) ab #[by show(dv st).length<=16777216;rw[Dk a6 dx],#[dK,v_,by have:=Bj (P:=x.P) (k:=j.k) (st:=st);simp only[decide_eq_false h]at this;rw[Gj.mp<|by simpa using this],by show(eK x.P st).length<=16777216;rw[Dk a6 ds]],ub<|ajD a6 dx,by show(fj st).length<=16777216;rw[Dk a6 ea],#[dK,oz _ _,d3],ab] (Lc:=mW x S a #[c.us,c.t,c.nx+1,c.ny+1,c.nm+1] (#[j,t,E+4,(dv st).length,0,D+1,D]::st) (ax (j.k,t)) (l++j::r) zs) (Z:=SN x S d (l++j::r)++[(a.z+3,fG a7 bb J)]) ?_ ((Rf hk #[λe a8=>(aY.mp a8).elim (λU=>U▸#[(dX _<|.head _),ec])<|ca.mem e,c_.mpr ⟨h,ca.nd⟩,by rw[ajE a6]]).le ζ λ_ _ _ _ U=>U) λdV d0 ck H L=>L.casesOn λb U=>?_]]
   .rw[(sR (y:=#[a7,bb,J])).symm.trans<|yr pQ]
   .rw[US (y:=#[a7,bb,J])]
   .have bl:=dP (cb<|cb an) H
    cases ac:ig ((l++j::r).map Nd.pg) ((j.k,0)::st.map Kp.pr)with
    |none=>
     rw[ac]at A;cases A;have c0:dV=.ok .brk/\ck.Perm (mW x S a b [] (ax (j.k,t)) (l++j::r) zs):=by have q:ig ((l++j::r).map Nd.pg) ((#[j,t,E+4,(dv st).length,0,D+1,D]::st).map Kp.pr)=none:=ac;rw[q]at U;rw[U]
     rw[ct c0 λQ I=>?_];subst Q;rw[#[[],_,.refl _,_,_,[],ab,λc5 db=>bp (UT ol a.z c5 db y.st J x) ab ab bl #[rfl,b,#[a7,bb,J],_,n+1,du,ajF w,xf (y:=#[a7,bb,J]) I]]]
    |some bo=>
     rw[ac]at A;have c0:dV=.ok .next/\∃i J,bo.2=J.map Kp.pr/\l8 (l++j::r) J/\J.length<=st.length+1/\(∃n∈l++j::r,(bo.1,i)∈n.ss)/\ck.Perm (mW x S a b J (ax (bo.1,i)) (l++j::r) zs):=by have q:ig ((l++j::r).map Nd.pg) ((#[j,t,E+4,(dv st).length,0,D+1,D]::st).map Kp.pr)=some bo:=ac;rw[q]at U;rw[U]
     rw[ct c0 λQ R=>xp R λi eM K M X dd I=>?_];subst Q;rw[aJ dd λda c2 c3=>#[[],_,.refl _,_,_,[],ab,λc5 db=>bu (UU ol a.z c5 db y.st J x) ab ab rfl bl<|.perm (xf (y:=#[a7,bb,J]) I)<|C (an _ _<|bl _ _ W) M ?_ du (ajG w) (ajH a6 X) (Y da c2 _ c3)<|K▸A]];intro e a8;have:e.pr.1∈bo.2.map (·.1):=by rw[K,bI];rw[bw a8]
     rcases aY.mp ((Bb ac) _ this)with q|q
     .simp only[show e.n.k=j.k from q];rw[.head _]
     .rw[bI]at q
      rw[aJ (bn.mp q) λG c1 q=>.tail _<|(show G.n.k=e.n.k from q)▸T G c1]
end
abbrev aeH(r l i ne:N):aH×Obj:=(r,#[.type "dict_keyiterator",none,.fields #[[.none,.int (i:Int) 0,.int (l:Int) 0,.int (ad ne) 0]],#[[]]])
abbrev pC(r nd i l ne:N):aH×Obj:=(r,#[.type "dict_keyiterator",none,.fields #[[.ref nd,.int (i:Int) 0,.int (l:Int) 0,.int (ad ne) 0]],#[[]]])
section
variable{x:Wd} {ol:!aX} {S:Sg} {d:Sv} {a:Fa} {ns:!Nd} {zs:!Fr}
def Q5(x:Wd)(S:Sg)(d:Sv)(ns:!Nd)(zs:!Fr)(a:aL)(b:Bool):Po:=λT r h=>(∃c R,h.Perm<|(SN x S d ns++(Gr ns++zs.map (be c)))++R)/\match b with
 |true=>∃l Q n,r=.ok (.ret<|.ref l)/\T l (aa #[Q] n)/\0<Q.length/\Q.length<=9000
 |false=>r=a
abbrev E9(x:Wd)(S:Sg)(d:Sv)(ns:!Nd)(a:Fa)(c:Vz)(y:Sy)(v:af)(i:N):ao:=[S.D x.P d.rd d.po d.tp d.nf d.tf,S.N (aG x.P ns) d.ne,(a.z,bi (e_ x.P S a c.t v) 7<|c.us a.z),(a.z+1,aa #[[]] c.nx),(a.z+2,aa #[[]] c.ny),(a.z+3,fG y.sv y.sp y.st),(a.z+4,ak [] c.nm),pC (a.z+5) S.nd i (aG x.P ns).length d.ne]
abbrev D9(x:Wd)(S:Sg)(d:Sv)(ns:!Nd)(a:Fa)(c:Vz)(y:Sy)(v:af)(i:N)(zs:!Fr):ao:=E9 x S d ns a c y v i++(Gr ns++zs.map (be c.us))
abbrev xz(z:N):bj:=bL eZ 5 (.ref<|z+5)<|cF z
def Bm:(E9 x S d ns a c y v i++Y).Perm ([(a.z+3,fG y.sv y.sp y.st)]++((SN x S d ns++lY x S a c [] v)++(pC (a.z+5) S.nd i (aG x.P ns).length d.ne::Y))):=pm [SN x S d ns++[(a.z,bi (e_ x.P S a c.t v) 7<|c.us a.z),(a.z+1,aa #[[]] c.nx),(a.z+2,aa #[[]] c.ny)],[(a.z+3,fG y.sv y.sp y.st)],[(a.z+4,ak [] c.nm)],_,Y] (.p (.p (.a 0)<|.p (.a 1)<|.p (.a 2)<|.a 3)<|.a 4) (.p (.a 1)<|.p (.p (.a 0)<|.a 2)<|.p (.a 3)<|.a 4) rfl
def HH:([(a.z+3,fG y.sv y.sp y.st)]++((SN x S d ns++lY x S a c [] v)++(pC (a.z+5) S.nd i (aG x.P ns).length d.ne::Y))).Perm ((E8 x S d ns a c y [] v++Y)++[pC (a.z+5) S.nd i (aG x.P ns).length d.ne]):=pm [SN x S d ns++[(a.z,bi (e_ x.P S a c.t v) 7<|c.us a.z),(a.z+1,aa #[[]] c.nx),(a.z+2,aa #[[]] c.ny)],_,_,[pC (a.z+5) S.nd i (aG x.P ns).length d.ne],Y] (.p (.a 1)<|.p (.p (.a 0)<|.a 2)<|.p (.a 3)<|.a 4) (.p (.p (.p (.a 0)<|.p (.a 1)<|.a 2)<|.a 4)<|.a 3) rfl
def XO:((E8 x S d ns a c y [] v++Y)++[pC (a.z+5) S.nd i (aG x.P ns).length d.ne]).Perm (E9 x S d ns a c y v i++Y):=HH.symm.trans Bm.symm
def RB(hk:iV ol zs)(Y:qd ns){K bl:aL->aR->av}(W:F S.so (a9 S.sd))(g:iY x.W y.sv y.st (jL a6) n)(B:0<f/\f<=4000)(w:n+(a7.length+1)*f<=4000)(u:∃n∈ns,n.k=k)(A:iO (ns.map Nd.pg) f (k::a7) a6=some b)(L:∀Z,Ev (o Z) Z [0,1,2,3,4,5,6,7] (.pend 299 (mq ol a.z) (.call (.builtin "set.__contains__") #[[.ref<|a.z+3,.str #[#[k]] t],[]]) K) (E9 x S d ns a c y (ax (k,t)) i) [] [] ps)(I:AP ps)(ca:∀J G Z,Ev (K (.ok<|.ret<|.bool true)<|cf [] J G [0] [] [] Z) Z [] (.next<|xz a.z) [] [] [] [])(P:∀J G Z,Ev (K (.ok<|.ret<|.bool false)<|cf [] J G [0,1] [] [] Z) Z [] (.pend 299 (mq ol a.z) (cM eZ 8<|cF a.z) bl) [] [] [] [])(T:∀D E Z,Ev (bl (.ok .next)<|cf [] D E [] [] [] Z) Z [] (.next<|xz a.z) [] [] [] [])(b0:∀v D E Z,Ev (bl (.ok<|.ret v)<|cf [] D E [] [] [] Z) Z [] (.res<|.ok<|.ret v) [] [] [] [])(h:∀F' p e n' q ac,F' S.so (a9 S.sd)->iY x.W e.sv e.st (jL ac) n'->n'+a7.length*f<=4000->iO (ns.map Nd.pg) f a7 ac=some b->ay x (mq ol a.z) 300 (xz a.z) F' (D9 x S d ns a p e q i zs) (Q5 x S d ns zs (.ok .next) b)):Go x (mq ol a.z) 300 F (Q5 x S d ns zs (.ok .next) b) F (Gr ns++zs.map (be c.us)) o:=by
 have j:fz F [] S.so (a9 S.sd):=an _ _ W;have O:n+f+a7.length*f<=4000:=by rw[Nat.add_mul]at w;rw[ak2 w]
 rw[jf L ab I Bm λda m s c3 C bt=>HU bt g ?_];change(if _ then _ else _)=_ at A;by_cases z:k∈a6
 .rw[if_pos z]at A
  rw[(show jL a6 #[#[k]]=true from decide_eq_true z)▸#[[],_,.refl _,_,_,[],ab,λJ G=>bu (ca J G) ab ab rfl an<|.perm Bm.symm<|h _ c y n (ax (k,t)) a6 (an _ _ j) g (b8 (oP (oR n f) _) O) A]]
 .rw[if_neg z]at A
  refine(show jL a6 ⟨⟨k⟩⟩=false from decide_eq_false z)▸⟨[],_,.refl _,[0,1],[],[],ab,λJ G=>?_⟩;cases bb:mr (ns.map Nd.pg) f [] a6 k with
  |none=>rw[bb]at A;cases A
  |some ck=>
   rw[bb]at A;rw[bP (P J G) ab ab HH ((arc hk Y (b8 (oR ..) O) (st:=[]) (an _ _ j) #[λ_ U=>(nomatch U),.nil,dw _] (λ_ U=>(nomatch U)) g (d7 _) ((nj f).symm▸B.2) u bb).le ζ λ_ _ _ _ U=>U) λr c4 c5 H U=>?_];have bo:=dP (cb an) H;cases ck with
   |none=>cases A;rw[XU U λc0 l Q ch c2 a8 M X R=>dm R λbs I=>?_];subst c2;rw[#[[],_,.refl _,_,_,[],ab,λD E=>bp (b0 (.ref l) D E) ab ab bo #[j8 c0 (bs++[pC (a.z+5) S.nd i (aG x.P ns).length d.ne])<|(I.append_right _).trans<|.of_eq<|bZ ..,l,Q,ch,rfl,an _ _ a8,M,X]]]
   |some ac=>rw[ct U λc1 R=>XT R λp e q n' a8 M I=>?_];subst c1;rw[#[[],_,.refl _,_,_,[],ab,λD E=>bu (T D E) ab ab rfl bo<|.perm ((I.append_right _).trans XO)<|h _ p e n' q ac (an _ _<|bo _ _ W) a8 (alH w M) A]]
def H0(P l n r):(aG P (l++n::r))[l.length]? =some (V P #[#[n.k]] n.tk<|.ref n.a):=by unfold aG;simp only[fi,oM<|d7 _,Nat.sub_self];rfl
def Pq(P l n r ne):gS true (.type "dict_keyiterator") (.type "dict") (aG P (l++n::r)) ne (l.length:Int) ((aG P (l++n::r)).length:Int) (ad ne) (ax (n.k,n.tk)):=#[rfl,dK,rfl,rfl,kX _,_,by rw[H0 P l n r],rfl]
def aq2(hk:iV ol zs)(o:0<f/\f<=4000):∀{l m c y v F z b},qd (l++r)->F S.so (a9 S.sd)->iY x.W y.sv y.st (jL z) m->m+r.length*f<=4000->iO ((l++r).map Nd.pg) f (r.map (·.k)) z=some b->ay x (mq ol a.z) 300 (xz a.z) F (D9 x S d (l++r) a c y v l.length zs) (Q5 x S d (l++r) zs (.ok .next) b):=by
 induction r with
 |nil=>
  intro l m c y v F z b Y W g H A;cases A;rw[bQ,];have e:(E9 x S d l a c y v l.length++(Gr l++zs.map (be c.us))).Perm ([S.N (aG x.P l) d.ne,pC (a.z+5) S.nd l.length (aG x.P l).length d.ne]++((S.D x.P d.rd d.po d.tp d.nf d.tf::(Gr l++zs.map (be c.us)))++((a.z+3,fG y.sv y.sp y.st)::lY x S a c [] v))):=pm [[S.D x.P d.rd d.po d.tp d.nf d.tf],[S.N (aG x.P l) d.ne],[(a.z,bi (e_ x.P S a c.t v) 7<|c.us a.z),(a.z+1,aa #[[]] c.nx),(a.z+2,aa #[[]] c.ny)],[(a.z+3,fG y.sv y.sp y.st)],[(a.z+4,ak [] c.nm)],_,Gr l++zs.map (be c.us)] (.p (.p (.a 0)<|.p (.a 1)<|.p (.a 2)<|.p (.a 3)<|.p (.a 4)<|.a 5)<|.a 6) (.p (.p (.a 1)<|.a 5)<|.p (.p (.a 0)<|.a 6)<|.p (.a 3)<|.p (.a 2)<|.a 4) rfl
  rw[.perm e (bJ (O:=[]) ab λB K=>bp (V4 ol S.nd d.ne B K a.z l.length (aG x.P l) x) ab #[#[rfl,dK,rfl,rfl,by unfold aG;rw[aU,]],ab] (aV) #[j8 c.us (aeH (a.z+5) (aG x.P l).length l.length d.ne::((a.z+3,fG y.sv y.sp y.st)::lY x S a c [] v))<|pm [[S.N (aG x.P l) d.ne],_,[S.D x.P d.rd d.po d.tp d.nf d.tf],Gr l++zs.map (be c.us),(a.z+3,fG y.sv y.sp y.st)::lY x S a c [] v] (.p (.p (.a 0)<|.a 1)<|.p (.p (.a 2)<|.a 3)<|.a 4) (.p (.p (.p (.a 2)<|.a 0)<|.a 3)<|.p (.a 1)<|.a 4) rfl,rfl])]
 |cons n r C=>intro l m c y v F z b Y W g H A;refine bJ (O:=[(S.so,a9 S.sd)]) #[W,ab] λB K=>RB hk Y W g o (by rw[aU,];rw[H]) (bA n (dX _<|.head _) rfl) A (cx S a ol d.tp d.tf d.ne B K c.t c.nx c.ny y.sp c.nm n.tk d.po d.nf l.length d.rd v (aG x.P (l++n::r)) [] c.us [] [] y.sv y.st n.k x) ⟨Pq x.P l n r d.ne,ab⟩ (λJ G=>V8 ol a.z n.tk J G y.st n.k x) (λJ G=>V5 ol a.z n.tk J G y.st n.k x) (λD E=>V6 ol a.z D E y.st x) (λP D E=>V7 ol a.z D E P y.st x) λT h s i q t j M X I=>?_;rw[(by simp:l++n::r=(l++[n])++r)]at I Y⊢;have u:=C (c:=h) (v:=q) Y j M (by rw[aU]at X;rw[X]) I;simp only[cJ]at u;rw[u]
def aqS(hk:iV ol zs)(ac:0<f/\f<=4000)(w:1<S.nd)(Y:qd (n::r))(W:F S.so (a9 S.sd))(H:(r.length+1)*f<=4000)(A:iO ((n::r).map Nd.pg) f ((n::r).map (·.k)) []=some b):ay x #[none,some ol,false] 400 (.call (.ref 152) #[[.ref S.so],[]]) F (SN x S d (n::r)++(Gr (n::r)++zs.map (be us))) (Q5 x S d (n::r) zs (.ok<|.ret .none) b):=
 lU (O:=[(S.so,a9 S.sd)]) #[W,ab] λB K=>by
  rw[bP (Uy S ol d.tp d.tf d.ne B K d.po d.nf d.rd (aG x.P (n::r)) x) ab #[#[dK,w],ab] (.of_eq (bQ _).symm) (Qc:=Q5 x S d (n::r) zs (.ok .next) b) ?_ λbt T h l U=>?_]
  .rw[.nd λj=>?_]
   have bl:∀f∈zs,f.a≠B:=λf ac e=>by rw[bf,jV]at j;rw[j.2.2 B (.tail _<|.tail _<|.head _) _ (bw<|dX _<|bw ac) e.symm]
   obtain⟨o,a6,M⟩:∃o:N->Array (Option af),o B=⟨[]⟩/\zs.map (be us)=zs.map (be o):=bA (λy=>if y=B then#[[]]else us y) (if_pos rfl) (oN λf ac=>by show _=(f.a,bi f.es f.n<|if f.a=B then _ else _);rw[if_neg<|bl f ac,])
   obtain⟨a,X,bb⟩:∃a,TD 0 0 ((not (x.W.params.followText "set-order")))=a/\iY x.W ⟨[]⟩ a (jL []) 0:=bA _ rfl #[λ_ U=>(nomatch U),λk=>#[λU=>(kU U).elim,λL=>aJ L λ_ U _=>(nomatch U)],ζ,by cases(x.W.params.followText "set-order")<;>rfl,rfl]
   simp only[M,X];simp only[show az _ 6=bi (Ic x.P S #[B,K,K+2,K+3,K+4,K+5,K+6]) 6 (o B)from by simp only[a6];rfl];rw[ay.le (bJ (O:=[(S.so,a9 S.sd)]) #[an _ _ W,ab] λbo a8=>RB (y:=#[#[[]],0,a]) (c:=#[o,a8,0,0,0]) (i:=1) hk Y (an _ _ W) bb ac (by rw[aU,nj];rw[H]) (bA n (.head _) rfl) A (co S #[B,K,K+2,K+3,K+4,K+5,K+6] ol d.tp d.tf d.ne bo a8 0 0 0 0 n.tk d.po d.nf 0 d.rd (aG x.P (n::r)) [] o [] [] #[[]] a n.k x) #[Pq x.P [] n r d.ne,ab] (λJ G=>VZ ol B n.tk J G a n.k x) (λJ G=>VI ol B n.tk J G a n.k x) (λD E=>VJ ol B D E a x) (λP D E=>VY ol B D E P a x) λT p b0 bs q t g Z a7 z=>aq2 hk ac (l:=[n]) Y g Z (by rw[aU]at a7;rw[a7]) z) ζ λ_ _ _ _ U=>U]
  .have s:=bN l
   skip;obtain⟨⟨u,R,I⟩,U⟩:=U;cases b with
   |false=>subst U;rw[#[[],h,by simp only[bQ];rw[.refl _],_,_,[],ab,λJ G=>bp (Uz ol B J G x) ab ab s #[j8 u R I,rfl]]]
   |true=>rw[gV U λl Q C m a6 M=>?_];subst m;rw[#[[],h,by simp only[bQ];rw[.refl _],_,_,[],ab,λJ G=>bp (UA ol B J G (.ref l) x) ab ab s #[j8 u R I,l,Q,C,rfl,an _ _ a6,M]]]
end
section
abbrev hK(nd:N)(i:Int)(es:!bv)(ne:N):Obj:=#[.type "dict_valueiterator",none,.fields #[[.ref nd,.int i 0,.int (es.length:Int) 0,.int (ad ne) 0]],#[[]]]
abbrev ko(z:N):aX:=fO iB 0 (jd z)<|z+4
variable(S:Sg) (ol:!aX) (so sd nd tp tf ne sz tk z a d b U K nx t4 bt bo b0 a8 J l bs e a7 c0 c1:N) (u:N->N) (po nf D G:Int) (es:!bv) (k:!N) (xs bl:!af) (v4 bb:af) (a6:N->Array (Option af)) (x:Wd) (Y ca ch ck c2:ao)
def NY:av:=ex x #[none,some ol,false] 450 (.fn 117 #[[.ref S.so],[]])<|cf [(S.D x.P .none po tp nf tf),S.N es ne] sz tk (H 0x57446616654290a90c201c2033) [] [(S.so,a9 S.sd)] Y
def KM(x:Wd)(ol:!aX)(sz:N):Ko:=(NY #[0,0,0,λn=>n] ol 0 0 0 sz 0 0 0 [] x []).resume
def an7:∀(x:Wd) Y,Ev (NY S ol tp tf ne sz tk po nf es x Y) Y [0,1,2,3,4,5,6] (.pend 447 #[none,some (jd sz::ol),false] (i_ iB 0 (.ref<|sz+2) (.ref<|sz+3)<|fO iB 0 (jd sz)<|sz+4)<|KM x ol sz) [(S.D x.P .none po tp nf tf),S.N es ne,(sz,az [V x.P bx tk<|.ref S.so] 1),((sz+1),#[.type "dict_values",none,.fields #[[.ref S.nd]],#[[]]]),((sz+2),hK S.nd 0 es ne),((sz+3),aa #[[]] 0),((sz+4),ak [] 0)] [] [] [qB (aI "dict") S.nd]:=bB
def au:∀(x:Wd) Y,Ev (ex x #[none,some (jd z::ol),false] 440 (.code<|i_ iB 0 (.ref<|z+2) (.ref<|z+3)<|ko z)<|cf [(z+2,hK nd 0 es ne)] sz tk (bif x.b2 then[]else(H 0xb50)) [] [] Y) Y [0] (.next<|fQ iB 0 (.ref<|z+2) (.ref<|z+3)<|ko z) [((z+2),hK nd 0 es ne)] [] [] []:=bB
def aoC:Ev (ex x #[none,some (jd z::ol),false] 440 (.code<|fQ iB 0 (.ref<|z+2) (.ref<|z+3)<|ko z)<|cf [(nd,ak es ne),(a,c8 d b G U<|ah k K),(z+2,hK nd D es ne),(z+3,aa #[xs] nx),(z+4,ak [] 0)] sz tk (H 0x5b10) [.ref a] [] Y) Y [0,1,2,3,4] (.next<|fQ iB 0 (.ref<|z+2) (.ref<|z+3)<|ko z) [(nd,ak es ne),(a,c8 d b (G) U<|ah k K),((z+2),hK nd (D+1) es ne),((z+3),aa #[xs] nx),((z+4),ak [V x.P kN tk<|.ref a] 1)] [] [((G==0),false)] [gS false (aI "dict_valueiterator") (aI "dict") es ne D ((es.length:Int)) (ad ne)<|aF a]:=by kernel_rfl
def aoE:Ev (ex x #[none,some (jd z::ol),false] 440 (.code<|fQ iB 0 (.ref<|z+2) (.ref<|z+3)<|ko z)<|cf [(nd,ak es ne),(a,c8 d b G U<|ah k K),(z+2,hK nd D es ne),(z+3,aa #[xs] nx),(z+4,ak [V x.P kN t4 v4] 1)] sz tk (H 0x5b10) [.ref a] [] Y) Y [0,1,2,3,4] (.next<|fQ iB 0 (.ref<|z+2) (.ref<|z+3)<|ko z) [(nd,ak es ne),(a,c8 d b (G) U<|ah k K),((z+2),hK nd (D+1) es ne),((z+3),aa #[xs] nx),((z+4),ak [V x.P kN t4<|.ref a] 1)] [] [((G==0),false)] [gS false (aI "dict_valueiterator") (aI "dict") es ne D ((es.length:Int)) (ad ne)<|aF a]:=by kernel_rfl
def aoD:Ev (ex x #[none,some (jd z::ol),false] 440 (.code<|fQ iB 0 (.ref<|z+2) (.ref<|z+3)<|ko z)<|cf [(nd,ak es ne),(a,c8 d b G U<|ah k K),(z+2,hK nd D es ne),(z+3,aa #[xs] nx),(z+4,ak [] 0)] sz tk (H 0x368e204b10) [.ref a] [] Y) Y [0,1,2,3,4] (.next<|fQ iB 0 (.ref<|z+2) (.ref<|z+3)<|ko z) [(nd,ak es ne),(a,c8 d b (G) U<|ah k K),((z+2),hK nd (D+1) es ne),((z+3),aa ((ar xs).push<|ah k K)<|nx+1),((z+4),ak [V x.P kN tk<|.ref a] 1)] [] [((G==0),true)] [cm #[xs],gS false (aI "dict_valueiterator") (aI "dict") es ne D ((es.length:Int)) (ad ne)<|aF a]:=by kernel_rfl
def aoF:Ev (ex x #[none,some (jd z::ol),false] 440 (.code<|fQ iB 0 (.ref<|z+2) (.ref<|z+3)<|ko z)<|cf [(nd,ak es ne),(a,c8 d b G U<|ah k K),(z+2,hK nd D es ne),(z+3,aa #[xs] nx),(z+4,ak [V x.P kN t4 v4] 1)] sz tk (H 0x368e204b10) [.ref a] [] Y) Y [0,1,2,3,4] (.next<|fQ iB 0 (.ref<|z+2) (.ref<|z+3)<|ko z) [(nd,ak es ne),(a,c8 d b (G) U<|ah k K),((z+2),hK nd (D+1) es ne),((z+3),aa ((ar xs).push<|ah k K)<|nx+1),((z+4),ak [V x.P kN t4<|.ref a] 1)] [] [((G==0),true)] [cm #[xs],gS false (aI "dict_valueiterator") (aI "dict") es ne D ((es.length:Int)) (ad ne)<|aF a]:=by kernel_rfl
def pe:Ev (ex x #[none,some (jd z::ol),false] 440 (.code<|fQ iB 0 (.ref<|z+2) (.ref<|z+3)<|ko z)<|cf [(nd,ak es ne),(z+2,hK nd D es ne)] sz tk (H 0x641542604) [] [] Y) Y [0] (.res<|.ok .next) [(nd,ak es ne)] [] [] [qC false (aI "dict_valueiterator") (aI "dict") es ne D ((es.length:Int))<|ad ne]:=by kernel_rfl
def NZ:av:=KM x ol sz (.ok .next)<|cf [(S.D x.P .none po tp nf tf),(sz,az [V x.P bx tk<|.ref S.so] 1),(sz+3,aa #[xs] nx),(sz+4,ak [V x.P kN bt v4] 1)] bo b0 (H 0x515ee04555fd04666) [] [(S.so,a9 S.sd)] ca
def CN(x:Wd)(ol:!aX)(sz:N):Ko:=(NZ #[0,0,0,λn=>n] ol 0 0 sz 0 0 0 0 0 0 0 [] .none x []).resume
def yp:∀(x:Wd) c,Ev (NZ S ol tp tf sz tk nx bt bo b0 po nf xs v4 x c) c [0,1,2,3] (.pend 447 #[none,some (jd sz::ol),false] (.call (.ref 152) #[[.ref S.so],[]])<|CN x ol sz) [(S.D x.P (.ref<|sz+3) po tp nf tf),(sz,az [V x.P bx tk<|.ref S.so] 1),((sz+3),aa #[xs] nx),((sz+4),ak [] 2)] [] [] []:=bB
def pn:∀(x:Wd) f,Ev (CN x ol sz (.ok<|.ret .none)<|cf [(sz,bi [V x.P bx tk<|.ref so] 1<|a6 sz)] a8 J (H 0x1555) [] [] f) f [] (.res<|.ok<|.ret .none) [] [] [] []:=bB
def N0:av:=CN x ol sz (.ok<|.ret<|.ref l)<|cf [(sz,bi [V x.P bx tk<|.ref so] 1<|a6 sz)] a8 J (H 0x5111fe05118000f022555) [] [(l,aa #[bb::bl] bs)] ch
def KN(x:Wd)(ol:!aX)(sz:N)(l:N)(E:N):Ko:=(N0 ol 0 sz 0 0 E l 0 [] .none (λ_=>#[[]]) x []).resume
def pr:∀(x:Wd) f,Ev (N0 ol so sz tk a8 J l bs bl bb a6 x f) f [0] (.pend 443 aj (.call (.builtin "ValueError.__new__") #[[.ref 80,ah [110,111,100,101,115,32,97,114,101,32,105,110,32,97,32,99,121,99,108,101]<|J+3,.ref l],[]])<|KN x ol sz l J) [(sz,bi [V x.P bx tk<|.ref so,V x.P yO J<|.ref l] 2<|a6 sz)] [] [] [f_ (aI "list")<|ar (bb::bl)]:=bB
def N1:av:=KN x ol sz l J (.ok<|.ret<|.ref e)<|cf [(sz,bi [V x.P bx tk<|.ref so,V x.P yO J<|.ref l] 2<|a6 sz),(e,#[.ref 80,none,.fields #[[.ref U,.none,.none,.none,.bool false,.none]],#[[]]])] a7 t4 (H 0x414414a901414c10414) [] [] ck
def KO(x:Wd)(e:N):Ko:=(N1 [] 0 0 0 0 0 0 0 e 0 (λ_=>#[[]]) x []).resume
def prx:∀(x:Wd) i,Ev (N1 ol so sz tk U t4 J l e a7 a6 x i) i [0,1,2] (.gx 447 #[none,some (jd sz::ol),false] (rj (jd sz)<|.ref e)<|KO x e) [(sz,bi [V x.P bx tk<|.ref so,V x.P yO J<|.ref l] 2<|a6 sz),(e,#[.ref 80,none,.fields #[[.ref a7,.none,.none,.none,.bool false,.none]],#[[]]]),(a7,aD [ah [110,111,100,101,115,32,97,114,101,32,105,110,32,97,32,99,121,99,108,101]<|J+3,.ref l])] [] [] []:=bB
def pry:∀(x:Wd) g,Ev (KO x e (.ok<|.ret .none)<|cf [] c0 c1 [] [] [] g) g [] (.res<|.error<|.ref e) [] [] [] []:=bB
end
section
variable(S:Sg) (so sd nd tp tf r nx sz tk q c0 K z it f0 f1 f2 ne G a d b a6 U f3 ds dt m d0 dV t4 nb f4 f5 f6 c2 li c1 bl bo bs bt b0 ca c3 da:N) (u:N->N) (po nf D a7:Int) (xs vs ws:!af) (es:!bv) (k J:!N) (v0 a8 bb v3 v4 ch ck w2 db dd:af) (x:Wd) (Y du dx d1:ao)
def N8:av:=ex x aj 350 (.fn 124 #[[.ref S.so],[]])<|cf [(S.D x.P (.ref r) po tp nf tf),(r,aa #[xs] nx)] sz tk (H 0x5c20111c2033) [] [(S.so,a9 S.sd)] Y
def KS(x:Wd)(r:N)(sz:N):Ko:=(N8 #[0,0,0,λn=>n] 0 0 r 0 sz 0 0 0 [] x []).resume
def r0:Ev (N8 S tp tf r nx sz tk po nf xs x Y) Y [0,1,2] (.pend 345 aj (.call (.builtin "tuple.__new__") #[[.type "tuple",.ref r],[]])<|KS x r sz) [(S.D x.P (.ref r) po tp nf tf),(r,aa #[xs] nx),(sz,az [V x.P bx tk<|.ref S.so] 1)] [] [] []:=by kernel_rfl
def N9:av:=KS x r sz (.ok<|.ret<|.ref q)<|cf [(S.D x.P (.ref r) po tp nf tf),(r,aa #[xs] nx),(sz,az [V x.P bx tk<|.ref S.so] 1),(q,aD xs)] c0 K (H 0x576166333c203366166) [] [(S.so,a9 S.sd)] du
def KU(x:Wd)(sz:N):Ko:=(N9 #[0,0,0,λn=>n] 0 0 0 0 sz 0 0 0 0 0 0 [] x []).resume
def ao2:∀(x:Wd) c,Ev (N9 S tp tf r nx sz tk q c0 K po nf xs x c) c [0,1,2,4,3] (.pend 347 aj (bL nO 4 (.ref c0)<|pd sz)<|KU x sz) [(S.D x.P (.ref r) po tp nf tf),(r,aa #[xs] nx),(sz,az [V x.P bx tk<|.ref S.so,V x.P mL K<|.ref q,V x.P cu (K+2)<|.ref S.nd] 3),(c0,fu q 0)] [(q,aD xs)] [] []:=cS
def rz0:Ev (ex x aj 340 (.code<|bL nO 4 (.ref it)<|pd z)<|cf [(z,az [V x.P bx f0<|.ref so,V x.P mL f1<|.ref q,V x.P cu f2<|.ref nd] 3),(nd,ak es ne),(a,c8 d b a7 a6<|ah J U),(it,fu q D)] sz tk (H 0xc709b0b508003646) [ah k G,.ref a] [(q,aD vs)] Y) Y [0,1,2,3] (.next<|bL nO 4 (.ref it)<|pd z) [(z,az [V x.P bx f0<|.ref so,V x.P mL f1<|.ref q,V x.P cu f2<|.ref nd,V x.P bW tk<|ah k G] 4),(nd,ak es ne),(a,c8 d b (-1) 301<|ah J U),(it,fu q<|D+1)] [] [] [cR (aI "dict") es #[#[k]]<|aF a,df #[vs] D<|ah k G]:=by kernel_rfl
def rz1:Ev (ex x aj 340 (.code<|bL nO 4 (.ref it)<|pd z)<|cf [(z,az [V x.P bx f0<|.ref so,V x.P mL f1<|.ref q,V x.P cu f2<|.ref nd,V x.P bW f3 v0] 4),(nd,ak es ne),(a,c8 d b a7 a6<|ah J U),(it,fu q D)] sz tk (H 0xc709b0b508003646) [ah k G,.ref a] [(q,aD vs)] Y) Y [0,1,2,3] (.next<|bL nO 4 (.ref it)<|pd z) [(z,az [V x.P bx f0<|.ref so,V x.P mL f1<|.ref q,V x.P cu f2<|.ref nd,V x.P bW f3<|ah k G] 4),(nd,ak es ne),(a,c8 d b (-1) 301<|ah J U),(it,fu q<|D+1)] [] [] [cR (aI "dict") es #[#[k]]<|aF a,df #[vs] D<|ah k G]:=by kernel_rfl
def rte:Ev (ex x aj 340 (.code<|bL nO 4 (.ref it)<|pd z)<|cf [(it,fu q D)] sz tk (H 0xa70) [] [(q,aD vs)] Y) Y [] (.res<|.ok .next) [] [] [] [h_ #[vs] D]:=by kernel_rfl
def M7(x:Wd)(so sd nd:N)(u:N->N)(g tp tf r:N)(W:af)(xs:!af)(nx:N)(sz tk:N)(Y:ao):av:=ex x aj 350 (.fn 131 #[[.ref so],[]])<|cf [(sd,jq x.P u nd (.ref r) (ad g) tp (ad g) tf),(r,aa #[W::xs] nx)] sz tk (H 0xa20) [] [(so,a9 sd)] Y
def TL(x so sd nd u g tp tf r W xs nx sz tk Y)(hi:g<10):Ev (M7 x so sd nd u g tp tf r W xs nx sz tk Y) Y [0,1] (.res<|.ok<|.ret<|.bool true) [(sd,jq x.P u nd (.ref r) (ad g) tp (ad g) tf),(r,(aa (ar (W::xs)) nx))] [] [] [(f_ (aI "list")<|ar (W::xs))]:=sU (λx=>M7 x so sd nd u g tp tf r W xs nx sz tk Y) (by revert g;rw[yX<|by kernel_rfl])
def M9(x:Wd)(so sd nd:N)(u:N->N)(g tp tf r:N)(nx:N)(sz tk:N)(Y:ao):av:=ex x aj 350 (.fn 131 #[[.ref so],[]])<|cf [(sd,jq x.P u nd (.ref r) (ad g) tp (ad g) tf),(r,aa #[[]] nx)] sz tk (H 0xa20) [] [(so,a9 sd)] Y
def TP(x so sd nd u g tp tf r nx sz tk Y)(hi:g<10):Ev (M9 x so sd nd u g tp tf r nx sz tk Y) Y [0,1] (.res<|.ok<|.ret<|.bool false) [(sd,jq x.P u nd (.ref r) (ad g) tp (ad g) tf),(r,(aa #[[]] nx))] [] [] [(f_ (aI "list")<|ar [])]:=sU (λx=>M9 x so sd nd u g tp tf r nx sz tk Y) (by revert g;rw[yX<|by kernel_rfl])
def Dw(x:Wd)(so sd nd:N)(u:N->N)(po nf:Int)(tp tf r:N)(vs:!af)(sz tk:N)(Y:ao):av:=ex x aj 350 (.fn 145 #[(.ref so::vs),[]])<|cf [(sd,jq x.P u nd (.ref r) po tp nf tf)] sz tk (H 0x564144333c201c203333) [] [(so,a9 sd)] Y
def CD(x:Wd)(vs:!af)(sz:N):aL->aR->av:=(Dw x 0 0 0 (λn=>n) 0 0 0 0 0 vs sz 0 []).resume
def V9(x so sd nd u po nf tp tf r vs sz tk Y)(hv:vs.length<10):Ev (Dw x so sd nd u po nf tp tf r vs sz tk Y) Y [0,2,3,1] (.pend 347 aj (bL fw 3 (.ref<|sz+2)<|fT<|sz+1)<|CD x vs sz) [(sd,jq x.P u nd (.ref r) po tp nf tf),((sz+1),az [V x.P bx tk<|.ref so,V x.P eV (tk+1)<|.ref sz,V x.P cu (tk+4)<|.ref nd] 3),((sz+2),#[(.type "tuple_iterator"),none,.fields #[[(.ref sz),(.int (0) 0)]],#[[]]])] [(sz,(aD vs))] [] []:=Bv (λx=>Dw x so sd nd u po nf tp tf r vs sz tk Y) (λx=>CD x vs sz) (by revert vs;rw[we<|by kernel_rfl])
def N_:av:=KU x sz (.ok .next)<|cf [(S.D x.P (.ref r) po tp nf tf),(r,aa #[xs] nx),(sz,az [V x.P bx tk<|.ref S.so,V x.P mL K<|.ref q,V x.P cu (K+2)<|.ref S.nd,V x.P bW f3 v0] 4)] ds dt (H 0x5311c20454190a90c20) [] [(S.so,a9 S.sd),(q,aD xs)] dx
def KV(x:Wd)(so:N)(po:Int)(tp:N)(sz:N):Ko:=(N_ #[so,0,0,λn=>n] tp 0 0 0 sz 0 0 0 0 0 0 po 0 [] .none x []).resume
def yB:∀(x:Wd) f,Ev (N_ S tp tf r nx sz tk q K f3 ds dt po nf xs v0 x f) f [0,1,2] (.pend 347 aj (.call (.builtin "len") #[[.ref q],[]])<|KV x S.so po tp sz) [(S.D x.P (.ref r) po tp nf tf),(r,aa #[[]]<|iD xs.length 0 nx),(sz,az [V x.P bx tk<|.ref S.so,V x.P mL K<|.ref q,V x.P cu (K+2)<|.ref S.nd,V x.P bW f3<|v0] 4)] [] [] [cm #[xs]]:=cS
def ao3:∀(x:Wd) i,Ev (KV x S.so po tp sz (.ok<|.ret<|iN m d0)<|cf [(S.D x.P (.ref r) po tp nf tf),(r,aa #[[]]<|iD (List.brecOn.go (ar xs).toList gR._f).1 0 nx),(sz,az [V x.P bx tk<|.ref S.so,V x.P mL K<|.ref q,V x.P cu (K+2)<|.ref S.nd,V x.P bW f3<|v0] 4)] dV t4 (H 0x3555fd01) [] [(S.so,a9 S.sd),(q,aD xs)] i) i [0,1] (.res<|.ok<|.ret<|.ref q) [(S.D x.P (.ref r) (po+ad m) t4 nf tf),(r,aa #[[]]<|iD xs.length 0 nx)] [] [] []:=cS
def NG:av:=ex x aj 340 (.code<|bL fw 3 (.ref it)<|fT z)<|cf [(z,az [V x.P bx f0<|.ref so,V x.P eV f1<|.ref q,V x.P cu f2<|.ref nd] 3),(nd,ak es ne),(a,c8 d b (-1) a6<|ah J U),(it,fu q D),(b,aa #[ws] nb)] sz tk (H 0xdd0) [ah k G,.ref a] [(q,aD vs)] Y
def CH(x:Wd)(z:N)(it:N):Ko:=(NG 0 0 0 0 0 z it 0 0 0 0 0 0 0 0 0 0 0 0 [] [] [] [] [] x []).resume
def dA:∀(x:Wd) Y,Ev (NG so nd sz tk q z it f0 f1 f2 ne G a d b a6 U nb D vs ws es k J x Y) Y [0,1,2,3,4,5] (.pend 339 aj (bL fw 14 (.ref sz)<|fT z)<|CH x z it) [(z,az [V x.P bx f0<|.ref so,V x.P eV f1<|.ref q,V x.P cu f2<|.ref nd,V x.P bW tk<|ah k G,V x.P eE (tk+2)<|.ref a,V x.P fF (tk+4)<|.int (-1) a6] 6),(nd,ak es ne),(a,c8 d b (-2) 304<|ah J U),(it,fu q<|D+1),(b,aa #[ws] nb),(sz,c7 b 0)] [] [] [cR (aI "dict") es #[#[k]]<|aF a,df #[vs] D<|ah k G]:=cS
def NH:av:=ex x aj 340 (.code<|bL fw 3 (.ref it)<|fT z)<|cf [(z,az [V x.P bx f0<|.ref so,V x.P eV f1<|.ref q,V x.P cu f2<|.ref nd,V x.P bW f3 v0,V x.P eE f4 a8,V x.P fF f5 bb] 6),(nd,ak es ne),(a,c8 d b (-1) a6<|ah J U),(it,fu q D),(b,aa #[ws] nb)] sz tk (H 0xdd0) [ah k G,.ref a] [(q,aD vs)] Y
def CJ(x:Wd)(z:N)(it:N):Ko:=(NH 0 0 0 0 0 z it 0 0 0 0 0 0 0 0 0 0 0 0 0 0 0 [] [] [] [] [] .none .none .none x []).resume
def dB:∀(x:Wd) Y,Ev (NH so nd sz tk q z it f0 f1 f2 ne G a d b a6 U f3 nb f4 f5 D vs ws es k J v0 a8 bb x Y) Y [0,1,2,3,4,5] (.pend 339 aj (bL fw 14 (.ref sz)<|fT z)<|CJ x z it) [(z,az [V x.P bx f0<|.ref so,V x.P eV f1<|.ref q,V x.P cu f2<|.ref nd,V x.P bW f3<|ah k G,V x.P eE f4<|.ref a,V x.P fF f5<|.int (-1) a6] 6),(nd,ak es ne),(a,c8 d b (-2) 304<|ah J U),(it,fu q<|D+1),(b,aa #[ws] nb),(sz,c7 b 0)] [] [] [cR (aI "dict") es #[#[k]]<|aF a,df #[vs] D<|ah k G]:=cS
def NI:av:=ex x aj 340 (.code<|bL fw 3 (.ref it)<|fT z)<|cf [(z,az [V x.P bx f0<|.ref so,V x.P eV f1<|.ref q,V x.P cu f2<|.ref nd,V x.P bW f3 v0,V x.P eE f4 a8,V x.P fF f5 bb,V x.P jo f6 v3,V x.P jp c2 v4] 8),(nd,ak es ne),(a,c8 d b (-1) a6<|ah J U),(it,fu q D),(b,aa #[ws] nb)] sz tk (H 0xdd0) [ah k G,.ref a] [(q,aD vs)] Y
def Kx(x:Wd)(z:N)(it:N):Ko:=(NI 0 0 0 0 0 z it 0 0 0 0 0 0 0 0 0 0 0 0 0 0 0 0 0 [] [] [] [] [] .none .none .none .none .none x []).resume
def dC:∀(x:Wd) Y,Ev (NI so nd sz tk q z it f0 f1 f2 ne G a d b a6 U f3 nb f4 f5 f6 c2 D vs ws es k J v0 a8 bb v3 v4 x Y) Y [0,1,2,3,4,5] (.pend 339 aj (bL fw 14 (.ref sz)<|fT z)<|Kx x z it) [(z,az [V x.P bx f0<|.ref so,V x.P eV f1<|.ref q,V x.P cu f2<|.ref nd,V x.P bW f3<|ah k G,V x.P eE f4<|.ref a,V x.P fF f5<|.int (-1) a6,V x.P jo f6<|v3,V x.P jp c2<|v4] 8),(nd,ak es ne),(a,c8 d b (-2) 304<|ah J U),(it,fu q<|D+1),(b,aa #[ws] nb),(sz,c7 b 0)] [] [] [cR (aI "dict") es #[#[k]]<|aF a,df #[vs] D<|ah k G]:=cS
def de:Ev (ex x aj 340 (.code<|bL fw 3 (.ref it)<|fT z)<|cf [(it,fu q D)] sz tk (H 0xa70) [] [(q,aD vs)] Y) Y [] (.res<|.ok .next) [] [] [] [h_ #[vs] D]:=by kernel_rfl
def NJ(x:Wd)(vs:!af)(sz:N)(J G:N)(c:ao):av:=CD x vs sz (.ok .next)<|cf [] J G [] [] [] c
def dr(x vs sz)(hv:vs.length<10)(J G c):Ev (NJ x vs sz J G c) c [] (.res<|.ok<|.ret .none) [] [] [] []:=sU (λx=>NJ x vs sz J G c) (by revert vs;rw[we<|by kernel_rfl])
def Z8:Ev (ex x aj 330 (.code<|bL fw 14 (.ref li)<|fT z)<|cf [(z,az [V x.P bx f0<|.ref so,V x.P eV f1<|.ref q,V x.P cu f2<|.ref nd,V x.P bW f3 v0,V x.P eE f4 a8,V x.P fF f5 bb] 6),(nd,ak es ne),(a,c8 d c1 a7 a6<|ah J U),(li,c7 b D),(b,aa #[ws] nb)] sz tk (H 0x5da0) [ah k G,.ref a] [] Y) Y [0,1,2,3,4] (.next<|bL fw 14 (.ref li)<|fT z) [(z,az [V x.P bx f0<|.ref so,V x.P eV f1<|.ref q,V x.P cu f2<|.ref nd,V x.P bW f3<|v0,V x.P eE f4<|a8,V x.P fF f5<|bb,V x.P jo tk<|ah k G,V x.P jp (tk+2)<|.ref a] 8),(nd,ak es ne),(a,c8 d c1 (a7-1) (tk+5)<|ah J U),(li,c7 b<|D+1),(b,aa #[ws] nb)] [] [((a7-1==0),false)] [cR (aI "dict") es #[#[k]]<|aF a,df #[ws] D<|ah k G]:=by kernel_rfl
def Z9:Ev (ex x aj 330 (.code<|bL fw 14 (.ref li)<|fT z)<|cf [(z,az [V x.P bx f0<|.ref S.so,V x.P eV f1<|.ref q,V x.P cu f2<|.ref S.nd,V x.P bW f3 v0,V x.P eE f4 a8,V x.P fF f5 bb] 6),S.N es ne,(a,c8 d c1 a7 a6<|ah J U),(li,c7 b D),(b,aa #[ws] nb),(S.D x.P (.ref r) po tp nf tf),(r,aa #[xs] nx)] sz tk (H 0x898599998fc054da0) [ah k G,.ref a] [(S.so,a9 S.sd)] Y) Y [0,1,2,3,4,5,6] (.next<|bL fw 14 (.ref li)<|fT z) [(z,az [V x.P bx f0<|.ref S.so,V x.P eV f1<|.ref q,V x.P cu f2<|.ref S.nd,V x.P bW f3<|v0,V x.P eE f4<|a8,V x.P fF f5<|bb,V x.P jo tk<|ah k G,V x.P jp (tk+2)<|.ref a] 8),S.N es ne,(a,c8 d c1 (a7-1) (tk+5)<|ah J U),(li,c7 b<|D+1),(b,aa #[ws] nb),(S.D x.P (.ref r) po tp nf tf),(r,aa ((ar xs).push<|ah k G)<|nx+1)] [] [((a7-1==0),true)] [cm #[xs],cR (aI "dict") es #[#[k]]<|aF a,df #[ws] D<|ah k G]:=by kernel_rfl
def iC0:Ev (ex x aj 330 (.code<|bL fw 14 (.ref li)<|fT z)<|cf [(z,az [V x.P bx f0<|.ref so,V x.P eV f1<|.ref q,V x.P cu f2<|.ref nd,V x.P bW f3 v0,V x.P eE f4 a8,V x.P fF f5 bb,V x.P jo f6 v3,V x.P jp c2 v4] 8),(nd,ak es ne),(a,c8 d c1 a7 a6<|ah J U),(li,c7 b D),(b,aa #[ws] nb)] sz tk (H 0x5da0) [ah k G,.ref a] [] Y) Y [0,1,2,3,4] (.next<|bL fw 14 (.ref li)<|fT z) [(z,az [V x.P bx f0<|.ref so,V x.P eV f1<|.ref q,V x.P cu f2<|.ref nd,V x.P bW f3<|v0,V x.P eE f4<|a8,V x.P fF f5<|bb,V x.P jo f6<|ah k G,V x.P jp c2<|.ref a] 8),(nd,ak es ne),(a,c8 d c1 (a7-1) (tk+5)<|ah J U),(li,c7 b<|D+1),(b,aa #[ws] nb)] [] [((a7-1==0),false)] [cR (aI "dict") es #[#[k]]<|aF a,df #[ws] D<|ah k G]:=by kernel_rfl
def iC1:Ev (ex x aj 330 (.code<|bL fw 14 (.ref li)<|fT z)<|cf [(z,az [V x.P bx f0<|.ref S.so,V x.P eV f1<|.ref q,V x.P cu f2<|.ref S.nd,V x.P bW f3 v0,V x.P eE f4 a8,V x.P fF f5 bb,V x.P jo f6 v3,V x.P jp c2 v4] 8),S.N es ne,(a,c8 d c1 a7 a6<|ah J U),(li,c7 b D),(b,aa #[ws] nb),(S.D x.P (.ref r) po tp nf tf),(r,aa #[xs] nx)] sz tk (H 0x898599998fc054da0) [ah k G,.ref a] [(S.so,a9 S.sd)] Y) Y [0,1,2,3,4,5,6] (.next<|bL fw 14 (.ref li)<|fT z) [(z,az [V x.P bx f0<|.ref S.so,V x.P eV f1<|.ref q,V x.P cu f2<|.ref S.nd,V x.P bW f3<|v0,V x.P eE f4<|a8,V x.P fF f5<|bb,V x.P jo f6<|ah k G,V x.P jp c2<|.ref a] 8),S.N es ne,(a,c8 d c1 (a7-1) (tk+5)<|ah J U),(li,c7 b<|D+1),(b,aa #[ws] nb),(S.D x.P (.ref r) po tp nf tf),(r,aa ((ar xs).push<|ah k G)<|nx+1)] [] [((a7-1==0),true)] [cm #[xs],cR (aI "dict") es #[#[k]]<|aF a,df #[ws] D<|ah k G]:=by kernel_rfl
def ie:Ev (ex x aj 330 (.code<|bL fw 14 (.ref li)<|fT z)<|cf [(li,c7 b D),(b,aa #[ws] nb)] sz tk (H 0x651535) [] [] Y) Y [1] (.res<|.ok .next) [(b,aa #[ws] nb)] [] [] [h_ #[ws] D]:=by kernel_rfl
def W_:∀(x:Wd) c,Ev (CH x z it (.ok .next)<|cf [(z,az [V x.P bx bl<|.ref S.so,V x.P eV bo<|.ref q,V x.P cu bs<|.ref S.nd,V x.P bW bt ch,V x.P eE b0 ck,V x.P fF ca w2] 6),(S.D x.P (.ref r) po tp nf tf)] c0 K (H 0xb80) [] [(S.so,a9 S.sd)] c) c [0,1] (.next<|bL fw 3 (.ref it)<|fT z) [(z,az [V x.P bx bl<|.ref S.so,V x.P eV bo<|.ref q,V x.P cu bs<|.ref S.nd,V x.P bW bt<|ch,V x.P eE b0<|ck,V x.P fF ca<|w2] 6),(S.D x.P (.ref r) po tp (nf+1)<|K+2)] [] [] []:=cS
def Xa:∀(x:Wd) c,Ev (CH x z it (.ok .next)<|cf [(z,az [V x.P bx bl<|.ref S.so,V x.P eV bo<|.ref q,V x.P cu bs<|.ref S.nd,V x.P bW bt ch,V x.P eE b0 ck,V x.P fF ca w2,V x.P jo c3 db,V x.P jp da dd] 8),(S.D x.P (.ref r) po tp nf tf)] c0 K (H 0xb80) [] [(S.so,a9 S.sd)] c) c [0,1] (.next<|bL fw 3 (.ref it)<|fT z) [(z,az [V x.P bx bl<|.ref S.so,V x.P eV bo<|.ref q,V x.P cu bs<|.ref S.nd,V x.P bW bt<|ch,V x.P eE b0<|ck,V x.P fF ca<|w2,V x.P jo c3<|db,V x.P jp da<|dd] 8),(S.D x.P (.ref r) po tp (nf+1)<|K+2)] [] [] []:=cS
def Xb:∀(x:Wd) c,Ev (CJ x z it (.ok .next)<|cf [(z,az [V x.P bx bl<|.ref S.so,V x.P eV bo<|.ref q,V x.P cu bs<|.ref S.nd,V x.P bW bt ch,V x.P eE b0 ck,V x.P fF ca w2] 6),(S.D x.P (.ref r) po tp nf tf)] c0 K (H 0xb80) [] [(S.so,a9 S.sd)] c) c [0,1] (.next<|bL fw 3 (.ref it)<|fT z) [(z,az [V x.P bx bl<|.ref S.so,V x.P eV bo<|.ref q,V x.P cu bs<|.ref S.nd,V x.P bW bt<|ch,V x.P eE b0<|ck,V x.P fF ca<|w2] 6),(S.D x.P (.ref r) po tp (nf+1)<|K+2)] [] [] []:=cS
def Xc:∀(x:Wd) c,Ev (CJ x z it (.ok .next)<|cf [(z,az [V x.P bx bl<|.ref S.so,V x.P eV bo<|.ref q,V x.P cu bs<|.ref S.nd,V x.P bW bt ch,V x.P eE b0 ck,V x.P fF ca w2,V x.P jo c3 db,V x.P jp da dd] 8),(S.D x.P (.ref r) po tp nf tf)] c0 K (H 0xb80) [] [(S.so,a9 S.sd)] c) c [0,1] (.next<|bL fw 3 (.ref it)<|fT z) [(z,az [V x.P bx bl<|.ref S.so,V x.P eV bo<|.ref q,V x.P cu bs<|.ref S.nd,V x.P bW bt<|ch,V x.P eE b0<|ck,V x.P fF ca<|w2,V x.P jo c3<|db,V x.P jp da<|dd] 8),(S.D x.P (.ref r) po tp (nf+1)<|K+2)] [] [] []:=cS
def Xd:∀(x:Wd) c,Ev (Kx x z it (.ok .next)<|cf [(z,az [V x.P bx bl<|.ref S.so,V x.P eV bo<|.ref q,V x.P cu bs<|.ref S.nd,V x.P bW bt ch,V x.P eE b0 ck,V x.P fF ca w2,V x.P jo c3 db,V x.P jp da dd] 8),(S.D x.P (.ref r) po tp nf tf)] c0 K (H 0xb80) [] [(S.so,a9 S.sd)] c) c [0,1] (.next<|bL fw 3 (.ref it)<|fT z) [(z,az [V x.P bx bl<|.ref S.so,V x.P eV bo<|.ref q,V x.P cu bs<|.ref S.nd,V x.P bW bt<|ch,V x.P eE b0<|ck,V x.P fF ca<|w2,V x.P jo c3<|db,V x.P jp da<|dd] 8),(S.D x.P (.ref r) po tp (nf+1)<|K+2)] [] [] []:=cS
end
section
variable{x:Wd} {w:eI} {F:Fs} {L X:ao} {A:dW} {D s:aN} {R:aL->Fs->ao->Prop} {r q nx:N} {xs:!af}
def Yc{id:String}{R:aL->aN->Prop}(u:plainId id=true)(y:Bt table id=some b)(d:checkBuiltinCall id args=pure ())(g:Meets (b args) S)(h:S A R s):fh (aE pw w) A (.call (.builtin id) args) R s:=u5<|U_ u y<|zd d<|g _ _ _ _ _ h
def bg.new(T:bg x F L D s){h':ix}{o:Obj}(hk:∀b o',s.heap.get? b=some o'->h'.get? b=some o')(m:o.isFreed=false):bg x F ((h'.objs.size,o)::L) D {s with heap:=h'.push o}:=by
 have w:=λb o' U=>lZ<|iI<|hk b o' U;rw[T.move (λa o' K U=>kW _<|hk a o' U) (λp I=>?_) ?_ λp I=>?_]
 .rcases aY.mp I with rfl|I
  .rw[rU _ m]
  .rw[kW _<|hk _ _<|T.rep.led p I]
 .rw[bV,c_]
  rw[⟨λH=>(aJ (bn.mp H) λp I e=>w _ _ (T.rep.led p I) e),T.rep.nd⟩]
 .rcases aY.mp I with rfl|I
  .rw[.inr ?_]
   cases e:s.heap.get? h'.objs.size with
   |none=>rfl
   |some o'=>rw[absurd rfl<|w _ _ e]
  .rw[.inl<|bw I]
def Yi(T:bg x F ((r,aa #[xs] nx)::X) D s)(hz:xs.length<=9000)(f:∀q,R (.ok<|.ret<|.ref q) F [(q,aD xs),(r,aa ⟨xs⟩ nx)]):fh (aE pw x.W) A (.call (.builtin "tuple.__new__") ⟨[.type "tuple",.ref r],[]⟩) (λr P=>∃F' L',Le F F'/\bg x F' (L'++X) D P/\R r F' L') s:=Yc (by decide+kernel) PySem.F.entry_tuple_new (PySem.F.newCall_tuple_1 _) (meets_tuple_new_list r _ #[xs] nx rfl rfl<|rq hz) #[T.rep.led _<|.head _,λz c=>bX F _ aV (T.new c rfl)<|f _]
def Yh(T:bg x F X D s)(W:F t (aD xs))(hz:xs.length<=9000)(f:∀b,R (.ok<|.ret<|.int (ad xs.length) b) F []):fh (aE pw x.W) A (.call (.builtin "len") ⟨[.ref t],[]⟩) (λr P=>∃F' L',Le F F'/\bg x F' (L'++X) D P/\R r F' L') s:=by
 rw[gL (lr (E:=λK K=>False) (Q:=λv P=>v=.int (ad xs.length) (s.toks+1)/\P={s with toks:=s.toks+1+1})<|PyProof.Rows.len_tuple (en _ (T.rep.fr _ _ W) rfl #[0,rfl]) (Iz<|rq hz) ⟨rfl,rfl⟩) λr P U=>?_];split at U
 .obtain⟨rfl,rfl⟩:=U
  rw[bX F [] aV T.tok<|f _]
 .rw[U.elim]
 .rw[U.elim]
abbrev Uv:!af:=[.type "ValueError",.type "Exception",.type "BaseException",.type "object"]
def TF(P):Mine.T P 80=some (excClassObj mw mw 80 79 [.type "ValueError"] Uv true [] [] false none none (some<|.ref 71) none (some<|.str mw 343) (some<|.str mw 351) (some<|.bool true) "ValueError.__new__"):=by kernel_rfl
abbrev lk(t:N)(v:af):Obj:=gX (.ref 80) [.ref t,v,.none,.none,.bool false,.none]
def X9(S:bg x F X D s)(f:∀e t,R (.ok<|.ret<|.ref e) F [(e,lk t .none),(t,aD [a,b])]):fh (aE pw x.W) A (.call (.builtin "ValueError.__new__") ⟨[.ref 80,a,b],[]⟩) (λr P=>∃F' L',Le F F'/\bg x F' (L'++X) D P/\R r F' L') s:=by have c:=S.rep.fr _ _<|S.base.top 80 _<|TF x.P;rw[u5<|codeAny_call_builtin_code (Code.quiet_builtin _ PySem.F.excBase_ValueError.quiet)<|wpAny_check_new_sub PySem.F.excBase_ValueError c<|codeAny_exc_new_sub PySem.F.excBase_ValueError c ?_];have u:=(S.new (h':=s.heap) (aV) rfl).new (h':=s.heap.push<|aD [a,b]) (o:=lk s.heap.objs.size .none) (aV) rfl;rw[zw]at u;rw[bX F _ aV u<|f _ _]
end
def bG:PG->!N->Int
 |[],_=>0
 |y::g,k=>if y.1=k then y.2.1 else bG g k
abbrev bC(g:PG):!(!N):=g.map (·.1)
abbrev dR(v:Int):Int×!(!N)->Int×!(!N):=λy=>(v,y.2)
def fV:!(!N)->PG->PG
 |[],z=>z
 |j::ks,z=>fV ks<|bz j (dR<|-1) z
abbrev Nd.st(n:Nd)(v:Int)(t:N):Nd:={n with np:=v,tp:=t}
def yh:∀{g},k∈bC g->bC (bz k f g)=bC g:=by
 intro J;induction J with
 |nil=>intro U;rw[nomatch U]
 |cons x g C=>
  intro U;show bC (if x.1=k then _ else _)=_;by_cases q:x.1=k
  .rw[(if_pos q)▸?_];show k::_=_;rw[q▸?_];rfl
  .rw[(if_neg q)▸congrArg (x.1::·) (C<|(aY.mp U).resolve_left λe=>q e.symm)]
def vz(P)(h:k∈bC (ns.map Nd.pg)):∃l n r,ns=l++n::r/\n.k=k/\d4 (aG P ns) #[#[k]]=some (.ref n.a)/\aS (ns.map Nd.pg) k=n.ss.map (·.1)/\bG (ns.map Nd.pg) k=n.np/\ ∀f v t,(v,n.ss.map (·.1))=f (n.np,n.ss.map (·.1))->(l++n.st v t::r).map Nd.pg=bz k f (ns.map Nd.pg):=by
 rcases Dt P k ns with⟨l,n,r,rfl,a,M,X⟩|⟨a,M⟩
 .rw[aaZ l n r rfl a X ?_ ?_ λf v t B=>?_]
  .clear X h
   induction l with
   |nil=>show(if n.k=k then _ else _)=_;rw[if_pos a,];rfl
   |cons E l C=>show(if E.k=k then _ else _)=_;rw[if_neg<|M E<|.head _,];rw[C λq u=>M q<|.tail _ u]
  .clear X h
   induction l with
   |nil=>show(if n.k=k then _ else _)=_;rw[if_pos a,];rfl
   |cons E l C=>show(if E.k=k then _ else _)=_;rw[if_neg<|M E<|.head _,];rw[C λq u=>M q<|.tail _ u]
  .simp only[bf,bf,bV,bV]
   rw[(by rw[a▸?_];rfl:n.pg=(k,n.np,n.ss.map (·.1))),RK λE H=>by obtain⟨q,u,rfl⟩:=bn.mp H;rw[M q u],<-B];show _++(n.k,v,n.ss.map (·.1))::_=_;rw[a,]
 .rw[aJ (bn.mp h) λy b c=>?_]
  subst c;rw[aJ (bn.mp b) λE H c=>?_];subst c;rw[absurd rfl<|a E H]
def yv{A B W P Q:ao}(h:W.Perm (P++Q)):((A++B)++W).Perm ((A++(P++B))++Q):=(h.append_left _).trans<|pm [A,B,P,Q] (.p (.p (.a 0)<|.a 1)<|.p (.a 2)<|.a 3) (.p (.p (.a 0)<|.p (.a 2)<|.a 1)<|.a 3) rfl
abbrev eP(it q i:N):aH×Obj:=(it,#[.type "tuple_iterator",none,.fields #[[.ref q,.int (i:Int) 0]],#[[]]])
def rB{au rest:!(!N×N)}:df (ar<|(au++y::rest).map ax) (au.length:Int) (ax y):=by show(ar<|(au++y::rest).map ax)[(au.length:Int).toNat]? =_;simp
def aQ{au:!(!N×N)}:h_ (ar<|au.map ax) (au.length:Int):=by show(ar<|au.map ax)[(au.length:Int).toNat]? =_;simp
section
variable{x:Wd} {S:Sg} {d:Sv}
abbrev sV(x:Wd)(S:Sg)(z q f0 f1 f2 f3:N)(v:af):aH×Obj:=(z,az [V x.P bx f0<|.ref S.so,V x.P mL f1<|.ref q,V x.P cu f2<|.ref S.nd,V x.P bW f3 v] 4)
inductive z_ (x:Wd) (S:Sg) (z q f0 f1 f2 ne:N) (g:PG) (F':Fs):aL->ao->Prop
 |mk {L':ao} (f3 v ns') (h1:ns'.map Nd.pg=g) (h2:L'.Perm ([sV x S z q f0 f1 f2 f3 v,S.N (aG x.P ns') ne]++Gr ns')):z_ x S z q f0 f1 f2 ne g F' (.ok .next) L'
def afh:∀{au:!(!N×N)} {ns F v},F q (aD<|(au++rest).map ax)->(∀y∈rest,y.1∈bC (ns.map Nd.pg))->ay x aj 340 (bL nO 4 (.ref it)<|pd z0) F (([sV x S z0 q f0 f1 f2 f3 v,S.N (aG x.P ns) ne]++[eP it q au.length])++Gr ns) (z_ x S z0 q f0 f1 f2 ne<|fV (rest.map (·.1))<|ns.map Nd.pg):=by
 induction rest with
 |nil=>intro au ns F v W H;rw[bQ]at W;rw[.perm (pm [[sV x S z0 q f0 f1 f2 f3 v,S.N (aG x.P ns) ne],_,Gr ns] (.p (.p (.a 0)<|.a 1)<|.a 2) (.p (.a 1)<|.p (.a 0)<|.a 2) rfl)<|bJ (O:=[(q,aD<|au.map ax)]) ⟨W,ab⟩ λB K=>bp (rte B K q z0 it au.length (au.map ax) x) ab #[aQ,ab] (aV) #[f3,v,ns,rfl,.refl _]]
 |cons y rest C=>
  intro au ns F v W H;rw[u4 (vz x.P<|H y<|.head _) λl n r m c t d b f=>?_];subst m;obtain-:=d;obtain-:=b;rw[.perm (yv lK)<|bJ (O:=[(q,aD<|(au++y::rest).map ax)]) ⟨W,ab⟩ λB K=>bu (rz1 S.so S.nd B K q z0 it f0 f1 f2 ne y.2 n.a n.d n.b n.tp n.tk f3 au.length n.np ((au++y::rest).map ax) (aG x.P (l++n::r)) y.1 n.k v x) ab #[#[dK,oz _ _,t],rB,ab] rfl (aV) ?_];have z:=f (dR<|-1) (-1) 301 rfl;have u:=C (au:=au++[y]) (F:=fz F []) (v:=ax y) (an _ _ (by rw[bZ,];rw[W])) λe U=>by rw[z,yh<|H y<|.head _];rw[H e<|.tail _ U]
  rw[z,nW (n:=n) (n':=n.st (-1) 301) rfl,(by simp:(au++[y]).length=au.length+1)]at u;rw[.perm (yv (A:=[sV x S z0 q f0 f1 f2 f3<|ax y,S.N (aG x.P (l++n::r)) ne])<|lK (n:=n.st (-1) 301)).symm u]
def afi(W:F q (aD<|(y::rest).map ax))(H:∀e∈y::rest,e.1∈bC (ns.map Nd.pg)):ay x aj 340 (bL nO 4 (.ref it)<|pd z0) F (([(z0,az [V x.P bx f0<|.ref S.so,V x.P mL f1<|.ref q,V x.P cu f2<|.ref S.nd] 3),S.N (aG x.P ns) ne]++[eP it q 0])++Gr ns) (z_ x S z0 q f0 f1 f2 ne<|fV ((y::rest).map (·.1))<|ns.map Nd.pg):=by
 rw[u4 (vz x.P<|H y<|.head _) λl n r m c t d b f=>?_];subst m;obtain-:=d;obtain-:=b;rw[.perm (yv lK)<|bJ (O:=[(q,aD<|(y::rest).map ax)]) ⟨W,ab⟩ λB K=>bu (rz0 S.so S.nd B K q z0 it f0 f1 f2 ne y.2 n.a n.d n.b n.tp n.tk 0 n.np ((y::rest).map ax) (aG x.P (l++n::r)) y.1 n.k x) ab #[#[dK,oz _ _,t],rB (au:=[]),ab] rfl (aV) ?_];have z:=f (dR<|-1) (-1) 301 rfl;have u:=afh (x:=x) (S:=S) (z0:=z0) (it:=it) (f0:=f0) (f1:=f1) (f2:=f2) (f3:=K) (ne:=ne) (au:=[y]) (F:=fz F []) (v:=ax y) (an _ _ W) λe U=>by rw[z,yh<|H y<|.head _];rw[H e<|.tail _ U]
 rw[z,nW (n:=n) (n':=n.st (-1) 301) rfl]at u;rw[.perm (yv (A:=[sV x S z0 q f0 f1 f2 K<|ax y,S.N (aG x.P (l++n::r)) ne])<|lK (n:=n.st (-1) 301)).symm u]
inductive GE (x:Wd) (S:Sg) (r:N) (po:Int) (tp:N) (nf:Int) (tf ne:N) (rs:!(!N×N)) (ns:!Nd) (F':Fs):aL->ao->Prop
 |mk {L':ao} (q) (h1:F' q (aD (rs.map ax))) (ns' tp' nx') (h2:ns'.map Nd.pg=fV (rs.map (·.1)) (ns.map Nd.pg)) (h3:L'.Perm ([S.D x.P (.ref r) (po+ad rs.length) tp' nf tf,(r,aa #[[]] nx'),S.N (aG x.P ns') ne]++Gr ns')):GE x S r po tp nf tf ne rs ns F' (.ok (.ret (.ref q))) L'
def aqQ(W:F S.so (a9 S.sd))(c:rs≠[])(P:rs.length<=4000)(R:∀y∈rs,y.1∈bC (ns.map Nd.pg)):ay x aj 350 (.call (.ref 124) #[[.ref S.so],[]]) F ([S.D x.P (.ref r) po tp nf tf,(r,aa #[rs.map ax] nx),S.N (aG x.P ns) ne]++Gr ns) (GE x S r po tp nf tf ne rs ns):=by
 obtain⟨y,Q,rfl⟩:∃y Q,rs=y::Q:=by cases rs with|nil=>rw[absurd rfl c]|cons y Q=>rw[j8 y Q rfl]
 have g:((y::Q).map ax).length<=9000:=by rw[aU,];rw[ajq P]
 rw[lU (Y:=S.N (aG x.P ns) ne::Gr ns) (O:=[(S.so,a9 S.sd)]) #[W,ab] λB K=>jf (r0 S tp tf r nx B K po nf ((y::Q).map ax) x) ab ab (pm [[S.D x.P (.ref r) po tp nf tf],[(r,aa #[(y::Q).map ax] nx)],_,S.N (aG x.P ns) ne::Gr ns] (.p (.p (.a 0)<|.p (.a 1)<|.a 2)<|.a 3) (.p (.a 1)<|.p (.p (.a 0)<|.a 2)<|.a 3) rfl) λw m s A X o=>Yi o g λq=>?_];rw[#[_,S.N (aG x.P ns) ne::Gr ns,pm [[S.D x.P (.ref r) po tp nf tf],_,_,S.N (aG x.P ns) ne::Gr ns,[(q,aD<|(y::Q).map ax)]] (.p (.p (.a 4)<|.a 1)<|.p (.p (.a 0)<|.a 2)<|.a 3) (.p (.p (.a 0)<|.p (.a 1)<|.p (.a 2)<|.a 4)<|.a 3) rfl,_,_,[(S.so,a9 S.sd)],⟨an _ _ W,ab⟩,λJ G=>bP (ao2 S tp tf r nx B K q J G po nf ((y::Q).map ax) x) ab ab (pm [[S.D x.P (.ref r) po tp nf tf,(r,aa #[(y::Q).map ax] nx)],[(B,az _ 3)],_,[S.N (aG x.P ns) ne],Gr ns] (.p (.p (.a 0)<|.p (.a 1)<|.a 2)<|.p (.a 3)<|.a 4) (.p (.p (.p (.p (.a 1)<|.a 3)<|.a 2)<|.a 4)<|.a 0) rfl) ((afi (bc<|.head _) R).le ζ λ_ _ _ _ U=>U) λZ T h l i=>?_]];rw[i.casesOn @λh k v d C I=>?_];have H:=dP (cb an) l;have u:=l _ _<|bc<|.head _;refine#[_,S.N (aG x.P d) ne::Gr d,(I.append_right _).trans <|pm [[S.D x.P (.ref r) po tp nf tf,(r,aa #[(y::Q).map ax] nx)],[sV x S B q K G (G+2) k v],_,Gr d] (.p (.p (.p (.a 1)<|.a 2)<|.a 3)<|.a 0) (.p (.p (.a 0)<|.a 1)<|.p (.a 2)<|.a 3) rfl,_,_,[(S.so,a9 S.sd),(q,aD<|(y::Q).map ax)],⟨H _ _ W,u,ab⟩,λD E=>jf (yB S tp tf r nx B K q G k D E po nf ((y::Q).map ax) v x) ab #[by show((y::Q).map ax).length<=16777216;rw[rq g],ab] (Lc:=[]) (.refl _) λz j n t L f=>Yh f (an _ _ u) g λb=>?_];rw[#[_,S.N (aG x.P d) ne::Gr d,.refl _,_,_,[(S.so,a9 S.sd),(q,aD<|(y::Q).map ax)],#[an _ _<|H _ _ W,an _ _ u,ab],λM e=>bp (ao3 S tp tf r nx B K q G k ((y::Q).map ax).length b M e po nf ((y::Q).map ax) v x) ab ab (cb H) #[q,an _ _<|an _ _ u,d,e,_,C,by rw[aU,];rw[.refl _]]]]
end
abbrev kE:Int×!(!N)->Int×!(!N):=λy=>(y.1-1,y.2)
def dJ:!(!N)->PG->PG×!(!N)
 |[],z=>(z,[])
 |s::ss,z=>((dJ ss<|bz s kE z).1,if bG z s-1=0 then s::(dJ ss<|bz s kE z).2 else(dJ ss<|bz s kE z).2)
def fR:!(!N)->PG->PG×!(!N)
 |[],z=>(z,[])
 |j::ks,z=>((fR ks (dJ (aS z j)<|bz j (dR<|-2) z).1).1,(dJ (aS z j)<|bz j (dR<|-2) z).2++(fR ks (dJ (aS z j)<|bz j (dR<|-2) z).1).2)
def qO:!(!N)->PG->Prop
 |[],_=>True
 |j::ks,g=>bG g j=-1/\qO ks (dJ (aS g j)<|bz j (dR<|-2) g).1
structure F6 where
 f0:N
 f1:N
 f2:N
 f3:N
 f4:N
 f5:N
 v0:af
 v1:af
 v2:af
structure F8 extends F6 where
 f6:N
 f7:N
 v3:af
 v4:af
section
variable{x:Wd} {S:Sg} {z0 q:N}
abbrev Ig(x:Wd)(S:Sg)(z q f0 f1 f2:N):aH×Obj:=(z,az [V x.P bx f0<|.ref S.so,V x.P eV f1<|.ref q,V x.P cu f2<|.ref S.nd] 3)
abbrev BK(x:Wd)(S:Sg)(z q:N)(f:F6):aH×Obj:=(z,az [V x.P bx f.f0<|.ref S.so,V x.P eV f.f1<|.ref q,V x.P cu f.f2<|.ref S.nd,V x.P bW f.f3 f.v0,V x.P eE f.f4 f.v1,V x.P fF f.f5 f.v2] 6)
abbrev sX(x:Wd)(S:Sg)(z q:N)(f:F8):aH×Obj:=(z,az [V x.P bx f.f0<|.ref S.so,V x.P eV f.f1<|.ref q,V x.P cu f.f2<|.ref S.nd,V x.P bW f.f3 f.v0,V x.P eE f.f4 f.v1,V x.P fF f.f5 f.v2,V x.P jo f.f6 f.v3,V x.P jp f.f7 f.v4] 8)
def qj(x:Wd)(S:Sg)(z q:N)(c:Bool)(p:aH×Obj):Prop:=(c=false/\∃f,p=BK x S z q f)\/∃f,p=sX x S z q f
def Ob(ns:!Nd):ao:=ns.map Nd.ob
def gA(ns:!Nd):ao:=ns.map Nd.ls
def BQ:∀(ns),(Gr ns).Perm (Ob ns++gA ns):=by
 intro J;induction J with
 |nil=>rw[.refl _]
 |cons n ns C=>rw[((C).cons _).cons _|>.trans (pm [[n.ob],[n.ls],Ob ns,gA ns] (.p (.a 0)<|.p (.a 1)<|.p (.a 2)<|.a 3) (.p (.p (.a 0)<|.a 2)<|.p (.a 1)<|.a 3) rfl)]
def OB(l n r):(Ob (l++n::r)).Perm ([n.ob]++(Ob l++Ob r)):=by unfold Ob;simp only[bf,bV];rw[pm [l.map Nd.ob,[n.ob],r.map Nd.ob] (.p (.a 0)<|.p (.a 1)<|.a 2) (.p (.a 1)<|.p (.a 0)<|.a 2) rfl]
def MH(l n r v t):gA (l++n.st v t::r)=gA (l++n::r):=by unfold gA;simp only[bf,bf];rfl
abbrev nJ(z li:N):bj:=bL fw 14 (.ref li)<|fT z
abbrev eT(li b i:N):aH×Obj:=(li,#[.type "list_iterator",none,.fields #[[.ref b,.int (i:Int) 0]],#[[]]])
abbrev I5(S:Sg)(P:aH×Obj)(es:!bv)(ne li b nb i:N)(ws:!af):ao:=[P,S.N es ne,eT li b i,(b,aa #[ws] nb)]
def RD{g:N->N->aH×Obj}{au:!(!N×N)}(W:F S.so (a9 S.sd))(hz:rs.length<=9000)(f:iT es=true)(t:d4 es #[#[y.1]]=some (.ref n.a))(j:∀sz tk Z,Ev (ex x aj 330 (.code<|nJ z0 li)<|cf [P,S.N es ne,n.ob,eT li b au.length,(b,aa #[(au++y::rest).map ax] nb)] sz tk J gv [] Z) Z [0,1,2,3,4] (.next<|nJ z0 li) [g tk n.a,S.N es ne,(n.st (n.np-1)<|tk+5).ob,eT li b<|au.length+1,(b,aa #[(au++y::rest).map ax] nb)] [] [((n.np-1==0),false)] [cR (.type "dict") es #[#[y.1]]<|.ref n.a,df (ar<|(au++y::rest).map ax) (au.length:Int)<|ax y])(K:∀sz tk Z,Ev (ex x aj 330 (.code<|nJ z0 li)<|cf [P,S.N es ne,n.ob,eT li b au.length,(b,aa #[(au++y::rest).map ax] nb),S.D x.P (.ref r) po tp nf tf,(r,aa #[rs.map ax] nx)] sz tk a6 gv [(S.so,a9 S.sd)] Z) Z [0,1,2,3,4,5,6] (.next<|nJ z0 li) [g tk n.a,S.N es ne,(n.st (n.np-1)<|tk+5).ob,eT li b<|au.length+1,(b,aa #[(au++y::rest).map ax] nb),S.D x.P (.ref r) po tp nf tf,(r,aa ((ar<|rs.map ax).push<|ax y)<|nx+1)] [] [((n.np-1==0),true)] [cm<|ar<|rs.map ax,cR (.type "dict") es #[#[y.1]]<|.ref n.a,df (ar<|(au++y::rest).map ax) (au.length:Int)<|ax y])(h:∀tk F' G,Le F F'->ay x aj 330 (nJ z0 li) F' ((I5 S (g tk n.a) es ne li b nb (au++[y]).length ((au++y::rest).map ax)++[S.D x.P (.ref r) po tp nf tf,(r,aa #[(rs++if n.np-1=0 then[y]else[]).map ax] G)])++Ob (l++n.st (n.np-1) (tk+5)::D)) Q):ay x aj 330 (nJ z0 li) F ((I5 S P es ne li b nb au.length ((au++y::rest).map ax)++[S.D x.P (.ref r) po tp nf tf,(r,aa #[rs.map ax] nx)])++Ob (l++n::D)) Q:=by
 have e:(au++[y]).length=au.length+1:=by simp
 have c:=λP E i d=>((OB l E D).append_left _).trans<|pm [[P,S.N es ne],[eT li b i,(b,aa #[(au++y::rest).map ax] nb)],d,[E.ob],Ob l++Ob D] (.p (.p (.p (.a 0)<|.a 1)<|.a 2)<|.p (.a 3)<|.a 4) (.p (.p (.a 0)<|.p (.a 3)<|.a 1)<|.p (.a 2)<|.a 4) rfl
 rw[.perm (c P n au.length _) ?_];by_cases U:n.np-1=0
 .rw[bJ (Y:=Ob l++Ob D) (O:=[(S.so,a9 S.sd)]) #[W,ab] λsz tk=>bu (K sz tk) #[by simpa using U,ab] #[by show(rs.map ax).length<=16777216;rw[aU,];rw[rq hz],#[dK,f,t],rB,ab] rfl (aV) ?_]
  have u:=h tk (fz F []) (nx+1) an;rw[if_pos U,e,show(rs++[y]).map ax=rs.map ax++[ax y]from bf ..]at u;rw[km,];rw[.perm (c (g tk n.a) (n.st (n.np-1)<|tk+5) (au.length+1) [S.D x.P (.ref r) po tp nf tf,(r,aa #[rs.map ax++[ax y]]<|nx+1)]).symm u]
 .rw[bJ (O:=[]) ab λsz tk=>bu (j sz tk) #[by simpa using U,ab] #[#[dK,f,t],rB,ab] rfl (aV) ?_]
  have u:=h tk (fz F []) nx an;rw[if_neg U,e,bQ]at u;rw[.perm (c (g tk n.a) (n.st (n.np-1)<|tk+5) (au.length+1) _).symm u]
inductive QI (x:Wd) (S:Sg) (z q r po':N) (D:aH×Obj) (es:!bv) (ne b nb:N) (ws:!af) (c:Bool) (ls:ao) (rs:!(!(N))) (w:PG×!(!N)) (F':Fs):aL->ao->Prop
 |mk {L':ao} (fr:aH×Obj) (ns:!Nd) (rs':!(!N×N)) (nx:N) (h1:qj x S z q c fr) (h2:ns.map Nd.pg=w.1) (h3:aG x.P ns=es) (h4:gA ns=ls) (h5:rs'.map (·.1)=rs++w.2) (h6:L'.Perm ([fr,S.N es ne,(b,aa #[ws] nb),D,(r,aa #[rs'.map ax] nx)]++Ob ns)):QI x S z q r po' D es ne b nb ws c ls rs w F' (.ok .next) L'
def afu:∀{au rs:!(!N×N)} {P ns nx F},F S.so (a9 S.sd)->qj x S z0 q c P->aG x.P ns=es->gA ns=ls->rs.length+rest.length<=9000->(∀y∈rest,y.1∈bC (ns.map Nd.pg))->ay x aj 330 (nJ z0 li) F ((I5 S P es ne li b nb au.length ((au++rest).map ax)++[S.D x.P (.ref r) po tp nf tf,(r,aa #[rs.map ax] nx)])++Ob ns) (QI x S z0 q r 0 (S.D x.P (.ref r) po tp nf tf) es ne b nb ((au++rest).map ax) c ls (rs.map (·.1))<|dJ (rest.map (·.1))<|ns.map Nd.pg):=by
 induction rest with
 |nil=>intro au rs P ns nx F W s o w Z H;rw[bQ,];rw[.perm (pm [[P,S.N es ne],_,_,Ob ns] (.p (.p (.p (.a 0)<|.a 1)<|.a 2)<|.a 3) (.p (.a 1)<|.p (.p (.a 0)<|.a 2)<|.a 3) rfl) ?_];rw[bJ (O:=[]) ab λB K=>bp (ie B K z0 b nb li au.length (au.map ax) x) ab #[aQ,ab] (aV) #[P,ns,rs,nx,s,rfl,o,w,(bQ _).symm,pm [[P,S.N es ne],_,_,Ob ns] (.p (.a 1)<|.p (.p (.a 0)<|.a 2)<|.a 3) (.p (.p (.a 0)<|.p (.a 1)<|.a 2)<|.a 3) rfl]]
 |cons y rest R=>
  intro au rs P ns nx F W s o w Z H;rw[u4 (vz x.P<|H y<|.head _) λl n k m ac t d j J=>?_];subst m;obtain-:=d;subst o w;have C:=λD=>J kE (n.np-1) D rfl;have E:∀(f:F8) K (T:Fs) G,Le F T->ay x aj 330 (nJ z0 li) T ((I5 S (sX x S z0 q f) (aG x.P (l++n::k)) ne li b nb (au++[y]).length ((au++y::rest).map ax)++_)++Ob (l++n.st (n.np-1) (K+5)::k)) (QI x S z0 q r 0 (S.D x.P (.ref r) po tp nf tf) (aG x.P (l++n::k)) ne b nb ((au++y::rest).map ax) c (gA (l++n::k)) (rs.map (·.1))<|dJ ((y::rest).map (·.1))<|(l++n::k).map Nd.pg):=λf K T G Q=>by
   have u:=R (au:=au++[y]) (rs:=rs++if n.np-1=0 then[y]else[]) (nx:=G) (Q _ _ W) (.inr #[f,rfl]) (nW (n':=n.st (n.np-1)<|K+5) rfl) (MH l n k _ _) (by split<;>simp at Z⊢<;>lia) λe U=>by rw[C,yh<|H y<|.head _];rw[H e<|.tail _ U]
   rw[C,<-(by simp:au++y::rest=(au++[y])++rest)]at u;rw[u.le (d7 _) λA T h _ q=>q.casesOn λP ns i nx M X I Y L z=>#[P,ns,i,nx,M,X,I,Y,L.trans ?_,z]];show _=_++(if bG _ y.1-1=0 then _ else _);rw[j,bf,bZ]
   split<;>rfl
  rcases s with⟨rfl,f,rfl⟩|⟨f,rfl⟩
  .rw[RD (g:=λK a=>sX x S z0 q #[f,K,K+2,ax y,.ref a]) W (L8 Z) (oz _ _) t (λB K=>Z8 S.so S.nd B K q z0 f.f0 f.f1 f.f2 ne y.2 n.a n.d b n.tp n.tk f.f3 nb f.f4 f.f5 li n.b au.length n.np _ _ y.1 n.k f.v0 f.v1 f.v2 x) (λB K=>Z9 S tp tf r nx B K q z0 f.f0 f.f1 f.f2 ne y.2 n.a n.d b n.tp n.tk f.f3 nb f.f4 f.f5 li n.b po nf au.length n.np _ _ _ y.1 n.k f.v0 f.v1 f.v2 x) λK T G Q=>E _ K T G Q]
  .rw[RD (g:=λK a=>sX x S z0 q #[f.toF6,f.f6,f.f7,ax y,.ref a]) W (L8 Z) (oz _ _) t (λB K=>iC0 S.so S.nd B K q z0 f.f0 f.f1 f.f2 ne y.2 n.a n.d b n.tp n.tk f.f3 nb f.f4 f.f5 f.f6 f.f7 li n.b au.length n.np _ _ y.1 n.k f.v0 f.v1 f.v2 f.v3 f.v4 x) (λB K=>iC1 S tp tf r nx B K q z0 f.f0 f.f1 f.f2 ne y.2 n.a n.d b n.tp n.tk f.f3 nb f.f4 f.f5 f.f6 f.f7 li n.b po nf au.length n.np _ _ _ y.1 n.k f.v0 f.v1 f.v2 f.v3 f.v4 x) λK T G Q=>E _ K T G Q]
end
abbrev Av:=List<|List N×!(!N)
def dH(g:PG):Av:=g.map λy=>(y.1,y.2.2)
def yR(B:∀y,(f y).2=y.2):∀{g},k∈bC g->dH (bz k f g)=dH g:=by
 intro J;induction J with
 |nil=>intro U;rw[nomatch U]
 |cons x g C=>
  intro U;show dH (if x.1=k then _ else _)=_;by_cases q:x.1=k
  .rw[if_pos q,]
   show(k,(f x.2).2)::_=(x.1,x.2.2)::_;rw[B,q]
  .rw[if_neg q,]
   rw[congrArg ((x.1,x.2.2)::·)<|C<|(aY.mp U).resolve_left λe=>q e.symm]
def Dr(h:dH g=dH D):bC g=bC D:=by have:=congrArg (ql z6) h;unfold dH at this;simp only[bI,bI]at this;rw[this]
def Qk:∀{ss g},(∀s∈ss,s∈bC g)->dH (dJ ss g).1=dH g:=by
 intro J;induction J with
 |nil=>intro _ _;rw[rfl]
 |cons s ss C=>intro g U;have e:=yR (f:=kE) (λK=>rfl)<|U s<|.head _;rw[(C λP o=>by rw[(Dr e)▸U P (.tail _ o)]).trans e]
def Xi:∀{ss g},(dJ ss g).2.length<=ss.length:=by
 intro J;induction J with
 |nil=>intro _;rw[d7 _]
 |cons s ss C=>
  intro g;have:=C (g:=bz s kE g);show(if bG g s-1=0 then s::_ else _).length<=ss.length+1;split
  .rw[oV this]
  .rw[ld this]
def yV:Av->!N->!(!N)
 |[],_=>[]
 |x::g,k=>if x.1=k then x.2 else yV g k
def Ra:∀{g k},aS g k=yV (dH g) k:=by
 intro J;induction J with
 |nil=>intro _;rw[rfl]
 |cons x g C=>intro k;show(if x.1=k then x.2.2 else aS g k)=if x.1=k then x.2.2 else yV (dH g) k;rw[C,]
structure l_ (s:Av):Prop where
 cl:∀y∈s,∀k∈y.2,k∈s.map (·.1)
 le:∀y∈s,y.2.length<=100
def Q6:∀{s k},k∈s.map (·.1)->∃y∈s,yV s k=y.2:=by
 intro J;induction J with
 |nil=>intro _ U;rw[nomatch U]
 |cons x z C=>
  intro k U;show∃y∈x::z,(if x.1=k then _ else _)=y.2;by_cases q:x.1=k
  .rw[bA x (.head _)<|if_pos q]
  .rw[aJ (C<|(aY.mp U).resolve_left λe=>q e.symm) λy b e=>bA y (.tail _ b)<|(if_neg q)▸e]
section
variable{x:Wd} {S:Sg} {z0 q r:N}
abbrev sJ(z it:N):bj:=bL fw 3 (.ref it)<|fT z
inductive QO (x:Wd) (S:Sg) (r ne:N) (po:Int) (tp:N) (nf:Int) (n:N) (rs:!(!N)) (w:PG×!(!N)) (r0:aL) (F':Fs):aL->ao->Prop
 |mk {L':ao} (ns:!Nd) (rs':!(!N×N)) (nx tf:N) (J:ao) (h1:ns.map Nd.pg=w.1) (h2:rs'.map (·.1)=rs++w.2) (h3:L'.Perm (([S.D x.P (.ref r) po tp (nf+(n:Int)) tf,(r,aa #[rs'.map ax] nx),S.N (aG x.P ns) ne]++Gr ns)++J)):QO x S r ne po tp nf n rs w r0 F' r0 L'
abbrev LO(x:Wd)(S:Sg)(r ne:N)(po:Int)(tp:N)(nf:Int)(tf:N)(P it:aH×Obj)(rs:!(!N×N))(nx:N)(ns:!Nd):ao:=([P,S.N (aG x.P ns) ne,it]++[S.D x.P (.ref r) po tp nf tf,(r,aa #[rs.map ax] nx)])++Gr ns
def EZ{au rest rs:!(!N×N)}{K:aL->aR->av}(W:F S.so (a9 S.sd))(c1:qj x S z0 q c a7)(hs:dH ((l++n::a6).map Nd.pg)=s)(bb:l_ s)(hz:rs.length+100<=9000)(hk:n.k=y.1)(E:aS ((l++n::a6).map Nd.pg) y.1=n.ss.map (·.1))(k:y.1∈bC ((l++n::a6).map Nd.pg))(C:(l++n.st (-2) 304::a6).map Nd.pg=bz y.1 (dR<|-2) ((l++n::a6).map Nd.pg))(t:d4 (aG x.P (l++n::a6)) #[#[y.1]]=some (.ref n.a))(i:∀Z,Ev (o Z) Z [0,1,2,3,4,5] (.pend 339 aj (nJ z0 sz) K) [a7,S.N (aG x.P (l++n::a6)) ne,(n.st (-2) 304).ob,eP it q<|au.length+1,n.ls,eT sz n.b 0] [] [] [cR (.type "dict") (aG x.P (l++n::a6)) #[#[y.1]]<|.ref n.a,df (ar<|(au++y::rest).map ax) (au.length:Int)<|ax y])(bt:c=false->∀f tp tf J G Z,Ev (K (.ok .next)<|cf [BK x S z0 q f,S.D x.P (.ref r) po tp nf tf] J G a8 [] [(S.so,a9 S.sd)] Z) Z [0,1] (.next<|sJ z0 it) [BK x S z0 q f,S.D x.P (.ref r) po tp (nf+1)<|G+2] [] [] [])(b0:∀f tp tf J G Z,Ev (K (.ok .next)<|cf [sX x S z0 q f,S.D x.P (.ref r) po tp nf tf] J G a8 [] [(S.so,a9 S.sd)] Z) Z [0,1] (.next<|sJ z0 it) [sX x S z0 q f,S.D x.P (.ref r) po tp (nf+1)<|G+2] [] [] [])(h:∀F' bT w L P X,Le F F'->qj x S z0 q false bT->w.map Nd.pg=(dJ (aS ((l++n::a6).map Nd.pg) y.1)<|bz y.1 (dR<|-2)<|(l++n::a6).map Nd.pg).1->dH (w.map Nd.pg)=s->L.length<=rs.length+100->L.map (·.1)=rs.map (·.1)++(dJ (aS ((l++n::a6).map Nd.pg) y.1)<|bz y.1 (dR<|-2)<|(l++n::a6).map Nd.pg).2->ay x aj 340 (sJ z0 it) F' (LO x S r ne po tp (nf+1) X bT (eP it q (au++[y]).length) L P w) Q):Go x aj 340 F Q F ([S.D x.P (.ref r) po tp nf tf,(r,aa #[rs.map ax] nx)]++(Gr l++Gr a6)) o:=by
 have m:bC ((l++n::a6).map Nd.pg)=s.map (·.1):=by rw[hs▸?_];unfold dH;rw[bI,];rfl
 rw[aJ (Q6<|m▸k) λT Y ca=>?_];have bl:n.ss.map (·.1)=T.2:=by simp only[<-E,Ra,hs,ca]
 have ac:n.ss.length<=100:=by have:=bb.le T Y;simp only[<-bl,aU]at this;rw[this]
 have O:∀j∈n.ss.map (·.1),j∈bC (bz y.1 (dR<|-2)<|(l++n::a6).map Nd.pg):=λj U=>by simp only[(yh k),m];rw[bb.cl T Y j<|bl▸U]
 have u:=afu (po:=po) (nf:=nf) (tp:=tp) (tf:=tf) (r:=r) (ne:=ne) (li:=sz) (b:=n.b) (nb:=n.nb) (au:=[]) (nx:=nx) (F:=fz F []) (an _ _ W) c1 (nW (n:=n) (n':=n.st (-2) 304) rfl) (MH l n a6 (-2) 304) (agW hz ac) (by rw[C,];intro e U;rw[O e.1<|bw U]);simp only[qn,C,<-E]at u;rw[bP (Z:=[eP it q<|au.length+1]++(gA l++gA a6)) i ab ⟨⟨dK,oz _ _,t⟩,rB,ab⟩ ?_ (u.le ζ λ_ _ _ _ U=>U) λA F' bs c2 q=>?_]
 .rw[(((((BQ l).append<|BQ a6).trans<|pm [Ob l,gA l,Ob a6,gA a6] (.p (.p (.a 0)<|.a 1)<|.p (.a 2)<|.a 3) (.p (.p (.a 0)<|.a 2)<|.p (.a 1)<|.a 3) rfl).append_left _).append_left _).trans<|Fy ?_<|((OB l (n.st (-2) 304) a6).symm.append_left _).append_right _]
  rw[pm [[a7,S.N (aG x.P (l++n::a6)) ne],[(n.st (-2) 304).ob],[eP it q<|au.length+1],[n.ls],_,_,Ob l++Ob a6,gA l++gA a6] (.p (.p (.a 0)<|.p (.a 1)<|.p (.a 2)<|.p (.a 3)<|.a 4)<|.p (.a 5)<|.p (.a 6)<|.a 7) (.p (.p (.p (.p (.a 0)<|.p (.a 4)<|.a 3)<|.a 5)<|.p (.a 1)<|.a 6)<|.p (.a 2)<|.a 7) rfl]
 .obtain⟨bT,w,L,P,ch,M,z,ck,R,c0⟩:=q
  have H:=bN c2;have B:L.length<=rs.length+100:=by have:=congrArg gR R;simp only[aU,cJ,aU]at this;rw[agX this (Xi (ss:=aS ((l++n::a6).map Nd.pg) y.1) (g:=bz y.1 (dR<|-2)<|(l++n::a6).map Nd.pg)) (by simp only[E,aU];rw[ac])]
  have bo:(bs++([eP it q<|au.length+1]++(gA l++gA a6))).Perm ([bT,S.D x.P (.ref r) po tp nf tf]++(([S.N (aG x.P w) ne,eP it q<|au.length+1]++[(r,aa #[L.map ax] P)])++Gr w)):=by
   have I:(Gr w).Perm (Ob w++([n.ls]++(gA l++gA a6))):=(BQ w).trans (by rw[ck,];unfold gA;simp only[bf,bV];rw[(pm [l.map Nd.ls,[n.ls],a6.map Nd.ls,Ob w] (.p (.a 3)<|.p (.a 0)<|.p (.a 1)<|.a 2) (.p (.a 3)<|.p (.a 1)<|.p (.a 0)<|.a 2) rfl)])
   rw[(c0.append_right _).trans<|Fy ?_<|(I.symm.append_left _).append_left _];simp only[z];rw[pm [[bT],[S.N (aG x.P (l++n::a6)) ne],[n.ls],[S.D x.P (.ref r) po tp nf tf],_,Ob w,_,gA l++gA a6] (.p (.p (.p (.a 0)<|.p (.a 1)<|.p (.a 2)<|.p (.a 3)<|.a 4)<|.a 5)<|.p (.a 6)<|.a 7) (.p (.p (.a 0)<|.a 3)<|.p (.p (.p (.a 1)<|.a 6)<|.a 4)<|.p (.a 5)<|.p (.a 2)<|.a 7) rfl]
  have c3:=λD=>pm [[bT],[S.D x.P (.ref r) po tp (nf+1) D],[S.N (aG x.P w) ne,eP it q<|au.length+1],[(r,aa #[L.map ax] P)],Gr w] (.p (.p (.a 0)<|.a 1)<|.p (.p (.a 2)<|.a 3)<|.a 4) (.p (.p (.p (.a 0)<|.a 2)<|.p (.a 1)<|.a 3)<|.a 4) rfl
  have j:∀D,qj x S z0 q false bT->ay x aj 340 (sJ z0 it) (fz F' []) ([bT,S.D x.P (.ref r) po tp (nf+1) D]++(([S.N (aG x.P w) ne,eP it q<|au.length+1]++[(r,aa #[L.map ax] P)])++Gr w)) Q:=λD U=>by have u:=h (fz F' []) bT w L P D (cb H) U M (by rw[M,];rw[(Qk<|E▸O).trans<|(yR (f:=dR<|-2) (λ_=>rfl) k).trans hs]) B R;rw[(by simp:(au++[y]).length=au.length+1)]at u;rw[.perm (c3 D) u]
  rcases ch with⟨d,f,rfl⟩|⟨f,rfl⟩
  .rw[⟨_,_,bo,_,_,[(S.so,a9 S.sd)],⟨H _ _ W,ab⟩,λJ G=>bu (bt d f tp tf J G) ab ab rfl H<|j (G+2)<|.inl ⟨rfl,f,rfl⟩⟩]
  .rw[⟨_,_,bo,_,_,[(S.so,a9 S.sd)],⟨H _ _ W,ab⟩,λJ G=>bu (b0 f tp tf J G) ab ab rfl H<|j (G+2)<|.inr #[f,rfl]⟩]
def Lv:(LO x S r ne po tp nf tf G (eP it q i) rs nx (l++n::D)).Perm ([G,S.N (aG x.P (l++n::D)) ne,n.ob,eP it q i,n.ls]++([S.D x.P (.ref r) po tp nf tf,(r,aa #[rs.map ax] nx)]++(Gr l++Gr D))):=(pQ.append_left _).trans<|pm [[G,S.N (aG x.P (l++n::D)) ne],_,_,[n.ob],[n.ls],Gr l++Gr D] (.p (.p (.p (.a 0)<|.a 1)<|.a 2)<|.p (.p (.a 3)<|.a 4)<|.a 5) (.p (.p (.a 0)<|.p (.a 3)<|.p (.a 1)<|.a 4)<|.p (.a 2)<|.a 5) rfl
def afy(bt:l_ s):∀{au rs:!(!N×N)} {P ns nx tf nf F},F S.so (a9 S.sd)->F q (aD<|(au++rest).map ax)->qj x S z0 q false P->dH (ns.map Nd.pg)=s->rs.length+100*rest.length<=9000->(∀y∈rest,y.1∈s.map (·.1))->qO (rest.map (·.1)) (ns.map Nd.pg)->ay x aj 340 (sJ z0 it) F (LO x S r ne po tp nf tf P (eP it q au.length) rs nx ns) (QO x S r ne po tp nf rest.length (rs.map (·.1)) (fR (rest.map (·.1))<|ns.map Nd.pg)<|.ok .next):=by
 induction rest with
 |nil=>intro au rs P ns nx tf nf F W u bo a6 Z H bb;rw[bQ]at u;rw[.perm (pm [[P,S.N (aG x.P ns) ne],_,_,Gr ns] (.p (.p (.p (.a 0)<|.a 1)<|.a 2)<|.a 3) (.p (.a 1)<|.p (.p (.a 0)<|.a 2)<|.a 3) rfl)<|bJ (O:=[(q,aD<|au.map ax)]) ⟨u,ab⟩ λB K=>bp (de B K q z0 it au.length (au.map ax) x) ab #[aQ,ab] (aV) #[ns,rs,nx,tf,[P],rfl,(bQ _).symm,?_]];show zE _ (([S.D x.P (.ref r) po tp (nf+0) tf,(r,aa #[rs.map ax] nx),S.N (aG x.P ns) ne]++Gr ns)++[P]);rw[zy,];rw[pm [[P],_,_,Gr ns] (.p (.p (.p (.a 0)<|.a 1)<|.a 2)<|.a 3) (.p (.p (.p (.a 2)<|.a 1)<|.a 3)<|.a 0) rfl]
 |cons y rest c3=>
  intro au rs P ns nx tf nf F W u bo a6 Z H bb;have bl:y.1∈bC (ns.map Nd.pg):=(by rw[a6▸?_];unfold dH;rw[bI,];rfl:bC (ns.map Nd.pg)=s.map (·.1))▸H y (.head _);rw[u4 (vz x.P bl) λl n k m bs t E c2 b0=>?_];subst m;obtain⟨C,j,i,o,I,c5,D,ac,b⟩:=n;obtain rfl:c5=-1:=(c2.symm.trans bb.1);have ch:au++y::rest=(au++[y])++rest:=by simp
  rw[.perm Lv ?_];have h:∀(T:Fs) a7 w (L:!(!N×N)) ca X,Le F T->qj x S z0 q false a7->w.map Nd.pg=(dJ (aS ((l++#[C,j,i,o,I,-1,D,ac,b]::k).map Nd.pg) y.1)<|bz y.1 (dR<|-2)<|(l++#[C,j,i,o,I,-1,D,ac,b]::k).map Nd.pg).1->dH (w.map Nd.pg)=s->L.length<=rs.length+100->
    L.map (·.1)=rs.map (·.1)++(dJ (aS ((l++#[C,j,i,o,I,-1,D,ac,b]::k).map Nd.pg) y.1)<|bz y.1 (dR<|-2)<|(l++#[C,j,i,o,I,-1,D,ac,b]::k).map Nd.pg).2->
    ay x aj 340 (sJ z0 it) T (LO x S r ne po tp (nf+1) X a7 (eP it q (au++[y]).length) L ca w) (QO x S r ne po tp nf (rest.length+1) (rs.map (·.1)) (fR (y.1::rest.map (·.1))<|(l++#[C,j,i,o,I,-1,D,ac,b]::k).map Nd.pg)<|.ok .next):=λT a7 w L ca X Q g a8 ck c0 c1=>by
   rw[(c3 (Q _ _ W) (Q _ _<|ch▸u) g ck (agY Z c0) (λe U=>H e<|.tail _ U) (by simp only[a8];rw[bb.2])).le (d7 _) λA ds dt _ q=>q.casesOn λda dd db M R d c4 Y=>#[da,dd,db,M,R,by simp only[d,a8];rfl,by simp only[c4,c1,a8,bZ];rfl,((show nf+(rest.length+1:N)=nf+1+rest.length by rw[Mn])▸Y)]]
  rcases bo with⟨-,f,rfl⟩|⟨f,rfl⟩
  .rw[bJ (O:=[(q,aD<|(au++y::rest).map ax)]) ⟨u,ab⟩ λB K=>EZ W (.inl #[rfl,#[f.f0,f.f1,f.f2,f.f3,f.f4,f.f5,ax y,.ref C,.int (-1) D],rfl]) a6 bt (Mo Z) bs E bl (b0 (dR<|-2) (-2) 304 rfl) t (dB S.so S.nd B K q z0 it f.f0 f.f1 f.f2 ne y.2 C j i D I f.f3 b f.f4 f.f5 au.length ((au++y::rest).map ax) (ac.map ax) (aG x.P (l++⟨C,j,i,o,I,-1,D,ac,b⟩::k)) y.1 o f.v0 f.v1 f.v2 x) (λ_ z tp tf J G=>Xb S tp tf r q J G z0 it z.f0 z.f1 z.f2 z.f3 z.f4 z.f5 po nf z.v0 z.v1 z.v2 x) (λz tp tf J G=>Xc S tp tf r q J G z0 it z.f0 z.f1 z.f2 z.f3 z.f4 z.f5 z.f6 z.f7 po nf z.v0 z.v1 z.v2 z.v3 z.v4 x) h]
  .rw[bJ (O:=[(q,aD<|(au++y::rest).map ax)]) ⟨u,ab⟩ λB K=>EZ (c:=true) W (.inr #[#[#[f.f0,f.f1,f.f2,f.f3,f.f4,f.f5,ax y,.ref C,.int (-1) D],f.f6,f.f7,f.v3,f.v4],rfl]) a6 bt (Mo Z) bs E bl (b0 (dR<|-2) (-2) 304 rfl) t (dC S.so S.nd B K q z0 it f.f0 f.f1 f.f2 ne y.2 C j i D I f.f3 b f.f4 f.f5 f.f6 f.f7 au.length ((au++y::rest).map ax) (ac.map ax) (aG x.P (l++⟨C,j,i,o,I,-1,D,ac,b⟩::k)) y.1 o f.v0 f.v1 f.v2 f.v3 f.v4 x) (λU=>(nomatch U)) (λz tp tf J G=>Xd S tp tf r q J G z0 it z.f0 z.f1 z.f2 z.f3 z.f4 z.f5 z.f6 z.f7 po nf z.v0 z.v1 z.v2 z.v3 z.v4 x) h]
def aqR(b0:l_ s){rest rs:!(!N×N)}(W:F S.so (a9 S.sd))(hs:dH (ns.map Nd.pg)=s)(hz:rs.length<=1000)(bs:rest.length<9)(H:∀e∈y::rest,e.1∈s.map (·.1))(bo:qO ((y::rest).map (·.1)) (ns.map Nd.pg)):ay x aj 350 (.call (.ref 145) #[.ref S.so::(y::rest).map ax,[]]) F ([S.D x.P (.ref r) po tp nf tf,(r,aa #[rs.map ax] nx),S.N (aG x.P ns) ne]++Gr ns) (QO x S r ne po tp nf (rest.length+1) (rs.map (·.1)) (fR ((y::rest).map (·.1))<|ns.map Nd.pg)<|.ok<|.ret .none):=by
 have X:((y::rest).map ax).length<10:=by rw[aU,];simp only[dM];rw[agZ bs]
 have bt:y.1∈bC (ns.map Nd.pg):=(by rw[hs▸?_];unfold dH;rw[bI,];rfl:bC (ns.map Nd.pg)=s.map (·.1))▸H y (.head _);rw[u4 (vz x.P bt) λl n k m c t E c3 f=>?_];subst m;obtain⟨C,j,i,o,I,db,D,a7,a6⟩:=n;obtain rfl:db=-1:=(c3.symm.trans bo.1);rw[lU (L:=[S.D x.P (.ref r) po tp nf tf]) (O:=[(S.so,a9 S.sd)]) #[W,ab] λB K=>bP (V9 (x:=x) (so:=S.so) (sd:=S.sd) (nd:=S.nd) (u:=S.u) (po:=po) (nf:=nf) (tp:=tp) (tf:=tf) (r:=r) (sz:=B) (tk:=K) (hv:=X)) ab ab (Lc:=LO x S r ne po tp nf tf (Ig x S (B+1) B K (K+1)<|K+4) (eP (B+2) B 0) rs nx (l++#[C,j,i,o,I,-1,D,a7,a6]::k)) (Z:=[]) (Qc:=QO x S r ne po tp nf (rest.length+1) (rs.map (·.1)) (fR ((y::rest).map (·.1))<|(l++#[C,j,i,o,I,-1,D,a7,a6]::k).map Nd.pg)<|.ok .next) ?_ ?_ λA T h Q q=>?_]
 .rw[pm [[S.D x.P (.ref r) po tp nf tf],[Ig x S (B+1) B K (K+1)<|K+4],_,[(r,aa #[rs.map ax] nx)],_,Gr (l++#[C,j,i,o,I,-1,D,a7,a6]::k)] (.p (.p (.a 0)<|.p (.a 1)<|.a 2)<|.p (.p (.a 3)<|.a 4)<|.a 5) (.p (.p (.p (.p (.a 1)<|.p (.a 4)<|.a 2)<|.p (.a 0)<|.a 3)<|.a 5) .z) rfl]
 .rw[.perm Lv (.le (b:=340) ?_ ζ λ_ _ _ _ U=>U)]
  rw[bJ (O:=[(B,aD<|(y::rest).map ax)]) #[bc<|.head _,ab] λdd Y=>EZ (au:=[]) (an _ _ W) (.inl #[rfl,#[K,K+1,K+4,Y,Y+2,Y+4,ax y,.ref C,.int (-1) D],rfl]) hs b0 (ag0 hz) c E bt (f (dR<|-2) (-2) 304 rfl) t (dA S.so S.nd dd Y B (B+1) (B+2) K (K+1) (K+4) ne y.2 C j i D I a6 0 ((y::rest).map ax) (a7.map ax) (aG x.P (l++⟨C,j,i,o,I,-1,D,a7,a6⟩::k)) y.1 o x) (λ_ ac tp tf J G=>W_ S tp tf r B J G (B+1) (B+2) ac.f0 ac.f1 ac.f2 ac.f3 ac.f4 ac.f5 po nf ac.v0 ac.v1 ac.v2 x) (λac tp tf J G=>Xa S tp tf r B J G (B+1) (B+2) ac.f0 ac.f1 ac.f2 ac.f3 ac.f4 ac.f5 ac.f6 ac.f7 po nf ac.v0 ac.v1 ac.v2 ac.v3 ac.v4 x) λT dt w du P dx Q g a8 ca ch ck=>by rw[(afy b0 (Q _ _<|an _ _ W) (Q _ _<|bc<|.head _) g ca (ag1 hz bs ch) (λe U=>H e<|.tail _ U) (by rw[a8,];rw[bo.2])).le (d7 _) λA ds h _ q=>q.casesOn λd bl bb M R c4 c5 da=>#[d,bl,bb,M,R,by simp only[c4,a8];rfl,by simp only[c5,ck,a8,bZ];rfl,((show nf+(rest.length+1:N)=nf+1+rest.length by rw[Mn])▸da)]]]
 .rw[q.casesOn @λh d bl bb M R c0 c1 c2=>#[[],h,.of_eq<|bQ _,_,_,[],ab,λJ G=>bp (dr x ((y::rest).map ax) B X J G) ab ab (bN Q) #[d,bl,bb,M,R,c0,c1,c2]]]
def Re{rs:!(!N×N)}(W:F S.so (a9 S.sd))(hi:i<10)(a:rs.length<=4000):ay x aj 350 (.call (.ref 131) #[[.ref S.so],[]]) F [S.D x.P (.ref r) (ad i) tp (ad i) tf,(r,aa #[rs.map ax] nx)] (QK (.ok<|.ret<|.bool<|(not (rs.isEmpty))) [S.D x.P (.ref r) (ad i) tp (ad i) tf,(r,aa #[rs.map ax] nx)]):=by
 cases rs with
 |nil=>rw[fq (O:=[(S.so,a9 S.sd)]) #[W,ab] λB K=>bp (TP x S.so S.sd S.nd S.u i tp tf r nx B K (hi:=hi)) ab #[ub<|dw _,ab] (aV) ⟨⟩]
 |cons y rs=>rw[fq (O:=[(S.so,a9 S.sd)]) #[W,ab] λB K=>bp (TL x S.so S.sd S.nd S.u i tp tf r (ax y) (rs.map ax) nx B K (hi:=hi)) ab #[ub (by show(ax y::rs.map ax).length<=4001;simp at a⊢;rw[ag2 a]),ab] (aV) ⟨⟩]
end
def jk:PG->!(!N)
 |[]=>[]
 |y::g=>if y.2.1=0 then y.1::jk g else jk g
def RQ(h:∀f∈zs,f.a≠sz):∃v,(sz,az es n)::zs.map (be us)=(#[sz,es,n]::zs).map (be v):=by
 rw[#[λy=>if y=sz then#[[]]else us y,(bV▸?_)]];have K:(sz,az es n)=be (λy=>if y=sz then#[[]]else us y) #[sz,es,n]:=by show _=(sz,bi es n<|if sz=sz then _ else _);rw[(if_pos rfl)▸?_];rfl
 have O:zs.map (be us)=zs.map (be λy=>if y=sz then#[[]]else us y):=oN λf B=>by show _=(f.a,bi f.es f.n<|if f.a=sz then _ else _);rw[if_neg<|h f B,]
 simp only[<-K,<-O]
section
variable{x:Wd} {ol:!aX} {S:Sg} {d:Sv} {zs:!Fr}
abbrev s5(ol:!aX)(z:N):Mk:=#[none,some (jd z::ol),false]
abbrev qM(z:N):bj:=fQ iB 0 (.ref<|z+2) (.ref<|z+3)<|ko z
abbrev L7(S:Sg)(z i ne:N)(es:!bv)(xs:!af)(nx:N)(d:!bv)(L:N):ao:=[S.N es ne,(z+2,hK S.nd (i:Int) es ne),(z+3,aa #[xs] nx),(z+4,ak d L)]
inductive Q7 (x:Wd) (S:Sg) (z ne:N) (ns:!Nd) (acc:!(!N)) (one:Bool) (F':Fs):aL->ao->Prop
 |mk {L':ao} (t4:N) (v4:af) (nx:N) (xs:!(!N×N)) (h1:xs.map (·.1)=acc) (h2:L'.Perm ([S.N (aG x.P ns) ne,(z+3,aa #[xs.map ax] nx),(z+4,ak [V x.P kN t4 v4] 1)]++Gr ns)):Q7 x S z ne ns acc one F' (.ok .next) L'
def Pp(P l n r ne):gS false (.type "dict_valueiterator") (.type "dict") (aG P (l++n::r)) ne (l.length:Int) ((aG P (l++n::r)).length:Int) (ad ne) (.ref n.a):=#[rfl,dK,rfl,rfl,kX _,_,by rw[H0 P l n r],rfl]
def RC{z ne nx L:N}{t:N->N}(hz:xs.length<=9000)(i:∀sz tk Z,Ev (ex x (s5 ol z) 440 (.code<|qM z)<|cf [S.N (aG x.P (l++n::r)) ne,n.ob,(z+2,hK S.nd (l.length:Int) (aG x.P (l++n::r)) ne),(z+3,aa #[xs.map ax] nx),(z+4,ak D L)] sz tk J gv [] Z) Z [0,1,2,3,4] (.next<|qM z) [S.N (aG x.P (l++n::r)) ne,n.ob,(z+2,hK S.nd ((l.length+1:N):Int) (aG x.P (l++n::r)) ne),(z+3,aa #[xs.map ax] nx),(z+4,ak [V x.P kN (t tk)<|.ref n.a] 1)] [] [((n.np==0),false)] [gS false (.type "dict_valueiterator") (.type "dict") (aG x.P (l++n::r)) ne (l.length:Int) ((aG x.P (l++n::r)).length:Int) (ad ne)<|.ref n.a])(K:∀sz tk Z,Ev (ex x (s5 ol z) 440 (.code<|qM z)<|cf [S.N (aG x.P (l++n::r)) ne,n.ob,(z+2,hK S.nd (l.length:Int) (aG x.P (l++n::r)) ne),(z+3,aa #[xs.map ax] nx),(z+4,ak D L)] sz tk a6 gv [] Z) Z [0,1,2,3,4] (.next<|qM z) [S.N (aG x.P (l++n::r)) ne,n.ob,(z+2,hK S.nd ((l.length+1:N):Int) (aG x.P (l++n::r)) ne),(z+3,aa ((ar<|xs.map ax).push<|ax (n.k,n.tk))<|nx+1),(z+4,ak [V x.P kN (t tk)<|.ref n.a] 1)] [] [((n.np==0),true)] [cm<|ar<|xs.map ax,gS false (.type "dict_valueiterator") (.type "dict") (aG x.P (l++n::r)) ne (l.length:Int) ((aG x.P (l++n::r)).length:Int) (ad ne)<|.ref n.a])(h:∀F' t G,ay x (s5 ol z) 440 (qM z) F' (L7 S z (l.length+1) ne (aG x.P (l++n::r)) ((xs++if n.np=0 then[(n.k,n.tk)]else[]).map ax) G [V x.P kN t<|.ref n.a] 1++Gr (l++n::r)) Q):ay x (s5 ol z) 440 (qM z) F (L7 S z l.length ne (aG x.P (l++n::r)) (xs.map ax) nx D L++Gr (l++n::r)) Q:=by
 have c:∀(A b f:aH×Obj),(_++Gr (l++n::r)).Perm ([S.N (aG x.P (l++n::r)) ne,n.ob,A,b,f]++(n.ls::(Gr l++Gr r))):=λA b f=>(lK.append_left _).trans<|pm [[S.N (aG x.P (l++n::r)) ne],[A,b,f],[n.ob],n.ls::(Gr l++Gr r)] (.p (.p (.a 0)<|.a 1)<|.p (.a 2)<|.a 3) (.p (.p (.a 0)<|.p (.a 2)<|.a 1)<|.a 3) rfl
 rw[.perm (c _ _ _) ?_];by_cases U:n.np=0
 .rw[bJ (O:=[]) ab λsz tk=>bu (K sz tk) #[by simpa using U,ab] #[by show(xs.map ax).length<=16777216;rw[aU,];rw[rq hz],Pp x.P l n r ne,ab] rfl (aV) ?_]
  have z:=h (fz F []) (t tk)<|nx+1;rw[if_pos U,bf ..]at z;rw[km,];rw[.perm (c _ _ _).symm z]
 .rw[bJ (O:=[]) ab λsz tk=>bu (i sz tk) #[by simpa using U,ab] #[Pp x.P l n r ne,ab] rfl (aV) ?_]
  have z:=h (fz F []) (t tk) nx;rw[if_neg U,bQ]at z;rw[.perm (c _ _ _).symm z]
def afk{z ne:N}:∀{l} {xs:!(!N×N)} {nx t4 v4 F},xs.length+r.length<=9000->ay x (s5 ol z) 440 (qM z) F (L7 S z l.length ne (aG x.P<|l++r) (xs.map ax) nx [V x.P kN t4 v4] 1++Gr (l++r)) (Q7 x S z ne (l++r) (xs.map (·.1)++jk (r.map Nd.pg)) true):=by
 induction r with
 |nil=>intro l xs nx t4 v4 F Z;rw[bQ,];rw[.perm (pm [[S.N (aG x.P l) ne],[(z+2,hK S.nd l.length (aG x.P l) ne)],_,Gr l] (.p (.p (.a 0)<|.p (.a 1)<|.a 2)<|.a 3) (.p (.p (.a 0)<|.a 1)<|.p (.a 2)<|.a 3) rfl) (bJ (O:=[]) ab λB K=>bp (pe ol S.nd ne B K z l.length (aG x.P l) x) ab #[#[rfl,dK,rfl,rfl,by unfold aG;rw[aU,]],ab] (aV) #[t4,v4,nx,xs,(bQ _).symm,.refl _])]
 |cons n r C=>
  intro l xs nx t4 v4 F Z;simp only[dM]at Z;rw[RC (Dj Z) (λE W b=>aoE ol S.nd ne E W z n.a n.d n.b n.tp n.tk nx t4 l.length n.np (aG x.P (l++n::r)) n.k (xs.map ax) v4 x b) (λE W b=>aoF ol S.nd ne E W z n.a n.d n.b n.tp n.tk nx t4 l.length n.np (aG x.P (l++n::r)) n.k (xs.map ax) v4 x b) λT D G=>?_]
  have z:=C (l:=l++[n]) (xs:=xs++if n.np=0 then[(n.k,n.tk)]else[]) (nx:=G) (t4:=D) (v4:=.ref n.a) (F:=T) (by split<;>simp<;>lia)
  rw[<-(by simp:l++n::r=(l++[n])++r),cJ]at z;rw[z.le (d7 _) λA c h U q=>q.casesOn λt4 v4 nx f M X=>#[t4,v4,nx,f,M.trans ?_,X]];show _=_++(if n.np=0 then _ else _);simp only[bf,bZ]
  split<;>rfl
def VL{z ne:N}(hz:r.length<=8000):ay x (s5 ol z) 440 (i_ iB 0 (.ref<|z+2) (.ref<|z+3)<|ko z) F (L7 S z 0 ne (aG x.P (n::r)) [] 0 [] 0++Gr (n::r)) (Q7 x S z ne (n::r) (jk<|(n::r).map Nd.pg) true):=by
 rw[.perm (pm [[S.N (aG x.P (n::r)) ne],[(z+2,hK S.nd 0 (aG x.P (n::r)) ne)],_,Gr (n::r)] (.p (.p (.a 0)<|.p (.a 1)<|.a 2)<|.a 3) (.p (.a 1)<|.p (.p (.a 0)<|.a 2)<|.a 3) rfl) (bJ (O:=[]) ab λB K=>bu (au ol S.nd ne B K z (aG x.P (n::r)) x) ab ab rfl (aV)<|.perm (pm [[S.N (aG x.P (n::r)) ne],_,_,Gr (n::r)] (.p (.a 1)<|.p (.p (.a 0)<|.a 2)<|.a 3) (.p (.p (.a 0)<|.p (.a 1)<|.a 2)<|.a 3) rfl)<|RC (l:=[]) (xs:=[]) (dw _) (λE W b=>aoC ol S.nd ne E W z n.a n.d n.b n.tp n.tk 0 0 n.np (aG x.P (n::r)) n.k [] x b) (λE W b=>aoD ol S.nd ne E W z n.a n.d n.b n.tp n.tk 0 0 n.np (aG x.P (n::r)) n.k [] x b) λT D G=>(afk (l:=[n]) (by split<;>simp<;>lia)).le (d7 _) λA g h U q=>q.casesOn λe d c f M X=>#[e,d,c,f,M.trans ?_,X])]
 show _=(if n.np=0 then _ else _)
 split<;>rfl
abbrev sQ(a nd:N):aH×Obj:=(a,#[.type "dict_values",none,.fields #[[.ref nd]],#[[]]])
abbrev AZ(a:N):aH×Obj:=(a,#[.type "dict",none,.dict #[[]] 2,#[[]]])
abbrev uw(x:Wd)(S:Sg)(d:Sv)(ns:!Nd)(zs:!Fr)(us:N->Array (Option af))(r nr:N)(rs:!(!N×N)):ao:=[S.D x.P (.ref r) d.po d.tp d.nf d.tf,(r,aa #[rs.map ax] nr),S.N (aG x.P ns) d.ne]++(Gr ns++zs.map (be us))
def Gs(x:Wd)(S:Sg)(d:Sv)(ns:!Nd)(zs:!Fr)(b:Bool):Po:=λT A h=>∃(a:N->Array (Option af)) (r w:N) (f:!(!N×N)) (R:ao),f.map (·.1)=jk (ns.map Nd.pg)/\match b with
 |false=>A=.ok (.ret .none)/\h.Perm (uw x S d ns zs a r w f++R)
 |true=>∃e D i z g,A=.error (.ref e)/\h.Perm ((uw x S d ns zs a r w f++[(e,lk D<|.ref i),(i,kR z g)])++R)
abbrev Hp:!N:=[110,111,100,101,115,32,97,114,101,32,105,110,32,97,32,99,121,99,108,101]
abbrev pf(x:Wd)(S:Sg)(z t E l:N):Fr:=#[z,[V x.P bx t<|.ref S.so,V x.P yO E<|.ref l],2]
def Lb(z):(jd z).scope.kind=.function:=by kernel_rfl
def aqP(hk:iV ol zs)(bl:0<f/\f<=4000)(dd:d.rd=.none)(w:1<S.nd)(Y:qd (n::r))(W:F S.so (a9 S.sd))(hz:r.length<=1000)(da:(r.length+1)*f<=4000)(db:iO ((n::r).map Nd.pg) f ((n::r).map (·.k)) []=some b):ay x #[none,some ol,false] 450 (.call (.ref 117) #[[.ref S.so],[]]) F (SN x S d (n::r)++(Gr (n::r)++zs.map (be us))) (Gs x S d (n::r) zs b):=by
 obtain⟨d2,ac,H,J,T,X⟩:=d;obtain rfl:d2=.none:=dd;rw[lU (O:=[(S.so,a9 S.sd)]) #[W,ab] λB K=>bP (an7 S ol H T X B K ac J (aG x.P (n::r)) x) ab #[#[dK,w],ab] (Z:=[S.D x.P .none ac H J T,(B,az _ 1)]++(zs.map (be us)++[sQ (B+1) S.nd])) (pm [[S.D x.P .none ac H J T],[S.N (aG x.P (n::r)) X],[(B,az _ 1)],[sQ (B+1) S.nd],_,Gr (n::r),zs.map<|be us] (.p (.p (.a 0)<|.p (.a 1)<|.p (.a 2)<|.p (.a 3)<|.a 4)<|.p (.a 5)<|.a 6) (.p (.p (.p (.a 1)<|.a 4)<|.a 5)<|.p (.p (.a 0)<|.a 2)<|.p (.a 6)<|.a 3) rfl) ((VL<|akC hz).le ζ λ_ _ _ _ U=>U) λei ef P u q=>?_];rw[q.casesOn λd3 eb c Q L I=>?_];have bo:=bN u;rw[#[_,[S.N (aG x.P (n::r)) X]++(Gr (n::r)++(zs.map (be us)++[sQ (B+1) S.nd])),(I.append_right _).trans<|pm [[S.N (aG x.P (n::r)) X],_,Gr (n::r),_,zs.map<|be us,_] (.p (.p (.p (.a 0)<|.a 1)<|.a 2)<|.p (.a 3)<|.p (.a 4)<|.a 5) (.p (.p (.a 3)<|.a 1)<|.p (.a 0)<|.p (.a 2)<|.p (.a 4)<|.a 5) rfl,_,_,[(S.so,a9 S.sd)],⟨bo _ _ W,ab⟩,λdV G=>bP (yp S ol H T B K c d3 dV G ac J (Q.map ax) eb x) ab ab (Lc:=SN x S #[.ref<|B+3,ac,H,J,T,X] (n::r)++(Gr (n::r)++((B,az _ 1)::zs.map (be us)))) (Z:=(B+3,aa #[Q.map ax] c)::[sQ (B+1) S.nd,AZ<|B+4]) (pm [[S.D x.P (.ref<|B+3) ac H J T],[(B,az _ 1)],[(B+3,aa #[Q.map ax] c)],_,_,Gr (n::r),zs.map<|be us,_] (.p (.p (.a 0)<|.p (.a 1)<|.p (.a 2)<|.a 3)<|.p (.a 4)<|.p (.a 5)<|.p (.a 6)<|.a 7) (.p (.p (.p (.a 0)<|.a 4)<|.p (.a 5)<|.p (.a 1)<|.a 6)<|.p (.a 2)<|.p (.a 7)<|.a 3) rfl) (Qc:=Q5 x S #[.ref<|B+3,ac,H,J,T,X] (n::r) (#[B,[V x.P bx K<|.ref S.so],1]::zs) (.ok<|.ret .none) b) ?_ λem bt c0 dx ⟨⟨h,a6,A⟩,y⟩=>?_]]
 .rw[.nd λj=>?_]
  have hz:=λf bl e=>by have ca:=(rx (by rw[j]:(((SN x S #[.ref<|B+3,ac,H,J,T,X] (n::r)++Gr (n::r))++((B,az _ 1)::zs.map (be us))).map (·.1)).Nodup)).2.1;rw[bV,c_]at ca;rw[ca.1 ?_];simp only[bI];rw[bn.mpr<|bA f bl e]
  rw[dm (RQ (us:=us) (es:=[V x.P bx K<|.ref S.so]) (n:=1) hz) λv ds=>?_];rw[ds,];rw[(aqS (ol:=jd B::ol) (zs:=#[B,_,1]::zs) #[λU=>(nomatch(Lb B).symm.trans U),rfl,hk] bl w Y (an _ _<|bo _ _ W) da db).le ζ λ_ _ _ _ U=>U]
 .have b0:=dP (cb bo) dx
  have ch:(c0++((B+3,aa #[Q.map ax] c)::_)).Perm ([(B,bi _ 1<|h B)]++((uw x S #[.none,ac,H,J,T,X] (n::r) zs h (B+3) c Q)++(a6++[sQ (B+1) S.nd,AZ<|B+4]))):=(A.append_right _).trans<|pm [[S.D x.P (.ref<|B+3) ac H J T],_,Gr (n::r),[(B,bi _ 1<|h B)],zs.map<|be h,a6,[(B+3,aa #[Q.map ax] c)],_] (.p (.p (.p (.p (.a 0)<|.a 1)<|.p (.a 2)<|.p (.a 3)<|.a 4)<|.a 5)<|.p (.a 6)<|.a 7) (.p (.a 3)<|.p (.p (.p (.a 0)<|.p (.a 6)<|.a 1)<|.p (.a 2)<|.a 4)<|.p (.a 5)<|.a 7) rfl
  cases b with
  |false=>subst y;rw[#[_,_,ch,_,_,[],ab,λbs E=>bp (pn ol S.so B K bs E h x) ab ab b0<|Jq h (B+3) c Q _ L rfl<|.refl _]]
  |true=>
   rw[xq y λR ck l ec c5 dt du=>?_];subst ec;obtain⟨a7,a8,rfl⟩:∃a7 a8,ck=a7::a8:=by cases ck with|nil=>cases dt|cons a7 a8=>rw[j8 a7 a8 rfl]
   have d1:f_ (.type "list") (ar (a7::a8)):=#[py,by show(a7::a8).length<=16777216;rw[rq du]];rw[#[_,_,ch,_,_,[(R,aa #[a7::a8] l)],#[c5,ab],λbs E=>jf (pr ol S.so B K bs E R l a8 a7 h x) ab #[d1,ab] (Lc:=[]) (.refl _) λeg ev ew t eh c3=>X9 c3 λe D=>?_]];rw[#[[be h<|pf x S B K E R,(e,lk D .none)],(uw x S #[.none,ac,H,J,T,X] (n::r) zs h (B+3) c Q++(a6++_))++[(D,aD _)],pm [[(e,lk D .none)],_,[be h<|pf x S B K E R],uw x S #[.none,ac,H,J,T,X] (n::r) zs h (B+3) c Q++(a6++_)] (.p (.p (.a 0)<|.a 1)<|.p (.a 2)<|.a 3) (.p (.p (.a 2)<|.a 0)<|.p (.a 3)<|.a 1) rfl,_,_,[],ab,λM z=>xG (prx ol S.so B K D z E R e M h x) ab ab (Lc:=be h (pf x S B K E R)::zs.map (be h)++[(e,lk M .none)]) (Z:=([S.D x.P (.ref<|B+3) ac H J T,(B+3,aa #[Q.map ax] c),S.N (aG x.P (n::r)) X]++Gr (n::r))++((a6++_)++[(D,aD _),(M,aD _)])) (pm [[be h<|pf x S B K E R],[(e,lk M .none)],_,_,Gr (n::r),zs.map<|be h,a6++_,_] (.p (.p (.a 0)<|.p (.a 1)<|.a 2)<|.p (.p (.p (.a 3)<|.p (.a 4)<|.a 5)<|.a 6)<|.a 7) (.p (.p (.p (.a 0)<|.a 5)<|.a 1)<|.p (.p (.a 3)<|.a 4)<|.p (.a 6)<|.p (.a 7)<|.a 2) rfl) λc4 m s ed C o=>?_]];have c2:bg x (fz (fz bt []) []) ((pf x S B K E R::zs).map (be h)++(e,gX (.ref 80) [.ref M,.none,.none,.none,.bool false,.none])::c4) m s:=by have q:=o;rw[bZ]at q;rw[q]
   refine Ll C rfl (hk:=#[λU=>(nomatch(Lb B).symm.trans U),rfl,hk]) c2 λbb g i ep c1=>bX (fz (fz bt []) []) ((pf x S B K E R::zs).map (be i)++[(e,lk M<|.ref bb),(bb,kR B g)]) aV (by rw[bZ,];rw[c1]) ⟨[],_,.refl _,_,_,[],ab,λd0 ea=>bp (pry e d0 ea x) ab ab (cb<|cb b0)<|vb i (B+3) c Q ([be i<|pf x S B K E R]++((a6++[sQ (B+1) S.nd,AZ<|B+4])++[(D,aD [.str #[#[Hp]]<|E+3,.ref R]),(M,aD [.str #[#[Hp]]<|E+3,.ref R])])) L<|vb e M bb B g rfl ?_⟩;rw[pm [[be i<|pf x S B K E R],zs.map<|be i,_,_,Gr (n::r),(a6++_)++_] (.p (.p (.p (.a 0)<|.a 1)<|.a 2)<|.p (.p (.a 3)<|.a 4)<|.a 5) (.p (.p (.p (.a 3)<|.p (.a 4)<|.a 1)<|.a 2)<|.p (.a 0)<|.a 5) rfl]
end
section
variable(K cd D G J a6 nw sz tk q b0 ca ch c0 bt bb e4 dx dV d1 da db dd eb bo bs U a8 t1 nc ea nl a7 eC ei em ep c1 c2 c3 ec eM e5 eN e6 e0 e7 e1 ev e2 ew e3 ey ed ef eg:N) (ck eh ds dt du d0 d2 d3:!N) (bl:!bv) (x:Wd) (Y eB e8:ao)
def NT:av:=ex x aj 300 (.fn 898 #[[.ref K,.ref cd],[]])<|cf [] sz tk (H 0x52212225111221215115555) [] [(K,aa #[[ah [D,G,J] a6]] nw)] Y
def KH(x:Wd)(m b a k:N)(sz:N):Ko:=(NT 0 0 m b a k 0 sz 0 x []).resume
def lf0:∀(x:Wd) Y,Ev (NT K cd D G J a6 nw sz tk x Y) Y [0,1] (.pend 297 aj (.call (.builtin "str.__iter__") #[[ah [D,G,J] a6],[]])<|KH x D G J a6 sz) [(sz,az [V x.P rF tk<|.ref K,V x.P cg (tk+1)<|.ref cd] 2),((sz+1),cE)] [] [] []:=cS
def NU:av:=KH x D G J a6 sz (.ok<|.ret<|.ref q)<|cf [(sz,az [V x.P rF tk<|.ref K,V x.P cg (tk+1)<|.ref cd] 2),((sz+1),cE),(q,#[.type "str_ascii_iterator",none,.fields #[[ah [D,G,J] a6,.int 0 0]],#[[]]])] c0 bt (bif x.b2 then(H 0x5777933ae0dc0dc0dc013)else(H 0x5777933ae0dc0dc0dc03313313)) [iN b0 0,iN ca 0,iN ch 0] [(K,aa #[[ah [D,G,J] a6]] nw)] eB
def KI(x:Wd)(sz:N):Ko:=(NU 0 0 0 0 0 0 0 sz 0 0 0 0 0 0 0 x []).resume
def lf1:∀(x:Wd) c,Ev (NU K cd D G J a6 nw sz tk q b0 ca ch c0 bt x c) c [0,1,3] (.pend 297 aj (.call (.builtin "sum") #[[.ref c0],[]])<|KI x sz) [(sz,az [V x.P rF tk<|.ref K,V x.P cg (tk+1)<|.ref cd] 2),((sz+1),cE)] [(c0,aa #[[iN b0<|bt+3,iN ca<|bt+7,iN ch<|bt+11]] 3)] [] [sw #[#[[65,66,67,68,69,70,71,72,73,74,75,76,77,78,79,80]]] #[#[[J]]] ch,sw #[#[[65,66,67,68,69,70,71,72,73,74,75,76,77,78,79,80]]] #[#[[G]]] ca,sw #[#[[65,66,67,68,69,70,71,72,73,74,75,76,77,78,79,80]]] #[#[[D]]] b0]:=bB
def lf2:∀(x:Wd) f,Ev (KI x sz (.ok<|.ret<|iN bb e4)<|cf [(sz,az [V x.P rF tk<|.ref K,V x.P cg (tk+1)<|.ref cd] 2),((sz+1),cE)] U a8 (bif x.b2 then(H 0x8f0163ae0ae0311144)else(H 0x8f066166163ae0ae0311144)) [iN dx 0,ah [da] 0,iN eb 0,iN dV 0,ah [db] 0,iN bo 0,iN d1 0,ah [dd] 0,iN bs 0] [] f) f [4,6,7,8] (.res<|.ok<|.ret<|.ref<|U+2) [] [((U+2),aa #[[.ref<|U+4,.ref<|U+5,.ref<|U+6]] 3),((U+4),aD [ah [da]<|a8+9,iN eb<|a8+12]),((U+5),aD [ah [db]<|a8+19,iN bo<|a8+22]),((U+6),aD [ah [dd]<|a8+29,iN bs<|a8+32])] [] [gj (ad bb+(0+1+1)) 16<|ad bs,iX #[#[[65,66,67,68,69,70,71,72,73,74,75,76,77,78,79,80]]] (ad d1) #[#[[dd]]],cj (ad bb+(0+1+1)) 16<|ad d1,gj (ad bb+(0+1)) 16<|ad bo,iX #[#[[65,66,67,68,69,70,71,72,73,74,75,76,77,78,79,80]]] (ad dV) #[#[[db]]],cj (ad bb+(0+1)) 16<|ad dV,gj (ad bb+0) 16<|ad eb,iX #[#[[65,66,67,68,69,70,71,72,73,74,75,76,77,78,79,80]]] (ad dx) #[#[[da]]],cj (ad bb+0) 16<|ad dx]:=bB
def lin:∀(x:Wd) Y,Ev (ex x aj 300 (.fn 898 #[[.ref K,.ref cd],[]])<|cf [(cd,ak bl nc)] sz tk (H 0x41d0cf01a0180bc0bc0bc08901890890890c80170150bd0bd0bd086018608608607cf0130110110880c501c50880c501c50880c5011101108801880880880c80100ff850fff1fff850fff1fff850fff1ff9a07cf00c0cc870b00c870b00c870b008701870870870c80d88e8a608e8a608e8a60e1eee777a77171717a1aa151c0555221222a90122121411a90) [.ref ea,.ref a7,.ref bo,.ref a7,.ref bs,.ref a7,.ref ec] [(K,aa #[[ah ck a6,ah eh t1]] nw),(ea,aa #[[.ref ei,.ref em,.ref ep]] nl),(a7,aa #[[.ref c1,.ref c2,.ref c3]] eC),(ei,aD [ah ds eM,iN D e5]),(em,aD [ah dt eN,iN G e6]),(ep,aD [ah du e0,iN J e7]),(bo,aD [ah d0 e1,iN ed ev]),(bs,aD [ah d2 e2,iN ef ew]),(ec,aD [ah d3 e3,iN eg ey])] Y) Y [0,3,11,18,25] (.res<|.ok<|.ret<|.ref<|sz+2) [(cd,ak bl nc)] [((sz+2),aa #[[.ref<|sz+10,.ref<|sz+17,.ref<|sz+24]] 3),((sz+10),aD [ah (d0++ds)<|tk+14,iN ed ev]),((sz+17),aD [ah (d2++dt)<|tk+21,iN ef ew]),((sz+24),aD [ah (d3++du)<|tk+28,iN eg ey])] [] [fL #[#[d3]] #[#[du]],d8 #[[aF c1,aF c2,aF c3]] (ad J)<|aF ec,cR (aI "dict") bl #[#[ck]]<|aF a7,fL #[#[d2]] #[#[dt]],d8 #[[aF c1,aF c2,aF c3]] (ad G)<|aF bs,cR (aI "dict") bl #[#[ck]]<|aF a7,fL #[#[d0]] #[#[ds]],d8 #[[aF c1,aF c2,aF c3]] (ad D)<|aF bo,cR (aI "dict") bl #[#[ck]]<|aF a7,cR (aI "dict") bl #[#[eh]]<|aF ea]:=cS
end
abbrev De:=!N×N×af
def aB(P:eH)(l:!De):!bv:=l.map λe=>V P #[#[e.1]] e.2.1 e.2.2
def aZ{n:Type}:!(!N×n)->!N->Option n
 |[],_=>none
 |e::l,k=>if e.1=k then some e.2 else aZ l k
def DX{n:Type}:∀{l:!(!N×n)} {k},k∉l.map (·.1)->aZ l k=none:=by
 intro J;induction J with
 |nil=>intro _ _;rw[rfl]
 |cons e l C=>intro k U;rw[bV,aY,not_or]at U;rw[(if_neg λq=>U.1 q.symm).trans<|C U.2]
def jN(P l):iT (aB P l)=true:=by unfold iT aB;rw[Fz,];rw[r5.mpr λU U=>rfl]
def Z6:gf #[#[k]] (V P #[#[G]] t v)=decide (G=k):=by show((#[#[G]]:aA)==#[#[k]])=_;rw[p_,];simp
def lp:∀{l},d4 (aB P l) #[#[k]]=(aZ l k).map (·.2):=by
 intro J;induction J with
 |nil=>rw[rfl]
 |cons e l C=>
  show wL _ (List.find? _ (V P #[#[e.1]] e.2.1 e.2.2::aB P l))=_;rw[uD,Z6];by_cases U:e.1=k
  .rw[decide_eq_true U,];rw[(congrArg (wL (·.2))<|show aZ (e::l) k=some e.2 from if_pos U).symm]
  .rw[decide_eq_false U,];rw[C.trans (congrArg (wL (·.2))<|show aZ (e::l) k=aZ l k from if_neg U).symm]
inductive bS (F:Fs):!De->!(!N×PV)->Prop
 |nil:bS F [] []
 |cons {k:!N} {t:N} {v:af} {p:PV} {l:!De} {m:!(!N×PV)}:Rp F p v->bS F l m->bS F ((k,t,v)::l) ((k,p)::m)
def bS.to{F F':Fs}(T:Le F F'){l:!De}{m:!(!N×PV)}(h:bS F l m):bS F' l m:=by
 induction h with
 |nil=>rw[.nil]
 |cons h _ C=>rw[.cons (h.to T) C]
def bS.get{F:Fs}{l:!De}{m:!(!N×PV)}(h:bS F l m){k:!N}{p:PV}(e:aZ m k=some p):∃t v,aZ l k=some (t,v)/\Rp F p v:=by
 induction h with
 |nil=>cases e
 |@cons u t v o l m h _ C=>
  by_cases q:u=k
  .cases(if_pos q).symm.trans e;rw[j9 t v (if_pos q) h]
  .rw[nU (C<|(if_neg q).symm.trans e) λt v a b=>j9 t v ((if_neg q).trans a) b]
def bS.none{F:Fs}{l:!De}{m:!(!N×PV)}(h:bS F l m){k:!N}(e:aZ m k=.none):aZ l k=.none:=by
 induction h with
 |nil=>rfl
 |@cons u D v o l m h _ C=>
  by_cases q:u=k
  .rw[nomatch(if_pos q).symm.trans e]
  .rw[(if_neg q).trans<|C<|(if_neg q).symm.trans e]
def bS.push{F:Fs}{l:!De}{m:!(!N×PV)}(h:bS F l m){k:!N}{t:N}{v:af}{p:PV}(I:Rp F p v):bS F (l++[(k,t,v)]) (m++[(k,p)]):=by
 induction h with
 |nil=>rw[.cons I .nil]
 |cons h _ C=>rw[.cons h C]
def bS.length{F:Fs}{l:!De}{m:!(!N×PV)}(h:bS F l m):l.length=m.length:=by
 induction h with
 |nil=>rfl
 |cons h _ C=>simp[C]
section
variable{x:Wd} {F:Fs} {L X:ao} {A:dW} {D s:aN} {R:aL->Fs->ao->Prop}
def bg.kept(T:bg x F L D s){h':ix}{tk:N}(hk:∀b o,s.heap.get? b=some o->h'.get? b=some o):bg x F L D {s with heap:=h',toks:=tk}:=(T.move (λa o K U=>hk a o U) (λp I=>hk _ _<|T.rep.led p I) T.rep.nd λp I=>.inl<|bw I).tok
abbrev AD(q:N)(l:!N)(t i:N):aH×Obj:=(q,#[.type "str_ascii_iterator",none,.fields #[[.str #[#[l]] t,.int (i:Int) 0]],#[[]]])
def Ye(T:bg x F X D s)(a:∀c∈l,c<128)(f:∀q,R (.ok<|.ret<|.ref q) F [AD q l t 0]):fh (aE pw x.W) A (.call (.builtin "str.__iter__") ⟨[.str ⟨⟨l⟩⟩ t],[]⟩) (λr P=>∃F' L',Le F F'/\bg x F' (L'++X) D P/\R r F' L') s:=by
 rw[gL (lr (E:=λK K=>False) (Q:=λv P=>v=.ref s.heap.objs.size/\P={s with heap:=s.heap.push (AD 0 l t 0).2})<|y8 PySem.F.slot_str_iter rfl PySem.F.entry_str_iter ?_<|PySem.F.args_str_iter_1 _) λr P U=>?_]
 .have e:((#[#[l]]:aA).cps.all (·<128))=true:=by rw[Array.all_eq_true',];intro c d;rw[decide_eq_true (a c<|by simpa using d)]
  show d_ _ _ (do gt (<-newFields (if true&&(#[#[l]]:aA).cps.all (·<128)then"str_ascii_iterator"else"str_iterator") _)) _ _ s;rw[e,];rw[aT<|zc<|bK<|en _ rfl rfl rfl]
 .split at U
  .obtain⟨rfl,rfl⟩:=U
   rw[bX F _ aV (T.new (h':=s.heap) (aV) rfl)<|f _]
  .rw[U.elim]
  .rw[U.elim]
def aqJ(l:!(N×N)):(l.map λp=>ad p.1).sum=ad (l.map (·.1)).sum:=by
 induction l with
 |nil=>rfl
 |cons p l C=>rw[bV,k_,C];rfl
abbrev aO(p:N×N):af:=.int (ad p.1) p.2
def Bs{l:!(N×N)}(O:A.handled=.none)(T:bg x F X D s)(I:F p (aa #[l.map aO] n))(f:∀t,R (.ok<|.ret<|.int (ad (l.map (·.1)).sum) t) F []):fh (aE pw x.W) A (.call (.builtin "sum") ⟨[.ref p],[]⟩) (λr P=>∃F' L',Le F F'/\bg x F' (L'++X) D P/\R r F' L') s:=by
 have o:s.heap.IsList p (vc #[l.map λp=>(ad p.1,p.2)]):=en _ (T.rep.fr _ _ I) rfl #[n,by simp only[aa,vc];congr 1;rw[hU<|by simp[aO]]]
 rw[gL (lr (E:=λJ J=>False) (Q:=λv P=>∃z K t,(∀b Y,s.heap.get? b=some Y->z.get? b=some Y)/\P={s with heap:=z,toks:=K}/\v=.int (ad (l.map (·.1)).sum) t)<|sum_intListG O o λz K i c=>gC z K i c rfl ?_) λr P U=>?_]
 .rw[preSum_eq,]
  congr 1;rw[qp<|by simp,];rw[bI,];rw[aqJ l]
 .split at U
  .rw[gV U λz K t c k Z=>?_]
   subst k;subst Z;rw[bX F [] aV (T.kept c)<|f _]
  .rw[U.elim]
  .rw[U.elim]
end
abbrev ju:=List<|List N×N
def nM(c:ju):PV:=.lst<|c.map λy=>.tup [.str y.1,.int<|ad y.2]
inductive uP (L:ao) (c:ju) (F':Fs):aL->ao->Prop
 |mk (a) (h:Rp F' (nM c) (.ref a)):uP L c F' (.ok (.ret (.ref a))) L
def vh(t:N):ju:=[([65+t%16],t/16),([65+(t+1)%16],(t+1)/16),([65+(t+2)%16],(t+2)/16)]
def xL(R up:ju):ju:=R.map λy=>((up.getD y.2 ([],0)).1++y.1,(up.getD y.2 ([],0)).2)
abbrev al:!N:=[65,66,67,68,69,70,71,72,73,74,75,76,77,78,79,80]
def T4:∀i,i<16->zm #[#[al]] #[#[[65+i]]] 0 16 1=[i]:=by decide+kernel
def T3:∀i,i<16->al[i]? =some (65+i):=by decide+kernel
def DZ(h:i<16):sw #[#[al]] #[#[[65+i]]] i:=#[[],T4 i h]
def DT(h:i<16):iX #[#[al]] (ad i) #[#[[65+i]]]:=yt (T3 i h)<|af3 h
def Er(h:F a (aa #[[.ref D,.ref J,.ref K]] n))(j:F D (aD [.str #[#[a8]] bo,.int (ad U) bs]))(b:F J (aD [.str #[#[bb]] t1,.int (ad a6) bt]))(M:F K (aD [.str #[#[bl]] G,.int (ad a7) b0])):Rp F (nM [(a8,U),(bb,a6),(bl,a7)]) (.ref a):=dT.mpr<|gC a _ n rfl h<|.cons (jJ.mpr<|bX D _ rfl j<|.cons (c9.mpr #[bo,rfl])<|.cons (dS.mpr #[bs,rfl]) .nil)<|.cons (jJ.mpr<|bX J _ rfl b<|.cons (c9.mpr #[t1,rfl])<|.cons (dS.mpr #[bt,rfl]) .nil)<|.cons (jJ.mpr<|bX K _ rfl M<|.cons (c9.mpr #[G,rfl])<|.cons (dS.mpr #[b0,rfl]) .nil) .nil
structure Cl (F:Fs) (a:N) (c:ju) (p:N->N) (t u:N->N) (n:N):Prop where
 l:F a (aa #[[.ref (p 0),.ref (p 1),.ref (p 2)]] n)
 at_:∀i y,c[i]? =some y->F (p i) (aD [.str #[#[y.1]] (t i),.int (ad y.2) (u i)])
def AI(h:Rp F (nM [D,a6,J]) v):∃a p t u n,v=.ref a/\Cl F a [D,a6,J] p t u n:=by
 rw[gV (dT.mp h) λa Q n m c M=>?_];subst m;obtain⟨U,E,rfl,B,M⟩:=cq.mp M;obtain⟨o,E,rfl,g,M⟩:=cq.mp M;obtain⟨x,E,rfl,Z,M⟩:=cq.mp M;obtain rfl:=er.mp M;have b:∀{y:!N×N} {v:af},Rp F (.tup _) v->∃p t u,v=.ref p/\F p (aD [.str #[#[y.1]] t,.int (ad y.2) u]):=λh=>by rw[cp (jJ.mp h) λp Q P c M=>?_];subst P;obtain⟨l,E,rfl,K,M⟩:=cq.mp M;obtain⟨q,E,rfl,R,M⟩:=cq.mp M;obtain rfl:=er.mp M;obtain⟨t,rfl⟩:=c9.mp K;obtain⟨u,rfl⟩:=dS.mp R;rw[u_ p t u rfl c]
 rw[je (b B) λd k f m j=>?_];subst m;rw[je (b g) λr Y A m s=>?_];subst m;rw[je (b Z) λw G X m L=>?_];subst m;refine vb a (λi=>match i with|0=>d|1=>r|_=>w) (λi=>match i with|0=>k|1=>Y|_=>G) (λi=>match i with|0=>f|1=>A|_=>X) n rfl #[c,λi y e=>?_]
 match i,e with
 |0,e=>cases e;rw[j]
 |1,e=>cases e;rw[s]
 |2,e=>cases e;rw[L]
 |_+3,e=>cases e
section
variable{x:Wd} {F:Fs}
abbrev Id(x:Wd)(n cd z t:N):aH×Obj:=(z,az [V x.P rF t<|.ref n,V x.P cg (t+1)<|.ref cd] 2)
abbrev G4(z:N):aH×Obj:=(z+1,#[.type "cell",none,.cell none,#[[]]])
def ara(f:a6<16)(M:a7<16)(X:a8<16)(Y:F bb (aa #[[.str #[#[[65+a6,65+a7,65+a8]]] bl]] nw)):ay x aj 300 (.call (.ref 898) #[[.ref bb,.ref cd],[]]) F [] (uP []<|vh<|a6+a7+a8):=by refine fq (O:=[(bb,aa #[_] nw)]) #[Y,ab] λB K=>jf (Lc:=[]) (lf0 bb cd (65+a6) (65+a7) (65+a8) bl nw B K x) ab ab (.refl _) λw m s A C o=>Ye o (by intro Z d;simp at d;rw[af4 f M X d]) λq=>#[_,[],pm [[AD q _ bl 0],[Id x bb cd B K,G4 B]] (.p (.a 0)<|.p (.a 1) .z) (.p (.p (.a 1)<|.a 0) .z) rfl,_,_,[(bb,aa ⟨_⟩ nw)],⟨an _ _ Y,ab⟩,λJ G=>jf (Lc:=[]) (lf1 bb cd (65+a6) (65+a7) (65+a8) bl nw B K q a6 a7 a8 J G x) ab #[DZ X,DZ M,DZ f,ab] (.refl _) λi U j h c b=>Bs (l:=[(a6,G+3),(a7,G+7),(a8,G+11)]) c.2.1 b (bc<|.head _) λg=>?_];have e:([(a6,G+3),(a7,G+7),(a8,G+11)].map (·.1)).sum=a6+a7+a8:=af5;simp only[e];rw[#[[Id x bb cd B K,G4 B],[],.refl _,_,_,[],ab,λD E=>bp (lf2 bb cd B K (a6+a7+a8) g ((a6+a7+a8)%16) ((a6+a7+a8+1)%16) ((a6+a7+a8+2)%16) (65+(a6+a7+a8)%16) (65+(a6+a7+a8+1)%16) (65+(a6+a7+a8+2)%16) ((a6+a7+a8)/16) ((a6+a7+a8+1)/16) ((a6+a7+a8+2)/16) D E x) ab #[mH ζ ζ rfl,DT<|bq _<|ζ,fX ζ rfl,mH ζ ζ rfl,DT<|bq _<|ζ,fX ζ rfl,mH ζ ζ rfl,DT<|bq _<|ζ,fX ζ rfl,ab] (cb an) #[D+2,?_]]];rw[Er (bc<|.head _) (bc<|.tail _<|.head _) (bc<|.tail _<|.tail _<|.head _)<|bc<|.tail _<|.tail _<|.tail _<|.head _]
def BP{p:N->N}(h:c<3):d8 (ar [aF<|p 0,aF<|p 1,aF<|p 2]) (ad c) (.ref<|p c):=by rw[gr ?_<|ala h];rw[oh c h rfl λh=>oh c h rfl λh=>oh c h rfl λh=>nomatch h]
def ZD{up:ju}(f:up.length=3)(h:c<3):up[c]? =some (up.getD c ([],0)):=by rw[hV,eG<|af6 f h];rfl
def arb(Y:F bb (aa #[[.str #[#[G]] bo,.str #[#[bl]] t1]] nw))(t:bS F a8 m)(bt:aZ m bl=some (nM [a6,J,a7]))(f:aZ m G=some (nM up))(X:up.length=3)(h:∀y∈[a6,J,a7],y.2<3/\y.1≠[]/\y.1.length<=100)(h':∀z∈up,z.1≠[]/\z.1.length<=100):ay x aj 300 (.call (.ref 898) #[[.ref bb,.ref cd],[]]) F [(cd,ak (aB x.P a8) nc)] (uP [(cd,ak (aB x.P a8) nc)]<|xL [a6,J,a7] up):=by
 rw[nU (t.get bt) λW ck E w=>nU (t.get f) λch c0 M b0=>?_];rw[Bo (HX X) λa L c n=>?_];subst n;rw[nV (AI w) λg p H Q A Z I=>?_];subst Z;rw[nV (AI b0) λl q C T U Z u=>?_];subst Z;have o:d4 (aB x.P a8) #[#[G]]=some (.ref l):=by simp only[lp,M];rfl
 have j:=h a6<|.head _;have i:=h J<|.tail _<|.head _;have P:=h a7<|.tail _<|.tail _<|.head _;have D:∀y:!N×N,y.2<3->F (q y.2) (aD _)/\([a,L,c].getD y.2 ([],0)).1≠[]/\([a,L,c].getD y.2 ([],0)).1.length<=100:=λy b=>by have e:=ZD (up:=[a,L,c]) rfl b;rw[#[u.at_ _ _ e,h' _<|uE e]]
 rw[ek (D a6 j.1) λs ac R=>ek (D J i.1) λr bs d=>ek (D a7 P.1) λk S ca=>?_];rw[fq (O:=[(bb,aa #[_] nw),(g,aa #[_] A),(l,aa #[_] U),(p 0,_),(p 1,_),(p 2,_),(q a6.2,_),(q J.2,_),(q a7.2,_)]) #[Y,I.l,u.l,I.at_ 0 a6 rfl,I.at_ 1 J rfl,I.at_ 2 a7 rfl,s,r,k,ab] λB K=>bp (lin bb cd a6.2 J.2 a7.2 bo nw B K (q a6.2) (q J.2) t1 nc g A l U (p 0) (p 1) (p 2) (q 0) (q 1) (q 2) (q a7.2) (H 0) (Q 0) (H 1) (Q 1) (H 2) (Q 2) (C a6.2) (T a6.2) (C J.2) (T J.2) (C a7.2) (T a7.2) ([a,L,c].getD a6.2 ([],0)).2 ([a,L,c].getD J.2 ([],0)).2 ([a,L,c].getD a7.2 ([],0)).2 G bl a6.1 J.1 a7.1 ([a,L,c].getD a6.2 ([],0)).1 ([a,L,c].getD J.2 ([],0)).1 ([a,L,c].getD a7.2 ([],0)).1 (aB x.P a8) x) ab #[ji S P.2.1<|by lia,BP P.1,#[dK,jN _ _,o],ji bs i.2.1<|by lia,BP i.1,#[dK,jN _ _,o],ji ac j.2.1<|by lia,BP j.1,#[dK,jN _ _,o],#[dK,jN _ _,(by simp only[lp,E];rfl)],ab] (aV) #[B+2,?_]]
 rw[Er (bc<|.head _) (bc<|.tail _<|.head _) (bc<|.tail _<|.tail _<|.head _)<|bc<|.tail _<|.tail _<|.tail _<|.head _]
end
abbrev jO(l:!N):aA:=#[#[l]]
abbrev oy(l:!(!N)):Prop:=PyProof.Rows.sortedS (l.map jO)=true
def aqF:∀(rs:!(!N×N)),Gp (rs.map ax) ((rs.map (·.1)).map jO):=by
 intro J;induction J with
 |nil=>rw[.nil]
 |cons y rs C=>rw[.cons _ _<|C]
def aqG(h:Gp vs ss):∃rs:!(!N×N),vs=rs.map ax/\ss=(rs.map (·.1)).map jO:=by
 induction h with
 |nil=>rw[bA [] rfl rfl]
 |cons y D _ C=>obtain⟨rs,rfl,rfl⟩:=C;rw[bA ((y.cps.toList,D)::rs) rfl rfl]
section
variable{x:Wd} {F:Fs} {L X:ao} {A:dW} {D s:aN} {R:aL->Fs->ao->Prop}
def aqD:∀{l m:!(!N)},(l.map jO).Perm (m.map jO)->l.Perm m:=λU=>by have:=U.map (λs:aA=>s.cps.toList);simp only[bI,bI,show((λs:aA=>s.cps.toList)∘jO)=id from rfl,r7,r7]at this;rw[this]
def HV{rs:!(!N×N)}(T:bg x F X D s)(m:s.heap.get? q=some o)(ac:C="list"\/C="tuple")(d:o.cls=.type C)(t:o.data=.seq #[rs.map ax] n)(Y:rs.length<64)(f:∀(a e:N) (i:!(!N×N)),(i.map (·.1)).Perm (rs.map (·.1))->oy (i.map (·.1))->R (.ok<|.ret<|.ref a) F [(a,aa ⟨i.map ax⟩ e)]):fh (aE pw x.W) A (.call (.builtin "sorted") ⟨[.ref q],[]⟩) (λr P=>∃F' L',Le F F'/\bg x F' (L'++X) D P/\R r F' L') s:=by
 have O:=aqF rs;rw[gL (lr (E:=λ_ _=>False) (Q:=λv P=>∃F' L',Le F F'/\bg x F' (L'++X) D P/\R (.ok<|.ret v) F' L')<|Calls.call_function_entry PyProof.Rows.kind_sorted PyProof.Rows.plain_sorted PyProof.Rows.entry_sorted (PyProof.Rows.args_sorted1 _) ?_) λr P U=>?_]
 .unfold Builtin.«sorted»
  refine aT (bK<|aT<|wpAny_collect_seq q ac m d t (λz c=>(aT<|wpAny_newList ?_)) (by show(rs.map ax).length<=16777216;rw[aU,];rw[ajP Y]));have k:(z.push<|z8 "list" (rs.map ax).toArray 0).get? z.objs.size=some (z8 "list" (rs.map ax).toArray 0):=rU _ rfl;refine aT (iw<|y8 PyProof.Rows.slot_list_sort (s:={s with heap:=z.push<|z8 "list" (rs.map ax).toArray 0}) (bA _ k rfl) PyProof.Rows.entry_list_sort (PyProof.Rows.list_sort_treeK PyProof.Rows.strKind_oneLt k O.keysOf (λL M a8 e=>PyProof.Rows.keyKind_strs<|e▸O) (by rw[aU,];rw[Y]) λJ I a6=>bA _ rfl<|kG (PyProof.Rows.sorted_out_str O I a6) λB g Z S=>aJ (aqG g) λi K a7=>?_)<|PyProof.Rows.args_list_sort _);subst a7;rw[dm (PyProof.Rows.sortedHeap_at (out:=(Tx J).map (·.2)) k) λl W=>?_];have u:=hU K;rw[u]at W;rw[bK<|bA _ rfl<|bX F _ aV ?_<|f _ l i (aqD Z) S];have w:∀b h,s.heap.get? b=some h->(PyProof.Rows.sortedHeap (z.push<|z8 "list" (rs.map ax).toArray 0) z.objs.size (rs.map ax)<|(Tx J).map (·.2)).get? b=some h:=λb h y=>by have G:=iI<|c b h y;rw[PyProof.Rows.sortedHeap_old (lZ G) (by rw[zw,];rw[zN G]),];rw[kW _<|c b h y]
  rw[T.move (λb h _ U=>w b h U) (λp I=>?_) ?_ λp I=>?_]
  .rw[(aY.mp I).elim (λj=>?_) λI=>?_]
   .subst j
    rw[u,];rw[W]
   .rw[w _ _<|T.rep.led p I]
  .show((z.objs.size::X.map (·.1))).Nodup
   rw[c_,];rw[⟨λH=>(aJ (bn.mp H) λp I e=>absurd e<|lZ<|iI<|c _ _<|T.rep.led p I),T.rep.nd⟩]
  .rcases aY.mp I with rfl|I
   .rw[.inr ?_]
    cases e:s.heap.get? z.objs.size with
    |none=>rfl
    |some h=>rw[absurd (iI<|c _ _ e)<|ni _]
   .rw[.inl<|bw I]
 .split at U
  .rw[U]
  .rw[U.elim]
  .rw[U.elim]
end
section
variable{x:Wd} {F:Fs} {L X:ao} {A:dW} {D s:aN} {R:aL->Fs->ao->Prop}
def asp(m:s.heap.get? d=some (ak es n))(a:iT es=true)(w:d4 es k=.none)(hz:es.length<=9000)(h:∀h',Heap.SameBut d s.heap h'->h'.get? d=some (ak (es++[V x.P k t v])<|n+1)->Q () {s with heap:=h',toks:=s.toks+1}):d_ (aE pw x.W) A (dictSet d (.str k t) v) Q E s:=by refine iw (aT<|ze<|iw<|aT<|ww m rfl a<|(Bk w)▸(aT<|oB<|R7 (hz:=by rw[rq hz]) m rfl<|h _ (Sq ..) ?_));rw[qf _ m rfl,];congr 1;simp[Gi,ak,V,hashStr,Mine.hs];rfl
abbrev ot(p:N×De):af:=.ref p.1
inductive GG (x:Wd) (d:N) (es:!De) (F':Fs):aL->ao->Prop
 |mk (n):GG x d es F' (.ok (.ret .none)) [(d,ak (aB x.P es) n)]
def RM(O:a6.v=.none):∀{ps:!(N×De)} {es n i J F},J.cls=.type "list_iterator"->J.data=.fields (List.toArray [.ref l,.int (ps.length:Int) 0])->F l (aa #[(ps++rest).map ot] nl)->(∀p∈rest,F p.1<|aD [ax (p.2.1,p.2.2.1),p.2.2.2])->(es++rest.map (·.2)).length<=9000->((es++rest.map (·.2)).map (·.1)).Nodup->ay x a6 b (.builtin "dict.update.loop" #[[.ref d,.ref it,.int (i:Int) 0,.none],[]]) F [(it,J),(d,ak (aB x.P es) n)] (GG x d<|es++rest.map (·.2)):=by
 induction rest with
 |nil=>intro ps es n i J F a7 S t I Z g w m s A C B;have Q:=B.rep.led;refine AO (b:=Builtin.«dict.update.loop») (cz<|by kernel_rfl) (aT<|wpAny_pyNext_list_end (C.2.1.trans O) (en _ (Q _<|.head _) a7 S) (en _ (B.rep.fr _ _ t) rfl ⟨nl,rfl⟩) (by simp) λz c=>(aT<|bK<|bK<|bX F _ aV ?_ (by rw[r8,bQ];rw[#[n]])));have ac:=B.rep.nd;have K:(it::d::w.map (·.1)).Nodup:=ac;rw[c_]at K;rw[(B.sub (L':=(d,ak (aB x.P es) n)::w)<|S8 _ _).move (λa Y W U=>c a Y (λe=>?_) U) (λp I=>c _ _ (λe=>K.1<|e▸bw I)<|Q p<|.tail _ I) K.2 λp I=>.inl<|bw I];cases e;rw[B.rep.dj _ (.head _) Y W]
 |cons p rest c2=>
  intro ps es n i J F a7 S t I Z g w m s A C B;have Q:=B.rep.led;have bs:=I p<|.head _;obtain⟨o,j,D,v⟩:=p;have ac:(it::d::w.map (·.1)).Nodup:=B.rep.nd;have bb:=c_.mp ac;have bo:d≠it:=λe=>bb.1<|e▸.head _;have bl:∀a Y,F a Y->a≠it:=λa Y U e=>by subst e;rw[B.rep.dj _ (.head _) Y U]
  have f:∀a Y,F a Y->a≠d:=λa Y U e=>by subst e;rw[B.rep.dj _ (.tail _<|.head _) Y U]
  refine AO (b:=Builtin.«dict.update.loop») (cz<|by kernel_rfl) (aT<|wpAny_pyNext_list_item (x:=.ref o) (en _ (Q _<|.head _) a7 S) (en _ (B.rep.fr _ _ t) rfl ⟨nl,rfl⟩) (by simp) λz c1 R=>(aT<|iw ?_));have bt:=(R.2 o<|bl _ _ bs).trans<|B.rep.fr _ _ bs;rw[aT<|wpAny_tryCatch<|aT<|oD (bA _ bt rfl)<|aT<|zg bt rfl<|bK ?_];have E:=(R.2 d bo).trans<|Q _<|.tail _<|.head _;have c:d4 (aB x.P es) #[#[j]]=.none:=by
   rw[lp,];have:=λU=>by rw[bf,jV]at g;rw[g.2.2 j U j (.head _) rfl]
   rw[(DX this)▸?_];rfl
  refine iw (asp E (jN _ _) c (by unfold aB;rw[aU,];simp at Z;rw[Dj Z]) λM a8 H=>?_);have ca:aB x.P es++[V x.P #[#[j]] D v]=aB x.P (es++[(j,D,v)]):=by unfold aB;rw[bf▸?_];rfl
  rw[ca]at H;have G:(ps++(o,j,D,v)::rest)=(ps++[(o,j,D,v)])++rest:=by simp
  have c3:(ps++[(o,j,D,v)]).length=ps.length+1:=by simp
  rw[kG c1 λb0 c0 k ck=>?_];have y:bg x F ([(it,b0),(d,ak (aB x.P<|es++[(j,D,v)])<|n+1)]++w) m {s with heap:=M,toks:=s.toks+1}:=by
   rw[(B.move (L':=[(it,b0),(d,ak (aB x.P<|es++[(j,D,v)])<|n+1)]++w) (h':=M) (λa Y W U=>(a8.2 a<|f a Y W).trans<|(R.2 a<|bl a Y W).trans U) (λq u=>?_) ac λq u=>?_).tok]
   .rcases aY.mp u with rfl|u
    .rw[(a8.2 _ bo.symm).trans c0]
    .rcases aY.mp u with rfl|u
     .rw[H]
     .rw[(a8.2 _<|(λq u e=>(c_.mp bb.2).1 (e▸bw u):∀q∈w,q.1≠d) q u).trans<|(R.2 _<|(λq u e=>bb.1 (.tail _<|e▸bw u):∀q∈w,q.1≠it) q u).trans<|Q q<|.tail _<|.tail _ u]
   .rcases aY.mp u with rfl|u
    .rw[.inl<|.head _]
    .rcases aY.mp u with rfl|u
     .rw[.inl<|.tail _<|.head _]
     .rw[.inl<|.tail _<|.tail _<|bw u]
  rw[bK ⟨O8 (by decide+kernel) _,(jz (c2 k (c3▸ck) (G▸t) (λp U=>I p<|.tail _ U) (by simpa using Z) (by simpa using g) w m _ A C y) λr P L=>cp L λT h ch M X=>bX T h ch M (by rw[show es++((o,j,D,v)::rest).map (·.2)=es++[(j,D,v)]++rest.map (·.2) by simp,];rw[X]))⟩]
end
abbrev wb(nx:af)(z:N)(g:!af):Obj:=#[.type "traceback",none,.fields #[nx::.ref z::.none::.none::.none::g],#[[]]]
def ae6{z:Fr}{n v3 v4 v5:af}{Q:af->aN->Prop}(C:fJ b bb A)(l:bb.fs=some (a6::a8))(hk:iV (a6::a8) (z::zs))(S:bg x F ((z::zs).map (be u)++(e,gX cls [a7,bo,n,v3,v4,v5])::X) bl s)(k:∀T g i c,bg x F ((z::zs).map (be i)++(e,gX cls [a7,.ref T,n,v3,v4,v5])::(T,wb nx z.a g)::X) bl c->Q .none c):d_ (aE pw x.W) A (do setField (.ref e) 1 (<-EntryCells.newEntry nx (<-frameOf a6) .none (im z.a) .none (<-entryPlaceOf z.a bs))) (λ_ c=>d_ (aE pw x.W) A (setFlight (.ref e) none) (λ_ c=>d_ (aE pw x.W) A (.pure .none) Q E c) E c) E s:=by
 have y:∀a,{s.heap with objs:=(List.toArray [])}.get? a=none:=λa=>rfl;rw[ct (BM y hk λf B=>S.rep.led _<|fZ _<|bw B) λc0 H=>?_];have t:=S.rep.led _<|dX _<|.head _;rw[aT<|wpAny_frameOf_fun (C.2.2.2 _ l) c0 hk.2.1 λh r=>(aT<|wpAny_entryPlaceOf λg M=>(aT<|zc ?_<|M.sizeOk5 _ _ _ _ _))];have c5:e∉(a6::a8).filterMap (·.frame):=λU=>by rw[ct (c0.mem U) λ_ R=>aJ R λY m da=>?_];simp only[t]at m;injection m with m;subst m;rw[da _ rfl]
 have ca:h.get? e=some (gX cls _):=(r.2.1 e c5).trans t;generalize dd:(if g.isEmpty then wI 6 i7 else g)=pl';have ch:=kW {cls:=.type "traceback",dict:=none,data:=.fields ([nx,.ref z.a,.none,im z.a,.none]++pl').toArray} ca;refine p8 ch rfl (show 1<6 by decide) ?_;have bt:=lg<|iI ca;have ck:=qf (iW (·.setIfInBounds 1 (aF h.objs.size))) ch rfl;have b0:=(oI (h.push {cls:=.type "traceback",dict:=none,data:=.fields ([nx,.ref z.a,.none,im z.a,.none]++pl').toArray}) (iW (·.setIfInBounds 1 (aF h.objs.size)))<|uK bt).trans<|rU h rfl;rw[aT<|jt (x:=.ref h.objs.size) ck rfl rfl ?_];dsimp only[if_pos<|show(aF h.objs.size !=i7)=true from by simp];refine p8 b0 rfl (by simp) ?_;have O:∀b Y,b≠e->h.get? b=some Y->(((h.push {cls:=.type "traceback",dict:=none,data:=.fields ([nx,.ref z.a,.none,im z.a,.none]++pl').toArray}).update e<|iW (·.setIfInBounds 1 (aF h.objs.size))).update h.objs.size <|iW (·.setIfInBounds 3 ((none:Option aH).elim i7 λf=>im f))).get? b=some Y:=λb Y c4 y=>by rw[oI _ _<|lg<|iI y,oI _ _<|uK c4];rw[kW _ y]
 have c3:∀f∈z::zs,h.get? f.a=some (bi f.es f.n<|((h.get? f.a).map (·.slots)).getD (List.toArray [])):=λf B=>by have j:=S.rep.led _<|fZ _<|bw B;rw[dm (r.2.2 f.a _ j) λsl c2=>c2▸?_];rfl
 have c1:∀b Y,b∉(z::zs).map (·.a)->s.heap.get? b=some Y->h.get? b=some Y:=λb Y y U=>(r.2.1 b<|H▸y).trans U;have L:∀v:N->Array (Option af),((z::zs).map<|be v).map (·.1)=(z::zs).map (·.a):=λv=>by rw[bI,];rfl
 have K:((z::zs).map (·.a)++e::X.map (·.1)).Nodup:=by
  have q:((z::zs).map (be u)++(e,gX cls [a7,bo,n,v3,v4,v5])::X).map (·.1)=(z::zs).map (·.a)++e::X.map (·.1):=by rw[bf,L];rfl
  simp only[<-q];rw[S.rep.nd]
 simp only[jV]at K;rw[ek K λdb J D=>?_];rw[c_]at J;have w:∀a Y,s.heap.get? a=some Y->a≠h.objs.size:=λa Y U=>r.1.symm▸lZ (iI U);rw[bK<|k h.objs.size pl' (λa=>((h.get? a).map (·.slots)).getD (List.toArray [])) _<|S.move ?_ ?_ ?_ ?_]
 .intro a Y W U
  rw[O a Y (λq=>?_)<|c1 a Y (λG=>?_) U]
  .subst q;rw[S.rep.dj _ (dX _<|.head _) Y W]
  .rw[aJ (bn.mp G) λf B P=>?_]
   subst P;rw[S.rep.dj _ (fZ _<|bw B) Y W]
 .intro p I
  rcases ej.mp I with I|I
  .rw[aJ (bn.mp I) λf B P=>?_]
   subst P;rw[O f.a _ (D f.a (bw B) e<|.head _)<|c3 f B]
  .rw[(aY.mp I).elim (λac=>?_) λI=>?_]
   .subst ac
    rw[oI _ _ bt,];rw[ck]
   .rw[(aY.mp I).elim (λac=>?_) λI=>?_]
    .subst ac
     rw[qf _ b0 rfl]
    .have j:=S.rep.led p<|dX _<|.tail _ I
     rw[O p.1 _ (λq=>J.1<|q▸bw I)<|c1 _ _ (λG=>D _ G p.1 (.tail _<|bw I) rfl) j]
 .simp only[bf,L]
  simp only[jV];rw[⟨db,c_.mpr ⟨λU=>?_,c_.mpr #[λU=>?_,J.2]⟩,λa o Z d=>?_⟩]
  .rcases aY.mp U with U|U
   .rw[w _ _ t U]
   .rw[J.1 U]
  .rw[aJ (bn.mp U) λp I q=>w _ _ (S.rep.led p<|dX _<|.tail _ I) q]
  .rcases aY.mp d with rfl|d
   .rw[D a o _<|.head _]
   .rcases aY.mp d with rfl|d
    .rw[aJ (bn.mp o) λf B P=>?_]
     subst P;rw[w _ _<|S.rep.led _<|fZ _<|bw B]
    .rw[D a o Z<|.tail _ d]
 .intro p I
  rcases ej.mp I with I|I
  .rw[aJ (bn.mp I) λf B P=>?_]
   subst P;rw[.inl<|bn.mpr #[be u f,fZ _<|bw B,rfl]]
  .rcases aY.mp I with rfl|I
   .rw[.inl<|bn.mpr #[_,dX _<|.head _,rfl]]
   .rcases aY.mp I with rfl|I
    .rw[.inr ?_]
     cases q:s.heap.get? h.objs.size with
     |none=>rfl
     |some Y=>rw[absurd rfl<|w _ _ q]
    .rw[.inl<|bn.mpr #[p,dX _<|.tail _ I,rfl]]
def ae5{z:Fr}{n v3 v4 v5:af}(C:fJ b a8 A)(l:a8.fs=some (J::bb))(hk:iV (J::bb) (z::zs))(S:bg x F ((z::zs).map (be u)++(e,gX cls [G,.ref D,n,v3,v4,v5])::(D,kR a7 K)::X) a6 s)(k:∀T g i P,bg x F ((z::zs).map (be i)++(e,gX cls [G,.ref T,n,v3,v4,v5])::(T,wb (.ref D) z.a g)::(D,kR a7 K)::X) a6 P->Q .none P):d_ (aE pw x.W) A (rj J<|.ref e) Q E s:=by
 have W:=S.rep.led _<|dX _<|.tail _<|.head _;rw[aT ?_];unfold xY tX;refine hk.2.1▸(aT<|aT<|jt (x:=.ref D) (S.rep.led _<|dX _<|.head _) rfl rfl<|aT<|jt (x:=.none) W rfl rfl<|aT<|p8 W rfl (by simp) ?_);have y:bg x F ((z::zs).map (be u)++(e,gX cls [G,.ref D,n,v3,v4,v5])::(D,kR a7 K)::X) a6 {s with heap:=s.heap.update D<|iW (·.setIfInBounds 3 .none)}:=by
  have o:∀a Y,s.heap.get? a=some Y->(s.heap.update D<|iW (·.setIfInBounds 3 i7)).get? a=some Y:=λa Y U=>by
   by_cases q:a=D
   .cases q
    rw[W]at U;injection U with U;subst U;rw[(qf (iW (·.setIfInBounds 3 i7)) W rfl)]
   .rw[oI _ _<|uK q,];rw[U]
  rw[S.move (λa Y _ U=>o a Y U) (λp I=>o _ _<|S.rep.led p I) S.rep.nd λp I=>.inl<|bw I]
 rw[ul (ae6 C l hk y k) (λ_ _ U=>ul U (λ_ _ U=>U) λ_ _ U=>U) λ_ _ U=>U]
section
variable{x:Wd} {F:Fs} {L X:ao} {A:dW} {D s:aN} {R:aL->Fs->ao->Prop} {G:Mk} {b:N} {Q:Po}
abbrev pI(m c d:N):aH×Obj:=(m,#[.type "method",none,.fields #[[.ref c,.ref d]],#[[]]])
def Rx(g:ay x G b (.call (.ref J) #[.ref K::U,[]]) F L Q):ay x G b (.call (.ref m) #[U,[]]) F ([pI m J K]++L) Q:=λw c s A C B=>by rw[codeAny_of_tree<|aT<|wpAny_load (B.rep.led _<|.head _)<|bK #[rfl,(jz (g _ c s A C (B.perm<|pm [[pI m J K],L,w] (.p (.p (.a 0)<|.a 1)<|.a 2) (.p (.a 1)<|.p (.a 0)<|.a 2) rfl:bg x F (L++(pI m J K::w)) c s)) λr P d=>cp d λT h l H q=>bX T h l (H.sub<|(List.Sublist.refl h).append<|S8 _ _) q)]]
def Rn{n:Type}(p:n->Bool):∀(l:!n),l.drop (l.takeWhile p).length=l.dropWhile p:=by
 intro J;induction J with
 |nil=>rw[rfl]
 |cons a l C=>
  by_cases U:p a=true
  .rw[S9,if_pos U,SP,if_pos U]
   rw[C]
  .rw[S9,if_neg U,SP,if_neg U];rfl
def X_(T:bg x F X D s)(c:l.length<=9000)(f:∀i,R (.ok<|.ret (.str ⟨⟨l.dropWhile (·==65)⟩⟩ i)) F []):fh (aE pw x.W) A (.call (.builtin "str.lstrip") ⟨[.str ⟨⟨l⟩⟩ t,.str ⟨⟨[65]⟩⟩ u],[]⟩) (λr P=>∃F' L',Le F F'/\bg x F' (L'++X) D P/\R r F' L') s:=by
 have d:((#[#[[65]]]:aA).cps.contains)=(·==65):=by funext Z;rw[p_,];simp
 have K:PySem.stripLo (#[#[[65]]]:aA).cps.contains true #[#[l]]=(l.takeWhile (·==65)).length:=by rw[d▸?_];rfl
 rw[gL (lr (E:=λJ J=>False) (Q:=λv P=>∃F' L',Le F F'/\bg x F' (L'++X) D P/\R (.ok<|.ret v) F' L')<|call_gives PySem.F.slot_str_lstrip rfl PySem.F.entry_str_lstrip (PySem.F.args_str_lstrip_2 _ _) (gives_str_lstrip_chars ⟨⟨l⟩⟩ ⟨⟨[65]⟩⟩ t u) ?_) λr P U=>?_]
 .by_cases U:PySem.stripSame (#[#[[65]]]:aA).cps.contains true false #[#[l]]=true
  .rw[if_pos U,]
   have b:(l.takeWhile (·==65)).length=0:=by unfold PySem.stripSame at U;rw[kp,K]at U;simpa using U.1
   have a:l.dropWhile (·==65)=l:=by rw[<-Rn,b];rfl
   rw[a]at f;rw[bX F [] aV T<|f _]
  .rw[if_neg U,]
   have a:PySem.stripped (#[#[[65]]]:aA).cps.contains true false #[#[l]]=#[#[l.dropWhile (·==65)]]:=by unfold PySem.stripped;rw[(λj=>rfl:∀j,PySem.stripHi (#[#[[65]]]:aA).cps.contains false #[#[l]] j=l.length),K,<-Rn];show(#[(#[l]:Array N).extract _ _]:aA)=_;congr 1;rw[hU (by simp;rw[qp<|S1▸d7 _])]
   rw[a▸#[?_,F,[],aV,T.tok,f _]];have:(l.dropWhile (·==65)).length<=l.length:=(SQ _).length_le;rw[aiw c this]
 .split at U
  .rw[U]
  .rw[U.elim]
  .rw[U.elim]
end
section
structure W7 where
 us:N->Array (Option af)
 z:N
 rl:N
 bd:N
 ro:N
 cd:N
 f0:N
 f1:N
 f2:N
 f3:N
 f4:N
 f5:N
 f6:N
 v0:af
 v3:af
abbrev lw(x:Wd)(S:Sg)(w:W7)(W:!bv):!bv:=V x.P bU w.f0 (.ref w.rl)::V x.P b5 w.f1 (.ref S.so)::V x.P bD w.f2 w.v0::V x.P cK w.f3 w.v3::V x.P eL w.f4 (.ref w.bd)::V x.P cD w.f5 (.ref w.ro)::V x.P cg w.f6 (.ref w.cd)::W
abbrev xC(x:Wd)(S:Sg)(z w f0 f1:N)(q:Option (N×af)):aH×Obj:=q.rec (z,az [V x.P bU f0<|.ref w,V x.P b5 f1<|.ref S.so] 2) λp=>(z,az [V x.P bU f0<|.ref w,V x.P b5 f1<|.ref S.so,V x.P bD p.1 p.2] 3)
abbrev wV(x:Wd)(H:N)(q:Option (N×af)):aH×Obj:=(H,q.rec (ak [] 0) λp=>ak [V x.P bD p.1 p.2] 1)
variable(w:W7) (S:Sg) (ol:!aX) (D nr sz tk bs nw z so sd nd it tp tf f0 f1 b0 em da J c1 d0 f2 a7 dt e eb ea ei bt t4 ac na f5 U eg nb G K eN e0 cd f3 f4 f6 r q bb f8 nc dV c0 c ds ec d3 ed ef dx db du d dd bo ew d2 eh:N) (bl ev ch vs:!af) (a6 po nf:Int) (u:N->N) (n d1 a b k l y:!N) (v0 v5 v3 ca v8:af) (us c2:N->Array (Option af)) (ck a8:!bv) (rs:!(!N×N)) (x:Wd) (Y c3 ep ey eB eC eM e1:ao)
def DH:av:=ex x #[none,some ol,false] 600 (.fn 903 #[[.ref D],[]])<|cf [] sz tk (H 0x58212255516c00c00aa014c1031311b9055) [] [(D,aa #[bl] nr)] Y
def KZ(x:Wd)(ol:!aX)(sz:N):Ko:=(DH ol 0 0 sz 0 [] x []).resume
def apa:∀(x:Wd) Y,Ev (DH ol D nr sz tk bl x Y) Y [0,1,4,5,2] (.pend 597 #[none,some (cn sz::ol),false] (bL b_ 1 (.ref<|sz+5)<|cn sz)<|KZ x ol sz) [(sz,az [V x.P bU tk<|.ref D,V x.P b5 (tk+13)<|.ref<|sz+2] 2),((sz+1),ak [V x.P PX (tk+4)<|.ref<|sz+4,V x.P PY (tk+6) .none,V x.P PZ (tk+9)<|.int (0)<|tk+7,V x.P P9 (tk+12)<|.int (0)<|tk+10] 4),((sz+4),ak [] 0),((sz+5),c7 D 0)] [((sz+2),#[.ref 162,some<|sz+1,.plain,#[[]]])] [] []:=cS
def Oc(S:Sg)(w:N)(nr:N)(sz:N)(tk:N)(e:N)(nw:N)(z:N)(it:N)(tp:N)(tf:N)(f0:N)(f1:N)(p:N)(E:N)(P:!af)(g:Int)(po:Int)(nf:Int)(n:!N)(j:!N)(d:Option (N×af))(x:Wd)(Y:ao):av:=ex x aj 590 (.code<|bL b_ 1 (.ref it)<|cn z)<|cf [xC x S z w f0 f1 d,(it,c7 w g),(S.D x.P .none po tp nf tf)] sz tk (bif x.b2 then(H 0xd405cc0f40)else(H 0xd405cc0ad0f40)) [.ref e] [(w,aa #[P] nr),(e,aa #[[ah n p,ah j E]] nw),(S.so,a9 S.sd)] Y
def KX(x:Wd)(z it:N)(n:!N)(p:N)(sz:N):Ko:=(Oc #[0,0,0,λn=>n] 0 0 sz 0 0 0 z it 0 0 0 0 p 0 [] 0 0 0 n [] none x []).resume
def Oa(S:Sg)(w:N)(nr:N)(sz:N)(tk:N)(e:N)(nw:N)(z:N)(it:N)(tp:N)(tf:N)(f0:N)(f1:N)(p:N)(f:N)(c:N)(P:!af)(g:Int)(po:Int)(nf:Int)(n:!N)(a:!N)(b:!N)(d:Option (N×af))(x:Wd)(Y:ao):av:=ex x aj 590 (.code<|bL b_ 1 (.ref it)<|cn z)<|cf [xC x S z w f0 f1 d,(it,c7 w g),(S.D x.P .none po tp nf tf)] sz tk (bif x.b2 then(H 0xed09dddd1c4cc0f40)else(H 0xed09dddd1c4cc0ad0f40)) [.ref e] [(w,aa #[P] nr),(e,aa #[[ah n p,ah a f,ah b c]] nw),(S.so,a9 S.sd)] Y
def KW(x:Wd)(z it:N)(n a b:!N)(p f c:N)(sz:N):Ko:=(Oa #[0,0,0,λn=>n] 0 0 sz 0 0 0 z it 0 0 0 0 p f c [] 0 0 0 n a b none x []).resume
def Od(S:Sg)(w:N)(nr:N)(sz:N)(tk:N)(e:N)(nw:N)(z:N)(it:N)(tp:N)(tf:N)(f0:N)(f1:N)(p:N)(f:N)(P:!af)(g:Int)(po:Int)(nf:Int)(n:!N)(a:!N)(d:Option (N×af))(x:Wd)(Y:ao):av:=ex x aj 590 (.code<|bL b_ 1 (.ref it)<|cn z)<|cf [xC x S z w f0 f1 d,(it,c7 w g),(S.D x.P .none po tp nf tf)] sz tk (bif x.b2 then(H 0xed0f40)else(H 0xed0ad0f40)) [.ref e] [(w,aa #[P] nr),(e,aa #[[ah n p,ah a f]] nw),(S.so,a9 S.sd)] Y
def KY(x:Wd)(z it:N)(n a:!N)(p f:N)(sz:N):Ko:=(Od #[0,0,0,λn=>n] 0 0 sz 0 0 0 z it 0 0 0 0 p f [] 0 0 0 n a none x []).resume
section
variable{w S ol D nr sz tk bs nw z so sd nd it tp tf f0 f1 b0 em da J c1 d0 f2 a7 dt e eb ea ei bt t4 ac na f5 U eg nb G K eN e0 cd f3 f4 f6 r q bb f8 nc dV c0 c ds ec d3 ed ef dx db du d dd bo ew d2 eh bl ev ch vs a6 po nf u n d1 a b k l y v0 v5 v3 ca v8 ck a8}
def rL:∀d (x:Wd) Y,Ev (Oc S D nr sz tk bs nw z it tp tf f0 f1 b0 em bl a6 po nf n d1 d x Y) Y [3,0,1,2] (.pend 589 aj (.call (.ref sz) #[[ah n b0],[]])<|KX x z it n b0 sz) ([(sz,#[.type "method",none,.fields #[[.ref 112,.ref S.so]],#[[]]])]++[(z,az [V x.P bU f0<|.ref D,V x.P b5 f1<|.ref S.so,V x.P bD (fC d tk)<|.ref bs] 3),(it,c7 D<|a6+1),(S.D x.P .none po tp nf tf)]) [] [((decide<|(d1.length:Int)<3),false)] [l6 (aI j3) (ar [])<|ar [],dI #[#[d1]],df #[bl] a6<|aF bs]:=gd
def rI:∀d (x:Wd) Y,Ev (Oa S D nr sz tk bs nw z it tp tf f0 f1 b0 c1 d0 bl a6 po nf n a b d x Y) Y [3,0,1,2] (.pend 589 aj (.call (.ref sz) #[[ah n b0,ah a c1,ah b d0],[]])<|KW x z it n a b b0 c1 d0 sz) ([(sz,#[.type "method",none,.fields #[[.ref 112,.ref S.so]],#[[]]])]++[(z,az [V x.P bU f0<|.ref D,V x.P b5 f1<|.ref S.so,V x.P bD (fC d tk)<|.ref bs] 3),(it,c7 D<|a6+1),(S.D x.P .none po tp nf tf)]) [] [((decide<|(b.length:Int)<3),true),((decide<|(a.length:Int)<3),true)] [l6 (aI j3) (ar [])<|ar [ah a c1,ah b d0],dI #[#[b]],dI #[#[a]],df #[bl] a6<|aF bs]:=gd
def rX:∀d (x:Wd) Y,Ev (Od S D nr sz tk bs nw z it tp tf f0 f1 b0 c1 bl a6 po nf n a d x Y) Y [3,0,1,2] (.pend 589 aj (.call (.ref sz) #[[ah n b0,ah a c1],[]])<|KY x z it n a b0 c1 sz) ([(sz,#[.type "method",none,.fields #[[.ref 112,.ref S.so]],#[[]]])]++[(z,az [V x.P bU f0<|.ref D,V x.P b5 f1<|.ref S.so,V x.P bD (fC d tk)<|.ref bs] 3),(it,c7 D<|a6+1),(S.D x.P .none po tp nf tf)]) [] [((decide<|(a.length:Int)<3),true)] [l6 (aI j3) (ar [])<|ar [ah a c1],dI #[#[a]],df #[bl] a6<|aF bs]:=gd
def cL:∀d (x:Wd) Y,Ev (ex x aj 590 (.code<|fQ b_ 1 (.ref it) (.ref ac)<|fO b_ 1 (cn z)<|ac+1)<|cf [(it,c7 D a6),(ac,aa #[ch] na),wV x (ac+1) d] sz tk (H 0x548a6aa0a103aa103143f0aa1031a80) [.ref bs] [(D,aa #[bl] nr),(bs,aa #[[ah n b0,ah d1 em]] nw)] Y) Y [0,1,2,4,5] (.next<|fQ b_ 1 (.ref it) (.ref ac)<|fO b_ 1 (cn z)<|ac+1) [(it,c7 D<|a6+1),(ac,aa ((ar ch).push<|aF<|sz+2)<|na+1),((ac+1),ak [V x.P bD (fC d tk)<|.ref bs] 1)] [((sz+1),aa #[[ah d1 em]] 0),((sz+2),aD [ah n b0,.ref<|sz+1])] [(((d1.length:Int)==3),true)] [cm #[ch],dI #[#[d1]],df #[bl] a6<|aF bs]:=gd
def cI:∀d (x:Wd) Y,Ev (ex x aj 590 (.code<|fQ b_ 1 (.ref it) (.ref ac)<|fO b_ 1 (cn z)<|ac+1)<|cf [(it,c7 D a6),(ac,aa #[ch] na),wV x (ac+1) d] sz tk (H 0x548a6aa0a103aa103a80) [.ref bs] [(D,aa #[bl] nr),(bs,aa #[[ah n b0,ah a c1,ah b d0]] nw)] Y) Y [0,1,2,4,5] (.next<|fQ b_ 1 (.ref it) (.ref ac)<|fO b_ 1 (cn z)<|ac+1) [(it,c7 D<|a6+1),(ac,aa ((ar ch).push<|aF<|sz+2)<|na+1),((ac+1),ak [V x.P bD (fC d tk)<|.ref bs] 1)] [((sz+1),aa #[[ah a c1,ah b d0]] 0),((sz+2),aD [ah n b0,.ref<|sz+1])] [] [cm #[ch],df #[bl] a6<|aF bs]:=gd
def cX:∀d (x:Wd) Y,Ev (ex x aj 590 (.code<|fQ b_ 1 (.ref it) (.ref ac)<|fO b_ 1 (cn z)<|ac+1)<|cf [(it,c7 D a6),(ac,aa #[ch] na),wV x (ac+1) d] sz tk (H 0x153f0aa1031a80) [.ref bs] [(D,aa #[bl] nr),(bs,aa #[[ah n b0,ah a c1]] nw)] Y) Y [0,1,2] (.next<|fQ b_ 1 (.ref it) (.ref ac)<|fO b_ 1 (cn z)<|ac+1) [(it,c7 D<|a6+1),(ac,aa #[ch] na),((ac+1),ak [V x.P bD (fC d tk)<|.ref bs] 1)] [] [(((a.length:Int)==3),false)] [dI #[#[a]],df #[bl] a6<|aF bs]:=gd
end
def ao9:∀(x:Wd) c,Ev (KX x z it n b0 sz (.ok<|.ret .none)<|cf [] da J [] [] [] c) c [] (.next<|bL b_ 1 (.ref it)<|cn z) [] [] [] []:=bB
def ao8:∀(x:Wd) c,Ev (KW x z it n a b b0 c1 d0 sz (.ok<|.ret .none)<|cf [] da J [] [] [] c) c [] (.next<|bL b_ 1 (.ref it)<|cn z) [] [] [] []:=bB
def ao_:∀(x:Wd) c,Ev (KY x z it n a b0 c1 sz (.ok<|.ret .none)<|cf [] da J [] [] [] c) c [] (.next<|bL b_ 1 (.ref it)<|cn z) [] [] [] []:=bB
def rAe:Ev (ex x aj 590 (.code<|bL b_ 1 (.ref it)<|cn z)<|cf [(it,c7 D a6)] sz tk (H 0xa70) [] [(D,aa #[bl] nr)] Y) Y [] (.res<|.ok .next) [] [] [] [h_ #[bl] a6]:=by kernel_rfl
def DI:av:=KZ x ol sz (.ok .next)<|cf [(sz,az [V x.P bU tk<|.ref D,V x.P b5 (tk+13)<|.ref<|sz+2,V x.P bD f2 v0] 3),((sz+1),jq x.P u (sz+4) .none po tp nf tf)] da J (H 0xa50555) [] [((sz+2),a9<|sz+1)] c3
def CS(x:Wd)(ol:!aX)(sz:N):Ko:=(DI ol 0 sz 0 0 0 0 0 0 0 0 (λn=>n) .none x []).resume
def apb:∀(x:Wd) c,Ev (DI ol D sz tk tp tf da J f2 po nf u v0 x c) c [0,1] (.pend 597 #[none,some (cn sz::ol),false] (.call (.ref 117) #[[.ref<|sz+2],[]])<|CS x ol sz) [(sz,az [V x.P bU tk<|.ref D,V x.P b5 (tk+13)<|.ref<|sz+2,V x.P bD f2<|v0,V x.P cK J<|.bool true] 4),((sz+1),jq x.P u (sz+4) .none po tp nf tf)] [] [] []:=cS
def Ol:av:=CS x ol sz (.ok<|.ret .none)<|cf [(sz,bi [V x.P bU tk<|.ref D,V x.P b5 (tk+13)<|.ref<|sz+2,V x.P bD f2 v0,V x.P cK J<|.bool true] 4<|us sz)] a7 dt (H 0x542122511) [] [(D,aa #[bl] nr)] ep
def K4(x:Wd)(ol:!aX)(sz:N)(D:N):Ko:=(Ol ol 0 0 sz 0 0 0 D 0 [] .none (λ_=>#[[]]) x []).resume
def rk:∀(x:Wd) f,Ev (Ol ol D nr sz tk J f2 a7 dt bl v0 us x f) f [0,1,2,3] (.pend 597 #[none,some (cn sz::ol),false] (i_ b_ 1 (.ref a7) (.ref<|a7+1)<|fO b_ 1 (cn sz)<|a7+2)<|K4 x ol sz a7) [(sz,bi [V x.P bU tk<|.ref D,V x.P b5 (tk+13)<|.ref<|sz+2,V x.P bD f2 v0,V x.P cK J<|.bool true] 4<|us sz),(a7,c7 D 0),((a7+1),aa #[[]] 0),((a7+2),ak [] 0)] [] [] []:=bB
def Og:av:=CS x ol sz (.error<|.ref e)<|cf [(sz,bi [V x.P bU tk<|.ref D,V x.P b5 (tk+13)<|.ref<|sz+2,V x.P bD f2 v0,V x.P cK J<|.bool true] 4<|us sz),(e,#[.ref 80,none,.fields #[[.ref eb,.ref ea,.none,.none,.bool false,.none]],#[[]]])] a7 dt [] [] [] ep
def K0(x:Wd)(ol:!aX)(sz:N)(e:N):Ko:=(Og ol 0 sz 0 0 0 0 0 e 0 0 .none (λ_=>#[[]]) x []).resume
def re:∀(x:Wd) f,Ev (Og ol D sz tk J f2 a7 dt e eb ea v0 us x f) f [0,1] (.gx 597 #[none,some (cn sz::ol),false] (rj (cn sz)<|.ref e)<|K0 x ol sz e) [(sz,bi [V x.P bU tk<|.ref D,V x.P b5 (tk+13)<|.ref<|sz+2,V x.P bD f2 v0,V x.P cK J<|.bool true] 4<|us sz),(e,#[.ref 80,none,.fields #[[.ref eb,.ref ea,.none,.none,.bool false,.none]],#[[]]])] [] [] []:=cS
def Oh:av:=K0 x ol sz e (.ok<|.ret .none)<|cf [(sz,bi [V x.P bU tk<|.ref D,V x.P b5 (tk+13)<|.ref<|sz+2,V x.P bD f2 v0,V x.P cK J<|.bool true] 4<|c2 sz),(e,#[.ref 80,none,.fields #[[.ref eb,.ref ei,.none,.none,.bool false,.none]],#[[]]]),(ei,#[.type "traceback",none,.fields #[.ref ea::.ref sz::.none::.none::.none::ev],#[[]]])] bt t4 (H 0x562122511553341141c10) [] [(D,aa #[bl] nr)] ey
def K1(x:Wd)(ol:!aX)(sz:N)(M:N):Ko:=(Oh ol 0 0 sz 0 0 0 0 0 0 0 M 0 [] [] .none (λ_=>#[[]]) x []).resume
def rg:∀(x:Wd) i,Ev (Oh ol D nr sz tk J f2 e eb ea ei bt t4 bl ev v0 c2 x i) i [0,3,4,5] (.pend 597 #[none,some (cn sz::ol),false] (i_ b_ 1 (.ref bt) (.ref<|bt+1)<|fO b_ 1 (cn sz)<|bt+2)<|K1 x ol sz bt) [(sz,bi [V x.P bU tk<|.ref D,V x.P b5 (tk+13)<|.ref<|sz+2,V x.P bD f2 v0,V x.P cK J<|.bool false] 4<|c2 sz),(bt,c7 D 0),((bt+1),aa #[[]] 0),((bt+2),ak [] 0)] [] [] []:=bB
def cs:∀(x:Wd) Y,Ev (ex x aj 590 (.code<|i_ b_ 1 (.ref it) (.ref ac)<|fO b_ 1 (cn z)<|ac+1)<|cf [(it,c7 D 0)] sz tk (bif x.b2 then[]else(H 0xb50)) [] [] Y) Y [0] (.next<|fQ b_ 1 (.ref it) (.ref ac)<|fO b_ 1 (cn z)<|ac+1) [(it,c7 D 0)] [] [] []:=bB
def ce:Ev (ex x aj 590 (.code<|fQ b_ 1 (.ref it) (.ref ac)<|fO b_ 1 (cn z)<|ac+1)<|cf [(it,c7 D a6)] sz tk (H 0xa70) [] [(D,aa #[bl] nr)] Y) Y [] (.res<|.ok .next) [] [] [] [h_ #[bl] a6]:=by kernel_rfl
def Om:av:=K4 x ol sz a7 (.ok .next)<|cf [(sz,bi [V x.P bU tk<|.ref D,V x.P b5 (tk+13)<|.ref<|sz+2,V x.P bD f2 v0,V x.P cK J<|.bool true] 4<|us sz),((a7+1),aa #[ch] na),((a7+2),ak [V x.P bD f5 v5] 1)] U eg (H 0xd30) [] [] ey
def K5(x:Wd)(ol:!aX)(sz:N)(D:N)(c:N):Ko:=(Om ol 0 sz 0 0 0 D 0 0 c 0 [] .none .none (λ_=>#[[]]) x []).resume
def rkd:∀(x:Wd) i,Ev (Om ol D sz tk J f2 a7 na f5 U eg ch v0 v5 us x i) i [0,6,3,1] (.pend 593 aj (.builtin "dict.update.loop" #[[.ref U,.ref<|U+3,.int 0 0,.none],[]])<|K5 x ol sz a7 U) [(sz,bi [V x.P bU tk<|.ref D,V x.P b5 (tk+13)<|.ref<|sz+2,V x.P bD f2 v0,V x.P cK J<|.bool true] 4<|us sz),((U+3),c7 (a7+1) 0),(U,ak [] 0)] [((a7+1),aa #[ch] na)] [] []:=bB
def Op:av:=K5 x ol sz a7 U (.ok<|.ret .none)<|cf [(sz,bi [V x.P bU tk<|.ref D,V x.P b5 (tk+13)<|.ref<|sz+2,V x.P bD f2 v0,V x.P cK J<|.bool true] 4<|us sz),(U,ak ck nb)] G K (H 0x55c30) [] [] eB
def CU(x:Wd)(ol:!aX)(sz:N):Ko:=(Op ol 0 sz 0 0 0 0 0 0 0 0 .none (λ_=>#[[]]) [] x []).resume
def rkw:∀(x:Wd) g,Ev (Op ol D sz tk J f2 a7 U nb G K v0 us ck x g) g [0,1,2,3] (.pend 597 #[none,some (cn sz::ol),false] (cM b_ 10<|cn sz)<|CU x ol sz) [(sz,bi [V x.P bU tk<|.ref D,V x.P b5 (tk+13)<|.ref<|sz+2,V x.P bD f2 v0,V x.P cK J<|.bool true,V x.P eL K<|.ref U,V x.P cD (K+1)<|.ref G,V x.P cg (K+2)<|.ref<|G+1] 7<|us sz),(U,ak ck nb),(G,aa #[[]] 0),((G+1),ak [] 0)] [] [] []:=bB
def Oi:av:=K1 x ol sz bt (.ok .next)<|cf [(sz,bi [V x.P bU tk<|.ref D,V x.P b5 (tk+13)<|.ref<|sz+2,V x.P bD f2 v0,V x.P cK J<|.bool false] 4<|c2 sz),((bt+1),aa #[ch] na),((bt+2),ak [V x.P bD f5 v5] 1)] U eg (H 0xd30) [] [] eB
def K2(x:Wd)(ol:!aX)(sz:N)(M:N)(c:N):Ko:=(Oi ol 0 sz 0 0 0 M 0 0 c 0 [] .none .none (λ_=>#[[]]) x []).resume
def rgd:∀(x:Wd) g,Ev (Oi ol D sz tk J f2 bt na f5 U eg ch v0 v5 c2 x g) g [0,6,3,1] (.pend 593 aj (.builtin "dict.update.loop" #[[.ref U,.ref<|U+3,.int 0 0,.none],[]])<|K2 x ol sz bt U) [(sz,bi [V x.P bU tk<|.ref D,V x.P b5 (tk+13)<|.ref<|sz+2,V x.P bD f2 v0,V x.P cK J<|.bool false] 4<|c2 sz),((U+3),c7 (bt+1) 0),(U,ak [] 0)] [((bt+1),aa #[ch] na)] [] []:=bB
def Ok:av:=K2 x ol sz bt U (.ok<|.ret .none)<|cf [(sz,bi [V x.P bU tk<|.ref D,V x.P b5 (tk+13)<|.ref<|sz+2,V x.P bD f2 v0,V x.P cK J<|.bool false] 4<|c2 sz),(U,ak ck nb)] G K (H 0x55c30) [] [] eC
def CT(x:Wd)(ol:!aX)(sz:N):Ko:=(Ok ol 0 sz 0 0 0 0 0 0 0 0 .none (λ_=>#[[]]) [] x []).resume
def rgw:∀(x:Wd) C,Ev (Ok ol D sz tk J f2 bt U nb G K v0 c2 ck x C) C [0,1,2,3] (.pend 597 #[none,some (cn sz::ol),false] (cM b_ 10<|cn sz)<|CT x ol sz) [(sz,bi [V x.P bU tk<|.ref D,V x.P b5 (tk+13)<|.ref<|sz+2,V x.P bD f2 v0,V x.P cK J<|.bool false,V x.P eL K<|.ref U,V x.P cD (K+1)<|.ref G,V x.P cg (K+2)<|.ref<|G+1] 7<|c2 sz),(U,ak ck nb),(G,aa #[[]] 0),((G+1),ak [] 0)] [] [] []:=bB
def Ox:av:=ex x aj 580 (.code<|cM b_ 10<|cn w.z)<|cf [(w.z,bi (lw x S w []) 7<|w.us w.z),(S.D x.P (.ref r) po tp nf tf)] sz tk (H 0xa505) [] [(S.so,a9 S.sd)] Y
def vf(x:Wd)(z:N):Ko:=(Ox #[λ_=>#[[]],z,0,0,0,0,0,0,0,0,0,0,0,.none,.none] #[0,0,0,λn=>n] 0 0 0 0 0 0 0 x []).resume
def w0a:Ev (Ox w S sz tk tp tf r po nf x Y) Y [0,1] (.pend 579 aj (.call (.ref 131) #[[.ref S.so],[]])<|vf x w.z) [(w.z,bi (lw x S w []) 7<|w.us w.z),(S.D x.P (.ref r) po tp nf tf)] [] [] []:=by kernel_rfl
def w0e:Ev (vf x z (.ok<|.ret<|.bool false)<|cf [] da J [0] [] [] c3) c3 [] (.res<|.ok .next) [] [] [] []:=by kernel_rfl
def Oy:av:=vf x w.z (.ok<|.ret<|.bool true)<|cf [(w.z,bi (lw x S w []) 7<|w.us w.z),(S.D x.P (.ref r) po tp nf tf)] da J (H 0xa5051) [] [(S.so,a9 S.sd)] c3
def xV(x:Wd)(z:N):Ko:=(Oy #[λ_=>#[[]],z,0,0,0,0,0,0,0,0,0,0,0,.none,.none] #[0,0,0,λn=>n] 0 0 0 0 0 0 0 x []).resume
def w0b:Ev (Oy w S tp tf da J r po nf x c3) c3 [0,1] (.pend 579 aj (.call (.ref 124) #[[.ref S.so],[]])<|xV x w.z) [(w.z,bi (lw x S w []) 7<|w.us w.z),(S.D x.P (.ref r) po tp nf tf)] [] [] []:=by kernel_rfl
def Oz:av:=xV x w.z (.ok<|.ret<|.ref q)<|cf [(w.z,bi [V x.P bU w.f0<|.ref w.rl,V x.P b5 w.f1<|.ref so,V x.P bD w.f2 w.v0,V x.P cK w.f3 w.v3,V x.P eL w.f4<|.ref w.bd,V x.P cD w.f5<|.ref w.ro,V x.P cg w.f6<|.ref w.cd] 7<|w.us w.z)] a7 dt (H 0x542122555) [] [(q,aD<|rs.map ax)] ep
def CX(x:Wd)(z:N):Ko:=(Oz #[λ_=>#[[]],z,0,0,0,0,0,0,0,0,0,0,0,.none,.none] 0 0 0 0 [] x []).resume
def w0c:∀(x:Wd) f,Ev (Oz w so a7 dt q rs x f) f [0,1] (.pend 579 aj (bL b_ 12 (.ref a7)<|cn w.z)<|CX x w.z) [(w.z,bi [V x.P bU w.f0<|.ref w.rl,V x.P b5 w.f1<|.ref so,V x.P bD w.f2 w.v0,V x.P cK w.f3 w.v3,V x.P eL w.f4<|.ref w.bd,V x.P cD w.f5<|.ref w.ro,V x.P cg w.f6<|.ref w.cd,V x.P ez dt<|.ref q] 8<|w.us w.z),(a7,fu q 0)] [] [] []:=cS
def DK(x:Wd)(us:N->Array (Option af))(z w so sd nd a D cd f0 f1 f2 f3 f4 f5 f6:N)(v0 v3:af)(q:N)(rs:!(!N×N))(b:N->N)(c:N)(e d:Int)(f X U I:N)(P:af)(M t4:N)(i:ao):av:=CX x z (.ok .next)<|cf [(z,bi [V x.P bU f0<|.ref w,V x.P b5 f1<|.ref so,V x.P bD f2 v0,V x.P cK f3 v3,V x.P eL f4<|.ref a,V x.P cD f5<|.ref D,V x.P cg f6<|.ref cd,V x.P ez U<|.ref q,V x.P d6 I P] 9<|us z),(sd,jq x.P b nd (.ref c) e f d X)] M t4 (H 0x5136623270a51c104122fe0211125) [] [(so,a9 sd),(q,aD<|rs.map ax)] i
def CY(x:Wd)(z:N)(rs:!(!N×N))(M:N):aL->aR->av:=(DK x (λ_=>#[[]]) z 0 0 0 0 0 0 0 0 0 0 0 0 0 0 .none .none 0 rs (λn=>n) 0 0 0 0 0 0 0 .none M 0 []).resume
def RV(x us z w so sd nd a D cd f0 f1 f2 f3 f4 f5 f6 v0 v3 q rs b c e d f X U I P M t4 i)(hv:rs.length<10):Ev (DK x us z w so sd nd a D cd f0 f1 f2 f3 f4 f5 f6 v0 v3 q rs b c e d f X U I P M t4 i) i [2,0,1] (.pend 579 aj (.call (.ref M) #[(rs.map ax),[]])<|CY x z rs M) ([(M,#[(.type "method"),none,.fields #[[(.ref 145),(.ref so)]],#[[]]])]++[(z,bi [V x.P bU f0<|.ref w,V x.P b5 f1<|.ref so,V x.P bD f2 v0,V x.P cK f3 v3,V x.P eL f4<|.ref a,V x.P cD f5<|.ref D,V x.P cg f6<|.ref cd,V x.P ez U<|.ref q,V x.P d6 I P] 9<|us z),(sd,jq x.P b nd (.ref c) e f d X)]) [] [] [(l6 (aI "tuple") (ar [])<|ar<|rs.map ax)]:=Bv (λx=>DK x us z w so sd nd a D cd f0 f1 f2 f3 f4 f5 f6 v0 v3 q rs b c e d f X U I P M t4 i) (λx=>CY x z rs M) (by revert rs;rw[we<|by kernel_rfl])
def DL(x:Wd)(us:N->Array (Option af))(z w so a D cd f0 f1 f2 f3 f4 f5 f6:N)(v0 v3:af)(q:N)(rs:!(!N×N))(U I:N)(P:af)(M:N)(b:N)(B:!af)(c d:N)(g:ao):av:=CY x z rs M (.ok<|.ret .none)<|cf [(z,bi [V x.P bU f0<|.ref w,V x.P b5 f1<|.ref so,V x.P bD f2 v0,V x.P cK f3 v3,V x.P eL f4<|.ref a,V x.P cD f5<|.ref D,V x.P cg f6<|.ref cd,V x.P ez U<|.ref q,V x.P d6 I P] 9<|us z),(D,aa #[B] b)] c d (H 0x5511a905) [] [(q,aD<|rs.map ax)] g
def CZ(x:Wd)(z D:N)(rs:!(!N×N)):aL->aR->av:=(DL x (λ_=>#[[]]) z 0 0 0 D 0 0 0 0 0 0 0 0 .none .none 0 rs 0 0 .none 0 0 [] 0 0 []).resume
def RW(x us z w so a D cd f0 f1 f2 f3 f4 f5 f6 v0 v3 q rs U I P M b B c d g)(hv:rs.length<10):Ev (DL x us z w so a D cd f0 f1 f2 f3 f4 f5 f6 v0 v3 q rs U I P M b B c d g) g [0,1] (.pend 579 aj (.call (.builtin "sorted") #[[(.ref q)],[]])<|CZ x z D rs) [(z,bi [V x.P bU f0<|.ref w,V x.P b5 f1<|.ref so,V x.P bD f2 v0,V x.P cK f3 v3,V x.P eL f4<|.ref a,V x.P cD f5<|.ref D,V x.P cg f6<|.ref cd,V x.P ez U<|.ref q,V x.P d6 I P] 9<|us z),(D,(aa (ar B) b))] [] [] []:=Bv (λx=>DL x us z w so a D cd f0 f1 f2 f3 f4 f5 f6 v0 v3 q rs U I P M b B c d g) (λx=>CZ x z D rs) (by revert rs;rw[we<|by kernel_rfl])
def OA(x:Wd)(us:N->Array (Option af))(z w so a D cd f0 f1 f2 f3 f4 f5 f6:N)(v0 v3:af)(q:N)(rs:!(!N×N))(U I:N)(P:af)(b:N)(B:!af)(f:N)(X o:N)(C:ao):av:=CZ x z D rs (.ok<|.ret<|.ref f)<|cf [(z,bi [V x.P bU f0<|.ref w,V x.P b5 f1<|.ref so,V x.P bD f2 v0,V x.P cK f3 v3,V x.P eL f4<|.ref a,V x.P cD f5<|.ref D,V x.P cg f6<|.ref cd,V x.P ez U<|.ref q,V x.P d6 I P] 9<|us z),(D,aa #[B] b)] X o [6,2,1] [] [] C
def RX(x us z w so a D cd f0 f1 f2 f3 f4 f5 f6 v0 v3 q rs U I P b B f X o C)(hv:rs.length<10):Ev (OA x us z w so a D cd f0 f1 f2 f3 f4 f5 f6 v0 v3 q rs U I P b B f X o C) C [0,1] (.next<|cM b_ 10<|cn z) [(z,bi [V x.P bU f0<|.ref w,V x.P b5 f1<|.ref so,V x.P bD f2 v0,V x.P cK f3 v3,V x.P eL f4<|.ref a,V x.P cD f5<|.ref D,V x.P cg f6<|.ref cd,V x.P ez U<|.ref q,V x.P d6 I P] 9<|us z),(D,(aa ((ar B).push<|aF f)<|b+1))] [] [] [(cm<|ar B)]:=sU (λx=>OA x us z w so a D cd f0 f1 f2 f3 f4 f5 f6 v0 v3 q rs U I P b B f X o C) (by revert rs;rw[we<|by kernel_rfl])
def RY:Ev (ex x aj 580 (.code<|cM b_ 10<|cn w.z)<|cf [(w.z,bi (lw x S w [V x.P ez bb ca,V x.P d6 f8 v8]) 9<|w.us w.z),(S.D x.P (.ref r) po tp nf tf)] sz tk (H 0xa505) [] [(S.so,a9 S.sd)] Y) Y [0,1] (.pend 579 aj (.call (.ref 131) #[[.ref S.so],[]])<|vf x w.z) [(w.z,bi (lw x S w [V x.P ez bb ca,V x.P d6 f8 v8]) 9<|w.us w.z),(S.D x.P (.ref r) po tp nf tf)] [] [] []:=by kernel_rfl
def w1b:Ev (vf x w.z (.ok<|.ret<|.bool true)<|cf [(w.z,bi (lw x S w [V x.P ez bb ca,V x.P d6 f8 v8]) 9<|w.us w.z),(S.D x.P (.ref r) po tp nf tf)] da J (H 0xa5051) [] [(S.so,a9 S.sd)] c3) c3 [0,1] (.pend 579 aj (.call (.ref 124) #[[.ref S.so],[]])<|xV x w.z) [(w.z,bi (lw x S w [V x.P ez bb ca,V x.P d6 f8 v8]) 9<|w.us w.z),(S.D x.P (.ref r) po tp nf tf)] [] [] []:=by kernel_rfl
def w1c:∀(x:Wd) f,Ev (xV x w.z (.ok<|.ret<|.ref q)<|cf [(w.z,bi [V x.P bU w.f0<|.ref w.rl,V x.P b5 w.f1<|.ref so,V x.P bD w.f2 w.v0,V x.P cK w.f3 w.v3,V x.P eL w.f4<|.ref w.bd,V x.P cD w.f5<|.ref w.ro,V x.P cg w.f6<|.ref w.cd,V x.P ez bb ca,V x.P d6 f8 v8] 9<|w.us w.z)] a7 dt (H 0x542122555) [] [(q,aD<|rs.map ax)] f) f [0,1] (.pend 579 aj (bL b_ 12 (.ref a7)<|cn w.z)<|CX x w.z) [(w.z,bi [V x.P bU w.f0<|.ref w.rl,V x.P b5 w.f1<|.ref so,V x.P bD w.f2 w.v0,V x.P cK w.f3 w.v3,V x.P eL w.f4<|.ref w.bd,V x.P cD w.f5<|.ref w.ro,V x.P cg w.f6<|.ref w.cd,V x.P ez bb<|.ref q,V x.P d6 f8 v8] 9<|w.us w.z),(a7,fu q 0)] [] [] []:=cS
def NV:av:=ex x aj 570 (.code<|bL b_ 12 (.ref it)<|cn w.z)<|cf [(w.z,bi [V x.P bU w.f0<|.ref w.rl,V x.P b5 w.f1<|.ref so,V x.P bD w.f2 w.v0,V x.P cK w.f3 w.v3,V x.P eL w.f4<|.ref w.bd,V x.P cD w.f5<|.ref w.ro,V x.P cg w.f6<|.ref w.cd,V x.P ez bb<|.ref q] 8<|w.us w.z),(it,fu q a6),(w.bd,ak ck nb)] sz tk (H 0x950) [ah k c0,.ref dV] [(q,aD vs)] Y
def KJ(x:Wd)(z:N)(it:N):Ko:=(NV #[λ_=>#[[]],z,0,0,0,0,0,0,0,0,0,0,0,.none,.none] 0 0 0 it 0 0 0 0 0 [] 0 [] [] x []).resume
def n0a:Ev (NV w sz tk so it nb q bb dV c0 vs a6 k ck x Y) Y [0,1,2] (.pend 569 aj (.call (.ref 898) #[[.ref dV,.ref w.cd],[]])<|KJ x w.z it) [(w.z,bi [V x.P bU w.f0<|.ref w.rl,V x.P b5 w.f1<|.ref so,V x.P bD w.f2 w.v0,V x.P cK w.f3 w.v3,V x.P eL w.f4<|.ref w.bd,V x.P cD w.f5<|.ref w.ro,V x.P cg w.f6<|.ref w.cd,V x.P ez bb<|.ref q,V x.P d6 tk<|ah k c0] 9<|w.us w.z),(it,fu q<|a6+1),(w.bd,ak ck nb)] [] [] [cR (aI "dict") ck #[#[k]]<|aF dV,df #[vs] a6<|ah k c0]:=by kernel_rfl
def n0r:Ev (KJ x w.z it (.ok<|.ret<|.ref c)<|cf [(w.z,bi [V x.P bU w.f0<|.ref w.rl,V x.P b5 w.f1<|.ref so,V x.P bD w.f2 w.v0,V x.P cK w.f3 w.v3,V x.P eL w.f4<|.ref w.bd,V x.P cD w.f5<|.ref w.ro,V x.P cg w.f6<|.ref w.cd,V x.P ez bb<|.ref q,V x.P d6 tk<|ah k c0] 9<|w.us w.z),(w.cd,ak a8 nc)] da J (H 0x4541f04455) [] [] c3) c3 [0,1] (.next<|bL b_ 12 (.ref it)<|cn w.z) [(w.z,bi [V x.P bU w.f0<|.ref w.rl,V x.P b5 w.f1<|.ref so,V x.P bD w.f2 w.v0,V x.P cK w.f3 w.v3,V x.P eL w.f4<|.ref w.bd,V x.P cD w.f5<|.ref w.ro,V x.P cg w.f6<|.ref w.cd,V x.P ez bb<|.ref q,V x.P d6 tk<|ah k c0] 9<|w.us w.z),(w.cd,ak (a8++[V x.P #[#[k]] c0<|.ref c])<|nc+1)] [] [] [jW (aI "dict") a8 #[#[k]]]:=by kernel_rfl
def NW:av:=ex x aj 570 (.code<|bL b_ 12 (.ref it)<|cn w.z)<|cf [(w.z,bi [V x.P bU w.f0<|.ref w.rl,V x.P b5 w.f1<|.ref so,V x.P bD w.f2 w.v0,V x.P cK w.f3 w.v3,V x.P eL w.f4<|.ref w.bd,V x.P cD w.f5<|.ref w.ro,V x.P cg w.f6<|.ref w.cd,V x.P ez bb<|.ref q,V x.P d6 f8 v8] 9<|w.us w.z),(it,fu q a6),(w.bd,ak ck nb)] sz tk (H 0x950) [ah k c0,.ref dV] [(q,aD vs)] Y
def KK(x:Wd)(z:N)(it:N):Ko:=(NW #[λ_=>#[[]],z,0,0,0,0,0,0,0,0,0,0,0,.none,.none] 0 0 0 it 0 0 0 0 0 0 [] 0 [] .none [] x []).resume
def n1a:Ev (NW w sz tk so it nb q bb f8 dV c0 vs a6 k v8 ck x Y) Y [0,1,2] (.pend 569 aj (.call (.ref 898) #[[.ref dV,.ref w.cd],[]])<|KK x w.z it) [(w.z,bi [V x.P bU w.f0<|.ref w.rl,V x.P b5 w.f1<|.ref so,V x.P bD w.f2 w.v0,V x.P cK w.f3 w.v3,V x.P eL w.f4<|.ref w.bd,V x.P cD w.f5<|.ref w.ro,V x.P cg w.f6<|.ref w.cd,V x.P ez bb<|.ref q,V x.P d6 f8<|ah k c0] 9<|w.us w.z),(it,fu q<|a6+1),(w.bd,ak ck nb)] [] [] [cR (aI "dict") ck #[#[k]]<|aF dV,df #[vs] a6<|ah k c0]:=by kernel_rfl
def n1r:Ev (KK x w.z it (.ok<|.ret<|.ref c)<|cf [(w.z,bi [V x.P bU w.f0<|.ref w.rl,V x.P b5 w.f1<|.ref so,V x.P bD w.f2 w.v0,V x.P cK w.f3 w.v3,V x.P eL w.f4<|.ref w.bd,V x.P cD w.f5<|.ref w.ro,V x.P cg w.f6<|.ref w.cd,V x.P ez bb<|.ref q,V x.P d6 f8<|ah k c0] 9<|w.us w.z),(w.cd,ak a8 nc)] da J (H 0x4541f04455) [] [] c3) c3 [0,1] (.next<|bL b_ 12 (.ref it)<|cn w.z) [(w.z,bi [V x.P bU w.f0<|.ref w.rl,V x.P b5 w.f1<|.ref so,V x.P bD w.f2 w.v0,V x.P cK w.f3 w.v3,V x.P eL w.f4<|.ref w.bd,V x.P cD w.f5<|.ref w.ro,V x.P cg w.f6<|.ref w.cd,V x.P ez bb<|.ref q,V x.P d6 f8<|ah k c0] 9<|w.us w.z),(w.cd,ak (a8++[V x.P #[#[k]] c0<|.ref c])<|nc+1)] [] [] [jW (aI "dict") a8 #[#[k]]]:=by kernel_rfl
def nee:Ev (ex x aj 570 (.code<|bL b_ 12 (.ref it)<|cn z)<|cf [(it,fu q a6)] sz tk (H 0xa70) [] [(q,aD vs)] Y) Y [] (.res<|.ok .next) [] [] [] [h_ #[vs] a6]:=by kernel_rfl
def Oo:av:=CU x ol sz (.ok .next)<|cf [(sz,bi [V x.P bU tk<|.ref D,V x.P b5 (tk+13)<|.ref<|sz+2,V x.P bD f2 v0,V x.P cK J<|.bool true,V x.P eL K<|.ref U,V x.P cD (K+1)<|.ref G,V x.P cg (K+2)<|.ref<|G+1,V x.P ez bb ca,V x.P d6 f8 v8] 9<|us sz),((G+1),ak a8 nc)] dd bo (H 0xd90) [.bool true,.ref ds,ah [d] 0] [(ds,aa #[[.ref d3,.ref ed,.ref ef]] ec),(d3,aD [ah l dx,iN db du])] eC
def K6(x:Wd)(ol:!aX)(sz:N):Ko:=(Oo ol 0 sz 0 0 0 0 0 0 0 0 0 0 0 0 0 0 0 0 0 0 0 0 [] .none .none .none (λ_=>#[[]]) [] x []).resume
def rkf:∀(x:Wd) C,Ev (Oo ol D sz tk J f2 U G K bb f8 nc ds ec d3 ed ef dx db du d dd bo l v0 ca v8 us a8 x C) C [0,1] (.pend 597 #[none,some (cn sz::ol),false] (.call (.builtin "str.lstrip") #[[ah ([d]++l)<|bo+10,ah [65]<|bo+11],[]])<|K6 x ol sz) [(sz,bi [V x.P bU tk<|.ref D,V x.P b5 (tk+13)<|.ref<|sz+2,V x.P bD f2 v0,V x.P cK J<|.bool true,V x.P eL K<|.ref U,V x.P cD (K+1)<|.ref G,V x.P cg (K+2)<|.ref<|G+1,V x.P ez bb ca,V x.P d6 f8 v8,V x.P kQ bo .none,V x.P vU (bo+6)<|ah l dx,V x.P vT (bo+7)<|iN db du] 12<|us sz),((G+1),ak a8 nc)] [] [] [fL #[#[[d]]] #[#[l]],iX #[#[[65,66,67]]] (ad db) #[#[[d]]],cR (aI "dict") a8 #[#[[70]]]<|aF ds,nv (aI "dict") a8 #[#[[70]]] true<|G+1]:=bB
def rkg:∀(x:Wd) t,Ev (K6 x ol sz (.ok<|.ret<|ah y ew)<|cf [(sz,bi [V x.P bU tk<|.ref D,V x.P b5 (tk+13)<|.ref<|sz+2,V x.P bD f2 v0,V x.P cK J<|.bool true,V x.P eL K<|.ref U,V x.P cD (K+1)<|.ref G,V x.P cg (K+2)<|.ref<|G+1,V x.P ez bb ca,V x.P d6 f8 v8,V x.P kQ bo .none,V x.P vU (bo+6)<|ah l dx,V x.P vT (bo+7)<|iN db du] 12<|us sz),((G+1),ak a8 nc)] d2 eh (H 0x5c30420) [] [] t) t [1,2] (.res<|.ok<|.ret<|.ref d2) [((G+1),ak a8 nc)] [(d2,aa #[[.bool true,.ref G,.ref<|G+1,.bytes (jy #[#[y]])<|eh+1]] 0)] [] [uM #[#[y]]]:=bB
def rkh:∀(x:Wd) C,Ev (CU x ol sz (.ok .next)<|cf [(sz,bi [V x.P bU tk<|.ref D,V x.P b5 (tk+13)<|.ref<|sz+2,V x.P bD f2 v0,V x.P cK J<|.bool true,V x.P eL K<|.ref U,V x.P cD (K+1)<|.ref G,V x.P cg (K+2)<|.ref<|G+1,V x.P ez bb ca,V x.P d6 f8 v8] 9<|us sz),((G+1),ak a8 nc)] dd bo (H 0x555930) [.bool false] [] C) C [1,2] (.res<|.ok<|.ret<|.ref dd) [((G+1),ak a8 nc)] [(dd,aa #[[.bool true,.ref G,.ref<|G+1,.none]] 0)] [] [nv (aI "dict") a8 #[#[[70]]] false<|G+1]:=bB
def Oj:av:=CT x ol sz (.ok .next)<|cf [(sz,bi [V x.P bU tk<|.ref D,V x.P b5 (tk+13)<|.ref<|sz+2,V x.P bD f2 v0,V x.P cK J<|.bool false,V x.P eL K<|.ref U,V x.P cD (K+1)<|.ref G,V x.P cg (K+2)<|.ref<|G+1,V x.P ez bb ca,V x.P d6 f8 v8] 9<|c2 sz),((G+1),ak a8 nc)] dd bo (H 0xd90) [.bool true,.ref ds,ah [d] 0] [(ds,aa #[[.ref d3,.ref ed,.ref ef]] ec),(d3,aD [ah l dx,iN db du])] eM
def K3(x:Wd)(ol:!aX)(sz:N):Ko:=(Oj ol 0 sz 0 0 0 0 0 0 0 0 0 0 0 0 0 0 0 0 0 0 0 0 [] .none .none .none (λ_=>#[[]]) [] x []).resume
def rgf:∀(x:Wd) t,Ev (Oj ol D sz tk J f2 U G K bb f8 nc ds ec d3 ed ef dx db du d dd bo l v0 ca v8 c2 a8 x t) t [0,1] (.pend 597 #[none,some (cn sz::ol),false] (.call (.builtin "str.lstrip") #[[ah ([d]++l)<|bo+10,ah [65]<|bo+11],[]])<|K3 x ol sz) [(sz,bi [V x.P bU tk<|.ref D,V x.P b5 (tk+13)<|.ref<|sz+2,V x.P bD f2 v0,V x.P cK J<|.bool false,V x.P eL K<|.ref U,V x.P cD (K+1)<|.ref G,V x.P cg (K+2)<|.ref<|G+1,V x.P ez bb ca,V x.P d6 f8 v8,V x.P kQ bo .none,V x.P vU (bo+6)<|ah l dx,V x.P vT (bo+7)<|iN db du] 12<|c2 sz),((G+1),ak a8 nc)] [] [] [fL #[#[[d]]] #[#[l]],iX #[#[[65,66,67]]] (ad db) #[#[[d]]],cR (aI "dict") a8 #[#[[70]]]<|aF ds,nv (aI "dict") a8 #[#[[70]]] true<|G+1]:=bB
def rgg:∀(x:Wd) a,Ev (K3 x ol sz (.ok<|.ret<|ah y ew)<|cf [(sz,bi [V x.P bU tk<|.ref D,V x.P b5 (tk+13)<|.ref<|sz+2,V x.P bD f2 v0,V x.P cK J<|.bool false,V x.P eL K<|.ref U,V x.P cD (K+1)<|.ref G,V x.P cg (K+2)<|.ref<|G+1,V x.P ez bb ca,V x.P d6 f8 v8,V x.P kQ bo .none,V x.P vU (bo+6)<|ah l dx,V x.P vT (bo+7)<|iN db du] 12<|c2 sz),((G+1),ak a8 nc)] d2 eh (H 0x5c30420) [] [] a) a [1,2] (.res<|.ok<|.ret<|.ref d2) [((G+1),ak a8 nc)] [(d2,aa #[[.bool false,.ref G,.ref<|G+1,.bytes (jy #[#[y]])<|eh+1]] 0)] [] [uM #[#[y]]]:=bB
def rgh:∀(x:Wd) t,Ev (CT x ol sz (.ok .next)<|cf [(sz,bi [V x.P bU tk<|.ref D,V x.P b5 (tk+13)<|.ref<|sz+2,V x.P bD f2 v0,V x.P cK J<|.bool false,V x.P eL K<|.ref U,V x.P cD (K+1)<|.ref G,V x.P cg (K+2)<|.ref<|G+1,V x.P ez bb ca,V x.P d6 f8 v8] 9<|c2 sz),((G+1),ak a8 nc)] dd bo (H 0x555930) [.bool false] [] t) t [1,2] (.res<|.ok<|.ret<|.ref dd) [((G+1),ak a8 nc)] [(dd,aa #[[.bool false,.ref G,.ref<|G+1,.none]] 0)] [] [nv (aI "dict") a8 #[#[[70]]] false<|G+1]:=bB
end
def ay.pu{x:Wd}{t:Mk}{b a n:N}{c:bj}{F:Fs}{Q:Po}{L1 L2:ao}{xs:!af}{v:af}(g:ay x t b c F (L1++(a,aa #[xs++[v]] n)::L2) Q):ay x t b c F (L1++(a,aa ((ar xs).push v) n)::L2) Q:=km xs v▸g
def ay.hd{x:Wd}{b:N}{c:bj}{F:Fs}{L:ao}{Q:Po}(g:ay x aj b c F L Q){d:Option (!aX)}{k:Bool}:ay x #[none,d,k] b c F L Q:=λw m s A C B=>g w m s A #[C.1,C.2.1,C.2.2.1,λK U=>(nn U)] B
inductive jZ:!(!N)->Prop
 |leaf (n w:!N):w.length=3->jZ [n,w]
 |jD (n a b:!N):a.length<3->b.length<3->jZ [n,a,b]
 |ext (n a:!N):a.length<3->jZ [n,a]
def gI(g:PG):!(!N)->PG
 |[n,a]=>if a.length<3 then bz a (gP n) (bz n (jF 1) g)else bz n (jF 0) g
 |[n,a,b]=>bz b (gP n)<|bz a (gP n)<|bz n (jF 2) g
 |_=>g
section
variable{x:Wd} {S:Sg} {po nf:Int} {tp tf:N}
abbrev Ij(x:Wd)(S:Sg)(z w f0 f1:N):aH×Obj:=(z,az [V x.P bU f0<|.ref w,V x.P b5 f1<|.ref S.so] 2)
abbrev u7(x:Wd)(S:Sg)(z w f0 f1 f2:N)(v:af):aH×Obj:=(z,az [V x.P bU f0<|.ref w,V x.P b5 f1<|.ref S.so,V x.P bD f2 v] 3)
abbrev sL(it z:N):bj:=bL b_ 1 (.ref it)<|cn z
def fY(h:l.length<=10000):cm #[l]:=by rw[tT h]
def EV{it z m ne b:N}{K:aL->aR->av}{au:!Prop}(e:∀Z,Ev (o Z) Z bl (.pend 589 aj (.call (.ref m) #[bb,[]]) K) ([pI m 112 S.so]++[D,eT it a6 i,S.D x.P .none po tp nf tf]) [] a7 au)(y:AB a7)(c:AP au)(g:∀F,F S.so (a9 S.sd)->ay x aj 250 (.call (.ref 112) #[.ref S.so::bb,[]]) F ([S.D x.P .none po tp nf tf,S.N (aG x.P ns) ne]++Gr ns) (rP x S po tp nf tf a8 b))(W:F S.so (a9 S.sd))(O:∀J G Z,Ev (K (.ok<|.ret .none)<|cf [] J G [] [] [] Z) Z [] (.next<|sL it z) [] [] [] [])(h:∀F' d j,Le F F'->d.map Nd.pg=a8->Bd d b->ay x aj 590 (sL it z) F' ([D,eT it a6 i,S.D x.P .none po tp nf tf]++([S.N (aG x.P d) j]++Gr d)) Q):Go x aj 590 F Q F ([S.N (aG x.P ns) ne]++Gr ns) o:=by
 rw[bP (Z:=[D,eT it a6 i]) e y c ?_ ((Rx<|g _<|an _ _ W).le ζ λ_ _ _ _ U=>U) λr F' f l q=>?_]
 .rw[pm [[pI m 112 S.so],[D,eT it a6 i],_,_,Gr ns] (.p (.p (.a 0)<|.p (.a 1)<|.a 2)<|.p (.a 3)<|.a 4) (.p (.p (.a 0)<|.p (.p (.a 2)<|.a 3)<|.a 4)<|.a 1) rfl]
 .rw[q.casesOn λd k j M X I Y=>?_]
  subst M;rw[#[[],_,.refl _,_,_,[],ab,λJ G=>bu (O J G) ab ab rfl (bN l)<|.perm ((X.append_right _).trans<|pm [[D,eT it a6 i],[S.D x.P .none po tp nf tf],_,Gr d] (.p (.p (.p (.a 1)<|.a 2)<|.a 3)<|.a 0) (.p (.p (.a 0)<|.a 1)<|.p (.a 2)<|.a 3) rfl)<|h _ d j (cb<|bN l) I Y]]
inductive QA (x:Wd) (S:Sg) (po nf:Int) (tp tf z rl f0 f1:N) (g:PG) (zz:N) (F':Fs):aL->ao->Prop
 |mk {L':ao} (f2 v ns ne) (h1:ns.map Nd.pg=g) (h2:Bd ns zz) (h3:L'.Perm ([u7 x S z rl f0 f1 f2 v,S.D x.P .none po tp nf tf]++([S.N (aG x.P ns) ne]++Gr ns))):QA x S po nf tp tf z rl f0 f1 g zz F' (.ok .next) L'
def yG(h:Rp F (dG [a,b]) v):∃e nw f c,v=.ref e/\F e (aa #[[.str #[#[a]] f,.str #[#[b]] c]] nw):=by rw[gV (dT.mp h) λe Q nw m d M=>?_];subst m;obtain⟨U,E,rfl,B,M⟩:=cq.mp M;obtain⟨o,E,rfl,g,M⟩:=cq.mp M;obtain rfl:=er.mp M;obtain⟨D,rfl⟩:=c9.mp B;obtain⟨L,rfl⟩:=c9.mp g;rw[va e nw D L rfl d]
def PF(h:Rp F (dG [a,b,c]) v):∃e nw f i t,v=.ref e/\F e (aa #[[.str #[#[a]] f,.str #[#[b]] i,.str #[#[c]] t]] nw):=by rw[gV (dT.mp h) λe Q nw m d M=>?_];subst m;obtain⟨U,E,rfl,B,M⟩:=cq.mp M;obtain⟨o,E,rfl,g,M⟩:=cq.mp M;obtain⟨n,E,rfl,Z,M⟩:=cq.mp M;obtain rfl:=er.mp M;obtain⟨D,rfl⟩:=c9.mp B;obtain⟨L,rfl⟩:=c9.mp g;obtain⟨T,rfl⟩:=c9.mp Z;rw[vb e nw D L T rfl d]
def hJ{i:N}(h:D[i]? =some v):df (ar D) (i:Int) v:=by show(ar D)[(i:Int).toNat]? =_;simpa using h
def yq(h:xP D=true)(L:xs.length<=100):l6 D (ar []) (ar xs):=#[h,by rw[ajW L]]
def ua(h:l.length<=100):dI #[#[l]]:=by rw[afK h]
def B6:xP (.type "list")=true:=by kernel_rfl
def Qz{it z w nr i f0 f1 ne H:N}(hk:jZ U)(W:F S.so (a9 S.sd))(g:1<S.nd)(t:F w (aa #[D] nr))(hi:D[i]? =some v)(A:Rp F (dG U) v)(hz:Bd ns H)(s:H<=9000)(h:∀F' f2 v d j,Le F F'->d.map Nd.pg=gI (ns.map Nd.pg) U->Bd d (H+6)->ay x aj 590 (sL it z) F' ([u7 x S z w f0 f1 f2 v,eT it w<|i+1,S.D x.P .none po tp nf tf]++([S.N (aG x.P d) j]++Gr d)) Q):ay x aj 590 (sL it z) F ([xC x S z w f0 f1 q,eT it w i,S.D x.P .none po tp nf tf]++([S.N (aG x.P ns) ne]++Gr ns)) Q:=by
 cases hk with
 |leaf n T Y=>
  rw[lq (yG A) λe C p E k r=>?_];subst k;rw[bJ (O:=[(w,aa #[D] nr),(e,aa #[_] C),(S.so,a9 S.sd)]) #[t,r,W,ab] λB K=>EV (rL q x) #[decide_eq_false<|by lia,ab] #[yq B6<|dw _,ua<|by lia,hJ hi,ab] (λF W=>aqM W g rfl hz s) W (λJ G=>ao9 B z it p J G n x) λF' d j l m M=>h F' (fC q K) (.ref e) d j l (by rw[m,];show _=if T.length<3 then _ else _;rw[if_neg<|by lia,]) #[by have:=M.1;lia,λq u=>by have:=M.2 q u;lia]]
 |jD n a b o y=>
  rw[nV (PF A) λe C p f c Z r=>?_];subst Z;rw[bJ (O:=[(w,aa #[D] nr),(e,aa #[_] C),(S.so,a9 S.sd)]) #[t,r,W,ab] λB K=>EV (rI q x) #[decide_eq_true<|by lia,decide_eq_true<|by lia,ab] #[yq B6<|by simp,ua<|by lia,ua<|by lia,hJ hi,ab] (λF W=>aqO W g rfl hz s) W (λJ G=>ao8 B z it p J G f c n a b x) λF' d j l m M=>h F' (fC q K) (.ref e) d j l m #[by have:=M.1;rw[LT this],λq u=>by have:=M.2 q u;rw[LT this]]]
 |ext n a o=>
  rw[lq (yG A) λe C p f k r=>?_];subst k;rw[bJ (O:=[(w,aa #[D] nr),(e,aa #[_] C),(S.so,a9 S.sd)]) #[t,r,W,ab] λB K=>EV (rX q x) #[decide_eq_true<|by lia,ab] #[yq B6<|sr _,ua<|by lia,hJ hi,ab] (λF W=>aqN W g rfl hz s) W (λJ G=>ao_ B z it p J G f n a x) λF' d j l m M=>h F' (fC q K) (.ref e) d j l (by rw[m,];show _=if a.length<3 then _ else _;rw[if_pos o,]) #[by have:=M.1;rw[LU this],λq u=>by have:=M.2 q u;rw[LU this]]]
def afm{it z w nr f0 f1:N}(g:1<S.nd):∀{done:!(List<|List N)} {f2 ne J v0 ns F},F S.so (a9 S.sd)->F w (aa #[D] nr)->aM F ((done++rest).map dG) D->(∀r∈rest,jZ r)->Bd ns J->J+6*rest.length<=9000->ay x aj 590 (sL it z) F ([u7 x S z w f0 f1 f2 v0,eT it w done.length,S.D x.P .none po tp nf tf]++([S.N (aG x.P ns) ne]++Gr ns)) (QA x S po nf tp tf z w f0 f1 (rest.foldl gI<|ns.map Nd.pg)<|J+6*rest.length):=by
 induction rest with
 |nil=>
  intro done f2 ne J v0 ns F W b A c Z i;rw[.perm (pm [[u7 x S z w f0 f1 f2 v0],[eT it w done.length],_,_++Gr ns] (.p (.p (.a 0)<|.p (.a 1)<|.a 2)<|.a 3) (.p (.a 1)<|.p (.p (.a 0)<|.a 2)<|.a 3) rfl) ?_];rw[bJ (O:=[(w,aa #[D] nr)]) #[b,ab] λB K=>bp (rAe w nr B K z it D done.length x) ab #[by show(ar D)[(done.length:Int).toNat]? =_;have:=A.length;simp[this],ab] (aV) #[f2,v0,ns,ne,rfl,Z,.refl _]]
 |cons r rest C=>intro done f2 ne J v0 ns F W b A c Z i;obtain⟨v,X,G⟩:=A.get done.length (x:=dG r) (by rw[bf,oM<|by simp];simp);rw[Qz (q:=some (_,_)) (c r<|.head _) W g b X G Z (ajX i) λT f2 v d j l e M=>?_];have z:=C (f2:=f2) (ne:=j) (v0:=v) (l _ _ W) (l _ _ b) ((by simp:done++r::rest=(done++[r])++rest)▸A.to l) (λq U=>c q<|.tail _ U) M<|ajY i;simp only[e]at z;simp only[cJ]at z;simp only[dM,show J+6*(rest.length+1)=J+6+6*rest.length by rw[ajZ]];rw[z]
def arn{it z w nr f0 f1 ne:N}(g:1<S.nd)(W:F S.so (a9 S.sd))(a:F w (aa #[D] nr))(A:aM F ((r::rest).map dG) D)(hk:∀q∈r::rest,jZ q)(i:rest.length<=1000):ay x aj 590 (sL it z) F ([Ij x S z w f0 f1,eT it w 0,S.D x.P .none po tp nf tf]++([S.N [] ne]++Gr [])) (QA x S po nf tp tf z w f0 f1 ((r::rest).foldl gI [])<|6+6*rest.length):=by rw[aJ (A.get 0 rfl) λv X G=>Qz (q:=none) (hk r<|.head _) W g a X G ⟨d7 _,λK U=>(cQ U).elim⟩ (aj0) λT L v d j l b M=>?_];have z:=afm (x:=x) (po:=po) (nf:=nf) (tp:=tp) (tf:=tf) (it:=it) (z:=z) (f0:=f0) (f1:=f1) g (done:=[r]) (f2:=L) (ne:=j) (v0:=v) (l _ _ W) (l _ _ a) (A.to l) (λq U=>hk q<|.tail _ U) M<|aj1 i;simp only[b]at z;rw[z]
end
def qL:!(!N)->!(!N×PV)
 |[n,a]=>if a.length<3 then[]else[(n,.lst [.str a])]
 |[n,a,b]=>[(n,.lst [.str a,.str b])]
 |_=>[]
structure ky (F:Fs) (au:!(N×De)) (m:!(!N×PV)):Prop where
 at_:∀p∈au,F p.1 (aD [ax (p.2.1,p.2.2.1),p.2.2.2])
 rp:bS F (au.map (·.2)) m
def ky.to{F F':Fs}(T:Le F F'){au:!(N×De)}{m:!(!N×PV)}(h:ky F au m):ky F' au m:=#[λp I=>T _ _<|h.at_ p I,h.rp.to T]
def ky.push{F:Fs}{au:!(N×De)}{m:!(!N×PV)}(h:ky F au m){a t:N}{n:!N}{v:af}{p:PV}(o:F a (aD [ax (n,t),v]))(I:Rp F p v):ky F (au++[(a,n,t,v)]) (m++[(n,p)]):=#[λq u=>(ej.mp u).elim (h.at_ q) λu=>by rw[(iy.mp u)▸o],by rw[bf▸h.rp.push I]]
section
variable{x:Wd}
abbrev cC(it ac z:N):bj:=fQ b_ 1 (.ref it) (.ref ac)<|fO b_ 1 (cn z)<|ac+1
def QE{it z w nr i ac na:N}{au:!(N×De)}(hk:jZ G)(g:F w (aa #[D] nr))(hi:D[i]? =some v)(A:Rp F (dG G) v)(hz:au.length<=9000)(I:ky F au m)(h:∀F' f2 v d s,Le F F'->ky F' s (m++qL G)->s.length<=au.length+1->ay x aj 590 (cC it ac z) F' [eT it w<|i+1,(ac,aa #[s.map ot] d),(ac+1,ak [V x.P bD f2 v] 1)] Q):ay x aj 590 (cC it ac z) F [eT it w i,(ac,aa #[au.map ot] na),wV x (ac+1) q] Q:=by
 have t:cm (ar<|au.map ot):=fY (by rw[aU,];rw[LZ hz]);cases hk with
 |leaf n T Y=>
  rw[lq (yG A) λe C p E k r=>?_];subst k;refine iU (O:=[(w,aa #[D] nr),(e,aa #[_] C)]) #[g,r,ab] λB K=>bu (cL q x) #[by simp[Y],ab] #[t,ua<|ahm Y,hJ hi,ab] rfl (aV)<|.pu (L1:=[_]) ?_;have z:=h _ (fC q K) (.ref e) (na+1) (au++[(B+2,n,p,.ref<|B+1)]) (an (X:=[(B+1,aa #[_] 0),(B+2,aD _)])) (by show ky _ _ (m++if T.length<3 then _ else _);rw[if_neg<|yc Y,];rw[(I.to an).push (bc<|.tail _<|.head _)<|dT.mpr<|gC (B+1) _ 0 rfl (bc<|.head _)<|.cons (c9.mpr #[E,rfl]) .nil]) (by simp)
  rw[bf]at z;rw[z]
 |jD n a b o y=>rw[nV (PF A) λe C p f c Z r=>?_];subst Z;rw[iU (O:=[(w,aa #[D] nr),(e,aa #[_] C)]) #[g,r,ab] λB K=>bu (cI q x) ab #[t,hJ hi,ab] rfl (aV)<|.pu (L1:=[_]) ?_];have z:=h _ (fC q K) (.ref e) (na+1) (au++[(B+2,n,p,.ref<|B+1)]) (an (X:=[(B+1,aa #[_] 0),(B+2,aD _)])) ((I.to an).push (bc<|.tail _<|.head _)<|dT.mpr<|gC (B+1) _ 0 rfl (bc<|.head _)<|.cons (c9.mpr #[f,rfl])<|.cons (c9.mpr #[c,rfl]) .nil) (by simp);rw[bf]at z;rw[z]
 |ext n a o=>
  rw[lq (yG A) λe C p f k r=>?_];subst k;refine iU (O:=[(w,aa #[D] nr),(e,aa #[_] C)]) #[g,r,ab] λB K=>bu (cX q x) #[by rw[beq_eq_false_iff_ne,];lia,ab] #[ua<|by lia,hJ hi,ab] rfl (aV) ?_;rw[h _ (fC q K) (.ref e) na au an (by show ky _ _ (m++if a.length<3 then _ else _);rw[if_pos o,bQ];rw[I.to an])<|oU _]
inductive QC (x:Wd) (ac:N) (m:!(!N×PV)) (F':Fs):aL->ao->Prop
 |mk (f v na au) (h1:ky F' au m):QC x ac m F' (.ok .next) [(ac,aa #[au.map ot] na),(ac+1,ak [V x.P bD f v] 1)]
def afo{it z w nr ac:N}:∀{done:!(List<|List N)} {f2 na v0 au m F},F w (aa #[D] nr)->aM F ((done++rest).map dG) D->(∀r∈rest,jZ r)->ky F au m->au.length+rest.length<=9000->ay x aj 590 (cC it ac z) F [eT it w done.length,(ac,aa #[au.map ot] na),(ac+1,ak [V x.P bD f2 v0] 1)] (QC x ac<|m++rest.flatMap qL):=by
 induction rest with
 |nil=>
  intro done f2 na v0 au m F a A c I i;rw[bJ (L:=[eT it w done.length]) (O:=[(w,aa #[D] nr)]) #[a,ab] λB K=>bp (ce w nr B K z it ac D done.length x) ab #[by show(ar D)[(done.length:Int).toNat]? =_;have:=A.length;simp[this],ab] (aV) #[f2,v0,na,au,by simp only[List.flatMap_nil,bQ];rw[I.to an]]]
 |cons r rest C=>intro done f2 na v0 au m F a A c I i;obtain⟨v,X,G⟩:=A.get done.length (x:=dG r) (by rw[bf,oM<|by simp];simp);rw[QE (q:=some (_,_)) (c r<|.head _) a X G (Dj i) I λT f2 v d s l b M=>?_];have z:=C (f2:=f2) (na:=d) (v0:=v) (l _ _ a) ((by simp:done++r::rest=(done++[r])++rest)▸A.to l) (λq U=>c q<|.tail _ U) b<|ajo i M;simp only[cJ,bZ]at z;rw[z]
def VM{it z w nr ac:N}(b:F w (aa #[D] nr))(A:aM F ((r::rest).map dG) D)(hk:∀q∈r::rest,jZ q)(i:rest.length<=8000):ay x aj 590 (i_ b_ 1 (.ref it) (.ref ac)<|fO b_ 1 (cn z)<|ac+1) F [eT it w 0,(ac,aa #[[]] 0),(ac+1,ak [] 0)] (QC x ac<|(r::rest).flatMap qL):=aJ (A.get 0 rfl) λv X G=>bJ (O:=[]) ab λB K=>bu (cs w B K z it ac x) ab ab rfl (aV)<|QE (q:=none) (hk r<|.head _) (an _ _ b) X (G.to an) (dw _) ⟨λJ U=>(cQ U).elim,.nil⟩ λT L v d s l c M=>afo (done:=[r]) (l _ _<|an _ _ b) (A.to λa Y U=>l a Y<|an a Y U) (λq U=>hk q<|.tail _ U) c (by simp at M;rw[ajp i M])
end
abbrev nF:=List<|List N×!(!N)
abbrev cH:=List<|List N×ju
abbrev gy(m:nF):!(!N×PV):=m.map λp=>(p.1,.lst<|p.2.map .str)
abbrev eQ(m:cH):!(!N×PV):=m.map λp=>(p.1,nM p.2)
def t_{f:D->G}:∀{l},aZ (l.map λp=>(p.1,f p.2)) k=(aZ l k).map f:=by
 intro J;induction J with
 |nil=>rw[rfl]
 |cons e l C=>
  show(if e.1=k then _ else _)=wL f (if e.1=k then _ else _);by_cases U:e.1=k
  .rw[if_pos U,if_pos U];rfl
  .rw[if_neg U,if_neg U];rw[C]
def DM(y:!N×N):Prop:=y.1≠[]/\y.1.length<=100
inductive qc (m:nF) (cs:cH) (k:!N):ju->Prop
 |leaf (i j l:N):i<16->j<16->l<16->aZ m k=some [[65+i,65+j,65+l]]->qc m cs k (vh (i+j+l))
 |jD (ku kl:!N) (y1 y2 y3:!N×N) (up:ju):aZ m k=some [ku,kl]->aZ cs kl=some [y1,y2,y3]->aZ cs ku=some up->up.length=3->(∀y∈[y1,y2,y3],y.2<3/\DM y)->(∀z∈up,DM z)->qc m cs k (xL [y1,y2,y3] up)
inductive mU (m:nF):!(!N)->cH->cH->Prop
 |nil {cs:cH}:mU m [] cs cs
 |cons {k:!N} {ks:!(!N)} {cs eJ:cH} {c:ju}:qc m cs k c->aZ cs k=none->mU m ks (cs++[(k,c)]) eJ->mU m (k::ks) cs eJ
section
variable{x:Wd} {S:Sg}
def Rl{cs:cH}(h:qc m cs k c)(y:bS F a7 (gy m))(d:bS F a6 (eQ cs)):∃R,d4 (aB x.P a7) #[#[k]]=some (.ref R)/\ ay x aj 300 (.call (.ref 898) #[[.ref R,.ref cd],[]]) F [(cd,ak (aB x.P a6) nc)] (uP [(cd,ak (aB x.P a6) nc)] c):=by
 have t:∀E,aZ m k=some E->aZ (gy m) k=some (.lst<|E.map .str):=λE e=>by rw[(t_ (f:=λT:!(!N)=>PV.lst<|T.map .str)).trans (by rw[e,];rfl)]
 have I:∀u T,aZ cs u=some T->aZ (eQ cs) u=some (nM T):=λu T e=>by simp only[t_,e];rfl
 cases h with
 |leaf i K l a8 M X H=>
  rw[nU (y.get<|t _ H) λD v z r=>gV (dT.mp r) λR bt n S Q j=>?_];subst S;obtain⟨U,E,rfl,B,j⟩:=cq.mp j;obtain rfl:=er.mp j;obtain⟨bs,rfl⟩:=c9.mp B;rw[bA R (by simp only[lp,z];rfl) (λw bo s A C o=>jz (ara a8 M X Q ((cd,ak (aB x.P a6) nc)::w) bo s A C o) λr P L=>cp L λW b0 l ac q=>by obtain⟨a,q⟩:=q;rw[bX W _ l ac #[a,q]])]
 |jD G p ch J ck O H bb bl X b Z=>rw[nU (y.get<|t _ H) λD v z r=>gV (dT.mp r) λR bt n S Q j=>?_];subst S;obtain⟨U,E,rfl,B,j⟩:=cq.mp j;obtain⟨ca,E,rfl,g,j⟩:=cq.mp j;obtain rfl:=er.mp j;obtain⟨bs,rfl⟩:=c9.mp B;obtain⟨Y,rfl⟩:=c9.mp g;rw[bA R (by simp only[lp,z];rfl)<|arb Q d (I _ _ bb) (I _ _ bl) X b Z]
abbrev sW(x:Wd)(S:Sg)(w:W7):aH×Obj:=(w.z,bi (lw x S w []) 7<|w.us w.z)
abbrev BJ(x:Wd)(S:Sg)(w:W7)(q t:N):aH×Obj:=(w.z,bi (lw x S w [V x.P ez t<|.ref q]) 8<|w.us w.z)
abbrev dq(x:Wd)(S:Sg)(w:W7)(t i:N)(v q:af):aH×Obj:=(w.z,bi (lw x S w [V x.P ez t v,V x.P d6 i q]) 9<|w.us w.z)
abbrev iM(x:Wd)(w:W7)(e:!De)(nb:N):aH×Obj:=(w.bd,ak (aB x.P e) nb)
abbrev i9(x:Wd)(w:W7)(j:!De)(nc:N):aH×Obj:=(w.cd,ak (aB x.P j) nc)
abbrev cN(it z:N):bj:=bL b_ 12 (.ref it)<|cn z
def Pc{cs:cH}(d:bS F D (eQ cs))(w:aZ cs k=none)(a:cs.length<=1000):jW (.type "dict") (aB x.P D) #[#[k]]:=
 #[dK,jN _ _,by rw[lp,d.none (by unfold eQ;rw[t_,w];rfl)];rfl,by have:=d.length;rw[aU]at this;unfold aB;rw[aU,];rw[Mb a this]]
def RE{cs:cH}{K:aL->aR->av}{au:!Prop}(e:∀Z,Ev (o Z) Z bs (.pend 569 aj (.call (.ref 898) #[[.ref bl,.ref w.cd],[]]) K) [dq x S w a7 f8 (.ref q)<|.str #[#[k]] a6,eP it q<|i+1,iM x w a8 nb] [] bb au)(m:AB bb)(t:AP au)(g:ay x aj 300 (.call (.ref 898) #[[.ref bl,.ref w.cd],[]]) (fz F []) [i9 x w D nc] (uP [i9 x w D nc] c))(O:∀a J G Z,Ev (K (.ok<|.ret<|.ref a)<|cf [dq x S w a7 f8 (.ref q)<|.str #[#[k]] a6,i9 x w D nc] J G bo [] [] Z) Z [0,1] (.next<|cN it w.z) [dq x S w a7 f8 (.ref q)<|.str #[#[k]] a6,(w.cd,ak (aB x.P D++[V x.P #[#[k]] a6<|.ref a])<|nc+1)] [] [] [jW (.type "dict") (aB x.P D) #[#[k]]])(I:jW (.type "dict") (aB x.P D) #[#[k]])(d:bS F D (eQ cs))(h:∀F' Y,Le F F'->bS F' Y (eQ<|cs++[(k,c)])->ay x aj 570 (cN it w.z) F' [dq x S w a7 f8 (.ref q)<|.str #[#[k]] a6,eP it q<|i+1,iM x w a8 nb,i9 x w Y<|nc+1] Q):Go x aj 570 F Q F [i9 x w D nc] o:=by
 rw[bP (Z:=[dq x S w a7 f8 (.ref q)<|.str #[#[k]] a6,eP it q<|i+1,iM x w a8 nb]) e m t ?_ (g.le ζ λ_ _ _ _ U=>U) λr F' b l q=>?_]
 .rw[pm [[dq x S w a7 f8 (.ref q)<|.str #[#[k]] a6,eP it q<|i+1,iM x w a8 nb],_] (.p (.a 0)<|.a 1) (.p (.a 1)<|.a 0) rfl]
 .obtain⟨a,X⟩:=q
  have H:=bN l;rw[#[_,[eP it q<|i+1,iM x w a8 nb],pm [[i9 x w D nc],[dq x S w a7 f8 (.ref q)<|.str #[#[k]] a6],_] (.p (.a 0)<|.p (.a 1)<|.a 2) (.p (.p (.a 1)<|.a 0)<|.a 2) rfl,_,_,[],ab,λJ G=>bu (O a J G) ab #[I,ab] rfl H ?_]];have u:=h (fz F' []) (D++[(k,a6,.ref a)]) (cb H) (by simp only[bf];rw[(d.to λp o U=>an p o<|H p o U).push<|X.to an])
  unfold i9 aB at u;rw[bf]at u;rw[.perm (pm [[dq x S w a7 f8 (.ref q)<|.str #[#[k]] a6],_,_] (.p (.p (.a 0)<|.a 2)<|.a 1) (.p (.a 0)<|.p (.a 1)<|.a 2) rfl) u]
inductive QN (x:Wd) (S:Sg) (w:W7) (q f7:N) (bes:!De) (nb:N) (cs:cH) (F':Fs):aL->ao->Prop
 |mk (f8 v8 ces nc) (h1:bS F' ces (eQ cs)):QN x S w q f7 bes nb cs F' (.ok .next) [dq x S w f7 f8 (.ref q) v8,iM x w bes nb,i9 x w ces nc]
def LC:∀{au:!(!N×N)} {v8 nc cs j F},F q (aD<|(au++rest).map ax)->bS F a6 (gy m)->bS F j (eQ cs)->mU m (rest.map (·.1)) cs eJ->cs.length+rest.length<=1000->ay x aj 570 (cN it w.z) F [dq x S w D f8 (.ref q) v8,eP it q au.length,iM x w a6 nb,i9 x w j nc] (QN x S w q D a6 nb eJ):=by
 induction rest with
 |nil=>intro au v8 nc cs j F u b d U i;cases U;rw[.perm (pm [[dq x S w D f8 (.ref q) v8],[eP it q au.length],_] (.p (.a 0)<|.p (.a 1)<|.a 2) (.p (.a 1)<|.p (.a 0)<|.a 2) rfl) ?_];rw[bQ]at u;rw[bJ (L:=[eP it q au.length]) (O:=[(q,aD<|au.map ax)]) ⟨u,ab⟩ λB K=>bp (nee B K w.z it q (au.map ax) au.length x) ab #[aQ,ab] (aV) #[f8,v8,j,nc,d.to an]]
 |cons y rest C=>
  intro au v8 nc cs j F u b d U i;cases U with
  |cons e M X=>
   rw[aJ (Rl (x:=x) (cd:=w.cd) (nc:=nc) e (b.to an)<|d.to (F':=fz F []) an) λn t g=>?_];exact bJ (L:=[dq x S w D f8 (.ref q) v8,eP it q au.length,iM x w a6 nb]) (O:=[(q,aD<|(au++y::rest).map ax)]) ⟨u,ab⟩ λB K=>RE (n1a w B K S.so it nb q D f8 n y.2 ((au++y::rest).map ax) au.length y.1 v8 (aB x.P a6) x) ab #[#[dK,jN _ _,t],rB,ab] g (λa J G=>n1r w S.so it J G q D f8 nc y.2 a y.1 (aB x.P j) x) (Pc d M<|Mc i) d λT Y l k=>by have c:=C (au:=au++[y]) (v8:=ax y) (nc:=nc+1) (l _ _ (by rw[bZ,];rw[u])) (b.to l) k X (by rw[cJ,];simp only[dM,kZ];rw[x6 i]);simp only[cJ]at c;rw[c]
def afw{cs eJ:cH}(u:F q (aD<|(y::rest).map ax))(b:bS F D (gy m))(d:bS F a6 (eQ cs))(h:mU m ((y::rest).map (·.1)) cs eJ)(i:cs.length+(rest.length+1)<=1000):ay x aj 570 (cN it w.z) F [BJ x S w q U,eP it q 0,iM x w D nb,i9 x w a6 nc] (QN x S w q U D nb eJ):=by
 cases h with
 |cons c M X=>
  rw[aJ (Rl (x:=x) (cd:=w.cd) (nc:=nc) c (b.to an)<|d.to (F':=fz F []) an) λn t g=>?_];rw[bJ (L:=[BJ x S w q U,eP it q 0,iM x w D nb]) (O:=[(q,aD<|(y::rest).map ax)]) ⟨u,ab⟩ λB K=>RE (n0a w B K S.so it nb q U n y.2 ((y::rest).map ax) 0 y.1 (aB x.P D) x) ab #[#[dK,jN _ _,t],rB (au:=[]),ab] g (λa J G=>n0r w K S.so it J G q U nc y.2 a y.1 (aB x.P a6) x) (Pc d M<|Mc i) d λT Y l k=>LC (au:=[y]) (l _ _ u) (b.to l) k X (by rw[cJ,];simp only[dM,kZ];rw[x6 i])]
end
def bg.u8{x:Wd}{F:Fs}{L2 L:ao}{m s:aN}(S:bg x F (L2++L) m s):bg x (fz F L2) L m s:=bg.back (L1:=[]) S.base (S.run (O:=[]) (h:=[]) (gv:=[]) ab) (rx S.rep.nd).1 λK U=>U
def ay.u8{x:Wd}{F:Fs}{t:Mk}{b:N}{c:bj}{L2 L:ao}{Q:Po}(g:ay x t b c (fz F L2) L Q):ay x t b c F (L2++L) Q:=λw m s A C B=>by rw[bZ]at B;rw[jz (g w m s A C B.u8) λr P a=>cp a λT h l H q=>bX T h (bN l) H q]
inductive o5 (m:nF):!(!N)->PG->cH->!(!(!N))->N->cH->!(!(!N))->Prop
 |nil {g:PG} {cs:cH} {rd:!(!(!N))} {i:N}:o5 m [] g cs rd i cs rd
 |cons {k:!N} {ks so:!(!N)} {g:PG} {cs c1 c2:cH} {rd yB:!(!(!N))} {i:N}:mU m (k::ks) cs c1->(∀y∈k::ks,y∈bC g)->qO (k::ks) (fV (k::ks) g)->so.Perm (k::ks)->oy so->i+(ks.length+1)<10->
   o5 m (fR (k::ks) (fV (k::ks) g)).2 (fR (k::ks) (fV (k::ks) g)).1 c1 (rd++[so]) (i+(ks.length+1)) c2 yB->o5 m (k::ks) g cs rd i c2 yB
def M4{a b c:!N}(d:¬b<a)(M:¬c<b):¬c<a:=wF.mpr<|List.le_trans (wF.mp d)<|wF.mp M
def apm:∀(l p),z7 (jO p) (l.map jO)=true->(p::l).Pairwise λa b=>¬b<a:=by
 intro J;induction J with
 |nil=>intro _ _;rw[S7 _ _]
 |cons y l C=>
  intro p U;have c:((not (PySem.Spec.ltCps y p))&&z7 (jO y) (l.map jO))=true:=U;rw[kp,Ty]at c;have d:¬y<p:=by simpa using c.1
  have M:=C y c.2;rw[qo.mpr #[λz Z=>?_,M]];rcases aY.mp Z with rfl|Z
  .rw[d]
  .rw[M4 d<|List.rel_of_pairwise_cons M Z]
def Qu:∀{l},oy l->l.Pairwise λa b=>¬b<a
 |[],_=>.nil
 |p::l,h=>apm l p h
def EG(d:oy l)(H:oy m)(h:l.Perm m):l=m:=List.Perm.eq_of_pairwise (λa b U U c M=>List.le_antisymm (wF.mp c)<|wF.mp M) (Qu d) (Qu H) h
section
variable{x:Wd} {S:Sg}
abbrev pV(w:W7)(B:!af)(a:N):aH×Obj:=(w.ro,aa #[B] a)
abbrev W1(x:Wd)(S:Sg)(r i tp tf nx ne:N)(rs:!(!N×N))(ns:!Nd):ao:=[S.D x.P (.ref r) (ad i) tp (ad i) tf]++([(r,aa #[rs.map ax] nx)]++([S.N (aG x.P ns) ne]++Gr ns))
abbrev W2(x:Wd)(w:W7)(e j:!De)(B:!af)(nb nc a:N):ao:=[iM x w e nb]++([i9 x w j nc]++[pV w B a])
abbrev CW(w:W7):bj:=cM b_ 10<|cn w.z
abbrev Tm(S:Sg)(o:aL->aR->av)(P E:aH×Obj)(h:!N)(n t:N)(Z:ao):av:=o (.ok<|.ret<|.bool true)<|cf [P,E] n t h [] [(S.so,a9 S.sd)] Z
abbrev Tn(o:aL->aR->av)(P:aH×Obj)(h:!N)(rs:!(!N×N))(q n t:N)(Z:ao):av:=o (.ok<|.ret<|.ref q)<|cf [P] n t h [] [(q,aD<|rs.map ax)] Z
abbrev To(S:Sg)(o:aL->aR->av)(h:!N)(rs:!(!N×N))(q:N)(P E:aH×Obj)(n t:N)(Z:ao):av:=o (.ok .next)<|cf [P,E] n t h [] [(S.so,a9 S.sd),(q,aD<|rs.map ax)] Z
abbrev Ts(o:aL->aR->av)(h:!N)(rs:!(!N×N))(q:N)(P R:aH×Obj)(n t:N)(Z:ao):av:=o (.ok<|.ret .none)<|cf [P,R] n t h [] [(q,aD<|rs.map ax)] Z
abbrev Tt(o:aL->aR->av)(h:!N)(f:N)(P R:aH×Obj)(n t:N)(Z:ao):av:=o (.ok<|.ret<|.ref f)<|cf [P,R] n t h [] [] Z
def EE:∀{t g},(∀k∈t,k∈bC g)->dH (fV t g)=dH g:=by
 intro J;induction J with
 |nil=>intro _ _;rw[rfl]
 |cons k t C=>intro g U;have e:=yR (f:=dR<|-1) (λK=>rfl)<|U k<|.head _;rw[(C λu c=>by rw[(Dr e)▸U u (.tail _ c)]).trans e]
def abi:xP (.type "tuple")=true:=by kernel_rfl
def RG{bT:N->N->aH×Obj}{b:N->N}{eb:N->aL->aR->av}{dV d0 d1 hs L:!N}(e0:l_ s)(W:F S.so (a9 S.sd))(ea:dH (ns.map Nd.pg)=s)(hi:i+(rest.length+1)<10)(H:∀k∈y::rest,k.1∈s.map (·.1))(j:qO ((y::rest).map (·.1)) (fV ((y::rest).map (·.1))<|ns.map Nd.pg))(e2:a6.length<=1000)(ev:∀Z,Ev (ck Z) Z [0,1] (.pend 579 aj (.call (.ref 131) #[[.ref S.so],[]]) bt) [bl,S.D x.P (.ref r) (ad i) tp (ad i) tf] [] [] [])(ew:∀n t Z,Ev (Tm S bt bl (S.D x.P (.ref r) (ad i) tp (ad i) tf) dV n t Z) Z [0,1] (.pend 579 aj (.call (.ref 124) #[[.ref S.so],[]]) b0) [bl,S.D x.P (.ref r) (ad i) tp (ad i) tf] [] [] [])(ey:∀q D E Z,Ev (Tn b0 bl d0 (y::rest) q D E Z) Z [0,1] (.pend 579 aj (cN D w.z) ca) [bT q E,eP D q 0] [] [] [])(ep:∀db q E D,Le F db->db q (aD<|(y::rest).map ax)->ay x aj 570 (cN D w.z) db [bT q E,eP D q 0,iM x w bb nb,i9 x w bs nc] (QN x S w q (b E) bb nb eJ))(eB:∀q po nf em ei R I P M t4 Z,Ev (To S ca d1 (y::rest) q (dq x S w R I (.ref q) P) (S.D x.P (.ref r) po em nf ei) M t4 Z) Z [2,0,1] (.pend 579 aj (.call (.ref M) #[(y::rest).map ax,[]])<|eb M) ([pI M 145 S.so]++[dq x S w R I (.ref q) P,S.D x.P (.ref r) po em nf ei]) [] [] [l6 (.type "tuple") (ar [])<|ar<|(y::rest).map ax])(es:∀q R I P M dt dx Z,Ev (Ts (eb M) hs (y::rest) q (dq x S w R I (.ref q) P) (pV w a6 a8) dt dx Z) Z [0,1] (.pend 579 aj (.call (.builtin "sorted") #[[.ref q],[]]) ch) [dq x S w R I (.ref q) P,pV w a6 a8] [] [] [])(eC:∀q R I P bo fc fl Z,Ev (Tt ch L bo (dq x S w R I (.ref q) P) (pV w a6 a8) fc fl Z) Z [0,1] (.next<|CW w) [dq x S w R I (.ref q) P,(w.ro,aa ((ar a6).push<|.ref bo)<|a8+1)] [] [] [cm<|ar a6])(h:∀F' q R I P e ac eg ec z fm fd bo da (so:!(!N×N)) O,Le F F'->bS F' e (eQ eJ)->ec.map Nd.pg=(fR ((y::rest).map (·.1))<|fV ((y::rest).map (·.1))<|ns.map Nd.pg).1->eg.map (·.1)=(fR ((y::rest).map (·.1))<|fV ((y::rest).map (·.1))<|ns.map Nd.pg).2->F' bo (aa #[so.map ax] da)->(so.map (·.1)).Perm ((y::rest).map (·.1))->oy (so.map (·.1))->ay x aj 580 (CW w) F' ([dq x S w R I (.ref q) P]++(W1 x S r (i+(rest.length+1)) z fm fd ne eg ec++(W2 x w bb e (a6++[.ref bo]) nb ac (a8+1)++O))) Q):Go x aj 580 F Q F ([(r,aa #[(y::rest).map ax] nx)]++(([S.N (aG x.P ns) ne]++Gr ns)++(W2 x w bb bs a6 nb nc a8++a7))) ck:=by
 have m:bC (ns.map Nd.pg)=s.map (·.1):=by rw[<-ea];unfold dH;rw[bI,];rfl
 refine bP ev ab ab (pm [[bl],_,_,[S.N (aG x.P ns) ne]++Gr ns,W2 x w bb bs a6 nb nc a8++a7] (.p (.p (.a 0)<|.a 1)<|.p (.a 2)<|.p (.a 3)<|.a 4) (.p (.p (.a 1)<|.a 2)<|.p (.a 0)<|.p (.a 3)<|.a 4) rfl) ((Re (an _ _ W) (ahS hi)<|by rw[Mw hi]).le ζ λ_ _ _ _ U=>U) λgo db gc e6 q=>?_;cases q;have ds:=bN e6;refine#[[bl,S.D x.P (.ref r) (ad i) tp (ad i) tf],_++((_++Gr ns)++(W2 x w bb bs a6 nb nc a8++a7)),pm [[bl],[S.D x.P (.ref r) (ad i) tp (ad i) tf],_,[S.N (aG x.P ns) ne]++Gr ns,W2 x w bb bs a6 nb nc a8++a7] (.p (.p (.a 1)<|.a 2)<|.p (.a 0)<|.p (.a 3)<|.a 4) (.p (.p (.a 0)<|.a 1)<|.p (.a 2)<|.p (.a 3)<|.a 4) rfl,dV,[],[(S.so,a9 S.sd)],⟨ds _ _ W,ab⟩,λfa fe=>bP (Z:=[bl]++(W2 x w bb bs a6 nb nc a8++a7)) (ew fa fe) ab ab (pm [[bl],_,_,_,Gr ns,W2 x w bb bs a6 nb nc a8++a7] (.p (.p (.a 0)<|.a 1)<|.p (.a 2)<|.p (.p (.a 3)<|.a 4)<|.a 5) (.p (.p (.p (.a 1)<|.p (.a 2)<|.a 3)<|.a 4)<|.p (.a 0)<|.a 5) rfl) ((aqQ (an _ _<|ds _ _ W) (dl _ _) (Mw hi) λk c=>by rw[m,];rw[H k c]).le ζ λ_ _ _ _ U=>U) λgs f9 c3 e7 c5=>?_];rw[c5.casesOn @λc3 q u c1 c2 du dd d3=>?_];have T:=dP (cb ds) e7;rw[#[[bl],c3++(W2 x w bb bs a6 nb nc a8++a7),pm [c3,[bl],W2 x w bb bs a6 nb nc a8++a7] (.p (.a 0)<|.p (.a 1)<|.a 2) (.p (.a 1)<|.p (.a 0)<|.a 2) rfl,d0,[],[(q,aD<|(y::rest).map ax)],⟨u,ab⟩,λJ G=>bP (Z:=c3++([pV w a6 a8]++a7)) (ey q J G) ab ab (pm [[bT q G,eP J q 0],c3,_,_,_,a7] (.p (.a 0)<|.p (.a 1)<|.p (.p (.a 2)<|.p (.a 3)<|.a 4)<|.a 5) (.p (.p (.a 0)<|.p (.a 2)<|.a 3)<|.p (.a 1)<|.p (.a 4)<|.a 5) rfl) ((ep _ q G J (cb T)<|an _ _ u).le ζ λ_ _ _ _ U=>U) λgu K gg e8 c5=>?_]];rw[c5.casesOn λI g e ac eM=>?_];have c0:=bN e8;have e3:dH (c1.map Nd.pg)=s:=by rw[dd,];rw[(EE λk c=>by obtain⟨e5,eN,rfl⟩:=bn.mp c;rw[m,];rw[H e5 eN]).trans ea]
 generalize e1:ad i+ad (y::rest).length=po at d3;refine#[[dq x S w (b G) I (.ref q) g,S.D x.P (.ref r) po c2 (ad i) tf],([(r,aa #[[]] du)]++([S.N (aG x.P c1) ne]++Gr c1))++(W2 x w bb e a6 nb ac a8++a7),(((d3.append_right _).append_left _).trans <|pm [[dq x S w (b G) I (.ref q) g],[iM x w bb nb],_,[S.D x.P (.ref r) po c2 (ad i) tf],[(r,aa #[[]] du)],_,Gr c1,_,a7] (.p (.p (.a 0)<|.p (.a 1)<|.a 2)<|.p (.p (.p (.a 3)<|.p (.a 4)<|.a 5)<|.a 6)<|.p (.a 7)<|.a 8) (.p (.p (.a 0)<|.a 3)<|.p (.p (.a 4)<|.p (.a 5)<|.a 6)<|.p (.p (.a 1)<|.p (.a 2)<|.a 7)<|.a 8) rfl),d1,[],[(S.so,a9 S.sd),(q,aD<|(y::rest).map ax)],#[c0 _ _<|T _ _ W,c0 _ _ u,ab],λD E=>bP (Lc:=[pI D 145 S.so]++([S.D x.P (.ref r) po c2 (ad i) tf,(r,aa #[[].map ax] du),S.N (aG x.P c1) ne]++Gr c1)) (Z:=[dq x S w (b G) I (.ref q) g]++(W2 x w bb e a6 nb ac a8++a7)) (eB q po (ad i) c2 tf (b G) I g D E) ab #[yq abi (by rw[aU,];simp only[dM];rw[ahT hi]),ab] (pm [[pI D 145 S.so],[dq x S w (b G) I (.ref q) g],_,_,_,Gr c1,W2 x w bb e a6 nb ac a8++a7] (.p (.p (.a 0)<|.p (.a 1)<|.a 2)<|.p (.p (.a 3)<|.p (.a 4)<|.a 5)<|.a 6) (.p (.p (.a 0)<|.p (.p (.a 2)<|.p (.a 3)<|.a 4)<|.a 5)<|.p (.a 1)<|.a 6) rfl) ((Rx<|aqR e0 (an _ _<|c0 _ _<|T _ _ W) e3 (dw _) (ahU hi) H (by simp only[dd];rw[j])).le ζ λ_ _ _ _ U=>U) λg0 gb f e9 c5=>?_];rw[c5.casesOn @λf ed eh ef X d d2 B A=>?_];have c4:=bN e9;rw[dd]at d2 B;rw[#[[dq x S w (b G) I (.ref q) g,pV w a6 a8],f++([iM x w bb nb]++([i9 x w e ac]++a7)),pm [f,_,_,_,_,a7] (.p (.a 0)<|.p (.a 1)<|.p (.p (.a 2)<|.p (.a 3)<|.a 4)<|.a 5) (.p (.p (.a 1)<|.a 4)<|.p (.a 0)<|.p (.a 2)<|.p (.a 3)<|.a 5) rfl,hs,[],[(q,aD<|(y::rest).map ax)],#[c4 _ _<|c0 _ _ u,ab],λM t4=>jf (Lc:=[]) (es q (b G) I g D M t4) ab ab (.refl _) λgl g2 g1 f8 C o=>HV o (o.rep.fr _ _<|an _ _<|c4 _ _<|c0 _ _ u) (.inr rfl) rfl rfl (ahV hi) λbo da so l e4=>?_]];rw[#[[dq x S w (b G) I (.ref q) g,pV w a6 a8],_++(f++([iM x w bb nb]++([i9 x w e ac]++a7))),pm [[(bo,aa #[so.map ax] da)],[dq x S w (b G) I (.ref q) g,pV w a6 a8],f++([iM x w bb nb]++([i9 x w e ac]++a7))] (.p (.a 0)<|.p (.a 1)<|.a 2) (.p (.a 1)<|.p (.a 0)<|.a 2) rfl,L,[],[],ab,λdt dx=>bu (eC q (b G) I g bo dt dx) ab #[fY<|g_ e2,ab] rfl (λp Y U=>an p Y<|c4 p Y<|c0 p Y<|T p Y U) ?_]];simp only[km];rw[.perm ((((A.append_right _).append_left _).append_left _).trans ?_)<|.u8 (L2:=[(bo,aa #[so.map ax] da)])<|h _ q (b G) I g e ac eh ed c2 X ef bo da so (d++a7) (λp Y U=>an p Y<|an p Y<|an p Y<|c4 p Y<|c0 p Y<|T p Y U) (eM.to λp Y U=>an p Y<|an p Y<|an p Y<|c4 p Y U) d2 B (bc<|.head _) l e4];simp only[(rfl:ad i+(rest.length+1)=ad (i+(rest.length+1))),e1.symm];rw[pm [[dq x S w (b G) I (.ref q) g],_,_,[S.D x.P (.ref r) (ad<|i+(rest.length+1)) c2 (ad<|i+(rest.length+1)) X],[(r,aa #[eh.map ax] ef)],_,Gr ed,d,_,_,a7] (.p (.p (.a 0)<|.a 1)<|.p (.a 2)<|.p (.p (.p (.p (.a 3)<|.p (.a 4)<|.a 5)<|.a 6)<|.a 7)<|.p (.a 8)<|.p (.a 9)<|.a 10) (.p (.a 2)<|.p (.a 0)<|.p (.p (.a 3)<|.p (.a 4)<|.p (.a 5)<|.a 6)<|.p (.p (.a 8)<|.p (.a 9)<|.a 1)<|.p (.a 7)<|.a 10) rfl]
end
def mU.len{m:nF}{t:!(!N)}{cs eJ:cH}(h:mU m t cs eJ):eJ.length=cs.length+t.length:=by
 induction h with
 |nil=>rfl
 |cons _ _ _ C=>simp only[C,cJ];simp only[dM,kZ];rw[ake]
def Ql(a:l_ s):∀{t g},dH g=s->(∀k∈t,k∈s.map (·.1))->dH (fR t g).1=s:=by
 intro J;induction J with
 |nil=>intro _ U _;rw[U]
 |cons k t C=>
  intro g U H;have w:bC g=s.map (·.1):=by rw[U▸?_];unfold dH;rw[bI,];rfl
  have e:=yR (f:=dR<|-2) (λK=>rfl) (by rw[w,];rw[H k<|.head _]);rw[C ((Qk λu c=>(aJ (Q6<|H k<|.head _) λy b q=>?_)).trans<|e.trans U) λu c=>H u<|.tail _ c];rw[Dr e,w];rw[Ra,U,q]at c;rw[a.cl y b u c]
abbrev yD(rd:!(List<|List N)):!PV:=rd.map λl=>.lst<|l.map .str
def PO:∀{l:!(!N×N)},aM F ((l.map (·.1)).map .str) (l.map ax):=by
 intro J;induction J with
 |nil=>rw[.nil]
 |cons y l C=>rw[.cons (c9.mpr #[y.2,rfl]) C]
section
variable{x:Wd} {S:Sg}
abbrev LW(x:Wd)(S:Sg)(w:W7)(P:aH×Obj)(r i tp tf nx ne nb nc a:N)(rs:!(!N×N))(ns:!Nd)(e j:!De)(B:!af)(R:ao):ao:=[P]++(W1 x S r i tp tf nx ne rs ns++(W2 x w e j B nb nc a++R))
inductive QW (x:Wd) (S:Sg) (w:W7) (bes:!De) (nb:N) (cs:cH) (rd:!(!(!N))) (F':Fs):aL->ao->Prop
 |mk {L':ao} (f7 f8 v7 v8 ces nc rds no J) (h1:bS F' ces (eQ cs)) (h2:aM F' (yD rd) rds) (h3:L'.Perm ([dq x S w f7 f8 v7 v8]++(W2 x w bes ces rds nb nc no++J))):QW x S w bes nb cs rd F' (.ok .next) L'
def apJ:∀{l p vs v},aM F l vs->Rp F p v->aM F (l++[p]) (vs++[v]):=λa M=>a.push M
def afE(c2:l_ s){cs eJ:cH}(h:o5 m a8 g cs rd i eJ a7):∀{ns rs tp tf nx nc ac b f8 K v8 j B R F},F S.so (a9 S.sd)->ns.map Nd.pg=g->dH g=s->rs.map (·.1)=a8->bS F a6 (gy m)->bS F j (eQ cs)->aM F (yD rd) B->cs.length<=i->B.length<=i->i<10->ay x aj 580 (CW w) F (LW x S w (dq x S w b f8 K v8) r i tp tf nx ne nb nc ac rs ns a6 j B R) (QW x S w a6 nb eJ a7):=by
 induction h with
 |@nil g cs rd i=>intro ns rs tp tf nx nc ac b f8 K v8 j B R F W C o A bt d f bs M X;obtain rfl:=FQ.mp A;rw[.perm (pm [[dq x S w b f8 K v8],_,[(r,aa #[[].map ax] nx)],[S.N (aG x.P ns) ne]++Gr ns,W2 x w a6 j B nb nc ac++R] (.p (.a 0)<|.p (.p (.a 1)<|.p (.a 2)<|.a 3)<|.a 4) (.p (.p (.a 0)<|.a 1)<|.p (.a 2)<|.p (.a 3)<|.a 4) rfl) ?_];rw[bJ (L:=[dq x S w b f8 K v8,S.D x.P (.ref r) (ad i) tp (ad i) tf]) (O:=[(S.so,a9 S.sd)]) #[W,ab] λch ck=>bP (RY w S ch ck tp tf r b f8 (ad i) (ad i) K v8 x) ab ab (pm [[dq x S w b f8 K v8],_,_,[S.N (aG x.P ns) ne]++Gr ns,W2 x w a6 j B nb nc ac++R] (.p (.p (.a 0)<|.a 1)<|.p (.a 2)<|.p (.a 3)<|.a 4) (.p (.p (.a 1)<|.a 2)<|.p (.a 0)<|.p (.a 3)<|.a 4) rfl) ((Re (an _ _ W) X<|dw _).le ζ λ_ _ _ _ h=>h) λeM c4 ev d2 q=>?_];rw[q.casesOn ?_];have b0:=bN d2;rw[#[[],_,.refl _,[0],[],[],ab,λd3 ef=>bp (w0e w.z d3 ef x) ab ab b0 #[b,f8,K,v8,j,nc,B,ac,[S.D x.P (.ref r) (ad i) tp (ad i) tf,(r,aa #[[].map ax] nx)]++(([S.N (aG x.P ns) ne]++Gr ns)++R),d.to λp Y h=>an p Y<|b0 p Y h,f.to λp Y h=>an p Y<|b0 p Y h,(pm [[S.D x.P (.ref r) (ad i) tp (ad i) tf,(r,aa #[[].map ax] nx)],_,_++Gr ns,W2 x w a6 j B nb nc ac,R] (.p .z<|.p (.a 0)<|.p (.a 1)<|.p (.a 2)<|.p (.a 3)<|.a 4) (.p (.a 1)<|.p (.a 3)<|.p (.a 0)<|.p (.a 2)<|.a 4) rfl)]]]
 |@cons bo t e2 g cs c5 ew rd eN i c0 H dd d0 d1 bb _ c3=>
  intro ns rs tp tf nx nc ac b f8 K v8 j B R F W C o A bt d f bs M X;obtain⟨y,Q,rfl,rfl,rfl⟩:∃y Q,rs=y::Q/\y.1=bo/\Q.map (·.1)=t:=by
   cases rs with
   |nil=>cases A
   |cons y Q=>injection A with da db;rw[#[y,Q,rfl,da,db]]
  rw[aU]at bb c3;have c1:bC g=s.map (·.1):=by rw[o▸?_];unfold dH;rw[bI,];rfl
  subst C;rw[.perm (pm [[dq x S w b f8 K v8],_,_,_++Gr ns,W2 x w a6 j B nb nc ac++R] (.p (.a 0)<|.p (.p (.a 1)<|.p (.a 2)<|.a 3)<|.a 4) (.p (.p (.a 0)<|.a 1)<|.p (.a 2)<|.p (.a 3)<|.a 4) rfl) ?_];exact bJ (L:=[dq x S w b f8 K v8,S.D x.P (.ref r) (ad i) tp (ad i) tf]) (O:=[(S.so,a9 S.sd)]) #[W,ab] λch ck=>RG (eJ:=c5) (bT:=λq _=>dq x S w b f8 (.ref q) v8) c2 W o bb (λbo c=>by rw[c1▸H _ (bw c)]) dd (akf M X) (RY w S ch ck tp tf r b f8 (ad i) (ad i) K v8 x) (λn ed=>w1b w S tp tf n ed r b f8 (ad i) (ad i) K v8 x) (λq D E=>w1c w S.so D E q b f8 K v8 (y::Q) x) (λc4 q E D l u=>LC (au:=[]) u (bt.to l) (d.to l) c0<|akg bs bb) (λq Z J em ei U I P ca e bl=>RV x w.us w.z w.rl S.so S.sd S.nd w.bd w.ro w.cd w.f0 w.f1 w.f2 w.f3 w.f4 w.f5 w.f6 w.v0 w.v3 q (y::Q) S.u r Z J em ei U I P ca e bl<|Dn bb) (λq U I P ca ea eg bl=>RW x w.us w.z w.rl S.so w.bd w.ro w.cd w.f0 w.f1 w.f2 w.f3 w.f4 w.f5 w.f6 w.v0 w.v3 q (y::Q) U I P ca ac B ea eg bl<|Dn bb) (λq U I P sl eb eh bl=>RX x w.us w.z w.rl S.so w.bd w.ro w.cd w.f0 w.f1 w.f2 w.f3 w.f4 w.f5 w.f6 w.v0 w.v3 q (y::Q) U I P ac B sl eb eh bl<|Dn bb) λT q U I P ey eB e0 eC e4 e3 G sl ec e1 ep l k ds du dx dt dV=>by
    obtain rfl:=EG dV d1<|dt.trans d0.symm;rw[c3 (l _ _ W) ds (Ql c2 ((EE H).trans o) λbo c=>by rw[c1▸H bo c]) du (bt.to l) k (by show aM T (ql _<|rd++_) _;rw[bf▸apJ (f.to l) (dT.mpr<|gC sl _ ec rfl dx PO)]) (by rw[c0.len,];simp only[dM,aU];rw[akh bs]) (by rw[cJ,];simp only[dM,kZ];rw[aki M]) bb]
end
section
variable{x:Wd} {S:Sg}
def afF(ac:l_ s)(h:o5 m (k::a8) g [] [] 0 eJ bl)(W:F S.so (a9 S.sd))(C:ns.map Nd.pg=g)(hs:dH g=s)(A:rs.map (·.1)=k::a8)(bs:bS F a6 (gy m)):ay x aj 580 (CW w) F (LW x S w (sW x S w) r 0 tp tf nx ne nb nc a7 rs ns a6 [] [] bb) (QW x S w a6 nb eJ bl):=by
 cases h with
 |@cons _ _ d2 _ _ ca _ _ _ _ bo H j c5 da t f=>
  obtain⟨y,Q,rfl,rfl,rfl⟩:∃y Q,rs=y::Q/\y.1=k/\Q.map (·.1)=a8:=by
   cases rs with
   |nil=>cases A
   |cons y Q=>injection A with K ch;rw[#[y,Q,rfl,K,ch]]
  rw[aU]at t f;have bt:bC g=s.map (·.1):=by rw[hs▸?_];unfold dH;rw[bI,];rfl
  subst C;rw[.perm (pm [[sW x S w],_,_,_++Gr ns,W2 x w a6 [] [] nb nc a7++bb] (.p (.a 0)<|.p (.p (.a 1)<|.p (.a 2)<|.a 3)<|.a 4) (.p (.p (.a 0)<|.a 1)<|.p (.a 2)<|.p (.a 3)<|.a 4) rfl) ?_];exact bJ (L:=[sW x S w,S.D x.P (.ref r) (ad 0) tp (ad 0) tf]) (O:=[(S.so,a9 S.sd)]) #[W,ab] λB dt=>RG (eJ:=ca) (bT:=λq D=>BJ x S w q D) ac W hs t (λk c=>by rw[bt▸H _ (bw c)]) j (dw _) (w0a w S B dt tp tf r (ad 0) (ad 0) x) (λn D=>w0b w S tp tf n D r (ad 0) (ad 0) x) (λq b0 E=>w0c w S.so b0 E q (y::Q) x) (λdx q E b0 l u=>afw u (bs.to l) .nil bo (by simp at t⊢;rw[agf t])) (λq Z J du ds U I P M e R=>RV x w.us w.z w.rl S.so S.sd S.nd w.bd w.ro w.cd w.f0 w.f1 w.f2 w.f3 w.f4 w.f5 w.f6 w.v0 w.v3 q (y::Q) S.u r Z J du ds U I P M e R<|Db t) (λq U I P M db dd R=>RW x w.us w.z w.rl S.so w.bd w.ro w.cd w.f0 w.f1 w.f2 w.f3 w.f4 w.f5 w.f6 w.v0 w.v3 q (y::Q) U I P M a7 [] db dd R<|Db t) (λq U I P sl X o R=>RX x w.us w.z w.rl S.so w.bd w.ro w.cd w.f0 w.f1 w.f2 w.f3 w.f4 w.f5 w.f6 w.v0 w.v3 q (y::Q) U I P a7 [] sl X o R<|Db t) λT q U I P Y d0 i d z d3 G sl b d1 dV l ck c0 c2 c3 c1 c4=>by obtain rfl:=EG c4 da<|c1.trans c5.symm;rw[afE ac f (l _ _ W) c0 (Ql ac ((EE H).trans hs) λk c=>by rw[bt▸H k c]) c2 (bs.to l) ck (.cons (dT.mpr #[sl,_,b,rfl,c3,PO]) .nil) (by rw[bo.len▸?_];simp only[dM,aU,kZ];rw[agg]) (agh) t]
end
def arr(P):T P 0=some (o0 P):=by kernel_rfl
section
variable{x:Wd} {S:Sg} {D:Mk} {b:N} {c:bj} {F:Fs} {L:ao} {Q G:Po}
def ay.n0(g:(∀p∈L,p.1≠0)->ay x D b c F L Q):ay x D b c F L Q:=λw m s A C o=>g (λp I e=>o.rep.dj p (fZ _ I) (o0 x.P)<|e▸o.base.top 0 _ (arr _)) w m s A C o
def _root_.Mine.bS.keys{F:Fs}{l:!De}{m:!(!N×PV)}(h:bS F l m):l.map (·.1)=m.map (·.1):=by
 induction h with
 |nil=>rfl
 |cons _ _ C=>simp[C]
def js(cs:cH):PV:=match aZ cs [70]with
 |some (y::_)=>.nI<|(((65+y.2)::y.1).dropWhile (·==65)).map zU
 |_=>.none
structure rR (F:Fs) (x:Wd) (a:N) (b:Bool) (rd:!(!(!N))) (cs:cH) (ro cd nc no:N) (rds:!af) (ces:!De) (wv:af):Prop where
 l:F a (aa #[[.bool b,.ref ro,.ref cd,wv]] 0)
 rd:aM F (yD rd) rds
 ce:bS F ces (eQ cs)
 w:Rp F (js cs) wv
inductive QR (x:Wd) (b:Bool) (rd:!(!(!N))) (cs:cH) (J0:ao) (F:Fs):aL->ao->Prop
 |mk {L:ao} (a ro cd nc no rds ces wv J) (h1:rR F x a b rd cs ro cd nc no rds ces wv) (h2:L.Perm ([(ro,aa #[rds] no),(cd,ak (aB x.P ces) nc)]++(J++J0))):QR x b rd cs J0 F (.ok (.ret (.ref a))) L
def rR.to{F F':Fs}(T:Le F F'){a:N}{b:Bool}{rd:!(List<|List N)}{cs:cH}{D cd nc c:N}{B:!af}{j:!De}{e:af}(h:rR F x a b rd cs D cd nc c B j e):rR F' x a b rd cs D cd nc c B j e:=#[T _ _ h.l,h.rd.to T,h.ce.to T,h.w.to T]
structure K7 where
 sz:N
 tk:N
 rl:N
 f2:N
 t2:N
 v0:af
 us:N->Array (Option af)
 b:Bool
abbrev gY(x:Wd)(k:K7):aH×Obj:=(k.sz,bi [V x.P bU k.tk<|.ref k.rl,V x.P b5 (k.tk+13)<|.ref<|k.sz+2,V x.P bD k.f2 k.v0,V x.P cK k.t2<|.bool k.b] 4<|k.us k.sz)
abbrev K7.w(k:K7)(c X o:N):W7:=#[k.us,k.sz,k.rl,c,X,X+1,k.tk,k.tk+13,k.f2,k.t2,o,o+1,o+2,k.v0,.bool k.b]
abbrev BV(ol:!aX)(k:K7):Mk:=#[none,some (cn k.sz::ol),false]
abbrev BL(x:Wd)(k:K7)(c X o b f8:N)(K v8:af)(z W S t:N)(l:!N):aH×Obj:=(k.sz,bi [V x.P bU k.tk<|.ref k.rl,V x.P b5 (k.tk+13)<|.ref<|k.sz+2,V x.P bD k.f2 k.v0,V x.P cK k.t2<|.bool k.b,V x.P eL o<|.ref c,V x.P cD (o+1)<|.ref X,V x.P cg (o+2)<|.ref<|X+1,V x.P ez b K,V x.P d6 f8 v8,V x.P kQ z .none,V x.P vU (z+6)<|.str #[#[l]] W,V x.P vT (z+7)<|.int (ad S) t] 12<|k.us k.sz)
abbrev Qd(o:aL->aR->av)(x:Wd)(k:K7)(it na f5:N)(j:!af)(v5:af)(h:!N)(n t:N)(Z:ao):av:=o (.ok .next)<|cf [gY x k,(it+1,aa #[j] na),(it+2,ak [V x.P bD f5 v5] 1)] n t h [] [] Z
abbrev Qw(o:aL->aR->av)(x:Wd)(k:K7)(c nb:N)(e:!bv)(h:!N)(n t:N)(Z:ao):av:=o (.ok<|.ret .none)<|cf [gY x k,(c,ak e nb)] n t h [] [] Z
abbrev Qf(o:aL->aR->av)(x:Wd)(S:Sg)(w:W7)(b f8:N)(K v8:af)(j:!bv)(nc:N)(gv:!af)(O:ao)(h:!N)(n t:N)(Z:ao):av:=o (.ok .next)<|cf [dq x S w b f8 K v8,(w.cd,ak j nc)] n t h gv O Z
abbrev Qg(o:aL->aR->av)(P:aH×Obj)(cd nc:N)(j:!bv)(y:!N)(a:N)(h:!N)(n t:N)(Z:ao):av:=o (.ok<|.ret<|.str #[#[y]] a)<|cf [P,(cd,ak j nc)] n t h [] [] Z
def Rm{ei:N->aL->aR->av}(hv:S.so=k.sz+2)(fa:F S.so (a9 S.sd))(f9:F k.rl (aa #[ck] nr))(A:aM F ((bb::rest).map dG) ck)(hk:∀q∈bb::rest,jZ q)(e9:rest.length<=100)(g0:Le F0 F)(ec:∀r F L,QR x k.b a8 eJ a6 F r L->Q F r L)(gl:l_ s)(fd:o5 m (c0::R) g [] [] 0 eJ a8)(C:ns.map Nd.pg=g)(hs:dH g=s)(go:rs.map (·.1)=c0::R)(gb:gy m=(bb::rest).flatMap qL)(gg:(m.map (·.1)).Nodup)(gc:m.length<=1000)(dt:∀y R,aZ eJ [70]=some (y::R)->y.2<3/\y.1≠[]/\y.1.length<=100/\(∀c∈y.1,c<128)/\∃ey eB,R=[ey,eB])(fe:aZ eJ [70]≠some [])(e3:∀Z,Ev (o Z) Z c1 (.pend 597 (BV ol k) (i_ b_ 1 (.ref it) (.ref<|it+1)<|fO b_ 1 (cn k.sz)<|it+2) ca) [gY x k,eT it k.rl 0,(it+1,aa #[[]] 0),(it+2,ak [] 0)] [] [] [])(e4:∀na f5 d3 v5 n t Z,Ev (Qd ca x k it na f5 d3 v5 bl n t Z) Z [0,6,3,1] (.pend 593 aj (.builtin "dict.update.loop" #[[.ref n,.ref<|n+3,.int 0 0,.none],[]])<|ei n) [gY x k,eT (n+3) (it+1) 0,(n,ak [] 0)] [(it+1,aa #[d3] na)] [] [])(e8:∀n nb e J G Z,Ev (Qw (ei n) x k n nb e bo J G Z) Z [0,1,2,3] (.pend 597 (BV ol k) (cM b_ 10<|cn k.sz) a7) [sW x S<|k.w n J G,(n,ak e nb),(J,aa #[[]] 0),(J+1,ak [] 0)] [] [] [])(e5:∀n J G b f8 K v8 j nc H db ev g2 g3 W c4 ds d l D E Z,Ev (Qf a7 x S (k.w n J G) b f8 K v8 j nc [.bool true,.ref H,.str #[#[[d]]] 0] [(H,aa #[[.ref ev,.ref g2,.ref g3]] db),(ev,aD [.str #[#[l]] W,.int (ad c4) ds])] bs D E Z) Z [0,1] (.pend 597 (BV ol k) (.call (.builtin "str.lstrip") #[[.str #[#[[d]++l]]<|E+10,.str #[#[[65]]]<|E+11],[]]) ch) [BL x k n J G b f8 K v8 E W c4 ds l,(J+1,ak j nc)] [] [] [fL #[#[[d]]] #[#[l]],iX #[#[[65,66,67]]] (ad c4) #[#[[d]]],cR (.type "dict") j #[#[[70]]]<|.ref H,nv (.type "dict") j #[#[[70]]] true<|J+1])(e6:∀n J G b f8 K v8 j nc W c4 ds l E y d0 M t4 Z,Ev (Qg ch (BL x k n J G b f8 K v8 E W c4 ds l) (J+1) nc j y d0 bt M t4 Z) Z [1,2] (.res<|.ok<|.ret<|.ref M) [(J+1,ak j nc)] [(M,aa #[[.bool k.b,.ref J,.ref<|J+1,.bytes (jy #[#[y]])<|t4+1]] 0)] [] [uM #[#[y]]])(e7:∀n J G b f8 K v8 j nc D E Z,Ev (Qf a7 x S (k.w n J G) b f8 K v8 j nc [.bool false] [] b0 D E Z) Z [1,2] (.res<|.ok<|.ret<|.ref D) [(J+1,ak j nc)] [(D,aa #[[.bool k.b,.ref J,.ref<|J+1,.none]] 0)] [] [nv (.type "dict") j #[#[[70]]] false<|J+1]):Go x #[none,some ol,false] 600 F0 Q F (W1 x S r 0 tp tf nx ne rs ns++a6) o:=by
 rw[bP (Lc:=[eT it k.rl 0,(it+1,aa #[[]] 0),(it+2,ak [] 0)]) (Z:=[gY x k]++(W1 x S r 0 tp tf nx ne rs ns++a6)) e3 ab ab (pm [[gY x k],[eT it k.rl 0,(it+1,aa #[[]] 0),(it+2,ak [] 0)],W1 x S r 0 tp tf nx ne rs ns++a6] (.p (.p (.a 0)<|.a 1)<|.a 2) (.p (.a 1)<|.p (.a 0)<|.a 2) rfl) ((VM (ac:=it+1) (an _ _ f9) (A.to an) hk<|ag6 e9).hd.le ζ λ_ _ _ _ U=>U) λhw d2 P u q=>?_];rw[q.casesOn λf5 v5 na c2 ef=>?_];have em:Le F d2:=λp o U=>u p o<|an p o U;have dx:bS d2 (c2.map (·.2)) (gy m):=by rw[gb,];rw[ef.rp]
 have fm:(c2.map (·.2)).map (·.1)=m.map (·.1):=dx.keys.trans (by rw[bI,];rfl);have ed:=dx.length;simp only[aU,aU]at ed;refine#[[gY x k,(it+1,aa #[c2.map ot] na),(it+2,ak [V x.P bD f5 v5] 1)],W1 x S r 0 tp tf nx ne rs ns++a6,pm [[(it+1,aa #[c2.map ot] na),(it+2,ak [V x.P bD f5 v5] 1)],[gY x k],W1 x S r 0 tp tf nx ne rs ns++a6] (.p (.a 0)<|.p (.a 1)<|.a 2) (.p (.p (.a 1)<|.a 0)<|.a 2) rfl,bl,[],[],ab,λX g6=>bP (Lc:=[eT (X+3) (it+1) 0,(X,ak (aB x.P []) 0)]) (Z:=[gY x k]++(W1 x S r 0 tp tf nx ne rs ns++a6)) (e4 na f5 (c2.map ot) v5 X g6) ab ab (pm [[gY x k],[eT (X+3) (it+1) 0,(X,ak [] 0)],W1 x S r 0 tp tf nx ne rs ns++a6] (.p (.p (.a 0)<|.a 1)<|.a 2) (.p (.a 1)<|.p (.a 0)<|.a 2) rfl) (RM (ps:=[]) (es:=[]) (rest:=c2) (i:=0) rfl rfl rfl (bc<|.head _) (λp I=>an _ _<|ef.at_ p I) (by simp only[qn,aU];rw[ag7 gc ed]) (by simp only[qn,fm];rw[gg])) λhz hg hj gs q=>?_];rw[q.casesOn λnb=>?_];have T:=λp o U=>gs p o<|an p o U;rw[#[[gY x k,(X,ak (aB x.P<|c2.map (·.2)) nb)],W1 x S r 0 tp tf nx ne rs ns++a6,pm [[(X,ak (aB x.P<|c2.map (·.2)) nb)],[gY x k],W1 x S r 0 tp tf nx ne rs ns++a6] (.p (.a 0)<|.p (.a 1)<|.a 2) (.p (.p (.a 1)<|.a 0)<|.a 2) rfl,bo,[],[],ab,λJ G=>bP (Lc:=LW x S (k.w X J G) (sW x S<|k.w X J G) r 0 tp tf nx ne nb 0 0 rs ns (c2.map (·.2)) [] [] []) (Z:=a6) (e8 X nb _ J G) ab ab (pm [[sW x S<|k.w X J G],[(X,ak (aB x.P<|c2.map (·.2)) nb)],[(J,aa #[[]] 0)],[(J+1,ak [] 0)],W1 x S r 0 tp tf nx ne rs ns,a6] (.p (.p (.a 0)<|.p (.a 1)<|.p (.a 2)<|.a 3)<|.p (.a 4)<|.a 5) (.p (.p (.a 0)<|.p (.a 4)<|.p (.p (.a 1)<|.p (.a 3)<|.a 2) .z)<|.a 5) rfl) (Qc:=λeC r h=>QW x S (k.w X J G) (c2.map (·.2)) nb eJ a8 eC r h/\J≠0) ?_ λhA hh eM gu q=>?_]]
 .rw[.n0 λdu=>((afF (x:=x) (S:=S) (w:=k.w X J G) gl fd (an _ _<|T _ _<|em _ _ fa) C hs go<|dx.to λp o U=>an p o<|T p o U).hd.le ζ λ_ _ _ _ q=>#[q,du (J,aa #[[]] 0)<|dX _<|dX _<|fZ _<|dX _<|dX _<|.head _])]
 .rw[q.casesOn λg7 du=>?_]
  obtain⟨b,f8,K,v8,j,nc,B,c3,O,c5,eg,fc⟩:=g7;have g1:=λp o U=>gu p o<|an p o U;have ep:=λp o U=>g1 p o<|T p o<|em p o<|g0 p o U;have eb:(eM++a6).Perm ([dq x S (k.w X J G) b f8 K v8,(J+1,ak (aB x.P j) nc)]++([(J,aa #[B] c3)]++([(X,ak (aB x.P<|c2.map sx) nb)]++(O++a6)))):=by rw[(fc.append_right _).trans<|pm [[dq x S (k.w X J G) b f8 K v8],[(X,ak (aB x.P<|c2.map sx) nb)],[(J+1,ak (aB x.P j) nc)],[(J,aa #[B] c3)],O,a6] (.p (.p (.a 0)<|.p (.p (.a 1)<|.p (.a 2)<|.a 3)<|.a 4)<|.a 5) (.p (.p (.a 0)<|.a 2)<|.p (.a 3)<|.p (.a 1)<|.p (.a 4)<|.a 5) rfl]
  have ew:([(J+1,ak (aB x.P j) nc)]++([(J,aa #[B] c3)]++([(X,ak (aB x.P<|c2.map sx) nb)]++(O++a6)))).Perm (_++(([(X,ak (aB x.P<|c2.map sx) nb)]++O)++a6)):=pm [[(J+1,ak (aB x.P j) nc)],_,_,O,a6] (.p (.a 0)<|.p (.a 1)<|.p (.a 2)<|.p (.a 3)<|.a 4) (.p (.p (.a 1)<|.a 0)<|.p (.p (.a 2)<|.a 3)<|.a 4) rfl
  have ea:=ag8 du
  match I:aZ eJ [70]with
  |none=>
   have da:d4 (aB x.P j) #[#[[70]]]=none:=by rw[lp,c5.none<|(t_ (f:=nM)).trans (by rw[I,];rfl)];rfl
   rw[#[_,_,eb,b0,[.bool false],[],ab,λD E=>bp (e7 X J G b f8 K v8 (aB x.P j) nc D E) ab #[#[dK,jN _ _,by rw[da,];rfl,ea],ab] ep <|ec _ _ _ #[D,J,J+1,nc,c3,B,j,.none,_,#[bc<|.head _,eg.to an,c5.to an,by unfold js;simp only[I];rw[yJ.mpr rfl]],ew]]]
  |some []=>rw[absurd I fe]
  |some (y::R)=>
   rw[xo (dt y R I) λe0 e1 ht e2 g8=>fU g8 λey eB ha=>?_];subst ha;obtain⟨t,v,g4,g5⟩:=c5.get ((t_ (f:=nM)).trans (by rw[I,];rfl));rw[nV (AI g5) λH dd dV d1 db g9 Y=>?_];subst g9;have da:d4 (aB x.P j) #[#[[70]]]=some (.ref H):=by rw[lp,g4];rfl
   have fl:[65,66,67][y.2]? =some (65+y.2):=by
    match y.2,e0 with
    |0,_=>rfl
    |1,_=>rfl
    |2,_=>rfl
   refine#[_,_,eb,bs,_,[(H,aa #[_] db),(dd 0,aD _)],#[Y.l,Y.at_ 0 y rfl,ab],λD E=>jf (Lc:=[]) (Z:=[BL x k X J G b f8 K v8 E (dV 0) y.2 (d1 0) y.1,(J+1,ak (aB x.P j) nc)]++([(J,aa #[B] c3)]++(_++(O++a6)))) (e5 X J G b f8 K v8 (aB x.P j) nc H db (dd 0) (dd 1) (dd 2) (dV 0) y.2 (d1 0) (65+y.2) y.1 D E) ab #[ji (dl _ _) e1 (by simp;lia),yt fl<|by lia,⟨dK,jN _ _,da⟩,⟨dK,jN _ _,by rw[da,];rfl,ea⟩,ab] (.refl _) λhq hD hB hb hu eN=>X_ eN (by simp;lia) λd0=>?_];have eh:=SQ (·==65) (l:=(65+y.2)::y.1);rw[#[_,_++(_++(O++a6)),.refl _,bt,[],[],ab,λM t4=>bp (e6 X J G b f8 K v8 (aB x.P j) nc (dV 0) y.2 (d1 0) y.1 E (([65+y.2]++y.1).dropWhile (·==65)) d0 M t4) ab #[#[λc dt=>?_,?_],ab] (λp o U=>an p o<|ep p o U) <|ec _ _ _ #[M,J,J+1,nc,c3,B,j,_,_,#[bc<|.head _,eg.to λp o U=>an p o<|an p o U,c5.to λp o U=>an p o<|an p o U,by unfold js;rw[I▸yI.mpr #[_,rfl]]],ew]]]
   .rcases aY.mp (eh.subset dt)with rfl|U
    .lia
    .rw[e2 c U]
   .have:=eh.length_le
    rw[b8 this<|show y.1.length+1<=16777216 by lia]
end
def Ld(z):(cn z).scope.kind=.function:=by kernel_rfl
structure sA (rows:!(!(!N))) (b:Bool) (cs:cH) (rd:!(!(!N)))where
 k:∀q∈rows,jZ q
 le:rows.length<=100
 f:N
 f0:0<f
 ff:(rows.foldl gI []).length*f<=4000
 se:iO (rows.foldl gI []) f (bC (rows.foldl gI [])) []=some b
 ok:l_ (dH (rows.foldl gI []))
 m:nF
 hm:gy m=rows.flatMap qL
 nd:(m.map (·.1)).Nodup
 m9:m.length<=1000
 y0:!N
 ys:!(!N)
 r0:jk (rows.foldl gI [])=y0::ys
 run:o5 m (y0::ys) (rows.foldl gI []) [] [] 0 cs rd
 w:∀y ys,aZ cs [70]=some (y::ys)->y.2<3/\y.1≠[]/\y.1.length<=100/\(∀c∈y.1,c<128)/\∃y2 y3,ys=[y2,y3]
 w0:aZ cs [70]≠some []
section
variable{x:Wd} {ol:!aX} {zs:!Fr}
inductive uO (x:Wd) (zs:!Fr) (b:Bool) (rd:!(!(!N))) (cs:cH) (F:Fs):aL->ao->Prop
 |mk {r L} (us) (h:QR x b rd cs (zs.map (be us)) F r L):uO x zs b rd cs F r L
abbrev gH(sz tk:N):Sg:=#[sz+2,sz+1,sz+4,λi=>match i with|0=>tk+4|1=>tk+6|2=>tk+9|_=>tk+12]
def QR.JC{b:Bool}{rd:!(List<|List N)}{cs:cH}{us:N->Array (Option af)}{R:ao}{r:aL}{F:Fs}{L:ao}(h:QR x b rd cs (zs.map (be us)++R) F r L):uO x zs b rd cs F r L:=h.casesOn λa D S H c B j e O M X=>#[us,#[a,D,S,H,c,B,j,e,O++R,M,X.trans<|pm [[(D,aa #[B] c),(S,ak (aB x.P j) H)],O,zs.map<|be us,R] (.p (.a 0)<|.p (.a 1)<|.p (.a 2)<|.a 3) (.p (.a 0)<|.p (.p (.a 1)<|.a 3)<|.a 2) rfl]]
abbrev n_(x:Wd)(sz tk w f2 G:N)(v:af):Fr:=#[sz,[V x.P bU tk<|.ref w,V x.P b5 (tk+13)<|.ref<|sz+2,V x.P bD f2 v,V x.P cK G<|.bool true],4]
def ZB(hk:iV ol zs){cs:cH}(R:sA (a8::rest) b cs rd)(c1:F a6 (aa #[a7] nr))(A:aM F ((a8::rest).map dG) a7)(Q:F (sz+2) (a9<|sz+1))(O:Le F0 F)(db:(n::r).map Nd.pg=(a8::rest).foldl gI [])(B:0<R.f/\R.f<=4000)(ey:qd (n::r))(hz:r.length<=1000)(eB:(r.length+1)*R.f<=4000)(eC:iO ((n::r).map Nd.pg) R.f ((n::r).map (·.k)) []=some b):Go x #[none,some ol,false] 600 F0 (uO x zs ((not (b))) rd cs) F (([(gH sz tk).N (aG x.P (n::r)) ne]++Gr (n::r))++zs.map (be us)) (DI ol a6 sz tk (tk+7) (tk+10) J G f2 0 0 (gH sz tk).u v x):=by
 have ev:=R.le;simp only[dM]at ev;rw[bP (Lc:=SN x (gH sz tk) #[.none,0,tk+7,0,tk+10,ne] (n::r)++(Gr (n::r)++((sz,az (n_ x sz tk a6 f2 G v).es 4)::zs.map (be us)))) (Z:=[]) (apb ol a6 sz tk (tk+7) (tk+10) J G f2 0 0 (gH sz tk).u v x) ab ab (pm [[(sz,az (n_ x sz tk a6 f2 G v).es 4)],_,_,Gr (n::r),zs.map<|be us] (.p (.p (.a 0)<|.a 1)<|.p (.p (.a 2)<|.a 3)<|.a 4) (.p (.p (.p (.a 1)<|.a 2)<|.p (.a 3)<|.p (.a 0)<|.a 4) .z) rfl) (Qc:=Gs x (gH sz tk) #[.none,0,tk+7,0,tk+10,ne] (n::r) (n_ x sz tk a6 f2 G v::zs) b) ?_ λe5 ef e4 e0 L=>nV L λh bs c b0 bt dd eg=>?_]
 .rw[.nd λe1=>?_]
  have eN:=λf B e=>by have eh:=(rx (by rw[e1]:(((SN x (gH sz tk) #[.none,0,tk+7,0,tk+10,ne] (n::r)++Gr (n::r))++((sz,az (n_ x sz tk a6 f2 G v).es 4)::zs.map (be us))).map (·.1)).Nodup)).2.1;rw[bV,c_]at eh;rw[eh.1 ?_];simp only[bI];rw[bn.mpr<|bA f B e]
  rw[dm (RQ (us:=us) (es:=(n_ x sz tk a6 f2 G v).es) (n:=4) eN) λe6 eM=>eM▸(aqP (ol:=cn sz::ol) (zs:=n_ x sz tk a6 f2 G v::zs) #[λU=>(nomatch(Ld sz).symm.trans U),rfl,hk] B rfl (show 1<sz+4 by lia) ey (an _ _ Q) hz eB eC).le ζ λ_ _ _ _ U=>U]
 .have T:=bN e0
  rw[db,R.r0]at dd;cases b with
  |false=>rw[ct eg λds I=>?_];subst ds;refine#[[gY x #[sz,tk,a6,f2,G,v,h,true]],W1 x (gH sz tk) bs 0 (tk+7) (tk+10) c ne b0 (n::r)++(zs.map (be h)++bt),?_,_,_,[(a6,aa #[a7] nr)],#[T _ _ c1,ab],λca E=>Rm (k:=#[sz,tk,a6,f2,G,v,h,true]) rfl (T _ _ Q) (T _ _ c1) (A.to T) R.k (by lia) (dP O T) (λ_ _ _ U=>U.JC) R.ok R.run db rfl dd R.hm R.nd R.m9 R.w R.w0 (rk ol a6 nr sz tk G f2 ca E a7 v h x) (λdx da c3 ed n ea=>rkd ol a6 sz tk G f2 ca dx da n ea c3 v ed h x) (λn dV c4 X o=>rkw ol a6 sz tk G f2 ca n dV X o v h c4 x) (λn X o bb bl K g j H c5 d0 d1 d2 d3 W S t d l M bo=>rkf ol a6 sz tk G f2 n X o bb bl H c5 d0 d1 d2 d3 W S t d M bo l v K g h j x) (λn X o bb bl K g j H W S t l bo y ec du eb=>rkg ol a6 sz tk G f2 n X o bb bl H W S t bo ec du eb l y v K g h j x) λn X o bb bl K g j H M bo=>rkh ol a6 sz tk G f2 n X o bb bl H M bo v K g h j x];simp only[bQ];rw[I.trans<|pm [[(gH sz tk).D x.P (.ref bs) 0 (tk+7) 0<|tk+10],[(bs,aa #[b0.map ax] c)],_,Gr (n::r),[gY x #[sz,tk,a6,f2,G,v,h,true]],zs.map<|be h,bt] (.p (.p (.p (.a 0)<|.p (.a 1)<|.a 2)<|.p (.a 3)<|.p (.a 4)<|.a 5)<|.a 6) (.p (.a 4)<|.p (.p (.a 0)<|.p (.a 1)<|.p (.a 2)<|.a 3)<|.p (.a 5)<|.a 6) rfl]
  |true=>
   rw[nV eg λe C ac ck ch ds I=>?_];subst ds;rw[#[[gY x #[sz,tk,a6,f2,G,v,h,true],(e,lk C<|.ref ac)],[(ac,kR ck ch)]++(W1 x (gH sz tk) bs 0 (tk+7) (tk+10) c ne b0 (n::r)++(zs.map (be h)++bt)),?_,_,_,[],ab,λca E=>xG (re ol a6 sz tk G f2 ca E e C ac v h x) ab ab (Lc:=(n_ x sz tk a6 f2 G v::zs).map (be h)++[(e,lk C<|.ref ac),(ac,kR ck ch)]) (Z:=W1 x (gH sz tk) bs 0 (tk+7) (tk+10) c ne b0 (n::r)++bt) (pm [[gY x #[sz,tk,a6,f2,G,v,h,true]],_,_,W1 x (gH sz tk) bs 0 (tk+7) (tk+10) c ne b0 (n::r),zs.map<|be h,bt] (.p (.p (.a 0)<|.a 1)<|.p (.a 2)<|.p (.a 3)<|.p (.a 4)<|.a 5) (.p (.p (.p (.a 0)<|.a 4)<|.p (.a 1)<|.a 2)<|.p (.a 3)<|.a 5) rfl) λw m s e3 ew em=>?_]]
   .simp only[bQ]
    rw[I.trans<|pm [[(gH sz tk).D x.P (.ref bs) 0 (tk+7) 0<|tk+10],[(bs,aa #[b0.map ax] c)],_,Gr (n::r),[gY x #[sz,tk,a6,f2,G,v,h,true]],zs.map<|be h,[(e,lk C<|.ref ac)],_,bt] (.p (.p (.p (.p (.a 0)<|.p (.a 1)<|.a 2)<|.p (.a 3)<|.p (.a 4)<|.a 5)<|.p (.a 6)<|.a 7)<|.a 8) (.p (.p (.a 4)<|.a 6)<|.p (.a 7)<|.p (.p (.a 0)<|.p (.a 1)<|.p (.a 2)<|.a 3)<|.p (.a 5)<|.a 8) rfl]
   .have ep:bg x (fz ef []) ((n_ x sz tk a6 f2 G v::zs).map (be h)++(e,gX (.ref 80) [.ref C,.ref ac,.none,.none,.bool false,.none])::(ac,kR ck ch)::w) m s:=by have q:=em;rw[bZ]at q;rw[q]
    refine ae5 ew rfl (hk:=#[λU=>(nomatch(Ld sz).symm.trans U),rfl,hk]) ep λc0 c2 i P ei=>bX (fz ef []) ((n_ x sz tk a6 f2 G v::zs).map (be i)++[(e,gX (.ref 80) _),(c0,wb (.ref ac) sz c2),(ac,kR ck ch)]) aV (by rw[bZ,];rw[ei]) ?_;rw[#[[gY x #[sz,tk,a6,f2,G,v,i,true],(e,gX (.ref 80) _),(c0,wb (.ref ac) sz c2)],W1 x (gH sz tk) bs 0 (tk+7) (tk+10) c ne b0 (n::r)++(zs.map (be i)++([(ac,kR ck ch)]++bt)),pm [[gY x #[sz,tk,a6,f2,G,v,i,true]],zs.map<|be i,[(e,gX (.ref 80) _),(c0,wb (.ref ac) sz c2)],_,W1 x (gH sz tk) bs 0 (tk+7) (tk+10) c ne b0 (n::r),bt] (.p (.p (.p (.a 0)<|.a 1)<|.p (.a 2)<|.a 3)<|.p (.a 4)<|.a 5) (.p (.p (.a 0)<|.a 2)<|.p (.a 4)<|.p (.a 1)<|.p (.a 3)<|.a 5) rfl,_,_,[(a6,aa #[a7] nr)],#[an _ _<|T _ _ c1,ab],λdt e2=>Rm (k:=#[sz,tk,a6,f2,G,v,i,false]) rfl (an _ _<|T _ _ Q) (an _ _<|T _ _ c1) (A.to λp Y U=>an p Y<|T p Y U) R.k (by lia) (cb<|dP O T) (λ_ _ _ U=>U.JC) R.ok R.run db rfl dd R.hm R.nd R.m9 R.w R.w0 (rg ol a6 nr sz tk G f2 e C ac c0 dt e2 a7 c2 v i x) (λdx da c3 ed n ea=>rgd ol a6 sz tk G f2 dt dx da n ea c3 v ed i x) (λn dV c4 X o=>rgw ol a6 sz tk G f2 dt n dV X o v i c4 x) (λn X o bb bl K g j H c5 d0 d1 d2 d3 W S t d l M bo=>rgf ol a6 sz tk G f2 n X o bb bl H c5 d0 d1 d2 d3 W S t d M bo l v K g i j x) (λn X o bb bl K g j H W S t l bo y ec du eb=>rgg ol a6 sz tk G f2 n X o bb bl H W S t bo ec du eb l y v K g i j x) λn X o bb bl K g j H M bo=>rgh ol a6 sz tk G f2 n X o bb bl H M bo v K g i j x]]
def ZA(hk:iV ol zs){cs:cH}(R:sA (a7::rest) b cs rd)(j:F K (aa #[a6] nr))(A:aM F ((a7::rest).map dG) a6):Go x #[none,some ol,false] 600 F (uO x zs ((not (b))) rd cs) F (zs.map<|be us) (DH ol K nr sz tk a6 x):=by
 have i:=R.le;simp only[dM]at i;refine bP (Z:=zs.map<|be us) (apa ol K nr sz tk a6 x) ab ab (pm [[Ij x (gH sz tk) sz K tk<|tk+13],[(gH sz tk).D x.P .none 0 (tk+7) 0<|tk+10],[(gH sz tk).N [] 0],_,zs.map<|be us] (.p (.p (.a 0)<|.p (.a 1)<|.p (.a 2)<|.a 3)<|.a 4) (.p (.p (.p (.a 0)<|.p (.a 3)<|.a 1)<|.p (.a 2) .z)<|.a 4) rfl) ((arn (S:=gH sz tk) (show 1<sz+4 by lia) (bc<|.head _) (an _ _ j) (A.to an) R.k<|by lia).hd.le ζ λ_ _ _ _ U=>U) λw m P u q=>?_;rw[q.casesOn λL v s X C c g=>?_];have h:=bN u;have Q:=u _ _<|bc<|.head _;obtain⟨n,r,rfl⟩:∃n r,s=n::r:=by
  cases s with
  |nil=>rw[absurd R.r0 (by rw[C▸?_];intro U;cases U)]
  |cons n r=>rw[j8 n r rfl]
 have d:=R.ff;have f:(r.length+1)*R.f<=4000:=by rw[<-(by simp only[<-C,aU]:(n::r).length=((a7::rest).foldl gI []).length)]at d;rw[d]
 have Y:qd (n::r):=λq l p I=>by have:=R.ok.cl (q.k,q.ss.map (·.1)) (by rw[<-C];unfold dH;rw[bI,];rw[bw l]) p.1<|bw I;rw[<-C]at this;unfold dH at this;rw[bI,bI]at this;rw[aJ (bn.mp this) λE H e=>bA E H e]
 have T:iO ((n::r).map Nd.pg) R.f ((n::r).map (·.k)) []=some b:=by simp only[C,show(n::r).map (·.k)=bC ((n::r).map Nd.pg) by unfold bC;rw[bI,];rfl,C];rw[R.se]
 rw[#[_,(_++Gr (n::r))++zs.map (be us),(g.append_right _).trans <|pm [[u7 x (gH sz tk) sz K tk (tk+13) L v,(gH sz tk).D x.P .none 0 (tk+7) 0<|tk+10],_++Gr (n::r),zs.map<|be us] (.p (.p (.a 0)<|.a 1)<|.a 2) (.p (.a 0)<|.p (.a 1)<|.a 2) rfl,_,_,[(sz+2,a9<|sz+1)],⟨Q,ab⟩,λJ G=>ZB hk R (h _ _ j) (A.to h) Q h C #[R.f0,(b8 (Nat.le_mul_of_pos_left _<|sr _) f)] Y (by have:=c.1;simp only[dM]at this;rw[akB i this]) f T]]
def ard(hk:iV ol zs){cs:cH}(R:sA (J::rest) b cs rd)(a:F D (aa #[G] nr))(A:aM F ((J::rest).map dG) G):ay x #[none,some ol,false] 600 (.call (.ref 903) #[[.ref D],[]]) F (zs.map<|be us) (uO x zs ((not (b))) rd cs):=lU (O:=[(D,aa #[G] nr)]) #[a,ab] λB K=>ZA hk R a A
end
section
variable(z f0 f1 f2 f3 f4 f5 n sz tk f6 U a6 t1 a7 J bb a8 t4:N) (v:!UInt8) (G:Int) (x:Wd) (Y D K:ao)
def Os(x:Wd)(z f0 f1 f2 f3 f4 f5 n:N)(q m:N)(sz tk:N)(Y:ao):av:=ex x aj 150 (.code<|cM mf 3<|nR z)<|cf [(z,az [V x.P iq f0<|iN n f1,V x.P iu f2<|.bytes #[[]] f3,V x.P ip f4<|.bytes i8 f5] 3)] sz tk (H 0x551cb0) [iN q 0,iN m 0] [] Y
def aqX(x z f0 f1 f2 f3 f4 f5 n q m sz tk Y)(H:m<16):Ev (Os x z f0 f1 f2 f3 f4 f5 n q m sz tk Y) Y [0] (.next<|cM mf 3<|nR z) [(z,az [V x.P iq f0<|.int (ad q)<|tk+1,V x.P iu f2<|.bytes #[[o8<|65+m]]<|tk+7,V x.P ip f4<|.bytes i8 f5,V x.P pX (tk+4)<|.int (ad m)<|tk+2] 4)] [] [((ad n !=0),true)] [(wM (ad n) 16 (ad q)<|ad m)]:=sU (λx=>Os x z f0 f1 f2 f3 f4 f5 n q m sz tk Y) (by revert m;rw[yX<|by kernel_rfl])
def Ot(x:Wd)(z f0 f1 f2 f3 f4 f5 n:N)(f6 b a:N)(v:!UInt8)(q m:N)(sz tk:N)(Y:ao):av:=ex x aj 150 (.code<|cM mf 3<|nR z)<|cf [(z,az [V x.P iq f0<|iN n f1,V x.P iu f2<|.bytes #[v] f3,V x.P ip f4<|.bytes i8 f5,V x.P pX f6<|iN a b] 4)] sz tk (H 0x557cb0) [iN q 0,iN m 0] [] Y
def aqY(x z f0 f1 f2 f3 f4 f5 n f6 b a v q m sz tk Y)(H:m<16):Ev (Ot x z f0 f1 f2 f3 f4 f5 n f6 b a v q m sz tk Y) Y [0] (.next<|cM mf 3<|nR z) [(z,az [V x.P iq f0<|.int (ad q)<|tk+1,V x.P iu f2<|.bytes (ar [o8<|65+m]++ar v)<|tk+8,V x.P ip f4<|.bytes i8 f5,V x.P pX f6<|.int (ad m)<|tk+2] 4)] [] [((ad n !=0),true)] [(Gk (ar [o8<|65+m])<|ar v),(wM (ad n) 16 (ad q)<|ad m)]:=sU (λx=>Ot x z f0 f1 f2 f3 f4 f5 n f6 b a v q m sz tk Y) (by revert m;rw[yX<|by kernel_rfl])
def aqZ:Ev (ex x aj 150 (.code<|cM mf 3<|nR z)<|cf [(z,az [V x.P iq f0<|iN n f1,V x.P iu f2<|.bytes #[[]] f3,V x.P ip f4<|.bytes i8 f5] 3)] sz tk [1,0,1] [] [] Y) Y [0] (.res<|.ok .next) [(z,az [V x.P iq f0<|iN n f1,V x.P iu f2<|.bytes #[[]] f3,V x.P ip f4<|.bytes i8 f5] 3)] [] [((ad n !=0),false)] []:=by kernel_rfl
def aq0:Ev (ex x aj 150 (.code<|cM mf 3<|nR z)<|cf [(z,az [V x.P iq f0<|iN n f1,V x.P iu f2<|.bytes #[v] f3,V x.P ip f4<|.bytes i8 f5,V x.P pX f6<|iN a6 U] 4)] sz tk [1,0,1] [] [] Y) Y [0] (.res<|.ok .next) [(z,az [V x.P iq f0<|iN n f1,V x.P iu f2<|.bytes #[v] f3,V x.P ip f4<|.bytes i8 f5,V x.P pX f6<|iN a6 U] 4)] [] [((ad n !=0),false)] []:=by kernel_rfl
def Ng:av:=ex x aj 200 (.fn 46 #[[iN n t1],[]])<|cf [] sz tk (H 0x555c105c105c30) [] [] Y
def Cu(x:Wd)(sz:N):Ko:=(Ng 0 sz 0 0 x []).resume
def Ua:Ev (Ng n sz tk t1 x Y) Y [0] (.pend 197 aj (cM mf 3<|nR sz)<|Cu x sz) [(sz,az [V x.P iq tk<|iN n t1,V x.P iu (tk+2)<|.bytes #[[]]<|tk+1,V x.P ip (tk+4)<|.bytes #[[65,66,67,68,69,70,71,72,73,74,75,76,77,78,79,80]]<|tk+3] 3)] [] [] []:=by kernel_rfl
def Ub:Ev (Cu x sz (.ok .next)<|cf [(sz,az [V x.P iq f0<|iN 0 f1,V x.P iu f2<|.bytes #[[]] f3,V x.P ip f4<|.bytes i8 f5] 3)] a7 J [1] [] [] D) D [] (.res<|.ok<|.ret<|.bytes #[[]] f3) [] [] [] []:=by kernel_rfl
def Uc:Ev (Cu x sz (.ok .next)<|cf [(sz,az [V x.P iq f0<|iN 0 f1,V x.P iu f2<|.bytes #[v] f3,V x.P ip f4<|.bytes i8 f5,V x.P pX f6<|iN a6 U] 4)] a7 J [1] [] [] D) D [] (.res<|.ok<|.ret<|.bytes (ar v) f3) [] [] [] []:=by kernel_rfl
def Ni:av:=ex x aj 200 (.fn 46 #[[.int G t1],[]])<|cf [] sz tk (H 0x55c105c30) [] [] Y
def Kf(x:Wd)(sz:N):Ko:=(Ni sz 0 0 0 x []).resume
def UB:Ev (Ni sz tk t1 G x Y) Y [0] (.pend 197 aj (.call (.builtin "abs") #[[.int (G) t1],[]])<|Kf x sz) [(sz,az [V x.P iq tk<|.int (G) t1,V x.P iu (tk+2)<|.bytes #[[]]<|tk+1,V x.P ip (tk+4)<|.bytes #[[65,66,67,68,69,70,71,72,73,74,75,76,77,78,79,80]]<|tk+3] 3)] [] [] []:=by kernel_rfl
def Nj:av:=Kf x sz (.ok<|.ret<|iN n J)<|cf [(sz,az [V x.P iq tk<|.int G t1,V x.P iu (tk+2)<|.bytes #[[]]<|tk+1,V x.P ip (tk+4)<|.bytes i8<|tk+3] 3)] a7 bb (H 0x55511) [] [] D
def Cw(x:Wd)(sz:N):Ko:=(Nj 0 sz 0 0 0 0 0 0 x []).resume
def UC:Ev (Nj n sz tk t1 a7 J bb G x D) D [0] (.pend 197 aj (cM mf 3<|nR sz)<|Cw x sz) [(sz,az [V x.P iq tk<|iN n J,V x.P iu (tk+2)<|.bytes #[[]]<|tk+1,V x.P ip (tk+4)<|.bytes #[[65,66,67,68,69,70,71,72,73,74,75,76,77,78,79,80]]<|tk+3] 3)] [] [] []:=by kernel_rfl
def UD:Ev (Cw x sz (.ok .next)<|cf [(sz,az [V x.P iq f0<|iN 0 f1,V x.P iu f2<|.bytes #[[]] f3,V x.P ip f4<|.bytes i8 f5] 3)] a8 t4 [1] [] [] K) K [] (.res<|.ok<|.ret<|.bytes #[[]] f3) [] [] [] []:=by kernel_rfl
def UE:Ev (Cw x sz (.ok .next)<|cf [(sz,az [V x.P iq f0<|iN 0 f1,V x.P iu f2<|.bytes #[v] f3,V x.P ip f4<|.bytes i8 f5,V x.P pX f6<|iN a6 U] 4)] a8 t4 [1] [] [] K) K [] (.res<|.ok<|.ret<|.bytes (ar v) f3) [] [] [] []:=by kernel_rfl
end
def OV(h:n<2^60):wM (ad n) 16 (ad<|n/16) (ad<|n%16):=by
 rw[#[ζ,?_,?_,?_]]
 .unfold uy
  simp;exactλh=>absurd h ζ
 .simp only[oJ]
  rw[Ss _<|ζ,];lia
 .simp only[oJ]
  rw[Su _<|ζ,];lia
def OC(h:n≠0):(ad n !=0)=true:=by simp;rw[afS h]
section
variable{x:Wd}
abbrev H5(x:Wd)(z f0 f1 f2 f3 f4 f5 n:N):aH×Obj:=(z,az [V x.P iq f0<|.int (ad n) f1,V x.P iu f2<|.bytes #[[]] f3,V x.P ip f4<|.bytes i8 f5] 3)
abbrev Bz(x:Wd)(z f0 f1 f2 f3 f4 f5 f6 b n m:N)(v:!UInt8):aH×Obj:=(z,az [V x.P iq f0<|.int (ad n) f1,V x.P iu f2<|.bytes #[v] f3,V x.P ip f4<|.bytes i8 f5,V x.P pX f6<|.int (ad m) b] 4)
abbrev G0(z:N):bj:=cM mf 3<|nR z
inductive GD (x:Wd) (z f0 f2 f4 f5 f6:N) (v:!UInt8) (F':Fs):aL->ao->Prop
 |mk (m f1 f3 f7):GD x z f0 f2 f4 f5 f6 v F' (.ok .next) [Bz x z f0 f1 f2 f3 f4 f5 f6 f7 0 m v]
def afH{z f0 f2 f4 f5 f6:N}:∀(n) {m f1 f3 b v F},n<2^60->v≠[]->v.length+(ap n).length<=100->ay x aj 150 (G0 z) F [Bz x z f0 f1 f2 f3 f4 f5 f6 b n m v] (GD x z f0 f2 f4 f5 f6<|ap n++v):=by
 intro n;induction n using Tk with
 |_ n C=>
  intro m f1 f3 b v F w X c;by_cases j:n=0
  .subst j
   rw[fp (O:=[]) ab λB K=>bp (aq0 z f0 f1 f2 f3 f4 f5 0 B K f6 b m v x) #[rfl,ab] ab (aV) (by rw[qK,];rw[#[m,f1,f3,b]])]
  .have H:n%16<16:=bq _ ζ
   have I:=sI j;have a:(ap n).length=(ap<|n/16).length+1:=by rw[I,];simp
   rw[fp (O:=[]) ab λB K=>bu (λd=>aqY x z f0 f1 f2 f3 f4 f5 n f6 b m v (n/16) (n%16) B K d H) #[OC j,ab] #[#[rfl,?_,?_],OV w,ab] rfl (aV) ?_]
   .cases v with
    |nil=>rw[absurd rfl X]
    |cons _ _=>rfl
   .rw[afT c a]
   .rw[show(ar _++ar v)=ar (o8 (65+n%16)::v)from hU (by simp),]
    have z:=@C (n/16) (Da j) (n%16) (K+1) (K+8) (K+2) (o8 (65+n%16)::v) (fz F []) (L9 w) (dl _ _)<|afU c a;simp only[show ap (n/16)++o8 (65+n%16)::v=ap n++v by simp only[I];simp]at z;rw[z.le (d7 _) λJ J J J U=>U]
inductive Ak (x:Wd) (z f0 f4 f5 n:N) (F':Fs):aL->ao->Prop
 |a (f1 f2 f3) (h:n=0):Ak x z f0 f4 f5 n F' (.ok .next) [H5 x z f0 f1 f2 f3 f4 f5 0]
 |b (f1 f2 f3 f6 f7 m):Ak x z f0 f4 f5 n F' (.ok .next) [Bz x z f0 f1 f2 f3 f4 f5 f6 f7 0 m (ap n)]
def LD{z f0 f1 f2 f3 f4 f5 n:N}(w:n<2^60)(c:(ap n).length<=100):ay x aj 150 (G0 z) F [H5 x z f0 f1 f2 f3 f4 f5 n] (Ak x z f0 f4 f5 n):=by
 by_cases j:n=0
 .subst j
  rw[fp (O:=[]) ab λB K=>bp (aqZ z f0 f1 f2 f3 f4 f5 0 B K x) #[rfl,ab] ab (aV)<|.a f1 f2 f3 rfl]
 .have H:n%16<16:=bq _ ζ
  have I:=sI j;refine fp (O:=[]) ab λB K=>bu (λd=>aqX x z f0 f1 f2 f3 f4 f5 n (n/16) (n%16) B K d H) #[OC j,ab] #[OV w,ab] rfl (aV) ((afH (n/16) (L9 w) (dl _ _)<|afV c (by rw[I▸?_];simp)).le (d7 _) λr T h J q=>?_);rw[q.casesOn λE g S U=>I▸.b g f2 S _ U E]
def t46(w:n<2^60)(a:(ap n).length<=100):ay x aj 200 (.call (.ref 46) #[[.int (ad n) t1],[]]) F [] (QB<|ap n):=by
 rw[fq (O:=[]) ab λB K=>bP (Ua n B K t1 x) ab ab (.refl _) ((LD w a).le ζ λD D D D U=>U) λr T h l q=>?_];obtain⟨s,L,k,rfl⟩|⟨s,L,k,z,b,E⟩:=q
 .rw[#[_,[],.refl _,_,_,[],ab,λJ G=>bp (Ub _ _ _ _ _ _ B J G x) ab ab (bN l)<|qK▸⟨k⟩]]
 .rw[⟨_,[],.refl _,_,_,[],ab,λJ G=>bp (Uc _ _ _ _ _ _ B _ _ _ J G _ x) ab ab (bN l) #[k]⟩]
def X7{R:aL->Fs->ao->Prop}(T:bg x F X D s)(f:∀a,R (.ok<|.ret<|.int (ad i.natAbs) a) F []):fh (aE pw x.W) A (.call (.builtin "abs") ⟨[.int i t],[]⟩) (λr P=>∃F' L',Le F F'/\bg x F' (L'++X) D P/\R r F' L') s:=by
 rw[gL (lr (E:=λJ J=>False) (Q:=λv P=>∃F' L',Le F F'/\bg x F' (L'++X) D P/\R (.ok<|.ret v) F' L')<|PyProof.Rows.call_abs_int λL K=>?_) λr P U=>?_]
 .rw[aaS,]
  rw[bX F [] aV T.tok<|f _]
 .split at U
  .rw[U]
  .rw[U.elim]
  .rw[U.elim]
def EO(hi:i.natAbs=n)(w:n<2^60)(c:(ap n).length<=100):ay x aj 200 (.call (.ref 46) #[[.int i t1],[]]) F [] (QB<|ap n):=by
 subst hi;rw[fq (O:=[]) ab λB K=>jf (Lc:=[]) (UB B K t1 i x) ab ab (.refl _) λd m s A C o=>X7 o λG=>#[[_],[],.refl _,_,_,[],ab,λJ E=>bP (UC i.natAbs B K t1 J G E i x) ab ab (.refl _) ((LD w c).le ζ λ_ _ _ _ U=>U) λr T h l q=>?_]];obtain⟨a,L,k,j⟩|⟨a,L,k,z,b,f⟩:=q
 .rw[#[_,[],.refl _,_,_,[],ab,λD e=>bp (UD _ _ _ _ _ _ B D e x) ab ab (dP (cb an) l)<|j▸qK▸⟨k⟩]]
 .rw[⟨_,[],.refl _,_,_,[],ab,λD e=>bp (UE _ _ _ _ _ _ B _ _ _ D e _ x) ab ab (dP (cb an) l) #[k]⟩]
end
section
variable(G hi t1 U sz tk t a7 a6:N) (J:UInt8) (D:!UInt8) (x:Wd) (Y K:ao)
def NX:av:=ex x aj 300 (.fn 860 #[[iN G t1,iN hi U],[]])<|cf [] sz tk (H 0x51151515555) [] [] Y
def KL(x:Wd)(sz:N):Ko:=(NX 0 0 0 0 sz 0 x []).resume
def al5:Ev (NX G hi t1 U sz tk x Y) Y [] (.pend 297 aj (.call (.ref 46) #[[.int (16*ad G+ad hi)<|tk+4],[]])<|KL x sz) [] [] [] []:=by kernel_rfl
def al6:Ev (KL x sz (.ok<|.ret<|.bytes #[J::D] t)<|cf [] a7 a6 [0,15] [] [] K) K [] (.res<|.ok<|.ret<|ah (fb #[(J::D)])<|a6+4) [] [] [] [oW #[(J::D)]]:=by kernel_rfl
end
def EQ(j:hi≠0)(w:16*a6+hi<16^10):ay x aj 300 (.call (.ref 860) #[[.int (ad a6) t1,.int (ad hi) G],[]]) F [] (QS<|nm a6 hi):=by
 have a:=qJ 10 _ w;rw[fU (jT<|AC (n:=16*a6+hi)<|ajL j) λZ l L=>fq (O:=[]) ab λB K=>bP (al5 a6 hi t1 G B K x) ab ab (.refl _) ((EO (n:=16*a6+hi) rfl (ajM w)<|ajN a).le ζ λ_ _ _ _ U=>U) λr T h Q q=>q.casesOn λD=>L▸#[[],[],.refl _,_,_,[],ab,λJ E=>bp (al6 B D J E Z l x) ab #[#[λy b=>?_,?_],ab] (bN Q) ?_]]
 .have:=AA _ y<|L▸b
  rw[x5 this]
 .rw[L▸ajO a]
 .unfold nm d9
  rw[L▸#[E+4]]
abbrev cW:aA:=sK 0x706f6f6c
abbrev cY:aA:=sK 0x72616e676573
abbrev lO:aA:=sK 0x70696c65
abbrev ow:aA:=sK 0x6c6f77
abbrev dh:aA:=sK 0x68696768
abbrev di:aA:=sK 0x7061727473
abbrev ox:aA:=sK 0x6d6964646c65
section
variable(p sz tk z r q f0 f1 f2 a6 nr nq y J K D hi f3 f4 f5 f6 i m v U a8 bb:N) (ps rs G:!af) (v3 v4 v5 v6:af) (x:Wd) (Y a7:ao)
def N2:av:=ex x aj 200 (.fn 867 #[[.ref p],[]])<|cf [] sz tk (H 0x55c30) [] [] Y
def KP(x:Wd)(sz:N):Ko:=(N2 0 sz 0 x []).resume
def aoK:Ev (N2 p sz tk x Y) Y [0,1,3,2] (.pend 197 aj (cM mh 2<|nS sz)<|KP x sz) [(sz,az [V x.P #[#[[112,111,111,108]]] tk<|.ref p,V x.P #[#[[114,97,110,103,101,115]]] (tk+1)<|.ref<|sz+1,V x.P #[#[[112,105,108,101]]] (tk+4)<|.ref<|sz+3] 3),((sz+1),aa #[[]] 0),((sz+3),aa #[[.ref<|sz+2]] 0)] [((sz+2),aD [.int (0)<|tk+2,.int (5)<|tk+3])] [] []:=by kernel_rfl
def aoL:∀(x:Wd) Y,Ev (ex x aj 150 (.code<|cM mh 2<|nS z)<|cf [(z,az [V x.P cW f0<|.ref p,V x.P cY f1<|.ref r,V x.P lO f2<|.ref q,V x.P ow f3 v3,V x.P dh f4 v4,V x.P di f5 v5,V x.P ox f6 v6] 7),(r,aa #[rs] nr),(q,aa #[G] nq)] sz tk (H 0x98e0b505c309e5043c33335435) [.ref y] [(p,aa #[ps] a6),(y,aD [iN D J,iN hi K])] Y) Y [0,1,2,7,8] (.next<|cM mh 2<|nS z) [(z,az [V x.P cW f0<|.ref p,V x.P cY f1<|.ref r,V x.P lO f2<|.ref q,V x.P ow f3<|iN D J,V x.P dh f4<|iN hi K,V x.P di f5<|.ref<|sz+4,V x.P ox f6<|v6] 7),(r,aa ((ar rs).push<|aF<|sz+5)<|nr+1),(q,#[.type "list",none,.seq ((ar G).pop++ar [])<|iD (ar G).pop.size ((ar G).pop++ar []).size<|nq+1,#[[]]])] [((sz+4),aa #[[]] 0),((sz+5),aD [iN D J,iN hi K,.ref<|sz+4])] [((decide<|1<ad hi-ad D),false),(((not (G.length.beq 0))),true)] [uN (aI j3) (ar G).pop<|ar [],cm #[rs],oY (ar G)<|aF y]:=cS
def aoI:∀(x:Wd) Y,Ev (ex x aj 150 (.code<|cM mh 2<|nS z)<|cf [(z,az [V x.P cW f0<|.ref p,V x.P cY f1<|.ref r,V x.P lO f2<|.ref q,V x.P ow f3 v3,V x.P dh f4 v4,V x.P di f5 v5,V x.P ox f6 v6] 7),(r,aa #[rs] nr),(q,aa #[G] nq)] sz tk (H 0xde033335435) [.ref y,iN i 0,iN v U,iN m 0] [(p,aa #[ps] a6),(y,aD [iN D J,iN hi K])] Y) Y [0,1,2,8,9,10,11] (.next<|cM mh 2<|nS z) [(z,az [V x.P cW f0<|.ref p,V x.P cY f1<|.ref r,V x.P lO f2<|.ref q,V x.P ow f3<|iN D J,V x.P dh f4<|iN hi K,V x.P di f5<|.ref<|sz+7,V x.P ox f6<|.int (ad D+1+ad m)<|tk+16] 7),(r,aa ((ar rs).push<|aF<|sz+8)<|nr+1),(q,aa ((ar G).pop++ar [aF<|sz+5,aF<|sz+6])<|iD (ar G).pop.size ((ar G).pop++ar [aF<|sz+5,aF<|sz+6]).size<|nq+1)] [((sz+5),aD [.int (ad D+1+ad m)<|tk+16,iN hi K]),((sz+6),aD [iN D J,.int (ad D+1+ad m)<|tk+16]),((sz+7),aa #[[.ref<|sz+5,.ref<|sz+6]] 0),((sz+8),aD [iN D J,iN hi K,.ref<|sz+7])] [((decide<|1<ad hi-ad D),true),(((not (G.length.beq 0))),true)] [uN (aI j3) (ar G).pop<|ar [aF<|sz+5,aF<|sz+6],cm #[rs],cj (ad v) (ad hi-ad D-1)<|ad m,d8 #[ps] (ad i)<|iN v U,cj (rs.length:Int) (ps.length:Int)<|ad i,f_ (aI "list")<|ar ps,f_ (aI "list")<|ar rs,oY (ar G)<|aF y]:=cS
def aoJ:∀(x:Wd) Y,Ev (ex x aj 150 (.code<|cM mh 2<|nS z)<|cf [(z,az [V x.P cW f0<|.ref p,V x.P cY f1<|.ref r,V x.P lO f2<|.ref q] 3),(r,aa #[rs] nr),(q,aa #[G] nq)] sz tk (H 0xde033335435) [.ref y,iN i 0,iN v U,iN m 0] [(p,aa #[ps] a6),(y,aD [iN D J,iN hi K])] Y) Y [0,1,2,8,9,10,11] (.next<|cM mh 2<|nS z) [(z,az [V x.P cW f0<|.ref p,V x.P cY f1<|.ref r,V x.P lO f2<|.ref q,V x.P ow tk<|iN D J,V x.P dh (tk+1)<|iN hi K,V x.P di (tk+2)<|.ref<|sz+7,V x.P ox (tk+17)<|.int (ad D+1+ad m)<|tk+16] 7),(r,aa ((ar rs).push<|aF<|sz+8)<|nr+1),(q,aa ((ar G).pop++ar [aF<|sz+5,aF<|sz+6])<|iD (ar G).pop.size ((ar G).pop++ar [aF<|sz+5,aF<|sz+6]).size<|nq+1)] [((sz+5),aD [.int (ad D+1+ad m)<|tk+16,iN hi K]),((sz+6),aD [iN D J,.int (ad D+1+ad m)<|tk+16]),((sz+7),aa #[[.ref<|sz+5,.ref<|sz+6]] 0),((sz+8),aD [iN D J,iN hi K,.ref<|sz+7])] [((decide<|1<ad hi-ad D),true),(((not (G.length.beq 0))),true)] [uN (aI j3) (ar G).pop<|ar [aF<|sz+5,aF<|sz+6],cm #[rs],cj (ad v) (ad hi-ad D-1)<|ad m,d8 #[ps] (ad i)<|iN v U,cj (rs.length:Int) (ps.length:Int)<|ad i,f_ (aI "list")<|ar ps,f_ (aI "list")<|ar rs,oY (ar G)<|aF y]:=cS
def Pt:Ev (ex x aj 150 (.code<|cM mh 2<|nS z)<|cf [(z,az [V x.P cW f0<|.ref p,V x.P cY f1<|.ref r,V x.P lO f2<|.ref q,V x.P ow f3 v3,V x.P dh f4 v4,V x.P di f5 v5,V x.P ox f6 v6] 7),(q,aa #[[]] nq)] sz tk [1,2,0] [] [] Y) Y [0] (.res<|.ok .next) [(z,az [V x.P cW f0<|.ref p,V x.P cY f1<|.ref r,V x.P lO f2<|.ref q,V x.P ow f3<|v3,V x.P dh f4<|v4,V x.P di f5<|v5,V x.P ox f6<|v6] 7)] [] [] []:=by kernel_rfl
def aoM:Ev (KP x sz (.ok .next)<|cf [(sz,az [V x.P cW f0<|.ref p,V x.P cY f1<|.ref r,V x.P lO f2<|.ref q,V x.P ow f3 v3,V x.P dh f4 v4,V x.P di f5 v5,V x.P ox f6 v6] 7)] a8 bb [1] [] [] a7) a7 [] (.res<|.ok<|.ret<|.ref r) [] [] [] []:=by kernel_rfl
end
abbrev gm(n:N):PV:=.int<|ad n
abbrev vJ(p:N×N):PV:=.tup [gm p.1,gm p.2]
def d5:N×N×Option N->PV
 |(R,S,none)=>.tup [gm R,gm S,.lst []]
 |(R,S,some E)=>.tup [gm R,gm S,.lst [vJ (E,S),vJ (R,E)]]
def gn(l:!(N×N)):N:=(l.map λp=>2*(p.2-p.1)-1).sum
def DR(h:Rp F (vJ (D,hi)) v):∃y f c,v=.ref y/\F y (aD [.int (ad D) f,.int (ad hi) c]):=by rw[cp (jJ.mp h) λy Q P a M=>?_];subst P;obtain⟨U,E,rfl,B,M⟩:=cq.mp M;obtain⟨o,E,rfl,g,M⟩:=cq.mp M;obtain rfl:=er.mp M;obtain⟨f,rfl⟩:=dS.mp B;obtain⟨c,rfl⟩:=dS.mp g;rw[u_ y f c rfl a]
def pc(h:F y (aD [.int (ad D) G,.int (ad hi) J])):Rp F (vJ (D,hi)) (.ref y):=jJ.mpr<|bX y _ rfl h<|.cons (dS.mpr #[G,rfl])<|.cons (dS.mpr #[J,rfl]) .nil
def Ec(h:l.length<=10000):cm #[l]:=by rw[tT h]
def apK:∀{l vs},aM F (l++[p]) vs->∃ws v,vs=ws++[v]/\aM F l ws/\Rp F p v:=by
 intro J;induction J with
 |nil=>intro vs U;rw[cp (cq.mp U) λv ws P a M=>?_];subst P;obtain rfl:=er.mp M;rw[bX [] v rfl .nil a]
 |cons y l C=>intro vs U;rw[cp (cq.mp U) λv ws P a M=>?_];subst P;rw[cp (C M) λb L P X I=>?_];subst P;rw[bX (v::b) L rfl (.cons a X) I]
def D_(o:a=ad m)(j:m≠0)(h:n%m=r):cj (ad n) a (ad r):=by rw[o▸fX j h]
section
variable{x:Wd}
abbrev Zr(x:Wd)(z p r q f0 f1 f2:N):aH×Obj:=(z,az [V x.P cW f0<|.ref p,V x.P cY f1<|.ref r,V x.P lO f2<|.ref q] 3)
abbrev xB(x:Wd)(z p r q f0 f1 f2 f3 f4 f5 f6:N)(v3 v4 v5 v6:af):aH×Obj:=(z,az [V x.P cW f0<|.ref p,V x.P cY f1<|.ref r,V x.P lO f2<|.ref q,V x.P ow f3 v3,V x.P dh f4 v4,V x.P di f5 v5,V x.P ox f6 v6] 7)
abbrev G2(z:N):bj:=cM mh 2<|nS z
inductive Ab (x:Wd) (z p r q f0 f1 f2:N) (out:!(N×N×Option N)) (F':Fs):aL->ao->Prop
 |mk (f3 f4 f5 f6 v3 v4 v5 v6 rs nr) (h1:aM F' (out.map d5) rs):Ab x z p r q f0 f1 f2 out F' (.ok .next) ([xB x z p r q f0 f1 f2 f3 f4 f5 f6 v3 v4 v5 v6]++[(r,aa #[rs] nr)])
def Pf(l)(v:af)(m):(ar<|l++[v]).pop++ar m=ar (l++m):=hU<|by simp
def afI{z p r q f0 f1 f2 a6:N}(bb:am≠[])(D:am.length<=100):∀(f) {kj done f3 f4 f5 f6 nr nq v3 v4 v5 v6 rs e F},F p (aa #[ps] a6)->aM F (am.map gm) ps->gn kj<=f->(∀y∈kj,y.1<y.2/\y.2<=100)->aM F (kj.reverse.map vJ) e->aM F (done.map d5) rs->done.length+f<=1000->kj.length+f<=1000->ay x aj 150 (G2 z) F [xB x z p r q f0 f1 f2 f3 f4 f5 f6 v3 v4 v5 v6,(r,aa #[rs] nr),(q,aa #[e] nq)] (Ab x z p r q f0 f1 f2<|done++gO am f done.length kj):=by
 intro f;induction f with
 |zero=>
  intro kj done f3 f4 f5 f6 nr nq v3 v4 v5 v6 rs e F I t w b u A a7 M;cases kj with
  |cons y kj=>have:=(b y<|.head _).1;simp only[gn,bV,k_]at w;rw[absurd w<|alI this]
  |nil=>obtain rfl:=er.mp u;rw[.perm (pm [[xB x z p r q f0 f1 f2 f3 f4 f5 f6 v3 v4 v5 v6],[(r,aa #[rs] nr)],_] (.p (.a 0)<|.p (.a 1)<|.a 2) (.p (.p (.a 0)<|.a 2)<|.a 1) rfl)<|bJ (Y:=[(r,aa #[rs] nr)]) (O:=[]) ab λB K=>bp (Pt p B K z r q f0 f1 f2 nq f3 f4 f5 f6 v3 v4 v5 v6 x) ab ab (aV) #[f3,f4,f5,f6,v3,v4,v5,v6,rs,nr,?_]];simp only[show gO am 0 done.length []=[]from rfl,bQ];rw[A.to an]
 |succ f C=>
  intro kj done f3 f4 f5 f6 nr nq v3 v4 v5 v6 rs e F I t w b u A a7 M;have n:=A.length;simp only[aU]at n;cases kj with
  |nil=>obtain rfl:=er.mp u;rw[.perm (pm [[xB x z p r q f0 f1 f2 f3 f4 f5 f6 v3 v4 v5 v6],[(r,aa #[rs] nr)],_] (.p (.a 0)<|.p (.a 1)<|.a 2) (.p (.p (.a 0)<|.a 2)<|.a 1) rfl)<|bJ (Y:=[(r,aa #[rs] nr)]) (O:=[]) ab λB K=>bp (Pt p B K z r q f0 f1 f2 nq f3 f4 f5 f6 v3 v4 v5 v6 x) ab ab (aV) #[f3,f4,f5,f6,v3,v4,v5,v6,rs,nr,?_]];simp only[show gO am (f+1) done.length []=[]from rfl,bQ];rw[A.to an]
  |cons y kj=>
   obtain⟨R,S⟩:=y;have G:=b _<|.head _;dsimp only at G;simp only[uF,bf]at u;rw[cp (apK u) λe T P i bl=>?_];subst P;rw[je (DR bl) λy ac c m l=>?_];subst m;have s:=i.length;simp only[aU,S4]at s;have a8:((not ((e++[aF y]).length.beq 0)))=true:=by rw[cJ,];rfl
   have W:oY (ar<|e++[aF y]) (.ref y):=#[by show(e++[aF y]).length<=16777216;simp;rw[aiC M s],by simp];have L:∀E:!af,E.length<=2->uN (.type j3) (ar<|e++[aF y]).pop (ar E):=λE H=>#[by kernel_rfl,by simp;rw[aiD M s H]]
   by_cases d:1<S-R
   .have j:ps.length=am.length:=by have:=t.length;rwa[aU]at this
    have J:=m7.mpr bb;have o:done.length%am.length<am.length:=bq _ J;obtain⟨T,bo,Q⟩:=t.get (done.length%am.length) (x:=gm<|am.getD (done.length%am.length) 0) (by simp only[fi,hV,eG o];rfl);rw[dm (dS.mp Q) λbs k=>?_];subst k;generalize X:am.getD (done.length%am.length) 0=v at*;have g:v%(S-R-1)<S-R-1:=bq _<|aiE G d;refine fp (O:=[(p,aa #[ps] a6),(y,aD _)]) #[I,l,ab] λB K=>bu (aoI p B K z r q f0 f1 f2 a6 nr nq y ac c R S f3 f4 f5 f6 (done.length%am.length) (v%(S-R-1)) v bs ps rs (e++[aF y]) v3 v4 v5 v6 x) #[decide_eq_true<|alJ G.1 d,a8,ab] #[L [_,_]<|d7 _,Ec<|by lia,D_ (alL G.1) (Th g) rfl,gr bo<|sj o<|kv D<|ζ,by simp only[n,j];rw[fX (Th o) rfl],#[by kernel_rfl,b8 (nh j)<|b8 D<|ζ],#[by kernel_rfl,alN a7 n],W,ab] rfl (aV) ?_;simp only[km,Pf,bQ,En d,X];have Z:ad R+1+ad (v%(S-R-1))=ad (R+1+v%(S-R-1)):=rfl;rw[Z▸?_];generalize h:R+1+v%(S-R-1)=E;have z:=C (kj:=(R,E)::(E,S)::kj) (done:=done++[(R,S,some E)]) (f3:=f3) (f4:=f4) (f5:=f5) (f6:=f6) (nr:=nr+1) (nq:=iD (ar<|e++[aF y]).pop.size (ar<|e++[aF<|B+5,aF<|B+6]).size<|nq+1) (v3:=.int (ad R) ac) (v4:=.int (ad S) c) (v5:=.ref<|B+7) (v6:=.int (ad E)<|K+16) (rs:=rs++[aF<|B+8]) (F:=fz F [(B+5,aD [.int (ad E)<|K+16,.int (ad S) c]),(B+6,aD [.int (ad R) ac,.int (ad E)<|K+16]),(B+7,aa #[[.ref<|B+5,.ref<|B+6]] 0),(B+8,aD [.int (ad R) ac,.int (ad S) c,.ref<|B+7])]) (an _ _ I) (t.to an) (aiF G w d g h) (λy U=>by
      rcases aY.mp U with rfl|U
      .dsimp only;rw[aiG G g h]
      .rcases aY.mp U with rfl|U
       .dsimp only;rw[aiH G g h]
       .rw[b y<|.tail _ U]) (by
      simp only[uF,uF,bZ,bf];rw[(i.to an).append<|.cons (pc<|bc<|.head _)<|.cons (pc<|bc<|.tail _<|.head _) .nil]) (by
     rw[bf▸(A.to an).push (jJ.mpr<|bX (B+8) _ rfl (bc<|.tail _<|.tail _<|.tail _<|.head _)<|.cons (dS.mpr #[ac,rfl])<|.cons (dS.mpr #[c,rfl])<|.cons (dT.mpr<|gC (B+7) _ 0 rfl (bc<|.tail _<|.tail _<|.head _)<|.cons (pc<|bc<|.head _)<|.cons (pc<|bc<|.tail _<|.head _) .nil) .nil)]) (by rw[cJ,];simp only[dM,kZ];rw[x6 a7])<|aiI M
    simp only[cJ,bZ]at z;rw[z]
   .rw[fp (O:=[(p,aa #[ps] a6),(y,aD _)]) #[I,l,ab] λB K=>bu (aoL p B K z r q f0 f1 f2 a6 nr nq y ac c R S f3 f4 f5 f6 ps rs (e++[aF y]) v3 v4 v5 v6 x) #[decide_eq_false<|alK G.1 d,a8,ab] #[L []<|dw _,Ec<|by lia,W,ab] rfl (aV) ?_]
    simp only[km,Pf,bQ,bQ,PD d];have z:=C (done:=done++[(R,S,none)]) (f3:=f3) (f4:=f4) (f5:=f5) (f6:=f6) (nr:=nr+1) (nq:=iD (ar<|e++[aF y]).pop.size e.length<|nq+1) (v3:=.int (ad R) ac) (v4:=.int (ad S) c) (v5:=.ref<|B+4) (v6:=v6) (rs:=rs++[aF<|B+5]) (F:=fz F [(B+4,aa #[[]] 0),(B+5,aD [.int (ad R) ac,.int (ad S) c,.ref<|B+4])]) (an _ _ I) (t.to an) (aiJ G w d) (λy U=>b y<|.tail _ U) (i.to an) (by rw[bf▸(A.to an).push (jJ.mpr<|bX (B+5) _ rfl (bc<|.tail _<|.head _)<|.cons (dS.mpr #[ac,rfl])<|.cons (dS.mpr #[c,rfl])<|.cons (dT.mpr<|gC (B+4) _ 0 rfl (bc<|.head _) .nil) .nil)]) (by rw[cJ,];simp only[dM,kZ];rw[x6 a7])<|aiK M
    simp only[cJ,bZ]at z;rw[z]
end
section
variable{x:Wd}
def Za{z p r q f0 f1 f2 b nr nq y f c:N}(M:am≠[])(D:am.length<=100)(I:F p (aa #[ps] b))(t:aM F (am.map gm) ps)(l:F y (aD [.int (ad 0) f,.int (ad 5) c])):ay x aj 150 (G2 z) F [Zr x z p r q f0 f1 f2,(r,aa #[[]] nr),(q,aa #[[.ref y]] nq)] (Ab x z p r q f0 f1 f2<|gO am 9 0 [(0,5)]):=by
 have j:ps.length=am.length:=by have:=t.length;rwa[aU]at this
 have J:=m7.mpr M;have i:0%am.length=0:=Nat.zero_mod _;obtain⟨T,Y,Q⟩:=t.get 0 (x:=gm<|am.getD 0 0) (by rw[fi,hV,eG J];rfl);obtain⟨d,rfl⟩:=dS.mp Q;generalize X:am.getD 0 0=v at*;have g:v%4<4:=bq _<|ajf;refine fp (O:=[(p,aa #[ps] b),(y,aD _)]) #[I,l,ab] λB K=>bu (aoJ p B K z r q f0 f1 f2 b nr nq y f c 0 5 0 (v%4) v d ps [] [aF y] x) #[rfl,rfl,ab] #[#[by kernel_rfl,by show 2<=16777216;rw[ajg]],Ec<|dw _,D_ rfl (ajh) rfl,gr Y<|pH,by rw[j▸fX (alh J) i],#[by kernel_rfl,by rw[ali D j]],#[by kernel_rfl,dw _],#[by show 1<=16777216;rw[aji],rfl],ab] rfl (aV) ?_;have a:gO am 9 0 [(0,5)]=(0,5,some<|0+1+v%4)::gO am 8 1 [(0,0+1+v%4),(0+1+v%4,5)]:=by rw[(En<|ζ).trans (by rw[i,X])]
 rw[a▸?_];generalize h:0+1+v%4=m;rw[(by rw[h▸?_];rfl:ad 0+1+ad (v%4)=ad m)▸afI M D 8 (done:=[(0,5,some m)]) (an _ _ I) (t.to an) (ajj g h) (λy U=>by
   rcases aY.mp U with rfl|U
   .dsimp only;rw[ajk g h]
   .rcases aY.mp U with rfl|U
    .dsimp only;rw[ajl g h]
    .cases U) (.cons (pc (bc (.head _))) (.cons (pc (bc (.tail _ (.head _)))) .nil))
  (.cons (jJ.mpr<|bX (B+8) _ rfl (bc<|.tail _<|.tail _<|.tail _<|.head _)<|.cons (dS.mpr #[f,rfl])<|.cons (dS.mpr #[c,rfl])<|.cons (dT.mpr<|gC (B+7) _ 0 rfl (bc<|.tail _<|.tail _<|.head _)<|.cons (pc<|bc<|.head _)<|.cons (pc<|bc<|.tail _<|.head _) .nil) .nil) .nil) (by simp) (by simp)]
inductive Gx (l:!(N×N×Option N)) (F':Fs):aL->ao->Prop
 |mk (a rs nr) (h:aM F' (l.map d5) rs):Gx l F' (.ok (.ret (.ref a))) [(a,aa #[rs] nr)]
def aq5(b:am≠[])(D:am.length<=100)(I:F p (aa #[ps] a6))(t:aM F (am.map gm) ps):ay x aj 200 (.call (.ref 867) #[[.ref p],[]]) F [] (Gx<|gO am 9 0 [(0,5)]):=fq (O:=[]) ab λB K=>bP (aoK p B K x) ab ab (.refl _) ((Za b D (an _ _ I) (t.to an)<|bc<|.head _).le ζ λ_ _ _ _ U=>U) λr T h l q=>q.casesOn λk e a z y d c j f w M=>#[[_],_,.refl _,_,_,[],ab,λJ G=>bp (aoM p B (B+1) (B+3) _ _ _ _ _ _ _ J G _ _ _ _ x) ab ab (bN l) #[B+1,f,w,M.to an]]
end
section
variable(D n t1 K sz tk J:N) (G:!N) (x:Wd) (Y:ao)
def al7:Ev (ex x aj 100 (.fn 881 #[[ah (D::G) t1,iN n K],[]])<|cf [] sz tk (H 0x510d0b20) [.int 0 0,.int 0 0,.int 0 0] [] Y) Y [] (.res<|.ok<|.ret<|ah (D::G) t1) [] [] [] [cj (ad n) 4 0,cj (ad n) 4 0,cj (ad n) 4 0]:=by kernel_rfl
def al8:Ev (ex x aj 100 (.fn 881 #[[ah (D::G) t1,iN n K],[]])<|cf [] sz tk (H 0x110110510d0c30) [.int 1 0] [] Y) Y [] (.res<|.ok<|.ret<|ah ([39]++D::G++[39])<|tk+8) [] [] [] [fL #[#[([39]++D::G)]] #[#[[39]]],fL #[#[[39]]] #[#[(D::G)]],cj (ad n) 4 1]:=by kernel_rfl
def al9:Ev (ex x aj 100 (.fn 881 #[[ah (D::G) t1,iN n K],[]])<|cf [] sz tk (H 0x110110b20) [.int 2 0,.int 2 0] [] Y) Y [] (.res<|.ok<|.ret<|ah ([34]++D::G++[34])<|tk+11) [] [] [] [fL #[#[([34]++D::G)]] #[#[[34]]],fL #[#[[34]]] #[#[(D::G)]],cj (ad n) 4 2,cj (ad n) 4 2]:=by kernel_rfl
def al_:Ev (ex x aj 100 (.fn 881 #[[ah (D::J::G) t1,iN n K],[]])<|cf [] sz tk (H 0x1101105130511120510d0b20) [.int 3 0,.int 3 0,.int 3 0,ah [D] 0,ah (J::G) 0] [] Y) Y [] (.res<|.ok<|.ret<|ah ([92,D,39]++J::G++[39])<|tk+21) [] [] [] [fL #[#[([92,D,39]++J::G)]] #[#[[39]]],fL #[#[[92,D,39]]] #[#[(J::G)]],jX #[#[(D::J::G)]] (some 1) none #[#[(J::G)]],iX #[#[(D::J::G)]] 0 #[#[[D]]],cj (ad n) 4 3,cj (ad n) 4 3,cj (ad n) 4 3]:=by kernel_rfl
def ama:Ev (ex x aj 100 (.fn 881 #[[ah [D] t1,iN n K],[]])<|cf [] sz tk (H 0x11a9015111510d0b20) [.int 3 0,.int 3 0,.int 3 0] [] Y) Y [] (.res<|.ok<|.ret<|ah [92,D,39,39]<|tk+20) [] [] [] [cj (ad n) 4 3,cj (ad n) 4 3,cj (ad n) 4 3]:=by kernel_rfl
end
def aq8(j:u≠[])(L:u.length<=1000):ay x aj 100 (.call (.ref 881) #[[.str #[#[u]] t1,.int (ad n) G],[]]) F [] (QS<|cy u n):=by
 have r:∀{F:Fs} {l E:!N} {D:N},l=E->QS E F (.ok<|.ret<|.str #[#[l]] D) []:=λe=>e▸#[_];rw[fU (jT j) λZ l P=>?_];subst P;rcases(afM (bq _ ζ))with e|e|e|e
 .have a:=fX ζ e
  rw[fq (O:=[]) ab λB K=>bp (al7 Z n t1 G B K l x) ab #[a,a,a,ab] (aV) (r<|by simp[cy,e])]
 .have a:=fX ζ e
  rw[fq (O:=[]) ab λB K=>bp (al8 Z n t1 G B K l x) ab #[ji (dl _ _) (dl _ _) (by simp at L⊢;rw[L0 L]),ji (dl _ _) (dl _ _) (by simp at L⊢;rw[L5 L]),a,ab] (aV) (r<|by simp[cy,e])]
 .have a:=fX ζ e
  rw[fq (O:=[]) ab λB K=>bp (al9 Z n t1 G B K l x) ab #[ji (dl _ _) (dl _ _) (by simp at L⊢;rw[L0 L]),ji (dl _ _) (dl _ _) (by simp at L⊢;rw[L5 L]),a,a,ab] (aV) (r<|by simp[cy,e])]
 .have a:=fX ζ e
  cases l with
  |nil=>rw[fq (O:=[]) ab λB K=>bp (ama Z n t1 G B K x) ab #[a,a,a,ab] (aV) (r<|by simp[cy,e])]
  |cons d l=>rw[fq (O:=[]) ab λB K=>bp (al_ Z n t1 G B K d l x) ab #[ji (dl _ _) (dl _ _) (by simp at L⊢;rw[afN L]),ji (dl _ _) (dl _ _) (by simp at L⊢;rw[afO L]),Pj (by simp) ζ (by simp at L⊢;rw[afP L]),yt (k:=0) rfl<|ζ,a,a,a,ab] (aV)<|r<|by simp[cy,e]]
section
variable{x:Wd} {F:Fs} {b D hi t1 G n:N} {u:!N}
def lJ(j:hi≠0)(w:16*D+hi<16^10):kA x F (b+300) aj (.call (.ref 860) #[[iN D t1,iN hi G],[]]) [] (pS<|nm D hi):=ay.Pl (λU=>EQ j w)<|uJ ..
abbrev Wk(a:!N):Prop:=a≠[]/\a.length<=5
def mG(h:Wk u):kA x F (b+100) aj (.call (.ref 881) #[[ah u t1,iN n G],[]]) [] (pS<|cy u n):=ay.Pl (λU=>aq8 h.1<|b8 h.2<|ζ)<|uJ ..
def p46(w:n<2^60)(a:(ap n).length<=100):kA x F (b+200) aj (.call (.ref 46) #[[iN n t1],[]]) [] (pB<|ap n):=ay.Ed (λU=>t46 w a)<|uJ ..
end
section
variable(p r sz tk n G K D m i j y bo bs bb hi nr t4 a7 a8 ca bt b0 bl a6 c1 db dd ck ds:N) (c2 c3:af) (rs:!af) (U da:!N) (x:Wd) (Y J ch c0:ao)
def N3:av:=ex x aj 400 (.fn 874 #[[.ref p,.ref r],[]])<|cf [] sz tk (H 0x55115555) [] [] Y
def CP(x:Wd)(sz:N):Ko:=(N3 0 0 sz 0 x []).resume
def aoN:Ev (N3 p r sz tk x Y) Y [0] (.pend 397 aj (.call (.builtin "sum") #[[.ref p],[]])<|CP x sz) [(sz,az [V x.P cW tk<|.ref p,V x.P cY (tk+1)<|.ref r] 2)] [] [] []:=by kernel_rfl
def aoR:Ev (CP x sz (.ok<|.ret<|iN n G)<|cf [(sz,az [V x.P cW tk<|.ref p,V x.P cY (tk+1)<|.ref r] 2)] K D (H 0x10d0555) [.int 0 0] [] J) J [1] (.res<|.ok<|.ret<|.ref K) [(K,aa #[[]] 0)] [] [] [cj (ad n) 3 0]:=by kernel_rfl
def N4:av:=CP x sz (.ok<|.ret<|iN n G)<|cf [(sz,az [V x.P cW tk<|.ref p,V x.P cY (tk+1)<|.ref r] 2)] K D (H 0xb4010d0555) [iN (m+1) 0,iN i 0,iN j 0,.ref y] [(r,aa #[rs] nr),(y,aD [iN bb bo,iN hi bs,c2])] J
def KQ(x:Wd)(sz:N):Ko:=(N4 0 0 sz 0 0 0 0 0 0 0 0 0 0 0 0 0 0 .none [] x []).resume
def aoO:Ev (N4 p r sz tk n G K D m i j y bo bs bb hi nr c2 rs x J) J [0] (.pend 397 aj (.call (.ref 860) #[[iN bb bo,iN hi bs],[]])<|KQ x sz) [(sz,az [V x.P cW tk<|.ref p,V x.P cY (tk+1)<|.ref r,V x.P Qh D<|iN n G] 3)] [] [] [l6 (aI nB) (ar [])<|ar [iN bb bo,iN hi bs],d8 #[rs] (ad j)<|aF y,cj (ad i) 9<|ad j,gj (ad n) 3<|ad i,cj (ad n) 3<|ad<|m+1]:=by kernel_rfl
def N5:av:=KQ x sz (.ok<|.ret<|ah U t4)<|cf [(sz,az [V x.P cW tk<|.ref p,V x.P cY (tk+1)<|.ref r,V x.P Qh D<|iN n G] 3)] c1 db (H 0xb40) [iN a7 0,iN a8 0,.ref ca] [(r,aa #[rs] nr),(ca,aD [iN bl bt,iN a6 b0,c3])] ch
def KR(x:Wd)(sz:N)(a:!N)(t4:N):Ko:=(N5 0 0 sz 0 0 0 0 0 t4 0 0 0 0 0 0 0 0 0 .none [] a x []).resume
def aoP:Ev (N5 p r sz tk n G D nr t4 a7 a8 ca bt b0 bl a6 c1 db c3 rs U x ch) ch [] (.pend 397 aj (.call (.ref 860) #[[iN bl bt,iN a6 b0],[]])<|KR x sz U t4) [] [] [] [l6 (aI nB) (ar [])<|ar [iN bl bt,iN a6 b0],d8 #[rs] (ad a8)<|aF ca,cj (ad a7) 9<|ad a8,gj (ad n) 27<|ad a7]:=by kernel_rfl
def aoQ:Ev (KR x sz U t4 (.ok<|.ret<|ah da dd)<|cf [] ck ds [] [] [] c0) c0 [0] (.res<|.ok<|.ret<|.ref ck) [(ck,aa #[[ah U t4,ah da dd]] 0)] [] [] []:=by kernel_rfl
end
def Es:∀{am ps},aM F (am.map gm) ps->∃l:!(N×N),ps=l.map aO/\l.map (·.1)=am:=by
 intro J;induction J with
 |nil=>intro _ U;rw[bA [] (er.mp U) rfl]
 |cons n am C=>intro _ U;rw[cp (cq.mp U) λv E P a M=>?_];subst P;obtain⟨D,rfl⟩:=dS.mp a;rw[aJ (C M) λl k P=>?_];subst k;subst P;rw[bA ((n,D)::l) rfl rfl]
abbrev c6:=List<|N×N×Option N
def Pz{n:c6}(a:aM F (n.map d5) rs)(D:j<n.length):∃y f c i,rs[j]? =some (.ref y)/\F y (aD [.int (ad (n.getD j (0,1,none)).1) f,.int (ad (n.getD j (0,1,none)).2.1) c,i]):=by
 have e:(n.map d5)[j]? =some (d5<|n.getD j (0,1,none)):=by rw[fi,hV,eG D];rfl
 rw[aJ (a.get j e) λv h M=>?_];generalize n.getD j (0,1,none)=g at M⊢;obtain⟨R,S,E⟩:=g
 obtain⟨q,u⟩:∃q,d5 (R,S,E)=.tup [gm R,gm S,q]:=by cases E<;>rw[#[_,rfl]]
 rw[u]at M;rw[cp (jJ.mp M) λy Q P b X=>?_];subst P;obtain⟨_,_,rfl,d,X⟩:=cq.mp X;obtain⟨_,_,rfl,Z,X⟩:=cq.mp X;obtain⟨i,_,rfl,_,X⟩:=cq.mp X;obtain rfl:=er.mp X;obtain⟨f,rfl⟩:=dS.mp d;obtain⟨c,rfl⟩:=dS.mp Z;rw[va y f c i h b]
def Rw{n:c6}(W:∀r∈n,gk r)(D:j<n.length):gk (n.getD j (0,1,none)):=by rw[hV,eG D];rw[W _<|m6 D]
def O4(a b):l6 (.type "tuple") #[[]] #[[a,b]]:=#[by kernel_rfl,(show 0+2<=16777216 by decide)]
section
variable{x:Wd}
inductive Gy (l:!(!N)) (F':Fs):aL->ao->Prop
 |mk (a es) (h:aM F' (l.map .str) es):Gy l F' (.ok (.ret (.ref a))) [(a,aa #[es] 0)]
def aq7(bb:a6.length=9)(W:∀r∈a6,gk r)(I:F p (aa #[ps] a7))(t:aM F (am.map gm) ps)(A:F r (aa #[rs] nr))(c:aM F (a6.map d5) rs):ay x aj 400 (.call (.ref 874) #[[.ref p,.ref r],[]]) F [] (Gy<|nY am a6):=by
 rw[aJ (Es t) λl k P=>?_];subst k;subst P;rw[fq (O:=[]) ab λB K=>jf (Lc:=[]) (aoN p r B K x) ab ab (.refl _) λw m s bt C a8=>Bs C.2.1 a8 (an _ _ I) λE=>?_];have a:∀j,j%9<a6.length:=λj=>by simp only[bb];rw[bq _ ζ]
 by_cases X:(l.map (·.1)).sum%3=0
 .rw[#[[(B,_)],[],.refl _,_,_,[],ab,λJ G=>bp (aoR p r B K _ E J G x) ab #[fX ζ X,ab] an #[_,[],?_]]]
  rw[nY,if_pos X];rw[.nil]
 .rw[lq (Pz c<|a<|(l.map (·.1)).sum/3) λy f bo i Q R=>lq (Pz c<|a<|(l.map (·.1)).sum/27) λac bs n bl g S=>ek (Rw W<|a<|(l.map (·.1)).sum/3) λb Y _=>ek (Rw W<|a<|(l.map (·.1)).sum/27) λL Z _=>?_]
  refine#[[(B,_)],[],.refl _,_,_,[(r,_),(y,_)],#[an _ _ A,an _ _ R,ab],λJ G=>bP (Lc:=[]) (aoO p r B K _ E J G _ _ _ y f bo _ _ nr i rs x) ab #[O4 _ _,gr Q (by have:=a<|(l.map (·.1)).sum/3;rw[aj5]),fX ζ rfl,mH ζ ζ rfl,fX ζ<|aj4 X,ab] (.refl _) ((EQ (kg b)<|og b Y).le ζ λ_ _ _ _ U=>U) λres T h u q=>?_];rw[q.casesOn λe=>?_];refine#[[(B,_)],[],.refl _,_,_,[(r,_),(ac,_)],#[u _ _<|an _ _<|an _ _ A,u _ _<|an _ _<|an _ _ S,ab],λD d=>bP (aoP p r B K _ E G nr e _ _ ac bs n _ _ D d bl rs _ x) ab #[O4 _ _,gr g (by have:=a<|(l.map (·.1)).sum/27;rw[aj6]),fX ζ rfl,mH ζ ζ rfl,ab] (.refl _) ((EQ (kg L)<|og L Z).le ζ λ_ _ _ _ U=>U) λres b0 h H q=>?_];rw[q.casesOn λo=>#[[],[],.refl _,_,_,[],ab,λM z=>bp (aoQ B e o M z _ _ x) ab ab (dP (cb<|dP (cb an) u) H) #[_,_,?_]]];rw[nY,if_neg X];rw[.cons (c9.mpr #[e,rfl])<|.cons (c9.mpr #[o,rfl]) .nil]
end
section
abbrev wi(L H:N):aX:=fO mj 0 (xk L) H
abbrev nK(L it m H:N):bj:=fQ mj 0 (.ref it) (.ref m)<|wi L H
abbrev lj(L it:N):bj:=bL mj 2 (.ref it)<|xk L
abbrev mc(L it:N):bj:=bL mj 10 (.ref it)<|xk L
abbrev iA(L it:N):bj:=bL mj 13 (.ref it)<|xk L
abbrev cG(v n:N):Obj:=#[.type "range_iterator",none,.fields #[[.int (ad v) 0,.int (ad n) 0,.int 1 0]],#[[]]]
abbrev eD(k n:N):Obj:=#[.type "range_iterator",none,.fields #[[.int (ad k+1) 0,.int (ad (n+1)-1) 0,.int 1 0]],#[[]]]
abbrev ba(a k:N):Obj:=#[.type "list_iterator",none,.fields #[[.ref a,.int (ad k) 0]],#[[]]]
structure jw where
 z:N
 p:N
 r:N
 e:N
 wl:N
 rl:N
 f0:N
 f1:N
 f2:N
 f3:N
 f4:N
structure j5 where
 f5:N
 f6:N
 f7:N
 v5:af
 v6:af
 v7:af
abbrev sT(x:Wd)(w:jw)(W:!bv):!bv:=V x.P cW w.f0 (.ref w.p)::V x.P cY w.f1 (.ref w.r)::V x.P fo w.f2 (.ref w.e)::V x.P rF w.f3 (.ref w.wl)::V x.P bU w.f4 (.ref w.rl)::W
abbrev lz(x:Wd)(w:jw)(t:j5)(W:!bv):!bv:=sT x w (V x.P dh t.f5 t.v5::V x.P di t.f6 t.v6::V x.P bD t.f7 t.v7::W)
abbrev Ii(x:Wd)(w:jw):aH×Obj:=(w.z,az (sT x w []) 5)
abbrev gM(x:Wd)(w:jw)(t:j5):aH×Obj:=(w.z,az (lz x w t []) 8)
abbrev fH(x:Wd)(H:N):Option (N×af)->aH×Obj
 |none=>(H,ak [] 0)
 |some p=>(H,ak [V x.P yP p.1 p.2] 1)
abbrev Ie(x:Wd)(w:jw)(q:Option (j5×af)):aH×Obj:=q.rec (Ii x w) λp=>gM x w p.1
abbrev G5(q:Option (j5×af)):Obj:=q.rec cE λp=>bm p.2
abbrev aq6(q:Option (j5×af))(a b c:N)(v5 v6 K:af):j5:=q.rec #[a,b,c,v5,v6,K] λp=>#[p.1.f5,p.1.f6,p.1.f7,v5,v6,K]
variable(P:PP)
variable(w:jw) (t:j5) (z bo it ac ch sz tk k n m ti na ns du G J eN p r e g7 fa f0 f1 f2 f3 f4 a y dx c1 hi nr ev nl bl ew ey em eh ep ei eB eC eM tf c0 bb ck dV c2 t4 f5 f6 e9 nw e3 e4 e5 ec ed ef K dt bs i v a6 D f8 tg q dd ds ea j ts ne e2 e6:N) (xs d0 rs b0 ps os:!af) (d2:UInt8) (d1:!UInt8) (eg U a7 c3 e0 w2 e1 da db a8 d3 bt ca e7 e8:!N) (eb v5 v6 gl vl vk fc fd fe fl fm f9 gb gc gg gs gu g0 g1 g2 g3 g4 g5 g6 go:af) (x:Wd) (Y g8 g9 ha hb:ao)
def arZ:∀(x:Wd) Y,Ev (ex x aj 350 (.code<|i_ mj 0 (.ref it) (.ref ac)<|wi z bo)<|cf [(it,ba ch 0)] sz tk (bif x.b2 then[]else(H 0xb50)) [] [] Y) Y [0] (.next<|nK z it ac bo) [(it,ba ch 0)] [] [] []:=bB
section
variable{P w t z bo it ac ch sz tk k n m ti na ns du G J eN p r e g7 fa f0 f1 f2 f3 f4 a y dx c1 hi nr ev nl bl ew ey em eh ep ei eB eC eM tf c0 bb ck dV c2 t4 f5 f6 e9 nw e3 e4 e5 ec ed ef K dt bs i v a6 D f8 tg q dd ds ea j ts ne e2 e6 xs d0 rs b0 ps os d2 d1 eg U a7 c3 e0 w2 e1 da db a8 d3 bt ca e7 e8 eb v5 v6 gl vl vk fc fd fe fl fm f9 gb gc gg gs gu g0 g1 g2 g3 g4 g5 g6 go}
def arT:∀d (x:Wd) Y,Ev (fE P 0 [ph (pB []) [0,1,2] (H 0x438aa0c10) []] [(G,J,du)]<|ex x aj 350 (.code<|nK z it ac bo)<|cf [fH x bo d,(it,ba ch k),(ac,aa #[d0] na)] sz tk (H 0x510d0151558005444) [iN n ti,iN m 0] [(ch,aa #[xs] ns)] Y) Y [0,1,2] (.next<|nK z it ac bo) [fH x bo<|some (fC d tk,iN n ti),(it,ba ch<|k+1),(ac,aa ((ar d0).push<|ah [65,65,65,65,65]<|tk+1)<|na+1)] [] [] [cm #[d0],P 349 aj (.call (.ref 46) #[[iN m<|tk+5],[]]) []<|pB [],cj (ad n) (16^5)<|ad m,df #[xs] (ad k)<|iN n ti]:=gd
def arU:∀d (x:Wd) Y,Ev (fE P 0 [ph (pB (d2::d1)) [0,1,2] (H 0x438313011101001) [ah eg 0]] [(G,J,du)]<|ex x aj 350 (.code<|nK z it ac bo)<|cf [fH x bo d,(it,ba ch k),(ac,aa #[d0] na)] sz tk (H 0x510d0151558005444) [iN n ti,iN m 0] [(ch,aa #[xs] ns)] Y) Y [0,1,2] (.next<|nK z it ac bo) [fH x bo<|some (fC d tk,iN n ti),(it,ba ch<|k+1),(ac,aa ((ar d0).push<|ah eg<|J+8)<|na+1)] [] [] [cm #[d0],jX #[#[[65,65,65,65,65]++fb #[(d2::d1)]]] (some<|-5) none #[#[eg]],fL #[#[[65,65,65,65,65]]] #[#[fb #[(d2::d1)]]],oW #[(d2::d1)],P 349 aj (.call (.ref 46) #[[iN m<|tk+5],[]]) []<|pB (d2::d1),cj (ad n) (16^5)<|ad m,df #[xs] (ad k)<|iN n ti]:=gd
def arR:∀d (x:Wd) Y,Ev (fE P 0 [ph (pS U) [0,1,2,3] (bif x.b2 then(H 0xca018b1bb5)else(H 0xca0a6018b1bb5)) [],ph (pS a7) [0,1,2,3,4,5,6,7] (H 0x51dd1dddd0c0cc850b00c850b00c850b009a0896099991) [],ph (pS c3) [0,1,2,3,4,5,6,7] (H 0x4385333351b55597971797dddddd0b096099991) []] [(G,J,bl),(bb,ck,c0),(c2,t4,dV)]<|ex x aj 400 (.code<|lj w.z it)<|cf [Ie x w d,(w.z+2,G5 d),(w.rl,aa #[b0] nl),(it,ba w.r k)] sz tk (H 0xac0) [.ref a] [(w.r,aa #[rs] nr),(a,aD [iN c1 dx,iN hi du,.ref y]),(y,aa #[[.ref ew,.ref ey]] ev),(ew,aD [iN em eB,iN eh eC]),(ey,aD [iN ep eM,iN ei tf])] Y) Y [0,1,2,3,10] (.next<|lj w.z it) [gM x w<|aq6 d tk (tk+1) t4 (iN hi du) (.ref y)<|.ref<|c2+2,((w.z+2),bm<|iN c1 dx),(w.rl,aa ((ar b0).push<|aF<|c2+2)<|nl+1),(it,ba w.r<|k+1)] [((c2+2),aa #[[ah U bl,ah a7 c0,ah c3 dV]] 0)] [] [cm #[b0],P 398 aj (.call (.ref 860) #[[iN ep eM,iN ei tf],[]]) []<|pS c3,P 398 aj (.call (.ref 860) #[[iN em eB,iN eh eC],[]]) []<|pS a7,P 399 aj (.call (.ref 860) #[[iN c1 dx,iN hi du],[]]) []<|pS U,df #[rs] (ad k)<|aF a]:=gd
def arS:∀(x:Wd) Y,Ev (fE P 0 [ph (pS U) [0,1,2,3] (bif x.b2 then(H 0xd20c6018b1bb5)else(H 0xd20ff1ffc60a6018b1bb5)) [ah [ec] 0,ah [ed] 0,ah [ef] 0]] [(G,J,bl)]<|ex x aj 400 (.code<|lj w.z it)<|cf [(w.z,az (lz x w t []) 8),(w.z+2,bm vl),(w.rl,aa #[b0] nl),(it,ba w.r k)] sz tk (H 0xac0) [.ref a] [(w.r,aa #[rs] nr),(a,aD [iN c1 dx,iN hi du,.ref y]),(y,aa #[[]] ev),(w.wl,aa #[[ah e0 e3,ah w2 e4,ah e1 e5]] nw)] Y) Y [0,1,2,3,10] (.next<|lj w.z it) [gM x w #[t.f5,t.f6,t.f7,iN hi du,.ref y,.ref<|G+6],((w.z+2),bm<|iN c1 dx),(w.rl,aa ((ar b0).push<|aF<|G+6)<|nl+1),(it,ba w.r<|k+1)] [((G+6),aa #[[ah U bl,ah [ec,ed,ef]<|J+14]] 1)] [] [cm #[b0],iX #[#[e1]] (4-ad c1) #[#[[ef]]],iX #[#[w2]] (4-ad c1) #[#[[ed]]],iX #[#[e0]] (4-ad c1) #[#[[ec]]],P 399 aj (.call (.ref 860) #[[iN c1 dx,iN hi du],[]]) []<|pS U,df #[rs] (ad k)<|aF a]:=bB
def arN:∀(x:Wd) Y,Ev (fE P 0 [ph (pS U) [0,1,2,3,4,6,7,8] (H 0xf10) [.ref D,iN q 0],ph (pS a7) [0,1,2,3,4,5,6,7] (H 0x551af0) [ah a8 0]] [(G,J,bl),(bb,ck,c0)]<|ex x aj 400 (.code<|iA w.z it)<|cf [(w.z,az (lz x w t [V x.P jK f8<|ah [] tg]) 9),(w.z+1,cE),(w.z+4,bm vk),(it,cG 0<|n+1),(w.z+3,bm<|.ref K)] sz tk (bif x.b2 then(H 0xe10e40)else(H 0xe10ad0e40)) [iN i 0,iN v a6,.ref D,.ref D,iN q 0] [(w.p,aa #[ps] dt),(K,aa #[os] bs),(D,aa #[[ah da dd,ah db ds]] nw)] Y) Y [0,1,2,3,4] (.next<|iA w.z it) [(w.z,az (sT x w [V x.P dh t.f5<|t.v5,V x.P di t.f6<|t.v6,V x.P bD t.f7<|t.v7,V x.P jK f8<|ah a8 ck]) 9),((w.z+1),bm<|iN v a6),((w.z+4),bm<|iN 0 tk),(it,eD 0 n),((w.z+3),bm<|.ref K)] [] [] [nz (aI "list") (ar [ah U bl,ah a7 c0]) #[#[[32]]] #[#[a8]],P 398 aj (.call (.ref 881) #[[ah db ds,.int (ad q+ad 1)<|J+4],[]]) []<|pS a7,gj (ad v) 4<|ad q,d8 #[os] (ad 0)<|aF D,P 398 aj (.call (.ref 881) #[[ah da dd,iN q<|tk+17],[]]) []<|pS U,gj (ad v) 4<|ad q,d8 #[os] (ad 0)<|aF D,d8 #[os] (ad 0)<|aF D,iK (ar ps) (-1-ad i)<|iN v a6,cj (ad 0) (ps.length:Int)<|ad i,f_ (aI "list")<|ar ps]:=bB
def arO:∀(x:Wd) Y,Ev (fE P 0 [ph (pS U) [0,1,2,3,4,6,7,8] (H 0xf10) [.ref D,iN q 0],ph (pS a7) [0,1,2,3,4,5,6,7] (H 0xf10) [.ref D,iN q 0],ph (pS c3) [0,1,2,3,4,5,6,7] (H 0x551af0) [ah a8 0]] [(G,J,bl),(bb,ck,c0),(c2,t4,dV)]<|ex x aj 400 (.code<|iA w.z it)<|cf [(w.z,az (lz x w t [V x.P jK f8<|ah [] tg]) 9),(w.z+1,cE),(w.z+4,bm vk),(it,cG 0<|n+1),(w.z+3,bm<|.ref K)] sz tk (bif x.b2 then(H 0xe10e40)else(H 0xe10ad0e40)) [iN i 0,iN v a6,.ref D,.ref D,iN q 0] [(w.p,aa #[ps] dt),(K,aa #[os] bs),(D,aa #[[ah da dd,ah db ds,ah d3 ea]] nw)] Y) Y [0,1,2,3,4] (.next<|iA w.z it) [(w.z,az (sT x w [V x.P dh t.f5<|t.v5,V x.P di t.f6<|t.v6,V x.P bD t.f7<|t.v7,V x.P jK f8<|ah a8 t4]) 9),((w.z+1),bm<|iN v a6),((w.z+4),bm<|iN 0 tk),(it,eD 0 n),((w.z+3),bm<|.ref K)] [] [] [nz (aI "list") (ar [ah U bl,ah a7 c0,ah c3 dV]) #[#[[32]]] #[#[a8]],P 398 aj (.call (.ref 881) #[[ah d3 ea,.int (ad q+ad 2)<|ck+4],[]]) []<|pS c3,gj (ad v) 4<|ad q,d8 #[os] (ad 0)<|aF D,P 398 aj (.call (.ref 881) #[[ah db ds,.int (ad q+ad 1)<|J+4],[]]) []<|pS a7,gj (ad v) 4<|ad q,d8 #[os] (ad 0)<|aF D,P 398 aj (.call (.ref 881) #[[ah da dd,iN q<|tk+17],[]]) []<|pS U,gj (ad v) 4<|ad q,d8 #[os] (ad 0)<|aF D,d8 #[os] (ad 0)<|aF D,iK (ar ps) (-1-ad i)<|iN v a6,cj (ad 0) (ps.length:Int)<|ad i,f_ (aI "list")<|ar ps]:=bB
def arP:∀(x:Wd) Y,Ev (fE P 0 [ph (pS U) [0,1,2,3,4,7,8,9] (H 0xf10) [.ref D,iN q 0],ph (pS a7) [0,1,2,3,4,5,6,7] (H 0x55110af0) [ah a8 0]] [(G,J,bl),(bb,ck,c0)]<|ex x aj 400 (.code<|iA w.z it)<|cf [(w.z,az (lz x w t [V x.P jK f8<|ah bt tg]) 9),(w.z+1,bm eb),(w.z+4,bm vk),(it,cG (k+1)<|n+1),(w.z+3,bm<|.ref K)] sz tk (bif x.b2 then(H 0xe70ec0)else(H 0xe70ddd1dec0)) [iN i 0,iN v a6,iN j 0,ah ca ts,.ref D,.ref D,iN q 0] [(w.p,aa #[ps] dt),(K,aa #[os] bs),(D,aa #[[ah da dd,ah db ds]] nw)] Y) Y [0,1,2,3,4] (.next<|iA w.z it) [(w.z,az (sT x w [V x.P dh t.f5<|t.v5,V x.P di t.f6<|t.v6,V x.P bD t.f7<|t.v7,V x.P jK f8<|ah (bt++ca++a8)<|ck+1]) 9),((w.z+1),bm<|iN v a6),((w.z+4),bm<|iN (k+1) tk),(it,eD (k+1) n),((w.z+3),bm<|.ref K)] [] [((decide<|0<ad (k+1)),true)] [fL #[#[bt++ca]] #[#[a8]],nz (aI "list") (ar [ah U bl,ah a7 c0]) #[#[[32]]] #[#[a8]],P 398 aj (.call (.ref 881) #[[ah db ds,.int (ad q+ad 1)<|J+4],[]]) []<|pS a7,gj (ad v) 4<|ad q,d8 #[os] (ad<|k+1)<|aF D,P 398 aj (.call (.ref 881) #[[ah da dd,iN q<|tk+25],[]]) []<|pS U,gj (ad v) 4<|ad q,d8 #[os] (ad<|k+1)<|aF D,d8 #[os] (ad<|k+1)<|aF D,fL #[#[bt]] #[#[ca]],d8 #[[ah [59]<|tk+8,ah [32,59,32]<|tk+9,ah [59,10]<|tk+10,ah [9,59]<|tk+11]] (ad j)<|ah ca ts,cj (ad v) 4<|ad j,iK (ar ps) (-1-ad i)<|iN v a6,cj (ad<|k+1) (ps.length:Int)<|ad i,f_ (aI "list")<|ar ps]:=bB
def arQ:∀(x:Wd) Y,Ev (fE P 0 [ph (pS U) [0,1,2,3,4,7,8,9] (H 0xf10) [.ref D,iN q 0],ph (pS a7) [0,1,2,3,4,5,6,7] (H 0xf10) [.ref D,iN q 0],ph (pS c3) [0,1,2,3,4,5,6,7] (H 0x55110af0) [ah a8 0]] [(G,J,bl),(bb,ck,c0),(c2,t4,dV)]<|ex x aj 400 (.code<|iA w.z it)<|cf [(w.z,az (lz x w t [V x.P jK f8<|ah bt tg]) 9),(w.z+1,bm eb),(w.z+4,bm vk),(it,cG (k+1)<|n+1),(w.z+3,bm<|.ref K)] sz tk (bif x.b2 then(H 0xe70ec0)else(H 0xe70ddd1dec0)) [iN i 0,iN v a6,iN j 0,ah ca ts,.ref D,.ref D,iN q 0] [(w.p,aa #[ps] dt),(K,aa #[os] bs),(D,aa #[[ah da dd,ah db ds,ah d3 ea]] nw)] Y) Y [0,1,2,3,4] (.next<|iA w.z it) [(w.z,az (sT x w [V x.P dh t.f5<|t.v5,V x.P di t.f6<|t.v6,V x.P bD t.f7<|t.v7,V x.P jK f8<|ah (bt++ca++a8)<|t4+1]) 9),((w.z+1),bm<|iN v a6),((w.z+4),bm<|iN (k+1) tk),(it,eD (k+1) n),((w.z+3),bm<|.ref K)] [] [((decide<|0<ad (k+1)),true)] [fL #[#[bt++ca]] #[#[a8]],nz (aI "list") (ar [ah U bl,ah a7 c0,ah c3 dV]) #[#[[32]]] #[#[a8]],P 398 aj (.call (.ref 881) #[[ah d3 ea,.int (ad q+ad 2)<|ck+4],[]]) []<|pS c3,gj (ad v) 4<|ad q,d8 #[os] (ad<|k+1)<|aF D,P 398 aj (.call (.ref 881) #[[ah db ds,.int (ad q+ad 1)<|J+4],[]]) []<|pS a7,gj (ad v) 4<|ad q,d8 #[os] (ad<|k+1)<|aF D,P 398 aj (.call (.ref 881) #[[ah da dd,iN q<|tk+25],[]]) []<|pS U,gj (ad v) 4<|ad q,d8 #[os] (ad<|k+1)<|aF D,d8 #[os] (ad<|k+1)<|aF D,fL #[#[bt]] #[#[ca]],d8 #[[ah [59]<|tk+8,ah [32,59,32]<|tk+9,ah [59,10]<|tk+10,ah [9,59]<|tk+11]] (ad j)<|ah ca ts,cj (ad v) 4<|ad j,iK (ar ps) (-1-ad i)<|iN v a6,cj (ad<|k+1) (ps.length:Int)<|ad i,f_ (aI "list")<|ar ps]:=bB
end
def ar1:Ev (ex x aj 350 (.code<|nK z it ac bo)<|cf [(it,ba ch k)] sz tk (H 0xa70) [] [(ch,aa #[xs] ns)] Y) Y [] (.res<|.ok .next) [] [] [] [h_ #[xs]<|ad k]:=by kernel_rfl
def ar0:Ev (ex x aj 400 (.code<|lj z it)<|cf [(it,ba r k)] sz tk (H 0xa70) [] [(r,aa #[rs] nr)] Y) Y [] (.res<|.ok .next) [] [] [] [h_ #[rs]<|ad k]:=by kernel_rfl
def arV:Ev (ex x aj 400 (.code<|mc w.z it)<|cf [(w.z+4,cE),(K,aa #[os] bs),(it,cG k<|n+1),(w.z,az (lz x w t []) 8),(w.z+3,bm<|.ref K)] sz tk (H 0xd00) [iN i 0,iN v a6,iN m 0,.ref D] [(w.p,aa #[ps] dt),(w.rl,aa #[b0] nl)] Y) Y [0,1,2,3,4] (.next<|mc w.z it) [((w.z+4),bm<|iN k tk),(K,aa #[(List.take m os++aF D::zF m os)]<|bs+1),(it,eD k n),(w.z,az (lz x w t []) 8),((w.z+3),bm<|.ref K)] [] [] [wN (ar os)<|ad m,d8 #[b0] (ad k)<|aF D,cj (ad v) (ad k+1)<|ad m,d8 #[ps] (ad i)<|iN v a6,cj (ad k) (ps.length:Int)<|ad i,f_ (aI "list")<|ar ps]:=by kernel_rfl
def arW:Ev (ex x aj 400 (.code<|mc w.z it)<|cf [(w.z+4,bm vk),(K,aa #[os] bs),(it,cG k<|n+1),(w.z,az (lz x w t []) 8),(w.z+3,bm<|.ref K)] sz tk (H 0xd00) [iN i 0,iN v a6,iN m 0,.ref D] [(w.p,aa #[ps] dt),(w.rl,aa #[b0] nl)] Y) Y [0,1,2,3,4] (.next<|mc w.z it) [((w.z+4),bm<|iN k tk),(K,aa #[(List.take m os++aF D::zF m os)]<|bs+1),(it,eD k n),(w.z,az (lz x w t []) 8),((w.z+3),bm<|.ref K)] [] [] [wN (ar os)<|ad m,d8 #[b0] (ad k)<|aF D,cj (ad v) (ad k+1)<|ad m,d8 #[ps] (ad i)<|iN v a6,cj (ad k) (ps.length:Int)<|ad i,f_ (aI "list")<|ar ps]:=by kernel_rfl
def arX:Ev (ex x aj 400 (.code<|mc z it)<|cf [(it,cG k 0)] sz tk (H 0x3555515) [] [] Y) Y [] (.res<|.ok .next) [] [] [] []:=by kernel_rfl
def arY:Ev (ex x aj 400 (.code<|iA z it)<|cf [(it,cG k 0)] sz tk (H 0x3555515) [] [] Y) Y [] (.res<|.ok .next) [] [] [] []:=by kernel_rfl
def Ou:av:=ex x aj 500 (.fn 886 #[[.ref p,.ref r,.ref e],[]])<|cf [] sz tk (H 0x5d91997800217022255c30) [] [(p,aa #[ps] dt)] Y
def K8(x:Wd)(sz:N):Ko:=(Ou sz 0 0 0 0 0 [] x []).resume
def arI:∀(x:Wd) Y,Ev (Ou sz tk p r e dt ps x Y) Y [7,8,9,0,1,2,3,4,6] (.pend 497 aj (i_ mj 0 (.ref<|sz+7) (.ref<|sz+8)<|wi sz<|sz+9)<|K8 x sz) ([((sz+7),ba (sz+6) 0),((sz+8),aa #[[]] 0),((sz+9),ak [] 0)]++[(sz,az [V x.P cW tk<|.ref p,V x.P cY (tk+1)<|.ref r,V x.P fo (tk+2)<|.ref e] 3),((sz+1),cE),((sz+2),cE),((sz+3),cE),((sz+4),cE)]) [((sz+6),aa #[(iS (ar ps) none (some 3) none).1] 0)] [] [cm #[ps]]:=cS
def Ov:av:=K8 x sz (.ok .next)<|cf [(sz,az [V x.P cW tk<|.ref p,V x.P cY (tk+1)<|.ref r,V x.P fo (tk+2)<|.ref e] 3),(sz+1,cE),(sz+2,cE),(sz+3,cE),(sz+4,cE),(sz+9,ak [V x.P yP eN eb] 1)] G J (H 0x5d212255588855) [] [(r,aa #[rs] nr)] g8
def xU(x:Wd)(sz:N):Ko:=(Ov sz 0 0 0 0 0 0 0 0 [] .none x []).resume
def arJ:∀(x:Wd) c,Ev (Ov sz tk G J eN p r e nr rs eb x c) c [0,2,6,7,1,3,4] (.pend 497 aj (lj sz<|G+1)<|xU x sz) ([(sz,az [V x.P cW tk<|.ref p,V x.P cY (tk+1)<|.ref r,V x.P fo (tk+2)<|.ref e,V x.P rF J<|.ref<|sz+8,V x.P bU (J+1)<|.ref G] 5),((sz+2),cE),(G,aa #[[]] 0),((G+1),ba r 0)]++[((sz+1),cE),((sz+3),cE),((sz+4),cE)]) [] [] []:=cS
abbrev kI(x:Wd)(w:jw)(t:j5)(f8:N)(Z:!N)(tg:N):aH×Obj:=(w.z,az (lz x w t [V x.P jK f8<|.str #[#[Z]] tg]) 9)
abbrev gF(p r e sz tk J G:N):jw:=#[sz,p,r,e,sz+8,J,tk,tk+1,tk+2,G,G+1]
abbrev By(q:Option (!N×N×!N×N)):!af:=q.rec [] λp=>[ah p.1 p.2.1,ah p.2.2.1 p.2.2.2]
abbrev nX(q:Option (!N×N×!N×N))(e:N)(rs:!af):Array af:=q.rec #[rs] λ_=>(ar rs).push<|.ref e
abbrev lA(q:Option (!N×N×!N×N))(k:N):N:=q.rec k λ_=>k+1
def DJ(p r e sz tk J G nl D E ne:N)(t:j5)(vl:af)(rs:!af)(d:Option (!N×N×!N×N))(x:Wd)(Y:ao):av:=xU x sz (.ok .next)<|cf [gM x (gF p r e sz tk J G) t,(sz+1,cE),(sz+2,bm vl),(sz+3,cE),(sz+4,cE),(J,aa ⟨rs⟩ nl)] D E (d.rec (H 0x9e0125) λ_=>H 0x9e0788588885125) [iN (lA d 8+1) 0] [(e,aa #[By d] ne)] Y
def K9(x:Wd)(sz:N)(d:Option (!N×N×!N×N)):Ko:=(DJ 0 0 0 sz 0 0 0 0 0 0 0 #[0,0,0,.none,.none,.none] .none [] d x []).resume
section
variable{w t z bo it ac ch sz tk k n m ti na ns du G J eN p r e g7 fa f0 f1 f2 f3 f4 a y dx c1 hi nr ev nl bl ew ey em eh ep ei eB eC eM tf c0 bb ck dV c2 t4 f5 f6 e9 nw e3 e4 e5 ec ed ef K dt bs i v a6 D f8 tg q dd ds ea j ts ne e2 e6 xs d0 rs b0 ps os d2 d1 eg U a7 c3 e0 w2 e1 da db a8 d3 bt ca e7 e8 eb v5 v6 gl vl vk fc fd fe fl fm f9 gb gc gg gs gu g0 g1 g2 g3 g4 g5 g6 go}
def arK:∀d (x:Wd) Y,Ev (DJ p r e sz tk G J nl bb ck ne t vl rs d x Y) Y [4,7,9,0,3,1,2,5] (.pend 497 aj (mc sz<|bb+3)<|K9 x sz d) ([((sz+4),cE),((bb+1),aa #[[]] 0),((bb+3),cG 0<|lA d 8+1),gM x (gF p r e sz tk G J) t,((sz+3),bm<|.ref<|bb+1)]++[((sz+1),cE),((sz+2),bm vl)]) [(G,aa (nX d e rs)<|lA d nl)] [] (zY (.type "list") (nX d e rs) (ad<|lA d 8+1)::d.rec [] λ_=>[cm #[rs]]):=gd
end
def Ow(p r e sz tk J G D M t4 a:N)(t:j5)(vl vk:af)(os:!af)(d:Option (!N×N×!N×N))(x:Wd)(Y:ao):av:=K9 x sz d (.ok .next)<|cf [gM x (gF p r e sz tk J G) t,(sz+1,cE),(sz+2,bm vl),(sz+3,bm<|.ref<|D+1),(sz+4,bm vk),(D+1,aa #[os] a)] M t4 (H 0x5d9ad0ad09172a06c1055) [iN (lA d 8+1) 0] [] Y
def K_(x:Wd)(sz:N):Ko:=(Ow 0 0 0 sz 0 0 0 0 0 0 0 #[0,0,0,.none,.none,.none] .none .none [] none x []).resume
section
variable{w t z bo it ac ch sz tk k n m ti na ns du G J eN p r e g7 fa f0 f1 f2 f3 f4 a y dx c1 hi nr ev nl bl ew ey em eh ep ei eB eC eM tf c0 bb ck dV c2 t4 f5 f6 e9 nw e3 e4 e5 ec ed ef K dt bs i v a6 D f8 tg q dd ds ea j ts ne e2 e6 xs d0 rs b0 ps os d2 d1 eg U a7 c3 e0 w2 e1 da db a8 d3 bt ca e7 e8 eb v5 v6 gl vl vk fc fd fe fl fm f9 gb gc gg gs gu g0 g1 g2 g3 g4 g5 g6 go}
def arL:∀d (x:Wd) Y,Ev (Ow p r e sz tk G J bb c2 t4 bs t vl vk os d x Y) Y [0,1,4,7,3,2,5] (.pend 497 aj (iA sz<|c2+1)<|K_ x sz) ([(kI x (gF p r e sz tk G J) t) (t4+1) [] t4,((sz+1),cE),((sz+4),bm vk),((c2+1),cG 0<|lA d 8+1),((sz+3),bm<|.ref<|bb+1)]++[((sz+2),bm vl)]) [((bb+1),aa #[os] bs)] [] [zY (.type "list") #[os]<|ad<|lA d 8+1]:=gd
end
section
variable{w t z bo it ac ch sz tk k n m ti na ns du G J eN p r e g7 fa f0 f1 f2 f3 f4 a y dx c1 hi nr ev nl bl ew ey em eh ep ei eB eC eM tf c0 bb ck dV c2 t4 f5 f6 e9 nw e3 e4 e5 ec ed ef K dt bs i v a6 D f8 tg q dd ds ea j ts ne e2 e6 xs d0 rs b0 ps os d2 d1 eg U a7 c3 e0 w2 e1 da db a8 d3 bt ca e7 e8 eb v5 v6 gl vl vk fc fd fe fl fm f9 gb gc gg gs gu g0 g1 g2 g3 g4 g5 g6 go}
def arM:∀(x:Wd) Y,Ev (K_ x sz (.ok .next)<|cf [kI x (gF p r e sz tk G J) t f8 bt tg] e2 e6 [1] [] [] Y) Y [] (.res<|.ok<|.ret<|ah bt tg) [] [] [] []:=cS
end
end
def T8(n):(d9 n).length=(ap n).length:=by simp[d9]
def aoj(I:D<=4)(h:x[4-D]? =some g):iX #[#[x]] (4-ad D) #[#[[g]]]:=by have e:=Jz I;rw[e▸yt h (aiX e)]
def kB(o:!(!N)):Prop:=(o.length=2\/o.length=3)/\∀a∈o,a≠[]/\a.length<=5
def pY(a n):a.length<=(cy a n).length/\(cy a n).length<=a.length+3:=by
 unfold cy;split
 .simp;rw[MB]
 .simp;rw[MB]
 .cases a with
  |nil=>simp
  |cons Z l=>simp
 .rw[aiY]
def Rt(h:n<=16777216):Fj n=false:=decide_eq_false<|l5.mpr h
def aoq(h:a.length+b.length<=1000):nz (.type "list") #[[.str #[#[a]] t,.str #[#[b]] u]] #[#[[32]]] #[#[a++32::b]]:=by
 rw[#[py,ab,(show 2≠1 by decide),Rt ?_,?_,?_]]
 .show 0+a.length+1+b.length+1<=16777216
  rw[aiZ h]
 .show(#[#[a]++#[[32]]++#[b]]:aA)=_
  congr 1;apply hU;simp
 .show(a++32::b).length<=16777216
  simp;rw[ai0 h]
def aor(h:a.length+b.length+c.length<=1000):nz (.type "list") #[[.str #[#[a]] t,.str #[#[b]] u,.str #[#[c]] v]] #[#[[32]]] #[#[a++32::(b++32::c)]]:=by
 rw[#[py,ab,(show 3≠1 by decide),Rt ?_,?_,?_]]
 .show 0+a.length+1+b.length+1+c.length+1<=16777216
  rw[ai1 h]
 .show(#[#[a]++#[[32]]++#[b]++#[[32]]++#[c]]:aA)=_
  congr 1;apply hU;simp
 .show(a++32::(b++32::c)).length<=16777216
  simp;rw[ai2 h]
def yH(h:D.length=2\/D.length=3):(∃a b,D=[a,b])\/∃a b c,D=[a,b,c]:=by
 match D,h with
 |[a,b],_=>rw[.inl<|j8 a b rfl]
 |[a,b,c],_=>rw[.inr<|Jn a b c rfl]
 |[],h=>simp at h
 |[_],h=>simp at h
 |_::_::_::_::_,h=>simp at h
def Qj(x tk):d8 (ar [qH (iZ<|ar [59])<|tk+8,qH (iZ<|ar [32,59,32])<|tk+9,qH (iZ<|ar [59,10])<|tk+10,qH (iZ<|ar [9,59])<|tk+11]) (ad<|x%4) (qH (iZ<|ar<|gE x)<|tk+8+x%4):=by
 have U:x%4<4:=bq _ ζ;rw[gr ?_<|ai3 U];unfold gE;generalize x%4=y at U
 match y,U with
 |0,_=>rfl
 |1,_=>rfl
 |2,_=>rfl
 |3,_=>rfl
 |_+4,U=>lia
def yQ(x):gE x≠[]/\(gE x).length<=3:=by
 unfold gE
 split<;>simp
def Jt{l:!(N×N)}(hi:i<l.length):∃t,(l.map aO)[i]? =some (.int (ad<|(l.map (·.1)).getD i 0) t):=by rw[#[(l[i]).2,?_]];simp only[fi,eG hi,hV,fi,eG hi];rfl
def aom{l:!(N×N)}(i)(hi:i<l.length)(a:l.length<=100):∃t,iK #[l.map aO] (-1-ad i) (.int (ad<|(l.map (·.1)).getD (l.length-1-i) 0) t):=by
 rw[dm (Jt<|ai4 hi) λt W=>?_];have Z:(l.map aO).length=l.length:=aU ..;rw[#[t,by simp only[oJ];lia,by simp only[oJ];lia,?_,?_]]
 .rw[Js (Z.symm▸hi)▸kX _]
 .show(#[l.map aO]:Array af)[(-1-ad i+((l.map aO).length)).toNat]? =_
  rw[Js<|Z.symm▸hi,Z];simpa using W
def B4{n:Type}(l m)(x:n):(iF l m x).length=l.length+1:=by simp[iF];lia
section
variable{F:Fs}
def aM.take:∀{l:!PV} {vs:!af} (k:N),aM F l vs->aM F (l.take k) (vs.take k)
 |_,_,0,_=>by simp only[FT,FT];rw[.nil]
 |[],_,k+1,U=>by rw[(er.mp U)▸.nil]
 |x::l,_,k+1,U=>by rw[cp (cq.mp U) λv E P a M=>?_];subst P;rw[.cons a<|M.take k]
def aM.drop:∀{l:!PV} {vs:!af} (k:N),aM F l vs->aM F (l.drop k) (vs.drop k)
 |_,_,0,U=>U
 |[],_,k+1,U=>by rw[(er.mp U)▸.nil]
 |x::l,_,k+1,U=>by rw[cp (cq.mp U) λv E P a M=>?_];subst P;rw[M.drop k]
def aM.iF{l:!PV}{x:PV}{vs:!af}{v:af}(m:N)(g:aM F l vs)(d:Rp F x v):aM F (Mine.iF l m x) (Mine.iF vs m v):=(g.take m).append<|cq.mpr<|bX v _ rfl d<|g.drop m
def aM.order{am:!N}:∀{l m:!PV} {vs us:!af} (k:N),aM F l vs->aM F m us->aM F (hG am k l m) (hG am k vs us):=by
 intro J;induction J with
 |nil=>intro m vs us k g d;rw[er]at g;subst g;rw[d]
 |cons x l C=>intro m vs us k g d;rw[cp (cq.mp g) λv E P a M=>?_];subst P;rw[C (k+1) M<|d.iF _ a]
end
def alv{n t:Type}(f:n->t)(l m)(x:n):(iF l m x).map f=iF (l.map f) m (f x):=by simp[iF]
def alw{n t:Type}(f:n->t)(am):∀(l m k),(hG am k l m).map f=hG am k (l.map f) (m.map f):=by
 intro J;induction J with
 |nil=>intro m k;rw[rfl]
 |cons x l C=>intro m k;show(hG am (k+1) l<|iF m _ x).map f=hG am (k+1) (l.map f) (iF (m.map f) _<|f x);simp only[C _<|k+1,alv]
def OJ{n:Type}(am):∀(l m:!n) (k),(hG am k l m).length=l.length+m.length:=by
 intro J;induction J with
 |nil=>intro m k;rw[(nj _).symm]
 |cons x l C=>intro m k;show(hG am (k+1) l<|iF m _ x).length=_;simp only[C _<|k+1,B4];simp;rw[My]
def aly{n:Type}{l:!n}{x y:n}(h:y∈iF l m x):y=x\/y∈l:=by
 rcases ej.mp h with h|h
 .rw[.inr<|List.mem_of_mem_take h]
 .rcases aY.mp h with h|h
  .rw[.inl h]
  .rw[.inr<|List.mem_of_mem_drop h]
def alz{n:Type}(am):∀(l m k) (y:n),y∈hG am k l m->y∈l\/y∈m:=by
 intro J;induction J with
 |nil=>intro m k y U;rw[.inr U]
 |cons x l C=>
  intro m k y U;rcases C _ (k+1) y U with U|U
  .rw[.inl<|.tail _ U]
  .rcases aly U with rfl|U
   .rw[.inl<|.head _]
   .rw[.inr U]
def asm(n):(fv n).length=5:=by simp[fv];rw[ai5]
def DY(h:3<=ps.length):(iS #[ps] none (some 3) none).toList=ps.take 3:=by have:=slicePick_upto #[ps] 3 (by simpa using h);simpa using(congrArg Fe this)
def asl(e:ap (n%16^5)=[]):fv n=[65,65,65,65,65]:=by simp[fv,d9,e]
def E4(e:ap (n%16^5)=G::D):jX (iZ<|ar<|[65,65,65,65,65]++fb (ar (G::D))) (some<|-5) none (iZ<|ar<|fv n)/\fL (iZ<|ar [65,65,65,65,65]) (iZ<|ar<|fb<|ar (G::D))/\oW (ar (G::D)):=by
 have a:=qJ 5 _ (bq n<|show 0<16^5 by decide);have I:fb (ar (G::D))=d9 (n%16^5):=by simp[fb,d9,e]
 have f:(d9<|n%16^5).length=D.length+1:=by simp[d9,e]
 rw[I▸?_];rw[e]at a;simp at a;rw[#[?_,ji (dl _ _) (by rw[I▸?_];simp[fb]) (by simp[f];rw[ag9 a]),?_,?_]]
 .have:=aoB (l:=[65,65,65,65,65]++d9 (n%16^5)) (k:=5) (by simp[f]) ζ (by simp[f];rw[ag_ a])
  rw[this]
 .intro y b
  have:=AA _ y<|e▸b;rw[x5 this]
 .show(G::D).length<=16777216
  simp;rw[aha a]
section
variable{x:Wd}
def QX{z H it ac f k ns na n ti:N}{l:!(N×N)}(hs:F f (aa #[l.map aO] ns))(hk:l[k]? =some (n,ti))(i:D.length<=1000)(h:∀F' t v E d,Le F F'->ay x aj 350 (nK z it ac H) F' [fH x H<|some (t,v),(it,ba f<|k+1),(ac,aa #[D++[.str #[#[fv n]] E]] d)] Q):ay x aj 350 (nK z it ac H) F [fH x H o,(it,ba f k),(ac,aa #[D] na)] Q:=by
 have g:n%16^5<16^5:=bq _ ζ;have e:=λ{t b:N}=>p46 (x:=x) (F:=F) (t1:=t) (b:=b) (alb g)<|alc<|qJ 5 _ g;have c:df #[l.map aO] (ad k) (iN n ti):=hJ (by simp only[fi,hk];rfl);cases I:ap (n%16^5)with
 |nil=>rw[fp (O:=[(f,aa #[l.map aO] ns)]) #[hs,ab] λB K=>gZ 1 λS u J G A=>bu (arT _ x) ab #[fY<|g_ i,I▸e,fX (m:=16^5) ζ rfl,c,ab] rfl u<|.pu (L1:=[_,_])<|asl I▸h _ _ _ _ _ λa o U=>an a o<|u a o U]
 |cons W r=>rw[fp (O:=[(f,aa #[l.map aO] ns)]) #[hs,ab] λB K=>gZ 1 λS u J G A=>bu (arU _ x) ab #[fY<|g_ i,(E4 I).1,(E4 I).2.1,(E4 I).2.2,I▸e,fX (m:=16^5) ζ rfl,c,ab] rfl u<|.pu (L1:=[_,_])<|h _ _ _ _ _ λa o U=>an a o<|u a o U]
inductive Ao (x:Wd) (cl ac:N) (zs:!(!N)) (F':Fs):aL->ao->Prop
 |mk (y na) (us:!(!N×N)) (h1:us.map (·.1)=zs):Ao x cl ac zs F' (.ok .next) [fH x cl (some y),(ac,aa #[us.map ax] na)]
def afG{z H it ac f ns:N}:∀{rest done:!(N×N)} {us:!(!N×N)} {na y F},F f (aa #[(done++rest).map aO] ns)->us.map (·.1)=done.map (λp=>fv p.1)->us.length+rest.length<=100->ay x aj 350 (nK z it ac H) F [fH x H<|some y,(it,ba f done.length),(ac,aa #[us.map ax] na)] (Ao x H ac<|(done++rest).map λp=>fv p.1):=by
 intro rest;induction rest with
 |nil=>
  intro done us na y F o b i;rw[bQ]at o⊢;rw[.perm (pm [[fH x H<|some y],[(it,ba f done.length)],_] (.p (.a 0)<|.p (.a 1)<|.a 2) (.p (.a 1)<|.p (.a 0)<|.a 2) rfl) ?_];rw[bJ (L:=[(it,ba f done.length)]) (O:=[(f,aa #[done.map aO] ns)]) #[o,ab] λB K=>bp (ar1 z H it ac f B K done.length ns (done.map aO) x) ab #[by show(ar<|done.map aO)[done.length]? =none;simp,ab] (aV) #[y,na,us,b]]
 |cons p rest C=>
  intro done us na y F o b i;refine QX (n:=p.1) (ti:=p.2) o (by simp) (by rw[aU,];rw[ahb i]) λT D v E d l=>?_;have e:done++p::rest=(done++[p])++rest:=by simp
  have z:=C (us:=us++[(fv p.1,E)]) (na:=d) (y:=(D,v)) (e▸l _ _ o) (by simp only[bf,bf,b];rfl) (by simp;rw[ahc i]);rw[cJ,<-e,bf]at z;rw[z]
def VU{z H it ac f ns na:N}(hs:F f (aa #[l.map aO] ns))(j:l≠[])(i:l.length<=100):ay x aj 350 (i_ mj 0 (.ref it) (.ref ac)<|wi z H) F [(it,ba f 0),(ac,aa #[[]] na),(H,ak [] 0)] (Ao x H ac<|l.map λp=>fv p.1):=by rw[fU (jT j) λp Q P=>?_];subst P;rw[bJ (O:=[]) ab λB K=>bu (arZ z H it ac f B K x) ab ab rfl (aV)<|.perm (pm [[(it,ba f 0)],[(ac,aa #[[]] na)],_] (.p (.a 0)<|.p (.a 1)<|.a 2) (.p (.a 2)<|.p (.a 0)<|.a 1) rfl)<|QX (o:=none) (an _ _ hs) rfl (dw _) λT D v E d l=>afG (done:=[p]) (us:=[(fv p.1,E)]) (l _ _<|an _ _ hs) rfl<|ahd i]
structure Ws (F:Fs) (wl:N) (ws:!(!N)):Prop where
 len:∀a∈ws,a.length=5
 at_:∃w1 w2 w3 q1 q2 q3 nw,ws=[w1,w2,w3]/\F wl (aa #[[.str #[#[w1]] q1,.str #[#[w2]] q2,.str #[#[w3]] q3]] nw)
def Ws.to{F F':Fs}(T:Le F F'){n:N}{ws:!(!N)}(h:Ws F n ws):Ws F' n ws:=#[h.len,by rw[XX h.at_ λq D k Q m I C e h=>Jr q D k Q m I C e<|T _ _ h]]
abbrev zC(x:Wd)(w:jw)(it k:N)(s:!af)(ws:!(!N))(o:N×N×Option N)(F:Fs)(Q:Po):Prop:=∀T D a z A,Le F T->Rp T (dG<|fk ws o) (.ref z)->ay x aj 400 (lj w.z it) T [gM x w D,(w.z+2,bm a),(w.rl,aa #[s++[.ref z]] A),(it,ba w.r<|k+1)] Q
def apI(h:F a (aa #[[.str #[#[D]] J,.str #[#[U]] K,.str #[#[G]] a6]] n)):Rp F (dG [D,U,G]) (.ref a):=dT.mpr<|gC a _ n rfl h<|.cons (c9.mpr #[J,rfl])<|.cons (c9.mpr #[K,rfl])<|.cons (c9.mpr #[a6,rfl]) .nil
def PN(h:F a (aa #[[.str #[#[D]] G,.str #[#[U]] J]] n)):Rp F (dG [D,U]) (.ref a):=dT.mpr<|gC a _ n rfl h<|.cons (c9.mpr #[G,rfl])<|.cons (c9.mpr #[J,rfl]) .nil
structure TB (F:Fs) (lo hi m:N) (v:af) (a y yp p2 ny ta tb tc td te tf:N):Prop where
 e:v=.ref a
 a_:F a (aD [.int (ad lo) ta,.int (ad hi) tb,.ref y])
 y_:F y (aa #[[.ref yp,.ref p2]] ny)
 ON:F yp (aD [.int (ad m) tc,.int (ad hi) td])
 OO:F p2 (aD [.int (ad lo) te,.int (ad m) tf])
def Ek(h:Rp F (d5 (D,hi,some m)) v):∃a y C i l f c t n b tf,TB F D hi m v a y C i l f c t n b tf:=by rw[cp (jJ.mp h) λa Q P j M=>?_];subst P;obtain⟨_,_,rfl,g,M⟩:=cq.mp M;obtain⟨_,_,rfl,Z,M⟩:=cq.mp M;obtain⟨_,_,rfl,S,M⟩:=cq.mp M;obtain rfl:=er.mp M;obtain⟨f,rfl⟩:=dS.mp g;obtain⟨c,rfl⟩:=dS.mp Z;rw[gV (dT.mp S) λy k l e X I=>?_];subst e;obtain⟨_,_,rfl,R,I⟩:=cq.mp I;obtain⟨_,_,rfl,d,I⟩:=cq.mp I;obtain rfl:=er.mp I;rw[je (DR R) λC t n e s=>?_];subst e;rw[je (DR d) λi b tf e L=>?_];subst e;rw[#[a,y,C,i,l,f,c,t,n,b,tf,rfl,j,X,s,L]]
def El(h:Rp F (d5 (D,hi,none)) v):∃a y l f c,v=.ref a/\F a (aD [.int (ad D) f,.int (ad hi) c,.ref y])/\F y (aa #[[]] l):=by rw[cp (jJ.mp h) λa Q P b M=>?_];subst P;obtain⟨_,_,rfl,g,M⟩:=cq.mp M;obtain⟨_,_,rfl,Z,M⟩:=cq.mp M;obtain⟨_,_,rfl,S,M⟩:=cq.mp M;obtain rfl:=er.mp M;obtain⟨f,rfl⟩:=dS.mp g;rw[dm (dS.mp Z) λc k=>?_];subst k;rw[gV (dT.mp S) λy R l m X I=>?_];subst m;obtain rfl:=er.mp I;rw[Jq a y l f c rfl b X]
def QU(ok:gk (U,hi,some m))(j:F w.r (aa #[rs] nr))(r:rs[k]? =some v)(hv:Rp F (d5 (U,hi,some m)) v)(hz:a6.length<=1000)(h:zC x w it k a6 ws (U,hi,some m) F Q):ay x aj 400 (lj w.z it) F [Ie x w q,(w.z+2,G5 q),(w.rl,aa #[a6] nl),(it,ba w.r k)] Q:=by obtain⟨a,y,C,i,l,f,c,t,n,b,T,g⟩:=Ek hv;obtain rfl:=g.e;have L:=ok.1;have p:=ok.2.1;have I:=ok.2.2 m rfl;rw[iU (O:=[(w.r,aa #[rs] nr),(a,aD [iN U f,iN hi c,.ref y]),(y,aa #[_] l),(C,aD [iN m t,iN hi n]),(i,aD [iN U b,iN m T])]) #[j,g.a_,g.y_,g.ON,g.OO,ab] λB K=>gZ 3 λS u J G A D E X M e d=>bu (arR _ x) ab #[fY<|g_ hz,lJ (kg I.1)<|LR L p I.2,lJ (kg L)<|LQ p I.2,lJ (kg L)<|og L p,hJ r,ab] rfl u<|.pu (L1:=[_,_])<|h _ _ _ _ _ (cb u)<|apI<|bc<|.head _]
def aqA(ok:gk (U,hi,none))(g:F w.r (aa #[rs] nr))(r:rs[k]? =some v)(hv:Rp F (d5 (U,hi,none)) v)(i:Ws F w.wl ws)(hz:a6.length<=1000)(h:zC x w it k a6 ws (U,hi,none) F Q):ay x aj 400 (lj w.z it) F [gM x w t,(w.z+2,bm vl),(w.rl,aa #[a6] nl),(it,ba w.r k)] Q:=by rw[HM (El hv) λa y l f c Z o b=>?_];subst Z;obtain⟨Y,q,D,j,n,m,I,C,rfl,e⟩:=i;have L:=ok.1;have p:=ok.2.1;have d:∀x:!N,x.length=5->iX #[#[x]] (4-ad U) #[#[[x.getD (4-U) 65]]]:=λx g=>aoj (ahe L p) (by rw[hV,eG<|ahf g];rfl);rw[iU (O:=[(w.r,aa #[rs] nr),(a,aD _),(y,aa #[[]] l),(w.wl,aa #[_] C)]) #[g,o,b,e,ab] λB K=>gZ 1 λS u J G A=>bu (arS x) ab #[fY<|g_ hz,d _<|Y j<|.tail _<|.tail _<|.head _,d _<|Y D<|.tail _<|.head _,d _<|Y q<|.head _,lJ (kg L)<|og L p,hJ r,ab] rfl u<|.pu (L1:=[_,_])<|h _ _ _ _ _ (cb u)<|PN<|bc<|.head _]
inductive wP (x:Wd) (w:jw) (out:!(!(!N))) (F':Fs):aL->ao->Prop
 |mk (t vl rows nl) (h1:aM F' (out.map dG) rows):wP x w out F' (.ok .next) [gM x w t,(w.z+2,bm vl),(w.rl,aa #[rows] nl)]
def afD:∀{rest done:c6} {t vl s nl F},F w.r (aa #[rs] nr)->aM F ((done++rest).map d5) rs->(∀r∈rest,gk r)->Ws F w.wl ws->aM F ((done.map<|fk ws).map dG) s->done.length+rest.length<=1000->ay x aj 400 (lj w.z it) F [gM x w t,(w.z+2,bm vl),(w.rl,aa #[s] nl),(it,ba w.r done.length)] (wP x w<|(done++rest).map<|fk ws):=by
 intro rest;induction rest with
 |nil=>
  intro done t vl s nl F c A m Y f i;simp only[bQ]at A⊢;rw[.perm (pm [[gM x w t,(w.z+2,bm vl),(w.rl,aa #[s] nl)],_] (.p (.a 0)<|.a 1) (.p (.a 1)<|.a 0) rfl) ?_];rw[bJ (L:=[(it,ba w.r done.length)]) (O:=[(w.r,aa #[rs] nr)]) #[c,ab] λB K=>bp (ar0 w.z it B K done.length w.r nr rs x) ab #[by show(ar rs)[done.length]? =none;have:=A.length;simp[this],ab] (aV) #[t,vl,s,nl,f.to an]]
 |cons q rest C=>
  intro done t vl s nl F c A m Y f i;simp only[dM]at i;have b:=f.length;simp only[aU,aU]at b;obtain⟨v,X,G⟩:=A.get done.length (x:=d5 q) (by rw[bf,oM<|by simp];simp);have e:done++q::rest=(done++[q])++rest:=by simp
  have h:zC x w it done.length s ws q F (wP x w<|(done++q::rest).map<|fk ws):=λT t vl z nl l W=>by have u:=C (t:=t) (vl:=vl) (nl:=nl) (l _ _ c) (e▸A.to l) (λr U=>m r<|.tail _ U) (Y.to l) (by simp only[bf,bf];rw[(f.to l).push W]) (by simp;rw[Dg i]);simp only[cJ,<-e]at u;rw[u]
  obtain⟨R,S,d⟩:=q;cases d with
  |none=>rw[aqA (m _<|.head _) c X G Y (vm i b) h]
  |some E=>rw[QU (q:=some (t,vl)) (m _<|.head _) c X G (vm i b) h]
def Zq(b:F w.r (aa #[rs] nr))(A:aM F (((J,hi,some m)::rest).map d5) rs)(c:∀r∈(J,hi,some m)::rest,gk r)(Y:Ws F w.wl ws)(i:rest.length<=900):ay x aj 400 (lj w.z it) F [Ii x w,(w.z+2,cE),(w.rl,aa #[[]] nl),(it,ba w.r 0)] (wP x w<|((J,hi,some m)::rest).map<|fk ws):=aJ (A.get 0 rfl) λv X G=>QU (q:=none) (ws:=ws) (c _<|.head _) b X G (dw _) λT D a z nl l W=>afD (done:=[(J,hi,some m)]) (l _ _ b) (A.to l) (λr U=>c r<|.tail _ U) (Y.to l) (.cons W .nil)<|Mp i
end
def yC(k n):eD k n=cG (k+1) n:=by show(#[.type "range_iterator",none,.fields #[_],#[[]]]:Obj)=_;refine(by lia:ad (n+1)-1=ad n)▸?_;rfl
def Lm{l:!(N×N)}:(l.map aO).length=l.length:=aU ..
def vK{l:!(N×N)}(h:l.length<=100):f_ (.type "list") #[l.map aO]:=#[py,by show(l.map aO).length<=16777216;rw[Lm,];lia]
def vL(j:l≠[]):cj (ad k) (((l.map aO).length:N):Int) (ad<|k%l.length):=by rw[Lm,];rw[fX (λU=>j<|List.length_eq_zero_iff.mp U) rfl]
abbrev UJ:Option af->Obj
 |none=>cE
 |some v=>bm v
section
variable{x:Wd}
def QM{s os:!af}(j:l≠[])(i:l.length<=100)(I:F w.p (aa #[l.map aO] U))(A:F w.rl (aa #[s] nl))(hk:s[k]? =some (.ref a6))(m:os.length=k)(r:k<=100)(h:∀F' v W,Le F F'->ay x aj 400 (mc w.z it) F' [(w.z+4,bm v),(D,aa #[iF os ((l.map (·.1)).getD (k%(l.map (·.1)).length) 0%(k+1))<|.ref a6] W),(it,cG (k+1) n),gM x w t,(w.z+3,bm<|.ref D)] Q):ay x aj 400 (mc w.z it) F [(w.z+4,UJ c),(D,aa #[os] G),(it,cG k<|n+1),gM x w t,(w.z+3,bm<|.ref D)] Q:=by
 have J:=m7.mpr j;rw[aU]at h;rw[dm (Jt<|bq k J) λP L=>?_];generalize X:(l.map (·.1)).getD (k%l.length) 0=v at*;have g:AP [wN #[os]<|ad<|v%(k+1),d8 #[s] (ad k)<|.ref a6,cj (ad v) (ad k+1)<|ad<|v%(k+1),d8 #[l.map aO] (ad<|k%l.length)<|.int (ad v) P,cj (ad k) ((l.map aO).length)<|ad<|k%l.length,f_ (.type "list") #[l.map aO]]:=by
  rw[#[#[kX _,?_,?_],gr hk<|akH r,fX (akI) rfl,gr L (by have:=bq k J;rw[alg i this]),vL j,vK i,ab]]
  .rw[akJ m (bq v<|show 0<k+1 by lia)]
  .rw[akK m r]
 cases c with
 |none=>rw[fp (O:=[(w.p,aa #[l.map aO] U),(w.rl,aa #[s] nl)]) #[I,A,ab] λB K=>bu (arV w t it B K k n (v%(k+1)) nl D U G (k%l.length) v P a6 s (l.map aO) os x) ab g rfl (aV) ?_];rw[yC,];rw[h (fz F []) (.int (ad k) K) (G+1) an]
 |some S=>rw[fp (O:=[(w.p,aa #[l.map aO] U),(w.rl,aa #[s] nl)]) #[I,A,ab] λB K=>bu (arW w t it B K k n (v%(k+1)) nl D U G (k%l.length) v P a6 s (l.map aO) os S x) ab g rfl (aV) ?_];rw[yC,];rw[h (fz F []) (.int (ad k) K) (G+1) an]
inductive Am (x:Wd) (w:jw) (t:j5) (od:N) (os:!af) (F':Fs):aL->ao->Prop
 |mk (v no):Am x w t od os F' (.ok .next) [(w.z+4,bm v),(od,aa #[os] no),gM x w t,(w.z+3,bm (.ref od))]
def afz(j:l≠[])(i:l.length<=100)(f:D.length<=100)(d:∀v∈D,∃a,v=.ref a):∀{n k e v os F},F w.p (aa #[l.map aO] U)->F w.rl (aa #[D] nl)->k+n=D.length->os.length=k->ay x aj 400 (mc w.z it) F [(w.z+4,bm v),(J,aa #[os] e),(it,cG k n),gM x w t,(w.z+3,bm<|.ref J)] (Am x w t J<|hG (l.map (·.1)) k (D.drop k) os):=by
 intro n;induction n with
 |zero=>intro k e v os F I A b m;rw[.perm (pm [[(w.z+4,bm v),(J,aa #[os] e)],[(it,cG k 0)],_] (.p (.a 0)<|.p (.a 1)<|.a 2) (.p (.a 1)<|.p (.a 0)<|.a 2) rfl)<|bJ (O:=[]) ab λB K=>bp (arX w.z it B K k x) ab ab (aV) ?_];rw[FH.mpr<|Me b,];rw[#[v,e]]
 |succ n C=>intro k e v os F I A b m;have G:=rt b;refine dm (d D[k] (m6 G)) λz o=>QM (c:=some v) j i I A (by rw[eG G,o]) m (akL f b) λT q W Q=>?_;rw[(SR G)▸o▸(C (Q _ _ I) (Q _ _ A) (pG b) (by rw[B4,];rw[akM m]))]
def Zo(j:l≠[])(i:l.length<=100)(b:D.length=n+1)(f:n<=90)(d:∀v∈D,∃a,v=.ref a)(I:F w.p (aa #[l.map aO] U))(A:F w.rl (aa #[D] nl)):ay x aj 400 (mc w.z it) F [(w.z+4,cE),(J,aa #[[]] K),(it,cG 0<|n+1),gM x w t,(w.z+3,bm<|.ref J)] (Am x w t J<|hG (l.map (·.1)) 0 D []):=by
 have G:=Mm b;refine dm (d D[0] (m6 G)) λz o=>QM (c:=none) j i I A (by rw[eG G,o]) rfl (akN) λT q W Q=>?_;have e:D=.ref z::D.drop 1:=by have:=SR G;rw[o▸this]
 rw[(by rw[e▸?_];rfl:hG (l.map (·.1)) 0 D []=hG (l.map (·.1)) 1 (D.drop 1) (iF [] ((l.map (·.1)).getD (0%(l.map (·.1)).length) 0%(0+1))<|.ref z))▸(afz j i (akO b f) d (Q _ _ I) (Q _ _ A) (akP b)<|B4 ..)]
abbrev rZ(x:Wd)(w:jw)(t:j5)(f8 H it k n:N)(Z:!N)(F:Fs)(Q:Po):Prop:=∀T C S a,Le F T->ay x aj 400 (iA w.z it) T [kI x w t f8 Z a,(w.z+1,bm C),(w.z+4,bm S),(it,cG (k+1) n),(w.z+3,bm<|.ref H)] Q
def PI(h:Rp F (dG [a,b]) v):∃z nw R d,v=.ref z/\F z (aa #[[.str #[#[a]] R,.str #[#[b]] d]] nw):=by rw[gV (dT.mp h) λz Q nw m c M=>?_];subst m;obtain⟨_,_,rfl,g,M⟩:=cq.mp M;obtain⟨_,_,rfl,Z,M⟩:=cq.mp M;obtain rfl:=er.mp M;obtain⟨R,rfl⟩:=c9.mp g;obtain⟨d,rfl⟩:=c9.mp Z;rw[va z nw R d rfl c]
def PJ(h:Rp F (dG [a,b,c]) v):∃z nw R d p,v=.ref z/\F z (aa #[[.str #[#[a]] R,.str #[#[b]] d,.str #[#[c]] p]] nw):=by rw[gV (dT.mp h) λz Q nw m e M=>?_];subst m;obtain⟨_,_,rfl,g,M⟩:=cq.mp M;obtain⟨_,_,rfl,Z,M⟩:=cq.mp M;obtain⟨_,_,rfl,S,M⟩:=cq.mp M;obtain rfl:=er.mp M;obtain⟨R,rfl⟩:=c9.mp g;obtain⟨d,rfl⟩:=c9.mp Z;obtain⟨p,rfl⟩:=c9.mp S;rw[vb z nw R d p rfl e]
def Eo(h:kB D):iQ am k D≠[]/\(iQ am k D).length<=50:=by
 rw[h.casesOn λn r=>?_];rcases yH n with⟨a,b,rfl⟩|⟨a,b,Z,rfl⟩
 .have c:=pY a<|dz am k/4
  have g:=pY b<|dz am k/4+1;have d:=(r a<|.head _).2;have e:=(r b<|.tail _<|.head _).2;show(cy a (dz am k/4)++32::cy b (dz am k/4+1))≠[]/\gR (cy a (dz am k/4)++32::cy b (dz am k/4+1))<=50;simp;rw[akQ c g d e]
 .have c:=pY a<|dz am k/4
  have f:=(r Z<|.tail _<|.tail _<|.head _).2;show(cy a (dz am k/4)++32::(cy b (dz am k/4+1)++32::cy Z (dz am k/4+1+1)))≠[]/\gR (cy a (dz am k/4)++32::(cy b (dz am k/4+1)++32::cy Z (dz am k/4+1+1)))<=50;simp;rw[akR c (pY b<|dz am k/4+1) (pY Z<|dz am k/4+1+1) ((r a<|.head _).2) ((r b<|.tail _<|.head _).2) f]
abbrev vM(v:N)(a b:!N):!N:=cy a (v/4)++32::cy b (v/4+1)
abbrev vP(v:N)(a b c:!N):!N:=cy a (v/4)++32::(cy b (v/4+1)++32::cy c (v/4+2))
def Pd(j:l≠[])(i:l.length<=100):∃P,iK #[l.map aO] (-1-ad (k%l.length)) (iN (dz (l.map (·.1)) k) P):=by unfold dz;rw[aU,];rw[aom (k%l.length) (bq k<|m7.mpr j) i]
def vZ(h:Wk a):(cy a n).length<=8:=b8 (pY a n).2<|oP h.2 3
def O5{s f:!N}(a:Wk s)(M:Wk f):nz (.type "list") #[[ah (cy s<|v/4) t,ah (cy f<|v/4+1) u]] #[#[[32]]] #[#[vM v s f]]:=aoq<|b8 (uH (vZ a)<|vZ M)<|ζ
def O6{s f g:!N}(a:Wk s)(M:Wk f)(X:Wk g):nz (.type "list") #[[ah (cy s<|v/4) t,ah (cy f<|v/4+1) u,ah (cy g<|v/4+2) r]] #[#[[32]]] #[#[vP v s f g]]:=aor<|b8 (uH (uH (vZ a)<|vZ M)<|vZ X)<|ζ
def mI:gj (ad v) 4 (ad<|v/4):=mH ζ ζ rfl
def HB:decide (0<ad (k+1))=true:=decide_eq_true<|Int.natCast_pos.mpr<|sr k
def OQ(h:D≠[])(a:D.length<=5000):fL #[#[D]] #[#[gE v]]:=ji h (yQ v).1<|afL a (yQ v).2
def OR(h:D≠[])(a:D.length<=5000)(hs:s≠[]/\s.length<=50):fL #[#[D++gE v]] #[#[s]]:=ji (List.append_ne_nil_of_left_ne_nil h _) hs.1 (by rw[cJ,];rw[alD a (yQ v).2 hs.2])
def aqw{f8 H it n b e tg z nw R d v P:N}{os:!af}{s f:!N}(j:l≠[])(i:l.length<=100)(I:F w.p (aa #[l.map aO] b))(m:F H (aa #[os] e))(c:os[0]? =some (.ref z))(o:F z (aa #[[ah s R,ah f d]] nw))(q:Wk s)(w2:Wk f)(L:iK #[l.map aO] (-1-ad (0%l.length)) (iN v P))(h:rZ x w t f8 H it 0 n (vM v s f) F Q):ay x aj 400 (iA w.z it) F [kI x w t f8 [] tg,(w.z+1,cE),(w.z+4,bm vk),(it,cG 0<|n+1),(w.z+3,bm<|.ref H)] Q:=iU (O:=[(w.p,aa #[l.map aO] b),(H,aa #[os] e),(z,aa #[_] nw)]) #[I,m,o,ab] λB K=>gZ 2 λS u J G A D E X=>bu (arN x) ab #[O5 q w2,mG w2,mI,gr c<|pH,mG q,mI,gr c<|pH,gr c<|pH,L,vL j,vK i,ab] rfl u<|.rs (L1:=[_,_,_])<|h _ _ _ _ λa Y U=>an a Y<|u a Y U
def aqx{f8 H it n b r tg z nw R d p v P:N}{os:!af}{s f g:!N}(j:l≠[])(i:l.length<=100)(I:F w.p (aa #[l.map aO] b))(m:F H (aa #[os] r))(c:os[0]? =some (.ref z))(o:F z (aa #[[ah s R,ah f d,ah g p]] nw))(q:Wk s)(w2:Wk f)(k:Wk g)(L:iK #[l.map aO] (-1-ad (0%l.length)) (iN v P))(h:rZ x w t f8 H it 0 n (vP v s f g) F Q):ay x aj 400 (iA w.z it) F [kI x w t f8 [] tg,(w.z+1,cE),(w.z+4,bm vk),(it,cG 0<|n+1),(w.z+3,bm<|.ref H)] Q:=iU (O:=[(w.p,aa #[l.map aO] b),(H,aa #[os] r),(z,aa #[_] nw)]) #[I,m,o,ab] λB K=>gZ 3 λS u J G A D E X M e y=>bu (arO x) ab #[O6 q w2 k,mG k,mI,gr c<|pH,mG w2,mI,gr c<|pH,mG q,mI,gr c<|pH,gr c<|pH,L,vL j,vK i,ab] rfl u<|.rs (L1:=[_,_,_])<|h _ _ _ _ λa Y U=>an a Y<|u a Y U
def aqy{f8 H it n b g tg z nw R d v P:N}{os:!af}{s f:!N}(j:l≠[])(i:l.length<=100)(I:F w.p (aa #[l.map aO] b))(m:F H (aa #[os] g))(e:os[(k+1)]? =some (.ref z))(o:F z (aa #[[ah s R,ah f d]] nw))(q:Wk s)(w2:Wk f)(L:iK #[l.map aO] (-1-ad ((k+1)%l.length)) (iN v P))(W:(vM v s f)≠[]/\(vM v s f).length<=50)(c:a6≠[])(M:a6.length<=5000)(r:k<100)(h:rZ x w t f8 H it (k+1) n (a6++gE v++(vM v s f)) F Q):ay x aj 400 (iA w.z it) F [kI x w t f8 a6 tg,(w.z+1,bm a7),(w.z+4,bm vk),(it,cG (k+1)<|n+1),(w.z+3,bm<|.ref H)] Q:=iU (O:=[(w.p,aa #[l.map aO] b),(H,aa #[os] g),(z,aa #[_] nw)]) #[I,m,o,ab] λB K=>gZ 2 λS u J G A D E X=>bu (arP x) #[HB,ab] #[OR c M W,O5 q w2,mG w2,mI,gr e<|rn r,mG q,mI,gr e<|rn r,gr e<|rn r,OQ c M,Qj v K,fX ζ rfl,L,vL j,vK i,ab] rfl u<|.rs (L1:=[_,_,_])<|h _ _ _ _ λa Y U=>an a Y<|u a Y U
def aqz{f8 H it n b C tg z nw R d p v P:N}{os:!af}{s f g:!N}(j:l≠[])(i:l.length<=100)(I:F w.p (aa #[l.map aO] b))(m:F H (aa #[os] C))(y:os[(k+1)]? =some (.ref z))(o:F z (aa #[[ah s R,ah f d,ah g p]] nw))(q:Wk s)(w2:Wk f)(T:Wk g)(L:iK #[l.map aO] (-1-ad ((k+1)%l.length)) (iN v P))(W:(vP v s f g)≠[]/\(vP v s f g).length<=50)(c:a6≠[])(M:a6.length<=5000)(r:k<100)(h:rZ x w t f8 H it (k+1) n (a6++gE v++(vP v s f g)) F Q):ay x aj 400 (iA w.z it) F [kI x w t f8 a6 tg,(w.z+1,bm a7),(w.z+4,bm vk),(it,cG (k+1)<|n+1),(w.z+3,bm<|.ref H)] Q:=iU (O:=[(w.p,aa #[l.map aO] b),(H,aa #[os] C),(z,aa #[_] nw)]) #[I,m,o,ab] λB K=>gZ 3 λS u J G A D E X Z e ac=>bu (arQ x) #[HB,ab] #[OR c M W,O6 q w2 T,mG T,mI,gr y<|rn r,mG w2,mI,gr y<|rn r,mG q,mI,gr y<|rn r,gr y<|rn r,OQ c M,Qj v K,fX ζ rfl,L,vL j,vK i,ab] rfl u<|.rs (L1:=[_,_,_])<|h _ _ _ _ λa Y U=>an a Y<|u a Y U
end
def ay.ud{x:Wd}{t:Mk}{b:N}{c:bj}{F:Fs}{L:ao}{Q d:Po}(g:ay x t b c F L Q)(h:∀r F' L',Le F F'->Q F' r L'->∃L2 R,L'.Perm (L2++R)/\d (fz F' L2) r R):ay x t b c F L d:=λw m s A C o=>
 jz (g w m s A C o) λr P e=>cp e λF' L' l H q=>by rw[nU (h r F' L' l q) λL2 R p a=>?_];have y:=H.perm<|p.append_right w;rw[bZ]at y;rw[bX (fz F' L2) R (cb l) y.u8 a]
section
variable{x:Wd}
inductive uQ (x:Wd) (w:jw) (t:j5) (f8 od:N) (pg:!N) (F':Fs):aL->ao->Prop
 |mk (tg vn vk):uQ x w t f8 od pg F' (.ok .next) [kI x w t f8 pg tg,(w.z+1,bm vn),(w.z+4,bm vk),(w.z+3,bm (.ref od))]
def afB{os:!af}(j:l≠[])(i:l.length<=100):∀{rest done k tg C vk Z F},F w.p (aa #[l.map aO] a8)->F a6 (aa #[os] a7)->aM F ((done++rest).map dG) os->(∀r∈rest,kB r)->done.length=k+1->k+rest.length<=80->Z≠[]->Z.length<=60*(k+1)->ay x aj 400 (iA w.z it) F [kI x w t f8 Z tg,(w.z+1,bm C),(w.z+4,bm vk),(it,cG (k+1) rest.length),(w.z+3,bm<|.ref a6)] (uQ x w t f8 a6<|fW (l.map (·.1)) (k+1) rest Z):=by
 intro rest;induction rest with
 |nil=>intro done k tg C vk Z F I m A y b c n M;rw[.perm (pm [[kI x w t f8 Z tg,(w.z+1,bm C),(w.z+4,bm vk)],[(it,cG (k+1) 0)],_] (.p (.a 0)<|.p (.a 1)<|.a 2) (.p (.a 1)<|.p (.a 0)<|.a 2) rfl)<|bJ (L:=[(it,cG (k+1) 0)]) (O:=[]) ab λB K=>bp (arY w.z it B K (k+1) x) ab ab (aV) #[tg,C,vk]]
 |cons o rest S=>
  intro done k tg C vk Z F I m A y b c n M;simp only[dM]at c;obtain⟨v,X,G⟩:=A.get (k+1) (x:=dG o) (by rw[<-b,bf,oM<|by simp];simp);have J:=y o<|.head _;have W:=Eo (am:=l.map (·.1)) (k:=k+1) J;have ac:=yQ<|dz (l.map (·.1))<|k+1;have h:rZ x w t f8 a6 it (k+1) rest.length (Z++gE (dz (l.map (·.1))<|k+1)++iQ (l.map (·.1)) (k+1) o) F (uQ x w t f8 a6<|fW (l.map (·.1)) (k+1) (o::rest) Z):=λT D u q Q=>by
   have e:done++o::rest=(done++[o])++rest:=by simp
   rw[S (Q _ _ I) (Q _ _ m) (e▸A.to Q) (λr U=>y r<|.tail _ U) (by simp[b]) (aj7 c) (by simp[n]) (by simp only[cJ];lia)]
  rw[dm (Pd (k:=k+1) j i) λP H=>?_];rcases yH J.1 with⟨s,f,rfl⟩|⟨s,f,g,rfl⟩
  .rw[lq (PI G) λz Y R d e E=>aqy j i I m (e▸X) E (J.2 s<|.head _) (J.2 f<|.tail _<|.head _) H W n (LG c M) (LH c) h]
  .rw[nV (PJ G) λz Y R d bb e E=>aqz j i I m (e▸X) E (J.2 s<|.head _) (J.2 f<|.tail _<|.head _) (J.2 g<|.tail _<|.tail _<|.head _) H W n (LG c M) (LH c) h]
def Zp{os:!af}(j:l≠[])(i:l.length<=100)(I:F w.p (aa #[l.map aO] a8))(m:F a6 (aa #[os] a7))(A:aM F ((K::rest).map dG) os)(y:∀r∈K::rest,kB r)(hk:rest.length<=70):ay x aj 400 (iA w.z it) F [kI x w t f8 [] tg,(w.z+1,cE),(w.z+4,bm vk),(it,cG 0<|rest.length+1),(w.z+3,bm<|.ref a6)] (uQ x w t f8 a6<|fW (l.map (·.1)) 0 (K::rest) []):=by
 rw[aJ (A.get 0 rfl) λv X G=>?_];have J:=y K<|.head _;have W:=Eo (am:=l.map (·.1)) (k:=0) J;have h:rZ x w t f8 a6 it 0 rest.length (iQ (l.map (·.1)) 0 K) F (uQ x w t f8 a6<|fW (l.map (·.1)) 0 (K::rest) []):=λT D u q Q=>by
  have e:fW (l.map (·.1)) 0 (K::rest) []=fW (l.map (·.1)) (0+1) rest (iQ (l.map (·.1)) 0 K):=by show fW _ 1 rest ([]++(if 0=0 then[]else _)++_)=_;rw[(if_pos rfl)▸?_];rfl
  rw[e▸afB (done:=[K]) j i (Q _ _ I) (Q _ _ m) (A.to Q) (λr U=>y r<|.tail _ U) rfl (aj8 hk) W.1 (by lia)]
 rw[dm (Pd (k:=0) j i) λP L=>?_];rcases yH J.1 with⟨s,f,rfl⟩|⟨s,f,g,rfl⟩
 .rw[lq (PI G) λz C R d e o=>aqw j i I m (e▸X) o (J.2 s<|.head _) (J.2 f<|.tail _<|.head _) L h]
 .rw[nV (PJ G) λz C R d p e o=>aqx j i I m (e▸X) o (J.2 s<|.head _) (J.2 f<|.tail _<|.head _) (J.2 g<|.tail _<|.tail _<|.head _) L h]
def apy:∀{l:!(List<|List N)} {vs},aM F (l.map dG) vs->∀v∈vs,∃a,v=.ref a:=by
 intro J;induction J with
 |nil=>intro _ g v X;rw[er.mp g]at X;cases X
 |cons q l C=>
  intro _ g v X;rw[cp (cq.mp g) λL c P b M=>?_];subst P;rw[je (dT.mp b) λa U U m U=>?_];subst m;rcases aY.mp X with rfl|X
  .rw[#[a,rfl]]
  .rw[C M v X]
def rS(g:!(!N)):Prop:=g=[]\/∃a b,g=[a,b]/\a≠[]/\a.length<=5/\b≠[]/\b.length<=5
def yk(o:a<=5)(y:0<b)(c:b<=5):nm a b≠[]/\(nm a b).length<=5:=by refine#[by unfold nm d9;simpa using AC (Mz y),?_];have:=qJ 5 (16*a+b)<|aj9 o c;unfold nm;rw[T8,];rw[this]
def apu(X:ws.length=3)(h:gk r):kB (fk ws r):=by
 obtain⟨R,S,d⟩:=r;rw[ek h λL p I=>?_];dsimp only at L p I;cases d with
 |none=>
  rw[#[.inl rfl,λa o=>?_]];simp only[fk,aY,cQ,or_false]at o;rcases o with rfl|rfl
  .rw[yk (C_ L p) (x_ L) p]
  .rw[⟨λh=>?_,by rw[aU,];rw[aj_ X]⟩]
   rw[FQ]at h;rw[h]at X;cases X
 |some E=>
  rw[ct (I E rfl) λb g=>#[.inr rfl,λa o=>?_]];simp only[fk,aY,cQ,or_false]at o;rcases o with rfl|rfl|rfl
  .rw[yk (C_ L p) (x_ L) p]
  .rw[yk (Dm p g) (x_ L) p]
  .rw[yk (C_ L p) (x_ b)<|Dm p g]
def apt(L:rS D)(h:D≠[]):kB D:=by
 rcases L with rfl|⟨a,b,rfl,o,k,y,c⟩
 .rw[absurd rfl h]
 .rw[⟨.inl rfl,λZ d=>?_⟩]
  simp only[aY,cQ,or_false]at d;rcases d with rfl|rfl
  .rw[#[o,k]]
  .rw[#[y,c]]
set_option tactic.hygienic true in
def PL(X:3<=am.length)(m:∀r∈G,gk r)(L:rS D):∀r∈pW am G D,kB r:=λr H=>by
 rcases ej.mp H with H|H
 .rw[aJ (bn.mp H) λq u P=>?_]
  subst P;rw[apu (by simp;lia)<|m q u]
 .split at H
  .rw[nomatch H]
  .rename_i U
   rw[(iy.mp H)▸apt L U]
abbrev oH(w:jw)(k:N)(c:Obj):aH×Obj:=(w.z+k,c)
def arj(j:l≠[])(i:l.length<=100)(I:F p (aa #[l.map aO] a7))(d:rs.length=9)(A:aM F (a6.map dG) (nX q e rs).toList)(bb:∀q∈a6,kB q)(O:Le F0 F):Go x aj 500 F0 (QT<|fW (l.map (·.1)) 0 (rz (l.map (·.1)) a6) []) F [] (DJ p r e sz tk J G nl D a8 ne t vl rs q x):=by
 have bo:lA q 8<=9:=by cases q with
  |none=>rw[ζ]
  |some y=>rw[d7 9]
 have X:(nX q e rs).toList.length=lA q 8+1:=by cases q with
  |none=>rw[d]
  |some y=>rw[(Array.size_push<|.ref e).trans<|congrArg (·+1) d]
 rw[bP (Z:=[oH (gF p r e sz tk J G) 1 cE,oH (gF p r e sz tk J G) 2<|bm vl]) (arK q x) ab #[#[#[py,show(nX q e rs).toList.length<=16777216 by lia],congrArg ad X],by cases q with
  |none=>trivial
  |some y=>rw[#[fY<|by lia,ab]]] (.refl _) ((Zo (w:=(gF p r e sz tk J G)) j i X (by lia) (apy A) (an _ _ I)<|bc<|.head _).le ζ λ_ _ _ _ U=>U) λres K g s R=>?_]
 rw[R.casesOn λS E=>?_];have L:=bN s;have H:(hG (l.map (·.1)) 0 (nX q e rs).toList []).length=lA q 8+1:=(OJ ..).trans X;have W:aM K ((rz (l.map (·.1)) a6).map dG) (hG (l.map (·.1)) 0 (nX q e rs).toList []):=alw dG (l.map (·.1)) a6 [] 0▸(A.to L).order 0 aM.nil;have Y:∀q∈rz (l.map (·.1)) a6,kB q:=λq u=>(alz _ _ _ _ _ u).elim (bb q) λU=>(cQ U).elim;have m:(rz (l.map (·.1)) a6).length=lA q 8+1:=(OJ ..).trans<|(aU dG).symm.trans<|A.length.symm.trans X;generalize rz (l.map (·.1)) a6=ord at*;generalize hG (l.map (·.1)) 0 (nX q e rs).toList []=os at*;have B:ord≠[]:=λU=>by rw[U]at m;cases m
 rw[fU (jT B) λo Q bl=>?_];subst bl;have n:=qz m;have P:=λM b=>Zp (x:=x) (w:=(gF p r e sz tk J G)) (t:=t) (f8:=b+1) (it:=M+1) (tg:=b) (vk:=S) (F:=fz K [(D+1,aa #[os] E)]) j i (an _ _<|L _ _ I) (bc<|.head _) (W.to an) Y (by lia);rw[n]at P;refine#[_,[],pm [[oH (gF p r e sz tk J G) 4<|bm S],[(D+1,aa #[os] E)],[gM x (gF p r e sz tk J G) t],_,[oH (gF p r e sz tk J G) 1 cE],_] (.p (.p (.a 0)<|.p (.a 1)<|.p (.a 2)<|.a 3)<|.p (.a 4)<|.a 5) (.p (.p (.a 2)<|.p (.a 4)<|.p (.a 5)<|.p (.a 3)<|.p (.a 0)<|.a 1) .z) rfl,_,_,[],ab,λM b=>bP (Z:=[oH (gF p r e sz tk J G) 2<|bm vl]) (arL q x) ab ⟨⟨⟨py,show os.length<=16777216 by lia⟩,congrArg ad H⟩,ab⟩ (.refl _) ((P M b).le ζ λ_ _ _ _ U=>U) λres T f h R=>?_];rw[R.casesOn λac C bs=>#[[kI x (gF p r e sz tk J G) t (b+1) (fW (l.map (·.1)) 0 (o::Q) []) ac],_,.refl _,_,_,[],ab,λc k=>bp (arM x) ab ab (dP (cb<|dP O L) h) #[ac]]]
inductive GC (x:Wd) (cl ac:N) (l:!(N×N)) (F':Fs):aL->ao->Prop
 |mk (y na) (us:!(!N×N)) (h1:us.map (·.1)=(l.map λp=>fv p.1)) (h2:F' ac (aa #[us.map ax] na)):GC x cl ac l F' (.ok .next) [fH x cl (some y)]
def VV{z H it ac f ns na:N}(hs:F f (aa #[l.map aO] ns))(j:l≠[])(i:l.length<=100):ay x aj 350 (i_ mj 0 (.ref it) (.ref ac)<|wi z H) F [(it,ba f 0),(ac,aa #[[]] na),(H,ak [] 0)] (GC x H ac l):=
 (VU hs j i).ud λr T h U q=>by rw[q.casesOn λy na a M=>j9 _ _ (r_ (l₁:=[fH x H<|some y])) #[y,na,a,M,bc<|.head _]]
def alA(j:l≠[])(X:3<=l.length)(i:l.length<=100)(A:∀q∈(a7,hi,some m)::rest,gk q)(L:rS a6)(B:Le F U)(I:U p (aa #[l.map aO] a8))(b:U e (aa #[es] ne))(M:aM U (a6.map .str) es)(y:rs.length=9)(f:aM U ((((a7,hi,some m)::rest).map<|fk<|((l.map (·.1)).take 3).map fv).map dG) rs):qA x aj 500 F (QT<|pP (l.map (·.1)) ((a7,hi,some m)::rest) a6) (xU x sz) [(sz+1,cE),(sz+3,cE),(sz+4,cE)] (.ok .next) U [gM x (gF p r e sz tk J G) t,(sz+2,bm vl),(J,aa #[rs] nl)]:=by
 have h:∀q,es=By q->aM U ((pW (l.map (·.1)) ((a7,hi,some m)::rest) a6).map dG) (nX q e rs).toList->qA x aj 500 F (QT<|pP (l.map (·.1)) ((a7,hi,some m)::rest) a6) (xU x sz) [(sz+1,cE),(sz+3,cE),(sz+4,cE)] (.ok .next) U [gM x (gF p r e sz tk J G) t,(sz+2,bm vl),(J,aa #[rs] nl)]:=λq K O=>#[_,[],pm [[gM x (gF p r e sz tk J G) t],[oH (gF p r e sz tk J G) 2<|bm vl],_,[oH (gF p r e sz tk J G) 1 cE],[oH (gF p r e sz tk J G) 3 cE],_] (.p (.p (.a 0)<|.p (.a 1)<|.a 2)<|.p (.a 3)<|.p (.a 4)<|.a 5) (.p (.p (.a 0)<|.p (.a 3)<|.p (.a 1)<|.p (.a 4)<|.p (.a 5)<|.a 2) .z) rfl,_,_,[(e,aa ⟨By q⟩ ne)],⟨K▸b,ab⟩,λD E=>arj j i I y O (PL (by rw[aU,];rw[X]) A L) B]
 rcases L with rfl|⟨u,d,rfl,s,k,w,c⟩
 .rw[h none (er.mp M) ?_]
  rw[pW,if_pos rfl,bQ];rw[f]
 .obtain⟨_,_,rfl,g,M⟩:=cq.mp M
  obtain⟨_,_,rfl,Z,M⟩:=cq.mp M;obtain rfl:=er.mp M;obtain⟨n,rfl⟩:=c9.mp g;obtain⟨o,rfl⟩:=c9.mp Z;rw[h (some (u,n,d,o)) rfl ?_];rw[pW,if_neg<|dl _ _,bf];rw[(congrArg Fe<|km rs<|.ref e).symm▸f.push (PN b)]
def aq9(X:3<=am.length)(i:am.length<=100)(ac:rest.length=8)(bb:∀q∈(a7,hi,some m)::rest,gk q)(L:rS a6){au rs es:!af}(I:F p (aa #[au] a8))(t:aM F (am.map gm) au)(bl:F r (aa #[rs] nr))(c:aM F (((a7,hi,some m)::rest).map d5) rs)(ca:F e (aa #[es] ne))(M:aM F (a6.map .str) es):ay x aj 500 (.call (.ref 886) #[[.ref p,.ref r,.ref e],[]]) F [] (QS<|pP am ((a7,hi,some m)::rest) a6):=by
 rw[aJ (Es t) λl k P=>?_];subst k;subst P;rw[aU]at X i;have j:l≠[]:=λU=>by rw[U]at X;cases X
 rw[ay.post (Q:=QT<|pP (l.map (·.1)) ((a7,hi,some m)::rest) a6) ?_ λr T h _ q=>(by rw[q.casesOn @λD h=>j9 [] h (.refl _) #[D]])]
 have A:=λE W b=>arI E W p r e a8 (l.map aO) x b;rw[(DY (by rw[aU,];rw[X])).trans (r9 ..).symm]at A;have c0:((l.take 3).map λp=>fv p.1)=((l.map (·.1)).take 3).map fv:=by rw[<-r9,bI];rfl
 refine fq (O:=[(p,aa #[l.map aO] a8)]) #[I,ab] λB K=>bP (Lc:=[(B+7,ba (B+6) 0),(B+8,aa #[[]] 0),(B+9,ak [] 0)]) (A B K) ab #[fY (by rw[aU,];rw[aka i]),ab] (.refl _) ((VV (bc<|.head _) (λU=>by have:=congrArg gR U;rw[r6,sk X]at this;cases this) (by rw[r6,];lia)).le ζ λ_ _ _ _ U=>U) λres S c3 u q=>?_;rw[q.casesOn λy C c1 f b0=>?_];have g:=bN u;have ck:Ws S (B+8) (((l.map (·.1)).take 3).map fv):=by
  simp only[c0]at f;rw[#[λa o=>?_,?_]]
  .rw[aJ (bn.mp o) λn _ P=>?_]
   subst P;rw[asm n]
  .have ch:c1.length=3:=by have:=congrArg gR f;simp at this;lia
   rw[Bo (HX ch) λbo bs d bt=>?_];subst bt;rw[Jr bo.1 bs.1 d.1 bo.2 bs.2 d.2 C f.symm b0]
 rw[#[_,[],r_,_,_,[(r,aa #[rs] nr)],#[g _ _ bl,ab],λJ G=>bP (Z:=[(B+1,cE),(B+3,cE),(B+4,cE)]) (arJ B K J G y.1 p r e nr rs y.2 x) ab ab (.refl _) ((Zq (w:=gF p r e B K J G) (an _ _<|g _ _ bl) (c.to λa Y U=>an a Y<|g a Y U) bb (ck.to an)<|akb ac).le ζ λ_ _ _ _ U=>U) λres c2 c4 H q=>?_]];rw[q.casesOn λD da s c5 R=>?_];have z:=dP (cb g) H;rw[alA j (akd X) i bb L z (z _ _ I) (z _ _ ca) (M.to z) (by have:=R.length;simp only[aU,dM]at this;rw[akc ac this]) R]
end
def mx:!N->N
 |[]=>0
 |a::l=>zQ a<|mx l
def yf:∀{l a},a∈l->a<=mx l
 |b::l,a,U=>by
  rcases aY.mp U with rfl|U
  .rw[Nat.le_max_left _ _]
  .rw[b8 (yf U)<|Nat.le_max_right _ _]
def yg:∀{l},(∀a∈l,a<=m)->mx l<=m:=by
 intro J;induction J with
 |nil=>intro _;rw[dw _]
 |cons b l C=>intro U;rw[Nat.max_le.mpr #[U b<|.head _,C λa q=>U a<|.tail _ q]]
def alW(hi:i<l.length)(h:∀j,j<l.length->l.getD j 0<=l.getD i 0):l.getD i 0=mx l:=by
 rw[F9 ?_ ?_]
 .rw[hV,eG hi]
  rw[yf<|m6 hi]
 .rw[yg λa o=>?_]
  obtain⟨j,D,rfl⟩:=FR.mp o;have:=h j D;rw[hV,eG D]at this;rw[this]
def GW(c:l≠[]):∃i,argBest (λi j=>decide<|ad (l.getD i 0)>ad (l.getD j 0)) (l.length-1)=i/\i<l.length/\l.getD i 0=mx l:=by have a:=m7.mpr c;obtain⟨b,M⟩:=argBest_gt (λi=>ad<|l.getD i 0)<|l.length-1;rw[en _ rfl (MA a b)<|alW (MA a b) λj D=>(oK.mp<|M j<|aiW a D)]
section
variable{x:Wd} {F:Fs} {L X:ao} {A:dW} {D s:aN} {R:aL->Fs->ao->Prop}
def amj{l:!(N×N)}(i):numAt (l.map λp=>(ad p.1,p.2)).toArray i=ad ((l.map (·.1)).getD i 0):=by
 simp only[numAt_eq];simp only[bI,hV,hV,fi,fi]
 cases l[i]? <;>rfl
def Ya(j:l≠[])(O:A.handled=.none)(T:bg x F X D s)(I:F p (aa #[l.map aO] n))(f:∀t,R (.ok<|.ret<|.int (ad<|mx<|l.map (·.1)) t) F []):fh (aE pw x.W) A (.call (.builtin "max") ⟨[.ref p],[]⟩) (λr P=>∃F' L',Le F F'/\bg x F' (L'++X) D P/\R r F' L') s:=by
 have o:s.heap.IsList p (vc (l.map λp=>(ad p.1,p.2)).toArray):=en _ (T.rep.fr _ _ I) rfl #[n,by simp only[aa,vc];congr 1;rw[hU<|by simp[aO]]]
 have d:=m7.mpr j;rw[gL (lr (E:=λJ J=>False) (Q:=λv P=>∃z K t,(∀b Y,s.heap.get? b=some Y->z.get? b=some Y)/\P={s with heap:=z,toks:=K}/\v=.int (ad<|mx<|l.map (·.1)) t)<|max_intList O o (by simpa using d) λv z K a c=>?_) λr P U=>?_]
 .obtain⟨i,S,G,H⟩:=GW (l:=l.map (·.1)) (by simpa using j)
  simp only[amj]at a;rw[aU]at S G;simp only[show(l.map λp=>(ad p.1,p.2)).toArray.size-1=l.length-1 by simp,S]at a;rw[H▸(gC z K ((l[i]).2) c rfl ?_)];have e:(vc (l.map λp=>(ad p.1,p.2)).toArray)[i]? =some (.int (ad (l[i]).1) (l[i]).2):=by simp[vc,G]
  rw[e]at a;cases a;simp only[hV,fi,eG G];rfl
 .split at U
  .rw[gV U λz K t c k Z=>?_]
   subst k;subst Z;rw[bX F [] aV (T.kept c)<|f _]
  .rw[U.elim]
  .rw[U.elim]
def A9{h:ix}(t:h.get? d=some (ak (aB x.P es) n))(nd:(es.map (·.1)).Nodup):h.DictAt (rN pw x.W) d (es.map λe=>((#[#[e.1]]:aA),e.2.2)) n:=by
 rw[aaY _ #[aB x.P es] t #[rfl,rfl,rfl] rfl ?_ ?_ ?_]
 .intro e c
  obtain⟨q,_,rfl⟩:=bn.mp (by simpa[aB]using c:e∈es.map λe=>V x.P #[#[e.1]] e.2.1 e.2.2);rw[bA #[#[q.1]] vd rfl]
 .show Pairs (rN pw x.W) (aB x.P es) _
  clear t nd;induction es with
  |nil=>rw[.nil]
  |cons e es C=>rw[Pairs.cons vd rfl C]
 .rw[bI,]
  have:(es.map ((λp=>p.1)∘λe:De=>(#[#[e.1]],e.2.2)))=(es.map (·.1)).map λj=>(#[#[j]]:aA):=by rw[bI,];rfl
  rw[this,];rw[List.Pairwise.map _ (λa b h e=>h (by cases e;rfl)) nd]
def Yb{l:!(!N×N×(N×N))}(j:l≠[])(O:A.handled=.none)(T:bg x F X D s)(hv:F v #[.type "dict_values",none,.fields #[[.ref d]],#[[]]])(h:F d (ak (aB x.P<|l.map λe=>(e.1,e.2.1,aO e.2.2)) n))(nd:(l.map (·.1)).Nodup)(f:∀t,R (.ok<|.ret<|.int (ad<|mx<|l.map λe=>e.2.2.1) t) F []):fh (aE pw x.W) A (.call (.builtin "max") #[[.ref v],[]]) (λr P=>∃F' L',Le F F'/\bg x F' (L'++X) D P/\R r F' L') s:=by
 have H:=A9 (T.rep.fr _ _ h) (by simp only[bI];rw[nd]);have g:=T.rep.fr _ _ hv;rw[gL (lr (E:=λJ J=>False) (Q:=λr P=>∃z K t,(∀b Y,s.heap.get? b=some Y->z.get? b=some Y)/\P={s with heap:=z,toks:=K}/\r=.int (ad<|mx<|l.map λe=>e.2.2.1) t)<|call_max_walk<|wpAny_pyIter_values (en _ g rfl rfl) H ?_) λr P U=>?_]
 .have B:=lZ<|iI<|T.rep.fr _ _ h
  rw[aa4 s.heap.objs.size _ _ _ _ _ _ rfl (Walks.dictValues (A:=A.in1) O s.heap.objs.size d B _ n) #[en _ (rU _ rfl) rfl rfl,H.push _] ?_ (by simpa using(m7.mpr j)) (CmpOf.ints_gt (λi=>ad<|(l.map λe=>e.2.2.1).getD i 0) λi v L=>dm L λo e=>?_) λv z K #[o,e] c=>?_]
  .intro b y
   simp only[zw];have:=iI<|T.rep.fr _ _ h;simp only[aY,cQ,or_false]at y;rcases y with rfl|rfl
   .rw[zO _]
   .rw[zN this]
  .simp only[fi,fi,Option.map_map]at e
   cases C:l[i]?with
   |none=>rw[C]at e;cases e
   |some q=>rw[C]at e;cases e;rw[#[q.2.2.2,?_]];simp only[hV,fi,C];rfl
  .obtain⟨i,S,G,m⟩:=GW (l:=l.map λe=>e.2.2.1) (by simpa using j)
   rw[aU]at S G;simp only[show(ql (λe:De=>((#[#[e.1]]:aA),e.2.2))<|l.map λe=>(e.1,e.2.1,aO e.2.2)).length-1=l.length-1 by simp,S]at e;simp only[fi,fi,eG G]at e;cases e;simp only[<-m,hV,fi,eG G];rw[gC z K ((l[i]).2.2.2) (λb Y y=>(c b Y (λa=>?_)<|kW _ y)) rfl rfl];have:=iI y;rcases aY.mp a with rfl|a
   .rw[ni _ this]
   .cases a
 .split at U
  .rw[gV U λz K t c k Z=>?_]
   subst k;subst Z;rw[bX F [] aV (T.kept c)<|f _]
  .rw[U.elim]
  .rw[U.elim]
end
abbrev b4:=List<|List N×!(!N)
abbrev fM:=List<|List N×N
def cU:N×N×Option N->!N×!(!N)
 |(R,S,none)=>(nm R S,[])
 |(R,S,some E)=>(nm R S,[nm E S,nm R E])
def gT(w:b4)(a b:!N):b4:=w.map λp=>if p.1=a then(p.1,p.2++[b])else p
def cZ(n:c6)(g:!(!N)):b4:=match g with
 |[a,b]=>gT (n.map cU) a b
 |_=>n.map cU
def rM(w:b4)(s:fM):fM:=w.map λp=>(p.1,mx (0::p.2.map λY=>(aZ s Y).getD 0+1))
def bY(w:b4):N->fM
 |0=>w.map λp=>(p.1,0)
 |n+1=>rM w<|bY w n
def hI(am:!N)(R hi:N):N:=((am.take 3).map λn=>n%16^5/16^R%16^(hi-R)).sum
def gK(am:!N)(R hi:N):!(!N×N):=[0,1,2].map λa=>((d9<|16^(hi-R)+(hI am R hi+a)%16^(hi-R)).drop 1,(hI am R hi+a)/16^(hi-R))
def dy(am:!N)(s:fM)(n:c6):!(!N×!(!N×N)):=n.flatMap λr=>if(aZ s<|nm r.1 r.2.1).getD 0<9 then[(nm r.1 r.2.1,gK am r.1 r.2.1)]else[]
def lm(am:!N):N:=((am.take 3).map λn=>n%16^5).sum
section
abbrev aC(v:Option af):Obj:=#[.type "cell",none,.cell v,#[[]]]
abbrev eS(d:N)(i z l:Int):Obj:=#[.type "dict_keyiterator",none,.fields #[[.ref d,.int i 0,.int z 0,.int l 0]],#[[]]]
abbrev gw(z k it ac H:N):bj:=i_ ll k (.ref it) (.ref ac)<|fO ll k (xl z) H
abbrev cc(z k it ac H:N):bj:=fQ ll k (.ref it) (.ref ac)<|fO ll k (xl z) H
abbrev HG(z H:N):aX:=fO ll 4 (xl z) H
abbrev Et(z H it ac a:N):bj:=i_ ll 5 (.ref it) (.ref ac)<|fO ll 5 (HG z H) a
abbrev ou(z H it ac a:N):bj:=fQ ll 5 (.ref it) (.ref ac)<|fO ll 5 (HG z H) a
abbrev dZ(z k it:N):bj:=bL ll k (.ref it)<|xl z
structure gB where
 z:N
 p:N
 r:N
 e:N
 f0:N
 f1:N
 f2:N
structure iL where
 f3:N
 f4:N
 v3:af
 v4:af
abbrev sS(x:Wd)(w:gB)(W:!bv):!bv:=V x.P cW w.f0 (.ref w.p)::V x.P cY w.f1 (.ref w.r)::V x.P fo w.f2 (.ref w.e)::W
abbrev gW(x:Wd)(w:gB)(t:iL)(W:!bv):!bv:=sS x w (V x.P dh t.f3 t.v3::V x.P di t.f4 t.v4::W)
abbrev xA(x:Wd)(w:gB):aH×Obj:=(w.z,az (sS x w []) 3)
abbrev ge(x:Wd)(w:gB)(t:iL):aH×Obj:=(w.z,az (gW x w t []) 5)
abbrev Ia(x:Wd)(w:gB)(q:Option iL):aH×Obj:=q.rec (xA x w)<|ge x w
abbrev aqL(q:Option iL)(a b:N)(v3 v4:af):iL:=q.rec #[a,b,v3,v4] λD=>#[D.f3,D.f4,v3,v4]
abbrev dN(x:Wd)(H:N):Option (N×af)->aH×Obj
 |none=>(H,ak [] 0)
 |some p=>(H,ak [V x.P d6 p.1 p.2] 1)
variable(P:PP)
variable(w:gB) (t:iL) (p r e nr sz tk z f0 f1 f2 K it k a y ca ch a7 hi d0 d1 d2 m ea eb ec tf ed D a6 ef J c1 da nw b0 t4 f3 f4 ne c0 dt d3 du ac bb na kt bt ns n f5:N) (rs ws U:!af) (vo c2:Option af) (dx dV a8 dd ds c3:!N) (G bs:!bv) (v3 v4 ck v5:af) (bo z0 bl:Int) (x:Wd) (Y db eg eh:ao)
def Nu:av:=ex x aj 600 (.fn 908 #[[.ref p,.ref r,.ref e],[]])<|cf [] sz tk (H 0x5d21225445c30) [] [(r,aa #[rs] nr)] Y
def CE(x:Wd)(sz:N):Ko:=(Nu 0 0 0 0 sz 0 [] x []).resume
def Ht:∀(x:Wd) Y,Ev (Nu p r e nr sz tk rs x Y) Y [7,0,2,6,3,4,5,1] (.pend 597 aj (dZ sz 1<|sz+7)<|CE x sz) ([((sz+7),ba r 0),(sz,az [V x.P cW tk<|.ref p,V x.P cY (tk+1)<|.ref r,V x.P fo (tk+2)<|.ref e] 3),((sz+2),aC none),((sz+6),ak [] 0)]++[((sz+3),aC none),((sz+4),aC none),((sz+5),aC none)]) [((sz+1),aC<|some<|.ref<|sz+6)] [] []:=cS
section
variable{P w t p r e nr sz tk z f0 f1 f2 K it k a y ca ch a7 hi d0 d1 d2 m ea eb ec tf ed D a6 ef J c1 da nw b0 t4 f3 f4 ne c0 dt d3 du ac bb na kt bt ns n f5 rs ws U vo c2 dx dV a8 dd ds c3 G bs v3 v4 ck v5 bo z0 bl}
def Wa:∀d (x:Wd) Y,Ev (fE P 0 [ph (pS dx) [0,1,2,6,7,8] (H 0x51a6088c99850ad099850ad099850ad099a0666b66161677771) [],ph (pS dV) [0,1,2,3,4,5] (H 0x51541860888888d66b66161677771) [],#[pS a8,[0,1,2,4],[],[],1,1,H 0x7671f077,[]]] [(D,a6,ed),(J,c1,ef),(b0,t4,da)]<|ex x aj 590 (.code<|dZ w.z 1 it)<|cf [Ia x w d,(w.z+2,aC vo),(it,ba w.r k)] sz tk (bif x.b2 then(H 0xdf09d0)else(H 0xdf0991999d0)) [.ref a] [(w.r,aa #[rs] nr),(a,aD [iN a7 ca,iN hi ch,.ref y]),(y,aa #[[.ref d1,.ref d2]] d0),(d1,aD [iN m ea,iN hi eb]),(d2,aD [iN a7 ec,iN m tf]),(w.z+1,aC<|some<|.ref K)] ((K,ak G nw)::Y)) Y [0,1,2,4,3] (.next<|dZ w.z 1 it) [ge x w<|aqL d tk (tk+1) (iN hi ch)<|.ref y,((w.z+2),aC<|some<|iN a7 ca),(it,ba w.r<|k+1),(K,ak (G++[V x.P #[#[a8]] da<|.ref<|sz+4])<|nw+1),((sz+4),aa #[[ah dx ed,ah dV ef]] 2)] [] [] [jW (aI "dict") G #[#[a8]],P 589 aj (.call (.ref 860) #[[iN a7 ca,iN hi ch],[]]) []<|pS a8,P 588 aj (.call (.ref 860) #[[iN a7 ec,iN m tf],[]]) []<|pS dV,P 588 aj (.call (.ref 860) #[[iN m ea,iN hi eb],[]]) []<|pS dx,df #[rs] (ad k)<|aF a]:=gd
def Wb:∀(x:Wd) Y,Ev (fE P 0 [#[pS a8,[0,1,2,7],[],[],1,1,H 0x7671f077,[]]] [(b0,t4,da)]<|ex x aj 590 (.code<|dZ w.z 1 it)<|cf [(w.z,az (gW x w t []) 5),(w.z+2,aC vo),(it,ba w.r k)] sz tk (bif x.b2 then(H 0x51541ecc0c099b9919199d0)else(H 0x51541ecc0c099b99191ad099d0)) [.ref a] [(w.r,aa #[rs] nr),(a,aD [iN a7 ca,iN hi ch,.ref y]),(y,aa #[[]] d0),(w.z+1,aC<|some<|.ref K)] ((K,ak G nw)::Y)) Y [0,1,2,4,3] (.next<|dZ w.z 1 it) [ge x w #[t.f3,t.f4,iN hi ch,.ref y],((w.z+2),aC<|some<|iN a7 ca),(it,ba w.r<|k+1),(K,ak (G++[V x.P #[#[a8]] da<|.ref<|sz+4])<|nw+1),((sz+4),aa #[[]] 0)] [] [] [jW (aI "dict") G #[#[a8]],P 589 aj (.call (.ref 860) #[[iN a7 ca,iN hi ch],[]]) []<|pS a8,df #[rs] (ad k)<|aF a]:=bB
def WC:∀d (x:Wd) Y,Ev (ex x aj 590 (.code<|cc z 1 it ac bb)<|cf [(it,eS K bo z0 bl),(ac,aa #[U] na),dN x bb d] sz tk (H 0x5483339c0) [ah c3 kt] [(K,ak G nw)] Y) Y [0,1,2,3] (.next<|cc z 1 it ac bb) [(it,#[.type "dict_keyiterator",none,.fields #[[.ref K,.int (bo+1) 0,.int (z0) 0,.int (bl) 0]],#[[]]]),(ac,aa ((ar U).push<|aF sz)<|na+1),dN x bb<|some (fC d tk,ah c3 kt)] [(sz,aD [ah c3 kt,.int (0)<|tk+1])] [] [cm #[U],gS true (aI "dict_keyiterator") (aI "dict") G nw bo z0 bl<|ah c3 kt]:=gd
end
def W9:Ev (ex x aj 590 (.code<|dZ z 1 it)<|cf [(it,ba r k)] sz tk (H 0xa70) [] [(r,aa #[rs] nr)] Y) Y [] (.res<|.ok .next) [] [] [] [h_ #[rs]<|ad k]:=by kernel_rfl
def Dx:av:=CE x sz (.ok .next)<|cf [(sz,az [V x.P cW tk<|.ref p,V x.P cY (tk+1)<|.ref r,V x.P fo (tk+2)<|.ref e,V x.P dh f3 v3,V x.P di f4 v4] 5)] D a6 (H 0x53bbbb1bba11125) [] [(e,aa #[[]] ne),(sz+1,aC<|some<|.ref<|sz+6),(sz+6,ak G nw)] db
def CF(x:Wd)(sz:N)(J:N):Ko:=(Dx 0 0 0 sz 0 J 0 0 0 0 0 [] .none .none x []).resume
def Wc:∀(x:Wd) c,Ev (Dx p r e sz tk D a6 nw f3 f4 ne G v3 v4 x c) c [2,3,4,0] (.pend 597 aj (gw sz 1 (D+1) (D+2)<|D+3)<|CF x sz D) ([((D+1),eS (sz+6) 0 (G.length:Int)<|ad nw),((D+2),aa #[[]] 0),((D+3),ak [] 0)]++[(sz,az [V x.P cW tk<|.ref p,V x.P cY (tk+1)<|.ref r,V x.P fo (tk+2)<|.ref e,V x.P dh f3 v3,V x.P di f4 v4] 5)]) [] [] []:=bB
def Nv:av:=CE x sz (.ok .next)<|cf [(sz,az [V x.P cW tk<|.ref p,V x.P cY (tk+1)<|.ref r,V x.P fo (tk+2)<|.ref e,V x.P dh f3 v3,V x.P di f4 v4] 5),(c0,aa #[ws] dt)] D a6 (H 0x56bbbb1bba115482212225a90ab1c0bbb2212225a125) [.ref c0] [(e,aa #[[ah dd d3,ah ds du]] ne),(sz+1,aC<|some<|.ref<|sz+6),(sz+6,ak G nw)] db
def We:∀(x:Wd) c,Ev (Nv p r e sz tk D a6 nw f3 f4 ne c0 dt d3 du ws dd ds G v3 v4 x c) c [3,4,5,0,1] (.pend 597 aj (gw sz 1 (D+1) (D+2)<|D+3)<|CF x sz D) ([((D+1),eS (sz+6) 0 (G.length:Int)<|ad nw),((D+2),aa #[[]] 0),((D+3),ak [] 0)]++[(sz,az [V x.P cW tk<|.ref p,V x.P cY (tk+1)<|.ref r,V x.P fo (tk+2)<|.ref e,V x.P dh f3 v3,V x.P di f4 v4] 5)]) [(c0,aa ((ar ws).push<|ah ds du)<|dt+1)] [] [cm #[ws],cR (aI "dict") G #[#[dd]]<|aF c0]:=bB
def WB:∀(x:Wd) Y,Ev (ex x aj 590 (.code<|gw z 1 it ac bb)<|cf [(it,eS K bo z0 bl)] sz tk (bif x.b2 then[]else(H 0xb50)) [] [] Y) Y [0] (.next<|cc z 1 it ac bb) [(it,eS K bo z0 bl)] [] [] []:=bB
def WA:Ev (ex x aj 590 (.code<|cc z 1 it ac bb)<|cf [(it,eS K bo z0 bl)] sz tk (H 0x8c0) [] [(K,ak G nw)] Y) Y [] (.res<|.ok .next) [] [] [] [qC true (aI "dict_keyiterator") (aI "dict") G nw bo z0 bl]:=by kernel_rfl
def Dy:av:=CF x sz D (.ok .next)<|cf [(sz,az [V x.P cW tk<|.ref p,V x.P cY (tk+1)<|.ref r,V x.P fo (tk+2)<|.ref e,V x.P dh f3 v3,V x.P di f4 v4] 5),((D+2),aa #[U] na),((D+3),ak [V x.P d6 bt ck] 1)] J c1 (H 0xd30) [] [] eg
def Ki(x:Wd)(sz:N)(J:N)(D:N):Ko:=(Dy 0 0 0 sz 0 J D 0 0 0 0 0 [] .none .none .none x []).resume
def Wf:∀(x:Wd) f,Ev (Dy p r e sz tk D J c1 f3 f4 na bt U v3 v4 ck x f) f [6,3,0,1] (.pend 593 aj (.builtin "dict.update.loop" #[[.ref J,.ref<|J+3,.int 0 0,.none],[]])<|Ki x sz D J) ([((J+3),c7 (D+2) 0),(J,ak [] 0)]++[(sz,az [V x.P cW tk<|.ref p,V x.P cY (tk+1)<|.ref r,V x.P fo (tk+2)<|.ref e,V x.P dh f3 v3,V x.P di f4 v4] 5)]) [((D+2),aa #[U] na)] [] []:=bB
def Dz:av:=Ki x sz D J (.ok<|.ret .none)<|cf [(sz,az [V x.P cW tk<|.ref p,V x.P cY (tk+1)<|.ref r,V x.P fo (tk+2)<|.ref e,V x.P dh f3 v3,V x.P di f4 v4] 5),((sz+3),aC c2),(J,ak bs ns)] b0 t4 (H 0x57aa01aa016611144) [] [] eh
def Kj(x:Wd)(sz:N):Ko:=(Dz 0 0 0 sz 0 0 0 0 0 0 0 0 none [] .none .none x []).resume
def Wg:∀(x:Wd) i,Ev (Dz p r e sz tk D J b0 t4 f3 f4 ns c2 bs v3 v4 x i) i [0,4,1,2] (.pend 597 aj (dZ sz 6<|b0+1)<|Kj x sz) [(sz,az [V x.P cW tk<|.ref p,V x.P cY (tk+1)<|.ref r,V x.P fo (tk+2)<|.ref e,V x.P dh f3 v3,V x.P di f4 v4] 5),((b0+1),cG 0 9),((sz+3),aC<|some<|.ref J)] [(J,ak bs ns)] [] []:=bB
def NC:av:=ex x aj 590 (.code<|dZ w.z 6 it)<|cf [(w.z,az (gW x w t []) 5),(it,cG k<|n+1)] sz tk (H 0x980) [] [(w.z+1,aC<|some<|.ref<|w.z+6),(w.z+6,ak G nw)] Y
def Kt(x:Wd)(z:N)(it:N)(sz:N):Ko:=(NC #[z,0,0,0,0,0,0] #[0,0,.none,.none] sz 0 it 0 0 0 [] x []).resume
def W4:∀(x:Wd) Y,Ev (NC w t sz tk it k nw n G x Y) Y [2,3,4,0,1] (.pend 589 aj (gw w.z 2 sz (sz+1)<|sz+2)<|Kt x w.z it sz) ([(sz,eS (w.z+6) 0 (G.length:Int)<|ad nw),((sz+1),aa #[[]] 0),((sz+2),ak [] 0)]++[(w.z,az (gW x w t [V x.P eu (tk+1)<|iN k tk]) 6),(it,eD k n)]) [] [] []:=bB
def NE:av:=Kt x w.z it sz (.ok .next)<|cf [(w.z,az (gW x w t [V x.P eu (tk+1)<|iN k tk]) 6),(it,eD k n),((sz+1),aa #[U] na),((sz+2),ak [V x.P d6 bt ck] 1)] D a6 (H 0xab0) [] [] db
def Kv(x:Wd)(z:N)(it:N)(sz:N)(J:N):Ko:=(NE #[z,0,0,0,0,0,0] #[0,0,.none,.none] sz 0 it 0 J 0 0 0 0 [] .none x []).resume
def W6:∀(x:Wd) c,Ev (NE w t sz tk it k D a6 na bt n U ck x c) c [7,4,0,1,2] (.pend 585 aj (.builtin "dict.update.loop" #[[.ref D,.ref<|D+3,.int 0 0,.none],[]])<|Kv x w.z it sz D) ([((D+3),c7 (sz+1) 0),(D,ak [] 0)]++[(w.z,az (gW x w t [V x.P eu (tk+1)<|iN k tk]) 6),(it,eD k n)]) [((sz+1),aa #[U] na)] [] []:=bB
def W0:∀(x:Wd) f,Ev (Kv x w.z it sz D (.ok<|.ret .none)<|cf [(w.z,az (gW x w t [V x.P eu (tk+1)<|iN k tk]) 6),(it,eD k n),((w.z+3),aC c2),(D,ak bs ns)] J c1 [3,3] [] [] f) f [0,1,2,3] (.next<|dZ w.z 6 it) [(w.z,az (gW x w t [V x.P eu (tk+1)<|iN k tk]) 6),(it,eD k n),((w.z+3),aC<|some<|.ref D)] [(D,ak bs ns)] [] []:=bB
def ND:av:=ex x aj 590 (.code<|dZ w.z 6 it)<|cf [(w.z,az (gW x w t [V x.P eu f5 v5]) 6),(it,cG k<|n+1)] sz tk (H 0x980) [] [(w.z+1,aC<|some<|.ref<|w.z+6),(w.z+6,ak G nw)] Y
def Ku(x:Wd)(z:N)(it:N)(sz:N):Ko:=(ND #[z,0,0,0,0,0,0] #[0,0,.none,.none] sz 0 it 0 0 0 0 [] .none x []).resume
def W5:∀(x:Wd) Y,Ev (ND w t sz tk it k nw n f5 G v5 x Y) Y [2,3,4,0,1] (.pend 589 aj (gw w.z 2 sz (sz+1)<|sz+2)<|Ku x w.z it sz) ([(sz,eS (w.z+6) 0 (G.length:Int)<|ad nw),((sz+1),aa #[[]] 0),((sz+2),ak [] 0)]++[(w.z,az (gW x w t [V x.P eu f5<|iN k tk]) 6),(it,eD k n)]) [] [] []:=bB
def NF:av:=Ku x w.z it sz (.ok .next)<|cf [(w.z,az (gW x w t [V x.P eu f5<|iN k tk]) 6),(it,eD k n),((sz+1),aa #[U] na),((sz+2),ak [V x.P d6 bt ck] 1)] D a6 (H 0xab0) [] [] db
def Kw(x:Wd)(z:N)(it:N)(sz:N)(J:N):Ko:=(NF #[z,0,0,0,0,0,0] #[0,0,.none,.none] sz 0 it 0 J 0 0 0 0 0 [] .none x []).resume
def W8:∀(x:Wd) c,Ev (NF w t sz tk it k D a6 na bt n f5 U ck x c) c [7,4,0,1,2] (.pend 585 aj (.builtin "dict.update.loop" #[[.ref D,.ref<|D+3,.int 0 0,.none],[]])<|Kw x w.z it sz D) ([((D+3),c7 (sz+1) 0),(D,ak [] 0)]++[(w.z,az (gW x w t [V x.P eu f5<|iN k tk]) 6),(it,eD k n)]) [((sz+1),aa #[U] na)] [] []:=bB
def W3:∀(x:Wd) f,Ev (Kw x w.z it sz D (.ok<|.ret .none)<|cf [(w.z,az (gW x w t [V x.P eu f5<|iN k tk]) 6),(it,eD k n),((w.z+3),aC c2),(D,ak bs ns)] J c1 [3,3] [] [] f) f [0,1,2,3] (.next<|dZ w.z 6 it) [(w.z,az (gW x w t [V x.P eu f5<|iN k tk]) 6),(it,eD k n),((w.z+3),aC<|some<|.ref D)] [(D,ak bs ns)] [] []:=bB
def WZ:Ev (ex x aj 590 (.code<|dZ z 6 it)<|cf [(it,cG k 0)] sz tk (H 0x3555515) [] [] Y) Y [] (.res<|.ok .next) [] [] [] []:=by kernel_rfl
end
section
variable(P:PP)
variable(z it ac D sz tk nw sd ns bb nl kt a7 mt na a6 ck c0 a8 bt c3 bo ch da b0 c2 db:N) (J z0 G:Int) (K bl:!bv) (k bs ca c1:!N) (U:!af) (dd:af) (x:Wd) (Y ds:ao)
def WE:∀(x:Wd) Y,Ev (ex x aj 580 (.code<|gw z 2 it ac D)<|cf [(it,eS (z+6) J z0 G)] sz tk (bif x.b2 then[]else(H 0xb50)) [] [] Y) Y [0] (.next<|cc z 2 it ac D) [(it,eS (z+6) J z0 G)] [] [] []:=bB
def WD:Ev (ex x aj 580 (.code<|cc z 2 it ac D)<|cf [(it,eS (z+6) J z0 G)] sz tk (H 0x8c0) [] [(z+6,ak K nw)] Y) Y [] (.res<|.ok .next) [] [] [] [qC true (aI "dict_keyiterator") (aI "dict") K nw J z0 G]:=by kernel_rfl
section
variable{P z it ac D sz tk nw sd ns bb nl kt a7 mt na a6 ck c0 a8 bt c3 bo ch da b0 c2 db J z0 G K bl k bs ca c1 U dd}
def Wh:∀d (x:Wd) Y,Ev (fE P 0 [#[pN a7,[0,1,2],[9],[],1,1,[6,4,3],[]]] [(a6,ck,mt)]<|ex x aj 580 (.code<|cc z 2 it ac D)<|cf [(it,eS (z+6) J z0 G),dN x D d,(z+3,aC<|some<|.ref sd)] sz tk (bif x.b2 then(H 0x57361a06869c910f30)else(H 0x57361a06869c91077177f30)) [ah k kt,.ref bb] [(z+6,ak K nw),(z+1,aC<|some<|.ref<|z+6),(sd,ak bl ns),(bb,aa #[[]] nl)] ((ac,aa #[U] na)::Y)) Y [0,1,2,3,4] (.next<|cc z 2 it ac D) [(it,eS (z+6) (J+1) z0 G),dN x D<|some (fC d tk,ah k kt),(z+3,aC<|some<|.ref sd),(ac,aa ((ar U).push<|aF a6)<|na+1)] [(a6,aD [ah k kt,iN a7 mt])] [] [cm #[U],P 579 aj (.call (.builtin "max") #[[.ref<|sz+6],[]]) [((sz+6),aa #[[.int 0<|tk+1]] 0)]<|pN a7,oX (aI j3) (ar [ic 0<|tk+1])<|ar [],cR (aI "dict") K #[#[k]]<|aF bb,gS true (aI "dict_keyiterator") (aI "dict") K nw J z0 G<|ah k kt]:=gd
def Wi:∀d (x:Wd) Y,Ev (fE P 0 [#[pN a7,[0,1,2],[9],[],1,1,[6,4,3],[]]] [(a6,ck,mt)]<|ex x aj 580 (.code<|cc z 2 it ac D)<|cf [(it,eS (z+6) J z0 G),dN x D d,(z+3,aC<|some<|.ref sd)] sz tk (bif x.b2 then(H 0xe80f30)else(H 0xe8077177f30)) [ah k kt,.ref bb,iN a8 bt] [(z+6,ak K nw),(z+1,aC<|some<|.ref<|z+6),(sd,ak bl ns),(bb,aa #[[ah bs c0]] nl)] ((ac,aa #[U] na)::Y)) Y [0,1,2,3,4] (.next<|cc z 2 it ac D) [(it,eS (z+6) (J+1) z0 G),dN x D<|some (fC d tk,ah k kt),(z+3,aC<|some<|.ref sd),(ac,aa ((ar U).push<|aF a6)<|na+1)] [(a6,aD [ah k kt,iN a7 mt])] [] [cm #[U],P 579 aj (.call (.builtin "max") #[[.ref<|sz+6],[]]) [((sz+6),aa #[[.int 0<|tk+1,.int (ad a8+1)<|tk+6]] 0)]<|pN a7,oX (aI j3) (ar [ic 0<|tk+1])<|ar [ic (ad a8+1)<|tk+6],cR (aI "dict") bl #[#[bs]]<|iN a8 bt,cR (aI "dict") K #[#[k]]<|aF bb,gS true (aI "dict_keyiterator") (aI "dict") K nw J z0 G<|ah k kt]:=gd
def Wj:∀d (x:Wd) Y,Ev (fE P 0 [#[pN a7,[0,1,2],[9],[],1,1,[6,4,3],[]]] [(a6,ck,mt)]<|ex x aj 580 (.code<|cc z 2 it ac D)<|cf [(it,eS (z+6) J z0 G),dN x D d,(z+3,aC<|some<|.ref sd)] sz tk (bif x.b2 then(H 0xe80f80f30)else(H 0xe80f8077177f30)) [ah k kt,.ref bb,iN a8 bt,iN bo ch] [(z+6,ak K nw),(z+1,aC<|some<|.ref<|z+6),(sd,ak bl ns),(bb,aa #[[ah bs c0,ah ca c3]] nl)] ((ac,aa #[U] na)::Y)) Y [0,1,2,3,4] (.next<|cc z 2 it ac D) [(it,eS (z+6) (J+1) z0 G),dN x D<|some (fC d tk,ah k kt),(z+3,aC<|some<|.ref sd),(ac,aa ((ar U).push<|aF a6)<|na+1)] [(a6,aD [ah k kt,iN a7 mt])] [] [cm #[U],P 579 aj (.call (.builtin "max") #[[.ref<|sz+6],[]]) [((sz+6),aa #[[.int 0<|tk+1,.int (ad a8+1)<|tk+6,.int (ad bo+1)<|tk+10]] 0)]<|pN a7,oX (aI j3) (ar [ic 0<|tk+1])<|ar [ic (ad a8+1)<|tk+6,ic (ad bo+1)<|tk+10],cR (aI "dict") bl #[#[ca]]<|iN bo ch,cR (aI "dict") bl #[#[bs]]<|iN a8 bt,cR (aI "dict") K #[#[k]]<|aF bb,gS true (aI "dict_keyiterator") (aI "dict") K nw J z0 G<|ah k kt]:=gd
def Wm:∀d (x:Wd) Y,Ev (fE P 0 [#[pN a7,[0,1,2],[9],[],1,1,[6,4,3],[]]] [(a6,ck,mt)]<|ex x aj 580 (.code<|cc z 2 it ac D)<|cf [(it,eS (z+6) J z0 G),dN x D d,(z+3,aC<|some<|.ref sd)] sz tk (bif x.b2 then(H 0xe80f80f80f30)else(H 0xe80f80f8077177f30)) [ah k kt,.ref bb,iN a8 bt,iN bo ch,iN b0 c2] [(z+6,ak K nw),(z+1,aC<|some<|.ref<|z+6),(sd,ak bl ns),(bb,aa #[[ah bs c0,ah ca c3,ah c1 da]] nl)] ((ac,aa #[U] na)::Y)) Y [0,1,2,3,4] (.next<|cc z 2 it ac D) [(it,eS (z+6) (J+1) z0 G),dN x D<|some (fC d tk,ah k kt),(z+3,aC<|some<|.ref sd),(ac,aa ((ar U).push<|aF a6)<|na+1)] [(a6,aD [ah k kt,iN a7 mt])] [] [cm #[U],P 579 aj (.call (.builtin "max") #[[.ref<|sz+6],[]]) [((sz+6),aa #[[.int 0<|tk+1,.int (ad a8+1)<|tk+6,.int (ad bo+1)<|tk+10,.int (ad b0+1)<|tk+14]] 0)]<|pN a7,oX (aI j3) (ar [ic 0<|tk+1])<|ar [ic (ad a8+1)<|tk+6,ic (ad bo+1)<|tk+10,ic (ad b0+1)<|tk+14],cR (aI "dict") bl #[#[c1]]<|iN b0 c2,cR (aI "dict") bl #[#[ca]]<|iN bo ch,cR (aI "dict") bl #[#[bs]]<|iN a8 bt,cR (aI "dict") K #[#[k]]<|aF bb,gS true (aI "dict_keyiterator") (aI "dict") K nw J z0 G<|ah k kt]:=gd
end
end
section
abbrev nN(x:Wd)(H:N):Option (N×af)->aH×Obj
 |none=>(H,ak [] 0)
 |some p=>(H,ak [V x.P bD p.1 p.2] 1)
variable(P:PP)
variable(w:gB) (t:iL) (p r e sz tk f3 f4 f6 G ea z it ac D n k nw na eN a8 dx q nb gg g1 b0 sd ns m mt ep c kt gs a6 K f0 f1 f2 f5 d0 cd a y c3 da bl hi nr g4 st db bb e9 J ti g2 g3 fa d1 fc fd bt fm e5 e8 t4 b1 eB e6 g7 eC e7 g8 eM a7 bs g5 nc bo fe ei go g9 eh fl ec e3 ha c0 gl ca hb gc e4 hg c2:N) (v3 v4 v6 f9 v5 dd ds hj g6 hh:af) (dt du ey d3:!bv) (vo c4 c5:Option af) (U dV g0 rs ps xs gb gu ws:!af) (ck z0 ch:Int) (c1 d2 e0 e1 e2 em:!N) (x1 ev ew:UInt8) (ed ef eg eb:!UInt8) (x:Wd) (ht Y hq hE hu hF hw hH hL hA hB hD:ao)
def DA:av:=Kj x sz (.ok .next)<|cf [(sz,az [V x.P cW tk<|.ref p,V x.P cY (tk+1)<|.ref r,V x.P fo (tk+2)<|.ref e,V x.P dh f3 v3,V x.P di f4 v4,V x.P eu f6 v6] 6)] G ea (H 0x53a901a90144111) [] [] ht
def Kl(x:Wd)(sz:N)(c:N):Ko:=(DA 0 0 0 sz 0 0 0 0 c 0 .none .none .none x []).resume
def Wv:∀(x:Wd) g,Ev (DA p r e sz tk f3 f4 f6 G ea v3 v4 v6 x g) g [2,3,4,5,0] (.pend 597 aj (gw sz 4 (G+1) (G+2)<|G+3)<|Kl x sz G) ([((G+1),cG 0 9),((G+2),aa #[[]] 0),((G+3),ak [] 0),((G+4),aC none)]++[(sz,az [V x.P cW tk<|.ref p,V x.P cY (tk+1)<|.ref r,V x.P fo (tk+2)<|.ref e,V x.P dh f3 v3,V x.P di f4 v4,V x.P eu f6 v6] 6)]) [] [] []:=bB
def WV:∀(x:Wd) Y,Ev (ex x aj 590 (.code<|gw z 4 it ac D)<|cf [(it,cG 0 n)] sz tk (bif x.b2 then[]else(H 0xb50)) [] [] Y) Y [0] (.next<|cc z 4 it ac D) [(it,cG 0 n)] [] [] []:=bB
def NA:av:=ex x aj 590 (.code<|cc z 4 it ac D)<|cf [(it,cG k<|n+1),(D,ak [] 0),(D+1,aC vo)] sz tk (H 0x562222122a1133555c3015) [] [(z+6,ak dt nw),(z+1,aC<|some<|.ref<|z+6)] Y
def Kr(x:Wd)(z it ac H:N)(sz:N):Ko:=(NA sz 0 z it ac H 0 0 0 [] none x []).resume
def WW:∀(x:Wd) Y,Ev (NA sz tk z it ac D n k nw dt vo x Y) Y [3,4,5,2,0,1] (.pend 589 aj (Et z D sz (sz+1)<|sz+2)<|Kr x z it ac D sz) ([(sz,eS (z+6) 0 (dt.length:Int)<|ad nw),((sz+1),aa #[[]] 0),((sz+2),ak [] 0),((D+1),aC<|some<|iN k tk)]++[(it,eD k n),(D,ak [] 0)]) [] [] []:=bB
def NB:av:=Kr x z it ac D sz (.ok .next)<|cf [(it,eD k n),(D,ak [] 0),(sz+1,aa #[U] na),(sz+2,ak [V x.P d6 eN f9] 1)] a8 dx (H 0x5666) [] [] hq
def Ks(x:Wd)(z it ac H:N):Ko:=(NB 0 z it ac H 0 0 0 0 0 0 .none [] x []).resume
def WX:∀(x:Wd) c,Ev (NB sz z it ac D n k na eN a8 dx f9 U x c) c [0,1,2] (.pend 589 aj (.call (.builtin "sorted") #[[.ref<|sz+1],[]])<|Ks x z it ac D) [(it,eD k n),(D,ak [] 0)] [((sz+1),aa #[U] na)] [] []:=bB
def WY:∀(x:Wd) f,Ev (Ks x z it ac D (.ok<|.ret<|.ref q)<|cf [(it,eD k n),(ac,aa #[dV] nb),(D,ak [] 0)] gg g1 [6,2,1] [] [] f) f [0,1,2] (.next<|cc z 4 it ac D) [(it,eD k n),(ac,aa ((ar dV).push<|aF q)<|nb+1),(D,ak [] 0)] [] [] [cm #[dV]]:=bB
def WP:Ev (ex x aj 590 (.code<|cc z 4 it ac D)<|cf [(it,cG k 0)] sz tk (H 0x3555515) [] [] Y) Y [] (.res<|.ok .next) [] [] [] []:=by kernel_rfl
def WH:∀(x:Wd) Y,Ev (ex x aj 580 (.code<|Et z D it ac b0)<|cf [(it,eS (z+6) ck z0 ch)] sz tk (bif x.b2 then[]else(H 0xb50)) [] [] Y) Y [0] (.next<|ou z D it ac b0) [(it,eS (z+6) ck z0 ch)] [] [] []:=bB
def WF:Ev (ex x aj 580 (.code<|ou z D it ac b0)<|cf [(it,eS (z+6) ck z0 ch)] sz tk (H 0x8c0) [] [(z+6,ak dt nw)] Y) Y [] (.res<|.ok .next) [] [] [] [qC true (aI "dict_keyiterator") (aI "dict") dt nw ck z0 ch]:=by kernel_rfl
def DB:av:=Kl x sz G (.ok .next)<|cf [(sz,az [V x.P cW tk<|.ref p,V x.P cY (tk+1)<|.ref r,V x.P fo (tk+2)<|.ref e,V x.P dh f3 v3,V x.P di f4 v4,V x.P eu f6 v6] 6),(G+2,aa #[dV] nb)] a6 K (H 0x562122c30) [] [(r,aa #[g0] gs)] hu
def CG(x:Wd)(sz:N):Ko:=(DB 0 0 0 sz 0 0 0 0 0 0 0 0 0 .none .none .none [] [] x []).resume
def Ww:∀(x:Wd) C,Ev (DB p r e sz tk f3 f4 f6 G nb gs a6 K v3 v4 v6 dV g0 x C) C [0,2,3,1] (.pend 597 aj (dZ sz 10<|a6+1)<|CG x sz) [(sz,az [V x.P cW tk<|.ref p,V x.P cY (tk+1)<|.ref r,V x.P fo (tk+2)<|.ref e,V x.P dh f3 v3,V x.P di f4 v4,V x.P eu f6 v6,V x.P cD K<|.ref<|G+2,V x.P cg (K+1)<|.ref a6] 8),(a6,ak [] 0),((a6+1),ba r 0)] [((G+2),aa #[dV] nb)] [] []:=bB
def Nw(P:PP)(w:gB)(t:iL)(sz:N)(tk:N)(f6:N)(it:N)(k:N)(J:N)(G:N)(sd:N)(ns:N)(f5:N)(b:N)(cd:N)(a:N)(y:N)(f:N)(c:N)(R:N)(hi:N)(nr:N)(A:N)(st:N)(L:N)(g:N)(d:N)(v6:af)(v5:af)(C:!bv)(vo:Option af)(c4:Option af)(rs:!af)(ps:!af)(e:!N)(x:Wd)(Y:ao):av:=fE P 0 [#[pS e,[0,1,2],[],[],1,1,H 0x5981886e850170850850850511664301454be1c0eee,[iN st L,iN g 0]]] [(J,G,A)]<|ex x aj 590 (.code<|dZ w.z 10 it)<|cf [(w.z,az (gW x w t [V x.P eu f5 v5,V x.P cD f6 v6,V x.P cg b<|.ref cd]) 8),(w.z+2,aC vo),(it,ba w.r k)] sz tk (H 0x51541bf50) [.ref a] [(w.r,aa #[rs] nr),(a,aD [iN R f,iN hi c,.ref y]),(w.z+3,aC<|some<|.ref sd),(sd,ak C ns),(w.p,aa #[ps] d)] ((w.z+4,aC c4)::Y)
def Kk(x:Wd)(z:N)(it:N)(J:N):Ko:=(Nw (λ_ _ _ _ _=>True) #[z,0,0,0,0,0,0] #[0,0,.none,.none] 0 0 0 it 0 J 0 0 0 0 0 0 0 0 0 0 0 0 0 0 0 0 0 0 .none .none [] none none [] [] [] x []).resume
section
variable{P w t p r e sz tk f3 f4 f6 G ea z it ac D n k nw na eN a8 dx q nb gg g1 b0 sd ns m mt ep c kt gs a6 K f0 f1 f2 f5 d0 cd a y c3 da bl hi nr g4 st db bb e9 J ti g2 g3 fa d1 fc fd bt fm e5 e8 t4 b1 eB e6 g7 eC e7 g8 eM a7 bs g5 nc bo fe ei go g9 eh fl ec e3 ha c0 gl ca hb gc e4 hg c2 v3 v4 v6 f9 v5 dd ds hj g6 hh dt du ey d3 vo c4 c5 U dV g0 rs ps xs gb gu ws ck z0 ch c1 d2 e0 e1 e2 em x1 ev ew ed ef eg eb}
def Wo:∀(x:Wd) Y,Ev (Nw P w t sz tk f6 it k a8 dx sd ns f5 d0 cd a y c3 da bl hi nr g4 st db bb e9 v6 v5 du vo c4 rs ps d2 x Y) Y [6,7,8,1,3,0,2,5] (.pend 589 aj (gw w.z 6 (a8+2) (a8+3)<|a8+4)<|Kk x w.z it a8) ([((a8+2),ba (a8+1) 0),((a8+3),aa #[[]] 0),((a8+4),ak [] 0),((w.z+2),aC<|some<|iN bl c3),((w.z+4),aC<|some<|iN bb<|dx+4)]++[(w.z,az (sS x w [V x.P dh t.f3<|iN hi da,V x.P di t.f4<|.ref y,V x.P eu f5 v5,V x.P cD f6 v6,V x.P cg d0<|.ref cd]) 8),(it,ba w.r<|k+1)]) [((a8+1),aa #[(iS (ar ps) none (some 3) none).1] 0)] [((decide<|ad st<9),true)] [cm #[ps],zZ 16 (ad hi-ad bl)<|ad bb,cR (aI "dict") du #[#[d2]]<|iN st db,P 589 aj (.call (.ref 860) #[[iN bl c3,iN hi da],[]]) []<|pS d2,df #[rs] (ad k)<|aF a]:=bB
end
def WK:∀(x:Wd) Y,Ev (ex x aj 580 (.code<|gw z 6 it ac D)<|cf [(it,ba J 0)] sz tk (bif x.b2 then[]else(H 0xb50)) [] [] Y) Y [0] (.next<|cc z 6 it ac D) [(it,ba J 0)] [] [] []:=bB
def WN:∀(x:Wd) Y,Ev (ex x aj 580 (.code<|gw z 8 it ac D)<|cf [(it,ba J 0)] sz tk (bif x.b2 then[]else(H 0xb50)) [] [] Y) Y [0] (.next<|cc z 8 it ac D) [(it,ba J 0)] [] [] []:=bB
def WJ:Ev (ex x aj 580 (.code<|cc z 6 it ac D)<|cf [(it,ba J k)] sz tk (H 0xa70) [] [(J,aa #[xs] ns)] Y) Y [] (.res<|.ok .next) [] [] [] [h_ #[xs]<|ad k]:=by kernel_rfl
def WM:Ev (ex x aj 580 (.code<|cc z 8 it ac D)<|cf [(it,ba J k)] sz tk (H 0xa70) [] [(J,aa #[xs] ns)] Y) Y [] (.res<|.ok .next) [] [] [] [h_ #[xs]<|ad k]:=by kernel_rfl
def Wr:Ev (ex x aj 590 (.code<|dZ z 10 it)<|cf [(it,ba r k)] sz tk (H 0xa70) [] [(r,aa #[rs] nr)] Y) Y [] (.res<|.ok .next) [] [] [] [h_ #[rs]<|ad k]:=by kernel_rfl
def DC:av:=CG x sz (.ok .next)<|cf [(sz,az [V x.P cW tk<|.ref p,V x.P cY (tk+1)<|.ref r,V x.P fo (tk+2)<|.ref e,V x.P dh f3 dd,V x.P di f4 ds,V x.P eu f6 v6,V x.P cD K<|.ref<|G+2,V x.P cg (K+1)<|.ref a6] 8)] a7 bs (H 0x5631335ab170bbb511142a1c0aaa255) [iN st db] [(sz+3,aC<|some<|.ref sd),(sd,ak d3 ei),(p,aa #[ps] e9)] hw
def Kq(x:Wd)(sz:N)(M:N):Ko:=(DC 0 0 0 sz 0 0 0 0 0 0 0 0 0 0 0 M 0 0 .none .none .none [] [] x []).resume
def Wz:∀(x:Wd) t,Ev (DC p r e sz tk f3 f4 f6 G sd a6 K st db e9 a7 bs ei v6 dd ds d3 ps x t) t [3,4,5,0,2] (.pend 597 aj (gw sz 8 (a7+2) (a7+3)<|a7+4)<|Kq x sz a7) ([((a7+2),ba (a7+1) 0),((a7+3),aa #[[]] 0),((a7+4),ak [] 0)]++[(sz,az [V x.P cW tk<|.ref p,V x.P cY (tk+1)<|.ref r,V x.P fo (tk+2)<|.ref e,V x.P dh f3 dd,V x.P di f4 ds,V x.P eu f6 v6,V x.P cD K<|.ref<|G+2,V x.P cg (K+1)<|.ref a6,V x.P kQ bs .none] 9)]) [((a7+1),aa #[(iS (ar ps) none (some 3) none).1] 0)] [((decide<|ad st<9),true)] [cm #[ps],cR (aI "dict") d3 #[#[[70]]]<|iN st db]:=bB
def Nz(P:PP)(p:N)(r:N)(e:N)(sz:N)(tk:N)(f3:N)(f4:N)(f6:N)(c:N)(sd:N)(mt:N)(X:N)(o:N)(t:N)(g:N)(M:N)(z:N)(W:N)(i:N)(w:N)(s:N)(j:N)(q:N)(h:N)(C:N)(y:N)(R:N)(b:N)(a:N)(T:N)(d:N)(v6:af)(k:af)(m:af)(u:af)(f:!bv)(l:!af)(B:!af)(n:!UInt8)(x:Wd)(Y:ao):av:=fE P 0 [#[pN t,[0],[1],[],0,0,[0,0,1],[]],ph (pB n) [0] (H 0x52a290aaaa21155) [],#[pN b,[0],[1],[],0,0,H 0x54b1bb51,[]]] [(q,h,g),(y,R,C),(T,d,mt)]<|Kq x sz M (.ok .next)<|cf [(sz,az [V x.P cW tk<|.ref p,V x.P cY (tk+1)<|.ref r,V x.P fo (tk+2)<|.ref e,V x.P dh f3 k,V x.P di f4 m,V x.P eu f6 v6,V x.P cD o<|.ref<|c+2,V x.P cg (o+1)<|.ref X,V x.P kQ z .none] 9),(M+3,aa #[l] s),(M+4,ak [V x.P yP j u] 1)] W i (H 0x5333) [] [(sz+3,aC<|some<|.ref sd),(sd,ak f w),(c+2,aa #[B] a)] Y
def Kn(x:Wd)(sz:N)(b:N)(T:N):Ko:=(Nz (λ_ _ _ _ _=>True) 0 0 0 sz 0 0 0 0 0 0 0 0 0 0 0 0 0 0 0 0 0 0 0 0 0 0 0 b 0 T 0 .none .none .none .none [] [] [] [] x []).resume
section
variable{P w t p r e sz tk f3 f4 f6 G ea z it ac D n k nw na eN a8 dx q nb gg g1 b0 sd ns m mt ep c kt gs a6 K f0 f1 f2 f5 d0 cd a y c3 da bl hi nr g4 st db bb e9 J ti g2 g3 fa d1 fc fd bt fm e5 e8 t4 b1 eB e6 g7 eC e7 g8 eM a7 bs g5 nc bo fe ei go g9 eh fl ec e3 ha c0 gl ca hb gc e4 hg c2 v3 v4 v6 f9 v5 dd ds hj g6 hh dt du ey d3 vo c4 c5 U dV g0 rs ps xs gb gu ws ck z0 ch c1 d2 e0 e1 e2 em x1 ev ew ed ef eg eb}
def Wy:∀(x:Wd) Y,Ev (Nz P p r e sz tk f3 f4 f6 G sd mt a6 K bt fm a7 bs bo fe ei go g9 eh fl ec e3 ha c0 gl ca hb v6 dd ds hj d3 gb gu eb x Y) Y [1,2,3,0] (.pend 597 aj (gw sz 9 ca (ca+1)<|ca+2)<|Kn x sz c0 ca) ([(ca,ba (G+2) 0),((ca+1),aa #[[]] 0),((ca+2),ak [] 0)]++[(sz,az [V x.P cW tk<|.ref p,V x.P cY (tk+1)<|.ref r,V x.P fo (tk+2)<|.ref e,V x.P dh f3 dd,V x.P di f4 ds,V x.P eu f6 v6,V x.P cD K<|.ref<|G+2,V x.P cg (K+1)<|.ref a6,V x.P kQ bs<|.bytes #[eb] ec] 9)]) [] [] [P 597 aj (.call (.builtin "max") #[[.ref e3],[]]) [(e3,#[.type "dict_values",none,.fields #[[.ref sd]],#[[]]])]<|pN c0,qB (aI "dict") sd,P 597 aj (.call (.ref 46) #[[.int (-ad bt) fl],[]]) []<|pB eb,P 597 aj (.call (.builtin "sum") #[[.ref<|a7+3],[]]) [((a7+3),aa #[gb] go)]<|pN bt]:=bB
end
def Jj(p:N)(r:N)(e:N)(sz:N)(tk:N)(f3:N)(f4:N)(f6:N)(c:N)(sd:N)(X:N)(o:N)(st:N)(L:N)(M:N)(z:N)(w:N)(a:N)(v6:af)(k:af)(m:af)(f:!bv)(B:!af)(x:Wd)(Y:ao):av:=CG x sz (.ok .next)<|cf [(sz,az [V x.P cW tk<|.ref p,V x.P cY (tk+1)<|.ref r,V x.P fo (tk+2)<|.ref e,V x.P dh f3 k,V x.P di f4 m,V x.P eu f6 v6,V x.P cD o<|.ref<|c+2,V x.P cg (o+1)<|.ref X] 8)] M z (H 0x52a290aaaa21152a1c0aaa255) [iN st L] [(sz+3,aC<|some<|.ref sd),(sd,ak f w),(c+2,aa #[B] a)] Y
def Ny(P:PP)(p:N)(r:N)(e:N)(sz:N)(tk:N)(f3:N)(f4:N)(f6:N)(c:N)(sd:N)(mt:N)(X:N)(o:N)(st:N)(L:N)(M:N)(z:N)(W:N)(i:N)(w:N)(b:N)(a:N)(v6:af)(k:af)(m:af)(f:!bv)(B:!af)(x:Wd)(Y:ao):av:=fE P 0 [#[pN b,[0],[1],[],0,0,H 0x54b1bb51,[]]] [(W,i,mt)]<|Jj p r e sz tk f3 f4 f6 c sd X o st L M z w a v6 k m f B x Y
def Km(x:Wd)(sz:N)(b:N)(W:N):Ko:=(Ny (λ_ _ _ _ _=>True) 0 0 0 sz 0 0 0 0 0 0 0 0 0 0 0 0 0 W 0 0 b 0 .none .none .none [] [] x []).resume
section
variable{P w t p r e sz tk f3 f4 f6 G ea z it ac D n k nw na eN a8 dx q nb gg g1 b0 sd ns m mt ep c kt gs a6 K f0 f1 f2 f5 d0 cd a y c3 da bl hi nr g4 st db bb e9 J ti g2 g3 fa d1 fc fd bt fm e5 e8 t4 b1 eB e6 g7 eC e7 g8 eM a7 bs g5 nc bo fe ei go g9 eh fl ec e3 ha c0 gl ca hb gc e4 hg c2 v3 v4 v6 f9 v5 dd ds hj g6 hh dt du ey d3 vo c4 c5 U dV g0 rs ps xs gb gu ws ck z0 ch c1 d2 e0 e1 e2 em x1 ev ew ed ef eg eb}
def Wx:∀(x:Wd) Y,Ev (Ny P p r e sz tk f3 f4 f6 G sd mt a6 K st db a7 bs bo fe ei c0 gl v6 dd ds d3 gu x Y) Y [1,2,3,0] (.pend 597 aj (gw sz 9 bo (bo+1)<|bo+2)<|Km x sz c0 bo) ([(bo,ba (G+2) 0),((bo+1),aa #[[]] 0),((bo+2),ak [] 0)]++[(sz,az [V x.P cW tk<|.ref p,V x.P cY (tk+1)<|.ref r,V x.P fo (tk+2)<|.ref e,V x.P dh f3 dd,V x.P di f4 ds,V x.P eu f6 v6,V x.P cD K<|.ref<|G+2,V x.P cg (K+1)<|.ref a6,V x.P kQ bs .none] 9)]) [] [((decide<|ad st<9),false)] [P 597 aj (.call (.builtin "max") #[[.ref a7],[]]) [(a7,#[.type "dict_values",none,.fields #[[.ref sd]],#[[]]])]<|pN c0,qB (aI "dict") sd,cR (aI "dict") d3 #[#[[70]]]<|iN st db]:=bB
end
def Wu:∀(x:Wd) a,Ev (Kn x sz c0 ca (.ok .next)<|cf [(sz,az [V x.P cW tk<|.ref p,V x.P cY (tk+1)<|.ref r,V x.P fo (tk+2)<|.ref e,V x.P dh f3 dd,V x.P di f4 ds,V x.P eu f6 v6,V x.P cD K<|.ref<|G+2,V x.P cg (K+1)<|.ref a6,V x.P kQ bs<|.bytes #[eb] ec] 9),(ca+2,ak [V x.P bD gc g6] 1)] e4 hg (H 0x55444) [] [] a) a [2] (.res<|.ok<|.ret<|.ref e4) [] [(e4,aa #[[.bool<|decide<|ad c0<9,.ref<|ca+1,.ref a6,.bytes (ar eb) ec]] 0)] [] []:=bB
def Wt:∀(x:Wd) a,Ev (Km x sz c0 bo (.ok .next)<|cf [(sz,az [V x.P cW tk<|.ref p,V x.P cY (tk+1)<|.ref r,V x.P fo (tk+2)<|.ref e,V x.P dh f3 dd,V x.P di f4 ds,V x.P eu f6 v6,V x.P cD K<|.ref<|G+2,V x.P cg (K+1)<|.ref a6,V x.P kQ bs .none] 9),(bo+2,ak [V x.P bD gc g6] 1)] eh fl (H 0x55444) [] [] a) a [2] (.res<|.ok<|.ret<|.ref eh) [] [(eh,aa #[[.bool<|decide<|ad c0<9,.ref<|bo+1,.ref a6,.none]] 0)] [] []:=bB
def WU:∀(x:Wd) Y,Ev (ex x aj 590 (.code<|gw z 9 it ac D)<|cf [(it,ba J 0)] sz tk (bif x.b2 then[]else(H 0xb50)) [] [] Y) Y [0] (.next<|cc z 9 it ac D) [(it,ba J 0)] [] [] []:=bB
def WQ:Ev (ex x aj 590 (.code<|cc z 9 it ac D)<|cf [(it,ba J k)] sz tk (H 0xa70) [] [(J,aa #[xs] ns)] Y) Y [] (.res<|.ok .next) [] [] [] [h_ #[xs]<|ad k]:=by kernel_rfl
section
variable{P w t p r e sz tk f3 f4 f6 G ea z it ac D n k nw na eN a8 dx q nb gg g1 b0 sd ns m mt ep c kt gs a6 K f0 f1 f2 f5 d0 cd a y c3 da bl hi nr g4 st db bb e9 J ti g2 g3 fa d1 fc fd bt fm e5 e8 t4 b1 eB e6 g7 eC e7 g8 eM a7 bs g5 nc bo fe ei go g9 eh fl ec e3 ha c0 gl ca hb gc e4 hg c2 v3 v4 v6 f9 v5 dd ds hj g6 hh dt du ey d3 vo c4 c5 U dV g0 rs ps xs gb gu ws ck z0 ch c1 d2 e0 e1 e2 em x1 ev ew ed ef eg eb}
def WI:∀d (x:Wd) Y,Ev (ex x aj 580 (.code<|ou z D it ac b0)<|cf [(it,eS (z+6) ck z0 ch),(ac,aa #[U] na),dN x b0 d,(D+1,aC<|some<|iN c ep)] sz tk (H 0x548346ab1c0bbb3a339c0) [ah c1 kt,iN m mt] [(z+6,ak dt nw),(z+3,aC<|some<|.ref sd),(sd,ak du ns)] Y) Y [0,1,2,3] (.next<|ou z D it ac b0) [(it,eS (z+6) (ck+1) z0 ch),(ac,aa ((ar U).push<|ah c1 kt)<|na+1),dN x b0<|some (fC d tk,ah c1 kt),((D+1),aC<|some<|iN c ep)] [] [((ad m==ad c),true)] [cm #[U],cR (aI "dict") du #[#[c1]]<|iN m mt,gS true (aI "dict_keyiterator") (aI "dict") dt nw ck z0 ch<|ah c1 kt]:=gd
def WG:∀d (x:Wd) Y,Ev (ex x aj 580 (.code<|ou z D it ac b0)<|cf [(it,eS (z+6) ck z0 ch),(ac,aa #[U] na),dN x b0 d,(D+1,aC<|some<|iN c ep)] sz tk (H 0x56ab1c0bbb3a339c0) [ah c1 kt,iN m mt] [(z+6,ak dt nw),(z+3,aC<|some<|.ref sd),(sd,ak du ns)] Y) Y [0,1,2,3] (.next<|ou z D it ac b0) [(it,eS (z+6) (ck+1) z0 ch),(ac,aa #[U] na),dN x b0<|some (fC d tk,ah c1 kt),((D+1),aC<|some<|iN c ep)] [] [((ad m==ad c),false)] [cR (aI "dict") du #[#[c1]]<|iN m mt,gS true (aI "dict_keyiterator") (aI "dict") dt nw ck z0 ch<|ah c1 kt]:=gd
def WL:∀d (x:Wd) Y,Ev (ex x aj 580 (.code<|cc z 6 it ac D)<|cf [(it,ba J k),(ac,aa #[U] na),fH x D d,(z+2,aC<|some<|iN bl g2),(z+4,aC<|some<|iN bb g3)] sz tk (H 0x5480d07f4306a40) [iN n ti,iN d1 0,iN fa 0,iN fc 0,iN fd 0] [(J,aa #[xs] ns)] Y) Y [0,1,2,3,4] (.next<|cc z 6 it ac D) [(it,ba J<|k+1),(ac,aa ((ar U).push<|iN fd<|tk+8)<|na+1),fH x D<|some (fC d tk,iN n ti),((z+2),aC<|some<|iN bl g2),((z+4),aC<|some<|iN bb g3)] [] [] [cm #[U],cj (ad fc) (ad bb)<|ad fd,gj (ad d1) (ad fa)<|ad fc,zZ 16 (ad bl)<|ad fa,cj (ad n) (16^5)<|ad d1,df #[xs] (ad k)<|iN n ti]:=gd
def WO:∀d (x:Wd) Y,Ev (ex x aj 580 (.code<|cc z 8 it ac D)<|cf [(it,ba J k),(ac,aa #[U] na),fH x D d] sz tk (H 0x548a40) [iN n ti,iN d1 0] [(J,aa #[xs] ns)] Y) Y [0,1,2] (.next<|cc z 8 it ac D) [(it,ba J<|k+1),(ac,aa ((ar U).push<|iN d1<|tk+4)<|na+1),fH x D<|some (fC d tk,iN n ti)] [] [] [cm #[U],cj (ad n) (16^5)<|ad d1,df #[xs] (ad k)<|iN n ti]:=gd
def WR:∀d (x:Wd) Y,Ev (ex x aj 590 (.code<|cc z 9 it ac D)<|cf [(it,ba J k),(ac,aa #[U] na),nN x D d] sz tk (H 0x1a33d7045) [.ref c2] [(J,aa #[xs] ns),(c2,aa #[[]] nr)] Y) Y [0,1,2] (.next<|cc z 9 it ac D) [(it,ba J<|k+1),(ac,aa #[U] na),nN x D<|some (fC d tk,.ref c2)] [] [] [df #[xs] (ad k)<|aF c2]:=gd
def WT:∀d (x:Wd) Y,Ev (ex x aj 590 (.code<|cc z 9 it ac D)<|cf [(it,ba J k),(ac,aa #[U] na),nN x D d] sz tk (H 0x54831a33d7045) [.ref c2] [(J,aa #[xs] ns),(c2,aa #[hh::ws] nr)] Y) Y [0,1,2] (.next<|cc z 9 it ac D) [(it,ba J<|k+1),(ac,aa ((ar U).push<|aF c2)<|na+1),nN x D<|some (fC d tk,.ref c2)] [] [] [cm #[U],df #[xs] (ad k)<|aF c2]:=gd
def Wp:∀(x:Wd) Y,Ev (fE P 4 [#[pN bt,[0,1,2,3],[4],[],2,1,bif x.b2 then(H 0x5110d061c761cc99999ad08b01177)else(H 0x5110d061c761cc999999991ad098b01177),[iN e5 0]],ph (pB (x1::ed)) [0,1,2,3,4,6,7,8] (H 0xb30) [ah e0 0,iN eB 0,iN e6 0],#[pB (ev::ef),[0,1,2,3,4,5,6,7],[],[9],1,0,H 0xb30,[ah e1 0,iN eC 0,iN e7 0]],#[pB (ew::eg),[0,1,2,3,4,5,6,7],[],[9],1,0,H 0x515415ddd0d0d10f61d7d1301001,[ah e2 0,iN eM 0]],#[pS em,[0,1,2,3,4],[],[6,9],1,1,H 0x8781f088,[]]] [(e8,t4,fm),(G,ea,b1),(a6,K,g7),(a7,bs,g8),(bo,fe,g5)]<|Kk x w.z it a8 (.ok .next)<|cf [(w.z,az (sS x w [V x.P dh f3<|iN hi da,V x.P di f4<|.ref y,V x.P eu f5 v5,V x.P cD f6 v6,V x.P cg d0<|.ref cd]) 8),(w.z+2,aC<|some<|iN bl c3),(it,ba w.r<|k+1),(w.z+4,aC<|some<|iN bb<|dx+4),(a8+3,aa #[U] na),(a8+4,ak [V x.P yP eN f9] 1)] gg g1 (H 0x5888) [] [] ((w.z+5,aC c5)::(cd,ak ey nc)::Y)) Y [4,5,6,7,8,9,0,1,2,3] (.next<|dZ w.z 10 it) [(w.z,az (sS x w [V x.P dh f3<|iN hi da,V x.P di f4<|.ref y,V x.P eu f5 v5,V x.P cD f6 v6,V x.P cg d0<|.ref cd]) 8),((w.z+2),aC<|some<|iN bl c3),(it,ba w.r<|k+1),((w.z+4),aC<|some<|iN bb<|dx+4),((w.z+5),aC<|some<|iN bt fm),(cd,ak (ey++[V x.P #[#[em]] g5<|.ref<|e8+2])<|nc+1)] [((e8+2),aa #[[.ref<|G+1,.ref<|a6+1,.ref<|a7+1]] 3),((a7+1),aD [ah e2<|bs+6,iN eM<|bs+8]),((a6+1),aD [ah e1<|K+6,iN eC<|K+8]),((G+1),aD [ah e0<|ea+6,iN eB<|ea+8])] [] [jW (aI "dict") ey #[#[em]],P 589 aj (.call (.ref 860) #[[iN bl c3,iN hi da],[]]) []<|pS em,gj (ad bt+2) (ad bb)<|ad eM,jX #[#[fb #[(ew::eg)]]] (some 1) none #[#[e2]],oW #[(ew::eg)],P 588 aj (.call (.ref 46) #[[.int (ad bb+ad e7)<|K+13],[]]) []<|pB (ew::eg),cj (ad bt+ad 2) (ad bb)<|ad e7,gj (ad bt+1) (ad bb)<|ad eC,jX #[#[fb #[(ev::ef)]]] (some 1) none #[#[e1]],oW #[(ev::ef)],P 588 aj (.call (.ref 46) #[[.int (ad bb+ad e6)<|ea+13],[]]) []<|pB (ev::ef),cj (ad bt+ad 1) (ad bb)<|ad e6,gj (ad bt+0) (ad bb)<|ad eB,jX #[#[fb #[(x1::ed)]]] (some 1) none #[#[e0]],oW #[(x1::ed)],P 588 aj (.call (.ref 46) #[[.int (ad bb+ad e5)<|t4+7],[]]) []<|pB (x1::ed),cj (ad bt+0) (ad bb)<|ad e5,P 589 aj (.call (.builtin "sum") #[[.ref<|a8+3],[]]) [((a8+3),aa #[U] na)]<|pN bt]:=bB
def Wq:∀(x:Wd) Y,Ev (fE P 3 [#[pS d2,[],[],[0,1,2],0,0,H 0x5be1c0eee,[iN st db]]] [(a8,dx,g4)]<|ex x aj 590 (.code<|dZ w.z 10 it)<|cf [(w.z,az (gW x w t [V x.P eu f5 v5,V x.P cD f6 v6,V x.P cg d0<|.ref cd]) 8),(w.z+2,aC vo),(it,ba w.r k)] sz tk (H 0x51541bf50) [.ref a] [(w.r,aa #[rs] nr),(a,aD [iN bl c3,iN hi da,.ref y]),(w.z+3,aC<|some<|.ref sd),(sd,ak du ns)] Y) Y [0,1,2] (.next<|dZ w.z 10 it) [(w.z,az (sS x w [V x.P dh t.f3<|iN hi da,V x.P di t.f4<|.ref y,V x.P eu f5 v5,V x.P cD f6 v6,V x.P cg d0<|.ref cd]) 8),((w.z+2),aC<|some<|iN bl c3),(it,c7 w.r<|ad k+1)] [] [((decide<|ad st<9),false)] [cR (aI "dict") du #[#[d2]]<|iN st db,P 589 aj (.call (.ref 860) #[[iN bl c3,iN hi da],[]]) []<|pS d2,df #[rs] (ad k)<|aF a]:=bB
end
end
structure Wn where
 k:!N
 kt:N
 a:N
 n:N
 ws:!(!N×N)
abbrev Wn.e(w:Wn):De:=(w.k,w.kt,.ref w.a)
abbrev Wn.ob(w:Wn):aH×Obj:=(w.a,aa #[w.ws.map ax] w.n)
abbrev Wn.d(w:Wn):!N×!(!N):=(w.k,w.ws.map (·.1))
abbrev jQ(x:Wd)(j:N)(ns:!Wn)(nw:N):aH×Obj:=(j,ak (aB x.P<|ns.reverse.map Wn.e) nw)
section
variable{x:Wd}
def RZ{ns:!Wn}(hk:k∉ns.map (·.k))(a:ns.length<=1000):jW (.type "dict") (aB x.P<|ns.reverse.map Wn.e) #[#[k]]:=
 #[dK,jN _ _,by
  rw[lp,DX (by simp only[bI];simp at hk⊢;rw[hk])];rfl,by
  unfold aB;simp only[aU,aU,S4];rw[L6 a]]
def Hu:aB P es++[V P #[#[k]] t v]=aB P (es++[(k,t,v)]):=by unfold aB;simp only[bf];rfl
def ay.dp{t:Mk}{b d n a:N}{c:bj}{F:Fs}{Q:Po}{L1 L2:ao}{es:!De}{k:!N}{v:af}(g:ay x t b c F (L1++(d,ak (aB x.P<|es++[(k,a,v)]) n)::L2) Q):ay x t b c F (L1++(d,ak (aB x.P es++[V x.P #[#[k]] a v]) n)::L2) Q:=Hu▸g
def Go.w{t:Mk}{b:N}{F F0:Fs}{Q:Po}{W Y:ao}{o:ao->av}(g:Go x t b F0 Q F Y λa=>o<|W++a):Go x t b F0 Q F (W++Y) o:=λw m A C c=>by simp only[bZ];rw[g w m A C c]
abbrev zB(x:Wd)(w:gB)(j it k:N)(ns:!Wn)(o:N×N×Option N)(F:Fs)(Q:Po):Prop:=∀T D z y C,Le F T->y.d=cU o->ay x aj 590 (dZ w.z 1 it) T ([ge x w D,(w.z+2,aC z),(it,ba w.r<|k+1)]++(jQ x j (y::ns) C::(y::ns).map Wn.ob)) Q
def ay.wd{t:Mk}{b j n:N}{c:bj}{F:Fs}{Q:Po}{L1 L2:ao}{y:Wn}{ns:!Wn}(g:ay x t b c F (L1++jQ x j (y::ns) n::L2) Q):ay x t b c F (L1++(j,ak (aB x.P (ns.reverse.map Wn.e)++[V x.P #[#[y.k]] y.kt<|.ref y.a]) n)::L2) Q:=by
 have e:jQ x j (y::ns) n=(j,ak (aB x.P (ns.reverse.map Wn.e)++[V x.P #[#[y.k]] y.kt<|.ref y.a]) n):=by unfold jQ;simp only[Hu,uF,bf];rfl
 rw[e▸g]
def QD(ok:gk (U,hi,some m))(j:F w.r (aa #[rs] nr))(Y:F (w.z+1) (aC<|some<|.ref a6))(r:rs[k]? =some v)(hv:Rp F (d5 (U,hi,some m)) v)(hk:nm U hi∉ns.map (·.k))(hz:ns.length<=1000)(h:zB x w a6 it k ns (U,hi,some m) F Q):ay x aj 590 (dZ w.z 1 it) F ([Ia x w q,(w.z+2,aC vo),(it,ba w.r k)]++(jQ x a6 ns nw::ns.map Wn.ob)) Q:=by obtain⟨a,y,C,i,l,f,c,t,n,b,T,g⟩:=Ek hv;obtain rfl:=g.e;have L:=ok.1;have p:=ok.2.1;have I:=ok.2.2 m rfl;rw[rO (W:=[jQ x a6 ns nw]) (O:=[(w.r,aa #[rs] nr),(a,aD [iN U f,iN hi c,.ref y]),(y,aa #[_] l),(C,aD [iN m t,iN hi n]),(i,aD [iN U b,iN m T]),(w.z+1,aC<|some<|.ref a6)]) ⟨j,g.a_,g.y_,g.ON,g.OO,Y,ab⟩ λB K=>gZ 3 λS u J G A D E X M e d=>bu (Wa q x) ab #[RZ hk hz,lJ (kg L)<|og L p,lJ (kg I.1)<|LR L p I.2,lJ (kg L)<|LQ p I.2,hJ r,ab] rfl u<|.wd (y:=#[nm U hi,d,B+4,2,[(nm m hi,A),(nm U m,X)]])<|h _ _ _ _ _ (cb u) rfl]
def aqr(ok:gk (D,hi,none))(g:F w.r (aa #[rs] nr))(Y:F (w.z+1) (aC<|some<|.ref G))(r:rs[k]? =some v)(hv:Rp F (d5 (D,hi,none)) v)(hk:nm D hi∉ns.map (·.k))(hz:ns.length<=1000)(h:zB x w G it k ns (D,hi,none) F Q):ay x aj 590 (dZ w.z 1 it) F ([ge x w t,(w.z+2,aC vo),(it,ba w.r k)]++(jQ x G ns nw::ns.map Wn.ob)) Q:=by rw[HM (El hv) λa y l f c Z o b=>?_];subst Z;rw[rO (W:=[jQ x G ns nw]) (O:=[(w.r,aa #[rs] nr),(a,aD _),(y,aa #[[]] l),(w.z+1,aC<|some<|.ref G)]) ⟨g,o,b,Y,ab⟩ λB K=>gZ 1 λS u M e d=>bu (Wb x) ab #[RZ hk hz,lJ (kg ok.1)<|og ok.1 ok.2.1,hJ r,ab] rfl u<|.wd (y:=#[nm D hi,d,B+4,0,[]])<|h _ _ _ _ _ (cb u) rfl]
inductive qE (x:Wd) (w:gB) (wd:N) (W:b4) (F':Fs):aL->ao->Prop
 |mk (t vo ns nw) (h1:ns.reverse.map Wn.d=W):qE x w wd W F' (.ok .next) ([ge x w t,(w.z+2,aC vo)]++(jQ x wd ns nw::ns.map Wn.ob))
def afn:∀{rest done:c6} {t vo ns nw F},F w.r (aa #[rs] nr)->F (w.z+1) (aC<|some<|.ref D)->aM F ((done++rest).map d5) rs->(∀r∈rest,gk r)->ns.reverse.map Wn.d=done.map cU->(((done++rest).map cU).map (·.1)).Nodup->done.length+rest.length<=1000->ay x aj 590 (dZ w.z 1 it) F ([ge x w t,(w.z+2,aC vo),(it,ba w.r done.length)]++(jQ x D ns nw::ns.map Wn.ob)) (qE x w D<|(done++rest).map cU):=by
 intro rest;induction rest with
 |nil=>
  intro done t vo ns nw F j Y A m k g i;simp only[bQ]at A⊢;rw[.perm (pm [[ge x w t,(w.z+2,aC vo)],_,jQ x D ns nw::ns.map Wn.ob] (.p (.p (.a 0)<|.a 1)<|.a 2) (.p (.a 1)<|.p (.a 0)<|.a 2) rfl) ?_];rw[bJ (L:=[(it,ba w.r done.length)]) (O:=[(w.r,aa #[rs] nr)]) #[j,ab] λB K=>bp (W9 w.r nr B K w.z it done.length rs x) ab #[by show(ar rs)[done.length]? =none;have:=A.length;simp[this],ab] (aV) #[t,vo,ns,nw,k]]
 |cons q rest C=>
  intro done t vo ns nw F j Y A m k g i;simp only[dM]at i;have f:ns.length=done.length:=by have:=congrArg gR k;simpa using this
  obtain⟨v,X,G⟩:=A.get done.length (x:=d5 q) (by rw[bf,oM<|by simp];simp);have e:done++q::rest=(done++[q])++rest:=by simp
  have c:=λH=>by
   have n:(cU q).1∈(done.map cU).map (·.1):=by rw[<-k,bI,m8];rw[lW.mpr H]
   rw[bf,bf,jV]at g;rw[g.2.2 _ n _ (.head _) rfl]
  have h:zB x w D it done.length ns q F (qE x w D<|(done++q::rest).map cU):=λT t vo y nw l b=>by have u:=C (t:=t) (vo:=vo) (ns:=y::ns) (nw:=nw) (l _ _ j) (l _ _ Y) (e▸A.to l) (λr U=>m r<|.tail _ U) (by simp only[uF,bf,bf,k];rw[congrArg _<|congrArg (λy=>[y]) b]) (e▸g) (by simp;rw[Dg i]);rw[cJ,<-e]at u;rw[u]
  obtain⟨R,S,d⟩:=q;cases d with
  |none=>rw[aqr (m _<|.head _) j Y X G c (vm i f) h]
  |some E=>rw[QD (q:=some _) (m _<|.head _) j Y X G c (vm i f) h]
def Zi(c:F w.r (aa #[rs] nr))(Y:F (w.z+1) (aC<|some<|.ref K))(A:aM F (((J,hi,some m)::rest).map d5) rs)(d:∀r∈(J,hi,some m)::rest,gk r)(g:((((J,hi,some m)::rest).map cU).map (·.1)).Nodup)(i:rest.length<=900):ay x aj 590 (dZ w.z 1 it) F [(it,ba w.r 0),xA x w,(w.z+2,aC none),(K,ak [] nw)] (qE x w K<|((J,hi,some m)::rest).map cU):=aJ (A.get 0 rfl) λv X G=>.perm (pm [[(it,ba w.r 0)],[xA x w,(w.z+2,aC none)],_] (.p (.a 0)<|.p (.a 1)<|.a 2) (.p (.p (.a 1)<|.a 0)<|.a 2) rfl)<|QD (q:=none) (ns:=[]) (d _<|.head _) c Y X G (λU=>(cQ U).elim) (dw _) λT D z y nw l b=>afn (done:=[(J,hi,some m)]) (l _ _ c) (l _ _ Y) (A.to l) (λr U=>d r<|.tail _ U) (congrArg (λy=>[y]) b) g<|Mp i
end
def yL:∀{l:!(!N×N)},aM F ((l.map (·.1)).map .str) (l.map ax):=by
 intro J;induction J with
 |nil=>rw[.nil]
 |cons p l C=>rw[.cons (c9.mpr #[p.2,rfl]) C]
def Xw:∀{l:!Wn},(∀n∈l,F n.a<|aa #[n.ws.map ax] n.n)->bS F (l.map Wn.e) (gy<|l.map Wn.d):=by
 intro J;induction J with
 |nil=>intro _;rw[.nil]
 |cons n l C=>intro U;rw[.cons (dT.mpr<|gC n.a _ n.n rfl (U n<|.head _) yL)<|C λE H=>U E<|.tail _ H]
def Xx:∀{l:!Wn},(∀n∈l,n.k≠a->F n.a (aa #[n.ws.map ax] n.n))->(∀n∈l,n.k=a->F n.a (aa #[(n.ws++[(b,q)]).map ax] m))->bS F (l.map Wn.e) (gy<|gT (l.map Wn.d) a b):=by
 intro J;induction J with
 |nil=>intro _ _;rw[.nil]
 |cons n l C=>
  intro U z;have C:=C (λm H=>U m<|.tail _ H) λm H=>z m<|.tail _ H;by_cases e:n.k=a
  .have:=bS.cons (k:=n.k) (t:=n.kt) (dT.mpr<|gC n.a _ m rfl (z n (.head _) e) yL) C
   have O:gy (gT ((n::l).map Wn.d) a b)=(n.k,.lst<|((n.ws++[(b,q)]).map (·.1)).map .str)::gy (gT (l.map Wn.d) a b):=by simp[gT,e]
   rw[O,];rw[this]
  .have:=bS.cons (k:=n.k) (t:=n.kt) (dT.mpr<|gC n.a _ n.n rfl (U n (.head _) e) yL) C
   have O:gy (gT ((n::l).map Wn.d) a b)=(n.k,.lst<|(n.ws.map (·.1)).map .str)::gy (gT (l.map Wn.d) a b):=by simp[gT,e]
   rw[O,];rw[this]
section
variable{x:Wd}
inductive GA (x:Wd) (w:gB) (wd:N) (W:b4) (F':Fs):aL->ao->Prop
 |mk (t vo es nw) (h1:F' wd (ak (aB x.P es) nw)) (h2:bS F' es (gy W)):GA x w wd W F' (.ok .next) [ge x w t,(w.z+2,aC vo)]
def R_{W:b4}(g:ay x J b c F L (qE x w G W)):ay x J b c F L (GA x w G W):=
 g.ud λr T h U q=>by
  rw[q.casesOn λD z s C k=>?_];rw[j9 (jQ x G s C::s.map Wn.ob) _ r_ #[D,z,s.reverse.map Wn.e,C,bc<|.head _,by rw[k▸Xw λn a=>bc<|.tail _<|bw (f:=Wn.ob)<|lW.mp a]]]
inductive Gz (x:Wd) (w:gB) (wd:N) (W:b4) (a b:!N) (F':Fs):aL->ao->Prop
 |mk (t vo es nw) (ra n kt:N) (ws:!(!N×N)) (h1:F' wd (ak (aB x.P es) nw)) (h2:aZ es a=some (kt,.ref ra)) (h3:ws.length<=1000) (h4:∀F3 q m,Le F' F3->F3 ra (aa #[(ws++[(b,q)]).map ax] m)->bS F3 es (gy (gT W a b))):Gz x w wd W a b F' (.ok .next) [ge x w t,(w.z+2,aC vo),(ra,aa #[ws.map ax] n)]
def mJ{v:D}:∀{l},(l.map (·.1)).Nodup->(k,v)∈l->aZ l k=some v
 |e::l,hn,U=>by
  rw[bV,c_]at hn;show(if e.1=k then _ else _)=_;rcases aY.mp U with rfl|U
  .rw[if_pos rfl,]
  .rw[if_neg λ(q:e.1=k)=>hn.1<|q▸bw U,]
   rw[mJ hn.2 U]
def R9{W:b4}(g:(W.map (·.1)).Nodup)(o:a∈W.map (·.1))(hz:∀p∈W,p.2.length<=1000)(A:ay x U J c F L (qE x w G W)):ay x U J c F L (Gz x w G W a b):=
 A.ud λr T h _ q=>by
  rw[q.casesOn λD z s C k=>?_];subst k;rw[bI,m8]at g o;have i:(s.map Wn.k).Nodup:=(List.reverse_perm _).nodup_iff.mp g;rw[aJ (bn.mp<|lW.mp o) λy t P=>?_];subst P;rw[fU (FA t) λu H P=>?_];subst P;have M:∀n∈u++y::H,n.k=y.k->n=y:=λn j e=>by
   rw[bf,bV,jV,c_]at i;obtain⟨_,⟨R,_⟩,d⟩:=i;rcases ej.mp j with j|j
   .rw[absurd e<|d _ (bw j) _<|.head _]
   .rcases aY.mp j with rfl|j
    .rfl
    .rw[absurd (e▸bw j) R]
  rw[j9 (jQ x G (u++y::H) C::(u++H).map Wn.ob) _ ?_ #[D,z,(u++y::H).reverse.map Wn.e,C,y.a,y.n,y.kt,y.ws,bc<|.head _,?_,?_,λK q E l B=>?_]]
  .simp only[bf,bf,bV]
   rw[pm [[ge x w D,(w.z+2,aC z)],[jQ x G (u++y::H) C],u.map Wn.ob,[y.ob],H.map Wn.ob] (.p (.a 0)<|.p (.a 1)<|.p (.a 2)<|.p (.a 3)<|.a 4) (.p (.p (.a 1)<|.p (.a 2)<|.a 4)<|.p (.a 0)<|.a 3) rfl]
  .rw[mJ ?_<|bw<|lW.mpr t]
   rw[bI,m8];rw[g]
  .have:=hz _<|bw<|lW.mpr t
   rwa[aU]at this
  .rw[Xx (q:=q) (m:=E) (λn j e=>l _ _<|bc<|.tail _<|bw (f:=Wn.ob) ?_) λn j e=>?_]
   .rcases ej.mp (lW.mp j)with j|j
    .rw[fZ _ j]
    .rcases aY.mp j with rfl|j
     .rw[absurd rfl e]
     .rw[dX _ j]
   .rw[(M n (lW.mp j) e)▸B]
abbrev SD:=!N×N×(N×N)
abbrev dk(e:SD):De:=(e.1,e.2.1,aO e.2.2)
abbrev b6(e:SD):!N×N:=(e.1,e.2.2.1)
structure kx (F:Fs) (au:!(N×SD)) (S:fM):Prop where
 at_:∀p∈au,F p.1 (aD [ax (p.2.1,p.2.2.1),aO p.2.2.2])
 s:au.map (λp=>b6 p.2)=S
def kx.to{F F':Fs}(T:Le F F'){au:!(N×SD)}{S:fM}(h:kx F au S):kx F' au S:=#[λp I=>T _ _<|h.at_ p I,h.s]
def kx.push{F:Fs}{au:!(N×SD)}{S:fM}(h:kx F au S){a:N}{e:SD}(o:F a (aD [ax (e.1,e.2.1),aO e.2.2])):kx F (au++[(a,e)]) (S++[b6 e]):=#[λp I=>(ej.mp I).elim (h.at_ p) λI=>by rw[(iy.mp I)▸o],by rw[bf▸h.s▸?_];rfl]
abbrev iP(au:!(N×SD)):!af:=au.map λp=>aF p.1
abbrev fy(x:Wd)(z it:N)(es:!De)(nw i:N):aH×Obj:=(it,eS (z+6) (i:Int) ((aB x.P es).length:Int)<|ad nw)
def rD{i nw:N}(h:es[i]? =some (k,kt,v)):gS true (.type "dict_keyiterator") (.type "dict") (aB P es) nw (i:Int) ((aB P es).length:Int) (ad nw) (.str #[#[k]] kt):=
 #[rfl,dK,rfl,rfl,kX _,V P #[#[k]] kt v,by simp only[Fv];unfold aB;simp only[fi,h];rfl,rfl]
def Eg:qC true (.type "dict_keyiterator") (.type "dict") (aB P es) nw (es.length:Int) ((aB P es).length:Int) (ad nw):=#[rfl,dK,rfl,rfl,by unfold aB;rw[aU,]]
def QF{z it ac H nw na i:N}(Y:F (z+6) (ak (aB x.P es) nw))(hi:es[i]? =some (k,kt,v))(hz:D.length<=1000)(h:∀F' y a b d,Le F F'->F' a (aD [ax (k,kt),aO (0,b)])->ay x aj 590 (cc z 1 it ac H) F' [fy x z it es nw<|i+1,(ac,aa #[D++[.ref a]] d),dN x H<|some y] Q):ay x aj 590 (cc z 1 it ac H) F [fy x z it es nw i,(ac,aa #[D] na),dN x H o] Q:=iU (O:=[(z+6,ak (aB x.P es) nw)]) #[Y,ab] λB K=>bu (WC o x) ab #[fY<|g_ hz,rD hi,ab] rfl (aV)<|.pu (L1:=[_])<|h _ _ _ _ _ an<|bc<|.head _
inductive Ac (x:Wd) (ac cl:N) (S:fM) (F':Fs):aL->ao->Prop
 |mk (au na y) (h1:kx F' au S):Ac x ac cl S F' (.ok .next) [(ac,aa #[iP au] na),dN x cl (some y)]
def afp{z it ac H nw:N}:∀{rest done au na y F},F (z+6) (ak (aB x.P<|done++rest) nw)->kx F au (done.map λe=>(e.1,0))->done.length+rest.length<=1000->ay x aj 590 (cc z 1 it ac H) F [fy x z it (done++rest) nw done.length,(ac,aa #[iP au] na),dN x H<|some y] (Ac x ac H<|(done++rest).map λe=>(e.1,0)):=by
 intro rest;induction rest with
 |nil=>intro done au na y F Y I i;rw[bQ]at Y⊢;rw[bJ (L:=[fy x z it done nw done.length]) (O:=[(z+6,ak (aB x.P done) nw)]) #[Y,ab] λB K=>bp (WA B K z (z+6) it nw ac H (aB x.P done) _ _ _ x) ab #[Eg,ab] (aV) #[au,na,y,I.to an]]
 |cons e rest C=>
  intro done au na y F Y I i;have M:=congrArg gR I.s;simp only[aU,aU]at M;refine QF (k:=e.1) (kt:=e.2.1) (v:=e.2.2) Y (by simp) (by rw[aU,];rw[vm i M]) λT y a b d l o=>?_;have G:done++e::rest=(done++[e])++rest:=by simp
  have z:=C (au:=au++[(a,e.1,e.2.1,0,b)]) (na:=d) (y:=y) (G▸l _ _ Y) (by rw[bf,];rw[(I.to l).push o]) (by simp;rw[Dg i]);rw[cJ,<-G]at z;unfold iP at z;rw[bf]at z;rw[z]
def Hj{z it ac H nw na:N}(Y:F (z+6) (ak (aB x.P es) nw))(j:es≠[])(i:es.length<=1000):ay x aj 590 (gw z 1 it ac H) F [fy x z it es nw 0,(ac,aa #[[]] na),(H,ak [] 0)] (Ac x ac H<|es.map λe=>(e.1,0)):=by rw[fU (jT j) λe Q P=>?_];subst P;rw[bJ (L:=[fy x z it (e::Q) nw 0]) (O:=[]) ab λB K=>bu (WB B K z (z+6) it ac H _ _ _ x) ab ab rfl (aV)<|QF (o:=none) (an _ _ Y) rfl (dw _) λT y a b d l c=>afp (done:=[e]) (au:=[(a,e.1,e.2.1,0,b)]) (l _ _<|an _ _ Y) ⟨λp I=>by rw[(iy.mp I)▸c],rfl⟩<|agm i]
inductive GF (x:Wd) (d:N) (S:fM) (F':Fs):aL->ao->Prop
 |mk (n') (es:!SD) (h:es.map b6=S):GF x d S F' (.ok (.ret .none)) [(d,ak (aB x.P (es.map dk)) n')]
def E1(O:D.v=.none){au:!(N×SD)}(a:F l (aa #[iP au] nl))(I:kx F au S)(hz:au.length<=1000)(w:(S.map (·.1)).Nodup):ay x D b (.builtin "dict.update.loop" #[[.ref d,.ref it,.int 0 0,.none],[]]) F [(it,#[.type "list_iterator",none,.fields #[[.ref l,.int 0 0]],#[[]]]),(d,ak [] n)] (GF x d S):=
 (RM O (rest:=au.map λp=>(p.1,dk p.2)) (ps:=[]) (es:=[]) rfl rfl (by simp only[qn,bI];rw[a]) (λp j=>by
  rw[aJ (bn.mp j) λq u P=>?_];subst P;rw[I.at_ q u]) (by simp;rw[agn hz]) (by
  simp only[qn,bI,bI,<-I.s,bI]at*;rw[w])).post λr T h U q=>by rw[qn,show(au.map λp=>(p.1,dk p.2)).map (·.2)=(au.map (·.2)).map dk by simp only[bI,bI];rfl]at q;rw[q.casesOn λi=>j9 _ [] (.of_eq (bQ _).symm) #[i,au.map (·.2),by rw[bI,];rw[I.s]]]
end
def bS.at_{F:Fs}{l:!De}{m:!(!N×PV)}(h:bS F l m):∀{i:N} {k:!N} {t:N} {v:af},l[i]? =some (k,t,v)->∃p,m[i]? =some (k,p)/\Rp F p v:=by
 induction h with
 |nil=>intro i k t v e;cases e
 |cons h _ C=>
  intro i k t v e;cases i with
  |zero=>cases e;rw[bA _ rfl h]
  |succ i=>rw[C e]
set_option tactic.hygienic true in
def ED:∀{D:!SD},aZ (D.map b6) o=some m->∃t mt,aZ (D.map dk) o=some (t,aO (m,mt)):=by
 intro J;induction J with
 |nil=>intro U;rw[nn U]
 |cons e D C=>
  intro U;rw[bV,aZ]at U⊢;split at U
  .rename_i q
   rw[(if_pos q)▸?_];cases U;rw[j8 _ _ rfl]
  .rename_i q
   rw[(if_neg q)▸C U]
def iG(h:aZ es k=some (t,v)):cR (.type "dict") (aB P es) #[#[k]] v:=#[dK,jN _ _,by rw[lp,h];rfl]
structure Wl (x:Wd) (F:Fs) (z nw:N) (es:!De) (W:b4):Prop where
 d:F (z+6) (ak (aB x.P es) nw)
 c:F (z+1) (aC (some (.ref (z+6))))
 r:bS F es (gy W)
 n:(W.map (·.1)).Nodup
 l:∀p∈W,p.2.length<=3
def Wl.to{x:Wd}{F F':Fs}(T:Le F F'){z nw:N}{es:!De}{W:b4}(h:Wl x F z nw es W):Wl x F' z nw es W:=#[T _ _ h.d,T _ _ h.c,h.r.to T,h.n,h.l]
def Wl.len{x:Wd}{F:Fs}{z nw:N}{es:!De}{W:b4}(h:Wl x F z nw es W):es.length=W.length:=by have:=h.r.length;rwa[aU]at this
def Wl.at_{x:Wd}{F:Fs}{z nw:N}{es:!De}{W:b4}(h:Wl x F z nw es W){i:N}{k:!N}{os:!(!N)}(e:W[i]? =some (k,os)):∃kt n nl,∃R:!(!N×N),es[i]? =some (k,kt,.ref n)/\aZ es k=some (kt,.ref n)/\F n (aa #[R.map ax] nl)/\R.map (·.1)=os:=by
 have S:i<W.length:=by
  rcases sg i W.length with h|h
  .rw[h]
  .rw[FK h]at e;cases e
 simp only[<-h.len]at S;rw[aJ (h.r.at_ (k:=(es[i]).1) (t:=(es[i]).2.1) (v:=(es[i]).2.2)<|eG S) λp b M=>?_];rw[fi,e]at b;injection b with b;injection b with b X;dsimp only at b X;subst X;rw[gV (dT.mp M) λn Q nl j Y L=>?_];have a:∀{os:!(!N)} {Q:!af},aM F (os.map .str) Q->∃R:!(!N×N),Q=R.map ax/\R.map (·.1)=os:=by
  intro os;induction os with
  |nil=>intro Q h;rw[bA [] (er.mp h) rfl]
  |cons l os C=>intro Q h;rw[cp (cq.mp h) λv J P g Z=>?_];subst P;rw[dm (c9.mp g) λD c=>?_];subst c;rw[aJ (C Z) λR c P=>?_];subst c;subst P;rw[bA ((l,D)::R) rfl rfl]
 rw[aJ (a L) λR c d=>?_];subst c;have f:es[i]? =some (k,(es[i]).2.1,.ref n):=by rw[eG S,];rw[congrArg some (by rw[b,<-j])]
 rw[Jp ((es[i]).2.1) n nl R f (mJ ?_<|uE f) Y d];simp only[h.r.keys];rw[bI,];rw[h.n]
abbrev fD(S:fM)(os:!(!N)):N:=mx (0::os.map λY=>(aZ S Y).getD 0+1)
section
variable{x:Wd}
abbrev fg(z sd:N):aH×Obj:=(z+3,aC<|some<|.ref sd)
abbrev uB(x:Wd)(z it ac H sd nw i:N)(es:!De)(j:!af)(k:!N)(kt n:N)(F:Fs)(Q:Po):Prop:=∀T y a s d,Le F T->T a (aD [ax (k,kt),aO (n,s)])->ay x aj 580 (cc z 2 it ac H) T [fy x z it es nw<|i+1,(ac,aa #[j++[.ref a]] d),dN x H<|some y,fg z sd] Q
def yw:[a,b,c,d].Perm ([a,c,d]++([b]++[])):=.cons a<|.symm<|r_
def yx:[a,b,c,d].Perm [a,d,b,c]:=.cons a<|r_ (l₁:=[b,c])
def yy(j:l≠[]):kA x F b aj (.call (.builtin "max") #[[.ref p],[]]) [(p,aa #[l.map aO] n)] (pN<|mx<|l.map (·.1)):=λw S m s A K C B=>gL (Ya (R:=λr T h=>h=[]/\∃L,r=pN _ L) j C.2.1 B (bc<|.head _) λD=>#[rfl,D,rfl]) λr P z=>cp z λT h l H q=>ct q λe q=>dm q λL U=>bX T L l (by subst e;rw[H]) U
def aqs{z it ac H sd nw na ns n nl i kt:N}(Y:F (z+6) (ak (aB x.P es) nw))(d:F (z+1) (aC<|some<|.ref<|z+6))(hs:F sd (ak (aB x.P J) ns))(hi:es[i]? =some (k,kt,.ref n))(hk:aZ es k=some (kt,.ref n))(a:F n (aa #[[]] nl))(hz:G.length<=1000)(h:uB x z it ac H sd nw i es G k kt (mx [0]) F Q):ay x aj 580 (cc z 2 it ac H) F [fy x z it es nw i,(ac,aa #[G] na),dN x H o,fg z sd] Q:=.perm yw<|rO (O:=[(z+6,ak (aB x.P es) nw),(z+1,aC (some (.ref (z+6)))),(sd,ak (aB x.P J) ns),(n,aa #[[]] nl)]) #[Y,d,hs,a,ab] λB K=>gZ 1 λS u m D s=>bu (Wh o x) ab #[fY<|g_ hz,yy (l:=[(0,K+1)])<|dl _ _,#[by kernel_rfl,show 1+0<=16777216 by decide],iG hk,rD hi,ab] rfl u<|.pu (L1:=[_,_,_])<|.perm yx<|h _ _ _ _ _ (cb u)<|bc<|.head _
def aqt{z it ac H sd nw na ns n nl i kt:N}{c a w g:N}(Y:F (z+6) (ak (aB x.P es) nw))(d:F (z+1) (aC<|some<|.ref<|z+6))(hs:F sd (ak (aB x.P J) ns))(hi:es[i]? =some (k,kt,.ref n))(hk:aZ es k=some (kt,.ref n))(e:F n (aa #[[.str #[#[U]] c]] nl))(b:aZ J U=some (g,aO (a,w)))(hz:G.length<=1000)(h:uB x z it ac H sd nw i es G k kt (mx [0,a+1]) F Q):ay x aj 580 (cc z 2 it ac H) F [fy x z it es nw i,(ac,aa #[G] na),dN x H o,fg z sd] Q:=.perm yw<|rO (O:=[(z+6,ak (aB x.P es) nw),(z+1,aC (some (.ref (z+6)))),(sd,ak (aB x.P J) ns),(n,aa #[_] nl)]) #[Y,d,hs,e,ab] λB K=>gZ 1 λS u m D s=>bu (Wi o x) ab #[fY<|g_ hz,yy (l:=[(0,K+1),(a+1,K+6)])<|dl _ _,#[by kernel_rfl,show 1+1<=16777216 by decide],iG b,iG hk,rD hi,ab] rfl u<|.pu (L1:=[_,_,_])<|.perm yx<|h _ _ _ _ _ (cb u)<|bc<|.head _
def aqu{z it ac H sd nw na ns n nl i kt:N}{c a w g:N}{p:!N}{J T t Z:N}(Y:F (z+6) (ak (aB x.P es) nw))(d:F (z+1) (aC<|some<|.ref<|z+6))(hs:F sd (ak (aB x.P G) ns))(hi:es[i]? =some (k,kt,.ref n))(hk:aZ es k=some (kt,.ref n))(e:F n (aa #[[.str #[#[a6]] c,.str #[#[p]] J]] nl))(b:aZ G a6=some (g,aO (a,w)))(M:aZ G p=some (Z,aO (T,t)))(hz:U.length<=1000)(h:uB x z it ac H sd nw i es U k kt (mx [0,a+1,T+1]) F Q):ay x aj 580 (cc z 2 it ac H) F [fy x z it es nw i,(ac,aa #[U] na),dN x H o,fg z sd] Q:=.perm yw<|rO (O:=[(z+6,ak (aB x.P es) nw),(z+1,aC (some (.ref (z+6)))),(sd,ak (aB x.P G) ns),(n,aa #[_] nl)]) #[Y,d,hs,e,ab] λB K=>gZ 1 λS u m D s=>bu (Wj o x) ab #[fY<|g_ hz,yy (l:=[(0,K+1),(a+1,K+6),(T+1,K+10)])<|dl _ _,#[by kernel_rfl,show 1+2<=16777216 by decide],iG M,iG b,iG hk,rD hi,ab] rfl u<|.pu (L1:=[_,_,_])<|.perm yx<|h _ _ _ _ _ (cb u)<|bc<|.head _
def aqv{z it ac H sd nw na ns n nl i kt:N}{c b w g:N}{p:!N}{J T t Z:N}{I:!N}{r a q S:N}(Y:F (z+6) (ak (aB x.P es) nw))(d:F (z+1) (aC<|some<|.ref<|z+6))(hs:F sd (ak (aB x.P G) ns))(hi:es[i]? =some (k,kt,.ref n))(hk:aZ es k=some (kt,.ref n))(f:F n (aa #[[.str #[#[a6]] c,.str #[#[p]] J,.str #[#[I]] r]] nl))(e:aZ G a6=some (g,aO (b,w)))(M:aZ G p=some (Z,aO (T,t)))(X:aZ G I=some (S,aO (a,q)))(hz:U.length<=1000)(h:uB x z it ac H sd nw i es U k kt (mx [0,b+1,T+1,a+1]) F Q):ay x aj 580 (cc z 2 it ac H) F [fy x z it es nw i,(ac,aa #[U] na),dN x H o,fg z sd] Q:=.perm yw<|rO (O:=[(z+6,ak (aB x.P es) nw),(z+1,aC (some (.ref (z+6)))),(sd,ak (aB x.P G) ns),(n,aa #[_] nl)]) #[Y,d,hs,f,ab] λB K=>gZ 1 λj u m D s=>bu (Wm o x) ab #[fY<|g_ hz,yy (l:=[(0,K+1),(b+1,K+6),(T+1,K+10),(a+1,K+14)])<|dl _ _,#[by kernel_rfl,show 1+3<=16777216 by decide],iG X,iG M,iG e,iG hk,rD hi,ab] rfl u<|.pu (L1:=[_,_,_])<|.perm yx<|h _ _ _ _ _ (cb u)<|bc<|.head _
def QG{z it ac H sd nw na ns i:N}{W:b4}{f:!SD}{os:!(!N)}(g:Wl x F z nw es W)(hs:F sd (ak (aB x.P<|f.map dk) ns))(e:W[i]? =some (k,os))(L:∀o∈os,∃m,aZ (f.map b6) o=some m)(hz:a6.length<=1000)(h:∀kt,uB x z it ac H sd nw i es a6 k kt (fD (f.map b6) os) F Q):ay x aj 580 (cc z 2 it ac H) F [fy x z it es nw i,(ac,aa #[a6] na),dN x H o,fg z sd] Q:=by
 rw[HL (g.at_ e) λkt n A R p M X l=>?_];subst l;have u:=g.l _<|uE e;rw[aU]at u;have h:=h kt;have d:∀y∈R,∃m D s,aZ (f.map dk) y.1=some (D,aO (m,s))/\(aZ (f.map b6) y.1).getD 0+1=m+1:=λy b=>by rw[dm (L y.1<|bw b) λm B=>fU (ED B) λD s U=>u_ m D s U (by rw[B,];rfl)]
 revert X h d
 rw[le3 ?_ (λc=>?_) (λc J=>?_) (λc J r=>?_) R u]<;>intro X h d
 .rw[aqs g.d g.c hs p M X hz h]
 .rw[je (d c<|.head _) λC Y w j K=>?_]
  simp only[fD,bV,r8,K]at h;rw[aqt g.d g.c hs p M X j hz h]
 .rw[je (d c<|.head _) λC Y w j K=>je (d J<|.tail _<|.head _) λT G t Z O=>?_]
  simp only[fD,bV,r8,K,O]at h;rw[aqu g.d g.c hs p M X j Z hz h]
 .rw[je (d c<|.head _) λC Y w j K=>je (d J<|.tail _<|.head _) λT G t Z O=>je (d r<|.tail _<|.tail _<|.head _) λa E q S I=>?_]
  simp only[fD,bV,r8,K,O,I]at h;rw[aqv g.d g.c hs p M X j Z S hz h]
inductive Af (x:Wd) (z ac cl sd:N) (S:fM) (F':Fs):aL->ao->Prop
 |mk (au na y) (h1:kx F' au S):Af x z ac cl sd S F' (.ok .next) [(ac,aa #[iP au] na),dN x cl (some y),fg z sd]
def zo(W:b4)(S:fM):Prop:=∀p∈W,∀Y∈p.2,∃E,aZ S Y=some E
def afq{z it ac H sd nw ns:N}{W:b4}{f:!SD}(c:zo W (f.map b6))(b:W.length<=1000):∀{n i au na y F},Wl x F z nw es W->F sd (ak (aB x.P<|f.map dk) ns)->kx F au ((W.take i).map λp=>(p.1,fD (f.map b6) p.2))->i+n=W.length->ay x aj 580 (cc z 2 it ac H) F [fy x z it es nw i,(ac,aa #[iP au] na),dN x H<|some y,fg z sd] (Af x z ac H sd<|rM W<|f.map b6):=by
 intro n;induction n with
 |zero=>
  intro i au na y F g o I w;have e:i=es.length:=by simp only[g.len];rw[Md w]
  subst e;simp only[qp<|Me w]at I;rw[bJ (L:=[fy x z it es nw es.length]) (O:=[(z+6,ak (aB x.P es) nw)]) #[g.d,ab] λB K=>bp (WD z it ac H B K nw _ _ _ (aB x.P es) x) ab #[Eg,ab] (aV) #[au,na,y,I.to an]]
 |succ n C=>intro i au na y F g o I w;have S:=rt w;rw[QG g o (k:=(W[i]).1) (os:=(W[i]).2) (eG S) (c _<|m6 S) (ye I.s b) λh T y a s d l j=>?_];have z:=C (au:=au++[(a,(W[i]).1,h,fD (f.map b6) (W[i]).2,s)]) (na:=d) (y:=y) (g.to l) (l _ _ o) (by simp only[lX S,bf];rw[(I.to l).push j])<|pG w;unfold iP at z;rw[bf]at z;rw[z]
def Hk{z it ac H sd nw ns na:N}{W:b4}{f:!SD}(b:zo W (f.map b6))(j:W≠[])(i:W.length<=1000)(g:Wl x F z nw es W)(hs:F sd (ak (aB x.P<|f.map dk) ns)):ay x aj 580 (gw z 2 it ac H) F [fy x z it es nw 0,(ac,aa #[[]] na),(H,ak [] 0),fg z sd] (Af x z ac H sd<|rM W<|f.map b6):=by have S:=m7.mpr j;rw[bJ (L:=[fy x z it es nw 0]) (O:=[]) ab λB K=>bu (WE z it ac H B K _ _ _ x) ab ab rfl (aV)<|QG (o:=none) (g.to an) (an _ _ hs) (k:=(W[0]).1) (os:=(W[0]).2) (eG S) (b _<|m6 S) (dw _) λh T y a s d l c=>afq b i (au:=[(a,(W[0]).1,h,fD (f.map b6) (W[0]).2,s)]) (g.to λa Y U=>l a Y<|an a Y U) (l _ _<|an _ _ hs) ⟨λp I=>by rw[(iy.mp I)▸c],by rw[(lX S)▸?_];rfl⟩<|tS S]
end
def yu:∀{l:!(!N×D)},k∈l.map (·.1)->∃v,aZ l k=some v
 |e::l,U=>by
  simp only[aZ];by_cases q:e.1=k
  .rw[(if_pos q)▸#[_,rfl]]
  .rw[(if_neg q)▸(yu<|(aY.mp U).resolve_left λU=>q U.symm)]
def lR(W):∀k,(bY W k).map (·.1)=W.map (·.1)
 |0=>by show(W.map _).map _=_;rw[bI,];rfl
 |n+1=>by show(W.map _).map _=_;rw[bI,];rfl
def jv(W:b4):Prop:=∀p∈W,∀Y∈p.2,Y∈W.map (·.1)
def jv.steps{W:b4}(h:jv W)(k:N):zo W (bY W k):=λp I Y m=>yu (by rw[lR,];rw[h p I Y m])
section
variable{x:Wd}
inductive Tq (x:Wd) (hd:Mk) (b:N) (F0:Fs) (Q:Po) (k0:aL->aR->av) (Z:ao) (r:aL) (F':Fs) (L':ao):Prop where
 |mk (L3 Y3:ao) (pm:(L'++Z).Perm (L3++Y3)) (h:!N) (gv:!af) (O:ao) (hO:gz F' O) (k:∀n t,1<n->Go x hd b F0 Q F' Y3 λU=>k0 r (cf L3 n t h gv O U))
def ars(P):(T P 913).isSome=true:=by kernel_rfl
def Iw{K:aL->aR->av}{au:!Prop}{Lc Z:ao}(e:∀Z,Ev (o Z) Z bl (.pend a6 bb c K) L1 L2 a7 au)(y:AB a7)(I:AP au)(h:(L1++Y).Perm (Lc++Z))(g:ay x bb a6 c (fz F L2) Lc Qc)(k:∀r F' L',Le (fz F L2) F'->Qc F' r L'->Tq x a8 b F0 Q K Z r F' L'):Go x a8 b F0 Q F Y o:=λw m A C j=>by rw[u6 (e<|Y++w) y I λz S M s n d u=>gL (u5<|g (Z++w) m s n u<|.side S M j d h) λr P L=>cp L λF' L' l H q=>?_];obtain⟨t,f,G,U,O,J,R,W⟩:=k r F' L' l q;rw[<-bZ]at H;have p:=H.perm<|G.append_right w;rw[bZ]at p;obtain⟨D,i⟩:=uL.mp<|ars x.P;rw[⟨F',λa o U=>l a o<|.inl U,_,p.run R,W _ _ (sj ζ<|iI<|p.rep.fr _ _<|p.base.top 913 D i) w m A C p.base⟩]
abbrev jA(x:Wd)(w:gB)(t:iL)(f5:N)(v5:af):aH×Obj:=(w.z,az (gW x w t [V x.P eu f5 v5]) 6)
abbrev Fw(x:Wd)(w:gB)(t:iL)(W:b4)(it k n:N)(F:Fs)(Q:Po):Prop:=∀T a c m s,∀sl:!SD,Le F T->1<m->T m (ak (aB x.P<|sl.map dk) s)->sl.map b6=bY W (k+1)->ay x aj 590 (dZ w.z 6 it) T [jA x w t a c,(it,eD k n),fg w.z m] Q
def arE{W:b4}{f:!SD}(l:jv W)(j:W≠[])(i:W.length<=1000)(g:Wl x F w.z nw es W)(hs:F sd (ak (aB x.P<|f.map dk) ns))(hk:f.map b6=bY W k)(h:Fw x w t W it k n F Q):ay x aj 590 (dZ w.z 6 it) F [ge x w t,(it,cG k<|n+1),fg w.z sd] Q:=by
 rw[bJ (L:=[ge x w t,(it,cG k<|n+1)]) (O:=[(w.z+1,aC<|some<|.ref<|w.z+6),(w.z+6,ak (aB x.P es) nw)]) ⟨g.c,g.d,ab⟩ λB K=>Iw (Z:=[jA x w t (K+1)<|.int (ad k) K,(it,eD k n)]) (W4 w t B K it k nw n (aB x.P es) x) ab ab (pm [[fy x w.z B es nw 0,(B+1,aa #[[]] 0),(B+2,ak [] 0)],_,[fg w.z sd]] (.p (.p (.a 0)<|.a 1)<|.a 2) (.p (.p (.a 0)<|.a 2)<|.a 1) rfl) ((Hk (hk▸l.steps k) j i (g.to an)<|an _ _ hs).le ζ λ_ _ _ _ U=>U) λr S P u q=>q.casesOn λs C y I=>?_];have m:((rM W<|f.map b6).map (·.1)).Nodup:=by rw[hk,];show((bY W<|k+1).map (·.1)).Nodup;rw[lR,];rw[g.n]
 rw[#[_,[fg w.z sd],pm [[(B+1,aa #[iP s] C),dN x (B+2)<|some y],[fg w.z sd],_] (.p (.p (.a 0)<|.a 1)<|.a 2) (.p (.p (.a 2)<|.a 0)<|.a 1) rfl,_,_,[],ab,λJ G c=>bP (Z:=[jA x w t (K+1)<|.int (ad k) K,(it,eD k n),fg w.z sd]) (W6 w t B K it k J G C y.1 n (iP s) y.2 x) ab ab (.refl _) (E1 rfl (bc<|.head _) (I.to an) (MC i (by have:=congrArg gR I.s;simpa[rM]using this)) m) λr o b H q=>(q.casesOn λd e M=>#[_,[],pm [[(J,ak (aB x.P<|e.map dk) d)],_] (.p (.a 0)<|.a 1) (.p (.p (.a 1)<|.a 0) .z) rfl,_,_,[],ab,λD E=>bu (W0 w t B K it k J D E d n (some<|.ref sd) (aB x.P<|e.map dk) x) ab ab rfl (dP (cb<|bN u) H)<|h _ (K+1) (.int (ad k) K) J d e (cb<|dP (cb<|bN u) H) c (bc<|.head _) (by simp only[M,hk];rfl)])]]
def arF{W:b4}{f:!SD}(l:jv W)(j:W≠[])(i:W.length<=1000)(g:Wl x F w.z nw es W)(hs:F sd (ak (aB x.P<|f.map dk) ns))(hk:f.map b6=bY W k)(h:Fw x w t W it k n F Q):ay x aj 590 (dZ w.z 6 it) F [jA x w t f5 v5,(it,cG k<|n+1),fg w.z sd] Q:=by
 rw[bJ (L:=[jA x w t f5 v5,(it,cG k<|n+1)]) (O:=[(w.z+1,aC<|some<|.ref<|w.z+6),(w.z+6,ak (aB x.P es) nw)]) ⟨g.c,g.d,ab⟩ λB K=>Iw (Z:=[jA x w t f5<|.int (ad k) K,(it,eD k n)]) (W5 w t B K it k nw n f5 (aB x.P es) v5 x) ab ab (pm [[fy x w.z B es nw 0,(B+1,aa #[[]] 0),(B+2,ak [] 0)],_,[fg w.z sd]] (.p (.p (.a 0)<|.a 1)<|.a 2) (.p (.p (.a 0)<|.a 2)<|.a 1) rfl) ((Hk (hk▸l.steps k) j i (g.to an)<|an _ _ hs).le ζ λ_ _ _ _ U=>U) λr S P u q=>q.casesOn λs C y I=>?_];have m:((rM W<|f.map b6).map (·.1)).Nodup:=by rw[hk,];show((bY W<|k+1).map (·.1)).Nodup;rw[lR,];rw[g.n]
 rw[#[_,[fg w.z sd],pm [[(B+1,aa #[iP s] C),dN x (B+2)<|some y],[fg w.z sd],_] (.p (.p (.a 0)<|.a 1)<|.a 2) (.p (.p (.a 2)<|.a 0)<|.a 1) rfl,_,_,[],ab,λJ G c=>bP (Z:=[jA x w t f5<|.int (ad k) K,(it,eD k n),fg w.z sd]) (W8 w t B K it k J G C y.1 n f5 (iP s) y.2 x) ab ab (.refl _) (E1 rfl (bc<|.head _) (I.to an) (MC i (by have:=congrArg gR I.s;simpa[rM]using this)) m) λr o b H q=>(q.casesOn λd e M=>#[_,[],pm [[(J,ak (aB x.P<|e.map dk) d)],_] (.p (.a 0)<|.a 1) (.p (.p (.a 1)<|.a 0) .z) rfl,_,_,[],ab,λD E=>bu (W3 w t B K it k J D E d n f5 (some<|.ref sd) (aB x.P<|e.map dk) x) ab ab rfl (dP (cb<|bN u) H)<|h _ f5 (.int (ad k) K) J d e (cb<|dP (cb<|bN u) H) c (bc<|.head _) (by simp only[M,hk];rfl)])]]
inductive Ag (x:Wd) (w:gB) (t:iL) (W:b4) (F':Fs):aL->ao->Prop
 |mk (f5 v5 sd ns) (sl:!SD) (h1:1<sd) (h2:F' sd (ak (aB x.P (sl.map dk)) ns)) (h3:sl.map b6=bY W 9):Ag x w t W F' (.ok .next) [jA x w t f5 v5,fg w.z sd]
def afr{W:b4}(b:jv W)(j:W≠[])(i:W.length<=1000):∀{n k f5 v5 sd ns} {D:!SD} {F},Wl x F w.z nw es W->1<sd->F sd (ak (aB x.P<|D.map dk) ns)->D.map b6=bY W k->k+n=9->ay x aj 590 (dZ w.z 6 it) F [jA x w t f5 v5,(it,cG k n),fg w.z sd] (Ag x w t W):=by
 intro n;induction n with
 |zero=>intro k f5 v5 sd ns D F g C o c e;obtain rfl:k=9:=e;rw[.perm (pm [[jA x w t f5 v5],[(it,cG 9 0)],[fg w.z sd]] (.p (.a 0)<|.p (.a 1)<|.a 2) (.p (.a 1)<|.p (.a 0)<|.a 2) rfl)<|bJ (L:=[(it,cG 9 0)]) (Y:=[jA x w t f5 v5,fg w.z sd]) (O:=[]) ab λB K=>bp (WZ B K w.z it 9 x) ab ab (aV) #[f5,v5,sd,ns,D,C,an _ _ o,c]]
 |succ n d=>intro k f5 v5 sd ns D F g C o c e;rw[arF b j i g o c λT f5 v5 sd ns D l C o c=>?_];rw[yC,];rw[d (g.to l) C o c<|Df e]
def Zj{W:b4}{f:!SD}(b:jv W)(j:W≠[])(i:W.length<=1000)(g:Wl x F w.z nw es W)(hs:F sd (ak (aB x.P<|f.map dk) ns))(hk:f.map b6=bY W 0):ay x aj 590 (dZ w.z 6 it) F [ge x w t,(it,cG 0 9),fg w.z sd] (Ag x w t W):=
 arE b j i g hs hk λT a c sd ns f l C hs hk=>by rw[afr b j i (g.to l) C hs hk rfl]
end
def GK(S:fM)(k:N)(l:!(!N)):Prop:=l.Perm ((S.filter λp=>decide<|p.2=k).map (·.1))/\oy l
abbrev jI(l:!(!N)):PV:=.lst<|l.map .str
section
variable{x:Wd}
abbrev my(H c t:N):aH×Obj:=(H+1,aC<|some<|.int (ad c) t)
abbrev SE(x:Wd)(z H it ac a nw i c t:N)(es:!De)(j:!af)(F:Fs)(Q:Po):Prop:=∀T y d,Le F T->ay x aj 580 (ou z H it ac a) T [fy x z it es nw<|i+1,(ac,aa #[j] d),dN x a<|some y,my H c t] Q
def QH{z H it ac a sd nw na ns i kt m mt c t g:N}(Y:F (z+6) (ak (aB x.P es) nw))(d:F (z+3) (aC<|some<|.ref sd))(hs:F sd (ak (aB x.P G) ns))(hi:es[i]? =some (k,kt,v))(hk:aZ G k=some (g,aO (m,mt)))(hz:D.length<=1000)(h:SE x z H it ac a nw i c t es (if m=c then D++[ax (k,kt)]else D) F Q):ay x aj 580 (ou z H it ac a) F [fy x z it es nw i,(ac,aa #[D] na),dN x a o,my H c t] Q:=by
 have R:gz F [(z+6,ak (aB x.P es) nw),(z+3,aC<|some<|.ref sd),(sd,ak (aB x.P G) ns)]:=#[Y,d,hs,ab];by_cases e:m=c
 .rw[if_pos e]at h
  have y:(ad m==ad c)=true:=e▸beq_self_eq_true _;rw[iU R λB K=>bu (WI o x) #[y,ab] #[fY<|g_ hz,iG hk,rD hi,ab] rfl (aV)<|.pu (L1:=[_])<|h _ _ _ an]
 .rw[if_neg e]at h
  have y:(ad m==ad c)=false:=by rw[beq_eq_false_iff_ne,];exactλq=>e<|Sz q
  rw[iU R λB K=>bu (WG o x) #[y,ab] #[iG hk,rD hi,ab] rfl (aV)<|h _ _ _ an]
structure Sl (x:Wd) (F:Fs) (z sd ns:N) (sl:!SD) (W:b4):Prop where
 c:F (z+3) (aC (some (.ref sd)))
 d:F sd (ak (aB x.P (sl.map dk)) ns)
 k:(sl.map b6).map (·.1)=W.map (·.1)
def Sl.to{F F':Fs}(T:Le F F'){z sd ns:N}{f:!SD}{W:b4}(h:Sl x F z sd ns f W):Sl x F' z sd ns f W:=#[T _ _ h.c,T _ _ h.d,h.k]
def Sl.len{F:Fs}{z sd ns:N}{f:!SD}{W:b4}(h:Sl x F z sd ns f W):f.length=W.length:=by have:=congrArg gR h.k;simpa using this
def Sl.at_{F:Fs}{z sd ns:N}{f:!SD}{W:b4}(h:Sl x F z sd ns f W)(w:(W.map (·.1)).Nodup){i:N}(hi:i<W.length)(r:i<f.length):aZ (f.map dk) (W[i]).1=some ((f[i]).2.1,aO (f[i]).2.2)/\(f[i]).1=(W[i]).1:=by
 have e:(f[i]).1=(W[i]).1:=by have:=congrArg (λl=>l[i]?) h.k;simpa[hi,r]using this
 rw[#[mJ ?_ ?_,e]]
 .have:(f.map dk).map (·.1)=(f.map b6).map (·.1):=by simp only[bI,bI];rfl
  rw[this▸h.k▸w]
 .rw[e▸bw (m6 r)]
abbrev rE(c:N)(S:fM):!(!N):=(S.filter λp=>decide<|p.2=c).map (·.1)
def yE(c S p):rE c (S++[p])=if p.2=c then rE c S++[p.1]else rE c S:=by
 unfold rE;simp only[SS,bf];by_cases e:p.2=c
 .rw[if_pos e,m5<|by simpa using e];rfl
 .rw[if_neg e,oL<|by simpa using e];simp
inductive Ah (x:Wd) (ac cl2 cl c tc:N) (S:fM) (F':Fs):aL->ao->Prop
 |mk (au:!(!N×N)) (na:N) (y:N×af) (h1:au.map (·.1)=rE c S):Ah x ac cl2 cl c tc S F' (.ok .next) [(ac,aa #[au.map ax] na),dN x cl2 (some y),my cl c tc]
def PC{au:!(!N×N)}(h:au.map (·.1)=rE c S):au.length<=S.length:=by have:=congrArg gR h;simp only[aU,aU]at this;rw[this,];rw[FN _ _]
def LB{z H it ac a sd nw ns c t:N}{W:b4}(j:W.length<=1000):∀{n i} {au:!(!N×N)} {na y F},Wl x F z nw es W->Sl x F z sd ns D W->au.map (·.1)=rE c ((D.map b6).take i)->i+n=W.length->ay x aj 580 (ou z H it ac a) F [fy x z it es nw i,(ac,aa #[au.map ax] na),dN x a<|some y,my H c t] (Ah x ac a H c t<|D.map b6):=by
 intro n;induction n with
 |zero=>intro i au na y F g o I w;have e:=g.len▸Md w;subst e;rw[qp (by simp only[aU,o.len,g.len];rw[d7 _])]at I;rw[bJ (L:=[fy x z it es nw es.length]) (O:=[(z+6,ak (aB x.P es) nw)]) #[g.d,ab] λB K=>bp (WF B K z it ac H nw a (aB x.P es) _ _ _ x) ab #[Eg,ab] (aV) #[au,na,y,I]]
 |succ n C=>
  intro i au na y F g o I w;have S:=rt w;have r:i<D.length:=by rw[o.len,];rw[S]
  rw[ct (o.at_ g.n S r) λf M=>lq (g.at_ (k:=(W[i]).1) (os:=(W[i]).2)<|eG S) λh m A R X U=>?_];have b:(D.map b6).take (i+1)=(D.map b6).take i++[b6 D[i]]:=by rw[lX (by rw[aU,];rw[r]),S0]
  refine QH g.d o.c o.d X f (by rw[aU,];rw[b8 (PC I)<|b8 (FO _ _)<|iJ<|wK S j]) λT y d l=>?_;by_cases e:(D[i]).2.2.1=c
  .rw[if_pos e,]
   have z:=C (au:=au++[((W[i]).1,h)]) (na:=d) (y:=y) (g.to l) (o.to l) (by rw[b,yE,if_pos e,bf,I,<-M];rfl)<|pG w;rw[bf]at z;rw[z]
  .rw[if_neg e,]
   rw[C (g.to l) (o.to l) (by rw[b,yE,if_neg e,I])<|pG w]
def VN{z H it ac a sd nw ns na c t:N}{W:b4}(j:W≠[])(f:W.length<=1000)(g:Wl x F z nw es W)(hs:Sl x F z sd ns D W):ay x aj 580 (Et z H it ac a) F [fy x z it es nw 0,(ac,aa #[[]] na),(a,ak [] 0),my H c t] (Ah x ac a H c t<|D.map b6):=by
 have S:=m7.mpr j;have r:0<D.length:=by rw[hs.len,];rw[S]
 rw[ct (hs.at_ g.n S r) λm M=>lq (g.at_ (k:=(W[0]).1) (os:=(W[0]).2)<|eG S) λh n A R X U=>?_];have b:(D.map b6).take 1=[]++[b6 D[0]]:=by rw[lX (by rw[aU,];rw[r]),S0];rfl
 rw[bJ (L:=[fy x z it es nw 0]) (O:=[]) ab λB K=>bu (WH B K z it ac H a _ _ _ x) ab ab rfl (aV)<|QH (o:=none) (an _ _ g.d) (an _ _ hs.c) (an _ _ hs.d) X m (dw _) λT y d l=>?_];have Q:=bN l;by_cases e:(D[0]).2.2.1=c
 .rw[if_pos e,]
  rw[LB f (i:=1) (au:=[((W[0]).1,h)]) (g.to Q) (hs.to Q) (by rw[b,yE,if_pos e,<-M];rfl)<|tS S]
 .rw[if_neg e,]
  rw[LB f (i:=1) (au:=[]) (g.to Q) (hs.to Q) (by rw[b,yE,if_neg e];rfl)<|tS S]
def jY(S:fM)(ls:!(List<|List N)):Prop:=∀K l,ls[K]? =some l->GK S K l
def jY.push{S:fM}{ls:!(List<|List N)}{l:!(!N)}(h:jY S ls)(a:GK S ls.length l):jY S (ls++[l]):=λK Q e=>by
 rcases zP K ls.length with q|q|q
 .rw[SY q]at e;rw[h K Q e]
 .subst q;rw[oM<|d7 _]at e;simp at e;rw[e▸a]
 .rw[FK (by simp;rw[LY q])]at e;cases e
inductive Ai (x:Wd) (ac cl:N) (S:fM) (F':Fs):aL->ao->Prop
 |mk (vs na vo ls) (h1:aM F' (ls.map jI) vs) (h2:ls.length=9) (h3:jY S ls):Ai x ac cl S F' (.ok .next) [(ac,aa #[vs] na),(cl,ak [] 0),(cl+1,aC vo)]
def afs{z it ac H sd nw ns:N}{W:b4}(R:W≠[])(i:W.length<=60):∀{n k na vs ls vo F},Wl x F z nw es W->Sl x F z sd ns a6 W->aM F (ls.map jI) vs->jY (a6.map b6) ls->ls.length=k->k+n=9->ay x aj 590 (cc z 4 it ac H) F [(it,cG k n),(ac,aa #[vs] na),(H,ak [] 0),(H+1,aC vo)] (Ai x ac H<|a6.map b6):=by
 intro n;induction n with
 |zero=>intro k na vs ls vo F g o X f c e;obtain rfl:k=9:=e;rw[bJ (O:=[]) ab λB K=>bp (WP B K z it ac H 9 x) ab ab (aV) #[vs,na,vo,ls,X.to an,c,f]]
 |succ n C=>intro k na vs ls vo F g o X f c e;have j:=X.length;rw[aU]at j;rw[.perm (pm [[(it,cG k<|n+1)],[(ac,aa #[vs] na)],[(H,ak [] 0)],_] (.p (.a 0)<|.p (.a 1)<|.p (.a 2)<|.a 3) (.p (.p (.a 0)<|.p (.a 2)<|.a 3)<|.a 1) rfl) (bJ (Y:=[(ac,aa #[vs] na)]) (O:=[(z+6,ak (aB x.P es) nw),(z+1,aC<|some<|.ref<|z+6)]) ⟨g.d,g.c,ab⟩ λB K=>bP (Z:=[(it,eD k n),(H,ak [] 0),(ac,aa #[vs] na)]) (WW B K z it ac H n k nw (aB x.P es) vo x) ab ab (pm [[fy x z B es nw 0,(B+1,aa #[[]] 0),(B+2,ak [] 0),my H k K],_,_] (.p (.p (.a 0)<|.a 1)<|.a 2) (.p (.a 0)<|.p (.a 1)<|.a 2) rfl) ((VN R (Ma i) (g.to an)<|o.to an).le ζ λ_ _ _ _ U=>U) λr S P u q=>q.casesOn λs t y I=>?_)];have M:=PC I;simp only[aU,o.len]at M;have Q:=bN u;rw[#[_,[my H k K,(ac,aa #[vs] na)],pm [[(B+1,aa #[s.map ax] t),dN x (B+2)<|some y],[my H k K],[(it,eD k n),(H,ak [] 0)],_] (.p (.p (.a 0)<|.a 1)<|.p (.a 2)<|.a 3) (.p (.p (.a 2)<|.a 0)<|.p (.a 1)<|.a 3) rfl,_,_,[],ab,λJ G=>jf (Lc:=[]) (WX B z it ac H n k t y.1 J G y.2 (s.map ax) x) ab ab (.refl _) λw m a8 A a7 L=>HV L (L.rep.fr _ _<|bc<|.head _) (.inl rfl) rfl rfl (agk i M) λq b d l h=>#[_,_,pm [[(q,aa #[d.map ax] b)],[(it,eD k n)],[(H,ak [] 0)],[my H k K],_] (.p (.a 0)<|.p (.a 1)<|.p (.a 2)<|.p (.a 3)<|.a 4) (.p (.p (.a 1)<|.p (.a 4)<|.a 2)<|.p (.a 0)<|.a 3) rfl,_,_,[],ab,λD E=>bu (WY z it ac H n k q na D E vs x) ab #[fY<|agl c e j,ab] rfl (cb Q) ?_]]];rw[km,];rw[.perm (pm [[(it,eD k n)],[(ac,aa #[vs++[aF q]]<|na+1)],_,_,[my H k K]] (.p (.p (.a 0)<|.p (.a 1)<|.a 2)<|.p (.a 3)<|.a 4) (.p (.a 3)<|.p (.a 0)<|.p (.a 1)<|.p (.a 2)<|.a 4) rfl)<|.u8 (L2:=[(q,aa #[d.map ax] b)]) ?_];rw[yC,];have T:Le F (fz (fz (fz S [(B+1,aa #[s.map ax] t)]) []) [(q,aa #[d.map ax] b)]):=cb<|cb<|cb Q;rw[C (ls:=ls++[d.map (·.1)]) (g.to T) (o.to T) (by rw[bf,];rw[(X.to T).push<|dT.mpr<|gC q _ b rfl (bc<|.head _) yL]) (f.push<|c▸#[l.trans<|by rw[I,],h]) (by simp[c])<|Df e]
def VO{z it ac H sd nw ns na:N}{W:b4}(j:W≠[])(i:W.length<=60)(g:Wl x F z nw es W)(hs:Sl x F z sd ns D W):ay x aj 590 (gw z 4 it ac H) F [(it,cG 0 9),(ac,aa #[[]] na),(H,ak [] 0),(H+1,aC vo)] (Ai x ac H<|D.map b6):=bJ (O:=[]) ab λB K=>bu (WV B K z it ac H 9 x) ab ab rfl (aV)<|afs (ls:=[]) j i (g.to an) (hs.to an) .nil (λa l e=>by cases e) rfl rfl
end
section
variable{x:Wd}
abbrev tU(z R f:N):aH×Obj:=(z+2,aC<|some<|.int (ad R) f)
abbrev wa(z g t:N):aH×Obj:=(z+4,aC<|some<|.int (ad g) t)
abbrev fN(R g n:N):N:=n%16^5/16^R%g
abbrev fP(n:N):N:=n%16^5
def OW{l:!(N×N)}:h_ (ar<|l.map aO) (ad l.length):=by show(ar<|l.map aO)[l.length]? =none;simp
def Pa(n):cj (ad n) (16^5) (ad<|n%16^5):=D_ ζ ζ rfl
def aox(h:D<=5):16^D<2^64:=kv (Tj ζ h)<|ζ
def Ph(R):16^R≠0:=lg<|sq<|ζ
abbrev SB(x:Wd)(z it ac H f k R W g q:N)(j:!af)(r:N)(F:Fs)(Q:Po):Prop:=∀T y d E,Le F T->ay x aj 580 (cc z 6 it ac H) T [(it,ba f<|k+1),(ac,aa #[j++[aO (r,E)]] d),fH x H<|some y,tU z R W,wa z g q] Q
def QJ{z it ac H f k R W g q n ti ns na:N}(L:F f (aa #[xs] ns))(hi:xs[k]? =some (aO (n,ti)))(D:R<=5)(a:g≠0)(hz:G.length<=1000)(h:SB x z it ac H f k R W g q G (fN R g n) F Q):ay x aj 580 (cc z 6 it ac H) F [(it,ba f k),(ac,aa #[G] na),fH x H o,tU z R W,wa z g q] Q:=iU (O:=[(f,aa #[xs] ns)]) #[L,ab] λB K=>bu (WL o x) ab #[fY<|g_ hz,fX a rfl,mH (Ph R) (aox D) rfl,#[rfl,R,D,rfl,rfl],Pa n,hJ hi,ab] rfl (aV)<|.pu (L1:=[_])<|h _ _ _ _ an
inductive Ad (x:Wd) (z ac cl lo tl si tz:N) (l:!(N×N)) (F':Fs):aL->ao->Prop
 |mk (vs:!(N×N)) (na:N) (y:N×af) (h1:vs.map (·.1)=l.map (λp=>fN lo si p.1)):Ad x z ac cl lo tl si tz l F' (.ok .next) [(ac,aa #[vs.map aO] na),fH x cl (some y),tU z lo tl,wa z si tz]
def afx{z it ac H f R W g q ns:N}(D:R<=5)(a:g≠0)(i:l.length<=900):∀{n k na} {vs:!(N×N)} {y F},F f (aa #[l.map aO] ns)->vs.map (·.1)=(l.take k).map (λp=>fN R g p.1)->k+n=l.length->ay x aj 580 (cc z 6 it ac H) F [(it,ba f k),(ac,aa #[vs.map aO] na),fH x H<|some y,tU z R W,wa z g q] (Ad x z ac H R W g q l):=by
 intro n;induction n with
 |zero=>intro k na vs y F L X w;obtain rfl:k=l.length:=w;simp only[wJ]at X;rw[bJ (O:=[(f,aa #[l.map aO] ns)]) #[L,ab] λB K=>bp (WJ B K z it ac H l.length ns f (l.map aO) x) ab #[OW,ab] (aV) #[vs,na,y,X]]
 |succ n C=>intro k na vs y F L X w;have c:=rt w;refine QJ (n:=(l[k]).1) (ti:=(l[k]).2) L (by simp only[fi,eG c];rfl) D a (ye X<|b8 i<|ζ) λT y d E le=>?_;have z:=C (vs:=vs++[(fN R g (l[k]).1,E)]) (na:=d) (y:=y) (le _ _ L) (by simp only[lX c,bf,bf,X];rfl)<|pG w;rw[bf]at z;rw[z]
def VQ{z it ac H f R W g q ns na:N}(D:R<=5)(a:g≠0)(j:0<l.length)(i:l.length<=900)(L:F f (aa #[l.map aO] ns)):ay x aj 580 (gw z 6 it ac H) F [(it,ba f 0),(ac,aa #[[]] na),(H,ak [] 0),tU z R W,wa z g q] (Ad x z ac H R W g q l):=bJ (O:=[]) ab λB K=>bu (WK B K z it ac H f x) ab ab rfl (aV)<|QJ (o:=none) (n:=(l[0]).1) (ti:=(l[0]).2) (an _ _ L) (by simp only[fi,eG j];rfl) D a (dw _) λT y d E le=>afx D a i (k:=1) (vs:=[(fN R g (l[0]).1,E)]) (le _ _<|an _ _ L) (by simp only[lX j];rfl)<|tS j
abbrev SC(x:Wd)(z it ac H f k:N)(j:!af)(r:N)(F:Fs)(Q:Po):Prop:=∀T y d E,Le F T->ay x aj 580 (cc z 8 it ac H) T [(it,ba f<|k+1),(ac,aa #[j++[aO (r,E)]] d),fH x H<|some y] Q
def QP{z it ac H f k n ti ns na:N}(L:F f (aa #[xs] ns))(hi:xs[k]? =some (aO (n,ti)))(hz:D.length<=1000)(h:SC x z it ac H f k D (fP n) F Q):ay x aj 580 (cc z 8 it ac H) F [(it,ba f k),(ac,aa #[D] na),fH x H o] Q:=iU (O:=[(f,aa #[xs] ns)]) #[L,ab] λB K=>bu (WO o x) ab #[fY<|g_ hz,Pa n,hJ hi,ab] rfl (aV)<|.pu (L1:=[_])<|h _ _ _ _ an
inductive Ae (x:Wd) (ac cl:N) (l:!(N×N)) (F':Fs):aL->ao->Prop
 |mk (vs:!(N×N)) (na:N) (y:N×af) (h1:vs.map (·.1)=l.map (λp=>fP p.1)):Ae x ac cl l F' (.ok .next) [(ac,aa #[vs.map aO] na),fH x cl (some y)]
def afA{z it ac H f ns:N}(i:l.length<=900):∀{n k na} {vs:!(N×N)} {y F},F f (aa #[l.map aO] ns)->vs.map (·.1)=(l.take k).map (λp=>fP p.1)->k+n=l.length->ay x aj 580 (cc z 8 it ac H) F [(it,ba f k),(ac,aa #[vs.map aO] na),fH x H<|some y] (Ae x ac H l):=by
 intro n;induction n with
 |zero=>intro k na vs y F L X w;obtain rfl:k=l.length:=w;simp only[wJ]at X;rw[bJ (O:=[(f,aa #[l.map aO] ns)]) #[L,ab] λB K=>bp (WM B K z it ac H l.length ns f (l.map aO) x) ab #[OW,ab] (aV) #[vs,na,y,X]]
 |succ n C=>intro k na vs y F L X w;have c:=rt w;refine QP (n:=(l[k]).1) (ti:=(l[k]).2) L (by simp only[fi,eG c];rfl) (ye X<|b8 i<|ζ) λT y d E le=>?_;have z:=C (vs:=vs++[(fP (l[k]).1,E)]) (na:=d) (y:=y) (le _ _ L) (by simp only[lX c,bf,bf,X];rfl)<|pG w;rw[bf]at z;rw[z]
def VS{z it ac H f ns na:N}(j:0<l.length)(i:l.length<=900)(L:F f (aa #[l.map aO] ns)):ay x aj 580 (gw z 8 it ac H) F [(it,ba f 0),(ac,aa #[[]] na),(H,ak [] 0)] (Ae x ac H l):=bJ (O:=[]) ab λB K=>bu (WN B K z it ac H f x) ab ab rfl (aV)<|QP (o:=none) (n:=(l[0]).1) (ti:=(l[0]).2) (an _ _ L) (by simp only[fi,eG j];rfl) (dw _) λT y d E le=>afA i (k:=1) (vs:=[(fP (l[0]).1,E)]) (le _ _<|an _ _ L) (by simp only[lX j];rfl)<|tS j
structure sG where
 f5:N
 v5:af
 f6:N
 v6:af
 f7:N
 cd:N
abbrev nZ(x:Wd)(w:gB)(t:iL)(u:sG):aH×Obj:=(w.z,az (gW x w t [V x.P eu u.f5 u.v5,V x.P cD u.f6 u.v6,V x.P cg u.f7<|.ref u.cd]) 8)
abbrev AF(x:Wd)(u:sG)(j:!De)(nc:N):aH×Obj:=(u.cd,ak (aB x.P j) nc)
def Bg(hs:D<=16^5)(j:D≠0)(H:G<D):∃x1 u,ap (D+G)=x1::u/\oW (ar (x1::u))/\jX (iZ<|ar<|fb<|ar (x1::u)) (some 1) none (iZ<|ar<|(d9<|D+G).drop 1):=by
 rw[fU (jT<|AC (n:=D+G)<|akF j) λx1 u e=>?_];have c:=qJ 6 (D+G)<|LL hs H;have Z:=AA<|D+G;rw[e]at c Z;rw[bX x1 u e ⟨λy b=>?_,?_⟩ ?_]
 .have:=Z y b
  rw[x5 this]
 .rw[LM c]
 .have:=Pj (l:=d9<|D+G) (a:=1) (by unfold d9;rw[e,];simp) ζ (by unfold d9;rw[e,aU];rw[LM c])
  rw[(by unfold d9;rw[e,];rfl:fb (ar (x1::u))=d9 (D+G)),];rw[this]
def XD(hs:D<=16^5)(H:G<D)(e:ap (D+G)=x1::J):ay x aj 200 (.call (.ref 46) #[[.int (ad D+ad G) t],[]]) F [] (QB (x1::J)):=e▸EO (n:=D+G) rfl (akG hs H) (L_<|qJ 6 (D+G)<|LL hs H)
def ape(h:Rp F (d5 (D,hi,G)) v):∃a y f c,v=.ref a/\F a (aD [.int (ad D) f,.int (ad hi) c,.ref y]):=by
 cases G with
 |none=>obtain⟨a,y,l,f,c,e,d,M⟩:=El h;rw[va a y f c e d]
 |some E=>obtain⟨a,y,C,i,l,f,c,t,n,b,T,g⟩:=Ek h;rw[va a y f c g.e g.a_]
abbrev EH(x:Wd)(w:gB)(t:iL)(u:sG)(it k:N)(vo c4 c5:Option af)(j:!De)(nc:N):ao:=[nZ x w t u,(w.z+2,aC vo),(it,ba w.r k),(w.z+4,aC c4),(w.z+5,aC c5),AF x u j nc]
abbrev SF(x:Wd)(w:gB)(t:iL)(u:sG)(it k:N)(E:cH)(F:Fs)(Q:Po):Prop:=∀T y d z a b j H,Le F T->bS T j (eQ E)->ay x aj 590 (dZ w.z 10 it) T (EH x w #[t.f3,t.f4,y,d] u it (k+1) z a b j H) Q
def UI(h:bS F G (eQ D))(hk:k∉D.map (·.1))(a:D.length<=1000):jW (.type "dict") (aB P G) #[#[k]]:=
 #[dK,jN _ _,by
  rw[lp,DX (by rw[h.keys,bI];rw[hk])];rfl,by
  have:=h.length;rw[aU]at this;unfold aB;rw[aU,];rw[Mb a this]]
def Pk{l:!(N×N)}:kA x F b aj (.call (.builtin "sum") #[[.ref p],[]]) [(p,aa #[l.map aO] n)] (pN (l.map (·.1)).sum):=λw S m s A K C B=>gL (Bs (R:=λr T h=>h=[]/\∃L,r=pN _ L) C.2.1 B (bc<|.head _) λD=>#[rfl,D,rfl]) λr P z=>cp z λT h l H q=>ct q λe q=>dm q λL U=>bX T L l (by subst e;rw[H]) U
def DU(hs:D<=16^5)(H:G<D)(e:ap (D+G)=x1::J):kA x F (b+200) aj (.call (.ref 46) #[[.int (ad D+ad G) t],[]]) [] (pB (x1::J)):=ay.Ed (λU=>XD hs H e)<|uJ ..
end
section
variable{x:Wd}
def arG{it k nr R hi sd ns b g st d1 nc:N}{l:!(N×N)}(ok:gk (R,hi,bb))(A:F w.r (aa #[rs] nr))(ch:F (w.z+3) (aC<|some<|.ref sd))(hs:F sd (ak (aB x.P a8) ns))(I:F w.p (aa #[l.map aO] b))(X:3<=l.length)(i:l.length<=1000)(ca:rs[k]? =some v)(hv:Rp F (d5 (R,hi,bb)) v)(ck:aZ a8 (nm R hi)=some (g,aO (st,d1)))(n:bS F a7 (eQ a6))(hk:nm R hi∉a6.map (·.1))(hz:a6.length<=1000)(h:SF x w t u it k (a6++if st<9 then[(nm R hi,gK (l.map (·.1)) R hi)]else[]) F Q):ay x aj 590 (dZ w.z 10 it) F (EH x w t u it k vo c4 c5 a7 nc) Q:=by
 rw[lq (ape hv) λa y f c d3 o=>?_];subst d3;rw[ek ok λj bo _=>?_];dsimp only at j bo;by_cases q:st<9
 .rw[if_pos q]at h
  have eg:(l.take 3).length=3:=by rw[r6,];rw[sk X]
  have d:=Ph<|hi-R;have ac:16^(hi-R)<=16^5:=Tj ζ<|ald bo;have b0:16^(hi-R)<2^64:=kv ac ζ;have bl:∀a,(hI (l.map (·.1)) R hi+a)%16^(hi-R)<16^(hi-R):=λa=>bq _<|zS d;refine cp (Bg ac d<|bl 0) λe0 eh K dd du=>cp (Bg ac d<|bl 1) λe1 T c1 ds m=>cp (Bg ac d<|bl 2) λe2 ei c2 dt dx=>rO (L:=[_,_,_]) (W:=[_]) (O:=[(w.r,aa #[rs] nr),(a,aD _),(w.z+3,aC<|some<|.ref sd),(sd,ak (aB x.P a8) ns),(w.p,aa ⟨l.map aO⟩ b)]) ⟨A,o,ch,hs,I,ab⟩ λB dV=>gZ 1 λS bs J G d0=>bP (Z:=[nZ x w #[t.f3,t.f4,iN hi c,.ref y] u,(it,ba w.r<|k+1),(w.z+5,aC c5),AF x u a7 nc]) (Wo x) #[decide_eq_true<|kr.mpr q,ab] #[fY (by rw[aU,];rw[g_ i]),#[rfl,hi-R,b8 (lh hi R) bo,Jz<|iJ j,rfl],iG ck,lJ (kg j)<|og j bo,hJ ca,ab] (.refl _) ((VQ (l:=l.take 3) (ns:=0) (by lia) d (by lia) (by lia)<|(by rw[DY (by rw[aU,];rw[X]),r9]:(iS ⟨l.map aO⟩ none (some 3) none).toList=(l.take 3).map aO)▸bc (.head _)).le ζ λ_ _ _ _ U=>U) λr ea ec H q=>q.casesOn λc0 C d2 db=>?_;have da:(c0.map (·.1)).sum=hI (l.map (·.1)) R hi:=by rw[db,];unfold hI;rw[<-r9,bI];rfl
  have bt:=dP (cb bs) H;rw[#[_,_,pm [[(J+3,aa #[c0.map aO] C),fH x (J+4)<|some d2],[tU w.z R f],_,[nZ x w #[t.f3,t.f4,iN hi c,.ref y] u],[(it,ba w.r<|k+1)],_] (.p (.p (.a 0)<|.p (.a 1)<|.a 2)<|.p (.a 3)<|.p (.a 4)<|.a 5) (.p (.p (.a 3)<|.p (.a 1)<|.p (.a 4)<|.p (.a 2)<|.a 0)<|.a 5) rfl,_,_,[],ab,λD E=>.w (W:=[_,_])<|gZ 5 λeb s M e eM em ey ed ep eB ef ev z P ew eC eN=>bu (Wp x) ab #[UI (n.to λa Y U=>s a Y<|bt a Y U) hk hz,lJ (kg j)<|og j bo,mH d b0 rfl,dx,dt,DU ac (bl 2) c2,fX d rfl,mH d b0 rfl,m,ds,DU ac (bl 1) c1,fX d rfl,mH d b0 rfl,du,dd,DU ac (bl 0) K,fX d rfl,da▸Pk,ab] rfl (dP bt s)<|.dp (L1:=[_,_,_,_,_])<|h _ _ _ _ _ _ _ _ (cb<|dP bt s) ?_]];have c3:eQ (a6++[(nm R hi,gK (l.map (·.1)) R hi)])=eQ a6++_:=bf;rw[c3▸(n.to λa Y U=>an a Y<|s a Y<|bt a Y U).push (Er (bc<|.head _) (bc<|.tail _<|.tail _<|.tail _<|.head _) (bc<|.tail _<|.tail _<|.head _)<|bc<|.tail _<|.head _)]
 .rw[if_neg q,bQ]at h
  rw[bJ (L:=[nZ x w t u,(w.z+2,aC vo),(it,ba w.r k)]) (O:=[(w.r,aa #[rs] nr),(a,aD _),(w.z+3,aC<|some<|.ref sd),(sd,ak (aB x.P a8) ns)]) ⟨A,o,ch,hs,ab⟩ λB dV=>gZ 1 λS bs J G d0=>bu (Wq x) #[decide_eq_false λU=>q<|kr.mp U,ab] #[iG ck,lJ (kg j)<|og j bo,hJ ca,ab] rfl bs<|h _ (iN hi c) (.ref y) (some<|iN R f) c4 c5 a7 nc (cb bs)<|n.to λa Y U=>an a Y<|bs a Y U]
inductive Aj (x:Wd) (w:gB) (f3 f4:N) (u:sG) (D:cH) (F':Fs):aL->ao->Prop
 |mk (v3 v4 vo c4 c5 ces nc) (h1:bS F' ces (eQ D)):Aj x w f3 f4 u D F' (.ok .next) [nZ x w #[f3,f4,v3,v4] u,(w.z+2,aC vo),(w.z+4,aC c4),(w.z+5,aC c5),AF x u ces nc]
def Xz(am S T q):dy am S (T++[q])=dy am S T++if(aZ S<|nm q.1 q.2.1).getD 0<9 then[(nm q.1 q.2.1,gK am q.1 q.2.1)]else[]:=by unfold dy;simp
def XB:∀{T},k∈(dy am S T).map (·.1)->k∈(T.map cU).map (·.1):=by
 intro J;induction J with
 |nil=>intro U;rw[U]
 |cons q T C=>
  intro U;unfold dy at U;simp only[jU,bf]at U;rcases ej.mp U with U|U
  .have e:k=nm q.1 q.2.1:=by
    split at U
    .simpa using U
    .simp at U
   simp only[e];obtain⟨R,a,d⟩:=q
   cases d<;>rw[.head _]
  .rw[.tail _<|C U]
def Xy:∀{T},(dy am S T).length<=T.length:=by
 intro J;induction J with
 |nil=>rw[d7 _]
 |cons q T C=>
  simp only[(by unfold dy;simp only[jU]:dy am S (q::T)=(if(aZ S<|nm q.1 q.2.1).getD 0<9 then[(nm q.1 q.2.1,gK am q.1 q.2.1)]else[])++dy am S T),cJ,dM];split
  .simp only[List.length_singleton];rw[aia C]
  .simp only[kZ];rw[aib C]
def wk(q):(cU q).1=nm q.1 q.2.1:=by
 obtain⟨R,S,d⟩:=q
 cases d<;>rfl
def aft{l:!(N×N)}{f:!SD}(X:3<=l.length)(i:l.length<=1000):∀{rest done v3 v4 vo c4 c5 j nc F},F w.r (aa #[rs] nr)->F (w.z+3) (aC<|some<|.ref sd)->F sd (ak (aB x.P<|f.map dk) ns)->F w.p (aa #[l.map aO] J)->aM F ((done++rest).map d5) rs->(∀r∈rest,gk r)->(∀r∈rest,nm r.1 r.2.1∈(f.map b6).map (·.1))->(((done++rest).map cU).map (·.1)).Nodup->done.length+rest.length<=900->bS F j (eQ<|dy (l.map (·.1)) (f.map b6) done)->ay x aj 590 (dZ w.z 10 it) F (EH x w #[f3,f4,v3,v4] u it done.length vo c4 c5 j nc) (Aj x w f3 f4 u<|dy (l.map (·.1)) (f.map b6)<|done++rest):=by
 intro rest;induction rest with
 |nil=>
  intro done v3 v4 vo c4 c5 j nc F b k o I A m c g Z n;rw[bQ]at A⊢;rw[.perm (pm [[nZ x w #[f3,f4,v3,v4] u,(w.z+2,aC vo)],[(it,ba w.r done.length)],_] (.p (.a 0)<|.p (.a 1)<|.a 2) (.p (.a 1)<|.p (.a 0)<|.a 2) rfl) ?_];rw[bJ (L:=[(it,ba w.r done.length)]) (O:=[(w.r,aa #[rs] nr)]) #[b,ab] λB K=>bp (Wr w.r B K w.z it done.length nr rs x) ab #[by show(ar rs)[done.length]? =none;have:=A.length;simp[this],ab] (aV) #[v3,v4,vo,c4,c5,j,nc,n.to an]]
 |cons q rest C=>
  intro done v3 v4 vo c4 c5 j nc F b k o I A m c g Z n;simp only[dM]at Z;obtain⟨v,W,G⟩:=A.get done.length (x:=d5 q) (by rw[bf,oM<|by simp];simp);have e:done++q::rest=(done++[q])++rest:=by simp
  obtain⟨Y,h⟩:=yu<|c q<|.head _;rw[fU (ED h) λz ac s=>?_];have Q:nm q.1 q.2.1∉(dy (l.map (·.1)) (f.map b6) done).map (·.1):=λH=>by rw[bf,bf,jV]at g;rw[g.2.2 _ (XB H) _ (.head _) (wk q).symm]
  have D:=Xy (am:=l.map (·.1)) (S:=f.map b6) (T:=done);obtain⟨R,P,d⟩:=q;rw[arG (ok:=m _<|.head _) b k o I X i W G s n Q (aic Z D) λM v3 v4 vo c4 c5 j nc le t=>?_];have y:bS M j (eQ<|dy (l.map (·.1)) (f.map b6)<|done++[(R,P,d)]):=by rw[Xz,h];rw[t]
  have E:=C (v3:=v3) (v4:=v4) (vo:=vo) (c4:=c4) (c5:=c5) (nc:=nc) (le _ _ b) (le _ _ k) (le _ _ o) (le _ _ I) (e▸A.to le) (λr U=>m r<|.tail _ U) (λr U=>c r<|.tail _ U) (e▸g) (by simp;rw[aid Z]) y;simp only[cJ,<-e]at E;rw[E]
def Zl{l:!(N×N)}{f:!SD}(X:3<=l.length)(i:l.length<=1000){T:c6}(a:F w.r (aa #[rs] nr))(k:F (w.z+3) (aC<|some<|.ref sd))(hs:F sd (ak (aB x.P<|f.map dk) ns))(I:F w.p (aa #[l.map aO] D))(A:aM F (T.map d5) rs)(m:∀r∈T,gk r)(c:∀r∈T,nm r.1 r.2.1∈(f.map b6).map (·.1))(g:((T.map cU).map (·.1)).Nodup)(hz:T.length<=900):ay x aj 590 (dZ w.z 10 it) F [nZ x w t u,(w.z+2,aC vo),(it,ba w.r 0),(w.z+4,aC c4),(w.z+5,aC c5),(u.cd,ak [] nc)] (Aj x w t.f3 t.f4 u<|dy (l.map (·.1)) (f.map b6) T):=aft X i (done:=[]) a k hs I A m c g (by simpa using hz) .nil
abbrev Ej(l:!(!N))(j:!af)(v:af):!af:=if l=[]then j else j++[v]
def QQ{z it ac H f k ns na:N}(L:F f (aa #[xs] ns))(hi:xs[k]? =some v)(hv:Rp F (jI l) v)(hz:D.length<=1000)(h:∀F' y d,Le F F'->ay x aj 590 (cc z 9 it ac H) F' [(it,ba f<|k+1),(ac,aa #[Ej l D v] d),nN x H<|some y] Q):ay x aj 590 (cc z 9 it ac H) F [(it,ba f k),(ac,aa #[D] na),nN x H o] Q:=by
 rw[gV (dT.mp hv) λb c w m a M=>?_];subst m;have R:gz F [(f,aa #[xs] ns),(b,aa #[c] w)]:=#[L,a,ab];cases l with
 |nil=>obtain rfl:=er.mp M;rw[iU R λB K=>bu (WR o x) ab #[hJ hi,ab] rfl (aV)<|h _ _ _ an]
 |cons T l=>rw[cp (cq.mp M) λq E P g Z=>?_];subst P;rw[iU R λB K=>bu (WT o x) ab #[fY<|g_ hz,hJ hi,ab] rfl (aV)<|.pu (L1:=[_])<|h _ _ _ an]
abbrev jB(ls:!(List<|List N)):!(List<|List N):=ls.filter λl=>decide<|l≠[]
def Il(h:aM F ((jB ls).map jI) vs)(hv:Rp F (jI l) v):aM F ((jB<|ls++[l]).map jI) (Ej l vs v):=by
 unfold jB Ej;rw[SS,];by_cases e:l=[]
 .rw[if_pos e,oL<|by simp[e],List.filter_nil,bQ];rw[h]
 .rw[if_neg e,m5<|by simpa using e,bf]
  rw[h.push hv]
def Zw(ls):(jB ls).length<=ls.length:=FN _ _
inductive An (x:Wd) (ac cl:N) (ls:!(!(!N))) (F':Fs):aL->ao->Prop
 |mk (vs:!af) (na:N) (y:N×af) (h1:aM F' ((jB ls).map jI) vs):An x ac cl ls F' (.ok .next) [(ac,aa #[vs] na),nN x cl (some y)]
def afC{z it ac H f ns:N}(i:ls.length<=900):∀{n k na vs y F},F f (aa #[xs] ns)->aM F (ls.map jI) xs->aM F ((jB<|ls.take k).map jI) vs->k+n=ls.length->ay x aj 590 (cc z 9 it ac H) F [(it,ba f k),(ac,aa #[vs] na),nN x H<|some y] (An x ac H ls):=by
 intro n;induction n with
 |zero=>
  intro k na vs y F L A X w;obtain rfl:k=ls.length:=w;rw[wJ]at X;rw[bJ (O:=[(f,aa #[xs] ns)]) #[L,ab] λB K=>bp (WQ B K z it ac H ls.length ns f xs x) ab #[by show(ar xs)[ls.length]? =none;have:=A.length;simp[this],ab] (aV) #[vs,na,y,X.to an]]
 |succ n C=>intro k na vs y F L A X w;have c:=rt w;have j:=X.length;rw[aU]at j;obtain⟨v,a,M⟩:=A.get k (by simp only[fi,eG c];rfl);rw[QQ L a M (b8 (nh j)<|b8 (Zw<|ls.take k)<|b8 (FP k ls)<|b8 i<|ζ) λT y d le=>C (le _ _ L) (A.to le) (by rw[lX c,];rw[Il (X.to le)<|M.to le])<|pG w]
def VT{z it ac H f ns na:N}(j:0<ls.length)(i:ls.length<=900)(L:F f (aa #[xs] ns))(A:aM F (ls.map jI) xs):ay x aj 590 (gw z 9 it ac H) F [(it,ba f 0),(ac,aa #[[]] na),(H,ak [] 0)] (An x ac H ls):=by
 rw[bJ (O:=[]) ab λB K=>bu (WU B K z it ac H f x) ab ab rfl (aV) ?_];obtain⟨v,b,M⟩:=A.get 0 (by rw[fi,eG j];rfl);rw[QQ (o:=none) (an _ _ L) b (M.to an) (dw _) λT y d le=>?_];have a:=bN le;rw[afC i (k:=1) (a _ _ L) (A.to a) (by simp only[lX j];rw[Il .nil<|M.to a])<|tS j]
end
section
variable{x:Wd}
def j6(am:!N)(S:fM):PV:=if(aZ S [70]).getD 0<9 then .nI (ap<|lm am)else .none
structure uz (x:Wd) (F:Fs) (S:fM) (D:cH) (wp:PV) (ls:!(!(!N))) (a rr cd:N) (rds:!af) (ces:!De) (wv:af):Prop where
 l:F a (aa #[[.bool (decide (mx (S.map (·.2))<9)),.ref rr,.ref cd,wv]] 0)
 r:aM F ((jB ls).map jI) rds
 n:ls.length=9
 o:jY S ls
 c:bS F ces (eQ D)
 w:Rp F wp wv
inductive uR (x:Wd) (S:fM) (D:cH) (wp:PV) (F:Fs):aL->ao->Prop
 |mk {L:ao} (ls a rr cd rds ces wv nr nc J) (h1:uz x F S D wp ls a rr cd rds ces wv) (h2:L.Perm ([(rr,aa #[rds] nr),(cd,ak (aB x.P ces) nc)]++J)):uR x S D wp F (.ok (.ret (.ref a))) L
def HS{K:aL->aR->av}{z a f ns cd nc b:N}{au:!Prop}(c:∀Z,Ev (o Z) Z bl (.pend 597 aj (gw z 9 a (a+1)<|a+2) K) ([(a,ba f 0),(a+1,aa #[[]] 0),(a+2,ak [] 0)]++[U]) [] a8 au)(l:AB a8)(I:AP au)(g:∀i w n t Z,Ev (K (.ok .next)<|cf [U,(a+2,ak [V x.P bD i w] 1)] n t h [] [] Z) Z bo (.res<|.ok<|.ret<|.ref n) [] [(n,aa #[[.bool<|decide<|ad b<9,.ref<|a+1,.ref cd,a6]] 0)] [] [])(L:F f (aa #[xs] ns))(A:aM F (ls.map jI) xs)(j:ls.length=9)(s:jY S ls)(O:Le F0 F)(d:bS F D (eQ a7))(Y:Rp F bb a6)(H:b=mx (S.map (·.2))):Go x aj 600 F0 (uR x S a7 bb) F ((cd,ak (aB x.P D) nc)::G) o:=by
 rw[bP (Z:=U::(cd,ak (aB x.P D) nc)::G) c l I (.refl _) ((VT (afW j) (afX j) (an _ _ L)<|A.to an).le ζ λ_ _ _ _ h=>h) λr B P u q=>q.casesOn λJ C y X=>?_];have k:=bN u;rw[#[[U,nN x (a+2)<|some y],(a+1,aa #[J] C)::(cd,ak (aB x.P D) nc)::G,pm [[(a+1,aa #[J] C)],_,[U],(cd,ak (aB x.P D) nc)::G] (.p (.p (.a 0)<|.a 1)<|.p (.a 2)<|.a 3) (.p (.p (.a 2)<|.a 1)<|.p (.a 0)<|.a 3) rfl,h,[],[],ab,λn t=>bp (g y.1 y.2 n t) ab ab (dP O k) ?_]];rw[#[ls,n,a+1,cd,J,D,a6,C,nc,G,#[by
  have e:decide (mx (S.map (·.2))<9)=decide (ad b<9):=by rw[H▸decide_eq_decide.mpr (kr (n:=b) (m:=9)).symm]
  rw[e▸bc (.head _)],X.to an,j,s,d.to λa o h=>an a o<|k a o h,Y.to λa o h=>an a o<|k a o h],.refl _]]
def OU(h:1<d):qB (.type "dict") d:=#[dK,h]
abbrev Ib(x:Wd)(w:gB)(t:iL)(u:sG)(z:N)(v:af):aH×Obj:=(w.z,az (gW x w t [V x.P eu u.f5 u.v5,V x.P cD u.f6 u.v6,V x.P cg u.f7<|.ref u.cd,V x.P kQ z v]) 9)
def alY(f:!SD):mx (f.map λe=>e.2.2.1)=mx ((f.map b6).map (·.2)):=by rw[bI,];rfl
structure zk (x:Wd) (F:Fs) (sz p np src ns sd n2:N) (l:!(N×N)) (sl:!SD) (S:fM) (D:cH) (ls:!(!(!N))) (xs:!af) (ces:!De):Prop where
 hp:F p (aa #[l.map aO] np)
 h3:3<=l.length
 h9:l.length<=1000
 hx:F src (aa #[xs] ns)
 hr:aM F (ls.map jI) xs
 hl:ls.length=9
 ho:jY S ls
 hc:bS F ces (eQ D)
 B0:F (sz+3) (aC (some (.ref sd)))
 hs:F sd (ak (aB x.P (sl.map dk)) n2)
 h1:1<sd
 e:sl.map b6=S
 hn:(S.map (·.1)).Nodup
 hf:[70]∈S.map (·.1)
def XC:lm l<3*16^5+1:=by
 have:∀n:N,n%16^5<16^5:=λn=>bq _ ζ;have:=this;unfold lm
 match l with
 |[]=>simp
 |[a]=>have:=this a;simp;rw[afY this]
 |[a,b]=>have d:=this a;have M:=this b;simp;rw[afZ d M]
 |a::b::c::_=>have d:=this a;have M:=this b;have X:=this c;simp;rw[af0 d M X]
set_option tactic.hygienic true in
def O3{g m mt:N}:∀{D:!SD},aZ (D.map dk) k=some (g,aO (m,mt))->(aZ (D.map b6) k).getD 0=m:=by
 intro J;induction J with
 |nil=>intro U;rw[nomatch U]
 |cons e D C=>
  intro U;rw[bV,aZ]at U⊢;split at U
  .rename_i q
   rw[if_pos q,];have U:=dY U;injection U with a M;injection M with M;rw[Sz M]
  .rename_i q
   rw[if_neg q,];rw[C U]
def aql(f:!SD):f.map (·.1)=(f.map b6).map (·.1):=by simp only[bI];rfl
def O_(j:G≠[])(t:F d (ak (aB x.P<|G.map dk) n))(nd:((G.map b6).map (·.1)).Nodup):kA x F b aj (.call (.builtin "max") #[[.ref v],[]]) [(v,#[.type "dict_values",none,.fields #[[.ref d]],#[[]]])] (pN<|mx<|(G.map b6).map (·.2)):=λw S m s A le C B=>alY G▸gL (Yb (R:=λr T h=>h=[]/\∃L,r=pN _ L) j C.2.1 B (bc<|.head _) (an _ _<|le _ _ t) (aql G▸nd) λD=>#[rfl,D,rfl]) λr P z=>cp z λT h l H q=>ct q λe q=>dm q λL U=>bX T L l (by subst e;rw[H]) U
def ZN{sd w st L M z g b y nc:N}(B:zk x F sz p b (G+2) y sd w l K S a6 ls xs a7)(h:aZ (K.map dk) [70]=some (g,aO (st,L)))(i:¬st<9)(O:Le F0 F):Go x aj 600 F0 (uR x S a6<|j6 (l.map (·.1)) S) F ((J,ak (aB x.P a7) nc)::bo) (λt=>Jj p r e sz tk f3 f4 f6 G sd J a8 st L M z w y v6 bb bl (aB x.P<|K.map dk) xs x t):=by
 have Y:j6 (l.map (·.1)) S=.none:=by unfold j6;rw[B.e▸(O3 h)▸if_neg i]
 rw[gZ 1 λc u W H s=>HS (Wx x) #[decide_eq_false λU=>i<|kr.mp U,ab] ⟨O_ (λe=>by rw[e]at h;cases h) B.hs (B.e▸B.hn),OU B.h1,iG h,ab⟩ (λi a n D=>Wt p r e sz tk f3 f4 f6 G J a8 z W n D _ i v6 bb bl a x) (u _ _ B.hx) (B.hr.to u) B.hl B.ho (dP O u) (B.hc.to u) (Y▸yJ.mpr rfl) (by rw[B.e,])]
def ZO{sd w st L M z g b k nc:N}(B:zk x F sz p b (a7+2) k sd w l bl S b0 ls xs bb)(h:aZ (bl.map dk) [70]=some (g,aO (st,L)))(i:st<9)(O:Le F0 F):Go x aj 600 F0 (uR x S b0<|j6 (l.map (·.1)) S) F ((a6,ak (aB x.P bb) nc)::bt) λt=>DC p r e sz tk f3 f4 f6 a7 sd a6 a8 st L b M z w v6 bo bs (aB x.P<|bl.map dk) (l.map aO) x t:=by
 have Y:j6 (l.map (·.1)) S=.nI (ap<|lm<|l.map (·.1)):=by unfold j6;rw[B.e▸(O3 h)▸if_pos i]
 have s:=B.h3;have G:=XC (l:=l.map (·.1));have I:=qJ 6 (lm<|l.map (·.1))<|af1 G;obtain⟨f,j⟩:∃f,f=lm (l.map (·.1)):=#[_,rfl];rw[<-j]at G I Y;refine bP (Z:=Ib x #[sz,p,r,e,tk,tk+1,tk+2] #[f3,f4,bo,bs] #[f6,v6,a8,.ref<|a7+2,a8+1,a6] z .none::(a6,ak (aB x.P bb) nc)::bt) (Wz p r e sz tk f3 f4 f6 a7 sd a6 a8 st L b M z w v6 bo bs (aB x.P<|bl.map dk) (l.map aO) x) #[decide_eq_true<|kr.mpr i,ab] #[fY (by rw[aU,];rw[g_ B.h9]),iG h,ab] (.refl _) ((VS (l:=l.take 3) (ns:=0) (by rw[r6,];lia) (by rw[r6,];lia)<|(by rw[DY (by rw[aU,];rw[s]),r9]:(iS ⟨l.map aO⟩ none (some 3) none).toList=(l.take 3).map aO)▸bc (.head _)).le ζ λ_ _ _ _ U=>U) λA ac P u q=>q.casesOn λJ E y o=>?_;have c:=bN u;have m:(J.map (·.1)).sum=f:=by simp only[j,o];unfold lm;rw[<-r9,bI];rfl
 rw[#[_,(a6,ak (aB x.P bb) nc)::bt,pm [[(M+3,aa #[J.map aO] E),fH x (M+4)<|some y],[Ib x #[sz,p,r,e,tk,tk+1,tk+2] #[f3,f4,bo,bs] #[f6,v6,a8,.ref<|a7+2,a8+1,a6] z .none],(a6,ak (aB x.P bb) nc)::bt] (.p (.a 0)<|.p (.a 1)<|.a 2) (.p (.p (.a 1)<|.a 0)<|.a 2) rfl,_,_,[(sz+3,aC<|some<|.ref sd),(sd,ak (aB x.P<|bl.map dk) w),(a7+2,aa ⟨xs⟩ k)],⟨c _ _ B.B0,c _ _ B.hs,c _ _ B.hx,ab⟩,λW H=>gZ 3 λK s ch ck c0 Q R C T d ca=>HS (Wy x) ab #[O_ (λe=>by rw[e]at h;cases h) (c _ _ B.hs) (B.e▸B.hn),OU B.h1,ay.Ed (λ_=>EO (Int.natAbs_neg _) (af2 G) (L_ I)) ζ,m▸Pk,ab] (λi X n D=>Wu p r e sz tk f3 f4 f6 a7 a6 a8 z C _ T i n D v6 bo bs X (ap f) x) (s _ _ (c _ _ B.hx)) ((B.hr.to c).to s) B.hl B.ho (dP (dP O c) s) ((B.hc.to c).to s) (by rw[Y,];rw[yI.mpr #[C,rfl]])<|by rw[B.e,]]]
end
section
variable{x:Wd}
inductive GB (x:Wd) (w:gB) (t:iL) (W:b4) (F':Fs):aL->ao->Prop
 |mk (f5 v5 sd ns) (sl:!SD) (h1:1<sd) (h2:Sl x F' w.z sd ns sl W) (h3:sl.map b6=bY W 9):GB x w t W F' (.ok .next) [jA x w t f5 v5]
def Zk{W:b4}{f:!SD}(d:jv W)(j:W≠[])(i:W.length<=1000)(g:Wl x F w.z nw es W)(hs:F sd (ak (aB x.P<|f.map dk) ns))(hk:f.map b6=bY W 0):ay x aj 590 (dZ w.z 6 it) F [ge x w t,(it,cG 0 9),fg w.z sd] (GB x w t W):=
 (Zj d j i g hs hk).ud λr T h U q=>by rw[q.casesOn λa c sd ns f b M X=>j9 [fg w.z sd] _ (SG _ _ _) #[a,c,sd,ns,f,b,#[bc<|.head _,an _ _ M,by rw[X▸lR W 9]],X]]
structure nG (x:Wd) (F:Fs) (sz p np r nr nw:N) (l:!(N×N)) (rs:!af) (T:c6) (W:b4) (es:!De):Prop where
 hp:F p (aa #[l.map aO] np)
 h3:3<=l.length
 h9:l.length<=1000
 hl:F r (aa #[rs] nr)
 hr:aM F (T.map d5) rs
 ho:∀q∈T,gk q
 hk:W.map (·.1)=(T.map cU).map (·.1)
 hC:jv W
 h0:W≠[]
 hW:W.length<=60
 hf:[70]∈W.map (·.1)
 H:Wl x F sz nw es W
def nG.to{F F':Fs}(Q:Le F F'){sz p b r nr nw:N}{l:!(N×N)}{rs:!af}{T:c6}{W:b4}{es:!De}(h:nG x F sz p b r nr nw l rs T W es):nG x F' sz p b r nr nw l rs T W es:=#[Q _ _ h.hp,h.h3,h.h9,Q _ _ h.hl,h.hr.to Q,h.ho,h.hk,h.hC,h.h0,h.hW,h.hf,h.H.to Q]
abbrev nA(x:Wd)(am:!N)(T:c6)(W:b4):Po:=uR x (bY W 9) (dy am (bY W 9) T)<|j6 am<|bY W 9
def ZM{v3 v4:af}{T:c6}{W:b4}(B:nG x F sz p bo r bs G l bt T W es)(hs:Sl x F sz sd bb a8 W)(c:1<sd)(Q:a8.map b6=bY W 9)(A:aM F (ls.map jI) xs)(f:ls.length=9)(m:jY (bY W 9) ls)(O:Le F0 F):Go x aj 600 F0 (nA x (l.map (·.1)) T W) F ([(sz+2,aC vo),(sz+4,aC c4),(sz+5,aC c5)]++K) λC=>DB p r e sz tk f3 f4 f6 a6 bl bs J a7 v3 v4 v6 xs bt x C:=by
 obtain⟨i,h⟩:=yu (by rw[hs.k,];rw[B.hf]);rw[fU (ED h) λy L s=>?_];rw[bP (Z:=K) (Ww p r e sz tk f3 f4 f6 a6 bl bs J a7 v3 v4 v6 xs bt x) ab ab (pm [[nZ x #[sz,p,r,e,tk,tk+1,tk+2] #[f3,f4,v3,v4] #[f6,v6,a7,.ref<|a6+2,a7+1,J]],[(J,ak [] 0)],_,[(sz+2,aC vo)],_,K] (.p (.p (.a 0)<|.p (.a 1)<|.a 2)<|.p (.p (.a 3)<|.a 4)<|.a 5) (.p (.p (.a 0)<|.p (.a 3)<|.p (.a 2)<|.p (.a 4)<|.a 1)<|.a 5) rfl) ((Zl B.h3 B.h9 (an _ _ B.hl) (an _ _ hs.c) (an _ _ hs.d) (an _ _ B.hp) (B.hr.to an) B.ho (λq o=>by rw[(hs.k.trans B.hk),<-wk];rw[bw<|bw o]) (B.hk▸B.H.n)<|agj (by have:=congrArg gR B.hk;simpa using this.symm) B.hW).le ζ λ_ _ _ _ U=>U) λI S P u q=>?_]
 rw[q.casesOn λk w t D E j H n=>?_];rw[Q]at n;have b:=bN u;have d:zk x S sz p bo (a6+2) bl sd bb l a8 (bY W 9) (dy (l.map (·.1)) (bY W 9) T) ls xs j:=#[b _ _ B.hp,B.h3,B.h9,u _ _<|bc<|.head _,A.to b,f,m,n,b _ _ hs.c,b _ _ hs.d,c,Q,by rw[lR,];rw[B.H.n],by rw[lR,];rw[B.hf]];have g:=pm [[nZ x #[sz,p,r,e,tk,tk+1,tk+2] #[f3,f4,k,w] #[f6,v6,a7,.ref<|a6+2,a7+1,J]],[(sz+2,aC t),(sz+4,aC D),(sz+5,aC E)],[(J,ak (aB x.P j) H)],K] (.p (.p (.a 0)<|.p (.a 1)<|.a 2)<|.a 3) (.p (.a 0)<|.p (.a 2)<|.p (.a 1)<|.a 3) rfl;by_cases q:i<9
 .rw[#[_,(J,ak (aB x.P j) H)::(_++K),g,_,_,[(sz+3,aC<|some<|.ref sd),(sd,ak (aB x.P<|a8.map dk) bb),(p,aa ⟨l.map aO⟩ bo)],⟨d.B0,d.hs,d.hp,ab⟩,λM z=>ZO d s q λa Y U=>b a Y<|O a Y U]]
 .rw[#[_,(J,ak (aB x.P j) H)::(_++K),g,_,_,[(sz+3,aC<|some<|.ref sd),(sd,ak (aB x.P<|a8.map dk) bb),(a6+2,aa ⟨xs⟩ bl)],⟨d.B0,d.hs,d.hx,ab⟩,λM z=>ZN d s q λa Y U=>b a Y<|O a Y U]]
def ZL{v3 v4:af}{f6 c k:N}{T:c6}{W:b4}(B:nG x F sz p a7 r D G l K T W es)(hs:Sl x F sz sd a8 a6 W)(f:1<sd)(Q:a6.map b6=bY W 9)(O:Le F0 F):Go x aj 600 F0 (nA x (l.map (·.1)) T W) F [(sz+2,aC vo),(sz+4,aC c4),(sz+5,aC c5)] λg=>DA p r e sz tk f3 f4 f6 c k v3 v4 v6 x g:=by rw[bP (Z:=jA x #[sz,p,r,e,tk,tk+1,tk+2] #[f3,f4,v3,v4] f6 v6::_) (Wv p r e sz tk f3 f4 f6 c k v3 v4 v6 x) ab ab (.refl _) ((VO B.h0 B.hW (B.H.to an)<|hs.to an).le ζ λ_ _ _ _ U=>U) λA S P u q=>q.casesOn λJ d t i X h m=>?_];rw[Q]at m;have b:=bN u;rw[#[_,_++[(c+3,ak [] 0),(c+4,aC t)],pm [[(c+2,aa #[J] d)],_,[jA x #[sz,p,r,e,tk,tk+1,tk+2] #[f3,f4,v3,v4] f6 v6],_] (.p (.p (.a 0)<|.a 1)<|.p (.a 2)<|.a 3) (.p (.p (.a 2)<|.a 0)<|.p (.a 3)<|.a 1) rfl,_,_,[(r,aa ⟨K⟩ D)],⟨b _ _ B.hl,ab⟩,λj o=>ZM (B.to b) (hs.to b) f Q X h m λa Y U=>b a Y<|O a Y U]]
def ZI{v3 v4:af}{g:Option af}{f:!SD}{T:c6}{W:b4}(B:nG x F sz p a6 r a7 G l a8 T W es)(Q:f.map b6=bY W 0)(O:Le F0 F):Go x aj 600 F0 (nA x (l.map (·.1)) T W) F [(sz+2,aC vo),(sz+4,aC c4),(sz+5,aC c5)] λi=>Dz p r e sz tk J D K t4 f3 f4 ns g (aB x.P<|f.map dk) v3 v4 x i:=by rw[bP (Wg p r e sz tk J D K t4 f3 f4 ns g (aB x.P<|f.map dk) v3 v4 x) ab ab (.refl _) ((Zk (w:=#[sz,p,r,e,tk,tk+1,tk+2]) (t:=#[f3,f4,v3,v4]) B.hC B.h0 (Ma B.hW) (B.H.to an) (bc<|.head _) Q).le ζ λ_ _ _ _ U=>U) λA S P u q=>q.casesOn λz j m d s h o n=>?_];have b:=bN u;rw[#[_,_,.refl _,_,_,[],ab,λc k=>ZL (B.to b) o h n λa Y U=>b a Y<|O a Y U]]
def Ip{v3 v4:af}{g:Option af}{au:!(N×SD)}{T:c6}{W:b4}(B:nG x F sz p a8 r bb G l bl T W es)(I:kx F au (bY W 0))(O:Le F0 F):Go x aj 600 F0 (nA x (l.map (·.1)) T W) F [(sz+2,aC vo),(sz+3,aC g),(sz+4,aC c4),(sz+5,aC c5)] λf=>Dy p r e sz tk J D a6 f3 f4 na K (iP au) v3 v4 a7 x f:=by refine bP (Z:=[ge x #[sz,p,r,e,tk,tk+1,tk+2] #[f3,f4,v3,v4],(sz+2,aC vo),(sz+3,aC g),(sz+4,aC c4),(sz+5,aC c5)]) (Wf p r e sz tk J D a6 f3 f4 na K (iP au) v3 v4 a7 x) ab ab (.refl _) (E1 rfl (bc<|.head _) (I.to an) (Dd B.hW (by have:=congrArg gR I.s;simpa[bY]using this)) (by rw[lR,];rw[B.H.n])) λA S P u q=>q.casesOn λs sl Q=>?_;have b:=bN u;rw[#[_,_,pm [[(D,ak (aB x.P<|sl.map dk) s)],[ge x #[sz,p,r,e,tk,tk+1,tk+2] #[f3,f4,v3,v4]],[(sz+2,aC vo)],[(sz+3,aC g)],_] (.p (.a 0)<|.p (.a 1)<|.p (.a 2)<|.p (.a 3)<|.a 4) (.p (.p (.a 1)<|.p (.a 3)<|.a 0)<|.p (.a 2)<|.a 4) rfl,_,_,[],ab,λM c=>ZI (B.to b) Q λa Y U=>b a Y<|O a Y U]]
def Qv{W:b4}(h:bS F es (gy W)):(es.map λe=>(e.1,0))=bY W 0:=by have O:=congrArg (ql λj:!N=>(j,0)) (by simp only[h.keys,bI];rfl:es.map (·.1)=W.map (·.1));simp only[bI,bI]at O;rw[O]
def ZE{v3 v4:af}{g:Option af}{T:c6}{W:b4}(B:nG x F sz p K r a6 nw l a7 T W es)(O:Le F0 F):Go x aj 600 F0 (nA x (l.map (·.1)) T W) F [(sz+2,aC vo),(sz+3,aC g),(sz+4,aC c4),(sz+5,aC c5)] λc=>Dx p r e sz tk J G nw f3 f4 ne (aB x.P es) v3 v4 x c:=by have b:=B.H.len;refine bP (Z:=[ge x #[sz,p,r,e,tk,tk+1,tk+2] #[f3,f4,v3,v4],(sz+2,aC vo),(sz+3,aC g),(sz+4,aC c4),(sz+5,aC c5)]) (Wc p r e sz tk J G nw f3 f4 ne (aB x.P es) v3 v4 x) ab ab (.refl _) ((Hj (an _ _ B.H.d) (λq=>B.h0<|wE (by rw[b▸q▸?_];rfl))<|Dd B.hW b).le ζ λ_ _ _ _ U=>U) λA S P u q=>?_;rw[q.casesOn λs C y I=>?_];rw[Qv B.H.r]at I;have d:=bN u;rw[#[_,_,pm [[(J+2,aa #[iP s] C),dN x (J+3)<|some y],[ge x #[sz,p,r,e,tk,tk+1,tk+2] #[f3,f4,v3,v4]],_] (.p (.a 0)<|.p (.a 1)<|.a 2) (.p (.p (.a 1)<|.a 0)<|.a 2) rfl,_,_,[],ab,λD E=>Ip (B.to d) I λa Y U=>d a Y<|O a Y U]]
def ZF{ws:!(!N×N)}{v3 v4:af}{g:Option af}{T:c6}{W:b4}(w:ws.length<=1000)(C:aZ es K=some (kt,.ref a6))(B:nG x (fz F [(a6,aa ((ar<|ws.map ax).push<|.str #[#[a7]] bb)<|a8+1)]) sz p bo r bs nw l bt T W es)(O:Le F0 F):Go x aj 600 F0 (nA x (l.map (·.1)) T W) F [(sz+2,aC vo),(sz+3,aC g),(sz+4,aC c4),(sz+5,aC c5)] λc=>Nv p r e sz tk J G nw f3 f4 ne a6 a8 bl bb (ws.map ax) K a7 (aB x.P es) v3 v4 x c:=by have b:=B.H.len;refine bP (Z:=[ge x #[sz,p,r,e,tk,tk+1,tk+2] #[f3,f4,v3,v4],(sz+2,aC vo),(sz+3,aC g),(sz+4,aC c4),(sz+5,aC c5)]) (We p r e sz tk J G nw f3 f4 ne a6 a8 bl bb (ws.map ax) K a7 (aB x.P es) v3 v4 x) ab #[fY (by rw[aU,];rw[g_ w]),iG C,ab] (.refl _) ((Hj B.H.d (λq=>B.h0<|wE (by rw[b▸q▸?_];rfl))<|Dd B.hW b).le ζ λ_ _ _ _ U=>U) λA S P u q=>?_;rw[q.casesOn λs d y I=>?_];rw[Qv B.H.r]at I;rw[#[_,_,pm [[(J+2,aa #[iP s] d),dN x (J+3)<|some y],[ge x #[sz,p,r,e,tk,tk+1,tk+2] #[f3,f4,v3,v4]],_] (.p (.a 0)<|.p (.a 1)<|.a 2) (.p (.p (.a 1)<|.a 0)<|.a 2) rfl,_,_,[],ab,λD E=>Ip (B.to u) I λa Y U=>u a Y<|an a Y<|O a Y U]]
end
def Ay(W a b):(gT W a b).map (·.1)=W.map (·.1):=by
 unfold gT;rw[bI,];rw[oN λp U=>?_];show(if p.1=a then(p.1,p.2++[b])else p).1=p.1
 split<;>rfl
def GO{W:b4}(h:jv W)(y:b∈W.map (·.1)):jv (gT W a b):=λp I Y m=>by
 rw[Ay,];rw[aJ (bn.mp I) λq u P=>?_];subst P;split at m
 .rcases ej.mp m with m|m
  .rw[h q u Y m]
  .simp only[iy.mp m];rw[y]
 .rw[h q u Y m]
def GP{W:b4}(h:∀p∈W,p.2.length<=2):∀p∈gT W a b,p.2.length<=3:=λp I=>by
 rw[aJ (bn.mp I) λq u P=>?_];subst P;have:=h q u;split
 .rw[cJ,];rw[oV this]
 .rw[ago this]
def wm(T:c6):∀p∈T.map cU,p.2.length<=2:=λp I=>by
 rw[aJ (bn.mp I) λa U P=>?_];obtain⟨R,S,d⟩:=a;subst P
 cases d<;>simp[cU]
section
variable{x:Wd}
structure sD (T:c6) (extra:!(!N)):Prop where
 hd:∃lo hi m rest,T=(lo,hi,some m)::rest
 len:T.length<=50
 ok:∀q∈T,gk q
 nd:((T.map cU).map (·.1)).Nodup
 cl:jv (T.map cU)
 f:[70]∈(T.map cU).map (·.1)
 ex:extra=[]\/∃a b,extra=[a,b]/\a∈(T.map cU).map (·.1)/\b∈(T.map cU).map (·.1)
def Fb{T:c6}(t:∃R hi m rest,T=(R,hi,some m)::rest)(f:T.length<=50)(a:∀q∈T,gk q)(g:((T.map cU).map (·.1)).Nodup)(A:F r (aa #[rs] nr))(c:aM F (T.map d5) rs)(sz tk):ay x aj 590 (dZ sz 1<|sz+7) (fz F [(sz+1,aC<|some<|.ref<|sz+6)]) [(sz+7,ba r 0),xA x #[sz,p,r,e,tk,tk+1,tk+2],(sz+2,aC none),(sz+6,ak [] 0)] (qE x #[sz,p,r,e,tk,tk+1,tk+2] (sz+6)<|T.map cU):=by rw[Bp t λR hi m rest k=>?_];subst k;rw[Zi (w:=#[sz,p,r,e,tk,tk+1,tk+2]) (an _ _ A) (bc<|.head _) (c.to an) a g<|agp f]
def arh{l:!(N×N)}(X:3<=l.length)(i:l.length<=100){T:c6}(W:sD T [])(I:F p (aa #[l.map aO] a6))(A:F r (aa #[rs] nr))(c:aM F (T.map d5) rs)(j:F e (aa #[[]] ne)):ay x aj 600 (.call (.ref 908) #[[.ref p,.ref r,.ref e],[]]) F [] (nA x (l.map (·.1)) T<|T.map cU):=by rw[W.casesOn λE f h g Y b s=>fq (O:=[(r,aa #[rs] nr)]) #[A,ab] λB K=>bP (Z:=[(B+3,aC none),(B+4,aC none),(B+5,aC none)]) (Ht p r e nr B K rs x) ab ab (.refl _) ((R_<|Fb E f h g A c B K).le ζ λ_ _ _ _ U=>U) λm S P u q=>q.casesOn λD z k C t n=>?_];have a:=bN u;have d:=u _ _<|bc<|.head _;rw[#[[ge x #[B,p,r,e,K,K+1,K+2] D],_,.refl _,_,_,[(e,aa #[[]] ne),(B+1,aC<|some<|.ref<|B+6),(B+6,ak (aB x.P k) C)],⟨a _ _ j,d,t,ab⟩,λJ G=>ZE #[a _ _ I,X,Mg i,a _ _ A,c.to a,h,rfl,Y,(λq=>by rw[q]at b;cases b),(by rw[aU,];rw[Mf f]),b,#[t,d,n,g,λp I=>ld<|wm T p I]] a]]
def arf{l:!(N×N)}(X:3<=l.length)(i:l.length<=100){T:c6}(W:sD T [a,b])(I:F p (aa #[l.map aO] a7))(A:F r (aa #[rs] nr))(ac:aM F (T.map d5) rs)(b0:F e (aa #[[.str #[#[a]] a8,.str #[#[b]] a6]] ne)):ay x aj 600 (.call (.ref 908) #[[.ref p,.ref r,.ref e],[]]) F [] (nA x (l.map (·.1)) T<|gT (T.map cU) a b):=by
 rw[W.casesOn λbt f R g Y m s=>?_];obtain⟨o,y⟩:a∈(T.map cU).map (·.1)/\b∈(T.map cU).map (·.1):=by
  rcases s with U|⟨L,j,U,bo,M⟩
  .cases U
  .injection U with bb U
   injection U with bl U;rw[#[bb▸bo,bl▸M]]
 have c:=Ay (T.map cU) a b;rw[fq (O:=[(r,aa #[rs] nr)]) #[A,ab] λB K=>bP (Z:=[(B+3,aC none),(B+4,aC none),(B+5,aC none)]) (Ht p r e nr B K rs x) ab ab (.refl _) ((R9 (b:=b) g o (λp I=>b8 (wm T p I)<|ζ)<|Fb bt f R g A ac B K).le ζ λ_ _ _ _ U=>U) λck S P u q=>q.casesOn λD ch k ca z n h E t C w bs=>?_];have Q:=bN u;have d:=u _ _<|bc<|.head _;have H:Le F (fz S [(z,aa ((ar<|E.map ax).push<|.str #[#[b]] a6)<|n+1)]):=cb Q;rw[#[_,_,pm [[ge x #[B,p,r,e,K,K+1,K+2] D],[(B+2,aC ch)],_,_] (.p (.p (.a 0)<|.p (.a 1)<|.a 2)<|.a 3) (.p (.p (.a 0)<|.a 2)<|.p (.a 1)<|.a 3) rfl,_,_,[(e,aa #[_] ne),(B+1,aC<|some<|.ref<|B+6),(B+6,ak (aB x.P k) ca)],⟨Q _ _ b0,d,t,ab⟩,λJ G=>ZF w C #[H _ _ I,X,Mg i,H _ _ A,ac.to H,R,c,GO Y y,(λq=>by rw[q]at c;rw[<-c]at m;cases m),(by unfold gT;rw[aU,aU];rw[Mf f]),by rw[c▸m],#[an _ _ t,an _ _ d,bs _ a6 (n+1) an<|(by simp only[km,bf];rfl:aa ((ar<|E.map ax).push<|.str #[#[b]] a6) (n+1)=aa #[(E++[(b,a6)]).map ax] (n+1))▸bc (.head _),by rw[c▸g],GP<|wm T]] Q]]
def are(X:3<=am.length)(i:am.length<=100){T:c6}(W:sD T D){au rs es:!af}(I:F p (aa #[au] G))(t:aM F (am.map gm) au)(A:F r (aa #[rs] nr))(c:aM F (T.map d5) rs)(f:F e (aa #[es] ne))(M:aM F (D.map .str) es):ay x aj 600 (.call (.ref 908) #[[.ref p,.ref r,.ref e],[]]) F [] (nA x am T<|cZ T D):=by
 rw[aJ (Es t) λl k P=>?_];subst k;subst P;rw[aU]at X i;rcases W.ex with rfl|⟨a,b,rfl,o,y⟩
 .obtain rfl:=er.mp M
  rw[arh X i W I A c f]
 .obtain⟨g,J,rfl,R,M⟩:=cq.mp M
  obtain⟨n,J,rfl,d,M⟩:=cq.mp M;obtain rfl:=er.mp M;obtain⟨Q,rfl⟩:=c9.mp R;obtain⟨m,rfl⟩:=c9.mp d;rw[arf X i W I A c f]
end
section
abbrev Eu(z it ac H:N):bj:=i_ uX 0 (.ref it) (.ref ac)<|fO uX 0 (iC z) H
abbrev ov(z it ac H:N):bj:=fQ uX 0 (.ref it) (.ref ac)<|fO uX 0 (iC z) H
variable(s ns sz tk z it ac a7 a8 k na bo m bs G D J c1 K U c2 t4 b0 c3 ds ch da dt bl db du ca dd dx eb ec:N) (xs a6:!af) (bb:Int) (ck:af) (bt:!N) (us:N->Array (Option af)) (x:Wd) (Y c0 dV d0 d1 d2 d3 ea ed:ao)
def NO:av:=ex x #[none,some [],false] 650 (.fn 913 #[[.ref s],[]])<|cf [] sz tk (H 0x56313358002170222555) [] [(s,aa #[xs] ns)] Y
def CL(x:Wd)(sz:N):Ko:=(NO 0 0 sz 0 [] x []).resume
def aeJ:∀(x:Wd) Y,Ev (NO s ns sz tk xs x Y) Y [3,4,5,0,2] (.pend 647 #[none,some [iC sz],false] (Eu sz (sz+3) (sz+4)<|sz+5)<|CL x sz) ([((sz+3),ba (sz+2) 0),((sz+4),aa #[[]] 0),((sz+5),ak [] 0)]++[(sz,az [V x.P iv tk<|.ref s] 1)]) [((sz+2),aa #[(iS (ar xs) none (some 9) none).1] 0)] [] [cm #[xs]]:=bB
def aeT:∀(x:Wd) Y,Ev (ex x #[none,some [iC z],false] 640 (.code<|Eu z it ac a7)<|cf [(it,ba a8 0)] sz tk (bif x.b2 then[]else(H 0xb50)) [] [] Y) Y [0] (.next<|ov z it ac a7) [(it,ba a8 0)] [] [] []:=bB
def aeU:Ev (ex x #[none,some [iC z],false] 640 (.code<|ov z it ac a7)<|cf [(it,ba a8 k),(ac,aa #[a6] na),(a7,ak [] 0)] sz tk (H 0x548a40) [.int bb bo,iN m 0] [(a8,aa #[xs] ns)] Y) Y [0,1,2] (.next<|ov z it ac a7) [(it,ba a8<|k+1),(ac,aa ((ar a6).push<|iN m<|tk+4)<|na+1),(a7,ak [V x.P vV tk<|.int bb bo] 1)] [] [] [cm #[a6],cj bb (16^9)<|ad m,df #[xs] (ad k)<|ic bb bo]:=by kernel_rfl
def aeV:Ev (ex x #[none,some [iC z],false] 640 (.code<|ov z it ac a7)<|cf [(it,ba a8 k),(ac,aa #[a6] na),(a7,ak [V x.P vV bs ck] 1)] sz tk (H 0x548a40) [.int bb bo,iN m 0] [(a8,aa #[xs] ns)] Y) Y [0,1,2] (.next<|ov z it ac a7) [(it,ba a8<|k+1),(ac,aa ((ar a6).push<|iN m<|tk+4)<|na+1),(a7,ak [V x.P vV bs<|.int bb bo] 1)] [] [] [cm #[a6],cj bb (16^9)<|ad m,df #[xs] (ad k)<|ic bb bo]:=by kernel_rfl
def aeS:Ev (ex x #[none,some [iC z],false] 640 (.code<|ov z it ac a7)<|cf [(it,ba a8 k)] sz tk (H 0xa70) [] [(a8,aa #[xs] ns)] Y) Y [] (.res<|.ok .next) [] [] [] [h_ #[xs]<|ad k]:=by kernel_rfl
def DD:av:=CL x sz (.ok .next)<|cf [(sz,az [V x.P iv tk<|.ref s] 1),(sz+4,aa #[a6] na),(sz+5,ak [] 0)] G D (H 0x5151553541a04643) [] [] c0
def CM(x:Wd)(sz:N):Ko:=(DD 0 sz 0 0 0 0 [] x []).resume
def aeK:∀(x:Wd) c,Ev (DD s sz tk na G D a6 x c) c [0,4] (.pend 647 #[none,some [iC sz],false] (.call (.ref 867) #[[.ref<|G+1],[]])<|CM x sz) [(sz,az [V x.P iv tk<|.ref s,V x.P jm (D+3)<|.ref<|G+1] 2)] [((G+1),aa #[a6++[.int 986906 D,.int 112359<|D+1,.int 958717<|D+2]] 0)] [] [oX (aI j3) (ar a6)<|ar [ic 986906 D,ic 112359<|D+1,ic 958717<|D+2]]:=bB
def NQ:av:=CM x sz (.ok<|.ret<|.ref J)<|cf [(sz,az [V x.P iv tk<|.ref s,V x.P jm (D+3)<|.ref<|G+1] 2)] c1 K (H 0x51b50) [] [] dV
def KB(x:Wd)(sz:N):Ko:=(NQ 0 sz 0 0 0 0 0 0 x []).resume
def Lf:∀(x:Wd) f,Ev (NQ s sz tk G D J c1 K x f) f [0] (.pend 647 #[none,some [iC sz],false] (.call (.ref 874) #[[.ref<|G+1,.ref J],[]])<|KB x sz) [(sz,az [V x.P iv tk<|.ref s,V x.P jm (D+3)<|.ref<|G+1,V x.P kP K<|.ref J] 3)] [] [] []:=bB
def DE:av:=KB x sz (.ok<|.ret<|.ref U)<|cf [(sz,az [V x.P iv tk<|.ref s,V x.P jm (D+3)<|.ref<|G+1,V x.P kP K<|.ref J] 3)] c2 t4 (H 0x5155511155) [] [] d0
def KC(x:Wd)(sz:N):Ko:=(DE 0 sz 0 0 0 0 0 0 0 0 x []).resume
def aeM:∀(x:Wd) i,Ev (DE s sz tk G D J K U c2 t4 x i) i [0] (.pend 647 #[none,some [iC sz],false] (.call (.ref 886) #[[.ref<|G+1,.ref J,.ref U],[]])<|KC x sz) [(sz,az [V x.P iv tk<|.ref s,V x.P jm (D+3)<|.ref<|G+1,V x.P kP K<|.ref J,V x.P mM t4<|.ref U] 4)] [] [] []:=bB
def NR:av:=KC x sz (.ok<|.ret<|ah bt b0)<|cf [(sz,az [V x.P iv tk<|.ref s,V x.P jm (D+3)<|.ref<|G+1,V x.P kP K<|.ref J,V x.P mM t4<|.ref U] 4)] c3 ds [0,1] [] [] d1
def KD(x:Wd)(sz:N):Ko:=(NR 0 sz 0 0 0 0 0 0 0 0 0 0 [] x []).resume
def aeN:∀(x:Wd) g,Ev (NR s sz tk G D J K U t4 b0 c3 ds bt x g) g [0] (.pend 647 #[none,some [iC sz],false] (.call (.ref 893) #[[ah bt b0],[]])<|KD x sz) [(sz,az [V x.P iv tk<|.ref s,V x.P jm (D+3)<|.ref<|G+1,V x.P kP K<|.ref J,V x.P mM t4<|.ref U] 4)] [] [] []:=bB
def DF:av:=KD x sz (.ok<|.ret<|.ref ch)<|cf [(sz,az [V x.P iv tk<|.ref s,V x.P jm (D+3)<|.ref<|G+1,V x.P kP K<|.ref J,V x.P mM t4<|.ref U] 4)] da dt [0,1] [] [] d2
def KE(x:Wd)(sz:N):Ko:=(DF 0 sz 0 0 0 0 0 0 0 0 0 0 x []).resume
def aeO:∀(x:Wd) C,Ev (DF s sz tk G D J K U t4 ch da dt x C) C [0] (.pend 647 #[none,some [iC sz],false] (.call (.ref 903) #[[.ref ch],[]])<|KE x sz) [(sz,az [V x.P iv tk<|.ref s,V x.P jm (D+3)<|.ref<|G+1,V x.P kP K<|.ref J,V x.P mM t4<|.ref U] 4)] [] [] []:=bB
def DG:av:=KE x sz (.ok<|.ret<|.ref bl)<|cf [(sz,bi [V x.P iv tk<|.ref s,V x.P jm (D+3)<|.ref<|G+1,V x.P kP K<|.ref J,V x.P mM t4<|.ref U] 4<|us sz)] db du (H 0x515551) [] [] d3
def KF(x:Wd)(sz:N)(z:N):Ko:=(DG 0 sz 0 0 0 0 0 0 0 z 0 0 (λ_=>#[[]]) x []).resume
def aeP:∀(x:Wd) t,Ev (DG s sz tk G D J K U t4 bl db du us x t) t [0] (.pend 647 #[none,some [iC sz],false] (.call (.ref 908) #[[.ref<|G+1,.ref J,.ref U],[]])<|KF x sz bl) [(sz,bi [V x.P iv tk<|.ref s,V x.P jm (D+3)<|.ref<|G+1,V x.P kP K<|.ref J,V x.P mM t4<|.ref U] 4<|us sz)] [] [] []:=bB
def NS:av:=KF x sz bl (.ok<|.ret<|.ref ca)<|cf [(sz,bi [V x.P iv tk<|.ref s,V x.P jm (D+3)<|.ref<|G+1,V x.P kP K<|.ref J,V x.P mM t4<|.ref U] 4<|us sz)] dd dx [] [] [] ea
def KG(x:Wd)(sz:N):Ko:=(NS 0 sz 0 0 0 0 0 0 0 0 0 0 0 (λ_=>#[[]]) x []).resume
def aeQ:∀(x:Wd) a,Ev (NS s sz tk G D J K U t4 bl ca dd dx us x a) a [0] (.gx 647 #[none,some [iC sz],false] (pU .Eq (.ref bl)<|.ref ca)<|KG x sz) [(sz,bi [V x.P iv tk<|.ref s,V x.P jm (D+3)<|.ref<|G+1,V x.P kP K<|.ref J,V x.P mM t4<|.ref U] 4<|us sz)] [] [] []:=bB
def aeR:∀(x:Wd) a,Ev (KG x sz (.ok<|.ret<|.bool true)<|cf [] eb ec [] [] [] a) a [] (.res<|.ok<|.ret<|.bool true) [] [] [] []:=bB
def NP:av:=CL x sz (.ok .next)<|cf [(sz,az [V x.P iv tk<|.ref s] 1),(sz+4,aa #[a6] na),(sz+5,ak [V x.P vV bs ck] 1)] G D (H 0x5151553541a0464333) [] [] c0
def aeL:∀(x:Wd) c,Ev (NP s sz tk na bs G D a6 ck x c) c [0,4] (.pend 647 #[none,some [iC sz],false] (.call (.ref 867) #[[.ref<|G+1],[]])<|CM x sz) [(sz,az [V x.P iv tk<|.ref s,V x.P jm (D+3)<|.ref<|G+1] 2)] [((G+1),aa #[a6++[.int 986906 D,.int 112359<|D+1,.int 958717<|D+2]] 0)] [] [oX (aI j3) (ar a6)<|ar [ic 986906 D,ic 112359<|D+1,ic 958717<|D+2]]:=bB
end
section
open PySem.SeqAt PySem.MeetsSeq3
def zp:N->PV->Prop
 |_,.int _=>True
 |_,.str _=>True
 |d+1,.lst l=>∀p∈l,zp d p
 |d+1,.tup l=>∀p∈l,zp d p
 |_,_=>False
def yK:∀{ps vs},aM F ps vs->∀j (h:j<vs.length),∃h':j<ps.length,Rp F ps[j] vs[j]:=by
 intro J;induction J with
 |nil=>intro vs g j h;obtain rfl:=er.mp g;cases h
 |cons p ps C=>
  intro vs g j h;rw[cp (cq.mp g) λv E P c M=>?_];subst P;cases j with
  |zero=>rw[#[Nat.zero_lt_succ _,c]]
  |succ j=>obtain⟨a,b⟩:=C M j (by simpa using h);rw[#[Tl a,b]]
def GT:(sb n).all (λU=>true)=true:=by simp
def PM(W:∀a o,F a o->s.heap.get? a=some o):∀{d p v u A},zp d p->Rp F p v->Rp F p u->A.units+d<cLine->EqAt A s v u true:=by
 intro d;induction d with
 |zero=>
  intro p v u A I X f U;cases p with
  |int i=>obtain⟨D,rfl⟩:=dS.mp X;obtain⟨j,rfl⟩:=dS.mp f;have:=EqAt.int_int (A:=A) (s:=s) i D i j;rwa[beq_self_eq_true]at this
  |str l=>obtain⟨D,rfl⟩:=c9.mp X;obtain⟨j,rfl⟩:=c9.mp f;have:=EqAt.str_str (A:=A) (s:=s) #[#[l]] D #[#[l]] j;rwa[beq_self_eq_true]at this
  |_=>rw[I.elim]
 |succ d C=>
  intro p v u A I X f U;cases p with
  |int i=>obtain⟨D,rfl⟩:=dS.mp X;obtain⟨j,rfl⟩:=dS.mp f;have:=EqAt.int_int (A:=A) (s:=s) i D i j;rwa[beq_self_eq_true]at this
  |str l=>obtain⟨D,rfl⟩:=c9.mp X;obtain⟨j,rfl⟩:=c9.mp f;have:=EqAt.str_str (A:=A) (s:=s) #[#[l]] D #[#[l]] j;rwa[beq_self_eq_true]at this
  |lst l=>
   rw[gV (dT.mp X) λa Q n m q M=>?_];subst m;rw[gV (dT.mp f) λb t E m R k=>?_];subst m;by_cases e:a=b
   .subst e;rw[EqAt.same _]
   .have c:=M.length.trans k.length.symm
    have:=EqAt.of_refs e (RcAt.lists (en _ (W _ _ q) rfl #[n,rfl]) (en _ (W _ _ R) rfl #[E,rfl]) c (MD U) λK h r=>by rw[dm (yK M K h) λg Z=>dm (yK k K r) λS z=>C (I _<|m6 g) Z z<|ME U])
    rwa[GT]at this
  |tup l=>
   rw[cp (jJ.mp X) λa Q P q M=>?_];subst P;rw[cp (jJ.mp f) λb t P R k=>?_];subst P;by_cases e:a=b
   .subst e;rw[EqAt.same _]
   .have c:=M.length.trans k.length.symm
    have:=EqAt.of_refs e (RcAt.tuples (en _ (W _ _ q) rfl #[_,rfl]) (en _ (W _ _ R) rfl #[_,rfl]) (MD U) λK h r=>by rw[dm (yK M K h) λg Z=>dm (yK k K r) λS z=>C (I _<|m6 g) Z z<|ME U])
    rw[GT]at this;rwa[(beq_iff_eq.mpr c:((ar Q).size==(ar t).size)=true)]at this
  |_=>rw[I.elim]
def mY(x:Wd)(A:dW)(s:aN)(y z:af):Prop:=∀(w:af->aN->Prop) (h:Bool->aN->Prop),h true s->d_ (aE pw x.W) A (eqBool y z) h w s
def mY.of{x:Wd}{A:dW}{s:aN}{y z:af}(h:EqAt A s y z true):mY x A s y z:=(h _ _)
def mY.refs{x:Wd}{A:dW}{s:aN}{a b:aH}(h:∀(E:af->aN->Prop) (Q:af->aN->Prop),Q (.bool true) s->d_ (aE pw x.W) A (pU .Eq (.ref a)<|.ref b) Q E s):mY x A s (.ref a) (.ref b):=λE Q q=>by rw[iw<|wpAny_ite_split (λU=>aT<|oB<|bK q) λU=>(aT<|h _ _<|E6 q)]
def mY.Ux{x:Wd}{A:dW}{s:aN}{l:!UInt8}{t u:N}:mY x A s (.bytes #[l] t) (.bytes #[l] u):=λw h q=>by rw[iw<|wpAny_ite_split (λU=>aT<|oB<|bK q) λU=>(aT<|PySem.W.eq_bytes<|E6 (by rw[beq_self_eq_true,];rw[q]))]
def Ym(a:s.heap.get? l=some (aa D n))(y:s.heap.get? b=some (aa U J))(t:D.size=U.size)(w:∀j (B:j<D.size) (M:j<U.size),mY x A.in1 s D[j] U[j])(g:R (.ok<|.ret<|.bool true) s):∀(k i),D.size-i=k->d_ (aE pw x.W) A.in1 (Builtin.«list.__eq__.loop» ⟨[.ref l,.ref b,im i,im 2],[]⟩) (λr P=>match r with|.done f=>R (.ok f) P|.again p=>p.quiet=true/\gJ (aE pw x.W) A p R P) (λe P=>R (.error e) P) s:=by
 intro k;induction k with
 |zero=>
  intro i c;obtain⟨I,z,d,K,o⟩:=s;replace a:I.get? l=some {cls:=.type "list",dict:=none,data:=.seq D n,slots:=#[[]]}:=a;replace y:I.get? b=some {cls:=.type "list",dict:=none,data:=.seq U J,slots:=#[[]]}:=y
  wp_walk using p9 a,p9 y;have h:D[((i:N):Int).toNat]? =none:=by simp;rw[aja c]
  have m:U[((i:N):Int).toNat]? =none:=by simp;rw[ajb t c]
  rw[h,m]
  wp_walk using p9 a,p9 y;show R (.ok<|.ret<|.bool<|D.size==U.size) _;rw[t,beq_self_eq_true];rw[g]
 |succ k C=>
  intro i c;obtain⟨I,z,d,K,o⟩:=s;replace a:I.get? l=some {cls:=.type "list",dict:=none,data:=.seq D n,slots:=#[[]]}:=a;replace y:I.get? b=some {cls:=.type "list",dict:=none,data:=.seq U J,slots:=#[[]]}:=y
  wp_walk using p9 a,p9 y;have G:i<D.size:=ajc c;have q:i<U.size:=ajd t G;have h:D[((i:N):Int).toNat]? =some D[i]:=by simp[G]
  have m:U[((i:N):Int).toNat]? =some U[i]:=by simp[q]
  have u:((i:Int)+1)=((i+1:N):Int):=by push_cast;rfl
  rw[h▸m▸?_];rw[aT (w i G q _ _ ?_)]
  wp_walk;rw[u▸#[O8 plain_eq_loop _,AO entry_eq_loop (by rw[(Sa plain_eq_loop _)▸C (i+1) (aje c G)])]]
def Yl(a:s.heap.get? l=some (aa D n))(y:s.heap.get? b=some (aa G J))(t:D.size=G.size)(f:A.units<cLine)(c:∀j (g:j<D.size) (M:j<G.size),mY x A.in1 s D[j] G[j])(i:Q (.bool true) s):d_ (aE pw x.W) A (pU .Eq (.ref l)<|.ref b) Q E s:=by
 rw[wpAny_richCompare_same_room (op:=.Eq) #[_,a,rfl] #[_,y,rfl] Fn (wpAny_call<|U_ Fn.plain F.entry_list_eq<|Fn.check _ _ _ _ _ _ _ _ #[_,a,rfl] (F.args_list_eq_2 _ _) ?_) f];obtain⟨I,z,d,K,o⟩:=s;replace a:I.get? l=some {cls:=.type "list",dict:=none,data:=.seq D n,slots:=#[[]]}:=a;replace y:I.get? b=some {cls:=.type "list",dict:=none,data:=.seq G J,slots:=#[[]]}:=y;have k:=AutoSeq1.sub_list_list;have B:¬(D.size !=G.size)=true:=by simp[t]
 wp_walk using p9 a,p9 y;exact#[O8 plain_eq_loop _,AO entry_eq_loop (by exact(Sa plain_eq_loop _)▸Ym (R:=λr P=>match r with|.ok (.ret v)=>v≠.notImplemented/\Q v P|.ok _=>False|.error e=>E e P) a y t c #[(λe=>nomatch e),i] _ 0 rfl)]
end
section
open PySem.SeqAt
def ar7:∀{es:!De},valueAt (es.map λe=>((#[#[e.1]]:aA),e.2.2)) #[#[k]]=(aZ es k).map (·.2):=by
 intro J;induction J with
 |nil=>rw[rfl]
 |cons e es C=>
  unfold valueAt at C⊢;simp only[bV,uD,aZ];by_cases U:e.1=k
  .rw[if_pos U,decide_eq_true<|by rw[U,]];rfl
  .rw[if_neg U,decide_eq_false λq=>U (by injection q with q;injection q)];rw[C]
def aeG{x:Wd}{F:Fs}{A:dW}{s:aN}(W:∀a o,F a o->s.heap.get? a=some o)(f:A.units+4<cLine){r:!De}{g:cH}(i:bS F r (eQ g)):∀{b:!De} {m:!(!N×PV)} {h:cH},bS F b m->m=eQ h->(∀p∈h,aZ g p.1=some p.2)->KeqHits A s (r.map λe=>((#[#[e.1]]:aA),e.2.2)) (b.map λe=>((#[#[e.1]]:aA),e.2.2)) true:=by
 intro b m h w;induction w generalizing h with
 |nil=>intro _ _;rw[.nil]
 |@cons j D v p l m U _ C=>
  intro e c;cases h with
  |nil=>cases e
  |cons d h=>
   injection e with K O;rw[ct (oZ K) λQ z=>?_];subst Q;subst z;obtain⟨G,n,Z,S⟩:=i.get (k:=d.1) (by simp only[t_,(c d<|.head _)];rfl);have t:=PM W (by
    intro q u;rw[aJ (bn.mp u) λy J P=>?_];subst P;intro q u;rcases aY.mp u with rfl|u
    .trivial
    .rcases iy.mp u with rfl
     trivial) U S<|ak3 f
   have:=KeqHits.hit (k:=#[#[d.1]]) (by simp only[ar7,Z];rfl) t<|C O λp I=>c p<|.tail _ I;rw[this]
def Yk{x:Wd}(W:∀a o,F a o->s.heap.get? a=some o)(f:A.units+5<cLine)(b:F K (ak (aB x.P a7) bb))(M:F a6 (ak (aB x.P a8) J))(w:bS F a7 (eQ D))(t:bS F a8 (eQ G))(k:(D.map (·.1)).Nodup)(T:(G.map (·.1)).Nodup)(h:D.length=G.length)(c:∀p∈D,aZ G p.1=some p.2)(g:K≠1)(Z:a6≠1)(i:Q (.bool true) s):d_ (aE pw x.W) A (pU .Eq (.ref K)<|.ref a6) Q E s:=by
 have R:(a7.map (·.1)).Nodup:=by rw[w.keys,bI];rw[k]
 have j:(a8.map (·.1)).Nodup:=by rw[t.keys,bI];rw[T]
 have X:∀d:N,d≠1->((d:aH)==yW)=false:=λd U=>beq_eq_false_iff_ne.mpr U;refine keq_eq (X K g) (X a6 Z) (A9 (x:=x) (W _ _ b) R).dictOf (A9 (x:=x) (W _ _ M) j).dictOf (ak4 f) (λ_=>aeG (x:=x) (A:=A.in1) W (by rw[ak5 f]) t w rfl c) ?_;have u:=w.length;have H:=t.length;rw[aU]at u H;have:(ql (λe:De=>((#[#[e.1]]:aA),e.2.2)) a7).length=(ql (λe:De=>((#[#[e.1]]:aA),e.2.2)) a8).length:=by rw[aU,aU];rw[ak6 h u H]
 rw[this,beq_self_eq_true];rw[i]
def asn{cs:cH}:js cs=.none\/∃l,js cs=.nI l:=by
 delta js;generalize aZ cs [70]=o;cases o with
 |none=>rw[.inl rfl]
 |some l=>cases l with
  |nil=>rw[.inl rfl]
  |cons y D=>rw[.inr #[_,rfl]]
def Yj(W:∀a o,F a o->s.heap.get? a=some o)(f:A.units+10<cLine){cs:cH}(t:rR F x a b rd cs D cd nc a7 bs bl ca)(z:uz x F S U b0 ls bb a8 a6 bt bo ch)(n:F D (aa #[bs] a7))(M:F cd (ak (aB x.P bl) nc))(X:F a8 (aa #[bt] nr))(I:F a6 (ak (aB x.P bo) J))(g:cd≠1)(Z:a6≠1)(k:b=decide (mx (S.map (·.2))<9))(O:rd=jB ls)(B:(cs.map (·.1)).Nodup)(T:(U.map (·.1)).Nodup)(w:cs.length=U.length)(c:∀p∈cs,aZ U p.1=some p.2)(m:js cs=b0)(i:Q (.bool true) s):d_ (aE pw x.W) A (pU .Eq (.ref a)<|.ref bb) Q E s:=by
 rw[Yl (W _ _ t.l) (W _ _ z.l) rfl (ak7 f) (λK h r=>?_) i]
 match K,h,r with
 |0,_,_=>rw[k▸.of (.same _)]
 |1,_,_=>refine .of (PM W (d:=2) (p:=.lst<|yD rd) ?_ (dT.mpr #[D,_,a7,rfl,n,t.rd]) (dT.mpr #[a8,_,nr,rfl,X,by rw[O▸z.r]])<|by rw[ak8 f]);intro q u;rw[aJ (bn.mp u) λl _ P=>?_];subst P;intro q u;rw[aJ (bn.mp u) λy _ P=>?_];subst P;trivial
 |2,_,_=>rw[.refs λE Q q=>Yk W (by rw[ak9 f]) M I t.ce z.c B T w c g Z q]
 |3,_,_=>
  show mY x A.in1 s ca ch;have R:=t.w;have j:=z.w;rw[<-m]at j;have e:js cs=.none\/∃l,js cs=.nI l:=by rw[asn]
  rcases e with e|⟨l,e⟩
  .rw[e]at R j
   rw[(yJ.mp R)▸(yJ.mp j)▸.of (.same _)]
  .rw[e]at R j
   obtain⟨Y,rfl⟩:=yI.mp R;obtain⟨G,rfl⟩:=yI.mp j;rw[.Ux]
 |K+4,h,_=>rw[absurd h<|by rw[ak_]]
end
def ark(xs):(iS #[xs] none (some 9) none).toList=xs.take 9:=by
 by_cases U:9<=xs.length
 .have:=slicePick_upto #[xs] 9 (by simpa using U)
  have e:=this;simpa using(congrArg Fe e)
 .have e:iS #[xs] none (some 9) none=iS #[xs] none none none:=by
   have:Qo none (some 9) none (ar xs).size=Qo none none none (ar xs).size:=by simp[Qo];rw[aaV U]
   unfold iS;rw[this,]
  simp only[e,slicePick_all,qp<|ahg U]
def m9(z:Int):N:=(z.fmod<|16^9).toNat
def Pb(z):cj z (16^9) (ad<|m9 z):=#[ζ,by unfold m9;rw[oJ,Int.toNat_of_nonneg<|Int.fmod_nonneg_of_pos z<|ζ]]
section
variable{x:Wd}
abbrev zV(p:Int×N):af:=.int p.1 p.2
abbrev uV(x:Wd)(H:N):Option (N×af)->aH×Obj
 |none=>(H,ak [] 0)
 |some p=>(H,ak [V x.P vV p.1 p.2] 1)
abbrev xH(z:N):Mk:=#[none,some [iC z],false]
def aqq{z it ac H f k ns na b:N}(L:F f (aa #[xs] ns))(hi:xs[k]? =some (.int D b))(hz:G.length<=1000)(h:∀F' y d E,Le F F'->ay x (xH z) 640 (ov z it ac H) F' [(it,ba f<|k+1),(ac,aa #[G++[aO (m9 D,E)]] d),uV x H<|some y] Q):ay x (xH z) 640 (ov z it ac H) F [(it,ba f k),(ac,aa #[G] na),uV x H o] Q:=by
 cases o with
 |none=>rw[fp (O:=[(f,aa #[xs] ns)]) #[L,ab] λB K=>bu (aeU ns B K z it ac H f k na b (m9 D) xs G D x) ab #[fY<|g_ hz,Pb D,hJ hi,ab] rfl (aV) ?_];rw[km,];rw[h _ (K,.int D b) _ _ an]
 |some y=>rw[fp (O:=[(f,aa #[xs] ns)]) #[L,ab] λB K=>bu (aeV ns B K z it ac H f k na b (m9 D) y.1 xs G D y.2 x) ab #[fY<|g_ hz,Pb D,hJ hi,ab] rfl (aV) ?_];rw[km,];rw[h _ (y.1,.int D b) _ _ an]
inductive Aa (x:Wd) (ac cl:N) (l:!(Int×N)) (F':Fs):aL->ao->Prop
 |mk (vs:!(N×N)) (na:N) (o:Option (N×af)) (h1:vs.map (·.1)=l.map (λp=>m9 p.1)):Aa x ac cl l F' (.ok .next) [(ac,aa #[vs.map aO] na),uV x cl o]
def afj{z it ac H f ns:N}(i:l.length<=900):∀{n k na} {vs:!(N×N)} {o F},F f (aa #[l.map zV] ns)->vs.map (·.1)=(l.take k).map (λp=>m9 p.1)->k+n=l.length->ay x (xH z) 640 (ov z it ac H) F [(it,ba f k),(ac,aa #[vs.map aO] na),uV x H o] (Aa x ac H l):=by
 intro n;induction n with
 |zero=>
  intro k na vs o F a X w;obtain rfl:k=l.length:=w;simp only[wJ]at X;rw[bJ (L:=[(it,ba f l.length)]) (O:=[(f,aa #[l.map zV] ns)]) #[a,ab] λB K=>bp (aeS ns B K z it ac H f l.length (l.map zV) x) ab #[by show(ar<|l.map zV)[l.length]? =none;simp,ab] (aV) #[vs,na,o,X]]
 |succ n C=>intro k na vs o F a X w;have c:=rt w;refine aqq a (by simp only[fi,eG c];rfl) (ye X<|b8 i<|ζ) λT y d E le=>?_;have z:=C (vs:=vs++[(m9 (l[k]).1,E)]) (na:=d) (o:=some y) (le _ _ a) (by simp only[lX c,bf,bf,X];rfl)<|pG w;rw[bf]at z;rw[z]
def VK{z it ac H f ns na:N}(i:l.length<=900)(a:F f (aa #[l.map zV] ns)):ay x (xH z) 640 (Eu z it ac H) F [(it,ba f 0),(ac,aa #[[]] na),(H,ak [] 0)] (Aa x ac H l):=bJ (L:=[(it,ba f 0)]) (O:=[]) ab λB K=>bu (aeT B K z it ac H f x) ab ab rfl (aV)<|afj i (vs:=[]) (o:=none) (an _ _ a) rfl<|ahh
end
section
variable{x:Wd}
inductive GI (l:!(N×N×Option N)) (F':Fs):aL->ao->Prop
 |mk (a rs nr) (h1:F' a (aa #[rs] nr)) (h2:aM F' (l.map d5) rs):GI l F' (.ok (.ret (.ref a))) []
inductive GJ (l:!(!N)) (F':Fs):aL->ao->Prop
 |mk (a es) (h1:F' a (aa #[es] 0)) (h2:aM F' (l.map .str) es):GJ l F' (.ok (.ret (.ref a))) []
def Rj{au:!af}(M:am≠[])(D:am.length<=100)(I:F p (aa #[au] G))(t:aM F (am.map gm) au):ay x aj 200 (.call (.ref 867) #[[.ref p],[]]) F [] (GI<|gO am 9 0 [(0,5)]):=
 (aq5 M D I t).ud λr T h K q=>by rw[q.casesOn λa f w U=>j9 [(a,aa #[f] w)] [] (.refl _) #[a,f,w,bc<|.head _,U.to an]]
def Rk(b:D.length=9)(W:∀r∈D,gk r){au rs:!af}(I:F p (aa #[au] G))(t:aM F (am.map gm) au)(A:F r (aa #[rs] nr))(c:aM F (D.map d5) rs):ay x aj 400 (.call (.ref 874) #[[.ref p,.ref r],[]]) F [] (GJ<|nY am D):=
 (aq7 b W I t A c).ud λr T h K q=>by rw[q.casesOn λa k U=>j9 [(a,aa #[k] 0)] [] (.refl _) #[a,k,bc<|.head _,U.to an]]
structure qk (am:!N) (tree:c6) (extra:!(!N)):Prop where
 h3:3<=am.length
 h9:am.length<=100
 et:tree=gO am 9 0 [(0,5)]
 ee:extra=nY am tree
 len:tree.length=9
 tr:sD tree extra
 ex:rS extra
 pg:∃k ks,la (some 32) [] (pP am tree extra) (k::ks)/\ks.length<=9000/\2<=(pP am tree extra).length/\(pP am tree extra).length<=9999/\
  ∃row rest b cs rd,jl [] [] (k::ks)=row::rest/\Nonempty (sA (row::rest) b cs rd)/\
   ((not (b)))=decide (mx ((bY (cZ tree extra) 9).map (·.2))<9)/\
   (∀ls,ls.length=9->jY (bY (cZ tree extra) 9) ls->rd=jB ls)/\
   (cs.map (·.1)).Nodup/\((dy am (bY (cZ tree extra) 9) tree).map (·.1)).Nodup/\cs.length=(dy am (bY (cZ tree extra) 9) tree).length/\
   (∀p∈cs,aZ (dy am (bY (cZ tree extra) 9) tree) p.1=some p.2)/\
   js cs=j6 am (bY (cZ tree extra) 9)
abbrev QL:Po:=λU r U=>r=.ok (.ret<|.bool true)
abbrev s6:Mk:=#[none,some [],false]
abbrev oe(x:Wd)(sz s J l y tk G E t4:N)(u:Array (Option af)):aH×Obj:=(sz,bi [V x.P iv tk<|.ref s,V x.P jm (G+3)<|.ref<|J+1,V x.P kP E<|.ref l,V x.P mM t4<|.ref y] 4 u)
structure qh (x:Wd) (F:Fs) (am:!N) (tree:c6) (extra:!(!N)) (p tr wt nr:N) (au rs es:!af):Prop where
 hp:F p (aa #[au] 0)
 BY:aM F (am.map gm) au
 hr:F tr (aa #[rs] nr)
 BZ:aM F (tree.map d5) rs
 he:F wt (aa #[es] 0)
 BW:aM F (extra.map .str) es
 h1:∃o,F 1 o
def qh.to{F F':Fs}(T:Le F F'){am:!N}{n:c6}{g:!(!N)}{p l y nr:N}{au rs es:!af}(h:qh x F am n g p l y nr au rs es):qh x F' am n g p l y nr au rs es:=#[T _ _ h.hp,h.BY.to T,T _ _ h.hr,h.BZ.to T,T _ _ h.he,h.BW.to T,let⟨o,h⟩:=h.h1;#[o,T _ _ h]]
def uz.to{F F':Fs}(Q:Le F F'){S:fM}{E:cH}{w:PV}{ls:!(List<|List N)}{a k cd:N}{B:!af}{j:!De}{e:af}(h:uz x F S E w ls a k cd B j e):uz x F' S E w ls a k cd B j e:=#[Q _ _ h.l,h.r.to Q,h.n,h.o,h.c.to Q,h.w.to Q]
def ZK{l E y t4 j M z nr:N}{au rs es:!af}{cs:cH}(I:qh x F am a6 a7 (J+1) l y nr au rs es)(h:qk am a6 a7)(g:rR F x j ((not (b))) rd cs D cd nc bl bo bb bs)(K:((not (b)))=decide (mx ((bY (cZ a6 a7) 9).map (·.2))<9))(O:∀ls,ls.length=9->jY (bY (cZ a6 a7) 9) ls->rd=jB ls)(c0:(cs.map (·.1)).Nodup)(T:((dy am (bY (cZ a6 a7) 9) a6).map (·.1)).Nodup)(b0:cs.length=(dy am (bY (cZ a6 a7) 9) a6).length)(c:∀p∈cs,aZ (dy am (bY (cZ a6 a7) 9) a6) p.1=some p.2)(m:js cs=j6 am (bY (cZ a6 a7) 9))(ck:Le F0 F):Go x s6 650 F0 QL F ([(D,aa #[bo] bl),(cd,ak (aB x.P bb) nc)]++a8) λt=>DG s sz tk J G l E y t4 j M z us x t:=by rw[bP (Z:=oe x sz s J l y tk G E t4 (us sz)::(_++a8)) (aeP s sz tk J G l E y t4 j M z us x) ab ab (.refl _) (((are h.h3 h.h9 h.tr (I.to an).hp (I.to an).BY (I.to an).hr (I.to an).BZ (I.to an).he (I.to an).BW).hd).le ζ λ_ _ _ _ U=>U) λr S P u i=>i.casesOn @λP ls f k n H C da ac R d B c1=>?_];have Q:=bN u;rw[#[[oe x sz s J l y tk G E t4<|us sz],P++(_++a8),pm [P,[oe x sz s J l y tk G E t4<|us sz],[(D,aa #[bo] bl),(cd,ak (aB x.P bb) nc)]++a8] (.p (.a 0)<|.p (.a 1)<|.a 2) (.p (.a 1)<|.p (.a 0)<|.a 2) rfl,_,_,[],ab,λW c2=>xG (Lc:=[(D,aa #[bo] bl),(cd,ak (aB x.P bb) nc),(k,aa #[H] ac),(n,ak (aB x.P C) R)]) (Z:=oe x sz s J l y tk G E t4 (us sz)::(a8++d)) (aeQ s sz tk J G l E y t4 j f W c2 us x) ab ab (((c1.append_right _).append_left _).trans<|pm [[oe x sz s J l y tk G E t4<|us sz],_,d,_,a8] (.p (.a 0)<|.p (.p (.a 1)<|.a 2)<|.p (.a 3)<|.a 4) (.p (.p (.a 3)<|.a 1)<|.p (.a 0)<|.p (.a 4)<|.a 2) rfl) λw c4 c5 A bt o=>(dm I.h1 λL ca=>?_)]];have X:∀p∈[(D,aa #[bo] bl),(cd,ak (aB x.P bb) nc),(k,aa #[H] ac),(n,ak (aB x.P C) R)],p.1≠1:=λp ch e=>o.rep.dj p (fZ _ ch) L<|e▸an _ _ (Q _ _ ca);rw[Yj (λa Y U=>U.elim (λU=>o.rep.fr _ _<|an _ _ U) λU=>o.rep.led _<|fZ _ U) (by have:=bt.2.2.1;show A.units+10<9900;rw[ahQ this]) (g.to λa Y U=>an a Y<|Q a Y U) (B.to an) (bc<|.head _) (bc<|.tail _<|.head _) (bc<|.tail _<|.tail _<|.head _) (bc<|.tail _<|.tail _<|.tail _<|.head _) (X _<|.tail _<|.head _) (X _<|.tail _<|.tail _<|.tail _<|.head _) K (O ls B.n B.o) c0 T b0 c m<|bX _ _ aV o ⟨[],_,.refl _,_,_,[],ab,λq c3=>bp (aeR sz q c3 x) ab ab (cb<|dP ck Q) rfl⟩]
def ZJ{au rs es:!af}(I:qh x F am a6 a7 (J+1) bb bl nr au rs es)(h:qk am a6 a7)(g:F a8 (aa #[bt] ch))(A:aM F ((jl [] [] (k::bo)).map dG) bt)(hk:∃o rest b cs rd,jl [] [] (k::bo)=o::rest/\Nonempty (sA (o::rest) b cs rd)/\ ((not (b)))=decide (mx ((bY (cZ a6 a7) 9).map (·.2))<9)/\ (∀ls,ls.length=9->jY (bY (cZ a6 a7) 9) ls->rd=jB ls)/\ (cs.map (·.1)).Nodup/\((dy am (bY (cZ a6 a7) 9) a6).map (·.1)).Nodup/\cs.length=(dy am (bY (cZ a6 a7) 9) a6).length/\ (∀p∈cs,aZ (dy am (bY (cZ a6 a7) 9) a6) p.1=some p.2)/\ js cs=j6 am (bY (cZ a6 a7) 9))(l:Le F0 F):Go x s6 650 F0 QL F [] λC=>DF s sz tk J G bb b0 bl t4 a8 bs ca x C:=by
 rw[XW hk λo rest b cs rd i t K O n T f c m=>?_];obtain⟨d⟩:=t;rw[i]at A;rw[bP (aeO s sz tk J G bb b0 bl t4 a8 bs ca x) ab ab (.refl _) ((ard (ol:=[iC sz]) (zs:=[#[sz,_,4]]) (us:=λ_=>#[[]]) #[(λU=>nomatch U),rfl,ab] d (an _ _ g)<|A.to an).le ζ λ_ _ _ _ U=>U) λr w P u q=>?_];obtain⟨y,a,D,S,H,W,B,j,e,R,L,Z⟩:=q;have Q:=bN u;rw[#[_,_++R,by simp only[bQ];rw[Z.trans<|pm [[(D,aa #[B] W),(S,ak (aB x.P j) H)],R,_] (.p (.a 0)<|.p (.a 1)<|.a 2) (.p (.a 2)<|.p (.a 0)<|.a 1) rfl],_,_,[],ab,λM z=>ZK (I.to Q) h L K O n T f c m λa Y U=>Q a Y<|l a Y U]]
def Iq{au rs es:!af}(I:qh x F am bb a8 (J+1) K a6 nr au rs es)(h:qk am bb a8)(O:Le F0 F):Go x s6 650 F0 QL F [] λi=>DE s sz tk J G K a7 a6 bl t4 x i:=by rw[xp h.pg λj t L p A D W=>Bp h.tr.hd λy n C Q E=>?_];have f:=h.len;have e:=λ{F:Fs} (I:qh x F am bb a8 (J+1) K a6 nr au rs es)=>aq9 (x:=x) h.h3 h.h9 (by rw[E]at f;simpa using f) (E▸h.tr.ok) h.ex I.hp I.BY I.hr (E▸I.BZ) I.he I.BW;rw[<-E]at e;generalize pP am bb a8=jj at L A D e;rw[bP (Z:=[oe x sz s J K a6 tk G a7 t4 #[[]]]) (aeM s sz tk J G K a7 a6 bl t4 x) ab ab (.refl _) ((e<|I.to an).hd.le ζ λ_ _ _ _ U=>U) λr g P u q=>q.casesOn λB=>#[[oe x sz s J K a6 tk G a7 t4 #[[]]],[],.refl _,_,_,[],ab,λc k=>bP (Z:=[oe x sz s J K a6 tk G a7 t4 #[[]]]) (aeN s sz tk J G K a7 a6 t4 B c k jj x) ab ab (.refl _) ((aq_ A D L p).hd.le ζ λ_ _ _ _ U=>U) λr l b H q=>(q.casesOn λv S=>gV (dT.mp S) λw T M m R d=>?_)]];subst m;have z:=dP (cb<|bN u) H;rw[⟨[oe x sz s J K a6 tk G a7 t4 ⟨[]⟩],[],.refl _,_,_,[],ab,λX o=>ZJ (I.to z) h R d W λa Y U=>z a Y<|O a Y U⟩]
def ZG{vs:!(N×N)}(hv:vs.map (·.1)=zs)(g:∃o,F 1 o)(hz:zs.length<=9)(h:qk (zs++[986906,112359,958717]) a6 K)(O:Le F0 F):Go x s6 650 F0 QL F [] λc=>DD s sz tk na J G (vs.map aO) x c:=by
 have j:=congrArg gR hv;rw[aU]at j;have t:∀W:Fs,aM W ((zs++[986906,112359,958717]).map gm) (vs.map aO++[.int 986906 G,.int 112359<|G+1,.int 958717<|G+2]):=λW=>by
  rw[<-hv,bf];rw[aM.append ?_<|.cons (dS.mpr #[_,rfl])<|.cons (dS.mpr #[_,rfl])<|.cons (dS.mpr #[_,rfl]) .nil];clear hv j;induction vs with
  |nil=>rw[.nil]
  |cons v vs C=>rw[.cons (dS.mpr #[v.2,rfl]) C]
 refine bP (Lc:=[]) (aeK s sz tk na J G (vs.map aO) x) ab #[#[ζ,by show(vs.map aO).length+3<=16777216;rw[aU,];rw[Mv hz j]],ab] (.refl _) ((Rj (by simp) h.h9 (bc<|.head _)<|t _).hd.le ζ λ_ _ _ _ U=>U) λr S P u q=>q.casesOn λl f w R d=>?_;have Q:=bN u;have I:=u _ _<|bc<|.head _;rw[<-h.et]at d;rw[⟨_,[],.refl _,_,_,[],ab,λD E=>bP (Lc:=[]) (Lf s sz tk J G l D E x) ab ab (.refl _) ((Rk h.len h.tr.ok (an _ _ I) (t _) (an _ _ R)<|d.to an).hd.le ζ λ_ _ _ _ U=>U) λr i b H q=>(q.casesOn λy k p Y=>?_)⟩];have z:=bN H;rw[<-h.ee]at Y;rw[g.casesOn λL g=>#[_,[],.refl _,_,_,[],ab,λM e=>Iq #[z _ _ I,t _,z _ _ R,d.to z,p,Y,L,z _ _<|Q _ _ g] h λa o U=>z a o<|Q a o<|O a o U]]
def ZH{vs:!(N×N)}(hv:vs.map (·.1)=zs)(g:∃o,F 1 o)(hz:zs.length<=9)(h:qk (zs++[986906,112359,958717]) a8 a7)(O:Le F0 F):Go x s6 650 F0 QL F [] λc=>NP s sz tk na K J G (vs.map aO) a6 x c:=by
 have j:=congrArg gR hv;rw[aU]at j;have t:∀W:Fs,aM W ((zs++[986906,112359,958717]).map gm) (vs.map aO++[.int 986906 G,.int 112359<|G+1,.int 958717<|G+2]):=λW=>by
  rw[<-hv,bf];rw[aM.append ?_<|.cons (dS.mpr #[_,rfl])<|.cons (dS.mpr #[_,rfl])<|.cons (dS.mpr #[_,rfl]) .nil];clear hv j;induction vs with
  |nil=>rw[.nil]
  |cons v vs C=>rw[.cons (dS.mpr #[v.2,rfl]) C]
 refine bP (Lc:=[]) (aeL s sz tk na K J G (vs.map aO) a6 x) ab #[#[ζ,by show(vs.map aO).length+3<=16777216;rw[aU,];rw[Mv hz j]],ab] (.refl _) ((Rj (by simp) h.h9 (bc<|.head _)<|t _).hd.le ζ λ_ _ _ _ U=>U) λr S P u q=>q.casesOn λl f w R d=>?_;have Q:=bN u;have I:=u _ _<|bc<|.head _;rw[<-h.et]at d;rw[⟨_,[],.refl _,_,_,[],ab,λD E=>bP (Lc:=[]) (Lf s sz tk J G l D E x) ab ab (.refl _) ((Rk h.len h.tr.ok (an _ _ I) (t _) (an _ _ R)<|d.to an).hd.le ζ λ_ _ _ _ U=>U) λr i b H q=>(q.casesOn λy k p Y=>?_)⟩];have z:=bN H;rw[<-h.ee]at Y;rw[g.casesOn λL g=>#[_,[],.refl _,_,_,[],ab,λM e=>Iq #[z _ _ I,t _,z _ _ R,d.to z,p,Y,L,z _ _<|Q _ _ g] h λa o U=>z a o<|Q a o<|O a o U]]
def ari{l:!(Int×N)}(hs:F s (aa #[l.map zV] ns))(i:l.length<=9000)(b:∃o,F 1 o)(h:qk ((l.take 9).map (λp=>m9 p.1)++[986906,112359,958717]) a6 D):ay x s6 650 (.call (.ref 913) #[[.ref s],[]]) F [] QL:=by
 refine b.casesOn λL b=>fq (O:=[(s,aa #[l.map zV] ns)]) #[hs,ab] λB K=>bP (Z:=[(B,az _ 1)]) (aeJ s ns B K (l.map zV) x) ab #[fY (by rw[aU,];rw[LZ i]),ab] (.refl _) ((VK (ns:=0) (l:=l.take 9) (b8 (FO 9 l)<|ζ)<|(by simp only[ark,r9]:(iS ⟨l.map zV⟩ none (some 9) none).toList=(l.take 9).map zV)▸bc (.head _)).le ζ λ_ _ _ _ U=>U) λr S P u q=>q.casesOn λJ C o X=>?_;have Q:=bN u;have c:((l.take 9).map λp=>m9 p.1).length<=9:=by rw[aU,];rw[FO 9 l]
 cases o with
 |none=>rw[#[_,[],pm [[(B+4,aa #[J.map aO] C),(B+5,ak [] 0)],_] (.p (.a 0)<|.a 1) (.p (.p (.a 1)<|.a 0) .z) rfl,_,_,[],ab,λd G=>ZG X #[L,Q _ _ b] c h Q]]
 |some y=>rw[#[_,[],pm [[(B+4,aa #[J.map aO] C),uV x (B+5)<|some y],_] (.p (.a 0)<|.a 1) (.p (.p (.a 1)<|.a 0) .z) rfl,_,_,[],ab,λd G=>ZH X #[L,Q _ _ b] c h Q]]
end
def nD(g:PG):!(!N)->Prop
 |[]=>True
 |x::l=>x∉l/\(∀y∈aS g x,y∈l)/\nD g l
def nD.Q9{g:PG}:∀{l:!(!N)} {o k:!N},nD g l->o∈l->k∈aS g o->k∈l
 |x::l,o,k,⟨_,h2,h3⟩,m,hk=>by
  rcases aY.mp m with rfl|m
  .rw[.tail _<|h2 k hk]
  .rw[.tail _<|nD.Q9 h3 m hk]
def nD.M1{g:PG}{C:!N->Prop}(b:∀k,C k->∃o,C o/\k∈aS g o):∀{l:!(!N)},nD g l->(∀k,C k->k∈l)->∀k,¬C k
 |[],_,U,k,c=>nomatch U k c
 |x::l,⟨h1,h2,h3⟩,U,k,c=>by
  have L:=λL=>by
   rw[aJ (b x L) λo m a=>?_];rcases aY.mp (U o m)with rfl|H
   .rw[h1<|h2 _ a]
   .rw[h1<|h3.Q9 H a]
  rw[nD.M1 b h3 (λk c=>(aY.mp<|U k c).resolve_left λe=>L<|e▸c) k c]
def nC(g:PG)(l:!(!N)):o7->!N->Prop
 |[],_=>True
 |(x,K)::st,p=>∃f,K=f+1/\(aS g x)[f]? =some p/\(∀i<f,∀Z,(aS g x)[i]? =some Z->Z∈l)/\nC g l st x
def nC.mono{g:PG}{l Q:!(!N)}(h:∀x∈l,x∈Q):∀{st:o7} {p:!N},nC g l st p->nC g Q st p
 |[],_,_=>trivial
 |(x,K)::st,p,h0=>HK h0 λf e a M X=>B2 f e a (λi S Z d=>h _<|M i S Z d)<|nC.mono h X
structure mZ (g:PG) (l:!(!N)) (st:o7) (seen:!(!N)):Prop where
 t:nD g l
 s:∀x,x∈seen↔x∈l\/x∈st.map (·.1)
 d:∀x∈st.map (·.1),x∉l
 n:(st.map (·.1)).Nodup
def Ba:∀{st l k},nC g l st k->k∈l->mZ g l st D->match ig g st with
  |none=>∃Q,mZ g Q [] D
  |some (E,J)=>∃Q,nC g Q J E/\mZ g Q J D
 |[],l,k,_,_,a=>#[l,a]
 |(x,K)::st,l,k,h0,hk,a=>HK h0 λf e j M X=>by
  simp only[ig];have all:∀i<K,∀Z,(aS g x)[i]? =some Z->Z∈l:=λi S Z d=>by
   rcases Nat.lt_or_eq_of_le (zM (e▸S))with q|rfl
   .rw[M i q Z d]
   .rw[j]at d;cases d;rw[hk]
  cases H:(aS g x)[K]?with
  |some E=>
   rw[bA l (B2 K rfl H all X) #[a.t,λy=>?_,λy b=>a.d y ?_,?_]]
   .rw[a.s y]
   .rw[b]
   .rw[a.n]
  |none=>
   have c:∀y∈aS g x,y∈l:=λy b=>by
    obtain⟨i,S,rfl⟩:=FR.mp b;rw[all i ?_ _<|eG S];rcases sg i K with q|q
    .rw[q]
    .have:=SZ.mp H
     rw[akS e S q this]
   have h:=a.n;rw[bV,c_]at h;rw[Ba (X.mono λy b=>.tail _ b) (.head _) #[#[(a.d x<|.head _),c,a.t],λy=>by
    rw[a.s y,bV,aY,aY];constructor
    .rintro(U|U|U)
     .rw[.inl<|.inr U]
     .rw[.inl<|.inl U]
     .rw[.inr U]
    .rintro((U|U)|U)
     .rw[.inr<|.inl U]
     .rw[.inl U]
     .rw[.inr<|.inr U],λy b H=>by
    rcases aY.mp H with rfl|H
    .rw[h.1 b]
    .rw[a.d y (.tail _ b) H],h.2]]
set_option tactic.hygienic true in
def aa9:∀{f st z P k l},nC g l st k->mZ g l st z->mr g f st z k=some (some P)->∃Q,mZ g Q [] P/\k∈P/\∀x∈z,x∈P:=by
 intro f;induction f with
 |zero=>intro st z P k l _ _ U;cases U
 |succ f C=>
  intro st z P k l o a U;change(if _ then _ else _)=_ at U;split at U
  .rename_i c
   split at U
   .rw[nomatch U]
   .rename_i h
    have u:=((a.s k).mp c).resolve_right h;have E:=Ba o u a;split at U
    .rename_i e
     rw[e]at E;rw[dm E λQ d=>?_];injection U with U;injection U with U;subst U;rw[en Q d c λK U=>U]
    .rename_i y e
     rw[e]at E;rw[aJ E λQ n d=>kG (C n d U) λr M X I=>en r M (I _ c) I]
  .rename_i c
   have j:=λq=>c<|(a.s k).mpr<|.inl q;have p:=λq=>c<|(a.s k).mpr<|.inr q;have m:∀{Y:Option (!N×o7)},(match Y with
     |none=>∃Q,mZ g Q [] (k::z)
     |some (s,J)=>∃Q,nC g Q J s/\mZ g Q J (k::z))->(match Y with
     |none=>some<|some (k::z)
     |some y=>mr g f y.2 (k::z) y.1)=some (some P)->∃Q,mZ g Q [] P/\k∈P/\∀x∈z,x∈P:=λ{Y} E U=>by
    cases Y with
    |none=>rw[dm E λQ d=>?_];injection U with U;injection U with U;subst U;rw[en Q d (.head _) λx L=>.tail _ L]
    |some y=>rw[aJ E λQ n d=>kG (C n d U) λr M X I=>en r M (I _<|.head _) λx L=>I _<|.tail _ L]
   rw[m ?_ U];simp only[ig];cases H:(aS g k)[0]?with
   |some s=>
    rw[bA l (B2 0 rfl H (λi S=>absurd S<|qy _) o) ⟨a.t,λy=>?_,λy b=>?_,?_⟩]
    .rw[aY,a.s y,bV,aY]
     constructor
     .rintro(U|U|U)
      .rw[.inr<|.inl U]
      .rw[.inl U]
      .rw[.inr<|.inr U]
     .rintro(U|U|U)
      .rw[.inr<|.inl U]
      .rw[.inl U]
      .rw[.inr<|.inr U]
    .rcases aY.mp b with rfl|b
     .rw[j]
     .rw[a.d y b]
    .rw[bV,c_];rw[#[p,a.n]]
   |none=>
    have t:aS g k=[]:=by have:=SZ.mp H;rw[wE<|akT this]
    rw[Ba (o.mono λy b=>.tail _ b) (.head _) #[#[j,(λy b=>by rw[t]at b;cases b),a.t],λy=>?_,λy b H=>?_,a.n]]
    .rw[aY,a.s y,aY]
     constructor
     .rintro(U|U|U)
      .rw[.inl<|.inl U]
      .rw[.inl<|.inr U]
      .rw[.inr U]
     .rintro((U|U)|U)
      .rw[.inl U]
      .rw[.inr<|.inl U]
      .rw[.inr<|.inr U]
    .rcases aY.mp H with rfl|H
     .rw[p b]
     .rw[a.d y b H]
set_option tactic.hygienic true in
def anS:∀{t z l},mZ g l [] z->iO g f t z=some false->∃Q,nD g Q/\(∀x∈z,x∈Q)/\∀k∈t,k∈Q:=by
 intro J;induction J with
 |nil=>intro z l a _;rw[en l a.t (λx L=>by have:=(a.s x).mp L;simpa using this) λK U=>(cQ U).elim]
 |cons k t C=>
  intro z l a U;change(if _ then _ else _)=_ at U;split at U
  .rename_i c
   rw[kG (C a U) λQ b M X=>en Q b M λx L=>(aY.mp L).elim (λe=>e▸M _ c)<|X x]
  .split at U
   .rw[nn U]
   .cases U
   .rename_i s e
    rw[kG (aa9 (st:=[]) ab a e) λQ d b M=>kG (C d U) λH h Z S=>en H h (λx L=>Z _<|M x L) λx L=>(aY.mp L).elim (λe=>e▸Z _ b)<|S x]
def Bc{s:!N->N}(hs:∀o,∀k∈aS g o,s o<s k):∀{st m J},st.Pairwise (λa b=>s b.1<s a.1)->ig g st=some (m,J)->J.Pairwise (λa b=>s b.1<s a.1)/\∀e∈J,s e.1<s m
 |[],_,_,_,U=>nn U
 |(x,K)::st,m,J,hp,U=>by
  simp only[ig]at U;have j:=qo.mp hp;cases H:(aS g x)[K]?with
  |some Z=>
   rw[H]at U;injection U with U;injection U with d M;subst d M;have L:=hs x Z<|uE H;rw[⟨qo.mpr ⟨λb y=>j.1 b y,j.2⟩,λe c=>?_⟩];rcases aY.mp c with rfl|c
   .rw[L]
   .rw[sj (j.1 e c) L]
  |none=>rw[H]at U;rw[Bc hs j.2 U]
set_option tactic.hygienic true in
def aa_{s:!N->N}(hs:∀o,∀k∈aS g o,s o<s k):∀{f st z k},st.Pairwise (λa b=>s b.1<s a.1)->(∀e∈st,s e.1<s k)->mr g f st z k≠some none:=by
 intro f;induction f with
 |zero=>intro st z k _ _ U;cases U
 |succ f C=>
  intro st z k I c U;change(if _ then _ else _)=_ at U;split at U
  .split at U
   .rename_i h
    rw[aJ (bn.mp h) λe i M=>?_];have:=c e i;rw[M]at this;rw[ni _ this]
   .split at U
    .cases U
    .rename_i y e
     rw[ct (Bc hs I e) λd M=>C d M U]
  .split at U
   .cases U
   .rename_i y e
    rw[ct (Bc hs (qo.mpr #[c,I]) e) λd M=>C d M U]
set_option tactic.hygienic true in
def DQ{s:!N->N}(hs:∀o,∀k∈aS g o,s o<s k):∀{t z},iO g f t z≠some true
 |[],_,U=>by cases U
 |k::t,z,U=>by
  change(if _ then _ else _)=_ at U;split at U
  .rw[DQ hs U]
  .split at U
   .rw[nn U]
   .rename_i e;rw[aa_ hs .nil (λK U=>(cQ U).elim) e]
   .rw[DQ hs U]
def left(g:PG)(st:o7):N:=(st.map λe=>(aS g e.1).length-e.2).sum
def fx(g:PG)(z:!(!N)):N:=(((g.map (·.1)).filter λj=>decide<|j∉z).map λj=>(aS g j).length).sum
def A_:∀{st m J},ig g st=some (m,J)->left g J+1<=left g st
 |[],_,_,U=>nn U
 |(x,K)::st,m,J,U=>by
  simp only[ig]at U;cases H:(aS g x)[K]?with
  |some Z=>
   rw[H]at U;injection U with U;injection U with a M;subst a M;have:K<(aS g x).length:=by
    rcases sg K (aS g x).length with q|q
    .rw[q]
    .rw[FK q]at H;cases H
   rw[akU this]
  |none=>rw[H]at U;have:=A_ U;rw[akV this]
def aqK(h:k∉g.map (·.1)):aS g k=[]:=by
 induction g with
 |nil=>rfl
 |cons x g C=>rw[bV,aY,not_or]at h;show(if x.1=k then x.2.2 else aS g k)=[];rw[if_neg λe=>h.1 e.symm,];rw[C h.2]
def Ik(w)(hk:k∉D):∀ns:!(!N),((ns.filter λy=>decide (y∉k::D)).map w).sum+(if k∈ns then w k else 0)<=((ns.filter λy=>decide<|y∉D).map w).sum
 |[]=>by simp
 |y::ns=>by
  have C:=Ik w hk ns;by_cases e:y=k
  .subst e
   rw[oL<|by simp,m5<|by simpa using hk,if_pos<|.head _,bV,k_];split at C
   .rw[alT C]
   .rw[alU C]
  .have O:(if k∈y::ns then w k else 0)=if k∈ns then w k else 0:=by
    by_cases q:k∈ns
    .rw[if_pos q,if_pos<|.tail _ q]
    .rw[if_neg q,if_neg λU=>(aY.mp U).elim (λG=>e G.symm) q]
   rw[O,];by_cases U:y∈D
   .rw[oL<|by simp[U],oL<|by simp[U]]
    rw[C]
   .rw[m5<|by simp[U,e],m5<|by simpa using U,bV,bV,k_,k_]
    rw[akW C]
def Zv(hk:k∉D):fx g (k::D)+(aS g k).length<=fx g D:=by
 have:=Ik (λk=>(aS g k).length) hk<|g.map (·.1);by_cases U:k∈g.map (·.1)
 .rw[if_pos U]at this;rw[this]
 .rw[if_neg U]at this;rw[(aqK U)▸this]
def Zu(h:∀x∈D,x∈G):fx g G<=fx g D:=by
 unfold fx;induction g.map (·.1)with
 |nil=>rw[d7 _]
 |cons y s C=>
  by_cases q:y∈D
  .rw[oL<|by simp[h y q],oL<|by simp[q]];rw[C]
  .simp only[m5 (l:=s) (p:=λj=>decide<|j∉D)<|by simpa using q,bV,k_]
   by_cases m:y∈G
   .rw[oL<|by simp[m],];rw[akX C]
   .rw[m5<|by simpa using m,bV,k_];rw[akY C]
set_option tactic.hygienic true in
def aa7:∀{f st z k},left g st+fx g z<f->mr g f st z k≠none:=by
 intro f;induction f with
 |zero=>intro st z k U;lia
 |succ f C=>
  intro st z k U e;change(if _ then _ else _)=_ at e;split at e
  .split at e
   .rw[nomatch e]
   .split at e
    .cases e
    .rename_i y b
     have:=A_ b;rw[C (akZ U this) e]
  .rename_i c
   split at e
   .cases e
   .rename_i y b
    rw[C (ak0 U (A_ b) (Zv c) rfl) e]
def aa8:∀{f st z P k},mr g f st z k=some (some P)->∀x∈z,x∈P:=by
 intro f;induction f with
 |zero=>intro st z P k U;cases U
 |succ f C=>
  intro st z P k U;change(if _ then _ else _)=_ at U;split at U
  .split at U
   .rw[nomatch U]
   .split at U
    .injection U with U;injection U with U;subst U;exactλK U=>U
    .rw[C U]
  .split at U
   .injection U with U;injection U with U;subst U;exactλx L=>.tail _ L
   .exactλx L=>C U x<|.tail _ L
set_option tactic.hygienic true in
def DP:∀{t z},fx g z<f->iO g f t z≠none
 |[],_,_,U=>by cases U
 |j::t,z,hf,U=>by
  change(if _ then _ else _)=_ at U;split at U
  .rw[DP hf U]
  .split at U
   .rename_i e;rw[aa7 (ak1 hf) e]
   .cases U
   .rename_i s e
    rw[DP (kv (Zu<|aa8 e) hf) U]
def anT(B:fx g []<f){C:!N->Prop}(d:∀k,C k->∃o,C o/\k∈aS g o)(w:∀k,C k->k∈g.map (·.1))(a:b=true->∃k,C k)(j:b=false->∃s:!N->N,∀o,∀k∈aS g o,s o<s k):iO g f (g.map (·.1)) []=some b:=by
 cases e:iO g f (g.map (·.1)) []with
 |none=>rw[absurd e<|DP B]
 |some Z=>
  congr 1;cases b with
  |false=>
   obtain⟨s,i⟩:=j rfl;cases Z with
   |false=>rfl
   |true=>rw[absurd e<|DQ i]
  |true=>
   obtain⟨k,c⟩:=a rfl;cases Z with
   |true=>rfl
   |false=>obtain⟨l,W,_,h⟩:=anS (l:=[]) #[ab,λx=>by simp,λx U=>(cQ U).elim,.nil] e;rw[absurd c<|W.M1 d (λk c=>h k<|w k c) k]
def nH:d9 0=[]:=by unfold d9;rw[qK▸?_];rfl
def o_(h:n≠0):d9 n=d9 (n/16)++[65+n%16]:=by unfold d9;simp only[sI h,bf];congr 1;show[(o8<|65+n%16).toNat]=_;have:n%16<16:=bq _ ζ;rw[TG▸?_];congr 1;rw[GN this]
def GU(h:n≠0):d9 n≠[]:=by rw[o_ h,];simp
def dg(w x:N):!N:=(d9<|16^w+x).drop 1
def qN:dg 0 0=[]:=by unfold dg;rw[o_<|ζ,];rw[nH,];rfl
def nQ(w x):dg (w+1) x=dg w (x/16)++[65+x%16]:=by have j:0<16^w:=sq ζ;unfold dg;rw[o_<|lg<|Ta (sq<|ζ) x,Nat.pow_succ];have K:(16^w*16+x)/16=16^w+x/16:=ahi;rw[K,(ahj K)];have:=GU<|ahk j K;rw[fU (jT this) λZ l e=>e▸?_];rfl
def Hy:∀{w x},x<16^w->(dg w x).length=w:=by
 intro J;induction J with
 |zero=>
  intro x U;obtain rfl:x=0:=by have:16^0=1:=rfl;rw[vp U]
  rw[qN,];rfl
 |succ w C=>intro x U;simp only[nQ,cJ,C<|rm U];rfl
def Hx(M:D<16^w2):∀{q x1},x1<16^q->dg (w2+q) (x1+16^q*D)=dg w2 D++dg q x1:=by
 intro J;induction J with
 |zero=>
  intro x1 a;obtain rfl:x1=0:=by have:16^0=1:=rfl;rw[vp a]
  simp only[qN,bQ];congr 1;simp
 |succ q C=>
  intro x1 a;simp only[Nat.pow_succ]at a⊢;have K:(x1+16^q*16*D)/16=x1/16+16^q*D:=by rw[Tg,];rw[ahl]
  have O:(x1+16^q*16*D)%16=x1%16:=by rw[Tg,];rw[ahn K]
  show dg (w2+q+1) _=_;simp only[nQ,nQ q,K,O,C<|aho a K,bZ]
def Hz:∀{w x},x<16^w->∀c∈dg w x,65<=c/\c<=80:=by
 intro J;induction J with
 |zero=>
  intro x U c d;obtain rfl:x=0:=by have:16^0=1:=rfl;rw[vp U]
  simp only[qN]at d;cases d
 |succ w C=>
  intro x U c d;rw[nQ]at d;rcases ej.mp d with d|d
  .rw[C (rm U) c d]
  .rw[(iy.mp d)▸ahp]
def aoc:∀{w x},x<16^w->(wI w 65++d9 x).drop (d9 x).length=dg w x:=by
 intro J;induction J with
 |zero=>
  intro x U;obtain rfl:x=0:=by have:16^0=1:=rfl;rw[vp U]
  rw[qN,nH];rfl
 |succ w C=>
  intro x U;have C:=C<|rm U;rw[nQ,];by_cases j:x=0
  .subst j
   rw[nH]at C⊢;rw[<-C];simp only[bQ,kZ,List.drop_zero,bQ,List.replicate_succ']
  .simp only[o_ j,cJ,<-C,List.replicate_succ,SJ]
   show zF ((d9<|x/16).length) (wI w 65++(d9 (x/16)++[65+x%16]))=_;rw[<-bZ,List.drop_append_of_le_length<|by simp]
def R0(n):fv n=dg 5 (n%16^5):=aoc<|bq _<|ζ
def Xp:∀{w x i},x<16^w->i<w->(dg w x).getD (w-1-i) 65=65+x/16^i%16:=by
 intro J;induction J with
 |zero=>intro _ _ _ U;rw[absurd U<|qy _]
 |succ w C=>
  intro x i U S;have a:=Hy<|rm U;rw[nQ,];cases i with
  |zero=>rw[hV,oM<|ahq a];have:=ahr a;rw[this,];simp
  |succ i=>rw[hV,SY<|aht a S,<-hV];have:w+1-1-(i+1)=w-1-i:=ahu;simp only[this,(C (rm U)<|ahs S),FX,<-Nat.pow_succ']
def Xo:∀{w x},x<16^w->(dg w x).dropWhile (·==65)=d9 x:=by
 intro J;induction J with
 |zero=>
  intro x U;obtain rfl:x=0:=by have:16^0=1:=rfl;rw[vp U]
  simp only[qN,nH];rfl
 |succ w C=>
  intro x U;rw[nQ,List.dropWhile_append,(C<|rm U)];by_cases j:x/16=0
  .simp only[j,nH]
   by_cases L:x=0
   .subst L;simp only[nH];rfl
   .simp only[o_ L,j,nH]
    have:(65+x%16==65)=false:=by rw[beq_eq_false_iff_ne,];rw[ahv j L]
    simp[this]
  .have L:=ahw j
   simp only[o_ L];rw[fU (jT<|GU j) λZ l e=>?_];rw[e,];rfl
def nL(w p:N):!(!N×N):=[0,1,2].map λa=>(dg w<|(p+a)%16^w,(p+a)/16^w)
def xj(am R hi):gK am R hi=nL (hi-R) (hI am R hi):=rfl
def ae3(t):vh t=nL 1 t:=by
 have:∀x,dg 1 (x%16^1)=[65+x%16]:=λx=>by simp only[nQ];have:x%16^1/16=0:=FY (bq x<|ζ);simp only[this,qN];simp
 unfold vh nL;simp only[bV,r8,this];rfl
def arA{n:Type}{a b c L j p:n}(d:a=L)(M:b=j)(X:c=p):[a,b,c]=[L,j,p]:=by simp only[d,M,X]
def aa5(h:G+2<3*16^D):xL (nL D G) (nL w2 J)=nL (w2+D) (G+16^D*J):=by
 have e:0<16^D:=sq ζ;have b:∀a≤2,(((nL w2 J).getD ((G+a)/16^D) ([],0)).1++dg D ((G+a)%16^D),((nL w2 J).getD ((G+a)/16^D) ([],0)).2)=(dg (w2+D)<|(G+16^D*J+a)%16^(w2+D),(G+16^D*J+a)/16^(w2+D)):=λa o=>by
  have d:=FZ (by rw[Gd,];rw[Mq h o]);have z:(nL w2 J).getD ((G+a)/16^D) ([],0)=(dg w2<|(J+(G+a)/16^D)%16^w2,(J+(G+a)/16^D)/16^w2):=by
   generalize(G+a)/16^D=c at d
   match c,d with
   |0,_=>rfl
   |1,_=>rfl
   |2,_=>rfl
  rw[z,Mr,sf w2 D,Gf,Nat.mod_mul,<-FX,(by rw[Nat.add_mul_div_left _ _ e,sf]:((G+a)+16^D*J)/16^D=J+(G+a)/16^D),(Nat.add_mul_mod_self_left _ _ _),sf D w2,Hx (bq _<|sq<|ζ)<|bq _ e]
 rw[arA (b 0<|ahx) (b 1<|ahy)<|b 2<|ahz]
def aoi(am)(a:D<=m)(M:m<=hi):hI am D hi=hI am D m+16^(m-D)*hI am m hi:=by
 unfold hI;generalize am.take 3=l;induction l with
 |nil=>rfl
 |cons n l C=>
  simp only[bV,bV,bV,k_,k_,k_,C,Nat.mul_add];have e:n%16^5/16^D%16^(hi-D)=n%16^5/16^D%16^(m-D)+16^(m-D)*(n%16^5/16^m%16^(hi-m)):=by have K:=ahA a M;simp only[K,Gf,Nat.mod_mul,FX,<-(by rw[<-Gf];congr 1;rw[ahB a M K]:16^m=16^D*16^(m-D))]
  rw[e▸ahC]
def DS(am R hi):hI am R hi+2<3*16^(hi-R):=by
 have d:0<16^(hi-R):=sq ζ;have g:∀n:N,n%16^5/16^R%16^(hi-R)<16^(hi-R):=λn=>bq _ d;unfold hI
 match am with
 |[]=>simp;rw[ahD d]
 |[a]=>have:=g a;simp;rw[ahE d this]
 |[a,b]=>have d:=g a;have M:=g b;simp;rw[alS d M]
 |a::b::c::_=>have d:=g a;have M:=g b;have X:=g c;simp;rw[ahF d M X]
def XF(am)(a:D<=m)(M:m<=hi):xL (gK am D m) (gK am m hi)=gK am D hi:=by simp only[xj,xj,xj,aa5<|DS am D m,<-aoi am a M];congr 1;rw[ahG a M]
def aoh(am):hI am 0 5=lm am:=by unfold hI lm;congr 1;rw[oN λn U=>?_];rw[Nat.div_one,Nat.mod_mod]
def aso(am):∃y R,gK am 0 5=y::R/\(((65+y.2)::y.1).dropWhile (·==65)).map zU=ap (lm am):=by
 rw[#[_,_,rfl,?_]];show ql _ (List.dropWhile _ ((65+(hI am 0 5+0)/16^5)::dg 5 ((hI am 0 5+0)%16^5)))=_;have I:=DS am 0 5;rw[Nat.add_zero,aoh]at*;generalize lm am=p at I;have L:p/16^5<16:=FZ (kv (oR p 2)<|sj I<|ζ);have e:(65+p/16^5)::dg 5 (p%16^5)=dg 6 p:=by
  have K:dg 1 (p/16^5)=[65+p/16^5]:=by simp only[nQ,FY L,qN,Gc L];rfl
  have:=Hx (w2:=1) (by simpa using L) (x1:=p%16^5) (bq _<|ζ);simp only[K,Nat.mod_add_div]at this;rw[this.symm]
 rw[e,Xo<|kv (oR p 2)<|sj I<|ζ];unfold d9;rw[bI,]
 conv=>rhs;rw[<-r7 (ap p)]
 rw[oN λZ U=>?_];simp
def mP:∀{g},x∈bC (bz k f g)↔x∈bC g\/x=k:=by
 intro J;induction J with
 |nil=>show x∈[k]↔_;simp
 |cons y g C=>
  show x∈bC (if y.1=k then _ else _)↔_;by_cases U:y.1=k
  .rw[if_pos U,]
   show x∈k::bC g↔x∈y.1::bC g\/x=k;rw[aY,aY,U];constructor
   .exactλq=>.inl q
   .rintro(q|q)
    .rw[q]
    .rw[.inl q]
  .rw[if_neg U,]
   show x∈y.1::bC (bz k f g)↔x∈y.1::bC g\/x=k;rw[aY,aY,C,or_assoc]
def uj:∀{g},(bC g).Nodup->(bC<|bz k f g).Nodup:=by
 intro J;induction J with
 |nil=>intro _;rw[c_.mpr #[λU=>(cQ U).elim,.nil]]
 |cons y g C=>
  intro U;have z:=c_.mp<|U;show(bC<|if y.1=k then _ else _).Nodup;by_cases e:y.1=k
  .rw[(if_pos e)▸e▸U]
  .rw[(if_neg e)▸(c_.mpr ⟨λq=>?_,C z.2⟩)]
   rcases mP.mp q with q|q
   .rw[z.1 q]
   .rw[e q]
def wh:∀{g},aS (bz k f g) a=if a=k then(f (bG g k,aS g k)).2 else aS g a:=by
 intro J;induction J with
 |nil=>
  show(if k=a then _ else _)=_;by_cases U:a=k
  .rw[if_pos U,if_pos U.symm];rfl
  .rw[if_neg U,if_neg λq=>U q.symm]
 |cons y g C=>
  show aS (if y.1=k then _ else _) a=_;by_cases e:y.1=k
  .rw[if_pos e,]
   show(if k=a then _ else aS g a)=_;by_cases U:a=k
   .rw[if_pos U,if_pos U.symm]
    show _=(f ((if y.1=k then y.2.1 else bG g k),(if y.1=k then y.2.2 else aS g k))).2;rw[if_pos e,if_pos e]
   .rw[if_neg U,if_neg λq=>U q.symm]
    show _=if y.1=a then y.2.2 else aS g a;rw[if_neg λq=>U<|q.symm.trans e,]
  .rw[if_neg e,]
   show(if y.1=a then y.2.2 else aS (bz k f g) a)=if a=k then(f ((if y.1=k then y.2.1 else bG g k),(if y.1=k then y.2.2 else aS g k))).2 else if y.1=a then y.2.2 else aS g a;rw[(if_neg e)▸(if_neg e)▸C▸?_];by_cases U:a=k
   .rw[if_pos U,if_pos U,if_neg λq=>e<|q.trans U]
   .rw[if_neg U,if_neg U]
def p6:∀{g},bG (bz k f g) a=if a=k then(f (bG g k,aS g k)).1 else bG g a:=by
 intro J;induction J with
 |nil=>
  show(if k=a then _ else _)=_;by_cases U:a=k
  .rw[if_pos U,if_pos U.symm];rfl
  .rw[if_neg U,if_neg λq=>U q.symm]
 |cons y g C=>
  show bG (if y.1=k then _ else _) a=_;by_cases e:y.1=k
  .rw[if_pos e,]
   show(if k=a then _ else bG g a)=_;by_cases U:a=k
   .rw[if_pos U,if_pos U.symm]
    show _=(f ((if y.1=k then y.2.1 else bG g k),(if y.1=k then y.2.2 else aS g k))).1;rw[if_pos e,if_pos e]
   .rw[if_neg U,if_neg λq=>U q.symm]
    show _=if y.1=a then y.2.1 else bG g a;rw[if_neg λq=>U<|q.symm.trans e,]
  .rw[if_neg e,]
   show(if y.1=a then y.2.1 else bG (bz k f g) a)=if a=k then(f ((if y.1=k then y.2.1 else bG g k),(if y.1=k then y.2.2 else aS g k))).1 else if y.1=a then y.2.1 else bG g a;rw[(if_neg e)▸(if_neg e)▸C▸?_];by_cases U:a=k
   .rw[if_pos U,if_pos U,if_neg λq=>e<|q.trans U]
   .rw[if_neg U,if_neg U]
def kF:!(!N)->!(!N×!N)
 |[n,a]=>if a.length<3 then[(n,a)]else[]
 |[n,a,b]=>[(n,a),(n,b)]
 |_=>[]
def mN:!(!N)->!(!N)
 |[n,a]=>if a.length<3 then[n,a]else[n]
 |[n,a,b]=>[n,a,b]
 |_=>[]
set_option tactic.hygienic true in
def EL:aS (bz n (jF c) g) x=aS g x:=by
 rw[wh,];split
 .rename_i U;simp only[U];rfl
 .rfl
set_option tactic.hygienic true in
def Dv:bG (bz a (gP n) g) x=bG g x:=by
 rw[p6,];split
 .rename_i U;simp only[U];rfl
 .rfl
def EN:(aS (bz a (gP n) g) x).count y=(aS g x).count y+[(n,a)].count (y,x):=by
 rw[wh,];by_cases U:x=a
 .rw[if_pos U,U]
  show(aS g a++[n]).count y=_;simp only[kY,FF,FF];have e:((n,a)==(y,a))=(n==y):=by rw[p_,];simp
  rw[e,]
 .rw[if_neg U,FF]
  have:((n,a)==(y,x))=false:=by rw[beq_eq_false_iff_ne,];exactλe=>U (Gm.mp e).2.symm
  rw[this▸?_];rfl
def Du:bG (bz n (jF c) g) x=bG g x+if x=n then c else 0:=by
 rw[p6,];by_cases U:x=n
 .rw[if_pos U,if_pos U,U];rfl
 .rw[if_neg U,if_neg U];rw[agq]
def apA(g o x y):(aS (gI g o) x).count y=(aS g x).count y+(kF o).count (y,x):=by
 match o with
 |[]=>rfl
 |[_]=>rfl
 |[n,a]=>
  show(aS (if a.length<3 then _ else _) x).count y=_+(if a.length<3 then _ else _:!(!N×!N)).count (y,x);by_cases U:a.length<3
  .simp only[if_pos U,if_pos U,EN,EL]
  .simp only[if_neg U,if_neg U,EL];rfl
 |[n,a,b]=>show(aS (bz b (gP n)<|bz a (gP n)<|bz n (jF 2) g) x).count y=_+[(n,a),(n,b)].count (y,x);simp only[EN,EN,EL,show[(n,a),(n,b)]=[(n,a)]++[(n,b)]from rfl,kY,zK]
 |_::_::_::_::_=>rfl
def apx(g o x):bG (gI g o) x=bG g x+(((kF o).countP λe=>decide (e.1=x):N):Int):=by
 match o with
 |[]=>rw[(zy _).symm]
 |[_]=>rw[(zy _).symm]
 |[n,a]=>
  show bG (if a.length<3 then _ else _) x=_+((if a.length<3 then _ else _:!(!N×!N)).countP λe=>decide<|e.1=x);by_cases U:a.length<3
  .simp only[if_pos U,if_pos U,Dv,Du]
   by_cases e:x=n
   .simp[e]
   .have G:¬n=x:=λq=>e q.symm
    simp[e,G]
  .simp only[if_neg U,if_neg U,Du]
   split<;>simp
 |[n,a,b]=>
  show bG (bz b (gP n)<|bz a (gP n)<|bz n (jF 2) g) x=_+([(n,a),(n,b)].countP λe=>decide<|e.1=x);simp only[Dv,Dv,Du];by_cases e:x=n
  .simp[e]
  .have G:¬n=x:=λq=>e q.symm
   simp[e,G]
 |_::_::_::_::_=>rw[(zy _).symm]
def apv(g o x):x∈bC (gI g o)↔x∈bC g\/x∈mN o:=by
 match o with
 |[]=>rw[(or_iff_left cQ).symm]
 |[_]=>rw[(or_iff_left cQ).symm]
 |[n,a]=>
  show x∈bC (if a.length<3 then _ else _)↔_\/x∈(if a.length<3 then _ else _);by_cases U:a.length<3
  .rw[if_pos U,if_pos U,mP,mP]
   simp[or_assoc]
  .rw[if_neg U,if_neg U,mP]
   simp
 |[n,a,b]=>show x∈bC (bz b (gP n)<|bz a (gP n)<|bz n (jF 2) g)↔_\/x∈[n,a,b];rw[mP,mP,mP];simp[or_assoc]
 |_::_::_::_::_=>rw[(or_iff_left cQ).symm]
def apw(o)(h:(bC g).Nodup):(bC<|gI g o).Nodup:=by
 match o with
 |[]=>rw[h]
 |[_]=>rw[h]
 |[n,a]=>
  show(bC<|if a.length<3 then _ else _).Nodup;split
  .rw[uj<|uj h]
  .rw[uj h]
 |[n,a,b]=>rw[uj<|uj<|uj h]
 |_::_::_::_::_=>rw[h]
structure gG (g:PG) (E:!(!N×!N)) (aK:!(!N)):Prop where
 s:∀x y,(aS g x).count y=E.count (y,x)
 p:∀x,bG g x=((E.countP λe=>decide (e.1=x):N):Int)
 n:∀x,x∈bC g↔x∈aK
 d:(bC g).Nodup
def gG.row{g:PG}{E:!(!N×!N)}{aK:!(!N)}(h:gG g E aK)(o:!(!N)):gG (gI g o) (E++kF o) (aK++mN o):=#[λx y=>by simp only[apA,h.s,kY],λx=>by simp only[apx,h.p,List.countP_append];lia,λx=>by rw[apv,h.n,ej],apw o h.d]
def gG.rows:∀{s:!(List<|List N)} {g:PG} {E:!(!N×!N)} {aK:!(!N)},gG g E aK->gG (s.foldl gI g) (E++s.flatMap kF) (aK++s.flatMap mN)
 |[],g,E,aK,U=>by simpa using U
 |o::s,g,E,aK,U=>by simp only[jU,jU,<-bZ,<-bZ];rw[(U.row o).rows]
def ZP(s:!(List<|List N)):gG (s.foldl gI []) (s.flatMap kF) (s.flatMap mN):=gG.rows (g:=[]) (E:=[]) #[λU U=>rfl,λU=>rfl,λU=>.rfl,.nil]
def gG.perm{g:PG}{E b:!(!N×!N)}{aK a:!(!N)}(h:gG g E aK)(F:E.Perm b)(j:∀x,x∈aK↔x∈a):gG g b a:=#[λx y=>(h.s x y).trans<|F.count_eq _,λx=>by simp only[h.p,F.countP_eq],λx=>(h.n x).trans<|j x,h.d]
set_option tactic.hygienic true in
def Xl:∀{ss g k},aS (dJ ss g).1 k=aS g k:=by
 intro J;induction J with
 |nil=>intro _ _;rw[rfl]
 |cons s ss C=>
  intro g k;show aS (dJ ss<|bz s kE g).1 k=_;rw[C,wh];split
  .rename_i U;rw[U,]
  .rfl
def Xk:∀{ss g n},bG (dJ ss g).1 n=bG g n-(ss.count n:Int):=by
 intro J;induction J with
 |nil=>intro g n;rw[Mh]
 |cons s ss C=>
  intro g n;show bG (dJ ss<|bz s kE g).1 n=_;rw[C,p6];by_cases U:n=s
  .subst U
   rw[if_pos rfl,FD];rw[agr]
  .rw[if_neg U,FC λq=>U q.symm]
def Hw:∀{ss g n},(dJ ss g).2.count n=if 1<=bG g n/\bG g n<=(ss.count n:Int)then 1 else 0:=by
 intro J;induction J with
 |nil=>intro g n;show 0=if 1<=bG g n/\bG g n<=0 then 1 else 0;rw[if_neg<|Mi,]
 |cons s ss C=>
  intro g n;have C:=C (g:=bz s kE g) (n:=n);rw[p6]at C;show(if bG g s-1=0 then s::(dJ ss<|bz s kE g).2 else(dJ ss<|bz s kE g).2).count n=_;by_cases U:n=s
  .subst U
   rw[if_pos rfl]at C;have a:=C;rw[FD,];by_cases b:bG g n-1=0
   .rw[if_pos b,FD,a,if_neg<|ags b,if_pos<|agt b]
   .rw[if_neg b,a]
    by_cases M:1<=bG g n/\bG g n<=(ss.count n+1:N)
    .rw[if_pos M,if_pos<|agu b M]
    .rw[if_neg M,if_neg<|agv M]
  .rw[if_neg U]at C
   rw[FC λq=>U q.symm,];split
   .rw[FC λq=>U q.symm,];rw[C]
   .rw[C]
set_option tactic.hygienic true in
def anR:∀{t g k},aS (fV t g) k=aS g k:=by
 intro J;induction J with
 |nil=>intro _ _;rw[rfl]
 |cons s B C=>
  intro g k;show aS (fV B<|bz s (dR<|-1) g) k=_;rw[C,wh];split
  .rename_i U;rw[U,]
  .rfl
def OK:∀{t g n},bG (fV t g) n=if n∈t then-1 else bG g n:=by
 intro J;induction J with
 |nil=>intro g n;rfl
 |cons s B C=>
  intro g n;show bG (fV B<|bz s (dR<|-1) g) n=_;rw[C,p6];by_cases U:n∈B
  .rw[if_pos U,if_pos<|.tail _ U]
  .rw[if_neg U,]
   by_cases e:n=s
   .rw[if_pos e,if_pos<|e▸.head _]
   .rw[if_neg e,if_neg λq=>(aY.mp q).elim e U]
set_option tactic.hygienic true in
def QZ:aS (dJ (aS g k)<|bz k (dR<|-2) g).1 x=aS g x:=by
 rw[Xl,wh];split
 .rename_i U;rw[U,]
 .rfl
def QY:bG (dJ (aS g k)<|bz k (dR<|-2) g).1 n=(if n=k then-2 else bG g n)-((aS g k).count n:Int):=by rw[Xk,p6]
def Xu:∀{t g},t.Nodup->(∀k∈t,∀n∈aS g k,n∉t)->(∀k,aS (fR t g).1 k=aS g k)/\(∀n∈t,bG (fR t g).1 n=-2)/\(∀n,n∉t->bG (fR t g).1 n=bG g n-((t.flatMap<|aS g).count n:Int))/\ (∀n∈t,(fR t g).2.count n=0)/\(∀n,n∉t->(fR t g).2.count n=if 1<=bG g n/\bG g n<=((t.flatMap<|aS g).count n:Int)then 1 else 0)/\((∀k∈t,bG g k=-1)->qO t g):=by
 intro J;induction J with
 |nil=>
  intro g _ _;rw[#[λK=>rfl,(λK U=>nomatch U),λn K=>by rw[Mh],(λK U=>nomatch U),λn K=>by show 0=if 1<=bG g n/\bG g n<=0 then 1 else 0;rw[if_neg<|Mi,],λK=>trivial]]
 |cons k t C=>
  intro g w o;rw[ct (c_.mp w) λc w=>?_];have i:∀x,aS (dJ (aS g k)<|bz k (dR<|-2) g).1 x=aS g x:=λx=>QZ;have d:=λn U=>SO.mpr λq=>o k (.head _) n q U;have s:=λn U=>SO.mpr λq=>by rw[aJ (qm.mp q) λu z M=>o u (.tail _ z) n M U]
  have h:t.flatMap (aS (dJ (aS g k)<|bz k (dR<|-2) g).1)=t.flatMap (aS g):=by congr 1;rw[funext i]
  obtain⟨P,T,f,y,l,B⟩:=C w λu U n q M=>o u (.tail _ U) n (by rwa[i]at q)<|.tail _ M;have r:bG (dJ (aS g k)<|bz k (dR<|-2) g).1 k=-2:=by rw[QY,if_pos rfl,d k<|.head _];rfl
  have j:∀n,n≠k->bG (dJ (aS g k)<|bz k (dR<|-2) g).1 n=bG g n-((aS g k).count n):=λn U=>by rw[QY,if_neg U]
  have X:∀n∈t,n≠k:=λn U e=>c<|e▸U;have L:∀n,n≠k->(dJ (aS g k)<|bz k (dR<|-2) g).2.count n=if 1<=bG g n/\bG g n<=((aS g k).count n)then 1 else 0:=λn U=>by rw[Hw,p6,if_neg U]
  have A:(dJ (aS g k)<|bz k (dR<|-2) g).2.count k=0:=by rw[Hw,p6,if_pos rfl];rw[if_neg ?_];rintro⟨U,_⟩;rw[absurd (show 1<=-2 from U) ζ]
  rw[#[λx=>(P x).trans<|i x,λn U=>?_,λn U=>?_,λn U=>?_,λn U=>?_,λU=>#[U k<|.head _,B λn O=>?_]]]
  .rcases aY.mp U with rfl|U
   .show bG (fR t _).1 n=-2
    simp only[f n c,r,h,s n<|.head _];rfl
   .rw[T n U]
  .have z:n≠k:=λe=>U<|e▸.head _
   show bG (fR t _).1 n=_;simp only[f n λq=>U<|.tail _ q,j n z,h,jU,kY];rw[agw]
  .show((dJ (aS g k)<|bz k (dR<|-2) g).2++(fR t _).2).count n=0
   rw[kY,];rcases aY.mp U with rfl|U
   .simp only[A,l n c,r,nj]
    rw[if_neg ?_];rintro⟨U,_⟩;rw[absurd U ζ]
   .rw[y n U,L n<|X n U,d n<|.tail _ U,if_neg<|by lia]
  .have z:n≠k:=λe=>U<|e▸.head _
   show((dJ (aS g k)<|bz k (dR<|-2) g).2++(fR t _).2).count n=_;simp only[kY,L n z,l n λq=>U<|.tail _ q,j n z,h,jU,kY];generalize bG g n=p;generalize(aS g k).count n=a;generalize(t.flatMap<|aS g).count n=b;by_cases Q:1<=p/\p<=a
   .rw[if_pos Q,if_neg<|agx Q,if_pos<|agy Q]
   .rw[if_neg Q,]
    by_cases m:1<=p-a/\p-a<=b
    .rw[if_pos m,if_pos<|agz m]
    .rw[if_neg m,if_neg<|agA Q m]
  .simp only[j n<|X n O,d n<|.tail _ O,U n<|.tail _ O];rfl
def Xj:∀{ss g x},x∈bC (dJ ss g).1↔x∈bC g\/x∈ss:=by
 intro J;induction J with
 |nil=>intro g x;show x∈bC g↔_;simp
 |cons s ss C=>intro g x;show x∈bC (dJ ss<|bz s kE g).1↔_;rw[C,mP,aY,or_assoc]
def anQ:∀{t g x},x∈bC (fV t g)↔x∈bC g\/x∈t:=by
 intro J;induction J with
 |nil=>intro g x;show x∈bC g↔_;simp
 |cons s B C=>intro g x;show x∈bC (fV B<|bz s (dR<|-1) g)↔_;rw[C,mP,aY,or_assoc]
def Xs:∀{t g x},x∈bC (fR t g).1↔(x∈bC g\/x∈t\/x∈t.flatMap (aS g)):=by
 intro J;induction J with
 |nil=>intro g x;show x∈bC g↔_;simp
 |cons j t C=>
  intro g x;show x∈bC (fR t (dJ (aS g j)<|bz j (dR<|-2) g).1).1↔_;have h:t.flatMap (aS (dJ (aS g j)<|bz j (dR<|-2) g).1)=t.flatMap (aS g):=by congr 1;rw[funext λx=>QZ]
  rw[C,h,Xj,mP,aY,jU,ej];constructor
  .rintro(((U|U)|U)|U|U)
   .rw[.inl U]
   .rw[.inr<|.inl<|.inl U]
   .rw[.inr<|.inr<|.inl U]
   .rw[.inr<|.inl<|.inr U]
   .rw[.inr<|.inr<|.inr U]
  .rintro(U|(U|U)|U|U)
   .rw[.inl<|.inl<|.inl U]
   .rw[.inl<|.inl<|.inr U]
   .rw[.inr<|.inl U]
   .rw[.inl<|.inr U]
   .rw[.inr<|.inr U]
structure kC (E:!(!N×!N)) (aK:!(!N)) (s:!N->N):Prop where
 cl:∀e∈E,e.1∈aK/\e.2∈aK
 a:∀e∈E,s e.1<9->s e.2<s e.1
 b:∀n∈aK,s n<9->0<s n->∃o,(n,o)∈E/\s o+1=s n
 c:∀n∈aK,¬s n<9->∃o,(n,o)∈E/\¬s o<9
 d:aK.Nodup
 l:aK.length=9
abbrev w_(E:!(!N×!N))(s:!N->N)(n:!N)(r:N):N:=E.countP λe=>decide<|e.1=n/\r<=s e.2
abbrev wZ(E:!(!N×!N))(s:!N->N)(n:!N)(r:N):N:=E.countP λe=>decide<|e.1=n/\s e.2=r
def Ho{n:Type}{p q t:n->Bool}(h:∀e,(if p e=true then 1 else 0)=(if q e=true then 1 else 0)+(if t e=true then 1 else 0:N)):∀E:!n,E.countP p=E.countP q+E.countP t:=by
 intro J;induction J with
 |nil=>rw[rfl]
 |cons e E C=>simp only[wD,wD,wD];rw[alC C<|h e]
def AN(E s n r):w_ E s n r=wZ E s n r+w_ E s n (r+1):=by
 rw[Ho (λe=>?_) E];simp only[decide_eq_true_eq];by_cases a:e.1=n
 .rcases zP (s e.2) r with q|q|q
  .rw[if_neg<|by lia,if_neg<|by lia,if_neg<|by lia]
  .rw[if_pos #[a,agB q],if_pos #[a,q],if_neg<|by lia]
  .rw[if_pos #[a,Dh q],if_neg<|by lia,if_pos ⟨a,LY q⟩]
 .rw[if_neg λq=>a q.1,if_neg λq=>a q.1,if_neg λq=>a q.1]
structure RI (D:PG) (E:!(!N×!N)) (aK:!(!N)) (s:!N->N) (r:N) (g:PG):Prop where
 x:∀k,aS g k=aS D k
 n:∀k,k∈bC g↔k∈aK
 lo:∀n∈aK,s n<r->bG g n=-2
 hi:∀n∈aK,r<=s n->bG g n=(w_ E s n r:Int)
structure RO (aK:!(!N)) (s:!N->N) (r:N) (R:!(!N)):Prop where
 d:R.Nodup
 m:∀x,x∈R↔x∈aK/\s x=r/\r<9
def H7{E:!(!N×!N)}(F:∀x y,(aS D x).count y=E.count (y,x))(n):∀{R:!(!N)},R.Nodup->(R.flatMap<|aS D).count n=E.countP λe=>decide<|e.1=n/\e.2∈R
 |[],_=>by simp
 |j::R,U=>by
  obtain⟨c,U⟩:=c_.mp U;simp only[jU,kY,F,H7 F n U];clear U F;induction E with
  |nil=>rfl
  |cons e E C=>
   simp only[FB,wD,wD,<-C];have d:(e==(n,j))=decide (e.1=n/\e.2=j):=by rw[p_,beq_iff_eq,decide_eq_true_iff,Gm]
   rw[d▸?_];by_cases a:e.1=n
   .by_cases M:e.2=j
    .have:=M▸c
     simp[a,M,c];rw[agC]
    .by_cases X:e.2∈R
     .simp[a,M,X];rw[agD]
     .simp[a,M,X]
   .simp[a]
section
variable{D:PG} {E:!(!N×!N)} {aK:!(!N)} {s:!N->N}
def kC.up(S:kC E aK s){e:!N×!N}(h:e∈E)(i:s e.2<9):s e.2<s e.1:=by
 by_cases q:s e.1<9
 .rw[S.a e h q]
 .rw[agE i q]
def tW(W:gG D E aK):n∈aS D k↔(n,k)∈E:=by rw[<-FE,W.s,FE]
set_option tactic.hygienic true in
def aps(S:kC E aK s)(W:gG D E aK)(I:RI D E aK s r g)(O:RO aK s r R)(A:r<9):qO R (fV R g)/\RI D E aK s (r+1) (fR R<|fV R g).1/\RO aK s (r+1) (fR R<|fV R g).2:=by
 have K:∀j,aS (fV R g) j=aS D j:=λj=>anR.trans<|I.x j;have t:∀j∈R,∀n∈aS (fV R g) j,n∉R:=λj c n w p=>by rw[K,tW W]at w;have C:=((O.m j).mp c).2.1;have M:=((O.m n).mp p).2.1;have:=S.up w<|Mj A C;rw[agF C M this]
 rw[HJ (Xu O.d t) λP T f y l B=>?_];have h:R.flatMap (aS<|fV R g)=R.flatMap (aS D):=by congr 1;rw[funext K]
 have b:∀n,(R.flatMap<|aS D).count n=wZ E s n r:=λn=>by
  rw[H7 W.s n O.d,];rw[SK λe F=>?_];simp only[decide_eq_true_iff,decide_eq_true_iff];constructor
  .rintro⟨C,M⟩;rw[#[C,((O.m _).mp M).2.1]]
  .rintro⟨C,M⟩;rw[#[C,(O.m _).mpr #[(S.cl e F).2,M,A]]]
 rw[h]at f l;have o:∀n∈aK,(n∈R↔s n=r):=λn w=>by rw[O.m,];rw[#[λU=>U.2.1,λU=>#[w,U,A]]]
 have k:∀n,n∉R->bG (fV R g) n=bG g n:=λn U=>by rw[OK,if_neg U]
 have x:∀n,s n<r+1->wZ E s n r=0:=λn U=>by rw[uC.mpr λe F q=>ct (decide_eq_true_iff.mp q) λC M=>?_];have:=S.up F (by lia);rw[C]at this;lia
 rw[#[B λj c=>by rw[OK,if_pos c],#[λj=>(P j).trans<|K j,λj=>?_,λn w U=>?_,λn w U=>?_],?_,λn=>?_]]
 .rw[Xs,anQ,h,I.n]
  constructor
  .rintro((U|U)|U|U)
   .rw[U]
   .rw[((O.m j).mp U).1]
   .rw[((O.m j).mp U).1]
   .rw[aJ (qm.mp U) λu C M=>(S.cl _<|(tW W).mp M).1]
  .exactλU=>.inl<|.inl U
 .by_cases q:n∈R
  .rw[T n q]
  .have:=λe=>q<|(o n w).mpr e
   simp only[f n q,k n q,I.lo n w<|agG U this,b,x n U];rfl
 .have q:=λq=>by have:=(o n w).mp q;rw[agH U this]
  rw[f n q,k n q,I.hi n w<|Ml U,b,AN];lia
 .rw[List.nodup_iff_count,]
  intro n;by_cases q:n∈R
  .rw[y n q,];rw[agI]
  .rw[l n q,];split<;>lia
 .rw[<-FE]
  constructor
  .intro U
   by_cases q:n∈R
   .rw[y n q]at U;lia
   .rw[l n q,k n q,b]at U
    split at U
    .rename_i d
     have J:=agJ d;rw[aJ (SM.mp J) λe F M=>ct (decide_eq_true_iff.mp M) λQ X=>?_];subst Q;have w:=(S.cl e F).1;have G:=S.up F<|Mj A X;rw[I.hi _ w<|agK X G,AN]at d;have H:=alE<|oK.mp d.2;have L:∀Y,(e.1,Y)∈E->s Y<=r:=λY m=>by have:=uC.mp H _ m;rw[decide_eq_true_iff]at this;have:=λq=>this #[rfl,q];lia
     have z:s e.1<9:=by
      rcases sg (s e.1) 9 with q|q
      .rw[q]
      .rw[aJ (S.c _ w<|LN q) λY a i=>?_]
       have:=L Y a;rw[agL A i this]
     rw[aJ (S.b _ w z<|agM X G) λY a i=>?_];have:=L Y a;rw[#[w,agN X G i this,agO A X G z i this]]
    .lia
  .rintro⟨w,C,M⟩
   have q:=λq=>by have:=(o n w).mp q;rw[agP C this]
   rw[aJ (S.b n w (agQ A C M)<|Mm C) λY a i=>?_];have H:w_ E s n (r+1)=0:=uC.mpr λe F U=>by rw[ct (decide_eq_true_iff.mp U) λQ X=>?_];subst Q;have:=S.a e F<|agR A M C;rw[agS X C this]
   have J:0<wZ E s n r:=SM.mpr (bA _ a<|decide_eq_true #[rfl,by rw[agT C i]]);rw[l n q,k n q,b,I.hi n w<|by lia,AN,if_pos #[oK.mpr<|alF J H,oK.mpr<|alG H]];rw[Nat.one_pos]
end
def aoG:∀(l p),(p::l).Pairwise (λa b=>¬b<a)->z7 (jO p) (l.map jO)=true:=by
 intro J;induction J with
 |nil=>intro _ _;rw[rfl]
 |cons y l C=>intro p U;rw[ct (qo.mp U) λc M=>?_];show((not (PySem.Spec.ltCps y p))&&z7 (jO y) (l.map jO))=true;rw[kp,Ty];rw[#[by simpa using c y (.head _),C y M]]
def Pr:∀{l},l.Pairwise (λa b=>¬b<a)->oy l
 |[],_=>rfl
 |p::l,h=>aoG l p h
def aqm:∀l:!(!N),∃so:!(!N),so.Perm l/\so.Pairwise λa b=>¬b<a:=by
 intro J;induction J with
 |nil=>rw[bA [] (.refl _) .nil]
 |cons x l C=>
  rw[aJ (C) λso e M=>?_];have c:∀so:!(!N),so.Pairwise (λa b=>¬b<a)->∃D:!(!N),D.Perm (x::so)/\D.Pairwise λa b=>¬b<a:=by
   intro so;induction so with
   |nil=>intro _;rw[bA [x] (.refl _)<|S7 _ _]
   |cons y so C=>
    intro U;rw[ct (qo.mp U) λg d=>?_];by_cases q:y<x
    .rw[aJ (C d) λD Y G=>bA (y::D) ((Y.cons y).trans<|SG _ _ _)<|qo.mpr ⟨λz Z=>?_,G⟩]
     rcases aY.mp (Y.mem_iff.mp Z)with rfl|Z
     .exactλT=>absurd (List.lt_trans q T)<|List.lt_irrefl _
     .rw[g z Z]
    .rw[bA (x::y::so) (.refl _)<|qo.mpr ⟨λz Z=>?_,U⟩]
     rcases aY.mp Z with rfl|Z
     .rw[q]
     .rw[M4 q<|g z Z]
  rw[aJ (c so M) λD Y G=>bA D (Y.trans<|e.cons x) G]
def PB:∀{g},(bC g).Nodup->∀x,x∈jk g↔x∈bC g/\bG g x=0:=by
 intro J;induction J with
 |nil=>intro _ x;rw[#[λU=>(cQ U).elim,λU=>(cQ U.1).elim]]
 |cons y g C=>
  intro U x;obtain⟨a,M⟩:=c_.mp<|show(y.1::bC g).Nodup from U;have C:=C M x;show x∈(if y.2.1=0 then y.1::jk g else jk g)↔x∈y.1::bC g/\(if y.1=x then y.2.1 else bG g x)=0;by_cases e:y.1=x
  .have L:x∉jk g:=λq=>a<|e▸(C.mp q).1
   rw[if_pos e,];by_cases q:y.2.1=0
   .rw[if_pos q,];simp[e,q]
   .rw[if_neg q,];simp[q,L]
  .rw[(if_neg e)▸?_]
   have G:¬x=y.1:=λq=>e q.symm;by_cases q:y.2.1=0
   .rw[if_pos q,aY,aY,C];simp[G]
   .rw[if_neg q,aY,C];simp[G]
def apc:∀{g},(bC g).Nodup->(jk g).Nodup:=by
 intro J;induction J with
 |nil=>intro _;rw[.nil]
 |cons y g C=>
  intro U;obtain⟨a,M⟩:=c_.mp<|U;show(if y.2.1=0 then y.1::jk g else jk g).Nodup;split
  .rw[c_.mpr ⟨λq=>a ((PB M _).mp q).1,C M⟩]
  .rw[C M]
section
variable{H:PG} {E:!(!N×!N)} {aK:!(!N)} {s:!N->N} {m:nF} {G:!N->ju}
def Qy(S:kC E aK s)(W:gG H E aK):RI H E aK s 0 H/\RO aK s 0 (jk H):=by
 rw[#[#[λJ=>rfl,W.n,λn J U=>absurd U<|qy _,λn J J=>?_],apc W.d,λx=>?_]]
 .rw[W.p,]
  congr 1;exact SK λe J=>by rw[decide_eq_true_iff,decide_eq_true_iff];rw[#[λU=>#[U,dw _],λU=>U.1]]
 .rw[PB W.d,W.n,W.p]
  constructor
  .rintro⟨a,M⟩
   have j:∀Y,(x,Y)∉E:=λY m=>by have:=uC.mp (by lia:(E.countP λe=>decide<|e.1=x)=0) _ m;rw[this<|decide_eq_true rfl]
   have i:s x<9:=by
    rcases sg (s x) 9 with q|q
    .rw[q]
    .rw[aJ (S.c x a<|LN q) λY m J=>absurd m<|j Y]
   rw[#[a,?_,ζ]];rcases Tb (s x)with q|q
   .rw[q]
   .rw[aJ (S.b x a i q) λY m J=>absurd m<|j Y]
  .rintro⟨a,M,_⟩
   rw[⟨a,?_⟩];have:(E.countP λe=>decide<|e.1=x)=0:=uC.mpr λe b q=>by have K:=decide_eq_true_iff.mp q;have:=S.a e b<|K▸aie M;rw[K]at this;rw[aif M this]
   lia
structure CI (aK:!(!N)) (s:!N->N) (D:!N->ju) (r:N) (cs:cH):Prop where
 h:∀k∈aK,s k<r->aZ cs k=some (D k)
 k:∀p∈cs,p.1∈aK/\s p.1<r/\p.2=D p.1
 d:(cs.map (·.1)).Nodup
def O1{n:Type}:∀{l m:!(!N×n)},aZ (l++m) k=match aZ l k with
  |some v=>some v
  |none=>aZ m k:=by
 intro J;induction J with
 |nil=>intro m;rw[rfl]
 |cons e l C=>
  intro m;show(if e.1=k then _ else aZ (l++m) k)=match(if e.1=k then some e.2 else aZ l k)with
   |some v=>some v
   |none=>aZ m k
  by_cases U:e.1=k
  .rw[if_pos U,if_pos U]
  .rw[if_neg U,if_neg U];rw[C]
def DW{n:Type}:∀{l:!(!N×n)},k∉l.map (·.1)->aZ l k=none:=by
 intro J;induction J with
 |nil=>intro _;rw[rfl]
 |cons e l C=>intro U;rw[bV,aY,not_or]at U;show(if e.1=k then _ else _)=_;rw[if_neg λq=>U.1 q.symm,];rw[C U.2]
def UL(e:∀k∈aK,s k=r->∀cs:cH,(∀o∈aK,s o<r->aZ cs o=some (G o))->qc m cs k (G k)):∀{L cs},L.Nodup->(∀k∈L,k∈aK/\s k=r)->(∀o∈aK,s o<r->aZ cs o=some (G o))->(∀k∈L,k∉cs.map (·.1))->mU m L cs (cs++L.map λk=>(k,G k)):=by
 intro J;induction J with
 |nil=>intro cs _ _ _ _;simp only[r8,bQ];rw[.nil]
 |cons k L C=>
  intro cs w Q d c;rw[ct (c_.mp w) λb M=>?_];have a:=Q k<|.head _;rw[.cons (e k a.1 a.2 cs d) (DW<|c k<|.head _) ?_];have:=C (cs:=cs++[(k,G k)]) M (λk U=>Q k<|.tail _ U) (λo f g=>by simp only[O1,d o f g]) λu U q=>by
   rw[bf,ej]at q;rcases q with q|q
   .rw[c u (.tail _ U) q]
   .have:u=k:=by simpa using q
    rw[b<|this▸U]
  simp only[bZ]at this;rw[this]
def CI.round{r:N}{cs:cH}{R:!(!N)}(C:CI aK s G r cs)(O:RO aK s r R)(A:r<9):CI aK s G (r+1) (cs++R.map λk=>(k,G k)):=by
 have d:∀k∈R,k∉cs.map (·.1):=λk c q=>by rw[aJ (bn.mp q) λp I P=>?_];subst P;have g:=(C.k p I).2.1;have M:=((O.m _).mp c).2.1;rw[aig g M]
 have H:(R.map λk=>(k,G k)).map (·.1)=R:=by rw[bI,];rw[r7 R]
 rw[#[λk c U=>?_,λp I=>?_,?_]]
 .rw[O1▸?_]
  by_cases q:s k<r
  .rw[C.h k c q,]
  .have f:=(O.m k).mpr #[c,aih U q,A]
   rw[(DW<|d k f)▸mJ (by rw[H,];rw[O.d]) (bw f)]
 .rcases ej.mp I with I|I
  .rw[ek (C.k p I) λg M X=>#[g,Mx M,X]]
  .rw[aJ (bn.mp I) λk c P=>?_]
   subst P;rw[ek ((O.m k).mp c) λg M K=>#[g,by show s k<_;lia,rfl]]
 .rw[bf,H,jV]
  rw[#[C.d,O.d,λa o b y e=>d b y<|e▸o]]
abbrev TA(aK:!(!N))(s:!N->N)(k:N)(l:!(!N)):Prop:=l.Perm (aK.filter λx=>decide<|s x=k)/\oy l
def RO.perm{r:N}{R:!(!N)}(O:RO aK s r R)(j:aK.Nodup)(A:r<9):R.Perm (aK.filter λx=>decide<|s x=r):=by rw[(FS O.d<|j.filter _).mpr λx=>?_];rw[O.m,zH,decide_eq_true_iff];rw[#[λU=>#[U.1,U.2.1],λU=>#[U.1,U.2,A]]]
def Br(S:kC E aK s)(h:∀x∈aK,s x≠r):∀{j},r+j<9->∀x∈aK,s x≠r+j
 |0,_,x,L,e=>h x L e
 |j+1,D,x,L,e=>by obtain⟨Y,m,M⟩:=S.b x L (e.symm▸D)<|e.symm▸sr _;rw[Br S h (j:=j) (Td D) Y (S.cl _ m).2<|qz<|M.trans e]
def apS(S:kC E aK s)(W:gG H E aK)(bs:∀k∈aK,s k<9->∀cs:cH,(∀o∈aK,s o<s k->aZ cs o=some (G o))->qc m cs k (G k)):∀{n r g R cs rd i},r+n=9->RI H E aK s r g->RO aK s r R->CI aK s G r cs->i=aK.countP (λx=>decide<|s x<r)->∃eJ h,o5 m R g cs rd i eJ (rd++h)/\CI aK s G 9 eJ/\∀ls:!(List<|List N),ls.length=n->(∀j l,ls[j]? =some l->TA aK s (r+j) l)->h=jB ls:=by
 intro n;induction n with
 |zero=>intro r g R cs rd i A a J f a7;obtain rfl:r=9:=A;have:=List.eq_nil_iff_forall_not_mem.mpr λx L=>absurd ((J.m x).mp L).2.2 ζ;subst this;refine bX cs [] (by rw[bQ,];rw[.nil]) f λls a6 _=>?_;rw[wE a6,];rfl
 |succ n C=>
  intro r g R cs rd i A a J f a7;cases R with
  |nil=>
   have a8:∀x∈aK,s x≠r:=λx L e=>by have:=(J.m x).mpr #[L,e,by lia];cases this
   rw[bX cs [] (by rw[bQ,];rw[.nil]) #[λk c U=>f.h k c ?_,λp I=>?_,f.d] λls a6 w=>?_]
   .rcases sg (s k) r with q|q
    .rw[q]
    .rw[absurd (uI q).symm (Br S a8 (by lia) k c)]
   .rw[ek (f.k p I) λac M X=>#[ac,aii A M,X]]
   .rw[(ST.mpr λl b0=>?_).symm]
    obtain⟨j,D,rfl⟩:=FR.mp b0;have ac:=(w j _<|eG D).1;have M:(aK.filter λx=>decide<|s x=r+j)=[]:=ST.mpr λx L=>by have:=Br S a8 (aij A a6 D) x L;simpa using this
    simp only[M]at ac;simp[ac.eq_nil]
  |cons k t=>
   have u:=ale A;rw[ek (aps S W a J u) λz O bl=>aJ (aqm (k::t)) λd Q bb=>?_];have F:=J.perm S.d u;have Y:aK.countP (λx=>decide<|s x<r)+(t.length+1)=aK.countP (λx=>decide<|s x<r+1):=by
    have K:(k::t).length=aK.countP (λx=>decide<|s x=r):=by simp only[F.length_eq,List.countP_eq_length_filter]
    simp only[dM]at K;rw[K▸((Ho (λx=>?_) aK).symm)];simp only[decide_eq_true_eq];rcases zP (s x) r with q|q|q
    .rw[if_pos<|aik A q,if_pos q,if_neg<|ail A q]
    .rw[if_pos<|aim A q,if_neg<|ain A q,if_pos q]
    .rw[if_neg<|aio A q,if_neg<|aip A q,if_neg<|aiq A q]
   have bt:=UL (λk c e cs U=>bs k c (air A e) cs<|e▸U) J.d (λx L=>let U:=(J.m x).mp L;#[U.1,U.2.1]) f.h (λx L q=>by rw[aJ (bn.mp q) λp I P=>?_];subst P;have ac:=(f.k p I).2.1;have M:=((J.m _).mp L).2.1;rw[ais A ac M])
   obtain⟨eJ,h,ac,M,X⟩:=C (rd:=rd++[d]) (i:=i+(t.length+1)) (Df A) O bl (f.round J u) (by rw[a7,];rw[Y]);rw[bX eJ (d::h) ?_ M λls a6 w=>?_]
   .simp only[bZ]at ac
    rw[.cons bt (λy b=>(a.n y).mpr ((J.m y).mp b).1) z Q (Pr bb) (ait a7 Y<|S.l▸List.countP_le_length) ac]
   .cases ls with
    |nil=>cases a6
    |cons l ls=>
     rw[ct (w 0 l rfl) λbo Z=>?_];have T:=EG (Pr bb) Z<|Q.trans<|F.trans bo.symm;have B:l≠[]:=λe=>by simp only[e]at T;rw[T]at Q;rw[absurd Q.nil_eq (by simp)]
     have:=X ls (by simpa using a6) λj l U=>by have:=w (j+1) l U;rwa[show r+(j+1)=r+1+j by rw[My]]at this
     unfold jB at this⊢;rw[m5<|by simpa using B,<-this,T]
end
def MQ:∀{l},l≠[]->mx l∈l
 |[a],_=>by have:mx [a]=a:=Tf<|dw _;simp only[this];rw[.head _]
 |a::b::l,_=>by
  show zQ a (mx (b::l))∈_;rcases Nat.le_total a (mx (b::l))with U|U
  .have:zQ a (mx (b::l))=mx (b::l):=Nat.max_eq_right U
   rw[this,];rw[.tail _<|MQ<|dl _ _]
  .have:zQ a (mx (b::l))=a:=Tf U
   rw[this,];rw[.head _]
def eR(W:b4):!(!N×!N):=W.flatMap λp=>p.2.map λY=>(p.1,Y)
def tV{W:b4}:(k,o)∈eR W↔∃p∈W,p.1=k/\o∈p.2:=by
 unfold eR;rw[qm,];constructor
 .rintro⟨p,I,U⟩
  rw[aJ (bn.mp U) λh m e=>ct (oZ e) λQ a=>?_];subst Q;subst a;rw[en p I rfl m]
 .rintro⟨p,I,rfl,m⟩
  rw[bA p I<|bw m]
abbrev sN(W:b4)(n:N)(k:!N):N:=(aZ (bY W n) k).getD 0
section
variable{W:b4} (D:(W.map (·.1)).Nodup) (G:jv W)
include D
theorem PU{p:!N×!(!N)}(I:p∈W):sN W 0 p.1=0:=by have:aZ (bY W 0) p.1=some 0:=mJ (by rw[lR,];rw[D])<|bw I;unfold sN;rw[this▸?_];rfl
theorem ug{n:N}{p:!N×!(!N)}(I:p∈W):sN W (n+1) p.1=mx (0::p.2.map λo=>sN W n o+1):=by have:aZ (bY W<|n+1) p.1=some (mx (0::p.2.map λo=>sN W n o+1)):=mJ (by rw[lR,];rw[D])<|bw I;show(aZ (bY W<|n+1) p.1).getD 0=_;rw[this,];rfl
theorem Ew{n:N}{p:!N×!(!N)}(I:p∈W){o:!N}(m:o∈p.2):sN W n o+1<=sN W (n+1) p.1:=by rw[ug D I,];rw[yf<|.tail _<|bw (f:=λo=>sN W n o+1) m]
theorem PS{n:N}{p:!N×!(!N)}(I:p∈W)(h:0<sN W (n+1) p.1):∃o∈p.2,sN W n o+1=sN W (n+1) p.1:=by
 rw[ug D I]at h⊢;rcases aY.mp (MQ (l:=0::p.2.map λo=>sN W n o+1) (dl _ _))with e|e
 .rw[absurd (Gb h e)<|ni 0]
 .rw[aJ (bn.mp e) λo m M=>bA o m M]
include G
theorem xW{p:!N×!(!N)}(I:p∈W){o:!N}(m:o∈p.2):∃q∈W,q.1=o:=aJ (bn.mp<|G p I o m) λq u e=>bA q u e
theorem apW:∀{n:N} {p:!N×!(!N)},p∈W->sN W n p.1<=n:=by
 intro J;induction J with
 |zero=>intro p I;rw[PU D I,];rw[d7 _]
 |succ n C=>
  intro p I;rw[ug D I,];rw[yg λa o=>?_];rcases aY.mp o with rfl|o
  .rw[dw _]
  .rw[aJ (bn.mp o) λY m P=>?_]
   subst P;rw[aJ (xW D G I m) λq u P=>?_];subst P;rw[oV<|C u]
theorem apX:∀{n:N} {p:!N×!(!N)},p∈W->sN W n p.1<=sN W (n+1) p.1:=by
 intro J;induction J with
 |zero=>intro p I;rw[PU D I,];rw[dw _]
 |succ n C=>
  intro p I;rw[ug D I,];rw[yg λa o=>?_];rcases aY.mp o with rfl|o
  .rw[dw _]
  .rw[aJ (bn.mp o) λY m P=>?_]
   subst P;rw[aJ (xW D G I m) λq u P=>?_];subst P;rw[b8 (oV<|C u)<|Ew D I m]
theorem PT:∀{n:N} {p:!N×!(!N)},p∈W->sN W n p.1<n->sN W (n+1) p.1=sN W n p.1:=by
 intro J;induction J with
 |zero=>intro p I U;rw[absurd U<|qy _]
 |succ n C=>intro p I U;simp only[ug D I,ug D I];congr 2;rw[oN λY m=>aJ (xW D G I m) λq u P=>?_];subst P;rw[C u<|ahW U<|Ew D I m,]
theorem aop:∀{n:N} {aK:!(!N)} {s:!N->N},(∀j<n,∃x∈aK,s x=j)->n<=aK.length:=by
 intro J;induction J with
 |zero=>intro _ _ _;rw[dw _]
 |succ n C=>
  intro aK s U;have C:=C λj D=>by rw[aJ (U j<|Mx D) λx L e=>bA x (zH.mpr #[L,decide_eq_true<|ahX D e]) e]
  rw[aJ (U n<|zO n) λx L e=>?_];have:(aK.filter λx=>decide<|s x≠n).length<aK.length:=List.length_filter_lt_length_iff_exists.mpr (bA x L<|by simp[e]);rw[ahY C this]
theorem aqo(i:W.length=9):kC (eR W) (W.map (·.1)) (sN W 9):=by
 have o:∀e∈eR W,sN W 9 e.1<9->sN W 9 e.2<sN W 9 e.1:=λe h U=>by rw[kG (tV.mp<|h) λp I K m=>?_];rw[<-K]at U⊢;have g:=PT D G I U;have M:=Ew D I m (n:=9);rw[ahZ g M]
 have y:∀n∈W.map (·.1),sN W 9 n<9->0<sN W 9 n->∃Y,(n,Y)∈eR W/\sN W 9 Y+1=sN W 9 n:=λn H U j=>by rw[aJ (bn.mp H) λp I P=>?_];subst P;have g:=PT D G I U;rw[aJ (PS D I (n:=9)<|ah0 j g) λY m M=>bA Y (tV.mpr<|en p I rfl m)<|ah1 g M]
 have l:∀e∈eR W,e.1∈W.map (·.1)/\e.2∈W.map (·.1):=λe h=>by rw[kG (tV.mp<|h) λp I K m=>#[K▸bw I,G p I _ m]]
 refine#[l,o,y,λn H U=>(aJ (bn.mp H) λp I P=>?_),D,by rw[aU,];rw[i]];subst P;have c:=apW D G (n:=9) I;obtain⟨Y,m,M⟩:=PS D I (n:=8) (by have:sN W (8+1) p.1=sN W 9 p.1:=rfl;rw[ah2 U c]);have f:=M;rw[bA Y (tV.mpr<|en p I rfl m) λw=>(aJ (xW D G I m) λq u P=>?_)];subst P;have b:sN W 8 q.1<=sN W 9 q.1:=apX D G u;have a:∀d≤8,∃x∈W.map (·.1),sN W 9 x=8-d:=by
  intro d;induction d with
  |zero=>intro _;rw[bA q.1 (bw u)<|ah3 U c M w b]
  |succ d C=>intro t;rw[aJ (C<|ah4 t) λx L e=>aJ (y x L (ah5 e)<|ah6 t e) λY m X=>bA Y ((l _ m).2)<|congrArg Nat.pred<|X.trans e]
 have:=aop D G (n:=10) (aK:=W.map (·.1)) (s:=sN W 9) λr k=>by
  rcases sg r 9 with q|q
  .rw[aJ (a (8-r)<|ah7 k q) λx L e=>bA x L<|ah8 k q e]
  .rw[bA p.1 H<|ah9 U c k q]
 rw[aU]at this;rw[ah_ i this]
end
def wS:N->!(N×N)->!c6
 |0,_=>[[]]
 |_,[]=>[[]]
 |f+1,(R,S)::rest=>
  if 1<S-R then(sb<|S-R-1).flatMap λi=>(wS f ((R,R+1+i)::(R+1+i,S)::rest)).map λD=>(R,S,some<|R+1+i)::D
  else(wS f rest).map λD=>(R,S,none)::D
def Em(am):∀(f k st),gO am f k st∈wS f st
 |0,_,_=>.head _
 |f+1,k,[]=>.head _
 |f+1,k,(R,S)::rest=>by
  show gO am (f+1) k ((R,S)::rest)∈(if 1<S-R then _ else _);by_cases U:1<S-R
  .rw[if_pos U,En U]
   rw[qm.mpr<|bA (am.getD (k%am.length) 0%(S-R-1)) (S6.mpr<|bq _<|aiL U)<|bw<|Em am f _ _]
  .rw[if_neg U,PD U]
   rw[bw<|Em am f _ _]
abbrev kM(q:N×N×Option N):N×N:=(q.1,q.2.1)
def OE(T:c6)(q:N×N×Option N):Bool:=decide (q.1<q.2.1)&&decide (q.2.1<=5)&&match q.2.2 with
 |none=>decide<|q.2.1=q.1+1
 |some E=>decide (q.1<E)&&decide (E<q.2.1)&&decide ((E,q.2.1)∈T.map kM)&&decide ((q.1,E)∈T.map kM)
def OD:c6->Bool
 |[]=>false
 |q::_=>q.1.beq 0&&(q.2.1.beq 5&&q.2.2.isSome)
def anK:∀{T:c6},OD T=true->∃m rest,T=(0,5,some m)::rest
 |[],U=>nomatch U
 |(a,b,Y)::rest,U=>by have U:=ux.mp U;have z:=ux.mp U.2;rw[dm (uL.mp z.2) λm e=>j8 m rest<|m_ U.1▸m_ z.1▸e▸rfl]
def OF(T:c6):Bool:=OD T&&decide (T.length=9)&&decide (T.map kM).Nodup&&T.all (OE T)&&decide (2<=(T.filter λq=>q.2.2.isNone).length)
def anL:((wS 9 [(0,5)]).all OF)=true:=by decide+kernel
structure ga (T:c6):Prop where
 hd:∃m rest,T=(0,5,some m)::rest
 len:T.length=9
 nd:(T.map kM).Nodup
 r:∀q∈T,q.1<q.2.1/\q.2.1<=5
 leaf:∀q∈T,q.2.2=none->q.2.1=q.1+1
 jD:∀q∈T,∀m,q.2.2=some m->q.1<m/\m<q.2.1/\(m,q.2.1)∈T.map kM/\(q.1,m)∈T.map kM
 two:2<=(T.filter λq=>q.2.2.isNone).length
def arv(am):ga (gO am 9 0 [(0,5)]):=by
 have U:=r5.mp anL _<|Em am 9 0 [(0,5)];generalize gO am 9 0 [(0,5)]=T at U;unfold OF at U;simp only[kp,decide_eq_true_eq,r5]at U;obtain⟨⟨⟨⟨a,M⟩,X⟩,I⟩,Y⟩:=U;have h:=λq u=>by have:=I q u;unfold OE at this;simp only[kp,kp,decide_eq_true_iff,decide_eq_true_iff]at this;rw[this]
 rw[#[anK a,M,X,λq u=>(h q u).1,λq u e=>?_,λq u E e=>?_,Y]]
 .have:=(h q u).2
  rw[e]at this;rw[decide_eq_true_iff.mp this]
 .have:=(h q u).2
  rw[e]at this;simp only[kp,decide_eq_true_eq]at this;rw[#[this.1.1.1,this.1.1.2,this.1.2,this.2]]
set_option tactic.hygienic true in
def vy(a:G<16)(M:0<hi)(X:hi<16):nm G hi=if G=0 then[65+hi]else[65+G,65+hi]:=by
 unfold nm;simp only[o_<|Mz M];have K:(16*G+hi)/16=G:=aiM M X;simp only[K,(aiN K)];split
 .rename_i U;simp only[U,nH];rfl
 .rename_i U
  simp only[o_ U,FY a,nH,Gc a];rfl
def amf(e:a<16)(M:0<b)(X:b<16)(I:c<16)(Y:0<d)(L:d<16)(h:nm a b=nm c d):(a,b)=(c,d):=by
 simp only[vy e M X,vy I Y L]at h
 split at h<;>split at h
 .simp only[SI,and_true]at h
  simp only[Tw];lia
 .simp at h
 .simp at h
 .simp only[SI,and_true]at h
  simp only[Tw];rw[aiO h]
def yj(a:G<16)(M:0<hi)(X:hi<16):nm G hi≠[]/\(nm G hi).length<=2/\∀c∈nm G hi,65<=c/\c<=80:=by
 rw[(vy a M X)▸?_];split
 .rw[#[by simp,by simp,λc d=>((iy.mp d)▸Dc X)]]
 .rw[#[by simp,by simp,λc d=>?_]]
  simp only[aY,cQ,or_false]at d;rw[d.elim (·▸Dc a) (·▸Dc X)]
section
variable{T:c6} (D:ga T)
include D
abbrev bR(q:N×N×Option N):!N:=nm q.1 q.2.1
theorem bd{q:N×N×Option N}(h:q∈T):q.1<16/\0<q.2.1/\q.2.1<16:=by have:=D.r q h;rw[aiP this]
theorem Ds{q a:N×N×Option N}(h:q∈T)(h':a∈T)(e:bR q=bR a):kM q=kM a:=ek (bd D h) λs f g=>ek (bd D h') λb i P=>amf s f g b i P e
theorem mz:(T.map bR).Nodup:=by
 have:∀j:c6,(∀q∈j,q∈T)->(j.map kM).Nodup->(j.map bR).Nodup:=by
  intro j;induction j with
  |nil=>intro _ _;rw[.nil]
  |cons q j C=>intro Q U;rw[bV,c_]at U⊢;rw[#[λH=>U.1<|aJ (bn.mp H) λa b e=>(Ds D (Q a<|.tail _ b) (Q q<|.head _) e)▸bw b,C (λq U=>Q q<|.tail _ U) U.2]]
 rw[this T (λK U=>U) D.nd]
theorem j_:(T.map cU).map (·.1)=T.map bR:=by rw[bI,];rw[oN λq U=>wk q]
theorem sO{a b:N}(h:(a,b)∈T.map kM):nm a b∈T.map bR:=by rw[aJ (bn.mp h) λq u e=>ct (oZ e) λQ k=>?_];subst Q;subst k;rw[bw u]
theorem AH:jv (T.map cU):=λp a Y m=>by
 rw[j_ D,];rw[aJ (bn.mp a) λb u P=>?_];obtain⟨R,S,d⟩:=b;subst P;cases d with
 |none=>cases m
 |some E=>
  rw[nT (D.jD _ u E rfl) λU U X I=>?_];have l:Y∈[nm E S,nm R E]:=m;simp only[aY,cQ,or_false]at l;rcases l with rfl|rfl
  .rw[sO D X]
  .rw[sO D I]
theorem ary{g:!(!N)}(L:g=[]\/∃a b,g=[a,b]/\a∈T.map bR/\b∈T.map bR):sD T g:=by
 rw[#[?_,by rw[D.len▸?_];decide,λq u=>#[(D.r q u).1,(D.r q u).2,λE e=>?_],by rw[(j_ D)▸mz D],AH D,?_,by rw[(j_ D)▸L]]]
 .obtain⟨E,Q,e⟩:=D.hd;rw[aa1 0 5 E Q e]
 .obtain⟨c,M,_⟩:=D.jD q u E e;rw[#[c,M]]
 .rw[(j_ D)▸(fU D.hd λE Q e=>e▸?_)]
  have:bR (0,5,some E)=[70]:=by show nm 0 5=_;rw[vy ζ ζ<|ζ,];rfl
  rw[bV▸this▸.head _]
theorem yi{a b:N}(h:(a,b)∈T.map kM):nm a b≠[]/\(nm a b).length<=2/\∀c∈nm a b,65<=c/\c<=80:=by rw[aJ (bn.mp h) λq u e=>ct (oZ e) λQ k=>?_];subst Q;subst k;rw[ek (bd D u) λs f g=>yj s f g]
end
def Yr{T:c6}(h:ga T)(am):nY am T=[]\/∃a b,nY am T=[a,b]/\a∈T.map bR/\b∈T.map bR:=by
 unfold nY;split
 .rw[.inl rfl]
 .have z:∀i,T.getD (i%9) (0,1,none)∈T:=λi=>by
   have U:i%9<T.length:=by rw[h.len,];rw[bq _ ζ]
   simp only[hV,eG U];rw[m6 U]
  rw[.inr<|bX _ _ rfl (bw<|z _)<|bw<|z _]
def abc{n:Type}(l m)(x:n):(iF l m x).Perm (x::l):=wH.trans<|List.Perm.cons _<|by rw[List.take_append_drop,]
def anO{n:Type}(am):∀(l m:!n) (k),(hG am k l m).Perm (l++m):=by
 intro J;induction J with
 |nil=>intro m k;rw[.refl _]
 |cons x l C=>intro m k;rw[(C _<|k+1).trans<|((abc m _ x).append_left l).trans wH]
def anP{n:Type}(am)(l:!n):(rz am l).Perm l:=by have:=anO am l [] 0;rwa[bQ]at this
def ma:!(!N)->nF
 |[n,a]=>if a.length<3 then[]else[(n,[a])]
 |[n,a,b]=>[(n,[a,b])]
 |_=>[]
def Up(o):gy (ma o)=qL o:=by
 match o with
 |[]=>rfl
 |[_]=>rfl
 |[n,a]=>
  show gy (if a.length<3 then _ else _)=if a.length<3 then _ else _
  split<;>rfl
 |[_,_,_]=>rfl
 |_::_::_::_::_=>rfl
def Uq(s:!(List<|List N)):gy (s.flatMap ma)=s.flatMap qL:=by
 induction s with
 |nil=>rfl
 |cons r s C=>simp only[jU,jU,<-C,<-Up r];simp only[bf]
def TZ{W:b4}(h:a∉W.map (·.1)):gT W a b=W:=by
 conv=>rhs;rw[<-r7 W]
 rw[oN λp I=>(if_neg (λe=>h (e▸bw I):¬p.1=a))▸?_];rfl
def xm:∀{W},(W.map (·.1)).Nodup->a∈W.map (·.1)->(eR<|gT W a b).Perm (eR W++[(a,b)])
 |p::W,hn,ha=>by
  rw[bV,c_]at hn;show(eR ((if p.1=a then(p.1,p.2++[b])else p)::gT W a b)).Perm _;by_cases e:p.1=a
  .rw[if_pos e,TZ<|e▸hn.1]
   show((p.2++[b]).map (λY=>(p.1,Y))++eR W).Perm ((p.2.map λY=>(p.1,Y))++eR W++[(a,b)]);rw[bf,e,bZ,bZ];rw[(r_).append_left _]
  .rw[if_neg e,]
   show((p.2.map λY=>(p.1,Y))++eR (gT W a b)).Perm ((p.2.map λY=>(p.1,Y))++eR W++[(a,b)]);simp only[bZ];rw[(xm hn.2<|(aY.mp ha).resolve_left λq=>e q.symm).append_left _]
section
variable{am:!N} {T:c6} {D:!(!N)} {ws:!(!N)}
def XR(h:ga T)(Y:ws.length=3)(u:q∈T):kF (fk ws q)=(cU q).2.map λo=>((cU q).1,o):=by
 obtain⟨R,S,d⟩:=q;cases d with
 |none=>show(if(ws.map _).length<3 then _ else _)=[];rw[if_neg (by rw[aU,];rw[yc Y]),]
 |some E=>rfl
def Ro(h:ga T)(Y:ws.length=3)(u:q∈T):bR q∈mN (fk ws q)/\∀x∈mN (fk ws q),x∈T.map bR:=by
 obtain⟨R,S,d⟩:=q;cases d with
 |none=>
  have:mN (fk ws (R,S,none))=[nm R S]:=by show(if(ws.map _).length<3 then _ else _)=_;rw[if_neg (by rw[aU,];rw[yc Y]),]
  rw[this▸#[.head _,λx L=>by rw[(iy.mp L)▸bw u]]]
 |some E=>
  rw[nT (h.jD _ u E rfl) λU U X I=>#[.head _,λx L=>?_]];have g:x∈[nm R S,nm E S,nm R E]:=L;simp only[aY,cQ,or_false]at g;rcases g with rfl|rfl|rfl
  .rw[bw u]
  .rw[sO h X]
  .rw[sO h I]
def wq(ws:!(!N)):N×N×Option N->!(!N)
 |(R,S,none)=>[ws.map λx=>x.getD (4-R) 65]
 |(R,S,some E)=>[nm E S,nm R E]
def Ur(Y:ws.length=3)(q):ma (fk ws q)=[(bR q,wq ws q)]:=by
 obtain⟨R,S,d⟩:=q;cases d with
 |none=>show(if(ws.map _).length<3 then _ else _)=_;rw[if_neg (by rw[aU,];rw[yc Y]),];rfl
 |some E=>rfl
abbrev kD(T:c6)(g:!(!N)):Prop:=g=[]\/∃a b,g=[a,b]/\a∈T.map bR/\b∈T.map bR
def mA(h:ga T)(y:b∈T.map bR):b≠[]/\b.length<=2/\∀c∈b,65<=c/\c<=80:=by rw[aJ (bn.mp y) λq u P=>?_];subst P;rw[ek (bd h u) λs f g=>yj s f g]
def ash(h:ga T):(cZ T D).map (·.1)=T.map bR:=by
 simp only[<-j_ h];exact match D with
  |[]=>rfl
  |[_]=>rfl
  |[_,_]=>Ay _ _ _
  |_::_::_::_=>rfl
def apD(h:ga T)(Y:ws.length=3)(L:kD T D):((T.map (fk ws)++(if D=[]then[]else[D])).flatMap kF).Perm (eR<|cZ T D):=by
 have K:(T.map<|fk ws).flatMap kF=eR (T.map cU):=by
  unfold eR;simp only[FJ,FJ];have:∀j:c6,(∀q∈j,q∈T)->j.flatMap (λa=>kF<|fk ws a)=j.flatMap λa=>(cU a).2.map λc=>((cU a).1,c):=by
   intro j;induction j with
   |nil=>intro _;rfl
   |cons q j C=>intro Q;simp only[jU,jU,C λq U=>Q q<|.tail _ U,XR h Y<|Q q<|.head _]
  rw[this T λJ U=>U]
 simp only[FI,K];rcases L with rfl|⟨a,b,rfl,o,y⟩
 .rw[if_pos rfl,]
  show(eR (T.map cU)++[]).Perm (eR<|T.map cU);rw[bQ,]
 .rw[(if_neg<|dl _ _)▸?_]
  have:[[a,b]].flatMap kF=[(a,b)]:=by show(if b.length<3 then _ else _)++[]=_;rw[if_pos (by have:=(mA h y).2.1;rw[Di this]),];rfl
  rw[this▸(xm ((j_ h)▸mz h)<|(j_ h)▸o).symm]
def apG(h:ga T)(Y:ws.length=3)(L:kD T D)(x):x∈(T.map (fk ws)++(if D=[]then[]else[D])).flatMap mN↔x∈T.map bR:=by
 rw[FI,ej];constructor
 .rintro(U|U)
  .rw[aJ (qm.mp U) λr A g=>aJ (bn.mp A) λq u P=>?_]
   subst P;rw[(Ro h Y u).2 x g]
  .rcases L with rfl|⟨a,b,rfl,o,y⟩
   .rw[if_pos rfl]at U;cases U
   .rw[if_neg<|dl _ _]at U
    have z:x∈(if b.length<3 then[a,b]else[a])++[]:=U;rw[if_pos (by have:=(mA h y).2.1;rw[Di this])]at z;simp only[bQ,aY,cQ,or_false]at z;rcases z with rfl|rfl
    .rw[o]
    .rw[y]
 .intro U
  rw[aJ (bn.mp U) λq u P=>?_];subst P;rw[.inl<|qm.mpr<|bA (fk ws q) (bw u)<|(Ro h Y u).1]
def apC(h:ga T)(Y:ws.length=3)(L:kD T D):(T.map (fk ws)++(if D=[]then[]else[D])).flatMap ma=T.map λq=>(bR q,wq ws q):=by
 have K:(T.map<|fk ws).flatMap ma=T.map λq=>(bR q,wq ws q):=by
  rw[FJ,];clear L h;induction T with
  |nil=>rfl
  |cons q T C=>rw[jU,C,Ur Y];rfl
 rw[FI▸K▸?_];rcases L with rfl|⟨a,b,rfl,o,y⟩
 .rw[(if_pos rfl)▸bQ _]
 .rw[(if_neg<|dl _ _)▸?_]
  have:[[a,b]].flatMap ma=[]:=by show(if b.length<3 then _ else _)++[]=_;rw[if_pos (by have:=(mA h y).2.1;rw[Di this]),];rfl
  simp only[this,bQ]
def apE(h:ga T)(Y:ws.length=3)(L:kD T D):∀r∈T.map (fk ws)++(if D=[]then[]else[D]),jZ r:=λr A=>by
 rcases ej.mp A with A|A
 .rw[aJ (bn.mp A) λc u P=>?_]
  obtain⟨R,S,d⟩:=c;subst P;cases d with
  |none=>rw[.leaf _ _ (by rw[aU,];rw[Y])]
  |some E=>rw[nT (h.jD _ u E rfl) λU U X I=>.jD _ _ _ (qt (yi h X).2.1)<|qt (yi h I).2.1]
 .rcases L with rfl|⟨a,b,rfl,o,y⟩
  .rw[if_pos rfl]at A;cases A
  .rw[if_neg<|dl _ _]at A
   rw[(iy.mp A)▸.ext _ _ (qt (mA h y).2.1)]
def apH(h:ga T)(Y:ws.length=3)(j:∀w∈ws,∀i,65<=w.getD i 65/\w.getD i 65<=80)(L:kD T D):∀r∈T.map (fk ws)++(if D=[]then[]else[D]),qG r:=λr A=>by
 have c:∀{w:!N},(w≠[]/\w.length<=2/\∀Z∈w,65<=Z/\Z<=80)->nE w:=λU=>#[U.1,λZ d=>MK (U.2.2 Z d).1 (U.2.2 Z d).2];rcases ej.mp A with A|A
 .rw[aJ (bn.mp A) λl u P=>?_]
  obtain⟨R,S,k⟩:=l;subst P;rw[ek (bd h u) λs f g=>?_];cases k with
  |none=>
   refine#[by simp[fk],λw H=>?_];have G:w∈[nm R S,ws.map λx=>x.getD (4-R) 65]:=H;simp only[aY,cQ,or_false]at G;rcases G with rfl|rfl
   .rw[c<|yj s f g]
   .rw[⟨λe=>?_,λZ d=>?_⟩]
    .rw[FQ]at e;rw[e]at Y;cases Y
    .rw[aJ (bn.mp d) λx L P=>?_]
     subst P;rw[MK (j x L _).1 (j x L _).2]
  |some E=>
   refine nT (h.jD _ u E rfl) λK K X I=>#[by simp[fk],λw H=>?_];have G:w∈[nm R S,nm E S,nm R E]:=H;simp only[aY,cQ,or_false]at G;rcases G with rfl|rfl|rfl
   .rw[c<|yj s f g]
   .rw[c<|yi h X]
   .rw[c<|yi h I]
 .rcases L with rfl|⟨a,b,rfl,o,y⟩
  .rw[if_pos rfl]at A;cases A
  .rw[if_neg<|dl _ _]at A
   refine(iy.mp A)▸⟨by simp,λw H=>?_⟩;simp only[aY,cQ,or_false]at H;rcases H with rfl|rfl
   .rw[c<|mA h o]
   .rw[c<|mA h y]
end
def EM:∀{g},(bC g).Nodup->w∈g->aS g w.1=w.2.2
 |y::g,hn,U=>by
  obtain⟨a,M⟩:=c_.mp<|show(y.1::bC g).Nodup from hn;show(if y.1=w.1 then y.2.2 else aS g w.1)=_;rcases aY.mp U with rfl|U
  .rw[if_pos rfl,]
  .have B:¬y.1=w.1:=λe=>a<|e▸bw U
   rw[(if_neg B)▸EM M U]
def Q_(W:gG g E aK)(k):(aS g k).length<=E.length:=by
 have:(aS g k).Perm ((E.filter λe=>decide<|e.2=k).map (·.1)):=by
  rw[wG,];intro n;rw[W.s,];clear W;induction E with
  |nil=>rfl
  |cons e E C=>
   rw[FB,C];rw[(by rw[p_,beq_iff_eq,decide_eq_true_iff,Gm]:(e==(n,k))=decide (e.1=n/\e.2=k)),];by_cases U:e.2=k
   .rw[m5<|by simpa using U,bV,FB]
    by_cases a:e.1=n<;>simp[U,a]
   .rw[oL<|by simpa using U,]
    simp[U]
 simp only[this.length_eq,aU];rw[FN _ _]
def Zt(h:∀k,(aS g k).length<=c):fx g []<=(bC g).length*c:=by
 unfold fx;have:∀s:!(!N),((s.filter λk=>decide<|k∉[]).map λk=>(aS g k).length).sum<=s.length*c:=by
  intro s;induction s with
  |nil=>simp
  |cons n s C=>rw[m5<|by simp,bV,k_,dM,Nat.succ_mul];have:=h n;rw[agU C this]
 rw[this _]
def aon{n:Type}{l:!(!N×n)}(d:n)(h:(l.map (·.1)).Nodup):l=(l.map (·.1)).map λk=>(k,(aZ l k).getD d):=by
 rw[bI,]
 conv=>lhs;rw[<-r7 l]
 rw[oN λp I=>?_];show p=(p.1,(aZ l p.1).getD d);rw[mJ h<|I,];rfl
def sM(am:!N)(T:c6)(k:!N):ju:=match T.find? λq=>decide (bR q=k)with
 |some q=>gK am q.1 q.2.1
 |none=>[]
section
variable{am:!N} {T:c6} (D:ga T)
include D
theorem wX{q:N×N×Option N}(u:q∈T):sM am T (bR q)=gK am q.1 q.2.1:=by
 unfold sM;cases U:T.find? λa=>decide (bR a=bR q)with
 |none=>rw[absurd (decide_eq_true rfl)<|SU.mp U q u]
 |some a=>have:=Ds D (S5 U) u (by simpa using SV U);rw[ct (oZ this) λK O=>?_];show gK am a.1 a.2.1=_;rw[K,O]
theorem G6{a b:N}(h:(a,b)∈T.map kM):sM am T (nm a b)=gK am a b:=by rw[aJ (bn.mp h) λq u e=>?_];rw[ct (oZ e) λQ k=>?_];subst Q;subst k;rw[wX D u]
omit D in
theorem Bi{R hi:N}(h:R<hi)(Y:hi<=5):∀y∈gK am R hi,y.2<3/\DM y/\y.1.length=hi-R:=λy b=>by
 rw[aJ (bn.mp b) λa o P=>?_];subst P;have c:a<=2:=by simp only[aY,cQ,or_false]at o;rw[akj o]
 have d:=Hy (x:=(hI am R hi+a)%16^(hi-R)) (bq _<|sq<|ζ);refine⟨FZ (by simp only[Gd];rw[Mq (DS am R hi) c]),⟨λe=>?_,by show(dg _ _).length<=100;rw[akk Y d]⟩,d⟩;have G:dg (hi-R) ((hI am R hi+a)%16^(hi-R))=[]:=e;rw[G]at d;rw[akl h d]
theorem UK(X:3<=am.length){m:nF}(H:∀q∈T,aZ m (bR q)=some (wq ((am.take 3).map fv) q)){W:b4}{s:!N->N}(F:∀q∈T,∀o∈(cU q).2,(bR q,o)∈eR W)(S:kC (eR W) (T.map bR) s):∀k∈T.map bR,s k<9->∀cs:cH,(∀o∈T.map bR,s o<s k->aZ cs o=some (sM am T o))->qc m cs k (sM am T k):=λk c G cs r=>by
 rw[aJ (bn.mp c) λa6 u P=>?_];obtain⟨R,A,d⟩:=a6;subst P;rw[ct (D.r _ u) λac t=>?_];dsimp only at ac t;have x:=H _ u;simp only[wX D u];cases d with
 |none=>
  obtain rfl:A=R+1:=D.leaf _ u rfl;rw[Bp (Io X) λl J B Q O=>?_];subst O;have g:∀n:N,n%16^5/16^R%16<16:=λn=>bq _ ζ;have j:∀n:N,(fv n).getD (4-R) 65=65+n%16^5/16^R%16:=λn=>by simp only[R0];rw[Xp (w:=5) (i:=R) (bq _<|ζ)<|akm t]
  have e:gK (l::J::B::Q) R (R+1)=vh (l%16^5/16^R%16+J%16^5/16^R%16+B%16^5/16^R%16):=by simp only[xj,ae3];have K:R+1-R=1:=afJ;simp only[K];congr 1;unfold hI;simp only[K];simp only[List.take_succ_cons,FT,bV,r8,k_,List.sum_nil,Nat.pow_one];rw[akn]
  simp only[e];rw[.leaf _ _ _ (g l) (g J) (g B)<|x.trans ?_];show some [[(fv l).getD (4-R) 65,(fv J).getD (4-R) 65,(fv B).getD (4-R) 65]]=_;simp only[j,j,j]
 |some a=>
  rw[nT (D.jD _ u a rfl) λL p I h=>?_];dsimp only at L p I h;have f:s (nm a A)<s (bR (R,A,some a)):=S.a _ (F _ u _<|.head _) G;have U:s (nm R a)<s (bR (R,A,some a)):=S.a _ (F _ u _<|.tail _<|.head _) G;have M:=r _ (sO D I) f;have E:=r _ (sO D h) U;simp only[G6 D I]at M;simp only[G6 D h]at E;simp only[<-XF am (iJ L) (iJ p)];rw[.jD _ _ _ _ _ _ x E M rfl (λy b=>?_) λz Z=>?_]
  .rw[ek (Bi (am:=am) L (Dm t p) y b) λC Y _=>?_]
   rw[#[C,Y]]
  .rw[(Bi (am:=am) p (ako t) z Z).2.1]
end
def aod:∀{s k jj},(∀r∈s,kB r)->(fW am k s jj).length<=jj.length+53*s.length:=by
 intro J;induction J with
 |nil=>intro k jj _;rw[akp]
 |cons o s C=>
  intro k jj U;have:=C (k:=k+1) (jj:=jj++(if k=0 then[]else gE (dz am k))++iQ am k o) λr A=>U r<|.tail _ A;have M:(if k=0 then[]else gE (dz am k)).length<=3:=by
   split
   .rw[dw _]
   .unfold gE;split<;>decide
  simp only[cJ,dM]at this⊢;rw[akq ((Eo<|U o<|.head _).2) M this]
def aog(h:kB G):2<=(fW am 0 (G::rest) []).length:=by
 have e:fW am 0 (G::rest) []=iQ am 0 G++rA am 1 rest:=by show fW am 1 rest ([]++(if 0=0 then[]else gE (dz am 0))++iQ am 0 G)=_;rw[OS,if_pos rfl];rfl
 simp only[e,cJ];rw[ct h λn r=>?_];have d:2<=(iQ am 0 G).length:=by
  rcases yH n with⟨a,b,rfl⟩|⟨a,b,Z,rfl⟩
  .have c:=(pY a<|dz am 0/4).1
   show 2<=gR (cy a (dz am 0/4)++32::cy b (dz am 0/4+1));simp;rw[akr c<|m7.mpr (r a<|.head _).1]
  .have c:=(pY a<|dz am 0/4).1
   show 2<=gR (cy a (dz am 0/4)++32::(cy b (dz am 0/4+1)++32::cy Z (dz am 0/4+1+1)));simp;rw[aks]
 rw[akt d]
def arq:∀{s},(∀r∈s,kB r)->(lT s).length<=4*s.length:=by
 intro J;induction J with
 |nil=>intro _;rw[d7 _]
 |cons r s C=>intro U;have:=C λr A=>U r<|.tail _ A;show([59]::(r++lT s)).length<=_;simp only[dM,cJ];rw[aku this<|(U r<|.head _).1]
section
variable{a b c d e f g h i j k l m n:N}
def alk:b=a+1->a<c->c<b->False:=ai [b,a,c] 0x50f0023c2050319040 0x10040000401
def aln:a+1=2->b<=4*c->c+1<=10->a+b<=9000:=ai [a,b,c] 0x3823280d530100e88c64238d09c05068c640 0x40040000401
def alo:a+1=3->b<=4*c->c+1<=10->a+b<=9000:=ai [a,b,c] 0x3823280d530100e88c64238d09c0506cc640 0x40040000401
def alm(h:a+1=2\/a+1=3)(p:b<=4*c)(q:c+1<=10):a+b<=9000:=h.elim (aln · p q) (alo · p q)
end
set_option tactic.hygienic true in
def O2{n:Type}{v:n}:∀{l},aZ l k=some v->k∈l.map (·.1)
 |e::l,h=>by
  simp only[aZ]at h;split at h
  .rename_i q;rw[q▸.head _]
  .rw[.tail _<|O2 h]
def XA:∀{T},((dy am S T).map (·.1)).Sublist (T.map bR):=by
 intro J;induction J with
 |nil=>rw[.slnil]
 |cons q T C=>
  simp only[(by unfold dy;simp only[jU]:dy am S (q::T)=(if(aZ S<|nm q.1 q.2.1).getD 0<9 then[(nm q.1 q.2.1,gK am q.1 q.2.1)]else[])++dy am S T),bf];split
  .rw[.cons₂ _ C]
  .rw[.cons _ C]
def aoo:∀{L:c6},2<=L.length->(L.map bR).Nodup->∃q∈L,bR q≠a
 |Q::q2::l,_,nd=>by
  by_cases e:bR Q=a
  .rw[#[q2,.tail _<|.head _,λO=>?_]]
   rw[bV,bV,c_]at nd;rw[nd.1<|e▸O▸.head _]
  .rw[#[Q,.head _,e]]
 |[_],U,_=>absurd U (by simp)
 |[],U,_=>absurd U<|ζ
section
variable{E:!(!N×!N)} {aK:!(!N)} {s:!N->N} {g:PG}
def Az:(aK.any λx=>decide<|¬s x<9)=true↔∃k,k∈aK/\¬s k<9:=List.any_eq_true.trans #[λL=>aJ L λk a M=>#[k,a,decide_eq_true_iff.mp M],λL=>aJ L λk a M=>#[k,a,decide_eq_true M]]
def alX:mx (aK.map s)<9↔¬∃k,k∈aK/\¬s k<9:=#[λU L=>aJ L λk c i=>i<|kv (yf<|bw c) U,λU=>qt<|yg λa o=>(aJ (bn.mp o) λk c P=>P▸(zM<|Fm.mp λq=>U #[k,c,q]))]
def ame:((not ((aK.any λx=>decide<|¬s x<9))))=decide (mx (aK.map s)<9):=by rw[p_,Sh,<-Bool.not_eq_true,Az,decide_eq_true_iff,alX]
def ZR(S:kC E aK s)(W:gG g E aK)(F:E.length<=30)(a:(bC g).length=9):iO g 300 (bC g) []=some (aK.any λx=>decide<|¬s x<9):=by
 have b:=Zt λj=>b8 (Q_ W j) F;rw[a]at b;rw[anT (agb b) (C:=λj=>j∈aK/\¬s j<9) (λj c=>?_) (λj c=>(W.n j).mpr c.1) (λU=>Az.mp U) λU=>#[s,λY j c=>S.a _ ((tW W).mp c) ?_]]
 .rw[aJ (S.c j c.1 c.2) λY m i=>bA Y #[(S.cl _ m).2,i]<|(tW W).mpr m]
 .rw[Fm.mp λq=>oG<|U.symm.trans<|Az.mpr #[j,(S.cl _<|(tW W).mp c).1,q]]
def ZT(S:kC E aK s)(W:gG g E aK)(F:E.length<=30):l_ (dH g):=by
 rw[#[λy b j c=>aJ (bn.mp b) λT d P=>?_,λy b=>aJ (bn.mp b) λT d P=>?_]]
 .subst P
  have:=EM W.d d;rw[(by unfold dH;rw[bI,];rfl:(dH g).map (·.1)=bC g),W.n];rw[(S.cl _<|(tW W).mp (by rw[this,];rw[c])).1]
 .subst P
  have M:=Q_ W T.1;rw[EM W.d d]at M;rw[agc F M]
def ZS(S:kC E aK s)(W:gG g E aK){z:!N}(hz:z∈aK)(a:s z=0):∃y R,jk g=y::R:=jT λe=>(cQ<|e▸((Qy S W).2.m z).mpr #[hz,a,ζ]).elim
def XP:∀{W},(∀p∈W,p.2.length<=3)->(eR W).length<=3*W.length:=by
 intro W;induction W with
 |nil=>intro _;rw[d7 _]
 |cons p W C=>intro U;have a:=C λp I=>U p<|.tail _ I;have M:=U p<|.head _;show((p.2.map λY=>(p.1,Y))++eR W).length<=_;simp only[cJ,aU,dM];rw[af_ a M]
end
section
variable{am:!N} {T:c6} {D:!(!N)}
def Yq(h:ga T)(L:kD T D):rS D:=L.elim .inl λU=>U.elim λa U=>U.elim λb U=>.inr<|Jm a b U.1 (mA h U.2.1).1 (b8 (mA h U.2.1).2.1<|ζ) (mA h U.2.2).1<|b8 (mA h U.2.2).2.1<|ζ
def U0(h:ga T)(L:kD T D):jv (cZ T D):=by
 rcases L with rfl|⟨a,b,rfl,o,y⟩
 .rw[AH h]
 .rw[GO (AH h)<|(j_ h)▸y]
def XQ(h:ga T)(L:kD T D)(u:q∈T)(m:o∈(cU q).2):(bR q,o)∈eR (cZ T D):=by
 have c:=tV.mpr<|en (cU q) (bw u) (wk q) m;rcases L with rfl|⟨a,b,rfl,d,y⟩
 .rw[c]
 .rw[((xm ((j_ h)▸mz h)<|(j_ h)▸d).mem_iff).mpr<|fZ _ c]
def ae8(h:ga T)(L:kD T D):∀p∈cZ T D,p.2.length<=3:=by
 rcases L with rfl|⟨a,b,rfl,o,y⟩
 .exactλp I=>ld<|wm T p I
 .rw[GP<|wm T]
def MZ(h:ga T)(u:q∈T)(e:q.2.2=.none)(m:(bR q,o)∈eR (T.map cU)):False:=by
 rw[kG (tV.mp m) λp I K M=>aJ (bn.mp I) λa b P=>?_];subst P;have O:=Ds h b u<|(wk a).symm.trans K;obtain⟨R,S,d⟩:=q;obtain⟨g,r,f⟩:=a;rw[ct (oZ O) λQ k=>?_];subst Q;subst k;cases f with
 |none=>cases M
 |some E=>have c:=h.leaf _ u e;have z:=h.jD _ b E rfl;dsimp only at c z;rw[alk c z.1 z.2.1]
def ae4(h:ga T)(L:kD T D)(S:kC (eR<|cZ T D) (T.map bR) s):∃x∈T.map bR,s x=0:=by
 have c:∀q∈T,(∀Y,(bR q,Y)∉eR (cZ T D))->∃x∈T.map bR,s x=0:=λq u U=>by rw[bA (bR q) (bw u) ?_];have i:=Fm.mp λz=>(S.c _ (bw u) z).elim λY m=>U Y m.1;rw[(Tb _).elim id λz=>(S.b _ (bw u) i z).elim λY m=>absurd m.1<|U Y]
 rcases L with L|⟨a,b,L,o,y⟩
 .rw[dm (List.exists_mem_of_length_pos<|wK Nat.zero_lt_two h.two) λq u=>ct (zH.mp u) λd M=>c q d λY m=>MZ h d (Gj.mp M)<|L▸m]
 .rw[aJ (aoo (a:=a) h.two<|(List.filter_sublist.map bR).nodup<|mz h) λq u B=>ct (zH.mp u) λd M=>c q d λY m=>?_]
  rw[L]at m;rw[(ej.mp<|((xm (by rw[j_ h,];rw[mz h]) (by rw[j_ h,];rw[o])).mem_iff).mp m).elim (MZ h d<|Gj.mp M) λU=>B (oZ<|iy.mp U).1]
def asf:∀w∈(am.take 3).map fv,∀i,65<=w.getD i 65/\w.getD i 65<=80:=λw H i=>by
 rw[aJ (bn.mp H) λn U P=>?_];subst P;rw[R0,hV];cases e:(dg 5 (n%16^5))[i]?with
 |none=>rw[#[d7 _,ζ]]
 |some Z=>rw[Hz (bq _<|ζ) Z<|uE e]
def apF(h:ga T):9<=(pW am T D).length/\(pW am T D).length<=10:=by
 unfold pW;simp only[cJ,aU,h.len];split
 .rw[#[d7 _,ζ]]
 .rw[#[by simp,by simp]]
section
variable{S:fM} {cs:cH}
def HF(u:q∈T)(h:(aZ S<|bR q).getD 0<9):(bR q,gK am q.1 q.2.1)∈dy am S T:=qm.mpr<|bA q u<|(if_pos h)▸.head _
set_option tactic.hygienic true in
def XG(hk:k∈(dy am S T).map (·.1)):k∈T.map bR/\(aZ S k).getD 0<9:=by
 rw[aJ (bn.mp hk) λp I P=>aJ (qm.mp I) λq u U=>?_];subst P;split at U
 .rename_i i
  rw[(iy.mp U)▸#[bw u,i]]
 .rw[nomatch U]
def Bh(h:ga T):((dy am S T).map (·.1)).Nodup:=XA.nodup<|mz h
variable(G:ga T) (C:CI (T.map bR) (fun k=>(aZ S k).getD 0) (sM am T) 9 cs)
include G C
theorem XH:cs.length=(dy am S T).length:=by
 have:=((FS C.d<|Bh G (am:=am) (S:=S)).mpr λj=>#[λU=>?_,λU=>(XG U).elim λa M=>O2<|C.h j a M]).length_eq
 .rwa[aU,aU]at this
 .rw[aJ (bn.mp U) λp I P=>P▸ek (C.k p I) λa M K=>aJ (bn.mp a) λq u e=>e▸bw (HF (am:=am) u<|e.symm▸M)]
theorem XE:∀p∈cs,aZ (dy am S T) p.1=some p.2:=λp I=>by rw[ek (C.k p I) λa M X=>aJ (bn.mp a) λq u e=>X▸e▸(wX G u)▸mJ (Bh G) (HF u<|e.symm▸M)]
set_option tactic.hygienic true in
theorem Bf(j:[70]∈T.map bR):aZ cs [70]=if(aZ S [70]).getD 0<9 then some (gK am 0 5)else none:=by
 split
 .rename_i U
  rw[fU G.hd λa b e=>(C.h _ j U).trans<|congrArg some ?_];have:=wX (am:=am) G (e▸.head _:(0,5,some a)∈T);rw[(by show nm 0 5=_;rw[vy ζ ζ<|ζ,];rfl:bR (0,5,some a)=[70])▸this]
 .rename_i U
  rw[DW λq=>aJ (bn.mp q) λp I e=>U<|e▸(C.k p I).2.1]
theorem XI(j:[70]∈T.map bR):js cs=j6 am S:=by
 unfold js j6;rw[Bf G C j▸?_];by_cases U:(aZ S [70]).getD 0<9
 .rw[if_pos U,if_pos U]
  rw[nU (aso am) λy R K O=>K▸congrArg PV.nI O]
 .rw[if_neg U,if_neg U]
end
def aeX(X:3<=am.length)(h:ga T)(L:kD T D)(E:sD T D)(s:a7.Perm a6)(a8:9<=a6.length/\a6.length<=10)(J:∀r∈a6,kB r)(d0:∀r∈a6,jZ r)(d1:∀r∈a6,qG r)(db:(a6.flatMap kF).Perm (eR<|cZ T D))(ds:∀x,x∈a6.flatMap mN↔x∈T.map bR)(dd:a6.flatMap ma=T.map λq=>(bR q,wq ((am.take 3).map fv) q)):∃k t,la (some 32) [] (fW am 0 a7 []) (k::t)/\t.length<=9000/\2<=(fW am 0 a7 []).length/\(fW am 0 a7 []).length<=9999/\ ∃o rest b cs rd,jl [] [] (k::t)=o::rest/\Nonempty (sA (o::rest) b cs rd)/\ ((not (b)))=decide (mx ((bY (cZ T D) 9).map (·.2))<9)/\ (∀ls,ls.length=9->jY (bY (cZ T D) 9) ls->rd=jB ls)/\ (cs.map (·.1)).Nodup/\((dy am (bY (cZ T D) 9) T).map (·.1)).Nodup/\cs.length=(dy am (bY (cZ T D) 9) T).length/\ (∀p∈cs,aZ (dy am (bY (cZ T D) 9) T) p.1=some p.2)/\ js cs=j6 am (bY (cZ T D) 9):=by
 have ac:=s.length_eq;cases a7 with
 |nil=>rw[(af7 a8 ac).elim]
 |cons o rest=>
 have c:∀r∈o::rest,r∈a6:=λr U=>s.mem_iff.mp U;have I:=λr U=>J r<|c r U;have bb:=λr U=>d1 r<|c r U;rw[fU (jT (bb o<|.head _).1) λk A bo=>?_];have bl:o++lT rest=k::(A++lT rest):=by rw[bo,];rfl
 have c1:=af9 a8 ac<|aod (am:=am) (k:=0) (jj:=[]) I;rw[Jm k (A++lT rest) (bl▸aoe am bb c1) ?_ (aog<|I o<|.head _) (b8 c1<|ζ) #[o,rest,?_]]
 .have c5:=arq λr U=>I r<|.tail _ U
  have M:=(I o<|.head _).1;rw[bo]at M;rw[cJ▸alm M c5 (af8 a8 ac)]
 rw[<-bl,aof bb];have O:(cZ T D).map (·.1)=T.map bR:=ash h;have bt:(cZ T D).length=9:=(aU (·.1)).symm.trans<|(congrArg gR O).trans<|(aU _).trans h.len;have B:=O▸aqo (O▸mz h) (U0 h L) bt;have W:gG ((o::rest).foldl gI []) (eR<|cZ T D) (T.map bR):=(ZP (o::rest)).perm ((s.flatMap_right kF).trans db) λx=>(s.flatMap_right mN).mem_iff.trans<|ds x
 have Q:bY (cZ T D) 9=(T.map bR).map λk=>(k,sN (cZ T D) 9 k):=by have U:=aon 0 (l:=bY (cZ T D) 9) (by simp only[lR,O];rw[mz h]);simp only[lR,O]at U;rw[U]
 have ca:=(s.flatMap_right ma).trans (by rw[dd,]);have ch:(((o::rest).flatMap ma).map (·.1)).Perm (T.map bR):=by have:=ca.map (·.1);rwa[bI]at this
 have c0:=ch.nodup_iff.mpr<|mz h;have da:=UK h X (λq u=>mJ c0<|ca.mem_iff.mpr<|bw u) (λq u Y m=>XQ h L u m) B;have ck:=ch.length_eq;simp only[aU,aU,h.len]at ck;have F:=aga bt<|XP<|ae8 h L;have b0:=((FS W.d<|mz h).mpr W.n).length_eq.trans<|(aU _).trans h.len;refine ct (Qy B W) λc3 c4=>cp (apS B W da (n:=9) (rd:=[]) rfl c3 c4 #[λ_ _ U=>absurd U<|qy _,(λ_ U=>(cQ U).elim),.nil] (uC.mpr λx _ U=>by simp at U).symm) λcs rd dt S du=>?_;have j:=(j_ h)▸E.f;rw[aJ (ae4 h L B) λz d2 d3=>fU (ZS B W d2 d3) λH R bs=>aa0 ((T.map bR).any λx=>decide<|¬sN (cZ T D) 9 x<9) cs rd rfl ⟨⟨λq u=>d0 q<|c q u,agd a8 ac,300,ζ,(b0▸(aU ..).symm:((o::rest).foldl gI []).length=9)▸ζ,ZR B W F b0,ZT B W F,(o::rest).flatMap ma,Uq (o::rest),c0,age ck,H,R,bs,bs▸dt,λy R e=>?_,λe=>?_⟩⟩ (ame.trans (by rw[Q,];rw[congrArg (λl=>decide<|mx l<9) (bI (f:=λk=>(k,sN (cZ T D) 9 k)) (g:=λx:!N×N=>x.2) (l:=T.map bR)).symm])) (λls dx dV=>du ls dx λK l e=>?_) S.d (Bh h) (XH h S) (XE h S)<|XI h S j]
 .rw[Bf h S j]at e
  split at e
  .injection e with e
   have c2:y∈gK am 0 5:=e▸.head _;rw[ek (Bi ζ ζ y c2) λC i ea=>#[C,i.1,i.2,λZ d=>?_,?_]]
   .rw[aJ (bn.mp<|c2) λa _ P=>?_]
    subst P;rw[x5 (Hz (w:=5) (bq _<|ζ) Z d)]
   .injection e with _ G
    rw[j8 _ _ G.symm]
  .rw[nn e]
 .rw[Bf h S j]at e
  split at e
  .injection e with e;cases e
  .rw[nn e]
 .have U:=dV K l e
  rw[nj,];rw[#[U.1.trans ?_,U.2]];rw[Q,List.filter_map,bI];show(((T.map bR).filter λx=>decide<|sN (cZ T D) 9 x=K).map id).Perm _;rw[r7,]
def aeY(X:3<=am.length)(i:am.length<=100)(b:T=gO am 9 0 [(0,5)])(a:D=nY am T):qk am T D:=by have h:=b▸arv am;have L:kD T D:=a▸Yr h am;have E:=ary h L;have s:=Yq h L;have Y:((am.take 3).map fv).length=3:=(aU _).trans<|r6.trans<|sk X;rw[#[X,i,b,a,h.len,E,s,aeX X h L E (anP am _) (apF h) (PL X E.ok s) (apE h Y L) (apH h Y asf L) (apD h Y L) (apG h Y L)<|apC h Y L]]
end
section
open PySem PySem.W PySem.W.X PySem.Calls PyProof.Rows
def abe:∀{ns:!Int} {vs as},ReadsAllW R G h vs (ofPys<|ns.map Gn) as->∃l:!(Int×N),vs=l.map zV:=by
 intro J;induction J with
 |nil=>intro vs as r;cases r;rw[#[[],rfl]]
 |cons n ns C=>
  intro vs as r;cases r with
  |cons w t=>
   obtain⟨l,rfl⟩:=C t;cases w with
   |int i D=>rw[#[(n,D)::l,rfl]]
def anJ:∀{xs},(∀d∈xs,WShape.has R d .int=true)->∃ns:!Int,xs=ofPys (ns.map Gn):=by
 intro J;induction J with
 |nil=>intro _;rw[#[[],rfl]]
 |cons d xs C=>intro U;obtain⟨i,rfl⟩:=hasW_int<|U d<|.head _;obtain⟨ns,rfl⟩:=C λd t=>U d<|.tail _ t;rw[#[i::ns,rfl]]
def aeZ{w:eI}{s₀ s:aN}(E:∀a o,T w.params a=some o->s.heap.get? a=some o)(c:∃o,s.heap.get? 1=some o)(j:s.heap.NoLimit){a ns:N}{l:!(Int×N)}(d:s.heap.get? a=some (aa #[l.map zV] ns))(i:l.length<=9000):d_ (aE pw w) callerA (PySem.call (.ref 913) [.ref a]) (λv P=>v=.bool true/\(∀b o,s.heap.get? b=some o->P.heap.get? b=some o)/\P.os=s.os/\P.gens=s.gens) (λJ J=>False) s:=by
 have B:bg #[w,w.params.followText "special-get-raises",w.params.followText "comprehension-iter-twice",w.params.followText "set-order"] (λa o=>s.heap.get? a=some o) [] s s:=#[#[E,λU O=>j.keeps O],#[aV,(λJ U=>nomatch U),.nil,(λJ U=>nomatch U),rfl,rfl,#[rfl,rfl,rfl],(λJ U=>(cQ U).elim),#[(λJ U=>nomatch U),(λJ U=>(cQ U).elim),.nil,(λJ U=>nomatch U)]]]
 have u:=(ari d i c<|aeY (am:=(l.take 9).map (λp=>m9 p.1)++[986906,112359,958717]) (by rw[cJ,];show 3<=_+3;rw[aj2]) (by rw[cJ,];show _+3<=100;rw[aj3 (by rw[aU,r6];lia)]) rfl rfl) [] s s callerA #[ζ,rfl,ζ,λl U=>by cases U;rfl]<|B;have e:(Wd.W #[w,w.params.followText "special-get-raises",w.params.followText "comprehension-iter-twice",w.params.followText "set-order"])=w:=(TI w);rw[e]at u;rw[wpAny_call<|jz u λr P L=>cp L λf h le H q=>?_];subst q;rw[#[rfl,λb o U=>H.rep.fr _ _<|le _ _ U,H.rep.rest.2.2,H.rep.rest.1]]
end
section
open PySem PySem.W PySem.W.X PySem.Calls PyProof.Rows
def ae2(h:lL.row.toRowW.pre.holds lL.row.toRowW.records {args:=[.list xs]}=true):xs.length<=63:=by
 have a:decide (63<(xs.length:Int))=false:=by
  cases e:decide (63<(xs.length:Int))with
  |false=>rfl
  |true=>
   have X:(WTm.not<|.lt (.lit<|.int 63)<|.len<|.arg 0).value lL.row.toRowW.records {args:=[.list xs]}=some (.bool<|(not (decide ((63:Int)<(xs.length:Int))))):=by wtm_val
   have:=condW_of ((holds_andW h).1) X;rw[e]at this;rw[oG this]
 have:=of_decide_eq_false a;lia
def aeW{h:ix}(n:h.Ns vr D)(g:∀a o,T P a=some o->h.get? a=some o):D Ct=some (.ref 913):=by
 rw[xq n λo k l m t U H=>?_];have:=dY<|m.symm.trans<|g 3 (o3 P) rfl;subst this;have e:nsFind k Ct=some (.ref 913):=by cases t;kernel_rfl
 rw[<-H,e]
def UG:WalkX qv tQ (λ_ _=>True) vE y5 lL.row.toRowW dL [] λf vs=>PySem.call f vs:=by
 intro T bt b0 O c5 W y a Y h S ch ca c4 c3 c1 c0 ck bb C n db J j bo c2 g M D;rw[ct (anI y) λR F=>?_];have E:=λa Y e=>j.keeps _ _<|R a Y e;rw[dm F λbs ac=>?_];have o:=Value.ref.inj<|dY<|(aeW W.T.g E).symm.trans bb;subst o;rw[ct (pre_splitW bo) λH I=>cp (hasAllW_cons H) λd r P a6 A=>?_];subst P;obtain rfl:=hasAllW_nil A;rw[aJ (hasW_list a6) λQ k L=>?_];subst k;rw[dm (anJ<|hasItemsW_at L) λs k=>?_];subst k;cases g with
 |@cons v d vs p J B w t=>
 cases t;rw[xq (readsW_list_inv w) λq vs Z m a8 G K=>?_];subst m;subst K;have u:=script_obj j a8;rw[dm (abe G) λl z=>?_];have b:b0.heap.get? q=some (aa #[l.map zV] 0):=by rw[u▸z▸?_];rfl
 have i:l.length<=9000:=by
  have:(ofPys<|s.map Gn).length=l.length:=by have e:=G.length;rw[z,aU]at e;rw[e.symm]
  rw[agV (ae2 I) this]
 rw[ul (aeZ (s₀:=bt) E #[bs,j.keeps _ _ ac] W.T.nolimit b i) (λv da #[X,c,bl,a7]=>?_) λ_ _ x=>x.elim];subst X;rw[#[.inl<|Jo _ (.bool true) [] rfl (λ_=>rfl) (.bool true) (postW_of rfl (by wtm_val) rfl) λ_=>#[.nil,(λ_ U=>(cQ U).elim)],.of_keep c,bl,.of_eq<|a7.trans C]]
end
end Mine
end
theorem PySem.Challenge.cw_oc0358_01_holds : PySem.Challenge.rw_oc0358_01.Holds :=
 holds_law Mine.asg λa=>holds_openX
  Mine.ae7 (λU U=>trivial) (λU U U U U=>trivial) Mine.Z1 Mine.Z4 Mine.Z2 (λU U=>recFacts_nil rfl) rfl a Mine.Z3 Mine.Z0 #[[.list [.int 3,.int 1]],by decide+kernel,by decide+kernel] Mine.UG

