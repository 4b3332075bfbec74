import PyProof.Rows.All
import Wide.All
import OpenK.AllK
import Wide.FinOn
import Lean
import PySem.Challenge.RW_oc0358_01
set_option Elab.async false
set_option linter.all false
set_option tactic.hygienic false
set_option genInjectivity false
set_option genSizeOf false
set_option genCtorIdx false
set_option genSizeOfSpec false
set_option maxRecDepth 100000
open Int renaming ofNat->ad,natCast_nonneg->jy,ofNat_lt->jz,ofNat_le->m8,le_trans->qm,ofNat_eq_natCast->qn,ofNat_sub->r6,not_lt->uG,add_comm->wH,add_zero->zE,le_of_eq->zF,lt_of_lt_of_le->Fy,negSucc->Fz,not_le->FA,toNat_natCast->FB,eq_ofNat_of_zero_le->SB,fdiv_eq_ediv_of_nonneg->SC,fmod_eq_emod_of_nonneg->SE,le_sub_right_of_add_le->SF,max_eq_right->SG,sub_le_self->SI
open PySem renaming Value->af,Str->aA,model->aE,Addr->aH,Result->aL,Shared->aN,wpAny_bind->aT,wpOwn->aW,Env->aX,Code->bj,Sem->bk,DictEntry->bv,wpAny_pure->bK,Stmt->bL,entryFor_of_tree->cB,Around->dX,wpAny->ej,sizeLine->eG,Params->eI,World->eJ,Builtin->fM,ret->gx,codeAny->gL,wpOwn_bind->hV,rawInt->iq,wpAny_holding->iy,Heap->iz,slicePick->iU,wpAny_field->jv,codeAny_mono->jE,SetTable->j9,execs->kg,Args->kY,mkInt->lL,wpAny_listItems->mW,wpOwn_mono->mX,wpOwn_of_wpAny->mY,denote->nU,treeTable->oI,wpAny_rule->oJ,wpAny_typeOf->oK,intKind->pC,richCompare->pY,wpAny_setField->qd,Program->qG,standAt->rP,strKind->rR,Thread->sL,holding->tB,noteFrame->uc,wpAny_mono->ux,NameKind->uM,importedModules->vd,intItems->vh,mainGlobals->vz,seqIndex?->we,truthy->wk,wpAny_dictEntries->wA,wpAny_updateSeq->wD,compareOp->xl,dictGet->xq,leaving->x8,mkBytes->yj,sysModules->y6,wpAny_call_entry->zg,wpAny_dictEpoch->zi,wpAny_newObj_type->zj,wpAny_of_eq->zk,wpAny_pyHash_str->zl,wpAny_seqItems->zm,ExceptHandler->zA,FuncData->zC,codeAny_builtin->AU,code_inj->AX,entryFor->By,fenceModules?->BK,wpAny_standAt->Fd,wpAny_truthy_bool->Fe,wpAny_typeNameOfWhole_keyiter->Ff,wpAny_typeNameOfWhole_valiter->Fg,Comprehension->Fq,markedBehindIn_of_false->MU,plainId_quiet->Pd,sliceBounds->Qu,sliceRange_one->Qz,theTreesLotGoes->Ry,wpAny_isInstance->R7,wpAny_isOneOf_valiter->R8,wpAny_letGo->R9,wpAny_listPart->R_,wpAny_mkInt->Sa,wpAny_updateDictKeys->Sc,codeAny_call_builtin->Vh,wpAny_isOneOf_keyiter->asx,wpAny_listSubscript_int->asz,wpAny_notOrdered_dict->asA
open Array renaming mk->ar,ext'->h_,getElem?_eq_some_iff->wG,eraseIdxIfInBounds->zo,getElem?_eq_getElem->zp,findIdx?_eq_none_iff->Fj,toList->Fk,all_toList->Sj,empty_append->Sk,findIdx?_eq_some_iff_getElem->Sm,getElem?_toList->So,getElem_modify->Sp
open PySem.Value renaming ref->aF,type->aI,int->ii,none->i9,str->qK,isInt->AD,isStrOf->TP
open List renaming length_map->aU,mem_cons->aY,map_append->bf,mem_map->bn,mem_map_of_mem->bw,map_map->bI,append_nil->bQ,map_cons->bW,append_assoc->b4,length_append->cv,not_mem_nil->cQ,nodup_cons->c_,cons_ne_nil->dl,length_cons->dN,mem_append_right->dY,mem_append->ek,getElem?_eq_getElem->eH,getElem?_map->fj,mem_append_left->ga,length->gT,getD_eq_getElem?_getD->ic,mem_singleton->iA,exists_cons_of_ne_nil->jY,flatMap_cons->jZ,nodup_append->j3,count_append->la,length_nil->ld,sum_cons->lg,mem_reverse->l5,take_succ_eq_append_getElem->l6,filter_cons_of_pos->ng,getElem_mem->nh,length_pos_iff->ni,map_reverse->nj,filter_cons_of_neg->oO,getElem?_append_right->oP,map_congr_left->oQ,map->qr,mem_flatMap->qt,nil_append->qx,pairwise_cons->qy,take_of_length_le->qz,all_eq_true->r_,length_take->sb,map_id->sf,map_nil->sg,map_take->sj,perm_append_comm->sk,range->sq,countP_eq_zero->uI,find?_cons->uJ,mem_of_getElem?->uK,reverse_cons->uL,countP_cons->wI,eq_nil_of_length_eq_zero->wJ,not_lt->wK,perm_iff_count->wL,perm_middle->wM,replicate->wN,take_length->wP,Perm->zJ,drop->zK,forIn_cons->zL,mem_filter->zM,all_map->FF,append_of_mem->FH,count_cons->FI,count_cons_of_ne->FJ,count_cons_self->FK,count_pos_iff->FM,count_singleton->FN,drop_eq_nil_iff->FO,filter_cons->FP,flatMap_append->FQ,flatMap_map->FR,getElem?_eq_none->FS,headD_cons->FT,length_filter_le->FU,length_take_le->FV,length_take_le'->FW,map_eq_nil_iff->FX,mem_iff_getElem->FY,perm_ext_iff_of_nodup->FZ,take_zero->F5,cons_append->SS,countP_congr->ST,countP_pos_iff->SU,count_eq_zero->SV,dropWhile_cons->SW,dropWhile_sublist->SX,drop_eq_getElem_cons->SY,filter_append->SZ,filter_eq_nil_iff->S0,find?_eq_none->S1,find?_some->S4,findIdx?_cons->S5,foldl_cons->S6,getElem?_append_left->S7,getElem?_eq_none_iff->S8,getElem_map->S9,length_drop->S_,length_reverse->Ta,mem_of_find?_eq_some->Tb,mem_range->Tc,pairwise_singleton->Td,sublist_cons_self->Te,takeWhile_cons->Tf,take_append_drop->Tg
open Nat renaming sub_add_cancel->bh,mod_lt->bq,le_trans->bT,div_add_mod->cr,zero_le->dm,le_refl->d8,beq->eY,le_of_lt->iK,lt_of_le_of_lt->jA,ne_of_gt->kB,le_of_eq->lj,le_succ_of_le->lk,ne_of_lt->ll,sub_le->lm,not_le->l8,not_lt->l_,eq_of_beq_eq_true->nv,le_of_ble_eq_true->nz,lt_irrefl->nA,succ_le_succ->nB,zero_add->nC,add_le_add->oU,add_le_add_left->oV,add_le_add_right->oW,ble->oX,le_add_right->oY,le_succ->oZ,lt_succ_of_le->qA,not_lt_zero->qB,add_comm->sr,add_sub_cancel'->su,lt_or_ge->sw,lt_trans->sx,min_eq_left->sy,pow_pos->sA,succ_pos->sB,le_add_left->uN,add_assoc->wQ,le_of_lt_succ->wR,lt_of_lt_of_le->wS,blt->zP,le_of_succ_le_succ->zQ,lt_succ_of_lt->zR,lt_succ_self->zS,lt_trichotomy->zT,max->zU,mul_le_mul_left->zW,not_succ_le_zero->zX,pos_of_ne_zero->zY,sub_pos_of_lt->zZ,toUInt8->z6,add_right_comm->F_,add_sub_cancel_left->Ga,div_div_eq_div_mul->Gb,div_eq_of_lt->Gc,div_lt_of_lt_mul->Gd,le_add_right_of_le->Ge,le_antisymm->Gf,le_of_not_lt->Gg,lt_of_lt_of_eq->Gh,mod_eq_of_lt->Gi,mul_comm->Gj,pow_add->Gk,sub_sub->Gl,zero_mul->Gm,add_pos_left->Ti,eq_zero_or_pos->Tj,le_of_sub_eq_zero->Tk,lt_of_succ_lt->Tl,lt_succ_iff_lt_or_eq->Tm,max_eq_left->Tn,mul_right_comm->To,ne_zero_of_lt->Tp,not_lt_of_le->Tq,pow_le_pow_right->Ts,strongRecOn->Tt,succ_lt_succ->Tu
open Option.some renaming inj->dZ
open PySem.W.X renaming postE->er,postC->mP,y_code->uz
open PySem.Sem renaming wp->eZ,wp_mono->iB,wp_bind'->jC,pure->pc,wp_onRaise->Az,wp_cmd_standAt->TK
open False renaming elim->gS
open PySem.Heap renaming lt_size->iJ,get?_push_of_some->k_,get?_update_other->oN,get?_update_self->qj,get?_push_size->r5,size_push->zD
open PySem.Obj renaming mapFields->iY,mapSeq->sC,mapDictKeys->Gn
open PySem.Str renaming mk->i8
open PySem.Builtin.Str renaming strSliceIndices->jX,occurrences->zv,strSlot->Fo,tooLong->Fp,glued->Sx
open PySem.W.SL renaming s9222952809800978799x4->j8,s2766695959194262286x5->nG
open Bool renaming and_eq_true->ky,false_ne_true->kZ,noConfusion->oL,eq_iff_iff->qg,and_eq_true_iff->rW,false_eq_true->Fl,not_eq_true'->Sq
open PySem.Data renaming set->m6,fields->Ft
open PySem.W renaming opening->ox,stepT->p9,SharedT->sJ,readsOut->Ep
open Prod.mk renaming inj->o8,injEq->TE
open UInt8 renaming ofNat->pf,toNat_ofNat'->TO
open PySem.AutoSeq1 renaming wpAny_loadPart'->qf
open Iff renaming rfl->qk
open Nat.succ renaming inj->qC
open Prod renaming snd->sG,fst->Ab,ext_iff->Gu
open PySem.Builtin renaming divisionGoesByPylong->uD,roomForPylong->zw
open Ne renaming symm->uO
open Option renaming isSome_iff_exists->uP,map->wU,map_eq_some_iff->z7,isNone_iff_eq_none->Gp
open PySem.Builtin.List renaming listTooLong->zu,listFitsIndex->Fm,listSubscript?->Fn,listItems->Ss,listSameRef->Su
open ForInStep renaming yield->zB
open PyProof.Rows renaming risingS->Ac,seqObj->Ad,StrsAre->Gx,arrOf->TF,ltCps_eq->TG
open Decidable renaming not_not->Fu
open PySem.F renaming slot_list_eq->Fv
open List.Perm renaming trans->FE,swap->SP
open PySem.PyData renaming int->Gw
open Std.Legacy.Range renaming forIn_eq_forIn_range'->GQ,mk->GR,size->TM
open PySem.Around renaming under_plainId->Si
open PySem.Builtin.Dict renaming showsAll->Sr
open PySem.Builtin.SmallTypes renaming stopIteration->Sw
open PySem.Heap.SameBut renaming update->SA
open Int.ofNat renaming inj->SH
open List.cons renaming inj->SQ,injEq->SR
open PySem.SetTable renaming fresh->TL
open PySem.Builtin.Frozenset renaming oneOther->asT
open PySem PySem.W PySem.W.X PySem.Calls
local macro_rules (kind:=Lean.Parser.Tactic.rwSeq)
|s=>if s[2][1].getNumArgs==1&&s[2][1][0][0].isNone&&s[3].isNone then return .node .none `Lean.Parser.Tactic.refine #[s[0],s[2][1][0][1]] else Lean.Macro.throwUnsupported
local macro_rules (kind:=PySem.W.tacticLk)
|s=>return s.setKind `tacticKernel_rfl
local macro_rules (kind:=term!_)
|s=>return Lean.Syntax.mkApp (Lean.mkIdent `List) #[⟨s[1]⟩]
local macro_rules (kind:=ident)
|s=>if s.getId== `N then return Lean.mkIdent `Nat else Lean.Macro.throwUnsupported
local macro_rules (kind:=Lean.Parser.Command.declaration)
|s=>do
 if s[0].getArgs.all (·.getNumArgs==0)&&(s[1].isOfKind `Lean.Parser.Command.definition||s[1].isOfKind `Lean.Parser.Command.abbrev) then return s.setArg 0 (s[0].setArg 4 (.node .none `null #[.node .none `Lean.Parser.Command.noncomputable #[s]]))
 Lean.Macro.throwUnsupported
local macro_rules (kind:=Lean.Parser.Term.quotedName)
|s=>return Lean.Syntax.mkApp (Lean.mkIdent `kS) #[Lean.quote ((s[0].isNameLit?.get!.toString false).toList.map (·.toNat))]
local macro_rules (kind:=«term#[_,]»)
|s=>return s.setKind ``Lean.Parser.Term.anonymousCtor
noncomputable section
namespace Mine
section
theorem ab:True:=⟨⟩
theorem ζ{p:Prop}[Decidable p](h:decide p=true:=by exact Eq.refl true):p:=of_decide_eq_true h
open PySem PySem.W PySem.W.X PySem.Calls PyProof.Rows
abbrev fk:OpenLaw:=PySem.Challenge.rw_oc0358_01
abbrev qP:!bL:=fk.prog.main.body
def dI{a b:Bool}(h:a=true)(k:b=true:=by lk):(a&&b)=true:=rW.mpr #[h,k]
def asL:Ep fk.prog qP "vars"=false:=(congrFun (congrFun (congrFun PySem.W.Fast.te13343964577679436407 _) _) _).trans<|by lk
def asM:Ep fk.prog qP "dir"=false:=(congrFun (congrFun (congrFun PySem.W.Fast.te13343964577679436407 _) _) _).trans<|by lk
def asN:Ep fk.prog qP "locals"=false:=(congrFun (congrFun (congrFun PySem.W.Fast.te13343964577679436407 _) _) _).trans<|by lk
def asE:(["vars","dir","locals"]:!aA).filter (Ep fk.prog qP)=[]:=by rw[FP,asL,FP,asM,FP,asN];rfl
def asP:noRoadLSs {strict:= (not ((vd qP).all cThrough.contains)),foot:=none,bare:=[]} qP=true:=(congrFun (congrFun PySem.W.Fast.te8326940854005059898 _) _).trans<|by lk
def asO:namesResolve fk.prog=true:=(congrFun PySem.W.Fast.te8377067652309620493 _).trans<|by lk
def asI:namesMeet fk.prog qP (λU n=>attrL n)=true:=(congrFun (congrFun (congrFun PySem.W.Fast.te17119622794617984870 _) _) _).trans<|by lk
def asJ:looksOpen fk.prog=true:=dI (dI (dI<|dI (by lk) asO)<|asE.symm▸asP) asI
def asK:fk.row.partSaid=true:=dI<|dI<|dI<|dI<|dI<|dI<|dI<|dI<|dI<|dI<|dI<|dI<|dI<|asJ
def asR:fk.row.wellSaid=true:=dI<|dI asK
def asF:noClassBlock fk.prog fk.footing=true:=(congrFun (congrFun PySem.W.Fast.te8179353310426384613 _) _).trans<|by lk
def asQ:noRoadLSs {strict:=true,foot:=some fk.bound',writes:=fk.writes,may:=fk.may} fk.footing=true:=(congrFun (congrFun PySem.W.Fast.te8326940854005059898 _) _).trans<|by lk
def asG:defStands fk.about fk.above=true:=(congrFun (congrFun PySem.W.Fast.te9558739934217749035 _) _).trans<|by lk
def asH:fk.namesIt=true:=(congrFun PySem.W.Fast.te16286561074155671207 _).trans<|by lk
def Se(f)(h:PySem.W.Fast.tw17119622794617984870 fk.prog fk.footing f=true):namesMeet fk.prog fk.footing f=true:=(congrFun (congrFun (congrFun PySem.W.Fast.te17119622794617984870 _) _) f).trans h
def asD:namesMeet fk.prog fk.above (λU n=> (not (fk.own.contains n)))=true:=(congrFun (congrFun (congrFun PySem.W.Fast.te17119622794617984870 _) _) _).trans<|by lk
def aso:PySem.Challenge.rw_oc0358_01.wellSaid=true:=dI (dI (dI<|dI<|dI<|dI (dI<|dI<|dI<|dI<|dI (dI (dI (dI<|dI<|dI (dI<|dI<|asR) asF) asQ) asG) asH)<|Se _<|by lk) asD)<|Se _<|by lk
end
inductive LX where
 |v (i:N)
 |n (k:N)
 |p (a b:LX)
 |l (k:N) (a:LX)
 |r (a:LX) (k:N)
def C9:!N->N->N
 |[],_=>0
 |a::_,0=>a
 |_::l,i+1=>C9 l i
def LX.d(w:!N):LX->N
 |.v i=>C9 w i
 |.n j=>j
 |.p a b=>a.d w+b.d w
 |.l j a=>j*a.d w
 |.r a j=>a.d w*j
def vy:N->!N
 |0=>[1]
 |i+1=>0::vy i
def lJ:!N->!N->!N
 |[],b=>b
 |x::a,b=>match b with
  |[]=>x::a
  |y::b=>(x+y)::lJ a b
def lK(k:N):!N->!N
 |[]=>[]
 |x::a=>(k*x)::lK k a
def x_:!N->!N->Bool
 |[],_=>true
 |x::a,b=>match b with
  |[]=>eY x 0&&x_ a []
  |y::b=>oX x y&&x_ a b
def LX.c:LX->!N
 |.v i=>0::vy i
 |.n j=>[j]
 |.p a b=>lJ a.c b.c
 |.l j a=>lK j a.c
 |.r a j=>lK j a.c
def gF:!N->!N->N
 |[],_=>0
 |x::a,w=>match w with
  |[]=>0
  |y::w=>x*y+gF a w
def Lp:∀i w,gF (vy i) w=C9 w i
 |0,[]=>rfl
 |0,y::w=>(Nat.one_mul y)
 |i+1,[]=>rfl
 |i+1,y::w=>((congrArg (·+gF (vy i) w)<|Gm y).trans<|nC _).trans<|Lp i w
def rn:∀a b w,gF (lJ a b) w=gF a w+gF b w
 |[],b,w=>(nC _).symm
 |x::a,[],w=>rfl
 |x::a,y::b,[]=>rfl
 |x::a,y::b,z::w=>by show(x+y)*z+gF (lJ a b) w=_;rw[rn a b w,Nat.add_mul];rw[Nat.add_add_add_comm ..]
def rq(k:N):∀a w,gF (lK k a) w=k*gF a w
 |[],w=>rfl
 |x::a,[]=>rfl
 |x::a,z::w=>by show k*x*z+gF (lK k a) w=k*(x*z+gF a w);rw[rq k a w,Nat.mul_add,Nat.mul_assoc]
def C6:∀a b w,x_ a b=true->gF a w<=gF b w
 |[],_,_,_=>dm _
 |x::a,b,[],_=>dm _
 |x::a,[],z::w,h=>by have S:=rW.mp h;have e:x=0:=nv S.1;subst e;show 0*z+gF a w<=0;rw[Gm,nC];rw[C6 a [] w S.2]
 |x::a,y::b,z::w,h=>by have S:=rW.mp h;rw[oU (Nat.mul_le_mul_right z<|nz S.1)<|C6 a b w S.2]
def LX.dc(w:!N):∀e:LX,e.d w=gF e.c (1::w)
 |.v i=>(((congrArg (·+gF (vy i) w)<|Gm 1).trans<|nC _).trans<|Lp i w).symm
 |.n j=>(Nat.mul_one j).symm
 |.p a b=>(congr (congrArg HAdd.hAdd<|LX.dc w a)<|LX.dc w b).trans (rn a.c b.c _).symm
 |.l j a=>(congrArg (j*·)<|LX.dc w a).trans (rq j a.c _).symm
 |.r a j=>((congrArg (·*j)<|LX.dc w a).trans<|Gj _ _).trans (rq j a.c _).symm
inductive LK where
 |le (a b:LX)
 |eq (a b:LX)
 |vE (a b:LX)
 |and (x y:LK)
 |ff
def LK.d(w:!N):LK->Prop
 |.le a b=>a.d w<=b.d w
 |.eq a b=>a.d w=b.d w
 |.vE a b=>¬a.d w<=b.d w
 |.and x y=>x.d w/\y.d w
 |.ff=>False
abbrev LP:Type:=List<|LX×LX
def LK.p:LK->LP
 |.le a b=>[(a,b)]
 |.eq a b=>[(a,b),(b,a)]
 |.vE a b=>[(.p b<|.n 1,a)]
 |.and x y=>x.p++y.p
 |.ff=>[(.n 1,.n 0)]
def LA(w:!N):LP->Prop
 |[]=>True
 |p::l=>p.1.d w<=p.2.d w/\LA w l
def rm{w:!N}{m:LP}:∀{l:LP},LA w (l++m)↔LA w l/\LA w m
 |[]=>#[λU=>#[ab,U],λU=>U.2]
 |p::l=>#[λU=>#[#[U.1,(rm.mp U.2).1],(rm.mp U.2).2],λU=>#[U.1.1,rm.mpr #[U.1.2,U.2]]]
def LK.ok(w:!N):∀k:LK,k.d w↔LA w k.p
 |.le a b=>#[λU=>#[U,ab],λU=>U.1]
 |.eq a b=>#[λU=>#[lj U,lj U.symm,ab],λU=>Gf U.1 U.2.1]
 |.vE a b=>#[λU=>#[l8.mp U,ab],λU=>l8.mpr U.1]
 |.and x y=>#[λU=>rm.mpr #[(LK.ok w x).mp U.1,(LK.ok w y).mp U.2],λU=>#[(LK.ok w x).mpr (rm.mp U).1,(LK.ok w y).mpr (rm.mp U).2]]
 |.ff=>#[λU=>U.elim,λU=>nomatch U.1]
def rA:LP->N->!N×!N×N
 |[],Z=>([],[],Z)
 |p::l,Z=>let z:=rA l<|Z/1024;(lJ (lK (Z%1024) p.1.c) z.1,lJ (lK (Z%1024) p.2.c) z.2.1,z.2.2)
def C_(g:LP):LP->N->Bool
 |[],_=>true
 |p::l,c=>let z:=rA g<|c/1024;oX 1 (c%1024)&&(x_ (lJ (lK (c%1024) p.1.c) z.2.1) (lJ (lK (c%1024) p.2.c)<|lJ [c%1024-1] z.1)&&C_ g l z.2.2)
def MO{w:!N}:∀{l:LP} {c:N},LA w l->gF (rA l c).1 (1::w)<=gF (rA l c).2.1 (1::w)
 |[],_,_=>d8 _
 |p::l,c,h=>by show gF (lJ (lK (c%1024) p.1.c) (rA l<|c/1024).1) (1::w)<=gF (lJ (lK (c%1024) p.2.c) (rA l<|c/1024).2.1) (1::w);rw[rn,rn,rq,rq,<-LX.dc,<-LX.dc];rw[oU (zW _ h.1)<|MO h.2]
def afj{m A B L R:N}(H:1<=m)(h:L<=R)(e:m*A+R<=m*B+(m-1+L)):A<=B:=Gg λq=>l8.mpr (Nat.sub_lt H (by decide:0<1))<|Nat.le_of_add_le_add_right<|Nat.le_of_add_le_add_left<|wQ (m*B) m R▸bT (oW (Nat.mul_succ m B▸zW m q) R) (bT e<|oV (oV h _) _)
def Ly{w:!N}{g:LP}(a:LA w g):∀{l:LP} {c:N},C_ g l c=true->LA w l
 |[],_,_=>trivial
 |p::l,c,h=>by have b:=rW.mp h;have M:=rW.mp b.2;have z:=C6 _ _ (1::w) M.1;rw[rn,rn,rn,rq,rq,<-LX.dc,<-LX.dc]at z;rw[#[afj (nz b.1) (MO a)<|bT z<|lj ?_,Ly a M.2]];show _=_+(c%1024-1+gF (rA g<|c/1024).1 (1::w));show _+((c%1024-1)*1+0+_)=_;rw[Nat.mul_one,Nat.add_zero]
def ji:N->N->!LX->!LK->!LK
 |0,_,_,t=>t
 |f+1,n,k,t=>match eY n 0 with
  |true=>t
  |false=>match oX 24 (n%64)with
   |true=>ji f (n/64) (.n (n%64-24)::k) t
   |false=>match oX 12 (n%64)with
    |false=>ji f (n/64) (.v (n%64)::k) t
    |true=>match n%64-12 with
     |9=>ji f (n/64/64/64^(n/64%64)) (.n (n/64/64%64^(n/64%64))::k) t
     |7=>match t with
      |y::x::t=>ji f (n/64) k (.and x y::t)
      |_=>[]
     |8=>ji f (n/64) k (.ff::t)
     |Y=>match k with
      |b::a::k=>match Y with
       |0=>ji f (n/64) (.p a b::k) t
       |1=>match a with
        |.n j=>ji f (n/64) (.l j b::k) t
        |_=>[]
       |2=>ji f (n/64) k (.le a b::t)
       |3=>ji f (n/64) k (.le (.p a<|.n 1) b::t)
       |4=>ji f (n/64) k (.eq a b::t)
       |5=>ji f (n/64) k (.vE a b::t)
       |6=>ji f (n/64) k (.vE (.p a<|.n 1) b::t)
       |_=>match b with
        |.n j=>ji f (n/64) (.r a j::k) t
        |_=>[]
      |_=>[]
def Da(w:!N):!LK->Prop->Prop
 |[],c=>c
 |U::hs,c=>Da w hs<|U.d w->c
def C5:!LK->LP
 |[]=>[]
 |U::hs=>C5 hs++U.p
def Lo(w:!N):!LK->Prop
 |[]=>True
 |z::hs=>Da w hs<|z.d w
def Ln:!LK->N->Bool
 |[],_=>true
 |z::hs,c=>C_ (C5 hs) z.p c
def LC{w:!N}:∀{hs:!LK} {P:Prop},(LA w (C5 hs)->P)->Da w hs P
 |[],_,U=>U ab
 |j::hs,P,U=>LC (hs:=hs) λq z=>U<|rm.mpr #[q,(LK.ok w j).mp z]
def afl(w:!N)(c:N):∀{t:!LK},Ln t c=true->Lo w t
 |[],_=>trivial
 |z::hs,e=>LC λq=>(LK.ok w z).mpr<|Ly q e
def ai(w:!N)(n c:N)(e:Ln (ji 999 n [] []) c=true:=by rfl):Lo w (ji 999 n [] []):=afl w c e
section
variable{a b c d e f g h i j k l m n:N}
def hI:a<=1000->a<=10000:=ai [a] 0xe09c40354038fa02540 0x401
def kn:a<b->b≠0:=ai [a,b] 0x1441804f040 0x100401
def on:a<b->b<=5->16*a+b<16^10:=ai [a,b] 0xf40000000000754c04d02839d04f040 0x1104001
def tZ:a<=10000->a<=16777216:=ai [a] 0x38100000015500e09c403540 0x401
def pK:a+(b+1)=c->a+1+b=c:=ai [a,b,c] 0x40230131901008c319040 0x4000040000401
def pL:0<2^63:=ai [] 0xf20000000000000000b558 0x1
def rz:a+(b+1)=c->a<c:=ai [a,b,c] 0x3c201008c319040 0x401
def rv(c:a<b*16):a/16<b:=ai [a,b,(a/16),(a%16)] 0x3c108fa03400303342a0f5a8040 0x10001405140 rfl c (cr _ 16)<|bq (y:=16) a<|ζ
def asV:a+1+1+1+1+1+1+1+1+1+1<10->False:=ai [a] 0x50f88c64c64c64c64c64c64c64c64c64c640 0x401
def rx:a<100->a+1<2^63:=ai [a] 0xf20000000000000000b54c6403c1902540 0x401
def ry:a<=9000->a<=16777216:=ai [a] 0x38100000015500e08ca03540 0x401
def vw:a+(b+1)<=1000->c=a->c<=1000:=ai [a,b,c] 0xe3e809509000238fa0254c319040 0x100401
def vx:a<16^0->a=0:=ai [a] 0x41800f640 0x100401
def yd:65<=a/\a<=80->a<128:=ai [a] 0xf080095013381402540380041095 0x100001
def ye:a+(b+1)<=1000->a+(0+1)+b<=1000:=ai [a,b] 0x38fa0254c04c31960038fa0254c319040 0x401
def LV:a<=5->b<a->16*b+a<16^10:=ai [a,b] 0xf40000000000754c00d0683c004e740 0x1004401
def LY:a<b->b<=5->c<b->16*a+c<16^10:=ai [a,b,c] 0x3d00000000001d5302340a0f04239d04f040 0x41104001
def Df:a<b->b<=5->a<=5:=ai [a,b] 0xe74039d04f040 0x100401
def yf:a+b<=10000->a<=10000:=ai [a,b] 0x3827100d500e09c40354c040 0x401
def LZ:1<a+4:=ai [a] 0xf31c019 0x1
def L0:a<=b+6->a<=b+6:=ai [a,b] 0x38c78100e31e040 0x401
def L5:a<=b+4->a<=b+6:=ai [a,b] 0x38c78100e31c040 0x401
def yh:a<b->0<b:=ai [a,b] 0x3c160f040 0x401
def Dh:0+(a+1)<10->a+1<10:=ai [a] 0x3e231900f88c319018 0x401
def Dj:a<=60->b=a->b<=1000:=ai [a,b] 0x38fa0254140004ef01540 0x100401
def Dk:a+(b+1)=9->a+1+b=9:=ai [a,b] 0x42130131901084c319040 0x4000040000401
def Dl:a+(b+1)<=1000->a+1+b<=1000:=ai [a,b] 0x38fa0254c04c64038fa0254c319040 0x401
def L9:a<=9000->a<=10000:=ai [a] 0x3827100d500e08ca03540 0x401
def Do:a+(b+1)<=9000->a<=9000:=ai [a,b] 0x3823280d500e08ca0354c319040 0x401
def Dp:a+(b+1)<=4000->c=a->c<=16777216:=ai [a,b,c] 0x3810000001550900023be80254c319040 0x100401
def Dq:a<=4001->a<=16777216:=ai [a] 0xe0400000055403be842540 0x401
def Dr:a<=5->b<a->b<=5:=ai [a,b] 0xe7413c004e740 0x100401
def Ds:a+(b+1)<10->b+1<10:=ai [a,b] 0x3e231904f88c319040 0x401
def Dt:a<=9000->b<=a->b<=10000:=ai [a,b] 0xe09c40354138004e08ca03540 0x100401
def as2:a+1+1+1+1+1+1+1+1+1+1+1+1+1+1+1+1<16->False:=ai [a] 0x50fa0c64c64c64c64c64c64c64c64c64c64c64c64c64c64c64c640 0x401
def L_:a<=999->a<=16777213:=ai [a] 0x3bfffff4454038f9c2540 0x401
def Ma:a<=999->1+(a+1)<=16777216:=ai [a] 0xe04000000554c31901938f9c2540 0x401
def Mb:a<=1000->a<=16777216:=ai [a] 0xe04000000554038fa02540 0x401
def Mc:a+b<=9000->a<=9000:=ai [a,b] 0x3823280d500e08ca0354c040 0x401
def Md(b:a<2^60):a/16<2^60:=ai [a,(a/16),(a%16)] 0x3c10000000000000002d504fa02400302341a0f04000000000000000b540 0x100410 rfl b (cr _ 16)<|bq (y:=16) a<|ζ
def Me:a<=6->a<=100:=ai [a] 0xe06409500e780 0x401
def ali:a<3->a<2^63:=ai [a] 0x3c80000000000000002d500f6c0 0x401
def Mf:a<=60->a<=1000:=ai [a] 0xe3e809500ef01540 0x401
def Mg:a<=1000->b=a->b<=16777216:=ai [a,b] 0x38100000015505000138fa02540 0x100401
def Mh:a+(b+1)<=1000->a<=1000:=ai [a,b] 0x38fa0254038fa0254c319040 0x401
def Mi:a+0=b->a=b:=ai [a,b] 0x40101004c600 0x4000040000401
def Mj:a+0=b->b<=a:=ai [a,b] 0x38005004c600 0x100001
def Ml:a<=50->a<=60:=ai [a] 0x3bc05500ec81540 0x401
def Mm:a<=100->a<=1000:=ai [a] 0x38fa02540381902540 0x401
def Mp:a<9->b=a->b<9:=ai [a,b] 0xf84140004f840 0x100401
def Mr:a=b+1->0<a:=ai [a,b] 0x3c0610319040 0x100001
def Mt:a+100*(b+1)<=9000->a+100<=9000:=ai [a,b] 0x3823280d53019025403823280d530d319041902540 0x401
def alj:a<16^5->a<2^60:=ai [a] 0xf04000000000000000b5403c4000004540 0x401
def alk:a<=5->a<=100:=ai [a] 0xe06409500e740 0x401
def Mu:a<=900->1+a<=1000:=ai [a] 0x38fa0254c01938e102540 0x401
def Mv:a+2<3*b->c<=2->a+c<3*b:=ai [a,b,c] 0xf3416cc08039a08f3416cc680 0x100401
def Mw:a+b+c=a+c+b:=ai [a,b,c] 0x1030130200c08c040 0x401
def My:a+1<=9990->a<=9998:=ai [a] 0x38270e0d500e09c18354c640 0x401
def Mz:a+1<=9990->a+1<=9998:=ai [a] 0x38270e0d531900e09c18354c640 0x401
def MA:a<=9->b=a->b+3<=16777216:=ai [a,b] 0xe04000000554c6c140004e840 0x100401
def MB:a+(b+1)<10->b+1<=4000:=ai [a,b] 0xefa009531904f88c319040 0x401
def alm(c:a<=5):a-b<=5:=ai [a,(a-b)] 0xe74138004e740 0x100401 rfl c<|lm a b
def MD:a+(b+1)=9->a<9:=ai [a,b] 0x3e101084c319040 0x401
def ME:a+(b+1)=a+1+b:=ai [a,b] 0x1030131900c319040 0x401
def alo:a<=100->b<a->b<2^63:=ai [a,b] 0x3c80000000000000002d504f001381902540 0x100401
def alq:a<=100->b=a->b<=16777216:=ai [a,b] 0x381000000155050001381902540 0x100401
def MF:0<a->16*b+a≠0:=ai [a,b] 0x14418300341a0f018 0x100401
def MG(c:0<a)(M:b<=a-1):b<a:=ai [a,b,(a-1)] 0x3c005000c64238204f018 0x40100001 rfl c M<|bh<|ai [a,b,(a-1)] 0xe01938204f018 0x401 rfl c M
def MH:a<=a+1+1:=ai [a] 0xe319319000 0x1
def MI:a<=1000->b=a->b<=1000:=ai [a,b] 0xe3e809505000138fa02540 0x100401
def MJ:a+(b+1)<c->a<c:=ai [a,b,c] 0x3c200f08c319040 0x401
def MK:a+(b+1)<c->a+1+b<c:=ai [a,b,c] 0x3c230131900f08c319040 0x401
def ML:a+b<=c->a<=c:=ai [a,b,c] 0x38200e08c040 0x401
def afR:a+1-a=1:=ai [((a+1)-a),a] 0x41901031904c040 0x4000040000401 rfl<|bh<|ai [((a+1)-a),a] 0xe319041 0x1 rfl
def LJ:a+1+(b+1)<=10000->a+1+(0+1)<=16777216:=ai [a,b] 0x38100000015530c65831900e09c40354c31904c640 0x401
def LL:a+1+(b+1)<=10000->a+1+(0+1)+b<=10000:=ai [a,b] 0x3827100d530130c65831900e09c40354c31904c640 0x401
def afS:a<=100->a<=16777216:=ai [a] 0xe040000005540381902540 0x401
def LM:a+(b+1)<=80->c<=60*(a+1)->c<=5000:=ai [a,b,c] 0x3813880d508e34c640f0154238140254c319040 0x10f001
def LN:a+(b+1)<=80->a<100:=ai [a,b] 0x3c190254038140254c319040 0x401
def LQ:a<=9000->b<=a+2->b<=10000:=ai [a,b] 0xe09c40354138c68004e08ca03540 0x100401
def LR:a<=9000->b<=a+3->b<=16777216:=ai [a,b] 0xe04000000554138c6c004e08ca03540 0x100401
def LS:a<=16^5->b<a->a+b<16^6:=ai [a,b] 0x3c100000015530100f001384000004540 0x100801
def LT:a<=6->a<=16777216:=ai [a] 0x38100000015500e780 0x401
def afT:a<=5000->b<=3->a+b<=16777216:=ai [a,b] 0xe04000000554c04039b04e04e203540 0x100401
def afV:a<=998->a<=16777211:=ai [a] 0x3bffffec454038f982540 0x401
def afW:a<=998->3+(a+1)<=16777216:=ai [a] 0xe04000000554c31901b38f982540 0x401
def afX:a<=998->a<=16777214:=ai [a] 0x3bfffff8454038f982540 0x401
def af1:a+b<=100->b=c+1->1+a<=16777216:=ai [a,b,c] 0x38100000015530065031908138190254c040 0x401
def af2:a+b<=100->b=c+1->a+1+c<=100:=ai [a,b,c] 0xe06409530231901031908138190254c040 0x40000401
def af3:a<=100->a=b+1->0+1+b<=100:=ai [a,b] 0xe064095301319610319040381902540 0x40000401
def af4:a=9->0<a:=ai [a] 0x3c0610840 0x100009
def af6(c:a<16^5):b%1048576<3145729:=ai [a,(b%1048576),(b/1048576),b] 0x3cc0000445413c40000045414033013421000001153c4000004540 0x10000000001 rfl c (cr _ 1048576)<|bq (y:=1048576) b<|ζ
def af7(e:a<16^5)(M:b<16^5):c%1048576+d%1048576<3145729:=ai [a,b,(c%1048576),(d%1048576),(c/1048576),c,(d/1048576),d] 0x3cc00004454c0c23c40000045434073033461000001153c40000045424053023441000001153c40000045413c4000004540 0x100000004000000000001 rfl e M (cr _ 1048576) (bq (y:=1048576) c<|ζ) (cr _ 1048576)<|bq (y:=1048576) d<|ζ
def af8(g:a<16^5)(M:b<16^5)(X:c<16^5):d%1048576+(e%1048576+f%1048576)<3145729:=ai [a,b,c,(d%1048576),(e%1048576),(f%1048576),(d/1048576),d,(e/1048576),e,(f/1048576),f] 0x3cc00004454c3051033c400000454540b30534a1000001153c40000045444093043481000001153c40000045434073033461000001153c40000045423c40000045413c4000004540 0x1000000040000001000000000000001 rfl g M X (cr _ 1048576) (bq (y:=1048576) d<|ζ) (cr _ 1048576) (bq (y:=1048576) e<|ζ) (cr _ 1048576)<|bq (y:=1048576) f<|ζ
def af9:a<3*16^5+1->a<16^6:=ai [a] 0xf0400000055403cc64c000004540 0x401
def af_:a<3*16^5+1->a<2^60:=ai [a] 0xf04000000000000000b5403cc64c000004540 0x401
def aga:a<16->a<2^63:=ai [a] 0x3c80000000000000002d500fa00 0x401
def agc:a+(b+c)=a+b+c:=ai [a,b,c] 0x1030230100c302040 0x401
def agd:a=3->b<3->b<a:=ai [a,b] 0xf0013db0506c0 0x40100001
def age:9<=a/\a<=10->0=a->False:=ai [a] 0x144006133a200e021 0x10000000409
def agf:9<=a/\a<=10->b=a->b<=10:=ai [a,b] 0xe8814000533a200e021 0x40100001
def agg:9<=a/\a<=10->b=a->c<=0+53*b->c<=9990:=ai [a,b,c] 0x3827060d508e30d0750556024000533a200e021 0x4000d43500001
def agh:a<=3*b->c<=3->c+a<=3*(b+1):=ai [a,b,c] 0xe34c6416cc00239b08e3416c0 0x100401
def agi:a=9->b<=3*a->b<=30:=ai [a,b] 0xed8138d01b050840 0x40000c01
def agj:a<=9*30->a<300:=ai [a] 0x3c4b02540384382540 0x401
def agk:a<=30->b<=a->b<=100:=ai [a,b] 0x38190254138004ed80 0x100401
def agl:9<=a/\a<=10->b=a->b<=100:=ai [a,b] 0x3819025414000533a200e021 0x40100001
def agn:a+1<10->a<=999:=ai [a] 0xe3e709500f88c640 0x401
def ago:0+(a+1)<=0+(a+1):=ai [a] 0xe30c64060c319018 0x1
def agp:0+1<=0+(a+1):=ai [a] 0xe30c64060c658 0x1
def agr:a=b->b<=60->a<=900:=ai [a,b] 0x38e1025403bc055050040 0x40000401
def ags:a<=60->b<=a->b<64:=ai [a,b] 0x3c100254138004ef01540 0x100401
def agt:a=b->b+(c+1)=9->d=a->d<=10000:=ai [a,b,c,d] 0x3827100d50d000342130c642050040 0x4000040000401
def agu:a+1<=1000->1+a<=1000:=ai [a] 0x38fa0254c01938fa0254c640 0x401
def agv:a<=1000->a<=9000:=ai [a] 0xe08ca0354038fa02540 0x401
def agx:a+1<=50->a<=900:=ai [a] 0xe38409500ec8154c640 0x401
def agJ:a=b->b<=a:=ai [a,b] 0x380050040 0x100001
def agK:a+1+b=a+b+1:=ai [a,b] 0x1031930100c04c640 0x401
def agM:a<9->¬b<9->a<b:=ai [a,b] 0xf0404a104f840 0x100401
def agN:a=b->c=b->a<c->False:=ai [a,b,c] 0x50f080401090040 0x4000040100001
def agP:a+1<=b->b=a->False:=ai [a,b] 0x1440004e04c640 0x100401
def agQ:0<=1:=ai [] 0xe658 0x1
def agS:a=b->a<c->b<=c:=ai [a,b,c] 0xe0813c2010040 0x40100001
def agU:a=b->a<c->0<c:=ai [a,b,c] 0xf0983c2010040 0x40000001
def agV:a=b->a<c->d+1=c->d<=b->c=b+1:=ai [a,b,c,d] 0x103190423810d008c6433c2010040 0x10040000401004000000000001
def agW:a<9->b=a->b<c->c<9->d+1=c->d<=a->a+1<9:=ai [a,b,c,d] 0xf84c6403800d008c6433e108f08140004f840 0x4010040000001
def agX:a=b+1->a=b->False:=ai [a,b] 0x14401010319040 0x40100001
def agY:a<9->b=a+1->a+1<9->b<9:=ai [a,b] 0x3e104f84c64040c64004f840 0x10000100001
def agZ:a<9->a+1<9->b=a+1->b<9:=ai [a,b] 0x3e10503190013e131900f840 0x40100001
def ag0:a+1<=b->c=a+1->b<c->False:=ai [a,b,c] 0x50f08140c64008e04c640 0x10000100401
def ag1:a=b+1->c+1=a->c=b:=ai [a,b,c] 0x10042400319090319040 0x40000400004000040000401
def ag2:a<=b->c<=d->c+a<=b+d:=ai [a,b,c,d] 0xe30304c00238308e040 0x100401
def ag3:a<=63->a=b->b<=9000:=ai [a,b] 0xe08ca0354140100efc1540 0x40000401
def ag4:a+100<=9000->b<=100->a+b<=9000:=ai [a,b] 0xe08ca0354c0403819025413823280d5301902540 0x100401
def ag5:a=b+c->c<=d->d<=100->a<=b+100:=ai [a,b,c,d] 0x38c064095040381902543383090302040 0x10040000401
def ag6:a+100*(b+1)<=9000->c<=a+100->c+100*b<=9000:=ai [a,b,c] 0x3823280d530d04190254238c0640950023823280d530d319041902540 0x100401
def ag8:a<=1000->a+100<=9000:=ai [a] 0x3823280d530190254038fa02540 0x401
def ag9:a<=1000->b<9->c<=a+100->c+100*b<=9000:=ai [a,b,c] 0xe08ca0354c34106409508e30190254008f84138fa02540 0x46400401
def aha(b:0<a):a-1<a:=ai [a,(a-1)] 0xf00140031904f018 0x100001 rfl b<|bh<|ai [a,(a-1)] 0x38064f018 0x401 rfl b
def ahb(c:a<b-1):a<b-1:=ai [a,(b-1),b] 0xf04038204f040 0x401 rfl c<|lm b 1
def ahc(b:0<a):¬a-1=a:=λd=>ai [a,(a-1)] 0x51000c64140004f018 0x10040000001 rfl b d<|bh<|ai [a,(a-1)] 0xe01940004f018 0x401 rfl b d
def ahd:a<=100->a<=8000:=ai [a] 0xe07d003540381902540 0x401
def ahe:a<=1000->b=a->b<=9000:=ai [a,b] 0x3823280d505000138fa02540 0x100401
def ahg:a<=4->5+(a+1)<=16777216:=ai [a] 0x38100000015530c64074e700 0x401
def ahh:a<=4->a<=16777210:=ai [a] 0xefffffa11500e700 0x401
def ahi:a<=4->a<=16777215:=ai [a] 0xeffffff11500e700 0x401
def ahj:a+(b+1)<=100->a<=1000:=ai [a,b] 0x38fa0254038190254c319040 0x401
def ahk:a+(b+1)<=100->a+1+b<=100:=ai [a,b] 0x38190254c04c64038190254c319040 0x401
def ahl:a+1<=100->1+a<=100:=ai [a] 0x38190254c01938190254c640 0x401
def ahm:a<b->b<=5->a<=4:=ai [a,b] 0xe70039d04f040 0x100401
def ahn(c:a=5):4-b<a:=ai [a,(4-b)] 0xf00139c050740 0x40100001 rfl c<|lm 4 b
def aho:¬9<=a->a<=9:=ai [a] 0x3a1011021 0x401
def ahp:0+a=a:=ai [a] 0x1000c018 0x401
def ahq:(a*16+b)/16=a+b/16:=ai [(((a*16)+b)/16),a,(b/16),(((a*16)+b)%16),b,(b%16)] 0x103020403e815010c14d0a83e80d03045a804c0cd028 0x10040100010004010000000001040 rfl (cr _ 16) (bq (y:=16) ((a*16)+b)<|ζ) (cr _ 16)<|bq (y:=16) b<|ζ
def ahr(c:(a*16+b)/16=a+b/16):(a*16+b)%16=b%16:=ai [(((a*16)+b)/16),a,(b/16),(((a*16)+b)%16),(b%16),b] 0x4040cfa04405304342a0fa0340c156a01303340a0fa04405304342a0fa0340c156a01303340a10302040 0x40000400000100040000000000000000000400000000041000001 rfl c (cr _ 16) (bq (y:=16) ((a*16)+b)<|ζ) (cr _ 16) (bq (y:=16) b<|ζ) (cr _ 16) (bq (y:=16) ((a*16)+b)<|ζ) (cr _ 16)<|bq (y:=16) b<|ζ
def ahs(c:0<a)(M:(a*16+b)/16=a+b/16):a+b/16≠0:=λd=>ai [a,(((a*16)+b)/16),(b/16),(((a*16)+b)%16),b,(b%16)] 0x50fa05404305342a0fa0340c116a00303341a1060c08040c08004f018 0x10000000401 rfl c M d (cr _ 16) (bq (y:=16) ((a*16)+b)<|ζ) (cr _ 16)<|bq (y:=16) b<|ζ
def aht:(a+b*16)/16=a/16+b:=ai [((a+(b*16))/16),(a/16),b,((a+(b*16))%16),a,(a%16)] 0x103020403e815010c14d0683e80d0316a0210c0cd028 0x10040100010004010000000001040 rfl (cr _ 16) (bq (y:=16) (a+(b*16))<|ζ) (cr _ 16)<|bq (y:=16) a<|ζ
def ahw(e:a<b*16)(M:(a+c)/16=a/16+d):a/16<b:=ai [a,b,((a+c)/16),(a/16),d,((a+c)%16),c,(a%16)] 0xf0433e81d000c1cd0e83e815030600c14d0a840c10308f5a8040 0x5001000000000005140 rfl e M (cr _ 16) (bq (y:=16) (a+c)<|ζ) (cr _ 16)<|bq (y:=16) a<|ζ
def ahx:65<=65+a%16/\65+a%16<=80:=ai [(a%16),(a/16),a] 0x1338140254c00104254e3000410950410953e801008c00d068 0x400000010000000001 rfl (cr _ 16)<|bq (y:=16) a<|ζ
def ahz(c:a=b):b+1-1-0-a=0:=ai [a,b,((((b+1)-1)-0)-a),((b+1)-1),(((b+1)-1)-0)] 0x106024043000900cc60440c6413190d0040 0x40000400004000040100001 rfl c (bh<|ai [a,b,((((b+1)-1)-0)-a),((b+1)-1),(((b+1)-1)-0)] 0x38c641650040 0x1 rfl c) (bh<|ai [a,b,((((b+1)-1)-0)-a),((b+1)-1),(((b+1)-1)-0)] 0xe0d840c6413190d0040 0x1 rfl c<|bh<|ai [a,b,((((b+1)-1)-0)-a),((b+1)-1),(((b+1)-1)-0)] 0x38c641650040 0x1 rfl c)<|bh<|ai [a,b,((((b+1)-1)-0)-a),((b+1)-1),(((b+1)-1)-0)] 0x3840100cc60440c6413190d0040 0x1000010000000401 rfl c (bh<|ai [a,b,((((b+1)-1)-0)-a),((b+1)-1),(((b+1)-1)-0)] 0x38c641650040 0x1 rfl c)<|bh<|ai [a,b,((((b+1)-1)-0)-a),((b+1)-1),(((b+1)-1)-0)] 0xe0d840c6413190d0040 0x1 rfl c<|bh<|ai [a,b,((((b+1)-1)-0)-a),((b+1)-1),(((b+1)-1)-0)] 0x38c641650040 0x1 rfl c
def ahB(d:a=b)(M:c+1<b+1):b+1-1-(c+1)<a:=ai [a,b,c,(((b+1)-1)-(c+1)),((b+1)-1)] 0xf00340430c6420d031904c6443cc641319090040 0x1000010000100001 rfl d M (bh<|ai [a,b,c,(((b+1)-1)-(c+1)),((b+1)-1)] 0xe3190593cc641319090040 0x1 rfl d M)<|bh<|ai [a,b,c,(((b+1)-1)-(c+1)),((b+1)-1)] 0x38431909031904c6443cc641319090040 0x4000040000001 rfl d M<|bh<|ai [a,b,c,(((b+1)-1)-(c+1)),((b+1)-1)] 0xe3190593cc641319090040 0x1 rfl d M
def ahF:0<=2:=ai [] 0xe698 0x1
def ahG:1<=2:=ai [] 0xe699 0x1
def ahH:2<=2:=ai [] 0xe69a 0x1
def ahI(d:a<=b)(M:b<=c):c-a=b-a+(c-b):=ai [a,b,c,(c-a),(b-a),(c-b)] 0x40c1440d008c04540130011008c00338204e040 0x10000100400000000040100001000000040000001 rfl d M (bh<|ai [a,b,c,(c-a),(b-a),(c-b)] 0xe08038204e040 0x100401 rfl d M) (bh<|ai [a,b,c,(c-a),(b-a),(c-b)] 0x38101008c00338204e040 0x401 rfl d M<|bh<|ai [a,b,c,(c-a),(b-a),(c-b)] 0xe08038204e040 0x100401 rfl d M)<|bh<|ai [a,b,c,(c-a),(b-a),(c-b)] 0xe08140130011008c00338204e040 0x100001 rfl d M (bh<|ai [a,b,c,(c-a),(b-a),(c-b)] 0xe08038204e040 0x100401 rfl d M)<|bh<|ai [a,b,c,(c-a),(b-a),(c-b)] 0x38101008c00338204e040 0x401 rfl d M<|bh<|ai [a,b,c,(c-a),(b-a),(c-b)] 0xe08038204e040 0x100401 rfl d M
def ahJ(d:a<=b)(M:b<=c)(X:c-a=b-a+(c-b)):b=a+(b-a):=ai [a,b,c,(c-a),(b-a),(c-b)] 0x1030400140230115004c0044023000d030510338204e040 0x1000000000000000004000000100000000000000000001 rfl d M X (bh<|ai [a,b,c,(c-a),(b-a),(c-b)] 0x38201030510338204e040 0x100401 rfl d M X) (bh<|ai [a,b,c,(c-a),(b-a),(c-b)] 0xe0404023000d030510338204e040 0x401 rfl d M X<|bh<|ai [a,b,c,(c-a),(b-a),(c-b)] 0x38201030510338204e040 0x100401 rfl d M X)<|bh<|ai [a,b,c,(c-a),(b-a),(c-b)] 0x38205004c0044023000d030510338204e040 0x100001 rfl d M X (bh<|ai [a,b,c,(c-a),(b-a),(c-b)] 0x38201030510338204e040 0x100401 rfl d M X)<|bh<|ai [a,b,c,(c-a),(b-a),(c-b)] 0xe0404023000d030510338204e040 0x401 rfl d M X<|bh<|ai [a,b,c,(c-a),(b-a),(c-b)] 0x38201030510338204e040 0x100401 rfl d M X
def ahK:a+b+(c+d)=a+c+(b+d):=ai [a,b,c,d] 0x1030c0c130200c30308c040 0x401
def ahL:0<a->2<3*a:=ai [a] 0x3cd01b68f018 0xc01
def ahM:0<a->b<a->b+2<3*a:=ai [a,b] 0xf3406cc6813c004f018 0x100801
def ahN:a<b->c<b->d<b->a+(c+d)+2<3*b:=ai [a,b,c,d] 0x3cd05b31a30c0c200f0433c108f040 0x40100401
def ahO(d:a<=b)(M:b<=c):c-b+(b-a)=c-a:=ai [a,b,c,(c-b),(b-a),(c-a)] 0x4053040d008c00540130011008c04338204e040 0x10040000400000000040100000004000040000001 rfl d M (bh<|ai [a,b,c,(c-b),(b-a),(c-a)] 0xe08138204e040 0x100001 rfl d M) (bh<|ai [a,b,c,(c-b),(b-a),(c-a)] 0x38101008c04338204e040 0x401 rfl d M<|bh<|ai [a,b,c,(c-b),(b-a),(c-a)] 0xe08138204e040 0x100001 rfl d M)<|bh<|ai [a,b,c,(c-b),(b-a),(c-a)] 0xe08040130011008c04338204e040 0x100401 rfl d M (bh<|ai [a,b,c,(c-b),(b-a),(c-a)] 0xe08138204e040 0x100001 rfl d M)<|bh<|ai [a,b,c,(c-b),(b-a),(c-a)] 0x38101008c04338204e040 0x401 rfl d M<|bh<|ai [a,b,c,(c-b),(b-a),(c-a)] 0xe08138204e040 0x100001 rfl d M
def ahP:a-1<=a+1:=ai [(a-1),a] 0x38c64100e040 0x401 rfl<|lm a 1
def ahR:a+(b+c+1)<=9999->b+c<=9999:=ai [a,b,c] 0x38270f0d530204e09c3c354c319302040 0x401
def ahS:¬a+1=0:=ai [a] 0x51060c640 0x401
def ahT:a+(b+c)<=9990->b+c<=9990:=ai [a,b,c] 0x3827060d530204e09c18354c302040 0x401
def ahU:a+(b+c)<=9990->c<=9990:=ai [a,b,c] 0x3827060d508e09c18354c302040 0x401
def ahV:a+(b+c)<=9990->b+c<=9999:=ai [a,b,c] 0x38270f0d530204e09c18354c302040 0x401
def ahW:a+b<=9990->b<=9990:=ai [a,b] 0x3827060d504e09c18354c040 0x401
def ahX:a+b<=9990->a+b<=9999:=ai [a,b] 0x38270f0d530100e09c18354c040 0x401
def ahY:a+4*647<=9000->a+10<9900:=ai [a] 0xf09ab0354c8803823280d5328702540 0x401
def ahZ:1<a->a=1->False:=ai [a] 0x1441900f019 0x100401
def ah0:a+(b+1)<10->a<10:=ai [a,b] 0x3e200f88c319040 0x401
def ah1:a+(b+1)<10->b+1<=100:=ai [a,b] 0xe06409531904f88c319040 0x401
def ah2:a+(b+1)<10->b<9:=ai [a,b] 0x3e104f88c319040 0x401
def ah3:a+(b+1)<10->b+1<64:=ai [a,b] 0xf04009531904f88c319040 0x401
def ah4:a<b+1->c+1<=a->c<b:=ai [a,b,c] 0xf04238031908f319040 0x100401
def ah5:a<b->c=a->c≠b:=ai [a,b,c] 0x51004240008f040 0x4000000100401
def ah7:a=b->c+1<=a->c<b:=ai [a,b,c] 0xf042380319090040 0x40000401
def ah8:0<a->b=a->0<b:=ai [a,b] 0xf05840004f018 0x40000401
def ah9:a=b->c+1=a->c+1=b:=ai [a,b,c] 0x1004c642400319090040 0x40000400004000040000401
def ah_:¬a<9->a<=9->0<a:=ai [a] 0xf0183a1012840 0x409
def aia(d:¬a<9)(M:a<=9)(X:b+1=a)(I:c<9)(Y:b<=c):c=8-0:=ai [a,b,c,(8-0)] 0x100c24203180ce0813e109000c6413a1012840 0x10040000400000010040100000004000000000001 rfl d M X I Y<|bh<|ai [a,b,c,(8-0)] 0x3a060e0813e109000c6413a1012840 0x1 rfl d M X I Y
def aic(c:a=8-b):a<9:=ai [a,(8-b)] 0xf8403a0050040 0x40000401 rfl c<|lm 8 b
def aid(c:a+1<=8)(M:b=8-a):0<b:=ai [a,b,(8-a)] 0x3c161080c00240204e80c640 0x4000040000401 rfl c M<|bh<|ai [a,b,(8-a)] 0xe80040204e80c640 0x401 rfl c M
def aie(b:a<10)(M:a<9):8-a<=8:=ai [a,(8-a)] 0x3a005080c0013e100f880 0x40000001 rfl b M<|bh<|ai [a,(8-a)] 0xe8003e100f880 0x100001 rfl b M
def aif(c:a<10)(M:a<9)(X:b=8-(8-a)):b=a:=ai [a,b,(8-(8-a)),(8-a)] 0x40005080c0c24203000d00813e100f880 0x4000000100400000000040000401000000040000001 rfl c M X (bh<|ai [a,b,(8-(8-a)),(8-a)] 0x3a00100813e100f880 0x100001 rfl c M X)<|bh<|ai [a,b,(8-(8-a)),(8-a)] 0xe8034203000d00813e100f880 0x4000000000001 rfl c M X<|bh<|ai [a,b,(8-(8-a)),(8-a)] 0x3a00100813e100f880 0x100001 rfl c M X
def aig:¬a<9->a<=9->b<10->b>=9->a=b:=ai [a,b] 0x1004038184f8813a1012840 0x100001004010000100001
def aih:a=9->10<=a->False:=ai [a] 0x14380890840 0x40000401
def aii:a<=b->1+a<=b+1:=ai [a,b] 0x38c64130064e040 0x401
def aij:a<=b->0+a<=b+1:=ai [a,b] 0x38c64130060e040 0x401
def aik:a+(b+1)<=900->c<=a->c<=1000:=ai [a,b,c] 0xe3e809508e00238e10254c319040 0x100401
def ail:a+(b+1)<=900->a+1+b<=900:=ai [a,b] 0x38e10254c04c64038e10254c319040 0x401
def ain:a=0->b<a->False:=ai [a,b] 0x143c0050600 0x40000401
def aio:a<b->a=b->False:=ai [a,b] 0x1440100f040 0x40000401
def aip:a<b+1->¬a<b->a=b:=ai [a,b] 0x1004048100f319040 0x4000040000401
def aiq:a+(b+1)=9->c<a->c<9:=ai [a,b,c] 0xf8423c009084c319040 0x40000401
def air:a+(b+1)=9->c=b+1->d<c->a+d<9:=ai [a,b,c,d] 0x3e130300f08340c64109084c319040 0x4000040000401
def aiu:a+(b+1)=9->c=a->c<a+1:=ai [a,b,c] 0xf31900240009084c319040 0x40000001
def aix:a+(b+1)=9->a<c->¬c<a:=ai [a,b,c] 0x50f0023c201084c319040 0x10040000002
def aiz:a+(b+1)=9->c=a->c<9:=ai [a,b,c] 0xf84240009084c319040 0x40000401
def aiA:a+(b+1)=9->c<a->c=a->False:=ai [a,b,c] 0x5100023c009084c319040 0x4000040000001
def aiB:a=b->b+(c+1)=d->d<=9->a+(c+1)<10:=ai [a,b,c,d] 0x3e230c64200e84340330c642050040 0x4000040000401
def aiC:1<a+19:=ai [a] 0xf32b019 0x1
def aiE:a<=9000->b<=a->b<=16777216:=ai [a,b] 0xe04000000554138004e08ca03540 0x100401
def aiF:¬a<b+1+c->¬(b+1<=a/\a<b+1+c):=ai [a,b,c] 0x144cf302319040380319052302319040 0x40000401
def aiH:¬a<b+1+c->¬(b<=a/\a<b+(c+1)):=ai [a,b,c] 0x144cf30c642040380052302319040 0x40000401
def aiI:a<b->a<0+b:=ai [a,b] 0x3cc05800f040 0x401
def aiJ:¬a<b->b<=a:=ai [a,b] 0x380052040 0x401
def aiK:a+1+(b+1)<=1000->c=a->c<=16777215:=ai [a,b,c] 0xeffffff11509000238fa0254c31904c640 0x100401
def aiL:a+1+(b+1)<=1000->c=a->d<=2->c+d<=16777216:=ai [a,b,c,d] 0xe04000000554c0c239a0d000238fa0254c31904c640 0x10000100401
def aiM(c:a<b/\b<=100)(M:1<b-a):0<b-a-1:=ai [a,b,(b-a),((b-a)-1)] 0x3c361008c64340130008f0994ce06409504f040 0x400000000040000001 rfl c M (bh<|ai [a,b,(b-a),((b-a)-1)] 0x38100f0994ce06409504f040 0x401 rfl c M)<|bh<|ai [a,b,(b-a),((b-a)-1)] 0xe09940130008f0994ce06409504f040 0x40000002 rfl c M<|bh<|ai [a,b,(b-a),((b-a)-1)] 0x38100f0994ce06409504f040 0x401 rfl c M
def aiO(e:a<b/\b<=100)(M:c<b-a-1)(X:a+1+c=d):a<d/\d<=100:=ai [a,b,c,((b-a)-1),d,(b-a)] 0x4ce06409510f1004053190d004c00540430231900f0c24ce06409504f040 0x1000010040000401000010000000000000010000000001 rfl e M X (bh<|ai [a,b,c,((b-a)-1),d,(b-a)] 0xe04040430231900f0c24ce06409504f040 0x401 rfl e M X)<|bh<|ai [a,b,c,((b-a)-1),d,(b-a)] 0x38565004c00540430231900f0c24ce06409504f040 0x400000000000000401 rfl e M X<|bh<|ai [a,b,c,((b-a)-1),d,(b-a)] 0xe04040430231900f0c24ce06409504f040 0x401 rfl e M X
def aiP(e:a<b/\b<=100)(M:c<b-a-1)(X:a+1+c=d):d<b/\b<=100:=ai [a,b,c,((b-a)-1),d,(b-a)] 0x4ce06409504f0444053190d004c00540430231900f0c24ce06409504f040 0x1000010000100001004000040000001 rfl e M X (bh<|ai [a,b,c,((b-a)-1),d,(b-a)] 0xe04040430231900f0c24ce06409504f040 0x401 rfl e M X)<|bh<|ai [a,b,c,((b-a)-1),d,(b-a)] 0x38565004c00540430231900f0c24ce06409504f040 0x400000000000000401 rfl e M X<|bh<|ai [a,b,c,((b-a)-1),d,(b-a)] 0xe04040430231900f0c24ce06409504f040 0x401 rfl e M X
def aiQ:a+1+(b+1)<=1000->a+1+1+b<=1000:=ai [a,b] 0x38fa0254c04c64c64038fa0254c31904c640 0x401
def aiR(e:a<b/\b<=100)(M:2*(b-a)-1+c<=d+1)(X:¬1<b-a):c<=d:=ai [a,b,((2*(b-a))-1),c,d,(b-a)] 0xe10340d15a31909004c00548564e31910c0c24ce06409504f040 0x100002000000040000801 rfl e M X (bh<|ai [a,b,((2*(b-a))-1),c,d,(b-a)] 0xe04048564e31910c0c24ce06409504f040 0x401 rfl e M X)<|bh<|ai [a,b,((2*(b-a))-1),c,d,(b-a)] 0x38d15a65004c00548564e31910c0c24ce06409504f040 0x1000000000000401 rfl e M X<|bh<|ai [a,b,((2*(b-a))-1),c,d,(b-a)] 0xe04048564e31910c0c24ce06409504f040 0x401 rfl e M X
def aiS:a+1+(b+1)<=1000->a+b<=1000:=ai [a,b] 0x38fa0254c04038fa0254c31904c640 0x401
def aiT(c:1<a-b):0<a-b-1:=ai [(a-b),((a-b)-1),a] 0x3c161000c64138200f019 0x10000000401 rfl c (lm a b)<|bh<|ai [(a-b),((a-b)-1),a] 0xe01938200f019 0x402 rfl c<|lm a b
def aiU(c:0<a)(M:a<16):(16*b+a)/16=b:=ai [a,(((16*b)+a)/16),b,(((16*b)+a)%16)] 0x100813e80d0300342a0c0cd0683e800f018 0x14050000000c50000000100400040 rfl c M (cr _ 16)<|bq (y:=16) ((16*b)+a)<|ζ
def aiV(c:(16*a+b)/16=a):(16*a+b)%16=b:=ai [(((16*a)+b)/16),a,(((16*a)+b)%16),b] 0x40308fa0240c0cd068302340a0fa0240c0cd068302340a10040 0x400000100040000000000000041000001 rfl c (cr _ 16) (bq (y:=16) ((16*a)+b)<|ζ) (cr _ 16)<|bq (y:=16) ((16*a)+b)<|ζ
def aiW:65+a=65+b/\65+c=65+d->a=b/\c=d:=ai [a,b,c,d] 0x4d00c240101340c0c104254c081042550301041095300041095 0x400000000040000400000010000000400004000000000401
def Di:a<16->65<=65+a/\65+a<=80:=ai [a] 0x4ce05009530004109538c00104254104254fa00 0x40100001
def aiX:a<b/\b<=5->a<16/\0<b/\b<16:=ai [a,b] 0x4d33e804f0583e801339d04f040 0x100001000010040100401
def aiY:a+b+0<=9000->c=a->c<=9999:=ai [a,b,c] 0xe09c3c354240008e08ca0354c60c040 0x100401
def aiZ:a+b+0<=9000->c=b->c<=10000:=ai [a,b,c] 0xe09c40354240108e08ca0354c60c040 0x100401
def ai0:a+b+(c+1)<=9000->d=a->d<=9999:=ai [a,b,c,d] 0xe09c3c35434000ce08ca0354c31908c040 0x100401
def ai1:a+b+(c+1)<=9000->a+1+c<=9000:=ai [a,b,c] 0x3823280d530231900e08ca0354c31908c040 0x401
def ai2:a+b+(c+1)<=9000->d=b->d<=10000:=ai [a,b,c,d] 0xe09c4035434010ce08ca0354c31908c040 0x100401
def ai3:a+b+(c+1)<=9000->a+(b+1)+c<=9000:=ai [a,b,c] 0x3823280d530230c64100e08ca0354c31908c040 0x401
def ai4(c:0<a)(M:b<a):b<=a-1:=ai [a,b,(a-1)] 0x38205000c6423c004f018 0x10000100001 rfl c M<|bh<|ai [a,b,(a-1)] 0xe0193c004f018 0x401 rfl c M
def ai6:a<=a/\a<=a+3:=ai [a] 0x1338c6c000e000 0x401
def ai7:a+b<=1000->0+a+1+b+1<=16777216:=ai [a,b] 0xe04000000554c64c04c64c01838fa0254c040 0x401
def ai8:a+b<=1000->a+(b+1)<=16777216:=ai [a,b] 0xe04000000554c31904038fa0254c040 0x401
def ai9:a+b+c<=1000->0+a+1+b+1+c+1<=16777216:=ai [a,b,c] 0xe04000000554c64c08c64c04c64c01838fa0254c08c040 0x401
def ai_:a+b+c<=1000->a+(b+(c+1)+1)<=16777216:=ai [a,b,c] 0xe04000000554c31930c64204038fa0254c08c040 0x401
def aja(b:a%4<4):a%4<2^63:=ai [(a%4),(a/4),a] 0x3c80000000000000002d500f70040230034170f700 0x401 rfl b (cr _ 4)<|bq (y:=4) a<|ζ
def ajb(c:a<b):b-1-a<b:=ai [a,b,((b-1)-a),(b-1)] 0x3c10900cc0024013190cf040 0x10000100001 rfl c (bh<|ai [a,b,((b-1)-a),(b-1)] 0x38164f040 0x401 rfl c)<|bh<|ai [a,b,((b-1)-a),(b-1)] 0xe0c04013190cf040 0x40000401 rfl c<|bh<|ai [a,b,((b-1)-a),(b-1)] 0x38164f040 0x401 rfl c
def ajc:a+1+1+1+1+1-a=5:=ai [((((((a+1)+1)+1)+1)+1)-a),a] 0x41d01031931931931931904c040 0x4000040000401 rfl<|bh<|ai [((((((a+1)+1)+1)+1)+1)-a),a] 0xe319319319319319041 0x1 rfl
def ajd:a<=a+b+c+d:=ai [a,b,c,d] 0xe303302301000 0x1
def aje:a<b+1+c->a<b+(c+1):=ai [a,b,c] 0x3cc31908100f302319040 0x401
def ajf:a+1+b=a+(b+1):=ai [a,b] 0x1030c64100c04c640 0x401
def ajg:a<0+b->a<b:=ai [a,b] 0x3c100f301600 0x401
def ajl:a=b->c<a->c<b:=ai [a,b,c] 0xf0423c0090040 0x40000401
def ajm(d:a-b=c+1)(M:b<a):a-(b+1)=c:=ai [(a-b),c,b,a,(a-(b+1))] 0x1004440330c6421100cc0803c3090319040 0x40000001000010000100001004000000000401 rfl d M (bh<|ai [(a-b),c,b,a,(a-(b+1))] 0xe0c23c3090319040 0x40000001 rfl d M)<|bh<|ai [(a-b),c,b,a,(a-(b+1))] 0x3833190900cc0803c3090319040 0x40000001 rfl d M<|bh<|ai [(a-b),c,b,a,(a-(b+1))] 0xe0c23c3090319040 0x40000001 rfl d M
def ajn:0<4:=ai [] 0xf718 0x1
def ajo:2<=16777216:=ai [] 0xe04000000555a 0x1
def ajq:1<=16777216:=ai [] 0xe040000005559 0x1
def ajr(c:a%4<4)(M:0+1+a%4=b):2*(b-0)-1+(2*(5-b)-1+0)<=8:=ai [(a%4),b,((2*(b-0))-1),((2*(5-b))-1),(a/4),a,(b-0),(5-b)] 0xe80c3180c240d1da3190d074c04740d19a31909004c6063dc01014c00d11c40130031960f700 0x400008000040000800000000000000001 rfl c M (cr _ 4) (bq (y:=4) a<|ζ) (bh<|ai [(a%4),b,((2*(b-0))-1),((2*(5-b))-1),(a/4),a,(b-0),(5-b)] 0xe0583dc01014c00d11c40130031960f700 0x1 rfl c M (cr _ 4)<|bq (y:=4) a<|ζ) (bh<|ai [(a%4),b,((2*(b-0))-1),((2*(5-b))-1),(a/4),a,(b-0),(5-b)] 0x38d19a65004c6063dc01014c00d11c40130031960f700 0x100000000000000100001 rfl c M (cr _ 4) (bq (y:=4) a<|ζ)<|bh<|ai [(a%4),b,((2*(b-0))-1),((2*(5-b))-1),(a/4),a,(b-0),(5-b)] 0xe0583dc01014c00d11c40130031960f700 0x1 rfl c M (cr _ 4)<|bq (y:=4) a<|ζ) (bh<|ai [(a%4),b,((2*(b-0))-1),((2*(5-b))-1),(a/4),a,(b-0),(5-b)] 0xe74140d19a31909004c6063dc01014c00d11c40130031960f700 0x40000401 rfl c M (cr _ 4) (bq (y:=4) a<|ζ) (bh<|ai [(a%4),b,((2*(b-0))-1),((2*(5-b))-1),(a/4),a,(b-0),(5-b)] 0xe0583dc01014c00d11c40130031960f700 0x1 rfl c M (cr _ 4)<|bq (y:=4) a<|ζ)<|bh<|ai [(a%4),b,((2*(b-0))-1),((2*(5-b))-1),(a/4),a,(b-0),(5-b)] 0x38d19a65004c6063dc01014c00d11c40130031960f700 0x100000000000000100001 rfl c M (cr _ 4) (bq (y:=4) a<|ζ)<|bh<|ai [(a%4),b,((2*(b-0))-1),((2*(5-b))-1),(a/4),a,(b-0),(5-b)] 0xe0583dc01014c00d11c40130031960f700 0x1 rfl c M (cr _ 4)<|bq (y:=4) a<|ζ)<|bh<|ai [(a%4),b,((2*(b-0))-1),((2*(5-b))-1),(a/4),a,(b-0),(5-b)] 0x38d1da65074c04740d19a31909004c6063dc01014c00d11c40130031960f700 0x1000000000000000000000040000401 rfl c M (cr _ 4) (bq (y:=4) a<|ζ) (bh<|ai [(a%4),b,((2*(b-0))-1),((2*(5-b))-1),(a/4),a,(b-0),(5-b)] 0xe0583dc01014c00d11c40130031960f700 0x1 rfl c M (cr _ 4)<|bq (y:=4) a<|ζ) (bh<|ai [(a%4),b,((2*(b-0))-1),((2*(5-b))-1),(a/4),a,(b-0),(5-b)] 0x38d19a65004c6063dc01014c00d11c40130031960f700 0x100000000000000100001 rfl c M (cr _ 4) (bq (y:=4) a<|ζ)<|bh<|ai [(a%4),b,((2*(b-0))-1),((2*(5-b))-1),(a/4),a,(b-0),(5-b)] 0xe0583dc01014c00d11c40130031960f700 0x1 rfl c M (cr _ 4)<|bq (y:=4) a<|ζ)<|bh<|ai [(a%4),b,((2*(b-0))-1),((2*(5-b))-1),(a/4),a,(b-0),(5-b)] 0xe74140d19a31909004c6063dc01014c00d11c40130031960f700 0x40000401 rfl c M (cr _ 4) (bq (y:=4) a<|ζ) (bh<|ai [(a%4),b,((2*(b-0))-1),((2*(5-b))-1),(a/4),a,(b-0),(5-b)] 0xe0583dc01014c00d11c40130031960f700 0x1 rfl c M (cr _ 4)<|bq (y:=4) a<|ζ)<|bh<|ai [(a%4),b,((2*(b-0))-1),((2*(5-b))-1),(a/4),a,(b-0),(5-b)] 0x38d19a65004c6063dc01014c00d11c40130031960f700 0x100000000000000100001 rfl c M (cr _ 4) (bq (y:=4) a<|ζ)<|bh<|ai [(a%4),b,((2*(b-0))-1),((2*(5-b))-1),(a/4),a,(b-0),(5-b)] 0xe0583dc01014c00d11c40130031960f700 0x1 rfl c M (cr _ 4)<|bq (y:=4) a<|ζ
def ajs(c:a%4<4)(M:0+1+a%4=b):0<b/\b<=100:=ai [(a%4),b,(a/4),a] 0x4ce06409504f0583dc0100cc00d09c40130031960f700 0x10000100400000000000100001 rfl c M (cr _ 4)<|bq (y:=4) a<|ζ
def ajt(c:a%4<4)(M:0+1+a%4=b):b<5/\5<=100:=ai [(a%4),b,(a/4),a] 0x4ce06409574f7413dc0100cc00d09c40130031960f700 0x400000000040000401 rfl c M (cr _ 4)<|bq (y:=4) a<|ζ
def ajv:a<=b->a<=b+1+1:=ai [a,b] 0x38c64c64100e040 0x401
def ajw:a+(b+1)<=9000->c<=a+1->c+b<=9000:=ai [a,b,c] 0xe08ca0354c04238c64008e08ca0354c319040 0x100401
def ajx:a<=8000->b<=1->b+a<=9000:=ai [a,b] 0xe08ca0354c00139904e07d003540 0x100401
def ajy:a<=4000->a<=9000:=ai [a] 0xe08ca035403be802540 0x401
def ajC:0+(a+1)<=10000->0+(0+1)+a<=10000:=ai [a] 0x3827100d530030c65860e09c40354c319018 0x401
def ajE:0+(a+1)<=10000->0+1+a<=10000:=ai [a] 0x3827100d530031960e09c40354c319018 0x401
def ajF:a+(b+1)<=4000->c<=d->d=a->c<=4000:=ai [a,b,c,d] 0x3be8025424000ce0c23be80254c319040 0x40100401
def ajG:a<=4000->a+1<=16777216:=ai [a] 0xe04000000554c6403be802540 0x401
def ajH:a+(b+1)<=4000->a<=16777216:=ai [a,b] 0xe0400000055403be80254c319040 0x401
def ajI:a+(b+1)<=c->a<=c:=ai [a,b,c] 0x38200e08c319040 0x401
def ajK:a+(b+1)<=4000->c<=a->c+b<=4000:=ai [a,b,c] 0xefa009530108e0023be80254c319040 0x100401
def ajL:a+(b+1)<=4000->c=a->c<=4001:=ai [a,b,c] 0xefa10950900023be80254c319040 0x100401
def ajM:a+(b+1)<=4000->a+1<=4000:=ai [a,b] 0x3be80254c6403be80254c319040 0x401
def ajN:a+(b+1)<=c->a+1<=c:=ai [a,b,c] 0x38231900e08c319040 0x401
def ajO:a+(b+1)<=c->a+1+b<=c:=ai [a,b,c] 0x38230131900e08c319040 0x401
def ajP:a+(b+1)<=4000->c<=a+1->c+b<=4000:=ai [a,b,c] 0xefa009530108e3190023be80254c319040 0x100401
def ajR:a<=9999->0+a<=10000:=ai [a] 0x3827100d530060e09c3c3540 0x401
def ajS:a<=4000->a<=16777215:=ai [a] 0x3bfffffc45403be802540 0x401
def ajU:16*a+b<16^10->16*a+b<2^60:=ai [a,b] 0x3c10000000000000002d5301340a0f40000000000754c04d028 0x401
def ajV:a<=10->a<=100:=ai [a] 0xe06409500e880 0x401
def ajW:a<=10->a<=16777216:=ai [a] 0x38100000015500e880 0x401
def ajX:a<64->a<=16777216:=ai [a] 0xe0400000055403c1002540 0x401
def ajY:a<64->a<9000:=ai [a] 0xf08ca035403c1002540 0x401
def ajZ(c:a<=b)(M:0<a):b-(b-a)=a:=ai [a,b,(b-(b-a)),(b-a)] 0x1000240130309004c0033c060e040 0x400000010000000400004010000000001 rfl c M (bh<|ai [a,b,(b-(b-a)),(b-a)] 0xe0403c060e040 0x401 rfl c M)<|bh<|ai [a,b,(b-(b-a)),(b-a)] 0x3810d004c0033c060e040 0x40000001 rfl c M<|bh<|ai [a,b,(b-(b-a)),(b-a)] 0xe0403c060e040 0x401 rfl c M
def aj0(c:a<=b)(M:0<a):¬b-a=b:=λd=>ai [a,b,(b-a)] 0x144013000900423c060e040 0x4010000100001 rfl c M d<|bh<|ai [a,b,(b-a)] 0x3810100423c060e040 0x401 rfl c M d
def aj2(c:a<b):b<=a+(b-a):=ai [a,b,(b-a)] 0xe30200140130008f040 0x40000001 rfl c<|bh<|ai [a,b,(b-a)] 0x38100f040 0x401 rfl c
def aj4:a<=100->0+a<=16777216:=ai [a] 0xe04000000554c018381902540 0x401
def aj5:a+6*(b+1)<=9000->a<=9000:=ai [a,b] 0x3823280d500e08ca0354c34c641780 0x401
def aj6:a+6*(b+1)<=9000->a+6+6*b<=9000:=ai [a,b] 0x3823280d530d05e31e00e08ca0354c34c641780 0x401
def aj7:a+6*(b+1)=a+6+6*b:=ai [a,b] 0x1030d05e31e00c34c641780 0x401
def aj8:0<=9000:=ai [] 0xe08ca03558 0x1
def aj9:a<=1000->6+6*a<=9000:=ai [a] 0xe08ca0354c34079e38fa02540 0x1801
def aj_:3<=a+3:=ai [a] 0xe31b01b 0x1
def aka:a<=9->a+3<=100:=ai [a] 0xe06409531b00e840 0x401
def akc:a/3%9<2^63:=ai [((a/3)%9),(a/3),(a%3),a,((a/3)/9)] 0xf20000000000000000b5403e101004c00d1213db0900cc08d05b 0x1000000000000001 rfl (cr _ 3) (bq (y:=3) a<|ζ) (cr _ 9)<|bq (y:=9) (a/3)<|ζ
def akd:a/27%9<2^63:=ai [((a/27)%9),(a/27),(a%27),a,((a/27)/9)] 0xf20000000000000000b5403e101004c00d1213f30900cc08d073 0x1000000000000001 rfl (cr _ 27) (bq (y:=27) a<|ζ) (cr _ 9)<|bq (y:=9) (a/27)<|ζ
def ake:a+(b+1)<=80->a+1+b<=80:=ai [a,b] 0x38140254c04c64038140254c319040 0x401
def akf:a<=70->0+a<=80:=ai [a] 0x38140254c018381182540 0x401
def akg:a<=5->b<=5->16*a+b<16^5:=ai [a,b] 0x3c400000454c04d02839d04e740 0x104001
def asW:8<=90:=ai [] 0x381682560 0x1
def asY:a+1=9->a<=70:=ai [a] 0xe04609501084c640 0x401
def asZ:9<=90:=ai [] 0x381682561 0x1
def as1:a+1=10->a<=70:=ai [a] 0xe04609501088c640 0x401
def aki:a<=100->a<=10000:=ai [a] 0xe09c403540381902540 0x401
def akk:a=8->b=a+1->b=9:=ai [a,b] 0x1084140c640050800 0x40000400004000040000401
def akl:3<=a->3<=a:=ai [a] 0x3806ce01b 0x401
def akm:a+(0+1)+b=a+(b+1):=ai [a,b] 0x1030c64100c04c319600 0x401
def akn:a<=b->b<10->a<=1000:=ai [a,b] 0x38fa025403e204e040 0x100401
def ako:a<=b->b+(c+1)<10->a+(c+1)<=1000:=ai [a,b,c] 0x38fa0254c3190803e230c64204e040 0x100401
def akq:a<=b->a+(0+1)<=b+(c+1):=ai [a,b,c] 0x38c31908130c65800e040 0x401
def aks(d:a<=5)(M:b=a-c):b<=100:=ai [a,b,(a-c)] 0xe06409504e00240204e740 0x10000100401 rfl d M<|lm a c
def akt(c:a<b)(M:0=b-a):False:=ai [a,b,(b-a)] 0x51004c00240260f040 0x4000040000401 rfl c M<|bh<|ai [a,b,(b-a)] 0xe04040260f040 0x401 rfl c M
def akv:a%16+(b%16+(c%16+0))=a%16+b%16+c%16:=ai [(a%16),(b%16),(c%16),(a/16),a,(b/16),b,(c/16),c] 0x1030230100c30c6020403e809020c08d1e83e805018c04d1683e801010c00d0e8 0x10000000000000000000000001 rfl (cr _ 16) (bq (y:=16) a<|ζ) (cr _ 16) (bq (y:=16) b<|ζ) (cr _ 16)<|bq (y:=16) c<|ζ
def akw:a<=5->a<=5:=ai [a] 0x39d00e740 0x401
def akx:a<=a+53*b:=ai [a,b] 0xe30d075055000 0x1
def aky:a<=50->b<=3->c<=d+b+a+53*e->c<=d+53*(e+1):=ai [a,b,c,d,e] 0x38c34c644d4154308e30d1350553003010c239b04ec81540 0x40100401
def akz:a<=b->0<a->2<=b+(c+1):=ai [a,b,c] 0xe30c64205a3c060e040 0x100401
def akA:2<=a+(b+(c+1)+1):=ai [a,b,c] 0xe30c64c31908101a 0x1
def akD:a=b+c->c=d+e->a+f=b+f+d+e:=ai [a,b,c,d,e,f] 0x1030430330504c14040c103090302040 0x40000400004000040000401
def akE:a=b+c->d+(e+b+f)+c=d+a+(e+f):=ai [a,b,c,d,e,f] 0x40c30510c00330230c14c0440d0302040 0x10040100001
def akF:a=b+c->d+b+c=d+a:=ai [a,b,c,d] 0x40c0033023010d0302040 0x10040100001
def akH:a<=9000->b<=a+4->b<=10000:=ai [a,b] 0xe09c40354138c70004e08ca03540 0x100401
def akI:a<=9000->b<=a+5->b<=16777216:=ai [a,b] 0xe04000000554138c74004e08ca03540 0x100401
def akJ:a+1<=100->b+1<=6+6*a->b<=1000:=ai [a,b] 0xe3e809504e30d01e78c64138190254c640 0x101801
def akK:a<=1000->a<=8000:=ai [a] 0xe07d00354038fa02540 0x401
def akL:a<=b->a<=b:=ai [a,b] 0x38100e040 0x401
def akM:a+4*b<=9000->a<9900:=ai [a,b] 0x3c26ac0d500e08ca0354c341700 0x401
def akO:a<=16^5->b<a->a+b<2^60:=ai [a,b] 0x3c10000000000000002d530100f001384000004540 0x100801
def akP:a<=100->a<2^63:=ai [a] 0xf20000000000000000b540381902540 0x401
def akQ:a+1≠0:=ai [a] 0x51060c640 0x401
def akR:a=b->c<b+1->c<=a:=ai [a,b,c] 0xe0023cc641090040 0x40100001
def akS:a=b->b<=100->a<=16777216:=ai [a,b] 0x38100000015500e064095050040 0x40000401
def akT:a<=100->b+(c+1)=a->b<=100:=ai [a,b,c] 0xe06409505000c319081381902540 0x100401
def akU:a=b->a+1=b+1:=ai [a,b] 0x40c641319010040 0x4000040000401
def akV:0<=100:=ai [] 0x381902558 0x1
def akW:a=b+1->b<=90->a<=100:=ai [a,b] 0xe06409500e05a095050319040 0x40000401
def akX:a=b+1->1+b=a:=ai [a,b] 0x400301650319040 0x10040100001
def akY:a<=b/\b<=a+3->c<=d/\d<=c+3->a<=5->c<=5->b+(d+1)<=50:=ai [a,b,c,d] 0xec8154c3190c139d08e7404ce31b08338309338c6c004e040 0x1004010000100001
def akZ:a<=b/\b<=a+3->c<=d/\d<=c+3->e<=f/\f<=e+3->a<=5->c<=5->e<=5->b+(d+(f+1)+1)<=50:=ai [a,b,c,d,e,f] 0xec8154c31930c6450c139d10e74239d01338c6c414e1444ce31b08338309338c6c004e040 0x40100401000010000100001
def ak1:a<=0->a=0:=ai [a] 0x41800e600 0x100401
def ak2(d:a<b):b-(a+1)+c+1<=b-a+c:=ai [a,b,(b-(a+1)),c,(b-a)] 0x38c0c431930309004c00440130c64008f040 0x4000000100001 rfl d (bh<|ai [a,b,(b-(a+1)),c,(b-a)] 0x38131900f040 0x401 rfl d)<|bh<|ai [a,b,(b-(a+1)),c,(b-a)] 0xe04040130c64008f040 0x401 rfl d<|bh<|ai [a,b,(b-(a+1)),c,(b-a)] 0x38131900f040 0x401 rfl d
def ak3(e:a+1<=b):a+1<=c-d+b:=ai [a,b,(c-d),c] 0xe30108c64038308e04c640 0x401 rfl e<|lm c d
def ak4:a+b<=c->d+a+b<=d+c:=ai [a,b,c,d] 0x38c0833013000ce08c040 0x401
def ak5:a<=b->a<=c+b:=ai [a,b,c] 0x38c04200e040 0x401
def ak7:a+b<c+1->d+1<=a->d+b<c:=ai [a,b,c,d] 0xf08c0433803190cf31908c040 0x100401
def ak8(h:a+b<c+1)(M:d+1<=e)(X:f+g<=b)(I:e=g-0+a):d+f<c:=ai [a,b,c,d,e,f,g,(g-0)] 0x3c23050d018c60740c00710e04c1853843190cf31908c040 0x1000010040100401 rfl h M X I<|bh<|ai [a,b,c,d,e,f,g,(g-0)] 0xe19840c00710e04c1853843190cf31908c040 0x1 rfl h M X I
def ak9:a<b->0+a<b:=ai [a,b] 0x3c130060f040 0x401
def ak_:a+(b+1*c)<=4000->a+c+b<=4000:=ai [a,b,c] 0x3be80254c04c0803be80254c30d099040 0x401
def as3:0<a/\a<=4000->a<=4000:=ai [a] 0x3be8025404cefa009500f018 0x100001
def alb:a+5<b->a<b:=ai [a,b] 0x3c100f04c740 0x401
def alc:a+5<b->a+1+4<b:=ai [a,b] 0x3c131c31900f04c740 0x401
def ald:a=b->c=a->d=b->c=d:=ai [a,b,c,d] 0x403090043400090040 0x1004000040000401000000040000401
def ale:a+10<b->a<b:=ai [a,b] 0x3c100f04c880 0x401
def alf:a+10<b->a+1+2<b:=ai [a,b] 0x3c131a31900f04c880 0x401
def alg:a+10<b->a+1+5<b:=ai [a,b] 0x3c131d31900f04c880 0x401
def alh:¬a+4<4:=ai [a] 0x50f70c700 0x401
end
section
variable{a b c d e f g h i j k l m n:N}
def yi(b:a=3):¬a<3:=b▸nA _
def tY(b:0<a):1+(a-1)=a:=su b
def LU(b:a>=9):¬a<9:=Tq b
def ahu(b:a=3):a<=100:=b▸nz rfl
def yg(b:a+1<=4000):a<=4000:=iK b
end
section
variable{a b c d e f g h i j k l m n:N}
def Dd:a<16->d=65+a->d<128:=ai [a,d] 0xf08009505030004109504fa00 0x100401
def ql1:2*(e+j+1)+1+c<=d+1->2*e+1+(2*j+1+c)<=d:=ai [e,j,c,d] 0x38330c08c64d05a31934068e3190cc08c64d31930101a 0x401
def ql2:a+1+e=f->b=f+j+1->b=a+(e+j+2):=ai [a,e,f,b,j] 0x1030c68c10100340c64c1020d008c04c640 0x40000001004000040100001
def ql3:a+1+e=f->f=a+(e+1):=ai [a,e,f] 0x40c31904009008c04c640 0x10040100001
def ql4:a+1+e=f->e+(a+1)<b->f<b:=ai [a,e,f,b] 0xf0c23c330c64005008c04c640 0x40100001
end
def yZ{x y z:N}(h:x=y+z):x-y=z:=h▸Ga y z
def ql7{c d e j x y z:N}(h:x=e+1)(k:y=j+1)(l:z=e+j+2):2*z-1+c<=d+1->2*x-1+(2*y-1+c)<=d:=by subst h k l;rw[ql1]
section
variable{a b c d e f g h i j k l m n:N}
def Dg(b:¬a=0):a/16<a:=Nat.div_lt_self (zY b)<|ζ
def L6{a:Int}(b:0<=a):¬a<0:=uG.mpr b
def L8(c:a<b):a+1<=b:=c
def Dm(c:a<b):a<=b:=iK c
def Dn(b:a<=2):a<3:=qA b
def Mn{a:Int}:a=a-0:=by simp+arith
def Mo{a:Int}:¬(1<=a/\a<=0):=λU=>absurd (qm U.1 U.2)<|ζ
def Mq(c:a+1<=b):a<=b:=iK c
def Ms{a:Int}{b:N}:a+↑(b+1)=a+1+↑b:=by simp+arith
def Mx(b:a<=9998):a+1<=9999:=qA b
def MC(c:a<b):a<b+1:=zR c
def aln(c:a<b):¬a=b:=ll c
def alp(b:0<a):a≠0:=kB b
def MM(d:a+b<=c):a+b<=c+1:=lk d
def afU(b:a%4<4):a%4=0\/a%4=1\/a%4=2\/a%4=3:=(by decide:∀x,x<4->x=0\/x=1\/x=2\/x=3) _ b
def afY(d:a<=1000)(M:b<a)(X:c=16777216):¬b>c:=λq=>absurd (sx (X▸q) M)<|l_.mpr<|bT d<|ζ
def afZ(c:a<=1000)(M:b=16777216):¬a>b:=M▸l_.mpr (bT c<|ζ)
def af0(b:a≠0):¬a=0:=b
def af5(b:a=9):a<=900:=b▸nz rfl
def agb(e:a<16)(M:b<16)(X:c<16)(I:d=65+a\/d=65+b\/d=65+c):d<128:=I.elim (Dd e) λU=>U.elim (Dd M)<|Dd X
def agm(b:a=9):a<=1000:=b▸nz rfl
def agq{a:Int}{b c:N}(d:0<=a)(M:a.toNat<=b)(X:b<=c)(I:c=16777216):a<2^63:=(Int.toNat_lt d).mp<|jA (bT M X)<|I▸(by decide:16777216<2^63)
def agw(b:a<=2):a<=3:=lk b
def agy{a:Int}:a=a+0:=by simp+arith
def agz{a:Int}{b:N}:a-1-↑b=a-↑(b+1):=by simp+arith
def agA{a:Int}{b:N}(c:a-1=0):¬(1<=a-1/\a-1<=↑b):=by simp+arith [*]at*
def agB{a:Int}{b:N}(c:a-1=0):1<=a/\a<=↑(b+1):=(Int.sub_eq_zero.mp c).symm▸#[Int.le_refl _,m8.mpr<|nB<|dm b]
def agC{a:Int}{b:N}(c:¬a-1=0)(M:1<=a/\a<=↑(b+1)):1<=a-1/\a-1<=↑b:=#[SF<|Int.lt_iff_le_and_ne.mpr ⟨M.1,λe=>c<|e▸rfl⟩,Int.sub_right_le_of_le_add M.2]
def agD{a:Int}{b:N}(c:¬(1<=a/\a<=↑(b+1))):¬(1<=a-1/\a-1<=↑b):=λU=>c #[qm U.1<|SI a<|ζ,Int.le_add_of_sub_right_le U.2]
def agE{a:Int}{b c:N}:a-↑b-↑c=a-↑(b+c):=by simp+arith
def agF{a:Int}{b c:N}(d:1<=a/\a<=↑b):¬(1<=a-↑b/\a-↑b<=↑c):=λU=>absurd (qm U.1<|Int.sub_nonpos_of_le d.2)<|ζ
def agG{a:Int}{b c:N}(d:1<=a/\a<=↑b):1<=a/\a<=↑(b+c):=#[d.1,qm d.2<|m8.mpr<|oY b c]
def agH{a:Int}{b c:N}(d:1<=a-↑b/\a-↑b<=↑c):1<=a/\a<=↑(b+c):=#[qm d.1<|SI a<|jy b,Int.le_add_of_sub_left_le d.2]
def agI{a:Int}{b c:N}(d:¬(1<=a/\a<=↑b))(M:¬(1<=a-↑b/\a-↑b<=↑c)):¬(1<=a/\a<=↑(b+c)):=λU=>M #[SF<|wH 1 _▸FA.mp λq=>d #[U.1,q],Int.sub_left_le_of_le_add U.2]
def agL:a+(b+1)=a+b+1:=rfl
def agO(c:a<b+1)(M:a≠b):a<b:=Nat.lt_of_le_of_ne (wR c) M
def agR{a:Int}{b:N}(c:1<=a/\a<=↑b):0<b:=jz.mp<|qm c.1 c.2
def agT(d:a<9)(M:¬b<9)(X:b<=a):c<9:=absurd (jA X d) M
def ag7(b:a<9):a+1<10:=qA b
def ag_(b:a<=3999):a<=4000:=lk b
def ahf(b:a≠0):1<a+1:=Tu<|zY b
def ahv(d:(a+b)/16=a/16+c):(a+c*16)%16=a%16:=by simp+arith
def ahy(c:a=b):a<=b+1-1-0:=lj c
def ahA(c:a+1<b+1):a<b:=Nat.lt_of_succ_lt_succ c
def ahC:a+1-1-(b+1)=a-1-b:=Gl a 1 b▸sr b 1▸rfl
def ahD(b:a/16=0)(M:¬a=0):65+a%16≠65:=λq=>M (by have:=cr a 16;rw[b,Nat.add_left_cancel (k:=0) q]at this;rw[this.symm])
def ahE(b:¬a/16=0):a≠0:=λq=>b<|congrArg (·/16) q
def ahQ(b:a+1<=9999):a<=9999:=iK b
def ah6(d:a<=b)(M:b<c):a+1<=c:=jA d M
def aib(b:a+1<=8):a<=8:=iK b
def aim(b:a=0):a<9:=b▸nz rfl
def ais(d:a+(b+1)=9)(M:c<a):c<a+1:=zR M
def ait(d:a+(b+1)=9)(M:c<a):¬c=a:=ll M
def aiv(d:a+(b+1)=9)(M:c=a):¬c<a:=M▸nA _
def aiw(d:a+(b+1)=9)(M:a<c):¬c<a+1:=Tq M
def aiy(d:a+(b+1)=9)(M:a<c):¬c=a:=kB M
def aiD(b:a<=9999):a<=10000:=lk b
def aiG(c:a<b):¬b=a:=kB c
def aiN(g:a<b/\b<=100)(M:2*(b-a)-1+c<=d+1)(X:1<b-a)(I:e<b-a-1)(Y:a+1+e=f):2*(f-a)-1+(2*(b-f)-1+c)<=d:=
 (Nat.exists_eq_add_of_lt<|ql4 Y<|Nat.add_lt_of_lt_sub<|Gl b a 1▸I).elim λK B=>ql7 (yZ<|ql3 Y) (yZ B) (yZ<|ql2 Y B) M
def ai5(b:4-ad a=ad (4-a)):4-a<2^63:=by simp+arith
def ajh{a:Int}{b:N}(c:0<=a)(M:a.toNat<b):a<↑b:=(Int.toNat_lt c).mp M
def aji(c:a-b=0):a<=b:=Tk c
def ajj(d:a=b)(M:a-c=0):b<=c:=d▸Tk M
def ajk(d:a-b=c+1):b<a:=Nat.lt_of_sub_pos<|d▸sB c
def ajp:5+0-Nat.succ 0≠0:=ζ
def aju{a:Int}(b:a<0)(M:-2^63<=a):-2^63<=a/\a<2^63:=#[M,Int.lt_trans b<|ζ]
def ajz(b:a<=80):a-65<16:=by simp+arith at*;assumption
def ajA(b:65<=a):65+(a-65)=a:=su b
def ajB(c:a+1+(b+1)<=10000):a+1+b<=10000:=iK c
def ajD(c:a+(b+1)<=10000):a+b<=10000:=iK c
def ajJ(d:a+(b+1)<=c):a+b<=c:=iK d
def ajQ(b:a<=9999):0+1+a<=10000:=oV b _
def ajT(c:a≠0):16*b+a≠0:=by simp+arith [*]at*
def aj1(c:0<a)(M:b<=16777216):b<=16777216+a:=Ge M
def aj3(c:a<=16777216):a<=16777216+(a-b):=Ge c
def akb(b:¬a%3=0):a%3=a%3-1+1:=(bh<|zY b).symm
def akh(b:a=3):a<=5:=b▸nz rfl
def asX(b:a+1=9):a=8:=qC b
def as0(b:a+1=10):a=9:=qC b
def akj(b:a=8):a<=900:=b▸nz rfl
def akp(d:a<=b):a+(c+1)<=b+(c+1):=oW d _
def akr(b:a=0\/a=1\/a=2):a<=2:=b.elim (·▸ζ) λU=>U.elim (·▸ζ) (·▸d8 _)
def aku(b:a+1<=5):a<5:=b
def akB(c:2<=a):2<=a+b:=Ge c
def akC(d:a<=4*b)(M:c=2\/c=3):c+a+1<=4*(b+1):=nB<|sr a c▸oU d (M.elim (·▸ζ) (·▸d8 _))
def akG(d:a+(b+1)<=c):a+(b+1)<=c+1:=lk d
def akN(c:a≠0):a+b≠0:=by simp+arith [*]at*
def ak0(e:a=b+1)(M:c<d)(X:c>=a)(I:d<=a):c<a:=wS M I
def ak6(d:a<=b):c+a<=c+b:=oV d _
def ala(c:a+4<b):a+3<b:=Tl c
end
def xP{a n:N}(h:a<=n):max (0:Int) (min (ad a) (n:Int))=a:=(congrArg (max (0:Int))<|Int.min_eq_left<|m8.mpr h).trans<|SG<|jy a
def aa3{a n:N}(h:¬a<=n):max (0:Int) (min (a:Int) (n:Int))=n:=(congrArg (max (0:Int))<|Int.min_eq_right<|m8.mpr<|Nat.le_of_not_le h).trans<|SG<|jy n
def aa4{k n:N}(h:k<=n):max (0:Int) (min (-(k:Int)+(n:Int)) (n:Int))=((n-k:N):Int):=(congrArg (λz=>max (0:Int)<|min z (n:Int))<|(wH _ _).trans (r6 h).symm).trans<|xP<|lm n k
def JE{a b:N}(h:b<=a):ad a-ad b=ad (a-b):=(r6 h).symm
def vD(m:N):-1+((m:Int)+1)=m:=(congrArg (-1+·)<|wH (m:Int) 1).trans<|Int.neg_add_cancel_left 1 m
def Jx{i n:N}(h:i<n):-1-ad i+(n:Int)=((n-1-i:N):Int):=(wH _ _).trans<|(congrArg ((n:Int)+·) (Int.neg_add (a:=1) (b:=i)).symm).trans<|(r6<|sr i 1▸h).symm.trans<|congrArg ad (Gl n 1 i).symm
def GS{r:N}(h:r<16):(65+r)%2^8=65+r:=Gi<|sx (Nat.add_lt_add_left h 65)<|ζ
def IE{n:N}(h:n<=16777216):(n:Int)<2^63:=jz.mpr<|jA h<|ζ
def aa2{k:Int}(L:0<=k)(a:k<2^63):(decide (k< -(2^63:Int))||decide (k>=2^63))=false:=congr (congrArg or<|decide_eq_false<|uG.mpr<|qm ζ L)<|decide_eq_false<|FA.mpr a
def abi{i n:N}(h:i<=n):¬min i n+(n-i+1)=n:=λe=>Nat.succ_ne_self n<|((congrArg (·+(n-i+1))<|sy h).trans<|congrArg (·+1)<|su h).symm.trans e
def abj{i n z:N}(h:i<=n)(hz:n<=z):min i n+1+(n-i)<=z+1:=bT (lj<|(congrArg (·+1+(n-i))<|sy h).trans<|(F_ i 1<|n-i).trans<|congrArg (·+1)<|su h)<|nB hz
def aoA{n:N}(h:n-1<n):(if(-1:Int)<0 then(-1:Int)+↑n else-1).toNat=n-1:=by
 cases n with
 |zero=>rw[nomatch h]
 |succ E=>rw[congrArg Int.toNat<|vD E]
def aoB{n:N}(h:n-1<n):(0:Int)<=-1+↑n/\(-1:Int)+↑n<↑n:=by
 cases n with
 |zero=>rw[nomatch h]
 |succ E=>rw[#[(vD E).symm▸jy E,(vD E).symm▸jz.mpr (zS E)]]
def alI{A c b q:N}(h:q+1<=b)(e:c=q)(z:A+b<=990):A+c+(b-(q+1))<=990:=bT (wQ A c _▸oV (bT (oW (e▸oZ c) _)<|lj<|su h) A) z
section
variable{a b c d e f g h i j k l m n:N}
def alT:c=b->d+4*a<=9000->e<=4*(c+1)->k+(b+1)=a->d+e+4*k<=9000:=ai [c,b,d,a,e,k] 0xe08ca0354c34570c10240330c64114e34c6407043823280d530d0dc090040 0x10010040001001
def alV:d+b<=990->k+1=b->d+k<=990:=ai [d,b,k] 0xe3de09530201004c64238f78254c040 0x100401
def alW:d+4*b<=9000->k+1=b->d+1+4*k<=9000:=ai [d,b,k] 0xe08ca0354c34270c64040131908e08ca0354c341700 0x400401
def alX:a<=b->1+3*a<=4*(b+1):=ai [a,b] 0x38d31905c30d01b64e040 0xc01
def alY:a<=b->3*a<=4*(b+1):=ai [a,b] 0x38d31905c3406ce040 0xc01
end
def yk{n t a b:Type}{f:n->a}{g:t->a}{u:n->b}{vs:!n}{l:!t}{k:N}(h:vs.map f=(l.take k).map g)(i:l.length<=1000):(vs.map u).length<=1000:=by have:=congrArg gT h;rw[aU,aU]at this;rw[aU,this];rw[bT (FW k l) i]
section
variable{a b c d e f g h i j k l m n:N}
def alZ:a<c->b<c->a+b+2<3*c:=ai [a,c,b] 0xf3416cc68c0803c108f040 0x100801
end
def aa0{i:Int}:(if i<0 then-i else i)=ad i.natAbs:=by
 split
 .next U=>rw[(Int.ofNat_natAbs_of_nonpos<|Int.le_of_lt U).symm]
 .next U=>rw[(Int.natAbs_of_nonneg<|uG.mp U).symm]
section
variable{a b c d e f g h i j k l m n:N}
def al0:a+b<=c->a+b<=b+c:=ai [a,b,c] 0x38c08130100e08c040 0x401
def al1:a+0<=c->a+b<=b+c:=ai [a,c,b] 0x38c04230200e04c600 0x401
def alJ:d=e+f->a=b+c->d+a=e+b+(f+c):=ai [d,e,f,a,b,c] 0x1030c14230404c0c040c1440d0302040 0x40000400004000040000401
def alK:a<=5000->b<=3->c<=50->a+b+c<=16777216:=ai [a,b,c] 0x38100000015530230100ec8154239b04e04e203540 0x40100401
end
section
variable{a b c d e f g h i j k l m n:N}
def alL:a+b<=a->b=0:=ai [a,b] 0x41804e00c040 0x100401
def alM:0<a->b=0->1<=a+b:=ai [a,b] 0xe30101941804f018 0x401
def alN:b=0->a+b<=a:=ai [b,a] 0x381300050600 0x401
def alO:n+(m+1)*f<=4000->k<=n+f->k+m*f<=4000:=λU q=>bT (oW q _)<|bT (lj<|(F_ n f<|m*f).trans<|(wQ n (m*f) f).trans<|congrArg (n+·) (Nat.succ_mul m f).symm) U
end
def alP{a b s:N}(h:a<b):¬2*(b-a)-1+s<=0:=l8.mpr<|Ti (zZ<|wS (by decide:1<2*1)<|zW 2<|zZ h) s
def alQ{a b:N}(h:a<b)(c:1<b-a):1<ad b-ad a:=Fy (jz.mpr c)<|zF<|r6<|iK h
def alR{a b:N}(h:a<b)(c:¬1<b-a):¬1<ad b-ad a:=λq=>c<|jz.mp<|Fy q<|zF (r6<|iK h).symm
def alS{a b:N}(h:a<b):ad b-ad a-1=ad (b-a-1):=(congrArg (·-1) (r6<|iK h).symm).trans (r6 (n:=b-a) (m:=1)<|zZ h).symm
section
variable{a b c d e f g h i j k l m n:N}
def alU:d+(f+1)<=1000->k=d->k<=16777216:=ai [d,f,k] 0x38100000015509000238fa0254c319040 0x100401
end
section
variable{D G H J a6 a8 bl bo bt:Prop} {C:Prop}
def ct{a b:Prop}{C:Prop}(h:a/\b)(k:a->b->C):C:=k h.1 h.2
def en{a b d:Prop}{C:Prop}(h:a/\b/\d)(k:a->b->d->C):C:=k h.1 h.2.1 h.2.2
def nY{a b d e:Prop}{C:Prop}(h:a/\b/\d/\e)(k:a->b->d->e->C):C:=k h.1 h.2.1 h.2.2.1 h.2.2.2
def xy{a b d e c:Prop}{C:Prop}(h:a/\b/\d/\e/\c)(k:a->b->d->e->c->C):C:=k h.1 h.2.1 h.2.2.1 h.2.2.2.1 h.2.2.2.2
def HQ{a b d e c f:Prop}{C:Prop}(h:a/\b/\d/\e/\c/\f)(k:a->b->d->e->c->f->C):C:=k h.1 h.2.1 h.2.2.1 h.2.2.2.1 h.2.2.2.2.1 h.2.2.2.2.2
def X4{a b d e c f g i j:Prop}{C:Prop}(h:a/\b/\d/\e/\c/\f/\g/\i/\j)(k:a->b->d->e->c->f->g->i->j->C):C:=k h.1 h.2.1 h.2.2.1 h.2.2.2.1 h.2.2.2.2.1 h.2.2.2.2.2.1 h.2.2.2.2.2.2.1 h.2.2.2.2.2.2.2.1 h.2.2.2.2.2.2.2.2
end
section
variable{K:Sort _} {D G H J:K->Prop} {C:Prop}
def dq(h:∃c,D c)(k:∀c,D c->C):C:=h.elim λc h=>k c h
def aJ(h:∃c,D c/\G c)(k:∀c,D c->G c->C):C:=h.elim λc h=>k c h.1 h.2
def bA(c:K)(L:D c)(a:G c):∃c,D c/\G c:=#[c,L,a]
def kK(h:∃c,D c/\G c/\H c)(k:∀c,D c->G c->H c->C):C:=h.elim λc h=>k c h.1 h.2.1 h.2.2
def eo(c:K)(L:D c)(a:G c)(M:H c):∃c,D c/\G c/\H c:=#[c,L,a,M]
def B7(c:K)(L:D c)(a:G c)(M:H c)(X:J c):∃c,D c/\G c/\H c/\J c:=#[c,L,a,M,X]
end
section
variable{K:Sort _} {U:Sort _} {D G H J a6 a8:K->U->Prop} {C:Prop}
def fW(h:∃c d,D c d)(k:∀c d,D c d->C):C:=h.elim λc h=>h.elim λd h=>k c d h
def kh(c:K)(d:U)(L:D c d):∃c d,D c d:=#[c,d,L]
def nZ(h:∃c d,D c d/\G c d)(k:∀c d,D c d->G c d->C):C:=h.elim λc h=>h.elim λd h=>k c d h.1 h.2
def ki(c:K)(d:U)(L:D c d)(a:G c d):∃c d,D c d/\G c d:=#[c,d,L,a]
def cp(h:∃c d,D c d/\G c d/\H c d)(k:∀c d,D c d->G c d->H c d->C):C:=h.elim λc h=>h.elim λd h=>k c d h.1 h.2.1 h.2.2
def bY(c:K)(d:U)(L:D c d)(a:G c d)(M:H c d):∃c d,D c d/\G c d/\H c d:=#[c,d,L,a,M]
def Bs(h:∃c d,D c d/\G c d/\H c d/\J c d)(k:∀c d,D c d->G c d->H c d->J c d->C):C:=h.elim λc h=>h.elim λd h=>k c d h.1 h.2.1 h.2.2.1 h.2.2.2
def Jq(c:K)(d:U)(L:D c d)(a:G c d)(M:H c d)(X:J c d):∃c d,D c d/\G c d/\H c d/\J c d:=#[c,d,L,a,M,X]
def xz(h:∃c d,D c d/\G c d/\H c d/\J c d/\a6 c d)(k:∀c d,D c d->G c d->H c d->J c d->a6 c d->C):C:=h.elim λc h=>h.elim λd h=>k c d h.1 h.2.1 h.2.2.1 h.2.2.2.1 h.2.2.2.2
def Jr(c:K)(d:U)(L:D c d)(a:G c d)(M:H c d)(X:J c d)(I:a6 c d):∃c d,D c d/\G c d/\H c d/\J c d/\a6 c d:=#[c,d,L,a,M,X,I]
def aa6(c:K)(d:U)(L:D c d)(a:G c d)(M:H c d)(X:J c d)(I:a6 c d)(Y:a8 c d):∃c d,D c d/\G c d/\H c d/\J c d/\a6 c d/\a8 c d:=#[c,d,L,a,M,X,I,Y]
end
section
variable{K:Sort _} {U:Sort _} {a7:Sort _} {D G H J a6 a8 bl bo bt:K->U->a7->Prop} {C:Prop}
def Bt(h:∃c d f,D c d f)(k:∀c d f,D c d f->C):C:=h.elim λc h=>h.elim λd h=>h.elim λf h=>k c d f h
def Js(c:K)(d:U)(f:a7)(L:D c d f):∃c d f,D c d f:=#[c,d,f,L]
def jg(h:∃c d f,D c d f/\G c d f)(k:∀c d f,D c d f->G c d f->C):C:=h.elim λc h=>h.elim λd h=>h.elim λf h=>k c d f h.1 h.2
def ve(c:K)(d:U)(f:a7)(L:D c d f)(a:G c d f):∃c d f,D c d f/\G c d f:=#[c,d,f,L,a]
def gX(h:∃c d f,D c d f/\G c d f/\H c d f)(k:∀c d f,D c d f->G c d f->H c d f->C):C:=h.elim λc h=>h.elim λd h=>h.elim λf h=>k c d f h.1 h.2.1 h.2.2
def gE(c:K)(d:U)(f:a7)(L:D c d f)(a:G c d f)(M:H c d f):∃c d f,D c d f/\G c d f/\H c d f:=#[c,d,f,L,a,M]
def xA(h:∃c d f,D c d f/\G c d f/\H c d f/\J c d f)(k:∀c d f,D c d f->G c d f->H c d f->J c d f->C):C:=h.elim λc h=>h.elim λd h=>h.elim λf h=>k c d f h.1 h.2.1 h.2.2.1 h.2.2.2
def B8(c:K)(d:U)(f:a7)(L:D c d f)(a:G c d f)(M:H c d f)(X:J c d f):∃c d f,D c d f/\G c d f/\H c d f/\J c d f:=#[c,d,f,L,a,M,X]
def Jt(c:K)(d:U)(f:a7)(L:D c d f)(a:G c d f)(M:H c d f)(X:J c d f)(I:a6 c d f):∃c d f,D c d f/\G c d f/\H c d f/\J c d f/\a6 c d f:=#[c,d,f,L,a,M,X,I]
def u8(h:∃c d f,D c d f/\G c d f/\H c d f/\J c d f/\a6 c d f/\a8 c d f)(k:∀c d f,D c d f->G c d f->H c d f->J c d f->a6 c d f->a8 c d f->C):C:=h.elim λc h=>h.elim λd h=>h.elim λf h=>k c d f h.1 h.2.1 h.2.2.1 h.2.2.2.1 h.2.2.2.2.1 h.2.2.2.2.2
def aa7(c:K)(d:U)(f:a7)(L:D c d f)(a:G c d f)(M:H c d f)(X:J c d f)(I:a6 c d f)(Y:a8 c d f):∃c d f,D c d f/\G c d f/\H c d f/\J c d f/\a6 c d f/\a8 c d f:=#[c,d,f,L,a,M,X,I,Y]
def aa8(c:K)(d:U)(f:a7)(L:D c d f)(a:G c d f)(M:H c d f)(X:J c d f)(I:a6 c d f)(Y:a8 c d f)(u:bl c d f)(b:bo c d f)(W:bt c d f):∃c d f,D c d f/\G c d f/\H c d f/\J c d f/\a6 c d f/\a8 c d f/\bl c d f/\bo c d f/\bt c d f:=#[c,d,f,L,a,M,X,I,Y,u,b,W]
end
section
variable{K:Sort _} {U:Sort _} {a7:Sort _} {bb:Sort _} {D G H J a6 a8 bl bo:K->U->a7->bb->Prop} {C:Prop}
def Bu(h:∃c d f g,D c d f g)(k:∀c d f g,D c d f g->C):C:=h.elim λc h=>h.elim λd h=>h.elim λf h=>h.elim λg h=>k c d f g h
def aa9(c:K)(d:U)(f:a7)(g:bb)(L:D c d f g):∃c d f g,D c d f g:=#[c,d,f,g,L]
def lz(h:∃c d f g,D c d f g/\G c d f g)(k:∀c d f g,D c d f g->G c d f g->C):C:=h.elim λc h=>h.elim λd h=>h.elim λf h=>h.elim λg h=>k c d f g h.1 h.2
def vf(c:K)(d:U)(f:a7)(g:bb)(L:D c d f g)(a:G c d f g):∃c d f g,D c d f g/\G c d f g:=#[c,d,f,g,L,a]
def X5(h:∃c d f g,D c d f g/\G c d f g/\H c d f g)(k:∀c d f g,D c d f g->G c d f g->H c d f g->C):C:=h.elim λc h=>h.elim λd h=>h.elim λf h=>h.elim λg h=>k c d f g h.1 h.2.1 h.2.2
def HS(h:∃c d f g,D c d f g/\G c d f g/\H c d f g/\J c d f g)(k:∀c d f g,D c d f g->G c d f g->H c d f g->J c d f g->C):C:=h.elim λc h=>h.elim λd h=>h.elim λf h=>h.elim λg h=>k c d f g h.1 h.2.1 h.2.2.1 h.2.2.2
def Ju(c:K)(d:U)(f:a7)(g:bb)(L:D c d f g)(a:G c d f g)(M:H c d f g)(X:J c d f g):∃c d f g,D c d f g/\G c d f g/\H c d f g/\J c d f g:=#[c,d,f,g,L,a,M,X]
def X6(h:∃c d f g,D c d f g/\G c d f g/\H c d f g/\J c d f g/\a6 c d f g)(k:∀c d f g,D c d f g->G c d f g->H c d f g->J c d f g->a6 c d f g->C):C:=h.elim λc h=>h.elim λd h=>h.elim λf h=>h.elim λg h=>k c d f g h.1 h.2.1 h.2.2.1 h.2.2.2.1 h.2.2.2.2
def aa_(c:K)(d:U)(f:a7)(g:bb)(L:D c d f g)(a:G c d f g)(M:H c d f g)(X:J c d f g)(I:a6 c d f g):∃c d f g,D c d f g/\G c d f g/\H c d f g/\J c d f g/\a6 c d f g:=#[c,d,f,g,L,a,M,X,I]
def X7(h:∃c d f g,D c d f g/\G c d f g/\H c d f g/\J c d f g/\a6 c d f g/\a8 c d f g/\bl c d f g/\bo c d f g)(k:∀c d f g,D c d f g->G c d f g->H c d f g->J c d f g->a6 c d f g->a8 c d f g->bl c d f g->bo c d f g->C):C:=h.elim λc h=>h.elim λd h=>h.elim λf h=>h.elim λg h=>k c d f g h.1 h.2.1 h.2.2.1 h.2.2.2.1 h.2.2.2.2.1 h.2.2.2.2.2.1 h.2.2.2.2.2.2.1 h.2.2.2.2.2.2.2
def aba(c:K)(d:U)(f:a7)(g:bb)(L:D c d f g)(a:G c d f g)(M:H c d f g)(X:J c d f g)(I:a6 c d f g)(Y:a8 c d f g)(u:bl c d f g)(b:bo c d f g):∃c d f g,D c d f g/\G c d f g/\H c d f g/\J c d f g/\a6 c d f g/\a8 c d f g/\bl c d f g/\bo c d f g:=#[c,d,f,g,L,a,M,X,I,Y,u,b]
end
section
variable{K:Sort _} {U:Sort _} {a7:Sort _} {bb:Sort _} {bs:Sort _} {D G H J a6 a8 bl bo bt:K->U->a7->bb->bs->Prop} {C:Prop}
def n_(h:∃c d f g a,D c d f g a/\G c d f g a)(k:∀c d f g a,D c d f g a->G c d f g a->C):C:=h.elim λc h=>h.elim λd h=>h.elim λf h=>h.elim λg h=>h.elim λa h=>k c d f g a h.1 h.2
def vg(c:K)(d:U)(f:a7)(g:bb)(a:bs)(L:D c d f g a)(b:G c d f g a):∃c d f g a,D c d f g a/\G c d f g a:=#[c,d,f,g,a,L,b]
def HT(h:∃c d f g a,D c d f g a/\G c d f g a/\H c d f g a)(k:∀c d f g a,D c d f g a->G c d f g a->H c d f g a->C):C:=h.elim λc h=>h.elim λd h=>h.elim λf h=>h.elim λg h=>h.elim λa h=>k c d f g a h.1 h.2.1 h.2.2
def Jv(c:K)(d:U)(f:a7)(g:bb)(a:bs)(L:D c d f g a)(b:G c d f g a)(M:H c d f g a):∃c d f g a,D c d f g a/\G c d f g a/\H c d f g a:=#[c,d,f,g,a,L,b,M]
def X8(h:∃c d f g a,D c d f g a/\G c d f g a/\H c d f g a/\J c d f g a/\a6 c d f g a/\a8 c d f g a/\bl c d f g a/\bo c d f g a/\bt c d f g a)(k:∀c d f g a,D c d f g a->G c d f g a->H c d f g a->J c d f g a->a6 c d f g a->a8 c d f g a->bl c d f g a->bo c d f g a->bt c d f g a->C):C:=h.elim λc h=>h.elim λd h=>h.elim λf h=>h.elim λg h=>h.elim λa h=>k c d f g a h.1 h.2.1 h.2.2.1 h.2.2.2.1 h.2.2.2.2.1 h.2.2.2.2.2.1 h.2.2.2.2.2.2.1 h.2.2.2.2.2.2.2.1 h.2.2.2.2.2.2.2.2
end
section
variable{K:Sort _} {U:Sort _} {a7:Sort _} {bb:Sort _} {bs:Sort _} {b0:Sort _} {ca:Sort _} {D G H J a6 a8 bl:K->U->a7->bb->bs->b0->ca->Prop} {C:Prop}
def X9(h:∃c d f g a b e,D c d f g a b e/\G c d f g a b e)(k:∀c d f g a b e,D c d f g a b e->G c d f g a b e->C):C:=h.elim λc h=>h.elim λd h=>h.elim λf h=>h.elim λg h=>h.elim λa h=>h.elim λb h=>h.elim λe h=>k c d f g a b e h.1 h.2
def Jw(c:K)(d:U)(f:a7)(g:bb)(a:bs)(b:b0)(e:ca)(L:D c d f g a b e)(h:G c d f g a b e):∃c d f g a b e,D c d f g a b e/\G c d f g a b e:=#[c,d,f,g,a,b,e,L,h]
def abb(c:K)(d:U)(f:a7)(g:bb)(a:bs)(b:b0)(e:ca)(L:D c d f g a b e)(h:G c d f g a b e)(M:H c d f g a b e)(X:J c d f g a b e)(I:a6 c d f g a b e)(Y:a8 c d f g a b e)(u:bl c d f g a b e):∃c d f g a b e,D c d f g a b e/\G c d f g a b e/\H c d f g a b e/\J c d f g a b e/\a6 c d f g a b e/\a8 c d f g a b e/\bl c d f g a b e:=#[c,d,f,g,a,b,e,L,h,M,X,I,Y,u]
end
section
variable{K:Sort _} {U:Sort _} {a7:Sort _} {bb:Sort _} {bs:Sort _} {b0:Sort _} {ca:Sort _} {ch:Sort _} {ck:Sort _} {D:K->U->a7->bb->bs->b0->ca->ch->ck->Prop} {C:Prop}
def asU(h:∃c d f g a b e i j,D c d f g a b e i j)(k:∀c d f g a b e i j,D c d f g a b e i j->C):C:=h.elim λc h=>h.elim λd h=>h.elim λf h=>h.elim λg h=>h.elim λa h=>h.elim λb h=>h.elim λe h=>h.elim λi h=>h.elim λj h=>k c d f g a b e i j h
end
def HR{f:Sort _}{a b d e:f->Prop}{C:Prop}(h:∃c,a c/\b c/\d c/\e c)(k:∀c,a c->b c->d c->e c->C):C:=h.elim λc h=>k c h.1 h.2.1 h.2.2.1 h.2.2.2
@[elab_as_elim]theorem oq{P:N->Prop}(n)(h:n<k+1)(hk:P k)(r:n<k->P n):P n:=(Tm.mp h).elim r λe=>e▸hk
@[elab_as_elim]theorem le3{n:Type}{P:!n->Prop}(L:P [])(d:∀a,P [a])(M:∀a b,P [a,b])(X:∀a b c,P [a,b,c])(l)(h:l.length<=3):P l:=l.casesOn (motive:=λl=>l.length<=3->P l) (λ_=>L) (λa l=>l.casesOn (λ_=>d a) λb l=>l.casesOn (λ_=>M a b) λc l=>l.casesOn (λ_=>X a b c) λ_ l h=>absurd h<|l8.mpr<|uN 4 l.length) h
def Iu{n:Type}{l:!n}(h:3<=l.length):∃a b c r,l=a::b::c::r:=l.casesOn (motive:=λl=>3<=l.length->∃a b c r,l=a::b::c::r) (λh=>(zX _ h).elim) (λa l=>l.casesOn (λh=>(zX _<|zQ h).elim) λb l=>l.casesOn (λh=>(zX _<|zQ<|zQ h).elim) λc r _=>#[a,b,c,r,rfl]) h
def H5{n:Type}{l:!n}(h:l.length=3):∃a b c,l=[a,b,c]:=
 (Iu<|lj h.symm).elim λa z=>z.elim λb z=>z.elim λc z=>z.elim λr e=>#[a,b,c,by subst e;rw[(wJ<|qC<|qC<|qC h)▸rfl]]
def abu{n:Type}[Decidable c]{t e r:n}(h:c)(k:t=r):(if c then t else e)=r:=(if_pos h).trans k
def JF{n:Type}[Decidable c]{t e r:n}(h:¬c)(k:e=r):(if c then t else e)=r:=(if_neg h).trans k
section
variable{M:Model} {A:dX} {E:af->aN->Prop} {s:aN} {D G:Type} {Q:D->aN->Prop} {c:Prop} [Decidable c] {t e:bk D}
def wE(h:¬c)(k:ej M A e Q E s):ej M A (if c then t else e) Q E s:=(if_neg h)▸k
def asB{e:bk G}(h:e=pure v)(k:ej M A (f v) Q E s):ej M A (e>>=f) Q E s:=h▸aT (bK k)
end
abbrev pw:qG:=PySem.Challenge.pw_oc0358_01
abbrev u6:bj->bk Fin:=PySem.W.Fast.tw11892475500146522536 PySem.W.Fast.tw14364793385576792824
abbrev H9:!bL->aX->bk Flow:=PySem.W.Fast.tw12563942051412417395
abbrev JD:PySem.Expr->aX->bk af->bk Bool:=PySem.W.Fast.tw15418851999007992765
abbrev xC:PySem.Expr->aX->bk af:=PySem.W.Fast.tw14044960220447912780
abbrev Em:af->bk (Option af):=PySem.W.Fast.tw9404975358583537561
abbrev AJ:PySem.Expr->aX->af->bk Unit:=PySem.W.Fast.tw17772580674575903948
abbrev C8:PySem.Expr->af->af->bk Unit:=PySem.W.Fast.tw1578499551869305889
def Py:pyNext=Em:=PySem.W.Fast.te9404975358583537561
def G0:PySem.assign=AJ:=PySem.W.Fast.te17772580674575903948
def Lv:letOwnedTupleGo=C8:=PySem.W.Fast.te1578499551869305889
abbrev G3:zC->kY->bk (List<|aA×af):=PySem.W.Fast.tw9782568553167038054
abbrev ID:af->aX->!zA->bk Flow:=PySem.W.Fast.tw14206642085496868694
def aac:handleBy=ID:=PySem.W.Fast.te14206642085496868694
abbrev Hr:PySem.CmpOp->af->af->bk af:=PySem.W.Fast.tw12886488535604756494
abbrev RE:af->bk Bool:=PySem.W.Fast.tw15245631507167962100
def V5:xl=Hr:=PySem.W.Fast.te12886488535604756494
def arI:wk=RE:=PySem.W.Fast.te15245631507167962100
abbrev En:bj->Bool:=PySem.W.ZFast.zw17772548960776305114
abbrev wy:bj->N:=PySem.W.ZFast.zw1243936422450756474
def Xw:nU table=u6:=by show _=PySem.W.Fast.tw11892475500146522536 PySem.W.Fast.tw14364793385576792824;rw[<-PySem.W.Fast.te11892475500146522536,<-PySem.W.Fast.te14364793385576792824,table_eq_tree]
def Yw:kg=H9:=PySem.W.Fast.te12563942051412417395
def abt:PySem.isTrue=JD:=PySem.W.Fast.te15418851999007992765
def BB:PySem.eval=xC:=PySem.W.Fast.te14044960220447912780
def UA:bindArgs=G3:=PySem.W.Fast.te9782568553167038054
def PB:Code.quiet=En:=PySem.W.ZFast.ze17772548960776305114
def asq:Code.weight=wy:=PySem.W.ZFast.ze1243936422450756474
structure aR where
 L:!(aH×Obj)
 n:N
 t:N
 h:!N
 gv:!af:=[]
 arm:N:=0
 O:!(aH×Obj):=[]
 Y:!(aH×Obj):=[]
structure Mk where
 v:Option af:=none
 fs:Option (!aX):=none
 kept:Bool:=false
def Mk.mark(t:Mk)(v:Option af):Mk:=#[v.or t.v,t.fs,false]
def Mk.under(t:Mk)(c:bj):Mk:=#[t.v,t.fs.map (c.envs++·),false]
def Mk.B6(t:Mk):Mk:=#[t.v,t.fs,true]
def Mk.ag(t:Mk):Mk:=#[t.v,bif t.kept then t.fs else none,false]
inductive As where
 |adr (a b:N)
 |bol (a b:Bool)
 |Eg (P:Prop)
def As.ok(a:As):Prop:=a.rec (λx y=>x=y) (λx y=>x=y) λc=>c
inductive av where
 |ok (r:aL) (g:aR)
 |again (c:bj) (g:aR)
 |call (b:N) (hd:Mk) (c:bj) (g:aR) (k:aL->aR->av)
 |gz (b:N) (hd:Mk) (t:bk af) (g:aR) (k:aL->aR->av)
 |need (a:As) (o:av)
 |bad
def av.bind:av->(aL->aR->av)->av
 |.ok r z,f=>f r z
 |.again _ _,_=>.bad
 |.call b t Z z j,f=>.call b t Z z λr c=>(j r c).bind f
 |.gz b t D z j,f=>.gz b t D z λr c=>(j r c).bind f
 |.need a Y,f=>.need a<|Y.bind f
 |.bad,_=>.bad
def av.vL:av->(bj->aR->av)->av
 |.again Z z,f=>f Z z
 |.call b t Z z j,f=>.call b t Z z λr c=>(j r c).vL f
 |.gz b t D z j,f=>.gz b t D z λr c=>(j r c).vL f
 |.need a Y,f=>.need a<|Y.vL f
 |.ok r z,_=>.ok r z
 |.bad,_=>.bad
inductive r8 where
 |tree (t:bk Fin)
 |code (c:bj)
 |loop (c:bj)
 |fn (a:aH) (args:kY)
 |gW (ss:!bL) (env:aX)
 |jU (e:PySem.Expr) (env:aX)
 |all (op:PySem.BoolOp) (es:!PySem.Expr) (env:aX)
 |emp (ne:Bool) (a:aH) (p2 pos:Pos) (env:aX)
abbrev r7:=N->String->kY->aR->Option (bk Fin×aR×!As)
abbrev Ih:=N->Mk->r8->aR->av
def nn{t:Type}{z:t}{C:Prop}(h:none=some z):C:=nomatch h
def oT{t:Type}(b:Bool)(x:Option t):Option t:=b.rec none x
def oE{n t:Type}(l:!n)(x:Option t):Option t:=l.rec x λU U U=>none
def oC{n t:Type}(l:!n)(k:n->!n->Option t):Option t:=l.rec none λa l U=>k a l
def oS{n t:Type}(o:Option n)(k:n->Option t):Option t:=o.rec none k
section
variable{J H:Type} {z:H}
variable{C:Prop}
def ko(h:oT b x=some z)(c:b=true->x=some z->C):C:=by
 cases b
 .rw[nn h]
 .rw[c rfl h]
def ov(h:oE l x=some z)(c:l=[]->x=some z->C):C:=by
 cases l
 .rw[c rfl h]
 .rw[nn h]
def gt(h:oC l k=some z)(c:∀a Q,l=a::Q->k a Q=some z->C):C:=by
 cases l
 .rw[nn h]
 .rw[c _ _ rfl h]
def cV(h:oS o k=some z)(c:∀a,o=some a->k a=some z->C):C:=by
 cases o
 .rw[nn h]
 .rw[c _ rfl h]
end
def vR(v:af):Option aH:=match v with
 |.ref a=>some a
 |_=>none
def vI(v:af):Option (Int×Tok):=match v with
 |.int i D=>some (i,D)
 |_=>none
def vS(v:af):Option (aA×Tok):=match v with
 |.str x D=>some (x,D)
 |_=>none
def vB(v:af):Option Bool:=match v with
 |.bool b=>some b
 |_=>none
def vY(v:af):Option (Array UInt8×Tok):=match v with
 |.bytes b D=>some (b,D)
 |_=>none
def vN(v:af):Bool:=match v with
 |.none=>true
 |_=>false
def Fb(h:vR v=some a):v=.ref a:=by
 cases v with
 |ref b=>rw[congrArg aF<|dZ h]
 |_=>rw[nn h]
def E_(h:vI v=some p):v=.int p.1 p.2:=by
 cases v with
 |int=>rw[dZ h▸rfl]
 |_=>rw[nn h]
def wu(h:vS v=some p):v=.str p.1 p.2:=by
 cases v with
 |str=>rw[dZ h▸rfl]
 |_=>rw[nn h]
def asb(h:vB v=some b):v=.bool b:=by
 cases v with
 |bool=>rw[congrArg Value.bool<|dZ h]
 |_=>rw[nn h]
def asd(h:vY v=some p):v=.bytes p.1 p.2:=by
 cases v with
 |bytes=>rw[dZ h▸rfl]
 |_=>rw[nn h]
def RX(h:vN v=true):v=.none:=by
 cases v with
 |none=>rfl
 |_=>rw[oL h]
def dQ(d:Data):Option (Array af×N):=match d with
 |.seq Q n=>some (Q,n)
 |_=>none
def dD(d:Data):Option (Array bv×N):=match d with
 |.dict Q n=>some (Q,n)
 |_=>none
def dF(d:Data):Option (Array af):=match d with
 |.fields Q=>some Q
 |_=>none
def HB(h:dQ d=some p):d=.seq p.1 p.2:=by
 cases d with
 |seq=>rw[dZ h▸rfl]
 |_=>rw[nn h]
def Xm(h:dD d=some p):d=.dict p.1 p.2:=by
 cases d with
 |dict=>rw[dZ h▸rfl]
 |_=>rw[nn h]
def Bb(h:dF d=some p):d=.fields p:=by
 cases d with
 |fields=>rw[congrArg Ft<|dZ h]
 |_=>rw[nn h]
def dU(d:Data):Option zC:=match d with
 |.func f=>some f
 |_=>none
def Xn(h:dU d=some p):d=.func p:=by
 cases d with
 |func=>rw[congrArg Data.func<|dZ h]
 |_=>rw[nn h]
def B_(id:String)(n:N):Bool:=eY (PySem.W.S.codeS id) n
def JA{id b:String}(h:B_ id n=true)(e:PySem.code b=n):id=b:=AX _ _<|(PySem.W.S.code_S id).trans<|(nv h).trans e.symm
def qW(v:af)(n:N):Bool:=match v with
 |.type Z=>B_ Z n
 |_=>false
def tD(h:qW v n=true)(e:PySem.code b=n):v=.type b:=by
 cases v with
 |type Z=>rw[congrArg aI<|JA h e]
 |_=>rw[oL h]
def mJ(b:Bool)(x:av):av:=b.rec .bad x
def mI{n:Type}(o:Option n)(k:n->av):av:=o.rec .bad k
def mH(g:aR)(k:N->aR->av):av:=g.h.rec .bad λi o U=>k i {g with h:=o}
def jj(i:N)(x:av)(k:N->av):av:=i.rec x λK U=>k K
def lM(r:aL)(k:Flow->av)(e:af->av):av:=r.rec e k
def vM(r:aL)(k:af->av)(e:af->av:=λU=>.bad):av:=lM r (λf=>f.rec .bad .bad .bad k) e
def vO(v:af)(k:Bool->av):av:=match v with
 |.bool b=>k b
 |_=>.bad
def vA(v:af)(k:aH->av):av:=match v with
 |.ref a=>k a
 |_=>.bad
def ud(r:aL)(k:Bool->av)(e:af->av:=λU=>.bad):av:=vM r (λv=>vO v k) e
def gP:!(aH×Obj)->N->Option (aH×Obj)
 |[],_=>none
 |p::_,0=>some p
 |_::l,i+1=>gP l i
def pX:!(aH×Obj)->N->Obj->!(aH×Obj)
 |[],_,_=>[]
 |p::l,0,o=>(p.1,o)::l
 |p::l,i+1,o=>p::pX l i o
def qL:!(aH×Obj)->aH->Obj->!(aH×Obj)
 |[],a,Y=>[(a,Y)]
 |p::l,a,Y=>p::qL l a Y
def tW(g:aR)(j:N):Option (aH×Obj):=(zP j 1000).rec (gP g.O<|j-1000)<|gP g.L j
def yc(T:N->Option Obj)(a:aH)(g:aR)(k:Obj->aR->av):av:=mH g λi b=>jj i (mI (T a) λY=>k Y b) λK=>mI (tW g K) λp=>.need (.adr a p.1)<|k p.2 b
def RT(a:aH)(f:Obj->Obj)(g:aR)(k:aR->av):av:=mH g λi b=>jj i .bad λK=>mI (gP g.L K) λp=>mJ ((not ((f p.2).isFreed)))<|.need (.adr a p.1)<|k {b with L:=pX g.L K<|f p.2}
def sV(v:Bool)(g:aR)(k:Bool->aR->av):av:=mH g λi a=>jj i (v.rec (k false a)<|k true a) λK=>jj K (.need (.bol v false)<|k false a) λU=>.need (.bol v true)<|k true a
section
variable(T:N->Option Obj) (w:eJ) (I:r7) (G:Ih) (b:N) (D:Mk)
def ou(E:Option af)(c:bj)(k:aL->bk Fin)(g:aR):av:=(G b (D.mark E) (.code c) g).bind λr a=>G b D (.tree<|k r) a
def xf(E:Option af)(args:kY)(k:aL->bk Fin)(g:aR)(f:af):av:=match f with
 |.ref a=>mH g λi c=>jj i (ou G b D E (.call (.ref a) args) k c) λi=>jj i (.call b (D.mark E) (.call (.ref a) args) c λr d=>G b D (.tree<|k r) d) λU=>(G b (D.mark E) (.fn a args) c).bind λr d=>G b D (.tree<|k r) d
 |.builtin id=>mH g λi c=>jj i (ou G b D E (.call (.builtin id) args) k c) λi=>jj i (E.rec (.call b D (.call (.builtin id) args) c λr d=>G b D (.tree<|k r) d) λU=>.bad) λK=>ou G b D E (.call (.builtin id) args) k {c with arm:=K+1}
 |f=>ou G b D E (.call f args) k g
def G8(E:Option af)(k:aL->bk Fin)(g:aR)(c:bj):av:=match c with
 |.call f n=>xf G b D E n k g f
 |.builtin id n=>(eY (PySem.W.S.codeS id) 7300717).rec (ou G b D E (.builtin id n) k g)
   <|mH g λi a=>jj i (ou G b D E (.builtin id n) k a) λK=>ou G b D E (.builtin id n) k {a with arm:=K}
 |.block p O=>ou G b D E (.block p O) k g
 |c=>mH g λi a=>jj i ((G b (D.mark E) (.loop c) a).bind λr d=>G b D (.tree<|k r) d) λU=>.call b (D.mark E) c a λr d=>G b D (.tree<|k r) d
def Q9(x:FuncBody):Option (!bL):=x.rec some λU=>none
def BU(o:Obj):Option (zC×!bL):=oS (dU o.data) λf=>oT ((not (f.scope.isCoroutine)))<|oT ((not (f.scope.isGenerator)))<|oS (Q9 f.body) λk=>some (f,k)
def Id(f:af):Option aH:=oS (vR f) λa=>oS (T a) λY=>oS (BU Y) λU=>some a
def afD(a:N)(id:String):Bool:=match PySem.W.S.codeS id with
 |n=>eY n 8174156937926964852||eY n 8174156937927680622||eY n 150786581052266377601598972183301089893||eY n 7635736742594467534504881056365||(eY a 0&&eY n 36058839055461744822429329989390181918337346850548333)
def GW(g:aR)(c:bj):av:=match c with
 |.whileLoop k h e O=>.again (.whileLoop k h e O) g
 |.forLoop k U h e O=>.again (.forLoop k U h e O) g
 |.compLoop e d U a O=>.again (.compLoop e d U a O) g
 |.builtin id n=>(afD g.arm id).rec (G b D.ag (.code<|.builtin id n) g)<|mH g λi j=>jj i (G b D.ag (.code<|.builtin id n) j) λi=>jj i (.again (.builtin id n) j) λK=>(eY K 99).rec (G b D.ag (.code<|.builtin id n) {j with arm:=K+1})<|.call b D.ag (.builtin id n) j .ok
 |.call f n=>(Id T f).rec (G b D.ag (.code<|.call f n) g) λa=>G b D.ag (.fn a n) g
 |c=>G b D.ag (.code c) g
def RB(t:bk Fin)(g:aR):av:=match t with
 |.pure o=>o.rec (λf=>.ok (.ok f) g) λZ=>mJ (En Z)<|GW T G b D g Z
 |.raise e=>.ok (.error e) g
 |.rule _ j=>G b D (.tree<|j ()) g
 |.at _ j=>G b D (.tree<|j ()) g
 |.point _ j=>G b D (.tree<|j ()) g
 |.ask j=>G b D (.tree<|j #[pw,w.params]) g
 |.load a _ j=>yc T a g λY c=>G b D (.tree<|j Y) c
 |.loadIfAlive a j=>yc T a g λY c=>G b D (.tree<|j<|some Y) c
 |.update a _ f j=>RT a f g λc=>G b D (.tree<|j ()) c
 |.alloc Y j=>mJ ((not (Y.isFreed)))<|G b D (.tree<|j g.n) {g with L:=qL g.L g.n Y,n:=g.n+1}
 |.fresh j=>G b D (.tree<|j g.t) {g with t:=g.t+1}
 |.handled i j=>i.rec (G b D (.tree<|j D.v) g) .bad
 |.call Z E _ _ j=>mJ (okMark E)<|G8 G b D E j g Z
 |_=>.bad
def H4(a:aH)(f:zC)(k:!bL)(args:kY):bk Fin:=(G3 f args).bind λb=>(newFunctionEnv f.scope f.globals f.closure b (f.qualname++".<locals>.") (some a) f.code none f.builtins).bind λO=>.pure<|.again<|.func k O
def Hg(v:af)(q:aA):Option Unit:=oS (vR v) λZ=>oS (T Z) λY=>oS (dF Y.data) λg=>oC g.toList λU l=>oC l λn U=>oS (vS n) λp=>oT (PySem.W.Fast.sEq p.1 q)<|some ()
def Ic(a:aH)(args:kY)(g:aR):av:=mI (T a) λY=>mI (BU Y) λp=>mI (Hg T p.1.code p.1.qualname) λU=>mJ (oX 1 b)<|G (b-1) D.B6 (.tree<|H4 a p.1 p.2 args) g
def BN(a:PySem.Expr)(it:af)(O:aX):bk Fin:=
 (rP a.pos).bind λU=>((Em it).onRaise λU=>rP {a.pos with line:=0}).bind λY=>match Y with
  |none=>.pure<|.done .brk
  |some v=>(C8 a it v).bind λU=>(AJ a O v).bind λU=>.pure<|.done .next
def Lm(e:PySem.Expr):Option (PySem.Expr×!Fq):=match e with
 |.ListComp a d _ _=>some (a,d)
 |_=>none
def Jp(l:!PySem.Expr):Option (Option PySem.Expr):=match l with
 |[]=>some none
 |[Z]=>some<|some Z
 |_=>none
def Hq(e:PySem.Expr)(r:N):Option (PySem.Expr×Fq×Option PySem.Expr):=oT (eY r 0)<|oS (Lm e) λp=>oC p.2 λz l=>oE l<|oT (z.is_async==0)<|oS (Jp z.ifs) λD=>some (p.1,z,D)
def A_(g:Fq)(it:af)(O:aX):bk Fin:=
 (rP g.iter.pos).bind λU=>(Em it).bind λY=>match Y with
  |none=>.pure<|.done .brk
  |some v=>(C8 g.target it v).bind λU=>(AJ g.target O v).bind λU=>.pure<|.done .next
def A9(a:PySem.Expr)(m:af)(O:aX):bk Fin:=(xC a O).bind λx=>(PySem.call (.builtin "list.append") [m,x]).bind λU=>.pure<|.done .next
def Bv(c:bj)(m:af)(O:aX)(a:PySem.Expr)(g:aR):av:=(G b D (.tree<|A9 a m O) g).bind λr d=>lM r (λf=>f.rec (.again c d) .bad .bad λU=>.bad) λU=>.bad
def Rx(c:bj)(m:af)(O:aX)(a:PySem.Expr)(t:Option PySem.Expr)(g:aR):av:=t.rec (Bv G b D c m O a g) λt=>(G b D (.jU t O) g).bind λr i=>ud r λv=>sV v i λq u=>q.rec (.again c u)<|Bv G b D c m O a u
def rt(O:aX)(e:af):bk af:=(x8 O e).bind λU=>.pure .none
def E4(c:bj)(g:aR)(f:Flow):av:=f.rec (.again c g) (.ok (.ok .next) g) (.again c g) λv=>.ok (.ok<|.ret v) g
def MY(l:!As)(o:av):av:=l.rec o λa U x=>.need a x
def apk(f:Flow):af:=f.rec .none .none .none λv=>v
def AV(L:N)(M:Mk)(g:aR)(c:bj):av:=match c with
 |.func k O=>(G b D (.gW k O) g).bind λr h=>lM r (λf=>.ok (.ok<|.ret<|apk f) h) λe=>.gz b D (rt O e) h λ_ d=>.ok (.error e) d
 |.whileLoop t k l O=>(G b D (.jU t O) g).bind λr h=>ud r λv=>sV v h λq d=>q.rec ((G b D (.gW l O) d).bind λr i=>lM r (λf=>.ok (.ok f) i) λ_=>.bad)
   <|(G b D (.gW k O) d).bind λr i=>lM r (E4 (.whileLoop t k l O) i) λ_=>.bad
 |.forLoop a U k l O=>(G b D (.tree<|BN a U O) g).bind λr h=>lM r (λf=>f.rec ((G b D (.gW k O) h).bind λr i=>lM r (E4 (.forLoop a U k l O) i) λ_=>.bad) (G L M (.code<|.block l O) h) .bad λ_=>.bad) λ_=>.bad
 |.compLoop e j U m O=>mI (Hq e j) λp=>(G b D (.tree<|A_ p.2.1 U O) g).bind λr h=>lM r (λf=>f.rec (Rx G b D (.compLoop e j U m O) m O p.1 p.2.2 h) (.ok (.ok .next) h) .bad λ_=>.bad) λ_=>.bad
 |.builtin id args=>jj g.arm (G b D (.tree<|u6<|.builtin id args) g) λK=>mI (I K id args {g with arm:=0}) λp=>MY p.2.2<|G b D (.tree p.1) p.2.1
 |c=>G b D (.tree<|u6 c) g
def Vj(c:bj)(g:aR):av:=mJ (oX (wy c+1) b)<|AV I G (b-(wy c+1)) (D.under c) b D g c
def km(s:bL)(O:aX):bk Fin:=(H9 [s] O).bind λf=>.pure<|.done f
def vr(e:PySem.Expr)(O:aX):bk Fin:=(JD e O<|xC e O).bind λb=>.pure<|.done<|.ret<|.bool b
def y8(rest:!bL)(O:aX)(r:aL)(g:aR):av:=lM r (λf=>f.rec (G b D (.gW rest O) g) (.ok (.ok .brk) g) (.ok (.ok .cont) g) λv=>.ok (.ok<|.ret v) g) λe=>.ok (.error e) g
def pI(e:PySem.Expr)(O:aX):bk Fin:=(xC e O).bind λv=>.pure<|.done<|.ret v
def IC(e:af)(O:aX)(hs:!zA):bk Fin:=(ID e O hs).bind λf=>.pure<|.done f
def RG(k:!bL)(hs:!zA)(O:aX)(g:aR):av:=(G b D (.gW k O) g).bind λr a=>lM r (λf=>.ok (.ok f) a) λe=>hs.rec .bad λU hs K=>.gz b D (rt O e) a λK d=>G b D (.tree<|IC e O (U::hs)) d
def E6(l r:PySem.Expr)(O:aX)(g:aR)(k:af->af->aR->av):av:=(G b D (.tree<|pI l O) g).bind λc w=>vM c λo=>(G b D (.tree<|pI r O) w).bind λd L=>vM d λn=>k o n L
def Hb(l r:PySem.Expr)(O:aX)(g:aR):av:=E6 G b D l r O g λo n L=>.gz b D (pY .Eq o n) L λa i=>vM a λv=>.ok (.ok<|.ret v) i
def AQ(e:PySem.Expr):Option (PySem.Expr×PySem.CmpOp×PySem.Expr×Pos):=match e with
 |.Compare l a f p=>oC a λd D=>oE D<|oC f λr D=>oE D<|some (l,d,r,p)
 |_=>none
def Hd(h:AQ e=some q):e=.Compare q.1 [q.2.1] [q.2.2.1] q.2.2.2:=by
 cases e with
 |Compare l a f p=>rw[gt h λd D K h=>ov h λO h=>gt h λr k b h=>ov h λU h=>?_];subst K O b U;rw[dZ h▸rfl]
 |_=>rw[nn h]
def Bz(op:PySem.CmpOp):Option Bool:=match op with
 |.Eq=>some false
 |.NotEq=>some true
 |_=>none
def UV(o:Option PySem.Expr):Option (PySem.Expr×PySem.Expr×Pos):=oS o λe=>oS (AQ e) λq=>oS (Bz q.2.1) λn=>oT ((not (n)))<|some (q.1,q.2.2.1,q.2.2.2)
def M7(a b:!bL):Bool:=a.rec (b.rec true λU U U=>false) λU U U=>false
def QG(O:aX)(g:aR)(s:bL):av:=match s with
 |.If t k l _=>(G b D (.jU t O) g).bind λr c=>ud r (λv=>sV v c λf d=>G b D (.gW (cond f k l) O) d) λe=>.ok (.error e) c
 |.Try k o a Z p=>(M7 a Z).rec (G b D (.tree<|km (.Try k o a Z p) O) g)<|RG G b D k o O g
 |.Return Y p=>(UV Y).rec (G b D (.tree<|km (.Return Y p) O) g) λq=>Hb G b D q.1 q.2.1 O g
 |s=>G b D (.tree<|km s O) g
def G5(ss:!bL)(O:aX)(g:aR):av:=ss.rec (.ok (.ok .next) g) λs Q U=>(QG G b D O g s).bind<|y8 G b D Q O
def qT:Obj:=#[.type "list",none,.seq #[[]] 0,#[[]]]
def JB(o:Obj):Option (Array af):=oT (qW o.cls 1970563693)<|oS (dQ o.data) λp=>some p.1
def HV(ne:Bool)(a:aH)(g:aR):av:=yc T a g λY b=>mI (JB Y) λQ=>.ok (.ok<|.ret<|.bool<|cond ne ((not ((eY Q.size 0))))<|eY Q.size 0) {b with L:=qL b.L b.n qT,n:=b.n+1}
def Vb(l:PySem.Expr)(ne:Bool)(i U:Pos)(O:aX)(g:aR):av:=(G b D (.tree<|pI l O) g).bind λr c=>vM r λv=>vA v λa=>G b D (.emp ne a i U O) c
def U_(op:PySem.CmpOp)(a b:Int):Option Bool:=match op with
 |.Eq=>some<|a==b
 |.NotEq=>some<|a !=b
 |.Lt=>some<|decide<|a<b
 |.LtE=>some<|decide<|a<=b
 |.Gt=>some<|decide<|a>b
 |.GtE=>some<|decide<|a>=b
 |_=>none
def Vc(op:PySem.CmpOp)(a b:!N):Option Bool:=match op with
 |.Eq=>some<|a==b
 |.NotEq=>some<|a !=b
 |_=>none
def AS(op:PySem.CmpOp)(o n:af):Option Bool:=(vI o).rec (oS (vS o) λa=>oS (vS n) λb=>Vc op a.1.cps.toList b.1.cps.toList) λa=>oS (vI n) λb=>U_ op a.1 b.1
def DT(op:PySem.CmpOp):Bool:=match op with
 |.Eq|.NotEq|.Lt|.LtE|.Gt|.GtE=>true
 |_=>false
def M3(e:PySem.Expr):Option Pos:=match e with
 |.List l p=>oE l<|some p
 |_=>none
def AR(op:PySem.CmpOp)(o n:af):bk Fin:=(Hr op o n).bind λZ=>(RE Z).bind λb=>.pure<|.done<|.ret<|.bool b
def OO(l:PySem.Expr)(op:PySem.CmpOp)(r:PySem.Expr)(O:aX)(g:aR):av:=E6 G b D l r O g λo n L=>(AS op o n).rec (G b D (.tree<|AR op o n) L) λv=>.ok (.ok<|.ret<|.bool v) L
def JC(op:PySem.UnaryOp):Bool:=op.rec false true false false
def He(e:PySem.Expr)(O:aX)(g:aR)(q:PySem.Expr×PySem.CmpOp×PySem.Expr×Pos):av:=(oS (Bz q.2.1) λy=>oS (M3 q.2.2.1) λi=>some (y,i)).rec ((DT q.2.1).rec (G b D (.tree<|vr e O) g)<|OO G b D q.1 q.2.1 q.2.2.1 O g) λz=>Vb G b D q.1 z.1 z.2 q.2.2.2 O g
def RH(O:aX)(g:aR)(e:PySem.Expr):av:=match e with
 |.UnaryOp d x p=>(JC d).rec (G b D (.tree<|vr (.UnaryOp d x p) O) g)<|(G b D (.jU x O) g).bind λr a=>ud r (λv=>.ok (.ok<|.ret<|.bool<|(not (v))) a) λe=>.ok (.error e) a
 |.BoolOp d k _=>G b D (.all d k O) g
 |e=>(AQ e).rec (G b D (.tree<|vr e O) g)<|He G b D e O g
def GX(op:PySem.BoolOp)(es:!PySem.Expr)(O:aX)(g:aR):av:=es.rec (.ok (.ok<|.ret<|.bool<|op.rec true false) g) λx Q U=>(G b D (.jU x O) g).bind λr a=>ud r (λv=>sV v a λq d=>op.rec (q.rec (.ok (.ok<|.ret<|.bool false) d)<|G b D (.all op Q O) d)<|q.rec (G b D (.all op Q O) d)<|.ok (.ok<|.ret<|.bool true) d) λe=>.ok (.error e) a
def JG(j:r8)(g:aR):av:=match j with
 |.tree d=>RB T w G b D d g
 |.code Z=>Vj I G b D Z g
 |.loop Z=>(G b D (.code Z) g).vL λL c=>mJ (En L)<|G b D (.loop L) c
 |.fn a n=>Ic T G b D a n g
 |.gW p O=>G5 G b D p O g
 |.jU e O=>RH G b D O g e
 |.all op es O=>GX G b D op es O g
 |.emp y a _ _ _=>HV T y a g
end
def yS(T:N->Option Obj)(w:eJ)(I:r7)(n:N):Ih:=n.rec (λU U U U=>.bad) λU f=>JG T w I f
section
structure HY (F:aH->Obj->Prop) (ks:!aH) (Y:!(aH×Obj)) (h:iz):Prop where
 led:∀p∈Y,h.get? p.1=some p.2
 off:∀p∈Y,p.1∉ks
 nd:(Y.map (·.1)).Nodup
 dj:∀p∈Y,∀o,¬F p.1 o
structure bF (F:aH->Obj->Prop) (H:aN) (g:aR) (s:aN):Prop where
 fr:∀a o,F a o->s.heap.get? a=some o
 led:∀p∈g.L,s.heap.get? p.1=some p.2
 nd:(g.L.map (·.1)).Nodup
 dj:∀p∈g.L,∀o,¬F p.1 o
 sz:s.heap.objs.size=g.n
 tk:s.toks=g.t
 rest:s.gens=H.gens/\s.drawn=H.drawn/\s.os=H.os
 ro:∀p∈g.O,F p.1 p.2
 hy:HY F (g.L.map (·.1)) g.Y s.heap
def mG:∀{L j p},gP L j=some p->p∈L
 |[],_,_,U=>by cases U
 |q::L,0,p,U=>by cases U;rw[.head _]
 |q::L,j+1,p,U=>.tail _<|mG U
def Ej:∀(L j o),(pX L j o).map (·.1)=L.map (·.1)
 |[],_,_=>rfl
 |q::L,0,o=>rfl
 |q::L,j+1,o=>by show q.1::_=q.1::_;rw[Ej L j o,]
def Ek:∀{L j p o},(L.map (·.1)).Nodup->gP L j=some p->∀q∈pX L j o,q=(p.1,o)\/(q∈L/\q.1≠p.1)
 |[],_,_,_,_,U,_,_=>by cases U
 |x::L,0,p,o,hn,U,q,u=>by
  cases U;rcases aY.mp u with rfl|u
  .rw[.inl rfl]
  .rw[.inr ⟨.tail _ u,λe=>?_⟩]
   rw[bW,c_]at hn;rw[hn.1<|e▸bw u]
 |x::L,j+1,p,o,hn,U,q,u=>by
  rw[bW,c_]at hn;rcases aY.mp u with rfl|u
  .rw[.inr ⟨.head _,λe=>hn.1<|e▸bw (mG U)⟩]
  .rcases Ek hn.2 U q u with e|⟨a,b⟩
   .rw[.inl e]
   .rw[.inr #[.tail _ a,b]]
def wZ:∀(L a o),qL L a o=L++[(a,o)]:=by
 intro J;induction J with
 |nil=>intro _ _;rw[rfl]
 |cons q L C=>intro a o;rw[congrArg (q::·)<|C a o]
variable{w:eJ} {T:N->Option Obj} {F:aH->Obj->Prop} {H:aN}
def bF.update{g:aR}{s:aN}(E:bF F H g s){j:N}{p:aH×Obj}{f:Obj->Obj}(B:gP g.L j=some p)(R:(f p.2).isFreed=false)(h':!N):bF F H {g with h:=h',L:=pX g.L j<|f p.2} {s with heap:=s.heap.update p.1 f}:=by
 have I:=mG B;have o:Heap.SameBut p.1 s.heap (s.heap.update p.1 f):=SA ..;rw[#[λa Y e=>?_,λq u=>?_,?_,λq u Y=>?_,?_,E.tk,E.rest,E.ro,#[λq u=>(o.2 q.1 λe=>E.hy.off q u<|e▸bw I).trans<|E.hy.led q u,λq u=>by show q.1∉(pX g.L j<|f p.2).map (·.1);rw[Ej,];rw[E.hy.off q u],E.hy.nd,E.hy.dj]]]
 .rw[(o.2 a λz=>E.dj p I Y<|z▸e).trans<|E.fr a Y e]
 .rcases Ek E.nd B q u with rfl|⟨a,b⟩
  .rw[qj f (E.led p I) R]
  .rw[(o.2 q.1 b).trans<|E.led q a]
 .rw[Ej,];rw[E.nd]
 .rcases Ek E.nd B q u with rfl|⟨a,b⟩
  .rw[E.dj p I Y]
  .rw[E.dj q a Y]
 .rw[o.1▸E.sz]
def bF.alloc{g:aR}{s:aN}(E:bF F H g s){o:Obj}(R:o.isFreed=false):bF F H {g with L:=qL g.L g.n o,n:=g.n+1} {s with heap:=s.heap.push o}:=by
 have d:∀p∈g.Y,p.1∉(qL g.L g.n o).map (·.1):=λq u f=>by
  rw[wZ,bf]at f;rcases ek.mp f with f|f
  .rw[E.hy.off q u f]
  .have e:q.1=g.n:=by simpa using f
   have c:=iJ<|E.hy.led q u;simp only[E.sz]at c;rw[nA _<|Gh c e.symm]
 rw[⟨λa h e=>k_ _<|E.fr a h e,λq u=>?_,?_,λq u h=>?_,?_,E.tk,E.rest,E.ro,#[λq u=>k_ _<|E.hy.led q u,d,E.hy.nd,E.hy.dj]⟩]
 .simp only[wZ]at u
  rcases ek.mp u with u|u
  .rw[k_ _<|E.led q u]
  .rcases iA.mp u with rfl
   rw[E.sz.symm▸r5 _ R]
 .show((qL g.L g.n o).map (·.1)).Nodup
  rw[wZ,bf,j3];refine⟨E.nd,by simp,λa i b j e=>(aJ (bn.mp i) λq u P=>?_)⟩;subst P;have c:=iJ<|E.led q u;simp only[E.sz]at c;rw[nA _ (Gh c<|(by simpa using j:b=g.n).symm.trans e.symm)]
 .simp only[wZ]at u
  rcases ek.mp u with u|u
  .rw[E.dj q u h]
  .rcases iA.mp u with rfl
   intro e;have c:=iJ<|E.fr _ _ e;simp only[E.sz]at c;rw[nA _ c]
 .rw[zD,E.sz]
def bF.hints{g:aR}{s:aN}(E:bF F H g s)(h':!N)(a:N):bF F H {g with h:=h',arm:=a} s:=#[E.fr,E.led,E.nd,E.dj,E.sz,E.tk,E.rest,E.ro,E.hy]
def bF.fresh{g:aR}{s:aN}(E:bF F H g s):bF F H {g with t:=g.t+1} {s with toks:=s.toks+1}:=#[E.fr,E.led,E.nd,E.dj,E.sz,by show s.toks+1=g.t+1;rw[E.tk,],E.rest,E.ro,E.hy]
def fL(b:N)(t:Mk)(A:dX):Prop:=A.depth+b<=990/\A.handled=t.v/\A.units+4*b<=9000/\∀l,t.fs=some l->A.frames=some l
def tC(c:bj):Bool:=match c with
 |.call (.builtin _) _=>true
 |_=>false
def fi(M:Model)(A:dX)(c:bj)(R:aL->aN->Prop)(s:aN):Prop:=(tC c).rec (gL M A c R s) (∀(j:Ctx) (p:Pos),j.In A->wpCode M (j.enter c none p) R p s)
def u_(h:gL M A c R s):fi M A c R s:=by
 delta fi;cases tC c
 .rw[h]
 .exactλj p t=>h _ p rfl<|Ctx.In.enter t c none p λe=>nn e
def gN(h:fi M A c R s)(f:∀r P,R r P->D r P):fi M A c D s:=by
 delta fi at h⊢
 revert h;cases tC c
 .exactλh=>jE h f
 .exactλh j p t=>wpCode_mono f<|h j p t
def lA{id:String}(h:ej M A (PySem.call (.builtin id) U) Q E s):fi M A (.call (.builtin id) #[U,[]]) (λr P=>match r with|.ok (.ret v)=>Q v P|.ok _=>False|.error e=>E e P) s:=λj p t=>by have z:=h j p t;simp only[Sem.wp_cmd_call]at z;rw[z]
abbrev Le(F F':aH->Obj->Prop):Prop:=∀a Y,F a Y->F' a Y
inductive Nx (F:aH->Obj->Prop) (H s:aN) (G:aR->(aH->Obj->Prop)->Prop):Prop where
 |mk (F':aH->Obj->Prop) (hF:Le F F') (g':aR) (D:bF F' H g' s) (h:G g' F')
variable(w H)in
def iI(A:dX)(R:aL->aN->Prop):av->(aH->Obj->Prop)->Prop
 |.ok r z,F=>∀s,bF F H z s->R r s
 |.again Z z,F=>Z.quiet=true/\∀s,bF F H z s->gL (aE pw w) A Z R s
 |.call b t Z z j,F=>∀s n,bF F H z s->fL b t n->fi (aE pw w) n Z (λr P=>Nx F H P λc T=>iI A R (j r c) T) s
 |.gz b t D z j,F=>∀s n,bF F H z s->fL b t n->ej (aE pw w) n D (λv P=>Nx F H P λc T=>iI A R (j (.ok<|.ret v) c) T) (λU U=>False) s
 |.need a Y,F=>a.ok/\iI A R Y F
 |.bad,_=>False
abbrev bE(w:eJ)(F:aH->Obj->Prop)(B:aN)(A:dX)(R:aL->aN->Prop)(o:av):Prop:=iI w B A R o F
abbrev RN(w:eJ)(F:aH->Obj->Prop)(B:aN)(A:dX)(R:aL->aN->Prop)(f:aL->aR->av)(r:aL)(s:aN):Prop:=Nx F B s λa T=>bE w T B A R<|f r a
section
variable{A A₁:dX} {R:aL->aN->Prop}
def xK:∀{o F},Le F0 F->bE w F H A R (o.bind f)->bE w F H A₁ (RN w F0 H A R f) o
 |.ok r z,F,W,U=>λs E=>#[F,W,z,E,U]
 |.again _ _,_,_,U=>U.elim
 |.call b t Z z j,F,W,U=>λs n E C=>gN (U s n E C) λr P y=>y.casesOn λT c d u S=>#[T,c,d,u,xK (λa o x=>c a o<|W a o x) S]
 |.gz b t D z j,F,W,U=>λs n E C=>ux (U s n E C) (λv P y=>y.casesOn λT c d u S=>#[T,c,d,u,xK (λa o x=>c a o<|W a o x) S]) λK K U=>U
 |.need a o,_,W,U=>#[U.1,xK W U.2]
 |.bad,_,_,U=>U.elim
def iG(h:bE w F H A R (o.bind f)):bE w F H A₁ (RN w F H A R f) o:=xK (λU U x=>x) h
def xL(e:∀{F},Le F0 F->∀c g,bE w F H A R (f c g)->c.quiet=true/\∀s,bF F H g s->gL (aE pw w) A c R s):∀{o F},Le F0 F->bE w F H A R (o.vL f)->bE w F H A R o
 |.ok r g,_,_,U=>U
 |.again c g,_,W,U=>e W c g U
 |.call b t c g j,_,W,U=>λs n E C=>gN (U s n E C) λr P y=>y.casesOn λT d h u S=>#[T,d,h,u,xL e (λa o x=>d a o<|W a o x) S]
 |.gz b t D g j,_,W,U=>λs n E C=>ux (U s n E C) (λv P y=>y.casesOn λT d h u S=>#[T,d,h,u,xL e (λa o x=>d a o<|W a o x) S]) λK K U=>U
 |.need a o,_,W,U=>#[U.1,xL e W U.2]
 |.bad,_,_,U=>U.elim
variable{C:Prop}
def rC(h:bE w F H A R (mJ b x))(c:b=true->bE w F H A R x->C):C:=by
 cases b
 .rw[gS h]
 .rw[c rfl h]
def ow{n:Type}{o:Option n}{k:n->av}(h:bE w F H A R (mI o k))(c:∀a,o=some a->bE w F H A R (k a)->C):C:=by
 cases o
 .rw[gS h]
 .rw[c _ rfl h]
def pQ(h:bE w F H A R (mH g k))(c:∀i hs,bE w F H A R (k i {g with h:=hs})->C):C:=by
 obtain⟨m,n,D,hs,b,a,J,d⟩:=g;cases hs
 .rw[gS h]
 .rw[c _ _ h]
def kp(h:bE w F H A R (jj i x k))(p:bE w F H A R x->C)(o:∀j,bE w F H A R (k j)->C):C:=by
 cases i
 .rw[p h]
 .rw[o _ h]
def qX(h:bE w F H A R (b.rec x y))(p:b=false->bE w F H A R x->C)(o:b=true->bE w F H A R y->C):C:=by
 cases b
 .rw[p rfl h]
 .rw[o rfl h]
def vP{n:Type}{o:Option n}{k:n->av}(h:bE w F H A R (o.rec x k))(p:bE w F H A R x->C)(b:∀a,o=some a->bE w F H A R (k a)->C):C:=by
 cases o
 .rw[p h]
 .rw[b _ rfl h]
def MZ(h:bE w F H A R (MY l o)):(∀a∈l,a.ok)/\bE w F H A R o:=by
 induction l with
 |nil=>rw[#[λU h=>(cQ h).elim,h]]
 |cons a l C=>rw[#[λx W=>(aY.mp W).elim (λe=>e▸h.1)<|(C h.2).1 x,(C h.2).2]]
end
def uF(I:r7)(w:eJ)(F:aH->Obj->Prop)(B:aN):Prop:=∀K id n z x,I K id n z=some x->(∀a∈x.2.2,a.ok)->∀(b:N) (t:Mk) (A:dX),fL b t A->∀(h:Fin->aN->Prop) (d:aL->aN->Prop) (s:aN),bF F B z s->(∀o P,h o P->mP pw w A d o P)->(∀P,bF F B x.2.1 P->aW (aE pw w) A (.builtin id n) x.1 h (er d) P)->gL (aE pw w) A (.builtin id n) d s
end
section
variable{w:eJ} {T:N->Option Obj} {F:aH->Obj->Prop} {D:aN}
structure jW (T:N->Option Obj) (F:aH->Obj->Prop):Prop where
 top:∀a o,T a=some o->F a o
 M9:∀h:iz,(∀a o,F a o->h.get? a=some o)->h.NoLimit
def jW.mono{T:N->Option Obj}{F F':aH->Obj->Prop}(B:jW T F)(h:∀a o,F a o->F' a o):jW T F':=#[λa o e=>h a o<|B.top a o e,λI W=>B.M9 I λa o e=>W a o<|h a o e]
def ip(F:aH->Obj->Prop)(w:eJ)(A:dX)(R:aL->aN->Prop):Fin->aN->Prop:=λo P=>match o with
 |.done f=>R (.ok f) P
 |.again L=>L.quiet=true/\(∀a Y,F a Y->P.heap.get? a=some Y)/\gL (aE pw w) A L R P
def Pm:∀(o s),ip F w A R o s->mP pw w A R o s
 |.done _,_,U=>U
 |.again _,_,U=>#[U.1,U.2.2]
def zO(F:aH->Obj->Prop)(w:eJ)(A:dX)(c:bj)(R:aL->aN->Prop):r8->aN->Prop
 |.tree D,s=>aW (aE pw w) A c D (ip F w A R) (er R) s
 |.code L,s=>gL (aE pw w) A L R s
 |.loop L,s=>gL (aE pw w) A L R s
 |.fn a n,s=>gL (aE pw w) A (.call (.ref a) n) R s
 |.gW p O,s=>aW (aE pw w) A c (kg p O) (λf P=>R (.ok f) P) (er R) s
 |.jU e O,s=>aW (aE pw w) A c (PySem.isTrue e O<|PySem.eval e O) (λb P=>R (.ok<|.ret<|.bool b) P) (er R) s
 |.all op es O,s=>aW (aE pw w) A c (allTrue op es O) (λb P=>R (.ok<|.ret<|.bool b) P) (er R) s
 |.emp y a i U O,s=>aW (aE pw w) A c (tB [.ref a] (PySem.eval (.List [] i) O)>>=λv=>rP U>>=λK=>operate [.ref a,v] (pY (cond y .NotEq .Eq) (.ref a) v)>>=λx=>tB [x]<|wk x) (λb P=>R (.ok<|.ret<|.bool b) P) (er R) s
def fK(b:N)(t:Mk)(A:dX)(c:bj):Prop:=fL b t (A.under c)/\(t.kept=true->c.envs=[])
def Sz(b:N)(t:Mk)(A:dX)(c:bj):r8->Prop
 |.code _|.loop _|.fn _ _=>fL b t A
 |_=>fK b t A c
abbrev wY(T:N->Option Obj)(C:Ih)(w:eJ)(B:aN):Prop:=∀{F},jW T F->∀(b:N) (t:Mk) K z A Z d s,bE w F B A d (C b t K z)->bF F B z s->Sz b t A Z K->zO F w A Z d K s
def aoD(W:Le F F'):∀(o s),ip F' w A R o s->ip F w A R o s
 |.done _,_,U=>U
 |.again _,_,U=>#[U.1,λa Y x=>U.2.1 a Y<|W a Y x,U.2.2]
def alE(W:Le F F'):∀{j s},zO F' w A c R j s->zO F w A c R j s
 |.tree _,_,U=>mX U (aoD W) λK K U=>U
 |.code _,_,U=>U
 |.loop _,_,U=>U
 |.fn _ _,_,U=>U
 |.gW _ _,_,U=>U
 |.jU _ _,_,U=>U
 |.all _ _ _,_,U=>U
 |.emp _ _ _ _ _,_,U=>U
def bF.look{g:aR}{s:aN}(E:bF F D g s){j:N}{p:aH×Obj}(h:tW g j=some p):s.heap.get? p.1=some p.2:=by
 unfold Mine.tW at h
 cases e:zP j 1000<;>rw[e]at h
 .rw[E.fr _ _<|E.ro p<|mG h]
 .rw[E.led p<|mG h]
section
variable{A:dX} {R:aL->aN->Prop} {g:aR} {s:aN} {P:Prop} (G:bF F D g s)
include G
theorem Db{a:aH}{k:Obj->aR->av}(B:jW T F)(h:bE w F D A R (yc T a g k))(b:∀o c,s.heap.get? a=some o->bE w F D A R (k o c)->bF F D c s->P):P:=pQ h λU U h=>kp h (λh=>ow h λo e h=>b o _ (G.fr a o<|B.top a o e) h<|G.hints _ _) λU h=>ow h λp e h=>b p.2 _ ((h.1)▸G.look e) h.2<|G.hints _ _
theorem asa{a:aH}{f:Obj->Obj}{k:aR->av}(h:bE w F D A R (RT a f g k))(b:∀o c,s.heap.get? a=some o->bE w F D A R (k c)->bF F D c {s with heap:=s.heap.update a f}->P):P:=
 pQ h λU U h=>kp h (λh=>h.elim) λU h=>ow h λp e h=>rC h λd h=>by
  have K:=h.1;subst K
  rw[b p.2 _ (G.led p<|mG e) h.2<|G.update e (by cases q:(f p.2).isFreed<;>rw[q]at d<;>first|rfl|cases d) _]
theorem Xv{v:Bool}{k:Bool->aR->av}(h:bE w F D A R (sV v g k))(b:∀a,bE w F D A R (k v a)->bF F D a s->P):P:=pQ h λU U h=>kp h (λh=>by cases v<;>rw[b _ h<|G.hints _ _]) λU h=>kp h (λh=>b _ ((h.1)▸h.2)<|G.hints _ _) λU h=>b _ ((h.1)▸h.2)<|G.hints _ _
end
def xd(h:fL b K A):fL b (K.mark J) (A.mark J):=#[h.1,by show J.or A.handled=_;rw[h.2.1▸?_];rfl,h.2.2.1,h.2.2.2]
def Ud(h:fK b J A c):fL b J.ag A:=by
 obtain⟨⟨e,M,X,I⟩,Y⟩:=h;rw[#[bT (oW (oY _ _) _) e,M,bT (oW (oY _ _) _) X,λl a=>?_]];obtain⟨v,d,R⟩:=J;cases R with
 |false=>cases a
 |true=>rw[aJ (Around.frames_under<|I l a) λr K O=>?_];rw[Y rfl]at O;simp only[K,O];rfl
def ar9(c:bj):c.cUnits<=4*(c.weight+1):=by
 have R:c.frames<=c.weight:=ajd;unfold Code.cUnits
 split<;>first|rw[alX R]|rw[alY R]
def Ue(h:fL b J A)(Y:oX (wy c+1) b=true):fK (b-(wy c+1)) (J.under c) A c:=by
 have Y:=nz Y;have e:=congrFun asq c;rw[#[#[?_,h.2.1,?_,λl a=>?_],λe=>nomatch e]]
 .have z:=h.1
  rw[alI Y e z]
 .have z:=h.2.2.1
  have S:=ar9 c;rw[alT e z S<|bh Y]
 .show pushEnvs c.envs A.frames=some l
  have a:J.fs.map (c.envs++·)=some l:=a;rw[pushEnvs_eq,];cases e:J.fs with
  |none=>rw[e]at a;cases a
  |some r=>rw[h.2.2.2 r e,];rw[e]at a;rw[a]
def MT(h:okMark J=true):J≠some byPass:=by rintro rfl;simp[okMark]at h
def Sd{n:Type}{m:bk n}{f c:n->bk Fin}(h:eZ M J (m>>=f) Q E p s)(g:∀a z P,eZ M J (f a) Q E z P->eZ M J (c a) K E z P):eZ M J (m>>=c) K E p s:=by simp only[jC]at h⊢;rw[iB M J m (λa z P S=>g a z P S) (λU U U S=>S) p s h]
def an5(B:A.depth<recursionLimit)(y:s.heap.get? a=some o)(E:o.data=.func J)(n:J.scope.isCoroutine=false)(r:J.scope.isGenerator=false)(m:J.body=.stmts U)(c:s.heap.CodeRec J.code J.qualname)(x:∀h:iz,(∀a o,F a o->h.get? a=some o)->h.NoLimit)(h:aW (aE pw w) A (.call (.ref a) args) (bindArgs J args>>=λb=>newFunctionEnv J.scope J.globals J.closure b (J.qualname++".<locals>.") (some a) J.code none J.builtins>>=λO=>.pure<|.again<|.func U O) (ip F w A R) (er R) s):gL (aE pw w) A (.call (.ref a) args) R s:=by
 rw[uz pw w A R s _<|hV<|mY<|wpAny_load y<|HS c λZ C g l d z q u=>?_];simp only[E,callFunction,n,r,m,d];rw[d]at h;rw[hV<|mY<|jv z q u<|hV<|mY<|bK ?_];intro j p e t;rw[Sd (h j p e t) λb S k f=>Sd f λO i K M=>?_];have X:=M;have I:ej (aE pw w) (A.under<|.call (.ref a) args) (enterFrame>>=λ_=>(pc<|Fin.again<|.func U O)) (mP pw w A R) (er R) K:=aT<|wpAny_enterFrame (x K.heap X.2.1) B λ_ _ _=>#[X.1,X.2.2]
 rw[I j i<|e▸t.in]
end
section
variable{w:eJ} {T:N->Option Obj} {F:aH->Obj->Prop} {H:aN}
def yr(h:((not (b)))=true):b=false:=by cases b<;>first|rfl|cases h
def aqJ(h:Q9 x=some l):x=.stmts l:=by
 cases x with
 |stmts=>rw[congrArg FuncBody.stmts<|dZ h]
 |_=>rw[nn h]
def ZF(h:BU o=some p):o.data=.func p.1/\p.1.scope.isCoroutine=false/\p.1.scope.isGenerator=false/\p.1.body=.stmts p.2:=cV h λf e h=>ko h λK h=>ko h λO h=>cV h λk a h=>dZ h▸#[Xn e,yr K,yr O,aqJ a]
def Zl(h:Id T f=some a):f=.ref a:=cV h λy e h=>cV h λ_ _ h=>cV h λ_ _ h=>(dZ h)▸Fb e
def Vk(B:jW T F){h:iz}(W:∀a o,F a o->h.get? a=some o)(e:Hg T v q=some u):h.CodeRec v q:=
 cV e λZ K e=>cV e λo O e=>cV e λg b e=>gt e λx l U e=>gt e λn Q i e=>cV e λp f e=>ko e λd _=>Ju Z o g p.2 (Fb K) (W _ _<|B.top _ _ O) (Bb b) (by rw[<-So,U,i,wu f,<-PySem.W.Fast.sEq_iff.mp d];rfl)
def amk(h:M3 r=some p):r=.List [] p:=by
 cases r with
 |List l q=>rw[ov h λe h=>e▸dZ h▸rfl]
 |_=>rw[nn h]
def Vd(h:AS op b0 v2=some v)(k:Q (.bool v) s):ej (aE pw w) A (xl op b0 v2) Q E s:=by
 unfold AS at h;cases e:vI b0 with
 |some a=>
  simp only[e]at h;rw[cV h λb O h=>?_];obtain rfl:=E_ e;obtain rfl:=E_ O;cases op with
  |Eq=>cases h;rw[P.eq_int k]
  |NotEq=>cases h;rw[P.ne_int k]
  |Lt=>cases h;rw[P.lt_int k]
  |LtE=>cases h;rw[P.le_int k]
  |Gt=>cases h;rw[P.gt_int k]
  |GtE=>cases h;rw[P.ge_int k]
  |_=>rw[nn h]
 |none=>
  simp only[e]at h;rw[cV h λa K h=>cV h λb O h=>?_];obtain rfl:=wu K;obtain rfl:=wu O;cases op with
  |Eq=>cases h;rw[P.eq_str k]
  |NotEq=>cases h;rw[P.ne_str k]
  |_=>rw[nn h]
def VH:PySem.code "list"=1970563693:=by decide+kernel
def abo(h:JB o=some xs):∃d n b0,o=#[.type "list",d,.seq xs n,b0]:=
 ko h λe h=>cV h λp O h=>Js o.dict p.2 o.slots (by obtain⟨Z,d,a,b0⟩:=o;obtain rfl:=tD e VH;obtain rfl:=HB O;obtain rfl:=dZ h;rfl)
def ae8(h:Lm e=some p):∃x y,e=.ListComp p.1 p.2 x y:=by
 cases e with
 |ListComp a d x y=>rw[kh x y<|dZ h▸rfl]
 |_=>rw[nn h]
def aa1(h:Jp l=some t):l=t.toList:=by
 match l,h with
 |[],h=>rw[dZ h▸rfl]
 |[Z],h=>rw[dZ h▸rfl]
def VZ(h:Hq e b0=some q):b0=0/\∃x y,e=.ListComp q.1 [#[q.2.1.target,q.2.1.iter,q.2.2.toList,0]] x y:=
 ko h λK h=>cV h λp O h=>gt h λz l a h=>ov h λU h=>ko h λi h=>cV h λD f h=>by rw[fW (ae8 O) λx y d=>?_];obtain⟨c,b,T,k⟩:=z;obtain rfl:=aa1 f;obtain rfl:=eq_of_beq i;obtain rfl:=dZ h;rw[#[nv K,x,y,by simp only[d,a,U]]]
def abp(h:JC op=true):op=.Not:=by cases op<;>first|rfl|cases h
def H6(h:Bz op=some n):op=cond n .NotEq .Eq:=by
 cases op with
 |Eq=>cases h;rfl
 |NotEq=>cases h;rfl
 |_=>rw[nn h]
def amn(h:M7 a b=true):a=[]/\b=[]:=by cases a<;>cases b<;>first|rw[#[rfl,rfl]]|cases h
def jM{n:Type}{a:n}{Q:n->aN->Prop}(h:Q a s):aW (aE pw w) A c (pc a) Q E s:=λ_ _ _ _=>h
def yv{n:Type}{m:bk n}{k:n->Fin}(h:aW (aE pw w) A c (m.bind λa=>.pure<|k a) Q E s):aW (aE pw w) A c m (λa P=>Q (k a) P) E s:=λj p d t=>by have b:eZ (aE pw w) j (m>>=λa=>(pc<|k a)) (λa _ P=>Q a P) (λe _ P=>E e P) p s:=(h j p d t);simp only[jC]at b;rw[b]
def C7(z:aW (aE pw w) A c (pI l b0) (ip F w A R) (er R) s):aW (aE pw w) A c (PySem.eval l b0) (λv P=>R (.ok<|.ret v) P) (er R) s:=yv (by unfold pI at z;rw[<-BB]at z;rw[z])
def uy{n:Type}{m:bk n}{f c:n->bk Fin}(h:eZ M a7 (m>>=f) Q E p s)(g:∀a z P,eZ M a7 (f a) Q E z P->eZ M a7 (c a) ca b0 z P)(i:∀e z P,E e z P->b0 e z P):eZ M a7 (m>>=c) ca b0 p s:=by simp only[jC]at h⊢;rw[iB M a7 m (λa z P S=>g a z P S) (λe z P S=>i e z P S) p s h]
def ao6(ss O):(Code.block ss O).quiet=true:=by rfl
def Yg(j:tC c=false)(h:fi (aE pw w) A c R s):gL (aE pw w) A c R s:=by unfold fi at h;rw[j]at h;rw[h]
def Ef{l J:af->bk Unit}{aK X:bk Fin}(A:∀e p s,E e p s->b0 e p s)(z:eZ M a7 (ch>>=λ_=>m>>=λo=>match o with|none=>(.pure<|.done .brk:bk Fin)|some v=>l v>>=λ_=>J v>>=λ_=>.pure<|.done .next) Q E p s)(j:∀p s,Q (.done .brk) p s->eZ M a7 aK ca b0 p s)(c:∀p s,Q (.done .next) p s->eZ M a7 X ca b0 p s):eZ M a7 (ch>>=λ_=>m>>=λo=>match o with|none=>aK|some v=>l v>>=λ_=>J v>>=λ_=>X) ca b0 p s:=
 uy z (λ_ _ _ b=>uy b (λo _ _ a=>by
  cases o with
  |none=>rw[j _ _ a]
  |some v=>rw[uy a (λ_ _ _ I=>uy I (λ_ _ _ Y=>c _ _ Y) A) A]) A) A
section
variable{I:r7} (bt:∀F,uF I w F H) {J:Ih} (G:wY T J w H) (B:jW T F) {b:N} {D:Mk} {g:aR} {A:dX} {c:bj} {R:aL->aN->Prop} {s:aN}
include G B
theorem EY{k:aL->bk Fin}(C:fK b D A c){r:aL}{P:aN}(h:RN w F H A R (λr a=>J b D (.tree<|k r) a) r P):aW (aE pw w) A c (k r) (ip F w A R) (er R) P:=by obtain⟨T,W,a,u,S⟩:=h;rw[alE W<|G (B.mono W) b D (.tree<|k r) a A c R P S u C]
section
variable{U:Option af} {k:aL->bk Fin} {a8:Bool} {bb:!af} (a6:okMark U=true) (K:fK b D A c)
include a6 K
theorem EQ{j:r8}{L:bj}(z:∀e,bE w F H ((A.under c).mark U) e (J b (D.mark U) j g)->gL (aE pw w) ((A.under c).mark U) L e s) (h:bE w F H A R ((J b (D.mark U) j g).bind λr a=>J b D (.tree<|k r) a)):aW (aE pw w) A c (.call L U a8 bb k) (ip F w A R) (er R) s:=y_call Fin pw w A c _ _ s L U a8 bb k (MT a6)<|jE (z _<|iG h) λ_ _=>EY G B K
theorem pP{L:bj}(h:bE w F H A R (ou J b D U L k g))(E:bF F H g s):aW (aE pw w) A c (.call L U a8 bb k) (ip F w A R) (er R) s:=EQ G B a6 K (λe h=>G B b _ (.code L) g _ L e s h E<|xd K.1) h
theorem ON{L:bj}(j:tC L=false)(h:bE w F H A R (.call b (D.mark U) L g λr d=>J b D (.tree<|k r) d))(E:bF F H g s):aW (aE pw w) A c (.call L U a8 bb k) (ip F w A R) (er R) s:=y_call Fin pw w A c _ _ s L U a8 bb k (MT a6)<|jE (Yg j<|h s _ E<|xd K.1) λ_ _=>EY G B K
theorem UN{f:af}{args:kY}(h:bE w F H A R (xf J b D U args k g f))(E:bF F H g s):aW (aE pw w) A c (.call (.call f args) U a8 bb k) (ip F w A R) (er R) s:=by
 cases f with
 |ref a=>delta xf at h;rw[pQ h λi o h=>kp h (λh=>pP G B a6 K h<|E.hints _ _) λi h=>kp h (λh=>ON G B a6 K rfl h<|E.hints _ _) λ_ h=>EQ G B a6 K (λe h=>G B b _ (.fn a args) _ _ c e s h (E.hints _ _)<|xd K.1) h]
 |builtin id=>
  delta xf at h;dsimp only at h;rw[pQ h λi o h=>kp h (λh=>pP G B a6 K h<|E.hints _ _) λi h=>kp h (λh=>?_) λl h=>pP G B a6 K h<|E.hints _ _];cases U with
  |some _=>rw[gS h]
  |none=>intro j p d t;rw[wpCode_mono (λr P q=>EY G B K q j p d t)<|h s (A.under c) (E.hints _ _) K.1 j p<|d▸t.in]
 |_=>rw[pP G B a6 K h E]
theorem UP{L:bj}(h:bE w F H A R (G8 J b D U k g L))(E:bF F H g s):aW (aE pw w) A c (.call L U a8 bb k) (ip F w A R) (er R) s:=by
 have Y:tC L=false->bE w F H A R (mH g λi a=>jj i ((J b (D.mark U) (.loop L) a).bind λr d=>J b D (.tree<|k r) d) λ_=>.call b (D.mark U) L a λr d=>J b D (.tree<|k r) d)->aW (aE pw w) A c (.call L U a8 bb k) (ip F w A R) (er R) s:=λj h=>pQ h λi o h=>kp h (λh=>EQ G B a6 K (λe h=>G B b _ (.loop L) _ _ c e s h (E.hints _ _)<|xd K.1) h) λ_ h=>ON G B a6 K j h<|E.hints _ _
 cases L with
 |call f n=>rw[UN G B a6 K h E]
 |builtin id n=>rw[qX h (λ_ h=>pP G B a6 K h E) λ_ h=>pQ h λi o h=>kp h (λh=>pP G B a6 K h<|E.hints _ _) λl h=>pP G B a6 K h<|E.hints _ _]
 |block=>rw[pP G B a6 K h E]
 |_=>rw[Y rfl h]
end
def T_{L:bj}(h:bE w F H A R (GW T J b D g L))(E:bF F H g s)(C:fL b D.ag A):gL (aE pw w) A L R s:=by
 have Y:∀{g},bE w F H A R (J b D.ag (.code L) g)->bF F H g s->gL (aE pw w) A L R s:=λh E=>G B b D.ag (.code L) _ A L R _ h E C;cases L with
 |whileLoop=>rw[h.2 _ E]
 |forLoop=>rw[h.2 _ E]
 |compLoop=>rw[h.2 _ E]
 |builtin id n=>rw[qX h (λ_ h=>Y h E) λ_ h=>pQ h λi o h=>kp h (λh=>Y h<|E.hints _ _) λi h=>kp h (λh=>h.2 _<|E.hints _ _) λK h=>qX h (λ_ h=>Y h<|E.hints _ _) λ_ h=>jE (h _ A (E.hints _ _) C) λr P y=>y.casesOn λc _ d u S=>S _ u]
 |call f n=>rw[vP h (λh=>Y h E) λa e h=>Zl e▸G B b D.ag (.fn a n) _ A (.call f n) R _ h E C]
 |_=>rw[Y h E]
def arG{t:bk Fin}(h:bE w F H A R (RB T w J b D t g))(E:bF F H g s)(C:fK b D A c):aW (aE pw w) A c t (ip F w A R) (er R) s:=by
 obtain⟨I,d,k,K,p⟩:=s;cases t with
 |pure o=>
  cases o with
  |done f=>rw[jM<|h _ E]
  |again L=>rw[rC h λP h=>jM #[(congrFun PB L).trans P,E.fr,T_ G B h E<|Ud C]]
 |raise e=>rw[y_raise Fin pw w A c _ _ _ e<|h _ E]
 |rule U j=>rw[y_skim Fin pw w A c _ _ _ _ 1<|G B b D (.tree<|j ()) g A c R _ h E C]
 |«at» q j=>rw[y_skim Fin pw w A c _ _ _ _ 1<|G B b D (.tree<|j ()) g A c R _ h E C]
 |point l j=>rw[y_skim Fin pw w A c _ _ _ _ 1<|G B b D (.tree<|j ()) g A c R _ h E C]
 |ask j=>rw[y_skim Fin pw w A c _ _ _ _ 1<|G B b D (.tree<|j #[pw,w.params]) g A c R _ h E C]
 |load a q j=>rw[Db E B h λY x y S u=>y_load Fin pw w A c _ _ _ _ _ _ _ a q j Y y<|G B b D (.tree<|j Y) x A c R _ S u C]
 |loadIfAlive a j=>rw[Db E B h λY x y S u=>y_alive Fin pw w A c _ _ _ _ _ _ _ a j Y y<|G B b D (.tree<|j<|some Y) x A c R _ S u C]
 |update a q f j=>rw[asa E h λY x y S u=>hV (m:=updatePart a q f) (f:=j)<|mY<|wpAny_updatePart y<|G B b D (.tree<|j ()) x A c R _ S u C]
 |alloc Y j=>rw[rC h λM h=>?_];have z:=G B b D (.tree<|j g.n) _ A c R _ h (E.alloc<|yr M) C;rw[<-E.sz]at z;rw[hV (m:=alloc Y) (f:=j)<|mY<|wpAny_alloc z]
 |fresh j=>have z:=G B b D (.tree<|j g.t) _ A c R _ h E.fresh C;rw[<-E.tk]at z;rw[y_fresh Fin pw w A c _ _ _ _ _ _ _ j z]
 |handled i j=>rw[qX h (λe h=>?_) λ_ h=>h.elim];subst e;rw[y_handled Fin pw w A c _ _ _ j ?_];have e:A.handled=D.v:=C.1.2.1;rw[e▸G B b D (.tree<|j D.v) g A c R _ h E C]
 |call L Q r n j=>rw[rC h λO h=>UP G B O C h E]
 |_=>rw[gS h]
omit G B in
def xp{v:Bool}{k:Bool->aR->av}{e:af->av}{P:Prop}(E:bF F H g s)(h:bE w F H A R (ud (.ok<|.ret<|.bool v) (λv=>sV v g k) e))(b:∀a,bE w F H A R (k v a)->bF F H a s->P):P:=Xv E h b
def UB{rest:!bL}{O:aX}{f:Flow}(h:bE w F H A R (y8 J b D rest O (.ok f) g))(E:bF F H g s)(C:fK b D A c):aW (aE pw w) A c (match f with|.next=>kg rest O|f=>pure f) (λf P=>R (.ok f) P) (er R) s:=by
 cases f with
 |next=>rw[G B b D (.gW rest O) g A c R s h E C]
 |_=>rw[jM<|h _ E]
def aqq{st:bL}{rest:!bL}{O:aX}(h:aW (aE pw w) A c (PySem.exec st O) (λf=>RN w F H A R (y8 J b D rest O)<|.ok f) (λe=>RN w F H A R (y8 J b D rest O)<|.error e) s) (C:fK b D A c):aW (aE pw w) A c (kg (st::rest) O) (λf P=>R (.ok f) P) (er R) s:=by rw[hV<|mX h (λf P y=>y.casesOn λT W a u S=>UB G (B.mono W) S u C) λe P y=>y.casesOn λT W a u S=>S _ u]
omit G B in
def Yx{st:bL}{O:aX}{Q:Flow->aN->Prop}{E:af->aN->Prop}(h:aW (aE pw w) A c (kg [st] O) Q E s):aW (aE pw w) A c (PySem.exec st O) Q E s:=λj p d t=>by
 have z:eZ (aE pw w) j (PySem.exec st O>>=λf=>match f with|.next=>kg [] O|f=>pure f) (λa _ P=>Q a P) (λe _ P=>E e P) p s:=h j p d t;simp only[jC]at z;rw[iB _ j _ (λf b P S=>?_) (λ_ _ _ S=>S) p s z]
 cases f<;>rw[S]
def arJ{k:!bL}{hs:!zA}{O:aX}{U:Pos}(h:bE w F H A R (RG J b D k hs O g))(E:bF F H g s)(C:fK b D A c):aW (aE pw w) A c (PySem.exec (.Try k hs [] [] U) O) (λf P=>R (.ok f) P) (λe P=>R (.error e) P) s:=by
 show aW (aE pw w) A c (rP U>>=λ_=>(kg k O).attempt>>=λr=>match r with
  |.ok .next=>kg [] O
  |.ok f=>pure f
  |.error e=>uc e O>>=λ_=>if hs.isEmpty then throw e else setFlight e none>>=λ_=>handleBy e O hs) _ _ s
 rw[hV<|mY<|Fd ?_];intro j p d t;rw[jC,Sem.wp_attempt];rw[iB _ j _ (λf z P y=>y.casesOn λT W o u S=>?_) (λe z P y=>y.casesOn λT W o u S=>?_) p s<|(G B b D (.gW k O) g A c _ s (iG h) E C) j p d t]
 .have M:=S _ u
  cases f<;>rw[M]
 .cases hs with
  |nil=>rw[gS S]
  |cons x Q=>dsimp only;rw[if_neg<|show¬(List.isEmpty (x::Q)=true)from kZ,];have a:eZ (aE pw w) j ((uc e O>>=λ_=>setFlight e none)>>=λ_=>(pc i9)) _ _ z P:=(S P (A.under c) u C.1 j z<|d▸t.in);simp only[jC]at a⊢;rw[iB _ j _ (λ_ i K X=>iB _ j _ (λ_ l n y=>y.casesOn λm q L Z I=>(yv (by rw[aac▸(G ((B.mono W).mono q) b D (.tree<|IC e O (x::Q)) L A c R n I Z C)]:aW (aE pw w) A c ((handleBy e O (x::Q)).bind λf=>.pure<|.done f) (ip m w A R) (er R) n) j l d t)) (λ_ _ _ Y=>Y.elim) i K X) (λ_ _ _ X=>X.elim) z P a]
def RR{l r:PySem.Expr}{O:aX}{k:af->af->aR->av}(h:bE w F H A R (E6 J b D l r O g k))(U:bF F H g s)(C:fK b D A c){T:Type}{m:af->af->bk T}{Q:T->Pos->aN->Prop}{E:af->Pos->aN->Prop} (ac:∀o n f L K j p,Le F f->bF f H L K->bE w f H A R (k o n L)->j.code=c->j.Below A->eZ (aE pw w) j (m o n) Q E p K){j:Ctx}{p:Pos}(d:j.code=c)(t:j.Below A):eZ (aE pw w) j (PySem.eval l O>>=λa=>tB [a] (PySem.eval r O)>>=m a) Q E p s:=by
 rw[jC,];rw[iB _ j _ (λo S z y=>y.casesOn λW u P X M=>?_) (λe S z y=>y.casesOn λW u P X M=>gS M) p s<|C7 (G B b D (.tree<|pI l O) g A c _ s (iG (A₁:=A) h) U C) j p d t];simp only[jC,Sem.wp_holding];rw[iB _ j _ (λn i K y=>y.casesOn λf q L Z I=>ac o n f L K j i (λa Y x=>q a Y<|u a Y x) Z I d t) (λe i K y=>y.casesOn λf q L Z I=>gS I) S z
  <|C7 (G (B.mono u) b D (.tree<|pI r O) P A c _ z (iG (A₁:=A) M) X C) j S d t]
omit G B in
def M4{op:PySem.CmpOp}{r:PySem.Expr}(h:DT op=true):behindInMarks op r=false:=by
 have e:(op==.In||op==.NotIn)=false:=by cases op<;>first|rfl|cases h
 cases r with
 |Set a j p=>rw[(congrArg (λb=>(j==0&&b)&&a.all (constantsAlone 8)) e).trans (by cases(j==0)<;>rfl)]
 |_=>rfl
def UW{l r:PySem.Expr}{O:aX}{S i:Pos}(h:bE w F H A R (Hb J b D l r O g))(E:bF F H g s)(C:fK b D A c):aW (aE pw w) A c (PySem.exec (.Return (some<|.Compare l [.Eq] [r] S) i) O) (λf P=>R (.ok f) P) (λe P=>R (.error e) P) s:=by show aW (aE pw w) A c (rP i>>=λ_=>(PySem.eval l O>>=λa=>tB [a] (markedBehindIn .Eq r<|PySem.eval r O)>>=λv=>rP S>>=λ_=>operate [a,v]<|xl .Eq a v)>>=λx=>pure<|Flow.ret x) _ _ s;rw[MU<|M4 rfl,];rw[hV<|mY<|Fd<|hV λj p d t=>RR G B h E C (λo M m L K j p W Z I d t=>?_) d t];simp only[jC,TK,Sem.wp_operate];rw[iB _ j _ (λX u k y=>y.casesOn λq n z Q Y=>jM<|Y _ Q) (λ_ _ _ h=>h.elim) _ K<|I K (A.under c) Z C.1 j _<|d▸t.in]
def aqw{st:bL}{O:aX}(h:bE w F H A R (QG J b D O g st))(E:bF F H g s)(C:fK b D A c):aW (aE pw w) A c (PySem.exec st O) (λf P=>R (.ok f) P) (λe P=>R (.error e) P) s:=by
 have Y:bE w F H A R (J b D (.tree<|km st O) g)->aW (aE pw w) A c (PySem.exec st O) (λf P=>R (.ok f) P) (λe P=>R (.error e) P) s:=λh=>by have z:aW (aE pw w) A c ((kg [st] O).bind λf=>(pc<|Fin.done f:bk PySem.Fin)) (ip F w A R) (er R) s:=Yw▸G B b D (.tree<|km st O) g A c R s h E C;rw[Yx<|yv z]
 cases st with
 |If t k l I=>
  rw[hV<|mY<|Fd<|hV<|mX (G B b D (.jU t O) g A c _ s (iG (A₁:=A) h) E C) (λv P y=>y.casesOn λT W x u S=>xp u S λL X Z=>?_) λe P y=>y.casesOn λT W x u S=>S _ u];cases v with
  |true=>rw[G (B.mono W) b D (.gW k O) L A c _ P X Z C]
  |false=>rw[G (B.mono W) b D (.gW l O) L A c _ P X Z C]
 |Try k o a b p=>rw[qX h (λ_ h=>Y h) λe h=>?_];obtain⟨rfl,rfl⟩:=amn e;rw[arJ G B h E C]
 |Return r p=>rw[vP h Y λq e h=>cV e λj K e=>cV e λQ d e=>cV e λn m e=>ko e λU e=>?_];obtain rfl:=K;obtain rfl:=yr U;have i:=Hd d;rw[H6 m]at i;obtain rfl:=i;obtain rfl:=dZ e;rw[UW G B h E C]
 |_=>rw[Y h]
def UC{ss:!bL}{O:aX}(h:bE w F H A R (G5 J b D ss O g))(E:bF F H g s)(C:fK b D A c):aW (aE pw w) A c (kg ss O) (λf P=>R (.ok f) P) (er R) s:=by
 cases ss with
 |nil=>rw[jM<|h _ E]
 |cons i Q=>rw[aqq G B (aqw G B (iG h) E C) C]
def x7{e:PySem.Expr}{O:aX}(h:bE w F H A R (J b D (.tree<|vr e O) g))(E:bF F H g s)(C:fK b D A c):aW (aE pw w) A c (PySem.isTrue e O<|PySem.eval e O) (λb P=>R (.ok<|.ret<|.bool b) P) (er R) s:=yv (by rw[abt▸BB▸G B b D (.tree<|vr e O) g A c R s h E C]:aW (aE pw w) A c ((PySem.isTrue e O<|PySem.eval e O).bind λb=>.pure<|.done<|.ret<|.bool b) (ip F w A R) (er R) s)
def anU{l r:PySem.Expr}{op:PySem.CmpOp}{U:Pos}{O:aX}(f:DT op=true)(h:bE w F H A R (OO J b D l op r O g))(E:bF F H g s)(C:fK b D A c){a:bk af}:aW (aE pw w) A c (PySem.isTrue (.Compare l [op] [r] U) O a) (λb P=>R (.ok<|.ret<|.bool b) P) (er R) s:=by
 simp only[isTrue_Compare1,MU<|M4 f];refineλj p d t=>RR G B h E C (λo n i L K j p W Z I d t=>?_) d t;simp only[jC,Sem.wp_holding,TK,Sem.wp_operate];rw[vP I (λI=>?_) λv X I=>?_]
 .have S:=G (B.mono W) b D (.tree<|AR op o n) L A c R K I Z C j U d t
  unfold AR at S;rw[<-V5,<-arI]at S;have m:eZ (aE pw w) j (xl op o n>>=λc=>wk c>>=λb=>(pc<|.done<|.ret<|.bool b:bk Fin)) _ _ U K:=S;simp only[jC]at m;rw[m]
 .rw[iB _ j _ (λ_ _ _ h=>h) (λ_ _ _ h=>h) _ K<|Vd (A:=A.under c) (Q:=λx P=>∀q,eZ (aE pw w) j (wk x) (λb _ P=>R (.ok<|.ret<|.bool b) P) (λe _ P=>er R e P) q P) X (λq=>(Fe (I K Z) j q<|d▸t.in)) j U (d▸t.in)|>λz=>iB _ j _ (λx q P h=>h q) (λ_ _ _ h=>h) _ K z]
def Va{O:aX}{q:PySem.Expr×PySem.CmpOp×PySem.Expr×Pos}(h:bE w F H A R (He J b D (.Compare q.1 [q.2.1] [q.2.2.1] q.2.2.2) O g q))(E:bF F H g s)(C:fK b D A c):aW (aE pw w) A c (PySem.isTrue (.Compare q.1 [q.2.1] [q.2.2.1] q.2.2.2) O<|PySem.eval (.Compare q.1 [q.2.1] [q.2.2.1] q.2.2.2) O) (λb P=>R (.ok<|.ret<|.bool b) P) (er R) s:=by
 rw[vP h (λh=>qX h (λ_ h=>x7 G B h E C) λf h=>anU G B f h E C) λz e h=>cV e λy K e=>cV e λi m e=>?_];obtain rfl:=dZ e;obtain⟨l,d,r,U⟩:=q;obtain rfl:=H6 K;obtain rfl:=amk m;show aW (aE pw w) A c (PySem.isTrue (.Compare l [cond y .NotEq .Eq] [.List [] i] U) O _) _ _ s;rw[isTrue_Compare1,MU<|rfl];rw[hV<|mX (C7<|G B b D (.tree<|pI l O) g A c _ s (iG h) E C) (λv P j=>j.casesOn λT W k u S=>?_) λe P j=>j.casesOn λT W k u S=>gS S];cases v with
 |ref a=>rw[(show xl (cond y .NotEq .Eq)=pY (cond y .NotEq .Eq) by cases y<;>rfl)▸(G (B.mono W) b D (.emp y a i U O) k A c R P S u C)]
 |_=>rw[gS S]
def arK{e:PySem.Expr}{O:aX}(h:bE w F H A R (RH J b D O g e))(E:bF F H g s)(C:fK b D A c):aW (aE pw w) A c (PySem.isTrue e O<|PySem.eval e O) (λb P=>R (.ok<|.ret<|.bool b) P) (er R) s:=by
 cases e with
 |UnaryOp d x U=>rw[qX h (λ_ h=>x7 G B h E C) λe h=>?_];obtain rfl:=abp e;rw[hV<|mX (G B b D (.jU x O) g A c _ s (iG (A₁:=A) h) E C) (λv P y=>y.casesOn λT W j u S=>jM<|S _ u) λe P y=>y.casesOn λT W j u S=>S _ u]
 |BoolOp d k U=>rw[G B b D (.all d k O) g A c R s h E C]
 |Compare l a f p=>rw[vP h (λh=>x7 G B h E C) λq e h=>?_];have i:=Hd e;rw[i]at h⊢;rw[Va G B h E C]
 |_=>rw[x7 G B h E C]
omit G in
def X_{ne:Bool}{a:aH}{i U:Pos}{O:aX}(h:bE w F H A R (HV T ne a g))(E:bF F H g s)(C:fK b D A c):aW (aE pw w) A c (tB [.ref a] (PySem.eval (.List [] i) O)>>=λv=>rP U>>=λ_=>operate [.ref a,v] (pY (cond ne .NotEq .Eq) (.ref a) v)>>=λx=>tB [x]<|wk x) (λb P=>R (.ok<|.ret<|.bool b) P) (er R) s:=by
 rw[Db E B h λY G y S u=>ow S λQ W S=>Bt (abo W) λd n sl z=>?_];subst z;have r:(A.under c).units<cLine:=by have:=C.1.2.2.1;show _<9900;rw[akM this]
 have m:(s.heap.push qT).get? s.heap.objs.size=some qT:=r5 _ rfl;have p:(s.heap.push qT).get? a=some #[.type "list",d,.seq Q n,sl]:=k_ _ y;rw[mY<|aT<|iy<|wpAny_List<|bK #[dm _,(aT<|Fd<|aT<|wpAny_operating ?_)]];have o:∀v:Bool,v=cond ne ((not ((eY Q.size 0)))) (eY Q.size 0)->ej (aE pw w) (A.under c) (tB [.bool v]<|wk<|.bool v) (λb P=>R (.ok<|.ret<|.bool b) P) (er R) {s with heap:=s.heap.push qT}:=by intro v X;subst X;rw[iy<|Fe<|S _<|u.alloc rfl]
 have f:{s with heap:=s.heap.push qT}.heap.IsList a Q:=eo _ p rfl #[n,rfl];have l:{s with heap:=s.heap.push qT}.heap.IsList s.heap.objs.size (List.toArray []):=eo _ m rfl #[0,rfl];by_cases Z:Q.size=0
 .have k:=Z
  have q:eY Q.size 0=true:=by rw[Z,];rfl
  cases ne with
  |true=>rw[PySem.SeqAt.RcNeAt.lists (e:=λ_=>true) f l k r (λK t M=>absurd M<|qB _) _ _ _ _ (Z▸o _ (by rw[q,];rfl))]
  |false=>rw[PySem.SeqAt.RcAt.lists (e:=λ_=>true) f l k r (λK t M=>absurd M<|qB _) _ _ _ _ (Z▸o _ (by rw[q,];rfl))]
 .have k:(Q.size !=((List.toArray []):Array af).size)=true:=by simpa using Z
  have q:eY Q.size 0=false:=by
   cases j:eY Q.size 0
   .rfl
   .rw[absurd (nv j) Z]
  cases ne with
  |true=>rw[PySem.SeqAt.RcNeAt.lists_lengths f l k r _ _ _ _ (o _ (by rw[q,];rfl))]
  |false=>rw[PySem.SeqAt.RcAt.lists_lengths f l k r _ _ _ _<|o _ (by rw[q,];rfl)]
def Uc{op:PySem.BoolOp}{es:!PySem.Expr}{O:aX}(h:bE w F H A R (GX J b D op es O g))(E:bF F H g s)(C:fK b D A c):aW (aE pw w) A c (allTrue op es O) (λb P=>R (.ok<|.ret<|.bool b) P) (er R) s:=by
 cases es with
 |nil=>cases op<;>rw[jM<|h _ E]
 |cons x Q=>
  rw[hV<|mX (G B b D (.jU x O) g A c _ s (iG h) E C) (λv P y=>y.casesOn λT W a u S=>xp u S λL X Z=>?_) λe P y=>y.casesOn λT W a u S=>S _ u]
  cases op<;>cases v
  .rw[jM<|X _ Z]
  .rw[G (B.mono W) b D (.all .And Q O) L A c _ P X Z C]
  .rw[G (B.mono W) b D (.all .Or Q O) L A c _ P X Z C]
  .rw[jM<|X _ Z]
section
variable{a7:Ctx} {p:Pos} (bs:bF F H g s) (K:fK b D A c) (bl:a7.code=c) (bo:a7.Below A)
include bs K bl bo
theorem HU{C:bj}{m:af}{O:aX}{a:PySem.Expr}(h:bE w F H A R (Bv J b D C m O a g)):eZ (aE pw w) a7 ((PySem.eval a O>>=λx=>PySem.call (.builtin "list.append") [m,x]>>=λ_=>pure ())>>=λ_=>again C) (λo _ P=>mP pw w A R o P) (λ_ _ _=>False) p s:=by
 have z:=G B _ D (.tree<|A9 a m O) g A c _ s (iG h) bs K a7 p bl bo;unfold A9 at z;rw[<-BB]at z;have L:eZ (aE pw w) a7 (PySem.eval a O>>=λx=>PySem.call (.builtin "list.append") [m,x]>>=λ_=>again C) (λo _ P=>mP pw w A R o P) (λ_ _ _=>False) p s:=uy z (λ_ _ _ f=>uy f (λ_ _ _ y=>y.casesOn λd n i Q X=>#[X.1,X.2 _ Q]) λe u k y=>y.casesOn λd n i Q X=>gS X) λe u k y=>y.casesOn λd n i Q X=>gS X
 simp only[jC]at L⊢;rw[L]
theorem arv{C:bj}{m:af}{O:aX}{a t:PySem.Expr}(h:bE w F H A R (Rx J b D C m O a (some t) g)):eZ (aE pw w) a7 ((forIn [t] true λc b=>if b=true then(PySem.isTrue c O (PySem.eval c O)>>=λok=>pure<|zB ok)else pure (zB b):bk Bool)>>=λok=>if ok=true then(PySem.eval a O>>=λx=>PySem.call (.builtin "list.append") [m,x]>>=λ_=>pure ())>>=λ_=>again C else again C) (λo _ P=>mP pw w A R o P) (λ_ _ _=>False) p s:=by
 simp only[zL,List.forIn_nil,if_true,jC];rw[iB _ a7 _ (λv l q y=>y.casesOn λk j U d W=>xp d W λn i f=>?_) (λe l q y=>y.casesOn λk j U d W=>gS W) p s<|G B _ D (.jU t O) g A c _ s (iG h) bs K a7 p bl bo];cases v with
 |true=>rw[HU G (B.mono j) f K bl bo i]
 |false=>rw[#[i.1,i.2 _ f]]
end
def V4{e:PySem.Expr}{r:N}{it m:af}{O:aX}{L:N}{M:Mk}(h:bE w F H A R (AV I J b D L M g<|.compLoop e r it m O))(E:bF F H g s)(C:fK b D A (.compLoop e r it m O)):gL (aE pw w) A (.compLoop e r it m O) R s:=by
 rw[ow h λq u h=>uz pw w A R s _ λj p U t=>?_];have c:=(G B _ D (.tree<|A_ q.2.1 it O) g A (.compLoop e r it m O) _ s (iG h) E C) j p U t;unfold A_ at c;rw[<-Py,<-Lv,<-G0]at c;have Y:eZ (aE pw w) j (compTurn e r it m O) (λo _ P=>mP pw w A R o P) (λ_ _ _=>False) p s:=by
  obtain⟨a,⟨a6,ac,T,k⟩,W⟩:=q;obtain⟨rfl,x,y,rfl⟩:=VZ u;cases W with
  |none=>rw[Ef (X:=(PySem.eval a O>>=λx=>PySem.call (.builtin "list.append") [m,x]>>=λ_=>pure ())>>=λ_=>again _) (λe p s K=>K.casesOn λd n i Q l=>gS l) c (λ_ _ K=>K.casesOn λd n i Q l=>l _ Q) λp s K=>K.casesOn λd n i Q l=>HU G (B.mono n) Q C U t l]
  |some W=>rw[Ef (X:=(forIn [W] true λZ b=>if b=true then(PySem.isTrue Z O (PySem.eval Z O)>>=λok=>pure<|zB ok)else pure (zB b))>>=λok=>if ok=true then(PySem.eval a O>>=λx=>PySem.call (.builtin "list.append") [m,x]>>=λ_=>pure ())>>=λ_=>again _ else again _) (λe p s K=>K.casesOn λd n i Q l=>gS l) c (λ_ _ K=>K.casesOn λd n i Q l=>l _ Q) λp s K=>K.casesOn λd n i Q l=>arv G (B.mono n) Q C U t l]
 show eZ _ j (if(Code.compLoop e r it m O).isFrame then(compTurn e r it m O).onRaise (x8 O)else(compTurn e r it m O).onRaise (λx=>do uc x O;Ry x)) _ _ p s
 split<;>
 .simp only[Az]
  rw[iB _ j _ (λf z P S=>S) (λe z P S=>S.elim) p s Y]
def RQ{C:bj}{k:!bL}{O:aX}(h:bE w F H A R ((J b D (.gW k O) g).bind λr i=>lM r (E4 C i) λ_=>.bad))(E:bF F H g s)(a:fK b D A c):aW (aE pw w) A c (kg k O>>=λf=>match f with
     |.next|.cont=>again C
     |.brk=>pure<|.done .next
     |.ret v=>pure<|.done<|.ret v) (mP pw w A R) (λ_ _=>False) s:=by
 rw[hV<|mX (G B _ _ (.gW k O) g A c _ s (iG h) E a) (λf K y=>y.casesOn λd n i Q Y=>?_) λe K y=>y.casesOn λd n i Q Y=>gS Y];cases f with
 |next=>rw[jM #[Y.1,Y.2 _ Q]]
 |cont=>rw[jM #[Y.1,Y.2 _ Q]]
 |_=>rw[jM<|Y _ Q]
include bt
theorem Vi{a6:bj}{bb:N}{M:Mk}(h:bE w F H A R (AV I J b D bb M g a6))(E:bF F H g s)(C:fL bb M A)(L:fK b D A a6):gL (aE pw w) A a6 R s:=by
 have ca:bE w F H A R (J b D (.tree<|u6 a6) g)->gL (aE pw w) A a6 R s:=λh=>uz pw w A R s _ (by rw[Xw▸mX (G B _ _ (.tree<|u6 a6) g A a6 R s h E L) Pm λ_ _ h=>h])
 cases a6 with
 |func k O=>
  rw[uz pw w A R s _ ?_];rw[hV<|mY<|wpAny_point<|hV λj p d a7=>?_];rw[Az,];rw[iB _ j _ (λf z P y=>y.casesOn λT W bl u bo=>?_) (λe z P y=>y.casesOn λT W bl u bo=>?_) p s<|G B _ _ (.gW k O) g A (.func k O) _ s (iG (A₁:=A) h) E L j p d a7]
  .cases f<;>rw[jM<|bo _ u]
  .have ch:eZ (aE pw w) j (x8 O e>>=λ_=>(pc i9:bk af)) _ _ z P:=bo P (A.under<|.func k O) u L.1 j z<|d▸a7.in
   simp only[jC]at ch;rw[iB _ j _ (λ_ bs K y=>y.casesOn λc1 q b0 Z ck=>ck _ Z) (λ_ _ _ ac=>ac.elim) z P ch]
 |whileLoop t k l O=>
  rw[uz pw w A R s _ ?_];have c0:aW (aE pw w) A (.whileLoop t k l O) (whileTurn t k l O) (mP pw w A R) (λ_ _=>False) s:=by
   show aW (aE pw w) A _ (PySem.isTrue t O (PySem.eval t O)>>=λv=>if v then(kg k O>>=λf=>match f with
    |.next|.cont=>again<|.whileLoop t k l O
    |.brk=>pure<|.done .next
    |.ret v=>pure<|.done<|.ret v)else(kg l O>>=λf=>pure<|.done f)) _ _ s
   rw[hV<|mX (G B _ _ (.jU t O) g A (.whileLoop t k l O) _ s (iG (A₁:=A) h) E L) (λv P y=>y.casesOn λT W bl u S=>xp u S λb0 ac Z=>?_) λe P y=>y.casesOn λT W bl u S=>gS S];cases v with
   |true=>rw[RQ G (B.mono W) ac Z L]
   |false=>rw[hV<|mX (G (B.mono W) _ _ (.gW l O) b0 A (.whileLoop t k l O) _ P (iG (A₁:=A) ac) Z L) (λf K y=>y.casesOn λa8 n i Q Y=>jM<|Y _ Q) λe K y=>y.casesOn λa8 n i Q Y=>gS Y]
  show aW (aE pw w) A _ ((whileTurn t k l O).onRaise (λx=>do uc x O;Ry x)) _ _ s;intro j p d a7;rw[Az,];rw[iB _ j _ (λf z P S=>S) (λe z P S=>S.elim) p s<|c0 j p d a7]
 |forLoop a U k l O=>
  rw[uz pw w A R s _ λj p d a7=>?_];show eZ _ j ((forTurn a U k l O).onRaise (λx=>do uc x O;Ry x)) _ _ p s;rw[Az,];have c:=G B _ _ (.tree<|BN a U O) g A (.forLoop a U k l O) _ s (iG (A₁:=A) h) E L j p d a7;unfold BN at c;rw[<-Py,<-Lv,<-G0]at c;rw[iB _ j _ (λf z P S=>S) (λe z P S=>S.elim) p s (?_:eZ (aE pw w) j (forTurn a U k l O) (λo _ P=>mP pw w A R o P) (λ_ _ _=>False) p s)];exact Ef (aK:=again<|.block l O) (X:=kg k O>>=λf=>match f with
    |.next|.cont=>again<|.forLoop a U k l O
    |.brk=>pure<|.done .next
    |.ret v=>pure<|.done<|.ret v) (λe p s y=>y.casesOn λa8 n i Q ac=>gS ac) c
   (λbs K y=>y.casesOn λa8 n i Q ac=>#[ao6 _ _,G (B.mono n) _ M (.code<|.block l O) i A (.block l O) R K ac Q C]) λbs K y=>y.casesOn λa8 n i Q ac=>RQ G (B.mono n) ac Q L j bs d a7
 |compLoop e r U m O=>rw[V4 G B h E L]
 |builtin id args=>rw[kp h ca λc2 h=>ow h λp e h=>(bt _) _ _ _ _ p e (MZ h).1 bb M A C (ip F w A R) R s (E.hints g.h 0) Pm λP u=>G B _ _ (.tree p.1) p.2.1 A (.builtin id args) R P (MZ h).2 u L]
 |_=>rw[ca h]
omit bt in
theorem Zk{a:aH}{args:kY}(h:bE w F H A R (Ic T J b D a args g))(E:bF F H g s)(C:fL b D A):gL (aE pw w) A (.call (.ref a) args) R s:=
 ow h λY y h=>ow h λp I h=>ow h λ_ e h=>rC h λM h=>by
  rw[nY (ZF I) λK O c U=>?_];have X:=nz M;have d:=C.1;have f:=C.2.2.1;have L:fK (b-1) D.B6 A (.call (.ref a) args):=by
   rw[#[#[?_,C.2.1,?_,C.2.2.2],λ_=>rfl]]
   .rw[alV d<|bh X]
   .rw[alW f<|bh X]
  rw[an5 (jA (bT (oY _ _) d)<|ζ) (E.fr _ _<|B.top _ _ y) K O c U (Vk B E.fr e) B.M9<|UA▸(G B (b-1) D.B6 (.tree<|H4 a p.1 p.2 args) g A (.call (.ref a) args) R s h E L)]
end
def aqI(c:∀F,uF I w F H)(g:wY T J w H):wY T (JG T w I J) w H:=λ{F} f b t K z A Z d s U E C=>by
 cases K with
 |tree D=>rw[arG g f U E C]
 |code L=>rw[rC U λY U=>Vi c g f U E C<|Ue C Y]
 |loop L=>rw[g f b t (.code L) z A Z d s (xL (F0:=F) (λ{k} W o h U=>rC U λu U=>#[(congrFun PB o).trans u,λj X=>g (f.mono W) b t (.loop o) h A Z d j U X C]) (λ_ _ x=>x) U) E C]
 |fn a n=>rw[Zk g f U E C]
 |gW p O=>rw[UC g f U E C]
 |jU e O=>rw[arK g f U E C]
 |all op es O=>rw[Uc g f U E C]
 |emp y a i l O=>rw[X_ f U E C]
def yT(c:∀F,uF I w F H)(n):wY T (yS T w I n) w H:=by
 induction n with
 |zero=>exactλ_ _ _ _ _ _ _ _ _ U=>gS U
 |succ n C=>rw[aqI c C]
def av.resume(o:av)(r:aL)(g:aR):av:=o.rec (λ_ _=>.bad) (λ_ _=>.bad) (λ_ _ _ _ j _=>j r g) (λ_ _ _ _ j _=>j r g) (λ_ _ x=>x) .bad
end
def hs(P:eI)(s:aA):Int:=if s.cps.isEmpty then 0 else reduceHash (P.strHash s.cps)
def vJ:!bL->N->bL
 |[],_=>.Pass default
 |s::_,0=>s
 |_::l,i+1=>vJ l i
def st(i:N):bL:=vJ pw.main.body i
def gj(s:bL)(i:N):bL:=match s with
 |.ClassDef _ _ _ b _ _ _ _ _ _ _=>vJ b i
 |_=>.Pass default
def fA(s:bL):Arguments:=match s with
 |.FunctionDef _ a _ _ _ _ _ _ _ _=>a
 |_=>#[[],[],none,[],[],none,[]]
def fB(s:bL):!bL:=match s with
 |.FunctionDef _ _ b _ _ _ _ _ _ _=>b
 |_=>[]
def fS(s:bL):Scope:=match s with
 |.FunctionDef _ _ _ _ _ _ a _ _ _=>a
 |_=>#[.function,[],false,false,[]]
def sF:N->N->!N->!N
 |0,_,l=>l
 |f+1,n,l=>match eY n 0 with
  |true=>l
  |false=>sF f (n/256) (n%256::l)
def sK(n:N):aA:=#[#[sF 99 n []]]
def dE(P:eI)(k:aA)(t:N)(v:af):bv:=#[hs P k,.str k t,v]
def dO(l:!bv)(n:N):Obj:=#[.type "dict",none,.dict #[l] n,#[[]]]
def kS(l:!N):aA:=#[#[l]]
def k0:=`__name__
def k1:=`builtins
def k2:=`__doc__
def k3:=`__package__
def k4:=`__loader__
def k5:=`__spec__
def k6:=`__build_class__
def k7:=`__import__
def k8:=`abs
def k9:=`all
def k10:=`any
def k11:=`ascii
def k12:=`bin
def k13:=`breakpoint
def k14:=`callable
def k15:=`chr
def k16:=`compile
def k17:=`delattr
def k18:=`dir
def k19:=`divmod
def k20:=kS [101,118,97,108]
def k21:=`exec
def k22:=`format
def k23:=`getattr
def k24:=`globals
def k25:=`hasattr
def k26:=`hash
def k27:=`hex
def k28:=`id
def k29:=`input
def k30:=`isinstance
def k31:=`issubclass
def k32:=`iter
def k33:=`aiter
def k34:=`len
def k35:=`locals
def k36:=`max
def k37:=`min
def k38:=`next
def k39:=`anext
def k40:=`oct
def k41:=`ord
def k42:=`pow
def k43:=`print
def k44:=`repr
def k45:=`round
def k46:=`setattr
def k47:=`sorted
def k48:=`sum
def k49:=`vars
def k50:=`None
def Kc:=`Ellipsis
def Kd:=`NotImplemented
def k53:=`False
def k54:=`True
def k55:=`bool
def k56:=`memoryview
def k57:=`bytearray
def k58:=`bytes
def k59:=`classmethod
def k60:=`complex
def k61:=`dict
def k62:=`enumerate
def k63:=`filter
def k64:=`float
def k65:=`frozenset
def k66:=`property
def k67:=`int
def k68:=`list
def k69:=`map
def k70:=`object
def k71:=`range
def k72:=`reversed
def k73:=`set
def k74:=`slice
def k75:=`staticmethod
def k76:=`str
def k77:=`super
def k78:=`tuple
def k79:=`type
def k80:=`zip
def k81:=`__debug__
def k82:=`BaseException
def k83:=`BaseExceptionGroup
def k84:=`Exception
def k85:=`GeneratorExit
def k86:=`KeyboardInterrupt
def k87:=`SystemExit
def k88:=`ArithmeticError
def k89:=`AssertionError
def k90:=`AttributeError
def k91:=`BufferError
def k92:=`EOFError
def k93:=`ImportError
def k94:=`LookupError
def k95:=`MemoryError
def k96:=`NameError
def k97:=`OSError
def k98:=`ReferenceError
def k99:=`RuntimeError
def abw:=`StopAsyncIteration
def abx:=`StopIteration
def aby:=`SyntaxError
def abz:=`SystemError
def abA:=`TypeError
def abB:=`ValueError
def abC:=`Warning
def abD:=`FloatingPointError
def abE:=`OverflowError
def abF:=`ZeroDivisionError
def abH:=`BytesWarning
def abI:=`DeprecationWarning
def abJ:=`EncodingWarning
def abK:=`FutureWarning
def abL:=`ImportWarning
def abM:=`PendingDeprecationWarning
def abN:=`ResourceWarning
def abO:=`RuntimeWarning
def abP:=`SyntaxWarning
def abQ:=`UnicodeWarning
def abS:=`UserWarning
def abT:=`BlockingIOError
def abU:=`ChildProcessError
def abV:=`ConnectionError
def abW:=`FileExistsError
def abX:=`FileNotFoundError
def abY:=`InterruptedError
def abZ:=`IsADirectoryError
def ab0:=`NotADirectoryError
def ab1:=`PermissionError
def ab3:=`ProcessLookupError
def ab4:=`TimeoutError
def ab5:=`IndentationError
def ab6:=`_IncompleteInputError
def ab7:=`IndexError
def ab8:=`KeyError
def ab9:=`ModuleNotFoundError
def ab_:=`NotImplementedError
def aca:=`PythonFinalizationError
def acb:=`RecursionError
def ace:=`UnboundLocalError
def acf:=`UnicodeError
def acg:=`BrokenPipeError
def ach:=`ConnectionAbortedError
def aci:=`ConnectionRefusedError
def acj:=`ConnectionResetError
def ack:=`TabError
def acl:=`UnicodeDecodeError
def acm:=`UnicodeEncodeError
def acn:=`UnicodeTranslateError
def acp:=`ExceptionGroup
def acq:=`EnvironmentError
def acr:=`IOError
def act:=kS [111,112,101,110]
def acu:=`quit
def acv:=`exit
def acw:=`copyright
def acx:=`credits
def acy:=`license
def acz:=`help
def acB:=kS [105,109,112,111,114,116,46,108,111,97,100,101,100,46,95,99,111,108,108,101,99,116,105,111,110,115]
def acC:=`class._frozen_importlib.BuiltinImporter
def acD:=kS [119,97,116,99,104,101,100,46,105,109,112,111,114,116]
def acE:=`class._frozen_importlib.ModuleSpec
def acF:=kS [115,121,115,46,109,111,100,117,108,101,115,46,98,111,111,107,101,100,45,101,112,111,99,104]
def acG:=`sys.modules.landed._collections
def acH:=kS [105,109,112,111,114,116,46,108,97,116,101,114,45,108,97,105,100,46,95,99,111,108,108,101,99,116,105,111,110,115]
def acI:=`watched.library
def acJ:=kS [119,97,116,99,104,101,100,46,108,105,98,114,97,114,121,45,111,98,106,101,99,116,115]
def acK:=kS [13]
def acM:=kS [119,97,116,99,104,101,100,46,108,105,98,114,97,114,121,45,100,101,101,112,46,95,99,111,108,108,101,99,116,105,111,110,115]
def acN:=kS [4,0,0,12,4,0,0,12,4,0,0,3,4,0,0,12,8,4,100,105,99,116,2]
def acO:=kS [116,121,112,101,46,95,95,115,117,98,99,108,97,115,115,101,115,95,95,46,79,83,69,114,114,111,114,46,48]
def acP:=`type.__subclasses__.OSError.n
def lI:=`law_oc0358_01
def acQ:=`__annotations__
def acR:=`__builtins__
def acS:=`__file__
def Cb:=kS [47,99,108,97,105,109,47,99,117,116,46,112,121]
def acT:=`__cached__
def acV:=`deque
def JI:=`_wall
def qZ:=`Int2AP
def JJ:=`_NODE_OUT
def JK:=`_NODE_DONE
def tF:=`_NodeInfo
def mB:=`CycleError
def tG:=`TopologicalSorter
def JL:=`_whence
def tH:=`_index
def JM:=`UnsupportedOperation
def tI:=`IOBase
def JN:=`BufferedIOBase
def tJ:=`TextIOBase
def tK:=`BytesIO
def tM:=`StringIO
def JO:=`_kind
def JP:=`_fspath
def JQ:=`_check_arg_types
def JR:=`isabs
def JS:=`join
def JT:=`dirname
def tP:=`shlex
def tQ:=`_law_name
def q6:=`_law_ranges
def tS:=`_law_extra
def tT:=`_law_spelled
def q7:=`_law_page
def q8:=`_law_rows
def tU:=`_law_cell
def q9:=`_law_run
def q_:=`_law_due
def tV:=`law
def acZ:=`cpy313.imaplib
def kN:=`__init__
def JU:=`_NodeInfo.__init__
def kO:=`cpy313.graphlib
def rf:=`__module__
def rh:=`__firstlineno__
def ac0:=`__slots__
def ri:=`__static_attributes__
def Cc:=`node
def Cd:=`npredecessors
def Ce:=`successors
def xW:=`__weakref__
def JV:=`TopologicalSorter.__init__
def Cf:=`_get_nodeinfo
def JW:=`TopologicalSorter._get_nodeinfo
def Cg:=`add
def JX:=`TopologicalSorter.add
def Ch:=`prepare
def Ci:=`TopologicalSorter.prepare
def Cj:=`get_ready
def Ck:=`TopologicalSorter.get_ready
def Cm:=`is_active
def JY:=`TopologicalSorter.is_active
def Cn:=`done
def Co:=`TopologicalSorter.done
def Cp:=`_find_cycle
def Cq:=`TopologicalSorter._find_cycle
def ac4:=`__bool__
def ac5:=`static_order
def Cr:=`__dict__
def pG:=`io
def Cs:=`__new__
def JZ:=`IOBase.__new__
def bN:=kS []
def Ct:=kS [10]
def J1:=`StringIO.__init__
def J3:=`__translated
def J4:=`StringIO.__translated
def J5:=`__check
def J6:=`StringIO.__check
def Cu:=`read
def J7:=`StringIO.read
def ac7:=`_io
def ac8:=`_StringIO__translated
def ac9:=`_StringIO__check
def ac_:=`_StringIO__check_dot
def ada:=`_StringIO__line
def adc:=`closed
def add:=`line_buffering
def ade:=`newlines
def adf:=`encoding
def adg:=`errors
def adh:=`close
def adi:=`__enter__
def adj:=`__exit__
def adk:=`readable
def adl:=`writable
def adn:=`seekable
def ado:=`isatty
def adp:=`flush
def adq:=`fileno
def ads:=`detach
def adt:=`getvalue
def adu:=`tell
def adv:=`seek
def adw:=`truncate
def adx:=`readline
def adz:=`readlines
def J8:=`__iter__
def J9:=`__next__
def adA:=`write
def adB:=`writelines
def adC:=`__repr__
def J_:=`shlex.__init__
def vj:=`cpy313.shlex
def xX:=`punctuation_chars
def Ka:=`shlex.punctuation_chars
def Cv:=`get_token
def Kb:=`shlex.get_token
def Cw:=`read_token
def Cx:=`shlex.read_token
def adE:=`push_token
def adF:=`push_source
def adG:=`pop_source
def adH:=`sourcehook
def adI:=`error_leader
def cA(v w:af)(a b:aA)(n:N)(l p q c:Int)(r s y:N):Obj:=#[.type "code",none,.fields #[[.str a n,.str b<|n+1,.str Cb<|n+2,.int l 0,.int p 0,.int q 0,.int 0 0,.int c 0,.ref r,.bool true,.int 273 0,.ref<|r+1,.none,v,w,.ref s,.int (ad y) 0,.int l 0,.str Cb<|y+1]],#[[]]]
def cO(a b:aA)(n:N)(l p q c:Int)(r y:N):Obj:=cA (.ref<|r+2) (.ref<|r+3) a b n l p q c r (r+4) y
def cP(a b:aA)(n:N)(l p q c:Int)(r y:N):Obj:=cA .none .none a b n l p q c r (r+2) y
def oF(a b:aA)(s:bL)(d:af)(m:aA)(t c:N):Obj:=#[.type "function",none,.func #[a,b,fA s,.stmts<|fB s,fS s,3,[],d,.none,.none,.str m t,none,.ref c,.none,0],#[[]]]
def o0(P:eI):Obj:=dO [dE P k0 1<|.str k1 160,dE P k2 2<|.builtin "builtins.__doc__:str#opaque",dE P k3 3<|.builtin "builtins.__package__:str#opaque",dE P k4 4<|.builtin "builtins.__loader__:shared#opaque",dE P k5 5<|.builtin "builtins.__spec__#opaque",dE P k6 6<|.builtin "__build_class__",dE P k7 7<|.builtin "__import__",dE P k8 8<|.builtin "abs",dE P k9 9<|.builtin "all",dE P k10 10<|.builtin "any",dE P k11 11<|.builtin "ascii",dE P k12 12<|.builtin "bin",dE P k13 13<|.builtin "breakpoint",dE P k14 14<|.builtin "callable",dE P k15 15<|.builtin "chr",dE P k16 16<|.builtin "compile",dE P k17 17<|.builtin "delattr",dE P k18 18<|.builtin "dir",dE P k19 19<|.builtin "divmod",dE P k20 20<|.builtin "eval",dE P k21 21<|.builtin "exec",dE P k22 22<|.builtin "format",dE P k23 23<|.builtin "getattr",dE P k24 24<|.builtin "globals",dE P k25 25<|.builtin "hasattr",dE P k26 26<|.builtin "hash",dE P k27 27<|.builtin "hex",dE P k28 28<|.builtin "id",dE P k29 29<|.builtin "input",dE P k30 30<|.builtin "isinstance",dE P k31 31<|.builtin "issubclass",dE P k32 32<|.builtin "iter",dE P k33 33<|.builtin "aiter",dE P k34 34<|.builtin "len",dE P k35 35<|.builtin "locals",dE P k36 36<|.builtin "max",dE P k37 37<|.builtin "min",dE P k38 38<|.builtin "next",dE P k39 39<|.builtin "anext",dE P k40 40<|.builtin "oct",dE P k41 41<|.builtin "ord",dE P k42 42<|.builtin "pow",dE P k43 43<|.builtin "print",dE P k44 44<|.builtin "repr",dE P k45 45<|.builtin "round",dE P k46 46<|.builtin "setattr",dE P k47 47<|.builtin "sorted",dE P k48 48<|.builtin "sum",dE P k49 49<|.builtin "vars",dE P k50 50 .none,#[hs P Kc,.str Kc 51,.ellipsis],#[hs P Kd,.str Kd 52,.notImplemented],dE P k53 53<|.bool false,dE P k54 54<|.bool true,dE P k55 55<|.type "bool",dE P k56 56<|.type "memoryview",dE P k57 57<|.type "bytearray",dE P k58 58<|.type "bytes",dE P k59 59<|.type "classmethod",dE P k60 60<|.type "complex",dE P k61 61<|.type "dict",dE P k62 62<|.type "enumerate",dE P k63 63<|.type "filter",dE P k64 64<|.type "float",dE P k65 65<|.type "frozenset",dE P k66 66<|.type "property",dE P k67 67<|.type "int",dE P k68 68<|.type "list",dE P k69 69<|.type "map",dE P k70 70<|.type "object",dE P k71 71<|.type "range",dE P k72 72<|.type "reversed",dE P k73 73<|.type "set",dE P k74 74<|.type "slice",dE P k75 75<|.type "staticmethod",dE P k76 76<|.type "str",dE P k77 77<|.type "super",dE P k78 78<|.type "tuple",dE P k79 79<|.type "type",dE P k80 80<|.type "zip",dE P k81 81<|.bool true,dE P k82 82<|.type "BaseException",dE P k83 83<|.type "BaseExceptionGroup",dE P k84 84<|.type "Exception",dE P k85 85<|.type "GeneratorExit",dE P k86 86<|.type "KeyboardInterrupt",dE P k87 87<|.type "SystemExit",dE P k88 88<|.type "ArithmeticError",dE P k89 89<|.type "AssertionError",dE P k90 90<|.type "AttributeError",dE P k91 91<|.type "BufferError",dE P k92 92<|.type "EOFError",dE P k93 93<|.type "ImportError",dE P k94 94<|.type "LookupError",dE P k95 95<|.type "MemoryError",dE P k96 96<|.type "NameError",dE P k97 97<|.type "OSError",dE P k98 98<|.type "ReferenceError",dE P k99 99<|.type "RuntimeError",dE P abw 100<|.type "StopAsyncIteration",dE P abx 101<|.type "StopIteration",dE P aby 102<|.type "SyntaxError",dE P abz 103<|.type "SystemError",dE P abA 104<|.type "TypeError",dE P abB 105<|.type "ValueError",dE P abC 106<|.type "Warning",dE P abD 107<|.type "FloatingPointError",dE P abE 108<|.type "OverflowError",dE P abF 109<|.type "ZeroDivisionError",dE P abH 110<|.type "BytesWarning",dE P abI 111<|.type "DeprecationWarning",dE P abJ 112<|.type "EncodingWarning",dE P abK 113<|.type "FutureWarning",dE P abL 114<|.type "ImportWarning",dE P abM 115<|.type "PendingDeprecationWarning",dE P abN 116<|.type "ResourceWarning",dE P abO 117<|.type "RuntimeWarning",dE P abP 118<|.type "SyntaxWarning",dE P abQ 119<|.type "UnicodeWarning",dE P abS 120<|.type "UserWarning",dE P abT 121<|.type "BlockingIOError",dE P abU 122<|.type "ChildProcessError",dE P abV 123<|.type "ConnectionError",dE P abW 124<|.type "FileExistsError",dE P abX 125<|.type "FileNotFoundError",dE P abY 126<|.type "InterruptedError",dE P abZ 127<|.type "IsADirectoryError",dE P ab0 128<|.type "NotADirectoryError",dE P ab1 129<|.type "PermissionError",dE P ab3 130<|.type "ProcessLookupError",dE P ab4 131<|.type "TimeoutError",dE P ab5 132<|.type "IndentationError",dE P ab6 133<|.type "_IncompleteInputError",dE P ab7 134<|.type "IndexError",dE P ab8 135<|.type "KeyError",dE P ab9 136<|.type "ModuleNotFoundError",dE P ab_ 137<|.type "NotImplementedError",dE P aca 138<|.type "PythonFinalizationError",dE P acb 139<|.type "RecursionError",dE P ace 140<|.type "UnboundLocalError",dE P acf 141<|.type "UnicodeError",dE P acg 142<|.type "BrokenPipeError",dE P ach 143<|.type "ConnectionAbortedError",dE P aci 144<|.type "ConnectionRefusedError",dE P acj 145<|.type "ConnectionResetError",dE P ack 146<|.type "TabError",dE P acl 147<|.type "UnicodeDecodeError",dE P acm 148<|.type "UnicodeEncodeError",dE P acn 149<|.type "UnicodeTranslateError",dE P acp 150<|.type "ExceptionGroup",dE P acq 151<|.type "OSError",dE P acr 152<|.type "OSError",dE P act 153<|.builtin "open",dE P acu 154<|.builtin "builtins.quit#opaque",dE P acv 155<|.builtin "builtins.exit#opaque",dE P acw 156<|.builtin "builtins.copyright#opaque",dE P acx 157<|.builtin "builtins.credits#opaque",dE P acy 158<|.builtin "builtins.license#opaque",dE P acz 159<|.builtin "builtins.help#opaque"] 159
def o2(P:eI):Obj:=#[.none,none,.dict #[[dE P acB 185<|.bool true,dE P acC 187<|.ref 15,dE P acD 208<|.ref 19,dE P acE 218<|.ref 23,dE P acF 247<|.int 3 0,dE P acG 248<|.bool true,dE P acH 263<|.bool true,dE P acI 265<|.ref 28,dE P acJ 0<|.str acK 0,dE P acM 266<|.str acN 0,dE P acO 516<|.int 190 0,dE P acP 517<|.int 1 0]] 12,#[[]]]
def o3(P:eI):Obj:=dO [dE P k0 165<|.str lI 1336,dE P k2 166 .none,dE P k3 167 .none,dE P k4 168<|.builtin "__main__.__loader__#opaque",dE P k5 169 .none,dE P acQ 170<|.ref 6,dE P acR 171<|.ref 4,dE P acS 173<|.str Cb 172,dE P acT 174 .none,dE P acV 272<|.type "collections.deque",dE P JI 285<|.ref 39,dE P qZ 297<|.ref 46,dE P JJ 302<|.int (-1) 301,dE P JK 305<|.int (-2) 304,dE P tF 342<|.ref 65,dE P mB 360<|.ref 80,dE P tG 479<|.ref 162,dE P JL 489<|.ref 173,dE P tH 497<|.ref 180,dE P JM 519<|.ref 190,dE P tI 551<|.ref 210,dE P JN 569<|.ref 225,dE P tJ 587<|.ref 237,dE P tK 849<|.ref 467,dE P tM 1136<|.ref 714,dE P JO 1147<|.ref 723,dE P JP 1156<|.ref 730,dE P JQ 1166<|.ref 737,dE P JR 1173<|.ref 744,dE P JS 1184<|.ref 751,dE P JT 1194<|.ref 758,dE P tP 1335<|.ref 849,dE P tQ 1345<|.ref 860,dE P q6 1358<|.ref 867,dE P tS 1367<|.ref 874,dE P tT 1375<|.ref 881,dE P q7 1381<|.ref 886,dE P q8 1391<|.ref 893,dE P tU 1397<|.ref 898,dE P q9 1403<|.ref 903,dE P q_ 1409<|.ref 908,dE P tV 1415<|.ref 913] 42
def o45:Obj:=cO qZ qZ 288 6 1 0 3 40 295
def o46:Obj:=oF qZ qZ (st 3) .none acZ 286 45
def o60:Obj:=cO kN JU 322 20 2 0 3 55 327
def o61:Obj:=oF kN JU (gj (st 7) 1) .none kO 298 60
def o64(P:eI):Obj:=dO [dE P rf 313<|.str kO 298,dE P rh 317<|.int 17 316,dE P ac0 321<|.ref 54,dE P kN 329<|.ref 61,dE P ri 333<|.ref 62,dE P Cc 335<|.ref 66,dE P Cd 337<|.ref 67,dE P Ce 339<|.ref 68,dE P k2 340 .none] 5
def o65:Obj:=#[.type "type",none,.cls #[tF,[.type "object"],[.ref 65,.type "object"],64,tF,false,[Cc,Cd,Ce],[],false,none,false],#[[none,none,some<|.str tF 306,some<|.str tF 314,some<|.builtin "object.__new__",some<|.bool false]]]
def o66:Obj:=#[(.type "member_descriptor"),none,.fields #[[.str Cc 334,.ref 65,(.builtin "proto.slot"),(.builtin "proto.slot#set"),.int 2 0]],#[[]]]
def o67:Obj:=#[(.type "member_descriptor"),none,.fields #[[.str Cd 336,.ref 65,(.builtin "proto.slot"),(.builtin "proto.slot#set"),.int 1 0]],#[[]]]
def o68:Obj:=#[(.type "member_descriptor"),none,.fields #[[.str Ce 338,.ref 65,(.builtin "proto.slot"),(.builtin "proto.slot#set"),.int 0 0]],#[[]]]
def o79(P:eI):Obj:=dO [dE P rf 350<|.str kO 298,dE P rh 354<|.int 24 353,dE P ri 355<|.ref 78,dE P xW 357<|.ref 81,dE P k2 358 .none] 3
def o80:Obj:=#[.type "type",none,.cls #[mB,[.type "ValueError"],[.ref 80,.type "ValueError",.type "Exception",.type "BaseException",.type "object"],79,mB,true,[],[],false,none,false],#[[some<|.ref 71,none,some<|.str mB 343,some<|.str mB 351,some<|.builtin "ValueError.__new__",some<|.bool true]]]
def o91:Obj:=#[(.type "tuple"),none,.seq #[[.none]] 0,#[[]]]
def o97:Obj:=cO kN JV 373 28 2 0 3 92 380
def o98:Obj:=oF kN JV (gj (st 9) 0) (.ref 91) kO 298 97
def amr:Obj:=cO Cf JW 383 37 2 0 3 99 389
def ams:Obj:=oF Cf JW (gj (st 9) 1) .none kO 298 104
def amt:Obj:=cO Cg JX 392 42 2 0 7 106 401
def amu:Obj:=oF Cg JX (gj (st 9) 2) .none kO 298 111
def amv:Obj:=cP Ch Ci 404 51 1 0 3 113 407
def amw:Obj:=oF Ch Ci (gj (st 9) 3) .none kO 298 116
def amx:Obj:=cO Cj Ck 410 59 1 0 3 118 417
def amy:Obj:=oF Cj Ck (gj (st 9) 4) .none kO 298 123
def amz:Obj:=cO Cm JY 420 70 1 0 3 125 424
def amA:Obj:=oF Cm JY (gj (st 9) 5) .none kO 298 130
def amB:Obj:=cO Cn Co 434 78 1 0 7 139 445
def amC:Obj:=oF Cn Co (gj (st 9) 7) .none kO 298 144
def amD:Obj:=cO Cp Cq 448 101 1 0 3 146 458
def amE:Obj:=oF Cp Cq (gj (st 9) 8) .none kO 298 151
def amF(P:eI):Obj:=dO [dE P rf 368<|.str kO 298,dE P rh 372<|.int 26 371,dE P kN 382<|.ref 98,dE P Cf 391<|.ref 105,dE P Cg 403<|.ref 112,dE P Ch 409<|.ref 117,dE P Cj 419<|.ref 124,dE P Cm 426<|.ref 131,dE P ac4 433<|.ref 138,dE P Cn 447<|.ref 145,dE P Cp 460<|.ref 152,dE P ac5 467<|.ref 159,dE P ri 472<|.ref 160,dE P Cr 474<|.ref 163,dE P xW 476<|.ref 164,dE P k2 477 .none] 4
def amG:Obj:=#[.type "type",none,.cls #[tG,[.type "object"],[.ref 162,.type "object"],161,tG,true,[],[],false,none,false],#[[none,none,some<|.str tG 361,some<|.str tG 369,some<|.builtin "object.__new__",some<|.bool true]]]
def amH:Obj:=cO tH tH 490 138 2 0 3 174 495
def amI:Obj:=oF tH tH (st 12) .none pG 480 179
def amJ:Obj:=cO Cs JZ 534 150 1 1 15 201 540
def amK:Obj:=oF Cs JZ (gj (st 14) 1) .none pG 480 206
def amL(P:eI):Obj:=dO [dE P rf 527<|.str pG 532,dE P rh 531<|.int 147 530,dE P Cs 542<|.ref 211,dE P ri 543<|.ref 208,dE P Cr 546<|.ref 212,dE P xW 548<|.ref 213,dE P k2 549 .none] 4
def amM:Obj:=#[.type "type",none,.cls #[tI,[.type "object"],[.ref 210,.type "object"],209,tI,true,[],[.ref 225,.ref 237],false,none,false],#[[none,none,some<|.str tI 520,some<|.str tI 528,some .none,some<|.bool true]]]
def amN:Obj:=#[(.type "staticmethod"),none,.fields #[[.ref 207]],#[[]]]
def amO(P:eI):Obj:=dO [dE P rf 577<|.str pG 582,dE P rh 581<|.int 156 580,dE P ri 584<|.ref 235,dE P k2 585 .none] 2
def amP:Obj:=#[.type "type",none,.cls #[tJ,[.ref 210],[.ref 237,.ref 210,.type "object"],236,tJ,true,[],[.ref 714],false,none,false],#[[some<|.ref 228,none,some<|.str tJ 570,some<|.str tJ 578,some .none,some<|.bool true]]]
def amS:Obj:=#[.type "type",none,.cls #[tK,[.ref 225],[.ref 467,.ref 225,.ref 210,.type "object"],466,tK,true,[],[],false,none,false],#[[some<|.ref 240,none,some<|.str tK 588,some<|.str tK 596,some .none,some<|.bool true]]]
def amT:Obj:=#[(.type "tuple"),none,.seq #[[.str bN 864,.str Ct 865]] 0,#[[]]]
def amU:Obj:=cO kN J1 866 331 3 0 3 478 872
def amV:Obj:=oF kN J1 (gj (st 18) 1) (.ref 477) pG 480 483
def amW:Obj:=cO J3 J4 875 344 2 0 3 485 881
def amX:Obj:=oF J3 J4 (gj (st 18) 2) .none pG 480 490
def amY:Obj:=cO J5 J6 884 352 1 0 3 492 888
def amZ:Obj:=oF J5 J6 (gj (st 18) 3) .none pG 480 497
def am4:Obj:=#[(.type "tuple"),none,.seq #[[(.int (-1) 1057)]] 0,#[[]]]
def am5:Obj:=cO Cu J7 1058 474 2 2 3 654 1065
def am7:Obj:=oF Cu J7 (gj (st 18) 25) (.ref 653) pG 480 659
def am_(P:eI):Obj:=dO [dE P rf 857<|.str ac7 862,dE P rh 861<|.int 328 860,dE P kN 874<|.ref 484,dE P ac8 883<|.ref 491,dE P ac9 890<|.ref 498,dE P ac_ 897<|.ref 505,dE P ada 912<|.ref 512,dE P adc 920<|.ref 520,dE P add 928<|.ref 528,dE P ade 936<|.ref 536,dE P adf 944<|.ref 544,dE P adg 952<|.ref 552,dE P adh 959<|.ref 559,dE P adi 966<|.ref 566,dE P adj 974<|.ref 573,dE P adk 981<|.ref 580,dE P adl 988<|.ref 587,dE P adn 995<|.ref 594,dE P ado 1002<|.ref 601,dE P adp 1009<|.ref 608,dE P adq 1016<|.ref 615,dE P ads 1023<|.ref 622,dE P adt 1030<|.ref 629,dE P adu 1037<|.ref 636,dE P adv 1047<|.ref 644,dE P adw 1055<|.ref 652,dE P Cu 1067<|.ref 660,dE P adx 1077<|.ref 668,dE P adz 1087<|.ref 676,dE P J8 1094<|.ref 683,dE P J9 1102<|.ref 690,dE P adA 1114<|.ref 697,dE P adB 1122<|.ref 704,dE P adC 1129<|.ref 711,dE P ri 1133<|.ref 712,dE P k2 1134 .none] 2
def ana:Obj:=#[.type "type",none,.cls #[tM,[.ref 237],[.ref 714,.ref 237,.ref 210,.type "object"],713,tM,true,[],[],false,none,false],#[[some<|.ref 470,none,some<|.str tM 850,some<|.str tM 858,some .none,some<|.bool true]]]
def anb:Obj:=#[(.type "tuple"),none,.seq #[[.none,.none,(.bool false),(.bool false)]] 0,#[[]]]
def anc:Obj:=cO kN J_ 1209 599 5 0 3 767 1218
def ane:Obj:=oF kN J_ (gj (st 27) 0) (.ref 766) vj 1195 772
def anf:Obj:=cO xX Ka 1221 640 1 0 3 774 1225
def ang:Obj:=oF xX Ka (gj (st 27) 1) .none vj 1195 779
def anh:Obj:=#[(.type "property"),none,.fields #[[.ref 780,.none,.none,.none,.str xX 1228,(.bool false)]],#[[]]]
def ank:Obj:=cO Cv Kb 1253 667 1 0 3 804 1262
def anl:Obj:=oF Cv Kb (gj (st 27) 5) .none vj 1195 809
def anm:Obj:=cO Cw Cx 1265 694 1 0 3 811 1273
def ano:Obj:=oF Cw Cx (gj (st 27) 6) .none vj 1195 816
def anp(P:eI):Obj:=dO [dE P rf 1204<|.str vj 1195,dE P rh 1208<|.int 597 1207,dE P kN 1220<|.ref 773,dE P xX 1228<|.ref 781,dE P adE 1236<|.ref 788,dE P adF 1245<|.ref 796,dE P adG 1252<|.ref 803,dE P Cv 1264<|.ref 810,dE P Cw 1275<|.ref 817,dE P adH 1283<|.ref 824,dE P adI 1292<|.ref 832,dE P J8 1299<|.ref 839,dE P J9 1307<|.ref 846,dE P ri 1328<|.ref 847,dE P Cr 1330<|.ref 850,dE P xW 1332<|.ref 851,dE P k2 1333 .none] 4
def anq:Obj:=#[.type "type",none,.cls #[tP,[.type "object"],[.ref 849,.type "object"],848,tP,true,[],[],false,none,false],#[[none,none,some<|.str tP 1197,some<|.str tP 1205,some<|.builtin "object.__new__",some<|.bool true]]]
def anr:Obj:=cO tQ tQ 1338 850 2 0 3 854 1343
def ans:Obj:=oF tQ tQ (st 29) .none lI 1336 859
def ant:Obj:=cO q6 q6 1346 852 1 0 3 861 1356
def anu:Obj:=oF q6 q6 (st 30) .none lI 1336 866
def anv:Obj:=cO tS tS 1359 864 2 0 3 868 1365
def anw:Obj:=oF tS tS (st 31) .none lI 1336 873
def anx:Obj:=cO tT tT 1368 869 2 0 3 875 1373
def anz:Obj:=oF tT tT (st 32) .none lI 1336 880
def anA:Obj:=cP q7 q7 1376 877 3 0 3 882 1379
def anB:Obj:=oF q7 q7 (st 33) .none lI 1336 885
def anC:Obj:=cO q8 q8 1382 897 1 0 3 887 1389
def anD:Obj:=oF q8 q8 (st 34) .none lI 1336 892
def anE:Obj:=cP tU tU 1392 908 2 0 3 894 1395
def anF:Obj:=oF tU tU (st 35) .none lI 1336 897
def anG:Obj:=cP q9 q9 1398 917 1 0 3 899 1401
def anH:Obj:=oF q9 q9 (st 36) .none lI 1336 902
def anI:Obj:=cP q_ q_ 1404 940 3 0 3 904 1407
def anJ:Obj:=oF q_ q_ (st 37) .none lI 1336 907
def anL:Obj:=cP tV tV 1410 960 1 0 3 909 1413
def anM:Obj:=oF tV tV (st 38) .none lI 1336 912
def tE:KT:=.nil
def tN(a b:KT):KT:=.node none a b
def tR(b:KT):KT:=.node none .nil b
def tO(o:Obj)(a b:KT):KT:=.node (some o) a b
def tL(o:Obj):KT:=.node (some o) .nil .nil
def vp(P:eI):KT:=tO (o0 P) (tN (tO (o3 P) (tN (tR<|tN (tO (o79 P) tE<|tL amK)<|tL amt)<|tN (tN (tN (tR<|tR<|tL anH) tE) tE)<|tN (tN (tL amD) tE) tE)<|tN (tN (tN (tO o67 (tL amA) tE)<|tR<|tN (tR<|tL anu)<|tL amU)<|tN (tN (tR<|tN (tL am5) tE)<|tO amN tE<|tL amS)<|tN (tL amH) tE)<|tN (tN (tN (tN (tR<|tL anf)<|tR<|tL anI) tE)<|tR<|tR<|tL amX)<|tN (tO o91 tE<|tN (tR<|tL anr) tE)<|tL amx)<|tN (tN (tN (tN (tO o65 (tR<|tR<|tL anE) tE)<|tO o97 (tL<|amF P) tE)<|tN (tN (tO amC tE<|tR<|tL anM)<|tO (amL P) (tR<|tL anq) tE)<|tN (tN (tR<|tL ano) tE)<|tN (tR<|tL anz)<|tL amY)<|tN (tN (tR<|tR<|tN (tL<|am_ P) tE)<|tO ams (tN (tR<|tL ank) tE)<|tN (tR<|tL anv) tE) tE)<|tN (tN (tN (tN (tN (tR<|tL ane) tE) tE) tE)<|tR<|tO amw tE<|tN (tR<|tL anA) tE)<|tN (tO o45 (tN (tN (tR<|tL anh)<|tN (tL am4) tE) tE)<|tR<|tL amP)<|tO o61 (tR<|tR<|tL amT)<|tR<|tN (tR<|tL anD) tE)<|tO (o2 P) (tN (tN (tN (tN (tL<|o64 P) tE)<|tN (tO o80 (tO amB tE<|tR<|tL anL)<|tN (tR<|tL<|anp P) tE)<|tO amu (tN (tR<|tL anm) tE)<|tN (tR<|tL anx) tE)<|tN (tR<|tL amr)<|tN (tN (tL amE) tE) tE)<|tN (tN (tN (tO o68 (tN (tR<|tL anc) tE) tE)<|tR<|tR<|tL amV)<|tN (tN (tR<|tN (tL am7) tE) tE)<|tO amv (tL amI) tE)<|tN (tN (tN (tN (tR<|tL ang)<|tR<|tL anJ) tE)<|tR<|tL<|amO P)<|tO o60 (tR<|tN (tR<|tL ans) tE)<|tO amy tE<|tN (tR<|tL anC) tE)<|tN (tN (tN (tN (tO o66 (tO amz tE<|tR<|tL anF) tE)<|tO o98 (tL amG)<|tN (tR<|tL ant) tE)<|tN (tR<|tL amM)<|tR<|tR<|tL amZ)<|tN (tN (tR<|tR<|tN (tL ana) tE)<|tN (tN (tR<|tL anl) tE)<|tN (tR<|tL anw)<|tL amW) tE)<|tN (tN (tN (tN (tR<|tR<|tL anG) tE) tE)<|tR<|tR<|tN (tR<|tL anB) tE)<|tN (tO o46 (tR<|tL amJ) tE)<|tR<|tR<|tR<|tN (tL anb) tE
def T(P:eI)(a:N):Option Obj:=(vp P).get a
def ft(b1 d S:Bool)(f:String->Bool)(r:String):Bool:=
 match eY (PySem.W.S.codeS r) 10139888712337904147300001983332972444938612 with
 |true=>b1
 |false=>match eY (PySem.W.S.codeS r) 2510650655181157320538776789020469319833841985448949215332 with
  |true=>d
  |false=>match eY (PySem.W.S.codeS r) 2128753998966767838836 with
   |true=>S
   |false=>f r
def W(w:eJ)(b1 d S:Bool):eJ:={w with params:={w.params with followText:=ft b1 d S w.params.followText}}
def Ve:PySem.code "special-get-raises"=10139888712337904147300001983332972444938612:=by decide+kernel
def Vf:PySem.code "comprehension-iter-twice"=2510650655181157320538776789020469319833841985448949215332:=by decide+kernel
def Vg:PySem.code "set-order"=2128753998966767838836:=by decide+kernel
set_option tactic.hygienic true in
def TQ(w):W w (w.params.followText "special-get-raises") (w.params.followText "comprehension-iter-twice") (w.params.followText "set-order")=w:=by
 have e:ft (w.params.followText "special-get-raises") (w.params.followText "comprehension-iter-twice") (w.params.followText "set-order") w.params.followText=w.params.followText:=by
  funext r;unfold ft;split
  .rename_i U
   have:=AX r "special-get-raises" (by simp only[PySem.W.S.code_S,Ve];rw[nv U]);simp only[this]
  .split
   .rename_i U
    have:=AX r "comprehension-iter-twice" (by simp only[PySem.W.S.code_S,Vf];rw[nv U]);simp only[this]
   .split
    .rename_i U
     have:=AX r "set-order" (by simp only[PySem.W.S.code_S,Vg];rw[nv U]);simp only[this]
    .rfl
 unfold W;rw[e,]
def sP:KT->N->N->Frag
 |.nil,_,_=>[]
 |.node v l r,s,b=>(match v with
  |some Y=>[(b,Y)]
  |none=>[])++(sP l (2*s) (s+b)++sP r (2*s) (2*s+b))
def B2:∀{t s b},(∀p∈sP t s b,h.get? p.1=some p.2)->KT.Holds h s b t
 |.nil,_,_,_=>trivial
 |.node v l r,s,b,g=>by rw[#[λY e=>?_,B2 λp I=>g p<|dY _<|ga _ I,B2 λp I=>g p<|dY _<|dY _ I]];subst e;rw[g (b,Y)<|ga _<|.head _]
def RA:!N:=[0,3,79,207,111,903,151,67,131,867,483,659,211,467,179,779,907,491,91,859,123,65,897,97,161,145,913,209,849,817,881,497,713,105,809,873,773,117,885,45,781,653,237,61,477,893,2,64,80,144,912,848,112,816,880,104,152,68,772,484,660,116,180,780,908,236,60,860,124,892,66,130,898,98,162,866,210,498,714,810,874,490,902,886,46,206,766]
def arB(P):RA=(sP (vp P) 1 0).map (·.1):=by lk
def vK(s:aN):!(Option Obj)×Bool:=(RA.map s.heap.get?,(s.heap.get? 1).isSome)
def zc(w:eJ):!(Option Obj)×Bool:=((sP (vp w.params) 1 0).map λp=>some p.2,true)
def anP(e:vK s=zc w):(∀a o,T w.params a=some o->s.heap.get? a=some o)/\∃o,s.heap.get? 1=some o:=by
 rw[ct (o8 e) λK O=>#[λa o U=>?_,uP.mp O]];rw[arB w.params]at K;have A:=allIn_of K;have g:KT.Holds s.heap 1 0 (vp w.params):=B2 λp I=>by
  clear U K O e;generalize sP (vp w.params) 1 0=h at A I;induction h with
  |nil=>cases I
  |cons q h C=>
   rcases aY.mp I with rfl|I
   .rw[A.1]
   .rw[C A.2 I]
 rw[kt_at g U]
def E2:!Obj->N->BT->Option BT
 |[],_,i=>some i
 |Y::os,n,i=>match((i.ins n Y).get n).isSome with
  |true=>E2 os (n+1)<|i.ins n Y
  |false=>none
def arw:∀{os n T R},E2 os n T=some R->∀i,R.get i=if n<=i/\i<n+os.length then os[i-n]?else T.get i:=by
 intro J;induction J with
 |nil=>intro n T R U i;cases U;rw[if_neg<|by simp,]
 |cons Y os C=>
  intro n T R U i
  conv at U=>lhs;whnf
  cases e:((T.ins n Y).get n).isSome with
  |false=>rw[e]at U;cases U
  |true=>
   rw[e]at U;rw[(C U i)▸(BT.get_ins Y T n e i)▸dN▸?_];rcases zT i n with q|q|q
   .rw[if_neg λU=>Nat.lt_asymm q U.1,if_neg<|ll q,if_neg λU=>l8.mpr q U.1]
   .subst q
    rw[if_neg λU=>nA _ U.1,if_pos rfl,if_pos #[d8 _,Nat.lt_add_of_pos_right<|sB _],Nat.sub_self];rfl
   .by_cases M:i<n+1+os.length
    .rw[if_pos #[q,M],if_pos #[iK q,F_ n os.length 1▸M],show i-n=(i-(n+1))+1 from(Nat.succ_pred_eq_of_pos<|zZ q).symm,List.getElem?_cons_succ]
    .rw[if_neg<|aiF M,if_neg<|aiG q,if_neg<|aiH M]
def vv(s:aN):Option sJ:=(E2 s.heap.objs.toList 0 .nil).map λi=>#[i,s.heap.objs.size,s.heap.life,s.gens,s.drawn,s.toks,s.os]
def LB(h:vv s=some r):r.abs=s:=by
 rw[aJ (z7.mp h) λd f P=>?_];subst P;obtain⟨⟨b,a⟩,g,c,j,p⟩:=s;have e:absHeap d b.size a=#[b,a]:=by
  have:(absHeap d b.size a).objs=b:=by
   rw[Array.ext_getElem? λi=>?_];rw[absHeap_at,];by_cases q:i<b.size
   .rw[if_pos q,(arw f) i,if_pos #[dm _,by rw[aiI q]],Nat.sub_zero,So,zp q];rfl
   .rw[if_neg q,Array.getElem?_eq_none<|aiJ q]
  show(#[(absHeap d b.size a).objs,a]:iz)=_;rw[this,]
 show(#[absHeap d b.size a,g,c,j,p]:aN)=_;rw[e,]
abbrev uX:=sJ->sL->Option (sJ×sL)
def xQ(st:uX):N->sJ->sL->Option sJ
 |0,_,_=>none
 |n+1,s,D=>match D.atExitBegin with
  |some []=>some s
  |some (_::_)=>none
  |none=>match st s D with
   |some (P,k)=>xQ st n P k
   |none=>none
def aa5:∀{n s r t},xQ (p9 (nU D) p w) n s t=some r->importEnds D p w n s.abs t=some r.abs:=by
 intro J;induction J with
 |zero=>intro _ _ _ U;cases U
 |succ n C=>
  intro s r t U
  conv at U=>lhs;whnf
  simp only[importEnds];cases S:t.atExitBegin with
  |some l=>rw[S]at U;cases l with
   |nil=>cases U;rfl
   |cons a l=>cases U
  |none=>
   rw[S]at U;cases o:p9 (nU D) p w s t with
   |none=>rw[o]at U;cases U
   |some x=>rw[x.casesOn λP k=>?_];rw[o]at U;rw[(stepT_spec o)▸C U]
def za(ok:sL->Bool)(st:uX):N->sJ->sL->Option sJ
 |0,_,_=>none
 |n+1,s,D=>match through D with
  |true=>some s
  |false=>match ok D with
   |false=>none
   |true=>match st s D with
    |some (P,k)=>za ok st n P k
    |none=>none
def arA:∀{n s r t},za (stepOk G D) (p9 (nU K) p w) n s t=some r->topRun K p w G D n s.abs t=some r.abs:=by
 intro J;induction J with
 |zero=>intro _ _ _ U;cases U
 |succ n C=>
  intro s r t U
  conv at U=>lhs;whnf
  simp only[topRun];cases S:through t with
  |true=>rw[S]at U;cases U;rfl
  |false=>
   simp only[S]at U;cases c:stepOk G D t with
   |false=>rw[c]at U;cases U
   |true=>
    rw[c]at U;cases o:p9 (nU K) p w s t with
    |none=>rw[o]at U;cases U
    |some x=>rw[x.casesOn λP k=>?_];rw[o]at U;rw[(stepT_spec o)▸C U]
structure Fx (α:Type)where
 imp:uX
 top:uX
 ok:N->Option af->sL->Bool
 fence:aN->Option aN
 look:aN->aN->Option α
def xB{n:Type}(f:Fx n)(p:qG)(aK:N):Option n:=
 match vv (start<|ox p).1 with
 |none=>none
 |some z=>match xQ f.imp aK z (start<|ox p).2 with
  |none=>none
  |some a=>match f.fence a.abs with
   |none=>none
   |some B=>match B.heap.isNs vz&&B.gens.size==0 with
    |false=>none
    |true=>match vv B with
     |none=>none
     |some U=>match za (f.ok B.heap.objs.size<|B.heap.nsMap vz "__annotations__") f.top aK U (topStub p)with
      |none=>none
      |some b=>f.look B b.abs
def LF{t:Type}(p q:qG)(loose:!aA)(Xt:aN->Bool)(Yf:aN->t)(B a:aN):=
 match staticsOk (vd p.main.body) B.heap a.heap&&namesBound p a.heap&&gensDone a&&laidKept B.heap a.heap with
 |true=>some (openSeen q loose (vd p.main.body) Xt true a,Yf a)
 |false=>none
def Yd{t:Type}{Yf:aN->t}{r}(h:xB #[p9 (nU oI) (ox p) w,p9 (nU oI) p w,stepOk,BK p,LF p q loose Xt Yf] p aK=some r):(openEnds oI p w aK).map (λs=>(openSeen q loose (vd p.main.body) Xt true s,Yf s))=some r:=by
 simp only[xB]at h;cases c:vv (start (ox p)).1 with
 |none=>rw[c]at h;cases h
 |some z=>
  rw[c]at h;dsimp only at h;cases M:xQ (p9 (nU oI) (ox p) w) aK z (start (ox p)).2 with
  |none=>rw[M]at h;cases h
  |some a=>
   rw[M]at h;dsimp only at h;cases X:BK p a.abs with
   |none=>rw[X]at h;cases h
   |some B=>
    rw[X]at h;dsimp only at h;cases I:B.heap.isNs vz&&B.gens.size==0 with
    |false=>rw[I]at h;cases h
    |true=>
     rw[I]at h;dsimp only at h;cases Y:vv B with
     |none=>rw[Y]at h;cases h
     |some U=>
      rw[Y]at h;dsimp only at h;cases u:za (stepOk B.heap.objs.size (B.heap.nsMap vz "__annotations__")) (p9 (nU oI) p w) aK U (topStub p)with
      |none=>rw[u]at h;cases h
      |some b=>
       rw[u]at h;dsimp only at h;have d:importEnds oI (ox p) w aK (start<|ox p).1 (start<|ox p).2=some a.abs:=by have:=aa5 M;rw[LB c▸this]
       have L:topRun oI p w B.heap.objs.size (B.heap.nsMap vz "__annotations__") aK B (topStub p)=some b.abs:=by have:=arA u;rwa[LB Y]at this
       unfold LF at h;unfold openEnds fencedOpening;rw[d,];show((BK p a.abs).bind<|topFrom oI p w aK).map _=_;rw[X,];show(topFrom oI p w aK B).map _=_;unfold topFrom;rw[I,L];show(match staticsOk (vd p.main.body) B.heap b.abs.heap&&namesBound p b.abs.heap&&gensDone b.abs&&laidKept B.heap b.abs.heap with|true=>some b.abs|false=>none).map _=_;split at h
       .rw[h]
       .rw[nn h]
section
open PySem PySem.W PySem.W.X PySem.Calls PyProof.Rows
abbrev lP:OpenLaw:=PySem.Challenge.rw_oc0358_01
def qv:qG:={pw with main:={pw.main with body:=[st 0,st 38]}}
def aoC(s:bL):Pos:=match s with
 |.FunctionDef _ _ _ _ _ _ _ _ _ p=>p
 |_=>default
def Cy:aA:=#[#[[108,97,119]]]
def dL:DefRec:=#[Cy,fA<|st 38,fB<|st 38,fS<|st 38,aoC<|st 38]
def Z9:defOf qv lP.row.name=some (dL,[]):=by lk
def aab:lP.row.prog.theDef lP.row.name=some (dL.params,dL.body,dL.scope):=by lk
def Z_:kwWritten? dL.params.kwonlyargs dL.params.kw_defaults=some []:=by lk
def aaa:(chainsOk qv&&opensWell lP.row.prog&&(frees lP.row.toRowW&&lP.row.toRowW.within.isEmpty))=true:=by lk
def Z8:lP.row.prog.bare:=#[rfl,rfl,rfl,rfl,rfl,by decide+kernel]
end
def tX:!aA:=[JI,qZ,JJ,JK,tF,mB,tG,JL,tH,JM,tI,JN,tJ,tK,tM,JO,JP,JQ,JR,JS,JT,tP,tQ,q6,tS,tT,q7,q8,tU,q9,q_]
abbrev zN:=type_of%(openGood qv tX)
abbrev F9:=zN×(!(Option Obj)×Bool)
def afm(a:qG->!aA->!aA->(aN->Bool)->Bool->aN->zN)(c:!bL->!aA)(B b:aN):Option F9:=
 match staticsOk (c pw.main.body) B.heap b.heap&&namesBound pw b.heap&&gensDone b&&laidKept B.heap b.heap with
 |true=>some (a qv tX (c pw.main.body) (λU=>true) true b,vK b)
 |false=>none
def BL(b:(String->Option fM)->bj->bk Fin)(Z:String->Option fM)(d:(bj->bk Fin)->qG->eJ->uX)(ok:N->Option af->sL->Bool)(e:qG->aN->Option aN)(a:qG->!aA->!aA->(aN->Bool)->Bool->aN->zN)(c:!bL->!aA)(w:eJ):Fx F9:=#[d (b Z) (ox pw) w,d (b Z) pw w,ok,e pw,afm a c]
def aq2(w):xB (BL PySem.W.Fast.tw11892475500146522536 PySem.W.Fast.tw14364793385576792824 PySem.W.Fast.tw10156331382660048174 PySem.W.Fast.tw6613529449190102663 PySem.W.Fast.tw14289696077712309145 PySem.W.Fast.tw4187177175401517315 PySem.W.Fast.tw5923862056798008813 w) pw 8000=some (openGood qv tX,zc w):=by lk
def aq8(w):BL nU oI p9 stepOk BK openSeen vd w=BL PySem.W.Fast.tw11892475500146522536 PySem.W.Fast.tw14364793385576792824 PySem.W.Fast.tw10156331382660048174 PySem.W.Fast.tw6613529449190102663 PySem.W.Fast.tw14289696077712309145 PySem.W.Fast.tw4187177175401517315 PySem.W.Fast.tw5923862056798008813 w:=by rw[PySem.W.Fast.te11892475500146522536,PySem.W.Fast.te14364793385576792824,PySem.W.Fast.te10156331382660048174,PySem.W.Fast.te6613529449190102663,PySem.W.Fast.te14289696077712309145,PySem.W.Fast.te4187177175401517315,PySem.W.Fast.te5923862056798008813]
def afe:LeftO pw qv tX (λU=>true) vK zc 8000:=λT=>Yd (p:=pw) (q:=qv) (loose:=tX) (Xt:=λU=>true) (Yf:=vK)<|(congrArg (λf=>xB f pw 8000)<|aq8 T).trans<|aq2 T
abbrev Ay:=String->kY->aR->Option (bk Fin×aR×!As)
def b9(f:Ay):Prop:=∀(T:eJ) (F:aH->Obj->Prop) (B:aN),uF (λU=>f) T F B
def an4{id:String}(j:By table id=some b)(D:∀o P,Q o P->mP pw w A R o P)(h:aW (aE pw w) A (.builtin id args) (b args) Q (er R) s):gL (aE pw w) A (.builtin id args) R s:=by rw[uz pw w A R s _ ?_];show aW _ _ _ (match By table id with|some b=>b args|none=>unsupported<|(withoutEnding? id "#data").getD id) _ _ s;rw[j▸mX h D λU U h=>h]
abbrev y4:bk Fin:=PySem.W.Fast.tw17615448654315672387
def Q_:(Sw:bk Fin)=y4:=by show _=PySem.W.Fast.tw17615448654315672387;rw[<-PySem.W.Fast.te17615448654315672387]
def df(xs:Array af)(k:Int)(v:af):Prop:=xs[k.toNat]? =some v
def ig(xs:Array af)(k:Int):Prop:=xs[k.toNat]? =none
def eP(v:af):bk Fin:=.pure<|.done<|.ret v
def bF.upd{F:aH->Obj->Prop}{B:aN}{g:aR}{s:aN}(E:bF F B g s){j:N}{p:aH×Obj}{f:Obj->Obj}{o':Obj}(c:gP g.L j=some p)(e:f p.2=o')(R:o'.isFreed=false){a:aR} (A:a.L=pX g.L j o')(w:a.n=g.n)(S:a.t=g.t)(u:a.O=g.O)(b:a.Y=g.Y:=by rfl):bF F B a {s with heap:=s.heap.update p.1 f}:=by subst e;have z:=E.update c R a.h;rw[#[z.fr,by rw[A▸z.led],by rw[A▸z.nd],by rw[A▸z.dj],z.sz.trans w.symm,z.tk.trans S.symm,z.rest,by rw[u▸E.ro],by rw[A▸b▸z.hy]]]
def bF.same{F:aH->Obj->Prop}{B:aN}{g:aR}{s:aN}(E:bF F B g s){a:aR}(A:a.L=g.L)(w:a.n=g.n)(S:a.t=g.t)(u:a.O=g.O)(b:a.Y=g.Y:=by rfl):bF F B a s:=#[E.fr,by rw[A▸E.led],by rw[A▸E.nd],by rw[A▸E.dj],E.sz.trans w.symm,E.tk.trans S.symm,E.rest,by rw[u▸E.ro],by rw[A▸b▸E.hy]]
section
variable{w:eJ} {A:dX} {c:bj} {Q:Fin->aN->Prop} {E:af->aN->Prop} {s:aN}
def ob{n t:Type}{m:bk n}{f:n->bk t}{Q:t->aN->Prop}(h:ej (aE pw w) (A.under c) m (λa P=>aW (aE pw w) A c (f a) Q E P) E s):aW (aE pw w) A c (m>>=f) Q E s:=hV<|mY h
def aps(j:b=Builtin.«list_iterator.__next__»\/b=Builtin.«tuple_iterator.__next__»)(hi:s.heap.get? it=some #[D,d,.fields #[[.ref l,.int k tk]],K])(a:s.heap.get? l=some #[G,J,.seq xs n,U])(W:xs[k.toNat]? =some v)(h:aW (aE pw w) A c (.pure<|.done<|.ret v) Q E {s with heap:=s.heap.update it<|iY (·.setIfInBounds 1 (iq<|k+1))}):aW (aE pw w) A c (b #[[.ref it],[]]) Q E s:=by
 rcases j with rfl|rfl<;>
 .show aW _ _ _ (field (.ref it) 0>>=_) _ _ s
  rw[ob<|jv hi rfl (x:=.ref l) rfl<|ob<|jv hi rfl (x:=.int k tk) rfl<|ob<|zm a rfl ?_];simp only[W];rw[ob<|qd hi rfl (zS 1) h]
def apr(j:b=Builtin.«list_iterator.__next__»\/b=Builtin.«tuple_iterator.__next__»)(hi:s.heap.get? it=some #[D,d,.fields #[[.ref l,.int k tk]],K])(a:s.heap.get? l=some #[G,J,.seq xs n,U])(W:xs[k.toNat]? =none)(h:aW (aE pw w) A c (Sw:bk Fin) Q E {s with heap:=s.heap.update it<|iY (·.setIfInBounds 0 .none)}):aW (aE pw w) A c (b #[[.ref it],[]]) Q E s:=by
 rcases j with rfl|rfl<;>
 .show aW _ _ _ (field (.ref it) 0>>=_) _ _ s
  rw[ob<|jv hi rfl (x:=.ref l) rfl<|ob<|jv hi rfl (x:=.int k tk) rfl<|ob<|zm a rfl ?_];simp only[W];rw[ob<|oJ<|ob<|qd hi rfl (wS Nat.zero_lt_one<|oZ 1) h]
end
def VM:PySem.code "slice"=439771360628:=by decide+kernel
def jR(v:af):Option (Option Int):=match v with
 |.none=>some none
 |.int j _=>some<|some j
 |_=>none
def abn(x:aA):Bool:=PySem.W.Fast.sEq x #[#[[97,115,99,105,105]]]
def zn:!N->!(aH×Obj)->!As
 |a::as,p::ps=>.adr a p.1::zn as ps
 |_,_=>[]
def EL:!(aH×Obj)->!Obj
 |[]=>[]
 |p::l=>p.2::EL l
def EZ:N->!N->!N
 |0,_=>[]
 |_+1,[]=>[]
 |j+1,i::l=>i::EZ j l
def HK:N->!N->!N
 |0,l=>l
 |_+1,[]=>[]
 |j+1,_::l=>HK j l
def Aw(h:iz):!aH->!Obj->Prop
 |a::as,o::os=>h.get? a=some o/\Aw h as os
 |_,_=>True
set_option tactic.hygienic true in
def RV{h:iz}(C:h.get? a=some o)(e:f o=o'):h.update a f=h.update a (λU=>o'):=by
 obtain⟨b,l⟩:=h;show(#[b.modify a f,l]:iz)=#[b.modify a λU=>o',l];congr 1;apply Array.ext
 .simp
 .intro i c M
  simp only[Sp,Sp];split
  .rename_i m
   subst m;have X:a<b.size:=by simpa using c
   have:=zp X;have O:b[a]=o:=by have:=this.symm.trans<|(Heap.get?_some_iff.mp C).1;rw[dZ this]
   simp only[O,e]
  .rfl
section
variable{w:eJ} {A:dX} {c:bj} {Q:Fin->aN->Prop} {E:af->aN->Prop} {s:aN}
def pR(C:s.heap.get? a=some o)(e:f o=o')(h:aW (aE pw w) A c (.update a none (λU=>o') k) Q E s):aW (aE pw w) A c (k ()) Q E {s with heap:=s.heap.update a f}:=λj p d t=>by have b:eZ (aE pw w) j (updatePart a none (λU=>o')>>=k) (λa U P=>Q a P) (λe U P=>E e P) p s:=(h j p d t);simp only[jC]at b;rw[(RV C e)▸((Sem.wp_cmd_updatePart (aE pw w) j _ p s a none (λU=>o') _).mp b).2]
def OS(h:aW (aE pw w) A c (.alloc o k) Q E s):aW (aE pw w) A c (k s.heap.objs.size) Q E {s with heap:=s.heap.push o}:=λj p d t=>h j p d t
end
def Dc(g:aR)(a:!N):Option (List<|aH×Obj):=a.rec (some []) λi U f=>oS (tW g i) λp=>oS f λl=>some (p::l)
def afn(E:bF F D g s):∀{b l as},Dc g b=some l->(∀p∈zn as l,p.ok)->Aw s.heap as (EL l):=by
 intro J;induction J with
 |nil=>
  intro l as U _
  cases U;cases as<;>trivial
 |cons i b C=>
  intro l as U d;exact cV U λp K U=>cV U λQ O U=>by
   have U:=dZ U;subst U;cases as with
   |nil=>trivial
   |cons a as=>have e:=d (.adr a p.1)<|.head _;subst e;rw[⟨E.look K,C O λq u=>d q<|.tail _ u⟩]
inductive VP where
 |nil
 |v (p:VP)
 |r (p:VP)
 |i (p:VP)
 |s (p:VP)
 |b (p:VP)
 |y (p:VP)
 |n (p:VP)
 |asc (p:VP)
def CV(p:VP)(t:Type):Type:=p.rec t (λU i=>af->i) (λU i=>aH->i) (λU i=>Int->Tok->i) (λU i=>aA->Tok->i) (λU i=>Bool->i) (λU i=>Array UInt8->Tok->i) (λU i=>i) λU i=>i
def mV{t:Type}(p:VP):CV p t->!af->Option (t×!af):=VP.rec (motive:=λp=>CV p t->!af->Option (t×!af)) (λj l=>some (j,l)) (λp f j l=>oC l λv l=>f (j v) l) (λp f j l=>oC l λv l=>oS (vR v) λa=>f (j a) l) (λp f j l=>oC l λv l=>oS (vI v) λa=>f (j a.1 a.2) l) (λp f j l=>oC l λv l=>oS (vS v) λa=>f (j a.1 a.2) l) (λp f j l=>oC l λv l=>oS (vB v) λa=>f (j a) l) (λp f j l=>oC l λv l=>oS (vY v) λa=>f (j a.1 a.2) l) (λp f j l=>oC l λv l=>oT (vN v)<|f j l) (λp f j l=>oC l λv l=>oS (vS v) λa=>oT (abn a.1)<|f j l) p
def wF{t:Type}(p:VP):CV p t->(!af->t->Prop)->Prop:=VP.rec (motive:=λp=>CV p t->(!af->t->Prop)->Prop) (λj c=>c [] j) (λp f j c=>∀v,f (j v) λl=>c (v::l)) (λp f j c=>∀a,f (j a) λl=>c (.ref a::l)) (λp f j c=>∀i D,f (j i D) λl=>c (.int i D::l)) (λp f j c=>∀x D,f (j x D) λl=>c (.str x D::l)) (λp f j c=>∀b,f (j b) λl=>c (.bool b::l)) (λp f j c=>∀b D,f (j b D) λl=>c (.bytes b D::l)) (λp f j c=>f j λl=>c (.none::l)) (λp f j c=>∀D,f j λl=>c (.str #[#[[97,115,99,105,105]]] D::l)) p
def Is{t:Type}(M:!af->t->Prop)(l:!af)(z:t×!af):Prop:=∃r,l=r++z.2/\M r z.1
def Is.c{t:Type}{M:!af->t->Prop}{z:t×!af}{v q:af}{l Q:!af}(e:l=v::Q)(O:v=q)(h:Is (λl=>M (q::l)) Q z):Is M l z:=h.elim λr h=>bA (q::r) (e.trans<|O▸congrArg (v::·) h.1) h.2
def Dv{t:Type}{z:t×!af}(p):∀(k l M),mV p k l=some z->wF p k M->Is M l z:=VP.rec (λk l M U g=>bA [] (congrArg sG<|dZ U)<|(congrArg Ab<|dZ U)▸g) (λp f k l M U g=>gt U λv Q e U=>.c e rfl<|f (k v) Q _ U<|g v) (λp f k l M U g=>gt U λv Q e U=>cV U λa O U=>.c e (Fb O)<|f (k a) Q _ U<|g a) (λp f k l M U g=>gt U λv Q e U=>cV U λa O U=>.c e (E_ O)<|f (k a.1 a.2) Q _ U<|g a.1 a.2) (λp f k l M U g=>gt U λv Q e U=>cV U λa O U=>.c e (wu O)<|f (k a.1 a.2) Q _ U<|g a.1 a.2) (λp f k l M U g=>gt U λv Q e U=>cV U λa O U=>.c e (asb O)<|f (k a) Q _ U<|g a) (λp f k l M U g=>gt U λv Q e U=>cV U λa O U=>.c e (asd O)<|f (k a.1 a.2) Q _ U<|g a.1 a.2) (λp f k l M U g=>gt U λv Q e U=>ko U λO U=>.c e (RX O)<|f k Q _ U g) (λp f k l M U g=>gt U λv Q e U=>cV U λa O U=>ko U λb U=>.c e ((wu O).trans<|congrArg (qK · a.2)<|PySem.W.Fast.sEq_iff.mp b)<|f k Q _ U<|g a.2) p
inductive OP where
 |nil
 |q (p:OP)
 |d (p:OP)
 |f (u:VP) (p:OP)
 |sl (p:OP)
def CO(p:OP)(t:Type):Type:=p.rec t (λU i=>af->Option aH->Array af->N->Array (Option af)->i) (λU i=>af->Option aH->!bv->N->Array (Option af)->i) (λS U i=>af->Option aH->CV S (Array (Option af)->i)) (λU i=>Option Int->Option Int->i)
def Qt{t:Type}(l:!af)(k:Option Int->Option Int->Option t):Option t:=oC l λR E=>oC E λm E=>oC E λv E=>oT (vN v)<|oE E<|oS (jR R) λR=>oS (jR m) λm=>k R m
def aqr{t:Type}{z:t}{k:Option Int->Option Int->Option t}{C:Prop}(h:Qt l k=some z)(c:∀a b R hi,l=[a,b,.none]->jR a=some R->jR b=some hi->k R hi=some z->C):C:=
 gt h λo u K h=>gt h λn m O h=>gt h λX g e h=>ko h λU h=>ov h λi h=>cV h λR f h=>cV h λhi d h=>c o n R hi (K.trans<|O▸e▸i▸RX U▸rfl) f d h
def mO{t:Type}(p:OP):CO p t->!Obj->Option t:=OP.rec (motive:=λp=>CO p t->!Obj->Option t) (λj l=>oE l<|some j) (λp f j l=>oC l λY l=>oS (dQ Y.data) λa=>f (j Y.cls Y.dict a.1 a.2 Y.slots) l) (λp f j l=>oC l λY l=>oS (dD Y.data) λa=>f (j Y.cls Y.dict a.1.toList a.2 Y.slots) l) (λS p f j l=>oC l λY l=>oS (dF Y.data) λa=>oS (mV S (j Y.cls Y.dict) a.toList) λz=>oE z.2<|f (z.1 Y.slots) l) (λp f j l=>oC l λY l=>oT (qW Y.cls 439771360628)<|oS (dF Y.data) λa=>Qt a.toList λR m=>f (j R m) l) p
def Fi{t:Type}(p:OP):CO p t->(!Obj->t->Prop)->Prop:=OP.rec (motive:=λp=>CO p t->(!Obj->t->Prop)->Prop) (λj c=>c [] j) (λp f j c=>∀H d Q n sl,f (j H d Q n sl) λl=>c (#[H,d,.seq Q n,sl]::l)) (λp f j c=>∀H d k n sl,f (j H d k n sl) λl=>c (#[H,d,.dict #[k] n,sl]::l)) (λS p f j c=>∀H d,wF S (j H d) λg j=>∀sl,f (j sl) λl=>c (#[H,d,.fields #[g],sl]::l)) (λp f j c=>∀d a b R m sl,jR a=some R->jR b=some m->f (j R m) λl=>c (#[.type "slice",d,.fields #[[a,b,.none]],sl]::l)) p
def Obj.e{o:Obj}{d:Data}(h:o.data=d):o=#[o.cls,o.dict,d,o.slots]:=h▸rfl
def xm{M:!Obj->Prop}(e:l=o::D)(O:o=o')(h:M (o'::D)):M l:=e▸O▸h
def alz{t:Type}{z:t}(p):∀(k l M),mO p k l=some z->Fi p k M->M l z:=OP.rec (λk l M U g=>ov U λe U=>e▸dZ U▸g) (λp f k l M U g=>gt U λY Q e U=>cV U λa O U=>xm (M:=(M · z)) e (Obj.e<|HB O)<|f _ Q (λl=>M (_::l)) U<|g _ _ _ _ _) (λp f k l M U g=>gt U λY Q e U=>cV U λa O U=>xm (M:=(M · z)) e (Obj.e<|Xm O)<|f _ Q (λl=>M (_::l)) U<|g _ _ _ _ _) (λS p f k l M U g=>gt U λY Q e U=>cV U λa O U=>cV U λy c U=>ov U λd U=>(Dv S _ _ _ c<|g Y.cls Y.dict).elim λr q=>have i:=congrArg ar (q.1.trans<|d▸bQ r);xm (M:=(M · z)) e (Obj.e<|(Bb O).trans<|congrArg Ft i) (f _ Q (λl=>M (_::l)) U<|q.2 Y.slots)) (λp f k l M U g=>gt U λY Q e U=>ko U λj U=>cV U λa O U=>aqr U λh b R m c d i U=>xm (M:=(M · z)) e ((Obj.e<|(Bb O).trans<|congrArg (λl=>Ft #[l]) c).trans<|congrArg (λZ=>(#[Z,Y.dict,.fields #[_],Y.slots]:Obj))<|tD j VM)<|f _ Q (λl=>M (_::l)) U<|g _ _ _ _ _ _ d i) p
structure qI where
 t:bk Fin
 as:!aH:=[]
 P:Prop:=True
 w:Option Obj:=none
def qI.st(z:qI)(s:aN):aN:=z.w.rec s λY=>z.as.rec s λa U U=>{s with heap:=s.heap.update a λU=>Y}
def wr(w:Option Obj)(as:!aH)(k:N)(g:aR):Option (List<|aH×Obj):=w.rec (some g.L) λY=>oC as λU U=>oC g.h λi U=>oT (zP i 1000&&(zP 0 k&& (not (Y.isFreed))))<|some<|pX g.L i Y
abbrev RF(S i:VP)(u:OP):Type:=CV S<|CV i<|CO u qI
def ruC(k:N)(l:!(aH×Obj))(gv:!af)(g:aR)(z:qI):Option (bk Fin×aR×!As):=oS (wr z.w z.as k g) λm=>some (z.t,{g with L:=m,h:=HK k g.h,gv:=gv},.Eg z.P::zn z.as l)
def ruB(k:N)(i:VP)(u:OP)(l:!(aH×Obj))(g:aR)(f:CV i (CO u qI)):Option (bk Fin×aR×!As):=oS (mV i f g.gv) λy=>oS (mO u y.1<|EL l)<|ruC k l y.2 g
def ruA(k:N)(S i:VP)(u:OP)(f:RF S i u)(U:!af)(g:aR):Option (bk Fin×aR×!As):=oS (Dc g<|EZ k g.h) λl=>oS (mV S f U) λx=>oE x.2<|ruB k i u l g x.1
def cy(n k:N){S i:VP}{u:OP}(f:RF S i u)(id:String)(args:kY)(g:aR):Option (bk Fin×aR×!As):=oT (B_ id n)<|oE args.kw<|ruA k S i u f args.pos g
def Ty(b:fM)(U:!af)(os:!Obj)(z:qI):Prop:=z.P->∀(T:eJ) (J:N) (t:Mk) (A:dX) (Z:bj) (h:Fin->aN->Prop) (w:af->aN->Prop) (s:aN),fL J t A->Aw s.heap z.as os->
   aW (aE pw T) A Z z.t h w (z.st s)->aW (aE pw T) A Z (b #[U,[]]) h w s
def sH(b:fM)(S i:VP)(u:OP)(f:RF S i u):Prop:=wF S f λU f=>wF i f λK f=>Fi u f<|Ty b U
def asC{z:qI}(E:bF F K g s)(e:Dc g (EZ k g.h)=some l)(d:∀p∈zn z.as l,p.ok)(h:wr z.w z.as k g=some G.L)(w:G.n=g.n)(S:G.t=g.t)(u:G.O=g.O)(b:G.Y=g.Y):bF F K G (z.st s):=by
 obtain⟨D,J,c,r⟩:=z;cases r with
 |none=>rw[E.same (dZ h).symm w S u b]
 |some Y=>
  rw[gt h λa Z M h=>gt h λi o n h=>ko h λj I=>?_];subst M;rw[ky,ky]at j;rw[n]at e;cases k with
  |zero=>rw[oL j.2.1]
  |succ k=>
   rw[cV e λq f O=>cV O λm _ t=>?_];have U:=dZ t;subst U;have M:=d (.adr a q.1)<|.head _;subst M
   rw[E.upd ((by unfold tW;rw[j.1,]:tW g i=gP g.L i)▸f) rfl (by have z:=j.2.2;revert z;cases Y.isFreed<;>decide) (dZ I).symm w S u b]
def cD{f:RF a6 a7 a8}(name b)(w:PySem.code name=n)(j:By table name=some b)(g:sH b a6 a7 a8 f):b9 (cy n k f):=λT F B _ id #[U,o] Q x e d J t A C h P s E D H=>by rw[ko e λO e=>ov e λK e=>cV e λl i e=>cV e λG a e=>ov e λM e=>cV e λy Z e=>cV e λz c e=>cV e λm L e=>?_];obtain rfl:=dZ e;obtain rfl:o=[]:=K;obtain rfl:=JA O w;rw[an4 j D<|(Dv a6 _ _ _ a g).elim λr q=>(Dv a7 _ _ _ Z q.2).elim λ_ u=>?_];obtain rfl:U=r:=q.1.trans<|M▸bQ r;rw[alz a8 _ _ _ c u.2 (d _<|.head _) T J t A _ h _ s C (afn E i λp I=>d p<|.tail _ I)<|H _<|asC E i (λp I=>d p<|.tail _ I) L rfl rfl rfl rfl]
abbrev M1:!af->bk af:=PySem.W.Fast.tw6357449854754888395
def amj:newTuple=M1:=PySem.W.Fast.te6357449854754888395
def Vu:PySem.code "int.__divmod__"=1954748619459276632098664420306794:=by decide+kernel
def Vm:PySem.code "bytes.__add__"=7635736742593746904984533170787:=by decide+kernel
def pb{n t:Type}(x:n)(f:n->bk t):((pure x:bk n)>>=f)=f x:=rfl
def XA(L:y≠0)(I:uD x y=false):Builtin.«int.__divmod__» #[[.int x t,.int y u],[]]=(lL (x.fdiv y)>>=λa=>lL (x.fmod y)>>=λb=>newTuple [a,b]>>=λv=>gx v):=by have e:Builtin.«int.__divmod__» #[[.int x t,.int y u],[]]=(if(y==0)=true then(rule "int.divmod.zero">>=λU=>raiseError "ZeroDivisionError" "integer division or modulo by zero">>=λr=>_)else(zw x y>>=λU=>lL (x.fdiv y)>>=λa=>lL (x.fmod y)>>=λb=>newTuple [a,b]>>=λv=>gx v)):=rfl;rw[e,if_neg<|by simpa using L];unfold zw;rw[I,];rfl
def UE(o:a.isEmpty=false)(j:b.isEmpty=false)(hs:a.size+b.size<=eG):Builtin.«bytes.__add__» #[[.bytes a t,.bytes b u],[]]=(yj (a++b)>>=λv=>gx v):=by have c:slotArgs "__add__" 1 #[[.bytes a t,.bytes b u],[]]=pure (.bytes a t,[.bytes b u]):=rfl;have I:Builtin.Bytes.tooLong (a.size+b.size)=false:=decide_eq_false<|l_.mpr hs;unfold Builtin.«bytes.__add__»;simp only[c,pb,(by lk:Builtin.Bytes.buffer? "bytes.__add__" (.bytes a t)=pure (some a)),(by lk:Builtin.Bytes.bufferQuiet? "bytes.__add__" (.bytes b u)=pure (some b)),I,o,j,Fl,if_false]
def wV(x y q m:Int):Prop:=y≠0/\uD x y=false/\x.fdiv y=q/\x.fmod y=m
def Gq(a b:Array UInt8):Prop:=a.isEmpty=false/\b.isEmpty=false/\a.size+b.size<=eG
def lB(e:m=t)(k:aW (aE pw w) A c t Q E s):aW (aE pw w) A c m Q E s:=e▸k
def wm{s:aN}(C:s.heap.get? a=some o)(e:f o=o')(k:aW (aE pw w) A c t Q E {s with heap:=s.heap.update a λU=>o'}):aW (aE pw w) A c t Q E {s with heap:=s.heap.update a f}:=(RV C e)▸k
def ue(c d:Ay)(id:String)(args:kY)(g:aR):Option (bk Fin×aR×!As):=(c id args g).rec (d id args g) some
def anT{id:String}(h:ue D G id args g=some x):D id args g=some x\/G id args g=some x:=by
 unfold ue at h
 revert h;cases D id args g with
 |none=>rw[.inr]
 |some=>rw[.inl]
def DS(a:b9 D)(M:b9 G):b9 (ue D G):=λT F B K id n z x e=>(anT e).elim (a T F B K id n z x)<|M T F B K id n z x
def BH:RF (.r .nil) (.v .nil) (.f (.r<|.i .nil)<|.q .nil):=λU v H d l j K sl K K Q K K=>{t:=eP v,as:=[U,l],P:=df Q j v,w:=some #[H,d,.fields #[[.ref l,.int (j+1) 0]],sl]}
def BF:RF (.r .nil) .nil (.f (.r<|.i .nil)<|.q .nil):=λU H d l j K sl J J Q J J=>{t:=y4,as:=[U,l],P:=ig Q j,w:=some #[H,d,.fields #[[.none,.int j K]],sl]}
def Jf:=ue (cy 36058839055461744822429329989390181918337346850548333 2 BH)<|cy 9231062798198206674541908477283886571094360729198884469 2 BH
def IW:=ue (cy 36058839055461744822429329989390181918337346850548333 2 BF)<|cy 9231062798198206674541908477283886571094360729198884469 2 BF
def Hk:PySem.code "list_iterator.__next__"=36058839055461744822429329989390181918337346850548333:=by decide+kernel
def Hm:PySem.code "tuple_iterator.__next__"=9231062798198206674541908477283886571094360729198884469:=by decide+kernel
def M2(j:b=Builtin.«list_iterator.__next__»\/b=Builtin.«tuple_iterator.__next__»):sH b _ _ _ BH:=λU v H d l a K sl G G Q G G g T J t A Z h w s C f R=>aps j f.1 f.2.1 g<|wm f.1 rfl R
def HZ(j:b=Builtin.«list_iterator.__next__»\/b=Builtin.«tuple_iterator.__next__»):sH b _ _ _ BF:=λU H d l a K sl G G Q G G g T J t A Z h w s C f R=>apr j f.1 f.2.1 g<|Q_▸wm f.1 rfl R
def aaR:b9 Jf:=DS (cD "list_iterator.__next__" _ Hk (cB<|by lk)<|M2<|.inl rfl)<|cD "tuple_iterator.__next__" _ Hm (cB<|by lk)<|M2<|.inr rfl
def aaz:b9 IW:=DS (cD "list_iterator.__next__" _ Hk (cB<|by lk)<|HZ<|.inl rfl)<|cD "tuple_iterator.__next__" _ Hm (cB<|by lk)<|HZ<|.inr rfl
def YO:RF (.i<|.i .nil) (.i<|.i .nil) .nil:=λx U y U q U E U=>{t:=lL q>>=λa=>lL E>>=λb=>M1 [a,b]>>=λv=>gx v,P:=wV x y q E}
def IU:=cy 1954748619459276632098664420306794 0 YO
def aax:b9 IU:=cD "int.__divmod__" Builtin.«int.__divmod__» Vu (cB<|by lk) λx Y y G q a E R g T J t A Z h w s C f j=>lB (by rw[(XA g.1 g.2.1)▸g.2.2.1▸g.2.2.2▸amj▸?_];rfl) j
def YC:RF (.y<|.y .nil) .nil .nil:=λa U b U=>{t:=fresh>>=λD=>gx<|.bytes (a++b) D,P:=Gq a b}
def IG:=cy 7635736742593746904984533170787 0 YC
def aah:b9 IG:=cD "bytes.__add__" Builtin.«bytes.__add__» Vm (cB<|by lk) λa Y b G g T J t A Z h w s C f j=>lB (by rw[UE g.1 g.2.1 g.2.2,];unfold yj;rw[if_neg (by rw[Array.size_append,];rw[l_.mpr g.2.2]),];rfl) j
def pD(v:af):Bool:=qW v 1970563693
def VG:PySem.code "list"=1970563693:=by decide+kernel
def qV(h:pD v=true):v=.type "list":=tD h VG
section
variable{w:eJ} {A:dX} {c:bj} {Q:Fin->aN->Prop} {E:af->aN->Prop} {s:aN}
def an2(y:s.heap.get? a=some #[D,d,.seq xs n,G])(hz:xs.size<=eG)(h:aW (aE pw w) A c (.pure<|.done<|.ret .none) Q E {s with heap:=s.heap.update a<|sC (·.push v)}):aW (aE pw w) A c (Builtin.«list.append» #[[.ref a,v],[]]) Q E s:=by show aW _ _ _ (updateSeq a (·.push v)>>=λU=>gx .none) _ _ s;rw[ob<|wD y rfl h hz (by simp;rw[hz])]
def an8(y:s.heap.get? a=some #[D,d,.seq xs n,G])(L:0<=k)(R:k<2^63)(W:xs[k.toNat]? =some v)(h:aW (aE pw w) A c (.pure<|.done<|.ret v) Q E s):aW (aE pw w) A c (Builtin.«list.__getitem__» #[[.ref a,.int k t],[]]) Q E s:=by show aW _ _ _ (Fn (.int k t)>>=_) _ _ s;rw[ob<|asz (fitsIndex_of L R) ?_];clear R;obtain⟨K,rfl⟩:=SB L;rw[ob<|aT<|wpAny_seqItemAt y rfl<|bK<|W▸h]
def Zj(L:k<0)(h:-(2^63)<=k):Fm k=true:=by unfold Fm;simp only[ky,decide_eq_true_eq];rw[aju L h]
def an9{k:Int}(y:s.heap.get? a=some #[D,d,.seq xs n,G])(L:k<0)(R:-(2^63)<=k)(hk:0<=k+xs.size)(W:xs[(k+xs.size).toNat]? =some v)(h:aW (aE pw w) A c (.pure<|.done<|.ret v) Q E s):aW (aE pw w) A c (Builtin.«list.__getitem__» #[[.ref a,.int k t],[]]) Q E s:=by
 show aW _ _ _ (Fn (.int k t)>>=_) _ _ s;rw[ob<|asz (Zj L R) ?_];clear R;obtain⟨K,rfl⟩:∃K,k=Fz K:=by
  cases k with
  |ofNat n=>rw[absurd L (by simp)]
  |negSucc K=>rw[#[K,rfl]]
 have m:we (Fz K) xs.size=some (Fz K+xs.size).toNat:=by unfold we;simp only[L,if_true];rw[if_pos,];have:=(wG.mp W).1;simp;rw[#[hk,Fy (Int.add_lt_add_right L _)<|zF<|Int.zero_add _]]
 rw[ob<|aT<|mW y rfl<|bK<|m▸?_];dsimp only[Option.bind];rw[W▸h]
def aoa(y:s.heap.get? a=some #[D,d,.seq xs n,J])(hz:xs.size<=eG)(W:xs.back? =some v)(h:aW (aE pw w) A c (.pure<|.done<|.ret v) Q E {s with heap:=s.heap.update a<|sC (·.eraseIdxIfInBounds (xs.size-1))}):aW (aE pw w) A c (Builtin.«list.pop» #[[.ref a],[]]) Q E s:=by
 show aW _ _ _ (Ss (.ref a)>>=_) _ _ s;rw[ob<|mW y rfl ?_];have g:xs[xs.size-1]? =some v:=by rw[W▸?_];rfl
 have G:=(wG.mp g).1;have m:we (-1) xs.size=some (xs.size-1):=by unfold we;rw[if_pos (by simp;rw[aoB G]),];congr 1;rw[aoA G]
 refine(by simp;intro e;rw[e]at G;simp at G:xs.isEmpty=false)▸m▸?_;dsimp only[Option.bind];rw[g▸(ob<|wD y rfl h hz ?_)];simp[zo]
 split<;>simp<;>rw[ajv hz]
def an7(y:s.heap.get? a=some #[G,d,.seq xs n,K])(j:s.heap.get? b=some #[.type "list",J,.seq D n',U])(hz:xs.size+D.size<=eG)(h:aW (aE pw w) A c (.pure<|.done<|.ret .none) Q E {s with heap:=s.heap.update a<|sC (·++D)}):aW (aE pw w) A c (Builtin.«list.extend» #[[.ref a,.ref b],[]]) Q E s:=by
 show aW _ _ _ (typeOf (.ref b)>>=_) _ _ s;rw[ob<|oK (bA _ j rfl) ?_];have e:(Su (.ref a) (.ref b)||aI "list"==aI "list"||aI "list"==aI "tuple")=true:=by simp
 rw[(if_pos e)▸(ob<|mW j rfl<|ob<|mW y rfl ?_)];have M:((not (xs.isEmpty))&&zu (xs.size+D.size))=false:=by have:zu (xs.size+D.size)=false:=decide_eq_false<|l_.mpr hz;rw[this,];simp
 rw[M▸(ob<|wD y rfl h (ML hz) (by simp;rw[MM hz]))]
def an6(y:s.heap.get? a=some #[G,d,.seq xs n,K])(j:s.heap.get? b=some #[.type "list",J,.seq D n',U])(hz:xs.size≠D.size)(h:aW (aE pw w) A c (.pure<|.done<|.ret<|.bool op) Q E s):aW (aE pw w) A c (cond op Builtin.«list.__ne__» Builtin.«list.__eq__» #[[.ref a,.ref b],[]]) Q E s:=by
 cases op
 all_goals
  show aW _ _ _ (isInstance (.ref b) (.type "list")>>=_) _ _ s;rw[ob<|R7 (b:=true) (bA _ j rfl) (by lk)<|ob<|mW y rfl<|ob<|mW j rfl<|(if_pos (by simpa using hz:(xs.size !=D.size)=true))▸ob (oJ h)]
end
def al2(L:y≠0):Builtin.«int.__mod__» #[[.int x t,.int y u],[]]=(lL (x.fmod y)>>=λa=>gx a):=by have e:Builtin.«int.__mod__» #[[.int x t,.int y u],[]]=(if(y==0)=true then(rule "int.mod.zero">>=λU=>raiseError "ZeroDivisionError" "integer modulo by zero">>=λr=>_)else(lL (x.fmod y)>>=λa=>gx a)):=rfl;rw[e,if_neg<|by simpa using L]
def Xz(L:y≠0)(I:uD x y=false):Builtin.«int.__floordiv__» #[[.int x t,.int y u],[]]=(lL (x.fdiv y)>>=λa=>gx a):=by have e:Builtin.«int.__floordiv__» #[[.int x t,.int y u],[]]=(if(y==0)=true then(rule "int.floordiv.zero">>=λU=>raiseError "ZeroDivisionError" "integer division or modulo by zero">>=λr=>_)else(zw x y>>=λU=>lL (x.fdiv y)>>=λa=>gx a)):=rfl;rw[e,if_neg<|by simpa using L];unfold zw;rw[I,];rfl
def iF(a b n:N):N:=if b==a then n else n+1
def cm(xs:Array af):Prop:=xs.size<=eG
def d9(xs:Array af)(k:Int)(v:af):Prop:=0<=k/\k<2^63/\xs[k.toNat]? =some v
def iL(xs:Array af)(k:Int)(v:af):Prop:=k<0/\-(2^63)<=k/\0<=k+xs.size/\xs[(k+xs.size).toNat]? =some v
def o7(xs:Array af)(v:af):Prop:=xs.size<=eG/\xs.back? =some v
def uR(H:af)(xs R:Array af):Prop:=pD H=true/\xs.size+R.size<=eG
def TC(H:af)(xs R:Array af):Prop:=pD H=true/\xs.size≠R.size
def cj(x y m:Int):Prop:=y≠0/\x.fmod y=m
def gm(x y m:Int):Prop:=y≠0/\uD x y=false/\x.fdiv y=m
def gd(H:af)(xs:Array af):Prop:=pD H=true/\xs.size<=eG
def YB:RF (.r<|.v .nil) .nil (.q .nil):=λa v H d Q n sl=>{t:=eP .none,as:=[a],P:=cm Q,w:=some #[H,d,.seq (Q.push v)<|n+1,sl]}
def IF:=cy 122627580202994350266018413 1 YB
def Vl:PySem.code "list.append"=122627580202994350266018413:=by decide+kernel
def aae:b9 IF:=cD "list.append" Builtin.«list.append» Vl (cB<|by lk) λa v H d Q n sl g T J t A Z h w s C f j=>an2 f.1 g<|wm f.1 (by simp[sC]) j
def YR:RF (.r<|.i .nil) (.v .nil) (.q .nil):=λa j U v U U Q U U=>{t:=eP v,as:=[a],P:=d9 Q j v}
def IY:=cy 128106587276438692081757506308484131437 1 YR
def YS:RF (.r<|.i .nil) (.v .nil) (.q .nil):=λa j U v U U Q U U=>{t:=eP v,as:=[a],P:=iL Q j v}
def IZ:=cy 128106587276438692081757506308484131437 1 YS
def AW:PySem.code "list.__getitem__"=128106587276438692081757506308484131437:=by decide+kernel
def aaC:b9 IY:=cD "list.__getitem__" Builtin.«list.__getitem__» AW (cB<|by lk) λa i D v H d Q n sl g T J t A Z h w s C f j=>an8 f.1 g.1 g.2.1 g.2.2 j
def aaB:b9 IZ:=cD "list.__getitem__" Builtin.«list.__getitem__» AW (cB<|by lk) λa i D v H d Q n sl g T J t A Z h w s C f j=>an9 f.1 g.1 g.2.1 g.2.2.1 g.2.2.2 j
def Zb:RF (.r .nil) (.v .nil) (.q .nil):=λa v H d Q n sl=>{t:=eP v,as:=[a],P:=o7 Q v,w:=some #[H,d,.seq Q.pop<|n+1,sl]}
def Jg:=cy 8174157772325415533 1 Zb
def VK:PySem.code "list.pop"=8174157772325415533:=by decide+kernel
def Yv{xs:Array af}(h:0<xs.size):xs.eraseIdxIfInBounds (xs.size-1)=xs.pop:=by
 unfold zo;rw[dif_pos<|aha h,];apply Array.ext
 .simp
 .intro i a M
  simp at a M;simp only[Array.getElem_eraseIdx,Array.getElem_pop];rw[dif_pos<|ahb a,]
def aaS:b9 Jg:=cD "list.pop" Builtin.«list.pop» VK (cB<|by lk) λa v H d Q n sl g T J t A Z h w s C f j=>aoa f.1 g.1 g.2 (wm f.1 (by have I:=jA (dm _) (wG.mp (by rw[g.2▸?_];rfl:Q[Q.size-1]? =some v)).1;have e:sC (λx=>x.eraseIdxIfInBounds<|Q.size-1) #[H,d,.seq Q n,sl]=#[H,d,.seq (Q.eraseIdxIfInBounds<|Q.size-1)<|iF Q.size (Q.eraseIdxIfInBounds<|Q.size-1).size n,sl]:=rfl;rw[e,Yv I];unfold iF;rw[if_neg,];simp;rw[ahc I]) j)
def YQ:RF (.r<|.r .nil) .nil (.q<|.q .nil):=λa b H d Q n sl c U R U U=>{t:=eP .none,as:=[a,b],P:=uR c Q R,w:=some #[H,d,.seq (Q++R)<|iF Q.size (Q++R).size n,sl]}
def IX:=cy 122627580493480924277926509 2 YQ
def Vy:PySem.code "list.extend"=122627580493480924277926509:=by decide+kernel
def aaA:b9 IX:=cD "list.extend" Builtin.«list.extend» Vy (cB<|by lk) λa b H d Q n sl c e R E i g T J t A Z h w s C f j=>an7 f.1 (qV g.1▸f.2.1) g.2<|wm f.1 rfl j
def BG(op:Bool):RF (.r<|.r .nil) .nil (.q<|.q .nil):=λa b U U Q U U H U R U U=>{t:=eP<|.bool op,as:=[a,b],P:=TC H Q R}
def Je:=ue (cy 116512115458775698011089517 2<|BG true)<|cy 116512336171186236184357485 2<|BG false
def VJ:PySem.code "list.__ne__"=116512115458775698011089517:=by decide+kernel
def Vx:PySem.code "list.__eq__"=116512336171186236184357485:=by decide+kernel
def MX(op):sH (cond op Builtin.«list.__ne__» Builtin.«list.__eq__») _ _ _ (BG op):=λa b H d Q n sl c e R E i g T J t A Z h w s C f j=>an6 f.1 (qV g.1▸f.2.1) g.2 j
def aaQ:b9 Je:=DS (cD "list.__ne__" _ VJ (cB<|by lk)<|MX true)<|cD "list.__eq__" _ Vx (cB<|by lk)<|MX false
def Za:RF (.i<|.i .nil) (.i .nil) .nil:=λx U y U E U=>{t:=lL E>>=λa=>gx a,P:=cj x y E}
def Jd:=cy 116512097088030077292474218 0 Za
def VI:PySem.code "int.__mod__"=116512097088030077292474218:=by decide+kernel
def aaP:b9 Jd:=cD "int.__mod__" Builtin.«int.__mod__» VI (cB<|by lk) λx D y S E v g T J t A Z h w s C f j=>lB ((al2 g.1).trans<|g.2▸rfl) j
def YN:RF (.i<|.i .nil) (.i .nil) .nil:=λx U y U E U=>{t:=lL E>>=λa=>gx a,P:=gm x y E}
def IT:=cy 128106770130096871752080967664072486762 0 YN
def VA:PySem.code "int.__floordiv__"=128106770130096871752080967664072486762:=by decide+kernel
def aaw:b9 IT:=cD "int.__floordiv__" Builtin.«int.__floordiv__» VA (cB<|by lk) λx D y S E v g T J t A Z h w s C f j=>lB ((Xz g.1 g.2.1).trans<|g.2.2▸rfl) j
def jL(h:aW (aE pw w) A c (.fresh k) Q E s):aW (aE pw w) A c (k s.toks) Q E {s with toks:=s.toks+1}:=λj p d t=>h j p d t
def OT(y:s.heap.get? a=some #[.type "list",d,.seq xs n,D])(hz:xs.size<=eG)(h:aW (aE pw w) A c (eP<|.int xs.size<|s.toks+1) Q E {s with toks:=s.toks+1+1}):aW (aE pw w) A c (Builtin.«len» #[[.ref a],[]]) Q E s:=λj p b t=>by have R:=IE hz;rw[iB _ j _ (λo z P u=>?_) (λU U U h=>h) _ _<|(wpAny_len_body_list (w:=w) (E:=E) (Q:=λr P=>r=.int xs.size (s.toks+1)/\P={s with toks:=s.toks+1+1}) (eo _ y rfl #[n,rfl]) R #[rfl,rfl]) j p<|b▸t.in];obtain⟨r,rfl,rfl,rfl⟩:=u;rw[h j z b t]
def Y0:RF (.r .nil) .nil (.q .nil):=λa H U Q U U=>{t:=.fresh λU=>.fresh λD=>eP<|.int Q.size D,as:=[a],P:=gd H Q}
def I9:=cy 7300717 1 Y0
def AY:PySem.code "len"=7300717:=by decide+kernel
def aaM:b9 I9:=cD "len" Builtin.«len» AY (cB<|by lk) λa H d Q n sl g T J t A Z h w s C f j=>OT (qV g.1▸f.1) g.2<|jL<|jL j
def z_(H:af)(xs:Array af)(n:Int):Prop:=gd H xs/\(xs.size:Int)=n
def Y_:RF (.r .nil) (.i .nil) (.q .nil):=λa n U H U Q U U=>{t:=.fresh λU=>.fresh λD=>eP<|.int n D,as:=[a],P:=z_ H Q n}
def Ja:=cy 7300717 1 Y_
def aaL:b9 Ja:=cD "len" Builtin.«len» AY (cB<|by lk) λa E U H d Q n sl g T J t A Z h w s C f j=>OT (qV g.1.1▸f.1) g.1.2<|jL<|jL<|g.2▸j
def mw(x:aA):bk Fin:=.fresh λD=>eP<|.str x D
def vC(h:x.length<=eG):(mkStr x>>=λv=>gx v)=mw x:=by unfold mkStr;rw[(if_neg<|l_.mpr h)▸?_];rfl
def fg(b:Array UInt8):!N:=b.toList.map (·.toNat)
def Zu{n b:Type}(f:n->b->bk (ForInStep b))(I:N->b):∀(l:!n) (k),(∀j a,k<=j->j<k+l.length->f a (I j)=pure (.yield<|I<|j+1))->(forIn l (I k) f:bk b)=pure (I<|k+l.length):=by
 intro J;induction J with
 |nil=>intro k _;rw[rfl]
 |cons a l C=>intro k U;simp only[zL,U k a (d8 _)<|by simp];show(forIn l (I<|k+1) f)=_;simp only[C (k+1) λj a c M=>U j a (Mq c) (by simp at M⊢;rw[aje M])];congr 2;rw[ajf]
def Zv{n b:Type}(I:N->b)(l:!n)(x:b)(f:n->b->bk (ForInStep b))(W:x=I 0)(h:∀j a,j<l.length->f a (I j)=pure (.yield<|I<|j+1)):(forIn l x f:bk b)=pure (I l.length):=by subst W;have z:=Zu f I l 0 λj a U M=>h j a<|ajg M;simp only[nC]at z;rw[z]
def Uh(id b)(j:∀x∈b.toList,x.toNat<128)(hz:b.size<=eG):fM._codecs.runDecoder id fM._codecs.asciiDecoder none true b 0 []=pure ((#[fg b]:Array N),b.size):=by
 unfold fM._codecs.runDecoder;dsimp only;rw[GQ,];rw[Zv (λK=>(K,#[(fg b).take K],{})) _ _ _<|by rfl,]
 .show(pure _:bk (Array N×N))=pure _
  congr 1;simp only[List.length_range',TM];rw[show(b.size-0+1-1)/1=(fg b).length from by simp[fg],wP];simp[fg]
 .intro K a B
  replace B:K<b.size:=by simpa using B
  have c:¬((#[(fg b).take K]:Array N).size>eG):=by simp[fg];rw[bT (Nat.min_le_right _ _) hz]
  have X:b.getD K 0=b[K]:=by simp[Array.getD,B]
  have Y:fM._codecs.asciiDecoder.find true b K=.char (b.getD K 0).toNat (K+1):=by show(if(b.getD K 0).toNat<128 then _ else _)=_;rw[if_pos<|X▸j _ (by simp),]
  rw[if_neg c,if_neg<|l8.mpr B,Y];show pure _=pure _;congr 3;have u:(fg b).take (K+1)=(fg b).take K++[(b.getD K 0).toNat]:=by rw[List.take_add_one,];congr 1;rw[X,];simp[fg,B]
  rw[u,];simp
def Ug(id b):fM._codecs.decodeRoad id b #[#[[97,115,99,105,105]]] none []=(fM._codecs.runDecoder id fM._codecs.asciiDecoder none true b 0 []>>=λr=>mkStr #[r.1]):=by lk
def o5(b:Array UInt8):Prop:=(∀x∈b.toList,x.toNat<128)/\b.size<=eG
def fO(a b:aA):Prop:=a.cps.size≠0/\b.cps.size≠0/\a.cps.size+b.cps.size<=eG
def iZ(a:aA)(k:Int)(x:aA):Prop:=0<=k/\k<2^63/\∃Z,a.cps[k.toNat]? =some Z/\x=#[#[[Z]]]
def eD(s a:aA):Bool:= (not ((zv s a 0 s.length 1).isEmpty))
def br(a b:aA)(r:Bool):Prop:=eD a b=r
def YM:RF (.y<|.asc<|.n<|.s .nil) .nil .nil:=λb U U U=>{t:=mw #[#[fg b]],P:=o5 b}
def IS:=cy 2619762639393042134921171463191304907674117216 0 YM
def Vp:PySem.code "_codecs.decode.text"=2619762639393042134921171463191304907674117216:=by decide+kernel
def aav:b9 IS:=cD "_codecs.decode.text" Builtin.«_codecs.decode.text» Vp KBd.entry_text λb Y G d E g U U U U U U U U U U R=>lB (by
  have Z:(#[#[fg b]]:aA).length<=eG:=by show(#[fg b]:Array N).size<=_;simp[fg];rw[g.2]
  show(Builtin.Bytes.bytesLike _ (.bytes b Y)>>=λr=>fM._codecs.dataHeld _ (.bytes b Y)>>=λa=>fM._codecs.decodeRoad _ r #[#[_]] none a>>=λv=>gx v)=_;rw[KBd.like_eq,];rw[KBd.held_eq,];show(fM._codecs.decodeRoad _ b #[#[_]] none []>>=λv=>gx v)=_;rw[Ug,Uh _ _ g.1 g.2];rw[vC Z]) R
def YA:RF (.s<|.s .nil) .nil .nil:=λa U b U=>{t:=mw #[#[a.cps.toList++b.cps.toList]],P:=fO a b}
def Ji:=cy 116512096292018843154609524 0 YA
def VN:PySem.code "str.__add__"=116512096292018843154609524:=by decide+kernel
def aqL(a b:aA):a++b=#[#[a.cps.toList++b.cps.toList]]:=by obtain⟨⟨a⟩⟩:=a;obtain⟨⟨b⟩⟩:=b;show(#[#[a]++#[b]]:aA)=_;congr 1;simp
def aaU:b9 Ji:=cD "str.__add__" Builtin.«str.__add__» VN (cB<|by lk) λa Y b G g U U U U U U U U U U R=>lB (by
  have c:(a.length==0)=false:=by simpa[Str.length]using g.1
  have e:Builtin.«str.__add__» #[[.str a Y,.str b G],[]]=(if(true&&a.length==0)=true then _ else if(true&&b.length==0)=true then _ else(mkStr (a++b)>>=λv=>gx v)):=rfl;rw[e,c,(by simpa[Str.length]using g.2.1:(b.length==0)=false),aqL];rw[vC (by show Array.size _<=_;simp;rw[g.2.2])]) R
def YD:RF (.s<|.i .nil) (.s .nil) .nil:=λa U j U x U=>{t:=mw x,P:=iZ a j x}
def IH:=cy 500416356548588640944365259017385332 0 YD
def AZ:PySem.code "str.__getitem__"=500416356548588640944365259017385332:=by decide+kernel
def UX(a k t u)(L:0<=k)(b:k<2^63)(c)(M:a.cps[k.toNat]? =some c):Builtin.«str.__getitem__» #[[.str a t,.int k u],[]]=mw #[#[[c]]]:=by
 have I:we k a.length=some k.toNat:=by unfold we;simp only[uG.mpr L,if_false];rw[if_pos,];simp;rw[#[L,(ajh L<|(wG.mp M).1)]]
 have Y:Fo "__getitem__" 1 #[[.str a t,.int k u],[]]=pure (.str a t,a,[.int k u]):=rfl;unfold Builtin.«str.__getitem__»;simp only[Y,pb,FT,(by lk:PySem.typeOf (.int k u)=pure (.type "int")),(by decide+kernel:(aI "int"==aI "slice")=false),(by lk:specialOf (.int k u) "__index__"=pure (some<|.builtin "int.__index__")),(by lk:asIndex (.int k u)=pure k),aa2 L b,I,Option.isNone_some,Fl,if_false,Option.bind_some,M];rw[vC (by show 1<=16777216;decide)]
def aak:b9 IH:=cD "str.__getitem__" Builtin.«str.__getitem__» AZ (cB<|by lk) λa Y j G x E g U U U U U U U U U U R=>lB (by rw[en g λL b h=>aJ h λZ M H=>?_];subst H;rw[UX a j Y G L b Z M]) R
def YU:RF (.s<|.s .nil) (.b .nil) .nil:=λa U b U r=>{t:=eP<|.bool r,P:=br a b r}
def I2:=cy 128106709680535770272165659069392319860 0 YU
def VO:PySem.code "str.__contains__"=128106709680535770272165659069392319860:=by decide+kernel
def aaE:b9 I2:=cD "str.__contains__" Builtin.«str.__contains__» VO (cB<|by lk) λa Y b G r g U U U U U U U U U U R=>lB (by rw[(rfl:Builtin.«str.__contains__» #[[.str a Y,.str b G],[]]=eP (.bool<|eD a b))▸g▸?_];rfl) R
section
variable{w:eJ} {A:dX} {c:bj} {Q:Fin->aN->Prop} {E:af->aN->Prop} {s:aN}
def Hs(h:jR v=some x):(if(v==i9)=true then(pure none:bk (Option Int))else specialOf v "__index__">>=λo=>if o.isNone=true then X else asIndex v>>=λk=>pure<|some k)=pure x:=by
 cases v with
 |none=>cases h;rfl
 |int k D=>cases h;refine(by lk:specialOf (.int k D) "__index__"=pure (some<|.builtin "int.__index__"))▸(by lk:asIndex (.int k D)=pure k)▸?_;rfl
 |_=>rw[nn h]
def Sb{Q:Option Int×Option Int×Int->aN->Prop}(h:s.heap.get? U=some o)(t:o.data=.fields #[[J,G,.none]])(D:jR J=some K)(g:jR G=some hi)(k:Q (K,hi,1) s):ej (aE pw w) A (Builtin.Str.strSliceParts<|.ref U) Q E s:=by rw[aT<|jv h t (x:=.none) rfl<|aT<|zk rfl<|aT<|jv h t (x:=J) rfl<|aT<|zk (Hs D)<|aT<|jv h t (x:=G) rfl<|aT<|zk (Hs g)<|bK k]
def rN(a:aA)(R hi:Option Int):!N:=(jX R hi 1 a.length).filterMap (a.cps[·]?)
def aob(h:s.heap.get? J=some #[.type "slice",d,.fields #[[U,K,.none]],ss])(D:jR U=some G)(g:jR K=some hi)(b:(jX G hi 1 a.length).length≠a.length)(hz:(rN a G hi).length<=eG)(k:aW (aE pw w) A c (mw #[#[rN a G hi]]) Q E s):aW (aE pw w) A c (Builtin.«str.__getitem__» #[[.str a t,.ref J],[]]) Q E s:=by have Y:Fo "__getitem__" 1 #[[.str a t,.ref J],[]]=pure (.str a t,a,[.ref J]):=rfl;unfold Builtin.«str.__getitem__»;simp only[Y,pb,FT];rw[ob<|oK (bA _ h rfl)<|ob<|Sb h rfl D g ?_];rw[if_neg<|by rw[(by simpa using b:(1==1&&(jX G hi 1 a.length).length==a.length)=false)▸kZ],];have e:retStr #[((jX G hi 1 a.length).filterMap (a.cps[·]?)).toArray]=mw #[#[rN a G hi]]:=vC hz;rw[e▸k]
def aoc(h:s.heap.get? G=some #[.type "slice",d,.fields #[[U,K,.none]],ss])(D:jR U=some J)(g:jR K=some hi)(b:(jX J hi 1 a.length).length=a.length)(k:aW (aE pw w) A c (eP<|.str a t) Q E s):aW (aE pw w) A c (Builtin.«str.__getitem__» #[[.str a t,.ref G],[]]) Q E s:=by have Y:Fo "__getitem__" 1 #[[.str a t,.ref G],[]]=pure (.str a t,a,[.ref G]):=rfl;unfold Builtin.«str.__getitem__»;simp only[Y,pb,FT];rw[ob<|oK (bA _ h rfl)<|ob<|Sb h rfl D g<|(if_pos (by simpa using b:(1==1&&(jX J hi 1 a.length).length==a.length)=true))▸ob (oJ k)]
end
def j5(a:aA)(R hi:Option Int)(x:aA):Prop:=(jX R hi 1 a.length).length≠a.length/\rN a R hi=x.cps.toList/\x.cps.size<=eG
def TD(a:aA)(R hi:Option Int):Prop:=(jX R hi 1 a.length).length=a.length
def Zd:RF (.s<|.r .nil) (.s .nil) (.sl .nil):=λa U sl x U R m=>{t:=mw x,as:=[sl],P:=j5 a R m x}
def Jj:=cy 500416356548588640944365259017385332 1 Zd
def aaV:b9 Jj:=cD "str.__getitem__" Builtin.«str.__getitem__» AZ (cB<|by lk) λa Y sl x G d e b R m p c M g T J t A Z h w s C f j=>by refine en g λS i u=>aob f.1 c M S (by rw[i▸?_];simpa using u) ?_;rw[i▸j]
def Zf:RF (.s<|.r .nil) .nil (.sl .nil):=λa D sl R m=>{t:=eP<|.str a D,as:=[sl],P:=TD a R m}
def Jk:=cy 500416356548588640944365259017385332 1 Zf
def aaW:b9 Jk:=cD "str.__getitem__" Builtin.«str.__getitem__» AZ (cB<|by lk) λa Y sl d e b R m p c M g T J t A Z h w s C f j=>by rw[aoc f.1 c M g j]
def alr(xs:!af):Obj:=#[.type "list",none,.seq #[xs] 0,#[[]]]
def M0(xs:!af):bk Fin:=.alloc (alr xs) λa=>eP<|.ref a
def Qs(h:jR v=some x):IsPart v x:=by
 cases v with
 |none=>cases h;rw[.none]
 |int=>cases h;rw[.int _ _]
 |_=>rw[nn h]
def o6(H:af)(xs R:Array af):Prop:=pD H=true/\xs.size+R.size<=eG
def wW(xs:Array af)(i:Int):Prop:=0<=i/\i.toNat<=xs.size/\xs.size<=eG
def YZ:RF (.r<|.r .nil) .nil (.q<|.sl .nil):=λa sl U U Q U U R m=>{t:=M0 (iU Q R m none).toList,as:=[a,sl],P:=cm Q}
def Jc:=cy 128106587276438692081757506308484131437 2 YZ
def aaO:b9 Jc:=cD "list.__getitem__" Builtin.«list.__getitem__» AW (cB<|by lk) λa sl e i Q n k d r b R m p l M g T J t A Z h w s C f j=>by rw[en f λq o U=>?_];have c:s.TypeIs (.ref sl) "slice":=bA _ o rfl;show aW _ _ _ (Fn (.ref sl)>>=_) _ _ s;rw[ob<|aT<|wpAny_specialOf c slice_no_index<|bK<|ob<|oK c<|ob<|aT<|jv o rfl (x:=.none) rfl<|aT<|R_ .none<|aT<|jv o rfl (x:=r) rfl<|aT<|R_ (Qs l)<|aT<|jv o rfl (x:=b) rfl<|aT<|R_ (Qs M)<|bK<|ob ?_];rw[aT<|zm q rfl<|bK<|ob<|zk (sliceIndices_raw R m none Q.size<|ζ)<|ob<|zj (OS j)<|bT (slicePick_size_le Q R m none) g]
def YY:RF (.r<|.r .nil) .nil (.q<|.q .nil):=λa b U U Q U U H U R U U=>{t:=M0<|Q.toList++R.toList,as:=[a,b],P:=o6 H Q R}
def Jb:=cy 29827096650756823847613524589 2 YY
def VF:PySem.code "list.__add__"=29827096650756823847613524589:=by decide+kernel
def aaN:b9 Jb:=cD "list.__add__" Builtin.«list.__add__» VF (cB<|by lk) λa b e i Q n k H d R l p g T J t A Z h w s C f m=>by obtain⟨c,M⟩:=g;have c:=qV c;subst c;rw[en f λo j U=>?_];show aW _ _ _ (isInstance (.ref b) (.type "list")>>=_) _ _ s;rw[ob<|R7 (b:=true) (bA _ j rfl) (by lk)<|ob<|mW o rfl<|ob<|mW j rfl<|(by apply h_;simp:(Q++R)=#[Q.toList++R.toList])▸(ob<|zj (OS m) (by show Array.size _<=_;simp;rw[M]))]
def YW:RF (.r<|.i<|.v .nil) .nil (.q .nil):=λa i U v H d Q n sl=>{t:=.update a none (λU=>#[H,d,.seq #[Q.toList.take i.toNat++v::Q.toList.drop i.toNat]<|n+1,sl]) λU=>eP .none,as:=[a],P:=wW Q i}
def I4:=cy 141989282998378523895556717 1 YW
def VD:PySem.code "list.insert"=141989282998378523895556717:=by decide+kernel
def alB(h:f xs=J)(w:J.size≠xs.size):sC f #[D,d,.seq xs n,G]=#[D,d,.seq J<|n+1,G]:=by have e:sC f #[D,d,.seq xs n,G]=#[D,d,.seq (f xs)<|iF xs.size (f xs).size n,G]:=rfl;rw[e,h];unfold iF;rw[if_neg<|by simpa using w,]
def aaG:b9 I4:=cD "list.insert" Builtin.«list.insert» VD (cB<|by lk) λa i Y v H d Q n sl g T J t A Z h w s C f j=>by
 rw[en g λL b M=>ct f λo U=>?_];unfold Builtin.«list.insert»;simp only[(by lk:selfAndSome "list.insert" "insert" 2 2 #[[.ref a,.int i Y,v],[]]=pure (.ref a,[.int i Y,v])),pb,(by lk:asIndex (.int i Y)=pure i)];have R:((not (Fm i)))=false:=by rw[(fitsIndex_of L<|agq L b M rfl)▸?_];rfl
 rw[R▸(ob<|wD o rfl ?_ M ?_)]
 .rw[pR o (alB ?_ ?_) j]
  .have X:=L6 L
   simp only[if_neg X,sy b];apply h_;simp;rw[qz (by simp)]
  .simp;rw[abi b]
 .have X:=L6 L
  simp only[if_neg X,sy b];simp;rw[abj b M]
def YE:RF (.r .nil) .nil (.q .nil):=λa H d Q n sl=>{t:=.update a none (λU=>#[H,d,.seq #[[]]<|iF Q.size 0 n,sl]) λU=>eP .none,as:=[a],P:=cm Q}
def II:=cy 544887307114752062548589 1 YE
def Vn:PySem.code "list.clear"=544887307114752062548589:=by decide+kernel
def aal:b9 II:=cD "list.clear" Builtin.«list.clear» Vn (cB<|by lk) λa H d Q n sl g T J t A Z h w s C f j=>by rw[ct f λo U=>?_];show aW _ _ _ (Ss (.ref a)>>=_) _ _ s;rw[ob<|mW o rfl<|ob<|wD o rfl (ob<|R9<|pR (o':=#[H,d,.seq #[[]]<|iF Q.size 0 n,sl]) o rfl j) g<|dm _]
def jt:!af->!aA
 |.str x _::l=>x::jt l
 |_=>[]
def p_:!af->!Tok
 |.str _ D::l=>D::p_ l
 |_=>[]
def rU:!af->Prop
 |[]=>True
 |.str _ _::l=>rU l
 |_=>False
def EP:∀{l},rU l->l=((jt l).zip<|p_ l).map λp=>.str p.1 p.2
 |[],_=>rfl
 |.str x D::l,h=>by congr 1;rw[EP h]
 |.none::_,h|.bool _::_,h|.int _ _::_,h|.float _ _::_,h|.bytes _ _::_,h|.type _::_,h|.builtin _::_,h|.ref _::_,h|.ellipsis::_,h|.notImplemented::_,h=>h.elim
def Rc:∀{l},rU l->(((jt l).zip<|p_ l).map (·.1))=jt l
 |[],_=>rfl
 |.str x D::l,h=>by show x::_=x::_;congr 1;rw[Rc h]
 |.none::_,h|.bool _::_,h|.int _ _::_,h|.float _ _::_,h|.bytes _ _::_,h|.type _::_,h|.builtin _::_,h|.ref _::_,h|.ellipsis::_,h|.notImplemented::_,h=>h.elim
def nE(H:af)(xs:Array af)(b x:aA):Prop:=pD H=true/\rU xs.toList/\xs.size≠1/\Fp ((jt xs.toList).toArray.foldl (·+·.length+b.length) 0)=false/\Sx b (jt xs.toList)=x/\x.length<=eG
def YX:RF (.s<|.r .nil) (.s .nil) (.q .nil):=λb U a x U H U Q U U=>{t:=mw x,as:=[a],P:=nE H Q b x}
def I6:=cy 8028352891401237876 1 YX
def VE:PySem.code "str.join"=8028352891401237876:=by decide+kernel
def aaH:b9 I6:=cD "str.join" Builtin.«str.join» VE (cB<|by lk) λb k a x G H d Q n sl g T y t m Z h w s C f j=>by
 rw[HQ g λi M X I Y u=>?_];have i:=qV i;subst i;obtain⟨o,_⟩:=f;obtain⟨e,c⟩:=join_tree b k a;rw[c▸(ob<|oK (bA _ o rfl)<|ob<|zm o rfl ?_)];show aW _ _ _ (joinTail b Q.toList) _ _ s;have B:joinTail b (strValues<|(jt Q.toList).zip<|p_ Q.toList)=mw x:=by
  have O:((jt Q.toList).zip<|p_ Q.toList).length≠1:=by intro J;apply X;rw[<-Array.length_toList,EP M,aU,J]
  have A:joinTail b (strValues<|(jt Q.toList).zip<|p_ Q.toList)=joinRest b (strValues<|(jt Q.toList).zip<|p_ Q.toList):=by
   generalize(jt Q.toList).zip (p_ Q.toList)=l at O
   match l,O with
   |[],_=>rfl
   |[p],U=>rw[absurd rfl U]
   |p::q::r,_=>rfl
  simp only[A];unfold joinRest;simp only[join_loop,Rc M];show(if Fp (((List.toArray [])++(jt Q.toList).toArray).foldl (λn (s:aA)=>n+s.length+b.length) 0)=true then _ else retStr (Sx b ((List.toArray [])++(jt Q.toList).toArray).toList))=_;simp only[Sk,I,Fl,if_false,List.toList_toArray,Y];rw[vC u]
 rw[(EP M)▸B▸j]
def gi(k:aA)(e:bv):Bool:=e.key.isStr k
def d5(es:!bv)(k:aA):Option af:=(es.find?<|gi k).map (·.val)
def iV(es:!bv):Bool:=es.all λe=>isExactStrKey e.key
def Bp(h:d5 es k=none):(#[es]:Array bv).findIdx? (gi k)=none:=by unfold d5 at h;rw[Option.map_eq_none_iff]at h;rw[Fj,];intro x W;have:=S1.mp h x (by simpa using W);simpa using this
def Bq(h:d5 es k=some v):∃i e,(#[es]:Array bv).findIdx? (gi k)=some i/\(#[es]:Array bv)[i]? =some e/\gi k e=true/\e.val=v:=by
 rw[aJ (z7.mp h) λe d P=>?_];subst P;have b:((#[es]:Array bv).findIdx?<|gi k).isSome=true:=by
  cases W:(⟨es⟩:Array bv).findIdx? (gi k)with
  |some i=>rfl
  |none=>have:=Fj.mp W e (by simpa using Tb d);rw[S4 d]at this;rw[oL this]
 rw[dq (uP.mp b) λi m=>aJ (Sm.mp m) λG c j=>Jq i ((#[es]:Array bv)[i]) m (zp G) c ?_];have a:es.find? (gi k)=some (#[es]:Array bv)[i]:=by rw[List.find?_eq_some_iff_getElem,];refine#[c,i,by simpa using G,rfl,λK B=>?_];have:=j K B;simpa using this
 rw[a]at d;cases d;rfl
section
variable{w:eJ} {A:dX} {c:bj} {Q:Fin->aN->Prop} {E:af->aN->Prop} {s:aN}
def abr{v:af}(h:v.isStr k=true):∃t,v=.str k t:=by
 cases v with
 |str x t=>
  have:x=k:=by simpa[Value.isStr]using h
  subst this;rw[#[t,rfl]]
 |_=>cases h
def wC{Q:Option N->aN->Prop}(y:s.heap.get? d=some o)(c:o.data=.dict #[es] D)(hk:iV es=true)(g:Q ((#[es]:Array bv).findIdx?<|gi k) s):ej (aE pw w) A (dictFind d (.str k t) h) Q E s:=by
 rw[iy<|aT<|wA y c ?_];have a:((⟨es⟩:Array bv).all λe=>isExactStrKey e.key)=true:=by rw[Sj▸hk]
 dsimp only;rw[if_pos a,];unfold foundByValue;have b:(λe:bv=>e.key.isStr k)=gi k:=rfl;rw[b▸?_];cases R:(⟨es⟩:Array bv).findIdx? (gi k)with
 |none=>rw[R]at g;rw[bK g]
 |some i=>rw[R]at g;rw[aJ (Sm.mp R) λG m U=>?_];simp only[zp G];rw[dq (abr m) λS f=>f▸(aT<|zi y c<|aT<|wpAny_eqBool_str<|aT<|zi y c ?_)];rw[if_neg<|by simp,decide_eq_true rfl];rw[aT<|oJ<|bK g]
def zh{Q:Option af->aN->Prop}(y:s.heap.get? d=some o)(b:o.data=.dict #[es] D)(hk:iV es=true)(g:Q (d5 es k) {s with toks:=s.toks+1}):ej (aE pw w) A (xq d<|.str k t) Q E s:=by
 rw[iy<|aT<|zl<|aT<|wC y b hk ?_];cases X:d5 es k with
 |none=>rw[(Bp X)▸?_];rw[X]at g;rw[bK g]
 |some v=>rw[Bs (Bq X) λi e m c U a=>m▸(aT<|wA y b<|bK<|c▸?_)];simp only[X]at g;show Q (some e.val) _;rw[a▸g]
end
def mA(v:af):Bool:=qW v 1969515109
def Vq:PySem.code "dict"=1969515109:=by decide+kernel
def lH(h:mA v=true):v=.type "dict":=tD h Vq
def cR(H:af)(es:!bv)(k:aA)(v:af):Prop:=mA H=true/\iV es=true/\d5 es k=some v
def Gs(H:af)(es:!bv)(k:aA)(d:N):Prop:=mA H=true/\iV es=true/\d5 es k=none/\1<d
def nD(H:af)(es:!bv)(k:aA)(r:Bool)(d:N):Prop:=mA H=true/\iV es=true/\(d5 es k).isSome=r/\1<d
def j4(H:af)(es:!bv)(k:aA):Prop:=mA H=true/\iV es=true/\d5 es k=none/\es.length<=eG
def z8(H:af)(es:!bv)(k:aA):Prop:=mA H=true/\iV es=true/\(d5 es k).isSome=true
def E3(v:af):bk Fin:=.fresh λU=>eP v
def Ia:RF (.r<|.s .nil) (.v .nil) (.d .nil):=λd j U v H U k U U=>{t:=E3 v,as:=[d],P:=cR H k j v}
def IK:=cy 8459563503104322149 1 Ia
def IM:=cy 128106587276438692081757506308483082853 1 Ia
def Hh:PySem.code "dict.get"=8459563503104322149:=by decide+kernel
def Vs:PySem.code "dict.__getitem__"=128106587276438692081757506308483082853:=by decide+kernel
def aan:b9 IK:=cD "dict.get" Builtin.«dict.get» Hh (cB<|by lk) λd R Y v H a k n sl g T J t A Z h w s C f j=>by rw[en g λb M X=>?_];have b:=lH b;subst b;obtain⟨o,_⟩:=f;show aW _ _ _ (xq d (.str R Y)>>=_) _ _ s;rw[ob<|zh o rfl M<|X▸jL j]
def aap:b9 IM:=cD "dict.__getitem__" Builtin.«dict.__getitem__» Vs (cB<|by lk) λd R Y v H a k n sl g T J t A Z h w s C f j=>by rw[en g λb M X=>?_];have b:=lH b;subst b;obtain⟨o,_⟩:=f;show aW _ _ _ (xq d (.str R Y)>>=_) _ _ s;rw[ob<|zh o rfl M<|X▸jL j]
def YI:RF (.r<|.s .nil) .nil (.d .nil):=λd j U H U k U U=>{t:=E3 .none,as:=[d],P:=Gs H k j d}
def IO:=cy 8459563503104322149 1 YI
def aar:b9 IO:=cD "dict.get" Builtin.«dict.get» Hh (cB<|by lk) λd R Y H a k n sl g T J t A Z h w s C f j=>by rw[nY g λb M X I=>?_];have b:=lH b;subst b;obtain⟨o,_⟩:=f;show aW _ _ _ (xq d (.str R Y)>>=_) _ _ s;rw[ob<|zh o rfl M ?_];rw[X,];unfold Builtin.Dict.missed;rw[if_neg (by simp[y6];rw[kB I]),];rw[jL j]
def YG:RF (.r<|.s .nil) (.b .nil) (.d .nil):=λd j U r H U k U U=>{t:=E3<|.bool r,as:=[d],P:=nD H k j r d}
def IL:=cy 32795317678217157189674408721764466322021 1 YG
def Vr:PySem.code "dict.__contains__"=32795317678217157189674408721764466322021:=by decide+kernel
def aao:b9 IL:=cD "dict.__contains__" Builtin.«dict.__contains__» Vr (cB<|by lk) λd R Y r H a k n sl g T J t A Z h w s C f j=>by
 rw[nY g λb M X I=>?_];have b:=lH b;subst b;obtain⟨o,_⟩:=f;show aW _ _ _ (xq d (.str R Y)>>=_) _ _ s;rw[ob<|zh o rfl M ?_];cases r with
 |true=>rw[if_pos X,];rw[jL j]
 |false=>rw[if_neg (by rw[X,];rw[kZ]),];unfold Builtin.Dict.pendingKey?;rw[if_neg (by simp[y6];rw[kB I]),];rw[jL j]
def Bj(es:!bv)(n:N)(H:af)(a:Option aH)(f:Array (Option af))(P:eI)(k:aA)(t:Tok)(v:af):Obj:=#[H,a,.dict #[es++[#[hs P k,.str k t,v]]]<|n+1,f]
def YJ:RF (.r<|.s<|.v .nil) .nil (.d .nil):=λd j D v H a k n sl=>{t:=.fresh λU=>.ask λi=>.update d none (λU=>Bj k n H a sl i.params j D v) λU=>eP .none,as:=[d],P:=j4 H k j}
def IP:=cy 128106587276438692082622197436938218085 1 YJ
def Hi:PySem.code "dict.__setitem__"=128106587276438692082622197436938218085:=by decide+kernel
def an3(h:aW (aE pw w) A c (.ask k) Q E s):aW (aE pw w) A c (k #[pw,w.params]) Q E s:=λj p d t=>h j p d t
def aas:b9 IP:=cD "dict.__setitem__" Builtin.«dict.__setitem__» Hi (cB<|by lk) λd R Y v H a k n sl g T J t A Z h w s C f j=>by rw[nY g λb M X I=>?_];have b:=lH b;subst b;obtain⟨o,_⟩:=f;rw[ob<|aT<|oK (bA _ o rfl)<|bK ?_];show aW _ _ _ (dictSet d (.str R Y) v>>=λU=>gx .none) _ _ s;refine ob (iy<|aT<|zl<|iy<|aT<|wC o rfl M<|(Bp X)▸(aT<|oJ<|Sc (hz:=by simpa using I) o rfl<|pR (s:={s with toks:=s.toks+1}) (o':=Bj k n (.type "dict") a sl T.params R Y v) o ?_<|an3<|jL j));simp[Gn,Bj,hashStr,hs]
def u7(k:aA)(v:af):!bv->!bv
 |[]=>[]
 |e::es=>match gi k e with
  |true=>#[e.hash,e.key,v]::es
  |false=>e::u7 k v es
def YK:RF (.r<|.s<|.v .nil) .nil (.d .nil):=λd j D v H a k n sl=>{t:=.fresh λU=>.update d none (λU=>#[H,a,.dict #[u7 j v k] n,sl]) λU=>eP .none,as:=[d],P:=z8 H k j}
def IQ:=cy 128106587276438692082622197436938218085 1 YK
def XD:∀{es i},(#[es]:Array bv).findIdx? (gi k)=some i->(#[es]:Array bv).modify i (λe=>{e with val:=v})=#[u7 k v es]:=by
 intro es i U;have S:es.findIdx? (gi k)=some i:=by simpa using U
 apply h_;simp only[Array.toList_modify];clear U;induction es generalizing i with
 |nil=>simp at S
 |cons e es C=>
  rw[S5]at S
  revert S;show _->_=cond (gi k e) (#[e.hash,e.key,v]::es) (e::u7 k v es);cases gi k e
  .exactλU=>aJ (z7.mp U) λK B P=>P▸congrArg (e::·) (C B)
  .exactλU=>dZ U▸rfl
def aat:b9 IQ:=cD "dict.__setitem__" Builtin.«dict.__setitem__» Hi (cB<|by lk) λd R Y v H a k n sl g T J t A Z h w s C f j=>by rw[en g λc M X=>?_];have c:=lH c;subst c;obtain⟨o,_⟩:=f;rw[ob<|aT<|oK (bA _ o rfl)<|bK ?_];show aW _ _ _ (dictSet d (.str R Y) v>>=λU=>gx .none) _ _ s;rw[ob<|iy<|aT<|zl<|iy<|aT<|wC o rfl M<|dq (uP.mp X) λl b=>Bs (Bq b) λi e m U U U=>m▸(aT<|oJ<|aT<|wpAny_updateDict o rfl<|wpAny_point ?_)];rw[pR (s:={s with toks:=s.toks+1}) (o':=#[.type "dict",a,.dict #[u7 R v k] n,sl]) o ?_<|jL j];rw[congrArg (λe=>Obj.mk (.type "dict") a (.dict e n) sl)<|XD m]
def xV(v:af):Bool:=pD v||qW v 439922816629
def Hl:PySem.code "tuple"=439922816629:=by decide+kernel
def ma(H:af)(xs R:Array af):Prop:=xV H=true/\xs.size+R.size<=eG
def YT:RF (.r<|.r .nil) .nil (.q<|.q .nil):=λa b H d Q n sl c U R U U=>{t:=.update a none (λU=>#[H,d,.seq (Q++R)<|iF Q.size (Q++R).size n,sl]) λU=>eP<|.ref a,as:=[a,b],P:=ma c Q R}
def I1:=cy 7635736742594467534504881056365 2 YT
def VB:PySem.code "list.__iadd__"=7635736742594467534504881056365:=by decide+kernel
def aaD:b9 I1:=cD "list.__iadd__" Builtin.«list.__iadd__» VB (cB<|by lk) λa b H d Q n sl c k R L l g T J t A Z h w s C f p=>by
 obtain⟨m,M⟩:=g;obtain⟨o,j,_⟩:=f;have O:∀i:String,c=.type i->(i="list"\/i="tuple")->aW (aE pw T) A Z (Builtin.«list.__iadd__» #[[.ref a,.ref b],[]]) h w s:=by
  intro i B e;subst B;have Y:slotArgs "__iadd__" 1 #[[.ref a,.ref b],[]]=pure (.ref a,[.ref b]):=rfl;unfold Builtin.«list.__iadd__»;simp only[Y,pb];rw[ob<|oK (bA _ j rfl) ?_];have X:(Su (.ref a) (.ref b)||aI i==aI "list"||aI i==aI "tuple")=true:=by rcases e with rfl|rfl<;>simp
  rw[(if_pos X)▸(ob<|mW j rfl<|ob<|mW o rfl ?_)];have I:((not (Q.isEmpty))&&zu (Q.size+R.size))=false:=by have:zu (Q.size+R.size)=false:=decide_eq_false<|l_.mpr M;rw[this,];simp
  rw[if_neg (by rw[I,];rw[kZ]),];rw[ob (wD o rfl (pR (o':=#[H,d,.seq (Q++R)<|iF Q.size (Q++R).size n,sl]) o rfl p) (ML M) (by simp;rw[MM M]))]
 rcases(Bool.or_eq_true _ _).mp m with U|U
 .rw[O "list" (qV U)<|.inl rfl]
 .rw[O "tuple" (tD U Hl)<|.inr rfl]
def dJ(x:aA):Prop:=x.cps.size<=eG
def an_(hz:x.cps.size<=eG)(h:aW (aE pw w) A c (eP<|.int x.cps.size<|s.toks+1) Q E {s with toks:=s.toks+1+1}):aW (aE pw w) A c (Builtin.«len» #[[.str x t],[]]) Q E s:=by
 rw[ob<|bK ?_];rw[ob<|wpAny_callSpecial?_slot (name:=Str.ofString "__len__") rfl F.slot_str_len
  <|zg F.slot_str_len rfl F.entry_str_len ?_<|F.args_str_len_1 _]
 show ej _ _ (do retInt x.length) _ _ s;rw[aT<|Sa<|bK #[_,rfl,(ob<|iy<|bK<|ob<|R9 ?_)]];show aW _ _ _ (if((x.cps.size:N):Int)<0 then _ else if((x.cps.size:N):Int)>=2^63 then _ else retInt ((x.cps.size:N):Int)) _ _ _;rw[if_neg<|by lia,if_neg (by have:eG=16777216:=rfl;lia)];rw[ob<|Sa h]
def Y1:RF (.s .nil) .nil .nil:=λx U=>{t:=.fresh λU=>.fresh λD=>eP<|.int x.cps.size D,P:=dJ x}
def I_:=cy 7300717 0 Y1
def aaK:b9 I_:=cD "len" Builtin.«len» AY (cB<|by lk) λx D g T J t A Z h w s C f j=>an_ g<|jL<|jL j
def Rb:∀{l},rU l->Gx l (jt l)
 |[],_=>.nil
 |.str y D::l,h=>.cons y D<|Rb h
 |.none::_,h|.bool _::_,h|.int _ _::_,h|.float _ _::_,h|.bytes _ _::_,h|.type _::_,h|.builtin _::_,h|.ref _::_,h|.ellipsis::_,h|.notImplemented::_,h=>h.elim
def mc(H:af)(xs:Array af):Prop:=qW H 439922816629=true/\rU xs.toList
def Ze:RF (.r<|.s .nil) .nil (.q .nil):=λa x U H U Q U U=>{t:=eP<|.bool<|(jt Q.toList).any (·==x),as:=[a],P:=mc H Q}
def Jl:=cy 8395601325623592240556648632771639105386101 1 Ze
def VQ:PySem.code "tuple.__contains__"=8395601325623592240556648632771639105386101:=by decide+kernel
def aaX:b9 Jl:=cD "tuple.__contains__" Builtin.«tuple.__contains__» VQ (cB<|by lk) λa x S H d Q n sl g T J t A Z h w s C f j=>by obtain⟨b,M⟩:=g;have b:=tD b Hl;subst b;have z:aW (aE pw T) A Z (Builtin.«tuple.__contains__» #[[.ref a,.str x S],[]]>>=λr=>pc r) h w s:=ob<|PyProof.Rows.tuple_contains_strs ⟨_,f.1,rfl,n,rfl⟩ (Rb M) j;have e:∀E:bk Fin,(E>>=λr=>pc r)=E:=λE=>PySem.Sem.bind_pure E;rwa[e]at z
def ze(O:Bool):String:=if O then"dict_keyiterator"else"dict_valueiterator"
def vwP(O:Bool)(e:bv):af:=if O then e.key else e.val
section
variable{w:eJ} {A:dX} {E:af->aN->Prop} {s:aN} {it:aH}
end
def gU(O:Bool)(H cd:af)(es:!bv)(n:N)(i z e:Int)(v:af):Prop:=H=.type (ze O)/\mA cd=true/\z=es.length/\e=n/\0<=i/\∃x,es[i.toNat]? =some x/\vwP O x=v
def BI(O:Bool):RF (.r .nil) (.v .nil) (.f (.r<|.i<|.i<|.i .nil)<|.d .nil):=λU v H a d i o z m e S sl E K k n K=>{t:=.update U none (λK=>#[H,a,.fields #[[.ref d,.int (i+1) 0,.int z m,.int e S]],sl]) λK=>eP v,as:=[U,d],P:=gU O H E k n i z e v}
def I8:=cy 604966931542717672622778513967276790323241898245050534750821 2<|BI true
def Jn:=cy 39647112825583545393006412691359451730623886891278502357897603685 2<|BI false
def Hj:PySem.code "dict_keyiterator.__next__"=604966931542717672622778513967276790323241898245050534750821:=by decide+kernel
def Hn:PySem.code "dict_valueiterator.__next__"=39647112825583545393006412691359451730623886891278502357897603685:=by decide+kernel
def R0(O)(j:b=if O then Builtin.«dict_keyiterator.__next__» else Builtin.«dict_valueiterator.__next__»):sH b _ _ _ (BI O):=λU v H a d i o z m G S sl E p k n P g T J t A Z h w s C f r=>by
 obtain⟨rfl,q,rfl,rfl,L,x,W,X⟩:=g;have q:=lH q;subst q;obtain⟨y,l,_⟩:=f;have B:s.TypeIs (.ref U) (ze O):=bA _ y rfl;obtain⟨K,rfl⟩:=SB L
 have c:aW (aE pw T) A Z (.pure<|.done<|.ret v) h w {s with heap:=s.heap.update U<|iY (·.setIfInBounds 1 (iq<|K+1))}:=pR y (by cases O<;>rfl) r
 subst X;cases O
 all_goals
  subst j;rw[ob<|bK<|ob<|aT ?_];first|rw[aT (Ff B<|bK ?_)]|rw[aT<|Fg B<|bK ?_]
  rw[aT<|wpAny_fieldsOf y rfl<|aT<|bK<|aT<|wA l rfl ?_];rw[if_neg<|by simp,];rw[aT<|bK<|aT<|zi l rfl ?_];rw[if_neg<|by simp,];rw[bK ?_];simp only[show¬(K<0)from by lia,if_false,FB,(by simpa using W:(#[k]:Array bv)[K]? =some x)];rw[ob ?_];first|rw[aT (Ff B<|bK ?_)]|rw[aT<|Fg B<|bK ?_]
  first|rw[ob (asx B ?_)]|rw[ob<|R8 B ?_]
  show aW _ _ _ (setField (.ref U) 1 (iq<|K+1)>>=_) _ _ s;refine ob (qd y rfl (by simp) ?_);have e:(s.heap.update U<|iY (·.setIfInBounds 1 (iq<|K+1))).get? U=some _:=qj _ y<|Obj.isFreed_of_fields<|Obj.data_mapFields rfl _;rw[ob<|iy ?_]
 .rw[aT<|R8 #[_,e,rfl]<|aT<|R8 #[_,e,rfl]<|bK c]
 .rw[aT<|asx (bA _ e rfl)<|bK c]
def aaJ:b9 I8:=cD "dict_keyiterator.__next__" _ Hj (cB<|by lk)<|R0 true rfl
def aaZ:b9 Jn:=cD "dict_valueiterator.__next__" _ Hn (cB<|by lk)<|R0 false rfl
def qF(O:Bool)(H cd:af)(es:!bv)(n:N)(i z e:Int):Prop:=H=.type (ze O)/\mA cd=true/\z=es.length/\e=n/\i=es.length
def BJ(O:Bool):RF (.r .nil) .nil (.f (.r<|.i<|.i<|.i .nil)<|.d .nil):=λU H a d i o z m e S sl E K k n K=>{t:=.update U none (λK=>#[H,a,.fields #[[.none,.int i o,.int z m,.int e S]],sl]) λK=>y4,as:=[U,d],P:=qF O H E k n i z e}
def I7:=cy 604966931542717672622778513967276790323241898245050534750821 2<|BJ true
def Jm:=cy 39647112825583545393006412691359451730623886891278502357897603685 2<|BJ false
def RZ(O)(j:b=if O then Builtin.«dict_keyiterator.__next__» else Builtin.«dict_valueiterator.__next__»):sH b _ _ _ (BJ O):=λU H a d i o z m G S sl E p k n P g T J t A Z h w s C f q=>by
 obtain⟨rfl,e,rfl,rfl,rfl⟩:=g;have e:=lH e;subst e;obtain⟨y,l,_⟩:=f;have B:s.TypeIs (.ref U) (ze O):=bA _ y rfl
 have c:aW (aE pw T) A Z y4 h w {s with heap:=s.heap.update U<|iY (·.setIfInBounds 0 .none)}:=pR y (by cases O<;>rfl) q
 rw[<-Q_]at c;cases O
 all_goals
  subst j;rw[ob<|bK<|ob<|aT ?_];first|rw[aT (Ff B<|bK ?_)]|rw[aT<|Fg B<|bK ?_]
  rw[aT<|wpAny_fieldsOf y rfl<|aT<|bK<|aT<|wA l rfl ?_];rw[if_neg<|by simp,];rw[aT<|bK<|aT<|zi l rfl ?_];rw[if_neg<|by simp,];rw[bK ?_];simp only[show¬(k.length<0)from by lia,if_false,FB,(by simp:(#[k]:Array bv)[k.length]? =none)];rw[ob ?_];first|rw[aT (Ff B<|bK ?_)]|rw[aT<|Fg B<|bK ?_]
  rw[ob<|qd y rfl (sB _) c]
def aaI:b9 I7:=cD "dict_keyiterator.__next__" _ Hj (cB<|by lk)<|RZ true rfl
def aaY:b9 Jm:=cD "dict_valueiterator.__next__" _ Hn (cB<|by lk)<|RZ false rfl
def mu(k:aA):!bv->!bv
 |[]=>[]
 |e::es=>match gi k e with
  |true=>es
  |false=>e::mu k es
def Xp:∀{es i},es.findIdx? (gi k)=some i->es.eraseIdx i=mu k es:=by
 intro J;induction J with
 |nil=>intro _ U;simp at U
 |cons e es C=>
  intro i U;rw[S5]at U
  revert U;show _->_=cond (gi k e) es (e::mu k es);cases gi k e
  .exactλU=>aJ (z7.mp U) λK B P=>P▸congrArg (e::·) (C B)
  .exactλU=>dZ U▸rfl
def YF:RF (.r<|.s .nil) .nil (.d .nil):=λd j U H a k n sl=>{t:=.fresh λU=>.update d none (λU=>#[H,a,.dict #[mu j k]<|n+1,sl]) λU=>eP .none,as:=[d],P:=z8 H k j/\k.length<=eG}
def IJ:=cy 128106587276438654302609470569207589477 1 YF
def Vo:PySem.code "dict.__delitem__"=128106587276438654302609470569207589477:=by decide+kernel
def aam:b9 IJ:=cD "dict.__delitem__" Builtin.«dict.__delitem__» Vo (cB<|by lk) λd R Y H a k n sl g T J t A Z h w s C f j=>by
 obtain⟨⟨p,M,X⟩,I⟩:=g;have p:=lH p;subst p;obtain⟨o,_⟩:=f;rw[dq (uP.mp X) λl b=>Bs (Bq b) λi e m q U U=>ob<|aT<|aT<|oK (bA _ o rfl)<|bK<|aT<|bK<|bK ?_];rw[ob<|bK<|ob<|iy<|aT<|zl<|aT<|wC o rfl M<|m▸(aT<|wA o rfl<|q▸?_)];have c:((#[k]:Array bv).eraseIdxIfInBounds i).size<=(#[k]:Array bv).size+1:=by
  unfold zo;split
  .rw[Array.size_eraseIdx,];rw[ahP]
  .rw[oZ _]
 refine aT (Sc o rfl (bK<|ob<|R9 ?_) (by simpa using I) c);have G:i<k.length:=by have:=(wG.mp q).1;simpa using this
 have K:(#[k]:Array bv).eraseIdxIfInBounds i=#[mu R k]:=by refine(Xp<|by simpa using m)▸?_;unfold zo;rw[(dif_pos G)▸h_ (by simp)]
 have O:Gn (λx=>x.eraseIdxIfInBounds i) #[.type "dict",a,.dict #[k] n,sl]=#[.type "dict",a,.dict #[mu R k]<|n+1,sl]:=by rw[K▸?_];rfl
 rw[pR (s:={s with toks:=s.toks+1}) o O<|jL j]
def qE(cd:af)(d:aH):Prop:=mA cd=true/\1<d
def YH:RF (.r .nil) .nil (.d .nil):=λd E U k n U=>{t:=newFields "dict_keyiterator" [.ref d,iq 0,iq k.length,iq n]>>=gx,as:=[d],P:=qE E d}
def YL:RF (.r .nil) .nil (.d .nil):=λd E U k n U=>{t:=newFields "dict_values" [.ref d]>>=gx,as:=[d],P:=qE E d}
def IN:=cy 7635753672628796759583452588645 1 YH
def IR:=cy 140719261054343729373276773 1 YL
def Vt:PySem.code "dict.__iter__"=7635753672628796759583452588645:=by decide+kernel
def Vv:PySem.code "dict.values"=140719261054343729373276773:=by decide+kernel
def QD(h:1<d):((d:aH)==y6)=false:=beq_eq_false_iff_ne.mpr λe=>by rw[ahZ h e]
def aaq:b9 IN:=cD "dict.__iter__" Builtin.«dict.__iter__» Vt (cB<|by lk) λd E a k n sl g T J t A Z h w s C f j=>by obtain⟨b,M⟩:=g;have b:=lH b;subst b;obtain⟨y,_⟩:=f;rw[ob<|aT<|asA (bA _ y rfl)<|bK<|ob<|bK<|ob ?_];unfold Sr;rw[if_neg (by rw[QD M,];rw[kZ]),];rw[bK<|ob<|wA y rfl<|ob<|zi y rfl j]
def aau:b9 IR:=cD "dict.values" Builtin.«dict.values» Vv (cB<|by lk) λd E a k n sl g T J t A Z h w s C f j=>by obtain⟨b,M⟩:=g;have b:=lH b;subst b;obtain⟨y,_⟩:=f;rw[ob<|aT<|asA (bA _ y rfl)<|bK<|ob ?_];unfold Sr;rw[if_neg (by rw[QD M,];rw[kZ]),];rw[bK j]
def BS(i:Int):bk Fin:=.fresh λD=>eP<|.int i D
def sD(x y:aA)(i:N):Prop:=∃r,zv x y 0 x.length 1=i::r
def YV:RF (.s<|.s .nil) (.i .nil) .nil:=λx U y U j U=>{t:=BS j,P:=j.rec (sD x y) λU=>False}
def I3:=cy 2239434458985225483636 0 YV
def VC:PySem.code "str.index"=2239434458985225483636:=by decide+kernel
def abd(h:sD x y i):Builtin.«str.index» #[[.str x t1,.str y G],[]]=BS (.ofNat i):=by rw[dq h λr h=>?_];show(match zv x y 0 (min x.length x.length) 1 with|i::_=>retInt i|[]=>(do rule "str.index.not-found";raiseError "ValueError" "substring not found"))=_;simp only[Nat.min_self,h];rfl
def aaF:b9 I3:=cD "str.index" Builtin.«str.index» VC (cB<|by lk) λx Y y G i E=>match i with
 |.ofNat _=>λg K K K K K K K K K K R=>lB (abd g) R
 |.negSucc _=>λU=>U.elim
def jD(x:aA):Array UInt8:=#[x.cps.toList.map z6]
def uQ(x:aA):Prop:=(∀Z∈x.cps.toList,Z<128)/\x.cps.size<=eG
def Zp:∀(l:!N) (m),l.foldl (λm y=>m++(fM._codecs.asciiCodec.bytesOf y).toArray) m=m++#[l.map z6]:=by
 intro J;induction J with
 |nil=>intro m;rfl
 |cons Z l C=>intro m;simp only[S6,C];show(m++(List.toArray [Z.toUInt8]))++_=_;simp only[Array.append_assoc];congr 1;rw[h_<|by simp]
def arO{t:Type}{f:N->t->bk (ForInStep t)}{L b1:t}(a:f 0 L=pure (.yield b1))(M:∀i,f i b1=pure (.done b1)):∀n,forIn (GR 0 (n+1) 1<|ζ) L f=pure b1:=λn=>by
 simp only[GQ,(by simp[TM]:(GR 0 (n+1) 1<|ζ).size=n+1),List.range'_succ,zL,a,pb];cases n with
 |zero=>rfl
 |succ n=>show forIn ((0+1)::_) b1 f=_;simp only[zL,M,pb]
def amo{t:Type}{f:N->t->bk (ForInStep t)}{b:t}:forIn (GR 0 0 1<|ζ) b f=pure b:=by simp only[GQ];rfl
def G4{n a:Type}{e:bk n}{v:n}{k:n->bk a}{r:bk a}(h:e=pure v)(q:k v=r):(e>>=k)=r:=by simp only[h,pb];rw[q]
def Yb(id a x)(h:uQ x):fM._codecs.encodeNarrow id fM._codecs.asciiCodec none a x=pure (jD x):=by
 obtain⟨⟨l⟩⟩:=x;rw[ct h λg M=>?_];have c:∀Z∈l,fM._codecs.asciiCodec.bad Z=false:=λZ d=>decide_eq_false<|l8.mpr<|g Z d;cases l with
 |nil=>rw[G4 amo rfl]
 |cons Z l=>
  have e:(ar (Z::l)).extract 0 (ar (Z::l)).size=ar (Z::l):=Array.extract_size;have U:(ar (Z::l)).findIdx? fM._codecs.asciiCodec.bad=none:=by rw[Fj,];intro y b;rw[c y (by simpa using b)]
  have f:(ar (Z::l)).foldl (λm y=>m++(fM._codecs.asciiCodec.bytesOf y).toArray) (List.toArray [])=jD #[#[Z::l]]:=by have z:=Zp (Z::l) (List.toArray []);simp only[Sk]at z;rw[<-Array.foldl_toList];rw[z]
  have Y:¬((jD #[#[Z::l]]).size>eG):=by rw[(by simp[jD]:(jD #[#[Z::l]]).size=(Z::l).length)▸l_.mpr M]
  rw[G4 (arO (b1:=(0+(ar (Z::l)).size,jD #[#[Z::l]],{})) (JF ζ<|abu (by rw[c Z<|.head _,];rfl:((not (fM._codecs.asciiCodec.bad Z)))=true) ?_) (λi=>JF Y ?_) l.length) rfl]
  .dsimp only
   rw[e,U];dsimp only[Option.getD];rw[e,f]
  .rw[(by simp:(ar (Z::l))[0+(ar (Z::l)).size]? =none)▸rfl]
def Ya(id a x):fM._codecs.encodeRoad id a x #[#[[97,115,99,105,105]]] none=(do yj (<-fM._codecs.encodeNarrow id fM._codecs.asciiCodec none a x)):=by lk
def ZA(b:Array UInt8):bk Fin:=.fresh λD=>eP<|.bytes b D
def Yc(x t1 G):Builtin.«str.encode» #[[.str x t1,.str #[#[[97,115,99,105,105]]] G],[]]=(do gx (<-fM._codecs.encodeRoad "str.encode" (.str x t1) x #[#[[97,115,99,105,105]]] none)):=by lk
def YP:RF (.s<|.asc .nil) .nil .nil:=λx U=>{t:=ZA<|jD x,P:=uQ x}
def IV:=cy 483552601124663068947828 0 YP
def Vw:PySem.code "str.encode"=483552601124663068947828:=by decide+kernel
def aay:b9 IV:=cD "str.encode" Builtin.«str.encode» Vw (cB<|by lk) λx Y G g U U U U U U U U U U R=>lB (by rw[Yc,Ya,Yb _ _ _ g];show(do gx (<-yj (jD x)))=_;unfold yj;rw[if_neg<|l_.mpr (by show(jD x).size<=eG;rw[(by simp[jD]:(jD x).size=x.cps.size),];rw[g.2]),];rfl) R
def Aa(a b r:Int):Prop:=a=16/\∃n:N,n<=5/\b=ad n/\r=ad (16^n)
def Zc:RF (.i<|.i .nil) (.i .nil) .nil:=λa U b U r U=>{t:=BS r,P:=Aa a b r}
def Jh:=cy 116512447577011902704086890 0 Zc
def VL:PySem.code "int.__pow__"=116512447577011902704086890:=by decide+kernel
def aaT:b9 Jh:=cD "int.__pow__" Builtin.«int.__pow__» VL (cB<|by lk) λa Y b G r E g K K K K K K K K K K R=>lB (by obtain⟨rfl,n,w,rfl,rfl⟩:=g;rw[oq n (qA w) rfl λU=>oq n U rfl λU=>oq n U rfl λU=>oq n U rfl λU=>oq n U rfl λU=>oq n U rfl λU=>nomatch U]) R
def gk(_:String)(_:kY)(_:aR):Option (bk Fin×aR×!As):=none
def gr:b9 gk:=λK K K K K K K K U=>nn U
def yu:!Ay->r7
 |[],_=>gk
 |f::_,0=>f
 |_::l,j+1=>yu l j
def bH(h:b9 f)(a:∀j,b9<|yu l j):∀j,b9<|yu (f::l) j
 |0=>h
 |j+1=>a j
def xT:r7:=yu [Jf,IW,IU,IG,IF,IY,IZ,Jg,IX,Je,Jd,IT,I9,IS,Ji,IH,Jj,Jk,I2,I6,Jc,I4,II,Jb,IK,IM,IO,IL,IP,IQ,IJ,IN,I8,I7,Jn,Jm,I1,Jl,IR,Ja,gk,gk,gk,gk,gk,gk,gk,gk,gk,gk,gk,gk,gk,gk,gk,gk,gk,gk,gk,gk,I_,I3,gk,IV,Jh]
def xU(w F B):uF xT w F B:=have b:∀K,b9 (xT K):=bH aaR<|bH aaz<|bH aax<|bH aah<|bH aae<|bH aaC<|bH aaB<|bH aaS<|bH aaA<|bH aaQ<|bH aaP<|bH aaw<|bH aaM<|bH aav<|bH aaU<|bH aak<|bH aaV<|bH aaW<|bH aaE<|bH aaH<|bH aaO<|bH aaG<|bH aal<|bH aaN<|bH aan<|bH aap<|bH aar<|bH aao<|bH aas<|bH aat<|bH aam<|bH aaq<|bH aaJ<|bH aaI<|bH aaZ<|bH aaY<|bH aaD<|bH aaX<|bH aau<|bH aaL<|bH gr<|bH gr<|bH gr<|bH gr<|bH gr<|bH gr<|bH gr<|bH gr<|bH gr<|bH gr<|bH gr<|bH gr<|bH gr<|bH gr<|bH gr<|bH gr<|bH gr<|bH gr<|bH gr<|bH gr<|bH aaK<|bH aaF<|bH gr<|bH aay<|bH aaT<|λU=>gr;λK=>b K w F B K
def z(l:!N):!(N×N):=l.map λa=>(a,a)
def asS(l):∀p∈z l,p.1=p.2:=λp I=>by rw[aJ (bn.mp I) λa U P=>?_];subst P;rfl
def V(P:eI)(k:aA)(t:N)(v:af):bv:=#[hs P k,.str k t,v]
def az(es:!bv)(n:N):Obj:=#[.type "frame",none,.dict #[es] n,#[[]]]
def wT(s:bL):PySem.Expr:=match s with
 |.While D _ _ _=>D
 |_=>.Constant .none 0 default
def wB(s:bL):!bL:=match s with
 |.While _ b _ _=>b
 |_=>[]
def wO(s:bL):!bL:=match s with
 |.While _ _ Y _=>Y
 |_=>[]
def whl(s:bL)(O:aX):bj:=.whileLoop (wT s) (wB s) (wO s) O
abbrev iv:aA:=#[#[[110,117,109]]]
abbrev iw:aA:=#[#[[118,97,108]]]
abbrev iu:aA:=#[#[[65,80]]]
abbrev p6:aA:=#[#[[109,111,100]]]
abbrev i_:Array UInt8:=#[[65,66,67,68,69,70,71,72,73,74,75,76,77,78,79,80]]
def aa(xs:Array af)(n:N):Obj:=#[.type "list",none,.seq xs n,#[[]]]
def aD(xs:!af):Obj:=#[.type "tuple",none,.seq #[xs] 0,#[[]]]
def ak(es:!bv)(n:N):Obj:=#[.type "dict",none,.dict #[es] n,#[[]]]
def bm(v:af):Obj:=#[.type "cell",none,.cell<|some v,#[[]]]
def cF:Obj:=#[.type "cell",none,.cell none,#[[]]]
abbrev Fs:=aH->Obj->Prop
abbrev ao:=List<|aH×Obj
structure Wd where
 w:eJ
 b1:Bool
 b2:Bool
 b3:Bool
abbrev Wd.P(x:Wd):eI:=x.w.params
abbrev Wd.W(x:Wd):eJ:=Mine.W x.w x.b1 x.b2 x.b3
abbrev aj:Mk:=#[none,none,false]
@[irreducible]noncomputable def ex(x:Wd)(t:Mk)(b:N)(j:r8)(g:aR):av:=yS (T x.P) x.W xT 100000 b t j g
def xD(x t b j g):ex x t b j g=yS (T x.P) x.W xT 100000 b t j g:=by unfold ex;rfl
abbrev cf(L:ao)(n t:N)(h:!N)(gv:!af)(O Y:ao):aR:=#[L,n,t,h,gv,0,O,Y]
def hN:!N->N->N
 |[],_=>0
 |a::_,0=>a
 |_::l,i+1=>hN l i
def hT:!N:=[0x3fc04,0x11c10,0x1211121212c102,0x12211121112,0x4441311131313c103,0x413f0416728077ff0f20ff0f20ff01ff01ff01ff0,0x150ff0418d0b601141d6066aa01aa0cd0,0x888811ab1c0bbb9399910,0xe90c70,0x3448002d22210d08000f051131533aa0aa016,0x555544866a6661666a6661666a6661666a666166a1038004343,0x9198188a77777a105aa1051c1031bbfe0b111b5558005444,0x17e1ee80021c02224a114449c0,0x1150ff0,0x511df4bb1bbbd9901dd8888d10,0xa304114451221a304151221a306664152c1021a30444311131333113fe03113,0xf00f00f00f0112014100100100ffeff1f1f,0x2c10211121112,0xd40dddd1c4cc0,0xd1d9ad0ad091bb1b1990c105551107898880d0454f60,0x883888181831336d801331316117171c107fe0fe071117666,0x77771f1841200d018488aa0aa016,0x3131c103fe0fe0311135,0x57361a0686999c910f80,0x5110b0f4bb1bbb0b099010b00b0dddddddd1,0x41b608d0b603f041d60,0x77a7771777a7771777a777177a10,0x98b0bb1b1990c1051f60,0x9704,0x4141c104fe0fe0411147,0x511cf4bb1bbbc9901cc999999991,0x1c10fe0211124,0x51cc1cccc0d00b00b0ec401c40ec401c40ec4010b00b0e1eee999b991919,0xb08e05555c3010d01155800292220d08000f051150f051151541555c309e5043c,0x587177f705111555e90155541b05a905558003646,0xaa0140077733ae0,0x77377717898699998181c108fe0fe081118666,0xf701e90559b0555563646,0x51105120c30733aae033aae033aae03a102212229b0930,0x7171c107111fe071717c107,0x380015,0xff01ff01ff05444,0xddd1c1fe0c1c1c11fe0c0b0,0x5160d00d090c0270dccc0c0998991919,0x6609414488888884a90144661661333,0x4385333350c092010f00f01100100100120ffeff1f1fef0ef0ef0,0x88881899991,0x4541802a9aaa560d015800292220d08000f061156a9075533333ae0,0x77a771717aa01411044aa04a90,0xa903f051221f00333414114a901,0xff0116616166ff01113fc0777e001,0x3f0c11cc99899191,0x5888881155c307334ae0334ae0334ae034144461511415,0x51dd1dddd0c0cceb00ceb00ceb00e1eee8960,0x1b60ff018d0f20fa05444,0xab9bbb4151c055522122244a90,0x3131c103111fe031313c103,0x1fe1ee50c092051b55597971797dd0b0960,0x110110110,0xb00b00b0,0x55555,0x5fc03,0x1111,0xfb06fb06,0x4133111311136,0x61304451221a304555121fe02121211fe0244,0x1508601501501501150150,0x1808901801801801180180,0x113f0ff0e301ff0f20fa0,0xff0413f0444f20ff05d60,0xfe0fe0fe0fe0,0x444fd014fc05,0x5165ee0615fc0666aa0,0xf2041,0x55155,0x5166432703a90aa10800292220d0f551,0x5110d061d761dd8888d10f61d7d1301001,0x510d0510d0c30,0xe207731432503,0xccc1cc,0x8160ddd0b0d10,0x33313,0x99919,0x51541555544977a77717e5068003646,0x660d3133999999933ae03771771666,0x6666,0x4444,0x11aa1a13113d7045,0xd7035,0x88188,0x514ee0,0xd0133d7045,0xfe021fe02,0x150f0441c20111c20c201c2033,0xa1aaa,0x1503fc0888e004,0x141ff0e3044ff0,0x50b0cccc1cb00172a05c1066,0x19b1bb5f50,0x5800152305,0x541c0444,0x8501850850850,0x2a9aaa37,0x53aaaa1aa21155a90a9014,0x333fd0,0x88b881818,0x515431c0333b508005444,0x515ac10a1fe0a1fe0acd0,0x51541e044555,0xc00c00c0,0x77e771717,0x1503fc0777e004f20e60,0x8880c0aa016ea0ea0ea0,0x430b0533335548555a90,0xff0f204,0x35800152405,0x1988a60a601]
def Hf:N->N->!N
 |0,_=>[]
 |f+1,n=>match eY n 0 with
  |true=>[]
  |false=>match eY (n%16) 0 with
   |true=>match oX 139 (n/16%256)with
    |true=>Hf f (hN hT<|255-n/16%256)++Hf f (n/4096)
    |false=>(match oX 2048 (n%4096)with
     |true=>n/16%256+872
     |false=>n/16%256-1)::Hf f (n/4096)
   |false=>hN [0,0,1001,3,2,1,4,5,6,7,1002,1003,9,8,1004,13] (n%16)::Hf f (n/16)
abbrev H(n:N):!N:=Hf 2000 n
def fz(F:Fs)(X:ao):Fs:=λa Y=>F a Y\/(a,Y)∈X
def an:Le F (fz F X):=λ_ _ U=>.inl U
def aV:Le F F:=λ_ _ U=>U
def dR(h:Le F U)(k:Le U a7):Le F a7:=λa Y x=>k a Y<|h a Y x
def cb(h:Le F U):Le F (fz U X):=λa Y x=>.inl<|h a Y x
def bO(h:Le (fz F X) U):Le F U:=λa Y x=>h a Y<|.inl x
def bc(h:(a,o)∈X):fz F X a o:=.inr h
def gB(F:Fs):ao->Prop
 |[]=>True
 |p::l=>F p.1 p.2/\gB F l
def gB.mem{F:Fs}:∀{l:ao},gB F l->∀p∈l,F p.1 p.2:=by
 intro J;induction J with
 |nil=>intro _ _ U;rw[nomatch U]
 |cons q l C=>intro g p U;rw[(aY.mp U).elim (λe=>e▸g.1)<|C g.2 p]
structure bg (x:Wd) (F:Fs) (L:ao) (K s:aN):Prop where
 base:jW (T x.P) F
 rep:bF F K (cf L s.heap.objs.size s.toks [] [] [] []) s
abbrev Po:=Fs->aL->ao->Prop
inductive QS (k:!N) (F':Fs):aL->ao->Prop
 |mk (t:N):QS k F' (.ok (.ret (.str #[#[k]] t))) []
inductive QT (k:!N) (F':Fs):aL->ao->Prop
 |mk (t:N) {L':ao}:QT k F' (.ok (.ret (.str #[#[k]] t))) L'
inductive QK (R:aL) (L:ao) (F':Fs):aL->ao->Prop
 |mk:QK R L F' R L
inductive QB (v:!UInt8) (F':Fs):aL->ao->Prop
 |mk (t:N):QB v F' (.ok (.ret (.bytes #[v] t))) []
def ay(x:Wd)(t:Mk)(b:N)(c:bj)(F:Fs)(L:ao)(Q:Po):Prop:=∀w B s A,fL b t A->bg x F (L++w) B s->gL (aE pw x.W) A c (λr P=>∃T h,Le F T/\bg x T (h++w) B P/\Q T r h) s
def Go(x:Wd)(t:Mk)(b:N)(F0:Fs)(Q:Po)(F:Fs)(Y:ao)(o:ao->av):Prop:=∀w B A,fL b t A->jW (T x.P) F->iI x.W B A (λr P=>∃a h,Le F0 a/\bg x a (h++w) B P/\Q a r h) (o<|Y++w) F
section
variable{x:Wd} {G:Mk} {b:N} {c:bj} {F F0:Fs} {L L1 L2 O X Y:ao} {Q:Po} {r:aL} {h:!N} {gv:!af} {J:!(Bool×Bool)} {ps:!Prop} {K s:aN}
def ay.le{p:N}{d:Po}(g:ay x G b c F L Q)(j:b<=p)(u:∀r F' L',Le F F'->Q F' r L'->d F' r L'):ay x G p c F L d:=λw B s A C H=>jE (g w B s A #[bT (oV j _) C.1,C.2.1,bT (oV (zW 4 j) _) C.2.2.1,C.2.2.2] H) λr P y=>cp y λF' L' l W q=>bY F' L' l W<|u r F' L' l q
def rB{l m:ao}(h:((l++m).map (·.1)).Nodup):(l.map (·.1)).Nodup/\(m.map (·.1)).Nodup/\∀p∈l,∀q∈m,p.1≠q.1:=by rw[bf,j3]at h;rw[#[h.1,h.2.1,λp I q u=>h.2.2 _ (bw I) _<|bw u]]
def bg.run(S:bg x F (L++Y) K s)(u:gB F O):bF F K (cf L s.heap.objs.size s.toks h gv O Y) s:=by rw[en (rB S.rep.nd) λl J D=>?_];rw[#[S.rep.fr,λp I=>S.rep.led p<|ga _ I,l,λp I=>S.rep.dj p<|ga _ I,rfl,rfl,S.rep.rest,λp I=>u.mem p I,#[λp I=>S.rep.led p<|dY _ I,λp I H=>?_,J,λp I=>S.rep.dj p<|dY _ I]]];rw[aJ (bn.mp H) λq a e=>D q a p I e]
def bg.back{g:aR}(B:jW (T x.P) F)(R:bF F K g s)(w:((L1++L2).map (·.1)).Nodup)(H:∀p∈L1++L2,p∈g.L):bg x (fz F L2) (L1++g.Y) K s:=by
 rw[en (rB w) λl J D=>?_];have f:∀p∈L1++L2,∀q∈g.Y,p.1≠q.1:=λp I q u e=>R.hy.off q u<|e▸bw (H p I);rw[⟨B.mono λ_ _=>.inl,λa Y e=>?_,λp I=>?_,?_,λp I Y e=>?_,rfl,rfl,R.rest,λ_ U=>(cQ U).elim,#[λ_ U=>(cQ U).elim,λ_ U=>(cQ U).elim,.nil,λ_ U=>(cQ U).elim]⟩]
 .rw[e.elim (R.fr a Y) λe=>R.led (a,Y)<|H _<|dY _ e]
 .rw[(ek.mp I).elim (λI=>R.led p<|H p<|ga _ I)<|R.hy.led p]
 .show((L1++g.Y).map (·.1)).Nodup
  rw[bf,j3];rw[⟨l,R.hy.nd,λa o b j=>(aJ (bn.mp o) λp I P=>?_)⟩];subst P;rw[aJ (bn.mp j) λq u P=>?_];subst P;rw[f p (ga _ I) q u]
 .rw[(ek.mp I).elim (λI=>e.elim (R.dj p (H p<|ga _ I) Y) λe=>D p I _ e rfl) λI=>e.elim (R.hy.dj p I Y) λe=>f (p.1,Y) (dY _ e) p I rfl]
def bg.perm{L L':ao}(S:bg x F L K s)(p:L.Perm L'):bg x F L' K s:=#[S.base,S.rep.fr,λq u=>S.rep.led q<|p.mem_iff.mpr u,(p.map (·.1)).nodup_iff.mp S.rep.nd,λq u=>S.rep.dj q<|p.mem_iff.mpr u,S.rep.sz,S.rep.tk,S.rep.rest,S.rep.ro,⟨λ_ U=>(nomatch U),λ_ U=>(nomatch U),.nil,λ_ U=>(nomatch U)⟩]
def ay.perm{L L':ao}(p:L.Perm L')(g:ay x G b c F L' Q):ay x G b c F L Q:=λw B s A C H=>g w B s A C<|H.perm<|p.append_right w
def bJ(u:gB F O)(k:∀n t,Go x G b F Q F Y λZ=>ex x G b (.code c)<|cf L n t h gv O Z):ay x G b c F (L++Y) Q:=λw B s A C H=>by rw[b4]at H;have z:=k s.heap.objs.size s.toks w B A C H.base;dsimp only at z;simp only[xD]at z;rw[yT (λF=>xU _ F _) 100000 H.base b G (.code c) _ A c _ s z (H.run u) C]
def lY(u:gB F O)(k:∀n t,Go x G b F Q F Y λZ=>ex x G b (.fn a args)<|cf L n t h gv O Z):ay x G b (.call (.ref a) args) F (L++Y) Q:=λw B s A C H=>by rw[b4]at H;have z:=k s.heap.objs.size s.toks w B A C H.base;dsimp only at z;simp only[xD]at z;rw[yT (λF=>xU _ F _) 100000 H.base b G (.fn a args) _ A (.call (.ref a) args) _ s z (H.run u) C]
def fu(u:gB F O)(k:∀n t,Go x G b F Q F [] λZ=>ex x G b (.code c)<|cf L n t h gv O Z):ay x G b c F L Q:=by have z:=bJ u k;rwa[bQ]at z
def fv(u:gB F O)(k:∀n t,Go x G b F Q F [] λZ=>ex x G b (.fn a args)<|cf L n t h gv O Z):ay x G b (.call (.ref a) args) F L Q:=by have z:=lY u k;rwa[bQ]at z
end
def pk(L:ao):!N->ao
 |[]=>[]
 |i::D=>match gP L i with
  |some p=>p::pk L D
  |none=>pk L D
def Nb:∀{L i j p q},(L.map (·.1)).Nodup->gP L i=some p->gP L j=some q->p.1=q.1->i=j
 |[],_,_,_,_,_,U,_,_=>nn U
 |y::L,0,0,_,_,_,_,_,_=>rfl
 |y::L,0,j+1,p,q,hn,h1,h2,e=>by cases h1;rw[bW,c_]at hn;rw[absurd (e▸bw (mG h2)) hn.1]
 |y::L,i+1,0,p,q,hn,h1,h2,e=>by cases h2;rw[bW,c_]at hn;rw[absurd (e.symm▸bw (mG h1)) hn.1]
 |y::L,i+1,j+1,p,q,hn,h1,h2,e=>by rw[bW,c_]at hn;rw[congrArg (·+1)<|Nb hn.2 h1 h2 e]
def Eb:∀{a},∀p∈pk L a,∃i∈a,gP L i=some p:=by
 intro J;induction J with
 |nil=>intro _ U;rw[(cQ U).elim]
 |cons i a C=>
  intro p U;replace U:p∈(match gP L i with
   |some p=>p::pk L a
   |none=>pk L a):=U
  cases e:gP L i with
  |some q=>
   rw[e]at U;rcases aY.mp U with rfl|U
   .rw[bA i (.head _) e]
   .rw[aJ (C p U) λK B e=>bA K (.tail _ B) e]
  |none=>rw[e]at U;rw[aJ (C p U) λK B e=>bA K (.tail _ B) e]
def vH(i:N):!N->Bool
 |[]=>true
 |K::l=> (not ((eY i K)))&&vH i l
def mF:!N->Bool
 |[]=>true
 |i::l=>vH i l&&mF l
def M_:∀{l},vH i l=true->i∉l
 |[],_,U=>(cQ U).elim
 |K::l,U,H=>by
  have S:((not ((eY i K)))&&vH i l)=true:=U;simp only[ky]at S;rcases aY.mp H with rfl|H
  .have:=S.1
   rw[Nat.beq_refl]at this;rw[oL this]
  .rw[M_ S.2 H]
def Pc(w:(L.map (·.1)).Nodup):∀{a},mF a=true->((pk L a).map (·.1)).Nodup:=by
 intro J;induction J with
 |nil=>intro _;rw[.nil]
 |cons i a C=>
  intro U;have S:(vH i a&&mF a)=true:=U;simp only[ky]at S;show((match gP L i with
   |some p=>p::pk L a
   |none=>pk L a:ao).map (·.1)).Nodup
  cases e:gP L i with
  |some p=>rw[bW,c_];rw[#[λH=>(aJ (bn.mp H) λq u K=>aJ (Eb q u) λb B O=>M_ S.1<|Nb w e O K.symm▸B),C S.2]]
  |none=>rw[C S.2]
def AB:!(Bool×Bool)->Prop
 |[]=>True
 |p::l=>p.1=p.2/\AB l
def AP:!Prop->Prop
 |[]=>True
 |p::l=>p/\AP l
def AB.mem:∀{l:!(Bool×Bool)},AB l->∀p∈l,p.1=p.2:=by
 intro J;induction J with
 |nil=>intro _ _ U;rw[nomatch U]
 |cons q l C=>intro g p U;rw[(aY.mp U).elim (λe=>e▸g.1)<|C g.2 p]
def AP.mem:∀{l:!Prop},AP l->∀p∈l,p:=by
 intro J;induction J with
 |nil=>intro _ _ U;rw[nomatch U]
 |cons q l C=>intro g p U;rw[(aY.mp U).elim (λe=>e▸g.1)<|C g.2 p]
inductive kA where
 |res (r:aL)
 |next (c:bj)
 |pend (b:N) (hd:Mk) (c:bj) (k:aL->aR->av)
 |gz (b:N) (hd:Mk) (m:bk af) (k:aL->aR->av)
abbrev iN(k t:N):af:=.int (ad k) t
abbrev ah(k:!N)(t:N):af:=.str #[#[k]] t
abbrev c7(a:N)(i:Int):Obj:=#[.type "list_iterator",none,.fields #[[.ref a,.int i 0]],#[[]]]
abbrev fw(a:N)(i:Int):Obj:=#[.type "tuple_iterator",none,.fields #[[.ref a,.int i 0]],#[[]]]
abbrev PD(i n:Int):Obj:=#[.type "range_iterator",none,.fields #[[.int i 0,.int n 0,.int 1 0]],#[[]]]
abbrev Sn:Type:=Bool×Option (kA×ao×ao×!(Bool×Bool)×!Prop)×!(N×N)
def aR.sn(g:aR)(a:!N)(e:kA)(cs:!(N×N))(s:!(Bool×Bool))(ps:!Prop):Sn:=(mF a,some (e,pk g.L a,g.Y,s,ps),cs)
def av.RY(g:!N)(o:av):!(N×N)->!(Bool×Bool)->!Prop->Sn:=o.rec (λr z=>z.sn g<|.res r) (λZ z=>z.sn g<|.next Z) (λb t Z z j U=>z.sn g<|.pend b t Z j) (λb t E z j U=>z.sn g<|.gz b t E j) (λa U f d s e=>a.rec (λx y=>f ((x,y)::d) s e) (λx y=>f d ((x,y)::s) e) λc=>f d s (c::e)) λU U U=>(false,none,[])
def av.view(a:!N)(o:av):Sn:=o.RY a [] [] []
def Sn.ok(v:Sn)(R:kA×ao×ao×!(Bool×Bool)×!Prop):Sn:=(true,some R,z<|v.2.2.map (·.2))
abbrev Ev(o:av)(Y:ao)(a:!N)(e:kA)(L1 L2:ao)(s:!(Bool×Bool))(ps:!Prop):Prop:=o.view a=(o.view a).ok (e,L1++L2,Y,s,ps)
def v2(o:Wd->av)(x:Wd)(a:!N):Sn×Sn:=((o #[x.w,false,x.b2,x.b3]).view a,(o #[x.w,true,x.b2,x.b3]).view a)
def v4(o:Wd->av)(x:Wd)(a:!N):(Sn×Sn)×Sn×Sn:=(v2 o #[x.w,x.b1,false,x.b3] a,v2 o #[x.w,x.b1,true,x.b3] a)
abbrev Rs:Type:=kA×ao×ao×!(Bool×Bool)×!Prop
def um(v:Sn×Sn)(R:Wd->Rs)(x:Wd):Sn×Sn:=(v.1.ok<|R #[x.w,false,x.b2,x.b3],v.2.ok<|R #[x.w,true,x.b2,x.b3])
def rwB(v:(Sn×Sn)×Sn×Sn)(R:Wd->Rs)(x:Wd):(Sn×Sn)×Sn×Sn:=(um v.1 R #[x.w,x.b1,false,x.b3],um v.2 R #[x.w,x.b1,true,x.b3])
def H8(o)(e:Wd->kA)(h:v2 o x D=um (v2 o x D) (λx=>(e x,L1++L2,Y,J,ps)) x):Ev (o x) Y D (e x) L1 L2 J ps:=by
 obtain⟨T,k,d,S⟩:=x;exact match k with
 |false=>congrArg Ab h
 |true=>congrArg sG h
abbrev Ko:Type:=aL->aR->av
def Hc(o:Wd->ao->av)(a:!N)(x:Wd)(Y:ao):Sn×Sn:=v2 (λx=>o x Y) x a
def xh(o:Wd->ao->av)(a:!N)(x:Wd)(Y:ao):(Sn×Sn)×Sn×Sn:=v4 (λx=>o x Y) x a
section
variable(o:Wd->ao->av) (D:!N) (e:Wd->ao->kA) (L1 L2:Wd->ao->ao) (J:Wd->ao->!(Bool×Bool)) (ps:Wd->ao->!Prop)
def U7(x:Wd)(Y:ao):Sn×Sn:=um (Hc o D x Y) (λx=>(e x Y,L1 x Y++L2 x Y,Y,J x Y,ps x Y)) x
def AL(x:Wd)(Y:ao):(Sn×Sn)×Sn×Sn:=rwB (xh o D x Y) (λx=>(e x Y,L1 x Y++L2 x Y,Y,J x Y,ps x Y)) x
variable{o D e L1 L2 J ps}
def cS(h:Hc o D=U7 o D e L1 L2 J ps:=by lk):∀x Y,Ev (o x Y) Y D (e x Y) (L1 x Y) (L2 x Y) (J x Y)<|ps x Y
 |⟨T,false,d,S⟩,Y=>congrArg Ab<|congrFun (congrFun h #[T,false,d,S]) Y
 |⟨T,true,d,S⟩,Y=>congrArg sG<|congrFun (congrFun h #[T,true,d,S]) Y
def bB(h:xh o D=AL o D e L1 L2 J ps:=by lk):∀x Y,Ev (o x Y) Y D (e x Y) (L1 x Y) (L2 x Y) (J x Y)<|ps x Y
 |⟨T,false,false,S⟩,Y=>congrArg (·.1.1)<|congrFun (congrFun h #[T,false,false,S]) Y
 |⟨T,true,false,S⟩,Y=>congrArg (·.1.2)<|congrFun (congrFun h #[T,true,false,S]) Y
 |⟨T,false,true,S⟩,Y=>congrArg (·.2.1)<|congrFun (congrFun h #[T,false,true,S]) Y
 |⟨T,true,true,S⟩,Y=>congrArg (·.2.2)<|congrFun (congrFun h #[T,true,true,S]) Y
end
def PX(e:Wd->kA)(L1 L2 Y:ao)(s:!(Bool×Bool))(ps:!Prop)(x:Wd):Rs:=(e x,L1++L2,Y,s,ps)
def PM(b:N)(t:Mk)(c:bj)(k:Wd->aL->aR->av)(x:Wd):kA:=.pend b t c<|k x
def s5(o)(h:v2 o x D=um (v2 o x D) (PX (λU=>e) L1 L2 Y J ps) x):Ev (o x) Y D e L1 L2 J ps:=H8 o (λU=>e) h
def BA(o k)(h:v2 o x D=um (v2 o x D) (PX (PM b G c k) L1 L2 Y J ps) x):Ev (o x) Y D (.pend b G c<|k x) L1 L2 J ps:=H8 o (PM b G c k) h
section
variable{x:Wd} {G:Mk} {b:N} {c:bj} {F F0:Fs} {L L1 L2 O X Y:ao} {Q:Po} {o:ao->av} {a6:aL->aR->av} {D:!N} {r:aL} {J:!(Bool×Bool)} {ps:!Prop} {K s:aN}
def kA.out(e:kA)(g:aR):av:=e.rec (λr=>.ok r g) (λZ=>.again Z g) (λb t Z j=>.call b t Z g j) λb t E j=>.gz b t E g j
def yY{g:aR}{v:Sn}(q:g.sn D e cs J ps=v.ok (a8,L,Y,a7,bb))(j:AB a7)(I:AP bb)(h:∀g,mF D=true->pk g.L D=L/\g.Y=Y->bE w F K A R (a8.out g)):bE w F K A R (e.out g)/\(∀p∈cs,p.1=p.2)/\(∀p∈J,p.1=p.2)/\(∀p∈ps,p):=by injection q with d q;injection q with Q f;injection Q with Q;injection Q with a q;injection q with O q;injection q with b q;injection q with U i;subst a U i;rw[#[h g d #[O,b],by rw[f▸asS _],j.mem,I.mem]]
def zd{v:Sn}(j:AB U)(I:AP a7)(h:∀g,mF D=true->pk g.L D=L/\g.Y=Y->bE w F K A R (e.out g)):∀{o cs s ps},o.RY D cs s ps=v.ok (e,L,Y,U,a7)->bE w F K A R o/\(∀p∈cs,p.1=p.2)/\(∀p∈s,p.1=p.2)/\(∀p∈ps,p)
 |.ok _ _,_,_,_,q=>yY q j I h
 |.again _ _,_,_,_,q=>yY q j I h
 |.call _ _ _ _ _,_,_,_,q=>yY q j I h
 |.gz _ _ _ _ _,_,_,_,q=>yY q j I h
 |.bad,_,_,_,q=>nomatch congrArg (·.1) q
 |.need (.adr x y) o,cs,s,ps,q=>let z:=zd j I h (o:=o) q;#[#[z.2.1 (x,y)<|.head _,z.1],λp E=>z.2.1 p<|.tail _ E,z.2.2]
 |.need (.bol x y) o,cs,s,ps,q=>let z:=zd j I h (o:=o) q;#[#[z.2.2.1 (x,y)<|.head _,z.1],z.2.1,λp E=>z.2.2.1 p<|.tail _ E,z.2.2.2]
 |.need (.Eg c) o,cs,s,ps,q=>let z:=zd j I h (o:=o) q;#[#[z.2.2.2 c<|.head _,z.1],z.2.1,z.2.2.1,λp E=>z.2.2.2 p<|.tail _ E]
def va{o:av}(q:Ev o Y D e L1 L2 J ps)(j:AB J)(I:AP ps)(h:∀g,mF D=true->pk g.L D=L1++L2/\g.Y=Y->bE w F K A R (e.out g)):bE w F K A R o:=(zd j I h q).1
def bg.got{g:aR}(hi:mF D=true)(e:pk g.L D=L1++L2/\g.Y=Y)(B:jW (T x.P) F)(R:bF F K g s):bg x (fz F L2) (L1++Y) K s:=e.2▸.back B R (e.1▸Pc R.nd hi) λp I=>let⟨_,_,h⟩:=Eb p<|e.1.symm▸I;mG h
def bp(e:∀Z,Ev (o Z) Z D (.res r) L1 L2 J ps)(j:AB J)(I:AP ps)(n:Le F0 F)(q:Q (fz F L2) r (L1++Y)):Go x G b F0 Q F Y o:=λw B A C f=>by rw[va (e<|Y++w) j I λz m M s d=>bY _ (L1++Y) (λa o U=>.inl<|n a o U) (by rw[b4,];rw[.got m M f d]) q]
def bu(e:∀Z,Ev (o Z) Z D (.next c) L1 L2 J ps)(j:AB J)(I:AP ps)(u:c.quiet=true)(n:Le F0 F)(k:ay x G b c (fz F L2) (L1++Y) Q):Go x G b F0 Q F Y o:=λw B A C f=>by rw[va (e<|Y++w) j I λz m M=>#[u,λs d=>jE (k w B s A C (by rw[b4,];rw[.got m M f d])) λr P y=>cp y λT h l H q=>bY T h (λa o U=>l a o<|.inl<|n a o U) H q]]
inductive qD (x:Wd) (hd:Mk) (b:N) (F0:Fs) (Q:Po) (k0:aL->aR->av) (Z:ao) (r:aL) (F':Fs) (L':ao):Prop where
 |mk (L3 Y3:ao) (pm:(L'++Z).Perm (L3++Y3)) (h:!N) (gv:!af) (O:ao) (hO:gB F' O) (k:∀n t,Go x hd b F0 Q F' Y3 λU=>k0 r (cf L3 n t h gv O U))
inductive On (x:Wd) (hd:Mk) (b:N) (F0:Fs) (Q:Po) (k0:aL->aR->av) (Lr Y:ao) (r:aL) (F':Fs) (L':ao):Prop where
 |mk (h:!N) (gv:!af) (O:ao) (hO:gB F' O) (k:∀n t,Go x hd b F0 Q F' Y λU=>k0 r (cf (L'++Lr) n t h gv O U))
def On.y{a:ao}{F':Fs}{L':ao}(k:On x G b F0 Q a6 a Y r F' L'):qD x G b F0 Q a6 (a++Y) r F' L':=by obtain⟨U,c,J,u,O⟩:=k;rw[#[L'++a,Y,by rw[b4,],U,c,J,u,O]]
def It(C:fL b G A)(S:bg x F' (L'++(Z++X)) K s)(k:qD x G b F0 Q a6 Z r F' L')(l:Le F F'):Nx F K s λa c=>iI x.W K A (λr P=>∃F' L',Le F0 F'/\bg x F' (L'++X) K P/\Q F' r L') (a6 r a) c:=by obtain⟨H,f,h,U,d,J,u,O⟩:=k;rw[<-b4]at S;have D:=S.perm<|h.append_right X;rw[b4]at D;rw[#[F',l,_,D.run u,O _ _ X K A C D.base]]
def bg.side{g:aR}{Lc Z X:ao}(hi:mF D=true)(e:pk g.L D=L1++L2/\g.Y=Y++X)(B:jW (T x.P) F)(R:bF F K g s)(h:(L1++Y).Perm (Lc++Z)):bg x (fz F L2) (Lc++(Z++X)) K s:=by rw[<-b4];rw[bg.perm ?_<|h.append_right X];rw[b4,];rw[.got hi e B R]
def jh(e:∀Z,Ev (o Z) Z D (.pend a7 a8 c a6) L1 L2 J ps)(j:AB J)(I:AP ps)(h:(L1++Y).Perm (Lc++Z))(k:∀X B s A,fL a7 a8 A->bg x (fz F L2) (Lc++X) B s->fi (aE pw x.W) A c (λr P=>∃F' L',Le (fz F L2) F'/\bg x F' (L'++X) B P/\qD x G b F0 Q a6 Z r F' L') s):Go x G b F0 Q F Y o:=λX B A C f=>by rw[va (e<|Y++X) j I λz m M s n d L=>gN (k (Z++X) B s n L<|.side m M f d h) λr P y=>cp y λF' L' l W q=>It C W q λa o U=>l a o<|.inl U]
def bP(e:∀Z,Ev (o Z) Z D (.pend U a7 c a6) L1 L2 J ps)(j:AB J)(I:AP ps)(h:(L1++Y).Perm (Lc++Z))(g:ay x a7 U c (fz F L2) Lc Qc)(k:∀r F' L',Le (fz F L2) F'->Qc F' r L'->qD x G b F0 Q a6 Z r F' L'):Go x G b F0 Q F Y o:=jh e j I h λw B s A C H=>u_<|jE (g w B s A C H) λr P y=>cp y λF' L' l W q=>bY F' L' l W<|k r F' L' l q
def jH(e:∀Z,Ev (o Z) Z D (.pend a8 bb c a6) (U++a7) L2 J ps)(j:AB J)(I:AP ps)(g:ay x bb a8 c (fz F L2) U Qc)(k:∀r F' L',Le (fz F L2) F'->Qc F' r L'->On x G b F0 Q a6 a7 Y r F' L'):Go x G b F0 Q F Y o:=bP e j I (by rw[b4,]) g λr F' L' l q=>(k r F' L' l q).y
def ZK(e:∀Z,Ev (o Z) Z D (.pend a8 bb c a6) (U++a7) L2 J ps)(j:AB J)(I:AP ps)(k:∀X B s A,fL a8 bb A->bg x (fz F L2) (U++X) B s->fi (aE pw x.W) A c (λr P=>∃F' L',Le (fz F L2) F'/\bg x F' (L'++X) B P/\On x G b F0 Q a6 a7 Y r F' L') s):Go x G b F0 Q F Y o:=jh e j I (by rw[b4,]) λX B s A C H=>gN (k X B s A C H) λr P y=>cp y λF' L' l W q=>bY F' L' l W q.y
def xN(e:∀Z,Ev (o Z) Z D (.gz a7 a8 m a6) L1 L2 J ps)(j:AB J)(I:AP ps)(h:(L1++Y).Perm (Lc++Z))(k:∀X B s A,fL a7 a8 A->bg x (fz F L2) (Lc++X) B s->ej (aE pw x.W) A m (λv P=>∃F' L',Le (fz F L2) F'/\bg x F' (L'++X) B P/\qD x G b F0 Q a6 Z (.ok<|.ret v) F' L') (λ_ _=>False) s):Go x G b F0 Q F Y o:=λX B A C f=>by rw[va (e<|Y++X) j I λz c M s n d L=>ux (k (Z++X) B s n L<|.side c M f d h) (λv P y=>cp y λF' L' l W q=>It C W q λa o U=>l a o<|.inl U) λ_ _ U=>U]
end
structure PH where
 R:N->aL
 is:!N
 os:!N
 hs:!N
 w:N
 mv:N
 h:!N
 gv:!af
abbrev ph(R:N->aL)(a h:!N)(gv:!af):PH:=#[R,a,[],[],0,0,h,gv]
abbrev PP:Type:=N->Mk->bj->ao->(N->aL)->Prop
def ot:N->ao->ao->ao×ao
 |0,m,d=>(m,d)
 |E+1,m,d=>match d with
  |[]=>(m,[])
  |y::d=>ot E (m++[y]) d
def xS:N->ao->ao->ao
 |0,g,d=>g++d
 |T+1,g,d=>match d with
  |[]=>g
  |y::d=>y::xS T g d
def MV:∀{L Y},(ot m L Y).1++(ot m L Y).2=L++Y:=by
 induction m with
 |zero=>rw[rfl]
 |succ m C=>
  intro L Y;cases Y with
  |nil=>rfl
  |cons y Y=>rw[C.trans<|b4 L [y] Y]
def abl{g:ao}:∀{Y},(g++Y).Perm (xS w g Y):=by
 induction w with
 |zero=>rw[.refl _]
 |succ w C=>
  intro Y;cases Y with
  |nil=>rw[.of_eq<|bQ g]
  |cons y Y=>rw[wM.trans<|.cons y C]
def aR.fin(m:N)(g:aR):aR:={g with L:=(ot m [] g.Y).1++g.L,Y:=(ot m [] g.Y).2}
def av.fin(m:N)(o:av):av:=o.rec (λr z=>.ok r<|z.fin m) (λZ z=>.again Z<|z.fin m) (λb t Z z j U=>.call b t Z (z.fin m) j) (λb t D z j U=>.gz b t D (z.fin m) j) (λa U f=>.need a f) .bad
def fG(P:PP)(m:N):!PH->!(N×N×N)->av->av
 |[],_,Y=>Y.fin m
 |p::l,aK,Y=>match aK with
  |[]=>.bad
  |v::aK=>Y.rec (λU U=>.bad) (λU U=>.bad) (λb t Z z j U=>.need (.Eg<|P b t Z (pk z.L p.os) p.R)<|mJ (mF<|(p.is++p.hs)++p.os)<|fG P m l aK<|j (p.R v.2.2)<|cf (ot p.mv (pk z.L p.is)<|xS p.w (pk z.L p.hs) z.Y).1 v.1 v.2.1 p.h p.gv z.O (ot p.mv (pk z.L p.is)<|xS p.w (pk z.L p.hs) z.Y).2) (λU U U U U U=>.bad) (λa U f=>.need a f) .bad
def uB:N->(!(N×N×N)->Prop)->Prop
 |0,c=>c []
 |j+1,c=>∀n D S,uB j λl=>c ((n,D,S)::l)
def kE(x:Wd)(F:Fs):PP:=λb t Z m d=>∀w c B s A,Le F c->fL b t A->bg x (fz c m) w B s->fi (aE pw x.W) A Z (λr P=>∃T S,Le (fz c m) T/\bg x T w B P/\r=d S) s
section
variable{x:Wd} {G:Mk} {b:N} {c:bj} {F F0:Fs} {Y:ao} {Q:Po} {D:aN} {A:dX} {R:aL->aN->Prop}
def Zg(h:∀p∈L,F p.1 p.2):gB F L:=by
 induction L with
 |nil=>trivial
 |cons p l C=>rw[#[h p<|.head _,C λq E=>h q<|.tail _ E]]
def OZ:∀{aK},iI x.W D A R (fG P m (p::l) aK<|.need a o) F->a.ok/\iI x.W D A R (fG P m (p::l) aK o) F:=by
 intro J;cases J with
 |nil=>intro U;rw[U.elim]
 |cons _ _=>intro U;rw[U]
def aor(e:∀f,o.rec (motive:=λ_=>av) (λ_ _=>.bad) (λ_ _=>.bad) f (λ_ _ _ _ _ _=>.bad) (λa _ f=>.need a f) .bad=.bad):∀{aK},iI x.W D A R (fG P m (p::l) aK o) F->False:=by
 intro J;cases J with
 |nil=>intro U;rw[U]
 |cons v aK=>intro U;have S:iI x.W D A R (o.rec _ _ _ _ _ _) F:=U;rw[e]at S;rw[S]
def OM{z:Bool}(h:iI x.W D A R (mJ z o) F):z=true/\iI x.W D A R o F:=by
 cases z with
 |false=>rw[h.elim]
 |true=>rw[#[rfl,h]]
def uB.get:∀{k:N} {P:!(N×N×N)->Prop},uB k P->∀aK,aK.length=k->P aK
 |0,_,U,[],_=>U
 |k+1,_,U,v::aK,e=>uB.get (U v.1 v.2.1 v.2.2) aK<|qC e
def Ea:pk L (l++m)=pk L l++pk L m:=by
 induction l with
 |nil=>rfl
 |cons i l C=>
  show(match gP L i with|some p=>p::pk L (l++m)|none=>pk L<|l++m)=(match gP L i with|some p=>p::pk L l|none=>pk L l)++pk L m;cases gP L i with
  |none=>rw[C]
  |some p=>rw[congrArg _ C]
def yL(E:bF F D g s):bF F D (g.fin m) s:=by
 have e:(ot m [] g.Y).1++(ot m [] g.Y).2=g.Y:=MV;have c:=λ{p}=>(iff_of_eq<|congrArg (p∈·) e.symm).trans ek;have d:=rB<|e▸E.hy.nd;rw[⟨E.fr,λp U=>(ek.mp U).elim (λU=>E.hy.led p<|c.mpr<|.inl U)<|E.led p,?_,λp U=>(ek.mp U).elim (λU=>E.hy.dj p<|c.mpr<|.inl U)<|E.dj p,E.sz,E.tk,E.rest,E.ro,⟨λp U=>E.hy.led p<|c.mpr<|.inr U,λp U H=>?_,d.2.1,λp U=>E.hy.dj p<|c.mpr<|.inr U⟩⟩]
 .show(qr _<|_++_).Nodup
  rw[bf,j3];rw[⟨d.1,E.nd,λa o b j e=>(aJ (bn.mp o) λq u O=>E.hy.off q (c.mpr<|.inl u)<|O.trans e▸j)⟩]
 .rw[aJ (bn.mp H) λq u O=>(ek.mp u).elim (λu=>d.2.2 q u p U O) λu=>E.hy.off p (c.mpr<|.inr U)<|O▸bw u]
def Zh(h:iI x.W D A R (o.fin m) F):iI x.W D A R o F:=by
 induction o with
 |ok r z=>exactλs E=>h s<|yL E
 |again Z z=>rw[#[h.1,λs E=>h.2 s<|yL E]]
 |call b t Z z j=>exactλs n E C=>h s n (yL E) C
 |gz b t Z z j=>exactλs n E C=>h s n (yL E) C
 |need a o c=>rw[#[h.1,c h.2]]
 |bad=>rw[h]
def aos:∀{o F},jW (T x.P) F->Le F0 F->(∀c,Le F c->∀aK,aK.length=l.length->iI x.W D A R (fG (kE x F0) m l aK o) c)->iI x.W D A R o F:=by
 have M:∀j:N,(wN j (0,0,0)).length=j:=λj=>List.length_replicate;induction l with
 |nil=>exactλ_ _ U=>Zh<|U _ (aV) [] rfl
 |cons p l I=>
  intro o;induction o with
  |ok|again|gz|bad=>exactλ_ _ U=>(aor (λ_=>rfl)<|U _ (aV) _<|M _).elim
  |need a o g=>exactλf W U=>#[(OZ<|U _ (aV) _<|M _).1,g f W λc i aK e=>(OZ<|U c i aK e).2]
  |call b t Z z j=>
   intro F f W U s n E C;have L:=U _ (aV) _<|M _;have H:bg x (fz F<|pk z.L p.os) (pk z.L (p.is++p.hs)++z.Y) D s:=.back f E (Ea▸Pc E.nd ((OM L.2).1)) λq u=>by rw[aJ (Eb q<|(Ea).symm▸u) λ_ _ e=>mG e]
   rw[gN (L.1 _ _ D s n W C H) λr P y=>cp y λk S Q B e=>?_];have d:Le F k:=λa o U=>Q a o<|.inl U;subst e;rw[Ea,b4]at B;have G:=B.perm<|List.Perm.append_left _<|abl (w:=p.w);rw[<-MV]at G;rw[#[k,d,_,G.run (h:=p.h) (gv:=p.gv)<|Zg λq u=>d _ _<|E.ro q u,I G.base (dR W d) λc i aK e=>((OM (U c (dR d i) ((_,_,S)::aK)<|congrArg (·+1) e).2).2)]]
def hG(k)(g:∀c,Le F c->uB k λaK=>Go x G b F0 Q c Y λZ=>fG (kE x F) m l aK<|o Z)(hk:l.length=k:=by rfl):Go x G b F0 Q F Y o:=λw B A C f=>aos f (aV) λc u aK e=>(g c u).get aK (e.trans hk) w B A C<|f.mono u
def Pt{R:N->aL}(g:∀F,ay x G b c F [] Qc)(k:∀F' r L',Qc F' r L'->L'=[]/\∃u,r=R u):kE x F b G c [] R:=λw a B s A U C H=>
 u_ (jE (g _ w B s A C H) λr P y=>cp y λF' L' l W q=>by rw[ct (k F' r L' q) λe h=>dq h λu O=>?_];subst e;rw[bY F' u l W O])
end
section
variable{J:Type} {o:Option J->Wd->ao->av} {H:!N} {e:Option J->Wd->ao->kA} {L1 L2:Option J->Wd->ao->ao} {K:Option J->Wd->ao->!(Bool×Bool)} {ps:Option J->Wd->ao->!Prop}
def gf(L:xh (o none) H=AL (o none) H (e none) (L1 none) (L2 none) (K none) (ps none):=by lk)(a:(λp=>xh (o<|some p) H)=λp=>AL (o<|some p) H (e<|some p) (L1<|some p) (L2<|some p) (K<|some p) (ps<|some p):=by lk):∀q x Y,Ev (o q x Y) Y H (e q x Y) (L1 q x Y) (L2 q x Y) (K q x Y)<|ps q x Y
 |none=>bB L
 |some p=>bB<|congrFun a p
end
abbrev fF(q:Option (N×af))(t:N):N:=q.rec t λp=>p.1
abbrev pS(s:!N):N->aL:=λS=>.ok<|.ret<|ah s S
abbrev pN(k:N):N->aL:=λS=>.ok<|.ret<|iN k S
abbrev pB(s:!UInt8):N->aL:=λS=>.ok<|.ret<|.bytes #[s] S
def ay.Ps{x:Wd}{F:Fs}{b p:N}{t:Mk}{c:bj}{s:!N}(g:∀F,ay x t b c F []<|QS s)(h:b<=p):kE x F p t c [] (pS s):=Pt (λF=>(g F).le h λU U U U h=>h) λU U U q=>q.casesOn λS=>#[rfl,S,rfl]
def ay.Ei{x:Wd}{F:Fs}{b p:N}{t:Mk}{c:bj}{s:!UInt8}(g:∀F,ay x t b c F []<|QB s)(h:b<=p):kE x F p t c [] (pB s):=Pt (λF=>(g F).le h λU U U U h=>h) λU U U q=>q.casesOn λS=>#[rfl,S,rfl]
def rS{L W Y O:ao}{gv:N->N->!af}(u:gB F O)(k:∀n t,Go x G b F Q F Y λZ=>ex x G b (.code c)<|cf L n t h (gv n t) O<|W++Z):ay x G b c F (L++(W++Y)) Q:=λw B s A C H=>by simp only[b4,b4]at H;have z:=k s.heap.objs.size s.toks w B A C H.base;dsimp only at z;simp only[xD]at z;rw[yT (λF=>xU _ F _) 100000 H.base b G (.code c) _ A c _ s z (H.run u) C]
def ay.rs{x:Wd}{t:Mk}{b it k n:N}{c:bj}{F:Fs}{Q:Po}{L1 L2:ao}(g:ay x t b c F (L1++(it,PD (ad<|k+1)<|ad n)::L2) Q):ay x t b c F (L1++(it,PD (ad k+1)<|ad (n+1)-1)::L2) Q:=(Int.add_sub_cancel n 1)▸g
def iW{gv:N->N->!af}(u:gB F O)(k:∀n t,Go x G U F Q F [] λZ=>ex x G U (.code c)<|cf L n t h (gv n t) O Z):ay x G U c F L Q:=λw B s A C H=>by have z:=k s.heap.objs.size s.toks w B A C H.base;dsimp only at z;simp only[xD]at z;rw[yT (λF=>xU _ F _) 100000 H.base U G (.code c) _ A c _ s z (H.run u) C]
def EX{t:Type}(f:N->t):N->!t
 |0=>[]
 |n+1=>f n::EX f n
def y7{t:Type}{f g:N->t}(h:EX f n=EX g n):∀i,i<n->f i=g i:=by
 intro i m;induction n with
 |zero=>rw[absurd m<|qB i]
 |succ n C=>rw[(Tm.mp m).elim (C (SQ h).2) λe=>e▸(SQ h).1]
section
variable{D G:Type} {f g:!D->G}
abbrev Rj(f:!D->G):(G×(D->G)×(D->D->G)×(D->D->D->G)×(D->D->D->D->G))×(D->D->D->D->D->G)×(D->D->D->D->D->D->G)×(D->D->D->D->D->D->D->G)×(D->D->D->D->D->D->D->D->G)×(D->D->D->D->D->D->D->D->D->G):=((f [],λa=>f [a],λa b=>f [a,b],λa b Z=>f [a,b,Z],λa b Z d=>f [a,b,Z,d]),λa b Z d e=>f [a,b,Z,d,e],λa b Z d e i=>f [a,b,Z,d,e,i],λa b Z d e i K=>f [a,b,Z,d,e,i,K],λa b Z d e i K j=>f [a,b,Z,d,e,i,K,j],λa b Z d e i K j l=>f [a,b,Z,d,e,i,K,j,l])
def wj(h:Rj f=Rj g):∀vs,vs.length<10->f vs=g vs
 |[],_=>congrArg (·.1.1) h
 |[a],_=>congrFun (congrArg (·.1.2.1) h) a
 |[a,b],_=>congrFun (congrFun (congrArg (·.1.2.2.1) h) a) b
 |[a,b,Z],_=>congrFun (congrFun (congrFun (congrArg (·.1.2.2.2.1) h) a) b) Z
 |[a,b,Z,d],_=>congrFun (congrFun (congrFun (congrFun (congrArg (·.1.2.2.2.2) h) a) b) Z) d
 |[a,b,Z,d,e],_=>congrFun (congrFun (congrFun (congrFun (congrFun (congrArg (·.2.1) h) a) b) Z) d) e
 |[a,b,Z,d,e,i],_=>congrFun (congrFun (congrFun (congrFun (congrFun (congrFun (congrArg (·.2.2.1) h) a) b) Z) d) e) i
 |[a,b,Z,d,e,i,K],_=>congrFun (congrFun (congrFun (congrFun (congrFun (congrFun (congrFun (congrArg (·.2.2.2.1) h) a) b) Z) d) e) i) K
 |[a,b,Z,d,e,i,K,j],_=>congrFun (congrFun (congrFun (congrFun (congrFun (congrFun (congrFun (congrFun (congrArg (·.2.2.2.2.1) h) a) b) Z) d) e) i) K) j
 |[a,b,Z,d,e,i,K,j,l],_=>congrFun (congrFun (congrFun (congrFun (congrFun (congrFun (congrFun (congrFun (congrFun (congrArg (·.2.2.2.2.2) h) a) b) Z) d) e) i) K) j) l
 |_::_::_::_::_::_::_::_::_::_::l,h=>absurd h<|l_.mpr<|uN 10 l.length
end
def aqP(s:bL):!bL:=match s with
 |.For _ _ b Y _=>b++Y
 |.While _ b Y _=>b++Y
 |.If _ b Y _=>b++Y
 |.Try b o Y _ _=>b++(o.flatMap λU=>match U with|.ExceptHandler _ _ b _=>b)++Y
 |_=>[]
def lW:N->!bL->!bL
 |0,_=>[]
 |_+1,[]=>[]
 |n+1,s::r=>s::(lW n (aqP s)++lW n r)
def BC(s:bL):!PySem.Expr:=match s with
 |.For _ i _ _ _=>[i]
 |.While D _ _ _=>[D]
 |.If D _ _ _=>[D]
 |.Assign _ v _=>[v]
 |.AugAssign _ _ v _=>[v]
 |.Return (some v) _=>[v]
 |.Expr v _=>[v]
 |_=>[]
def aqO(e:PySem.Expr):!PySem.Expr:=match e with
 |.ListComp D d _ _=>D::d.flatMap λz=>z.iter::z.ifs
 |.Call f J _ _=>f::J
 |.BinOp l _ r _=>[l,r]
 |.UnaryOp _ x _=>[x]
 |.BoolOp _ Q _=>Q
 |.Compare l _ Q _=>l::Q
 |.Subscript v i _=>[v,i]
 |.Attribute v _ _=>[v]
 |.Starred v _=>[v]
 |.List Q _=>Q
 |.Tuple Q _ _=>Q
 |.IfExp a b Z _=>[a,b,Z]
 |_=>[]
def u4:N->!PySem.Expr->!PySem.Expr
 |0,_=>[]
 |_+1,[]=>[]
 |n+1,e::r=>(match e with|.ListComp .. =>[e]|_=>[])++(u4 n (aqO e)++u4 n r)
def yt:!PySem.Expr->N->PySem.Expr
 |[],_=>.Constant .none 0 default
 |s::_,0=>s
 |_::l,i+1=>yt l i
def cM(d:bL)(i:N)(O:aX):bj:=whl (vJ (lW 100<|fB d) i) O
def bM(d:bL)(i:N)(it:af)(O:aX):bj:=match vJ (lW 100<|fB d) i with
 |.For D _ b Y _=>.forLoop D it b Y O
 |_=>default
def xE:!(aA×uM)->N->!(aA×aH)->!(aA×aH)
 |[],_,m=>m
 |(n,j)::r,a,m=>match j with
  |.cell=>xE r (a+1) ((n,a)::m)
  |_=>xE r a m
def LE(n:aA):!(aA×aH)->N
 |[]=>0
 |(E,a)::r=>match PySem.W.Fast.sEq E n with
  |true=>a
  |false=>LE n r
def Jz(n:aA):!(aA×uM)->Bool
 |[]=>false
 |(E,j)::r=>match PySem.W.Fast.sEq E n with
  |true=>(match j with|.cell=>true|_=>false)
  |false=>Jz n r
def AO(cs:!(aA×aH)):!(aA×uM)->!(aA×aH)->!(aA×aH)
 |[],m=>m
 |(n,j)::r,m=>match j with
  |.free=>AO cs r ((n,LE n cs)::m)
  |_=>AO cs r m
def an1(ns:!(aA×uM))(p:aA×uM):aA×uM:=match p.2 with
 |.free=>(match Jz p.1 ns with|true=>(p.1,.cell)|false=>p)
 |_=>p
def kL(d:bL)(q:aA)(a cd L:N):aX:={scope:=fS d,locals:=L,globals:=3,cells:=xE (fS d).names (L+1) [],qual:=q++".<locals>.",func:=some a,code:=.ref cd,frame:=some L,builtins:=0}
def UU(e:PySem.Expr)(O:aX)(L:N):aX:=match e with
 |.ListComp _ _ a _=>{scope:={a with names:=a.names.map<|an1 O.scope.names},locals:=L,globals:=3,cells:=xE a.names (L+1)<|AO O.cells a.names [],qual:=O.qual,func:=none,code:=O.code,frame:=O.frame,builtins:=O.builtins}
 |_=>O
def U9(d:bL)(k:N):PySem.Expr:=yt (u4 100<|(lW 100<|fB d).flatMap BC) k
def fR(d:bL)(k:N)(O:aX)(L:N):aX:=UU (U9 d k) O L
def fT(d:bL)(k:N)(it m:af)(O:aX):bj:=.compLoop (yt (u4 100<|(lW 100<|fB d).flatMap BC) k) 0 it m O
def jd(d:bL)(k:N)(it m:af)(O:aX):bj:=.compStart (yt (u4 100<|(lW 100<|fB d).flatMap BC) k) 0 it m O
abbrev mn:bL:=(st 3)
abbrev nW(L:N):aX:=kL mn qZ 46 45 L
abbrev iD:bL:=(gj (st 9) 3)
abbrev jf(L:N):aX:=kL iD Ci 117 116 L
abbrev nT:bL:=(gj (st 9) 4)
abbrev py(L:N):aX:=kL nT Ck 124 123 L
abbrev fy:bL:=(gj (st 9) 7)
abbrev fV(L:N):aX:=kL fy Co 145 144 L
abbrev e_:bL:=(gj (st 9) 8)
abbrev cG(L:N):aX:=kL e_ Cq 152 151 L
abbrev Hv:bL:=(gj (st 27) 6)
abbrev XU(L:N):aX:=kL Hv Cx 817 816 L
abbrev mq:bL:=(st 30)
abbrev nX(L:N):aX:=kL mq q6 867 866 L
abbrev mr:bL:=(st 33)
abbrev xu(L:N):aX:=kL mr q7 886 885 L
abbrev Hw:bL:=(st 34)
abbrev XV(L:N):aX:=kL Hw q8 893 892 L
abbrev b_:bL:=(st 36)
abbrev cn(L:N):aX:=kL b_ q9 903 902 L
abbrev lr:bL:=(st 37)
abbrev xv(L:N):aX:=kL lr q_ 908 907 L
abbrev u5:bL:=(st 38)
abbrev iE(L:N):aX:=kL u5 tV 913 912 L
abbrev ez:aA:=#[#[[95]]]
abbrev vX:aA:=#[#[[97]]]
abbrev eO:aA:=sK 0x62617365
abbrev vZ:aA:=sK 0x6361727279
abbrev cg:aA:=sK 0x63656c6c73
abbrev yU:aA:=sK 0x6379636c65
abbrev jp:aA:=sK 0x647261776e
abbrev Qa:aA:=sK 0x657363617065647374617465
abbrev fq:aA:=sK 0x6578747261
abbrev kR:aA:=#[#[[105]]]
abbrev ED:aA:=sK 0x696e66696c65
abbrev EE:aA:=sK 0x696e73747265616d
abbrev lQ:aA:=sK 0x6974737461636b
abbrev v_:aA:=sK 0x6c657474657273
abbrev EF:aA:=sK 0x6c65786572
abbrev aqf:aA:=sK 0x6c696e656e6f
abbrev cu:aA:=sK 0x6e3269
abbrev d7:aA:=sK 0x6e616d65
abbrev aqg:aA:=sK 0x6e65787463686172
abbrev bX:aA:=sK 0x6e6f6465
abbrev lR:aA:=sK 0x6e6f646532737461636b69
abbrev eF:aA:=sK 0x6e6f6465696e666f
abbrev eW:aA:=sK 0x6e6f646573
abbrev yV:aA:=sK 0x6e756d626572
abbrev jP:aA:=sK 0x70616765
abbrev EG:aA:=sK 0x706f736978
abbrev ur:aA:=sK 0x70726564
abbrev Qj:aA:=sK 0x707265645f696e666f
abbrev kT:aA:=sK 0x7072656465636573736f7273
abbrev Qk:aA:=sK 0x70756e6374756174696f6e5f6368617273
abbrev Ql:aA:=sK 0x71756f746564
abbrev eA:aA:=sK 0x7265616479
abbrev mQ:aA:=sK 0x726573756c74
abbrev cE:aA:=sK 0x726f756e6473
abbrev bD:aA:=sK 0x726f77
abbrev bV:aA:=sK 0x726f7773
abbrev ix:aA:=sK 0x736372697074
abbrev lT:aA:=sK 0x7365656e
abbrev bx:aA:=sK 0x73656c66
abbrev b6:aA:=sK 0x736f72746572
abbrev lU:aA:=sK 0x737461636b
abbrev fH:aA:=sK 0x73746174
abbrev jq:aA:=sK 0x737563636573736f72
abbrev jr:aA:=sK 0x737563636573736f725f696e666f
abbrev Qm:aA:=#[#[[116]]]
abbrev EH:aA:=sK 0x746f6b656e
abbrev Qn:aA:=sK 0x746f74616c
abbrev kU:aA:=sK 0x74726565
abbrev mR:aA:=sK 0x77616974
abbrev cK:aA:=sK 0x77686f6c65
abbrev kW:aA:=sK 0x776f7264
abbrev rK:aA:=sK 0x776f726473
abbrev wa:aA:=#[#[[120]]]
abbrev wc:!N:=[97,98,99,100,102,101,103,104,105,106,107,108,109,110,111,112,113,114,115,116,117,118,119,120,121,122,65,66,67,68,69,70,71,72,73,74,75,76,77,78,79,80,81,82,83,84,85,86,87,88,89,90,48,49,50,51,52,53,54,55,56,57,95,223,224,225,226,227,228,229,230,231,232,233,234,235,236,237,238,239,240,241,242,243,244,245,246,248,249,250,251,252,253,254,255,192,193,194,195,196,197,198,199,200,201,202,203,204,205,206,207,208,209,210,211,212,213,214,216,217,218,219,220,221,222,126,45,46,47,42,63,61]
abbrev iT:aA:=#[#[wc]]
abbrev aqd:aA:=#[#[[95,83,116,114,105,110,103,73,79,95,95,110,101,119,108,105,110,101]]]
abbrev aqc:aA:=#[#[[95,83,116,114,105,110,103,73,79,95,95,98,117,102]]]
abbrev aqe:aA:=#[#[[95,83,116,114,105,110,103,73,79,95,95,112,111,115]]]
abbrev ap9:aA:=#[#[[101,111,102]]]
abbrev ap7:aA:=#[#[[99,111,109,109,101,110,116,101,114,115]]]
abbrev aqn:aA:=#[#[[119,111,114,100,99,104,97,114,115]]]
abbrev aql:aA:=#[#[[119,104,105,116,101,115,112,97,99,101]]]
abbrev aqm:aA:=#[#[[119,104,105,116,101,115,112,97,99,101,95,115,112,108,105,116]]]
abbrev aqi:aA:=#[#[[113,117,111,116,101,115]]]
abbrev ap_:aA:=#[#[[101,115,99,97,112,101]]]
abbrev aqa:aA:=#[#[[101,115,99,97,112,101,100,113,117,111,116,101,115]]]
abbrev aqk:aA:=#[#[[115,116,97,116,101]]]
abbrev aqh:aA:=#[#[[112,117,115,104,98,97,99,107]]]
abbrev ap8:aA:=#[#[[100,101,98,117,103]]]
abbrev aqb:aA:=#[#[[102,105,108,101,115,116,97,99,107]]]
abbrev aqj:aA:=#[#[[115,111,117,114,99,101]]]
abbrev ap5:aA:=#[#[[95,112,117,110,99,116,117,97,116,105,111,110,95,99,104,97,114,115]]]
abbrev ap6:aA:=#[#[[95,112,117,115,104,98,97,99,107,95,99,104,97,114,115]]]
abbrev EI:aA:=#[#[[59]]]
abbrev wb:aA:=#[#[[32]]]
abbrev Qo:aA:=#[#[[99]]]
def qU(P:eI)(t1 G E Z tp p:N)(l:!N):Obj:=ak [V P aqd t1<|.str Ct 865,V P aqc G<|.str #[#[l]] Z,V P aqe E<|.int (ad p) tp] 3
def cw(d:N):Obj:=#[.ref 714,some d,.plain,#[[]]]
def rM(P:eI)(z tk s:N)(st b a:af):Obj:=ak [V P EE (tk+35)<|.ref<|z+8,V P ED (tk+37)<|.none,V P EG (tk+39)<|.bool true,V P ap9 (tk+41)<|.none,V P ap7 (tk+44)<|.str #[#[[35]]]<|tk+42,V P aqn (tk+47)<|.str #[#[wc]] s,V P aql (tk+56)<|.str #[#[[32,9,13,10]]]<|tk+54,V P aqm (tk+58)<|.bool false,V P aqi (tk+61)<|.str #[#[[39,34]]]<|tk+59,V P ap_ (tk+64)<|.str #[#[[92]]]<|tk+62,V P aqa (tk+67)<|.str #[#[[34]]]<|tk+65,V P aqk (tk+70)<|st,V P aqh (tk+72)<|.ref<|z+11,V P aqf (tk+75)<|a,V P ap8 (tk+78)<|.int 0<|tk+76,V P EH (tk+81)<|b,V P aqb (tk+83)<|.ref<|z+12,V P aqj (tk+85)<|.none,V P ap5 (tk+89)<|.str #[#[[59]]]<|tk+1,V P ap6 (tk+93)<|.ref<|z+13] 20
def cT(z:N):Obj:=#[.ref 849,some<|z+1,.plain,#[[]]]
def aP(n:Int)(xs:!af):Obj:=#[.type "collections.deque",none,.fields #[[.none,.int n 0]++xs],#[[]]]
structure Lc where
 z:N
 tk:N
 tw:N
 i1:N
 i2:N
 i3:N
 tb:N
 l:!N
abbrev Lc.io(C:Lc)(P:eI)(tp p:N):Obj:=qU P C.i1 C.i2 C.i3 C.tb tp p C.l
abbrev Lc.sh(C:Lc)(P:eI)(st b a:af):Obj:=rM P C.z C.tk C.tw st b a
abbrev eX(L:N):bj:=cM Hv 2<|XU L
abbrev ik(P:eI)(z:N)(u:N->N)(S j:N)(q:Bool):Obj:=az [V P bx (u 0)<|.ref<|z+2,V P Ql (u 1)<|.bool q,V P Qa (u 2)<|.str #[#[[j]]] S] 3
abbrev bU(P:eI)(z:N)(u:N->N)(M S j:N)(q:Bool)(v:af):Obj:=az [V P bx (u 0)<|.ref<|z+2,V P Ql (u 1)<|.bool q,V P Qa (u 2)<|.str #[#[[j]]] S,V P aqg M v] 4
abbrev mU(L:N):bj:=cM Hw 3<|XV L
abbrev im(P:eI)(l:!N)(z o:N)(f Z t b S:N)(v:af):Obj:=az [V P jP f<|.str #[#[l]] Z,V P EF t<|.ref<|z+2,V P bV b<|.ref o,V P EH S v] 4
def uf(a b c:N):N->N
 |0=>a
 |1=>b
 |_=>c
abbrev b8(c t:N):af:=.str #[#[[c]]] t
def fZ(L:m≠0)(h:n%m=r):cj (ad n) (ad m) (ad r):=by refine#[by simpa using L,?_];simp only[qn];rw[SE _<|jy _,];rw[congrArg ad h]
def aoO(x m)(H:m<2^64):uD x (ad m)=false:=by
 rw[PyProof.noPylong_of_log2 ?_];by_cases U:m=0
 .subst U;decide
 .have:=(Nat.log2_lt U).mpr H
  rw[ajY this]
def mL(L:m≠0)(H:m<2^64)(h:n/m=r):gm (ad n) (ad m) (ad r):=by refine#[by simpa using L,aoO _ m H,?_];simp only[qn];rw[SC _<|jy _,];rw[congrArg ad h]
def jk(a:l≠[])(M:m≠[])(h:l.length+m.length<=16777216):fO #[#[l]] #[#[m]]:=by
 rw[#[?_,?_,h]]
 .show l.length≠0
  simpa using a
 .show m.length≠0
  simpa using M
def yz(h:l[k]? =some c)(hk:k<2^63):iZ #[#[l]] (ad k) #[#[[c]]]:=by rw[#[jy k,jz.mpr hk,c,?_,rfl]];simpa using h
def Qv(a b n)(j:b<=n)(c:a<=b):jX (some<|ad a) (some<|ad b) 1 n=(sq<|b-a).map (a+·):=by
 simp only[jX];have d:¬(ad a<0):=by simp
 have M:¬(ad b<0):=by simp
 simp only[d,M,if_false,xP<|bT c j,xP j,show 1>0 by decide,if_true];rw[Qz a b]
def Qx(a n)(o:a<=n):jX (some<|ad a) none 1 n=(sq<|n-a).map (a+·):=by
 simp only[jX];have b:¬(ad a<0):=by simp
 simp only[b,if_false,xP o,show 1>0 by decide,if_true];rw[Qz a n]
def Qy(k n:N)(hk:k<=n)(L:0<k):jX (some<|-(k:Int)) none 1 n=(sq k).map ((n-k)+·):=by simp only[jX];simp only[(Int.neg_neg_of_pos<|jz.mpr L:(-(k:Int)<0)),if_true,aa4 hk,show(1:Int)>0 by decide];simp only[Qz];congr 2;rw[ajZ hk L]
def EO(l a k):((sq k).map (a+·)).filterMap ((#[#[l]]:aA).cps[·]?)=(l.drop a).take k:=pick_run #[l] a k
def Pp(j:b<=l.length)(c:a<=b)(hz:l.length<=16777216)(O:b-a≠l.length):j5 #[#[l]] (some<|ad a) (some<|ad b) #[#[(l.drop a).take<|b-a]]:=by
 have e:(#[#[l]]:aA).length=l.length:=rfl;rw[#[?_,?_,?_]]
 .rw[e,Qv a b _ j c];simpa using O
 .unfold rN
  rw[e,Qv a b _ j c,EO]
 .rw[bT (FW _ _)<|S_▸bT (lm _ _) hz]
def Pq(o:a<=l.length)(L:0<a)(hz:l.length<=16777216):j5 #[#[l]] (some<|ad a) none #[#[l.drop a]]:=by
 have e:(#[#[l]]:aA).length=l.length:=rfl;rw[#[?_,?_,?_]]
 .rw[e,Qx a _ o];simp;rw[aj0 o L]
 .unfold rN
  rw[e,Qx a _ o,EO,qz<|by simp]
 .show(l.drop a).length<=16777216
  simp;rw[aj1 L hz]
def aoI{k:N}(hk:k<l.length)(L:0<k)(hz:l.length<=16777216):j5 #[#[l]] (some<|-(k:Int)) none #[#[l.drop<|l.length-k]]:=by
 have e:(#[#[l]]:aA).length=l.length:=rfl;rw[#[?_,?_,?_]]
 .rw[e,Qy k _ (Dm hk) L];simp;rw[aln hk]
 .unfold rN
  rw[e,Qy k _ (Dm hk) L,EO,qz (by simp;rw[aj2 hk])]
 .show(l.drop _).length<=16777216
  simp;rw[aj3 hz]
def gw(h:xs.toList[k]? =some v)(hk:k<2^63):d9 xs (ad k) v:=by rw[#[jy k,jz.mpr hk,?_]];simpa using h
def pF:pD (.type "list")=true:=by lk
def dM:mA (.type "dict")=true:=by lk
def ap(n:N):!UInt8:=if h:n=0 then[]else ap (n/16)++[pf<|65+n%16]
termination_by n
decreasing_by exact Dg h
def qN:ap 0=[]:=by rw[ap,];rfl
def sQ(h:n≠0):ap n=ap (n/16)++[pf<|65+n%16]:=by rw[ap,];rw[dif_neg h,]
def AG:∀(n),∀x∈ap n,65<=x.toNat/\x.toNat<=80:=by
 intro n;induction n using Tt with
 |_ n C=>
  intro x W;by_cases U:n=0
  .subst U;rw[qN]at W;cases W
  .rw[sQ U]at W
   rcases ek.mp W with W|W
   .rw[C (n/16) (Dg U) x W]
   .rcases iA.mp W with rfl
    have:n%16<16:=bq _ ζ;rw[TO,];rw[(GS this).symm▸#[oY 65 _,oV (wR this) 65]]
def qM:∀(k n),n<16^k->(ap n).length<=k:=by
 intro k;induction k with
 |zero=>
  intro n U;have:n=0:=by simpa using U
  subst this;rw[qN▸d8 _]
 |succ k C=>
  intro n U;by_cases L:n=0
  .subst L;rw[qN▸dm _]
  .rw[(sQ L)▸cv▸?_]
   have:=C (n/16)<|rv U;simp;rw[akL this]
def AH(h:n≠0):ap n≠[]:=by rw[sQ h,];simp
def d_(n:N):!N:=(ap n).map (·.toNat)
def nm(R hi:N):!N:=d_<|16*R+hi
def gQ(am:!N):N->N->!(N×N)->!(N×N×Option N)
 |0,_,_=>[]
 |_,_,[]=>[]
 |f+1,j,(R,m)::rest=>
  if 1<m-R then
   let E:=R+1+(am.getD (j%am.length) 0)%(m-R-1);(R,m,some E)::gQ am f (j+1) ((R,E)::(E,m)::rest)
  else(R,m,none)::gQ am f (j+1) rest
def Eu(h:1<hi-D):gQ am (f+1) k ((D,hi)::rest)=(D,hi,some<|D+1+(am.getD (k%am.length) 0)%(hi-D-1))::gQ am f (k+1) ((D,D+1+(am.getD (k%am.length) 0)%(hi-D-1))::(D+1+(am.getD (k%am.length) 0)%(hi-D-1),hi)::rest):=if_pos h
def PL(h:¬1<hi-D):gQ am (f+1) k ((D,hi)::rest)=(D,hi,none)::gQ am f (k+1) rest:=if_neg h
def cz(w:!N)(n:N):!N:=match n%4 with
 |1=>39::(w++[39])
 |2=>34::(w++[34])
 |3=>92::(w.take 1++39::(w.drop 1++[39]))
 |_=>w
def oh(am:!N)(d:!(N×N×Option N)):!(!N):=
 if am.sum%3=0 then[]else
  let a:=d.getD (am.sum/3%9) (0,1,none);let b:=d.getD (am.sum/27%9) (0,1,none);[nm a.1 a.2.1,nm b.1 b.2.1]
def fx(n:N):!N:=([65,65,65,65,65]++d_ (n%16^5)).drop (d_<|n%16^5).length
def gn(r:N×N×Option N):Prop:=r.1<r.2.1/\r.2.1<=5/\∀E,r.2.2=some E->r.1<E/\E<r.2.1
def fp(ws:!(!N)):N×N×Option N->!(!N)
 |(R,m,none)=>[nm R m,ws.map λx=>x.getD (4-R) 65]
 |(R,m,some E)=>[nm R m,nm E m,nm R E]
def iP{n:Type}(l:!n)(m:N)(x:n):!n:=l.take m++x::l.drop m
def hJ{n:Type}(am:!N):N->!n->!n->!n
 |_,[],m=>m
 |j,x::rest,m=>hJ am (j+1) rest<|iP m (am.getD (j%am.length) 0%(j+1)) x
def rD{n:Type}(am:!N)(j:!n):!n:=hJ am 0 j []
def gG(x:N):!N:=match x%4 with
 |0=>[59]
 |1=>[32,59,32]
 |2=>[59,10]
 |_=>[9,59]
def rO:!(!N)->N->!(!N)
 |[],_=>[]
 |a::r,q=>cz a q::rO r (q+1)
def qY:!(!N)->!N
 |[]=>[]
 |[a]=>a
 |a::r=>a++32::qY r
def dz(am:!N)(k:N):N:=am.getD (am.length-1-k%am.length) 0
def iS(am:!N)(k:N)(o:!(!N)):!N:=qY<|rO o<|dz am k/4
def fY(am:!N):N->!(List<|List N)->!N->!N
 |_,[],a=>a
 |j,o::rest,a=>fY am (j+1) rest<|a++(if j=0 then[]else gG (dz am j))++iS am j o
def p5(am:!N)(d:!(N×N×Option N))(S:!(!N)):!(List<|List N):=d.map (fp<|(am.take 3).map fx)++(if S=[]then[]else[S])
def pU(am:!N)(d:!(N×N×Option N))(S:!(!N)):!N:=fY am 0 (rD am<|p5 am d S) []
section
inductive PV where
 |none
 |bool (b:Bool)
 |int (i:Int)
 |str (l:!N)
 |nN (l:!UInt8)
 |tup (l:!PV)
 |lst (l:!PV)
mutual
def Rp(F:Fs):PV->af->Prop
 |.none,v=>v=.none
 |.bool b,v=>v=.bool b
 |.int i,v=>∃D,v=.int i D
 |.str l,v=>∃D,v=.str #[#[l]] D
 |.nN l,v=>∃D,v=.bytes #[l] D
 |.tup l,v=>∃a Q,v=.ref a/\F a (aD Q)/\aM F l Q
 |.lst l,v=>∃a Q n,v=.ref a/\F a (aa #[Q] n)/\aM F l Q
def aM(F:Fs):!PV->!af->Prop
 |[],g=>g=[]
 |x::l,g=>∃v E,g=v::E/\Rp F x v/\aM F l E
end
section
variable{F F':Fs} (T:Le F F')
include T
mutual
theorem Rp.to:∀{x:PV} {v:af},Rp F x v->Rp F' x v
 |.none,_,g=>g
 |.bool _,_,g=>g
 |.int _,_,g=>g
 |.str _,_,g=>g
 |.nN _,_,g=>g
 |.tup l,_,g=>by rw[cp g λa Q e b M=>bY a Q e (T _ _ b)<|aM.to M]
 |.lst l,_,g=>by rw[gX g λa Q n e b M=>gE a Q n e (T _ _ b)<|aM.to M]
theorem aM.to:∀{l:!PV} {vs:!af},aM F l vs->aM F' l vs
 |[],_,g=>g
 |x::l,_,g=>by rw[cp g λv E e a M=>bY v E e (Rp.to a)<|aM.to M]
end
end
section
variable{F:Fs}
def dT:Rp F (.int i) v↔∃t,v=.int i t:=qk
def c9:Rp F (.str l) v↔∃t,v=.str #[#[l]] t:=qk
def yO:Rp F (.nN l) v↔∃t,v=.bytes #[l] t:=qk
def yP:Rp F .none v↔v=.none:=qk
def jO:Rp F (.tup l) v↔∃a xs,v=.ref a/\F a (aD xs)/\aM F l xs:=qk
def dW:Rp F (.lst l) v↔∃a xs n,v=.ref a/\F a (aa #[xs] n)/\aM F l xs:=qk
def eu:aM F [] vs↔vs=[]:=qk
def cq:aM F (x::l) vs↔∃v ws,vs=v::ws/\Rp F x v/\aM F l ws:=qk
def aM.nil:aM F [] []:=eu.mpr rfl
def aM.cons{x:PV}{l:!PV}{v:af}{vs:!af}(h:Rp F x v)(h':aM F l vs):aM F (x::l) (v::vs):=cq.mpr<|bY v vs rfl h h'
def aM.length:∀{l:!PV} {vs:!af},aM F l vs->vs.length=l.length:=by
 intro J;induction J with
 |nil=>intro _ g;rw[(eu.mp g)▸?_];rfl
 |cons x l C=>intro _ g;rw[cp (cq.mp g) λv E P U M=>?_];subst P;rw[congrArg (·+1)<|C M]
def aM.append:∀{l m:!PV} {vs ws:!af},aM F l vs->aM F m ws->aM F (l++m) (vs++ws):=by
 intro J;induction J with
 |nil=>intro m _ ws g c;rw[(eu.mp g)▸c]
 |cons x l C=>intro m _ ws g c;rw[cp (cq.mp g) λv B P a M=>?_];subst P;rw[.cons a<|C M c]
def aM.push{l:!PV}{x:PV}{vs:!af}{v:af}(g:aM F l vs)(c:Rp F x v):aM F (l++[x]) (vs++[v]):=g.append<|.cons c .nil
def aM.get:∀{l:!PV} {vs:!af} (i:N) {x:PV},aM F l vs->l[i]? =some x->∃v,vs[i]? =some v/\Rp F x v
 |[],_,_,_,_,e=>nn e
 |y::l,_,0,x,H,e=>by rw[cp (cq.mp H) λv E P a U=>?_];subst P;cases e;rw[bA v rfl a]
 |y::l,_,i+1,x,H,e=>by rw[cp (cq.mp H) λv E P U M=>?_];subst P;rw[aM.get i M e]
end
def dG(l:!(!N)):PV:=.lst<|l.map .str
end
abbrev Qb:aA:=sK 0x5f6e6f646532696e666f
abbrev Qe:aA:=sK 0x5f72656164795f6e6f646573
abbrev Qh:aA:=sK 0x5f6e7061737365646f7574
abbrev Qi:aA:=sK 0x5f6e66696e6973686564
abbrev js(P:eI)(u:N->N)(nd:N)(rd:af)(po:Int)(tp:N)(nf:Int)(tf:N):Obj:=ak [V P Qb (u 0)<|.ref nd,V P Qe (u 1) rd,V P Qh (u 2)<|.int po tp,V P Qi (u 3)<|.int nf tf] 4
abbrev a9(d:N):Obj:=#[.ref 162,some d,.plain,#[[]]]
abbrev c8(d b:N)(s:Int)(tp:N)(v:af):Obj:=#[.ref 65,some d,.plain,#[[some v,some<|.int s tp,some<|.ref b]]]
section
variable(C:Lc) (tp p G sz tk D:N) (x:Wd) (Y:ao)
def apa:Ev (ex x aj 100 (.fn 660 #[[.ref<|C.z+8,.int 1 G],[]])<|cf [(C.z+7,C.io x.P tp p)] sz tk (H 0x4ce0) [] [(C.z+8,cw<|C.z+7)] Y) Y [0] (.res<|.ok<|.ret<|.str bN<|tk+18) [((C.1+7),C.io x.P tp p)] [] [((decide<|(C.l.length:Int)<=ad p),true)] [dJ #[#[C.8]]]:=by lk
def apc:Ev (ex x aj 100 (.fn 660 #[[.ref<|C.z+8,.int 1 G],[]])<|cf [(C.z+7,C.io x.P tp p)] sz tk (H 0xbe044144144144145ce0) [ah [D] 0] [(C.z+8,cw<|C.z+7)] Y) Y [0] (.res<|.ok<|.ret<|ah [D]<|tk+25) [((C.1+7),C.io x.P (tk+20)<|p+1)] [] [((decide<|ad p+1<(C.l.length:Int)),true),((decide<|(C.l.length:Int)<=ad p),false)] [j5 #[#[C.8]] (some<|ad p) (some<|ad p+1) #[#[[D]]],dJ #[#[C.8]]]:=by lk
def apb:Ev (ex x aj 100 (.fn 660 #[[.ref<|C.z+8,.int 1 G],[]])<|cf [(C.z+7,C.io x.P tp p)] sz tk (H 0xbe0154144145ce0) [ah [D] 0] [(C.z+8,cw<|C.z+7)] Y) Y [0] (.res<|.ok<|.ret<|ah [D]<|tk+23) [((C.1+7),C.io x.P (tk+16) C.l.length)] [] [((decide<|ad p+1<(C.l.length:Int)),false),((decide<|(C.l.length:Int)<=ad p),false)] [j5 #[#[C.8]] (some<|ad p) (some (C.l.length:Int)) #[#[[D]]],dJ #[#[C.8]]]:=by lk
end
section
variable(C:Lc) (L tp p U ch sz tk bb a8 D G us ca J c1 bl bo b0 bs c2 ck:N) (u:N->N) (K k:Int) (a6 st c0 v:af) (q:Bool) (bt:!N) (x:Wd) (Y a7:ao)
def Ok:av:=ex x aj 200 (.code<|eX L)<|cf [(C.z+7,C.io x.P tp p),(L,ik x.P C.z u U 32 false),(C.z+1,C.sh x.P (st) (.str bN ch) a6),(C.z+13,aP K [])] sz tk (H 0x940) [] [(C.z+2,cT C.z),(C.z+8,cw<|C.z+7)] Y
def rj(x:Wd)(C:Lc)(L:N):Ko:=(Ok C L 0 0 0 0 0 0 (λn=>n) 0 .none .none x []).resume
def PE:Ev (Ok C L tp p U ch sz tk u K a6 st x Y) Y [0,1,2,3] (.pend 199 aj (.call (.ref 660) #[[.ref<|C.1+8,.int (1)<|tk+9],[]])<|rj x C L) ([((C.1+7),C.io x.P tp p)]++[(L,ik x.P C.z u U 32 false),((C.1+1),C.sh x.P (st) (.str bN ch)<|a6),((C.1+13),aP (K) [])]) [] [] []:=by lk
def T8:Ev (rj x C L (.ok<|.ret<|ah [D] G)<|cf [(C.z+7,C.io x.P bb a8),(L,ik x.P C.z u U 32 false),(C.z+1,C.sh x.P (b8 32 us) (.str bN ch) a6),(C.z+13,aP K [])] ca J (H 0xe30e304f20e60) [.bool false,.bool false,.bool false,.bool true] [(C.z+2,cT C.z),(C.z+8,cw<|C.z+7)] a7) a7 [0,1,2,3] (.next<|eX L) [((C.1+7),C.io x.P bb a8),(L,bU x.P C.z u J U 32 false<|ah [D] G),((C.1+1),C.sh x.P (.str vX<|J+16) (ah [D] G)<|a6),((C.1+13),aP (K) [])] [] [(([D]==[10]),false)] [br iT #[#[[D]]] true,br #[#[[92]]] #[#[[D]]] false,br #[#[[35]]] #[#[[D]]] false,br #[#[[32,9,13,10]]] #[#[[D]]] false,dJ #[#[[D]]]]:=by lk
def T4:Ev (rj x C L (.ok<|.ret<|ah [D] G)<|cf [(C.z+7,C.io x.P bb a8),(L,ik x.P C.z u U 32 false),(C.z+1,C.sh x.P (b8 32 us) (.str bN ch) a6),(C.z+13,aP K [])] ca J (H 0xe3044e60) [.bool false,.bool false,.bool true] [(C.z+2,cT C.z),(C.z+8,cw<|C.z+7)] a7) a7 [0,1,2,3] (.next<|eX L) [((C.1+7),C.io x.P bb a8),(L,bU x.P C.z u J (J+13) 97 false<|ah [D] G),((C.1+1),C.sh x.P (ah [D] G) (.str bN ch)<|a6),((C.1+13),aP (K) [])] [] [(([D]==[10]),false)] [br #[#[[92]]] #[#[[D]]] true,br #[#[[35]]] #[#[[D]]] false,br #[#[[32,9,13,10]]] #[#[[D]]] false,dJ #[#[[D]]]]:=by lk
def T6:Ev (rj x C L (.ok<|.ret<|ah [D] G)<|cf [(C.z+7,C.io x.P bb a8),(L,ik x.P C.z u U 32 false),(C.z+1,C.sh x.P (b8 32 us) (.str bN ch) a6),(C.z+13,aP K [])] ca J (H 0xe30e3041900) [.bool false,.bool false,.bool false,.bool false,.bool true] [(C.z+2,cT C.z),(C.z+8,cw<|C.z+7)] a7) a7 [0,1,2,3] (.next<|eX L) [((C.1+7),C.io x.P bb a8),(L,bU x.P C.z u J U 32 false<|ah [D] G),((C.1+1),C.sh x.P (.str Qo<|J+19) (ah [D] G)<|a6),((C.1+13),aP (K) [])] [] [(([D]==[10]),false)] [br #[#[[59]]] #[#[[D]]] true,br iT #[#[[D]]] false,br #[#[[92]]] #[#[[D]]] false,br #[#[[35]]] #[#[[D]]] false,br #[#[[32,9,13,10]]] #[#[[D]]] false,dJ #[#[[D]]]]:=by lk
def T7:Ev (rj x C L (.ok<|.ret<|ah [D] G)<|cf [(C.z+7,C.io x.P bb a8),(L,ik x.P C.z u U 32 false),(C.z+1,C.sh x.P (b8 32 us) (.str bN ch) a6),(C.z+13,aP K [])] ca J (H 0xe3041ff0b60900) [.bool false,.bool false,.bool false,.bool false,.bool false,.bool true] [(C.z+2,cT C.z),(C.z+8,cw<|C.z+7)] a7) a7 [0,1,2,3] (.next<|eX L) [((C.1+7),C.io x.P bb a8),(L,bU x.P C.z u J U 32 false<|ah [D] G),((C.1+1),C.sh x.P (ah [D] G) (.str bN ch)<|a6),((C.1+13),aP (K) [])] [] [(([D]==[10]),false)] [br #[#[[39,34]]] #[#[[D]]] true,br #[#[[59]]] #[#[[D]]] false,br iT #[#[[D]]] false,br #[#[[92]]] #[#[[D]]] false,br #[#[[35]]] #[#[[D]]] false,br #[#[[32,9,13,10]]] #[#[[D]]] false,dJ #[#[[D]]]]:=by lk
def T5:Ev (rj x C L (.ok<|.ret<|ah [] G)<|cf [(C.z+7,C.io x.P bb a8),(L,ik x.P C.z u U 32 false),(C.z+1,C.sh x.P (.none) (.str bN ch) a6),(C.z+13,aP K [])] ca J (H 0xe301ff01ff01444) [] [(C.z+2,cT C.z),(C.z+8,cw<|C.z+7)] a7) a7 [0,1,2,3] (.res<|.ok .next) [((C.1+7),C.io x.P bb a8),(L,bU x.P C.z u J U 32 false<|.str bN G),((C.1+1),C.sh x.P .none (.str bN<|J+5)<|a6),((C.1+13),aP (K) [])] [] [] []:=by lk
def p_w:Ev (ex x aj 200 (.code<|eX L)<|cf [(C.z+7,C.io x.P tp p),(L,ik x.P C.z u U 32 false),(C.z+1,C.sh x.P (b8 32 c1) (.str bN ch) a6),(C.z+13,aP K [b8 D G])] sz tk (H 0xe30e304b601f90) [.bool false,.bool false,.bool false,.bool true] [(C.z+2,cT C.z),(C.z+8,cw<|C.z+7)] Y) Y [0,1,2,3] (.next<|eX L) [((C.1+7),C.io x.P tp p),(L,bU x.P C.z u (tk+9) U 32 false<|ah [D] G),((C.1+1),C.sh x.P (.str vX<|tk+25) (ah [D] G)<|a6),((C.1+13),aP (K+1) [])] [] [(([D]==[10]),false)] [br iT #[#[[D]]] true,br #[#[[92]]] #[#[[D]]] false,br #[#[[35]]] #[#[[D]]] false,br #[#[[32,9,13,10]]] #[#[[D]]] false]:=by lk
def p_e:Ev (ex x aj 200 (.code<|eX L)<|cf [(C.z+7,C.io x.P tp p),(L,ik x.P C.z u U 32 false),(C.z+1,C.sh x.P (b8 32 c1) (.str bN ch) a6),(C.z+13,aP K [b8 D G])] sz tk (H 0xe3044411f90) [.bool false,.bool false,.bool true] [(C.z+2,cT C.z),(C.z+8,cw<|C.z+7)] Y) Y [0,1,2,3] (.next<|eX L) [((C.1+7),C.io x.P tp p),(L,bU x.P C.z u (tk+9) (tk+22) 97 false<|ah [D] G),((C.1+1),C.sh x.P (ah [D] G) (.str bN ch)<|a6),((C.1+13),aP (K+1) [])] [] [(([D]==[10]),false)] [br #[#[[92]]] #[#[[D]]] true,br #[#[[35]]] #[#[[D]]] false,br #[#[[32,9,13,10]]] #[#[[D]]] false]:=by lk
def p_p:Ev (ex x aj 200 (.code<|eX L)<|cf [(C.z+7,C.io x.P tp p),(L,ik x.P C.z u U 32 false),(C.z+1,C.sh x.P (b8 32 c1) (.str bN ch) a6),(C.z+13,aP K [b8 D G])] sz tk (H 0xe30e3041a00b601f90) [.bool false,.bool false,.bool false,.bool false,.bool true] [(C.z+2,cT C.z),(C.z+8,cw<|C.z+7)] Y) Y [0,1,2,3] (.next<|eX L) [((C.1+7),C.io x.P tp p),(L,bU x.P C.z u (tk+9) U 32 false<|ah [D] G),((C.1+1),C.sh x.P (.str Qo<|tk+28) (ah [D] G)<|a6),((C.1+13),aP (K+1) [])] [] [(([D]==[10]),false)] [br #[#[[59]]] #[#[[D]]] true,br iT #[#[[D]]] false,br #[#[[92]]] #[#[[D]]] false,br #[#[[35]]] #[#[[D]]] false,br #[#[[32,9,13,10]]] #[#[[D]]] false]:=by lk
def p_q:Ev (ex x aj 200 (.code<|eX L)<|cf [(C.z+7,C.io x.P tp p),(L,ik x.P C.z u U 32 false),(C.z+1,C.sh x.P (b8 32 c1) (.str bN ch) a6),(C.z+13,aP K [b8 D G])] sz tk (H 0xe3041ff0b60a00b601f90) [.bool false,.bool false,.bool false,.bool false,.bool false,.bool true] [(C.z+2,cT C.z),(C.z+8,cw<|C.z+7)] Y) Y [0,1,2,3] (.next<|eX L) [((C.1+7),C.io x.P tp p),(L,bU x.P C.z u (tk+9) U 32 false<|ah [D] G),((C.1+1),C.sh x.P (ah [D] G) (.str bN ch)<|a6),((C.1+13),aP (K+1) [])] [] [(([D]==[10]),false)] [br #[#[[39,34]]] #[#[[D]]] true,br #[#[[59]]] #[#[[D]]] false,br iT #[#[[D]]] false,br #[#[[92]]] #[#[[D]]] false,br #[#[[35]]] #[#[[D]]] false,br #[#[[32,9,13,10]]] #[#[[D]]] false]:=by lk
def Ol:av:=ex x aj 200 (.code<|eX L)<|cf [(C.z+7,C.io x.P tp p),(L,bU x.P C.z u bl U bo q v),(C.z+1,C.sh x.P (st) c0 a6),(C.z+13,aP K [])] sz tk (H 0x940) [] [(C.z+2,cT C.z),(C.z+8,cw<|C.z+7)] Y
def jJ(x:Wd)(C:Lc)(L:N):Ko:=(Ol C L 0 0 0 0 0 0 0 (λn=>n) 0 .none .none .none .none false x []).resume
def PI:Ev (Ol C L tp p U sz tk bl bo u K a6 st c0 v q x Y) Y [0,1,2,3] (.pend 199 aj (.call (.ref 660) #[[.ref<|C.1+8,.int (1)<|tk+9],[]])<|jJ x C L) ([((C.1+7),C.io x.P tp p)]++[(L,bU x.P C.z u bl U bo (q)<|v),((C.1+1),C.sh x.P (st) (c0)<|a6),((C.1+13),aP (K) [])]) [] [] []:=by lk
def Up:Ev (jJ x C L (.ok<|.ret<|ah [D] G)<|cf [(C.z+7,C.io x.P bb a8),(L,bU x.P C.z u bl U bo q v),(C.z+1,C.sh x.P (b8 97 us) (ah (bs::bt) b0) a6),(C.z+13,aP K [])] ca J (H 0x9701104ff01b60b60ff0c90) [.bool false,.bool false,.bool false,.bool false,.bool false,.bool false,.bool true] [(C.z+2,cT C.z),(C.z+8,cw<|C.z+7)] a7) a7 [0,1,2,3] (.next<|eX L) [((C.1+7),C.io x.P bb a8),(L,bU x.P C.z u bl U bo (q)<|ah [D] G),((C.1+1),C.sh x.P (.str vX us) (ah (bs::bt++[D])<|J+26)<|a6),((C.1+13),aP (K) [])] [] [(([D]==[10]),false)] [fO #[#[(bs::bt)]] #[#[[D]]],br iT #[#[[D]]] true,br #[#[[92]]] #[#[[D]]] false,br #[#[[39,34]]] #[#[[D]]] false,br #[#[[35]]] #[#[[D]]] false,br #[#[[32,9,13,10]]] #[#[[D]]] false,dJ #[#[[D]]],mc (aI nG)<|ar [ah [97]<|J+12,ah [99]<|J+13],br #[#[[92]]] #[#[[97]]] false,br #[#[[39,34]]] #[#[[97]]] false]:=by lk
def Uo:Ev (jJ x C L (.ok<|.ret<|ah [D] G)<|cf [(C.z+7,C.io x.P bb a8),(L,bU x.P C.z u bl U bo q v),(C.z+1,C.sh x.P (b8 97 us) (ah (bs::bt) b0) a6),(C.z+13,aP K [])] ca J (H 0xbb05444) [.bool false,.bool false,.bool true] [(C.z+2,cT C.z),(C.z+8,cw<|C.z+7)] a7) a7 [0,1,2,3] (.res<|.ok .next) [((C.1+7),C.io x.P bb a8),(L,bU x.P C.z u bl U bo (q)<|ah [D] G),((C.1+1),C.sh x.P (.str wb<|J+19) (ah (bs::bt) b0)<|a6),((C.1+13),aP (K) [])] [] [(([D]==[10]),false)] [dJ #[#[(bs::bt)]],br #[#[[32,9,13,10]]] #[#[[D]]] true,dJ #[#[[D]]],mc (aI nG)<|ar [ah [97]<|J+12,ah [99]<|J+13],br #[#[[92]]] #[#[[97]]] false,br #[#[[39,34]]] #[#[[97]]] false]:=by lk
def Um:Ev (jJ x C L (.ok<|.ret<|ah [D] G)<|cf [(C.z+7,C.io x.P bb a8),(L,bU x.P C.z u bl U bo q v),(C.z+1,C.sh x.P (b8 97 us) (ah (bs::bt) b0) a6),(C.z+13,aP K [])] ca J (H 0x113f0ff0e301ff066aa014aa0ff013f03fc0888e001118d0b60b60ff0c90) [.bool false,.bool false,.bool false,.bool false,.bool false,.bool false,.bool false,.bool false] [(C.z+2,cT C.z),(C.z+8,cw<|C.z+7)] a7) a7 [0,1,2,3] (.res<|.ok .next) [((C.1+7),C.io x.P bb a8),(L,bU x.P C.z u bl U bo (q)<|ah [D] G),((C.1+1),C.sh x.P (.str wb<|J+35) (ah (bs::bt) b0)<|a6),((C.1+13),aP (K+1) [ah [D] G])] [] [(([D]==[10]),false)] [dJ #[#[(bs::bt)]],dJ #[#[[59]]],br #[#[[39,34]]] #[#[[D]]] false,br iT #[#[[D]]] false,br #[#[[92]]] #[#[[D]]] false,br #[#[[39,34]]] #[#[[D]]] false,br #[#[[35]]] #[#[[D]]] false,br #[#[[32,9,13,10]]] #[#[[D]]] false,dJ #[#[[D]]],mc (aI nG)<|ar [ah [97]<|J+12,ah [99]<|J+13],br #[#[[92]]] #[#[[97]]] false,br #[#[[39,34]]] #[#[[97]]] false]:=by lk
def Un:Ev (jJ x C L (.ok<|.ret<|ah [D] G)<|cf [(C.z+7,C.io x.P bb a8),(L,bU x.P C.z u bl U bo q v),(C.z+1,C.sh x.P (b8 97 us) (ah (bs::bt) b0) a6),(C.z+13,aP K [])] ca J (H 0xe304c90) [.bool false,.bool false,.bool false,.bool false,.bool true] [(C.z+2,cT C.z),(C.z+8,cw<|C.z+7)] a7) a7 [0,1,2,3] (.next<|eX L) [((C.1+7),C.io x.P bb a8),(L,bU x.P C.z u bl U bo (q)<|ah [D] G),((C.1+1),C.sh x.P (ah [D] G) (ah (bs::bt) b0)<|a6),((C.1+13),aP (K) [])] [] [(([D]==[10]),false)] [br #[#[[39,34]]] #[#[[D]]] true,br #[#[[35]]] #[#[[D]]] false,br #[#[[32,9,13,10]]] #[#[[D]]] false,dJ #[#[[D]]],mc (aI nG)<|ar [ah [97]<|J+12,ah [99]<|J+13],br #[#[[92]]] #[#[[97]]] false,br #[#[[39,34]]] #[#[[97]]] false]:=by lk
def Ul:Ev (jJ x C L (.ok<|.ret<|ah [] G)<|cf [(C.z+7,C.io x.P bb a8),(L,bU x.P C.z u bl U bo q v),(C.z+1,C.sh x.P (b8 97 us) (ah (bs::bt) b0) a6),(C.z+13,aP K [])] ca J (H 0x970fa01444) [.bool false,.bool false] [(C.z+2,cT C.z),(C.z+8,cw<|C.z+7)] a7) a7 [0,1,2,3] (.res<|.ok .next) [((C.1+7),C.io x.P bb a8),(L,bU x.P C.z u bl U bo (q)<|.str bN G),((C.1+1),C.sh x.P .none (ah (bs::bt) b0)<|a6),((C.1+13),aP (K) [])] [] [] [dJ #[#[[]]],mc (aI nG)<|ar [ah [97]<|J+12,ah [99]<|J+13],br #[#[[92]]] #[#[[97]]] false,br #[#[[39,34]]] #[#[[97]]] false]:=by lk
def Us:Ev (jJ x C L (.ok<|.ret<|ah [D] G)<|cf [(C.z+7,C.io x.P bb a8),(L,bU x.P C.z u bl U bo q v),(C.z+1,C.sh x.P (b8 99 us) (ah (bs::bt) b0) a6),(C.z+13,aP K [])] ca J (H 0xbb05444) [.bool false,.bool false,.bool true] [(C.z+2,cT C.z),(C.z+8,cw<|C.z+7)] a7) a7 [0,1,2,3] (.res<|.ok .next) [((C.1+7),C.io x.P bb a8),(L,bU x.P C.z u bl U bo (q)<|ah [D] G),((C.1+1),C.sh x.P (.str wb<|J+19) (ah (bs::bt) b0)<|a6),((C.1+13),aP (K) [])] [] [(([D]==[10]),false)] [dJ #[#[(bs::bt)]],br #[#[[32,9,13,10]]] #[#[[D]]] true,dJ #[#[[D]]],mc (aI nG)<|ar [ah [97]<|J+12,ah [99]<|J+13],br #[#[[92]]] #[#[[99]]] false,br #[#[[39,34]]] #[#[[99]]] false]:=by lk
def Uq:Ev (jJ x C L (.ok<|.ret<|ah [10] G)<|cf [(C.z+7,C.io x.P bb a8),(L,bU x.P C.z u bl U bo q v),(C.z+1,C.sh x.P (b8 99 us) (ah (bs::bt) b0)<|.int k c2),(C.z+13,aP K [])] ca J (H 0xbb09701ff01444) [.bool false,.bool false,.bool true] [(C.z+2,cT C.z),(C.z+8,cw<|C.z+7)] a7) a7 [0,1,2,3] (.res<|.ok .next) [((C.1+7),C.io x.P bb a8),(L,bU x.P C.z u bl U bo (q)<|.str Ct G),((C.1+1),C.sh x.P (.str wb<|J+24) (ah (bs::bt) b0)<|.int (k+1)<|J+4),((C.1+13),aP (K) [])] [] [] [dJ #[#[(bs::bt)]],br #[#[[32,9,13,10]]] #[#[[10]]] true,dJ #[#[[10]]],mc (aI nG)<|ar [ah [97]<|J+17,ah [99]<|J+18],br #[#[[92]]] #[#[[99]]] false,br #[#[[39,34]]] #[#[[99]]] false]:=by lk
def Ur:Ev (jJ x C L (.ok<|.ret<|ah [D] G)<|cf [(C.z+7,C.io x.P bb a8),(L,bU x.P C.z u bl U bo q v),(C.z+1,C.sh x.P (b8 99 us) (ah (bs::bt) b0) a6),(C.z+13,aP K [])] ca J (H 0xe3066aa014aa0ff0b60a0018d0f20fa05444) [.bool false,.bool false,.bool false,.bool false,.bool false,.bool false] [(C.z+2,cT C.z),(C.z+8,cw<|C.z+7)] a7) a7 [0,1,2,3] (.res<|.ok .next) [((C.1+7),C.io x.P bb a8),(L,bU x.P C.z u bl U bo (q)<|ah [D] G),((C.1+1),C.sh x.P (.str wb<|J+25) (ah (bs::bt) b0)<|a6),((C.1+13),aP (K+1) [ah [D] G])] [] [(([D]==[10]),false)] [br #[#[[32,9,13,10]]] #[#[[D]]] false,br #[#[[59]]] #[#[[D]]] false,br #[#[[35]]] #[#[[D]]] false,br #[#[[32,9,13,10]]] #[#[[D]]] false,dJ #[#[[D]]],mc (aI nG)<|ar [ah [97]<|J+12,ah [99]<|J+13],br #[#[[92]]] #[#[[99]]] false,br #[#[[39,34]]] #[#[[99]]] false]:=by lk
def Uv:Ev (jJ x C L (.ok<|.ret<|ah [D] G)<|cf [(C.z+7,C.io x.P bb a8),(L,bU x.P C.z u bl U bo q v),(C.z+1,C.sh x.P (b8 ck us) (ah (bs::bt) b0) a6),(C.z+13,aP K [])] ca J (H 0x9701104ff01b60ff05ba0) [.bool true,.bool false] [(C.z+2,cT C.z),(C.z+8,cw<|C.z+7)] a7) a7 [0,1,2,3] (.next<|eX L) [((C.1+7),C.io x.P bb a8),(L,bU x.P C.z u bl U bo true<|ah [D] G),((C.1+1),C.sh x.P (ah [ck] us) (ah (bs::bt++[D])<|J+16)<|a6),((C.1+13),aP (K) [])] [] [(([D]==[ck]),false),(([ck]==[32]),false),(([D]==[10]),false)] [fO #[#[(bs::bt)]] #[#[[D]]],br #[#[[92]]] #[#[[D]]] false,dJ #[#[[D]]],br #[#[[39,34]]] #[#[[ck]]] true]:=by lk
def Uu:Ev (jJ x C L (.ok<|.ret<|ah [D] G)<|cf [(C.z+7,C.io x.P bb a8),(L,bU x.P C.z u bl U bo q v),(C.z+1,C.sh x.P (b8 ck us) (ah [] b0) a6),(C.z+13,aP K [])] ca J (H 0x97014ff01b60ff05ba0) [.bool true,.bool false] [(C.z+2,cT C.z),(C.z+8,cw<|C.z+7)] a7) a7 [0,1,2,3] (.next<|eX L) [((C.1+7),C.io x.P bb a8),(L,bU x.P C.z u bl U bo true<|ah [D] G),((C.1+1),C.sh x.P (ah [ck] us) (ah [D] G)<|a6),((C.1+13),aP (K) [])] [] [(([D]==[ck]),false),(([ck]==[32]),false),(([D]==[10]),false)] [br #[#[[92]]] #[#[[D]]] false,dJ #[#[[D]]],br #[#[[39,34]]] #[#[[ck]]] true]:=by lk
def Ut:Ev (jJ x C L (.ok<|.ret<|ah [D] G)<|cf [(C.z+7,C.io x.P bb a8),(L,bU x.P C.z u bl U bo q v),(C.z+1,C.sh x.P (b8 ck us) c0 a6),(C.z+13,aP K [])] ca J (H 0xe301ff04ba0) [.bool true] [(C.z+2,cT C.z),(C.z+8,cw<|C.z+7)] a7) a7 [0,1,2,3] (.next<|eX L) [((C.1+7),C.io x.P bb a8),(L,bU x.P C.z u bl U bo true<|ah [D] G),((C.1+1),C.sh x.P (.str vX<|J+14) (c0)<|a6),((C.1+13),aP (K) [])] [] [(([D]==[ck]),true),(([ck]==[32]),false),(([D]==[10]),false)] [dJ #[#[[D]]],br #[#[[39,34]]] #[#[[ck]]] true]:=by lk
def Uw:Ev (jJ x C L (.ok<|.ret<|ah [D] G)<|cf [(C.z+7,C.io x.P bb a8),(L,bU x.P C.z u bl U 97 q v),(C.z+1,C.sh x.P (b8 92 us) (ah [] b0) a6),(C.z+13,aP K [])] ca J (H 0xe30497014ff01b603f04f20ff0f20ff01d60) [.bool false,.bool true,.bool false] [(C.z+2,cT C.z),(C.z+8,cw<|C.z+7)] a7) a7 [0,1,2,3] (.next<|eX L) [((C.1+7),C.io x.P bb a8),(L,bU x.P C.z u bl U 97 (q)<|ah [D] G),((C.1+1),C.sh x.P (.str vX U) (ah [D] G)<|a6),((C.1+13),aP (K) [])] [] [(([D]==[10]),false)] [br #[#[[39,34]]] #[#[[97]]] false,dJ #[#[[D]]],br #[#[[92]]] #[#[[92]]] true,br #[#[[39,34]]] #[#[[92]]] false]:=by lk
end
structure Rd (C:Lc):Prop where
 h2:2<=C.l.length
 hl:C.l.length<=10000
inductive GA (x:Wd) (C:Lc) (p c:N) (F':Fs):aL->ao->Prop
 |mk (t tp):GA x C p c F' (.ok (.ret (b8 c t))) [(C.z+7,C.io x.P tp (p+1))]
inductive GB (x:Wd) (C:Lc) (tp p:N) (F':Fs):aL->ao->Prop
 |mk (t):GB x C tp p F' (.ok (.ret (.str #[#[[]]] t))) [(C.z+7,C.io x.P tp p)]
def Rm(g:Rd C)(W:F (C.z+8) (cw<|C.z+7))(d:C.l.drop p=c::r):ay x aj 100 (.call (.ref 660) #[[.ref<|C.z+8,.int 1 J],[]]) F [(C.z+7,C.io x.P tp p)] (GA x C p c):=by
 have G:=Nat.lt_of_not_le λU=>by rw[FO.mpr U]at d;cases d
 have h:=g.hl;have M:=g.h2;have f:(C.l.drop p).take 1=[c]:=by rw[d,];rfl
 have Z:dJ (i8<|ar C.l):=bT h ζ;have j:=decide_eq_false<|FA.mpr<|jz.mpr G;by_cases u:p+1<C.l.length
 .have K:=decide_eq_true<|jz.mpr u
  have:=Pp (l:=C.l) (a:=p) (b:=p+1) G (oZ p) Z<|(Ga p 1).symm▸ll M;rw[Ga,f]at this;rw[fv (O:=[(_,_)]) #[W,ab] λn D=>bp (apc C tp p J n D c x) #[K,j,ab] #[this,Z,ab] (aV) #[_,_]]
 .have e:=Gf (Gg u) G
  have K:=yZ e;have:=Pp (l:=C.l) (a:=p) (b:=C.l.length) (d8 _) (iK G) Z λq=>ll M<|K.symm.trans q;rw[K,f]at this;rw[fv (O:=[(_,_)]) #[W,ab] λn D=>bp (apb C tp p J n D c x) #[decide_eq_false<|uG.mpr<|m8.mpr<|Gg u,j,ab] #[this,Z,ab] (aV)<|e▸#[_,_]]
def Rn(g:Rd C)(W:F (C.z+8) (cw<|C.z+7))(d:C.l.drop p=[]):ay x aj 100 (.call (.ref 660) #[[.ref<|C.z+8,.int 1 G],[]]) F [(C.z+7,C.io x.P tp p)] (GB x C tp p):=by have a:=FO.mp d;rw[fv (O:=[(_,_)]) #[W,ab] λn D=>bp (apa C tp p G n D x) #[(decide_eq_true (by simp only[qn];lia)),ab] #[(tZ g.hl),ab] (aV) #[_]]
structure Lt (c:N):Prop where
 wc:eD iT #[#[[c]]]=true
 es:eD #[#[[92]]] #[#[[c]]]=false
 co:eD #[#[[35]]] #[#[[c]]]=false
 ws:eD #[#[[32,9,13,10]]] #[#[[c]]]=false
 qu:eD #[#[[39,34]]] #[#[[c]]]=false
 pu:eD #[#[[59]]] #[#[[c]]]=false
 nl:([c]==[10])=false
 n39:([c]==[39])=false
 n34:([c]==[34])=false
def MP(c:N):Bool:=eD iT #[#[[c]]]&&((not (eD #[#[[92]]] #[#[[c]]]))&&((not (eD #[#[[35]]] #[#[[c]]]))&&((not (eD #[#[[32,9,13,10]]] #[#[[c]]]))&&((not (eD #[#[[39,34]]] #[#[[c]]]))&&((not (eD #[#[[59]]] #[#[[c]]]))&&((not (([c]==[10])))&&((not (([c]==[39])))&& (not (([c]==[34]))))))))))
def MQ(h:65<=c)(M:c<=80):Lt c:=by have g:=r_.mp (by lk:(sq 16).all (λj=>MP<|65+j)=true) (c-65)<|Tc.mpr<|ajz M;rw[show 65+(c-65)=c by rw[ajA h]]at g;unfold MP at g;simp only[ky,Sq]at g;rw[X4 g λa b c d e f z i K=>#[a,b,c,d,e,f,z,i,K]]
def kv:Option N->N->af
 |none,_=>.none
 |some Z,D=>b8 Z D
structure Lz where
 tp:N
 un:N
 te:N
 q:Bool
 v:af
 us:N
 ut:N
 k:Int
 uk:N
 dn:Int
 ts:N
abbrev Th(x:Wd)(C:Lc)(L:N)(u:N->N)(st:N)(b:!N)(p j:N)(m:Lz):ao:=[(C.z+7,C.io x.P m.tp p),(L,bU x.P C.z u m.un m.te j m.q m.v),(C.z+1,C.sh x.P (b8 st m.us) (.str #[#[b]] m.ut)<|.int m.k m.uk),(C.z+13,aP m.dn [])]
inductive Fw (x:Wd) (C:Lc) (L:N) (u:N->N) (st:Option N) (to pb:!N) (p:N):ao->Prop
 |mk (e0 m):Fw x C L u st to pb p ([(C.z+7,C.io x.P (Lz.tp m) p),(L,bU x.P C.z u m.un m.te e0 m.q m.v),(C.z+1,C.sh x.P (kv st m.us) (.str #[#[to]] m.ut) (.int m.k m.uk)),(C.z+13,aP m.dn (pb.map (b8 · m.ts)))])
abbrev FL(C:Lc)(F:Fs):Prop:=gB F [(C.z+2,cT C.z),(C.z+8,cw<|C.z+7)]
def gB.le{F F':Fs}(l:Le F F'):∀{O:ao},gB F O->gB F' O:=by
 intro J;induction J with
 |nil=>intro _;rw[trivial]
 |cons _ _ C=>intro U;rw[#[l _ _ U.1,C U.2]]
section
variable{x:Wd} {C:Lc} {L:N} {u:N->N} {F:Fs} {Q:Po}
def lZ(g:Rd C)(W:FL C F){st b v a:af}(d:C.l.drop p=c::r)(k:∀(F':Fs) (t z:N),Le F F'->FL C F'->On x aj 200 F Q (jJ x C L) [(L,bU x.P C.z u a6 J G q v),(C.z+1,C.sh x.P st b a),(C.z+13,aP D [])] [] (.ok<|.ret<|b8 c t) F' [(C.z+7,C.io x.P z<|p+1)]):ay x aj 200 (eX L) F [(C.z+7,C.io x.P tp p),(L,bU x.P C.z u a6 J G q v),(C.z+1,C.sh x.P st b a),(C.z+13,aP D [])] Q:=fu W λB K=>jH (PI C L tp p J B K a6 G u D a st b v q x) ab ab ((Rm g (an _ _ W.2.1) d).le ζ λ_ _ _ _ U=>U) λm F' h l q=>q.casesOn λt z=>k F' t z (bO l)<|W.le<|bO l
def eV(h:eD a b=r):br a b r:=h
def je{l r:!N}(h:l.drop p=c::r):l.drop (p+1)=r:=by have:=congrArg (zK 1) h;simpa[sr]using this
def pW:mc (.type "tuple") (ar [qK (i8<|ar [97]) a,qK (i8<|ar [99]) b]):=#[by lk,ab]
def qq(h:q=39\/q=34):eD #[#[[39,34]]] #[#[[q]]]=true/\([q]==[32])=false/\([q]==[10])=false/\([q]==[q])=true/\eD #[#[[92]]] #[#[[q]]]=false:=by rcases h with rfl|rfl<;>rw[#[by lk,rfl,rfl,rfl,by lk]]
def rG(h:l.length<=10000):dJ #[#[l]]:=by rw[tZ h]
inductive uA (x:Wd) (C:Lc) (L:N) (u:N->N) (s:Option N) (k pb e:!N) (F':Fs):aL->ao->Prop
 |mk {L':ao} (p') (h1:C.l.drop p'=e) (h2:Fw x C L u s k pb p' L'):uA x C L u s k pb e F' (.ok .next) L'
def lG:eD #[#[[92]]] #[#[[97]]]=false/\eD #[#[[39,34]]] #[#[[97]]]=false:=#[by lk,by lk]
def th:eD #[#[[92]]] #[#[[99]]]=false/\eD #[#[[39,34]]] #[#[[99]]]=false:=#[by lk,by lk]
def kP:dJ (i8<|ar [a]):=rG<|show 1<=10000 by decide
def Lx(st:N)(b a k:!N)(s:Option N)(pb e:!N):Prop:=k≠[]/\∀x c m S,Rd c->∀F p j E,FL c F->c.l.drop p=a->b.length+a.length<=10000->(st=92->j=97)->ay x aj 200 (eX m) F (Th x c m S st b p j E) (uA x c m S s k pb e)
def Lx.aw{c o:N}{u r k pb e:!N}{s:Option N}(a:Lt c)(X:Lx 97 (o::u++[c]) r k s pb e):Lx 97 (o::u) (c::r) k s pb e:=by rw[#[X.1,λx b m S g F p j E W d Z n=>?_]];rw[lZ g W d λT D z l f=>#[_,_,_,f,λJ G=>bu (Up b m E.te z (p+1) _ D E.us J G E.un j E.ut o S E.dn (.int E.k E.uk) E.v E.q u x) #[a.nl,ab] #[jk (dl _ _) (dl _ _)<|LJ Z,a.wc,a.es,a.qu,a.co,a.ws,kP,pW,lG.1,lG.2,ab] rfl l <|X.2 x b m S g _ _ _ ⟨_,_,_,_,_,_,_,_,_,_,0⟩ (f.le an) (je d) (by simp only[cv,dN,ld];rw[LL Z]) λU=>nomatch U]]
def Lx.as{c o:N}{u r:!N}(a:c=32\/c=9):Lx 97 (o::u) (c::r) (o::u) (some 32) [] r:=by
 rw[#[dl _ _,λx b m S g F p j E W d Z n=>?_]]
 have Y:∀{c},(c=32\/c=9)->([c]==[10])=false/\eD #[#[[32,9,13,10]]] #[#[[c]]]=true:=λU=>by rcases U with rfl|rfl<;>rw[⟨rfl,by lk⟩]
 rw[lZ g W d λT D z l e=>#[_,_,_,e,λJ G=>bp (Uo b m E.te z (p+1) _ D E.us J G E.un j E.ut o S E.dn (.int E.k E.uk) E.v E.q u x) #[(Y a).1,ab] #[rG<|yf Z,(Y a).2,kP,pW,lG.1,lG.2,ab] l #[p+1,je d,#[_,#[_,_,_,_,_,_,_,_,_,_,0]]]]]
def Lx.ap{o:N}{u r:!N}:Lx 97 (o::u) (59::r) (o::u) (some 32) [59] r:=by rw[#[dl _ _,λx a m S g F p j E W d Z n=>?_]];rw[lZ g W d λT D z l b=>#[_,_,_,b,λJ G=>bp (Um a m E.te z (p+1) _ D E.us J G E.un j E.ut o S E.dn (.int E.k E.uk) E.v E.q u x) #[rfl,ab] #[rG<|yf Z,kP,eV<|by lk,eV<|by lk,eV<|by lk,eV<|by lk,eV<|by lk,eV<|by lk,kP,pW,lG.1,lG.2,ab] l #[p+1,je d,#[_,#[_,_,_,_,_,_,_,_,_,_,D]]]]]
def Lx.ae{o:N}{u:!N}:Lx 97 (o::u) [] (o::u) none [] []:=by
 rw[#[dl _ _,λx b m S g F p j E W d Z n=>?_]];exact fu W λB K=>jH (PI b m E.tp p E.te B K E.un j S E.dn (.int E.k E.uk) _ _ E.v E.q x) ab ab ((Rn g (an _ _ W.2.1) d).le ζ λ_ _ _ _ U=>U) λc T h l q=>by rw[q.casesOn λD=>?_];rw[#[_,_,_,W.le λa Y U=>l a Y<|an a Y U,λJ G=>bp (Ul b m E.te E.tp p D E.us J G E.un j E.ut o S E.dn (.int E.k E.uk) E.v E.q u x) ab #[rG<|ζ,pW,lG.1,lG.2,ab] (bO l) #[p,d,#[_,#[_,_,_,_,_,0,_,_,_,_,0]]]]]
def Lx.aq{o:N}{u r k pb e:!N}{s:Option N}(X:Lx 39 (o::u) r k s pb e):Lx 97 (o::u) (39::r) k s pb e:=by rw[#[X.1,λx a m S g F p j E W d Z n=>?_]];rw[lZ g W d λT D z l b=>#[_,_,_,b,λJ G=>bu (Un a m E.te z (p+1) _ D E.us J G E.un j E.ut o S E.dn (.int E.k E.uk) E.v E.q u x) #[rfl,ab] #[eV<|by lk,eV<|by lk,eV<|by lk,kP,pW,lG.1,lG.2,ab] rfl l <|X.2 x a m S g _ _ _ ⟨_,_,_,_,_,_,_,_,_,_,0⟩ (b.le an) (je d) (ajB Z) λU=>nomatch U]]
def Lx.qw{q c:N}{b r k pb e:!N}{s:Option N}(u:q=39\/q=34)(a:Lt c)(X:Lx q (b++[c]) r k s pb e):Lx q b (c::r) k s pb e:=by
 rw[#[X.1,λx t m S g F p j E W d Z n=>(xy (qq u) λQ f U U U=>?_)]];have w:([c]==[q])=false:=by rcases u with rfl|rfl;rw[a.n39];rw[a.n34]
 have i:=n;cases b with
 |nil=>rw[lZ g W d λT D z l h=>#[_,_,_,h,λJ G=>bu (Uu t m E.te z (p+1) _ D E.us J G E.un j E.ut q S E.dn (.int E.k E.uk) E.v E.q x) #[w,f,a.nl,ab] #[a.es,kP,Q,ab] rfl l <|X.2 x t m S g _ _ _ #[_,_,_,_,_,_,_,_,_,_,0] (h.le an) (je d) (by dsimp only[cv,dN,ld]at Z⊢;rw[ajC Z]) i]]
 |cons o y=>rw[lZ g W d λT D z l h=>#[_,_,_,h,λJ G=>bu (Uv t m E.te z (p+1) _ D E.us J G E.un j E.ut o q S E.dn (.int E.k E.uk) E.v E.q y x) #[w,f,a.nl,ab] #[jk (dl _ _) (dl _ _)<|LJ Z,a.es,kP,Q,ab] rfl l <|X.2 x t m S g _ _ _ #[_,_,_,_,_,_,_,_,_,_,0] (h.le an) (je d) (by simp only[cv,dN,ld];rw[LL Z]) i]]
def Lx.qe{q:N}{b r k pb e:!N}{s:Option N}(u:q=39\/q=34)(X:Lx 97 b r k s pb e):Lx q b (q::r) k s pb e:=by rw[#[X.1,λx a m S g F p j E W d Z n=>(xy (qq u) λQ f M h K=>?_)]];rw[lZ g W d λT D z l c=>#[_,_,_,c,λJ G=>bu (Ut a m E.te z (p+1) _ D E.us J G E.un j q S E.dn (.int E.k E.uk) _ E.v E.q x) #[h,f,M,ab] #[kP,Q,ab] rfl l <|X.2 x a m S g _ _ _ ⟨_,_,_,_,_,_,_,_,_,_,0⟩ (c.le an) (je d) (ajD Z) λU=>nomatch U]]
def Lx.xx{c:N}{r k pb e:!N}{s:Option N}(f:Lt c)(X:Lx 97 [c] r k s pb e):Lx 92 [] (c::r) k s pb e:=by rw[#[X.1,λx a m S g F p j E W d Z n=>?_]];obtain rfl:=n rfl;rw[lZ g W d λT D z l b=>#[_,_,_,b,λJ G=>bu (Uw a m E.te z (p+1) _ D E.us J G E.un E.ut S E.dn (.int E.k E.uk) E.v E.q x) #[f.nl,ab] #[lG.2,kP,eV<|by lk,eV<|by lk,ab] rfl l <|X.2 x a m S g _ _ _ ⟨_,_,_,_,_,_,_,_,_,_,0⟩ (b.le an) (je d) (ajE Z) λU=>nomatch U]]
def Lx.cs{c o:N}{u r:!N}(a:c=32\/c=9\/c=10):Lx 99 (o::u) (c::r) (o::u) (some 32) [] r:=by
 rw[#[dl _ _,λx e m S g F p j E W d Z n=>?_]];by_cases L:c=10
 .subst L
  rw[lZ g W d λT D z l b=>#[_,_,_,b,λJ G=>bp (Uq e m E.te z (p+1) D E.us J G E.un j E.ut o E.uk S E.dn E.k E.v E.q u x) ab #[rG<|yf Z,eV<|by lk,kP,pW,th.1,th.2,ab] l #[p+1,je d,#[_,#[_,_,_,_,_,_,_,_,_,_,0]]]]]
 .have Y:([c]==[10])=false/\eD #[#[[32,9,13,10]]] #[#[[c]]]=true:=by rcases a with rfl|rfl|rfl<;>first|rw[#[rfl,by lk]]|rw[absurd rfl L]
  rw[lZ g W d λT D z l b=>#[_,_,_,b,λJ G=>bp (Us e m E.te z (p+1) _ D E.us J G E.un j E.ut o S E.dn (.int E.k E.uk) E.v E.q u x) #[Y.1,ab] #[rG<|yf Z,Y.2,kP,pW,th.1,th.2,ab] l #[p+1,je d,#[_,#[_,_,_,_,_,_,_,_,_,_,0]]]]]
def Lx.co{c o:N}{u r:!N}(a:Lt c\/c=92\/c=39\/c=34):Lx 99 (o::u) (c::r) (o::u) (some 32) [c] r:=by
 rw[#[dl _ _,λx b m S g F p j E W d Z n=>?_]];have Y:([c]==[10])=false/\eD #[#[[32,9,13,10]]] #[#[[c]]]=false/\eD #[#[[59]]] #[#[[c]]]=false/\eD #[#[[35]]] #[#[[c]]]=false:=by
  rcases a with U|rfl|rfl|rfl
  .rw[⟨U.nl,U.ws,U.pu,U.co⟩]
  all_goals exact⟨rfl,by lk,by lk,by lk⟩
 rw[lZ g W d λT D z l e=>#[_,_,_,e,λJ G=>bp (Ur b m E.te z (p+1) _ D E.us J G E.un j E.ut o S E.dn (.int E.k E.uk) E.v E.q u x) #[Y.1,ab] #[Y.2.1,Y.2.2.1,Y.2.2.2,Y.2.1,kP,pW,th.1,th.2,ab] l #[p+1,je d,#[_,#[_,_,_,_,_,_,_,_,_,_,D]]]]]
end
section
variable(C:Lc) (tp p b0 sz tk a6 K c1 c0 ck bl a8 ca a7 ch:N) (bo D:Int) (st bt v U G:af) (pb J:!af) (u:N->N) (bs:!N) (x:Wd) (Y bb:ao)
def Ox:av:=ex x aj 300 (.fn 817 #[[.ref<|C.z+2],[]])<|cf [(C.z+7,C.io x.P tp p),(C.z+1,C.sh x.P (st) (.str bN b0) bt),(C.z+13,aP bo pb)] sz tk (H 0x566aa0) [] [(C.z+2,cT C.z),(C.z+8,cw<|C.z+7)] Y
def xZ(x:Wd)(C:Lc)(sz:N):Ko:=(Ox C 0 0 0 sz 0 0 .none .none [] x []).resume
def PY:Ev (Ox C tp p b0 sz tk bo st bt pb x Y) Y [0,3,1,2] (.pend 297 aj (eX sz)<|xZ x C sz) ([((C.1+7),C.io x.P tp p),(sz,ik x.P C.z (uf tk (tk+1)<|tk+3) (tk+2) 32 false),((C.1+1),C.sh x.P (st) (.str bN b0)<|bt),((C.1+13),aP bo pb)]++[]) [] [] []:=by lk
def rt1:Ev (xZ x C sz (.ok .next)<|cf [(C.z+7,C.io x.P a6 K),(sz,bU x.P C.z u c1 c0 ck true v),(C.z+1,C.sh x.P U (ah (bl::bs) a8) G),(C.z+13,aP D J)] ca a7 (H 0x41ff019f0) [] [(C.z+2,cT C.z),(C.z+8,cw<|C.z+7)] bb) bb [0,2,3] (.res<|.ok<|.ret<|ah (bl::bs) a8) [((C.1+7),C.io x.P a6 K),((C.1+1),C.sh x.P (U) (.str bN<|a7+2)<|G),((C.1+13),aP D J)] [] [] []:=by lk
def rt2:Ev (xZ x C sz (.ok .next)<|cf [(C.z+7,C.io x.P a6 K),(sz,bU x.P C.z u c1 c0 ck false v),(C.z+1,C.sh x.P U (ah (bl::bs) a8) G),(C.z+13,aP D J)] ca a7 (H 0x41ff01149f0) [] [(C.z+2,cT C.z),(C.z+8,cw<|C.z+7)] bb) bb [0,2,3] (.res<|.ok<|.ret<|ah (bl::bs) a8) [((C.1+7),C.io x.P a6 K),((C.1+1),C.sh x.P (U) (.str bN<|a7+2)<|G),((C.1+13),aP D J)] [] [] []:=by lk
def rt3:Ev (xZ x C sz (.ok .next)<|cf [(C.z+7,C.io x.P a6 K),(sz,bU x.P C.z u c1 c0 ck false v),(C.z+1,C.sh x.P U (ah [] a8) G),(C.z+13,aP D J)] ca a7 (H 0x41ff0441149f0) [] [(C.z+2,cT C.z),(C.z+8,cw<|C.z+7)] bb) bb [0,2,3] (.res<|.ok<|.ret .none) [((C.1+7),C.io x.P a6 K),((C.1+1),C.sh x.P (U) (.str bN<|a7+2)<|G),((C.1+13),aP D J)] [] [] []:=by lk
def NQ:av:=ex x aj 400 (.fn 810 #[[.ref<|C.z+2],[]])<|cf [(C.z+7,C.io x.P tp p),(C.z+1,C.sh x.P (st) (.str bN b0) bt),(C.z+13,aP bo pb)] sz tk (H 0xa5061bb1b1bb4fc0666) [] [(C.z+2,cT C.z),(C.z+8,cw<|C.z+7),(C.z+11,aP 0 []),(C.z+12,aP 0 [])] Y
def CQ(x:Wd)(C:Lc)(sz:N):Ko:=(NQ C 0 0 0 sz 0 0 .none .none [] x []).resume
def Iy:Ev (NQ C tp p b0 sz tk bo st bt pb x Y) Y [0,1,2,3] (.pend 397 aj (.call (.ref 817) #[[.ref<|C.1+2],[]])<|CQ x C sz) ([((C.1+7),C.io x.P tp p),((C.1+1),C.sh x.P (st) (.str bN b0)<|bt),((C.1+13),aP bo pb)]++[(sz,az [V x.P bx tk<|.ref<|C.1+2] 1)]) [] [] []:=by lk
def Z2:∀(x:Wd) c,Ev (CQ x C sz (.ok<|.ret<|ah (bl::bs) a8)<|cf [(C.z+7,C.io x.P a6 K),(C.z+1,C.sh x.P U (.str bN ch) G),(C.z+13,aP D J),(sz,az [V x.P bx tk<|.ref<|C.z+2] 1)] ca a7 (H 0x614fc061114fc066114fc0666) [] [(C.z+2,cT C.z),(C.z+8,cw<|C.z+7),(C.z+11,aP 0 []),(C.z+12,aP 0 [])] c) c [0,1,2] (.res<|.ok<|.ret<|ah (bl::bs) a8) [((C.1+7),C.io x.P a6 K),((C.1+1),C.sh x.P (U) (.str bN ch)<|G),((C.1+13),aP D J)] [] [] []:=cS
def Z3:∀(x:Wd) c,Ev (CQ x C sz (.ok<|.ret<|.none)<|cf [(C.z+7,C.io x.P a6 K),(C.z+1,C.sh x.P U (.str bN ch) G),(C.z+13,aP D J),(sz,az [V x.P bx tk<|.ref<|C.z+2] 1)] ca a7 (H 0x4fc061ee1e1ee4fc06114fc066114fc0666) [] [(C.z+2,cT C.z),(C.z+8,cw<|C.z+7),(C.z+11,aP 0 []),(C.z+12,aP 0 [])] c) c [0,1,2] (.res<|.ok<|.ret .none) [((C.1+7),C.io x.P a6 K),((C.1+1),C.sh x.P (U) (.str bN ch)<|G),((C.1+13),aP D J)] [] [] []:=cS
end
def oR(c:N)(r k:!N)(s:Option N)(pb e:!N):Prop:=(Lt c/\Lx 97 [c] r k s pb e)\/(c=92/\Lx 92 [] r k s pb e)\/(c=59/\Lx 99 [59] r k s pb e)\/((c=39\/c=34)/\Lx c [] r k s pb e)
def Lx.ne{st:N}{b a k:!N}{s:Option N}{pb e:!N}(X:Lx st b a k s pb e):k≠[]:=X.1
def oR.ne{c:N}{r k:!N}{s:Option N}{pb e:!N}(X:oR c r k s pb e):k≠[]:=by rcases X with U|U|U|U<;>rw[U.2.ne]
inductive Ls (x:Wd) (C:Lc) (st:Option N) (pb:!N) (p:N):ao->Prop
 |mk (m):Ls x C st pb p ([(C.z+7,C.io x.P (Lz.tp m) p),(C.z+1,C.sh x.P (kv st m.us) (.str bN m.ut) (.int m.k m.uk)),(C.z+13,aP m.dn (pb.map (b8 · m.ts)))])
section
variable{x:Wd} {C:Lc} {L:N} {u:N->N} {F:Fs} {Q:Po}
def zb(g:Rd C)(W:FL C F){st a:af}(d:C.l.drop p=c::r)(k:∀(F':Fs) (t z:N),Le F F'->FL C F'->On x aj 200 F Q (rj x C L) [(L,ik x.P C.z u G 32 false),(C.z+1,C.sh x.P st (.str bN J) a),(C.z+13,aP D [])] [] (.ok<|.ret<|b8 c t) F' [(C.z+7,C.io x.P z<|p+1)]):ay x aj 200 (eX L) F [(C.z+7,C.io x.P tp p),(L,ik x.P C.z u G 32 false),(C.z+1,C.sh x.P st (.str bN J) a),(C.z+13,aP D [])] Q:=fu W λB K=>jH (PE C L tp p G J B K u D a st x) ab ab ((Rm g (an _ _ W.2.1) d).le ζ λ_ _ _ _ U=>U) λm F' h l q=>q.casesOn λt z=>k F' t z (bO l)<|W.le<|bO l
def Lw(g:Rd C)(W:FL C F){r R pb e:!N}(X:oR c r R s pb e)(hz:r.length<=9999):(C.l.drop p=c::r->ay x aj 200 (eX L) F [(C.z+7,C.io x.P tp p),(L,ik x.P C.z u a7 32 false),(C.z+1,C.sh x.P (b8 32 us) (.str bN a8)<|.int k bb),(C.z+13,aP a6 [])] (uA x C L u s R pb e))/\ (C.l.drop p=r->ay x aj 200 (eX L) F [(C.z+7,C.io x.P tp p),(L,ik x.P C.z u a7 32 false),(C.z+1,C.sh x.P (b8 32 us) (.str bN a8)<|.int k bb),(C.z+13,aP a6 [b8 c ts])] (uA x C L u s R pb e)):=by
 have n:∀{a:N},dJ (i8<|ar [a]):=rG (show 1<=10000 by decide);have m:=W.le (F':=fz F []) an;have Z:∀a:N,[a].length+r.length<=10000:=λa=>by rw[ajQ hz]
 have I:=ajR hz;have O:97=92->32=97:=λU=>nomatch U;rcases X with⟨i,X⟩|⟨rfl,X⟩|⟨rfl,X⟩|⟨o,X⟩
 .rw[⟨λd=>zb g W d λT D z l b=>#[_,_,_,b,λJ G=>bu (T8 C L a7 a8 z (p+1) c D us J G u a6 (.int k bb) x) #[i.nl,ab] #[i.wc,i.es,i.co,i.ws,n,ab] rfl l <|X.2 x C L u g _ _ _ ⟨_,_,_,_,_,_,_,_,_,_,0⟩ (b.le an) (je d) (Z c) O],λd=>fu W λB K=>bu (p_w C L tp p a7 a8 B K c ts us u a6 (.int k bb) x) #[i.nl,ab] #[i.wc,i.es,i.co,i.ws,ab] rfl (aV) <|X.2 x C L u g _ _ _ ⟨_,_,_,_,_,_,_,_,_,_,0⟩ m d (Z c) O⟩]
 .rw[⟨λd=>zb g W d λT D z l b=>#[_,_,_,b,λJ G=>bu (T4 C L a7 a8 z (p+1) 92 D us J G u a6 (.int k bb) x) #[rfl,ab] #[eV<|by lk,eV<|by lk,eV<|by lk,n,ab] rfl l <|X.2 x C L u g _ _ _ ⟨_,_,_,_,_,_,_,_,_,_,0⟩ (b.le an) (je d) I λ_=>rfl],λd=>fu W λB K=>bu (p_e C L tp p a7 a8 B K 92 ts us u a6 (.int k bb) x) #[rfl,ab] #[eV<|by lk,eV<|by lk,eV<|by lk,ab] rfl (aV) <|X.2 x C L u g _ _ _ ⟨_,_,_,_,_,_,_,_,_,_,0⟩ m d I λ_=>rfl⟩]
 .rw[#[λd=>zb g W d λT D z l b=>#[_,_,_,b,λJ G=>bu (T6 C L a7 a8 z (p+1) 59 D us J G u a6 (.int k bb) x) #[rfl,ab] #[eV<|by lk,eV<|by lk,eV<|by lk,eV<|by lk,eV<|by lk,n,ab] rfl l <|X.2 x C L u g _ _ _ ⟨_,_,_,_,_,_,_,_,_,_,0⟩ (b.le an) (je d) (Z 59) λU=>nomatch U],λd=>fu W λB K=>bu (p_p C L tp p a7 a8 B K 59 ts us u a6 (.int k bb) x) #[rfl,ab] #[eV<|by lk,eV<|by lk,eV<|by lk,eV<|by lk,eV<|by lk,ab] rfl (aV) <|X.2 x C L u g _ _ _ ⟨_,_,_,_,_,_,_,_,_,_,0⟩ m d (Z 59) λU=>nomatch U]]
 .have Y:eD #[#[[59]]] #[#[[c]]]=false/\eD iT #[#[[c]]]=false/\eD #[#[[35]]] #[#[[c]]]=false/\eD #[#[[32,9,13,10]]] #[#[[c]]]=false/\(c=92->32=97):=by rcases o with rfl|rfl<;>rw[⟨by lk,by lk,by lk,by lk,λU=>nomatch U⟩]
  rw[xy (qq o) λQ f M h j=>?_];rw[#[λd=>zb g W d λT D z l b=>#[_,_,_,b,λJ G=>bu (T7 C L a7 a8 z (p+1) c D us J G u a6 (.int k bb) x) #[M,ab] #[Q,Y.1,Y.2.1,j,Y.2.2.1,Y.2.2.2.1,n,ab] rfl l <|X.2 x C L u g _ _ _ ⟨_,_,_,_,_,_,_,_,_,_,0⟩ (b.le an) (je d) I Y.2.2.2.2],λd=>fu W λB K=>bu (p_q C L tp p a7 a8 B K c ts us u a6 (.int k bb) x) #[M,ab] #[Q,Y.1,Y.2.1,j,Y.2.2.1,Y.2.2.2.1,ab] rfl (aV) <|X.2 x C L u g _ _ _ #[_,_,_,_,_,_,_,_,_,_,0] m d I Y.2.2.2.2]]
inductive AC (x:Wd) (C:Lc) (s:Option N) (k pb e:!N) (F':Fs):aL->ao->Prop
 |mk {L':ao} (t) (p') (h1:C.l.drop p'=e) (h2:Ls x C s pb p' L'):AC x C s k pb e F' (.ok (.ret (.str #[#[k]] t))) L'
def aq_(g:Rd C)(W:FL C F){w rest r k pb e:!N}(X:oR c r k s pb e)(hz:r.length<=9999)(hs:w++rest=c::r)(I:w.length<=1)(t:C.l.drop p=rest)(A:Ls x C (some 32) w p a6):ay x aj 300 (.call (.ref 817) #[[.ref<|C.z+2],[]]) F a6 (AC x C s k pb e):=by
 rw[A.casesOn λE=>?_];have O:∀{n D:N},ay x aj 297 (eX n) (fz F []) [(C.z+7,C.io x.P (Lz.tp E) p),(n,ik x.P C.z (uf D (D+1)<|D+3) (D+2) 32 false),(C.z+1,C.sh x.P (b8 32 E.us) (.str bN E.ut)<|.int E.k E.uk),(C.z+13,aP E.dn<|w.map (b8 · E.ts))] (uA x C n (uf D (D+1)<|D+3) s k pb e):=by
  intro n D;cases w with
  |nil=>rw[((Lw (ts:=0) g (W.le an) X hz).1<|t.trans hs).le ζ λ_ _ _ _ U=>U]
  |cons a l=>
   cases l with
   |cons _ _=>rw[absurd (zQ I)<|zX _]
   |nil=>cases hs;rw[((Lw g (W.le an) X hz).2 t).le ζ λ_ _ _ _ U=>U]
 rw[fv W λn D=>jH (PY C E.tp p E.ut n D E.dn (b8 32 E.us) (.int E.k E.uk) (w.map (b8 · E.ts)) x) ab ab O λm T h l q=>q.casesOn λz y L=>L.casesOn λj f=>fW (jY X.ne) λo u P=>?_];subst P;have b:=W.le λa Y U=>l a Y<|an a Y U;rw[f.casesOn λQ M S q v B d R H i K=>?_];cases q
 .rw[#[_,_,_,b,λJ G=>bp (rt2 C n Q z M S j o d J G i v (kv s B) (.int R H) (pb.map (b8 · K)) _ u x) ab ab (bO l) #[_,z,y,#[#[_,0,0,true,.none,_,_,_,_,_,_]]]]]
 .rw[#[_,_,_,b,λJ G=>bp (rt1 C n Q z M S j o d J G i v (kv s B) (.int R H) (pb.map (b8 · K)) _ u x) ab ab (bO l) #[_,z,y,#[#[_,0,0,true,.none,_,_,_,_,_,_]]]]]
inductive Aq (x:Wd) (C:Lc) (p:N) (F':Fs):aL->ao->Prop
 |mk {L'} (h:Ls x C none [] p L'):Aq x C p F' (.ok (.ret .none)) L'
inductive GM (x:Wd) (C:Lc) (m:Lz) (p n t:N) (F':Fs):aL->ao->Prop
 |mk (un tc ut):GM x C m p n t F' (.ok .next) [(C.z+7,C.io x.P (Lz.tp m) p),(n,bU x.P C.z (uf t (t+1) (t+3)) un (t+2) 32 false (.str bN tc)),(C.z+1,C.sh x.P .none (.str bN ut) (.int m.k m.uk)),(C.z+13,aP m.dn [])]
def ara(g:Rd C)(W:FL C F)(t:C.l.drop p=[])(A:Ls x C none [] p a6):ay x aj 300 (.call (.ref 817) #[[.ref<|C.z+2],[]]) F a6 (Aq x C p):=by
 rw[A.casesOn λE=>?_];have u:=W.le (F':=fz F []) an;have O:∀{n D:N},ay x aj 297 (eX n) (fz F []) [(C.z+7,C.io x.P (Lz.tp E) p),(n,ik x.P C.z (uf D (D+1)<|D+3) (D+2) 32 false),(C.z+1,C.sh x.P .none (.str bN E.ut)<|.int E.k E.uk),(C.z+13,aP E.dn [])] (GM x C E p n D):=by intro n D;rw[ay.le (fu u λB K=>jH (PE C n E.tp p (D+2) E.ut B K (uf D (D+1)<|D+3) E.dn (.int E.k E.uk) .none x) ab ab ((Rn g (an _ _ u.2.1) t).le ζ λ_ _ _ _ U=>U) λm T h l q=>(q.casesOn λk=>#[_,_,_,u.le λa Y U=>l a Y<|an a Y U,λJ G=>bp (T5 C n (D+2) E.ut E.tp p k J G (uf D (D+1)<|D+3) E.dn (.int E.k E.uk) x) ab ab (bO l) ⟨_,_,_⟩])) ζ λ_ _ _ _ U=>U]
 rw[fv W λn D=>jH (PY C E.tp p E.ut n D E.dn .none (.int E.k E.uk) [] x) ab ab O λm T h l q=>q.casesOn λM b d=>#[_,_,_,W.le λa Y U=>l a Y<|an a Y U,λJ G=>bp (rt3 C n E.tp p M (D+2) 32 d J G E.dn (.str bN b) .none (.int E.k E.uk) [] _ x) ab ab (bO l) #[#[#[_,0,0,true,.none,0,_,_,_,_,0]]]]]
abbrev FG(C:Lc)(F:Fs):Prop:=gB F [(C.z+2,cT C.z),(C.z+8,cw<|C.z+7),(C.z+11,aP 0 []),(C.z+12,aP 0 [])]
def EV(g:Rd C)(W:FG C F){w rest r k pb e:!N}(X:oR c r k s pb e)(hz:r.length<=9999)(hs:w++rest=c::r)(I:w.length<=1)(t:C.l.drop p=rest)(A:Ls x C (some 32) w p K):ay x aj 400 (.call (.ref 810) #[[.ref<|C.z+2],[]]) F K (AC x C s k pb e):=by rw[A.casesOn λE=>fv W λn D=>jH (Iy C E.tp p E.ut n D E.dn (b8 32 E.us) (.int E.k E.uk) (w.map (b8 · E.ts)) x) ab ab ((aq_ g #[an _ _ W.1,an _ _ W.2.1,ab] X hz hs I t #[E]).le ζ λ_ _ _ _ U=>U) λm T h l q=>q.casesOn λd z y b=>b.casesOn λf=>fW (jY X.ne) λo u P=>?_];subst P;rw[#[_,_,_,W.le λa Y U=>l a Y<|an a Y U,λJ G=>bp (Z2 C n D f.tp z o d J G f.ut f.dn (kv s f.us) (.int f.k f.uk) (pb.map (b8 · f.ts)) u x) ab ab (bO l) #[_,z,y,#[f]]]]
def Ro(g:Rd C)(W:FG C F)(t:C.l.drop p=[])(A:Ls x C none [] p K):ay x aj 400 (.call (.ref 810) #[[.ref<|C.z+2],[]]) F K (Aq x C p):=by rw[A.casesOn λE=>fv W λn D=>jH (Iy C E.tp p E.ut n D E.dn .none (.int E.k E.uk) [] x) ab ab ((ara g #[an _ _ W.1,an _ _ W.2.1,ab] t #[E]).le ζ λ_ _ _ _ U=>U) λm T h l q=>q.casesOn λi=>i.casesOn λf=>#[_,_,_,W.le λa Y U=>l a Y<|an a Y U,λJ G=>bp (Z3 C n D f.tp p J G f.ut f.dn .none (.int f.k f.uk) [] x) ab ab (bO l) #[#[f]]]]
end
section
variable(C:Lc) (tp p L o a K U a6 a7 G c0 J na a8 sz tk c2 ch c1 dd da db:N) (bo bs:Int) (st bt ck b0:af) (pb D xs ca:!af) (bb c3:!N) (x:Wd) (Y bl:ao)
def Od:av:=ex x aj 450 (.code<|mU L)<|cf [(C.z+7,C.io x.P tp p),(C.z+1,C.sh x.P (st) (.str bN c0) bt),(C.z+13,aP bo pb),(L,im x.P C.l C.z o K U a6 a7 G<|ah bb a8),(o,aa #[D++[.ref a]] J),(a,aa #[xs] na)] sz tk (H 0xa5067886888867d777165616) [.ref a] [(C.z+2,cT C.z),(C.z+8,cw<|C.z+7),(C.z+11,aP 0 []),(C.z+12,aP 0 [])] Y
def CY(x:Wd)(C:Lc)(L:N):Ko:=(Od C 0 0 L 0 0 0 0 0 0 0 0 0 0 0 0 0 0 .none .none [] [] [] [] x []).resume
def PC:Ev (Od C tp p L o a K U a6 a7 G c0 J na a8 sz tk bo st bt pb D xs bb x Y) Y [0,1,2,3,4,5] (.pend 449 aj (.call (.ref 810) #[[.ref<|C.1+2],[]])<|CY x C L) ([((C.1+7),C.io x.P tp p),((C.1+1),C.sh x.P (st) (.str bN c0)<|bt),((C.1+13),aP bo pb)]++[(L,im x.P C.l C.z o K U a6 a7 G<|ah bb a8),(o,aa #[D++[aF a]] J),(a,aa ((ar xs).push (V x.P EH G<|ah bb a8).3)<|na+1)]) [] [((bb==[59]),false)] [cm #[xs],iL (ar<|D++[aF a]) (-1)<|aF a]:=by lk
def Oc:av:=ex x aj 450 (.code<|mU L)<|cf [(C.z+7,C.io x.P tp p),(C.z+1,C.sh x.P (st) (.str bN c0) bt),(C.z+13,aP bo pb),(L,im x.P C.l C.z o K U a6 a7 G<|ah [59] a8),(o,aa #[D++[.ref a]] J),(a,aa #[xs] na)] sz tk (H 0xa506678777761616) [] [(C.z+2,cT C.z),(C.z+8,cw<|C.z+7),(C.z+11,aP 0 []),(C.z+12,aP 0 [])] Y
def CX(x:Wd)(C:Lc)(L:N):Ko:=(Oc C 0 0 L 0 0 0 0 0 0 0 0 0 0 0 0 0 0 .none .none [] [] [] x []).resume
def PA:Ev (Oc C tp p L o a K U a6 a7 G c0 J na a8 sz tk bo st bt pb D xs x Y) Y [0,1,2,3,4,6,5] (.pend 449 aj (.call (.ref 810) #[[.ref<|C.1+2],[]])<|CX x C L) ([((C.1+7),C.io x.P tp p),((C.1+1),C.sh x.P (st) (.str bN c0)<|bt),((C.1+13),aP bo pb)]++[(L,im x.P C.l C.z o K U a6 a7 G<|.str EI a8),(o,aa ((ar<|D++[aF a]).push<|aF sz)<|J+1),(sz,aa #[[]] 0)]) [(a,aa #[xs] na)] [] [cm #[D++[aF a]]]:=by lk
def qw1:Ev (CY x C L (.ok<|.ret<|ah c3 dd)<|cf [(C.z+7,C.io x.P c2 ch),(C.z+1,C.sh x.P ck (.str bN c1) b0),(C.z+13,aP bs ca),(L,im x.P C.l C.z o K U a6 a7 G<|ah bb a8),(o,aa #[D++[.ref a]] J),(a,aa #[xs++[ah bb a8]]<|na+1)] da db [4,4] [] [(C.z+2,cT C.z),(C.z+8,cw<|C.z+7),(C.z+11,aP 0 []),(C.z+12,aP 0 [])] bl) bl [0,1,2,3,4,5] (.next<|mU L) [((C.1+7),C.io x.P c2 ch),((C.1+1),C.sh x.P (ck) (.str bN c1)<|b0),((C.1+13),aP bs ca),(L,im x.P C.l C.z o K U a6 a7 G<|ah c3 dd),(o,aa #[D++[aF a]] J),(a,aa #[xs++[ah bb a8]]<|na+1)] [] [] []:=by lk
def qs1:Ev (CX x C L (.ok<|.ret<|ah c3 dd)<|cf [(C.z+7,C.io x.P c2 ch),(C.z+1,C.sh x.P ck (.str bN c1) b0),(C.z+13,aP bs ca),(L,im x.P C.l C.z o K U a6 a7 G<|ah [59] a8),(o,aa #[D++[.ref a]++[.ref sz]]<|J+1),(sz,aa #[[]] 0)] da db [4,4] [] [(C.z+2,cT C.z),(C.z+8,cw<|C.z+7),(C.z+11,aP 0 []),(C.z+12,aP 0 [])] bl) bl [0,1,2,3,4,5] (.next<|mU L) [((C.1+7),C.io x.P c2 ch),((C.1+1),C.sh x.P (ck) (.str bN c1)<|b0),((C.1+13),aP bs ca),(L,im x.P C.l C.z o K U a6 a7 G<|ah c3 dd),(o,aa #[D++[aF a]++[aF sz]]<|J+1),(sz,aa #[[]] 0)] [] [] []:=by lk
def qw2:Ev (CY x C L (.ok<|.ret<|.none)<|cf [(C.z+7,C.io x.P c2 ch),(C.z+1,C.sh x.P ck (.str bN c1) b0),(C.z+13,aP bs ca),(L,im x.P C.l C.z o K U a6 a7 G<|ah bb a8),(o,aa #[D++[.ref a]] J),(a,aa #[xs++[ah bb a8]]<|na+1)] da db [4,4] [] [(C.z+2,cT C.z),(C.z+8,cw<|C.z+7),(C.z+11,aP 0 []),(C.z+12,aP 0 [])] bl) bl [0,1,2,3,4,5] (.next<|mU L) [((C.1+7),C.io x.P c2 ch),((C.1+1),C.sh x.P (ck) (.str bN c1)<|b0),((C.1+13),aP bs ca),(L,im x.P C.l C.z o K U a6 a7 G .none),(o,aa #[D++[aF a]] J),(a,aa #[xs++[ah bb a8]]<|na+1)] [] [] []:=by lk
def qs2:Ev (CX x C L (.ok<|.ret<|.none)<|cf [(C.z+7,C.io x.P c2 ch),(C.z+1,C.sh x.P ck (.str bN c1) b0),(C.z+13,aP bs ca),(L,im x.P C.l C.z o K U a6 a7 G<|ah [59] a8),(o,aa #[D++[.ref a]++[.ref sz]]<|J+1),(sz,aa #[[]] 0)] da db [4,4] [] [(C.z+2,cT C.z),(C.z+8,cw<|C.z+7),(C.z+11,aP 0 []),(C.z+12,aP 0 [])] bl) bl [0,1,2,3,4,5] (.next<|mU L) [((C.1+7),C.io x.P c2 ch),((C.1+1),C.sh x.P (ck) (.str bN c1)<|b0),((C.1+13),aP bs ca),(L,im x.P C.l C.z o K U a6 a7 G .none),(o,aa #[D++[aF a]++[aF sz]]<|J+1),(sz,aa #[[]] 0)] [] [] []:=by lk
def qe:Ev (ex x aj 450 (.code<|mU L)<|cf [(C.z+7,C.io x.P tp p),(C.z+1,C.sh x.P (st) (.str bN c0) bt),(C.z+13,aP bo pb),(L,im x.P C.l C.z o K U a6 a7 G<|.none),(o,aa #[D++[.ref a]] J),(a,aa #[xs] na)] sz tk [4,0] [] [(C.z+2,cT C.z),(C.z+8,cw<|C.z+7),(C.z+11,aP 0 []),(C.z+12,aP 0 [])] Y) Y [0,1,2,3,4,5] (.res<|.ok .next) [((C.1+7),C.io x.P tp p),((C.1+1),C.sh x.P (st) (.str bN c0)<|bt),((C.1+13),aP bo pb),(L,im x.P C.l C.z o K U a6 a7 G .none)] [(o,aa #[D++[aF a]] J),(a,aa #[xs] na)] [] []:=by lk
end
inductive lh:Option N->!N->!N->!(!N)->Prop
 |nil:lh none [] [] []
 |cons {c r k s pb e pb0 rest ks}:oR c r k s pb e->pb0++rest=c::r->pb0.length<=1->r.length<=9999->lh s pb e ks->lh (some 32) pb0 rest (k::ks)
def jo:!(List<|List N)->!(!N)->!(!N)->!(List<|List N)
 |d,Z,[]=>d++[Z]
 |d,Z,j::ks=>if j=[59]then jo (d++[Z]) [] ks else jo d (Z++[j]) ks
def Ex(h:¬k=[59]):jo d c (k::U)=jo d (c++[k]) U:=if_neg h
def O6:iL (ar<|U++[v]) (-1) v:=by
 have e:(-1:Int)+((ar<|U++[v]).size:Int)=ad U.length:=by show(-1:Int)+((U++[v]).length:Int)=_;rw[cv,];rw[(wH _ _).trans<|Int.add_neg_cancel_right (U.length:Int) 1]
 rw[#[ζ,ζ,e▸jy _,by rw[e,];simp]]
def yF(h:l.length<=10000):cm #[l]:=by rw[tZ h]
def yG(xs)(v:af):(ar xs).push v=ar (xs++[v]):=h_<|by simp
abbrev zI(x:Wd)(C:Lc)(m:Lz)(s:Option N)(pb:!N)(p:N):ao:=[(C.z+7,C.io x.P m.tp p),(C.z+1,C.sh x.P (kv s m.us) (.str bN m.ut)<|.int m.k m.uk),(C.z+13,aP m.dn<|pb.map (b8 · m.ts))]
section
variable{x:Wd} {C:Lc} {L o D J G H K:N}
abbrev FD(x:Wd)(C:Lc)(L o f Z t b S a c na:N)(R xs:!af)(v:af):ao:=[(L,im x.P C.l C.z o f Z t b S v),(o,aa #[R++[.ref a]] c),(a,aa #[xs] na)]
inductive Ax (x:Wd) (C:Lc) (L o D tb G H te:N) (rows:!(!(!N))) (F':Fs):aL->ao->Prop
 |mk (m s pb p) (h1:Rp F' (.lst (rows.map dG)) (.ref o)):Ax x C L o D tb G H te rows F' (.ok .next) (zI x C m s pb p++[(L,im x.P C.l C.z o D tb G H te .none)])
def HW(W:FG C F){pb:!N}(b:aM F (d.map dG) a6)(e:aM F (c.map .str) xs):ay x aj 450 (mU L) F (zI x C m s pb p++FD x C L o D J G H K a U na a6 xs .none) (Ax x C L o D J G H K<|d++[c]):=
 fu W λB f=>bp (qe C m.tp p L o a D J G H K m.ut U na B f m.dn (kv s m.us) (.int m.k m.uk) (pb.map (b8 · m.ts)) a6 xs x) ab ab (aV) #[m,s,pb,p,by rw[bf▸dW.mpr (gE o _ U rfl (bc<|.head _)<|(b.to an).push<|dW.mpr<|gE a xs na rfl (bc<|.tail _<|.head _)<|e.to an)]]
def aft(g:Rd C){pb e:!N}(X:lh s pb e t):∀{a6 O F m p a ac na R xs d c},FG C F->C.l.drop p=e->aM F (d.map dG) R->aM F (c.map .str) xs->d.length+c.length+t.length<=9000->ay x aj 450 (mU L) F (zI x C m s pb p++FD x C L o D J G H K a ac na R xs (.str #[#[a6]] O)) (Ax x C L o D J G H K<|jo d c (a6::t)):=by
 have E:∀{F:Fs} {d:!(List<|List N)} {R:!af},aM F (d.map dG) R->R.length=d.length:=λU=>by have:=U.length;simpa using this
 have A:∀{F:Fs} {c:!(!N)} {xs:!af},aM F (c.map PV.str) xs->xs.length=c.length:=λU=>by have:=U.length;simpa using this
 induction X with
 |nil=>
  intro a6 O F m p a ac na R xs d c W I b a8 Z;have n:=E b;have k:=A a8;by_cases a7:a6=[59]
  .subst a7
   have u:FG C (fz F [(a,aa #[xs] na)]):=W.le an;refine fu W λB bo=>jH (PA C m.tp p L o a D J G H K m.ut ac na O B bo m.dn .none (.int m.k m.uk) [] R xs x) ab #[yF (by simp;rw[aiY Z n]),ab] ((Ro g u I #[m]).le ζ λ_ _ _ _ U=>U) λbs T h l q=>q.casesOn λi=>i.casesOn λf=>?_;simp only[yG];rw[#[_,_,_,u.le l,λbb bl=>bu (qs2 C L o a D J G H K ac O B f.tp p f.ut bb bl f.dn .none (.int f.k f.uk) R [] x) ab ab rfl (bO l)<|HW (F:=fz T []) ((u.le l).le an) (s:=none) (pb:=[]) (d:=d++[c]) (c:=[]) (by simp only[bf];rw[((b.to λa o U=>l a o<|an a o U).push<|dW.mpr<|gE a xs na rfl (l _ _<|bc<|.head _)<|a8.to λa o U=>l a o<|an a o U).to an]) .nil]]
  .rw[fu W λB bo=>jH (PC C m.tp p L o a D J G H K m.ut ac na O B bo m.dn .none (.int m.k m.uk) [] R xs a6 x) #[by simpa using a7,ab] #[yF<|aiZ Z k,O6,ab] ((Ro g (W.le an) I ⟨m⟩).le ζ λ_ _ _ _ U=>U) λbs T h l q=>q.casesOn λi=>i.casesOn λf=>?_]
   have Q:=bO l;simp only[yG];rw[#[_,_,_,W.le Q,λbb bl=>bu (qw2 C L o a D J G H K ac na O f.tp p f.ut bb bl f.dn .none (.int f.k f.uk) R xs [] a6 x) ab ab rfl Q ?_]];simp only[Ex a7];rw[HW (s:=none) (pb:=[]) ((W.le Q).le an) ((b.to Q).to an) (by simp only[bf];rw[((a8.to Q).push<|c9.mpr #[O,rfl]).to an])]
 |@cons M r j s pb e w ck t S ca P Y _ ch=>
  intro a6 O F m p a ac na R xs d c W I b a8 Z;have n:=E b;have k:=A a8;by_cases a7:a6=[59]
  .subst a7
   have u:FG C (fz F [(a,aa #[xs] na)]):=W.le an;refine fu W λB bo=>jH (PA C m.tp p L o a D J G H K m.ut ac na O B bo m.dn (kv (some 32) m.us) (.int m.k m.uk) (w.map (b8 · m.ts)) R xs x) ab #[yF (by simp;rw[ai0 Z n]),ab] ((EV g u S Y ca P I #[m]).le ζ λ_ _ _ _ U=>U) λbs T h l q=>q.casesOn λbt z y b0=>b0.casesOn λf=>?_;simp only[yG];rw[#[_,_,_,u.le l,λbb bl=>bu (qs1 C L o a D J G H K ac O B f.tp z f.ut bt bb bl f.dn (kv s f.us) (.int f.k f.uk) R (pb.map (b8 · f.ts)) j x) ab ab rfl (bO l)<|ch ((u.le l).le an) y (by simp only[bf];rw[((b.to λa o U=>l a o<|an a o U).push<|dW.mpr<|gE a xs na rfl (l _ _<|bc<|.head _)<|a8.to λa o U=>l a o<|an a o U).to an]) .nil (by simp;rw[ai1 Z])]]
  .rw[fu W λB bo=>jH (PC C m.tp p L o a D J G H K m.ut ac na O B bo m.dn (kv (some 32) m.us) (.int m.k m.uk) (w.map (b8 · m.ts)) R xs a6 x) #[by simpa using a7,ab] #[yF<|ai2 Z k,O6,ab] ((EV g (W.le an) S Y ca P I ⟨m⟩).le ζ λ_ _ _ _ U=>U) λbs T h l q=>q.casesOn λbt z y b0=>b0.casesOn λf=>?_]
   have Q:=bO l;simp only[yG];rw[#[_,_,_,W.le Q,λbb bl=>bu (qw1 C L o a D J G H K ac na O f.tp z f.ut bt bb bl f.dn (kv s f.us) (.int f.k f.uk) R xs (pb.map (b8 · f.ts)) a6 j x) ab ab rfl Q ?_]];simp only[Ex a7];rw[ch ((W.le Q).le an) y ((b.to Q).to an) (by simp only[bf];rw[((a8.to Q).push<|c9.mpr #[O,rfl]).to an]) (by simp;rw[ai3 Z])]
end
section
variable{w:eJ} {A:dX} {E:af->aN->Prop} {s:aN}
def afo{c:N}(H:s.heap.MapOf (pC pw w) d f)(hv:f (c:Int)=none)(t:1<d)(J:A.handled=none)(h:∀h' tk,(∀b o,s.heap.get? b=some o->h'.get? b=some o)->Q .keep {s with heap:=h',toks:=tk}):ej (aE pw w) A (Builtin.Str.tableLookup (.ref d) c) Q E s:=by rw[aT<|wpAny_attempt<|aT<|Sa<|wpAny_getItem_missing_of (by simp[pC,AD]) (by simp[y6];rw[kB t]) J H hv λh' e j=>(cp j.there λg D a M X=>aT<|R7 (b:=true) (bA g a M) (by lk)<|aT<|oJ<|bK<|h _ _ j.keeps)]
def MapOf.keeps{h h':iz}{d:aH}{f:Int->Option af}(H:h.MapOf (pC pw w) d f)(hk:∀b o,h.get? b=some o->h'.get? b=some o):h'.MapOf (pC pw w) d f:=jg H λo k l y r=>ve o k l (hk _ _ y) r
inductive uY (s:aN):aN->Prop
 |mk (h':iz) (tk:Tok) (hk:∀b o,s.heap.get? b=some o->h'.get? b=some o):uY s {s with heap:=h',toks:=tk}
def arD{B a:Type}{f:N->B->bk (ForInStep B)}{st:!N->B}{g:B->bk a}{Q:a->aN->Prop}{b:B}(L:b=st [])(hs:∀i c rest P,i++c::rest=x->uY s P->ej M A (f c<|st i) (λr P=>r=.yield (st<|i++[c])/\uY s P) E P)(h:∀P,uY s P->ej M A (g<|st x) Q E P):ej M A (forIn (#[x]:Array N) b f>>=g) Q E s:=
 aT (wpAny_forIn_array' f (λrest b P=>∃i,i++rest=x/\b=st i/\uY s P) _ (λc rest b P q=>kK q λi K O e=>by
  rw[O▸(ux (hs i c rest P K e) λr d z=>(z.1▸(eo (i++[c]) ((b4 ..).trans K) rfl z.2))) λJ J U=>U])
  (λb P q=>kK q λi K O e=>by rw[O,(bQ i).symm.trans K];rw[h P e]) _ _<|eo [] rfl L<|.mk _ _ aV)
def arE{x:!N}(H:s.heap.MapOf (pC pw w) d f)(u:1<d)(J:A.handled=none)(W:x≠[])(hz:x.length<=1000)(R:x.all (·<128)=false)(hv:∀c∈x,f (c:Int)=none)(h:∀h' tk k,(∀b o,s.heap.get? b=some o->h'.get? b=some o)->Q (.str #[#[x]] k) {s with heap:=h',toks:=tk}):ej (aE pw w) A (call (.builtin "str.translate") [.str #[#[x]] t,.ref d]) Q E s:=by
 rw[zg F.slot_str_translate rfl F.entry_str_translate (asB (by lk:Builtin.Str.strOneArg "translate" #[_,[]]=pure (.str #[#[x]] t,#[#[x]],.ref d))<|wE (λz=>kZ<|(by show(x.length==0)=false;simpa using W:((#[#[x]]:aA).length==0)=false).symm.trans z)<|arD (st:=λi=>(i.reverse.map λc=>#[(List.toArray [c])],i.length,false,[],false)) ?_ ?_ ?_)<|F.args_str_translate_2 _ _]
 .rw[(by rw[Sj▸R]:(⟨⟨x⟩⟩:aA).cps.all (λx=>decide<|x<128)=false)▸rfl]
 .intro i c y P K q
  refine q.casesOn λh' tk n=>wE (λz=>kZ<|(decide_eq_false (by have:eG=16777216:=rfl;rw[afY hz (by rw[K▸?_];simp) this])).symm.trans z) ?_;rw[wE kZ (wE kZ<|aT<|afo (MapOf.keeps H n) (hv c<|K▸dY _ (.head _)) u J λg j a=>bK #[by simp,.mk _ _ λb o e=>a b o<|n b o e])]
 .intro P q
  refine q.casesOn λh' tk n=>wE (λz=>kZ<|(decide_eq_false (by have:eG=16777216:=rfl;rw[afZ hz this])).symm.trans z) ?_;have r:∀(l:!N) (m:Array N),(l.map λc=>(#[(List.toArray [c])]:aA)).foldl (λm p=>m++p.cps) m=m++#[l]:=by
   intro l;induction l with
   |nil=>intro m;simp
   |cons c l C=>intro m;simp only[bW,S6,C];apply h_;simp
  have U:(#[((x.reverse.map λc=>(#[(List.toArray [c])]:aA)).reverse).foldl (λm p=>m++p.cps) (List.toArray [])]:aA)=#[#[x]]:=by rw[<-nj,List.reverse_reverse,r];congr 1;apply h_;simp
  rw[U▸(aT<|wpAny_mkStr (bK<|bA _ rfl<|h _ _ _ n)<|Mb hz)]
end
section
variable(D t1 sz tk U J K tp p bb bo bl bs a8 db c1 o c3 da ck t4:N) (G a7:!N) (k a6 ca:Int) (st c2 ch dd:af) (pb c0:!af) (x:Wd) (Y bt b0 ds:ao)
def NR:av:=ex x aj 500 (.fn 893 #[[ah (D::G) t1],[]])<|cf [] sz tk (H 0x56bf0661501501501501c5011401201201201201201120110c50111012012012012012011201201110c5011101101100110061c10bf0fb01bf0fb060f00f00f00f010f00f01c106fb066161116c00ffff1ff11c00c000d00d00d00d010d00d011c00c00c00fb01bf01bf0fb06c0016fb066fb066fb0661666d500c0110c010c01920d1cc1fe0c1fe0c0c00c0920410b0dcc10c1fe0c1fe0c0b010b0d50d50d500b0c100b01110b0110b010b010b0c100b01110b0c40c4014c10c1c11fe0fe0b909fe09c109999999411b9061c1061166aa0aa014c10313fe0b905155) [] [] Y
def KD(x:Wd)(sz:N):Ko:=(NR 0 0 sz 0 [] x []).resume
def Z4:∀(x:Wd) Y,Ev (NR D t1 sz tk G x Y) Y [7,1,13,0,3,2,8,11,12,19] (.pend 490 aj (.call (.builtin "str.translate") #[[.str iT<|tk+96,.ref<|sz+19],[]])<|KD x sz) ([]++[((sz+7),qU x.P (tk+18) (tk+21) (tk+24) t1 (tk+22) 0 (D::G)),((sz+1),rM x.P sz tk (tk+96) (b8 32<|tk+68) (.str bN<|tk+79)<|.int 1<|tk+73),((sz+13),aP 0 []),(sz,az [V x.P jP tk<|ah (D::G) t1] 1),((sz+3),az [V x.P bx (tk+2)<|.ref<|sz+2,V x.P EE (tk+3)<|.ref<|sz+8,V x.P ED (tk+4) .none,V x.P EG (tk+5)<|.bool true,V x.P Qk (tk+6)<|.str EI<|tk+1,V x.P Qm (tk+106)<|.ref<|sz+19] 6)]) [((sz+2),cT sz),((sz+8),cw<|sz+7),((sz+11),aP 0 []),((sz+12),aP 0 []),((sz+19),ak [#[59,.int (59)<|tk+104,.none]] 1)] [] []:=cS
def NS:av:=KD x sz (.ok<|.ret<|.str iT U)<|cf [(sz+7,qU x.P (tk+18) (tk+21) (tk+24) t1 (tk+22) 0 (D::G)),(sz+1,rM x.P sz tk (tk+96) (b8 32<|tk+68) (.str bN<|tk+79)<|.int 1<|tk+73),(sz+13,aP 0 []),(sz,az [V x.P jP tk<|ah (D::G) t1] 1),(sz+3,az [V x.P bx (tk+2)<|.ref<|sz+2,V x.P EE (tk+3)<|.ref<|sz+8,V x.P ED (tk+4) .none,V x.P EG (tk+5)<|.bool true,V x.P Qk (tk+6)<|.str EI<|tk+1,V x.P Qm (tk+106)<|.ref<|sz+19] 6)] J K (H 0xa506aa0444fd07) [] [(sz+2,cT sz),(sz+8,cw<|sz+7),(sz+11,aP 0 []),(sz+12,aP 0 [])] bt
def KE(x:Wd)(sz:N):Ko:=(NS 0 0 sz 0 0 0 0 [] x []).resume
def Z5:∀(x:Wd) c,Ev (NS D t1 sz tk U J K G x c) c [0,1,2,3,6,5] (.pend 497 aj (.call (.ref 810) #[[.ref<|sz+2],[]])<|KE x sz) ([((sz+7),qU x.P (tk+18) (tk+21) (tk+24) t1 (tk+22) 0 (D::G)),((sz+1),rM x.P sz tk U (b8 32<|tk+68) (.str bN<|tk+79)<|.int 1<|tk+73),((sz+13),aP 0 [])]++[(sz,az [V x.P jP tk<|ah (D::G) t1,V x.P EF (K+2)<|.ref<|sz+2,V x.P bV (K+3)<|.ref<|J+1] 3),((J+1),aa #[[.ref J]] 0),(J,aa #[[]] 0)]) [] [] []:=cS
def NT:av:=KE x sz (.ok<|.ret<|ah a7 bl)<|cf [(sz+7,qU x.P (tk+18) (tk+21) (tk+24) t1 tp p (D::G)),(sz+1,rM x.P sz tk U st (.str bN bb)<|.int k bo),(sz+13,aP a6 pb),(sz,az [V x.P jP tk<|ah (D::G) t1,V x.P EF (K+2)<|.ref<|sz+2,V x.P bV (K+3)<|.ref<|J+1] 3),(J+1,aa #[[.ref J]] 0),(J,aa #[[]] 0)] bs a8 [4,4,1] [] [(sz+2,cT sz),(sz+8,cw<|sz+7),(sz+11,aP 0 []),(sz+12,aP 0 [])] b0
def KF(x:Wd)(sz:N):Ko:=(NT 0 0 sz 0 0 0 0 0 0 0 0 0 0 0 [] [] 0 0 .none [] x []).resume
def Z6:∀(x:Wd) f,Ev (NT D t1 sz tk U J K tp p bb bo bl bs a8 G a7 k a6 st pb x f) f [0,1,2,3,4,5] (.pend 497 aj (mU sz)<|KF x sz) ([((sz+7),qU x.P (tk+18) (tk+21) (tk+24) t1 tp p (D::G)),((sz+1),rM x.P sz tk U st (.str bN bb)<|.int k bo),((sz+13),aP a6 pb),(sz,im x.P (D::G) sz (J+1) tk t1 (K+2) (K+3) a8<|ah a7 bl),((J+1),aa #[[.ref J]] 0),(J,aa #[[]] 0)]++[]) [] [] []:=cS
def Z7:∀(x:Wd) y,Ev (KF x sz (.ok .next)<|cf [(sz+7,qU x.P (tk+18) (tk+21) (tk+24) t1 db c1 (D::G)),(sz+1,rM x.P sz tk U c2 (.str bN da) ch),(sz+13,aP ca c0),(sz,im x.P (D::G) sz o tk t1 (K+2) (K+3) c3 dd)] ck t4 [4] [] [] y) y [] (.res<|.ok<|.ret<|.ref o) [] [] [] []:=cS
end
def bg.keeps{x:Wd}{F:Fs}{L:ao}{B s:aN}{h':iz}{tk:N}(S:bg x F L B s)(hk:∀b o,s.heap.get? b=some o->h'.get? b=some o):bg x F L B {s with heap:=h',toks:=tk}:=#[S.base,λa o U=>hk _ _<|S.rep.fr a o U,λp I=>hk _ _<|S.rep.led p I,S.rep.nd,S.rep.dj,rfl,rfl,S.rep.rest,λK U=>(cQ U).elim,#[λK U=>(nomatch U),λK U=>(cQ U).elim,.nil,λK U=>(nomatch U)]]
def alA{s:aN}(h:s.heap.get? d=some #[.type "dict",none,.dict #[[#[59,.int 59 t,.none]]] 1,#[[]]]):s.heap.MapOf (pC pw w) d (λk=>if(59:Int)=k then some .none else none):=by
 rw[Jt _ _ _ h (by unfold Obj.ExactDict;simp) rfl ?_ λk=>?_]
 .intro e a
  have:e=#[59,.int 59 t,.none]:=by simpa using a
  subst this;rw[bA 59 (by simp[pC,AD]) (by show 59=hashInt 59;decide+kernel)]
 .by_cases c:59=k
  .subst c;simp[findBy,pC,AD]
  .simp[findBy,pC,AD,c]
def Yo(g:F d #[.type "dict",none,.dict #[[#[59,.int 59 u,.none]]] 1,#[[]]])(a:1<d)(C:fL b aj A)(S:bg x F L D s){R:aL->Fs->ao->Prop}(f:∀t,R (.ok<|.ret<|.str iT t) F []):fi (aE pw x.W) A (.call (.builtin "str.translate") ⟨[.str iT t,.ref d],[]⟩) (λr P=>∃F' L',Le F F'/\bg x F' (L'++L) D P/\R r F' L') s:=by
 rw[gN (lA (E:=λJ J=>False) (Q:=λv P=>∃t,v=.str iT t/\bg x F L D P)<|arE (alA<|S.rep.fr _ _ g) a C.2.1 (by decide+kernel) (by decide+kernel) (by decide+kernel) (λZ e=>?_) λh K k c=>bA k rfl<|S.keeps c) ?_]
 .have:=r_.mp (by decide+kernel:wc.all (λZ=>59≠(Z:Int))=true) Z e
  rw[if_neg<|by simpa using this,]
 .intro r P U
  split at U
  .rw[aJ U λt H W=>?_]
   subst H;rw[bY F [] aV W<|f t]
  .rw[U.elim]
  .rw[U.elim]
inductive QV (p:PV) (F':Fs):aL->ao->Prop
 |mk (v) (h:Rp F' p v):QV p F' (.ok (.ret v)) []
set_option tactic.hygienic true in
def arh(M:2<=l.length)(Q:l.length<=9999)(X:lh (some 32) [] l (k::a6))(hz:a6.length<=9000):ay x aj 500 (.call (.ref 893) #[[.str #[#[l]] t1],[]]) F [] (QV<|.lst<|(jo [] [] (k::a6)).map dG):=by
 cases l with
 |nil=>simp at M
 |cons p t=>
  refine fv (O:=[]) ab λn D=>ZK (Z4 p t1 n D t x) ab ab λw B s A C H=>Yo (bc<|.tail _<|.tail _<|.tail _<|.tail _<|.head _) (by rw[aiC]) C H λI=>?_;have g:Rd #[n,D,I,D+18,D+21,D+24,t1,p::t]:=#[M,by show(p::t).length<=10000;rw[aiD Q]];cases X with
  |cons S o P Y j=>
   rename_i Z r s b e;have W:FG #[n,D,I,D+18,D+21,D+24,t1,p::t] (fz F [(n+2,cT n),(n+8,cw<|n+7),(n+11,aP 0 []),(n+12,aP 0 []),(n+19,#[.type "dict",none,.dict #[[#[59,.int 59<|D+104,.none]]] 1,#[[]]])]):=#[bc<|.head _,bc<|.tail _<|.head _,bc<|.tail _<|.tail _<|.head _,bc<|by simp,ab]
   rw[⟨_,_,_,W,λJ G=>jH (Z5 p t1 n D I J G t x) ab ab ((EV g (W.le an) S Y o P rfl #[#[_,0,0,true,.none,_,_,_,_,_,0]]).le ζ λ_ _ _ _ U=>U) λbb bs h a q=>(q.casesOn λbl z y bo=>bo.casesOn λf=>?_)⟩];have L:=(W.le an).le a;rw[#[_,_,_,L,λa7 E=>jH (Z6 p t1 n D I J G f.tp z f.ut f.uk bl a7 E t k f.k f.dn (kv s f.us) (b.map (b8 · f.ts)) x) ab ab ((aft g j (d:=[]) (c:=[]) (L.le an) y .nil .nil<|by simpa using hz).le ζ λ_ _ _ _ U=>U) λbb bt h m q=>(q.casesOn λT K u i ac=>#[_,_,[],ab,λa8 R=>bp (Z7 p t1 n D I G T.tp i (J+1) E T.ut a8 R t T.dn (kv K T.us) (.int T.k T.uk) .none (u.map (b8 · T.ts)) x) ab ab (dR (cb<|dR (cb an) a) m) #[_,ac.to an]])]]
def nJ(w:!N):Prop:=w≠[]/\∀Z∈w,Lt Z
def aly{w f k pb e:!N}:∀{l},(∀c∈w,Lt c)->Lx 97 (D::l++w) f k s pb e->Lx 97 (D::l) (w++f) k s pb e:=by
 induction w with
 |nil=>intro l _ U;rwa[bQ]at U
 |cons c w C=>intro l Y U;rw[.aw (Y c<|.head _)<|C (l:=l++[c]) (λd t=>Y d<|.tail _ t)<|by simpa using U]
def MS:∀{w},w≠[]->Lx 97 w [] w none [] []
 |[],U=>absurd rfl U
 |_::_,_=>.ae
def alx(d:c=32\/c=9):∀{w},w≠[]->Lx 97 w (c::r) w (some 32) [] r
 |[],U=>absurd rfl U
 |_::_,_=>.as d
def alw:∀{w},w≠[]->Lx 97 w (59::r) w (some 32) [59] r
 |[],U=>absurd rfl U
 |_::_,_=>.ap
def Du(u:q=39\/q=34){w f k pb e:!N}:∀{b},(∀c∈w,Lt c)->Lx 97 (b++w) f k s pb e->Lx q b (w++q::f) k s pb e:=by
 induction w with
 |nil=>intro b _ U;rw[bQ]at U;rw[.qe u U]
 |cons c w C=>intro b Y U;rw[.qw u (Y c<|.head _)<|C (λd t=>Y d<|.tail _ t)<|by rwa[b4]]
def uW(c:N):Prop:=Lt c\/c=92\/c=39\/c=34
def MR{w f pb e:!N}(n)(Y:nJ w)(h:Lx 97 w f w s pb e):∃c r,cz w n++f=c::r/\uW c/\oR c r w s pb e:=by
 rw[ct Y λO g=>fW (jY O) λc b P=>?_];subst P;have a:=λd t=>g d<|.tail _ t;have S:=h;unfold cz;split
 .rw[bY 39 ((c::b)++39::f) (by simp) (.inr<|.inr<|.inl rfl)<|.inr<|.inr<|.inr #[.inl rfl,Du (.inl rfl) g h]]
 .rw[bY 34 ((c::b)++34::f) (by simp) (.inr<|.inr<|.inr rfl)<|.inr<|.inr<|.inr #[.inr rfl,Du (.inr rfl) g h]]
 .rw[bY 92 (c::39::(b++39::f)) (by simp) (.inr<|.inl rfl)<|.inr<|.inl #[rfl,.xx (g c<|.head _)<|.aq<|Du (.inl rfl) a S]]
 .rw[bY c (b++f) rfl (.inl<|g c<|.head _)<|.inl #[g c<|.head _,aly a S]]
def Gv(a:!N)(t:!(!N)):Prop:=∀w Q,w++Q=a->w.length<=1->lh (some 32) w Q t
def rZ(f:!N)(t:!(!N)):Prop:=∀T n,nJ T->(cz T n++f).length<=9999->Gv (cz T n++f) (T::t)
def BX{r k pb e:!N}(X:oR c r k s pb e)(hz:r.length<=9999)(h:lh s pb e D):Gv (c::r) (k::D):=λw Q K O=>.cons X K O hz h
def BZ{w f pb e:!N}(Y:nJ w)(hz:(cz w n++f).length<=9999)(h:Lx 97 w f w s pb e)(h':lh s pb e D):Gv (cz w n++f) (w::D):=by rw[cp (MR n Y h) λZ r K U a=>?_];rw[K]at hz⊢;rw[BX a (ahQ hz) h']
def Zm:rZ [] []:=λT n Y Z=>BZ Y Z (MS Y.1) .nil
def BM(d:c=32\/c=9)(h:Gv g D):rZ (c::g) D:=λT n Y Z=>BZ Y Z (alx d Y.1)<|h [] g rfl<|ζ
def Ie(h:Gv (59::g) D):rZ (59::g) D:=λT n Y Z=>BZ Y Z (alw Y.1)<|h [59] g rfl<|ζ
def IA(d:c=32\/c=9\/c=10)(hz:g.length<=9998)(h:Gv g D):Gv (59::c::g) ([59]::D):=BX (.inr<|.inr<|.inl #[rfl,.cs d]) (Mx hz)<|h [] g rfl<|ζ
def Iz(d:uW c)(hz:g.length<=9998)(h:Gv (c::g) D):Gv (59::c::g) ([59]::D):=BX (.inr<|.inr<|.inl #[rfl,.co d]) (Mx hz)<|h [c] g rfl<|d8 1
def Zn(C:∃c r,g=c::r/\uW c)(hz:g.length<=9990)(h:Gv g D):rZ (gG x++g) ([59]::D):=by
 rw[nZ C λc r P d=>?_];subst P;unfold gG;split
 .rw[Ie<|Iz d (My hz) h]
 .rw[BM (.inl rfl) (IA (.inl rfl) (by show(c::r).length<=9998;simp only[dN];rw[Mz hz]) h)]
 .rw[Ie (IA (.inr<|.inr rfl) (by show(c::r).length<=9998;simp only[dN];rw[Mz hz]) h)]
 .rw[BM (.inr rfl)<|Iz d (My hz) h]
def BY(R:rZ f D):∀(o q),o≠[]->(∀w∈o,nJ w)->(qY (rO o q)++f).length<=9999->Gv (qY (rO o q)++f) (o++D)
 |[],_,U,_,_=>absurd rfl U
 |[a],q,_,Y,Z=>R a q (Y a<|.head _) Z
 |a::b::r,q,_,Y,Z=>by
  have e:qY (rO (a::b::r) q)++f=cz a q++32::(qY (rO (b::r)<|q+1)++f):=by show(cz a q++32::qY (rO (b::r)<|q+1))++f=_;rw[b4,];rfl
  rw[e]at Z⊢;rw[BM (.inl rfl) (BY R (b::r) (q+1) (dl _ _) (λw d=>Y w<|.tail _ d) ?_) a q (Y a<|.head _) Z];simp only[cv,dN]at Z⊢;rw[ahR Z]
def rE(am:!N):N->!(List<|List N)->!N
 |_,[]=>[]
 |j,o::rest=>gG (dz am j)++(iS am j o++rE am (j+1) rest)
def OY(am):∀(j k jl),fY am (k+1) j jl=jl++rE am (k+1) j:=by
 intro J;induction J with
 |nil=>intro k jl;rw[(bQ _).symm]
 |cons o Q C=>intro k jl;show fY am (k+2) Q (jl++(if k+1=0 then[]else gG (dz am<|k+1))++iS am (k+1) o)=_;rw[C<|k+1,if_neg<|ahS];simp only[b4];rfl
def lX:!(List<|List N)->!(!N)
 |[]=>[]
 |o::rest=>[59]::(o++lX rest)
def qJ(o:!(!N)):Prop:=o≠[]/\∀T∈o,nJ T
def aqu(n)(Y:nJ w):∃c r,cz w n=c::r/\uW c:=cp (MR n Y<|MS Y.1) λc r e U K=>ki c r (by simpa using e) U
def apG(h:qJ D)(g):∃c r,iS am k D++g=c::r/\uW c:=by
 obtain⟨O,Y⟩:=h;rw[fW (jY O) λa l P=>?_];subst P;rw[nZ (aqu (dz am k/4)<|Y a<|.head _) λc r e d=>?_];cases l with
 |nil=>rw[ki c (r++g) (by show cz a _++g=_;rw[e,];rfl) d]
 |cons b l=>rw[ki c _ (by show(cz a _++32::_)++g=_;rw[e,];rfl) d]
def Zo(am):∀(j k),(∀o∈j,qJ o)->(rE am k j).length<=9990->rZ (rE am k j) (lX j):=by
 intro J;induction J with
 |nil=>intro _ _ _;rw[Zm]
 |cons o Q C=>
  intro k U Z;have A:=U o<|.head _;have a:(gG (dz am k)++(iS am k o++rE am (k+1) Q)).length<=9990:=Z;simp only[cv]at a;rw[Zn (apG A _) (by rw[cv,];rw[ahT a]) (BY (C (k+1) (λr A=>U r<|.tail _ A)<|ahU a) o _ A.1 A.2 (by rw[cv,];rw[ahV a]))]
def aol(am)(h:∀r∈D::rest,qJ r)(hz:(fY am 0 (D::rest) []).length<=9990):lh (some 32) [] (fY am 0 (D::rest) []) (D++lX rest):=by
 have e:fY am 0 (D::rest) []=iS am 0 D++rE am 1 rest:=by show fY am 1 rest ([]++(if 0=0 then[]else gG (dz am 0))++iS am 0 D)=_;rw[OY,if_pos rfl];rfl
 rw[e]at hz⊢;rw[cv]at hz;have A:=h D<|.head _;rw[BY (Zo am rest 1 (λr A=>h r<|.tail _ A)<|ahW hz) D (dz am 0/4) A.1 A.2 (by rw[cv,];rw[ahX hz]) [] _ rfl<|ζ]
def aqp(h:nJ w):w≠[59]:=λe=>by
 have:=(h.2 59<|e▸.head _).pu;have z:eD #[#[[59]]] #[#[[59]]]=true:=by lk
 rw[this]at z;rw[oL z]
def PR:∀(o d c t),(∀w∈o,nJ w)->jo d c (o++t)=jo d (c++o) t:=by
 intro J;induction J with
 |nil=>intro d c t _;rw[bQ,];rfl
 |cons w o C=>intro d c t U;rw[SS,Ex<|aqp<|U w<|.head _,C d (c++[w]) t λv X=>U v<|.tail _ X,b4];rfl
def apI:∀(rest d c),(∀r∈rest,qJ r)->jo d c (lX rest)=d++c::rest:=by
 intro J;induction J with
 |nil=>intro d c _;rw[rfl]
 |cons o rest C=>intro d c U;show jo (d++[c]) [] (o++lX rest)=_;simp only[PR o _ _ _ (U o<|.head _).2,qx,C (d++[c]) o λr A=>U r<|.tail _ A,b4];rfl
def aom(h:∀r∈D::rest,qJ r):jo [] [] (D++lX rest)=D::rest:=by rw[PR D [] [] _ (h D<|.head _).2,qx,apI rest [] D λr A=>h r<|.tail _ A];rfl
section
variable(so sd nd tp tf ne D a sz tk:N) (u:N->N) (po nf:Int) (rd:af) (es:!bv) (k:!N) (x:Wd) (Y:ao)
def ZG:Ev (ex x aj 150 (.fn 105 #[[.ref so,ah k D],[]])<|cf [(sd,js x.P u nd rd po tp nf tf),(nd,ak es ne)] sz tk (H 0x3133541b03a90c203333) [.ref a] [(so,a9 sd)] Y) Y [0,1] (.res<|.ok<|.ret<|.ref a) [(sd,js x.P u nd rd po tp nf tf),(nd,ak es ne)] [] [] [cR (aI "dict") es #[#[k]]<|aF a]:=by lk
def ZH:Ev (ex x aj 150 (.fn 105 #[[.ref so,ah k D],[]])<|cf [(sd,js x.P u nd rd po tp nf tf),(nd,ak es ne)] sz tk (H 0x3334541f0443c20d808d808d808888884c10717fe0b9031133541d03a90c203333) [] [(so,a9 sd)] Y) Y [0,1,4,6] (.res<|.ok<|.ret<|.ref<|sz+2) [(sd,js x.P u nd rd po tp nf tf),(nd,ak (es++[V x.P #[#[k]] D<|aF<|sz+2])<|ne+1),((sz+2),c8 (sz+1) (sz+4) (0) (tk+8)<|ah k D),((sz+4),aa #[[]] 0)] [] [] [j4 (aI "dict") es #[#[k]],Gs (aI "dict") es #[#[k]] nd]:=by lk
end
structure Nd where
 a:N
 d:N
 b:N
 k:!N
 tk:N
 np:Int
 tp:N
 ss:!(!N×N)
 nb:N
abbrev ax(p:!N×N):af:=.str #[#[p.1]] p.2
abbrev Nd.ob(n:Nd):aH×Obj:=(n.a,c8 n.d n.b n.np n.tp<|.str #[#[n.k]] n.tk)
abbrev Nd.ls(n:Nd):aH×Obj:=(n.b,aa #[n.ss.map ax] n.nb)
def Gr:!Nd->ao
 |[]=>[]
 |n::l=>n.ob::n.ls::Gr l
def aG(P:eI)(ns:!Nd):!bv:=ns.map λn=>V P #[#[n.k]] n.tk<|.ref n.a
abbrev PG:=List<|List N×Int×!(!N)
def Nd.pg(n:Nd):!N×Int×!(!N):=(n.k,n.np,n.ss.map (·.1))
def bz(k:!N)(f:Int×!(!N)->Int×!(!N)):PG->PG
 |[]=>[(k,f (0,[]))]
 |x::g=>if x.1=k then(k,f x.2)::g else x::bz k f g
def ZY:∀(l r),Gr (l++r)=Gr l++Gr r:=by
 intro J;induction J with
 |nil=>intro _;rw[rfl]
 |cons n l C=>intro r;show n.ob::n.ls::Gr (l++r)=_;rw[C r,];rfl
def xM(l n r):(Gr (l++n::r)).Perm (n.ob::n.ls::(Gr l++Gr r)):=by simp only[ZY];rw[wM.trans<|.cons _ wM]
def oH(P ns):iV (aG P ns)=true:=by unfold iV aG;rw[FF,];rw[r_.mpr λU U=>rfl]
def tj:gi #[#[k]] (V P #[#[K]] t v)=decide (K=k):=by show((#[#[K]]:aA)==#[#[k]])=_;rw[qg,];simp
def Dy(P k):∀(ns),(∃l n r,ns=l++n::r/\n.k=k/\(∀m∈l,m.k≠k)/\d5 (aG P ns) #[#[k]]=some (.ref n.a))\/((∀m∈ns,m.k≠k)/\d5 (aG P ns) #[#[k]]=none):=by
 intro J;induction J with
 |nil=>rw[.inr #[λK U=>(nomatch U),rfl]]
 |cons n ns C=>
  have d:d5 (aG P (n::ns)) #[#[k]]=if n.k=k then some (.ref n.a)else d5 (aG P ns) #[#[k]]:=by
   unfold d5;show wU _ (List.find? _ (V P #[#[n.k]] n.tk (.ref n.a)::aG P ns))=_;simp only[uJ,tj];by_cases U:n.k=k
   .rw[decide_eq_true U,if_pos U];rfl
   .rw[decide_eq_false U,if_neg U]
  by_cases U:n.k=k
  .rw[.inl (B8 [] n ns rfl U (λK U=>(nomatch U))<|by rw[d,if_pos U])]
  .rw[d▸(if_neg U)▸?_]
   rcases C with⟨l,m,r,rfl,a,M,X⟩|⟨a,M⟩
   .rw[.inl<|B8 (n::l) m r rfl a (λq u=>(aY.mp u).elim (λe=>e▸U)<|M q) X]
   .rw[.inr ⟨λq u=>(aY.mp u).elim (λe=>e▸U)<|a q,M⟩]
def RS:∀{l},(∀m∈l,m.1≠k)->bz k f (l++(k,y)::g)=l++(k,f y)::g:=by
 intro J;induction J with
 |nil=>intro _;show(if k=k then _ else _)=_;rw[if_pos rfl,];rfl
 |cons x l C=>intro U;show(if x.1=k then _ else _)=_;rw[if_neg<|U x<|.head _,];rw[congrArg (x::·)<|C λm H=>U m<|.tail _ H]
def ar_:∀{l},(∀m∈l,m.1≠k)->bz k f l=l++[(k,f (0,[]))]:=by
 intro J;induction J with
 |nil=>intro _;rw[rfl]
 |cons x l C=>intro U;show(if x.1=k then _ else _)=_;rw[if_neg<|U x<|.head _,C λm H=>U m<|.tail _ H];rfl
structure At (ns:!Nd) (k:!N) (l:!Nd) (n:Nd) (r:!Nd):Prop where
 nk:n.k=k
 upd:∀f,bz k f (ns.map Nd.pg)=l.map Nd.pg++(k,f (n.np,n.ss.map (·.1)))::r.map Nd.pg
 mem:∀q∈l++n::r,q∈ns\/q.ss=[]
structure Sg where
 so:N
 sd:N
 nd:N
 u:N->N
abbrev Sg.D(S:Sg)(P:eI)(rd:af)(po:Int)(tp:N)(nf:Int)(tf:N):aH×Obj:=(S.sd,js P S.u S.nd rd po tp nf tf)
abbrev Sg.N(S:Sg)(es:!bv)(ne:N):aH×Obj:=(S.nd,ak es ne)
inductive Gy (x:Wd) (S:Sg) (rd:af) (po nf:Int) (tp tf:N) (ns:!Nd) (k:!N) (F':Fs):aL->ao->Prop
 |mk {L':ao} (l n rr ne') (h1:At ns k l n rr) (h2:(l++n::rr).length<=ns.length+1) (h3:L'.Perm ([S.D x.P rd po tp nf tf,S.N (aG x.P (l++n::rr)) ne']++Gr (l++n::rr))):Gy x S rd po nf tp tf ns k F' (.ok (.ret (.ref n.a))) L'
def uv(W:F S.so (a9 S.sd))(w:1<S.nd)(d:es=aG x.P ns)(hz:ns.length<=10000):ay x aj 150 (.call (.ref 105) #[[.ref S.so,.str #[#[k]] t],[]]) F ([S.D x.P rd po tp nf tf,S.N es ne]++Gr ns) (Gy x S rd po nf tp tf ns k):=by
 subst d;obtain⟨h,i,g,c⟩:=S;rcases Dy x.P k ns with⟨l,n,r,rfl,b,M,X⟩|⟨b,M⟩
 .rw[lY (O:=[(_,_)]) #[W,ab] λB K=>bp (ZG h i g tp tf ne t n.a B K c po nf rd (aG x.P (l++n::r)) k x) ab #[#[dM,oH _ _,X],ab] (aV) #[l,n,r,ne,#[b,λf=>(bf▸bW▸?_),λq u=>.inl u],oZ _,.refl _]]
  have e:n.pg=(k,n.np,n.ss.map (·.1)):=by rw[b▸?_];rfl
  exact e▸RS λE H=>by obtain⟨q,u,rfl⟩:=bn.mp H;rw[M q u]
 .rw[lY (O:=[(_,_)]) #[W,ab] λB K=>bp (ZH h i g tp tf ne t B K c po nf rd (aG x.P ns) k x) ab #[#[dM,oH _ _,M,?_],#[dM,oH _ _,M,w],ab] (aV) #[ns,#[B+2,B+1,B+4,k,t,0,K+8,[],0],[],ne+1,#[rfl,λf=>?_,λq u=>(ek.mp u).elim .inl λU=>.inr<|by rw[iA.mp U,]],by simp,?_]]
  .show(aG x.P ns).length<=16777216
   unfold aG;rw[aU,];rw[tZ hz]
  .exact ar_ λE H=>by obtain⟨q,u,rfl⟩:=bn.mp H;rw[b q u]
  .have e:aG x.P (ns++[#[B+2,B+1,B+4,k,t,0,K+8,[],0]])=aG x.P ns++[V x.P #[#[k]] t<|.ref<|B+2]:=by unfold aG;simp only[bf];rfl
   rw[e▸(.cons _<|.cons _ ?_)];have a:=(xM ns #[B+2,B+1,B+4,k,t,0,K+8,[],0] []).symm;simp only[show Gr []=[]from rfl,bQ]at a;rw[a]
section
variable(S:Sg) (so sd nd tp tf ne D sz tk J a7 bl a d b c1 U K ch a8 bt b1 c2 ca db c0 d0 dd du da d2 dV eb t4:N) (u:N->N) (po nf bo ck d1:Int) (es bb b0 dx:!bv) (k G a6:!N) (v c3 d3:af) (bs ds:!af) (x:Wd) (Y dt ea ec:ao)
def Nf:av:=ex x aj 250 (.fn 112 #[[.ref S.so,ah k D],[]])<|cf [(S.D x.P .none po tp nf tf),S.N es ne] sz tk (H 0xb70) [] [(S.so,a9 S.sd)] Y
def Ke(x:Wd)(sz:N):Ko:=(Nf #[0,0,0,λn=>n] 0 0 0 0 sz 0 0 0 [] [] x []).resume
def TR:Ev (Nf S tp tf ne D sz tk po nf es k x Y) Y [0,1,2,3] (.pend 247 aj (.call (.ref 105) #[[.ref S.so,ah k D],[]])<|Ke x sz) ([(S.D x.P .none po tp nf tf),S.N es ne]++[(sz,aD []),((sz+1),az [V x.P bx tk<|.ref S.so,V x.P bX (tk+1)<|ah k D,V x.P kT (tk+2)<|.ref sz] 3)]) [] [] []:=by lk
def Nh:av:=ex x aj 250 (.fn 112 #[[.ref S.so,ah k D,ah G J],[]])<|cf [(S.D x.P .none po tp nf tf),S.N es ne] sz tk (H 0xb70) [] [(S.so,a9 S.sd)] Y
def Kf(x:Wd)(sz:N):Ko:=(Nh #[0,0,0,λn=>n] 0 0 0 0 sz 0 0 0 0 [] [] [] x []).resume
def TU:Ev (Nh S tp tf ne D sz tk J po nf es k G x Y) Y [0,1,2,3] (.pend 247 aj (.call (.ref 105) #[[.ref S.so,ah k D],[]])<|Kf x sz) ([(S.D x.P .none po tp nf tf),S.N es ne]++[(sz,aD [ah G J]),((sz+1),az [V x.P bx tk<|.ref S.so,V x.P bX (tk+1)<|ah k D,V x.P kT (tk+2)<|.ref sz] 3)]) [] [] []:=by lk
def Nj:av:=ex x aj 250 (.fn 112 #[[.ref S.so,ah k D,ah G J,ah a6 a7],[]])<|cf [(S.D x.P .none po tp nf tf),S.N es ne] sz tk (H 0xb70) [] [(S.so,a9 S.sd)] Y
def Kh(x:Wd)(sz:N):Ko:=(Nj #[0,0,0,λn=>n] 0 0 0 0 sz 0 0 0 0 0 [] [] [] [] x []).resume
def TY:Ev (Nj S tp tf ne D sz tk J a7 po nf es k G a6 x Y) Y [0,1,2,3] (.pend 247 aj (.call (.ref 105) #[[.ref S.so,ah k D],[]])<|Kh x sz) ([(S.D x.P .none po tp nf tf),S.N es ne]++[(sz,aD [ah G J,ah a6 a7]),((sz+1),az [V x.P bx tk<|.ref S.so,V x.P bX (tk+1)<|ah k D,V x.P kT (tk+2)<|.ref sz] 3)]) [] [] []:=by lk
def TS:∀(x:Wd) c,Ev (Ke x sz (.ok<|.ret<|.ref a)<|cf [(S.D x.P .none po tp nf tf),S.N bb bl,(sz,aD []),((sz+1),az [V x.P bx tk<|.ref S.so,V x.P bX (tk+1)<|ah k D,V x.P kT (tk+2)<|.ref sz] 3),(a,c8 d b bo c1 v)] U K (H 0xdeb0) [] [(S.so,a9 S.sd)] c) c [0,1,4] (.res<|.ok<|.ret .none) [(S.D x.P .none po tp nf tf),S.N bb bl,(a,c8 d b (bo+(0:Int)) (K+4)<|v)] [] [] []:=cS
def Ni:av:=Kf x sz (.ok<|.ret<|.ref a)<|cf [(S.D x.P .none po tp nf tf),S.N bb bl,(sz,aD [ah G J]),((sz+1),az [V x.P bx tk<|.ref S.so,V x.P bX (tk+1)<|ah k D,V x.P kT (tk+2)<|.ref sz] 3),(a,c8 d b bo c1 v)] U K (H 0x5165ee0666eb0) [] [(S.so,a9 S.sd)] dt
def Kg(x:Wd)(sz:N)(J:N):Ko:=(Ni #[0,0,0,λn=>n] 0 0 0 sz 0 0 0 0 0 0 0 J 0 0 0 0 [] [] [] .none x []).resume
def TV:∀(x:Wd) c,Ev (Ni S tp tf D sz tk J bl a d b c1 U K po nf bo bb k G v x c) c [0,1,2,3,4,5] (.pend 246 aj (.call (.ref 105) #[[.ref S.so,ah G J],[]])<|Kg x sz U) ([(S.D x.P .none po tp nf tf),S.N bb bl]++[(sz,aD [ah G J]),((sz+1),az [V x.P bx tk<|.ref S.so,V x.P bX (tk+1)<|ah k D,V x.P kT (tk+2)<|.ref sz,V x.P eF K<|.ref a,V x.P ur (K+6)<|ah G J] 5),(a,c8 d b (bo+(1:Int)) (K+4)<|v),(U,fw sz 1)]) [] [] []:=cS
def Nk:av:=Kh x sz (.ok<|.ret<|.ref a)<|cf [(S.D x.P .none po tp nf tf),S.N bb bl,(sz,aD [ah G J,ah a6 a7]),((sz+1),az [V x.P bx tk<|.ref S.so,V x.P bX (tk+1)<|ah k D,V x.P kT (tk+2)<|.ref sz] 3),(a,c8 d b bo c1 v)] U K (H 0x5165ee0666eb0) [] [(S.so,a9 S.sd)] dt
def Ki(x:Wd)(sz:N)(J:N):Ko:=(Nk #[0,0,0,λn=>n] 0 0 0 sz 0 0 0 0 0 0 0 0 J 0 0 0 0 [] [] [] [] .none x []).resume
def TZ:∀(x:Wd) c,Ev (Nk S tp tf D sz tk J a7 bl a d b c1 U K po nf bo bb k G a6 v x c) c [0,1,2,3,4,5] (.pend 246 aj (.call (.ref 105) #[[.ref S.so,ah G J],[]])<|Ki x sz U) ([(S.D x.P .none po tp nf tf),S.N bb bl]++[(sz,aD [ah G J,ah a6 a7]),((sz+1),az [V x.P bx tk<|.ref S.so,V x.P bX (tk+1)<|ah k D,V x.P kT (tk+2)<|.ref sz,V x.P eF K<|.ref a,V x.P ur (K+6)<|ah G J] 5),(a,c8 d b (bo+(2:Int)) (K+4)<|v),(U,fw sz 1)]) [] [] []:=cS
def TW:∀(x:Wd) f,Ev (Kg x sz U (.ok<|.ret<|.ref a8)<|cf [(S.D x.P .none po tp nf tf),S.N b0 ch,(sz,aD [ah G J]),((sz+1),az [V x.P bx tk<|.ref S.so,V x.P bX (tk+1)<|ah k D,V x.P kT (tk+2)<|.ref sz,V x.P eF K<|.ref a,V x.P ur (K+6)<|ah G J] 5),(U,fw sz 1),(a8,c8 bt b1 ck c2 c3),(b1,aa #[bs] ca)] db c0 (H 0xcdb0) [] [(S.so,a9 S.sd)] f) f [0,1,5,6] (.res<|.ok<|.ret .none) [(S.D x.P .none po tp nf tf),S.N b0 ch,(a8,c8 bt b1 (ck) c2<|c3),(b1,aa ((ar bs).push (V x.P bX (tk+1)<|ah k D).3)<|ca+1)] [] [] [cm #[bs]]:=cS
def Nl:av:=Ki x sz U (.ok<|.ret<|.ref a8)<|cf [(S.D x.P .none po tp nf tf),S.N b0 ch,(sz,aD [ah G J,ah a6 a7]),((sz+1),az [V x.P bx tk<|.ref S.so,V x.P bX (tk+1)<|ah k D,V x.P kT (tk+2)<|.ref sz,V x.P eF K<|.ref a,V x.P ur (K+6)<|ah G J] 5),(U,fw sz 1),(a8,c8 bt b1 ck c2 c3),(b1,aa #[bs] ca)] db c0 (H 0x5165ee0666db0) [] [(S.so,a9 S.sd)] ea
def Kj(x:Wd)(sz:N)(J:N):Ko:=(Nl #[0,0,0,λn=>n] 0 0 0 sz 0 0 0 0 J 0 0 0 0 0 0 0 0 0 0 0 0 [] [] [] [] .none [] x []).resume
def T1:∀(x:Wd) f,Ev (Nl S tp tf D sz tk J a7 a U K ch a8 bt b1 c2 ca db c0 po nf ck b0 k G a6 c3 bs x f) f [0,1,2,3,4,5,6] (.pend 246 aj (.call (.ref 105) #[[.ref S.so,ah a6 a7],[]])<|Kj x sz U) ([(S.D x.P .none po tp nf tf),S.N b0 ch]++[(sz,aD [ah G J,ah a6 a7]),((sz+1),az [V x.P bx tk<|.ref S.so,V x.P bX (tk+1)<|ah k D,V x.P kT (tk+2)<|.ref sz,V x.P eF K<|.ref a,V x.P ur (K+6)<|ah a6 a7,V x.P Qj c0<|.ref a8] 6),(U,fw sz 2),(a8,c8 bt b1 (ck) c2<|c3),(b1,aa ((ar bs).push (V x.P bX (tk+1)<|ah k D).3)<|ca+1)]) [] [] [cm #[bs]]:=cS
def T3:∀(x:Wd) y,Ev (Kj x sz U (.ok<|.ret<|.ref dd)<|cf [(S.D x.P .none po tp nf tf),S.N dx d0,(sz,aD [ah G J,ah a6 a7]),((sz+1),az [V x.P bx tk<|.ref S.so,V x.P bX (tk+1)<|ah k D,V x.P kT (tk+2)<|.ref sz,V x.P eF K<|.ref a,V x.P ur (K+6)<|ah a6 a7,V x.P Qj c0<|.ref a8] 6),(U,fw sz 2),(dd,c8 du da d1 d2 d3),(da,aa #[ds] dV)] eb t4 (H 0xcdb0) [] [(S.so,a9 S.sd)] y) y [0,1,5,6] (.res<|.ok<|.ret .none) [(S.D x.P .none po tp nf tf),S.N dx d0,(dd,c8 du da (d1) d2<|d3),(da,aa ((ar ds).push (V x.P bX (tk+1)<|ah k D).3)<|dV+1)] [] [] [cm #[ds]]:=cS
end
section
variable{L A D Z P Q R T I:ao}
def Ec:(A++T++D).Perm ((A++D)++T):=by
 classical
 rw[wL,];intro a;simp only[la];rw[Mw]
def uj(h:L.Perm (A++D))(C:D.Perm (P++Q)):(L++Z).Perm ((A++Z++P)++Q):=by
 classical
 rw[wL,];intro a;have b:=h.count_eq a;have M:=C.count_eq a;simp only[la]at b M⊢;rw[akD b M]
def Ed(C:D.Perm (P++Q)):(A++(T++P++I)++Q).Perm ((A++D)++(T++I)):=by
 classical
 rw[wL,];intro a;have M:=C.count_eq a;simp only[la]at M⊢;rw[akE M]
def Pe(C:D.Perm (P++Q)):((A++P)++Q).Perm (A++D):=by
 classical
 rw[wL,];intro a;have M:=C.count_eq a;simp only[la]at M⊢;rw[akF M]
end
def jK(n:Int):Int×!(!N)->Int×!(!N):=λy=>(y.1+n,y.2)
def gR(k:!N):Int×!(!N)->Int×!(!N):=λy=>(y.1,y.2++[k])
def oe(h:(n'.a,n'.k,n'.tk)=(n.a,n.k,n.tk)):aG P (l++n'::r)=aG P (l++n::r):=by injection h with a h;injection h with M X;unfold aG;simp only[bf,bf,bW,bW,a,M,X]
def At.set{ns l r:!Nd}{k:!N}{n n':Nd}(g:At ns k l n r)(f:Int×!(!N)->Int×!(!N))(h:n'.k=n.k)(R:(n'.np,n'.ss.map (·.1))=f (n.np,n.ss.map (·.1))):(l++n'::r).map Nd.pg=bz k f (ns.map Nd.pg):=by simp only[g.upd f,<-R,bf,bW];show _++(n'.k,n'.np,n'.ss.map (·.1))::_=_;rw[h,g.nk]
def Bd(ns:!Nd)(z:N):Prop:=ns.length<=z/\∀n∈ns,n.ss.length<=z
inductive rT (x:Wd) (S:Sg) (po:Int) (tp:N) (nf:Int) (tf:N) (g:PG) (z:N) (F':Fs):aL->ao->Prop
 |mk {L':ao} (ns es ne) (h1:es=aG x.P ns) (h2:L'.Perm ([S.D x.P .none po tp nf tf,S.N es ne]++Gr ns)) (h3:ns.map Nd.pg=g) (h4:Bd ns z):rT x S po tp nf tf g z F' (.ok (.ret .none)) L'
def lO:(Gr (l++n::r)).Perm ([n.ob]++(n.ls::(Gr l++Gr r))):=xM l n r
def pV:(Gr (l++n::r)).Perm ([n.ob,n.ls]++(Gr l++Gr r)):=xM l n r
def Pu:(ar<|ss.map ax).push (.str #[#[k]] t)=ar ((ss++[(k,t)]).map ax):=by simp only[bf];rw[h_<|by simp]
abbrev Nd.up(n:Nd)(i:Int)(t:N):Nd:={n with np:=n.np+i,tp:=t}
abbrev Nd.more(m:Nd)(k:!N)(t:N):Nd:={m with ss:=m.ss++[(k,t)],nb:=m.nb+1}
def pmP{A T:ao}{m:Nd}:(A++(T++[m.ob,(m.b,aa ((ar<|m.ss.map ax).push<|.str #[#[k]] t)<|m.nb+1)])++(Gr l++Gr r)).Perm ((A++Gr (l++m.more k t::r))++T):=by rw[Pu,];have z:=Ed (A:=A) (T:=T) (I:=[])<|pV (n:=m.more k t) (l:=l) (r:=r);simp only[bQ,bQ]at z;rw[z]
def At.bd{ns l r:!Nd}{k:!N}{n:Nd}{z:N}(g:At ns k l n r)(a:(l++n::r).length<=ns.length+1)(hz:Bd ns z):Bd (l++n::r) (z+1):=#[bT a<|nB hz.1,λq u=>(g.mem q u).elim (λU=>lk<|hz.2 q U) λU=>by rw[U▸dm _]]
def Bd.set{l r:!Nd}{n n':Nd}{z:N}(g:Bd (l++n::r) z)(h:n'.ss.length<=n.ss.length+1):Bd (l++n'::r) (z+1):=by
 refine g.casesOn λa M=>#[by simp only[cv,dN]at a⊢;rw[akG a],λq u=>?_];rcases ek.mp u with u|u
 .rw[lk<|M q<|ga _ u]
 .rcases aY.mp u with rfl|u
  .rw[bT h<|nB<|M n<|dY _<|.head _]
  .rw[lk<|M q<|dY _<|.tail _ u]
section
variable{x:Wd} {F:Fs} {S:Sg} {po nf:Int} {tp tf ne t z:N} {ns:!Nd} {es:!bv} {k:!N}
def aqT(W:F S.so (a9 S.sd))(w:1<S.nd)(a:es=aG x.P ns)(hz:Bd ns z)(i:z<=9000):ay x aj 250 (.call (.ref 112) #[[.ref S.so,.str #[#[k]] t],[]]) F ([S.D x.P .none po tp nf tf,S.N es ne]++Gr ns) (rT x S po tp nf tf (bz k (jK 0)<|ns.map Nd.pg)<|z+2):=
 lY (O:=[(_,_)]) #[W,ab] λB K=>bP (TR S tp tf ne t B K po nf es k x) ab ab Ec ((uv (an _ _ W) w a (by have:=hz.1;rw[Dt i this])).le ζ λ_ _ _ _ U=>U) λr T h l q=>by rw[q.casesOn λu n c y o C I=>?_];rw[#[_,_,uj I lO,_,_,[(_,_)],#[l _ _<|an _ _ W,ab],λJ G=>bp (TS S tp tf t B K y n.a n.d n.b n.tp J G po nf n.np (aG x.P (u++n::c)) k (.str #[#[n.k]] n.tk) x) ab ab (bO l) #[u++n.up 0 (G+4)::c,aG x.P (u++n::c),y,(oe (n:=n) (n':=n.up 0<|G+4) rfl).symm,Pe (A:=[_,_])<|lO,o.set (jK 0) rfl rfl,(o.bd C hz).set<|oZ _]]]
def GV{H:!N}(j:At J H l m r)(C:J.map Nd.pg=g)(hz:Bd (l++m::r) z):rT x S po tp nf tf (bz H (gR k) g) (z+1) F' (.ok<|.ret .none) ([S.D x.P .none po tp nf tf,S.N (aG x.P (l++m::r)) G,m.ob,(m.b,aa ((ar<|m.ss.map ax).push<|.str #[#[k]] t)<|m.nb+1)]++(Gr l++Gr r)):=by rw[Pu,];rw[#[l++m.more k t::r,aG x.P (l++m::r),G,(oe (n:=m) (n':=m.more k t) rfl).symm,Pe (A:=[_,_])<|pV,by simp only[j.set (n':=m.more k t) (gR k) rfl<|by simp[gR],C],hz.set<|by simp]]
def aqU(W:F S.so (a9 S.sd))(w:1<S.nd)(f:es=aG x.P ns)(hz:Bd ns z)(i:z<=9000){H:!N}:ay x aj 250 (.call (.ref 112) #[[.ref S.so,.str #[#[k]] t,.str #[#[H]] a6],[]]) F ([S.D x.P .none po tp nf tf,S.N es ne]++Gr ns) (rT x S po tp nf tf (bz H (gR k)<|bz k (jK 1)<|ns.map Nd.pg)<|z+4):=
 lY (O:=[(_,_)]) #[W,ab] λB K=>bP (TU S tp tf ne t B K a6 po nf es k H x) ab ab Ec ((uv (an _ _ W) w f (by have:=hz.1;rw[Dt i this])).le ζ λ_ _ _ _ U=>U) λr Q h l q=>by
  rw[q.casesOn λu n c y o C I=>?_];have e:=l _ _<|an _ _ W;have L:∀G,Bd (u++n.up 1 G::c) (z+2):=λG=>(o.bd C hz).set<|oZ _;rw[⟨_,_,uj I lO,_,_,[(_,_)],⟨e,ab⟩,λJ G=>bP (TV S tp tf t B K a6 y n.a n.d n.b n.tp J G po nf n.np (aG x.P (u++n::c)) k H (.str #[#[n.k]] n.tk) x) ab ab (Ed (T:=[_,_]) (P:=[_])<|lO) ((uv (an _ _ e) w (oe (n:=n) (n':=n.up 1<|G+4) rfl).symm (by have:=(L<|G+4).1;rw[LQ i this])).le ζ λ_ _ _ _ U=>U) λr R A m q=>by
    rw[q.casesOn λg E s p j X b=>?_];have a:=j.bd X<|L _;have d:E.ss.length<=16777216:=by have:=a.2 E<|dY _<|.head _;rw[LR i this]
    rw[#[_,_,uj b pV,_,_,[(_,_)],#[m _ _<|an _ _ e,ab],λD M=>bp (TW S tp tf t B K a6 n.a J G p E.a E.d E.b E.tp E.nb D M po nf E.np (aG x.P (g++E::s)) k H (.str #[#[E.k]] E.tk) (E.ss.map ax) x) ab #[by show(E.ss.map ax).length<=16777216;rw[aU,];rw[d],ab] (dR (cb<|bO l) m) <|GV j (o.set (n':=n.up 1<|G+4) (jK 1) rfl rfl) a]]⟩]
def aqV(W:F S.so (a9 S.sd))(w:1<S.nd)(bl:es=aG x.P ns)(hz:Bd ns z)(i:z<=9000){H f:!N}:ay x aj 250 (.call (.ref 112) #[[.ref S.so,.str #[#[k]] t,.str #[#[H]] a6,.str #[#[f]] a7],[]]) F ([S.D x.P .none po tp nf tf,S.N es ne]++Gr ns) (rT x S po tp nf tf (bz f (gR k)<|bz H (gR k)<|bz k (jK 2)<|ns.map Nd.pg)<|z+6):=
 lY (O:=[(_,_)]) #[W,ab] λB K=>bP (TY S tp tf ne t B K a6 a7 po nf es k H f x) ab ab Ec ((uv (an _ _ W) w bl (by have:=hz.1;rw[Dt i this])).le ζ λ_ _ _ _ U=>U) λr ck h l q=>by
  rw[q.casesOn λu n c y o C I=>?_];have Q:=l _ _<|an _ _ W;have L:∀G,Bd (u++n.up 2 G::c) (z+2):=λG=>(o.bd C hz).set<|oZ _;rw[⟨_,_,uj I lO,_,_,[(_,_)],⟨Q,ab⟩,λJ G=>bP (TZ S tp tf t B K a6 a7 y n.a n.d n.b n.tp J G po nf n.np (aG x.P (u++n::c)) k H f (.str #[#[n.k]] n.tk) x) ab ab (Ed (T:=[_,_]) (P:=[_])<|lO) ((uv (an _ _ Q) w (oe (n:=n) (n':=n.up 2<|G+4) rfl).symm (by have:=(L<|G+4).1;rw[LQ i this])).le ζ λ_ _ _ _ U=>U) λr c0 A m q=>by
    rw[q.casesOn λg E s p j X b=>?_];have ac:=m _ _<|an _ _ Q;have a:=j.bd X<|L _;have Y:Bd (g++E.more k t::s) (z+4):=a.set (by simp);rw[#[_,_,uj b pV,_,_,[(_,_)],#[ac,ab],λD bb=>bP (T1 S tp tf t B K a6 a7 n.a J G p E.a E.d E.b E.tp E.nb D bb po nf E.np (aG x.P (g++E::s)) k H f (.str #[#[E.k]] E.tk) (E.ss.map ax) x) ab #[by show(E.ss.map ax).length<=16777216;rw[aU,];rw[(by have:=a.2 E<|dY _<|.head _;rw[LR i this])],ab] (pmP (T:=[_,_,_])) ((uv (an _ _ ac) w (oe (n:=E) (n':=E.more k t) rfl).symm (by have:=Y.1;rw[akH i this])).le ζ λ_ _ _ _ U=>U) λr c1 c2 a8 q=>by
      rw[q.casesOn λbt e ca b0 d bo bs=>?_];have Z:=d.bd bo Y;have ch:e.ss.length<=16777216:=by have:=Z.2 e<|dY _<|.head _;rw[akI i this]
      rw[#[_,_,uj bs pV,_,_,[(_,_)],#[a8 _ _<|an _ _ ac,ab],λM R=>bp (T3 S tp tf t B K a6 a7 n.a J G E.a bb b0 e.a e.d e.b e.tp e.nb M R po nf e.np (aG x.P (bt++e::ca)) k H f (.str #[#[e.k]] e.tk) (e.ss.map ax) x) ab #[by show(e.ss.map ax).length<=16777216;rw[aU,];rw[ch],ab] (dR (cb<|dR (cb<|bO l) m) a8) <|GV d (by rw[j.set (n':=E.more k t) (gR k) rfl<|by simp[gR],];rw[congrArg (bz H<|gR k)<|o.set (n':=n.up 2<|G+4) (jK 2) rfl rfl]) Z]]]]⟩]
end
structure Fr where
 a:N
 es:!bv
 n:N
abbrev bi(es:!bv)(n:N)(f:Array (Option af)):Obj:=#[.type "frame",none,.dict #[es] n,f]
abbrev be(u:N->Array (Option af))(f:Fr):aH×Obj:=(f.a,bi f.es f.n<|u f.a)
def iX:!aX->!Fr->Prop
 |[],[]=>True
 |e::l,f::fs=>e.scope.kind≠.module/\e.frame=some f.a/\iX l fs
 |_,_=>False
abbrev gZ(cls:af)(vs:!af):Obj:=#[cls,none,.fields #[vs],#[[]]]
abbrev kX(z:N)(M:!af):Obj:=#[.type "traceback",none,.fields #[.none::.ref z::.none::.none::.none::M],#[[]]]
def BR{h b:iz}(j:∀a,b.get? a=none):∀{l d},iX l d->(∀f∈d,h.get? f.a=some (be u f).2)->h.FunFrames b l/\l.filterMap (·.frame)=d.map (·.a)
 |[],[],_,_=>#[ab,rfl]
 |e::l,f::d,⟨h1,h2,h3⟩,H=>by rw[ct (BR j h3 λz C=>H z<|.tail _ C) λL T=>#[#[h1,Jq f.a _ h2 (j _) (H f<|.head _) λg e=>(nomatch e),L],?_]];simp only[List.filterMap_cons,h2];rw[congrArg (f.a::·) T]
def bg.move{x:Wd}{F:Fs}{L L':ao}{B s:aN}{h':iz}(S:bg x F L B s)(R:∀a o,F a o->s.heap.get? a=some o->h'.get? a=some o)(b:∀p∈L',h'.get? p.1=some p.2)(w:(L'.map (·.1)).Nodup)(t:∀p∈L',p.1∈L.map (·.1)\/s.heap.get? p.1=none):bg x F L' B {s with heap:=h'}:=by
 rw[#[S.base,λa o U=>R a o U<|S.rep.fr a o U,b,w,λp I o e=>?_,rfl,rfl,S.rep.rest,λJ U=>(cQ U).elim,#[λJ U=>(cQ U).elim,λJ U=>(cQ U).elim,.nil,λJ U=>(nomatch U)]]];rcases t p I with U|U
 .rw[aJ (bn.mp U) λq u K=>S.rep.dj q u o<|K▸e]
 .have z:=S.rep.fr _ _ e
  rw[U]at z;rw[nn z]
def Lq{z:Fr}{n v3 v4 v5:af}(C:fL b bb A)(h:bb.fs=some (a6::a8))(hk:iX (a6::a8) (z::zs))(S:bg x F ((z::zs).map (be u)++(e,gZ cls [a7,.none,n,v3,v4,v5])::X) bl s)(k:∀T M m ck,bg x F ((z::zs).map (be m)++(e,gZ cls [a7,.ref T,n,v3,v4,v5])::(T,kX z.a M)::X) bl ck->Q .none ck):ej (aE pw x.W) A (rt a6<|.ref e) Q E s:=by
 have j:∀a,{s.heap with objs:=(List.toArray [])}.get? a=none:=λa=>rfl;rw[ct (BR j hk λf R=>S.rep.led _<|ga _<|bw R) λca H=>?_];have c:=S.rep.led _<|dY _<|.head _;have b0:=hk.2.1;rw[aT ?_];unfold x8 uc;rw[b0▸(aT<|aT<|jv (x:=.none) c rfl rfl<|aT<|wpAny_frameOf_fun (C.2.2.2 _ h) ca b0 λg K=>(aT<|wpAny_entryPlaceOf λM c5=>(aT<|zj ?_<|c5.sizeOk5 _ _ _ _ _)))];have c3:e∉(a6::a8).filterMap (·.frame):=λU=>by rw[ct (ca.mem U) λ_ da=>aJ da λY y c4=>?_];simp only[c]at y;injection y with y;subst y;rw[c4 _ rfl]
 have bo:g.get? e=some (gZ cls _):=(K.2.1 e c3).trans c;generalize db:(if M.isEmpty then wN 6 i9 else M)=pl';have bs:=k_ {cls:=.type "traceback",dict:=none,data:=.fields ([.none,.ref z.a,.none,iq z.a,.none]++pl').toArray} bo;refine qd bs rfl (show 1<6 by decide) ?_;have O:=kB<|iJ bo;have bt:=qj (iY (·.setIfInBounds 1 (aF g.objs.size))) bs rfl;have ac:=(oN (g.push {cls:=.type "traceback",dict:=none,data:=.fields ([.none,.ref z.a,.none,iq z.a,.none]++pl').toArray}) (iY (·.setIfInBounds 1 (aF g.objs.size)))<|uO O).trans<|r5 g rfl;rw[aT<|jv (x:=.ref g.objs.size) bt rfl rfl ?_];dsimp only[if_pos<|show(aF g.objs.size !=i9)=true from by simp];refine qd ac rfl (by simp) ?_;have t:∀b Y,b≠e->g.get? b=some Y->(((g.push {cls:=.type "traceback",dict:=none,data:=.fields ([.none,.ref z.a,.none,iq z.a,.none]++pl').toArray}).update e<|iY (·.setIfInBounds 1 (aF g.objs.size))).update g.objs.size <|iY (·.setIfInBounds 3 ((none:Option aH).elim i9 λf=>iq f))).get? b=some Y:=λb Y c2 j=>by rw[oN _ _<|kB<|iJ j,oN _ _<|uO c2];rw[k_ _ j]
 have c1:∀f∈z::zs,g.get? f.a=some (bi f.es f.n<|((g.get? f.a).map (·.slots)).getD (List.toArray [])):=λf R=>by have L:=S.rep.led _<|ga _<|bw R;rw[dq (K.2.2 f.a _ L) λsl c0=>c0▸?_];rfl
 have ch:∀b Y,b∉(z::zs).map (·.a)->s.heap.get? b=some Y->g.get? b=some Y:=λb Y j U=>(K.2.1 b<|H▸j).trans U;have r:∀v:N->Array (Option af),((z::zs).map<|be v).map (·.1)=(z::zs).map (·.a):=λv=>by rw[bI,];rfl
 have i:((z::zs).map (·.a)++e::X.map (·.1)).Nodup:=by
  have q:((z::zs).map (be u)++(e,gZ cls [a7,.none,n,v3,v4,v5])::X).map (·.1)=(z::zs).map (·.a)++e::X.map (·.1):=by rw[bf,r];rfl
  rw[<-q];rw[S.rep.nd]
 rw[j3]at i;rw[en i λl J D=>?_];rw[c_]at J;have w:∀a Y,s.heap.get? a=some Y->a≠g.objs.size:=λa Y U=>K.1.symm▸ll (iJ U);rw[bK<|k g.objs.size pl' (λa=>((g.get? a).map (·.slots)).getD (List.toArray [])) _<|S.move ?_ ?_ ?_ ?_]
 .intro a Y W U
  rw[t a Y (λq=>?_)<|ch a Y (λG=>?_) U]
  .subst q;rw[S.rep.dj _ (dY _<|.head _) Y W]
  .rw[aJ (bn.mp G) λf R P=>?_]
   subst P;rw[S.rep.dj _ (ga _<|bw R) Y W]
 .intro p I
  rcases ek.mp I with I|I
  .rw[aJ (bn.mp I) λf R P=>?_]
   subst P;rw[t f.a _ (D f.a (bw R) e<|.head _)<|c1 f R]
  .rw[(aY.mp I).elim (λB=>?_) λI=>?_]
   .subst B
    rw[oN _ _ O,];rw[bt]
   .rw[(aY.mp I).elim (λB=>?_) λI=>?_]
    .subst B
     rw[qj _ ac rfl]
    .have L:=S.rep.led p<|dY _<|.tail _ I
     rw[t p.1 _ (λq=>J.1<|q▸bw I)<|ch _ _ (λG=>D _ G p.1 (.tail _<|bw I) rfl) L]
 .rw[bf,r]
  rw[j3,];rw[⟨l,c_.mpr ⟨λU=>?_,c_.mpr #[λU=>?_,J.2]⟩,λa o Z d=>?_⟩]
  .rcases aY.mp U with U|U
   .rw[w _ _ c U]
   .rw[J.1 U]
  .rw[aJ (bn.mp U) λp I q=>w _ _ (S.rep.led p<|dY _<|.tail _ I) q]
  .rcases aY.mp d with rfl|d
   .rw[D a o _<|.head _]
   .rcases aY.mp d with rfl|d
    .rw[aJ (bn.mp o) λf R P=>?_]
     subst P;rw[w _ _<|S.rep.led _<|ga _<|bw R]
    .rw[D a o Z<|.tail _ d]
 .intro p I
  rcases ek.mp I with I|I
  .rw[aJ (bn.mp I) λf R P=>?_]
   subst P;rw[.inl<|bn.mpr #[be u f,ga _<|bw R,rfl]]
  .rcases aY.mp I with rfl|I
   .rw[.inl<|bn.mpr #[_,dY _<|.head _,rfl]]
   .rcases aY.mp I with rfl|I
    .rw[.inr ?_]
     cases q:s.heap.get? g.objs.size with
     |none=>rfl
     |some Y=>rw[absurd rfl<|w _ _ q]
    .rw[.inl<|bn.mpr #[p,dY _<|.tail _ I,rfl]]
abbrev fI(b:Array (Int×af))(c:N)(st:j9):Obj:=#[.type "set",none,.set b c st,#[[]]]
structure i7 (w:eJ) (sv:Array (Int×af)) (st:j9) (S:aA->Bool) (n:N):Prop where
 el:ElemsOf (rR pw w) sv.toList
 mem:∀k,S k=true↔∃e∈sv.toList,(rR pw w).is k e.2=true
 sz:sv.size<scanBound
 ft:st.fits sv.size=true
 n:sv.size=n
section
variable{x:Wd} {w:eJ} {F:Fs} {L X:ao} {A:dX} {G s:aN} {h:iz} {a b n:N} {J:Mk} {S:aA->Bool} {k:aA} {t H:N} {D:Array (Int×af)} {st:j9}
def i7.of(g:i7 w D st S n)(C:h.get? a=some (fI D H st)):h.SetOf (rR pw w) a S n:=aba _ D H st C #[rfl,rfl,rfl] rfl g.el g.mem g.sz g.ft g.n
def i7.back(g:h.SetOf (rR pw w) a S n):∃b c st,h.get? a=some (fI b c st)/\i7 w b st S n:=by rw[X7 g λj b c st C e I L T m z l=>?_];obtain⟨Z,d,f,sl⟩:=j;obtain⟨i,M,X⟩:=e;dsimp only at i M X I;subst i M X I;rw[ve b c st C #[L,T,m,z,l]]
def bg.tok{tk:N}(T:bg x F L G s):bg x F L G {s with toks:=tk}:=#[T.base,T.rep.fr,T.rep.led,T.rep.nd,T.rep.dj,rfl,rfl,T.rep.rest,λK U=>(cQ U).elim,#[λK U=>(nomatch U),λK U=>(cQ U).elim,.nil,λK U=>(nomatch U)]]
def vi:(rR pw w).is k (.str k t)=true:=by show TP k (.str k t)=true;simp[TP]
def H0(T:bg x F ((a,fI D H st)::X) G s)(g:i7 x.W D st S n){R:aL->Fs->ao->Prop}(f:R (.ok<|.ret<|.bool<|S k) F [(a,fI D H st)]):fi (aE pw x.W) A (.call (.builtin "set.__contains__") ⟨[.ref a,.str k t],[]⟩) (λr P=>∃F' L',Le F F'/\bg x F' (L'++X) G P/\R r F' L') s:=by
 have O:=g.of<|T.rep.led _<|.head _;rw[gN (lA (E:=λK K=>False) (Q:=λv P=>v=.bool (S k)/\P={s with toks:=s.toks+1}) ?_) ?_]
 .rw[zg PySem.F.slot_set_contains O.typeIs entry_set_contains ?_<|PySem.F.args_set_contains_2 _ _]
  unfold Builtin.«frozenset.__contains__» asT;simp only[List.isEmpty_nil,bind_assoc];rw[aT<|bK ?_];try dsimp only
  rw[aT<|bK ?_];try dsimp only
  rw[aT<|wpAny_tryCatch<|iy<|aT<|(rR pw x.W).pyHash (vi)<|aT<|wpAny_setFind_of (vi) rfl O λr b=>(bK ?_)];rw[b,];rw[bK<|eo _ rfl rfl rfl]
 .intro r P U
  split at U
  .obtain⟨rfl,rfl⟩:=U
   rw[bY F _ aV T.tok f]
  .rw[U.elim]
  .rw[U.elim]
def Ym(T:bg x F ((a,fI D H st)::X) G s)(l:i7 x.W D st S n)(w:n+1<scanBound){R:aL->Fs->ao->Prop} (f:∀i L z,i7 x.W i z (λK=>S K||decide (K=k)) (if S k then n else n+1)->R (.ok<|.ret .none) F [(a,fI i L z)]):fi (aE pw x.W) A (.call (.builtin "set.add") ⟨[.ref a,.str k t],[]⟩) (λr P=>∃F' L',Le F F'/\bg x F' (L'++X) G P/\R r F' L') s:=by
 rw[gN (lA (E:=λ_ _=>False) (Q:=λv P=>v=.none/\∃F' L',Le F F'/\bg x F' (L'++X) G P/\R (.ok<|.ret .none) F' L')<|call_set_add (vi) rfl (l.of<|T.rep.led _<|.head _) w λm j h=>#[rfl,?_]) ?_]
 .rw[jg (i7.back h) λi L z C c=>?_]
  have g:=T.rep.nd;have e:(a::X.map (·.1)).Nodup:=g;rw[c_]at e;rw[bY F _ aV ((bg.move (L':=(a,fI i L z)::X) T (λb Y W d=>?_) (λp I=>?_) g λp I=>.inl ?_).tok)<|f i L z c]
  .rw[(j.2 b λq=>by subst q;rw[T.rep.dj _ (.head _) Y W]).trans d]
  .rcases aY.mp I with rfl|I
   .rw[C]
   .rw[(j.2 _ λq=>e.1<|q▸bw I).trans<|T.rep.led p<|.tail _ I]
  .rcases aY.mp I with rfl|I
   .rw[.head _]
   .rw[.tail _<|bw I]
 .intro r P U
  split at U
  .obtain⟨rfl,U⟩:=U
   rw[U]
  .rw[U.elim]
  .rw[U.elim]
end
section
structure Fa where
 z:N
 a0:N
 a1:N
 a2:N
 a3:N
 a4:N
 a5:N
abbrev Ij(P:eI)(S:Sg)(a:Fa):!bv:=[V P bx a.a0<|.ref S.so,V P cu a.a1<|.ref S.nd,V P lU a.a2<|.ref<|a.z+1,V P lQ a.a3<|.ref<|a.z+2,V P lT a.a4<|.ref<|a.z+3,V P lR a.a5<|.ref<|a.z+4]
abbrev fb(P:eI)(S:Sg)(a:Fa)(t:N)(v:af):!bv:=[V P bx a.a0<|.ref S.so,V P cu a.a1<|.ref S.nd,V P lU a.a2<|.ref<|a.z+1,V P lQ a.a3<|.ref<|a.z+2,V P lT a.a4<|.ref<|a.z+3,V P lR a.a5<|.ref<|a.z+4,V P bX t v]
variable(S:Sg) (D:Fa) (ol:!aX) (so sd nd tp tf ne sz tk z d2 d3 ea eb ec ed a8 nx a7 bo a6 G bl b0 dd p d b dt nb ch c1 q r da dx t4 du:N) (u:N->N) (po nf bt db c0:Int) (rd v0 v ck c3:af) (es K:!bv) (us d0:N->Array (Option af)) (xs U vs dV:!af) (bs ds:Array (Int×af)) (J c2:j9) (k:!N) (x:Wd) (Y bb ca d1:ao)
def Nn:av:=ex x #[none,some ol,false] 400 (.fn 152 #[[.ref S.so],[]])<|cf [(S.D x.P rd po tp nf tf),S.N es ne] sz tk (H 0x5d54220443333388a60111333333c2033) [] [(S.so,a9 S.sd)] Y
def CA(x:Wd)(ol:!aX)(sz:N):Ko:=(Nn #[0,0,0,λn=>n] ol 0 0 0 sz 0 0 0 .none [] x []).resume
def UG:∀(x:Wd) Y,Ev (Nn S ol tp tf ne sz tk po nf rd es x Y) Y [0,1,2,3,4,5,6,7] (.pend 397 #[none,some (cG sz::ol),false] (bM e_ 5 (.ref<|sz+5)<|cG sz)<|CA x ol sz) [(S.D x.P rd po tp nf tf),S.N es ne,(sz,az [V x.P bx tk<|.ref S.so,V x.P cu (tk+2)<|.ref S.nd,V x.P lU (tk+3)<|.ref<|sz+1,V x.P lQ (tk+4)<|.ref<|sz+2,V x.P lT (tk+5)<|.ref<|sz+3,V x.P lR (tk+6)<|.ref<|sz+4] 6),((sz+1),aa #[[]] 0),((sz+2),aa #[[]] 0),((sz+3),#[.type "set",none,m6 (ar []) 0<|TL 0 0 (not ((x.W.params).6 "set-order")),#[[]]]),((sz+4),ak [] 0),((sz+5),#[.type "dict_keyiterator",none,.fields #[[.ref S.nd,.int (0) 0,.int ((es.length:Int)) 0,iN ne 0]],#[[]]])] [] [] [qE (aI "dict") S.nd]:=cS
def Nv:av:=ex x #[none,some (cG D.z::ol),false] 300 (.code<|bM e_ 5 (.ref<|D.z+5)<|cG D.z)<|cf [(S.D x.P rd po tp nf tf),S.N es ne,(D.z,bi (Ij x.P S D) 6<|us D.z),((D.z+1),aa #[xs] nx),((D.z+2),aa #[U] a7),((D.z+3),#[.type "set",none,.set bs bo J,#[[]]]),((D.z+4),ak K a6),((D.z+5),#[.type "dict_keyiterator",none,.fields #[[.ref S.nd,.int bt 0,.int (es.length:Int) 0,iN ne 0]],#[[]]])] sz tk (H 0x5883333d59d230d) [ah k G] [(S.so,a9 S.sd)] Y
def CE(x:Wd)(ol:!aX)(z:N)(a:j9)(k:!N)(f:N):Ko:=(Nv #[0,0,0,λn=>n] #[z,0,0,0,0,0,0] ol 0 0 0 0 0 0 0 0 0 f 0 0 0 .none [] [] (λ_=>#[[]]) [] [] #[[]] a k x []).resume
def co:Ev (Nv S D ol tp tf ne sz tk nx a7 bo a6 G po nf bt rd es K us xs U bs J k x Y) Y [0,1,2,3,4,5,6,7] (.pend 299 #[none,some (cG D.z::ol),false] (.call (.builtin "set.__contains__") #[[.ref<|D.z+3,ah k G],[]])<|CE x ol D.z J k G) [(S.D x.P rd po tp nf tf),S.N es ne,(D.z,#[.type "frame",none,.dict #[(fb x.P S D tk<|ah k G)] 7,us D.z]),((D.z+1),aa #[xs] nx),((D.z+2),aa #[U] a7),((D.z+3),#[.type "set",none,m6 bs bo J,#[[]]]),((D.z+4),ak K a6),((D.z+5),#[.type "dict_keyiterator",none,.fields #[[.ref S.nd,.int (bt+1) 0,.int ((es.length:Int)) 0,iN ne 0]],#[[]]])] [] [] [gU true (aI "dict_keyiterator") (aI "dict") es ne bt ((es.length:Int)) (ad ne)<|ah k G]:=by lk
def Nz:av:=ex x #[none,some (cG D.z::ol),false] 300 (.code<|bM e_ 5 (.ref<|D.z+5)<|cG D.z)<|cf [(S.D x.P rd po tp nf tf),S.N es ne,(D.z,bi (fb x.P S D a8<|v0) 7<|us D.z),((D.z+1),aa #[xs] nx),((D.z+2),aa #[U] a7),((D.z+3),#[.type "set",none,.set bs bo J,#[[]]]),((D.z+4),ak K a6),((D.z+5),#[.type "dict_keyiterator",none,.fields #[[.ref S.nd,.int bt 0,.int (es.length:Int) 0,iN ne 0]],#[[]]])] sz tk (H 0x5883333d59d230d) [ah k G] [(S.so,a9 S.sd)] Y
def CG(x:Wd)(ol:!aX)(z:N)(a:j9)(k:!N)(f:N):Ko:=(Nz #[0,0,0,λn=>n] #[z,0,0,0,0,0,0] ol 0 0 0 0 0 0 0 0 0 0 f 0 0 0 .none .none [] [] (λ_=>#[[]]) [] [] #[[]] a k x []).resume
def cx:Ev (Nz S D ol tp tf ne sz tk a8 nx a7 bo a6 G po nf bt rd v0 es K us xs U bs J k x Y) Y [0,1,2,3,4,5,6,7] (.pend 299 #[none,some (cG D.z::ol),false] (.call (.builtin "set.__contains__") #[[.ref<|D.z+3,ah k G],[]])<|CG x ol D.z J k G) [(S.D x.P rd po tp nf tf),S.N es ne,(D.z,#[.type "frame",none,.dict #[(fb x.P S D a8<|ah k G)] 7,us D.z]),((D.z+1),aa #[xs] nx),((D.z+2),aa #[U] a7),((D.z+3),#[.type "set",none,m6 bs bo J,#[[]]]),((D.z+4),ak K a6),((D.z+5),#[.type "dict_keyiterator",none,.fields #[[.ref S.nd,.int (bt+1) 0,.int ((es.length:Int)) 0,iN ne 0]],#[[]]])] [] [] [gU true (aI "dict_keyiterator") (aI "dict") es ne bt ((es.length:Int)) (ad ne)<|ah k G]:=by lk
def Nq:av:=ex x #[none,some (cG D.z::ol),false] 290 (.code<|cM e_ 8<|cG D.z)<|cf [(S.D x.P rd po tp nf tf),S.N es ne,(D.z,bi (fb x.P S D a8<|ah k G) 7<|us D.z),((D.z+1),aa #[xs] nx),((D.z+2),aa #[U] a7),((D.z+3),#[.type "set",none,.set bs bo J,#[[]]]),((D.z+4),ak K a6)] sz tk (H 0x588331) [] [(S.so,a9 S.sd)] Y
def xY(x:Wd)(ol:!aX)(z:N)(a:j9)(k:!N)(f:N):Ko:=(Nq #[0,0,0,λn=>n] #[z,0,0,0,0,0,0] ol 0 0 0 0 0 0 0 0 0 0 f 0 0 .none [] [] (λ_=>#[[]]) [] [] #[[]] a k x []).resume
def ci:Ev (Nq S D ol tp tf ne sz tk a8 nx a7 bo a6 G po nf rd es K us xs U bs J k x Y) Y [0,1,2,3,4,5,6] (.pend 289 #[none,some (cG D.z::ol),false] (.call (.builtin "set.__contains__") #[[.ref<|D.z+3,ah k G],[]])<|xY x ol D.z J k G) [(S.D x.P rd po tp nf tf),S.N es ne,(D.z,#[.type "frame",none,.dict #[(fb x.P S D a8<|ah k G)] 7,us D.z]),((D.z+1),aa #[xs] nx),((D.z+2),aa #[U] a7),((D.z+3),#[.type "set",none,m6 bs bo J,#[[]]]),((D.z+4),ak K a6)] [] [] []:=by lk
def Nu:av:=xY x ol D.z J k G (.ok<|.ret<|.bool true)<|cf [(S.D x.P rd po tp nf tf),S.N es ne,(D.z,#[.type "frame",none,.dict #[(fb x.P S D a8<|ah k G)] 7,us D.z]),((D.z+1),aa #[xs] nx),((D.z+2),aa #[U] a7),((D.z+3),#[.type "set",none,m6 bs bo J,#[[]]]),((D.z+4),ak K a6)] bl b0 (H 0x51891e099331) [.bool false] [(S.so,a9 S.sd)] bb
def CD(x:Wd)(ol:!aX)(z:N)(a:j9):Ko:=(Nu #[0,0,0,λn=>n] #[z,0,0,0,0,0,0] ol 0 0 0 0 0 0 0 0 0 0 0 0 0 .none [] [] (λ_=>#[[]]) [] [] #[[]] a [] x []).resume
def U4:Ev (Nu S D ol tp tf ne a8 nx a7 bo a6 G bl b0 po nf rd es K us xs U bs J k x bb) bb [0,1,2,3,4,5,6] (.pend 289 #[none,some (cG D.z::ol),false] (cM e_ 16<|cG D.z)<|CD x ol D.z J) [(S.D x.P rd po tp nf tf),S.N es ne,(D.z,#[.type "frame",none,.dict #[(fb x.P S D a8<|ah k G)] 7,us D.z]),((D.z+1),aa #[xs] nx),((D.z+2),aa #[U] a7),((D.z+3),#[.type "set",none,m6 bs bo J,#[[]]]),((D.z+4),ak K a6)] [] [] [nD (aI "dict") K #[#[k]] false<|D.z+4]:=by lk
def Nr:av:=xY x ol D.z J k G (.ok<|.ret<|.bool false)<|cf [(S.D x.P rd po tp nf tf),S.N es ne,(D.z,#[.type "frame",none,.dict #[(fb x.P S D a8<|ah k G)] 7,us D.z]),((D.z+1),aa #[xs] nx),((D.z+2),aa #[U] a7),((D.z+3),#[.type "set",none,m6 bs bo J,#[[]]]),((D.z+4),ak K a6)] bl b0 (H 0x53888831) [] [(S.so,a9 S.sd)] bb
def Kl(x:Wd)(ol:!aX)(z:N)(a:j9):Ko:=(Nr #[0,0,0,λn=>n] #[z,0,0,0,0,0,0] ol 0 0 0 0 0 0 0 0 0 0 0 0 0 .none [] [] (λ_=>#[[]]) [] [] #[[]] a [] x []).resume
def UY:Ev (Nr S D ol tp tf ne a8 nx a7 bo a6 G bl b0 po nf rd es K us xs U bs J k x bb) bb [0,1,2,3,4,5,6] (.pend 289 #[none,some (cG D.z::ol),false] (.call (.builtin "set.add") #[[.ref<|D.z+3,ah k G],[]])<|Kl x ol D.z J) [(S.D x.P rd po tp nf tf),S.N es ne,(D.z,#[.type "frame",none,.dict #[(fb x.P S D a8<|ah k G)] 7,us D.z]),((D.z+1),aa #[xs] nx),((D.z+2),aa #[U] a7),((D.z+3),#[.type "set",none,m6 bs bo J,#[[]]]),((D.z+4),ak K a6)] [] [] []:=by lk
def Nt:av:=Kl x ol D.z J (.ok<|.ret .none)<|cf [(S.D x.P rd po tp nf tf),S.N es ne,(D.z,#[.type "frame",none,.dict #[(fb x.P S D a8<|ah k G)] 7,us D.z]),((D.z+1),aa #[xs] nx),((D.z+2),aa #[U] a7),((D.z+3),#[.type "set",none,.set ds dd c2,#[[]]]),((D.z+4),ak K a6),(p,c8 d b db dt v),(b,aa #[vs] nb)] ch c1 (H 0x53683aa039891f0993330f03116780b010b0c4010b00b0c1cc1d1d1c10dfe0fe0d111d9b0331177773) [.ref p] [(S.so,a9 S.sd)] ca
def CC(x:Wd)(ol:!aX)(z:N)(a:j9)(b:j9):Ko:=(Nt #[0,0,0,λn=>n] #[z,0,0,0,0,0,0] ol 0 0 0 0 0 0 0 0 0 0 0 0 0 0 0 0 0 0 0 .none .none [] [] (λ_=>#[[]]) [] [] [] #[[]] a b [] x []).resume
def UZ:∀(x:Wd) f,Ev (Nt S D ol tp tf ne a8 nx a7 a6 G dd p d b dt nb ch c1 po nf db rd v es K us xs U vs ds J c2 k x f) f [0,1,2,3,4,5,6,7,8,9,10] (.pend 289 #[none,some (cG D.z::ol),false] (cM e_ 16<|cG D.z)<|CC x ol D.z J c2) [(S.D x.P rd po tp nf tf),S.N es ne,(D.z,#[.type "frame",none,.dict #[(fb x.P S D a8<|ah k G)] 7,us D.z]),((D.z+1),aa ((ar xs).push (V x.P bX a8<|ah k G).3)<|nx+1),((D.z+2),aa ((ar U).push<|aF<|ch+1)<|a7+1),((D.z+3),#[.type "set",none,m6 ds dd c2,#[[]]]),((D.z+4),ak (K++[V x.P #[#[k]] G<|.int (xs.length:Int)<|c1+4])<|a6+1),(p,#[.ref 65,some d,.plain,#[[some<|v,some<|.int (db) dt,some<|.ref b]]]),(b,aa #[vs] nb),(ch,c7 b 0),((ch+1),#[.type "method-wrapper",none,.fields #[[.builtin "list_iterator.__next__",.ref ch]],#[[]]])] [] [] [cm #[xs],j4 (aI "dict") K #[#[k]],gd (aI "list")<|ar xs,cm #[U],cR (aI "dict") es #[#[k]]<|aF p]:=cS
def V8:Ev (ex x #[none,some (cG D.z::ol),false] 280 (.code<|cM e_ 16<|cG D.z)<|cf [(D.z,bi [V x.P bx D.a0<|.ref so,V x.P cu D.a1<|.ref nd,V x.P lU D.a2<|.ref<|D.z+1,V x.P lQ D.a3<|.ref<|D.z+2,V x.P lT D.a4<|.ref<|D.z+3,V x.P lR D.a5<|.ref<|D.z+4,V x.P bX a8<|v0] 7<|us D.z),((D.z+1),aa #[[]] nx),((D.z+2),aa #[U] a7),((D.z+4),ak K a6)] sz tk (H 0x150f0445) [] [] Y) Y [0,1,2,3] (.res<|.ok .brk) [(D.z,#[.type "frame",none,.dict #[[V x.P bx D.a0<|.ref so,V x.P cu D.a1<|.ref nd,V x.P lU D.a2<|.ref<|D.z+1,V x.P lQ D.a3<|.ref<|D.z+2,V x.P lT D.a4<|.ref<|D.z+3,V x.P lR D.a5<|.ref<|D.z+4,V x.P bX a8<|v0]] 7,us D.z]),((D.z+1),aa #[[]] nx),((D.z+2),aa #[U] a7),((D.z+4),ak K a6)] [] [] [gd (aI "list")<|ar []]:=by lk
def V9:Ev (ex x #[none,some (cG D.z::ol),false] 280 (.code<|cM e_ 16<|cG D.z)<|cf [(D.z,bi [V x.P bx D.a0<|.ref so,V x.P cu D.a1<|.ref nd,V x.P lU D.a2<|.ref<|D.z+1,V x.P lQ D.a3<|.ref<|D.z+2,V x.P lT D.a4<|.ref<|D.z+3,V x.P lR D.a5<|.ref<|D.z+4,V x.P bX a8<|v0] 7<|us D.z),((D.z+1),aa #[ck::xs] nx),((D.z+2),aa #[U] a7),((D.z+4),ak K a6),(q,#[.type "method-wrapper",none,.fields #[[.builtin "list_iterator.__next__",.ref r]],#[[]]]),(r,c7 b c0),(b,aa #[vs] nb)] sz tk (H 0x5587471743d33315150f0445) [.ref q,ah k G] [] Y) Y [0,1,2,3,4,5,6] (.res<|.ok .next) [(D.z,#[.type "frame",none,.dict #[[V x.P bx D.a0<|.ref so,V x.P cu D.a1<|.ref nd,V x.P lU D.a2<|.ref<|D.z+1,V x.P lQ D.a3<|.ref<|D.z+2,V x.P lT D.a4<|.ref<|D.z+3,V x.P lR D.a5<|.ref<|D.z+4,V x.P bX a8<|ah k G]] 7,us D.z]),((D.z+1),aa #[(ck::xs)] nx),((D.z+2),aa #[U] a7),((D.z+4),ak K a6),(q,#[.type "method-wrapper",none,.fields #[[.builtin "list_iterator.__next__",.ref r]],#[[]]]),(r,c7 b<|c0+1),(b,aa #[vs] nb)] [] [] [df #[vs] c0<|ah k G,iL (ar U) (-1)<|aF q,gd (aI "list")<|ar (ck::xs)]:=by lk
def Ny:av:=ex x #[none,some (cG D.z::ol),false] 280 (.code<|cM e_ 16<|cG D.z)<|cf [(D.z,bi [V x.P bx D.a0<|.ref so,V x.P cu D.a1<|.ref nd,V x.P lU D.a2<|.ref<|D.z+1,V x.P lQ D.a3<|.ref<|D.z+2,V x.P lT D.a4<|.ref<|D.z+3,V x.P lR D.a5<|.ref<|D.z+4,V x.P bX a8<|v0] 7<|us D.z),((D.z+1),aa #[ck::xs] nx),((D.z+2),aa #[U] a7),((D.z+4),ak K a6),(q,#[.type "method-wrapper",none,.fields #[[.builtin "list_iterator.__next__",.ref r]],#[[]]]),(r,c7 b c0),(b,aa #[vs] nb)] sz tk (H 0x87371743d33315150f0445) [.ref q,ah k G,.ref q] [] Y
def Km(x:Wd)(ol:!aX)(z:N)(sz:N):Ko:=(Ny #[z,0,0,0,0,0,0] ol 0 0 sz 0 0 0 0 0 0 0 0 0 0 0 .none .none [] (λ_=>#[[]]) [] [] [] [] x []).resume
def V_:Ev (Ny D ol so nd sz tk a8 nx a7 a6 G b nb q r c0 v0 ck K us xs U vs k x Y) Y [0,1,2,3,4,5,6,8] (.gz 279 #[none,some (cG D.z::ol),false] (rt (cG D.z)<|.ref<|sz+1)<|Km x ol D.z sz) ([]++[(D.z,#[.type "frame",none,.dict #[[V x.P bx D.a0<|.ref so,V x.P cu D.a1<|.ref nd,V x.P lU D.a2<|.ref<|D.z+1,V x.P lQ D.a3<|.ref<|D.z+2,V x.P lT D.a4<|.ref<|D.z+3,V x.P lR D.a5<|.ref<|D.z+4,V x.P bX a8<|v0]] 7,us D.z]),((D.z+1),aa #[(ck::xs)] nx),((D.z+2),aa #[U] a7),((D.z+4),ak K a6),(q,#[.type "method-wrapper",none,.fields #[[.builtin "list_iterator.__next__",.ref r]],#[[]]]),(r,#[.type "list_iterator",none,.fields #[[.none,.int (c0) 0]],#[[]]]),(b,aa #[vs] nb),((sz+1),#[.type "StopIteration",none,.fields #[[.ref sz,.none,.none,.none,.bool false,.none]],#[[]]])]) [] [] [ig #[vs] c0,iL (ar U) (-1)<|aF q,gd (aI "list")<|ar (ck::xs)]:=by lk
def Wa:Ev (Km x ol D.z sz (.ok<|.ret .none)<|cf [(D.z,bi [V x.P bx D.a0<|.ref so,V x.P cu D.a1<|.ref nd,V x.P lU D.a2<|.ref<|D.z+1,V x.P lQ D.a3<|.ref<|D.z+2,V x.P lT D.a4<|.ref<|D.z+3,V x.P lR D.a5<|.ref<|D.z+4,V x.P bX a8<|v0] 7<|d0 D.z),((D.z+1),aa #[(ck::xs)] nx),((D.z+2),aa #[U] a7),((D.z+4),ak K a6),(q,#[.type "method-wrapper",none,.fields #[[.builtin "list_iterator.__next__",.ref r]],#[[]]]),(r,#[.type "list_iterator",none,.fields #[[.none,.int (c0) 0]],#[[]]]),(b,aa #[vs] nb),((sz+1),#[.type "StopIteration",none,.fields #[[.ref sz,.ref da,.none,.none,.bool false,.none]],#[[]]]),(da,#[.type "traceback",none,.fields #[.none::.ref D.z::.none::.none::.none::dV],#[[]]])] bl b0 (H 0x43c333356362106654ca9055ccd1d111) [ah k G,.ref q] [] bb) bb [0,1,2,3,6,4,5,7,8] (.next<|cM e_ 16<|cG D.z) [(D.z,#[.type "frame",none,.dict #[[V x.P bx D.a0<|.ref so,V x.P cu D.a1<|.ref nd,V x.P lU D.a2<|.ref<|D.z+1,V x.P lQ D.a3<|.ref<|D.z+2,V x.P lT D.a4<|.ref<|D.z+3,V x.P lR D.a5<|.ref<|D.z+4,V x.P bX a8<|v0]] 7,d0 D.z]),((D.z+1),aa ((ar (ck::xs)).pop)<|nx+1),((D.z+2),aa ((ar U).pop)<|a7+1),((D.z+4),ak (mu #[#[k]] K)<|a6+1),(b,aa #[vs] nb)] [(q,#[.type "method-wrapper",none,.fields #[[.builtin "list_iterator.__next__",.ref r]],#[[]]]),(r,#[.type "list_iterator",none,.fields #[[.none,.int (c0) 0]],#[[]]]),((sz+1),#[.type "StopIteration",none,.fields #[[.ref sz,.ref da,.none,.none,.bool false,.none]],#[[]]]),(da,#[.type "traceback",none,.fields<|(ar (i9::aF D.z::i9::i9::i9::dV)).setIfInBounds 3<|none.elim i9 λf=>iq ((f:Int):Int),#[[]]])] [] [o7 (ar U)<|aF q,z8 (aI "dict") K #[#[k]]/\K.length<=16777216,o7 (ar (ck::xs))<|ah k G]:=by lk
def V7:Ev (CE x ol z J k G (.ok<|.ret<|.bool true)<|cf [] bl b0 [0] [] [] bb) bb [] (.next<|bM e_ 5 (.ref<|z+5)<|cG z) [] [] [] []:=by lk
def Nw:av:=CE x ol z J k G (.ok<|.ret<|.bool false)<|cf [] bl b0 [0,1] [] [] bb
def CF(x:Wd)(ol:!aX)(z:N)(a:j9):Ko:=(Nw ol z 0 0 0 a [] x []).resume
def VR:Ev (Nw ol z G bl b0 J k x bb) bb [] (.pend 299 #[none,some (cG z::ol),false] (cM e_ 8<|cG z)<|CF x ol z J) [] [] [] []:=by lk
def VS:Ev (CF x ol z J (.ok .next)<|cf [] ch c1 [] [] [] ca) ca [] (.next<|bM e_ 5 (.ref<|z+5)<|cG z) [] [] [] []:=by lk
def V6:Ev (CF x ol z J (.ok<|.ret c3)<|cf [] ch c1 [] [] [] ca) ca [] (.res<|.ok<|.ret<|c3) [] [] [] []:=by lk
def Wg:Ev (CG x ol z J k G (.ok<|.ret<|.bool true)<|cf [] bl b0 [0] [] [] bb) bb [] (.next<|bM e_ 5 (.ref<|z+5)<|cG z) [] [] [] []:=by lk
def NA:av:=CG x ol z J k G (.ok<|.ret<|.bool false)<|cf [] bl b0 [0,1] [] [] bb
def CH(x:Wd)(ol:!aX)(z:N)(a:j9):Ko:=(NA ol z 0 0 0 a [] x []).resume
def Wc:Ev (NA ol z G bl b0 J k x bb) bb [] (.pend 299 #[none,some (cG z::ol),false] (cM e_ 8<|cG z)<|CH x ol z J) [] [] [] []:=by lk
def We:Ev (CH x ol z J (.ok .next)<|cf [] ch c1 [] [] [] ca) ca [] (.next<|bM e_ 5 (.ref<|z+5)<|cG z) [] [] [] []:=by lk
def Wf:Ev (CH x ol z J (.ok<|.ret c3)<|cf [] ch c1 [] [] [] ca) ca [] (.res<|.ok<|.ret<|c3) [] [] [] []:=by lk
def Wb:Ev (ex x #[none,some (cG z::ol),false] 300 (.code<|bM e_ 5 (.ref<|z+5)<|cG z)<|cf [(nd,ak es ne),((z+5),#[.type "dict_keyiterator",none,.fields #[[.ref nd,.int bt 0,.int (es.length:Int) 0,iN ne 0]],#[[]]])] sz tk (H 0x641542404) [] [] Y) Y [0,1] (.res<|.ok .next) [(nd,ak es ne),((z+5),#[.type "dict_keyiterator",none,.fields #[[.none,.int (bt) 0,.int ((es.length:Int)) 0,iN ne 0]],#[[]]])] [] [] [qF true (aI "dict_keyiterator") (aI "dict") es ne bt ((es.length:Int))<|ad ne]:=by lk
def UH:∀(x:Wd) c,Ev (CA x ol sz (.ok .next)<|cf [] bl b0 [] [] [] c) c [] (.res<|.ok<|.ret .none) [] [] [] []:=cS
def UI:∀(x:Wd) c,Ev (CA x ol sz (.ok<|.ret c3)<|cf [] bl b0 [] [] [] c) c [] (.res<|.ok<|.ret<|c3) [] [] [] []:=cS
def U6:Ev (CD x ol z J (.ok .next)<|cf [] ch c1 [] [] [] ca) ca [] (.next<|cM e_ 8<|cG z) [] [] [] []:=by lk
def U5:Ev (CD x ol z J (.ok .brk)<|cf [] ch c1 [] [] [] ca) ca [] (.res<|.ok .next) [] [] [] []:=by lk
def U2:∀(x:Wd) y,Ev (CC x ol z J c2 (.ok .next)<|cf [] dx t4 [] [] [] y) y [] (.next<|cM e_ 8<|cG z) [] [] [] []:=cS
def U1:∀(x:Wd) y,Ev (CC x ol z J c2 (.ok .brk)<|cf [] dx t4 [] [] [] y) y [] (.res<|.ok .next) [] [] [] []:=cS
def U3:Ev (xY x ol D.z J k G (.ok<|.ret<|.bool true)<|cf [(S.D x.P rd po tp nf tf),S.N es ne,(D.z,#[.type "frame",none,.dict #[(fb x.P S D a8<|ah k G)] 7,us D.z]),((D.z+1),aa #[xs] nx),((D.z+2),aa #[U] a7),((D.z+3),#[.type "set",none,m6 bs bo J,#[[]]]),((D.z+4),ak K a6)] bl b0 (H 0xcdc1a0c0b0c3936170666891c09993331891e099331) [.bool true,.int bt du] [(S.so,a9 S.sd)] bb) bb [0,1,10] (.res<|.ok<|.ret<|.ref<|bl+3) [(S.D x.P rd po tp nf tf),S.N es ne] [((bl+3),aa #[(iU (ar xs) (some bt) none none).1++[ah k G]] 0)] [] [o6 (aI j8) (ar (iU (ar xs) (some bt) none none).1)<|ar [ah k G],cm #[xs],cR (aI "dict") K #[#[k]]<|ii bt du,nD (aI "dict") K #[#[k]] true<|D.z+4]:=by lk
end
inductive Tr where
 |z
 |a (i:N)
 |p (l r:Tr)
def pT(E:!ao):N->ao:=λi=>(nthL E i)
where nthL:!ao->N->ao
 |[],_=>[]
 |x::_,0=>x
 |_::l,i+1=>nthL l i
def Tr.den(E:!ao):Tr->ao
 |.z=>[]
 |.a i=>pT E i
 |.p l r=>l.den E++r.den E
def Tr.flat:Tr->!N->!N
 |.z,m=>m
 |.a i,m=>i::m
 |.p l r,m=>l.flat<|r.flat m
def E0(i:N):!N->Option (!N)
 |[]=>none
 |K::l=>match eY i K with
  |true=>some l
  |false=>match E0 i l with
   |some r=>some (K::r)
   |none=>none
def D0:!N->!N->Bool
 |[],[]=>true
 |i::l,m=>match E0 i m with
  |some r=>D0 l r
  |none=>false
 |_,_=>false
def ml(E:!ao):!N->ao
 |[]=>[]
 |i::l=>pT E i++ml E l
set_option tactic.hygienic true in
def art:∀{l r},E0 i l=some r->(ml E l).Perm (pT E i++ml E r):=by
 intro J;induction J with
 |nil=>intro _ U;rw[nn U]
 |cons K l C=>
  intro r U
  conv at U=>lhs;whnf
  split at U
  .rename_i e
   cases U;rw[(nv e)▸.refl _]
  .split at U
   .rename_i m G
    cases U;rw[((C G).append_left<|pT E K).trans ?_];show(pT E K++(pT E i++ml E m)).Perm (pT E i++(pT E K++ml E m));rw[<-b4,<-b4];rw[sk.append_right _]
   .rw[nn U]
set_option tactic.hygienic true in
def O4:∀{l m},D0 l m=true->(ml E l).Perm (ml E m)
 |[],[],_=>.refl _
 |[],_::_,h=>nomatch h
 |i::l,m,h=>by
  conv at h=>lhs;whnf
  split at h
  .rename_i r e
   rw[((O4 h).append_left _).trans (art e).symm]
  .rw[oL h]
def xF:∀{t:Tr} {m},ml E (t.flat m)=t.den E++ml E m
 |.z,_=>rfl
 |.a i,_=>rfl
 |.p l r,m=>by show ml E (l.flat<|r.flat m)=(l.den E++r.den E)++_;simp only[xF,xF,b4]
def pm(E)(s t:Tr)(h:D0 (s.flat []) (t.flat [])=true):(s.den E).Perm (t.den E):=by have z:=O4 (E:=E) h;simp only[xF,xF]at z;rw[bQ (t.den E)▸bQ (s.den E)▸z]
section
variable{x:Wd} {D:Mk} {b:N} {c:bj} {F:Fs} {L L' A J X:ao} {Q G:Po} {H s:aN}
def bg.sub(S:bg x F L H s)(h:L'.Sublist L):bg x F L' H s:=#[S.base,S.rep.fr,λq u=>S.rep.led q<|h.subset u,S.rep.nd.sublist<|h.map _,λq u=>S.rep.dj q<|h.subset u,S.rep.sz,S.rep.tk,S.rep.rest,S.rep.ro,⟨λU h=>(nomatch h),λU h=>(nomatch h),.nil,λU h=>(nomatch h)⟩]
def ay.post(g:ay x D b c F L Q)(h:∀r F' L',Le F F'->Q F' r L'->∃A a,L'.Perm (A++a)/\G F' r A):ay x D b c F L G:=λw d s A C H=>
 jE (g w d s A C H) λr P #[F',L',l,W,q]=>let⟨B,a,p,q'⟩:=h r F' L' l q;(bY F' B l ((W.perm<|p.append_right w).sub<|(List.sublist_append_left B a).append_right w) q')
def ay.nd(g:(L.map (·.1)).Nodup->ay x D b c F L Q):ay x D b c F L Q:=λw B s A C H=>g (rB H.rep.nd).1 w B s A C H
end
def aS:PG->!N->!(!N)
 |[],_=>[]
 |x::g,k=>if x.1=k then x.2.2 else aS g k
abbrev pd:=List<|List N×N
def ij(g:PG):pd->Option (!N×pd)
 |[]=>none
 |(j,K)::st=>match(aS g j)[K]?with
  |some E=>some (E,(j,K+1)::st)
  |none=>ij g st
def mz(g:PG):N->pd->!(!N)->!N->Option (Option<|List<|List N)
 |0,_,_,_=>none
 |f+1,i,u,j=>
  if j∈u then
   if j∈i.map (·.1)then some none
   else match ij g i with
    |none=>some<|some u
    |some y=>mz g f y.2 u y.1
  else match ij g ((j,0)::i)with
   |none=>some<|some (j::u)
   |some y=>mz g f y.2 (j::u) y.1
def iQ(g:PG)(f:N):!(!N)->!(!N)->Option Bool
 |[],_=>some false
 |j::ks,seen=>
  if j∈seen then iQ g f ks seen
  else match mz g f [] seen j with
   |none=>none
   |some none=>some true
   |some (some s)=>iQ g f ks s
structure Kp where
 n:Nd
 t:N
 mi:N
 i:N
 j:N
 q:N
 r:N
abbrev Kp.v(e:Kp):af:=ax (e.n.k,e.t)
abbrev pO(q r:N):aH×Obj:=(q,#[.type "method-wrapper",none,.fields #[[.builtin "list_iterator.__next__",.ref r]],#[[]]])
abbrev pJ(r:N)(b:af)(j:N):aH×Obj:=(r,#[.type "list_iterator",none,.fields #[[b,.int (j:Int) 0]],#[[]]])
abbrev Kp.W(e:Kp):ao:=[pO e.q e.r,pJ e.r (.ref e.n.b) e.j]
abbrev Kp.pr(e:Kp):!N×N:=(e.n.k,e.j)
def WS:!Kp->ao
 |[]=>[]
 |e::l=>e.W++WS l
def dw(st:!Kp):!af:=(st.map Kp.v).reverse
def fo(st:!Kp):!af:=(st.map λe=>aF e.q).reverse
def eL(P:eI)(st:!Kp):!bv:=(st.map λe=>V P #[#[e.n.k]] e.t<|.int (e.i:Int) e.mi).reverse
structure Vz where
 us:N->Array (Option af)
 t:N
 nx:N
 ny:N
 nm:N
abbrev M6(x:Wd)(S:Sg)(a:Fa)(c:Vz)(xs R:!af)(e:!bv)(v:af):ao:=[(a.z,bi (fb x.P S a c.t v) 7<|c.us a.z),(a.z+1,aa #[xs] c.nx),(a.z+2,aa #[R] c.ny),(a.z+4,ak e c.nm)]
abbrev l7(x:Wd)(S:Sg)(a:Fa)(c:Vz)(st:!Kp)(v:af):ao:=M6 x S a c (dw st) (fo st) (eL x.P st) v
def m5(x:Wd)(S:Sg)(a:Fa)(c:Vz)(st:!Kp)(v:af)(ns:!Nd)(zs:!Fr):ao:=l7 x S a c st v++(WS st++(Gr ns++zs.map (be c.us)))
structure me (ns:!Nd) (st:!Kp):Prop where
 mem:∀e∈st,e.n∈ns/\aS (ns.map Nd.pg) e.n.k=e.n.ss.map (·.1)
 nd:(st.map (·.n.k)).Nodup
 le:st.length<=4000
def me.tail{ns:!Nd}{e:Kp}{st:!Kp}(g:me ns (e::st)):me ns st:=#[λq u=>g.mem q<|.tail _ u,(c_.mp g.nd).2,by have:=g.le;simp only[dN]at this;rw[yg this]]
def me.next{ns:!Nd}{e:Kp}{st:!Kp}{j:N}(g:me ns (e::st)):me ns ({e with j:=j}::st):=#[λq u=>(aY.mp u).elim (λU=>U▸g.mem e (.head _)) λU=>g.mem q<|.tail _ U,g.nd,g.le]
def TH(x:Wd)(S:Sg)(a:Fa)(st:!Kp)(v:af)(ns:!Nd)(zs:!Fr):Po:=λT r h=>∃Z,match ij (ns.map Nd.pg) (st.map Kp.pr)with
 |none=>r=.ok .brk/\h.Perm (m5 x S a Z [] v ns zs)
 |some y=>r=.ok .next/\∃D z,y.2=z.map Kp.pr/\me ns z/\z.length<=st.length/\(∃n∈ns,(y.1,D)∈n.ss)/\h.Perm (m5 x S a Z z (ax (y.1,D)) ns zs)
def Xo{st:!Kp}(h:e.n.k∉st.map (·.n.k)):mu #[#[e.n.k]] (eL P (e::st))=eL P st:=by
 have a:∀l:!Kp,e.n.k∉l.map (·.n.k)->mu #[#[e.n.k]] ((l.map λe=>V P #[#[e.n.k]] e.t<|.int e.i e.mi)++[V P #[#[e.n.k]] e.t<|.int e.i e.mi])=l.map λe=>V P #[#[e.n.k]] e.t (.int e.i e.mi):=λl=>by
  induction l with
  |nil=>intro _;show(match gi #[#[e.n.k]] (V P #[#[e.n.k]] e.t _)with|true=>[]|false=>_)=[];rw[tj,decide_eq_true rfl]
  |cons d l C=>intro h;rw[bW,aY,not_or]at h;show(match gi #[#[e.n.k]] (V P #[#[d.n.k]] d.t _)with|true=>_|false=>_)=_;rw[tj,decide_eq_false λq=>h.1 q.symm];rw[congrArg (_::·)<|C h.2]
 unfold eL;rw[bW▸uL▸nj▸(a st.reverse (by rw[nj,l5];rw[h]))]
def XR:∀{l:!Kp},(d5 (l.map λe=>V P #[#[e.n.k]] e.t<|.int (e.i:Int) e.mi) #[#[k]]).isSome=decide (k∈l.map (·.n.k)):=by
 intro J;induction J with
 |nil=>rfl
 |cons d l C=>
  unfold d5 at C⊢;simp only[bW,uJ,tj];by_cases U:d.n.k=k
  .simp only[decide_eq_true U];simp[U]
  .simp only[decide_eq_false U]
   simp only[C];simp[uO U]
def Bo{st:!Kp}:(d5 (eL P st) #[#[k]]).isSome=decide (k∈st.map (·.n.k)):=by unfold eL;rw[<-nj,XR,nj];rw[decide_eq_decide.mpr l5]
def wg{st:!Kp}:iV (eL P st)=true:=by unfold iV eL;rw[List.all_reverse,FF];rw[r_.mpr λU U=>rfl]
def O5:iL (ar<|D++[v]) (-1) v:=by
 rw[#[ζ,ζ,?_,?_]]
 .simp;rw[qm (jy D.length)<|zF (vD _).symm]
 .rw[(by simp;rw[congrArg Int.toNat (vD _)]:((-1)+((ar<|D++[v]).size:Int)).toNat=D.length),];simp
def aoF(h:D.length<=4000):o7 (ar<|D++[v]) v:=#[by show(D++[v]).length<=16777216;simp;rw[ajS h],by simp]
def Pk(xs)(v:af):(ar<|xs++[v]).pop=ar xs:=h_<|by simp
def ui(h:xs.length<=4001):gd (.type "list") (ar xs):=#[pF,by rw[Dq h]]
section
variable{x:Wd} {ol:!aX} {S:Sg} {a:Fa} {ns:!Nd} {zs:!Fr}
abbrev my(ol:!aX)(z:N):Mk:=#[none,some (cG z::ol),false]
def yy{A B P Q O Z:ao}(h:O.Perm (P++Q)):(A++(B++(O++Z))).Perm ((A++P)++(B++(Q++Z))):=(((h.append_right Z).append_left B).append_left A).trans<|pm [A,B,P,Q,Z] (.p (.a 0)<|.p (.a 1)<|.p (.p (.a 2)<|.a 3)<|.a 4) (.p (.p (.a 0)<|.a 2)<|.p (.a 1)<|.p (.a 3)<|.a 4) rfl
def aq0{mt:!N×N}(hi:vs[j]? =some (ax mt))(d:(D::xs).length<=4001):ay x (my ol a.z) 280 (cM e_ 16<|cG a.z) F (M6 x S a c (D::xs) (J++[aF q]) G v++[pO q r,pJ r (.ref b) j]++[(b,aa #[vs] nb)]++Y) (QK (.ok .next)<|M6 x S a c (D::xs) (J++[aF q]) G (ax mt)++[pO q r,pJ r (.ref b)<|j+1]++[(b,aa #[vs] nb)]++Y):=bJ (O:=[]) ab λB K=>bp (V9 a ol S.so S.nd B K c.t c.nx c.ny c.nm mt.2 b nb q r j v D G c.us xs (J++[aF q]) vs mt.1 x) ab #[by show(#[vs]:Array af)[(j:Int).toNat]? =_;simpa using hi,O5,ui d,ab] (aV) ⟨⟩
abbrev Ri(s t:N)(v:af):aH×Obj:=(s,gZ (.type "StopIteration") [.ref t,v,.none,.none,.bool false,.none])
def aeQ(z):(cG z).scope.kind=.function:=by lk
def aq1(hk:iX ol zs)(hi:vs[j]? =none)(W:a6::xs=a8++[ax (k,t)])(d:(a6::xs).length<=4001)(e:a7.length<=4000)(H:iV D=true/\(d5 D #[#[k]]).isSome=true)(l:D.length<=4001)(h:∀F' L,ay x (my ol a.z) 280 (cM e_ 16<|cG a.z) F' (M6 x S a L a8 a7 (mu #[#[k]] D) v++[(b,aa #[vs] nb)]++Y++zs.map (be L.us)) Q):ay x (my ol a.z) 280 (cM e_ 16<|cG a.z) F (M6 x S a c (a6::xs) (a7++[aF q]) D v++[pO q r,pJ r (.ref b) j]++[(b,aa #[vs] nb)]++(Y++zs.map (be c.us))) Q:=
 bJ (O:=[]) ab λB K=>xN (V_ a ol S.so S.nd B K c.t c.nx c.ny c.nm t b nb q r j v a6 D c.us xs (a7++[aF q]) vs k x) ab #[by show(#[vs]:Array af)[(j:Int).toNat]? =_;simpa using hi,O5,ui d,ab] (Lc:=be c.us #[a.z,fb x.P S a c.t v,7]::zs.map (be c.us)++[Ri (B+1) B .none]) (Z:=[(a.z+1,aa #[a6::xs] c.nx),(a.z+2,aa #[a7++[aF q]] c.ny),(a.z+4,ak D c.nm),pO q r,pJ r .none j,(b,aa #[vs] nb)]++Y) (pm [[be c.us #[a.z,fb x.P S a c.t v,7]],[(a.z+1,aa #[a6::xs] c.nx),(a.z+2,aa #[a7++[aF q]] c.ny),(a.z+4,ak D c.nm),pO q r,pJ r .none j,(b,aa #[vs] nb)],_,Y,zs.map<|be c.us] (.p (.p (.a 0)<|.p (.a 1)<|.a 2)<|.p (.a 3)<|.a 4) (.p (.p (.p (.a 0)<|.a 4)<|.a 2)<|.p (.a 1)<|.a 3) rfl) λw g s A C o=>by
   have f:bg x (fz F []) ((#[a.z,fb x.P S a c.t v,7]::zs).map (be c.us)++(B+1,gZ (.type "StopIteration") [.ref B,.none,.none,.none,.bool false,.none])::w) g s:=by have q:=o;rw[b4]at q;rw[q]
   refine Lq C rfl (hk:=#[λU=>(nomatch(aeQ a.z).symm.trans U),rfl,hk]) f λi M m P G=>bY (fz F []) ((#[a.z,fb x.P S a c.t v,7]::zs).map (be m)++[Ri (B+1) B<|.ref i,(i,kX a.z M)]) aV (by rw[b4,];rw[G]) ?_;refine#[_++_++_,Y++zs.map (be m),pm [[(a.z,bi (fb x.P S a c.t v) 7<|m a.z)],zs.map<|be m,_,_,Y] (.p (.p (.p (.a 0)<|.a 1)<|.a 2)<|.p (.a 3)<|.a 4) (.p (.p (.p (.a 0)<|.a 3)<|.a 2)<|.p (.a 4)<|.a 1) rfl,_,_,[],ab,λJ n=>bu (Wa a ol S.so S.nd B c.t c.nx c.ny c.nm t J n b nb q r i j v a6 D m xs (a7++[aF q]) vs M k x) ab #[aoF e,#[#[dM,H],by rw[Dq l]],#[by show(a6::xs).length<=16777216;rw[Dq d],by rw[W,];simp],ab] rfl (λ_ _ U=>.inl U) ?_];simp only[W,Pk,Pk];rw[(h (fz (fz F []) _) #[m,c.t,c.nx+1,c.ny+1,c.nm+1])]
def Ix(l n r):(Gr (l++n::r)).Perm ([n.ls]++(n.ob::(Gr l++Gr r))):=(xM l n r).trans<|.swap _ _ _
def Ba{st:!Kp}:(l7 x S a c (e::st) v++(WS (e::st)++(Gr (l++n::r)++zs.map (be c.us)))).Perm ((l7 x S a c (e::st) v++e.W++[n.ls])++((WS st++(n.ob::(Gr l++Gr r)))++zs.map (be c.us))):=(yy<|Ix l n r).trans (pm [l7 x S a c (e::st) v,e.W,WS st,[n.ls],n.ob::(Gr l++Gr r),zs.map<|be c.us] (.p (.p (.a 0)<|.a 3)<|.p (.p (.a 1)<|.a 2)<|.p (.a 4)<|.a 5) (.p (.p (.p (.a 0)<|.a 1)<|.a 3)<|.p (.p (.a 2)<|.a 4)<|.a 5) rfl)
def Wi{M W Z:ao}{n:Nd}:(M++[n.ls]++(W++(n.ob::(Gr l++Gr r)))++Z).Perm (M++(W++(Gr (l++n::r)++Z))):=((yy (A:=M) (B:=W) (Z:=Z)<|Ix l n r).trans<|pm [M,[n.ls],W,n.ob::(Gr l++Gr r),Z] (.p (.p (.a 0)<|.a 1)<|.p (.a 2)<|.p (.a 3)<|.a 4) (.p (.p (.p (.a 0)<|.a 1)<|.p (.a 2)<|.a 3)<|.a 4) rfl).symm
def Ra{ss:!(!N×N)}{j:N}:(ss.map ax)[j]? =(ss[j]?).map ax:=fj ..
set_option tactic.hygienic true in
def Rl(hk:iX ol zs){st:!Kp}(g:me ns st):ay x (my ol a.z) 280 (cM e_ 16<|cG a.z) F (m5 x S a c st v ns zs) (TH x S a st v ns zs):=by
 induction st generalizing c v F with
 |nil=>rw[bJ (O:=[]) ab λB K=>bp (V8 a ol S.so S.nd B K c.t c.nx c.ny c.nm v [] c.us [] x) ab #[ui<|dm _,ab] (aV)<|bA c rfl<|.refl _]
 |cons f st C=>
  rw[ct (g.mem f<|.head _) λH o=>?_];have k:=g.le;obtain⟨d,Q,W⟩:∃d Q,dw (f::st)=d::Q:=by
   cases U:dw (f::st)with
   |nil=>simp[dw]at U
   |cons d Q=>rw[kh d Q rfl]
  have u:fo (f::st)=fo st++[aF f.q]:=by simp[fo]
  have i:(d::Q).length<=4001:=by rw[W▸?_];simp[dw];rw[yg k]
  have t:ij (ns.map Nd.pg) ((f::st).map Kp.pr)=match(f.n.ss)[f.j]?with
    |some E=>some (E.1,({f with j:=f.j+1}::st).map Kp.pr)
    |none=>ij (ns.map Nd.pg) (st.map Kp.pr):=by
   show(match(aS (ns.map Nd.pg) f.n.k)[f.j]?with|some E=>_|none=>_)=_;simp only[o,fj]
   cases(f.n.ss)[f.j]? <;>rfl
  cases w:(f.n.ss)[f.j]?with
  |some A=>simp only[w]at t;rw[fW (FH H) λl r P=>?_];subst P;rw[.perm Ba ?_];show ay _ _ _ _ _ (M6 x S a c (dw (f::st)) (fo (f::st)) (eL x.P (f::st)) v++f.W++[f.n.ls]++((WS st++(f.n.ob::(Gr l++Gr r)))++zs.map (be c.us))) _;refine W▸u▸((aq0 (mt:=A) (by rw[Ra▸w▸?_];rfl) i).le (d8 _) λm T h _ q=>?_);cases q;rw[#[c,?_]];rw[t,];rw[#[rfl,A.2,{f with j:=f.j+1}::st,rfl,g.next,d8 _,bA f.n H<|uK w,?_]];have z:=(Ba (x:=x) (S:=S) (a:=a) (c:=c) (e:={f with j:=f.j+1}) (st:=st) (v:=ax A) (l:=l) (r:=r) (n:=f.n) (zs:=zs)).symm;show zJ _ (M6 x S a c (dw (f::st)) (fo (f::st)) (eL x.P (f::st)) (ax A)++_);have z:zJ (M6 x S a c (dw (f::st)) (fo (f::st)) (eL x.P (f::st)) (ax A)++_++_++_) (M6 x S a c (dw (f::st)) (fo (f::st)) (eL x.P (f::st)) (ax A)++_):=z;rw[W,u]at z⊢;rw[z]
  |none=>
   rw[w]at t;rw[fW (FH H) λl r P=>?_];subst P;rw[.perm Ba ?_];show ay _ _ _ _ _ (M6 x S a c (dw (f::st)) (fo (f::st)) (eL x.P (f::st)) v++f.W++[f.n.ls]++((WS st++(f.n.ob::(Gr l++Gr r)))++zs.map (be c.us))) _;refine W▸u▸(aq1 hk (by rw[Ra▸w▸?_];rfl) (W.symm.trans (by simp[dw]:dw (f::st)=dw st++[f.v])) i (by simp[fo];rw[yg k]) #[wg,by rw[Bo▸?_];simp] (by simp[eL];rw[yg k]) λT L=>?_);rw[Xo (c_.mp g.nd).1,];rw[.perm Wi<|(C g.tail).le (d8 _) λm T h _ J=>J.casesOn λb U=>#[b,(t▸?_)]];dsimp only;split
   .rename_i q;rw[q]at U;rw[U]
   .rename_i y q
    rw[q]at U;rw[ct U λp R=>xz R λD G M X I Y s=>#[p,D,G,M,X,lk I,Y,s]]
end
structure Sv where
 rd:af
 po:Int
 tp:N
 nf:Int
 tf:N
 ne:N
structure Sy where
 sv:Array (Int×af)
 sp:N
 st:j9
abbrev SN(x:Wd)(S:Sg)(d:Sv)(ns:!Nd):ao:=[S.D x.P d.rd d.po d.tp d.nf d.tf,S.N (aG x.P ns) d.ne]
abbrev E8(x:Wd)(S:Sg)(d:Sv)(ns:!Nd)(a:Fa)(c:Vz)(y:Sy)(st:!Kp)(v:af):ao:=[S.D x.P d.rd d.po d.tp d.nf d.tf,S.N (aG x.P ns) d.ne,(a.z,bi (fb x.P S a c.t v) 7<|c.us a.z),(a.z+1,aa #[dw st] c.nx),(a.z+2,aa #[fo st] c.ny),(a.z+3,fI y.sv y.sp y.st),(a.z+4,ak (eL x.P st) c.nm)]
def D8(x:Wd)(S:Sg)(d:Sv)(ns:!Nd)(a:Fa)(c:Vz)(y:Sy)(st:!Kp)(v:af)(zs:!Fr):ao:=E8 x S d ns a c y st v++(WS st++(Gr ns++zs.map (be c.us)))
section
variable{x:Wd} {ol:!aX} {S:Sg} {d:Sv} {a:Fa} {ns:!Nd} {zs:!Fr}
def Hx{st:!Kp}:(D8 x S d ns a c y st v zs).Perm (m5 x S a c st v ns zs++(SN x S d ns++[(a.z+3,fI y.sv y.sp y.st)])):=pm [SN x S d ns,[(a.z,bi (fb x.P S a c.t v) 7<|c.us a.z),(a.z+1,aa #[dw st] c.nx),(a.z+2,aa #[fo st] c.ny)],[(a.z+3,fI y.sv y.sp y.st)],_,WS st,Gr ns,zs.map<|be c.us] (.p (.p (.a 0)<|.p (.a 1)<|.p (.a 2)<|.a 3)<|.p (.a 4)<|.p (.a 5)<|.a 6) (.p (.p (.p (.a 1)<|.a 3)<|.p (.a 4)<|.p (.a 5)<|.a 6)<|.p (.a 0)<|.a 2) rfl
def xo{st:!Kp}(h:L.Perm (m5 x S a c st v ns zs)):(L++(SN x S d ns++[(a.z+3,fI y.sv y.sp y.st)])).Perm (D8 x S d ns a c y st v zs):=(h.append_right _).trans Hx.symm
abbrev jQ(u:!(!N)):aA->Bool:=λs=>decide<|s.cps.toList∈u
def aqo:(λK=>jQ D K||decide (K=(#[#[k]]:aA)))=jQ (k::D):=by funext s;obtain⟨⟨l⟩⟩:=s;rw[qg,];simp[or_comm]
def Q8(x:Wd)(S:Sg)(d:Sv)(ns:!Nd)(a:Fa)(zs:!Fr)(m:N)(o:Option (List<|List N)):Po:=λT r h=>match o with
 |none=>∃B l Q n,r=.ok (.ret<|.ref l)/\T l (aa #[Q] n)/\0<Q.length/\Q.length<=9000/\(∃b,h.Perm<|(SN x S d ns++(Gr ns++zs.map (be B)))++b)
 |some u=>r=.ok .next/\∃Z y v n,i7 x.W y.sv y.st (jQ u) n/\n<=m/\h.Perm (D8 x S d ns a Z y [] v zs)
def amp(h:∃m∈ns,m.k=k):∃l n r,ns=l++n::r/\n.k=k/\d5 (aG P ns) #[#[k]]=some (.ref n.a)/\aS (ns.map Nd.pg) k=n.ss.map (·.1):=by
 rcases Dy P k ns with⟨l,n,r,rfl,a,M,X⟩|⟨a,M⟩
 .rw[B8 l n r rfl a X ?_]
  clear X h;induction l with
  |nil=>show(if n.k=k then _ else _)=_;rw[if_pos a,];rfl
  |cons m l C=>show(if m.k=k then _ else _)=_;rw[if_neg<|M m<|.head _,];rw[C λq u=>M q<|.tail _ u]
 .rw[aJ h λm H c=>absurd c<|a m H]
abbrev qi(ns:!Nd):Prop:=∀n∈ns,∀p∈n.ss,∃E∈ns,E.k=p.1
def Bh:∀{st y},ij g st=some y->∀k∈y.2.map (·.1),k∈st.map (·.1)
 |[],_,U=>nn U
 |(k,K)::st,y,U=>by
  conv at U=>lhs;whnf
  split at U
  .cases U
   exactλq u=>u
  .exactλq u=>.tail _<|Bh U q u
def XS:∀{l:!Kp},k∈l.map (·.n.k)->∃e∈l,d5 (l.map λe=>V P #[#[e.n.k]] e.t<|.int (e.i:Int) e.mi) #[#[k]]=some (.int (e.i:Int) e.mi):=by
 intro J;induction J with
 |nil=>intro U;rw[nomatch U]
 |cons d l C=>
  intro U;by_cases q:d.n.k=k
  .rw[bA d (.head _) (by unfold d5;simp only[bW,uJ,tj,decide_eq_true q];rfl)]
  .rw[aJ (C<|(aY.mp U).resolve_left λU=>q U.symm) λe a M=>bA e (.tail _ a) ?_]
   unfold d5 at M⊢;simp only[bW,uJ,tj,decide_eq_false q];rw[M]
def XT{st:!Kp}(h:k∈st.map (·.n.k)):∃e∈st,d5 (eL P st) #[#[k]]=some (.int (e.i:Int) e.mi):=by obtain⟨e,a,q⟩:=XS<|nj▸l5.mpr h;rw[bA e (l5.mp a) (by unfold eL;rw[nj▸q])]
def sX{st:!Kp}:(E8 x S d ns a c y st v++Y).Perm ([(a.z+3,fI y.sv y.sp y.st)]++(SN x S d ns++l7 x S a c st v++Y)):=pm [SN x S d ns++[(a.z,bi (fb x.P S a c.t v) 7<|c.us a.z),(a.z+1,aa #[dw st] c.nx),(a.z+2,aa #[fo st] c.ny)],[(a.z+3,fI y.sv y.sp y.st)],_,Y] (.p (.p (.a 0)<|.p (.a 1)<|.a 2)<|.a 3) (.p (.a 1)<|.p (.p (.a 0)<|.a 2)<|.a 3) rfl
def kr(xs)(v:af):(ar xs).push v=ar (xs++[v]):=h_<|by simp
def U0{c:Vz}{y:Sy}{st:!Kp}{t i m q p:N}:zJ ([S.D x.P d.rd d.po d.tp d.nf d.tf,S.N (aG x.P (l++nd::r)) d.ne,(a.z,bi (fb x.P S a c.t<|ax (nd.k,t)) 7<|c.us a.z),(a.z+1,aa ((ar<|dw st).push<|ax (nd.k,t))<|c.nx+1),(a.z+2,aa ((ar<|fo st).push<|.ref q)<|c.ny+1),(a.z+3,fI y.sv y.sp y.st),(a.z+4,ak (eL x.P st++[V x.P #[#[nd.k]] t<|.int (i:Int) m])<|c.nm+1),nd.ob,nd.ls,pJ p (.ref nd.b) 0,pO q p]++(WS st++((Gr l++Gr r)++zs.map (be c.us)))) (m5 x S a #[c.us,c.t,c.nx+1,c.ny+1,c.nm+1] (#[nd,t,m,i,0,q,p]::st) (ax (nd.k,t)) (l++nd::r) zs++(SN x S d (l++nd::r)++[(a.z+3,fI y.sv y.sp y.st)])):=by
 have K:dw st++[ax (nd.k,t)]=dw (#[nd,t,m,i,0,q,p]::st):=by simp[dw]
 have O:fo st++[.ref q]=fo (#[nd,t,m,i,0,q,p]::st):=by simp[fo]
 have b:eL x.P st++[V x.P #[#[nd.k]] t<|.int i m]=eL x.P (#[nd,t,m,i,0,q,p]::st):=by simp[eL]
 simp only[kr,kr,K,O,b];rw[FE ?_<|(yy<|pV).symm.append_right _];rw[pm [SN x S d (l++nd::r),[(a.z,bi (fb x.P S a c.t<|ax (nd.k,t)) 7<|c.us a.z),(a.z+1,aa #[dw (#[nd,t,m,i,0,q,p]::st)]<|c.nx+1),(a.z+2,aa #[fo (#[nd,t,m,i,0,q,p]::st)]<|c.ny+1)],[(a.z+3,fI y.sv y.sp y.st)],[(a.z+4,ak (eL x.P (#[nd,t,m,i,0,q,p]::st))<|c.nm+1)],[nd.ob,nd.ls],[pJ p (.ref nd.b) 0],[pO q p],WS st,Gr l++Gr r,zs.map<|be c.us] (.p (.p (.a 0)<|.p (.a 1)<|.p (.a 2)<|.p (.a 3)<|.p (.a 4)<|.p (.a 5)<|.a 6)<|.p (.a 7)<|.p (.a 8)<|.a 9) (.p (.p (.p (.p (.a 1)<|.a 3)<|.a 4)<|.p (.p (.p (.a 6)<|.a 5)<|.a 7)<|.p (.a 8)<|.a 9)<|.p (.a 0)<|.a 2) rfl]
def ark(hk:iX ol zs)(Y:qi ns)(H:m<=4000):∀{st u k t n c y F o},F S.so (a9 S.sd)->me ns st->(∀e∈st,e.n.k∈u)->i7 x.W y.sv y.st (jQ u) n->n+f<=m->st.length+f<=4000->(∃n∈ns,n.k=k)->mz (ns.map Nd.pg) f (st.map Kp.pr) u k=some o->ay x (my ol a.z) 290 (cM e_ 8<|cG a.z) F (D8 x S d ns a c y st (ax (k,t)) zs) (Q8 x S d ns a zs m o):=by
 induction f with
 |zero=>intro st u k t n c y F o W b0 T bs w a6 ds A;cases A
 |succ f C=>
  intro st u k t n c y F o W b0 T bs w a6 ds A;change(if _ then _ else _)=_ at A;rw[bJ (O:=[(S.so,a9 S.sd)]) #[W,ab] λB ed=>jh (ci S a ol d.tp d.tf d.ne B ed c.t c.nx c.ny y.sp c.nm t d.po d.nf d.rd (aG x.P ns) (eL x.P st) c.us (dw st) (fo st) y.sv y.st k x) ab ab sX λem ey s eh ev d1=>H0 d1 bs ?_];have j:fz F [] S.so (a9 S.sd):=an _ _ W;by_cases bl:k∈u
  .rw[if_pos bl]at A
   rw[show jQ u #[#[k]]=true from decide_eq_true bl,];by_cases J:k∈st.map (·.n.k)
   .rw[if_pos<|by simpa using J]at A
    cases A;rw[aJ (XT (P:=x.P) J) λe a7 ac=>?_];have dt:(iU (ar<|dw st) (some e.i) none none).1.length<=4000:=by
     have M:(dw st).length=st.length:=by simp[dw]
     rw[ajF a6 (slicePick_size_le _ _ _ _) M]
    rw[#[_,_,sX.symm,_,_,[(S.so,a9 S.sd)],#[j,ab],λbo bt=>bp (U3 S a ol d.tp d.tf d.ne c.t c.nx c.ny y.sp c.nm t bo bt e.mi d.po d.nf e.i d.rd (aG x.P ns) (eL x.P st) c.us (dw st) (fo st) y.sv y.st k x) ab #[#[pF,by show(iU (ar<|dw st) (some e.i) none none).1.length+1<=16777216;rw[ajG dt]],by show(dw st).length<=16777216;simp[dw];rw[ajH a6],#[dM,wg,ac],#[dM,wg,by rw[ac,];rfl,LZ],ab] an<|aa_ c.us (bo+3) _ 0 rfl (bc<|.head _) (by simp) (by rw[cv,];rw[bT (oW dt 1)<|ζ]) #[WS st,pm [SN x S d ns,WS st,Gr ns++zs.map (be c.us)] (.p (.a 0)<|.p (.a 1)<|.a 2) (.p (.p (.a 0)<|.a 2)<|.a 1) rfl]]]
   .rw[if_neg<|by simpa using J]at A
    refine⟨_,_,sX.symm,_,_,[(S.so,a9 S.sd)],⟨j,ab⟩,λbo bt=>bP (U4 S a ol d.tp d.tf d.ne c.t c.nx c.ny y.sp c.nm t bo bt d.po d.nf d.rd (aG x.P ns) (eL x.P st) c.us (dw st) (fo st) y.sv y.st k x) ab #[#[dM,wg,by rw[Bo,];rw[decide_eq_false J],LZ],ab] Hx ((Rl hk b0).le ζ λ_ _ _ _ U=>U) λr d0 ch c4 db=>db.casesOn λb U=>?_⟩;have a8:=dR (cb an) c4;cases ac:ij (ns.map Nd.pg) (st.map Kp.pr)with
    |none=>simp only[ac]at U A;rw[ct U λQ I=>?_];subst Q;cases A;rw[#[[],_,.refl _,_,_,[],ab,λD E=>bp (U5 ol a.z D E y.st x) ab ab a8 #[rfl,b,y,_,n,bs,ajI w,xo I]]]
    |some bb=>
     rw[ac]at U A;rw[ct U λQ h=>xz h λca z K M X dd I=>?_];subst Q;rw[aJ dd λda c1 c2=>#[[],_,.refl _,_,_,[],ab,λD E=>bu (U6 ol a.z D E y.st x) ab ab rfl a8<|.perm (xo I)<|C (an _ _<|a8 _ _ W) M ?_ bs (ajJ w) (ajK a6 X) (Y da c1 _ c2)<|K▸A]];have eb:=Bh ac;intro e a7;have:e.pr.1∈bb.2.map (·.1):=by rw[K,bI];rw[bw a7]
     obtain⟨G,c0,q⟩:∃G∈st,G.n.k=e.n.k:=by have:=eb _ this;rw[bI]at this;rw[bn.mp this]
     rw[q▸T G c0]
  .rw[if_neg bl]at A
   rw[show jQ u #[#[k]]=false from decide_eq_false bl,];rw[xA (amp (P:=x.P) ds) λl g r ef eg d3 ec=>?_];subst ef;subst eg;have dx:(dw st).length=st.length:=by simp[dw]
   have ea:(fo st).length=st.length:=by simp[fo]
   have H:(eL x.P st).length=st.length:=by simp[eL]
   have J:g.k∉st.map (·.n.k):=λU=>by obtain⟨e,a7,q⟩:=bn.mp U;rw[bl<|q▸T e a7]
   refine⟨_,_,sX.symm,_,_,[(S.so,a9 S.sd)],⟨j,ab⟩,λbo bt=>jh (UY S a ol d.tp d.tf d.ne c.t c.nx c.ny y.sp c.nm t bo bt d.po d.nf d.rd (aG x.P (l++g::r)) (eL x.P st) c.us (dw st) (fo st) y.sv y.st g.k x) ab ab sX λep eB eC ei ew d2=>Ym d2 bs (jA (bT (oV (nB<|dm f) n)<|bT w<|by assumption) (by decide:4000<4096)) λi L z c3=>?_⟩;simp only[aqo]at c3;have du:i7 x.W i z (jQ (g.k::u)) (n+1):=by rw[show jQ u #[#[g.k]]=false from decide_eq_false bl]at c3;rw[c3]
   rw[#[E8 x S d (l++g::r) a c #[i,L,z] st (ax (g.k,t))++[g.ob,g.ls],WS st++((Gr l++Gr r)++zs.map (be c.us)),?_,_,_,[(S.so,a9 S.sd)],#[an _ _ j,ab],λD E=>bP (UZ S a ol d.tp d.tf d.ne c.t c.nx c.ny c.nm t L g.a g.d g.b g.tp g.nb D E d.po d.nf g.np d.rd (.str #[#[g.k]] g.tk) (aG x.P (l++g::r)) (eL x.P st) c.us (dw st) (fo st) (g.ss.map ax) i y.st z g.k x) ab #[by show(dw st).length<=16777216;rw[Dp a6 dx],#[dM,wg,by have:=Bo (P:=x.P) (k:=g.k) (st:=st);simp only[decide_eq_false J]at this;rw[Gp.mp<|by simpa using this],by show(eL x.P st).length<=16777216;rw[Dp a6 H]],ui<|ajL a6 dx,by show(fo st).length<=16777216;rw[Dp a6 ea],#[dM,oH _ _,d3],ab] (Lc:=m5 x S a #[c.us,c.t,c.nx+1,c.ny+1,c.nm+1] (#[g,t,E+4,(dw st).length,0,D+1,D]::st) (ax (g.k,t)) (l++g::r) zs) (Z:=SN x S d (l++g::r)++[(a.z+3,fI i L z)]) ?_ ((Rl hk #[λe a7=>(aY.mp a7).elim (λU=>U▸#[(dY _<|.head _),ec])<|b0.mem e,c_.mpr ⟨J,b0.nd⟩,by rw[ajM a6]]).le ζ λ_ _ _ _ U=>U) λdV d0 ch c4 db=>db.casesOn λb U=>?_]]
   .rw[(sX (y:=#[i,L,z])).symm.trans<|yy pV]
   .rw[U0 (y:=#[i,L,z])]
   .have a8:=dR (cb<|cb an) c4
    cases ac:ij ((l++g::r).map Nd.pg) ((g.k,0)::st.map Kp.pr)with
    |none=>
     rw[ac]at A;cases A;have ck:dV=.ok .brk/\ch.Perm (m5 x S a b [] (ax (g.k,t)) (l++g::r) zs):=by have q:ij ((l++g::r).map Nd.pg) ((#[g,t,E+4,(dw st).length,0,D+1,D]::st).map Kp.pr)=none:=ac;rw[q]at U;rw[U]
     rw[ct ck λQ I=>?_];subst Q;rw[#[[],_,.refl _,_,_,[],ab,λc5 R=>bp (U1 ol a.z c5 R y.st z x) ab ab a8 #[rfl,b,#[i,L,z],_,n+1,du,ajN w,xo (y:=#[i,L,z]) I]]]
    |some bb=>
     rw[ac]at A;have ck:dV=.ok .next/\∃ca z,bb.2=z.map Kp.pr/\me (l++g::r) z/\z.length<=st.length+1/\(∃n∈l++g::r,(bb.1,ca)∈n.ss)/\ch.Perm (m5 x S a b z (ax (bb.1,ca)) (l++g::r) zs):=by have q:ij ((l++g::r).map Nd.pg) ((#[g,t,E+4,(dw st).length,0,D+1,D]::st).map Kp.pr)=some bb:=ac;rw[q]at U;rw[U]
     rw[ct ck λQ h=>xz h λca eM K M X dd I=>?_];subst Q;rw[aJ dd λda c1 c2=>#[[],_,.refl _,_,_,[],ab,λc5 R=>bu (U2 ol a.z c5 R y.st z x) ab ab rfl a8<|.perm (xo (y:=#[i,L,z]) I)<|C (an _ _<|a8 _ _ W) M ?_ du (ajO w) (ajP a6 X) (Y da c1 _ c2)<|K▸A]];intro e a7;have:e.pr.1∈bb.2.map (·.1):=by rw[K,bI];rw[bw a7]
     rcases aY.mp ((Bh ac) _ this)with q|q
     .simp only[show e.n.k=g.k from q];rw[.head _]
     .rw[bI]at q
      rw[aJ (bn.mp q) λG c0 q=>.tail _<|(show G.n.k=e.n.k from q)▸T G c0]
end
abbrev aeP(r l i ne:N):aH×Obj:=(r,#[.type "dict_keyiterator",none,.fields #[[.none,.int (i:Int) 0,.int (l:Int) 0,.int (ad ne) 0]],#[[]]])
abbrev pH(r nd i l ne:N):aH×Obj:=(r,#[.type "dict_keyiterator",none,.fields #[[.ref nd,.int (i:Int) 0,.int (l:Int) 0,.int (ad ne) 0]],#[[]]])
section
variable{x:Wd} {ol:!aX} {S:Sg} {d:Sv} {a:Fa} {ns:!Nd} {zs:!Fr}
def Q5(x:Wd)(S:Sg)(d:Sv)(ns:!Nd)(zs:!Fr)(a:aL)(b:Bool):Po:=λT r h=>(∃B c,h.Perm<|(SN x S d ns++(Gr ns++zs.map (be B)))++c)/\match b with
 |true=>∃l Q n,r=.ok (.ret<|.ref l)/\T l (aa #[Q] n)/\0<Q.length/\Q.length<=9000
 |false=>r=a
abbrev E9(x:Wd)(S:Sg)(d:Sv)(ns:!Nd)(a:Fa)(c:Vz)(y:Sy)(v:af)(i:N):ao:=[S.D x.P d.rd d.po d.tp d.nf d.tf,S.N (aG x.P ns) d.ne,(a.z,bi (fb x.P S a c.t v) 7<|c.us a.z),(a.z+1,aa #[[]] c.nx),(a.z+2,aa #[[]] c.ny),(a.z+3,fI y.sv y.sp y.st),(a.z+4,ak [] c.nm),pH (a.z+5) S.nd i (aG x.P ns).length d.ne]
abbrev D9(x:Wd)(S:Sg)(d:Sv)(ns:!Nd)(a:Fa)(c:Vz)(y:Sy)(v:af)(i:N)(zs:!Fr):ao:=E9 x S d ns a c y v i++(Gr ns++zs.map (be c.us))
abbrev xG(z:N):bj:=bM e_ 5 (.ref<|z+5)<|cG z
def Br:(E9 x S d ns a c y v i++Y).Perm ([(a.z+3,fI y.sv y.sp y.st)]++((SN x S d ns++l7 x S a c [] v)++(pH (a.z+5) S.nd i (aG x.P ns).length d.ne::Y))):=pm [SN x S d ns++[(a.z,bi (fb x.P S a c.t v) 7<|c.us a.z),(a.z+1,aa #[[]] c.nx),(a.z+2,aa #[[]] c.ny)],[(a.z+3,fI y.sv y.sp y.st)],[(a.z+4,ak [] c.nm)],_,Y] (.p (.p (.a 0)<|.p (.a 1)<|.p (.a 2)<|.a 3)<|.a 4) (.p (.a 1)<|.p (.p (.a 0)<|.a 2)<|.p (.a 3)<|.a 4) rfl
def HO:([(a.z+3,fI y.sv y.sp y.st)]++((SN x S d ns++l7 x S a c [] v)++(pH (a.z+5) S.nd i (aG x.P ns).length d.ne::Y))).Perm ((E8 x S d ns a c y [] v++Y)++[pH (a.z+5) S.nd i (aG x.P ns).length d.ne]):=pm [SN x S d ns++[(a.z,bi (fb x.P S a c.t v) 7<|c.us a.z),(a.z+1,aa #[[]] c.nx),(a.z+2,aa #[[]] c.ny)],_,_,[pH (a.z+5) S.nd i (aG x.P ns).length d.ne],Y] (.p (.a 1)<|.p (.p (.a 0)<|.a 2)<|.p (.a 3)<|.a 4) (.p (.p (.p (.a 0)<|.p (.a 1)<|.a 2)<|.a 4)<|.a 3) rfl
def XW:((E8 x S d ns a c y [] v++Y)++[pH (a.z+5) S.nd i (aG x.P ns).length d.ne]).Perm (E9 x S d ns a c y v i++Y):=HO.symm.trans Br.symm
def RJ(hk:iX ol zs)(Y:qi ns){K z:aL->aR->av}(W:F S.so (a9 S.sd))(g:i7 x.W y.sv y.st (jQ a6) n)(R:0<f/\f<=4000)(w:n+(a7.length+1)*f<=4000)(P:∃n∈ns,n.k=k)(A:iQ (ns.map Nd.pg) f (k::a7) a6=some b)(T:∀Z,Ev (o Z) Z [0,1,2,3,4,5,6,7] (.pend 299 (my ol a.z) (.call (.builtin "set.__contains__") #[[.ref<|a.z+3,.str #[#[k]] t],[]]) K) (E9 x S d ns a c y (ax (k,t)) i) [] [] ps)(I:AP ps)(ca:∀J G Z,Ev (K (.ok<|.ret<|.bool true)<|cf [] J G [0] [] [] Z) Z [] (.next<|xG a.z) [] [] [] [])(bs:∀J G Z,Ev (K (.ok<|.ret<|.bool false)<|cf [] J G [0,1] [] [] Z) Z [] (.pend 299 (my ol a.z) (cM e_ 8<|cG a.z) z) [] [] [] [])(bt:∀D E Z,Ev (z (.ok .next)<|cf [] D E [] [] [] Z) Z [] (.next<|xG a.z) [] [] [] [])(b0:∀v D E Z,Ev (z (.ok<|.ret v)<|cf [] D E [] [] [] Z) Z [] (.res<|.ok<|.ret v) [] [] [] [])(bb:∀F' L e n' q p,F' S.so (a9 S.sd)->i7 x.W e.sv e.st (jQ p) n'->n'+a7.length*f<=4000->iQ (ns.map Nd.pg) f a7 p=some b->ay x (my ol a.z) 300 (xG a.z) F' (D9 x S d ns a L e q i zs) (Q5 x S d ns zs (.ok .next) b)):Go x (my ol a.z) 300 F (Q5 x S d ns zs (.ok .next) b) F (Gr ns++zs.map (be c.us)) o:=by
 have j:fz F [] S.so (a9 S.sd):=an _ _ W;have O:n+f+a7.length*f<=4000:=by rw[Nat.add_mul]at w;rw[ak_ w]
 rw[jh T ab I Br λc5 da s c2 C bo=>H0 bo g ?_];change(if _ then _ else _)=_ at A;by_cases u:k∈a6
 .rw[if_pos u]at A
  rw[(show jQ a6 #[#[k]]=true from decide_eq_true u)▸#[[],_,.refl _,_,_,[],ab,λJ G=>bu (ca J G) ab ab rfl an<|.perm Br.symm<|bb _ c y n (ax (k,t)) a6 (an _ _ j) g (bT (oW (oY n f) _) O) A]]
 .rw[if_neg u]at A
  refine(show jQ a6 ⟨⟨k⟩⟩=false from decide_eq_false u)▸⟨[],_,.refl _,[0,1],[],[],ab,λJ G=>?_⟩;cases m:mz (ns.map Nd.pg) f [] a6 k with
  |none=>rw[m]at A;cases A
  |some c0=>
   rw[m]at A;rw[bP (bs J G) ab ab HO ((ark hk Y (bT (oY ..) O) (st:=[]) (an _ _ j) #[λ_ U=>(nomatch U),.nil,dm _] (λ_ U=>(nomatch U)) g (d8 _) ((nC f).symm▸R.2) P m).le ζ λ_ _ _ _ U=>U) λr c3 c4 ch U=>?_];have a8:=dR (cb an) ch;cases c0 with
   |none=>cases A;rw[X6 U λB l Q ck H ac M X h=>dq h λbl I=>?_];subst H;rw[#[[],_,.refl _,_,_,[],ab,λD E=>bp (b0 (.ref l) D E) ab ab a8 #[kh B (bl++[pH (a.z+5) S.nd i (aG x.P ns).length d.ne])<|(I.append_right _).trans<|.of_eq<|b4 ..,l,Q,ck,rfl,an _ _ ac,M,X]]]
   |some p=>rw[ct U λc1 h=>X5 h λL e q n' ac M I=>?_];subst c1;rw[#[[],_,.refl _,_,_,[],ab,λD E=>bu (bt D E) ab ab rfl a8<|.perm ((I.append_right _).trans XW)<|bb _ L e n' q p (an _ _<|a8 _ _ W) ac (alO w M) A]]
def H7(P l n r):(aG P (l++n::r))[l.length]? =some (V P #[#[n.k]] n.tk<|.ref n.a):=by unfold aG;simp only[fj,oP<|d8 _,Nat.sub_self];rfl
def Pw(P l n r ne):gU true (.type "dict_keyiterator") (.type "dict") (aG P (l++n::r)) ne (l.length:Int) ((aG P (l++n::r)).length:Int) (ad ne) (ax (n.k,n.tk)):=#[rfl,dM,rfl,rfl,jy _,_,by rw[H7 P l n r],rfl]
def aq9(hk:iX ol zs)(R:0<f/\f<=4000):∀{l m c y v F u b},qi (l++r)->F S.so (a9 S.sd)->i7 x.W y.sv y.st (jQ u) m->m+r.length*f<=4000->iQ ((l++r).map Nd.pg) f (r.map (·.k)) u=some b->ay x (my ol a.z) 300 (xG a.z) F (D9 x S d (l++r) a c y v l.length zs) (Q5 x S d (l++r) zs (.ok .next) b):=by
 induction r with
 |nil=>
  intro l m c y v F u b Y W g H A;cases A;rw[bQ,];have e:(E9 x S d l a c y v l.length++(Gr l++zs.map (be c.us))).Perm ([S.N (aG x.P l) d.ne,pH (a.z+5) S.nd l.length (aG x.P l).length d.ne]++((S.D x.P d.rd d.po d.tp d.nf d.tf::(Gr l++zs.map (be c.us)))++((a.z+3,fI y.sv y.sp y.st)::l7 x S a c [] v))):=pm [[S.D x.P d.rd d.po d.tp d.nf d.tf],[S.N (aG x.P l) d.ne],[(a.z,bi (fb x.P S a c.t v) 7<|c.us a.z),(a.z+1,aa #[[]] c.nx),(a.z+2,aa #[[]] c.ny)],[(a.z+3,fI y.sv y.sp y.st)],[(a.z+4,ak [] c.nm)],_,Gr l++zs.map (be c.us)] (.p (.p (.a 0)<|.p (.a 1)<|.p (.a 2)<|.p (.a 3)<|.p (.a 4)<|.a 5)<|.a 6) (.p (.p (.a 1)<|.a 5)<|.p (.p (.a 0)<|.a 6)<|.p (.a 3)<|.p (.a 2)<|.a 4) rfl
  rw[.perm e (bJ (O:=[]) ab λB K=>bp (Wb ol S.nd d.ne B K a.z l.length (aG x.P l) x) ab #[#[rfl,dM,rfl,rfl,by unfold aG;rw[aU,]],ab] (aV) #[kh c.us (aeP (a.z+5) (aG x.P l).length l.length d.ne::((a.z+3,fI y.sv y.sp y.st)::l7 x S a c [] v))<|pm [[S.N (aG x.P l) d.ne],_,[S.D x.P d.rd d.po d.tp d.nf d.tf],Gr l++zs.map (be c.us),(a.z+3,fI y.sv y.sp y.st)::l7 x S a c [] v] (.p (.p (.a 0)<|.a 1)<|.p (.p (.a 2)<|.a 3)<|.a 4) (.p (.p (.p (.a 2)<|.a 0)<|.a 3)<|.p (.a 1)<|.a 4) rfl,rfl])]
 |cons n r C=>intro l m c y v F u b Y W g H A;refine bJ (O:=[(S.so,a9 S.sd)]) #[W,ab] λB K=>RJ hk Y W g R (by rw[aU,];rw[H]) (bA n (dY _<|.head _) rfl) A (cx S a ol d.tp d.tf d.ne B K c.t c.nx c.ny y.sp c.nm n.tk d.po d.nf l.length d.rd v (aG x.P (l++n::r)) [] c.us [] [] y.sv y.st n.k x) ⟨Pw x.P l n r d.ne,ab⟩ (λJ G=>Wg ol a.z n.tk J G y.st n.k x) (λJ G=>Wc ol a.z n.tk J G y.st n.k x) (λD E=>We ol a.z D E y.st x) (λP D E=>Wf ol a.z D E P y.st x) λT L j s q i h M X I=>?_;rw[(by simp:l++n::r=(l++[n])++r)]at I Y⊢;have z:=C (c:=L) (v:=q) Y h M (by rw[aU]at X;rw[X]) I;simp only[cv]at z;rw[z]
def aqZ(hk:iX ol zs)(R:0<f/\f<=4000)(bl:1<S.nd)(Y:qi (n::r))(W:F S.so (a9 S.sd))(H:(r.length+1)*f<=4000)(A:iQ ((n::r).map Nd.pg) f ((n::r).map (·.k)) []=some b):ay x #[none,some ol,false] 400 (.call (.ref 152) #[[.ref S.so],[]]) F (SN x S d (n::r)++(Gr (n::r)++zs.map (be us))) (Q5 x S d (n::r) zs (.ok<|.ret .none) b):=
 lY (O:=[(S.so,a9 S.sd)]) #[W,ab] λB K=>by
  rw[bP (UG S ol d.tp d.tf d.ne B K d.po d.nf d.rd (aG x.P (n::r)) x) ab #[#[dM,bl],ab] (.of_eq (bQ _).symm) (Qc:=Q5 x S d (n::r) zs (.ok .next) b) ?_ λm T h l U=>?_]
  .rw[.nd λg=>?_]
   have Z:∀f∈zs,f.a≠B:=λf R e=>by rw[bf,j3]at g;rw[g.2.2 B (.tail _<|.tail _<|.head _) _ (bw<|dY _<|bw R) e.symm]
   obtain⟨o,C,M⟩:∃o:N->Array (Option af),o B=⟨[]⟩/\zs.map (be us)=zs.map (be o):=bA (λy=>if y=B then#[[]]else us y) (if_pos rfl) (oQ λf R=>by show _=(f.a,bi f.es f.n<|if f.a=B then _ else _);rw[if_neg<|Z f R,])
   obtain⟨a,X,bb⟩:∃a,TL 0 0 ((not (x.W.params.followText "set-order")))=a/\i7 x.W ⟨[]⟩ a (jQ []) 0:=bA _ rfl #[λ_ U=>(nomatch U),λk=>#[λU=>(kZ U).elim,λbs=>aJ bs λ_ U _=>(nomatch U)],ζ,by cases(x.W.params.followText "set-order")<;>rfl,rfl]
   simp only[M,X];simp only[show az _ 6=bi (Ij x.P S #[B,K,K+2,K+3,K+4,K+5,K+6]) 6 (o B)from by simp only[C];rfl];rw[ay.le (bJ (O:=[(S.so,a9 S.sd)]) #[an _ _ W,ab] λbo a8=>RJ (y:=#[#[[]],0,a]) (c:=#[o,a8,0,0,0]) (i:=1) hk Y (an _ _ W) bb R (by rw[aU,nC];rw[H]) (bA n (.head _) rfl) A (co S #[B,K,K+2,K+3,K+4,K+5,K+6] ol d.tp d.tf d.ne bo a8 0 0 0 0 n.tk d.po d.nf 0 d.rd (aG x.P (n::r)) [] o [] [] #[[]] a n.k x) #[Pw x.P [] n r d.ne,ab] (λJ G=>V7 ol B n.tk J G a n.k x) (λJ G=>VR ol B n.tk J G a n.k x) (λD E=>VS ol B D E a x) (λP D E=>V6 ol B D E P a x) λT bt b0 s q p w L a6 u=>aq9 hk R (l:=[n]) Y w L (by rw[aU]at a6;rw[a6]) u) ζ λ_ _ _ _ U=>U]
  .have a7:=bO l
   skip;obtain⟨⟨t,ac,I⟩,U⟩:=U;cases b with
   |false=>subst U;rw[#[[],h,by simp only[bQ];rw[.refl _],_,_,[],ab,λJ G=>bp (UH ol B J G x) ab ab a7 #[kh t ac I,rfl]]]
   |true=>rw[gX U λl Q z j C M=>?_];subst j;rw[#[[],h,by simp only[bQ];rw[.refl _],_,_,[],ab,λJ G=>bp (UI ol B J G (.ref l) x) ab ab a7 #[kh t ac I,l,Q,z,rfl,an _ _ C,M]]]
end
section
abbrev hU(nd:N)(i:Int)(es:!bv)(ne:N):Obj:=#[.type "dict_valueiterator",none,.fields #[[.ref nd,.int i 0,.int (es.length:Int) 0,.int (ad ne) 0]],#[[]]]
abbrev kx(z:N):aX:=fR iD 0 (jf z)<|z+4
variable(S:Sg) (ol:!aX) (so sd nd tp tf ne sz tk z a d b U K nx t4 bt bo b0 a8 J l bs e a7 c0 c1:N) (u:N->N) (po nf D G:Int) (es:!bv) (k:!N) (xs bl:!af) (v4 bb:af) (a6:N->Array (Option af)) (x:Wd) (Y ca ch ck c2:ao)
def N4:av:=ex x #[none,some ol,false] 450 (.fn 117 #[[.ref S.so],[]])<|cf [(S.D x.P .none po tp nf tf),S.N es ne] sz tk (H 0x57446616654290a90c201c2033) [] [(S.so,a9 S.sd)] Y
def KR(x:Wd)(ol:!aX)(sz:N):Ko:=(N4 #[0,0,0,λn=>n] ol 0 0 0 sz 0 0 0 [] x []).resume
def aod:∀(x:Wd) Y,Ev (N4 S ol tp tf ne sz tk po nf es x Y) Y [0,1,2,3,4,5,6] (.pend 447 #[none,some (jf sz::ol),false] (jd iD 0 (.ref<|sz+2) (.ref<|sz+3)<|fR iD 0 (jf sz)<|sz+4)<|KR x ol sz) [(S.D x.P .none po tp nf tf),S.N es ne,(sz,az [V x.P bx tk<|.ref S.so] 1),((sz+1),#[.type "dict_values",none,.fields #[[.ref S.nd]],#[[]]]),((sz+2),hU S.nd 0 es ne),((sz+3),aa #[[]] 0),((sz+4),ak [] 0)] [] [] [qE (aI "dict") S.nd]:=bB
def au:∀(x:Wd) Y,Ev (ex x #[none,some (jf z::ol),false] 440 (.code<|jd iD 0 (.ref<|z+2) (.ref<|z+3)<|kx z)<|cf [(z+2,hU nd 0 es ne)] sz tk (bif x.b2 then[]else(H 0xb50)) [] [] Y) Y [0] (.next<|fT iD 0 (.ref<|z+2) (.ref<|z+3)<|kx z) [((z+2),hU nd 0 es ne)] [] [] []:=bB
def aoJ:Ev (ex x #[none,some (jf z::ol),false] 440 (.code<|fT iD 0 (.ref<|z+2) (.ref<|z+3)<|kx z)<|cf [(nd,ak es ne),(a,c8 d b G U<|ah k K),(z+2,hU nd D es ne),(z+3,aa #[xs] nx),(z+4,ak [] 0)] sz tk (H 0x5b10) [.ref a] [] Y) Y [0,1,2,3,4] (.next<|fT iD 0 (.ref<|z+2) (.ref<|z+3)<|kx z) [(nd,ak es ne),(a,c8 d b (G) U<|ah k K),((z+2),hU nd (D+1) es ne),((z+3),aa #[xs] nx),((z+4),ak [V x.P kR tk<|.ref a] 1)] [] [((G==0),false)] [gU false (aI "dict_valueiterator") (aI "dict") es ne D ((es.length:Int)) (ad ne)<|aF a]:=by lk
def aoL:Ev (ex x #[none,some (jf z::ol),false] 440 (.code<|fT iD 0 (.ref<|z+2) (.ref<|z+3)<|kx z)<|cf [(nd,ak es ne),(a,c8 d b G U<|ah k K),(z+2,hU nd D es ne),(z+3,aa #[xs] nx),(z+4,ak [V x.P kR t4 v4] 1)] sz tk (H 0x5b10) [.ref a] [] Y) Y [0,1,2,3,4] (.next<|fT iD 0 (.ref<|z+2) (.ref<|z+3)<|kx z) [(nd,ak es ne),(a,c8 d b (G) U<|ah k K),((z+2),hU nd (D+1) es ne),((z+3),aa #[xs] nx),((z+4),ak [V x.P kR t4<|.ref a] 1)] [] [((G==0),false)] [gU false (aI "dict_valueiterator") (aI "dict") es ne D ((es.length:Int)) (ad ne)<|aF a]:=by lk
def aoK:Ev (ex x #[none,some (jf z::ol),false] 440 (.code<|fT iD 0 (.ref<|z+2) (.ref<|z+3)<|kx z)<|cf [(nd,ak es ne),(a,c8 d b G U<|ah k K),(z+2,hU nd D es ne),(z+3,aa #[xs] nx),(z+4,ak [] 0)] sz tk (H 0x368e204b10) [.ref a] [] Y) Y [0,1,2,3,4] (.next<|fT iD 0 (.ref<|z+2) (.ref<|z+3)<|kx z) [(nd,ak es ne),(a,c8 d b (G) U<|ah k K),((z+2),hU nd (D+1) es ne),((z+3),aa ((ar xs).push<|ah k K)<|nx+1),((z+4),ak [V x.P kR tk<|.ref a] 1)] [] [((G==0),true)] [cm #[xs],gU false (aI "dict_valueiterator") (aI "dict") es ne D ((es.length:Int)) (ad ne)<|aF a]:=by lk
def aoM:Ev (ex x #[none,some (jf z::ol),false] 440 (.code<|fT iD 0 (.ref<|z+2) (.ref<|z+3)<|kx z)<|cf [(nd,ak es ne),(a,c8 d b G U<|ah k K),(z+2,hU nd D es ne),(z+3,aa #[xs] nx),(z+4,ak [V x.P kR t4 v4] 1)] sz tk (H 0x368e204b10) [.ref a] [] Y) Y [0,1,2,3,4] (.next<|fT iD 0 (.ref<|z+2) (.ref<|z+3)<|kx z) [(nd,ak es ne),(a,c8 d b (G) U<|ah k K),((z+2),hU nd (D+1) es ne),((z+3),aa ((ar xs).push<|ah k K)<|nx+1),((z+4),ak [V x.P kR t4<|.ref a] 1)] [] [((G==0),true)] [cm #[xs],gU false (aI "dict_valueiterator") (aI "dict") es ne D ((es.length:Int)) (ad ne)<|aF a]:=by lk
def pe:Ev (ex x #[none,some (jf z::ol),false] 440 (.code<|fT iD 0 (.ref<|z+2) (.ref<|z+3)<|kx z)<|cf [(nd,ak es ne),(z+2,hU nd D es ne)] sz tk (H 0x641542604) [] [] Y) Y [0] (.res<|.ok .next) [(nd,ak es ne)] [] [] [qF false (aI "dict_valueiterator") (aI "dict") es ne D ((es.length:Int))<|ad ne]:=by lk
def N5:av:=KR x ol sz (.ok .next)<|cf [(S.D x.P .none po tp nf tf),(sz,az [V x.P bx tk<|.ref S.so] 1),(sz+3,aa #[xs] nx),(sz+4,ak [V x.P kR bt v4] 1)] bo b0 (H 0x515ee04555fd04666) [] [(S.so,a9 S.sd)] ca
def CT(x:Wd)(ol:!aX)(sz:N):Ko:=(N5 #[0,0,0,λn=>n] ol 0 0 sz 0 0 0 0 0 0 0 [] .none x []).resume
def yw:∀(x:Wd) c,Ev (N5 S ol tp tf sz tk nx bt bo b0 po nf xs v4 x c) c [0,1,2,3] (.pend 447 #[none,some (jf sz::ol),false] (.call (.ref 152) #[[.ref S.so],[]])<|CT x ol sz) [(S.D x.P (.ref<|sz+3) po tp nf tf),(sz,az [V x.P bx tk<|.ref S.so] 1),((sz+3),aa #[xs] nx),((sz+4),ak [] 2)] [] [] []:=bB
def pn:∀(x:Wd) f,Ev (CT x ol sz (.ok<|.ret .none)<|cf [(sz,bi [V x.P bx tk<|.ref so] 1<|a6 sz)] a8 J (H 0x1555) [] [] f) f [] (.res<|.ok<|.ret .none) [] [] [] []:=bB
def N6:av:=CT x ol sz (.ok<|.ret<|.ref l)<|cf [(sz,bi [V x.P bx tk<|.ref so] 1<|a6 sz)] a8 J (H 0x5111fe05118000f022555) [] [(l,aa #[bb::bl] bs)] ch
def KS(x:Wd)(ol:!aX)(sz:N)(l:N)(E:N):Ko:=(N6 ol 0 sz 0 0 E l 0 [] .none (λ_=>#[[]]) x []).resume
def pr:∀(x:Wd) f,Ev (N6 ol so sz tk a8 J l bs bl bb a6 x f) f [0] (.pend 443 aj (.call (.builtin "ValueError.__new__") #[[.ref 80,ah [110,111,100,101,115,32,97,114,101,32,105,110,32,97,32,99,121,99,108,101]<|J+3,.ref l],[]])<|KS x ol sz l J) [(sz,bi [V x.P bx tk<|.ref so,V x.P yU J<|.ref l] 2<|a6 sz)] [] [] [gd (aI "list")<|ar (bb::bl)]:=bB
def N7:av:=KS x ol sz l J (.ok<|.ret<|.ref e)<|cf [(sz,bi [V x.P bx tk<|.ref so,V x.P yU J<|.ref l] 2<|a6 sz),(e,#[.ref 80,none,.fields #[[.ref U,.none,.none,.none,.bool false,.none]],#[[]]])] a7 t4 (H 0x414414a901414c10414) [] [] ck
def KU(x:Wd)(e:N):Ko:=(N7 [] 0 0 0 0 0 0 0 e 0 (λ_=>#[[]]) x []).resume
def prx:∀(x:Wd) y,Ev (N7 ol so sz tk U t4 J l e a7 a6 x y) y [0,1,2] (.gz 447 #[none,some (jf sz::ol),false] (rt (jf sz)<|.ref e)<|KU x e) [(sz,bi [V x.P bx tk<|.ref so,V x.P yU J<|.ref l] 2<|a6 sz),(e,#[.ref 80,none,.fields #[[.ref a7,.none,.none,.none,.bool false,.none]],#[[]]]),(a7,aD [ah [110,111,100,101,115,32,97,114,101,32,105,110,32,97,32,99,121,99,108,101]<|J+3,.ref l])] [] [] []:=bB
def pry:∀(x:Wd) h,Ev (KU x e (.ok<|.ret .none)<|cf [] c0 c1 [] [] [] h) h [] (.res<|.error<|.ref e) [] [] [] []:=bB
end
section
variable(S:Sg) (so sd nd tp tf r nx sz tk q c0 K z it f0 f1 f2 ne G a d b a6 U f3 ds dt m d0 dV t4 nb f4 f5 f6 c2 li c1 bl bo bs bt b0 ca c3 da:N) (u:N->N) (po nf D a7:Int) (xs vs ws:!af) (es:!bv) (k J:!N) (v0 a8 bb v3 v4 ch ck w2 db dd:af) (x:Wd) (Y du dx d1:ao)
def Oe:av:=ex x aj 350 (.fn 124 #[[.ref S.so],[]])<|cf [(S.D x.P (.ref r) po tp nf tf),(r,aa #[xs] nx)] sz tk (H 0x5c20111c2033) [] [(S.so,a9 S.sd)] Y
def KY(x:Wd)(r:N)(sz:N):Ko:=(Oe #[0,0,0,λn=>n] 0 0 r 0 sz 0 0 0 [] x []).resume
def r0:Ev (Oe S tp tf r nx sz tk po nf xs x Y) Y [0,1,2] (.pend 345 aj (.call (.builtin "tuple.__new__") #[[.type "tuple",.ref r],[]])<|KY x r sz) [(S.D x.P (.ref r) po tp nf tf),(r,aa #[xs] nx),(sz,az [V x.P bx tk<|.ref S.so] 1)] [] [] []:=by lk
def Of:av:=KY x r sz (.ok<|.ret<|.ref q)<|cf [(S.D x.P (.ref r) po tp nf tf),(r,aa #[xs] nx),(sz,az [V x.P bx tk<|.ref S.so] 1),(q,aD xs)] c0 K (H 0x576166333c203366166) [] [(S.so,a9 S.sd)] du
def KZ(x:Wd)(sz:N):Ko:=(Of #[0,0,0,λn=>n] 0 0 0 0 sz 0 0 0 0 0 0 [] x []).resume
def ao9:∀(x:Wd) c,Ev (Of S tp tf r nx sz tk q c0 K po nf xs x c) c [0,1,2,4,3] (.pend 347 aj (bM nT 4 (.ref c0)<|py sz)<|KZ x sz) [(S.D x.P (.ref r) po tp nf tf),(r,aa #[xs] nx),(sz,az [V x.P bx tk<|.ref S.so,V x.P mQ K<|.ref q,V x.P cu (K+2)<|.ref S.nd] 3),(c0,fw q 0)] [(q,aD xs)] [] []:=cS
def rz0:Ev (ex x aj 340 (.code<|bM nT 4 (.ref it)<|py z)<|cf [(z,az [V x.P bx f0<|.ref so,V x.P mQ f1<|.ref q,V x.P cu f2<|.ref nd] 3),(nd,ak es ne),(a,c8 d b a7 a6<|ah J U),(it,fw q D)] sz tk (H 0xc709b0b508003646) [ah k G,.ref a] [(q,aD vs)] Y) Y [0,1,2,3] (.next<|bM nT 4 (.ref it)<|py z) [(z,az [V x.P bx f0<|.ref so,V x.P mQ f1<|.ref q,V x.P cu f2<|.ref nd,V x.P bX tk<|ah k G] 4),(nd,ak es ne),(a,c8 d b (-1) 301<|ah J U),(it,fw q<|D+1)] [] [] [cR (aI "dict") es #[#[k]]<|aF a,df #[vs] D<|ah k G]:=by lk
def rz1:Ev (ex x aj 340 (.code<|bM nT 4 (.ref it)<|py z)<|cf [(z,az [V x.P bx f0<|.ref so,V x.P mQ f1<|.ref q,V x.P cu f2<|.ref nd,V x.P bX f3 v0] 4),(nd,ak es ne),(a,c8 d b a7 a6<|ah J U),(it,fw q D)] sz tk (H 0xc709b0b508003646) [ah k G,.ref a] [(q,aD vs)] Y) Y [0,1,2,3] (.next<|bM nT 4 (.ref it)<|py z) [(z,az [V x.P bx f0<|.ref so,V x.P mQ f1<|.ref q,V x.P cu f2<|.ref nd,V x.P bX f3<|ah k G] 4),(nd,ak es ne),(a,c8 d b (-1) 301<|ah J U),(it,fw q<|D+1)] [] [] [cR (aI "dict") es #[#[k]]<|aF a,df #[vs] D<|ah k G]:=by lk
def rte:Ev (ex x aj 340 (.code<|bM nT 4 (.ref it)<|py z)<|cf [(it,fw q D)] sz tk (H 0xa70) [] [(q,aD vs)] Y) Y [] (.res<|.ok .next) [] [] [] [ig #[vs] D]:=by lk
def Nc(x:Wd)(so sd nd:N)(u:N->N)(c tp tf r:N)(d:af)(xs:!af)(nx:N)(sz tk:N)(Y:ao):av:=ex x aj 350 (.fn 131 #[[.ref so],[]])<|cf [(sd,js x.P u nd (.ref r) (ad c) tp (ad c) tf),(r,aa #[d::xs] nx)] sz tk (H 0xa20) [] [(so,a9 sd)] Y
def TT(x so sd nd u c tp tf r d xs nx sz tk Y)(hi:c<10):Ev (Nc x so sd nd u c tp tf r d xs nx sz tk Y) Y [0,1] (.res<|.ok<|.ret<|.bool true) [(sd,js x.P u nd (.ref r) (ad c) tp (ad c) tf),(r,(aa (ar (d::xs)) nx))] [] [] [(gd (aI "list")<|ar (d::xs))]:=s5 (λx=>Nc x so sd nd u c tp tf r d xs nx sz tk Y) (by revert c;rw[y7<|by lk])
def Ng(x:Wd)(so sd nd:N)(u:N->N)(c tp tf r:N)(nx:N)(sz tk:N)(Y:ao):av:=ex x aj 350 (.fn 131 #[[.ref so],[]])<|cf [(sd,js x.P u nd (.ref r) (ad c) tp (ad c) tf),(r,aa #[[]] nx)] sz tk (H 0xa20) [] [(so,a9 sd)] Y
def TX(x so sd nd u c tp tf r nx sz tk Y)(hi:c<10):Ev (Ng x so sd nd u c tp tf r nx sz tk Y) Y [0,1] (.res<|.ok<|.ret<|.bool false) [(sd,js x.P u nd (.ref r) (ad c) tp (ad c) tf),(r,(aa #[[]] nx))] [] [] [(gd (aI "list")<|ar [])]:=s5 (λx=>Ng x so sd nd u c tp tf r nx sz tk Y) (by revert c;rw[y7<|by lk])
def DB(x:Wd)(so sd nd:N)(u:N->N)(po nf:Int)(tp tf r:N)(vs:!af)(sz tk:N)(Y:ao):av:=ex x aj 350 (.fn 145 #[(.ref so::vs),[]])<|cf [(sd,js x.P u nd (.ref r) po tp nf tf)] sz tk (H 0x564144333c201c203333) [] [(so,a9 sd)] Y
def CJ(x:Wd)(vs:!af)(sz:N):aL->aR->av:=(DB x 0 0 0 (λn=>n) 0 0 0 0 0 vs sz 0 []).resume
def Wh(x so sd nd u po nf tp tf r vs sz tk Y)(hv:vs.length<10):Ev (DB x so sd nd u po nf tp tf r vs sz tk Y) Y [0,2,3,1] (.pend 347 aj (bM fy 3 (.ref<|sz+2)<|fV<|sz+1)<|CJ x vs sz) [(sd,js x.P u nd (.ref r) po tp nf tf),((sz+1),az [V x.P bx tk<|.ref so,V x.P eW (tk+1)<|.ref sz,V x.P cu (tk+4)<|.ref nd] 3),((sz+2),#[(.type "tuple_iterator"),none,.fields #[[(.ref sz),(.int (0) 0)]],#[[]]])] [(sz,(aD vs))] [] []:=BA (λx=>DB x so sd nd u po nf tp tf r vs sz tk Y) (λx=>CJ x vs sz) (by revert vs;rw[wj<|by lk])
def Og:av:=KZ x sz (.ok .next)<|cf [(S.D x.P (.ref r) po tp nf tf),(r,aa #[xs] nx),(sz,az [V x.P bx tk<|.ref S.so,V x.P mQ K<|.ref q,V x.P cu (K+2)<|.ref S.nd,V x.P bX f3 v0] 4)] ds dt (H 0x5311c20454190a90c20) [] [(S.so,a9 S.sd),(q,aD xs)] dx
def K0(x:Wd)(so:N)(po:Int)(tp:N)(sz:N):Ko:=(Og #[so,0,0,λn=>n] tp 0 0 0 sz 0 0 0 0 0 0 po 0 [] .none x []).resume
def yH:∀(x:Wd) f,Ev (Og S tp tf r nx sz tk q K f3 ds dt po nf xs v0 x f) f [0,1,2] (.pend 347 aj (.call (.builtin "len") #[[.ref q],[]])<|K0 x S.so po tp sz) [(S.D x.P (.ref r) po tp nf tf),(r,aa #[[]]<|iF xs.length 0 nx),(sz,az [V x.P bx tk<|.ref S.so,V x.P mQ K<|.ref q,V x.P cu (K+2)<|.ref S.nd,V x.P bX f3<|v0] 4)] [] [] [cm #[xs]]:=cS
def ao_:∀(x:Wd) y,Ev (K0 x S.so po tp sz (.ok<|.ret<|iN m d0)<|cf [(S.D x.P (.ref r) po tp nf tf),(r,aa #[[]]<|iF (List.brecOn.go (ar xs).toList gT._f).1 0 nx),(sz,az [V x.P bx tk<|.ref S.so,V x.P mQ K<|.ref q,V x.P cu (K+2)<|.ref S.nd,V x.P bX f3<|v0] 4)] dV t4 (H 0x3555fd01) [] [(S.so,a9 S.sd),(q,aD xs)] y) y [0,1] (.res<|.ok<|.ret<|.ref q) [(S.D x.P (.ref r) (po+ad m) t4 nf tf),(r,aa #[[]]<|iF xs.length 0 nx)] [] [] []:=cS
def NM:av:=ex x aj 340 (.code<|bM fy 3 (.ref it)<|fV z)<|cf [(z,az [V x.P bx f0<|.ref so,V x.P eW f1<|.ref q,V x.P cu f2<|.ref nd] 3),(nd,ak es ne),(a,c8 d b (-1) a6<|ah J U),(it,fw q D),(b,aa #[ws] nb)] sz tk (H 0xdd0) [ah k G,.ref a] [(q,aD vs)] Y
def CN(x:Wd)(z:N)(it:N):Ko:=(NM 0 0 0 0 0 z it 0 0 0 0 0 0 0 0 0 0 0 0 [] [] [] [] [] x []).resume
def dA:∀(x:Wd) Y,Ev (NM so nd sz tk q z it f0 f1 f2 ne G a d b a6 U nb D vs ws es k J x Y) Y [0,1,2,3,4,5] (.pend 339 aj (bM fy 14 (.ref sz)<|fV z)<|CN x z it) [(z,az [V x.P bx f0<|.ref so,V x.P eW f1<|.ref q,V x.P cu f2<|.ref nd,V x.P bX tk<|ah k G,V x.P eF (tk+2)<|.ref a,V x.P fH (tk+4)<|.int (-1) a6] 6),(nd,ak es ne),(a,c8 d b (-2) 304<|ah J U),(it,fw q<|D+1),(b,aa #[ws] nb),(sz,c7 b 0)] [] [] [cR (aI "dict") es #[#[k]]<|aF a,df #[vs] D<|ah k G]:=cS
def NN:av:=ex x aj 340 (.code<|bM fy 3 (.ref it)<|fV z)<|cf [(z,az [V x.P bx f0<|.ref so,V x.P eW f1<|.ref q,V x.P cu f2<|.ref nd,V x.P bX f3 v0,V x.P eF f4 a8,V x.P fH f5 bb] 6),(nd,ak es ne),(a,c8 d b (-1) a6<|ah J U),(it,fw q D),(b,aa #[ws] nb)] sz tk (H 0xdd0) [ah k G,.ref a] [(q,aD vs)] Y
def CP(x:Wd)(z:N)(it:N):Ko:=(NN 0 0 0 0 0 z it 0 0 0 0 0 0 0 0 0 0 0 0 0 0 0 [] [] [] [] [] .none .none .none x []).resume
def dB:∀(x:Wd) Y,Ev (NN so nd sz tk q z it f0 f1 f2 ne G a d b a6 U f3 nb f4 f5 D vs ws es k J v0 a8 bb x Y) Y [0,1,2,3,4,5] (.pend 339 aj (bM fy 14 (.ref sz)<|fV z)<|CP x z it) [(z,az [V x.P bx f0<|.ref so,V x.P eW f1<|.ref q,V x.P cu f2<|.ref nd,V x.P bX f3<|ah k G,V x.P eF f4<|.ref a,V x.P fH f5<|.int (-1) a6] 6),(nd,ak es ne),(a,c8 d b (-2) 304<|ah J U),(it,fw q<|D+1),(b,aa #[ws] nb),(sz,c7 b 0)] [] [] [cR (aI "dict") es #[#[k]]<|aF a,df #[vs] D<|ah k G]:=cS
def NO:av:=ex x aj 340 (.code<|bM fy 3 (.ref it)<|fV z)<|cf [(z,az [V x.P bx f0<|.ref so,V x.P eW f1<|.ref q,V x.P cu f2<|.ref nd,V x.P bX f3 v0,V x.P eF f4 a8,V x.P fH f5 bb,V x.P jq f6 v3,V x.P jr c2 v4] 8),(nd,ak es ne),(a,c8 d b (-1) a6<|ah J U),(it,fw q D),(b,aa #[ws] nb)] sz tk (H 0xdd0) [ah k G,.ref a] [(q,aD vs)] Y
def KC(x:Wd)(z:N)(it:N):Ko:=(NO 0 0 0 0 0 z it 0 0 0 0 0 0 0 0 0 0 0 0 0 0 0 0 0 [] [] [] [] [] .none .none .none .none .none x []).resume
def dC:∀(x:Wd) Y,Ev (NO so nd sz tk q z it f0 f1 f2 ne G a d b a6 U f3 nb f4 f5 f6 c2 D vs ws es k J v0 a8 bb v3 v4 x Y) Y [0,1,2,3,4,5] (.pend 339 aj (bM fy 14 (.ref sz)<|fV z)<|KC x z it) [(z,az [V x.P bx f0<|.ref so,V x.P eW f1<|.ref q,V x.P cu f2<|.ref nd,V x.P bX f3<|ah k G,V x.P eF f4<|.ref a,V x.P fH f5<|.int (-1) a6,V x.P jq f6<|v3,V x.P jr c2<|v4] 8),(nd,ak es ne),(a,c8 d b (-2) 304<|ah J U),(it,fw q<|D+1),(b,aa #[ws] nb),(sz,c7 b 0)] [] [] [cR (aI "dict") es #[#[k]]<|aF a,df #[vs] D<|ah k G]:=cS
def de:Ev (ex x aj 340 (.code<|bM fy 3 (.ref it)<|fV z)<|cf [(it,fw q D)] sz tk (H 0xa70) [] [(q,aD vs)] Y) Y [] (.res<|.ok .next) [] [] [] [ig #[vs] D]:=by lk
def NP(x:Wd)(vs:!af)(sz:N)(J G:N)(c:ao):av:=CJ x vs sz (.ok .next)<|cf [] J G [] [] [] c
def dr(x vs sz)(hv:vs.length<10)(J G c):Ev (NP x vs sz J G c) c [] (.res<|.ok<|.ret .none) [] [] [] []:=s5 (λx=>NP x vs sz J G c) (by revert vs;rw[wj<|by lk])
def iB0:Ev (ex x aj 330 (.code<|bM fy 14 (.ref li)<|fV z)<|cf [(z,az [V x.P bx f0<|.ref so,V x.P eW f1<|.ref q,V x.P cu f2<|.ref nd,V x.P bX f3 v0,V x.P eF f4 a8,V x.P fH f5 bb] 6),(nd,ak es ne),(a,c8 d c1 a7 a6<|ah J U),(li,c7 b D),(b,aa #[ws] nb)] sz tk (H 0x5da0) [ah k G,.ref a] [] Y) Y [0,1,2,3,4] (.next<|bM fy 14 (.ref li)<|fV z) [(z,az [V x.P bx f0<|.ref so,V x.P eW f1<|.ref q,V x.P cu f2<|.ref nd,V x.P bX f3<|v0,V x.P eF f4<|a8,V x.P fH f5<|bb,V x.P jq tk<|ah k G,V x.P jr (tk+2)<|.ref a] 8),(nd,ak es ne),(a,c8 d c1 (a7-1) (tk+5)<|ah J U),(li,c7 b<|D+1),(b,aa #[ws] nb)] [] [((a7-1==0),false)] [cR (aI "dict") es #[#[k]]<|aF a,df #[ws] D<|ah k G]:=by lk
def iB1:Ev (ex x aj 330 (.code<|bM fy 14 (.ref li)<|fV z)<|cf [(z,az [V x.P bx f0<|.ref S.so,V x.P eW f1<|.ref q,V x.P cu f2<|.ref S.nd,V x.P bX f3 v0,V x.P eF f4 a8,V x.P fH f5 bb] 6),S.N es ne,(a,c8 d c1 a7 a6<|ah J U),(li,c7 b D),(b,aa #[ws] nb),(S.D x.P (.ref r) po tp nf tf),(r,aa #[xs] nx)] sz tk (H 0x898599998fc054da0) [ah k G,.ref a] [(S.so,a9 S.sd)] Y) Y [0,1,2,3,4,5,6] (.next<|bM fy 14 (.ref li)<|fV z) [(z,az [V x.P bx f0<|.ref S.so,V x.P eW f1<|.ref q,V x.P cu f2<|.ref S.nd,V x.P bX f3<|v0,V x.P eF f4<|a8,V x.P fH f5<|bb,V x.P jq tk<|ah k G,V x.P jr (tk+2)<|.ref a] 8),S.N es ne,(a,c8 d c1 (a7-1) (tk+5)<|ah J U),(li,c7 b<|D+1),(b,aa #[ws] nb),(S.D x.P (.ref r) po tp nf tf),(r,aa ((ar xs).push<|ah k G)<|nx+1)] [] [((a7-1==0),true)] [cm #[xs],cR (aI "dict") es #[#[k]]<|aF a,df #[ws] D<|ah k G]:=by lk
def iC0:Ev (ex x aj 330 (.code<|bM fy 14 (.ref li)<|fV z)<|cf [(z,az [V x.P bx f0<|.ref so,V x.P eW f1<|.ref q,V x.P cu f2<|.ref nd,V x.P bX f3 v0,V x.P eF f4 a8,V x.P fH f5 bb,V x.P jq f6 v3,V x.P jr c2 v4] 8),(nd,ak es ne),(a,c8 d c1 a7 a6<|ah J U),(li,c7 b D),(b,aa #[ws] nb)] sz tk (H 0x5da0) [ah k G,.ref a] [] Y) Y [0,1,2,3,4] (.next<|bM fy 14 (.ref li)<|fV z) [(z,az [V x.P bx f0<|.ref so,V x.P eW f1<|.ref q,V x.P cu f2<|.ref nd,V x.P bX f3<|v0,V x.P eF f4<|a8,V x.P fH f5<|bb,V x.P jq f6<|ah k G,V x.P jr c2<|.ref a] 8),(nd,ak es ne),(a,c8 d c1 (a7-1) (tk+5)<|ah J U),(li,c7 b<|D+1),(b,aa #[ws] nb)] [] [((a7-1==0),false)] [cR (aI "dict") es #[#[k]]<|aF a,df #[ws] D<|ah k G]:=by lk
def iC1:Ev (ex x aj 330 (.code<|bM fy 14 (.ref li)<|fV z)<|cf [(z,az [V x.P bx f0<|.ref S.so,V x.P eW f1<|.ref q,V x.P cu f2<|.ref S.nd,V x.P bX f3 v0,V x.P eF f4 a8,V x.P fH f5 bb,V x.P jq f6 v3,V x.P jr c2 v4] 8),S.N es ne,(a,c8 d c1 a7 a6<|ah J U),(li,c7 b D),(b,aa #[ws] nb),(S.D x.P (.ref r) po tp nf tf),(r,aa #[xs] nx)] sz tk (H 0x898599998fc054da0) [ah k G,.ref a] [(S.so,a9 S.sd)] Y) Y [0,1,2,3,4,5,6] (.next<|bM fy 14 (.ref li)<|fV z) [(z,az [V x.P bx f0<|.ref S.so,V x.P eW f1<|.ref q,V x.P cu f2<|.ref S.nd,V x.P bX f3<|v0,V x.P eF f4<|a8,V x.P fH f5<|bb,V x.P jq f6<|ah k G,V x.P jr c2<|.ref a] 8),S.N es ne,(a,c8 d c1 (a7-1) (tk+5)<|ah J U),(li,c7 b<|D+1),(b,aa #[ws] nb),(S.D x.P (.ref r) po tp nf tf),(r,aa ((ar xs).push<|ah k G)<|nx+1)] [] [((a7-1==0),true)] [cm #[xs],cR (aI "dict") es #[#[k]]<|aF a,df #[ws] D<|ah k G]:=by lk
def ie:Ev (ex x aj 330 (.code<|bM fy 14 (.ref li)<|fV z)<|cf [(li,c7 b D),(b,aa #[ws] nb)] sz tk (H 0x651535) [] [] Y) Y [1] (.res<|.ok .next) [(b,aa #[ws] nb)] [] [] [ig #[ws] D]:=by lk
def Xh:∀(x:Wd) c,Ev (CN x z it (.ok .next)<|cf [(z,az [V x.P bx bl<|.ref S.so,V x.P eW bo<|.ref q,V x.P cu bs<|.ref S.nd,V x.P bX bt ch,V x.P eF b0 ck,V x.P fH ca w2] 6),(S.D x.P (.ref r) po tp nf tf)] c0 K (H 0xb80) [] [(S.so,a9 S.sd)] c) c [0,1] (.next<|bM fy 3 (.ref it)<|fV z) [(z,az [V x.P bx bl<|.ref S.so,V x.P eW bo<|.ref q,V x.P cu bs<|.ref S.nd,V x.P bX bt<|ch,V x.P eF b0<|ck,V x.P fH ca<|w2] 6),(S.D x.P (.ref r) po tp (nf+1)<|K+2)] [] [] []:=cS
def Xi:∀(x:Wd) c,Ev (CN x z it (.ok .next)<|cf [(z,az [V x.P bx bl<|.ref S.so,V x.P eW bo<|.ref q,V x.P cu bs<|.ref S.nd,V x.P bX bt ch,V x.P eF b0 ck,V x.P fH ca w2,V x.P jq c3 db,V x.P jr da dd] 8),(S.D x.P (.ref r) po tp nf tf)] c0 K (H 0xb80) [] [(S.so,a9 S.sd)] c) c [0,1] (.next<|bM fy 3 (.ref it)<|fV z) [(z,az [V x.P bx bl<|.ref S.so,V x.P eW bo<|.ref q,V x.P cu bs<|.ref S.nd,V x.P bX bt<|ch,V x.P eF b0<|ck,V x.P fH ca<|w2,V x.P jq c3<|db,V x.P jr da<|dd] 8),(S.D x.P (.ref r) po tp (nf+1)<|K+2)] [] [] []:=cS
def Xj:∀(x:Wd) c,Ev (CP x z it (.ok .next)<|cf [(z,az [V x.P bx bl<|.ref S.so,V x.P eW bo<|.ref q,V x.P cu bs<|.ref S.nd,V x.P bX bt ch,V x.P eF b0 ck,V x.P fH ca w2] 6),(S.D x.P (.ref r) po tp nf tf)] c0 K (H 0xb80) [] [(S.so,a9 S.sd)] c) c [0,1] (.next<|bM fy 3 (.ref it)<|fV z) [(z,az [V x.P bx bl<|.ref S.so,V x.P eW bo<|.ref q,V x.P cu bs<|.ref S.nd,V x.P bX bt<|ch,V x.P eF b0<|ck,V x.P fH ca<|w2] 6),(S.D x.P (.ref r) po tp (nf+1)<|K+2)] [] [] []:=cS
def Xk:∀(x:Wd) c,Ev (CP x z it (.ok .next)<|cf [(z,az [V x.P bx bl<|.ref S.so,V x.P eW bo<|.ref q,V x.P cu bs<|.ref S.nd,V x.P bX bt ch,V x.P eF b0 ck,V x.P fH ca w2,V x.P jq c3 db,V x.P jr da dd] 8),(S.D x.P (.ref r) po tp nf tf)] c0 K (H 0xb80) [] [(S.so,a9 S.sd)] c) c [0,1] (.next<|bM fy 3 (.ref it)<|fV z) [(z,az [V x.P bx bl<|.ref S.so,V x.P eW bo<|.ref q,V x.P cu bs<|.ref S.nd,V x.P bX bt<|ch,V x.P eF b0<|ck,V x.P fH ca<|w2,V x.P jq c3<|db,V x.P jr da<|dd] 8),(S.D x.P (.ref r) po tp (nf+1)<|K+2)] [] [] []:=cS
def Xl:∀(x:Wd) c,Ev (KC x z it (.ok .next)<|cf [(z,az [V x.P bx bl<|.ref S.so,V x.P eW bo<|.ref q,V x.P cu bs<|.ref S.nd,V x.P bX bt ch,V x.P eF b0 ck,V x.P fH ca w2,V x.P jq c3 db,V x.P jr da dd] 8),(S.D x.P (.ref r) po tp nf tf)] c0 K (H 0xb80) [] [(S.so,a9 S.sd)] c) c [0,1] (.next<|bM fy 3 (.ref it)<|fV z) [(z,az [V x.P bx bl<|.ref S.so,V x.P eW bo<|.ref q,V x.P cu bs<|.ref S.nd,V x.P bX bt<|ch,V x.P eF b0<|ck,V x.P fH ca<|w2,V x.P jq c3<|db,V x.P jr da<|dd] 8),(S.D x.P (.ref r) po tp (nf+1)<|K+2)] [] [] []:=cS
end
section
variable{x:Wd} {w:eJ} {F:Fs} {L X:ao} {A:dX} {D s:aN} {R:aL->Fs->ao->Prop} {r q nx:N} {xs:!af}
def Yl{id:String}{R:aL->aN->Prop}(u:plainId id=true)(j:By table id=some b)(d:checkBuiltinCall id args=pure ())(g:Meets (b args) S)(h:S A R s):fi (aE pw w) A (.call (.builtin id) args) R s:=u_<|Vh u j<|zk d<|g _ _ _ _ _ h
def bg.new(T:bg x F L D s){h':iz}{o:Obj}(hk:∀b o',s.heap.get? b=some o'->h'.get? b=some o')(y:o.isFreed=false):bg x F ((h'.objs.size,o)::L) D {s with heap:=h'.push o}:=by
 have w:=λb o' U=>ll<|iJ<|hk b o' U;rw[T.move (λa o' K U=>k_ _<|hk a o' U) (λp I=>?_) ?_ λp I=>?_]
 .rcases aY.mp I with rfl|I
  .rw[r5 _ y]
  .rw[k_ _<|hk _ _<|T.rep.led p I]
 .rw[bW,c_]
  rw[⟨λH=>(aJ (bn.mp H) λp I e=>w _ _ (T.rep.led p I) e),T.rep.nd⟩]
 .rcases aY.mp I with rfl|I
  .rw[.inr ?_]
   cases e:s.heap.get? h'.objs.size with
   |none=>rfl
   |some o'=>rw[absurd rfl<|w _ _ e]
  .rw[.inl<|bw I]
def Yq(T:bg x F ((r,aa #[xs] nx)::X) D s)(hz:xs.length<=9000)(f:∀q,R (.ok<|.ret<|.ref q) F [(q,aD xs),(r,aa ⟨xs⟩ nx)]):fi (aE pw x.W) A (.call (.builtin "tuple.__new__") ⟨[.type "tuple",.ref r],[]⟩) (λr P=>∃F' L',Le F F'/\bg x F' (L'++X) D P/\R r F' L') s:=Yl (by decide+kernel) PySem.F.entry_tuple_new (PySem.F.newCall_tuple_1 _) (meets_tuple_new_list r _ #[xs] nx rfl rfl<|ry hz) #[T.rep.led _<|.head _,λS c=>bY F _ aV (T.new c rfl)<|f _]
def Yp(T:bg x F X D s)(S:F t (aD xs))(hz:xs.length<=9000)(f:∀b,R (.ok<|.ret<|.int (ad xs.length) b) F []):fi (aE pw x.W) A (.call (.builtin "len") ⟨[.ref t],[]⟩) (λr P=>∃F' L',Le F F'/\bg x F' (L'++X) D P/\R r F' L') s:=by
 rw[gN (lA (E:=λK K=>False) (Q:=λv P=>v=.int (ad xs.length) (s.toks+1)/\P={s with toks:=s.toks+1+1})<|PyProof.Rows.len_tuple (eo _ (T.rep.fr _ _ S) rfl #[0,rfl]) (IE<|ry hz) ⟨rfl,rfl⟩) λr P U=>?_];split at U
 .obtain⟨rfl,rfl⟩:=U
  rw[bY F [] aV T.tok<|f _]
 .rw[U.elim]
 .rw[U.elim]
abbrev UD:!af:=[.type "ValueError",.type "Exception",.type "BaseException",.type "object"]
def TN(P):Mine.T P 80=some (excClassObj mB mB 80 79 [.type "ValueError"] UD true [] [] false none none (some<|.ref 71) none (some<|.str mB 343) (some<|.str mB 351) (some<|.bool true) "ValueError.__new__"):=by lk
abbrev lq(t:N)(v:af):Obj:=gZ (.ref 80) [.ref t,v,.none,.none,.bool false,.none]
def Yh(S:bg x F X D s)(f:∀e t,R (.ok<|.ret<|.ref e) F [(e,lq t .none),(t,aD [a,b])]):fi (aE pw x.W) A (.call (.builtin "ValueError.__new__") ⟨[.ref 80,a,b],[]⟩) (λr P=>∃F' L',Le F F'/\bg x F' (L'++X) D P/\R r F' L') s:=by have c:=S.rep.fr _ _<|S.base.top 80 _<|TN x.P;rw[u_<|codeAny_call_builtin_code (Code.quiet_builtin _ PySem.F.excBase_ValueError.quiet)<|wpAny_check_new_sub PySem.F.excBase_ValueError c<|codeAny_exc_new_sub PySem.F.excBase_ValueError c ?_];have z:=(S.new (h':=s.heap) (aV) rfl).new (h':=s.heap.push<|aD [a,b]) (o:=lq s.heap.objs.size .none) (aV) rfl;rw[zD]at z;rw[bY F _ aV z<|f _ _]
end
def bG:PG->!N->Int
 |[],_=>0
 |y::g,k=>if y.1=k then y.2.1 else bG g k
abbrev bC(g:PG):!(!N):=g.map (·.1)
abbrev dS(v:Int):Int×!(!N)->Int×!(!N):=λy=>(v,y.2)
def fX:!(!N)->PG->PG
 |[],z=>z
 |j::ks,z=>fX ks<|bz j (dS<|-1) z
abbrev Nd.st(n:Nd)(v:Int)(t:N):Nd:={n with np:=v,tp:=t}
def yn:∀{g},k∈bC g->bC (bz k f g)=bC g:=by
 intro J;induction J with
 |nil=>intro U;rw[nomatch U]
 |cons x g C=>
  intro U;show bC (if x.1=k then _ else _)=_;by_cases q:x.1=k
  .rw[(if_pos q)▸?_];show k::_=_;rw[q▸?_];rfl
  .rw[(if_neg q)▸congrArg (x.1::·) (C<|(aY.mp U).resolve_left λe=>q e.symm)]
def vG(P)(h:k∈bC (ns.map Nd.pg)):∃l n r,ns=l++n::r/\n.k=k/\d5 (aG P ns) #[#[k]]=some (.ref n.a)/\aS (ns.map Nd.pg) k=n.ss.map (·.1)/\bG (ns.map Nd.pg) k=n.np/\ ∀f v t,(v,n.ss.map (·.1))=f (n.np,n.ss.map (·.1))->(l++n.st v t::r).map Nd.pg=bz k f (ns.map Nd.pg):=by
 rcases Dy P k ns with⟨l,n,r,rfl,a,M,X⟩|⟨a,M⟩
 .rw[aa7 l n r rfl a X ?_ ?_ λf v t R=>?_]
  .clear X h
   induction l with
   |nil=>show(if n.k=k then _ else _)=_;rw[if_pos a,];rfl
   |cons E l C=>show(if E.k=k then _ else _)=_;rw[if_neg<|M E<|.head _,];rw[C λq u=>M q<|.tail _ u]
  .clear X h
   induction l with
   |nil=>show(if n.k=k then _ else _)=_;rw[if_pos a,];rfl
   |cons E l C=>show(if E.k=k then _ else _)=_;rw[if_neg<|M E<|.head _,];rw[C λq u=>M q<|.tail _ u]
  .simp only[bf,bf,bW,bW]
   rw[(by rw[a▸?_];rfl:n.pg=(k,n.np,n.ss.map (·.1))),RS λE H=>by obtain⟨q,u,rfl⟩:=bn.mp H;rw[M q u],<-R];show _++(n.k,v,n.ss.map (·.1))::_=_;rw[a,]
 .rw[aJ (bn.mp h) λy b c=>?_]
  subst c;rw[aJ (bn.mp b) λE H c=>?_];subst c;rw[absurd rfl<|a E H]
def yB{A B O P Q:ao}(h:O.Perm (P++Q)):((A++B)++O).Perm ((A++(P++B))++Q):=(h.append_left _).trans<|pm [A,B,P,Q] (.p (.p (.a 0)<|.a 1)<|.p (.a 2)<|.a 3) (.p (.p (.a 0)<|.p (.a 2)<|.a 1)<|.a 3) rfl
abbrev eQ(it q i:N):aH×Obj:=(it,#[.type "tuple_iterator",none,.fields #[[.ref q,.int (i:Int) 0]],#[[]]])
def rF{au rest:!(!N×N)}:df (ar<|(au++y::rest).map ax) (au.length:Int) (ax y):=by show(ar<|(au++y::rest).map ax)[(au.length:Int).toNat]? =_;simp
def aQ{au:!(!N×N)}:ig (ar<|au.map ax) (au.length:Int):=by show(ar<|au.map ax)[(au.length:Int).toNat]? =_;simp
section
variable{x:Wd} {S:Sg} {d:Sv}
abbrev s6(x:Wd)(S:Sg)(z q f0 f1 f2 f3:N)(v:af):aH×Obj:=(z,az [V x.P bx f0<|.ref S.so,V x.P mQ f1<|.ref q,V x.P cu f2<|.ref S.nd,V x.P bX f3 v] 4)
inductive Ae (x:Wd) (S:Sg) (z q f0 f1 f2 ne:N) (g:PG) (F':Fs):aL->ao->Prop
 |mk {L':ao} (f3 v ns') (h1:ns'.map Nd.pg=g) (h2:L'.Perm ([s6 x S z q f0 f1 f2 f3 v,S.N (aG x.P ns') ne]++Gr ns')):Ae x S z q f0 f1 f2 ne g F' (.ok .next) L'
def afp:∀{au:!(!N×N)} {ns F v},F q (aD<|(au++rest).map ax)->(∀y∈rest,y.1∈bC (ns.map Nd.pg))->ay x aj 340 (bM nT 4 (.ref it)<|py z0) F (([s6 x S z0 q f0 f1 f2 f3 v,S.N (aG x.P ns) ne]++[eQ it q au.length])++Gr ns) (Ae x S z0 q f0 f1 f2 ne<|fX (rest.map (·.1))<|ns.map Nd.pg):=by
 induction rest with
 |nil=>intro au ns F v W H;rw[bQ]at W;rw[.perm (pm [[s6 x S z0 q f0 f1 f2 f3 v,S.N (aG x.P ns) ne],_,Gr ns] (.p (.p (.a 0)<|.a 1)<|.a 2) (.p (.a 1)<|.p (.a 0)<|.a 2) rfl)<|bJ (O:=[(q,aD<|au.map ax)]) ⟨W,ab⟩ λB K=>bp (rte B K q z0 it au.length (au.map ax) x) ab #[aQ,ab] (aV) #[f3,v,ns,rfl,.refl _]]
 |cons y rest C=>
  intro au ns F v W H;rw[u8 (vG x.P<|H y<|.head _) λl n r j c t d b g=>?_];subst j;obtain-:=d;obtain-:=b;rw[.perm (yB lO)<|bJ (O:=[(q,aD<|(au++y::rest).map ax)]) ⟨W,ab⟩ λB K=>bu (rz1 S.so S.nd B K q z0 it f0 f1 f2 ne y.2 n.a n.d n.b n.tp n.tk f3 au.length n.np ((au++y::rest).map ax) (aG x.P (l++n::r)) y.1 n.k v x) ab #[#[dM,oH _ _,t],rF,ab] rfl (aV) ?_];have z:=g (dS<|-1) (-1) 301 rfl;have f:=C (au:=au++[y]) (F:=fz F []) (v:=ax y) (an _ _ (by rw[b4,];rw[W])) λe U=>by rw[z,yn<|H y<|.head _];rw[H e<|.tail _ U]
  rw[z,oe (n:=n) (n':=n.st (-1) 301) rfl,(by simp:(au++[y]).length=au.length+1)]at f;rw[.perm (yB (A:=[s6 x S z0 q f0 f1 f2 f3<|ax y,S.N (aG x.P (l++n::r)) ne])<|lO (n:=n.st (-1) 301)).symm f]
def afq(W:F q (aD<|(y::rest).map ax))(H:∀e∈y::rest,e.1∈bC (ns.map Nd.pg)):ay x aj 340 (bM nT 4 (.ref it)<|py z0) F (([(z0,az [V x.P bx f0<|.ref S.so,V x.P mQ f1<|.ref q,V x.P cu f2<|.ref S.nd] 3),S.N (aG x.P ns) ne]++[eQ it q 0])++Gr ns) (Ae x S z0 q f0 f1 f2 ne<|fX ((y::rest).map (·.1))<|ns.map Nd.pg):=by
 rw[u8 (vG x.P<|H y<|.head _) λl n r j c t d b g=>?_];subst j;obtain-:=d;obtain-:=b;rw[.perm (yB lO)<|bJ (O:=[(q,aD<|(y::rest).map ax)]) ⟨W,ab⟩ λB K=>bu (rz0 S.so S.nd B K q z0 it f0 f1 f2 ne y.2 n.a n.d n.b n.tp n.tk 0 n.np ((y::rest).map ax) (aG x.P (l++n::r)) y.1 n.k x) ab #[#[dM,oH _ _,t],rF (au:=[]),ab] rfl (aV) ?_];have z:=g (dS<|-1) (-1) 301 rfl;have a:=afp (x:=x) (S:=S) (z0:=z0) (it:=it) (f0:=f0) (f1:=f1) (f2:=f2) (f3:=K) (ne:=ne) (au:=[y]) (F:=fz F []) (v:=ax y) (an _ _ W) λe U=>by rw[z,yn<|H y<|.head _];rw[H e<|.tail _ U]
 rw[z,oe (n:=n) (n':=n.st (-1) 301) rfl]at a;rw[.perm (yB (A:=[s6 x S z0 q f0 f1 f2 K<|ax y,S.N (aG x.P (l++n::r)) ne])<|lO (n:=n.st (-1) 301)).symm a]
inductive GJ (x:Wd) (S:Sg) (r:N) (po:Int) (tp:N) (nf:Int) (tf ne:N) (rs:!(!N×N)) (ns:!Nd) (F':Fs):aL->ao->Prop
 |mk {L':ao} (q) (h1:F' q (aD (rs.map ax))) (ns' tp' nx') (h2:ns'.map Nd.pg=fX (rs.map (·.1)) (ns.map Nd.pg)) (h3:L'.Perm ([S.D x.P (.ref r) (po+ad rs.length) tp' nf tf,(r,aa #[[]] nx'),S.N (aG x.P ns') ne]++Gr ns')):GJ x S r po tp nf tf ne rs ns F' (.ok (.ret (.ref q))) L'
def aqX(W:F S.so (a9 S.sd))(z:rs≠[])(t:rs.length<=4000)(H:∀y∈rs,y.1∈bC (ns.map Nd.pg)):ay x aj 350 (.call (.ref 124) #[[.ref S.so],[]]) F ([S.D x.P (.ref r) po tp nf tf,(r,aa #[rs.map ax] nx),S.N (aG x.P ns) ne]++Gr ns) (GJ x S r po tp nf tf ne rs ns):=by
 obtain⟨y,Q,rfl⟩:∃y Q,rs=y::Q:=by cases rs with|nil=>rw[absurd rfl z]|cons y Q=>rw[kh y Q rfl]
 have f:((y::Q).map ax).length<=9000:=by rw[aU,];rw[ajy t]
 rw[lY (Y:=S.N (aG x.P ns) ne::Gr ns) (O:=[(S.so,a9 S.sd)]) #[W,ab] λB K=>jh (r0 S tp tf r nx B K po nf ((y::Q).map ax) x) ab ab (pm [[S.D x.P (.ref r) po tp nf tf],[(r,aa #[(y::Q).map ax] nx)],_,S.N (aG x.P ns) ne::Gr ns] (.p (.p (.a 0)<|.p (.a 1)<|.a 2)<|.a 3) (.p (.a 1)<|.p (.p (.a 0)<|.a 2)<|.a 3) rfl) λw Z s A P o=>Yq o f λq=>?_];rw[#[_,S.N (aG x.P ns) ne::Gr ns,pm [[S.D x.P (.ref r) po tp nf tf],_,_,S.N (aG x.P ns) ne::Gr ns,[(q,aD<|(y::Q).map ax)]] (.p (.p (.a 4)<|.a 1)<|.p (.p (.a 0)<|.a 2)<|.a 3) (.p (.p (.a 0)<|.p (.a 1)<|.p (.a 2)<|.a 4)<|.a 3) rfl,_,_,[(S.so,a9 S.sd)],⟨an _ _ W,ab⟩,λJ G=>bP (ao9 S tp tf r nx B K q J G po nf ((y::Q).map ax) x) ab ab (pm [[S.D x.P (.ref r) po tp nf tf,(r,aa #[(y::Q).map ax] nx)],[(B,az _ 3)],_,[S.N (aG x.P ns) ne],Gr ns] (.p (.p (.a 0)<|.p (.a 1)<|.a 2)<|.p (.a 3)<|.a 4) (.p (.p (.p (.p (.a 1)<|.a 3)<|.a 2)<|.a 4)<|.a 0) rfl) ((afq (bc<|.head _) H).le ζ λ_ _ _ _ U=>U) λX T h l L=>?_]];rw[L.casesOn @λh c v d C I=>?_];have m:=dR (cb an) l;have u:=l _ _<|bc<|.head _;refine#[_,S.N (aG x.P d) ne::Gr d,(I.append_right _).trans <|pm [[S.D x.P (.ref r) po tp nf tf,(r,aa #[(y::Q).map ax] nx)],[s6 x S B q K G (G+2) c v],_,Gr d] (.p (.p (.p (.a 1)<|.a 2)<|.a 3)<|.a 0) (.p (.p (.a 0)<|.a 1)<|.p (.a 2)<|.a 3) rfl,_,_,[(S.so,a9 S.sd),(q,aD<|(y::Q).map ax)],⟨m _ _ W,u,ab⟩,λD E=>jh (yH S tp tf r nx B K q G c D E po nf ((y::Q).map ax) v x) ab #[by show((y::Q).map ax).length<=16777216;rw[ry f],ab] (Lc:=[]) (.refl _) λi k n g j e=>Yp e (an _ _ u) f λb=>?_];rw[#[_,S.N (aG x.P d) ne::Gr d,.refl _,_,_,[(S.so,a9 S.sd),(q,aD<|(y::Q).map ax)],#[an _ _<|m _ _ W,an _ _ u,ab],λM R=>bp (ao_ S tp tf r nx B K q G c ((y::Q).map ax).length b M R po nf ((y::Q).map ax) v x) ab ab (cb m) #[q,an _ _<|an _ _ u,d,R,_,C,by rw[aU,];rw[.refl _]]]]
end
abbrev kI:Int×!(!N)->Int×!(!N):=λy=>(y.1-1,y.2)
def dK:!(!N)->PG->PG×!(!N)
 |[],z=>(z,[])
 |s::ss,z=>((dK ss<|bz s kI z).1,if bG z s-1=0 then s::(dK ss<|bz s kI z).2 else(dK ss<|bz s kI z).2)
def fU:!(!N)->PG->PG×!(!N)
 |[],z=>(z,[])
 |j::ks,z=>((fU ks (dK (aS z j)<|bz j (dS<|-2) z).1).1,(dK (aS z j)<|bz j (dS<|-2) z).2++(fU ks (dK (aS z j)<|bz j (dS<|-2) z).1).2)
def qS:!(!N)->PG->Prop
 |[],_=>True
 |j::ks,g=>bG g j=-1/\qS ks (dK (aS g j)<|bz j (dS<|-2) g).1
structure F6 where
 f0:N
 f1:N
 f2:N
 f3:N
 f4:N
 f5:N
 v0:af
 v1:af
 v2:af
structure F8 extends F6 where
 f6:N
 f7:N
 v3:af
 v4:af
section
variable{x:Wd} {S:Sg} {z0 q:N}
abbrev Im(x:Wd)(S:Sg)(z q f0 f1 f2:N):aH×Obj:=(z,az [V x.P bx f0<|.ref S.so,V x.P eW f1<|.ref q,V x.P cu f2<|.ref S.nd] 3)
abbrev BP(x:Wd)(S:Sg)(z q:N)(f:F6):aH×Obj:=(z,az [V x.P bx f.f0<|.ref S.so,V x.P eW f.f1<|.ref q,V x.P cu f.f2<|.ref S.nd,V x.P bX f.f3 f.v0,V x.P eF f.f4 f.v1,V x.P fH f.f5 f.v2] 6)
abbrev s_(x:Wd)(S:Sg)(z q:N)(f:F8):aH×Obj:=(z,az [V x.P bx f.f0<|.ref S.so,V x.P eW f.f1<|.ref q,V x.P cu f.f2<|.ref S.nd,V x.P bX f.f3 f.v0,V x.P eF f.f4 f.v1,V x.P fH f.f5 f.v2,V x.P jq f.f6 f.v3,V x.P jr f.f7 f.v4] 8)
def qo(x:Wd)(S:Sg)(z q:N)(c:Bool)(p:aH×Obj):Prop:=(c=false/\∃f,p=BP x S z q f)\/∃f,p=s_ x S z q f
def Ob(ns:!Nd):ao:=ns.map Nd.ob
def gC(ns:!Nd):ao:=ns.map Nd.ls
def BW:∀(ns),(Gr ns).Perm (Ob ns++gC ns):=by
 intro J;induction J with
 |nil=>rw[.refl _]
 |cons n ns C=>rw[((C).cons _).cons _|>.trans (pm [[n.ob],[n.ls],Ob ns,gC ns] (.p (.a 0)<|.p (.a 1)<|.p (.a 2)<|.a 3) (.p (.p (.a 0)<|.a 2)<|.p (.a 1)<|.a 3) rfl)]
def OH(l n r):(Ob (l++n::r)).Perm ([n.ob]++(Ob l++Ob r)):=by unfold Ob;simp only[bf,bW];rw[pm [l.map Nd.ob,[n.ob],r.map Nd.ob] (.p (.a 0)<|.p (.a 1)<|.a 2) (.p (.a 1)<|.p (.a 0)<|.a 2) rfl]
def MN(l n r v t):gC (l++n.st v t::r)=gC (l++n::r):=by unfold gC;simp only[bf,bf];rfl
abbrev nO(z li:N):bj:=bM fy 14 (.ref li)<|fV z
abbrev eU(li b i:N):aH×Obj:=(li,#[.type "list_iterator",none,.fields #[[.ref b,.int (i:Int) 0]],#[[]]])
abbrev I5(S:Sg)(P:aH×Obj)(es:!bv)(ne li b nb i:N)(ws:!af):ao:=[P,S.N es ne,eU li b i,(b,aa #[ws] nb)]
def RL{g:N->N->aH×Obj}{au:!(!N×N)}(W:F S.so (a9 S.sd))(hz:rs.length<=9000)(J:iV es=true)(t:d5 es #[#[y.1]]=some (.ref n.a))(j:∀sz tk Z,Ev (ex x aj 330 (.code<|nO z0 li)<|cf [P,S.N es ne,n.ob,eU li b au.length,(b,aa #[(au++y::rest).map ax] nb)] sz tk a6 gv [] Z) Z [0,1,2,3,4] (.next<|nO z0 li) [g tk n.a,S.N es ne,(n.st (n.np-1)<|tk+5).ob,eU li b<|au.length+1,(b,aa #[(au++y::rest).map ax] nb)] [] [((n.np-1==0),false)] [cR (.type "dict") es #[#[y.1]]<|.ref n.a,df (ar<|(au++y::rest).map ax) (au.length:Int)<|ax y])(K:∀sz tk Z,Ev (ex x aj 330 (.code<|nO z0 li)<|cf [P,S.N es ne,n.ob,eU li b au.length,(b,aa #[(au++y::rest).map ax] nb),S.D x.P (.ref r) po tp nf tf,(r,aa #[rs.map ax] nx)] sz tk a7 gv [(S.so,a9 S.sd)] Z) Z [0,1,2,3,4,5,6] (.next<|nO z0 li) [g tk n.a,S.N es ne,(n.st (n.np-1)<|tk+5).ob,eU li b<|au.length+1,(b,aa #[(au++y::rest).map ax] nb),S.D x.P (.ref r) po tp nf tf,(r,aa ((ar<|rs.map ax).push<|ax y)<|nx+1)] [] [((n.np-1==0),true)] [cm<|ar<|rs.map ax,cR (.type "dict") es #[#[y.1]]<|.ref n.a,df (ar<|(au++y::rest).map ax) (au.length:Int)<|ax y])(h:∀tk F' G,Le F F'->ay x aj 330 (nO z0 li) F' ((I5 S (g tk n.a) es ne li b nb (au++[y]).length ((au++y::rest).map ax)++[S.D x.P (.ref r) po tp nf tf,(r,aa #[(rs++if n.np-1=0 then[y]else[]).map ax] G)])++Ob (l++n.st (n.np-1) (tk+5)::D)) Q):ay x aj 330 (nO z0 li) F ((I5 S P es ne li b nb au.length ((au++y::rest).map ax)++[S.D x.P (.ref r) po tp nf tf,(r,aa #[rs.map ax] nx)])++Ob (l++n::D)) Q:=by
 have e:(au++[y]).length=au.length+1:=by simp
 have c:=λP E i d=>((OH l E D).append_left _).trans<|pm [[P,S.N es ne],[eU li b i,(b,aa #[(au++y::rest).map ax] nb)],d,[E.ob],Ob l++Ob D] (.p (.p (.p (.a 0)<|.a 1)<|.a 2)<|.p (.a 3)<|.a 4) (.p (.p (.a 0)<|.p (.a 3)<|.a 1)<|.p (.a 2)<|.a 4) rfl
 rw[.perm (c P n au.length _) ?_];by_cases U:n.np-1=0
 .rw[bJ (Y:=Ob l++Ob D) (O:=[(S.so,a9 S.sd)]) #[W,ab] λsz tk=>bu (K sz tk) #[by simpa using U,ab] #[by show(rs.map ax).length<=16777216;rw[aU,];rw[ry hz],#[dM,J,t],rF,ab] rfl (aV) ?_]
  have z:=h tk (fz F []) (nx+1) an;rw[if_pos U,e,show(rs++[y]).map ax=rs.map ax++[ax y]from bf ..]at z;rw[kr,];rw[.perm (c (g tk n.a) (n.st (n.np-1)<|tk+5) (au.length+1) [S.D x.P (.ref r) po tp nf tf,(r,aa #[rs.map ax++[ax y]]<|nx+1)]).symm z]
 .rw[bJ (O:=[]) ab λsz tk=>bu (j sz tk) #[by simpa using U,ab] #[#[dM,J,t],rF,ab] rfl (aV) ?_]
  have z:=h tk (fz F []) nx an;rw[if_neg U,e,bQ]at z;rw[.perm (c (g tk n.a) (n.st (n.np-1)<|tk+5) (au.length+1) _).symm z]
inductive QI (x:Wd) (S:Sg) (z q r po':N) (D:aH×Obj) (es:!bv) (ne b nb:N) (ws:!af) (c:Bool) (ls:ao) (rs:!(!(N))) (w:PG×!(!N)) (F':Fs):aL->ao->Prop
 |mk {L':ao} (fr:aH×Obj) (ns:!Nd) (rs':!(!N×N)) (nx:N) (h1:qo x S z q c fr) (h2:ns.map Nd.pg=w.1) (h3:aG x.P ns=es) (h4:gC ns=ls) (h5:rs'.map (·.1)=rs++w.2) (h6:L'.Perm ([fr,S.N es ne,(b,aa #[ws] nb),D,(r,aa #[rs'.map ax] nx)]++Ob ns)):QI x S z q r po' D es ne b nb ws c ls rs w F' (.ok .next) L'
def afC:∀{au rs:!(!N×N)} {P ns nx F},F S.so (a9 S.sd)->qo x S z0 q c P->aG x.P ns=es->gC ns=ls->rs.length+rest.length<=9000->(∀y∈rest,y.1∈bC (ns.map Nd.pg))->ay x aj 330 (nO z0 li) F ((I5 S P es ne li b nb au.length ((au++rest).map ax)++[S.D x.P (.ref r) po tp nf tf,(r,aa #[rs.map ax] nx)])++Ob ns) (QI x S z0 q r 0 (S.D x.P (.ref r) po tp nf tf) es ne b nb ((au++rest).map ax) c ls (rs.map (·.1))<|dK (rest.map (·.1))<|ns.map Nd.pg):=by
 induction rest with
 |nil=>intro au rs P ns nx F W w A s Z H;rw[bQ,];rw[.perm (pm [[P,S.N es ne],_,_,Ob ns] (.p (.p (.p (.a 0)<|.a 1)<|.a 2)<|.a 3) (.p (.a 1)<|.p (.p (.a 0)<|.a 2)<|.a 3) rfl) ?_];rw[bJ (O:=[]) ab λB K=>bp (ie B K z0 b nb li au.length (au.map ax) x) ab #[aQ,ab] (aV) #[P,ns,rs,nx,w,rfl,A,s,(bQ _).symm,pm [[P,S.N es ne],_,_,Ob ns] (.p (.a 1)<|.p (.p (.a 0)<|.a 2)<|.a 3) (.p (.p (.a 0)<|.p (.a 1)<|.a 2)<|.a 3) rfl]]
 |cons y rest L=>
  intro au rs P ns nx F W w A s Z H;rw[u8 (vG x.P<|H y<|.head _) λl n k j ac t d i J=>?_];subst j;obtain-:=d;subst A s;have C:=λD=>J kI (n.np-1) D rfl;have o:∀(f:F8) K (T:Fs) G,Le F T->ay x aj 330 (nO z0 li) T ((I5 S (s_ x S z0 q f) (aG x.P (l++n::k)) ne li b nb (au++[y]).length ((au++y::rest).map ax)++_)++Ob (l++n.st (n.np-1) (K+5)::k)) (QI x S z0 q r 0 (S.D x.P (.ref r) po tp nf tf) (aG x.P (l++n::k)) ne b nb ((au++y::rest).map ax) c (gC (l++n::k)) (rs.map (·.1))<|dK ((y::rest).map (·.1))<|(l++n::k).map Nd.pg):=λf K T G Q=>by
   have z:=L (au:=au++[y]) (rs:=rs++if n.np-1=0 then[y]else[]) (nx:=G) (Q _ _ W) (.inr #[f,rfl]) (oe (n':=n.st (n.np-1)<|K+5) rfl) (MN l n k _ _) (by split<;>simp at Z⊢<;>lia) λe U=>by rw[C,yn<|H y<|.head _];rw[H e<|.tail _ U]
   rw[C,<-(by simp:au++y::rest=(au++[y])++rest)]at z;rw[z.le (d8 _) λm T h _ q=>q.casesOn λP ns R nx M X I Y u E=>#[P,ns,R,nx,M,X,I,Y,u.trans ?_,E]];show _=_++(if bG _ y.1-1=0 then _ else _);rw[i,bf,b4]
   split<;>rfl
  rcases w with⟨rfl,f,rfl⟩|⟨f,rfl⟩
  .rw[RL (g:=λK a=>s_ x S z0 q #[f,K,K+2,ax y,.ref a]) W (Mc Z) (oH _ _) t (λB K=>iB0 S.so S.nd B K q z0 f.f0 f.f1 f.f2 ne y.2 n.a n.d b n.tp n.tk f.f3 nb f.f4 f.f5 li n.b au.length n.np _ _ y.1 n.k f.v0 f.v1 f.v2 x) (λB K=>iB1 S tp tf r nx B K q z0 f.f0 f.f1 f.f2 ne y.2 n.a n.d b n.tp n.tk f.f3 nb f.f4 f.f5 li n.b po nf au.length n.np _ _ _ y.1 n.k f.v0 f.v1 f.v2 x) λK T G Q=>o _ K T G Q]
  .rw[RL (g:=λK a=>s_ x S z0 q #[f.toF6,f.f6,f.f7,ax y,.ref a]) W (Mc Z) (oH _ _) t (λB K=>iC0 S.so S.nd B K q z0 f.f0 f.f1 f.f2 ne y.2 n.a n.d b n.tp n.tk f.f3 nb f.f4 f.f5 f.f6 f.f7 li n.b au.length n.np _ _ y.1 n.k f.v0 f.v1 f.v2 f.v3 f.v4 x) (λB K=>iC1 S tp tf r nx B K q z0 f.f0 f.f1 f.f2 ne y.2 n.a n.d b n.tp n.tk f.f3 nb f.f4 f.f5 f.f6 f.f7 li n.b po nf au.length n.np _ _ _ y.1 n.k f.v0 f.v1 f.v2 f.v3 f.v4 x) λK T G Q=>o _ K T G Q]
end
abbrev AA:=List<|List N×!(!N)
def dH(g:PG):AA:=g.map λy=>(y.1,y.2.2)
def yX(R:∀y,(f y).2=y.2):∀{g},k∈bC g->dH (bz k f g)=dH g:=by
 intro J;induction J with
 |nil=>intro U;rw[nomatch U]
 |cons x g C=>
  intro U;show dH (if x.1=k then _ else _)=_;by_cases q:x.1=k
  .rw[if_pos q,]
   show(k,(f x.2).2)::_=(x.1,x.2.2)::_;rw[R,q]
  .rw[if_neg q,]
   rw[congrArg ((x.1,x.2.2)::·)<|C<|(aY.mp U).resolve_left λe=>q e.symm]
def Dw(h:dH g=dH D):bC g=bC D:=by have:=congrArg (qr Ab) h;unfold dH at this;simp only[bI,bI]at this;rw[this]
def Qq:∀{ss g},(∀s∈ss,s∈bC g)->dH (dK ss g).1=dH g:=by
 intro J;induction J with
 |nil=>intro _ _;rw[rfl]
 |cons s ss C=>intro g U;have e:=yX (f:=kI) (λK=>rfl)<|U s<|.head _;rw[(C λP o=>by rw[(Dw e)▸U P (.tail _ o)]).trans e]
def Xq:∀{ss g},(dK ss g).2.length<=ss.length:=by
 intro J;induction J with
 |nil=>intro _;rw[d8 _]
 |cons s ss C=>
  intro g;have:=C (g:=bz s kI g);show(if bG g s-1=0 then s::_ else _).length<=ss.length+1;split
  .rw[nB this]
  .rw[lk this]
def y5:AA->!N->!(!N)
 |[],_=>[]
 |x::g,k=>if x.1=k then x.2 else y5 g k
def Rh:∀{g k},aS g k=y5 (dH g) k:=by
 intro J;induction J with
 |nil=>intro _;rw[rfl]
 |cons x g C=>intro k;show(if x.1=k then x.2.2 else aS g k)=if x.1=k then x.2.2 else y5 (dH g) k;rw[C,]
structure mf (s:AA):Prop where
 cl:∀y∈s,∀k∈y.2,k∈s.map (·.1)
 le:∀y∈s,y.2.length<=100
def Re:∀{s k},k∈s.map (·.1)->∃y∈s,y5 s k=y.2:=by
 intro J;induction J with
 |nil=>intro _ U;rw[nomatch U]
 |cons x z C=>
  intro k U;show∃y∈x::z,(if x.1=k then _ else _)=y.2;by_cases q:x.1=k
  .rw[bA x (.head _)<|if_pos q]
  .rw[aJ (C<|(aY.mp U).resolve_left λe=>q e.symm) λy b e=>bA y (.tail _ b)<|(if_neg q)▸e]
section
variable{x:Wd} {S:Sg} {z0 q r:N}
abbrev sR(z it:N):bj:=bM fy 3 (.ref it)<|fV z
inductive QO (x:Wd) (S:Sg) (r ne:N) (po:Int) (tp:N) (nf:Int) (n:N) (rs:!(!N)) (w:PG×!(!N)) (r0:aL) (F':Fs):aL->ao->Prop
 |mk {L':ao} (ns:!Nd) (rs':!(!N×N)) (nx tf:N) (J:ao) (h1:ns.map Nd.pg=w.1) (h2:rs'.map (·.1)=rs++w.2) (h3:L'.Perm (([S.D x.P (.ref r) po tp (nf+(n:Int)) tf,(r,aa #[rs'.map ax] nx),S.N (aG x.P ns) ne]++Gr ns)++J)):QO x S r ne po tp nf n rs w r0 F' r0 L'
abbrev LO(x:Wd)(S:Sg)(r ne:N)(po:Int)(tp:N)(nf:Int)(tf:N)(P it:aH×Obj)(rs:!(!N×N))(nx:N)(ns:!Nd):ao:=([P,S.N (aG x.P ns) ne,it]++[S.D x.P (.ref r) po tp nf tf,(r,aa #[rs.map ax] nx)])++Gr ns
def E5{au rest rs:!(!N×N)}{K:aL->aR->av}(W:F S.so (a9 S.sd))(w:qo x S z0 q c a7)(hs:dH ((l++n::a6).map Nd.pg)=s)(bb:mf s)(hz:rs.length+100<=9000)(hk:n.k=y.1)(P:aS ((l++n::a6).map Nd.pg) y.1=n.ss.map (·.1))(H:y.1∈bC ((l++n::a6).map Nd.pg))(C:(l++n.st (-2) 304::a6).map Nd.pg=bz y.1 (dS<|-2) ((l++n::a6).map Nd.pg))(t:d5 (aG x.P (l++n::a6)) #[#[y.1]]=some (.ref n.a))(b0:∀Z,Ev (o Z) Z [0,1,2,3,4,5] (.pend 339 aj (nO z0 sz) K) [a7,S.N (aG x.P (l++n::a6)) ne,(n.st (-2) 304).ob,eQ it q<|au.length+1,n.ls,eU sz n.b 0] [] [] [cR (.type "dict") (aG x.P (l++n::a6)) #[#[y.1]]<|.ref n.a,df (ar<|(au++y::rest).map ax) (au.length:Int)<|ax y])(ca:c=false->∀f tp tf J G Z,Ev (K (.ok .next)<|cf [BP x S z0 q f,S.D x.P (.ref r) po tp nf tf] J G a8 [] [(S.so,a9 S.sd)] Z) Z [0,1] (.next<|sR z0 it) [BP x S z0 q f,S.D x.P (.ref r) po tp (nf+1)<|G+2] [] [] [])(ch:∀f tp tf J G Z,Ev (K (.ok .next)<|cf [s_ x S z0 q f,S.D x.P (.ref r) po tp nf tf] J G a8 [] [(S.so,a9 S.sd)] Z) Z [0,1] (.next<|sR z0 it) [s_ x S z0 q f,S.D x.P (.ref r) po tp (nf+1)<|G+2] [] [] [])(bs:∀F' bU k A X O,Le F F'->qo x S z0 q false bU->k.map Nd.pg=(dK (aS ((l++n::a6).map Nd.pg) y.1)<|bz y.1 (dS<|-2)<|(l++n::a6).map Nd.pg).1->dH (k.map Nd.pg)=s->A.length<=rs.length+100->A.map (·.1)=rs.map (·.1)++(dK (aS ((l++n::a6).map Nd.pg) y.1)<|bz y.1 (dS<|-2)<|(l++n::a6).map Nd.pg).2->ay x aj 340 (sR z0 it) F' (LO x S r ne po tp (nf+1) O bU (eQ it q (au++[y]).length) A X k) Q):Go x aj 340 F Q F ([S.D x.P (.ref r) po tp nf tf,(r,aa #[rs.map ax] nx)]++(Gr l++Gr a6)) o:=by
 have ac:bC ((l++n::a6).map Nd.pg)=s.map (·.1):=by rw[hs▸?_];unfold dH;rw[bI,];rfl
 rw[aJ (Re<|ac▸H) λT Y B=>?_];have bl:n.ss.map (·.1)=T.2:=by simp only[<-P,Rh,hs,B]
 have R:n.ss.length<=100:=by have:=bb.le T Y;simp only[<-bl,aU]at this;rw[this]
 have h:∀j∈n.ss.map (·.1),j∈bC (bz y.1 (dS<|-2)<|(l++n::a6).map Nd.pg):=λj U=>by simp only[(yn H),ac];rw[bb.cl T Y j<|bl▸U]
 have z:=afC (po:=po) (nf:=nf) (tp:=tp) (tf:=tf) (r:=r) (ne:=ne) (li:=sz) (b:=n.b) (nb:=n.nb) (au:=[]) (nx:=nx) (F:=fz F []) (an _ _ W) w (oe (n:=n) (n':=n.st (-2) 304) rfl) (MN l n a6 (-2) 304) (ag4 hz R) (by rw[C,];intro e U;rw[h e.1<|bw U]);simp only[qx,C,<-P]at z;rw[bP (Z:=[eQ it q<|au.length+1]++(gC l++gC a6)) b0 ab ⟨⟨dM,oH _ _,t⟩,rF,ab⟩ ?_ (z.le ζ λ_ _ _ _ U=>U) λc3 F' bt c1 q=>?_]
 .rw[(((((BW l).append<|BW a6).trans<|pm [Ob l,gC l,Ob a6,gC a6] (.p (.p (.a 0)<|.a 1)<|.p (.a 2)<|.a 3) (.p (.p (.a 0)<|.a 2)<|.p (.a 1)<|.a 3) rfl).append_left _).append_left _).trans<|FE ?_<|((OH l (n.st (-2) 304) a6).symm.append_left _).append_right _]
  rw[pm [[a7,S.N (aG x.P (l++n::a6)) ne],[(n.st (-2) 304).ob],[eQ it q<|au.length+1],[n.ls],_,_,Ob l++Ob a6,gC l++gC a6] (.p (.p (.a 0)<|.p (.a 1)<|.p (.a 2)<|.p (.a 3)<|.a 4)<|.p (.a 5)<|.p (.a 6)<|.a 7) (.p (.p (.p (.p (.a 0)<|.p (.a 4)<|.a 3)<|.a 5)<|.p (.a 1)<|.a 6)<|.p (.a 2)<|.a 7) rfl]
 .obtain⟨bU,k,A,X,L,i,u,E,M,ck⟩:=q
  have m:=bO c1;have c0:A.length<=rs.length+100:=by have:=congrArg gT M;simp only[aU,cv,aU]at this;rw[ag5 this (Xq (ss:=aS ((l++n::a6).map Nd.pg) y.1) (g:=bz y.1 (dS<|-2)<|(l++n::a6).map Nd.pg)) (by simp only[P,aU];rw[R])]
  have bo:(bt++([eQ it q<|au.length+1]++(gC l++gC a6))).Perm ([bU,S.D x.P (.ref r) po tp nf tf]++(([S.N (aG x.P k) ne,eQ it q<|au.length+1]++[(r,aa #[A.map ax] X)])++Gr k)):=by
   have I:(Gr k).Perm (Ob k++([n.ls]++(gC l++gC a6))):=(BW k).trans (by rw[E,];unfold gC;simp only[bf,bW];rw[(pm [l.map Nd.ls,[n.ls],a6.map Nd.ls,Ob k] (.p (.a 3)<|.p (.a 0)<|.p (.a 1)<|.a 2) (.p (.a 3)<|.p (.a 1)<|.p (.a 0)<|.a 2) rfl)])
   rw[(ck.append_right _).trans<|FE ?_<|(I.symm.append_left _).append_left _];simp only[u];rw[pm [[bU],[S.N (aG x.P (l++n::a6)) ne],[n.ls],[S.D x.P (.ref r) po tp nf tf],_,Ob k,_,gC l++gC a6] (.p (.p (.p (.a 0)<|.p (.a 1)<|.p (.a 2)<|.p (.a 3)<|.a 4)<|.a 5)<|.p (.a 6)<|.a 7) (.p (.p (.a 0)<|.a 3)<|.p (.p (.p (.a 1)<|.a 6)<|.a 4)<|.p (.a 5)<|.p (.a 2)<|.a 7) rfl]
  have c2:=λD=>pm [[bU],[S.D x.P (.ref r) po tp (nf+1) D],[S.N (aG x.P k) ne,eQ it q<|au.length+1],[(r,aa #[A.map ax] X)],Gr k] (.p (.p (.a 0)<|.a 1)<|.p (.p (.a 2)<|.a 3)<|.a 4) (.p (.p (.p (.a 0)<|.a 2)<|.p (.a 1)<|.a 3)<|.a 4) rfl
  have j:∀D,qo x S z0 q false bU->ay x aj 340 (sR z0 it) (fz F' []) ([bU,S.D x.P (.ref r) po tp (nf+1) D]++(([S.N (aG x.P k) ne,eQ it q<|au.length+1]++[(r,aa #[A.map ax] X)])++Gr k)) Q:=λD U=>by have z:=bs (fz F' []) bU k A X D (cb m) U i (by rw[i,];rw[(Qq<|P▸h).trans<|(yX (f:=dS<|-2) (λ_=>rfl) H).trans hs]) c0 M;rw[(by simp:(au++[y]).length=au.length+1)]at z;rw[.perm (c2 D) z]
  rcases L with⟨d,f,rfl⟩|⟨f,rfl⟩
  .rw[⟨_,_,bo,_,_,[(S.so,a9 S.sd)],⟨m _ _ W,ab⟩,λJ G=>bu (ca d f tp tf J G) ab ab rfl m<|j (G+2)<|.inl ⟨rfl,f,rfl⟩⟩]
  .rw[⟨_,_,bo,_,_,[(S.so,a9 S.sd)],⟨m _ _ W,ab⟩,λJ G=>bu (ch f tp tf J G) ab ab rfl m<|j (G+2)<|.inr #[f,rfl]⟩]
def LD:(LO x S r ne po tp nf tf G (eQ it q i) rs nx (l++n::D)).Perm ([G,S.N (aG x.P (l++n::D)) ne,n.ob,eQ it q i,n.ls]++([S.D x.P (.ref r) po tp nf tf,(r,aa #[rs.map ax] nx)]++(Gr l++Gr D))):=(pV.append_left _).trans<|pm [[G,S.N (aG x.P (l++n::D)) ne],_,_,[n.ob],[n.ls],Gr l++Gr D] (.p (.p (.p (.a 0)<|.a 1)<|.a 2)<|.p (.p (.a 3)<|.a 4)<|.a 5) (.p (.p (.a 0)<|.p (.a 3)<|.p (.a 1)<|.a 4)<|.p (.a 2)<|.a 5) rfl
def afG(bl:mf s):∀{au rs:!(!N×N)} {P ns nx tf nf F},F S.so (a9 S.sd)->F q (aD<|(au++rest).map ax)->qo x S z0 q false P->dH (ns.map Nd.pg)=s->rs.length+100*rest.length<=9000->(∀y∈rest,y.1∈s.map (·.1))->qS (rest.map (·.1)) (ns.map Nd.pg)->ay x aj 340 (sR z0 it) F (LO x S r ne po tp nf tf P (eQ it q au.length) rs nx ns) (QO x S r ne po tp nf rest.length (rs.map (·.1)) (fU (rest.map (·.1))<|ns.map Nd.pg)<|.ok .next):=by
 induction rest with
 |nil=>intro au rs P ns nx tf nf F W u w o Z H M;rw[bQ]at u;rw[.perm (pm [[P,S.N (aG x.P ns) ne],_,_,Gr ns] (.p (.p (.p (.a 0)<|.a 1)<|.a 2)<|.a 3) (.p (.a 1)<|.p (.p (.a 0)<|.a 2)<|.a 3) rfl)<|bJ (O:=[(q,aD<|au.map ax)]) ⟨u,ab⟩ λB K=>bp (de B K q z0 it au.length (au.map ax) x) ab #[aQ,ab] (aV) #[ns,rs,nx,tf,[P],rfl,(bQ _).symm,?_]];show zJ _ (([S.D x.P (.ref r) po tp (nf+0) tf,(r,aa #[rs.map ax] nx),S.N (aG x.P ns) ne]++Gr ns)++[P]);rw[zE,];rw[pm [[P],_,_,Gr ns] (.p (.p (.p (.a 0)<|.a 1)<|.a 2)<|.a 3) (.p (.p (.p (.a 2)<|.a 1)<|.a 3)<|.a 0) rfl]
 |cons y rest c1=>
  intro au rs P ns nx tf nf F W u w o Z H M;have a8:y.1∈bC (ns.map Nd.pg):=(by rw[o▸?_];unfold dH;rw[bI,];rfl:bC (ns.map Nd.pg)=s.map (·.1))▸H y (.head _);rw[u8 (vG x.P a8) λl n k j bb t bo c0 bs=>?_];subst j;obtain⟨b,g,E,ac,I,c5,R,C,D⟩:=n;obtain rfl:c5=-1:=(c0.symm.trans M.1);have m:au++y::rest=(au++[y])++rest:=by simp
  rw[.perm LD ?_];have h:∀(T:Fs) a7 a6 (A:!(!N×N)) X bt,Le F T->qo x S z0 q false a7->a6.map Nd.pg=(dK (aS ((l++#[b,g,E,ac,I,-1,R,C,D]::k).map Nd.pg) y.1)<|bz y.1 (dS<|-2)<|(l++#[b,g,E,ac,I,-1,R,C,D]::k).map Nd.pg).1->dH (a6.map Nd.pg)=s->A.length<=rs.length+100->
    A.map (·.1)=rs.map (·.1)++(dK (aS ((l++#[b,g,E,ac,I,-1,R,C,D]::k).map Nd.pg) y.1)<|bz y.1 (dS<|-2)<|(l++#[b,g,E,ac,I,-1,R,C,D]::k).map Nd.pg).2->
    ay x aj 340 (sR z0 it) T (LO x S r ne po tp (nf+1) bt a7 (eQ it q (au++[y]).length) A X a6) (QO x S r ne po tp nf (rest.length+1) (rs.map (·.1)) (fU (y.1::rest.map (·.1))<|(l++#[b,g,E,ac,I,-1,R,C,D]::k).map Nd.pg)<|.ok .next):=λT a7 a6 A X bt Q ca L i ch ck=>by
   rw[(c1 (Q _ _ W) (Q _ _<|m▸u) ca i (ag6 Z ch) (λe U=>H e<|.tail _ U) (by simp only[L];rw[M.2])).le (d8 _) λdt dd ds _ q=>q.casesOn λd Y da db b0 c2 c3 c4=>#[d,Y,da,db,b0,by simp only[c2,L];rfl,by simp only[c3,ck,L,b4];rfl,((show nf+(rest.length+1:N)=nf+1+rest.length by rw[Ms])▸c4)]]
  rcases w with⟨-,f,rfl⟩|⟨f,rfl⟩
  .rw[bJ (O:=[(q,aD<|(au++y::rest).map ax)]) ⟨u,ab⟩ λB K=>E5 W (.inl #[rfl,#[f.f0,f.f1,f.f2,f.f3,f.f4,f.f5,ax y,.ref b,.int (-1) R],rfl]) o bl (Mt Z) bb bo a8 (bs (dS<|-2) (-2) 304 rfl) t (dB S.so S.nd B K q z0 it f.f0 f.f1 f.f2 ne y.2 b g E R I f.f3 D f.f4 f.f5 au.length ((au++y::rest).map ax) (C.map ax) (aG x.P (l++⟨b,g,E,ac,I,-1,R,C,D⟩::k)) y.1 ac f.v0 f.v1 f.v2 x) (λ_ z tp tf J G=>Xj S tp tf r q J G z0 it z.f0 z.f1 z.f2 z.f3 z.f4 z.f5 po nf z.v0 z.v1 z.v2 x) (λz tp tf J G=>Xk S tp tf r q J G z0 it z.f0 z.f1 z.f2 z.f3 z.f4 z.f5 z.f6 z.f7 po nf z.v0 z.v1 z.v2 z.v3 z.v4 x) h]
  .rw[bJ (O:=[(q,aD<|(au++y::rest).map ax)]) ⟨u,ab⟩ λB K=>E5 (c:=true) W (.inr #[#[#[f.f0,f.f1,f.f2,f.f3,f.f4,f.f5,ax y,.ref b,.int (-1) R],f.f6,f.f7,f.v3,f.v4],rfl]) o bl (Mt Z) bb bo a8 (bs (dS<|-2) (-2) 304 rfl) t (dC S.so S.nd B K q z0 it f.f0 f.f1 f.f2 ne y.2 b g E R I f.f3 D f.f4 f.f5 f.f6 f.f7 au.length ((au++y::rest).map ax) (C.map ax) (aG x.P (l++⟨b,g,E,ac,I,-1,R,C,D⟩::k)) y.1 ac f.v0 f.v1 f.v2 f.v3 f.v4 x) (λU=>(nomatch U)) (λz tp tf J G=>Xl S tp tf r q J G z0 it z.f0 z.f1 z.f2 z.f3 z.f4 z.f5 z.f6 z.f7 po nf z.v0 z.v1 z.v2 z.v3 z.v4 x) h]
def aqY(b0:mf s){rest rs:!(!N×N)}(W:F S.so (a9 S.sd))(hs:dH (ns.map Nd.pg)=s)(hz:rs.length<=1000)(bs:rest.length<9)(H:∀e∈y::rest,e.1∈s.map (·.1))(M:qS ((y::rest).map (·.1)) (ns.map Nd.pg)):ay x aj 350 (.call (.ref 145) #[.ref S.so::(y::rest).map ax,[]]) F ([S.D x.P (.ref r) po tp nf tf,(r,aa #[rs.map ax] nx),S.N (aG x.P ns) ne]++Gr ns) (QO x S r ne po tp nf (rest.length+1) (rs.map (·.1)) (fU ((y::rest).map (·.1))<|ns.map Nd.pg)<|.ok<|.ret .none):=by
 have X:((y::rest).map ax).length<10:=by rw[aU,];simp only[dN];rw[ag7 bs]
 have bt:y.1∈bC (ns.map Nd.pg):=(by rw[hs▸?_];unfold dH;rw[bI,];rfl:bC (ns.map Nd.pg)=s.map (·.1))▸H y (.head _);rw[u8 (vG x.P bt) λl n k j c t P c2 c3=>?_];subst j;obtain⟨a6,g,E,f,I,db,R,C,D⟩:=n;obtain rfl:db=-1:=(c2.symm.trans M.1);rw[lY (L:=[S.D x.P (.ref r) po tp nf tf]) (O:=[(S.so,a9 S.sd)]) #[W,ab] λB K=>bP (Wh (x:=x) (so:=S.so) (sd:=S.sd) (nd:=S.nd) (u:=S.u) (po:=po) (nf:=nf) (tp:=tp) (tf:=tf) (r:=r) (sz:=B) (tk:=K) (hv:=X)) ab ab (Lc:=LO x S r ne po tp nf tf (Im x S (B+1) B K (K+1)<|K+4) (eQ (B+2) B 0) rs nx (l++#[a6,g,E,f,I,-1,R,C,D]::k)) (Z:=[]) (Qc:=QO x S r ne po tp nf (rest.length+1) (rs.map (·.1)) (fU ((y::rest).map (·.1))<|(l++#[a6,g,E,f,I,-1,R,C,D]::k).map Nd.pg)<|.ok .next) ?_ ?_ λm T h Q q=>?_]
 .rw[pm [[S.D x.P (.ref r) po tp nf tf],[Im x S (B+1) B K (K+1)<|K+4],_,[(r,aa #[rs.map ax] nx)],_,Gr (l++#[a6,g,E,f,I,-1,R,C,D]::k)] (.p (.p (.a 0)<|.p (.a 1)<|.a 2)<|.p (.p (.a 3)<|.a 4)<|.a 5) (.p (.p (.p (.p (.a 1)<|.p (.a 4)<|.a 2)<|.p (.a 0)<|.a 3)<|.a 5) .z) rfl]
 .rw[.perm LD (.le (b:=340) ?_ ζ λ_ _ _ _ U=>U)]
  rw[bJ (O:=[(B,aD<|(y::rest).map ax)]) #[bc<|.head _,ab] λdd Y=>E5 (au:=[]) (an _ _ W) (.inl #[rfl,#[K,K+1,K+4,Y,Y+2,Y+4,ax y,.ref a6,.int (-1) R],rfl]) hs b0 (ag8 hz) c P bt (c3 (dS<|-2) (-2) 304 rfl) t (dA S.so S.nd dd Y B (B+1) (B+2) K (K+1) (K+4) ne y.2 a6 g E R I D 0 ((y::rest).map ax) (C.map ax) (aG x.P (l++⟨a6,g,E,f,I,-1,R,C,D⟩::k)) y.1 f x) (λ_ ac tp tf J G=>Xh S tp tf r B J G (B+1) (B+2) ac.f0 ac.f1 ac.f2 ac.f3 ac.f4 ac.f5 po nf ac.v0 ac.v1 ac.v2 x) (λac tp tf J G=>Xi S tp tf r B J G (B+1) (B+2) ac.f0 ac.f1 ac.f2 ac.f3 ac.f4 ac.f5 ac.f6 ac.f7 po nf ac.v0 ac.v1 ac.v2 ac.v3 ac.v4 x) λT dt o A du dx Q w a8 i ca ch=>by rw[(afG b0 (Q _ _<|an _ _ W) (Q _ _<|bc<|.head _) w i (ag9 hz bs ca) (λe U=>H e<|.tail _ U) (by rw[a8,];rw[M.2])).le (d8 _) λm ds h _ q=>q.casesOn λd bl bb bo a7 c4 c5 da=>#[d,bl,bb,bo,a7,by simp only[c4,a8];rfl,by simp only[c5,ch,a8,b4];rfl,((show nf+(rest.length+1:N)=nf+1+rest.length by rw[Ms])▸da)]]]
 .rw[q.casesOn @λh d bl bb bo a7 ck c0 c1=>#[[],h,.of_eq<|bQ _,_,_,[],ab,λJ G=>bp (dr x ((y::rest).map ax) B X J G) ab ab (bO Q) #[d,bl,bb,bo,a7,ck,c0,c1]]]
def Rk{rs:!(!N×N)}(W:F S.so (a9 S.sd))(hi:i<10)(a:rs.length<=4000):ay x aj 350 (.call (.ref 131) #[[.ref S.so],[]]) F [S.D x.P (.ref r) (ad i) tp (ad i) tf,(r,aa #[rs.map ax] nx)] (QK (.ok<|.ret<|.bool<|(not (rs.isEmpty))) [S.D x.P (.ref r) (ad i) tp (ad i) tf,(r,aa #[rs.map ax] nx)]):=by
 cases rs with
 |nil=>rw[fv (O:=[(S.so,a9 S.sd)]) #[W,ab] λB K=>bp (TX x S.so S.sd S.nd S.u i tp tf r nx B K (hi:=hi)) ab #[ui<|dm _,ab] (aV) ⟨⟩]
 |cons y rs=>rw[fv (O:=[(S.so,a9 S.sd)]) #[W,ab] λB K=>bp (TT x S.so S.sd S.nd S.u i tp tf r (ax y) (rs.map ax) nx B K (hi:=hi)) ab #[ui (by show(ax y::rs.map ax).length<=4001;simp at a⊢;rw[ag_ a]),ab] (aV) ⟨⟩]
end
def jm:PG->!(!N)
 |[]=>[]
 |y::g=>if y.2.1=0 then y.1::jm g else jm g
def RW(h:∀f∈zs,f.a≠sz):∃v,(sz,az es n)::zs.map (be us)=(#[sz,es,n]::zs).map (be v):=by
 rw[#[λy=>if y=sz then#[[]]else us y,(bW▸?_)]];have K:(sz,az es n)=be (λy=>if y=sz then#[[]]else us y) #[sz,es,n]:=by show _=(sz,bi es n<|if sz=sz then _ else _);rw[(if_pos rfl)▸?_];rfl
 have O:zs.map (be us)=zs.map (be λy=>if y=sz then#[[]]else us y):=oQ λf R=>by show _=(f.a,bi f.es f.n<|if f.a=sz then _ else _);rw[if_neg<|h f R,]
 simp only[<-K,<-O]
section
variable{x:Wd} {ol:!aX} {S:Sg} {d:Sv} {zs:!Fr}
abbrev tx(ol:!aX)(z:N):Mk:=#[none,some (jf z::ol),false]
abbrev qQ(z:N):bj:=fT iD 0 (.ref<|z+2) (.ref<|z+3)<|kx z
abbrev L7(S:Sg)(z i ne:N)(es:!bv)(xs:!af)(nx:N)(e:!bv)(r:N):ao:=[S.N es ne,(z+2,hU S.nd (i:Int) es ne),(z+3,aa #[xs] nx),(z+4,ak e r)]
inductive Q7 (x:Wd) (S:Sg) (z ne:N) (ns:!Nd) (acc:!(!N)) (one:Bool) (F':Fs):aL->ao->Prop
 |mk {L':ao} (t4:N) (v4:af) (nx:N) (xs:!(!N×N)) (h1:xs.map (·.1)=acc) (h2:L'.Perm ([S.N (aG x.P ns) ne,(z+3,aa #[xs.map ax] nx),(z+4,ak [V x.P kR t4 v4] 1)]++Gr ns)):Q7 x S z ne ns acc one F' (.ok .next) L'
def Pv(P l n r ne):gU false (.type "dict_valueiterator") (.type "dict") (aG P (l++n::r)) ne (l.length:Int) ((aG P (l++n::r)).length:Int) (ad ne) (.ref n.a):=#[rfl,dM,rfl,rfl,jy _,_,by rw[H7 P l n r],rfl]
def RK{z ne nx d:N}{t:N->N}(hz:xs.length<=9000)(j:∀sz tk Z,Ev (ex x (tx ol z) 440 (.code<|qQ z)<|cf [S.N (aG x.P (l++n::r)) ne,n.ob,(z+2,hU S.nd (l.length:Int) (aG x.P (l++n::r)) ne),(z+3,aa #[xs.map ax] nx),(z+4,ak D d)] sz tk J gv [] Z) Z [0,1,2,3,4] (.next<|qQ z) [S.N (aG x.P (l++n::r)) ne,n.ob,(z+2,hU S.nd ((l.length+1:N):Int) (aG x.P (l++n::r)) ne),(z+3,aa #[xs.map ax] nx),(z+4,ak [V x.P kR (t tk)<|.ref n.a] 1)] [] [((n.np==0),false)] [gU false (.type "dict_valueiterator") (.type "dict") (aG x.P (l++n::r)) ne (l.length:Int) ((aG x.P (l++n::r)).length:Int) (ad ne)<|.ref n.a])(K:∀sz tk Z,Ev (ex x (tx ol z) 440 (.code<|qQ z)<|cf [S.N (aG x.P (l++n::r)) ne,n.ob,(z+2,hU S.nd (l.length:Int) (aG x.P (l++n::r)) ne),(z+3,aa #[xs.map ax] nx),(z+4,ak D d)] sz tk a6 gv [] Z) Z [0,1,2,3,4] (.next<|qQ z) [S.N (aG x.P (l++n::r)) ne,n.ob,(z+2,hU S.nd ((l.length+1:N):Int) (aG x.P (l++n::r)) ne),(z+3,aa ((ar<|xs.map ax).push<|ax (n.k,n.tk))<|nx+1),(z+4,ak [V x.P kR (t tk)<|.ref n.a] 1)] [] [((n.np==0),true)] [cm<|ar<|xs.map ax,gU false (.type "dict_valueiterator") (.type "dict") (aG x.P (l++n::r)) ne (l.length:Int) ((aG x.P (l++n::r)).length:Int) (ad ne)<|.ref n.a])(h:∀F' t G,ay x (tx ol z) 440 (qQ z) F' (L7 S z (l.length+1) ne (aG x.P (l++n::r)) ((xs++if n.np=0 then[(n.k,n.tk)]else[]).map ax) G [V x.P kR t<|.ref n.a] 1++Gr (l++n::r)) Q):ay x (tx ol z) 440 (qQ z) F (L7 S z l.length ne (aG x.P (l++n::r)) (xs.map ax) nx D d++Gr (l++n::r)) Q:=by
 have c:∀(A f b:aH×Obj),(_++Gr (l++n::r)).Perm ([S.N (aG x.P (l++n::r)) ne,n.ob,A,f,b]++(n.ls::(Gr l++Gr r))):=λA f b=>(lO.append_left _).trans<|pm [[S.N (aG x.P (l++n::r)) ne],[A,f,b],[n.ob],n.ls::(Gr l++Gr r)] (.p (.p (.a 0)<|.a 1)<|.p (.a 2)<|.a 3) (.p (.p (.a 0)<|.p (.a 2)<|.a 1)<|.a 3) rfl
 rw[.perm (c _ _ _) ?_];by_cases U:n.np=0
 .rw[bJ (O:=[]) ab λsz tk=>bu (K sz tk) #[by simpa using U,ab] #[by show(xs.map ax).length<=16777216;rw[aU,];rw[ry hz],Pv x.P l n r ne,ab] rfl (aV) ?_]
  have z:=h (fz F []) (t tk)<|nx+1;rw[if_pos U,bf ..]at z;rw[kr,];rw[.perm (c _ _ _).symm z]
 .rw[bJ (O:=[]) ab λsz tk=>bu (j sz tk) #[by simpa using U,ab] #[Pv x.P l n r ne,ab] rfl (aV) ?_]
  have z:=h (fz F []) (t tk) nx;rw[if_neg U,bQ]at z;rw[.perm (c _ _ _).symm z]
def afs{z ne:N}:∀{l} {xs:!(!N×N)} {nx t4 v4 F},xs.length+r.length<=9000->ay x (tx ol z) 440 (qQ z) F (L7 S z l.length ne (aG x.P<|l++r) (xs.map ax) nx [V x.P kR t4 v4] 1++Gr (l++r)) (Q7 x S z ne (l++r) (xs.map (·.1)++jm (r.map Nd.pg)) true):=by
 induction r with
 |nil=>intro l xs nx t4 v4 F Z;rw[bQ,];rw[.perm (pm [[S.N (aG x.P l) ne],[(z+2,hU S.nd l.length (aG x.P l) ne)],_,Gr l] (.p (.p (.a 0)<|.p (.a 1)<|.a 2)<|.a 3) (.p (.p (.a 0)<|.a 1)<|.p (.a 2)<|.a 3) rfl) (bJ (O:=[]) ab λB K=>bp (pe ol S.nd ne B K z l.length (aG x.P l) x) ab #[#[rfl,dM,rfl,rfl,by unfold aG;rw[aU,]],ab] (aV) #[t4,v4,nx,xs,(bQ _).symm,.refl _])]
 |cons n r C=>
  intro l xs nx t4 v4 F Z;simp only[dN]at Z;rw[RK (Do Z) (λk E b=>aoL ol S.nd ne k E z n.a n.d n.b n.tp n.tk nx t4 l.length n.np (aG x.P (l++n::r)) n.k (xs.map ax) v4 x b) (λk E b=>aoM ol S.nd ne k E z n.a n.d n.b n.tp n.tk nx t4 l.length n.np (aG x.P (l++n::r)) n.k (xs.map ax) v4 x b) λT D G=>?_]
  have z:=C (l:=l++[n]) (xs:=xs++if n.np=0 then[(n.k,n.tk)]else[]) (nx:=G) (t4:=D) (v4:=.ref n.a) (F:=T) (by split<;>simp<;>lia)
  rw[<-(by simp:l++n::r=(l++[n])++r),cv]at z;rw[z.le (d8 _) λm c h U q=>q.casesOn λt4 v4 nx g M X=>#[t4,v4,nx,g,M.trans ?_,X]];show _=_++(if n.np=0 then _ else _);simp only[bf,b4]
  split<;>rfl
def VU{z ne:N}(hz:r.length<=8000):ay x (tx ol z) 440 (jd iD 0 (.ref<|z+2) (.ref<|z+3)<|kx z) F (L7 S z 0 ne (aG x.P (n::r)) [] 0 [] 0++Gr (n::r)) (Q7 x S z ne (n::r) (jm<|(n::r).map Nd.pg) true):=by
 rw[.perm (pm [[S.N (aG x.P (n::r)) ne],[(z+2,hU S.nd 0 (aG x.P (n::r)) ne)],_,Gr (n::r)] (.p (.p (.a 0)<|.p (.a 1)<|.a 2)<|.a 3) (.p (.a 1)<|.p (.p (.a 0)<|.a 2)<|.a 3) rfl) (bJ (O:=[]) ab λB K=>bu (au ol S.nd ne B K z (aG x.P (n::r)) x) ab ab rfl (aV)<|.perm (pm [[S.N (aG x.P (n::r)) ne],_,_,Gr (n::r)] (.p (.a 1)<|.p (.p (.a 0)<|.a 2)<|.a 3) (.p (.p (.a 0)<|.p (.a 1)<|.a 2)<|.a 3) rfl)<|RK (l:=[]) (xs:=[]) (dm _) (λk E b=>aoJ ol S.nd ne k E z n.a n.d n.b n.tp n.tk 0 0 n.np (aG x.P (n::r)) n.k [] x b) (λk E b=>aoK ol S.nd ne k E z n.a n.d n.b n.tp n.tk 0 0 n.np (aG x.P (n::r)) n.k [] x b) λT D G=>(afs (l:=[n]) (by split<;>simp<;>lia)).le (d8 _) λm c h U q=>q.casesOn λR d L g M X=>#[R,d,L,g,M.trans ?_,X])]
 show _=(if n.np=0 then _ else _)
 split<;>rfl
abbrev sW(a nd:N):aH×Obj:=(a,#[.type "dict_values",none,.fields #[[.ref nd]],#[[]]])
abbrev Bc(a:N):aH×Obj:=(a,#[.type "dict",none,.dict #[[]] 2,#[[]]])
abbrev uC(x:Wd)(S:Sg)(d:Sv)(ns:!Nd)(zs:!Fr)(us:N->Array (Option af))(r nr:N)(rs:!(!N×N)):ao:=[S.D x.P (.ref r) d.po d.tp d.nf d.tf,(r,aa #[rs.map ax] nr),S.N (aG x.P ns) d.ne]++(Gr ns++zs.map (be us))
def Gz(x:Wd)(S:Sg)(d:Sv)(ns:!Nd)(zs:!Fr)(b:Bool):Po:=λT m h=>∃(B:N->Array (Option af)) (r g:N) (f:!(!N×N)) (a:ao),f.map (·.1)=jm (ns.map Nd.pg)/\match b with
 |false=>m=.ok (.ret .none)/\h.Perm (uC x S d ns zs B r g f++a)
 |true=>∃e D i z M,m=.error (.ref e)/\h.Perm ((uC x S d ns zs B r g f++[(e,lq D<|.ref i),(i,kX z M)])++a)
abbrev Hu:!N:=[110,111,100,101,115,32,97,114,101,32,105,110,32,97,32,99,121,99,108,101]
abbrev pz(x:Wd)(S:Sg)(z t E l:N):Fr:=#[z,[V x.P bx t<|.ref S.so,V x.P yU E<|.ref l],2]
def Lj(z):(jf z).scope.kind=.function:=by lk
def aqW(hk:iX ol zs)(bl:0<f/\f<=4000)(dd:d.rd=.none)(w:1<S.nd)(Y:qi (n::r))(W:F S.so (a9 S.sd))(hz:r.length<=1000)(H:(r.length+1)*f<=4000)(db:iQ ((n::r).map Nd.pg) f ((n::r).map (·.k)) []=some b):ay x #[none,some ol,false] 450 (.call (.ref 117) #[[.ref S.so],[]]) F (SN x S d (n::r)++(Gr (n::r)++zs.map (be us))) (Gz x S d (n::r) zs b):=by
 obtain⟨d0,ac,Q,i,z,y⟩:=d;obtain rfl:d0=.none:=dd;rw[lY (O:=[(S.so,a9 S.sd)]) #[W,ab] λB K=>bP (aod S ol Q z y B K ac i (aG x.P (n::r)) x) ab #[#[dM,w],ab] (Z:=[S.D x.P .none ac Q i z,(B,az _ 1)]++(zs.map (be us)++[sW (B+1) S.nd])) (pm [[S.D x.P .none ac Q i z],[S.N (aG x.P (n::r)) y],[(B,az _ 1)],[sW (B+1) S.nd],_,Gr (n::r),zs.map<|be us] (.p (.p (.a 0)<|.p (.a 1)<|.p (.a 2)<|.p (.a 3)<|.a 4)<|.p (.a 5)<|.a 6) (.p (.p (.p (.a 1)<|.a 4)<|.a 5)<|.p (.p (.a 0)<|.a 2)<|.p (.a 6)<|.a 3) rfl) ((VU<|akK hz).le ζ λ_ _ _ _ U=>U) λep c eh u q=>?_];rw[q.casesOn λd3 ec L a6 b0 c5=>?_];have bo:=bO u;rw[#[_,[S.N (aG x.P (n::r)) y]++(Gr (n::r)++(zs.map (be us)++[sW (B+1) S.nd])),(c5.append_right _).trans<|pm [[S.N (aG x.P (n::r)) y],_,Gr (n::r),_,zs.map<|be us,_] (.p (.p (.p (.a 0)<|.a 1)<|.a 2)<|.p (.a 3)<|.p (.a 4)<|.a 5) (.p (.p (.a 3)<|.a 1)<|.p (.a 0)<|.p (.a 2)<|.p (.a 4)<|.a 5) rfl,_,_,[(S.so,a9 S.sd)],⟨bo _ _ W,ab⟩,λJ d2=>bP (yw S ol Q z B K L d3 J d2 ac i (a6.map ax) ec x) ab ab (Lc:=SN x S #[.ref<|B+3,ac,Q,i,z,y] (n::r)++(Gr (n::r)++((B,az _ 1)::zs.map (be us)))) (Z:=(B+3,aa #[a6.map ax] L)::[sW (B+1) S.nd,Bc<|B+4]) (pm [[S.D x.P (.ref<|B+3) ac Q i z],[(B,az _ 1)],[(B+3,aa #[a6.map ax] L)],_,_,Gr (n::r),zs.map<|be us,_] (.p (.p (.a 0)<|.p (.a 1)<|.p (.a 2)<|.a 3)<|.p (.a 4)<|.p (.a 5)<|.p (.a 6)<|.a 7) (.p (.p (.p (.a 0)<|.a 4)<|.p (.a 5)<|.p (.a 1)<|.a 6)<|.p (.a 2)<|.p (.a 7)<|.a 3) rfl) (Qc:=Q5 x S #[.ref<|B+3,ac,Q,i,z,y] (n::r) (#[B,[V x.P bx K<|.ref S.so],1]::zs) (.ok<|.ret .none) b) ?_ λt bt A du ⟨⟨h,a7,da⟩,j⟩=>?_]]
 .rw[.nd λg=>?_]
  have hz:=λf bl e=>by have ca:=(rB (by rw[g]:(((SN x S #[.ref<|B+3,ac,Q,i,z,y] (n::r)++Gr (n::r))++((B,az _ 1)::zs.map (be us))).map (·.1)).Nodup)).2.1;rw[bW,c_]at ca;rw[ca.1 ?_];simp only[bI];rw[bn.mpr<|bA f bl e]
  rw[dq (RW (us:=us) (es:=[V x.P bx K<|.ref S.so]) (n:=1) hz) λv X=>?_];rw[X,];rw[(aqZ (ol:=jf B::ol) (zs:=#[B,_,1]::zs) #[λU=>(nomatch(Lj B).symm.trans U),rfl,hk] bl w Y (an _ _<|bo _ _ W) H db).le ζ λ_ _ _ _ U=>U]
 .have T:=dR (cb bo) du
  have ch:(A++((B+3,aa #[a6.map ax] L)::_)).Perm ([(B,bi _ 1<|h B)]++((uC x S #[.none,ac,Q,i,z,y] (n::r) zs h (B+3) L a6)++(a7++[sW (B+1) S.nd,Bc<|B+4]))):=(da.append_right _).trans<|pm [[S.D x.P (.ref<|B+3) ac Q i z],_,Gr (n::r),[(B,bi _ 1<|h B)],zs.map<|be h,a7,[(B+3,aa #[a6.map ax] L)],_] (.p (.p (.p (.p (.a 0)<|.a 1)<|.p (.a 2)<|.p (.a 3)<|.a 4)<|.a 5)<|.p (.a 6)<|.a 7) (.p (.a 3)<|.p (.p (.p (.a 0)<|.p (.a 6)<|.a 1)<|.p (.a 2)<|.a 4)<|.p (.a 5)<|.a 7) rfl
  cases b with
  |false=>subst j;rw[#[_,_,ch,_,_,[],ab,λbs E=>bp (pn ol S.so B K bs E h x) ab ab T<|Jv h (B+3) L a6 _ b0 rfl<|.refl _]]
  |true=>
   rw[xA j λR c0 l ed c4 ds dt=>?_];subst ed;obtain⟨I,a8,rfl⟩:∃I a8,c0=I::a8:=by cases c0 with|nil=>cases ds|cons I a8=>rw[kh I a8 rfl]
   have dV:gd (.type "list") (ar (I::a8)):=#[pF,by show(I::a8).length<=16777216;rw[ry dt]];rw[#[_,_,ch,_,_,[(R,aa #[I::a8] l)],#[c4,ab],λbs E=>jh (pr ol S.so B K bs E R l a8 I h x) ab #[dV,ab] (Lc:=[]) (.refl _) λei ev ew eg em c2=>Yh c2 λe D=>?_]];rw[#[[be h<|pz x S B K E R,(e,lq D .none)],(uC x S #[.none,ac,Q,i,z,y] (n::r) zs h (B+3) L a6++(a7++_))++[(D,aD _)],pm [[(e,lq D .none)],_,[be h<|pz x S B K E R],uC x S #[.none,ac,Q,i,z,y] (n::r) zs h (B+3) L a6++(a7++_)] (.p (.p (.a 0)<|.a 1)<|.p (.a 2)<|.a 3) (.p (.p (.a 2)<|.a 0)<|.p (.a 3)<|.a 1) rfl,_,_,[],ab,λM eb=>xN (prx ol S.so B K D eb E R e M h x) ab ab (Lc:=be h (pz x S B K E R)::zs.map (be h)++[(e,lq M .none)]) (Z:=([S.D x.P (.ref<|B+3) ac Q i z,(B+3,aa #[a6.map ax] L),S.N (aG x.P (n::r)) y]++Gr (n::r))++((a7++_)++[(D,aD _),(M,aD _)])) (pm [[be h<|pz x S B K E R],[(e,lq M .none)],_,_,Gr (n::r),zs.map<|be h,a7++_,_] (.p (.p (.a 0)<|.p (.a 1)<|.a 2)<|.p (.p (.p (.a 3)<|.p (.a 4)<|.a 5)<|.a 6)<|.a 7) (.p (.p (.p (.a 0)<|.a 5)<|.a 1)<|.p (.p (.a 3)<|.a 4)<|.p (.a 6)<|.p (.a 7)<|.a 2) rfl) λc3 d1 s ef C o=>?_]];have c1:bg x (fz (fz bt []) []) ((pz x S B K E R::zs).map (be h)++(e,gZ (.ref 80) [.ref M,.none,.none,.none,.bool false,.none])::c3) d1 s:=by have q:=o;rw[b4]at q;rw[q]
   refine Lq C rfl (hk:=#[λU=>(nomatch(Lj B).symm.trans U),rfl,hk]) c1 λbb ck m P G=>bY (fz (fz bt []) []) ((pz x S B K E R::zs).map (be m)++[(e,lq M<|.ref bb),(bb,kX B ck)]) aV (by rw[b4,];rw[G]) ⟨[],_,.refl _,_,_,[],ab,λdx ea=>bp (pry e dx ea x) ab ab (cb<|cb T)<|vg m (B+3) L a6 ([be m<|pz x S B K E R]++((a7++[sW (B+1) S.nd,Bc<|B+4])++[(D,aD [.str #[#[Hu]]<|E+3,.ref R]),(M,aD [.str #[#[Hu]]<|E+3,.ref R])])) b0<|vg e M bb B ck rfl ?_⟩;rw[pm [[be m<|pz x S B K E R],zs.map<|be m,_,_,Gr (n::r),(a7++_)++_] (.p (.p (.p (.a 0)<|.a 1)<|.a 2)<|.p (.p (.a 3)<|.a 4)<|.a 5) (.p (.p (.p (.a 3)<|.p (.a 4)<|.a 1)<|.a 2)<|.p (.a 0)<|.a 5) rfl]
end
section
variable(K cd D G J a6 nw sz tk q b0 ca ch c0 bt bb e4 dx dV d1 da db dd eb bo bs U a8 t1 nc ea nl a7 eC ei em ep c1 c2 c3 ec eM e5 eN e6 e0 e7 e1 ev e2 ew e3 ey ed ef eg:N) (ck eh ds dt du d0 d2 d3:!N) (bl:!bv) (x:Wd) (Y eB e8:ao)
def NZ:av:=ex x aj 300 (.fn 898 #[[.ref K,.ref cd],[]])<|cf [] sz tk (H 0x52212225111221215115555) [] [(K,aa #[[ah [D,G,J] a6]] nw)] Y
def KM(x:Wd)(o b a U:N)(sz:N):Ko:=(NZ 0 0 o b a U 0 sz 0 x []).resume
def lf0:∀(x:Wd) Y,Ev (NZ K cd D G J a6 nw sz tk x Y) Y [0,1] (.pend 297 aj (.call (.builtin "str.__iter__") #[[ah [D,G,J] a6],[]])<|KM x D G J a6 sz) [(sz,az [V x.P rK tk<|.ref K,V x.P cg (tk+1)<|.ref cd] 2),((sz+1),cF)] [] [] []:=cS
def N0:av:=KM x D G J a6 sz (.ok<|.ret<|.ref q)<|cf [(sz,az [V x.P rK tk<|.ref K,V x.P cg (tk+1)<|.ref cd] 2),((sz+1),cF),(q,#[.type "str_ascii_iterator",none,.fields #[[ah [D,G,J] a6,.int 0 0]],#[[]]])] c0 bt (bif x.b2 then(H 0x5777933ae0dc0dc0dc013)else(H 0x5777933ae0dc0dc0dc03313313)) [iN b0 0,iN ca 0,iN ch 0] [(K,aa #[[ah [D,G,J] a6]] nw)] eB
def KN(x:Wd)(sz:N):Ko:=(N0 0 0 0 0 0 0 0 sz 0 0 0 0 0 0 0 x []).resume
def lf1:∀(x:Wd) c,Ev (N0 K cd D G J a6 nw sz tk q b0 ca ch c0 bt x c) c [0,1,3] (.pend 297 aj (.call (.builtin "sum") #[[.ref c0],[]])<|KN x sz) [(sz,az [V x.P rK tk<|.ref K,V x.P cg (tk+1)<|.ref cd] 2),((sz+1),cF)] [(c0,aa #[[iN b0<|bt+3,iN ca<|bt+7,iN ch<|bt+11]] 3)] [] [sD #[#[[65,66,67,68,69,70,71,72,73,74,75,76,77,78,79,80]]] #[#[[J]]] ch,sD #[#[[65,66,67,68,69,70,71,72,73,74,75,76,77,78,79,80]]] #[#[[G]]] ca,sD #[#[[65,66,67,68,69,70,71,72,73,74,75,76,77,78,79,80]]] #[#[[D]]] b0]:=bB
def lf2:∀(x:Wd) f,Ev (KN x sz (.ok<|.ret<|iN bb e4)<|cf [(sz,az [V x.P rK tk<|.ref K,V x.P cg (tk+1)<|.ref cd] 2),((sz+1),cF)] U a8 (bif x.b2 then(H 0x8f0163ae0ae0311144)else(H 0x8f066166163ae0ae0311144)) [iN dx 0,ah [da] 0,iN eb 0,iN dV 0,ah [db] 0,iN bo 0,iN d1 0,ah [dd] 0,iN bs 0] [] f) f [4,6,7,8] (.res<|.ok<|.ret<|.ref<|U+2) [] [((U+2),aa #[[.ref<|U+4,.ref<|U+5,.ref<|U+6]] 3),((U+4),aD [ah [da]<|a8+9,iN eb<|a8+12]),((U+5),aD [ah [db]<|a8+19,iN bo<|a8+22]),((U+6),aD [ah [dd]<|a8+29,iN bs<|a8+32])] [] [gm (ad bb+(0+1+1)) 16<|ad bs,iZ #[#[[65,66,67,68,69,70,71,72,73,74,75,76,77,78,79,80]]] (ad d1) #[#[[dd]]],cj (ad bb+(0+1+1)) 16<|ad d1,gm (ad bb+(0+1)) 16<|ad bo,iZ #[#[[65,66,67,68,69,70,71,72,73,74,75,76,77,78,79,80]]] (ad dV) #[#[[db]]],cj (ad bb+(0+1)) 16<|ad dV,gm (ad bb+0) 16<|ad eb,iZ #[#[[65,66,67,68,69,70,71,72,73,74,75,76,77,78,79,80]]] (ad dx) #[#[[da]]],cj (ad bb+0) 16<|ad dx]:=bB
def lin:∀(x:Wd) Y,Ev (ex x aj 300 (.fn 898 #[[.ref K,.ref cd],[]])<|cf [(cd,ak bl nc)] sz tk (H 0x41d0cf01a0180bc0bc0bc08901890890890c80170150bd0bd0bd086018608608607cf0130110110880c501c50880c501c50880c5011101108801880880880c80100ff850fff1fff850fff1fff850fff1ff9a07cf00c0cc870b00c870b00c870b008701870870870c80d88e8a608e8a608e8a60e1eee777a77171717a1aa151c0555221222a90122121411a90) [.ref ea,.ref a7,.ref bo,.ref a7,.ref bs,.ref a7,.ref ec] [(K,aa #[[ah ck a6,ah eh t1]] nw),(ea,aa #[[.ref ei,.ref em,.ref ep]] nl),(a7,aa #[[.ref c1,.ref c2,.ref c3]] eC),(ei,aD [ah ds eM,iN D e5]),(em,aD [ah dt eN,iN G e6]),(ep,aD [ah du e0,iN J e7]),(bo,aD [ah d0 e1,iN ed ev]),(bs,aD [ah d2 e2,iN ef ew]),(ec,aD [ah d3 e3,iN eg ey])] Y) Y [0,3,11,18,25] (.res<|.ok<|.ret<|.ref<|sz+2) [(cd,ak bl nc)] [((sz+2),aa #[[.ref<|sz+10,.ref<|sz+17,.ref<|sz+24]] 3),((sz+10),aD [ah (d0++ds)<|tk+14,iN ed ev]),((sz+17),aD [ah (d2++dt)<|tk+21,iN ef ew]),((sz+24),aD [ah (d3++du)<|tk+28,iN eg ey])] [] [fO #[#[d3]] #[#[du]],d9 #[[aF c1,aF c2,aF c3]] (ad J)<|aF ec,cR (aI "dict") bl #[#[ck]]<|aF a7,fO #[#[d2]] #[#[dt]],d9 #[[aF c1,aF c2,aF c3]] (ad G)<|aF bs,cR (aI "dict") bl #[#[ck]]<|aF a7,fO #[#[d0]] #[#[ds]],d9 #[[aF c1,aF c2,aF c3]] (ad D)<|aF bo,cR (aI "dict") bl #[#[ck]]<|aF a7,cR (aI "dict") bl #[#[eh]]<|aF ea]:=cS
end
abbrev De:=!N×N×af
def aB(P:eI)(l:!De):!bv:=l.map λe=>V P #[#[e.1]] e.2.1 e.2.2
def aZ{n:Type}:!(!N×n)->!N->Option n
 |[],_=>none
 |e::l,k=>if e.1=k then some e.2 else aZ l k
def D5{n:Type}:∀{l:!(!N×n)} {k},k∉l.map (·.1)->aZ l k=none:=by
 intro J;induction J with
 |nil=>intro _ _;rw[rfl]
 |cons e l C=>intro k U;rw[bW,aY,not_or]at U;rw[(if_neg λq=>U.1 q.symm).trans<|C U.2]
def jS(P l):iV (aB P l)=true:=by unfold iV aB;rw[FF,];rw[r_.mpr λU U=>rfl]
def aad:gi #[#[k]] (V P #[#[K]] t v)=decide (K=k):=by show((#[#[K]]:aA)==#[#[k]])=_;rw[qg,];simp
def lw:∀{l},d5 (aB P l) #[#[k]]=(aZ l k).map (·.2):=by
 intro J;induction J with
 |nil=>rw[rfl]
 |cons e l C=>
  show wU _ (List.find? _ (V P #[#[e.1]] e.2.1 e.2.2::aB P l))=_;rw[uJ,aad];by_cases U:e.1=k
  .rw[decide_eq_true U,];rw[(congrArg (wU (·.2))<|show aZ (e::l) k=some e.2 from if_pos U).symm]
  .rw[decide_eq_false U,];rw[C.trans (congrArg (wU (·.2))<|show aZ (e::l) k=aZ l k from if_neg U).symm]
inductive bS (F:Fs):!De->!(!N×PV)->Prop
 |nil:bS F [] []
 |cons {k:!N} {t:N} {v:af} {p:PV} {l:!De} {m:!(!N×PV)}:Rp F p v->bS F l m->bS F ((k,t,v)::l) ((k,p)::m)
def bS.to{F F':Fs}(T:Le F F'){l:!De}{m:!(!N×PV)}(h:bS F l m):bS F' l m:=by
 induction h with
 |nil=>rw[.nil]
 |cons h _ C=>rw[.cons (h.to T) C]
def bS.get{F:Fs}{l:!De}{m:!(!N×PV)}(h:bS F l m){k:!N}{p:PV}(e:aZ m k=some p):∃t v,aZ l k=some (t,v)/\Rp F p v:=by
 induction h with
 |nil=>cases e
 |@cons K t v z l m h _ C=>
  by_cases q:K=k
  .cases(if_pos q).symm.trans e;rw[ki t v (if_pos q) h]
  .rw[nZ (C<|(if_neg q).symm.trans e) λt v a b=>ki t v ((if_neg q).trans a) b]
def bS.none{F:Fs}{l:!De}{m:!(!N×PV)}(h:bS F l m){k:!N}(e:aZ m k=.none):aZ l k=.none:=by
 induction h with
 |nil=>rfl
 |@cons K D v z l m h _ C=>
  by_cases q:K=k
  .rw[nomatch(if_pos q).symm.trans e]
  .rw[(if_neg q).trans<|C<|(if_neg q).symm.trans e]
def bS.push{F:Fs}{l:!De}{m:!(!N×PV)}(h:bS F l m){k:!N}{t:N}{v:af}{p:PV}(I:Rp F p v):bS F (l++[(k,t,v)]) (m++[(k,p)]):=by
 induction h with
 |nil=>rw[.cons I .nil]
 |cons h _ C=>rw[.cons h C]
def bS.length{F:Fs}{l:!De}{m:!(!N×PV)}(h:bS F l m):l.length=m.length:=by
 induction h with
 |nil=>rfl
 |cons h _ C=>simp[C]
section
variable{x:Wd} {F:Fs} {L X:ao} {A:dX} {D s:aN} {R:aL->Fs->ao->Prop}
def bg.kept(T:bg x F L D s){h':iz}{tk:N}(hk:∀b o,s.heap.get? b=some o->h'.get? b=some o):bg x F L D {s with heap:=h',toks:=tk}:=(T.move (λa o K U=>hk a o U) (λp I=>hk _ _<|T.rep.led p I) T.rep.nd λp I=>.inl<|bw I).tok
abbrev AI(q:N)(l:!N)(t i:N):aH×Obj:=(q,#[.type "str_ascii_iterator",none,.fields #[[.str #[#[l]] t,.int (i:Int) 0]],#[[]]])
def Yn(T:bg x F X D s)(a:∀c∈l,c<128)(f:∀q,R (.ok<|.ret<|.ref q) F [AI q l t 0]):fi (aE pw x.W) A (.call (.builtin "str.__iter__") ⟨[.str ⟨⟨l⟩⟩ t],[]⟩) (λr P=>∃F' L',Le F F'/\bg x F' (L'++X) D P/\R r F' L') s:=by
 rw[gN (lA (E:=λK K=>False) (Q:=λv P=>v=.ref s.heap.objs.size/\P={s with heap:=s.heap.push (AI 0 l t 0).2})<|zg PySem.F.slot_str_iter rfl PySem.F.entry_str_iter ?_<|PySem.F.args_str_iter_1 _) λr P U=>?_]
 .have e:((#[#[l]]:aA).cps.all (·<128))=true:=by rw[Array.all_eq_true',];intro c d;rw[decide_eq_true (a c<|by simpa using d)]
  show ej _ _ (do gx (<-newFields (if true&&(#[#[l]]:aA).cps.all (·<128)then"str_ascii_iterator"else"str_iterator") _)) _ _ s;rw[e,];rw[aT<|zj<|bK<|eo _ rfl rfl rfl]
 .split at U
  .obtain⟨rfl,rfl⟩:=U
   rw[bY F _ aV (T.new (h':=s.heap) (aV) rfl)<|f _]
  .rw[U.elim]
  .rw[U.elim]
def aqQ(l:!(N×N)):(l.map λp=>ad p.1).sum=ad (l.map (·.1)).sum:=by
 induction l with
 |nil=>rfl
 |cons p l C=>rw[bW,lg,C];rfl
abbrev aO(p:N×N):af:=.int (ad p.1) p.2
def Bx{l:!(N×N)}(J:A.handled=.none)(T:bg x F X D s)(I:F p (aa #[l.map aO] n))(f:∀t,R (.ok<|.ret<|.int (ad (l.map (·.1)).sum) t) F []):fi (aE pw x.W) A (.call (.builtin "sum") ⟨[.ref p],[]⟩) (λr P=>∃F' L',Le F F'/\bg x F' (L'++X) D P/\R r F' L') s:=by
 have g:s.heap.IsList p (vh #[l.map λp=>(ad p.1,p.2)]):=eo _ (T.rep.fr _ _ I) rfl #[n,by simp only[aa,vh];congr 1;rw[h_<|by simp[aO]]]
 rw[gN (lA (E:=λG G=>False) (Q:=λv P=>∃S K t,(∀b Y,s.heap.get? b=some Y->S.get? b=some Y)/\P={s with heap:=S,toks:=K}/\v=.int (ad (l.map (·.1)).sum) t)<|sum_intListG J g λS K k c=>gE S K k c rfl ?_) λr P U=>?_]
 .rw[preSum_eq,]
  congr 1;rw[qz<|by simp,];rw[bI,];rw[aqQ l]
 .split at U
  .rw[gX U λS K t c H C=>?_]
   subst H;subst C;rw[bY F [] aV (T.kept c)<|f _]
  .rw[U.elim]
  .rw[U.elim]
end
abbrev jw:=List<|List N×N
def nR(c:jw):PV:=.lst<|c.map λy=>.tup [.str y.1,.int<|ad y.2]
inductive uT (L:ao) (c:jw) (F':Fs):aL->ao->Prop
 |mk (a) (h:Rp F' (nR c) (.ref a)):uT L c F' (.ok (.ret (.ref a))) L
def vq(t:N):jw:=[([65+t%16],t/16),([65+(t+1)%16],(t+1)/16),([65+(t+2)%16],(t+2)/16)]
def xR(R up:jw):jw:=R.map λy=>((up.getD y.2 ([],0)).1++y.1,(up.getD y.2 ([],0)).2)
abbrev al:!N:=[65,66,67,68,69,70,71,72,73,74,75,76,77,78,79,80]
def Ub:∀i,i<16->zv #[#[al]] #[#[[65+i]]] 0 16 1=[i]:=by decide+kernel
def Ua:∀i,i<16->al[i]? =some (65+i):=by decide+kernel
def D_(h:i<16):sD #[#[al]] #[#[[65+i]]] i:=#[[],Ub i h]
def DY(h:i<16):iZ #[#[al]] (ad i) #[#[[65+i]]]:=yz (Ua i h)<|aga h
def Ey(h:F a (aa #[[.ref D,.ref J,.ref K]] n))(L:F D (aD [.str #[#[bb]] U,.int (ad a6) bs]))(b:F J (aD [.str #[#[bl]] t1,.int (ad a7) bt]))(M:F K (aD [.str #[#[bo]] G,.int (ad a8) b0])):Rp F (nR [(bb,a6),(bl,a7),(bo,a8)]) (.ref a):=dW.mpr<|gE a _ n rfl h<|.cons (jO.mpr<|bY D _ rfl L<|.cons (c9.mpr #[U,rfl])<|.cons (dT.mpr #[bs,rfl]) .nil)<|.cons (jO.mpr<|bY J _ rfl b<|.cons (c9.mpr #[t1,rfl])<|.cons (dT.mpr #[bt,rfl]) .nil)<|.cons (jO.mpr<|bY K _ rfl M<|.cons (c9.mpr #[G,rfl])<|.cons (dT.mpr #[b0,rfl]) .nil) .nil
structure Cl (F:Fs) (a:N) (c:jw) (p:N->N) (t u:N->N) (n:N):Prop where
 l:F a (aa #[[.ref (p 0),.ref (p 1),.ref (p 2)]] n)
 at_:∀i y,c[i]? =some y->F (p i) (aD [.str #[#[y.1]] (t i),.int (ad y.2) (u i)])
def AN(h:Rp F (nR [D,a6,J]) v):∃a p t u n,v=.ref a/\Cl F a [D,a6,J] p t u n:=by
 rw[gX (dW.mp h) λa Q n j q M=>?_];subst j;obtain⟨l,E,rfl,O,M⟩:=cq.mp M;obtain⟨o,E,rfl,w,M⟩:=cq.mp M;obtain⟨s,E,rfl,L,M⟩:=cq.mp M;obtain rfl:=eu.mp M;have b:∀{y:!N×N} {v:af},Rp F (.tup _) v->∃p t u,v=.ref p/\F p (aD [.str #[#[y.1]] t,.int (ad y.2) u]):=λh=>by rw[cp (jO.mp h) λp Q P q M=>?_];subst P;obtain⟨k,E,rfl,K,M⟩:=cq.mp M;obtain⟨m,E,rfl,H,M⟩:=cq.mp M;obtain rfl:=eu.mp M;obtain⟨t,rfl⟩:=c9.mp K;obtain⟨u,rfl⟩:=dT.mp H;rw[ve p t u rfl q]
 rw[jg (b O) λc U d j g=>?_];subst j;rw[jg (b w) λS Y A j W=>?_];subst j;rw[jg (b L) λr G X j f=>?_];subst j;refine vg a (λi=>match i with|0=>c|1=>S|_=>r) (λi=>match i with|0=>U|1=>Y|_=>G) (λi=>match i with|0=>d|1=>A|_=>X) n rfl #[q,λi y e=>?_]
 match i,e with
 |0,e=>cases e;rw[g]
 |1,e=>cases e;rw[W]
 |2,e=>cases e;rw[f]
 |_+3,e=>cases e
section
variable{x:Wd} {F:Fs}
abbrev Ik(x:Wd)(n cd z t:N):aH×Obj:=(z,az [V x.P rK t<|.ref n,V x.P cg (t+1)<|.ref cd] 2)
abbrev G9(z:N):aH×Obj:=(z+1,#[.type "cell",none,.cell none,#[[]]])
def ari(g:a6<16)(M:a7<16)(X:a8<16)(Y:F bb (aa #[[.str #[#[[65+a6,65+a7,65+a8]]] U]] nw)):ay x aj 300 (.call (.ref 898) #[[.ref bb,.ref cd],[]]) F [] (uT []<|vq<|a6+a7+a8):=by refine fv (O:=[(bb,aa #[_] nw)]) #[Y,ab] λB K=>jh (Lc:=[]) (lf0 bb cd (65+a6) (65+a7) (65+a8) U nw B K x) ab ab (.refl _) λw h s A C o=>Yn o (by intro Z d;simp at d;rw[agb g M X d]) λq=>#[_,[],pm [[AI q _ U 0],[Ik x bb cd B K,G9 B]] (.p (.a 0)<|.p (.a 1) .z) (.p (.p (.a 1)<|.a 0) .z) rfl,_,_,[(bb,aa ⟨_⟩ nw)],⟨an _ _ Y,ab⟩,λJ G=>jh (Lc:=[]) (lf1 bb cd (65+a6) (65+a7) (65+a8) U nw B K q a6 a7 a8 J G x) ab #[D_ X,D_ M,D_ g,ab] (.refl _) λj i k f c b=>Bx (l:=[(a6,G+3),(a7,G+7),(a8,G+11)]) c.2.1 b (bc<|.head _) λW=>?_];have e:([(a6,G+3),(a7,G+7),(a8,G+11)].map (·.1)).sum=a6+a7+a8:=agc;simp only[e];rw[#[[Ik x bb cd B K,G9 B],[],.refl _,_,_,[],ab,λD E=>bp (lf2 bb cd B K (a6+a7+a8) W ((a6+a7+a8)%16) ((a6+a7+a8+1)%16) ((a6+a7+a8+2)%16) (65+(a6+a7+a8)%16) (65+(a6+a7+a8+1)%16) (65+(a6+a7+a8+2)%16) ((a6+a7+a8)/16) ((a6+a7+a8+1)/16) ((a6+a7+a8+2)/16) D E x) ab #[mL ζ ζ rfl,DY<|bq _<|ζ,fZ ζ rfl,mL ζ ζ rfl,DY<|bq _<|ζ,fZ ζ rfl,mL ζ ζ rfl,DY<|bq _<|ζ,fZ ζ rfl,ab] (cb an) #[D+2,?_]]];rw[Ey (bc<|.head _) (bc<|.tail _<|.head _) (bc<|.tail _<|.tail _<|.head _)<|bc<|.tail _<|.tail _<|.tail _<|.head _]
def BV{p:N->N}(h:c<3):d9 (ar [aF<|p 0,aF<|p 1,aF<|p 2]) (ad c) (.ref<|p c):=by rw[gw ?_<|ali h];rw[oq c h rfl λh=>oq c h rfl λh=>oq c h rfl λh=>nomatch h]
def ZL{up:jw}(g:up.length=3)(h:c<3):up[c]? =some (up.getD c ([],0)):=by rw[ic,eH<|agd g h];rfl
def arj(Y:F bb (aa #[[.str #[#[G]] U,.str #[#[bl]] t1]] nw))(t:bS F a8 m)(bo:aZ m bl=some (nR [a6,J,a7]))(g:aZ m G=some (nR up))(X:up.length=3)(h:∀y∈[a6,J,a7],y.2<3/\y.1≠[]/\y.1.length<=100)(h':∀z∈up,z.1≠[]/\z.1.length<=100):ay x aj 300 (.call (.ref 898) #[[.ref bb,.ref cd],[]]) F [(cd,ak (aB x.P a8) nc)] (uT [(cd,ak (aB x.P a8) nc)]<|xR [a6,J,a7] up):=by
 rw[nZ (t.get bo) λca ck E bt=>nZ (t.get g) λch c0 r b0=>?_];rw[Bt (H5 X) λc L a R=>?_];subst R;rw[n_ (AN bt) λM p Q A s C I=>?_];subst C;rw[n_ (AN b0) λj q l D P C u=>?_];subst C;have o:d5 (aB x.P a8) #[#[G]]=some (.ref j):=by simp only[lw,r];rfl
 have k:=h a6<|.head _;have d:=h J<|.tail _<|.head _;have S:=h a7<|.tail _<|.tail _<|.head _;have n:∀y:!N×N,y.2<3->F (q y.2) (aD _)/\([c,L,a].getD y.2 ([],0)).1≠[]/\([c,L,a].getD y.2 ([],0)).1.length<=100:=λy b=>by have e:=ZL (up:=[c,L,a]) rfl b;rw[#[u.at_ _ _ e,h' _<|uK e]]
 rw[en (n a6 k.1) λW w H=>en (n J d.1) λf ac bs=>en (n a7 S.1) λZ i T=>?_];rw[fv (O:=[(bb,aa #[_] nw),(M,aa #[_] s),(j,aa #[_] P),(p 0,_),(p 1,_),(p 2,_),(q a6.2,_),(q J.2,_),(q a7.2,_)]) #[Y,I.l,u.l,I.at_ 0 a6 rfl,I.at_ 1 J rfl,I.at_ 2 a7 rfl,W,f,Z,ab] λB K=>bp (lin bb cd a6.2 J.2 a7.2 U nw B K (q a6.2) (q J.2) t1 nc M s j P (p 0) (p 1) (p 2) (q 0) (q 1) (q 2) (q a7.2) (Q 0) (A 0) (Q 1) (A 1) (Q 2) (A 2) (l a6.2) (D a6.2) (l J.2) (D J.2) (l a7.2) (D a7.2) ([c,L,a].getD a6.2 ([],0)).2 ([c,L,a].getD J.2 ([],0)).2 ([c,L,a].getD a7.2 ([],0)).2 G bl a6.1 J.1 a7.1 ([c,L,a].getD a6.2 ([],0)).1 ([c,L,a].getD J.2 ([],0)).1 ([c,L,a].getD a7.2 ([],0)).1 (aB x.P a8) x) ab #[jk i S.2.1<|bT (oU T S.2.2)<|ζ,BV S.1,#[dM,jS _ _,o],jk ac d.2.1<|bT (oU bs d.2.2)<|ζ,BV d.1,#[dM,jS _ _,o],jk w k.2.1<|bT (oU H k.2.2)<|ζ,BV k.1,#[dM,jS _ _,o],#[dM,jS _ _,(by simp only[lw,E];rfl)],ab] (aV) #[B+2,?_]]
 rw[Ey (bc<|.head _) (bc<|.tail _<|.head _) (bc<|.tail _<|.tail _<|.head _)<|bc<|.tail _<|.tail _<|.tail _<|.head _]
end
abbrev jT(l:!N):aA:=#[#[l]]
abbrev oG(l:!(!N)):Prop:=PyProof.Rows.sortedS (l.map jT)=true
def aqM:∀(rs:!(!N×N)),Gx (rs.map ax) ((rs.map (·.1)).map jT):=by
 intro J;induction J with
 |nil=>rw[.nil]
 |cons y rs C=>rw[.cons _ _<|C]
def aqN(h:Gx vs ss):∃rs:!(!N×N),vs=rs.map ax/\ss=(rs.map (·.1)).map jT:=by
 induction h with
 |nil=>rw[bA [] rfl rfl]
 |cons y D _ C=>obtain⟨rs,rfl,rfl⟩:=C;rw[bA ((y.cps.toList,D)::rs) rfl rfl]
section
variable{x:Wd} {F:Fs} {L X:ao} {A:dX} {D s:aN} {R:aL->Fs->ao->Prop}
def aqK:∀{l m:!(!N)},(l.map jT).Perm (m.map jT)->l.Perm m:=λU=>by have:=U.map (λs:aA=>s.cps.toList);simp only[bI,bI,show((λs:aA=>s.cps.toList)∘jT)=id from rfl,sf,sf]at this;rw[this]
def H3{rs:!(!N×N)}(T:bg x F X D s)(y:s.heap.get? q=some o)(ac:C="list"\/C="tuple")(d:o.cls=.type C)(t:o.data=.seq #[rs.map ax] n)(Z:rs.length<64)(f:∀(a e:N) (Y:!(!N×N)),(Y.map (·.1)).Perm (rs.map (·.1))->oG (Y.map (·.1))->R (.ok<|.ret<|.ref a) F [(a,aa ⟨Y.map ax⟩ e)]):fi (aE pw x.W) A (.call (.builtin "sorted") ⟨[.ref q],[]⟩) (λr P=>∃F' L',Le F F'/\bg x F' (L'++X) D P/\R r F' L') s:=by
 have O:=aqM rs;rw[gN (lA (E:=λ_ _=>False) (Q:=λv P=>∃F' L',Le F F'/\bg x F' (L'++X) D P/\R (.ok<|.ret v) F' L')<|Calls.call_function_entry PyProof.Rows.kind_sorted PyProof.Rows.plain_sorted PyProof.Rows.entry_sorted (PyProof.Rows.args_sorted1 _) ?_) λr P U=>?_]
 .unfold Builtin.«sorted»
  refine aT (bK<|aT<|wpAny_collect_seq q ac y d t (λS c=>(aT<|wpAny_newList ?_)) (by show(rs.map ax).length<=16777216;rw[aU,];rw[ajX Z]));have k:(S.push<|Ad "list" (rs.map ax).toArray 0).get? S.objs.size=some (Ad "list" (rs.map ax).toArray 0):=r5 _ rfl;refine aT (iy<|zg PyProof.Rows.slot_list_sort (s:={s with heap:=S.push<|Ad "list" (rs.map ax).toArray 0}) (bA _ k rfl) PyProof.Rows.entry_list_sort (PyProof.Rows.list_sort_treeK PyProof.Rows.strKind_oneLt k O.keysOf (λB J a8 e=>PyProof.Rows.keyKind_strs<|e▸O) (by rw[aU,];rw[Z]) λz I a6=>bA _ rfl<|kK (PyProof.Rows.sorted_out_str O I a6) λu w L i=>aJ (aqN w) λY K a7=>?_)<|PyProof.Rows.args_list_sort _);subst a7;rw[dq (PyProof.Rows.sortedHeap_at (out:=(TF z).map (·.2)) k) λl W=>?_];have M:=h_ K;rw[M]at W;rw[bK<|bA _ rfl<|bY F _ aV ?_<|f _ l Y (aqK L) i];have m:∀b h,s.heap.get? b=some h->(PyProof.Rows.sortedHeap (S.push<|Ad "list" (rs.map ax).toArray 0) S.objs.size (rs.map ax)<|(TF z).map (·.2)).get? b=some h:=λb h j=>by have G:=iJ<|c b h j;rw[PyProof.Rows.sortedHeap_old (ll G) (by rw[zD,];rw[zR G]),];rw[k_ _<|c b h j]
  rw[T.move (λb h _ U=>m b h U) (λp I=>?_) ?_ λp I=>?_]
  .rw[(aY.mp I).elim (λg=>?_) λI=>?_]
   .subst g
    rw[M,];rw[W]
   .rw[m _ _<|T.rep.led p I]
  .show((S.objs.size::X.map (·.1))).Nodup
   rw[c_,];rw[⟨λH=>(aJ (bn.mp H) λp I e=>absurd e<|ll<|iJ<|c _ _<|T.rep.led p I),T.rep.nd⟩]
  .rcases aY.mp I with rfl|I
   .rw[.inr ?_]
    cases e:s.heap.get? S.objs.size with
    |none=>rfl
    |some h=>rw[absurd (iJ<|c _ _ e)<|nA _]
   .rw[.inl<|bw I]
 .split at U
  .rw[U]
  .rw[U.elim]
  .rw[U.elim]
end
section
variable{x:Wd} {F:Fs} {L X:ao} {A:dX} {D s:aN} {R:aL->Fs->ao->Prop}
def asw(y:s.heap.get? d=some (ak es n))(a:iV es=true)(w:d5 es k=.none)(hz:es.length<=9000)(h:∀h',Heap.SameBut d s.heap h'->h'.get? d=some (ak (es++[V x.P k t v])<|n+1)->Q () {s with heap:=h',toks:=s.toks+1}):ej (aE pw x.W) A (dictSet d (.str k t) v) Q E s:=by refine iy (aT<|zl<|iy<|aT<|wC y rfl a<|(Bp w)▸(aT<|oJ<|Sc (hz:=by rw[ry hz]) y rfl<|h _ (SA ..) ?_));rw[qj _ y rfl,];congr 1;simp[Gn,ak,V,hashStr,Mine.hs];rfl
abbrev oy(p:N×De):af:=.ref p.1
inductive GL (x:Wd) (d:N) (es:!De) (F':Fs):aL->ao->Prop
 |mk (n):GL x d es F' (.ok (.ret .none)) [(d,ak (aB x.P es) n)]
def RU(J:a6.v=.none):∀{ps:!(N×De)} {es n i Q F},Q.cls=.type "list_iterator"->Q.data=.fields (List.toArray [.ref l,.int (ps.length:Int) 0])->F l (aa #[(ps++rest).map oy] nl)->(∀p∈rest,F p.1<|aD [ax (p.2.1,p.2.2.1),p.2.2.2])->(es++rest.map (·.2)).length<=9000->((es++rest.map (·.2)).map (·.1)).Nodup->ay x a6 b (.builtin "dict.update.loop" #[[.ref d,.ref it,.int (i:Int) 0,.none],[]]) F [(it,Q),(d,ak (aB x.P es) n)] (GL x d<|es++rest.map (·.2)):=by
 induction rest with
 |nil=>intro ps es n i Q F ac a7 t I Z k w B s A C H;have O:=H.rep.led;refine AU (b:=Builtin.«dict.update.loop») (cB<|by lk) (aT<|wpAny_pyNext_list_end (C.2.1.trans J) (eo _ (O _<|.head _) ac a7) (eo _ (H.rep.fr _ _ t) rfl ⟨nl,rfl⟩) (by simp) λS c=>(aT<|bK<|bK<|bY F _ aV ?_ (by rw[sg,bQ];rw[#[n]])));have g:=H.rep.nd;have bb:(it::d::w.map (·.1)).Nodup:=g;rw[c_]at bb;rw[(H.sub (L':=(d,ak (aB x.P es) n)::w)<|Te _ _).move (λa Y W U=>c a Y (λe=>?_) U) (λp I=>c _ _ (λe=>bb.1<|e▸bw I)<|O p<|.tail _ I) bb.2 λp I=>.inl<|bw I];cases e;rw[H.rep.dj _ (.head _) Y W]
 |cons p rest c2=>
  intro ps es n i Q F ac a7 t I Z k w B s A C H;have O:=H.rep.led;have bt:=I p<|.head _;obtain⟨z,j,D,v⟩:=p;have g:(it::d::w.map (·.1)).Nodup:=H.rep.nd;have bl:=c_.mp g;have bs:d≠it:=λe=>bl.1<|e▸.head _;have bo:∀a Y,F a Y->a≠it:=λa Y U e=>by subst e;rw[H.rep.dj _ (.head _) Y U]
  have f:∀a Y,F a Y->a≠d:=λa Y U e=>by subst e;rw[H.rep.dj _ (.tail _<|.head _) Y U]
  refine AU (b:=Builtin.«dict.update.loop») (cB<|by lk) (aT<|wpAny_pyNext_list_item (x:=.ref z) (eo _ (O _<|.head _) ac a7) (eo _ (H.rep.fr _ _ t) rfl ⟨nl,rfl⟩) (by simp) λS c1 R=>(aT<|iy ?_));have b0:=(R.2 z<|bo _ _ bt).trans<|H.rep.fr _ _ bt;rw[aT<|wpAny_tryCatch<|aT<|oK (bA _ b0 rfl)<|aT<|zm b0 rfl<|bK ?_];have E:=(R.2 d bs).trans<|O _<|.tail _<|.head _;have c:d5 (aB x.P es) #[#[j]]=.none:=by
   rw[lw,];have:=λU=>by rw[bf,j3]at k;rw[k.2.2 j U j (.head _) rfl]
   rw[(D5 this)▸?_];rfl
  refine iy (asw E (jS _ _) c (by unfold aB;rw[aU,];simp at Z;rw[Do Z]) λM a8 L=>?_);have K:aB x.P es++[V x.P #[#[j]] D v]=aB x.P (es++[(j,D,v)]):=by unfold aB;rw[bf▸?_];rfl
  rw[K]at L;have m:(ps++(z,j,D,v)::rest)=(ps++[(z,j,D,v)])++rest:=by simp
  have c3:(ps++[(z,j,D,v)]).length=ps.length+1:=by simp
  rw[kK c1 λca c0 o ck=>?_];have G:bg x F ([(it,ca),(d,ak (aB x.P<|es++[(j,D,v)])<|n+1)]++w) B {s with heap:=M,toks:=s.toks+1}:=by
   rw[(H.move (L':=[(it,ca),(d,ak (aB x.P<|es++[(j,D,v)])<|n+1)]++w) (h':=M) (λa Y W U=>(a8.2 a<|f a Y W).trans<|(R.2 a<|bo a Y W).trans U) (λq u=>?_) g λq u=>?_).tok]
   .rcases aY.mp u with rfl|u
    .rw[(a8.2 _ bs.symm).trans c0]
    .rcases aY.mp u with rfl|u
     .rw[L]
     .rw[(a8.2 _<|(λq u e=>(c_.mp bl.2).1 (e▸bw u):∀q∈w,q.1≠d) q u).trans<|(R.2 _<|(λq u e=>bl.1 (.tail _<|e▸bw u):∀q∈w,q.1≠it) q u).trans<|O q<|.tail _<|.tail _ u]
   .rcases aY.mp u with rfl|u
    .rw[.inl<|.head _]
    .rcases aY.mp u with rfl|u
     .rw[.inl<|.tail _<|.head _]
     .rw[.inl<|.tail _<|.tail _<|bw u]
  rw[bK ⟨Pd (by decide+kernel) _,(jE (c2 o (c3▸ck) (m▸t) (λp U=>I p<|.tail _ U) (by simpa using Z) (by simpa using k) w B _ A C G) λr P y=>cp y λT h ch M X=>bY T h ch M (by rw[show es++((z,j,D,v)::rest).map (·.2)=es++[(j,D,v)]++rest.map (·.2) by simp,];rw[X]))⟩]
end
abbrev wi(nx:af)(z:N)(M:!af):Obj:=#[.type "traceback",none,.fields #[nx::.ref z::.none::.none::.none::M],#[[]]]
def afd{z:Fr}{n v3 v4 v5:af}{Q:af->aN->Prop}(C:fL b bb A)(h:bb.fs=some (a6::a8))(hk:iX (a6::a8) (z::zs))(S:bg x F ((z::zs).map (be u)++(e,gZ cls [a7,bo,n,v3,v4,v5])::X) bl s)(k:∀T M m c,bg x F ((z::zs).map (be m)++(e,gZ cls [a7,.ref T,n,v3,v4,v5])::(T,wi nx z.a M)::X) bl c->Q .none c):ej (aE pw x.W) A (do setField (.ref e) 1 (<-EntryCells.newEntry nx (<-frameOf a6) .none (iq z.a) .none (<-entryPlaceOf z.a bs))) (λ_ c=>ej (aE pw x.W) A (setFlight (.ref e) none) (λ_ c=>ej (aE pw x.W) A (.pure .none) Q E c) E c) E s:=by
 have j:∀a,{s.heap with objs:=(List.toArray [])}.get? a=none:=λa=>rfl;rw[ct (BR j hk λf R=>S.rep.led _<|ga _<|bw R) λck H=>?_];have t:=S.rep.led _<|dY _<|.head _;rw[aT<|wpAny_frameOf_fun (C.2.2.2 _ h) ck hk.2.1 λg K=>(aT<|wpAny_entryPlaceOf λM da=>(aT<|zj ?_<|da.sizeOk5 _ _ _ _ _))];have c4:e∉(a6::a8).filterMap (·.frame):=λU=>by rw[ct (ck.mem U) λ_ db=>aJ db λY y c5=>?_];simp only[t]at y;injection y with y;subst y;rw[c5 _ rfl]
 have b0:g.get? e=some (gZ cls _):=(K.2.1 e c4).trans t;generalize dd:(if M.isEmpty then wN 6 i9 else M)=pl';have ca:=k_ {cls:=.type "traceback",dict:=none,data:=.fields ([nx,.ref z.a,.none,iq z.a,.none]++pl').toArray} b0;refine qd ca rfl (show 1<6 by decide) ?_;have ac:=kB<|iJ b0;have ch:=qj (iY (·.setIfInBounds 1 (aF g.objs.size))) ca rfl;have bt:=(oN (g.push {cls:=.type "traceback",dict:=none,data:=.fields ([nx,.ref z.a,.none,iq z.a,.none]++pl').toArray}) (iY (·.setIfInBounds 1 (aF g.objs.size)))<|uO ac).trans<|r5 g rfl;rw[aT<|jv (x:=.ref g.objs.size) ch rfl rfl ?_];dsimp only[if_pos<|show(aF g.objs.size !=i9)=true from by simp];refine qd bt rfl (by simp) ?_;have B:∀b Y,b≠e->g.get? b=some Y->(((g.push {cls:=.type "traceback",dict:=none,data:=.fields ([nx,.ref z.a,.none,iq z.a,.none]++pl').toArray}).update e<|iY (·.setIfInBounds 1 (aF g.objs.size))).update g.objs.size <|iY (·.setIfInBounds 3 ((none:Option aH).elim i9 λf=>iq f))).get? b=some Y:=λb Y c3 j=>by rw[oN _ _<|kB<|iJ j,oN _ _<|uO c3];rw[k_ _ j]
 have c2:∀f∈z::zs,g.get? f.a=some (bi f.es f.n<|((g.get? f.a).map (·.slots)).getD (List.toArray [])):=λf R=>by have L:=S.rep.led _<|ga _<|bw R;rw[dq (K.2.2 f.a _ L) λsl c1=>c1▸?_];rfl
 have c0:∀b Y,b∉(z::zs).map (·.a)->s.heap.get? b=some Y->g.get? b=some Y:=λb Y j U=>(K.2.1 b<|H▸j).trans U;have r:∀v:N->Array (Option af),((z::zs).map<|be v).map (·.1)=(z::zs).map (·.a):=λv=>by rw[bI,];rfl
 have i:((z::zs).map (·.a)++e::X.map (·.1)).Nodup:=by
  have q:((z::zs).map (be u)++(e,gZ cls [a7,bo,n,v3,v4,v5])::X).map (·.1)=(z::zs).map (·.a)++e::X.map (·.1):=by rw[bf,r];rfl
  simp only[<-q];rw[S.rep.nd]
 simp only[j3]at i;rw[en i λl J D=>?_];rw[c_]at J;have w:∀a Y,s.heap.get? a=some Y->a≠g.objs.size:=λa Y U=>K.1.symm▸ll (iJ U);rw[bK<|k g.objs.size pl' (λa=>((g.get? a).map (·.slots)).getD (List.toArray [])) _<|S.move ?_ ?_ ?_ ?_]
 .intro a Y W U
  rw[B a Y (λq=>?_)<|c0 a Y (λG=>?_) U]
  .subst q;rw[S.rep.dj _ (dY _<|.head _) Y W]
  .rw[aJ (bn.mp G) λf R P=>?_]
   subst P;rw[S.rep.dj _ (ga _<|bw R) Y W]
 .intro p I
  rcases ek.mp I with I|I
  .rw[aJ (bn.mp I) λf R P=>?_]
   subst P;rw[B f.a _ (D f.a (bw R) e<|.head _)<|c2 f R]
  .rw[(aY.mp I).elim (λO=>?_) λI=>?_]
   .subst O
    rw[oN _ _ ac,];rw[ch]
   .rw[(aY.mp I).elim (λO=>?_) λI=>?_]
    .subst O
     rw[qj _ bt rfl]
    .have L:=S.rep.led p<|dY _<|.tail _ I
     rw[B p.1 _ (λq=>J.1<|q▸bw I)<|c0 _ _ (λG=>D _ G p.1 (.tail _<|bw I) rfl) L]
 .simp only[bf,r]
  simp only[j3];rw[⟨l,c_.mpr ⟨λU=>?_,c_.mpr #[λU=>?_,J.2]⟩,λa o Z d=>?_⟩]
  .rcases aY.mp U with U|U
   .rw[w _ _ t U]
   .rw[J.1 U]
  .rw[aJ (bn.mp U) λp I q=>w _ _ (S.rep.led p<|dY _<|.tail _ I) q]
  .rcases aY.mp d with rfl|d
   .rw[D a o _<|.head _]
   .rcases aY.mp d with rfl|d
    .rw[aJ (bn.mp o) λf R P=>?_]
     subst P;rw[w _ _<|S.rep.led _<|ga _<|bw R]
    .rw[D a o Z<|.tail _ d]
 .intro p I
  rcases ek.mp I with I|I
  .rw[aJ (bn.mp I) λf R P=>?_]
   subst P;rw[.inl<|bn.mpr #[be u f,ga _<|bw R,rfl]]
  .rcases aY.mp I with rfl|I
   .rw[.inl<|bn.mpr #[_,dY _<|.head _,rfl]]
   .rcases aY.mp I with rfl|I
    .rw[.inr ?_]
     cases q:s.heap.get? g.objs.size with
     |none=>rfl
     |some Y=>rw[absurd rfl<|w _ _ q]
    .rw[.inl<|bn.mpr #[p,dY _<|.tail _ I,rfl]]
def afc{z:Fr}{n v3 v4 v5:af}(C:fL b bb A)(h:bb.fs=some (K::bl))(hk:iX (K::bl) (z::zs))(S:bg x F ((z::zs).map (be u)++(e,gZ cls [J,.ref D,n,v3,v4,v5])::(D,kX a8 a6)::X) a7 s)(k:∀T M m P,bg x F ((z::zs).map (be m)++(e,gZ cls [J,.ref T,n,v3,v4,v5])::(T,wi (.ref D) z.a M)::(D,kX a8 a6)::X) a7 P->Q .none P):ej (aE pw x.W) A (rt K<|.ref e) Q E s:=by
 have c:=S.rep.led _<|dY _<|.tail _<|.head _;rw[aT ?_];unfold x8 uc;refine hk.2.1▸(aT<|aT<|jv (x:=.ref D) (S.rep.led _<|dY _<|.head _) rfl rfl<|aT<|jv (x:=.none) c rfl rfl<|aT<|qd c rfl (by simp) ?_);have G:bg x F ((z::zs).map (be u)++(e,gZ cls [J,.ref D,n,v3,v4,v5])::(D,kX a8 a6)::X) a7 {s with heap:=s.heap.update D<|iY (·.setIfInBounds 3 .none)}:=by
  have i:∀a Y,s.heap.get? a=some Y->(s.heap.update D<|iY (·.setIfInBounds 3 i9)).get? a=some Y:=λa Y U=>by
   by_cases q:a=D
   .cases q
    rw[c]at U;injection U with U;subst U;rw[(qj (iY (·.setIfInBounds 3 i9)) c rfl)]
   .rw[oN _ _<|uO q,];rw[U]
  rw[S.move (λa Y _ U=>i a Y U) (λp I=>i _ _<|S.rep.led p I) S.rep.nd λp I=>.inl<|bw I]
 rw[ux (afd C h hk G k) (λ_ _ U=>ux U (λ_ _ U=>U) λ_ _ U=>U) λ_ _ U=>U]
section
variable{x:Wd} {F:Fs} {L X:ao} {A:dX} {D s:aN} {R:aL->Fs->ao->Prop} {G:Mk} {b:N} {Q:Po}
abbrev pM(m c d:N):aH×Obj:=(m,#[.type "method",none,.fields #[[.ref c,.ref d]],#[[]]])
def RD(g:ay x G b (.call (.ref J) #[.ref K::U,[]]) F L Q):ay x G b (.call (.ref m) #[U,[]]) F ([pM m J K]++L) Q:=λw B s A C H=>by rw[codeAny_of_tree<|aT<|wpAny_load (H.rep.led _<|.head _)<|bK #[rfl,(jE (g _ B s A C (H.perm<|pm [[pM m J K],L,w] (.p (.p (.a 0)<|.a 1)<|.a 2) (.p (.a 1)<|.p (.a 0)<|.a 2) rfl:bg x F (L++(pM m J K::w)) B s)) λr P y=>cp y λT h l W q=>bY T h l (W.sub<|(List.Sublist.refl h).append<|Te _ _) q)]]
def Rv{n:Type}(p:n->Bool):∀(l:!n),l.drop (l.takeWhile p).length=l.dropWhile p:=by
 intro J;induction J with
 |nil=>rw[rfl]
 |cons a l C=>
  by_cases U:p a=true
  .rw[Tf,if_pos U,SW,if_pos U]
   rw[C]
  .rw[Tf,if_neg U,SW,if_neg U];rfl
def Yi(T:bg x F X D s)(b:l.length<=9000)(f:∀k,R (.ok<|.ret (.str ⟨⟨l.dropWhile (·==65)⟩⟩ k)) F []):fi (aE pw x.W) A (.call (.builtin "str.lstrip") ⟨[.str ⟨⟨l⟩⟩ t,.str ⟨⟨[65]⟩⟩ u],[]⟩) (λr P=>∃F' L',Le F F'/\bg x F' (L'++X) D P/\R r F' L') s:=by
 have d:((#[#[[65]]]:aA).cps.contains)=(·==65):=by funext Z;rw[qg,];simp
 have K:PySem.stripLo (#[#[[65]]]:aA).cps.contains true #[#[l]]=(l.takeWhile (·==65)).length:=by rw[d▸?_];rfl
 rw[gN (lA (E:=λJ J=>False) (Q:=λv P=>∃F' L',Le F F'/\bg x F' (L'++X) D P/\R (.ok<|.ret v) F' L')<|call_gives PySem.F.slot_str_lstrip rfl PySem.F.entry_str_lstrip (PySem.F.args_str_lstrip_2 _ _) (gives_str_lstrip_chars ⟨⟨l⟩⟩ ⟨⟨[65]⟩⟩ t u) ?_) λr P U=>?_]
 .by_cases U:PySem.stripSame (#[#[[65]]]:aA).cps.contains true false #[#[l]]=true
  .rw[if_pos U,]
   have L:(l.takeWhile (·==65)).length=0:=by unfold PySem.stripSame at U;rw[ky,K]at U;simpa using U.1
   have a:l.dropWhile (·==65)=l:=by rw[<-Rv,L];rfl
   rw[a]at f;rw[bY F [] aV T<|f _]
  .rw[if_neg U,]
   have a:PySem.stripped (#[#[[65]]]:aA).cps.contains true false #[#[l]]=#[#[l.dropWhile (·==65)]]:=by unfold PySem.stripped;rw[(λj=>rfl:∀j,PySem.stripHi (#[#[[65]]]:aA).cps.contains false #[#[l]] j=l.length),K,<-Rv];show(#[(#[l]:Array N).extract _ _]:aA)=_;congr 1;rw[h_ (by simp;rw[qz<|S_▸d8 _])]
   rw[a▸#[?_,F,[],aV,T.tok,f _]];have:(l.dropWhile (·==65)).length<=l.length:=(SX _).length_le;rw[aiE b this]
 .split at U
  .rw[U]
  .rw[U.elim]
  .rw[U.elim]
end
section
structure W7 where
 us:N->Array (Option af)
 z:N
 rl:N
 bd:N
 ro:N
 cd:N
 f0:N
 f1:N
 f2:N
 f3:N
 f4:N
 f5:N
 f6:N
 v0:af
 v3:af
abbrev lC(x:Wd)(S:Sg)(w:W7)(a:!bv):!bv:=V x.P bV w.f0 (.ref w.rl)::V x.P b6 w.f1 (.ref S.so)::V x.P bD w.f2 w.v0::V x.P cK w.f3 w.v3::V x.P eO w.f4 (.ref w.bd)::V x.P cE w.f5 (.ref w.ro)::V x.P cg w.f6 (.ref w.cd)::a
abbrev xJ(x:Wd)(S:Sg)(z w f0 f1:N)(q:Option (N×af)):aH×Obj:=q.rec (z,az [V x.P bV f0<|.ref w,V x.P b6 f1<|.ref S.so] 2) λp=>(z,az [V x.P bV f0<|.ref w,V x.P b6 f1<|.ref S.so,V x.P bD p.1 p.2] 3)
abbrev xe(x:Wd)(H:N)(q:Option (N×af)):aH×Obj:=(H,q.rec (ak [] 0) λp=>ak [V x.P bD p.1 p.2] 1)
variable(w:W7) (S:Sg) (ol:!aX) (D nr sz tk bs nw z so sd nd it tp tf f0 f1 b0 em da J c1 d0 f2 a7 dt e eb ea ei bt t4 ac na f5 U eg nb G K eN e0 cd f3 f4 f6 r q bb f8 nc dV c0 c ds ec d3 ed ef dx db du d dd bo ew d2 eh:N) (bl ev ch vs:!af) (a6 po nf:Int) (u:N->N) (n d1 a b k l y:!N) (v0 v5 v3 ca v8:af) (us c2:N->Array (Option af)) (ck a8:!bv) (rs:!(!N×N)) (x:Wd) (Y c3 ep ey eB eC eM e1:ao)
def DM:av:=ex x #[none,some ol,false] 600 (.fn 903 #[[.ref D],[]])<|cf [] sz tk (H 0x58212255516c00c00aa014c1031311b9055) [] [(D,aa #[bl] nr)] Y
def K4(x:Wd)(ol:!aX)(sz:N):Ko:=(DM ol 0 0 sz 0 [] x []).resume
def aph:∀(x:Wd) Y,Ev (DM ol D nr sz tk bl x Y) Y [0,1,4,5,2] (.pend 597 #[none,some (cn sz::ol),false] (bM b_ 1 (.ref<|sz+5)<|cn sz)<|K4 x ol sz) [(sz,az [V x.P bV tk<|.ref D,V x.P b6 (tk+13)<|.ref<|sz+2] 2),((sz+1),ak [V x.P Qb (tk+4)<|.ref<|sz+4,V x.P Qe (tk+6) .none,V x.P Qh (tk+9)<|.int (0)<|tk+7,V x.P Qi (tk+12)<|.int (0)<|tk+10] 4),((sz+4),ak [] 0),((sz+5),c7 D 0)] [((sz+2),#[.ref 162,some<|sz+1,.plain,#[[]]])] [] []:=cS
def Oi(S:Sg)(w:N)(nr:N)(sz:N)(tk:N)(e:N)(nw:N)(z:N)(it:N)(tp:N)(tf:N)(f0:N)(f1:N)(p:N)(s:N)(g:!af)(c:Int)(po:Int)(nf:Int)(n:!N)(j:!N)(d:Option (N×af))(x:Wd)(Y:ao):av:=ex x aj 590 (.code<|bM b_ 1 (.ref it)<|cn z)<|cf [xJ x S z w f0 f1 d,(it,c7 w c),(S.D x.P .none po tp nf tf)] sz tk (bif x.b2 then(H 0xd405cc0f40)else(H 0xd405cc0ad0f40)) [.ref e] [(w,aa #[g] nr),(e,aa #[[ah n p,ah j s]] nw),(S.so,a9 S.sd)] Y
def K2(x:Wd)(z it:N)(n:!N)(p:N)(sz:N):Ko:=(Oi #[0,0,0,λn=>n] 0 0 sz 0 0 0 z it 0 0 0 0 p 0 [] 0 0 0 n [] none x []).resume
def Oh(S:Sg)(w:N)(nr:N)(sz:N)(tk:N)(e:N)(nw:N)(z:N)(it:N)(tp:N)(tf:N)(f0:N)(f1:N)(p:N)(f:N)(Z:N)(g:!af)(c:Int)(po:Int)(nf:Int)(n:!N)(a:!N)(b:!N)(d:Option (N×af))(x:Wd)(Y:ao):av:=ex x aj 590 (.code<|bM b_ 1 (.ref it)<|cn z)<|cf [xJ x S z w f0 f1 d,(it,c7 w c),(S.D x.P .none po tp nf tf)] sz tk (bif x.b2 then(H 0xed09dddd1c4cc0f40)else(H 0xed09dddd1c4cc0ad0f40)) [.ref e] [(w,aa #[g] nr),(e,aa #[[ah n p,ah a f,ah b Z]] nw),(S.so,a9 S.sd)] Y
def K1(x:Wd)(z it:N)(n a b:!N)(p f Z:N)(sz:N):Ko:=(Oh #[0,0,0,λn=>n] 0 0 sz 0 0 0 z it 0 0 0 0 p f Z [] 0 0 0 n a b none x []).resume
def Oj(S:Sg)(w:N)(nr:N)(sz:N)(tk:N)(e:N)(nw:N)(z:N)(it:N)(tp:N)(tf:N)(f0:N)(f1:N)(p:N)(f:N)(g:!af)(c:Int)(po:Int)(nf:Int)(n:!N)(a:!N)(d:Option (N×af))(x:Wd)(Y:ao):av:=ex x aj 590 (.code<|bM b_ 1 (.ref it)<|cn z)<|cf [xJ x S z w f0 f1 d,(it,c7 w c),(S.D x.P .none po tp nf tf)] sz tk (bif x.b2 then(H 0xed0f40)else(H 0xed0ad0f40)) [.ref e] [(w,aa #[g] nr),(e,aa #[[ah n p,ah a f]] nw),(S.so,a9 S.sd)] Y
def K3(x:Wd)(z it:N)(n a:!N)(p f:N)(sz:N):Ko:=(Oj #[0,0,0,λn=>n] 0 0 sz 0 0 0 z it 0 0 0 0 p f [] 0 0 0 n a none x []).resume
section
variable{w S ol D nr sz tk bs nw z so sd nd it tp tf f0 f1 b0 em da J c1 d0 f2 a7 dt e eb ea ei bt t4 ac na f5 U eg nb G K eN e0 cd f3 f4 f6 r q bb f8 nc dV c0 c ds ec d3 ed ef dx db du d dd bo ew d2 eh bl ev ch vs a6 po nf u n d1 a b k l y v0 v5 v3 ca v8 ck a8}
def rL:∀d (x:Wd) Y,Ev (Oi S D nr sz tk bs nw z it tp tf f0 f1 b0 em bl a6 po nf n d1 d x Y) Y [3,0,1,2] (.pend 589 aj (.call (.ref sz) #[[ah n b0],[]])<|K2 x z it n b0 sz) ([(sz,#[.type "method",none,.fields #[[.ref 112,.ref S.so]],#[[]]])]++[(z,az [V x.P bV f0<|.ref D,V x.P b6 f1<|.ref S.so,V x.P bD (fF d tk)<|.ref bs] 3),(it,c7 D<|a6+1),(S.D x.P .none po tp nf tf)]) [] [((decide<|(d1.length:Int)<3),false)] [ma (aI j8) (ar [])<|ar [],dJ #[#[d1]],df #[bl] a6<|aF bs]:=gf
def rI:∀d (x:Wd) Y,Ev (Oh S D nr sz tk bs nw z it tp tf f0 f1 b0 c1 d0 bl a6 po nf n a b d x Y) Y [3,0,1,2] (.pend 589 aj (.call (.ref sz) #[[ah n b0,ah a c1,ah b d0],[]])<|K1 x z it n a b b0 c1 d0 sz) ([(sz,#[.type "method",none,.fields #[[.ref 112,.ref S.so]],#[[]]])]++[(z,az [V x.P bV f0<|.ref D,V x.P b6 f1<|.ref S.so,V x.P bD (fF d tk)<|.ref bs] 3),(it,c7 D<|a6+1),(S.D x.P .none po tp nf tf)]) [] [((decide<|(b.length:Int)<3),true),((decide<|(a.length:Int)<3),true)] [ma (aI j8) (ar [])<|ar [ah a c1,ah b d0],dJ #[#[b]],dJ #[#[a]],df #[bl] a6<|aF bs]:=gf
def rX:∀d (x:Wd) Y,Ev (Oj S D nr sz tk bs nw z it tp tf f0 f1 b0 c1 bl a6 po nf n a d x Y) Y [3,0,1,2] (.pend 589 aj (.call (.ref sz) #[[ah n b0,ah a c1],[]])<|K3 x z it n a b0 c1 sz) ([(sz,#[.type "method",none,.fields #[[.ref 112,.ref S.so]],#[[]]])]++[(z,az [V x.P bV f0<|.ref D,V x.P b6 f1<|.ref S.so,V x.P bD (fF d tk)<|.ref bs] 3),(it,c7 D<|a6+1),(S.D x.P .none po tp nf tf)]) [] [((decide<|(a.length:Int)<3),true)] [ma (aI j8) (ar [])<|ar [ah a c1],dJ #[#[a]],df #[bl] a6<|aF bs]:=gf
def cL:∀d (x:Wd) Y,Ev (ex x aj 590 (.code<|fT b_ 1 (.ref it) (.ref ac)<|fR b_ 1 (cn z)<|ac+1)<|cf [(it,c7 D a6),(ac,aa #[ch] na),xe x (ac+1) d] sz tk (H 0x548a6aa0a103aa103143f0aa1031a80) [.ref bs] [(D,aa #[bl] nr),(bs,aa #[[ah n b0,ah d1 em]] nw)] Y) Y [0,1,2,4,5] (.next<|fT b_ 1 (.ref it) (.ref ac)<|fR b_ 1 (cn z)<|ac+1) [(it,c7 D<|a6+1),(ac,aa ((ar ch).push<|aF<|sz+2)<|na+1),((ac+1),ak [V x.P bD (fF d tk)<|.ref bs] 1)] [((sz+1),aa #[[ah d1 em]] 0),((sz+2),aD [ah n b0,.ref<|sz+1])] [(((d1.length:Int)==3),true)] [cm #[ch],dJ #[#[d1]],df #[bl] a6<|aF bs]:=gf
def cI:∀d (x:Wd) Y,Ev (ex x aj 590 (.code<|fT b_ 1 (.ref it) (.ref ac)<|fR b_ 1 (cn z)<|ac+1)<|cf [(it,c7 D a6),(ac,aa #[ch] na),xe x (ac+1) d] sz tk (H 0x548a6aa0a103aa103a80) [.ref bs] [(D,aa #[bl] nr),(bs,aa #[[ah n b0,ah a c1,ah b d0]] nw)] Y) Y [0,1,2,4,5] (.next<|fT b_ 1 (.ref it) (.ref ac)<|fR b_ 1 (cn z)<|ac+1) [(it,c7 D<|a6+1),(ac,aa ((ar ch).push<|aF<|sz+2)<|na+1),((ac+1),ak [V x.P bD (fF d tk)<|.ref bs] 1)] [((sz+1),aa #[[ah a c1,ah b d0]] 0),((sz+2),aD [ah n b0,.ref<|sz+1])] [] [cm #[ch],df #[bl] a6<|aF bs]:=gf
def cX:∀d (x:Wd) Y,Ev (ex x aj 590 (.code<|fT b_ 1 (.ref it) (.ref ac)<|fR b_ 1 (cn z)<|ac+1)<|cf [(it,c7 D a6),(ac,aa #[ch] na),xe x (ac+1) d] sz tk (H 0x153f0aa1031a80) [.ref bs] [(D,aa #[bl] nr),(bs,aa #[[ah n b0,ah a c1]] nw)] Y) Y [0,1,2] (.next<|fT b_ 1 (.ref it) (.ref ac)<|fR b_ 1 (cn z)<|ac+1) [(it,c7 D<|a6+1),(ac,aa #[ch] na),((ac+1),ak [V x.P bD (fF d tk)<|.ref bs] 1)] [] [(((a.length:Int)==3),false)] [dJ #[#[a]],df #[bl] a6<|aF bs]:=gf
end
def apf:∀(x:Wd) c,Ev (K2 x z it n b0 sz (.ok<|.ret .none)<|cf [] da J [] [] [] c) c [] (.next<|bM b_ 1 (.ref it)<|cn z) [] [] [] []:=bB
def ape:∀(x:Wd) c,Ev (K1 x z it n a b b0 c1 d0 sz (.ok<|.ret .none)<|cf [] da J [] [] [] c) c [] (.next<|bM b_ 1 (.ref it)<|cn z) [] [] [] []:=bB
def apg:∀(x:Wd) c,Ev (K3 x z it n a b0 c1 sz (.ok<|.ret .none)<|cf [] da J [] [] [] c) c [] (.next<|bM b_ 1 (.ref it)<|cn z) [] [] [] []:=bB
def rAe:Ev (ex x aj 590 (.code<|bM b_ 1 (.ref it)<|cn z)<|cf [(it,c7 D a6)] sz tk (H 0xa70) [] [(D,aa #[bl] nr)] Y) Y [] (.res<|.ok .next) [] [] [] [ig #[bl] a6]:=by lk
def DN:av:=K4 x ol sz (.ok .next)<|cf [(sz,az [V x.P bV tk<|.ref D,V x.P b6 (tk+13)<|.ref<|sz+2,V x.P bD f2 v0] 3),((sz+1),js x.P u (sz+4) .none po tp nf tf)] da J (H 0xa50555) [] [((sz+2),a9<|sz+1)] c3
def CZ(x:Wd)(ol:!aX)(sz:N):Ko:=(DN ol 0 sz 0 0 0 0 0 0 0 0 (λn=>n) .none x []).resume
def api:∀(x:Wd) c,Ev (DN ol D sz tk tp tf da J f2 po nf u v0 x c) c [0,1] (.pend 597 #[none,some (cn sz::ol),false] (.call (.ref 117) #[[.ref<|sz+2],[]])<|CZ x ol sz) [(sz,az [V x.P bV tk<|.ref D,V x.P b6 (tk+13)<|.ref<|sz+2,V x.P bD f2<|v0,V x.P cK J<|.bool true] 4),((sz+1),js x.P u (sz+4) .none po tp nf tf)] [] [] []:=cS
def Ot:av:=CZ x ol sz (.ok<|.ret .none)<|cf [(sz,bi [V x.P bV tk<|.ref D,V x.P b6 (tk+13)<|.ref<|sz+2,V x.P bD f2 v0,V x.P cK J<|.bool true] 4<|us sz)] a7 dt (H 0x542122511) [] [(D,aa #[bl] nr)] ep
def K_(x:Wd)(ol:!aX)(sz:N)(D:N):Ko:=(Ot ol 0 0 sz 0 0 0 D 0 [] .none (λ_=>#[[]]) x []).resume
def rk:∀(x:Wd) f,Ev (Ot ol D nr sz tk J f2 a7 dt bl v0 us x f) f [0,1,2,3] (.pend 597 #[none,some (cn sz::ol),false] (jd b_ 1 (.ref a7) (.ref<|a7+1)<|fR b_ 1 (cn sz)<|a7+2)<|K_ x ol sz a7) [(sz,bi [V x.P bV tk<|.ref D,V x.P b6 (tk+13)<|.ref<|sz+2,V x.P bD f2 v0,V x.P cK J<|.bool true] 4<|us sz),(a7,c7 D 0),((a7+1),aa #[[]] 0),((a7+2),ak [] 0)] [] [] []:=bB
def Om:av:=CZ x ol sz (.error<|.ref e)<|cf [(sz,bi [V x.P bV tk<|.ref D,V x.P b6 (tk+13)<|.ref<|sz+2,V x.P bD f2 v0,V x.P cK J<|.bool true] 4<|us sz),(e,#[.ref 80,none,.fields #[[.ref eb,.ref ea,.none,.none,.bool false,.none]],#[[]]])] a7 dt [] [] [] ep
def K5(x:Wd)(ol:!aX)(sz:N)(e:N):Ko:=(Om ol 0 sz 0 0 0 0 0 e 0 0 .none (λ_=>#[[]]) x []).resume
def re:∀(x:Wd) f,Ev (Om ol D sz tk J f2 a7 dt e eb ea v0 us x f) f [0,1] (.gz 597 #[none,some (cn sz::ol),false] (rt (cn sz)<|.ref e)<|K5 x ol sz e) [(sz,bi [V x.P bV tk<|.ref D,V x.P b6 (tk+13)<|.ref<|sz+2,V x.P bD f2 v0,V x.P cK J<|.bool true] 4<|us sz),(e,#[.ref 80,none,.fields #[[.ref eb,.ref ea,.none,.none,.bool false,.none]],#[[]]])] [] [] []:=cS
def Oo:av:=K5 x ol sz e (.ok<|.ret .none)<|cf [(sz,bi [V x.P bV tk<|.ref D,V x.P b6 (tk+13)<|.ref<|sz+2,V x.P bD f2 v0,V x.P cK J<|.bool true] 4<|c2 sz),(e,#[.ref 80,none,.fields #[[.ref eb,.ref ei,.none,.none,.bool false,.none]],#[[]]]),(ei,#[.type "traceback",none,.fields #[.ref ea::.ref sz::.none::.none::.none::ev],#[[]]])] bt t4 (H 0x562122511553341141c10) [] [(D,aa #[bl] nr)] ey
def K6(x:Wd)(ol:!aX)(sz:N)(M:N):Ko:=(Oo ol 0 0 sz 0 0 0 0 0 0 0 M 0 [] [] .none (λ_=>#[[]]) x []).resume
def rg:∀(x:Wd) y,Ev (Oo ol D nr sz tk J f2 e eb ea ei bt t4 bl ev v0 c2 x y) y [0,3,4,5] (.pend 597 #[none,some (cn sz::ol),false] (jd b_ 1 (.ref bt) (.ref<|bt+1)<|fR b_ 1 (cn sz)<|bt+2)<|K6 x ol sz bt) [(sz,bi [V x.P bV tk<|.ref D,V x.P b6 (tk+13)<|.ref<|sz+2,V x.P bD f2 v0,V x.P cK J<|.bool false] 4<|c2 sz),(bt,c7 D 0),((bt+1),aa #[[]] 0),((bt+2),ak [] 0)] [] [] []:=bB
def cs:∀(x:Wd) Y,Ev (ex x aj 590 (.code<|jd b_ 1 (.ref it) (.ref ac)<|fR b_ 1 (cn z)<|ac+1)<|cf [(it,c7 D 0)] sz tk (bif x.b2 then[]else(H 0xb50)) [] [] Y) Y [0] (.next<|fT b_ 1 (.ref it) (.ref ac)<|fR b_ 1 (cn z)<|ac+1) [(it,c7 D 0)] [] [] []:=bB
def ce:Ev (ex x aj 590 (.code<|fT b_ 1 (.ref it) (.ref ac)<|fR b_ 1 (cn z)<|ac+1)<|cf [(it,c7 D a6)] sz tk (H 0xa70) [] [(D,aa #[bl] nr)] Y) Y [] (.res<|.ok .next) [] [] [] [ig #[bl] a6]:=by lk
def Ou:av:=K_ x ol sz a7 (.ok .next)<|cf [(sz,bi [V x.P bV tk<|.ref D,V x.P b6 (tk+13)<|.ref<|sz+2,V x.P bD f2 v0,V x.P cK J<|.bool true] 4<|us sz),((a7+1),aa #[ch] na),((a7+2),ak [V x.P bD f5 v5] 1)] U eg (H 0xd30) [] [] ey
def Lb(x:Wd)(ol:!aX)(sz:N)(D:N)(b:N):Ko:=(Ou ol 0 sz 0 0 0 D 0 0 b 0 [] .none .none (λ_=>#[[]]) x []).resume
def rkd:∀(x:Wd) y,Ev (Ou ol D sz tk J f2 a7 na f5 U eg ch v0 v5 us x y) y [0,6,3,1] (.pend 593 aj (.builtin "dict.update.loop" #[[.ref U,.ref<|U+3,.int 0 0,.none],[]])<|Lb x ol sz a7 U) [(sz,bi [V x.P bV tk<|.ref D,V x.P b6 (tk+13)<|.ref<|sz+2,V x.P bD f2 v0,V x.P cK J<|.bool true] 4<|us sz),((U+3),c7 (a7+1) 0),(U,ak [] 0)] [((a7+1),aa #[ch] na)] [] []:=bB
def Ow:av:=Lb x ol sz a7 U (.ok<|.ret .none)<|cf [(sz,bi [V x.P bV tk<|.ref D,V x.P b6 (tk+13)<|.ref<|sz+2,V x.P bD f2 v0,V x.P cK J<|.bool true] 4<|us sz),(U,ak ck nb)] G K (H 0x55c30) [] [] eB
def C1(x:Wd)(ol:!aX)(sz:N):Ko:=(Ow ol 0 sz 0 0 0 0 0 0 0 0 .none (λ_=>#[[]]) [] x []).resume
def rkw:∀(x:Wd) h,Ev (Ow ol D sz tk J f2 a7 U nb G K v0 us ck x h) h [0,1,2,3] (.pend 597 #[none,some (cn sz::ol),false] (cM b_ 10<|cn sz)<|C1 x ol sz) [(sz,bi [V x.P bV tk<|.ref D,V x.P b6 (tk+13)<|.ref<|sz+2,V x.P bD f2 v0,V x.P cK J<|.bool true,V x.P eO K<|.ref U,V x.P cE (K+1)<|.ref G,V x.P cg (K+2)<|.ref<|G+1] 7<|us sz),(U,ak ck nb),(G,aa #[[]] 0),((G+1),ak [] 0)] [] [] []:=bB
def Op:av:=K6 x ol sz bt (.ok .next)<|cf [(sz,bi [V x.P bV tk<|.ref D,V x.P b6 (tk+13)<|.ref<|sz+2,V x.P bD f2 v0,V x.P cK J<|.bool false] 4<|c2 sz),((bt+1),aa #[ch] na),((bt+2),ak [V x.P bD f5 v5] 1)] U eg (H 0xd30) [] [] eB
def K8(x:Wd)(ol:!aX)(sz:N)(M:N)(b:N):Ko:=(Op ol 0 sz 0 0 0 M 0 0 b 0 [] .none .none (λ_=>#[[]]) x []).resume
def rgd:∀(x:Wd) h,Ev (Op ol D sz tk J f2 bt na f5 U eg ch v0 v5 c2 x h) h [0,6,3,1] (.pend 593 aj (.builtin "dict.update.loop" #[[.ref U,.ref<|U+3,.int 0 0,.none],[]])<|K8 x ol sz bt U) [(sz,bi [V x.P bV tk<|.ref D,V x.P b6 (tk+13)<|.ref<|sz+2,V x.P bD f2 v0,V x.P cK J<|.bool false] 4<|c2 sz),((U+3),c7 (bt+1) 0),(U,ak [] 0)] [((bt+1),aa #[ch] na)] [] []:=bB
def Os:av:=K8 x ol sz bt U (.ok<|.ret .none)<|cf [(sz,bi [V x.P bV tk<|.ref D,V x.P b6 (tk+13)<|.ref<|sz+2,V x.P bD f2 v0,V x.P cK J<|.bool false] 4<|c2 sz),(U,ak ck nb)] G K (H 0x55c30) [] [] eC
def C0(x:Wd)(ol:!aX)(sz:N):Ko:=(Os ol 0 sz 0 0 0 0 0 0 0 0 .none (λ_=>#[[]]) [] x []).resume
def rgw:∀(x:Wd) g,Ev (Os ol D sz tk J f2 bt U nb G K v0 c2 ck x g) g [0,1,2,3] (.pend 597 #[none,some (cn sz::ol),false] (cM b_ 10<|cn sz)<|C0 x ol sz) [(sz,bi [V x.P bV tk<|.ref D,V x.P b6 (tk+13)<|.ref<|sz+2,V x.P bD f2 v0,V x.P cK J<|.bool false,V x.P eO K<|.ref U,V x.P cE (K+1)<|.ref G,V x.P cg (K+2)<|.ref<|G+1] 7<|c2 sz),(U,ak ck nb),(G,aa #[[]] 0),((G+1),ak [] 0)] [] [] []:=bB
def OD:av:=ex x aj 580 (.code<|cM b_ 10<|cn w.z)<|cf [(w.z,bi (lC x S w []) 7<|w.us w.z),(S.D x.P (.ref r) po tp nf tf)] sz tk (H 0xa505) [] [(S.so,a9 S.sd)] Y
def vm(x:Wd)(z:N):Ko:=(OD #[λ_=>#[[]],z,0,0,0,0,0,0,0,0,0,0,0,.none,.none] #[0,0,0,λn=>n] 0 0 0 0 0 0 0 x []).resume
def w0a:Ev (OD w S sz tk tp tf r po nf x Y) Y [0,1] (.pend 579 aj (.call (.ref 131) #[[.ref S.so],[]])<|vm x w.z) [(w.z,bi (lC x S w []) 7<|w.us w.z),(S.D x.P (.ref r) po tp nf tf)] [] [] []:=by lk
def w0e:Ev (vm x z (.ok<|.ret<|.bool false)<|cf [] da J [0] [] [] c3) c3 [] (.res<|.ok .next) [] [] [] []:=by lk
def OE:av:=vm x w.z (.ok<|.ret<|.bool true)<|cf [(w.z,bi (lC x S w []) 7<|w.us w.z),(S.D x.P (.ref r) po tp nf tf)] da J (H 0xa5051) [] [(S.so,a9 S.sd)] c3
def x5(x:Wd)(z:N):Ko:=(OE #[λ_=>#[[]],z,0,0,0,0,0,0,0,0,0,0,0,.none,.none] #[0,0,0,λn=>n] 0 0 0 0 0 0 0 x []).resume
def w0b:Ev (OE w S tp tf da J r po nf x c3) c3 [0,1] (.pend 579 aj (.call (.ref 124) #[[.ref S.so],[]])<|x5 x w.z) [(w.z,bi (lC x S w []) 7<|w.us w.z),(S.D x.P (.ref r) po tp nf tf)] [] [] []:=by lk
def OF:av:=x5 x w.z (.ok<|.ret<|.ref q)<|cf [(w.z,bi [V x.P bV w.f0<|.ref w.rl,V x.P b6 w.f1<|.ref so,V x.P bD w.f2 w.v0,V x.P cK w.f3 w.v3,V x.P eO w.f4<|.ref w.bd,V x.P cE w.f5<|.ref w.ro,V x.P cg w.f6<|.ref w.cd] 7<|w.us w.z)] a7 dt (H 0x542122555) [] [(q,aD<|rs.map ax)] ep
def C2(x:Wd)(z:N):Ko:=(OF #[λ_=>#[[]],z,0,0,0,0,0,0,0,0,0,0,0,.none,.none] 0 0 0 0 [] x []).resume
def w0c:∀(x:Wd) f,Ev (OF w so a7 dt q rs x f) f [0,1] (.pend 579 aj (bM b_ 12 (.ref a7)<|cn w.z)<|C2 x w.z) [(w.z,bi [V x.P bV w.f0<|.ref w.rl,V x.P b6 w.f1<|.ref so,V x.P bD w.f2 w.v0,V x.P cK w.f3 w.v3,V x.P eO w.f4<|.ref w.bd,V x.P cE w.f5<|.ref w.ro,V x.P cg w.f6<|.ref w.cd,V x.P eA dt<|.ref q] 8<|w.us w.z),(a7,fw q 0)] [] [] []:=cS
def DP(x:Wd)(us:N->Array (Option af))(z w so sd nd a i cd f0 f1 f2 f3 f4 f5 f6:N)(v0 v3:af)(q:N)(rs:!(!N×N))(b:N->N)(d:N)(e c:Int)(f O U I:N)(P:af)(M t4:N)(y:ao):av:=C2 x z (.ok .next)<|cf [(z,bi [V x.P bV f0<|.ref w,V x.P b6 f1<|.ref so,V x.P bD f2 v0,V x.P cK f3 v3,V x.P eO f4<|.ref a,V x.P cE f5<|.ref i,V x.P cg f6<|.ref cd,V x.P eA U<|.ref q,V x.P d7 I P] 9<|us z),(sd,js x.P b nd (.ref d) e f c O)] M t4 (H 0x5136623270a51c104122fe0211125) [] [(so,a9 sd),(q,aD<|rs.map ax)] y
def C3(x:Wd)(z:N)(rs:!(!N×N))(M:N):aL->aR->av:=(DP x (λ_=>#[[]]) z 0 0 0 0 0 0 0 0 0 0 0 0 0 0 .none .none 0 rs (λn=>n) 0 0 0 0 0 0 0 .none M 0 []).resume
def R1(x us z w so sd nd a i cd f0 f1 f2 f3 f4 f5 f6 v0 v3 q rs b d e c f O U I P M t4 y)(hv:rs.length<10):Ev (DP x us z w so sd nd a i cd f0 f1 f2 f3 f4 f5 f6 v0 v3 q rs b d e c f O U I P M t4 y) y [2,0,1] (.pend 579 aj (.call (.ref M) #[(rs.map ax),[]])<|C3 x z rs M) ([(M,#[(.type "method"),none,.fields #[[(.ref 145),(.ref so)]],#[[]]])]++[(z,bi [V x.P bV f0<|.ref w,V x.P b6 f1<|.ref so,V x.P bD f2 v0,V x.P cK f3 v3,V x.P eO f4<|.ref a,V x.P cE f5<|.ref i,V x.P cg f6<|.ref cd,V x.P eA U<|.ref q,V x.P d7 I P] 9<|us z),(sd,js x.P b nd (.ref d) e f c O)]) [] [] [(ma (aI "tuple") (ar [])<|ar<|rs.map ax)]:=BA (λx=>DP x us z w so sd nd a i cd f0 f1 f2 f3 f4 f5 f6 v0 v3 q rs b d e c f O U I P M t4 y) (λx=>C3 x z rs M) (by revert rs;rw[wj<|by lk])
def DQ(x:Wd)(us:N->Array (Option af))(z w so a i cd f0 f1 f2 f3 f4 f5 f6:N)(v0 v3:af)(q:N)(rs:!(!N×N))(U I:N)(P:af)(M:N)(d:N)(m:!af)(b c:N)(h:ao):av:=C3 x z rs M (.ok<|.ret .none)<|cf [(z,bi [V x.P bV f0<|.ref w,V x.P b6 f1<|.ref so,V x.P bD f2 v0,V x.P cK f3 v3,V x.P eO f4<|.ref a,V x.P cE f5<|.ref i,V x.P cg f6<|.ref cd,V x.P eA U<|.ref q,V x.P d7 I P] 9<|us z),(i,aa #[m] d)] b c (H 0x5511a905) [] [(q,aD<|rs.map ax)] h
def C4(x:Wd)(z i:N)(rs:!(!N×N)):aL->aR->av:=(DQ x (λ_=>#[[]]) z 0 0 0 i 0 0 0 0 0 0 0 0 .none .none 0 rs 0 0 .none 0 0 [] 0 0 []).resume
def R2(x us z w so a i cd f0 f1 f2 f3 f4 f5 f6 v0 v3 q rs U I P M d m b c h)(hv:rs.length<10):Ev (DQ x us z w so a i cd f0 f1 f2 f3 f4 f5 f6 v0 v3 q rs U I P M d m b c h) h [0,1] (.pend 579 aj (.call (.builtin "sorted") #[[(.ref q)],[]])<|C4 x z i rs) [(z,bi [V x.P bV f0<|.ref w,V x.P b6 f1<|.ref so,V x.P bD f2 v0,V x.P cK f3 v3,V x.P eO f4<|.ref a,V x.P cE f5<|.ref i,V x.P cg f6<|.ref cd,V x.P eA U<|.ref q,V x.P d7 I P] 9<|us z),(i,(aa (ar m) d))] [] [] []:=BA (λx=>DQ x us z w so a i cd f0 f1 f2 f3 f4 f5 f6 v0 v3 q rs U I P M d m b c h) (λx=>C4 x z i rs) (by revert rs;rw[wj<|by lk])
def OG(x:Wd)(us:N->Array (Option af))(z w so a i cd f0 f1 f2 f3 f4 f5 f6:N)(v0 v3:af)(q:N)(rs:!(!N×N))(U I:N)(P:af)(b:N)(m:!af)(f:N)(X L:N)(g:ao):av:=C4 x z i rs (.ok<|.ret<|.ref f)<|cf [(z,bi [V x.P bV f0<|.ref w,V x.P b6 f1<|.ref so,V x.P bD f2 v0,V x.P cK f3 v3,V x.P eO f4<|.ref a,V x.P cE f5<|.ref i,V x.P cg f6<|.ref cd,V x.P eA U<|.ref q,V x.P d7 I P] 9<|us z),(i,aa #[m] b)] X L [6,2,1] [] [] g
def R3(x us z w so a i cd f0 f1 f2 f3 f4 f5 f6 v0 v3 q rs U I P b m f X L g)(hv:rs.length<10):Ev (OG x us z w so a i cd f0 f1 f2 f3 f4 f5 f6 v0 v3 q rs U I P b m f X L g) g [0,1] (.next<|cM b_ 10<|cn z) [(z,bi [V x.P bV f0<|.ref w,V x.P b6 f1<|.ref so,V x.P bD f2 v0,V x.P cK f3 v3,V x.P eO f4<|.ref a,V x.P cE f5<|.ref i,V x.P cg f6<|.ref cd,V x.P eA U<|.ref q,V x.P d7 I P] 9<|us z),(i,(aa ((ar m).push<|aF f)<|b+1))] [] [] [(cm<|ar m)]:=s5 (λx=>OG x us z w so a i cd f0 f1 f2 f3 f4 f5 f6 v0 v3 q rs U I P b m f X L g) (by revert rs;rw[wj<|by lk])
def R4:Ev (ex x aj 580 (.code<|cM b_ 10<|cn w.z)<|cf [(w.z,bi (lC x S w [V x.P eA bb ca,V x.P d7 f8 v8]) 9<|w.us w.z),(S.D x.P (.ref r) po tp nf tf)] sz tk (H 0xa505) [] [(S.so,a9 S.sd)] Y) Y [0,1] (.pend 579 aj (.call (.ref 131) #[[.ref S.so],[]])<|vm x w.z) [(w.z,bi (lC x S w [V x.P eA bb ca,V x.P d7 f8 v8]) 9<|w.us w.z),(S.D x.P (.ref r) po tp nf tf)] [] [] []:=by lk
def w1b:Ev (vm x w.z (.ok<|.ret<|.bool true)<|cf [(w.z,bi (lC x S w [V x.P eA bb ca,V x.P d7 f8 v8]) 9<|w.us w.z),(S.D x.P (.ref r) po tp nf tf)] da J (H 0xa5051) [] [(S.so,a9 S.sd)] c3) c3 [0,1] (.pend 579 aj (.call (.ref 124) #[[.ref S.so],[]])<|x5 x w.z) [(w.z,bi (lC x S w [V x.P eA bb ca,V x.P d7 f8 v8]) 9<|w.us w.z),(S.D x.P (.ref r) po tp nf tf)] [] [] []:=by lk
def w1c:∀(x:Wd) f,Ev (x5 x w.z (.ok<|.ret<|.ref q)<|cf [(w.z,bi [V x.P bV w.f0<|.ref w.rl,V x.P b6 w.f1<|.ref so,V x.P bD w.f2 w.v0,V x.P cK w.f3 w.v3,V x.P eO w.f4<|.ref w.bd,V x.P cE w.f5<|.ref w.ro,V x.P cg w.f6<|.ref w.cd,V x.P eA bb ca,V x.P d7 f8 v8] 9<|w.us w.z)] a7 dt (H 0x542122555) [] [(q,aD<|rs.map ax)] f) f [0,1] (.pend 579 aj (bM b_ 12 (.ref a7)<|cn w.z)<|C2 x w.z) [(w.z,bi [V x.P bV w.f0<|.ref w.rl,V x.P b6 w.f1<|.ref so,V x.P bD w.f2 w.v0,V x.P cK w.f3 w.v3,V x.P eO w.f4<|.ref w.bd,V x.P cE w.f5<|.ref w.ro,V x.P cg w.f6<|.ref w.cd,V x.P eA bb<|.ref q,V x.P d7 f8 v8] 9<|w.us w.z),(a7,fw q 0)] [] [] []:=cS
def N1:av:=ex x aj 570 (.code<|bM b_ 12 (.ref it)<|cn w.z)<|cf [(w.z,bi [V x.P bV w.f0<|.ref w.rl,V x.P b6 w.f1<|.ref so,V x.P bD w.f2 w.v0,V x.P cK w.f3 w.v3,V x.P eO w.f4<|.ref w.bd,V x.P cE w.f5<|.ref w.ro,V x.P cg w.f6<|.ref w.cd,V x.P eA bb<|.ref q] 8<|w.us w.z),(it,fw q a6),(w.bd,ak ck nb)] sz tk (H 0x950) [ah k c0,.ref dV] [(q,aD vs)] Y
def KO(x:Wd)(z:N)(it:N):Ko:=(N1 #[λ_=>#[[]],z,0,0,0,0,0,0,0,0,0,0,0,.none,.none] 0 0 0 it 0 0 0 0 0 [] 0 [] [] x []).resume
def n0a:Ev (N1 w sz tk so it nb q bb dV c0 vs a6 k ck x Y) Y [0,1,2] (.pend 569 aj (.call (.ref 898) #[[.ref dV,.ref w.cd],[]])<|KO x w.z it) [(w.z,bi [V x.P bV w.f0<|.ref w.rl,V x.P b6 w.f1<|.ref so,V x.P bD w.f2 w.v0,V x.P cK w.f3 w.v3,V x.P eO w.f4<|.ref w.bd,V x.P cE w.f5<|.ref w.ro,V x.P cg w.f6<|.ref w.cd,V x.P eA bb<|.ref q,V x.P d7 tk<|ah k c0] 9<|w.us w.z),(it,fw q<|a6+1),(w.bd,ak ck nb)] [] [] [cR (aI "dict") ck #[#[k]]<|aF dV,df #[vs] a6<|ah k c0]:=by lk
def n0r:Ev (KO x w.z it (.ok<|.ret<|.ref c)<|cf [(w.z,bi [V x.P bV w.f0<|.ref w.rl,V x.P b6 w.f1<|.ref so,V x.P bD w.f2 w.v0,V x.P cK w.f3 w.v3,V x.P eO w.f4<|.ref w.bd,V x.P cE w.f5<|.ref w.ro,V x.P cg w.f6<|.ref w.cd,V x.P eA bb<|.ref q,V x.P d7 tk<|ah k c0] 9<|w.us w.z),(w.cd,ak a8 nc)] da J (H 0x4541f04455) [] [] c3) c3 [0,1] (.next<|bM b_ 12 (.ref it)<|cn w.z) [(w.z,bi [V x.P bV w.f0<|.ref w.rl,V x.P b6 w.f1<|.ref so,V x.P bD w.f2 w.v0,V x.P cK w.f3 w.v3,V x.P eO w.f4<|.ref w.bd,V x.P cE w.f5<|.ref w.ro,V x.P cg w.f6<|.ref w.cd,V x.P eA bb<|.ref q,V x.P d7 tk<|ah k c0] 9<|w.us w.z),(w.cd,ak (a8++[V x.P #[#[k]] c0<|.ref c])<|nc+1)] [] [] [j4 (aI "dict") a8 #[#[k]]]:=by lk
def N2:av:=ex x aj 570 (.code<|bM b_ 12 (.ref it)<|cn w.z)<|cf [(w.z,bi [V x.P bV w.f0<|.ref w.rl,V x.P b6 w.f1<|.ref so,V x.P bD w.f2 w.v0,V x.P cK w.f3 w.v3,V x.P eO w.f4<|.ref w.bd,V x.P cE w.f5<|.ref w.ro,V x.P cg w.f6<|.ref w.cd,V x.P eA bb<|.ref q,V x.P d7 f8 v8] 9<|w.us w.z),(it,fw q a6),(w.bd,ak ck nb)] sz tk (H 0x950) [ah k c0,.ref dV] [(q,aD vs)] Y
def KP(x:Wd)(z:N)(it:N):Ko:=(N2 #[λ_=>#[[]],z,0,0,0,0,0,0,0,0,0,0,0,.none,.none] 0 0 0 it 0 0 0 0 0 0 [] 0 [] .none [] x []).resume
def n1a:Ev (N2 w sz tk so it nb q bb f8 dV c0 vs a6 k v8 ck x Y) Y [0,1,2] (.pend 569 aj (.call (.ref 898) #[[.ref dV,.ref w.cd],[]])<|KP x w.z it) [(w.z,bi [V x.P bV w.f0<|.ref w.rl,V x.P b6 w.f1<|.ref so,V x.P bD w.f2 w.v0,V x.P cK w.f3 w.v3,V x.P eO w.f4<|.ref w.bd,V x.P cE w.f5<|.ref w.ro,V x.P cg w.f6<|.ref w.cd,V x.P eA bb<|.ref q,V x.P d7 f8<|ah k c0] 9<|w.us w.z),(it,fw q<|a6+1),(w.bd,ak ck nb)] [] [] [cR (aI "dict") ck #[#[k]]<|aF dV,df #[vs] a6<|ah k c0]:=by lk
def n1r:Ev (KP x w.z it (.ok<|.ret<|.ref c)<|cf [(w.z,bi [V x.P bV w.f0<|.ref w.rl,V x.P b6 w.f1<|.ref so,V x.P bD w.f2 w.v0,V x.P cK w.f3 w.v3,V x.P eO w.f4<|.ref w.bd,V x.P cE w.f5<|.ref w.ro,V x.P cg w.f6<|.ref w.cd,V x.P eA bb<|.ref q,V x.P d7 f8<|ah k c0] 9<|w.us w.z),(w.cd,ak a8 nc)] da J (H 0x4541f04455) [] [] c3) c3 [0,1] (.next<|bM b_ 12 (.ref it)<|cn w.z) [(w.z,bi [V x.P bV w.f0<|.ref w.rl,V x.P b6 w.f1<|.ref so,V x.P bD w.f2 w.v0,V x.P cK w.f3 w.v3,V x.P eO w.f4<|.ref w.bd,V x.P cE w.f5<|.ref w.ro,V x.P cg w.f6<|.ref w.cd,V x.P eA bb<|.ref q,V x.P d7 f8<|ah k c0] 9<|w.us w.z),(w.cd,ak (a8++[V x.P #[#[k]] c0<|.ref c])<|nc+1)] [] [] [j4 (aI "dict") a8 #[#[k]]]:=by lk
def nee:Ev (ex x aj 570 (.code<|bM b_ 12 (.ref it)<|cn z)<|cf [(it,fw q a6)] sz tk (H 0xa70) [] [(q,aD vs)] Y) Y [] (.res<|.ok .next) [] [] [] [ig #[vs] a6]:=by lk
def Ov:av:=C1 x ol sz (.ok .next)<|cf [(sz,bi [V x.P bV tk<|.ref D,V x.P b6 (tk+13)<|.ref<|sz+2,V x.P bD f2 v0,V x.P cK J<|.bool true,V x.P eO K<|.ref U,V x.P cE (K+1)<|.ref G,V x.P cg (K+2)<|.ref<|G+1,V x.P eA bb ca,V x.P d7 f8 v8] 9<|us sz),((G+1),ak a8 nc)] dd bo (H 0xd90) [.bool true,.ref ds,ah [d] 0] [(ds,aa #[[.ref d3,.ref ed,.ref ef]] ec),(d3,aD [ah l dx,iN db du])] eC
def Ld(x:Wd)(ol:!aX)(sz:N):Ko:=(Ov ol 0 sz 0 0 0 0 0 0 0 0 0 0 0 0 0 0 0 0 0 0 0 0 [] .none .none .none (λ_=>#[[]]) [] x []).resume
def rkf:∀(x:Wd) g,Ev (Ov ol D sz tk J f2 U G K bb f8 nc ds ec d3 ed ef dx db du d dd bo l v0 ca v8 us a8 x g) g [0,1] (.pend 597 #[none,some (cn sz::ol),false] (.call (.builtin "str.lstrip") #[[ah ([d]++l)<|bo+10,ah [65]<|bo+11],[]])<|Ld x ol sz) [(sz,bi [V x.P bV tk<|.ref D,V x.P b6 (tk+13)<|.ref<|sz+2,V x.P bD f2 v0,V x.P cK J<|.bool true,V x.P eO K<|.ref U,V x.P cE (K+1)<|.ref G,V x.P cg (K+2)<|.ref<|G+1,V x.P eA bb ca,V x.P d7 f8 v8,V x.P kW bo .none,V x.P v_ (bo+6)<|ah l dx,V x.P vZ (bo+7)<|iN db du] 12<|us sz),((G+1),ak a8 nc)] [] [] [fO #[#[[d]]] #[#[l]],iZ #[#[[65,66,67]]] (ad db) #[#[[d]]],cR (aI "dict") a8 #[#[[70]]]<|aF ds,nD (aI "dict") a8 #[#[[70]]] true<|G+1]:=bB
def rkg:∀(x:Wd) t,Ev (Ld x ol sz (.ok<|.ret<|ah y ew)<|cf [(sz,bi [V x.P bV tk<|.ref D,V x.P b6 (tk+13)<|.ref<|sz+2,V x.P bD f2 v0,V x.P cK J<|.bool true,V x.P eO K<|.ref U,V x.P cE (K+1)<|.ref G,V x.P cg (K+2)<|.ref<|G+1,V x.P eA bb ca,V x.P d7 f8 v8,V x.P kW bo .none,V x.P v_ (bo+6)<|ah l dx,V x.P vZ (bo+7)<|iN db du] 12<|us sz),((G+1),ak a8 nc)] d2 eh (H 0x5c30420) [] [] t) t [1,2] (.res<|.ok<|.ret<|.ref d2) [((G+1),ak a8 nc)] [(d2,aa #[[.bool true,.ref G,.ref<|G+1,.bytes (jD #[#[y]])<|eh+1]] 0)] [] [uQ #[#[y]]]:=bB
def rkh:∀(x:Wd) g,Ev (C1 x ol sz (.ok .next)<|cf [(sz,bi [V x.P bV tk<|.ref D,V x.P b6 (tk+13)<|.ref<|sz+2,V x.P bD f2 v0,V x.P cK J<|.bool true,V x.P eO K<|.ref U,V x.P cE (K+1)<|.ref G,V x.P cg (K+2)<|.ref<|G+1,V x.P eA bb ca,V x.P d7 f8 v8] 9<|us sz),((G+1),ak a8 nc)] dd bo (H 0x555930) [.bool false] [] g) g [1,2] (.res<|.ok<|.ret<|.ref dd) [((G+1),ak a8 nc)] [(dd,aa #[[.bool true,.ref G,.ref<|G+1,.none]] 0)] [] [nD (aI "dict") a8 #[#[[70]]] false<|G+1]:=bB
def Oq:av:=C0 x ol sz (.ok .next)<|cf [(sz,bi [V x.P bV tk<|.ref D,V x.P b6 (tk+13)<|.ref<|sz+2,V x.P bD f2 v0,V x.P cK J<|.bool false,V x.P eO K<|.ref U,V x.P cE (K+1)<|.ref G,V x.P cg (K+2)<|.ref<|G+1,V x.P eA bb ca,V x.P d7 f8 v8] 9<|c2 sz),((G+1),ak a8 nc)] dd bo (H 0xd90) [.bool true,.ref ds,ah [d] 0] [(ds,aa #[[.ref d3,.ref ed,.ref ef]] ec),(d3,aD [ah l dx,iN db du])] eM
def K9(x:Wd)(ol:!aX)(sz:N):Ko:=(Oq ol 0 sz 0 0 0 0 0 0 0 0 0 0 0 0 0 0 0 0 0 0 0 0 [] .none .none .none (λ_=>#[[]]) [] x []).resume
def rgf:∀(x:Wd) t,Ev (Oq ol D sz tk J f2 U G K bb f8 nc ds ec d3 ed ef dx db du d dd bo l v0 ca v8 c2 a8 x t) t [0,1] (.pend 597 #[none,some (cn sz::ol),false] (.call (.builtin "str.lstrip") #[[ah ([d]++l)<|bo+10,ah [65]<|bo+11],[]])<|K9 x ol sz) [(sz,bi [V x.P bV tk<|.ref D,V x.P b6 (tk+13)<|.ref<|sz+2,V x.P bD f2 v0,V x.P cK J<|.bool false,V x.P eO K<|.ref U,V x.P cE (K+1)<|.ref G,V x.P cg (K+2)<|.ref<|G+1,V x.P eA bb ca,V x.P d7 f8 v8,V x.P kW bo .none,V x.P v_ (bo+6)<|ah l dx,V x.P vZ (bo+7)<|iN db du] 12<|c2 sz),((G+1),ak a8 nc)] [] [] [fO #[#[[d]]] #[#[l]],iZ #[#[[65,66,67]]] (ad db) #[#[[d]]],cR (aI "dict") a8 #[#[[70]]]<|aF ds,nD (aI "dict") a8 #[#[[70]]] true<|G+1]:=bB
def rgg:∀(x:Wd) a,Ev (K9 x ol sz (.ok<|.ret<|ah y ew)<|cf [(sz,bi [V x.P bV tk<|.ref D,V x.P b6 (tk+13)<|.ref<|sz+2,V x.P bD f2 v0,V x.P cK J<|.bool false,V x.P eO K<|.ref U,V x.P cE (K+1)<|.ref G,V x.P cg (K+2)<|.ref<|G+1,V x.P eA bb ca,V x.P d7 f8 v8,V x.P kW bo .none,V x.P v_ (bo+6)<|ah l dx,V x.P vZ (bo+7)<|iN db du] 12<|c2 sz),((G+1),ak a8 nc)] d2 eh (H 0x5c30420) [] [] a) a [1,2] (.res<|.ok<|.ret<|.ref d2) [((G+1),ak a8 nc)] [(d2,aa #[[.bool false,.ref G,.ref<|G+1,.bytes (jD #[#[y]])<|eh+1]] 0)] [] [uQ #[#[y]]]:=bB
def rgh:∀(x:Wd) t,Ev (C0 x ol sz (.ok .next)<|cf [(sz,bi [V x.P bV tk<|.ref D,V x.P b6 (tk+13)<|.ref<|sz+2,V x.P bD f2 v0,V x.P cK J<|.bool false,V x.P eO K<|.ref U,V x.P cE (K+1)<|.ref G,V x.P cg (K+2)<|.ref<|G+1,V x.P eA bb ca,V x.P d7 f8 v8] 9<|c2 sz),((G+1),ak a8 nc)] dd bo (H 0x555930) [.bool false] [] t) t [1,2] (.res<|.ok<|.ret<|.ref dd) [((G+1),ak a8 nc)] [(dd,aa #[[.bool false,.ref G,.ref<|G+1,.none]] 0)] [] [nD (aI "dict") a8 #[#[[70]]] false<|G+1]:=bB
end
def ay.pu{x:Wd}{t:Mk}{b a n:N}{c:bj}{F:Fs}{Q:Po}{L1 L2:ao}{xs:!af}{v:af}(g:ay x t b c F (L1++(a,aa #[xs++[v]] n)::L2) Q):ay x t b c F (L1++(a,aa ((ar xs).push v) n)::L2) Q:=kr xs v▸g
def ay.hd{x:Wd}{b:N}{c:bj}{F:Fs}{L:ao}{Q:Po}(g:ay x aj b c F L Q){d:Option (!aX)}{k:Bool}:ay x #[none,d,k] b c F L Q:=λw B s A C H=>g w B s A #[C.1,C.2.1,C.2.2.1,λK U=>(nn U)] H
inductive j7:!(!N)->Prop
 |leaf (n w:!N):w.length=3->j7 [n,w]
 |jI (n a b:!N):a.length<3->b.length<3->j7 [n,a,b]
 |ext (n a:!N):a.length<3->j7 [n,a]
def gK(g:PG):!(!N)->PG
 |[n,a]=>if a.length<3 then bz a (gR n) (bz n (jK 1) g)else bz n (jK 0) g
 |[n,a,b]=>bz b (gR n)<|bz a (gR n)<|bz n (jK 2) g
 |_=>g
section
variable{x:Wd} {S:Sg} {po nf:Int} {tp tf:N}
abbrev Ip(x:Wd)(S:Sg)(z w f0 f1:N):aH×Obj:=(z,az [V x.P bV f0<|.ref w,V x.P b6 f1<|.ref S.so] 2)
abbrev vb(x:Wd)(S:Sg)(z w f0 f1 f2:N)(v:af):aH×Obj:=(z,az [V x.P bV f0<|.ref w,V x.P b6 f1<|.ref S.so,V x.P bD f2 v] 3)
abbrev sS(it z:N):bj:=bM b_ 1 (.ref it)<|cn z
def f_(h:l.length<=10000):cm #[l]:=by rw[tZ h]
def E1{it z m ne b:N}{K:aL->aR->av}{au:!Prop}(e:∀Z,Ev (o Z) Z bl (.pend 589 aj (.call (.ref m) #[bb,[]]) K) ([pM m 112 S.so]++[D,eU it a6 i,S.D x.P .none po tp nf tf]) [] a7 au)(j:AB a7)(c:AP au)(g:∀F,F S.so (a9 S.sd)->ay x aj 250 (.call (.ref 112) #[.ref S.so::bb,[]]) F ([S.D x.P .none po tp nf tf,S.N (aG x.P ns) ne]++Gr ns) (rT x S po tp nf tf a8 b))(W:F S.so (a9 S.sd))(O:∀J G Z,Ev (K (.ok<|.ret .none)<|cf [] J G [] [] [] Z) Z [] (.next<|sS it z) [] [] [] [])(h:∀F' d y,Le F F'->d.map Nd.pg=a8->Bd d b->ay x aj 590 (sS it z) F' ([D,eU it a6 i,S.D x.P .none po tp nf tf]++([S.N (aG x.P d) y]++Gr d)) Q):Go x aj 590 F Q F ([S.N (aG x.P ns) ne]++Gr ns) o:=by
 rw[bP (Z:=[D,eU it a6 i]) e j c ?_ ((RD<|g _<|an _ _ W).le ζ λ_ _ _ _ U=>U) λr F' f l q=>?_]
 .rw[pm [[pM m 112 S.so],[D,eU it a6 i],_,_,Gr ns] (.p (.p (.a 0)<|.p (.a 1)<|.a 2)<|.p (.a 3)<|.a 4) (.p (.p (.a 0)<|.p (.p (.a 2)<|.a 3)<|.a 4)<|.a 1) rfl]
 .rw[q.casesOn λd k y M X I Y=>?_]
  subst M;rw[#[[],_,.refl _,_,_,[],ab,λJ G=>bu (O J G) ab ab rfl (bO l)<|.perm ((X.append_right _).trans<|pm [[D,eU it a6 i],[S.D x.P .none po tp nf tf],_,Gr d] (.p (.p (.p (.a 1)<|.a 2)<|.a 3)<|.a 0) (.p (.p (.a 0)<|.a 1)<|.p (.a 2)<|.a 3) rfl)<|h _ d y (cb<|bO l) I Y]]
inductive QA (x:Wd) (S:Sg) (po nf:Int) (tp tf z rl f0 f1:N) (g:PG) (zz:N) (F':Fs):aL->ao->Prop
 |mk {L':ao} (f2 v ns ne) (h1:ns.map Nd.pg=g) (h2:Bd ns zz) (h3:L'.Perm ([vb x S z rl f0 f1 f2 v,S.D x.P .none po tp nf tf]++([S.N (aG x.P ns) ne]++Gr ns))):QA x S po nf tp tf z rl f0 f1 g zz F' (.ok .next) L'
def yM(h:Rp F (dG [a,b]) v):∃e nw f Z,v=.ref e/\F e (aa #[[.str #[#[a]] f,.str #[#[b]] Z]] nw):=by rw[gX (dW.mp h) λe Q nw j c M=>?_];subst j;obtain⟨l,E,rfl,O,M⟩:=cq.mp M;obtain⟨o,E,rfl,w,M⟩:=cq.mp M;obtain rfl:=eu.mp M;obtain⟨D,rfl⟩:=c9.mp O;obtain⟨S,rfl⟩:=c9.mp w;rw[vf e nw D S rfl c]
def PN(h:Rp F (dG [a,b,c]) v):∃e nw f Z t,v=.ref e/\F e (aa #[[.str #[#[a]] f,.str #[#[b]] Z,.str #[#[c]] t]] nw):=by rw[gX (dW.mp h) λe Q nw j d M=>?_];subst j;obtain⟨l,E,rfl,O,M⟩:=cq.mp M;obtain⟨o,E,rfl,w,M⟩:=cq.mp M;obtain⟨n,E,rfl,L,M⟩:=cq.mp M;obtain rfl:=eu.mp M;obtain⟨D,rfl⟩:=c9.mp O;obtain⟨S,rfl⟩:=c9.mp w;obtain⟨T,rfl⟩:=c9.mp L;rw[vg e nw D S T rfl d]
def hM{i:N}(h:D[i]? =some v):df (ar D) (i:Int) v:=by show(ar D)[(i:Int).toNat]? =_;simpa using h
def yx(h:xV D=true)(W:xs.length<=100):ma D (ar []) (ar xs):=#[h,by rw[aj4 W]]
def uh(h:l.length<=100):dJ #[#[l]]:=by rw[afS h]
def Ca:xV (.type "list")=true:=by lk
def QJ{it z w nr i f0 f1 ne t:N}(hk:j7 U)(W:F S.so (a9 S.sd))(k:1<S.nd)(r:F w (aa #[D] nr))(hi:D[i]? =some v)(A:Rp F (dG U) v)(hz:Bd ns t)(m:t<=9000)(h:∀F' f2 v d y,Le F F'->d.map Nd.pg=gK (ns.map Nd.pg) U->Bd d (t+6)->ay x aj 590 (sS it z) F' ([vb x S z w f0 f1 f2 v,eU it w<|i+1,S.D x.P .none po tp nf tf]++([S.N (aG x.P d) y]++Gr d)) Q):ay x aj 590 (sS it z) F ([xJ x S z w f0 f1 q,eU it w i,S.D x.P .none po tp nf tf]++([S.N (aG x.P ns) ne]++Gr ns)) Q:=by
 cases hk with
 |leaf n T Y=>
  rw[lz (yM A) λe E p s H c=>?_];subst H;rw[bJ (O:=[(w,aa #[D] nr),(e,aa #[_] E),(S.so,a9 S.sd)]) #[r,c,W,ab] λB K=>E1 (rL q x) #[decide_eq_false<|by lia,ab] #[yx Ca<|dm _,uh<|by lia,hM hi,ab] (λF W=>aqT W k rfl hz m) W (λJ G=>apf B z it p J G n x) λF' d y l g M=>h F' (fF q K) (.ref e) d y l (by rw[g,];show _=if T.length<3 then _ else _;rw[if_neg<|by lia,]) #[by have:=M.1;lia,λq u=>by have:=M.2 q u;lia]]
 |jI n a b o j=>
  rw[n_ (PN A) λe E p f Z C c=>?_];subst C;rw[bJ (O:=[(w,aa #[D] nr),(e,aa #[_] E),(S.so,a9 S.sd)]) #[r,c,W,ab] λB K=>E1 (rI q x) #[decide_eq_true<|by lia,decide_eq_true<|by lia,ab] #[yx Ca<|by simp,uh<|by lia,uh<|by lia,hM hi,ab] (λF W=>aqV W k rfl hz m) W (λJ G=>ape B z it p J G f Z n a b x) λF' d y l g M=>h F' (fF q K) (.ref e) d y l g #[by have:=M.1;rw[L0 this],λq u=>by have:=M.2 q u;rw[L0 this]]]
 |ext n a o=>
  rw[lz (yM A) λe E p f H c=>?_];subst H;rw[bJ (O:=[(w,aa #[D] nr),(e,aa #[_] E),(S.so,a9 S.sd)]) #[r,c,W,ab] λB K=>E1 (rX q x) #[decide_eq_true<|by lia,ab] #[yx Ca<|sB _,uh<|by lia,hM hi,ab] (λF W=>aqU W k rfl hz m) W (λJ G=>apg B z it p J G f n a x) λF' d y l g M=>h F' (fF q K) (.ref e) d y l (by rw[g,];show _=if a.length<3 then _ else _;rw[if_pos o,]) #[by have:=M.1;rw[L5 this],λq u=>by have:=M.2 q u;rw[L5 this]]]
def afu{it z w nr f0 f1:N}(k:1<S.nd):∀{done:!(List<|List N)} {f2 ne J v0 ns F},F S.so (a9 S.sd)->F w (aa #[D] nr)->aM F ((done++rest).map dG) D->(∀r∈rest,j7 r)->Bd ns J->J+6*rest.length<=9000->ay x aj 590 (sS it z) F ([vb x S z w f0 f1 f2 v0,eU it w done.length,S.D x.P .none po tp nf tf]++([S.N (aG x.P ns) ne]++Gr ns)) (QA x S po nf tp tf z w f0 f1 (rest.foldl gK<|ns.map Nd.pg)<|J+6*rest.length):=by
 induction rest with
 |nil=>
  intro done f2 ne J v0 ns F W b A c Z i;rw[.perm (pm [[vb x S z w f0 f1 f2 v0],[eU it w done.length],_,_++Gr ns] (.p (.p (.a 0)<|.p (.a 1)<|.a 2)<|.a 3) (.p (.a 1)<|.p (.p (.a 0)<|.a 2)<|.a 3) rfl) ?_];rw[bJ (O:=[(w,aa #[D] nr)]) #[b,ab] λB K=>bp (rAe w nr B K z it D done.length x) ab #[by show(ar D)[(done.length:Int).toNat]? =_;have:=A.length;simp[this],ab] (aV) #[f2,v0,ns,ne,rfl,Z,.refl _]]
 |cons r rest C=>intro done f2 ne J v0 ns F W b A c Z i;obtain⟨v,X,G⟩:=A.get done.length (x:=dG r) (by rw[bf,oP<|by simp];simp);rw[QJ (q:=some (_,_)) (c r<|.head _) W k b X G Z (aj5 i) λT f2 v d y l e M=>?_];have z:=C (f2:=f2) (ne:=y) (v0:=v) (l _ _ W) (l _ _ b) ((by simp:done++r::rest=(done++[r])++rest)▸A.to l) (λq U=>c q<|.tail _ U) M<|aj6 i;simp only[e]at z;simp only[cv]at z;simp only[dN,show J+6*(rest.length+1)=J+6+6*rest.length by rw[aj7]];rw[z]
def aru{it z w nr f0 f1 ne:N}(k:1<S.nd)(W:F S.so (a9 S.sd))(a:F w (aa #[D] nr))(A:aM F ((r::rest).map dG) D)(hk:∀q∈r::rest,j7 q)(i:rest.length<=1000):ay x aj 590 (sS it z) F ([Ip x S z w f0 f1,eU it w 0,S.D x.P .none po tp nf tf]++([S.N [] ne]++Gr [])) (QA x S po nf tp tf z w f0 f1 ((r::rest).foldl gK [])<|6+6*rest.length):=by rw[aJ (A.get 0 rfl) λv X G=>QJ (q:=none) (hk r<|.head _) W k a X G ⟨d8 _,λK U=>(cQ U).elim⟩ (aj8) λT f v d y l b M=>?_];have z:=afu (x:=x) (po:=po) (nf:=nf) (tp:=tp) (tf:=tf) (it:=it) (z:=z) (f0:=f0) (f1:=f1) k (done:=[r]) (f2:=f) (ne:=y) (v0:=v) (l _ _ W) (l _ _ a) (A.to l) (λq U=>hk q<|.tail _ U) M<|aj9 i;simp only[b]at z;rw[z]
end
def qO:!(!N)->!(!N×PV)
 |[n,a]=>if a.length<3 then[]else[(n,.lst [.str a])]
 |[n,a,b]=>[(n,.lst [.str a,.str b])]
 |_=>[]
structure kD (F:Fs) (au:!(N×De)) (m:!(!N×PV)):Prop where
 at_:∀p∈au,F p.1 (aD [ax (p.2.1,p.2.2.1),p.2.2.2])
 rp:bS F (au.map (·.2)) m
def kD.to{F F':Fs}(T:Le F F'){au:!(N×De)}{m:!(!N×PV)}(h:kD F au m):kD F' au m:=#[λp I=>T _ _<|h.at_ p I,h.rp.to T]
def kD.push{F:Fs}{au:!(N×De)}{m:!(!N×PV)}(h:kD F au m){a t:N}{n:!N}{v:af}{p:PV}(o:F a (aD [ax (n,t),v]))(I:Rp F p v):kD F (au++[(a,n,t,v)]) (m++[(n,p)]):=#[λq u=>(ek.mp u).elim (h.at_ q) λu=>by rw[(iA.mp u)▸o],by rw[bf▸h.rp.push I]]
section
variable{x:Wd}
abbrev cC(it ac z:N):bj:=fT b_ 1 (.ref it) (.ref ac)<|fR b_ 1 (cn z)<|ac+1
def QP{it z w nr i ac na:N}{au:!(N×De)}(hk:j7 G)(g:F w (aa #[D] nr))(hi:D[i]? =some v)(A:Rp F (dG G) v)(hz:au.length<=9000)(I:kD F au m)(h:∀F' f2 v d t,Le F F'->kD F' t (m++qO G)->t.length<=au.length+1->ay x aj 590 (cC it ac z) F' [eU it w<|i+1,(ac,aa #[t.map oy] d),(ac+1,ak [V x.P bD f2 v] 1)] Q):ay x aj 590 (cC it ac z) F [eU it w i,(ac,aa #[au.map oy] na),xe x (ac+1) q] Q:=by
 have k:cm (ar<|au.map oy):=f_ (by rw[aU,];rw[L9 hz]);cases hk with
 |leaf n T Y=>
  rw[lz (yM A) λe E p s H c=>?_];subst H;refine iW (O:=[(w,aa #[D] nr),(e,aa #[_] E)]) #[g,c,ab] λB K=>bu (cL q x) #[by simp[Y],ab] #[k,uh<|ahu Y,hM hi,ab] rfl (aV)<|.pu (L1:=[_]) ?_;have z:=h _ (fF q K) (.ref e) (na+1) (au++[(B+2,n,p,.ref<|B+1)]) (an (X:=[(B+1,aa #[_] 0),(B+2,aD _)])) (by show kD _ _ (m++if T.length<3 then _ else _);rw[if_neg<|yi Y,];rw[(I.to an).push (bc<|.tail _<|.head _)<|dW.mpr<|gE (B+1) _ 0 rfl (bc<|.head _)<|.cons (c9.mpr #[s,rfl]) .nil]) (by simp)
  rw[bf]at z;rw[z]
 |jI n a b o j=>rw[n_ (PN A) λe E p f Z C c=>?_];subst C;rw[iW (O:=[(w,aa #[D] nr),(e,aa #[_] E)]) #[g,c,ab] λB K=>bu (cI q x) ab #[k,hM hi,ab] rfl (aV)<|.pu (L1:=[_]) ?_];have z:=h _ (fF q K) (.ref e) (na+1) (au++[(B+2,n,p,.ref<|B+1)]) (an (X:=[(B+1,aa #[_] 0),(B+2,aD _)])) ((I.to an).push (bc<|.tail _<|.head _)<|dW.mpr<|gE (B+1) _ 0 rfl (bc<|.head _)<|.cons (c9.mpr #[f,rfl])<|.cons (c9.mpr #[Z,rfl]) .nil) (by simp);rw[bf]at z;rw[z]
 |ext n a o=>
  rw[lz (yM A) λe E p f H c=>?_];subst H;refine iW (O:=[(w,aa #[D] nr),(e,aa #[_] E)]) #[g,c,ab] λB K=>bu (cX q x) #[by rw[beq_eq_false_iff_ne,];lia,ab] #[uh<|by lia,hM hi,ab] rfl (aV) ?_;rw[h _ (fF q K) (.ref e) na au an (by show kD _ _ (m++if a.length<3 then _ else _);rw[if_pos o,bQ];rw[I.to an])<|oZ _]
inductive QC (x:Wd) (ac:N) (m:!(!N×PV)) (F':Fs):aL->ao->Prop
 |mk (f v na au) (h1:kD F' au m):QC x ac m F' (.ok .next) [(ac,aa #[au.map oy] na),(ac+1,ak [V x.P bD f v] 1)]
def afw{it z w nr ac:N}:∀{done:!(List<|List N)} {f2 na v0 au m F},F w (aa #[D] nr)->aM F ((done++rest).map dG) D->(∀r∈rest,j7 r)->kD F au m->au.length+rest.length<=9000->ay x aj 590 (cC it ac z) F [eU it w done.length,(ac,aa #[au.map oy] na),(ac+1,ak [V x.P bD f2 v0] 1)] (QC x ac<|m++rest.flatMap qO):=by
 induction rest with
 |nil=>
  intro done f2 na v0 au m F a A c I i;rw[bJ (L:=[eU it w done.length]) (O:=[(w,aa #[D] nr)]) #[a,ab] λB K=>bp (ce w nr B K z it ac D done.length x) ab #[by show(ar D)[(done.length:Int).toNat]? =_;have:=A.length;simp[this],ab] (aV) #[f2,v0,na,au,by simp only[List.flatMap_nil,bQ];rw[I.to an]]]
 |cons r rest C=>intro done f2 na v0 au m F a A c I i;obtain⟨v,X,G⟩:=A.get done.length (x:=dG r) (by rw[bf,oP<|by simp];simp);rw[QP (q:=some (_,_)) (c r<|.head _) a X G (Do i) I λT f2 v d t l b M=>?_];have z:=C (f2:=f2) (na:=d) (v0:=v) (l _ _ a) ((by simp:done++r::rest=(done++[r])++rest)▸A.to l) (λq U=>c q<|.tail _ U) b<|ajw i M;simp only[cv,b4]at z;rw[z]
def VV{it z w nr ac:N}(b:F w (aa #[D] nr))(A:aM F ((r::rest).map dG) D)(hk:∀q∈r::rest,j7 q)(i:rest.length<=8000):ay x aj 590 (jd b_ 1 (.ref it) (.ref ac)<|fR b_ 1 (cn z)<|ac+1) F [eU it w 0,(ac,aa #[[]] 0),(ac+1,ak [] 0)] (QC x ac<|(r::rest).flatMap qO):=aJ (A.get 0 rfl) λv X G=>bJ (O:=[]) ab λB K=>bu (cs w B K z it ac x) ab ab rfl (aV)<|QP (q:=none) (hk r<|.head _) (an _ _ b) X (G.to an) (dm _) ⟨λJ U=>(cQ U).elim,.nil⟩ λT f v d t l c M=>afw (done:=[r]) (l _ _<|an _ _ b) (A.to λa Y U=>l a Y<|an a Y U) (λq U=>hk q<|.tail _ U) c (by simp at M;rw[ajx i M])
end
abbrev nK:=List<|List N×!(!N)
abbrev cJ:=List<|List N×jw
abbrev gA(m:nK):!(!N×PV):=m.map λp=>(p.1,.lst<|p.2.map .str)
abbrev eR(m:cJ):!(!N×PV):=m.map λp=>(p.1,nR p.2)
def ug{f:D->G}:∀{l},aZ (l.map λp=>(p.1,f p.2)) k=(aZ l k).map f:=by
 intro J;induction J with
 |nil=>rw[rfl]
 |cons e l C=>
  show(if e.1=k then _ else _)=wU f (if e.1=k then _ else _);by_cases U:e.1=k
  .rw[if_pos U,if_pos U];rfl
  .rw[if_neg U,if_neg U];rw[C]
def DR(y:!N×N):Prop:=y.1≠[]/\y.1.length<=100
inductive qh (m:nK) (cs:cJ) (k:!N):jw->Prop
 |leaf (i j l:N):i<16->j<16->l<16->aZ m k=some [[65+i,65+j,65+l]]->qh m cs k (vq (i+j+l))
 |jI (ku kl:!N) (y1 y2 y3:!N×N) (up:jw):aZ m k=some [ku,kl]->aZ cs kl=some [y1,y2,y3]->aZ cs ku=some up->up.length=3->(∀y∈[y1,y2,y3],y.2<3/\DR y)->(∀z∈up,DR z)->qh m cs k (xR [y1,y2,y3] up)
inductive mZ (m:nK):!(!N)->cJ->cJ->Prop
 |nil {cs:cJ}:mZ m [] cs cs
 |cons {k:!N} {ks:!(!N)} {cs eK:cJ} {c:jw}:qh m cs k c->aZ cs k=none->mZ m ks (cs++[(k,c)]) eK->mZ m (k::ks) cs eK
section
variable{x:Wd} {S:Sg}
def Rt{cs:cJ}(h:qh m cs k c)(ac:bS F a7 (gA m))(d:bS F a6 (eR cs)):∃S,d5 (aB x.P a7) #[#[k]]=some (.ref S)/\ ay x aj 300 (.call (.ref 898) #[[.ref S,.ref cd],[]]) F [(cd,ak (aB x.P a6) nc)] (uT [(cd,ak (aB x.P a6) nc)] c):=by
 have u:∀E,aZ m k=some E->aZ (gA m) k=some (.lst<|E.map .str):=λE e=>by rw[(ug (f:=λT:!(!N)=>PV.lst<|T.map .str)).trans (by rw[e,];rfl)]
 have I:∀K T,aZ cs K=some T->aZ (eR cs) K=some (nR T):=λK T e=>by simp only[ug,e];rfl
 cases h with
 |leaf i ca l bl M X H=>
  rw[nZ (ac.get<|u _ H) λD v z r=>gX (dW.mp r) λS bt n j Q R=>?_];subst j;obtain⟨bs,E,rfl,O,R⟩:=cq.mp R;obtain rfl:=eu.mp R;obtain⟨U,rfl⟩:=c9.mp O;rw[bA S (by simp only[lw,z];rfl) (λw B s A C o=>jE (ari bl M X Q ((cd,ak (aB x.P a6) nc)::w) B s A C o) λr P y=>cp y λa8 b0 l W q=>by obtain⟨a,q⟩:=q;rw[bY a8 _ l W #[a,q]])]
 |jI G t ck J p L H bo g X b Z=>rw[nZ (ac.get<|u _ H) λD v z r=>gX (dW.mp r) λS bt n j Q R=>?_];subst j;obtain⟨bs,E,rfl,O,R⟩:=cq.mp R;obtain⟨ch,E,rfl,bb,R⟩:=cq.mp R;obtain rfl:=eu.mp R;obtain⟨U,rfl⟩:=c9.mp O;obtain⟨Y,rfl⟩:=c9.mp bb;rw[bA S (by simp only[lw,z];rfl)<|arj Q d (I _ _ bo) (I _ _ g) X b Z]
abbrev s8(x:Wd)(S:Sg)(w:W7):aH×Obj:=(w.z,bi (lC x S w []) 7<|w.us w.z)
abbrev BO(x:Wd)(S:Sg)(w:W7)(q t:N):aH×Obj:=(w.z,bi (lC x S w [V x.P eA t<|.ref q]) 8<|w.us w.z)
abbrev dv(x:Wd)(S:Sg)(w:W7)(t k:N)(v q:af):aH×Obj:=(w.z,bi (lC x S w [V x.P eA t v,V x.P d7 k q]) 9<|w.us w.z)
abbrev iO(x:Wd)(w:W7)(e:!De)(nb:N):aH×Obj:=(w.bd,ak (aB x.P e) nb)
abbrev jc(x:Wd)(w:W7)(R:!De)(nc:N):aH×Obj:=(w.cd,ak (aB x.P R) nc)
abbrev cN(it z:N):bj:=bM b_ 12 (.ref it)<|cn z
def Pi{cs:cJ}(d:bS F D (eR cs))(w:aZ cs k=none)(a:cs.length<=1000):j4 (.type "dict") (aB x.P D) #[#[k]]:=
 #[dM,jS _ _,by rw[lw,d.none (by unfold eR;rw[ug,w];rfl)];rfl,by have:=d.length;rw[aU]at this;unfold aB;rw[aU,];rw[Mg a this]]
def RM{cs:cJ}{K:aL->aR->av}{au:!Prop}(e:∀Z,Ev (o Z) Z bs (.pend 569 aj (.call (.ref 898) #[[.ref bl,.ref w.cd],[]]) K) [dv x S w a7 f8 (.ref q)<|.str #[#[k]] a6,eQ it q<|i+1,iO x w a8 nb] [] bb au)(j:AB bb)(t:AP au)(g:ay x aj 300 (.call (.ref 898) #[[.ref bl,.ref w.cd],[]]) (fz F []) [jc x w D nc] (uT [jc x w D nc] c))(O:∀a J G Z,Ev (K (.ok<|.ret<|.ref a)<|cf [dv x S w a7 f8 (.ref q)<|.str #[#[k]] a6,jc x w D nc] J G bo [] [] Z) Z [0,1] (.next<|cN it w.z) [dv x S w a7 f8 (.ref q)<|.str #[#[k]] a6,(w.cd,ak (aB x.P D++[V x.P #[#[k]] a6<|.ref a])<|nc+1)] [] [] [j4 (.type "dict") (aB x.P D) #[#[k]]])(I:j4 (.type "dict") (aB x.P D) #[#[k]])(d:bS F D (eR cs))(h:∀F' b,Le F F'->bS F' b (eR<|cs++[(k,c)])->ay x aj 570 (cN it w.z) F' [dv x S w a7 f8 (.ref q)<|.str #[#[k]] a6,eQ it q<|i+1,iO x w a8 nb,jc x w b<|nc+1] Q):Go x aj 570 F Q F [jc x w D nc] o:=by
 rw[bP (Z:=[dv x S w a7 f8 (.ref q)<|.str #[#[k]] a6,eQ it q<|i+1,iO x w a8 nb]) e j t ?_ (g.le ζ λ_ _ _ _ U=>U) λr F' f l q=>?_]
 .rw[pm [[dv x S w a7 f8 (.ref q)<|.str #[#[k]] a6,eQ it q<|i+1,iO x w a8 nb],_] (.p (.a 0)<|.a 1) (.p (.a 1)<|.a 0) rfl]
 .obtain⟨a,X⟩:=q
  have m:=bO l;rw[#[_,[eQ it q<|i+1,iO x w a8 nb],pm [[jc x w D nc],[dv x S w a7 f8 (.ref q)<|.str #[#[k]] a6],_] (.p (.a 0)<|.p (.a 1)<|.a 2) (.p (.p (.a 1)<|.a 0)<|.a 2) rfl,_,_,[],ab,λJ G=>bu (O a J G) ab #[I,ab] rfl m ?_]];have z:=h (fz F' []) (D++[(k,a6,.ref a)]) (cb m) (by simp only[bf];rw[(d.to λp o U=>an p o<|m p o U).push<|X.to an])
  unfold jc aB at z;rw[bf]at z;rw[.perm (pm [[dv x S w a7 f8 (.ref q)<|.str #[#[k]] a6],_,_] (.p (.p (.a 0)<|.a 2)<|.a 1) (.p (.a 0)<|.p (.a 1)<|.a 2) rfl) z]
inductive QN (x:Wd) (S:Sg) (w:W7) (q f7:N) (bes:!De) (nb:N) (cs:cJ) (F':Fs):aL->ao->Prop
 |mk (f8 v8 ces nc) (h1:bS F' ces (eR cs)):QN x S w q f7 bes nb cs F' (.ok .next) [dv x S w f7 f8 (.ref q) v8,iO x w bes nb,jc x w ces nc]
def LH:∀{au:!(!N×N)} {v8 nc cs R F},F q (aD<|(au++rest).map ax)->bS F a6 (gA m)->bS F R (eR cs)->mZ m (rest.map (·.1)) cs eK->cs.length+rest.length<=1000->ay x aj 570 (cN it w.z) F [dv x S w D f8 (.ref q) v8,eQ it q au.length,iO x w a6 nb,jc x w R nc] (QN x S w q D a6 nb eK):=by
 induction rest with
 |nil=>intro au v8 nc cs R F u j d U i;cases U;rw[.perm (pm [[dv x S w D f8 (.ref q) v8],[eQ it q au.length],_] (.p (.a 0)<|.p (.a 1)<|.a 2) (.p (.a 1)<|.p (.a 0)<|.a 2) rfl) ?_];rw[bQ]at u;rw[bJ (L:=[eQ it q au.length]) (O:=[(q,aD<|au.map ax)]) ⟨u,ab⟩ λB K=>bp (nee B K w.z it q (au.map ax) au.length x) ab #[aQ,ab] (aV) #[f8,v8,R,nc,d.to an]]
 |cons y rest C=>
  intro au v8 nc cs R F u j d U i;cases U with
  |cons b M X=>
   rw[aJ (Rt (x:=x) (cd:=w.cd) (nc:=nc) b (j.to an)<|d.to (F':=fz F []) an) λn t g=>?_];exact bJ (L:=[dv x S w D f8 (.ref q) v8,eQ it q au.length,iO x w a6 nb]) (O:=[(q,aD<|(au++y::rest).map ax)]) ⟨u,ab⟩ λB K=>RM (n1a w B K S.so it nb q D f8 n y.2 ((au++y::rest).map ax) au.length y.1 v8 (aB x.P a6) x) ab #[#[dM,jS _ _,t],rF,ab] g (λa J G=>n1r w S.so it J G q D f8 nc y.2 a y.1 (aB x.P R) x) (Pi d M<|Mh i) d λT Z l o=>by have z:=C (au:=au++[y]) (v8:=ax y) (nc:=nc+1) (l _ _ (by rw[b4,];rw[u])) (j.to l) o X (by rw[cv,];simp only[dN,ld];rw[ye i]);simp only[cv]at z;rw[z]
def afE{cs eK:cJ}(u:F q (aD<|(y::rest).map ax))(j:bS F D (gA m))(d:bS F a6 (eR cs))(h:mZ m ((y::rest).map (·.1)) cs eK)(i:cs.length+(rest.length+1)<=1000):ay x aj 570 (cN it w.z) F [BO x S w q U,eQ it q 0,iO x w D nb,jc x w a6 nc] (QN x S w q U D nb eK):=by
 cases h with
 |cons b M X=>
  rw[aJ (Rt (x:=x) (cd:=w.cd) (nc:=nc) b (j.to an)<|d.to (F':=fz F []) an) λn t g=>?_];rw[bJ (L:=[BO x S w q U,eQ it q 0,iO x w D nb]) (O:=[(q,aD<|(y::rest).map ax)]) ⟨u,ab⟩ λB K=>RM (n0a w B K S.so it nb q U n y.2 ((y::rest).map ax) 0 y.1 (aB x.P D) x) ab #[#[dM,jS _ _,t],rF (au:=[]),ab] g (λa J G=>n0r w K S.so it J G q U nc y.2 a y.1 (aB x.P a6) x) (Pi d M<|Mh i) d λT Z l o=>LH (au:=[y]) (l _ _ u) (j.to l) o X (by rw[cv,];simp only[dN,ld];rw[ye i])]
end
def bg.vc{x:Wd}{F:Fs}{L2 L:ao}{B s:aN}(S:bg x F (L2++L) B s):bg x (fz F L2) L B s:=bg.back (L1:=[]) S.base (S.run (O:=[]) (h:=[]) (gv:=[]) ab) (rB S.rep.nd).1 λK U=>U
def ay.vc{x:Wd}{F:Fs}{t:Mk}{b:N}{c:bj}{L2 L:ao}{Q:Po}(g:ay x t b c (fz F L2) L Q):ay x t b c F (L2++L) Q:=λw B s A C H=>by rw[b4]at H;rw[jE (g w B s A C H.vc) λr P y=>cp y λT h l W q=>bY T h (bO l) W q]
inductive o_ (m:nK):!(!N)->PG->cJ->!(!(!N))->N->cJ->!(!(!N))->Prop
 |nil {g:PG} {cs:cJ} {rd:!(!(!N))} {i:N}:o_ m [] g cs rd i cs rd
 |cons {k:!N} {ks so:!(!N)} {g:PG} {cs c1 c2:cJ} {rd yH:!(!(!N))} {i:N}:mZ m (k::ks) cs c1->(∀y∈k::ks,y∈bC g)->qS (k::ks) (fX (k::ks) g)->so.Perm (k::ks)->oG so->i+(ks.length+1)<10->
   o_ m (fU (k::ks) (fX (k::ks) g)).2 (fU (k::ks) (fX (k::ks) g)).1 c1 (rd++[so]) (i+(ks.length+1)) c2 yH->o_ m (k::ks) g cs rd i c2 yH
def Na{a b c:!N}(d:¬b<a)(M:¬c<b):¬c<a:=wK.mpr<|List.le_trans (wK.mp d)<|wK.mp M
def apt:∀(l p),Ac (jT p) (l.map jT)=true->(p::l).Pairwise λa b=>¬b<a:=by
 intro J;induction J with
 |nil=>intro _ _;rw[Td _ _]
 |cons y l C=>
  intro p U;have S:((not (PySem.Spec.ltCps y p))&&Ac (jT y) (l.map jT))=true:=U;rw[ky,TG]at S;have c:¬y<p:=by simpa using S.1
  have M:=C y S.2;rw[qy.mpr #[λz Z=>?_,M]];rcases aY.mp Z with rfl|Z
  .rw[c]
  .rw[Na c<|List.rel_of_pairwise_cons M Z]
def QE:∀{l},oG l->l.Pairwise λa b=>¬b<a
 |[],_=>.nil
 |p::l,h=>apt l p h
def EM(d:oG l)(H:oG m)(h:l.Perm m):l=m:=List.Perm.eq_of_pairwise (λa b U U c M=>List.le_antisymm (wK.mp c)<|wK.mp M) (QE d) (QE H) h
section
variable{x:Wd} {S:Sg}
abbrev pZ(w:W7)(m:!af)(a:N):aH×Obj:=(w.ro,aa #[m] a)
abbrev W1(x:Wd)(S:Sg)(r i tp tf nx ne:N)(rs:!(!N×N))(ns:!Nd):ao:=[S.D x.P (.ref r) (ad i) tp (ad i) tf]++([(r,aa #[rs.map ax] nx)]++([S.N (aG x.P ns) ne]++Gr ns))
abbrev W2(x:Wd)(w:W7)(e R:!De)(m:!af)(nb nc a:N):ao:=[iO x w e nb]++([jc x w R nc]++[pZ w m a])
abbrev CW(w:W7):bj:=cM b_ 10<|cn w.z
abbrev Tv(S:Sg)(o:aL->aR->av)(P E:aH×Obj)(h:!N)(n t:N)(Z:ao):av:=o (.ok<|.ret<|.bool true)<|cf [P,E] n t h [] [(S.so,a9 S.sd)] Z
abbrev Tw(o:aL->aR->av)(P:aH×Obj)(h:!N)(rs:!(!N×N))(q n t:N)(Z:ao):av:=o (.ok<|.ret<|.ref q)<|cf [P] n t h [] [(q,aD<|rs.map ax)] Z
abbrev Tx(S:Sg)(o:aL->aR->av)(h:!N)(rs:!(!N×N))(q:N)(P E:aH×Obj)(n t:N)(Z:ao):av:=o (.ok .next)<|cf [P,E] n t h [] [(S.so,a9 S.sd),(q,aD<|rs.map ax)] Z
abbrev TA(o:aL->aR->av)(h:!N)(rs:!(!N×N))(q:N)(P R:aH×Obj)(n t:N)(Z:ao):av:=o (.ok<|.ret .none)<|cf [P,R] n t h [] [(q,aD<|rs.map ax)] Z
abbrev TB(o:aL->aR->av)(h:!N)(f:N)(P R:aH×Obj)(n t:N)(Z:ao):av:=o (.ok<|.ret<|.ref f)<|cf [P,R] n t h [] [] Z
def EK:∀{t g},(∀k∈t,k∈bC g)->dH (fX t g)=dH g:=by
 intro J;induction J with
 |nil=>intro _ _;rw[rfl]
 |cons k t C=>intro g U;have e:=yX (f:=dS<|-1) (λG=>rfl)<|U k<|.head _;rw[(C λK c=>by rw[(Dw e)▸U K (.tail _ c)]).trans e]
def abq:xV (.type "tuple")=true:=by lk
def RP{bU:N->N->aH×Obj}{b:N->N}{ed:N->aL->aR->av}{dx dV d0 hs ec:!N}(e1:mf s)(W:F S.so (a9 S.sd))(eb:dH (ns.map Nd.pg)=s)(hi:i+(rest.length+1)<10)(H:∀k∈y::rest,k.1∈s.map (·.1))(eN:qS ((y::rest).map (·.1)) (fX ((y::rest).map (·.1))<|ns.map Nd.pg))(e4:a6.length<=1000)(ev:∀Z,Ev (ck Z) Z [0,1] (.pend 579 aj (.call (.ref 131) #[[.ref S.so],[]]) bt) [bl,S.D x.P (.ref r) (ad i) tp (ad i) tf] [] [] [])(ew:∀n t Z,Ev (Tv S bt bl (S.D x.P (.ref r) (ad i) tp (ad i) tf) dx n t Z) Z [0,1] (.pend 579 aj (.call (.ref 124) #[[.ref S.so],[]]) b0) [bl,S.D x.P (.ref r) (ad i) tp (ad i) tf] [] [] [])(ey:∀q D E Z,Ev (Tw b0 bl dV (y::rest) q D E Z) Z [0,1] (.pend 579 aj (cN D w.z) ca) [bU q E,eQ D q 0] [] [] [])(ep:∀c5 q E D,Le F c5->c5 q (aD<|(y::rest).map ax)->ay x aj 570 (cN D w.z) c5 [bU q E,eQ D q 0,iO x w bb nb,jc x w bs nc] (QN x S w q (b E) bb nb eK))(eB:∀q po nf em ei ac I P M t4 Z,Ev (Tx S ca d0 (y::rest) q (dv x S w ac I (.ref q) P) (S.D x.P (.ref r) po em nf ei) M t4 Z) Z [2,0,1] (.pend 579 aj (.call (.ref M) #[(y::rest).map ax,[]])<|ed M) ([pM M 145 S.so]++[dv x S w ac I (.ref q) P,S.D x.P (.ref r) po em nf ei]) [] [] [ma (.type "tuple") (ar [])<|ar<|(y::rest).map ax])(es:∀q ac I P M dd dt Z,Ev (TA (ed M) hs (y::rest) q (dv x S w ac I (.ref q) P) (pZ w a6 a8) dd dt Z) Z [0,1] (.pend 579 aj (.call (.builtin "sorted") #[[.ref q],[]]) ch) [dv x S w ac I (.ref q) P,pZ w a6 a8] [] [] [])(eC:∀q ac I P bo fc fl Z,Ev (TB ch ec bo (dv x S w ac I (.ref q) P) (pZ w a6 a8) fc fl Z) Z [0,1] (.next<|CW w) [dv x S w ac I (.ref q) P,(w.ro,aa ((ar a6).push<|.ref bo)<|a8+1)] [] [] [cm<|ar a6])(h:∀F' q ac I P R c0 eh ef z fm fd bo d (so:!(!N×N)) g,Le F F'->bS F' R (eR eK)->ef.map Nd.pg=(fU ((y::rest).map (·.1))<|fX ((y::rest).map (·.1))<|ns.map Nd.pg).1->eh.map (·.1)=(fU ((y::rest).map (·.1))<|fX ((y::rest).map (·.1))<|ns.map Nd.pg).2->F' bo (aa #[so.map ax] d)->(so.map (·.1)).Perm ((y::rest).map (·.1))->oG (so.map (·.1))->ay x aj 580 (CW w) F' ([dv x S w ac I (.ref q) P]++(W1 x S r (i+(rest.length+1)) z fm fd ne eh ef++(W2 x w bb R (a6++[.ref bo]) nb c0 (a8+1)++g))) Q):Go x aj 580 F Q F ([(r,aa #[(y::rest).map ax] nx)]++(([S.N (aG x.P ns) ne]++Gr ns)++(W2 x w bb bs a6 nb nc a8++a7))) ck:=by
 have d2:bC (ns.map Nd.pg)=s.map (·.1):=by rw[<-eb];unfold dH;rw[bI,];rfl
 refine bP ev ab ab (pm [[bl],_,_,[S.N (aG x.P ns) ne]++Gr ns,W2 x w bb bs a6 nb nc a8++a7] (.p (.p (.a 0)<|.a 1)<|.p (.a 2)<|.p (.a 3)<|.a 4) (.p (.p (.a 1)<|.a 2)<|.p (.a 0)<|.p (.a 3)<|.a 4) rfl) ((Rk (an _ _ W) (ah0 hi)<|by rw[MB hi]).le ζ λ_ _ _ _ U=>U) λgs c5 gg e7 q=>?_;cases q;have j:=bO e7;refine#[[bl,S.D x.P (.ref r) (ad i) tp (ad i) tf],_++((_++Gr ns)++(W2 x w bb bs a6 nb nc a8++a7)),pm [[bl],[S.D x.P (.ref r) (ad i) tp (ad i) tf],_,[S.N (aG x.P ns) ne]++Gr ns,W2 x w bb bs a6 nb nc a8++a7] (.p (.p (.a 1)<|.a 2)<|.p (.a 0)<|.p (.a 3)<|.a 4) (.p (.p (.a 0)<|.a 1)<|.p (.a 2)<|.p (.a 3)<|.a 4) rfl,dx,[],[(S.so,a9 S.sd)],⟨j _ _ W,ab⟩,λfa fe=>bP (Z:=[bl]++(W2 x w bb bs a6 nb nc a8++a7)) (ew fa fe) ab ab (pm [[bl],_,_,_,Gr ns,W2 x w bb bs a6 nb nc a8++a7] (.p (.p (.a 0)<|.a 1)<|.p (.a 2)<|.p (.p (.a 3)<|.a 4)<|.a 5) (.p (.p (.p (.a 1)<|.p (.a 2)<|.a 3)<|.a 4)<|.p (.a 0)<|.a 5) rfl) ((aqX (an _ _<|j _ _ W) (dl _ _) (MB hi) λk db=>by rw[d2,];rw[H k db]).le ζ λ_ _ _ _ U=>U) λgu f9 c3 m L=>?_];rw[L.casesOn @λc3 q u c1 c2 ds da d3=>?_];have T:=dR (cb j) m;rw[#[[bl],c3++(W2 x w bb bs a6 nb nc a8++a7),pm [c3,[bl],W2 x w bb bs a6 nb nc a8++a7] (.p (.a 0)<|.p (.a 1)<|.a 2) (.p (.a 1)<|.p (.a 0)<|.a 2) rfl,dV,[],[(q,aD<|(y::rest).map ax)],⟨u,ab⟩,λJ G=>bP (Z:=c3++([pZ w a6 a8]++a7)) (ey q J G) ab ab (pm [[bU q G,eQ J q 0],c3,_,_,_,a7] (.p (.a 0)<|.p (.a 1)<|.p (.p (.a 2)<|.p (.a 3)<|.a 4)<|.a 5) (.p (.p (.a 0)<|.p (.a 2)<|.a 3)<|.p (.a 1)<|.p (.a 4)<|.a 5) rfl) ((ep _ q G J (cb T)<|an _ _ u).le ζ λ_ _ _ _ U=>U) λg0 gb gl e8 L=>?_]];rw[L.casesOn λI c R c0 eM=>?_];have e:=bO e8;have e5:dH (c1.map Nd.pg)=s:=by rw[da,];rw[(EK λk db=>by obtain⟨K,e0,rfl⟩:=bn.mp db;rw[d2,];rw[H K e0]).trans eb]
 generalize e3:ad i+ad (y::rest).length=po at d3;refine#[[dv x S w (b G) I (.ref q) c,S.D x.P (.ref r) po c2 (ad i) tf],([(r,aa #[[]] ds)]++([S.N (aG x.P c1) ne]++Gr c1))++(W2 x w bb R a6 nb c0 a8++a7),(((d3.append_right _).append_left _).trans <|pm [[dv x S w (b G) I (.ref q) c],[iO x w bb nb],_,[S.D x.P (.ref r) po c2 (ad i) tf],[(r,aa #[[]] ds)],_,Gr c1,_,a7] (.p (.p (.a 0)<|.p (.a 1)<|.a 2)<|.p (.p (.p (.a 3)<|.p (.a 4)<|.a 5)<|.a 6)<|.p (.a 7)<|.a 8) (.p (.p (.a 0)<|.a 3)<|.p (.p (.a 4)<|.p (.a 5)<|.a 6)<|.p (.p (.a 1)<|.p (.a 2)<|.a 7)<|.a 8) rfl),d0,[],[(S.so,a9 S.sd),(q,aD<|(y::rest).map ax)],#[e _ _<|T _ _ W,e _ _ u,ab],λD E=>bP (Lc:=[pM D 145 S.so]++([S.D x.P (.ref r) po c2 (ad i) tf,(r,aa #[[].map ax] ds),S.N (aG x.P c1) ne]++Gr c1)) (Z:=[dv x S w (b G) I (.ref q) c]++(W2 x w bb R a6 nb c0 a8++a7)) (eB q po (ad i) c2 tf (b G) I c D E) ab #[yx abq (by rw[aU,];simp only[dN];rw[ah1 hi]),ab] (pm [[pM D 145 S.so],[dv x S w (b G) I (.ref q) c],_,_,_,Gr c1,W2 x w bb R a6 nb c0 a8++a7] (.p (.p (.a 0)<|.p (.a 1)<|.a 2)<|.p (.p (.a 3)<|.p (.a 4)<|.a 5)<|.a 6) (.p (.p (.a 0)<|.p (.p (.a 2)<|.p (.a 3)<|.a 4)<|.a 5)<|.p (.a 1)<|.a 6) rfl) ((RD<|aqY e1 (an _ _<|e _ _<|T _ _ W) e5 (dm _) (ah2 hi) H (by simp only[da];rw[eN])).le ζ λ_ _ _ _ U=>U) λg1 gc f e9 L=>?_];rw[L.casesOn @λf eg A X O du d1 ea e2=>?_];have c4:=bO e9;rw[da]at d1 ea;rw[#[[dv x S w (b G) I (.ref q) c,pZ w a6 a8],f++([iO x w bb nb]++([jc x w R c0]++a7)),pm [f,_,_,_,_,a7] (.p (.a 0)<|.p (.a 1)<|.p (.p (.a 2)<|.p (.a 3)<|.a 4)<|.a 5) (.p (.p (.a 1)<|.a 4)<|.p (.a 0)<|.p (.a 2)<|.p (.a 3)<|.a 5) rfl,hs,[],[(q,aD<|(y::rest).map ax)],#[c4 _ _<|e _ _ u,ab],λM t4=>jh (Lc:=[]) (es q (b G) I c D M t4) ab ab (.refl _) λgo B g2 f8 C o=>H3 o (o.rep.fr _ _<|an _ _<|c4 _ _<|e _ _ u) (.inr rfl) rfl rfl (ah3 hi) λbo d so l e6=>?_]];rw[#[[dv x S w (b G) I (.ref q) c,pZ w a6 a8],_++(f++([iO x w bb nb]++([jc x w R c0]++a7))),pm [[(bo,aa #[so.map ax] d)],[dv x S w (b G) I (.ref q) c,pZ w a6 a8],f++([iO x w bb nb]++([jc x w R c0]++a7))] (.p (.a 0)<|.p (.a 1)<|.a 2) (.p (.a 1)<|.p (.a 0)<|.a 2) rfl,ec,[],[],ab,λdd dt=>bu (eC q (b G) I c bo dd dt) ab #[f_<|hI e4,ab] rfl (λp Y U=>an p Y<|c4 p Y<|e p Y<|T p Y U) ?_]];simp only[kr];rw[.perm ((((e2.append_right _).append_left _).append_left _).trans ?_)<|.vc (L2:=[(bo,aa #[so.map ax] d)])<|h _ q (b G) I c R c0 A eg c2 O X bo d so (du++a7) (λp Y U=>an p Y<|an p Y<|an p Y<|c4 p Y<|e p Y<|T p Y U) (eM.to λp Y U=>an p Y<|an p Y<|an p Y<|c4 p Y U) d1 ea (bc<|.head _) l e6];simp only[(rfl:ad i+(rest.length+1)=ad (i+(rest.length+1))),e3.symm];rw[pm [[dv x S w (b G) I (.ref q) c],_,_,[S.D x.P (.ref r) (ad<|i+(rest.length+1)) c2 (ad<|i+(rest.length+1)) O],[(r,aa #[A.map ax] X)],_,Gr eg,du,_,_,a7] (.p (.p (.a 0)<|.a 1)<|.p (.a 2)<|.p (.p (.p (.p (.a 3)<|.p (.a 4)<|.a 5)<|.a 6)<|.a 7)<|.p (.a 8)<|.p (.a 9)<|.a 10) (.p (.a 2)<|.p (.a 0)<|.p (.p (.a 3)<|.p (.a 4)<|.p (.a 5)<|.a 6)<|.p (.p (.a 8)<|.p (.a 9)<|.a 1)<|.p (.a 7)<|.a 10) rfl]
end
def mZ.len{m:nK}{t:!(!N)}{cs eK:cJ}(h:mZ m t cs eK):eK.length=cs.length+t.length:=by
 induction h with
 |nil=>rfl
 |cons _ _ _ C=>simp only[C,cv];simp only[dN,ld];rw[akm]
def Qr(a:mf s):∀{t g},dH g=s->(∀k∈t,k∈s.map (·.1))->dH (fU t g).1=s:=by
 intro J;induction J with
 |nil=>intro _ U _;rw[U]
 |cons k t C=>
  intro g U H;have w:bC g=s.map (·.1):=by rw[U▸?_];unfold dH;rw[bI,];rfl
  have e:=yX (f:=dS<|-2) (λG=>rfl) (by rw[w,];rw[H k<|.head _]);rw[C ((Qq λK c=>(aJ (Re<|H k<|.head _) λy b q=>?_)).trans<|e.trans U) λK c=>H K<|.tail _ c];rw[Dw e,w];rw[Rh,U,q]at c;rw[a.cl y b K c]
abbrev yJ(rd:!(List<|List N)):!PV:=rd.map λl=>.lst<|l.map .str
def PW:∀{l:!(!N×N)},aM F ((l.map (·.1)).map .str) (l.map ax):=by
 intro J;induction J with
 |nil=>rw[.nil]
 |cons y l C=>rw[.cons (c9.mpr #[y.2,rfl]) C]
section
variable{x:Wd} {S:Sg}
abbrev LW(x:Wd)(S:Sg)(w:W7)(P:aH×Obj)(r i tp tf nx ne nb nc b:N)(rs:!(!N×N))(ns:!Nd)(e R:!De)(m:!af)(a:ao):ao:=[P]++(W1 x S r i tp tf nx ne rs ns++(W2 x w e R m nb nc b++a))
inductive QW (x:Wd) (S:Sg) (w:W7) (bes:!De) (nb:N) (cs:cJ) (rd:!(!(!N))) (F':Fs):aL->ao->Prop
 |mk {L':ao} (f7 f8 v7 v8 ces nc rds no J) (h1:bS F' ces (eR cs)) (h2:aM F' (yJ rd) rds) (h3:L'.Perm ([dv x S w f7 f8 v7 v8]++(W2 x w bes ces rds nb nc no++J))):QW x S w bes nb cs rd F' (.ok .next) L'
def apQ:∀{l p vs v},aM F l vs->Rp F p v->aM F (l++[p]) (vs++[v]):=λa M=>a.push M
def afM(c1:mf s){cs eK:cJ}(h:o_ m a8 g cs rd i eK a7):∀{ns rs tp tf nx nc ac b f8 K v8 R e bb F},F S.so (a9 S.sd)->ns.map Nd.pg=g->dH g=s->rs.map (·.1)=a8->bS F a6 (gA m)->bS F R (eR cs)->aM F (yJ rd) e->cs.length<=i->e.length<=i->i<10->ay x aj 580 (CW w) F (LW x S w (dv x S w b f8 K v8) r i tp tf nx ne nb nc ac rs ns a6 R e bb) (QW x S w a6 nb eK a7):=by
 induction h with
 |@nil g cs rd i=>intro ns rs tp tf nx nc ac b f8 K v8 R e bb F W C o A bt d f bs M X;obtain rfl:=FX.mp A;rw[.perm (pm [[dv x S w b f8 K v8],_,[(r,aa #[[].map ax] nx)],[S.N (aG x.P ns) ne]++Gr ns,W2 x w a6 R e nb nc ac++bb] (.p (.a 0)<|.p (.p (.a 1)<|.p (.a 2)<|.a 3)<|.a 4) (.p (.p (.a 0)<|.a 1)<|.p (.a 2)<|.p (.a 3)<|.a 4) rfl) ?_];rw[bJ (L:=[dv x S w b f8 K v8,S.D x.P (.ref r) (ad i) tp (ad i) tf]) (O:=[(S.so,a9 S.sd)]) #[W,ab] λB ch=>bP (R4 w S B ch tp tf r b f8 (ad i) (ad i) K v8 x) ab ab (pm [[dv x S w b f8 K v8],_,_,[S.N (aG x.P ns) ne]++Gr ns,W2 x w a6 R e nb nc ac++bb] (.p (.p (.a 0)<|.a 1)<|.p (.a 2)<|.p (.a 3)<|.a 4) (.p (.p (.a 1)<|.a 2)<|.p (.a 0)<|.p (.a 3)<|.a 4) rfl) ((Rk (an _ _ W) X<|dm _).le ζ λ_ _ _ _ h=>h) λeM c3 ew d1 q=>?_];rw[q.casesOn ?_];have b0:=bO d1;rw[#[[],_,.refl _,[0],[],[],ab,λd2 ef=>bp (w0e w.z d2 ef x) ab ab b0 #[b,f8,K,v8,R,nc,e,ac,[S.D x.P (.ref r) (ad i) tp (ad i) tf,(r,aa #[[].map ax] nx)]++(([S.N (aG x.P ns) ne]++Gr ns)++bb),d.to λp Y h=>an p Y<|b0 p Y h,f.to λp Y h=>an p Y<|b0 p Y h,(pm [[S.D x.P (.ref r) (ad i) tp (ad i) tf,(r,aa #[[].map ax] nx)],_,_++Gr ns,W2 x w a6 R e nb nc ac,bb] (.p .z<|.p (.a 0)<|.p (.a 1)<|.p (.a 2)<|.p (.a 3)<|.a 4) (.p (.a 1)<|.p (.a 3)<|.p (.a 0)<|.p (.a 2)<|.a 4) rfl)]]]
 |@cons j t e2 g cs c4 ey rd eN i ck H dd d0 J bl _ c2=>
  intro ns rs tp tf nx nc ac b f8 K v8 R e bb F W C o A bt d f bs M X;obtain⟨y,Q,rfl,rfl,rfl⟩:∃y Q,rs=y::Q/\y.1=j/\Q.map (·.1)=t:=by
   cases rs with
   |nil=>cases A
   |cons y Q=>injection A with c5 da;rw[#[y,Q,rfl,c5,da]]
  rw[aU]at bl c2;have c0:bC g=s.map (·.1):=by rw[o▸?_];unfold dH;rw[bI,];rfl
  subst C;rw[.perm (pm [[dv x S w b f8 K v8],_,_,_++Gr ns,W2 x w a6 R e nb nc ac++bb] (.p (.a 0)<|.p (.p (.a 1)<|.p (.a 2)<|.a 3)<|.a 4) (.p (.p (.a 0)<|.a 1)<|.p (.a 2)<|.p (.a 3)<|.a 4) rfl) ?_];exact bJ (L:=[dv x S w b f8 K v8,S.D x.P (.ref r) (ad i) tp (ad i) tf]) (O:=[(S.so,a9 S.sd)]) #[W,ab] λB ch=>RP (eK:=c4) (bU:=λq _=>dv x S w b f8 (.ref q) v8) c1 W o bl (λj c=>by rw[c0▸H _ (bw c)]) dd (akn M X) (R4 w S B ch tp tf r b f8 (ad i) (ad i) K v8 x) (λn ed=>w1b w S tp tf n ed r b f8 (ad i) (ad i) K v8 x) (λq D E=>w1c w S.so D E q b f8 K v8 (y::Q) x) (λc3 q E D l dt=>LH (au:=[]) dt (bt.to l) (d.to l) ck<|ako bs bl) (λq k eb ep em U I P ca eg bo=>R1 x w.us w.z w.rl S.so S.sd S.nd w.bd w.ro w.cd w.f0 w.f1 w.f2 w.f3 w.f4 w.f5 w.f6 w.v0 w.v3 q (y::Q) S.u r k eb ep em U I P ca eg bo<|Ds bl) (λq U I P ca d3 eh bo=>R2 x w.us w.z w.rl S.so w.bd w.ro w.cd w.f0 w.f1 w.f2 w.f3 w.f4 w.f5 w.f6 w.v0 w.v3 q (y::Q) U I P ca ac e d3 eh bo<|Ds bl) (λq U I P sl ea ei bo=>R3 x w.us w.z w.rl S.so w.bd w.ro w.cd w.f0 w.f1 w.f2 w.f3 w.f4 w.f5 w.f6 w.v0 w.v3 q (y::Q) U I P ac e sl ea ei bo<|Ds bl) λT q U I P Z eB e0 eC e4 e3 G sl ec e1 ev l db ds du dx u dV=>by
    obtain rfl:=EM dV J<|u.trans d0.symm;rw[c2 (l _ _ W) ds (Qr c1 ((EK H).trans o) λj c=>by rw[c0▸H j c]) du (bt.to l) db (by show aM T (qr _<|rd++_) _;rw[bf▸apQ (f.to l) (dW.mpr<|gE sl _ ec rfl dx PW)]) (by rw[ck.len,];simp only[dN,aU];rw[akp bs]) (by rw[cv,];simp only[dN,ld];rw[akq M]) bl]
end
section
variable{x:Wd} {S:Sg}
def afN(ac:mf s)(h:o_ m (k::a8) g [] [] 0 eK bl)(W:F S.so (a9 S.sd))(C:ns.map Nd.pg=g)(hs:dH g=s)(A:rs.map (·.1)=k::a8)(j:bS F a6 (gA m)):ay x aj 580 (CW w) F (LW x S w (s8 x S w) r 0 tp tf nx ne nb nc a7 rs ns a6 [] [] bb) (QW x S w a6 nb eK bl):=by
 cases h with
 |@cons _ _ d2 _ _ o _ _ _ _ bo H ch c4 J e f=>
  obtain⟨y,Q,rfl,rfl,rfl⟩:∃y Q,rs=y::Q/\y.1=k/\Q.map (·.1)=a8:=by
   cases rs with
   |nil=>cases A
   |cons y Q=>injection A with K b0;rw[#[y,Q,rfl,K,b0]]
  rw[aU]at e f;have bs:bC g=s.map (·.1):=by rw[hs▸?_];unfold dH;rw[bI,];rfl
  subst C;rw[.perm (pm [[s8 x S w],_,_,_++Gr ns,W2 x w a6 [] [] nb nc a7++bb] (.p (.a 0)<|.p (.p (.a 1)<|.p (.a 2)<|.a 3)<|.a 4) (.p (.p (.a 0)<|.a 1)<|.p (.a 2)<|.p (.a 3)<|.a 4) rfl) ?_];exact bJ (L:=[s8 x S w,S.D x.P (.ref r) (ad 0) tp (ad 0) tf]) (O:=[(S.so,a9 S.sd)]) #[W,ab] λB ds=>RP (eK:=o) (bU:=λq D=>BO x S w q D) ac W hs e (λk c=>by rw[bs▸H _ (bw c)]) ch (dm _) (w0a w S B ds tp tf r (ad 0) (ad 0) x) (λn D=>w0b w S tp tf n D r (ad 0) (ad 0) x) (λq bt E=>w0c w S.so bt E q (y::Q) x) (λdu q E bt l c0=>afE c0 (j.to l) .nil bo (by simp at e⊢;rw[agn e])) (λq c5 i dt dd U I P M R t=>R1 x w.us w.z w.rl S.so S.sd S.nd w.bd w.ro w.cd w.f0 w.f1 w.f2 w.f3 w.f4 w.f5 w.f6 w.v0 w.v3 q (y::Q) S.u r c5 i dt dd U I P M R t<|Dh e) (λq U I P M b da t=>R2 x w.us w.z w.rl S.so w.bd w.ro w.cd w.f0 w.f1 w.f2 w.f3 w.f4 w.f5 w.f6 w.v0 w.v3 q (y::Q) U I P M a7 [] b da t<|Dh e) (λq U I P sl X db t=>R3 x w.us w.z w.rl S.so w.bd w.ro w.cd w.f0 w.f1 w.f2 w.f3 w.f4 w.f5 w.f6 w.v0 w.v3 q (y::Q) U I P a7 [] sl X db t<|Dh e) λT q U I P Z dV Y d0 z d3 G sl d d1 dx l ca ck c1 c2 u c3=>by obtain rfl:=EM c3 J<|u.trans c4.symm;rw[afM ac f (l _ _ W) ck (Qr ac ((EK H).trans hs) λk c=>by rw[bs▸H k c]) c1 (j.to l) ca (.cons (dW.mpr #[sl,_,d,rfl,c2,PW]) .nil) (by rw[bo.len▸?_];simp only[dN,aU,ld];rw[ago]) (agp) e]
end
def ary(P):T P 0=some (o0 P):=by lk
section
variable{x:Wd} {S:Sg} {D:Mk} {b:N} {c:bj} {F:Fs} {L:ao} {Q G:Po}
def ay.n0(g:(∀p∈L,p.1≠0)->ay x D b c F L Q):ay x D b c F L Q:=λw B s A C o=>g (λp I e=>o.rep.dj p (ga _ I) (o0 x.P)<|e▸o.base.top 0 _ (ary _)) w B s A C o
def bS.keys{F:Fs}{l:!De}{m:!(!N×PV)}(h:bS F l m):l.map (·.1)=m.map (·.1):=by
 induction h with
 |nil=>rfl
 |cons _ _ C=>simp[C]
def ju(cs:cJ):PV:=match aZ cs [70]with
 |some (y::_)=>.nN<|(((65+y.2)::y.1).dropWhile (·==65)).map z6
 |_=>.none
structure rV (F:Fs) (x:Wd) (a:N) (b:Bool) (rd:!(!(!N))) (cs:cJ) (ro cd nc no:N) (rds:!af) (ces:!De) (wv:af):Prop where
 l:F a (aa #[[.bool b,.ref ro,.ref cd,wv]] 0)
 rd:aM F (yJ rd) rds
 ce:bS F ces (eR cs)
 w:Rp F (ju cs) wv
inductive QR (x:Wd) (b:Bool) (rd:!(!(!N))) (cs:cJ) (J0:ao) (F:Fs):aL->ao->Prop
 |mk {L:ao} (a ro cd nc no rds ces wv J) (h1:rV F x a b rd cs ro cd nc no rds ces wv) (h2:L.Perm ([(ro,aa #[rds] no),(cd,ak (aB x.P ces) nc)]++(J++J0))):QR x b rd cs J0 F (.ok (.ret (.ref a))) L
def rV.to{F F':Fs}(T:Le F F'){a:N}{b:Bool}{rd:!(List<|List N)}{cs:cJ}{i cd nc c:N}{m:!af}{R:!De}{z:af}(h:rV F x a b rd cs i cd nc c m R z):rV F' x a b rd cs i cd nc c m R z:=#[T _ _ h.l,h.rd.to T,h.ce.to T,h.w.to T]
structure K7 where
 sz:N
 tk:N
 rl:N
 f2:N
 t2:N
 v0:af
 us:N->Array (Option af)
 b:Bool
abbrev g_(x:Wd)(k:K7):aH×Obj:=(k.sz,bi [V x.P bV k.tk<|.ref k.rl,V x.P b6 (k.tk+13)<|.ref<|k.sz+2,V x.P bD k.f2 k.v0,V x.P cK k.t2<|.bool k.b] 4<|k.us k.sz)
abbrev K7.w(k:K7)(b X L:N):W7:=#[k.us,k.sz,k.rl,b,X,X+1,k.tk,k.tk+13,k.f2,k.t2,L,L+1,L+2,k.v0,.bool k.b]
abbrev B0(ol:!aX)(k:K7):Mk:=#[none,some (cn k.sz::ol),false]
abbrev BQ(x:Wd)(k:K7)(d X L b f8:N)(K v8:af)(Q a c t:N)(l:!N):aH×Obj:=(k.sz,bi [V x.P bV k.tk<|.ref k.rl,V x.P b6 (k.tk+13)<|.ref<|k.sz+2,V x.P bD k.f2 k.v0,V x.P cK k.t2<|.bool k.b,V x.P eO L<|.ref d,V x.P cE (L+1)<|.ref X,V x.P cg (L+2)<|.ref<|X+1,V x.P eA b K,V x.P d7 f8 v8,V x.P kW Q .none,V x.P v_ (Q+6)<|.str #[#[l]] a,V x.P vZ (Q+7)<|.int (ad c) t] 12<|k.us k.sz)
abbrev Qd(o:aL->aR->av)(x:Wd)(k:K7)(it na f5:N)(S:!af)(v5:af)(h:!N)(n t:N)(Z:ao):av:=o (.ok .next)<|cf [g_ x k,(it+1,aa #[S] na),(it+2,ak [V x.P bD f5 v5] 1)] n t h [] [] Z
abbrev Qw(o:aL->aR->av)(x:Wd)(k:K7)(b nb:N)(e:!bv)(h:!N)(n t:N)(Z:ao):av:=o (.ok<|.ret .none)<|cf [g_ x k,(b,ak e nb)] n t h [] [] Z
abbrev Qf(o:aL->aR->av)(x:Wd)(S:Sg)(w:W7)(b f8:N)(K v8:af)(R:!bv)(nc:N)(gv:!af)(O:ao)(h:!N)(n t:N)(Z:ao):av:=o (.ok .next)<|cf [dv x S w b f8 K v8,(w.cd,ak R nc)] n t h gv O Z
abbrev Qg(o:aL->aR->av)(P:aH×Obj)(cd nc:N)(R:!bv)(y:!N)(a:N)(h:!N)(n t:N)(Z:ao):av:=o (.ok<|.ret<|.str #[#[y]] a)<|cf [P,(cd,ak R nc)] n t h [] [] Z
def Ru{ep:N->aL->aR->av}(O:S.so=k.sz+2)(fa:F S.so (a9 S.sd))(gb:F k.rl (aa #[ck] nr))(A:aM F ((bb::rest).map dG) ck)(hk:∀q∈bb::rest,j7 q)(e9:rest.length<=100)(g1:Le F0 F)(eg:∀r F L,QR x k.b a8 eK a6 F r L->Q F r L)(go:mf s)(fd:o_ m (c0::da) g [] [] 0 eK a8)(fm:ns.map Nd.pg=g)(hs:dH g=s)(gs:rs.map (·.1)=c0::da)(gc:gA m=(bb::rest).flatMap qO)(gl:(m.map (·.1)).Nodup)(gg:m.length<=1000)(d0:∀y da,aZ eK [70]=some (y::da)->y.2<3/\y.1≠[]/\y.1.length<=100/\(∀c∈y.1,c<128)/\∃eB eC,da=[eB,eC])(fe:aZ eK [70]≠some [])(e4:∀Z,Ev (o Z) Z c1 (.pend 597 (B0 ol k) (jd b_ 1 (.ref it) (.ref<|it+1)<|fR b_ 1 (cn k.sz)<|it+2) ca) [g_ x k,eU it k.rl 0,(it+1,aa #[[]] 0),(it+2,ak [] 0)] [] [] [])(e5:∀na f5 ec v5 n t Z,Ev (Qd ca x k it na f5 ec v5 bl n t Z) Z [0,6,3,1] (.pend 593 aj (.builtin "dict.update.loop" #[[.ref n,.ref<|n+3,.int 0 0,.none],[]])<|ep n) [g_ x k,eU (n+3) (it+1) 0,(n,ak [] 0)] [(it+1,aa #[ec] na)] [] [])(B:∀n nb e J G Z,Ev (Qw (ep n) x k n nb e bo J G Z) Z [0,1,2,3] (.pend 597 (B0 ol k) (cM b_ 10<|cn k.sz) a7) [s8 x S<|k.w n J G,(n,ak e nb),(J,aa #[[]] 0),(J+1,ak [] 0)] [] [] [])(e6:∀n J G b f8 K v8 R nc H dt ew g3 g4 dV db dx d l D E Z,Ev (Qf a7 x S (k.w n J G) b f8 K v8 R nc [.bool true,.ref H,.str #[#[[d]]] 0] [(H,aa #[[.ref ew,.ref g3,.ref g4]] dt),(ew,aD [.str #[#[l]] dV,.int (ad db) dx])] bs D E Z) Z [0,1] (.pend 597 (B0 ol k) (.call (.builtin "str.lstrip") #[[.str #[#[[d]++l]]<|E+10,.str #[#[[65]]]<|E+11],[]]) ch) [BQ x k n J G b f8 K v8 E dV db dx l,(J+1,ak R nc)] [] [] [fO #[#[[d]]] #[#[l]],iZ #[#[[65,66,67]]] (ad db) #[#[[d]]],cR (.type "dict") R #[#[[70]]]<|.ref H,nD (.type "dict") R #[#[[70]]] true<|J+1])(e7:∀n J G b f8 K v8 R nc dV db dx l E y d3 M t4 Z,Ev (Qg ch (BQ x k n J G b f8 K v8 E dV db dx l) (J+1) nc R y d3 bt M t4 Z) Z [1,2] (.res<|.ok<|.ret<|.ref M) [(J+1,ak R nc)] [(M,aa #[[.bool k.b,.ref J,.ref<|J+1,.bytes (jD #[#[y]])<|t4+1]] 0)] [] [uQ #[#[y]]])(e8:∀n J G b f8 K v8 R nc D E Z,Ev (Qf a7 x S (k.w n J G) b f8 K v8 R nc [.bool false] [] b0 D E Z) Z [1,2] (.res<|.ok<|.ret<|.ref D) [(J+1,ak R nc)] [(D,aa #[[.bool k.b,.ref J,.ref<|J+1,.none]] 0)] [] [nD (.type "dict") R #[#[[70]]] false<|J+1]):Go x #[none,some ol,false] 600 F0 Q F (W1 x S r 0 tp tf nx ne rs ns++a6) o:=by
 rw[bP (Lc:=[eU it k.rl 0,(it+1,aa #[[]] 0),(it+2,ak [] 0)]) (Z:=[g_ x k]++(W1 x S r 0 tp tf nx ne rs ns++a6)) e4 ab ab (pm [[g_ x k],[eU it k.rl 0,(it+1,aa #[[]] 0),(it+2,ak [] 0)],W1 x S r 0 tp tf nx ne rs ns++a6] (.p (.p (.a 0)<|.a 1)<|.a 2) (.p (.a 1)<|.p (.a 0)<|.a 2) rfl) ((VV (ac:=it+1) (an _ _ gb) (A.to an) hk<|ahd e9).hd.le ζ λ_ _ _ _ U=>U) λhz eb hq u q=>?_];rw[q.casesOn λf5 v5 na c2 eh=>?_];have j:Le F eb:=λp o U=>u p o<|an p o U;have d2:bS eb (c2.map (·.2)) (gA m):=by rw[gc,];rw[eh.rp]
 have f9:(c2.map (·.2)).map (·.1)=m.map (·.1):=d2.keys.trans (by rw[bI,];rfl);have C:=d2.length;simp only[aU,aU]at C;refine#[[g_ x k,(it+1,aa #[c2.map oy] na),(it+2,ak [V x.P bD f5 v5] 1)],W1 x S r 0 tp tf nx ne rs ns++a6,pm [[(it+1,aa #[c2.map oy] na),(it+2,ak [V x.P bD f5 v5] 1)],[g_ x k],W1 x S r 0 tp tf nx ne rs ns++a6] (.p (.a 0)<|.p (.a 1)<|.a 2) (.p (.p (.a 1)<|.a 0)<|.a 2) rfl,bl,[],[],ab,λX g7=>bP (Lc:=[eU (X+3) (it+1) 0,(X,ak (aB x.P []) 0)]) (Z:=[g_ x k]++(W1 x S r 0 tp tf nx ne rs ns++a6)) (e5 na f5 (c2.map oy) v5 X g7) ab ab (pm [[g_ x k],[eU (X+3) (it+1) 0,(X,ak [] 0)],W1 x S r 0 tp tf nx ne rs ns++a6] (.p (.p (.a 0)<|.a 1)<|.a 2) (.p (.a 1)<|.p (.a 0)<|.a 2) rfl) (RU (ps:=[]) (es:=[]) (rest:=c2) (i:=0) rfl rfl rfl (bc<|.head _) (λp I=>an _ _<|eh.at_ p I) (by simp only[qx,aU];rw[ahe gg C]) (by simp only[qx,f9];rw[gl])) λhA hh ht gu q=>?_];rw[q.casesOn λnb=>?_];have T:=λp o U=>gu p o<|an p o U;rw[#[[g_ x k,(X,ak (aB x.P<|c2.map (·.2)) nb)],W1 x S r 0 tp tf nx ne rs ns++a6,pm [[(X,ak (aB x.P<|c2.map (·.2)) nb)],[g_ x k],W1 x S r 0 tp tf nx ne rs ns++a6] (.p (.a 0)<|.p (.a 1)<|.a 2) (.p (.p (.a 1)<|.a 0)<|.a 2) rfl,bo,[],[],ab,λJ G=>bP (Lc:=LW x S (k.w X J G) (s8 x S<|k.w X J G) r 0 tp tf nx ne nb 0 0 rs ns (c2.map (·.2)) [] [] []) (Z:=a6) (B X nb _ J G) ab ab (pm [[s8 x S<|k.w X J G],[(X,ak (aB x.P<|c2.map (·.2)) nb)],[(J,aa #[[]] 0)],[(J+1,ak [] 0)],W1 x S r 0 tp tf nx ne rs ns,a6] (.p (.p (.a 0)<|.p (.a 1)<|.p (.a 2)<|.a 3)<|.p (.a 4)<|.a 5) (.p (.p (.a 0)<|.p (.a 4)<|.p (.p (.a 1)<|.p (.a 3)<|.a 2) .z)<|.a 5) rfl) (Qc:=λeM r h=>QW x S (k.w X J G) (c2.map (·.2)) nb eK a8 eM r h/\J≠0) ?_ λhB hj eN g0 q=>?_]]
 .rw[.n0 λd1=>((afN (x:=x) (S:=S) (w:=k.w X J G) go fd (an _ _<|T _ _<|j _ _ fa) fm hs gs<|d2.to λp o U=>an p o<|T p o U).hd.le ζ λ_ _ _ _ q=>#[q,d1 (J,aa #[[]] 0)<|dY _<|dY _<|ga _<|dY _<|dY _<|.head _])]
 .rw[q.casesOn λg8 d1=>?_]
  obtain⟨b,f8,K,v8,R,nc,c5,c4,c3,dd,ei,fc⟩:=g8;have g2:=λp o U=>g0 p o<|an p o U;have ev:=λp o U=>g2 p o<|T p o<|j p o<|g1 p o U;have ef:(eN++a6).Perm ([dv x S (k.w X J G) b f8 K v8,(J+1,ak (aB x.P R) nc)]++([(J,aa #[c5] c4)]++([(X,ak (aB x.P<|c2.map sG) nb)]++(c3++a6)))):=by rw[(fc.append_right _).trans<|pm [[dv x S (k.w X J G) b f8 K v8],[(X,ak (aB x.P<|c2.map sG) nb)],[(J+1,ak (aB x.P R) nc)],[(J,aa #[c5] c4)],c3,a6] (.p (.p (.a 0)<|.p (.p (.a 1)<|.p (.a 2)<|.a 3)<|.a 4)<|.a 5) (.p (.p (.a 0)<|.a 2)<|.p (.a 3)<|.p (.a 1)<|.p (.a 4)<|.a 5) rfl]
  have ey:([(J+1,ak (aB x.P R) nc)]++([(J,aa #[c5] c4)]++([(X,ak (aB x.P<|c2.map sG) nb)]++(c3++a6)))).Perm (_++(([(X,ak (aB x.P<|c2.map sG) nb)]++c3)++a6)):=pm [[(J+1,ak (aB x.P R) nc)],_,_,c3,a6] (.p (.a 0)<|.p (.a 1)<|.p (.a 2)<|.p (.a 3)<|.a 4) (.p (.p (.a 1)<|.a 0)<|.p (.p (.a 2)<|.a 3)<|.a 4) rfl
  have ed:=ahf d1
  match I:aZ eK [70]with
  |none=>
   have ds:d5 (aB x.P R) #[#[[70]]]=none:=by rw[lw,dd.none<|(ug (f:=nR)).trans (by rw[I,];rfl)];rfl
   rw[#[_,_,ef,b0,[.bool false],[],ab,λD E=>bp (e8 X J G b f8 K v8 (aB x.P R) nc D E) ab #[#[dM,jS _ _,by rw[ds,];rfl,ed],ab] ev <|eg _ _ _ #[D,J,J+1,nc,c4,c5,R,.none,_,#[bc<|.head _,ei.to an,dd.to an,by unfold ju;simp only[I];rw[yP.mpr rfl]],ey]]]
  |some []=>rw[absurd I fe]
  |some (y::da)=>
   rw[xy (d0 y da I) λe1 e2 hv e3 g9=>fW g9 λeB eC hb=>?_];subst hb;obtain⟨t,v,g5,g6⟩:=dd.get ((ug (f:=nR)).trans (by rw[I,];rfl));rw[n_ (AN g6) λH du W ea dt ha Y=>?_];subst ha;have ds:d5 (aB x.P R) #[#[[70]]]=some (.ref H):=by rw[lw,g5];rfl
   have fl:[65,66,67][y.2]? =some (65+y.2):=by
    match y.2,e1 with
    |0,_=>rfl
    |1,_=>rfl
    |2,_=>rfl
   refine#[_,_,ef,bs,_,[(H,aa #[_] dt),(du 0,aD _)],#[Y.l,Y.at_ 0 y rfl,ab],λD E=>jh (Lc:=[]) (Z:=[BQ x k X J G b f8 K v8 E (W 0) y.2 (ea 0) y.1,(J+1,ak (aB x.P R) nc)]++([(J,aa #[c5] c4)]++(_++(c3++a6)))) (e6 X J G b f8 K v8 (aB x.P R) nc H dt (du 0) (du 1) (du 2) (W 0) y.2 (ea 0) (65+y.2) y.1 D E) ab #[jk (dl _ _) e2 (by simp;lia),yz fl<|by lia,⟨dM,jS _ _,ds⟩,⟨dM,jS _ _,by rw[ds,];rfl,ed⟩,ab] (.refl _) λhu hD P hg hw e0=>Yi e0 (by simp;lia) λd3=>?_];have em:=SX (·==65) (l:=(65+y.2)::y.1);rw[#[_,_++(_++(c3++a6)),.refl _,bt,[],[],ab,λM t4=>bp (e7 X J G b f8 K v8 (aB x.P R) nc (W 0) y.2 (ea 0) y.1 E (([65+y.2]++y.1).dropWhile (·==65)) d3 M t4) ab #[#[λc d0=>?_,?_],ab] (λp o U=>an p o<|ev p o U) <|eg _ _ _ #[M,J,J+1,nc,c4,c5,R,_,_,#[bc<|.head _,ei.to λp o U=>an p o<|an p o U,dd.to λp o U=>an p o<|an p o U,by unfold ju;rw[I▸yO.mpr #[_,rfl]]],ey]]]
   .rcases aY.mp (em.subset d0)with rfl|U
    .lia
    .rw[e3 c U]
   .have:=em.length_le
    rw[bT this<|show y.1.length+1<=16777216 by lia]
end
def Lk(z):(cn z).scope.kind=.function:=by lk
structure sI (rows:!(!(!N))) (b:Bool) (cs:cJ) (rd:!(!(!N)))where
 k:∀q∈rows,j7 q
 le:rows.length<=100
 f:N
 f0:0<f
 ff:(rows.foldl gK []).length*f<=4000
 se:iQ (rows.foldl gK []) f (bC (rows.foldl gK [])) []=some b
 ok:mf (dH (rows.foldl gK []))
 m:nK
 hm:gA m=rows.flatMap qO
 nd:(m.map (·.1)).Nodup
 m9:m.length<=1000
 y0:!N
 ys:!(!N)
 r0:jm (rows.foldl gK [])=y0::ys
 run:o_ m (y0::ys) (rows.foldl gK []) [] [] 0 cs rd
 w:∀y ys,aZ cs [70]=some (y::ys)->y.2<3/\y.1≠[]/\y.1.length<=100/\(∀c∈y.1,c<128)/\∃y2 y3,ys=[y2,y3]
 w0:aZ cs [70]≠some []
section
variable{x:Wd} {ol:!aX} {zs:!Fr}
inductive uS (x:Wd) (zs:!Fr) (b:Bool) (rd:!(!(!N))) (cs:cJ) (F:Fs):aL->ao->Prop
 |mk {r L} (us) (h:QR x b rd cs (zs.map (be us)) F r L):uS x zs b rd cs F r L
abbrev gJ(sz tk:N):Sg:=#[sz+2,sz+1,sz+4,λi=>match i with|0=>tk+4|1=>tk+6|2=>tk+9|_=>tk+12]
def QR.JH{b:Bool}{rd:!(List<|List N)}{cs:cJ}{us:N->Array (Option af)}{c:ao}{r:aL}{F:Fs}{L:ao}(h:QR x b rd cs (zs.map (be us)++c) F r L):uS x zs b rd cs F r L:=h.casesOn λa i E D d m R z g M X=>#[us,#[a,i,E,D,d,m,R,z,g++c,M,X.trans<|pm [[(i,aa #[m] d),(E,ak (aB x.P R) D)],g,zs.map<|be us,c] (.p (.a 0)<|.p (.a 1)<|.p (.a 2)<|.a 3) (.p (.a 0)<|.p (.p (.a 1)<|.a 3)<|.a 2) rfl]]
abbrev oj(x:Wd)(sz tk w f2 G:N)(v:af):Fr:=#[sz,[V x.P bV tk<|.ref w,V x.P b6 (tk+13)<|.ref<|sz+2,V x.P bD f2 v,V x.P cK G<|.bool true],4]
def ZJ(hk:iX ol zs){cs:cJ}(R:sI (a8::rest) b cs rd)(c5:F a6 (aa #[a7] nr))(A:aM F ((a8::rest).map dG) a7)(O:F (sz+2) (a9<|sz+1))(eg:Le F0 F)(C:(n::r).map Nd.pg=(a8::rest).foldl gK [])(ds:0<R.f/\R.f<=4000)(ey:qi (n::r))(hz:r.length<=1000)(eB:(r.length+1)*R.f<=4000)(eC:iQ ((n::r).map Nd.pg) R.f ((n::r).map (·.k)) []=some b):Go x #[none,some ol,false] 600 F0 (uS x zs ((not (b))) rd cs) F (([(gJ sz tk).N (aG x.P (n::r)) ne]++Gr (n::r))++zs.map (be us)) (DN ol a6 sz tk (tk+7) (tk+10) J G f2 0 0 (gJ sz tk).u v x):=by
 have ev:=R.le;simp only[dN]at ev;rw[bP (Lc:=SN x (gJ sz tk) #[.none,0,tk+7,0,tk+10,ne] (n::r)++(Gr (n::r)++((sz,az (oj x sz tk a6 f2 G v).es 4)::zs.map (be us)))) (Z:=[]) (api ol a6 sz tk (tk+7) (tk+10) J G f2 0 0 (gJ sz tk).u v x) ab ab (pm [[(sz,az (oj x sz tk a6 f2 G v).es 4)],_,_,Gr (n::r),zs.map<|be us] (.p (.p (.a 0)<|.a 1)<|.p (.p (.a 2)<|.a 3)<|.a 4) (.p (.p (.p (.a 1)<|.a 2)<|.p (.a 3)<|.p (.a 0)<|.a 4) .z) rfl) (Qc:=Gz x (gJ sz tk) #[.none,0,tk+7,0,tk+10,ne] (n::r) (oj x sz tk a6 f2 G v::zs) b) ?_ λe5 ef e4 e0 e2=>n_ e2 λh bs b0 ca bt dt j=>?_]
 .rw[.nd λg=>?_]
  have eN:=λf ds e=>by have eh:=(rB (by rw[g]:(((SN x (gJ sz tk) #[.none,0,tk+7,0,tk+10,ne] (n::r)++Gr (n::r))++((sz,az (oj x sz tk a6 f2 G v).es 4)::zs.map (be us))).map (·.1)).Nodup)).2.1;rw[bW,c_]at eh;rw[eh.1 ?_];simp only[bI];rw[bn.mpr<|bA f ds e]
  rw[dq (RW (us:=us) (es:=(oj x sz tk a6 f2 G v).es) (n:=4) eN) λe6 eM=>eM▸(aqW (ol:=cn sz::ol) (zs:=oj x sz tk a6 f2 G v::zs) #[λU=>(nomatch(Lk sz).symm.trans U),rfl,hk] ds rfl (show 1<sz+4 by lia) ey (an _ _ O) hz eB eC).le ζ λ_ _ _ _ U=>U]
 .have T:=bO e0
  rw[C,R.r0]at dt;cases b with
  |false=>rw[ct j λdu I=>?_];subst du;refine#[[g_ x #[sz,tk,a6,f2,G,v,h,true]],W1 x (gJ sz tk) bs 0 (tk+7) (tk+10) b0 ne ca (n::r)++(zs.map (be h)++bt),?_,_,_,[(a6,aa #[a7] nr)],#[T _ _ c5,ab],λc1 eb=>Ru (k:=#[sz,tk,a6,f2,G,v,h,true]) rfl (T _ _ O) (T _ _ c5) (A.to T) R.k (by lia) (dR eg T) (λ_ _ _ U=>U.JH) R.ok R.run C rfl dt R.hm R.nd R.m9 R.w R.w0 (rk ol a6 nr sz tk G f2 c1 eb a7 v h x) (λd0 dd S ed n ea=>rkd ol a6 sz tk G f2 c1 d0 dd n ea S v ed h x) (λn E db X L=>rkw ol a6 sz tk G f2 c1 n E X L v h db x) (λn X L bb bl K c ac bo H d1 d2 d3 i ck ch t d l M Q=>rkf ol a6 sz tk G f2 n X L bb bl bo H d1 d2 d3 i ck ch t d M Q l v K c h ac x) (λn X L bb bl K c ac bo ck ch t l Q y ec dV q=>rkg ol a6 sz tk G f2 n X L bb bl bo ck ch t Q ec dV q l y v K c h ac x) λn X L bb bl K c ac bo M Q=>rkh ol a6 sz tk G f2 n X L bb bl bo M Q v K c h ac x];simp only[bQ];rw[I.trans<|pm [[(gJ sz tk).D x.P (.ref bs) 0 (tk+7) 0<|tk+10],[(bs,aa #[ca.map ax] b0)],_,Gr (n::r),[g_ x #[sz,tk,a6,f2,G,v,h,true]],zs.map<|be h,bt] (.p (.p (.p (.a 0)<|.p (.a 1)<|.a 2)<|.p (.a 3)<|.p (.a 4)<|.a 5)<|.a 6) (.p (.a 4)<|.p (.p (.a 0)<|.p (.a 1)<|.p (.a 2)<|.a 3)<|.p (.a 5)<|.a 6) rfl]
  |true=>
   rw[n_ j λe c0 W c3 c2 du I=>?_];subst du;rw[#[[g_ x #[sz,tk,a6,f2,G,v,h,true],(e,lq c0<|.ref W)],[(W,kX c3 c2)]++(W1 x (gJ sz tk) bs 0 (tk+7) (tk+10) b0 ne ca (n::r)++(zs.map (be h)++bt)),?_,_,_,[],ab,λc1 eb=>xN (re ol a6 sz tk G f2 c1 eb e c0 W v h x) ab ab (Lc:=(oj x sz tk a6 f2 G v::zs).map (be h)++[(e,lq c0<|.ref W),(W,kX c3 c2)]) (Z:=W1 x (gJ sz tk) bs 0 (tk+7) (tk+10) b0 ne ca (n::r)++bt) (pm [[g_ x #[sz,tk,a6,f2,G,v,h,true]],_,_,W1 x (gJ sz tk) bs 0 (tk+7) (tk+10) b0 ne ca (n::r),zs.map<|be h,bt] (.p (.p (.a 0)<|.a 1)<|.p (.a 2)<|.p (.a 3)<|.p (.a 4)<|.a 5) (.p (.p (.p (.a 0)<|.a 4)<|.p (.a 1)<|.a 2)<|.p (.a 3)<|.a 5) rfl) λw B s e3 ew o=>?_]]
   .simp only[bQ]
    rw[I.trans<|pm [[(gJ sz tk).D x.P (.ref bs) 0 (tk+7) 0<|tk+10],[(bs,aa #[ca.map ax] b0)],_,Gr (n::r),[g_ x #[sz,tk,a6,f2,G,v,h,true]],zs.map<|be h,[(e,lq c0<|.ref W)],_,bt] (.p (.p (.p (.p (.a 0)<|.p (.a 1)<|.a 2)<|.p (.a 3)<|.p (.a 4)<|.a 5)<|.p (.a 6)<|.a 7)<|.a 8) (.p (.p (.a 4)<|.a 6)<|.p (.a 7)<|.p (.p (.a 0)<|.p (.a 1)<|.p (.a 2)<|.a 3)<|.p (.a 5)<|.a 8) rfl]
   .have ep:bg x (fz ef []) ((oj x sz tk a6 f2 G v::zs).map (be h)++(e,gZ (.ref 80) [.ref c0,.ref W,.none,.none,.bool false,.none])::(W,kX c3 c2)::w) B s:=by have ei:=o;rw[b4]at ei;rw[ei]
    refine afc ew rfl (hk:=#[λU=>(nomatch(Lk sz).symm.trans U),rfl,hk]) ep λc4 da m P em=>bY (fz ef []) ((oj x sz tk a6 f2 G v::zs).map (be m)++[(e,gZ (.ref 80) _),(c4,wi (.ref W) sz da),(W,kX c3 c2)]) aV (by rw[b4,];rw[em]) ?_;rw[#[[g_ x #[sz,tk,a6,f2,G,v,m,true],(e,gZ (.ref 80) _),(c4,wi (.ref W) sz da)],W1 x (gJ sz tk) bs 0 (tk+7) (tk+10) b0 ne ca (n::r)++(zs.map (be m)++([(W,kX c3 c2)]++bt)),pm [[g_ x #[sz,tk,a6,f2,G,v,m,true]],zs.map<|be m,[(e,gZ (.ref 80) _),(c4,wi (.ref W) sz da)],_,W1 x (gJ sz tk) bs 0 (tk+7) (tk+10) b0 ne ca (n::r),bt] (.p (.p (.p (.a 0)<|.a 1)<|.p (.a 2)<|.a 3)<|.p (.a 4)<|.a 5) (.p (.p (.a 0)<|.a 2)<|.p (.a 4)<|.p (.a 1)<|.p (.a 3)<|.a 5) rfl,_,_,[(a6,aa #[a7] nr)],#[an _ _<|T _ _ c5,ab],λdx e1=>Ru (k:=#[sz,tk,a6,f2,G,v,m,false]) rfl (an _ _<|T _ _ O) (an _ _<|T _ _ c5) (A.to λp Y U=>an p Y<|T p Y U) R.k (by lia) (cb<|dR eg T) (λ_ _ _ U=>U.JH) R.ok R.run C rfl dt R.hm R.nd R.m9 R.w R.w0 (rg ol a6 nr sz tk G f2 e c0 W c4 dx e1 a7 da v m x) (λd0 dd S ed n ea=>rgd ol a6 sz tk G f2 dx d0 dd n ea S v ed m x) (λn E db X L=>rgw ol a6 sz tk G f2 dx n E X L v m db x) (λn X L bb bl K c ac bo H d1 d2 d3 i ck ch t d l M Q=>rgf ol a6 sz tk G f2 n X L bb bl bo H d1 d2 d3 i ck ch t d M Q l v K c m ac x) (λn X L bb bl K c ac bo ck ch t l Q y ec dV q=>rgg ol a6 sz tk G f2 n X L bb bl bo ck ch t Q ec dV q l y v K c m ac x) λn X L bb bl K c ac bo M Q=>rgh ol a6 sz tk G f2 n X L bb bl bo M Q v K c m ac x]]
def ZI(hk:iX ol zs){cs:cJ}(R:sI (a8::rest) b cs rd)(g:F a6 (aa #[a7] nr))(A:aM F ((a8::rest).map dG) a7):Go x #[none,some ol,false] 600 F (uS x zs ((not (b))) rd cs) F (zs.map<|be us) (DM ol a6 nr sz tk a7 x):=by
 have i:=R.le;simp only[dN]at i;refine bP (Z:=zs.map<|be us) (aph ol a6 nr sz tk a7 x) ab ab (pm [[Ip x (gJ sz tk) sz a6 tk<|tk+13],[(gJ sz tk).D x.P .none 0 (tk+7) 0<|tk+10],[(gJ sz tk).N [] 0],_,zs.map<|be us] (.p (.p (.a 0)<|.p (.a 1)<|.p (.a 2)<|.a 3)<|.a 4) (.p (.p (.p (.a 0)<|.p (.a 3)<|.a 1)<|.p (.a 2) .z)<|.a 4) rfl) ((aru (S:=gJ sz tk) (show 1<sz+4 by lia) (bc<|.head _) (an _ _ g) (A.to an) R.k<|by lia).hd.le ζ λ_ _ _ _ U=>U) λt c s u q=>?_;rw[q.casesOn λf v K y C h m=>?_];have j:=bO u;have O:=u _ _<|bc<|.head _;obtain⟨n,r,rfl⟩:∃n r,K=n::r:=by
  cases K with
  |nil=>rw[absurd R.r0 (by rw[C▸?_];intro U;cases U)]
  |cons n r=>rw[kh n r rfl]
 have d:=R.ff;have l:(r.length+1)*R.f<=4000:=by rw[<-(by simp only[<-C,aU]:(n::r).length=((a8::rest).foldl gK []).length)]at d;rw[d]
 have Y:qi (n::r):=λq o p I=>by have:=R.ok.cl (q.k,q.ss.map (·.1)) (by rw[<-C];unfold dH;rw[bI,];rw[bw o]) p.1<|bw I;rw[<-C]at this;unfold dH at this;rw[bI,bI]at this;rw[aJ (bn.mp this) λE H e=>bA E H e]
 have T:iQ ((n::r).map Nd.pg) R.f ((n::r).map (·.k)) []=some b:=by simp only[C,show(n::r).map (·.k)=bC ((n::r).map Nd.pg) by unfold bC;rw[bI,];rfl,C];rw[R.se]
 rw[#[_,(_++Gr (n::r))++zs.map (be us),(m.append_right _).trans <|pm [[vb x (gJ sz tk) sz a6 tk (tk+13) f v,(gJ sz tk).D x.P .none 0 (tk+7) 0<|tk+10],_++Gr (n::r),zs.map<|be us] (.p (.p (.a 0)<|.a 1)<|.a 2) (.p (.a 0)<|.p (.a 1)<|.a 2) rfl,_,_,[(sz+2,a9<|sz+1)],⟨O,ab⟩,λJ G=>ZJ hk R (j _ _ g) (A.to j) O j C #[R.f0,(bT (Nat.le_mul_of_pos_left _<|sB _) l)] Y (by have:=h.1;simp only[dN]at this;rw[akJ i this]) l T]]
def arl(hk:iX ol zs){cs:cJ}(R:sI (J::rest) b cs rd)(a:F D (aa #[G] nr))(A:aM F ((J::rest).map dG) G):ay x #[none,some ol,false] 600 (.call (.ref 903) #[[.ref D],[]]) F (zs.map<|be us) (uS x zs ((not (b))) rd cs):=lY (O:=[(D,aa #[G] nr)]) #[a,ab] λB K=>ZI hk R a A
end
section
variable(z f0 f1 f2 f3 f4 f5 n sz tk f6 U a6 t1 a7 J bb a8 t4:N) (v:!UInt8) (G:Int) (x:Wd) (Y D K:ao)
def Oy(x:Wd)(z f0 f1 f2 f3 f4 f5 n:N)(q m:N)(sz tk:N)(Y:ao):av:=ex x aj 150 (.code<|cM mn 3<|nW z)<|cf [(z,az [V x.P iv f0<|iN n f1,V x.P iw f2<|.bytes #[[]] f3,V x.P iu f4<|.bytes i_ f5] 3)] sz tk (H 0x551cb0) [iN q 0,iN m 0] [] Y
def aq4(x z f0 f1 f2 f3 f4 f5 n q m sz tk Y)(H:m<16):Ev (Oy x z f0 f1 f2 f3 f4 f5 n q m sz tk Y) Y [0] (.next<|cM mn 3<|nW z) [(z,az [V x.P iv f0<|.int (ad q)<|tk+1,V x.P iw f2<|.bytes #[[pf<|65+m]]<|tk+7,V x.P iu f4<|.bytes i_ f5,V x.P p6 (tk+4)<|.int (ad m)<|tk+2] 4)] [] [((ad n !=0),true)] [(wV (ad n) 16 (ad q)<|ad m)]:=s5 (λx=>Oy x z f0 f1 f2 f3 f4 f5 n q m sz tk Y) (by revert m;rw[y7<|by lk])
def Oz(x:Wd)(z f0 f1 f2 f3 f4 f5 n:N)(f6 b a:N)(v:!UInt8)(q m:N)(sz tk:N)(Y:ao):av:=ex x aj 150 (.code<|cM mn 3<|nW z)<|cf [(z,az [V x.P iv f0<|iN n f1,V x.P iw f2<|.bytes #[v] f3,V x.P iu f4<|.bytes i_ f5,V x.P p6 f6<|iN a b] 4)] sz tk (H 0x557cb0) [iN q 0,iN m 0] [] Y
def aq5(x z f0 f1 f2 f3 f4 f5 n f6 b a v q m sz tk Y)(H:m<16):Ev (Oz x z f0 f1 f2 f3 f4 f5 n f6 b a v q m sz tk Y) Y [0] (.next<|cM mn 3<|nW z) [(z,az [V x.P iv f0<|.int (ad q)<|tk+1,V x.P iw f2<|.bytes (ar [pf<|65+m]++ar v)<|tk+8,V x.P iu f4<|.bytes i_ f5,V x.P p6 f6<|.int (ad m)<|tk+2] 4)] [] [((ad n !=0),true)] [(Gq (ar [pf<|65+m])<|ar v),(wV (ad n) 16 (ad q)<|ad m)]:=s5 (λx=>Oz x z f0 f1 f2 f3 f4 f5 n f6 b a v q m sz tk Y) (by revert m;rw[y7<|by lk])
def aq6:Ev (ex x aj 150 (.code<|cM mn 3<|nW z)<|cf [(z,az [V x.P iv f0<|iN n f1,V x.P iw f2<|.bytes #[[]] f3,V x.P iu f4<|.bytes i_ f5] 3)] sz tk [1,0,1] [] [] Y) Y [0] (.res<|.ok .next) [(z,az [V x.P iv f0<|iN n f1,V x.P iw f2<|.bytes #[[]] f3,V x.P iu f4<|.bytes i_ f5] 3)] [] [((ad n !=0),false)] []:=by lk
def aq7:Ev (ex x aj 150 (.code<|cM mn 3<|nW z)<|cf [(z,az [V x.P iv f0<|iN n f1,V x.P iw f2<|.bytes #[v] f3,V x.P iu f4<|.bytes i_ f5,V x.P p6 f6<|iN a6 U] 4)] sz tk [1,0,1] [] [] Y) Y [0] (.res<|.ok .next) [(z,az [V x.P iv f0<|iN n f1,V x.P iw f2<|.bytes #[v] f3,V x.P iu f4<|.bytes i_ f5,V x.P p6 f6<|iN a6 U] 4)] [] [((ad n !=0),false)] []:=by lk
def Nm:av:=ex x aj 200 (.fn 46 #[[iN n t1],[]])<|cf [] sz tk (H 0x555c105c105c30) [] [] Y
def Cz(x:Wd)(sz:N):Ko:=(Nm 0 sz 0 0 x []).resume
def Ui:Ev (Nm n sz tk t1 x Y) Y [0] (.pend 197 aj (cM mn 3<|nW sz)<|Cz x sz) [(sz,az [V x.P iv tk<|iN n t1,V x.P iw (tk+2)<|.bytes #[[]]<|tk+1,V x.P iu (tk+4)<|.bytes #[[65,66,67,68,69,70,71,72,73,74,75,76,77,78,79,80]]<|tk+3] 3)] [] [] []:=by lk
def Uj:Ev (Cz x sz (.ok .next)<|cf [(sz,az [V x.P iv f0<|iN 0 f1,V x.P iw f2<|.bytes #[[]] f3,V x.P iu f4<|.bytes i_ f5] 3)] a7 J [1] [] [] D) D [] (.res<|.ok<|.ret<|.bytes #[[]] f3) [] [] [] []:=by lk
def Uk:Ev (Cz x sz (.ok .next)<|cf [(sz,az [V x.P iv f0<|iN 0 f1,V x.P iw f2<|.bytes #[v] f3,V x.P iu f4<|.bytes i_ f5,V x.P p6 f6<|iN a6 U] 4)] a7 J [1] [] [] D) D [] (.res<|.ok<|.ret<|.bytes (ar v) f3) [] [] [] []:=by lk
def No:av:=ex x aj 200 (.fn 46 #[[.int G t1],[]])<|cf [] sz tk (H 0x55c105c30) [] [] Y
def Kk(x:Wd)(sz:N):Ko:=(No sz 0 0 0 x []).resume
def UJ:Ev (No sz tk t1 G x Y) Y [0] (.pend 197 aj (.call (.builtin "abs") #[[.int (G) t1],[]])<|Kk x sz) [(sz,az [V x.P iv tk<|.int (G) t1,V x.P iw (tk+2)<|.bytes #[[]]<|tk+1,V x.P iu (tk+4)<|.bytes #[[65,66,67,68,69,70,71,72,73,74,75,76,77,78,79,80]]<|tk+3] 3)] [] [] []:=by lk
def Np:av:=Kk x sz (.ok<|.ret<|iN n J)<|cf [(sz,az [V x.P iv tk<|.int G t1,V x.P iw (tk+2)<|.bytes #[[]]<|tk+1,V x.P iu (tk+4)<|.bytes i_<|tk+3] 3)] a7 bb (H 0x55511) [] [] D
def CB(x:Wd)(sz:N):Ko:=(Np 0 sz 0 0 0 0 0 0 x []).resume
def UK:Ev (Np n sz tk t1 a7 J bb G x D) D [0] (.pend 197 aj (cM mn 3<|nW sz)<|CB x sz) [(sz,az [V x.P iv tk<|iN n J,V x.P iw (tk+2)<|.bytes #[[]]<|tk+1,V x.P iu (tk+4)<|.bytes #[[65,66,67,68,69,70,71,72,73,74,75,76,77,78,79,80]]<|tk+3] 3)] [] [] []:=by lk
def UL:Ev (CB x sz (.ok .next)<|cf [(sz,az [V x.P iv f0<|iN 0 f1,V x.P iw f2<|.bytes #[[]] f3,V x.P iu f4<|.bytes i_ f5] 3)] a8 t4 [1] [] [] K) K [] (.res<|.ok<|.ret<|.bytes #[[]] f3) [] [] [] []:=by lk
def UM:Ev (CB x sz (.ok .next)<|cf [(sz,az [V x.P iv f0<|iN 0 f1,V x.P iw f2<|.bytes #[v] f3,V x.P iu f4<|.bytes i_ f5,V x.P p6 f6<|iN a6 U] 4)] a8 t4 [1] [] [] K) K [] (.res<|.ok<|.ret<|.bytes (ar v) f3) [] [] [] []:=by lk
end
def O2(h:n<2^60):wV (ad n) 16 (ad<|n/16) (ad<|n%16):=by
 rw[#[ζ,?_,?_,?_]]
 .unfold uD
  simp;exactλh=>absurd h ζ
 .simp only[qn]
  rw[SC _<|ζ,];lia
 .simp only[qn]
  rw[SE _<|ζ,];lia
def OI(h:n≠0):(ad n !=0)=true:=by simp;rw[af0 h]
section
variable{x:Wd}
abbrev H_(x:Wd)(z f0 f1 f2 f3 f4 f5 n:N):aH×Obj:=(z,az [V x.P iv f0<|.int (ad n) f1,V x.P iw f2<|.bytes #[[]] f3,V x.P iu f4<|.bytes i_ f5] 3)
abbrev BE(x:Wd)(z f0 f1 f2 f3 f4 f5 f6 b n m:N)(v:!UInt8):aH×Obj:=(z,az [V x.P iv f0<|.int (ad n) f1,V x.P iw f2<|.bytes #[v] f3,V x.P iu f4<|.bytes i_ f5,V x.P p6 f6<|.int (ad m) b] 4)
abbrev G6(z:N):bj:=cM mn 3<|nW z
inductive GI (x:Wd) (z f0 f2 f4 f5 f6:N) (v:!UInt8) (F':Fs):aL->ao->Prop
 |mk (m f1 f3 f7):GI x z f0 f2 f4 f5 f6 v F' (.ok .next) [BE x z f0 f1 f2 f3 f4 f5 f6 f7 0 m v]
def afP{z f0 f2 f4 f5 f6:N}:∀(n) {m f1 f3 b v F},n<2^60->v≠[]->v.length+(ap n).length<=100->ay x aj 150 (G6 z) F [BE x z f0 f1 f2 f3 f4 f5 f6 b n m v] (GI x z f0 f2 f4 f5 f6<|ap n++v):=by
 intro n;induction n using Tt with
 |_ n C=>
  intro m f1 f3 b v F w X c;by_cases L:n=0
  .subst L
   rw[fu (O:=[]) ab λB K=>bp (aq7 z f0 f1 f2 f3 f4 f5 0 B K f6 b m v x) #[rfl,ab] ab (aV) (by rw[qN,];rw[#[m,f1,f3,b]])]
  .have H:n%16<16:=bq _ ζ
   have I:=sQ L;have a:(ap n).length=(ap<|n/16).length+1:=by rw[I,];simp
   rw[fu (O:=[]) ab λB K=>bu (λd=>aq5 x z f0 f1 f2 f3 f4 f5 n f6 b m v (n/16) (n%16) B K d H) #[OI L,ab] #[#[rfl,?_,?_],O2 w,ab] rfl (aV) ?_]
   .cases v with
    |nil=>rw[absurd rfl X]
    |cons _ _=>rfl
   .rw[af1 c a]
   .rw[show(ar _++ar v)=ar (pf (65+n%16)::v)from h_ (by simp),]
    have z:=@C (n/16) (Dg L) (n%16) (K+1) (K+8) (K+2) (pf (65+n%16)::v) (fz F []) (Md w) (dl _ _)<|af2 c a;simp only[show ap (n/16)++pf (65+n%16)::v=ap n++v by simp only[I];simp]at z;rw[z.le (d8 _) λJ J J J U=>U]
inductive Ap (x:Wd) (z f0 f4 f5 n:N) (F':Fs):aL->ao->Prop
 |a (f1 f2 f3) (h:n=0):Ap x z f0 f4 f5 n F' (.ok .next) [H_ x z f0 f1 f2 f3 f4 f5 0]
 |b (f1 f2 f3 f6 f7 m):Ap x z f0 f4 f5 n F' (.ok .next) [BE x z f0 f1 f2 f3 f4 f5 f6 f7 0 m (ap n)]
def LI{z f0 f1 f2 f3 f4 f5 n:N}(w:n<2^60)(e:(ap n).length<=100):ay x aj 150 (G6 z) F [H_ x z f0 f1 f2 f3 f4 f5 n] (Ap x z f0 f4 f5 n):=by
 by_cases L:n=0
 .subst L
  rw[fu (O:=[]) ab λB K=>bp (aq6 z f0 f1 f2 f3 f4 f5 0 B K x) #[rfl,ab] ab (aV)<|.a f1 f2 f3 rfl]
 .have H:n%16<16:=bq _ ζ
  have I:=sQ L;refine fu (O:=[]) ab λB K=>bu (λd=>aq4 x z f0 f1 f2 f3 f4 f5 n (n/16) (n%16) B K d H) #[OI L,ab] #[O2 w,ab] rfl (aV) ((afP (n/16) (Md w) (dl _ _)<|af3 e (by rw[I▸?_];simp)).le (d8 _) λr T h J q=>?_);rw[q.casesOn λE c i U=>I▸.b c f2 i _ U E]
def t46(w:n<2^60)(a:(ap n).length<=100):ay x aj 200 (.call (.ref 46) #[[.int (ad n) t1],[]]) F [] (QB<|ap n):=by
 rw[fv (O:=[]) ab λB K=>bP (Ui n B K t1 x) ab ab (.refl _) ((LI w a).le ζ λD D D D U=>U) λr T h l q=>?_];obtain⟨W,f,c,rfl⟩|⟨W,f,c,d,b,E⟩:=q
 .rw[#[_,[],.refl _,_,_,[],ab,λJ G=>bp (Uj _ _ _ _ _ _ B J G x) ab ab (bO l)<|qN▸⟨c⟩]]
 .rw[⟨_,[],.refl _,_,_,[],ab,λJ G=>bp (Uk _ _ _ _ _ _ B _ _ _ J G _ x) ab ab (bO l) #[c]⟩]
def Ye{R:aL->Fs->ao->Prop}(T:bg x F X D s)(f:∀k,R (.ok<|.ret<|.int (ad i.natAbs) k) F []):fi (aE pw x.W) A (.call (.builtin "abs") ⟨[.int i t],[]⟩) (λr P=>∃F' L',Le F F'/\bg x F' (L'++X) D P/\R r F' L') s:=by
 rw[gN (lA (E:=λJ J=>False) (Q:=λv P=>∃F' L',Le F F'/\bg x F' (L'++X) D P/\R (.ok<|.ret v) F' L')<|PyProof.Rows.call_abs_int λS K=>?_) λr P U=>?_]
 .rw[aa0,]
  rw[bY F [] aV T.tok<|f _]
 .split at U
  .rw[U]
  .rw[U.elim]
  .rw[U.elim]
def EU(hi:i.natAbs=n)(w:n<2^60)(a:(ap n).length<=100):ay x aj 200 (.call (.ref 46) #[[.int i t1],[]]) F [] (QB<|ap n):=by
 subst hi;rw[fv (O:=[]) ab λB K=>jh (Lc:=[]) (UJ B K t1 i x) ab ab (.refl _) λd j s A C o=>Ye o λG=>#[[_],[],.refl _,_,_,[],ab,λJ E=>bP (UK i.natAbs B K t1 J G E i x) ab ab (.refl _) ((LI w a).le ζ λ_ _ _ _ U=>U) λr T h l q=>?_]];obtain⟨W,f,c,L⟩|⟨W,f,c,e,b,g⟩:=q
 .rw[#[_,[],.refl _,_,_,[],ab,λD R=>bp (UL _ _ _ _ _ _ B D R x) ab ab (dR (cb an) l)<|L▸qN▸⟨c⟩]]
 .rw[⟨_,[],.refl _,_,_,[],ab,λD R=>bp (UM _ _ _ _ _ _ B _ _ _ D R _ x) ab ab (dR (cb an) l) #[c]⟩]
end
section
variable(G hi t1 U sz tk t a7 a6:N) (J:UInt8) (D:!UInt8) (x:Wd) (Y K:ao)
def N3:av:=ex x aj 300 (.fn 860 #[[iN G t1,iN hi U],[]])<|cf [] sz tk (H 0x51151515555) [] [] Y
def KQ(x:Wd)(sz:N):Ko:=(N3 0 0 0 0 sz 0 x []).resume
def amb:Ev (N3 G hi t1 U sz tk x Y) Y [] (.pend 297 aj (.call (.ref 46) #[[.int (16*ad G+ad hi)<|tk+4],[]])<|KQ x sz) [] [] [] []:=by lk
def amc:Ev (KQ x sz (.ok<|.ret<|.bytes #[J::D] t)<|cf [] a7 a6 [0,15] [] [] K) K [] (.res<|.ok<|.ret<|ah (fg #[(J::D)])<|a6+4) [] [] [] [o5 #[(J::D)]]:=by lk
end
def EW(L:hi≠0)(w:16*a6+hi<16^10):ay x aj 300 (.call (.ref 860) #[[.int (ad a6) t1,.int (ad hi) G],[]]) F [] (QS<|nm a6 hi):=by
 have a:=qM 10 _ w;rw[fW (jY<|AH (n:=16*a6+hi)<|ajT L) λZ l W=>fv (O:=[]) ab λB K=>bP (amb a6 hi t1 G B K x) ab ab (.refl _) ((EU (n:=16*a6+hi) rfl (ajU w)<|ajV a).le ζ λ_ _ _ _ U=>U) λr T h Q q=>q.casesOn λD=>W▸#[[],[],.refl _,_,_,[],ab,λJ E=>bp (amc B D J E Z l x) ab #[#[λy b=>?_,?_],ab] (bO Q) ?_]]
 .have:=AG _ y<|W▸b
  rw[yd this]
 .rw[W▸ajW a]
 .unfold nm d_
  rw[W▸#[E+4]]
abbrev cW:aA:=sK 0x706f6f6c
abbrev cY:aA:=sK 0x72616e676573
abbrev lS:aA:=sK 0x70696c65
abbrev oB:aA:=sK 0x6c6f77
abbrev dh:aA:=sK 0x68696768
abbrev di:aA:=sK 0x7061727473
abbrev oD:aA:=sK 0x6d6964646c65
section
variable(p sz tk z r q f0 f1 f2 a6 nr nq y J K D hi f3 f4 f5 f6 i m v U a8 bb:N) (ps rs G:!af) (v3 v4 v5 v6:af) (x:Wd) (Y a7:ao)
def N8:av:=ex x aj 200 (.fn 867 #[[.ref p],[]])<|cf [] sz tk (H 0x55c30) [] [] Y
def KV(x:Wd)(sz:N):Ko:=(N8 0 sz 0 x []).resume
def aoR:Ev (N8 p sz tk x Y) Y [0,1,3,2] (.pend 197 aj (cM mq 2<|nX sz)<|KV x sz) [(sz,az [V x.P #[#[[112,111,111,108]]] tk<|.ref p,V x.P #[#[[114,97,110,103,101,115]]] (tk+1)<|.ref<|sz+1,V x.P #[#[[112,105,108,101]]] (tk+4)<|.ref<|sz+3] 3),((sz+1),aa #[[]] 0),((sz+3),aa #[[.ref<|sz+2]] 0)] [((sz+2),aD [.int (0)<|tk+2,.int (5)<|tk+3])] [] []:=by lk
def aoS:∀(x:Wd) Y,Ev (ex x aj 150 (.code<|cM mq 2<|nX z)<|cf [(z,az [V x.P cW f0<|.ref p,V x.P cY f1<|.ref r,V x.P lS f2<|.ref q,V x.P oB f3 v3,V x.P dh f4 v4,V x.P di f5 v5,V x.P oD f6 v6] 7),(r,aa #[rs] nr),(q,aa #[G] nq)] sz tk (H 0x98e0b505c309e5043c33335435) [.ref y] [(p,aa #[ps] a6),(y,aD [iN D J,iN hi K])] Y) Y [0,1,2,7,8] (.next<|cM mq 2<|nX z) [(z,az [V x.P cW f0<|.ref p,V x.P cY f1<|.ref r,V x.P lS f2<|.ref q,V x.P oB f3<|iN D J,V x.P dh f4<|iN hi K,V x.P di f5<|.ref<|sz+4,V x.P oD f6<|v6] 7),(r,aa ((ar rs).push<|aF<|sz+5)<|nr+1),(q,#[.type "list",none,.seq ((ar G).pop++ar [])<|iF (ar G).pop.size ((ar G).pop++ar []).size<|nq+1,#[[]]])] [((sz+4),aa #[[]] 0),((sz+5),aD [iN D J,iN hi K,.ref<|sz+4])] [((decide<|1<ad hi-ad D),false),(((not (G.length.beq 0))),true)] [uR (aI j8) (ar G).pop<|ar [],cm #[rs],o7 (ar G)<|aF y]:=cS
def aoP:∀(x:Wd) Y,Ev (ex x aj 150 (.code<|cM mq 2<|nX z)<|cf [(z,az [V x.P cW f0<|.ref p,V x.P cY f1<|.ref r,V x.P lS f2<|.ref q,V x.P oB f3 v3,V x.P dh f4 v4,V x.P di f5 v5,V x.P oD f6 v6] 7),(r,aa #[rs] nr),(q,aa #[G] nq)] sz tk (H 0xde033335435) [.ref y,iN i 0,iN v U,iN m 0] [(p,aa #[ps] a6),(y,aD [iN D J,iN hi K])] Y) Y [0,1,2,8,9,10,11] (.next<|cM mq 2<|nX z) [(z,az [V x.P cW f0<|.ref p,V x.P cY f1<|.ref r,V x.P lS f2<|.ref q,V x.P oB f3<|iN D J,V x.P dh f4<|iN hi K,V x.P di f5<|.ref<|sz+7,V x.P oD f6<|.int (ad D+1+ad m)<|tk+16] 7),(r,aa ((ar rs).push<|aF<|sz+8)<|nr+1),(q,aa ((ar G).pop++ar [aF<|sz+5,aF<|sz+6])<|iF (ar G).pop.size ((ar G).pop++ar [aF<|sz+5,aF<|sz+6]).size<|nq+1)] [((sz+5),aD [.int (ad D+1+ad m)<|tk+16,iN hi K]),((sz+6),aD [iN D J,.int (ad D+1+ad m)<|tk+16]),((sz+7),aa #[[.ref<|sz+5,.ref<|sz+6]] 0),((sz+8),aD [iN D J,iN hi K,.ref<|sz+7])] [((decide<|1<ad hi-ad D),true),(((not (G.length.beq 0))),true)] [uR (aI j8) (ar G).pop<|ar [aF<|sz+5,aF<|sz+6],cm #[rs],cj (ad v) (ad hi-ad D-1)<|ad m,d9 #[ps] (ad i)<|iN v U,cj (rs.length:Int) (ps.length:Int)<|ad i,gd (aI "list")<|ar ps,gd (aI "list")<|ar rs,o7 (ar G)<|aF y]:=cS
def aoQ:∀(x:Wd) Y,Ev (ex x aj 150 (.code<|cM mq 2<|nX z)<|cf [(z,az [V x.P cW f0<|.ref p,V x.P cY f1<|.ref r,V x.P lS f2<|.ref q] 3),(r,aa #[rs] nr),(q,aa #[G] nq)] sz tk (H 0xde033335435) [.ref y,iN i 0,iN v U,iN m 0] [(p,aa #[ps] a6),(y,aD [iN D J,iN hi K])] Y) Y [0,1,2,8,9,10,11] (.next<|cM mq 2<|nX z) [(z,az [V x.P cW f0<|.ref p,V x.P cY f1<|.ref r,V x.P lS f2<|.ref q,V x.P oB tk<|iN D J,V x.P dh (tk+1)<|iN hi K,V x.P di (tk+2)<|.ref<|sz+7,V x.P oD (tk+17)<|.int (ad D+1+ad m)<|tk+16] 7),(r,aa ((ar rs).push<|aF<|sz+8)<|nr+1),(q,aa ((ar G).pop++ar [aF<|sz+5,aF<|sz+6])<|iF (ar G).pop.size ((ar G).pop++ar [aF<|sz+5,aF<|sz+6]).size<|nq+1)] [((sz+5),aD [.int (ad D+1+ad m)<|tk+16,iN hi K]),((sz+6),aD [iN D J,.int (ad D+1+ad m)<|tk+16]),((sz+7),aa #[[.ref<|sz+5,.ref<|sz+6]] 0),((sz+8),aD [iN D J,iN hi K,.ref<|sz+7])] [((decide<|1<ad hi-ad D),true),(((not (G.length.beq 0))),true)] [uR (aI j8) (ar G).pop<|ar [aF<|sz+5,aF<|sz+6],cm #[rs],cj (ad v) (ad hi-ad D-1)<|ad m,d9 #[ps] (ad i)<|iN v U,cj (rs.length:Int) (ps.length:Int)<|ad i,gd (aI "list")<|ar ps,gd (aI "list")<|ar rs,o7 (ar G)<|aF y]:=cS
def Pz:Ev (ex x aj 150 (.code<|cM mq 2<|nX z)<|cf [(z,az [V x.P cW f0<|.ref p,V x.P cY f1<|.ref r,V x.P lS f2<|.ref q,V x.P oB f3 v3,V x.P dh f4 v4,V x.P di f5 v5,V x.P oD f6 v6] 7),(q,aa #[[]] nq)] sz tk [1,2,0] [] [] Y) Y [0] (.res<|.ok .next) [(z,az [V x.P cW f0<|.ref p,V x.P cY f1<|.ref r,V x.P lS f2<|.ref q,V x.P oB f3<|v3,V x.P dh f4<|v4,V x.P di f5<|v5,V x.P oD f6<|v6] 7)] [] [] []:=by lk
def aoT:Ev (KV x sz (.ok .next)<|cf [(sz,az [V x.P cW f0<|.ref p,V x.P cY f1<|.ref r,V x.P lS f2<|.ref q,V x.P oB f3 v3,V x.P dh f4 v4,V x.P di f5 v5,V x.P oD f6 v6] 7)] a8 bb [1] [] [] a7) a7 [] (.res<|.ok<|.ret<|.ref r) [] [] [] []:=by lk
end
abbrev gp(n:N):PV:=.int<|ad n
abbrev vQ(p:N×N):PV:=.tup [gp p.1,gp p.2]
def d6:N×N×Option N->PV
 |(R,m,none)=>.tup [gp R,gp m,.lst []]
 |(R,m,some E)=>.tup [gp R,gp m,.lst [vQ (E,m),vQ (R,E)]]
def gq(l:!(N×N)):N:=(l.map λp=>2*(p.2-p.1)-1).sum
def DW(h:Rp F (vQ (D,hi)) v):∃y f Z,v=.ref y/\F y (aD [.int (ad D) f,.int (ad hi) Z]):=by rw[cp (jO.mp h) λy Q P a M=>?_];subst P;obtain⟨l,E,rfl,O,M⟩:=cq.mp M;obtain⟨o,E,rfl,w,M⟩:=cq.mp M;obtain rfl:=eu.mp M;obtain⟨f,rfl⟩:=dT.mp O;obtain⟨Z,rfl⟩:=dT.mp w;rw[ve y f Z rfl a]
def px(h:F y (aD [.int (ad D) G,.int (ad hi) J])):Rp F (vQ (D,hi)) (.ref y):=jO.mpr<|bY y _ rfl h<|.cons (dT.mpr #[G,rfl])<|.cons (dT.mpr #[J,rfl]) .nil
def Eh(h:l.length<=10000):cm #[l]:=by rw[tZ h]
def apR:∀{l vs},aM F (l++[p]) vs->∃ws v,vs=ws++[v]/\aM F l ws/\Rp F p v:=by
 intro J;induction J with
 |nil=>intro vs U;rw[cp (cq.mp U) λv ws P a M=>?_];subst P;obtain rfl:=eu.mp M;rw[bY [] v rfl .nil a]
 |cons y l C=>intro vs U;rw[cp (cq.mp U) λv ws P a M=>?_];subst P;rw[cp (C M) λB S P X I=>?_];subst P;rw[bY (v::B) S rfl (.cons a X) I]
def Ee(o:a=ad m)(L:m≠0)(h:n%m=r):cj (ad n) a (ad r):=by rw[o▸fZ L h]
section
variable{x:Wd}
abbrev Zz(x:Wd)(z p r q f0 f1 f2:N):aH×Obj:=(z,az [V x.P cW f0<|.ref p,V x.P cY f1<|.ref r,V x.P lS f2<|.ref q] 3)
abbrev xI(x:Wd)(z p r q f0 f1 f2 f3 f4 f5 f6:N)(v3 v4 v5 v6:af):aH×Obj:=(z,az [V x.P cW f0<|.ref p,V x.P cY f1<|.ref r,V x.P lS f2<|.ref q,V x.P oB f3 v3,V x.P dh f4 v4,V x.P di f5 v5,V x.P oD f6 v6] 7)
abbrev G7(z:N):bj:=cM mq 2<|nX z
inductive Ag (x:Wd) (z p r q f0 f1 f2:N) (out:!(N×N×Option N)) (F':Fs):aL->ao->Prop
 |mk (f3 f4 f5 f6 v3 v4 v5 v6 rs nr) (h1:aM F' (out.map d6) rs):Ag x z p r q f0 f1 f2 out F' (.ok .next) ([xI x z p r q f0 f1 f2 f3 f4 f5 f6 v3 v4 v5 v6]++[(r,aa #[rs] nr)])
def Pl(l)(v:af)(m):(ar<|l++[v]).pop++ar m=ar (l++m):=h_<|by simp
def afQ{z p r q f0 f1 f2 s:N}(P:am≠[])(o:am.length<=100):∀(f) {kq done f3 f4 f5 f6 nr nq v3 v4 v5 v6 rs c F},F p (aa #[ps] s)->aM F (am.map gp) ps->gq kq<=f->(∀y∈kq,y.1<y.2/\y.2<=100)->aM F (kq.reverse.map vQ) c->aM F (done.map d6) rs->done.length+f<=1000->kq.length+f<=1000->ay x aj 150 (G7 z) F [xI x z p r q f0 f1 f2 f3 f4 f5 f6 v3 v4 v5 v6,(r,aa #[rs] nr),(q,aa #[c] nq)] (Ag x z p r q f0 f1 f2<|done++gQ am f done.length kq):=by
 intro f;induction f with
 |zero=>
  intro kq done f3 f4 f5 f6 nr nq v3 v4 v5 v6 rs c F I t w b u A a6 M;cases kq with
  |cons y kq=>have:=(b y<|.head _).1;simp only[gq,bW,lg]at w;rw[absurd w<|alP this]
  |nil=>obtain rfl:=eu.mp u;rw[.perm (pm [[xI x z p r q f0 f1 f2 f3 f4 f5 f6 v3 v4 v5 v6],[(r,aa #[rs] nr)],_] (.p (.a 0)<|.p (.a 1)<|.a 2) (.p (.p (.a 0)<|.a 2)<|.a 1) rfl)<|bJ (Y:=[(r,aa #[rs] nr)]) (O:=[]) ab λB K=>bp (Pz p B K z r q f0 f1 f2 nq f3 f4 f5 f6 v3 v4 v5 v6 x) ab ab (aV) #[f3,f4,f5,f6,v3,v4,v5,v6,rs,nr,?_]];simp only[show gQ am 0 done.length []=[]from rfl,bQ];rw[A.to an]
 |succ f a7=>
  intro kq done f3 f4 f5 f6 nr nq v3 v4 v5 v6 rs c F I t w b u A a6 M;have S:=A.length;simp only[aU]at S;cases kq with
  |nil=>obtain rfl:=eu.mp u;rw[.perm (pm [[xI x z p r q f0 f1 f2 f3 f4 f5 f6 v3 v4 v5 v6],[(r,aa #[rs] nr)],_] (.p (.a 0)<|.p (.a 1)<|.a 2) (.p (.p (.a 0)<|.a 2)<|.a 1) rfl)<|bJ (Y:=[(r,aa #[rs] nr)]) (O:=[]) ab λB K=>bp (Pz p B K z r q f0 f1 f2 nq f3 f4 f5 f6 v3 v4 v5 v6 x) ab ab (aV) #[f3,f4,f5,f6,v3,v4,v5,v6,rs,nr,?_]];simp only[show gQ am (f+1) done.length []=[]from rfl,bQ];rw[A.to an]
  |cons y kq=>
   obtain⟨R,m⟩:=y;have G:=b _<|.head _;dsimp only at G;simp only[uL,bf]at u;rw[cp (apR u) λc T bs k bb=>?_];subst bs;rw[jg (DW bb) λy ac Z j i=>?_];subst j;have l:=k.length;simp only[aU,Ta]at l;have C:((not ((c++[aF y]).length.beq 0)))=true:=by rw[cv,];rfl
   have L:o7 (ar<|c++[aF y]) (.ref y):=#[by show(c++[aF y]).length<=16777216;simp;rw[aiK M l],by simp];have W:∀E:!af,E.length<=2->uR (.type j8) (ar<|c++[aF y]).pop (ar E):=λE H=>#[by lk,by simp;rw[aiL M l H]]
   by_cases d:1<m-R
   .have h:ps.length=am.length:=by have:=t.length;rwa[aU]at this
    have D:=ni.mpr P;have g:done.length%am.length<am.length:=bq _ D;obtain⟨T,bl,n⟩:=t.get (done.length%am.length) (x:=gp<|am.getD (done.length%am.length) 0) (by simp only[fj,ic,eH g];rfl);rw[dq (dT.mp n) λJ bo=>?_];subst bo;generalize X:am.getD (done.length%am.length) 0=v at*;have Q:v%(m-R-1)<m-R-1:=bq _<|aiM G d;refine fu (O:=[(p,aa #[ps] s),(y,aD _)]) #[I,i,ab] λB K=>bu (aoP p B K z r q f0 f1 f2 s nr nq y ac Z R m f3 f4 f5 f6 (done.length%am.length) (v%(m-R-1)) v J ps rs (c++[aF y]) v3 v4 v5 v6 x) #[decide_eq_true<|alQ G.1 d,C,ab] #[W [_,_]<|d8 _,Eh<|by lia,Ee (alS G.1) (Tp Q) rfl,gw bl<|sx g<|jA o<|ζ,by simp only[S,h];rw[fZ (Tp g) rfl],#[by lk,bT (lj h)<|bT o<|ζ],#[by lk,alU a6 S],L,ab] rfl (aV) ?_;simp only[kr,Pl,bQ,Eu d,X];have a8:ad R+1+ad (v%(m-R-1))=ad (R+1+v%(m-R-1)):=rfl;rw[a8▸?_];generalize e:R+1+v%(m-R-1)=E;have z:=a7 (kq:=(R,E)::(E,m)::kq) (done:=done++[(R,m,some E)]) (f3:=f3) (f4:=f4) (f5:=f5) (f6:=f6) (nr:=nr+1) (nq:=iF (ar<|c++[aF y]).pop.size (ar<|c++[aF<|B+5,aF<|B+6]).size<|nq+1) (v3:=.int (ad R) ac) (v4:=.int (ad m) Z) (v5:=.ref<|B+7) (v6:=.int (ad E)<|K+16) (rs:=rs++[aF<|B+8]) (F:=fz F [(B+5,aD [.int (ad E)<|K+16,.int (ad m) Z]),(B+6,aD [.int (ad R) ac,.int (ad E)<|K+16]),(B+7,aa #[[.ref<|B+5,.ref<|B+6]] 0),(B+8,aD [.int (ad R) ac,.int (ad m) Z,.ref<|B+7])]) (an _ _ I) (t.to an) (aiN G w d Q e) (λy U=>by
      rcases aY.mp U with rfl|U
      .dsimp only;rw[aiO G Q e]
      .rcases aY.mp U with rfl|U
       .dsimp only;rw[aiP G Q e]
       .rw[b y<|.tail _ U]) (by
      simp only[uL,uL,b4,bf];rw[(k.to an).append<|.cons (px<|bc<|.head _)<|.cons (px<|bc<|.tail _<|.head _) .nil]) (by
     rw[bf▸(A.to an).push (jO.mpr<|bY (B+8) _ rfl (bc<|.tail _<|.tail _<|.tail _<|.head _)<|.cons (dT.mpr #[ac,rfl])<|.cons (dT.mpr #[Z,rfl])<|.cons (dW.mpr<|gE (B+7) _ 0 rfl (bc<|.tail _<|.tail _<|.head _)<|.cons (px<|bc<|.head _)<|.cons (px<|bc<|.tail _<|.head _) .nil) .nil)]) (by rw[cv,];simp only[dN,ld];rw[ye a6])<|aiQ M
    simp only[cv,b4]at z;rw[z]
   .rw[fu (O:=[(p,aa #[ps] s),(y,aD _)]) #[I,i,ab] λB K=>bu (aoS p B K z r q f0 f1 f2 s nr nq y ac Z R m f3 f4 f5 f6 ps rs (c++[aF y]) v3 v4 v5 v6 x) #[decide_eq_false<|alR G.1 d,C,ab] #[W []<|dm _,Eh<|by lia,L,ab] rfl (aV) ?_]
    simp only[kr,Pl,bQ,bQ,PL d];have z:=a7 (done:=done++[(R,m,none)]) (f3:=f3) (f4:=f4) (f5:=f5) (f6:=f6) (nr:=nr+1) (nq:=iF (ar<|c++[aF y]).pop.size c.length<|nq+1) (v3:=.int (ad R) ac) (v4:=.int (ad m) Z) (v5:=.ref<|B+4) (v6:=v6) (rs:=rs++[aF<|B+5]) (F:=fz F [(B+4,aa #[[]] 0),(B+5,aD [.int (ad R) ac,.int (ad m) Z,.ref<|B+4])]) (an _ _ I) (t.to an) (aiR G w d) (λy U=>b y<|.tail _ U) (k.to an) (by rw[bf▸(A.to an).push (jO.mpr<|bY (B+5) _ rfl (bc<|.tail _<|.head _)<|.cons (dT.mpr #[ac,rfl])<|.cons (dT.mpr #[Z,rfl])<|.cons (dW.mpr<|gE (B+4) _ 0 rfl (bc<|.head _) .nil) .nil)]) (by rw[cv,];simp only[dN,ld];rw[ye a6])<|aiS M
    simp only[cv,b4]at z;rw[z]
end
section
variable{x:Wd}
def Zi{z p r q f0 f1 f2 s nr nq y f Z:N}(P:am≠[])(o:am.length<=100)(I:F p (aa #[ps] s))(t:aM F (am.map gp) ps)(i:F y (aD [.int (ad 0) f,.int (ad 5) Z])):ay x aj 150 (G7 z) F [Zz x z p r q f0 f1 f2,(r,aa #[[]] nr),(q,aa #[[.ref y]] nq)] (Ag x z p r q f0 f1 f2<|gQ am 9 0 [(0,5)]):=by
 have h:ps.length=am.length:=by have:=t.length;rwa[aU]at this
 have D:=ni.mpr P;have j:0%am.length=0:=Nat.zero_mod _;obtain⟨T,Y,n⟩:=t.get 0 (x:=gp<|am.getD 0 0) (by rw[fj,ic,eH D];rfl);obtain⟨J,rfl⟩:=dT.mp n;generalize X:am.getD 0 0=v at*;have Q:v%4<4:=bq _<|ajn;refine fu (O:=[(p,aa #[ps] s),(y,aD _)]) #[I,i,ab] λB K=>bu (aoQ p B K z r q f0 f1 f2 s nr nq y f Z 0 5 0 (v%4) v J ps [] [aF y] x) #[rfl,rfl,ab] #[#[by lk,by show 2<=16777216;rw[ajo]],Eh<|dm _,Ee rfl (ajp) rfl,gw Y<|pL,by rw[h▸fZ (alp D) j],#[by lk,by rw[alq o h]],#[by lk,dm _],#[by show 1<=16777216;rw[ajq],rfl],ab] rfl (aV) ?_;have a:gQ am 9 0 [(0,5)]=(0,5,some<|0+1+v%4)::gQ am 8 1 [(0,0+1+v%4),(0+1+v%4,5)]:=by rw[(Eu<|ζ).trans (by rw[j,X])]
 rw[a▸?_];generalize e:0+1+v%4=m;rw[(by rw[e▸?_];rfl:ad 0+1+ad (v%4)=ad m)▸afQ P o 8 (done:=[(0,5,some m)]) (an _ _ I) (t.to an) (ajr Q e) (λy U=>by
   rcases aY.mp U with rfl|U
   .dsimp only;rw[ajs Q e]
   .rcases aY.mp U with rfl|U
    .dsimp only;rw[ajt Q e]
    .cases U) (.cons (px (bc (.head _))) (.cons (px (bc (.tail _ (.head _)))) .nil))
  (.cons (jO.mpr<|bY (B+8) _ rfl (bc<|.tail _<|.tail _<|.tail _<|.head _)<|.cons (dT.mpr #[f,rfl])<|.cons (dT.mpr #[Z,rfl])<|.cons (dW.mpr<|gE (B+7) _ 0 rfl (bc<|.tail _<|.tail _<|.head _)<|.cons (px<|bc<|.head _)<|.cons (px<|bc<|.tail _<|.head _) .nil) .nil) .nil) (by simp) (by simp)]
inductive GC (l:!(N×N×Option N)) (F':Fs):aL->ao->Prop
 |mk (a rs nr) (h:aM F' (l.map d6) rs):GC l F' (.ok (.ret (.ref a))) [(a,aa #[rs] nr)]
def arb(P:am≠[])(o:am.length<=100)(I:F p (aa #[ps] D))(t:aM F (am.map gp) ps):ay x aj 200 (.call (.ref 867) #[[.ref p],[]]) F [] (GC<|gQ am 9 0 [(0,5)]):=fv (O:=[]) ab λB K=>bP (aoR p B K x) ab ab (.refl _) ((Zi P o (an _ _ I) (t.to an)<|bc<|.head _).le ζ λ_ _ _ _ U=>U) λr T h l q=>q.casesOn λc e a i X d b z f g M=>#[[_],_,.refl _,_,_,[],ab,λJ G=>bp (aoT p B (B+1) (B+3) _ _ _ _ _ _ _ J G _ _ _ _ x) ab ab (bO l) #[B+1,f,g,M.to an]]
end
section
variable(D n t1 K sz tk J:N) (G:!N) (x:Wd) (Y:ao)
def amd:Ev (ex x aj 100 (.fn 881 #[[ah (D::G) t1,iN n K],[]])<|cf [] sz tk (H 0x510d0b20) [.int 0 0,.int 0 0,.int 0 0] [] Y) Y [] (.res<|.ok<|.ret<|ah (D::G) t1) [] [] [] [cj (ad n) 4 0,cj (ad n) 4 0,cj (ad n) 4 0]:=by lk
def ame:Ev (ex x aj 100 (.fn 881 #[[ah (D::G) t1,iN n K],[]])<|cf [] sz tk (H 0x110110510d0c30) [.int 1 0] [] Y) Y [] (.res<|.ok<|.ret<|ah ([39]++D::G++[39])<|tk+8) [] [] [] [fO #[#[([39]++D::G)]] #[#[[39]]],fO #[#[[39]]] #[#[(D::G)]],cj (ad n) 4 1]:=by lk
def amf:Ev (ex x aj 100 (.fn 881 #[[ah (D::G) t1,iN n K],[]])<|cf [] sz tk (H 0x110110b20) [.int 2 0,.int 2 0] [] Y) Y [] (.res<|.ok<|.ret<|ah ([34]++D::G++[34])<|tk+11) [] [] [] [fO #[#[([34]++D::G)]] #[#[[34]]],fO #[#[[34]]] #[#[(D::G)]],cj (ad n) 4 2,cj (ad n) 4 2]:=by lk
def amg:Ev (ex x aj 100 (.fn 881 #[[ah (D::J::G) t1,iN n K],[]])<|cf [] sz tk (H 0x1101105130511120510d0b20) [.int 3 0,.int 3 0,.int 3 0,ah [D] 0,ah (J::G) 0] [] Y) Y [] (.res<|.ok<|.ret<|ah ([92,D,39]++J::G++[39])<|tk+21) [] [] [] [fO #[#[([92,D,39]++J::G)]] #[#[[39]]],fO #[#[[92,D,39]]] #[#[(J::G)]],j5 #[#[(D::J::G)]] (some 1) none #[#[(J::G)]],iZ #[#[(D::J::G)]] 0 #[#[[D]]],cj (ad n) 4 3,cj (ad n) 4 3,cj (ad n) 4 3]:=by lk
def amh:Ev (ex x aj 100 (.fn 881 #[[ah [D] t1,iN n K],[]])<|cf [] sz tk (H 0x11a9015111510d0b20) [.int 3 0,.int 3 0,.int 3 0] [] Y) Y [] (.res<|.ok<|.ret<|ah [92,D,39,39]<|tk+20) [] [] [] [cj (ad n) 4 3,cj (ad n) 4 3,cj (ad n) 4 3]:=by lk
end
def are(L:u≠[])(W:u.length<=1000):ay x aj 100 (.call (.ref 881) #[[.str #[#[u]] t1,.int (ad n) G],[]]) F [] (QS<|cz u n):=by
 have o:∀{F:Fs} {l E:!N} {D:N},l=E->QS E F (.ok<|.ret<|.str #[#[l]] D) []:=λe=>e▸#[_];rw[fW (jY L) λZ l P=>?_];subst P;rcases(afU (bq _ ζ))with e|e|e|e
 .have a:=fZ ζ e
  rw[fv (O:=[]) ab λB K=>bp (amd Z n t1 G B K l x) ab #[a,a,a,ab] (aV) (o<|by simp[cz,e])]
 .have a:=fZ ζ e
  rw[fv (O:=[]) ab λB K=>bp (ame Z n t1 G B K l x) ab #[jk (dl _ _) (dl _ _) (by simp at W⊢;rw[L_ W]),jk (dl _ _) (dl _ _) (by simp at W⊢;rw[Ma W]),a,ab] (aV) (o<|by simp[cz,e])]
 .have a:=fZ ζ e
  rw[fv (O:=[]) ab λB K=>bp (amf Z n t1 G B K l x) ab #[jk (dl _ _) (dl _ _) (by simp at W⊢;rw[L_ W]),jk (dl _ _) (dl _ _) (by simp at W⊢;rw[Ma W]),a,a,ab] (aV) (o<|by simp[cz,e])]
 .have a:=fZ ζ e
  cases l with
  |nil=>rw[fv (O:=[]) ab λB K=>bp (amh Z n t1 G B K x) ab #[a,a,a,ab] (aV) (o<|by simp[cz,e])]
  |cons d l=>rw[fv (O:=[]) ab λB K=>bp (amg Z n t1 G B K d l x) ab #[jk (dl _ _) (dl _ _) (by simp at W⊢;rw[afV W]),jk (dl _ _) (dl _ _) (by simp at W⊢;rw[afW W]),Pq (by simp) ζ (by simp at W⊢;rw[afX W]),yz (k:=0) rfl<|ζ,a,a,a,ab] (aV)<|o<|by simp[cz,e]]
section
variable{x:Wd} {F:Fs} {b D hi t1 G n:N} {u:!N}
def lN(L:hi≠0)(w:16*D+hi<16^10):kE x F (b+300) aj (.call (.ref 860) #[[iN D t1,iN hi G],[]]) [] (pS<|nm D hi):=ay.Ps (λU=>EW L w)<|uN ..
abbrev Wk(a:!N):Prop:=a≠[]/\a.length<=5
def mK(h:Wk u):kE x F (b+100) aj (.call (.ref 881) #[[ah u t1,iN n G],[]]) [] (pS<|cz u n):=ay.Ps (λU=>are h.1<|bT h.2<|ζ)<|uN ..
def p46(w:n<2^60)(a:(ap n).length<=100):kE x F (b+200) aj (.call (.ref 46) #[[iN n t1],[]]) [] (pB<|ap n):=ay.Ei (λU=>t46 w a)<|uN ..
end
section
variable(p r sz tk n G K D m i j y bo bs bb hi nr t4 a7 a8 ca bt b0 bl a6 c1 db dd ck ds:N) (c2 c3:af) (rs:!af) (U da:!N) (x:Wd) (Y J ch c0:ao)
def N9:av:=ex x aj 400 (.fn 874 #[[.ref p,.ref r],[]])<|cf [] sz tk (H 0x55115555) [] [] Y
def CU(x:Wd)(sz:N):Ko:=(N9 0 0 sz 0 x []).resume
def aoU:Ev (N9 p r sz tk x Y) Y [0] (.pend 397 aj (.call (.builtin "sum") #[[.ref p],[]])<|CU x sz) [(sz,az [V x.P cW tk<|.ref p,V x.P cY (tk+1)<|.ref r] 2)] [] [] []:=by lk
def aoY:Ev (CU x sz (.ok<|.ret<|iN n G)<|cf [(sz,az [V x.P cW tk<|.ref p,V x.P cY (tk+1)<|.ref r] 2)] K D (H 0x10d0555) [.int 0 0] [] J) J [1] (.res<|.ok<|.ret<|.ref K) [(K,aa #[[]] 0)] [] [] [cj (ad n) 3 0]:=by lk
def N_:av:=CU x sz (.ok<|.ret<|iN n G)<|cf [(sz,az [V x.P cW tk<|.ref p,V x.P cY (tk+1)<|.ref r] 2)] K D (H 0xb4010d0555) [iN (m+1) 0,iN i 0,iN j 0,.ref y] [(r,aa #[rs] nr),(y,aD [iN bb bo,iN hi bs,c2])] J
def KW(x:Wd)(sz:N):Ko:=(N_ 0 0 sz 0 0 0 0 0 0 0 0 0 0 0 0 0 0 .none [] x []).resume
def aoV:Ev (N_ p r sz tk n G K D m i j y bo bs bb hi nr c2 rs x J) J [0] (.pend 397 aj (.call (.ref 860) #[[iN bb bo,iN hi bs],[]])<|KW x sz) [(sz,az [V x.P cW tk<|.ref p,V x.P cY (tk+1)<|.ref r,V x.P Qn D<|iN n G] 3)] [] [] [ma (aI nG) (ar [])<|ar [iN bb bo,iN hi bs],d9 #[rs] (ad j)<|aF y,cj (ad i) 9<|ad j,gm (ad n) 3<|ad i,cj (ad n) 3<|ad<|m+1]:=by lk
def Oa:av:=KW x sz (.ok<|.ret<|ah U t4)<|cf [(sz,az [V x.P cW tk<|.ref p,V x.P cY (tk+1)<|.ref r,V x.P Qn D<|iN n G] 3)] c1 db (H 0xb40) [iN a7 0,iN a8 0,.ref ca] [(r,aa #[rs] nr),(ca,aD [iN bl bt,iN a6 b0,c3])] ch
def KX(x:Wd)(sz:N)(a:!N)(t4:N):Ko:=(Oa 0 0 sz 0 0 0 0 0 t4 0 0 0 0 0 0 0 0 0 .none [] a x []).resume
def aoW:Ev (Oa p r sz tk n G D nr t4 a7 a8 ca bt b0 bl a6 c1 db c3 rs U x ch) ch [] (.pend 397 aj (.call (.ref 860) #[[iN bl bt,iN a6 b0],[]])<|KX x sz U t4) [] [] [] [ma (aI nG) (ar [])<|ar [iN bl bt,iN a6 b0],d9 #[rs] (ad a8)<|aF ca,cj (ad a7) 9<|ad a8,gm (ad n) 27<|ad a7]:=by lk
def aoX:Ev (KX x sz U t4 (.ok<|.ret<|ah da dd)<|cf [] ck ds [] [] [] c0) c0 [0] (.res<|.ok<|.ret<|.ref ck) [(ck,aa #[[ah U t4,ah da dd]] 0)] [] [] []:=by lk
end
def Ez:∀{am ps},aM F (am.map gp) ps->∃l:!(N×N),ps=l.map aO/\l.map (·.1)=am:=by
 intro J;induction J with
 |nil=>intro _ U;rw[bA [] (eu.mp U) rfl]
 |cons n am C=>intro _ U;rw[cp (cq.mp U) λv E P a M=>?_];subst P;obtain⟨D,rfl⟩:=dT.mp a;rw[aJ (C M) λl H P=>?_];subst H;subst P;rw[bA ((n,D)::l) rfl rfl]
abbrev c6:=List<|N×N×Option N
def PF{d:c6}(a:aM F (d.map d6) rs)(B:j<d.length):∃y f Z i,rs[j]? =some (.ref y)/\F y (aD [.int (ad (d.getD j (0,1,none)).1) f,.int (ad (d.getD j (0,1,none)).2.1) Z,i]):=by
 have e:(d.map d6)[j]? =some (d6<|d.getD j (0,1,none)):=by rw[fj,ic,eH B];rfl
 rw[aJ (a.get j e) λv c M=>?_];generalize d.getD j (0,1,none)=g at M⊢;obtain⟨R,m,E⟩:=g
 obtain⟨q,u⟩:∃q,d6 (R,m,E)=.tup [gp R,gp m,q]:=by cases E<;>rw[#[_,rfl]]
 rw[u]at M;rw[cp (jO.mp M) λy Q P b X=>?_];subst P;obtain⟨_,_,rfl,w,X⟩:=cq.mp X;obtain⟨_,_,rfl,L,X⟩:=cq.mp X;obtain⟨i,_,rfl,_,X⟩:=cq.mp X;obtain rfl:=eu.mp X;obtain⟨f,rfl⟩:=dT.mp w;obtain⟨Z,rfl⟩:=dT.mp L;rw[vf y f Z i c b]
def RC{d:c6}(S:∀r∈d,gn r)(B:j<d.length):gn (d.getD j (0,1,none)):=by rw[ic,eH B];rw[S _<|nh B]
def O_(a b):ma (.type "tuple") #[[]] #[[a,b]]:=#[by lk,(show 0+2<=16777216 by decide)]
section
variable{x:Wd}
inductive GD (l:!(!N)) (F':Fs):aL->ao->Prop
 |mk (a es) (h:aM F' (l.map .str) es):GD l F' (.ok (.ret (.ref a))) [(a,aa #[es] 0)]
def ard(ac:a6.length=9)(S:∀r∈a6,gn r)(I:F p (aa #[ps] a7))(t:aM F (am.map gp) ps)(A:F r (aa #[rs] nr))(z:aM F (a6.map d6) rs):ay x aj 400 (.call (.ref 874) #[[.ref p,.ref r],[]]) F [] (GD<|oh am a6):=by
 rw[aJ (Ez t) λl H P=>?_];subst H;subst P;rw[fv (O:=[]) ab λB K=>jh (Lc:=[]) (aoU p r B K x) ab ab (.refl _) λw b0 s bs C o=>Bx C.2.1 o (an _ _ I) λE=>?_];have a:∀j,j%9<a6.length:=λj=>by simp only[ac];rw[bq _ ζ]
 by_cases X:(l.map (·.1)).sum%3=0
 .rw[#[[(B,_)],[],.refl _,_,_,[],ab,λJ G=>bp (aoY p r B K _ E J G x) ab #[fZ ζ X,ab] an #[_,[],?_]]]
  rw[oh,if_pos X];rw[.nil]
 .rw[lz (PF z<|a<|(l.map (·.1)).sum/3) λy f Z i n a8=>lz (PF z<|a<|(l.map (·.1)).sum/27) λd bo b bl e W=>en (RC S<|a<|(l.map (·.1)).sum/3) λg Y _=>en (RC S<|a<|(l.map (·.1)).sum/27) λk bb _=>?_]
  refine#[[(B,_)],[],.refl _,_,_,[(r,_),(y,_)],#[an _ _ A,an _ _ a8,ab],λJ G=>bP (Lc:=[]) (aoV p r B K _ E J G _ _ _ y f Z _ _ nr i rs x) ab #[O_ _ _,gw n (by have:=a<|(l.map (·.1)).sum/3;rw[akc]),fZ ζ rfl,mL ζ ζ rfl,fZ ζ<|akb X,ab] (.refl _) ((EW (kn g)<|on g Y).le ζ λ_ _ _ _ U=>U) λres T h u q=>?_];rw[q.casesOn λR=>?_];refine#[[(B,_)],[],.refl _,_,_,[(r,_),(d,_)],#[u _ _<|an _ _<|an _ _ A,u _ _<|an _ _<|an _ _ W,ab],λD c=>bP (aoW p r B K _ E G nr R _ _ d bo b _ _ D c bl rs _ x) ab #[O_ _ _,gw e (by have:=a<|(l.map (·.1)).sum/27;rw[akd]),fZ ζ rfl,mL ζ ζ rfl,ab] (.refl _) ((EW (kn k)<|on k bb).le ζ λ_ _ _ _ U=>U) λres bt h m q=>?_];rw[q.casesOn λL=>#[[],[],.refl _,_,_,[],ab,λM Q=>bp (aoX B R L M Q _ _ x) ab ab (dR (cb<|dR (cb an) u) m) #[_,_,?_]]];rw[oh,if_neg X];rw[.cons (c9.mpr #[R,rfl])<|.cons (c9.mpr #[L,rfl]) .nil]
end
section
abbrev wq(L H:N):aX:=fR mr 0 (xu L) H
abbrev nP(L it m H:N):bj:=fT mr 0 (.ref it) (.ref m)<|wq L H
abbrev lp(L it:N):bj:=bM mr 2 (.ref it)<|xu L
abbrev mj(L it:N):bj:=bM mr 10 (.ref it)<|xu L
abbrev iC(L it:N):bj:=bM mr 13 (.ref it)<|xu L
abbrev cH(v n:N):Obj:=#[.type "range_iterator",none,.fields #[[.int (ad v) 0,.int (ad n) 0,.int 1 0]],#[[]]]
abbrev eE(k n:N):Obj:=#[.type "range_iterator",none,.fields #[[.int (ad k+1) 0,.int (ad (n+1)-1) 0,.int 1 0]],#[[]]]
abbrev ba(a k:N):Obj:=#[.type "list_iterator",none,.fields #[[.ref a,.int (ad k) 0]],#[[]]]
structure jB where
 z:N
 p:N
 r:N
 e:N
 wl:N
 rl:N
 f0:N
 f1:N
 f2:N
 f3:N
 f4:N
structure j_ where
 f5:N
 f6:N
 f7:N
 v5:af
 v6:af
 v7:af
abbrev sZ(x:Wd)(w:jB)(a:!bv):!bv:=V x.P cW w.f0 (.ref w.p)::V x.P cY w.f1 (.ref w.r)::V x.P fq w.f2 (.ref w.e)::V x.P rK w.f3 (.ref w.wl)::V x.P bV w.f4 (.ref w.rl)::a
abbrev lD(x:Wd)(w:jB)(t:j_)(a:!bv):!bv:=sZ x w (V x.P dh t.f5 t.v5::V x.P di t.f6 t.v6::V x.P bD t.f7 t.v7::a)
abbrev Io(x:Wd)(w:jB):aH×Obj:=(w.z,az (sZ x w []) 5)
abbrev gO(x:Wd)(w:jB)(t:j_):aH×Obj:=(w.z,az (lD x w t []) 8)
abbrev fJ(x:Wd)(H:N):Option (N×af)->aH×Obj
 |none=>(H,ak [] 0)
 |some p=>(H,ak [V x.P yV p.1 p.2] 1)
abbrev Il(x:Wd)(w:jB)(q:Option (j_×af)):aH×Obj:=q.rec (Io x w) λp=>gO x w p.1
abbrev G_(q:Option (j_×af)):Obj:=q.rec cF λp=>bm p.2
abbrev arc(q:Option (j_×af))(a b c:N)(v5 v6 K:af):j_:=q.rec #[a,b,c,v5,v6,K] λp=>#[p.1.f5,p.1.f6,p.1.f7,v5,v6,K]
variable(P:PP)
variable(w:jB) (t:j_) (z bo it ac ch sz tk k n m ti na ns du G J eN p r e g7 fa f0 f1 f2 f3 f4 a y dx c1 hi nr ev nl bl ew ey em eh ep ei eB eC eM tf c0 bb ck dV c2 t4 f5 f6 e9 nw e3 e4 e5 ec ed ef K dt bs i v a6 D f8 tg q dd ds ea j ts ne e2 e6:N) (xs d0 rs b0 ps os:!af) (d2:UInt8) (d1:!UInt8) (eg U a7 c3 e0 w2 e1 da db a8 d3 bt ca e7 e8:!N) (eb v5 v6 gl vl vk fc fd fe fl fm f9 gb gc gg gs gu g0 g1 g2 g3 g4 g5 g6 go:af) (x:Wd) (Y g8 g9 ha hb:ao)
def ar6:∀(x:Wd) Y,Ev (ex x aj 350 (.code<|jd mr 0 (.ref it) (.ref ac)<|wq z bo)<|cf [(it,ba ch 0)] sz tk (bif x.b2 then[]else(H 0xb50)) [] [] Y) Y [0] (.next<|nP z it ac bo) [(it,ba ch 0)] [] [] []:=bB
section
variable{P w t z bo it ac ch sz tk k n m ti na ns du G J eN p r e g7 fa f0 f1 f2 f3 f4 a y dx c1 hi nr ev nl bl ew ey em eh ep ei eB eC eM tf c0 bb ck dV c2 t4 f5 f6 e9 nw e3 e4 e5 ec ed ef K dt bs i v a6 D f8 tg q dd ds ea j ts ne e2 e6 xs d0 rs b0 ps os d2 d1 eg U a7 c3 e0 w2 e1 da db a8 d3 bt ca e7 e8 eb v5 v6 gl vl vk fc fd fe fl fm f9 gb gc gg gs gu g0 g1 g2 g3 g4 g5 g6 go}
def ar0:∀d (x:Wd) Y,Ev (fG P 0 [ph (pB []) [0,1,2] (H 0x438aa0c10) []] [(G,J,du)]<|ex x aj 350 (.code<|nP z it ac bo)<|cf [fJ x bo d,(it,ba ch k),(ac,aa #[d0] na)] sz tk (H 0x510d0151558005444) [iN n ti,iN m 0] [(ch,aa #[xs] ns)] Y) Y [0,1,2] (.next<|nP z it ac bo) [fJ x bo<|some (fF d tk,iN n ti),(it,ba ch<|k+1),(ac,aa ((ar d0).push<|ah [65,65,65,65,65]<|tk+1)<|na+1)] [] [] [cm #[d0],P 349 aj (.call (.ref 46) #[[iN m<|tk+5],[]]) []<|pB [],cj (ad n) (16^5)<|ad m,df #[xs] (ad k)<|iN n ti]:=gf
def ar1:∀d (x:Wd) Y,Ev (fG P 0 [ph (pB (d2::d1)) [0,1,2] (H 0x438313011101001) [ah eg 0]] [(G,J,du)]<|ex x aj 350 (.code<|nP z it ac bo)<|cf [fJ x bo d,(it,ba ch k),(ac,aa #[d0] na)] sz tk (H 0x510d0151558005444) [iN n ti,iN m 0] [(ch,aa #[xs] ns)] Y) Y [0,1,2] (.next<|nP z it ac bo) [fJ x bo<|some (fF d tk,iN n ti),(it,ba ch<|k+1),(ac,aa ((ar d0).push<|ah eg<|J+8)<|na+1)] [] [] [cm #[d0],j5 #[#[[65,65,65,65,65]++fg #[(d2::d1)]]] (some<|-5) none #[#[eg]],fO #[#[[65,65,65,65,65]]] #[#[fg #[(d2::d1)]]],o5 #[(d2::d1)],P 349 aj (.call (.ref 46) #[[iN m<|tk+5],[]]) []<|pB (d2::d1),cj (ad n) (16^5)<|ad m,df #[xs] (ad k)<|iN n ti]:=gf
def arY:∀d (x:Wd) Y,Ev (fG P 0 [ph (pS U) [0,1,2,3] (bif x.b2 then(H 0xca018b1bb5)else(H 0xca0a6018b1bb5)) [],ph (pS a7) [0,1,2,3,4,5,6,7] (H 0x51dd1dddd0c0cc850b00c850b00c850b009a0896099991) [],ph (pS c3) [0,1,2,3,4,5,6,7] (H 0x4385333351b55597971797dddddd0b096099991) []] [(G,J,bl),(bb,ck,c0),(c2,t4,dV)]<|ex x aj 400 (.code<|lp w.z it)<|cf [Il x w d,(w.z+2,G_ d),(w.rl,aa #[b0] nl),(it,ba w.r k)] sz tk (H 0xac0) [.ref a] [(w.r,aa #[rs] nr),(a,aD [iN c1 dx,iN hi du,.ref y]),(y,aa #[[.ref ew,.ref ey]] ev),(ew,aD [iN em eB,iN eh eC]),(ey,aD [iN ep eM,iN ei tf])] Y) Y [0,1,2,3,10] (.next<|lp w.z it) [gO x w<|arc d tk (tk+1) t4 (iN hi du) (.ref y)<|.ref<|c2+2,((w.z+2),bm<|iN c1 dx),(w.rl,aa ((ar b0).push<|aF<|c2+2)<|nl+1),(it,ba w.r<|k+1)] [((c2+2),aa #[[ah U bl,ah a7 c0,ah c3 dV]] 0)] [] [cm #[b0],P 398 aj (.call (.ref 860) #[[iN ep eM,iN ei tf],[]]) []<|pS c3,P 398 aj (.call (.ref 860) #[[iN em eB,iN eh eC],[]]) []<|pS a7,P 399 aj (.call (.ref 860) #[[iN c1 dx,iN hi du],[]]) []<|pS U,df #[rs] (ad k)<|aF a]:=gf
def arZ:∀(x:Wd) Y,Ev (fG P 0 [ph (pS U) [0,1,2,3] (bif x.b2 then(H 0xd20c6018b1bb5)else(H 0xd20ff1ffc60a6018b1bb5)) [ah [ec] 0,ah [ed] 0,ah [ef] 0]] [(G,J,bl)]<|ex x aj 400 (.code<|lp w.z it)<|cf [(w.z,az (lD x w t []) 8),(w.z+2,bm vl),(w.rl,aa #[b0] nl),(it,ba w.r k)] sz tk (H 0xac0) [.ref a] [(w.r,aa #[rs] nr),(a,aD [iN c1 dx,iN hi du,.ref y]),(y,aa #[[]] ev),(w.wl,aa #[[ah e0 e3,ah w2 e4,ah e1 e5]] nw)] Y) Y [0,1,2,3,10] (.next<|lp w.z it) [gO x w #[t.f5,t.f6,t.f7,iN hi du,.ref y,.ref<|G+6],((w.z+2),bm<|iN c1 dx),(w.rl,aa ((ar b0).push<|aF<|G+6)<|nl+1),(it,ba w.r<|k+1)] [((G+6),aa #[[ah U bl,ah [ec,ed,ef]<|J+14]] 1)] [] [cm #[b0],iZ #[#[e1]] (4-ad c1) #[#[[ef]]],iZ #[#[w2]] (4-ad c1) #[#[[ed]]],iZ #[#[e0]] (4-ad c1) #[#[[ec]]],P 399 aj (.call (.ref 860) #[[iN c1 dx,iN hi du],[]]) []<|pS U,df #[rs] (ad k)<|aF a]:=bB
def arU:∀(x:Wd) Y,Ev (fG P 0 [ph (pS U) [0,1,2,3,4,6,7,8] (H 0xf10) [.ref D,iN q 0],ph (pS a7) [0,1,2,3,4,5,6,7] (H 0x551af0) [ah a8 0]] [(G,J,bl),(bb,ck,c0)]<|ex x aj 400 (.code<|iC w.z it)<|cf [(w.z,az (lD x w t [V x.P jP f8<|ah [] tg]) 9),(w.z+1,cF),(w.z+4,bm vk),(it,cH 0<|n+1),(w.z+3,bm<|.ref K)] sz tk (bif x.b2 then(H 0xe10e40)else(H 0xe10ad0e40)) [iN i 0,iN v a6,.ref D,.ref D,iN q 0] [(w.p,aa #[ps] dt),(K,aa #[os] bs),(D,aa #[[ah da dd,ah db ds]] nw)] Y) Y [0,1,2,3,4] (.next<|iC w.z it) [(w.z,az (sZ x w [V x.P dh t.f5<|t.v5,V x.P di t.f6<|t.v6,V x.P bD t.f7<|t.v7,V x.P jP f8<|ah a8 ck]) 9),((w.z+1),bm<|iN v a6),((w.z+4),bm<|iN 0 tk),(it,eE 0 n),((w.z+3),bm<|.ref K)] [] [] [nE (aI "list") (ar [ah U bl,ah a7 c0]) #[#[[32]]] #[#[a8]],P 398 aj (.call (.ref 881) #[[ah db ds,.int (ad q+ad 1)<|J+4],[]]) []<|pS a7,gm (ad v) 4<|ad q,d9 #[os] (ad 0)<|aF D,P 398 aj (.call (.ref 881) #[[ah da dd,iN q<|tk+17],[]]) []<|pS U,gm (ad v) 4<|ad q,d9 #[os] (ad 0)<|aF D,d9 #[os] (ad 0)<|aF D,iL (ar ps) (-1-ad i)<|iN v a6,cj (ad 0) (ps.length:Int)<|ad i,gd (aI "list")<|ar ps]:=bB
def arV:∀(x:Wd) Y,Ev (fG P 0 [ph (pS U) [0,1,2,3,4,6,7,8] (H 0xf10) [.ref D,iN q 0],ph (pS a7) [0,1,2,3,4,5,6,7] (H 0xf10) [.ref D,iN q 0],ph (pS c3) [0,1,2,3,4,5,6,7] (H 0x551af0) [ah a8 0]] [(G,J,bl),(bb,ck,c0),(c2,t4,dV)]<|ex x aj 400 (.code<|iC w.z it)<|cf [(w.z,az (lD x w t [V x.P jP f8<|ah [] tg]) 9),(w.z+1,cF),(w.z+4,bm vk),(it,cH 0<|n+1),(w.z+3,bm<|.ref K)] sz tk (bif x.b2 then(H 0xe10e40)else(H 0xe10ad0e40)) [iN i 0,iN v a6,.ref D,.ref D,iN q 0] [(w.p,aa #[ps] dt),(K,aa #[os] bs),(D,aa #[[ah da dd,ah db ds,ah d3 ea]] nw)] Y) Y [0,1,2,3,4] (.next<|iC w.z it) [(w.z,az (sZ x w [V x.P dh t.f5<|t.v5,V x.P di t.f6<|t.v6,V x.P bD t.f7<|t.v7,V x.P jP f8<|ah a8 t4]) 9),((w.z+1),bm<|iN v a6),((w.z+4),bm<|iN 0 tk),(it,eE 0 n),((w.z+3),bm<|.ref K)] [] [] [nE (aI "list") (ar [ah U bl,ah a7 c0,ah c3 dV]) #[#[[32]]] #[#[a8]],P 398 aj (.call (.ref 881) #[[ah d3 ea,.int (ad q+ad 2)<|ck+4],[]]) []<|pS c3,gm (ad v) 4<|ad q,d9 #[os] (ad 0)<|aF D,P 398 aj (.call (.ref 881) #[[ah db ds,.int (ad q+ad 1)<|J+4],[]]) []<|pS a7,gm (ad v) 4<|ad q,d9 #[os] (ad 0)<|aF D,P 398 aj (.call (.ref 881) #[[ah da dd,iN q<|tk+17],[]]) []<|pS U,gm (ad v) 4<|ad q,d9 #[os] (ad 0)<|aF D,d9 #[os] (ad 0)<|aF D,iL (ar ps) (-1-ad i)<|iN v a6,cj (ad 0) (ps.length:Int)<|ad i,gd (aI "list")<|ar ps]:=bB
def arW:∀(x:Wd) Y,Ev (fG P 0 [ph (pS U) [0,1,2,3,4,7,8,9] (H 0xf10) [.ref D,iN q 0],ph (pS a7) [0,1,2,3,4,5,6,7] (H 0x55110af0) [ah a8 0]] [(G,J,bl),(bb,ck,c0)]<|ex x aj 400 (.code<|iC w.z it)<|cf [(w.z,az (lD x w t [V x.P jP f8<|ah bt tg]) 9),(w.z+1,bm eb),(w.z+4,bm vk),(it,cH (k+1)<|n+1),(w.z+3,bm<|.ref K)] sz tk (bif x.b2 then(H 0xe70ec0)else(H 0xe70ddd1dec0)) [iN i 0,iN v a6,iN j 0,ah ca ts,.ref D,.ref D,iN q 0] [(w.p,aa #[ps] dt),(K,aa #[os] bs),(D,aa #[[ah da dd,ah db ds]] nw)] Y) Y [0,1,2,3,4] (.next<|iC w.z it) [(w.z,az (sZ x w [V x.P dh t.f5<|t.v5,V x.P di t.f6<|t.v6,V x.P bD t.f7<|t.v7,V x.P jP f8<|ah (bt++ca++a8)<|ck+1]) 9),((w.z+1),bm<|iN v a6),((w.z+4),bm<|iN (k+1) tk),(it,eE (k+1) n),((w.z+3),bm<|.ref K)] [] [((decide<|0<ad (k+1)),true)] [fO #[#[bt++ca]] #[#[a8]],nE (aI "list") (ar [ah U bl,ah a7 c0]) #[#[[32]]] #[#[a8]],P 398 aj (.call (.ref 881) #[[ah db ds,.int (ad q+ad 1)<|J+4],[]]) []<|pS a7,gm (ad v) 4<|ad q,d9 #[os] (ad<|k+1)<|aF D,P 398 aj (.call (.ref 881) #[[ah da dd,iN q<|tk+25],[]]) []<|pS U,gm (ad v) 4<|ad q,d9 #[os] (ad<|k+1)<|aF D,d9 #[os] (ad<|k+1)<|aF D,fO #[#[bt]] #[#[ca]],d9 #[[ah [59]<|tk+8,ah [32,59,32]<|tk+9,ah [59,10]<|tk+10,ah [9,59]<|tk+11]] (ad j)<|ah ca ts,cj (ad v) 4<|ad j,iL (ar ps) (-1-ad i)<|iN v a6,cj (ad<|k+1) (ps.length:Int)<|ad i,gd (aI "list")<|ar ps]:=bB
def arX:∀(x:Wd) Y,Ev (fG P 0 [ph (pS U) [0,1,2,3,4,7,8,9] (H 0xf10) [.ref D,iN q 0],ph (pS a7) [0,1,2,3,4,5,6,7] (H 0xf10) [.ref D,iN q 0],ph (pS c3) [0,1,2,3,4,5,6,7] (H 0x55110af0) [ah a8 0]] [(G,J,bl),(bb,ck,c0),(c2,t4,dV)]<|ex x aj 400 (.code<|iC w.z it)<|cf [(w.z,az (lD x w t [V x.P jP f8<|ah bt tg]) 9),(w.z+1,bm eb),(w.z+4,bm vk),(it,cH (k+1)<|n+1),(w.z+3,bm<|.ref K)] sz tk (bif x.b2 then(H 0xe70ec0)else(H 0xe70ddd1dec0)) [iN i 0,iN v a6,iN j 0,ah ca ts,.ref D,.ref D,iN q 0] [(w.p,aa #[ps] dt),(K,aa #[os] bs),(D,aa #[[ah da dd,ah db ds,ah d3 ea]] nw)] Y) Y [0,1,2,3,4] (.next<|iC w.z it) [(w.z,az (sZ x w [V x.P dh t.f5<|t.v5,V x.P di t.f6<|t.v6,V x.P bD t.f7<|t.v7,V x.P jP f8<|ah (bt++ca++a8)<|t4+1]) 9),((w.z+1),bm<|iN v a6),((w.z+4),bm<|iN (k+1) tk),(it,eE (k+1) n),((w.z+3),bm<|.ref K)] [] [((decide<|0<ad (k+1)),true)] [fO #[#[bt++ca]] #[#[a8]],nE (aI "list") (ar [ah U bl,ah a7 c0,ah c3 dV]) #[#[[32]]] #[#[a8]],P 398 aj (.call (.ref 881) #[[ah d3 ea,.int (ad q+ad 2)<|ck+4],[]]) []<|pS c3,gm (ad v) 4<|ad q,d9 #[os] (ad<|k+1)<|aF D,P 398 aj (.call (.ref 881) #[[ah db ds,.int (ad q+ad 1)<|J+4],[]]) []<|pS a7,gm (ad v) 4<|ad q,d9 #[os] (ad<|k+1)<|aF D,P 398 aj (.call (.ref 881) #[[ah da dd,iN q<|tk+25],[]]) []<|pS U,gm (ad v) 4<|ad q,d9 #[os] (ad<|k+1)<|aF D,d9 #[os] (ad<|k+1)<|aF D,fO #[#[bt]] #[#[ca]],d9 #[[ah [59]<|tk+8,ah [32,59,32]<|tk+9,ah [59,10]<|tk+10,ah [9,59]<|tk+11]] (ad j)<|ah ca ts,cj (ad v) 4<|ad j,iL (ar ps) (-1-ad i)<|iN v a6,cj (ad<|k+1) (ps.length:Int)<|ad i,gd (aI "list")<|ar ps]:=bB
end
def ar8:Ev (ex x aj 350 (.code<|nP z it ac bo)<|cf [(it,ba ch k)] sz tk (H 0xa70) [] [(ch,aa #[xs] ns)] Y) Y [] (.res<|.ok .next) [] [] [] [ig #[xs]<|ad k]:=by lk
def ar7:Ev (ex x aj 400 (.code<|lp z it)<|cf [(it,ba r k)] sz tk (H 0xa70) [] [(r,aa #[rs] nr)] Y) Y [] (.res<|.ok .next) [] [] [] [ig #[rs]<|ad k]:=by lk
def ar2:Ev (ex x aj 400 (.code<|mj w.z it)<|cf [(w.z+4,cF),(K,aa #[os] bs),(it,cH k<|n+1),(w.z,az (lD x w t []) 8),(w.z+3,bm<|.ref K)] sz tk (H 0xd00) [iN i 0,iN v a6,iN m 0,.ref D] [(w.p,aa #[ps] dt),(w.rl,aa #[b0] nl)] Y) Y [0,1,2,3,4] (.next<|mj w.z it) [((w.z+4),bm<|iN k tk),(K,aa #[(List.take m os++aF D::zK m os)]<|bs+1),(it,eE k n),(w.z,az (lD x w t []) 8),((w.z+3),bm<|.ref K)] [] [] [wW (ar os)<|ad m,d9 #[b0] (ad k)<|aF D,cj (ad v) (ad k+1)<|ad m,d9 #[ps] (ad i)<|iN v a6,cj (ad k) (ps.length:Int)<|ad i,gd (aI "list")<|ar ps]:=by lk
def ar3:Ev (ex x aj 400 (.code<|mj w.z it)<|cf [(w.z+4,bm vk),(K,aa #[os] bs),(it,cH k<|n+1),(w.z,az (lD x w t []) 8),(w.z+3,bm<|.ref K)] sz tk (H 0xd00) [iN i 0,iN v a6,iN m 0,.ref D] [(w.p,aa #[ps] dt),(w.rl,aa #[b0] nl)] Y) Y [0,1,2,3,4] (.next<|mj w.z it) [((w.z+4),bm<|iN k tk),(K,aa #[(List.take m os++aF D::zK m os)]<|bs+1),(it,eE k n),(w.z,az (lD x w t []) 8),((w.z+3),bm<|.ref K)] [] [] [wW (ar os)<|ad m,d9 #[b0] (ad k)<|aF D,cj (ad v) (ad k+1)<|ad m,d9 #[ps] (ad i)<|iN v a6,cj (ad k) (ps.length:Int)<|ad i,gd (aI "list")<|ar ps]:=by lk
def ar4:Ev (ex x aj 400 (.code<|mj z it)<|cf [(it,cH k 0)] sz tk (H 0x3555515) [] [] Y) Y [] (.res<|.ok .next) [] [] [] []:=by lk
def ar5:Ev (ex x aj 400 (.code<|iC z it)<|cf [(it,cH k 0)] sz tk (H 0x3555515) [] [] Y) Y [] (.res<|.ok .next) [] [] [] []:=by lk
def OA:av:=ex x aj 500 (.fn 886 #[[.ref p,.ref r,.ref e],[]])<|cf [] sz tk (H 0x5d91997800217022255c30) [] [(p,aa #[ps] dt)] Y
def Lf(x:Wd)(sz:N):Ko:=(OA sz 0 0 0 0 0 [] x []).resume
def arP:∀(x:Wd) Y,Ev (OA sz tk p r e dt ps x Y) Y [7,8,9,0,1,2,3,4,6] (.pend 497 aj (jd mr 0 (.ref<|sz+7) (.ref<|sz+8)<|wq sz<|sz+9)<|Lf x sz) ([((sz+7),ba (sz+6) 0),((sz+8),aa #[[]] 0),((sz+9),ak [] 0)]++[(sz,az [V x.P cW tk<|.ref p,V x.P cY (tk+1)<|.ref r,V x.P fq (tk+2)<|.ref e] 3),((sz+1),cF),((sz+2),cF),((sz+3),cF),((sz+4),cF)]) [((sz+6),aa #[(iU (ar ps) none (some 3) none).1] 0)] [] [cm #[ps]]:=cS
def OB:av:=Lf x sz (.ok .next)<|cf [(sz,az [V x.P cW tk<|.ref p,V x.P cY (tk+1)<|.ref r,V x.P fq (tk+2)<|.ref e] 3),(sz+1,cF),(sz+2,cF),(sz+3,cF),(sz+4,cF),(sz+9,ak [V x.P yV eN eb] 1)] G J (H 0x5d212255588855) [] [(r,aa #[rs] nr)] g8
def x4(x:Wd)(sz:N):Ko:=(OB sz 0 0 0 0 0 0 0 0 [] .none x []).resume
def arQ:∀(x:Wd) c,Ev (OB sz tk G J eN p r e nr rs eb x c) c [0,2,6,7,1,3,4] (.pend 497 aj (lp sz<|G+1)<|x4 x sz) ([(sz,az [V x.P cW tk<|.ref p,V x.P cY (tk+1)<|.ref r,V x.P fq (tk+2)<|.ref e,V x.P rK J<|.ref<|sz+8,V x.P bV (J+1)<|.ref G] 5),((sz+2),cF),(G,aa #[[]] 0),((G+1),ba r 0)]++[((sz+1),cF),((sz+3),cF),((sz+4),cF)]) [] [] []:=cS
abbrev kM(x:Wd)(w:jB)(t:j_)(f8:N)(Z:!N)(tg:N):aH×Obj:=(w.z,az (lD x w t [V x.P jP f8<|.str #[#[Z]] tg]) 9)
abbrev gH(p r e sz tk J G:N):jB:=#[sz,p,r,e,sz+8,J,tk,tk+1,tk+2,G,G+1]
abbrev BD(q:Option (!N×N×!N×N)):!af:=q.rec [] λp=>[ah p.1 p.2.1,ah p.2.2.1 p.2.2.2]
abbrev og(q:Option (!N×N×!N×N))(e:N)(rs:!af):Array af:=q.rec #[rs] λ_=>(ar rs).push<|.ref e
abbrev lE(q:Option (!N×N×!N×N))(k:N):N:=q.rec k λ_=>k+1
def DO(p r e sz tk J G nl D E ne:N)(t:j_)(vl:af)(rs:!af)(d:Option (!N×N×!N×N))(x:Wd)(Y:ao):av:=x4 x sz (.ok .next)<|cf [gO x (gH p r e sz tk J G) t,(sz+1,cF),(sz+2,bm vl),(sz+3,cF),(sz+4,cF),(J,aa ⟨rs⟩ nl)] D E (d.rec (H 0x9e0125) λ_=>H 0x9e0788588885125) [iN (lE d 8+1) 0] [(e,aa #[BD d] ne)] Y
def Lh(x:Wd)(sz:N)(d:Option (!N×N×!N×N)):Ko:=(DO 0 0 0 sz 0 0 0 0 0 0 0 #[0,0,0,.none,.none,.none] .none [] d x []).resume
section
variable{w t z bo it ac ch sz tk k n m ti na ns du G J eN p r e g7 fa f0 f1 f2 f3 f4 a y dx c1 hi nr ev nl bl ew ey em eh ep ei eB eC eM tf c0 bb ck dV c2 t4 f5 f6 e9 nw e3 e4 e5 ec ed ef K dt bs i v a6 D f8 tg q dd ds ea j ts ne e2 e6 xs d0 rs b0 ps os d2 d1 eg U a7 c3 e0 w2 e1 da db a8 d3 bt ca e7 e8 eb v5 v6 gl vl vk fc fd fe fl fm f9 gb gc gg gs gu g0 g1 g2 g3 g4 g5 g6 go}
def arR:∀d (x:Wd) Y,Ev (DO p r e sz tk G J nl bb ck ne t vl rs d x Y) Y [4,7,9,0,3,1,2,5] (.pend 497 aj (mj sz<|bb+3)<|Lh x sz d) ([((sz+4),cF),((bb+1),aa #[[]] 0),((bb+3),cH 0<|lE d 8+1),gO x (gH p r e sz tk G J) t,((sz+3),bm<|.ref<|bb+1)]++[((sz+1),cF),((sz+2),bm vl)]) [(G,aa (og d e rs)<|lE d nl)] [] (z_ (.type "list") (og d e rs) (ad<|lE d 8+1)::d.rec [] λ_=>[cm #[rs]]):=gf
end
def OC(p r e sz tk J G D M t4 a:N)(t:j_)(vl vk:af)(os:!af)(d:Option (!N×N×!N×N))(x:Wd)(Y:ao):av:=Lh x sz d (.ok .next)<|cf [gO x (gH p r e sz tk J G) t,(sz+1,cF),(sz+2,bm vl),(sz+3,bm<|.ref<|D+1),(sz+4,bm vk),(D+1,aa #[os] a)] M t4 (H 0x5d9ad0ad09172a06c1055) [iN (lE d 8+1) 0] [] Y
def Li(x:Wd)(sz:N):Ko:=(OC 0 0 0 sz 0 0 0 0 0 0 0 #[0,0,0,.none,.none,.none] .none .none [] none x []).resume
section
variable{w t z bo it ac ch sz tk k n m ti na ns du G J eN p r e g7 fa f0 f1 f2 f3 f4 a y dx c1 hi nr ev nl bl ew ey em eh ep ei eB eC eM tf c0 bb ck dV c2 t4 f5 f6 e9 nw e3 e4 e5 ec ed ef K dt bs i v a6 D f8 tg q dd ds ea j ts ne e2 e6 xs d0 rs b0 ps os d2 d1 eg U a7 c3 e0 w2 e1 da db a8 d3 bt ca e7 e8 eb v5 v6 gl vl vk fc fd fe fl fm f9 gb gc gg gs gu g0 g1 g2 g3 g4 g5 g6 go}
def arS:∀d (x:Wd) Y,Ev (OC p r e sz tk G J bb c2 t4 bs t vl vk os d x Y) Y [0,1,4,7,3,2,5] (.pend 497 aj (iC sz<|c2+1)<|Li x sz) ([(kM x (gH p r e sz tk G J) t) (t4+1) [] t4,((sz+1),cF),((sz+4),bm vk),((c2+1),cH 0<|lE d 8+1),((sz+3),bm<|.ref<|bb+1)]++[((sz+2),bm vl)]) [((bb+1),aa #[os] bs)] [] [z_ (.type "list") #[os]<|ad<|lE d 8+1]:=gf
end
section
variable{w t z bo it ac ch sz tk k n m ti na ns du G J eN p r e g7 fa f0 f1 f2 f3 f4 a y dx c1 hi nr ev nl bl ew ey em eh ep ei eB eC eM tf c0 bb ck dV c2 t4 f5 f6 e9 nw e3 e4 e5 ec ed ef K dt bs i v a6 D f8 tg q dd ds ea j ts ne e2 e6 xs d0 rs b0 ps os d2 d1 eg U a7 c3 e0 w2 e1 da db a8 d3 bt ca e7 e8 eb v5 v6 gl vl vk fc fd fe fl fm f9 gb gc gg gs gu g0 g1 g2 g3 g4 g5 g6 go}
def arT:∀(x:Wd) Y,Ev (Li x sz (.ok .next)<|cf [kM x (gH p r e sz tk G J) t f8 bt tg] e2 e6 [1] [] [] Y) Y [] (.res<|.ok<|.ret<|ah bt tg) [] [] [] []:=cS
end
end
def Uf(n):(d_ n).length=(ap n).length:=by simp[d_]
def aoq(I:D<=4)(h:x[4-D]? =some g):iZ #[#[x]] (4-ad D) #[#[[g]]]:=by have e:=JE I;rw[e▸yz h (ai5 e)]
def kF(o:!(!N)):Prop:=(o.length=2\/o.length=3)/\∀a∈o,a≠[]/\a.length<=5
def p8(a n):a.length<=(cz a n).length/\(cz a n).length<=a.length+3:=by
 unfold cz;split
 .simp;rw[MH]
 .simp;rw[MH]
 .cases a with
  |nil=>simp
  |cons Z l=>simp
 .rw[ai6]
def Rz(h:n<=16777216):Fp n=false:=decide_eq_false<|l_.mpr h
def aox(h:a.length+b.length<=1000):nE (.type "list") #[[.str #[#[a]] t,.str #[#[b]] u]] #[#[[32]]] #[#[a++32::b]]:=by
 rw[#[pF,ab,(show 2≠1 by decide),Rz ?_,?_,?_]]
 .show 0+a.length+1+b.length+1<=16777216
  rw[ai7 h]
 .show(#[#[a]++#[[32]]++#[b]]:aA)=_
  congr 1;apply h_;simp
 .show(a++32::b).length<=16777216
  simp;rw[ai8 h]
def aoy(h:a.length+b.length+c.length<=1000):nE (.type "list") #[[.str #[#[a]] t,.str #[#[b]] u,.str #[#[c]] v]] #[#[[32]]] #[#[a++32::(b++32::c)]]:=by
 rw[#[pF,ab,(show 3≠1 by decide),Rz ?_,?_,?_]]
 .show 0+a.length+1+b.length+1+c.length+1<=16777216
  rw[ai9 h]
 .show(#[#[a]++#[[32]]++#[b]++#[[32]]++#[c]]:aA)=_
  congr 1;apply h_;simp
 .show(a++32::(b++32::c)).length<=16777216
  simp;rw[ai_ h]
def yN(h:D.length=2\/D.length=3):(∃a b,D=[a,b])\/∃a b c,D=[a,b,c]:=by
 match D,h with
 |[a,b],_=>rw[.inl<|kh a b rfl]
 |[a,b,c],_=>rw[.inr<|Js a b c rfl]
 |[],h=>simp at h
 |[_],h=>simp at h
 |_::_::_::_::_,h=>simp at h
def Qp(x tk):d9 (ar [qK (i8<|ar [59])<|tk+8,qK (i8<|ar [32,59,32])<|tk+9,qK (i8<|ar [59,10])<|tk+10,qK (i8<|ar [9,59])<|tk+11]) (ad<|x%4) (qK (i8<|ar<|gG x)<|tk+8+x%4):=by
 have U:x%4<4:=bq _ ζ;rw[gw ?_<|aja U];unfold gG;generalize x%4=y at U
 match y,U with
 |0,_=>rfl
 |1,_=>rfl
 |2,_=>rfl
 |3,_=>rfl
 |_+4,U=>lia
def yW(x):gG x≠[]/\(gG x).length<=3:=by
 unfold gG
 split<;>simp
def Jy{l:!(N×N)}(hi:i<l.length):∃t,(l.map aO)[i]? =some (.int (ad<|(l.map (·.1)).getD i 0) t):=by rw[#[(l[i]).2,?_]];simp only[fj,eH hi,ic,fj,eH hi];rfl
def aot{l:!(N×N)}(i)(hi:i<l.length)(a:l.length<=100):∃t,iL #[l.map aO] (-1-ad i) (.int (ad<|(l.map (·.1)).getD (l.length-1-i) 0) t):=by
 rw[dq (Jy<|ajb hi) λt S=>?_];have Z:(l.map aO).length=l.length:=aU ..;rw[#[t,by simp only[qn];lia,by simp only[qn];lia,?_,?_]]
 .rw[Jx (Z.symm▸hi)▸jy _]
 .show(#[l.map aO]:Array af)[(-1-ad i+((l.map aO).length)).toNat]? =_
  rw[Jx<|Z.symm▸hi,Z];simpa using S
def B9{n:Type}(l m)(x:n):(iP l m x).length=l.length+1:=by show(l.take m++x::l.drop m).length=_;rw[cv,dN,<-wQ,<-cv,Tg]
section
variable{F:Fs}
def aM.take:∀{l:!PV} {vs:!af} (k:N),aM F l vs->aM F (l.take k) (vs.take k)
 |_,_,0,_=>by simp only[F5,F5];rw[.nil]
 |[],_,k+1,U=>by rw[(eu.mp U)▸.nil]
 |x::l,_,k+1,U=>by rw[cp (cq.mp U) λv E P a M=>?_];subst P;rw[.cons a<|M.take k]
def aM.drop:∀{l:!PV} {vs:!af} (k:N),aM F l vs->aM F (l.drop k) (vs.drop k)
 |_,_,0,U=>U
 |[],_,k+1,U=>by rw[(eu.mp U)▸.nil]
 |x::l,_,k+1,U=>by rw[cp (cq.mp U) λv E P a M=>?_];subst P;rw[M.drop k]
def aM.iP{l:!PV}{x:PV}{vs:!af}{v:af}(m:N)(g:aM F l vs)(c:Rp F x v):aM F (Mine.iP l m x) (Mine.iP vs m v):=(g.take m).append<|cq.mpr<|bY v _ rfl c<|g.drop m
def aM.order{am:!N}:∀{l m:!PV} {vs us:!af} (k:N),aM F l vs->aM F m us->aM F (hJ am k l m) (hJ am k vs us):=by
 intro J;induction J with
 |nil=>intro m vs us k g c;rw[eu]at g;subst g;rw[c]
 |cons x l C=>intro m vs us k g c;rw[cp (cq.mp g) λv E P a M=>?_];subst P;rw[C (k+1) M<|c.iP _ a]
end
def alC{n t:Type}(f:n->t)(l m)(x:n):(iP l m x).map f=iP (l.map f) m (f x):=by simp[iP]
def alD{n t:Type}(f:n->t)(am):∀(l m k),(hJ am k l m).map f=hJ am k (l.map f) (m.map f):=by
 intro J;induction J with
 |nil=>intro m k;rw[rfl]
 |cons x l C=>intro m k;show(hJ am (k+1) l<|iP m _ x).map f=hJ am (k+1) (l.map f) (iP (m.map f) _<|f x);simp only[C _<|k+1,alC]
def OQ{n:Type}(am):∀(l m:!n) (k),(hJ am k l m).length=l.length+m.length:=by
 intro J;induction J with
 |nil=>intro m k;rw[(nC _).symm]
 |cons x l C=>intro m k;show(hJ am (k+1) l<|iP m _ x).length=_;simp only[C _<|k+1,B9];simp;rw[ME]
def alF{n:Type}{l:!n}{x y:n}(h:y∈iP l m x):y=x\/y∈l:=by
 rcases ek.mp h with h|h
 .rw[.inr<|List.mem_of_mem_take h]
 .rcases aY.mp h with h|h
  .rw[.inl h]
  .rw[.inr<|List.mem_of_mem_drop h]
def alG{n:Type}(am):∀(l m k) (y:n),y∈hJ am k l m->y∈l\/y∈m:=by
 intro J;induction J with
 |nil=>intro m k y U;rw[.inr U]
 |cons x l C=>
  intro m k y U;rcases C _ (k+1) y U with U|U
  .rw[.inl<|.tail _ U]
  .rcases alF U with rfl|U
   .rw[.inl<|.head _]
   .rw[.inr U]
def ast(n):(fx n).length=5:=by simp[fx];rw[ajc]
def D6(h:3<=ps.length):(iU #[ps] none (some 3) none).toList=ps.take 3:=by have:=slicePick_upto #[ps] 3 (by simpa using h);simpa using(congrArg Fk this)
def ass(e:ap (n%16^5)=[]):fx n=[65,65,65,65,65]:=by simp[fx,d_,e]
def Fc(e:ap (n%16^5)=G::D):j5 (i8<|ar<|[65,65,65,65,65]++fg (ar (G::D))) (some<|-5) none (i8<|ar<|fx n)/\fO (i8<|ar [65,65,65,65,65]) (i8<|ar<|fg<|ar (G::D))/\o5 (ar (G::D)):=by
 have a:=qM 5 _ (bq n<|show 0<16^5 by decide);have i:fg (ar (G::D))=d_ (n%16^5):=by simp[fg,d_,e]
 have C:(d_<|n%16^5).length=D.length+1:=by simp[d_,e]
 rw[i▸?_];rw[e]at a;simp at a;rw[#[?_,jk (dl _ _) (by rw[i▸?_];simp[fg]) (by simp[C];rw[ahg a]),?_,?_]]
 .have:=aoI (l:=[65,65,65,65,65]++d_ (n%16^5)) (k:=5) (by simp[C]) ζ (by simp[C];rw[ahh a])
  rw[this]
 .intro y b
  have:=AG _ y<|e▸b;rw[yd this]
 .show(G::D).length<=16777216
  simp;rw[ahi a]
section
variable{x:Wd}
def Q3{z H it ac f k ns na n ti:N}{l:!(N×N)}(hs:F f (aa #[l.map aO] ns))(hk:l[k]? =some (n,ti))(j:D.length<=1000)(h:∀F' t v s d,Le F F'->ay x aj 350 (nP z it ac H) F' [fJ x H<|some (t,v),(it,ba f<|k+1),(ac,aa #[D++[.str #[#[fx n]] s]] d)] Q):ay x aj 350 (nP z it ac H) F [fJ x H o,(it,ba f k),(ac,aa #[D] na)] Q:=by
 have i:n%16^5<16^5:=bq _ ζ;have g:=λ{t b:N}=>p46 (x:=x) (F:=F) (t1:=t) (b:=b) (alj i)<|alk<|qM 5 _ i;have e:df #[l.map aO] (ad k) (iN n ti):=hM (by simp only[fj,hk];rfl);cases I:ap (n%16^5)with
 |nil=>rw[fu (O:=[(f,aa #[l.map aO] ns)]) #[hs,ab] λB K=>hG 1 λc u J G A=>bu (ar0 _ x) ab #[f_<|hI j,I▸g,fZ (m:=16^5) ζ rfl,e,ab] rfl u<|.pu (L1:=[_,_])<|ass I▸h _ _ _ _ _ λa o U=>an a o<|u a o U]
 |cons p r=>rw[fu (O:=[(f,aa #[l.map aO] ns)]) #[hs,ab] λB K=>hG 1 λc u J G A=>bu (ar1 _ x) ab #[f_<|hI j,(Fc I).1,(Fc I).2.1,(Fc I).2.2,I▸g,fZ (m:=16^5) ζ rfl,e,ab] rfl u<|.pu (L1:=[_,_])<|h _ _ _ _ _ λa o U=>an a o<|u a o U]
inductive Av (x:Wd) (cl ac:N) (zs:!(!N)) (F':Fs):aL->ao->Prop
 |mk (y na) (us:!(!N×N)) (h1:us.map (·.1)=zs):Av x cl ac zs F' (.ok .next) [fJ x cl (some y),(ac,aa #[us.map ax] na)]
def afO{z H it ac f ns:N}:∀{rest done:!(N×N)} {us:!(!N×N)} {na y F},F f (aa #[(done++rest).map aO] ns)->us.map (·.1)=done.map (λp=>fx p.1)->us.length+rest.length<=100->ay x aj 350 (nP z it ac H) F [fJ x H<|some y,(it,ba f done.length),(ac,aa #[us.map ax] na)] (Av x H ac<|(done++rest).map λp=>fx p.1):=by
 intro rest;induction rest with
 |nil=>
  intro done us na y F o g i;rw[bQ]at o⊢;rw[.perm (pm [[fJ x H<|some y],[(it,ba f done.length)],_] (.p (.a 0)<|.p (.a 1)<|.a 2) (.p (.a 1)<|.p (.a 0)<|.a 2) rfl) ?_];rw[bJ (L:=[(it,ba f done.length)]) (O:=[(f,aa #[done.map aO] ns)]) #[o,ab] λB K=>bp (ar8 z H it ac f B K done.length ns (done.map aO) x) ab #[by show(ar<|done.map aO)[done.length]? =none;simp,ab] (aV) #[y,na,us,g]]
 |cons p rest C=>
  intro done us na y F o g i;refine Q3 (n:=p.1) (ti:=p.2) o (by simp) (by rw[aU,];rw[ahj i]) λT D v s d l=>?_;have e:done++p::rest=(done++[p])++rest:=by simp
  have z:=C (us:=us++[(fx p.1,s)]) (na:=d) (y:=(D,v)) (e▸l _ _ o) (by simp only[bf,bf,g];rfl) (by simp;rw[ahk i]);rw[cv,<-e,bf]at z;rw[z]
def V2{z H it ac f ns na:N}(hs:F f (aa #[l.map aO] ns))(L:l≠[])(i:l.length<=100):ay x aj 350 (jd mr 0 (.ref it) (.ref ac)<|wq z H) F [(it,ba f 0),(ac,aa #[[]] na),(H,ak [] 0)] (Av x H ac<|l.map λp=>fx p.1):=by rw[fW (jY L) λp Q P=>?_];subst P;rw[bJ (O:=[]) ab λB K=>bu (ar6 z H it ac f B K x) ab ab rfl (aV)<|.perm (pm [[(it,ba f 0)],[(ac,aa #[[]] na)],_] (.p (.a 0)<|.p (.a 1)<|.a 2) (.p (.a 2)<|.p (.a 0)<|.a 1) rfl)<|Q3 (o:=none) (an _ _ hs) rfl (dm _) λT D v s d l=>afO (done:=[p]) (us:=[(fx p.1,s)]) (l _ _<|an _ _ hs) rfl<|ahl i]
structure Ws (F:Fs) (wl:N) (ws:!(!N)):Prop where
 len:∀a∈ws,a.length=5
 at_:∃w1 w2 w3 q1 q2 q3 nw,ws=[w1,w2,w3]/\F wl (aa #[[.str #[#[w1]] q1,.str #[#[w2]] q2,.str #[#[w3]] q3]] nw)
def Ws.to{F F':Fs}(T:Le F F'){n:N}{ws:!(!N)}(h:Ws F n ws):Ws F' n ws:=#[h.len,by rw[X9 h.at_ λm g C Q f M E e h=>Jw m g C Q f M E e<|T _ _ h]]
abbrev zH(x:Wd)(w:jB)(it k:N)(j:!af)(ws:!(!N))(o:N×N×Option N)(F:Fs)(Q:Po):Prop:=∀T D C d s,Le F T->Rp T (dG<|fp ws o) (.ref d)->ay x aj 400 (lp w.z it) T [gO x w D,(w.z+2,bm C),(w.rl,aa #[j++[.ref d]] s),(it,ba w.r<|k+1)] Q
def apP(h:F a (aa #[[.str #[#[D]] J,.str #[#[K]] U,.str #[#[G]] a6]] n)):Rp F (dG [D,K,G]) (.ref a):=dW.mpr<|gE a _ n rfl h<|.cons (c9.mpr #[J,rfl])<|.cons (c9.mpr #[U,rfl])<|.cons (c9.mpr #[a6,rfl]) .nil
def PU(h:F a (aa #[[.str #[#[D]] G,.str #[#[K]] J]] n)):Rp F (dG [D,K]) (.ref a):=dW.mpr<|gE a _ n rfl h<|.cons (c9.mpr #[G,rfl])<|.cons (c9.mpr #[J,rfl]) .nil
structure TJ (F:Fs) (lo hi m:N) (v:af) (a y yw p2 ny ta tb tc td te tf:N):Prop where
 e:v=.ref a
 a_:F a (aD [.int (ad lo) ta,.int (ad hi) tb,.ref y])
 y_:F y (aa #[[.ref yw,.ref p2]] ny)
 OU:F yw (aD [.int (ad m) tc,.int (ad hi) td])
 OV:F p2 (aD [.int (ad lo) te,.int (ad m) tf])
def Er(h:Rp F (d6 (D,hi,some m)) v):∃a y d i l f Z t b S tf,TJ F D hi m v a y d i l f Z t b S tf:=by rw[cp (jO.mp h) λa Q P g M=>?_];subst P;obtain⟨_,_,rfl,w,M⟩:=cq.mp M;obtain⟨_,_,rfl,L,M⟩:=cq.mp M;obtain⟨_,_,rfl,e,M⟩:=cq.mp M;obtain rfl:=eu.mp M;obtain⟨f,rfl⟩:=dT.mp w;obtain⟨Z,rfl⟩:=dT.mp L;rw[gX (dW.mp e) λy R l j X I=>?_];subst j;obtain⟨_,_,rfl,H,I⟩:=cq.mp I;obtain⟨_,_,rfl,z,I⟩:=cq.mp I;obtain rfl:=eu.mp I;rw[jg (DW H) λd t b j W=>?_];subst j;rw[jg (DW z) λi S tf j c=>?_];subst j;rw[#[a,y,d,i,l,f,Z,t,b,S,tf,rfl,g,X,W,c]]
def Es(h:Rp F (d6 (D,hi,none)) v):∃a y l f Z,v=.ref a/\F a (aD [.int (ad D) f,.int (ad hi) Z,.ref y])/\F y (aa #[[]] l):=by rw[cp (jO.mp h) λa Q P b M=>?_];subst P;obtain⟨_,_,rfl,w,M⟩:=cq.mp M;obtain⟨_,_,rfl,L,M⟩:=cq.mp M;obtain⟨_,_,rfl,i,M⟩:=cq.mp M;obtain rfl:=eu.mp M;obtain⟨f,rfl⟩:=dT.mp w;rw[dq (dT.mp L) λZ H=>?_];subst H;rw[gX (dW.mp i) λy R l j X I=>?_];subst j;obtain rfl:=eu.mp I;rw[Jv a y l f Z rfl b X]
def Q2(ok:gn (U,hi,some m))(j:F w.r (aa #[rs] nr))(r:rs[k]? =some v)(hv:Rp F (d6 (U,hi,some m)) v)(hz:a6.length<=1000)(h:zH x w it k a6 ws (U,hi,some m) F Q):ay x aj 400 (lp w.z it) F [Il x w q,(w.z+2,G_ q),(w.rl,aa #[a6] nl),(it,ba w.r k)] Q:=by obtain⟨a,y,d,i,l,f,Z,t,b,S,z,g⟩:=Er hv;obtain rfl:=g.e;have P:=ok.1;have C:=ok.2.1;have I:=ok.2.2 m rfl;rw[iW (O:=[(w.r,aa #[rs] nr),(a,aD [iN U f,iN hi Z,.ref y]),(y,aa #[_] l),(d,aD [iN m t,iN hi b]),(i,aD [iN U S,iN m z])]) #[j,g.a_,g.y_,g.OU,g.OV,ab] λB K=>hG 3 λc u J G A D E X M R e=>bu (arY _ x) ab #[f_<|hI hz,lN (kn I.1)<|LY P C I.2,lN (kn P)<|LV C I.2,lN (kn P)<|on P C,hM r,ab] rfl u<|.pu (L1:=[_,_])<|h _ _ _ _ _ (cb u)<|apP<|bc<|.head _]
def aqH(ok:gn (D,hi,none))(i:F w.r (aa #[rs] nr))(r:rs[k]? =some v)(hv:Rp F (d6 (D,hi,none)) v)(j:Ws F w.wl ws)(hz:U.length<=1000)(h:zH x w it k U ws (D,hi,none) F Q):ay x aj 400 (lp w.z it) F [gO x w t,(w.z+2,bm vl),(w.rl,aa #[U] nl),(it,ba w.r k)] Q:=by rw[HT (Es hv) λa y l s Z p o b=>?_];subst p;obtain⟨Y,m,g,n,q,f,M,E,rfl,d⟩:=j;have P:=ok.1;have C:=ok.2.1;have e:∀x:!N,x.length=5->iZ #[#[x]] (4-ad D) #[#[[x.getD (4-D) 65]]]:=λx i=>aoq (ahm P C) (by rw[ic,eH<|ahn i];rfl);rw[iW (O:=[(w.r,aa #[rs] nr),(a,aD _),(y,aa #[[]] l),(w.wl,aa #[_] E)]) #[i,o,b,d,ab] λB K=>hG 1 λc u J G A=>bu (arZ x) ab #[f_<|hI hz,e _<|Y n<|.tail _<|.tail _<|.head _,e _<|Y g<|.tail _<|.head _,e _<|Y m<|.head _,lN (kn P)<|on P C,hM r,ab] rfl u<|.pu (L1:=[_,_])<|h _ _ _ _ _ (cb u)<|PU<|bc<|.head _]
inductive wX (x:Wd) (w:jB) (out:!(!(!N))) (F':Fs):aL->ao->Prop
 |mk (t vl rows nl) (h1:aM F' (out.map dG) rows):wX x w out F' (.ok .next) [gO x w t,(w.z+2,bm vl),(w.rl,aa #[rows] nl)]
def afL:∀{rest done:c6} {t vl j nl F},F w.r (aa #[rs] nr)->aM F ((done++rest).map d6) rs->(∀r∈rest,gn r)->Ws F w.wl ws->aM F ((done.map<|fp ws).map dG) j->done.length+rest.length<=1000->ay x aj 400 (lp w.z it) F [gO x w t,(w.z+2,bm vl),(w.rl,aa #[j] nl),(it,ba w.r done.length)] (wX x w<|(done++rest).map<|fp ws):=by
 intro rest;induction rest with
 |nil=>
  intro done t vl j nl F c A y Y f i;simp only[bQ]at A⊢;rw[.perm (pm [[gO x w t,(w.z+2,bm vl),(w.rl,aa #[j] nl)],_] (.p (.a 0)<|.a 1) (.p (.a 1)<|.a 0) rfl) ?_];rw[bJ (L:=[(it,ba w.r done.length)]) (O:=[(w.r,aa #[rs] nr)]) #[c,ab] λB K=>bp (ar7 w.z it B K done.length w.r nr rs x) ab #[by show(ar rs)[done.length]? =none;have:=A.length;simp[this],ab] (aV) #[t,vl,j,nl,f.to an]]
 |cons q rest C=>
  intro done t vl j nl F c A y Y f i;simp only[dN]at i;have b:=f.length;simp only[aU,aU]at b;obtain⟨v,X,G⟩:=A.get done.length (x:=d6 q) (by rw[bf,oP<|by simp];simp);have e:done++q::rest=(done++[q])++rest:=by simp
  have h:zH x w it done.length j ws q F (wX x w<|(done++q::rest).map<|fp ws):=λT t vl d nl l P=>by have z:=C (t:=t) (vl:=vl) (nl:=nl) (l _ _ c) (e▸A.to l) (λr U=>y r<|.tail _ U) (Y.to l) (by simp only[bf,bf];rw[(f.to l).push P]) (by simp;rw[Dl i]);simp only[cv,<-e]at z;rw[z]
  obtain⟨R,m,n⟩:=q;cases n with
  |none=>rw[aqH (y _<|.head _) c X G Y (vw i b) h]
  |some E=>rw[Q2 (q:=some (t,vl)) (y _<|.head _) c X G (vw i b) h]
def Zy(a:F w.r (aa #[rs] nr))(A:aM F (((J,hi,some m)::rest).map d6) rs)(y:∀r∈(J,hi,some m)::rest,gn r)(Y:Ws F w.wl ws)(i:rest.length<=900):ay x aj 400 (lp w.z it) F [Io x w,(w.z+2,cF),(w.rl,aa #[[]] nl),(it,ba w.r 0)] (wX x w<|((J,hi,some m)::rest).map<|fp ws):=aJ (A.get 0 rfl) λv X G=>Q2 (q:=none) (ws:=ws) (y _<|.head _) a X G (dm _) λT D C d nl l P=>afL (done:=[(J,hi,some m)]) (l _ _ a) (A.to l) (λr U=>y r<|.tail _ U) (Y.to l) (.cons P .nil)<|Mu i
end
def yI(k n):eE k n=cH (k+1) n:=by show(#[.type "range_iterator",none,.fields #[_],#[[]]]:Obj)=_;refine(by lia:ad (n+1)-1=ad n)▸?_;rfl
def Lu{l:!(N×N)}:(l.map aO).length=l.length:=aU ..
def vT{l:!(N×N)}(h:l.length<=100):gd (.type "list") #[l.map aO]:=#[pF,by show(l.map aO).length<=16777216;rw[Lu,];lia]
def vU(L:l≠[]):cj (ad k) (((l.map aO).length:N):Int) (ad<|k%l.length):=by rw[Lu,];rw[fZ (λU=>L<|List.length_eq_zero_iff.mp U) rfl]
abbrev UR:Option af->Obj
 |none=>cF
 |some v=>bm v
section
variable{x:Wd}
def QZ{j os:!af}(L:l≠[])(i:l.length<=100)(I:F w.p (aa #[l.map aO] U))(A:F w.rl (aa #[j] nl))(hk:j[k]? =some (.ref a6))(y:os.length=k)(e:k<=100)(h:∀F' v P,Le F F'->ay x aj 400 (mj w.z it) F' [(w.z+4,bm v),(G,aa #[iP os ((l.map (·.1)).getD (k%(l.map (·.1)).length) 0%(k+1))<|.ref a6] P),(it,cH (k+1) n),gO x w t,(w.z+3,bm<|.ref G)] Q):ay x aj 400 (mj w.z it) F [(w.z+4,UR c),(G,aa #[os] J),(it,cH k<|n+1),gO x w t,(w.z+3,bm<|.ref G)] Q:=by
 have D:=ni.mpr L;rw[aU]at h;rw[dq (Jy<|bq k D) λq W=>?_];generalize X:(l.map (·.1)).getD (k%l.length) 0=v at*;have g:AP [wW #[os]<|ad<|v%(k+1),d9 #[j] (ad k)<|.ref a6,cj (ad v) (ad k+1)<|ad<|v%(k+1),d9 #[l.map aO] (ad<|k%l.length)<|.int (ad v) q,cj (ad k) ((l.map aO).length)<|ad<|k%l.length,gd (.type "list") #[l.map aO]]:=by
  rw[#[#[jy _,?_,?_],gw hk<|akP e,fZ (akQ) rfl,gw W (by have:=bq k D;rw[alo i this]),vU L,vT i,ab]]
  .rw[akR y (bq v<|show 0<k+1 by lia)]
  .rw[akS y e]
 cases c with
 |none=>rw[fu (O:=[(w.p,aa #[l.map aO] U),(w.rl,aa #[j] nl)]) #[I,A,ab] λB K=>bu (ar2 w t it B K k n (v%(k+1)) nl G U J (k%l.length) v q a6 j (l.map aO) os x) ab g rfl (aV) ?_];rw[yI,];rw[h (fz F []) (.int (ad k) K) (J+1) an]
 |some m=>rw[fu (O:=[(w.p,aa #[l.map aO] U),(w.rl,aa #[j] nl)]) #[I,A,ab] λB K=>bu (ar3 w t it B K k n (v%(k+1)) nl G U J (k%l.length) v q a6 j (l.map aO) os m x) ab g rfl (aV) ?_];rw[yI,];rw[h (fz F []) (.int (ad k) K) (J+1) an]
inductive Ar (x:Wd) (w:jB) (t:j_) (od:N) (os:!af) (F':Fs):aL->ao->Prop
 |mk (v no):Ar x w t od os F' (.ok .next) [(w.z+4,bm v),(od,aa #[os] no),gO x w t,(w.z+3,bm (.ref od))]
def afH(L:l≠[])(i:l.length<=100)(f:D.length<=100)(g:∀v∈D,∃a,v=.ref a):∀{n k e v os F},F w.p (aa #[l.map aO] U)->F w.rl (aa #[D] nl)->k+n=D.length->os.length=k->ay x aj 400 (mj w.z it) F [(w.z+4,bm v),(J,aa #[os] e),(it,cH k n),gO x w t,(w.z+3,bm<|.ref J)] (Ar x w t J<|hJ (l.map (·.1)) k (D.drop k) os):=by
 intro n;induction n with
 |zero=>intro k e v os F I A b y;rw[.perm (pm [[(w.z+4,bm v),(J,aa #[os] e)],[(it,cH k 0)],_] (.p (.a 0)<|.p (.a 1)<|.a 2) (.p (.a 1)<|.p (.a 0)<|.a 2) rfl)<|bJ (O:=[]) ab λB K=>bp (ar4 w.z it B K k x) ab ab (aV) ?_];rw[FO.mpr<|Mj b,];rw[#[v,e]]
 |succ n C=>intro k e v os F I A b y;have G:=rz b;refine dq (g D[k] (nh G)) λd o=>QZ (c:=some v) L i I A (by rw[eH G,o]) y (akT f b) λT q P Q=>?_;rw[(SY G)▸o▸(C (Q _ _ I) (Q _ _ A) (pK b) (by rw[B9,];rw[akU y]))]
def Zw(L:l≠[])(i:l.length<=100)(b:D.length=n+1)(f:n<=90)(g:∀v∈D,∃a,v=.ref a)(I:F w.p (aa #[l.map aO] U))(A:F w.rl (aa #[D] nl)):ay x aj 400 (mj w.z it) F [(w.z+4,cF),(J,aa #[[]] K),(it,cH 0<|n+1),gO x w t,(w.z+3,bm<|.ref J)] (Ar x w t J<|hJ (l.map (·.1)) 0 D []):=by
 have G:=Mr b;refine dq (g D[0] (nh G)) λd o=>QZ (c:=none) L i I A (by rw[eH G,o]) rfl (akV) λT q P Q=>?_;have e:D=.ref d::D.drop 1:=by have:=SY G;rw[o▸this]
 rw[(by rw[e▸?_];rfl:hJ (l.map (·.1)) 0 D []=hJ (l.map (·.1)) 1 (D.drop 1) (iP [] ((l.map (·.1)).getD (0%(l.map (·.1)).length) 0%(0+1))<|.ref d))▸(afH L i (akW b f) g (Q _ _ I) (Q _ _ A) (akX b)<|B9 ..)]
abbrev r9(x:Wd)(w:jB)(t:j_)(f8 b it k n:N)(Z:!N)(F:Fs)(Q:Po):Prop:=∀T g m a,Le F T->ay x aj 400 (iC w.z it) T [kM x w t f8 Z a,(w.z+1,bm g),(w.z+4,bm m),(it,cH (k+1) n),(w.z+3,bm<|.ref b)] Q
def PO(h:Rp F (dG [a,b]) v):∃d nw H z,v=.ref d/\F d (aa #[[.str #[#[a]] H,.str #[#[b]] z]] nw):=by rw[gX (dW.mp h) λd Q nw j c M=>?_];subst j;obtain⟨_,_,rfl,w,M⟩:=cq.mp M;obtain⟨_,_,rfl,L,M⟩:=cq.mp M;obtain rfl:=eu.mp M;obtain⟨H,rfl⟩:=c9.mp w;obtain⟨z,rfl⟩:=c9.mp L;rw[vf d nw H z rfl c]
def PQ(h:Rp F (dG [a,b,c]) v):∃d nw H z T,v=.ref d/\F d (aa #[[.str #[#[a]] H,.str #[#[b]] z,.str #[#[c]] T]] nw):=by rw[gX (dW.mp h) λd Q nw j e M=>?_];subst j;obtain⟨_,_,rfl,w,M⟩:=cq.mp M;obtain⟨_,_,rfl,L,M⟩:=cq.mp M;obtain⟨_,_,rfl,i,M⟩:=cq.mp M;obtain rfl:=eu.mp M;obtain⟨H,rfl⟩:=c9.mp w;obtain⟨z,rfl⟩:=c9.mp L;obtain⟨T,rfl⟩:=c9.mp i;rw[vg d nw H z T rfl e]
def Ew(h:kF D):iS am k D≠[]/\(iS am k D).length<=50:=by
 rw[h.casesOn λS c=>?_];rcases yN S with⟨a,b,rfl⟩|⟨a,b,Z,rfl⟩
 .have d:=p8 a<|dz am k/4
  have i:=p8 b<|dz am k/4+1;have e:=(c a<|.head _).2;have f:=(c b<|.tail _<|.head _).2;show(cz a (dz am k/4)++32::cz b (dz am k/4+1))≠[]/\gT (cz a (dz am k/4)++32::cz b (dz am k/4+1))<=50;simp;rw[akY d i e f]
 .have d:=p8 a<|dz am k/4
  have g:=(c Z<|.tail _<|.tail _<|.head _).2;show(cz a (dz am k/4)++32::(cz b (dz am k/4+1)++32::cz Z (dz am k/4+1+1)))≠[]/\gT (cz a (dz am k/4)++32::(cz b (dz am k/4+1)++32::cz Z (dz am k/4+1+1)))<=50;simp;rw[akZ d (p8 b<|dz am k/4+1) (p8 Z<|dz am k/4+1+1) ((c a<|.head _).2) ((c b<|.tail _<|.head _).2) g]
abbrev vV(v:N)(a b:!N):!N:=cz a (v/4)++32::cz b (v/4+1)
abbrev vW(v:N)(a b c:!N):!N:=cz a (v/4)++32::(cz b (v/4+1)++32::cz c (v/4+2))
def Pj(L:l≠[])(i:l.length<=100):∃q,iL #[l.map aO] (-1-ad (k%l.length)) (iN (dz (l.map (·.1)) k) q):=by unfold dz;rw[aU,];rw[aot (k%l.length) (bq k<|ni.mpr L) i]
def wf(h:Wk a):(cz a n).length<=8:=bT (p8 a n).2<|oW h.2 3
def Pa{p f:!N}(a:Wk p)(M:Wk f):nE (.type "list") #[[ah (cz p<|v/4) t,ah (cz f<|v/4+1) u]] #[#[[32]]] #[#[vV v p f]]:=aox<|bT (oU (wf a)<|wf M)<|ζ
def Pb{p f g:!N}(a:Wk p)(M:Wk f)(X:Wk g):nE (.type "list") #[[ah (cz p<|v/4) t,ah (cz f<|v/4+1) u,ah (cz g<|v/4+2) r]] #[#[[32]]] #[#[vW v p f g]]:=aoy<|bT (oU (oU (wf a)<|wf M)<|wf X)<|ζ
def mM:gm (ad v) 4 (ad<|v/4):=mL ζ ζ rfl
def HJ:decide (0<ad (k+1))=true:=decide_eq_true<|Int.natCast_pos.mpr<|sB k
def OW(h:D≠[])(a:D.length<=5000):fO #[#[D]] #[#[gG v]]:=jk h (yW v).1<|afT a (yW v).2
def OX(h:D≠[])(a:D.length<=5000)(hs:s≠[]/\s.length<=50):fO #[#[D++gG v]] #[#[s]]:=jk (List.append_ne_nil_of_left_ne_nil h _) hs.1 (by rw[cv,];rw[alK a (yW v).2 hs.2])
def aqD{f8 b it n s g tg d nw H z v q:N}{os:!af}{p f:!N}(L:l≠[])(i:l.length<=100)(I:F w.p (aa #[l.map aO] s))(y:F b (aa #[os] g))(e:os[0]? =some (.ref d))(o:F d (aa #[[ah p H,ah f z]] nw))(m:Wk p)(w2:Wk f)(W:iL #[l.map aO] (-1-ad (0%l.length)) (iN v q))(h:r9 x w t f8 b it 0 n (vV v p f) F Q):ay x aj 400 (iC w.z it) F [kM x w t f8 [] tg,(w.z+1,cF),(w.z+4,bm vk),(it,cH 0<|n+1),(w.z+3,bm<|.ref b)] Q:=iW (O:=[(w.p,aa #[l.map aO] s),(b,aa #[os] g),(d,aa #[_] nw)]) #[I,y,o,ab] λB K=>hG 2 λc u J G A D E X=>bu (arU x) ab #[Pa m w2,mK w2,mM,gw e<|pL,mK m,mM,gw e<|pL,gw e<|pL,W,vU L,vT i,ab] rfl u<|.rs (L1:=[_,_,_])<|h _ _ _ _ λa Y U=>an a Y<|u a Y U
def aqE{f8 b it n s k tg d nw H z T v q:N}{os:!af}{p f g:!N}(L:l≠[])(i:l.length<=100)(I:F w.p (aa #[l.map aO] s))(y:F b (aa #[os] k))(j:os[0]? =some (.ref d))(o:F d (aa #[[ah p H,ah f z,ah g T]] nw))(m:Wk p)(w2:Wk f)(C:Wk g)(W:iL #[l.map aO] (-1-ad (0%l.length)) (iN v q))(h:r9 x w t f8 b it 0 n (vW v p f g) F Q):ay x aj 400 (iC w.z it) F [kM x w t f8 [] tg,(w.z+1,cF),(w.z+4,bm vk),(it,cH 0<|n+1),(w.z+3,bm<|.ref b)] Q:=iW (O:=[(w.p,aa #[l.map aO] s),(b,aa #[os] k),(d,aa #[_] nw)]) #[I,y,o,ab] λB K=>hG 3 λc u J G A D E X M R e=>bu (arV x) ab #[Pb m w2 C,mK C,mM,gw j<|pL,mK w2,mM,gw j<|pL,mK m,mM,gw j<|pL,gw j<|pL,W,vU L,vT i,ab] rfl u<|.rs (L1:=[_,_,_])<|h _ _ _ _ λa Y U=>an a Y<|u a Y U
def aqF{f8 b it n s r tg d nw H z v q:N}{os:!af}{p f:!N}(L:l≠[])(i:l.length<=100)(I:F w.p (aa #[l.map aO] s))(y:F b (aa #[os] r))(g:os[(k+1)]? =some (.ref d))(o:F d (aa #[[ah p H,ah f z]] nw))(m:Wk p)(w2:Wk f)(W:iL #[l.map aO] (-1-ad ((k+1)%l.length)) (iN v q))(S:(vV v p f)≠[]/\(vV v p f).length<=50)(j:a6≠[])(P:a6.length<=5000)(e:k<100)(h:r9 x w t f8 b it (k+1) n (a6++gG v++(vV v p f)) F Q):ay x aj 400 (iC w.z it) F [kM x w t f8 a6 tg,(w.z+1,bm a7),(w.z+4,bm vk),(it,cH (k+1)<|n+1),(w.z+3,bm<|.ref b)] Q:=iW (O:=[(w.p,aa #[l.map aO] s),(b,aa #[os] r),(d,aa #[_] nw)]) #[I,y,o,ab] λB K=>hG 2 λc u J G A D E X=>bu (arW x) #[HJ,ab] #[OX j P S,Pa m w2,mK w2,mM,gw g<|rx e,mK m,mM,gw g<|rx e,gw g<|rx e,OW j P,Qp v K,fZ ζ rfl,W,vU L,vT i,ab] rfl u<|.rs (L1:=[_,_,_])<|h _ _ _ _ λa Y U=>an a Y<|u a Y U
def aqG{f8 b it n s Z tg d nw H z T v q:N}{os:!af}{p f g:!N}(L:l≠[])(i:l.length<=100)(I:F w.p (aa #[l.map aO] s))(y:F b (aa #[os] Z))(r:os[(k+1)]? =some (.ref d))(o:F d (aa #[[ah p H,ah f z,ah g T]] nw))(m:Wk p)(w2:Wk f)(C:Wk g)(W:iL #[l.map aO] (-1-ad ((k+1)%l.length)) (iN v q))(S:(vW v p f g)≠[]/\(vW v p f g).length<=50)(j:a6≠[])(P:a6.length<=5000)(e:k<100)(h:r9 x w t f8 b it (k+1) n (a6++gG v++(vW v p f g)) F Q):ay x aj 400 (iC w.z it) F [kM x w t f8 a6 tg,(w.z+1,bm a7),(w.z+4,bm vk),(it,cH (k+1)<|n+1),(w.z+3,bm<|.ref b)] Q:=iW (O:=[(w.p,aa #[l.map aO] s),(b,aa #[os] Z),(d,aa #[_] nw)]) #[I,y,o,ab] λB K=>hG 3 λc u J G A D E X M R ac=>bu (arX x) #[HJ,ab] #[OX j P S,Pb m w2 C,mK C,mM,gw r<|rx e,mK w2,mM,gw r<|rx e,mK m,mM,gw r<|rx e,gw r<|rx e,OW j P,Qp v K,fZ ζ rfl,W,vU L,vT i,ab] rfl u<|.rs (L1:=[_,_,_])<|h _ _ _ _ λa Y U=>an a Y<|u a Y U
end
def ay.ul{x:Wd}{t:Mk}{b:N}{c:bj}{F:Fs}{L:ao}{Q d:Po}(g:ay x t b c F L Q)(h:∀r F' L',Le F F'->Q F' r L'->∃L2 e,L'.Perm (L2++e)/\d (fz F' L2) r e):ay x t b c F L d:=λw B s A C o=>
 jE (g w B s A C o) λr P y=>cp y λF' L' l W q=>by rw[nZ (h r F' L' l q) λL2 e p a=>?_];have G:=W.perm<|p.append_right w;rw[b4]at G;rw[bY (fz F' L2) e (cb l) G.vc a]
section
variable{x:Wd}
inductive uU (x:Wd) (w:jB) (t:j_) (f8 od:N) (pg:!N) (F':Fs):aL->ao->Prop
 |mk (tg vn vk):uU x w t f8 od pg F' (.ok .next) [kM x w t f8 pg tg,(w.z+1,bm vn),(w.z+4,bm vk),(w.z+3,bm (.ref od))]
def afJ{os:!af}(s:l≠[])(i:l.length<=100):∀{rest done k tg g vk Z F},F w.p (aa #[l.map aO] a8)->F a6 (aa #[os] a7)->aM F ((done++rest).map dG) os->(∀r∈rest,kF r)->done.length=k+1->k+rest.length<=80->Z≠[]->Z.length<=60*(k+1)->ay x aj 400 (iC w.z it) F [kM x w t f8 Z tg,(w.z+1,bm g),(w.z+4,bm vk),(it,cH (k+1) rest.length),(w.z+3,bm<|.ref a6)] (uU x w t f8 a6<|fY (l.map (·.1)) (k+1) rest Z):=by
 intro rest;induction rest with
 |nil=>intro done k tg g vk Z F I y A j M c m P;rw[.perm (pm [[kM x w t f8 Z tg,(w.z+1,bm g),(w.z+4,bm vk)],[(it,cH (k+1) 0)],_] (.p (.a 0)<|.p (.a 1)<|.a 2) (.p (.a 1)<|.p (.a 0)<|.a 2) rfl)<|bJ (L:=[(it,cH (k+1) 0)]) (O:=[]) ab λB K=>bp (ar5 w.z it B K (k+1) x) ab ab (aV) #[tg,g,vk]]
 |cons o rest C=>
  intro done k tg g vk Z F I y A j M c m P;simp only[dN]at c;obtain⟨v,X,G⟩:=A.get (k+1) (x:=dG o) (by rw[<-M,bf,oP<|by simp];simp);have J:=j o<|.head _;have S:=Ew (am:=l.map (·.1)) (k:=k+1) J;have ac:=yW<|dz (l.map (·.1))<|k+1;have h:r9 x w t f8 a6 it (k+1) rest.length (Z++gG (dz (l.map (·.1))<|k+1)++iS (l.map (·.1)) (k+1) o) F (uU x w t f8 a6<|fY (l.map (·.1)) (k+1) (o::rest) Z):=λT D u n Q=>by
   have e:done++o::rest=(done++[o])++rest:=by simp
   rw[C (Q _ _ I) (Q _ _ y) (e▸A.to Q) (λr U=>j r<|.tail _ U) (by simp[M]) (ake c) (by simp[m]) (by simp only[cv];lia)]
  rw[dq (Pj (k:=k+1) s i) λq W=>?_];rcases yN J.1 with⟨b,f,rfl⟩|⟨b,f,Y,rfl⟩
  .rw[lz (PO G) λd E H z e R=>aqF s i I y (e▸X) R (J.2 b<|.head _) (J.2 f<|.tail _<|.head _) W S m (LM c P) (LN c) h]
  .rw[n_ (PQ G) λd E H z bb e R=>aqG s i I y (e▸X) R (J.2 b<|.head _) (J.2 f<|.tail _<|.head _) (J.2 Y<|.tail _<|.tail _<|.head _) W S m (LM c P) (LN c) h]
def Zx{os:!af}(L:l≠[])(i:l.length<=100)(I:F w.p (aa #[l.map aO] a8))(y:F a6 (aa #[os] a7))(A:aM F ((K::rest).map dG) os)(j:∀r∈K::rest,kF r)(hk:rest.length<=70):ay x aj 400 (iC w.z it) F [kM x w t f8 [] tg,(w.z+1,cF),(w.z+4,bm vk),(it,cH 0<|rest.length+1),(w.z+3,bm<|.ref a6)] (uU x w t f8 a6<|fY (l.map (·.1)) 0 (K::rest) []):=by
 rw[aJ (A.get 0 rfl) λv X G=>?_];have J:=j K<|.head _;have S:=Ew (am:=l.map (·.1)) (k:=0) J;have h:r9 x w t f8 a6 it 0 rest.length (iS (l.map (·.1)) 0 K) F (uU x w t f8 a6<|fY (l.map (·.1)) 0 (K::rest) []):=λT D u n Q=>by
  have e:fY (l.map (·.1)) 0 (K::rest) []=fY (l.map (·.1)) (0+1) rest (iS (l.map (·.1)) 0 K):=by show fY _ 1 rest ([]++(if 0=0 then[]else _)++_)=_;rw[(if_pos rfl)▸?_];rfl
  rw[e▸afJ (done:=[K]) L i (Q _ _ I) (Q _ _ y) (A.to Q) (λr U=>j r<|.tail _ U) rfl (akf hk) S.1 (by lia)]
 rw[dq (Pj (k:=0) L i) λq W=>?_];rcases yN J.1 with⟨p,f,rfl⟩|⟨p,f,g,rfl⟩
 .rw[lz (PO G) λd E H z e o=>aqD L i I y (e▸X) o (J.2 p<|.head _) (J.2 f<|.tail _<|.head _) W h]
 .rw[n_ (PQ G) λd E H z a e o=>aqE L i I y (e▸X) o (J.2 p<|.head _) (J.2 f<|.tail _<|.head _) (J.2 g<|.tail _<|.tail _<|.head _) W h]
def apF:∀{l:!(List<|List N)} {vs},aM F (l.map dG) vs->∀v∈vs,∃a,v=.ref a:=by
 intro J;induction J with
 |nil=>intro _ g v X;rw[eu.mp g]at X;cases X
 |cons q l C=>
  intro _ g v X;rw[cp (cq.mp g) λS B P b M=>?_];subst P;rw[jg (dW.mp b) λa U U j U=>?_];subst j;rcases aY.mp X with rfl|X
  .rw[#[a,rfl]]
  .rw[C M v X]
def rY(S:!(!N)):Prop:=S=[]\/∃a b,S=[a,b]/\a≠[]/\a.length<=5/\b≠[]/\b.length<=5
def yq(o:a<=5)(j:0<b)(c:b<=5):nm a b≠[]/\(nm a b).length<=5:=by refine#[by unfold nm d_;simpa using AH (MF j),?_];have:=qM 5 (16*a+b)<|akg o c;unfold nm;rw[Uf,];rw[this]
def apB(X:ws.length=3)(h:gn r):kF (fp ws r):=by
 obtain⟨R,m,n⟩:=r;rw[en h λP C I=>?_];dsimp only at P C I;cases n with
 |none=>
  rw[#[.inl rfl,λa o=>?_]];simp only[fp,aY,cQ,or_false]at o;rcases o with rfl|rfl
  .rw[yq (Df P C) (yh P) C]
  .rw[⟨λh=>?_,by rw[aU,];rw[akh X]⟩]
   rw[FX]at h;rw[h]at X;cases X
 |some E=>
  rw[ct (I E rfl) λb g=>#[.inr rfl,λa o=>?_]];simp only[fp,aY,cQ,or_false]at o;rcases o with rfl|rfl|rfl
  .rw[yq (Df P C) (yh P) C]
  .rw[yq (Dr C g) (yh P) C]
  .rw[yq (Df P C) (yh b)<|Dr C g]
def apA(W:rY D)(h:D≠[]):kF D:=by
 rcases W with rfl|⟨a,b,rfl,o,g,j,c⟩
 .rw[absurd rfl h]
 .rw[⟨.inl rfl,λZ d=>?_⟩]
  simp only[aY,cQ,or_false]at d;rcases d with rfl|rfl
  .rw[#[o,g]]
  .rw[#[j,c]]
set_option tactic.hygienic true in
def PS(X:3<=am.length)(y:∀r∈G,gn r)(W:rY D):∀r∈p5 am G D,kF r:=λr H=>by
 rcases ek.mp H with H|H
 .rw[aJ (bn.mp H) λq u P=>?_]
  subst P;rw[apB (by simp;lia)<|y q u]
 .split at H
  .rw[nomatch H]
  .rename_i U
   rw[(iA.mp H)▸apA W U]
abbrev oM(w:jB)(k:N)(c:Obj):aH×Obj:=(w.z+k,c)
def arr(L:l≠[])(i:l.length<=100)(I:F p (aa #[l.map aO] a7))(c:rs.length=9)(A:aM F (a6.map dG) (og q e rs).toList)(j:∀q∈a6,kF q)(n:Le F0 F):Go x aj 500 F0 (QT<|fY (l.map (·.1)) 0 (rD (l.map (·.1)) a6) []) F [] (DO p r e sz tk J G nl D a8 ne t vl rs q x):=by
 have W:lE q 8<=9:=by cases q with
  |none=>rw[ζ]
  |some y=>rw[d8 9]
 have X:(og q e rs).toList.length=lE q 8+1:=by cases q with
  |none=>rw[c]
  |some y=>rw[(Array.size_push<|.ref e).trans<|congrArg (·+1) c]
 rw[bP (Z:=[oM (gH p r e sz tk J G) 1 cF,oM (gH p r e sz tk J G) 2<|bm vl]) (arR q x) ab #[#[#[pF,show(og q e rs).toList.length<=16777216 by lia],congrArg ad X],by cases q with
  |none=>trivial
  |some y=>rw[#[f_<|by lia,ab]]] (.refl _) ((Zw (w:=(gH p r e sz tk J G)) L i X (by lia) (apF A) (an _ _ I)<|bc<|.head _).le ζ λ_ _ _ _ U=>U) λres d H bl h=>?_]
 rw[h.casesOn λm s=>?_];have K:=bO bl;have B:(hJ (l.map (·.1)) 0 (og q e rs).toList []).length=lE q 8+1:=(OQ ..).trans X;have ac:aM d ((rD (l.map (·.1)) a6).map dG) (hJ (l.map (·.1)) 0 (og q e rs).toList []):=alD dG (l.map (·.1)) a6 [] 0▸(A.to K).order 0 aM.nil;have bb:∀q∈rD (l.map (·.1)) a6,kF q:=λq u=>(alG _ _ _ _ _ u).elim (j q) λU=>(cQ U).elim;have C:(rD (l.map (·.1)) a6).length=lE q 8+1:=(OQ ..).trans<|(aU dG).symm.trans<|A.length.symm.trans X;generalize rD (l.map (·.1)) a6=ord at*;generalize hJ (l.map (·.1)) 0 (og q e rs).toList []=os at*;have O:ord≠[]:=λU=>by rw[U]at C;cases C
 rw[fW (jY O) λo Q bo=>?_];subst bo;have S:=qC C;have P:=λM R=>Zx (x:=x) (w:=(gH p r e sz tk J G)) (t:=t) (f8:=R+1) (it:=M+1) (tg:=R) (vk:=m) (F:=fz d [(D+1,aa #[os] s)]) L i (an _ _<|K _ _ I) (bc<|.head _) (ac.to an) bb (by lia);rw[S]at P;refine#[_,[],pm [[oM (gH p r e sz tk J G) 4<|bm m],[(D+1,aa #[os] s)],[gO x (gH p r e sz tk J G) t],_,[oM (gH p r e sz tk J G) 1 cF],_] (.p (.p (.a 0)<|.p (.a 1)<|.p (.a 2)<|.a 3)<|.p (.a 4)<|.a 5) (.p (.p (.a 2)<|.p (.a 4)<|.p (.a 5)<|.p (.a 3)<|.p (.a 0)<|.a 1) .z) rfl,_,_,[],ab,λM R=>bP (Z:=[oM (gH p r e sz tk J G) 2<|bm vl]) (arS q x) ab ⟨⟨⟨pF,show os.length<=16777216 by lia⟩,congrArg ad B⟩,ab⟩ (.refl _) ((P M R).le ζ λ_ _ _ _ U=>U) λres Y f T h=>?_];rw[h.casesOn λE g bs=>#[[kM x (gH p r e sz tk J G) t (R+1) (fY (l.map (·.1)) 0 (o::Q) []) E],_,.refl _,_,_,[],ab,λb k=>bp (arT x) ab ab (dR (cb<|dR n K) T) #[E]]]
inductive GH (x:Wd) (cl ac:N) (l:!(N×N)) (F':Fs):aL->ao->Prop
 |mk (y na) (us:!(!N×N)) (h1:us.map (·.1)=(l.map λp=>fx p.1)) (h2:F' ac (aa #[us.map ax] na)):GH x cl ac l F' (.ok .next) [fJ x cl (some y)]
def V3{z H it ac f ns na:N}(hs:F f (aa #[l.map aO] ns))(L:l≠[])(i:l.length<=100):ay x aj 350 (jd mr 0 (.ref it) (.ref ac)<|wq z H) F [(it,ba f 0),(ac,aa #[[]] na),(H,ak [] 0)] (GH x H ac l):=
 (V2 hs L i).ul λr T h U q=>by rw[q.casesOn λy na B M=>ki _ _ (sk (l₁:=[fJ x H<|some y])) #[y,na,B,M,bc<|.head _]]
def alH(A:l≠[])(X:3<=l.length)(i:l.length<=100)(y:∀q∈(a7,hi,some m)::rest,gn q)(W:rY a6)(n:Le F U)(I:U p (aa #[l.map aO] a8))(s:U e (aa #[es] ne))(d:aM U (a6.map .str) es)(B:rs.length=9)(f:aM U ((((a7,hi,some m)::rest).map<|fp<|((l.map (·.1)).take 3).map fx).map dG) rs):qD x aj 500 F (QT<|pU (l.map (·.1)) ((a7,hi,some m)::rest) a6) (x4 x sz) [(sz+1,cF),(sz+3,cF),(sz+4,cF)] (.ok .next) U [gO x (gH p r e sz tk J G) t,(sz+2,bm vl),(J,aa #[rs] nl)]:=by
 have h:∀q,es=BD q->aM U ((p5 (l.map (·.1)) ((a7,hi,some m)::rest) a6).map dG) (og q e rs).toList->qD x aj 500 F (QT<|pU (l.map (·.1)) ((a7,hi,some m)::rest) a6) (x4 x sz) [(sz+1,cF),(sz+3,cF),(sz+4,cF)] (.ok .next) U [gO x (gH p r e sz tk J G) t,(sz+2,bm vl),(J,aa #[rs] nl)]:=λq K O=>#[_,[],pm [[gO x (gH p r e sz tk J G) t],[oM (gH p r e sz tk J G) 2<|bm vl],_,[oM (gH p r e sz tk J G) 1 cF],[oM (gH p r e sz tk J G) 3 cF],_] (.p (.p (.a 0)<|.p (.a 1)<|.a 2)<|.p (.a 3)<|.p (.a 4)<|.a 5) (.p (.p (.a 0)<|.p (.a 3)<|.p (.a 1)<|.p (.a 4)<|.p (.a 5)<|.a 2) .z) rfl,_,_,[(e,aa ⟨BD q⟩ ne)],⟨K▸s,ab⟩,λD E=>arr A i I B O (PS (by rw[aU,];rw[X]) y W) n]
 rcases W with rfl|⟨M,b,rfl,o,g,u,c⟩
 .rw[h none (eu.mp d) ?_]
  rw[p5,if_pos rfl,bQ];rw[f]
 .obtain⟨_,_,rfl,w,d⟩:=cq.mp d
  obtain⟨_,_,rfl,L,d⟩:=cq.mp d;obtain rfl:=eu.mp d;obtain⟨j,rfl⟩:=c9.mp w;obtain⟨k,rfl⟩:=c9.mp L;rw[h (some (M,j,b,k)) rfl ?_];rw[p5,if_neg<|dl _ _,bf];rw[(congrArg Fk<|kr rs<|.ref e).symm▸f.push (PU s)]
def arf(X:3<=am.length)(i:am.length<=100)(S:rest.length=8)(ac:∀q∈(a7,hi,some m)::rest,gn q)(c0:rY a6){au rs es:!af}(I:F p (aa #[au] a8))(t:aM F (am.map gp) au)(bb:F r (aa #[rs] nr))(z:aM F (((a7,hi,some m)::rest).map d6) rs)(b0:F e (aa #[es] ne))(ca:aM F (a6.map .str) es):ay x aj 500 (.call (.ref 886) #[[.ref p,.ref r,.ref e],[]]) F [] (QS<|pU am ((a7,hi,some m)::rest) a6):=by
 rw[aJ (Ez t) λl H P=>?_];subst H;subst P;rw[aU]at X i;have L:l≠[]:=λU=>by rw[U]at X;cases X
 rw[ay.post (Q:=QT<|pU (l.map (·.1)) ((a7,hi,some m)::rest) a6) ?_ λr T h _ q=>(by rw[q.casesOn @λD h=>ki [] h (.refl _) #[D]])]
 have A:=λk E c2=>arP k E p r e a8 (l.map aO) x c2;rw[(D6 (by rw[aU,];rw[X])).trans (sj ..).symm]at A;have ck:((l.take 3).map λp=>fx p.1)=((l.map (·.1)).take 3).map fx:=by rw[<-sj,bI];rfl
 refine fv (O:=[(p,aa #[l.map aO] a8)]) #[I,ab] λB K=>bP (Lc:=[(B+7,ba (B+6) 0),(B+8,aa #[[]] 0),(B+9,ak [] 0)]) (A B K) ab #[f_ (by rw[aU,];rw[aki i]),ab] (.refl _) ((V3 (bc<|.head _) (λU=>by have:=congrArg gT U;rw[sb,sy X]at this;cases this) (by rw[sb,];lia)).le ζ λ_ _ _ _ U=>U) λres c c5 u q=>?_;rw[q.casesOn λy b c3 g d=>?_];have W:=bO u;have M:Ws c (B+8) (((l.map (·.1)).take 3).map fx):=by
  simp only[ck]at g;rw[#[λa o=>?_,?_]]
  .rw[aJ (bn.mp o) λn _ P=>?_]
   subst P;rw[ast n]
  .have ch:c3.length=3:=by have:=congrArg gT g;simp at this;lia
   rw[Bt (H5 ch) λbl bo bs bt=>?_];subst bt;rw[Jw bl.1 bo.1 bs.1 bl.2 bo.2 bs.2 b g.symm d]
 rw[#[_,[],sk,_,_,[(r,aa #[rs] nr)],#[W _ _ bb,ab],λJ G=>bP (Z:=[(B+1,cF),(B+3,cF),(B+4,cF)]) (arQ B K J G y.1 p r e nr rs y.2 x) ab ab (.refl _) ((Zy (w:=gH p r e B K J G) (an _ _<|W _ _ bb) (z.to λa Y U=>an a Y<|W a Y U) ac (M.to an)<|akj S).le ζ λ_ _ _ _ U=>U) λres c4 da c1 q=>?_]];rw[q.casesOn λD C j s f=>?_];have R:=dR (cb W) c1;rw[alH L (akl X) i ac c0 R (R _ _ I) (R _ _ b0) (ca.to R) (by have:=f.length;simp only[aU,dN]at this;rw[akk S this]) f]
end
def mx:!N->N
 |[]=>0
 |a::l=>zU a<|mx l
def yl:∀{l a},a∈l->a<=mx l
 |b::l,a,U=>by
  rcases aY.mp U with rfl|U
  .rw[Nat.le_max_left _ _]
  .rw[bT (yl U)<|Nat.le_max_right _ _]
def ym:∀{l},(∀a∈l,a<=m)->mx l<=m:=by
 intro J;induction J with
 |nil=>intro _;rw[dm _]
 |cons b l C=>intro U;rw[Nat.max_le.mpr #[U b<|.head _,C λa q=>U a<|.tail _ q]]
def al3(hi:i<l.length)(h:∀j,j<l.length->l.getD j 0<=l.getD i 0):l.getD i 0=mx l:=by
 rw[Gf ?_ ?_]
 .rw[ic,eH hi]
  rw[yl<|nh hi]
 .rw[ym λa o=>?_]
  obtain⟨j,B,rfl⟩:=FY.mp o;have:=h j B;rw[ic,eH B]at this;rw[this]
def G2(L:l≠[]):∃i,argBest (λi j=>decide<|ad (l.getD i 0)>ad (l.getD j 0)) (l.length-1)=i/\i<l.length/\l.getD i 0=mx l:=by have a:=ni.mpr L;obtain⟨b,M⟩:=argBest_gt (λi=>ad<|l.getD i 0)<|l.length-1;rw[eo _ rfl (MG a b)<|al3 (MG a b) λj B=>(m8.mp<|M j<|ai4 a B)]
section
variable{x:Wd} {F:Fs} {L X:ao} {A:dX} {D s:aN} {R:aL->Fs->ao->Prop}
def amq{l:!(N×N)}(i):numAt (l.map λp=>(ad p.1,p.2)).toArray i=ad ((l.map (·.1)).getD i 0):=by
 simp only[numAt_eq];simp only[bI,ic,ic,fj,fj]
 cases l[i]? <;>rfl
def Yj(L:l≠[])(J:A.handled=.none)(T:bg x F X D s)(I:F p (aa #[l.map aO] n))(f:∀t,R (.ok<|.ret<|.int (ad<|mx<|l.map (·.1)) t) F []):fi (aE pw x.W) A (.call (.builtin "max") ⟨[.ref p],[]⟩) (λr P=>∃F' L',Le F F'/\bg x F' (L'++X) D P/\R r F' L') s:=by
 have g:s.heap.IsList p (vh (l.map λp=>(ad p.1,p.2)).toArray):=eo _ (T.rep.fr _ _ I) rfl #[n,by simp only[aa,vh];congr 1;rw[h_<|by simp[aO]]]
 have d:=ni.mpr L;rw[gN (lA (E:=λ_ _=>False) (Q:=λv P=>∃S K t,(∀b Y,s.heap.get? b=some Y->S.get? b=some Y)/\P={s with heap:=S,toks:=K}/\v=.int (ad<|mx<|l.map (·.1)) t)<|max_intList J g (by simpa using d) λv S K a c=>?_) λr P U=>?_]
 .obtain⟨i,m,G,H⟩:=G2 (l:=l.map (·.1)) (by simpa using L)
  simp only[amq]at a;rw[aU]at m G;simp only[show(l.map λp=>(ad p.1,p.2)).toArray.size-1=l.length-1 by simp,m]at a;rw[H▸(gE S K ((l[i]).2) c rfl ?_)];have e:(vh (l.map λp=>(ad p.1,p.2)).toArray)[i]? =some (.int (ad (l[i]).1) (l[i]).2):=by simp[vh,G]
  rw[e]at a;cases a;simp only[ic,fj,eH G];rfl
 .split at U
  .rw[gX U λS K t c h C=>?_]
   subst h;subst C;rw[bY F [] aV (T.kept c)<|f _]
  .rw[U.elim]
  .rw[U.elim]
def Be{h:iz}(t:h.get? d=some (ak (aB x.P es) n))(nd:(es.map (·.1)).Nodup):h.DictAt (rR pw x.W) d (es.map λe=>((#[#[e.1]]:aA),e.2.2)) n:=by
 rw[aa6 _ #[aB x.P es] t #[rfl,rfl,rfl] rfl ?_ ?_ ?_]
 .intro e c
  obtain⟨q,_,rfl⟩:=bn.mp (by simpa[aB]using c:e∈es.map λe=>V x.P #[#[e.1]] e.2.1 e.2.2);rw[bA #[#[q.1]] vi rfl]
 .show Pairs (rR pw x.W) (aB x.P es) _
  clear t nd;induction es with
  |nil=>rw[.nil]
  |cons e es C=>rw[Pairs.cons vi rfl C]
 .rw[bI,]
  have:(es.map ((λp=>p.1)∘λe:De=>(#[#[e.1]],e.2.2)))=(es.map (·.1)).map λj=>(#[#[j]]:aA):=by rw[bI,];rfl
  rw[this,];rw[List.Pairwise.map _ (λa b h e=>h (by cases e;rfl)) nd]
def Yk{l:!(!N×N×(N×N))}(L:l≠[])(J:A.handled=.none)(T:bg x F X D s)(hv:F v #[.type "dict_values",none,.fields #[[.ref d]],#[[]]])(h:F d (ak (aB x.P<|l.map λe=>(e.1,e.2.1,aO e.2.2)) n))(nd:(l.map (·.1)).Nodup)(f:∀t,R (.ok<|.ret<|.int (ad<|mx<|l.map λe=>e.2.2.1) t) F []):fi (aE pw x.W) A (.call (.builtin "max") #[[.ref v],[]]) (λr P=>∃F' L',Le F F'/\bg x F' (L'++X) D P/\R r F' L') s:=by
 have H:=Be (T.rep.fr _ _ h) (by simp only[bI];rw[nd]);have g:=T.rep.fr _ _ hv;rw[gN (lA (E:=λ_ _=>False) (Q:=λr P=>∃S K t,(∀b Y,s.heap.get? b=some Y->S.get? b=some Y)/\P={s with heap:=S,toks:=K}/\r=.int (ad<|mx<|l.map λe=>e.2.2.1) t)<|call_max_walk<|wpAny_pyIter_values (eo _ g rfl rfl) H ?_) λr P U=>?_]
 .have O:=ll<|iJ<|T.rep.fr _ _ h
  rw[abb s.heap.objs.size _ _ _ _ _ _ rfl (Walks.dictValues (A:=A.in1) J s.heap.objs.size d O _ n) #[eo _ (r5 _ rfl) rfl rfl,H.push _] ?_ (by simpa using(ni.mpr L)) (CmpOf.ints_gt (λi=>ad<|(l.map λe=>e.2.2.1).getD i 0) λi v y=>dq y λo e=>?_) λv S K #[o,e] c=>?_]
  .intro b j
   simp only[zD];have:=iJ<|T.rep.fr _ _ h;simp only[aY,cQ,or_false]at j;rcases j with rfl|rfl
   .rw[zS _]
   .rw[zR this]
  .simp only[fj,fj,Option.map_map]at e
   cases C:l[i]?with
   |none=>rw[C]at e;cases e
   |some q=>rw[C]at e;cases e;rw[#[q.2.2.2,?_]];simp only[ic,fj,C];rfl
  .obtain⟨i,m,G,k⟩:=G2 (l:=l.map λe=>e.2.2.1) (by simpa using L)
   rw[aU]at m G;simp only[show(qr (λe:De=>((#[#[e.1]]:aA),e.2.2))<|l.map λe=>(e.1,e.2.1,aO e.2.2)).length-1=l.length-1 by simp,m]at e;simp only[fj,fj,eH G]at e;cases e;simp only[<-k,ic,fj,eH G];rw[gE S K ((l[i]).2.2.2) (λb Y j=>(c b Y (λa=>?_)<|k_ _ j)) rfl rfl];have:=iJ j;rcases aY.mp a with rfl|a
   .rw[nA _ this]
   .cases a
 .split at U
  .rw[gX U λS K t c p u=>?_]
   subst p;subst u;rw[bY F [] aV (T.kept c)<|f _]
  .rw[U.elim]
  .rw[U.elim]
end
abbrev b5:=List<|List N×!(!N)
abbrev fQ:=List<|List N×N
def cU:N×N×Option N->!N×!(!N)
 |(R,m,none)=>(nm R m,[])
 |(R,m,some E)=>(nm R m,[nm E m,nm R E])
def gV(w:b5)(a b:!N):b5:=w.map λp=>if p.1=a then(p.1,p.2++[b])else p
def cZ(d:c6)(S:!(!N)):b5:=match S with
 |[a,b]=>gV (d.map cU) a b
 |_=>d.map cU
def rQ(w:b5)(s:fQ):fQ:=w.map λp=>(p.1,mx (0::p.2.map λY=>(aZ s Y).getD 0+1))
def bZ(w:b5):N->fQ
 |0=>w.map λp=>(p.1,0)
 |n+1=>rQ w<|bZ w n
def hK(am:!N)(R hi:N):N:=((am.take 3).map λn=>n%16^5/16^R%16^(hi-R)).sum
def gM(am:!N)(R hi:N):!(!N×N):=[0,1,2].map λa=>((d_<|16^(hi-R)+(hK am R hi+a)%16^(hi-R)).drop 1,(hK am R hi+a)/16^(hi-R))
def dy(am:!N)(s:fQ)(d:c6):!(!N×!(!N×N)):=d.flatMap λr=>if(aZ s<|nm r.1 r.2.1).getD 0<9 then[(nm r.1 r.2.1,gM am r.1 r.2.1)]else[]
def lu(am:!N):N:=((am.take 3).map λn=>n%16^5).sum
section
abbrev aC(v:Option af):Obj:=#[.type "cell",none,.cell v,#[[]]]
abbrev eT(d:N)(i z l:Int):Obj:=#[.type "dict_keyiterator",none,.fields #[[.ref d,.int i 0,.int z 0,.int l 0]],#[[]]]
abbrev gy(z k it ac H:N):bj:=jd lr k (.ref it) (.ref ac)<|fR lr k (xv z) H
abbrev cc(z k it ac H:N):bj:=fT lr k (.ref it) (.ref ac)<|fR lr k (xv z) H
abbrev HM(z H:N):aX:=fR lr 4 (xv z) H
abbrev EA(z H it ac a:N):bj:=jd lr 5 (.ref it) (.ref ac)<|fR lr 5 (HM z H) a
abbrev oz(z H it ac a:N):bj:=fT lr 5 (.ref it) (.ref ac)<|fR lr 5 (HM z H) a
abbrev d4(z k it:N):bj:=bM lr k (.ref it)<|xv z
structure gD where
 z:N
 p:N
 r:N
 e:N
 f0:N
 f1:N
 f2:N
structure iM where
 f3:N
 f4:N
 v3:af
 v4:af
abbrev sY(x:Wd)(w:gD)(a:!bv):!bv:=V x.P cW w.f0 (.ref w.p)::V x.P cY w.f1 (.ref w.r)::V x.P fq w.f2 (.ref w.e)::a
abbrev gY(x:Wd)(w:gD)(t:iM)(a:!bv):!bv:=sY x w (V x.P dh t.f3 t.v3::V x.P di t.f4 t.v4::a)
abbrev xH(x:Wd)(w:gD):aH×Obj:=(w.z,az (sY x w []) 3)
abbrev gh(x:Wd)(w:gD)(t:iM):aH×Obj:=(w.z,az (gY x w t []) 5)
abbrev Ig(x:Wd)(w:gD)(q:Option iM):aH×Obj:=q.rec (xH x w)<|gh x w
abbrev aqS(q:Option iM)(a b:N)(v3 v4:af):iM:=q.rec #[a,b,v3,v4] λD=>#[D.f3,D.f4,v3,v4]
abbrev dP(x:Wd)(H:N):Option (N×af)->aH×Obj
 |none=>(H,ak [] 0)
 |some p=>(H,ak [V x.P d7 p.1 p.2] 1)
variable(P:PP)
variable(w:gD) (t:iM) (p r e nr sz tk z f0 f1 f2 K it k a y ca ch a7 hi d0 d1 d2 m ea eb ec tf ed D a6 ef J c1 da nw b0 t4 f3 f4 ne c0 dt d3 du ac bb na kt bt ns n f5:N) (rs ws U:!af) (vo c2:Option af) (dx dV a8 dd ds c3:!N) (G bs:!bv) (v3 v4 ck v5:af) (bo z0 bl:Int) (x:Wd) (Y db eg eh:ao)
def NB:av:=ex x aj 600 (.fn 908 #[[.ref p,.ref r,.ref e],[]])<|cf [] sz tk (H 0x5d21225445c30) [] [(r,aa #[rs] nr)] Y
def CK(x:Wd)(sz:N):Ko:=(NB 0 0 0 0 sz 0 [] x []).resume
def Hy:∀(x:Wd) Y,Ev (NB p r e nr sz tk rs x Y) Y [7,0,2,6,3,4,5,1] (.pend 597 aj (d4 sz 1<|sz+7)<|CK x sz) ([((sz+7),ba r 0),(sz,az [V x.P cW tk<|.ref p,V x.P cY (tk+1)<|.ref r,V x.P fq (tk+2)<|.ref e] 3),((sz+2),aC none),((sz+6),ak [] 0)]++[((sz+3),aC none),((sz+4),aC none),((sz+5),aC none)]) [((sz+1),aC<|some<|.ref<|sz+6)] [] []:=cS
section
variable{P w t p r e nr sz tk z f0 f1 f2 K it k a y ca ch a7 hi d0 d1 d2 m ea eb ec tf ed D a6 ef J c1 da nw b0 t4 f3 f4 ne c0 dt d3 du ac bb na kt bt ns n f5 rs ws U vo c2 dx dV a8 dd ds c3 G bs v3 v4 ck v5 bo z0 bl}
def Wj:∀d (x:Wd) Y,Ev (fG P 0 [ph (pS dx) [0,1,2,6,7,8] (H 0x51a6088c99850ad099850ad099850ad099a0666b66161677771) [],ph (pS dV) [0,1,2,3,4,5] (H 0x51541860888888d66b66161677771) [],#[pS a8,[0,1,2,4],[],[],1,1,H 0x7671f077,[]]] [(D,a6,ed),(J,c1,ef),(b0,t4,da)]<|ex x aj 590 (.code<|d4 w.z 1 it)<|cf [Ig x w d,(w.z+2,aC vo),(it,ba w.r k)] sz tk (bif x.b2 then(H 0xdf09d0)else(H 0xdf0991999d0)) [.ref a] [(w.r,aa #[rs] nr),(a,aD [iN a7 ca,iN hi ch,.ref y]),(y,aa #[[.ref d1,.ref d2]] d0),(d1,aD [iN m ea,iN hi eb]),(d2,aD [iN a7 ec,iN m tf]),(w.z+1,aC<|some<|.ref K)] ((K,ak G nw)::Y)) Y [0,1,2,4,3] (.next<|d4 w.z 1 it) [gh x w<|aqS d tk (tk+1) (iN hi ch)<|.ref y,((w.z+2),aC<|some<|iN a7 ca),(it,ba w.r<|k+1),(K,ak (G++[V x.P #[#[a8]] da<|.ref<|sz+4])<|nw+1),((sz+4),aa #[[ah dx ed,ah dV ef]] 2)] [] [] [j4 (aI "dict") G #[#[a8]],P 589 aj (.call (.ref 860) #[[iN a7 ca,iN hi ch],[]]) []<|pS a8,P 588 aj (.call (.ref 860) #[[iN a7 ec,iN m tf],[]]) []<|pS dV,P 588 aj (.call (.ref 860) #[[iN m ea,iN hi eb],[]]) []<|pS dx,df #[rs] (ad k)<|aF a]:=gf
def Wm:∀(x:Wd) Y,Ev (fG P 0 [#[pS a8,[0,1,2,7],[],[],1,1,H 0x7671f077,[]]] [(b0,t4,da)]<|ex x aj 590 (.code<|d4 w.z 1 it)<|cf [(w.z,az (gY x w t []) 5),(w.z+2,aC vo),(it,ba w.r k)] sz tk (bif x.b2 then(H 0x51541ecc0c099b9919199d0)else(H 0x51541ecc0c099b99191ad099d0)) [.ref a] [(w.r,aa #[rs] nr),(a,aD [iN a7 ca,iN hi ch,.ref y]),(y,aa #[[]] d0),(w.z+1,aC<|some<|.ref K)] ((K,ak G nw)::Y)) Y [0,1,2,4,3] (.next<|d4 w.z 1 it) [gh x w #[t.f3,t.f4,iN hi ch,.ref y],((w.z+2),aC<|some<|iN a7 ca),(it,ba w.r<|k+1),(K,ak (G++[V x.P #[#[a8]] da<|.ref<|sz+4])<|nw+1),((sz+4),aa #[[]] 0)] [] [] [j4 (aI "dict") G #[#[a8]],P 589 aj (.call (.ref 860) #[[iN a7 ca,iN hi ch],[]]) []<|pS a8,df #[rs] (ad k)<|aF a]:=bB
def WK:∀d (x:Wd) Y,Ev (ex x aj 590 (.code<|cc z 1 it ac bb)<|cf [(it,eT K bo z0 bl),(ac,aa #[U] na),dP x bb d] sz tk (H 0x5483339c0) [ah c3 kt] [(K,ak G nw)] Y) Y [0,1,2,3] (.next<|cc z 1 it ac bb) [(it,#[.type "dict_keyiterator",none,.fields #[[.ref K,.int (bo+1) 0,.int (z0) 0,.int (bl) 0]],#[[]]]),(ac,aa ((ar U).push<|aF sz)<|na+1),dP x bb<|some (fF d tk,ah c3 kt)] [(sz,aD [ah c3 kt,.int (0)<|tk+1])] [] [cm #[U],gU true (aI "dict_keyiterator") (aI "dict") G nw bo z0 bl<|ah c3 kt]:=gf
end
def Xg:Ev (ex x aj 590 (.code<|d4 z 1 it)<|cf [(it,ba r k)] sz tk (H 0xa70) [] [(r,aa #[rs] nr)] Y) Y [] (.res<|.ok .next) [] [] [] [ig #[rs]<|ad k]:=by lk
def DC:av:=CK x sz (.ok .next)<|cf [(sz,az [V x.P cW tk<|.ref p,V x.P cY (tk+1)<|.ref r,V x.P fq (tk+2)<|.ref e,V x.P dh f3 v3,V x.P di f4 v4] 5)] D a6 (H 0x53bbbb1bba11125) [] [(e,aa #[[]] ne),(sz+1,aC<|some<|.ref<|sz+6),(sz+6,ak G nw)] db
def CL(x:Wd)(sz:N)(J:N):Ko:=(DC 0 0 0 sz 0 J 0 0 0 0 0 [] .none .none x []).resume
def Wo:∀(x:Wd) c,Ev (DC p r e sz tk D a6 nw f3 f4 ne G v3 v4 x c) c [2,3,4,0] (.pend 597 aj (gy sz 1 (D+1) (D+2)<|D+3)<|CL x sz D) ([((D+1),eT (sz+6) 0 (G.length:Int)<|ad nw),((D+2),aa #[[]] 0),((D+3),ak [] 0)]++[(sz,az [V x.P cW tk<|.ref p,V x.P cY (tk+1)<|.ref r,V x.P fq (tk+2)<|.ref e,V x.P dh f3 v3,V x.P di f4 v4] 5)]) [] [] []:=bB
def NC:av:=CK x sz (.ok .next)<|cf [(sz,az [V x.P cW tk<|.ref p,V x.P cY (tk+1)<|.ref r,V x.P fq (tk+2)<|.ref e,V x.P dh f3 v3,V x.P di f4 v4] 5),(c0,aa #[ws] dt)] D a6 (H 0x56bbbb1bba115482212225a90ab1c0bbb2212225a125) [.ref c0] [(e,aa #[[ah dd d3,ah ds du]] ne),(sz+1,aC<|some<|.ref<|sz+6),(sz+6,ak G nw)] db
def Wp:∀(x:Wd) c,Ev (NC p r e sz tk D a6 nw f3 f4 ne c0 dt d3 du ws dd ds G v3 v4 x c) c [3,4,5,0,1] (.pend 597 aj (gy sz 1 (D+1) (D+2)<|D+3)<|CL x sz D) ([((D+1),eT (sz+6) 0 (G.length:Int)<|ad nw),((D+2),aa #[[]] 0),((D+3),ak [] 0)]++[(sz,az [V x.P cW tk<|.ref p,V x.P cY (tk+1)<|.ref r,V x.P fq (tk+2)<|.ref e,V x.P dh f3 v3,V x.P di f4 v4] 5)]) [(c0,aa ((ar ws).push<|ah ds du)<|dt+1)] [] [cm #[ws],cR (aI "dict") G #[#[dd]]<|aF c0]:=bB
def WJ:∀(x:Wd) Y,Ev (ex x aj 590 (.code<|gy z 1 it ac bb)<|cf [(it,eT K bo z0 bl)] sz tk (bif x.b2 then[]else(H 0xb50)) [] [] Y) Y [0] (.next<|cc z 1 it ac bb) [(it,eT K bo z0 bl)] [] [] []:=bB
def WI:Ev (ex x aj 590 (.code<|cc z 1 it ac bb)<|cf [(it,eT K bo z0 bl)] sz tk (H 0x8c0) [] [(K,ak G nw)] Y) Y [] (.res<|.ok .next) [] [] [] [qF true (aI "dict_keyiterator") (aI "dict") G nw bo z0 bl]:=by lk
def DD:av:=CL x sz D (.ok .next)<|cf [(sz,az [V x.P cW tk<|.ref p,V x.P cY (tk+1)<|.ref r,V x.P fq (tk+2)<|.ref e,V x.P dh f3 v3,V x.P di f4 v4] 5),((D+2),aa #[U] na),((D+3),ak [V x.P d7 bt ck] 1)] J c1 (H 0xd30) [] [] eg
def Kn(x:Wd)(sz:N)(J:N)(D:N):Ko:=(DD 0 0 0 sz 0 J D 0 0 0 0 0 [] .none .none .none x []).resume
def Wq:∀(x:Wd) f,Ev (DD p r e sz tk D J c1 f3 f4 na bt U v3 v4 ck x f) f [6,3,0,1] (.pend 593 aj (.builtin "dict.update.loop" #[[.ref J,.ref<|J+3,.int 0 0,.none],[]])<|Kn x sz D J) ([((J+3),c7 (D+2) 0),(J,ak [] 0)]++[(sz,az [V x.P cW tk<|.ref p,V x.P cY (tk+1)<|.ref r,V x.P fq (tk+2)<|.ref e,V x.P dh f3 v3,V x.P di f4 v4] 5)]) [((D+2),aa #[U] na)] [] []:=bB
def DE:av:=Kn x sz D J (.ok<|.ret .none)<|cf [(sz,az [V x.P cW tk<|.ref p,V x.P cY (tk+1)<|.ref r,V x.P fq (tk+2)<|.ref e,V x.P dh f3 v3,V x.P di f4 v4] 5),((sz+3),aC c2),(J,ak bs ns)] b0 t4 (H 0x57aa01aa016611144) [] [] eh
def Kq(x:Wd)(sz:N):Ko:=(DE 0 0 0 sz 0 0 0 0 0 0 0 0 none [] .none .none x []).resume
def Wr:∀(x:Wd) y,Ev (DE p r e sz tk D J b0 t4 f3 f4 ns c2 bs v3 v4 x y) y [0,4,1,2] (.pend 597 aj (d4 sz 6<|b0+1)<|Kq x sz) [(sz,az [V x.P cW tk<|.ref p,V x.P cY (tk+1)<|.ref r,V x.P fq (tk+2)<|.ref e,V x.P dh f3 v3,V x.P di f4 v4] 5),((b0+1),cH 0 9),((sz+3),aC<|some<|.ref J)] [(J,ak bs ns)] [] []:=bB
def NI:av:=ex x aj 590 (.code<|d4 w.z 6 it)<|cf [(w.z,az (gY x w t []) 5),(it,cH k<|n+1)] sz tk (H 0x980) [] [(w.z+1,aC<|some<|.ref<|w.z+6),(w.z+6,ak G nw)] Y
def Ky(x:Wd)(z:N)(it:N)(sz:N):Ko:=(NI #[z,0,0,0,0,0,0] #[0,0,.none,.none] sz 0 it 0 0 0 [] x []).resume
def Xc:∀(x:Wd) Y,Ev (NI w t sz tk it k nw n G x Y) Y [2,3,4,0,1] (.pend 589 aj (gy w.z 2 sz (sz+1)<|sz+2)<|Ky x w.z it sz) ([(sz,eT (w.z+6) 0 (G.length:Int)<|ad nw),((sz+1),aa #[[]] 0),((sz+2),ak [] 0)]++[(w.z,az (gY x w t [V x.P ez (tk+1)<|iN k tk]) 6),(it,eE k n)]) [] [] []:=bB
def NK:av:=Ky x w.z it sz (.ok .next)<|cf [(w.z,az (gY x w t [V x.P ez (tk+1)<|iN k tk]) 6),(it,eE k n),((sz+1),aa #[U] na),((sz+2),ak [V x.P d7 bt ck] 1)] D a6 (H 0xab0) [] [] db
def KA(x:Wd)(z:N)(it:N)(sz:N)(J:N):Ko:=(NK #[z,0,0,0,0,0,0] #[0,0,.none,.none] sz 0 it 0 J 0 0 0 0 [] .none x []).resume
def Xe:∀(x:Wd) c,Ev (NK w t sz tk it k D a6 na bt n U ck x c) c [7,4,0,1,2] (.pend 585 aj (.builtin "dict.update.loop" #[[.ref D,.ref<|D+3,.int 0 0,.none],[]])<|KA x w.z it sz D) ([((D+3),c7 (sz+1) 0),(D,ak [] 0)]++[(w.z,az (gY x w t [V x.P ez (tk+1)<|iN k tk]) 6),(it,eE k n)]) [((sz+1),aa #[U] na)] [] []:=bB
def Xa:∀(x:Wd) f,Ev (KA x w.z it sz D (.ok<|.ret .none)<|cf [(w.z,az (gY x w t [V x.P ez (tk+1)<|iN k tk]) 6),(it,eE k n),((w.z+3),aC c2),(D,ak bs ns)] J c1 [3,3] [] [] f) f [0,1,2,3] (.next<|d4 w.z 6 it) [(w.z,az (gY x w t [V x.P ez (tk+1)<|iN k tk]) 6),(it,eE k n),((w.z+3),aC<|some<|.ref D)] [(D,ak bs ns)] [] []:=bB
def NJ:av:=ex x aj 590 (.code<|d4 w.z 6 it)<|cf [(w.z,az (gY x w t [V x.P ez f5 v5]) 6),(it,cH k<|n+1)] sz tk (H 0x980) [] [(w.z+1,aC<|some<|.ref<|w.z+6),(w.z+6,ak G nw)] Y
def Kz(x:Wd)(z:N)(it:N)(sz:N):Ko:=(NJ #[z,0,0,0,0,0,0] #[0,0,.none,.none] sz 0 it 0 0 0 0 [] .none x []).resume
def Xd:∀(x:Wd) Y,Ev (NJ w t sz tk it k nw n f5 G v5 x Y) Y [2,3,4,0,1] (.pend 589 aj (gy w.z 2 sz (sz+1)<|sz+2)<|Kz x w.z it sz) ([(sz,eT (w.z+6) 0 (G.length:Int)<|ad nw),((sz+1),aa #[[]] 0),((sz+2),ak [] 0)]++[(w.z,az (gY x w t [V x.P ez f5<|iN k tk]) 6),(it,eE k n)]) [] [] []:=bB
def NL:av:=Kz x w.z it sz (.ok .next)<|cf [(w.z,az (gY x w t [V x.P ez f5<|iN k tk]) 6),(it,eE k n),((sz+1),aa #[U] na),((sz+2),ak [V x.P d7 bt ck] 1)] D a6 (H 0xab0) [] [] db
def KB(x:Wd)(z:N)(it:N)(sz:N)(J:N):Ko:=(NL #[z,0,0,0,0,0,0] #[0,0,.none,.none] sz 0 it 0 J 0 0 0 0 0 [] .none x []).resume
def Xf:∀(x:Wd) c,Ev (NL w t sz tk it k D a6 na bt n f5 U ck x c) c [7,4,0,1,2] (.pend 585 aj (.builtin "dict.update.loop" #[[.ref D,.ref<|D+3,.int 0 0,.none],[]])<|KB x w.z it sz D) ([((D+3),c7 (sz+1) 0),(D,ak [] 0)]++[(w.z,az (gY x w t [V x.P ez f5<|iN k tk]) 6),(it,eE k n)]) [((sz+1),aa #[U] na)] [] []:=bB
def Xb:∀(x:Wd) f,Ev (KB x w.z it sz D (.ok<|.ret .none)<|cf [(w.z,az (gY x w t [V x.P ez f5<|iN k tk]) 6),(it,eE k n),((w.z+3),aC c2),(D,ak bs ns)] J c1 [3,3] [] [] f) f [0,1,2,3] (.next<|d4 w.z 6 it) [(w.z,az (gY x w t [V x.P ez f5<|iN k tk]) 6),(it,eE k n),((w.z+3),aC<|some<|.ref D)] [(D,ak bs ns)] [] []:=bB
def W_:Ev (ex x aj 590 (.code<|d4 z 6 it)<|cf [(it,cH k 0)] sz tk (H 0x3555515) [] [] Y) Y [] (.res<|.ok .next) [] [] [] []:=by lk
end
section
variable(P:PP)
variable(z it ac D sz tk nw sd ns bb nl kt a7 mt na a6 ck c0 a8 bt c3 bo ch da b0 c2 db:N) (J z0 G:Int) (K bl:!bv) (k bs ca c1:!N) (U:!af) (dd:af) (x:Wd) (Y ds:ao)
def WM:∀(x:Wd) Y,Ev (ex x aj 580 (.code<|gy z 2 it ac D)<|cf [(it,eT (z+6) J z0 G)] sz tk (bif x.b2 then[]else(H 0xb50)) [] [] Y) Y [0] (.next<|cc z 2 it ac D) [(it,eT (z+6) J z0 G)] [] [] []:=bB
def WL:Ev (ex x aj 580 (.code<|cc z 2 it ac D)<|cf [(it,eT (z+6) J z0 G)] sz tk (H 0x8c0) [] [(z+6,ak K nw)] Y) Y [] (.res<|.ok .next) [] [] [] [qF true (aI "dict_keyiterator") (aI "dict") K nw J z0 G]:=by lk
section
variable{P z it ac D sz tk nw sd ns bb nl kt a7 mt na a6 ck c0 a8 bt c3 bo ch da b0 c2 db J z0 G K bl k bs ca c1 U dd}
def Wt:∀d (x:Wd) Y,Ev (fG P 0 [#[pN a7,[0,1,2],[9],[],1,1,[6,4,3],[]]] [(a6,ck,mt)]<|ex x aj 580 (.code<|cc z 2 it ac D)<|cf [(it,eT (z+6) J z0 G),dP x D d,(z+3,aC<|some<|.ref sd)] sz tk (bif x.b2 then(H 0x57361a06869c910f30)else(H 0x57361a06869c91077177f30)) [ah k kt,.ref bb] [(z+6,ak K nw),(z+1,aC<|some<|.ref<|z+6),(sd,ak bl ns),(bb,aa #[[]] nl)] ((ac,aa #[U] na)::Y)) Y [0,1,2,3,4] (.next<|cc z 2 it ac D) [(it,eT (z+6) (J+1) z0 G),dP x D<|some (fF d tk,ah k kt),(z+3,aC<|some<|.ref sd),(ac,aa ((ar U).push<|aF a6)<|na+1)] [(a6,aD [ah k kt,iN a7 mt])] [] [cm #[U],P 579 aj (.call (.builtin "max") #[[.ref<|sz+6],[]]) [((sz+6),aa #[[.int 0<|tk+1]] 0)]<|pN a7,o6 (aI j8) (ar [ii 0<|tk+1])<|ar [],cR (aI "dict") K #[#[k]]<|aF bb,gU true (aI "dict_keyiterator") (aI "dict") K nw J z0 G<|ah k kt]:=gf
def Wu:∀d (x:Wd) Y,Ev (fG P 0 [#[pN a7,[0,1,2],[9],[],1,1,[6,4,3],[]]] [(a6,ck,mt)]<|ex x aj 580 (.code<|cc z 2 it ac D)<|cf [(it,eT (z+6) J z0 G),dP x D d,(z+3,aC<|some<|.ref sd)] sz tk (bif x.b2 then(H 0xe80f30)else(H 0xe8077177f30)) [ah k kt,.ref bb,iN a8 bt] [(z+6,ak K nw),(z+1,aC<|some<|.ref<|z+6),(sd,ak bl ns),(bb,aa #[[ah bs c0]] nl)] ((ac,aa #[U] na)::Y)) Y [0,1,2,3,4] (.next<|cc z 2 it ac D) [(it,eT (z+6) (J+1) z0 G),dP x D<|some (fF d tk,ah k kt),(z+3,aC<|some<|.ref sd),(ac,aa ((ar U).push<|aF a6)<|na+1)] [(a6,aD [ah k kt,iN a7 mt])] [] [cm #[U],P 579 aj (.call (.builtin "max") #[[.ref<|sz+6],[]]) [((sz+6),aa #[[.int 0<|tk+1,.int (ad a8+1)<|tk+6]] 0)]<|pN a7,o6 (aI j8) (ar [ii 0<|tk+1])<|ar [ii (ad a8+1)<|tk+6],cR (aI "dict") bl #[#[bs]]<|iN a8 bt,cR (aI "dict") K #[#[k]]<|aF bb,gU true (aI "dict_keyiterator") (aI "dict") K nw J z0 G<|ah k kt]:=gf
def Wv:∀d (x:Wd) Y,Ev (fG P 0 [#[pN a7,[0,1,2],[9],[],1,1,[6,4,3],[]]] [(a6,ck,mt)]<|ex x aj 580 (.code<|cc z 2 it ac D)<|cf [(it,eT (z+6) J z0 G),dP x D d,(z+3,aC<|some<|.ref sd)] sz tk (bif x.b2 then(H 0xe80f80f30)else(H 0xe80f8077177f30)) [ah k kt,.ref bb,iN a8 bt,iN bo ch] [(z+6,ak K nw),(z+1,aC<|some<|.ref<|z+6),(sd,ak bl ns),(bb,aa #[[ah bs c0,ah ca c3]] nl)] ((ac,aa #[U] na)::Y)) Y [0,1,2,3,4] (.next<|cc z 2 it ac D) [(it,eT (z+6) (J+1) z0 G),dP x D<|some (fF d tk,ah k kt),(z+3,aC<|some<|.ref sd),(ac,aa ((ar U).push<|aF a6)<|na+1)] [(a6,aD [ah k kt,iN a7 mt])] [] [cm #[U],P 579 aj (.call (.builtin "max") #[[.ref<|sz+6],[]]) [((sz+6),aa #[[.int 0<|tk+1,.int (ad a8+1)<|tk+6,.int (ad bo+1)<|tk+10]] 0)]<|pN a7,o6 (aI j8) (ar [ii 0<|tk+1])<|ar [ii (ad a8+1)<|tk+6,ii (ad bo+1)<|tk+10],cR (aI "dict") bl #[#[ca]]<|iN bo ch,cR (aI "dict") bl #[#[bs]]<|iN a8 bt,cR (aI "dict") K #[#[k]]<|aF bb,gU true (aI "dict_keyiterator") (aI "dict") K nw J z0 G<|ah k kt]:=gf
def Ww:∀d (x:Wd) Y,Ev (fG P 0 [#[pN a7,[0,1,2],[9],[],1,1,[6,4,3],[]]] [(a6,ck,mt)]<|ex x aj 580 (.code<|cc z 2 it ac D)<|cf [(it,eT (z+6) J z0 G),dP x D d,(z+3,aC<|some<|.ref sd)] sz tk (bif x.b2 then(H 0xe80f80f80f30)else(H 0xe80f80f8077177f30)) [ah k kt,.ref bb,iN a8 bt,iN bo ch,iN b0 c2] [(z+6,ak K nw),(z+1,aC<|some<|.ref<|z+6),(sd,ak bl ns),(bb,aa #[[ah bs c0,ah ca c3,ah c1 da]] nl)] ((ac,aa #[U] na)::Y)) Y [0,1,2,3,4] (.next<|cc z 2 it ac D) [(it,eT (z+6) (J+1) z0 G),dP x D<|some (fF d tk,ah k kt),(z+3,aC<|some<|.ref sd),(ac,aa ((ar U).push<|aF a6)<|na+1)] [(a6,aD [ah k kt,iN a7 mt])] [] [cm #[U],P 579 aj (.call (.builtin "max") #[[.ref<|sz+6],[]]) [((sz+6),aa #[[.int 0<|tk+1,.int (ad a8+1)<|tk+6,.int (ad bo+1)<|tk+10,.int (ad b0+1)<|tk+14]] 0)]<|pN a7,o6 (aI j8) (ar [ii 0<|tk+1])<|ar [ii (ad a8+1)<|tk+6,ii (ad bo+1)<|tk+10,ii (ad b0+1)<|tk+14],cR (aI "dict") bl #[#[c1]]<|iN b0 c2,cR (aI "dict") bl #[#[ca]]<|iN bo ch,cR (aI "dict") bl #[#[bs]]<|iN a8 bt,cR (aI "dict") K #[#[k]]<|aF bb,gU true (aI "dict_keyiterator") (aI "dict") K nw J z0 G<|ah k kt]:=gf
end
end
section
abbrev nS(x:Wd)(H:N):Option (N×af)->aH×Obj
 |none=>(H,ak [] 0)
 |some p=>(H,ak [V x.P bD p.1 p.2] 1)
variable(P:PP)
variable(w:gD) (t:iM) (p r e sz tk f3 f4 f6 G ea z it ac D n k nw na eN a8 dx q nb gg g1 b0 sd ns m mt ep c kt gs a6 K f0 f1 f2 f5 d0 cd a y c3 da bl hi nr g4 st db bb e9 J ti g2 g3 fa d1 fc fd bt fm e5 e8 t4 b1 eB e6 g7 eC e7 g8 eM a7 bs g5 nc bo fe ei go g9 eh fl ec e3 ha c0 gl ca hb gc e4 hg c2:N) (v3 v4 v6 f9 v5 dd ds hj g6 hh:af) (dt du ey d3:!bv) (vo c4 c5:Option af) (U dV g0 rs ps xs gb gu ws:!af) (ck z0 ch:Int) (c1 d2 e0 e1 e2 em:!N) (x1 ev ew:UInt8) (ed ef eg eb:!UInt8) (x:Wd) (ht Y hq hE hu hF hw hH hL hA hB hD:ao)
def DF:av:=Kq x sz (.ok .next)<|cf [(sz,az [V x.P cW tk<|.ref p,V x.P cY (tk+1)<|.ref r,V x.P fq (tk+2)<|.ref e,V x.P dh f3 v3,V x.P di f4 v4,V x.P ez f6 v6] 6)] G ea (H 0x53a901a90144111) [] [] ht
def Ks(x:Wd)(sz:N)(b:N):Ko:=(DF 0 0 0 sz 0 0 0 0 b 0 .none .none .none x []).resume
def WD:∀(x:Wd) h,Ev (DF p r e sz tk f3 f4 f6 G ea v3 v4 v6 x h) h [2,3,4,5,0] (.pend 597 aj (gy sz 4 (G+1) (G+2)<|G+3)<|Ks x sz G) ([((G+1),cH 0 9),((G+2),aa #[[]] 0),((G+3),ak [] 0),((G+4),aC none)]++[(sz,az [V x.P cW tk<|.ref p,V x.P cY (tk+1)<|.ref r,V x.P fq (tk+2)<|.ref e,V x.P dh f3 v3,V x.P di f4 v4,V x.P ez f6 v6] 6)]) [] [] []:=bB
def W5:∀(x:Wd) Y,Ev (ex x aj 590 (.code<|gy z 4 it ac D)<|cf [(it,cH 0 n)] sz tk (bif x.b2 then[]else(H 0xb50)) [] [] Y) Y [0] (.next<|cc z 4 it ac D) [(it,cH 0 n)] [] [] []:=bB
def NG:av:=ex x aj 590 (.code<|cc z 4 it ac D)<|cf [(it,cH k<|n+1),(D,ak [] 0),(D+1,aC vo)] sz tk (H 0x562222122a1133555c3015) [] [(z+6,ak dt nw),(z+1,aC<|some<|.ref<|z+6)] Y
def Kw(x:Wd)(z it ac H:N)(sz:N):Ko:=(NG sz 0 z it ac H 0 0 0 [] none x []).resume
def W6:∀(x:Wd) Y,Ev (NG sz tk z it ac D n k nw dt vo x Y) Y [3,4,5,2,0,1] (.pend 589 aj (EA z D sz (sz+1)<|sz+2)<|Kw x z it ac D sz) ([(sz,eT (z+6) 0 (dt.length:Int)<|ad nw),((sz+1),aa #[[]] 0),((sz+2),ak [] 0),((D+1),aC<|some<|iN k tk)]++[(it,eE k n),(D,ak [] 0)]) [] [] []:=bB
def NH:av:=Kw x z it ac D sz (.ok .next)<|cf [(it,eE k n),(D,ak [] 0),(sz+1,aa #[U] na),(sz+2,ak [V x.P d7 eN f9] 1)] a8 dx (H 0x5666) [] [] hq
def Kx(x:Wd)(z it ac H:N):Ko:=(NH 0 z it ac H 0 0 0 0 0 0 .none [] x []).resume
def W8:∀(x:Wd) c,Ev (NH sz z it ac D n k na eN a8 dx f9 U x c) c [0,1,2] (.pend 589 aj (.call (.builtin "sorted") #[[.ref<|sz+1],[]])<|Kx x z it ac D) [(it,eE k n),(D,ak [] 0)] [((sz+1),aa #[U] na)] [] []:=bB
def W9:∀(x:Wd) f,Ev (Kx x z it ac D (.ok<|.ret<|.ref q)<|cf [(it,eE k n),(ac,aa #[dV] nb),(D,ak [] 0)] gg g1 [6,2,1] [] [] f) f [0,1,2] (.next<|cc z 4 it ac D) [(it,eE k n),(ac,aa ((ar dV).push<|aF q)<|nb+1),(D,ak [] 0)] [] [] [cm #[dV]]:=bB
def WY:Ev (ex x aj 590 (.code<|cc z 4 it ac D)<|cf [(it,cH k 0)] sz tk (H 0x3555515) [] [] Y) Y [] (.res<|.ok .next) [] [] [] []:=by lk
def WP:∀(x:Wd) Y,Ev (ex x aj 580 (.code<|EA z D it ac b0)<|cf [(it,eT (z+6) ck z0 ch)] sz tk (bif x.b2 then[]else(H 0xb50)) [] [] Y) Y [0] (.next<|oz z D it ac b0) [(it,eT (z+6) ck z0 ch)] [] [] []:=bB
def WN:Ev (ex x aj 580 (.code<|oz z D it ac b0)<|cf [(it,eT (z+6) ck z0 ch)] sz tk (H 0x8c0) [] [(z+6,ak dt nw)] Y) Y [] (.res<|.ok .next) [] [] [] [qF true (aI "dict_keyiterator") (aI "dict") dt nw ck z0 ch]:=by lk
def DG:av:=Ks x sz G (.ok .next)<|cf [(sz,az [V x.P cW tk<|.ref p,V x.P cY (tk+1)<|.ref r,V x.P fq (tk+2)<|.ref e,V x.P dh f3 v3,V x.P di f4 v4,V x.P ez f6 v6] 6),(G+2,aa #[dV] nb)] a6 K (H 0x562122c30) [] [(r,aa #[g0] gs)] hu
def CM(x:Wd)(sz:N):Ko:=(DG 0 0 0 sz 0 0 0 0 0 0 0 0 0 .none .none .none [] [] x []).resume
def WE:∀(x:Wd) g,Ev (DG p r e sz tk f3 f4 f6 G nb gs a6 K v3 v4 v6 dV g0 x g) g [0,2,3,1] (.pend 597 aj (d4 sz 10<|a6+1)<|CM x sz) [(sz,az [V x.P cW tk<|.ref p,V x.P cY (tk+1)<|.ref r,V x.P fq (tk+2)<|.ref e,V x.P dh f3 v3,V x.P di f4 v4,V x.P ez f6 v6,V x.P cE K<|.ref<|G+2,V x.P cg (K+1)<|.ref a6] 8),(a6,ak [] 0),((a6+1),ba r 0)] [((G+2),aa #[dV] nb)] [] []:=bB
def ND(P:PP)(w:gD)(t:iM)(sz:N)(tk:N)(f6:N)(it:N)(k:N)(J:N)(G:N)(sd:N)(ns:N)(f5:N)(b:N)(cd:N)(a:N)(y:N)(f:N)(Z:N)(R:N)(hi:N)(nr:N)(A:N)(st:N)(d:N)(g:N)(s:N)(v6:af)(v5:af)(r:!bv)(vo:Option af)(c4:Option af)(rs:!af)(ps:!af)(c:!N)(x:Wd)(Y:ao):av:=fG P 0 [#[pS c,[0,1,2],[],[],1,1,H 0x5981886e850170850850850511664301454be1c0eee,[iN st d,iN g 0]]] [(J,G,A)]<|ex x aj 590 (.code<|d4 w.z 10 it)<|cf [(w.z,az (gY x w t [V x.P ez f5 v5,V x.P cE f6 v6,V x.P cg b<|.ref cd]) 8),(w.z+2,aC vo),(it,ba w.r k)] sz tk (H 0x51541bf50) [.ref a] [(w.r,aa #[rs] nr),(a,aD [iN R f,iN hi Z,.ref y]),(w.z+3,aC<|some<|.ref sd),(sd,ak r ns),(w.p,aa #[ps] s)] ((w.z+4,aC c4)::Y)
def Kr(x:Wd)(z:N)(it:N)(J:N):Ko:=(ND (λ_ _ _ _ _=>True) #[z,0,0,0,0,0,0] #[0,0,.none,.none] 0 0 0 it 0 J 0 0 0 0 0 0 0 0 0 0 0 0 0 0 0 0 0 0 .none .none [] none none [] [] [] x []).resume
section
variable{P w t p r e sz tk f3 f4 f6 G ea z it ac D n k nw na eN a8 dx q nb gg g1 b0 sd ns m mt ep c kt gs a6 K f0 f1 f2 f5 d0 cd a y c3 da bl hi nr g4 st db bb e9 J ti g2 g3 fa d1 fc fd bt fm e5 e8 t4 b1 eB e6 g7 eC e7 g8 eM a7 bs g5 nc bo fe ei go g9 eh fl ec e3 ha c0 gl ca hb gc e4 hg c2 v3 v4 v6 f9 v5 dd ds hj g6 hh dt du ey d3 vo c4 c5 U dV g0 rs ps xs gb gu ws ck z0 ch c1 d2 e0 e1 e2 em x1 ev ew ed ef eg eb}
def Wx:∀(x:Wd) Y,Ev (ND P w t sz tk f6 it k a8 dx sd ns f5 d0 cd a y c3 da bl hi nr g4 st db bb e9 v6 v5 du vo c4 rs ps d2 x Y) Y [6,7,8,1,3,0,2,5] (.pend 589 aj (gy w.z 6 (a8+2) (a8+3)<|a8+4)<|Kr x w.z it a8) ([((a8+2),ba (a8+1) 0),((a8+3),aa #[[]] 0),((a8+4),ak [] 0),((w.z+2),aC<|some<|iN bl c3),((w.z+4),aC<|some<|iN bb<|dx+4)]++[(w.z,az (sY x w [V x.P dh t.f3<|iN hi da,V x.P di t.f4<|.ref y,V x.P ez f5 v5,V x.P cE f6 v6,V x.P cg d0<|.ref cd]) 8),(it,ba w.r<|k+1)]) [((a8+1),aa #[(iU (ar ps) none (some 3) none).1] 0)] [((decide<|ad st<9),true)] [cm #[ps],Aa 16 (ad hi-ad bl)<|ad bb,cR (aI "dict") du #[#[d2]]<|iN st db,P 589 aj (.call (.ref 860) #[[iN bl c3,iN hi da],[]]) []<|pS d2,df #[rs] (ad k)<|aF a]:=bB
end
def WT:∀(x:Wd) Y,Ev (ex x aj 580 (.code<|gy z 6 it ac D)<|cf [(it,ba J 0)] sz tk (bif x.b2 then[]else(H 0xb50)) [] [] Y) Y [0] (.next<|cc z 6 it ac D) [(it,ba J 0)] [] [] []:=bB
def WW:∀(x:Wd) Y,Ev (ex x aj 580 (.code<|gy z 8 it ac D)<|cf [(it,ba J 0)] sz tk (bif x.b2 then[]else(H 0xb50)) [] [] Y) Y [0] (.next<|cc z 8 it ac D) [(it,ba J 0)] [] [] []:=bB
def WR:Ev (ex x aj 580 (.code<|cc z 6 it ac D)<|cf [(it,ba J k)] sz tk (H 0xa70) [] [(J,aa #[xs] ns)] Y) Y [] (.res<|.ok .next) [] [] [] [ig #[xs]<|ad k]:=by lk
def WV:Ev (ex x aj 580 (.code<|cc z 8 it ac D)<|cf [(it,ba J k)] sz tk (H 0xa70) [] [(J,aa #[xs] ns)] Y) Y [] (.res<|.ok .next) [] [] [] [ig #[xs]<|ad k]:=by lk
def WA:Ev (ex x aj 590 (.code<|d4 z 10 it)<|cf [(it,ba r k)] sz tk (H 0xa70) [] [(r,aa #[rs] nr)] Y) Y [] (.res<|.ok .next) [] [] [] [ig #[rs]<|ad k]:=by lk
def DH:av:=CM x sz (.ok .next)<|cf [(sz,az [V x.P cW tk<|.ref p,V x.P cY (tk+1)<|.ref r,V x.P fq (tk+2)<|.ref e,V x.P dh f3 dd,V x.P di f4 ds,V x.P ez f6 v6,V x.P cE K<|.ref<|G+2,V x.P cg (K+1)<|.ref a6] 8)] a7 bs (H 0x5631335ab170bbb511142a1c0aaa255) [iN st db] [(sz+3,aC<|some<|.ref sd),(sd,ak d3 ei),(p,aa #[ps] e9)] hw
def Kv(x:Wd)(sz:N)(M:N):Ko:=(DH 0 0 0 sz 0 0 0 0 0 0 0 0 0 0 0 M 0 0 .none .none .none [] [] x []).resume
def WH:∀(x:Wd) t,Ev (DH p r e sz tk f3 f4 f6 G sd a6 K st db e9 a7 bs ei v6 dd ds d3 ps x t) t [3,4,5,0,2] (.pend 597 aj (gy sz 8 (a7+2) (a7+3)<|a7+4)<|Kv x sz a7) ([((a7+2),ba (a7+1) 0),((a7+3),aa #[[]] 0),((a7+4),ak [] 0)]++[(sz,az [V x.P cW tk<|.ref p,V x.P cY (tk+1)<|.ref r,V x.P fq (tk+2)<|.ref e,V x.P dh f3 dd,V x.P di f4 ds,V x.P ez f6 v6,V x.P cE K<|.ref<|G+2,V x.P cg (K+1)<|.ref a6,V x.P kW bs .none] 9)]) [((a7+1),aa #[(iU (ar ps) none (some 3) none).1] 0)] [((decide<|ad st<9),true)] [cm #[ps],cR (aI "dict") d3 #[#[[70]]]<|iN st db]:=bB
def NF(P:PP)(p:N)(r:N)(e:N)(sz:N)(tk:N)(f3:N)(f4:N)(f6:N)(b:N)(sd:N)(mt:N)(X:N)(L:N)(s:N)(W:N)(M:N)(Q:N)(h:N)(f:N)(o:N)(q:N)(n:N)(O:N)(d:N)(K:N)(j:N)(u:N)(l:N)(a:N)(T:N)(z:N)(v6:af)(C:af)(k:af)(t:af)(c:!bv)(g:!af)(m:!af)(i:!UInt8)(x:Wd)(Y:ao):av:=fG P 0 [#[pN s,[0],[1],[],0,0,[0,0,1],[]],ph (pB i) [0] (H 0x52a290aaaa21155) [],#[pN l,[0],[1],[],0,0,H 0x54b1bb51,[]]] [(O,d,W),(j,u,K),(T,z,mt)]<|Kv x sz M (.ok .next)<|cf [(sz,az [V x.P cW tk<|.ref p,V x.P cY (tk+1)<|.ref r,V x.P fq (tk+2)<|.ref e,V x.P dh f3 C,V x.P di f4 k,V x.P ez f6 v6,V x.P cE L<|.ref<|b+2,V x.P cg (L+1)<|.ref X,V x.P kW Q .none] 9),(M+3,aa #[g] q),(M+4,ak [V x.P yV n t] 1)] h f (H 0x5333) [] [(sz+3,aC<|some<|.ref sd),(sd,ak c o),(b+2,aa #[m] a)] Y
def Ku(x:Wd)(sz:N)(l:N)(T:N):Ko:=(NF (λ_ _ _ _ _=>True) 0 0 0 sz 0 0 0 0 0 0 0 0 0 0 0 0 0 0 0 0 0 0 0 0 0 0 0 l 0 T 0 .none .none .none .none [] [] [] [] x []).resume
section
variable{P w t p r e sz tk f3 f4 f6 G ea z it ac D n k nw na eN a8 dx q nb gg g1 b0 sd ns m mt ep c kt gs a6 K f0 f1 f2 f5 d0 cd a y c3 da bl hi nr g4 st db bb e9 J ti g2 g3 fa d1 fc fd bt fm e5 e8 t4 b1 eB e6 g7 eC e7 g8 eM a7 bs g5 nc bo fe ei go g9 eh fl ec e3 ha c0 gl ca hb gc e4 hg c2 v3 v4 v6 f9 v5 dd ds hj g6 hh dt du ey d3 vo c4 c5 U dV g0 rs ps xs gb gu ws ck z0 ch c1 d2 e0 e1 e2 em x1 ev ew ed ef eg eb}
def WG:∀(x:Wd) Y,Ev (NF P p r e sz tk f3 f4 f6 G sd mt a6 K bt fm a7 bs bo fe ei go g9 eh fl ec e3 ha c0 gl ca hb v6 dd ds hj d3 gb gu eb x Y) Y [1,2,3,0] (.pend 597 aj (gy sz 9 ca (ca+1)<|ca+2)<|Ku x sz c0 ca) ([(ca,ba (G+2) 0),((ca+1),aa #[[]] 0),((ca+2),ak [] 0)]++[(sz,az [V x.P cW tk<|.ref p,V x.P cY (tk+1)<|.ref r,V x.P fq (tk+2)<|.ref e,V x.P dh f3 dd,V x.P di f4 ds,V x.P ez f6 v6,V x.P cE K<|.ref<|G+2,V x.P cg (K+1)<|.ref a6,V x.P kW bs<|.bytes #[eb] ec] 9)]) [] [] [P 597 aj (.call (.builtin "max") #[[.ref e3],[]]) [(e3,#[.type "dict_values",none,.fields #[[.ref sd]],#[[]]])]<|pN c0,qE (aI "dict") sd,P 597 aj (.call (.ref 46) #[[.int (-ad bt) fl],[]]) []<|pB eb,P 597 aj (.call (.builtin "sum") #[[.ref<|a7+3],[]]) [((a7+3),aa #[gb] go)]<|pN bt]:=bB
end
def Jo(p:N)(r:N)(e:N)(sz:N)(tk:N)(f3:N)(f4:N)(f6:N)(b:N)(sd:N)(X:N)(L:N)(st:N)(d:N)(M:N)(Q:N)(o:N)(a:N)(v6:af)(C:af)(k:af)(c:!bv)(m:!af)(x:Wd)(Y:ao):av:=CM x sz (.ok .next)<|cf [(sz,az [V x.P cW tk<|.ref p,V x.P cY (tk+1)<|.ref r,V x.P fq (tk+2)<|.ref e,V x.P dh f3 C,V x.P di f4 k,V x.P ez f6 v6,V x.P cE L<|.ref<|b+2,V x.P cg (L+1)<|.ref X] 8)] M Q (H 0x52a290aaaa21152a1c0aaa255) [iN st d] [(sz+3,aC<|some<|.ref sd),(sd,ak c o),(b+2,aa #[m] a)] Y
def NE(P:PP)(p:N)(r:N)(e:N)(sz:N)(tk:N)(f3:N)(f4:N)(f6:N)(b:N)(sd:N)(mt:N)(X:N)(L:N)(st:N)(d:N)(M:N)(Q:N)(h:N)(f:N)(o:N)(l:N)(a:N)(v6:af)(C:af)(k:af)(c:!bv)(m:!af)(x:Wd)(Y:ao):av:=fG P 0 [#[pN l,[0],[1],[],0,0,H 0x54b1bb51,[]]] [(h,f,mt)]<|Jo p r e sz tk f3 f4 f6 b sd X L st d M Q o a v6 C k c m x Y
def Kt(x:Wd)(sz:N)(l:N)(h:N):Ko:=(NE (λ_ _ _ _ _=>True) 0 0 0 sz 0 0 0 0 0 0 0 0 0 0 0 0 0 h 0 0 l 0 .none .none .none [] [] x []).resume
section
variable{P w t p r e sz tk f3 f4 f6 G ea z it ac D n k nw na eN a8 dx q nb gg g1 b0 sd ns m mt ep c kt gs a6 K f0 f1 f2 f5 d0 cd a y c3 da bl hi nr g4 st db bb e9 J ti g2 g3 fa d1 fc fd bt fm e5 e8 t4 b1 eB e6 g7 eC e7 g8 eM a7 bs g5 nc bo fe ei go g9 eh fl ec e3 ha c0 gl ca hb gc e4 hg c2 v3 v4 v6 f9 v5 dd ds hj g6 hh dt du ey d3 vo c4 c5 U dV g0 rs ps xs gb gu ws ck z0 ch c1 d2 e0 e1 e2 em x1 ev ew ed ef eg eb}
def WF:∀(x:Wd) Y,Ev (NE P p r e sz tk f3 f4 f6 G sd mt a6 K st db a7 bs bo fe ei c0 gl v6 dd ds d3 gu x Y) Y [1,2,3,0] (.pend 597 aj (gy sz 9 bo (bo+1)<|bo+2)<|Kt x sz c0 bo) ([(bo,ba (G+2) 0),((bo+1),aa #[[]] 0),((bo+2),ak [] 0)]++[(sz,az [V x.P cW tk<|.ref p,V x.P cY (tk+1)<|.ref r,V x.P fq (tk+2)<|.ref e,V x.P dh f3 dd,V x.P di f4 ds,V x.P ez f6 v6,V x.P cE K<|.ref<|G+2,V x.P cg (K+1)<|.ref a6,V x.P kW bs .none] 9)]) [] [((decide<|ad st<9),false)] [P 597 aj (.call (.builtin "max") #[[.ref a7],[]]) [(a7,#[.type "dict_values",none,.fields #[[.ref sd]],#[[]]])]<|pN c0,qE (aI "dict") sd,cR (aI "dict") d3 #[#[[70]]]<|iN st db]:=bB
end
def WC:∀(x:Wd) a,Ev (Ku x sz c0 ca (.ok .next)<|cf [(sz,az [V x.P cW tk<|.ref p,V x.P cY (tk+1)<|.ref r,V x.P fq (tk+2)<|.ref e,V x.P dh f3 dd,V x.P di f4 ds,V x.P ez f6 v6,V x.P cE K<|.ref<|G+2,V x.P cg (K+1)<|.ref a6,V x.P kW bs<|.bytes #[eb] ec] 9),(ca+2,ak [V x.P bD gc g6] 1)] e4 hg (H 0x55444) [] [] a) a [2] (.res<|.ok<|.ret<|.ref e4) [] [(e4,aa #[[.bool<|decide<|ad c0<9,.ref<|ca+1,.ref a6,.bytes (ar eb) ec]] 0)] [] []:=bB
def WB:∀(x:Wd) a,Ev (Kt x sz c0 bo (.ok .next)<|cf [(sz,az [V x.P cW tk<|.ref p,V x.P cY (tk+1)<|.ref r,V x.P fq (tk+2)<|.ref e,V x.P dh f3 dd,V x.P di f4 ds,V x.P ez f6 v6,V x.P cE K<|.ref<|G+2,V x.P cg (K+1)<|.ref a6,V x.P kW bs .none] 9),(bo+2,ak [V x.P bD gc g6] 1)] eh fl (H 0x55444) [] [] a) a [2] (.res<|.ok<|.ret<|.ref eh) [] [(eh,aa #[[.bool<|decide<|ad c0<9,.ref<|bo+1,.ref a6,.none]] 0)] [] []:=bB
def W4:∀(x:Wd) Y,Ev (ex x aj 590 (.code<|gy z 9 it ac D)<|cf [(it,ba J 0)] sz tk (bif x.b2 then[]else(H 0xb50)) [] [] Y) Y [0] (.next<|cc z 9 it ac D) [(it,ba J 0)] [] [] []:=bB
def WZ:Ev (ex x aj 590 (.code<|cc z 9 it ac D)<|cf [(it,ba J k)] sz tk (H 0xa70) [] [(J,aa #[xs] ns)] Y) Y [] (.res<|.ok .next) [] [] [] [ig #[xs]<|ad k]:=by lk
section
variable{P w t p r e sz tk f3 f4 f6 G ea z it ac D n k nw na eN a8 dx q nb gg g1 b0 sd ns m mt ep c kt gs a6 K f0 f1 f2 f5 d0 cd a y c3 da bl hi nr g4 st db bb e9 J ti g2 g3 fa d1 fc fd bt fm e5 e8 t4 b1 eB e6 g7 eC e7 g8 eM a7 bs g5 nc bo fe ei go g9 eh fl ec e3 ha c0 gl ca hb gc e4 hg c2 v3 v4 v6 f9 v5 dd ds hj g6 hh dt du ey d3 vo c4 c5 U dV g0 rs ps xs gb gu ws ck z0 ch c1 d2 e0 e1 e2 em x1 ev ew ed ef eg eb}
def WQ:∀d (x:Wd) Y,Ev (ex x aj 580 (.code<|oz z D it ac b0)<|cf [(it,eT (z+6) ck z0 ch),(ac,aa #[U] na),dP x b0 d,(D+1,aC<|some<|iN c ep)] sz tk (H 0x548346ab1c0bbb3a339c0) [ah c1 kt,iN m mt] [(z+6,ak dt nw),(z+3,aC<|some<|.ref sd),(sd,ak du ns)] Y) Y [0,1,2,3] (.next<|oz z D it ac b0) [(it,eT (z+6) (ck+1) z0 ch),(ac,aa ((ar U).push<|ah c1 kt)<|na+1),dP x b0<|some (fF d tk,ah c1 kt),((D+1),aC<|some<|iN c ep)] [] [((ad m==ad c),true)] [cm #[U],cR (aI "dict") du #[#[c1]]<|iN m mt,gU true (aI "dict_keyiterator") (aI "dict") dt nw ck z0 ch<|ah c1 kt]:=gf
def WO:∀d (x:Wd) Y,Ev (ex x aj 580 (.code<|oz z D it ac b0)<|cf [(it,eT (z+6) ck z0 ch),(ac,aa #[U] na),dP x b0 d,(D+1,aC<|some<|iN c ep)] sz tk (H 0x56ab1c0bbb3a339c0) [ah c1 kt,iN m mt] [(z+6,ak dt nw),(z+3,aC<|some<|.ref sd),(sd,ak du ns)] Y) Y [0,1,2,3] (.next<|oz z D it ac b0) [(it,eT (z+6) (ck+1) z0 ch),(ac,aa #[U] na),dP x b0<|some (fF d tk,ah c1 kt),((D+1),aC<|some<|iN c ep)] [] [((ad m==ad c),false)] [cR (aI "dict") du #[#[c1]]<|iN m mt,gU true (aI "dict_keyiterator") (aI "dict") dt nw ck z0 ch<|ah c1 kt]:=gf
def WU:∀d (x:Wd) Y,Ev (ex x aj 580 (.code<|cc z 6 it ac D)<|cf [(it,ba J k),(ac,aa #[U] na),fJ x D d,(z+2,aC<|some<|iN bl g2),(z+4,aC<|some<|iN bb g3)] sz tk (H 0x5480d07f4306a40) [iN n ti,iN d1 0,iN fa 0,iN fc 0,iN fd 0] [(J,aa #[xs] ns)] Y) Y [0,1,2,3,4] (.next<|cc z 6 it ac D) [(it,ba J<|k+1),(ac,aa ((ar U).push<|iN fd<|tk+8)<|na+1),fJ x D<|some (fF d tk,iN n ti),((z+2),aC<|some<|iN bl g2),((z+4),aC<|some<|iN bb g3)] [] [] [cm #[U],cj (ad fc) (ad bb)<|ad fd,gm (ad d1) (ad fa)<|ad fc,Aa 16 (ad bl)<|ad fa,cj (ad n) (16^5)<|ad d1,df #[xs] (ad k)<|iN n ti]:=gf
def WX:∀d (x:Wd) Y,Ev (ex x aj 580 (.code<|cc z 8 it ac D)<|cf [(it,ba J k),(ac,aa #[U] na),fJ x D d] sz tk (H 0x548a40) [iN n ti,iN d1 0] [(J,aa #[xs] ns)] Y) Y [0,1,2] (.next<|cc z 8 it ac D) [(it,ba J<|k+1),(ac,aa ((ar U).push<|iN d1<|tk+4)<|na+1),fJ x D<|some (fF d tk,iN n ti)] [] [] [cm #[U],cj (ad n) (16^5)<|ad d1,df #[xs] (ad k)<|iN n ti]:=gf
def W0:∀d (x:Wd) Y,Ev (ex x aj 590 (.code<|cc z 9 it ac D)<|cf [(it,ba J k),(ac,aa #[U] na),nS x D d] sz tk (H 0x1a33d7045) [.ref c2] [(J,aa #[xs] ns),(c2,aa #[[]] nr)] Y) Y [0,1,2] (.next<|cc z 9 it ac D) [(it,ba J<|k+1),(ac,aa #[U] na),nS x D<|some (fF d tk,.ref c2)] [] [] [df #[xs] (ad k)<|aF c2]:=gf
def W3:∀d (x:Wd) Y,Ev (ex x aj 590 (.code<|cc z 9 it ac D)<|cf [(it,ba J k),(ac,aa #[U] na),nS x D d] sz tk (H 0x54831a33d7045) [.ref c2] [(J,aa #[xs] ns),(c2,aa #[hh::ws] nr)] Y) Y [0,1,2] (.next<|cc z 9 it ac D) [(it,ba J<|k+1),(ac,aa ((ar U).push<|aF c2)<|na+1),nS x D<|some (fF d tk,.ref c2)] [] [] [cm #[U],df #[xs] (ad k)<|aF c2]:=gf
def Wy:∀(x:Wd) Y,Ev (fG P 4 [#[pN bt,[0,1,2,3],[4],[],2,1,bif x.b2 then(H 0x5110d061c761cc99999ad08b01177)else(H 0x5110d061c761cc999999991ad098b01177),[iN e5 0]],ph (pB (x1::ed)) [0,1,2,3,4,6,7,8] (H 0xb30) [ah e0 0,iN eB 0,iN e6 0],#[pB (ev::ef),[0,1,2,3,4,5,6,7],[],[9],1,0,H 0xb30,[ah e1 0,iN eC 0,iN e7 0]],#[pB (ew::eg),[0,1,2,3,4,5,6,7],[],[9],1,0,H 0x515415ddd0d0d10f61d7d1301001,[ah e2 0,iN eM 0]],#[pS em,[0,1,2,3,4],[],[6,9],1,1,H 0x8781f088,[]]] [(e8,t4,fm),(G,ea,b1),(a6,K,g7),(a7,bs,g8),(bo,fe,g5)]<|Kr x w.z it a8 (.ok .next)<|cf [(w.z,az (sY x w [V x.P dh f3<|iN hi da,V x.P di f4<|.ref y,V x.P ez f5 v5,V x.P cE f6 v6,V x.P cg d0<|.ref cd]) 8),(w.z+2,aC<|some<|iN bl c3),(it,ba w.r<|k+1),(w.z+4,aC<|some<|iN bb<|dx+4),(a8+3,aa #[U] na),(a8+4,ak [V x.P yV eN f9] 1)] gg g1 (H 0x5888) [] [] ((w.z+5,aC c5)::(cd,ak ey nc)::Y)) Y [4,5,6,7,8,9,0,1,2,3] (.next<|d4 w.z 10 it) [(w.z,az (sY x w [V x.P dh f3<|iN hi da,V x.P di f4<|.ref y,V x.P ez f5 v5,V x.P cE f6 v6,V x.P cg d0<|.ref cd]) 8),((w.z+2),aC<|some<|iN bl c3),(it,ba w.r<|k+1),((w.z+4),aC<|some<|iN bb<|dx+4),((w.z+5),aC<|some<|iN bt fm),(cd,ak (ey++[V x.P #[#[em]] g5<|.ref<|e8+2])<|nc+1)] [((e8+2),aa #[[.ref<|G+1,.ref<|a6+1,.ref<|a7+1]] 3),((a7+1),aD [ah e2<|bs+6,iN eM<|bs+8]),((a6+1),aD [ah e1<|K+6,iN eC<|K+8]),((G+1),aD [ah e0<|ea+6,iN eB<|ea+8])] [] [j4 (aI "dict") ey #[#[em]],P 589 aj (.call (.ref 860) #[[iN bl c3,iN hi da],[]]) []<|pS em,gm (ad bt+2) (ad bb)<|ad eM,j5 #[#[fg #[(ew::eg)]]] (some 1) none #[#[e2]],o5 #[(ew::eg)],P 588 aj (.call (.ref 46) #[[.int (ad bb+ad e7)<|K+13],[]]) []<|pB (ew::eg),cj (ad bt+ad 2) (ad bb)<|ad e7,gm (ad bt+1) (ad bb)<|ad eC,j5 #[#[fg #[(ev::ef)]]] (some 1) none #[#[e1]],o5 #[(ev::ef)],P 588 aj (.call (.ref 46) #[[.int (ad bb+ad e6)<|ea+13],[]]) []<|pB (ev::ef),cj (ad bt+ad 1) (ad bb)<|ad e6,gm (ad bt+0) (ad bb)<|ad eB,j5 #[#[fg #[(x1::ed)]]] (some 1) none #[#[e0]],o5 #[(x1::ed)],P 588 aj (.call (.ref 46) #[[.int (ad bb+ad e5)<|t4+7],[]]) []<|pB (x1::ed),cj (ad bt+0) (ad bb)<|ad e5,P 589 aj (.call (.builtin "sum") #[[.ref<|a8+3],[]]) [((a8+3),aa #[U] na)]<|pN bt]:=bB
def Wz:∀(x:Wd) Y,Ev (fG P 3 [#[pS d2,[],[],[0,1,2],0,0,H 0x5be1c0eee,[iN st db]]] [(a8,dx,g4)]<|ex x aj 590 (.code<|d4 w.z 10 it)<|cf [(w.z,az (gY x w t [V x.P ez f5 v5,V x.P cE f6 v6,V x.P cg d0<|.ref cd]) 8),(w.z+2,aC vo),(it,ba w.r k)] sz tk (H 0x51541bf50) [.ref a] [(w.r,aa #[rs] nr),(a,aD [iN bl c3,iN hi da,.ref y]),(w.z+3,aC<|some<|.ref sd),(sd,ak du ns)] Y) Y [0,1,2] (.next<|d4 w.z 10 it) [(w.z,az (sY x w [V x.P dh t.f3<|iN hi da,V x.P di t.f4<|.ref y,V x.P ez f5 v5,V x.P cE f6 v6,V x.P cg d0<|.ref cd]) 8),((w.z+2),aC<|some<|iN bl c3),(it,c7 w.r<|ad k+1)] [] [((decide<|ad st<9),false)] [cR (aI "dict") du #[#[d2]]<|iN st db,P 589 aj (.call (.ref 860) #[[iN bl c3,iN hi da],[]]) []<|pS d2,df #[rs] (ad k)<|aF a]:=bB
end
end
structure Wn where
 k:!N
 kt:N
 a:N
 n:N
 ws:!(!N×N)
abbrev Wn.e(w:Wn):De:=(w.k,w.kt,.ref w.a)
abbrev Wn.ob(w:Wn):aH×Obj:=(w.a,aa #[w.ws.map ax] w.n)
abbrev Wn.d(w:Wn):!N×!(!N):=(w.k,w.ws.map (·.1))
abbrev jV(x:Wd)(j:N)(ns:!Wn)(nw:N):aH×Obj:=(j,ak (aB x.P<|ns.reverse.map Wn.e) nw)
section
variable{x:Wd}
def R5{ns:!Wn}(hk:k∉ns.map (·.k))(a:ns.length<=1000):j4 (.type "dict") (aB x.P<|ns.reverse.map Wn.e) #[#[k]]:=
 #[dM,jS _ _,by
  rw[lw,D5 (by simp only[bI];simp at hk⊢;rw[hk])];rfl,by
  unfold aB;simp only[aU,aU,Ta];rw[Mb a]]
def Hz:aB P es++[V P #[#[k]] t v]=aB P (es++[(k,t,v)]):=by unfold aB;simp only[bf];rfl
def ay.dp{t:Mk}{b d n a:N}{c:bj}{F:Fs}{Q:Po}{L1 L2:ao}{es:!De}{k:!N}{v:af}(g:ay x t b c F (L1++(d,ak (aB x.P<|es++[(k,a,v)]) n)::L2) Q):ay x t b c F (L1++(d,ak (aB x.P es++[V x.P #[#[k]] a v]) n)::L2) Q:=Hz▸g
def Go.w{t:Mk}{b:N}{F F0:Fs}{Q:Po}{W Y:ao}{o:ao->av}(g:Go x t b F0 Q F Y λa=>o<|W++a):Go x t b F0 Q F (W++Y) o:=λw B A C f=>by simp only[b4];rw[g w B A C f]
abbrev zG(x:Wd)(w:gD)(j it k:N)(ns:!Wn)(o:N×N×Option N)(F:Fs)(Q:Po):Prop:=∀T D a y E,Le F T->y.d=cU o->ay x aj 590 (d4 w.z 1 it) T ([gh x w D,(w.z+2,aC a),(it,ba w.r<|k+1)]++(jV x j (y::ns) E::(y::ns).map Wn.ob)) Q
def ay.wd{t:Mk}{b j n:N}{c:bj}{F:Fs}{Q:Po}{L1 L2:ao}{y:Wn}{ns:!Wn}(g:ay x t b c F (L1++jV x j (y::ns) n::L2) Q):ay x t b c F (L1++(j,ak (aB x.P (ns.reverse.map Wn.e)++[V x.P #[#[y.k]] y.kt<|.ref y.a]) n)::L2) Q:=by
 have e:jV x j (y::ns) n=(j,ak (aB x.P (ns.reverse.map Wn.e)++[V x.P #[#[y.k]] y.kt<|.ref y.a]) n):=by unfold jV;simp only[Hz,uL,bf];rfl
 rw[e▸g]
def QM(ok:gn (U,hi,some m))(j:F w.r (aa #[rs] nr))(Y:F (w.z+1) (aC<|some<|.ref a6))(r:rs[k]? =some v)(hv:Rp F (d6 (U,hi,some m)) v)(hk:nm U hi∉ns.map (·.k))(hz:ns.length<=1000)(h:zG x w a6 it k ns (U,hi,some m) F Q):ay x aj 590 (d4 w.z 1 it) F ([Ig x w q,(w.z+2,aC vo),(it,ba w.r k)]++(jV x a6 ns nw::ns.map Wn.ob)) Q:=by obtain⟨a,y,d,i,l,f,Z,t,b,S,z,g⟩:=Er hv;obtain rfl:=g.e;have P:=ok.1;have C:=ok.2.1;have I:=ok.2.2 m rfl;rw[rS (W:=[jV x a6 ns nw]) (O:=[(w.r,aa #[rs] nr),(a,aD [iN U f,iN hi Z,.ref y]),(y,aa #[_] l),(d,aD [iN m t,iN hi b]),(i,aD [iN U S,iN m z]),(w.z+1,aC<|some<|.ref a6)]) ⟨j,g.a_,g.y_,g.OU,g.OV,Y,ab⟩ λB K=>hG 3 λc u J G A D E X M R e=>bu (Wj q x) ab #[R5 hk hz,lN (kn P)<|on P C,lN (kn I.1)<|LY P C I.2,lN (kn P)<|LV C I.2,hM r,ab] rfl u<|.wd (y:=#[nm U hi,e,B+4,2,[(nm m hi,A),(nm U m,X)]])<|h _ _ _ _ _ (cb u) rfl]
def aqy(ok:gn (D,hi,none))(d:F w.r (aa #[rs] nr))(Y:F (w.z+1) (aC<|some<|.ref G))(r:rs[k]? =some v)(hv:Rp F (d6 (D,hi,none)) v)(hk:nm D hi∉ns.map (·.k))(hz:ns.length<=1000)(h:zG x w G it k ns (D,hi,none) F Q):ay x aj 590 (d4 w.z 1 it) F ([gh x w t,(w.z+2,aC vo),(it,ba w.r k)]++(jV x G ns nw::ns.map Wn.ob)) Q:=by rw[HT (Es hv) λa y l f Z C o b=>?_];subst C;rw[rS (W:=[jV x G ns nw]) (O:=[(w.r,aa #[rs] nr),(a,aD _),(y,aa #[[]] l),(w.z+1,aC<|some<|.ref G)]) ⟨d,o,b,Y,ab⟩ λB K=>hG 1 λc u M R e=>bu (Wm x) ab #[R5 hk hz,lN (kn ok.1)<|on ok.1 ok.2.1,hM r,ab] rfl u<|.wd (y:=#[nm D hi,e,B+4,0,[]])<|h _ _ _ _ _ (cb u) rfl]
inductive qH (x:Wd) (w:gD) (wd:N) (W:b5) (F':Fs):aL->ao->Prop
 |mk (t vo ns nw) (h1:ns.reverse.map Wn.d=W):qH x w wd W F' (.ok .next) ([gh x w t,(w.z+2,aC vo)]++(jV x wd ns nw::ns.map Wn.ob))
def afv:∀{rest done:c6} {t vo ns nw F},F w.r (aa #[rs] nr)->F (w.z+1) (aC<|some<|.ref D)->aM F ((done++rest).map d6) rs->(∀r∈rest,gn r)->ns.reverse.map Wn.d=done.map cU->(((done++rest).map cU).map (·.1)).Nodup->done.length+rest.length<=1000->ay x aj 590 (d4 w.z 1 it) F ([gh x w t,(w.z+2,aC vo),(it,ba w.r done.length)]++(jV x D ns nw::ns.map Wn.ob)) (qH x w D<|(done++rest).map cU):=by
 intro rest;induction rest with
 |nil=>
  intro done t vo ns nw F f Y A g s k i;simp only[bQ]at A⊢;rw[.perm (pm [[gh x w t,(w.z+2,aC vo)],_,jV x D ns nw::ns.map Wn.ob] (.p (.p (.a 0)<|.a 1)<|.a 2) (.p (.a 1)<|.p (.a 0)<|.a 2) rfl) ?_];rw[bJ (L:=[(it,ba w.r done.length)]) (O:=[(w.r,aa #[rs] nr)]) #[f,ab] λB K=>bp (Xg w.r nr B K w.z it done.length rs x) ab #[by show(ar rs)[done.length]? =none;have:=A.length;simp[this],ab] (aV) #[t,vo,ns,nw,s]]
 |cons q rest C=>
  intro done t vo ns nw F f Y A g s k i;simp only[dN]at i;have d:ns.length=done.length:=by have:=congrArg gT s;simpa using this
  obtain⟨v,X,G⟩:=A.get done.length (x:=d6 q) (by rw[bf,oP<|by simp];simp);have e:done++q::rest=(done++[q])++rest:=by simp
  have c:=λH=>by
   have j:(cU q).1∈(done.map cU).map (·.1):=by rw[<-s,bI,nj];rw[l5.mpr H]
   rw[bf,bf,j3]at k;rw[k.2.2 _ j _ (.head _) rfl]
  have h:zG x w D it done.length ns q F (qH x w D<|(done++q::rest).map cU):=λT t vo y nw l b=>by have z:=C (t:=t) (vo:=vo) (ns:=y::ns) (nw:=nw) (l _ _ f) (l _ _ Y) (e▸A.to l) (λr U=>g r<|.tail _ U) (by simp only[uL,bf,bf,s];rw[congrArg _<|congrArg (λy=>[y]) b]) (e▸k) (by simp;rw[Dl i]);rw[cv,<-e]at z;rw[z]
  obtain⟨R,m,n⟩:=q;cases n with
  |none=>rw[aqy (g _<|.head _) f Y X G c (vw i d) h]
  |some E=>rw[QM (q:=some _) (g _<|.head _) f Y X G c (vw i d) h]
def Zq(c:F w.r (aa #[rs] nr))(Y:F (w.z+1) (aC<|some<|.ref K))(A:aM F (((J,hi,some m)::rest).map d6) rs)(d:∀r∈(J,hi,some m)::rest,gn r)(k:((((J,hi,some m)::rest).map cU).map (·.1)).Nodup)(i:rest.length<=900):ay x aj 590 (d4 w.z 1 it) F [(it,ba w.r 0),xH x w,(w.z+2,aC none),(K,ak [] nw)] (qH x w K<|((J,hi,some m)::rest).map cU):=aJ (A.get 0 rfl) λv X G=>.perm (pm [[(it,ba w.r 0)],[xH x w,(w.z+2,aC none)],_] (.p (.a 0)<|.p (.a 1)<|.a 2) (.p (.p (.a 1)<|.a 0)<|.a 2) rfl)<|QM (q:=none) (ns:=[]) (d _<|.head _) c Y X G (λU=>(cQ U).elim) (dm _) λT D e y nw l b=>afv (done:=[(J,hi,some m)]) (l _ _ c) (l _ _ Y) (A.to l) (λr U=>d r<|.tail _ U) (congrArg (λy=>[y]) b) k<|Mu i
end
def yR:∀{l:!(!N×N)},aM F ((l.map (·.1)).map .str) (l.map ax):=by
 intro J;induction J with
 |nil=>rw[.nil]
 |cons p l C=>rw[.cons (c9.mpr #[p.2,rfl]) C]
def XE:∀{l:!Wn},(∀n∈l,F n.a<|aa #[n.ws.map ax] n.n)->bS F (l.map Wn.e) (gA<|l.map Wn.d):=by
 intro J;induction J with
 |nil=>intro _;rw[.nil]
 |cons n l C=>intro U;rw[.cons (dW.mpr<|gE n.a _ n.n rfl (U n<|.head _) yR)<|C λE H=>U E<|.tail _ H]
def XF:∀{l:!Wn},(∀n∈l,n.k≠a->F n.a (aa #[n.ws.map ax] n.n))->(∀n∈l,n.k=a->F n.a (aa #[(n.ws++[(b,q)]).map ax] m))->bS F (l.map Wn.e) (gA<|gV (l.map Wn.d) a b):=by
 intro J;induction J with
 |nil=>intro _ _;rw[.nil]
 |cons n l C=>
  intro U S;have C:=C (λm H=>U m<|.tail _ H) λm H=>S m<|.tail _ H;by_cases e:n.k=a
  .have:=bS.cons (k:=n.k) (t:=n.kt) (dW.mpr<|gE n.a _ m rfl (S n (.head _) e) yR) C
   have O:gA (gV ((n::l).map Wn.d) a b)=(n.k,.lst<|((n.ws++[(b,q)]).map (·.1)).map .str)::gA (gV (l.map Wn.d) a b):=by simp[gV,e]
   rw[O,];rw[this]
  .have:=bS.cons (k:=n.k) (t:=n.kt) (dW.mpr<|gE n.a _ n.n rfl (U n (.head _) e) yR) C
   have O:gA (gV ((n::l).map Wn.d) a b)=(n.k,.lst<|(n.ws.map (·.1)).map .str)::gA (gV (l.map Wn.d) a b):=by simp[gV,e]
   rw[O,];rw[this]
section
variable{x:Wd}
inductive GF (x:Wd) (w:gD) (wd:N) (W:b5) (F':Fs):aL->ao->Prop
 |mk (t vo es nw) (h1:F' wd (ak (aB x.P es) nw)) (h2:bS F' es (gA W)):GF x w wd W F' (.ok .next) [gh x w t,(w.z+2,aC vo)]
def Sh{W:b5}(g:ay x J b c F L (qH x w G W)):ay x J b c F L (GF x w G W):=
 g.ul λr T h U q=>by
  rw[q.casesOn λD d K E s=>?_];rw[ki (jV x G K E::K.map Wn.ob) _ sk #[D,d,K.reverse.map Wn.e,E,bc<|.head _,by rw[s▸XE λn a=>bc<|.tail _<|bw (f:=Wn.ob)<|l5.mp a]]]
inductive GE (x:Wd) (w:gD) (wd:N) (W:b5) (a b:!N) (F':Fs):aL->ao->Prop
 |mk (t vo es nw) (ra n kt:N) (ws:!(!N×N)) (h1:F' wd (ak (aB x.P es) nw)) (h2:aZ es a=some (kt,.ref ra)) (h3:ws.length<=1000) (h4:∀F3 q m,Le F' F3->F3 ra (aa #[(ws++[(b,q)]).map ax] m)->bS F3 es (gA (gV W a b))):GE x w wd W a b F' (.ok .next) [gh x w t,(w.z+2,aC vo),(ra,aa #[ws.map ax] n)]
def mN{v:D}:∀{l},(l.map (·.1)).Nodup->(k,v)∈l->aZ l k=some v
 |e::l,hn,U=>by
  rw[bW,c_]at hn;show(if e.1=k then _ else _)=_;rcases aY.mp U with rfl|U
  .rw[if_pos rfl,]
  .rw[if_neg λ(q:e.1=k)=>hn.1<|q▸bw U,]
   rw[mN hn.2 U]
def Sf{W:b5}(k:(W.map (·.1)).Nodup)(o:a∈W.map (·.1))(hz:∀p∈W,p.2.length<=1000)(g:ay x U J c F L (qH x w G W)):ay x U J c F L (GE x w G W a b):=
 g.ul λr T h _ q=>by
  rw[q.casesOn λD B K E s=>?_];subst s;rw[bI,nj]at k o;have i:(K.map Wn.k).Nodup:=(List.reverse_perm _).nodup_iff.mp k;rw[aJ (bn.mp<|l5.mp o) λy A P=>?_];subst P;rw[fW (FH A) λu t P=>?_];subst P;have M:∀n∈u++y::t,n.k=y.k->n=y:=λn j e=>by
   rw[bf,bW,j3,c_]at i;obtain⟨_,⟨H,_⟩,z⟩:=i;rcases ek.mp j with j|j
   .rw[absurd e<|z _ (bw j) _<|.head _]
   .rcases aY.mp j with rfl|j
    .rfl
    .rw[absurd (e▸bw j) H]
  rw[ki (jV x G (u++y::t) E::(u++t).map Wn.ob) _ ?_ #[D,B,(u++y::t).reverse.map Wn.e,E,y.a,y.n,y.kt,y.ws,bc<|.head _,?_,?_,λd q I l C=>?_]]
  .simp only[bf,bf,bW]
   rw[pm [[gh x w D,(w.z+2,aC B)],[jV x G (u++y::t) E],u.map Wn.ob,[y.ob],t.map Wn.ob] (.p (.a 0)<|.p (.a 1)<|.p (.a 2)<|.p (.a 3)<|.a 4) (.p (.p (.a 1)<|.p (.a 2)<|.a 4)<|.p (.a 0)<|.a 3) rfl]
  .rw[mN ?_<|bw<|l5.mpr A]
   rw[bI,nj];rw[k]
  .have:=hz _<|bw<|l5.mpr A
   rwa[aU]at this
  .rw[XF (q:=q) (m:=I) (λn j e=>l _ _<|bc<|.tail _<|bw (f:=Wn.ob) ?_) λn j e=>?_]
   .rcases ek.mp (l5.mp j)with j|j
    .rw[ga _ j]
    .rcases aY.mp j with rfl|j
     .rw[absurd rfl e]
     .rw[dY _ j]
   .rw[(M n (l5.mp j) e)▸C]
abbrev SD:=!N×N×(N×N)
abbrev dk(e:SD):De:=(e.1,e.2.1,aO e.2.2)
abbrev b7(e:SD):!N×N:=(e.1,e.2.2.1)
structure kC (F:Fs) (au:!(N×SD)) (S:fQ):Prop where
 at_:∀p∈au,F p.1 (aD [ax (p.2.1,p.2.2.1),aO p.2.2.2])
 s:au.map (λp=>b7 p.2)=S
def kC.to{F F':Fs}(T:Le F F'){au:!(N×SD)}{S:fQ}(h:kC F au S):kC F' au S:=#[λp I=>T _ _<|h.at_ p I,h.s]
def kC.push{F:Fs}{au:!(N×SD)}{S:fQ}(h:kC F au S){a:N}{e:SD}(o:F a (aD [ax (e.1,e.2.1),aO e.2.2])):kC F (au++[(a,e)]) (S++[b7 e]):=#[λp I=>(ek.mp I).elim (h.at_ p) λI=>by rw[(iA.mp I)▸o],by rw[bf▸h.s▸?_];rfl]
abbrev iR(au:!(N×SD)):!af:=au.map λp=>aF p.1
abbrev fE(x:Wd)(z it:N)(es:!De)(nw i:N):aH×Obj:=(it,eT (z+6) (i:Int) ((aB x.P es).length:Int)<|ad nw)
def rH{i nw:N}(h:es[i]? =some (k,kt,v)):gU true (.type "dict_keyiterator") (.type "dict") (aB P es) nw (i:Int) ((aB P es).length:Int) (ad nw) (.str #[#[k]] kt):=
 #[rfl,dM,rfl,rfl,jy _,V P #[#[k]] kt v,by simp only[FB];unfold aB;simp only[fj,h];rfl,rfl]
def El:qF true (.type "dict_keyiterator") (.type "dict") (aB P es) nw (es.length:Int) ((aB P es).length:Int) (ad nw):=#[rfl,dM,rfl,rfl,by unfold aB;rw[aU,]]
def QQ{z it ac H nw na i:N}(Y:F (z+6) (ak (aB x.P es) nw))(hi:es[i]? =some (k,kt,v))(hz:D.length<=1000)(h:∀F' y a b d,Le F F'->F' a (aD [ax (k,kt),aO (0,b)])->ay x aj 590 (cc z 1 it ac H) F' [fE x z it es nw<|i+1,(ac,aa #[D++[.ref a]] d),dP x H<|some y] Q):ay x aj 590 (cc z 1 it ac H) F [fE x z it es nw i,(ac,aa #[D] na),dP x H o] Q:=iW (O:=[(z+6,ak (aB x.P es) nw)]) #[Y,ab] λB K=>bu (WK o x) ab #[f_<|hI hz,rH hi,ab] rfl (aV)<|.pu (L1:=[_])<|h _ _ _ _ _ an<|bc<|.head _
inductive Ah (x:Wd) (ac cl:N) (S:fQ) (F':Fs):aL->ao->Prop
 |mk (au na y) (h1:kC F' au S):Ah x ac cl S F' (.ok .next) [(ac,aa #[iR au] na),dP x cl (some y)]
def afx{z it ac H nw:N}:∀{rest done au na y F},F (z+6) (ak (aB x.P<|done++rest) nw)->kC F au (done.map λe=>(e.1,0))->done.length+rest.length<=1000->ay x aj 590 (cc z 1 it ac H) F [fE x z it (done++rest) nw done.length,(ac,aa #[iR au] na),dP x H<|some y] (Ah x ac H<|(done++rest).map λe=>(e.1,0)):=by
 intro rest;induction rest with
 |nil=>intro done au na y F Y I i;rw[bQ]at Y⊢;rw[bJ (L:=[fE x z it done nw done.length]) (O:=[(z+6,ak (aB x.P done) nw)]) #[Y,ab] λB K=>bp (WI B K z (z+6) it nw ac H (aB x.P done) _ _ _ x) ab #[El,ab] (aV) #[au,na,y,I.to an]]
 |cons e rest C=>
  intro done au na y F Y I i;have P:=congrArg gT I.s;simp only[aU,aU]at P;refine QQ (k:=e.1) (kt:=e.2.1) (v:=e.2.2) Y (by simp) (by rw[aU,];rw[vw i P]) λT y a b d l o=>?_;have m:done++e::rest=(done++[e])++rest:=by simp
  have z:=C (au:=au++[(a,e.1,e.2.1,0,b)]) (na:=d) (y:=y) (m▸l _ _ Y) (by rw[bf,];rw[(I.to l).push o]) (by simp;rw[Dl i]);rw[cv,<-m]at z;unfold iR at z;rw[bf]at z;rw[z]
def Ho{z it ac H nw na:N}(Y:F (z+6) (ak (aB x.P es) nw))(c:es≠[])(i:es.length<=1000):ay x aj 590 (gy z 1 it ac H) F [fE x z it es nw 0,(ac,aa #[[]] na),(H,ak [] 0)] (Ah x ac H<|es.map λe=>(e.1,0)):=by rw[fW (jY c) λe Q P=>?_];subst P;rw[bJ (L:=[fE x z it (e::Q) nw 0]) (O:=[]) ab λB K=>bu (WJ B K z (z+6) it ac H _ _ _ x) ab ab rfl (aV)<|QQ (o:=none) (an _ _ Y) rfl (dm _) λT y a b d l f=>afx (done:=[e]) (au:=[(a,e.1,e.2.1,0,b)]) (l _ _<|an _ _ Y) ⟨λp I=>by rw[(iA.mp I)▸f],rfl⟩<|agu i]
inductive GK (x:Wd) (d:N) (S:fQ) (F':Fs):aL->ao->Prop
 |mk (n') (es:!SD) (h:es.map b7=S):GK x d S F' (.ok (.ret .none)) [(d,ak (aB x.P (es.map dk)) n')]
def E7(J:D.v=.none){au:!(N×SD)}(a:F l (aa #[iR au] nl))(I:kC F au S)(hz:au.length<=1000)(w:(S.map (·.1)).Nodup):ay x D b (.builtin "dict.update.loop" #[[.ref d,.ref it,.int 0 0,.none],[]]) F [(it,#[.type "list_iterator",none,.fields #[[.ref l,.int 0 0]],#[[]]]),(d,ak [] n)] (GK x d S):=
 (RU J (rest:=au.map λp=>(p.1,dk p.2)) (ps:=[]) (es:=[]) rfl rfl (by simp only[qx,bI];rw[a]) (λp y=>by
  rw[aJ (bn.mp y) λq u P=>?_];subst P;rw[I.at_ q u]) (by simp;rw[agv hz]) (by
  simp only[qx,bI,bI,<-I.s,bI]at*;rw[w])).post λr T h U q=>by rw[qx,show(au.map λp=>(p.1,dk p.2)).map (·.2)=(au.map (·.2)).map dk by simp only[bI,bI];rfl]at q;rw[q.casesOn λs=>ki _ [] (.of_eq (bQ _).symm) #[s,au.map (·.2),by rw[bI,];rw[I.s]]]
end
def bS.at_{F:Fs}{l:!De}{m:!(!N×PV)}(h:bS F l m):∀{i:N} {k:!N} {t:N} {v:af},l[i]? =some (k,t,v)->∃p,m[i]? =some (k,p)/\Rp F p v:=by
 induction h with
 |nil=>intro i k t v e;cases e
 |cons h _ C=>
  intro i k t v e;cases i with
  |zero=>cases e;rw[bA _ rfl h]
  |succ i=>rw[C e]
set_option tactic.hygienic true in
def EJ:∀{D:!SD},aZ (D.map b7) o=some m->∃t mt,aZ (D.map dk) o=some (t,aO (m,mt)):=by
 intro J;induction J with
 |nil=>intro U;rw[nn U]
 |cons e D C=>
  intro U;rw[bW,aZ]at U⊢;split at U
  .rename_i q
   rw[(if_pos q)▸?_];cases U;rw[kh _ _ rfl]
  .rename_i q
   rw[(if_neg q)▸C U]
def iH(h:aZ es k=some (t,v)):cR (.type "dict") (aB P es) #[#[k]] v:=#[dM,jS _ _,by rw[lw,h];rfl]
structure Wl (x:Wd) (F:Fs) (z nw:N) (es:!De) (W:b5):Prop where
 d:F (z+6) (ak (aB x.P es) nw)
 c:F (z+1) (aC (some (.ref (z+6))))
 r:bS F es (gA W)
 n:(W.map (·.1)).Nodup
 l:∀p∈W,p.2.length<=3
def Wl.to{x:Wd}{F F':Fs}(T:Le F F'){z nw:N}{es:!De}{W:b5}(h:Wl x F z nw es W):Wl x F' z nw es W:=#[T _ _ h.d,T _ _ h.c,h.r.to T,h.n,h.l]
def Wl.len{x:Wd}{F:Fs}{z nw:N}{es:!De}{W:b5}(h:Wl x F z nw es W):es.length=W.length:=by have:=h.r.length;rwa[aU]at this
def Wl.at_{x:Wd}{F:Fs}{z nw:N}{es:!De}{W:b5}(h:Wl x F z nw es W){i:N}{k:!N}{os:!(!N)}(e:W[i]? =some (k,os)):∃kt n nl,∃R:!(!N×N),es[i]? =some (k,kt,.ref n)/\aZ es k=some (kt,.ref n)/\F n (aa #[R.map ax] nl)/\R.map (·.1)=os:=by
 have m:i<W.length:=by
  rcases sw i W.length with h|h
  .rw[h]
  .rw[FS h]at e;cases e
 simp only[<-h.len]at m;rw[aJ (h.r.at_ (k:=(es[i]).1) (t:=(es[i]).2.1) (v:=(es[i]).2.2)<|eH m) λp b M=>?_];rw[fj,e]at b;injection b with b;injection b with b X;dsimp only at b X;subst X;rw[gX (dW.mp M) λn Q nl U Y u=>?_];have a:∀{os:!(!N)} {Q:!af},aM F (os.map .str) Q->∃R:!(!N×N),Q=R.map ax/\R.map (·.1)=os:=by
  intro os;induction os with
  |nil=>intro Q h;rw[bA [] (eu.mp h) rfl]
  |cons c os C=>intro Q h;rw[cp (cq.mp h) λv g P w L=>?_];subst P;rw[dq (c9.mp w) λD H=>?_];subst H;rw[aJ (C L) λR H P=>?_];subst H;subst P;rw[bA ((c,D)::R) rfl rfl]
 rw[aJ (a u) λR H d=>?_];subst H;have f:es[i]? =some (k,(es[i]).2.1,.ref n):=by rw[eH m,];rw[congrArg some (by rw[b,<-U])]
 rw[Ju ((es[i]).2.1) n nl R f (mN ?_<|uK f) Y d];simp only[h.r.keys];rw[bI,];rw[h.n]
abbrev fD(S:fQ)(os:!(!N)):N:=mx (0::os.map λY=>(aZ S Y).getD 0+1)
section
variable{x:Wd}
abbrev fh(z sd:N):aH×Obj:=(z+3,aC<|some<|.ref sd)
abbrev uH(x:Wd)(z it ac H sd nw i:N)(es:!De)(S:!af)(k:!N)(kt n:N)(F:Fs)(Q:Po):Prop:=∀T y a A d,Le F T->T a (aD [ax (k,kt),aO (n,A)])->ay x aj 580 (cc z 2 it ac H) T [fE x z it es nw<|i+1,(ac,aa #[S++[.ref a]] d),dP x H<|some y,fh z sd] Q
def yC:[a,b,c,d].Perm ([a,c,d]++([b]++[])):=.cons a<|.symm<|sk
def yD:[a,b,c,d].Perm [a,d,b,c]:=.cons a<|sk (l₁:=[b,c])
def yE(L:l≠[]):kE x F b aj (.call (.builtin "max") #[[.ref p],[]]) [(p,aa #[l.map aO] n)] (pN<|mx<|l.map (·.1)):=λw c B s A K C H=>gN (Yj (R:=λr T h=>h=[]/\∃S,r=pN _ S) L C.2.1 H (bc<|.head _) λD=>#[rfl,D,rfl]) λr P z=>cp z λT h l W q=>ct q λe q=>dq q λS U=>bY T S l (by subst e;rw[W]) U
def aqz{z it ac H sd nw na ns n nl i kt:N}(Y:F (z+6) (ak (aB x.P es) nw))(d:F (z+1) (aC<|some<|.ref<|z+6))(hs:F sd (ak (aB x.P G) ns))(hi:es[i]? =some (k,kt,.ref n))(hk:aZ es k=some (kt,.ref n))(a:F n (aa #[[]] nl))(hz:D.length<=1000)(h:uH x z it ac H sd nw i es D k kt (mx [0]) F Q):ay x aj 580 (cc z 2 it ac H) F [fE x z it es nw i,(ac,aa #[D] na),dP x H o,fh z sd] Q:=.perm yC<|rS (O:=[(z+6,ak (aB x.P es) nw),(z+1,aC (some (.ref (z+6)))),(sd,ak (aB x.P G) ns),(n,aa #[[]] nl)]) #[Y,d,hs,a,ab] λB K=>hG 1 λc u f g A=>bu (Wt o x) ab #[f_<|hI hz,yE (l:=[(0,K+1)])<|dl _ _,#[by lk,show 1+0<=16777216 by decide],iH hk,rH hi,ab] rfl u<|.pu (L1:=[_,_,_])<|.perm yD<|h _ _ _ _ _ (cb u)<|bc<|.head _
def aqA{z it ac H sd nw na ns n nl i kt:N}{Z j b w:N}(Y:F (z+6) (ak (aB x.P es) nw))(d:F (z+1) (aC<|some<|.ref<|z+6))(hs:F sd (ak (aB x.P G) ns))(hi:es[i]? =some (k,kt,.ref n))(hk:aZ es k=some (kt,.ref n))(e:F n (aa #[[.str #[#[J]] Z]] nl))(a:aZ G J=some (w,aO (j,b)))(hz:D.length<=1000)(h:uH x z it ac H sd nw i es D k kt (mx [0,j+1]) F Q):ay x aj 580 (cc z 2 it ac H) F [fE x z it es nw i,(ac,aa #[D] na),dP x H o,fh z sd] Q:=.perm yC<|rS (O:=[(z+6,ak (aB x.P es) nw),(z+1,aC (some (.ref (z+6)))),(sd,ak (aB x.P G) ns),(n,aa #[_] nl)]) #[Y,d,hs,e,ab] λB K=>hG 1 λc u f g A=>bu (Wu o x) ab #[f_<|hI hz,yE (l:=[(0,K+1),(j+1,K+6)])<|dl _ _,#[by lk,show 1+1<=16777216 by decide],iH a,iH hk,rH hi,ab] rfl u<|.pu (L1:=[_,_,_])<|.perm yD<|h _ _ _ _ _ (cb u)<|bc<|.head _
def aqB{z it ac H sd nw na ns n nl i kt:N}{Z j b w:N}{C:!N}{J T t L:N}(Y:F (z+6) (ak (aB x.P es) nw))(d:F (z+1) (aC<|some<|.ref<|z+6))(hs:F sd (ak (aB x.P D) ns))(hi:es[i]? =some (k,kt,.ref n))(hk:aZ es k=some (kt,.ref n))(e:F n (aa #[[.str #[#[U]] Z,.str #[#[C]] J]] nl))(a:aZ D U=some (w,aO (j,b)))(M:aZ D C=some (L,aO (T,t)))(hz:G.length<=1000)(h:uH x z it ac H sd nw i es G k kt (mx [0,j+1,T+1]) F Q):ay x aj 580 (cc z 2 it ac H) F [fE x z it es nw i,(ac,aa #[G] na),dP x H o,fh z sd] Q:=.perm yC<|rS (O:=[(z+6,ak (aB x.P es) nw),(z+1,aC (some (.ref (z+6)))),(sd,ak (aB x.P D) ns),(n,aa #[_] nl)]) #[Y,d,hs,e,ab] λB K=>hG 1 λc u f g A=>bu (Wv o x) ab #[f_<|hI hz,yE (l:=[(0,K+1),(j+1,K+6),(T+1,K+10)])<|dl _ _,#[by lk,show 1+2<=16777216 by decide],iH M,iH a,iH hk,rH hi,ab] rfl u<|.pu (L1:=[_,_,_])<|.perm yD<|h _ _ _ _ _ (cb u)<|bc<|.head _
def aqC{z it ac H sd nw na ns n nl i kt:N}{Z j b w:N}{C:!N}{J T t L:N}{I:!N}{p e q a:N}(Y:F (z+6) (ak (aB x.P es) nw))(d:F (z+1) (aC<|some<|.ref<|z+6))(hs:F sd (ak (aB x.P D) ns))(hi:es[i]? =some (k,kt,.ref n))(hk:aZ es k=some (kt,.ref n))(r:F n (aa #[[.str #[#[U]] Z,.str #[#[C]] J,.str #[#[I]] p]] nl))(m:aZ D U=some (w,aO (j,b)))(M:aZ D C=some (L,aO (T,t)))(X:aZ D I=some (a,aO (e,q)))(hz:G.length<=1000)(h:uH x z it ac H sd nw i es G k kt (mx [0,j+1,T+1,e+1]) F Q):ay x aj 580 (cc z 2 it ac H) F [fE x z it es nw i,(ac,aa #[G] na),dP x H o,fh z sd] Q:=.perm yC<|rS (O:=[(z+6,ak (aB x.P es) nw),(z+1,aC (some (.ref (z+6)))),(sd,ak (aB x.P D) ns),(n,aa #[_] nl)]) #[Y,d,hs,r,ab] λB K=>hG 1 λc u f g A=>bu (Ww o x) ab #[f_<|hI hz,yE (l:=[(0,K+1),(j+1,K+6),(T+1,K+10),(e+1,K+14)])<|dl _ _,#[by lk,show 1+3<=16777216 by decide],iH X,iH M,iH m,iH hk,rH hi,ab] rfl u<|.pu (L1:=[_,_,_])<|.perm yD<|h _ _ _ _ _ (cb u)<|bc<|.head _
def QU{z it ac H sd nw na ns i:N}{W:b5}{f:!SD}{os:!(!N)}(g:Wl x F z nw es W)(hs:F sd (ak (aB x.P<|f.map dk) ns))(d:W[i]? =some (k,os))(I:∀o∈os,∃m,aZ (f.map b7) o=some m)(hz:a6.length<=1000)(h:∀kt,uH x z it ac H sd nw i es a6 k kt (fD (f.map b7) os) F Q):ay x aj 580 (cc z 2 it ac H) F [fE x z it es nw i,(ac,aa #[a6] na),dP x H o,fh z sd] Q:=by
 rw[HS (g.at_ d) λkt n s R l M X c=>?_];subst c;have r:=g.l _<|uK d;rw[aU]at r;have h:=h kt;have a:∀y∈R,∃m D A,aZ (f.map dk) y.1=some (D,aO (m,A))/\(aZ (f.map b7) y.1).getD 0+1=m+1:=λy P=>by rw[dq (I y.1<|bw P) λm u=>fW (EJ u) λD A U=>ve m D A U (by rw[u,];rfl)]
 revert X h a
 rw[le3 ?_ (λZ=>?_) (λZ J=>?_) (λZ J p=>?_) R r]<;>intro X h a
 .rw[aqz g.d g.c hs l M X hz h]
 .rw[jg (a Z<|.head _) λj Y b w K=>?_]
  simp only[fD,bW,sg,K]at h;rw[aqA g.d g.c hs l M X w hz h]
 .rw[jg (a Z<|.head _) λj Y b w K=>jg (a J<|.tail _<|.head _) λT G t L O=>?_]
  simp only[fD,bW,sg,K,O]at h;rw[aqB g.d g.c hs l M X w L hz h]
 .rw[jg (a Z<|.head _) λj Y b w K=>jg (a J<|.tail _<|.head _) λT G t L O=>jg (a p<|.tail _<|.tail _<|.head _) λe E q C B=>?_]
  simp only[fD,bW,sg,K,O,B]at h;rw[aqC g.d g.c hs l M X w L C hz h]
inductive Ak (x:Wd) (z ac cl sd:N) (S:fQ) (F':Fs):aL->ao->Prop
 |mk (au na y) (h1:kC F' au S):Ak x z ac cl sd S F' (.ok .next) [(ac,aa #[iR au] na),dP x cl (some y),fh z sd]
def zx(W:b5)(S:fQ):Prop:=∀p∈W,∀Y∈p.2,∃E,aZ S Y=some E
def afy{z it ac H sd nw ns:N}{W:b5}{f:!SD}(c:zx W (f.map b7))(b:W.length<=1000):∀{n i au na y F},Wl x F z nw es W->F sd (ak (aB x.P<|f.map dk) ns)->kC F au ((W.take i).map λp=>(p.1,fD (f.map b7) p.2))->i+n=W.length->ay x aj 580 (cc z 2 it ac H) F [fE x z it es nw i,(ac,aa #[iR au] na),dP x H<|some y,fh z sd] (Ak x z ac H sd<|rQ W<|f.map b7):=by
 intro n;induction n with
 |zero=>
  intro i au na y F g o I w;have e:i=es.length:=by simp only[g.len];rw[Mi w]
  subst e;simp only[qz<|Mj w]at I;rw[bJ (L:=[fE x z it es nw es.length]) (O:=[(z+6,ak (aB x.P es) nw)]) #[g.d,ab] λB K=>bp (WL z it ac H B K nw _ _ _ (aB x.P es) x) ab #[El,ab] (aV) #[au,na,y,I.to an]]
 |succ n C=>intro i au na y F g o I w;have m:=rz w;rw[QU g o (k:=(W[i]).1) (os:=(W[i]).2) (eH m) (c _<|nh m) (yk I.s b) λh T y a A d l j=>?_];have z:=C (au:=au++[(a,(W[i]).1,h,fD (f.map b7) (W[i]).2,A)]) (na:=d) (y:=y) (g.to l) (l _ _ o) (by simp only[l6 m,bf];rw[(I.to l).push j])<|pK w;unfold iR at z;rw[bf]at z;rw[z]
def Hp{z it ac H sd nw ns na:N}{W:b5}{f:!SD}(b:zx W (f.map b7))(c:W≠[])(i:W.length<=1000)(g:Wl x F z nw es W)(hs:F sd (ak (aB x.P<|f.map dk) ns)):ay x aj 580 (gy z 2 it ac H) F [fE x z it es nw 0,(ac,aa #[[]] na),(H,ak [] 0),fh z sd] (Ak x z ac H sd<|rQ W<|f.map b7):=by have m:=ni.mpr c;rw[bJ (L:=[fE x z it es nw 0]) (O:=[]) ab λB K=>bu (WM z it ac H B K _ _ _ x) ab ab rfl (aV)<|QU (o:=none) (g.to an) (an _ _ hs) (k:=(W[0]).1) (os:=(W[0]).2) (eH m) (b _<|nh m) (dm _) λh T y a A d l e=>afy b i (au:=[(a,(W[0]).1,h,fD (f.map b7) (W[0]).2,A)]) (g.to λa Y U=>l a Y<|an a Y U) (l _ _<|an _ _ hs) ⟨λp I=>by rw[(iA.mp I)▸e],by rw[(l6 m)▸?_];rfl⟩<|tY m]
end
def yA:∀{l:!(!N×D)},k∈l.map (·.1)->∃v,aZ l k=some v
 |e::l,U=>by
  simp only[aZ];by_cases q:e.1=k
  .rw[(if_pos q)▸#[_,rfl]]
  .rw[(if_neg q)▸(yA<|(aY.mp U).resolve_left λU=>q U.symm)]
def lV(W):∀k,(bZ W k).map (·.1)=W.map (·.1)
 |0=>by show(W.map _).map _=_;rw[bI,];rfl
 |n+1=>by show(W.map _).map _=_;rw[bI,];rfl
def jx(W:b5):Prop:=∀p∈W,∀Y∈p.2,Y∈W.map (·.1)
def jx.steps{W:b5}(h:jx W)(k:N):zx W (bZ W k):=λp I Y y=>yA (by rw[lV,];rw[h p I Y y])
section
variable{x:Wd}
inductive Tz (x:Wd) (hd:Mk) (b:N) (F0:Fs) (Q:Po) (k0:aL->aR->av) (Z:ao) (r:aL) (F':Fs) (L':ao):Prop where
 |mk (L3 Y3:ao) (pm:(L'++Z).Perm (L3++Y3)) (h:!N) (gv:!af) (O:ao) (hO:gB F' O) (k:∀n t,1<n->Go x hd b F0 Q F' Y3 λU=>k0 r (cf L3 n t h gv O U))
def arz(P):(T P 913).isSome=true:=by lk
def IB{K:aL->aR->av}{au:!Prop}{Lc Z:ao}(e:∀Z,Ev (o Z) Z bl (.pend a6 bb c K) L1 L2 a7 au)(j:AB a7)(I:AP au)(h:(L1++Y).Perm (Lc++Z))(g:ay x bb a6 c (fz F L2) Lc Qc)(k:∀r F' L',Le (fz F L2) F'->Qc F' r L'->Tz x a8 b F0 Q K Z r F' L'):Go x a8 b F0 Q F Y o:=λw B A C f=>by rw[va (e<|Y++w) j I λz m M s n d L=>gN (u_<|g (Z++w) B s n L<|.side m M f d h) λr P y=>cp y λF' L' l W q=>?_];obtain⟨H,p,R,U,t,J,u,O⟩:=k r F' L' l q;rw[<-b4]at W;have D:=W.perm<|R.append_right w;rw[b4]at D;obtain⟨G,i⟩:=uP.mp<|arz x.P;rw[⟨F',λa o U=>l a o<|.inl U,_,D.run u,O _ _ (sx ζ<|iJ<|D.rep.fr _ _<|D.base.top 913 G i) w B A C D.base⟩]
abbrev jF(x:Wd)(w:gD)(t:iM)(f5:N)(v5:af):aH×Obj:=(w.z,az (gY x w t [V x.P ez f5 v5]) 6)
abbrev FC(x:Wd)(w:gD)(t:iM)(W:b5)(it k n:N)(F:Fs)(Q:Po):Prop:=∀T a b i K,∀sl:!SD,Le F T->1<i->T i (ak (aB x.P<|sl.map dk) K)->sl.map b7=bZ W (k+1)->ay x aj 590 (d4 w.z 6 it) T [jF x w t a b,(it,eE k n),fh w.z i] Q
def arL{W:b5}{f:!SD}(l:jx W)(j:W≠[])(i:W.length<=1000)(g:Wl x F w.z nw es W)(hs:F sd (ak (aB x.P<|f.map dk) ns))(hk:f.map b7=bZ W k)(h:FC x w t W it k n F Q):ay x aj 590 (d4 w.z 6 it) F [gh x w t,(it,cH k<|n+1),fh w.z sd] Q:=by
 rw[bJ (L:=[gh x w t,(it,cH k<|n+1)]) (O:=[(w.z+1,aC<|some<|.ref<|w.z+6),(w.z+6,ak (aB x.P es) nw)]) ⟨g.c,g.d,ab⟩ λB K=>IB (Z:=[jF x w t (K+1)<|.int (ad k) K,(it,eE k n)]) (Xc w t B K it k nw n (aB x.P es) x) ab ab (pm [[fE x w.z B es nw 0,(B+1,aa #[[]] 0),(B+2,ak [] 0)],_,[fh w.z sd]] (.p (.p (.a 0)<|.a 1)<|.a 2) (.p (.p (.a 0)<|.a 2)<|.a 1) rfl) ((Hp (hk▸l.steps k) j i (g.to an)<|an _ _ hs).le ζ λ_ _ _ _ U=>U) λr c H u q=>q.casesOn λR b y I=>?_];have o:((rQ W<|f.map b7).map (·.1)).Nodup:=by rw[hk,];show((bZ W<|k+1).map (·.1)).Nodup;rw[lV,];rw[g.n]
 rw[#[_,[fh w.z sd],pm [[(B+1,aa #[iR R] b),dP x (B+2)<|some y],[fh w.z sd],_] (.p (.p (.a 0)<|.a 1)<|.a 2) (.p (.p (.a 2)<|.a 0)<|.a 1) rfl,_,_,[],ab,λJ G e=>bP (Z:=[jF x w t (K+1)<|.int (ad k) K,(it,eE k n),fh w.z sd]) (Xe w t B K it k J G b y.1 n (iR R) y.2 x) ab ab (.refl _) (E7 rfl (bc<|.head _) (I.to an) (MI i (by have:=congrArg gT I.s;simpa[rQ]using this)) o) λr s A m q=>(q.casesOn λd P M=>#[_,[],pm [[(J,ak (aB x.P<|P.map dk) d)],_] (.p (.a 0)<|.a 1) (.p (.p (.a 1)<|.a 0) .z) rfl,_,_,[],ab,λD E=>bu (Xa w t B K it k J D E d n (some<|.ref sd) (aB x.P<|P.map dk) x) ab ab rfl (dR (cb<|bO u) m)<|h _ (K+1) (.int (ad k) K) J d P (cb<|dR (cb<|bO u) m) e (bc<|.head _) (by simp only[M,hk];rfl)])]]
def arM{W:b5}{f:!SD}(l:jx W)(j:W≠[])(i:W.length<=1000)(g:Wl x F w.z nw es W)(hs:F sd (ak (aB x.P<|f.map dk) ns))(hk:f.map b7=bZ W k)(h:FC x w t W it k n F Q):ay x aj 590 (d4 w.z 6 it) F [jF x w t f5 v5,(it,cH k<|n+1),fh w.z sd] Q:=by
 rw[bJ (L:=[jF x w t f5 v5,(it,cH k<|n+1)]) (O:=[(w.z+1,aC<|some<|.ref<|w.z+6),(w.z+6,ak (aB x.P es) nw)]) ⟨g.c,g.d,ab⟩ λB K=>IB (Z:=[jF x w t f5<|.int (ad k) K,(it,eE k n)]) (Xd w t B K it k nw n f5 (aB x.P es) v5 x) ab ab (pm [[fE x w.z B es nw 0,(B+1,aa #[[]] 0),(B+2,ak [] 0)],_,[fh w.z sd]] (.p (.p (.a 0)<|.a 1)<|.a 2) (.p (.p (.a 0)<|.a 2)<|.a 1) rfl) ((Hp (hk▸l.steps k) j i (g.to an)<|an _ _ hs).le ζ λ_ _ _ _ U=>U) λr c H u q=>q.casesOn λR b y I=>?_];have o:((rQ W<|f.map b7).map (·.1)).Nodup:=by rw[hk,];show((bZ W<|k+1).map (·.1)).Nodup;rw[lV,];rw[g.n]
 rw[#[_,[fh w.z sd],pm [[(B+1,aa #[iR R] b),dP x (B+2)<|some y],[fh w.z sd],_] (.p (.p (.a 0)<|.a 1)<|.a 2) (.p (.p (.a 2)<|.a 0)<|.a 1) rfl,_,_,[],ab,λJ G e=>bP (Z:=[jF x w t f5<|.int (ad k) K,(it,eE k n),fh w.z sd]) (Xf w t B K it k J G b y.1 n f5 (iR R) y.2 x) ab ab (.refl _) (E7 rfl (bc<|.head _) (I.to an) (MI i (by have:=congrArg gT I.s;simpa[rQ]using this)) o) λr s A m q=>(q.casesOn λd P M=>#[_,[],pm [[(J,ak (aB x.P<|P.map dk) d)],_] (.p (.a 0)<|.a 1) (.p (.p (.a 1)<|.a 0) .z) rfl,_,_,[],ab,λD E=>bu (Xb w t B K it k J D E d n f5 (some<|.ref sd) (aB x.P<|P.map dk) x) ab ab rfl (dR (cb<|bO u) m)<|h _ f5 (.int (ad k) K) J d P (cb<|dR (cb<|bO u) m) e (bc<|.head _) (by simp only[M,hk];rfl)])]]
inductive Al (x:Wd) (w:gD) (t:iM) (W:b5) (F':Fs):aL->ao->Prop
 |mk (f5 v5 sd ns) (sl:!SD) (h1:1<sd) (h2:F' sd (ak (aB x.P (sl.map dk)) ns)) (h3:sl.map b7=bZ W 9):Al x w t W F' (.ok .next) [jF x w t f5 v5,fh w.z sd]
def afz{W:b5}(d:jx W)(b:W≠[])(i:W.length<=1000):∀{n k f5 v5 sd ns} {D:!SD} {F},Wl x F w.z nw es W->1<sd->F sd (ak (aB x.P<|D.map dk) ns)->D.map b7=bZ W k->k+n=9->ay x aj 590 (d4 w.z 6 it) F [jF x w t f5 v5,(it,cH k n),fh w.z sd] (Al x w t W):=by
 intro n;induction n with
 |zero=>intro k f5 v5 sd ns D F g C o c e;obtain rfl:k=9:=e;rw[.perm (pm [[jF x w t f5 v5],[(it,cH 9 0)],[fh w.z sd]] (.p (.a 0)<|.p (.a 1)<|.a 2) (.p (.a 1)<|.p (.a 0)<|.a 2) rfl)<|bJ (L:=[(it,cH 9 0)]) (Y:=[jF x w t f5 v5,fh w.z sd]) (O:=[]) ab λB K=>bp (W_ B K w.z it 9 x) ab ab (aV) #[f5,v5,sd,ns,D,C,an _ _ o,c]]
 |succ n f=>intro k f5 v5 sd ns D F g C o c e;rw[arM d b i g o c λT f5 v5 sd ns D l C o c=>?_];rw[yI,];rw[f (g.to l) C o c<|Dk e]
def Zr{W:b5}{f:!SD}(c:jx W)(L:W≠[])(i:W.length<=1000)(g:Wl x F w.z nw es W)(hs:F sd (ak (aB x.P<|f.map dk) ns))(hk:f.map b7=bZ W 0):ay x aj 590 (d4 w.z 6 it) F [gh x w t,(it,cH 0 9),fh w.z sd] (Al x w t W):=
 arL c L i g hs hk λT a b sd ns f l C hs hk=>by rw[afz c L i (g.to l) C hs hk rfl]
end
def GP(S:fQ)(k:N)(l:!(!N)):Prop:=l.Perm ((S.filter λp=>decide<|p.2=k).map (·.1))/\oG l
abbrev jN(l:!(!N)):PV:=.lst<|l.map .str
section
variable{x:Wd}
abbrev mC(H c t:N):aH×Obj:=(H+1,aC<|some<|.int (ad c) t)
abbrev SM(x:Wd)(z H it ac a nw i c t:N)(es:!De)(S:!af)(F:Fs)(Q:Po):Prop:=∀T y d,Le F T->ay x aj 580 (oz z H it ac a) T [fE x z it es nw<|i+1,(ac,aa #[S] d),dP x a<|some y,mC H c t] Q
def QX{z H it ac a sd nw na ns i kt m mt c t g:N}(Y:F (z+6) (ak (aB x.P es) nw))(d:F (z+3) (aC<|some<|.ref sd))(hs:F sd (ak (aB x.P G) ns))(hi:es[i]? =some (k,kt,v))(hk:aZ G k=some (g,aO (m,mt)))(hz:D.length<=1000)(h:SM x z H it ac a nw i c t es (if m=c then D++[ax (k,kt)]else D) F Q):ay x aj 580 (oz z H it ac a) F [fE x z it es nw i,(ac,aa #[D] na),dP x a o,mC H c t] Q:=by
 have u:gB F [(z+6,ak (aB x.P es) nw),(z+3,aC<|some<|.ref sd),(sd,ak (aB x.P G) ns)]:=#[Y,d,hs,ab];by_cases e:m=c
 .rw[if_pos e]at h
  have j:(ad m==ad c)=true:=e▸beq_self_eq_true _;rw[iW u λB K=>bu (WQ o x) #[j,ab] #[f_<|hI hz,iH hk,rH hi,ab] rfl (aV)<|.pu (L1:=[_])<|h _ _ _ an]
 .rw[if_neg e]at h
  have j:(ad m==ad c)=false:=by rw[beq_eq_false_iff_ne,];exactλq=>e<|SH q
  rw[iW u λB K=>bu (WO o x) #[j,ab] #[iH hk,rH hi,ab] rfl (aV)<|h _ _ _ an]
structure Sl (x:Wd) (F:Fs) (z sd ns:N) (sl:!SD) (W:b5):Prop where
 c:F (z+3) (aC (some (.ref sd)))
 d:F sd (ak (aB x.P (sl.map dk)) ns)
 k:(sl.map b7).map (·.1)=W.map (·.1)
def Sl.to{F F':Fs}(T:Le F F'){z sd ns:N}{f:!SD}{W:b5}(h:Sl x F z sd ns f W):Sl x F' z sd ns f W:=#[T _ _ h.c,T _ _ h.d,h.k]
def Sl.len{F:Fs}{z sd ns:N}{f:!SD}{W:b5}(h:Sl x F z sd ns f W):f.length=W.length:=by have:=congrArg gT h.k;simpa using this
def Sl.at_{F:Fs}{z sd ns:N}{f:!SD}{W:b5}(h:Sl x F z sd ns f W)(w:(W.map (·.1)).Nodup){i:N}(hi:i<W.length)(r:i<f.length):aZ (f.map dk) (W[i]).1=some ((f[i]).2.1,aO (f[i]).2.2)/\(f[i]).1=(W[i]).1:=by
 have e:(f[i]).1=(W[i]).1:=by have:=congrArg (λl=>l[i]?) h.k;simpa[hi,r]using this
 rw[#[mN ?_ ?_,e]]
 .have:(f.map dk).map (·.1)=(f.map b7).map (·.1):=by simp only[bI,bI];rfl
  rw[this▸h.k▸w]
 .rw[e▸bw (nh r)]
abbrev rJ(c:N)(S:fQ):!(!N):=(S.filter λp=>decide<|p.2=c).map (·.1)
def yK(c S p):rJ c (S++[p])=if p.2=c then rJ c S++[p.1]else rJ c S:=by
 unfold rJ;simp only[SZ,bf];by_cases e:p.2=c
 .rw[if_pos e,ng<|by simpa using e];rfl
 .rw[if_neg e,oO<|by simpa using e];simp
inductive Am (x:Wd) (ac cl2 cl c tc:N) (S:fQ) (F':Fs):aL->ao->Prop
 |mk (au:!(!N×N)) (na:N) (y:N×af) (h1:au.map (·.1)=rJ c S):Am x ac cl2 cl c tc S F' (.ok .next) [(ac,aa #[au.map ax] na),dP x cl2 (some y),mC cl c tc]
def PK{au:!(!N×N)}(h:au.map (·.1)=rJ c S):au.length<=S.length:=by have:=congrArg gT h;simp only[aU,aU]at this;rw[this,];rw[FU _ _]
def LG{z H it ac a sd nw ns c t:N}{W:b5}(j:W.length<=1000):∀{n i} {au:!(!N×N)} {na y F},Wl x F z nw es W->Sl x F z sd ns D W->au.map (·.1)=rJ c ((D.map b7).take i)->i+n=W.length->ay x aj 580 (oz z H it ac a) F [fE x z it es nw i,(ac,aa #[au.map ax] na),dP x a<|some y,mC H c t] (Am x ac a H c t<|D.map b7):=by
 intro n;induction n with
 |zero=>intro i au na y F g o I w;have e:=g.len▸Mi w;subst e;rw[qz (by simp only[aU,o.len,g.len];rw[d8 _])]at I;rw[bJ (L:=[fE x z it es nw es.length]) (O:=[(z+6,ak (aB x.P es) nw)]) #[g.d,ab] λB K=>bp (WN B K z it ac H nw a (aB x.P es) _ _ _ x) ab #[El,ab] (aV) #[au,na,y,I]]
 |succ n C=>
  intro i au na y F g o I w;have m:=rz w;have r:i<D.length:=by rw[o.len,];rw[m]
  rw[ct (o.at_ g.n m r) λf M=>lz (g.at_ (k:=(W[i]).1) (os:=(W[i]).2)<|eH m) λh p s R X U=>?_];have b:(D.map b7).take (i+1)=(D.map b7).take i++[b7 D[i]]:=by rw[l6 (by rw[aU,];rw[r]),S9]
  refine QX g.d o.c o.d X f (by rw[aU,];rw[bT (PK I)<|bT (FV _ _)<|iK<|wS m j]) λT y d l=>?_;by_cases e:(D[i]).2.2.1=c
  .rw[if_pos e,]
   have z:=C (au:=au++[((W[i]).1,h)]) (na:=d) (y:=y) (g.to l) (o.to l) (by rw[b,yK,if_pos e,bf,I,<-M];rfl)<|pK w;rw[bf]at z;rw[z]
  .rw[if_neg e,]
   rw[C (g.to l) (o.to l) (by rw[b,yK,if_neg e,I])<|pK w]
def VW{z H it ac a sd nw ns na c t:N}{W:b5}(j:W≠[])(f:W.length<=1000)(g:Wl x F z nw es W)(hs:Sl x F z sd ns D W):ay x aj 580 (EA z H it ac a) F [fE x z it es nw 0,(ac,aa #[[]] na),(a,ak [] 0),mC H c t] (Am x ac a H c t<|D.map b7):=by
 have m:=ni.mpr j;have r:0<D.length:=by rw[hs.len,];rw[m]
 rw[ct (hs.at_ g.n m r) λp M=>lz (g.at_ (k:=(W[0]).1) (os:=(W[0]).2)<|eH m) λh n s R X U=>?_];have b:(D.map b7).take 1=[]++[b7 D[0]]:=by rw[l6 (by rw[aU,];rw[r]),S9];rfl
 rw[bJ (L:=[fE x z it es nw 0]) (O:=[]) ab λB K=>bu (WP B K z it ac H a _ _ _ x) ab ab rfl (aV)<|QX (o:=none) (an _ _ g.d) (an _ _ hs.c) (an _ _ hs.d) X p (dm _) λT y d l=>?_];have Q:=bO l;by_cases e:(D[0]).2.2.1=c
 .rw[if_pos e,]
  rw[LG f (i:=1) (au:=[((W[0]).1,h)]) (g.to Q) (hs.to Q) (by rw[b,yK,if_pos e,<-M];rfl)<|tY m]
 .rw[if_neg e,]
  rw[LG f (i:=1) (au:=[]) (g.to Q) (hs.to Q) (by rw[b,yK,if_neg e];rfl)<|tY m]
def j6(S:fQ)(ls:!(List<|List N)):Prop:=∀K l,ls[K]? =some l->GP S K l
def j6.push{S:fQ}{ls:!(List<|List N)}{l:!(!N)}(h:j6 S ls)(a:GP S ls.length l):j6 S (ls++[l]):=λK Q e=>by
 rcases zT K ls.length with q|q|q
 .rw[S7 q]at e;rw[h K Q e]
 .subst q;rw[oP<|d8 _]at e;simp at e;rw[e▸a]
 .rw[FS (by simp;rw[L8 q])]at e;cases e
inductive An (x:Wd) (ac cl:N) (S:fQ) (F':Fs):aL->ao->Prop
 |mk (vs na vo ls) (h1:aM F' (ls.map jN) vs) (h2:ls.length=9) (h3:j6 S ls):An x ac cl S F' (.ok .next) [(ac,aa #[vs] na),(cl,ak [] 0),(cl+1,aC vo)]
def afA{z it ac H sd nw ns:N}{W:b5}(L:W≠[])(i:W.length<=60):∀{n k na vs ls vo F},Wl x F z nw es W->Sl x F z sd ns a6 W->aM F (ls.map jN) vs->j6 (a6.map b7) ls->ls.length=k->k+n=9->ay x aj 590 (cc z 4 it ac H) F [(it,cH k n),(ac,aa #[vs] na),(H,ak [] 0),(H+1,aC vo)] (An x ac H<|a6.map b7):=by
 intro n;induction n with
 |zero=>intro k na vs ls vo F g o X f c e;obtain rfl:k=9:=e;rw[bJ (O:=[]) ab λB K=>bp (WY B K z it ac H 9 x) ab ab (aV) #[vs,na,vo,ls,X.to an,c,f]]
 |succ n C=>intro k na vs ls vo F g o X f c e;have Q:=X.length;rw[aU]at Q;rw[.perm (pm [[(it,cH k<|n+1)],[(ac,aa #[vs] na)],[(H,ak [] 0)],_] (.p (.a 0)<|.p (.a 1)<|.p (.a 2)<|.a 3) (.p (.p (.a 0)<|.p (.a 2)<|.a 3)<|.a 1) rfl) (bJ (Y:=[(ac,aa #[vs] na)]) (O:=[(z+6,ak (aB x.P es) nw),(z+1,aC<|some<|.ref<|z+6)]) ⟨g.d,g.c,ab⟩ λB K=>bP (Z:=[(it,eE k n),(H,ak [] 0),(ac,aa #[vs] na)]) (W6 B K z it ac H n k nw (aB x.P es) vo x) ab ab (pm [[fE x z B es nw 0,(B+1,aa #[[]] 0),(B+2,ak [] 0),mC H k K],_,_] (.p (.p (.a 0)<|.a 1)<|.a 2) (.p (.a 0)<|.p (.a 1)<|.a 2) rfl) ((VW L (Mf i) (g.to an)<|o.to an).le ζ λ_ _ _ _ U=>U) λr s M u q=>q.casesOn λR b y I=>?_)];have P:=PK I;simp only[aU,o.len]at P;have j:=bO u;rw[#[_,[mC H k K,(ac,aa #[vs] na)],pm [[(B+1,aa #[R.map ax] b),dP x (B+2)<|some y],[mC H k K],[(it,eE k n),(H,ak [] 0)],_] (.p (.p (.a 0)<|.a 1)<|.p (.a 2)<|.a 3) (.p (.p (.a 2)<|.a 0)<|.p (.a 1)<|.a 3) rfl,_,_,[],ab,λt G=>jh (Lc:=[]) (W8 B z it ac H n k b y.1 t G y.2 (R.map ax) x) ab ab (.refl _) λw a8 a7 A S m=>H3 m (m.rep.fr _ _<|bc<|.head _) (.inl rfl) rfl rfl (ags i P) λq d h l J=>#[_,_,pm [[(q,aa #[h.map ax] d)],[(it,eE k n)],[(H,ak [] 0)],[mC H k K],_] (.p (.a 0)<|.p (.a 1)<|.p (.a 2)<|.p (.a 3)<|.a 4) (.p (.p (.a 1)<|.p (.a 4)<|.a 2)<|.p (.a 0)<|.a 3) rfl,_,_,[],ab,λD E=>bu (W9 z it ac H n k q na D E vs x) ab #[f_<|agt c e Q,ab] rfl (cb j) ?_]]];rw[kr,];rw[.perm (pm [[(it,eE k n)],[(ac,aa #[vs++[aF q]]<|na+1)],_,_,[mC H k K]] (.p (.p (.a 0)<|.p (.a 1)<|.a 2)<|.p (.a 3)<|.a 4) (.p (.a 3)<|.p (.a 0)<|.p (.a 1)<|.p (.a 2)<|.a 4) rfl)<|.vc (L2:=[(q,aa #[h.map ax] d)]) ?_];rw[yI,];have T:Le F (fz (fz (fz s [(B+1,aa #[R.map ax] b)]) []) [(q,aa #[h.map ax] d)]):=cb<|cb<|cb j;rw[C (ls:=ls++[h.map (·.1)]) (g.to T) (o.to T) (by rw[bf,];rw[(X.to T).push<|dW.mpr<|gE q _ d rfl (bc<|.head _) yR]) (f.push<|c▸#[l.trans<|by rw[I,],J]) (by simp[c])<|Dk e]
def VX{z it ac H sd nw ns na:N}{W:b5}(L:W≠[])(i:W.length<=60)(g:Wl x F z nw es W)(hs:Sl x F z sd ns D W):ay x aj 590 (gy z 4 it ac H) F [(it,cH 0 9),(ac,aa #[[]] na),(H,ak [] 0),(H+1,aC vo)] (An x ac H<|D.map b7):=bJ (O:=[]) ab λB K=>bu (W5 B K z it ac H 9 x) ab ab rfl (aV)<|afA (ls:=[]) L i (g.to an) (hs.to an) .nil (λa l e=>by cases e) rfl rfl
end
section
variable{x:Wd}
abbrev t_(z R f:N):aH×Obj:=(z+2,aC<|some<|.int (ad R) f)
abbrev wh(z g t:N):aH×Obj:=(z+4,aC<|some<|.int (ad g) t)
abbrev fN(R g n:N):N:=n%16^5/16^R%g
abbrev fP(n:N):N:=n%16^5
def O3{l:!(N×N)}:ig (ar<|l.map aO) (ad l.length):=by show(ar<|l.map aO)[l.length]? =none;simp
def Pg(n):cj (ad n) (16^5) (ad<|n%16^5):=Ee ζ ζ rfl
def aoE(h:D<=5):16^D<2^64:=jA (Ts ζ h)<|ζ
def Pn(R):16^R≠0:=kB<|sA<|ζ
abbrev SJ(x:Wd)(z it ac H f k R a g m:N)(S:!af)(p:N)(F:Fs)(Q:Po):Prop:=∀T y d E,Le F T->ay x aj 580 (cc z 6 it ac H) T [(it,ba f<|k+1),(ac,aa #[S++[aO (p,E)]] d),fJ x H<|some y,t_ z R a,wh z g m] Q
def QY{z it ac H f k R a g m n ti ns na:N}(W:F f (aa #[xs] ns))(hi:xs[k]? =some (aO (n,ti)))(D:R<=5)(b:g≠0)(hz:G.length<=1000)(h:SJ x z it ac H f k R a g m G (fN R g n) F Q):ay x aj 580 (cc z 6 it ac H) F [(it,ba f k),(ac,aa #[G] na),fJ x H o,t_ z R a,wh z g m] Q:=iW (O:=[(f,aa #[xs] ns)]) #[W,ab] λB K=>bu (WU o x) ab #[f_<|hI hz,fZ b rfl,mL (Pn R) (aoE D) rfl,#[rfl,R,D,rfl,rfl],Pg n,hM hi,ab] rfl (aV)<|.pu (L1:=[_])<|h _ _ _ _ an
inductive Ai (x:Wd) (z ac cl lo tl si tz:N) (l:!(N×N)) (F':Fs):aL->ao->Prop
 |mk (vs:!(N×N)) (na:N) (y:N×af) (h1:vs.map (·.1)=l.map (λp=>fN lo si p.1)):Ai x z ac cl lo tl si tz l F' (.ok .next) [(ac,aa #[vs.map aO] na),fJ x cl (some y),t_ z lo tl,wh z si tz]
def afF{z it ac H f R a g m ns:N}(D:R<=5)(b:g≠0)(i:l.length<=900):∀{n k na} {vs:!(N×N)} {y F},F f (aa #[l.map aO] ns)->vs.map (·.1)=(l.take k).map (λp=>fN R g p.1)->k+n=l.length->ay x aj 580 (cc z 6 it ac H) F [(it,ba f k),(ac,aa #[vs.map aO] na),fJ x H<|some y,t_ z R a,wh z g m] (Ai x z ac H R a g m l):=by
 intro n;induction n with
 |zero=>intro k na vs y F W X w;obtain rfl:k=l.length:=w;simp only[wP]at X;rw[bJ (O:=[(f,aa #[l.map aO] ns)]) #[W,ab] λB K=>bp (WR B K z it ac H l.length ns f (l.map aO) x) ab #[O3,ab] (aV) #[vs,na,y,X]]
 |succ n C=>intro k na vs y F W X w;have c:=rz w;refine QY (n:=(l[k]).1) (ti:=(l[k]).2) W (by simp only[fj,eH c];rfl) D b (yk X<|bT i<|ζ) λT y d E le=>?_;have z:=C (vs:=vs++[(fN R g (l[k]).1,E)]) (na:=d) (y:=y) (le _ _ W) (by simp only[l6 c,bf,bf,X];rfl)<|pK w;rw[bf]at z;rw[z]
def VY{z it ac H f R a g m ns na:N}(D:R<=5)(b:g≠0)(L:0<l.length)(i:l.length<=900)(W:F f (aa #[l.map aO] ns)):ay x aj 580 (gy z 6 it ac H) F [(it,ba f 0),(ac,aa #[[]] na),(H,ak [] 0),t_ z R a,wh z g m] (Ai x z ac H R a g m l):=bJ (O:=[]) ab λB K=>bu (WT B K z it ac H f x) ab ab rfl (aV)<|QY (o:=none) (n:=(l[0]).1) (ti:=(l[0]).2) (an _ _ W) (by simp only[fj,eH L];rfl) D b (dm _) λT y d E le=>afF D b i (k:=1) (vs:=[(fN R g (l[0]).1,E)]) (le _ _<|an _ _ W) (by simp only[l6 L];rfl)<|tY L
abbrev SK(x:Wd)(z it ac H f k:N)(S:!af)(p:N)(F:Fs)(Q:Po):Prop:=∀T y d E,Le F T->ay x aj 580 (cc z 8 it ac H) T [(it,ba f<|k+1),(ac,aa #[S++[aO (p,E)]] d),fJ x H<|some y] Q
def Q0{z it ac H f k n ti ns na:N}(W:F f (aa #[xs] ns))(hi:xs[k]? =some (aO (n,ti)))(hz:D.length<=1000)(h:SK x z it ac H f k D (fP n) F Q):ay x aj 580 (cc z 8 it ac H) F [(it,ba f k),(ac,aa #[D] na),fJ x H o] Q:=iW (O:=[(f,aa #[xs] ns)]) #[W,ab] λB K=>bu (WX o x) ab #[f_<|hI hz,Pg n,hM hi,ab] rfl (aV)<|.pu (L1:=[_])<|h _ _ _ _ an
inductive Aj (x:Wd) (ac cl:N) (l:!(N×N)) (F':Fs):aL->ao->Prop
 |mk (vs:!(N×N)) (na:N) (y:N×af) (h1:vs.map (·.1)=l.map (λp=>fP p.1)):Aj x ac cl l F' (.ok .next) [(ac,aa #[vs.map aO] na),fJ x cl (some y)]
def afI{z it ac H f ns:N}(i:l.length<=900):∀{n k na} {vs:!(N×N)} {y F},F f (aa #[l.map aO] ns)->vs.map (·.1)=(l.take k).map (λp=>fP p.1)->k+n=l.length->ay x aj 580 (cc z 8 it ac H) F [(it,ba f k),(ac,aa #[vs.map aO] na),fJ x H<|some y] (Aj x ac H l):=by
 intro n;induction n with
 |zero=>intro k na vs y F W X w;obtain rfl:k=l.length:=w;simp only[wP]at X;rw[bJ (O:=[(f,aa #[l.map aO] ns)]) #[W,ab] λB K=>bp (WV B K z it ac H l.length ns f (l.map aO) x) ab #[O3,ab] (aV) #[vs,na,y,X]]
 |succ n C=>intro k na vs y F W X w;have c:=rz w;refine Q0 (n:=(l[k]).1) (ti:=(l[k]).2) W (by simp only[fj,eH c];rfl) (yk X<|bT i<|ζ) λT y d E le=>?_;have z:=C (vs:=vs++[(fP (l[k]).1,E)]) (na:=d) (y:=y) (le _ _ W) (by simp only[l6 c,bf,bf,X];rfl)<|pK w;rw[bf]at z;rw[z]
def V0{z it ac H f ns na:N}(L:0<l.length)(i:l.length<=900)(W:F f (aa #[l.map aO] ns)):ay x aj 580 (gy z 8 it ac H) F [(it,ba f 0),(ac,aa #[[]] na),(H,ak [] 0)] (Aj x ac H l):=bJ (O:=[]) ab λB K=>bu (WW B K z it ac H f x) ab ab rfl (aV)<|Q0 (o:=none) (n:=(l[0]).1) (ti:=(l[0]).2) (an _ _ W) (by simp only[fj,eH L];rfl) (dm _) λT y d E le=>afI i (k:=1) (vs:=[(fP (l[0]).1,E)]) (le _ _<|an _ _ W) (by simp only[l6 L];rfl)<|tY L
structure sO where
 f5:N
 v5:af
 f6:N
 v6:af
 f7:N
 cd:N
abbrev oi(x:Wd)(w:gD)(t:iM)(u:sO):aH×Obj:=(w.z,az (gY x w t [V x.P ez u.f5 u.v5,V x.P cE u.f6 u.v6,V x.P cg u.f7<|.ref u.cd]) 8)
abbrev AK(x:Wd)(u:sO)(R:!De)(nc:N):aH×Obj:=(u.cd,ak (aB x.P R) nc)
def Bl(hs:D<=16^5)(L:D≠0)(H:G<D):∃x1 u,ap (D+G)=x1::u/\o5 (ar (x1::u))/\j5 (i8<|ar<|fg<|ar (x1::u)) (some 1) none (i8<|ar<|(d_<|D+G).drop 1):=by
 rw[fW (jY<|AH (n:=D+G)<|akN L) λx1 u e=>?_];have c:=qM 6 (D+G)<|LS hs H;have Z:=AG<|D+G;rw[e]at c Z;rw[bY x1 u e ⟨λy b=>?_,?_⟩ ?_]
 .have:=Z y b
  rw[yd this]
 .rw[LT c]
 .have:=Pq (l:=d_<|D+G) (a:=1) (by unfold d_;rw[e,];simp) ζ (by unfold d_;rw[e,aU];rw[LT c])
  rw[(by unfold d_;rw[e,];rfl:fg (ar (x1::u))=d_ (D+G)),];rw[this]
def XL(hs:D<=16^5)(H:G<D)(e:ap (D+G)=x1::J):ay x aj 200 (.call (.ref 46) #[[.int (ad D+ad G) t],[]]) F [] (QB (x1::J)):=e▸EU (n:=D+G) rfl (akO hs H) (Me<|qM 6 (D+G)<|LS hs H)
def apl(h:Rp F (d6 (D,hi,G)) v):∃a y f Z,v=.ref a/\F a (aD [.int (ad D) f,.int (ad hi) Z,.ref y]):=by
 cases G with
 |none=>obtain⟨a,y,l,f,Z,e,c,M⟩:=Es h;rw[vf a y f Z e c]
 |some E=>obtain⟨a,y,d,i,l,f,Z,t,b,S,z,g⟩:=Er h;rw[vf a y f Z g.e g.a_]
abbrev EN(x:Wd)(w:gD)(t:iM)(u:sO)(it k:N)(vo c4 c5:Option af)(R:!De)(nc:N):ao:=[oi x w t u,(w.z+2,aC vo),(it,ba w.r k),(w.z+4,aC c4),(w.z+5,aC c5),AK x u R nc]
abbrev SO(x:Wd)(w:gD)(t:iM)(u:sO)(it k:N)(E:cJ)(F:Fs)(Q:Po):Prop:=∀T X d c a b R D,Le F T->bS T R (eR E)->ay x aj 590 (d4 w.z 10 it) T (EN x w #[t.f3,t.f4,X,d] u it (k+1) c a b R D) Q
def UQ(h:bS F G (eR D))(hk:k∉D.map (·.1))(a:D.length<=1000):j4 (.type "dict") (aB P G) #[#[k]]:=
 #[dM,jS _ _,by
  rw[lw,D5 (by rw[h.keys,bI];rw[hk])];rfl,by
  have:=h.length;rw[aU]at this;unfold aB;rw[aU,];rw[Mg a this]]
def Pr{l:!(N×N)}:kE x F b aj (.call (.builtin "sum") #[[.ref p],[]]) [(p,aa #[l.map aO] n)] (pN (l.map (·.1)).sum):=λw c B s A K C H=>gN (Bx (R:=λr T h=>h=[]/\∃S,r=pN _ S) C.2.1 H (bc<|.head _) λD=>#[rfl,D,rfl]) λr P z=>cp z λT h l W q=>ct q λe q=>dq q λS U=>bY T S l (by subst e;rw[W]) U
def DZ(hs:D<=16^5)(H:G<D)(e:ap (D+G)=x1::J):kE x F (b+200) aj (.call (.ref 46) #[[.int (ad D+ad G) t],[]]) [] (pB (x1::J)):=ay.Ei (λU=>XL hs H e)<|uN ..
end
section
variable{x:Wd}
def arN{it k nr R hi sd ns s g st d1 nc:N}{l:!(N×N)}(ok:gn (R,hi,bb))(A:F w.r (aa #[rs] nr))(ca:F (w.z+3) (aC<|some<|.ref sd))(hs:F sd (ak (aB x.P a8) ns))(I:F w.p (aa #[l.map aO] s))(X:3<=l.length)(i:l.length<=1000)(b0:rs[k]? =some v)(hv:Rp F (d6 (R,hi,bb)) v)(ch:aZ a8 (nm R hi)=some (g,aO (st,d1)))(bs:bS F a7 (eR a6))(hk:nm R hi∉a6.map (·.1))(hz:a6.length<=1000)(h:SO x w t u it k (a6++if st<9 then[(nm R hi,gM (l.map (·.1)) R hi)]else[]) F Q):ay x aj 590 (d4 w.z 10 it) F (EN x w t u it k vo c4 c5 a7 nc) Q:=by
 rw[lz (apl hv) λa y ck bt H o=>?_];subst H;rw[en ok λP C _=>?_];dsimp only at P C;by_cases q:st<9
 .rw[if_pos q]at h
  have ef:(l.take 3).length=3:=by rw[sb,];rw[sy X]
  have b:=Pn<|hi-R;have n:16^(hi-R)<=16^5:=Ts ζ<|alm C;have bo:16^(hi-R)<2^64:=jA n ζ;have f:∀a,(hK (l.map (·.1)) R hi+a)%16^(hi-R)<16^(hi-R):=λa=>bq _<|zY b;refine cp (Bl n b<|f 0) λe0 j K d du=>cp (Bl n b<|f 1) λe1 T c1 ds dx=>cp (Bl n b<|f 2) λe2 e c2 dt M=>rS (L:=[_,_,_]) (W:=[_]) (O:=[(w.r,aa #[rs] nr),(a,aD _),(w.z+3,aC<|some<|.ref sd),(sd,ak (aB x.P a8) ns),(w.p,aa ⟨l.map aO⟩ s)]) ⟨A,o,ca,hs,I,ab⟩ λB dV=>hG 1 λc ac J G d0=>bP (Z:=[oi x w #[t.f3,t.f4,iN hi bt,.ref y] u,(it,ba w.r<|k+1),(w.z+5,aC c5),AK x u a7 nc]) (Wx x) #[decide_eq_true<|jz.mpr q,ab] #[f_ (by rw[aU,];rw[hI i]),#[rfl,hi-R,bT (lm hi R) C,JE<|iK P,rfl],iH ch,lN (kn P)<|on P C,hM b0,ab] (.refl _) ((VY (l:=l.take 3) (ns:=0) (by lia) b (by lia) (by lia)<|(by rw[D6 (by rw[aU,];rw[X]),sj]:(iU ⟨l.map aO⟩ none (some 3) none).toList=(l.take 3).map aO)▸bc (.head _)).le ζ λ_ _ _ _ U=>U) λr d3 eb m q=>q.casesOn λc0 dd d2 db=>?_;have da:(c0.map (·.1)).sum=hK (l.map (·.1)) R hi:=by rw[db,];unfold hK;rw[<-sj,bI];rfl
  have z:=dR (cb ac) m;rw[#[_,_,pm [[(J+3,aa #[c0.map aO] dd),fJ x (J+4)<|some d2],[t_ w.z R ck],_,[oi x w #[t.f3,t.f4,iN hi bt,.ref y] u],[(it,ba w.r<|k+1)],_] (.p (.p (.a 0)<|.p (.a 1)<|.a 2)<|.p (.a 3)<|.p (.a 4)<|.a 5) (.p (.p (.a 3)<|.p (.a 1)<|.p (.a 4)<|.p (.a 2)<|.a 0)<|.a 5) rfl,_,_,[],ab,λD E=>.w (W:=[_,_])<|hG 5 λea bl eg ev eM eh ew ec ei ey ed em eB S ep eC eN=>bu (Wy x) ab #[UQ (bs.to λa Y U=>bl a Y<|z a Y U) hk hz,lN (kn P)<|on P C,mL b bo rfl,M,dt,DZ n (f 2) c2,fZ b rfl,mL b bo rfl,dx,ds,DZ n (f 1) c1,fZ b rfl,mL b bo rfl,du,d,DZ n (f 0) K,fZ b rfl,da▸Pr,ab] rfl (dR z bl)<|.dp (L1:=[_,_,_,_,_])<|h _ _ _ _ _ _ _ _ (cb<|dR z bl) ?_]];have c3:eR (a6++[(nm R hi,gM (l.map (·.1)) R hi)])=eR a6++_:=bf;rw[c3▸(bs.to λa Y U=>an a Y<|bl a Y<|z a Y U).push (Ey (bc<|.head _) (bc<|.tail _<|.tail _<|.tail _<|.head _) (bc<|.tail _<|.tail _<|.head _)<|bc<|.tail _<|.head _)]
 .rw[if_neg q,bQ]at h
  rw[bJ (L:=[oi x w t u,(w.z+2,aC vo),(it,ba w.r k)]) (O:=[(w.r,aa #[rs] nr),(a,aD _),(w.z+3,aC<|some<|.ref sd),(sd,ak (aB x.P a8) ns)]) ⟨A,o,ca,hs,ab⟩ λB dV=>hG 1 λc ac J G d0=>bu (Wz x) #[decide_eq_false λU=>q<|jz.mp U,ab] #[iH ch,lN (kn P)<|on P C,hM b0,ab] rfl ac<|h _ (iN hi bt) (.ref y) (some<|iN R ck) c4 c5 a7 nc (cb ac)<|bs.to λa Y U=>an a Y<|ac a Y U]
inductive Ao (x:Wd) (w:gD) (f3 f4:N) (u:sO) (D:cJ) (F':Fs):aL->ao->Prop
 |mk (v3 v4 vo c4 c5 ces nc) (h1:bS F' ces (eR D)):Ao x w f3 f4 u D F' (.ok .next) [oi x w #[f3,f4,v3,v4] u,(w.z+2,aC vo),(w.z+4,aC c4),(w.z+5,aC c5),AK x u ces nc]
def XH(am S T q):dy am S (T++[q])=dy am S T++if(aZ S<|nm q.1 q.2.1).getD 0<9 then[(nm q.1 q.2.1,gM am q.1 q.2.1)]else[]:=by unfold dy;simp
def XJ:∀{T},k∈(dy am S T).map (·.1)->k∈(T.map cU).map (·.1):=by
 intro J;induction J with
 |nil=>intro U;rw[U]
 |cons q T C=>
  intro U;unfold dy at U;simp only[jZ,bf]at U;rcases ek.mp U with U|U
  .have e:k=nm q.1 q.2.1:=by
    split at U
    .simpa using U
    .simp at U
   simp only[e];obtain⟨R,m,n⟩:=q
   cases n<;>rw[.head _]
  .rw[.tail _<|C U]
def XG:∀{T},(dy am S T).length<=T.length:=by
 intro J;induction J with
 |nil=>rw[d8 _]
 |cons q T C=>
  simp only[(by unfold dy;simp only[jZ]:dy am S (q::T)=(if(aZ S<|nm q.1 q.2.1).getD 0<9 then[(nm q.1 q.2.1,gM am q.1 q.2.1)]else[])++dy am S T),cv,dN];split
  .simp only[List.length_singleton];rw[aii C]
  .simp only[ld];rw[aij C]
def ww(q):(cU q).1=nm q.1 q.2.1:=by
 obtain⟨R,m,n⟩:=q
 cases n<;>rfl
def afB{l:!(N×N)}{f:!SD}(X:3<=l.length)(i:l.length<=1000):∀{rest done v3 v4 vo c4 c5 R nc F},F w.r (aa #[rs] nr)->F (w.z+3) (aC<|some<|.ref sd)->F sd (ak (aB x.P<|f.map dk) ns)->F w.p (aa #[l.map aO] a6)->aM F ((done++rest).map d6) rs->(∀r∈rest,gn r)->(∀r∈rest,nm r.1 r.2.1∈(f.map b7).map (·.1))->(((done++rest).map cU).map (·.1)).Nodup->done.length+rest.length<=900->bS F R (eR<|dy (l.map (·.1)) (f.map b7) done)->ay x aj 590 (d4 w.z 10 it) F (EN x w #[f3,f4,v3,v4] u it done.length vo c4 c5 R nc) (Ao x w f3 f4 u<|dy (l.map (·.1)) (f.map b7)<|done++rest):=by
 intro rest;induction rest with
 |nil=>
  intro done v3 v4 vo c4 c5 R nc F s b o I A y h k Z g;rw[bQ]at A⊢;rw[.perm (pm [[oi x w #[f3,f4,v3,v4] u,(w.z+2,aC vo)],[(it,ba w.r done.length)],_] (.p (.a 0)<|.p (.a 1)<|.a 2) (.p (.a 1)<|.p (.a 0)<|.a 2) rfl) ?_];rw[bJ (L:=[(it,ba w.r done.length)]) (O:=[(w.r,aa #[rs] nr)]) #[s,ab] λB K=>bp (WA w.r B K w.z it done.length nr rs x) ab #[by show(ar rs)[done.length]? =none;have:=A.length;simp[this],ab] (aV) #[v3,v4,vo,c4,c5,R,nc,g.to an]]
 |cons q rest C=>
  intro done v3 v4 vo c4 c5 R nc F s b o I A y h k Z g;simp only[dN]at Z;obtain⟨v,P,G⟩:=A.get done.length (x:=d6 q) (by rw[bf,oP<|by simp];simp);have e:done++q::rest=(done++[q])++rest:=by simp
  obtain⟨Y,J⟩:=yA<|h q<|.head _;rw[fW (EJ J) λW d t=>?_];have c:nm q.1 q.2.1∉(dy (l.map (·.1)) (f.map b7) done).map (·.1):=λH=>by rw[bf,bf,j3]at k;rw[k.2.2 _ (XJ H) _ (.head _) (ww q).symm]
  have E:=XG (am:=l.map (·.1)) (S:=f.map b7) (T:=done);obtain⟨Q,m,n⟩:=q;rw[arN (ok:=y _<|.head _) s b o I X i P G t g c (aik Z E) λM v3 v4 vo c4 c5 R nc le j=>?_];have D:bS M R (eR<|dy (l.map (·.1)) (f.map b7)<|done++[(Q,m,n)]):=by rw[XH,J];rw[j]
  have z:=C (v3:=v3) (v4:=v4) (vo:=vo) (c4:=c4) (c5:=c5) (nc:=nc) (le _ _ s) (le _ _ b) (le _ _ o) (le _ _ I) (e▸A.to le) (λr U=>y r<|.tail _ U) (λr U=>h r<|.tail _ U) (e▸k) (by simp;rw[ail Z]) D;simp only[cv,<-e]at z;rw[z]
def Zt{l:!(N×N)}{f:!SD}(X:3<=l.length)(i:l.length<=1000){T:c6}(a:F w.r (aa #[rs] nr))(b:F (w.z+3) (aC<|some<|.ref sd))(hs:F sd (ak (aB x.P<|f.map dk) ns))(I:F w.p (aa #[l.map aO] D))(A:aM F (T.map d6) rs)(y:∀r∈T,gn r)(h:∀r∈T,nm r.1 r.2.1∈(f.map b7).map (·.1))(k:((T.map cU).map (·.1)).Nodup)(hz:T.length<=900):ay x aj 590 (d4 w.z 10 it) F [oi x w t u,(w.z+2,aC vo),(it,ba w.r 0),(w.z+4,aC c4),(w.z+5,aC c5),(u.cd,ak [] nc)] (Ao x w t.f3 t.f4 u<|dy (l.map (·.1)) (f.map b7) T):=afB X i (done:=[]) a b hs I A y h k (by simpa using hz) .nil
abbrev Eo(l:!(!N))(S:!af)(v:af):!af:=if l=[]then S else S++[v]
def Q1{z it ac H f k ns na:N}(W:F f (aa #[xs] ns))(hi:xs[k]? =some v)(hv:Rp F (jN l) v)(hz:D.length<=1000)(h:∀F' y d,Le F F'->ay x aj 590 (cc z 9 it ac H) F' [(it,ba f<|k+1),(ac,aa #[Eo l D v] d),nS x H<|some y] Q):ay x aj 590 (cc z 9 it ac H) F [(it,ba f k),(ac,aa #[D] na),nS x H o] Q:=by
 rw[gX (dW.mp hv) λb R g j a M=>?_];subst j;have u:gB F [(f,aa #[xs] ns),(b,aa #[R] g)]:=#[W,a,ab];cases l with
 |nil=>obtain rfl:=eu.mp M;rw[iW u λB K=>bu (W0 o x) ab #[hM hi,ab] rfl (aV)<|h _ _ _ an]
 |cons T l=>rw[cp (cq.mp M) λm E P w L=>?_];subst P;rw[iW u λB K=>bu (W3 o x) ab #[f_<|hI hz,hM hi,ab] rfl (aV)<|.pu (L1:=[_])<|h _ _ _ an]
abbrev jG(ls:!(List<|List N)):!(List<|List N):=ls.filter λl=>decide<|l≠[]
def Ir(h:aM F ((jG ls).map jN) vs)(hv:Rp F (jN l) v):aM F ((jG<|ls++[l]).map jN) (Eo l vs v):=by
 unfold jG Eo;rw[SZ,];by_cases e:l=[]
 .rw[if_pos e,oO<|by simp[e],List.filter_nil,bQ];rw[h]
 .rw[if_neg e,ng<|by simpa using e,bf]
  rw[h.push hv]
def ZE(ls):(jG ls).length<=ls.length:=FU _ _
inductive Au (x:Wd) (ac cl:N) (ls:!(!(!N))) (F':Fs):aL->ao->Prop
 |mk (vs:!af) (na:N) (y:N×af) (h1:aM F' ((jG ls).map jN) vs):Au x ac cl ls F' (.ok .next) [(ac,aa #[vs] na),nS x cl (some y)]
def afK{z it ac H f ns:N}(i:ls.length<=900):∀{n k na vs y F},F f (aa #[xs] ns)->aM F (ls.map jN) xs->aM F ((jG<|ls.take k).map jN) vs->k+n=ls.length->ay x aj 590 (cc z 9 it ac H) F [(it,ba f k),(ac,aa #[vs] na),nS x H<|some y] (Au x ac H ls):=by
 intro n;induction n with
 |zero=>
  intro k na vs y F W A X w;obtain rfl:k=ls.length:=w;rw[wP]at X;rw[bJ (O:=[(f,aa #[xs] ns)]) #[W,ab] λB K=>bp (WZ B K z it ac H ls.length ns f xs x) ab #[by show(ar xs)[ls.length]? =none;have:=A.length;simp[this],ab] (aV) #[vs,na,y,X.to an]]
 |succ n C=>intro k na vs y F W A X w;have c:=rz w;have Q:=X.length;rw[aU]at Q;obtain⟨v,a,M⟩:=A.get k (by simp only[fj,eH c];rfl);rw[Q1 W a M (bT (lj Q)<|bT (ZE<|ls.take k)<|bT (FW k ls)<|bT i<|ζ) λT y d le=>C (le _ _ W) (A.to le) (by rw[l6 c,];rw[Ir (X.to le)<|M.to le])<|pK w]
def V1{z it ac H f ns na:N}(L:0<ls.length)(i:ls.length<=900)(W:F f (aa #[xs] ns))(A:aM F (ls.map jN) xs):ay x aj 590 (gy z 9 it ac H) F [(it,ba f 0),(ac,aa #[[]] na),(H,ak [] 0)] (Au x ac H ls):=by
 rw[bJ (O:=[]) ab λB K=>bu (W4 B K z it ac H f x) ab ab rfl (aV) ?_];obtain⟨v,b,M⟩:=A.get 0 (by rw[fj,eH L];rfl);rw[Q1 (o:=none) (an _ _ W) b (M.to an) (dm _) λT y d le=>?_];have a:=bO le;rw[afK i (k:=1) (a _ _ W) (A.to a) (by simp only[l6 L];rw[Ir .nil<|M.to a])<|tY L]
end
section
variable{x:Wd}
def ke(am:!N)(S:fQ):PV:=if(aZ S [70]).getD 0<9 then .nN (ap<|lu am)else .none
structure uE (x:Wd) (F:Fs) (S:fQ) (D:cJ) (wp:PV) (ls:!(!(!N))) (a rr cd:N) (rds:!af) (ces:!De) (wv:af):Prop where
 l:F a (aa #[[.bool (decide (mx (S.map (·.2))<9)),.ref rr,.ref cd,wv]] 0)
 r:aM F ((jG ls).map jN) rds
 n:ls.length=9
 o:j6 S ls
 c:bS F ces (eR D)
 w:Rp F wp wv
inductive uV (x:Wd) (S:fQ) (D:cJ) (wp:PV) (F:Fs):aL->ao->Prop
 |mk {L:ao} (ls a rr cd rds ces wv nr nc J) (h1:uE x F S D wp ls a rr cd rds ces wv) (h2:L.Perm ([(rr,aa #[rds] nr),(cd,ak (aB x.P ces) nc)]++J)):uV x S D wp F (.ok (.ret (.ref a))) L
def HX{K:aL->aR->av}{z a f ns cd nc l:N}{au:!Prop}(k:∀Z,Ev (o Z) Z bl (.pend 597 aj (gy z 9 a (a+1)<|a+2) K) ([(a,ba f 0),(a+1,aa #[[]] 0),(a+2,ak [] 0)]++[U]) [] a8 au)(B:AB a8)(I:AP au)(w:∀i L n t Z,Ev (K (.ok .next)<|cf [U,(a+2,ak [V x.P bD i L] 1)] n t h [] [] Z) Z D (.res<|.ok<|.ret<|.ref n) [] [(n,aa #[[.bool<|decide<|ad l<9,.ref<|a+1,.ref cd,a6]] 0)] [] [])(W:F f (aa #[xs] ns))(A:aM F (ls.map jN) xs)(s:ls.length=9)(C:j6 S ls)(E:Le F0 F)(d:bS F G (eR a7))(Y:Rp F bb a6)(H:l=mx (S.map (·.2))):Go x aj 600 F0 (uV x S a7 bb) F ((cd,ak (aB x.P G) nc)::J) o:=by
 rw[bP (Z:=U::(cd,ak (aB x.P G) nc)::J) k B I (.refl _) ((V1 (af4 s) (af5 s) (an _ _ W)<|A.to an).le ζ λ_ _ _ _ h=>h) λr c M u q=>q.casesOn λg b y X=>?_];have j:=bO u;rw[#[[U,nS x (a+2)<|some y],(a+1,aa #[g] b)::(cd,ak (aB x.P G) nc)::J,pm [[(a+1,aa #[g] b)],_,[U],(cd,ak (aB x.P G) nc)::J] (.p (.p (.a 0)<|.a 1)<|.p (.a 2)<|.a 3) (.p (.p (.a 2)<|.a 1)<|.p (.a 0)<|.a 3) rfl,h,[],[],ab,λn t=>bp (w y.1 y.2 n t) ab ab (dR E j) ?_]];rw[#[ls,n,a+1,cd,g,G,a6,b,nc,J,#[by
  have e:decide (mx (S.map (·.2))<9)=decide (ad l<9):=by rw[H▸decide_eq_decide.mpr (jz (n:=l) (m:=9)).symm]
  rw[e▸bc (.head _)],X.to an,s,C,d.to λa o h=>an a o<|j a o h,Y.to λa o h=>an a o<|j a o h],.refl _]]
def O1(h:1<d):qE (.type "dict") d:=#[dM,h]
abbrev Ii(x:Wd)(w:gD)(t:iM)(u:sO)(Q:N)(v:af):aH×Obj:=(w.z,az (gY x w t [V x.P ez u.f5 u.v5,V x.P cE u.f6 u.v6,V x.P cg u.f7<|.ref u.cd,V x.P kW Q v]) 9)
def al5(f:!SD):mx (f.map λe=>e.2.2.1)=mx ((f.map b7).map (·.2)):=by rw[bI,];rfl
structure zt (x:Wd) (F:Fs) (sz p np src ns sd n2:N) (l:!(N×N)) (sl:!SD) (S:fQ) (D:cJ) (ls:!(!(!N))) (xs:!af) (ces:!De):Prop where
 hp:F p (aa #[l.map aO] np)
 h3:3<=l.length
 h9:l.length<=1000
 hx:F src (aa #[xs] ns)
 hr:aM F (ls.map jN) xs
 hl:ls.length=9
 ho:j6 S ls
 hc:bS F ces (eR D)
 B5:F (sz+3) (aC (some (.ref sd)))
 hs:F sd (ak (aB x.P (sl.map dk)) n2)
 h1:1<sd
 e:sl.map b7=S
 hn:(S.map (·.1)).Nodup
 hf:[70]∈S.map (·.1)
def XK:lu l<3*16^5+1:=by
 have:∀n:N,n%16^5<16^5:=λn=>bq _ ζ;have:=this;unfold lu
 match l with
 |[]=>simp
 |[a]=>have:=this a;simp;rw[af6 this]
 |[a,b]=>have d:=this a;have M:=this b;simp;rw[af7 d M]
 |a::b::c::_=>have d:=this a;have M:=this b;have X:=this c;simp;rw[af8 d M X]
set_option tactic.hygienic true in
def O9{g m mt:N}:∀{D:!SD},aZ (D.map dk) k=some (g,aO (m,mt))->(aZ (D.map b7) k).getD 0=m:=by
 intro J;induction J with
 |nil=>intro U;rw[nomatch U]
 |cons e D C=>
  intro U;rw[bW,aZ]at U⊢;split at U
  .rename_i q
   rw[if_pos q,];have U:=dZ U;injection U with a M;injection M with M;rw[SH M]
  .rename_i q
   rw[if_neg q,];rw[C U]
def aqs(f:!SD):f.map (·.1)=(f.map b7).map (·.1):=by simp only[bI];rfl
def Pf(L:G≠[])(t:F d (ak (aB x.P<|G.map dk) n))(nd:((G.map b7).map (·.1)).Nodup):kE x F b aj (.call (.builtin "max") #[[.ref v],[]]) [(v,#[.type "dict_values",none,.fields #[[.ref d]],#[[]]])] (pN<|mx<|(G.map b7).map (·.2)):=λw c B s A le C H=>al5 G▸gN (Yk (R:=λr T h=>h=[]/\∃S,r=pN _ S) L C.2.1 H (bc<|.head _) (an _ _<|le _ _ t) (aqs G▸nd) λD=>#[rfl,D,rfl]) λr P z=>cp z λT h l W q=>ct q λe q=>dq q λS U=>bY T S l (by subst e;rw[W]) U
def ZV{sd o st d M Q g s w nc:N}(B:zt x F sz p s (G+2) w sd o l a6 S a7 ls xs a8)(J:aZ (a6.map dk) [70]=some (g,aO (st,d)))(i:¬st<9)(a:Le F0 F):Go x aj 600 F0 (uV x S a7<|ke (l.map (·.1)) S) F ((K,ak (aB x.P a8) nc)::bs) (λt=>Jo p r e sz tk f3 f4 f6 G sd K bb st d M Q o w v6 bl bo (aB x.P<|a6.map dk) xs x t):=by
 have Y:ke (l.map (·.1)) S=.none:=by unfold ke;rw[B.e▸(O9 J)▸if_neg i]
 rw[hG 1 λc u h q A=>HX (WF x) #[decide_eq_false λU=>i<|jz.mp U,ab] ⟨Pf (λe=>by rw[e]at J;cases J) B.hs (B.e▸B.hn),O1 B.h1,iH J,ab⟩ (λi b n D=>WB p r e sz tk f3 f4 f6 G K bb Q h n D _ i v6 bl bo b x) (u _ _ B.hx) (B.hr.to u) B.hl B.ho (dR a u) (B.hc.to u) (Y▸yP.mpr rfl) (by rw[B.e,])]
def ZW{sd o st d M Q g s C nc:N}(B:zt x F sz p s (a7+2) C sd o l bl S b0 ls xs bb)(J:aZ (bl.map dk) [70]=some (g,aO (st,d)))(i:st<9)(L:Le F0 F):Go x aj 600 F0 (uV x S b0<|ke (l.map (·.1)) S) F ((a6,ak (aB x.P bb) nc)::bt) λt=>DH p r e sz tk f3 f4 f6 a7 sd a6 a8 st d s M Q o v6 bo bs (aB x.P<|bl.map dk) (l.map aO) x t:=by
 have Y:ke (l.map (·.1)) S=.nN (ap<|lu<|l.map (·.1)):=by unfold ke;rw[B.e▸(O9 J)▸if_pos i]
 have b:=B.h3;have G:=XK (l:=l.map (·.1));have I:=qM 6 (lu<|l.map (·.1))<|af9 G;obtain⟨w,f⟩:∃w,w=lu (l.map (·.1)):=#[_,rfl];rw[<-f]at G I Y;refine bP (Z:=Ii x #[sz,p,r,e,tk,tk+1,tk+2] #[f3,f4,bo,bs] #[f6,v6,a8,.ref<|a7+2,a8+1,a6] Q .none::(a6,ak (aB x.P bb) nc)::bt) (WH p r e sz tk f3 f4 f6 a7 sd a6 a8 st d s M Q o v6 bo bs (aB x.P<|bl.map dk) (l.map aO) x) #[decide_eq_true<|jz.mpr i,ab] #[f_ (by rw[aU,];rw[hI B.h9]),iH J,ab] (.refl _) ((V0 (l:=l.take 3) (ns:=0) (by rw[sb,];lia) (by rw[sb,];lia)<|(by rw[D6 (by rw[aU,];rw[b]),sj]:(iU ⟨l.map aO⟩ none (some 3) none).toList=(l.take 3).map aO)▸bc (.head _)).le ζ λ_ _ _ _ U=>U) λm c H u q=>q.casesOn λk R y E=>?_;have j:=bO u;have P:(k.map (·.1)).sum=w:=by simp only[f,E];unfold lu;rw[<-sj,bI];rfl
 rw[#[_,(a6,ak (aB x.P bb) nc)::bt,pm [[(M+3,aa #[k.map aO] R),fJ x (M+4)<|some y],[Ii x #[sz,p,r,e,tk,tk+1,tk+2] #[f3,f4,bo,bs] #[f6,v6,a8,.ref<|a7+2,a8+1,a6] Q .none],(a6,ak (aB x.P bb) nc)::bt] (.p (.a 0)<|.p (.a 1)<|.a 2) (.p (.p (.a 1)<|.a 0)<|.a 2) rfl,_,_,[(sz+3,aC<|some<|.ref sd),(sd,ak (aB x.P<|bl.map dk) o),(a7+2,aa ⟨xs⟩ C)],⟨j _ _ B.B5,j _ _ B.hs,j _ _ B.hx,ab⟩,λh ck=>hG 3 λac b O c0 W ch ca K T z A=>HX (WG x) ab #[Pf (λe=>by rw[e]at J;cases J) (j _ _ B.hs) (B.e▸B.hn),O1 B.h1,ay.Ei (λ_=>EU (Int.natAbs_neg _) (af_ G) (Me I)) ζ,P▸Pr,ab] (λi X n D=>WC p r e sz tk f3 f4 f6 a7 a6 a8 Q K _ T i n D v6 bo bs X (ap w) x) (b _ _ (j _ _ B.hx)) ((B.hr.to j).to b) B.hl B.ho (dR (dR L j) b) ((B.hc.to j).to b) (by rw[Y,];rw[yO.mpr #[K,rfl]])<|by rw[B.e,]]]
end
section
variable{x:Wd}
inductive GG (x:Wd) (w:gD) (t:iM) (W:b5) (F':Fs):aL->ao->Prop
 |mk (f5 v5 sd ns) (sl:!SD) (h1:1<sd) (h2:Sl x F' w.z sd ns sl W) (h3:sl.map b7=bZ W 9):GG x w t W F' (.ok .next) [jF x w t f5 v5]
def Zs{W:b5}{f:!SD}(d:jx W)(L:W≠[])(i:W.length<=1000)(g:Wl x F w.z nw es W)(hs:F sd (ak (aB x.P<|f.map dk) ns))(hk:f.map b7=bZ W 0):ay x aj 590 (d4 w.z 6 it) F [gh x w t,(it,cH 0 9),fh w.z sd] (GG x w t W):=
 (Zr d L i g hs hk).ul λr T h U q=>by rw[q.casesOn λa b sd ns f c M X=>ki [fh w.z sd] _ (SP _ _ _) #[a,b,sd,ns,f,c,#[bc<|.head _,an _ _ M,by rw[X▸lV W 9]],X]]
structure nL (x:Wd) (F:Fs) (sz p np r nr nw:N) (l:!(N×N)) (rs:!af) (T:c6) (W:b5) (es:!De):Prop where
 hp:F p (aa #[l.map aO] np)
 h3:3<=l.length
 h9:l.length<=1000
 hl:F r (aa #[rs] nr)
 hr:aM F (T.map d6) rs
 ho:∀q∈T,gn q
 hk:W.map (·.1)=(T.map cU).map (·.1)
 hC:jx W
 h0:W≠[]
 hW:W.length<=60
 hf:[70]∈W.map (·.1)
 H:Wl x F sz nw es W
def nL.to{F F':Fs}(Q:Le F F'){sz p s r nr nw:N}{l:!(N×N)}{rs:!af}{T:c6}{W:b5}{es:!De}(h:nL x F sz p s r nr nw l rs T W es):nL x F' sz p s r nr nw l rs T W es:=#[Q _ _ h.hp,h.h3,h.h9,Q _ _ h.hl,h.hr.to Q,h.ho,h.hk,h.hC,h.h0,h.hW,h.hf,h.H.to Q]
abbrev nF(x:Wd)(am:!N)(T:c6)(W:b5):Po:=uV x (bZ W 9) (dy am (bZ W 9) T)<|ke am<|bZ W 9
def ZU{v3 v4:af}{T:c6}{W:b5}(B:nL x F sz p bt r b0 G l ca T W es)(hs:Sl x F sz sd bo bl W)(f:1<sd)(O:bl.map b7=bZ W 9)(A:aM F (ls.map jN) xs)(o:ls.length=9)(y:j6 (bZ W 9) ls)(n:Le F0 F):Go x aj 600 F0 (nF x (l.map (·.1)) T W) F ([(sz+2,aC vo),(sz+4,aC c4),(sz+5,aC c5)]++a7) λb=>DG p r e sz tk f3 f4 f6 a8 bs b0 a6 bb v3 v4 v6 xs ca x b:=by
 obtain⟨i,J⟩:=yA (by rw[hs.k,];rw[B.hf]);rw[fW (EJ J) λz w t=>?_];rw[bP (Z:=a7) (WE p r e sz tk f3 f4 f6 a8 bs b0 a6 bb v3 v4 v6 xs ca x) ab ab (pm [[oi x #[sz,p,r,e,tk,tk+1,tk+2] #[f3,f4,v3,v4] #[f6,v6,bb,.ref<|a8+2,bb+1,a6]],[(a6,ak [] 0)],_,[(sz+2,aC vo)],_,a7] (.p (.p (.a 0)<|.p (.a 1)<|.a 2)<|.p (.p (.a 3)<|.a 4)<|.a 5) (.p (.p (.a 0)<|.p (.a 3)<|.p (.a 2)<|.p (.a 4)<|.a 1)<|.a 5) rfl) ((Zt B.h3 B.h9 (an _ _ B.hl) (an _ _ hs.c) (an _ _ hs.d) (an _ _ B.hp) (B.hr.to an) B.ho (λq s=>by rw[(hs.k.trans B.hk),<-ww];rw[bw<|bw s]) (B.hk▸B.H.n)<|agr (by have:=congrArg gT B.hk;simpa using this.symm) B.hW).le ζ λ_ _ _ _ U=>U) λm c H u q=>?_]
 rw[q.casesOn λC k E I K R D g=>?_];rw[O]at g;have j:=bO u;have d:zt x c sz p bt (a8+2) bs sd bo l bl (bZ W 9) (dy (l.map (·.1)) (bZ W 9) T) ls xs R:=#[j _ _ B.hp,B.h3,B.h9,u _ _<|bc<|.head _,A.to j,o,y,g,j _ _ hs.c,j _ _ hs.d,f,O,by rw[lV,];rw[B.H.n],by rw[lV,];rw[B.hf]];have h:=pm [[oi x #[sz,p,r,e,tk,tk+1,tk+2] #[f3,f4,C,k] #[f6,v6,bb,.ref<|a8+2,bb+1,a6]],[(sz+2,aC E),(sz+4,aC I),(sz+5,aC K)],[(a6,ak (aB x.P R) D)],a7] (.p (.p (.a 0)<|.p (.a 1)<|.a 2)<|.a 3) (.p (.a 0)<|.p (.a 2)<|.p (.a 1)<|.a 3) rfl;by_cases q:i<9
 .rw[#[_,(a6,ak (aB x.P R) D)::(_++a7),h,_,_,[(sz+3,aC<|some<|.ref sd),(sd,ak (aB x.P<|bl.map dk) bo),(p,aa ⟨l.map aO⟩ bt)],⟨d.B5,d.hs,d.hp,ab⟩,λM Q=>ZW d t q λa Y U=>j a Y<|n a Y U]]
 .rw[#[_,(a6,ak (aB x.P R) D)::(_++a7),h,_,_,[(sz+3,aC<|some<|.ref sd),(sd,ak (aB x.P<|bl.map dk) bo),(a8+2,aa ⟨xs⟩ bs)],⟨d.B5,d.hs,d.hx,ab⟩,λM Q=>ZV d t q λa Y U=>j a Y<|n a Y U]]
def ZT{v3 v4:af}{f6 b k:N}{T:c6}{W:b5}(B:nL x F sz p a6 r D G l J T W es)(hs:Sl x F sz sd a7 K W)(f:1<sd)(O:K.map b7=bZ W 9)(n:Le F0 F):Go x aj 600 F0 (nF x (l.map (·.1)) T W) F [(sz+2,aC vo),(sz+4,aC c4),(sz+5,aC c5)] λh=>DF p r e sz tk f3 f4 f6 b k v3 v4 v6 x h:=by rw[bP (Z:=jF x #[sz,p,r,e,tk,tk+1,tk+2] #[f3,f4,v3,v4] f6 v6::_) (WD p r e sz tk f3 f4 f6 b k v3 v4 v6 x) ab ab (.refl _) ((VX B.h0 B.hW (B.H.to an)<|hs.to an).le ζ λ_ _ _ _ U=>U) λm c H u q=>q.casesOn λg d E i X o y=>?_];rw[O]at y;have j:=bO u;rw[#[_,_++[(b+3,ak [] 0),(b+4,aC E)],pm [[(b+2,aa #[g] d)],_,[jF x #[sz,p,r,e,tk,tk+1,tk+2] #[f3,f4,v3,v4] f6 v6],_] (.p (.p (.a 0)<|.a 1)<|.p (.a 2)<|.a 3) (.p (.p (.a 2)<|.a 0)<|.p (.a 3)<|.a 1) rfl,_,_,[(r,aa ⟨J⟩ D)],⟨j _ _ B.hl,ab⟩,λs L=>ZU (B.to j) (hs.to j) f O X o y λa Y U=>j a Y<|n a Y U]]
def ZQ{v3 v4:af}{g:Option af}{f:!SD}{T:c6}{W:b5}(B:nL x F sz p a6 r a7 G l a8 T W es)(O:f.map b7=bZ W 0)(n:Le F0 F):Go x aj 600 F0 (nF x (l.map (·.1)) T W) F [(sz+2,aC vo),(sz+4,aC c4),(sz+5,aC c5)] λy=>DE p r e sz tk J D K t4 f3 f4 ns g (aB x.P<|f.map dk) v3 v4 x y:=by rw[bP (Wr p r e sz tk J D K t4 f3 f4 ns g (aB x.P<|f.map dk) v3 v4 x) ab ab (.refl _) ((Zs (w:=#[sz,p,r,e,tk,tk+1,tk+2]) (t:=#[f3,f4,v3,v4]) B.hC B.h0 (Mf B.hW) (B.H.to an) (bc<|.head _) O).le ζ λ_ _ _ _ U=>U) λm c H u q=>q.casesOn λA z i d P s o h=>?_];have j:=bO u;rw[#[_,_,.refl _,_,_,[],ab,λb k=>ZT (B.to j) o s h λa Y U=>j a Y<|n a Y U]]
def Iv{v3 v4:af}{g:Option af}{au:!(N×SD)}{T:c6}{W:b5}(B:nL x F sz p bb r bl G l bo T W es)(I:kC F au (bZ W 0))(n:Le F0 F):Go x aj 600 F0 (nF x (l.map (·.1)) T W) F [(sz+2,aC vo),(sz+3,aC g),(sz+4,aC c4),(sz+5,aC c5)] λf=>DD p r e sz tk J D a7 f3 f4 na a6 (iR au) v3 v4 a8 x f:=by refine bP (Z:=[gh x #[sz,p,r,e,tk,tk+1,tk+2] #[f3,f4,v3,v4],(sz+2,aC vo),(sz+3,aC g),(sz+4,aC c4),(sz+5,aC c5)]) (Wq p r e sz tk J D a7 f3 f4 na a6 (iR au) v3 v4 a8 x) ab ab (.refl _) (E7 rfl (bc<|.head _) (I.to an) (Dj B.hW (by have:=congrArg gT I.s;simpa[bZ]using this)) (by rw[lV,];rw[B.H.n])) λm c H u q=>q.casesOn λK sl O=>?_;have j:=bO u;rw[#[_,_,pm [[(D,ak (aB x.P<|sl.map dk) K)],[gh x #[sz,p,r,e,tk,tk+1,tk+2] #[f3,f4,v3,v4]],[(sz+2,aC vo)],[(sz+3,aC g)],_] (.p (.a 0)<|.p (.a 1)<|.p (.a 2)<|.p (.a 3)<|.a 4) (.p (.p (.a 1)<|.p (.a 3)<|.a 0)<|.p (.a 2)<|.a 4) rfl,_,_,[],ab,λM R=>ZQ (B.to j) O λa Y U=>j a Y<|n a Y U]]
def QF{W:b5}(h:bS F es (gA W)):(es.map λe=>(e.1,0))=bZ W 0:=by have O:=congrArg (qr λj:!N=>(j,0)) (by simp only[h.keys,bI];rfl:es.map (·.1)=W.map (·.1));simp only[bI,bI]at O;rw[O]
def ZM{v3 v4:af}{g:Option af}{T:c6}{W:b5}(B:nL x F sz p K r a6 nw l a7 T W es)(n:Le F0 F):Go x aj 600 F0 (nF x (l.map (·.1)) T W) F [(sz+2,aC vo),(sz+3,aC g),(sz+4,aC c4),(sz+5,aC c5)] λc=>DC p r e sz tk J G nw f3 f4 ne (aB x.P es) v3 v4 x c:=by have d:=B.H.len;refine bP (Z:=[gh x #[sz,p,r,e,tk,tk+1,tk+2] #[f3,f4,v3,v4],(sz+2,aC vo),(sz+3,aC g),(sz+4,aC c4),(sz+5,aC c5)]) (Wo p r e sz tk J G nw f3 f4 ne (aB x.P es) v3 v4 x) ab ab (.refl _) ((Ho (an _ _ B.H.d) (λq=>B.h0<|wJ (by rw[d▸q▸?_];rfl))<|Dj B.hW d).le ζ λ_ _ _ _ U=>U) λm f H u q=>?_;rw[q.casesOn λR b y I=>?_];rw[QF B.H.r]at I;have j:=bO u;rw[#[_,_,pm [[(J+2,aa #[iR R] b),dP x (J+3)<|some y],[gh x #[sz,p,r,e,tk,tk+1,tk+2] #[f3,f4,v3,v4]],_] (.p (.a 0)<|.p (.a 1)<|.a 2) (.p (.p (.a 1)<|.a 0)<|.a 2) rfl,_,_,[],ab,λD E=>Iv (B.to j) I λa Y U=>j a Y<|n a Y U]]
def ZN{ws:!(!N×N)}{v3 v4:af}{g:Option af}{T:c6}{W:b5}(L:ws.length<=1000)(C:aZ es K=some (kt,.ref a6))(B:nL x (fz F [(a6,aa ((ar<|ws.map ax).push<|.str #[#[a7]] bb)<|a8+1)]) sz p bo r bs nw l bt T W es)(n:Le F0 F):Go x aj 600 F0 (nF x (l.map (·.1)) T W) F [(sz+2,aC vo),(sz+3,aC g),(sz+4,aC c4),(sz+5,aC c5)] λc=>NC p r e sz tk J G nw f3 f4 ne a6 a8 bl bb (ws.map ax) K a7 (aB x.P es) v3 v4 x c:=by have d:=B.H.len;refine bP (Z:=[gh x #[sz,p,r,e,tk,tk+1,tk+2] #[f3,f4,v3,v4],(sz+2,aC vo),(sz+3,aC g),(sz+4,aC c4),(sz+5,aC c5)]) (Wp p r e sz tk J G nw f3 f4 ne a6 a8 bl bb (ws.map ax) K a7 (aB x.P es) v3 v4 x) ab #[f_ (by rw[aU,];rw[hI L]),iH C,ab] (.refl _) ((Ho B.H.d (λq=>B.h0<|wJ (by rw[d▸q▸?_];rfl))<|Dj B.hW d).le ζ λ_ _ _ _ U=>U) λm f H u q=>?_;rw[q.casesOn λR b y I=>?_];rw[QF B.H.r]at I;rw[#[_,_,pm [[(J+2,aa #[iR R] b),dP x (J+3)<|some y],[gh x #[sz,p,r,e,tk,tk+1,tk+2] #[f3,f4,v3,v4]],_] (.p (.a 0)<|.p (.a 1)<|.a 2) (.p (.p (.a 1)<|.a 0)<|.a 2) rfl,_,_,[],ab,λD E=>Iv (B.to u) I λa Y U=>u a Y<|an a Y<|n a Y U]]
end
def AE(W a b):(gV W a b).map (·.1)=W.map (·.1):=by
 unfold gV;rw[bI,];rw[oQ λp U=>?_];show(if p.1=a then(p.1,p.2++[b])else p).1=p.1
 split<;>rfl
def GT{W:b5}(h:jx W)(j:b∈W.map (·.1)):jx (gV W a b):=λp I Y y=>by
 rw[AE,];rw[aJ (bn.mp I) λq u P=>?_];subst P;split at y
 .rcases ek.mp y with y|y
  .rw[h q u Y y]
  .simp only[iA.mp y];rw[j]
 .rw[h q u Y y]
def GU{W:b5}(h:∀p∈W,p.2.length<=2):∀p∈gV W a b,p.2.length<=3:=λp I=>by
 rw[aJ (bn.mp I) λq u P=>?_];subst P;have:=h q u;split
 .rw[cv,];rw[nB this]
 .rw[agw this]
def wx(T:c6):∀p∈T.map cU,p.2.length<=2:=λp I=>by
 rw[aJ (bn.mp I) λa U P=>?_];obtain⟨R,m,n⟩:=a;subst P
 cases n<;>simp[cU]
section
variable{x:Wd}
structure sM (T:c6) (extra:!(!N)):Prop where
 hd:∃lo hi m rest,T=(lo,hi,some m)::rest
 len:T.length<=50
 ok:∀q∈T,gn q
 nd:((T.map cU).map (·.1)).Nodup
 cl:jx (T.map cU)
 f:[70]∈(T.map cU).map (·.1)
 ex:extra=[]\/∃a b,extra=[a,b]/\a∈(T.map cU).map (·.1)/\b∈(T.map cU).map (·.1)
def Fh{T:c6}(t:∃R hi m rest,T=(R,hi,some m)::rest)(C:T.length<=50)(a:∀q∈T,gn q)(k:((T.map cU).map (·.1)).Nodup)(A:F r (aa #[rs] nr))(z:aM F (T.map d6) rs)(sz tk):ay x aj 590 (d4 sz 1<|sz+7) (fz F [(sz+1,aC<|some<|.ref<|sz+6)]) [(sz+7,ba r 0),xH x #[sz,p,r,e,tk,tk+1,tk+2],(sz+2,aC none),(sz+6,ak [] 0)] (qH x #[sz,p,r,e,tk,tk+1,tk+2] (sz+6)<|T.map cU):=by rw[Bu t λR hi m rest H=>?_];subst H;rw[Zq (w:=#[sz,p,r,e,tk,tk+1,tk+2]) (an _ _ A) (bc<|.head _) (z.to an) a k<|agx C]
def arp{l:!(N×N)}(X:3<=l.length)(i:l.length<=100){T:c6}(S:sM T [])(I:F p (aa #[l.map aO] a6))(A:F r (aa #[rs] nr))(z:aM F (T.map d6) rs)(h:F e (aa #[[]] ne)):ay x aj 600 (.call (.ref 908) #[[.ref p,.ref r,.ref e],[]]) F [] (nF x (l.map (·.1)) T<|T.map cU):=by rw[S.casesOn λf C a k Y R w=>fv (O:=[(r,aa #[rs] nr)]) #[A,ab] λB K=>bP (Z:=[(B+3,aC none),(B+4,aC none),(B+5,aC none)]) (Hy p r e nr B K rs x) ab ab (.refl _) ((Sh<|Fh f C a k A z B K).le ζ λ_ _ _ _ U=>U) λm c H u q=>q.casesOn λD n b E t g=>?_];have j:=bO u;have d:=u _ _<|bc<|.head _;rw[#[[gh x #[B,p,r,e,K,K+1,K+2] D],_,.refl _,_,_,[(e,aa #[[]] ne),(B+1,aC<|some<|.ref<|B+6),(B+6,ak (aB x.P b) E)],⟨j _ _ h,d,t,ab⟩,λJ G=>ZM #[j _ _ I,X,Mm i,j _ _ A,z.to j,a,rfl,Y,(λq=>by rw[q]at R;cases R),(by rw[aU,];rw[Ml C]),R,#[t,d,g,k,λp I=>lk<|wx T p I]] j]]
def aro{l:!(N×N)}(X:3<=l.length)(i:l.length<=100){T:c6}(S:sM T [a,b])(I:F p (aa #[l.map aO] a7))(A:F r (aa #[rs] nr))(z:aM F (T.map d6) rs)(bo:F e (aa #[[.str #[#[a]] a8,.str #[#[b]] a6]] ne)):ay x aj 600 (.call (.ref 908) #[[.ref p,.ref r,.ref e],[]]) F [] (nF x (l.map (·.1)) T<|gV (T.map cU) a b):=by
 rw[S.casesOn λbb C f k Y R w=>?_];obtain⟨o,bl⟩:a∈(T.map cU).map (·.1)/\b∈(T.map cU).map (·.1):=by
  rcases w with U|⟨y,ch,U,ac,M⟩
  .cases U
  .injection U with P U
   injection U with Q U;rw[#[P▸ac,Q▸M]]
 have c:=AE (T.map cU) a b;rw[fv (O:=[(r,aa #[rs] nr)]) #[A,ab] λB K=>bP (Z:=[(B+3,aC none),(B+4,aC none),(B+5,aC none)]) (Hy p r e nr B K rs x) ab ab (.refl _) ((Sf (b:=b) k o (λp I=>bT (wx T p I)<|ζ)<|Fh bb C f k A z B K).le ζ λ_ _ _ _ U=>U) λck s H u q=>q.casesOn λD ca W bt b0 n h E t bs L g=>?_];have j:=bO u;have d:=u _ _<|bc<|.head _;have m:Le F (fz s [(b0,aa ((ar<|E.map ax).push<|.str #[#[b]] a6)<|n+1)]):=cb j;rw[#[_,_,pm [[gh x #[B,p,r,e,K,K+1,K+2] D],[(B+2,aC ca)],_,_] (.p (.p (.a 0)<|.p (.a 1)<|.a 2)<|.a 3) (.p (.p (.a 0)<|.a 2)<|.p (.a 1)<|.a 3) rfl,_,_,[(e,aa #[_] ne),(B+1,aC<|some<|.ref<|B+6),(B+6,ak (aB x.P W) bt)],⟨j _ _ bo,d,t,ab⟩,λJ G=>ZN L bs #[m _ _ I,X,Mm i,m _ _ A,z.to m,f,c,GT Y bl,(λq=>by rw[q]at c;rw[<-c]at R;cases R),(by unfold gV;rw[aU,aU];rw[Ml C]),by rw[c▸R],#[an _ _ t,an _ _ d,g _ a6 (n+1) an<|(by simp only[kr,bf];rfl:aa ((ar<|E.map ax).push<|.str #[#[b]] a6) (n+1)=aa #[(E++[(b,a6)]).map ax] (n+1))▸bc (.head _),by rw[c▸k],GU<|wx T]] j]]
def arn(X:3<=am.length)(i:am.length<=100){T:c6}(S:sM T D){au rs es:!af}(I:F p (aa #[au] G))(t:aM F (am.map gp) au)(A:F r (aa #[rs] nr))(z:aM F (T.map d6) rs)(c:F e (aa #[es] ne))(d:aM F (D.map .str) es):ay x aj 600 (.call (.ref 908) #[[.ref p,.ref r,.ref e],[]]) F [] (nF x am T<|cZ T D):=by
 rw[aJ (Ez t) λl k P=>?_];subst k;subst P;rw[aU]at X i;rcases S.ex with rfl|⟨a,b,rfl,o,j⟩
 .obtain rfl:=eu.mp d
  rw[arp X i S I A z c]
 .obtain⟨m,g,rfl,H,d⟩:=cq.mp d
  obtain⟨n,g,rfl,h,d⟩:=cq.mp d;obtain rfl:=eu.mp d;obtain⟨Q,rfl⟩:=c9.mp H;obtain⟨f,rfl⟩:=c9.mp h;rw[aro X i S I A z c]
end
section
abbrev EB(z it ac H:N):bj:=jd u5 0 (.ref it) (.ref ac)<|fR u5 0 (iE z) H
abbrev oA(z it ac H:N):bj:=fT u5 0 (.ref it) (.ref ac)<|fR u5 0 (iE z) H
variable(s ns sz tk z it ac a7 a8 k na bo m bs G D J c1 K U c2 t4 b0 c3 ds ch da dt bl db du ca dd dx eb ec:N) (xs a6:!af) (bb:Int) (ck:af) (bt:!N) (us:N->Array (Option af)) (x:Wd) (Y c0 dV d0 d1 d2 d3 ea ed:ao)
def NU:av:=ex x #[none,some [],false] 650 (.fn 913 #[[.ref s],[]])<|cf [] sz tk (H 0x56313358002170222555) [] [(s,aa #[xs] ns)] Y
def CR(x:Wd)(sz:N):Ko:=(NU 0 0 sz 0 [] x []).resume
def aeR:∀(x:Wd) Y,Ev (NU s ns sz tk xs x Y) Y [3,4,5,0,2] (.pend 647 #[none,some [iE sz],false] (EB sz (sz+3) (sz+4)<|sz+5)<|CR x sz) ([((sz+3),ba (sz+2) 0),((sz+4),aa #[[]] 0),((sz+5),ak [] 0)]++[(sz,az [V x.P ix tk<|.ref s] 1)]) [((sz+2),aa #[(iU (ar xs) none (some 9) none).1] 0)] [] [cm #[xs]]:=bB
def ae1:∀(x:Wd) Y,Ev (ex x #[none,some [iE z],false] 640 (.code<|EB z it ac a7)<|cf [(it,ba a8 0)] sz tk (bif x.b2 then[]else(H 0xb50)) [] [] Y) Y [0] (.next<|oA z it ac a7) [(it,ba a8 0)] [] [] []:=bB
def ae2:Ev (ex x #[none,some [iE z],false] 640 (.code<|oA z it ac a7)<|cf [(it,ba a8 k),(ac,aa #[a6] na),(a7,ak [] 0)] sz tk (H 0x548a40) [.int bb bo,iN m 0] [(a8,aa #[xs] ns)] Y) Y [0,1,2] (.next<|oA z it ac a7) [(it,ba a8<|k+1),(ac,aa ((ar a6).push<|iN m<|tk+4)<|na+1),(a7,ak [V x.P wa tk<|.int bb bo] 1)] [] [] [cm #[a6],cj bb (16^9)<|ad m,df #[xs] (ad k)<|ii bb bo]:=by lk
def ae3:Ev (ex x #[none,some [iE z],false] 640 (.code<|oA z it ac a7)<|cf [(it,ba a8 k),(ac,aa #[a6] na),(a7,ak [V x.P wa bs ck] 1)] sz tk (H 0x548a40) [.int bb bo,iN m 0] [(a8,aa #[xs] ns)] Y) Y [0,1,2] (.next<|oA z it ac a7) [(it,ba a8<|k+1),(ac,aa ((ar a6).push<|iN m<|tk+4)<|na+1),(a7,ak [V x.P wa bs<|.int bb bo] 1)] [] [] [cm #[a6],cj bb (16^9)<|ad m,df #[xs] (ad k)<|ii bb bo]:=by lk
def ae0:Ev (ex x #[none,some [iE z],false] 640 (.code<|oA z it ac a7)<|cf [(it,ba a8 k)] sz tk (H 0xa70) [] [(a8,aa #[xs] ns)] Y) Y [] (.res<|.ok .next) [] [] [] [ig #[xs]<|ad k]:=by lk
def DI:av:=CR x sz (.ok .next)<|cf [(sz,az [V x.P ix tk<|.ref s] 1),(sz+4,aa #[a6] na),(sz+5,ak [] 0)] G D (H 0x5151553541a04643) [] [] c0
def CS(x:Wd)(sz:N):Ko:=(DI 0 sz 0 0 0 0 [] x []).resume
def aeS:∀(x:Wd) c,Ev (DI s sz tk na G D a6 x c) c [0,4] (.pend 647 #[none,some [iE sz],false] (.call (.ref 867) #[[.ref<|G+1],[]])<|CS x sz) [(sz,az [V x.P ix tk<|.ref s,V x.P jp (D+3)<|.ref<|G+1] 2)] [((G+1),aa #[a6++[.int 986906 D,.int 112359<|D+1,.int 958717<|D+2]] 0)] [] [o6 (aI j8) (ar a6)<|ar [ii 986906 D,ii 112359<|D+1,ii 958717<|D+2]]:=bB
def NW:av:=CS x sz (.ok<|.ret<|.ref J)<|cf [(sz,az [V x.P ix tk<|.ref s,V x.P jp (D+3)<|.ref<|G+1] 2)] c1 K (H 0x51b50) [] [] dV
def KG(x:Wd)(sz:N):Ko:=(NW 0 sz 0 0 0 0 0 0 x []).resume
def Ll:∀(x:Wd) f,Ev (NW s sz tk G D J c1 K x f) f [0] (.pend 647 #[none,some [iE sz],false] (.call (.ref 874) #[[.ref<|G+1,.ref J],[]])<|KG x sz) [(sz,az [V x.P ix tk<|.ref s,V x.P jp (D+3)<|.ref<|G+1,V x.P kU K<|.ref J] 3)] [] [] []:=bB
def DJ:av:=KG x sz (.ok<|.ret<|.ref U)<|cf [(sz,az [V x.P ix tk<|.ref s,V x.P jp (D+3)<|.ref<|G+1,V x.P kU K<|.ref J] 3)] c2 t4 (H 0x5155511155) [] [] d0
def KH(x:Wd)(sz:N):Ko:=(DJ 0 sz 0 0 0 0 0 0 0 0 x []).resume
def aeU:∀(x:Wd) y,Ev (DJ s sz tk G D J K U c2 t4 x y) y [0] (.pend 647 #[none,some [iE sz],false] (.call (.ref 886) #[[.ref<|G+1,.ref J,.ref U],[]])<|KH x sz) [(sz,az [V x.P ix tk<|.ref s,V x.P jp (D+3)<|.ref<|G+1,V x.P kU K<|.ref J,V x.P mR t4<|.ref U] 4)] [] [] []:=bB
def NX:av:=KH x sz (.ok<|.ret<|ah bt b0)<|cf [(sz,az [V x.P ix tk<|.ref s,V x.P jp (D+3)<|.ref<|G+1,V x.P kU K<|.ref J,V x.P mR t4<|.ref U] 4)] c3 ds [0,1] [] [] d1
def KI(x:Wd)(sz:N):Ko:=(NX 0 sz 0 0 0 0 0 0 0 0 0 0 [] x []).resume
def aeV:∀(x:Wd) h,Ev (NX s sz tk G D J K U t4 b0 c3 ds bt x h) h [0] (.pend 647 #[none,some [iE sz],false] (.call (.ref 893) #[[ah bt b0],[]])<|KI x sz) [(sz,az [V x.P ix tk<|.ref s,V x.P jp (D+3)<|.ref<|G+1,V x.P kU K<|.ref J,V x.P mR t4<|.ref U] 4)] [] [] []:=bB
def DK:av:=KI x sz (.ok<|.ret<|.ref ch)<|cf [(sz,az [V x.P ix tk<|.ref s,V x.P jp (D+3)<|.ref<|G+1,V x.P kU K<|.ref J,V x.P mR t4<|.ref U] 4)] da dt [0,1] [] [] d2
def KJ(x:Wd)(sz:N):Ko:=(DK 0 sz 0 0 0 0 0 0 0 0 0 0 x []).resume
def aeW:∀(x:Wd) g,Ev (DK s sz tk G D J K U t4 ch da dt x g) g [0] (.pend 647 #[none,some [iE sz],false] (.call (.ref 903) #[[.ref ch],[]])<|KJ x sz) [(sz,az [V x.P ix tk<|.ref s,V x.P jp (D+3)<|.ref<|G+1,V x.P kU K<|.ref J,V x.P mR t4<|.ref U] 4)] [] [] []:=bB
def DL:av:=KJ x sz (.ok<|.ret<|.ref bl)<|cf [(sz,bi [V x.P ix tk<|.ref s,V x.P jp (D+3)<|.ref<|G+1,V x.P kU K<|.ref J,V x.P mR t4<|.ref U] 4<|us sz)] db du (H 0x515551) [] [] d3
def KK(x:Wd)(sz:N)(d:N):Ko:=(DL 0 sz 0 0 0 0 0 0 0 d 0 0 (λ_=>#[[]]) x []).resume
def aeX:∀(x:Wd) t,Ev (DL s sz tk G D J K U t4 bl db du us x t) t [0] (.pend 647 #[none,some [iE sz],false] (.call (.ref 908) #[[.ref<|G+1,.ref J,.ref U],[]])<|KK x sz bl) [(sz,bi [V x.P ix tk<|.ref s,V x.P jp (D+3)<|.ref<|G+1,V x.P kU K<|.ref J,V x.P mR t4<|.ref U] 4<|us sz)] [] [] []:=bB
def NY:av:=KK x sz bl (.ok<|.ret<|.ref ca)<|cf [(sz,bi [V x.P ix tk<|.ref s,V x.P jp (D+3)<|.ref<|G+1,V x.P kU K<|.ref J,V x.P mR t4<|.ref U] 4<|us sz)] dd dx [] [] [] ea
def KL(x:Wd)(sz:N):Ko:=(NY 0 sz 0 0 0 0 0 0 0 0 0 0 0 (λ_=>#[[]]) x []).resume
def aeY:∀(x:Wd) a,Ev (NY s sz tk G D J K U t4 bl ca dd dx us x a) a [0] (.gz 647 #[none,some [iE sz],false] (pY .Eq (.ref bl)<|.ref ca)<|KL x sz) [(sz,bi [V x.P ix tk<|.ref s,V x.P jp (D+3)<|.ref<|G+1,V x.P kU K<|.ref J,V x.P mR t4<|.ref U] 4<|us sz)] [] [] []:=bB
def aeZ:∀(x:Wd) a,Ev (KL x sz (.ok<|.ret<|.bool true)<|cf [] eb ec [] [] [] a) a [] (.res<|.ok<|.ret<|.bool true) [] [] [] []:=bB
def NV:av:=CR x sz (.ok .next)<|cf [(sz,az [V x.P ix tk<|.ref s] 1),(sz+4,aa #[a6] na),(sz+5,ak [V x.P wa bs ck] 1)] G D (H 0x5151553541a0464333) [] [] c0
def aeT:∀(x:Wd) c,Ev (NV s sz tk na bs G D a6 ck x c) c [0,4] (.pend 647 #[none,some [iE sz],false] (.call (.ref 867) #[[.ref<|G+1],[]])<|CS x sz) [(sz,az [V x.P ix tk<|.ref s,V x.P jp (D+3)<|.ref<|G+1] 2)] [((G+1),aa #[a6++[.int 986906 D,.int 112359<|D+1,.int 958717<|D+2]] 0)] [] [o6 (aI j8) (ar a6)<|ar [ii 986906 D,ii 112359<|D+1,ii 958717<|D+2]]:=bB
end
section
open PySem.SeqAt PySem.MeetsSeq3
def zy:N->PV->Prop
 |_,.int _=>True
 |_,.str _=>True
 |d+1,.lst l=>∀p∈l,zy d p
 |d+1,.tup l=>∀p∈l,zy d p
 |_,_=>False
def yQ:∀{ps vs},aM F ps vs->∀j (h:j<vs.length),∃h':j<ps.length,Rp F ps[j] vs[j]:=by
 intro J;induction J with
 |nil=>intro vs g j h;obtain rfl:=eu.mp g;cases h
 |cons p ps C=>
  intro vs g j h;rw[cp (cq.mp g) λv E P c M=>?_];subst P;cases j with
  |zero=>rw[#[Nat.zero_lt_succ _,c]]
  |succ j=>obtain⟨a,b⟩:=C M j (by simpa using h);rw[#[Tu a,b]]
def GY:(sq n).all (λU=>true)=true:=by simp
def PT(W:∀a o,F a o->s.heap.get? a=some o):∀{d p v u A},zy d p->Rp F p v->Rp F p u->A.units+d<cLine->EqAt A s v u true:=by
 intro d;induction d with
 |zero=>
  intro p v u A I X g U;cases p with
  |int i=>obtain⟨D,rfl⟩:=dT.mp X;obtain⟨k,rfl⟩:=dT.mp g;have:=EqAt.int_int (A:=A) (s:=s) i D i k;rwa[beq_self_eq_true]at this
  |str l=>obtain⟨D,rfl⟩:=c9.mp X;obtain⟨k,rfl⟩:=c9.mp g;have:=EqAt.str_str (A:=A) (s:=s) #[#[l]] D #[#[l]] k;rwa[beq_self_eq_true]at this
  |_=>rw[I.elim]
 |succ d C=>
  intro p v u A I X g U;cases p with
  |int i=>obtain⟨D,rfl⟩:=dT.mp X;obtain⟨k,rfl⟩:=dT.mp g;have:=EqAt.int_int (A:=A) (s:=s) i D i k;rwa[beq_self_eq_true]at this
  |str l=>obtain⟨D,rfl⟩:=c9.mp X;obtain⟨k,rfl⟩:=c9.mp g;have:=EqAt.str_str (A:=A) (s:=s) #[#[l]] D #[#[l]] k;rwa[beq_self_eq_true]at this
  |lst l=>
   rw[gX (dW.mp X) λa Q n j m M=>?_];subst j;rw[gX (dW.mp g) λb R E j H z=>?_];subst j;by_cases e:a=b
   .subst e;rw[EqAt.same _]
   .have f:=M.length.trans z.length.symm
    have:=EqAt.of_refs e (RcAt.lists (eo _ (W _ _ m) rfl #[n,rfl]) (eo _ (W _ _ H) rfl #[E,rfl]) f (MJ U) λK c r=>by rw[dq (yQ M K c) λw L=>dq (yQ z K r) λq h=>C (I _<|nh w) L h<|MK U])
    rwa[GY]at this
  |tup l=>
   rw[cp (jO.mp X) λa Q P m M=>?_];subst P;rw[cp (jO.mp g) λb R P H z=>?_];subst P;by_cases e:a=b
   .subst e;rw[EqAt.same _]
   .have f:=M.length.trans z.length.symm
    have:=EqAt.of_refs e (RcAt.tuples (eo _ (W _ _ m) rfl #[_,rfl]) (eo _ (W _ _ H) rfl #[_,rfl]) (MJ U) λK c r=>by rw[dq (yQ M K c) λw L=>dq (yQ z K r) λq h=>C (I _<|nh w) L h<|MK U])
    rw[GY]at this;rwa[(beq_iff_eq.mpr f:((ar Q).size==(ar R).size)=true)]at this
  |_=>rw[I.elim]
def m7(x:Wd)(A:dX)(s:aN)(y z:af):Prop:=∀(w:af->aN->Prop) (h:Bool->aN->Prop),h true s->ej (aE pw x.W) A (eqBool y z) h w s
def m7.of{x:Wd}{A:dX}{s:aN}{y z:af}(h:EqAt A s y z true):m7 x A s y z:=(h _ _)
def m7.refs{x:Wd}{A:dX}{s:aN}{a b:aH}(h:∀(E:af->aN->Prop) (Q:af->aN->Prop),Q (.bool true) s->ej (aE pw x.W) A (pY .Eq (.ref a)<|.ref b) Q E s):m7 x A s (.ref a) (.ref b):=λE Q q=>by rw[iy<|wpAny_ite_split (λU=>aT<|oJ<|bK q) λU=>(aT<|h _ _<|Fe q)]
def m7.UF{x:Wd}{A:dX}{s:aN}{l:!UInt8}{t u:N}:m7 x A s (.bytes #[l] t) (.bytes #[l] u):=λw h q=>by rw[iy<|wpAny_ite_split (λU=>aT<|oJ<|bK q) λU=>(aT<|PySem.W.eq_bytes<|Fe (by rw[beq_self_eq_true,];rw[q]))]
def Yu(h:s.heap.get? l=some (aa D n))(a:s.heap.get? b=some (aa U J))(r:D.size=U.size)(w:∀j (y:j<D.size) (M:j<U.size),m7 x A.in1 s D[j] U[j])(t:R (.ok<|.ret<|.bool true) s):∀(k i),D.size-i=k->ej (aE pw x.W) A.in1 (Builtin.«list.__eq__.loop» ⟨[.ref l,.ref b,iq i,iq 2],[]⟩) (λo P=>match o with|.done f=>R (.ok f) P|.again L=>L.quiet=true/\gL (aE pw x.W) A L R P) (λe P=>R (.error e) P) s:=by
 intro k;induction k with
 |zero=>
  intro i c;obtain⟨I,z,d,K,p⟩:=s;replace h:I.get? l=some {cls:=.type "list",dict:=none,data:=.seq D n,slots:=#[[]]}:=h;replace a:I.get? b=some {cls:=.type "list",dict:=none,data:=.seq U J,slots:=#[[]]}:=a
  wp_walk using qf h,qf a;have g:D[((i:N):Int).toNat]? =none:=by simp;rw[aji c]
  have m:U[((i:N):Int).toNat]? =none:=by simp;rw[ajj r c]
  rw[g,m]
  wp_walk using qf h,qf a;show R (.ok<|.ret<|.bool<|D.size==U.size) _;rw[r,beq_self_eq_true];rw[t]
 |succ k C=>
  intro i c;obtain⟨I,z,d,K,p⟩:=s;replace h:I.get? l=some {cls:=.type "list",dict:=none,data:=.seq D n,slots:=#[[]]}:=h;replace a:I.get? b=some {cls:=.type "list",dict:=none,data:=.seq U J,slots:=#[[]]}:=a
  wp_walk using qf h,qf a;have G:i<D.size:=ajk c;have q:i<U.size:=ajl r G;have g:D[((i:N):Int).toNat]? =some D[i]:=by simp[G]
  have m:U[((i:N):Int).toNat]? =some U[i]:=by simp[q]
  have u:((i:Int)+1)=((i+1:N):Int):=by push_cast;rfl
  rw[g▸m▸?_];rw[aT (w i G q _ _ ?_)]
  wp_walk;rw[u▸#[Pd plain_eq_loop _,AU entry_eq_loop (by rw[(Si plain_eq_loop _)▸C (i+1) (ajm c G)])]]
def Yt(a:s.heap.get? l=some (aa G n))(f:s.heap.get? b=some (aa U J))(k:G.size=U.size)(g:A.units<cLine)(h:∀j (i:j<G.size) (M:j<U.size),m7 x A.in1 s G[j] U[j])(D:Q (.bool true) s):ej (aE pw x.W) A (pY .Eq (.ref l)<|.ref b) Q E s:=by
 rw[wpAny_richCompare_same_room (op:=.Eq) #[_,a,rfl] #[_,f,rfl] Fv (wpAny_call<|Vh Fv.plain F.entry_list_eq<|Fv.check _ _ _ _ _ _ _ _ #[_,a,rfl] (F.args_list_eq_2 _ _) ?_) g];obtain⟨I,z,d,K,p⟩:=s;replace a:I.get? l=some {cls:=.type "list",dict:=none,data:=.seq G n,slots:=#[[]]}:=a;replace f:I.get? b=some {cls:=.type "list",dict:=none,data:=.seq U J,slots:=#[[]]}:=f;have c:=AutoSeq1.sub_list_list;have O:¬(G.size !=U.size)=true:=by simp[k]
 wp_walk using qf a,qf f;exact#[Pd plain_eq_loop _,AU entry_eq_loop (by exact(Si plain_eq_loop _)▸Yu (R:=λr P=>match r with|.ok (.ret v)=>v≠.notImplemented/\Q v P|.ok _=>False|.error e=>E e P) a f k h #[(λe=>nomatch e),D] _ 0 rfl)]
end
section
open PySem.SeqAt
def ase:∀{es:!De},valueAt (es.map λe=>((#[#[e.1]]:aA),e.2.2)) #[#[k]]=(aZ es k).map (·.2):=by
 intro J;induction J with
 |nil=>rw[rfl]
 |cons e es C=>
  unfold valueAt at C⊢;simp only[bW,uJ,aZ];by_cases U:e.1=k
  .rw[if_pos U,decide_eq_true<|by rw[U,]];rfl
  .rw[if_neg U,decide_eq_false λq=>U (by injection q with q;injection q)];rw[C]
def aeO{x:Wd}{F:Fs}{A:dX}{s:aN}(W:∀a o,F a o->s.heap.get? a=some o)(g:A.units+4<cLine){r:!De}{Z:cJ}(f:bS F r (eR Z)):∀{c:!De} {m:!(!N×PV)} {X:cJ},bS F c m->m=eR X->(∀p∈X,aZ Z p.1=some p.2)->KeqHits A s (r.map λe=>((#[#[e.1]]:aA),e.2.2)) (c.map λe=>((#[#[e.1]]:aA),e.2.2)) true:=by
 intro c m X b;induction b generalizing X with
 |nil=>intro _ _;rw[.nil]
 |@cons j D v p l m U _ C=>
  intro e h;cases X with
  |nil=>cases e
  |cons d X=>
   injection e with K O;rw[ct (o8 K) λQ H=>?_];subst Q;subst H;obtain⟨G,n,L,i⟩:=f.get (k:=d.1) (by simp only[ug,(h d<|.head _)];rfl);have t:=PT W (by
    intro q u;rw[aJ (bn.mp u) λy J P=>?_];subst P;intro q u;rcases aY.mp u with rfl|u
    .trivial
    .rcases iA.mp u with rfl
     trivial) U i<|ala g
   have:=KeqHits.hit (k:=#[#[d.1]]) (by simp only[ase,L];rfl) t<|C O λp I=>h p<|.tail _ I;rw[this]
def Ys{x:Wd}(W:∀a o,F a o->s.heap.get? a=some o)(g:A.units+5<cLine)(c:F a6 (ak (aB x.P a8) bl))(M:F a7 (ak (aB x.P bb) J))(b:bS F a8 (eR G))(t:bS F bb (eR K))(j:(G.map (·.1)).Nodup)(T:(K.map (·.1)).Nodup)(f:G.length=K.length)(h:∀p∈G,aZ K p.1=some p.2)(w:a6≠1)(L:a7≠1)(D:Q (.bool true) s):ej (aE pw x.W) A (pY .Eq (.ref a6)<|.ref a7) Q E s:=by
 have H:(a8.map (·.1)).Nodup:=by rw[b.keys,bI];rw[j]
 have z:(bb.map (·.1)).Nodup:=by rw[t.keys,bI];rw[T]
 have y:∀d:N,d≠1->((d:aH)==y6)=false:=λd U=>beq_eq_false_iff_ne.mpr U;refine keq_eq (y a6 w) (y a7 L) (Be (x:=x) (W _ _ c) H).dictOf (Be (x:=x) (W _ _ M) z).dictOf (alb g) (λ_=>aeO (x:=x) (A:=A.in1) W (by rw[alc g]) t b rfl h) ?_;have u:=b.length;have m:=t.length;rw[aU]at u m;have:(qr (λe:De=>((#[#[e.1]]:aA),e.2.2)) a8).length=(qr (λe:De=>((#[#[e.1]]:aA),e.2.2)) bb).length:=by rw[aU,aU];rw[ald f u m]
 rw[this,beq_self_eq_true];rw[D]
def asu{cs:cJ}:ju cs=.none\/∃l,ju cs=.nN l:=by
 delta ju;generalize aZ cs [70]=o;cases o with
 |none=>rw[.inl rfl]
 |some l=>cases l with
  |nil=>rw[.inl rfl]
  |cons y D=>rw[.inr #[_,rfl]]
def Yr(W:∀a o,F a o->s.heap.get? a=some o)(g:A.units+10<cLine){cs:cJ}(n:rV F x a b rd cs bb cd nc a8 b0 bs ch)(t:uE x F S a6 ca ls bo bl a7 J bt ck)(i:F bb (aa #[b0] a8))(M:F cd (ak (aB x.P bs) nc))(X:F bl (aa #[J] nr))(I:F a7 (ak (aB x.P bt) U))(w:cd≠1)(L:a7≠1)(f:b=decide (mx (S.map (·.2))<9))(O:rd=jG ls)(j:(cs.map (·.1)).Nodup)(T:(a6.map (·.1)).Nodup)(k:cs.length=a6.length)(h:∀p∈cs,aZ a6 p.1=some p.2)(B:ju cs=ca)(D:Q (.bool true) s):ej (aE pw x.W) A (pY .Eq (.ref a)<|.ref bo) Q E s:=by
 rw[Yt (W _ _ n.l) (W _ _ t.l) rfl (ale g) (λK c r=>?_) D]
 match K,c,r with
 |0,_,_=>rw[f▸.of (.same _)]
 |1,_,_=>refine .of (PT W (d:=2) (p:=.lst<|yJ rd) ?_ (dW.mpr #[bb,_,a8,rfl,i,n.rd]) (dW.mpr #[bl,_,nr,rfl,X,by rw[O▸t.r]])<|by rw[alf g]);intro q u;rw[aJ (bn.mp u) λl _ P=>?_];subst P;intro q u;rw[aJ (bn.mp u) λy _ P=>?_];subst P;trivial
 |2,_,_=>rw[.refs λE Q q=>Ys W (by rw[alg g]) M I n.ce t.c j T k h w L q]
 |3,_,_=>
  show m7 x A.in1 s ch ck;have H:=n.w;have z:=t.w;rw[<-B]at z;have e:ju cs=.none\/∃l,ju cs=.nN l:=by rw[asu]
  rcases e with e|⟨l,e⟩
  .rw[e]at H z
   rw[(yP.mp H)▸(yP.mp z)▸.of (.same _)]
  .rw[e]at H z
   obtain⟨Y,rfl⟩:=yO.mp H;obtain⟨G,rfl⟩:=yO.mp z;rw[.UF]
 |K+4,c,_=>rw[absurd c<|by rw[alh]]
end
def ars(xs):(iU #[xs] none (some 9) none).toList=xs.take 9:=by
 by_cases U:9<=xs.length
 .have:=slicePick_upto #[xs] 9 (by simpa using U)
  have e:=this;simpa using(congrArg Fk e)
 .have e:iU #[xs] none (some 9) none=iU #[xs] none none none:=by
   have:Qu none (some 9) none (ar xs).size=Qu none none none (ar xs).size:=by simp[Qu];rw[aa3 U]
   unfold iU;rw[this,]
  simp only[e,slicePick_all,qz<|aho U]
def m9(z:Int):N:=(z.fmod<|16^9).toNat
def Ph(z):cj z (16^9) (ad<|m9 z):=#[ζ,by unfold m9;rw[qn,Int.toNat_of_nonneg<|Int.fmod_nonneg_of_pos z<|ζ]]
section
variable{x:Wd}
abbrev zV(p:Int×N):af:=.int p.1 p.2
abbrev uZ(x:Wd)(H:N):Option (N×af)->aH×Obj
 |none=>(H,ak [] 0)
 |some p=>(H,ak [V x.P wa p.1 p.2] 1)
abbrev xO(z:N):Mk:=#[none,some [iE z],false]
def aqx{z it ac H f k ns na b:N}(W:F f (aa #[xs] ns))(hi:xs[k]? =some (.int D b))(hz:G.length<=1000)(h:∀F' y d E,Le F F'->ay x (xO z) 640 (oA z it ac H) F' [(it,ba f<|k+1),(ac,aa #[G++[aO (m9 D,E)]] d),uZ x H<|some y] Q):ay x (xO z) 640 (oA z it ac H) F [(it,ba f k),(ac,aa #[G] na),uZ x H o] Q:=by
 cases o with
 |none=>rw[fu (O:=[(f,aa #[xs] ns)]) #[W,ab] λB K=>bu (ae2 ns B K z it ac H f k na b (m9 D) xs G D x) ab #[f_<|hI hz,Ph D,hM hi,ab] rfl (aV) ?_];rw[kr,];rw[h _ (K,.int D b) _ _ an]
 |some y=>rw[fu (O:=[(f,aa #[xs] ns)]) #[W,ab] λB K=>bu (ae3 ns B K z it ac H f k na b (m9 D) y.1 xs G D y.2 x) ab #[f_<|hI hz,Ph D,hM hi,ab] rfl (aV) ?_];rw[kr,];rw[h _ (y.1,.int D b) _ _ an]
inductive Af (x:Wd) (ac cl:N) (l:!(Int×N)) (F':Fs):aL->ao->Prop
 |mk (vs:!(N×N)) (na:N) (o:Option (N×af)) (h1:vs.map (·.1)=l.map (λp=>m9 p.1)):Af x ac cl l F' (.ok .next) [(ac,aa #[vs.map aO] na),uZ x cl o]
def afr{z it ac H f ns:N}(i:l.length<=900):∀{n k na} {vs:!(N×N)} {o F},F f (aa #[l.map zV] ns)->vs.map (·.1)=(l.take k).map (λp=>m9 p.1)->k+n=l.length->ay x (xO z) 640 (oA z it ac H) F [(it,ba f k),(ac,aa #[vs.map aO] na),uZ x H o] (Af x ac H l):=by
 intro n;induction n with
 |zero=>
  intro k na vs o F W X w;obtain rfl:k=l.length:=w;simp only[wP]at X;rw[bJ (L:=[(it,ba f l.length)]) (O:=[(f,aa #[l.map zV] ns)]) #[W,ab] λB K=>bp (ae0 ns B K z it ac H f l.length (l.map zV) x) ab #[by show(ar<|l.map zV)[l.length]? =none;simp,ab] (aV) #[vs,na,o,X]]
 |succ n C=>intro k na vs o F W X w;have c:=rz w;refine aqx W (by simp only[fj,eH c];rfl) (yk X<|bT i<|ζ) λT y d E le=>?_;have z:=C (vs:=vs++[(m9 (l[k]).1,E)]) (na:=d) (o:=some y) (le _ _ W) (by simp only[l6 c,bf,bf,X];rfl)<|pK w;rw[bf]at z;rw[z]
def VT{z it ac H f ns na:N}(i:l.length<=900)(W:F f (aa #[l.map zV] ns)):ay x (xO z) 640 (EB z it ac H) F [(it,ba f 0),(ac,aa #[[]] na),(H,ak [] 0)] (Af x ac H l):=bJ (L:=[(it,ba f 0)]) (O:=[]) ab λB K=>bu (ae1 B K z it ac H f x) ab ab rfl (aV)<|afr i (vs:=[]) (o:=none) (an _ _ W) rfl<|ahp
end
section
variable{x:Wd}
inductive GN (l:!(N×N×Option N)) (F':Fs):aL->ao->Prop
 |mk (a rs nr) (h1:F' a (aa #[rs] nr)) (h2:aM F' (l.map d6) rs):GN l F' (.ok (.ret (.ref a))) []
inductive GO (l:!(!N)) (F':Fs):aL->ao->Prop
 |mk (a es) (h1:F' a (aa #[es] 0)) (h2:aM F' (l.map .str) es):GO l F' (.ok (.ret (.ref a))) []
def Rq{au:!af}(P:am≠[])(o:am.length<=100)(I:F p (aa #[au] D))(t:aM F (am.map gp) au):ay x aj 200 (.call (.ref 867) #[[.ref p],[]]) F [] (GN<|gQ am 9 0 [(0,5)]):=
 (arb P o I t).ul λr T h K q=>by rw[q.casesOn λa f g U=>ki [(a,aa #[f] g)] [] (.refl _) #[a,f,g,bc<|.head _,U.to an]]
def Rr(b:D.length=9)(S:∀r∈D,gn r){au rs:!af}(I:F p (aa #[au] G))(t:aM F (am.map gp) au)(A:F r (aa #[rs] nr))(z:aM F (D.map d6) rs):ay x aj 400 (.call (.ref 874) #[[.ref p,.ref r],[]]) F [] (GO<|oh am D):=
 (ard b S I t A z).ul λr T h K q=>by rw[q.casesOn λa k U=>ki [(a,aa #[k] 0)] [] (.refl _) #[a,k,bc<|.head _,U.to an]]
structure qp (am:!N) (tree:c6) (extra:!(!N)):Prop where
 h3:3<=am.length
 h9:am.length<=100
 et:tree=gQ am 9 0 [(0,5)]
 ee:extra=oh am tree
 len:tree.length=9
 tr:sM tree extra
 ex:rY extra
 pg:∃k ks,lh (some 32) [] (pU am tree extra) (k::ks)/\ks.length<=9000/\2<=(pU am tree extra).length/\(pU am tree extra).length<=9999/\
  ∃row rest b cs rd,jo [] [] (k::ks)=row::rest/\Nonempty (sI (row::rest) b cs rd)/\
   ((not (b)))=decide (mx ((bZ (cZ tree extra) 9).map (·.2))<9)/\
   (∀ls,ls.length=9->j6 (bZ (cZ tree extra) 9) ls->rd=jG ls)/\
   (cs.map (·.1)).Nodup/\((dy am (bZ (cZ tree extra) 9) tree).map (·.1)).Nodup/\cs.length=(dy am (bZ (cZ tree extra) 9) tree).length/\
   (∀p∈cs,aZ (dy am (bZ (cZ tree extra) 9) tree) p.1=some p.2)/\
   ju cs=ke am (bZ (cZ tree extra) 9)
abbrev QL:Po:=λU r U=>r=.ok (.ret<|.bool true)
abbrev tA:Mk:=#[none,some [],false]
abbrev om(x:Wd)(sz s J l e tk G E t4:N)(u:Array (Option af)):aH×Obj:=(sz,bi [V x.P ix tk<|.ref s,V x.P jp (G+3)<|.ref<|J+1,V x.P kU E<|.ref l,V x.P mR t4<|.ref e] 4 u)
structure ql (x:Wd) (F:Fs) (am:!N) (tree:c6) (extra:!(!N)) (p tr wt nr:N) (au rs es:!af):Prop where
 hp:F p (aa #[au] 0)
 B3:aM F (am.map gp) au
 hr:F tr (aa #[rs] nr)
 B4:aM F (tree.map d6) rs
 he:F wt (aa #[es] 0)
 B1:aM F (extra.map .str) es
 h1:∃o,F 1 o
def ql.to{F F':Fs}(T:Le F F'){am:!N}{d:c6}{S:!(!N)}{p l e nr:N}{au rs es:!af}(h:ql x F am d S p l e nr au rs es):ql x F' am d S p l e nr au rs es:=#[T _ _ h.hp,h.B3.to T,T _ _ h.hr,h.B4.to T,T _ _ h.he,h.B1.to T,let⟨o,h⟩:=h.h1;#[o,T _ _ h]]
def uE.to{F F':Fs}(Q:Le F F'){S:fQ}{E:cJ}{C:PV}{ls:!(List<|List N)}{a k cd:N}{m:!af}{R:!De}{z:af}(h:uE x F S E C ls a k cd m R z):uE x F' S E C ls a k cd m R z:=#[Q _ _ h.l,h.r.to Q,h.n,h.o,h.c.to Q,h.w.to Q]
def ZS{l E e t4 i M Q nr:N}{au rs es:!af}{cs:cJ}(I:ql x F am a6 a7 (J+1) l e nr au rs es)(h:qp am a6 a7)(g:rV F x i ((not (b))) rd cs bs cd nc bl bo bb bt)(K:((not (b)))=decide (mx ((bZ (cZ a6 a7) 9).map (·.2))<9))(O:∀ls,ls.length=9->j6 (bZ (cZ a6 a7) 9) ls->rd=jG ls)(j:(cs.map (·.1)).Nodup)(T:((dy am (bZ (cZ a6 a7) 9) a6).map (·.1)).Nodup)(ch:cs.length=(dy am (bZ (cZ a6 a7) 9) a6).length)(ca:∀p∈cs,aZ (dy am (bZ (cZ a6 a7) 9) a6) p.1=some p.2)(B:ju cs=ke am (bZ (cZ a6 a7) 9))(n:Le F0 F):Go x tA 650 F0 QL F ([(bs,aa #[bo] bl),(cd,ak (aB x.P bb) nc)]++a8) λt=>DL s sz tk J G l E e t4 i M Q us x t:=by rw[bP (Z:=om x sz s J l e tk G E t4 (us sz)::(_++a8)) (aeX s sz tk J G l E e t4 i M Q us x) ab ab (.refl _) (((arn h.h3 h.h9 h.tr (I.to an).hp (I.to an).B3 (I.to an).hr (I.to an).B4 (I.to an).he (I.to an).B1).hd).le ζ λ_ _ _ _ U=>U) λr c H u L=>L.casesOn @λH ls f k z ac R da X S D m c3=>?_];have W:=bO u;rw[#[[om x sz s J l e tk G E t4<|us sz],H++(_++a8),pm [H,[om x sz s J l e tk G E t4<|us sz],[(bs,aa #[bo] bl),(cd,ak (aB x.P bb) nc)]++a8] (.p (.a 0)<|.p (.a 1)<|.a 2) (.p (.a 1)<|.p (.a 0)<|.a 2) rfl,_,_,[],ab,λc1 q=>xN (Lc:=[(bs,aa #[bo] bl),(cd,ak (aB x.P bb) nc),(k,aa #[ac] X),(z,ak (aB x.P R) S)]) (Z:=om x sz s J l e tk G E t4 (us sz)::(a8++D)) (aeY s sz tk J G l E e t4 i f c1 q us x) ab ab (((c3.append_right _).append_left _).trans<|pm [[om x sz s J l e tk G E t4<|us sz],_,D,_,a8] (.p (.a 0)<|.p (.p (.a 1)<|.a 2)<|.p (.a 3)<|.a 4) (.p (.p (.a 3)<|.a 1)<|.p (.a 0)<|.p (.a 4)<|.a 2) rfl) λw c4 c5 A C o=>(dq I.h1 λP ck=>?_)]];have y:∀p∈[(bs,aa #[bo] bl),(cd,ak (aB x.P bb) nc),(k,aa #[ac] X),(z,ak (aB x.P R) S)],p.1≠1:=λp c0 b0=>o.rep.dj p (ga _ c0) P<|b0▸an _ _ (W _ _ ck);rw[Yr (λa Y U=>U.elim (λU=>o.rep.fr _ _<|an _ _ U) λU=>o.rep.led _<|ga _ U) (by have:=C.2.2.1;show A.units+10<9900;rw[ahY this]) (g.to λa Y U=>an a Y<|W a Y U) (m.to an) (bc<|.head _) (bc<|.tail _<|.head _) (bc<|.tail _<|.tail _<|.head _) (bc<|.tail _<|.tail _<|.tail _<|.head _) (y _<|.tail _<|.head _) (y _<|.tail _<|.tail _<|.tail _<|.head _) K (O ls m.n m.o) j T ch ca B<|bY _ _ aV o ⟨[],_,.refl _,_,_,[],ab,λc2 d=>bp (aeZ sz c2 d x) ab ab (cb<|dR n W) rfl⟩]
def ZR{au rs es:!af}(I:ql x F am a6 a7 (J+1) bb bl nr au rs es)(h:qp am a6 a7)(t:F a8 (aa #[bt] ch))(A:aM F ((jo [] [] (k::bo)).map dG) bt)(hk:∃o rest b cs rd,jo [] [] (k::bo)=o::rest/\Nonempty (sI (o::rest) b cs rd)/\ ((not (b)))=decide (mx ((bZ (cZ a6 a7) 9).map (·.2))<9)/\ (∀ls,ls.length=9->j6 (bZ (cZ a6 a7) 9) ls->rd=jG ls)/\ (cs.map (·.1)).Nodup/\((dy am (bZ (cZ a6 a7) 9) a6).map (·.1)).Nodup/\cs.length=(dy am (bZ (cZ a6 a7) 9) a6).length/\ (∀p∈cs,aZ (dy am (bZ (cZ a6 a7) 9) a6) p.1=some p.2)/\ ju cs=ke am (bZ (cZ a6 a7) 9))(n:Le F0 F):Go x tA 650 F0 QL F [] λg=>DK s sz tk J G bb b0 bl t4 a8 bs ca x g:=by
 rw[X8 hk λo rest b cs rd j L K O w T C l B=>?_];obtain⟨d⟩:=L;rw[j]at A;rw[bP (aeW s sz tk J G bb b0 bl t4 a8 bs ca x) ab ab (.refl _) ((arl (ol:=[iE sz]) (zs:=[#[sz,_,4]]) (us:=λ_=>#[[]]) #[(λU=>nomatch U),rfl,ab] d (an _ _ t)<|A.to an).le ζ λ_ _ _ _ U=>U) λr c H u q=>?_];obtain⟨S,a,i,E,D,P,m,R,z,e,f,y⟩:=q;have W:=bO u;rw[#[_,_++e,by simp only[bQ];rw[y.trans<|pm [[(i,aa #[m] P),(E,ak (aB x.P R) D)],e,_] (.p (.a 0)<|.p (.a 1)<|.a 2) (.p (.a 2)<|.p (.a 0)<|.a 1) rfl],_,_,[],ab,λM Q=>ZS (I.to W) h f K O w T C l B λa Y U=>W a Y<|n a Y U]]
def Iw{au rs es:!af}(I:ql x F am bl bb (J+1) a6 a7 nr au rs es)(h:qp am bl bb)(n:Le F0 F):Go x tA 650 F0 QL F [] λy=>DJ s sz tk J G a6 a8 a7 bo t4 x y:=by rw[xz h.pg λO t W D b o P=>Bu h.tr.hd λR M E Q B=>?_];have C:=h.len;have f:=λ{F:Fs} (I:ql x F am bl bb (J+1) a6 a7 nr au rs es)=>arf (x:=x) h.h3 h.h9 (by rw[B]at C;simpa using C) (B▸h.tr.ok) h.ex I.hp I.B3 I.hr (B▸I.B4) I.he I.B1;rw[<-B]at f;generalize pU am bl bb=jl at W b o f;rw[bP (Z:=[om x sz s J a6 a7 tk G a8 t4 #[[]]]) (aeU s sz tk J G a6 a8 a7 bo t4 x) ab ab (.refl _) ((f<|I.to an).hd.le ζ λ_ _ _ _ U=>U) λr c l u q=>q.casesOn λK=>#[[om x sz s J a6 a7 tk G a8 t4 #[[]]],[],.refl _,_,_,[],ab,λd k=>bP (Z:=[om x sz s J a6 a7 tk G a8 t4 #[[]]]) (aeV s sz tk J G a6 a8 a7 t4 K d k jl x) ab ab (.refl _) ((arh b o W D).hd.le ζ λ_ _ _ _ U=>U) λr e A m q=>(q.casesOn λv i=>gX (dW.mp i) λw g S j H z=>?_)]];subst j;have p:=dR (cb<|bO u) m;rw[⟨[om x sz s J a6 a7 tk G a8 t4 ⟨[]⟩],[],.refl _,_,_,[],ab,λX L=>ZR (I.to p) h H z P λa Y U=>p a Y<|n a Y U⟩]
def ZO{vs:!(N×N)}(hv:vs.map (·.1)=zs)(d:∃o,F 1 o)(hz:zs.length<=9)(h:qp (zs++[986906,112359,958717]) a6 K)(n:Le F0 F):Go x tA 650 F0 QL F [] λc=>DI s sz tk na J G (vs.map aO) x c:=by
 have Q:=congrArg gT hv;rw[aU]at Q;have t:∀O:Fs,aM O ((zs++[986906,112359,958717]).map gp) (vs.map aO++[.int 986906 G,.int 112359<|G+1,.int 958717<|G+2]):=λO=>by
  rw[<-hv,bf];rw[aM.append ?_<|.cons (dT.mpr #[_,rfl])<|.cons (dT.mpr #[_,rfl])<|.cons (dT.mpr #[_,rfl]) .nil];clear hv Q;induction vs with
  |nil=>rw[.nil]
  |cons v vs C=>rw[.cons (dT.mpr #[v.2,rfl]) C]
 refine bP (Lc:=[]) (aeS s sz tk na J G (vs.map aO) x) ab #[#[ζ,by show(vs.map aO).length+3<=16777216;rw[aU,];rw[MA hz Q]],ab] (.refl _) ((Rq (by simp) h.h9 (bc<|.head _)<|t _).hd.le ζ λ_ _ _ _ U=>U) λr i w u q=>q.casesOn λl f g H z=>?_;have W:=bO u;have I:=u _ _<|bc<|.head _;rw[<-h.et]at z;rw[⟨_,[],.refl _,_,_,[],ab,λD E=>bP (Lc:=[]) (Ll s sz tk J G l D E x) ab ab (.refl _) ((Rr h.len h.tr.ok (an _ _ I) (t _) (an _ _ H)<|z.to an).hd.le ζ λ_ _ _ _ U=>U) λr j A m q=>(q.casesOn λe k T b=>?_)⟩];have p:=bO m;rw[<-h.ee]at b;rw[d.casesOn λP d=>#[_,[],.refl _,_,_,[],ab,λM R=>Iw #[p _ _ I,t _,p _ _ H,z.to p,T,b,P,p _ _<|W _ _ d] h λa o U=>p a o<|W a o<|n a o U]]
def ZP{vs:!(N×N)}(hv:vs.map (·.1)=zs)(d:∃o,F 1 o)(hz:zs.length<=9)(h:qp (zs++[986906,112359,958717]) a8 a7)(n:Le F0 F):Go x tA 650 F0 QL F [] λc=>NV s sz tk na K J G (vs.map aO) a6 x c:=by
 have Q:=congrArg gT hv;rw[aU]at Q;have t:∀O:Fs,aM O ((zs++[986906,112359,958717]).map gp) (vs.map aO++[.int 986906 G,.int 112359<|G+1,.int 958717<|G+2]):=λO=>by
  rw[<-hv,bf];rw[aM.append ?_<|.cons (dT.mpr #[_,rfl])<|.cons (dT.mpr #[_,rfl])<|.cons (dT.mpr #[_,rfl]) .nil];clear hv Q;induction vs with
  |nil=>rw[.nil]
  |cons v vs C=>rw[.cons (dT.mpr #[v.2,rfl]) C]
 refine bP (Lc:=[]) (aeT s sz tk na K J G (vs.map aO) a6 x) ab #[#[ζ,by show(vs.map aO).length+3<=16777216;rw[aU,];rw[MA hz Q]],ab] (.refl _) ((Rq (by simp) h.h9 (bc<|.head _)<|t _).hd.le ζ λ_ _ _ _ U=>U) λr i w u q=>q.casesOn λl f g H z=>?_;have W:=bO u;have I:=u _ _<|bc<|.head _;rw[<-h.et]at z;rw[⟨_,[],.refl _,_,_,[],ab,λD E=>bP (Lc:=[]) (Ll s sz tk J G l D E x) ab ab (.refl _) ((Rr h.len h.tr.ok (an _ _ I) (t _) (an _ _ H)<|z.to an).hd.le ζ λ_ _ _ _ U=>U) λr j A m q=>(q.casesOn λe k T b=>?_)⟩];have p:=bO m;rw[<-h.ee]at b;rw[d.casesOn λP d=>#[_,[],.refl _,_,_,[],ab,λM R=>Iw #[p _ _ I,t _,p _ _ H,z.to p,T,b,P,p _ _<|W _ _ d] h λa o U=>p a o<|W a o<|n a o U]]
def arq{l:!(Int×N)}(hs:F s (aa #[l.map zV] ns))(i:l.length<=9000)(d:∃o,F 1 o)(h:qp ((l.take 9).map (λp=>m9 p.1)++[986906,112359,958717]) a6 D):ay x tA 650 (.call (.ref 913) #[[.ref s],[]]) F [] QL:=by
 refine d.casesOn λP d=>fv (O:=[(s,aa #[l.map zV] ns)]) #[hs,ab] λB K=>bP (Z:=[(B,az _ 1)]) (aeR s ns B K (l.map zV) x) ab #[f_ (by rw[aU,];rw[L9 i]),ab] (.refl _) ((VT (ns:=0) (l:=l.take 9) (bT (FV 9 l)<|ζ)<|(by simp only[ars,sj]:(iU ⟨l.map zV⟩ none (some 9) none).toList=(l.take 9).map zV)▸bc (.head _)).le ζ λ_ _ _ _ U=>U) λr c H u q=>q.casesOn λg b o X=>?_;have W:=bO u;have e:((l.take 9).map λp=>m9 p.1).length<=9:=by rw[aU,];rw[FV 9 l]
 cases o with
 |none=>rw[#[_,[],pm [[(B+4,aa #[g.map aO] b),(B+5,ak [] 0)],_] (.p (.a 0)<|.a 1) (.p (.p (.a 1)<|.a 0) .z) rfl,_,_,[],ab,λJ G=>ZO X #[P,W _ _ d] e h W]]
 |some y=>rw[#[_,[],pm [[(B+4,aa #[g.map aO] b),uZ x (B+5)<|some y],_] (.p (.a 0)<|.a 1) (.p (.p (.a 1)<|.a 0) .z) rfl,_,_,[],ab,λJ G=>ZP X #[P,W _ _ d] e h W]]
end
def nI(g:PG):!(!N)->Prop
 |[]=>True
 |x::l=>x∉l/\(∀y∈aS g x,y∈l)/\nI g l
def nI.Rf{g:PG}:∀{l:!(!N)} {o k:!N},nI g l->o∈l->k∈aS g o->k∈l
 |x::l,o,k,⟨_,h2,h3⟩,y,hk=>by
  rcases aY.mp y with rfl|y
  .rw[.tail _<|h2 k hk]
  .rw[.tail _<|nI.Rf h3 y hk]
def nI.M8{g:PG}{C:!N->Prop}(b:∀k,C k->∃o,C o/\k∈aS g o):∀{l:!(!N)},nI g l->(∀k,C k->k∈l)->∀k,¬C k
 |[],_,U,k,c=>nomatch U k c
 |x::l,⟨h1,h2,h3⟩,U,k,c=>by
  have W:=λW=>by
   rw[aJ (b x W) λo y a=>?_];rcases aY.mp (U o y)with rfl|B
   .rw[h1<|h2 _ a]
   .rw[h1<|h3.Rf B a]
  rw[nI.M8 b h3 (λk c=>(aY.mp<|U k c).resolve_left λe=>W<|e▸c) k c]
def nH(g:PG)(l:!(!N)):pd->!N->Prop
 |[],_=>True
 |(x,K)::st,p=>∃f,K=f+1/\(aS g x)[f]? =some p/\(∀i<f,∀Z,(aS g x)[i]? =some Z->Z∈l)/\nH g l st x
def nH.mono{g:PG}{l Q:!(!N)}(h:∀x∈l,x∈Q):∀{st:pd} {p:!N},nH g l st p->nH g Q st p
 |[],_,_=>trivial
 |(x,K)::st,p,h0=>HR h0 λf e a M X=>B7 f e a (λi m Z d=>h _<|M i m Z d)<|nH.mono h X
structure m_ (g:PG) (l:!(!N)) (st:pd) (seen:!(!N)):Prop where
 t:nI g l
 s:∀x,x∈seen↔x∈l\/x∈st.map (·.1)
 d:∀x∈st.map (·.1),x∉l
 n:(st.map (·.1)).Nodup
def Bg:∀{st l k},nH g l st k->k∈l->m_ g l st D->match ij g st with
  |none=>∃Q,m_ g Q [] D
  |some (E,z)=>∃Q,nH g Q z E/\m_ g Q z D
 |[],l,k,_,_,a=>#[l,a]
 |(x,K)::st,l,k,h0,hk,a=>HR h0 λf e j M X=>by
  simp only[ij];have all:∀i<K,∀Z,(aS g x)[i]? =some Z->Z∈l:=λi m Z d=>by
   rcases Nat.lt_or_eq_of_le (wR (e▸m))with q|rfl
   .rw[M i q Z d]
   .rw[j]at d;cases d;rw[hk]
  cases H:(aS g x)[K]?with
  |some E=>
   rw[bA l (B7 K rfl H all X) #[a.t,λy=>?_,λy b=>a.d y ?_,?_]]
   .rw[a.s y]
   .rw[b]
   .rw[a.n]
  |none=>
   have c:∀y∈aS g x,y∈l:=λy b=>by
    obtain⟨i,m,rfl⟩:=FY.mp b;rw[all i ?_ _<|eH m];rcases sw i K with q|q
    .rw[q]
    .have:=S8.mp H
     rw[ak0 e m q this]
   have h:=a.n;rw[bW,c_]at h;rw[Bg (X.mono λy b=>.tail _ b) (.head _) #[#[(a.d x<|.head _),c,a.t],λy=>by
    rw[a.s y,bW,aY,aY];constructor
    .rintro(U|U|U)
     .rw[.inl<|.inr U]
     .rw[.inl<|.inl U]
     .rw[.inr U]
    .rintro((U|U)|U)
     .rw[.inr<|.inl U]
     .rw[.inl U]
     .rw[.inr<|.inr U],λy b H=>by
    rcases aY.mp H with rfl|H
    .rw[h.1 b]
    .rw[a.d y (.tail _ b) H],h.2]]
set_option tactic.hygienic true in
def abg:∀{f st u P k l},nH g l st k->m_ g l st u->mz g f st u k=some (some P)->∃Q,m_ g Q [] P/\k∈P/\∀x∈u,x∈P:=by
 intro f;induction f with
 |zero=>intro st u P k l _ _ U;cases U
 |succ f C=>
  intro st u P k l o a U;change(if _ then _ else _)=_ at U;split at U
  .rename_i c
   split at U
   .rw[nomatch U]
   .rename_i J
    have t:=((a.s k).mp c).resolve_right J;have E:=Bg o t a;split at U
    .rename_i e
     rw[e]at E;rw[dq E λQ d=>?_];injection U with U;injection U with U;subst U;rw[eo Q d c λK U=>U]
    .rename_i y e
     rw[e]at E;rw[aJ E λQ n d=>kK (C n d U) λm M X I=>eo m M (I _ c) I]
  .rename_i c
   have h:=λq=>c<|(a.s k).mpr<|.inl q;have D:=λq=>c<|(a.s k).mpr<|.inr q;have j:∀{Y:Option (!N×pd)},(match Y with
     |none=>∃Q,m_ g Q [] (k::u)
     |some (p,z)=>∃Q,nH g Q z p/\m_ g Q z (k::u))->(match Y with
     |none=>some<|some (k::u)
     |some y=>mz g f y.2 (k::u) y.1)=some (some P)->∃Q,m_ g Q [] P/\k∈P/\∀x∈u,x∈P:=λ{Y} E U=>by
    cases Y with
    |none=>rw[dq E λQ d=>?_];injection U with U;injection U with U;subst U;rw[eo Q d (.head _) λx W=>.tail _ W]
    |some y=>rw[aJ E λQ n d=>kK (C n d U) λm M X I=>eo m M (I _<|.head _) λx W=>I _<|.tail _ W]
   rw[j ?_ U];simp only[ij];cases H:(aS g k)[0]?with
   |some p=>
    rw[bA l (B7 0 rfl H (λi s=>absurd s<|qB _) o) ⟨a.t,λy=>?_,λy b=>?_,?_⟩]
    .rw[aY,a.s y,bW,aY]
     constructor
     .rintro(U|U|U)
      .rw[.inr<|.inl U]
      .rw[.inl U]
      .rw[.inr<|.inr U]
     .rintro(U|U|U)
      .rw[.inr<|.inl U]
      .rw[.inl U]
      .rw[.inr<|.inr U]
    .rcases aY.mp b with rfl|b
     .rw[h]
     .rw[a.d y b]
    .rw[bW,c_];rw[#[D,a.n]]
   |none=>
    have r:aS g k=[]:=by have:=S8.mp H;rw[wJ<|ak1 this]
    rw[Bg (o.mono λy b=>.tail _ b) (.head _) #[#[h,(λy b=>by rw[r]at b;cases b),a.t],λy=>?_,λy b H=>?_,a.n]]
    .rw[aY,a.s y,aY]
     constructor
     .rintro(U|U|U)
      .rw[.inl<|.inl U]
      .rw[.inl<|.inr U]
      .rw[.inr U]
     .rintro((U|U)|U)
      .rw[.inl U]
      .rw[.inr<|.inl U]
      .rw[.inr<|.inr U]
    .rcases aY.mp H with rfl|H
     .rw[D b]
     .rw[a.d y b H]
set_option tactic.hygienic true in
def anZ:∀{t u l},m_ g l [] u->iQ g f t u=some false->∃Q,nI g Q/\(∀x∈u,x∈Q)/\∀k∈t,k∈Q:=by
 intro J;induction J with
 |nil=>intro u l a _;rw[eo l a.t (λx W=>by have:=(a.s x).mp W;simpa using this) λK U=>(cQ U).elim]
 |cons k t C=>
  intro u l a U;change(if _ then _ else _)=_ at U;split at U
  .rename_i c
   rw[kK (C a U) λQ b M X=>eo Q b M λx W=>(aY.mp W).elim (λe=>e▸M _ c)<|X x]
  .split at U
   .rw[nn U]
   .cases U
   .rename_i s e
    rw[kK (abg (st:=[]) ab a e) λQ d b M=>kK (C d U) λm w L i=>eo m w (λx W=>L _<|M x W) λx W=>(aY.mp W).elim (λe=>e▸L _ b)<|i x]
def Bi{s:!N->N}(hs:∀o,∀k∈aS g o,s o<s k):∀{st m z},st.Pairwise (λa b=>s b.1<s a.1)->ij g st=some (m,z)->z.Pairwise (λa b=>s b.1<s a.1)/\∀e∈z,s e.1<s m
 |[],_,_,_,U=>nn U
 |(x,K)::st,m,z,hp,U=>by
  simp only[ij]at U;have y:=qy.mp hp;cases H:(aS g x)[K]?with
  |some Z=>
   rw[H]at U;injection U with U;injection U with d M;subst d M;have W:=hs x Z<|uK H;rw[⟨qy.mpr ⟨λb j=>y.1 b j,y.2⟩,λe c=>?_⟩];rcases aY.mp c with rfl|c
   .rw[W]
   .rw[sx (y.1 e c) W]
  |none=>rw[H]at U;rw[Bi hs y.2 U]
set_option tactic.hygienic true in
def abh{s:!N->N}(hs:∀o,∀k∈aS g o,s o<s k):∀{f st u k},st.Pairwise (λa b=>s b.1<s a.1)->(∀e∈st,s e.1<s k)->mz g f st u k≠some none:=by
 intro f;induction f with
 |zero=>intro st u k _ _ U;cases U
 |succ f C=>
  intro st u k I c U;change(if _ then _ else _)=_ at U;split at U
  .split at U
   .rename_i J
    rw[aJ (bn.mp J) λe h M=>?_];have:=c e h;rw[M]at this;rw[nA _ this]
   .split at U
    .cases U
    .rename_i y e
     rw[ct (Bi hs I e) λd M=>C d M U]
  .split at U
   .cases U
   .rename_i y e
    rw[ct (Bi hs (qy.mpr #[c,I]) e) λd M=>C d M U]
set_option tactic.hygienic true in
def DV{s:!N->N}(hs:∀o,∀k∈aS g o,s o<s k):∀{t u},iQ g f t u≠some true
 |[],_,U=>by cases U
 |k::t,u,U=>by
  change(if _ then _ else _)=_ at U;split at U
  .rw[DV hs U]
  .split at U
   .rw[nn U]
   .rename_i e;rw[abh hs .nil (λK U=>(cQ U).elim) e]
   .rw[DV hs U]
def left(g:PG)(st:pd):N:=(st.map λe=>(aS g e.1).length-e.2).sum
def fC(g:PG)(u:!(!N)):N:=(((g.map (·.1)).filter λj=>decide<|j∉u).map λj=>(aS g j).length).sum
def Bf:∀{st m z},ij g st=some (m,z)->left g z+1<=left g st
 |[],_,_,U=>nn U
 |(x,K)::st,m,z,U=>by
  simp only[ij]at U;cases H:(aS g x)[K]?with
  |some Z=>
   rw[H]at U;injection U with U;injection U with a M;subst a M;have:K<(aS g x).length:=by
    rcases sw K (aS g x).length with q|q
    .rw[q]
    .rw[FS q]at H;cases H
   rw[ak2 this]
  |none=>rw[H]at U;have:=Bf U;rw[ak3 this]
def aqR(h:k∉g.map (·.1)):aS g k=[]:=by
 induction g with
 |nil=>rfl
 |cons x g C=>rw[bW,aY,not_or]at h;show(if x.1=k then x.2.2 else aS g k)=[];rw[if_neg λe=>h.1 e.symm,];rw[C h.2]
def Iq(w)(hk:k∉D):∀ns:!(!N),((ns.filter λy=>decide (y∉k::D)).map w).sum+(if k∈ns then w k else 0)<=((ns.filter λy=>decide<|y∉D).map w).sum
 |[]=>by simp
 |y::ns=>by
  have C:=Iq w hk ns;by_cases e:y=k
  .subst e
   rw[oO<|by simp,ng<|by simpa using hk,if_pos<|.head _,bW,lg];split at C
   .rw[al0 C]
   .rw[al1 C]
  .have O:(if k∈y::ns then w k else 0)=if k∈ns then w k else 0:=by
    by_cases q:k∈ns
    .rw[if_pos q,if_pos<|.tail _ q]
    .rw[if_neg q,if_neg λU=>(aY.mp U).elim (λG=>e G.symm) q]
   rw[O,];by_cases U:y∈D
   .rw[oO<|by simp[U],oO<|by simp[U]]
    rw[C]
   .rw[ng<|by simp[U,e],ng<|by simpa using U,bW,bW,lg,lg]
    rw[ak4 C]
def ZD(hk:k∉D):fC g (k::D)+(aS g k).length<=fC g D:=by
 have:=Iq (λk=>(aS g k).length) hk<|g.map (·.1);by_cases U:k∈g.map (·.1)
 .rw[if_pos U]at this;rw[this]
 .rw[if_neg U]at this;rw[(aqR U)▸this]
def ZC(h:∀x∈D,x∈G):fC g G<=fC g D:=by
 unfold fC;induction g.map (·.1)with
 |nil=>rw[d8 _]
 |cons y K C=>
  by_cases q:y∈D
  .rw[oO<|by simp[h y q],oO<|by simp[q]];rw[C]
  .simp only[ng (l:=K) (p:=λj=>decide<|j∉D)<|by simpa using q,bW,lg]
   by_cases f:y∈G
   .rw[oO<|by simp[f],];rw[ak5 C]
   .rw[ng<|by simpa using f,bW,lg];rw[ak6 C]
set_option tactic.hygienic true in
def abe:∀{f st u k},left g st+fC g u<f->mz g f st u k≠none:=by
 intro f;induction f with
 |zero=>intro st u k U;lia
 |succ f C=>
  intro st u k U e;change(if _ then _ else _)=_ at e;split at e
  .split at e
   .rw[nomatch e]
   .split at e
    .cases e
    .rename_i y b
     have:=Bf b;rw[C (ak7 U this) e]
  .rename_i c
   split at e
   .cases e
   .rename_i y b
    rw[C (ak8 U (Bf b) (ZD c) rfl) e]
def abf:∀{f st u P k},mz g f st u k=some (some P)->∀x∈u,x∈P:=by
 intro f;induction f with
 |zero=>intro st u P k U;cases U
 |succ f C=>
  intro st u P k U;change(if _ then _ else _)=_ at U;split at U
  .split at U
   .rw[nomatch U]
   .split at U
    .injection U with U;injection U with U;subst U;exactλK U=>U
    .rw[C U]
  .split at U
   .injection U with U;injection U with U;subst U;exactλx W=>.tail _ W
   .exactλx W=>C U x<|.tail _ W
set_option tactic.hygienic true in
def DU:∀{t u},fC g u<f->iQ g f t u≠none
 |[],_,_,U=>by cases U
 |j::t,u,hf,U=>by
  change(if _ then _ else _)=_ at U;split at U
  .rw[DU hf U]
  .split at U
   .rename_i e;rw[abe (ak9 hf) e]
   .cases U
   .rename_i s e
    rw[DU (jA (ZC<|abf e) hf) U]
def an0(R:fC g []<f){C:!N->Prop}(d:∀k,C k->∃o,C o/\k∈aS g o)(w:∀k,C k->k∈g.map (·.1))(a:b=true->∃k,C k)(L:b=false->∃s:!N->N,∀o,∀k∈aS g o,s o<s k):iQ g f (g.map (·.1)) []=some b:=by
 cases e:iQ g f (g.map (·.1)) []with
 |none=>rw[absurd e<|DU R]
 |some Z=>
  congr 1;cases b with
  |false=>
   obtain⟨s,i⟩:=L rfl;cases Z with
   |false=>rfl
   |true=>rw[absurd e<|DV i]
  |true=>
   obtain⟨k,c⟩:=a rfl;cases Z with
   |true=>rfl
   |false=>obtain⟨l,S,_,h⟩:=anZ (l:=[]) #[ab,λx=>by simp,λx U=>(cQ U).elim,.nil] e;rw[absurd c<|S.M8 d (λk c=>h k<|w k c) k]
def nM:d_ 0=[]:=by unfold d_;rw[qN▸?_];rfl
def pi(h:n≠0):d_ n=d_ (n/16)++[65+n%16]:=by unfold d_;simp only[sQ h,bf];congr 1;show[(pf<|65+n%16).toNat]=_;have:n%16<16:=bq _ ζ;rw[TO▸?_];congr 1;rw[GS this]
def GZ(h:n≠0):d_ n≠[]:=by rw[pi h,];simp
def dg(w x:N):!N:=(d_<|16^w+x).drop 1
def qR:dg 0 0=[]:=by unfold dg;rw[pi<|ζ,];rw[nM,];rfl
def nV(w x):dg (w+1) x=dg w (x/16)++[65+x%16]:=by have L:0<16^w:=sA ζ;unfold dg;rw[pi<|kB<|Ti (sA<|ζ) x,Nat.pow_succ];have K:(16^w*16+x)/16=16^w+x/16:=ahq;rw[K,(ahr K)];have:=GZ<|ahs L K;rw[fW (jY this) λZ l e=>e▸?_];rfl
def HG:∀{w x},x<16^w->(dg w x).length=w:=by
 intro J;induction J with
 |zero=>
  intro x U;obtain rfl:x=0:=by have:16^0=1:=rfl;rw[vx U]
  rw[qR,];rfl
 |succ w C=>intro x U;simp only[nV,cv,C<|rv U];rfl
def HF(M:D<16^w2):∀{m x1},x1<16^m->dg (w2+m) (x1+16^m*D)=dg w2 D++dg m x1:=by
 intro J;induction J with
 |zero=>
  intro x1 a;obtain rfl:x1=0:=by have:16^0=1:=rfl;rw[vx a]
  simp only[qR,bQ];congr 1;simp
 |succ m C=>
  intro x1 a;simp only[Nat.pow_succ]at a⊢;have K:(x1+16^m*16*D)/16=x1/16+16^m*D:=by rw[To,];rw[aht]
  have O:(x1+16^m*16*D)%16=x1%16:=by rw[To,];rw[ahv K]
  show dg (w2+m+1) _=_;simp only[nV,nV m,K,O,C<|ahw a K,b4]
def HH:∀{w x},x<16^w->∀c∈dg w x,65<=c/\c<=80:=by
 intro J;induction J with
 |zero=>
  intro x U c d;obtain rfl:x=0:=by have:16^0=1:=rfl;rw[vx U]
  simp only[qR]at d;cases d
 |succ w C=>
  intro x U c d;rw[nV]at d;rcases ek.mp d with d|d
  .rw[C (rv U) c d]
  .rw[(iA.mp d)▸ahx]
def aoj:∀{w x},x<16^w->(wN w 65++d_ x).drop (d_ x).length=dg w x:=by
 intro J;induction J with
 |zero=>
  intro x U;obtain rfl:x=0:=by have:16^0=1:=rfl;rw[vx U]
  rw[qR,nM];rfl
 |succ w C=>
  intro x U;have C:=C<|rv U;rw[nV,];by_cases L:x=0
  .subst L
   rw[nM]at C⊢;rw[<-C];simp only[bQ,ld,List.drop_zero,bQ,List.replicate_succ']
  .simp only[pi L,cv,<-C,List.replicate_succ,SS]
   show zK ((d_<|x/16).length) (wN w 65++(d_ (x/16)++[65+x%16]))=_;rw[<-b4,List.drop_append_of_le_length<|by simp]
def R6(n):fx n=dg 5 (n%16^5):=aoj<|bq _<|ζ
def Xy:∀{w x i},x<16^w->i<w->(dg w x).getD (w-1-i) 65=65+x/16^i%16:=by
 intro J;induction J with
 |zero=>intro _ _ _ U;rw[absurd U<|qB _]
 |succ w C=>
  intro x i U m;have a:=HG<|rv U;rw[nV,];cases i with
  |zero=>rw[ic,oP<|ahy a];have:=ahz a;rw[this,];simp
  |succ i=>rw[ic,S7<|ahB a m,<-ic];have:w+1-1-(i+1)=w-1-i:=ahC;simp only[this,(C (rv U)<|ahA m),Gb,<-Nat.pow_succ']
def Xx:∀{w x},x<16^w->(dg w x).dropWhile (·==65)=d_ x:=by
 intro J;induction J with
 |zero=>
  intro x U;obtain rfl:x=0:=by have:16^0=1:=rfl;rw[vx U]
  simp only[qR,nM];rfl
 |succ w C=>
  intro x U;rw[nV,List.dropWhile_append,(C<|rv U)];by_cases L:x/16=0
  .simp only[L,nM]
   by_cases W:x=0
   .subst W;simp only[nM];rfl
   .simp only[pi W,L,nM]
    have:(65+x%16==65)=false:=by rw[beq_eq_false_iff_ne,];rw[ahD L W]
    simp[this]
  .have W:=ahE L
   simp only[pi W];rw[fW (jY<|GZ L) λZ l e=>?_];rw[e,];rfl
def nQ(w p:N):!(!N×N):=[0,1,2].map λa=>(dg w<|(p+a)%16^w,(p+a)/16^w)
def xr(am R hi):gM am R hi=nQ (hi-R) (hK am R hi):=rfl
def afa(t):vq t=nQ 1 t:=by
 have:∀x,dg 1 (x%16^1)=[65+x%16]:=λx=>by simp only[nV];have:x%16^1/16=0:=Gc (bq x<|ζ);simp only[this,qR];simp
 unfold vq nQ;simp only[bW,sg,this];rfl
def arH{n:Type}{a b c y p L:n}(d:a=y)(M:b=p)(X:c=L):[a,b,c]=[y,p,L]:=by simp only[d,M,X]
def abc(h:G+2<3*16^D):xR (nQ D G) (nQ w2 J)=nQ (w2+D) (G+16^D*J):=by
 have e:0<16^D:=sA ζ;have b:∀a≤2,(((nQ w2 J).getD ((G+a)/16^D) ([],0)).1++dg D ((G+a)%16^D),((nQ w2 J).getD ((G+a)/16^D) ([],0)).2)=(dg (w2+D)<|(G+16^D*J+a)%16^(w2+D),(G+16^D*J+a)/16^(w2+D)):=λa o=>by
  have d:=Gd (by rw[Gj,];rw[Mv h o]);have z:(nQ w2 J).getD ((G+a)/16^D) ([],0)=(dg w2<|(J+(G+a)/16^D)%16^w2,(J+(G+a)/16^D)/16^w2):=by
   generalize(G+a)/16^D=c at d
   match c,d with
   |0,_=>rfl
   |1,_=>rfl
   |2,_=>rfl
  rw[z,Mw,sr w2 D,Gk,Nat.mod_mul,<-Gb,(by rw[Nat.add_mul_div_left _ _ e,sr]:((G+a)+16^D*J)/16^D=J+(G+a)/16^D),(Nat.add_mul_mod_self_left _ _ _),sr D w2,HF (bq _<|sA<|ζ)<|bq _ e]
 rw[arH (b 0<|ahF) (b 1<|ahG)<|b 2<|ahH]
def aop(am)(a:D<=m)(M:m<=hi):hK am D hi=hK am D m+16^(m-D)*hK am m hi:=by
 unfold hK;generalize am.take 3=l;induction l with
 |nil=>rfl
 |cons n l C=>
  simp only[bW,bW,bW,lg,lg,lg,C,Nat.mul_add];have e:n%16^5/16^D%16^(hi-D)=n%16^5/16^D%16^(m-D)+16^(m-D)*(n%16^5/16^m%16^(hi-m)):=by have K:=ahI a M;simp only[K,Gk,Nat.mod_mul,Gb,<-(by rw[<-Gk];congr 1;rw[ahJ a M K]:16^m=16^D*16^(m-D))]
  rw[e▸ahK]
def DX(am R hi):hK am R hi+2<3*16^(hi-R):=by
 have d:0<16^(hi-R):=sA ζ;have f:∀n:N,n%16^5/16^R%16^(hi-R)<16^(hi-R):=λn=>bq _ d;unfold hK
 match am with
 |[]=>simp;rw[ahL d]
 |[a]=>have:=f a;simp;rw[ahM d this]
 |[a,b]=>have d:=f a;have M:=f b;simp;rw[alZ d M]
 |a::b::c::_=>have d:=f a;have M:=f b;have X:=f c;simp;rw[ahN d M X]
def XN(am)(a:D<=m)(M:m<=hi):xR (gM am D m) (gM am m hi)=gM am D hi:=by simp only[xr,xr,xr,abc<|DX am D m,<-aop am a M];congr 1;rw[ahO a M]
def aoo(am):hK am 0 5=lu am:=by unfold hK lu;congr 1;rw[oQ λn U=>?_];rw[Nat.div_one,Nat.mod_mod]
def asv(am):∃y R,gM am 0 5=y::R/\(((65+y.2)::y.1).dropWhile (·==65)).map z6=ap (lu am):=by
 rw[#[_,_,rfl,?_]];show qr _ (List.dropWhile _ ((65+(hK am 0 5+0)/16^5)::dg 5 ((hK am 0 5+0)%16^5)))=_;have I:=DX am 0 5;rw[Nat.add_zero,aoo]at*;generalize lu am=p at I;have u:p/16^5<16:=Gd (jA (oY p 2)<|sx I<|ζ);have e:(65+p/16^5)::dg 5 (p%16^5)=dg 6 p:=by
  have K:dg 1 (p/16^5)=[65+p/16^5]:=by simp only[nV,Gc u,qR,Gi u];rfl
  have:=HF (w2:=1) (by simpa using u) (x1:=p%16^5) (bq _<|ζ);simp only[K,Nat.mod_add_div]at this;rw[this.symm]
 rw[e,Xx<|jA (oY p 2)<|sx I<|ζ];unfold d_;rw[bI,]
 conv=>rhs;rw[<-sf (ap p)]
 rw[oQ λZ U=>?_];simp
def mT:∀{g},x∈bC (bz k f g)↔x∈bC g\/x=k:=by
 intro J;induction J with
 |nil=>show x∈[k]↔_;simp
 |cons y g C=>
  show x∈bC (if y.1=k then _ else _)↔_;by_cases U:y.1=k
  .rw[if_pos U,]
   show x∈k::bC g↔x∈y.1::bC g\/x=k;rw[aY,aY,U];constructor
   .exactλq=>.inl q
   .rintro(q|q)
    .rw[q]
    .rw[.inl q]
  .rw[if_neg U,]
   show x∈y.1::bC (bz k f g)↔x∈y.1::bC g\/x=k;rw[aY,aY,C,or_assoc]
def uw:∀{g},(bC g).Nodup->(bC<|bz k f g).Nodup:=by
 intro J;induction J with
 |nil=>intro _;rw[c_.mpr #[λU=>(cQ U).elim,.nil]]
 |cons y g C=>
  intro U;have S:=c_.mp<|U;show(bC<|if y.1=k then _ else _).Nodup;by_cases e:y.1=k
  .rw[(if_pos e)▸e▸U]
  .rw[(if_neg e)▸(c_.mpr ⟨λq=>?_,C S.2⟩)]
   rcases mT.mp q with q|q
   .rw[S.1 q]
   .rw[e q]
def wn:∀{g},aS (bz k f g) a=if a=k then(f (bG g k,aS g k)).2 else aS g a:=by
 intro J;induction J with
 |nil=>
  show(if k=a then _ else _)=_;by_cases U:a=k
  .rw[if_pos U,if_pos U.symm];rfl
  .rw[if_neg U,if_neg λq=>U q.symm]
 |cons y g C=>
  show aS (if y.1=k then _ else _) a=_;by_cases e:y.1=k
  .rw[if_pos e,]
   show(if k=a then _ else aS g a)=_;by_cases U:a=k
   .rw[if_pos U,if_pos U.symm]
    show _=(f ((if y.1=k then y.2.1 else bG g k),(if y.1=k then y.2.2 else aS g k))).2;rw[if_pos e,if_pos e]
   .rw[if_neg U,if_neg λq=>U q.symm]
    show _=if y.1=a then y.2.2 else aS g a;rw[if_neg λq=>U<|q.symm.trans e,]
  .rw[if_neg e,]
   show(if y.1=a then y.2.2 else aS (bz k f g) a)=if a=k then(f ((if y.1=k then y.2.1 else bG g k),(if y.1=k then y.2.2 else aS g k))).2 else if y.1=a then y.2.2 else aS g a;rw[(if_neg e)▸(if_neg e)▸C▸?_];by_cases U:a=k
   .rw[if_pos U,if_pos U,if_neg λq=>e<|q.trans U]
   .rw[if_neg U,if_neg U]
def qc:∀{g},bG (bz k f g) a=if a=k then(f (bG g k,aS g k)).1 else bG g a:=by
 intro J;induction J with
 |nil=>
  show(if k=a then _ else _)=_;by_cases U:a=k
  .rw[if_pos U,if_pos U.symm];rfl
  .rw[if_neg U,if_neg λq=>U q.symm]
 |cons y g C=>
  show bG (if y.1=k then _ else _) a=_;by_cases e:y.1=k
  .rw[if_pos e,]
   show(if k=a then _ else bG g a)=_;by_cases U:a=k
   .rw[if_pos U,if_pos U.symm]
    show _=(f ((if y.1=k then y.2.1 else bG g k),(if y.1=k then y.2.2 else aS g k))).1;rw[if_pos e,if_pos e]
   .rw[if_neg U,if_neg λq=>U q.symm]
    show _=if y.1=a then y.2.1 else bG g a;rw[if_neg λq=>U<|q.symm.trans e,]
  .rw[if_neg e,]
   show(if y.1=a then y.2.1 else bG (bz k f g) a)=if a=k then(f ((if y.1=k then y.2.1 else bG g k),(if y.1=k then y.2.2 else aS g k))).1 else if y.1=a then y.2.1 else bG g a;rw[(if_neg e)▸(if_neg e)▸C▸?_];by_cases U:a=k
   .rw[if_pos U,if_pos U,if_neg λq=>e<|q.trans U]
   .rw[if_neg U,if_neg U]
def kJ:!(!N)->!(!N×!N)
 |[n,a]=>if a.length<3 then[(n,a)]else[]
 |[n,a,b]=>[(n,a),(n,b)]
 |_=>[]
def mS:!(!N)->!(!N)
 |[n,a]=>if a.length<3 then[n,a]else[n]
 |[n,a,b]=>[n,a,b]
 |_=>[]
set_option tactic.hygienic true in
def ER:aS (bz n (jK c) g) x=aS g x:=by
 rw[wn,];split
 .rename_i U;simp only[U];rfl
 .rfl
set_option tactic.hygienic true in
def DA:bG (bz a (gR n) g) x=bG g x:=by
 rw[qc,];split
 .rename_i U;simp only[U];rfl
 .rfl
def ET:(aS (bz a (gR n) g) x).count y=(aS g x).count y+[(n,a)].count (y,x):=by
 rw[wn,];by_cases U:x=a
 .rw[if_pos U,U]
  show(aS g a++[n]).count y=_;simp only[la,FN,FN];have e:((n,a)==(y,a))=(n==y):=by rw[qg,];simp
  rw[e,]
 .rw[if_neg U,FN]
  have:((n,a)==(y,x))=false:=by rw[beq_eq_false_iff_ne,];exactλe=>U (Gu.mp e).2.symm
  rw[this▸?_];rfl
def Dz:bG (bz n (jK c) g) x=bG g x+if x=n then c else 0:=by
 rw[qc,];by_cases U:x=n
 .rw[if_pos U,if_pos U,U];rfl
 .rw[if_neg U,if_neg U];rw[agy]
def apH(g o x y):(aS (gK g o) x).count y=(aS g x).count y+(kJ o).count (y,x):=by
 match o with
 |[]=>rfl
 |[_]=>rfl
 |[n,a]=>
  show(aS (if a.length<3 then _ else _) x).count y=_+(if a.length<3 then _ else _:!(!N×!N)).count (y,x);by_cases U:a.length<3
  .simp only[if_pos U,if_pos U,ET,ER]
  .simp only[if_neg U,if_neg U,ER];rfl
 |[n,a,b]=>show(aS (bz b (gR n)<|bz a (gR n)<|bz n (jK 2) g) x).count y=_+[(n,a),(n,b)].count (y,x);simp only[ET,ET,ER,show[(n,a),(n,b)]=[(n,a)]++[(n,b)]from rfl,la,wQ]
 |_::_::_::_::_=>rfl
def apE(g o x):bG (gK g o) x=bG g x+(((kJ o).countP λe=>decide (e.1=x):N):Int):=by
 match o with
 |[]=>rw[(zE _).symm]
 |[_]=>rw[(zE _).symm]
 |[n,a]=>
  show bG (if a.length<3 then _ else _) x=_+((if a.length<3 then _ else _:!(!N×!N)).countP λe=>decide<|e.1=x);by_cases U:a.length<3
  .simp only[if_pos U,if_pos U,DA,Dz]
   by_cases e:x=n
   .simp[e]
   .have G:¬n=x:=λq=>e q.symm
    simp[e,G]
  .simp only[if_neg U,if_neg U,Dz]
   split<;>simp
 |[n,a,b]=>
  show bG (bz b (gR n)<|bz a (gR n)<|bz n (jK 2) g) x=_+([(n,a),(n,b)].countP λe=>decide<|e.1=x);simp only[DA,DA,Dz];by_cases e:x=n
  .simp[e]
  .have G:¬n=x:=λq=>e q.symm
   simp[e,G]
 |_::_::_::_::_=>rw[(zE _).symm]
def apC(g o x):x∈bC (gK g o)↔x∈bC g\/x∈mS o:=by
 match o with
 |[]=>rw[(or_iff_left cQ).symm]
 |[_]=>rw[(or_iff_left cQ).symm]
 |[n,a]=>
  show x∈bC (if a.length<3 then _ else _)↔_\/x∈(if a.length<3 then _ else _);by_cases U:a.length<3
  .rw[if_pos U,if_pos U,mT,mT]
   simp[or_assoc]
  .rw[if_neg U,if_neg U,mT]
   simp
 |[n,a,b]=>show x∈bC (bz b (gR n)<|bz a (gR n)<|bz n (jK 2) g)↔_\/x∈[n,a,b];rw[mT,mT,mT];simp[or_assoc]
 |_::_::_::_::_=>rw[(or_iff_left cQ).symm]
def apD(o)(h:(bC g).Nodup):(bC<|gK g o).Nodup:=by
 match o with
 |[]=>rw[h]
 |[_]=>rw[h]
 |[n,a]=>
  show(bC<|if a.length<3 then _ else _).Nodup;split
  .rw[uw<|uw h]
  .rw[uw h]
 |[n,a,b]=>rw[uw<|uw<|uw h]
 |_::_::_::_::_=>rw[h]
structure gI (g:PG) (E:!(!N×!N)) (aK:!(!N)):Prop where
 s:∀x y,(aS g x).count y=E.count (y,x)
 p:∀x,bG g x=((E.countP λe=>decide (e.1=x):N):Int)
 n:∀x,x∈bC g↔x∈aK
 d:(bC g).Nodup
def gI.row{g:PG}{E:!(!N×!N)}{aK:!(!N)}(h:gI g E aK)(o:!(!N)):gI (gK g o) (E++kJ o) (aK++mS o):=#[λx y=>by simp only[apH,h.s,la],λx=>by simp only[apE,h.p,List.countP_append];lia,λx=>by rw[apC,h.n,ek],apD o h.d]
def gI.rows:∀{j:!(List<|List N)} {g:PG} {E:!(!N×!N)} {aK:!(!N)},gI g E aK->gI (j.foldl gK g) (E++j.flatMap kJ) (aK++j.flatMap mS)
 |[],g,E,aK,U=>by simpa using U
 |o::j,g,E,aK,U=>by simp only[jZ,jZ,<-b4,<-b4];rw[(U.row o).rows]
def ZX(j:!(List<|List N)):gI (j.foldl gK []) (j.flatMap kJ) (j.flatMap mS):=gI.rows (g:=[]) (E:=[]) #[λU U=>rfl,λU=>rfl,λU=>.rfl,.nil]
def gI.perm{g:PG}{E b:!(!N×!N)}{aK a:!(!N)}(h:gI g E aK)(A:E.Perm b)(j:∀x,x∈aK↔x∈a):gI g b a:=#[λx y=>(h.s x y).trans<|A.count_eq _,λx=>by simp only[h.p,A.countP_eq],λx=>(h.n x).trans<|j x,h.d]
set_option tactic.hygienic true in
def Xu:∀{ss g k},aS (dK ss g).1 k=aS g k:=by
 intro J;induction J with
 |nil=>intro _ _;rw[rfl]
 |cons s ss C=>
  intro g k;show aS (dK ss<|bz s kI g).1 k=_;rw[C,wn];split
  .rename_i U;rw[U,]
  .rfl
def Xs:∀{ss g n},bG (dK ss g).1 n=bG g n-(ss.count n:Int):=by
 intro J;induction J with
 |nil=>intro g n;rw[Mn]
 |cons s ss C=>
  intro g n;show bG (dK ss<|bz s kI g).1 n=_;rw[C,qc];by_cases U:n=s
  .subst U
   rw[if_pos rfl,FK];rw[agz]
  .rw[if_neg U,FJ λq=>U q.symm]
def HC:∀{ss g n},(dK ss g).2.count n=if 1<=bG g n/\bG g n<=(ss.count n:Int)then 1 else 0:=by
 intro J;induction J with
 |nil=>intro g n;show 0=if 1<=bG g n/\bG g n<=0 then 1 else 0;rw[if_neg<|Mo,]
 |cons s ss C=>
  intro g n;have C:=C (g:=bz s kI g) (n:=n);rw[qc]at C;show(if bG g s-1=0 then s::(dK ss<|bz s kI g).2 else(dK ss<|bz s kI g).2).count n=_;by_cases U:n=s
  .subst U
   rw[if_pos rfl]at C;have a:=C;rw[FK,];by_cases b:bG g n-1=0
   .rw[if_pos b,FK,a,if_neg<|agA b,if_pos<|agB b]
   .rw[if_neg b,a]
    by_cases M:1<=bG g n/\bG g n<=(ss.count n+1:N)
    .rw[if_pos M,if_pos<|agC b M]
    .rw[if_neg M,if_neg<|agD M]
  .rw[if_neg U]at C
   rw[FJ λq=>U q.symm,];split
   .rw[FJ λq=>U q.symm,];rw[C]
   .rw[C]
set_option tactic.hygienic true in
def anY:∀{t g k},aS (fX t g) k=aS g k:=by
 intro J;induction J with
 |nil=>intro _ _;rw[rfl]
 |cons s p C=>
  intro g k;show aS (fX p<|bz s (dS<|-1) g) k=_;rw[C,wn];split
  .rename_i U;rw[U,]
  .rfl
def OR:∀{t g n},bG (fX t g) n=if n∈t then-1 else bG g n:=by
 intro J;induction J with
 |nil=>intro g n;rfl
 |cons s p C=>
  intro g n;show bG (fX p<|bz s (dS<|-1) g) n=_;rw[C,qc];by_cases U:n∈p
  .rw[if_pos U,if_pos<|.tail _ U]
  .rw[if_neg U,]
   by_cases e:n=s
   .rw[if_pos e,if_pos<|e▸.head _]
   .rw[if_neg e,if_neg λq=>(aY.mp q).elim e U]
set_option tactic.hygienic true in
def Q6:aS (dK (aS g k)<|bz k (dS<|-2) g).1 x=aS g x:=by
 rw[Xu,wn];split
 .rename_i U;rw[U,]
 .rfl
def Q4:bG (dK (aS g k)<|bz k (dS<|-2) g).1 n=(if n=k then-2 else bG g n)-((aS g k).count n:Int):=by rw[Xs,qc]
def XC:∀{t g},t.Nodup->(∀k∈t,∀n∈aS g k,n∉t)->(∀k,aS (fU t g).1 k=aS g k)/\(∀n∈t,bG (fU t g).1 n=-2)/\(∀n,n∉t->bG (fU t g).1 n=bG g n-((t.flatMap<|aS g).count n:Int))/\ (∀n∈t,(fU t g).2.count n=0)/\(∀n,n∉t->(fU t g).2.count n=if 1<=bG g n/\bG g n<=((t.flatMap<|aS g).count n:Int)then 1 else 0)/\((∀k∈t,bG g k=-1)->qS t g):=by
 intro J;induction J with
 |nil=>
  intro g _ _;rw[#[λG=>rfl,(λG U=>nomatch U),λn G=>by rw[Mn],(λG U=>nomatch U),λn G=>by show 0=if 1<=bG g n/\bG g n<=0 then 1 else 0;rw[if_neg<|Mo,],λG=>trivial]]
 |cons k t C=>
  intro g w o;rw[ct (c_.mp w) λc w=>?_];have i:∀x,aS (dK (aS g k)<|bz k (dS<|-2) g).1 x=aS g x:=λx=>Q6;have d:=λn U=>SV.mpr λq=>o k (.head _) n q U;have s:=λn U=>SV.mpr λq=>by rw[aJ (qt.mp q) λK A M=>o K (.tail _ A) n M U]
  have h:t.flatMap (aS (dK (aS g k)<|bz k (dS<|-2) g).1)=t.flatMap (aS g):=by congr 1;rw[funext i]
  obtain⟨L,T,m,z,l,B⟩:=C w λK U n q M=>o K (.tail _ U) n (by rwa[i]at q)<|.tail _ M;have r:bG (dK (aS g k)<|bz k (dS<|-2) g).1 k=-2:=by rw[Q4,if_pos rfl,d k<|.head _];rfl
  have j:∀n,n≠k->bG (dK (aS g k)<|bz k (dS<|-2) g).1 n=bG g n-((aS g k).count n):=λn U=>by rw[Q4,if_neg U]
  have y:∀n∈t,n≠k:=λn U e=>c<|e▸U;have P:∀n,n≠k->(dK (aS g k)<|bz k (dS<|-2) g).2.count n=if 1<=bG g n/\bG g n<=((aS g k).count n)then 1 else 0:=λn U=>by rw[HC,qc,if_neg U]
  have u:(dK (aS g k)<|bz k (dS<|-2) g).2.count k=0:=by rw[HC,qc,if_pos rfl];rw[if_neg ?_];rintro⟨U,_⟩;rw[absurd (show 1<=-2 from U) ζ]
  rw[#[λx=>(L x).trans<|i x,λn U=>?_,λn U=>?_,λn U=>?_,λn U=>?_,λU=>#[U k<|.head _,B λn O=>?_]]]
  .rcases aY.mp U with rfl|U
   .show bG (fU t _).1 n=-2
    simp only[m n c,r,h,s n<|.head _];rfl
   .rw[T n U]
  .have A:n≠k:=λe=>U<|e▸.head _
   show bG (fU t _).1 n=_;simp only[m n λq=>U<|.tail _ q,j n A,h,jZ,la];rw[agE]
  .show((dK (aS g k)<|bz k (dS<|-2) g).2++(fU t _).2).count n=0
   rw[la,];rcases aY.mp U with rfl|U
   .simp only[u,l n c,r,nC]
    rw[if_neg ?_];rintro⟨U,_⟩;rw[absurd U ζ]
   .rw[z n U,P n<|y n U,d n<|.tail _ U,if_neg<|by lia]
  .have A:n≠k:=λe=>U<|e▸.head _
   show((dK (aS g k)<|bz k (dS<|-2) g).2++(fU t _).2).count n=_;simp only[la,P n A,l n λq=>U<|.tail _ q,j n A,h,jZ,la];generalize bG g n=p;generalize(aS g k).count n=a;generalize(t.flatMap<|aS g).count n=b;by_cases Q:1<=p/\p<=a
   .rw[if_pos Q,if_neg<|agF Q,if_pos<|agG Q]
   .rw[if_neg Q,]
    by_cases f:1<=p-a/\p-a<=b
    .rw[if_pos f,if_pos<|agH f]
    .rw[if_neg f,if_neg<|agI Q f]
  .simp only[j n<|y n O,d n<|.tail _ O,U n<|.tail _ O];rfl
def Xr:∀{ss g x},x∈bC (dK ss g).1↔x∈bC g\/x∈ss:=by
 intro J;induction J with
 |nil=>intro g x;show x∈bC g↔_;simp
 |cons s ss C=>intro g x;show x∈bC (dK ss<|bz s kI g).1↔_;rw[C,mT,aY,or_assoc]
def anX:∀{t g x},x∈bC (fX t g)↔x∈bC g\/x∈t:=by
 intro J;induction J with
 |nil=>intro g x;show x∈bC g↔_;simp
 |cons s p C=>intro g x;show x∈bC (fX p<|bz s (dS<|-1) g)↔_;rw[C,mT,aY,or_assoc]
def XB:∀{t g x},x∈bC (fU t g).1↔(x∈bC g\/x∈t\/x∈t.flatMap (aS g)):=by
 intro J;induction J with
 |nil=>intro g x;show x∈bC g↔_;simp
 |cons j t C=>
  intro g x;show x∈bC (fU t (dK (aS g j)<|bz j (dS<|-2) g).1).1↔_;have h:t.flatMap (aS (dK (aS g j)<|bz j (dS<|-2) g).1)=t.flatMap (aS g):=by congr 1;rw[funext λx=>Q6]
  rw[C,h,Xr,mT,aY,jZ,ek];constructor
  .rintro(((U|U)|U)|U|U)
   .rw[.inl U]
   .rw[.inr<|.inl<|.inl U]
   .rw[.inr<|.inr<|.inl U]
   .rw[.inr<|.inl<|.inr U]
   .rw[.inr<|.inr<|.inr U]
  .rintro(U|(U|U)|U|U)
   .rw[.inl<|.inl<|.inl U]
   .rw[.inl<|.inl<|.inr U]
   .rw[.inr<|.inl U]
   .rw[.inl<|.inr U]
   .rw[.inr<|.inr U]
structure kG (E:!(!N×!N)) (aK:!(!N)) (s:!N->N):Prop where
 cl:∀e∈E,e.1∈aK/\e.2∈aK
 a:∀e∈E,s e.1<9->s e.2<s e.1
 b:∀n∈aK,s n<9->0<s n->∃o,(n,o)∈E/\s o+1=s n
 c:∀n∈aK,¬s n<9->∃o,(n,o)∈E/\¬s o<9
 d:aK.Nodup
 l:aK.length=9
abbrev xk(E:!(!N×!N))(s:!N->N)(n:!N)(r:N):N:=E.countP λe=>decide<|e.1=n/\r<=s e.2
abbrev xj(E:!(!N×!N))(s:!N->N)(n:!N)(r:N):N:=E.countP λe=>decide<|e.1=n/\s e.2=r
def Ht{n:Type}{p q t:n->Bool}(h:∀e,(if p e=true then 1 else 0)=(if q e=true then 1 else 0)+(if t e=true then 1 else 0:N)):∀E:!n,E.countP p=E.countP q+E.countP t:=by
 intro J;induction J with
 |nil=>rw[rfl]
 |cons e E C=>simp only[wI,wI,wI];rw[alJ C<|h e]
def AT(E s n r):xk E s n r=xj E s n r+xk E s n (r+1):=by
 rw[Ht (λe=>?_) E];simp only[decide_eq_true_eq];by_cases a:e.1=n
 .rcases zT (s e.2) r with q|q|q
  .rw[if_neg λz=>l8.mpr q z.2,if_neg λz=>ll q z.2,if_neg λz=>l8.mpr q<|Nat.le_of_succ_le z.2]
  .rw[if_pos ⟨a,agJ q⟩,if_pos ⟨a,q⟩,if_neg λz=>Nat.not_succ_le_self r<|bT z.2<|lj q]
  .rw[if_pos ⟨a,Dm q⟩,if_neg λz=>kB q z.2,if_pos #[a,L8 q]]
 .rw[if_neg λq=>a q.1,if_neg λq=>a q.1,if_neg λq=>a q.1]
structure RI (D:PG) (E:!(!N×!N)) (aK:!(!N)) (s:!N->N) (r:N) (g:PG):Prop where
 x:∀k,aS g k=aS D k
 n:∀k,k∈bC g↔k∈aK
 lo:∀n∈aK,s n<r->bG g n=-2
 hi:∀n∈aK,r<=s n->bG g n=(xk E s n r:Int)
structure RO (aK:!(!N)) (s:!N->N) (r:N) (R:!(!N)):Prop where
 d:R.Nodup
 m:∀x,x∈R↔x∈aK/\s x=r/\r<9
def Ib{E:!(!N×!N)}(A:∀x y,(aS D x).count y=E.count (y,x))(n):∀{R:!(!N)},R.Nodup->(R.flatMap<|aS D).count n=E.countP λe=>decide<|e.1=n/\e.2∈R
 |[],_=>by simp
 |j::R,U=>by
  obtain⟨c,U⟩:=c_.mp U;simp only[jZ,la,A,Ib A n U];clear U A;induction E with
  |nil=>rfl
  |cons e E C=>
   simp only[FI,wI,wI,<-C];have b:(e==(n,j))=decide (e.1=n/\e.2=j):=by rw[qg,beq_iff_eq,decide_eq_true_iff,Gu]
   rw[b▸?_];by_cases a:e.1=n
   .by_cases M:e.2=j
    .have:=M▸c
     simp[a,M,c];rw[agK]
    .by_cases X:e.2∈R
     .simp[a,M,X];rw[agL]
     .simp[a,M,X]
   .simp[a]
section
variable{D:PG} {E:!(!N×!N)} {aK:!(!N)} {s:!N->N}
def kG.up(S:kG E aK s){e:!N×!N}(h:e∈E)(i:s e.2<9):s e.2<s e.1:=by
 by_cases q:s e.1<9
 .rw[S.a e h q]
 .rw[agM i q]
def ub(O:gI D E aK):n∈aS D k↔(n,k)∈E:=by rw[<-FM,O.s,FM]
set_option tactic.hygienic true in
def apz(S:kG E aK s)(G:gI D E aK)(I:RI D E aK s r g)(O:RO aK s r R)(A:r<9):qS R (fX R g)/\RI D E aK s (r+1) (fU R<|fX R g).1/\RO aK s (r+1) (fU R<|fX R g).2:=by
 have P:∀j,aS (fX R g) j=aS D j:=λj=>anY.trans<|I.x j;have o:∀j∈R,∀n∈aS (fX R g) j,n∉R:=λj c n w k=>by rw[P,ub G]at w;have t:=((O.m j).mp c).2.1;have M:=((O.m n).mp k).2.1;have:=S.up w<|Mp A t;rw[agN t M this]
 rw[HQ (XC O.d o) λL T m z l B=>?_];have h:R.flatMap (aS<|fX R g)=R.flatMap (aS D):=by congr 1;rw[funext P]
 have a:∀n,(R.flatMap<|aS D).count n=xj E s n r:=λn=>by
  rw[Ib G.s n O.d,];rw[ST λe x=>?_];simp only[decide_eq_true_iff,decide_eq_true_iff];constructor
  .rintro⟨t,M⟩;rw[#[t,((O.m _).mp M).2.1]]
  .rintro⟨t,M⟩;rw[#[t,(O.m _).mpr #[(S.cl e x).2,M,A]]]
 rw[h]at m l;have f:∀n∈aK,(n∈R↔s n=r):=λn w=>by rw[O.m,];rw[#[λU=>U.2.1,λU=>#[w,U,A]]]
 have b:∀n,n∉R->bG (fX R g) n=bG g n:=λn U=>by rw[OR,if_neg U]
 have p:∀n,s n<r+1->xj E s n r=0:=λn U=>by rw[uI.mpr λe x q=>ct (decide_eq_true_iff.mp q) λt M=>?_];have:=S.up x<|M.symm▸A;rw[t]at this;rw[absurd (wR U)<|l8.mpr<|M▸this]
 rw[⟨B λj c=>by rw[OR,if_pos c],#[λj=>(L j).trans<|P j,λj=>?_,λn w U=>?_,λn w U=>?_],?_,λn=>?_⟩]
 .rw[XB,anX,h,I.n]
  constructor
  .rintro((U|U)|U|U)
   .rw[U]
   .rw[((O.m j).mp U).1]
   .rw[((O.m j).mp U).1]
   .rw[aJ (qt.mp U) λK t M=>(S.cl _<|(ub G).mp M).1]
  .exactλU=>.inl<|.inl U
 .by_cases q:n∈R
  .rw[T n q]
  .have:=λe=>q<|(f n w).mpr e
   simp only[m n q,b n q,I.lo n w<|agO U this,a,p n U];rfl
 .have q:=λq=>by have:=(f n w).mp q;rw[agP U this]
  rw[m n q,b n q,I.hi n w<|Mq U,a,AT];lia
 .rw[List.nodup_iff_count,]
  intro n;by_cases q:n∈R
  .rw[z n q,];rw[agQ]
  .rw[l n q,];split<;>lia
 .rw[<-FM]
  constructor
  .intro U
   by_cases q:n∈R
   .rw[z n q]at U;lia
   .rw[l n q,b n q,a]at U
    split at U
    .rename_i d
     have H:=agR d;rw[aJ (SU.mp H) λe x M=>ct (decide_eq_true_iff.mp M) λQ X=>?_];subst Q;have w:=(S.cl e x).1;have C:=S.up x<|Mp A X;rw[I.hi _ w<|agS X C,AT]at d;have F:=alL<|m8.mp d.2;have u:∀Y,(e.1,Y)∈E->s Y<=r:=λY y=>by have:=uI.mp F _ y;rw[decide_eq_true_iff]at this;have:=λq=>this #[rfl,q];lia
     have J:s e.1<9:=by
      rcases sw (s e.1) 9 with q|q
      .rw[q]
      .rw[aJ (S.c _ w<|LU q) λY W i=>?_]
       have:=u Y W;rw[agT A i this]
     rw[aJ (S.b _ w J<|agU X C) λY W i=>?_];have:=u Y W;rw[#[w,agV X C i this,agW A X C J i this]]
    .lia
  .rintro⟨w,t,M⟩
   have q:=λq=>by have:=(f n w).mp q;rw[agX t this]
   rw[aJ (S.b n w (agY A t M)<|Mr t) λY W i=>?_];have F:xk E s n (r+1)=0:=uI.mpr λe x U=>by rw[ct (decide_eq_true_iff.mp U) λQ X=>?_];subst Q;have:=S.a e x<|agZ A M t;rw[ag0 X t this]
   have H:0<xj E s n r:=SU.mpr (bA _ W<|decide_eq_true #[rfl,by rw[ag1 t i]]);rw[l n q,b n q,a,I.hi n w<|by lia,AT,if_pos #[m8.mpr<|alM H F,m8.mpr<|alN F]];rw[Nat.one_pos]
end
def aoN:∀(l p),(p::l).Pairwise (λa b=>¬b<a)->Ac (jT p) (l.map jT)=true:=by
 intro J;induction J with
 |nil=>intro _ _;rw[rfl]
 |cons y l C=>intro p U;rw[ct (qy.mp U) λc M=>?_];show((not (PySem.Spec.ltCps y p))&&Ac (jT y) (l.map jT))=true;rw[ky,TG];rw[#[by simpa using c y (.head _),C y M]]
def Px:∀{l},l.Pairwise (λa b=>¬b<a)->oG l
 |[],_=>rfl
 |p::l,h=>aoN l p h
def aqt:∀l:!(!N),∃so:!(!N),so.Perm l/\so.Pairwise λa b=>¬b<a:=by
 intro J;induction J with
 |nil=>rw[bA [] (.refl _) .nil]
 |cons x l C=>
  rw[aJ (C) λso d M=>?_];have c:∀so:!(!N),so.Pairwise (λa b=>¬b<a)->∃D:!(!N),D.Perm (x::so)/\D.Pairwise λa b=>¬b<a:=by
   intro so;induction so with
   |nil=>intro _;rw[bA [x] (.refl _)<|Td _ _]
   |cons y so C=>
    intro U;rw[ct (qy.mp U) λw L=>?_];by_cases q:y<x
    .rw[aJ (C L) λD Y G=>bA (y::D) ((Y.cons y).trans<|SP _ _ _)<|qy.mpr ⟨λz Z=>?_,G⟩]
     rcases aY.mp (Y.mem_iff.mp Z)with rfl|Z
     .exactλT=>absurd (List.lt_trans q T)<|List.lt_irrefl _
     .rw[w z Z]
    .rw[bA (x::y::so) (.refl _)<|qy.mpr ⟨λz Z=>?_,U⟩]
     rcases aY.mp Z with rfl|Z
     .rw[q]
     .rw[Na q<|w z Z]
  rw[aJ (c so M) λD Y G=>bA D (Y.trans<|d.cons x) G]
def PJ:∀{g},(bC g).Nodup->∀x,x∈jm g↔x∈bC g/\bG g x=0:=by
 intro J;induction J with
 |nil=>intro _ x;rw[#[λU=>(cQ U).elim,λU=>(cQ U.1).elim]]
 |cons y g C=>
  intro U x;obtain⟨a,M⟩:=c_.mp<|show(y.1::bC g).Nodup from U;have C:=C M x;show x∈(if y.2.1=0 then y.1::jm g else jm g)↔x∈y.1::bC g/\(if y.1=x then y.2.1 else bG g x)=0;by_cases e:y.1=x
  .have W:x∉jm g:=λq=>a<|e▸(C.mp q).1
   rw[if_pos e,];by_cases q:y.2.1=0
   .rw[if_pos q,];simp[e,q]
   .rw[if_neg q,];simp[q,W]
  .rw[(if_neg e)▸?_]
   have G:¬x=y.1:=λq=>e q.symm;by_cases q:y.2.1=0
   .rw[if_pos q,aY,aY,C];simp[G]
   .rw[if_neg q,aY,C];simp[G]
def apj:∀{g},(bC g).Nodup->(jm g).Nodup:=by
 intro J;induction J with
 |nil=>intro _;rw[.nil]
 |cons y g C=>
  intro U;obtain⟨a,M⟩:=c_.mp<|U;show(if y.2.1=0 then y.1::jm g else jm g).Nodup;split
  .rw[c_.mpr ⟨λq=>a ((PJ M _).mp q).1,C M⟩]
  .rw[C M]
section
variable{H:PG} {E:!(!N×!N)} {aK:!(!N)} {s:!N->N} {m:nK} {G:!N->jw}
def QH(S:kG E aK s)(O:gI H E aK):RI H E aK s 0 H/\RO aK s 0 (jm H):=by
 rw[#[#[λJ=>rfl,O.n,λn J U=>absurd U<|qB _,λn J J=>?_],apj O.d,λx=>?_]]
 .rw[O.p,]
  congr 1;exact ST λe J=>by rw[decide_eq_true_iff,decide_eq_true_iff];rw[#[λU=>#[U,dm _],λU=>U.1]]
 .rw[PJ O.d,O.n,O.p]
  constructor
  .rintro⟨a,M⟩
   have L:∀Y,(x,Y)∉E:=λY y=>by have:=uI.mp (by lia:(E.countP λe=>decide<|e.1=x)=0) _ y;rw[this<|decide_eq_true rfl]
   have i:s x<9:=by
    rcases sw (s x) 9 with q|q
    .rw[q]
    .rw[aJ (S.c x a<|LU q) λY y J=>absurd y<|L Y]
   rw[#[a,?_,ζ]];rcases Tj (s x)with q|q
   .rw[q]
   .rw[aJ (S.b x a i q) λY y J=>absurd y<|L Y]
  .rintro⟨a,M,_⟩
   rw[⟨a,?_⟩];have:(E.countP λe=>decide<|e.1=x)=0:=uI.mpr λe b q=>by have K:=decide_eq_true_iff.mp q;have:=S.a e b<|K▸aim M;rw[K]at this;rw[ain M this]
   lia
structure CI (aK:!(!N)) (s:!N->N) (D:!N->jw) (r:N) (cs:cJ):Prop where
 h:∀k∈aK,s k<r->aZ cs k=some (D k)
 k:∀p∈cs,p.1∈aK/\s p.1<r/\p.2=D p.1
 d:(cs.map (·.1)).Nodup
def O7{n:Type}:∀{l m:!(!N×n)},aZ (l++m) k=match aZ l k with
  |some v=>some v
  |none=>aZ m k:=by
 intro J;induction J with
 |nil=>intro m;rw[rfl]
 |cons e l C=>
  intro m;show(if e.1=k then _ else aZ (l++m) k)=match(if e.1=k then some e.2 else aZ l k)with
   |some v=>some v
   |none=>aZ m k
  by_cases U:e.1=k
  .rw[if_pos U,if_pos U]
  .rw[if_neg U,if_neg U];rw[C]
def D4{n:Type}:∀{l:!(!N×n)},k∉l.map (·.1)->aZ l k=none:=by
 intro J;induction J with
 |nil=>intro _;rw[rfl]
 |cons e l C=>intro U;rw[bW,aY,not_or]at U;show(if e.1=k then _ else _)=_;rw[if_neg λq=>U.1 q.symm,];rw[C U.2]
def UT(e:∀k∈aK,s k=r->∀cs:cJ,(∀o∈aK,s o<r->aZ cs o=some (G o))->qh m cs k (G k)):∀{L cs},L.Nodup->(∀k∈L,k∈aK/\s k=r)->(∀o∈aK,s o<r->aZ cs o=some (G o))->(∀k∈L,k∉cs.map (·.1))->mZ m L cs (cs++L.map λk=>(k,G k)):=by
 intro J;induction J with
 |nil=>intro cs _ _ _ _;simp only[sg,bQ];rw[.nil]
 |cons k L C=>
  intro cs w A d c;rw[ct (c_.mp w) λb M=>?_];have a:=A k<|.head _;rw[.cons (e k a.1 a.2 cs d) (D4<|c k<|.head _) ?_];have:=C (cs:=cs++[(k,G k)]) M (λk U=>A k<|.tail _ U) (λo y f=>by simp only[O7,d o y f]) λK U q=>by
   rw[bf,ek]at q;rcases q with q|q
   .rw[c K (.tail _ U) q]
   .have:K=k:=by simpa using q
    rw[b<|this▸U]
  simp only[b4]at this;rw[this]
def CI.round{r:N}{cs:cJ}{R:!(!N)}(C:CI aK s G r cs)(O:RO aK s r R)(A:r<9):CI aK s G (r+1) (cs++R.map λk=>(k,G k)):=by
 have d:∀k∈R,k∉cs.map (·.1):=λk c q=>by rw[aJ (bn.mp q) λp I P=>?_];subst P;have g:=(C.k p I).2.1;have M:=((O.m _).mp c).2.1;rw[aio g M]
 have H:(R.map λk=>(k,G k)).map (·.1)=R:=by rw[bI,];rw[sf R]
 rw[#[λk c U=>?_,λp I=>?_,?_]]
 .rw[O7▸?_]
  by_cases q:s k<r
  .rw[C.h k c q,]
  .have f:=(O.m k).mpr #[c,aip U q,A]
   rw[(D4<|d k f)▸mN (by rw[H,];rw[O.d]) (bw f)]
 .rcases ek.mp I with I|I
  .rw[en (C.k p I) λg M X=>#[g,MC M,X]]
  .rw[aJ (bn.mp I) λk c P=>?_]
   subst P;rw[en ((O.m k).mp c) λg M K=>#[g,by show s k<_;lia,rfl]]
 .rw[bf,H,j3]
  rw[#[C.d,O.d,λa o b j e=>d b j<|e▸o]]
abbrev TI(aK:!(!N))(s:!N->N)(k:N)(l:!(!N)):Prop:=l.Perm (aK.filter λx=>decide<|s x=k)/\oG l
def RO.perm{r:N}{R:!(!N)}(O:RO aK s r R)(j:aK.Nodup)(A:r<9):R.Perm (aK.filter λx=>decide<|s x=r):=by rw[(FZ O.d<|j.filter _).mpr λx=>?_];rw[O.m,zM,decide_eq_true_iff];rw[#[λU=>#[U.1,U.2.1],λU=>#[U.1,U.2,A]]]
def Bw(S:kG E aK s)(h:∀x∈aK,s x≠r):∀{j},r+j<9->∀x∈aK,s x≠r+j
 |0,_,x,W,e=>h x W e
 |j+1,B,x,W,e=>by obtain⟨Y,y,M⟩:=S.b x W (e.symm▸B)<|e.symm▸sB _;rw[Bw S h (j:=j) (Tl B) Y (S.cl _ y).2<|qC<|M.trans e]
def apZ(S:kG E aK s)(O:gI H E aK)(bs:∀k∈aK,s k<9->∀cs:cJ,(∀o∈aK,s o<s k->aZ cs o=some (G o))->qh m cs k (G k)):∀{n r g R cs rd i},r+n=9->RI H E aK s r g->RO aK s r R->CI aK s G r cs->i=aK.countP (λx=>decide<|s x<r)->∃eK d,o_ m R g cs rd i eK (rd++d)/\CI aK s G 9 eK/\∀ls:!(List<|List N),ls.length=n->(∀j l,ls[j]? =some l->TI aK s (r+j) l)->d=jG ls:=by
 intro n;induction n with
 |zero=>intro r g R cs rd i A a J a6 bb;obtain rfl:r=9:=A;have:=List.eq_nil_iff_forall_not_mem.mpr λx W=>absurd ((J.m x).mp W).2.2 ζ;subst this;refine bY cs [] (by rw[bQ,];rw[.nil]) a6 λls a7 _=>?_;rw[wJ a7,];rfl
 |succ n C=>
  intro r g R cs rd i A a J a6 bb;cases R with
  |nil=>
   have L:∀x∈aK,s x≠r:=λx W e=>by have:=(J.m x).mpr #[W,e,MD A];cases this
   rw[bY cs [] (by rw[bQ,];rw[.nil]) #[λk c U=>a6.h k c ?_,λp I=>?_,a6.d] λls a7 a8=>?_]
   .rcases sw (s k) r with q|q
    .rw[q]
    .rw[absurd (su q).symm<|Bw S L (jA (lj<|su q) U) k c]
   .rw[en (a6.k p I) λac M X=>#[ac,aiq A M,X]]
   .rw[(S0.mpr λl z=>?_).symm]
    obtain⟨j,B,rfl⟩:=FY.mp z;have ac:=(a8 j _<|eH B).1;have M:(aK.filter λx=>decide<|s x=r+j)=[]:=S0.mpr λx W=>by have:=Bw S L (air A a7 B) x W;simpa using this
    simp only[M]at ac;simp[ac.eq_nil]
  |cons k t=>
   have Y:=MD A;rw[en (apz S O a J Y) λf bl Z=>aJ (aqt (k::t)) λh F T=>?_];have u:=J.perm S.d Y;have Q:aK.countP (λx=>decide<|s x<r)+(t.length+1)=aK.countP (λx=>decide<|s x<r+1):=by
    have K:(k::t).length=aK.countP (λx=>decide<|s x=r):=by simp only[u.length_eq,List.countP_eq_length_filter]
    simp only[dN]at K;rw[K▸((Ht (λx=>?_) aK).symm)];simp only[decide_eq_true_eq];rcases zT (s x) r with q|q|q
    .rw[if_pos<|ais A q,if_pos q,if_neg<|ait A q]
    .rw[if_pos<|aiu A q,if_neg<|aiv A q,if_pos q]
    .rw[if_neg<|aiw A q,if_neg<|aix A q,if_neg<|aiy A q]
   have bt:=UT (λk c e cs U=>bs k c (aiz A e) cs<|e▸U) J.d (λx W=>let U:=(J.m x).mp W;#[U.1,U.2.1]) a6.h (λx W q=>by rw[aJ (bn.mp q) λp I P=>?_];subst P;have ac:=(a6.k p I).2.1;have M:=((J.m _).mp W).2.1;rw[aiA A ac M])
   obtain⟨eK,d,ac,M,X⟩:=C (rd:=rd++[h]) (i:=i+(t.length+1)) (Dk A) bl Z (a6.round J Y) (by rw[bb,];rw[Q]);rw[bY eK (h::d) ?_ M λls a7 a8=>?_]
   .simp only[b4]at ac
    rw[.cons bt (λy b=>(a.n y).mpr ((J.m y).mp b).1) f F (Px T) (aiB bb Q<|S.l▸List.countP_le_length) ac]
   .cases ls with
    |nil=>cases a7
    |cons l ls=>
     rw[ct (a8 0 l rfl) λw bo=>?_];have D:=EM (Px T) bo<|F.trans<|u.trans w.symm;have b0:l≠[]:=λe=>by simp only[e]at D;rw[D]at F;rw[absurd F.nil_eq (by simp)]
     have:=X ls (by simpa using a7) λj l U=>by have:=a8 (j+1) l U;rwa[show r+(j+1)=r+1+j by rw[ME]]at this
     unfold jG at this⊢;rw[ng<|by simpa using b0,<-this,D]
end
def MW:∀{l},l≠[]->mx l∈l
 |[a],_=>by have:mx [a]=a:=Tn<|dm _;simp only[this];rw[.head _]
 |a::b::l,_=>by
  show zU a (mx (b::l))∈_;rcases Nat.le_total a (mx (b::l))with U|U
  .have:zU a (mx (b::l))=mx (b::l):=Nat.max_eq_right U
   rw[this,];rw[.tail _<|MW<|dl _ _]
  .have:zU a (mx (b::l))=a:=Tn U
   rw[this,];rw[.head _]
def eS(W:b5):!(!N×!N):=W.flatMap λp=>p.2.map λY=>(p.1,Y)
def ua{W:b5}:(k,o)∈eS W↔∃p∈W,p.1=k/\o∈p.2:=by
 unfold eS;rw[qt,];constructor
 .rintro⟨p,I,U⟩
  rw[aJ (bn.mp U) λh y e=>ct (o8 e) λQ H=>?_];subst Q;subst H;rw[eo p I rfl y]
 .rintro⟨p,I,rfl,y⟩
  rw[bA p I<|bw y]
abbrev sN(W:b5)(n:N)(k:!N):N:=(aZ (bZ W n) k).getD 0
section
variable{W:b5} (D:(W.map (·.1)).Nodup) (G:jx W)
include D
theorem P_{p:!N×!(!N)}(I:p∈W):sN W 0 p.1=0:=by have:aZ (bZ W 0) p.1=some 0:=mN (by rw[lV,];rw[D])<|bw I;unfold sN;rw[this▸?_];rfl
theorem uo{n:N}{p:!N×!(!N)}(I:p∈W):sN W (n+1) p.1=mx (0::p.2.map λo=>sN W n o+1):=by have:aZ (bZ W<|n+1) p.1=some (mx (0::p.2.map λo=>sN W n o+1)):=mN (by rw[lV,];rw[D])<|bw I;show(aZ (bZ W<|n+1) p.1).getD 0=_;rw[this,];rfl
theorem EC{n:N}{p:!N×!(!N)}(I:p∈W){o:!N}(y:o∈p.2):sN W n o+1<=sN W (n+1) p.1:=by rw[uo D I,];rw[yl<|.tail _<|bw (f:=λo=>sN W n o+1) y]
theorem PZ{n:N}{p:!N×!(!N)}(I:p∈W)(h:0<sN W (n+1) p.1):∃o∈p.2,sN W n o+1=sN W (n+1) p.1:=by
 rw[uo D I]at h⊢;rcases aY.mp (MW (l:=0::p.2.map λo=>sN W n o+1) (dl _ _))with e|e
 .rw[absurd (Gh h e)<|nA 0]
 .rw[aJ (bn.mp e) λo y M=>bA o y M]
include G
theorem x6{p:!N×!(!N)}(I:p∈W){o:!N}(y:o∈p.2):∃q∈W,q.1=o:=aJ (bn.mp<|G p I o y) λq u e=>bA q u e
theorem ap3:∀{n:N} {p:!N×!(!N)},p∈W->sN W n p.1<=n:=by
 intro J;induction J with
 |zero=>intro p I;rw[P_ D I,];rw[d8 _]
 |succ n C=>
  intro p I;rw[uo D I,];rw[ym λa o=>?_];rcases aY.mp o with rfl|o
  .rw[dm _]
  .rw[aJ (bn.mp o) λY y P=>?_]
   subst P;rw[aJ (x6 D G I y) λq u P=>?_];subst P;rw[nB<|C u]
theorem ap4:∀{n:N} {p:!N×!(!N)},p∈W->sN W n p.1<=sN W (n+1) p.1:=by
 intro J;induction J with
 |zero=>intro p I;rw[P_ D I,];rw[dm _]
 |succ n C=>
  intro p I;rw[uo D I,];rw[ym λa o=>?_];rcases aY.mp o with rfl|o
  .rw[dm _]
  .rw[aJ (bn.mp o) λY y P=>?_]
   subst P;rw[aJ (x6 D G I y) λq u P=>?_];subst P;rw[bT (nB<|C u)<|EC D I y]
theorem P9:∀{n:N} {p:!N×!(!N)},p∈W->sN W n p.1<n->sN W (n+1) p.1=sN W n p.1:=by
 intro J;induction J with
 |zero=>intro p I U;rw[absurd U<|qB _]
 |succ n C=>intro p I U;simp only[uo D I,uo D I];congr 2;rw[oQ λY y=>aJ (x6 D G I y) λq u P=>?_];subst P;rw[C u<|ah4 U<|EC D I y,]
theorem aow:∀{n:N} {aK:!(!N)} {s:!N->N},(∀j<n,∃x∈aK,s x=j)->n<=aK.length:=by
 intro J;induction J with
 |zero=>intro _ _ _;rw[dm _]
 |succ n C=>
  intro aK s U;have C:=C λj B=>by rw[aJ (U j<|MC B) λx W e=>bA x (zM.mpr #[W,decide_eq_true<|ah5 B e]) e]
  rw[aJ (U n<|zS n) λx W e=>?_];have:(aK.filter λx=>decide<|s x≠n).length<aK.length:=List.length_filter_lt_length_iff_exists.mpr (bA x W<|by simp[e]);rw[ah6 C this]
theorem aqv(i:W.length=9):kG (eS W) (W.map (·.1)) (sN W 9):=by
 have o:∀e∈eS W,sN W 9 e.1<9->sN W 9 e.2<sN W 9 e.1:=λe g U=>by rw[kK (ua.mp<|g) λp I K y=>?_];rw[<-K]at U⊢;have f:=P9 D G I U;have M:=EC D I y (n:=9);rw[ah7 f M]
 have j:∀n∈W.map (·.1),sN W 9 n<9->0<sN W 9 n->∃Y,(n,Y)∈eS W/\sN W 9 Y+1=sN W 9 n:=λn H U L=>by rw[aJ (bn.mp H) λp I P=>?_];subst P;have f:=P9 D G I U;rw[aJ (PZ D I (n:=9)<|ah8 L f) λY y M=>bA Y (ua.mpr<|eo p I rfl y)<|ah9 f M]
 have l:∀e∈eS W,e.1∈W.map (·.1)/\e.2∈W.map (·.1):=λe g=>by rw[kK (ua.mp<|g) λp I K y=>#[K▸bw I,G p I _ y]]
 refine#[l,o,j,λn H U=>(aJ (bn.mp H) λp I P=>?_),D,by rw[aU,];rw[i]];subst P;have h:=ap3 D G (n:=9) I;obtain⟨Y,y,M⟩:=PZ D I (n:=8) (by have:sN W (8+1) p.1=sN W 9 p.1:=rfl;rw[ah_ U h]);have c:=M;rw[bA Y (ua.mpr<|eo p I rfl y) λr=>(aJ (x6 D G I y) λq u P=>?_)];subst P;have b:sN W 8 q.1<=sN W 9 q.1:=ap4 D G u;have a:∀d≤8,∃x∈W.map (·.1),sN W 9 x=8-d:=by
  intro d;induction d with
  |zero=>intro _;rw[bA q.1 (bw u)<|aia U h M r b]
  |succ d C=>intro t;rw[aJ (C<|aib t) λx k e=>aJ (j x k (aic e)<|aid t e) λY y X=>bA Y ((l _ y).2)<|congrArg Nat.pred<|X.trans e]
 have:=aow D G (n:=10) (aK:=W.map (·.1)) (s:=sN W 9) λm B=>by
  rcases sw m 9 with q|q
  .rw[aJ (a (8-m)<|aie B q) λx k e=>bA x k<|aif B q e]
  .rw[bA p.1 H<|aig U h B q]
 rw[aU]at this;rw[aih i this]
end
def w_:N->!(N×N)->!c6
 |0,_=>[[]]
 |_,[]=>[[]]
 |f+1,(R,m)::rest=>
  if 1<m-R then(sq<|m-R-1).flatMap λi=>(w_ f ((R,R+1+i)::(R+1+i,m)::rest)).map λD=>(R,m,some<|R+1+i)::D
  else(w_ f rest).map λD=>(R,m,none)::D
def Et(am):∀(f k st),gQ am f k st∈w_ f st
 |0,_,_=>.head _
 |f+1,k,[]=>.head _
 |f+1,k,(R,m)::rest=>by
  show gQ am (f+1) k ((R,m)::rest)∈(if 1<m-R then _ else _);by_cases U:1<m-R
  .rw[if_pos U,Eu U]
   rw[qt.mpr<|bA (am.getD (k%am.length) 0%(m-R-1)) (Tc.mpr<|bq _<|aiT U)<|bw<|Et am f _ _]
  .rw[if_neg U,PL U]
   rw[bw<|Et am f _ _]
abbrev kQ(q:N×N×Option N):N×N:=(q.1,q.2.1)
def OK(T:c6)(q:N×N×Option N):Bool:=decide (q.1<q.2.1)&&decide (q.2.1<=5)&&match q.2.2 with
 |none=>decide<|q.2.1=q.1+1
 |some E=>decide (q.1<E)&&decide (E<q.2.1)&&decide ((E,q.2.1)∈T.map kQ)&&decide ((q.1,E)∈T.map kQ)
def OJ:c6->Bool
 |[]=>false
 |q::_=>q.1.beq 0&&(q.2.1.beq 5&&q.2.2.isSome)
def anR:∀{T:c6},OJ T=true->∃m rest,T=(0,5,some m)::rest
 |[],U=>nomatch U
 |(a,b,Y)::rest,U=>by have U:=rW.mp U;have z:=rW.mp U.2;rw[dq (uP.mp z.2) λm e=>kh m rest<|nv U.1▸nv z.1▸e▸rfl]
def OL(T:c6):Bool:=OJ T&&decide (T.length=9)&&decide (T.map kQ).Nodup&&T.all (OK T)&&decide (2<=(T.filter λq=>q.2.2.isNone).length)
def anS:((w_ 9 [(0,5)]).all OL)=true:=by decide+kernel
structure ge (T:c6):Prop where
 hd:∃m rest,T=(0,5,some m)::rest
 len:T.length=9
 nd:(T.map kQ).Nodup
 r:∀q∈T,q.1<q.2.1/\q.2.1<=5
 leaf:∀q∈T,q.2.2=none->q.2.1=q.1+1
 jI:∀q∈T,∀m,q.2.2=some m->q.1<m/\m<q.2.1/\(m,q.2.1)∈T.map kQ/\(q.1,m)∈T.map kQ
 two:2<=(T.filter λq=>q.2.2.isNone).length
def arC(am):ge (gQ am 9 0 [(0,5)]):=by
 have U:=r_.mp anS _<|Et am 9 0 [(0,5)];generalize gQ am 9 0 [(0,5)]=T at U;unfold OL at U;simp only[ky,decide_eq_true_eq,r_]at U;obtain⟨⟨⟨⟨a,M⟩,X⟩,I⟩,Y⟩:=U;have h:=λq u=>by have:=I q u;unfold OK at this;simp only[ky,ky,decide_eq_true_iff,decide_eq_true_iff]at this;rw[this]
 rw[#[anR a,M,X,λq u=>(h q u).1,λq u e=>?_,λq u E e=>?_,Y]]
 .have:=(h q u).2
  rw[e]at this;rw[decide_eq_true_iff.mp this]
 .have:=(h q u).2
  rw[e]at this;simp only[ky,decide_eq_true_eq]at this;rw[#[this.1.1.1,this.1.1.2,this.1.2,this.2]]
set_option tactic.hygienic true in
def vF(a:G<16)(M:0<hi)(X:hi<16):nm G hi=if G=0 then[65+hi]else[65+G,65+hi]:=by
 unfold nm;simp only[pi<|MF M];have K:(16*G+hi)/16=G:=aiU M X;simp only[K,(aiV K)];split
 .rename_i U;simp only[U,nM];rfl
 .rename_i U
  simp only[pi U,Gc a,nM,Gi a];rfl
def amm(e:a<16)(M:0<b)(X:b<16)(I:c<16)(Y:0<d)(u:d<16)(h:nm a b=nm c d):(a,b)=(c,d):=by
 simp only[vF e M X,vF I Y u]at h
 split at h<;>split at h
 .simp only[SR,and_true]at h
  simp only[TE];lia
 .simp at h
 .simp at h
 .simp only[SR,and_true]at h
  simp only[TE];rw[aiW h]
def yp(a:G<16)(M:0<hi)(X:hi<16):nm G hi≠[]/\(nm G hi).length<=2/\∀c∈nm G hi,65<=c/\c<=80:=by
 rw[(vF a M X)▸?_];split
 .rw[#[by simp,by simp,λc d=>((iA.mp d)▸Di X)]]
 .rw[#[by simp,by simp,λc d=>?_]]
  simp only[aY,cQ,or_false]at d;rw[d.elim (·▸Di a) (·▸Di X)]
section
variable{T:c6} (D:ge T)
include D
abbrev bR(q:N×N×Option N):!N:=nm q.1 q.2.1
theorem bd{q:N×N×Option N}(h:q∈T):q.1<16/\0<q.2.1/\q.2.1<16:=by have:=D.r q h;rw[aiX this]
theorem Dx{q a:N×N×Option N}(h:q∈T)(h':a∈T)(e:bR q=bR a):kQ q=kQ a:=en (bd D h) λp f g=>en (bd D h') λk d S=>amm p f g k d S e
theorem mD:(T.map bR).Nodup:=by
 have:∀m:c6,(∀q∈m,q∈T)->(m.map kQ).Nodup->(m.map bR).Nodup:=by
  intro m;induction m with
  |nil=>intro _ _;rw[.nil]
  |cons q m C=>intro A U;rw[bW,c_]at U⊢;rw[#[λH=>U.1<|aJ (bn.mp H) λa k e=>(Dx D (A a<|.tail _ k) (A q<|.head _) e)▸bw k,C (λq U=>A q<|.tail _ U) U.2]]
 rw[this T (λK U=>U) D.nd]
theorem kj:(T.map cU).map (·.1)=T.map bR:=by rw[bI,];rw[oQ λq U=>ww q]
theorem sU{a b:N}(h:(a,b)∈T.map kQ):nm a b∈T.map bR:=by rw[aJ (bn.mp h) λq u e=>ct (o8 e) λQ H=>?_];subst Q;subst H;rw[bw u]
theorem AM:jx (T.map cU):=λp a Y y=>by
 rw[kj D,];rw[aJ (bn.mp a) λb u P=>?_];obtain⟨R,m,n⟩:=b;subst P;cases n with
 |none=>cases y
 |some E=>
  rw[nY (D.jI _ u E rfl) λU U X I=>?_];have e:Y∈[nm E m,nm R E]:=y;simp only[aY,cQ,or_false]at e;rcases e with rfl|rfl
  .rw[sU D X]
  .rw[sU D I]
theorem arF{S:!(!N)}(W:S=[]\/∃a b,S=[a,b]/\a∈T.map bR/\b∈T.map bR):sM T S:=by
 rw[#[?_,by rw[D.len▸?_];decide,λq u=>#[(D.r q u).1,(D.r q u).2,λE e=>?_],by rw[(kj D)▸mD D],AM D,?_,by rw[(kj D)▸W]]]
 .obtain⟨E,Q,e⟩:=D.hd;rw[aa9 0 5 E Q e]
 .obtain⟨c,M,_⟩:=D.jI q u E e;rw[#[c,M]]
 .rw[(kj D)▸(fW D.hd λE Q e=>e▸?_)]
  have:bR (0,5,some E)=[70]:=by show nm 0 5=_;rw[vF ζ ζ<|ζ,];rfl
  rw[bW▸this▸.head _]
theorem yo{a b:N}(h:(a,b)∈T.map kQ):nm a b≠[]/\(nm a b).length<=2/\∀c∈nm a b,65<=c/\c<=80:=by rw[aJ (bn.mp h) λq u e=>ct (o8 e) λQ H=>?_];subst Q;subst H;rw[en (bd D u) λp f g=>yp p f g]
end
def Yz{T:c6}(h:ge T)(am):oh am T=[]\/∃a b,oh am T=[a,b]/\a∈T.map bR/\b∈T.map bR:=by
 unfold oh;split
 .rw[.inl rfl]
 .have z:∀i,T.getD (i%9) (0,1,none)∈T:=λi=>by
   have U:i%9<T.length:=by rw[h.len,];rw[bq _ ζ]
   simp only[ic,eH U];rw[nh U]
  rw[.inr<|bY _ _ rfl (bw<|z _)<|bw<|z _]
def abk{n:Type}(l m)(x:n):(iP l m x).Perm (x::l):=wM.trans<|List.Perm.cons _<|by rw[Tg,]
def anV{n:Type}(am):∀(l m:!n) (k),(hJ am k l m).Perm (l++m):=by
 intro J;induction J with
 |nil=>intro m k;rw[.refl _]
 |cons x l C=>intro m k;rw[(C _<|k+1).trans<|((abk m _ x).append_left l).trans wM]
def anW{n:Type}(am)(l:!n):(rD am l).Perm l:=by have:=anV am l [] 0;rwa[bQ]at this
def mh:!(!N)->nK
 |[n,a]=>if a.length<3 then[]else[(n,[a])]
 |[n,a,b]=>[(n,[a,b])]
 |_=>[]
def Ux(o):gA (mh o)=qO o:=by
 match o with
 |[]=>rfl
 |[_]=>rfl
 |[n,a]=>
  show gA (if a.length<3 then _ else _)=if a.length<3 then _ else _
  split<;>rfl
 |[_,_,_]=>rfl
 |_::_::_::_::_=>rfl
def Uy(j:!(List<|List N)):gA (j.flatMap mh)=j.flatMap qO:=by
 induction j with
 |nil=>rfl
 |cons r j C=>simp only[jZ,jZ,<-C,<-Ux r];simp only[bf]
def T9{W:b5}(h:a∉W.map (·.1)):gV W a b=W:=by
 conv=>rhs;rw[<-sf W]
 rw[oQ λp I=>(if_neg (λe=>h (e▸bw I):¬p.1=a))▸?_];rfl
def xw:∀{W},(W.map (·.1)).Nodup->a∈W.map (·.1)->(eS<|gV W a b).Perm (eS W++[(a,b)])
 |p::W,hn,ha=>by
  rw[bW,c_]at hn;show(eS ((if p.1=a then(p.1,p.2++[b])else p)::gV W a b)).Perm _;by_cases e:p.1=a
  .rw[if_pos e,T9<|e▸hn.1]
   show((p.2++[b]).map (λY=>(p.1,Y))++eS W).Perm ((p.2.map λY=>(p.1,Y))++eS W++[(a,b)]);rw[bf,e,b4,b4];rw[(sk).append_left _]
  .rw[if_neg e,]
   show((p.2.map λY=>(p.1,Y))++eS (gV W a b)).Perm ((p.2.map λY=>(p.1,Y))++eS W++[(a,b)]);simp only[b4];rw[(xw hn.2<|(aY.mp ha).resolve_left λq=>e q.symm).append_left _]
section
variable{am:!N} {T:c6} {D:!(!N)} {ws:!(!N)}
def XZ(h:ge T)(Y:ws.length=3)(u:q∈T):kJ (fp ws q)=(cU q).2.map λo=>((cU q).1,o):=by
 obtain⟨R,m,n⟩:=q;cases n with
 |none=>show(if(ws.map _).length<3 then _ else _)=[];rw[if_neg (by rw[aU,];rw[yi Y]),]
 |some E=>rfl
def Rw(h:ge T)(Y:ws.length=3)(u:q∈T):bR q∈mS (fp ws q)/\∀x∈mS (fp ws q),x∈T.map bR:=by
 obtain⟨R,m,n⟩:=q;cases n with
 |none=>
  have:mS (fp ws (R,m,none))=[nm R m]:=by show(if(ws.map _).length<3 then _ else _)=_;rw[if_neg (by rw[aU,];rw[yi Y]),]
  rw[this▸#[.head _,λx W=>by rw[(iA.mp W)▸bw u]]]
 |some E=>
  rw[nY (h.jI _ u E rfl) λU U X I=>#[.head _,λx W=>?_]];have g:x∈[nm R m,nm E m,nm R E]:=W;simp only[aY,cQ,or_false]at g;rcases g with rfl|rfl|rfl
  .rw[bw u]
  .rw[sU h X]
  .rw[sU h I]
def wz(ws:!(!N)):N×N×Option N->!(!N)
 |(R,m,none)=>[ws.map λx=>x.getD (4-R) 65]
 |(R,m,some E)=>[nm E m,nm R E]
def Uz(Y:ws.length=3)(q):mh (fp ws q)=[(bR q,wz ws q)]:=by
 obtain⟨R,m,n⟩:=q;cases n with
 |none=>show(if(ws.map _).length<3 then _ else _)=_;rw[if_neg (by rw[aU,];rw[yi Y]),];rfl
 |some E=>rfl
abbrev kH(T:c6)(S:!(!N)):Prop:=S=[]\/∃a b,S=[a,b]/\a∈T.map bR/\b∈T.map bR
def mE(h:ge T)(j:b∈T.map bR):b≠[]/\b.length<=2/\∀c∈b,65<=c/\c<=80:=by rw[aJ (bn.mp j) λq u P=>?_];subst P;rw[en (bd h u) λp f g=>yp p f g]
def asp(h:ge T):(cZ T D).map (·.1)=T.map bR:=by
 simp only[<-kj h];exact match D with
  |[]=>rfl
  |[_]=>rfl
  |[_,_]=>AE _ _ _
  |_::_::_::_=>rfl
def apK(h:ge T)(Y:ws.length=3)(W:kH T D):((T.map (fp ws)++(if D=[]then[]else[D])).flatMap kJ).Perm (eS<|cZ T D):=by
 have K:(T.map<|fp ws).flatMap kJ=eS (T.map cU):=by
  unfold eS;simp only[FR,FR];have:∀m:c6,(∀q∈m,q∈T)->m.flatMap (λa=>kJ<|fp ws a)=m.flatMap λa=>(cU a).2.map λc=>((cU a).1,c):=by
   intro m;induction m with
   |nil=>intro _;rfl
   |cons q m C=>intro A;simp only[jZ,jZ,C λq U=>A q<|.tail _ U,XZ h Y<|A q<|.head _]
  rw[this T λJ U=>U]
 simp only[FQ,K];rcases W with rfl|⟨a,b,rfl,o,j⟩
 .rw[if_pos rfl,]
  show(eS (T.map cU)++[]).Perm (eS<|T.map cU);rw[bQ,]
 .rw[(if_neg<|dl _ _)▸?_]
  have:[[a,b]].flatMap kJ=[(a,b)]:=by show(if b.length<3 then _ else _)++[]=_;rw[if_pos (by have:=(mE h j).2.1;rw[Dn this]),];rfl
  rw[this▸(xw ((kj h)▸mD h)<|(kj h)▸o).symm]
def apN(h:ge T)(Y:ws.length=3)(W:kH T D)(x):x∈(T.map (fp ws)++(if D=[]then[]else[D])).flatMap mS↔x∈T.map bR:=by
 rw[FQ,ek];constructor
 .rintro(U|U)
  .rw[aJ (qt.mp U) λr A g=>aJ (bn.mp A) λq u P=>?_]
   subst P;rw[(Rw h Y u).2 x g]
  .rcases W with rfl|⟨a,b,rfl,o,j⟩
   .rw[if_pos rfl]at U;cases U
   .rw[if_neg<|dl _ _]at U
    have S:x∈(if b.length<3 then[a,b]else[a])++[]:=U;rw[if_pos (by have:=(mE h j).2.1;rw[Dn this])]at S;simp only[bQ,aY,cQ,or_false]at S;rcases S with rfl|rfl
    .rw[o]
    .rw[j]
 .intro U
  rw[aJ (bn.mp U) λq u P=>?_];subst P;rw[.inl<|qt.mpr<|bA (fp ws q) (bw u)<|(Rw h Y u).1]
def apJ(h:ge T)(Y:ws.length=3)(W:kH T D):(T.map (fp ws)++(if D=[]then[]else[D])).flatMap mh=T.map λq=>(bR q,wz ws q):=by
 have K:(T.map<|fp ws).flatMap mh=T.map λq=>(bR q,wz ws q):=by
  rw[FR,];clear W h;induction T with
  |nil=>rfl
  |cons q T C=>rw[jZ,C,Uz Y];rfl
 rw[FQ▸K▸?_];rcases W with rfl|⟨a,b,rfl,o,j⟩
 .rw[(if_pos rfl)▸bQ _]
 .rw[(if_neg<|dl _ _)▸?_]
  have:[[a,b]].flatMap mh=[]:=by show(if b.length<3 then _ else _)++[]=_;rw[if_pos (by have:=(mE h j).2.1;rw[Dn this]),];rfl
  simp only[this,bQ]
def apL(h:ge T)(Y:ws.length=3)(W:kH T D):∀r∈T.map (fp ws)++(if D=[]then[]else[D]),j7 r:=λr A=>by
 rcases ek.mp A with A|A
 .rw[aJ (bn.mp A) λc u P=>?_]
  obtain⟨R,m,n⟩:=c;subst P;cases n with
  |none=>rw[.leaf _ _ (by rw[aU,];rw[Y])]
  |some E=>rw[nY (h.jI _ u E rfl) λU U X I=>.jI _ _ _ (qA (yo h X).2.1)<|qA (yo h I).2.1]
 .rcases W with rfl|⟨a,b,rfl,o,j⟩
  .rw[if_pos rfl]at A;cases A
  .rw[if_neg<|dl _ _]at A
   rw[(iA.mp A)▸.ext _ _ (qA (mE h j).2.1)]
def apO(h:ge T)(Y:ws.length=3)(k:∀w∈ws,∀i,65<=w.getD i 65/\w.getD i 65<=80)(W:kH T D):∀r∈T.map (fp ws)++(if D=[]then[]else[D]),qJ r:=λr A=>by
 have c:∀{w:!N},(w≠[]/\w.length<=2/\∀Z∈w,65<=Z/\Z<=80)->nJ w:=λU=>#[U.1,λZ d=>MQ (U.2.2 Z d).1 (U.2.2 Z d).2];rcases ek.mp A with A|A
 .rw[aJ (bn.mp A) λl u P=>?_]
  obtain⟨R,m,n⟩:=l;subst P;rw[en (bd h u) λp f g=>?_];cases n with
  |none=>
   refine#[by simp[fp],λw H=>?_];have G:w∈[nm R m,ws.map λx=>x.getD (4-R) 65]:=H;simp only[aY,cQ,or_false]at G;rcases G with rfl|rfl
   .rw[c<|yp p f g]
   .rw[⟨λe=>?_,λZ d=>?_⟩]
    .rw[FX]at e;rw[e]at Y;cases Y
    .rw[aJ (bn.mp d) λx W P=>?_]
     subst P;rw[MQ (k x W _).1 (k x W _).2]
  |some E=>
   refine nY (h.jI _ u E rfl) λK K X I=>#[by simp[fp],λw H=>?_];have G:w∈[nm R m,nm E m,nm R E]:=H;simp only[aY,cQ,or_false]at G;rcases G with rfl|rfl|rfl
   .rw[c<|yp p f g]
   .rw[c<|yo h X]
   .rw[c<|yo h I]
 .rcases W with rfl|⟨a,b,rfl,o,j⟩
  .rw[if_pos rfl]at A;cases A
  .rw[if_neg<|dl _ _]at A
   refine(iA.mp A)▸⟨by simp,λw H=>?_⟩;simp only[aY,cQ,or_false]at H;rcases H with rfl|rfl
   .rw[c<|mE h o]
   .rw[c<|mE h j]
end
def ES:∀{g},(bC g).Nodup->w∈g->aS g w.1=w.2.2
 |y::g,hn,U=>by
  obtain⟨a,M⟩:=c_.mp<|show(y.1::bC g).Nodup from hn;show(if y.1=w.1 then y.2.2 else aS g w.1)=_;rcases aY.mp U with rfl|U
  .rw[if_pos rfl,]
  .have O:¬y.1=w.1:=λe=>a<|e▸bw U
   rw[(if_neg O)▸ES M U]
def Rg(O:gI g E aK)(k):(aS g k).length<=E.length:=by
 have:(aS g k).Perm ((E.filter λe=>decide<|e.2=k).map (·.1)):=by
  rw[wL,];intro n;rw[O.s,];clear O;induction E with
  |nil=>rfl
  |cons e E C=>
   rw[FI,C];rw[(by rw[qg,beq_iff_eq,decide_eq_true_iff,Gu]:(e==(n,k))=decide (e.1=n/\e.2=k)),];by_cases U:e.2=k
   .rw[ng<|by simpa using U,bW,FI]
    by_cases a:e.1=n<;>simp[U,a]
   .rw[oO<|by simpa using U,]
    simp[U]
 simp only[this.length_eq,aU];rw[FU _ _]
def ZB(h:∀k,(aS g k).length<=c):fC g []<=(bC g).length*c:=by
 unfold fC;have:∀K:!(!N),((K.filter λk=>decide<|k∉[]).map λk=>(aS g k).length).sum<=K.length*c:=by
  intro K;induction K with
  |nil=>simp
  |cons n K C=>rw[ng<|by simp,bW,lg,dN,Nat.succ_mul];have:=h n;rw[ag2 C this]
 rw[this _]
def aou{n:Type}{l:!(!N×n)}(d:n)(h:(l.map (·.1)).Nodup):l=(l.map (·.1)).map λk=>(k,(aZ l k).getD d):=by
 rw[bI,]
 conv=>lhs;rw[<-sf l]
 rw[oQ λp I=>?_];show p=(p.1,(aZ l p.1).getD d);rw[mN h<|I,];rfl
def sT(am:!N)(T:c6)(k:!N):jw:=match T.find? λq=>decide (bR q=k)with
 |some q=>gM am q.1 q.2.1
 |none=>[]
section
variable{am:!N} {T:c6} (D:ge T)
include D
theorem xg{q:N×N×Option N}(u:q∈T):sT am T (bR q)=gM am q.1 q.2.1:=by
 unfold sT;cases U:T.find? λa=>decide (bR a=bR q)with
 |none=>rw[absurd (decide_eq_true rfl)<|S1.mp U q u]
 |some a=>have:=Dx D (Tb U) u (by simpa using S4 U);rw[ct (o8 this) λK O=>?_];show gM am a.1 a.2.1=_;rw[K,O]
theorem Ha{a b:N}(h:(a,b)∈T.map kQ):sT am T (nm a b)=gM am a b:=by rw[aJ (bn.mp h) λq u e=>?_];rw[ct (o8 e) λQ H=>?_];subst Q;subst H;rw[xg D u]
omit D in
theorem Bn{R hi:N}(h:R<hi)(Y:hi<=5):∀y∈gM am R hi,y.2<3/\DR y/\y.1.length=hi-R:=λy b=>by
 rw[aJ (bn.mp b) λa o P=>?_];subst P;have c:a<=2:=by simp only[aY,cQ,or_false]at o;rw[akr o]
 have d:=HG (x:=(hK am R hi+a)%16^(hi-R)) (bq _<|sA<|ζ);refine⟨Gd (by simp only[Gj];rw[Mv (DX am R hi) c]),⟨λe=>?_,by show(dg _ _).length<=100;rw[aks Y d]⟩,d⟩;have G:dg (hi-R) ((hK am R hi+a)%16^(hi-R))=[]:=e;rw[G]at d;rw[akt h d]
theorem US(X:3<=am.length){m:nK}(H:∀q∈T,aZ m (bR q)=some (wz ((am.take 3).map fx) q)){W:b5}{s:!N->N}(A:∀q∈T,∀o∈(cU q).2,(bR q,o)∈eS W)(S:kG (eS W) (T.map bR) s):∀k∈T.map bR,s k<9->∀cs:cJ,(∀o∈T.map bR,s o<s k->aZ cs o=some (sT am T o))->qh m cs k (sT am T k):=λk c G cs p=>by
 rw[aJ (bn.mp c) λac u a6=>?_];obtain⟨R,B,O⟩:=ac;subst a6;rw[ct (D.r _ u) λY t=>?_];dsimp only at Y t;have x:=H _ u;simp only[xg D u];cases O with
 |none=>
  obtain rfl:B=R+1:=D.leaf _ u rfl;rw[Bu (Iu X) λl J F Q L=>?_];subst L;have f:∀n:N,n%16^5/16^R%16<16:=λn=>bq _ ζ;have j:∀n:N,(fx n).getD (4-R) 65=65+n%16^5/16^R%16:=λn=>by simp only[R6];rw[Xy (w:=5) (i:=R) (bq _<|ζ)<|aku t]
  have e:gM (l::J::F::Q) R (R+1)=vq (l%16^5/16^R%16+J%16^5/16^R%16+F%16^5/16^R%16):=by simp only[xr,afa];have K:R+1-R=1:=afR;simp only[K];congr 1;unfold hK;simp only[K];simp only[List.take_succ_cons,F5,bW,sg,lg,List.sum_nil,Nat.pow_one];rw[akv]
  simp only[e];rw[.leaf _ _ _ (f l) (f J) (f F)<|x.trans ?_];show some [[(fx l).getD (4-R) 65,(fx J).getD (4-R) 65,(fx F).getD (4-R) 65]]=_;simp only[j,j,j]
 |some a=>
  rw[nY (D.jI _ u a rfl) λP C I h=>?_];dsimp only at P C I h;have g:s (nm a B)<s (bR (R,B,some a)):=S.a _ (A _ u _<|.head _) G;have M:s (nm R a)<s (bR (R,B,some a)):=S.a _ (A _ u _<|.tail _<|.head _) G;have r:=p _ (sU D I) g;have E:=p _ (sU D h) M;simp only[Ha D I]at r;simp only[Ha D h]at E;simp only[<-XN am (iK P) (iK C)];rw[.jI _ _ _ _ _ _ x E r rfl (λy b=>?_) λz Z=>?_]
  .rw[en (Bn (am:=am) P (Dr t C) y b) λd U _=>?_]
   rw[#[d,U]]
  .rw[(Bn (am:=am) C (akw t) z Z).2.1]
end
def aok:∀{j k jl},(∀r∈j,kF r)->(fY am k j jl).length<=jl.length+53*j.length:=by
 intro J;induction J with
 |nil=>intro k jl _;rw[akx]
 |cons o j C=>
  intro k jl U;have:=C (k:=k+1) (jl:=jl++(if k=0 then[]else gG (dz am k))++iS am k o) λr A=>U r<|.tail _ A;have M:(if k=0 then[]else gG (dz am k)).length<=3:=by
   split
   .rw[dm _]
   .unfold gG;split<;>decide
  simp only[cv,dN]at this⊢;rw[aky ((Ew<|U o<|.head _).2) M this]
def aon(h:kF G):2<=(fY am 0 (G::rest) []).length:=by
 have e:fY am 0 (G::rest) []=iS am 0 G++rE am 1 rest:=by show fY am 1 rest ([]++(if 0=0 then[]else gG (dz am 0))++iS am 0 G)=_;rw[OY,if_pos rfl];rfl
 simp only[e,cv];rw[ct h λS c=>?_];have f:2<=(iS am 0 G).length:=by
  rcases yN S with⟨a,b,rfl⟩|⟨a,b,Z,rfl⟩
  .have d:=(p8 a<|dz am 0/4).1
   show 2<=gT (cz a (dz am 0/4)++32::cz b (dz am 0/4+1));simp;rw[akz d<|ni.mpr (c a<|.head _).1]
  .have d:=(p8 a<|dz am 0/4).1
   show 2<=gT (cz a (dz am 0/4)++32::(cz b (dz am 0/4+1)++32::cz Z (dz am 0/4+1+1)));simp;rw[akA]
 rw[akB f]
def arx:∀{j},(∀r∈j,kF r)->(lX j).length<=4*j.length:=by
 intro J;induction J with
 |nil=>intro _;rw[d8 _]
 |cons r j C=>intro U;have:=C λr A=>U r<|.tail _ A;show([59]::(r++lX j)).length<=_;simp only[dN,cv];rw[akC this<|(U r<|.head _).1]
section
variable{a b c d e f g h i j k l m n:N}
def als:b=a+1->a<c->c<b->False:=ai [b,a,c] 0x50f0023c2050319040 0x10040000401
def alu:a+1=2->b<=4*c->c+1<=10->a+b<=9000:=ai [a,b,c] 0x3823280d530100e88c64238d09c05068c640 0x40040000401
def alv:a+1=3->b<=4*c->c+1<=10->a+b<=9000:=ai [a,b,c] 0x3823280d530100e88c64238d09c0506cc640 0x40040000401
def alt(h:a+1=2\/a+1=3)(p:b<=4*c)(q:c+1<=10):a+b<=9000:=h.elim (alu · p q) (alv · p q)
end
set_option tactic.hygienic true in
def O8{n:Type}{v:n}:∀{l},aZ l k=some v->k∈l.map (·.1)
 |e::l,h=>by
  simp only[aZ]at h;split at h
  .rename_i q;rw[q▸.head _]
  .rw[.tail _<|O8 h]
def XI:∀{T},((dy am S T).map (·.1)).Sublist (T.map bR):=by
 intro J;induction J with
 |nil=>rw[.slnil]
 |cons q T C=>
  simp only[(by unfold dy;simp only[jZ]:dy am S (q::T)=(if(aZ S<|nm q.1 q.2.1).getD 0<9 then[(nm q.1 q.2.1,gM am q.1 q.2.1)]else[])++dy am S T),bf];split
  .rw[.cons₂ _ C]
  .rw[.cons _ C]
def aov:∀{L:c6},2<=L.length->(L.map bR).Nodup->∃q∈L,bR q≠a
 |Q::q2::l,_,nd=>by
  by_cases e:bR Q=a
  .rw[#[q2,.tail _<|.head _,λO=>?_]]
   rw[bW,bW,c_]at nd;rw[nd.1<|e▸O▸.head _]
  .rw[#[Q,.head _,e]]
 |[_],U,_=>absurd U (by simp)
 |[],U,_=>absurd U<|ζ
section
variable{E:!(!N×!N)} {aK:!(!N)} {s:!N->N} {g:PG}
def AF:(aK.any λx=>decide<|¬s x<9)=true↔∃k,k∈aK/\¬s k<9:=List.any_eq_true.trans #[λy=>aJ y λk a M=>#[k,a,decide_eq_true_iff.mp M],λy=>aJ y λk a M=>#[k,a,decide_eq_true M]]
def al4:mx (aK.map s)<9↔¬∃k,k∈aK/\¬s k<9:=#[λU y=>aJ y λk c i=>i<|jA (yl<|bw c) U,λU=>qA<|ym λa o=>(aJ (bn.mp o) λk c P=>P▸(wR<|Fu.mp λq=>U #[k,c,q]))]
def aml:((not ((aK.any λx=>decide<|¬s x<9))))=decide (mx (aK.map s)<9):=by rw[qg,Sq,<-Bool.not_eq_true,AF,decide_eq_true_iff,al4]
def ZZ(S:kG E aK s)(O:gI g E aK)(A:E.length<=30)(a:(bC g).length=9):iQ g 300 (bC g) []=some (aK.any λx=>decide<|¬s x<9):=by
 have w:=ZB λj=>bT (Rg O j) A;rw[a]at w;rw[an0 (agj w) (C:=λj=>j∈aK/\¬s j<9) (λj c=>?_) (λj c=>(O.n j).mpr c.1) (λU=>AF.mp U) λU=>#[s,λY j c=>S.a _ ((ub O).mp c) ?_]]
 .rw[aJ (S.c j c.1 c.2) λY y i=>bA Y #[(S.cl _ y).2,i]<|(ub O).mpr y]
 .rw[Fu.mp λq=>oL<|U.symm.trans<|AF.mpr #[j,(S.cl _<|(ub O).mp c).1,q]]
def Z1(S:kG E aK s)(O:gI g E aK)(A:E.length<=30):mf (dH g):=by
 rw[#[λy b j c=>aJ (bn.mp b) λT d P=>?_,λy b=>aJ (bn.mp b) λT d P=>?_]]
 .subst P
  have:=ES O.d d;rw[(by unfold dH;rw[bI,];rfl:(dH g).map (·.1)=bC g),O.n];rw[(S.cl _<|(ub O).mp (by rw[this,];rw[c])).1]
 .subst P
  have M:=Rg O T.1;rw[ES O.d d]at M;rw[agk A M]
def Z0(S:kG E aK s)(O:gI g E aK){z:!N}(hz:z∈aK)(a:s z=0):∃y R,jm g=y::R:=jY λe=>(cQ<|e▸((QH S O).2.m z).mpr #[hz,a,ζ]).elim
def XX:∀{W},(∀p∈W,p.2.length<=3)->(eS W).length<=3*W.length:=by
 intro W;induction W with
 |nil=>intro _;rw[d8 _]
 |cons p W C=>intro U;have a:=C λp I=>U p<|.tail _ I;have M:=U p<|.head _;show((p.2.map λY=>(p.1,Y))++eS W).length<=_;simp only[cv,aU,dN];rw[agh a M]
end
section
variable{am:!N} {T:c6} {D:!(!N)}
def Yy(h:ge T)(W:kH T D):rY D:=W.elim .inl λU=>U.elim λa U=>U.elim λb U=>.inr<|Jr a b U.1 (mE h U.2.1).1 (bT (mE h U.2.1).2.1<|ζ) (mE h U.2.2).1<|bT (mE h U.2.2).2.1<|ζ
def U8(h:ge T)(W:kH T D):jx (cZ T D):=by
 rcases W with rfl|⟨a,b,rfl,o,j⟩
 .rw[AM h]
 .rw[GT (AM h)<|(kj h)▸j]
def XY(h:ge T)(W:kH T D)(u:q∈T)(y:o∈(cU q).2):(bR q,o)∈eS (cZ T D):=by
 have c:=ua.mpr<|eo (cU q) (bw u) (ww q) y;rcases W with rfl|⟨a,b,rfl,d,j⟩
 .rw[c]
 .rw[((xw ((kj h)▸mD h)<|(kj h)▸d).mem_iff).mpr<|ga _ c]
def aff(h:ge T)(W:kH T D):∀p∈cZ T D,p.2.length<=3:=by
 rcases W with rfl|⟨a,b,rfl,o,j⟩
 .exactλp I=>lk<|wx T p I
 .rw[GU<|wx T]
def M5(h:ge T)(u:q∈T)(e:q.2.2=.none)(y:(bR q,o)∈eS (T.map cU)):False:=by
 rw[kK (ua.mp y) λp I K M=>aJ (bn.mp I) λa k P=>?_];subst P;have O:=Dx h k u<|(ww a).symm.trans K;obtain⟨R,m,n⟩:=q;obtain⟨d,r,b⟩:=a;rw[ct (o8 O) λQ H=>?_];subst Q;subst H;cases b with
 |none=>cases M
 |some E=>have c:=h.leaf _ u e;have f:=h.jI _ k E rfl;dsimp only at c f;rw[als c f.1 f.2.1]
def afb(h:ge T)(W:kH T D)(S:kG (eS<|cZ T D) (T.map bR) s):∃x∈T.map bR,s x=0:=by
 have c:∀q∈T,(∀Y,(bR q,Y)∉eS (cZ T D))->∃x∈T.map bR,s x=0:=λq u U=>by rw[bA (bR q) (bw u) ?_];have i:=Fu.mp λz=>(S.c _ (bw u) z).elim λY y=>U Y y.1;rw[(Tj _).elim id λz=>(S.b _ (bw u) i z).elim λY y=>absurd y.1<|U Y]
 rcases W with W|⟨a,b,W,o,j⟩
 .rw[dq (List.exists_mem_of_length_pos<|wS Nat.zero_lt_two h.two) λq u=>ct (zM.mp u) λd M=>c q d λY y=>M5 h d (Gp.mp M)<|W▸y]
 .rw[aJ (aov (a:=a) h.two<|(List.filter_sublist.map bR).nodup<|mD h) λq u O=>ct (zM.mp u) λd M=>c q d λY y=>?_]
  rw[W]at y;rw[(ek.mp<|((xw (by rw[kj h,];rw[mD h]) (by rw[kj h,];rw[o])).mem_iff).mp y).elim (M5 h d<|Gp.mp M) λU=>O (o8<|iA.mp U).1]
def asn:∀w∈(am.take 3).map fx,∀i,65<=w.getD i 65/\w.getD i 65<=80:=λw H i=>by
 rw[aJ (bn.mp H) λn U P=>?_];subst P;rw[R6,ic];cases e:(dg 5 (n%16^5))[i]?with
 |none=>rw[#[d8 _,ζ]]
 |some Z=>rw[HH (bq _<|ζ) Z<|uK e]
def apM(h:ge T):9<=(p5 am T D).length/\(p5 am T D).length<=10:=by
 unfold p5;simp only[cv,aU,h.len];split
 .rw[#[d8 _,ζ]]
 .rw[#[by simp,by simp]]
section
variable{S:fQ} {cs:cJ}
def HL(u:q∈T)(h:(aZ S<|bR q).getD 0<9):(bR q,gM am q.1 q.2.1)∈dy am S T:=qt.mpr<|bA q u<|(if_pos h)▸.head _
set_option tactic.hygienic true in
def XO(hk:k∈(dy am S T).map (·.1)):k∈T.map bR/\(aZ S k).getD 0<9:=by
 rw[aJ (bn.mp hk) λp I P=>aJ (qt.mp I) λq u U=>?_];subst P;split at U
 .rename_i i
  rw[(iA.mp U)▸#[bw u,i]]
 .rw[nomatch U]
def Bm(h:ge T):((dy am S T).map (·.1)).Nodup:=XI.nodup<|mD h
variable(G:ge T) (C:CI (T.map bR) (fun k=>(aZ S k).getD 0) (sT am T) 9 cs)
include G C
theorem XP:cs.length=(dy am S T).length:=by
 have:=((FZ C.d<|Bm G (am:=am) (S:=S)).mpr λj=>#[λU=>?_,λU=>(XO U).elim λa M=>O8<|C.h j a M]).length_eq
 .rwa[aU,aU]at this
 .rw[aJ (bn.mp U) λp I P=>P▸en (C.k p I) λa M K=>aJ (bn.mp a) λq u e=>e▸bw (HL (am:=am) u<|e.symm▸M)]
theorem XM:∀p∈cs,aZ (dy am S T) p.1=some p.2:=λp I=>by rw[en (C.k p I) λa M X=>aJ (bn.mp a) λq u e=>X▸e▸(xg G u)▸mN (Bm G) (HL u<|e.symm▸M)]
set_option tactic.hygienic true in
theorem Bk(L:[70]∈T.map bR):aZ cs [70]=if(aZ S [70]).getD 0<9 then some (gM am 0 5)else none:=by
 split
 .rename_i U
  rw[fW G.hd λa b e=>(C.h _ L U).trans<|congrArg some ?_];have:=xg (am:=am) G (e▸.head _:(0,5,some a)∈T);rw[(by show nm 0 5=_;rw[vF ζ ζ<|ζ,];rfl:bR (0,5,some a)=[70])▸this]
 .rename_i U
  rw[D4 λq=>aJ (bn.mp q) λp I e=>U<|e▸(C.k p I).2.1]
theorem XQ(L:[70]∈T.map bR):ju cs=ke am S:=by
 unfold ju ke;rw[Bk G C L▸?_];by_cases U:(aZ S [70]).getD 0<9
 .rw[if_pos U,if_pos U]
  rw[nZ (asv am) λy R K O=>K▸congrArg PV.nN O]
 .rw[if_neg U,if_neg U]
end
def ae5(X:3<=am.length)(h:ge T)(W:kH T D)(B:sM T D)(j:a7.Perm a6)(ac:9<=a6.length/\a6.length<=10)(J:∀r∈a6,kF r)(dx:∀r∈a6,j7 r)(dV:∀r∈a6,qJ r)(c5:(a6.flatMap kJ).Perm (eS<|cZ T D))(db:∀x,x∈a6.flatMap mS↔x∈T.map bR)(da:a6.flatMap mh=T.map λq=>(bR q,wz ((am.take 3).map fx) q)):∃k t,lh (some 32) [] (fY am 0 a7 []) (k::t)/\t.length<=9000/\2<=(fY am 0 a7 []).length/\(fY am 0 a7 []).length<=9999/\ ∃o rest b cs rd,jo [] [] (k::t)=o::rest/\Nonempty (sI (o::rest) b cs rd)/\ ((not (b)))=decide (mx ((bZ (cZ T D) 9).map (·.2))<9)/\ (∀ls,ls.length=9->j6 (bZ (cZ T D) 9) ls->rd=jG ls)/\ (cs.map (·.1)).Nodup/\((dy am (bZ (cZ T D) 9) T).map (·.1)).Nodup/\cs.length=(dy am (bZ (cZ T D) 9) T).length/\ (∀p∈cs,aZ (dy am (bZ (cZ T D) 9) T) p.1=some p.2)/\ ju cs=ke am (bZ (cZ T D) 9):=by
 have C:=j.length_eq;cases a7 with
 |nil=>rw[(age ac C).elim]
 |cons o rest=>
 have c:∀r∈o::rest,r∈a6:=λr U=>j.mem_iff.mp U;have E:=λr U=>J r<|c r U;have a8:=λr U=>dV r<|c r U;rw[fW (jY (a8 o<|.head _).1) λk m bl=>?_];have bb:o++lX rest=k::(m++lX rest):=by rw[bl,];rfl
 have P:=agg ac C<|aok (am:=am) (k:=0) (jl:=[]) E;rw[Jr k (m++lX rest) (bb▸aol am a8 P) ?_ (aon<|E o<|.head _) (bT P<|ζ) #[o,rest,?_]]
 .have c3:=arx λr U=>E r<|.tail _ U
  have M:=(E o<|.head _).1;rw[bl]at M;rw[cv▸alt M c3 (agf ac C)]
 rw[<-bb,aom a8];have F:(cZ T D).map (·.1)=T.map bR:=asp h;have bt:(cZ T D).length=9:=(aU (·.1)).symm.trans<|(congrArg gT F).trans<|(aU _).trans h.len;have H:=F▸aqv (F▸mD h) (U8 h W) bt;have O:gI ((o::rest).foldl gK []) (eS<|cZ T D) (T.map bR):=(ZX (o::rest)).perm ((j.flatMap_right kJ).trans c5) λx=>(j.flatMap_right mS).mem_iff.trans<|db x
 have bs:bZ (cZ T D) 9=(T.map bR).map λk=>(k,sN (cZ T D) 9 k):=by have U:=aou 0 (l:=bZ (cZ T D) 9) (by simp only[lV,F];rw[mD h]);simp only[lV,F]at U;rw[U]
 have Q:=(j.flatMap_right mh).trans (by rw[da,]);have ca:(((o::rest).flatMap mh).map (·.1)).Perm (T.map bR):=by have:=Q.map (·.1);rwa[bI]at this
 have ck:=ca.nodup_iff.mpr<|mD h;have c4:=US h X (λq u=>mN ck<|Q.mem_iff.mpr<|bw u) (λq u Y du=>XY h W u du) H;have ch:=ca.length_eq;simp only[aU,aU,h.len]at ch;have A:=agi bt<|XX<|aff h W;have b0:=((FZ O.d<|mD h).mpr O.n).length_eq.trans<|(aU _).trans h.len;refine ct (QH H O) λc1 c2=>cp (apZ H O c4 (n:=9) (rd:=[]) rfl c1 c2 #[λ_ _ U=>absurd U<|qB _,(λ_ U=>(cQ U).elim),.nil] (uI.mpr λx _ U=>by simp at U).symm) λcs rd dd S ds=>?_;have L:=(kj h)▸B.f;rw[aJ (afb h W H) λz d0 d1=>fW (Z0 H O d0 d1) λI R bo=>aa8 ((T.map bR).any λx=>decide<|¬sN (cZ T D) 9 x<9) cs rd rfl ⟨⟨λq u=>dx q<|c q u,agl ac C,300,ζ,(b0▸(aU ..).symm:((o::rest).foldl gK []).length=9)▸ζ,ZZ H O A b0,Z1 H O A,(o::rest).flatMap mh,Uy (o::rest),ck,agm ch,I,R,bo,bo▸dd,λy R e=>?_,λe=>?_⟩⟩ (aml.trans (by rw[bs,];rw[congrArg (λl=>decide<|mx l<9) (bI (f:=λk=>(k,sN (cZ T D) 9 k)) (g:=λx:!N×N=>x.2) (l:=T.map bR)).symm])) (λls dt s=>ds ls dt λK l e=>?_) S.d (Bm h) (XP h S) (XM h S)<|XQ h S L]
 .rw[Bk h S L]at e
  split at e
  .injection e with e
   have c0:y∈gM am 0 5:=e▸.head _;rw[en (Bn ζ ζ y c0) λd2 i ea=>#[d2,i.1,i.2,λZ d=>?_,?_]]
   .rw[aJ (bn.mp<|c0) λa _ d3=>?_]
    subst d3;rw[yd (HH (w:=5) (bq _<|ζ) Z d)]
   .injection e with _ G
    rw[kh _ _ G.symm]
  .rw[nn e]
 .rw[Bk h S L]at e
  split at e
  .injection e with e;cases e
  .rw[nn e]
 .have U:=s K l e
  rw[nC,];rw[#[U.1.trans ?_,U.2]];rw[bs,List.filter_map,bI];show(((T.map bR).filter λx=>decide<|sN (cZ T D) 9 x=K).map id).Perm _;rw[sf,]
def ae6(X:3<=am.length)(i:am.length<=100)(b:T=gQ am 9 0 [(0,5)])(a:D=oh am T):qp am T D:=by have h:=b▸arC am;have W:kH T D:=a▸Yz h am;have B:=arF h W;have w:=Yy h W;have Y:((am.take 3).map fx).length=3:=(aU _).trans<|sb.trans<|sy X;rw[#[X,i,b,a,h.len,B,w,ae5 X h W B (anW am _) (apM h) (PS X B.ok w) (apL h Y W) (apO h Y asn W) (apK h Y W) (apN h Y W)<|apJ h Y W]]
end
section
open PySem PySem.W PySem.W.X PySem.Calls PyProof.Rows
def abm:∀{ns:!Int} {vs as},ReadsAllW R G h vs (ofPys<|ns.map Gw) as->∃l:!(Int×N),vs=l.map zV:=by
 intro J;induction J with
 |nil=>intro vs as r;cases r;rw[#[[],rfl]]
 |cons n ns C=>
  intro vs as r;cases r with
  |cons b t=>
   obtain⟨l,rfl⟩:=C t;cases b with
   |int i D=>rw[#[(n,D)::l,rfl]]
def anQ:∀{xs},(∀d∈xs,WShape.has R d .int=true)->∃ns:!Int,xs=ofPys (ns.map Gw):=by
 intro J;induction J with
 |nil=>intro _;rw[#[[],rfl]]
 |cons d xs C=>intro U;obtain⟨i,rfl⟩:=hasW_int<|U d<|.head _;obtain⟨ns,rfl⟩:=C λd t=>U d<|.tail _ t;rw[#[i::ns,rfl]]
def ae7{w:eJ}{s₀ s:aN}(B:∀a o,T w.params a=some o->s.heap.get? a=some o)(c:∃o,s.heap.get? 1=some o)(j:s.heap.NoLimit){a ns:N}{l:!(Int×N)}(d:s.heap.get? a=some (aa #[l.map zV] ns))(i:l.length<=9000):ej (aE pw w) callerA (PySem.call (.ref 913) [.ref a]) (λv P=>v=.bool true/\(∀b o,s.heap.get? b=some o->P.heap.get? b=some o)/\P.os=s.os/\P.gens=s.gens) (λG G=>False) s:=by
 have H:bg #[w,w.params.followText "special-get-raises",w.params.followText "comprehension-iter-twice",w.params.followText "set-order"] (λa o=>s.heap.get? a=some o) [] s s:=#[#[B,λU J=>j.keeps J],#[aV,(λG U=>nomatch U),.nil,(λG U=>nomatch U),rfl,rfl,#[rfl,rfl,rfl],(λG U=>(cQ U).elim),#[(λG U=>nomatch U),(λG U=>(cQ U).elim),.nil,(λG U=>nomatch U)]]]
 have z:=(arq d i c<|ae6 (am:=(l.take 9).map (λp=>m9 p.1)++[986906,112359,958717]) (by rw[cv,];show 3<=_+3;rw[aj_]) (by rw[cv,];show _+3<=100;rw[aka (by rw[aU,sb];lia)]) rfl rfl) [] s s callerA #[ζ,rfl,ζ,λl U=>by cases U;rfl]<|H;have e:(Wd.W #[w,w.params.followText "special-get-raises",w.params.followText "comprehension-iter-twice",w.params.followText "set-order"])=w:=(TQ w);rw[e]at z;rw[wpAny_call<|jE z λr P y=>cp y λf h le W q=>?_];subst q;rw[#[rfl,λb o U=>W.rep.fr _ _<|le _ _ U,W.rep.rest.2.2,W.rep.rest.1]]
end
section
open PySem PySem.W PySem.W.X PySem.Calls PyProof.Rows
def ae_(h:lP.row.toRowW.pre.holds lP.row.toRowW.records {args:=[.list xs]}=true):xs.length<=63:=by
 have a:decide (63<(xs.length:Int))=false:=by
  cases e:decide (63<(xs.length:Int))with
  |false=>rfl
  |true=>
   have X:(WTm.not<|.lt (.lit<|.int 63)<|.len<|.arg 0).value lP.row.toRowW.records {args:=[.list xs]}=some (.bool<|(not (decide ((63:Int)<(xs.length:Int))))):=by wtm_val
   have:=condW_of ((holds_andW h).1) X;rw[e]at this;rw[oL this]
 rw[m8.mp<|uG.mp<|of_decide_eq_false a]
def ae4{h:iz}(n:h.Ns vz D)(g:∀a o,T P a=some o->h.get? a=some o):D Cy=some (.ref 913):=by
 rw[xA n λo k l y t U H=>?_];have:=dZ<|y.symm.trans<|g 3 (o3 P) rfl;subst this;have e:nsFind k Cy=some (.ref 913):=by cases t;lk
 rw[<-H,e]
def UO:WalkX qv tX (λ_ _=>True) vK zc lP.row.toRowW dL [] λf vs=>PySem.call f vs:=by
 intro T bs bt R c5 O y a Y h E ch ca c4 c2 c0 ck g bb C n db J m bo c1 p c3 D;rw[ct (anP y) λS L=>?_];have B:=λa Y e=>m.keeps _ _<|S a Y e;rw[dq L λP ac=>?_];have o:=Value.ref.inj<|dZ<|(ae4 O.T.g B).symm.trans bb;subst o;rw[ct (pre_splitW bo) λF I=>cp (hasAllW_cons F) λd r b0 a6 A=>?_];subst b0;obtain rfl:=hasAllW_nil A;rw[aJ (hasW_list a6) λQ H W=>?_];subst H;rw[dq (anQ<|hasItemsW_at W) λK H=>?_];subst H;cases p with
 |@cons v d vs w J s b t=>
 cases t;rw[xA (readsW_list_inv b) λq vs Z j a8 G M=>?_];subst j;subst M;have u:=script_obj m a8;rw[dq (abm G) λl z=>?_];have k:bt.heap.get? q=some (aa #[l.map zV] 0):=by rw[u▸z▸?_];rfl
 have i:l.length<=9000:=by
  have:(ofPys<|K.map Gw).length=l.length:=by have e:=G.length;rw[z,aU]at e;rw[e.symm]
  rw[ag3 (ae_ I) this]
 rw[ux (ae7 (s₀:=bs) B #[P,m.keeps _ _ ac] O.T.nolimit k i) (λv da #[X,c,bl,a7]=>?_) λ_ _ x=>x.elim];subst X;rw[#[.inl<|Jt _ (.bool true) [] rfl (λ_=>rfl) (.bool true) (postW_of rfl (by wtm_val) rfl) λ_=>#[.nil,(λ_ U=>(cQ U).elim)],.of_keep c,bl,.of_eq<|a7.trans C]]
end
end Mine
end
theorem PySem.Challenge.cw_oc0358_01_holds : PySem.Challenge.rw_oc0358_01.Holds :=
 holds_law Mine.aso λa=>holds_openX
  Mine.afe (λU U=>trivial) (λU U U U U=>trivial) Mine.Z9 Mine.aab Mine.Z_ (λU U=>recFacts_nil rfl) rfl a Mine.aaa Mine.Z8 #[[.list [.int 3,.int 1]],by decide+kernel,by decide+kernel] Mine.UO

