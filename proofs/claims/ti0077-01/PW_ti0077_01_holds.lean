import PyProof.Rows.All
import Wide.All
import OpenK.AllK
import Wide.FinOn
import Lean
import PySem.Challenge.RW_ti0077_01
set_option linter.defProp false
open Option renaming some->aa,none->ac,map_eq_some_iff->ar,bind_eq_some_iff->aG,bind_some->bK,isSome_iff_exists->jk,getD_some->zv,map_some->An,isSome_none->Mg
open Nat renaming le_refl->ab,le_trans->aA,lt_of_lt_of_le->a8,le_add_right->bh,lt_of_le_of_lt->bI,add_sub_cancel_left->bO,le_antisymm->bR,lt_or_ge->bS,le_of_lt->ce,zero_le->cI,ne_of_lt->cU,sub_self->dc,not_lt_of_le->dE,add_le_add_left->dX,lt_succ_self->ez,lt_trichotomy->eH,lt_succ_of_lt->eI,le_of_eq->fg,not_lt->fD,mod_lt->fP,le_of_lt_succ->fR,add_le_add->gb,sub->gm,le_add_left->gn,lt_succ_of_le->gJ,add->ir,not_lt_zero->iy,min_eq_left->iz,lt_trans->iM,add_assoc->iP,le_of_not_lt->iT,le_succ_of_le->jn,sub_le->jU,ne_of_gt->jV,min_le_left->j4,sub_le_iff_le_add->ko,lt_irrefl->lU,le_succ->mv,le_of_succ_le_succ->mS,add_sub_of_le->mT,mul->og,exists_eq_succ_of_ne_zero->oS,mul_le_mul_left->pO,add_lt_add_left->pP,add_left_cancel->pQ,zero_add->qj,sub_add_cancel->qL,lt_of_le_of_ne->qM,ble->ry,beq->rz,lt_of_succ_lt_succ->ue,add_comm->uf,sub_ne_zero_of_lt->u9,sub_eq_zero_of_le->vd,le_sub_one_of_lt->wb,add_le_add_right->wc,sub_sub_eq_min->yF,lt_or_eq_of_le->yG,eq_zero_or_pos->yH,ble_eq->yI,add_right_comm->yJ,lt_asymm->zL,le_total->zM,succ_le_succ->Cb,sub_sub_self->Cc,not_le_of_lt->Cd,min_le_right->Ce,lt_of_not_le->Cf,two_mul->Co,one_mul->Cp,succ->FO,beq_eq->FP,sub_eq_zero_iff_le->Km,rec->Kn,mod->Ko,min_comm->Kq,lt_add_of_pos_left->Kr,le_div_iff_mul_le->Mh,sub_le_sub_right->N5,sub_le_of_le_add->N6,one_pos->N7,not_succ_le_zero->N8,le_zero->N9,div_lt_of_lt_mul->Oa,div_le_of_le_mul->Ob,add_mul->Oc,add_lt_add_right->Od,sub_lt->SM,pos_of_ne_zero->SN,zero_lt_of_lt->Tf,sub_pos_of_lt->Tg,pow->Th,le_of_succ_le->Ti,min_eq_right->VH
open Option.some renaming inj->ag,injEq->u7
open PySem.Str renaming ofString->ah
open List renaming length_append->aj,getElem?_eq_getElem->aq,length_map->aw,mem_cons_self->ay,length_cons->az,mem_singleton->aC,getElem?_append_right->aE,mem_cons->aH,mem_cons_of_mem->aK,mem_map->aQ,getElem?_append_left->aW,mem_filter->aY,length_singleton->be,length_set->bi,filter_cons->bl,mem_of_getElem?->bo,append_nil->bu,map_cons->bw,getElem?_eq_none->bC,map_map->bD,getElem?_set_ne->bE,append_assoc->bF,map_append->bH,flatMap_cons->bJ,filter_eq_self->bL,getElem?_map->bN,replicate->bQ,filter_append->bT,getElem?_set_self->bU,mem_append->cb,map_congr_left->cj,length_take->cF,range->cK,filter_eq_nil_iff->cL,lookup_cons->di,flatten_append->dz,filter_map->dF,mem_range->dM,mem_append_right->dS,pairwise_cons->ef,filter_cons_of_pos->eo,filter_cons_of_neg->eu,getElem?_eq_some_iff->eO,take_of_length_le->eP,length->eX,length_filter_le->eY,mem_append_left->fu,nodup_cons->fE,length_drop->fH,all_eq_true->fI,flatten_cons->fQ,nil_append->gf,not_mem_nil->gy,map_flatMap->gz,lookup->gP,drop_eq_getElem_cons->gU,pairwise_append->ib,getElem?_cons_succ->il,filter_congr->io,flatMap_append->iD,mem_flatMap->iQ,flatMap_map->iR,cons_prefix_cons->i4,foldl_cons->jh,set_append_right->j5,set_append_left->kH,perm_ext_iff_of_nodup->kJ,nodup_nil->kK,map_fst_zip->la,filter_flatMap->ly,getElem?_take_of_lt->lL,filterMap_cons_some->lM,filterMap_cons_none->lO,range_succ->lV,length_nil->lW,take_append_drop->nE,length_replicate->nF,mem_flatten->nG,map_snd_zip->nH,eq_nil_iff_forall_not_mem->nI,filter_nil->o8,length_flatMap->pJ,zip_cons_cons->qy,getD_eq_getElem?_getD->qz,forIn_nil->qA,drop_drop->qB,length_range->rq,ext_getElem?->rr,lookup_eq_none_iff->sC,length_eq_zero_iff->sD,flatMap_nil->sE,cons_append->sF,map_id'->sQ,drop_of_length_le->sR,drop_eq_nil_of_le->sS,forIn_cons->ug,range_eq_range'->vA,replicate_succ->wl,getElem_of_mem->wm,mem_filterMap->xY,map_nil->zw,sublist_nil->Ao,getElem_mem->Ap,getElem_inj->Aq,any_eq_true->Ar,of_mem_zip->Cq,length_eraseIdx_of_lt->D4,drop_zero->D5,extract_eq_take_drop->FQ,eq_of_mem_replicate->F5,pairwise_of_forall->Ij,getElem?_replicate->Ik,all_eq_not_any_not->Il,extract_toArray->Mi,mem_map_of_mem->Oe,map_eq_nil_iff->Of,map_eq_flatMap->Og,zip_map_right->OA,set_cons_zero->OB,set_cons_succ->OC,prefix_append->OD,lookup_append->OE,getElem?_drop->OF,findIdx?_cons->OG,size_toArray->SO,reverse_cons->SP,nodup_append->SQ,range'_succ->Tj,nodup_range->Tn,isEmpty_iff->To,drop_left->Xr
open PySem renaming wpAny_bind->am,wpAny_pure->aR,Shared->bb,wpAny_Call_Name_kw->cn,Around->cS,wpAny_standAt->cV,wpAny_execs_cons->da,wpAny_holding->dH,Comprehension->dI,builtinLookup_eq_fast->eA,wpAny_Call_method_lateS->eK,DictEntry->eL,codeAny_of_tree->fb,callWith_function_kw->fJ,wpAny_mono->fZ,wpAny_truthy_bool->gc,seg_execs_nil->gR,seg_execs_cons->gT,typeLookup_type->g5,wpAny_newObj_type->iH,wpAny_evalAll_nil->iI,Heap->iS,wpAny_of_eq->i5,wpAny_execs_nil->jz,wpAny_noted->jB,World->jC,wpAny_Constant_str->kj,wpAny_onRaise->kE,wpAny_Assign_Name->kZ,evalArgs_kw->lD,Env->lY,Operator->mx,wpAny_with_toks->mE,wpAny_is_plain->nS,assign->pG,wpAny_loadName_local->qf,NameKind->qh,wpAny_isTrue_value->se,wpAny_bindName->sf,typeIs_str->si,wpAny_Tuple->sN,wpAny_list_append_plain->uX,wpAny_call_entry->uY,wpAny_callSpecial?_slot->uZ,TriplesOk->u5,wpAny_call->v8,codeAny_mono->v9,CmpOp->wj,wpAny_storeName_local->xQ,wpAny_isTrue_Compare1->xR,wpAny_newFunctionEnv->yA,wpAny_Expr_any->yB,seg_wrap->yC,isSubtype_type->yD,wpAny_Constant_bool->zI,Sem->zK,codeAny_block->Al,wpAny_pyIter_tuple->B4,wpAny_assign_Tuple->B5,wpAny_Name->B6,Flow->B8,wpAny_isNot_plain->CS,slot_list_getitem->CT,Tok->CU,StrKeys->CW,Seg->FI,JoinOk->FJ,wpAny_field->FZ,wpAny_alloc->F0,wpAny_BinOp->F1,boolOp->Ig,wpAny_rule->Ki,wpAny_load->Kj,wpAny_layCells->Kk,call_meets->Kl,wpAny_For->Ox,codeAny_call_function->Ta,wpAny_IfExp->VA,seqIndex_of->VB,UniqKeys->VC,GenState->VF
open PySem.Heap renaming get?_push_of_some->aJ,get?_push_size->aV,lt_size->bW,size_push->eU,SameBut->gH,ExtBut->rp,get?_update_self->uP
open Array renaming length_toList->bx,getElem?_toList->fS,getElem?_eq_some_iff->iU,toList_append->lu,getElem?_eq_none->my,getElem?_eq_getElem->qO,toList_inj->sm,mem_toList_iff->ve,all_eq_true_iff_forall_mem->yM,getElem?_push_size->FV,getElem?_push_lt->Im,mem_of_getElem?->Iz,mem_def->Xw
open Prod.mk renaming inj->bB,injEq->Te
open Bool renaming false_ne_true->bG,and_eq_true->dj,eq_iff_iff->dr,and_eq_true_iff->dD,noConfusion->eV,false_eq_true->fw,not_eq_true'->jl,eq_false_iff->kq,rec->sG,or_eq_false_iff->vB
open PySem.Calls renaming spliced_cons->bX,callWith_builtin->cX,spliced_nil->eB,Name_function_global->qi,loadGlobal_builtin->FK
open PySem.Challenge renaming rw_ti0077_01->cu,pw_ti0077_01->pH
open PySem.Builtin.Str renaming tooLong->cw,occurrences->jg,strSliceIndices->nD,strSub->nT
open PySem.Around renaming under_of_weight->cy
open Int renaming ofNat_lt->cM,natCast_nonneg->dO,le_trans->ec,ofNat_le->fK,lt_trans->jo,toNat_sub->lX,toNat->nU,not_lt->nV,natCast_add->pK,lt_of_le_of_lt->qN,toNat_natCast->rA,add_sub_assoc->rD,ofNat_sub->sk,add_comm->uh,le_antisymm->uQ,le_refl->we,toNat_of_nonneg->xU,sub_eq_add_neg->yK,add_sub_cancel->yL,mul_le_mul_of_nonneg_right->Cg,neg_sub->Cr,fdiv_eq_ediv_of_nonneg->FS,add_le_add->FU,toNat_of_nonpos->OI,sub_add_cancel->SR,not_le->SU,lt_of_lt_of_le->SV,min_eq_right->VI,max_eq_right->VJ,le_max_right->VK,min_eq_left->Xs,max_eq_left->Xu,le_max_left->Xv
open PySem.Txt renaming lower->cO,contains->eS,replace->iO,slice->lm,upper->sL,join->zJ
open Nat.Internal.Linear renaming Context->dh,Expr->el
open PySem.Float64 renaming cmp->dK,nearestOf->ia,isFinite->jw,decode->km,ofBin->lq,zero->mr,isInf->ng,shift->qK,fmod->sj,ofFrac->uc,align->vw,pack->xT,sgn->zr,div->zt,isZero->B9,ofInt->CX,mul->Ih,add->Ii,roundMag->N4,divmod->SK,isNaN->Tb,sub->Xp,neg->Xq
open PyProof.Rows renaming callWith_type->ed,tail_any->lT,AllBare->mu,Subscript_->pN,IntsAre->rx,Assign_Tuple_swapped->ud,unpackItems_tuple->vz,floordiv_int->yE,assign_Name->zu,UnaryOp_->Ca,neg_int->Cn,eq_str->CZ
open PySem.Value renaming ref->eM,none->qg,isStrOf_shape->wa,type->N3
open List.Nodup renaming length_le_of_subset->fq
open Exists renaming intro->fX
open PySem.Builtin.Re renaming reTurnSteps->gw,reRawOf->iC,reTarget->sP,reRunToEnd->CY,reAnswer->FL,reDrive->F4
open List.Pairwise renaming imp_of_mem->gK,nil->gW,map->gX
open PySem.Builtin.List renaming listFitsIndex->iq
open PySem.Sem renaming bind_eq_wrap'->jm,wrap_wrap->lS,bind_eq_wrap->VE
open List.cons renaming inj->jJ
open PySem.NameKind renaming cell->k9,free->SJ
open Nat.succ renaming inj->lZ
open PySem.Heap.SameBut renaming update->mR
open Ordering renaming lt->nh,eq->VG
open PySem.Builtin.Range renaming rangeSize->pI,small->Cm
open Classical renaming byContradiction->pL
open Int.ofNat renaming inj->qk
open PySem.Flt renaming toInt->qx
open PySem.Heap.NoLimit renaming keeps->sO
open PySem.SeqAt.EqAt renaming of_refs->uO,same->xX,str_str->F3
open PySem.Walks renaming tuple->u0
open PySem.Builtin.SmallTypes renaming nextOf->u6
open PySem.Builtin.Generator renaming genWake->vy
open PySem.SeqAt renaming EqAt->xS
open PySem.SeqAt.RcAt renaming lists_lengths->Am,lists->Iw
open PySem.StrLaws renaming At->B7,partsFrom->Me
open Nat.Internal.Linear.ExprCnstr renaming mk->C0,eq_false_of_isUnsat->C1
open PyProof renaming noPylong_small->FN
open List.Sublist renaming refl->FR
open PySem.W renaming hideAll_get->F2,kla_fn->SI
open PySem.PyData renaming list->Iy,int->Mf
open Function renaming comp_def->Ks
open ForInStep renaming yield->Mj
open List.Perm renaming cons->Oh
open PySem.Manifest renaming find?->Oy
open PyProof.Rows.AllBare renaming push->Oz
open LawfulBEq renaming eq_of_beq->OH
open PySem.ExcName renaming means->Tc
open PySem.BindsTo renaming of_eq->Td
open PySem.Shared renaming setGen->VD
open And renaming intro->VL
open PySem.Frame renaming guarded->Xo
open PySem PySem.W PySem.W.X
set_option autoImplicit true
set_option maxRecDepth 100000
set_option genSizeOf false
set_option genSizeOfSpec false
set_option genInjectivity false
set_option bootstrap.genMatcherCode false
set_option linter.unusedVariables false
noncomputable section
namespace Mine
abbrev NN:=Nat->Nat
abbrev VS:=Value->bb->Prop
abbrev LN:=List (List Nat)
abbrev SS:=List (Str×Str)
abbrev Vs:=List Value
abbrev Nz:=List Nat
abbrev Sn:=List (Str×Nat)
noncomputable def iN (b:Bool) (x y:Nat):Nat:= @sG (λ_=>Nat) y x b
def yN {b:Bool} {p:Prop} [Decidable p] (h:(b=true)=p) {x y:Nat}:iN b x y=if p then x else y:=by
 subst h;cases b
 ·exact(if_neg bG).symm
 ·exact(if_pos rfl).symm
noncomputable def Xx (s l q:Nat):Nat:=iN (ry (Th (nat_lit 2) (ir l s)) q) (ir l s) l
noncomputable def lgT (q l:Nat):Nat:=Xx (nat_lit 1) (Xx (nat_lit 2) (Xx (nat_lit 4) (Xx (nat_lit 8) (Xx (nat_lit 16) (Xx (nat_lit 32) (Xx (nat_lit 64) l q) q) q) q) q) q) q
noncomputable def lgY (q l o:Nat):Nat:=iN (ry (Th (nat_lit 2) l) q) (iN (ry (FO q) (Th (nat_lit 2) (FO l))) l o) o
noncomputable def lgC (q:Nat):Nat:=lgY q (lgT q (nat_lit 0)) (Nat.log2 q)
noncomputable def lgG (q l:Nat):Nat:=lgY q l (lgY q (FO l) (lgC q))
def IB (q l o:Nat) (ho:o=q.log2):lgY q l o=q.log2:=by
 show iN (ry (2 ^ l) q) (iN (ry (q+1) (2 ^ (l+1))) l o) o=_;rw[yN (p:=2 ^ l<=q) yI,yN (p:=q<2 ^ (l+1)) yI];by_cases h:2 ^ l<=q
 ·rw[if_pos h];by_cases k:q<2 ^ (l+1)
  ·rw[if_pos k];exact((Nat.log2_eq_iff λe=>absurd (e▸h) (Nat.not_le_of_gt (Nat.pow_pos (by decide)))).mpr ⟨h,k⟩).symm
  ·rw[if_neg k,ho]
 ·rw[if_neg h,ho]
def Xy (q:Nat):lgC q=q.log2:=IB q (lgT q (nat_lit 0)) _ rfl
def OK (q l:Nat):lgG q l=q.log2:=IB _ _ _ (IB _ _ _ (Xy q))
noncomputable def heS (q r b:Nat):Nat:=iN (ry r b) (iN (rz r b) (ir q (Ko q (nat_lit 2))) q) (FO q)
noncomputable def heN (a b:Nat):Nat:=heS (Nat.div a b) (og (nat_lit 2) (Ko a b)) b
def Xz (a b:Nat):Float64.halfEven a b=heN a b:=by
 show(if (decide (2*(a%b)>b)||(2*(a%b)==b&&a/b%2==1))=true then a/b+1 else a/b)=heS (a/b) (2*(a%b)) b;generalize a/b=q;generalize 2*(a%b)=r;unfold heS;rw[yN (p:=r<=b) yI,yN (p:=r=b) FP];by_cases h:r<=b
 ·rw[if_pos h,decide_eq_false (fD.mpr h),Bool.false_or];by_cases k:r=b
  ·rw[if_pos k,beq_iff_eq.mpr k,Bool.true_and];show _=q+q%2;rcases Nat.mod_two_eq_zero_or_one q with e|e<;>(rw[e];rfl)
  ·rw[if_neg k,beq_false_of_ne k];rfl
 ·rw[if_neg h,decide_eq_true (Nat.not_le.mp h)];rfl
def aaC (n d:Nat) (k:Int):qK n d k=(n*2 ^ k.toNat,d*2 ^ (-k).toNat):=by
 unfold qK;by_cases h:k>=0
 ·rw[if_pos h,OI (Int.neg_nonpos_of_nonneg h),Nat.pow_zero,Nat.mul_one]
 ·rw[if_neg h,OI (Int.le_of_lt (SU.mp h)),Nat.pow_zero,Nat.mul_one]
noncomputable def tw (n:Nat):Nat:=Th (nat_lit 2) n
noncomputable def rmF (n d E:Nat):Nat:=ir (og E (nat_lit 4503599627370496)) (heN (og n (tw (gm (nat_lit 1074) E))) (og d (tw (gm E (nat_lit 1074)))))
noncomputable def mnI (x:Nat):Nat:=iN (ry x (nat_lit 9218868437227405312)) x (nat_lit 9218868437227405312)
noncomputable def rmE (n d k j:Nat):Nat:=gm (iN (ry (og d (tw (gm k j))) (og n (tw (gm j k)))) (ir k (nat_lit 1022)) (ir k (nat_lit 1021))) j
noncomputable def rmN (n d g h:Nat):Nat:=iN (rz n (nat_lit 0)) (nat_lit 0) (mnI (rmF n d (rmE n d (lgG n g) (lgG d h))))
def sh2 (n d t c:Nat):qK n d ((t:Int)- c)=(n*2 ^ (t- c),d*2 ^ (c- t)):=by rw[aaC,lX,Cr,lX]
def VM (k j a c:Nat) (h:(a:Int)- 1074= -c):max ((k:Int)- j- c) (-1074)=((gm (ir k a) j:Nat):Int)- 1074:=by show _=((k+a- j:Nat):Int)- 1074;rw[<- lX,Int.toNat_eq_max,<- Int.sub_max_sub_right,pK,yK (a:=(k:Int)+a),Int.add_right_comm,rD,h];rfl
def aaD (n d g h:Nat):N4 n d=rmN n d g h:=by
 unfold N4 rmN rmE;by_cases h:n=0
 ·subst h;rfl
 ·rw[beq_false_of_ne h,if_neg bG,yN (p:=n=0) FP,if_neg h,OK,OK];generalize n.log2=k;generalize d.log2=j;dsimp only;rw[Cr,sh2];dsimp only;rw[yN (b:=ry (og d (tw (gm k j))) (og n (tw (gm j k)))) (p:=n*2 ^ (j- k) >=d*2 ^ (k- j)) yI];generalize hE:gm (if n*2 ^ (j- k) >=d*2 ^ (k- j) then ir k (nat_lit 1022) else ir k (nat_lit 1021)) j=E;have he:max (if n*2 ^ (j- k) >=d*2 ^ (k- j) then((k:Int)- j)- 52 else((k:Int)- j)- 53) (-1074)=(E:Int)- 1074:=by
   subst hE;by_cases h:n*2 ^ (j- k) >=d*2 ^ (k- j)
   ·rw[if_pos h,if_pos h];exact VM k j 1022 52 rfl
   ·rw[if_neg h,if_neg h];exact VM k j 1021 53 rfl
  rw[he,SR,Cr];unfold mnI;rw[yN yI];have hs:=sh2 n d 1074 E;rw[show(1074:Int)=((1074:Nat):Int) from rfl,hs];dsimp only;rw[Xz,Kq];exact Nat.min_def
noncomputable def zN (g h:Nat) (s:Bool) (n d:Nat):UInt64:=xT s (rmN n d g h)
def vC (g h:Nat):uc=zN g h:=funext λs=>funext λn=>funext λd=>by unfold uc zN;rw[aaD n d g h]
noncomputable def D7:Bool->Nat->Nat->UInt64:=zN (nat_lit 2) (nat_lit 3)
def C2:uc=D7:=vC _ _
noncomputable def rbN (g m t:Nat):Nat:=rmN (og m (tw (gm t (nat_lit 2148)))) (tw (gm (nat_lit 2148) t)) (ir g (gm t (nat_lit 2148))) (gm (nat_lit 2148) t)
def As (g:Nat) (s:Bool) (m t:Nat):lq s m ((t:Int)- 2148)=xT s (rbN g m t):=by unfold lq;rw[show(2148:Int)=((2148:Nat):Int) from rfl,sh2,vC (ir g (gm t (nat_lit 2148))) (gm (nat_lit 2148) t),Cp];rfl
def bq (a b:Nat):(a==b)=rz a b:=by rw[dr,beq_iff_eq,FP]
noncomputable def Tp (x:Nat):Nat:=Ko (Nat.div x (nat_lit 4503599627370496)) (nat_lit 2048)
noncomputable def frN (x:Nat):Nat:=Ko x (nat_lit 4503599627370496)
noncomputable def OL (x:Nat):Bool:=rz (Nat.div x (nat_lit 9223372036854775808)) (nat_lit 1)
noncomputable def Tq (x:Nat):Nat:=iN (rz (Tp x) (nat_lit 0)) (frN x) (ir (nat_lit 4503599627370496) (frN x))
noncomputable def D8 (x:Nat):Nat:=gm (Tp x) (nat_lit 1)
def OM {x:UInt64} (h:rz (Tp x.toNat) (nat_lit 2047)=false):km x= .fin (OL x.toNat) (Tq x.toNat) ((D8 x.toNat:Int)- 1074):=by
 have h:Tp x.toNat≠2047:=λe=>by rw[e]at h;exact nomatch h
 unfold Tq D8 km;have hE:x.toNat/2 ^ 52%2048=Tp x.toNat:=rfl;have hF:x.toNat%2 ^ 52=frN x.toNat:=rfl;have hS:(x.toNat/2 ^ 63==1)=OL x.toNat:=bq _ _;rw[hE,hF,hS];dsimp only;rw[beq_false_of_ne h,if_neg bG,yN (p:=Tp x.toNat=0) FP];by_cases k:Tp x.toNat=0
 ·rw[k];rfl
 ·rw[beq_false_of_ne k,if_neg bG,if_neg k];obtain(⟨e,he⟩):=oS k;rw[he];exact congrArg (Float64.Num.fin _ _) (rD e 1 1075)
noncomputable def iF (b:Bool) (x y:UInt64):UInt64:= @sG (λ_=>UInt64) y x b
def Au {b:Bool} {x y z:UInt64} (h1:b=true->x=z) (h2:b=false->y=z):iF b x y=z:=by
 cases b
 ·exact h2 rfl
 ·exact h1 rfl
noncomputable def fast (f:Nat->Nat->UInt64) (g:UInt64->UInt64->UInt64) (x y:UInt64):UInt64:=iF (rz (Tp x.toNat) (nat_lit 2047)) (g x y) (iF (rz (Tp y.toNat) (nat_lit 2047)) (g x y) (f x.toNat y.toNat))
def zO {f:Nat->Nat->UInt64} {g:UInt64->UInt64->UInt64} {x y:UInt64} (h:∀a m E b k F,km x= .fin a m ((E:Nat)- 1074)->km y= .fin b k ((F:Nat)- 1074)->a=OL x.toNat->m=Tq x.toNat->E=D8 x.toNat->b=OL y.toNat->k=Tq y.toNat->F=D8 y.toNat->f x.toNat y.toNat=g x y):fast f g x y=g x y:=
 Au (λ_=>rfl) λh1=>Au (λ_=>rfl) λh2=>h _ _ _ _ _ _ (OM h1) (OM h2) rfl rfl rfl rfl rfl rfl
noncomputable def xoB (a b:Bool):Bool:= @sG (λ_=>Bool) b (@sG (λ_=>Bool) true false b) a
def IC (a b:Bool):(a !=b)=xoB a b:=by cases a<;>cases b<;>rfl
noncomputable def aaE (x y:Nat):UInt64:=xT (xoB (OL x) (OL y)) (rbN (nat_lit 104) (og (Tq x) (Tq y)) (ir (D8 x) (D8 y)))
noncomputable def XA (x y:UInt64):UInt64:=fast aaE Ih x y
def Kv (x y:UInt64):XA x y=Ih x y:=zO λa m E b k F h1 h2 ea em eE eb ek eF=>by unfold Ih aaE;rw[h1,h2,<- ea,<- em,<- eE,<- eb,<- ek,<- eF,<- IC];show _=lq (a !=b) (m*k) _;rw[show(E:Int)- 1074+(F- 1074)=((E+F:Nat):Int)- 2148 by rw[yK,yK,Int.add_assoc,Int.add_left_comm (-1074),<- Int.add_assoc];rfl,As 104];rfl
noncomputable def Ts (x y:Nat):Nat:=og (Tq x) (tw (gm (D8 x) (D8 y)))
noncomputable def mgN (x y:Nat):Nat:=ir (gm (D8 x) (gm (D8 x) (D8 y))) (nat_lit 1074)
def XB (a b c:Int):a- c- (b- c)=a- b:=Int.add_sub_add_right a (-c) b
def VN (a:Bool) (m E:Nat) (b:Bool) (k F:Nat):vw a m ((E:Int)- 1074) b k ((F:Int)- 1074)=(zr a (m*2 ^ (E- F)),zr b (k*2 ^ (F- E)),((E- (E- F)+1074:Nat):Int)- 2148):=by
 have e1:E- (E- (E- F))=E- F:=Cc (jU ..);have e2:F- (E- (E- F))=F- E:=by rw[yF,Kq,<- yF,Cc (jU ..)]
 unfold vw;rw[Int.sub_min_sub_right,<- Lean.Omega.Int.ofNat_min,<- yF];generalize E- (E- F)=G at e1 e2⊢;dsimp only;rw[XB,XB,lX,lX,e1,e2,pK,rD];rfl
noncomputable def VO (g t:Nat) (s:Bool) (n:Nat):UInt64:=xT s (rbN g n t)
noncomputable def adD (g t p q:Nat):UInt64:=iF (ry q p) (VO g t false (gm p q)) (VO g t true (gm q p))
noncomputable def adM (a b:Bool) (g t p q:Nat):UInt64:= @sG (λ_=>UInt64) (@sG (λ_=>UInt64) (VO g t false (ir p q)) (adD g t p q) b) (@sG (λ_=>UInt64) (adD g t q p) (VO g t true (ir p q)) b) a
noncomputable def gsN (x y:Nat):Nat:=ir (nat_lit 52) (ir (gm (D8 x) (D8 y)) (gm (D8 y) (D8 x)))
noncomputable def aaF (x y:Nat):UInt64:=adM (OL x) (OL y) (gsN x y) (mgN x y) (Ts x y) (Ts y x)
noncomputable def Tt (x y:UInt64):UInt64:=fast aaF Ii x y
def aia {g t:Nat} {s:Bool}:mr s=VO g t s 0:=by unfold VO rbN;rw[show og 0 _=0 from Nat.zero_mul _];rfl
def Kw {g t n:Nat} {c s:Bool} {z:Int} (hz:z=zr s n) (hc:n=0->c=s):(if z==0 then mr c else lq (z<0) z.natAbs ((t:Int)- 2148))=VO g t s n:=by
 unfold zr at hz;rcases yH n with(h|h)
 ·rw[hc h,h];rw[h]at hz;rw[show z=0 by rw[hz];cases s<;>rfl];exact aia
 ·rw[if_neg (by rw[beq_iff_eq,hz];cases s<;>simp<;>exact jV h),As g,show z.natAbs=n by rw[hz];cases s<;>simp,show decide (z<0)=s by rw[hz];cases s<;>simp<;>exact h];rfl
def ON {g t p q:Nat} {z:Int} (hz:z=(p:Int)- q):(if z==0 then mr false else lq (z<0) z.natAbs ((t:Int)- 2148))=adD g t p q:=by
 refine(Au (λh=> ?_) λh=> ?_).symm
 ·exact(Kw (s:=false) (hz.trans (sk (Nat.le_of_ble_eq_true h)).symm) λ_=>rfl).symm
 ·have h:p<q:=Cf λk=>by rw[Nat.ble_eq_true_of_le k]at h;exact nomatch h
  exact(Kw (s:=true) (hz.trans (show _= -((q- p:Nat):Int) by rw[sk (ce h),Cr])) λk=>absurd k (u9 h)).symm
def D9 (x y:UInt64):Tt x y=Ii x y:=zO λa m E b k F h1 h2 ea em eE eb ek eF=>by
 unfold Ii aaF Ts mgN;rw[h1,h2,<- ea,<- em,<- eE,<- eb,<- ek,<- eF];show _=match vw a m _ b k _ with|(p,q,g)=>if p+q==0 then mr (a&&b) else lq (p+q<0) (p+q).natAbs g
 rw[VN];unfold adM tw;cases a<;>cases b
 ·exact(Kw (pK _ _).symm λ_=>rfl).symm
 ·exact(ON rfl).symm
 ·exact(ON (uh _ _)).symm
 ·exact(Kw (s:=true) (Int.neg_add.symm) λ_=>rfl).symm
noncomputable def iZ (k:Nat) (x y:UInt64):UInt64:=iF (rz k (nat_lit 0)) x y
noncomputable def aaG (x y:Nat):UInt64:=zN (ir (nat_lit 52) (gm (D8 x) (D8 y))) (ir (nat_lit 52) (gm (D8 y) (D8 x))) (xoB (OL x) (OL y)) (Ts x y) (Ts y x)
noncomputable def aaH (x y:UInt64):UInt64:=iZ (Tq y.toNat) (zt x y) (fast aaG zt x y)
def Tu (x y:UInt64):aaH x y=zt x y:=Au (λ_=>rfl) λh=>zO λa m E b k F h1 h2 ea em eE eb ek eF=>by unfold zt aaG Ts;rw[h1,h2,<- ea,<- em,<- eE,<- eb,<- ek,<- eF,<- IC];have hk:(k==0)=false:=(bq _ _).trans (ek▸h);show _=if (k==0)=true then _ else uc (a !=b) (qK m k (E- 1074- (F- 1074))).1 (qK m k (E- 1074- (F- 1074))).2;rw[hk,if_neg bG,XB,sh2,vC (ir (nat_lit 52) (gm E F)) (ir (nat_lit 52) (gm F E))];rfl
noncomputable def fmM (x y:Nat):UInt64:=VO (nat_lit 52) (mgN x y) (OL x) (Ko (Ts x y) (Ts y x))
noncomputable def F6 (x y:UInt64):UInt64:=iZ (Tq y.toNat) (sj x y) (fast fmM sj x y)
def OO (x y:UInt64):F6 x y=sj x y:=Au (λ_=>rfl) λh=>zO λa m E b k F h1 h2 ea em eE eb ek eF=>by
 unfold sj fmM Ts mgN;rw[h1,h2,<- ea,<- em,<- eE,<- ek,<- eF];have hk:(k==0)=false:=(bq _ _).trans (ek▸h);show _=if (k==0)=true then _ else match vw false m _ false k _ with|(p,q,g)=>lq a (p.toNat%q.toNat) g
 rw[hk,if_neg bG,VN];exact(As 52 ..).symm
noncomputable def XC (x y:UInt64):UInt64:=iF (B9 (F6 x y)) (Float64.copysign (mr false) y) (iF (xoB (Float64.lt y (mr false)) (Float64.lt (F6 x y) (mr false))) (Tt (F6 x y) y) (F6 x y))
def Tv (x y:UInt64):XC x y=(SK x y).2:=by
 unfold XC SK;rw[OO,D9,<- IC];generalize sj x y=m;refine Au (λh=> ?_) λh=> ?_
 ·simp only[h,if_true]
 ·refine Au (λk=> ?_) λk=> ?_<;>simp only[h,k,if_true,if_false,fw]
noncomputable def XD (x y:UInt64):UInt64:=Tt x (Xq y)
def Kx (x y:UInt64):XD x y=Xp x y:=by unfold Xp;exact D9 x (Xq y)
noncomputable def VP {α:Type} (l:List α):Nat->Option α:= @List.rec α (λ_=>Nat->Option α) (λ_=>ac) (λa _ r n=> @Kn (λ_=>Option α) (aa a) (λm _=>r m) n) l
def Av {α:Type} (l:List α) (i:Nat):VP l i=l[i]? :=by
 induction l generalizing i with
 |nil=>rfl
 |cons a l ih=>cases i with
  |zero=>rfl
  |succ i=>exact ih i
@[elab_as_elim] theorem rwt {α:Sort _} {a b:α} {B0:α->Prop} (h:a=b) (k:B0 b):B0 a:=h▸k
@[elab_as_elim] theorem rwl {α:Sort _} {a b:α} {B0:α->Prop} (h:b=a) (k:B0 b):B0 a:=h▸k
local macro_rules
  | `(tactic| rewrite [$e:term]) => `(tactic| first | refine Mine.rwt ($e ..) ?_ | fail)
  | `(tactic| rewrite [← $e:term]) => `(tactic| first | refine Mine.rwl ($e ..) ?_ | fail)
  | `(tactic| rewrite [$e, $es,*]) => `(tactic| (rewrite [$e]; rewrite [$es,*]))
local macro_rules | `(tactic| show $e:term) => `(tactic| first | refine (?_ : $e) | fail)
section
variable {G:Prop}
def xe02 {p q:Prop} (h:p/\q) (k:p->q->G):G:=k h.1 h.2
def xe03 {p q r:Prop} (h:p/\q/\r) (k:p->q->r->G):G:=xe02 h.2 (k h.1)
def xe04 {p q r s:Prop} (h:p/\q/\r/\s) (k:p->q->r->s->G):G:=xe03 h.2 (k h.1)
def xe05 {p q r s t:Prop} (h:p/\q/\r/\s/\t) (k:p->q->r->s->t->G):G:=xe04 h.2 (k h.1)
def xe06 {p q r s t u:Prop} (h:p/\q/\r/\s/\t/\u) (k:p->q->r->s->t->u->G):G:=xe05 h.2 (k h.1)
def xe07 {p q r s t u v:Prop} (h:p/\q/\r/\s/\t/\u/\v) (k:p->q->r->s->t->u->v->G):G:=xe06 h.2 (k h.1)
def xe08 {p q r s t u v w:Prop} (h:p/\q/\r/\s/\t/\u/\v/\w) (k:p->q->r->s->t->u->v->w->G):G:=xe07 h.2 (k h.1)
def xe11 {A:Sort _} {p:A->Prop} (h:∃a,p a) (k:∀a,p a->G):G:=h.elim k
def xe12 {A:Sort _} {p q:A->Prop} (h:∃a,p a/\q a) (k:∀a,p a->q a->G):G:=h.elim λa h=>xe02 h (k a)
def xe13 {A:Sort _} {p q r:A->Prop} (h:∃a,p a/\q a/\r a) (k:∀a,p a->q a->r a->G):G:=h.elim λa h=>xe03 h (k a)
def xe14 {A:Sort _} {p q r s:A->Prop} (h:∃a,p a/\q a/\r a/\s a) (k:∀a,p a->q a->r a->s a->G):G:=h.elim λa h=>xe04 h (k a)
def xe15 {A:Sort _} {p q r s t:A->Prop} (h:∃a,p a/\q a/\r a/\s a/\t a) (k:∀a,p a->q a->r a->s a->t a->G):G:=h.elim λa h=>xe05 h (k a)
def xe16 {A:Sort _} {p q r s t u:A->Prop} (h:∃a,p a/\q a/\r a/\s a/\t a/\u a) (k:∀a,p a->q a->r a->s a->t a->u a->G):G:=h.elim λa h=>xe06 h (k a)
def xe18 {A:Sort _} {p q r s t u v w:A->Prop} (h:∃a,p a/\q a/\r a/\s a/\t a/\u a/\v a/\w a) (k:∀a,p a->q a->r a->s a->t a->u a->v a->w a->G):G:=h.elim λa h=>xe08 h (k a)
def xe21 {A B:Sort _} {p:A->B->Prop} (h:∃a b,p a b) (k:∀a b,p a b->G):G:=h.elim λa h=>xe11 h (k a)
def xe22 {A B:Sort _} {p q:A->B->Prop} (h:∃a b,p a b/\q a b) (k:∀a b,p a b->q a b->G):G:=h.elim λa h=>xe12 h (k a)
def xe23 {A B:Sort _} {p q r:A->B->Prop} (h:∃a b,p a b/\q a b/\r a b) (k:∀a b,p a b->q a b->r a b->G):G:=h.elim λa h=>xe13 h (k a)
def xe24 {A B:Sort _} {p q r s:A->B->Prop} (h:∃a b,p a b/\q a b/\r a b/\s a b) (k:∀a b,p a b->q a b->r a b->s a b->G):G:=h.elim λa h=>xe14 h (k a)
def xe25 {A B:Sort _} {p q r s t:A->B->Prop} (h:∃a b,p a b/\q a b/\r a b/\s a b/\t a b) (k:∀a b,p a b->q a b->r a b->s a b->t a b->G):G:=h.elim λa h=>xe15 h (k a)
def xe26 {A B:Sort _} {p q r s t u:A->B->Prop} (h:∃a b,p a b/\q a b/\r a b/\s a b/\t a b/\u a b) (k:∀a b,p a b->q a b->r a b->s a b->t a b->u a b->G):G:=h.elim λa h=>xe16 h (k a)
def xe28 {A B:Sort _} {p q r s t u v w:A->B->Prop} (h:∃a b,p a b/\q a b/\r a b/\s a b/\t a b/\u a b/\v a b/\w a b) (k:∀a b,p a b->q a b->r a b->s a b->t a b->u a b->v a b->w a b->G):G:=h.elim λa h=>xe18 h (k a)
def xe31 {A B C:Sort _} {p:A->B->C->Prop} (h:∃a b c,p a b c) (k:∀a b c,p a b c->G):G:=h.elim λa h=>xe21 h (k a)
def xe32 {A B C:Sort _} {p q:A->B->C->Prop} (h:∃a b c,p a b c/\q a b c) (k:∀a b c,p a b c->q a b c->G):G:=h.elim λa h=>xe22 h (k a)
def xe33 {A B C:Sort _} {p q r:A->B->C->Prop} (h:∃a b c,p a b c/\q a b c/\r a b c) (k:∀a b c,p a b c->q a b c->r a b c->G):G:=h.elim λa h=>xe23 h (k a)
def xe34 {A B C:Sort _} {p q r s:A->B->C->Prop} (h:∃a b c,p a b c/\q a b c/\r a b c/\s a b c) (k:∀a b c,p a b c->q a b c->r a b c->s a b c->G):G:=h.elim λa h=>xe24 h (k a)
def xe35 {A B C:Sort _} {p q r s t:A->B->C->Prop} (h:∃a b c,p a b c/\q a b c/\r a b c/\s a b c/\t a b c) (k:∀a b c,p a b c->q a b c->r a b c->s a b c->t a b c->G):G:=h.elim λa h=>xe25 h (k a)
def xe36 {A B C:Sort _} {p q r s t u:A->B->C->Prop} (h:∃a b c,p a b c/\q a b c/\r a b c/\s a b c/\t a b c/\u a b c) (k:∀a b c,p a b c->q a b c->r a b c->s a b c->t a b c->u a b c->G):G:=h.elim λa h=>xe26 h (k a)
def xe41 {A B C D:Sort _} {p:A->B->C->D->Prop} (h:∃a b c d,p a b c d) (k:∀a b c d,p a b c d->G):G:=h.elim λa h=>xe31 h (k a)
def xe42 {A B C D:Sort _} {p q:A->B->C->D->Prop} (h:∃a b c d,p a b c d/\q a b c d) (k:∀a b c d,p a b c d->q a b c d->G):G:=h.elim λa h=>xe32 h (k a)
def xe43 {A B C D:Sort _} {p q r:A->B->C->D->Prop} (h:∃a b c d,p a b c d/\q a b c d/\r a b c d) (k:∀a b c d,p a b c d->q a b c d->r a b c d->G):G:=h.elim λa h=>xe33 h (k a)
def xe44 {A B C D:Sort _} {p q r s:A->B->C->D->Prop} (h:∃a b c d,p a b c d/\q a b c d/\r a b c d/\s a b c d) (k:∀a b c d,p a b c d->q a b c d->r a b c d->s a b c d->G):G:=h.elim λa h=>xe34 h (k a)
def xe45 {A B C D:Sort _} {p q r s t:A->B->C->D->Prop} (h:∃a b c d,p a b c d/\q a b c d/\r a b c d/\s a b c d/\t a b c d) (k:∀a b c d,p a b c d->q a b c d->r a b c d->s a b c d->t a b c d->G):G:=h.elim λa h=>xe35 h (k a)
def xe51 {A B C D E:Sort _} {p:A->B->C->D->E->Prop} (h:∃a b c d e,p a b c d e) (k:∀a b c d e,p a b c d e->G):G:=h.elim λa h=>xe41 h (k a)
def xe53 {A B C D E:Sort _} {p q r:A->B->C->D->E->Prop} (h:∃a b c d e,p a b c d e/\q a b c d e/\r a b c d e) (k:∀a b c d e,p a b c d e->q a b c d e->r a b c d e->G):G:=h.elim λa h=>xe43 h (k a)
def xe54 {A B C D E:Sort _} {p q r s:A->B->C->D->E->Prop} (h:∃a b c d e,p a b c d e/\q a b c d e/\r a b c d e/\s a b c d e) (k:∀a b c d e,p a b c d e->q a b c d e->r a b c d e->s a b c d e->G):G:=h.elim λa h=>xe44 h (k a)
def xe55 {A B C D E:Sort _} {p q r s t:A->B->C->D->E->Prop} (h:∃a b c d e,p a b c d e/\q a b c d e/\r a b c d e/\s a b c d e/\t a b c d e) (k:∀a b c d e,p a b c d e->q a b c d e->r a b c d e->s a b c d e->t a b c d e->G):G:=h.elim λa h=>xe45 h (k a)
def xe61 {A B C D E F:Sort _} {p:A->B->C->D->E->F->Prop} (h:∃a b c d e f,p a b c d e f) (k:∀a b c d e f,p a b c d e f->G):G:=h.elim λa h=>xe51 h (k a)
def xe63 {A B C D E F:Sort _} {p q r:A->B->C->D->E->F->Prop} (h:∃a b c d e f,p a b c d e f/\q a b c d e f/\r a b c d e f) (k:∀a b c d e f,p a b c d e f->q a b c d e f->r a b c d e f->G):G:=h.elim λa h=>xe53 h (k a)
def xe65 {A B C D E F:Sort _} {p q r s t:A->B->C->D->E->F->Prop} (h:∃a b c d e f,p a b c d e f/\q a b c d e f/\r a b c d e f/\s a b c d e f/\t a b c d e f) (k:∀a b c d e f,p a b c d e f->q a b c d e f->r a b c d e f->s a b c d e f->t a b c d e f->G):G:=h.elim λa h=>xe55 h (k a)
end
local macro_rules
  | `(tactic| obtain ⟨$ps,*⟩ := $e:term) => do
    let ps := ps.getElems
    let n := ps.size
    let mut bs : Array (Lean.TSyntax `term) := #[]
    let mut tl : Array (Lean.TSyntax `tactic) := #[]
    let mut es : List Lean.Name := []
    for s in e.raw.topDown do
      if s.isIdent then es := s.getId.getRoot :: es
    let mut k := 0
    let mut cl := false
    let mut rf := false
    for p in ps do
      match p with
      | `(Lean.Parser.Tactic.rcasesPatLo| $x:ident) =>
        if x.getId == `rfl then
          let f := Lean.mkIdent (Lean.Name.mkSimple ("z" ++ toString k ++ "✝"))
          bs := bs.push f; tl := tl.push (← `(tactic| subst $f:ident)); rf := true
        else
          bs := bs.push x
          if es.contains x.getId && !e.raw.isIdent then cl := true
      | `(Lean.Parser.Tactic.rcasesPatLo| _) => bs := bs.push (← `(_))
      | `(Lean.Parser.Tactic.rcasesPatLo| $q:rcasesPat) =>
        let f := Lean.mkIdent (Lean.Name.mkSimple ("z" ++ toString k ++ "✝"))
        bs := bs.push f; tl := tl.push (← `(tactic| obtain $q:rcasesPat := $f))
      | _ => Lean.Macro.throwUnsupported
      k := k + 1
    if n < 2 || n > 12 || (cl && rf) then return ← `(tactic| rcases $e:term with ⟨$ps,*⟩)
    let c ← if e.raw.isIdent then `(tactic| try clear $e) else `(tactic| skip)
    let mut alts : Array (Lean.TSyntax `tactic) := #[]
    for j in [1:n+1] do
      if n - j ≤ 6 && j ≤ 10 then
        let l := Lean.mkIdent (Lean.Name.mkStr `Mine ("xe" ++ toString (n - j) ++ toString j))
        alts := alts.push (← `(tactic| (refine $l $e ?_; $c; intro $bs*)))
    let a ← `(tactic| (first $[| $alts:tactic]*))
    `(tactic| first | ($a:tactic; $[$tl:tactic];*) | rcases $e:term with ⟨$ps,*⟩)
local macro_rules
  | `(tactic| rcases $e:term with $p:rcasesPat | $q:rcasesPat) => do
    let go (p : Lean.TSyntax `rcasesPat) : Lean.MacroM (Lean.TSyntax `term × Lean.TSyntax `tactic) := do
      match p with
      | `(rcasesPat| $x:ident) =>
        if x.getId == `rfl then
          let f := Lean.mkIdent (Lean.Name.mkSimple "z✝")
          return (f, ← `(tactic| subst $f:ident))
        return (x, ← `(tactic| skip))
      | `(rcasesPat| _) => return (← `(_), ← `(tactic| skip))
      | _ =>
        let f := Lean.mkIdent (Lean.Name.mkSimple "z✝")
        return (f, ← `(tactic| obtain $p:rcasesPat := $f))
    let (x, t) ← go p
    let (y, u) ← go q
    let c ← if e.raw.isIdent then `(tactic| try clear $e) else `(tactic| skip)
    `(tactic| first | (refine Or.elim $e ?_ ?_; $c; intro $x:term; $t; rotate_left; $c; intro $y:term; $u; rotate_right) | rcases $e:term with ($p | $q))
open Nat.Internal.Linear in
inductive Cs where
 |no
 |ok (l r:el)
 |le (m:Nat) (l r:el) (t:Cs)
 |eq (m:Nat) (l r:el) (t:Cs)
 |qe (m:Nat) (l r:el) (t:Cs)
 |nl (m:Nat) (l r:el) (t:Cs)
def Cs.den (c:dh):Cs->Prop
 | .no=>False
 | .ok l r=>l.denote c<=r.denote c
 | .le _ l r t=>l.denote c<=r.denote c->t.den c
 | .eq _ l r t=>l.denote c=r.denote c->t.den c
 | .qe _ l r t=>l.denote c=r.denote c->t.den c
 | .nl _ l r t=>¬l.denote c<=r.denote c->t.den c
def Cs.sum:Cs->el×el
 | .no=>(.num 0,.num 0)
 | .ok l r=>(.add r (.num 1),l)
 | .le m l r t=>(.add (.mulL m l) t.sum.1,.add (.mulL m r) t.sum.2)
 | .eq m l r t=>(.add (.mulL m l) t.sum.1,.add (.mulL m r) t.sum.2)
 | .qe m l r t=>(.add (.mulL m r) t.sum.1,.add (.mulL m l) t.sum.2)
 | .nl m l r t=>(.add (.mulL m (.add r (.num 1))) t.sum.1,.add (.mulL m l) t.sum.2)
def Cs.snd (c:dh) (t:Cs):∀a b:Nat,a<=b->¬a+t.sum.1.denote c<=b+t.sum.2.denote c->t.den c:=by
 have key:∀ {m a b l r x y:Nat},a<=b->l<=r->¬a+(m*l+x)<=b+(m*r+y)->a+m*l<=b+m*r/\¬(a+m*l)+x<=(b+m*r)+y:=
  λ{m _ _ _ _ _ _} h k n=>⟨gb h (pO m k),by rw[iP,iP];exact n⟩
 induction t with
 |no=>exact λa b h n=>n h
 |ok l r=>exact λa b h n=>iT λk=>n (gb h k)
 |le m l r t ih=>exact λa b h n k=>(λe=>ih _ _ e.1 e.2) (key h k n)
 |eq m l r t ih=>exact λa b h n k=>(λe=>ih _ _ e.1 e.2) (key h (fg k) n)
 |qe m l r t ih=>exact λa b h n k=>(λe=>ih _ _ e.1 e.2) (key h (fg k.symm) n)
 |nl m l r t ih=>exact λa b h n k=>(λe=>ih _ _ e.1 e.2) (key h (Cf k) n)
noncomputable def eN:Nat->Nat->Nat×Nat
 |0,n=>(0,n)
 |f+1,n=>match eN f (n/64)with
  |(a,k)=>if n%64<32 then(n%64,n/64) else(n%32+32*a,k)
noncomputable def eE:Nat->Nat->el×Nat
 |0,n=>(.num 0,n)
 |f+1,n=>match n%64 with
  |0=>match eE f (n/64)with|(a,n)=>match eE f n with|(b,n)=>(.add a b,n)
  |1=>match eN 20 (n/64)with|(a,n)=>(.num a,n)
  |2=>match eN 20 (n/64)with|(a,n)=>match eE f n with|(b,n)=>(.mulL a b,n)
  |3=>match eE f (n/64)with|(b,n)=>match eN 20 n with|(a,n)=>(.mulR b a,n)
  |k=>(.var (k- 4),n/64)
noncomputable def eC:Nat->Nat->Cs
 |0,_=> .no
 |f+1,n=>match n%64 with
  |0=> .no
  |1=>match eE 30 (n/64)with|(a,n)=> .ok a (eE 30 n).1
  |k=>match eE 30 (n/64)with|(a,n)=>match eE 30 n with|(b,n)=>(match k%4 with|0=>Cs.le|1=>Cs.eq|2=>Cs.qe|_=>Cs.nl) (k/4) a b (eC f n)
noncomputable def jO (a:Nat):dh:= .leaf a
noncomputable def ip (a b:Nat):dh:= .branch 1 (.leaf a) (.leaf b)
noncomputable def l8 (a b c:Nat):dh:= .branch 1 (.leaf a) (.branch 2 (.leaf b) (.leaf c))
noncomputable def Io (a b c d:Nat):dh:= .branch 2 (.branch 1 (.leaf a) (.leaf b)) (.branch 3 (.leaf c) (.leaf d))
noncomputable def XE (a b c d e:Nat):dh:= .branch 2 (.branch 1 (.leaf a) (.leaf b)) (.branch 3 (.leaf c) (.branch 4 (.leaf d) (.leaf e)))
noncomputable def lc6 (a b c d e f:Nat):dh:= .branch 3 (.branch 1 (.leaf a) (.branch 2 (.leaf b) (.leaf c))) (.branch 4 (.leaf d) (.branch 5 (.leaf e) (.leaf f)))
def cC (c:dh) (n:Nat) (h:(C0 false (eC 9 n).sum.1 (eC 9 n).sum.2).toNormPoly.isUnsat=true):(eC 9 n).den c:=
 Cs.snd c _ 0 0 (ab 0) λk=>by have:=C1 c _ h;rw[qj,qj]at k;exact this▸k
def lsa {a b:Nat}:a<=a- b+b:=ko.mp (ab _)
def aaI {a b:Nat}:max (a:Int) b=(max a b:Nat):=(zM a b).elim (λh=>by rw[Nat.max_eq_right h,VJ (fK.mpr h)]) λh=>by rw[Nat.max_eq_left h,Xu (fK.mpr h)]
def aaJ {a b:Nat}:min (a:Int) b=(min a b:Nat):=(zM a b).elim (λh=>by rw[iz h,Xs (fK.mpr h)]) λh=>by rw[VH h,VI (fK.mpr h)]
section
variable {a b c d e f:Nat}
def om0:b<a->a- b≠0:=λh=>u9 h
def ID:a<b+1->(¬a=b)->a<b:=λh k=>qM (fR h) k
def om2:a=c->b=c->a=b:=λh0 h1=>bR (cC (l8 a b c) 1425042317009157 rfl h0 h1) (cC (l8 a b c) 1147965386547462 rfl h0 h1)
def om3:a+10*c<=990->b<=c->a+10*b<=990:=λh k=>aA (dX (pO 10 k) a) h
def om4:a+100*c<=9800->b<=c->a+100*b<=9800:=λh k=>aA (dX (pO 100 k) a) h
def om6:a<b->a<b+c:=cC (l8 a b c) 1837001733898169116540932 rfl
def om8:b- a<=0->¬(↑a:Int)< (↑b:Int):=λh k=>absurd (cM.mp k) (dE (Km.mp (N9.mp h)))
def om9:a<b->(↑a:Int)< (↑b:Int):=cM.mpr
def aaK:a<b->b<=c->(a+b)/2<=c:=λh k=>aA (Ob (by rw[Co];exact wc (ce h) b)) k
def aib:(¬a<b)->¬(↑a:Int)< (↑b:Int):=λh k=>h (cM.mp k)
def aaL:a<2 ^ 30->(↑a:Int)<2 ^ 63:=λh=>jo (cM.mpr h) (by decide)
def IE:a<b->b<=c->(a+b)/2<c:=λh k=>a8 (Oa (by rw[Co];exact Od h b)) k
def Ml:a<=b->a<=b+c:=cC (l8 a b c) 26731943842052 rfl
def IF:a<c->c=b->a<b:=cC (l8 a b c) 97021314557910551997202436 rfl
def aic:a+(b+1)<c->a+1+b<c:=cC (l8 a b c) 511775175312177366177160026321406918660 rfl
def XF:a+(c+1)<b->a<b:=cC (l8 a b c) 397399304429110401103157002244 rfl
def aaM:a=c->b=d->c=d->a=b:=λh0 h1 h2=>bR (cC (Io a b c d) 373566578955443003653 rfl h0 h1 h2) (cC (Io a b c d) 300932524233930858758 rfl h0 h1 h2)
def XG:a=c->b=d->(¬c=d)->¬a=b:=λh k l m=>l (h.symm.trans (m.trans k))
def aid {a:Int}:(-2 ^ 40<a/\a<2 ^ 40)-> -2 ^ 64<a:=λh=>jo (by decide) h.1
def aie {a:Int}:(-2 ^ 40<a/\a<2 ^ 40)->a<2 ^ 64:=λh=>jo h.2 (by decide)
def aif {a:Int}:0<=a->a<=1000-> -9223372036854775808<=a/\a<9223372036854775808:=λh k=>⟨ec (by decide) h,qN k (by decide)⟩
def aig {b:Nat} {a:Int}:a<=1000->b=2 ^ 24->a<=(↑b:Int):=λh k=>by rw[k];exact ec h (by decide)
def aih:a+100*d<=9800->b<=10->c=9900->a+b<c:=λh k l=>by rw[l];exact bI (gb (aA (bh ..) h) k) (by decide)
def Tw:a+4<b->a<b:=cC (ip a b) 97021314557888284740026372 rfl
def XH:a<=1000->b=2 ^ 24->a<=b:=cC (ip a b) 6267451636863069495710716164 rfl
def aii {a:Int}:(0<=a/\a<2 ^ 63)-> -2 ^ 63<=a:=λh=>ec (by decide) h.1
def aaN {b:Nat} {a:Int}:a.toNat<b->a< (↑b:Int):=λh=>Int.lt_of_toNat_lt (show a.toNat< (b:Int).toNat from h)
def aij {a:Int}:(0<=a/\a<2 ^ 63)-> -9223372036854775808<=a/\a<9223372036854775808:=λh=>⟨ec (by decide) h.1,h.2⟩
def aaO:a<=b->a<=b:=cC (ip a b) 5436100868 rfl
def aik:c=a->c<=b->a<=b:=cC (l8 a b c) 1425041259512198 rfl
def ail:a<=b->b=2 ^ 24->(↑a:Int)<2 ^ 63:=λh k=>qN (fK.mpr (k▸h)) (by decide)
def aim:(↑a:Int)<2 ^ 63->¬2 ^ 63<=(↑a:Int):=λh=>SU.mpr h
def ain {a b c:Int}:max a c<=b->a<=b:=λh=>ec (Xv ..) h
def aio {a b c:Int}:max c a<=b->a<=b:=λh=>ec (VK ..) h
def aip {a b c:Int}:a<=min b c->a<=b:=λh=>ec h (Int.min_le_left ..)
def aiq {a b c:Int}:a<=min c b->a<=b:=λh=>ec h (Int.min_le_right ..)
def aaP:a<b->a<=b- 1:=wb
def aaQ:a<=b- 1->c<b->a<b:=λh k=>bI h (SM (Tf k) N7)
def air {a b c:Int}:a<=b->c=b->c<=a->a=b:=λh k l=>uQ h (k▸l)
def ais {a b c:Int}:a<=c->b<=a->c=b->a=b:=λh k l=>uQ (l▸h) k
def Ct:a<c->b=c->a<b:=cC (l8 a b c) 97021314558187697646878724 rfl
def ait:a<=b->b<=a->a=b:=bR
def aiu:a=b->a<=b:=cC (ip a b) 5436100869 rfl
def aiv:a=0->0=(↑a:Int):=λh=>h▸rfl
def aiw:a<2 ^ 20->(↑a:Int)<9223372036854775808/\(a=0\/(↑a:Int)<9223372036854775808):=λh=>have k:(a:Int)<9223372036854775808:=jo (cM.mpr h) (by decide);⟨k,.inr k⟩
def aaR:0+(↑a:Int)*1=(↑a:Int):=(Int.zero_add _).trans (Int.mul_one _)
def aix:(↑a:Int)- 0=(↑a:Int):=Int.sub_zero _
def aaS:b=a+1->a<=b:=cC (ip a b) 1425036880642374 rfl
def aiy:a+1+b<=a+(b+1):=cC (ip a b) 4801919192932113448961 rfl
def aaT:a<b->a=c->b<=c->False:=cC (l8 a b c) 448560229745850335236 rfl
def aiz:a<=a+2:=cC (jO a) 2165309697 rfl
def aiA:b=a+2->a<=b:=cC (ip a b) 1425037954384198 rfl
def aiB:a+(b+1+1)=a+2+b:=bR (cC (ip a b) 6228706943593704989581656065 rfl) (cC (ip a b) 1257590175156608588493881345 rfl)
def aaU:b=a+2->a+1<b:=cC (ip a b) 97021094402512325283152198 rfl
def aaV:b=a+2+c->a+1<b:=cC (l8 a b c) 397398402672690502017541472582 rfl
def aaW:b=a+2->a<b:=cC (ip a b) 370106943348098990406 rfl
def aaX:b=a+1->a<b:=cC (ip a b) 370106943347025248582 rfl
def aaY:b=a+2+c->a<b:=cC (l8 a b c) 1515958039971471214772550 rfl
def aaZ:b=a+2+c->a<=b:=cC (l8 a b c) 5836973118907744582 rfl
def XI:a<a+(b+1):=cC (ip a b) 1172343552894844929 rfl
def aiC:a+1<a+(b+1+1):=cC (ip a b) 80485771210022932002653601793 rfl
def aiD:a=a+1->False:=cC (jO a) 1091567878 rfl
def aiE:c<d->d=e->e<=c->a≠b:=λh k l=>absurd (k▸h) (dE l)
def Tx:a<=b->a+(b- a)=b:=mT
def aiF:a<c->b=c+(d- e)->a≠b:=λh k=>cU (k▸a8 h (bh ..))
def aiG {a:Int}:(0<=a/\a<1000)->a.toNat<2 ^ 20:=λh=>(Int.toNat_lt h.1).mpr (jo h.2 (by decide))
def aiH:a+1+b=a+(1+b):=bR (cC (ip a b) 23686773438392266915841 rfl) (cC (ip a b) 23686844370086396968961 rfl)
def aiI:a<=a+2+b:=cC (ip a b) 22128812359937 rfl
def aiJ:a+2+b- a=b+1+1:=(congrArg (· - a) (iP ..)).trans ((bO ..).trans (uf ..))
def aiK:a+1=a+2+b->False:=cC (ip a b) 5800935387233009670 rfl
def aiL:a+1<a->False:=cC (jO a) 1130367764398084 rfl
def aiM:a<b->a=b+1->False:=cC (ip a b) 75029987801881133060 rfl
def aiN:a<b->a=b+2+c->False:=cC (l8 a b c) 1822913013989510813597700 rfl
def aiO:b≠c->a+2+b≠a+2+c:=λh k=>h (pQ k)
def aiP:a+2+b=c->d<a->e=c->e=d->False:=cC (XE a b c d e) 148006298870013160597898200530026501 rfl
def aa0:a<=c->min a b<=c:=λh=>aA (j4 ..) h
def aiQ:a≠a+1:=cC (jO a) 1091567878 rfl
def aiR:a+2+b=a->False:=cC (ip a b) 17937948737541 rfl
def aa1:a<b->a=b->False:=cC (ip a b) 1425384772222980 rfl
def aa2:b<a->a≠b:=cC (ip a b) 1425314979008516 rfl
def aiS:a<b->a≠b:=cC (ip a b) 1425384772222980 rfl
def aiT:a<b->a≠b+1:=cC (ip a b) 75029987801881133060 rfl
def aiU:a+2+b=c->c<a->False:=cC (l8 a b c) 1213728891755455247810565 rfl
def XJ:a=c->b=2 ^ 24->c<100000->a<=b:=cC (l8 a b c) 1764113551138871018539764942157709040967941 rfl
def XK:a<b->a+1<=b:=cC (ip a b) 370106943351319445508 rfl
def XM:a=c->b=c->a<=b:=cC (l8 a b c) 1425042317009157 rfl
def aa3:a=c->b=c->a- b=0:=λh k=>vd (fg (h.trans k.symm))
def Tz:b=a->a<=b:=cC (ip a b) 5436096838 rfl
def aa4:a=b->a- b=0:=λh=>vd (fg h)
def F7:a<=a+1:=cC (jO a) 1091567873 rfl
def TA:a<b+1->b<=a->a=b:=λh k=>bR (fR h) k
def aa5:a<a->False:=cC (jO a) 4312023044 rfl
def aa6:c<c->a=b:=λh=>absurd h (lU c)
def aa7:a<c+1->b<c+1->c<=a->c<=b->a=b:=λh k l m=>(bR (fR h) l).trans (bR m (fR k))
def aa8:a+1+b=a+(b+1):=bR (cC (ip a b) 4801919192932113448961 rfl) (cC (ip a b) 23686844369811586170881 rfl)
def Ky:a+(b+1)=a+1+b:=bR (cC (ip a b) 23686844369811586170881 rfl) (cC (ip a b) 4801919192932113448961 rfl)
def OP:a<=a+b:=cC (ip a b) 84934913 rfl
def aa9:a<100000->b=2 ^ 24->a<=b:=cC (ip a b) 6729624952397137878057041686536929284 rfl
def aba {b c:Nat} {a:Int}:a=(↑b:Int)->b<=c->c<100000-> -9223372036854775808<=a/\a<9223372036854775808:=λh k l=>⟨h▸ec (by decide) (dO b),h▸cM.mpr (bI k (iM l (by decide)))⟩
def OQ:a=b->b<100000->a<100000:=cC (ip a b) 19211997166750617869921431750037403095301 rfl
def abb {b:Nat} {a:Int}:a=(↑b:Int)->¬a<0:=λh=>nV.mpr (h▸dO b)
def abc {b c d:Nat} {a:Int}:a=(↑c:Int)->b=d->c<=d->min a.toNat b=c:=λh k l=>by rw[h,k];exact iz l
def VQ:min a b+(b- a+1)=b+1:=congrArg (· +1) ((uf ..).trans (Kq a b▸Nat.sub_add_min_cancel b a))
def abd:b=c->min a b+(b- a+1)=c+1:=λh=>h▸VQ
def abe:a<b->b<=d->c=d->a<min b c:=λh k l=>Nat.lt_min.mpr ⟨h,a8 h (l▸k)⟩
def abf:a<b->b<=c->a<min b c:=λh k=>Nat.lt_min.mpr ⟨h,a8 h k⟩
def VR:min a b<=a:=j4 ..
def abg:a<=c->b=c->a- min a b=0:=λh k=>by rw[k,iz h,dc]
def abh:a<=b->a- min a b=0:=λh=>by rw[iz h,dc]
def VT:a<c->min a b<=c:=λh=>aA (j4 ..) (ce h)
def abi:b<a->b<=d->c=d->a- min b c=a- b- 1+1:=λh k l=>by rw[l,iz k,qL (Tg h)]
def abj:b<a->b<=c->a- min b c=a- b- 1+1:=λh k=>by rw[iz k,qL (Tg h)]
def abk {b c:Nat} {a:Int}:a=(↑b:Int)->b<c->c<100000-> -9223372036854775808<=a/\a<9223372036854775808:=λh k l=>⟨h▸ec (by decide) (dO b),h▸cM.mpr (iM k (iM l (by decide)))⟩
def abl {b:Nat} {a:Int}:a=(↑b:Int)->0<=a:=λh=>h▸dO b
def abm {b c d:Nat} {a:Int}:a=(↑c:Int)->b=d->c<d->a< (↑b:Int):=λh k l=>by rw[h,k];exact cM.mpr l
def abn {b:Nat} {a:Int}:a=(↑b:Int)->a.toNat=b:=λh=>congrArg nU h
def abo:a<a+1:=cC (jO a) 286147918184449 rfl
def abp:b=a+1+c->a<b:=cC (l8 a b c) 1515958039971402495295814 rfl
def VU:b=a+1+c->a<=b:=cC (l8 a b c) 5836973050188267846 rfl
def abq:a<=a+1+b:=cC (ip a b) 22060092883201 rfl
def abr:a+1+b- a=b+1:=(congrArg (· - a) (iP ..)).trans ((bO ..).trans (uf ..))
def abt:b≠c->a+1+b≠a+1+c:=λh k=>h (pQ k)
def abu:a+1+b+(0+c)=a+1+b+c:=bR (cC (l8 a b c) 126242872155452023782006599589036033 rfl) (cC (l8 a b c) 124620201416600906465619385832701953 rfl)
def abv:a<b->a<b+1+c:=cC (l8 a b c) 476627769096431820066554920964 rfl
def VV:a+1+b+c=a+(1+b+c):=bR (cC (l8 a b c) 481578320331195061588228833281 rfl) (cC (l8 a b c) 481578339216049307048315207681 rfl)
def abw:(0<=(↑a:Int)/\(↑a:Int)<1000)->a<1000:=λh=>(@cM a 1000).mp h.2
def abx:a<1000->a<2 ^ 20:=cC (jO a) 489353365046405544306066151718916 rfl
def aby:a<1000->a<=2 ^ 24:=cC (jO a) 20435835532901784495635841028 rfl
def abz:0<b->a=c->b=c->0<a:=cC (l8 a b c) 83406340130887561448786255320977412 rfl
def abA:a<c->b=d->c=d->a<=b- 1:=λh k l=>wb (l.trans k.symm▸h)
def abB:a<=c- 1->b=d->c=d->e<b->a<b:=λh k l m=>bI h (by rw[k,l];exact SM (k▸Tf m) N7)
def abC {a b:Int}:a<=b->b<=a->a=b:=uQ
def abD:a- b=0->a<=b:=Nat.le_of_sub_eq_zero
def abE:a<c->c<=b->a≠b:=cC (l8 a b c) 373656087928175345668 rfl
def abF:a+(c+1)=d->b+(e+1)=d->c=e->a=b:=λh0 h1 h2=>bR (cC (XE a b c d e) 430693266877844793212518126081112293381 rfl h0 h1 h2) (cC (XE a b c d e) 346951903064166930705313662214929924102 rfl h0 h1 h2)
def VW:b<2 ^ 30->b=a->(↑a:Int)<2 ^ 63:=λh k=>jo (cM.mpr (k▸h)) (by decide)
def abG:a<b->(a+b)/2+1<=b:=λh=>IE h (ab b)
def abH:a<b->a<=(a+b)/2:=λh=>(Mh (by decide)).mpr (by rw[Nat.mul_two];exact dX (ce h) a)
def abI:a<b->(a+b)/2<=b:=λh=>Ob (by rw[Co];exact wc (ce h) b)
def Kz:a<100000->a<2 ^ 30:=cC (jO a) 8209987265355085592289980101534138253316 rfl
def VX:a<100000->a<100000:=cC (jO a) 73287953059198829154668547630448644 rfl
def VY:b<100000->b=a->a<100000:=cC (ip a b) 19211997166750617872523062406401979863044 rfl
def KA:a<b->b<=a->False:=cC (ip a b) 1148170403069956 rfl
def abJ:1<=a->a=a- 1+1:=λh=>(qL h).symm
def VZ:a<1000->a<2 ^ 30:=cC (jO a) 2004391422205831443430294493210099716 rfl
def abK:a+2<=b->a<=b:=cC (ip a b) 1425041191616516 rfl
def abL:2<=a->a=a- 2+2:=λh=>(qL h).symm
def KC:a<1000->a<100000:=cC (jO a) 17892566664843464272658984878084 rfl
def abM:a+3<=b->a<=b:=cC (ip a b) 1425041208393732 rfl
def abN:0<=1:=cI _
def abO:1<=1:=ab _
def abP:a+b<20->c<=1->a+b+c<30:=cC (l8 a b c) 10459005355759690415580703674136796140142596 rfl
def abQ:a<=a:=cC (jO a) 16641 rfl
def abR:a+1+c=b->a<b:=cC (l8 a b c) 1515958039967347996884997 rfl
def V0:a<2->a=0\/a=1:=λh=>(yG (fR h)).imp Nat.lt_one_iff.mp id
def OR:a<b->b<a->False:=cC (ip a b) 296320248737616379908 rfl
def abS:¬2+a=0:=cC (jO a) 1141379077 rfl
def abT:¬2+a=1:=cC (jO a) 69860855813 rfl
def abU:a+1+b+(2+c- 2)=a+1+b+c:=congrArg (a+1+b+ ·) (bO ..)
def abV:a+1<a+3:=cC (jO a) 222585912451016949761 rfl
def abW:a+1<=a+3:=cC (jO a) 849097871605761 rfl
def abX:a- b=0->b<a->False:=λh k=>u9 k h
def abY:a+100*c<=9800->b=9900->a+2<b:=cC (l8 a b c) 7158898637295308102942757944292402981811798020 rfl
def abZ:a<=b+e*d->c*d=e*d+d->a<=b+c*d:=cC (XE a b d (e*d) (c*d)) 156253958596074777001328900 rfl
def V1:a<=a+b*c:=bh ..
def V2:a<=b+e+f*d->c*d=f*d+d->e<=d->a<=b+c*d:=cC (lc6 a b d e (f*d) (c*d)) 188545597944327864884795803747483908 rfl
def ab0:a<=b->b<50000->a<100000:=cC (ip a b) 19211997166750617861589556266619871711492 rfl
def ab1:a<=b+c*1->b<=d*100->c<=100->d*100<=100*100->a<100000:=cC (Io a b c d) 1522131233750903963019027287408229190580845418360465958904971564155140 rfl
def ab2:a+(b+1)<100000->a+1+b<100000:=cC (ip a b) 84495257110573017433495532244428185007841655747772420 rfl
def ab3:a+(b+1)<100000->a<100000:=cC (ip a b) 78692340395010530795198184448135680601620484 rfl
def ab4:a<50000->a<100000:=cC (jO a) 73287953059198829122884965006327812 rfl
def ab5:a<=63->b=2 ^ 24->a<=b:=cC (ip a b) 6267451636863069495213428996 rfl
def ab6:min 60 a<50000:=bI (j4 ..) (by decide)
def ab7:a=b->a=b:=λh0=>bR (cC (ip a b) 5436100869 rfl h0) (cC (ip a b) 4379136262 rfl h0)
def F8:0<=(↑a:Int):=dO a
def V3:b<=a->¬a<b:=cC (ip a b) 1411845945573700 rfl
def ab8:a<9->b<9->c<9->max a (max b c)<9:=λh k l=>Nat.max_lt.mpr ⟨h,Nat.max_lt.mpr ⟨k,l⟩⟩
def KD:a<b->a<=b:=cC (ip a b) 1425041174839300 rfl
def V4:(¬b<a)->a<=b:=cC (ip a b) 1425040101101575 rfl
def ab9:a<6->a<9:=cC (jO a) 2724880472575990225453060 rfl
def aca:a<6->a<=5:=cC (jO a) 5783752632904728580 rfl
def V5:6<50000:=by decide
def F9:a<6->a<100:=cC (jO a) 68913569096476937540616196 rfl
def OS:a<=100000000->a<500000000:=cC (jO a) 19874457496246453527765238013218525444 rfl
def acb:a<7->a<100:=cC (jO a) 68913569096477006260092932 rfl
def acd:a<=100->a<=16777214:=cC (jO a) 75557863167638427930884 rfl
def ace:a<=50000->b=2 ^ 24->a<=b:=cC (ip a b) 25671481904591132652379066863876 rfl
def OT:a+b<=10000->c=2 ^ 24->a+b<=c:=cC (l8 a b c) 8080512085758823544104047566386380804 rfl
def V6:a<=2->b<=2->c<=2->d<=2->e<=2->f<=2->a+(b+(c+(d+(e+f))))<=12:=cC (lc6 a b c d e f) 81000167566154941567873082259281533348245402163001704086147932098820 rfl
def acf:a<=b+6*2->b<=0+6*12->a<100000:=cC (ip a b) 322323826257963134809652960987366790952650014980 rfl
def acg:a<=b+6*2->b<=0+6*12->a+1<100000:=cC (ip a b) 84495257110551243266625851189714680117172878112456964 rfl
def ach:a=2 ^ 24->b<=100->¬a<b:=cC (ip a b) 1627747551841468451782312075464966 rfl
def aci:a<=12->b<=12->c<=12->d<=12->e<=12->f<=12->a+(b+(c+(d+(e+(f+0)))))<=72:=cC (lc6 a b c d e f) 296857921556158753448392490891003172056368361157150467131315857128904724740 rfl
def V7:a<=72->a<50000:=cC (jO a) 34127363151313179944947972 rfl
def acj:a<=b->b<=c->c- a<=0->a=b:=λh k l=>bR h (aA k (Km.mp (N9.mp l)))
def ack:(a+b)/2<c->(a+b)/2+1<=c:=λh=>h
def V8:(¬(b+c)/2<a)->a<=(b+c)/2:=iT
def acl:a<=b->b<=c->(¬a<c)->a=b:=λh k l=>bR h (aA k (iT l))
def OU:a<c->c<=b->a<b:=cC (l8 a b c) 97021314557910483277725700 rfl
def Aw:a<=b->(↑a:Int)<=(↑b:Int):=fK.mpr
def acm:b<a->¬a=b:=cC (ip a b) 1425314979008516 rfl
def acn:a+1=b+1->a=b:=λh0=>bR (cC (ip a b) 373564868107765563397 rfl h0) (cC (ip a b) 300930813317534203910 rfl h0)
def aco:a=b->a+1=b+1:=λh0=>bR (cC (ip a b) 75029974263053701381 rfl h0) (cC (ip a b) 75011959865617961222 rfl h0)
def acp:a<b->a<b:=cC (ip a b) 370106943351319445508 rfl
def V9:a<b->¬a=b:=cC (ip a b) 1425384772222980 rfl
def acq:a<=b->b≠a->a<b:=λh k=>qM h k.symm
def acr:a+b=c->a+(b+1)<=c+1:=cC (l8 a b c) 1259096316158623670810722309 rfl
def acs:a<=c+1->c+(b+1)<=500->a+b<=500:=cC (l8 a b c) 86092873203103404898784996302509332496644 rfl
def Wa:a+(b+1)<=500->a<1000:=cC (ip a b) 160359058532845777117459486097412 rfl
def OW:(↑a:Int)=(↑b:Int)↔a=b:=Int.ofNat_inj
def acu:a<=100->a<=500:=cC (jO a) 284857350489116932 rfl
def acv:a<=d+c->d<=b+1->a<=b+(c+1):=cC (Io a b c d) 330064621767455224836574926340356 rfl
def KE:a<=10000->b=2 ^ 24->a<=b:=cC (ip a b) 401116904759236447702144258308 rfl
def C3:a<=6->a<=10000:=cC (jO a) 178103364546466052 rfl
def OX:a<=6->a<1000:=cC (jO a) 2333531425870687244548 rfl
def acw:max (max (↑a:Int) (↑b:Int)) (↑c:Int)=(↑(max a (max b c)):Int):=by rw[aaI,aaI,Nat.max_assoc]
def acx:min (min (↑a:Int) (↑b:Int)) (↑c:Int)=(↑(min a (min b c)):Int):=by rw[aaJ,aaJ,Nat.min_assoc]
def Wb:(¬b<=a)->a<=b:=cC (ip a b) 5436096839 rfl
def acy:a<c->d<b->(¬d<c)->a<b:=cC (Io a b c d) 1747780624364676092226825694793144503386116 rfl
def acz:a<b->c=a->d=b->d<=c->False:=cC (Io a b c d) 118191765447832515073294340 rfl
def acA:c<d->d<=e->e<=c->a<b:=λh k l=>absurd (a8 h k) (dE l)
def Wc:a<c->c<b->a<b:=cC (l8 a b c) 25433555483463067073447838629892 rfl
def OY:¬a<a:=cC (jO a) 4312023044 rfl
def acB:b<a->c<d->(¬a<=b↔c<d):=λh k=>⟨λ_=>k,λ_=>Cd h⟩
def acC:¬a<=a↔b<b:=⟨λl=>absurd (ab a) l,λl=>absurd l (lU b)⟩
def acD:a<b->d<c->(¬a<=b↔c<d):=λh k=>⟨λl=>absurd (ce h) l,λl=>absurd l (zL k)⟩
def acE:b+d=a->d=c->(↑a:Int)- (↑b:Int)=(↑c:Int):=λh k=>by rw[<- h,<- k,pK,uh,yL]
def acF:(↑c:Int)=(↑a:Int)->(a<b↔c<b):=λh=>qk h▸Iff.rfl
def acG:(↑a:Int)=(↑c:Int)->c<b->a<b:=λh k=>qk h▸k
def Wd:a<12->a- 6<6:=λh=>bI (N5 (fR h) 6) (by decide)
def acH:c≠d->(a<b\/a=b/\c<d)\/b<a\/b=a/\d<c:=λh=>(eH a b).elim (λk=> .inl (.inl k)) λk=>k.elim (λk=>(Nat.lt_or_gt_of_ne h).elim (λl=> .inl (.inr ⟨k,l⟩)) λl=> .inr (.inr ⟨k.symm,l⟩)) λk=> .inr (.inl k)
def acI:a<6->d<6->((a<12/\(b<c\/b=c/\a<d))/\¬(6+a<12/\(e<c\/e=c/\6+a<d))↔(b<c\/b=c/\a<d)/\c<=e):=λh k=>⟨λp=>⟨p.1.2,iT λr=>p.2 ⟨pP h 6,.inl r⟩⟩,λp=>⟨⟨a8 h (by decide),p.1⟩,λq=>q.2.elim (λr=>absurd p.2 (Cd r)) λr=>absurd (iM r.2 k) (dE (bh ..))⟩⟩
def acJ:(6+a<12/\(b<c\/b=c/\6+a<a))->c<=b->False:=λh k=>h.2.elim (dE k) λl=>absurd l.2 (dE (gn ..))
def acK:6+a=a->False:=λh=>absurd h (jV (Kr (by decide)))
def acL:b<6->6+a=b->False:=λh k=>absurd (k▸h) (dE (bh ..))
def acM:a<6->b<=c->a<12/\(b<c\/b=c/\a<6+a):=λh k=>⟨a8 h (by decide),(yG k).imp id λe=>⟨e,Kr (by decide)⟩⟩
def acN:(¬a=b)->6+a=6+b->False:=λh k=>h (pQ k)
def acO:(a<6/\a<12/\¬6+a<12)->False:=λh=>h.2.2 (pP h.1 6)
def acP:(a<e\/a=e/\c<f)->(e<b\/e=b/\f<d)->a<b\/a=b/\c<d:=λh k=>h.elim (λh=> .inl (k.elim (iM h) λk=>k.1▸h)) λh=>k.elim (λk=> .inl (h.1▸k)) λk=> .inr ⟨h.1.trans k.1,iM h.2 k.2⟩
def acQ:a+1≠b->a+1<=b->a<b- 1:=λh k=>Nat.lt_sub_of_add_lt (qM k h)
def acR:a+1=b->b<=b- 1->False:=λh k=>absurd (h▸k:a+1<=a+1- 1) (Nat.not_succ_le_self a)
def We:a+(c+1)<=b->a<b:=cC (l8 a b c) 1515958039967004482355204 rfl
def OZ:a+1<=b->a<=b:=cC (ip a b) 1425041174839300 rfl
def acS:a<b+1+c->a<b+(c+1):=cC (l8 a b c) 86524460204894864025361872921272008708 rfl
def acT:a+(b+1)<=c->a+1+b<=c:=cC (l8 a b c) 7524661550251051622795853828 rfl
def acU:a<c+(b- c)->c<=a->a<b:=λh k=>(zM c b).elim (λl=>mT l▸h) λl=>absurd (vd l▸h:a<c+0) (dE k)
def acV:a<=b->b+d<=c->a+(b- a)<=c:=λh k=>aA (fg (mT h)) (aA (bh b d) k)
def acW:a+(b+1+1)=a+1+1+b:=bR (cC (ip a b) 1627743857347339052988676949688321 rfl) (cC (ip a b) 329669718876254001540460036751361 rfl)
def acX:((↑a:Int)- (↑b:Int)).toNat=a- b:=lX a b
def acY:a- b<=((↑a:Int)- (↑b:Int)).toNat:=fg (lX a b).symm
def acZ:((↑a:Int)- 0).toNat=a:=congrArg nU (Int.sub_zero a)
def ac0:d=b->a+b+0+c=a+(d+c):=λh0=>bR (cC (Io a b c d) 484035764729144599249340879302 rfl h0) (cC (Io a b c d) 475389847945442029033589330373 rfl h0)
def ac1:a=2 ^ 24->b<=10000->¬a<0+b:=cC (ip a b) 27223918911577011061670665705153670156550 rfl
def ac2:(↑a:Int)≠(↑b:Int)↔a≠b:=not_congr Int.ofNat_inj
def Wf:a<10000->a<100000:=cC (jO a) 1145124266549981707331324103376900 rfl
def ac3:a<=c->min (a- b) (c- b)=a- b:=λh=>iz (N5 h b)
def ac4:a+b- c<=a- c+b:=N6 (by rw[yJ];exact wc lsa b)
def ac5:b<=a->a- b+c<=a+c- b:=λh=>fg (Nat.sub_add_comm h).symm
def Wg:a- b<=a- b:=ab _
def ac6:a+1- a=1:=bO ..
def O0:a+(b+1)<10000->a+b<10000:=cC (ip a b) 220481282115516972916502815883922483784450052 rfl
def ac7:a<=c->c+(d+e)=b->a<=b:=cC (XE a b c d e) 23908225595617316200708 rfl
def ac8:a+(b+1)<10000->a<10000:=cC (ip a b) 53828438016399478368711463666300193079300 rfl
def ac9:a<=c+1->c+(b+1)<10000->a+b<10000:=cC (l8 a b c) 15151358337060721484948757326613702400888881385079046404 rfl
def Wh:a+(b+c)=d->a+b+c=d:=λh0=>bR (cC (Io a b c d) 2144327929795197154639877 rfl h0) (cC (Io a b c d) 1837295711716681787129862 rfl h0)
def O1:a<=9000->a<=10000:=cC (jO a) 729511381185421381892 rfl
def ada:0+a=a:=bR (cC (jO a) 4362080257 rfl) (cC (jO a) 4295229697 rfl)
def adb:a<=9000->a<10000:=cC (jO a) 191237028049327328711414020 rfl
def ade:a<=0+b->b<=9000->a<=10000:=cC (ip a b) 50131640388018792759687681147140 rfl
def adf:(¬a=0)->(↑(a- 1):Int)=(↑a:Int)- 1:=λh=>sk (SN h)
def adg:¬(↑(a- 1):Int)<0:=nV.mpr (dO _)
def adh:a+(b+1)<1000->a+1+b<1000:=cC (ip a b) 45137062267225424712027343890172175235029139460 rfl
def adi:a+(b+1)<1000->a<100000:=cC (ip a b) 19211997166750618002603691739857986519044 rfl
def adj:a<1000->a<1000:=cC (jO a) 39150160774620620598177710084 rfl
def adk:¬97+a=34:=cC (jO a) 431081631518725 rfl
def adl:¬65+(a- 6)=34:=cC (ip a (a- 6)) 431082688483333 rfl
def Wi:a<=3->a<=3:=cC (jO a) 13267171545348 rfl
def adm:97+a≠92:=cC (jO a) 826905817518085 rfl
def adn:a<6->97+a<128:=cC (jO a) 1460413978133815976283421163143172 rfl
def ado:a<12->65+(a- 6)≠92:=λh0 h1=>cC (ip a (a- 6)) 1323747776063222879039349573566468 rfl h0 h1 (jU ..)
def adp:a<12->65+(a- 6)<128:=λh0=>cC (ip a (a- 6)) 382838761961901277761785225759384944644 rfl h0 (jU ..)
def Wj:a<=5->b<=5*c->a+b<=5*(c+1):=cC (l8 a b c) 330064622376860709437261718229252 rfl
def Wk:a<=5*c->b<=100->c+d<=12->a+b<=9000:=cC (Io a b c d) 3101334926489534431181104862251657349832964 rfl
def Wl:6<=a->a=6+(a- 6):=λh=>(mT h).symm
def O2:6+a<12->a<6:=cC (jO a) 476626579060275455271691878404 rfl
def adq:a+1<=b->a<=b- 1:=wb
def ads:a- 1- b=a- (b+1):=Nat.sub_right_comm a 1 b
def adt:(¬a+1<=b)->(¬b=0)->¬a<=b- 1:=λh k l=>h (Nat.succ_le_of_lt (bI l (SM (SN k) N7)))
def adu:a<c->c<b->a+1<b:=cC (l8 a b c) 6667238839694705778557394500842700804 rfl
def adv:b<=a->(¬b<a)->a=b:=λh k=>bR (iT k) h
def adw:c<b->c=a->a+1<=b:=cC (l8 a b c) 97021314557629144666234884 rfl
def adx:a<=b+1+c->a<=b+(c+1):=cC (l8 a b c) 1259096610135883286818324740 rfl
def ady:a+1+b=c->a+(b+1)=c:=λh0=>bR (cC (l8 a b c) 7447308896725427948081905669 rfl h0) (cC (l8 a b c) 1258794304930032406517252102 rfl h0)
def adz:a+1<=b->b=c->c=a->False:=cC (l8 a b c) 302157217388617285636 rfl
def adA:a<b->b<100->a<100:=cC (ip a b) 303085082132484087316915119445250424836 rfl
def adB:a<100->b=2 ^ 24->a<=b:=cC (ip a b) 1642974841893832489760169746776068 rfl
def O3:a<100->a<1000:=cC (jO a) 39150160774620497177997492228 rfl
def adC:a≠b->a<=b->a<b:=λh k=>qM k h
def adE:a<=c->c<b->a<b:=cC (l8 a b c) 97021314557888286870757636 rfl
def adF:a<1000-> -536870912< (↑a:Int)/\(↑a:Int)<536870912:=λh=>⟨SV (by decide) (dO a),jo (cM.mpr h) (by decide)⟩
def adG:a<=0+b->b<6->a<6:=cC (ip a b) 124944797941148514748100476125053188 rfl
def adH:¬97+a=40:=cC (jO a) 457469910585349 rfl
def adI:¬97+a=41:=cC (jO a) 461867957096453 rfl
def Wm:a<6->a<1000:=cC (jO a) 611721262103445436983689220 rfl
def adJ:1+a%4<1000:=bI (dX (ce (fP _ (by decide))) 1) (by decide:1+4<1000)
def adK:1+a%4<9:=iM (pP (fP _ (by decide:4>0)) 1) (by decide)
def adL:1+a/4%8<1000:=bI (dX (ce (fP _ (by decide))) 1) (by decide:1+8<1000)
def adN:1+a/4%8<9:=pP (fP _ (by decide:8>0)) 1
def adO:¬65+a=40:=cC (jO a) 457469893808133 rfl
def adP:¬65+a=41:=cC (jO a) 461867940319237 rfl
def adQ:a<100->a<100000:=cC (jO a) 17892566664843464149238804660228 rfl
def adR:(a<b\/a=b/\6+c<c)->b<=a->False:=λh k=>h.elim (dE k) λl=>absurd l.2 (dE (gn ..))
def adT:a=b->b<6->a<6:=cC (ip a b) 476626579060167368881608872197 rfl
def Wn:a<=b->b+c<=12->a<1000:=cC (l8 a b c) 2505610289575714199082877604100 rfl
def Wo:a<b+1->(↑a:Int)< (↑b:Int)+1:=λh=>cM.mpr h
def Wp:(¬a<b+1)->¬(↑a:Int)< (↑b:Int)+1:=λh k=>h (cM.mp k)
def adU:a<=0+c->c=b->a<=b:=cC (l8 a b c) 373566016004330619140 rfl
def adV:a<6->a<6:=cC (jO a) 1818186107865018344423428 rfl
def Wq:6<=b->b- 6=a->6+a=b:=λh k=>k▸mT h
def adW:a+1<=c->c<b+1->a+1<=b+1:=cC (l8 a b c) 354319035670416830091324580474798767095812 rfl
def adX:a+1<=b->a+1<=b:=cC (ip a b) 370106943351319445508 rfl
def adY:a+1<=a+1:=cC (jO a) 286147918184449 rfl
def adZ:(¬b<a+1)->a+1<=b:=cC (ip a b) 97021314556762586695880711 rfl
def ad0:a=0->(¬a<b+1)->False:=cC (ip a b) 4801918352835536228613 rfl
def ad1:a<=b->b<6->a<6:=cC (ip a b) 476626579060167368881608872196 rfl
def Wr:¬6+a<6:=cC (jO a) 108372337195483140 rfl
def KG:6+a- 6=a:=bO ..
def ad2:b=a+1->(↑a:Int)=(↑b:Int)+ -1:=λh=>by rw[h];exact(yL a 1).symm
def ad3:a=b->b<=6->a<100:=cC (ip a b) 68913569096476937608515845 rfl
def ad4:a<6->a=6+b->False:=cC (ip a b) 24055708346323455721476 rfl
def ad5:a<6->¬6<=a:=cC (jO a) 4720071890054692868 rfl
def O4:a<6->a<12:=cC (jO a) 3631574837286962106482692 rfl
def ad6:a<c->b=c->a<=b:=cC (l8 a b c) 373566293149997088772 rfl
def ad7:b+1<=a->¬a=b:=cC (ip a b) 1425314979008516 rfl
def ad8:a<b+1->(¬a<b)->a=b:=λh k=>bR (fR h) (iT k)
def ad9:a<=c*d->b<=d->a+b<=c*d+d:=cC (Io a b d (c*d)) 28850798929249439871236 rfl
def aea:a<=b*c->b*c<=6*6->a<1000:=cC (ip a (b*c)) 2505610289575712510229880000772 rfl
def aeb:b+(c+a)=d->d=6->a<=6:=cC (Io a b c d) 116378080328352058136612869 rfl
def aec:a<=3->a<=98:=cC (jO a) 994031543521540 rfl
def aed:a<=3->2+a<=10000:=cC (jO a) 46688728399722121531652 rfl
def aee:a+(b+c)<=1000->a+b+c<=1000:=cC (l8 a b c) 160359156455835755039893569421316 rfl
def aef:a+(b+1)<=1000->a+1+b<=1000:=cC (ip a b) 656831020606360959189862036440891396 rfl
def Ws:a+(b+c)<=1000->a+b<=10000:=cC (l8 a b c) 783306885996286508247187210244 rfl
def aeg:1<=b->(↑(a+b):Int)- 1=(↑(a+b- 1):Int):=λh=>(sk (aA h (gn ..))).symm
def aeh:a+(b+1)<=1000->a<100000:=cC (ip a b) 73287953059198829660811202077409284 rfl
def Wt:a+b<=5*c->c+d<=12->a+b<=1000:=cC (Io a b c d) 656831024299988318208222529605353476 rfl
def aei:b+a<=5*c->c+d<=12->a<=10000:=cC (Io a b c d) 3208424984847922174204387722809348 rfl
def aej:34=97+a->False:=cC (jO a) 1141362863251526 rfl
def aek:40≠65+(a- 6):=cC (ip a (a- 6)) 1418439793475654 rfl
def ael:41≠65+(a- 6):=cC (ip a (a- 6)) 1418439793479750 rfl
def aem:97+a≠34:=cC (jO a) 431081631518725 rfl
def aen:65+(a- 6)≠34:=cC (ip a (a- 6)) 431082688483333 rfl
def aeo:a<=5*b->b<=12->a<=60:=cC (ip a b) 585651863935010706039044 rfl
def aep:a<=60->a<=16777214:=cC (jO a) 75557863167638400667908 rfl
def Wu:a<=60->a<=1048576:=cC (jO a) 7121028685077475758340 rfl
def aer:a<=9000->a+1<50000:=cC (jO a) 572562143099801748880209236463876 rfl
def aes:a<=60->a<=9999:=cC (jO a) 11398333855928684804 rfl
def Wv:a<=60->a<=10000:=cC (jO a) 11398615330905395460 rfl
def aet:a<=9000->a+1<=10000:=cC (jO a) 191237028049327328711414020 rfl
def aeu:a<=60->a<=9998:=cC (jO a) 11398052380951974148 rfl
def aev:a<=61000000->b<=61000000->c<=61000000->d<=61000000->e<=61000000->f<=61000000->a+(b+(c+(d+(e+f))))<500000000:=λh i j k l m=>bI (gb h (gb i (gb j (gb k (gb l m))))) (by decide)
def aew:b<=a->a+b<=2*a:=cC (ip a b) 72629687977001284 rfl
def Ww:a<=64->a<50000:=cC (jO a) 34127363151313179942850820 rfl
def Wx:a<=6->a+1<=10000:=cC (jO a) 46688727551105304105220 rfl
def aex:a<=64->b<=a->a+b<=10000:=cC (ip a b) 12239170093691855542086013192 rfl
def aey:a+(b+1)=c->c=6->a<6:=cC (l8 a b c) 1952262467830445634141425938481157 rfl
def aez:a<=2*c->c<=b->a<=b*2:=cC (l8 a b c) 9817198973207557185796 rfl
def aeA:a<=b->a<=b+1:=cC (ip a b) 286216687997188 rfl
def aeB:a<=b->b<6->a<=6:=cC (ip a b) 1818407505103835536314628 rfl
def aeC:a<=b->b<=2 ^ 5->a<=64:=cC (ip a b) 11807141474345962983684 rfl
def aeD:a<6->6+a<12:=cC (jO a) 951995554588366884685186613252 rfl
def aeE:6<=6+a:=cC (jO a) 281337159745 rfl
def aeF:a+1=b->(↑a:Int)=(↑b:Int)- 1:=λh=>h▸(yL a 1).symm
def aeG:a+1<=b->(↑a:Int)<=(↑b:Int)- 1:=λh=>Int.le_sub_one_of_lt (cM.mpr h)
def aeH:6+c<6->¬a=b:=λh=>absurd h (dE (bh ..))
def aeI:a<=9000->a<50000:=cC (jO a) 2184151241684043523214545156 rfl
def aeJ:1+((↑a:Int)- 1)=(↑a:Int):=(uh ..).trans (SR ..)
def aeK:a≠b->(↑a:Int)≠(↑b:Int):=λh k=>h (qk k)
def Wy:97+a=40->False:=cC (jO a) 457469910585349 rfl
def aeL:97+a=97+b->b≠a->False:=λh k=>k (pQ h).symm
def aeM:97+a<97->False:=cC (jO a) 259425639086726316036 rfl
def aeN:97+a=65+(b- 6)->b<12->False:=λh0 h1=>cC (l8 a b (b- 6)) 6772114105459816715570997981490712581 rfl h0 h1 (jU ..)
def aeO:97+a=41->False:=cC (jO a) 461867957096453 rfl
def aeP:b+1=a->b+1<=c->c=6->1<=a/\a<=6:=λh k l=>h▸⟨gn ..,l▸k⟩
def aeQ:a+(b+1)<=60->a<60:=cC (ip a b) 9825549755743285739946661396484 rfl
def aeR:a<=6->(↑a:Int)<=1000:=λh=>ec (fK.mpr h) (by decide)
def aeS:a<60->b<=6->a+b<=10000:=cC (ip a b) 205339200322608640851085765281857540 rfl
def O5:a<=6->a- 1<=6:=λh=>aA (jU ..) h
def aeT:a- 1<=a:=jU ..
def aeU:1<=a->a- (a- 1)=1:=λh=>Cc h
def aeV:a<=5*c->b<=100->c+d<=12->a+b<=8000:=cC (Io a b c d) 2757649735899386583083096508745571456262404 rfl
def aeW:a<60->b<=6->1+(a+(b- 1))<=9000:=λh k=>aA (dX (gb (ce h) (aA (jU ..) k)) 1) (by decide)
def aeX:a<=8000->a+1<=9000:=cC (jO a) 172158667458533960989020420 rfl
def aeY:a<=6->b<=6->c<=6->d<=6->e<=6->f<=6->a+(b+(c+(d+(e+(f+0)))))<=36:=cC (lc6 a b c d e f) 176712321151228619036728260840482622285112478791656382463939676938509488388 rfl
def aeZ:a<=36->b=2 ^ 24->a<=b:=cC (ip a b) 6267451636863069495206351108 rfl
def ae0:a<=72->a<100000:=cC (jO a) 68254725131391388493025540 rfl
def ae2:816<=a->0<a:=cC (jO a) 296318845481663266884 rfl
def ae3:(¬63< (↑a:Int))->a<=63:=λh=>(@fK a 63).mp (nV.mp h)
end
noncomputable abbrev pw:Program:=pH
abbrev MM (w:jC):Model:=model pw w
inductive PV where
 |con (v:Value)
 |int (i:Int)
 |fF (u:UInt64)
 |str (s:Str)
 |tup (l:List PV)
 |lst (l:List PV)
 |oO (l:List (Str×PV))
inductive AV where
 |pv (d:PV)
 |fM (i:Nat)
 |tA (args:Arguments) (body:Expr) (scope:Scope) (cells:Sn)
 |inst (i:Nat)
inductive AO where
 |qa
 |list (l:List PV)
 |dict (l:List (Str×PV))
 |ns (m:List (Str×Option AV))
 |cell (v:Option AV)
 |attrs (m:List (Str×AV))
structure aM where
 F:Addr->Option Obj
 Z:Nat->Addr
 pin:Addr->Option Obj
structure aM.le (n:Nat) (c c':aM):Prop where
 F:∀a o,c.F a=aa o->c'.F a=aa o
 Z:∀i,i<n->c'.Z i=c.Z i
 pin:c'.pin=c.pin
def aM.le.refl (n:Nat) (c:aM):aM.le n c c:=⟨λ_ _ h=>h,λ_ _=>rfl,rfl⟩
def aM.le.trans (h:aM.le n a b) (k:aM.le m b c) (hm:n<=m):aM.le n a c:=
 ⟨λx o e=>k.F x o (h.F x o e),λi hi=>(k.Z i (a8 hi hm)).trans (h.Z i hi),k.pin.trans h.pin⟩
def aM.le.weak (h:aM.le m a b) (hm:n<=m):aM.le n a b:=⟨h.F,λi hi=>h.Z i (a8 hi hm),h.pin⟩
inductive dk (w:jC) (F:Addr->Option Obj):Value->PV->Prop
 |con (v:Value):dk w F v (PV.con v)
 |int (i:Int) (t:CU):dk w F (.int i t) (.int i)
 |fF (u:UInt64) (t:CU):dk w F (.float u t) (.fF u)
 |str (x:Str) (t:CU):dk w F (.str x t) (.str x)
 |tup {a:Addr} {vs:Array Value} {n:Nat} {l:List PV}:F a=aa {cls:= .type "tuple",data:= .seq vs n}->vs.size=l.length->
   (∀(i:Nat) (v:Value) (d:PV),vs[i]? =aa v->l[i]? =aa d->dk w F v d)->dk w F (.ref a) (.tup l)
 |lst {a:Addr} {vs:Array Value} {n:Nat} {l:List PV}:F a=aa {cls:= .type "list",data:= .seq vs n}->vs.size=l.length->
   (∀(i:Nat) (v:Value) (d:PV),vs[i]? =aa v->l[i]? =aa d->dk w F v d)->dk w F (.ref a) (.lst l)
 |oO {a:Addr} {es:Array eL} {n:Nat} {l:List (Str×PV)}:(a==sysModules)=false->F a=aa {cls:= .type "dict",data:= .dict es n}->es.size=l.length->(l.map (·.1)).Nodup->
   (∀(i:Nat) (e:eL) (k:Str) (d:PV),es[i]? =aa e->l[i]? =aa (k,d)->e.hash=hashStr w k/\∃t,e.key= .str k t)->
   (∀(i:Nat) (e:eL) (k:Str) (d:PV),es[i]? =aa e->l[i]? =aa (k,d)->dk w F e.val d)->dk w F (.ref a) (.oO l)
def dk.mono (h:dk w F v d) (hF:∀a o,F a=aa o->F' a=aa o):dk w F' v d:=by
 induction h with
 |con v=>exact .con v
 |int i t=>exact .int i t
 |fF u t=>exact .fF u t
 |str x t=>exact .str x t
 |tup a b c ih=>exact .tup (hF _ _ a) b ih
 |lst a b c ih=>exact .lst (hF _ _ a) b ih
 |oO m a b n c d ih=>exact .oO m (hF _ _ a) b n c ih
def yO (F:Addr->Option Obj) (cd:Value):Prop:=∃c o vs q t,cd= .ref c/\F c=aa o/\o.data= .fields vs/\vs[1]? =aa (.str q t)
inductive Mm (F:Addr->Option Obj) (a:Addr) (ps:Arguments) (b:Expr) (sc:Scope) (cl:List (Str×Addr)):Prop
 |mk {o:Obj} {fd:FuncData} (h1:F a=aa o) (h2:o.cls= .type "function") (h3:o.data= .func fd) (h4:fd.globals=mainGlobals) (h5:fd.builtins=builtinsNs) (h6:fd.defaults= .none) (h7:fd.kwdefaults= .none) (h8:yO F fd.code)
  (h9:fd.params=ps) (Ir:fd.body= .expr b) (It:fd.scope=sc) (Ol:fd.closure=cl)
def Mm.mono (h:Mm F a ps b sc cl) (hF:∀a o,F a=aa o->F' a=aa o):Mm F' a ps b sc cl:=by obtain(⟨h1,h2,h3,h4,h5,h6,h7,⟨x,o,vs,q,t,a,b,d⟩,h9,Ir,It,Ol⟩):=h;exact⟨hF _ _ h1,h2,h3,h4,h5,h6,h7,⟨x,o,vs,q,t,a,hF _ _ b,d⟩,h9,Ir,It,Ol⟩
inductive cT (w:jC) (c:aM) (n:Nat):Value->AV->Prop
 |pv {v:Value} {d:PV}:dk w c.F v d->cT w c n v (.pv d)
 |fM {i:Nat}:i<n->cT w c n (.ref (c.Z i)) (.fM i)
 |tA {a:Addr} {ps:Arguments} {b:Expr} {sc:Scope} {cells:Sn}:Mm c.F a ps b sc (cells.map λp=>(p.1,c.Z p.2))->(∀p∈cells,p.2<n)->cT w c n (.ref a) (.tA ps b sc cells)
 |inst {a:Addr} {o:Obj} {i:Nat}:c.F a=aa o->o.cls= .ref 182->(∀k,o.data≠ .cls k)->o.dict=aa (c.Z i)->i<n->cT w c n (.ref a) (.inst i)
def cT.j6 (h:cT w c n v d) (hF:∀a o,c.F a=aa o->c'.F a=aa o) (DV:∀i,i<n->c'.Z i=c.Z i) (hn:n<=n'):cT w c' n' v d:=by
 induction h with
 |pv h=>exact .pv (h.mono hF)
 |fM h=>exact(DV _ h)▸(.fM (a8 h hn))
 | @tA a ps b sc cells h hl=>exact .tA ((cj λp hp=>by rw[DV _ (hl p hp)]:(cells.map λp=>(p.1,c.Z p.2))=cells.map λp=>(p.1,c'.Z p.2))▸h.mono hF) λp hp=>a8 (hl p hp) hn
 |inst a b d e f=>exact .inst (hF _ _ a) b d ((DV _ f)▸(e)) (a8 f hn)
def cT.mono (h:cT w c n v d) (hc:aM.le n c c') (hn:n<=n'):cT w c' n' v d:=h.j6 hc.F hc.Z hn
inductive ic (w:jC) (c:aM) (n:Nat):Obj->AO->Prop
 |qa (o:Obj):ic w c n o .qa
 |list {vs:Array Value} {e:Nat} {l:List PV}:vs.size=l.length->(∀(i:Nat) (v:Value) (d:PV),vs[i]? =aa v->l[i]? =aa d->dk w c.F v d)->
   ic w c n {cls:= .type "list",data:= .seq vs e} (.list l)
 |dict {es:Array eL} {e:Nat} {l:List (Str×PV)}:es.size=l.length->(l.map (·.1)).Nodup->
   (∀(i:Nat) (e:eL) (k:Str) (d:PV),es[i]? =aa e->l[i]? =aa (k,d)->e.hash=hashStr w k/\∃t,e.key= .str k t)->
   (∀(i:Nat) (e:eL) (k:Str) (d:PV),es[i]? =aa e->l[i]? =aa (k,d)->dk w c.F e.val d)->
   ic w c n {cls:= .type "dict",data:= .dict es e} (.dict l)
 |ns {o:Obj} {es:Array eL} {ep:Nat} {m:List (Str×Option AV)}:o.data= .dict es ep->CW es->(m.map (·.1)).Nodup->
   (∀(x:Str) (d:AV),(x,aa d)∈m->∃v,nsFind es x=aa v/\cT w c n v d)->
   (∀x:Str,(x,ac)∈m->nsFind es x=ac)->ic w c n o (.ns m)
 |cell {o:Obj} {v:Option Value} {d:Option AV}:o.data= .cell v->o.slots= #[]->(∀x,d=aa x->∃u,v=aa u/\cT w c n u x)->(d=ac->v=ac)->ic w c n o (.cell d)
 |attrs {o:Obj} {es:Array eL} {ep:Nat} {m:List (Str×AV)}:o.data= .dict es ep->CW es->VC es->(m.map (·.1)).Nodup->
   (∀(x:Str) (d:AV),(x,d)∈m->∃v,nsFind es x=aa v/\cT w c n v d)->(∀x:Str,x∉m.map (·.1)->nsFind es x=ac)->ic w c n o (.attrs m)
def ic.j6 (h:ic w c n o ao) (hF:∀a o,c.F a=aa o->c'.F a=aa o) (DV:∀i,i<n->c'.Z i=c.Z i) (hn:n<=n'):ic w c' n' o ao:=by
 induction h with
 |qa o=>exact .qa o
 |list a b=>exact .list a λi v d h1 h2=>(b i v d h1 h2).mono hF
 |dict a b d e=>exact .dict a b d λi e' k x h1 h2=>(e i e' k x h1 h2).mono hF
 |ns a b nd d e=>exact .ns a b nd (λx y h=>xe12 (d x y h) λv h1 h2=>⟨v,h1,h2.j6 hF DV hn⟩) e
 |cell a b d e=>exact .cell a b (λx h=>xe12 (d x h) λv h1 h2=>⟨v,h1,h2.j6 hF DV hn⟩) e
 |attrs a b u nd d e=>exact .attrs a b u nd (λx y h=>xe12 (d x y h) λv h1 h2=>⟨v,h1,h2.j6 hF DV hn⟩) e
def ic.mono (h:ic w c n o ao) (hc:aM.le n c c') (hn:n<=n'):ic w c' n' o ao:=h.j6 hc.F hc.Z hn
inductive XN (c:aM) (n i:Nat) (v:Value):Prop
 |mk (e:v= .ref (c.Z i)) (h:i<n)
inductive TB (w:jC) (F:Addr->Option Obj) (T:String) (l:List PV) (u:Value):Prop
 |mk (a:Addr) (vs:Array Value) (n:Nat) (e:u= .ref a) (h:F a=aa {cls:= .type T,data:= .seq vs n}) (hs:vs.size=l.length) (hp:∀(i:Nat) (v:Value) (d:PV),vs[i]? =aa v->l[i]? =aa d->dk w F v d)
inductive Wz (w:jC) (F:Addr->Option Obj) (l:List PV) (o:Obj):Prop
 |mk (vs:Array Value) (n:Nat) (e:o= {cls:= .type "list",data:= .seq vs n}) (hs:vs.size=l.length) (hp:∀(i:Nat) (v:Value) (d:PV),vs[i]? =aa v->l[i]? =aa d->dk w F v d)
inductive KH (w:jC) (F:Addr->Option Obj) (l:List (Str×PV)) (o:Obj):Prop
 |mk (es:Array eL) (n:Nat) (e:o= {cls:= .type "dict",data:= .dict es n}) (hs:es.size=l.length) (nd:(l.map (·.1)).Nodup) (hk:∀(i:Nat) (e:eL) (k:Str) (d:PV),es[i]? =aa e->l[i]? =aa (k,d)->e.hash=hashStr w k/\∃t,e.key= .str k t)
  (hp:∀(i:Nat) (e:eL) (k:Str) (d:PV),es[i]? =aa e->l[i]? =aa (k,d)->dk w F e.val d)
def PSh (w:jC) (F:Addr->Option Obj) (v:Value):PV->Prop
 | .con u=>v=u
 | .int i=>∃t,v= .int i t
 | .fF i=>∃t,v= .float i t
 | .str i=>∃t,v= .str i t
 | .tup l=>TB w F "tuple" l v
 | .lst l=>TB w F "list" l v
 | .oO l=>∃a o,v= .ref a/\(a==sysModules)=false/\F a=aa o/\KH w F l o
def dk.sh (h:dk w F v d):PSh w F v d:=by
 induction h with
 |con=>exact rfl
 |tup a b c=>exact⟨_,_,_,rfl,a,b,c⟩
 |lst a b c=>exact⟨_,_,_,rfl,a,b,c⟩
 |oO m x a b d e=>exact⟨_,_,rfl,m,x,_,_,rfl,a,b,d,e⟩
 |_=>exact⟨_,rfl⟩
def ASh (w:jC) (c:aM) (n:Nat) (v:Value):AV->Prop
 | .pv d=>dk w c.F v d
 | .fM i=>XN c n i v
 | .inst i=>∃a o,v= .ref a/\c.F a=aa o/\o.cls= .ref 182/\(∀k,o.data≠ .cls k)/\o.dict=aa (c.Z i)/\i<n
 | .tA ps b sc cells=>∃a,v= .ref a/\Mm c.F a ps b sc (cells.map λp=>(p.1,c.Z p.2))/\∀p∈cells,p.2<n
def cT.sh (h:cT w c n v d):ASh w c n v d:=by
 induction h with
 |pv h=>exact h
 |fM h=>exact⟨rfl,h⟩
 |tA h hl=>exact⟨_,rfl,h,hl⟩
 |inst a b d e f=>exact⟨_,_,rfl,a,b,d,e,f⟩
def OSh (w:jC) (c:aM) (n:Nat) (o:Obj):AO->Prop
 | .qa=>True
 | .list l=>Wz w c.F l o
 | .dict l=>KH w c.F l o
 | .ns m=>∃es ep,o.data= .dict es ep/\CW es/\(m.map (·.1)).Nodup/\(∀(x:Str) (d:AV),(x,aa d)∈m->∃v,nsFind es x=aa v/\cT w c n v d)/\∀x:Str,(x,ac)∈m->nsFind es x=ac
 | .cell d=>∃v,o.data= .cell v/\o.slots= #[]/\(∀x,d=aa x->∃u,v=aa u/\cT w c n u x)/\(d=ac->v=ac)
 | .attrs m=>∃es ep,o.data= .dict es ep/\CW es/\VC es/\(m.map (·.1)).Nodup/\(∀(x:Str) (d:AV),(x,d)∈m->∃v,nsFind es x=aa v/\cT w c n v d)/\∀x:Str,x∉m.map (·.1)->nsFind es x=ac
def ic.sh (h:ic w c n o d):OSh w c n o d:=by
 induction h with
 |qa=>trivial
 |list a b=>exact⟨_,_,rfl,a,b⟩
 |dict a b d e=>exact⟨_,_,rfl,a,b,d,e⟩
 |ns a b nd d e=>exact⟨_,_,a,b,nd,d,e⟩
 |cell a b d e=>exact⟨_,a,b,d,e⟩
 |attrs a b u nd d e=>exact⟨_,_,a,b,u,nd,d,e⟩
noncomputable def cm:List (Addr×Addr):=[(317,313),(324,320),(329,327)]
def ui (F:Addr->Option Obj) (c P:Addr):Prop:=
 ∃o vs Kt tf Ci tg Zm text tt,F c=aa o/\o.cls= .type "code" /\o.data= .fields vs/\vs[11]? =aa (.ref P)/\vs.getD 11 .none= .ref P/\vs.getD 18 .none= .str Kt tf/\
  vs.getD 7 .none= .int Ci tg/\vs.getD 9 .none= .bool Zm/\vs.getD 10 .none= .int text tt/\c≠P
def theDef (x:Str):Arguments×List Stmt×Scope:=(pw.theDef x).getD (⟨[],[],ac,[],[],ac,[]⟩,[],default)
def wo (x:Str):Arguments×List Stmt×Scope:=(theDefIn ((pw.theClass "Headers").elim [] (·.2.1)) x).getD (⟨[],[],ac,[],[],ac,[]⟩,[],default)
noncomputable def fdOf (name qual:Str) (d:Arguments×List Stmt×Scope) (dv kv:Value) (code:Addr) (pm:Value):FuncData:=
 {name:=name,qualname:=qual,params:=d.1,body:= .stmts d.2.1,scope:=d.2.2,globals:=3,closure:=[],defaults:=dv,kwdefaults:=kv,doc:= .none,pyModule:=pm,annotations:=ac,code:= .ref code,closureTuple:= .none,builtins:=0}
structure eh where
 addr:Addr
 name:Str
 qual:Str
 d:Arguments×List Stmt×Scope
 dv:Value
 kv:Value
 code:Addr
def eh.fd (r:eh) (pm:Value):FuncData:=fdOf r.name r.qual r.d r.dv r.kv r.code pm
def cQ:eh:=⟨195,ah "insort_right",ah "insort_right",theDef "insort_right",.ref 187,.ref 188,194⟩
def cR:eh:=⟨204,ah "bisect_right",ah "bisect_right",theDef "bisect_right",.ref 196,.ref 197,203⟩
def dQ:eh:=⟨213,ah "insort_left",ah "insort_left",theDef "insort_left",.ref 205,.ref 206,212⟩
def fk:eh:=⟨222,ah "bisect_left",ah "bisect_left",theDef "bisect_left",.ref 214,.ref 215,221⟩
def oh:eh:=⟨229,ah "rgb_to_yiq",ah "rgb_to_yiq",theDef "rgb_to_yiq",.none,.none,228⟩
def oj:eh:=⟨236,ah "yiq_to_rgb",ah "yiq_to_rgb",theDef "yiq_to_rgb",.none,.none,235⟩
def om:eh:=⟨243,ah "rgb_to_hls",ah "rgb_to_hls",theDef "rgb_to_hls",.none,.none,242⟩
def oo:eh:=⟨250,ah "hls_to_rgb",ah "hls_to_rgb",theDef "hls_to_rgb",.none,.none,249⟩
def r_v:eh:=⟨257,ah "_v",ah "_v",theDef "_v",.none,.none,256⟩
def oq:eh:=⟨264,ah "rgb_to_hsv",ah "rgb_to_hsv",theDef "rgb_to_hsv",.none,.none,263⟩
def ou:eh:=⟨271,ah "hsv_to_rgb",ah "hsv_to_rgb",theDef "hsv_to_rgb",.none,.none,270⟩
def ni:eh:=⟨278,ah "_iter_escaped_chars",ah "_iter_escaped_chars",theDef "_iter_escaped_chars",.none,.none,277⟩
def gY:eh:=⟨285,ah "_strip_quoted_realnames",ah "_strip_quoted_realnames",theDef "_strip_quoted_realnames",.none,.none,284⟩
def jp:eh:=⟨292,ah "_check_parenthesis",ah "_check_parenthesis",theDef "_check_parenthesis",.none,.none,291⟩
def iu:eh:=⟨299,ah "_pre_parse_validation",ah "_pre_parse_validation",theDef "_pre_parse_validation",.none,.none,298⟩
def rF:eh:=⟨304,ah "_law_told",ah "_law_told",theDef "_law_told",.none,.none,303⟩
def ow:eh:=⟨311,ah "_law_unlike",ah "_law_unlike",theDef "_law_unlike",.none,.none,310⟩
def rG:eh:=⟨318,ah "_law_hues",ah "_law_hues",theDef "_law_hues",.none,.none,317⟩
def bj:eh:=⟨325,ah "_law_refused",ah "_law_refused",theDef "_law_refused",.none,.none,324⟩
def Ax:eh:=⟨330,ah "law",ah "law",theDef "law",.none,.none,329⟩
def j7:eh:=⟨76,ah "__init__",ah "Headers.__init__",wo "__init__",.ref 69,.none,75⟩
def mz:eh:=⟨83,ah "_convert_string_type",ah "Headers._convert_string_type",wo "_convert_string_type",.none,.none,82⟩
def qP:eh:=⟨121,ah "get_all",ah "Headers.get_all",wo "get_all",.none,.none,120⟩
def wq:eh:=⟨146,ah "items",ah "Headers.items",wo "items",.none,.none,145⟩
def fy:eh:=⟨179,ah "add_header",ah "Headers.add_header",wo "add_header",.none,.none,178⟩
def fV:List eh:=[cQ,cR,dQ,fk,oh,oj,om,oo,r_v,oq,ou,ni,gY,jp,iu,rF,ow,rG,bj,Ax,j7,mz,qP,wq,fy]
noncomputable def cf:List (Str×Option Value):=[
 (ah "_name_disallowed_re",aa (.ref 48)),(ah "_value_disallowed_re",aa (.ref 53)),(ah "Headers",aa (.ref 182)),
 (ah "insort_right",aa (.ref 195)),(ah "bisect_right",aa (.ref 204)),(ah "insort_left",aa (.ref 213)),(ah "bisect_left",aa (.ref 222)),
 (ah "ONE_THIRD",aa (.float 4599676419421066581 612)),(ah "ONE_SIXTH",aa (.float 4595172819793696085 616)),(ah "TWO_THIRD",aa (.float 4604180019048437077 620)),
 (ah "rgb_to_yiq",aa (.ref 229)),(ah "yiq_to_rgb",aa (.ref 236)),(ah "rgb_to_hls",aa (.ref 243)),(ah "hls_to_rgb",aa (.ref 250)),(ah "_v",aa (.ref 257)),
 (ah "rgb_to_hsv",aa (.ref 264)),(ah "hsv_to_rgb",aa (.ref 271)),(ah "_iter_escaped_chars",aa (.ref 278)),(ah "_strip_quoted_realnames",aa (.ref 285)),
 (ah "_check_parenthesis",aa (.ref 292)),(ah "_pre_parse_validation",aa (.ref 299)),(ah "_law_told",aa (.ref 304)),(ah "_law_unlike",aa (.ref 311)),
 (ah "_law_hues",aa (.ref 318)),(ah "_law_refused",aa (.ref 325)),(ah "__name__",aa (.str "law_ti0077_01" 760)),(ah "__builtins__",aa (.ref 4)),
 (ah "len",ac),(ah "range",ac),(ah "sum",ac),(ah "max",ac),(ah "min",ac),(ah "round",ac),(ah "list",ac),
 (ah "int",ac),(ah "str",ac),(ah "type",ac),(ah "enumerate",ac),(ah "ValueError",ac),(ah "TypeError",ac),(ah "AssertionError",ac),(ah "repr",ac)]
noncomputable def kM:List (Str×Option Value):=[
 (ah "len",aa (.builtin "len")),(ah "range",aa (.type "range")),(ah "sum",aa (.builtin "sum")),(ah "max",aa (.builtin "max")),(ah "min",aa (.builtin "min")),
 (ah "round",aa (.builtin "round")),(ah "list",aa (.type "list")),(ah "int",aa (.type "int")),(ah "str",aa (.type "str")),(ah "type",aa (.type "type")),
 (ah "enumerate",aa (.type "enumerate")),(ah "ValueError",aa (.type "ValueError"))]
noncomputable def iW:List (Str×Option Value):=[
 (ah "__init__",aa (.ref 76)),(ah "_convert_string_type",aa (.ref 83)),(ah "get_all",aa (.ref 121)),(ah "items",aa (.ref 146)),(ah "add_header",aa (.ref 179)),
 (ah "__getattribute__",ac),(ah "__getattr__",ac),(ah "__setattr__",ac),(ah "_headers",ac)]
noncomputable def rH:List (Addr×Addr×List Nat):=[
 (48,47,[14,10,4,1,1,22,0,31,16,127,0,13,7,22,0,31,16,127,0,1]),
 (53,52,[14,14,4,1,1,9,4294966783,0,0,2147483648,0,0,0,0,0,13,11,9,4294966783,0,0,2147483648,0,0,0,0,0,1])]
noncomputable def wt:Pos:=⟨350,0,351,18⟩
noncomputable abbrev dfT (c:Value) (d:Option Addr) (t:CU) (n:Nat) (sl:Array (Option Value)):Obj:=⟨c,d,.seq #[.int 0 t,.none] n,sl⟩
noncomputable abbrev dfK (c:Value) (d:Option Addr) (hs:Int) (t n:Nat) (sl:Array (Option Value)):Obj:=⟨c,d,.dict #[⟨hs,.str "key" t,.none⟩] n,sl⟩
structure cz where
 w:jC
 h₀:iS
 os:OsState
 yx:Bool
 glob:∃mg,h₀.Ns mainGlobals mg/\∀p∈cf,mg p.1=p.2
 blt:∃mb,h₀.Ns builtinsNs mb/\∀p∈kM,mb p.1=p.2
 lim:h₀.NoLimit
 fns:∀r∈fV,∃o pm,h₀.get? r.addr=aa o/\o.cls= .type "function" /\o.data= .func (r.fd pm)/\h₀.CodeRec (.ref r.code) r.qual
 tabs:∀q∈cm,h₀.get? q.2=aa (tableObj #[])/\ui h₀.get? q.1 q.2
 Z7:∀a∈[187,196,205,214],∃o n t,h₀.get? a=aa o/\o.data= .seq #[.int 0 t,.none] n
 NQ:∀a∈[188,197,206,215],∃c d hs t n sl,h₀.get? a=aa (dfK c d hs t n sl)
 mods:∃o,h₀.get? sysModules=aa o
 bmod:∃o,h₀.get? 4=aa o/\o.cls= .type "module" /\o.dict=aa builtinsNs/\o.data= .plain
 cls:∃nm q bs sn sub OJ dd k0 k1 k2 k3 k5,h₀.get? 182=aa (excClassObj nm q 182 181 bs [.type "object"] true sn sub false OJ dd k0 k1 k2 k3 k5 "object.__new__")
 DT:∃mN,h₀.Ns 181 mN/\∀p∈iW,mN p.1=p.2
 pats:∀p∈rH,∃o fs oc items n,h₀.get? p.1=aa o/\o.cls= .type "re.Pattern" /\o.data= .fields fs/\o.dict=ac/\fs.getD 6 .none= .int 0 0/\fs.getD 2 .none= .int 0 0/\fs.getD 5 .none= .ref p.2.1/\
  h₀.get? p.2.1=aa oc/\oc.data= .seq items n/\((items.map iC).map nU).toList=p.2.2
 DU:∃o n,h₀.get? 69=aa o/\o.data= .seq #[.none] n
structure Rel (S:cz) (c:aM) (O:List AO) (h:iS):Prop where
 frozen:∀a o,c.F a=aa o->h.get? a=aa o
 base:∀a o,S.h₀.get? a=aa o->(∀q∈cm,a≠q.2)->c.F a=aa o
 own:∀(i:Nat) (ao:AO),O[i]? =aa ao->∃o,h.get? (c.Z i)=aa o/\ic S.w c O.length o ao
 apart:∀i,i<O.length->c.F (c.Z i)=ac
 inj:∀i j,i<O.length->j<O.length->c.Z i=c.Z j->i=j
 pins:∀a o,c.pin a=aa o->h.get? a=aa o/\c.F a=ac/\(∀i,i<O.length->c.Z i≠a)/\∀q∈cm,q.2≠a
 tabs:∀q∈cm,c.F q.2=ac/\(∀i,i<O.length->c.Z i≠q.2)/\∃ps,h.get? q.2=aa (tableObj ps)/\(u5 ps.toList/\(S.yx=true->q.1=324->codeAmong wt ps.toList=ac))/\∀pos cd,codeAmong pos ps.toList=aa cd->yO c.F cd
noncomputable def wu:Program:=view pH [34]
noncomputable def Ay:List Str:=["_sre", "_wall", "tspecials", "_name_disallowed_re", "_value_disallowed_re", "_formatparam", "Headers", "insort_right", "bisect_right", "insort_left", "bisect_left", "ONE_THIRD", "ONE_SIXTH", "TWO_THIRD", "rgb_to_yiq", "yiq_to_rgb", "rgb_to_hls", "hls_to_rgb", "_v", "rgb_to_hsv", "hsv_to_rgb", "_iter_escaped_chars", "_strip_quoted_realnames", "_check_parenthesis", "_pre_parse_validation", "_law_told", "_law_unlike", "_law_hues", "_law_refused"].map ah
noncomputable def look {α:Type} (h:iS) (a:Addr) (f:Obj->α):Option α:=(h.get? a).map f
noncomputable def Ea (o:Obj):Option (Value×FuncData):=match o.data with| .func fd=>aa (o.cls,{fd with pyModule:= .none})|_=>ac
noncomputable def strOf? :Option Value->Option Str
 |some (.str q _)=>aa q
 |_=>ac
def ww (o:Obj):Option Str:=match o.data with| .fields vs=>strOf? vs[1]? |_=>ac
noncomputable def xZ (o:Obj):Option (Value×Option Value×Value×Value×Value×Value×Value):=match o.data with| .fields vs=>aa (o.cls,vs[11]?,vs.getD 11 .none,vs.getD 18 .none,vs.getD 7 .none,vs.getD 9 .none,vs.getD 10 .none)|_=>ac
noncomputable def ae5:Value->Bool
 | .int n _=>decide (n=0)
 |_=>false
noncomputable def O6:Value->Bool
 | .none=>true
 |_=>false
def WA:List Value->Bool
 | []=>false
 | [_]=>false
 | [a,b]=>ae5 a&&O6 b
 |_::_::_::_=>false
def zP (o:Obj):Bool:=match o.data with| .seq vs _=>WA vs.toList|_=>false
def O7:List eL->Bool
 | []=>false
 | [⟨_,k,v⟩]=>strOf? (aa k)==aa (ah "key")&&O6 v
 |_::_::_=>false
def wx (o:Obj):Bool:=match o.data with| .dict es _=>O7 es.toList|_=>false
noncomputable def Eb (o:Obj):Option (Array Value):=match o.data with| .seq vs _=>aa vs|_=>ac
noncomputable def wy (o:Obj):Option (Value×Option Addr×Value×Value×Value):=match o.data with| .fields fs=>aa (o.cls,o.dict,fs.getD 6 .none,fs.getD 2 .none,fs.getD 5 .none)|_=>ac
noncomputable def zQ (o:Obj):Option (List Nat):=match o.data with| .seq vs _=>aa ((vs.map iC).map nU).toList|_=>ac
noncomputable def nsLook (h:iS) (a:Addr) (l:List (Str×Option Value)):Bool×List (Option Value):=(h.isNs a,l.map λp=>h.nsMap a p.1)
noncomputable def O8:List (Addr×Addr×Nat):=[(317,313,795),(324,320,808),(329,327,814)]
structure C4 where
 glob:Bool×List (Option Value)
 blt:Bool×List (Option Value)
 lim:Bool×List (Option Value)
 fns:List (Option (Option (Value×FuncData)))
 RQ:List (Option (Option Str))
 tabs:List (Option Obj)
 Zg:List (Option (Option (Value×Option Value×Value×Value×Value×Value×Value)))
 Z7:List (Option Bool)
 DU:Option (Option (Array Value))
 NQ:List (Option Bool)
 mods:Bool
 bmod:Option Obj
 cls:Option Obj
 DT:Bool×List (Option Value)
 pats:List (Option (Option (Value×Option Addr×Value×Value×Value)))
 Zh:List (Option (Option (List Nat)))
 size:Nat
 own:Option Value
noncomputable def O9:List (Str×Option Value):=[(ah "sys.recursionlimit",ac)]
def obs (h:iS):C4 where
 glob:=nsLook h mainGlobals cf
 blt:=nsLook h builtinsNs kM
 lim:=nsLook h cStatics O9
 fns:=fV.map λr=>look h r.addr Ea
 RQ:=fV.map λr=>look h r.code ww
 tabs:=cm.map λq=>h.get? q.2
 Zg:=O8.map λq=>look h q.1 xZ
 Z7:=[187,196,205,214].map λa=>look h a zP
 DU:=look h 69 Eb
 NQ:=[188,197,206,215].map λa=>look h a wx
 mods:=(h.get? sysModules).isSome
 bmod:=h.get? 4
 cls:=h.get? 182
 DT:=nsLook h 181 iW
 pats:=rH.map λp=>look h p.1 wy
 Zh:=rH.map λp=>look h p.2.1 zQ
 size:=h.objs.size
 own:=h.nsMap mainGlobals "law"
noncomputable def Pa:Obj:=excClassObj "Headers" "Headers" 182 181 [.type "object"] [.type "object"] true [] [] false ac ac ac ac (aa (.str "Headers" 395)) (aa (.str "Headers" 403)) (aa (.bool true)) "object.__new__"
def good:C4 where
 glob:=(true,cf.map (·.2))
 blt:=(true,kM.map (·.2))
 lim:=(true,O9.map (·.2))
 fns:=fV.map λr=>aa (aa (.type "function",r.fd .none))
 RQ:=fV.map λr=>aa (aa r.qual)
 tabs:=cm.map λ_=>aa (tableObj #[])
 Zg:=O8.map λq=>aa (aa (.type "code",aa (.ref q.2.1),.ref q.2.1,.str "/claim/cut.py" q.2.2,.int 3 0,.bool true,.int 276 0))
 Z7:=[187,196,205,214].map λ(_:Addr)=>aa true
 DU:=aa (aa #[.none])
 NQ:=[188,197,206,215].map λ(_:Addr)=>aa true
 mods:=true
 bmod:=aa {cls:= .type "module",dict:=aa builtinsNs,data:= .plain}
 cls:=aa Pa
 DT:=(true,iW.map (·.2))
 pats:=rH.map λp=>aa (aa (.type "re.Pattern",ac,.int 0 0,.int 0 0,.ref p.2.1))
 Zh:=rH.map λp=>aa (aa p.2.2)
 size:=331
 own:=aa (.ref 330)
def IG (s:bb):C4×Nat:=(obs s.heap,s.toks)
def Mn:LeftO pH wu Ay (λs=>recOk [] s) IG (λ_=>(good,816)) 3728:=λw=>by kernel_rfl
def Pb:cu.wellSaid=true:=by kernel_rfl
def x5:DefRec:=⟨ah "law",(theDef "law").1,(theDef "law").2.1,(theDef "law").2.2,⟨357,0,409,16⟩⟩
def TC:defOf wu (cu.row.name)=aa (x5,[]):=by kernel_rfl
def TF:cu.row.prog.theDef cu.row.name=aa (x5.params,x5.body,x5.scope):=by kernel_rfl
def XO:(chainsOk wu&&opensWell cu.row.prog&&(frees cu.row.toRowW&&cu.row.toRowW.within.isEmpty))=true:=by kernel_rfl
def Ec:cu.row.toRowW.promised:=⟨[.list []],by decide+kernel,by decide+kernel⟩
def Pc:cu.row.prog.bare:=⟨rfl,rfl,rfl,rfl,rfl,by decide+kernel⟩
structure dZ (s s':bb):Prop where
 os:s'.os=s.os
 gens:∀(i:Nat) (x:VF),s.gens[i]? =aa x->s'.gens[i]? =aa x
 bare:mu s.gens->mu s'.gens
def dZ.refl (s:bb):dZ s s:=⟨rfl,λ_ _ h=>h,λh=>h⟩
def dZ.trans (h:dZ a b) (k:dZ b c):dZ a c:=⟨k.os.trans h.os,λi x e=>k.gens i x (h.gens i x e),λx=>k.bare (h.bare x)⟩
def dZ.heap (s:bb) (h:iS) (t:CU):dZ s {s with heap:=h,toks:=t}:=⟨rfl,λ_ _ h=>h,λh=>h⟩
def dZ.gF (s:bb) (h:iS):dZ s {s with heap:=h}:=⟨rfl,λ_ _ h=>h,λh=>h⟩
def dZ.toks (s:bb) (t:CU):dZ s {s with toks:=t}:=⟨rfl,λ_ _ h=>h,λh=>h⟩
section
variable {S:cz} {c:aM} {O:List AO} {h h':iS}
def Rel.lt (R:Rel S c O h) (e:c.F a=aa o):a<h.objs.size:=bW (R.frozen a o e)
def Rel.Mo (R:Rel S c O h) (hi:i<O.length):c.Z i<h.objs.size:=by obtain(⟨o,e,_⟩):=R.own i O[i] (aq hi);exact bW e
def Rel.Ga (R:Rel S c O h) (hq:q∈cm):q.2<h.objs.size:=by obtain(⟨_,_,ps,e,_⟩):=R.tabs q hq;exact bW e
def Rel.ae6 (R:Rel S c O h) (e:c.F a=aa o) (hi:i<O.length):a≠c.Z i:=by rintro rfl;rw[R.apart i hi]at e;exact nomatch e
def Rel.ext (R:Rel S c O h) (k:∀b o,h.get? b=aa o->h'.get? b=aa o):Rel S c O h' where
 frozen:=λa o e=>k _ _ (R.frozen a o e)
 base:=R.base
 own:=λi ao e=>xe12 (R.own i ao e) λo a b=>⟨o,k _ _ a,b⟩
 apart:=R.apart
 inj:=R.inj
 pins:=λa o e=>⟨k _ _ (R.pins a o e).1,(R.pins a o e).2⟩
 tabs:=λq hq=>let ⟨a,b,ps,d,e⟩:=R.tabs q hq;⟨a,b,ps,k _ _ d,e⟩
def aM.put (c:aM) (a:Addr) (o:Obj):aM:= {c with F:=λx=>if x=a then aa o else c.F x}
def aM.dC (ha:c.F a=ac):aM.le n c (c.put a o):=by refine⟨λx y e=> ?_,λ_ _=>rfl,rfl⟩;show(if x=a then aa o else c.F x)=aa y;rw[if_neg (by rintro rfl;rw[ha]at e;exact nomatch e)];exact e
def Rel.oy (R:Rel S c O h) (ha:h.objs.size<=a):c.F a=ac:=by
 cases e:c.F a with
 |none=>rfl
 |some o=>exact absurd (R.lt e) (fD.mpr ha)
def yO.mono {cd:Value} (h:yO F cd) (hF:∀a o,F a=aa o->F' a=aa o):yO F' cd:=
 xe53 h λx o vs q t a b d=>⟨x,o,vs,q,t,a,hF _ _ b,d⟩
def Rel.put (R:Rel S c O h) {a:Addr} {o:Obj} (k:∀b o,h.get? b=aa o->h'.get? b=aa o) (ha:h.objs.size<=a) (ho:h'.get? a=aa o):Rel S (c.put a o) O h' where
 frozen:=λx y e=>by
  have e':(if x=a then aa o else c.F x)=aa y:=e;by_cases hx:x=a
  ·subst hx;rw[if_pos rfl]at e';obtain rfl:=ag e';exact ho
  ·rw[if_neg hx]at e';exact k _ _ (R.frozen x y e')
 base:=λx y e hq=>by show(if x=a then aa o else c.F x)=aa y;rw[if_neg (by rintro rfl;exact absurd (R.lt (R.base _ _ e hq)) (fD.mpr ha))];exact R.base x y e hq
 own:=λi ao e=>xe12 (R.own i ao e) λo' x b=>⟨o',k _ _ x,b.mono (aM.dC (R.oy ha)) (ab _)⟩
 apart:=λi hi=>by show(if c.Z i=a then aa o else c.F (c.Z i))=ac;rw[if_neg (by rintro e;exact absurd (R.Mo hi) (fD.mpr (e▸ha)))];exact R.apart i hi
 inj:=R.inj
 pins:=λx y e=>by obtain(⟨p1,p2,p3,p4⟩):=R.pins x y e;refine⟨k _ _ p1,?_,p3,p4⟩;show(if x=a then aa o else c.F x)=ac;rw[if_neg (by rintro rfl;exact absurd (bW p1) (fD.mpr ha))];exact p2
 tabs:=λq hq=>by obtain(⟨x,b,ps,d,e,f⟩):=R.tabs q hq;refine⟨?_,b,ps,k _ _ d,e,λpos cd h=>(f pos cd h).mono (aM.dC (n:=0) (R.oy ha)).F⟩;show(if q.2=a then aa o else c.F q.2)=ac;rw[if_neg (by rintro e;exact absurd (R.Ga hq) (fD.mpr (e▸ha)))];exact x
def aM.own (c:aM) (n:Nat) (a:Addr):aM:= {c with Z:=λi=>if i=n then a else c.Z i}
def aM.ma (c:aM) (n:Nat) (a:Addr):(c.own n a).Z n=a:=if_pos rfl
def aM.jc:aM.le n c (c.own n a):=⟨λ_ _ e=>e,λi hi=>if_neg (cU hi),rfl⟩
def Rel.Az (R:Rel S c O h) {a:Addr} {o:Obj} {ao:AO} (k:∀b o,h.get? b=aa o->h'.get? b=aa o) (ha:h.objs.size<=a) (ho:h'.get? a=aa o)
  (hr:ic S.w (c.own O.length a) (O.length+1) o ao):Rel S (c.own O.length a) (O++[ao]) h' where
 frozen:=λx y e=>k _ _ (R.frozen x y e)
 base:=R.base
 own:=λi x e=>by
  rw[aj];rcases eH i O.length with(hi|hi|hi)
  ·rw[aW hi]at e;obtain(⟨o',p,q⟩):=R.own i x e;refine⟨o',?_,q.mono aM.jc (mv _)⟩;exact(aM.jc.Z i hi).symm▸(k _ _ p)
  ·subst hi;rw[aE (ab _),dc]at e;obtain rfl:=ag e;exact⟨o,by rw[aM.ma];exact ho,hr⟩
  ·rw[aE (ce hi)]at e;have:(i- O.length)≠0:=by exact om0 hi
   obtain(⟨j,hj⟩):=oS this;rw[hj]at e;simp at e
 apart:=λi hi=>by
  rw[aj]at hi;show c.F (if i=O.length then a else c.Z i)=ac;by_cases e:i=O.length
  ·rw[if_pos e];exact R.oy ha
  ·rw[if_neg e];exact R.apart i (by simp at hi;exact ID hi e)
 inj:=λi j hi hj e=>by
  rw[aj]at hi hj;simp only[be]at hi hj;have e':(if i=O.length then a else c.Z i)=(if j=O.length then a else c.Z j):=e;by_cases p:i=O.length<;>by_cases q:j=O.length
  ·exact om2 p q
  ·rw[if_pos p,if_neg q]at e';exact absurd (R.Mo (i:=j) (by exact ID hj q)) (fD.mpr (e'▸ha))
  ·rw[if_neg p,if_pos q]at e';exact absurd (R.Mo (i:=i) (by exact ID hi p)) (fD.mpr (e'▸ha))
  ·rw[if_neg p,if_neg q]at e';exact R.inj i j (by exact ID hi p) (by exact ID hj q) e'
 pins:=λx y e=>by
  obtain(⟨p1,p2,p3,p4⟩):=R.pins x y e;refine⟨k _ _ p1,p2,λi hi=> ?_,p4⟩;rw[aj]at hi;simp only[be]at hi;show(if i=O.length then a else c.Z i)≠x;by_cases p:i=O.length
  ·rw[if_pos p];rintro rfl;exact absurd (bW p1) (fD.mpr ha)
  ·rw[if_neg p];exact p3 i (by exact ID hi p)
 tabs:=λq hq=>by
  obtain(⟨x,b,ps,d,e,f⟩):=R.tabs q hq;refine⟨x,λi hi=> ?_,ps,k _ _ d,e,f⟩;rw[aj]at hi;simp only[be]at hi;show(if i=O.length then a else c.Z i)≠q.2;by_cases p:i=O.length
  ·rw[if_pos p];rintro rfl;exact absurd (R.Ga hq) (fD.mpr ha)
  ·rw[if_neg p];exact b i (by exact ID hi p)
def Rel.set (R:Rel S c O h) {i:Nat} {o:Obj} {ao:AO} (hi:i<O.length) (hs:∀b o,b≠c.Z i->h.get? b=aa o->h'.get? b=aa o) (ho:h'.get? (c.Z i)=aa o)
  (hr:ic S.w c O.length o ao):Rel S c (O.set i ao) h' where
 frozen:=λx y e=>hs _ _ (R.ae6 e hi) (R.frozen x y e)
 base:=R.base
 own:=λj x e=>by
  rw[bi];rw[List.getElem?_set]at e;by_cases p:i=j
  ·subst p;rw[if_pos rfl,if_pos hi]at e;obtain rfl:=ag e;exact⟨o,ho,hr⟩
  ·rw[if_neg p]at e;obtain(⟨o',p',q⟩):=R.own j x e;have hj:j<O.length:=by
    rcases bS j O.length with(h|h)
    ·exact h
    ·rw[bC h]at e;exact nomatch e
   exact⟨o',hs _ _ (λe=>p (R.inj _ _ hi hj e.symm)) p',q⟩
 apart:=λj hj=>R.apart j (by simpa using hj)
 inj:=λj k hj hk e=>R.inj j k (by simpa using hj) (by simpa using hk) e
 pins:=λx y e=>by obtain(⟨p1,p2,p3,p4⟩):=R.pins x y e;exact⟨hs _ _ (λe=>p3 i hi e.symm) p1,p2,λj hj=>p3 j (by simpa using hj),p4⟩
 tabs:=λq hq=>by obtain(⟨x,b,ps,d,e,f⟩):=R.tabs q hq;exact⟨x,λj hj=>b j (by simpa using hj),ps,hs _ _ (λe=>b i hi e.symm) d,e,f⟩
def cT.back (h:cT w c n v d) (h':cT w c' n' v' d):cT w c' n v' d:=by
 induction h' with
 |pv h'=>exact .pv h'
 |fM=>exact .fM (XN.rec (λ_ h=>h) h.sh)
 |tA a=>obtain(⟨_,_,_,hl⟩):=h.sh;exact .tA a hl
 |inst a b d e=>obtain(⟨_,_,_,_,_,_,_,f⟩):=h.sh;exact .inst a b d e f
def ic.back (h:ic w c n o ao) (h':ic w c' n' o' ao):ic w c' n o' ao:=by
 induction h' with
 |qa=>exact .qa _
 |list a b=>exact .list a b
 |dict a b d e=>exact .dict a b d e
 |ns a b nd d e=>obtain(⟨_,_,_,_,_,d',_⟩):=h.sh;refine .ns a b nd (λx y hx=> ?_) e;obtain(⟨v,h1,h2⟩):=d x y hx;obtain(⟨v',h1',Om⟩):=d' x y hx;exact⟨v,h1,Om.back h2⟩
 |cell a b d e=>obtain(⟨_,_,_,d',_⟩):=h.sh;refine .cell a b (λx hx=> ?_) e;obtain(⟨v,h1,h2⟩):=d x hx;obtain(⟨v',h1',Om⟩):=d' x hx;exact⟨v,h1,Om.back h2⟩
 |attrs a b u nd d e=>obtain(⟨_,_,_,_,_,_,d',_⟩):=h.sh;refine .attrs a b u nd (λx y hx=> ?_) e;obtain(⟨v,h1,h2⟩):=d x y hx;obtain(⟨v',h1',Om⟩):=d' x y hx;exact⟨v,h1,Om.back h2⟩
noncomputable def AO.flat:AO->Bool
 | .list _| .dict _| .qa=>true
 |_=>false
def ic.flat (h:ic w c n o ao) (hf:ao.flat=true):ic w c n' o ao:=by
 induction h with
 |qa o=>exact .qa o
 |list a b=>exact .list a b
 |dict a b d e=>exact .dict a b d e
 |ns=>cases hf
 |cell=>cases hf
 |attrs=>cases hf
def Rel.drop {c':aM} {bv τ:List AO} (R:Rel S c O h) (R':Rel S c' (bv++τ) h') (hl:bv.length=O.length) (HQ:∀(i:Nat) (x:AO),bv[i]? =aa x->O[i]? =aa x\/x.flat=true):Rel S c' bv h' where
 frozen:=R'.frozen
 base:=R'.base
 own:=λi x e=>by
  have hi:i<bv.length:=by
   rcases bS i bv.length with(h|h)
   ·exact h
   ·rw[bC h]at e;exact nomatch e
  obtain(⟨o,p,q⟩):=R'.own i x (by rw[aW hi];exact e);refine⟨o,p,?_⟩;rcases HQ i x e with(he|he)
  ·obtain(⟨o',p',q'⟩):=R.own i x he;exact(hl)▸(q'.back q)
  ·exact q.flat he
 apart:=λi hi=>R'.apart i (by rw[aj];solve_by_elim (maxDepth:=4) [ce,a8,bI,aA,gJ,jn,bh,cI])
 inj:=λi j hi hj e=>R'.inj i j (by rw[aj];solve_by_elim (maxDepth:=4) [ce,a8,bI,aA,gJ,jn,bh,cI]) (by rw[aj];solve_by_elim (maxDepth:=4) [ce,a8,bI,aA,gJ,jn,bh,cI]) e
 pins:=λx y e=>xe04 (R'.pins x y e) λp1 p2 p3 p4=>⟨p1,p2,λi hi=>p3 i (by rw[aj];solve_by_elim (maxDepth:=4) [ce,a8,bI,aA,gJ,jn,bh,cI]),p4⟩
 tabs:=λq hq=>xe03 (R'.tabs q hq) λa b d=>⟨a,λi hi=>b i (by rw[aj];solve_by_elim (maxDepth:=4) [ce,a8,bI,aA,gJ,jn,bh,cI]),d⟩
end
def aM.pinned (c:aM) (ps:List (Addr×Obj)):aM:= {c with pin:=λa=>(ps.lookup a).or (c.pin a)}
def aM.gN (c c₀:aM):aM:= {c with pin:=c₀.pin}
section
variable {S:cz} {c:aM} {O:List AO} {h h':iS}
def Gb {α β:Type} [BEq α] [LawfulBEq α] {l:List (α×β)} {x:α} {i:β} (h:l.lookup x=aa i):(x,i)∈l:=by
 induction l with
 |nil=>exact nomatch h
 |cons p l ih=>
  rw[di]at h;cases e:x==p.1 with
  |true=>rw[e]at h;obtain rfl:=ag h;rw[OH e];exact ay
  |false=>rw[e]at h;exact aK _ (ih h)
structure qC (c:aM) (n:Nat) (a:Addr):Prop where
 F:c.F a=ac
 Z:∀i,i<n->c.Z i≠a
 pin:c.pin a=ac
 tab:∀q∈cm,q.2≠a
def Rel.free (R:Rel S c O h) {a:Addr} (ha:h.objs.size<=a):qC c O.length a where
 F:=R.oy ha
 Z:=λi hi e=>absurd (R.Mo hi) (fD.mpr (e▸ha))
 pin:=by
  cases e:c.pin a with
  |none=>rfl
  |some o=>exact absurd (bW (R.pins a o e).1) (fD.mpr ha)
 tab:=λq hq e=>absurd (R.Ga hq) (fD.mpr (e▸ha))
def Rel.pinned (R:Rel S c O h) {ps:List (Addr×Obj)} (hf:∀p∈ps,qC c O.length p.1) (hp:∀p∈ps,h.get? p.1=aa p.2):Rel S (c.pinned ps) O h where
 frozen:=R.frozen
 base:=R.base
 own:=λi ao e=>xe12 (R.own i ao e) λo a b=>⟨o,a,b.j6 (λ_ _ e=>e) (λ_ _=>rfl) (ab _)⟩
 apart:=R.apart
 inj:=R.inj
 pins:=λa o e=>by
  have e':(ps.lookup a).or (c.pin a)=aa o:=e;cases hl:ps.lookup a with
  |none=>rw[hl]at e';exact R.pins a o e'
  |some o'=>rw[hl]at e';clear e;obtain rfl:=ag e';have hm:=Gb hl;exact⟨hp _ hm,(hf _ hm).F,(hf _ hm).Z,(hf _ hm).tab⟩
 tabs:=R.tabs
def Rel.gN {c₀:aM} (R:Rel S c O h) (hp:∀a o,c₀.pin a=aa o->c.pin a=aa o):Rel S (c.gN c₀) O h where
 frozen:=R.frozen
 base:=R.base
 own:=λi ao e=>xe12 (R.own i ao e) λo a b=>⟨o,a,b.j6 (λ_ _ e=>e) (λ_ _=>rfl) (ab _)⟩
 apart:=R.apart
 inj:=R.inj
 pins:=λa o e=>R.pins a o (hp a o e)
 tabs:=R.tabs
def cT.gN (h:cT w c n v d):cT w (c.gN c₀) n v d:=h.j6 (λ_ _ e=>e) (λ_ _=>rfl) (ab _)
def cT.pinned (h:cT w c n v d):cT w (c.pinned ps) n v d:=h.j6 (λ_ _ e=>e) (λ_ _=>rfl) (ab _)
end
structure iv where
 scope:Scope
 fi:Nat
 cells:List (Str×Nat):=[]
 code:Option Addr:=ac
def iv.eq {c c':Sn} (h:c=c'):iv.mk s f c d=iv.mk s f c' d:=congrArg (iv.mk s f · d) h
structure cY (c:aM) (n:Nat) (ae:iv) (env:lY):Prop where
 scope:env.scope=ae.scope
 kind:ae.scope.kind= .function
 locals:env.locals=c.Z ae.fi
 fi:ae.fi<n
 globals:env.globals=mainGlobals
 builtins:env.builtins=builtinsNs
 cells:env.cells=ae.cells.map λp=>(p.1,c.Z p.2)
 jq:∀p∈ae.cells,p.2<n
 code:∀a,ae.code=aa a->env.code= .ref a
 frame:∃f,env.frame=aa f
def cY.mono {c c':aM} {n n':Nat} {ae:iv} {env:lY} (h:cY c n ae env) (hc:aM.le n c c') (hn:n<=n'):cY c' n' ae env where
 scope:=h.scope
 kind:=h.kind
 locals:=h.locals.trans (hc.Z _ h.fi).symm
 fi:=a8 h.fi hn
 globals:=h.globals
 builtins:=h.builtins
 cells:=h.cells.trans (cj λp hp=>by rw[hc.Z _ (h.jq p hp)])
 jq:=λp hp=>a8 (h.jq p hp) hn
 code:=h.code
 frame:=h.frame
def cY.pinned (h:cY c n ae env):cY (c.pinned ps) n ae env:=⟨h.scope,h.kind,h.locals,h.fi,h.globals,h.builtins,h.cells,h.jq,h.code,h.frame⟩
structure jF (k:Nat) (A:cS):Prop where
 hn:A.handled=ac
 depth:A.depth+10*k<=990
 units:A.units+100*k<=9800
 frames:∃l,A.frames=aa l
 guards:∃g,A.guards=aa g
def jF.le (h:jF k A) (hk:k'<=k):jF k' A:=⟨h.hn,by have:=h.depth;exact om3 this hk,by have:=h.units;exact om4 this hk,h.frames,h.guards⟩
def jF.room (h:jF k A):A.depth<recursionLimit:=bI (aA (bh _ _) h.depth) (by decide)
def dep {a c k n w:Nat} (h:a+c*(k+1)<=n) (hw:w<=c):a+w+c*k<=n:=
 aA (by rw[iP,uf w];exact dX (dX hw _) _) h
def jF.deeper {k:Nat} {A:cS} {env:lY} (h:jF (k+1) A):jF k (A.deeper env) where
 hn:=h.hn
 depth:=dep h.depth (by decide:1<=10)
 units:=dep h.units (by decide:3<=100)
 frames:=xe11 (h.frames) λl e=>⟨env::l,by show A.frames.map _=_;rw[e];rfl⟩
 guards:=h.guards
inductive dg (w:jC) (c:aM) (n:Nat):List Value->List AV->Prop
 |nil:dg w c n [] []
 |cons {v:Value} {d:AV} {vs:Vs} {ds:List AV}:cT w c n v d->dg w c n vs ds->dg w c n (v::vs) (d::ds)
def dg.mono (h:dg w c n vs ds) (hc:aM.le n c c') (hn:n<=n'):dg w c' n' vs ds:=by
 induction h with
 |nil=>exact .nil
 |cons a _ ih=>exact .cons (a.mono hc hn) ih
def Tr (S:cz) (O:List AO) (A:cS) (c:aM) (s:bb) (t:zK Value) (d:AV) (bv:List AO):Prop:=
 ∀(E:VS) (Q:VS),
  (∀c' v s',aM.le O.length c c'->Rel S c' bv s'.heap->dZ s s'->cT S.w c' bv.length v d->Q v s')->wpAny (MM S.w) A t Q E s
structure Ev (S:cz) (k:Nat) (O:List AO) (ae:iv) (e:Expr) (d:AV) (bv:List AO):Prop where
 len:O.length<=bv.length
 run:∀A c s env,jF k A->cY c O.length ae env->Rel S c O s.heap->Tr S O A c s (eval e env) d bv
abbrev nJ (S:cz) (k:Nat) (O:List AO) (ae:iv) (e:Expr) (d:PV):Prop:=Ev S k O ae e (.pv d) O
inductive nW where
 |next|brk|cont
 |ret (d:AV)
inductive sH (w:jC) (c:aM) (n:Nat):B8->nW->Prop
 |next:sH w c n .next .next
 |brk:sH w c n .brk .brk
 |cont:sH w c n .cont .cont
 |ret {v:Value} {d:AV}:cT w c n v d->sH w c n (.ret v) (.ret d)
def TrF (S:cz) (O:List AO) (A:cS) (c:aM) (s:bb) (t:zK B8) (f:nW) (bv:List AO):Prop:=
 ∀(E:VS) (Q:B8->bb->Prop),
  (∀c' v s',aM.le O.length c c'->Rel S c' bv s'.heap->dZ s s'->sH S.w c' bv.length v f->Q v s')->wpAny (MM S.w) A t Q E s
structure i6 (S:cz) (k:Nat) (O:List AO) (ae:iv) (st:Stmt) (f:nW) (bv:List AO):Prop where
 len:O.length<=bv.length
 run:∀A c s env,jF k A->cY c O.length ae env->Rel S c O s.heap->TrF S O A c s (exec st env) f bv
structure cG (S:cz) (k:Nat) (O:List AO) (ae:iv) (Vi:List Stmt) (f:nW) (bv:List AO):Prop where
 len:O.length<=bv.length
 run:∀A c s env,jF k A->cY c O.length ae env->Rel S c O s.heap->TrF S O A c s (execs Vi env) f bv
structure dy (S:cz) (k:Nat) (O:List AO) (f:AV) (args:List AV) (kw:List (Str×AV)) (d:AV) (bv:List AO):Prop where
 len:O.length<=bv.length
 run:∀A c s fv vs kvs,jF k A->Rel S c O s.heap->cT S.w c O.length fv f->dg S.w c O.length vs args->kvs.map (·.1)=kw.map (·.1)->dg S.w c O.length (kvs.map (·.2)) (kw.map (·.2))->
  Tr S O A c s (call fv vs kvs) d bv
def nX (S:cz) (k:Nat) (O:List AO) (ae:iv) (e:Expr) (b:Bool):Prop:=
 ∀A c s env,jF k A->cY c O.length ae env->Rel S c O s.heap->
  ∀(E:VS) (Q:Bool->bb->Prop),(∀c' s',aM.le O.length c c'->Rel S c' O s'.heap->dZ s s'->Q b s')->wpAny (MM S.w) A (isTrue e env (eval e env)) Q E s
variable {S:cz} {k:Nat} {O:List AO} {ae:iv}
inductive OA1 (w:jC) (c:aM) (n:Nat) (d:AV) (ds:List AV) (vs:Vs):Prop
 |mk (v:Value) (r:Vs) (e:vs=v::r) (a:cT w c n v d) (b:dg w c n r ds)
inductive ae7 (w:jC) (c:aM) (n:Nat) (d:AV) (f:B8):Prop
 |mk (v:Value) (e:f= .ret v) (h:cT w c n v d)
def FSh (w:jC) (c:aM) (n:Nat) (f:B8):nW->Prop
 | .next=>f= .next
 | .brk=>f= .brk
 | .cont=>f= .cont
 | .ret d=>ae7 w c n d f
def sH.sh (h:sH w c n f d):FSh w c n f d:=by
 induction h with
 |ret h=>exact⟨_,rfl,h⟩
 |_=>exact rfl
def LSh (w:jC) (c:aM) (n:Nat) (vs:Vs):List AV->Prop
 | []=>vs=[]
 |d::ds=>OA1 w c n d ds vs
def dg.sh (h:dg w c n vs ds):LSh w c n vs ds:=by
 induction h with
 |nil=>exact rfl
 |cons a b=>exact⟨_,_,rfl,a,b⟩
def cT.gh (h:cT w c n v (.pv d)):dk w c.F v d:=h.sh
def cT.dn (h:cT w c n v (.pv (.con u))):v=u:=h.gh.sh
def cT.XQ (h:cT w c n v (.tA ps b sc cells)):∃a,v= .ref a/\Mm c.F a ps b sc (cells.map λp=>(p.1,c.Z p.2))/\∀p∈cells,p.2<n:=h.sh
def dg.i1 (h:dg w c n vs (d::ds)):OA1 w c n d ds vs:=h.sh
def dg.i0 (h:dg w c n vs []):vs=[]:=h.sh
def dk.kQ (h:dk w F v (.int i)):∃t,v= .int i t:=h.sh
def dk.Ed (h:dk w F v (.fF i)):∃t,v= .float i t:=h.sh
def dk.mG (h:dk w F v (.str i)):∃t,v= .str i t:=h.sh
def dk.IH (h:dk w F v (.con u)):v=u:=h.sh
def cT.zy (h:cT w c n v (.fM i)):XN c n i v:=h.sh
def dk.Ee (h:dk w F v (.tup l)):TB w F "tuple" l v:=h.sh
def dk.x6 (h:dk w F v (.lst l)):TB w F "list" l v:=h.sh
def sH.wz (h:sH w c n f .next):f= .next:=h.sh
def sH.Mp (h:sH w c n f (.ret d)):ae7 w c n d f:=h.sh
def ic.yP (h:ic w c n o (.list l)):Wz w c.F l o:=h.sh
def ic.Pd (h:ic w c n o (.dict l)):KH w c.F l o:=h.sh
def dk.XR (h:dk w F v (.oO l)):∃a o,v= .ref a/\(a==sysModules)=false/\F a=aa o/\KH w F l o:=h.sh
def cT.ae8 (h:cT w c n v (.inst i)):∃a o,v= .ref a/\c.F a=aa o/\o.cls= .ref 182/\(∀k,o.data≠ .cls k)/\o.dict=aa (c.Z i)/\i<n:=h.sh
def ic.XS (h:ic w c n o (.attrs m)):∃es ep,o.data= .dict es ep/\CW es/\VC es/\(m.map (·.1)).Nodup/\(∀(x:Str) (d:AV),(x,d)∈m->∃v,nsFind es x=aa v/\cT w c n v d)/\∀x:Str,x∉m.map (·.1)->nsFind es x=ac:=h.sh
def ic.iNs (h:ic w c n o (.ns m)):∃es ep,o.data= .dict es ep/\CW es/\(m.map (·.1)).Nodup/\(∀(x:Str) (d:AV),(x,aa d)∈m->∃v,nsFind es x=aa v/\cT w c n v d)/\∀x:Str,(x,ac)∈m->nsFind es x=ac:=h.sh
def ic.WB (h:ic w c n o (.cell d)):∃v,o.data= .cell v/\o.slots= #[]/\(∀x,d=aa x->∃u,v=aa u/\cT w c n u x)/\(d=ac->v=ac):=h.sh
def KI {l:List α} (i:Nat) (h:l[i]? =aa a):a∈l:=bo h
def Cu {l:List (Str×α)}:l.lookup x=aa v->(x,v)∈l:=by
 induction l with
 |nil=>intro h;exact nomatch h
 |cons q9 l ih=>
  intro h;obtain(⟨y,u⟩):=q9;rw[di]at h;cases e:x==y with
  |true=>rw[e]at h;obtain rfl:=ag h;obtain rfl:=beq_iff_eq.mp e;exact ay
  |false=>rw[e]at h;exact aK _ (ih h)
noncomputable abbrev PV.bool (b:Bool):PV:= .con (.bool b)
noncomputable abbrev PV.none:PV:= .con .none
def cY.kindOf (h:cY c n ae env) (x:Str):env.kindOf x=ae.scope.names.lookup x:=by unfold Env.kindOf;rw[h.scope]
def Rel.ns (R:Rel S c O h) (hi:O[i]? =aa (.ns m)):
  ∃f:Str->Option Value,h.Ns (c.Z i) f/\(m.map (·.1)).Nodup/\(∀x d,(x,aa d)∈m->∃v,f x=aa v/\cT S.w c O.length v d)/\(∀x,(x,ac)∈m->f x=ac):=by
 obtain(⟨o,ho,hr⟩):=R.own i _ hi;obtain⟨_,_,a,b,nd,d,e⟩:=hr.iNs;exact⟨_,⟨o,_,_,ho,a,b,λ_=>rfl⟩,nd,d,e⟩
def Ef (c:aM) (l:Sn) (x:Str):(l.map λp=>(p.1,c.Z p.2)).lookup x=(l.lookup x).map c.Z:=by
 induction l with
 |nil=>rfl
 |cons p l ih=>rw[bw,di,di];cases x==p.1<;>simp[ih]
def XT {l:List (Str×α)}:∀ {x:Str} {i:α},l.lookup x=aa i->(x,i)∈l:=by
 induction l with
 |nil=>intro _ _ h;exact nomatch h
 |cons p l ih=>
  intro x i h;rw[di]at h;cases e:x==p.1 with
  |true=>rw[e]at h;obtain rfl:=ag h;rw[OH e];exact ay
  |false=>rw[e]at h;exact aK _ (ih h)
def Rel.cell (R:Rel S c O h) (hi:O[i]? =aa (.cell d)):
  ∃v,h.IsCell (c.Z i) v/\(∀x,d=aa x->∃u,v=aa u/\cT S.w c O.length u x):=by
 obtain(⟨o,ho,hr⟩):=R.own i _ hi;obtain⟨_,a,_,d,_⟩:=hr.WB;exact⟨_,⟨o,ho,a⟩,d⟩
def Ev.rI (hm:O[ae.fi]? =aa (.ns m)) (hk:ae.scope.names.lookup x=aa .local) (hd:(x,aa d)∈m)
  (hx:(x==("__debug__" :Str))=false:=by decide):Ev S k O ae (.Name x pos) d O:=by
 refine⟨ab _,?_⟩;intro A c s env hA hE R E Q hQ;obtain(⟨f,hf,_,h1,_⟩):=R.ns hm;obtain(⟨v,hv,hd⟩):=h1 x d hd;refine B6 (qf ((hE.scope)▸(hE.kind)) (by rw[hE.kindOf,hk]) ((hE.locals)▸(hf)) hv ?_) hx;exact hQ c v s (.refl ..) R (.refl _) hd
def Ev.Mq (hk:ae.scope.names.lookup x=aa .cell) (hi:ae.cells.lookup x=aa i) (hd:O[i]? =aa (.cell (aa d)))
  (hx:(x==("__debug__" :Str))=false:=by decide):Ev S k O ae (.Name x pos) d O:=by
 refine⟨ab _,?_⟩;intro A c s env hA hE R E Q hQ;obtain(⟨v,hc,h1⟩):=R.cell hd;obtain(⟨u,rfl,hu⟩):=h1 d rfl;refine B6 (wpAny_loadName_cell ((hE.scope)▸(hE.kind)) (by rw[hE.kindOf,hk]) (by rw[hE.cells,Ef,hi];rfl) hc ?_) hx;exact hQ c u s (.refl ..) R (.refl _) hu
def Ev.qQ (hk:ae.scope.names.lookup x=aa .free) (hi:ae.cells.lookup x=aa i) (hd:O[i]? =aa (.cell (aa d)))
  (hx:(x==("__debug__" :Str))=false:=by decide) (sM:(x==("__classdict__" :Str))=false:=by decide):Ev S k O ae (.Name x pos) d O:=by
 refine⟨ab _,?_⟩;intro A c s env hA hE R E Q hQ;obtain(⟨v,hc,h1⟩):=R.cell hd;obtain(⟨u,rfl,hu⟩):=h1 d rfl;refine B6 (wpAny_loadName_free ((hE.scope)▸(hE.kind)) (by rw[hE.kindOf,hk]) (by rw[hE.cells,Ef,hi];rfl) hc ?_ sM) hx;exact hQ c u s (.refl ..) R (.refl _) hu
def Rel.old (R:Rel S c O h) (e:S.h₀.get? a=aa o) (ha:∀q∈cm,a≠q.2):h.get? a=aa o:=R.frozen _ _ (R.base a o e ha)
def Rel.vf (R:Rel S c O h) (e:S.h₀.Ns a m) (ha:∀q∈cm,a≠q.2):h.Ns a m:=
 xe32 (e) λo es ep ho r=>⟨o,es,ep,R.old ho ha,r⟩
def Rel.lim (R:Rel S c O h):h.NoLimit:=xe12 (S.lim) λmc a b=>⟨mc,R.vf a (by decide),b⟩
def Ev.glob (hE:cY c O.length ae env) (R:Rel S c O s.heap)
  (hk:ae.scope.names.lookup x=aa .globalImplicit) (hg:(x,aa v)∈cf) (hx:(x==("__debug__" :Str))=false) (h:Q v s):wpAny (MM S.w) A (eval (.Name x pos) env) Q E s:=by
 obtain(⟨mg,FX,hm⟩):=S.glob;refine qi ((hE.scope)▸(hE.kind)) (by rw[hE.kindOf,hk]) ?_ hx;exact Calls.loadGlobal_global ((hE.globals)▸(R.vf FX (by decide))) (hm _ hg) h
def Ev.blt (hE:cY c O.length ae env) (R:Rel S c O s.heap)
  (hk:ae.scope.names.lookup x=aa .globalImplicit) (hg:(x,ac)∈cf) (hb:(x,aa v)∈kM) (hx:(x==("__debug__" :Str))=false) (h:Q v s):wpAny (MM S.w) A (eval (.Name x pos) env) Q E s:=by
 obtain(⟨mg,FX,hm⟩):=S.glob;obtain(⟨mb,hmb,hn⟩):=S.blt;refine qi ((hE.scope)▸(hE.kind)) (by rw[hE.kindOf,hk]) ?_ hx;exact FK (by rw[hE.globals];exact R.vf FX (by decide)) (hm _ hg) (by rw[hE.builtins];exact R.vf hmb (by decide)) (hn _ hb) h
def Ev.uj (hk:ae.scope.names.lookup x=aa .globalImplicit) (hg:(x,aa v)∈cf) (hx:(x==("__debug__" :Str))=false:=by decide):
  nJ S k O ae (.Name x pos) (.con v):=⟨ab _,λ_ c _ _ _ hE R _ _ hQ=>Ev.glob hE R hk hg hx (hQ c v _ (.refl ..) R (.refl _) (.pv (.con v)))⟩
def Ev.II (hk:ae.scope.names.lookup x=aa .globalImplicit) (hg:(x,aa (.float u t))∈cf) (hx:(x==("__debug__" :Str))=false:=by decide):
  nJ S k O ae (.Name x pos) (.fF u):=⟨ab _,λ_ c _ _ _ hE R _ _ hQ=>Ev.glob hE R hk hg hx (hQ c _ _ (.refl ..) R (.refl _) (.pv (.fF u t)))⟩
def Ev.Gc (hk:ae.scope.names.lookup x=aa .globalImplicit) (hg:(x,ac)∈cf) (hb:(x,aa v)∈kM) (hx:(x==("__debug__" :Str))=false:=by decide):
  nJ S k O ae (.Name x pos) (.con v):=⟨ab _,λ_ c _ _ _ hE R _ _ hQ=>Ev.blt hE R hk hg hb hx (hQ c v _ (.refl ..) R (.refl _) (.pv (.con v)))⟩
def Ev.int:nJ S k O ae (.Constant (.int i) n pos) (.int i):=
 ⟨ab _,λ_ c s _ _ _ R _ _ hQ=>wpAny_Constant_int (hQ c _ _ (.refl ..) R (.toks ..) (.pv (.int ..)))⟩
def Ev.str:nJ S k O ae (.Constant (.str x) n pos) (.str x):=
 ⟨ab _,λ_ c s _ _ _ R _ _ hQ=>kj (hQ c _ _ (.refl ..) R (.toks ..) (.pv (.str ..)))⟩
def Ev.fF:nJ S k O ae (.Constant (.float u) n pos) (.fF u):=
 ⟨ab _,λ_ c s _ _ _ R _ _ hQ=>PySem.wpAny_Constant_float (hQ c _ _ (.refl ..) R (.toks ..) (.pv (.fF ..)))⟩
def Ev.none:nJ S k O ae (.Constant .none n pos) PV.none:=
 ⟨ab _,λ_ c s _ _ _ R _ _ hQ=>wpAny_Constant_none (hQ c _ _ (.refl ..) R (.refl ..) (.pv (.con ..)))⟩
def Ev.bool:nJ S k O ae (.Constant (.bool b) n pos) (PV.bool b):=
 ⟨ab _,λ_ c s _ _ _ R _ _ hQ=>zI (hQ c _ _ (.refl ..) R (.refl ..) (.pv (.con ..)))⟩
def Gd (t:Value->Value->zK Value) (a b d:PV):Prop:=
 ∀(S:cz) (k:Nat) (O:List AO) (A:cS) (c:aM) (s:bb) (u v:Value),jF k A->Rel S c O s.heap->dk S.w c.F u a->dk S.w c.F v b->Tr S O A c s (t u v) (.pv d) O
def Ev.Pe (h1:nJ S k O ae l a) (h2:nJ S k O ae r b) (ho:Gd (binaryOp op) a b d):nJ S k O ae (.BinOp l op r pos) d:=
 ⟨ab _,λA c s env hA hE R E Q hQ=>F1 (h1.run A c s env hA hE R _ _ λc1 v1 s1 l1 R1 K1 a1=>h2.run A c1 s1 env hA (hE.mono l1 (ab _)) R1 _ _ λc2 v2 s2 l2 R2 K2 a2=>
  ho S k O A c2 s2 v1 v2 hA R2 (a1.gh.mono l2.F) a2.gh _ _ λc3 v3 s3 l3 R3 K3 a3=>hQ c3 v3 s3 ((l1.trans l2 (ab _)).trans l3 (ab _)) R3 ((K1.trans K2).trans K3) a3)⟩
def Pf (op:wj) (a b:PV) (r:Bool):Prop:=Gd (compareOp op) a b (PV.bool r)
def nX.compare (h1:nJ S k O ae l a) (h2:nJ S k O ae r b) (ho:Pf op a b x) (hm:behindInMarks op r=false):
  nX S k O ae (.Compare l [op] [r] pos) x:=
 λA c s env hA hE R E Q hQ=>xR (h1.run A c s env hA hE R _ _ λc1 v1 s1 l1 R1 K1 a1=>h2.run A c1 s1 env hA (hE.mono l1 (ab _)) R1 _ _ λc2 v2 s2 l2 R2 K2 a2=>
  ho S k O A c2 s2 v1 v2 hA R2 (a1.gh.mono l2.F) a2.gh _ _ λc3 v3 s3 l3 R3 K3 a3=>by
   have e:=a3.dn;subst e;exact gc (hQ c3 s3 ((l1.trans l2 (ab _)).trans l3 (ab _)) R3 ((K1.trans K2).trans K3))) hm
def nX.to (h:nX S k O ae e b) (hb:b=b'):nX S k O ae e b':=hb▸h
def Gd.aiV (a b:Int):Gd (binaryOp .Add) (.int a) (.int b) (.int (a+b)):=by intro S k O A c s u v hA R h1 h2 E Q hQ;obtain⟨_,rfl⟩:=h1.kQ;obtain⟨_,rfl⟩:=h2.kQ;exact P.add_int (hQ c _ _ (.refl ..) R (.toks ..) (.pv (.int ..)))
def Gd.WC (a b:Int) (hb:b≠0) (hp:Builtin.divisionGoesByPylong a b=false):Gd (binaryOp .FloorDiv) (.int a) (.int b) (.int (a.fdiv b)):=by intro S k O A c s u v hA R h1 h2 E Q hQ;obtain⟨_,rfl⟩:=h1.kQ;obtain⟨_,rfl⟩:=h2.kQ;exact yE hb (hQ c _ _ (.refl ..) R (.toks ..) (.pv (.int ..))) (.inl hp)
def Pf.ltI (a b:Int):Pf .Lt (.int a) (.int b) (decide (a<b)):=by intro S k O A c s u v hA R h1 h2 E Q hQ;obtain⟨_,rfl⟩:=h1.kQ;obtain⟨_,rfl⟩:=h2.kQ;exact P.lt_int (hQ c _ _ (.refl ..) R (.refl ..) (.pv (.con ..)))
def tt:true=true:=rfl
def so {a:α}:aa a=aa a:=rfl
def pp {b:α}:(λ_:lY=>(pure b:zK α))=λ_=>pure b:=rfl
def scp {F:lY->α} (h:(λenv:lY=>F {env with scope:=sc})=λ_=>r) (he:env.scope=sc):F env=r:=by subst he;exact congrFun h env
def afa {P:Prop} (h:∀G:Prop,(P->G)->G):P:=h P id
def cvp : Nat → Lean.TSyntax `term → Lean.MacroM (Lean.TSyntax `rcasesPat)
  | 0, _ => Lean.Macro.throwUnsupported
  | n + 1, t => match t with
    | `(_) => `(rcasesPat| _)
    | `(⟨$ys,*⟩) => do
      let q ← ys.getElems.mapM fun y => do `(Lean.Parser.Tactic.rcasesPatLo| $(← cvp n y):rcasesPat)
      `(rcasesPat| ⟨$q,*⟩)
    | `($x:ident) => `(rcasesPat| $x:ident)
    | _ => Lean.Macro.throwUnsupported
local macro_rules | `(tactic| let ⟨$xs,*⟩ := $e) => do
  let q ← xs.getElems.mapM fun y => do `(Lean.Parser.Tactic.rcasesPatLo| $(← cvp 9 y):rcasesPat)
  `(tactic| obtain ⟨$q,*⟩ := $e)
local macro_rules | `(∅) => `((by decide))
local macro_rules | `(tactic| erw $s:rwRuleSeq $[$l:location]?) => `(tactic| rw (config := {}) $s:rwRuleSeq $[$l:location]?)
local macro_rules | `(↑$x) => `(($x).length)
local macro_rules | `(tactic| left) => do
  let k := Lean.mkIdent `kG
  `(tactic| refine Mine.afa fun _ $k:ident => ?_)
local macro_rules | `(tactic| right) => do `(tactic| refine $(Lean.mkIdent `kG) ?_)
def gr {P:Prop} (h:ac=aa x):P:=nomatch h
def dT [Decidable p] (h:(if p then aa x else ac)=aa y):p/\x=y:=by
 by_cases q:p
 ·rw[if_pos q]at h;exact⟨q,ag h⟩
 ·rw[if_neg q]at h;exact gr h
def KJ [Decidable p] (h:(if p then ac else aa x)=aa y):¬p/\x=y:=by
 by_cases q:p
 ·rw[if_pos q]at h;exact gr h
 ·rw[if_neg q]at h;exact⟨q,ag h⟩
def yQ (h:ac=aa x):False:=nomatch h
def a9 (h:o.bind f=aa b) {G:Prop} (k:∀a,o=aa a->f a=aa b->G):G:=(aG.mp h).elim λa h=>k a h.1 h.2
inductive SW {α β:Type}:List α->List β->Prop
 |nil:SW [] []
 |cons (a:α) (b:β) {l:List α} {m:List β} (h:SW l m):SW (a::l) (b::m)
def SW.of {α β:Type} {l:List α}:∀ {m:List β},↑l= ↑m->SW l m:=by
 induction l with
 |nil=>intro m h;induction m with
  |nil=>exact .nil
  |cons=>nomatch h
 |cons a l ih=>intro m h;induction m with
  |nil=>nomatch h
  |cons b m=>exact .cons a b (ih (lZ h))
inductive iA (x:Str) (d:AV):List (Str×Option AV)->List (Str×Option AV)->Prop
 |here {o:Option AV} {r:List (Str×Option AV)}:iA x d ((x,o)::r) ((x,aa d)::r)
 |there {p:Str×Option AV} {r r':List (Str×Option AV)}:iA x d r r'->iA x d (p::r) (p::r')
def iA.keys (h:iA x d m m'):m'.map (·.1)=m.map (·.1):=by
 induction h with
 |here=>rfl
 |there _ ih=>rw[bw,bw,ih]
def iA.key (h:iA x d m m'):x∈m.map (·.1):=by
 induction h with
 |here=>exact ay
 |there _ ih=>exact aK _ ih
def iA.mem (h:iA x d m m') (hn:(m.map (·.1)).Nodup):∀y o,(y,o)∈m'->(y=x/\o=aa d)\/(y≠x/\(y,o)∈m):=by
 induction h with
 | @here o r=>
  intro y o' hy;rw[bw,fE]at hn;rcases aH.mp hy with(e|e)
  ·let ⟨rfl,rfl⟩:=bB e;exact .inl ⟨rfl,rfl⟩
  ·refine .inr ⟨?_,aK _ e⟩;rintro rfl;exact hn.1 (aQ.mpr ⟨_,e,rfl⟩)
 | @there p r r' h ih=>
  intro y o' hy;rw[bw,fE]at hn;rcases aH.mp hy with(e|e)
  ·refine .inr ⟨?_,e▸ay⟩;rintro rfl;exact hn.1 (e▸h.key)
  ·rcases ih hn.2 y o' e with(q|q)
   ·exact .inl q
   ·exact .inr ⟨q.1,aK _ q.2⟩
structure jK (S:cz) (O:List AO) (ae:iv) (x:Str) (d:AV) (bv:List AO):Prop where
 len: ↑O<= ↑bv
 run:∀A c s env v,cY c ↑O ae env->Rel S c O s.heap->cT S.w c ↑O v d->
  ∀(E:VS) (Q:Unit->bb->Prop),(∀c' s',aM.le ↑O c c'->Rel S c' bv s'.heap->dZ s s'->Q () s')->wpAny (MM S.w) A (storeName env x v) Q E s
def ic.Pg {h:iS} (hf:h.Ns a f) (nd:(m.map (·.1)).Nodup)
  (h1:∀x d,(x,aa d)∈m->∃v,f x=aa v/\cT w c n v d)
  (h2:∀x,(x,ac)∈m->f x=ac):∃o,h.get? a=aa o/\ic w c n o (.ns m):=by
 left;let ⟨o,es,ep,ho,hd,hk,hm⟩:=hf;right;exact⟨o,ho,.ns hd hk nd (λx d hx=>xe12 (h1 x d hx) λv a b=>⟨v,(hm x).trans a,b⟩) λx hx=>(hm x).trans (h2 x hx)⟩
def jK.loc (hm:O[ae.fi]? =aa (.ns m)) (hk:ae.scope.names.lookup x=aa .local) (hs:iA x d m m') (HQ:O.set ae.fi (.ns m')=bv):
  jK S O ae x d bv:=by
 subst HQ;refine⟨by rw[bi];exact ab _,?_⟩;intro A c s env v hE R hv E Q hQ;let ⟨f,hf,nd,h1,h2⟩:=R.ns hm;refine xQ (by rw[hE.kindOf,hk]) (by rw[hE.locals];exact hf) (λh' vt qd=> ?_) (by rw[hE.scope,hE.kind];rfl);rw[hE.locals]at vt qd;let ⟨o,ho,hr⟩:=ic.Pg (w:=S.w) (c:=c) (n:= ↑O) (m:=m') vt (by rw[hs.keys];exact nd) (λy e hy=>by
  rcases hs.mem nd y _ hy with⟨rfl,h⟩|⟨h,hy⟩
  ·obtain rfl:=ag h;exact⟨v,if_pos rfl,hv⟩
  ·let ⟨u,p,q⟩:=h1 y e hy;exact⟨u,by rw[if_neg h];exact p,q⟩) (λy hy=>by
  rcases hs.mem nd y _ hy with⟨rfl,h⟩|⟨h,hy⟩
  ·nomatch h
  ·rw[if_neg h];exact h2 y hy)
 exact hQ c _ (.refl ..) (R.set hE.fi (λb o hb e=>qd.extBut b o hb e) ho hr) (.heap ..)
def jK.cell (hk:ae.scope.names.lookup x=aa .cell) (hi:ae.cells.lookup x=aa i) (hd:O[i]? =aa (.cell am8)) (HQ:O.set i (.cell (aa d))=bv):
  jK S O ae x d bv:=by
 subst HQ;refine⟨by rw[bi];exact ab _,?_⟩;intro A c s env v hE R hv E Q hQ;let ⟨o,ho,hr⟩:=R.own i _ hd;let ⟨am9,a,b,_,_⟩:=hr.WB;have kX:i< ↑O:=by
  rcases bS i ↑O with h|h
  ·exact h
  ·rw[bC h]at hd;nomatch hd
 refine am (M:=MM S.w) (A:=A) (E:=E) (s:=s) (m:=pure ()) (f:=λ_=>storeName env x v) (Q:=Q) (aR ?_);unfold storeName;have hkk:env.kindOf x=aa .cell:=by rw[hE.kindOf,hk]
 simp only[(by rw[hkk];rfl:((env.kindOf x==aa NameKind.globalImplicit)&&env.blockKind !=ScopeKind.function)=false),fw,if_false,hkk];simp only[(by rw[(by rw[hE.scope];exact hE.kind:env.scope.kind= .function)];rfl:((env.scope.kind==ScopeKind.class)&&(aa k9==aa k9))=false),fw,if_false];refine am (wpAny_cellOf (c:=c.Z i) (by rw[hE.cells,Ef,hi];rfl) ?_);unfold cellSet;refine am (Kj ho ?_);rw[a];refine wpAny_update ho ?_;refine hQ c _ (.refl ..) (R.set kX (λb o hb e=>(mR ..).extBut b o hb e) (uP _ ho rfl) ?_) (.gF ..);exact .cell rfl b (λy hy=>by obtain rfl:=ag hy;exact⟨v,rfl,hv⟩) (λh=>by nomatch h)
structure C5 (S:cz) (k:Nat) (O:List AO) (ae:iv) (t:Expr) (d:AV) (bv:List AO):Prop where
 len: ↑O<= ↑bv
 run:∀A c s env v,jF k A->cY c ↑O ae env->Rel S c O s.heap->cT S.w c ↑O v d->
  ∀(E:VS) (Q:Unit->bb->Prop),(∀c' s',aM.le ↑O c c'->Rel S c' bv s'.heap->dZ s s'->Q () s')->wpAny (MM S.w) A (assign t env v) Q E s
def C5.name (h:jK S O ae x d bv):C5 S k O ae (.Name x pos) d bv:=
 ⟨h.len,λA c s env v _ hE R hv E Q hQ=>by
  show wpAny _ A (do standAt pos;bindName env x v) Q E s;exact am (cV (sf (h.run A c s env v hE R hv E Q hQ)))⟩
def cG.nil:cG S k O ae [] .next O:=⟨ab _,λA c s env _ _ R E Q hQ=>jz (hQ c .next s (.refl ..) R (.refl _) .next)⟩
def cG.cons (h1:i6 S k O ae st .next bA) (h2:cG S k bA ae rest f bP):cG S k O ae (st::rest) f bP:=
 ⟨aA h1.len h2.len,λA c s env hA hE R E Q hQ=>da (h1.run A c s env hA hE R _ _ λc1 v1 s1 l1 R1 K1 f1=>by
  obtain rfl:=f1.wz;exact h2.run A c1 s1 env hA (hE.mono l1 h1.len) R1 _ _ λc2 v2 s2 l2 R2 K2 f2=>hQ c2 v2 s2 (l1.trans l2 h1.len) R2 (K1.trans K2) f2)⟩
def cG.ret (h1:i6 S k O ae st (.ret d) bA):cG S k O ae (st::rest) (.ret d) bA:=
 ⟨h1.len,λA c s env hA hE R E Q hQ=>da (h1.run A c s env hA hE R _ _ λc1 v1 s1 l1 R1 K1 f1=>by
  let ⟨_,q,f2⟩:=f1.Mp;cases q;exact hQ c1 _ s1 l1 R1 K1 (.ret f2))⟩
def i6.assign (h1:Ev S k O ae gQ d bA) (h2:jK S bA ae x d bP)
  (hs:∀env,env.scope=ae.scope->swapsWith gQ (aa (.Name x jW)) pos.line env=pure false):i6 S k O ae (.Assign [.Name x jW] gQ pos) .next bP:=
 ⟨aA h1.len h2.len,λA c s env hA hE R E Q hQ=>kZ (h1.run A c s env hA hE R _ _ λc1 v1 s1 l1 R1 K1 a1=>
  h2.run A c1 s1 env v1 (hE.mono l1 h1.len) R1 a1 _ _ λc2 s2 l2 R2 K2=>hQ c2 .next s2 (l1.trans l2 h1.len) R2 (K1.trans K2) .next) (hs env hE.scope)⟩
def i6.if (h1:nX S k O ae test b) (h2:cG S k O ae (if b then body else orelse) f bA):
  i6 S k O ae (.If test body orelse pos) f bA:=
 ⟨h2.len,λA c s env hA hE R E Q hQ=>wpAny_If (h1 A c s env hA hE R _ _ λc1 s1 l1 R1 K1=>by
  induction b with
  |true=>exact h2.run A c1 s1 env hA (hE.mono l1 (ab _)) R1 _ _ λc2 v2 s2 l2 R2 K2 f2=>hQ c2 v2 s2 (l1.trans l2 (ab _)) R2 (K1.trans K2) f2
  |false=>exact h2.run A c1 s1 env hA (hE.mono l1 (ab _)) R1 _ _ λc2 v2 s2 l2 R2 K2 f2=>hQ c2 v2 s2 (l1.trans l2 (ab _)) R2 (K1.trans K2) f2)⟩
def i6.return (h1:Ev S k O ae e d bA):i6 S k O ae (.Return (aa e) pos) (.ret d) bA:=
 ⟨h1.len,λA c s env hA hE R E Q hQ=>wpAny_Return_some (h1.run A c s env hA hE R _ _ λc1 v1 s1 l1 R1 K1 a1=>hQ c1 _ s1 l1 R1 K1 (.ret a1))⟩
def i6.expr (h1:Ev S k O ae e d bA) (hs:swapsWith e ac pos.line=λ_=>pure false):i6 S k O ae (.Expr e pos) .next bA:=
 ⟨h1.len,λA c s env hA hE R E Q hQ=>yB (h1.run A c s env hA hE R _ _ λc1 v1 s1 l1 R1 K1 a1=>hQ c1 _ s1 l1 R1 K1 .next) (by
  unfold interactive;rw[hE.scope,hE.kind];rfl) (congrFun hs env)⟩
inductive SX (S:cz) (k:Nat) (ae:iv) (test:Expr) (body:List Stmt):List AO->nW->List AO->Prop
 |done {O:List AO}:nX S k O ae test false->SX S k ae test body O .next O
 |turn {O bA bP:List AO} {f:nW}:nX S k O ae test true->cG S k O ae body .next bA->SX S k ae test body bA f bP->SX S k ae test body O f bP
 |ret {O bA:List AO} {d:AV}:nX S k O ae test true->cG S k O ae body (.ret d) bA->SX S k ae test body O (.ret d) bA
def SX.len (h:SX S k ae test body O f bA): ↑O<= ↑bA:=by
 induction h with
 |done=>exact ab _
 |turn _ h _ ih=>exact aA h.len ih
 |ret _ h=>exact h.len
def SX.run (h:SX S k ae test body O f bA):∀(A:cS) (c:aM) (s:bb) (env:lY),jF k A->cY c ↑O ae env->Rel S c O s.heap->
  ∀(E:VS) (Q:B8->bb->Prop),(∀c' v s',aM.le ↑O c c'->Rel S c' bA s'.heap->dZ s s'->sH S.w c' ↑bA v f->Q v s')->
   codeAny (MM S.w) A (.whileLoop test body [] env) (λr s'=>match r with| .ok f=>Q f s'| .error e=>E e s') s:=by
 induction h with
 |done hb=>intro A c s env hA hE R E Q hQ;refine fb ?_;rw[cy (by rfl)];show wpAny _ A ((whileTurn _ _ _ env).onRaise (λx=>do noteFrame x env;theTreesLotGoes x)) _ _ s;refine jB ?_;simp only[whileTurn];refine am (hb A c s env hA hE R _ _ λc1 s1 l1 R1 K1=> ?_);simp only[fw,if_false];exact am (jz (aR (hQ c1 .next s1 l1 R1 K1 .next)))
 |turn hb h1 _ ih=>intro A c s env hA hE R E Q hQ;refine fb ?_;rw[cy (by rfl)];show wpAny _ A ((whileTurn _ _ _ env).onRaise (λx=>do noteFrame x env;theTreesLotGoes x)) _ _ s;refine jB ?_;simp only[whileTurn];refine am (hb A c s env hA hE R _ _ λc1 s1 l1 R1 K1=> ?_);simp only[if_true];refine am (h1.run A c1 s1 env hA (hE.mono l1 (ab _)) R1 _ _ λc2 v2 s2 l2 R2 K2 f2=> ?_);obtain rfl:=f2.wz;exact aR ⟨rfl,ih A c2 s2 env hA (hE.mono (l1.trans l2 (ab _)) h1.len) R2 E Q λc3 v3 s3 l3 R3 K3 f3=>hQ c3 v3 s3 ((l1.trans l2 (ab _)).trans l3 h1.len) R3 ((K1.trans K2).trans K3) f3⟩
 |ret hb h1=>
  intro A c s env hA hE R E Q hQ;refine fb ?_;rw[cy (by rfl)];show wpAny _ A ((whileTurn _ _ _ env).onRaise (λx=>do noteFrame x env;theTreesLotGoes x)) _ _ s;refine jB ?_;simp only[whileTurn];refine am (hb A c s env hA hE R _ _ λc1 s1 l1 R1 K1=> ?_);simp only[if_true];refine am (h1.run A c1 s1 env hA (hE.mono l1 (ab _)) R1 _ _ λc2 v2 s2 l2 R2 K2 f2=> ?_);cases f2 with
  |ret f2=>exact aR (hQ c2 _ s2 (l1.trans l2 (ab _)) R2 (K1.trans K2) (.ret f2))
def i6.KL (h:SX S k ae test body O f bA):i6 S k O ae (.While test body [] pos) f bA:=
 ⟨h.len,λA c s env hA hE R E Q hQ=>wpAny_While (by
  exact v9 (h.run A c s env hA hE R (λ_ _=>False) Q hQ) (λr s' x=>by induction r with|ok f=>exact x|error e=>exact x.elim))⟩
def jG (S:cz) (O:List AO) (fd:FuncData) (args:List AV) (kw:List (Str×AV)) (binds:List (Str×AV)):Prop:=
 ∀(c:aM) (s:bb) (vs:Vs) (kvs:List (Str×Value)),Rel S c O s.heap->dg S.w c ↑O vs args->kvs.map (·.1)=kw.map (·.1)->dg S.w c ↑O (kvs.map (·.2)) (kw.map (·.2))->
  ∃vb:List (Str×Value),vb.map (·.1)=binds.map (·.1)/\dg S.w c ↑O (vb.map (·.2)) (binds.map (·.2))/\BindsTo s fd ⟨vs,kvs⟩ vb
def jG.plain {names:List Str} (cH: ↑names= ↑args)
  (h:∀vs:List Value,↑vs= ↑args->bindArgs fd ⟨vs,[]⟩=pure (names.zip vs)):jG S O fd args [] (names.zip args):=by
 intro c s vs kvs R ha hk _;have HR:kvs=[]:=by induction kvs with|nil=>rfl|cons _ _=>cases hk
 subst HR;have hl: ↑vs= ↑args:=by
  clear cH h hk;induction ha with
  |nil=>rfl
  |cons _ _ ih=>rw[az,az,ih]
 refine⟨names.zip vs,?_,?_,Td (h vs hl)⟩
 ·rw[la (by simp_all),la (by simp_all)]
 ·rw[nH (by simp_all),nH (by simp_all)];exact ha
def dg.length (h:dg w c n vs ds): ↑vs= ↑ds:=by
 induction h with
 |nil=>rfl
 |cons _ _ ih=>rw[az,az,ih]
def AA (l:List (Str×Value)) (hn:(l.map (·.1)).Nodup) (x:Str) (v:Value) (h:(x,v)∈l):l.reverse.lookup x=aa v:=by
 induction l with
 |nil=>cases h
 |cons p l ih=>
  rw[bw,fE]at hn;rw[SP,OE];rcases aH.mp h with e|e
  ·clear h;subst e;have:l.reverse.lookup x=ac:=by rw[sC];intro q hq;rw[List.mem_reverse]at hq;exact bne_iff_ne.mpr λ(e:x=q.1)=>hn.1 (aQ.mpr ⟨q,hq,e.symm⟩)
   rw[this];simp
  ·rw[ih hn.2 e];rfl
def dg.pick {vb:List (Str×Value)} {binds:List (Str×AV)} (hk:vb.map (·.1)=binds.map (·.1)) (ha:dg w c n (vb.map (·.2)) (binds.map (·.2))) (x:Str) (d:AV) (h:(x,d)∈binds):∃v,(x,v)∈vb/\cT w c n v d:=by
 have hl: ↑vb= ↑binds:=by have:=congrArg eX hk;rwa [aw,aw]at this
 replace hl:=SW.of hl;induction hl with
 |nil=>nomatch h
 |cons p q _ ih=>
  let ⟨v,r,e,h1,h2⟩:=ha.i1;let ⟨rfl,rfl⟩:=jJ e;let ⟨k1,k2⟩:=jJ hk;rcases aH.mp h with e|e
  ·have k3:p.1=x:=by rw[<- e]at k1;exact k1
   exact⟨p.2,by rw[<- k3];exact ay,by rw[<- e]at h1;exact h1⟩
  ·let ⟨v,hv,hd⟩:=ih k2 h2 e;exact⟨v,aK _ hv,hd⟩
def eh.body (r:eh):List Stmt:=r.d.2.1
def eh.scope (r:eh):Scope:=r.d.2.2
def eh.env (r:eh) (n:Nat):iv:= {scope:=r.scope,fi:=n,cells:=[],code:=aa r.code}
def Rel.fn (R:Rel S c O h) (hr:r∈fV):∃o pm,h.get? r.addr=aa o/\o.cls= .type "function" /\o.data= .func (r.fd pm)/\h.CodeRec (.ref r.code) r.qual:=by
 left;let ⟨o,pm,h1,h2,h3,h4⟩:=S.fns r hr;right;refine⟨o,pm,R.old h1 ?_,h2,h3,?_⟩
 ·revert hr;unfold fV;intro hr q hq;have:∀r∈fV,∀q∈cm,r.addr≠q.2:=by decide
  exact this r hr q hq
 ·let ⟨c',o',vs,t,e,g,d,x⟩:=h4;cases e;refine⟨_,o',vs,t,rfl,R.old g ?_,d,x⟩;have:∀r∈fV,∀q∈cm,r.code≠q.2:=by decide
  exact this r hr
inductive Ge:List AO->Nat->AV->AV->Prop
 |pv {τ:List AO} {n:Nat} {d:PV}:Ge τ n (.pv d) (.pv d)
 |list {τ:List AO} {n j:Nat} {l:List PV}:τ[j]? =aa (.list l)->Ge τ n (.fM (n+j)) (.pv (.lst l))
 |dict {τ:List AO} {n j:Nat} {l:List (Str×PV)}:τ[j]? =aa (.dict l)->Ge τ n (.fM (n+j)) (.pv (.oO l))
def Rel.freeze {c:aM} {h:iS} {a:Addr} {o:Obj} (R:Rel S c O h) (ha:qC c ↑O a) (ho:h.get? a=aa o):Rel S (c.put a o) O h where
 frozen:=λx y e=>by
  have e':(if x=a then aa o else c.F x)=aa y:=e;by_cases hx:x=a
  ·subst hx;rw[if_pos rfl]at e';obtain rfl:=ag e';exact ho
  ·rw[if_neg hx]at e';exact R.frozen x y e'
 base:=λx y e hq=>by show(if x=a then aa o else c.F x)=aa y;have:=R.base x y e hq;rw[if_neg (by rintro rfl;rw[ha.F]at this;nomatch this)];exact this
 own:=λi ao e=>xe12 (R.own i ao e) λo' x b=>⟨o',x,b.mono (aM.dC ha.F) (ab _)⟩
 apart:=λi hi=>by show(if c.Z i=a then aa o else c.F (c.Z i))=ac;rw[if_neg (ha.Z i hi)];exact R.apart i hi
 inj:=R.inj
 pins:=λx y e=>by let ⟨p1,p2,p3,p4⟩:=R.pins x y e;refine⟨p1,?_,p3,p4⟩;show(if x=a then aa o else c.F x)=ac;rw[if_neg (by rintro rfl;have e':c.pin x=aa y:=e;rw[ha.pin]at e';nomatch e')];exact p2
 tabs:=λq hq=>by left;let ⟨x,b,ps,d,e,f⟩:=R.tabs q hq;right;refine⟨?_,b,ps,d,e,λpos cd h=>(f pos cd h).mono (aM.dC (n:=0) ha.F).F⟩;show(if q.2=a then aa o else c.F q.2)=ac;rw[if_neg (ha.tab q hq)];exact x
def Rel.KN (R:Rel S c O h) (hi:i< ↑O):(c.Z i==sysModules)=false:=by let ⟨o,ho⟩:=S.mods;exact beq_eq_false_iff_ne.mpr λe=>by have:=R.apart i hi;rw[e,(R.base _ _ ho ∅)]at this;nomatch this
def Rel.KO {c:aM} {h:iS} {τ:List AO} (R:Rel S c (O++τ) h) {i:Nat} (hi: ↑O<=i) (kX:i< ↑(O++τ)):qC c ↑O (c.Z i) where
 F:=R.apart i kX
 Z:=λj hj e=>by have:=R.inj j i (by rw[aj];exact om6 hj) kX e;exact aaT hj this hi
 pin:=by
  cases e:c.pin (c.Z i)with
  |none=>rfl
  |some o=>exact absurd rfl ((R.pins _ _ e).2.2.1 i kX)
 tab:=λq hq e=>(R.tabs q hq).2.1 i kX e.symm
def Rel.Ph (R2:Rel S c' bv h') (R':Rel S c' (bv++τ) h') (hi: ↑bv+j< ↑(bv++τ)) (hj:τ[j]? =aa ao):∃o RT,(c'.F (c'.Z (↑bv+j))=ac/\RT=c'.put (c'.Z (↑bv+j)) o)/\Rel S RT bv h'/\RT.F (c'.Z (↑bv+j))=aa o/\ic S.w c' ↑(bv++τ) o ao/\
  ∀a,qC c' ↑bv a->eM (c'.Z (↑bv+j))≠ .ref a->qC RT ↑bv a:=by
 let ⟨o,ho,hr⟩:=R'.own (↑bv+j) ao (by rw[aE (bh ..),bO];exact hj);have hf:=R'.KO (bh _ j) hi;refine⟨o,_,⟨hf.F,rfl⟩,R2.freeze hf ho,if_pos rfl,hr,λa ha oQ=>⟨?_,ha.Z,ha.pin,ha.tab⟩⟩;show(if a=_ then aa o else c'.F a)=ac;rw[if_neg λe=>oQ (by rw[e])];exact ha.F
def Ge.run (R:Rel S c O h) (R':Rel S c' (bv++τ) h') (hl: ↑bv= ↑O) (HQ:∀(i:Nat) (x:AO),bv[i]? =aa x->O[i]? =aa x\/x.flat=true)
  (hz:Ge τ ↑bv d d') (hv:cT S.w c' ↑(bv++τ) v d):∃RT,aM.le ↑O c' RT/\Rel S RT bv h'/\cT S.w RT ↑bv v d'/\∀a,qC c' ↑bv a->v≠ .ref a->qC RT ↑bv a:=by
 have R2:=R.drop R' hl HQ;induction hz with
 |pv=>exact⟨c',.refl ..,R2,.pv hv.gh,λ_ h _=>h⟩
 | @list j l hj=>let ⟨rfl,hi⟩:=hv.zy;let ⟨o,RT,⟨hF,rfl⟩,R3,h1,hr,h2⟩:=R2.Ph R' hi hj;let ⟨_,_,rfl,a,b⟩:=hr.yP;exact⟨_,aM.dC hF,R3,.pv (.lst h1 a λi v d e1 e2=>(b i v d e1 e2).mono (aM.dC (n:=0) hF).F),h2⟩
 | @dict j l hj=>let ⟨rfl,hi⟩:=hv.zy;let ⟨o,RT,⟨hF,rfl⟩,R3,h1,hr,h2⟩:=R2.Ph R' hi hj;let ⟨_,_,rfl,a,b,d,e⟩:=hr.Pd;exact⟨_,aM.dC hF,R3,.pv (.oO (R'.KN hi) h1 a b d λi e' k x e1 e2=>(e i e' k x e1 e2).mono (aM.dC (n:=0) hF).F),h2⟩
noncomputable def TG:B8->Value
 | .ret v=>v
 |_=> .none
def nW.val:nW->AV
 | .ret d=>d
 |_=> .pv PV.none
noncomputable def notStar (e:Expr):Bool:=e.ctorIdx !=22
def gA (h:notStar e=true):starEach (e::rest) env=(false,eval e env)::starEach rest env:=by cases e<;>first|rfl|cases h
inductive ck (S:cz) (k:Nat) (O:List AO) (ae:iv):List Expr->List AV->Prop
 |nil:ck S k O ae [] []
 |cons {e:Expr} {rest:List Expr} {d:AV} {ds:List AV}:Ev S k O ae e d O->ck S k O ae rest ds->notStar e=true->ck S k O ae (e::rest) (d::ds)
inductive o9 (S:cz) (k:Nat) (O:List AO) (ae:iv):List Keyword->List (Str×AV)->Prop
 |nil:o9 S k O ae [] []
 |cons {e:Expr} {p:Pos} {x:Str} {rest:List Keyword} {d:AV} {ds:List (Str×AV)}:Ev S k O ae e d O->o9 S k O ae rest ds->o9 S k O ae (⟨aa x,e,p⟩::rest) ((x,d)::ds)
def mH (h:ck S k O ae args ds):∀(pos:Pos) (A:cS) (c:aM) (s:bb) (env:lY),jF k A->cY c ↑O ae env->Rel S c O s.heap->
  ∀(E:VS) (Q:List Value->bb->Prop),(∀c' vs s',aM.le ↑O c c'->Rel S c' O s'.heap->dZ s s'->dg S.w c' ↑O vs ds->Q vs s')->wpAny (MM S.w) A (spliced (backTo pos (starEach args env))) Q E s:=by
 induction h with
 |nil=>intro pos A c s env _ _ R E Q hQ;exact eB (hQ c [] s (.refl ..) R (.refl _) .nil)
 |cons h1 _ hn ih=>intro pos A c s env hA hE R E Q hQ;rw[gA hn];show wpAny _ A (spliced ((false,eval _ env)::backTo pos (starEach _ env))) Q E s;refine bX (h1.run A c s env hA hE R _ _ λc1 v1 s1 l1 R1 K1 a1=> ?_);exact ih pos A c1 s1 env hA (hE.mono l1 (ab _)) R1 _ _ λc2 vs s2 l2 R2 K2 a2=>hQ c2 _ s2 (l1.trans l2 (ab _)) R2 (K1.trans K2) (.cons (a1.mono l2 (ab _)) a2)
def IJ (h:o9 S k O ae zG ds):∀(pos:Pos) (A:cS) (c:aM) (s:bb) (env:lY),jF k A->cY c ↑O ae env->Rel S c O s.heap->
  ∀(E:VS) (Q:List Value->bb->Prop),(∀c' vs s',aM.le ↑O c c'->Rel S c' O s'.heap->dZ s s'->dg S.w c' ↑O vs (ds.map (·.2))->Q vs s')->
   wpAny (MM S.w) A (evalAll ((backToKw pos (keywordEach zG env)).map (·.2))) Q E s:=by
 induction h with
 |nil=>intro pos A c s env _ _ R E Q hQ;exact iI (hQ c [] s (.refl ..) R (.refl _) .nil)
 |cons h1 _ ih=>intro pos A c s env hA hE R E Q hQ;show wpAny _ A (evalAll ((do let v <- eval _ env;standAt pos;pure v)::(backToKw pos (keywordEach _ env)).map (·.2))) Q E s;refine wpAny_evalAll_cons (am (h1.run A c s env hA hE R _ _ λc1 v1 s1 l1 R1 K1 a1=>am (cV (aR ?_))));exact ih pos A c1 s1 env hA (hE.mono l1 (ab _)) R1 _ _ λc2 vs s2 l2 R2 K2 a2=>hQ c2 _ s2 (l1.trans l2 (ab _)) R2 (K1.trans K2) (.cons (a1.mono l2 (ab _)) a2)
def KP (h:o9 S k O ae zG ds) (pos:Pos) (env:lY):(backToKw pos (keywordEach zG env)).all (·.1.isSome)=true/\(backToKw pos (keywordEach zG env)).filterMap (·.1)=ds.map (·.1):=by
 induction h with
 |nil=>exact⟨rfl,rfl⟩
 |cons _ _ ih=>
  refine⟨?_,?_⟩
  ·exact dD.mpr ⟨rfl,ih.1⟩
  ·exact congrArg (List.cons _) ih.2
def nj (h:ck S k O ae args ds) (hk:o9 S k O ae zG Oo) (f:Value) (pos:Pos) (A:cS) (c:aM) (s:bb) (env:lY)
  (hA:jF k A) (hE:cY c ↑O ae env) (R:Rel S c O s.heap) (E:VS) (Q:Args->bb->Prop)
  (hQ:∀c' vs kvs s',aM.le ↑O c c'->Rel S c' O s'.heap->dZ s s'->dg S.w c' ↑O vs ds->kvs.map (·.1)=Oo.map (·.1)->dg S.w c' ↑O (kvs.map (·.2)) (Oo.map (·.2))->Q ⟨vs,kvs⟩ s'):
  wpAny (MM S.w) A (evalArgs f true (backTo pos (starEach args env)) (backToKw pos (keywordEach zG env))) Q E s:=by
 let ⟨CM,Fv⟩:=KP hk pos env;have fin:∀c1 vs s1,aM.le ↑O c c1->Rel S c1 O s1.heap->dZ s s1->dg S.w c1 ↑O vs ds->
   wpAny (MM S.w) A (evalAll ((backToKw pos (keywordEach zG env)).map (·.2))) (λks rn=>Q ⟨vs,((backToKw pos (keywordEach zG env)).filterMap (·.1)).zip ks⟩ rn) E s1:=by
  intro c1 vs s1 l1 R1 K1 a1;refine IJ hk pos A c1 s1 env hA (hE.mono l1 (ab _)) R1 _ _ λc2 ks s2 l2 R2 K2 a2=> ?_;have hl: ↑ks= ↑Oo:=by rw[↑a2,aw]
  refine hQ c2 vs _ s2 (l1.trans l2 (ab _)) R2 (K1.trans K2) (a1.mono l2 (ab _)) ?_ ?_
  ·rw[Fv,la (by rw[aw];simp_all)]
  ·rw[Fv,nH (by rw[aw];simp_all)];exact a2
 induction h with
 |nil=>exact evalArgs_kw_nil CM (fin c [] s (.refl ..) R (.refl _) .nil)
 | @cons e rest d ds h1 h2 hn=>have Zn:=mH (.cons h1 h2 hn) pos A c s env hA hE R;rw[gA hn]at Zn⊢;exact lD CM (Zn _ _ λc1 vs s1 l1 R1 K1 a1=>fin c1 vs s1 l1 R1 K1 a1)
def Ev.md (hr:r∈fV)
  (hf:nJ S k O ae (.Name f np) (.con (.ref r.addr))) (ha:ck S k O ae args ds) (hk:o9 S k O ae zG Oo) (hc:dy S k O (.pv (.con (.ref r.addr))) ds Oo d bv):
  Ev S k O ae (.Call (.Name f np) args zG pos) d bv:=by
 refine⟨hc.len,?_⟩;intro A c s env hA hE R E Q hQ;refine cn (hf.run A c s env hA hE R _ _ λc1 v1 s1 l1 R1 K1 a1=> ?_);have e:=a1.dn;subst e;left;let ⟨o,pm,ho,_,hd,_⟩:=R1.fn hr;right;refine fJ (o:=o) (fd:=r.fd pm) ?_;refine nj ha hk _ pos A c1 s1 env hA (hE.mono l1 (ab _)) R1 _ _ λc2 vs kvs s2 l2 R2 K2 a2 k2 b2=> ?_;left;let ⟨o',pm',sd,_,Aj,_⟩:=R2.fn hr;right;refine⟨⟨?_,hd⟩,?_⟩
 ·rw[sd];congr 1;have e1:=R1.frozen;let ⟨Fw,af6,h0,_,_,_⟩:=S.fns r hr;have oQ:∀q∈cm,r.addr≠q.2:=by
   have:∀r∈fV,∀q∈cm,r.addr≠q.2:=by decide
   exact this r hr
  rw[(R1.old h0 oQ)]at ho;rw[(R2.old h0 oQ)]at sd;rw[<- ag ho,<- ag sd]
 ·exact hc.run A c2 s2 _ vs kvs hA R2 (.pv (.con _)) a2 k2 b2 E Q λc3 v3 s3 l3 R3 K3 a3=>hQ c3 v3 s3 ((l1.trans l2 (ab _)).trans l3 (ab _)) R3 ((K1.trans K2).trans K3) a3
inductive IsL (O:List AO):AV->List PV->Prop
 |val {l:List PV}:IsL O (.pv (.lst l)) l
 |fM {i:Nat} {l:List PV}:O[i]? =aa (.list l)->IsL O (.fM i) l
def IsL.at (hl:IsL O d l) (R:Rel S c O h) (hv:cT S.w c ↑O v d):
  ∃a vs n,v= .ref a/\h.get? a=aa {cls:= .type "list",data:= .seq vs n}/\vs.size= ↑l/\∀(i:Nat) (u:Value) (x:PV),vs[i]? =aa u->l[i]? =aa x->dk S.w c.F u x:=by
 induction hl with
 |val=>let ⟨_,_,_,rfl,a,b,d⟩:=hv.gh.x6;exact⟨_,_,_,rfl,R.frozen _ _ a,b,d⟩
 |fM hi=>let ⟨rfl,_⟩:=hv.zy;let ⟨o,ho,hr⟩:=R.own _ _ hi;let ⟨_,_,rfl,a,b⟩:=hr.yP;exact⟨_,_,_,rfl,ho,a,b⟩
def IsL.isList {h:iS} (e:h.get? a=aa {cls:= .type "list",data:= .seq vs n}):h.IsList a vs:=⟨_,e,rfl,_,rfl⟩
def uk {vs:Array α} {l:List β} (h:vs.size= ↑l) {i:Nat} (hx:l[i]? =aa x):∃u,vs[i]? =aa u:=by
 have:i< ↑l:=by
  rcases bS i ↑l with h|h
  ·exact h
  ·rw[bC h]at hx;nomatch hx
 exact⟨vs[i]'(by simp_all),by simp[h,this]⟩
structure yR (S:cz) (k:Nat) (O:List AO) (id:String) (ds:List AV) (d:AV) (bv:List AO):Prop where
 len: ↑O<= ↑bv
 run:∀A c s vs,jF k A->Rel S c O s.heap->dg S.w c ↑O vs ds->Tr S O A c s (call (.builtin id) vs) d bv
def eg (h:ck S k O ae args ds) (f:Value) (pos:Pos) (A:cS) (c:aM) (s:bb) (env:lY)
  (hA:jF k A) (hE:cY c ↑O ae env) (R:Rel S c O s.heap) (E:VS) (Q:Args->bb->Prop)
  (hQ:∀c' vs s',aM.le ↑O c c'->Rel S c' O s'.heap->dZ s s'->dg S.w c' ↑O vs ds->Q ⟨vs,[]⟩ s'):
  wpAny (MM S.w) A (evalArgs f true (backTo pos (starEach args env)) []) Q E s:=
 nj h .nil f pos A c s env hA hE R E Q λc1 vs kvs s1 l1 R1 K1 a1 k1 _=>by
  have e:kvs=[]:=by induction kvs with|nil=>rfl|cons _ _=>cases k1
  subst e;exact hQ c1 vs s1 l1 R1 K1 a1
def noStar (h:ck S k O ae args ds) (pos:Pos) (env:lY):(backTo pos (starEach args env)).any (·.1)=false:=by
 induction h with
 |nil=>rfl
 |cons _ _ hn ih=>rw[gA hn];exact vB.mpr ⟨rfl,ih⟩
def Ev.wA {id:String}
  (hf:nJ S k O ae (.Name f np) (.con (.builtin id))) (ha:ck S k O ae args ds) (hc:yR S k O id ds d bv):Ev S k O ae (.Call (.Name f np) args [] pos) d bv:=by
 refine⟨hc.len,?_⟩;intro A c s env hA hE R E Q hQ;refine cn (hf.run A c s env hA hE R _ _ λc1 v1 s1 l1 R1 K1 a1=> ?_);have e:=a1.dn;subst e;refine cX (noStar ha pos env) ?_;refine eg ha _ pos A c1 s1 env hA (hE.mono l1 (ab _)) R1 _ _ λc2 vs s2 l2 R2 K2 a2=> ?_;exact hc.run A c2 s2 vs hA R2 a2 E Q λc3 v3 s3 l3 R3 K3 a3=>hQ c3 v3 s3 ((l1.trans l2 (ab _)).trans l3 (ab _)) R3 ((K1.trans K2).trans K3) a3
def yR.len_list (hl:IsL O d l) (JW:(↑l:Int)<2 ^ 63):yR S k O "len" [d] (.pv (.int ↑l)) O:=by refine⟨ab _,?_⟩;intro A c s vs hA R ha E Q hQ;let ⟨_,_,rfl,a,b⟩:=ha.i1;obtain rfl:=b.i0;let ⟨a,vs,n,rfl,ho,hs,_⟩:=hl.at R a;exact Calls.call_len_list (IsL.isList ho) (by rw[hs];exact JW) (by rw[hs];exact hQ c _ _ (.refl ..) R (.toks ..) (.pv (.int ..)))
def Ev.item_list (h1:Ev S k O ae o d O) (hl:IsL O d l) (h2:nJ S k O ae i (.int n)) (h0:0<=n) (JW:n<2 ^ 63) (hx:l[n.toNat]? =aa x)
  (hs:∀a m u,subscripted i false (.ref a) (.int m u)=operate [.ref a,.int m u] (getItem (.ref a) (.int m u))):nJ S k O ae (.Subscript o i pos) x:=by
 refine⟨ab _,?_⟩;intro A c s env hA hE R E Q hQ;refine pN (h1.run A c s env hA hE R _ _ λc1 v1 s1 l1 R1 K1 a1=>h2.run A c1 s1 env hA (hE.mono l1 (ab _)) R1 _ _ λc2 v2 s2 l2 R2 K2 a2=> ?_);left;let ⟨_,rfl⟩:=a2.gh.kQ;let ⟨a,vs,m,rfl,ho,qd,hr⟩:=hl.at R2 (a1.mono l2 (ab _));let ⟨u,hu⟩:=uk qd hx;right;refine lT (T:= "list") ⟨_,ho,rfl⟩ CT.lookup (wpAny_getItem_list (IsL.isList ho) h0 JW hu ?_) (hs _ _ _);exact hQ c2 u s2 (l1.trans l2 (ab _)) R2 (K1.trans K2) (.pv (hr _ _ _ hu hx))
def Pf.TH (a:Int):Pf .Is (.int a) PV.none false:=by intro S k O A c s u v hA R h1 h2 E Q hQ;let ⟨_,rfl⟩:=h1.kQ;obtain rfl:=h2.IH;exact nS rfl (hQ c _ _ (.refl ..) R (.refl ..) (.pv (.con ..)))
def Pf.TJ:Pf .Is PV.none PV.none true:=by intro S k O A c s u v hA R h1 h2 E Q hQ;obtain rfl:=h1.IH;obtain rfl:=h2.IH;exact nS rfl (hQ c _ _ (.refl ..) R (.refl ..) (.pv (.con ..)))
def pR (sc:Scope) (l:List Str):Prop:=∀x∈l,sc.names.lookup x=aa .local
def me (sc:Scope) (l:List Str):Prop:=∀x∈l,sc.names.lookup x=aa .globalImplicit
def pR.of (h:(l.all λx=>sc.names.lookup x==aa .local)=true):pR sc l:=λx hx=>beq_iff_eq.mp (fI.mp h x hx)
def me.of (h:(l.all λx=>sc.names.lookup x==aa .globalImplicit)=true):me sc l:=λx hx=>beq_iff_eq.mp (fI.mp h x hx)
def sT (h:l[j]? =aa x):(O++l)[↑O+j]? =aa x:=by rw[aE (bh ..),bO];exact h
def gp {i:Nat} (h:O[i]? =aa x):(O++l)[i]? =aa x:=by
 rw[aW]
 ·exact h
 ·rcases bS i ↑O with h'|h'
  ·exact h'
  ·rw[bC h']at h;nomatch h
inductive Eg (x:AO):Nat->List AO->List AO->Prop
 |zero {a:AO} {r:List AO}:Eg x 0 (a::r) (x::r)
 |succ {n:Nat} {a:AO} {r r':List AO}:Eg x n r r'->Eg x (n+1) (a::r) (a::r')
def Eg.eq (h:Eg x n l l'):l.set n x=l':=by
 induction h with
 |zero=>rfl
 |succ _ ih=>rw[OC,ih]
def Eh (h:Eg x j l l'):(O++l).set (↑O+j) x=O++l':=by rw[j5 _ _ (bh ..),bO,h.eq]
def Ev.loc (hk:pR sc l) (hs:ae.scope=sc) (hx:x∈l) (hm:O[ae.fi]? =aa (.ns m)) (hd:(x,aa d)∈m)
  (hdb:(x==("__debug__" :Str))=false):Ev S k O ae (.Name x pos) d O:=Ev.rI hm (hs▸hk x hx) hd hdb
def jK.x7 (hk:pR sc l) (hs:ae.scope=sc) (hx:x∈l) (hm:O[ae.fi]? =aa (.ns m)) (h:iA x d m m') (HQ:O.set ae.fi (.ns m')=bv):
  jK S O ae x d bv:=jK.loc hm (hs▸hk x hx) h HQ
def Ev.aiW (hk:me sc l) (hs:ae.scope=sc) (hx:x∈l) (hg:(x,ac)∈cf) (hb:(x,aa v)∈kM) (hdb:(x==("__debug__" :Str))=false):
  nJ S k O ae (.Name x pos) (.con v):=Ev.Gc (hs▸hk x hx) hg hb hdb
def Ev.Cv (hk:me sc l) (hs:ae.scope=sc) (hx:x∈l) (hg:(x,aa v)∈cf) (hdb:(x==("__debug__" :Str))=false):
  nJ S k O ae (.Name x pos) (.con v):=Ev.uj (hs▸hk x hx) hg hdb
noncomputable abbrev sA:Str:=ah "a"
noncomputable abbrev sX:Str:=ah "x"
noncomputable abbrev oT:Str:=ah "lo"
noncomputable abbrev oU:Str:=ah "hi"
noncomputable abbrev gq:Str:=ah "key"
noncomputable abbrev sU:Str:=ah "mid"
noncomputable abbrev afb:Str:=ah "len"
local macro_rules | `(tactic| walk_at "a") => `(tactic| with_reducible (repeat (first | exact List.mem_cons_self | apply List.mem_cons_of_mem)))
local macro_rules | `(tactic| walk_at "c") => `(tactic| with_reducible (repeat (first | exact iA.here | apply iA.there)))
local macro_rules | `(tactic| walk_at "e") => `(tactic| first | (refine sT ?_; with_reducible rfl) | (refine sT ?_; rfl) | (refine gp ?_; assumption) | assumption | rfl)
local macro_rules | `(tactic| walk_at "d") => `(tactic| first | (apply Eh; walk_at "n") | (apply Eg.eq; walk_at "n"))
local macro_rules | `(tactic| walk_at "n") => `(tactic| repeat (first | exact Eg.zero | apply Eg.succ))
local macro_rules | `(tactic| walk_at "b") => `(tactic| first
  | with_reducible exact Ev.int
  | with_reducible exact Ev.none
  | with_reducible exact Ev.str
  | (with_reducible apply Ev.loc (by assumption)
     (· rfl)
     (· walk_at "a")
     (· walk_at "e")
     (· walk_at "a")
     (· kernel_rfl))
  | (with_reducible apply Ev.aiW (by assumption)
     (· rfl)
     (· walk_at "a")
     (· unfold cf; walk_at "a")
     (· unfold kM; walk_at "a")
     (· kernel_rfl))
  | (with_reducible apply Ev.Pe
     (· walk_at "b")
     (· walk_at "b")
     (· walk_at "r")))
local macro_rules | `(tactic| walk_at "r") => `(tactic| first
  | with_reducible exact Gd.aiV _ _
  | with_reducible exact Gd.subI _ _
  | (with_reducible apply Gd.WC
     (· decide)
     (· exact PyProof.noPylong_small (by omega))))
local macro_rules | `(tactic| walk_at "m") => `(tactic| first
  | with_reducible exact Pf.ltI _ _
  | with_reducible exact Pf.TH _
  | with_reducible exact Pf.TJ)
local macro_rules | `(tactic| walk_at "i") => `(tactic| first
  | (with_reducible apply nX.compare
     (· walk_at "b")
     (· walk_at "b")
     (· walk_at "m")
     (· rfl)))
local macro_rules | `(tactic| walk_at "k") => `(tactic| first | rfl | assumption | exact decide_eq_true (by omega))
local macro_rules | `(tactic| walk_at "o") => `(tactic| first | rfl | assumption | exact decide_eq_false (by omega))
local macro_rules | `(tactic| walk_at "g") => `(tactic|
  (apply i6.if (b := true)
   (· apply nX.to
      (· walk_at "i")
      (· walk_at "k"))))
local macro_rules | `(tactic| walk_at "f") => `(tactic|
  (apply i6.if (b := false)
   (· apply nX.to
      (· walk_at "i")
      (· walk_at "o"))))
local macro_rules | `(tactic| walk_at "l") => `(tactic|
  (with_reducible apply i6.assign
   (· walk_at "b")
   (· apply jK.x7 (by assumption)
      (· rfl)
      (· walk_at "a")
      (· walk_at "e")
      (· walk_at "c")
      (· walk_at "d"))
   (· intro _ _; rfl)))
local macro_rules | `(tactic| walk_at "s") => `(tactic| first
  | walk_at "l"
  | (walk_at "g"; walk_at "h"; done)
  | (walk_at "f"; walk_at "h"; done))
local macro_rules | `(tactic| walk_at "h") => `(tactic| first
  | exact cG.nil
  | (apply cG.cons
     (· walk_at "s")
     (· walk_at "h"))
  | (apply cG.ret
     (apply i6.return
      walk_at "b")))
local macro_rules | `(tactic| walk_at "p") => `(tactic| assumption)
def rB:eh:=fk
def sW:pR rB.scope [sA,sX,oT,oU,gq,sU]:=pR.of tt
def Gf:me rB.scope [afb]:=me.of tt
abbrev Cw (a x:AV) (lo hi:Int) (key:AV) (mid:Option AV):List (Str×Option AV):=
 [(sA,aa a),(sX,aa x),(oT,aa (.pv (.int lo))),(oU,aa (.pv (.int hi))),(gq,aa key),(sU,mid)]
def IsL.AB (h:IsL O d l):IsL (O++τ) d l:=by
 induction h with
 |val=>exact .val
 |fM h=>exact .fM (gp h)
local macro_rules | `(tactic| walk_at "q") => `(tactic| first | exact IsL.val | assumption | (apply IsL.AB; assumption) | (apply IsL.fM; walk_at "e"))
def bq4 {n:Nat} (h:n<2 ^ 30) (h1:lo<hi) (h2:hi<=n):(((lo+hi)/2:Nat):Int)<2 ^ 63:=
 jo (cM.mpr (iM (IE h1 h2) h)) (by decide:((2 ^ 30:Nat):Int)<2 ^ 63)
local macro_rules | `(tactic| walk_at "b") => `(tactic|
  (with_reducible apply Ev.item_list
   (· walk_at "b")
   (· walk_at "q")
   (· walk_at "b")
   (· exact Int.natCast_nonneg _)
   (· exact bq4 ‹_› ‹_› ‹_›)
   (· walk_at "p")
   (· intro _ _ _; rfl)))
noncomputable def pb (p:Nat->Bool):Nat->Nat->Nat->Option AV->Nat×Nat×Option AV
 |0,lo,hi,m=>(lo,hi,m)
 |n+1,lo,hi,m=>if lo<hi then(if p ((lo+hi)/2) then pb p n ((lo+hi)/2+1) hi (aa (.pv (.int ((lo+hi)/2:Nat)))) else pb p n lo ((lo+hi)/2) (aa (.pv (.int ((lo+hi)/2:Nat))))) else(lo,hi,m)
def Ei:pb p (n+1) lo hi m=if lo<hi then(if p ((lo+hi)/2) then pb p n ((lo+hi)/2+1) hi (aa (.pv (.int ((lo+hi)/2:Nat)))) else pb p n lo ((lo+hi)/2) (aa (.pv (.int ((lo+hi)/2:Nat))))) else(lo,hi,m):=rfl
def afc (lo hi:Nat):((lo:Int)+(hi:Int)).fdiv 2=(((lo+hi)/2:Nat):Int):=by rw[FS _ ∅];rfl
def Gd.mid (lo hi:Nat):Gd (binaryOp .FloorDiv) (.int ((lo:Int)+(hi:Int))) (.int 2) (.int ((lo+hi)/2:Nat)):=
 afc lo hi▸Gd.WC _ _ ∅ (FN (gn _ _))
local macro_rules | `(tactic| walk_at "r") => `(tactic| with_reducible exact Gd.mid _ _)
def KQ {lo hi n:Nat} (h1:hi- lo<=n+1) (h:lo<hi):hi- ((lo+hi)/2+1)<=n:=by have hm:lo<=(lo+hi)/2:=(Mh Nat.two_pos).mpr (by rw[Nat.mul_two];exact dX (ce h) lo);refine ko.mpr (aA (ko.mp h1) ?_);rw[iP,uf 1];exact dX (Cb hm) n
def KR {lo hi n:Nat} (h1:hi- lo<=n+1) (h:lo<hi):(lo+hi)/2- lo<=n:=by have hm:(lo+hi)/2<hi:=Oa (by rw[Co];exact Od h hi);refine ko.mpr (mS (aA hm ?_));have:=ko.mp h1;rwa [yJ]at this
def wB (p:Nat->Bool)
  (ht:∀(lo hi:Nat) mid,nX S k (O++[.ns (Cw a x lo hi key mid)]) ae test (decide ((lo:Int)< (hi:Int))))
  (hb:∀(lo hi:Nat) mid,lo<hi->hi<=N->cG S k (O++[.ns (Cw a x lo hi key mid)]) ae body .next
   (if p ((lo+hi)/2) then O++[.ns (Cw a x (((lo+hi)/2:Nat)+1:Int) hi key (aa (.pv (.int ((lo+hi)/2:Nat)))))] else O++[.ns (Cw a x lo ((lo+hi)/2:Nat) key (aa (.pv (.int ((lo+hi)/2:Nat)))))])):
  ∀(n lo hi:Nat) mid,hi- lo<=n->hi<=N->SX S k ae test body (O++[.ns (Cw a x lo hi key mid)]) .next (O++[.ns (Cw a x (pb p n lo hi mid).1 (pb p n lo hi mid).2.1 key (pb p n lo hi mid).2.2)]):=by
 intro n;induction n with
 |zero=>intro lo hi mid h1 h2;have:decide ((lo:Int)< (hi:Int))=false:=decide_eq_false (om8 h1);exact .done (this▸ht lo hi mid)
 |succ n ih=>
  intro lo hi mid h1 h2;rw[Ei];by_cases h:lo<hi
  ·rw[if_pos h];have hd:decide ((lo:Int)< (hi:Int))=true:=decide_eq_true (om9 h);have uU:=hb lo hi mid h h2;cases hp:p ((lo+hi)/2)with
   |true=>rw[hp,if_pos rfl]at uU;rw[if_pos rfl];exact .turn (hd▸ht lo hi mid) uU (ih ((lo+hi)/2+1) hi (aa (.pv (.int ((lo+hi)/2:Nat)))) (KQ h1 h) h2)
   |false=>rw[hp,if_neg bG]at uU;rw[if_neg bG];exact .turn (hd▸ht lo hi mid) uU (ih lo ((lo+hi)/2) (aa (.pv (.int ((lo+hi)/2:Nat)))) (KR h1 h) (aaK h h2))
  ·rw[if_neg h];exact .done ((decide_eq_false (aib h))▸ht lo hi mid)
def KS:Option Nat->PV
 |some h=> .int h
 |ac=>PV.none
def Mr {ns:List Int} {lo:Nat} (hl:IsL O d (ns.map PV.int)) (hn: ↑ns<2 ^ 30) (DW:lo<= ↑ns) (HS:∀h,hi=aa h->h<= ↑ns):
  ∃τ,cG S k (O++[.ns [(sA,aa d),(sX,aa (.pv (.int x))),(oT,aa (.pv (.int lo))),(oU,aa (.pv (KS hi))),(gq,aa (.pv PV.none)),(sU,ac)]])
   (rB.env (↑O+0)) rB.body (.ret (.pv (.int (pb (λm=>decide (ns.getD m 0<x)) ↑ns lo (hi.getD ↑ns) ac).1))) (O++τ):=by
 have h1:=sW;have h2:=Gf;apply fX;apply cG.cons
 ·walk_at "f";exact cG.nil
 apply cG.cons (bA:=O++[.ns (Cw d (.pv (.int x)) lo (hi.getD ↑ns:Nat) (.pv PV.none) ac)])
 ·induction hi with
  |none=>
   dsimp only[KS];walk_at "g";apply cG.cons
   ·apply i6.assign
    ·apply Ev.wA
     ·walk_at "b"
     ·apply ck.cons
      ·walk_at "b"
      ·exact .nil
      ·rfl
     ·apply yR.len_list (l:=ns.map PV.int)
      ·cases hl with
       |val=>exact .val
       |fM h=>exact .fM (gp h)
      ·rw[aw];exact aaL hn
    ·apply jK.x7 h1
     ·rfl
     ·walk_at "a"
     ·walk_at "e"
     ·walk_at "c"
     ·walk_at "d"
    ·intro _ _;rfl
   ·rw[aw];exact cG.nil
  |some h=>dsimp only[KS];walk_at "f";exact cG.nil
 have cH:∀i,i< ↑ns->(ns.map PV.int)[i]? =aa (.int (ns.getD i 0)):=by intro i hi;simp[hi]
 apply cG.cons
 ·walk_at "g";apply cG.cons
  ·apply i6.KL;apply wB (p:=λm=>decide (ns.getD m 0<x)) (N:= ↑ns) (n:= ↑ns)
   ·intro lo hi mid;walk_at "i"
   ·intro lo hi mid h3 h4;have hm:=cH ((lo+hi)/2) (IE h3 h4);apply cG.cons
    ·walk_at "l"
    cases hc:decide (ns.getD ((lo+hi)/2) 0<x)with
    |true=>
     rw[if_pos rfl];apply cG.cons
     ·walk_at "g";walk_at "h"
     ·exact cG.nil
    |false=>
     rw[if_neg bG];apply cG.cons
     ·walk_at "f";walk_at "h"
     ·exact cG.nil
   ·induction hi with
    |none=>simp
    |some h=>have:=HS h rfl;simp;exact Ml this
   ·induction hi with
    |none=>simp
    |some h=>have:=HS h rfl;simpa using this
  ·exact cG.nil
 walk_at "h"
noncomputable def sq {α β:Type} (f:α->β->Option Bool):List α->List β->Option Bool
 | [],_=>aa true
 |_::_,[]=>aa true
 |a::l,b::m=>(f a b).bind λx=>(sq f l m).map (x&& ·)
noncomputable def PV.Ej:Nat->PV->PV->Option Bool
 |0,_,_=>ac
 |n+1,.int a,.int b=>aa (a==b)
 |n+1,.str a,.str b=>aa (a==b)
 |n+1,.tup l,.tup m=>(sq (PV.Ej n) l m).map λr=>r&& ↑l== ↑m
 |n+1,.lst l,.lst m=>if ↑l= ↑m then sq (PV.Ej n) l m else aa false
 |_,_,_=>ac
noncomputable def at2 {α β:Type} (f:α->β->Option Bool) (l:List α) (m:List β) (j:Nat):Bool:=
 match l[j]?,m[j]? with
 |some a,aa b=>(f a b).getD true
 |_,_=>true
def AC {l:List α}:∀ {m:List β} {r:Bool},sq f l m=aa r->
  (∀j (h1:j< ↑l) (h2:j< ↑m),∃x,f l[j] m[j]=aa x)/\r=(cK (min ↑l ↑m)).all (at2 f l m):=by
 induction l with
 |nil=>intro m r h;obtain rfl:=ag h;exact⟨λj h1=>absurd h1 (iy _),by rw[lW,Nat.zero_min];rfl⟩
 |cons a l ih=>
  intro m r h;cases m with
  |nil=>obtain rfl:=ag h;exact⟨λj _ h2=>absurd h2 (iy _),rfl⟩
  |cons b m=>
   refine a9 h λx h1 h=> ?_;let ⟨y,h2,rfl⟩:=ar.mp h;let ⟨p,q⟩:=ih h2;refine⟨λj j1 j2=> ?_,?_⟩
   ·induction j with
    |zero=>exact⟨x,h1⟩
    |succ j=>exact p j (ue j1) (ue j2)
   ·rw[az,az,Nat.add_min_add_right,List.range_succ_eq_map,List.all_cons,List.all_map,q,show at2 f (a::l) (b::m) 0=x by show(f a b).getD true=x;rw[h1];rfl];rfl
def Pj (h1:j< ↑l) (h2:j< ↑m):at2 f l m j=(f l[j] m[j]).getD true:=by unfold at2;rw[aq h1,aq h2]
def dk.VP {vs:Array Value} {l:List PV} (h:vs.size= ↑l) (hr:∀(i:Nat) (v:Value) (d:PV),vs[i]? =aa v->l[i]? =aa d->dk w F v d) (h1:j<vs.size) (h2:j< ↑l):dk w F vs[j] l[j]:=
 hr j _ _ (by simp[h1]) (by simp[h2])
inductive Ms (n:Nat):PV->PV->Bool->Prop
 |int (a b:Int):Ms n (.int a) (.int b) (a==b)
 |str (a b:Str):Ms n (.str a) (.str b) (a==b)
 |tup {l m:List PV} {r:Bool} (h:sq (PV.Ej n) l m=aa r):Ms n (.tup l) (.tup m) (r&& ↑l== ↑m)
 |lst {l m:List PV} {r:Bool} (hl: ↑l= ↑m) (h:sq (PV.Ej n) l m=aa r):Ms n (.lst l) (.lst m) r
 |ne {l m:List PV} (hl:¬ ↑l= ↑m):Ms n (.lst l) (.lst m) false
def KU (h:PV.Ej (n+1) d d'=aa e):Ms n d d' e:=by
 cases d with
 |int a=>cases d' with
  |int b=>obtain rfl:=ag h;exact .int ..
  |_=>exact gr h
 |str a=>cases d' with
  |str b=>obtain rfl:=ag h;exact .str ..
  |_=>exact gr h
 |tup l=>cases d' with
  |tup m=>let ⟨r,hr,rfl⟩:=ar.mp h;exact .tup hr
  |_=>exact gr h
 |lst l=>cases d' with
  |lst m=>
   by_cases hl: ↑l= ↑m
   ·exact .lst hl ((if_pos hl).symm.trans h)
   ·obtain rfl:=ag ((if_neg hl).symm.trans h);exact .ne hl
  |_=>exact gr h
 |_=>exact gr h
def Pk:∀(n:Nat) (d d':PV) (v:Value) (e:Bool),PV.Ej n d d'=aa e->dk w F v d->dk w F v d'->e=true:=by
 intro n;induction n with
 |zero=>exact λd d' v e h=>gr h
 |succ n ih=>
  intro d d' v e h h1 h2;have loop:∀(vs:Array Value) (l m:List PV),vs.size= ↑l->vs.size= ↑m->(∀(i:Nat) (v:Value) (d:PV),vs[i]? =aa v->l[i]? =aa d->dk w F v d)->
    (∀(i:Nat) (v:Value) (d:PV),vs[i]? =aa v->m[i]? =aa d->dk w F v d)->∀r,sq (PV.Ej n) l m=aa r->r=true:=by
   intro vs l m e1 e2 k1 k2 r hr;let ⟨p,q⟩:=AC hr;rw[q,fI];intro j hj;rw[dM]at hj;have j1:j< ↑l:=a8 hj (j4 ..);have j2:j< ↑m:=a8 hj (Ce ..);rw[Pj j1 j2];let ⟨x,hx⟩:=p j j1 j2;rw[hx];exact ih _ _ _ _ hx (dk.VP e1 k1 (e1▸j1) j1) (dk.VP e2 k2 (e2▸j2) j2)
  cases KU h with
  |int=>let ⟨_,rfl⟩:=h1.kQ;let ⟨_,h⟩:=h2.kQ;injection h with h;exact beq_iff_eq.mpr h
  |str=>let ⟨_,rfl⟩:=h1.mG;let ⟨_,h⟩:=h2.mG;injection h with h;exact beq_iff_eq.mpr h
  |tup hr=>let ⟨x,vs,c,rfl,a,b,k⟩:=h1.Ee;let ⟨y,us,c',e,a',b',k'⟩:=h2.Ee;injection e with e;subst e;rw[a]at a';injection ag a' with _ _ a';injection a' with a';subst a';rw[loop _ _ _ b b' k k' _ hr];simp[<- b,<- b']
  |lst _ hr=>let ⟨x,vs,c,rfl,a,b,k⟩:=h1.x6;let ⟨y,us,c',e,a',b',k'⟩:=h2.x6;injection e with e;subst e;rw[a]at a';injection ag a' with _ _ a';injection a' with a';subst a';exact loop _ _ _ b b' k k' _ hr
  |ne hl=>let ⟨x,vs,c,rfl,a,b,k⟩:=h1.x6;let ⟨y,us,c',e,a',b',k'⟩:=h2.x6;injection e with e;subst e;rw[a]at a';injection ag a' with _ _ a';injection a' with a';subst a';exact absurd (b.symm.trans b') hl
def IK {A:cS}
  (ih:∀(d d':PV) (v v':Value) (e:Bool) (A:cS),PV.Ej n d d'=aa e->dk w F v d->dk w F v' d'->A.units+n<cLine->xS A s v v' e)
  {vs us:Array Value} (e1:vs.size= ↑l) (e2:us.size= ↑m) (k1:∀(i:Nat) (v:Value) (d:PV),vs[i]? =aa v->l[i]? =aa d->dk w F v d)
  (k2:∀(i:Nat) (v:Value) (d:PV),us[i]? =aa v->m[i]? =aa d->dk w F v d) (hr:sq (PV.Ej n) l m=aa r) (hA:A.units+(n+1)<cLine):
  ∃f:Nat->Bool,r=(cK (min vs.size us.size)).all f/\∀j (h1:j<vs.size) (h2:j<us.size),xS A.in1 s vs[j] us[j] (f j):=by
 let ⟨p,q⟩:=AC hr;refine⟨_,by rw[e1,e2];exact q,λj h1 h2=> ?_⟩;have j1:j< ↑l:=by exact IF h1 e1
 have j2:j< ↑m:=by exact IF h2 e2
 rw[Pj j1 j2];let ⟨x,hx⟩:=p j j1 j2;rw[hx];exact ih _ _ _ _ _ _ hx (dk.VP e1 k1 h1 j1) (dk.VP e2 k2 h2 j2) (by show A.units+1+n<cLine;exact aic hA)
def XU (hF:∀a o,F a=aa o->s.heap.get? a=aa o):∀(n:Nat) (d d':PV) (v v':Value) (e:Bool) (A:cS),PV.Ej n d d'=aa e->dk w F v d->dk w F v' d'->
  A.units+n<cLine->xS A s v v' e:=by
 intro n;induction n with
 |zero=>exact λd d' v v' e A h=>gr h
 |succ n ih=>
  intro d d' v v' e A h h1 h2 hA;have hs:=λx (e1:v=x) (e2:v'=x)=>Pk (n+1) d d' x e h (e1▸h1) (e2▸h2);cases KU h with
  |int=>let ⟨_,rfl⟩:=h1.kQ;let ⟨_,rfl⟩:=h2.kQ;exact SeqAt.EqAt.int_int _ _ _ _
  |str=>let ⟨_,rfl⟩:=h1.mG;let ⟨_,rfl⟩:=h2.mG;exact F3 _ _ _ _
  |tup hr=>
   let ⟨x,vs,c,rfl,a,b,k⟩:=h1.Ee;let ⟨y,us,c',rfl,a',b',k'⟩:=h2.Ee;by_cases W0:x=y
   ·subst W0;rw[hs _ rfl rfl];exact xX _
   ·let ⟨f,hf,hj⟩:=IK ih b b' k k' hr hA;have:=SeqAt.RcAt.tuples (A:=A) (s:=s) ⟨_,hF _ _ a,rfl,_,rfl⟩ ⟨_,hF _ _ a',rfl,_,rfl⟩ (XF hA) hj;rw[<- hf,b,b']at this;exact uO W0 this
  |lst cH hr=>
   let ⟨x,vs,c,rfl,a,b,k⟩:=h1.x6;let ⟨y,us,c',rfl,a',b',k'⟩:=h2.x6;by_cases W0:x=y
   ·subst W0;rw[hs _ rfl rfl];exact xX _
   ·let ⟨f,hf,hj⟩:=IK ih b b' k k' hr hA;have hsz:vs.size=us.size:=by exact aaM b b' cH
    have:=Iw (A:=A) (s:=s) ⟨_,hF _ _ a,rfl,_,rfl⟩ ⟨_,hF _ _ a',rfl,_,rfl⟩ hsz (XF hA) hj;rw[<- hsz,Nat.min_self]at hf;rw[<- hf]at this;exact uO W0 this
  |ne cH=>
   let ⟨x,vs,c,rfl,a,b,k⟩:=h1.x6;let ⟨y,us,c',rfl,a',b',k'⟩:=h2.x6;by_cases W0:x=y
   ·subst W0;rw[hs _ rfl rfl];exact xX _
   ·exact uO W0 (Am (A:=A) (s:=s) ⟨_,hF _ _ a,rfl,_,rfl⟩ ⟨_,hF _ _ a',rfl,_,rfl⟩ (by simp;exact XG b b' cH) (XF hA))
noncomputable def small (a:Int):Bool:=decide (-(2 ^ 40)<a)&&decide (a<2 ^ 40)
noncomputable def AD (a:Int):Bool:=decide (-(2 ^ 29)<a)&&decide (a<2 ^ 29)
noncomputable def fz (n:Nat):Option PV:=Kn (aa (.fF (.ofNat 0))) (λn _=>aa (.fF (.ofNat (FO n)))) n
noncomputable def ff (u:UInt64):Option PV:=fz u.toNat
def KV (u:UInt64):ff u=aa (.fF u):=by unfold ff;rw[show fz u.toNat=aa (.fF (.ofNat u.toNat)) from Kn rfl (λ_ _=>rfl) u.toNat,UInt64.ofNat_toNat]
def IL (h:ff u=aa d):PV.fF u=d:=ag ((KV u).symm.trans h)
def AE [Decidable p] (h:(if p then ff u else ac)=aa d):p/\PV.fF u=d:=dT (KV u▸h)
def Gg [Decidable p] (h:(if p then ac else ff u)=aa d):¬p/\PV.fF u=d:=KJ (KV u▸h)
noncomputable def mf (a b:Int):UInt64:=D7 (decide (a<0) !=decide (b<0)) a.natAbs b.natAbs
def afd (op:mx) (a b:Int):Option PV:=match op with
 | .Add=>aa (.int (a+b))
 | .Sub=>aa (.int (a- b))
 | .Mult=>if small a then aa (.int (a*b)) else ac
 | .FloorDiv=>if b≠0/\AD a=true/\AD b=true then aa (.int (a.fdiv b)) else ac
 | .Mod=>if b≠0 then aa (.int (a.fmod b)) else ac
 | .Div=>if b≠0/\AD a=true/\ng (mf a b)=false then ff (mf a b) else ac
 |_=>ac
def afe (op:mx) (a b:UInt64):Option PV:=match op with
 | .Add=>ff (Tt a b)
 | .Sub=>ff (XD a b)
 | .Mult=>ff (XA a b)
 | .Div=>if B9 b then ac else ff (aaH a b)
 | .Mod=>if B9 b then ac else ff (XC a b)
 |_=>ac
noncomputable def Mt (b:Int):UInt64:=D7 (decide (b<0)) b.natAbs 1
def zR (b:Int):Mt b=CX b:=by unfold Mt CX;rw[C2]
def aff (op:mx) (a:UInt64) (b:Int):Option PV:=match op with
 | .Mult=>if AD b then ff (XA a (Mt b)) else ac
 | .Sub=>if AD b then ff (XD a (Mt b)) else ac
 |_=>ac
noncomputable def afg (op:mx) (a b:Str):Option PV:=match op with
 | .Add=>if ↑a+ ↑b<=sizeLine then aa (.str (a++b)) else ac
 |_=>ac
noncomputable def afh (op:mx) (a:Str) (b:Int):Option PV:=match op with
 | .Mult=>if ↑a=1/\0<=b/\b<=1000 then aa (.str (Txt.mul a b)) else ac
 |_=>ac
def AF (op:mx) (x y:PV):Option PV:=match x with
 | .int a=>match y with
  | .int b=>afd op a b
  |_=>ac
 | .fF a=>match y with
  | .fF b=>afe op a b
  | .int b=>aff op a b
  |_=>ac
 | .str a=>match y with
  | .str b=>afg op a b
  | .int b=>afh op a b
  |_=>ac
 |_=>ac
def Gh (h:AD n=true):n.natAbs<2 ^ 29:=by
 have h:=dD.mp h;induction n with
 |ofNat n=>exact cM.mp (of_decide_eq_true h.2)
 |negSucc n=>exact cM.mp (Int.lt_of_neg_lt_neg (of_decide_eq_true h.1))
def x8 (h:AD n=true):n.natAbs<2 ^ 1023:=iM (Gh h) (Nat.pow_lt_pow_right ∅ ∅)
section
variable {A:cS} {c:aM} {s:bb} {op:mx} {d:PV} {t t':CU} {E Q:VS}
abbrev Z3 (S:cz) (O:List AO) (c:aM) (s:bb) (d:PV) (Q:VS):Prop:=∀v n,dk S.w c.F v d->Q v {s with toks:=n}
def TK (h:afd op a b=aa d) (hA:jF k A) (hQ:Z3 S O c s d Q):wpAny (MM S.w) A (binaryOp op (.int a t) (.int b t')) Q E s:=by
 induction op with
 |Add=>obtain rfl:=ag h;exact P.add_int (hQ _ _ (.int ..))
 |Sub=>obtain rfl:=ag h;exact P.sub_int (hQ _ _ (.int ..))
 |Mult=>let ⟨hs,rfl⟩:=dT h;refine P.mul_int (hQ _ _ (.int ..)) (IntMulOk.of_left (intBits_le_64 ?_ ?_))<;>(unfold small at hs;simp only[dj,decide_eq_true_eq]at hs;(first|exact aid hs|exact aie hs))
 |FloorDiv=>let ⟨⟨hb,ha,uU⟩,rfl⟩:=dT h;exact yE hb (hQ _ _ (.int ..)) (.inl (FN (iM (Gh uU) ∅)))
 |Mod=>let ⟨hs,rfl⟩:=dT h;exact PyProof.Rows.mod_int hs (hQ _ _ (.int ..))
 |Div=>let ⟨⟨hb,ha,hi⟩,rfl⟩:=AE h;unfold mf at hQ;rw[<- C2]at hQ;exact Flt.div_ii_fits hA.hn (x8 ha) (λe=>absurd e hb) λ_ _=>hQ _ _ (.fF ..)
 |_=>exfalso;exact yQ h
def TL (h:afe op a b=aa d) (hA:jF k A) (hQ:Z3 S O c s d Q):wpAny (MM S.w) A (binaryOp op (.float a t) (.float b t')) Q E s:=by
 induction op with
 |Add=>obtain rfl:=IL h;exact PyProof.Rows.add_float (D9 a b▸hQ _ _ (.fF ..))
 |Sub=>obtain rfl:=IL h;exact PyProof.Rows.sub_float (Kx a b▸hQ _ _ (.fF ..))
 |Mult=>obtain rfl:=IL h;exact PyProof.Rows.mul_float (Kv a b▸hQ _ _ (.fF ..))
 |Div=>let ⟨hs,rfl⟩:=Gg h;exact PyProof.Rows.truediv_float_or hA.hn (λe=>absurd e hs) λ_=>Tu a b▸hQ _ _ (.fF ..)
 |Mod=>let ⟨hs,rfl⟩:=Gg h;exact Flt.mod_ff hA.hn (λe=>absurd e hs) λ_=>Tv a b▸hQ _ _ (.fF ..)
 |_=>exfalso;exact yQ h
def TM (h:aff op a b=aa d) (hQ:Z3 S O c s d Q):wpAny (MM S.w) A (binaryOp op (.float a t) (.int b t')) Q E s:=by
 induction op with
 |Mult=>let ⟨hs,rfl⟩:=AE h;exact PyProof.Rows.mul_fi_fits (x8 hs) (Kv a _▸zR b▸hQ _ _ (.fF ..))
 |Sub=>let ⟨hs,rfl⟩:=AE h;exact PyProof.Rows.sub_fi_fits (x8 hs) (Kx a _▸zR b▸hQ _ _ (.fF ..))
 |_=>exfalso;exact yQ h
def TN (h:afg op a b=aa d) (hQ:Z3 S O c s d Q):wpAny (MM S.w) A (binaryOp op (.str a t) (.str b t')) Q E s:=by
 induction op with
 |Add=>let ⟨hs,rfl⟩:=dT h;exact SB.add (λt' tk=>hQ _ _ (.str ..)) hs
 |_=>exfalso;exact yQ h
def TO (h:afh op a b=aa d) (hQ:Z3 S O c s d Q):wpAny (MM S.w) A (binaryOp op (.str a t) (.int b t')) Q E s:=by
 induction op with
 |Mult=>
  let ⟨⟨p,q,r⟩,rfl⟩:=dT h;refine SB.mul ⟨?_,λx y=> ?_,λx y=> ?_⟩ λt' tk=>hQ _ _ (.str ..)
  ·simp;exact aif q r
  ·rw[p];exact nV.mpr (ec ∅ (Int.le_ediv_of_mul_le (nV.mp x) (ec (Int.mul_le_mul_of_nonneg_left r ∅) ∅):(1000:Int)<=(2 ^ 63- 1)/_))
  ·rw[p];unfold cw;have:sizeLine=2 ^ 24:=rfl;simp;exact aig r this
 |_=>exfalso;exact yQ h
end
set_option maxHeartbeats 2000000 in
def Pl (h:AF op a b=aa d):Gd (binaryOp op) a b d:=by
 intro S k O A c s u v hA R h1 h2 E Q hQ;have hq:Z3 S O c s d Q:=λv n hv=>hQ c v _ (.refl ..) R (.toks ..) (.pv hv);cases a with
 |int x=>
  let ⟨_,rfl⟩:=h1.kQ;cases b with
  |int y=>let ⟨_,rfl⟩:=h2.kQ;delta AF at h;dsimp only at h;exact TK h hA hq
  |_=>exfalso;exact yQ h
 |fF x=>
  let ⟨_,rfl⟩:=h1.Ed;cases b with
  |fF y=>let ⟨_,rfl⟩:=h2.Ed;delta AF at h;dsimp only at h;exact TL h hA hq
  |int y=>let ⟨_,rfl⟩:=h2.kQ;delta AF at h;dsimp only at h;exact TM h hq
  |_=>exfalso;exact yQ h
 |str x=>
  let ⟨_,rfl⟩:=h1.mG;cases b with
  |str y=>let ⟨_,rfl⟩:=h2.mG;delta AF at h;dsimp only at h;exact TN h hq
  |int y=>let ⟨_,rfl⟩:=h2.kQ;delta AF at h;dsimp only at h;exact TO h hq
  |_=>exfalso;exact yQ h
 |_=>exfalso;exact yQ h
noncomputable def anyStr (x:Str):List PV->Option Bool
 | []=>aa false
 | .str y::l=>(anyStr x l).map ((y==x)|| ·)
 |_=>ac
def iJ (l m:List PV):Option Bool:=if ↑l= ↑m then sq (PV.Ej 3) l m else aa false
def jF.IM (hA:jF k A) (hn:n<=10):A.units+n<cLine:=by have:=hA.units;exact aih this hn rfl
noncomputable def Ek (x:Str):Value->Bool
 | .str y _=>y==x
 |_=>false
def C6 {l:List PV} {r:Bool} {vs:Vs} (h:anyStr x l=aa r) (hl: ↑vs= ↑l)
  (hr:∀(i:Nat) (v:Value) (d:PV),vs[i]? =aa v->l[i]? =aa d->dk w F v d):r=vs.any (Ek x)/\∀y∈vs,xS A s y (.str x t) (Ek x y):=by
 replace hl:=SW.of hl;induction hl generalizing r with
 |nil=>obtain rfl:=ag h;exact⟨rfl,λy hy=>nomatch hy⟩
 |cons u d _ ih=>
  cases d with
  |str y=>
   let ⟨r',W1,rfl⟩:=ar.mp h;let ⟨p,q⟩:=ih W1 λi v d a b=>hr (i+1) v d a b;let ⟨_,rfl⟩:=(hr 0 u _ rfl rfl).mG;refine⟨by rw[List.any_cons,p];rfl,λz hz=> ?_⟩;rcases aH.mp hz with rfl|e
   ·exact F3 _ _ _ _
   ·exact q z e
  |_=>exact gr h
def dk.TP {vs:Array Value} {l:List PV} (hr:∀(i:Nat) (v:Value) (d:PV),vs[i]? =aa v->l[i]? =aa d->dk w F v d):
  ∀(i:Nat) (v:Value) (d:PV),vs.toList[i]? =aa v->l[i]? =aa d->dk w F v d:=λi v d h1 h2=>hr i v d ((fS)▸h1) h2
def KW (vs:Array Value) (f:Value->Bool):vs.any f=vs.toList.any f:=(Array.any_toList (as:=vs) (p:=f)).symm
def ul (hF:∀a o,F a=aa o->s.heap.get? a=aa o)
  (hx:s.heap.get? x=aa {cls:= .type "list",data:= .seq vs n}) (hy:s.heap.get? y=aa {cls:= .type "list",data:= .seq us m}) (e1:vs.size= ↑l) (e2:us.size= ↑l')
  (k1:∀(i:Nat) (v:Value) (d:PV),vs[i]? =aa v->l[i]? =aa d->dk w F v d) (k2:∀(i:Nat) (v:Value) (d:PV),us[i]? =aa v->l'[i]? =aa d->dk w F v d) (h:iJ l l'=aa r) (hA:A.units+4<cLine):
  SeqAt.RcAt A s (.ref x) (.ref y) r/\SeqAt.RcNeAt A s (.ref x) (.ref y) (!r):=by
 unfold iJ at h;by_cases cH: ↑l= ↑l'
 ·rw[if_pos cH]at h;let ⟨f,hf,hj⟩:=IK (n:=3) (s:=s) (λd d' v v' e A=>XU hF 3 d d' v v' e A) e1 e2 k1 k2 h hA;have hsz:vs.size=us.size:=by exact aaM e1 e2 cH
  rw[<- hsz,Nat.min_self]at hf;rw[hf];exact⟨Iw ⟨_,hx,rfl,_,rfl⟩ ⟨_,hy,rfl,_,rfl⟩ hsz (Tw hA) hj,SeqAt.RcNeAt.lists ⟨_,hx,rfl,_,rfl⟩ ⟨_,hy,rfl,_,rfl⟩ hsz (Tw hA) hj⟩
 ·rw[if_neg cH]at h;obtain rfl:=ag h;exact⟨Am ⟨_,hx,rfl,_,rfl⟩ ⟨_,hy,rfl,_,rfl⟩ (by simp;exact XG e1 e2 cH) (Tw hA),SeqAt.RcNeAt.lists_lengths ⟨_,hx,rfl,_,rfl⟩ ⟨_,hy,rfl,_,rfl⟩ (by simp;exact XG e1 e2 cH) (Tw hA)⟩
noncomputable def WD (op:wj) (a b:Int):Option Bool:=match op with
 | .Lt=>aa (decide (a<b))
 | .LtE=>aa (decide (a<=b))
 | .Gt=>aa (decide (b<a))
 | .GtE=>aa (decide (b<=a))
 | .Eq=>aa (a==b)
 | .NotEq=>aa (a !=b)
 |_=>ac
noncomputable def WE (op:wj) (a b:UInt64):Option Bool:=match op with
 | .Lt=>aa (dK a b==aa nh)
 | .LtE=>aa (dK a b==aa nh||dK a b==aa VG)
 | .Gt=>aa (dK a b==aa Ordering.gt)
 | .Eq=>aa (dK a b==aa VG)
 |_=>ac
noncomputable def WF (op:wj) (a b:Str):Option Bool:=match op with
 | .Eq=>aa (a==b)
 | .NotEq=>aa (a !=b)
 | .Lt=>aa (decide (a.cps.toList<b.cps.toList))
 | .In=>aa (eS b a)
 | .NotIn=>aa (!eS b a)
 |_=>ac
def afi (op:wj) (a:Str) (l:List PV):Option Bool:=match op with
 | .In=>anyStr a l
 | .NotIn=>(anyStr a l).map (!·)
 |_=>ac
def afj (op:wj) (a:Str) (l:List PV):Option Bool:=match op with
 | .In=>anyStr a l
 |_=>ac
def afk (op:wj) (l m:List PV):Option Bool:=match op with
 | .Eq=>iJ l m
 | .NotEq=>(iJ l m).map (!·)
 |_=>ac
noncomputable def KX (op:wj) (v:Value) (r:Bool):Option Bool:=match v with
 | .none=>match op with
  | .Is=>aa r
  | .IsNot=>aa (!r)
  |_=>ac
 |_=>ac
def TQ (op:wj) (x y:PV):Option Bool:=match x with
 | .int a=>match y with
  | .int b=>WD op a b
  | .con v=>KX op v false
  |_=>ac
 | .fF a=>match y with
  | .fF b=>WE op a b
  |_=>ac
 | .str a=>match y with
  | .str b=>WF op a b
  | .lst l=>afi op a l
  | .tup l=>afj op a l
  | .con v=>KX op v false
  |_=>ac
 | .lst l=>match y with
  | .lst m=>afk op l m
  |_=>ac
 | .con u=>match y with
  | .con v=>match u with
   | .none=>KX op v true
   |_=>ac
  |_=>ac
 |_=>ac
section
variable {w:jC} {A:cS} {s:bb} {op:wj} {r:Bool} {t t':CU} {E Q:VS}
def Pm (h:WD op a b=aa r) (fin:Q (.bool r) s):wpAny (MM w) A (compareOp op (.int a t) (.int b t')) Q E s:=by
 induction op with
 |Lt=>obtain rfl:=ag h;exact P.lt_int fin
 |LtE=>obtain rfl:=ag h;exact P.le_int fin
 |Gt=>obtain rfl:=ag h;exact P.gt_int fin
 |GtE=>obtain rfl:=ag h;exact P.ge_int fin
 |Eq=>obtain rfl:=ag h;exact P.eq_int fin
 |NotEq=>obtain rfl:=ag h;exact P.ne_int fin
 |_=>exfalso;exact yQ h
def Pn (h:WE op a b=aa r) (fin:Q (.bool r) s):wpAny (MM w) A (compareOp op (.float a t) (.float b t')) Q E s:=by
 induction op with
 |Lt=>obtain rfl:=ag h;exact AutoFloatOps.lt_0 fin
 |LtE=>obtain rfl:=ag h;exact AutoFloatOps.le_0 fin
 |Gt=>obtain rfl:=ag h;exact AutoFloatOps.gt_0 fin
 |Eq=>obtain rfl:=ag h;exact AutoFloatOps.eq_0 fin
 |_=>exfalso;exact yQ h
def Po (h:WF op a b=aa r) (fin:Q (.bool r) s):wpAny (MM w) A (compareOp op (.str a t) (.str b t')) Q E s:=by
 induction op with
 |Eq=>obtain rfl:=ag h;exact CZ fin
 |NotEq=>obtain rfl:=ag h;exact PyProof.Rows.ne_str fin
 |Lt=>obtain rfl:=ag h;exact PyProof.Rows.lt_str fin
 |In=>obtain rfl:=ag h;exact SB.contains fin
 |NotIn=>obtain rfl:=ag h;exact SB.notContains fin
 |_=>exfalso;exact yQ h
def AG {u v:Value} (h:KX op v r0=aa r) (e:v= .none->plainIs u .none=true/\(u==qg)=r0) (fin:Q (.bool r) s):wpAny (MM w) A (compareOp op u v) Q E s:=by
 induction v with
 |none=>induction op with
  |Is=>obtain rfl:=ag h;exact nS (e rfl).1 ((e rfl).2.symm▸fin)
  |IsNot=>obtain rfl:=ag h;exact CS (e rfl).1 ((e rfl).2.symm▸fin)
  |_=>exfalso;exact yQ h
 |_=>exfalso;exact yQ h
end
set_option maxHeartbeats 2000000 in
def TR (h:TQ op a b=aa r):Pf op a b r:=by
 intro S k O A c s u v hA R h1 h2 E Q hQ;have fin:Q (.bool r) s:=hQ c _ _ (.refl ..) R (.refl ..) (.pv (.con ..));have hu:=hA.IM (n:=4) ∅;cases a with
 |int x=>
  let ⟨_,rfl⟩:=h1.kQ;cases b with
  |int y=>let ⟨_,rfl⟩:=h2.kQ;exact Pm h fin
  |con v=>obtain rfl:=h2.IH;exact AG h (λe=>by subst e;exact⟨rfl,rfl⟩) fin
  |_=>exfalso;exact yQ h
 |fF x=>
  let ⟨_,rfl⟩:=h1.Ed;cases b with
  |fF y=>let ⟨_,rfl⟩:=h2.Ed;exact Pn h fin
  |_=>exfalso;exact yQ h
 |str x=>
  let ⟨t0,rfl⟩:=h1.mG;cases b with
  |str y=>let ⟨_,rfl⟩:=h2.mG;exact Po h fin
  |con v=>obtain rfl:=h2.IH;exact AG h (λe=>by subst e;exact⟨rfl,rfl⟩) fin
  |lst l=>
   let ⟨y,vs,n,rfl,hy,hs,hp⟩:=h2.x6;have key:∀ {A:cS} {r},anyStr x l=aa r->r=vs.any (Ek x)/\∀y∈vs,xS A s y (.str x t0) (Ek x y):=λh=>
    let ⟨p,q⟩:=C6 h (by rw[bx];exact hs) (dk.TP hp)
    ⟨p.trans (KW ..).symm,λy hy=>q y (ve.mpr hy)⟩
   cases op with
   |In=>exact SeqAt.in_listAt _ ⟨_,R.frozen _ _ hy,rfl,_,rfl⟩ (key h).2 ((key (A:=A) h).1▸fin)
   |NotIn=>left;let ⟨r',h',rfl⟩:=ar.mp h;right;exact SeqAt.notIn_listAt _ ⟨_,R.frozen _ _ hy,rfl,_,rfl⟩ (key h').2 ((key (A:=A) h').1▸fin)
   |_=>exfalso;exact yQ h
  |tup l=>
   let ⟨y,vs,n,rfl,hy,hs,hp⟩:=h2.Ee;cases op with
   |In=>let ⟨p,q⟩:=C6 h (bx▸hs) (dk.TP hp);exact SeqAt.in_tupleAt _ ⟨_,R.frozen _ _ hy,rfl,_,rfl⟩ (λy hy=>q y (ve.mpr hy)) (by rw[KW,<- p];exact fin)
   |_=>exfalso;exact yQ h
  |_=>exfalso;exact yQ h
 |lst l=>
  let ⟨y,vs,n,rfl,hy,hs,hp⟩:=h1.x6;cases b with
  |lst m=>
   let ⟨y',Vj,n',rfl,W2,qd,hp'⟩:=h2.x6;cases op with
   |Eq=>exact(ul R.frozen (R.frozen _ _ hy) (R.frozen _ _ W2) hs qd hp hp' h hu).1 _ _ _ _ fin
   |NotEq=>left;let ⟨r',h',rfl⟩:=ar.mp h;right;exact(ul R.frozen (R.frozen _ _ hy) (R.frozen _ _ W2) hs qd hp hp' h' hu).2 _ _ _ _ fin
   |_=>exfalso;exact yQ h
  |_=>exfalso;exact yQ h
 |con u'=>
  obtain rfl:=h1.IH;cases b with
  |con v'=>
   obtain rfl:=h2.IH;cases u with
   |none=>exact AG h (λe=>by subst e;exact⟨rfl,rfl⟩) fin
   |_=>exfalso;exact yQ h
  |_=>exfalso;exact yQ h
 |_=>exfalso;exact yQ h
inductive CV where
 |pv (d:PV)
 |ob (j:Nat)
 |inst (j:Nat)
local macro_rules | `(~~~$x) => `(some (.pv $x))
noncomputable def CV.aI:CV->Option Int
 | .pv (.int a)=>aa a
 |_=>ac
def CV.pvI (h:CV.pv d=CV.pv d'):d=d':=by cases h;rfl
def CV.kI {v:CV} (h:v.aI=aa a):v= .pv (.int a):=by
 induction v with
 |pv d=>cases d with
  |int b=>exact congrArg (λb=>CV.pv (.int b)) (ag h)
  |_=>exact gr h
 |_=>exact gr h
noncomputable def CV.aF:CV->Option UInt64
 | .pv (.fF a)=>aa a
 |_=>ac
def CV.kF {v:CV} (h:v.aF=aa a):v= .pv (.fF a):=by
 induction v with
 |pv d=>cases d with
  |fF b=>exact congrArg (λb=>CV.pv (.fF b)) (ag h)
  |_=>exact gr h
 |_=>exact gr h
noncomputable def CV.aS:CV->Option Str
 | .pv (.str a)=>aa a
 |_=>ac
def CV.kS {v:CV} (h:v.aS=aa a):v= .pv (.str a):=by
 induction v with
 |pv d=>cases d with
  |str b=>exact congrArg (λb=>CV.pv (.str b)) (ag h)
  |_=>exact gr h
 |_=>exact gr h
noncomputable def CV.aL:CV->Option (List PV)
 | .pv (.lst a)=>aa a
 |_=>ac
def CV.kL {v:CV} (h:v.aL=aa a):v= .pv (.lst a):=by
 induction v with
 |pv d=>cases d with
  |lst b=>exact congrArg (λb=>CV.pv (.lst b)) (ag h)
  |_=>exact gr h
 |_=>exact gr h
noncomputable def CV.aT:CV->Option (List PV)
 | .pv (.tup a)=>aa a
 |_=>ac
def CV.kT {v:CV} (h:v.aT=aa a):v= .pv (.tup a):=by
 induction v with
 |pv d=>cases d with
  |tup b=>exact congrArg (λb=>CV.pv (.tup b)) (ag h)
  |_=>exact gr h
 |_=>exact gr h
noncomputable def CV.aP:CV->Option PV
 | .pv a=>aa a
 |_=>ac
def CV.kP {v:CV} (h:v.aP=aa a):v= .pv a:=by
 induction v with
 |pv d=>exact congrArg CV.pv (ag h)
 |_=>exact gr h
noncomputable def CV.aO:CV->Option Nat
 | .ob a=>aa a
 |_=>ac
def CV.kO {v:CV} (h:v.aO=aa a):v= .ob a:=by
 induction v with
 |ob d=>exact congrArg CV.ob (ag h)
 |_=>exact gr h
inductive CO where
 |qa
 |list (l:List PV)
 |dict (l:List (Str×PV))
 |attrs (m:List (Str×CV))
structure St where
 lv:List (Option CV)
 cv:List (Option CV)
 ob:List CO
structure Lay where
 scope:Scope
 loc:List Str
 nq:List Str
 own:Nat
 grow:Bool
 code:Option Addr
structure Ip where
 fi:Nat
 ci:List Nat
 oi:Nat->Nat
def Lay.en (lay:Lay) (p:Ip):iv:= {scope:=lay.scope,fi:=p.fi,cells:=lay.nq.zip p.ci,code:=lay.code}
noncomputable def CV.av (oi:NN):CV->AV
 | .pv d=> .pv d
 | .ob j=> .fM (oi j)
 | .inst j=> .inst (oi j)
def CO.ao (oi:NN):CO->AO
 | .qa=> .qa
 | .list l=> .list l
 | .dict l=> .dict l
 | .attrs m=> .attrs (m.map λp=>(p.1,p.2.av oi))
abbrev TU (oi:NN) (l:List (Option CV)):List (Option AV):=l.map (Option.map (CV.av oi))
structure At (lay:Lay) (p:Ip) (st:St) (O:List AO):Prop where
 frame:O[p.fi]? =aa (AO.ns (lay.loc.zip (TU p.oi st.lv)))
 NR: ↑st.lv= ↑lay.loc
 xO: ↑st.cv= ↑lay.nq
 Fu: ↑p.ci= ↑lay.nq
 cells:∀(i:Nat) (v:Option CV),st.cv[i]? =aa v->∃n,p.ci[i]? =aa n/\O[n]? =aa (AO.cell (v.map (CV.av p.oi)))
 obs:∀(j:Nat) (o:CO),st.ob[j]? =aa o->O[p.oi j]? =aa (o.ao p.oi)
 Zi:p.fi∉p.ci
 Zj:∀j,j< ↑st.ob->p.oi j≠p.fi
 Ve:∀j,j< ↑st.ob->p.oi j∉p.ci
 WZ:p.ci.Nodup
 Vf:∀i j,i< ↑st.ob->j< ↑st.ob->p.oi i=p.oi j->i=j
 next:lay.grow=true->∀j,p.oi (↑st.ob+j)= ↑O+j
def cJ (S:cz) (k:Nat) (lay:Lay) (e:Expr) (f:St->Option CV):Prop:=∀p O st v,At lay p st O->f st=aa v->Ev S k O (lay.en p) e (v.av p.oi) O
def AH (S:cz) (k:Nat) (lay:Lay) (e:Expr) (f:St->Option Bool):Prop:=∀p O st v,At lay p st O->f st=aa v->nX S k O (lay.en p) e v
def pS (S:cz) (k:Nat) (lay:Lay) (es:List Expr) (f:St->Option (List CV)):Prop:=∀p O st v,At lay p st O->f st=aa v->ck S k O (lay.en p) es (v.map (CV.av p.oi))
def Ev.AI (h:Ev S k O ae e d bv) (hk:k<=k'):Ev S k' O ae e d bv:=⟨h.len,λA c s env hA=>h.run A c s env (hA.le hk)⟩
section
variable {lay:Lay}
def Lay.nk (lay:Lay) (i:Nat) (x:Str):Bool:=lay.loc[i]? ==aa x&&lay.scope.names.lookup x==aa .local&& !(x==("__debug__" :Str))
noncomputable def idxOf (x:Str):List Str->Option Nat
 | []=>ac
 |y::l=>if x==y then aa 0 else(idxOf x l).map (· +1)
def idxOf_cons:idxOf x (y::l)=if x==y then aa 0 else(idxOf x l).map (· +1):=rfl
def Lay.WG (lay:Lay) (i:Nat) (x:Str):Bool:=idxOf x lay.nq==aa i&&(lay.scope.names.lookup x==aa .cell||lay.scope.names.lookup x==aa .free)&& !(x==("__debug__" :Str))&& !(x==("__classdict__" :Str))
def Lay.mh (lay:Lay) (x:Str):Bool:=lay.scope.names.lookup x==aa .globalImplicit&& !(x==("__debug__" :Str))
def ak (i:Nat) (st:St):Option CV:=(VP st.lv i).join
def aX (i:Nat) (st:St):Option CV:=(VP st.cv i).join
noncomputable def jb (d:PV) (_:St):Option CV:= ~~~d
def pe (h:(!b)=true):b=false:=by cases b<;>simp_all
def Pp {α:Type} {l:List Str}:∀ {m:List α} {i:Nat} {x:Str} {v:α},l[i]? =aa x->m[i]? =aa v->(x,v)∈l.zip m:=by
 induction l with
 |nil=>exact λh _=>gr h
 |cons a l ih=>
  intro m i x v h1 h2;cases m with
  |nil=>exact gr h2
  |cons b m=>
   induction i with
   |zero=>obtain rfl:=ag h1;obtain rfl:=ag h2;exact ay
   |succ i=>exact aK _ (ih h1 h2)
def AJ {l:List Str}:∀ {m:List α} {i:Nat} {x:Str} {v:α},idxOf x l=aa i->m[i]? =aa v->(l.zip m).lookup x=aa v:=by
 induction l with
 |nil=>exact λh=>gr h
 |cons a l ih=>
  intro m i x v h1 h2;cases m with
  |nil=>exact gr h2
  |cons b m=>
   rw[qy,di];rw[idxOf_cons]at h1;by_cases e:(x==a)=true
   ·rw[if_pos e]at h1;obtain rfl:=ag h1;rw[e];exact h2
   ·rw[if_neg e]at h1;let ⟨j,hj,rfl⟩:=ar.mp h1;rw[kq.mpr e];exact ih hj h2
def cJ.loc (h:lay.nk i x=true):cJ S k lay (.Name x pos) (ak i):=by
 intro p O st v bc hf;unfold Lay.nk at h;simp only[dj,beq_iff_eq]at h;let ⟨⟨h1,h2⟩,h3⟩:=h;have hv:st.lv[i]? =aa (aa v):=by
  unfold ak at hf;rw[Av]at hf;cases e:st.lv[i]? with
  |none=>rw[e]at hf;cases hf
  |some o=>rw[e]at hf;exact congrArg aa hf
 refine Ev.rI bc.frame h2 (Pp h1 (v:=aa (v.av p.oi)) ?_) (pe h3);rw[bN,hv];rfl
def cJ.nq (h:lay.WG i x=true):cJ S k lay (.Name x pos) (aX i):=by
 intro p O st v bc hf;unfold Lay.WG at h;simp only[dj,Bool.or_eq_true,beq_iff_eq]at h;left;let ⟨⟨⟨h1,h2⟩,h3⟩,h4⟩:=h;right;have hv:st.cv[i]? =aa (aa v):=by
  unfold aX at hf;rw[Av]at hf;cases e:st.cv[i]? with
  |none=>rw[e]at hf;cases hf
  |some o=>rw[e]at hf;exact congrArg aa hf
 let ⟨n,hn,hc⟩:=bc.cells i _ hv;have hl:(lay.en p).cells.lookup x=aa n:=AJ h1 hn;rcases h2 with(h2|h2)
 ·exact Ev.Mq h2 hl hc (pe h3)
 ·exact Ev.qQ h2 hl hc (pe h3) (pe h4)
def cJ.int:cJ S k lay (.Constant (.int i) n pos) (jb (.int i)):=by intro p O st v _ hf;obtain rfl:=ag hf;exact Ev.int
def cJ.str:cJ S k lay (.Constant (.str i) n pos) (jb (.str i)):=by intro p O st v _ hf;obtain rfl:=ag hf;exact Ev.str
def cJ.fF:cJ S k lay (.Constant (.float i) n pos) (jb (.fF i)):=by intro p O st v _ hf;obtain rfl:=ag hf;exact Ev.fF
def cJ.none:cJ S k lay (.Constant .none n pos) (jb PV.none):=by intro p O st v _ hf;obtain rfl:=ag hf;exact Ev.none
def cJ.bool:cJ S k lay (.Constant (.bool b) n pos) (jb (PV.bool b)):=by intro p O st v _ hf;obtain rfl:=ag hf;exact Ev.bool
def cJ.Pq (t:CU) (h:lay.mh x=true) (hg:(x,aa (.float u t))∈cf):cJ S k lay (.Name x pos) (jb (.fF u)):=by intro p O st v _ hf;obtain rfl:=ag hf;unfold Lay.mh at h;simp only[dj,beq_iff_eq]at h;exact Ev.II h.1 hg (pe h.2)
def Ev.Gi (h:lay.mh x=true) (hg:(x,aa v)∈cf):nJ S k O (lay.en p) (.Name x pos) (.con v):=by unfold Lay.mh at h;simp only[dj,beq_iff_eq]at h;exact Ev.uj h.1 hg (pe h.2)
def Ev.Pr (h:lay.mh x=true) (hg:(x,ac)∈cf) (hb:(x,aa v)∈kM):nJ S k O (lay.en p) (.Name x pos) (.con v):=by unfold Lay.mh at h;simp only[dj,beq_iff_eq]at h;exact Ev.Gc h.1 hg hb (pe h.2)
noncomputable def CV.aDc:CV->Option (List (Str×PV))
 | .pv (.oO l)=>aa l
 |_=>ac
def CV.kDc {v:CV} (h:v.aDc=aa a):v= .pv (.oO a):=by
 induction v with
 |pv d=>cases d with
  |oO l=>obtain rfl:=ag h;rfl
  |_=>exact gr h
 |_=>exact gr h
noncomputable def SY:Option CO->Option (List PV)
 |some (.list l)=>aa l
 |_=>ac
def um (h:SY a=aa l):a=aa (.list l):=by
 induction a with
 |none=>exact gr h
 |some o=>induction o with
  |list m=>obtain rfl:=ag h;rfl
  |_=>exact gr h
def St.oz (st:St):CV->Option (List PV)
 | .ob j=>SY st.ob[j]?
 |v=>v.aL
def KY {st:St} (e:st.oz v=aa l) {P:CV->Prop} (h1:P (.pv (.lst l))) (h2:∀j,st.ob[j]? =aa (.list l)->P (.ob j)):P v:=by
 induction v with
 |ob j=>exact h2 j (um e)
 |pv d=>exact(CV.kL (v:= .pv d) e).symm▸h1
 |inst j=>exact gr e
def At.oz (h:At lay p st O) (e:st.oz v=aa l):IsL O (v.av p.oi) l:=
 KY (P:=λv=>IsL O (v.av p.oi) l) e .val λj hl=> .fM (h.obs _ _ hl)
noncomputable def vg (f g:St->Option CV) (st:St) (k:CV->CV->Option α):Option α:=(f st).bind λa=>(g st).bind (k a)
def orE {o p:Option α} {G:Prop} (h:o.or p=aa d) (h1:o=aa d->G) (h2:p=aa d->G):G:=by
 induction o with
 |none=>exact h2 h
 |some x=>exact h1 h
noncomputable def Pt (l m:List PV):Option PV:=if ↑l+ ↑m<=sizeLine then aa (.lst (l++m)) else ac
noncomputable def WH (op:mx) (o:Option PV):Option PV:=match op with
 | .Add=>o
 |_=>ac
def Mu (h:WH op o=aa d):op= .Add/\o=aa d:=by
 induction op with
 |Add=>exact⟨rfl,h⟩
 |_=>exact gr h
def Mv (st:St) (op:mx) (a b:CV):Option PV:=
 (a.aP.bind λx=>b.aP.bind (AF op x)).or (WH op ((st.oz a).bind λl=>(st.oz b).bind (Pt l)))
def ba (op:mx) (f g:St->Option CV) (st:St):Option CV:=(vg f g st (Mv st op)).map .pv
def zz (O:List AO) (t:Value->Value->zK Value) (a b:AV) (d:PV):Prop:=
 ∀(S:cz) (k:Nat) (A:cS) (c:aM) (s:bb) (u v:Value),jF k A->Rel S c O s.heap->cT S.w c ↑O u a->cT S.w c ↑O v b->Tr S O A c s (t u v) (.pv d) O
def Gd.A (h:Gd t a b d):zz O t (.pv a) (.pv b) d:=λS k A c s u v hA R h1 h2=>h S k O A c s u v hA R h1.gh h2.gh
def Ev.El (h1:Ev S k O ae l a O) (h2:Ev S k O ae r b O) (ho:zz O (binaryOp op) a b d):nJ S k O ae (.BinOp l op r pos) d:=
 ⟨ab _,λA c s env hA hE R E Q hQ=>F1 (h1.run A c s env hA hE R _ _ λc1 v1 s1 l1 R1 K1 a1=>h2.run A c1 s1 env hA (hE.mono l1 (ab _)) R1 _ _ λc2 v2 s2 l2 R2 K2 a2=>
  ho S k A c2 s2 v1 v2 hA R2 (a1.mono l2 (ab _)) a2 _ _ λc3 v3 s3 l3 R3 K3 a3=>hQ c3 v3 s3 ((l1.trans l2 (ab _)).trans l3 (ab _)) R3 ((K1.trans K2).trans K3) a3)⟩
def Ev.jr (h1:Ev S k O ae l a O) (h2:Ev S k O ae r b O) (ho:zz O (compareOp op) a b d) (hm:behindInMarks op r=false):
  nJ S k O ae (.Compare l [op] [r] pos) d:=
 ⟨ab _,λA c s env hA hE R E Q hQ=>wpAny_Compare1 (h1.run A c s env hA hE R _ _ λc1 v1 s1 l1 R1 K1 a1=>h2.run A c1 s1 env hA (hE.mono l1 (ab _)) R1 _ _ λc2 v2 s2 l2 R2 K2 a2=>
  ho S k A c2 s2 v1 v2 hA R2 (a1.mono l2 (ab _)) a2 _ _ λc3 v3 s3 l3 R3 K3 a3=>hQ c3 v3 s3 ((l1.trans l2 (ab _)).trans l3 (ab _)) R3 ((K1.trans K2).trans K3) a3) hm⟩
def nX.jr (h1:Ev S k O ae l a O) (h2:Ev S k O ae r b O) (ho:zz O (compareOp op) a b (PV.bool x)) (hm:behindInMarks op r=false):
  nX S k O ae (.Compare l [op] [r] pos) x:=
 λA c s env hA hE R E Q hQ=>xR (h1.run A c s env hA hE R _ _ λc1 v1 s1 l1 R1 K1 a1=>h2.run A c1 s1 env hA (hE.mono l1 (ab _)) R1 _ _ λc2 v2 s2 l2 R2 K2 a2=>
  ho S k A c2 s2 v1 v2 hA R2 (a1.mono l2 (ab _)) a2 _ _ λc3 v3 s3 l3 R3 K3 a3=>by
   have e:=a3.dn;subst e;exact gc (hQ c3 s3 ((l1.trans l2 (ab _)).trans l3 (ab _)) R3 ((K1.trans K2).trans K3))) hm
def Rel.sY {s:bb} (R:Rel S c O s.heap):
  Rel S (c.put s.heap.objs.size {cls:= .type T,data:= .seq vs}) O (s.heap.push {cls:= .type T,data:= .seq vs}):=
 R.put (λb o e=>aJ _ e) (ab _) (aV _ rfl)
def zz.Pt (h1:IsL O a l) (h2:IsL O b m) (hsz: ↑l+ ↑m<=sizeLine):zz O (binaryOp .Add) a b (.lst (l++m)):=by
 intro S k A c s u v hA R ha hb E Q hQ;left;let ⟨x,vs,n,rfl,hx,e1,k1⟩:=h1.at R ha;let ⟨y,us,m',rfl,hy,e2,k2⟩:=h2.at R hb;right;refine PySem.P.add_list hx hy ?_ (by simp_all);have hF:=R.oy (ab _);refine hQ _ _ _ (aM.dC hF) R.sY (.gF ..) (.pv (.lst (vs:=vs++us) (if_pos rfl) (by rw[Array.size_append,aj];simp_all) λi v d hv hd=> ?_));have hm:dk S.w c.F v d:=by
  rcases bS i vs.size with h|h
  ·rw[Array.getElem?_append_left h]at hv;rw[aW (by simp_all)]at hd;exact k1 i v d hv hd
  ·rw[Array.getElem?_append_right h]at hv;rw[aE (by simp_all),<- e1]at hd;exact k2 _ v d hv hd
 exact hm.mono (aM.dC (n:=0) hF).F
def XW (h:At lay p st O) (e:Mv st op a b=aa d):zz O (binaryOp op) (a.av p.oi) (b.av p.oi) d:=
 orE e (λe=>a9 e λx h1 e=>a9 e λy h2 e=>by rw[CV.kP h1,CV.kP h2];exact(Pl e).A)
  λe=>by let ⟨rfl,e⟩:=Mu e;refine a9 e λl h1 e=>a9 e λm h2 e=> ?_;let ⟨hs,rfl⟩:=dT e;exact zz.Pt (h.oz h1) (h.oz h2) hs
def cJ.bin (h1:cJ S k lay l f) (h2:cJ S k lay r g):cJ S k lay (.BinOp l op r pos) (ba op f g):=by intro p O st v bc hf;let ⟨d,hd,rfl⟩:=ar.mp hf;exact a9 hd λa ha hd=>a9 hd λb hb hd=>Ev.El (h1 p O st _ bc ha) (h2 p O st _ bc hb) (XW bc hd)
noncomputable def afl (op:wj) (o:Option Bool):Option Bool:=match op with
 | .Eq=>o
 | .NotEq=>o.map (!·)
 |_=>ac
def sZ (st:St) (op:wj) (a b:CV):Option Bool:=
 (a.aP.bind λx=>b.aP.bind (TQ op x)).or (afl op ((st.oz a).bind λl=>(st.oz b).bind (iJ l)))
def zz.eqL (h1:IsL O a l) (h2:IsL O b m) (h:iJ l m=aa r):zz O (compareOp .Eq) a b (PV.bool r)/\zz O (compareOp .NotEq) a b (PV.bool (!r)):=by
 constructor
 ·intro S k A c s u v hA R ha hb E Q hQ;let ⟨x,vs,n,rfl,hx,e1,k1⟩:=h1.at R ha;let ⟨y,us,m',rfl,hy,e2,k2⟩:=h2.at R hb;have:=ul (A:=A) R.frozen hx hy e1 e2 k1 k2 h (hA.IM ∅);exact this.1 _ _ _ _ (hQ c _ _ (.refl ..) R (.refl ..) (.pv (.con ..)))
 ·intro S k A c s u v hA R ha hb E Q hQ;let ⟨x,vs,n,rfl,hx,e1,k1⟩:=h1.at R ha;let ⟨y,us,m',rfl,hy,e2,k2⟩:=h2.at R hb;have:=ul (A:=A) R.frozen hx hy e1 e2 k1 k2 h (hA.IM ∅);exact this.2 _ _ _ _ (hQ c _ _ (.refl ..) R (.refl ..) (.pv (.con ..)))
def zS (h:At lay p st O) (e:sZ st op a b=aa r):zz O (compareOp op) (a.av p.oi) (b.av p.oi) (PV.bool r):=
 orE e (λe=>a9 e λx h1 e=>a9 e λy h2 e=>by rw[CV.kP h1,CV.kP h2];exact(TR e).A)
  λe=>by
   induction op with
   |Eq=>exact a9 e λl h1 e=>a9 e λm h2 e=>(zz.eqL (h.oz h1) (h.oz h2) e).1
   |NotEq=>let ⟨r',e2,rfl⟩:=ar.mp e;exact a9 e2 λl h1 e=>a9 e λm h2 e=>(zz.eqL (h.oz h1) (h.oz h2) e).2
   |_=>exact gr e
def bY (op:wj) (f g:St->Option CV) (st:St):Option Bool:=vg f g st (sZ st op)
def qD (f:St->Option Bool) (st:St):Option CV:=(f st).map λb=> .pv (PV.bool b)
def cJ.cmp (h1:cJ S k lay l f) (h2:cJ S k lay r g) (hm:behindInMarks op r=false):cJ S k lay (.Compare l [op] [r] pos) (qD (bY op f g)):=by intro p O st v bc hf;let ⟨x,hx,rfl⟩:=ar.mp hf;exact a9 hx λa ha hx=>a9 hx λb hb hx=>Ev.jr (h1 p O st _ bc ha) (h2 p O st _ bc hb) (zS bc hx) hm
def AH.cmp (h1:cJ S k lay l f) (h2:cJ S k lay r g) (hm:behindInMarks op r=false):AH S k lay (.Compare l [op] [r] pos) (bY op f g):=
 λp O st v bc hf=>a9 hf λa ha hf=>a9 hf λb hb hf=>nX.jr (h1 p O st _ bc ha) (h2 p O st _ bc hb) (zS bc hf) hm
end
local macro_rules | `(⇑$x) => `(jb (PV.int $x))
local macro_rules | `(↥$x) => `(jb (PV.str $x))
section
variable {lay:Lay}
def Em (S:cz) (k:Nat) (lay:Lay) (op:BoolOp) (es:List Expr) (f:St->Option Bool):Prop:=
 ∀p O st r,At lay p st O->f st=aa r->∀A c s env,jF k A->cY c ↑O (lay.en p) env->Rel S c O s.heap->
  ∀(E:VS) (Q:Bool->bb->Prop),(∀c' s',aM.le ↑O c c'->Rel S c' O s'.heap->dZ s s'->Q r s')->wpAny (MM S.w) A (allTrue op es env) Q E s
noncomputable def fG (_:St):Option Bool:=aa true
noncomputable def vD (_:St):Option Bool:=aa false
noncomputable def wC (f g:St->Option Bool) (st:St):Option Bool:=(f st).bind λb=>cond b (g st) (aa false)
noncomputable def Gj (f g:St->Option Bool) (st:St):Option Bool:=(f st).bind λb=>cond b (aa true) (g st)
noncomputable def x9 (f:St->Option Bool) (st:St):Option Bool:=(f st).map (!·)
def Em.alg:Em S k lay .Or [] vD:=λp O st r _ hf A c s env _ _ R E Q hQ=>by obtain rfl:=ag hf;exact wpAny_allTrue_Or_nil (hQ c s (.refl ..) R (.refl ..))
def Em.ahu (h1:AH S k lay x f) (h2:Em S k lay .And rest g):Em S k lay .And (x::rest) (wC f g):=by
 intro p O st r bc hf A c s env hA hE R E Q hQ;refine a9 hf λb e hf=> ?_;refine wpAny_allTrue_And_cons (h1 p O st b bc e A c s env hA hE R _ _ λc1 s1 l1 R1 K1=> ?_);induction b with
 |true=>exact h2 p O st r bc hf A c1 s1 env hA (hE.mono l1 (ab _)) R1 E Q λc2 s2 l2 R2 K2=>hQ c2 s2 (l1.trans l2 (ab _)) R2 (K1.trans K2)
 |false=>obtain rfl:=ag hf;exact hQ c1 s1 l1 R1 K1
def Em.ai0 (h1:AH S k lay x f) (h2:Em S k lay .Or rest g):Em S k lay .Or (x::rest) (Gj f g):=by
 intro p O st r bc hf A c s env hA hE R E Q hQ;refine a9 hf λb e hf=> ?_;refine wpAny_allTrue_Or_cons (h1 p O st b bc e A c s env hA hE R _ _ λc1 s1 l1 R1 K1=> ?_);induction b with
 |false=>exact h2 p O st r bc hf A c1 s1 env hA (hE.mono l1 (ab _)) R1 E Q λc2 s2 l2 R2 K2=>hQ c2 s2 (l1.trans l2 (ab _)) R2 (K1.trans K2)
 |true=>obtain rfl:=ag hf;exact hQ c1 s1 l1 R1 K1
def AH.boolOp (h:Em S k lay op es f):AH S k lay (.BoolOp op es pos) f:=
 λp O st r bc hf A c s env hA hE R E Q hQ=>wpAny_isTrue_BoolOp (h p O st r bc hf A c s env hA hE R E Q hQ)
def AH.not (h:AH S k lay x f):AH S k lay (.UnaryOp .Not x pos) (x9 f):=by intro p O st r bc hf A c s env hA hE R E Q hQ;unfold x9 at hf;simp only[ar]at hf;left;let ⟨b,hf,rfl⟩:=hf;right;exact wpAny_isTrue_Not (h p O st b bc hf A c s env hA hE R _ _ hQ)
noncomputable def IO:CV->Option Bool
 | .pv (.con (.bool b))=>aa b
 |_=>ac
def mw (f:St->Option CV) (st:St):Option Bool:=(f st).bind IO
def rJ (h:IO v=aa b):v= .pv (PV.bool b):=by
 induction v with
 |pv d=>cases d with
  |con u=>induction u with
   |bool c=>obtain rfl:=ag h;rfl
   |_=>exact gr h
  |_=>exact gr h
 |_=>exact gr h
def AH.val (h:cJ S k lay e f) (he:∀env zx,isTrue e env zx=(do let v <- zx;standAt e.pos;holding [v] (truthy v))):AH S k lay e (mw f):=by intro p O st r bc hf A c s env hA hE R E Q hQ;unfold mw at hf;let ⟨v,hf,hv⟩:=aG.mp hf;have:=rJ hv;subst this;refine se ((h p O st _ bc hf).run A c s env hA hE R _ _ λc1 v1 s1 l1 R1 K1 a1=> ?_) (he _ _);have e:=a1.dn;subst e;exact gc (hQ c1 s1 l1 R1 K1)
def vE (o1 o2:wj) (f g h:St->Option CV) (st:St):Option Bool:=
 (f st).bind λa=>(g st).bind λb=>(h st).bind λd=>(sZ st o1 a b).bind λx=>(sZ st o2 b d).map λy=>x&&y
def AH.chain (h1:cJ S k lay l f) (h2:cJ S k lay r g) (h3:cJ S k lay t h) (hm:lastMarks [o1,o2] [r,t]=false):AH S k lay (.Compare l [o1,o2] [r,t] pos) (vE o1 o2 f g h):=by
 intro p O st v bc hf A c s env hA hE R E Q hQ;refine a9 hf λa ha hf=>a9 hf λb hb hf=>a9 hf λd hd hf=>a9 hf λx hx hf=> ?_;let ⟨y,hy,rfl⟩:=ar.mp hf;refine PyProof.Rows.isTrue_chain ((h1 p O st _ bc ha).run A c s env hA hE R _ _ λc1 v1 s1 l1 R1 K1 a1=> ?_) hm;refine PyProof.Rows.test_link ((h2 p O st _ bc hb).run A c1 s1 env hA (hE.mono l1 (ab _)) R1 _ _ λc2 v2 s2 l2 R2 K2 a2=> ?_);refine zS bc hx S k A c2 s2 v1 v2 hA R2 (a1.mono l2 (ab _)) a2 _ _ λc3 v3 s3 l3 R3 K3 a3=> ?_;have e:=a3.dn;subst e;refine gc ?_;have NU:=(l1.trans l2 (ab _)).trans l3 (ab _);have af8:=(K1.trans K2).trans K3;induction x with
 |false=>exact hQ c3 s3 NU R3 af8
 |true=>refine PyProof.Rows.test_last ((h3 p O st _ bc hd).run A c3 s3 env hA (hE.mono NU (ab _)) R3 _ _ λc4 v4 s4 l4 R4 K4 a4=> ?_);refine zS bc hy S k A c4 s4 v2 v4 hA R4 ((a2.mono l3 (ab _)).mono l4 (ab _)) a4 _ _ λc5 v5 s5 l5 R5 K5 a5=> ?_;have e:=a5.dn;subst e;exact gc (hQ c5 s5 ((NU.trans l4 (ab _)).trans l5 (ab _)) R5 ((af8.trans K4).trans K5))
def Mw (S:cz) (k:Nat) (lay:Lay) (es:List Expr) (f:St->Option Bool):Prop:=
 ∀p O st r,At lay p st O->f st=aa r->∀A c s env pos,jF k A->cY c ↑O (lay.en p) env->Rel S c O s.heap->
  ∀(E:VS) (Q:VS),(∀c' s',aM.le ↑O c c'->Rel S c' O s'.heap->dZ s s'->Q (.bool r) s')->wpAny (MM S.w) A (Ig pos .And (evalEach es env)) Q E s
def Mw.one (h:cJ S k lay x f):Mw S k lay [x] (mw f):=by intro p O st r bc hf A c s env pos hA hE R E Q hQ;unfold mw at hf;let ⟨v,hf,hv⟩:=aG.mp hf;have:=rJ hv;subst this;refine(h p O st _ bc hf).run A c s env hA hE R _ _ λc1 v1 s1 l1 R1 K1 a1=> ?_;have e:=a1.dn;subst e;exact hQ c1 s1 l1 R1 K1
def Mw.cons (h:cJ S k lay x f) (h2:Mw S k lay (y::rest) g):Mw S k lay (x::y::rest) (wC (mw f) g):=by
 intro p O st r bc hf A c s env pos hA hE R E Q hQ;unfold wC at hf;cases e:mw f st with
 |none=>rw[e]at hf;nomatch hf
 |some b=>
  rw[e]at hf;unfold mw at e;simp only[aG]at e;left;let ⟨v,hv,hb⟩:=e;have:=rJ hb;right;subst this;show wpAny _ A (do
   let v <- eval x env
   standAt pos
   let t <- holding [v] (truthy v)
   match BoolOp.And,t with
   | .And,false| .Or,true=>pure v
   |_,_=>Ig pos .And (evalEach (y::rest) env)) Q E s
  refine am ((h p O st _ bc hv).run A c s env hA hE R _ _ λc1 v1 s1 l1 R1 K1 a1=> ?_);have e:=a1.dn;subst e;refine am (cV (am (dH (gc ?_))));induction b with
  |true=>exact h2 p O st r bc hf A c1 s1 env pos hA (hE.mono l1 (ab _)) R1 E Q λc2 s2 l2 R2 K2=>hQ c2 s2 (l1.trans l2 (ab _)) R2 (K1.trans K2)
  |false=>obtain rfl:=ag hf;exact aR (hQ c1 s1 l1 R1 K1)
def cJ.and (h:Mw S k lay es f):cJ S k lay (.BoolOp .And es pos) (qD f):=by intro p O st v bc hf;unfold qD at hf;simp only[ar]at hf;let ⟨b,hf,rfl⟩:=hf;exact⟨ab _,λA c s env hA hE R E Q hQ=>h p O st b bc hf A c s env pos hA hE R E Q λc1 s1 l1 R1 K1=>hQ c1 _ s1 l1 R1 K1 (.pv (.con _))⟩
noncomputable def KZ (b:St->Option Bool) (f g:St->Option CV) (st:St):Option CV:=match b st with
 |some true=>f st
 |some false=>g st
 |ac=>ac
def cJ.Pu (h0:AH S k lay t b) (h1:cJ S k lay x f) (h2:cJ S k lay y g):cJ S k lay (.IfExp t x y pos) (KZ b f g):=by
 intro p O st v bc hf;unfold KZ at hf;refine⟨ab _,λA c s env hA hE R E Q hQ=> ?_⟩;cases e:b st with
 |none=>rw[e]at hf;cases hf
 |some r=>
  rw[e]at hf;refine VA (h0 p O st r bc e A c s env hA hE R _ _ λc1 s1 l1 R1 K1=> ?_);induction r with
  |true=>exact(h1 p O st v bc hf).run A c1 s1 env hA (hE.mono l1 (ab _)) R1 E Q λc2 v2 s2 l2 R2 K2 a2=>hQ c2 v2 s2 (l1.trans l2 (ab _)) R2 (K1.trans K2) a2
  |false=>exact(h2 p O st v bc hf).run A c1 s1 env hA (hE.mono l1 (ab _)) R1 E Q λc2 v2 s2 l2 R2 K2 a2=>hQ c2 v2 s2 (l1.trans l2 (ab _)) R2 (K1.trans K2) a2
noncomputable def aZ (_:St):Option (List CV):=aa []
noncomputable def au (f:St->Option CV) (g:St->Option (List CV)) (st:St):Option (List CV):=(f st).bind λa=>(g st).map (a:: ·)
def pS.nil:pS S k lay [] aZ:=λp O st v _ hf=>by obtain rfl:=ag hf;exact .nil
def pS.cons (h1:cJ S k lay x f) (h2:pS S k lay rest g) (hn:notStar x=true):pS S k lay (x::rest) (au f g):=by intro p O st v bc hf;refine a9 hf λa ha hf=> ?_;let ⟨l,hl,rfl⟩:=ar.mp hf;exact .cons (h1 p O st _ bc ha) (h2 p O st _ bc hl) hn
noncomputable def Mx:List CV->Option (List PV)
 | []=>aa []
 | .pv d::l=>(Mx l).map (d:: ·)
 |_::_=>ac
def TV:∀ {l:List CV} {ds:List PV},Mx l=aa ds->l=ds.map CV.pv:=by
 intro l;induction l with
 |nil=>intro ds h;obtain rfl:=ag h;rfl
 |cons a l ih=>
  intro ds h;induction a with
  |pv d=>let ⟨ds',h2,rfl⟩:=ar.mp h;rw[ih h2];rfl
  |_=>exact gr h
def wD {l:List CV} {ds:List PV} (h:Mx l=aa ds):l.map (CV.av oi)=ds.map AV.pv:=by rw[TV h,bD];rfl
def jd (g:St->Option (List CV)) (st:St):Option CV:=((g st).bind Mx).bind λl=>if ↑l<=1000 then ~~~(.tup l) else ac
def j8 (g:St->Option (List CV)) (st:St):Option CV:=((g st).bind Mx).bind λl=>if ↑l<=1000 then ~~~(.lst l) else ac
def dg.WI {vs:Vs}:∀ {ds:List PV},dg w c n vs (ds.map AV.pv)-> ↑vs= ↑ds/\∀(i:Nat) (v:Value) (d:PV),vs[i]? =aa v->ds[i]? =aa d->dk w c.F v d:=by
 induction vs with
 |nil=>
  intro ds h;induction ds with
  |nil=>exact⟨rfl,λi v d h=>gr h⟩
  |cons d ds=>nomatch h
 |cons v vs ih=>
  intro ds h;induction ds with
  |nil=>nomatch h
  |cons d ds=>
   let ⟨_,_,q,a,b⟩:=h.i1;cases q;refine⟨congrArg (· +1) (ih b).1,λi v d h1 h2=> ?_⟩;induction i with
   |zero=>obtain rfl:=ag h1;obtain rfl:=ag h2;exact a.gh
   |succ i=>exact(ih b).2 i v d h1 h2
def Rel.Pw {s:bb} (R:Rel S c O s.heap) {ds:List PV} (h:dg S.w c ↑O vs (ds.map AV.pv)):
  Rel S (c.put s.heap.objs.size {cls:= .type T,data:= .seq vs.toArray}) O (s.heap.push {cls:= .type T,data:= .seq vs.toArray})/\vs.toArray.size= ↑ds/\
   ∀(i:Nat) (v:Value) (d:PV),vs.toArray[i]? =aa v->ds[i]? =aa d->dk S.w (c.put s.heap.objs.size {cls:= .type T,data:= .seq vs.toArray}).F v d:=by
 let ⟨p,q⟩:=h.WI;refine⟨R.sY,by rw[SO];exact p,λi v d h1 h2=> ?_⟩;exact(q i v d (by simpa using h1) h2).mono (aM.dC (n:=0) (R.oy (ab _))).F
def cJ.tup (h:pS S k lay es g):cJ S k lay (.Tuple es n pos) (jd g):=by
 intro p O st v bc hf;refine a9 hf λds hl hf=>a9 hl λl hl hd=> ?_;let ⟨hsz,rfl⟩:=dT hf;have hh:=h p O st _ bc hl;rw[wD hd]at hh;refine⟨ab _,λA c s env hA hE R E Q hQ=> ?_⟩;refine sN (mH hh pos A c s env hA hE R _ _ λc1 vs s1 l1 R1 K1 a1=>⟨?_,?_⟩)
 ·rw[↑a1,aw];exact XH hsz rfl
 ·let ⟨R2,hs,hr⟩:=R1.Pw (T:= "tuple") a1;exact hQ _ _ _ (l1.trans (aM.dC (R1.oy (ab _))) (ab _)) R2 (K1.trans (.gF ..)) (.pv (.tup (if_pos rfl) hs hr))
def cJ.lst (h:pS S k lay es g):cJ S k lay (.List es pos) (j8 g):=by
 intro p O st v bc hf;refine a9 hf λds hl hf=>a9 hl λl hl hd=> ?_;let ⟨hsz,rfl⟩:=dT hf;have hh:=h p O st _ bc hl;rw[wD hd]at hh;refine⟨ab _,λA c s env hA hE R E Q hQ=> ?_⟩;refine wpAny_List (mH hh pos A c s env hA hE R _ _ λc1 vs s1 l1 R1 K1 a1=>⟨?_,?_⟩)
 ·rw[↑a1,aw];exact XH hsz rfl
 ·let ⟨R2,hs,hr⟩:=R1.Pw (T:= "list") a1;exact hQ _ _ _ (l1.trans (aM.dC (R1.oy (ab _))) (ab _)) R2 (K1.trans (.gF ..)) (.pv (.lst (if_pos rfl) hs hr))
end
inductive S0 (O:List AO):AV->List (Str×PV)->Prop
 |val {l:List (Str×PV)}:S0 O (.pv (.oO l)) l
 |fM {i:Nat} {l:List (Str×PV)}:O[i]? =aa (.dict l)->S0 O (.fM i) l
inductive jP (w:jC) (F:Addr->Option Obj):List eL->List (Str×PV)->List (Str×Value)->Prop
 |nil:jP w F [] [] []
 |cons {e:eL} {k:Str} {d:PV} {es:List eL} {l:List (Str×PV)} {kvs:List (Str×Value)}:e.hash=hashStr w k->(∃t,e.key= .str k t)->dk w F e.val d->jP w F es l kvs->jP w F (e::es) ((k,d)::l) ((k,e.val)::kvs)
def jP.of {es:List eL} {l:List (Str×PV)} (h: ↑es= ↑l)
  (h1:∀(i:Nat) (e:eL) (k:Str) (d:PV),es[i]? =aa e->l[i]? =aa (k,d)->e.hash=hashStr w k/\∃t,e.key= .str k t)
  (h2:∀(i:Nat) (e:eL) (k:Str) (d:PV),es[i]? =aa e->l[i]? =aa (k,d)->dk w F e.val d):∃kvs,jP w F es l kvs:=by
 replace h:=SW.of h;induction h with
 |nil=>exact⟨[],.nil⟩
 |cons e q _ ih=>let ⟨kvs,hk⟩:=ih (λi e k d a b=>h1 (i+1) e k d a b) λi e k d a b=>h2 (i+1) e k d a b;let ⟨k,d⟩:=q;let ⟨a,b⟩:=h1 0 e k d rfl rfl;exact⟨_,.cons a b (h2 0 e k d rfl rfl) hk⟩
def jP.keys (h:jP w F es l kvs):kvs.map (·.1)=l.map (·.1):=by
 induction h with
 |nil=>rfl
 |cons _ _ _ _ ih=>rw[bw,bw,ih]
def jP.pairs (h:jP w F es l kvs):Pairs (strKind pw w) es kvs/\∀e∈es,∃k,(strKind pw w).is k e.key=true/\e.hash=(strKind pw w).hash k:=by
 induction h with
 |nil=>exact⟨.nil,λe he=>by cases he⟩
 | @cons e k d es l kvs a b _ _ ih=>
  obtain(⟨t,ht⟩):=b;have hk:(strKind pw w).is k e.key=true:=by exact ht▸(beq_self_eq_true k)
  refine⟨.cons hk rfl ih.1,λe' he=> ?_⟩;rcases aH.mp he with h|h
  ·subst h;exact⟨k,hk,a⟩
  ·exact ih.2 e' h
def jP.dictOf {h:iS} (hp:jP w F es.toList l kvs) (ho:h.get? a=aa {cls:= .type "dict",data:= .dict es n}) (nd:(l.map (·.1)).Nodup):
  h.DictAt (strKind pw w) a kvs n:=⟨_,es,ho,⟨rfl,rfl,rfl⟩,rfl,λe he=>hp.pairs.2 e (ve.mpr he),hp.pairs.1,by rw[hp.keys];exact nd⟩
def mJ {h:iS} (x:h.DictAt (strKind pw w) a kvs n):h.DictOf (strKind pw w) a kvs:=xe21 (x) λo es r=>⟨o,es,n,r⟩
def jP.get (h:jP w F es l kvs) {k:Str} (hl:l.lookup k=aa d):∃v,valueAt kvs k=aa v/\dk w F v d:=by
 induction h with
 |nil=>nomatch hl
 | @cons e k' d' es l kvs a b hv _ ih=>
  rw[di]at hl;by_cases hk:k=k'
  ·subst hk;rw[beq_self_eq_true]at hl;obtain rfl:=ag hl;exact⟨e.val,by unfold valueAt;simp,hv⟩
  ·rw[beq_false_of_ne hk]at hl;let ⟨v,h1,h2⟩:=ih hl;refine⟨v,?_,h2⟩;unfold valueAt at h1⊢;rw[List.find?_cons];simp only[decide_eq_true_eq];rw[decide_eq_false (λe=>hk e.symm)];exact h1
def S0.at (hl:S0 O d l) (R:Rel S c O h) (hv:cT S.w c ↑O v d):
  ∃a es n kvs,v= .ref a/\(a==sysModules)=false/\h.get? a=aa {cls:= .type "dict",data:= .dict es n}/\(l.map (·.1)).Nodup/\jP S.w c.F es.toList l kvs:=by
 have key:∀(es:Array eL),es.size= ↑l->(∀(i:Nat) (e:eL) (k:Str) (d:PV),es[i]? =aa e->l[i]? =aa (k,d)->e.hash=hashStr S.w k/\∃t,e.key= .str k t)->
   (∀(i:Nat) (e:eL) (k:Str) (d:PV),es[i]? =aa e->l[i]? =aa (k,d)->dk S.w c.F e.val d)->∃kvs,jP S.w c.F es.toList l kvs:=λes a b d=>
  jP.of (bx▸a) (λi e k x h1 h2=>b i e k x (by rw[<- fS];exact h1) h2) (λi e k x h1 h2=>d i e k x (by rw[<- fS];exact h1) h2)
 induction hl with
 |val=>let ⟨_,_,rfl,hm,a,_,_,rfl,b,nd,d,e⟩:=hv.gh.XR;obtain(⟨kvs,hk⟩):=key _ b d e;exact⟨_,_,_,kvs,rfl,hm,R.frozen _ _ a,nd,hk⟩
 |fM hi=>obtain(⟨rfl,kX⟩):=hv.zy;obtain(⟨o,ho,hr⟩):=R.own _ _ hi;let ⟨_,_,rfl,a,nd,b,d⟩:=hr.Pd;obtain(⟨kvs,hk⟩):=key _ a b d;exact⟨_,_,_,kvs,rfl,R.KN kX,ho,nd,hk⟩
section
variable {lay:Lay}
noncomputable def diO:Option CO->Option (List (Str×PV))
 |some (.dict l)=>aa l
 |_=>ac
def TX (h:diO a=aa l):a=aa (.dict l):=by
 induction a with
 |none=>exact gr h
 |some o=>induction o with
  |dict m=>obtain rfl:=ag h;rfl
  |_=>exact gr h
def St.WK (st:St):CV->Option (List (Str×PV))
 | .ob j=>diO st.ob[j]?
 |v=>v.aDc
def At.WK (h:At lay p st O) (e:st.WK v=aa l):S0 O (v.av p.oi) l:=by
 induction v with
 |pv d=>rw[CV.kDc (v:= .pv d) e];exact .val
 |ob j=>exact .fM (h.obs _ _ (TX e))
 |inst j=>exact gr e
def En {α:Type} [Decidable p] {x:Option α} {y:α} (h:(if p then x else ac)=aa y):p/\x=aa y:=by
 by_cases q:p
 ·rw[if_pos q]at h;exact⟨q,h⟩
 ·rw[if_neg q]at h;exact gr h
def K0 (st:St) (o:CV) (m:Nat):Option PV:=match o.aT with
 |some l=>l[m]?
 |none=>match o.aS with
  |some x=>(x.cps[m]?).map λch=> .str ⟨#[ch]⟩
  |none=>(st.oz o).bind (·[m]?)
def nY (st:St) (o i:CV):Option PV:=match i.aI with
 |some n=>if 0<=n/\n<2 ^ 63 then K0 st o n.toNat else ac
 |none=>i.aS.bind λk=>(st.WK o).bind (·.lookup k)
def bk (f g:St->Option CV) (st:St):Option CV:=(vg f g st (nY st)).map .pv
def Ev.afm (h1:Ev S k O ae o a O) (h2:Ev S k O ae i b O)
  (hg:∀A c s u v,jF k A->Rel S c O s.heap->cT S.w c ↑O u a->cT S.w c ↑O v b->∃T id,s.TypeIs u T/\typeLookup (.type T) "__getitem__" =pure (aa (.builtin id))/\Tr S O A c s (getItem u v) (.pv x) O)
  (hs:∀u v,subscripted i false u v=operate [u,v] (getItem u v)):nJ S k O ae (.Subscript o i pos) x:=by
 refine⟨ab _,?_⟩;intro A c s env hA hE R E Q hQ;refine pN (h1.run A c s env hA hE R _ _ λc1 v1 s1 l1 R1 K1 a1=>h2.run A c1 s1 env hA (hE.mono l1 (ab _)) R1 _ _ λc2 v2 s2 l2 R2 K2 a2=> ?_);left;let ⟨T,id,hT,hl,ht⟩:=hg A c2 s2 v1 v2 hA R2 (a1.mono l2 (ab _)) a2;right;exact lT hT hl (ht E Q λc3 v3 s3 l3 R3 K3 a3=>hQ c3 v3 s3 ((l1.trans l2 (ab _)).trans l3 (ab _)) R3 ((K1.trans K2).trans K3) a3) (hs _ _)
def Px (bc:At lay p st O) (h:nY st o i=aa x) (hA:jF k A) (R:Rel S c O s.heap)
  (hu:cT S.w c ↑O u (o.av p.oi)) (hv:cT S.w c ↑O v (i.av p.oi)):∃T id,s.TypeIs u T/\typeLookup (.type T) "__getitem__" =pure (aa (.builtin id))/\Tr S O A c s (getItem u v) (.pv x) O:=by
 unfold nY at h;cases e:i.aI with
 |some n=>
  rw[e]at h;rw[CV.kI e]at hv;let ⟨hn,h⟩:=En h;have vZ:=hv.gh;let ⟨_,rfl⟩:=vZ.kQ;unfold K0 at h;cases e2:o.aT with
  |some l=>rw[e2]at h;rw[CV.kT e2]at hu;have LZ:=hu.gh;let ⟨_,_,_,rfl,a,b,d⟩:=LZ.Ee;let ⟨y,hy⟩:=uk b h;have kX:=(iU.mp hy).1;refine⟨"tuple",_,⟨_,R.frozen _ _ a,rfl⟩,F.slot_tuple_getitem.lookup,λE Q hQ=> ?_⟩;exact PyProof.Rows.getItem_tuple ⟨_,R.frozen _ _ a,rfl,_,rfl⟩ (aii hn) hn.2 (VB hn.1 (aaN kX)) hy (hQ c _ _ (.refl ..) R (.refl ..) (.pv (d _ _ _ hy h)))
  |none=>
   rw[e2]at h;cases e3:o.aS with
   |some z=>
    rw[e3]at h;rw[CV.kS e3]at hu;have LZ:=hu.gh;let ⟨_,rfl⟩:=LZ.mG;let ⟨ch,hc,rfl⟩:=ar.mp h;have ajw:n< ↑z:=by show n< (z.cps.size:Int);exact aaN ((iU.mp hc).1)
    refine⟨"str",_,si ..,F.slot_str_getitem.lookup,λE Q hQ=> ?_⟩;refine PyProof.Rows.getItem_str (c:=ch) ?_ ?_ (hQ c _ _ (.refl ..) R (.toks ..) (.pv (.str ..)))
    ·simp;exact aij hn
    ·exact(VB hn.1 ajw)▸hc
   |none=>rw[e3]at h;refine a9 h λl hl h=> ?_;let ⟨a,vs,m,rfl,ho,qd,hr⟩:=(bc.oz hl).at R hu;let ⟨y,hy⟩:=uk qd h;refine⟨"list",_,⟨_,ho,rfl⟩,CT.lookup,λE Q hQ=> ?_⟩;exact wpAny_getItem_list (IsL.isList ho) hn.1 hn.2 hy (hQ c _ _ (.refl ..) R (.refl ..) (.pv (hr _ _ _ hy h)))
 |none=>rw[e]at h;refine a9 h λkk e2 h=>a9 h λl hl h=> ?_;rw[CV.kS e2]at hv;have vZ:=hv.gh;let ⟨_,rfl⟩:=vZ.mG;let ⟨a,es,n,kvs,rfl,_,ho,nd,hp⟩:=(bc.WK hl).at R hu;have hm:=(mJ (hp.dictOf ho nd)).mapOf;let ⟨y,hy,hyv⟩:=hp.get h;refine⟨"dict",_,hm.typeIs,slot_dict_getitem.lookup,λE Q hQ=> ?_⟩;exact wpAny_getItem_of (knd:=strKind pw S.w) (k:=kk) (beq_self_eq_true kk) hm hy (hQ c _ _ (.refl ..) R (.toks ..) (.pv hyv))
def La:(λu v=>operate [u,v] (getItem u v))=λu v=>operate [u,v] (getItem u v):=rfl
def cJ.item (h1:cJ S k lay o f) (h2:cJ S k lay i g) (hs:subscripted i false=λu v=>operate [u,v] (getItem u v)):cJ S k lay (.Subscript o i pos) (bk f g):=by intro p O st v bc hf;let ⟨x,hx,rfl⟩:=ar.mp hf;exact a9 hx λa ha hx=>a9 hx λb hb hx=>Ev.afm (h1 p O st _ bc ha) (h2 p O st _ bc hb) (λA c s u v hA R hu hv=>Px bc hx hA R hu hv) λu v=>congrFun (congrFun hs u) v
end
section
variable {lay:Lay}
noncomputable def cP {α:Type} (l:List α) (lo hi st:Option Int):List α:=(sliceRange (sliceBounds lo hi st ↑l).1 (sliceBounds lo hi st ↑l).2.1 (sliceBounds lo hi st ↑l).2.2).filterMap (l[·]?)
def Gk {vs:Array Value} {l:List PV} (e:vs.size= ↑l) (hr:∀(i:Nat) (v:Value) (d:PV),vs[i]? =aa v->l[i]? =aa d->dk w F v d):
  ∀(is:Nz),↑(is.filterMap (vs[·]?))= ↑(is.filterMap (l[·]?))/\∀(i:Nat) (v:Value) (d:PV),(is.filterMap (vs[·]?))[i]? =aa v->(is.filterMap (l[·]?))[i]? =aa d->dk w F v d:=by
 intro is;induction is with
 |nil=>exact⟨rfl,λi v d h=>gr h⟩
 |cons j is ih=>
  let ⟨p,q⟩:=ih;rcases bS j vs.size with h|h
  ·have h1:vs[j]? =aa vs[j]:=by simp[h]
   have h2:l[j]? =aa (l[j]'(IF h e)):=aq (IF h e);rw[lM (b:=vs[j]) h1,lM (b:=l[j]'(IF h e)) h2];refine⟨by rw[az,az,p],λi v d a b=> ?_⟩;induction i with
   |zero=>obtain rfl:=ag a;obtain rfl:=ag b;exact hr j _ _ h1 h2
   |succ i=>exact q i v d a b
  ·have h1:vs[j]? =ac:=by simp;exact aaO h
   have h2:l[j]? =ac:=bC (aik e h);rw[lO h1,lO h2];exact⟨p,q⟩
def XX (S:cz) (k:Nat) (lay:Lay) (o:Option Expr) (f:St->Option (Option Int)):Prop:=
 ∀p O st v,At lay p st O->f st=aa v->∀A c s env,jF k A->cY c ↑O (lay.en p) env->Rel S c O s.heap->
  ∀(E:VS) (Q:VS),(∀c' (u:Option (Int×CU)) s',aM.le ↑O c c'->Rel S c' O s'.heap->dZ s s'->u.map (·.1)=v->Q (partValue u) s')->wpAny (MM S.w) A (evalPart o env) Q E s
noncomputable def eD (_:St):Option (Option Int):=aa ac
def gV (f:St->Option CV) (st:St):Option (Option Int):=((f st).bind CV.aI).map aa
def XX.none:XX S k lay ac eD:=λp O st v _ hf A c s env _ _ R E Q hQ=>by obtain rfl:=ag hf;exact evalPart_none_step (hQ c ac s (.refl ..) R (.refl ..) rfl)
def XX.some (h:cJ S k lay e f):XX S k lay (aa e) (gV f):=λp O st v bc hf A c s env hA hE R E Q hQ=>by let ⟨n,hn,rfl⟩:=ar.mp hf;refine a9 hn λ_ hn e=> ?_;rw[CV.kI e]at hn;refine evalPart_some_step ((h p O st _ bc hn).run A c s env hA hE R _ _ λc1 v1 s1 l1 R1 K1 a1=> ?_);have JX:=a1.gh;let ⟨t,rfl⟩:=JX.kQ;exact hQ c1 (aa (n,t)) s1 l1 R1 K1 rfl
def pf (st:St) (o:CV) (lo hi step:Option Int):Option PV:=
 (o.aS.bind λx=>if step=ac/\ ↑x<=sizeLine then aa (.str (lm x lo hi)) else ac).or
  ((st.oz o).bind λl=>if ↑l<=sizeLine/\step≠aa 0 then aa (.lst (cP l lo hi step)) else ac)
def fN (f:St->Option CV) (lo hi step:St->Option (Option Int)) (st:St):Option CV:=
 (f st).bind λo=>(lo st).bind λa=>(hi st).bind λb=>(step st).bind λd=>(pf st o a b d).map .pv
def ta (u:Option (Int×CU)):IsPart (partValue u) (u.map (·.1)):=by
 induction u with
 |none=>exact .none
 |some x=>exact .int x.1 x.2
def cJ.slice {lo hi step:Option Expr} (h:cJ S k lay gQ f) (hl:XX S k lay lo fl) (hh:XX S k lay hi fh) (hs:XX S k lay step fs):
  cJ S k lay (.Subscript gQ (.Slice lo hi step q) pos) (fN f fl fh fs):=by
 intro p O st v bc hf;refine a9 hf λo ho hf=>a9 hf λa ha hf=>a9 hf λb hb hf=>a9 hf λd hd hf=> ?_;let ⟨x,hx,rfl⟩:=ar.mp hf;refine⟨ab _,λA c s env hA hE R E Q hQ=> ?_⟩;refine pN ((h p O st _ bc ho).run A c s env hA hE R _ _ λc1 v1 s1 l1 R1 K1 a1=> ?_);refine wpAny_Slice (hl p O st _ bc ha A c1 s1 env hA (hE.mono l1 (ab _)) R1 _ _ λc2 u2 s2 l2 R2 K2 e2=> ?_);have uL:=l1.trans l2 (ab _);refine hh p O st _ bc hb A c2 s2 env hA (hE.mono uL (ab _)) R2 _ _ λc3 u3 s3 l3 R3 K3 e3=> ?_;have NU:=uL.trans l3 (ab _);refine hs p O st _ bc hd A c3 s3 env hA (hE.mono NU (ab _)) R3 _ _ λc4 u4 s4 l4 R4 K4 e4=> ?_;have a4:=((a1.mono l2 (ab _)).mono l3 (ab _)).mono l4 (ab _);have CN:∀(u v:Value),∃ops,subscripted (.Slice lo hi step q) false u v=operate ops (getItem u v):=by
  intro u v;induction step with
  |none=>exact⟨_,rfl⟩
  |some e=>exact⟨_,rfl⟩
 let ⟨ops,af9⟩:=CN v1 (.ref s4.heap.objs.size);have K4':=((K1.trans K2).trans K3).trans K4;have W3:=NU.trans l4 (ab _);have R5:Rel S c4 O (s4.heap.push {cls:= .type "slice",data:= .fields #[partValue u2,partValue u3,partValue u4]}):=R4.ext λb o e=>aJ _ e;refine orE hx (λhx=>a9 hx λz e hx=> ?_) λhx=>a9 hx λl hl' hx=> ?_
 ·obtain rfl:=CV.kS e;let ⟨hz,rfl⟩:=dT hx;have a4':=a4.gh;let ⟨t,rfl⟩:=a4'.mG;let ⟨ru,cH⟩:=hz;subst ru;have:u4=ac:=by simpa using e4
  subst this;refine lT (T:= "str") (si ..) F.slot_str_getitem.lookup ?_ af9;refine wpAny_getItem_str_slice (l:=u2) (u:=u3) (st:=ac) ⟨_,aV _ rfl,rfl,rfl⟩ rfl ?_;rw[<- e2,<- e3]at hQ;exact post_val_or_str ⟨aA (Txt.slice_le z _ _) cH,λt' kk=>hQ c4 _ _ W3 R5 (K4'.trans (.heap ..)) (.pv (.str ..))⟩
 ·let ⟨hz,rfl⟩:=dT hx;left;let ⟨cH,ru⟩:=hz;let ⟨ad,vs,m,rfl,sd,qd,hr⟩:=(bc.oz hl').at R5 a4;right;refine lT (T:= "list") ⟨_,sd,rfl⟩ CT.lookup ?_ af9;refine wpAny_getItem_list_slice (IsL.isList sd) (Heap.IsSliceOf.new ..) (ta _) (ta _) (ta _) (by rw[e4];exact ru) ?_ (qd▸cH);rw[e2,e3,e4];have hF:=R5.oy (ab _);refine hQ _ _ _ (W3.trans (aM.dC hF) (ab _)) (Rel.sY (s:= {s4 with heap:=_}) R5) (K4'.trans (.gF ..)) (.pv (.lst (vs:=slicePick vs _ _ _) (if_pos rfl) ?_ λi v d' hv Aj=> ?_))
  ·have:=(Gk qd hr (sliceRange (sliceBounds a b d ↑l).1 (sliceBounds a b d ↑l).2.1 (sliceBounds a b d ↑l).2.2)).1;unfold slicePick cP;rw[SO,qd];exact this
  ·have:=(Gk qd hr (sliceRange (sliceBounds a b d ↑l).1 (sliceBounds a b d ↑l).2.1 (sliceBounds a b d ↑l).2.2)).2 i v d';unfold slicePick at hv;rw[List.getElem?_toArray,qd]at hv;exact(this hv Aj).mono (aM.dC (n:=0) hF).F
end
structure nr (S:cz) (k:Nat) (O:List AO) (fv:Value) (ds:List AV) (d:AV) (bv:List AO):Prop where
 len: ↑O<= ↑bv
 run:∀A c s vs,jF k A->Rel S c O s.heap->dg S.w c ↑O vs ds->Tr S O A c s (call fv vs) d bv
def Ev.Py (JY:(∃id,fv= .builtin id)\/∃T,fv= .type T)
  (hf:nJ S k O ae (.Name f np) (.con fv)) (ha:ck S k O ae args ds) (hc:nr S k O fv ds d bv):Ev S k O ae (.Call (.Name f np) args [] pos) d bv:=by
 refine⟨hc.len,?_⟩;intro A c s env hA hE R E Q hQ;refine cn (hf.run A c s env hA hE R _ _ λc1 v1 s1 l1 R1 K1 a1=> ?_);rw[a1.dn];have fin:wpAny (MM S.w) A (evalArgs fv true (backTo pos (starEach args env)) []) (λa eG=>wpAny (MM S.w) A (call fv ([]++a.pos) a.kw) Q E eG) E s1:=by refine eg ha _ pos A c1 s1 env hA (hE.mono l1 (ab _)) R1 _ _ λc2 vs s2 l2 R2 K2 a2=> ?_;exact hc.run A c2 s2 vs hA R2 a2 E Q λc3 v3 s3 l3 R3 K3 a3=>hQ c3 v3 s3 ((l1.trans l2 (ab _)).trans l3 (ab _)) R3 ((K1.trans K2).trans K3) a3
 rcases JY with⟨id,e'⟩|⟨T,e'⟩
 ·rw[e']at fin⊢;exact cX (noStar ha pos env) fin
 ·rw[e']at fin⊢;exact ed (noStar ha pos env) fin
section
variable {lay:Lay}
def fA (S:cz) (k:Nat) (fv:Value) (g:St->List CV->Option CV):Prop:=
 ∀(lay:Lay) (p:Ip) (O:List AO) (st:St) (ds:List CV) (v:CV),At lay p st O->g st ds=aa v->nr S k O fv (ds.map (CV.av p.oi)) (v.av p.oi) O
noncomputable def dJ (g:St->List CV->Option CV) (fa:St->Option (List CV)) (st:St):Option CV:=(fa st).bind (g st)
def cJ.call (hc:fA S k fv g) (JY:(∃id,fv= .builtin id)\/∃T,fv= .type T)
  (h:lay.mh f=true) (hg:(f,ac)∈cf) (hb:(f,aa fv)∈kM) (ha:pS S k lay args fa):cJ S k lay (.Call (.Name f np) args [] pos) (dJ g fa):=by
 intro p O st v bc hf;unfold dJ at hf;let ⟨ds,hd,hv⟩:=aG.mp hf;exact Ev.Py JY (Ev.Pr h hg hb) (ha p O st _ bc hd) (hc lay p O st ds v bc hv)
noncomputable def one (F:CV->Option CV):List CV->Option CV
 | []=>ac
 | [v]=>F v
 |_::_::_=>ac
def uo (h:one F ds=aa v):∃x,ds=[x]/\F x=aa v:=by
 cases ds with
 |nil=>exact gr h
 |cons x l=>induction l with
  |nil=>exact⟨x,rfl,h⟩
  |cons=>exact gr h
def kr (st:St):List CV->Option CV:=one λv=>match v.aS with
 |some x=>if ↑x<=sizeLine then ~~~(.int ↑x) else ac
 |none=>(st.oz v).bind λl=>if ↑l<=sizeLine then ~~~(.int ↑l) else ac
def AK (h:n<=sizeLine):(n:Int)<2 ^ 63:=by have:sizeLine=2 ^ 24:=rfl;exact ail h this
def fA.len:fA S k (.builtin "len") kr:=by
 intro lay p O st ds v bc h;have q:=uo h;clear h;let ⟨x,rfl,h⟩:=q;cases e:x.aS with
 |some x=>rw[e]at h;obtain rfl:=CV.kS e;let ⟨hs,rfl⟩:=dT h;refine⟨ab _,λA c s vs hA R ha E Q hQ=> ?_⟩;let ⟨_,_,rfl,a,b⟩:=ha.i1;obtain rfl:=b.i0;have a':=a.gh;let ⟨_,rfl⟩:=a'.mG;exact PyProof.Rows.len_str (by have:=AK hs;exact aim this) (hQ c _ _ (.refl ..) R (.toks ..) (.pv (.int ..)))
 |none=>rw[e]at h;let ⟨l,hl,h⟩:=aG.mp h;let ⟨hs,rfl⟩:=dT h;have:=yR.len_list (S:=S) (k:=k) (bc.oz hl) (AK hs);exact⟨this.len,this.run⟩
noncomputable def jQ:List PV->Option (List Int)
 | []=>aa []
 | .int n::l=>(jQ l).map (n:: ·)
 |_::_=>ac
def pg (ns:List Int):jQ (ns.map PV.int)=aa ns:=by
 induction ns with
 |nil=>rfl
 |cons n ns ih=>rw[bw];show(jQ _).map _=_;rw[ih];rfl
def Eo {vs:Vs} {l:List PV} {ns:List Int} (h:jQ l=aa ns) (hl: ↑vs= ↑l) (hr:∀(i:Nat) (v:Value) (d:PV),vs[i]? =aa v->l[i]? =aa d->dk w F v d):
  ∃xs:List (Int×CU),vs=xs.map (λp=> .int p.1 p.2)/\xs.map (·.1)=ns:=by
 replace hl:=SW.of hl;induction hl generalizing ns with
 |nil=>obtain rfl:=ag h;exact⟨[],rfl,rfl⟩
 |cons v d _ ih=>
  cases d with
  |int n=>let ⟨ns',h2,rfl⟩:=ar.mp h;let ⟨xs,e1,e2⟩:=ih h2 λi v d a b=>hr (i+1) v d a b;let ⟨t,e⟩:=(hr 0 v _ rfl rfl).kQ;exact⟨(n,t)::xs,by rw[e,e1];rfl,by rw[<- e2];rfl⟩
  |_=>exact gr h
def IsL.ints (hl:IsL O d l) (R:Rel S c O h) (hv:cT S.w c ↑O v d) (hn:jQ l=aa ns):
  ∃a xs,v= .ref a/\h.IsList a (intItems xs)/\xs.toList.map (·.1)=ns:=by
 left;let ⟨a,vs,n,rfl,ho,hs,hr⟩:=hl.at R hv;let ⟨xs,h1,h2⟩:=Eo hn (bx▸hs) (dk.TP hr);right;refine⟨a,xs.toArray,rfl,?_,h2⟩;have:vs=intItems xs.toArray:=by apply Array.ext';rw[h1];simp[intItems]
 exact this▸IsL.isList ho
def My (st:St):List CV->Option CV:=one λv=>(st.oz v).bind λl=>(jQ l).map λns=> .pv (.int ns.sum)
def fA.sum:fA S k (.builtin "sum") My:=by intro lay p O st ds v bc h;have q:=uo h;clear h;let ⟨x,rfl,h⟩:=q;let ⟨l,hl,h⟩:=aG.mp h;let ⟨ns,hn,rfl⟩:=ar.mp h;refine⟨ab _,λA c s vs hA R ha E Q hQ=> ?_⟩;let ⟨_,_,rfl,a,b⟩:=ha.i1;obtain rfl:=b.i0;let ⟨ad,xs,rfl,hI,rfl⟩:=(bc.oz hl).ints R a hn;refine sum_intListG hA.hn hI λh' tk t' hk=> ?_;rw[(by rw[preSum_eq,eP (by simp)]:preSum (numAt xs) xs.size=(xs.toList.map (·.1)).sum)];exact hQ c _ _ (.refl ..) (R.ext hk) (.heap ..) (.pv (.int ..))
noncomputable def TY (a b:UInt64):UInt64:=if dK a b==aa nh then b else a
noncomputable def TZ (a b:UInt64):UInt64:=if dK b a==aa nh then b else a
noncomputable def Mz:List Int->Option Int
 | []=>ac
 |n::r=>aa (r.foldl max n)
noncomputable def afn:List Int->Option Int
 | []=>ac
 |n::r=>aa (r.foldl min n)
def tb (l:List Int) (n:Int):(l.foldl max n=n\/l.foldl max n∈l)/\n<=l.foldl max n/\∀a∈l,a<=l.foldl max n:=by
 induction l generalizing n with
 |nil=>exact⟨.inl rfl,we _,λa ha=>by cases ha⟩
 |cons b l ih=>
  let ⟨p,q,r⟩:=ih (max n b);rw[jh];refine⟨?_,by exact ain q,λa ha=> ?_⟩
  ·rcases p with p|p
   ·rw[p];rcases Int.le_total n b with h|h
    ·exact .inr (by rw[VJ h];exact ay)
    ·exact .inl (Xu h)
   ·exact .inr (aK _ p)
  ·rcases aH.mp ha with h|h
   ·subst h;exact aio q
   ·exact r a h
def AL (l:List Int) (n:Int):(l.foldl min n=n\/l.foldl min n∈l)/\l.foldl min n<=n/\∀a∈l,l.foldl min n<=a:=by
 induction l generalizing n with
 |nil=>exact⟨.inl rfl,we _,λa ha=>by cases ha⟩
 |cons b l ih=>
  let ⟨p,q,r⟩:=ih (min n b);rw[jh];refine⟨?_,by exact aip q,λa ha=> ?_⟩
  ·rcases p with p|p
   ·rw[p];rcases Int.le_total n b with h|h
    ·exact .inl (Xs h)
    ·exact .inr (by rw[VI h];exact ay)
   ·exact .inr (aK _ p)
  ·rcases aH.mp ha with h|h
   ·subst h;exact aiq q
   ·exact r a h
def C7 (h:Mz l=aa M):M∈l/\∀a∈l,a<=M:=by
 cases l with
 |nil=>nomatch h
 |cons n r=>
  obtain rfl:=ag h;let ⟨p,q,t⟩:=tb r n;refine⟨?_,λa ha=> ?_⟩
  ·rcases p with p|p
   ·rw[p];exact ay
   ·exact aK _ p
  ·rcases aH.mp ha with h|h
   ·subst h;exact q
   ·exact t a h
def MA (h:afn l=aa M):M∈l/\∀a∈l,M<=a:=by
 cases l with
 |nil=>nomatch h
 |cons n r=>
  obtain rfl:=ag h;let ⟨p,q,t⟩:=AL r n;refine⟨?_,λa ha=> ?_⟩
  ·rcases p with p|p
   ·rw[p];exact ay
   ·exact aK _ p
  ·rcases aH.mp ha with h|h
   ·subst h;exact q
   ·exact t a h
def C8 (hi:i<xs.size):(xs.toList.map (·.1))[i]? =aa (numAt xs i):=by simp[numAt,hi]
def C9 (hi:i<xs.size):numAt xs i∈xs.toList.map (·.1):=bo (C8 hi)
def Dc (h:a∈xs.toList.map (·.1)):∃i,i<xs.size/\numAt xs i=a:=by
 let ⟨i,hi,e⟩:=wm h;have HT:i<xs.size:=by simpa using hi
 refine⟨i,HT,?_⟩;have:=C8 HT;rw[aq hi,e]at this;exact(ag this).symm
def dg.n1 {P:List Value->Prop} (ha:dg w c n vs [a]) (k:∀x,cT w c n x a->P [x]):P vs:=by let ⟨_,_,rfl,a1,h1⟩:=ha.i1;obtain rfl:=h1.i0;exact k _ a1
def dg.n2 {P:List Value->Prop} (ha:dg w c n vs [a,b]) (k:∀x y,cT w c n x a->cT w c n y b->P [x,y]):P vs:=by let ⟨_,_,rfl,a1,h1⟩:=ha.i1;exact h1.n1 (P:=λl=>P (_::l)) λy=>k _ y a1
def dg.n3 {P:List Value->Prop} (ha:dg w c n vs [a,b,d]) (k:∀x y z,cT w c n x a->cT w c n y b->cT w c n z d->P [x,y,z]):P vs:=by let ⟨_,_,rfl,a1,h1⟩:=ha.i1;exact h1.n2 (P:=λl=>P (_::l)) λy z=>k _ y z a1
def gMM (mI:List Int->Option Int) (r:Int->Int->Prop) [∀a b,Decidable (r a b)] (mF:UInt64->UInt64->UInt64) (st:St):List CV->Option CV
 | []=>ac
 | [v]=>(st.oz v).bind λl=>(jQ l).bind λns=>(mI ns).map λm=> .pv (.int m)
 | [x,y]=>x.aI.bind λa=>y.aI.map λb=> .pv (.int (if r b a then b else a))
 | [x,y,z]=>x.aF.bind λa=>y.aF.bind λb=>z.aF.map λd=> .pv (.fF (mF (mF a b) d))
 |_::_::_::_::_=>ac
def Ep:St->List CV->Option CV:=gMM Mz (λb a=>b>a) TY
def MB:St->List CV->Option CV:=gMM afn (λb a=>b<a) TZ
def AM (hh:A.handled=ac)
  (RU:∀Q:Value->bb->Prop,wpAny (MM w) A.in1 (pyIter (.ref s.heap.objs.size)) (λit rn=>∃I fp wr n P St bt,it= .ref I/\Walks pw w A.in1 I fp wr n P St/\St 0 rn.heap/\(∀b∈fp,b<rn.heap.objs.size)/\0<n/\CmpOf pw w A.in1 op P bt/\
   ∀v h' tk,P (argBest bt (n- 1)) v->(∀b o,b∉wr->rn.heap.get? b=aa o->h'.get? b=aa o)->Q v {rn with heap:=h',toks:=tk}) E
   {s with heap:=s.heap.push {cls:= .type "tuple",data:= .seq #[a,b,d]}}->wpAny (MM w) A (call (.builtin fn) [a,b,d]) Q E s)
  (ajy:CmpOf pw w A.in1 op (λi v=>(#[a,b,d]:Array Value)[i]? =aa v) bt)
  (h:∀v h' tk,(#[a,b,d]:Array Value)[argBest bt 2]? =aa v->(∀c o,s.heap.get? c=aa o->h'.get? c=aa o)->Q v {s with heap:=h',toks:=tk}):
  wpAny (MM w) A (call (.builtin fn) [a,b,d]) Q E s:=by
 have hT:(s.heap.push {cls:= .type "tuple",data:= .seq #[a,b,d]}).IsTuple s.heap.objs.size #[a,b,d]:=⟨_,aV _ rfl,rfl,0,rfl⟩;refine RU Q (B4 hT ?_);have hsz:(s.heap.push {cls:= .type "tuple",data:= .seq #[a,b,d]}).objs.size=s.heap.objs.size+1:=eU ..;refine⟨_,[_,s.heap.objs.size],[_],_,_,_,_,rfl,u0 (A:=A.in1) hh _ s.heap.objs.size (by rw[hsz];exact cU (ez _)) #[a,b,d],
  ⟨⟨_,aV _ rfl,rfl,rfl⟩,hT.push _⟩,λc hc=> ?_,by simp,ajy,λv h' tk hP hk=> ?_⟩
 ·show c< ((s.heap.push _).push _).objs.size;rw[eU,hsz];rcases aH.mp hc with rfl|hc
  ·rw[hsz];exact ez _
  ·rcases aH.mp hc with rfl|hc
   ·exact eI (ez _)
   ·nomatch hc
 ·refine h v h' tk hP λc o e=> ?_;refine hk c o (λhm=> ?_) (aJ _ (aJ _ e));rcases aH.mp hm with e1|hm
  ·have:=bW e;rw[e1,hsz]at this;exact lU _ (Nat.lt_of_succ_lt this)
  ·nomatch hm
def WL {bt:Nat->Nat->Bool} (h:(#[a,b,d]:Array Value)[argBest bt 2]? =aa v):v=if bt 1 0 then(if bt 2 1 then d else b) else if bt 2 0 then d else a:=by
 have h:(#[a,b,d]:Array Value)[if bt 2 (if bt 1 0 then 1 else 0) then 2 else if bt 1 0 then 1 else 0]? =aa v:=h;by_cases h1:bt 1 0=true
 ·rw[if_pos h1]at h⊢;by_cases h2:bt 2 1=true
  ·rw[if_pos h2]at h⊢;exact(ag h).symm
  ·rw[if_neg h2]at h⊢;exact(ag h).symm
 ·rw[if_neg h1]at h⊢;by_cases h2:bt 2 0=true
  ·rw[if_pos h2]at h⊢;exact(ag h).symm
  ·rw[if_neg h2]at h⊢;exact(ag h).symm
abbrev Kp (s:bb) (h':iS):Prop:=∀b o,s.heap.get? b=aa o->h'.get? b=aa o
def fA.mm {id:String} {mI:List Int->Option Int} {r:Int->Int->Prop} [∀a b,Decidable (r a b)] {mF:UInt64->UInt64->UInt64}
  (h1:∀ {A:cS} {s:bb} {a:Addr} {xs:Array (Int×CU)} {m:Int} {E Q:VS},A.handled=ac->s.heap.IsList a (intItems xs)->0<xs.size->mI (xs.toList.map (·.1))=aa m->(∀t h' tk,Kp s h'->Q (.int m t) {s with heap:=h',toks:=tk})->wpAny (MM S.w) A (call (.builtin id) [.ref a]) Q E s)
  (h0:mI []=ac)
  (h2:∀ {A:cS} {s:bb} {a b:Int} {t u:CU} {E Q:VS},A.handled=ac->(∀h' tk,Kp s h'->Q (if r b a then .int b u else .int a t) {s with heap:=h',toks:=tk})->wpAny (MM S.w) A (call (.builtin id) [.int a t,.int b u]) Q E s)
  (h3:∀ {A:cS} {s:bb} {x y z:UInt64} {t u v:CU} {E Q:VS},A.handled=ac->(∀t h' tk,Kp s h'->Q (.float (mF (mF x y) z) t) {s with heap:=h',toks:=tk})->wpAny (MM S.w) A (call (.builtin id) [.float x t,.float y u,.float z v]) Q E s):
  fA S k (.builtin id) (gMM mI r mF):=by
 intro lay p O st ds v bc h;rcases ds with _|⟨u,_|⟨w,_|⟨t,_|_⟩⟩⟩
 ·exact gr h
 ·refine a9 h λl hl h=>a9 h λns hn h=> ?_;let ⟨m,hm,rfl⟩:=ar.mp h;refine⟨ab _,λA c s vs hA R ha E Q hQ=> ?_⟩;refine ha.n1 (P:=λvs=>wpAny _ _ (call _ vs) _ _ _) λu a=> ?_;let ⟨ad,xs,rfl,hI,rfl⟩:=(bc.oz hl).ints R a hn;refine h1 hA.hn hI ?_ hm λt h' tk hk=>hQ c _ _ (.refl ..) (R.ext hk) (.heap ..) (.pv (.int ..));rcases yH xs.size with e|e
  ·rw[Array.eq_empty_of_size_eq_zero e]at hm;exact gr (h0.symm.trans hm)
  ·exact e
 ·refine a9 h λx e1 h=> ?_;let ⟨y,e2,rfl⟩:=ar.mp h;rw[CV.kI e1,CV.kI e2];refine⟨ab _,λA c s vs hA R ha E Q hQ=> ?_⟩;refine ha.n2 (P:=λvs=>wpAny _ _ (call _ vs) _ _ _) λu v a1 a2=> ?_;let ⟨t1,rfl⟩:=a1.gh.kQ;let ⟨t2,rfl⟩:=a2.gh.kQ;refine h2 hA.hn λh' tk hk=> ?_;by_cases hc:r y x
  ·rw[if_pos hc]at hQ⊢;exact hQ c _ _ (.refl ..) (R.ext hk) (.heap ..) (.pv (.int ..))
  ·rw[if_neg hc]at hQ⊢;exact hQ c _ _ (.refl ..) (R.ext hk) (.heap ..) (.pv (.int ..))
 ·refine a9 h λx e1 h=>a9 h λy e2 h=> ?_;let ⟨z,e3,rfl⟩:=ar.mp h;rw[CV.kF e1,CV.kF e2,CV.kF e3];refine⟨ab _,λA c s vs hA R ha E Q hQ=> ?_⟩;refine ha.n3 (P:=λvs=>wpAny _ _ (call _ vs) _ _ _) λu v w a1 a2 a3=> ?_;let ⟨t1,rfl⟩:=a1.gh.Ed;let ⟨t2,rfl⟩:=a2.gh.Ed;let ⟨t3,rfl⟩:=a3.gh.Ed;exact h3 hA.hn λt h' tk hk=>hQ c _ _ (.refl ..) (R.ext hk) (.heap ..) (.pv (.fF ..))
 ·exact gr h
def fl3 (x y z:UInt64) (t u v:CU):∀a∈ #[Value.float x t,.float y u,.float z v],Flt.NumV a:=by intro a h;simp at h;rcases h with rfl|rfl|rfl<;>exact .float _ _
def fA.max:fA S k (.builtin "max") Ep:=
 .mm (λhA hI oQ hm hQ=>max_intList hA hI oQ λv h' tk hP hk=>by
   let ⟨b1,b2⟩:=argBest_gt (numAt _) (Array.size _- 1);let ⟨t,rfl⟩:=intItems_at hP;let ⟨q1,q2⟩:=C7 hm;let ⟨i,hi,HT⟩:=Dc q1;rw[air (q2 _ (C9 (aaQ b1 hi))) HT (b2 i (aaP hi))];exact hQ t h' tk hk) rfl max_two_ints
  λ{A s x y z t u v E Q} hA hQ=>AM hA (λQ=>call_max_three) (Flt.cmpOf_gt _ (fl3 _ _ _ _ _ _)) λv h' tk hP hk=>by
   obtain⟨t,rfl⟩:∃t,v= .float (TY (TY x y) z) t:=by
    refine WL hP▸ ?_;show∃t,(if (dK x y==aa .lt)=true then _ else _)=_;unfold TY;by_cases h1:(dK x y==aa .lt)=true
    ·rw[if_pos h1,if_pos h1];show∃t,(if (dK y z==aa .lt)=true then _ else _)=_;by_cases h2:(dK y z==aa .lt)=true
     ·rw[if_pos h2,if_pos h2];exact⟨_,rfl⟩
     ·rw[if_neg h2,if_neg h2];exact⟨_,rfl⟩
    ·rw[if_neg h1,if_neg h1];show∃t,(if (dK x z==aa .lt)=true then _ else _)=_;by_cases h2:(dK x z==aa .lt)=true
     ·rw[if_pos h2,if_pos h2];exact⟨_,rfl⟩
     ·rw[if_neg h2,if_neg h2];exact⟨_,rfl⟩
   exact hQ t h' tk hk
def fA.min:fA S k (.builtin "min") MB:=
 .mm (λhA hI oQ hm hQ=>min_intList hA hI oQ λv h' tk hP hk=>by
   let ⟨b1,b2⟩:=argBest_lt (numAt _) (Array.size _- 1);let ⟨t,rfl⟩:=intItems_at hP;let ⟨q1,q2⟩:=MA hm;let ⟨i,hi,HT⟩:=Dc q1;rw[ais (b2 i (aaP hi)) (q2 _ (C9 (aaQ b1 hi))) HT];exact hQ t h' tk hk) rfl min_two_ints
  λ{A s x y z t u v E Q} hA hQ=>AM hA (λQ=>call_min_three) (Flt.cmpOf_lt _ (fl3 _ _ _ _ _ _)) λv h' tk hP hk=>by
   obtain⟨t,rfl⟩:∃t,v= .float (TZ (TZ x y) z) t:=by
    refine WL hP▸ ?_;show∃t,(if (dK y x==aa .lt)=true then _ else _)=_;unfold TZ;by_cases h1:(dK y x==aa .lt)=true
    ·rw[if_pos h1,if_pos h1];show∃t,(if (dK z y==aa .lt)=true then _ else _)=_;by_cases h2:(dK z y==aa .lt)=true
     ·rw[if_pos h2,if_pos h2];exact⟨_,rfl⟩
     ·rw[if_neg h2,if_neg h2];exact⟨_,rfl⟩
    ·rw[if_neg h1,if_neg h1];show∃t,(if (dK z x==aa .lt)=true then _ else _)=_;by_cases h2:(dK z x==aa .lt)=true
     ·rw[if_pos h2,if_pos h2];exact⟨_,rfl⟩
     ·rw[if_neg h2,if_neg h2];exact⟨_,rfl⟩
   exact hQ t h' tk hk
def rK (_:St):List CV->Option CV:=one λv=>v.aF.bind λx=>if jw x then ~~~(.int (qx ia x)) else ac
noncomputable def XY:Float64.Num->Option Int
 | .fin sg m e=>aa (Float64.truncOf sg m e)
 | .nan=>ac
 | .inf _=>ac
def afo (_:St):List CV->Option CV:=one λv=>v.aF.bind λx=>(XY (km x)).map λi=> .pv (.int i)
def T1 (h:jw x=true):Tb x=false/\ng x=false:=by revert h;unfold jw Tb ng;cases km x<;>intro h<;>first|exact⟨rfl,rfl⟩|cases h
def fA.round:fA S k (.builtin "round") rK:=by intro lay p O st ds v bc h;have q:=uo h;clear h;let ⟨x,rfl,h⟩:=q;let ⟨x,e,h⟩:=aG.mp h;obtain rfl:=CV.kF e;let ⟨RV,rfl⟩:=dT h;let ⟨f1,f2⟩:=T1 RV;refine⟨ab _,λA c s vs hA R ha E Q hQ=> ?_⟩;let ⟨_,_,rfl,a,b⟩:=ha.i1;obtain rfl:=b.i0;have a':=a.gh;let ⟨_,rfl⟩:=a'.Ed;exact Flt.call_round_float hA.hn (λe=>by rw[f1]at e;nomatch e) (λe=>by rw[f2]at e;nomatch e) λ_=>hQ c _ _ (.refl ..) R (.toks ..) (.pv (.int ..))
def fA.int:fA S k (.type "int") afo:=by
 intro lay p O st ds v bc h;have q:=uo h;clear h;let ⟨x,rfl,h⟩:=q;let ⟨x,e,g⟩:=aG.mp h;clear h;let ⟨i,h,rfl⟩:=ar.mp g;clear g;obtain rfl:=CV.kF e;cases hd:km x with
 |nan=>rw[hd]at h;exact gr h
 |inf=>rw[hd]at h;exact gr h
 |fin sg m e=>
  rw[hd]at h;obtain rfl:=ag h
  ·skip
   refine⟨ab _,λA c s vs hA R ha E Q hQ=> ?_⟩;let ⟨_,_,rfl,a,b⟩:=ha.i1;obtain rfl:=b.i0;have a':=a.gh;let ⟨_,rfl⟩:=a'.Ed;exact call_int_float hd (hQ c _ _ (.refl ..) R (.toks ..) (.pv (.int ..)))
def Lb (st:St):List CV->Option CV:=one λv=>(st.oz v).bind λl=>if ↑l<=sizeLine then ~~~(.lst l) else ac
def fA.list:fA S k (.type "list") Lb:=by
 intro lay p O st ds v bc h;have q:=uo h;clear h;let ⟨x,rfl,h⟩:=q
 ·let ⟨l,hl,h⟩:=aG.mp h
  ·let ⟨hs,rfl⟩:=dT h;refine⟨ab _,λA c s vs hA R ha E Q hQ=> ?_⟩;let ⟨_,_,rfl,a,b⟩:=ha.i1;obtain rfl:=b.i0;let ⟨ad,us,n,rfl,ho,hsz,hr⟩:=(bc.oz hl).at R a;refine call_list_seq ad (.inl rfl) ho rfl rfl (λh' c' hk hn=> ?_) (by simp_all);have hF:=R.oy (ab _);exact hQ _ _ _ (aM.dC hF) (R.put hk (ab _) hn) (.gF ..) (.pv (.lst (if_pos rfl) hsz λi v d h1 h2=>(hr i v d h1 h2).mono (aM.dC (n:=0) hF).F))
end
section
variable {lay:Lay}
noncomputable def obT:Option CO->Option String
 |some (.list _)=>aa "list"
 |some (.dict _)=>aa "dict"
 |_=>ac
def T2 (st:St):CV->Option String
 | .pv (.str _)=>aa "str"
 | .pv (.lst _)=>aa "list"
 | .pv (.tup _)=>aa "tuple"
 | .pv (.oO _)=>aa "dict"
 | .ob j=>obT st.ob[j]?
 |_=>ac
def wF {s:bb} (h:s.heap.get? a=aa o) (hc:o.cls= .type T) (hd:o.dict=ac):s.TypeIs (.ref a) T/\∀b,eM a= .ref b->∃ob,s.heap.get? b=aa ob/\ob.dict=ac:=
 ⟨⟨_,h,hc⟩,λb e=>by injection e with e;exact e▸⟨_,h,hd⟩⟩
def zT (bc:At lay p st O) {v:CV} {T:String} (h:T2 st v=aa T) {c:aM} {s:bb} (R:Rel S c O s.heap) {u:Value} (hu:cT S.w c ↑O u (v.av p.oi)):
  s.TypeIs u T/\∀a,u= .ref a->∃ob,s.heap.get? a=aa ob/\ob.dict=ac:=by
 induction v with
 |pv d=>
  have hu:=hu.gh;cases d with
  |str x=>obtain rfl:=ag h;let ⟨_,rfl⟩:=hu.mG;exact⟨si ..,λa e=>Value.noConfusion e⟩
  |lst l=>obtain rfl:=ag h;let ⟨_,_,_,rfl,x,_⟩:=hu.x6;exact wF (R.frozen _ _ x) rfl rfl
  |tup l=>obtain rfl:=ag h;let ⟨_,_,_,rfl,x,_⟩:=hu.Ee;exact wF (R.frozen _ _ x) rfl rfl
  |oO l=>obtain rfl:=ag h;let ⟨_,_,rfl,_,x,_,_,rfl,_⟩:=hu.XR;exact wF (R.frozen _ _ x) rfl rfl
  |_=>exact gr h
 |ob j=>
  let ⟨rfl,_⟩:=hu.zy;have h:obT st.ob[j]? =aa T:=h;cases e:st.ob[j]? with
  |none=>rw[e]at h;exact gr h
  |some b=>
   rw[e]at h;let ⟨o,ho,hr⟩:=R.own _ _ (bc.obs _ _ e);induction b with
   |list l=>obtain rfl:=ag h;let ⟨_,_,rfl,_⟩:=hr.yP;exact wF ho rfl rfl
   |dict l=>obtain rfl:=ag h;let ⟨_,_,rfl,_⟩:=hr.Pd;exact wF ho rfl rfl
   |_=>exact gr h
 |inst j=>exact gr h
def eQ (T:String) (g:St->List CV->Option CV) (f:St->Option CV) (fa:St->Option (List CV)) (st:St):Option CV:=
 (f st).bind λo=>(fa st).bind λds=>if T2 st o=aa T then g st (o::ds) else ac
def AN (h:ck S k O ae args ds) (pos:Pos) (env:lY) (hn: ↑args<30):
  ((backTo pos (starEach args env)).all (λx=> !x.1)&&(backToKw pos (keywordEach [] env)).all (λx=>x.1.isSome)&&decide (↑args+ ↑([]:List Keyword)+(if ([]:List Keyword).isEmpty then 0 else 1)<30))=true:=by
 have h1:(backTo pos (starEach args env)).all (λx=> !x.1)=true:=by have:=noStar h pos env;rw[Il];simpa using this
 rw[h1];rw[(decide_eq_true (hn))];rfl
def cJ.td {T id:String}
  (hc:fA S k (.builtin id) g) (pa:PlainAttrs T) (Ku:Slot T name id) (hty:typeOf (.builtin id)=pure (.type "method_descriptor"))
  (h:cJ S k lay o f) (ha:pS S k lay args fa) (ik:∀env,attributeBase o name env (eval o env)=eval o env) (gC:(jx.endLine==pos.line)=true) (hn: ↑args<30):
  cJ S k lay (.Call (.Attribute o name jx) args [] pos) (eQ T g f fa):=by
 intro p O st v bc hf;refine a9 hf λd hd hf=>a9 hf λds Zg hf=> ?_;let ⟨ht,hf⟩:=En hf;have Iu:=ha p O st _ bc Zg;refine⟨ab _,λA c s env hA hE R E Q hQ=> ?_⟩;refine eK (ik env) (AN Iu pos env hn) gC ((h p O st _ bc hd).run A c s env hA hE R _ _ λc1 v1 s1 l1 R1 K1 a1=> ?_);let ⟨hT,tY⟩:=zT bc ht R1 a1;refine⟨T,id,pa,Ku,hty,hT,tY,cX (noStar Iu pos env) ?_⟩;refine eg Iu _ pos A c1 s1 env hA (hE.mono l1 (ab _)) R1 _ _ λc2 vs s2 l2 R2 K2 a2=> ?_;exact(hc lay p O st (d::ds) v bc hf).run A c2 s2 (v1::vs) hA R2 (.cons (a1.mono l2 (ab _)) a2) E Q λc3 v3 s3 l3 R3 K3 a3=>hQ c3 v3 s3 ((l1.trans l2 (ab _)).trans l3 (ab _)) R3 ((K1.trans K2).trans K3) a3
def gS1 (f:Str->Str) (_:St) (ds:List CV):Option CV:=one (λv=>v.aS.bind λx=>if cw ↑(f x) then ac else ~~~(.str (f x))) ds
def fA.s1 {id:String} {f:Str->Str} {name:Str} {B:Builtin} (Ku:Slot "str" name id) (entry:entryFor PySem.table id=aa B) (args:∀v,argsOk id ⟨[v],[]⟩) (hg:∀x t,cw ↑(f x)=false->Gives (B ⟨[.str x t],[]⟩) (.str (f x))):fA S k (.builtin id) (gS1 f):=by intro lay p O st ds v bc h;let ⟨u,rfl,h⟩:=uo h;refine a9 h λx e h=> ?_;obtain rfl:=CV.kS e;let ⟨hs,rfl⟩:=KJ h;refine⟨ab _,λA c s vs hA R ha E Q hQ=> ?_⟩;let ⟨_,_,rfl,a,b⟩:=ha.i1;obtain rfl:=b.i0;let ⟨_,rfl⟩:=a.gh.mG;exact call_gives Ku (si ..) entry (args _) (hg _ _ (kq.mpr hs)) ⟨fit_le (kq.mpr hs),hQ c _ _ (.refl ..) R (.toks ..) (.pv (.str ..))⟩
def kR:St->List CV->Option CV:=gS1 cO
def fA.lower:fA S k (.builtin "str.lower") kR:= .s1 F.slot_str_lower F.entry_str_lower F.args_str_lower_1 gives_str_lower
def gS:St->List CV->Option CV:=gS1 sL
def fA.upper:fA S k (.builtin "str.upper") gS:= .s1 F.slot_str_upper F.entry_str_upper F.args_str_upper_1 gives_str_upper
def two? :List CV->Option (Str×Str)
 | []=>ac
 | [_]=>ac
 | [a,b]=>a.aS.bind λx=>b.aS.map λy=>(x,y)
 |_::_::_::_=>ac
def Lc (h:two? l=aa a):l=[.pv (.str a.1),.pv (.str a.2)]:=by
 rcases l with _|⟨u,_|⟨v,_|_⟩⟩
 ·exact gr h
 ·exact gr h
 ·let ⟨_,e1,h⟩:=aG.mp h;let ⟨_,e2,h⟩:=ar.mp h;rw[CV.kS e1,CV.kS e2,<- h]
 ·exact gr h
noncomputable def WM:List Nat->Option CV
 | []=>ac
 |i::_=> ~~~(.int i)
def AP (_:St) (ds:List CV):Option CV:=(two? ds).bind λa=>WM (jg a.1 a.2 0 a.1.length 1)
def fA.index:fA S k (.builtin "str.index") AP:=by
 intro lay p O st ds v bc h;refine a9 h λq e h=> ?_;rw[Lc e];cases ho:jg q.1 q.2 0 q.1.length 1 with
 |nil=>rw[ho]at h;exact gr h
 |cons i r=>rw[ho]at h;obtain rfl:=ag h;refine⟨ab _,λA c s vs hA R ha E Q hQ=> ?_⟩;have h9:=ha.i1;clear ha;let ⟨_,_,rfl,a,ha⟩:=h9;have h9:=ha.i1;clear ha;let ⟨_,_,rfl,b,ha⟩:=h9;obtain rfl:=ha.i0;have a':=a.gh;have b':=b.gh;let ⟨_,rfl⟩:=a'.mG;let ⟨_,rfl⟩:=b'.mG;exact call_gives F.slot_str_index (si ..) F.entry_str_index (F.args_str_index_2 _ _) (gives_str_index _ _ _ _ _ _ ho) (hQ c _ _ (.refl ..) R (.toks ..) (.pv (.int ..)))
noncomputable def ya:List PV->Option (List Str)
 | []=>aa []
 | .str n::l=>(ya l).map (n:: ·)
 |_::_=>ac
def IP (ns:List Str):ya (ns.map PV.str)=aa ns:=by
 induction ns with
 |nil=>rfl
 |cons n ns ih=>rw[bw];show(ya _).map _=_;rw[ih];rfl
def Es {vs:Vs} {l:List PV} {ns:List Str} (h:ya l=aa ns) (hl: ↑vs= ↑l) (hr:∀(i:Nat) (v:Value) (d:PV),vs[i]? =aa v->l[i]? =aa d->dk w F v d):
  ∃xs:List (Str×CU),vs=strValues xs/\xs.map (·.1)=ns:=by
 replace hl:=SW.of hl;induction hl generalizing ns with
 |nil=>obtain rfl:=ag h;exact⟨[],rfl,rfl⟩
 |cons v d _ ih=>
  cases d with
  |str n=>let ⟨ns',h2,rfl⟩:=ar.mp h;let ⟨xs,e1,e2⟩:=ih h2 λi v d a b=>hr (i+1) v d a b;let ⟨t,e⟩:=(hr 0 v _ rfl rfl).mG;exact⟨(n,t)::xs,by rw[e,e1];rfl,by rw[<- e2];rfl⟩
  |_=>exact gr h
def AQ (st:St):List CV->Option CV
 | []=>ac
 | [_]=>ac
 | [u,v]=>u.aS.bind λx=>(st.oz v).bind λl=>(ya l).bind λns=>if FJ x ns then ~~~(.str (zJ x ns)) else ac
 |_::_::_::_=>ac
def fA.join:fA S k (.builtin "str.join") AQ:=by
 intro lay p O st ds v bc h;rcases ds with _|⟨u,_|⟨w,_|_⟩⟩
 ·exact gr h
 ·exact gr h
 ·refine a9 h λx e h=>a9 h λl hl h=>a9 h λns hn h=> ?_;let ⟨nc,rfl⟩:=dT h;obtain rfl:=CV.kS e;refine⟨ab _,λA c s vs hA R ha E Q hQ=> ?_⟩;refine ha.n2 (P:=λvs=>wpAny _ _ (call _ vs) _ _ _) λv1 v2 a b=> ?_;let ⟨_,rfl⟩:=a.gh.mG;let ⟨ad,us,n,rfl,ho,hs,hr⟩:=(bc.oz hl).at R b;let ⟨xs,h1,h2⟩:=Es hn (bx▸hs) (dk.TP hr);exact SC.join ((by rw[<- h1]:us=(strValues xs).toArray)▸IsL.isList ho) h2 nc λt' kk=>hQ c _ _ (.refl ..) R (.toks ..) (.pv (.str ..))
 ·exact gr h
end
structure aM.pM (own:Addr->Prop) (n:Nat) (c c':aM):Prop where
 F:∀a o,c.F a=aa o->c'.F a=aa o
 Z:∀i,i<n->c'.Z i=c.Z i
 pin:∀a,¬own a->c'.pin a=c.pin a
def aM.pM.trans {own:Addr->Prop} (h:aM.pM own n a b) (k:aM.pM own m b c) (hm:n<=m):aM.pM own n a c:=
 ⟨λx o e=>k.F x o (h.F x o e),λi hi=>(k.Z i (a8 hi hm)).trans (h.Z i hi),λx hx=>(k.pin x hx).trans (h.pin x hx)⟩
def aM.le.P {own:Addr->Prop} (h:aM.le n c c'):aM.pM own n c c':=⟨h.F,h.Z,λa _=>by rw[h.pin]⟩
structure lE (g:Nat) (s s':bb):Prop where
 os:s'.os=s.os
 gens:∀(i:Nat) (x:VF),i<g->s.gens[i]? =aa x->s'.gens[i]? =aa x
 bare:mu s.gens->mu s'.gens
def lE.trans (h:lE g a b) (k:lE g b c):lE g a c:=⟨k.os.trans h.os,λi x l e=>k.gens i x l (h.gens i x l e),λx=>k.bare (h.bare x)⟩
def dZ.P (h:dZ s s'):lE g s s':=⟨h.os,λi x _ e=>h.gens i x e,h.bare⟩
def lE.K (h:lE s.gens.size s s'):dZ s s':=⟨h.os,λi x e=>h.gens i x (by
 rcases bS i s.gens.size with h|h
 ·exact h
 ·rw[my h]at e;nomatch e) e,h.bare⟩
structure sr (S:cz) (k:Nat) (A:cS) (own:Addr->Prop) (g oR:Nat) (ok:List AO->Prop) (I:Value) (J:List PV->aM->bb->Prop):Prop where
 keep:∀ {n:Nat} {rest:List PV} {c c':aM} {O bv:List AO} {s s':bb},J rest c s->oR<=n->aM.le n c c'->dZ s s'->Rel S c O s.heap->Rel S c' bv s'.heap->J rest c' s'
 next:∀ {O:List AO} {rest:List PV} {c:aM} {s:bb},J rest c s->Rel S c O s.heap->oR<= ↑O->ok O->jF k A->∀(E:VS) (Q:Option Value->bb->Prop),
  (rest=[]->∀c' s',aM.pM own ↑O c c'->Rel S c' O s'.heap->lE g s s'->Q ac s')->
  (∀x r,rest=x::r->∀c' v s',aM.pM own ↑O c c'->Rel S c' O s'.heap->lE g s s'->J r c' s'->dk S.w c'.F v x->Q (aa v) s')->wpAny (MM S.w) A (pyNext I) Q E s
 self:∀ {O:List AO} {rest:List PV} {c:aM} {s:bb},J rest c s->Rel S c O s.heap->jF k A->∀(E:VS) (Q:VS),Q I s->wpAny (MM S.w) A (pyIter I) Q E s
 Vg:∀ {O:List AO} {rest:List PV} {c:aM} {s:bb},J rest c s->Rel S c O s.heap->∀(cD:Expr) (v:Value) (E:VS) (Q:Unit->bb->Prop),Q () s->wpAny (MM S.w) A (letOwnedTupleGo cD I v) Q E s
noncomputable def wG:List String:=["enumerate", "zip", "dict_itemiterator", "dict_reverseitemiterator", "odict_iterator", "itertools.zip_longest", "itertools.pairwise"]
def rL (ho:s.heap.get? I=aa o) (hc:o.cls= .type T) (hT:wG.contains T=false) (cD:Expr) (v:Value) (h:Q () s):
  wpAny M A (letOwnedTupleGo cD (.ref I) v) Q E s:=by
 have key:∀a,wpAny M A (do
   let o <- load I
   match o.cls,o.data with
   | .type n,.fields vs=>
    if wG.contains n&&vs[0]? ==aa (rawInt a) then
     rule "for.unpacks-the-owned-tuple"
     updateField I 0 .none
   |_,_=>pure ()) Q E s:=by
  intro a;refine am (Kj ho ?_);rw[hc];induction o.data with
  |fields vs=>refine wpAny_ite ?_;rw[if_neg (by rw[hT];exact bG)];exact aR h
  |_=>exact aR h
 cases cD with
 |Tuple=>induction v with
  |ref a=>exact key a
  |_=>exact aR h
 |List=>induction v with
  |ref a=>exact key a
  |_=>exact aR h
 |_=>exact aR h
def aM.nu (c:aM) (I:Addr) (o:Obj):aM:= {c with pin:=λa=>if a=I then aa o else c.pin a}
def Rel.nu (R:Rel S c O h) (hp:c.pin I=aa o) (hk:∀b x,b≠I->h.get? b=aa x->h'.get? b=aa x) (ho:h'.get? I=aa o'):Rel S (c.nu I o') O h':=by
 let ⟨p1,p2,p3,p4⟩:=R.pins I o hp;refine⟨λa x e=>hk _ _ (by rintro rfl;have e':c.F a=aa x:=e;rw[p2]at e';nomatch e') (R.frozen a x e),R.base,λi ao e=> ?_,R.apart,R.inj,λa x e=> ?_,λq hq=> ?_⟩
 ·let ⟨x,h1,h2⟩:=R.own i ao e;have kX:i< ↑O:=by
   rcases bS i ↑O with h|h
   ·exact h
   ·rw[bC h]at e;nomatch e
  exact⟨x,hk _ _ (p3 i kX) h1,h2.j6 (λ_ _ e=>e) (λ_ _=>rfl) (ab _)⟩
 ·have e':(if a=I then aa o' else c.pin a)=aa x:=e;by_cases ha:a=I
  ·subst ha;rw[if_pos rfl]at e';obtain rfl:=ag e';exact⟨ho,p2,p3,p4⟩
  ·rw[if_neg ha]at e';left;let ⟨q1,q2,q3,q4⟩:=R.pins a x e';right;exact⟨hk _ _ ha q1,q2,q3,q4⟩
 ·let ⟨a,b,ps,d,e,f⟩:=R.tabs q hq;exact⟨a,b,ps,hk _ _ (p4 q hq) d,e,f⟩
def aM.oV:aM.pM (· =I) n c (c.nu I o):=⟨λ_ _ e=>e,λ_ _=>rfl,λ_ ha=>if_neg ha⟩
def Rel.Gl (R:Rel S c O h) (hp:c.pin I=aa o) (hk:∀b x,b≠I->h.get? b=aa x->h'.get? b=aa x):Rel S {c with pin:=λa=>if a=I then ac else c.pin a} O h':=by
 let ⟨p1,p2,p3,p4⟩:=R.pins _ _ hp;refine⟨λa x e=>hk _ _ (by rintro rfl;have e':c.F a=aa x:=e;rw[p2]at e';nomatch e') (R.frozen a x e),R.base,λj ao e=> ?_,R.apart,R.inj,λa x e=> ?_,λq hq=> ?_⟩
 ·let ⟨x,q1,q2⟩:=R.own j ao e;have kX:j< ↑O:=by
   rcases bS j ↑O with h|h
   ·exact h
   ·rw[bC h]at e;nomatch e
  exact⟨x,hk _ _ (p3 j kX) q1,q2.j6 (λ_ _ e=>e) (λ_ _=>rfl) (ab _)⟩
 ·have e':(if a=I then ac else c.pin a)=aa x:=e;by_cases ha:a=I
  ·rw[if_pos ha]at e';nomatch e'
  ·rw[if_neg ha]at e';let ⟨q1,q2,q3,q4⟩:=R.pins a x e';exact⟨hk _ _ ha q1,q2,q3,q4⟩
 ·let ⟨a,b,ps,d,e,f⟩:=R.tabs q hq;exact⟨a,b,ps,hk _ _ (p4 q hq) d,e,f⟩
structure WJ (I:Addr) (fp:List Addr) (n:Nat) (St:Nat->iS->Prop) (Vk:Addr->Option Obj) (l rest:List PV) (c:aM) (s:bb):Prop where
 here:∃i,i<=n/\rest=l.drop i/\St i s.heap
 pin:∃o,c.pin I=aa o
 fp:∀b∈fp,b=I\/∃o,c.F b=aa o
 F:∀a o,Vk a=aa o->c.F a=aa o
def sr.ofWalks {I:Addr} {fp:List Addr} {n:Nat} {P:Nat->Value->Prop} {St:Nat->iS->Prop} {g oR:Nat} {ok:List AO->Prop} {T:String} {l:List PV} {Vk:Addr->Option Obj}
  (W:∀A:cS,A.handled=ac->Walks pw S.w A I fp [I] n P St) (hSt:∀i h,St i h->∃o,h.get? I=aa o/\o.cls= .type T) (hT:wG.contains T=false) (hl: ↑l=n)
  (hP:∀i v,i<n->P i v->∃x,l[i]? =aa x/\dk S.w Vk v x) (A:cS):sr S k A (· =I) g oR ok (.ref I) (WJ I fp n St Vk l) where
 keep:=λ{m rest c c' O bv s s'} hJ _ wh _ R R'=>by
  let ⟨⟨i,hi,hr,ru⟩,⟨o,ho⟩,hfp,hF⟩:=hJ;refine⟨⟨i,hi,hr,?_⟩,⟨o,by rw[wh.pin];exact ho⟩,λb hb=>(hfp b hb).imp id λ⟨x,hx⟩=>⟨x,wh.F _ _ hx⟩,λa x e=>wh.F _ _ (hF a x e)⟩;refine(W {} rfl).frame _ _ _ ru λb hb x e=> ?_;rcases hfp b hb with rfl|⟨y,hy⟩
  ·have e1:=(R.pins _ _ ho).1;rw[e1]at e;obtain rfl:=ag e;exact(R'.pins b o (by rw[wh.pin];exact ho)).1
  ·have e1:=R.frozen _ _ hy;rw[e1]at e;obtain rfl:=ag e;exact R'.frozen _ _ (wh.F _ _ hy)
 next:=λ{O rest c s} hJ R _ _ hA E Q h0 h1=>by
  let ⟨⟨i,hi,hr,ru⟩,⟨o,ho⟩,hfp,hF⟩:=hJ;have hI:=R.pins _ _ ho;rcases bS i n with kX|Ak
  ·refine(W A hA.hn).item i s Q E kX ru λv h' tk hPv RW hk=> ?_;let ⟨x,hx,hv⟩:=hP i v kX hPv;let ⟨o',sd,_⟩:=hSt _ _ RW;have xW:∀b x,b≠I->s.heap.get? b=aa x->h'.get? b=aa x:=λb x hb e=>hk b x (by simpa using hb) e;refine h1 x (l.drop (i+1)) ?_ (c.nu I o') v {s with heap:=h',toks:=tk} aM.oV (R.nu ho xW sd) (dZ.heap ..).P ⟨⟨i+1,kX,rfl,RW⟩,⟨o',if_pos rfl⟩,hfp,hF⟩ (hv.mono hF);rw[hr];have FY:i< ↑l:=by exact Ct kX hl
   rw[gU FY];rw[aq FY]at hx;obtain rfl:=ag hx;rfl
  ·have:i=n:=by exact ait hi Ak
   subst this;refine(W A hA.hn).done s Q E ru λh' tk hk=> ?_;have xW:∀b x,b≠I->s.heap.get? b=aa x->h'.get? b=aa x:=λb x hb e=>hk b x (by simpa using hb) e;have W1:rest=[]:=by rw[hr];exact sR (by exact aiu hl)
   cases e:h'.get? I with
   |some o'=>exact h0 W1 (c.nu I o') {s with heap:=h',toks:=tk} aM.oV (R.nu ho xW e) (dZ.heap ..).P
   |none=>exact h0 W1 {c with pin:=λa=>if a=I then ac else c.pin a} {s with heap:=h',toks:=tk} ⟨λ_ _ e=>e,λ_ _=>rfl,λa ha=>if_neg ha⟩ (R.Gl ho xW) (dZ.heap ..).P
 self:=λ{O rest c s} hJ R hA E Q h=>by left;let ⟨⟨i,hi,hr,ru⟩,_⟩:=hJ;right;exact(W A hA.hn).self i s Q E ru h
 Vg:=λ{O rest c s} hJ R cD v E Q h=>by left;let ⟨⟨i,hi,hr,ru⟩,_⟩:=hJ;let ⟨o,ho,hc⟩:=hSt _ _ ru;right;exact rL ho hc hT cD v h
def lb (S:cz) (k:Nat) (O:List AO) (ae:iv) (e:Expr) (ok:List AO->Prop) (xs:List PV):Prop:=
 ∀A c s env,jF k A->cY c ↑O ae env->Rel S c O s.heap->∀(E:VS) (Q:VS),
  (∀(c':aM) (s':bb) (I:Value) (own:Addr->Prop) (J:List PV->aM->bb->Prop),aM.pM own ↑O c c'->(∀a,own a->c.pin a=ac)->Rel S c' O s'.heap->dZ s s'->
   sr S k A own s.gens.size ↑O ok I J->ok O->J xs c' s'->Q I s')->
  wpAny (MM S.w) A (eval e env) (λx eG=>wpAny (MM S.w) A (pyIter x) Q E eG) E s
def Rel.IQ {s:bb} (R:Rel S c O s.heap) (ho:o.isFreed=false):Rel S (c.pinned [(s.heap.objs.size,o)]) O (s.heap.push o):=by have R':Rel S c O (s.heap.push o):=R.ext λb x e=>aJ _ e;exact R'.pinned (λp hp=>by rw[aC]at hp;subst hp;exact(R.free (ab s.heap.objs.size))) λp hp=>by rw[aC]at hp;subst hp;exact aV _ ho
def aM.lF (c:aM) (I:Addr) (o:Obj):(c.pinned [(I,o)]).pin I=aa o:=by show(gP I [(I,o)]).or (c.pin I)=aa o;rw[di,beq_self_eq_true];rfl
def aM.vF:aM.pM (· =I) n c (c.pinned [(I,o)]):=by refine⟨λ_ _ e=>e,λ_ _=>rfl,λa ha=> ?_⟩;show(gP a [(I,o)]).or (c.pin a)=c.pin a;rw[di,beq_false_of_ne ha];rfl
structure LJ (I:Addr) (w:jC) (oR:Nat) (d:AV) (l rest:List PV) (c:aM) (s:bb):Prop where
 here:∃i ax,rest=l.drop i/\s.heap.IsListIter I ax i/\cT w c oR (.ref ax) d
 pin:∃o,c.pin I=aa o
def sr.list {A:cS} {I:Addr} {g oR:Nat} {d:AV} {l:List PV}:sr S k A (· =I) g oR (λO=>IsL O d l) (.ref I) (LJ I S.w oR d l) where
 keep:=λ{m rest c c' O bv s s'} hJ hn wh _ R R'=>by left;let ⟨⟨i,ax,hr,hit,hv⟩,⟨o,ho⟩⟩:=hJ;right;refine⟨⟨i,ax,hr,?_,hv.mono (wh.weak hn) (ab _)⟩,⟨o,by rw[wh.pin];exact ho⟩⟩;have e1:=(R.pins _ _ ho).1;have e2:=(R'.pins I o (by rw[wh.pin];exact ho)).1;let ⟨x,hx,r⟩:=hit;rw[e1]at hx;cases hx;exact⟨_,e2,r⟩
 next:=λ{O rest c s} hJ R hn nc hA E Q h0 h1=>by
  left;let ⟨⟨i,ax,hr,hit,hv⟩,⟨o,ho⟩⟩:=hJ;let ⟨a,vs,m,e,hl,hs,hp⟩:=nc.at R (hv.mono (.refl ..) hn);right;cases e;rcases bS i ↑l with(kX|Ak)
  ·have hx:vs[i]? =aa (vs[i]'(by simp_all)):=by simp[hs,kX]
   refine wpAny_pyNext_list_item hit (IsL.isList hl) hx λh' agb qd=> ?_;let ⟨o',sd,r'⟩:=id agb;refine h1 l[i] (l.drop (i+1)) (by rw[hr];exact gU kX) (c.nu I o') _ {s with heap:=h'} aM.oV (R.nu ho qd.extBut sd) (dZ.gF ..).P ⟨⟨i+1,ax,rfl,agb,?_⟩,⟨o',if_pos rfl⟩⟩ (hp i _ _ hx (by simp[kX]));exact hv.j6 (λ_ _ e=>e) (λ_ _=>rfl) (ab _)
  ·refine wpAny_pyNext_list_end hA.hn hit (IsL.isList hl) (by simp;simp_all) λh' hk=> ?_;have W1:rest=[]:=by rw[hr];exact sR Ak
   cases e:h'.get? I with
   |some o'=>exact h0 W1 (c.nu I o') {s with heap:=h'} aM.oV (R.nu ho hk e) (dZ.gF ..).P
   |none=>exact h0 W1 {c with pin:=λa=>if a=I then ac else c.pin a} {s with heap:=h'} ⟨λ_ _ e=>e,λ_ _=>rfl,λa ha=>if_neg ha⟩ (R.Gl ho hk) (dZ.gF ..).P
 self:=λ{O rest c s} hJ R hA E Q h=>by left;let ⟨⟨i,ax,hr,hit,hv⟩,_⟩:=hJ;right;exact wpAny_pyIter_listiter hit h
 Vg:=λ{O rest c s} hJ R cD v E Q h=>by left;let ⟨⟨i,ax,hr,⟨o,ho,hc,_⟩,hv⟩,_⟩:=hJ;right;exact rL ho hc rfl cD v h
def lb.list (h:Ev S k O ae e d O) (hl:IsL O d l):lb S k O ae e (λO=>IsL O d l) l:=by
 intro A c s env hA hE R E Q hQ;refine h.run A c s env hA hE R _ _ λc1 v1 s1 l1 R1 K1 a1=> ?_;left;let ⟨a,vs,m,rfl,ho,hs,hr⟩:=hl.at R1 a1;right;refine wpAny_pyIter_list (IsL.isList ho) ?_;refine hQ _ _ (.ref s1.heap.objs.size) (· =s1.heap.objs.size) _ (l1.P.trans aM.vF (ab _)) (λa ha=>by subst ha;exact l1.pin▸((R1.free (ab s1.heap.objs.size)).pin)) (R1.IQ rfl) (K1.trans (.gF ..)) sr.list hl
  ⟨⟨0,a,rfl,⟨_,aV _ rfl,rfl,rfl⟩,a1.pinned⟩,⟨_,aM.lF ..⟩⟩
def lb.ofWalks
  (h:∀A c s env,jF k A->cY c ↑O ae env->Rel S c O s.heap->∀(E:VS) (Q:VS),
   (∀(c1:aM) (s1:bb) (o:Obj) (fp:List Addr) (n:Nat) (P:Nat->Value->Prop) (St:Nat->iS->Prop) (T:String),aM.le ↑O c c1->Rel S c1 O s1.heap->dZ s s1->o.isFreed=false->
    (∀A:cS,A.handled=ac->Walks pw S.w A s1.heap.objs.size fp [s1.heap.objs.size] n P St)->(∀i h,St i h->∃o,h.get? s1.heap.objs.size=aa o/\o.cls= .type T)->wG.contains T=false-> ↑xs=n->
    (∀i v,i<n->P i v->∃x,xs[i]? =aa x/\dk S.w c1.F v x)->(∀b∈fp,b=s1.heap.objs.size\/∃x,c1.F b=aa x)->St 0 (s1.heap.push o)->Q (.ref s1.heap.objs.size) {s1 with heap:=s1.heap.push o})->
   wpAny (MM S.w) A (eval e env) (λx eG=>wpAny (MM S.w) A (pyIter x) Q E eG) E s) (nc:ok O):lb S k O ae e ok xs:=by
 intro A c s env hA hE R E Q hQ;refine h A c s env hA hE R E Q λc1 s1 o fp n P St T l1 R1 K1 ho W hSt hT hl hP hfp h0=> ?_;refine hQ _ _ (.ref s1.heap.objs.size) (· =s1.heap.objs.size) _ (l1.P.trans aM.vF (ab _)) (λa ha=>by subst ha;exact l1.pin▸((R1.free (ab s1.heap.objs.size)).pin)) (R1.IQ ho) (K1.trans (.gF ..)) (sr.ofWalks W hSt hT hl hP A) nc ?_;exact⟨⟨0,cI _,rfl,h0⟩,⟨_,aM.lF ..⟩,hfp,λ_ _ e=>e⟩
def lb.tuple (h:nJ S k O ae e (.tup l)) (nc:ok O):lb S k O ae e ok l:=by
 refine lb.ofWalks (λA c s env hA hE R E Q hQ=> ?_) nc;refine h.run A c s env hA hE R _ _ λc1 v1 s1 l1 R1 K1 a1=> ?_;have JX:=a1.gh;let ⟨a,vs,n,rfl,hF,hs,hr⟩:=JX.Ee;have ho:=R1.frozen _ _ hF;have hT:s1.heap.IsTuple a vs:=⟨_,ho,rfl,_,rfl⟩;refine B4 hT ?_;refine hQ c1 s1 _ [s1.heap.objs.size,a] vs.size _ _ "tuple_iterator" l1 R1 K1 rfl (λA' Iu=>u0 Iu _ a (cU (bW ho)) vs) (λi h st=>xe13 (st.1) λo ho hc _=>⟨o,ho,hc⟩) rfl hs.symm ?_ ?_ ?_
 ·intro i v _ hv;have hi:=(iU.mp hv).1;exact⟨l[i]'(by simp_all),aq (by simp_all),hr i v _ hv (aq (by simp_all))⟩
 ·intro b hb;rcases aH.mp hb with(e|hb)
  ·exact .inl e
  ·rw[aC]at hb;subst hb;exact .inr ⟨_,hF⟩
 ·exact⟨⟨_,aV _ rfl,rfl,rfl⟩,hT.push _⟩
noncomputable def yb (x:Str):List PV:=x.cps.toList.map λc=> .str ⟨#[c]⟩
def lb.str (h:nJ S k O ae e (.str x)) (ha:x.cps.all (· <128)=true) (nc:ok O):lb S k O ae e ok (yb x):=by
 refine lb.ofWalks (λA c s env hA hE R E Q hQ=> ?_) nc;refine h.run A c s env hA hE R _ _ λc1 v1 s1 l1 R1 K1 a1=> ?_;have JX:=a1.gh;let ⟨t,rfl⟩:=JX.mG;refine wpAny_pyIter_ascii ha ?_;refine hQ c1 s1 _ [s1.heap.objs.size] x.cps.size _ _ "str_ascii_iterator" l1 R1 K1 rfl (λA' Iu=>Walks.strAscii Iu _ x t) (λi h st=>xe13 (st) λo ho hc _=>⟨o,ho,hc⟩) rfl (by simp[yb]) ?_ ?_ ?_
 ·rintro i v _ ⟨c,u,hc,rfl⟩;exact⟨.str ⟨#[c]⟩,by simp[yb,hc],.str ..⟩
 ·intro b hb;rw[aC]at hb;exact .inl hb
 ·exact⟨_,aV _ rfl,rfl,rfl⟩
def lb.dict (h:nJ S k O ae e (.oO l)) (nc:ok O):lb S k O ae e ok (l.map λp=> .str p.1):=by
 refine lb.ofWalks (λA c s env hA hE R E Q hQ=> ?_) nc;refine h.run A c s env hA hE R _ _ λc1 v1 s1 l1 R1 K1 a1=> ?_;let ⟨a,es,n,kvs,rfl,hm,ho,nd,hp⟩:=S0.val.at R1 a1;have JX:=a1.gh;let ⟨_,_,q,_,hF,_,_,rfl,_⟩:=JX.XR;cases q;have hA:=hp.dictOf ho nd;have hk:=hp.keys;refine wpAny_pyIter_dict hm hA ?_;refine hQ c1 s1 _ [s1.heap.objs.size,a] ↑kvs _ _ "dict_keyiterator" l1 R1 K1 rfl (λA' Iu=>Walks.dictKeys (knd:=strKind pw S.w) Iu _ a (cU (bW ho)) kvs n) (λi h st=>xe13 (st.1) λo ho hc _=>⟨o,ho,hc⟩) rfl (by rw[aw,(by have:=congrArg eX hk;simpa using this: ↑kvs= ↑l)]) ?_ ?_ ?_
 ·rintro i v _ ⟨kk,x,hx,hv⟩;let ⟨t,rfl⟩:=wa hv;have sM:(l.map (·.1))[i]? =aa kk:=by rw[<- hk,bN,hx];rfl
  rw[bN]at sM;simp only[ar]at sM;let ⟨p,W4,rfl⟩:=sM;exact⟨.str p.1,by rw[bN,W4];rfl,.str ..⟩
 ·intro b hb;rcases aH.mp hb with(e|hb)
  ·exact .inl e
  ·rw[aC]at hb;subst hb;exact .inr ⟨_,hF⟩
 ·exact⟨⟨_,aV _ rfl,rfl,rfl⟩,hA.keep λb o e=>aJ _ e⟩
noncomputable def iK (n:Nat):List PV:=(cK n).map λ(i:Nat)=>PV.int (i:Int)
def yS {n:Nat} (h:n<2 ^ 20):Cm 0 n 1=true/\pI 0 n 1=n:=by
 have e:pI 0 n 1=n:=by unfold pI;simp;exact aiv
 refine⟨?_,e⟩;unfold Cm;rw[e];unfold Builtin.Range.rangeFitsLong;simp;exact aiw h
def lb.range {n:Nat} (hf:nJ S k O ae (.Name f np) (.con (.type "range"))) (h:nJ S k O ae x (.int n)) (hn:n<2 ^ 20) (hs:notStar x=true) (nc:ok O):
  lb S k O ae (.Call (.Name f np) [x] [] pos) ok (iK n):=by
 refine lb.ofWalks (λA c s env hA hE R E Q hQ=> ?_) nc;have hv:nr S k O (.type "range") [.pv (.int n)] (.pv (.con .none)) O->True:=λ_=>trivial;have ha:ck S k O ae [x] [.pv (.int n)]:= .cons h .nil hs;refine cn (hf.run A c s env hA hE R _ _ λc1 v1 s1 l1 R1 K1 a1=> ?_);have e:=a1.dn;subst e;refine ed (noStar ha pos env) ?_;refine eg ha _ pos A c1 s1 env hA (hE.mono l1 (ab _)) R1 _ _ λc2 vs s2 l2 R2 K2 a2=> ?_;have h9:=a2.i1;clear a2;let ⟨_,_,rfl,a2,b2⟩:=h9;obtain rfl:=b2.i0;have DX:=a2.gh;let ⟨t,rfl⟩:=DX.kQ;refine call_range_1 ?_;let ⟨hsm,hsz⟩:=yS hn;refine wpAny_pyIter_range (a:=0) (b:=n) (c:=1) (t:=s2.toks) (u:=t) (v:=s2.toks+1) (aV _ rfl) hsm ?_;rw[hsz];have R3:Rel S c2 O (s2.heap.push {cls:= .type "range",data:= .fields #[.int 0 s2.toks,.int n t,.int 1 (s2.toks+1)]}):=R2.ext λb o e=>aJ _ e;refine hQ c2 {s2 with heap:=s2.heap.push {cls:= .type "range",data:= .fields #[.int 0 s2.toks,.int n t,.int 1 (s2.toks+1)]},toks:=s2.toks+1+1} _ [_] n _ _ "range_iterator" (l1.trans l2 (ab _)) R3 ((K1.trans K2).trans (.heap ..)) rfl
  (λA' Iu=>Walks.range Iu _ 0 1 n) (λi h st=>⟨_,st,rfl⟩) rfl (by simp[iK]) ?_ ?_ ?_
 ·rintro i v hi ⟨t',rfl⟩;exact⟨.int i,by simp[iK,hi],by rw[show(0:Int)+(i:Int)*1=i by exact aaR];exact .int ..⟩
 ·intro b hb;rw[aC]at hb;exact .inl hb
 ·show IsRangeIter _ _ (0+((0:Nat):Int)*1) ((n:Int)- ((0:Nat):Int)) 1;rw[show(0:Int)+((0:Nat):Int)*1=0 by omega,show(n:Int)- ((0:Nat):Int)=n by exact aix];exact aV _ rfl
def dg.ofItems {vs:Vs}:∀ {ds:List PV},↑vs= ↑ds->(∀(i:Nat) (v:Value) (d:PV),vs[i]? =aa v->ds[i]? =aa d->dk w c.F v d)->dg w c n vs (ds.map AV.pv):=by
 induction vs with
 |nil=>
  intro ds h _;induction ds with
  |nil=>exact .nil
  |cons=>cases h
 |cons v vs ih=>
  intro ds h hr;induction ds with
  |nil=>cases h
  |cons d ds=>exact .cons (.pv (hr 0 v d rfl rfl)) (ih (lZ h) λi=>hr (i+1))
inductive AR (S:cz) (k:Nat) (ae:iv):List AO->List Expr->List PV->List AO->Prop
 |nil {O:List AO}:AR S k ae O [] [] O
 |cons {O bA bP:List AO} {t:Expr} {rest:List Expr} {d:PV} {ds:List PV}:C5 S k O ae t (.pv d) bA->AR S k ae bA rest ds bP->notStar t=true->AR S k ae O (t::rest) (d::ds) bP
def AR.len (h:AR S k ae O ts ds bv): ↑O<= ↑bv:=by
 induction h with
 |nil=>exact ab _
 |cons h _ _ ih=>exact aA h.len ih
def lw (h:notStar e=true):assignEach (e::rest) env=(false,assign e env)::assignEach rest env:=by cases e<;>first|rfl|cases h
def AR.shape (h:AR S k ae O ts ds bv) (env:lY): ↑(assignEach ts env)= ↑ds/\(assignEach ts env).findIdx? (·.1)=ac:=by
 induction h with
 |nil=>exact⟨rfl,rfl⟩
 |cons _ _ hn ih=>rw[lw hn];refine⟨by rw[az,az,ih.1],?_⟩;rw[OG];simp[ih.2]
def AR.run (h:AR S k ae O ts ds bv):∀(A:cS) (c:aM) (s:bb) (env:lY) (vs:Vs),jF k A->cY c ↑O ae env->Rel S c O s.heap->dg S.w c ↑O vs (ds.map AV.pv)->
  ∀(E:VS) (Q:Unit->bb->Prop),(∀c' s',aM.le ↑O c c'->Rel S c' bv s'.heap->dZ s s'->Q () s')->wpAny (MM S.w) A (assignInOrder ((assignEach ts env).map (·.2)) vs) Q E s:=by
 induction h with
 |nil=>intro A c s env vs hA hE R hv E Q hQ;obtain rfl:=hv.i0;exact aR (hQ c s (.refl ..) R (.refl ..))
 |cons h1 h2 hn ih=>intro A c s env vs hA hE R hv E Q hQ;let ⟨_,_,rfl,a,b⟩:=hv.i1;rw[lw hn];refine am (dH (h1.run A c s env _ hA hE R a _ _ λc1 s1 l1 R1 K1=> ?_));exact ih A c1 s1 env _ hA (hE.mono l1 h1.len) R1 (b.mono l1 h1.len) E Q λc2 s2 l2 R2 K2=>hQ c2 s2 (l1.trans l2 h1.len) R2 (K1.trans K2)
def C5.tup (h:AR S k ae O ts ds bv):C5 S k O ae (.Tuple ts n pos) (.pv (.tup ds)) bv:=by refine⟨h.len,λA c s env v hA hE R hv E Q hQ=> ?_⟩;have vZ:=hv.gh;obtain(⟨_,_,_,rfl,hF,hs,hr⟩):=vZ.Ee;obtain(⟨e1,e2⟩):=h.shape env;refine B5 hA.hn ⟨_,R.frozen _ _ hF,rfl,_,rfl⟩ (by rw[e1,hs]) e2 λh' hk=> ?_;have R':Rel S c O h':=R.ext λb o e=>hk b o (cU (bW e)) e;refine h.run A c {s with heap:=h'} env _ hA hE R' ?_ E Q λc1 s1 l1 R1 K1=>hQ c1 s1 l1 R1 ((dZ.gF ..).trans K1);exact dg.ofItems (by rw[bx];exact hs) (dk.TP hr)
def cY.ph {own:Addr->Prop} {c c':aM} {n n':Nat} {ae:iv} {env:lY} (h:cY c n ae env) (hc:aM.pM own n c c') (hn:n<=n'):cY c' n' ae env where
 scope:=h.scope
 kind:=h.kind
 locals:=h.locals.trans (hc.Z _ h.fi).symm
 fi:=a8 h.fi hn
 globals:=h.globals
 builtins:=h.builtins
 cells:=h.cells.trans (cj λp hp=>by rw[hc.Z _ (h.jq p hp)])
 jq:=λp hp=>a8 (h.jq p hp) hn
 code:=h.code
 frame:=h.frame
def sH.gN (h:sH w c n f g):sH w (c.gN c₀) n f g:=by
 induction h with
 |next=>exact .next
 |brk=>exact .brk
 |cont=>exact .cont
 |ret h=>exact .ret h.gN
def aM.pM.Gm {own:Addr->Prop} (h:aM.pM own n c c') (ho:∀a,own a->c.pin a=ac):(∀a o,c.pin a=aa o->c'.pin a=aa o)/\aM.le n c (c'.gN c):=
 ⟨λa o e=>by rw[h.pin a λh=>by rw[ho a h]at e;cases e];exact e,⟨h.F,h.Z,rfl⟩⟩
inductive S1 (S:cz) (k:Nat) (ae:iv) (cD:Expr) (body:List Stmt):List AO->List PV->nW->List AO->Prop
 |nil {O:List AO}:S1 S k ae cD body O [] .next O
 |cons {O bA bP ro:List AO} {x:PV} {rest:List PV} {f:nW}:C5 S k O ae cD (.pv x) bA->cG S k bA ae body .next bP->S1 S k ae cD body bP rest f ro->S1 S k ae cD body O (x::rest) f ro
 |ret {O bA bP:List AO} {x:PV} {rest:List PV} {d:AV}:C5 S k O ae cD (.pv x) bA->cG S k bA ae body (.ret d) bP->S1 S k ae cD body O (x::rest) (.ret d) bP
def S1.len (h:S1 S k ae cD body O xs f bv): ↑O<= ↑bv:=by
 induction h with
 |nil=>exact ab _
 |cons a b _ ih=>exact aA (aA a.len b.len) ih
 |ret a b=>exact aA a.len b.len
def S1.run (h:S1 S k ae cD body O xs f bv):∀ {own:Addr->Prop} {g oR:Nat} {I:Value} {J:List PV->aM->bb->Prop}
  (A:cS) (c:aM) (s:bb) (env:lY),sr S k A own g oR (λ_=>True) I J->J xs c s->oR<= ↑O->jF k A->cY c ↑O ae env->Rel S c O s.heap->
  ∀(Q:B8->bb->Prop),(∀c' v s',aM.pM own ↑O c c'->Rel S c' bv s'.heap->lE g s s'->sH S.w c' ↑bv v f->Q v s')->
   codeAny (MM S.w) A (.forLoop cD I body [] env) (λr s'=>match r with| .ok f=>Q f s'| .error e=>False) s:=by
 induction h with
 |nil=>intro own g oR I J A c s env P hJ hn hA hE R Q hQ;refine fb ?_;rw[cy (by rfl)];show wpAny _ A ((forTurn _ _ _ _ env).onRaise (λx=>do noteFrame x env;theTreesLotGoes x)) _ _ s;refine jB ?_;simp only[forTurn];refine am (cV (am (kE (P.next hJ R hn trivial hA _ _ (λ_ c1 s1 l1 R1 K1=> ?_) λx r e=>by nomatch e))));exact aR ⟨rfl,Al (jz (hQ c1 .next s1 l1 R1 K1 .next))⟩
 | @cons O bA bP ro x rest f h1 h2 h3 ih=>
  intro own g oR I J A c s env P hJ hn hA hE R Q hQ;refine fb ?_;rw[cy (by rfl)];show wpAny _ A ((forTurn _ _ _ _ env).onRaise (λx=>do noteFrame x env;theTreesLotGoes x)) _ _ s;refine jB ?_;simp only[forTurn];refine am (cV (am (kE (P.next hJ R hn trivial hA _ _ (λe=>by nomatch e) λy r e c1 v s1 l1 R1 K1 J1 a1=> ?_))));injection e with e1 e2;subst e1 e2;refine am (P.Vg J1 R1 cD v _ _ ?_);have rv:=hE.ph l1 (ab _);refine am (h1.run A c1 s1 env v hA rv R1 (.pv a1) _ _ λc2 s2 l2 R2 K2=> ?_);have HU:=rv.mono l2 h1.len;refine am (h2.run A c2 s2 env hA HU R2 _ _ λc3 v3 s3 l3 R3 K3 f3=> ?_);obtain rfl:=f3.wz;have Fx:=l2.trans l3 h1.len;refine aR ⟨rfl,?_⟩;have cH: ↑O<= ↑bP:=aA h1.len h2.len;exact ih A c3 s3 env P (P.keep J1 hn Fx (K2.trans K3) R1 R3) (aA hn cH) hA (rv.mono Fx cH) R3 Q λc4 v4 s4 l4 R4 K4 f4=>
   hQ c4 v4 s4 ((l1.trans Fx.P (ab _)).trans l4 cH) R4 ((K1.trans (K2.trans K3).P).trans K4) f4
 | @ret O bA bP x rest d h1 h2=>intro own g oR I J A c s env P hJ hn hA hE R Q hQ;refine fb ?_;rw[cy (by rfl)];show wpAny _ A ((forTurn _ _ _ _ env).onRaise (λx=>do noteFrame x env;theTreesLotGoes x)) _ _ s;refine jB ?_;simp only[forTurn];refine am (cV (am (kE (P.next hJ R hn trivial hA _ _ (λe=>by nomatch e) λy r e c1 v s1 l1 R1 K1 J1 a1=> ?_))));injection e with e1 e2;subst e1 e2;refine am (P.Vg J1 R1 cD v _ _ ?_);have rv:=hE.ph l1 (ab _);refine am (h1.run A c1 s1 env v hA rv R1 (.pv a1) _ _ λc2 s2 l2 R2 K2=> ?_);have HU:=rv.mono l2 h1.len;refine am (h2.run A c2 s2 env hA HU R2 _ _ λc3 v3 s3 l3 R3 K3 f3=> ?_);have h9:=f3.Mp;clear f3;let ⟨_,rfl,f3⟩:=h9;exact aR (hQ c3 _ s3 (l1.trans (l2.trans l3 h1.len).P (ab _)) R3 (K1.trans (K2.trans K3).P) (.ret f3))
def i6.T3 (hi:lb S k O ae kB (λ_=>True) xs) (hl:S1 S k ae cD body O xs f bv) (hs:∀env x,foldedSetIterable kB env x=pure x):
  i6 S k O ae (.For cD kB body [] pos) f bv:=by
 refine⟨hl.len,λA c s env hA hE R E Q hQ=> ?_⟩;refine Ox (hi A c s env hA hE R _ _ λc1 s1 I own J l1 ho R1 K1 P _ J1=> ?_) (hs env);refine v9 (hl.run A c1 s1 env P J1 (ab _) hA (hE.ph l1 (ab _)) R1 Q λc2 v2 s2 l2 R2 K2 f2=> ?_) (λr s' x=>by induction r with|ok f=>exact x|error e=>exact x.elim);let ⟨u1,u2⟩:=(l1.trans l2 (ab _)).Gm ho;exact hQ _ v2 s2 u2 (R2.gN u1) (lE.K (K1.P.trans K2)) f2.gN
noncomputable def zU (IA:List Expr) (env:lY):zK Bool:=forIn IA true λc r=>if r=true then do let ok <- isTrue c env (eval c env);pure (Mj ok) else pure (Mj r)
def qR (e:Expr) (gens:List dI) (emit:Value->lY->zK Unit):Prop:=
 ∀(w:jC) (A:cS) (E:VS) (Q:Fin->bb->Prop) (s:bb) (d:Nat) (it dA:Value) (env:lY) (g:dI),gens[d]? =aa g->g.is_async=0->
  (∀g',gens[d+1]? =aa g'->g'.is_async=0/\∀x,foldedSetIterable g'.iter env x=pure x)->
  wpAny (MM w) A (pyNext it) (λr eG=>match r with
   |none=>Q (.done .next) eG
   |some v=>wpAny (MM w) A (letOwnedTupleGo g.target it v) (λ_ rn=>wpAny (MM w) A (assign g.target env v) (λ_ agc=>wpAny (MM w) A (zU g.ifs env) (λok Vl=>
     if ok=true then(match gens[d+1]? with
      |some g'=>wpAny (MM w) A (eval g'.iter env) (λx RX=>wpAny (MM w) A (pyIter x) (λI agd=>codeAny (MM w) A (.compStart e (d+1) I dA env) (λr age=>match r with
        | .ok _=>Q (.again (.compLoop e d it dA env)) age
        | .error _=>False) agd) E RX) E Vl
      |none=>wpAny (MM w) A (emit dA env) (λ_ RX=>Q (.again (.compLoop e d it dA env)) RX) E Vl)
     else Q (.again (.compLoop e d it dA env)) Vl) E agc) E rn) E eG) E s->
  wpAny (MM w) A (compTurn e d it dA env) Q E s
noncomputable def Dd (FW:Expr) (dA:Value) (env:lY):zK Unit:=do let x <- eval FW env;let _ <- call (.builtin "list.append") [dA,x];pure ()
noncomputable def Gn (kx vx:Expr) (dA:Value) (env:lY):zK Unit:=do
 let kv <- eval kx env;let vv <- holding [kv] (eval vx env)
 match dA with
 | .ref d=>do
  standAt {kx.pos with endLine:=vx.pos.endLine,endCol:=vx.pos.endCol}
  holding [kv,vv] (dictSet d kv vv)
 |_=>unsupported "internal:dictcomp"
def Gp {emit:Value->lY->zK Unit} (he:(∃FW scope pos,e=Expr.ListComp FW gens scope pos/\emit=Dd FW)\/
  ∃kx vx scope pos,e=Expr.DictComp kx vx gens scope pos/\emit=Gn kx vx):qR e gens emit:=by
 intro w A E Q s d it dA env g hg ha hn h;let ⟨t,it0,fs,as⟩:=g;obtain rfl:as=0:=ha;unfold compTurn;generalize hM:compTurn.match_3 _ e _ _ _ _ _=M;obtain rfl:M=(gens,emit dA env):=by rw[<- hM];rcases he with⟨_,_,_,rfl,rfl⟩|⟨_,_,_,_,rfl,rfl⟩<;>rfl
 clear hM;clear he;dsimp only;generalize gens[d]? =o at hg⊢;subst hg;refine am (cV ?_);refine am (fZ h (λr eG HV=> ?_) λ_ _ x=>x);induction r with
 |none=>exact aR HV
 |some v=>
  refine am (fZ HV (λ_ rn HW=> ?_) λ_ _ x=>x);refine am (fZ HW (λ_ agc ajA=> ?_) λ_ _ x=>x);refine am (fZ ajA (λok Vl RY=> ?_) λ_ _ x=>x);induction ok with
  |false=>exact aR RY
  |true=>
   cases wi:gens[d+1]? with
   |none=>rw[wi]at RY;exact am (fZ RY (λ_ RX Zo=>aR Zo) λ_ _ x=>x)
   |some g'=>
    rw[wi]at RY;let ⟨ha',qd⟩:=hn g' wi;let ⟨t',it1,fs',as'⟩:=g';obtain rfl:as'=0:=ha';refine am (fZ RY (λx RX Zo=> ?_) λ_ _ x=>x);refine am (cV ?_);refine am (i5 (qd x) ?_);refine am (dH (fZ Zo (λI agd ajC=> ?_) λ_ _ x=>x));refine am (wpAny_runOwn (v9 ajC λr age agf=> ?_));induction r with
    |ok f=>exact aR agf
    |error e=>exact agf.elim
def De (FW:Expr) (gens:List dI) (scope:Scope) (pos:Pos):qR (.ListComp FW gens scope pos) gens (Dd FW):=Gp (.inl ⟨FW,scope,pos,rfl,rfl⟩)
def MC (kx vx:Expr) (gens:List dI) (scope:Scope) (pos:Pos):qR (.DictComp kx vx gens scope pos) gens (Gn kx vx):=Gp (.inr ⟨kx,vx,scope,pos,rfl,rfl⟩)
inductive mi:Expr->List dI->Prop
 |list (FW:Expr) (gens:List dI) (scope:Scope) (pos:Pos):mi (.ListComp FW gens scope pos) gens
 |dict (kx vx:Expr) (gens:List dI) (scope:Scope) (pos:Pos):mi (.DictComp kx vx gens scope pos) gens
def mi.Ld (h:mi e gens):clausesOf e=gens:=by cases h<;>rfl
def mi.loop (h:mi e gens)
  (hc:wpAny (MM w) A (compTurn e d it dA env) (λfin s'=>match fin with| .done f=>R (.ok f) s'| .again c'=>c'.quiet=true/\codeAny (MM w) A c' R s') (λ_ _=>False) s):
  codeAny (MM w) A (.compLoop e d it dA env) R s:=by
 have key:wpAny (MM w) A ((compTurn e d it dA env).onRaise (λx=>do noteFrame x env;theTreesLotGoes x)) (λfin s'=>match fin with| .done f=>R (.ok f) s'| .again c'=>c'.quiet=true/\codeAny (MM w) A c' R s') (λe s'=>R (.error e) s') s:=
  jB (fZ hc (λ_ _ x=>x) λ_ _ f=>f.elim)
 refine fb ?_;induction h with
 |list=>rw[cy (by rfl)];exact key
 |dict=>rw[cy (by rfl)];exact key
def mi.start (h:mi e gens) (hg:∀g∈gens,g.is_async=0)
  (h0:codeAny (MM w) A (.compLoop e d it dA env) R s) (h1:∀(E:VS) (Q:VS),Q it s->wpAny (MM w) A (pyIter it) Q E s):codeAny (MM w) A (.compStart e d it dA env) R s:=by
 have hq:(Code.compLoop e d it dA env).quiet=true:=by cases h<;>rfl
 have RZ:((clausesOf e)[d]?).elim false (λg=>g.is_async !=0)=false:=by
  rw[h.Ld];cases e:gens[d]? with
  |none=>rfl
  |some g=>show(g.is_async !=0)=false;rw[hg g (bo e)];rfl
 have key:wpAny (MM w) A ((compStart e d it dA env).onRaise (λx=>do noteFrame x env;standAt theWindowsPlace)) (λfin s'=>match fin with| .done f=>R (.ok f) s'| .again c'=>c'.quiet=true/\codeAny (MM w) A c' R s') (λe s'=>R (.error e) s') s:=by
  refine wpAny_notedAt ?_;unfold compStart;rw[RZ];show wpAny _ _ (ask >>= _) _ _ s;refine am (wpAny_askSetting (wpAny_ite ?_));split
  ·first
    |exact am (aR (aR (VL hq h0)))
    |exact aR (VL hq h0)
  ·refine am (Ki ?_);have fin:wpAny (MM w) A (pyIter it >>= λit'=>(pure (Fin.again (.compLoop e d it' dA env)):zK Fin)) (λfin s'=>match fin with| .done f=>R (.ok f) s'| .again c'=>c'.quiet=true/\codeAny (MM w) A c' R s') (notedBy (MM w) A env λe s'=>R (.error e) s') s:=
    am (h1 _ _ (aR ⟨hq,h0⟩))
   cases hd:(clausesOf e)[d]? with
   |none=>exact fin
   |some g=>exact am (cV fin)
 refine fb ?_;induction h with
 |list=>rw[cy (by rfl)];exact key
 |dict=>rw[cy (by rfl)];exact key
def pj (S:cz) (k:Nat) (O:List AO) (ae:iv) (IA:List Expr) (b:Bool):Prop:=
 ∀A c s env,jF k A->cY c ↑O ae env->Rel S c O s.heap->
  ∀(E:VS) (Q:Bool->bb->Prop),(∀c' s',aM.le ↑O c c'->Rel S c' O s'.heap->dZ s s'->Q b s')->wpAny (MM S.w) A (zU IA env) Q E s
def pj.nil:pj S k O ae [] true:=λA c s env _ _ R E Q hQ=>by unfold zU;rw[qA];exact aR (hQ c s (.refl ..) R (.refl ..))
def pj.one (h:nX S k O ae t b):pj S k O ae [t] b:=λA c s env hA hE R E Q hQ=>by unfold zU;rw[ug,if_pos rfl];refine am (am (h A c s env hA hE R _ _ λc1 s1 l1 R1 K1=>aR ?_));show wpAny _ _ (forIn [] b _) _ _ _;rw[qA];exact aR (hQ c1 s1 l1 R1 K1)
def vG (S:cz) (k:Nat) (ae:iv) (emit:Value->lY->zK Unit) (ai:Nat) (O bv:List AO):Prop:=
 ↑O<= ↑bv/\∀A c s env dA,jF k A->cY c ↑O ae env->Rel S c O s.heap->cT S.w c ↑O dA (.fM ai)->
  ∀(E:VS) (Q:Unit->bb->Prop),(∀c' s',aM.le ↑O c c'->Rel S c' bv s'.heap->dZ s s'->Q () s')->wpAny (MM S.w) A (emit dA env) Q E s
inductive Gq (S:cz) (k:Nat) (ae:iv) (gens:List dI) (em:List AO->List AO->Prop):Nat->(List AO->Prop)->List AO->List PV->List AO->Prop
 |nil {d:Nat} {ok:List AO->Prop} {O:List AO}:ok O->Gq S k ae gens em d ok O [] O
 |skip {d:Nat} {ok:List AO->Prop} {O bA bP:List AO} {x:PV} {rest:List PV} {g:dI}:gens[d]? =aa g->ok O->C5 S k O ae g.target (.pv x) bA->pj S k bA ae g.ifs false->
   Gq S k ae gens em d ok bA rest bP->Gq S k ae gens em d ok O (x::rest) bP
 |emit {d:Nat} {ok:List AO->Prop} {O bA bP ro:List AO} {x:PV} {rest:List PV} {g:dI}:gens[d]? =aa g->gens[d+1]? =ac->ok O->C5 S k O ae g.target (.pv x) bA->pj S k bA ae g.ifs true->
   em bA bP->Gq S k ae gens em d ok bP rest ro->Gq S k ae gens em d ok O (x::rest) ro
 |inner {d:Nat} {ok ok':List AO->Prop} {O bA bP ro:List AO} {x:PV} {rest xs:List PV} {g g':dI}:gens[d]? =aa g->gens[d+1]? =aa g'->ok O->C5 S k O ae g.target (.pv x) bA->pj S k bA ae g.ifs true->
   lb S k bA ae g'.iter ok' xs->Gq S k ae gens em (d+1) ok' bA xs bP->Gq S k ae gens em d ok bP rest ro->Gq S k ae gens em d ok O (x::rest) ro
def Gq.len (hem:∀a b,em a b-> ↑a<= ↑b) (h:Gq S k ae gens em d ok O xs bv): ↑O<= ↑bv:=by
 induction h with
 |nil=>exact ab _
 |skip _ _ a _ _ ih=>exact aA a.len ih
 |emit _ _ _ a _ e _ ih=>exact aA (aA a.len (hem _ _ e)) ih
 |inner _ _ _ a _ _ _ _ ih1 ih2=>exact aA (aA a.len ih1) ih2
def cT.MD (h:cT w c n v d) (hc:aM.pM own n c c') (hn:n<=n'):cT w c' n' v d:=h.j6 hc.F hc.Z hn
def Gq.run {emit:Value->lY->zK Unit} (he:mi e gens) (zl:qR e gens emit) (hg:∀g∈gens,g.is_async=0) (hf:∀g∈gens,∀env x,foldedSetIterable g.iter env x=pure x)
  (h:Gq S k ae gens (vG S k ae emit ai) d ok O xs bv):(gens[d]?).isSome->∀ {own:Addr->Prop} {v7 oR:Nat} {I:Value} {J:List PV->aM->bb->Prop}
  (A:cS) (c:aM) (s:bb) (env:lY) (dA:Value),sr S k A own v7 oR ok I J->J xs c s->oR<= ↑O->jF k A->cY c ↑O ae env->Rel S c O s.heap->cT S.w c ↑O dA (.fM ai)->
  ∀(Q:bb->Prop),(∀c' s',aM.pM own ↑O c c'->Rel S c' bv s'.heap->lE v7 s s'->Q s')->
   codeAny (MM S.w) A (.compLoop e d I dA env) (λr s'=>match r with| .ok f=>Q s'| .error e=>False) s:=by
 have vt:∀d env g',gens[d+1]? =aa g'->g'.is_async=0/\∀x,foldedSetIterable g'.iter env x=pure x:=λd env g' e=>⟨hg _ (bo e),hf _ (bo e) env⟩;have hqu:∀d I dA env,(Code.compLoop e d I dA env).quiet=true:=λd I dA env=>by cases he<;>rfl
 induction h with
 | @nil d ok O nc=>intro hd own v7 oR I J A c s env dA P hJ hn hA hE R ha Q hQ;let ⟨g,hd⟩:=jk.mp hd;refine he.loop (zl _ _ _ _ _ _ _ _ _ _ hd (hg _ (bo hd)) (vt d env) ?_);exact P.next hJ R hn nc hA _ _ (λ_ c1 s1 l1 R1 K1=>hQ c1 s1 l1 R1 K1) λx r e=>by nomatch e
 | @skip d ok O bA bP x rest g hd nc h1 h2 h3 ih=>intro Aj own v7 oR I J A c s env dA P hJ hn hA hE R ha Q hQ;refine he.loop (zl _ _ _ _ _ _ _ _ _ _ hd (hg _ (bo hd)) (vt d env) ?_);refine P.next hJ R hn nc hA _ _ (λe=>by nomatch e) λy r e c1 v s1 l1 R1 K1 J1 a1=> ?_;injection e with e1 e2;subst e1 e2;have rv:=hE.ph l1 (ab _);refine P.Vg J1 R1 g.target v _ _ (h1.run A c1 s1 env v hA rv R1 (.pv a1) _ _ λc2 s2 l2 R2 K2=> ?_);have HU:=rv.mono l2 h1.len;refine h2 A c2 s2 env hA HU R2 _ _ λc3 s3 l3 R3 K3=> ?_;have Fx:=l2.trans l3 h1.len;rw[if_neg bG];refine⟨hqu ..,ih Aj A c3 s3 env dA P (P.keep J1 hn Fx (K2.trans K3) R1 R3) (aA hn h1.len) hA (rv.mono Fx h1.len) R3 ((ha.MD l1 (ab _)).mono Fx h1.len) Q λc4 s4 l4 R4 K4=> ?_⟩;exact hQ c4 s4 ((l1.trans Fx.P (ab _)).trans l4 h1.len) R4 ((K1.trans (K2.trans K3).P).trans K4)
 | @emit d ok O bA bP ro x rest g hd hnx nc h1 h2 h3 h4 ih=>intro Aj own v7 oR I J A c s env dA P hJ hn hA hE R ha Q hQ;refine he.loop (zl _ _ _ _ _ _ _ _ _ _ hd (hg _ (bo hd)) (vt d env) ?_);refine P.next hJ R hn nc hA _ _ (λe=>by nomatch e) λy r e c1 v s1 l1 R1 K1 J1 a1=> ?_;injection e with e1 e2;subst e1 e2;have rv:=hE.ph l1 (ab _);refine P.Vg J1 R1 g.target v _ _ (h1.run A c1 s1 env v hA rv R1 (.pv a1) _ _ λc2 s2 l2 R2 K2=> ?_);have HU:=rv.mono l2 h1.len;refine h2 A c2 s2 env hA HU R2 _ _ λc3 s3 l3 R3 K3=> ?_;have Fx:=l2.trans l3 h1.len;rw[if_pos rfl,hnx];have Zp:=rv.mono Fx h1.len;have ha3:=(ha.MD l1 (ab _)).mono Fx h1.len;refine h3.2 A c3 s3 env dA hA Zp R3 ha3 _ _ λc4 s4 l4 R4 K4=> ?_;have CP:=aA h1.len h3.1;have Vm:=Fx.trans l4 h1.len;have J4:=P.keep J1 hn Vm ((K2.trans K3).trans K4) R1 R4;refine⟨hqu ..,ih Aj A c4 s4 env dA P J4 (aA hn CP) hA (rv.mono Vm CP) R4 ((ha.MD l1 (ab _)).mono Vm CP) Q λc5 s5 l5 R5 K5=> ?_⟩;exact hQ c5 s5 ((l1.trans Vm.P (ab _)).trans l5 CP) R5 ((K1.trans ((K2.trans K3).trans K4).P).trans K5)
 | @inner d ok ok' O bA bP ro x rest ys g g' hd hnx nc h1 h2 h3 h4 h5 ih1 ih2=>intro Aj own v7 oR I J A c s env dA P hJ hn hA hE R ha Q hQ;refine he.loop (zl _ _ _ _ _ _ _ _ _ _ hd (hg _ (bo hd)) (vt d env) ?_);refine P.next hJ R hn nc hA _ _ (λe=>by nomatch e) λy r e c1 v s1 l1 R1 K1 J1 a1=> ?_;injection e with e1 e2;subst e1 e2;have rv:=hE.ph l1 (ab _);refine P.Vg J1 R1 g.target v _ _ (h1.run A c1 s1 env v hA rv R1 (.pv a1) _ _ λc2 s2 l2 R2 K2=> ?_);refine h2 A c2 s2 env hA (rv.mono l2 h1.len) R2 _ _ λc3 s3 l3 R3 K3=> ?_;have Fx:=l2.trans l3 h1.len;rw[if_pos rfl,hnx];have Zp:=rv.mono Fx h1.len;refine h3 A c3 s3 env hA Zp R3 _ _ λc4 s4 I' Az J' l4 ho R4 K4 P' ank J4=> ?_;refine he.start hg (v9 (ih1 (by rw[hnx];rfl) A c4 s4 env dA P' J4 (ab _) hA (Zp.ph l4 (ab _)) R4 (((ha.MD l1 (ab _)).mono Fx h1.len).MD l4 (ab _)) _ λc5 s5 l5 R5 K5=> ?_) λr s' x=>x) λE Q hq=>P'.self J4 R4 hA E Q hq;let ⟨u1,u2⟩:=(l4.trans l5 (ab _)).Gm ho;have R6:=R5.gN u1;have K5':dZ s3 s5:=lE.K (K4.P.trans K5);have CP:=aA h1.len ((λ{d:Nat} {ok:List AO->Prop} {O bv:List AO} {xs:List PV} (h:Gq S k ae gens (vG S k ae emit ai) d ok O xs bv)=>h.len (λa b h=>h.1)) h4);have Vn:=Fx.trans u2 h1.len;refine⟨hqu ..,ih2 Aj A _ s5 env dA P (P.keep J1 hn Vn ((K2.trans K3).trans K5') R1 R6) (aA hn CP) hA (rv.mono Vn CP) R6 ((ha.MD l1 (ab _)).mono Vn CP) Q λc7 s7 l7 R7 K7=> ?_⟩;exact hQ c7 s7 ((l1.trans Vn.P (ab _)).trans l7 CP) R7 ((K1.trans ((K2.trans K3).trans K5').P).trans K7)
noncomputable def j9 {α:Type} (cells:List (Str×α)):List (Str×qh)->List (Str×α)->Option (List (Str×α))
 | [],dA=>aa dA
 |p::r,dA=>if p.2== .free then(cells.lookup p.1).bind λa=>j9 cells r ((p.1,a)::dA) else j9 cells r dA
def pk:j9 cells (p::r) dA=if p.2== .free then(cells.lookup p.1).bind λa=>j9 cells r ((p.1,a)::dA) else j9 cells r dA:=rfl
def mU (h:j9 env.cells scope.names []=aa cl):closureFor scope env=pure cl:=by
 have key:∀(names:List (Str×qh)) (dA:List (Str×Addr)) (f:Str×qh->List (Str×Addr)->zK (ForInStep (List (Str×Addr)))),
   (∀n k cs,f (n,k) cs=if k== .free then(do let a <- cellOf env n;pure (.yield ((n,a)::cs))) else pure (.yield cs))->∀r,j9 env.cells names dA=aa r->forIn names dA f=(pure r:zK _):=by
  intro names;induction names with
  |nil=>intro dA f hf r h;obtain rfl:=ag h;rfl
  |cons p names ih=>
   let ⟨n,k⟩:=p;intro dA f hf r h;rw[pk]at h;rw[ug,hf];cases hk:k==SJ with
   |true=>
    rw[hk,if_pos rfl]at h;cases hl:env.cells.lookup n with
    |none=>rw[hl]at h;nomatch h
    |some a=>rw[hl]at h;rw[if_pos rfl,(by unfold cellOf;rw[hl]:cellOf env n=pure a)];exact ih _ f hf r h
   |false=>rw[hk,if_neg bG]at h;rw[if_neg bG];exact ih _ f hf r h
 simp only[closureFor];rw[key scope.names [] _ (λn k cs=>by cases hk:k==SJ<;>simp[hk]) cl h];rfl
def XZ (f:α->β) (cells:List (Str×α)):(cells.map λp=>(p.1,f p.2)).lookup n=(cells.lookup n).map f:=by
 induction cells with
 |nil=>rfl
 |cons p l ih=>rw[bw,di,di,ih];cases n==p.1<;>rfl
def qS (f:α->β) (cells:List (Str×α)) (names:List (Str×qh)):∀(dA r:List (Str×α)),j9 cells names dA=aa r->
  j9 (cells.map λp=>(p.1,f p.2)) names (dA.map λp=>(p.1,f p.2))=aa (r.map λp=>(p.1,f p.2)):=by
 induction names with
 |nil=>intro dA r h;exact ag h▸rfl
 |cons q names ih=>
  intro dA r h;rw[pk]at h⊢;by_cases e:(q.2== .free)=true
  ·rw[if_pos e]at h;rw[if_pos e,XZ];exact a9 h λa hl h=>by rw[hl];exact ih _ r h
  ·rw[if_neg e]at h;rw[if_neg e];exact ih _ r h
def te (hc:∀p∈cells,p.2<n) (names:List (Str×qh)):∀(dA r:Sn),(∀p∈dA,p.2<n)->j9 cells names dA=aa r->∀p∈r,p.2<n:=by
 induction names with
 |nil=>intro dA r ha h;exact ag h▸ha
 |cons q names ih=>
  intro dA r ha h;rw[pk]at h;by_cases e:(q.2== .free)=true
  ·rw[if_pos e]at h;refine a9 h λa hl h=>ih _ r (λp hp=> ?_) h;rcases aH.mp hp with e|e
   ·exact e▸hc _ (XT hl)
   ·exact ha p e
  ·rw[if_neg e]at h;exact ih _ r ha h
def pT
  (h:Q (newEnv scope s.heap.objs.size globals (cellsFrom (s.heap.objs.size+1) scope.names cl) qual ac .none (aa env) builtinsNs) {s with heap:=pushCells (s.heap.push {cls:= .type "dict",data:= .dict #[]}) scope.names}):
  wpAny M A (newFunctionEnv scope globals cl [] qual ac .none (aa env)) Q E s:=by
 simp only[newFunctionEnv,Option.isSome_some,if_true];refine am (F0 ?_);refine am (Kk _ (λname kind cells=>by cases hkc:kind==k9<;>simp[hkc]) _ _ _ _ ?_);rw[show({s with heap:=s.heap.push {cls:= .type "dict",data:= .dict #[]}}:bb).heap.objs.size=s.heap.objs.size+1 from eU ..];refine am ?_;rw[qA];exact aR (aR h)
noncomputable def fj (names:List (Str×qh)):Nat:= ↑(names.filter λp=>p.2== .cell)
def Rel.AS (names:List (Str×qh)):∀ {c:aM} {O:List AO} {h:iS} (dA:Sn),Rel S c O h->(∀p∈dA,p.2< ↑O)->
  ∃c',aM.le ↑O c c'/\Rel S c' (O++bQ (fj names) (.cell ac)) (pushCells h names)/\
   cellsFrom h.objs.size names (dA.map λp=>(p.1,c.Z p.2))=(cellsFrom ↑O names dA).map (λp=>(p.1,c'.Z p.2))/\∀p∈cellsFrom ↑O names dA,p.2< ↑O+fj names:=by
 induction names with
 |nil=>intro c O h dA R ha;exact⟨c,.refl ..,by simpa[fj,pushCells]using R,rfl,by simpa[fj,cellsFrom]using ha⟩
 |cons q9 names ih=>
  intro c O h dA R ha;obtain(⟨n,k⟩):=q9;unfold pushCells cellsFrom;cases hk:k==k9 with
  |false=>
   have e:fj ((n,k)::names)=fj names:=by simp[fj,hk]
   rw[e];exact ih dA R ha
  |true=>
   have e:fj ((n,k)::names)=fj names+1:=by simp[fj,hk]
   rw[e];simp only[if_true];have R1:Rel S (c.own ↑O h.objs.size) (O++[.cell ac]) (h.push {cls:= .type "cell",data:= .cell ac}):=
    R.Az (λb o e=>aJ _ e) (ab _) (aV _ rfl) (.cell rfl rfl (λx e=>by cases e) λ_=>rfl)
   have ha':∀p∈(n,↑O)::dA,p.2< ↑(O++[AO.cell ac]):=by
    intro p hp;rw[aj,be];rcases aH.mp hp with e|e
    ·subst e;exact ez _
    ·exact eI (ha p e)
   left;let ⟨c',l1,R2,h3,h4⟩:=ih ((n,↑O)::dA) R1 ha';have cH: ↑(O++[AO.cell ac])= ↑O+1:=by rw[aj,be]
   right;refine⟨c',aM.jc.trans l1 (aaS cH),?_,?_,?_⟩
   ·rw[wl,List.append_cons];exact R2
   ·rw[cH]at h3;rw[<- h3,eU,bw];rw[(aM.ma ..)];congr 2;exact cj λp hp=>by rw[aM.jc.Z _ (ha p hp)]
   ·intro p hp;rw[cH]at h4;exact a8 (h4 p hp) (aiy)
noncomputable def wH (scope outer:Scope):Scope:=
 {scope with names:=scope.names.map λ(n,k)=>if (k== .free&&outer.kind== .function&&outer.names.lookup n==aa .cell) then(n,.cell) else(n,k)}
def AU (ae:iv) (scope:Scope) (n:Nat) (cl:Sn):iv:= {scope:=wH scope ae.scope,fi:=n+1,cells:=cellsFrom (n+2) scope.names cl,code:=ae.code}
def Rel.T4 {c:aM} {h h':iS} {a:Addr} (R:Rel S c O h) (ha:qC c ↑O a) (hk:∀b o,b≠a->h.get? b=aa o->h'.get? b=aa o):Rel S c O h' where
 frozen:=λx o e=>hk _ _ (by rintro rfl;rw[ha.F]at e;nomatch e) (R.frozen x o e)
 base:=R.base
 own:=λi ao e=>xe12 (R.own i ao e) λo p q=>⟨o,hk _ _ (ha.Z i (by
  rcases bS i ↑O with h|h
  ·exact h
  ·rw[bC h]at e;nomatch e)) p,q⟩
 apart:=R.apart
 inj:=R.inj
 pins:=λx o e=>⟨hk _ _ (by rintro rfl;rw[ha.pin]at e;nomatch e) (R.pins x o e).1,(R.pins x o e).2⟩
 tabs:=λq hq=>let ⟨x,b,ps,d,e⟩:=R.tabs q hq;⟨x,b,ps,hk _ _ (ha.tab q hq) d,e⟩
def ME {loc:List Str}
  (he:mi e gens) (zl:qR e gens emit) (JZ:gens=g::gs) (hg:∀g∈gens,g.is_async=0) (hf:∀g∈gens,∀env x,foldedSetIterable g.iter env x=pure x)
  (HX:j9 ae.cells scope.names []=aa cl) (qv:scope.kind= .function) (Fv:∀x∈scope.names,x.2= .local->scope.names.lookup x.1=aa .local) (W5:loc.Nodup)
  (hi:lb S k O ae g.iter ok xs)
  (kA:∀(A:cS) (s:bb) (E:VS) (Q:VS),Q (.ref s.heap.objs.size) {s with heap:=s.heap.push accObj}->wpAny (MM S.w) A newAcc Q E s) (uM:accObj.isFreed=false)
  (Sa:∀(c:aM) (n:Nat),ic S.w c n accObj qw)
  (HY:Gq S k (AU ae scope ↑O cl) gens (vG S k (AU ae scope ↑O cl) emit ↑O) 0 ok (O++(qw:: .ns (loc.map λx=>(x,ac))::bQ (fj scope.names) (.cell ac))) xs (O++B1:: .ns m'::τ'))
  (hz:Ge (B1:: .ns m'::τ') ↑O (.fM (↑O+0)) (.pv d)):
  ∀(A:cS) (c:aM) (s:bb) (env:lY),jF k A->cY c ↑O ae env->Rel S c O s.heap->∀(use:Option (Value->zK Unit)) (E:VS) (Q:VS),
   (∀c' dA s' fa m,aM.le ↑O c c'->Rel S c' O s'.heap->dZ s s'->dk S.w c'.F dA d->qC c' ↑O fa->s'.heap.Ns fa m->compPost (MM S.w) A E use Q dA fa (.ok .next) s')->
   wpAny (MM S.w) A (comprehension e scope env pos newAcc false (eval g.iter env) use) Q E s:=by
 intro A c s env hA hE R use E Q hQ;have DY:closureFor scope env=pure (cl.map λp=>(p.1,c.Z p.2)):=by refine mU ?_;rw[hE.cells];exact qS c.Z ae.cells scope.names [] cl HX
 have sJ:∀p∈cl,p.2< ↑O:=te hE.jq scope.names [] cl (λp hp=>by nomatch hp) HX;refine wpAny_comprehension_free (by rw[he.Ld,JZ]) (hf g (by rw[JZ];exact ay) env) DY qv Fv ?_;refine hi A c s env hA hE R _ _ λc1 s1 I own J l1 ho R1 K1 P nc J1=> ?_;refine kA A s1 E _ ?_;have l2:aM.le ↑O c1 (c1.own ↑O s1.heap.objs.size):=aM.jc;have R2:Rel S (c1.own ↑O s1.heap.objs.size) (O++[qw]) (s1.heap.push accObj):=R1.Az (λb o e=>aJ _ e) (ab _) (aV _ uM) (Sa _ _);refine pT ?_;have CP: ↑(O++[qw])= ↑O+1:=by rw[aj,be]
 generalize Zq:c1.own ↑O s1.heap.objs.size=c2 at l2 R2;have L0:c2.Z ↑O=s1.heap.objs.size:=by exact Zq▸(aM.ma ..)
 generalize hH2:s1.heap.push accObj=H2 at R2;have R3:Rel S (c2.own ↑(O++[qw]) H2.objs.size) (O++[qw]++[.ns (loc.map λx=>(x,ac))]) (H2.push {cls:= .type "dict",data:= .dict #[]}):=
  R2.Az (λb o e=>aJ _ e) (ab _) (aV _ rfl) (.ns (es:= #[]) (ep:=0) rfl (λe he=>by simp at he) (by rw[bD];simpa[Ks]using W5)
   (λx d hx=>by let ⟨y,_,e⟩:=aQ.mp hx;nomatch e) λx _=>rfl)
 have l3:aM.le ↑(O++[qw]) c2 (c2.own ↑(O++[qw]) H2.objs.size):=aM.jc;generalize Oq:c2.own ↑(O++[qw]) H2.objs.size=c3 at R3 l3;have Vo:c3.Z (↑O+1)=H2.objs.size:=by rw[<- Oq,<- CP];exact aM.ma ..
 have Zr: ↑(O++[qw]++[AO.ns (loc.map λx=>(x,ac))])= ↑O+2:=by rw[aj,CP,be]
 have l13:aM.le ↑O c1 c3:=l2.trans l3 (aaS CP);let ⟨c4,l4,R4,mQ,Fy⟩:=Rel.AS scope.names cl R3 (λp hp=>by rw[Zr];exact a8 (sJ p hp) (aiz));rw[Zr]at mQ Fy;rw[eU]at mQ;have l14:aM.le ↑O c1 c4:=l13.trans l4 (aiA Zr);have ajG:O++[qw]++[AO.ns (loc.map λx=>(x,ac))]++bQ (fj scope.names) (AO.cell ac)=O++(qw:: .ns (loc.map λx=>(x,ac))::bQ (fj scope.names) (.cell ac)):=by simp
 rw[ajG]at R4;generalize HQ:O++(qw:: .ns (loc.map λx=>(x,ac))::bQ (fj scope.names) (.cell ac))=σ4 at R4 HY;have B2: ↑σ4= ↑O+2+fj scope.names:=by rw[<- HQ,aj,az,az,nF];exact aiB
 rw[(cj λp hp=>by rw[(l1.trans l13.P (ab _)).Z _ (sJ p hp)]:(cl.map λp=>(p.1,c.Z p.2))=cl.map λp=>(p.1,c3.Z p.2)),mQ];have hE4:cY c4 ↑σ4 (AU ae scope ↑O cl) {newEnv scope H2.objs.size env.globals ((cellsFrom (↑O+2) scope.names cl).map λp=>(p.1,c4.Z p.2)) env.qual ac .none (aa env) builtinsNs with scope:=relabel scope env}:= {
  scope:=by show relabel scope env=wH scope ae.scope;unfold relabel wH Env.kindOf;rw[hE.scope]
  kind:=qv
  locals:=by
   show H2.objs.size=c4.Z (↑O+1);rw[l4.Z _ (aaU Zr),Vo]
  fi:=by show ↑O+1< ↑σ4;exact aaV B2
  globals:=hE.globals
  builtins:=hE.builtins
  cells:=rfl
  jq:=λp hp=>by rw[B2];exact Fy p hp
  code:=hE.code
  frame:=hE.frame}
 have K4:dZ s1 {s1 with heap:=pushCells (H2.push {cls:= .type "dict",data:= .dict #[]}) scope.names}:= .gF ..;have J4:=P.keep J1 (ab _) l14 K4 R1 R4;have ha4:cT S.w c4 ↑σ4 (.ref s1.heap.objs.size) (.fM ↑O):=by
  have e:c4.Z ↑O=s1.heap.objs.size:=by rw[l4.Z _ (aaW Zr),l3.Z _ (aaX CP),L0]
  rw[<- e];exact .fM (aaY B2)
 refine he.start hg (v9 (HY.run he zl hg hf (by rw[JZ];rfl) A c4 _ _ _ P J4 (aaZ B2) hA hE4 R4 ha4 (λs'=>compPost (MM S.w) A E use Q (.ref s1.heap.objs.size) H2.objs.size (.ok .next) s') λc5 s5 l5 R5 K5=> ?_) λr s' x=> ?_) λE Q hq=>P.self J4 R4 hA E Q hq
 ·have XE:aM.pM own ↑O c c5:=(l1.trans l14.P (ab _)).trans l5 (aaZ B2);let ⟨u1,u2⟩:=XE.Gm ho;have R6:=R5.gN u1;have e5:c5.Z ↑O=s1.heap.objs.size:=by rw[l5.Z _ (aaY B2),l4.Z _ (aaW Zr),l3.Z _ (aaX CP),L0]
  have agj: ↑O< ↑(O++B1:: .ns m'::τ'):=by rw[aj,az];exact XI
  have agk: ↑O+1< ↑(O++B1:: .ns m'::τ'):=by rw[aj,az,az];exact aiC
  have hv:cT S.w (c5.gN c) ↑(O++B1:: .ns m'::τ') (.ref s1.heap.objs.size) (.fM (↑O+0)):=by exact e5▸(.fM agj)
  have tZ:(O++B1:: .ns m'::τ')[↑O+1]? =aa (.ns m'):=by rw[aE (bh ..),bO];rfl
  left;let ⟨f,Sb,_⟩:=R6.ns tZ;let ⟨c7,l7,R7,a7,fr7⟩:=Ge.run R R6 rfl (λ_ _ h=> .inl h) hz hv;right;have oQ:(eM s1.heap.objs.size)≠ .ref ((c5.gN c).Z (↑O+1)):=by intro e;injection e with e;have:=R6.inj ↑O (↑O+1) agj agk (e5.trans e);exact aiD this
  have:=hQ c7 _ s5 _ f (u2.trans l7 (ab _)) R7 (lE.K (K1.P.trans (K4.P.trans K5))) a7.gh (fr7 _ (R6.KO (bh _ 1) agk) oQ) Sb;rw[((by rw[l5.Z _ (aaV B2),l4.Z _ (aaU Zr),Vo]):(c5.gN c).Z (↑O+1)=H2.objs.size)]at this;exact this
 ·cases r with
  |ok f=>cases use<;>exact x
  |error e=>exact x.elim
def Ev.Pz (h:∀(A:cS) (c:aM) (s:bb) (env:lY),jF k A->cY c ↑O ae env->Rel S c O s.heap->∀(E:VS) (Q:VS),
   (∀c' dA s' fa m,aM.le ↑O c c'->Rel S c' O s'.heap->dZ s s'->dk S.w c'.F dA d->qC c' ↑O fa->s'.heap.Ns fa m->compPost (MM S.w) A E ac Q dA fa (.ok .next) s')->
   wpAny (MM S.w) A (eval e env) Q E s):nJ S k O ae e d:=by
 refine⟨ab _,λA c s env hA hE R E Q hQ=> ?_⟩;refine h A c s env hA hE R E Q λc1 dA s1 fa m l1 R1 K1 a1 hfa tZ=> ?_;exact⟨m,tZ,λh' qd=>hQ c1 dA _ l1 (R1.T4 hfa qd.extBut) (K1.trans (.gF ..)) (.pv a1)⟩
section
variable {lay:Lay}
structure ku (lay:Lay) (p:Ip) (st cg:St) (O bv:List AO):Prop where
 len: ↑O<= ↑bv
 len0:lay.grow=false-> ↑bv= ↑O/\ ↑cg.ob= ↑st.ob
 obs: ↑st.ob<= ↑cg.ob
 out:∀i,i< ↑O->i≠p.fi->(∀j,j<lay.own->p.ci[j]? ≠aa i)->(∀j,j< ↑st.ob->i≠p.oi j)->bv[i]? =O[i]?
def ku.refl (p:Ip) (st:St) (O:List AO):ku lay p st st O O:=⟨ab _,λ_=>⟨rfl,rfl⟩,ab _,λ_ _ _ _ _=>rfl⟩
def ku.trans {p:Ip} {st L1 DZ:St} {O bA bP:List AO} (h:ku lay p st L1 O bA) (h':ku lay p L1 DZ bA bP) (bc:At lay p st O):ku lay p st DZ O bP where
 len:=aA h.len h'.len
 len0:=λhg=>⟨(h'.len0 hg).1.trans (h.len0 hg).1,(h'.len0 hg).2.trans (h.len0 hg).2⟩
 obs:=aA h.obs h'.obs
 out:=λi hi h1 h2 h3=>by
  refine(h'.out i (a8 hi h.len) h1 h2 λj hj=> ?_).trans (h.out i hi h1 h2 h3);rcases bS j ↑st.ob with kX|Ak
  ·exact h3 j kX
  ·cases hg:lay.grow with
   |false=>have:=(h.len0 hg).2;exact aiE hj this Ak
   |true=>have:=bc.next hg (j- ↑st.ob);rw[show ↑st.ob+(j- ↑st.ob)=j by exact Tx Ak]at this;exact aiF hi this
def ie (i:Nat) (v:CV) (st:St):St:= {st with lv:=st.lv.set i (aa v)}
def rM (i:Nat) (v:CV) (st:St):St:= {st with cv:=st.cv.set i (aa v)}
def iA.zip {loc:List Str}:∀ {m:List (Option AV)} {i:Nat},loc[i]? =aa x->i< ↑m->iA x d (loc.zip m) (loc.zip (m.set i (aa d))):=by
 induction loc with
 |nil=>exact λh _=>gr h
 |cons a loc ih=>
  intro m i h hl;cases m with
  |nil=>exact absurd hl (iy _)
  |cons b m=>
   induction i with
   |zero=>obtain rfl:=ag h;exact .here
   |succ i=>exact .there (ih h (ue hl))
def getElem?_lt' {l:List α} (h:l[i]? =aa x):i< ↑l:=by
 rcases bS i ↑l with h'|h'
 ·exact h'
 ·rw[bC h']at h;nomatch h
def At.ie (bc:At lay p st O) (h:lay.nk i x=true) (v:CV):
  ∃bv,jK S O (lay.en p) x (v.av p.oi) bv/\At lay p (ie i v st) bv/\ku lay p st (ie i v st) O bv:=by
 unfold Lay.nk at h;simp only[dj,beq_iff_eq]at h;left;let ⟨⟨h1,h2⟩,_⟩:=h;right;have hs:iA x (v.av p.oi) (lay.loc.zip (TU p.oi st.lv)) (lay.loc.zip (TU p.oi (st.lv.set i (aa v)))):=by have:=iA.zip (d:=v.av p.oi) (m:=TU p.oi st.lv) h1 (by simpa using (by rw[bc.NR];exact getElem?_lt' h1));rw[show TU p.oi (st.lv.set i (aa v))=(TU p.oi st.lv).set i (aa (v.av p.oi)) from List.map_set];exact this
 have HZ:∀n,n≠p.fi->∀o,(O.set p.fi o)[n]? =O[n]? :=λn hn o=>bE hn.symm;refine⟨_,jK.loc bc.frame h2 hs rfl,?_,?_⟩
 ·refine⟨?_,by simpa[Mine.ie]using bc.NR,bc.xO,bc.Fu,λj w hw=> ?_,λj o ho=> ?_,bc.Zi,bc.Zj,bc.Ve,bc.WZ,bc.Vf,λhg j=> ?_⟩
  ·show(O.set p.fi _)[p.fi]? =_;rw[bU (getElem?_lt' bc.frame)];rfl
  ·let ⟨n,hn,hc⟩:=bc.cells j w hw;refine⟨n,hn,?_⟩;show(O.set p.fi _)[n]? =_;rw[HZ n (λe=>bc.Zi (e▸bo hn))];exact hc
  ·show(O.set p.fi _)[p.oi j]? =_;rw[HZ _ (bc.Zj j (getElem?_lt' ho))];exact bc.obs j o ho
  ·show p.oi (↑st.ob+j)= ↑(O.set p.fi _)+j;exact(bi).symm▸(bc.next hg j)
 ·refine⟨by show ↑O<= ↑(O.set p.fi _);rw[bi];exact ab _,λ_=>⟨bi,rfl⟩,ab _,λn hn h1 _ _=>HZ n h1 _⟩
def Lay.Gr (lay:Lay) (i:Nat) (x:Str):Bool:=idxOf x lay.nq==aa i&&lay.scope.names.lookup x==aa .cell&&decide (i<lay.own)
def PA {l:List Str}:∀ {i:Nat},idxOf x l=aa i->i< ↑l:=by
 induction l with
 |nil=>intro i h;nomatch h
 |cons a l ih=>
  intro i h;rw[idxOf_cons]at h;by_cases e:(x==a)=true
  ·rw[if_pos e]at h;obtain rfl:=ag h;exact Nat.zero_lt_succ _
  ·rw[if_neg e]at h;let ⟨j,hj,rfl⟩:=ar.mp h;exact Nat.succ_lt_succ (ih hj)
def At.rM (bc:At lay p st O) (h:lay.Gr i x=true) (v:CV):
  ∃bv,jK S O (lay.en p) x (v.av p.oi) bv/\At lay p (rM i v st) bv/\ku lay p st (rM i v st) O bv:=by
 unfold Lay.Gr at h;simp only[dj,beq_iff_eq,decide_eq_true_eq]at h;left;let ⟨⟨h1,h2⟩,h3⟩:=h;have HT:i< ↑st.cv:=by rw[bc.xO];exact(PA h1)
 let ⟨n,hn,hc⟩:=bc.cells i _ (aq HT);have HZ:∀m,m≠n->∀o,(O.set n o)[m]? =O[m]? :=λm hm o=>bE hm.symm;have ajH:n≠p.fi:=λe=>bc.Zi (e▸bo hn);right;refine⟨_,jK.cell h2 (AJ h1 hn) hc rfl,?_,?_⟩
 ·refine⟨?_,bc.NR,by simpa[Mine.rM]using bc.xO,bc.Fu,λj w hw=> ?_,λj o ho=> ?_,bc.Zi,bc.Zj,bc.Ve,bc.WZ,bc.Vf,λhg j=> ?_⟩
  ·rw[HZ _ ajH.symm];exact bc.frame
  ·have hw':(st.cv.set i (aa v))[j]? =aa w:=hw;by_cases J0:i=j
   ·subst J0;rw[bU HT]at hw';obtain rfl:=ag hw';exact⟨n,hn,by rw[bU (getElem?_lt' hc)];rfl⟩
   ·rw[bE J0]at hw';let ⟨m,hm,hcm⟩:=bc.cells j w hw';refine⟨m,hm,?_⟩;have hmn:m≠n:=by rintro rfl;let ⟨a1,b1⟩:=((eO.mp hn));let ⟨a2,b2⟩:=((eO.mp hm));exact J0 ((Aq bc.WZ).mp (b1.trans b2.symm))
    rw[HZ m hmn];exact hcm
  ·have:p.oi j≠n:=λe=>bc.Ve j (getElem?_lt' ho) (e▸bo hn);rw[HZ _ this];exact bc.obs j o ho
  ·exact(bi).symm▸(bc.next hg j)
 ·refine⟨by rw[bi];exact ab _,λ_=>⟨bi,rfl⟩,ab _,λm hm h1 Om _=>HZ m (λe=>Om i h3 (e▸hn)) _⟩
def Cj (S:cz) (k:Nat) (lay:Lay) (t:Expr) (tg:CV->St->Option St):Prop:=
 ∀p O st v cg,At lay p st O->tg v st=aa cg->∃bv,C5 S k O (lay.en p) t (v.av p.oi) bv/\At lay p cg bv/\ku lay p st cg O bv/\cg.ob=st.ob
def bf (i:Nat) (v:CV) (st:St):Option St:=aa (ie i v st)
def jL (i:Nat) (v:CV) (st:St):Option St:=aa (rM i v st)
def Cj.loc (h:lay.nk i x=true):Cj S k lay (.Name x pos) (bf i):=by intro p O st v cg bc hf;obtain rfl:=ag hf;let ⟨bv,a,b,c⟩:=bc.ie (S:=S) h v;exact⟨bv,C5.name a,b,c,rfl⟩
def Cj.nq (h:lay.Gr i x=true):Cj S k lay (.Name x pos) (jL i):=by intro p O st v cg bc hf;obtain rfl:=ag hf;let ⟨bv,a,b,c⟩:=bc.rM (S:=S) h v;exact⟨bv,C5.name a,b,c,rfl⟩
def MF (S:cz) (k:Nat) (lay:Lay) (ts:List Expr) (tg:List PV->St->Option St):Prop:=
 ∀p O st ds cg,At lay p st O->tg ds st=aa cg->∃bv,AR S k (lay.en p) O ts ds bv/\At lay p cg bv/\ku lay p st cg O bv/\cg.ob=st.ob
noncomputable def pU:List PV->St->Option St
 | [],st=>aa st
 |_,_=>ac
noncomputable def eT (f:CV->St->Option St) (g:List PV->St->Option St):List PV->St->Option St
 |d::ds,st=>(f (.pv d) st).bind (g ds)
 |_,_=>ac
def MF.nil:MF S k lay [] pU:=by
 intro p O st ds cg bc hf;induction ds with
 |nil=>obtain rfl:=ag hf;exact⟨O,.nil,bc,.refl ..,rfl⟩
 |cons=>nomatch hf
def MF.cons (h1:Cj S k lay t f) (h2:MF S k lay rest g) (hn:notStar t=true):MF S k lay (t::rest) (eT f g):=by
 intro p O st ds cg bc hf;induction ds with
 |nil=>cases hf
 |cons d ds=>unfold eT at hf;simp only[aG]at hf;left;let ⟨st1,H0,Sd⟩:=hf;let ⟨lK,a1,b1,c1,d1⟩:=h1 p O st _ st1 bc H0;let ⟨uV,a2,b2,c2,d2⟩:=h2 p lK st1 ds cg b1 Sd;right;exact⟨uV,.cons a1 a2 hn,b2,c1.trans c2 bc,d2.trans d1⟩
def pV (g:List PV->St->Option St) (v:CV) (st:St):Option St:=v.aT.bind λds=>g ds st
def Cj.tup (h:MF S k lay ts g):Cj S k lay (.Tuple ts n pos) (pV g):=by intro p O st v cg bc hf;refine a9 hf λds e hf=> ?_;rw[CV.kT e];let ⟨bv,a,b,c,d⟩:=h p O st _ cg bc hf;exact⟨bv,C5.tup a,b,c,d⟩
inductive pn where
 |next
 |ret (v:CV)
def pn.af (oi:NN):pn->nW
 | .next=> .next
 | .ret v=> .ret (v.av oi)
abbrev SF:=St->Option (pn×St)
abbrev OV:=Option CV
abbrev EF:=St->OV
abbrev Sp:=List (Str×PV)
def ms (S:cz) (k:Nat) (lay:Lay) (s:Stmt) (F:St->Option (pn×St)):Prop:=
 ∀p O st fl cg,At lay p st O->F st=aa (fl,cg)->∃bv,i6 S k O (lay.en p) s (fl.af p.oi) bv/\At lay p cg bv/\ku lay p st cg O bv
def j3 (S:cz) (k:Nat) (lay:Lay) (ss:List Stmt) (F:St->Option (pn×St)):Prop:=
 ∀p O st fl cg,At lay p st O->F st=aa (fl,cg)->∃bv,cG S k O (lay.en p) ss (fl.af p.oi) bv/\At lay p cg bv/\ku lay p st cg O bv
noncomputable def br (st:St):Option (pn×St):=aa (.next,st)
noncomputable def aB (f g:SF) (st:St):Option (pn×St):=match f st with
 |some (.next,st1)=>g st1
 |some (.ret v,st1)=>aa (.ret v,st1)
 |none=>ac
def j3.nil:j3 S k lay [] br:=by intro p O st fl cg bc hf;let ⟨rfl,rfl⟩:=bB (ag hf);exact⟨O,.nil,bc,.refl ..⟩
def j3.cons (h1:ms S k lay s f) (h2:j3 S k lay ss g):j3 S k lay (s::ss) (aB f g):=by
 intro p O st fl cg bc hf;unfold aB at hf;split at hf
 ·rename_i st1 e;left;let ⟨lK,a1,b1,c1⟩:=h1 p O st _ st1 bc e;let ⟨uV,a2,b2,c2⟩:=h2 p lK st1 _ cg b1 hf;right;exact⟨uV,.cons a1 a2,b2,c1.trans c2 bc⟩
 ·rename_i v st1 e;let ⟨rfl,rfl⟩:=bB (ag hf);let ⟨lK,a1,b1,c1⟩:=h1 p O st _ _ bc e;exact⟨lK,.ret a1,b1,c1⟩
 ·nomatch hf
noncomputable def bZ (f:EF) (tg:CV->St->Option St) (st:St):Option (pn×St):=((f st).bind λv=>tg v st).map λcg=>(.next,cg)
def ms.Le (h1:cJ S k lay gQ f)
  (h2:∀p O st v cg,At lay p st O->tg v st=aa cg->∃bv,jK S O (lay.en p) x (v.av p.oi) bv/\At lay p cg bv/\ku lay p st cg O bv)
  (hs:(λenv:lY=>swapsWith gQ (aa (.Name x jW)) pos.line {env with scope:=lay.scope})=λ_=>pure false):ms S k lay (.Assign [.Name x jW] gQ pos) (bZ f tg):=by
 intro p O st fl cg bc hf;unfold bZ at hf;simp only[ar,aG]at hf;left;let ⟨st1,⟨v,hv,ht⟩,e⟩:=hf;let ⟨rfl,rfl⟩:=bB e;let ⟨bv,a,b,c⟩:=h2 p O st v _ bc ht;right;exact⟨bv,i6.assign (h1 p O st v bc hv) a λenv he=>scp (F:=swapsWith gQ (aa (.Name x jW)) pos.line) hs he,b,c⟩
def ms.PB (h1:cJ S k lay gQ f) (h:lay.nk i x=true) (hs:(λenv:lY=>swapsWith gQ (aa (.Name x jW)) pos.line {env with scope:=lay.scope})=λ_=>pure false):
  ms S k lay (.Assign [.Name x jW] gQ pos) (bZ f (bf i)):=
 ms.Le h1 (λp O st v cg bc hf=>by obtain rfl:=ag hf;exact bc.ie h v) hs
def ms.ai4 (h1:cJ S k lay gQ f) (h:lay.Gr i x=true) (hs:(λenv:lY=>swapsWith gQ (aa (.Name x jW)) pos.line {env with scope:=lay.scope})=λ_=>pure false):
  ms S k lay (.Assign [.Name x jW] gQ pos) (bZ f (jL i)):=
 ms.Le h1 (λp O st v cg bc hf=>by obtain rfl:=ag hf;exact bc.rM h v) hs
noncomputable def jA (b:St->Option Bool) (f g:SF) (st:St):Option (pn×St):=(b st).bind λx=>cond x (f st) (g st)
def ms.if (h0:AH S k lay t b) (h1:j3 S k lay body f) (h2:j3 S k lay orelse g):ms S k lay (.If t body orelse pos) (jA b f g):=by
 intro p O st fl cg bc hf;refine a9 hf λx e hf=> ?_;induction x with
 |true=>let ⟨bv,a,c⟩:=h1 p O st _ cg bc hf;exact⟨bv,i6.if (h0 p O st true bc e) a,c⟩
 |false=>let ⟨bv,a,c⟩:=h2 p O st _ cg bc hf;exact⟨bv,i6.if (h0 p O st false bc e) a,c⟩
noncomputable def i7 (f:EF) (st:St):Option (pn×St):=(f st).map λv=>(.ret v,st)
def ms.return (h:cJ S k lay e f):ms S k lay (.Return (aa e) pos) (i7 f):=by intro p O st fl cg bc hf;unfold i7 at hf;simp only[ar]at hf;let ⟨v,hv,e⟩:=hf;let ⟨rfl,rfl⟩:=bB e;exact⟨O,i6.return (h p O st v bc hv),bc,.refl ..⟩
noncomputable def lP (tg:CV->St->Option St) (body:SF):List PV->St->Option (pn×St)
 | [],st=>aa (.next,st)
 |x::xs,st=>(tg (.pv x) st).bind λst1=>(body st1).bind λr=>pn.rec (lP tg body xs r.2) (λ_=>aa r) r.1
def IR:lP tg body (x::xs) st=(tg (.pv x) st).bind λst1=>(body st1).bind λr=>pn.rec (lP tg body xs r.2) (λ_=>aa r) r.1:=rfl
def yT (S:cz) (k:Nat) (lay:Lay) (e:Expr) (f:St->Option (List PV)):Prop:=∀p O st xs,At lay p st O->f st=aa xs->lb S k O (lay.en p) e (λ_=>True) xs
def mK (it:St->Option (List PV)) (tg:CV->St->Option St) (body:SF) (st:St):Option (pn×St):=(it st).bind λxs=>lP tg body xs st
def ms.T3 (hi:yT S k lay kB it) (ht:Cj S k lay cD tg) (hb:j3 S k lay body f)
  (hs:∀env x,foldedSetIterable kB env x=pure x):ms S k lay (.For cD kB body [] pos) (mK it tg f):=by
 intro p O st fl cg bc hf;unfold mK at hf;simp only[aG]at hf;let ⟨xs,hx,hf⟩:=hf;have loop:∀(xs:List PV) (O:List AO) (st:St),At lay p st O->lP tg f xs st=aa (fl,cg)->∃bv,S1 S k (lay.en p) cD body O xs (fl.af p.oi) bv/\At lay p cg bv/\ku lay p st cg O bv:=by
  intro xs;induction xs with
  |nil=>intro O st bc hf;let ⟨rfl,rfl⟩:=bB (ag hf);exact⟨O,.nil,bc,.refl ..⟩
  |cons x xs ih=>
   intro O st bc hf;refine a9 hf λst1 J3 hf=>a9 hf λr e hf=> ?_;left;let ⟨lK,a1,b1,c1,_⟩:=ht p O st _ st1 bc J3;let ⟨f2,st2⟩:=r;induction f2 with
   |next=>let ⟨uV,a2,b2,c2⟩:=hb p lK st1 _ st2 b1 e;let ⟨σ3,a3,b3,c3⟩:=ih uV st2 b2 hf;exact kG ⟨σ3,.cons a1 a2 a3,b3,(c1.trans c2 bc).trans c3 bc⟩
   |ret v=>let ⟨rfl,rfl⟩:=bB (ag hf);let ⟨uV,a2,b2,c2⟩:=hb p lK st1 _ _ b1 e;exact kG ⟨uV,.ret a1 a2,b2,c1.trans c2 bc⟩
 let ⟨bv,a,b,c⟩:=loop xs O st bc hf;exact⟨bv,i6.T3 (hi p O st xs bc hx) a hs,b,c⟩
end
section
variable {lay:Lay}
def itV:CV->Option (List PV)
 | .pv (.lst l)=>aa l
 | .pv (.tup l)=>aa l
 | .pv (.str x)=>if x.cps.all (· <128)=true then aa (yb x) else ac
 | .pv (.oO l)=>aa (l.map λp=> .str p.1)
 |_=>ac
def jy (f:EF) (st:St):Option (List PV):=(f st).bind itV
def X0 (h:Ev S k O (lay.en p) e (v.av p.oi) O) (hv:itV v=aa xs) (nc:ok O) (hd:∀l,v= .pv (.lst l)->∀bv,ok bv):lb S k O (lay.en p) e ok xs:=by
 induction v with
 |pv d=>cases d with
  |lst l=>obtain rfl:=ag hv;intro A c s env hA hE R E Q hQ;refine lb.list h .val A c s env hA hE R E Q λc' s' I own J a b d e' P _ hJ=>hQ c' s' I own J a b d e' ?_ nc hJ;exact⟨P.keep,λhJ R hn _ hA E Q=>P.next hJ R hn .val hA E Q,P.self,P.Vg⟩
  |tup l=>obtain rfl:=ag hv;exact lb.tuple h nc
  |str x=>let ⟨ha,rfl⟩:=dT hv;exact lb.str h ha nc
  |oO l=>obtain rfl:=ag hv;exact lb.dict h nc
  |_=>exact gr hv
 |_=>exact gr hv
def yT.val (h:cJ S k lay e f):yT S k lay e (jy f):=by intro p O st xs bc hf;unfold jy at hf;let ⟨v,hv,hx⟩:=aG.mp hf;exact X0 (h p O st v bc hv) hx trivial λ_ _ _=>trivial
def rN (f:EF) (st:St):Option (List PV):=((f st).bind CV.aI).bind λn=>if 0<=n/\n<1000 then aa (iK n.toNat) else ac
def yT.range (h:lay.mh f=true) (hg:(f,ac)∈cf) (hb:(f,aa (N3 "range"))∈kM) (hx:cJ S k lay x g) (hs:notStar x=true):yT S k lay (.Call (.Name f np) [x] [] pos) (rN g):=by intro p O st xs bc hf;refine a9 hf λn hn hf=>a9 hn λ_ hn e=> ?_;rw[CV.kI e]at hn;let ⟨uU,rfl⟩:=dT hf;exact lb.range (Ev.Pr h hg hb) (((xU uU.1)).symm▸(hx p O st _ bc hn)) (aiG uU) hs trivial
def Gs (S:cz) (k:Nat) (lay:Lay) (e:Expr) (f:St->Option (List PV)):Prop:=∀p O st xs,At lay p st O->f st=aa xs->
 ∃ok,lb S k O (lay.en p) e ok xs/\∀bv,(∀j o,st.ob[j]? =aa o->bv[p.oi j]? =aa (o.ao p.oi))->ok bv
def yT.C (h:yT S k lay e f):Gs S k lay e f:=λp O st xs bc hf=>⟨_,h p O st xs bc hf,λ_ _=>trivial⟩
def Gu (f:EF) (st:St):Option (List PV):=(f st).bind st.oz
def Gs.store (h:cJ S k lay e f):Gs S k lay e (Gu f):=by intro p O st xs bc hf;refine a9 hf λv hv hx=> ?_;refine⟨_,lb.list (h p O st v bc hv) (bc.oz hx),λbv ho=> ?_⟩;exact KY (P:=λv=>IsL bv (v.av p.oi) xs) hx .val λj hl=> .fM (ho j _ hl)
def qE (names:List (Str×qh)):∀(n:Nat) (dA:Sn),cellsFrom n names dA=(cellsFrom 0 names []).map (λq=>(q.1,n+q.2))++dA:=by
 induction names with
 |nil=>intro n dA;exact rfl
 |cons q9 names ih=>
  intro n dA;obtain(⟨x,kd⟩):=q9;unfold cellsFrom;cases hk:kd==k9 with
  |false=>simp only[fw,if_false];exact ih n dA
  |true=>simp only[if_true];rw[ih (n+1),ih 1,bH,bD,bF];congr 1;exact cj λq _=>by simp;exact aiH
structure fO where
 scope:Scope
 loc:List Str
 oP:List (Str×Nat)
 sz:List (Str×Nat)
noncomputable def fsc (names:List (List Nat×qh)):Scope:= {kind:= .function,names:=names.map λp=>(⟨p.1.toArray⟩,p.2),isGenerator:=false,isCoroutine:=false,more:=[]}
def lQ (n:List (List Nat×qh)) (a:List Str) (b c:Sn):fO:=⟨fsc n,a,b,c⟩
def fO.L (cl:fO) (lay:Lay):Lay:= {scope:=wH cl.scope lay.scope,loc:=cl.loc,nq:=cl.oP.map (·.1)++cl.sz.map (·.1),own:= ↑cl.oP,grow:=false,code:=lay.code}
structure fO.Ok (cl:fO) (lay:Lay):Prop where
 own:cellsFrom 0 cl.scope.names []=cl.oP
 tA:j9 (lay.nq.zip (cK ↑lay.nq)) cl.scope.names []=aa cl.sz
 kind:cl.scope.kind= .function
 names:∀x∈cl.scope.names,x.2= .local->cl.scope.names.lookup x.1=aa .local
 nd:cl.loc.Nodup
 ndO:(cl.oP.map (·.2)).Nodup
 ndC:(cl.sz.map (·.2)).Nodup
 ltO:∀q∈cl.oP,q.2<fj cl.scope.names
def fO.st (cl:fO) (st:St):St:= {lv:=cl.loc.map λ_=>ac,cv:=(cl.oP.map λ_=>ac)++cl.sz.map λq=>(st.cv[q.2]?).join,ob:=st.ob}
def fO.Lf (cl:fO) (p:Ip) (n:Nat):Ip:= {fi:=n+1,ci:=(cl.oP.map λq=>n+2+q.2)++cl.sz.map λq=>p.ci.getD q.2 0,oi:=p.oi}
def Df {α:Type} {l:List Str} (d:α):∀(m:List α) (b:Nat) (pre:List α),↑pre=b-> ↑l= ↑m->l.zip m=(l.zip (List.range' b ↑l)).map λq=>(q.1,(pre++m).getD q.2 d):=by
 induction l with
 |nil=>exact λ_ _ _ _ _=>rfl
 |cons a l ih=>
  intro m b pre hp h;induction m with
  |nil=>cases h
  |cons x m=>have:=ih m (b+1) (pre++[x]) (by simp[hp]) (lZ h);rw[bF]at this;rw[qy,az,Tj,qy,bw,this];exact congrArg (· ::_) (by simp[hp])
def fO.Ok.cells {cl:fO} (h:cl.Ok lay) (Se: ↑p.ci= ↑lay.nq):j9 (lay.en p).cells cl.scope.names []=aa (cl.sz.map λq=>(q.1,p.ci.getD q.2 0)):=by
 have e:(lay.en p).cells=(lay.nq.zip (cK ↑lay.nq)).map λq=>(q.1,p.ci.getD q.2 0):=by show lay.nq.zip p.ci=_;have:=Df (l:=lay.nq) 0 p.ci 0 [] rfl Se.symm;rw[vA];simpa using this
 rw[e];exact qS (λi=>p.ci.getD i 0) _ _ _ _ h.tA
def fO.Ok.en {cl:fO} (h:cl.Ok lay) (p:Ip) (n:Nat):AU (lay.en p) cl.scope n (cl.sz.map λq=>(q.1,p.ci.getD q.2 0))=(cl.L lay).en (cl.Lf p n):=by
 unfold AU Lay.en fO.L fO.Lf;refine iv.eq ?_;rw[qE,h.own];have zm:∀(l:Sn) (f:NN),(l.map (·.1)).zip (l.map λq=>f q.2)=l.map λq=>(q.1,f q.2):=by
  intro l f;induction l with
  |nil=>rfl
  |cons a l ih=>simp[ih]
 rw[List.zip_append (by simp)];rw[zm cl.oP (λi=>n+2+i),zm cl.sz (λi=>p.ci.getD i 0)]
end
def fO.Gv {cl:fO} (h:decide (cellsFrom 0 cl.scope.names []=cl.oP/\j9 (lay.nq.zip (cK ↑lay.nq)) cl.scope.names []=aa cl.sz/\cl.scope.kind= .function/\(∀x∈cl.scope.names,x.2= .local->cl.scope.names.lookup x.1=aa .local)/\cl.loc.Nodup/\(cl.oP.map (·.2)).Nodup/\(cl.sz.map (·.2)).Nodup/\∀q∈cl.oP,q.2<fj cl.scope.names)=true):cl.Ok lay:=
 xe08 (of_decide_eq_true h) .mk
section
variable {lay:Lay}
def zV {l:Nz} (h:l[i]? =aa n):l.getD i 0=n:=by rw[qz,h];rfl
def fO.Ok.PC {cl:fO} (h:cl.Ok lay):∀q∈cl.sz,q.2< ↑lay.nq:=by refine te (cells:=lay.nq.zip (cK ↑lay.nq)) (n:= ↑lay.nq) (λq hq=> ?_) _ _ _ (λq hq=>by cases hq) h.tA;have:=(Cq hq).2;exact dM.mp this
def fO.Ok.at {cl:fO} (h:cl.Ok lay) {st:St} (bc:At lay p st O) (qw:AO):
  At (cl.L lay) (cl.Lf p ↑O) (cl.st st) (O++(qw:: .ns (cl.loc.map λx=>(x,ac))::bQ (fj cl.scope.names) (.cell ac))):=by
 have J5:=getElem?_lt' bc.frame;have Se:∀(i n:Nat),p.ci[i]? =aa n->n< ↑O:=by
  intro i n hn;have FY:i< ↑st.cv:=by rw[bc.xO,<- bc.Fu];exact getElem?_lt' hn
  let ⟨m,hm,hc⟩:=bc.cells i _ (aq FY);rw[hn]at hm;obtain rfl:=ag hm;exact getElem?_lt' hc
 have W6:∀j,j< ↑st.ob->p.oi j< ↑O:=λj hj=>getElem?_lt' (bc.obs j _ (aq hj));have sJ:∀q∈cl.sz,∃n,p.ci[q.2]? =aa n/\p.ci.getD q.2 0=n/\n< ↑O:=by intro q hq;have hl:=h.PC q hq;rw[<- bc.Fu]at hl;exact⟨p.ci[q.2],aq hl,zV (aq hl),Se q.2 _ (aq hl)⟩
 have NV:∀n,n∈(cl.Lf p ↑O).ci->(∃q∈cl.oP,n= ↑O+2+q.2)\/∃q∈cl.sz,p.ci[q.2]? =aa n/\n< ↑O:=by
  intro n hn;rcases cb.mp hn with hn|hn
  ·let ⟨q,hq,e⟩:=aQ.mp hn;exact .inl ⟨q,hq,e.symm⟩
  ·let ⟨q,hq,e⟩:=aQ.mp hn;left;let ⟨m,h1,h2,h3⟩:=sJ q hq;right;rw[h2]at e;subst e;exact .inr ⟨q,hq,h1,h3⟩
 refine⟨?_,?_,?_,?_,λi v hv=> ?_,λj o ho=>gp (bc.obs j o ho),λhm=> ?_,λj hj e=> ?_,λj hj hm=> ?_,?_,bc.Vf,λhg=>by cases hg⟩
 ·have:(cl.loc.map λx=>((x,ac):Str×Option AV))=cl.loc.zip (TU p.oi (cl.loc.map λ_=>ac)):=by
   clear sJ NV;induction cl.loc with
   |nil=>rfl
   |cons a l ih=>simp[ih]
  show(O++_)[↑O+1]? =aa (.ns (cl.loc.zip (TU p.oi (cl.loc.map λ_=>ac))));rw[aE (bh ..),bO,<- this];rfl
 ·simp[fO.st,fO.L]
 ·simp[fO.st,fO.L]
 ·simp[fO.Lf,fO.L]
 ·have vZ:((cl.oP.map λ_=>(ac:OV))++cl.sz.map λq=>(st.cv[q.2]?).join)[i]? =aa v:=hv;rcases bS i ↑cl.oP with kX|Ak
  ·rw[aW (by simpa using kX),bN,aq kX]at vZ;obtain rfl:=ag vZ;refine⟨↑O+2+(cl.oP[i]).2,?_,?_⟩
   ·show((cl.oP.map λq=> ↑O+2+q.2)++_)[i]? =_;rw[aW (by simpa using kX),bN,aq kX];rfl
   ·have DW:=h.ltO _ (Ap kX);rw[aE (aiI),show ↑O+2+(cl.oP[i]).2- ↑O=(cl.oP[i]).2+1+1 by exact aiJ,il,il,Ik,if_pos DW];rfl
  ·rw[aE (by simpa using Ak),aw,bN]at vZ;simp only[ar]at vZ;let ⟨q,hq,rfl⟩:=vZ;let ⟨n,h1,h2,h3⟩:=sJ q (bo hq);refine⟨n,?_,?_⟩
   ·show(_++cl.sz.map λq=>p.ci.getD q.2 0)[i]? =_;rw[aE (by simpa using Ak),aw,bN,hq,<- h2];rfl
   ·have FY:q.2< ↑st.cv:=by rw[bc.xO,<- bc.Fu];exact getElem?_lt' h1
    left;let ⟨m,hm,hc⟩:=bc.cells q.2 _ (aq FY);right;rw[h1]at hm;obtain rfl:=ag hm;rw[aq FY];exact gp hc
 ·rcases NV _ hm with⟨q,_,e⟩|⟨q,_,_,e⟩
  ·have e': ↑O+1= ↑O+2+q.2:=e;exact aiK e'
  ·have e': ↑O+1< ↑O:=e;exact aiL e'
 ·have e':p.oi j= ↑O+1:=e;have:=W6 j hj;exact aiM this e'
 ·have L2:p.oi j∈(cl.Lf p ↑O).ci:=hm;have:=W6 j hj;rcases NV _ L2 with⟨q,_,e⟩|⟨q,_,e,_⟩
  ·exact aiN this e
  ·exact bc.Ve j hj (bo e)
 ·show((cl.oP.map λq=> ↑O+2+q.2)++cl.sz.map λq=>p.ci.getD q.2 0).Nodup;rw[SQ];refine⟨?_,?_,λa ha b hb e=> ?_⟩
  ·have:=h.ndO;rw[show(cl.oP.map λq=> ↑O+2+q.2)=(cl.oP.map (·.2)).map (↑O+2+ ·) by rw[bD];rfl];exact gX _ (λa b L3=>by exact aiO L3) this
  ·have W5:=h.ndC;have key:∀l:List (Str×Nat),(∀q∈l,q∈cl.sz)->(l.map (·.2)).Nodup->(l.map λq=>p.ci.getD q.2 0).Nodup:=by
    intro l;induction l with
    |nil=>intro _ _;exact kK
    |cons a l ih=>intro hs hn;rw[bw,fE]at hn⊢;refine⟨λhm=> ?_,ih (λq hq=>hs q (aK _ hq)) hn.2⟩;let ⟨b,hb,e⟩:=aQ.mp hm;let ⟨n1,a1,a2,_⟩:=sJ a (hs a ay);let ⟨n2,b1,b2,_⟩:=sJ b (hs b (aK _ hb));rw[a2,b2]at e;subst e;let ⟨x1,y1⟩:=eO.mp a1;let ⟨x2,y2⟩:=eO.mp b1;have:=(Aq bc.WZ).mp (y1.trans y2.symm);exact hn.1 (this▸aQ.mpr ⟨b,hb,rfl⟩)
   exact key _ (λq hq=>hq) W5
  ·subst e;let ⟨q,_,e1⟩:=aQ.mp ha;let ⟨q',S7,e2⟩:=aQ.mp hb;let ⟨n,_,h2,h3⟩:=sJ q' S7;exact aiP e1 h3 e2 h2
noncomputable def dN {β:Type} (tg:CV->St->Option St) (test:St->Option Bool) (inner:List β->St->Option (List β×St)):List PV->List β->St->Option (List β×St)
 | [],dA,st=>aa (dA,st)
 |x::xs,dA,st=>(tg (.pv x) st).bind λst1=>(test st1).bind λb=>cond b ((inner dA st1).bind λr=>dN tg test inner xs r.1 r.2) (dN tg test inner xs dA st1)
def yc:dN tg test inner (x::xs) dA st=(tg (.pv x) st).bind λst1=>(test st1).bind λb=>cond b ((inner dA st1).bind λr=>dN tg test inner xs r.1 r.2) (dN tg test inner xs dA st1):=rfl
structure uq (lay:Lay) (p:Ip) (st:St) (n:Nat):Prop where
 fi:n≠p.fi
 ci:n∉p.ci
 oi:∀j,j< ↑st.ob->n≠p.oi j
structure wI (lay:Lay) (p:Ip) (st:St) (n:Nat) (O bv:List AO):Prop where
 len: ↑bv= ↑O
 out:∀i,i< ↑O->i≠n->i≠p.fi->(∀j,j<lay.own->p.ci[j]? ≠aa i)->(∀j,j< ↑st.ob->i≠p.oi j)->bv[i]? =O[i]?
def wI.refl (p:Ip) (st:St) (n:Nat) (O:List AO):wI lay p st n O O:=⟨rfl,λ_ _ _ _ _ _=>rfl⟩
def wI.trans (h:wI lay p st n O bA) (h':wI lay p L1 n bA bP) (Fz:L1.ob=st.ob):wI lay p st n O bP:=
 ⟨h'.len.trans h.len,λi hi h1 h2 h3 h4=>(h'.out i (h.len▸hi) h1 h2 h3 (Fz▸h4)).trans (h.out i hi h1 h2 h3 h4)⟩
def ku.C (h:ku lay p st cg O bv) (hg:lay.grow=false):wI lay p st n O bv:=⟨(h.len0 hg).1,λi hi _ h2 h3 h4=>h.out i hi h2 h3 h4⟩
def Et {β:Type} (S:cz) (k:Nat) (lay:Lay) (emit:Value->lY->zK Unit) (mk:List β->AO) (f:List β->St->Option (List β×St)):Prop:=
 ∀p O st n dA qJ cg,At lay p st O->uq lay p st n->O[n]? =aa (mk dA)->f dA st=aa (qJ,cg)->vG S k (lay.en p) emit n O (O.set n (mk qJ))/\cg=st
def Dg {β:Type} (S:cz) (k:Nat) (lay:Lay) (gens:List dI) (emit:Value->lY->zK Unit) (mk:List β->AO) (d:Nat) (G:List PV->List β->St->Option (List β×St)):Prop:=
 ∀p O st n dA qJ cg xs ok,At lay p st O->uq lay p st n->O[n]? =aa (mk dA)->(∀bv,(∀j o,st.ob[j]? =aa o->bv[p.oi j]? =aa (o.ao p.oi))->ok bv)->G xs dA st=aa (qJ,cg)->
  ∃bv,Gq S k (lay.en p) gens (vG S k (lay.en p) emit n) d ok O xs bv/\At lay p cg bv/\bv[n]? =aa (mk qJ)/\wI lay p st n O bv/\cg.ob=st.ob
def At.PD (bc:At lay p st O) (ht:uq lay p st n) (o:AO):At lay p st (O.set n o):=by
 have HZ:∀m,m≠n->(O.set n o)[m]? =O[m]? :=λm hm=>bE hm.symm;refine⟨?_,bc.NR,bc.xO,bc.Fu,λi v hv=> ?_,λj x hx=> ?_,bc.Zi,bc.Zj,bc.Ve,bc.WZ,bc.Vf,λhg j=> ?_⟩
 ·exact(HZ _ ht.fi.symm)▸bc.frame
 ·let ⟨m,hm,hc⟩:=bc.cells i v hv;refine⟨m,hm,?_⟩;exact(HZ m (λe=>ht.ci (e▸bo hm)))▸hc
 ·exact(HZ _ (ht.oi j (getElem?_lt' hx)).symm)▸(bc.obs j x hx)
 ·exact(bi).symm▸(bc.next hg j)
def Dg.gen {g:dI} (hd:gens[d]? =aa g) (hgr:lay.grow=false) (ht:Cj S k lay g.target tg) (hi:∀p O st b,At lay p st O->test st=aa b->pj S k O (lay.en p) g.ifs b)
  (W7:∀p bA st n dA Sf DZ,At lay p st bA->uq lay p st n->bA[n]? =aa (mk dA)->inner dA st=aa (Sf,DZ)->
   ∃bP,(∀ok O x xs bv,ok O->C5 S k O (lay.en p) g.target (.pv x) bA->pj S k bA (lay.en p) g.ifs true->Gq S k (lay.en p) gens (vG S k (lay.en p) emit n) d ok bP xs bv->Gq S k (lay.en p) gens (vG S k (lay.en p) emit n) d ok O (x::xs) bv)/\
    At lay p DZ bP/\bP[n]? =aa (mk Sf)/\wI lay p st n bA bP/\DZ.ob=st.ob):Dg S k lay gens emit mk d (dN tg test inner):=by
 intro p O st n dA qJ cg xs ok bc H3 kA nc hG;induction xs generalizing O st dA with
 |nil=>let ⟨rfl,rfl⟩:=bB (ag hG);exact⟨O,.nil (nc O λj o h=>bc.obs j o h),bc,kA,.refl ..,rfl⟩
 |cons x xs ih=>
  rw[yc]at hG;refine a9 hG λst1 h1 hG=>a9 hG λb h2 hG=> ?_;left;let ⟨lK,a1,b1,c1,d1⟩:=ht p O st _ st1 bc h1;have Zs:uq lay p st1 n:=⟨H3.fi,H3.ci,by rw[d1];exact H3.oi⟩;have W8:lK[n]? =aa (mk dA):=(c1.out n (getElem?_lt' kA) H3.fi (λj _ e=>H3.ci (bo e)) H3.oi).trans kA;have ok1:ok O:=nc O λj o h=>bc.obs j o h;induction b with
  |false=>let ⟨bv,e1,e2,e3,e4,e5⟩:=ih _ _ _ b1 Zs W8 (d1▸nc) hG;exact kG ⟨bv,.skip hd ok1 a1 (hi p lK st1 _ b1 h2) e1,e2,e3,(c1.C hgr).trans e4 d1,e5.trans d1⟩
  |true=>refine a9 hG λr h3 hG=> ?_;let ⟨uV,f1,f2,f3,f4,f5⟩:=W7 p lK st1 n dA r.1 r.2 b1 Zs W8 h3;let ⟨bv,e1,e2,e3,e4,e5⟩:=ih _ _ _ f2 ⟨H3.fi,H3.ci,by rw[f5];exact Zs.oi⟩ f3 (by rw[f5,d1];exact nc) hG;exact kG ⟨bv,f1 _ _ _ _ _ ok1 a1 (hi p lK _ _ b1 h2) e1,e2,e3,((c1.C hgr).trans f4 d1).trans e4 (f5.trans d1),e5.trans (f5.trans d1)⟩
def Dg.last
  (hd:gens[d]? =aa g) (hn:gens[d+1]? =ac) (hgr:lay.grow=false) (ht:Cj S k lay g.target tg) (hi:∀p O st b,At lay p st O->test st=aa b->pj S k O (lay.en p) g.ifs b) (he:Et S k lay emit mk f):
  Dg S k lay gens emit mk d (dN tg test f):=
 .gen hd hgr ht hi λp lK st n dA Vp st2 bc H3 kA h3=>by let ⟨m1,rfl⟩:=he p lK st n dA Vp st2 bc H3 kA h3;exact⟨_,λok O x xs bv ok1 a1 i1=> .emit hd hn ok1 a1 i1 m1,bc.PD H3 (mk Vp),bU (getElem?_lt' kA),⟨bi,λi _ h _ _ _=>bE h.symm⟩,rfl⟩
noncomputable def Iq {β:Type} (it:St->Option (List PV)) (G:List PV->List β->St->Option (List β×St)) (dA:List β) (st:St):Option (List β×St):=(it st).bind λxs=>G xs dA st
def Dg.more
  (hd:gens[d]? =aa g) (hn:gens[d+1]? =aa g') (hgr:lay.grow=false) (ht:Cj S k lay g.target tg) (hi:∀p O st b,At lay p st O->test st=aa b->pj S k O (lay.en p) g.ifs b) (hit:Gs S k lay g'.iter it)
  (hG':Dg S k lay gens emit mk (d+1) G):Dg S k lay gens emit mk d (dN tg test (Iq it G)):=
 .gen hd hgr ht hi λp lK st n dA Vp st2 bc H3 kA h3=>a9 h3 λys hy h3=>by let ⟨ok',i1,i2⟩:=hit p lK st ys bc hy;let ⟨uV,f1,f2⟩:=hG' p lK st n dA Vp st2 ys ok' bc H3 kA i2 h3;exact⟨uV,λok O x xs bv ok1 a1 j1=> .inner hd hn ok1 a1 j1 i1 f1,f2⟩
end
section
variable {lay:Lay}
def X1 (hl:∀i,i< ↑O->bv[i]? =O[i]?) (h0:bv[↑O]? =aa a) (h1:bv[↑O+1]? =aa b):∃τ,bv=O++a::b::τ:=by
 have ht:bv.take ↑O=O:=by
  apply rr;intro i;rcases bS i ↑O with(h|h)
  ·rw[lL h];exact hl i h
  ·rw[bC (by rw[cF];exact aa0 h),bC h]
 refine⟨bv.drop (↑O+2),?_⟩;let ⟨l0,e0⟩:=eO.mp h0;let ⟨l1,e1⟩:=eO.mp h1;rw[<- e0,<- e1,<- gU l1,<- gU l0];conv=>lhs;rw[<- nE ↑O bv,ht]
def Eu {fin:List β->PV} {cl:fO}
  (he:mi e gens) (zl:qR e gens emit) (JZ:gens=g::gs) (hg:∀g∈gens,g.is_async=0) (hf:∀g∈gens,∀env x,foldedSetIterable g.iter env x=pure x) (nc:cl.Ok lay)
  (hit:Gs S k lay g.iter it) (hG:Dg S k (cl.L lay) gens emit mk 0 G)
  (kA:∀(A:cS) (s:bb) (E:VS) (Q:VS),Q (.ref s.heap.objs.size) {s with heap:=s.heap.push accObj}->wpAny (MM S.w) A newAcc Q E s) (uM:accObj.isFreed=false)
  (Sa:∀(c:aM) (n:Nat),ic S.w c n accObj (mk [])) (RV:∀(r:List β) (n:Nat) (b:AO) (τ:List AO),Ge (mk r::b::τ) n (.fM (n+0)) (.pv (fin r)))
  (bc:At lay p st O) (hx:it st=aa xs) (hr:G xs [] (cl.st st)=aa (r,cg)):
  ∀(A:cS) (c:aM) (s:bb) (env:lY),jF k A->cY c ↑O (lay.en p) env->Rel S c O s.heap->∀(use:Option (Value->zK Unit)) (E:VS) (Q:VS),
   (∀c' dA s' fa m,aM.le ↑O c c'->Rel S c' O s'.heap->dZ s s'->dk S.w c'.F dA (fin r)->qC c' ↑O fa->s'.heap.Ns fa m->compPost (MM S.w) A E use Q dA fa (.ok .next) s')->
   wpAny (MM S.w) A (comprehension e cl.scope env pos newAcc false (eval g.iter env) use) Q E s:=by
 left;let ⟨ok,i1,i2⟩:=hit p O st xs bc hx;right;have Se:∀(i n:Nat),p.ci[i]? =aa n->n< ↑O:=by
  intro i n hn;have FY:i< ↑st.cv:=by rw[bc.xO,<- bc.Fu];exact getElem?_lt' hn
  let ⟨m,hm,hc⟩:=bc.cells i _ (aq FY);rw[hn]at hm;obtain rfl:=ag hm;exact getElem?_lt' hc
 have H3:uq (cl.L lay) (cl.Lf p ↑O) (cl.st st) ↑O:=by
  refine⟨by show ↑O≠ ↑O+1;exact aiQ,λhm=> ?_,λj hj=> ?_⟩
  ·rcases cb.mp hm with hm|hm
   ·let ⟨q,_,e⟩:=aQ.mp hm;exact aiR e
   ·let ⟨q,hq,e⟩:=aQ.mp hm;have hl:=nc.PC q hq;rw[<- bc.Fu]at hl;have h1:=aq hl;rw[zV h1]at e;have:=Se _ _ h1;exact aa1 this e
  ·have:=(λj hj=>getElem?_lt' (bc.obs j _ (aq hj))) j hj;show ↑O≠p.oi j;exact aa2 this
 left;let ⟨bv,e1,e2,e3,e4,e5⟩:=hG (cl.Lf p ↑O) _ (cl.st st) ↑O [] r cg xs ok (nc.at bc (mk [])) H3 (by rw[aE (ab _),dc];rfl) i2 hr;right;have jM:∀i,i< ↑O->bv[i]? =O[i]? :=by
  intro i hi;by_cases hj:∃j,j< ↑st.ob/\i=p.oi j
  ·let ⟨j,hj,rfl⟩:=hj;exact(e2.obs j st.ob[j] (by rw[e5];exact aq hj)).trans (bc.obs j _ (aq hj)).symm
  ·rw[e4.out i (by rw[aj];exact om6 hi) (aiS hi) (by show i≠ ↑O+1;exact aiT hi) (λj hjo hj'=> ?_) (λj W9 e=>hj ⟨j,W9,e⟩),aW hi];have agm:((cl.oP.map λq=> ↑O+2+q.2)++cl.sz.map λq=>p.ci.getD q.2 0)[j]? =aa i:=hj';have agn:j< ↑cl.oP:=hjo;rw[aW (by simpa using agn),bN,aq agn]at agm;have: ↑O+2+(cl.oP[j]).2=i:=ag agm;exact aiU this hi
 let ⟨τ,hτ⟩:=X1 jM e3 e2.frame;rw[hτ,<- nc.en p ↑O]at e1;intro A c s env hA hE R use E Q hQ;exact ME he zl JZ hg hf (nc.cells (p:=p) bc.Fu) nc.kind nc.names nc.nd i1 kA uM Sa e1 (RV r _ _ _) A c s env hA hE R use E Q hQ
def ei (cl:fO) (it:St->Option (List PV)) (G:List PV->List PV->St->Option (List PV×St)) (st:St):Option CV:=
 (it st).bind λxs=>(G xs [] (cl.st st)).map λr=> .pv (.lst r.1)
def yU (A:cS) (s:bb) (E:VS) (Q:VS) (h:Q (.ref s.heap.objs.size) {s with heap:=s.heap.push {cls:= .type "list",data:= .seq #[]}}):wpAny (MM w) A (newList []) Q E s:=wpAny_newList h (cI _)
def AW (c:aM) (n:Nat):ic w c n {cls:= .type "list",data:= .seq #[]} (.list []):= .list rfl λi v d h=>by simp at h
def cJ.Gw
  (nc:cl.Ok lay) (Zt:scope=cl.scope) (hg:∀g∈gs,g.is_async=0) (hf:∀g∈(⟨cD,kB,IA,0⟩::gs:List dI),∀env x,foldedSetIterable g.iter env x=pure x)
  (hit:Gs S k lay kB it) (hG:Dg S k (cl.L lay) (⟨cD,kB,IA,0⟩::gs) (Dd FW) AO.list 0 G):cJ S k lay (.ListComp FW (⟨cD,kB,IA,0⟩::gs) scope pos) (ei cl it G):=by
 intro p O st v bc JY;subst Zt;unfold ei at JY;simp only[aG,ar]at JY;left;let ⟨xs,hx,⟨r,cg⟩,hr,rfl⟩:=JY;right;refine Ev.Pz λA c s env hA hE R E Q hQ=> ?_;have wi:∀g∈(⟨cD,kB,IA,0⟩::gs:List dI),g.is_async=0:=λg h=>by
  rcases aH.mp h with e|e
  ·subst e;rfl
  ·exact hg g e
 exact Eu (fin:=PV.lst) (pos:=kB.pos) (mi.list ..) (De FW _ _ _) rfl wi hf nc hit hG yU rfl AW (λr n b τ=> .list rfl) bc hx hr A c s env hA hE R ac E Q hQ
def wJ:∀p O st b,At lay p st O->fG st=aa b->pj S k O (lay.en p) [] b:=λp O st b _ h=>by obtain rfl:=ag h;exact pj.nil
def zW (h:AH S k lay t f):∀p O st b,At lay p st O->f st=aa b->pj S k O (lay.en p) [t] b:=λp O st b bc hf=>pj.one (h p O st b bc hf)
def gO (f:EF) (dA:List PV) (st:St):Option (List PV×St):=((f st).bind CV.aP).bind λd=>if ↑dA<100000 then aa (dA++[d],st) else ac
def Rel.PE {vs:Array Value} {v:Value} {L:List PV} {e:Nat} (R:Rel S c O h) (hj:j< ↑O) (hk:rp (c.Z j) h h') (ho:h'.get? (c.Z j)=aa {cls:= .type "list",data:= .seq (vs.push v) e}) (hs:vs.size= ↑L)
  (hp:∀(i:Nat) (v:Value) (d:PV),vs[i]? =aa v->L[i]? =aa d->dk S.w c.F v d) (hv:dk S.w c.F v d):Rel S c (O.set j (.list (L++[d]))) h':=by
 refine R.set hj hk ho (.list (by rw[Array.size_push,aj,be,hs]) λi v x vZ hx=> ?_);rcases eH i ↑L with(hi|hi|hi)
 ·rw[aW hi]at hx;rw[Im (Ct hi hs)]at vZ;exact hp i v x (by rw[qO (Ct hi hs)];exact vZ) hx
 ·subst hi;rw[aE (ab _),dc]at hx;rw[<- hs,FV]at vZ;obtain rfl:=ag hx;obtain rfl:=ag vZ;exact hv
 ·rw[bC (by rw[aj];exact hi)]at hx;exact gr hx
def Et.list (h:cJ S k lay FW f):Et S k lay (Dd FW) AO.list (gO f):=by
 intro p O st n dA qJ cg bc H3 kA hf;refine a9 hf λd hd hf=>a9 hd λ_ hd e=> ?_;rw[CV.kP e]at hd;let ⟨hsz,hf⟩:=dT hf;let ⟨rfl,rfl⟩:=bB hf;have J6:=getElem?_lt' kA;refine⟨⟨by rw[bi];exact ab _,λA c s env av hA hE R ha E Q hQ=> ?_⟩,rfl⟩;unfold Dd;refine am ((h p O st _ bc hd).run A c s env hA hE R _ _ λc1 v1 s1 l1 R1 K1 a1=> ?_);let ⟨rfl,kX⟩:=(ha.mono l1 (ab _)).zy;let ⟨o,ho,hr⟩:=R1.own _ _ kA;let ⟨vs,e,rfl,hs,hp⟩:=hr.yP;have Sg:vs.size<=sizeLine:=by have:sizeLine=2 ^ 24:=rfl;exact XJ hs this hsz
 refine am (uX (hsz:=Sg) ⟨_,ho⟩ λh' Sh hk=> ?_);let ⟨e',sd⟩:=Sh;exact aR (hQ c1 _ l1 (R1.PE kX hk.extBut sd hs hp a1.gh) (K1.trans (.gF ..)))
end
section
variable {lay:Lay}
def Pairs.at {es:List eL} {kvs:List (Str×Value)} (h:Pairs (strKind pw w) es kvs):∀(i:Nat) (e:eL) (p:Str×Value),es[i]? =aa e->kvs[i]? =aa p->(∃t,e.key= .str p.1 t)/\e.val=p.2:=by
 induction h with
 |nil=>exact λi e p h=>gr h
 |cons h1 h2 _ ih=>
  intro i e p a b;induction i with
  |zero=>obtain rfl:=ag a;obtain rfl:=ag b;exact⟨wa h1,h2⟩
  |succ i=>exact ih i e p a b
def ic.PF {h:iS} (hd:h.DictOf (strKind pw w) a kvs) (hk:kvs.map (·.1)=l.map (·.1))
  (hv:∀(i:Nat) (p:Str×Value) (q:Str×PV),kvs[i]? =aa p->l[i]? =aa q->dk w c.F p.2 q.2):∃o,h.get? a=aa o/\ic w c n o (.dict l):=by
 left;let ⟨o,es,ep,ho,⟨h1,h2,h3⟩,ago,L4,hp,nd⟩:=hd;have cH: ↑kvs= ↑l:=by have:=congrArg eX hk;simpa using this
 right;have heq:o= {cls:= .type "dict",data:= .dict es ep}:=by let ⟨oc,od,odd,os⟩:=o;simp only at h1 h2 h3 ago;subst h1 h2 h3 ago;rfl
 subst heq;have key:∀(i:Nat) (e:eL) (q:Str×PV),es[i]? =aa e->l[i]? =aa q->∃p,kvs[i]? =aa p/\p.1=q.1:=by
  intro i e q h1 h2;have hi:i< ↑kvs:=by rw[cH];exact getElem?_lt' h2
  refine⟨kvs[i],aq hi,?_⟩;have e1:(kvs.map (·.1))[i]? =aa kvs[i].1:=by rw[bN,aq hi];rfl
  rw[hk,bN,h2]at e1;exact(ag e1).symm
 refine⟨_,ho,.dict (by rw[<- cH,<- ↑hp,bx]) (hk▸nd) (λi e k d h1 h2=> ?_) λi e k d h1 h2=> ?_⟩
 ·let ⟨p,W4,L5⟩:=key i e _ h1 h2;let ⟨⟨t,ht⟩,_⟩:=Pairs.at hp i e p (by rw[fS];exact h1) W4;rw[L5]at ht;refine⟨?_,t,ht⟩;let ⟨k',H4,H5⟩:=L4 e (Iz h1);let ⟨t',ht'⟩:=wa H4;rw[ht]at ht';injection ht' with e1 _;rw[H5,<- e1];rfl
 ·let ⟨p,W4,_⟩:=key i e _ h1 h2;let ⟨_,he⟩:=Pairs.at hp i e p (by rw[fS];exact h1) W4;rw[he];exact hv i p _ W4 h2
def jP.vals (h:jP w F es l kvs):∀(i:Nat) (p:Str×Value) (q:Str×PV),kvs[i]? =aa p->l[i]? =aa q->dk w F p.2 q.2:=by
 induction h with
 |nil=>intro i p q a;simp at a
 |cons _ _ hv _ ih=>
  intro i p q a b;induction i with
  |zero=>obtain rfl:=ag a;obtain rfl:=ag b;exact hv
  |succ i=>exact ih i p q a b
def th (f g:EF) (dA:Sp) (st:St):Option (List (Str×PV)×St):=((f st).bind CV.aS).bind λx=>((g st).bind CV.aP).bind λd=>if ↑dA<100000/\dA.lookup x=ac then aa (dA++[(x,d)],st) else ac
def stored_new {kvs:List (Str×Value)} {k:Str} {v:Value} (h:k∉kvs.map (·.1)):stored kvs k v=kvs++[(k,v)]:=by unfold stored;rw[if_neg];intro ha;let ⟨p,hp,e⟩:=Ar.mp ha;exact h (aQ.mpr ⟨p,hp,of_decide_eq_true e⟩)
def lookup_none {l:List (Str×α)} (h:l.lookup x=ac):x∉l.map (·.1):=by intro hm;let ⟨p,hp,e⟩:=aQ.mp hm;have:=sC.mp h p hp;rw[e]at this;simp at this
def PG {c:aM} {O:List AO} {n:Nat} {dA:Sp} {x:Str} {t:CU} {v:Value} {d:PV} {s:bb} {A:cS} {E:VS} {Q:Unit->bb->Prop} (R:Rel S c O s.heap) (kA:O[n]? =aa (.dict dA)) (hn:x∉dA.map (·.1)) (hsz: ↑dA<100000) (hv:dk S.w c.F v d)
  (hQ:∀s',Rel S c (O.set n (.dict (dA++[(x,d)]))) s'.heap->dZ s s'->Q () s'):wpAny (MM S.w) A (dictSet (c.Z n) (.str x t) v) Q E s:=by
 have J6:=getElem?_lt' kA;left;let ⟨a,es,m,kvs,e,_,ho,nd,hp⟩:=(S0.fM kA).at R (v:= .ref (c.Z n)) (.fM J6);right;cases e;have hm:=mJ (hp.dictOf ho nd);have cH: ↑kvs= ↑dA:=by have:=congrArg eX hp.keys;simpa using this
 have hs:sizeLine=2 ^ 24:=rfl;refine wpAny_dictSet_pairs (knd:=strKind pw S.w) (k:=x) (by exact beq_self_eq_true x) hm (λh' L2 qd=> ?_) (by exact XJ cH hs hsz);rw[stored_new (by rw[hp.keys];exact hn)]at L2;let ⟨o,sd,hr⟩:=ic.PF (c:=c) (n:= ↑O) (l:=dA++[(x,d)]) L2 (by rw[bH,bH,hp.keys];rfl) (λi p q a b=>by
  rcases eH i ↑dA with hi|hi|hi
  ·rw[aW (by exact Ct hi cH)]at a;rw[aW hi]at b;exact hp.vals i p q a b
  ·rw[aE (by exact XM cH hi),show i- ↑kvs=0 by exact aa3 hi cH]at a;rw[aE (by exact Tz hi),show i- ↑dA=0 by exact aa4 hi]at b;cases a;cases b;exact hv
  ·rw[bC (by simp;exact XK hi)]at b;cases b)
 exact hQ _ (R.set J6 qd.extBut sd hr) (.heap ..)
def Et.dict {kx vx:Expr} {f g:EF} (h1:cJ S k lay kx f) (h2:cJ S k lay vx g):Et S k lay (Gn kx vx) AO.dict (th f g):=by intro p O st n dA qJ cg bc H3 kA hf;refine a9 hf λx hx hf=>a9 hx λ_ hx e1=>a9 hf λd hd hf=>a9 hd λ_ hd e2=> ?_;rw[CV.kS e1]at hx;rw[CV.kP e2]at hd;let ⟨hsz,hf⟩:=dT hf;let ⟨rfl,rfl⟩:=bB hf;refine⟨⟨by rw[bi];exact ab _,λA c s env av hA hE R ha E Q hQ=> ?_⟩,rfl⟩;unfold Gn;refine am ((h1 p O st _ bc hx).run A c s env hA hE R _ _ λc1 v1 s1 l1 R1 K1 a1=> ?_);refine am (dH ((h2 p O st _ bc hd).run A c1 s1 env hA (hE.mono l1 (ab _)) R1 _ _ λc2 v2 s2 l2 R2 K2 a2=> ?_));have uL:=l1.trans l2 (ab _);have Zu:=ha.mono uL (ab _);have JX:=a1.gh;let ⟨t,rfl⟩:=JX.mG;let ⟨rfl,kX⟩:=Zu.zy;refine am (cV (dH (PG R2 kA (lookup_none hsz.2) hsz.1 a2.gh λs' R3 K3=>hQ c2 s' uL R3 ((K1.trans K2).trans K3))))
def lz (cl:fO) (it:St->Option (List PV)) (G:List PV->List (Str×PV)->St->Option (List (Str×PV)×St)) (st:St):Option CV:=
 (it st).bind λxs=>(G xs [] (cl.st st)).map λr=> .pv (.oO r.1)
def cJ.afp
  (nc:cl.Ok lay) (Zt:scope=cl.scope) (hg:∀g∈gs,g.is_async=0) (hf:∀g∈(⟨cD,kB,IA,0⟩::gs:List dI),∀env x,foldedSetIterable g.iter env x=pure x)
  (hit:Gs S k lay kB it) (hG:Dg S k (cl.L lay) (⟨cD,kB,IA,0⟩::gs) (Gn kx vx) AO.dict 0 G):cJ S k lay (.DictComp kx vx (⟨cD,kB,IA,0⟩::gs) scope pos) (lz cl it G):=by
 intro p O st v bc JY;subst Zt;unfold lz at JY;simp only[aG,ar]at JY;left;let ⟨xs,hx,⟨r,cg⟩,hr,rfl⟩:=JY;right;refine Ev.Pz λA c s env hA hE R E Q hQ=> ?_;have wi:∀g∈(⟨cD,kB,IA,0⟩::gs:List dI),g.is_async=0:=λg h=>by
  rcases aH.mp h with e|e
  ·subst e;rfl
  ·exact hg g e
 exact Eu (fin:=PV.oO) (pos:=kB.pos) (accObj:= {cls:= .type "dict",data:= .dict #[]}) (newAcc:=newDict) (mi.dict ..) (MC kx vx _ _ _) rfl wi hf nc hit hG (λA s E Q h=>iH h) rfl
  (λc n=> .dict rfl kK (λi e k d h=>by simp at h) λi e k d h=>by simp at h) (λr n b τ=> .dict rfl) bc hx hr A c s env hA hE R ac E Q hQ
end
def i6.IS
  (hc:∀(A:cS) (c:aM) (s:bb) (env:lY),jF k A->cY c ↑O ae env->Rel S c O s.heap->∀(u:Value->zK Unit) (E:VS) (Q:Unit->bb->Prop),
   (∀c' dA s' fa m,aM.le ↑O c c'->Rel S c' O s'.heap->dZ s s'->dk S.w c'.F dA d->qC c' ↑O fa->s'.heap.Ns fa m->compPost (MM S.w) A E (aa u) (λ_ s=>Q () s) dA fa (.ok .next) s')->
   wpAny (MM S.w) A (evalThenUse gQ env u) Q E s)
  (h2:jK S O ae x (.pv d) bv) (hs:(λenv:lY=>swapsWith gQ (aa (.Name x jW)) pos.line {env with scope:=ae.scope})=λ_=>pure true):i6 S k O ae (.Assign [.Name x jW] gQ pos) .next bv:=by
 refine⟨h2.len,λA c s env hA hE R E Q hQ=> ?_⟩;rw[exec_Assign_Name_used _ _ _ _ (scp (F:=swapsWith gQ (aa (.Name x jW)) pos.line) hs hE.scope)];refine am (cV (am (hc A c s env hA hE R _ _ _ λc1 dA s1 fa m l1 R1 K1 a1 hfa tZ=> ?_)));show wpAny _ A (pG (Expr.Name x jW) env dA) _ _ _;left;let ⟨o,es,ep,ho,hd,hk,hm⟩:=tZ;have R1':Rel S (c1.pinned [(fa,o)]) O s1.heap:=R1.pinned (λp hp=>by rw[aC]at hp;subst hp;exact hfa) λp hp=>by rw[aC]at hp;subst hp;exact ho
 right;refine(C5.name (k:=k) h2).run A _ s1 env dA hA ((hE.mono l1 (ab _)).pinned) R1' (.pv a1) _ _ λc2 s2 l2 R2 K2=> ?_;have L5:c2.pin fa=aa o:=by rw[l2.pin];exact aM.lF ..
 refine⟨m,⟨o,es,ep,(R2.pins _ _ L5).1,hd,hk,hm⟩,λh' qd=> ?_⟩;refine aR (hQ {c2 with pin:=λa=>if a=fa then ac else c2.pin a} .next _ ⟨λa y e=>l2.F a y (l1.F a y e),λi hi=>(l2.Z i hi).trans (l1.Z i hi),?_⟩ (R2.Gl L5 qd.extBut) ((K1.trans K2).trans (.gF ..)) .next);funext a;show(if a=fa then ac else c2.pin a)=c.pin a;by_cases ha:a=fa
 ·subst ha;rw[if_pos rfl,<- l1.pin];exact hfa.pin.symm
 ·rw[if_neg ha,l2.pin,<- l1.pin];show(gP a [(fa,o)]).or (c1.pin a)=c1.pin a;rw[di,beq_false_of_ne ha];rfl
section
variable {lay:Lay}
def ms.yV
  (nc:cl.Ok lay) (Zt:scope=cl.scope) (hg:∀g∈gs,g.is_async=0) (hf:∀g∈(⟨cD,kB,IA,0⟩::gs:List dI),∀env x,foldedSetIterable g.iter env x=pure x)
  (hit:Gs S k lay kB it) (hG:Dg S k (cl.L lay) (⟨cD,kB,IA,0⟩::gs) (Dd FW) AO.list 0 G) (h:lay.nk i x=true)
  (hs:(λenv:lY=>swapsWith (.ListComp FW (⟨cD,kB,IA,0⟩::gs) scope FA) (aa (.Name x jW)) pos.line {env with scope:=lay.scope})=λ_=>pure true):
  ms S k lay (.Assign [.Name x jW] (.ListComp FW (⟨cD,kB,IA,0⟩::gs) scope FA) pos) (bZ (ei cl it G) (bf i)):=by
 intro p O st fl cg bc JY;subst Zt;unfold bZ at JY;simp only[ar,aG]at JY;let ⟨st1,⟨v,hv,ht⟩,e⟩:=JY;let ⟨rfl,rfl⟩:=bB e;obtain rfl:=ag ht;unfold ei at hv;simp only[aG,ar]at hv;left;let ⟨xs,hx,⟨r,cg⟩,hr,rfl⟩:=hv;let ⟨bv,a,b,c⟩:=bc.ie (S:=S) h (.pv (.lst r));right;have wi:∀g∈(⟨cD,kB,IA,0⟩::gs:List dI),g.is_async=0:=λg h=>by
  rcases aH.mp h with e|e
  ·subst e;rfl
  ·exact hg g e
 refine⟨bv,i6.IS (d:= .lst r) (λA c s env hA hE R u E Q hQ=> ?_) a hs,b,c⟩;rw[arm_evalThenUse_ListComp];refine am (Eu (fin:=PV.lst) (pos:=kB.pos) (mi.list ..) (De FW _ _ _) rfl wi hf nc hit hG yU rfl AW (λr n b τ=> .list rfl) bc hx hr A c s env hA hE R (aa u) E _ λc' dA s' fa m a b d e f g=> ?_);have:=hQ c' dA s' fa m a b d e f g;unfold compPost at this⊢;exact fZ this (λ_ D0 ⟨m,h1,h2⟩=>⟨m,h1,λh' hh=>aR (h2 h' hh)⟩) λ_ _ x=>x
def hV (S:cz) (k:Nat) (r:eh) (g:List PV->Option PV):Prop:=∀(O:List AO) (ds:List PV) (d:PV),g ds=aa d->dy S k O (.pv (.con (.ref r.addr))) (ds.map AV.pv) [] (.pv d) O
def kb (g:List PV->Option PV) (fa:St->Option (List CV)) (st:St):Option CV:=(((fa st).bind Mx).bind g).map .pv
def dy.AI (h:dy S k O f args kw d bv) (hk:k<=k'):dy S k' O f args kw d bv:=
 ⟨h.len,λA c s fv vs kvs hA=>h.run A c s fv vs kvs (hA.le hk)⟩
def cJ.Ew (hd:hV S k' r g) (hk:k'<=k) (hr:r∈fV) (h:lay.mh f=true) (hg:(f,aa (.ref r.addr))∈cf)
  (ha:pS S k lay args fa):cJ S k lay (.Call (.Name f np) args [] pos) (kb g fa):=by
 intro p O st v bc hf;unfold kb at hf;simp only[ar,aG]at hf;left;let ⟨d,⟨ds,⟨l,hl,hp⟩,hgd⟩,rfl⟩:=hf;have hA:=ha p O st l bc hl;right;rw[wD hp]at hA;exact Ev.md hr (Ev.Gi h hg) hA .nil ((hd O ds d hgd).AI hk)
end
def Ev.newList:Ev S k O ae (.List [] pos) (.fM ↑O) (O++[.list []]):=by refine⟨by rw[aj];exact bh _ _,λA c s env hA hE R E Q hQ=> ?_⟩;refine wpAny_List (eB ⟨cI _,?_⟩);refine hQ (c.own ↑O s.heap.objs.size) _ _ aM.jc (R.Az (λb o e=>aJ _ e) (ab _) (aV _ rfl) (AW _ _)) (.gF ..) ?_;have hv:cT S.w (c.own ↑O s.heap.objs.size) ↑(O++[AO.list []]) (.ref ((c.own ↑O s.heap.objs.size).Z ↑O)) (.fM ↑O):= .fM (by rw[aj,be];exact ez _);rw[(aM.ma ..)]at hv;exact hv
def Ev.newDict:Ev S k O ae (.Dict [] [] pos) (.fM ↑O) (O++[.dict []]):=by
 refine⟨by rw[aj];exact bh _ _,λA c s env hA hE R E Q hQ=> ?_⟩;rw[eval_Dict_empty];refine am (cV (iH ?_));refine hQ (c.own ↑O s.heap.objs.size) _ _ aM.jc (R.Az (λb o e=>aJ _ e) (ab _) (aV _ rfl)
  (.dict rfl kK (λi e k d h=>by simp at h) λi e k d h=>by simp at h)) (.gF ..) ?_
 have hv:cT S.w (c.own ↑O s.heap.objs.size) ↑(O++[AO.dict []]) (.ref ((c.own ↑O s.heap.objs.size).Z ↑O)) (.fM ↑O):= .fM (by rw[aj,be];exact ez _);rw[(aM.ma ..)]at hv;exact hv
section
variable {lay:Lay}
def alloc (o:CO) (st:St):St:= {st with ob:=st.ob++[o]}
def At.alloc (bc:At lay p st O) (hg:lay.grow=true) (o:CO):At lay p (alloc o st) (O++[o.ao p.oi])/\ku lay p st (alloc o st) O (O++[o.ao p.oi])/\p.oi ↑st.ob= ↑O:=by
 have hn:=bc.next hg;have h0:p.oi ↑st.ob= ↑O:=by have:=hn 0;simpa using this
 have Se:∀(i n:Nat),p.ci[i]? =aa n->n< ↑O:=by
  intro i n hn;have FY:i< ↑st.cv:=by rw[bc.xO,<- bc.Fu];exact getElem?_lt' hn
  left;let ⟨m,hm,hc⟩:=bc.cells i _ (aq FY);right;rw[hn]at hm;obtain rfl:=ag hm;exact getElem?_lt' hc
 have W6:∀j,j< ↑st.ob->p.oi j< ↑O:=λj hj=>getElem?_lt' (bc.obs j _ (aq hj));have cH:(Mine.alloc o st).ob.length= ↑st.ob+1:=by show ↑(st.ob++[o])=_;rw[aj,be]
 refine⟨⟨gp bc.frame,bc.NR,bc.xO,bc.Fu,λi v hv=> ?_,λj x hx=> ?_,bc.Zi,λj hj=> ?_,λj hj=> ?_,bc.WZ,λi j hi hj e=> ?_,λ_ j=> ?_⟩,⟨?_,(λh=>by rw[hg]at h;nomatch h),(by rw[cH];exact F7),λi hi _ _ _=>aW hi⟩,h0⟩
 ·let ⟨n,h1,h2⟩:=bc.cells i v hv;exact⟨n,h1,gp h2⟩
 ·have sM:(st.ob++[o])[j]? =aa x:=hx;rcases eH j ↑st.ob with h|h|h
  ·rw[aW h]at sM;exact gp (bc.obs j x sM)
  ·subst h;rw[aE (ab _),dc]at sM;obtain rfl:=ag sM;rw[h0,aE (ab _),dc];rfl
  ·rw[bC (by rw[aj,be];exact XK h)]at sM;nomatch sM
 ·rw[cH]at hj;rcases bS j ↑st.ob with h|h
  ·exact bc.Zj j h
  ·rw[show j= ↑st.ob by exact TA hj h,h0];exact aa2 (getElem?_lt' bc.frame)
 ·rw[cH]at hj;rcases bS j ↑st.ob with h|h
  ·exact bc.Ve j h
  ·rw[show j= ↑st.ob by exact TA hj h,h0];intro hm;let ⟨i,hi,e⟩:=wm hm;have:=Se i _ (aq hi);rw[e]at this;exact aa5 this
 ·rw[cH]at hi hj;rcases bS i ↑st.ob with h|h<;>rcases bS j ↑st.ob with h'|h'
  ·exact bc.Vf i j h h' e
  ·have e1:=W6 i h;rw[e,show j= ↑st.ob by exact TA hj h',h0]at e1;exact aa6 e1
  ·have e1:=W6 j h';rw[<- e,show i= ↑st.ob by exact TA hi h,h0]at e1;exact aa6 e1
  ·exact aa7 hi hj h h'
 ·rw[cH,show ↑st.ob+1+j= ↑st.ob+(j+1) by exact aa8,hn (j+1),aj,be];exact Ky
 ·rw[aj];exact OP
def Cx (o:CO) (tg:CV->St->Option St) (st:St):Option (pn×St):=(tg (.ob ↑st.ob) (alloc o st)).map λcg=>(.next,cg)
def ms.newObj (hg:lay.grow=true) (hv:∀(O:List AO) (ae:iv) (oi:NN),Ev S k O ae gQ (.fM ↑O) (O++[o.ao oi]))
  (h2:∀(p:Ip) (O:List AO) (st:St) (v:CV) (cg:St),At lay p st O->tg v st=aa cg->∃bv,jK S O (lay.en p) x (v.av p.oi) bv/\At lay p cg bv/\ku lay p st cg O bv)
  (hs:swapsWith gQ (aa (.Name x jW)) pos.line=λ_=>pure false):ms S k lay (.Assign [.Name x jW] gQ pos) (Cx o tg):=by
 intro p O st fl cg bc hf;unfold Cx at hf;simp only[ar]at hf;left;let ⟨st1,ht,e⟩:=hf;let ⟨rfl,rfl⟩:=bB e;let ⟨a1,b1,c1⟩:=bc.alloc hg o;let ⟨bv,a,b,c⟩:=h2 p _ _ _ _ a1 ht;right;refine⟨bv,i6.assign (hv O (lay.en p) p.oi) ?_ (λenv _=>congrFun hs env),b,b1.trans c bc⟩;exact((by show AV.fM (p.oi ↑st.ob)=_;rw[c1]))▸a
def ms.Gx (hg:lay.grow=true) (h:lay.nk i x=true):ms S k lay (.Assign [.Name x jW] (.List [] agq) pos) (Cx (.list []) (bf i)):=
 ms.newObj hg (λO ae oi=>Ev.newList) (λp O st v cg bc hf=>by obtain rfl:=ag hf;exact bc.ie h v) pp
end
def mV (h:n<100000):n<=sizeLine:=by have:sizeLine=2 ^ 24:=rfl;exact aa9 h this
def AX {h:iS} (f:Array Value->Array Value) (ho:h.get? a=aa {cls:=T,data:= .seq vs e}):
  ∃e',(h.update a (Obj.mapSeq f)).get? a=aa {cls:=T,data:= .seq (f vs) e'}:=by
 have hm:∃e',Obj.mapSeq f {cls:=T,data:= .seq vs e}= {cls:=T,data:= .seq (f vs) e'}:=⟨_,rfl⟩;let ⟨e',he⟩:=hm;exact⟨e',by rw[uP _ ho (by rw[he];rfl),he]⟩
def nr.append (hi:O[i]? =aa (.list l)) (hsz: ↑l<100000):nr S k O (.builtin "list.append") [.fM i,.pv d] (.pv PV.none) (O.set i (.list (l++[d]))):=by refine⟨by rw[bi];exact ab _,λA c s vs hA R ha E Q hQ=> ?_⟩;refine ha.n2 (P:=λvs=>wpAny _ _ (call _ vs) _ _ _) λ_ _ a1 a2=> ?_;let ⟨rfl,kX⟩:=a1.zy;let ⟨o,ho,hr⟩:=R.own _ _ hi;let ⟨vs,e,rfl,hs,hp⟩:=hr.yP;refine uX (hsz:=mV (by simp_all)) ⟨_,ho⟩ λh' Sh hk=> ?_;let ⟨e',sd⟩:=Sh;exact hQ c _ _ (.refl ..) (R.PE kX hk.extBut sd hs hp a2.gh) (.gF ..) (.pv (.con _))
noncomputable def uR {α:Type} (n:Nat) (d:α) (l:List α):List α:=l.take n++d::l.drop n
def nr.insert {n:Nat} (hm:m=(n:Int)) (hi:O[i]? =aa (.list l)) (hsz: ↑l<100000) (hn:n<= ↑l):
  nr S k O (.builtin "list.insert") [.fM i,.pv (.int m),.pv d] (.pv PV.none) (O.set i (.list (uR n d l))):=by
 refine⟨by rw[bi];exact ab _,λA c s vs hA R ha E Q hQ=> ?_⟩;refine ha.n3 (P:=λvs=>wpAny _ _ (call _ vs) _ _ _) λ_ _ v3 a1 a2 a3=> ?_;let ⟨rfl,kX⟩:=a1.zy;let ⟨o,ho,hr⟩:=R.own _ _ hi;let ⟨vs,e,rfl,hs,hp⟩:=hr.yP;have DX:=a2.gh;let ⟨t,rfl⟩:=DX.kQ;have JW:¬(!iq m)=true:=by unfold iq;simp;exact aba hm hn hsz
 have Sg:vs.size<=sizeLine:=mV (OQ hs hsz);refine Kl F.slot_list_insert ⟨_,ho,rfl⟩ F.entry_list_insert (F.args_list_insert_3 _ _ _) ((((@AutoSeq1.list_insert_list_int_val_1 (c.Z i) vs e) m t v3) JW) Sg) ⟨ho,?_⟩;generalize hF:(λxs:Array Value=>have k:=if m<0 then(m+(xs.size:Int)).toNat else min m.toNat xs.size;(xs.extract 0 k).push v3++xs.extract k)=F;let ⟨e',sd⟩:=AX F ho;have hFv:(F vs).toList=uR n v3 vs.toList:=by
  rw[<- hF];have hk:(if m<0 then(m+(vs.size:Int)).toNat else min m.toNat vs.size)=n:=by rw[if_neg (abb hm)];exact abc hm hs hn
  show((vs.extract 0 (if m<0 then(m+(vs.size:Int)).toNat else min m.toNat vs.size)).push v3++vs.extract (if m<0 then(m+(vs.size:Int)).toNat else min m.toNat vs.size)).toList=_;rw[hk];unfold uR;simp;exact eP (by rw[fH,bx];exact ab _)
 refine hQ c _ _ (.refl ..) (R.set kX (λb o hb e=>(mR ..).extBut b o hb e) sd ?_) (.gF ..) (.pv (.con _));refine .list (by rw[<- bx,hFv,(by unfold uR;rw[aj,cF,az,fH];exact VQ: ↑(uR n d l)= ↑l+1)];unfold uR;rw[aj,cF,az,fH,bx];exact abd hs) λi v x hv hx=> ?_;rw[<- fS,hFv]at hv;unfold uR at hv hx;rcases eH i n with h|h|h
 ·rw[aW (by rw[cF,bx];exact abe h hn hs),lL h]at hv;rw[aW (by rw[cF];exact abf h hn),lL h]at hx;exact dk.TP hp i v x hv hx
 ·subst h;rw[aE (by rw[cF,bx];exact VR),cF,bx,show i- min i vs.size=0 by exact abg hn hs]at hv;rw[aE (by rw[cF];exact VR),cF,show i- min i ↑l=0 by exact abh hn]at hx;obtain rfl:=ag hv;obtain rfl:=ag hx;exact a3.gh
 ·rw[aE (by rw[cF,bx];exact VT h),cF,bx,show i- min n vs.size=(i- n- 1)+1 by exact abi h hn hs,il,OF]at hv;rw[aE (by rw[cF];exact VT h),cF,show i- min n ↑l=(i- n- 1)+1 by exact abj h hn,il,OF]at hx;exact dk.TP hp _ v x hv hx
def nr.pop {n:Nat} (hm:m=(n:Int)) (hi:O[i]? =aa (.list l)) (hsz: ↑l<100000) (hn:l[n]? =aa d):
  nr S k O (.builtin "list.pop") [.fM i,.pv (.int m)] (.pv d) (O.set i (.list (l.eraseIdx n))):=by
 refine⟨by rw[bi];exact ab _,λA c s vs hA R ha E Q hQ=> ?_⟩;refine ha.n2 (P:=λvs=>wpAny _ _ (call _ vs) _ _ _) λ_ _ a1 a2=> ?_;let ⟨rfl,kX⟩:=a1.zy;let ⟨o,ho,hr⟩:=R.own _ _ hi;let ⟨vs,e,rfl,hs,hp⟩:=hr.yP;have DX:=a2.gh;let ⟨t,rfl⟩:=DX.kQ;have J6:=getElem?_lt' hn;have JW:iq m=true:=by unfold iq;simp;exact abk hm J6 hsz
 let ⟨y,hy⟩:=uk hs hn;have Sg:vs.size<=sizeLine:=mV (OQ hs hsz);refine Kl F.slot_list_pop ⟨_,ho,rfl⟩ F.entry_list_pop (F.args_list_pop_2 _ _) (MeetsSeq.list_pop_at (c.Z i) vs e m t n y JW (by rw[VB (abl hm) (abm hm hs J6)];congr 1;exact abn hm) hy Sg) ⟨ho,?_⟩;let ⟨e',sd⟩:=AX (λxs=>xs.eraseIdxIfInBounds n) ho;have hF:(vs.eraseIdxIfInBounds n).toList=vs.toList.eraseIdx n:=by simp
 refine hQ c _ _ (.refl ..) (R.set kX (λb o hb e=>(mR ..).extBut b o hb e) sd ?_) (.gF ..) (.pv (hp n _ _ hy hn));refine .list (by rw[<- bx,hF,D4 (by rw[bx];exact Ct J6 hs),D4 J6,bx,hs]) λi v x hv hx=> ?_;rw[<- fS,hF]at hv;rw[List.getElem?_eraseIdx]at hv hx;by_cases h:i<n
 ·rw[if_pos h]at hv hx;exact dk.TP hp i v x hv hx
 ·rw[if_neg h]at hv hx;exact dk.TP hp (i+1) v x hv hx
section
variable {lay:Lay}
def qT (j:Nat) (o:CO) (st:St):St:= {st with ob:=st.ob.set j o}
def At.AY (bc:At lay p st O) (hj:st.ob[j]? =aa o) (o':CO):At lay p (qT j o' st) (O.set (p.oi j) (o'.ao p.oi))/\ku lay p st (qT j o' st) O (O.set (p.oi j) (o'.ao p.oi)):=by
 have W9:=getElem?_lt' hj;have HZ:∀m,m≠p.oi j->∀x,(O.set (p.oi j) x)[m]? =O[m]? :=λm hm x=>bE hm.symm;have cH:(Mine.qT j o' st).ob.length= ↑st.ob:=by show ↑(st.ob.set j o')=_;exact bi
 refine⟨⟨?_,bc.NR,bc.xO,bc.Fu,λi v hv=> ?_,λi x hx=> ?_,bc.Zi,λi hi=>bc.Zj i (cH▸hi),λi hi=>bc.Ve i (cH▸hi),bc.WZ,λa b ha hb=>bc.Vf a b (cH▸ha) (cH▸hb),λhg i=> ?_⟩,
  ⟨by rw[bi];exact ab _,λ_=>⟨bi,cH⟩,by rw[cH];exact ab _,λi _ _ _ h=>HZ i (h j W9) _⟩⟩
 ·rw[HZ _ (bc.Zj j W9).symm];exact bc.frame
 ·let ⟨n,h1,h2⟩:=bc.cells i v hv;refine⟨n,h1,?_⟩;rw[HZ n (λe=>bc.Ve j W9 (e▸bo h1))];exact h2
 ·have sM:(st.ob.set j o')[i]? =aa x:=hx;by_cases h:j=i
  ·subst h;rw[bU W9]at sM;obtain rfl:=ag sM;exact bU (getElem?_lt' (bc.obs j o hj))
  ·rw[bE h]at sM;rw[HZ _ (λe=>h (bc.Vf j i W9 (getElem?_lt' sM) e.symm))];exact bc.obs i x sM
 ·rw[cH,bi];exact bc.next hg i
def AZ (S:cz) (k:Nat) (id:String) (g:List PV->List PV->Option (PV×List PV)):Prop:=
 ∀(O:List AO) (i:Nat) (l:List PV) (ds:List PV) (r:PV) (l':List PV),O[i]? =aa (.list l)->g l ds=aa (r,l')->nr S k O (.builtin id) (.fM i::ds.map AV.pv) (.pv r) (O.set i (.list l'))
def gZ (l:List PV):List PV->Option (PV×List PV)
 | []=>ac
 | [d]=>if ↑l<100000 then aa (PV.none,l++[d]) else ac
 |_::_::_=>ac
def X2 (l:List PV):List PV->Option (PV×List PV)
 | []=>ac
 | [a]=>(CV.pv a).aI.bind λm=>if ↑l<100000/\0<=m then(l[m.toNat]?).map λd=>(d,l.eraseIdx m.toNat) else ac
 |_::_::_=>ac
def AZ.append:AZ S k "list.append" gZ:=by
 intro O i l ds r l' hi h;rcases ds with _|⟨d,_|_⟩
 ·exact gr h
 ·let ⟨hh,e⟩:=dT h;let ⟨rfl,rfl⟩:=bB e;exact nr.append hi hh
 ·exact gr h
def AZ.pop:AZ S k "list.pop" X2:=by
 intro O i l ds r l' hi h;rcases ds with _|⟨a,_|_⟩
 ·exact gr h
 ·refine a9 h λm e h=> ?_;obtain rfl:=CV.pvI (CV.kI e);let ⟨hh,h⟩:=En h;let ⟨d,hd,e⟩:=ar.mp h;let ⟨rfl,rfl⟩:=bB e;exact nr.pop (xU hh.2).symm hi hh.1 hd
 ·exact gr h
def oA (g:List PV->List PV->Option (PV×List PV)) (f:EF) (fa:St->Option (List CV)) (st:St):Option (pn×St):=
 ((f st).bind CV.aO).bind λj=>((fa st).bind Mx).bind λds=>(SY st.ob[j]?).bind λl=>(g l ds).map λr=>(.next,qT j (.list r.2) st)
def ms.S2 {id:String} (hm:AZ S k id g) (Ku:Slot "list" name id)
  (hty:typeOf (.builtin id)=pure (.type "method_descriptor")) (h:cJ S k lay o f) (ha:pS S k lay args fa) (ik:∀env,attributeBase o name env (eval o env)=eval o env) (gC:(jx.endLine==pos.line)=true) (hn: ↑args<30)
  (hs:swapsWith (.Call (.Attribute o name jx) args [] pos) ac FC.line=λ_=>pure false):ms S k lay (.Expr (.Call (.Attribute o name jx) args [] pos) FC) (oA g f fa):=by
 intro p O st fl cg bc hf;refine a9 hf λj hd hf=>a9 hd λ_ hd e1=>a9 hf λds Zg hf=>a9 Zg λvs0 hv0 hp0=>a9 hf λl hl hf=> ?_;rw[CV.kO e1]at hd;replace hl:=um hl;let ⟨⟨r,l'⟩,hg,e⟩:=ar.mp hf;let ⟨rfl,rfl⟩:=bB e;have Iu:=ha p O st _ bc hv0;rw[wD hp0]at Iu;let ⟨b,c⟩:=bc.AY hl (.list l');refine⟨_,i6.expr (d:= .pv r) ⟨by rw[bi];exact ab _,λA c s env hA hE R E Q hQ=> ?_⟩ hs,b,c⟩;refine eK (ik env) (AN Iu pos env hn) gC ((h p O st _ bc hd).run A c s env hA hE R _ _ λc1 v1 s1 l1 R1 K1 a1=> ?_);let ⟨hT,tY⟩:=zT bc (v:= .ob j) (T:= "list") (by show obT st.ob[j]? =_;rw[hl];rfl) R1 a1;refine⟨"list",id,F.plainAttrs_list,Ku,hty,hT,tY,cX (noStar Iu pos env) ?_⟩;refine eg Iu _ pos A c1 s1 env hA (hE.mono l1 (ab _)) R1 _ _ λc2 vs s2 l2 R2 K2 a2=> ?_;exact(hm O (p.oi j) l ds r l' (bc.obs j _ hl) hg).run A c2 s2 (v1::vs) hA R2 (.cons (a1.mono l2 (ab _)) a2) E Q λc3 v3 s3 l3 R3 K3 a3=>hQ c3 v3 s3 ((l1.trans l2 (ab _)).trans l3 (ab _)) R3 ((K1.trans K2).trans K3) a3
end
def S3 {P:List Value->Prop} (h:∀a,P [a]):∀vs:List Value,↑vs=1->P vs:=λvs e=>by
 rcases vs with _|⟨a,_|_⟩
 ·exact absurd e ∅
 ·exact h a
 ·exact absurd (lZ e) (Nat.succ_ne_zero _)
def bd2 {P:List Value->Prop} (h:∀a b,P [a,b]):∀vs:List Value,↑vs=2->P vs:=λvs e=>by
 rcases vs with _|⟨a,l⟩
 ·exact absurd e ∅
 ·exact S3 (P:=λl=>P (a::l)) (h a) l (lZ e)
def WN {P:List Value->Prop} (h:∀a b c,P [a,b,c]):∀vs:List Value,↑vs=3->P vs:=λvs e=>by
 rcases vs with _|⟨a,l⟩
 ·exact absurd e ∅
 ·exact bd2 (P:=λl=>P (a::l)) (h a) l (lZ e)
def nK (r:eh) (names others:List Str):Lay:= {scope:=r.scope,loc:=names++others,nq:=[],own:=0,grow:=true,code:=aa r.code}
noncomputable def Dh (ds:List PV) (others:List Str):St:= {lv:=(ds.map λd=> ~~~d)++others.map λ_=>ac,cv:=[],ob:=[]}
noncomputable def obV:Option CO->Option PV
 |some (.list l)=>aa (.lst l)
 |some (.dict l)=>aa (.oO l)
 |_=>ac
def Gy (st:St):pn->Option PV
 | .next=>aa PV.none
 | .ret (.pv d)=>aa d
 | .ret (.ob j)=>obV st.ob[j]?
 |_=>ac
def mL (names others:List Str) (F:St->Option (pn×St)) (ds:List PV):Option PV:=
 if ↑ds= ↑names then(F (Dh ds others)).bind λr=>Gy r.2 r.1 else ac
def rO (hl:∀i,i< ↑O->bv[i]? =O[i]?):∃τ,bv=O++τ:=by
 refine⟨bv.drop ↑O,?_⟩;have ht:bv.take ↑O=O:=by
  apply rr;intro i;rcases bS i ↑O with h|h
  ·rw[lL h];exact hl i h
  ·rw[bC (by rw[cF];exact aa0 h),bC h]
 conv=>lhs;rw[<- nE ↑O bv,ht]
section
variable {lay:Lay}
noncomputable def ai7:mx->Int->Int->Option Int
 | .Add,a,b=>aa (a+b)
 | .Sub,a,b=>aa (a- b)
 |_,_,_=>ac
def IT (op:mx) (i:Nat) (f:EF) (st:St):Option (pn×St):=((ak i st).bind CV.aI).bind λa=>((f st).bind CV.aI).bind λb=>(ai7 op a b).map λr=>(.next,ie i (.pv (.int r)) st)
def ms.aug (h:lay.nk i x=true) (hv:cJ S k lay gQ f):ms S k lay (.AugAssign (.Name x jW) op gQ pos) (IT op i f):=by
 intro p O st fl cg bc hf;refine a9 hf λa ha hf=>a9 ha λ_ ha e1=>a9 hf λb hb hf=>a9 hb λ_ hb e2=> ?_;rw[CV.kI e1]at ha;rw[CV.kI e2]at hb;let ⟨r,hr,e⟩:=ar.mp hf;let ⟨rfl,rfl⟩:=bB e;let ⟨bv,a1,b1,c1⟩:=bc.ie (S:=S) h (.pv (.int r));refine⟨bv,⟨a1.len,λA c s env hA hE R E Q hQ=> ?_⟩,b1,c1⟩;have hl:=h;unfold Lay.nk at hl;simp only[dj,beq_iff_eq]at hl;let ⟨⟨h1,h2⟩,h3⟩:=hl;have hvl:st.lv[i]? =aa (~~~(.int a)):=by
  unfold ak at ha;rw[Av]at ha;cases e:st.lv[i]? with
  |none=>rw[e]at ha;exact gr ha
  |some o=>rw[e]at ha;exact congrArg aa ha
 let ⟨fr,uM,_,g1,_⟩:=R.ns bc.frame;let ⟨v,vZ,hd⟩:=g1 x (AV.pv (.int a)) (Pp h1 (v:=aa (AV.pv (.int a))) (by rw[bN,hvl];rfl));refine wpAny_AugAssign_Name (qf (by rw[hE.scope];exact hE.kind) (by rw[hE.kindOf];exact h2) (by rw[hE.locals];exact uM) vZ ?_);refine(hv p O st _ bc hb).run A c s env hA hE R _ _ λc1 v1 s1 l1 R1 K1 d1=> ?_;let ⟨t,rfl⟩:=d1.gh.kQ;let ⟨u,rfl⟩:=hd.gh.kQ;have fin:∀tk,wpAny (MM S.w) A (storeName env x (.int r tk)) (λ_=>Q .next) E {s1 with toks:=s1.toks+1}:=λtk=>
  a1.run A c1 {s1 with toks:=s1.toks+1} env _ (hE.mono l1 (ab _)) R1 (.pv (.int r tk)) _ _ λc2 s2 l2 R2 K2=>hQ c2 .next s2 (l1.trans l2 (ab _)) R2 ((K1.trans (.toks ..)).trans K2) .next
 induction op with
 |Add=>obtain rfl:=ag hr;exact PyProof.Rows.iadd_int (fin _)
 |Sub=>obtain rfl:=ag hr;exact P.isub_int (fin _)
 |_=>exact gr hr
end
section
variable {lay:Lay}
def MG (R:Rel S c O s.heap) (kA:O[n]? =aa (.dict dA)) (hn:x∉dA.map (·.1)) (hsz: ↑dA<100000) (hv:dk S.w c.F v d)
  (hQ:∀s',Rel S c (O.set n (.dict (dA++[(x,d)]))) s'.heap->dZ s s'->Q () s'):wpAny (MM S.w) A (setItem (.ref (c.Z n)) (.str x t) v) Q E s:=by
 have J6:=getElem?_lt' kA;left;let ⟨a,es,m,kvs,e,_,ho,nd,hp⟩:=(S0.fM kA).at R (v:= .ref (c.Z n)) (.fM J6);right;cases e;have cH: ↑kvs= ↑dA:=by have:=congrArg eX hp.keys;simpa using this
 refine wpAny_setItem_pairs (knd:=strKind pw S.w) (k:=x) (beq_self_eq_true x) (mJ (hp.dictOf ho nd)) (λh' L2 qd=> ?_) (XJ cH rfl hsz);rw[stored_new (by rw[hp.keys];exact hn)]at L2;let ⟨o,sd,hr⟩:=ic.PF (c:=c) (n:= ↑O) (l:=dA++[(x,d)]) L2 (by rw[bH,bH,hp.keys];rfl) (λi p q a b=>by
  rcases eH i ↑dA with hi|hi|hi
  ·rw[aW (Ct hi cH)]at a;rw[aW hi]at b;exact hp.vals i p q a b
  ·rw[aE (XM cH hi),show i- ↑kvs=0 by exact aa3 hi cH]at a;rw[aE (Tz hi),show i- ↑dA=0 by exact aa4 hi]at b;cases a;cases b;exact hv
  ·rw[bC (by simp;exact XK hi)]at b;cases b)
 exact hQ _ (R.set J6 qd.extBut sd hr) (.heap ..)
noncomputable def CO.aD:CO->Option (List (Str×PV))
 | .dict l=>aa l
 |_=>ac
def CO.kD {o:CO} (h:o.aD=aa l):o= .dict l:=by
 induction o with
 |dict m=>exact congrArg CO.dict (ag h)
 |_=>exact gr h
def St.aD (st:St) (j:Nat):Option (List (Str×PV)):=(st.ob[j]?).bind CO.aD
def Ex (f fo fi:EF) (st:St):Option (pn×St):=((f st).bind CV.aP).bind λd=>((fo st).bind CV.aO).bind λj=>((fi st).bind CV.aS).bind λx=>(st.aD j).bind λl=>
 if ↑l<100000/\l.lookup x=ac then aa (.next,qT j (.dict (l++[(x,d)])) st) else ac
def ms.put (hv:cJ S k lay gQ f) (ho:cJ S k lay o fo) (hi:cJ S k lay i fi) (hs:swapsWith gQ (aa (.Subscript o i FC)) pos.line=λ_=>pure false):
  ms S k lay (.Assign [.Subscript o i FC] gQ pos) (Ex f fo fi):=by
 intro p O st fl cg bc hf;refine a9 hf λd hd hf=>a9 hd λ_ hd e1=>a9 hf λj hj hf=>a9 hj λ_ hj e2=>a9 hf λx hx hf=>a9 hx λ_ hx e3=>a9 hf λl hl hf=>a9 hl λ_ hl e4=> ?_;rw[CV.kP e1]at hd;rw[CV.kO e2]at hj;rw[CV.kS e3]at hx;rw[CO.kD e4]at hl;obtain(⟨hsz,e⟩):=dT hf;obtain(⟨rfl,rfl⟩):=bB e;obtain(⟨b,c⟩):=bc.AY hl (.dict (l++[(x,d)]));refine⟨_,⟨by rw[bi];exact ab _,λA c s env hA hE R E Q hQ=> ?_⟩,b,c⟩;refine wpAny_Assign_Subscript (hs:=congrFun hs env) ((hv p O st _ bc hd).run A c s env hA hE R _ _ λc1 v1 s1 l1 R1 K1 a1=> ?_);have rv:=hE.mono l1 (ab _);refine(ho p O st _ bc hj).run A c1 s1 env hA rv R1 _ _ λc2 v2 s2 l2 R2 K2 a2=> ?_;refine(hi p O st _ bc hx).run A c2 s2 env hA (rv.mono l2 (ab _)) R2 _ _ λc3 v3 s3 l3 R3 K3 a3=> ?_;have Fx:=l2.trans l3 (ab _);have a3':=a3.gh;obtain(⟨t,rfl⟩):=a3'.mG;have DX:=a2.mono l3 (ab _);obtain(⟨rfl,kX⟩):=DX.zy;exact MG R3 (bc.obs j _ hl) (lookup_none hsz.2) hsz.1 ((a1.mono Fx (ab _)).gh) λs' R4 K4=>hQ c3 .next s' (l1.trans Fx (ab _)) R4 (((K1.trans K2).trans K3).trans K4) .next
end
inductive jD (S:cz) (ae:iv):List AO->List (Str×AV)->List AO->Prop
 |nil {O:List AO}:jD S ae O [] O
 |cons {O bA bP:List AO} {x:Str} {d:AV} {rest:List (Str×AV)}:jK S O ae x d bA->jD S ae bA rest bP->jD S ae O ((x,d)::rest) bP
def jD.len (h:jD S ae O bs bv): ↑O<= ↑bv:=by
 induction h with
 |nil=>exact ab _
 |cons a _ ih=>exact aA a.len ih
def jD.run (h:jD S ae O bs bv):∀(A:cS) (c:aM) (s:bb) (env:lY) (vb:List (Str×Value)) (f:Str×Value->PUnit->zK (ForInStep PUnit)),(∀n v u,f (n,v) u=(do storeName env n v;pure (.yield ⟨⟩)))->
  cY c ↑O ae env->Rel S c O s.heap->vb.map (·.1)=bs.map (·.1)->dg S.w c ↑O (vb.map (·.2)) (bs.map (·.2))->
  ∀(E:VS) (Q:PUnit->bb->Prop),(∀c' s',aM.le ↑O c c'->Rel S c' bv s'.heap->dZ s s'->Q ⟨⟩ s')->wpAny (MM S.w) A (forIn vb ⟨⟩ f) Q E s:=by
 induction h with
 |nil=>
  intro A c s env vb f hf hE R hk hv E Q hQ;induction vb with
  |nil=>rw[qA];exact aR (hQ c s (.refl ..) R (.refl ..))
  |cons=>cases hk
 | @cons O bA bP x d rest h1 h2 ih=>
  intro A c s env vb f hf hE R hk hv E Q hQ;cases vb with
  |nil=>cases hk
  |cons p vb=>let ⟨y,v⟩:=p;rw[bw,bw]at hk hv;injection hk with e1 e2;have e1':y=x:=e1;subst e1';let ⟨_,_,q,a,b⟩:=hv.i1;cases q;rw[ug,hf];refine am (am (h1.run A c s env v hE R a _ _ λc1 s1 l1 R1 K1=>aR ?_));exact ih A c1 s1 env vb f hf (hE.mono l1 h1.len) R1 e2 (b.mono l1 h1.len) E Q λc2 s2 l2 R2 K2=>hQ c2 s2 (l1.trans l2 h1.len) R2 (K1.trans K2)
def gB (r:eh) (n:Nat):iv:= {scope:=r.scope,fi:=n,cells:=cellsFrom (n+1) r.scope.names [],code:=aa r.code}
def vH (S:cz) (k:Nat) (O:List AO) (fd:FuncData) (args:List AV) (kw:List (Str×AV)) (binds:List (Str×AV)):Prop:=
 ∀(A:cS) (c:aM) (s:bb) (vs:Vs) (kvs:List (Str×Value)),A.handled=ac->Rel S c O s.heap->dg S.w c ↑O vs args->kvs.map (·.1)=kw.map (·.1)->dg S.w c ↑O (kvs.map (·.2)) (kw.map (·.2))->
  ∀(E:VS) (Q:List (Str×Value)->bb->Prop),(∀c' vb s',aM.le ↑O c c'->Rel S c' O s'.heap->dZ s s'->vb.map (·.1)=binds.map (·.1)->dg S.w c' ↑O (vb.map (·.2)) (binds.map (·.2))->Q vb s')->wpAny (MM S.w) A (bindArgs fd ⟨vs,kvs⟩) Q E s
def jG.B (h:jG S O fd args kw binds):vH S k O fd args kw binds:=by intro A c s vs kvs _ R ha hk HR E Q hQ;let ⟨vb,h1,h2,h3⟩:=h c s vs kvs R ha hk HR;exact h3 _ _ _ _ (hQ c vb s (.refl ..) R (.refl _) h1 h2)
structure pW (r:eh) (loc:List Str) (own:Sn):Prop where
 mem:r∈fV
 nd:loc.Nodup
 eqn:cellsFrom 0 r.scope.names []=own
 ndO:(own.map (·.2)).Nodup
 lt:∀q∈own,q.2<fj r.scope.names
 kind:r.scope.kind= .function
 co:r.scope.isCoroutine=false
 gen:r.scope.isGenerator=false
def pW.of (i:Nat) (hi:fV[i]? =aa r) (hk:r.scope.kind= .function) (h:(decide loc.Nodup&&decide (cellsFrom 0 r.scope.names []=own)&&decide (own.map (·.2)).Nodup&&own.all (λq=>decide (q.2<fj r.scope.names))&& !r.scope.isCoroutine&& !r.scope.isGenerator)=true):pW r loc own:=by simp only[dj,decide_eq_true_eq,fI,jl]at h;exact⟨bo hi,h.1.1.1.1.1,h.1.1.1.1.2,h.1.1.1.2,h.1.1.2,hk,h.1.2,h.2⟩
def ent (O:List AO) (r:eh) (loc:List Str):List AO:=O++(.ns (loc.map λx=>(x,ac))::bQ (fj r.scope.names) (.cell ac))
def Ey (O:List AO) (r:eh) (loc:List Str): ↑(ent O r loc)= ↑O+1+fj r.scope.names:=by unfold ent;rw[aj,az,nF];exact Ky
def wK (F:pW r loc own)
  (gu:∀pm,vH S k O (r.fd pm) args kw binds)
  (ru:jD S (gB r ↑O) (ent O r loc) binds bA)
  (hA:jF (k+1) A) (R:Rel S c O s.heap) (hf:cT S.w c ↑O fv (.pv (.con (.ref r.addr)))) (ha:dg S.w c ↑O vs args) (hk:kvs.map (·.1)=kw.map (·.1)) (HR:dg S.w c ↑O (kvs.map (·.2)) (kw.map (·.2)))
  (H:∀c3 s3 env,aM.le ↑O c c3->cY c3 ↑bA (gB r ↑O) env->Rel S c3 bA s3.heap->dZ s s3->s.toks<=s3.toks->env.frame=aa env.locals->
   wpAny (MM S.w) (A.deeper env) (execs r.body env) (λf s'=>Q (match f with| .ret v=>v|_=> .none) s') (λe s'=>wpAny (MM S.w) (A.deeper env) (leaving env e) (λ_=>E e) E s') s3):
  wpAny (MM S.w) A (call fv vs kvs) Q E s:=by
 have e:=hf.dn;subst e;left;let ⟨o,pm,ho,FD,B3,CQ⟩:=R.fn F.mem;right;refine v8 ?_;refine Ta (fd:=r.fd pm) (body:=r.body) hA.room ho B3 F.co F.gen rfl CQ (mE (ab s.toks) (gu pm A.in1 c s vs kvs hA.hn R ha hk HR _ _ λcB vb sB lB RB KB hvk hvv hTB=> ?_));show wpAny _ _ (newFunctionEnv r.scope 3 [] vb _ (aa r.addr) (.ref r.code) ac 0) _ _ _;simp only[newFunctionEnv,Mg,fw,if_false];refine am (F0 ?_);refine am (Kk _ (λname kind cells=>by cases hkc:kind==k9<;>simp[hkc]) _ _ _ _ ?_);have R1:Rel S (cB.own ↑O sB.heap.objs.size) (O++[.ns (loc.map λx=>(x,ac))]) (sB.heap.push {cls:= .type "frame",data:= .dict #[]}):=
  RB.Az (λb o e=>aJ _ e) (ab _) (aV _ rfl) (.ns (es:= #[]) (ep:=0) rfl (λe he=>by simp at he) (by rw[bD];simpa[Ks]using F.nd)
   (λx d hx=>by let ⟨y,_,e⟩:=aQ.mp hx;nomatch e) λx _=>rfl)
 have l1:aM.le ↑O cB (cB.own ↑O sB.heap.objs.size):=aM.jc;generalize hc1:cB.own ↑O sB.heap.objs.size=c1 at R1 l1;left;let ⟨c2,l2,R2,mQ,Fy⟩:=Rel.AS r.scope.names [] R1 (λp hp=>by nomatch hp);right;rw[(by rw[aj,be]: ↑(O++[AO.ns (loc.map λx=>(x,ac))])= ↑O+1)]at mQ Fy l2;rw[(by unfold ent;simp:O++[AO.ns (loc.map λx=>(x,ac))]++bQ (fj r.scope.names) (AO.cell ac)=ent O r loc)]at R2;have zo:=Ey O r loc;generalize ent O r loc=uV at R2 ru zo;rw[zw]at mQ;generalize hH:({sB with heap:=sB.heap.push {cls:= .type "frame",data:= .dict #[]}}:bb)=s1;have Zv:s1.heap=sB.heap.push {cls:= .type "frame",data:= .dict #[]}:=by rw[<- hH]
 have J3:s.toks<=s1.toks:=by exact hH▸hTB
 rw[<- Zv]at mQ R2;rw[mQ];have HU:cY c2 ↑uV (gB r ↑O) {scope:=r.scope,locals:=sB.heap.objs.size,globals:=3,cells:=(cellsFrom (↑O+1) r.scope.names []).map (λp=>(p.1,c2.Z p.2)),qual:=(r.fd pm).qualname++ ".<locals>.",func:=aa r.addr,code:= .ref r.code,frame:=aa sB.heap.objs.size,builtins:=0}:= {
  scope:=rfl
  kind:=F.kind
  locals:=by show sB.heap.objs.size=c2.Z ↑O;rw[l2.Z _ (abo),(by exact hc1▸(aM.ma ..):c1.Z ↑O=sB.heap.objs.size)]
  fi:=by show ↑O< ↑uV;exact abp zo
  globals:=rfl
  builtins:=rfl
  cells:=rfl
  jq:=λp hp=>by rw[zo];exact Fy p hp
  code:=λa e=>by obtain rfl:=ag e;rfl
  frame:=⟨_,rfl⟩}
 have uL:aM.le ↑O cB c2:=l1.trans l2 (F7);have K1:dZ sB {s1 with heap:=pushCells s1.heap r.scope.names}:=by exact hH▸(.gF ..)
 refine am (mE (n:=s.toks) J3 (ru.run _ c2 {s1 with heap:=pushCells s1.heap r.scope.names} _ vb _ (λ_ _ _=>rfl) HU R2 hvk (hvv.mono uL (VU zo)) _ _ λc3 s3 l3 R3 K3 ht3=>aR ⟨R3.lim,codeAny_func ?_⟩));exact H c3 s3 _ (lB.trans (uL.trans l3 (VU zo)) abQ) (HU.mono l3 ru.len) R3 (KB.trans (K1.trans K3)) ht3 rfl
def jD.X3 (h:jD S ae (ent O r loc) bs bA): ↑O<= ↑bA:=aA (by unfold ent;rw[aj];exact bh ..) h.len
def dy.Di (F:pW r loc own)
  (gu:∀pm,vH S k O (r.fd pm) args kw binds)
  (ru:jD S (gB r ↑O) (ent O r loc) binds bA)
  (dY:cG S k bA (gB r ↑O) r.body f (bv++τ))
  (hl: ↑bv= ↑O) (HQ:∀(i:Nat) (x:AO),bv[i]? =aa x->O[i]? =aa x\/x.flat=true) (hz:Ge τ ↑bv f.val d):
  dy S (k+1) O (.pv (.con (.ref r.addr))) args kw d bv:=by
 refine⟨by exact Tz hl,?_⟩;intro A c s fv vs kvs hA R hf ha hk HR E Q hQ;refine wK F gu ru hA R hf ha hk HR λc3 s3 env l3 hE R3 K3 _ _=> ?_;refine dY.run _ c3 s3 env hA.deeper hE R3 _ _ λc4 v4 s4 l4 R4 K4 f4=> ?_;have hv4:cT S.w c4 ↑(bv++τ) (TG v4) f.val:=by
  clear hQ;cases f4 with
  |next=>exact .pv (.con _)
  |brk=>exact .pv (.con _)
  |cont=>exact .pv (.con _)
  |ret h=>exact h
 let ⟨c5,l5,R5,hv5,_⟩:=Ge.run R R4 hl HQ hz hv4;have fin:=hQ c5 _ s4 ((l3.trans l4 ru.X3).trans l5 (ab _)) R5 (K3.trans K4) hv5;cases v4<;>exact fin
inductive vI (S:cz) (k:Nat) (ae:iv):List AO->List Expr->List AV->List AO->Prop
 |nil {O:List AO}:vI S k ae O [] [] O
 |cons {O bA bP:List AO} {e:Expr} {rest:List Expr} {d:AV} {ds:List AV}:Ev S k O ae e d bA->vI S k ae bA rest ds bP->notStar e=true->vI S k ae O (e::rest) (d::ds) bP
def vI.len (h:vI S k ae O es ds bv): ↑O<= ↑bv:=by
 induction h with
 |nil=>exact ab _
 |cons h _ _ ih=>exact aA h.len ih
def vI.size (h:vI S k ae O es ds bv): ↑ds= ↑es:=by
 induction h with
 |nil=>rfl
 |cons _ _ _ ih=>rw[az,az,ih]
def vI.run (h:vI S k ae O es ds bv):∀(pos:Pos) (A:cS) (c:aM) (s:bb) (env:lY),jF k A->cY c ↑O ae env->Rel S c O s.heap->
  ∀(E:VS) (Q:List Value->bb->Prop),(∀c' vs s',aM.le ↑O c c'->Rel S c' bv s'.heap->dZ s s'->dg S.w c' ↑bv vs ds->Q vs s')->wpAny (MM S.w) A (spliced (backTo pos (starEach es env))) Q E s:=by
 induction h with
 |nil=>intro pos A c s env _ _ R E Q hQ;exact eB (hQ c [] s (.refl ..) R (.refl _) .nil)
 |cons h1 h2 hn ih=>intro pos A c s env hA hE R E Q hQ;rw[gA hn];show wpAny _ A (spliced ((false,eval _ env)::backTo pos (starEach _ env))) Q E s;refine bX (h1.run A c s env hA hE R _ _ λc1 v1 s1 l1 R1 K1 a1=> ?_);exact ih pos A c1 s1 env hA (hE.mono l1 h1.len) R1 _ _ λc2 vs s2 l2 R2 K2 a2=>hQ c2 _ s2 (l1.trans l2 h1.len) R2 (K1.trans K2) (.cons (a1.mono l2 h2.len) a2)
inductive ti (S:cz) (k:Nat) (ae:iv):List AO->List Expr->List AV->List AO->Prop
 |nil {O:List AO}:ti S k ae O [] [] O
 |cons {O bA bP:List AO} {t:Expr} {rest:List Expr} {d:AV} {ds:List AV}:C5 S k O ae t d bA->ti S k ae bA rest ds bP->notStar t=true->ti S k ae O (t::rest) (d::ds) bP
def ti.len (h:ti S k ae O ts ds bv): ↑O<= ↑bv:=by
 induction h with
 |nil=>exact ab _
 |cons h _ _ ih=>exact aA h.len ih
def ti.shape (h:ti S k ae O ts ds bv) (env:lY): ↑(assignEach ts env)= ↑ds/\(assignEach ts env).findIdx? (·.1)=ac:=by
 induction h with
 |nil=>exact⟨rfl,rfl⟩
 |cons _ _ hn ih=>rw[lw hn];refine⟨by rw[az,az,ih.1],?_⟩;rw[OG];simp[ih.2]
def ti.run (h:ti S k ae O ts ds bv):∀(A:cS) (c:aM) (s:bb) (env:lY) (vs:Vs),jF k A->cY c ↑O ae env->Rel S c O s.heap->dg S.w c ↑O vs ds->
  ∀(E:VS) (Q:Unit->bb->Prop),(∀c' s',aM.le ↑O c c'->Rel S c' bv s'.heap->dZ s s'->Q () s')->wpAny (MM S.w) A (assignInOrder ((assignEach ts env).map (·.2)) vs) Q E s:=by
 induction h with
 |nil=>intro A c s env vs hA hE R hv E Q hQ;obtain rfl:=hv.i0;exact aR (hQ c s (.refl ..) R (.refl ..))
 |cons h1 h2 hn ih=>intro A c s env vs hA hE R hv E Q hQ;let ⟨_,_,rfl,a,b⟩:=hv.i1;rw[lw hn];refine am (dH (h1.run A c s env _ hA hE R a _ _ λc1 s1 l1 R1 K1=> ?_));exact ih A c1 s1 env _ hA (hE.mono l1 h1.len) R1 (b.mono l1 h1.len) E Q λc2 s2 l2 R2 K2=>hQ c2 s2 (l1.trans l2 h1.len) R2 (K1.trans K2)
def dg.put (h:dg w c n vs ds) (ha:c.F a=ac):dg w (c.put a o) n vs ds:=h.mono (aM.dC ha) (ab _)
def vI.tuple (h:vI S k ae O es ds bv) (hsz: ↑es<=1000) (A:cS) (c:aM) (s:bb) (env:lY) (hA:jF k A) (hE:cY c ↑O ae env) (R:Rel S c O s.heap)
  (E:VS) (Q:VS) (hQ:∀c' a vs s',aM.le ↑O c c'->Rel S c' bv s'.heap->dZ s s'->c'.F a=aa {cls:= .type "tuple",data:= .seq vs}->dg S.w c' ↑bv vs.toList ds->Q (.ref a) s'):
  wpAny (MM S.w) A (eval (.Tuple es n pos) env) Q E s:=by
 refine sN (h.run pos A c s env hA hE R _ _ λc1 vs s1 l1 R1 K1 a1=>⟨?_,?_⟩)
 ·rw[↑a1,h.size];have:sizeLine=2 ^ 24:=rfl;exact XH hsz this
 ·have hF:=R1.oy (ab s1.heap.objs.size);exact hQ (c1.put s1.heap.objs.size {cls:= .type "tuple",data:= .seq vs.toArray}) s1.heap.objs.size vs.toArray _ (l1.trans (aM.dC hF) h.len) R1.sY (K1.trans (.gF ..)) (if_pos rfl) (by simpa using a1.put hF)
def i6.MH (h1:vI S k ae O es ds bA) (h2:ti S k ae bA ts ds bP) (hsz: ↑es<=1000)
  (hw:(λenv:lY=>swappedStores [.Tuple ts n ua] (.Tuple es m Ka) {env with scope:=ae.scope})=λ_=>pure ac):i6 S k O ae (.Assign [.Tuple ts n ua] (.Tuple es m Ka) pos) .next bP:=by
 refine⟨aA h1.len h2.len,λA c s env hA hE R E Q hQ=> ?_⟩;refine PyProof.Rows.Assign_Tuple (h1.tuple hsz A c s env hA hE R _ _ λc1 a vs s1 l1 R1 K1 hF a1=> ?_) rfl (scp hw hE.scope);let ⟨e1,e2⟩:=h2.shape env;refine B5 hA.hn ⟨_,R1.frozen _ _ hF,rfl,_,rfl⟩ (by rw[e1,<- bx,↑a1]) e2 λh' hk=> ?_;have R':Rel S c1 bA h':=R1.ext λb o e=>hk b o (cU (bW e)) e;exact h2.run A c1 {s1 with heap:=h'} env _ hA (hE.mono l1 h1.len) R' a1 _ _ λc2 s2 l2 R2 K2=>hQ c2 .next s2 (l1.trans l2 h1.len) R2 ((K1.trans (.gF ..)).trans K2) .next
def i6.IU (h1:vI S k ae O es [d1,d2] bA) (hy:jK S bA ae y d2 bP) (hx:jK S bP ae x d1 ro)
  (hw:(λenv:lY=>swappedStores [.Tuple [.Name x px,.Name y py] n ua] (.Tuple es m Ka) {env with scope:=ae.scope})=λ_=>pure (aa [x,y])):i6 S k O ae (.Assign [.Tuple [.Name x px,.Name y py] n ua] (.Tuple es m Ka) pos) .next ro:=by
 refine⟨aA h1.len (aA hy.len hx.len),λA c s env hA hE R E Q hQ=> ?_⟩;refine ud (names:=[x,y]) (h1.tuple (by rw[<- h1.size];show 2<=1000;decide) A c s env hA hE R _ _ λc1 a vs s1 l1 R1 K1 hF a1=> ?_) rfl (scp hw hE.scope);have key:∀Q',(∀h',rp s1.heap.objs.size s1.heap h'->Q' vs.toList {s1 with heap:=h'})->wpAny (MM S.w) A (unpackItems (.ref a) vs.size ac) Q' E s1:=λQ' hq=>
  vz (prog:=pw) (w:=S.w) hA.hn ⟨_,R1.frozen _ _ hF,rfl,_,rfl⟩ hq
 rw[(by rw[<- bx,↑a1];rfl:vs.size=2)]at key;refine key _ λh' hk=> ?_;have R':Rel S c1 bA h':=R1.ext λb o e=>hk b o (cU (bW e)) e;generalize vs.toList=l at a1;have h9:=a1.i1;clear a1;let ⟨_,_,rfl,b1,a1⟩:=h9;have h9:=a1.i1;clear a1;let ⟨_,_,rfl,b2,a1⟩:=h9;obtain rfl:=a1.i0;show wpAny _ A (do holding _ (bindName env y _);holding _ (bindName env x _);pure ()) _ _ _;have rv:=hE.mono l1 h1.len;refine am (dH (sf (hy.run A c1 {s1 with heap:=h'} env _ rv R' b2 _ _ λc2 s2 l2 R2 K2=> ?_)));refine am (dH (sf (hx.run A c2 s2 env _ (rv.mono l2 hy.len) R2 (b1.mono l2 hy.len) _ _ λc3 s3 l3 R3 K3=> ?_)));exact aR (hQ c3 .next s3 ((l1.trans l2 h1.len).trans l3 (aA h1.len hy.len)) R3 (((K1.trans (.gF ..)).trans K2).trans K3) .next)
section
variable {lay:Lay}
def MI (S:cz) (k:Nat) (lay:Lay) (e:Expr) (f:St->Option (CV×St)):Prop:=
 ∀p O st v cg,At lay p st O->f st=aa (v,cg)->∃bv,Ev S k O (lay.en p) e (v.av p.oi) bv/\At lay p cg bv/\ku lay p st cg O bv
noncomputable def lc (f:EF) (st:St):Option (CV×St):=(f st).map λv=>(v,st)
def MI.pure (h:cJ S k lay e f):MI S k lay e (lc f):=by intro p O st v cg bc hf;unfold lc at hf;let ⟨v',hv,e⟩:=ar.mp hf;let ⟨rfl,rfl⟩:=bB e;exact⟨O,h p O st _ bc hv,bc,.refl ..⟩
def Ez (o:CO) (st:St):Option (CV×St):=aa (.ob ↑st.ob,alloc o st)
def MI.new (hg:lay.grow=true) (hv:∀(O:List AO) (ae:iv) (oi:NN),Ev S k O ae e (.fM ↑O) (O++[o.ao oi])):MI S k lay e (Ez o):=by intro p O st v cg bc hf;let ⟨rfl,rfl⟩:=bB (ag hf);let ⟨a,b,c⟩:=bc.alloc hg o;refine⟨_,?_,a,b⟩;exact((by show AV.fM (p.oi ↑st.ob)=_;rw[c]:CV.av p.oi (.ob ↑st.ob)= .fM ↑O))▸(hv O _ p.oi)
def MI.newList (hg:lay.grow=true):MI S k lay (.List [] pos) (Ez (.list [])):=MI.new hg λ_ _ _=>Ev.newList
def MI.newDict (hg:lay.grow=true):MI S k lay (.Dict [] [] pos) (Ez (.dict [])):=MI.new hg λ_ _ _=>Ev.newDict
def Gz (S:cz) (k:Nat) (lay:Lay) (es:List Expr) (f:St->Option (List CV×St)):Prop:=
 ∀p O st vs cg,At lay p st O->f st=aa (vs,cg)->∃bv,vI S k (lay.en p) O es (vs.map (CV.av p.oi)) bv/\At lay p cg bv/\ku lay p st cg O bv
noncomputable def EA (st:St):Option (List CV×St):=aa ([],st)
noncomputable def ji (f:St->Option (CV×St)) (g:St->Option (List CV×St)) (st:St):Option (List CV×St):=(f st).bind λr=>(g r.2).map λq=>(r.1::q.1,q.2)
def Gz.nil:Gz S k lay [] EA:=by intro p O st vs cg bc hf;let ⟨rfl,rfl⟩:=bB (ag hf);exact⟨O,.nil,bc,.refl ..⟩
def Gz.cons (h1:MI S k lay e f) (h2:Gz S k lay rest g) (hn:notStar e=true):Gz S k lay (e::rest) (ji f g):=by intro p O st vs cg bc hf;unfold ji at hf;simp only[aG,ar]at hf;left;let ⟨⟨v,st1⟩,H0,⟨ws,st2⟩,Sd,e⟩:=hf;let ⟨rfl,rfl⟩:=bB e;let ⟨lK,a1,b1,c1⟩:=h1 p O st _ _ bc H0;let ⟨uV,a2,b2,c2⟩:=h2 p lK _ _ _ b1 Sd;right;exact⟨uV,.cons a1 a2 hn,b2,c1.trans c2 bc⟩
def Dj (S:cz) (k:Nat) (lay:Lay) (ts:List Expr) (tg:List CV->St->Option St):Prop:=
 ∀p O st ds cg,At lay p st O->tg ds st=aa cg->∃bv,ti S k (lay.en p) O ts (ds.map (CV.av p.oi)) bv/\At lay p cg bv/\ku lay p st cg O bv
noncomputable def qU:List CV->St->Option St
 | [],st=>aa st
 |_,_=>ac
noncomputable def fB (f:CV->St->Option St) (g:List CV->St->Option St):List CV->St->Option St
 |d::ds,st=>(f d st).bind (g ds)
 |_,_=>ac
def Dj.nil:Dj S k lay [] qU:=by
 intro p O st ds cg bc hf;induction ds with
 |nil=>obtain rfl:=ag hf;exact⟨O,.nil,bc,.refl ..⟩
 |cons=>nomatch hf
def Dj.cons (h1:Cj S k lay t f) (h2:Dj S k lay rest g) (hn:notStar t=true):Dj S k lay (t::rest) (fB f g):=by
 intro p O st ds cg bc hf;induction ds with
 |nil=>cases hf
 |cons d ds=>unfold fB at hf;simp only[aG]at hf;left;let ⟨st1,H0,Sd⟩:=hf;let ⟨lK,a1,b1,c1,d1⟩:=h1 p O st _ st1 bc H0;let ⟨uV,a2,b2,c2⟩:=h2 p lK st1 ds cg b1 Sd;right;exact⟨uV,.cons a1 a2 hn,b2,c1.trans c2 bc⟩
noncomputable def GA (g:St->Option (List CV×St)) (tg:List CV->St->Option St) (st:St):Option (pn×St):=((g st).bind λr=>tg r.1 r.2).map λcg=>(.next,cg)
def ms.ai8 (h1:Gz S k lay es g) (h2:Dj S k lay ts tg) (hsz: ↑es<=1000) (hw:(λenv:lY=>swappedStores [.Tuple ts n ua] (.Tuple es m Ka) {env with scope:=lay.scope})=λ_=>pure ac):
  ms S k lay (.Assign [.Tuple ts n ua] (.Tuple es m Ka) pos) (GA g tg):=by
 intro p O st fl cg bc hf;unfold GA at hf;simp only[ar,aG]at hf;left;let ⟨st2,⟨⟨vs,st1⟩,hg,ht⟩,e⟩:=hf;let ⟨rfl,rfl⟩:=bB e;let ⟨lK,a1,b1,c1⟩:=h1 p O st _ _ bc hg;let ⟨uV,a2,b2,c2⟩:=h2 p lK _ _ _ b1 ht;right;exact⟨uV,i6.MH a1 a2 hsz hw,b2,c1.trans c2 bc⟩
def PH (i j:Nat) (g:St->Option (List CV×St)) (st:St):Option (pn×St):=(g st).bind λq=>match q.1 with
 | [u,v]=>aa (.next,ie i u (ie j v q.2))
 | []=>ac
 | [_]=>ac
 |_::_::_::_=>ac
def ms.swap (h1:Gz S k lay es g) (hx:lay.nk i x=true) (hy:lay.nk j y=true)
  (hw:(λenv:lY=>swappedStores [.Tuple [.Name x px,.Name y py] n ua] (.Tuple es m Ka) {env with scope:=lay.scope})=λ_=>pure (aa [x,y])):ms S k lay (.Assign [.Tuple [.Name x px,.Name y py] n ua] (.Tuple es m Ka) pos) (PH i j g):=by
 intro p O st fl cg bc hf;refine a9 hf λq hg hf=> ?_;let ⟨l,st1⟩:=q;rcases l with _|⟨u,_|⟨v,_|_⟩⟩
 ·exact gr hf
 ·exact gr hf
 rotate_left
 ·exact gr hf
 left;let ⟨rfl,rfl⟩:=bB (ag hf);let ⟨lK,a1,b1,c1⟩:=h1 p O st _ _ bc hg;let ⟨uV,a2,b2,c2⟩:=b1.ie (S:=S) hy v;let ⟨σ3,a3,b3,c3⟩:=b2.ie (S:=S) hx u;right;exact⟨σ3,i6.IU a1 a2 a3 hw,b3,(c1.trans c2 bc).trans c3 bc⟩
def aeq {t:Expr}:(λenv=>[(false,pG t env)])=λenv=>[(false,pG t env)]:=rfl
def i6.T5 (h1:Ev S k O ae gQ d bA) (h2:C5 S k bA ae t d bP) (hs:swapsWithSole [t] gQ pos.line=λ_=>pure false)
  (hw:swappedStores [t] gQ=λ_=>pure ac) (ha:assignEach [t]=λenv=>[(false,pG t env)]):i6 S k O ae (.Assign [t] gQ pos) .next bP:=by
 refine⟨aA h1.len h2.len,λA c s env hA hE R E Q hQ=> ?_⟩;rw[PyProof.Rows.exec_Assign];refine am (cV ?_);rw[hs];refine am (aR ?_);rw[if_neg ∅];refine am (h1.run A c s env hA hE R _ _ λc1 v1 s1 l1 R1 K1 a1=> ?_);rw[hw];refine am (aR ?_);rw[ha];show wpAny _ A (do assignAll v1 [pG t env];(pure Flow.next:zK B8)) _ _ s1;exact am (h2.run A c1 s1 env v1 hA (hE.mono l1 h1.len) R1 a1 _ _ λc2 s2 l2 R2 K2=>aR (hQ c2 .next s2 (l1.trans l2 h1.len) R2 (K1.trans K2) .next))
def ms.am0 (h1:cJ S k lay gQ f) (h2:Cj S k lay t tg) (hs:swapsWithSole [t] gQ pos.line=λ_=>pure false)
  (hw:swappedStores [t] gQ=λ_=>pure ac) (ha:assignEach [t]=λenv=>[(false,pG t env)]):ms S k lay (.Assign [t] gQ pos) (bZ f tg):=by
 intro p O st fl cg bc hf;unfold bZ at hf;simp only[ar,aG]at hf;left;let ⟨st1,⟨v,hv,ht⟩,e⟩:=hf;let ⟨rfl,rfl⟩:=bB e;let ⟨bv,a,b,c,_⟩:=h2 p O st v _ bc ht;right;exact⟨bv,i6.T5 (h1 p O st v bc hv) a hs hw ha,b,c⟩
def wL (f:EF) (st:St):Option CV:=((f st).bind CV.aI).map λa=> .pv (.int (-a))
def cJ.neg (h:cJ S k lay x f):cJ S k lay (.UnaryOp .USub x pos) (wL f):=by intro p O st v bc hf;let ⟨a,ha,rfl⟩:=ar.mp hf;refine a9 ha λ_ ha e1=> ?_;rw[CV.kI e1]at ha;refine⟨ab _,λA c s env hA hE R E Q hQ=> ?_⟩;refine Ca ((h p O st _ bc ha).run A c s env hA hE R _ _ λc1 v1 s1 l1 R1 K1 a1=> ?_);have JX:=a1.gh;let ⟨_,rfl⟩:=JX.kQ;exact Cn (hQ c1 _ _ l1 R1 (K1.trans (.toks ..)) (.pv (.int ..)))
def lA (f:EF) (st:St):Option CV:=(rN f st).map λl=> .pv (.lst l)
def cJ.Z4 (h:lay.mh fl=true) (hg:(fl,ac)∈cf) (hb:(fl,aa (N3 "list"))∈kM)
  (h':lay.mh fr=true) (wi:(fr,ac)∈cf) (uU:(fr,aa (N3 "range"))∈kM) (hx:cJ S k lay x g) (hs:notStar x=true):
  cJ S k lay (.Call (.Name fl np) [.Call (.Name fr np') [x] [] jW] [] pos) (lA g):=by
 intro p O st v bc hf;let ⟨l,hl,rfl⟩:=ar.mp hf;refine a9 hl λn hn hl=>a9 hn λ_ hn e=> ?_;rw[CV.kI e]at hn;let ⟨L7,rfl⟩:=dT hl;let ⟨m,rfl⟩:=Int.eq_ofNat_of_zero_le L7.1;have hm:m<1000:=by exact abw L7
 have ha:ck S k O (lay.en p) [x] [.pv (.int m)]:= .cons (hx p O st _ bc hn) .nil hs;refine⟨ab _,λA c s env hA hE R E Q hQ=> ?_⟩;refine cn ((Ev.Pr h hg hb).run A c s env hA hE R _ _ λc1 v1 s1 l1 R1 K1 a1=> ?_);have e:=a1.dn;subst e;refine ed rfl ?_;have rv:=hE.mono l1 (ab _);refine lD rfl (bX ?_);refine cn ((Ev.Pr h' wi uU).run A c1 s1 env hA rv R1 _ _ λc2 v2 s2 l2 R2 K2 a2=> ?_);have e:=a2.dn;subst e;refine ed (noStar ha jW env) ?_;refine eg ha _ jW A c2 s2 env hA (rv.mono l2 (ab _)) R2 _ _ λc3 vs s3 l3 R3 K3 a3=> ?_;have h9:=a3.i1;clear a3;let ⟨_,_,rfl,a3,b3⟩:=h9;obtain rfl:=b3.i0;have a3':=a3.gh;let ⟨t,rfl⟩:=a3'.kQ;refine call_range_1 ?_;refine eB (iI ?_);let ⟨hsm,hsz⟩:=yS (n:=m) (abx hm);refine call_list_range (a:=0) (b:=m) (c:=1) (t:=s3.toks) (u:=t) (v:=s3.toks+1) (n:=m) hA.hn (aV _ rfl) hsm hsz (aby hm) λh2 tk qJ c' hk hS hit=> ?_;have R4:Rel S c3 O (s3.heap.push {cls:= .type "range",data:= .fields #[.int 0 s3.toks,.int m t,.int 1 (s3.toks+1)]}):=R3.ext λb o e=>aJ _ e;refine hQ _ _ _ (((l1.trans l2 (ab _)).trans l3 (ab _)).trans (aM.dC (R4.oy (ab _))) (ab _)) (R4.put hk (ab _) hS) (((K1.trans K2).trans K3).trans (.heap ..)) (.pv (.lst (if_pos rfl) (by rw[hit.1];simp[iK]) λi u d hu hd=> ?_));let ⟨tt,rfl⟩:=hit.2 i u hu;have hi:i<m:=by have:=getElem?_lt' hd;simpa[iK]using this
 have:d= .int i:=by simp[iK,hi]at hd;exact hd.symm
 subst this;rw[show(0:Int)+(i:Int)*1=i by exact aaR];exact .int ..
def pq (f:EF) (st:St):Option CV:=((f st).bind CV.aDc).bind λl=>(jQ (l.map (·.2))).bind λns=>(Mz ns).map λm=> .pv (.int m)
def vJ {l:List PV}:∀ {ns:List Int},jQ l=aa ns->l=ns.map PV.int:=by
 induction l with
 |nil=>intro ns h;obtain rfl:=ag h;rfl
 |cons d l ih=>
  intro ns h;cases d with
  |int n=>let ⟨ns',h2,rfl⟩:=ar.mp h;rw[ih h2];rfl
  |_=>exact gr h
def cJ.ahw (h:lay.mh fm=true) (hg:(fm,ac)∈cf) (hb:(fm,aa (Value.builtin "max"))∈kM) (hx:cJ S k lay x f)
  (ik:∀env,attributeBase x "values" env (eval x env)=eval x env) (gC:(jx.endLine==jW.line)=true):cJ S k lay (.Call (.Name fm np) [.Call (.Attribute x "values" jx) [] [] jW] [] pos) (pq f):=by
 intro p O st v bc hf;refine a9 hf λl hl hf=>a9 hl λ_ hl e1=>a9 hf λns tZ hf=> ?_;rw[CV.kDc e1]at hl;let ⟨m,hm,rfl⟩:=ar.mp hf;have Zw:=vJ tZ;refine⟨ab _,λA c s env hA hE R E Q hQ=> ?_⟩;refine cn ((Ev.Pr h hg hb).run A c s env hA hE R _ _ λc1 v1 s1 l1 R1 K1 a1=> ?_);have e:=a1.dn;subst e;refine cX rfl ?_;have rv:=hE.mono l1 (ab _);refine lD rfl (bX ?_);refine eK (ik env) rfl gC ((hx p O st _ bc hl).run A c1 s1 env hA rv R1 _ _ λc2 v2 s2 l2 R2 K2 a2=> ?_);let ⟨hT,tY⟩:=zT bc (v:= .pv (.oO l)) (T:= "dict") rfl R2 a2;refine⟨"dict", "dict.values",F.plainAttrs_dict,F.slot_dict_values,F.type_dict_values,hT,tY,cX rfl ?_⟩;refine eg .nil _ jW A c2 s2 env hA (rv.mono l2 (ab _)) R2 _ _ λc3 vs s3 l3 R3 K3 a3=> ?_;obtain rfl:=a3.i0;let ⟨a,es,ep,kvs,rfl,Si,ho,nd,hp⟩:=S0.val.at R3 (a2.mono l3 (ab _));have FE:=hp.dictOf ho nd;refine call_meetsIn F.slot_dict_values (mJ FE).typeIs F.entry_dict_values (F.args_dict_values_1 _) (meets_dict_values (strKind pw S.w) a Si) ⟨⟨kvs,mJ FE⟩,?_⟩;refine eB (iI ?_);refine call_max_walk (wpAny_pyIter_values (knd:=strKind pw S.w) (kvs:=kvs) (ep:=ep) ⟨_,aV _ rfl,rfl,rfl⟩ (FE.keep λb o e=>aJ _ e) ?_);have kX:=bW ho;have cH: ↑kvs= ↑l:=by have:=congrArg eX hp.keys;simpa using this
 have J6: ↑ns= ↑l:=by have:=congrArg eX Zw;simpa using this.symm
 have oQ:0< ↑ns:=by
  rcases yH ↑ns with h|h
  ·rw[sD.mp h]at hm;nomatch hm
  ·exact h
 have agt:∀(i:Nat) (v:Value),(∃k,kvs[i]? =aa (k,v))->∃t,v=Value.int ((ns[i]?).getD 0) t:=by
  rintro i v ⟨kk,hk⟩;have hi:i< ↑l:=by exact cH▸(getElem?_lt' hk)
  have e1:(l.map (·.2))[i]? =aa (l[i]).2:=by rw[bN,aq hi];rfl
  rw[Zw,bN]at e1;simp only[ar]at e1;let ⟨n,hn,e2⟩:=e1;have vZ:dk S.w c3.F v (l[i]).2:=(hp.vals i _ _ hk (aq hi));rw[<- e2]at vZ;rw[hn];exact vZ.kQ
 refine⟨_,_,_,_,_,_,_,rfl,Walks.dictValues (knd:=strKind pw S.w) (A:=A.in1) hA.hn _ a ?_ kvs ep,⟨⟨_,aV _ rfl,rfl,rfl⟩,?_⟩,?_,by exact abz oQ cH J6,CmpOf.ints_gt (λi=>(ns[i]?).getD 0) agt,λv h' tk hP hk=> ?_⟩
 ·rw[eU];exact cU (eI kX)
 ·exact(FE.keep λb o e=>aJ _ e).keep λb o e=>aJ _ e
 ·intro b uU;simp only[eU];rcases aH.mp uU with rfl|uU
  ·simp only[eU];exact ez _
  ·rw[aC]at uU;subst uU;exact eI (eI kX)
 ·let ⟨b1,b2⟩:=argBest_gt (λi=>(ns[i]?).getD 0) (↑kvs- 1);left;let ⟨t,rfl⟩:=agt _ _ hP;let ⟨q1,q2⟩:=C7 hm;let ⟨i,hi,HT⟩:=wm q1;have e1:(ns[i]?).getD 0<=(ns[argBest (λi j=>decide ((ns[i]?).getD 0> (ns[j]?).getD 0)) (↑kvs- 1)]?).getD 0:=b2 i (abA hi cH J6);have Sj:argBest (λi j=>decide ((ns[i]?).getD 0> (ns[j]?).getD 0)) (↑kvs- 1)< ↑ns:=by exact abB b1 J6 cH hi
  right;have e3:(ns[argBest (λi j=>decide ((ns[i]?).getD 0> (ns[j]?).getD 0)) (↑kvs- 1)]?).getD 0=m:=by rw[aq Sj,zv];rw[aq Sj,aq hi,zv,zv,HT]at e1;exact abC (q2 _ (Ap Sj)) e1
  rw[e3];refine hQ c3 _ _ ((l1.trans l2 (ab _)).trans l3 (ab _)) (R3.ext λb o e=>hk b o (λL2=> ?_) (aJ _ (aJ _ e))) (((K1.trans K2).trans K3).trans (.heap ..)) (.pv (.int ..));rw[aC]at L2;subst L2;have:=bW e;rw[eU]at this;exact absurd this (fD.mpr (mv _))
end
section
variable {lay:Lay}
def kg (S:cz) (lay:Lay) (names:List Str) (tg:List CV->St->Option St):Prop:=
 ∀p O st ds cg,At lay p st O->tg ds st=aa cg->∃bv,jD S (lay.en p) O (names.zip (ds.map (CV.av p.oi))) bv/\ ↑ds= ↑names/\At lay p cg bv/\ku lay p st cg O bv/\cg.ob=st.ob
def kg.nil:kg S lay [] qU:=by
 intro p O st ds cg bc hf;induction ds with
 |nil=>obtain rfl:=ag hf;exact⟨O,.nil,rfl,bc,.refl ..,rfl⟩
 |cons=>nomatch hf
def kg.step
  (h1:∀p O st v cg,At lay p st O->f v st=aa cg->∃bv,jK S O (lay.en p) x (v.av p.oi) bv/\At lay p cg bv/\ku lay p st cg O bv/\cg.ob=st.ob) (h2:kg S lay names g):kg S lay (x::names) (fB f g):=by
 intro p O st ds cg bc hf;induction ds with
 |nil=>nomatch hf
 |cons d ds=>unfold fB at hf;simp only[aG]at hf;left;let ⟨st1,H0,Sd⟩:=hf;let ⟨lK,a1,b1,c1,d1⟩:=h1 p O st _ st1 bc H0;let ⟨uV,a2,l2,b2,c2,d2⟩:=h2 p lK st1 ds cg b1 Sd;right;exact⟨uV,.cons a1 a2,by simp[l2],b2,c1.trans c2 bc,d2.trans d1⟩
def kg.loc (h:lay.nk i x=true) (h2:kg S lay names g):kg S lay (x::names) (fB (bf i) g):=
 kg.step (λp O st v cg bc hf=>by obtain rfl:=ag hf;let ⟨bv,a,b,c⟩:=bc.ie (S:=S) h v;exact⟨bv,a,b,c,rfl⟩) h2
def kg.nq (h:lay.Gr i x=true) (h2:kg S lay names g):kg S lay (x::names) (fB (jL i) g):=
 kg.step (λp O st v cg bc hf=>by obtain rfl:=ag hf;let ⟨bv,a,b,c⟩:=bc.rM (S:=S) h v;exact⟨bv,a,b,c,rfl⟩) h2
end
def eW (r:eh) (loc:List Str) (own:Sn):Lay:= {scope:=r.scope,loc:=loc,nq:=own.map (·.1),own:= ↑own,grow:=true,code:=aa r.code}
noncomputable def Dk (loc:List Str) (own:Sn) (ob:List CO):St:= {lv:=loc.map λ_=>ac,cv:=own.map λ_=>ac,ob:=ob}
def A0 (loc:List Str) (own:Sn):St:=Dk loc own []
noncomputable def A3 (O:List AO) (own:Sn) (oi:NN):Ip:= {fi:= ↑O,ci:=own.map λq=> ↑O+1+q.2,oi:=oi}
def EB (h:n∈(A3 O own oi).ci): ↑O<n:=by let ⟨q,_,e⟩:=aQ.mp h;exact abR e
def pW.en (F:pW r loc own):(eW r loc own).en (A3 O own oi)=gB r ↑O:=by
 have h:=F.eqn;unfold Lay.en gB eW;refine iv.eq ?_;rw[qE,h,bu];show(own.map (·.1)).zip (own.map λq=> ↑O+1+q.2)=_;clear F h;induction own with
 |nil=>rfl
 |cons a l ih=>simp only[bw,qy];rw[ih]
def pW.at (F:pW r loc own) (h1:∀(j:Nat) (o:CO),ob[j]? =aa o->O[oi j]? =aa (o.ao oi)) (h2:∀i j,i< ↑ob->j< ↑ob->oi i=oi j->i=j) (h3:∀j,oi (↑ob+j)= ↑O+1+fj r.scope.names+j):
  At (eW r loc own) (A3 O own oi) (Dk loc own ob) (ent O r loc):=by
 have kX:∀j,j< ↑ob->oi j< ↑O:=λj hj=>getElem?_lt' (h1 j _ (aq hj));refine⟨?_,by simp[Dk,eW],by simp[Dk,eW],by simp[eW,A3],λi v hv=> ?_,λj o ho=>gp (h1 j o ho),λhm=>lU _ (EB hm),λj hj e=>aa1 (kX j hj) e,λj hj hm=>OR (kX j hj) (EB hm),?_,h2,λ_ j=>by rw[Ey];exact h3 j⟩
 ·unfold ent;show(O++_)[↑O]? =_;rw[aE (ab _),dc];show aa (AO.ns (loc.map λx=>(x,ac)))=aa (AO.ns (loc.zip (TU oi (loc.map λ_=>ac))));congr 2;clear F;induction loc with
  |nil=>rfl
  |cons a l ih=>simpa using ih
 ·have vZ:(own.map λ_=>(ac:OV))[i]? =aa v:=hv;rw[bN]at vZ;simp only[ar]at vZ;let ⟨q,hq,rfl⟩:=vZ;refine⟨↑O+1+q.2,?_,?_⟩
  ·show(own.map λq=> ↑O+1+q.2)[i]? =_;rw[bN,hq];rfl
  ·have DW:=F.lt _ (bo hq);unfold ent;rw[aE (abq),show ↑O+1+q.2- ↑O=q.2+1 by exact abr,il,Ik,if_pos DW];rfl
 ·show(own.map λq=> ↑O+1+q.2).Nodup;rw[show(own.map λq=> ↑O+1+q.2)=(own.map (·.2)).map (↑O+1+ ·) by rw[bD];rfl];exact gX _ (λa b L3=>by exact abt L3) F.ndO
def ku.pre (hs:ku (eW r loc own) (A3 O own oi) st cg (ent O r loc) bv) (hx:x< ↑O) (hj:∀j,j< ↑st.ob->x≠oi j):bv[x]? =O[x]? :=by rw[hs.out x (by rw[Ey];exact abv hx) (cU hx) (λj _ e=>OR hx (EB (bo e))) hj];unfold ent;exact aW hx
def WO (O:List AO) (r:eh) (j:Nat):Nat:= ↑O+1+fj r.scope.names+j
def pW.at0 (F:pW r loc own):At (eW r loc own) (A3 O own (WO O r)) (A0 loc own) (ent O r loc):=
 F.at (λj o h=>gr h) (λi j h=>absurd h (iy _)) λj=>abu
def PI (h:(O++τ)[WO O r j]? =aa x):τ[1+fj r.scope.names+j]? =aa x:=by have e:WO O r j= ↑O+(1+fj r.scope.names+j):=VV;rw[e,aE (bh ..),bO]at h;exact h
def Ge.ob0 (hv:obV st.ob[j]? =aa d) (bc:At lay (A3 O own (WO O r)) st (O++τ)):Ge τ ↑O (CV.av (WO O r) (.ob j)) (.pv d):=by
 rw[(by show AV.fM (↑O+1+fj r.scope.names+j)=_;congr 1;exact VV:CV.av (WO O r) (.ob j)= .fM (↑O+(1+fj r.scope.names+j)))];cases e:st.ob[j]? with
 |none=>rw[e]at hv;exact gr hv
 |some o=>
  rw[e]at hv;induction o with
  |list l=>obtain rfl:=ag hv;exact .list (PI (bc.obs j _ e))
  |dict l=>obtain rfl:=ag hv;exact .dict (PI (bc.obs j _ e))
  |_=>exact gr hv
def Ge.ai9 (h:Gy st fl=aa d) (bc:At lay (A3 O own (WO O r)) st (O++τ)):Ge τ ↑O (fl.af (WO O r)).val (.pv d):=by
 induction fl with
 |next=>obtain rfl:=ag h;exact .pv
 |ret v=>
  induction v with
  |pv d'=>obtain rfl:=ag h;exact .pv
  |inst j=>exact gr h
  |ob j=>exact .ob0 h bc
def EC (loc:List Str) (own:Sn) (tg:List CV->St->Option St) (F:St->Option (pn×St)) (ds:List PV):Option PV:=
 (tg (ds.map .pv) (A0 loc own)).bind λst=>(F st).bind λr=>Gy r.2 r.1
def IV (oi:NN) (ds:List PV):(ds.map CV.pv).map (CV.av oi)=ds.map AV.pv:=by rw[bD];rfl
def jG.of {r:eh} {names:List Str} {ds:List PV} (hl: ↑(ds.map CV.pv)= ↑names) (gu:∀pm (vs:Vs),↑vs= ↑names->bindArgs (r.fd pm) ⟨vs,[]⟩=pure (names.zip vs)) (pm:Value):jG S O (r.fd pm) (ds.map AV.pv) [] (names.zip (ds.map AV.pv)):=by rw[aw]at hl;exact jG.plain (by rw[aw,hl]) λvs hv=>gu pm vs (by rw[hv,aw,hl])
def hV.cells (F:pW r loc own) (Vq:kg S (eW r loc own) names tg) (dY:j3 S k (eW r loc own) r.body G)
  (gu:∀pm (vs:Vs),↑vs= ↑names->bindArgs (r.fd pm) ⟨vs,[]⟩=pure (names.zip vs)):hV S (k+1) r (EC loc own tg G):=by
 intro O ds d hd;refine a9 hd λst1 Zx hd=> ?_;refine a9 hd λ⟨fl,cg⟩ hF FF=> ?_;let ⟨lK,a1,l1,b1,c1,_⟩:=Vq _ _ _ _ st1 F.at0 Zx;let ⟨bv,a,b,c⟩:=dY _ _ _ fl cg b1 hF;let ⟨τ,rfl⟩:=rO λi hi=>(c1.trans c F.at0).pre hi λj hj=>absurd hj (iy _);rw[F.en]at a a1;rw[IV]at a1;exact dy.Di F (λpm=>(jG.of l1 gu pm).B) a1 a rfl (λi x h=> .inl h) (.ai9 FF b)
noncomputable def T6:Nat->List Str->List CV->St->Option St
 |_,[]=>qU
 |i,_::l=>fB (bf i) (T6 (i+1) l)
def kg.all {r:eh} (others:List Str) (names:List Str):∀(pre:List Str),(∀x∈names,r.scope.names.lookup x=aa .local/\x≠ "__debug__")->kg S (eW r (pre++(names++others)) []) names (T6 ↑pre names):=by
 induction names with
 |nil=>exact λ_ _=> .nil
 |cons x names ih=>
  intro pre h;refine .loc ?_ ?_
  ·unfold Lay.nk;rw[show(eW r (pre++(x::names++others)) []).scope=r.scope from rfl,(h x (ay ..)).1,show(eW r (pre++(x::names++others)) []).loc=pre++(x::names++others) from rfl,aE (ab _),dc];simp[(h x (ay ..)).2]
  ·have:=ih (pre++[x]) λy hy=>h y (aK _ hy);rw[bF,aj]at this;exact this
def T7 (l:List (Option CV)) (ds:List PV):∀(names:List Str) (pre:List (Option CV)),↑ds= ↑names->T6 ↑pre names (ds.map .pv) ⟨pre++(names.map (λ_=>ac)++l),[],[]⟩=aa ⟨pre++(ds.map (λd=> ~~~d)++l),[],[]⟩:=by
 induction ds with
 |nil=>
  intro names pre h;induction names with
  |nil=>rfl
  |cons=>cases h
 |cons d ds ih=>
  intro names pre h;induction names with
  |nil=>cases h
  |cons x names=>have:=ih names (pre++[~~~d]) (lZ h);rw[aj]at this;show T6 (↑pre+1) names _ ⟨(pre++(ac::_)).set ↑pre (~~~d),[],[]⟩=_;rw[j5 _ _ (ab _),dc];simpa using this
def hV.plain (F:pW r (names++others) []) (dY:j3 S k (nK r names others) r.body G)
  (gu:∀pm (vs:Vs),↑vs= ↑names->bindArgs (r.fd pm) ⟨vs,[]⟩=pure (names.zip vs)) (Sk:(names.all λx=>r.scope.names.lookup x==aa .local&& !(x==("__debug__" :Str)))=true):
  hV S (k+1) r (mL names others G):=by
 intro O ds d hd;unfold mL at hd;by_cases hl: ↑ds= ↑names
 case neg=>rw[if_neg hl]at hd;exact gr hd
 rw[if_pos hl]at hd;refine hV.cells F (.all others names [] λx hx=> ?_) dY gu O ds d ?_
 ·have:=fI.mp Sk x hx;simpa using this
 ·unfold EC;rw[show A0 (names++others) []=⟨[]++(names.map (λ_=>ac)++others.map λ_=>ac),[],[]⟩ by unfold A0 Dk;rw[bH];rfl,T7 _ ds names [] hl];exact hd
def iA.AB (h:iA x d m m') (l):iA x d (l++m) (l++m'):=by
 induction l with
 |nil=>exact h
 |cons _ _ ih=>exact .there ih
def jD.locs {sc:iv} {O:List AO} (J5:sc.fi= ↑O) (bs:List (Str×AV)):∀(m l:List (Str×Option AV)),(∀x∈bs.map (·.1),sc.scope.names.lookup x=aa .local)->
  jD S sc (O++[.ns (m++(bs.map (λp=>(p.1,ac))++l))]) bs (O++[.ns (m++(bs.map (λp=>(p.1,aa p.2))++l))]):=by
 induction bs with
 |nil=>intro m l _;exact .nil
 |cons q9 bs ih=>
  intro m l h;obtain(⟨x,d⟩):=q9;exact .cons (bA:=O++[.ns (m++((x,aa d)::(bs.map (λp=>(p.1,ac))++l)))]) (jK.loc (by rw[J5,aE (ab _),dc];rfl) (h x (ay ..)) (iA.here.AB m) (by rw[J5,j5 _ _ (ab _),dc];rfl)) (by
   have:=ih (m++[(x,aa d)]) l λy hy=>h y (aK _ hy);rw[bF,bF]at this;exact this)
def dy.def (F:pW r (binds.map (·.1)++others) [])
  (gu:∀pm,jG S O (r.fd pm) args kw binds) (Sk:∀x∈binds.map (·.1),r.scope.names.lookup x=aa .local) (hn:fj r.scope.names=0)
  (dY:cG S k (O++[.ns (binds.map (λp=>(p.1,aa p.2))++others.map λx=>(x,ac))]) (r.env (↑O+0)) r.body f (bv++τ))
  (hl: ↑bv= ↑O) (HQ:∀(i:Nat) (x:AO),bv[i]? =aa x->O[i]? =aa x\/x.flat=true) (hz:Ge τ ↑bv f.val d):
  dy S (k+1) O (.pv (.con (.ref r.addr))) args kw d bv:=by
 have e:gB r ↑O=r.env (↑O+0):=by unfold gB eh.env;rw[qE,F.eqn];rfl
 have hs:=jD.locs (S:=S) (sc:=r.env (↑O+0)) (O:=O) rfl binds [] (others.map λx=>(x,ac)) Sk;refine .Di F (λpm=>(gu pm).B) ?_ (e▸dY) hl HQ hz;rw[e];unfold ent;rw[hn,bH,bD];exact hs
section
variable {M:Model} {A:cS} {R:GenEnd} {Y:Protocol} {n:Nat} {gE:bb} {c:Code} {fs:List Frame} {s:bb} {env:lY}
 {K:B8->zK Fin} {H:Value->zK Fin} {gd:Bool->Bool} {lv:List Value->List Value}
def wM (h:wpAny M (A.over c fs) (exec st env) (λf s'=>FI M A R Y n gE c (K f) fs s') (λx s'=>FI M A R Y n gE c (H x) fs s') s):
  FI M A R Y n gE c ((exec st env).wrap K H gd lv) fs s:=yC h
def IW
  (h:wpAny M (A.over c fs) (isTrue test env (eval test env)) (λb s'=>FI M A R Y n gE c ((if b=true then execs body env else execs orelse env).wrap K H gd lv) fs s') (λx s'=>FI M A R Y n gE c (H x) fs s') s):
  FI M A R Y n gE c ((exec (.If test body orelse pos) env).wrap K H gd lv) fs s:=by
 show FI M A R Y n gE c (.at pos λ_=>((isTrue test env (eval test env)) >>= λb=>if b=true then execs body env else execs orelse env).wrap K H gd lv) fs s;refine seg_at ?_;rw[jm,lS];exact yC h
def T8 (hf:∀x,foldedSetIterable kB env x=pure x)
  (h:wpAny M (A.over c fs) (eval kB env) (λx eG=>wpAny M (A.over c fs) (pyIter x) (λit rn=>∀p,FI M A R Y n gE (.forLoop cD it body orelse env) (M.den (.forLoop cD it body orelse env))
   (.ret (λr=>((match r with| .ok f=>(.pure f:zK B8)| .error e=> .raise e).onRaise λ(x:Value)=>do
    if (<- field x 1)==qg then unsupported "frame.own-activation:exception-without-traceback"
    setFlight x env.frame).wrap K H gd lv) ac (gd false) (lv []) c p []::fs) rn) (λx s'=>FI M A R Y n gE c (H x) fs s') eG) (λx s'=>FI M A R Y n gE c (H x) fs s') s):
  FI M A R Y n gE c ((exec (.For cD kB body orelse pos) env).wrap K H gd lv) fs s:=by
 show FI M A R Y n gE c (.at pos λ_=>(eval kB env >>= λv=>(foldedSetIterable kB env v >>= λx=>(standAt kB.pos >>= λ_=>(holding [x] (pyIter x) >>= λit=>runOwn (.forLoop cD it body orelse env) env)))).wrap K H gd lv) fs s;refine seg_at ?_;rw[jm,lS];refine yC (fZ h (λx eG HV=> ?_) λ_ _ x=>x);rw[hf];show FI M A R Y n gE c (.at kB.pos λ_=>(holding [x] (pyIter x) >>= λit=>runOwn (.forLoop cD it body orelse env) env).wrap K H gd lv) fs eG;refine seg_at ?_;rw[jm,lS];refine yC (dH (fZ HV (λit rn HW=> ?_) λ_ _ x=>x));exact seg_call HW
end
section
variable {prog:Program} {w:jC} {A:cS} {R:GenEnd} {Y:Protocol} {n:Nat} {gE:bb} {fs:List Frame} {s:bb} {env:lY}
def yW
  (h:wpAny (model prog w) (A.over (.forLoop cD it body orelse env) fs) (pyNext it) (λo s'=>match o with
    |none=>FI (model prog w) A R Y n gE (.forLoop cD it body orelse env) (.pure (.again (.block orelse env))) fs s'
    |some v=>wpAny (model prog w) (A.over (.forLoop cD it body orelse env) fs) (letOwnedTupleGo cD it v) (λ_ eG=>wpAny (model prog w) (A.over (.forLoop cD it body orelse env) fs) (assign cD env v) (λ_ rn=>
     FI (model prog w) A R Y n gE (.forLoop cD it body orelse env) ((execs body env).wrap (λf=>match f with
      | .next| .cont=> .pure (.again (.forLoop cD it body orelse env))
      | .brk=> .pure (.done .next)
      | .ret v=> .pure (.done (.ret v))) (λe=>(do noteFrame e env;theTreesLotGoes e:zK Unit).wrap (λ_=> .raise e) .raise id id) id id) fs rn) (λ_ _=>False) eG) (λ_ _=>False) s') (λ_ _=>False) s):
  FI (model prog w) A R Y n gE (.forLoop cD it body orelse env) ((model prog w).den (.forLoop cD it body orelse env)) fs s:=by
 show FI _ A R Y n gE _ ((forTurn cD it body orelse env).onRaise (λx=>do noteFrame x env;theTreesLotGoes x)) fs s;unfold forTurn;rw[Sem.onRaise_eq_wrap];show FI _ A R Y n gE _ (.at cD.pos λ_=>((pyNext it).onRaise (λ_=>standAt {cD.pos with line:=0}) >>= λo=>_).wrap _ _ _ _) fs s;refine seg_at ?_;rw[jm,lS];refine yC (kE (fZ h (λo s' ho=> ?_) λ_ _ x=>x.elim));induction o with
 |none=>exact ho
 |some v=>
  show FI _ A R Y n gE _ ((letOwnedTupleGo cD it v >>= λ_=>(assign cD env v >>= λ_=>(execs body env >>= λf=>_))).wrap _ _ _ _) fs s';rw[jm,lS];refine yC (fZ ho (λ_ eG HV=> ?_) λ_ _ x=>x.elim);rw[jm,lS];refine yC (fZ HV (λ_ rn HW=> ?_) λ_ _ x=>x.elim);rw[jm,lS];rw[Sem.wrap_congr (execs body env) _ _ (K':=λf=>match f with
      | .next| .cont=> .pure (.again (.forLoop cD it body orelse env))
      | .brk=> .pure (.done .next)
      | .ret v=> .pure (.done (.ret v))) (H':=(λe=>(do noteFrame e env;theTreesLotGoes e:zK Unit).wrap (λ_=> .raise e) .raise id id))
    (λf=>by cases f<;>rfl)
    (λe=>by first|exact VE _ _|(show(do noteFrame e env;theTreesLotGoes e:zK Unit).bind (λ_=> .raise e)=_;rw[VE]))]
  exact HW
def MJ (h:FI (model prog w) A R Y n gE (.block [] env) (.pure (.done .next)) fs s):FI (model prog w) A R Y n gE (.block [] env) ((model prog w).den (.block [] env)) fs s:=h
end
noncomputable abbrev wN:Str:=ah "addr"
noncomputable abbrev oB:Str:=ah "pos"
noncomputable abbrev oE:Str:=ah "escape"
noncomputable abbrev A4:Str:=ah "ch"
noncomputable abbrev zX:Str:=ah "\\"
noncomputable def iX:Nat->Bool->List Nat->List (Nat×Str)
 |i,e,[]=>if e then [(i- 1,zX)] else []
 |i,e,c::r=>if e then(i,zX++⟨#[c]⟩)::iX (i+1) false r else if ((⟨#[c]⟩:Str)==zX) then iX (i+1) true r else(i,⟨#[c]⟩)::iX (i+1) false r
structure GE (env:lY) (L:Addr):Prop where
 kind:env.scope.kind= .function
 kp:env.kindOf oB=aa .local
 ke:env.kindOf oE=aa .local
 kc:env.kindOf A4=aa .local
 ka:env.kindOf wN=aa .local
 loc:env.locals=L
 co:env.scope.isCoroutine=false
def GE.inter (h:GE env L):interactive env=false:=by unfold interactive;rw[h.kind];rfl
def GE.plain (h:GE env L):(env.scope.kind== .class||(env.scope.kind== .module&&env.locals !=env.globals))=false:=by rw[h.kind];rfl
structure nZ (L E T:Addr) (s s':bb):Prop where
 os:s'.os=s.os
 gens:s'.gens=s.gens
 h:∀b o,b≠L->b≠E->b≠T->s.heap.get? b=aa o->s'.heap.get? b=aa o
def nZ.refl (L E T:Addr) (s:bb):nZ L E T s s:=⟨rfl,rfl,λ_ _ _ _ _ h=>h⟩
def nZ.trans (h:nZ L E T a b) (k:nZ L E T b c):nZ L E T a c:=⟨k.os.trans h.os,k.gens.trans h.gens,λx o h1 h2 h3 e=>k.h x o h1 h2 h3 (h.h x o h1 h2 h3 e)⟩
def nZ.ext (k:∀b o,b≠L->b≠E->b≠T->s.heap.get? b=aa o->h'.get? b=aa o):nZ L E T s {s with heap:=h',toks:=tk}:=⟨rfl,rfl,k⟩
def X4 (L:Addr) (i:Nat) (e:Bool) (h:iS):Prop:=∃m,h.Ns L m/\m oE=aa (.bool e)/\(e=true->1<=i/\∃tk,m oB=aa (.int ((i- 1:Nat):Int) tk))
structure GSt (x:Str) (t:CU) (L E T:Addr) (i:Nat) (e:Bool) (h:iS):Prop where
 ns:X4 L i e h
 en:∃old,IsEnum h E T i old
 it:h.IsStrIter T "str_ascii_iterator" x t i
def zY (L E T:Addr) (h h':iS):Prop:=∀b,b=L\/b=E\/b=T->∀o,h.get? b=aa o->h'.get? b=aa o
def X4.same (x:X4 L i e h) (k:∀o,h.get? L=aa o->h'.get? L=aa o):X4 L i e h':=xe12 (x) λm hn r=>⟨m,hn.at' k,r⟩
def YG (x:Str) (t:CU) (L E T:Addr):Protocol:=λn gE v eG kap=>
 ∃(p:Nat) (y:Str) (t1 t2:CU) (tp:Addr) (l:List (Nat×Str)) (pre:List (Nat×Str)),v= .ref tp/\eG.heap.get? tp=aa {cls:= .type "tuple",data:= .seq #[.int p t1,.str y t2]}/\gE.heap.get? tp=ac/\nZ L E T gE eG/\
  pre++(p,y)::l=iX 0 false x.cps.toList/\n= ↑l/\tp≠L/\tp≠E/\tp≠T/\
  (∀b,b=L\/b=E\/b=T->∃o,eG.heap.get? b=aa o)/\∀D0,zY L E T eG.heap D0.heap->kap (.send .none) D0
def RG (L E T:Addr):GenEnd:=λn gE r eG=>r= .ok (.ret .none)/\n=0/\nZ L E T gE eG
section
variable {A:cS} {xP:VS} {s:bb} {env:lY} {L E T:Addr}
def qm (hE:GE env L) (hk:env.kindOf x=aa .local) (hn:s.heap.Ns L m) (hv:m x=aa v) (hd:(x==("__debug__" :Str))=false) (h:Q v s):
  wpAny (MM w) A (eval (.Name x pos) env) Q xP s:=B6 (qf hE.kind hk (hE.loc▸hn) hv h) hd
def Lg (hE:GE env L) (hk:env.kindOf x=aa .local) (hn:s.heap.Ns L m) (hv:m x=aa (.bool b)) (hd:(x==("__debug__" :Str))=false) (h:Q b s):
  wpAny (MM w) A (isTrue (.Name x pos) env (eval (.Name x pos) env)) Q xP s:=se (qm hE hk hn hv hd (gc h)) rfl
def tj (hE:GE env L) (hk:env.kindOf x=aa .local) (hn:s.heap.Ns L m)
  (h:∀h',h'.Ns L (λy=>if y=x then aa v else m y)->gH L s.heap h'->Q () {s with heap:=h',toks:=s.toks+1}):wpAny (MM w) A (storeName env x v) Q xP s:=
 xQ hk (hE.loc▸hn) (λh' a b=>h h' (hE.loc▸a) (hE.loc▸b)) hE.plain
def Dl (hE:GE env L) (hg:X4 L i e s.heap) (hb:b=true->1<=i/\∃m tk,s.heap.Ns L m/\m oB=aa (.int ((i- 1:Nat):Int) tk))
  (h:∀h' tk,X4 L i b h'->gH L s.heap h'->Q .next {s with heap:=h',toks:=tk}):wpAny (MM w) A (exec (.Assign [.Name oE jW] (.Constant (.bool b) n FA) pos) env) Q xP s:=by
 left;let ⟨m,hn,h1,h2⟩:=hg;right;refine kZ (zI (tj hE hE.ke hn λh' vt hs=>h h' _ ⟨_,vt,if_pos rfl,λSl=> ?_⟩ hs)) rfl;left;let ⟨q1,m',tk,L2,hp⟩:=hb Sl;right;refine⟨q1,tk,?_⟩;rw[if_neg ∅];rw[hn.agree L2];exact hp
end
section
variable {A:cS} {s gE:bb} {env:lY} {L E T:Addr} {x:Str} {t:CU} {w:jC} {c:Code} {fs:List Frame} {K:B8->zK Fin} {H:Value->zK Fin} {gd:Bool->Bool} {lv:List Value->List Value}
def PJ (i c:Nat) (r:Nz):iX i true (c::r)=(i,zX++⟨#[c]⟩)::iX (i+1) false r:=rfl
def ED (i c:Nat) (r:Nz):iX i false (c::r)=if ((⟨#[c]⟩:Str)==zX)=true then iX (i+1) true r else(i,⟨#[c]⟩)::iX (i+1) false r:=rfl
def vK {l pre:List (Nat×Str)} (hE:GE env L) (NW:L≠E) (L8:L≠T) (Ot:E≠T)
  (hn1:notStar e1=true) (Xa:notStar e2=true) (jM:pre++(p,y)::l=iX 0 false x.cps.toList) (Xb:nZ L E T gE s) (H6:∀b,b=L\/b=E\/b=T->b<s.heap.objs.size) (Zy:∀b,b=L\/b=E\/b=T->∃o,s.heap.get? b=aa o)
  (h1:∀(Q:VS) xP,(∀tk k,Q (.int p tk) {s with toks:=k})->wpAny (MM w) (A.over c fs) (eval e1 env) Q xP s)
  (h2:∀k (Q:VS) xP,(∀tk k',Q (.str y tk) {s with toks:=k'})->wpAny (MM w) (A.over c fs) (eval e2 env) Q xP {s with toks:=k})
  (hfs:splitAtGen fs=ac) (hgd:gd false=false) (hfg:fs.any Xo=false)
  (hK:∀D0,zY L E T s.heap D0.heap->FI (MM w) A (RG L E T) (YG x t L E T) ↑l D0 c (K .next) fs D0):
  FI (MM w) A (RG L E T) (YG x t L E T) (↑l+1) gE c ((exec (.Expr (.Yield (aa (.Tuple [e1,e2] tn ua)) anE) pos) env).wrap K H gd lv) fs s:=by
 refine seg_Expr_Yield hfs hgd hfg ?_ hE.co hE.inter;refine sN ?_;rw[gA hn1,gA Xa];refine bX (h1 _ _ λt1 k1=>bX (h2 k1 _ _ λt2 k2=>eB ⟨by show 2<=sizeLine;decide,?_⟩));intro kap Sm;have yy:∀b,b=L\/b=E\/b=T->s.heap.objs.size≠b:=λb hb e=>absurd (e▸H6 b hb) (lU _);refine⟨p,y,t1,t2,s.heap.objs.size,l,pre,rfl,aV _ rfl,?_,Xb.trans (.ext λb o _ _ _ e=>aJ _ e),jM,rfl,yy L (.inl rfl),yy E (.inr (.inl rfl)),yy T (.inr (.inr rfl)),λb hb=>(Zy b hb).imp λo ho=>aJ _ ho,λD0 zH=> ?_⟩
 ·cases e:gE.heap.get? s.heap.objs.size with
  |none=>rfl
  |some o=>have:=Xb.h _ _ (yy L (.inl rfl)) (yy E (.inr (.inl rfl))) (yy T (.inr (.inr rfl))) e;exact absurd (bW this) (lU _)
 ·exact Sm .none D0 (hK D0 λb hb o e=>zH b hb o (aJ _ e))
def GIn (L:Addr) (i:Nat) (e:Bool) (ch:Nat) (h:iS):Prop:=∃m,h.Ns L m/\m oE=aa (.bool e)/\(∃tk,m oB=aa (.int (i:Int) tk))/\∃tk,m A4=aa (.str ⟨#[ch]⟩ tk)
structure MK (x:Str) (t:CU) (L E T:Addr) (i:Nat) (e:Bool) (ch:Nat) (h:iS):Prop where
 ns:GIn L i e ch h
 en:∃old,IsEnum h E T ((i+1:Nat):Int) old
 it:h.IsStrIter T "str_ascii_iterator" x t (i+1)
def MK.same (g:MK x t L E T i e ch h) (k:zY L E T h h'):MK x t L E T i e ch h':=
 ⟨xe12 (g.ns) λm hn r=>⟨m,hn.at' (k L (.inl rfl)),r⟩,xe11 (g.en) λold h1=>⟨old,k E (.inr (.inl rfl)) _ h1⟩,xe12 (g.it) λo ho r=>⟨o,k T (.inr (.inr rfl)) _ ho,r⟩⟩
def MK.live (g:MK x t L E T i e ch h):∀b,b=L\/b=E\/b=T->∃o,h.get? b=aa o:=by
 intro b hb;rcases hb with rfl|rfl|rfl
 ·let ⟨m,⟨o,_,_,ho,_⟩,_⟩:=g.ns;exact⟨o,ho⟩
 ·let ⟨old,h⟩:=g.en;exact⟨_,h⟩
 ·let ⟨o,ho,_⟩:=g.it;exact⟨o,ho⟩
def GSt.live (g:GSt x t L E T i e h):∀b,b=L\/b=E\/b=T->∃o,h.get? b=aa o:=by
 intro b hb;rcases hb with rfl|rfl|rfl
 ·let ⟨m,⟨o,_,_,ho,_⟩,_⟩:=g.ns;exact⟨o,ho⟩
 ·let ⟨old,h⟩:=g.en;exact⟨_,h⟩
 ·let ⟨o,ho,_⟩:=g.it;exact⟨o,ho⟩
def GB (hE:GE env L) (NW:L≠E) (L8:L≠T) (Ot:E≠T)
  (hfs:splitAtGen fs=ac) (hgd:gd false=false) (hfg:fs.any Xo=false)
  (jM:pre++iX i e (ch::r)=iX 0 false x.cps.toList) (hg:MK x t L E T i e ch s.heap) (hk:nZ L E T gE s)
  (hK:∀e' H7 zp s',H7++iX (i+1) e' r=iX 0 false x.cps.toList->GSt x t L E T (i+1) e' s'.heap->nZ L E T zp s'->FI (MM w) A (RG L E T) (YG x t L E T) ↑(iX (i+1) e' r) zp c (K .next) fs s'):
  FI (MM w) A (RG L E T) (YG x t L E T) ↑(iX i e (ch::r)) gE c ((execs [.If (.Name oE d0) [.Expr (.Yield (aa (.Tuple [.Name oB d1,.BinOp (.Constant (.str zX) n2 d2) .Add (.Name A4 d3) d4] m2 d5)) d6) d7,.Assign [.Name oE d8] (.Constant (.bool false) n3 d9) d10]
   [.If (.Compare (.Name A4 e0) [.Eq] [.Constant (.str zX) n4 e1] e2) [.Assign [.Name oE e3] (.Constant (.bool true) n5 e4) e5] [.Expr (.Yield (aa (.Tuple [.Name oB e6,.Name A4 e7] m3 e8)) e9) Zz] ZA] d11] env).wrap K H gd lv) fs s:=by
 left;let ⟨m,hn,hme,⟨tp,hmp⟩,⟨tc,hmc⟩⟩:=hg.ns;have H6:=hg.live;have kX:∀b,b=L\/b=E\/b=T->b<s.heap.objs.size:=λb hb=>xe11 (H6 b hb) λo ho=>bW ho;right;refine gT (IW (Lg hE hE.ke hn hme rfl ?_));induction e with
 |true=>
  rw[if_pos rfl];rw[PJ]at jM⊢;refine gT (vK (l:=iX (i+1) false r) (pre:=pre) hE NW L8 Ot rfl rfl jM hk kX H6 (λQ xP hq=>qm hE hE.kp hn hmp ∅ (hq tp _)) (λk Q xP hq=> ?_) hfs hgd hfg λD0 zH=> ?_)
  ·refine F1 (kj (qm (s:= {s with toks:=k+1}) hE hE.kc hn hmc ∅ (SB.add (λt' k'=>hq t' k') ?_)));show ↑zX+1<=sizeLine;decide
  ·have wi:=hg.same zH;refine gT (wM ?_);left;let ⟨m',vt,So,NX,_⟩:=wi.ns;right;refine Dl (i:=i+1) (e:=true) hE ⟨m',vt,So,λ_=>⟨Nat.succ_pos _,?_⟩⟩ (λh=>by cases h) λh' tk hgn NY=> ?_
   ·let ⟨tk,NX⟩:=NX;exact⟨tk,by simpa using NX⟩
   ·refine gR (gR (hK false (pre++[(i,zX++⟨#[ch]⟩)]) _ _ (by rw[bF];exact jM) ⟨hgn,?_,?_⟩ (.ext λb o h1 _ _ e=>NY.extBut b o h1 e)))
    ·let ⟨old,ho⟩:=wi.en;exact⟨old,NY.extBut _ _ NW.symm ho⟩
    ·exact wi.it.extBut NY.extBut L8.symm
 |false=>
  rw[if_neg bG];rw[ED]at jM⊢;refine gT (IW (xR (qm hE hE.kc hn hmc ∅ (kj (CZ (gc ?_)))) rfl));cases hb:((⟨#[ch]⟩:Str)==zX)with
  |true=>
   rw[hb]at jM;simp only[if_true]at jM⊢;refine gT (wM ?_);refine Dl (s:= {s with toks:=s.toks+1}) (i:=i+1) (e:=false) hE ⟨m,hn,hme,λh=>by cases h⟩ (λ_=>⟨Nat.succ_pos _,m,tp,hn,by exact hmp⟩) λh' tk hgn NY=> ?_;refine gR (gR (gR (hK true pre _ _ jM ⟨hgn,?_,?_⟩ (hk.trans (.ext λb o h1 _ _ e=>NY.extBut b o h1 e)))))
   ·let ⟨old,ho⟩:=hg.en;exact⟨old,NY.extBut _ _ NW.symm ho⟩
   ·exact hg.it.extBut NY.extBut L8.symm
  |false=>rw[hb]at jM;simp only[fw,if_false]at jM⊢;refine gT (vK (s:= {s with toks:=s.toks+1}) (l:=iX (i+1) false r) (pre:=pre) hE NW L8 Ot rfl rfl jM (hk.trans ⟨rfl,rfl,λ_ _ _ _ _ e=>e⟩) kX H6 (λQ xP hq=>qm hE hE.kp hn hmp ∅ (hq tp _)) (λk Q xP hq=>qm (s:= {s with toks:=k}) hE hE.kc hn hmc ∅ (hq tc _)) hfs hgd hfg λD0 zH=> ?_);have wi:=hg.same zH;left;let ⟨m',vt,So,NX,_⟩:=wi.ns;right;exact gR (gR (gR (hK false (pre++[(i,⟨#[ch]⟩)]) _ _ (by rw[bF];exact jM) ⟨⟨m',vt,So,λh=>by cases h⟩,wi.en,wi.it⟩ (.refl ..))))
end
section
variable {A:cS} {s gE:bb} {env:lY} {L E T:Addr} {x:Str} {t:CU} {w:jC}
def ML {E:VS} (hh:A.handled=ac) (hit:s.heap.IsStrIter it "str_ascii_iterator" x t i) (hx:x.cps[i]? =ac)
  (hE:∀h' e,rp it s.heap h'->(∃o,h'.get? it=aa o)->(∃o,h'.get? e=aa o/\o.cls= .type "StopIteration")->E (.ref e) {s with heap:=h'}):
  wpAny (MM w) A (u6 (.ref it)) Q E s:=by
 left;let ⟨o,ho,hc,hd⟩:=id hit;right;unfold u6;refine am (uZ (name:=ah "__next__") hit.typeIs F.slot_str_ascii_iterator_next (uY F.slot_str_ascii_iterator_next hit.typeIs F.entry_str_ascii_iterator_next ?_ (F.args_str_ascii_iterator_next_1 _)));show wpAny _ _ (field (.ref it) 0 >>= _) _ _ s;refine am (FZ ho hd (x:= .str x t) rfl ?_);show wpAny _ _ (field (.ref it) 1 >>= _) _ _ s;refine am (FZ ho hd (x:= .int i 0) rfl ?_);simp only[rA,hx];refine am (Ki (am (wpAny_setField ho hd (by simp) (am (wpAny_letGo ?_)))));show wpAny _ _ (newExc (.type "StopIteration") [] >>= _) _ _ _;simp only[newExc,newTuple];refine am (am (iH (am (m:=firstArgMember _ _) (i5 (a:=qg) (by first|rfl|(simp only[firstArgMember];rfl)) (iH ?_ (by size_fits)))) (by size_fits)));simp only[raiseNew];refine am (wpAny_handled ?_);first|rw[show A.in1.handled=ac from hh]|rw[hh]
 refine am (aR (wpAny_throw ?_));exact hE _ _ (((mR ..).extBut.push _).push _) ⟨_,aJ _ (aJ _ (uP _ ho (Obj.isFreed_of_fields (Obj.data_mapFields hd _))))⟩ ⟨_,aV _ rfl,rfl⟩
def GC
  (hA:A.handled=ac) (hE:GE env L) (NW:L≠E) (L8:L≠T) (Ot:E≠T)
  (ajN:∀e' i' H7 zp s',H7++iX i' e' []=iX 0 false x.cps.toList->X4 L i' e' s'.heap->(∀b,b=L\/b=E\/b=T->∃o,s'.heap.get? b=aa o)->nZ L E T zp s'->FI (MM w) A (RG L E T) (YG x t L E T) ↑(iX i' e' []) zp ajO (kf (.ok .next)) [] s'):
  ∀(r:Nz) (i:Nat) (e:Bool) (pre:List (Nat×Str)) (gE s:bb),x.cps.toList.drop i=r->pre++iX i e r=iX 0 false x.cps.toList->GSt x t L E T i e s.heap->nZ L E T gE s->
   FI (MM w) A (RG L E T) (YG x t L E T) ↑(iX i e r) gE
    (.forLoop (.Tuple [.Name oB c0,.Name A4 c1] mm c2) (.ref E) [.If (.Name oE d0) [.Expr (.Yield (aa (.Tuple [.Name oB d1,.BinOp (.Constant (.str zX) n2 d2) .Add (.Name A4 d3) d4] m2 d5)) d6) d7,.Assign [.Name oE d8] (.Constant (.bool false) n3 d9) d10]
     [.If (.Compare (.Name A4 e0) [.Eq] [.Constant (.str zX) n4 e1] e2) [.Assign [.Name oE e3] (.Constant (.bool true) n5 e4) e5] [.Expr (.Yield (aa (.Tuple [.Name oB e6,.Name A4 e7] m3 e8)) e9) Zz] ZA] d11] [] env)
    ((MM w).den (.forLoop (.Tuple [.Name oB c0,.Name A4 c1] mm c2) (.ref E) [.If (.Name oE d0) [.Expr (.Yield (aa (.Tuple [.Name oB d1,.BinOp (.Constant (.str zX) n2 d2) .Add (.Name A4 d3) d4] m2 d5)) d6) d7,.Assign [.Name oE d8] (.Constant (.bool false) n3 d9) d10]
     [.If (.Compare (.Name A4 e0) [.Eq] [.Constant (.str zX) n4 e1] e2) [.Assign [.Name oE e3] (.Constant (.bool true) n5 e4) e5] [.Expr (.Yield (aa (.Tuple [.Name oB e6,.Name A4 e7] m3 e8)) e9) Zz] ZA] d11] [] env))
    [.ret kf ac false l1 ajO anF []] s:=by
 intro r;induction r with
 |nil=>
  intro i e pre gE s hd jM hg hk;refine yW ?_;let ⟨old,Sq⟩:=hg.en;have hi:i>=x.cps.size:=by have:=congrArg eX hd;rw[fH,lW,bx]at this;exact abD this
  have hit:s.heap.IsStrIter T "str_ascii_iterator" x t i:=hg.it;have hTy:s.TypeIs (.ref E) "enumerate" :=⟨_,Sq,rfl⟩;unfold pyNext;refine am (wpAny_attempt (uZ (name:=ah "__next__") hTy F.slot_enumerate_next (uY F.slot_enumerate_next hTy F.entry_enumerate_next ?_ (F.args_enumerate_next_1 _))));show wpAny _ _ (field (.ref E) 2 >>= _) _ _ _;refine am (FZ Sq rfl (x:= .ref T) rfl ?_);refine am (ML (hA) hit (by simp;exact aaO hi) λh' ex hb hTl sM=> ?_);let ⟨o,ho,hc⟩:=sM;refine am (wpAny_isInstance (T:= "StopIteration") (b:=true) ⟨o,ho,hc⟩ isSubtype_stop ?_);refine aR ?_;refine seg_again rfl (MJ (seg_leaf (.ok .next) (ajN e i pre gE _ jM ?_ (λb uU=> ?_) (hk.trans (.ext λb o _ _ h3 e=>hb b o h3 e)))))
  ·exact hg.ns.same λo ho=>hb _ _ L8 ho
  ·rcases uU with rfl|rfl|rfl
   ·let ⟨o,ho⟩:=hg.live _ (.inl rfl);exact⟨o,hb _ _ L8 ho⟩
   ·exact⟨_,hb _ _ Ot Sq⟩
   ·exact hTl
 |cons ch r ih=>
  intro i e pre gE s hd jM hg hk;refine yW ?_;let ⟨old,Sq⟩:=hg.en;let ⟨m,hn,hme,hmp⟩:=hg.ns;have hi:i<x.cps.size:=by
   rcases bS i x.cps.size with h|h
   ·exact h
   ·rw[sR (by rw[bx];exact h)]at hd;nomatch hd
  have hch:x.cps[i]? =aa ch:=by have:=congrArg (λl=>l[0]?) hd;simpa using this
  have Aj:x.cps.toList.drop (i+1)=r:=by have:=congrArg List.tail hd;simpa using this
  refine wpAny_pyNext_enum_itemD (Draws.strAscii (by exact hA) T x t) Sq hg.it hi Ot (by simp[Ot]) λv h1 tk hP ho hit ht hsz Xc=> ?_;left;let ⟨cc,u,Xd,rfl⟩:=hP;right;rw[hch]at Xd;obtain rfl:=ag Xd;have hLl:L<s.heap.objs.size:=hn.lt;have hTl:T<s.heap.objs.size:=by let ⟨o,ho,_⟩:=hg.it;exact bW ho
  refine wpAny_letOwnedTupleGo_enum ho λh2 he2 hs2=> ?_;have H8:gH E h1 h2:=hs2;have Xa:h2.Ns L m:=(hn.at' λo e=>Xc L o NW L8 e).sameBut H8 NW;have ht2:h2.get? s.heap.objs.size=aa {cls:= .type "tuple",data:= .seq #[.int i tk,.str ⟨#[ch]⟩ u]}:=H8.extBut _ _ (jV (bW Sq)) ht;refine B5 (hA) ⟨_,ht2,rfl,_,rfl⟩ rfl rfl λh3 hk3=> ?_;have anJ:h2.objs.size=s.heap.objs.size+1:=by rw[H8.1,hsz]
  have agz:∀b o,h2.get? b=aa o->h3.get? b=aa o:=λb o e=>hk3 b o (cU (bW e)) e;show wpAny _ _ (do holding _ (assign (.Name oB c0) env (.int i tk));holding _ (assign (.Name A4 c1) env (.str ⟨#[ch]⟩ u));pure ()) _ _ _;refine am (dH (zu (tj hE hE.kp (Xa.at' λo e=>agz L o e) λh4 hn4 hs4=> ?_)));refine am (dH (zu (tj hE hE.kc hn4 λh5 hn5 hs5=>aR ?_)));have ajP:gH L h3 h4:=hs4;have ajQ:gH L h4 h5:=hs5;have CM:∀b o,b≠L->h2.get? b=aa o->h5.get? b=aa o:=λb o hb e=>ajQ.extBut b o hb (ajP.extBut b o hb (agz b o e));refine GB hE NW L8 Ot rfl rfl rfl (i:=i) (e:=e) (ch:=ch) (r:=r) jM ⟨⟨_,hn5,?_,⟨tk,?_⟩,⟨u,if_pos rfl⟩⟩,⟨.str ⟨#[ch]⟩ u,?_⟩,?_⟩ (hk.trans (.ext λb o h1' Om h3' e=>CM b o h1' (H8.extBut b o Om (Xc b o Om h3' e)))) λe' H7 zp s' H9 wi xW=> ?_
  ·rw[if_neg ∅,if_neg ∅];exact hme
  ·rw[if_neg ∅,if_pos rfl]
  ·have:=CM E _ NW.symm he2;exact this
  ·let ⟨o,sd,r'⟩:=hit;exact⟨o,CM T _ L8.symm (H8.extBut _ _ Ot.symm sd),r'⟩
  ·exact seg_again rfl (ih (i+1) e' H7 zp s' Aj H9 wi xW)
end
section
variable {A:cS} {s:bb} {env:lY} {L:Addr} {x:Str} {t:CU} {w:jC}
noncomputable abbrev wO:Str:=ah "enumerate"
def GD
  (hA:A.handled=ac) (hE:GE env L) (hke:env.kindOf wO=aa .globalImplicit) (hgl:env.globals=mainGlobals) (Sj:env.builtins=builtinsNs) (hx:x.cps.all (· <128)=true)
  (hn:s.heap.Ns L m) (ha:m wN=aa (.str x t)) (agB:∃mg,s.heap.Ns mainGlobals mg/\mg wO=ac) (ajT:∃mb,s.heap.Ns builtinsNs mb/\mb wO=aa (.type "enumerate")) (hgL:mainGlobals≠L) (hbL:builtinsNs≠L)
  (dY:body=[.Assign [.Name oB a0] (.Constant (.int 0) n0 a1) a2,.Assign [.Name oE b0] (.Constant (.bool false) n1 b1) b2,
   .For (.Tuple [.Name oB c0,.Name A4 c1] mm c2) (.Call (.Name wO c3) [.Name wN c4] [] c5) [.If (.Name oE d0) [.Expr (.Yield (aa (.Tuple [.Name oB d1,.BinOp (.Constant (.str zX) n2 d2) .Add (.Name A4 d3) d4] m2 d5)) d6) d7,.Assign [.Name oE d8] (.Constant (.bool false) n3 d9) d10]
     [.If (.Compare (.Name A4 e0) [.Eq] [.Constant (.str zX) n4 e1] e2) [.Assign [.Name oE e3] (.Constant (.bool true) n5 e4) e5] [.Expr (.Yield (aa (.Tuple [.Name oB e6,.Name A4 e7] m3 e8)) e9) Zz] ZA] d11] [] c6,
   .If (.Name oE f0) [.Expr (.Yield (aa (.Tuple [.Name oB f1,.Constant (.str zX) n6 f2] m4 f3)) f4) f5] [] f6]):
  FI (MM w) A (RG L (s.heap.objs.size+1) s.heap.objs.size) (YG x t L (s.heap.objs.size+1) s.heap.objs.size) ↑(iX 0 false x.cps.toList) s (.func body env) ((MM w).den (.func body env)) [] s:=by
 have hLs:L<s.heap.objs.size:=hn.lt;have L8:L≠s.heap.objs.size:=cU hLs;have NW:L≠s.heap.objs.size+1:=cU (eI hLs);have Ot:s.heap.objs.size+1≠s.heap.objs.size:=Nat.succ_ne_self _;generalize hEd:s.heap.objs.size+1=E at*;generalize hTd:s.heap.objs.size=T at*;refine seg_func ?_;rw[show execs body env=execs _ env from congrArg (λb=>execs b env) dY];refine gT (wM (kZ (wpAny_Constant_int (tj hE hE.kp hn λh1 hn1 Zv=> ?_)) rfl));refine gT (wM (kZ (zI (tj hE hE.ke hn1 λh2 Xa hs2=> ?_)) rfl));have agC:gH L s.heap h1:=Zv;have H8:gH L h1 h2:=hs2;have H5:∀b o,b≠L->s.heap.get? b=aa o->h2.get? b=aa o:=λb o hb e=>H8.extBut b o hb (agC.extBut b o hb e);left;let ⟨mg,FX,hg1⟩:=agB;let ⟨mb,hmb,Ou⟩:=ajT;right;refine gT (T8 (λ_=>rfl) ?_);refine cn (qi hE.kind hke (FK (by rw[hgl];exact FX.at' λo e=>H5 _ o hgL e) hg1 (by rw[Sj];exact hmb.at' λo e=>H5 _ o hbL e) Ou ?_) rfl);refine ed rfl (lD rfl (bX (qm hE hE.ka Xa (by rw[if_neg ∅,if_neg ∅];exact ha) rfl (eB (iI ?_)))));refine call_enumerate_str λh3 he3 hi3 anQ hk3=> ?_;have hT3:h2.objs.size=T:=(by rw[H8.1,agC.1,hTd]);replace he3:IsEnum h3 (h2.objs.size+1) h2.objs.size 0 .none:=he3;replace hi3:h3.IsStrIter h2.objs.size (strIterType x) x t 0:=hi3;show wpAny _ _ (pyIter (.ref (h2.objs.size+1))) _ _ _;rw[hT3]at he3 hi3⊢;rw[(by omega:T+1=E)]at he3⊢;have ru:strIterType x= "str_ascii_iterator" :=by unfold strIterType;rw[hx];rfl
 rw[ru]at hi3;refine wpAny_pyIter_enum he3 λp=> ?_;have hn3:h3.Ns L _:=Xa.at' λo e=>hk3 L o e;refine GC hA hE NW L8 Ot (λe' i' H7 zp s' jM hgn Sq hk=> ?_) x.cps.toList 0 false [] s _ rfl rfl ⟨⟨_,hn3,?_,λh=>by cases h⟩,⟨_,he3⟩,hi3⟩ (.ext λb o hb _ _ e=>hk3 b o (H5 b o hb e))
 ·show FI _ _ _ _ _ _ _ ((execs _ env).wrap _ _ _ _) _ _;let ⟨m',vt,So,NX⟩:=hgn;refine gT (IW (Lg hE hE.ke vt So rfl ?_));induction e' with
  |true=>rw[if_pos rfl];left;let ⟨_,tk,hmp⟩:=NX rfl;right;refine gT (vK (l:=[]) (pre:=H7) hE NW L8 Ot rfl rfl jM hk (λb hb=>xe11 (Sq b hb) λo ho=>bW ho) Sq (λQ xP hq=>qm hE hE.kp vt hmp rfl (hq tk _)) (λk Q xP hq=>kj (hq _ _)) rfl rfl rfl λD0 _=> ?_);exact gR (gR (seg_end (.ok (.ret .none)) ⟨rfl,rfl,.refl ..⟩))
  |false=>rw[if_neg bG];exact gR (gR (seg_end (.ok (.ret .none)) ⟨rfl,rfl,hk⟩))
 ·exact if_pos rfl
end
def Rel.step (R:Rel S c O h) (own:Addr->Prop) [DecidablePred own] (zH:∀a,own a->(∃o,c.pin a=aa o)\/h.objs.size<=a) (hk:∀b o,¬own b->h.get? b=aa o->h'.get? b=aa o):
  Rel S {c with pin:=λa=>if own a then h'.get? a else c.pin a} O h':=by
 have hF:∀a o,c.F a=aa o->¬own a:=λa o e ha=>by
  rcases zH a ha with⟨x,hx⟩|hx
  ·rw[(R.pins a x hx).2.1]at e;nomatch e
  ·rw[R.oy hx]at e;nomatch e
 have DV:∀i,i< ↑O->¬own (c.Z i):=λi hi ha=>by
  rcases zH _ ha with⟨x,hx⟩|hx
  ·exact(R.pins _ x hx).2.2.1 i hi rfl
  ·exact absurd (R.Mo hi) (fD.mpr hx)
 have ht:∀q∈cm,¬own q.2:=λq hq ha=>by
  rcases zH _ ha with⟨x,hx⟩|hx
  ·exact(R.pins _ x hx).2.2.2 q hq rfl
  ·exact absurd (R.Ga hq) (fD.mpr hx)
 refine⟨λa o e=>hk a o (hF a o e) (R.frozen a o e),R.base,λi ao e=> ?_,R.apart,R.inj,λa o e=> ?_,λq hq=> ?_⟩
 ·let ⟨o,p,r⟩:=R.own i ao e;exact⟨o,hk _ _ (DV i (getElem?_lt' e)) p,r.j6 (λ_ _ e=>e) (λ_ _=>rfl) (ab _)⟩
 ·have e':(if own a then h'.get? a else c.pin a)=aa o:=e;by_cases ha:own a
  ·rw[if_pos ha]at e';refine⟨e',?_,λi hi e=>DV i hi (e▸ha),λq hq e=>ht q hq (e▸ha)⟩;show c.F a=ac;cases ex:c.F a with
   |none=>rfl
   |some y=>exact absurd ha (hF a y ex)
  ·rw[if_neg ha]at e';left;let ⟨p1,p2,p3,p4⟩:=R.pins a o e';right;exact⟨hk a o ha p1,p2,p3,p4⟩
 ·let ⟨a,b,ps,d,e,f⟩:=R.tabs q hq;exact⟨a,b,ps,hk _ _ (ht q hq) d,e,f⟩
section
variable {A:cS} {E:VS} {s:bb} {w:jC}
def PK {P:Nat->bb->bb->Prop} (hR:∀n gE r eG,R n gE r eG->r= .ok (.ret .none)/\P n gE eG) (hh:A.handled=ac) (hl:s.heap.NoLimit) (Sr:A.depth<recursionLimit)
  (hg:s.heap.IsGen a g) (JZ:s.gens[g]? =aa gs) (hgo:gs.Goes (MM w) A.in1 R Y n (.send .none) (s.setGen g .running))
  (hY:∀v eG S8,S8.bare=true->Y (n- 1) (s.setGen g .running) v eG (λr' D0=>match n with
    |0=>False
    |m+1=>S8.Goes (MM w) A.in1 R Y m r' D0)->Q (aa v) (eG.setGen g S8))
  (hP:∀eG,P n (s.setGen g .running) eG->∀h',(∀b o,eG.heap.get? b=aa o->h'.get? b=aa o)->Q ac {eG.setGen g .finished with heap:=h'}):
  wpAny (MM w) A (pyNext (.ref a)) Q E s:=by
 unfold pyNext;refine am (wpAny_attempt (uZ (name:=ah "__next__") hg.typeIs slot_gen_next (uY slot_gen_next hg.typeIs entry_gen_next ?_ (args_gen_next _))));show wpAny _ A.in1 (vy (.ref a) (.send .none)) _ _ s;unfold vy;refine am (dH (wpAny_genNumber hg (am (wpAny_genState JZ ?_))));induction gs with
 |running=>exact hgo.elim
 |finished=>exact hgo.elim
 |_=>
  refine am (wpAny_roomToWake hl Sr ?_);show wpAny _ A.in1 (.resume g (.send .none) [] _) _ _ s;refine wpAny_resumeQ JZ hgo (λx eG hx=> ?_) (λv eG S8 hb hv=>aR ⟨v,rfl,aR (hY v eG S8 hb hv)⟩);let ⟨P',e,hp,hpp⟩:=(λx eG hx=>⟨True,(hR _ _ _ _ hx).1,trivial,λ_=>(hR _ _ _ _ hx).2⟩:∀(x:Result) (eG:bb),R n (s.setGen g .running) x eG->∃P',x= .ok (.ret .none)/\P'/\(P'->P n (s.setGen g .running) eG)) x eG hx;subst e;show wpAny _ A.in1 (newExc (.type "StopIteration") [] >>= _) _ _ _;simp only[newExc,newTuple];refine am (am (iH (am (m:=firstArgMember _ _) (i5 (a:=qg) (by first|rfl|(simp only[firstArgMember];rfl)) (iH ?_ (by size_fits)))) (by size_fits)));simp only[raiseNew];refine am (am (wpAny_handled ?_));first|rw[show A.in1.handled=ac from hh]|rw[hh]
  refine wpAny_throw (am (wpAny_isInstance (T:= "StopIteration") (b:=true) ⟨_,aV _ rfl,rfl⟩ isSubtype_stop (aR ?_)));exact hP eG (hpp hp) _ λb o hb=>aJ _ (aJ _ hb)
end
noncomputable def lR (p:Nat×Str):PV:= .tup [.int p.1,.str p.2]
abbrev rE:eh:=ni
def PL:∃(a0 a1 a2 b0 b1 b2 c0 c1 c2 c3 c4 c5 c6 d0 d1 d2 d3 d4 d5 d6 d7 d8 d9 d10 d11 e0 e1 e2 e3 e4 e5 e6 e7 e8 e9 Zz ZA f0 f1 f2 f3 f4 f5 f6:Pos) (n0 n1 mm n2 n3 n4 n5 n6 m2 m3 m4:Nat),rE.body=[.Assign [.Name oB a0] (.Constant (.int 0) n0 a1) a2,.Assign [.Name oE b0] (.Constant (.bool false) n1 b1) b2,
   .For (.Tuple [.Name oB c0,.Name A4 c1] mm c2) (.Call (.Name wO c3) [.Name wN c4] [] c5) [.If (.Name oE d0) [.Expr (.Yield (aa (.Tuple [.Name oB d1,.BinOp (.Constant (.str zX) n2 d2) .Add (.Name A4 d3) d4] m2 d5)) d6) d7,.Assign [.Name oE d8] (.Constant (.bool false) n3 d9) d10]
     [.If (.Compare (.Name A4 e0) [.Eq] [.Constant (.str zX) n4 e1] e2) [.Assign [.Name oE e3] (.Constant (.bool true) n5 e4) e5] [.Expr (.Yield (aa (.Tuple [.Name oB e6,.Name A4 e7] m3 e8)) e9) Zz] ZA] d11] [] c6,
   .If (.Name oE f0) [.Expr (.Yield (aa (.Tuple [.Name oB f1,.Constant (.str zX) n6 f2] m4 f3)) f4) f5] [] f6]:=
 ⟨_,_,_,_,_,_,_,_,_,_,_,_,_,_,_,_,_,_,_,_,_,_,_,_,_,_,_,_,_,_,_,_,_,_,_,_,_,_,_,_,_,_,_,_,_,_,_,_,_,_,_,_,_,_,_,rfl⟩
def vh (c:aM) (a:Addr) (g:Nat):Prop:=∃o nm qn,c.F a=aa o/\o.cls= .type "generator" /\o.data= .fields #[.int g 0,nm,qn]/\o.slots= #[]
def vh.WP (x:vh c a g) (R:Rel S c O h):h.IsGen a g:=xe32 (x) λo nm qn ho r=>⟨o,nm,qn,R.frozen _ _ ho,r⟩
inductive GJ (w:jC) (A:cS) (x:Str) (t:CU) (L a:Addr) (g:Nat) (env:lY):List PV->aM->bb->Prop
 |fresh {c:aM} {s:bb} {oL:Obj} {m:Str->Option Value}:c.pin L=aa oL->(∀h:iS,h.get? L=aa oL->h.Ns L m)->m wN=aa (.str x t)->vh c a g->L<a->s.gens[g]? =aa (.fresh (.func rE.body env))->
   GJ w A x t L a g env ((iX 0 false x.cps.toList).map lR) c s
 |run {c:aM} {s:bb} {E T:Addr} {hr:iS} {gs:VF} {l pre:List (Nat×Str)}:(∀b,b=L\/b=E\/b=T->∃o,hr.get? b=aa o/\c.pin b=aa o)->vh c a g->a<T->a<E->s.gens[g]? =aa gs->gs.bare=true->pre++l=iX 0 false x.cps.toList->
   (∀D0,zY L E T hr D0.heap->gs.Goes (MM w) A.in1 (RG L E T) (YG x t L E T) ↑l (.send .none) D0)->GJ w A x t L a g env (l.map lR) c s
def vh.mono (x:vh c a g) (hF:∀b o,c.F b=aa o->c'.F b=aa o):vh c' a g:=xe32 (x) λo nm qn ho r=>⟨o,nm,qn,hF _ _ ho,r⟩
def GF (R:Rel S c O s.heap) (hA:jF k A) (agF:v7<=g)
  (zH:∀b,b=L\/b=E\/b=T->(∃o,c.pin b=aa o)\/s.heap.objs.size<=b) (haT:a<T) (haE:a<E) (hgo:vh c a g) (JZ:s.gens[g]? =aa gs) (jM:pre++l=iX 0 false x.cps.toList)
  (agG:gs.Goes (MM S.w) A.in1 (RG L E T) (YG x t L E T) ↑l (.send .none) (s.setGen g .running)) (Er:VS) (Q:Option Value->bb->Prop)
  (h0:l=[]->∀c' s',aM.pM (λb=>b=L\/a<b) ↑O c c'->Rel S c' O s'.heap->lE v7 s s'->Q ac s')
  (h1:∀p r,l=p::r->∀c' v s',aM.pM (λb=>b=L\/a<b) ↑O c c'->Rel S c' O s'.heap->lE v7 s s'->GJ S.w A x t L a g env (r.map lR) c' s'->dk S.w c'.F v (lR p)->Q (aa v) s'):
  wpAny (MM S.w) A (pyNext (.ref a)) Q Er s:=by
 have dec:DecidablePred λb:Addr=>b=L\/b=E\/b=T:=λb=>inferInstance;have wh:∀(h':iS),aM.pM (λb=>b=L\/a<b) ↑O c {c with pin:=λb=>if b=L\/b=E\/b=T then h'.get? b else c.pin b}:=λh'=>⟨λ_ _ e=>e,λ_ _=>rfl,λb hb=>if_neg λh=>hb (by
  rcases h with rfl|rfl|rfl
  ·exact .inl rfl
  ·exact .inr haE
  ·exact .inr haT)⟩
 have kX:g<s.gens.size:=by
  rcases bS g s.gens.size with h|h
  ·exact h
  ·rw[my h]at JZ;nomatch JZ
 have Xe:∀(eG:bb) (y:VF),eG.gens=(s.setGen g .running).gens->eG.os=s.os->y.bare=true->∀h' tk,lE v7 s {(eG.setGen g y)with heap:=h',toks:=tk}:=by
  intro eG y Ak hos hy h' tk;refine⟨hos,λi z hi hz=> ?_,λhb z hz=> ?_⟩
  ·show(eG.gens.setIfInBounds g y)[i]? =aa z;rw[Ak];have:i≠g:=by exact abE hi agF
   simp[VD,Ne.symm this,hz]
  ·have hz':z∈eG.gens.setIfInBounds g y:=hz;rw[Ak]at hz';let ⟨i,hi,e⟩:=Array.mem_iff_getElem.mp hz';have e':((s.gens.setIfInBounds g .running).setIfInBounds g y)[i]? =aa z:=by rw[iU];exact⟨hi,e⟩
   by_cases hig:g=i
   ·subst hig;simp[kX]at e';subst e';exact hy
   ·simp[hig]at e';exact hb z (Iz e')
 refine PK (P:=λn gE eG=>n=0/\nZ L E T gE eG) (λn gE r eG h=>⟨h.1,h.2⟩) hA.hn R.lim hA.room (hgo.WP R) JZ agG (λv eG S8 hb hy=> ?_) (λeG hp h' hk=> ?_)
 ·let ⟨p,y,t1,t2,tp,l',H7,rfl,htp,uM,hK,H9,hn,hnL,hnE,hnT,hal,Sm⟩:=hy;cases l with
  |nil=>have h1:=congrArg eX jM;have h2:=congrArg eX H9;simp only[aj,az,lW]at h1 h2 hn Sm;exact(Sm eG λ_ _ _ e=>e).elim
  |cons p0 l=>
   let ⟨e1,e2⟩:=List.append_inj (jM.trans H9.symm) (by
    have h1:=congrArg eX jM;have h2:=congrArg eX H9;simp only[aj,az]at h1 h2;exact abF h1 h2 (by simpa using hn))
   injection e2 with e3 e4;subst e1 e3 e4;have R1:Rel S _ O eG.heap:=Rel.step (h':=eG.heap) R (λb=>b=L\/b=E\/b=T) zH λb o hb e=>hK.h b o (λh=>hb (.inl h)) (λh=>hb (.inr (.inl h))) (λh=>hb (.inr (.inr h))) e;have D1:s.heap.get? tp=ac:=uM;have Ss:qC {c with pin:=λb=>if b=L\/b=E\/b=T then eG.heap.get? b else c.pin b} ↑O tp:=by
    refine⟨?_,λi hi e=> ?_,?_,λq hq e=> ?_⟩
    ·show c.F tp=ac;cases e:c.F tp with
     |none=>rfl
     |some o=>rw[R.frozen _ _ e]at D1;nomatch D1
    ·let ⟨o,ho,_⟩:=R.own i O[i] (aq hi);rw[show c.Z i=tp from e,D1]at ho;nomatch ho
    ·show(if tp=L\/tp=E\/tp=T then eG.heap.get? tp else c.pin tp)=ac;rw[if_neg (by rintro(h|h|h);exact hnL h;exact hnE h;exact hnT h)];cases e:c.pin tp with
     |none=>rfl
     |some o=>rw[(R.pins _ _ e).1]at D1;nomatch D1
    ·let ⟨_,_,ps,d,_⟩:=R.tabs q hq;rw[e,D1]at d;nomatch d
   refine h1 (p,y) l rfl (aM.put {c with pin:=λb=>if b=L\/b=E\/b=T then eG.heap.get? b else c.pin b} tp {cls:= .type "tuple",data:= .seq #[.int p t1,.str y t2]}) (.ref tp) (eG.setGen g S8) ⟨λb o e=> ?_,λ_ _=>rfl,(wh eG.heap).pin⟩ (R1.freeze Ss htp) (Xe eG S8 hK.gens hK.os hb _ _) ?_ ?_
   ·exact(aM.dC (n:=0) Ss.F).F b o e
   ·refine .run (E:=E) (T:=T) (hr:=eG.heap) (pre:=pre++[(p,y)]) (λb uU=> ?_) (hgo.mono (aM.dC (n:=0) Ss.F).F) haT haE ?_ hb (by rw[bF];exact jM) λD0 ho=>Sm D0 ho
    ·let ⟨o,ho⟩:=hal b uU;exact⟨o,ho,(if_pos uU).trans ho⟩
    ·show(eG.gens.setIfInBounds g S8)[g]? =aa S8;rw[hK.gens];simp[VD,kX]
   ·refine .tup (if_pos rfl) rfl λi v d hv hd=> ?_
    match i with
    |0=>obtain rfl:=ag hv;obtain rfl:=ag hd;exact .int ..
    |1=>obtain rfl:=ag hv;obtain rfl:=ag hd;exact .str ..
    |i+2=>simp at hd
 ·let ⟨hn,hK⟩:=hp;exact h0 (sD.mp hn) _ _ (wh h') (Rel.step (h':=h') R (λb=>b=L\/b=E\/b=T) zH λb o hb e=>hk b o (hK.h b o (λh=>hb (.inl h)) (λh=>hb (.inr (.inl h))) (λh=>hb (.inr (.inr h))) e)) (Xe eG .finished hK.gens hK.os rfl _ _)
def dZ.T9 (h:dZ s s'):s.gens.size<=s'.gens.size:=by
 rcases bS s'.gens.size s.gens.size with kX|Ak
 ·have:=h.gens s'.gens.size s.gens[s'.gens.size] (qO kX);rw[my (ab _)]at this;cases this
 ·exact Ak
def sr.esc {A:cS} {x:Str} {t:CU} {L a:Addr} {g v7 oR:Nat} {env:lY} {ok:List AO->Prop} (hE:GE env L) (hke:env.kindOf wO=aa .globalImplicit) (hgl:env.globals=mainGlobals) (Sj:env.builtins=builtinsNs) (hx:x.cps.all (· <128)=true) (hg:v7<=g):
  sr S k A (λb=>b=L\/a<b) v7 oR ok (.ref a) (GJ S.w A x t L a g env) where
 keep:=λ{m rest c c' O bv s s'} hJ _ wh hK R R'=>by
  induction hJ with
  |fresh h1 h2 h3 h4 h5 h6=>exact .fresh (by exact wh.pin▸h1) h2 h3 (h4.mono wh.F) h5 (hK.gens _ _ h6)
  |run h1 h2 h3 h4 h5 h6 h7 h8=>exact .run (λb hb=>xe12 (h1 b hb) λo p q=>⟨o,p,by rw[wh.pin];exact q⟩) (h2.mono wh.F) h3 h4 (hK.gens _ _ h5) h6 h7 h8
 next:=λ{O rest c s} hJ R hn nc hA E Q h0 h1=>by
  have done:∀(l:List (Nat×Str)),(l.map lR=[]->∀c' s',aM.pM (λb=>b=L\/a<b) ↑O c c'->Rel S c' O s'.heap->lE v7 s s'->Q ac s')->l=[]->∀c' s',aM.pM (λb=>b=L\/a<b) ↑O c c'->Rel S c' O s'.heap->lE v7 s s'->Q ac s':=λl h hl=>h (by rw[hl];rfl);cases hJ with
  | @fresh _ _ oL m e1 e2 e3 e4 e5 e6=>
   left;let ⟨p1,p2,p3,p4⟩:=R.pins _ _ e1;have haS:a<s.heap.objs.size:=xe32 (e4) λo _ _ ho _=>bW (R.frozen _ _ ho);let ⟨b0,b1,b2,b3,b4,b5,b6,b7,b8,b9,b10,b11,b12,b13,b14,b15,b16,b17,b18,b19,b20,b21,b22,b23,b24,b25,b26,b27,b28,b29,b30,b31,b32,b33,b34,b35,b36,b37,b38,b39,b40,b41,b42,b43,m0,m1,m2,m3,m4,m5,m6,m7,m8,m9,m10,ZC⟩:=PL;let ⟨mg,FX,hg1⟩:=S.glob;let ⟨mb,hmb,Ou⟩:=S.blt;right;have neF:∀b,(∃f,S.h₀.Ns b f)->(∀q∈cm,b≠q.2)->b≠L:=by rintro b ⟨f,o,_,_,ho,_⟩ hb rfl;have:=R.base _ _ ho hb;rw[p2]at this;nomatch this
   refine GF (E:=s.heap.objs.size+1) (T:=s.heap.objs.size) (l:=iX 0 false x.cps.toList) (pre:=[]) R hA hg (λb hb=> ?_) haS (eI haS) e4 e6 rfl ⟨rfl,?_⟩ E Q (done _ h0) λp r e=>h1 _ _ (by rw[e];rfl)
   ·rcases hb with rfl|rfl|rfl
    ·exact .inl ⟨_,e1⟩
    ·exact .inr (mv _)
    ·exact .inr (ab _)
   ·refine GD (s:=s.setGen g .running) (A:=A.in1) hA.hn hE hke hgl Sj hx (e2 _ p1) e3 ⟨mg,R.vf FX ∅,hg1 (wO,ac) ?_⟩ ⟨mb,R.vf hmb ∅,Ou (wO,aa (.type "enumerate")) ?_⟩ (neF _ ⟨_,FX⟩ ∅) (neF _ ⟨_,hmb⟩ ∅) ZC
    ·unfold cf;walk_at "a"
    ·unfold kM;walk_at "a"
  | @run _ _ E' T hr gs l pre e1 e2 e3 e4 e5 e6 e7 e8=>refine GF (E:=E') (T:=T) (l:=l) (pre:=pre) R hA hg (λb hb=>xe12 (e1 b hb) λo _ q=> .inl ⟨o,q⟩) e3 e4 e2 e5 e7 (e8 _ λb hb o ho=> ?_) E Q (done _ h0) λp r e=>h1 _ _ (by rw[e];rfl);let ⟨o',p,q⟩:=e1 b hb;rw[p]at ho;obtain rfl:=ag ho;exact(R.pins _ _ q).1
 self:=λ{O rest c s} hJ R hA E Q h=>by
  have:vh c a g:=by cases hJ<;>assumption
  exact wpAny_pyIter_gen (this.WP R) h
 Vg:=λ{O rest c s} hJ R cD v E Q h=>by
  have:vh c a g:=by cases hJ<;>assumption
  left;let ⟨o,_,_,ho,hc,_⟩:=this;right;exact rL (R.frozen _ _ ho) hc rfl cD v h
def IX:rE∈fV:=by unfold fV;walk_at "a"
def lb.esc (hf:nJ S k O ae (.Name f np) (.con (.ref rE.addr))) (h:nJ S k O ae e (.str x)) (hs:notStar e=true) (hx:x.cps.all (· <128)=true) (nc:ok O):
  lb S k O ae (.Call (.Name f np) [e] [] pos) ok ((iX 0 false x.cps.toList).map lR):=by
 intro A c s env hA hE R E Q hQ;refine cn (hf.run A c s env hA hE R _ _ λc1 v1 s1 l1 R1 K1 a1=> ?_);have e':=a1.dn;subst e';left;let ⟨o,pm,ho,_,hd,_⟩:=R1.fn IX;right;refine fJ (o:=o) (fd:=rE.fd pm) ?_;refine eg (.cons h .nil hs) _ pos A c1 s1 env hA (hE.mono l1 (ab _)) R1 _ _ λc2 vs s2 l2 R2 K2 a2=> ?_;have ho2:s2.heap.get? rE.addr=aa o:=by left;let ⟨Fw,_,h0,_,_,_⟩:=S.fns rE IX;have ho1:s1.heap.get? rE.addr=aa o:=ho;right;rw[(R1.old h0 ∅)]at ho1;obtain rfl:=ag ho1;exact(R2.old h0 ∅)
 refine⟨⟨ho2,hd⟩,?_⟩;have h9:=a2.i1;clear a2;let ⟨_,_,rfl,a2,b2⟩:=h9;left;obtain rfl:=b2.i0;have DX:=a2.gh;let ⟨t,rfl⟩:=DX.mG;let ⟨o',pm',sd,_,Aj,CQ⟩:=R2.fn IX;right;rw[ho2]at sd;obtain rfl:=ag sd;refine v8 (codeAny_call_generator hA.room ho2 hd rfl rfl rfl CQ ?_);refine i5 (a:=[(wN,.str x t)]) rfl ?_;refine yA (scope:=rE.scope) (by decide+kernel) (by intro y hy;rw[aC]at hy;subst hy;show rE.scope.names.lookup wN=_;kernel_rfl) (λh' tZ NY=> ?_) rfl;have NZ:gH s2.heap.objs.size (s2.heap.push {cls:= .type "frame",data:= .dict #[]}) h':=NY;have hsz:h'.objs.size=s2.heap.objs.size+1:=by rw[NZ.1,eU]
 have hk:∀b o,s2.heap.get? b=aa o->h'.get? b=aa o:=λb o e=>NZ.extBut b o (cU (bW e)) (aJ _ e);refine⟨(sO R2.lim hk),?_⟩;generalize hL:s2.heap.objs.size=L at*;left;let ⟨oL,es,ep,hoL,ajV⟩:=tZ;right;generalize hO:({cls:= .type "generator",data:= .fields #[.int s2.gens.size 0,.str (rE.fd pm).name (s2.toks+1),.str (rE.fd pm).qualname (s2.toks+1+1)]}:Obj)=oa;have hFL:qC (c2.put h'.objs.size oa) ↑O L:=by have hf:=R2.free (a:=L) (by simp_all);refine⟨?_,hf.Z,hf.pin,hf.tab⟩;show(if L=h'.objs.size then aa oa else c2.F L)=ac;rw[if_neg (by simp_all)];exact hf.F
 have uL:=l1.trans l2 (ab _);have hE':GE {scope:=rE.scope,locals:=L,globals:=3,cells:=[],qual:=(rE.fd pm).qualname++ ".<locals>.",func:=aa rE.addr,code:= .ref rE.code,frame:=aa L,builtins:=0} L:=
  ⟨rfl,by show rE.scope.names.lookup oB=_;exact so,by show rE.scope.names.lookup oE=_;exact so,by show rE.scope.names.lookup A4=_;exact so,by show rE.scope.names.lookup wN=_;kernel_rfl,rfl,rfl⟩
 show wpAny (MM S.w) A (pyIter (.ref h'.objs.size)) Q E _;refine wpAny_pyIter_gen (g:=s2.gens.size) ⟨oa,_,_,aV _ (by rw[<- hO];rfl),by rw[<- hO],by rw[<- hO],by rw[<- hO]⟩ ?_;refine hQ ((c2.put h'.objs.size oa).pinned [(L,oL)]) _ (.ref h'.objs.size) (λb=>b=L\/h'.objs.size<b) _ ⟨λb y e=>(aM.dC (n:=0) (R2.oy (by simp_all))).F b y (uL.F b y e),uL.Z,λb hb=> ?_⟩ (λb hb=> ?_) ((R2.put (λb o e=>aJ _ (hk b o e)) (by simp_all) (hO▸(aV _ rfl)):Rel S (c2.put h'.objs.size oa) O (h'.push oa)).pinned (ps:=[(L,oL)]) (λp hp=>by rw[aC]at hp;subst hp;exact hFL) λp hp=>by rw[aC]at hp;subst hp;exact aJ _ hoL) ?_ (sr.esc (t:=t) (L:=L) (a:=h'.objs.size) (g:=s2.gens.size) hE' ?_ rfl rfl hx (K1.trans K2).T9) nc (.fresh (oL:=oL) (m:=λy=>[(wN,Value.str x t)].reverse.lookup y) (aM.lF ..) (λhh e=>⟨oL,es,ep,e,ajV⟩) ?_ ⟨oa,_,_,if_pos rfl,by rw[<- hO],by rw[<- hO],by rw[<- hO]⟩ (by rw[hsz];exact ez _) ?_)
 ·show(gP b [(L,oL)]).or (c2.pin b)=c.pin b;rw[di,beq_false_of_ne (λe=>hb (.inl e))];exact congrFun uL.pin b
 ·rw[<- uL.pin];cases ep:c2.pin b with
  |none=>rfl
  |some o=>
   have:=(λb o e=>hL▸bW (R2.pins b o e).1:∀(b:Addr) (o:Obj),c2.pin b=aa o->b<L) b o ep;rcases hb with rfl|hb
   ·exact absurd this (lU _)
   ·rw[hsz]at hb;exact absurd (iM this (ez _)) (zL hb)
 ·refine(K1.trans K2).trans ⟨rfl,λi z e=> ?_,λhb=>Oz hb rfl⟩;show(s2.gens.push _)[i]? =aa z;have hi:i<s2.gens.size:=by
   rcases bS i s2.gens.size with h|h
   ·exact h
   ·rw[my h]at e;nomatch e
  rw[Im hi];rw[qO hi]at e;exact e
 ·show rE.scope.names.lookup wO=_;decide+kernel
 ·simp
 ·exact FV ..
def wkI (s : String) : Lean.Ident := Lean.mkIdent s.toName
def wk (w : Lean.TSyntax `tactic) (s : String) (x : Array (Lean.TSyntax `tactic) := #[]) : Lean.MacroM (Lean.TSyntax `tactic) := do
  let p := s.splitOn "; "
  let b ← p.tail.toArray.mapM fun e => do
    let q := e.splitOn " "
    let as ← q.tail.toArray.mapM fun a => if a == "1" then `((.inl ⟨_, rfl⟩)) else if a == "2" then `((.inr ⟨_, rfl⟩)) else pure ⟨wkI a⟩
    `(tactic| (apply $(wkI (p.head! ++ "." ++ q.head!)) $as* <;> $w))
  let b := b ++ x
  `(tactic| ((with_reducible refine (?_ : $(wkI p.head!) ..)); first $[| $b:tactic]*))
local macro_rules | `(tactic| walk_at "sd") => do
  let w ← `(tactic| walk_at "sd")
  let mut a := #[← wk w "cJ; int; fF; str; none; bool; loc; bin; nq; item; tup; lst; Gw; slice; cmp; afp; neg; and; Pu; ahw; Z4; call fA.sum 1; call fA.len 1; call fA.max 1; call fA.min 1; call fA.round 1; call fA.int 2; call fA.list 2; td fA.upper F.plainAttrs_str F.slot_str_upper F.type_str_upper; td fA.lower F.plainAttrs_str F.slot_str_lower F.type_str_lower; td fA.join F.plainAttrs_str F.slot_str_join F.type_str_join; td fA.index F.plainAttrs_str F.slot_str_index F.type_str_index" #[← `(tactic| (refine cJ.Pq 612 ?_ (KI 7 so) <;> $w)), ← `(tactic| (refine cJ.Pq 616 ?_ (KI 8 so) <;> $w)), ← `(tactic| (refine cJ.Pq 620 ?_ (KI 9 so) <;> $w))]]
  for s in ["pS; nil; cons", "j3; nil; cons", "XX; none; some", "MF; nil; cons", "Gz; nil; cons", "Dj; nil; cons", "Em; alg; andNil; ai0; ahu", "kg; nil; loc; nq", "Cj; loc; nq; tup", "ms; yV; PB; if; return; T3; ai4; am0; Gx; ai8; aug; put; swap; S2 AZ.append F.slot_list_append F.type_list_append; S2 AZ.pop F.slot_list_pop F.type_list_pop", "AH; cmp; boolOp; not; val; chain", "yT; val; range", "Et; list; dict", "MI; pure; newList; newDict", "Mw; cons; one", "Gs; store"] do a := a.push (← wk w s)
  a := a.push (← `(tactic| (apply yT.C <;> $w)))
  a := a ++ #[← `(tactic| (refine Dg.more rfl rfl rfl ?_ ?_ ?_ ?_ <;> $w)), ← `(tactic| (refine Dg.last rfl rfl rfl ?_ ?_ ?_ <;> $w)), ← `(tactic| exact Cu so)]
  for i in [0:25] do a := a.push (← `(tactic| exact KI $(Lean.quote i) so))
  `(tactic| first $[| $a:tactic]* | exact fun _ _ => rfl | exact fun _ => rfl | exact Nat.le_refl _ | exact Nat.succ_pos _ | exact Nat.le_add_left _ _ | exact Nat.le_of_ble_eq_true tt | exact tt | exact so | exact pp | exact La | exact aeq | decide | kernel_rfl)
def wQ:SF:=(aB (bZ (ba .Add (ba .Add (ba .Mult (jb (.fF 4599075939470750515)) (ak 0)) (ba .Mult (jb (.fF 4603489467105573601)) (ak 1))) (ba .Mult (jb (.fF 4592590756007337001)) (ak 2))) (bf 3)) (aB (bZ (ba .Sub (ba .Mult (jb (.fF 4604840546993784750)) (ba .Sub (ak 0) (ak 3))) (ba .Mult (jb (.fF 4598535507515466056)) (ba .Sub (ak 2) (ak 3)))) (bf 4)) (aB (bZ (ba .Add (ba .Mult (jb (.fF 4602318531202457272)) (ba .Sub (ak 0) (ak 3))) (ba .Mult (jb (.fF 4601057523306793533)) (ba .Sub (ak 2) (ak 3)))) (bf 5)) (aB (i7 (jd (au (ak 3) (au (ak 4) (au (ak 5) aZ))))) br))))
def wR:List PV->Option PV:=mL ["r", "g", "b"] ["y", "i", "q"] wQ
def EE:j3 S 0 (nK oh ["r", "g", "b"] ["y", "i", "q"]) oh.body wQ:=by walk_at "sd"
def Ua:hV S 1 oh wR:=hV.plain (.of 4 rfl rfl tt) EE (λpm=>WN λ_ _ _=>rfl) tt
def wU:SF:=(aB (bZ (ba .Add (ba .Add (ak 0) (ba .Mult (jb (.fF 4606703976345377586)) (ak 1))) (ba .Mult (jb (.fF 4603791717925830846)) (ak 2))) (bf 3)) (aB (bZ (ba .Sub (ba .Sub (ak 0) (ba .Mult (jb (.fF 4598621754083818298)) (ak 1))) (ba .Mult (jb (.fF 4603901015759978483)) (ak 2))) (bf 4)) (aB (bZ (ba .Add (ba .Sub (ak 0) (ba .Mult (jb (.fF 4607671262177584182)) (ak 1))) (ba .Mult (jb (.fF 4610375502138591871)) (ak 2))) (bf 5)) (aB (jA (bY .Lt (ak 3) (jb (.fF 0))) (aB (bZ (jb (.fF 0)) (bf 3)) br) br) (aB (jA (bY .Lt (ak 4) (jb (.fF 0))) (aB (bZ (jb (.fF 0)) (bf 4)) br) br) (aB (jA (bY .Lt (ak 5) (jb (.fF 0))) (aB (bZ (jb (.fF 0)) (bf 5)) br) br) (aB (jA (bY .Gt (ak 3) (jb (.fF 4607182418800017408))) (aB (bZ (jb (.fF 4607182418800017408)) (bf 3)) br) br) (aB (jA (bY .Gt (ak 4) (jb (.fF 4607182418800017408))) (aB (bZ (jb (.fF 4607182418800017408)) (bf 4)) br) br) (aB (jA (bY .Gt (ak 5) (jb (.fF 4607182418800017408))) (aB (bZ (jb (.fF 4607182418800017408)) (bf 5)) br) br) (aB (i7 (jd (au (ak 3) (au (ak 4) (au (ak 5) aZ))))) br))))))))))
def rP:List PV->Option PV:=mL ["y", "i", "q"] ["r", "g", "b"] wU
def EG:j3 S 0 (nK oj ["y", "i", "q"] ["r", "g", "b"]) oj.body wU:=by walk_at "sd"
def Ub:hV S 1 oj rP:=hV.plain (.of 5 rfl rfl tt) EG (λpm=>WN λ_ _ _=>rfl) tt
def wV:SF:=(aB (bZ (dJ Ep (au (ak 0) (au (ak 1) (au (ak 2) aZ)))) (bf 3)) (aB (bZ (dJ MB (au (ak 0) (au (ak 1) (au (ak 2) aZ)))) (bf 4)) (aB (bZ (ba .Add (ak 3) (ak 4)) (bf 5)) (aB (bZ (ba .Sub (ak 3) (ak 4)) (bf 6)) (aB (bZ (ba .Div (ak 5) (jb (.fF 4611686018427387904))) (bf 7)) (aB (jA (bY .Eq (ak 4) (ak 3)) (aB (i7 (jd (au (jb (.fF 0)) (au (ak 7) (au (jb (.fF 0)) aZ))))) br) br) (aB (jA (bY .LtE (ak 7) (jb (.fF 4602678819172646912))) (aB (bZ (ba .Div (ak 6) (ak 5)) (bf 8)) br) (aB (bZ (ba .Div (ak 6) (ba .Sub (ba .Sub (jb (.fF 4611686018427387904)) (ak 3)) (ak 4))) (bf 8)) br)) (aB (bZ (ba .Div (ba .Sub (ak 3) (ak 0)) (ak 6)) (bf 9)) (aB (bZ (ba .Div (ba .Sub (ak 3) (ak 1)) (ak 6)) (bf 10)) (aB (bZ (ba .Div (ba .Sub (ak 3) (ak 2)) (ak 6)) (bf 11)) (aB (jA (bY .Eq (ak 0) (ak 3)) (aB (bZ (ba .Sub (ak 11) (ak 10)) (bf 12)) br) (aB (jA (bY .Eq (ak 1) (ak 3)) (aB (bZ (ba .Sub (ba .Add (jb (.fF 4611686018427387904)) (ak 9)) (ak 11)) (bf 12)) br) (aB (bZ (ba .Sub (ba .Add (jb (.fF 4616189618054758400)) (ak 10)) (ak 9)) (bf 12)) br)) br)) (aB (bZ (ba .Mod (ba .Div (ak 12) (jb (.fF 4618441417868443648))) (jb (.fF 4607182418800017408))) (bf 12)) (aB (i7 (jd (au (ak 12) (au (ak 7) (au (ak 8) aZ))))) br)))))))))))))
def i8:List PV->Option PV:=mL ["r", "g", "b"] ["maxc", "minc", "sumc", "rangec", "l", "s", "rc", "gc", "bc", "h"] wV
def EH:j3 S 0 (nK om ["r", "g", "b"] ["maxc", "minc", "sumc", "rangec", "l", "s", "rc", "gc", "bc", "h"]) om.body wV:=by walk_at "sd"
def Uc:hV S 1 om i8:=hV.plain (.of 6 rfl rfl tt) EH (λpm=>WN λ_ _ _=>rfl) tt
def afr:SF:=(aB (bZ (ba .Mod (ak 2) (jb (.fF 4607182418800017408))) (bf 2)) (aB (jA (bY .Lt (ak 2) (jb (.fF 4595172819793696085))) (aB (i7 (ba .Add (ak 0) (ba .Mult (ba .Mult (ba .Sub (ak 1) (ak 0)) (ak 2)) (jb (.fF 4618441417868443648))))) br) br) (aB (jA (bY .Lt (ak 2) (jb (.fF 4602678819172646912))) (aB (i7 (ak 1)) br) br) (aB (jA (bY .Lt (ak 2) (jb (.fF 4604180019048437077))) (aB (i7 (ba .Add (ak 0) (ba .Mult (ba .Mult (ba .Sub (ak 1) (ak 0)) (ba .Sub (jb (.fF 4604180019048437077)) (ak 2))) (jb (.fF 4618441417868443648))))) br) br) (aB (i7 (ak 0)) br)))))
def Ud:List PV->Option PV:=mL ["m1", "m2", "hue"] [] afr
def ajb:j3 S 0 (nK r_v ["m1", "m2", "hue"] []) r_v.body afr:=by walk_at "sd"
def ajc:hV S 1 r_v Ud:=hV.plain (.of 8 rfl rfl tt) ajb (λpm=>WN λ_ _ _=>rfl) tt
local macro_rules | `(tactic| walk_at "sd") => `(tactic| ((with_reducible refine (?_ : cJ ..)); (refine cJ.Ew ajc ?_ ?_ ?_ ?_ ?_ <;> walk_at "sd")))
def wW:SF:=(aB (jA (bY .Eq (ak 2) (jb (.fF 0))) (aB (i7 (jd (au (ak 1) (au (ak 1) (au (ak 1) aZ))))) br) br) (aB (jA (bY .LtE (ak 1) (jb (.fF 4602678819172646912))) (aB (bZ (ba .Mult (ak 1) (ba .Add (jb (.fF 4607182418800017408)) (ak 2))) (bf 3)) br) (aB (bZ (ba .Sub (ba .Add (ak 1) (ak 2)) (ba .Mult (ak 1) (ak 2))) (bf 3)) br)) (aB (bZ (ba .Sub (ba .Mult (jb (.fF 4611686018427387904)) (ak 1)) (ak 3)) (bf 4)) (aB (i7 (jd (au (kb Ud (au (ak 4) (au (ak 3) (au (ba .Add (ak 0) (jb (.fF 4599676419421066581))) aZ)))) (au (kb Ud (au (ak 4) (au (ak 3) (au (ak 0) aZ)))) (au (kb Ud (au (ak 4) (au (ak 3) (au (ba .Sub (ak 0) (jb (.fF 4599676419421066581))) aZ)))) aZ))))) br))))
def wX:List PV->Option PV:=mL ["h", "l", "s"] ["m2", "m1"] wW
def EI:j3 S 1 (nK oo ["h", "l", "s"] ["m2", "m1"]) oo.body wW:=by walk_at "sd"
def Ue:hV S 2 oo wX:=hV.plain (.of 7 rfl rfl tt) EI (λpm=>WN λ_ _ _=>rfl) tt
def wY:SF:=(aB (bZ (dJ Ep (au (ak 0) (au (ak 1) (au (ak 2) aZ)))) (bf 3)) (aB (bZ (dJ MB (au (ak 0) (au (ak 1) (au (ak 2) aZ)))) (bf 4)) (aB (bZ (ba .Sub (ak 3) (ak 4)) (bf 5)) (aB (bZ (ak 3) (bf 6)) (aB (jA (bY .Eq (ak 4) (ak 3)) (aB (i7 (jd (au (jb (.fF 0)) (au (jb (.fF 0)) (au (ak 6) aZ))))) br) br) (aB (bZ (ba .Div (ak 5) (ak 3)) (bf 7)) (aB (bZ (ba .Div (ba .Sub (ak 3) (ak 0)) (ak 5)) (bf 8)) (aB (bZ (ba .Div (ba .Sub (ak 3) (ak 1)) (ak 5)) (bf 9)) (aB (bZ (ba .Div (ba .Sub (ak 3) (ak 2)) (ak 5)) (bf 10)) (aB (jA (bY .Eq (ak 0) (ak 3)) (aB (bZ (ba .Sub (ak 10) (ak 9)) (bf 11)) br) (aB (jA (bY .Eq (ak 1) (ak 3)) (aB (bZ (ba .Sub (ba .Add (jb (.fF 4611686018427387904)) (ak 8)) (ak 10)) (bf 11)) br) (aB (bZ (ba .Sub (ba .Add (jb (.fF 4616189618054758400)) (ak 9)) (ak 8)) (bf 11)) br)) br)) (aB (bZ (ba .Mod (ba .Div (ak 11) (jb (.fF 4618441417868443648))) (jb (.fF 4607182418800017408))) (bf 11)) (aB (i7 (jd (au (ak 11) (au (ak 7) (au (ak 6) aZ))))) br))))))))))))
def wZ:List PV->Option PV:=mL ["r", "g", "b"] ["maxc", "minc", "rangec", "v", "s", "rc", "gc", "bc", "h"] wY
def EJ:j3 S 0 (nK oq ["r", "g", "b"] ["maxc", "minc", "rangec", "v", "s", "rc", "gc", "bc", "h"]) oq.body wY:=by walk_at "sd"
def Ug:hV S 1 oq wZ:=hV.plain (.of 9 rfl rfl tt) EJ (λpm=>WN λ_ _ _=>rfl) tt
def w0:SF:=(aB (jA (bY .Eq (ak 1) (jb (.fF 0))) (aB (i7 (jd (au (ak 2) (au (ak 2) (au (ak 2) aZ))))) br) br) (aB (bZ (dJ afo (au (ba .Mult (ak 0) (jb (.fF 4618441417868443648))) aZ)) (bf 3)) (aB (bZ (ba .Sub (ba .Mult (ak 0) (jb (.fF 4618441417868443648))) (ak 3)) (bf 4)) (aB (bZ (ba .Mult (ak 2) (ba .Sub (jb (.fF 4607182418800017408)) (ak 1))) (bf 5)) (aB (bZ (ba .Mult (ak 2) (ba .Sub (jb (.fF 4607182418800017408)) (ba .Mult (ak 1) (ak 4)))) (bf 6)) (aB (bZ (ba .Mult (ak 2) (ba .Sub (jb (.fF 4607182418800017408)) (ba .Mult (ak 1) (ba .Sub (jb (.fF 4607182418800017408)) (ak 4))))) (bf 7)) (aB (bZ (ba .Mod (ak 3) ⇑6) (bf 3)) (aB (jA (bY .Eq (ak 3) ⇑0) (aB (i7 (jd (au (ak 2) (au (ak 7) (au (ak 5) aZ))))) br) br) (aB (jA (bY .Eq (ak 3) ⇑1) (aB (i7 (jd (au (ak 6) (au (ak 2) (au (ak 5) aZ))))) br) br) (aB (jA (bY .Eq (ak 3) ⇑2) (aB (i7 (jd (au (ak 5) (au (ak 2) (au (ak 7) aZ))))) br) br) (aB (jA (bY .Eq (ak 3) ⇑3) (aB (i7 (jd (au (ak 5) (au (ak 6) (au (ak 2) aZ))))) br) br) (aB (jA (bY .Eq (ak 3) ⇑4) (aB (i7 (jd (au (ak 7) (au (ak 5) (au (ak 2) aZ))))) br) br) (aB (jA (bY .Eq (ak 3) ⇑5) (aB (i7 (jd (au (ak 2) (au (ak 5) (au (ak 6) aZ))))) br) br) br)))))))))))))
def iw:List PV->Option PV:=mL ["h", "s", "v"] ["i", "f", "p", "q", "t"] w0
def EK:j3 S 0 (nK ou ["h", "s", "v"] ["i", "f", "p", "q", "t"]) ou.body w0:=by walk_at "sd"
def Uh:hV S 1 ou iw:=hV.plain (.of 10 rfl rfl tt) EK (λpm=>WN λ_ _ _=>rfl) tt
noncomputable def peek {α:Type} (F:Addr->Option Obj) (n:Nat):zK α->Option α:=
 Kn (λ_=>ac) (λ_ ih t=>if h:t.ctorIdx=0 then Sem.pure.elim t h aa else if h:t.ctorIdx=6 then Sem.load.elim t h λa _ k=>(F a).bind λo=>ih (k o) else ac) n
def Lh (hF:∀a o,F a=aa o->s.heap.get? a=aa o) {v:α} (hQ:Q v s):∀ {t:zK α},peek F n t=aa v->wpAny M A t Q E s:=by
 induction n with
 |zero=>intro t h;exact(yQ h).elim
 |succ n ih=>
  intro t h;induction t with
  |pure a=>obtain rfl:=ag h;exact aR hQ
  |load a p k=>let ⟨o,e,h'⟩:=aG.mp h;exact am (m:=loadPart a p) (f:=k) (wpAny_loadPart (hF _ _ e) (ih h'))
  |_=>exact(yQ h).elim
noncomputable def two (T K:Addr) (o p:Obj) (a:Addr):Option Obj:=if a=T then aa o else if a=K then aa p else ac
def X6 {h:iS} (h1:h.get? T=aa o) (h2:h.get? K=aa p) (a:Addr) (x:Obj) (e:two T K o p a=aa x):h.get? a=aa x:=by
 unfold two at e;by_cases q:a=T
 ·rw[if_pos q]at e;rw[q,h1,e]
 ·rw[if_neg q]at e;let ⟨r,rfl⟩:=dT e;rw[r,h2]
def su (S:cz) (k:Nat) (pF:List AO) (key:AV) (g:PV->Option Int):Prop:=∀O,(∀i,i< ↑pF->O[i]? =pF[i]?)->∀d i,g d=aa i->dy S k O key [.pv d] [] (.pv (.int i)) O
inductive qo:AV->Prop
 |mk {args:Arguments} {body:Expr} {scope:Scope} {cells:Sn}:qo (.tA args body scope cells)
def qo.fn (hc:qo d) (h:cT w c n v d):∃a o fd,v= .ref a/\c.F a=aa o/\o.cls= .type "function" /\o.data= .func fd:=by cases hc;obtain(⟨_,rfl,⟨h1,h2,h3⟩,_⟩):=h.XQ;exact⟨_,_,_,rfl,h1,h2,h3⟩
def Ev.pu (hfx:f= .Name x np) (hk:qo key) (hf:Ev S k O ae f key O) (ha:ck S k O ae args ds) (hc:dy S k O key ds [] d bv):Ev S k O ae (.Call f args [] pos) d bv:=by subst hfx;refine⟨hc.len,λA c s env hA hE R E Q hQ=> ?_⟩;refine cn (hf.run A c s env hA hE R _ _ λc1 v1 s1 l1 R1 K1 a1=> ?_);left;let ⟨a,o,fd,rfl,ho,_,hd⟩:=hk.fn a1;right;refine fJ (o:=o) (fd:=fd) ?_;refine eg ha _ pos A c1 s1 env hA (hE.mono l1 (ab _)) R1 _ _ λc2 vs s2 l2 R2 K2 a2=>⟨⟨R2.frozen _ _ (l2.F _ _ ho),hd⟩,?_⟩;exact hc.run A c2 s2 _ vs [] hA R2 (a1.mono l2 (ab _)) a2 rfl .nil E Q λc3 v3 s3 l3 R3 K3 a3=>hQ c3 v3 s3 ((l1.trans l2 (ab _)).trans l3 (ab _)) R3 ((K1.trans K2).trans K3) a3
def zz.qV (hk:qo d):zz O (compareOp .Is) d (.pv PV.none) (PV.bool false):=by intro S k A c s u v hA R ha hb E Q hQ;let ⟨a,o,fd,rfl,ho,_,hd⟩:=hk.fn ha;have e:=hb.dn;subst e;exact nS rfl (hQ c _ _ (.refl ..) R (.refl ..) (.pv (.con ..)))
def tm:pR cR.scope [sA,sX,oT,oU,gq,sU]:=pR.of tt
def GG:me cR.scope [afb]:=me.of tt
def MN {ns:List Int} {lo:Nat} (hl:IsL O d (ns.map PV.int)) (hn: ↑ns<2 ^ 30) (DW:lo<= ↑ns) (HS:∀h,hi=aa h->h<= ↑ns):
  ∃τ,cG S k (O++[.ns [(sA,aa d),(sX,~~~(.int x)),(oT,~~~(.int lo)),(oU,~~~(KS hi)),(gq,~~~PV.none),(sU,ac)]])
   (cR.env (↑O+0)) cR.body (.ret (.pv (.int (pb (λm=> !decide (x<ns.getD m 0)) ↑ns lo (hi.getD ↑ns) ac).1))) (O++τ):=by
 have h1:=tm;have h2:=GG;apply fX;apply cG.cons
 ·walk_at "f";exact cG.nil
 apply cG.cons (bA:=O++[.ns (Cw d (.pv (.int x)) lo (hi.getD ↑ns:Nat) (.pv PV.none) ac)])
 ·induction hi with
  |none=>
   dsimp only[KS];walk_at "g";apply cG.cons
   ·apply i6.assign
    ·apply Ev.wA
     ·walk_at "b"
     ·apply ck.cons
      ·walk_at "b"
      ·exact .nil
      ·rfl
     ·apply yR.len_list (l:=ns.map PV.int)
      ·cases hl with
       |val=>exact .val
       |fM h=>exact .fM (gp h)
      ·rw[aw];exact aaL hn
    ·apply jK.x7 h1
     ·rfl
     ·walk_at "a"
     ·walk_at "e"
     ·walk_at "c"
     ·walk_at "d"
    ·intro _ _;rfl
   ·rw[aw];exact cG.nil
  |some h=>dsimp only[KS];walk_at "f";exact cG.nil
 have cH:∀i,i< ↑ns->(ns.map PV.int)[i]? =aa (.int (ns.getD i 0)):=by intro i hi;simp[hi]
 apply cG.cons
 ·walk_at "g";apply cG.cons
  ·apply i6.KL;apply wB (p:=λm=> !decide (x<ns.getD m 0)) (N:= ↑ns) (n:= ↑ns)
   ·intro lo hi mid;walk_at "i"
   ·intro lo hi mid h3 h4;have hm:=cH ((lo+hi)/2) (IE h3 h4);apply cG.cons
    ·walk_at "l"
    cases hc:decide (x<ns.getD ((lo+hi)/2) 0)with
    |true=>
     rw[if_neg ∅];apply cG.cons
     ·walk_at "g";walk_at "h"
     ·exact cG.nil
    |false=>
     rw[if_pos tt];apply cG.cons
     ·walk_at "f";walk_at "h"
     ·exact cG.nil
   ·induction hi with
    |none=>simp
    |some h=>have:=HS h rfl;simp;exact Ml this
   ·induction hi with
    |none=>simp
    |some h=>have:=HS h rfl;simpa using this
  ·exact cG.nil
 walk_at "h"
def pz:∀i,i< ↑O->(O++[x])[i]? =O[i]? :=λi hi=>aW hi
def IY {ns:List Int} {lo:Nat} (hk:qo key) (hg:su S k O key g) (hl:IsL O d l) (tZ:∀(i:Nat) (y:PV),l[i]? =aa y->g y=aa (ns.getD i 0)) (cH: ↑ns= ↑l) (hn: ↑ns<2 ^ 30) (DW:lo<= ↑ns) (HS:∀h,hi=aa h->h<= ↑ns):
  ∃τ,cG S k (O++[.ns [(sA,aa d),(sX,~~~(.int x)),(oT,~~~(.int lo)),(oU,~~~(KS hi)),(gq,aa key),(sU,ac)]])
   (rB.env (↑O+0)) rB.body (.ret (.pv (.int (pb (λm=>decide (ns.getD m 0<x)) ↑ns lo (hi.getD ↑ns) ac).1))) (O++τ):=by
 have h1:=sW;have h2:=Gf;apply fX;apply cG.cons
 ·walk_at "f";exact cG.nil
 apply cG.cons (bA:=O++[.ns (Cw d (.pv (.int x)) lo (hi.getD ↑ns:Nat) key ac)])
 ·induction hi with
  |none=>
   dsimp only[KS];walk_at "g";apply cG.cons
   ·apply i6.assign
    ·apply Ev.wA
     ·walk_at "b"
     ·apply ck.cons
      ·walk_at "b"
      ·exact .nil
      ·rfl
     ·apply yR.len_list (l:=l)
      ·exact hl.AB
      ·exact VW hn cH
    ·apply jK.x7 h1
     ·rfl
     ·walk_at "a"
     ·walk_at "e"
     ·walk_at "c"
     ·walk_at "d"
    ·intro _ _;rfl
   ·exact cH▸cG.nil
  |some h=>dsimp only[KS];walk_at "f";exact cG.nil
 have hit:∀i,i< ↑ns->∃y,l[i]? =aa y/\g y=aa (ns.getD i 0):=by
  intro i hi;have HT:i< ↑l:=by exact IF hi cH
  exact⟨l[i],aq HT,tZ i _ (aq HT)⟩
 apply cG.cons
 ·apply i6.if (b:=false)
  ·apply nX.jr
   ·walk_at "b"
   ·walk_at "b"
   ·exact zz.qV hk
   ·rfl
  apply cG.cons
  ·apply i6.KL;apply wB (p:=λm=>decide (ns.getD m 0<x)) (N:= ↑ns) (n:= ↑ns)
   ·intro lo hi mid;walk_at "i"
   ·intro lo hi mid h3 h4;let ⟨y,hm,hgy⟩:=hit ((lo+hi)/2) (IE h3 h4);apply cG.cons
    ·walk_at "l"
    cases hc:decide (ns.getD ((lo+hi)/2) 0<x)with
    |true=>
     rw[if_pos rfl];apply cG.cons
     ·apply i6.if (b:=true)
      ·apply nX.to
       ·apply nX.compare
        ·apply Ev.pu rfl hk
         ·walk_at "b"
         ·apply ck.cons
          ·walk_at "b"
          ·exact .nil
          ·rfl
         ·exact hg _ pz y _ hgy
        ·walk_at "b"
        ·walk_at "m"
        ·rfl
       ·exact hc
      walk_at "h"
     ·exact cG.nil
    |false=>
     rw[if_neg bG];apply cG.cons
     ·apply i6.if (b:=false)
      ·apply nX.to
       ·apply nX.compare
        ·apply Ev.pu rfl hk
         ·walk_at "b"
         ·apply ck.cons
          ·walk_at "b"
          ·exact .nil
          ·rfl
         ·exact hg _ pz y _ hgy
        ·walk_at "b"
        ·walk_at "m"
        ·rfl
       ·exact hc
      walk_at "h"
     ·exact cG.nil
   ·induction hi with
    |none=>simp
    |some h=>have:=HS h rfl;simp;exact Ml this
   ·induction hi with
    |none=>simp
    |some h=>have:=HS h rfl;simpa using this
  ·exact cG.nil
 walk_at "h"
def IZ {ns:List Int} {lo:Nat} (hk:qo key) (hg:su S k O key g) (hl:IsL O d l) (tZ:∀(i:Nat) (y:PV),l[i]? =aa y->g y=aa (ns.getD i 0)) (cH: ↑ns= ↑l) (hn: ↑ns<2 ^ 30) (DW:lo<= ↑ns) (HS:∀h,hi=aa h->h<= ↑ns):
  ∃τ,cG S k (O++[.ns [(sA,aa d),(sX,~~~(.int x)),(oT,~~~(.int lo)),(oU,~~~(KS hi)),(gq,aa key),(sU,ac)]])
   (cR.env (↑O+0)) cR.body (.ret (.pv (.int (pb (λm=> !decide (x<ns.getD m 0)) ↑ns lo (hi.getD ↑ns) ac).1))) (O++τ):=by
 have h1:=tm;have h2:=GG;apply fX;apply cG.cons
 ·walk_at "f";exact cG.nil
 apply cG.cons (bA:=O++[.ns (Cw d (.pv (.int x)) lo (hi.getD ↑ns:Nat) key ac)])
 ·induction hi with
  |none=>
   dsimp only[KS];walk_at "g";apply cG.cons
   ·apply i6.assign
    ·apply Ev.wA
     ·walk_at "b"
     ·apply ck.cons
      ·walk_at "b"
      ·exact .nil
      ·rfl
     ·apply yR.len_list (l:=l)
      ·exact hl.AB
      ·exact VW hn cH
    ·apply jK.x7 h1
     ·rfl
     ·walk_at "a"
     ·walk_at "e"
     ·walk_at "c"
     ·walk_at "d"
    ·intro _ _;rfl
   ·exact cH▸cG.nil
  |some h=>dsimp only[KS];walk_at "f";exact cG.nil
 have hit:∀i,i< ↑ns->∃y,l[i]? =aa y/\g y=aa (ns.getD i 0):=by
  intro i hi;have HT:i< ↑l:=by exact IF hi cH
  exact⟨l[i],aq HT,tZ i _ (aq HT)⟩
 apply cG.cons
 ·apply i6.if (b:=false)
  ·apply nX.jr
   ·walk_at "b"
   ·walk_at "b"
   ·exact zz.qV hk
   ·rfl
  apply cG.cons
  ·apply i6.KL;apply wB (p:=λm=> !decide (x<ns.getD m 0)) (N:= ↑ns) (n:= ↑ns)
   ·intro lo hi mid;walk_at "i"
   ·intro lo hi mid h3 h4;let ⟨y,hm,hgy⟩:=hit ((lo+hi)/2) (IE h3 h4);apply cG.cons
    ·walk_at "l"
    cases hc:decide (x<ns.getD ((lo+hi)/2) 0)with
    |true=>
     rw[if_neg ∅];apply cG.cons
     ·apply i6.if (b:=true)
      ·apply nX.to
       ·apply nX.compare
        ·walk_at "b"
        ·apply Ev.pu rfl hk
         ·walk_at "b"
         ·apply ck.cons
          ·walk_at "b"
          ·exact .nil
          ·rfl
         ·exact hg _ pz y _ hgy
        ·walk_at "m"
        ·rfl
       ·exact hc
      walk_at "h"
     ·exact cG.nil
    |false=>
     rw[if_pos tt];apply cG.cons
     ·apply i6.if (b:=false)
      ·apply nX.to
       ·apply nX.compare
        ·walk_at "b"
        ·apply Ev.pu rfl hk
         ·walk_at "b"
         ·apply ck.cons
          ·walk_at "b"
          ·exact .nil
          ·rfl
         ·exact hg _ pz y _ hgy
        ·walk_at "m"
        ·rfl
       ·exact hc
      walk_at "h"
     ·exact cG.nil
   ·induction hi with
    |none=>simp
    |some h=>have:=HS h rfl;simp;exact Ml this
   ·induction hi with
    |none=>simp
    |some h=>have:=HS h rfl;simpa using this
  ·exact cG.nil
 walk_at "h"
def dg.snoc (h:dg w c n vs ds) (a:cT w c n v d):dg w c n (vs++[v]) (ds++[d]):=by
 induction h with
 |nil=>exact .cons a .nil
 |cons b _ ih=>exact .cons b ih
inductive GH (t:CU):List Value->Value->Value->Prop
 |two:GH t [] (.int 0 t) .none
 |three {lo:Value}:GH t [lo] lo .none
 |four {lo hi:Value}:GH t [lo,hi] lo hi
structure nL (r:eh):Prop where
 mem:r∈fV
 tk:∃T∈[187,196,205,214],∃K∈[188,197,206,215],∀(pm a x kv:Value) (c d t n sl c' d' hs t' n' sl') (tl:Vs) (lo hi:Value),GH t tl lo hi->
  peek (two T K (dfT c d t n sl) (dfK c' d' hs t' n' sl')) 9 (bindArgs (r.fd pm) ⟨a::x::tl,[]⟩)=aa [(sA,a),(sX,x),(oT,lo),(oU,hi),(gq,.none)]/\
  peek (two T K (dfT c d t n sl) (dfK c' d' hs t' n' sl')) 9 (bindArgs (r.fd pm) ⟨a::x::tl,[(gq,kv)]⟩)=aa [(sA,a),(sX,x),(oT,lo),(oU,hi),(gq,kv)]
def pA:nL fk:=⟨by unfold fV;walk_at "a",214,by decide,215,by decide,λ_ _ _ _ _ _ _ _ _ _ _ _ _ _ _ _ _ _ h=>by cases h<;>exact⟨rfl,by kernel_rfl⟩⟩
def pB:nL cR:=⟨by unfold fV;walk_at "a",196,by decide,197,by decide,λ_ _ _ _ _ _ _ _ _ _ _ _ _ _ _ _ _ _ h=>by cases h<;>exact⟨rfl,by kernel_rfl⟩⟩
def tr:nL dQ:=⟨by unfold fV;walk_at "a",205,by decide,206,by decide,λ_ _ _ _ _ _ _ _ _ _ _ _ _ _ _ _ _ _ h=>by cases h<;>exact⟨rfl,by kernel_rfl⟩⟩
def qW:nL cQ:=⟨by unfold fV;walk_at "a",187,by decide,188,by decide,λ_ _ _ _ _ _ _ _ _ _ _ _ _ _ _ _ _ _ h=>by cases h<;>exact⟨rfl,by kernel_rfl⟩⟩
inductive mW:List AV->AV->AV->Prop
 |two:mW [] (.pv (.int 0)) (.pv PV.none)
 |three {lo:AV}:mW [lo] lo (.pv PV.none)
 |four {lo hi:AV}:mW [lo,hi] lo hi
def mW.vals (ht:mW tl lo hi) (hv:dg w c n vs tl) (t:CU):∃u v,GH t vs u v/\cT w c n u lo/\cT w c n v hi:=by
 induction ht with
 |two=>obtain rfl:=hv.i0;exact⟨_,_,.two,.pv (.int ..),.pv (.con _)⟩
 |three=>let ⟨_,_,rfl,a,h1⟩:=hv.i1;obtain rfl:=h1.i0;exact⟨_,_,.three,a,.pv (.con _)⟩
 |four=>let ⟨_,_,rfl,a,h1⟩:=hv.i1;let ⟨_,_,rfl,b,h2⟩:=h1.i1;obtain rfl:=h2.i0;exact⟨_,_,.four,a,b⟩
def Li:∀T∈[187,196,205,214,188,197,206,215],∀q∈cm,T≠q.2:=by decide
def nL.PM (hr:nL r) (ht:mW tl lo hi) (pm kv:Value) (R:Rel S c O s.heap) (hv:dg S.w c ↑O vs (a::x::tl)):
  ∃va vx u v,dg S.w c ↑O [va,vx,u,v] [a,x,lo,hi]/\BindsTo s (r.fd pm) ⟨vs,[]⟩ [(sA,va),(sX,vx),(oT,u),(oU,v),(gq,.none)]/\BindsTo s (r.fd pm) ⟨vs,[(gq,kv)]⟩ [(sA,va),(sX,vx),(oT,u),(oU,v),(gq,kv)]:=by
 left;let ⟨T,hT,K,hK,h⟩:=hr.tk;let ⟨⟨c0,d0,_,sl0⟩,n0,t0,ho,hd⟩:=S.Z7 T hT;let ⟨c1,d1,Zv,t1,n1,sl1,hk⟩:=S.NQ K hK;let ⟨va,_,rfl,h1,hv1⟩:=hv.i1;let ⟨vx,_,rfl,h2,hv2⟩:=hv1.i1;let ⟨u,v,h3,h4,h5⟩:=ht.vals hv2 t0;dsimp only at hd;subst hd;have hF:=X6 (R.old ho (Li T (show T∈[187,196,205,214]++[188,197,206,215] from fu _ hT))) (R.old hk (Li K (show K∈[187,196,205,214]++[188,197,206,215] from dS _ hK)));have h6:=h pm va vx kv c0 d0 t0 n0 sl0 c1 d1 Zv t1 n1 sl1 _ _ _ h3;exact kG ⟨va,vx,u,v,.cons h1 (.cons h2 (.cons h4 (.cons h5 .nil))),λ_ _ _ _ hQ=>Lh hF hQ h6.1,λ_ _ _ _ hQ=>Lh hF hQ h6.2⟩
def nL.binds (hr:nL r) (ht:mW tl lo hi) (pm:Value):jG S O (r.fd pm) (a::x::tl) [] [(sA,a),(sX,x),(oT,lo),(oU,hi),(gq,.pv PV.none)]:=by intro c s vs kvs R hv hk _;obtain rfl:=Of.mp hk;let ⟨va,vx,u,v,h,b,_⟩:=hr.PM ht pm .none R hv;exact⟨[(sA,va),(sX,vx),(oT,u),(oU,v),(gq,.none)],rfl,h.snoc (v:= .none) (.pv (.con _)),b⟩
def nL.yd (hr:nL r) (ht:mW tl lo hi) (pm:Value):jG S O (r.fd pm) (a::x::tl) [(gq,key)] [(sA,a),(sX,x),(oT,lo),(oU,hi),(gq,key)]:=by
 intro c s vs kvs R hv hk HR;obtain⟨⟨y,vk⟩,kvs,rfl⟩:∃p r,kvs=p::r:=by induction kvs with|nil=>nomatch hk|cons p r=>exact⟨p,r,rfl⟩
 let ⟨hy,H5⟩:=jJ hk;obtain rfl:=Of.mp H5;obtain rfl:y=gq:=hy;let ⟨_,_,e,h5,_⟩:=HR.i1;let ⟨rfl,_⟩:=jJ e;let ⟨va,vx,u,v,h,_,b⟩:=hr.PM ht pm vk R hv;exact⟨[(sA,va),(sX,vx),(oT,u),(oU,v),(gq,vk)],rfl,h.snoc (v:=vk) h5,b⟩
noncomputable def X8 (right:Bool) (ns:List Int) (x:Int) (m:Nat):Bool:=if right then !decide (x<ns.getD m 0) else decide (ns.getD m 0<x)
def mB (right:Bool) (ns:List Int) (x:Int) (lo:Nat) (hi:Option Nat):Nat:=(pb (X8 right ns x) ↑ns lo (hi.getD ↑ns) ac).1
def I0 (right:Bool):eh:=if right then cR else fk
def PN (right:Bool):eh:=if right then cQ else dQ
def Lj (right:Bool):nL (I0 right):=by cases right;exact pA;exact pB
def Lk (right:Bool):nL (PN right):=by cases right;exact tr;exact qW
def lk (h:pR sc l) (l':List Str) (hs:l'.all (λx=>l.any λy=>x==y)=true):∀x∈l',sc.names.lookup x=aa .local:=λx hx=>by
 have:=fI.mp hs x hx;let ⟨y,hy,e⟩:=Ar.mp this;have e':x=y:=by simpa using e
 exact e'▸(h y hy)
def dy.X9 (right:Bool) {lo:Nat} (hl:IsL O d (ns.map PV.int)) (hn: ↑ns<2 ^ 30) (DW:lo<= ↑ns) (HS:∀h,hi=aa h->h<= ↑ns)
  (ht:mW tl (.pv (.int lo)) (.pv (KS hi))):dy S (k+1) O (.pv (.con (.ref (I0 right).addr))) (d:: .pv (.int x)::tl) [] (.pv (.int (mB right ns x lo hi))) O:=by
 induction right with
 |false=>obtain(⟨τ,hb⟩):=Mr (S:=S) (k:=k) (x:=x) hl hn DW HS;exact dy.def (r:=fk) (.of 3 rfl rfl rfl) (others:=[sU]) (λpm=>pA.binds ht pm) (lk sW [sA,sX,oT,oU,gq] ∅) rfl hb rfl (λi x h=> .inl h) .pv
 |true=>obtain(⟨τ,hb⟩):=MN (S:=S) (k:=k) (x:=x) hl hn DW HS;exact dy.def (r:=cR) (.of 1 rfl rfl rfl) (others:=[sU]) (λpm=>pB.binds ht pm) (lk tm [sA,sX,oT,oU,gq] ∅) rfl hb rfl (λi x h=> .inl h) .pv
def dy.PO (right:Bool) {lo:Nat} (hk:qo key) (hg:su S k O key g) (hl:IsL O d l) (tZ:∀(i:Nat) (y:PV),l[i]? =aa y->g y=aa (ns.getD i 0)) (cH: ↑ns= ↑l) (hn: ↑ns<2 ^ 30) (DW:lo<= ↑ns) (HS:∀h,hi=aa h->h<= ↑ns)
  (ht:mW tl (.pv (.int lo)) (.pv (KS hi))):dy S (k+1) O (.pv (.con (.ref (I0 right).addr))) (d:: .pv (.int x)::tl) [(gq,key)] (.pv (.int (mB right ns x lo hi))) O:=by
 induction right with
 |false=>obtain(⟨τ,hb⟩):=IY (S:=S) (k:=k) (x:=x) hk hg hl tZ cH hn DW HS;exact dy.def (r:=fk) (.of 3 rfl rfl rfl) (others:=[sU]) (λpm=>pA.yd ht pm) (lk sW [sA,sX,oT,oU,gq] ∅) rfl hb rfl (λi x h=> .inl h) .pv
 |true=>obtain(⟨τ,hb⟩):=IZ (S:=S) (k:=k) (x:=x) hk hg hl tZ cH hn DW HS;exact dy.def (r:=cR) (.of 1 rfl rfl rfl) (others:=[sU]) (λpm=>pB.yd ht pm) (lk tm [sA,sX,oT,oU,gq] ∅) rfl hb rfl (λi x h=> .inl h) .pv
def Ev.ur {id:String} (Ku:Slot "list" name id) (hty:typeOf (.builtin id)=pure (.type "method_descriptor"))
  (h:Ev S k O ae o d O) (hl:IsL O d l) (ha:ck S k O ae args ds) (hv:nr S k O (.builtin id) (d::ds) r bv) (ik:∀env,attributeBase o name env (eval o env)=eval o env) (gC:(jx.endLine==pos.line)=true) (hn: ↑args<30):
  Ev S k O ae (.Call (.Attribute o name jx) args [] pos) r bv:=by
 refine⟨hv.len,λA c s env hA hE R E Q hQ=> ?_⟩;refine eK (ik env) (AN ha pos env hn) gC (h.run A c s env hA hE R _ _ λc1 v1 s1 l1 R1 K1 a1=> ?_);left;let ⟨a,vs,m,rfl,ho,hs,_⟩:=hl.at R1 a1;right;refine⟨"list",id,F.plainAttrs_list,Ku,hty,⟨_,ho,rfl⟩,λb e=>by cases e;exact⟨_,ho,rfl⟩,cX (noStar ha pos env) ?_⟩;refine eg ha _ pos A c1 s1 env hA (hE.mono l1 (ab _)) R1 _ _ λc2 vs s2 l2 R2 K2 a2=> ?_;exact hv.run A c2 s2 (_::vs) hA R2 (.cons (a1.mono l2 (ab _)) a2) E Q λc3 v3 s3 l3 R3 K3 a3=>hQ c3 v3 s3 ((l1.trans l2 (ab _)).trans l3 (ab _)) R3 ((K1.trans K2).trans K3) a3
def tu:pR dQ.scope [sA,sX,oT,oU,gq]:=pR.of tt
def tz:pR cQ.scope [sA,sX,oT,oU,gq]:=pR.of tt
def PP (p:Nat->Bool) (n:Nat):∀(lo hi:Nat) (m:Option AV),lo<=hi->(pb p n lo hi m).1<=hi:=by
 induction n with
 |zero=>intro lo hi m h;exact h
 |succ n ih=>
  intro lo hi m h;rw[Ei];by_cases h1:lo<hi
  ·rw[if_pos h1];by_cases h2:p ((lo+hi)/2)=true
   ·rw[if_pos h2];exact ih _ _ _ (abG h1)
   ·rw[if_neg h2];exact aA (ih _ _ _ (abH h1)) (abI h1)
  ·rw[if_neg h1];exact h
def w1 (right:Bool) (ns:List Int) (x:Int):mB right ns x 0 ac<= ↑ns:=PP _ _ _ _ _ (cI _)
def A5:me dQ.scope [ah "bisect_left"]:=me.of tt
def MO (hi:O[i]? =aa (.list (ns.map PV.int))) (hn: ↑ns<100000):
  ∃τ,cG S (k+1) (O++[.ns [(sA,aa (.fM i)),(sX,~~~(.int x)),(oT,~~~(.int 0)),(oU,~~~PV.none),(gq,~~~PV.none)]])
   (dQ.env (↑O+0)) dQ.body .next (O.set i (.list (uR (mB false ns x 0 ac) (.int x) (ns.map PV.int)))++τ):=by
 have h1:=tu;have h2:=A5;have hl:IsL O (.fM i) (ns.map PV.int):= .fM hi;apply fX;apply cG.cons (bA:=O++[.ns [(sA,aa (.fM i)),(sX,~~~(.int x)),(oT,~~~(.int (mB false ns x 0 ac))),(oU,~~~PV.none),(gq,~~~PV.none)]])
 ·walk_at "g";apply cG.cons
  ·apply i6.assign
   ·apply Ev.md (r:=fk) pA.mem
    ·apply Ev.Cv (by assumption)
     ·rfl
     ·walk_at "a"
     ·show(_,aa (eM 222))∈cf;unfold cf;walk_at "a"
     ·rfl
    ·apply ck.cons
     ·walk_at "b"
     ·apply ck.cons
      ·walk_at "b"
      ·apply ck.cons
       ·walk_at "b"
       ·apply ck.cons
        ·walk_at "b"
        ·exact .nil
        ·rfl
       ·rfl
      ·rfl
     ·rfl
    ·exact .nil
    ·exact dy.X9 (S:=S) (k:=k) false (lo:=0) (hi:=ac) hl.AB (Kz hn) (cI _) (λ_ h=>by cases h) .four
   ·apply jK.x7 h1
    ·rfl
    ·walk_at "a"
    ·walk_at "e"
    ·walk_at "c"
    ·walk_at "d"
   ·intro _ _;rfl
  ·exact cG.nil
 apply cG.cons
 ·apply i6.expr
  ·apply Ev.ur (id:= "list.insert") F.slot_list_insert F.type_list_insert
   ·walk_at "b"
   ·exact hl.AB
   ·apply ck.cons
    ·walk_at "b"
    ·apply ck.cons
     ·walk_at "b"
     ·exact .nil
     ·rfl
    ·rfl
   ·exact nr.insert rfl (gp hi) (by rw[aw];exact VX hn) (by rw[aw];exact w1 ..)
   ·intro _;rfl
   ·rfl
   ·decide
  ·exact pp
 rw[kH _ _ (getElem?_lt' hi)];exact cG.nil
def GI:me cQ.scope [ah "bisect_right"]:=me.of tt
def MP (hi:O[i]? =aa (.list (ns.map PV.int))) (hn: ↑ns<100000):
  ∃τ,cG S (k+1) (O++[.ns [(sA,aa (.fM i)),(sX,~~~(.int x)),(oT,~~~(.int 0)),(oU,~~~PV.none),(gq,~~~PV.none)]])
   (cQ.env (↑O+0)) cQ.body .next (O.set i (.list (uR (mB true ns x 0 ac) (.int x) (ns.map PV.int)))++τ):=by
 have h1:=tz;have h2:=GI;have hl:IsL O (.fM i) (ns.map PV.int):= .fM hi;apply fX;apply cG.cons (bA:=O++[.ns [(sA,aa (.fM i)),(sX,~~~(.int x)),(oT,~~~(.int (mB true ns x 0 ac))),(oU,~~~PV.none),(gq,~~~PV.none)]])
 ·walk_at "g";apply cG.cons
  ·apply i6.assign
   ·apply Ev.md (r:=cR) pB.mem
    ·apply Ev.Cv (by assumption)
     ·rfl
     ·walk_at "a"
     ·show(_,aa (eM 204))∈cf;unfold cf;walk_at "a"
     ·rfl
    ·apply ck.cons
     ·walk_at "b"
     ·apply ck.cons
      ·walk_at "b"
      ·apply ck.cons
       ·walk_at "b"
       ·apply ck.cons
        ·walk_at "b"
        ·exact .nil
        ·rfl
       ·rfl
      ·rfl
     ·rfl
    ·exact .nil
    ·exact dy.X9 (S:=S) (k:=k) true (lo:=0) (hi:=ac) hl.AB (Kz hn) (cI _) (λ_ h=>by cases h) .four
   ·apply jK.x7 h1
    ·rfl
    ·walk_at "a"
    ·walk_at "e"
    ·walk_at "c"
    ·walk_at "d"
   ·intro _ _;rfl
  ·exact cG.nil
 apply cG.cons
 ·apply i6.expr
  ·apply Ev.ur (id:= "list.insert") F.slot_list_insert F.type_list_insert
   ·walk_at "b"
   ·exact hl.AB
   ·apply ck.cons
    ·walk_at "b"
    ·apply ck.cons
     ·walk_at "b"
     ·exact .nil
     ·rfl
    ·rfl
   ·exact nr.insert rfl (gp hi) (by rw[aw];exact VX hn) (by rw[aw];exact w1 ..)
   ·intro _;rfl
   ·rfl
   ·decide
  ·exact pp
 rw[kH _ _ (getElem?_lt' hi)];exact cG.nil
def I1 (hk:qo key) (hg:su S k O key g) (hi:O[i]? =aa (.list l)) (tZ:∀(j:Nat) (z:PV),l[j]? =aa z->g z=aa (ns.getD j 0)) (cH: ↑ns= ↑l) (hn: ↑ns<100000) (hx:g y=aa x):
  ∃τ,cG S (k+1) (O++[.ns [(sA,aa (.fM i)),(sX,~~~y),(oT,~~~(.int 0)),(oU,~~~PV.none),(gq,aa key)]])
   (dQ.env (↑O+0)) dQ.body .next (O.set i (.list (uR (mB false ns x 0 ac) y l))++τ):=by
 have h1:=tu;have h2:=A5;have hl:IsL O (.fM i) l:= .fM hi;have wi:su S k (O++[.ns [(sA,aa (.fM i)),(sX,~~~y),(oT,~~~(.int 0)),(oU,~~~PV.none),(gq,aa key)]]) key g:=λbv h' d j hd=>hg bv (λj hj=>(h' j (by rw[aj];exact om6 hj)).trans (pz j hj)) d j hd;apply fX;apply cG.cons (bA:=O++[.ns [(sA,aa (.fM i)),(sX,~~~y),(oT,~~~(.int (mB false ns x 0 ac))),(oU,~~~PV.none),(gq,aa key)]])
 ·apply i6.if (b:=false)
  ·apply nX.jr
   ·walk_at "b"
   ·walk_at "b"
   ·exact zz.qV hk
   ·rfl
  apply cG.cons
  ·apply i6.assign
   ·apply Ev.md (r:=fk) pA.mem
    ·apply Ev.Cv (by assumption)
     ·rfl
     ·walk_at "a"
     ·show(_,aa (eM 222))∈cf;unfold cf;walk_at "a"
     ·rfl
    ·apply ck.cons
     ·walk_at "b"
     ·apply ck.cons
      ·apply Ev.AI (k:=k)
       ·apply Ev.pu rfl hk
        ·walk_at "b"
        ·apply ck.cons
         ·walk_at "b"
         ·exact .nil
         ·rfl
        ·exact wi _ (λ_ _=>rfl) y _ hx
       ·exact F7
      ·apply ck.cons
       ·walk_at "b"
       ·apply ck.cons
        ·walk_at "b"
        ·exact .nil
        ·rfl
       ·rfl
      ·rfl
     ·rfl
    ·apply o9.cons
     ·walk_at "b"
     ·exact .nil
    ·exact dy.PO (S:=S) (k:=k) false (lo:=0) (hi:=ac) hk wi hl.AB tZ cH (Kz hn) (cI _) (λ_ h=>by cases h) .four
   ·apply jK.x7 h1
    ·rfl
    ·walk_at "a"
    ·walk_at "e"
    ·walk_at "c"
    ·walk_at "d"
   ·intro _ _;rfl
  ·exact cG.nil
 apply cG.cons
 ·apply i6.expr
  ·apply Ev.ur (id:= "list.insert") F.slot_list_insert F.type_list_insert
   ·walk_at "b"
   ·exact hl.AB
   ·apply ck.cons
    ·walk_at "b"
    ·apply ck.cons
     ·walk_at "b"
     ·exact .nil
     ·rfl
    ·rfl
   ·exact nr.insert rfl (gp hi) (VY hn cH) (cH▸(w1 ..))
   ·intro _;rfl
   ·rfl
   ·decide
  ·exact pp
 rw[kH _ _ (getElem?_lt' hi)];exact cG.nil
def I2 (hk:qo key) (hg:su S k O key g) (hi:O[i]? =aa (.list l)) (tZ:∀(j:Nat) (z:PV),l[j]? =aa z->g z=aa (ns.getD j 0)) (cH: ↑ns= ↑l) (hn: ↑ns<100000) (hx:g y=aa x):
  ∃τ,cG S (k+1) (O++[.ns [(sA,aa (.fM i)),(sX,~~~y),(oT,~~~(.int 0)),(oU,~~~PV.none),(gq,aa key)]])
   (cQ.env (↑O+0)) cQ.body .next (O.set i (.list (uR (mB true ns x 0 ac) y l))++τ):=by
 have h1:=tz;have h2:=GI;have hl:IsL O (.fM i) l:= .fM hi;have wi:su S k (O++[.ns [(sA,aa (.fM i)),(sX,~~~y),(oT,~~~(.int 0)),(oU,~~~PV.none),(gq,aa key)]]) key g:=λbv h' d j hd=>hg bv (λj hj=>(h' j (by rw[aj];exact om6 hj)).trans (pz j hj)) d j hd;apply fX;apply cG.cons (bA:=O++[.ns [(sA,aa (.fM i)),(sX,~~~y),(oT,~~~(.int (mB true ns x 0 ac))),(oU,~~~PV.none),(gq,aa key)]])
 ·apply i6.if (b:=false)
  ·apply nX.jr
   ·walk_at "b"
   ·walk_at "b"
   ·exact zz.qV hk
   ·rfl
  apply cG.cons
  ·apply i6.assign
   ·apply Ev.md (r:=cR) pB.mem
    ·apply Ev.Cv (by assumption)
     ·rfl
     ·walk_at "a"
     ·show(_,aa (eM 204))∈cf;unfold cf;walk_at "a"
     ·rfl
    ·apply ck.cons
     ·walk_at "b"
     ·apply ck.cons
      ·apply Ev.AI (k:=k)
       ·apply Ev.pu rfl hk
        ·walk_at "b"
        ·apply ck.cons
         ·walk_at "b"
         ·exact .nil
         ·rfl
        ·exact wi _ (λ_ _=>rfl) y _ hx
       ·exact F7
      ·apply ck.cons
       ·walk_at "b"
       ·apply ck.cons
        ·walk_at "b"
        ·exact .nil
        ·rfl
       ·rfl
      ·rfl
     ·rfl
    ·apply o9.cons
     ·walk_at "b"
     ·exact .nil
    ·exact dy.PO (S:=S) (k:=k) true (lo:=0) (hi:=ac) hk wi hl.AB tZ cH (Kz hn) (cI _) (λ_ h=>by cases h) .four
   ·apply jK.x7 h1
    ·rfl
    ·walk_at "a"
    ·walk_at "e"
    ·walk_at "c"
    ·walk_at "d"
   ·intro _ _;rfl
  ·exact cG.nil
 apply cG.cons
 ·apply i6.expr
  ·apply Ev.ur (id:= "list.insert") F.slot_list_insert F.type_list_insert
   ·walk_at "b"
   ·exact hl.AB
   ·apply ck.cons
    ·walk_at "b"
    ·apply ck.cons
     ·walk_at "b"
     ·exact .nil
     ·rfl
    ·rfl
   ·exact nr.insert rfl (gp hi) (VY hn cH) (cH▸(w1 ..))
   ·intro _;rfl
   ·rfl
   ·decide
  ·exact pp
 rw[kH _ _ (getElem?_lt' hi)];exact cG.nil
def vi (right:Bool) (ns:List Int) (x:Int) (y:PV) (l:List PV):List PV:=uR (mB right ns x 0 ac) y l
def dy.ins (right:Bool) (hi:O[i]? =aa (.list (ns.map PV.int))) (hn: ↑ns<100000):
  dy S (k+2) O (.pv (.con (.ref (PN right).addr))) [.fM i,.pv (.int x)] [] (.pv PV.none) (O.set i (.list (vi right ns x (.int x) (ns.map PV.int)))):=by
 have fl:∀(j:Nat) (y:AO) (z:List PV),(O.set i (.list z))[j]? =aa y->O[j]? =aa y\/y.flat=true:=λj y z h=>by
  by_cases J0:i=j
  ·subst J0;rw[bU (getElem?_lt' hi)]at h;obtain rfl:=ag h;exact .inr rfl
  ·rw[bE J0]at h;exact .inl h
 induction right with
 |false=>obtain(⟨τ,hb⟩):=MO (S:=S) (k:=k) (x:=x) hi hn;exact dy.def (r:=dQ) (.of 2 rfl rfl rfl) (others:=[]) (λpm=>tr.binds .two pm) (lk tu [sA,sX,oT,oU,gq] ∅) rfl hb bi (λj y h=>fl j y _ h) .pv
 |true=>obtain(⟨τ,hb⟩):=MP (S:=S) (k:=k) (x:=x) hi hn;exact dy.def (r:=cQ) (.of 0 rfl rfl rfl) (others:=[]) (λpm=>qW.binds .two pm) (lk tz [sA,sX,oT,oU,gq] ∅) rfl hb bi (λj y h=>fl j y _ h) .pv
def dy.Yb (right:Bool) (hk:qo key) (hg:su S k O key g) (hi:O[i]? =aa (.list l)) (tZ:∀(j:Nat) (z:PV),l[j]? =aa z->g z=aa (ns.getD j 0)) (cH: ↑ns= ↑l) (hn: ↑ns<100000) (hx:g y=aa x):
  dy S (k+2) O (.pv (.con (.ref (PN right).addr))) [.fM i,.pv y] [(gq,key)] (.pv PV.none) (O.set i (.list (vi right ns x y l))):=by
 have fl:∀(j:Nat) (y:AO) (z:List PV),(O.set i (.list z))[j]? =aa y->O[j]? =aa y\/y.flat=true:=λj y z h=>by
  by_cases J0:i=j
  ·subst J0;rw[bU (getElem?_lt' hi)]at h;obtain rfl:=ag h;exact .inr rfl
  ·rw[bE J0]at h;exact .inl h
 induction right with
 |false=>obtain(⟨τ,hb⟩):=I1 (S:=S) (k:=k) hk hg hi tZ cH hn hx;exact dy.def (r:=dQ) (.of 2 rfl rfl rfl) (others:=[]) (λpm=>tr.yd .two pm) (lk tu [sA,sX,oT,oU,gq] ∅) rfl hb bi (λj y h=>fl j y _ h) .pv
 |true=>obtain(⟨τ,hb⟩):=I2 (S:=S) (k:=k) hk hg hi tZ cH hn hx;exact dy.def (r:=cQ) (.of 0 rfl rfl rfl) (others:=[]) (λpm=>qW.yd .two pm) (lk tz [sA,sX,oT,oU,gq] ∅) rfl hb bi (λj y h=>fl j y _ h) .pv
def vj {pos jW:Pos} (l:Vs) (h:u5 l) (hc:codeAmong jW (l++[rawInt pos.line,rawInt pos.col,c])=aa cd):codeAmong jW l=aa cd\/cd=c:=by
 fun_induction u5 l with
 |case1=>
  simp only[gf,rawInt,codeAmong]at hc;split at hc
  ·obtain rfl:=ag hc;exact .inr rfl
  ·nomatch hc
 |case2 a t b u x rest ih=>
  simp only[sF,codeAmong]at hc⊢;split at hc
  ·rename_i hh;rw[if_pos hh];exact .inl hc
  ·rename_i hh;rw[if_neg hh];exact ih h hc
 |case3=>exact h.elim
def Cy {pos jW:Pos} (l:Vs) (h:u5 l) (hn:codeAmong jW l=ac) (hp:(pos.line==jW.line&&pos.col==jW.col)=false):codeAmong jW (l++[rawInt pos.line,rawInt pos.col,c])=ac:=by
 fun_induction u5 l with
 |case1=>
  simp only[gf,rawInt,codeAmong];split
  ·rename_i hh;simp only[dj,beq_iff_eq,Int.natCast_inj]at hh;simp[hh.1,hh.2]at hp
  ·rfl
 |case2 a t b u x rest ih=>
  simp only[sF,codeAmong]at hn⊢;split at hn
  ·nomatch hn
  ·rename_i hh;rw[if_neg hh];exact ih h hn
 |case3=>exact h.elim
def PQ:∀r∈cm,∀q∈cm,r.2=q.2->r.1=q.1:=by decide
def Rel.Ll (R:Rel S c O h) (hq:q∈cm) (hx:∀b o,b≠q.2->h.get? b=aa o->h'.get? b=aa o) (hP:h'.get? q.2=aa (tableObj ps)) (ht:u5 ps.toList/\(S.yx=true->q.1=324->codeAmong wt ps.toList=ac))
  (hF:∀a o,c.F a=aa o->c'.F a=aa o) (hF':∀a o,c'.F a=aa o->h'.get? a=aa o/\(c.F a=aa o\/h.objs.size<=a)) (DV:c'.Z=c.Z) (ZD:c'.pin=c.pin)
  (CQ:∀pos cd,codeAmong pos ps.toList=aa cd->yO c'.F cd):Rel S c' O h':=by
 let ⟨t1,t2,_⟩:=R.tabs q hq;refine⟨λa o e=>(hF' a o e).1,λa o e k=>hF _ _ (R.base a o e k),λi ao e=> ?_,λi hi=> ?_,λi j hi hj e=>R.inj i j hi hj (DV▸e),λa o e=> ?_,λr hr=> ?_⟩
 ·let ⟨o,p,x⟩:=R.own i ao e;refine⟨o,by exact DV▸(hx _ _ (t2 i (getElem?_lt' e))) p,x.j6 hF (λj _=>by rw[DV]) (ab _)⟩
 ·rw[DV];cases e:c'.F (c.Z i)with
  |none=>rfl
  |some o=>
   rcases(hF' _ _ e).2 with e'|e'
   ·rw[R.apart i hi]at e';nomatch e'
   ·exact absurd (R.Mo hi) (fD.mpr e')
 ·rw[ZD]at e;let ⟨p1,p2,p3,p4⟩:=R.pins a o e;refine⟨hx _ _ (λe'=>p4 q hq e'.symm) p1,?_,λi hi=>by rw[DV];exact p3 i hi,p4⟩;cases e2:c'.F a with
  |none=>rfl
  |some y=>
   rcases(hF' _ _ e2).2 with e'|e'
   ·rw[p2]at e';nomatch e'
   ·exact absurd (bW p1) (fD.mpr e')
 ·let ⟨a1,a2,ps',a3,a4,a5⟩:=R.tabs r hr;have hn:c'.F r.2=ac:=by
   cases e2:c'.F r.2 with
   |none=>rfl
   |some y=>
    rcases(hF' _ _ e2).2 with e'|e'
    ·rw[a1]at e';nomatch e'
    ·exact absurd (R.Ga hr) (fD.mpr e')
  by_cases hrq:r.2=q.2
  ·exact⟨hn,λi hi=>by rw[DV];exact a2 i hi,ps,by rw[hrq];exact hP,⟨ht.1,λhs e=>ht.2 hs ((PQ r hr q hq hrq).symm.trans e)⟩,CQ⟩
  ·exact⟨hn,λi hi=>by rw[DV];exact a2 i hi,ps',hx _ _ hrq a3,a4,λpos cd hc=>(a5 pos cd hc).mono hF⟩
def Ev.EL (hq:q∈cm) (n9:ae.code=aa q.1) (RZ:S.yx=true->q.1=324->(pos.line==wt.line&&pos.col==wt.col)=false) (Su:∀env,defaultsOf params env=([],[])) (HX:j9 ae.cells scope.names []=aa cl):
  Ev S k O ae (.Lambda params body scope pos) (.tA params body scope cl) O:=by
 refine⟨ab _,λA c s env hA hE R E Q hQ=> ?_⟩;refine kla_eval (Su env) ?_;have DY:closureFor scope env=pure (cl.map λp=>(p.1,c.Z p.2)):=by refine mU ?_;rw[hE.cells];exact qS c.Z ae.cells scope.names [] cl HX
 have sJ:∀p∈cl,p.2< ↑O:=te hE.jq scope.names [] cl (λp hp=>by cases hp) HX;left;let ⟨mg,FX,hm⟩:=S.glob;let ⟨ob,Fz,Ou,L7,hb3⟩:=S.bmod;let ⟨t1,t2,ps,hP,⟨ht,Ia⟩,CQ⟩:=R.tabs q hq;have JZ:=R.vf FX ∅;right;have ZE:mg "__builtins__" =aa (.ref 4):=by have:=hm (ah "__builtins__",aa (.ref 4)) (by unfold cf;walk_at "a");exact this
 have agJ:∀q∈cm,(4:Addr)≠q.2:=by decide
 have hB:s.heap.BuiltinsAt mg q.2:=⟨4,ob,ZE,by decide,by decide,agJ q hq,R.old Fz agJ,Ou,L7,hb3⟩;have hC:CodeHd s.heap q.1 q.2:=by left;let ⟨_,o,vs,f1,f2,f3,f4,f5,f6,f7,e1,r⟩:=S.tabs q hq;right;exact⟨o,vs,f1,f2,f3,f4,f5,f6,f7,R.old e1 ((by decide:∀r∈cm,∀q∈cm,r.1≠q.2) q hq),r⟩
 have Kb:=hE.code _ n9;have fin:∀(c1:aM) (h':iS) (cdv:Value) (L9:Value) (tk:CU),aM.le ↑O c c1->Rel S c1 O h'->yO c1.F cdv->
   Q (.ref h'.objs.size) {s with heap:=h'.push {cls:= .type "function",data:= .func (SI "<lambda>" (env.qual++ "<lambda>") params body scope (cl.map λp=>(p.1,c.Z p.2)) ((mg "__name__").getD .none) cdv L9)},toks:=tk}:=by
  intro c1 h' cdv L9 tk l1 R1 hcf;have hF:=R1.oy (ab h'.objs.size);refine hQ (c1.put h'.objs.size _) _ _ (l1.trans (aM.dC hF) (ab _)) (R1.put (o:= {cls:= .type "function",data:= .func (SI "<lambda>" (env.qual++ "<lambda>") params body scope (cl.map λp=>(p.1,c.Z p.2)) ((mg "__name__").getD .none) cdv L9)}) (λb o e=>aJ _ e) (ab _) (aV _ rfl)) (.heap ..) ?_;refine .tA ⟨if_pos rfl,rfl,rfl,rfl,rfl,rfl,rfl,hcf.mono (aM.dC (n:=0) hF).F,rfl,rfl,rfl,cj λp hp=> ?_⟩ sJ;show(p.1,c.Z p.2)=(p.1,c1.Z p.2);rw[l1.Z _ (sJ p hp)]
 cases hca:codeAmong pos ps.toList with
 |some cv=>refine kla_makeFunctionHit DY hE.globals JZ Kb hC hP ht hca hB λL9 h' tk hk _=> ?_;exact fin c h' cv L9 tk (.refl ..) (R.ext hk) (CQ _ _ hca)
 |none=>
  refine kla_makeFunction DY hE.globals JZ Kb hC hP ht hca ((by decide:∀q∈cm,mainGlobals≠q.2) q hq) hB λc' L9 h' tk hx Ak kX Kc htb=> ?_;left;let ⟨c2,oc,vs,tq,e2,Ma,Xf,hvc⟩:=Kc;right;cases e2;have hF:=R.oy Ak;have sM:∀b o,b≠q.2->s.heap.get? b=aa o->h'.get? b=aa o:=λb o hb e=>hx b o hb e;have hcF:yO (c.put c' oc).F (.ref c'):=⟨c',oc,vs,_,_,rfl,if_pos rfl,Xf,hvc⟩;have R1:Rel S (c.put c' oc) O h':=R.Ll hq sM htb ⟨by rw[lu];exact TriplesOk_snoc _ _ _ _ ht,λhs S7=>by rw[lu];exact Cy _ ht (Ia hs S7) (RZ hs S7)⟩ (aM.dC (n:=0) hF).F (λa o e=>by
    have e':(if a=c' then aa oc else c.F a)=aa o:=e;by_cases ha:a=c'
    ·rw[if_pos ha]at e';cases e';subst ha;exact⟨Ma,.inr Ak⟩
    ·rw[if_neg ha]at e';exact⟨sM _ _ (λh=>by rw[h,t1]at e';cases e') (R.frozen _ _ e'),.inl e'⟩) rfl rfl λjW cd hc=>by
    rw[lu]at hc;rcases vj _ ht hc with h|h
    ·exact(CQ _ _ h).mono (aM.dC (n:=0) hF).F
    ·subst h;exact hcF
  exact fin _ h' (.ref c') L9 tk (aM.dC hF) R1 hcF
def GK (Sr:A.depth<recursionLimit) (ho:s.heap.get? a=aa o)
  (Aj:o.data= .func fd) (Vr:fd.scope.isCoroutine=false) (FG:fd.scope.isGenerator=false) (dY:fd.body= .expr body) (CQ:fd.code= .ref c') (Ma:s.heap.get? c'=aa oc) (Xf:oc.data= .fields vs) (hq:vs[1]? =aa (.str q tq))
  (h:wpAny (MM w) A.in1 (bindArgs fd args) (λbinds eG=>wpAny (MM w) A.in1 (newFunctionEnv fd.scope fd.globals fd.closure binds (q++ ".<locals>.") (aa a) fd.code ac fd.builtins)
    (λenv rn=>rn.heap.NoLimit/\codeAny (MM w) A (.expr body env) R rn) (λe s'=>R (.error e) s') eG) (λe s'=>R (.error e) s') s):
  codeAny (MM w) A (.call (.ref a) args) R s:=by
 refine fb ?_;show wpAny _ A.in1 (callAny (.ref a) args) _ _ s;simp only[callAny];refine am (Kj ho ?_);simp only[Aj,callFunction,Vr,FG,dY,CQ];rw[CQ]at h;refine am (m:=field (.ref c') 1) (FZ Ma Xf hq (am (aR ?_)));exact am (fZ h (λbinds eG HV=>am (fZ HV (λenv rn HW=>am (wpAny_enterFrame HW.1 Sr (aR (VL rfl HW.2)))) λ_ _ h'=>h')) λ_ _ h'=>h')
def dy.tA {names:List Str} (cH: ↑names= ↑args) (W5:names.Nodup)
  (gu:∀(fd:FuncData) (vs:Vs),fd.params=params->fd.defaults= .none->fd.kwdefaults= .none-> ↑vs= ↑names->bindArgs fd ⟨vs,[]⟩=pure (names.zip vs))
  (Ib:∀x∈scope.names,x.2≠ .cell) (Sk:∀x∈names,scope.names.lookup x=aa .local) (qv:scope.kind= .function) (Vr:scope.isCoroutine=false) (FG:scope.isGenerator=false) (sJ:∀p∈cells,p.2< ↑O)
  (dY:Ev S k (O++[.ns (names.zip (args.map aa))]) {scope:=scope,fi:= ↑O,cells:=cells} body (.pv d) (O++τ)):dy S (k+1) O (.tA params body scope cells) args [] (.pv d) O:=by
 refine⟨ab _,λA c s fv vs kvs hA R hf ha hk HR E Q hQ=> ?_⟩;have ZF:kvs=[]:=by induction kvs with|nil=>rfl|cons _ _=>cases hk
 subst ZF;obtain(⟨a,rfl,⟨h1,h2,h3,h4,h5,h6,h7,h8,h9,Ir,It,Ol⟩,h13⟩):=hf.XQ;rename_i o fd;left;let ⟨c',oc,vc,q,tq,e1,e2,e3,e4⟩:=h8;right;refine v8 ?_;refine GK hA.room (R.frozen _ _ h1) h3 (by rw[It];exact Vr) (by rw[It];exact FG) Ir e1 (R.frozen _ _ e2) e3 e4 ?_;have hvl: ↑vs= ↑names:=by rw[↑ha,cH]
 refine i5 (gu fd vs h9 h6 h7 hvl) ?_;rw[It,h4,h5,e1];refine yA Ib (λx hx=>Sk _ (by
  have:=Cq hx;exact this.1)) (λh' tZ NY=> ?_) qv
 have NZ:gH s.heap.objs.size (s.heap.push {cls:= .type "frame",data:= .dict #[]}) h':=NY;have xW:∀b o,s.heap.get? b=aa o->h'.get? b=aa o:=λb o e=>NZ.extBut b o (cU (bW e)) (aJ _ e);have L4:(names.zip vs).map (·.1)=names:=la (by simp_all);let ⟨on,hon,hrn⟩:=ic.Pg (w:=S.w) (c:=c.own ↑O s.heap.objs.size) (n:= ↑O+1) (m:=names.zip (args.map aa)) tZ (by rw[la (by rw[aw];simp_all)];exact W5)
  (λx d hx=>by
   have sM:(x,d)∈names.zip args:=by rw[OA,aQ]at hx;let ⟨⟨y,e⟩,hy,ey⟩:=hx;cases ey;exact hy
   let ⟨v,hv,hd⟩:=dg.pick (by rw[L4,la (by simp_all)]) (by rw[(nH (by simp_all)),nH (by simp_all)];exact ha) x d sM;exact⟨v,AA _ (by rw[L4];exact W5) _ _ hv,hd.mono aM.jc (mv _)⟩)
  (λx hx=>by
   rw[OA,aQ]at hx;let ⟨⟨y,e⟩,hy,ey⟩:=hx;cases ey)
 refine⟨sO R.lim xW,kla_codeExpr ?_⟩;have hE:cY (c.own ↑O s.heap.objs.size) ↑(O++[AO.ns (names.zip (args.map aa))]) {scope:=scope,fi:= ↑O,cells:=cells} {scope:=scope,locals:=s.heap.objs.size,globals:=mainGlobals,cells:=fd.closure,qual:=q++ ".<locals>.",func:=aa a,code:= .ref c',frame:=aa s.heap.objs.size,builtins:=builtinsNs}:= {
  scope:=rfl
  kind:=qv
  locals:=(aM.ma c ↑O _).symm
  fi:=by rw[aj];exact ez _
  globals:=rfl
  builtins:=rfl
  cells:=Ol.trans (cj λp hp=>by rw[aM.jc.Z _ (sJ p hp)])
  jq:=λp hp=>by rw[aj];exact eI (sJ p hp)
  code:=λa e=>by cases e
  frame:=⟨_,rfl⟩}
 refine dY.run _ _ _ _ hA.deeper hE (R.Az (h':=h') (o:=on) xW (ab _) hon hrn) _ _ λc1 v1 s1 l1 R2 K1 a1=> ?_;exact hQ c1 _ s1 (aM.jc.trans l1 (by rw[aj];exact bh _ _)) (R.drop R2 rfl λ_ _ h=> .inl h) ((dZ.heap s h' _).trans K1) (.pv a1.gh)
section
variable {lay:Lay}
structure kh where
 scope:Scope
 name:Str
 sz:List (Str×Nat)
def kh.L (ll:kh):Lay:= {scope:=ll.scope,loc:=[ll.name],nq:=ll.sz.map (·.1),own:=0,grow:=false,code:=ac}
structure kh.Ok (ll:kh) (lay:Lay):Prop where
 tA:j9 (lay.nq.zip (cK ↑lay.nq)) ll.scope.names []=aa ll.sz
 kind:ll.scope.kind= .function
 co:ll.scope.isCoroutine=false
 gen:ll.scope.isGenerator=false
 cell:∀x∈ll.scope.names,x.2≠ .cell
 loc:ll.scope.names.lookup ll.name=aa .local
 ndC:(ll.sz.map (·.2)).Nodup
def kh.st (ll:kh) (st:St) (d:PV):St:= {lv:=[~~~d],cv:=ll.sz.map λq=>(st.cv[q.2]?).join,ob:=st.ob}
def kh.Lf (ll:kh) (p:Ip) (n:Nat):Ip:= {fi:=n,ci:=ll.sz.map λq=>p.ci.getD q.2 0,oi:=p.oi}
def kh.Ok.PC {ll:kh} (h:ll.Ok lay):∀q∈ll.sz,q.2< ↑lay.nq:=by refine te (cells:=lay.nq.zip (cK ↑lay.nq)) (n:= ↑lay.nq) (λq hq=> ?_) _ _ _ (λq hq=>by cases hq) h.tA;have:=(Cq hq).2;exact dM.mp this
def kh.Ok.cells {ll:kh} (h:ll.Ok lay) (Se: ↑p.ci= ↑lay.nq):j9 (lay.en p).cells ll.scope.names []=aa (ll.sz.map λq=>(q.1,p.ci.getD q.2 0)):=by
 have e:(lay.en p).cells=(lay.nq.zip (cK ↑lay.nq)).map λq=>(q.1,p.ci.getD q.2 0):=by show lay.nq.zip p.ci=_;have:=Df (l:=lay.nq) 0 p.ci 0 [] rfl Se.symm;rw[vA];simpa using this
 rw[e];exact qS (λi=>p.ci.getD i 0) _ _ _ _ h.tA
def kh.Ok.at {ll:kh} (h:ll.Ok lay) {st:St} (bc:At lay p st pF) (jM:∀i,i< ↑pF->O[i]? =pF[i]?) (wh: ↑pF<= ↑O) (d:PV):
  At ll.L (ll.Lf p ↑O) (ll.st st d) (O++[.ns ([ll.name].zip [aa (AV.pv d)])]):=by
 have J5:=getElem?_lt' bc.frame;have Se:∀(i n:Nat),p.ci[i]? =aa n->n< ↑pF:=by
  intro i n hn;have FY:i< ↑st.cv:=by rw[bc.xO,<- bc.Fu];exact getElem?_lt' hn
  let ⟨m,hm,hc⟩:=bc.cells i _ (aq FY);rw[hn]at hm;obtain rfl:=ag hm;exact getElem?_lt' hc
 have W6:∀j,j< ↑st.ob->p.oi j< ↑pF:=λj hj=>getElem?_lt' (bc.obs j _ (aq hj));have sJ:∀q∈ll.sz,∃n,p.ci[q.2]? =aa n/\p.ci.getD q.2 0=n/\n< ↑pF:=by intro q hq;have hl:=h.PC q hq;rw[<- bc.Fu]at hl;exact⟨p.ci[q.2],aq hl,zV (aq hl),Se q.2 _ (aq hl)⟩
 have NV:∀n,n∈(ll.Lf p ↑O).ci->∃q∈ll.sz,p.ci[q.2]? =aa n/\n< ↑pF:=by intro n hn;left;let ⟨q,hq,e⟩:=aQ.mp hn;let ⟨m,h1,h2,h3⟩:=sJ q hq;right;rw[h2]at e;subst e;exact⟨q,hq,h1,h3⟩
 refine⟨?_,rfl,by simp[kh.st,kh.L],by simp[kh.Lf,kh.L],λi v hv=> ?_,λj o ho=>gp ((jM _ (W6 j (getElem?_lt' ho))).trans (bc.obs j o ho)),λhm=> ?_,λj hj e=> ?_,λj hj hm=> ?_,?_,bc.Vf,λhg=>by cases hg⟩
 ·show(O++_)[↑O]? =_;rw[aE (ab _),dc];rfl
 ·have vZ:(ll.sz.map λq=>(st.cv[q.2]?).join)[i]? =aa v:=hv;rw[bN]at vZ;simp only[ar]at vZ;left;let ⟨q,hq,rfl⟩:=vZ;let ⟨n,h1,h2,h3⟩:=sJ q (bo hq);right;refine⟨n,?_,?_⟩
  ·show(ll.sz.map λq=>p.ci.getD q.2 0)[i]? =_;rw[bN,hq,<- h2];rfl
  ·have FY:q.2< ↑st.cv:=by rw[bc.xO,<- bc.Fu];exact getElem?_lt' h1
   left;let ⟨m,hm,hc⟩:=bc.cells q.2 _ (aq FY);right;rw[h1]at hm;obtain rfl:=ag hm;rw[aq FY];exact gp ((jM _ h3).trans hc)
 ·let ⟨q,_,_,e⟩:=NV _ hm;have e': ↑O< ↑pF:=e;exact KA e' wh
 ·have e':p.oi j= ↑O:=e;have:=W6 j hj;exact aaT this e' wh
 ·let ⟨q,_,e,_⟩:=NV _ hm;exact bc.Ve j hj (bo e)
 ·show(ll.sz.map λq=>p.ci.getD q.2 0).Nodup;have key:∀l:List (Str×Nat),(∀q∈l,q∈ll.sz)->(l.map (·.2)).Nodup->(l.map λq=>p.ci.getD q.2 0).Nodup:=by
   intro l;induction l with
   |nil=>intro _ _;exact kK
   |cons a l ih=>intro hs hn;rw[bw,fE]at hn⊢;refine⟨λhm=> ?_,ih (λq hq=>hs q (aK _ hq)) hn.2⟩;let ⟨b,hb,e⟩:=aQ.mp hm;let ⟨n1,a1,a2,_⟩:=sJ a (hs a ay);let ⟨n2,b1,b2,_⟩:=sJ b (hs b (aK _ hb));rw[a2,b2]at e;subst e;let ⟨x1,y1⟩:=eO.mp a1;let ⟨x2,y2⟩:=eO.mp b1;have:=(Aq bc.WZ).mp (y1.trans y2.symm);exact hn.1 (this▸aQ.mpr ⟨b,hb,rfl⟩)
  exact key _ (λq hq=>hq) h.ndC
def ye (ll:kh) (f:EF) (st:St) (d:PV):Option Int:=(f (ll.st st d)).bind CV.aI
def kh.Ok.key (h:ll.Ok lay) (hf:cJ S k ll.L body f) (gu:∀(fd:FuncData) (v:Value),fd.params=params->fd.defaults= .none->fd.kwdefaults= .none->bindArgs fd ⟨[v],[]⟩=pure [(ll.name,v)])
  {st:St} (bc:At lay p st pF):su S (k+1) pF (.tA params body ll.scope (ll.sz.map λq=>(q.1,p.ci.getD q.2 0))) (ye ll f st):=by
 intro O jM d i hd;refine a9 hd λw J5 ew=> ?_;rw[CV.kI ew]at J5;have wh: ↑pF<= ↑O:=by
  rcases bS ↑O ↑pF with h|h
  ·have:=jM ↑O h;rw[bC (ab _),aq h]at this;nomatch this
  ·exact h
 have Sv:=h.at bc jM wh d;have he:=hf _ _ _ _ Sv J5;have Sq:(ll.L).en (ll.Lf p ↑O)= {scope:=ll.scope,fi:= ↑O,cells:=ll.sz.map λq=>(q.1,p.ci.getD q.2 0)}:=by
  unfold Lay.en kh.L kh.Lf;refine iv.eq ?_;clear J5 hf gu Sv he h;induction ll.sz with
  |nil=>rfl
  |cons a l ih=>simpa using ih
 rw[Sq]at he;refine dy.tA (names:=[ll.name]) rfl (by simp) (λfd vs h1 h2 h3 hv=> ?_) h.cell (by intro x hx;rw[aC]at hx;subst hx;exact h.loc) h.kind h.co h.gen (λq hq=> ?_) he
 ·exact S3 (P:=λvs=>bindArgs fd ⟨vs,[]⟩=pure ([ll.name].zip vs)) (λv=>gu fd v h1 h2 h3) vs hv
 ·let ⟨q',S7,e⟩:=aQ.mp hq;subst e;have hl:=h.PC q' S7;rw[<- bc.Fu]at hl;have h1:=aq hl;show p.ci.getD q'.2 0< ↑O;rw[zV h1];have FY:q'.2< ↑st.cv:=by rw[bc.xO,<- bc.Fu];exact hl
  let ⟨m,hm,hc⟩:=bc.cells q'.2 _ (aq FY);rw[h1]at hm;obtain rfl:=ag hm;exact a8 (getElem?_lt' hc) wh
end
def kh.Gv {ll:kh} (h:decide (j9 (lay.nq.zip (cK ↑lay.nq)) ll.scope.names []=aa ll.sz/\ll.scope.kind= .function/\ll.scope.isCoroutine=false/\ll.scope.isGenerator=false/\(∀x∈ll.scope.names,x.2≠ .cell)/\ll.scope.names.lookup ll.name=aa .local/\(ll.sz.map (·.2)).Nodup)=true):ll.Ok lay:=
 xe07 (of_decide_eq_true h) .mk
section
variable {lay:Lay}
def qF (right:Bool) (f1 fx:EF) (st:St):Option CV:=
 (f1 st).bind λa=>((fx st).bind CV.aI).bind λx=>(st.oz a).bind λl=>(jQ l).bind λns=>if ↑ns<1000 then ~~~(.int (mB right ns x 0 ac)) else ac
def cJ.X9 (right:Bool) (hk:1<=k) (h:lay.mh f=true) (hg:(f,aa (.ref (I0 right).addr))∈cf) (h1:cJ S k lay e1 f1) (h2:cJ S k lay e2 fx) (n1:notStar e1=true) (n2:notStar e2=true):
  cJ S k lay (.Call (.Name f np) [e1,e2] [] pos) (qF right f1 fx):=by
 intro p O st v bc hf;refine a9 hf λa ha hf=>a9 hf λx hx hf=>a9 hx λ_ hx e=>a9 hf λl hl hf=>a9 hf λns hn hf=> ?_;rw[CV.kI e]at hx;let ⟨hsz,rfl⟩:=dT hf;have hL:=bc.oz hl;rw[vJ hn]at hL;obtain⟨k',rfl⟩:∃k',k=k'+1:=⟨k- 1,by exact abJ hk⟩;exact Ev.md (Lj right).mem (Ev.Gi h hg) (.cons (h1 p O st _ bc ha) (.cons (h2 p O st _ bc hx) .nil n2) n1) .nil (dy.X9 (k:=k') right (lo:=0) (hi:=ac) hL (VZ hsz) (cI _) (λ_ h=>by nomatch h) .two)
noncomputable def keysOf (g:PV->Option Int):List PV->Option (List Int)
 | []=>aa []
 |d::l=>(g d).bind λi=>(keysOf g l).map (i:: ·)
def tB:keysOf g (d::l)=(g d).bind λi=>(keysOf g l).map (i:: ·):=rfl
def A6 {l:List PV}:∀ {ns:List Int},keysOf g l=aa ns-> ↑ns= ↑l/\∀(j:Nat) (z:PV),l[j]? =aa z->g z=aa (ns.getD j 0):=by
 induction l with
 |nil=>intro ns h;obtain rfl:=ag h;exact⟨rfl,λj z h=>by simp at h⟩
 |cons d l ih=>
  intro ns h;rw[tB]at h;simp only[aG,ar]at h;left;let ⟨i,hi,ns',hn,rfl⟩:=h;let ⟨h1,h2⟩:=ih hn;right;refine⟨by simp[h1],λj z hz=> ?_⟩;induction j with
  |zero=>obtain rfl:=ag hz;simpa using hi
  |succ j=>simpa using h2 j z (by simpa using hz)
structure A7 (S:cz) (k:Nat) (lay:Lay) (e:Expr) (ll:kh) (f:EF):Prop where
 run:∀p O st,At lay p st O->∃key,qo key/\Ev S k O (lay.en p) e key O/\su S (k+1) O key (ye ll f st)
def A7.mk' (nc:ll.Ok lay) (Zt:scope=ll.scope) (hq:q∈cm) (n9:lay.code=aa q.1) (Su:∀env,defaultsOf params env=([],[]))
  (gu:∀(fd:FuncData) (v:Value),fd.params=params->fd.defaults= .none->fd.kwdefaults= .none->bindArgs fd ⟨[v],[]⟩=pure [(ll.name,v)]) (hf:cJ S k ll.L body f) (RZ:q.1≠324:=by decide):A7 S k lay (.Lambda params body scope pos) ll f:=by
 subst Zt;exact⟨λp O st bc=>⟨_,.mk,Ev.EL hq n9 (λ_ e=>absurd e RZ) Su (nc.cells bc.Fu),nc.key hf gu bc⟩⟩
def A8 (right:Bool) (ll:kh) (f1 fx:EF) (f:EF) (st:St):Option CV:=
 (f1 st).bind λa=>((fx st).bind CV.aI).bind λx=>(st.oz a).bind λl=>(keysOf (ye ll f st) l).bind λns=>if ↑ns<1000 then ~~~(.int (mB right ns x 0 ac)) else ac
def Ev.PR (h:Ev S k O ae e d O) (hk:k<=k'):o9 S k' O ae [⟨aa x,e,p⟩] [(x,d)]:= .cons (h.AI hk) .nil
def cJ.PO (right:Bool) (hk:kl+2<=k) (h:lay.mh f=true) (hg:(f,aa (.ref (I0 right).addr))∈cf) (h1:cJ S k lay e1 f1) (h2:cJ S k lay e2 fx) (h3:A7 S kl lay lam ll fl) (n1:notStar e1=true) (n2:notStar e2=true):
  cJ S k lay (.Call (.Name f np) [e1,e2] [⟨aa gq,lam,kp⟩] pos) (A8 right ll f1 fx fl):=by
 intro p O st v bc hf;refine a9 hf λa ha hf=>a9 hf λx hx hf=>a9 hx λ_ hx e=>a9 hf λl hl hf=>a9 hf λns hn hf=> ?_;rw[CV.kI e]at hx;let ⟨hsz,rfl⟩:=dT hf;left;let ⟨cH,tZ⟩:=A6 hn;let ⟨key,hc,he,hko⟩:=h3.run p O st bc;right;exact Ev.md (Lj right).mem (Ev.Gi h hg) (.cons (h1 p O st _ bc ha) (.cons (h2 p O st _ bc hx) .nil n2) n1) (he.PR (abK hk)) ((dy.PO right (lo:=0) (hi:=ac) hc hko (bc.oz hl) tZ cH (VZ hsz) (cI _) (λ_ h=>by nomatch h) .two).AI hk)
def zA (right:Bool) (fo fx:EF) (st:St):Option (pn×St):=
 ((fo st).bind CV.aO).bind λj=>((fx st).bind CV.aI).bind λx=>(SY st.ob[j]?).bind λl=>(jQ l).bind λns=>if ↑ns<1000 then aa (.next,qT j (.list (vi right ns x (.int x) l)) st) else ac
def ms.ins (right:Bool) (hk:2<=k) (h:lay.mh f=true) (hg:(f,aa (.ref (PN right).addr))∈cf) (h1:cJ S k lay e1 fo) (h2:cJ S k lay e2 fx) (n1:notStar e1=true) (n2:notStar e2=true)
  (hs:swapsWith (.Call (.Name f np) [e1,e2] [] pos) ac FC.line=λ_=>pure false):ms S k lay (.Expr (.Call (.Name f np) [e1,e2] [] pos) FC) (zA right fo fx):=by
 intro p O st fl cg bc hf;refine a9 hf λj hj hf=>a9 hj λ_ hj e1=>a9 hf λx hx hf=>a9 hx λ_ hx e2=>a9 hf λl hl hf=>a9 hf λns hn hf=> ?_;rw[CV.kO e1]at hj;rw[CV.kI e2]at hx;replace hl:=um hl;let ⟨hsz,hf⟩:=dT hf;let ⟨rfl,rfl⟩:=bB hf;let ⟨b,c⟩:=bc.AY hl (.list (vi right ns x (.int x) l));have Fz:=bc.obs j _ hl;have hl':=vJ hn;rw[hl']at Fz;obtain⟨k',rfl⟩:∃k',k=k'+2:=⟨k- 2,by exact abL hk⟩;refine⟨_,i6.expr (d:= .pv PV.none) (Ev.md (Lk right).mem (Ev.Gi h hg) (.cons (h1 p O st _ bc hj) (.cons (h2 p O st _ bc hx) .nil n2) n1) .nil ?_) hs,b,c⟩;have:=dy.ins (S:=S) (k:=k') right (x:=x) Fz (KC hsz);rw[<- hl']at this;exact this
def A9 (right:Bool) (ll:kh) (fo fx fl:EF) (st:St):Option (pn×St):=
 ((fo st).bind CV.aO).bind λj=>((fx st).bind CV.aP).bind λy=>(SY st.ob[j]?).bind λl=>(keysOf (ye ll fl st) l).bind λns=>(ye ll fl st y).bind λx=>if ↑ns<1000 then aa (.next,qT j (.list (vi right ns x y l)) st) else ac
def ms.Yb (right:Bool) (hk:kl+3<=k) (h:lay.mh f=true) (hg:(f,aa (.ref (PN right).addr))∈cf) (h1:cJ S k lay e1 fo) (h2:cJ S k lay e2 fx) (h3:A7 S kl lay lam ll fl) (n1:notStar e1=true) (n2:notStar e2=true)
  (hs:swapsWith (.Call (.Name f np) [e1,e2] [⟨aa gq,lam,kp⟩] pos) ac FC.line=λ_=>pure false):ms S k lay (.Expr (.Call (.Name f np) [e1,e2] [⟨aa gq,lam,kp⟩] pos) FC) (A9 right ll fo fx fl):=by
 intro p O st fl' cg bc hf;refine a9 hf λj hj hf=>a9 hj λ_ hj e1=>a9 hf λy hy hf=>a9 hy λ_ hy e2=>a9 hf λl hl hf=>a9 hf λns hn hf=>a9 hf λx hx hf=> ?_;rw[CV.kO e1]at hj;rw[CV.kP e2]at hy;replace hl:=um hl;let ⟨hsz,hf⟩:=dT hf;let ⟨rfl,rfl⟩:=bB hf;left;let ⟨b,c⟩:=bc.AY hl (.list (vi right ns x y l));let ⟨cH,tZ⟩:=A6 hn;let ⟨key,hc,he,hko⟩:=h3.run p O st bc;right;exact⟨_,i6.expr (Ev.md (Lk right).mem (Ev.Gi h hg) (.cons (h1 p O st _ bc hj) (.cons (h2 p O st _ bc hy) .nil n2) n1) (he.PR (abM hk)) ((dy.Yb right hc hko (bc.obs j _ hl) tZ cH (KC hsz) hx).AI hk)) hs,b,c⟩
end
section
variable {lay:Lay}
def zB (f:EF) (st:St):Option (List PV):=((f st).bind CV.aS).bind λx=>if x.cps.all (· <128)=true then aa ((iX 0 false x.cps.toList).map lR) else ac
def yT.esc (h:lay.mh f=true) (hg:(f,aa (.ref rE.addr))∈cf) (he:cJ S k lay e g) (hs:notStar e=true):yT S k lay (.Call (.Name f np) [e] [] pos) (zB g):=by intro p O st xs bc hf;refine a9 hf λx hx hf=>a9 hx λ_ hx e=> ?_;rw[CV.kS e]at hx;let ⟨ha,rfl⟩:=dT hf;exact lb.esc (Ev.Gi h hg) (he p O st _ bc hx) hs ha trivial
end
structure I3 (S:cz) (k:Nat) (O:List AO) (ae:iv) (Vi:List Stmt) (ds:List AV) (bv:List AO):Prop where
 len: ↑O<= ↑bv
 run:∀A c s env,jF k A->cY c ↑O ae env->Rel S c O s.heap->∀(E:VS) (Q:B8->bb->Prop),
  (∀c' a vs s',aM.le ↑O c c'->Rel S c' bv s'.heap->dZ s s'->c'.F a=aa {cls:= .type "tuple",data:= .seq vs}->dg S.w c' ↑bv vs.toList ds->Q (.ret (.ref a)) s')->wpAny (MM S.w) A (execs Vi env) Q E s
def I3.cons (h1:i6 S k O ae st .next bA) (h2:I3 S k bA ae rest ds bP):I3 S k O ae (st::rest) ds bP:=
 ⟨aA h1.len h2.len,λA c s env hA hE R E Q hQ=>da (h1.run A c s env hA hE R _ _ λc1 v1 s1 l1 R1 K1 f1=>by
  obtain rfl:=f1.wz;exact h2.run A c1 s1 env hA (hE.mono l1 h1.len) R1 E Q λc2 a vs s2 l2 R2 K2 hF a2=>hQ c2 a vs s2 (l1.trans l2 h1.len) R2 (K1.trans K2) hF a2)⟩
def I3.ret (h:vI S k ae O es ds bv) (hsz: ↑es<=1000):I3 S k O ae [.Return (aa (.Tuple es n ua)) pos] ds bv:=
 ⟨h.len,λA c s env hA hE R E Q hQ=>da (wpAny_Return_some (h.tuple hsz A c s env hA hE R _ _ λc' a vs s' l1 R1 K1 hF a1=>hQ c' a vs s' l1 R1 K1 hF a1))⟩
section
variable {lay:Lay}
def I4 (S:cz) (k:Nat) (lay:Lay) (ss:List Stmt) (F:St->Option (List CV×St)):Prop:=
 ∀p O st vs cg,At lay p st O->F st=aa (vs,cg)->∃bv,I3 S k O (lay.en p) ss (vs.map (CV.av p.oi)) bv/\At lay p cg bv/\ku lay p st cg O bv
noncomputable def nxt:Option (pn×St)->Option St
 |some (.next,st1)=>aa st1
 |some (.ret _,_)=>ac
 |none=>ac
def Lm (h:nxt o=aa st):o=aa (.next,st):=by
 induction o with
 |none=>exact gr h
 |some q=>
  let ⟨f,s⟩:=q;induction f with
  |next=>obtain rfl:=ag h;rfl
  |ret=>exact gr h
def yf (f:SF) (g:St->Option (List CV×St)) (st:St):Option (List CV×St):=(nxt (f st)).bind g
def I4.cons (h1:ms S k lay s f) (h2:I4 S k lay ss g):I4 S k lay (s::ss) (yf f g):=by intro p O st vs cg bc hf;refine a9 hf λst1 e hf=> ?_;let ⟨lK,a1,b1,c1⟩:=h1 p O st _ st1 bc (Lm e);let ⟨uV,a2,b2,c2⟩:=h2 p lK st1 _ cg b1 hf;exact⟨uV,.cons a1 a2,b2,c1.trans c2 bc⟩
def I4.ret (h:Gz S k lay es g) (hsz: ↑es<=1000):I4 S k lay [.Return (aa (.Tuple es n ua)) pos] g:=by intro p O st vs cg bc hf;let ⟨bv,a,b,c⟩:=h p O st vs cg bc hf;exact⟨bv,.ret a hsz,b,c⟩
end
def dy.afs (F:pW r loc own)
  (gu:∀pm,jG S O (r.fd pm) args kw binds)
  (ru:jD S (gB r ↑O) (ent O r loc) binds bA)
  (dY:I3 S k bA (gB r ↑O) r.body (d0::rest.map AV.pv) (O++τ)) (hz:Ge τ ↑O d0 (.pv e0)):
  dy S (k+1) O (.pv (.con (.ref r.addr))) args kw (.pv (.tup (e0::rest))) O:=by
 refine⟨ab _,?_⟩;intro A c s fv vs kvs hA R hf ha hk HR E Q hQ;refine wK F (λpm=>(gu pm).B) ru hA R hf ha hk HR λc3 s3 env l3 hE R3 K3 _ _=> ?_;refine dY.run _ c3 s3 env hA.deeper hE R3 _ _ λc4 a vs s4 l4 R4 K4 hFa a4=> ?_;generalize Zw:vs.toList=vl at a4;let ⟨v0,vr,rfl,h0,hr⟩:=a4.i1;left;let ⟨c5,l5,R5,hv5,_⟩:=Ge.run R R4 rfl (λi x h=> .inl h) hz h0;right;refine hQ c5 _ s4 ((l3.trans l4 ru.X3).trans l5 (ab _)) R5 (K3.trans K4) (.pv (.tup (l5.F _ _ hFa) ?_ λi v d hv hd=> ?_))
 ·rw[<- bx,Zw,az,az,↑hr,aw]
 ·rw[<- fS,Zw]at hv;cases i with
  |zero=>obtain rfl:=ag hv;obtain rfl:=ag hd;exact hv5.gh
  |succ i=>exact((dg.WI hr).2 i v d (by simpa using hv) (by simpa using hd)).mono l5.F
def aft (st:St):List CV->Option PV
 | .ob j::rest=>(obV st.ob[j]?).bind λd=>(Mx rest).map λds=> .tup (d::ds)
 |_=>ac
def GL (loc:List Str) (own:Sn) (tg:List CV->St->Option St) (F:St->Option (List CV×St)) (ds:List PV):Option PV:=
 (tg (ds.map .pv) (A0 loc own)).bind λst=>(F st).bind λr=>aft r.2 r.1
def hV.Yc (F:pW r loc own) (Vq:kg S (eW r loc own) names tg) (dY:I4 S k (eW r loc own) r.body G)
  (gu:∀pm (vs:Vs),↑vs= ↑names->bindArgs (r.fd pm) ⟨vs,[]⟩=pure (names.zip vs)):hV S (k+1) r (GL loc own tg G):=by
 intro O ds d hd;refine a9 hd λst1 Zx hd=> ?_;refine a9 hd λ⟨fl,cg⟩ hF FF=> ?_;let ⟨lK,a1,l1,b1,c1,_⟩:=Vq _ _ _ _ st1 F.at0 Zx;let ⟨bv,a,b,c⟩:=dY _ _ _ fl cg b1 hF;let ⟨τ,rfl⟩:=rO λi hi=>(c1.trans c F.at0).pre hi λj hj=>absurd hj (iy _);rw[F.en]at a a1;rw[IV]at a1;cases fl with
 |nil=>exact gr FF
 |cons v rest=>cases v with
  |ob j=>refine a9 FF λe0 h0 FF=> ?_;let ⟨ds',hp,rfl⟩:=ar.mp FF;rw[bw,wD hp]at a;exact dy.afs F (jG.of l1 gu) a1 a (.ob0 h0 b)
  |_=>exact gr FF
def fa0 {P:α->Prop}:∀g∈([]:List α),P g:=λg h=>by cases h
def Z5 {P:α->Prop} (h:P a):∀g∈[a],P g:=λg hg=>by rw[aC]at hg;subst hg;exact h
def fa2 {P:α->Prop} (h:P a) (h':P b):∀g∈[a,b],P g:=λg hg=>by
 rcases aH.mp hg with e|hg
 ·subst e;exact h
 ·rw[aC]at hg;subst hg;exact h'
set_option maxHeartbeats 4000000
local macro_rules | `(tactic| walk_at "sd") => do
  let w ← `(tactic| walk_at "sd")
  let a := #[← wk w "cJ; X9; Ew ajc; Ew Uc; Ew Ue; Ew Ug; Ew Uh; Ew Ua; Ew Ub" #[← `(tactic| (refine cJ.PO (kl := 0) _ ?_ ?_ ?_ ?_ ?_ ?_ ?_ ?_ <;> $w))], ← wk w "yT; esc", ← wk w "ms; ins" #[← `(tactic| (refine ms.Yb (kl := 0) _ ?_ ?_ ?_ ?_ ?_ ?_ ?_ ?_ ?_ <;> $w))], ← wk w "I4; cons; ret"]
  `(tactic| first
  $[| $a:tactic]*
  | ((with_reducible refine (?_ : A7 ..)); first | (refine A7.mk' (q := (317, 313)) (kh.Gv tt) ?_ (by decide) rfl ?_ (fun fd v h1 h2 h3 => by unfold bindArgs; rw [h1, h2, h3]; rfl) ?_ <;> $w) | (refine A7.mk' (q := (329, 327)) (kh.Gv tt) ?_ (by decide) rfl ?_ (fun fd v h1 h2 h3 => by unfold bindArgs; rw [h1, h2, h3]; rfl) ?_ <;> $w))
  | exact fO.Gv tt
  | exact fa0
  | exact Z5 (fun _ _ => rfl)
  | exact Z5 rfl
  | exact fa2 (fun _ _ => rfl) (fun _ _ => rfl)
  | exact wJ
  | (apply zW <;> $w))
def oF:Lay:=(nK gY ["addr"] ["start", "open_pos", "result", "pos", "ch"])
def gL:SF:=(aB (jA (bY .NotIn ↥"\"" (ak 0)) (aB (i7 (ak 0)) br) br) (aB (bZ ⇑0 (bf 1)) (aB (bZ (jb PV.none) (bf 2)) (aB (Cx (.list []) (bf 3)) (aB (mK (zB (ak 0)) (pV (eT (bf 4) (eT (bf 5) pU))) (aB (jA (bY .Eq (ak 5) ↥"\"") (aB (jA (bY .Is (ak 2) (jb PV.none)) (aB (bZ (ak 4) (bf 2)) br) (aB (jA (bY .NotEq (ak 1) (ak 2)) (aB (oA gZ (ak 3) (au (fN (ak 0) (gV (ak 1)) (gV (ak 2)) eD) aZ)) br) br) (aB (bZ (ba .Add (ak 4) ⇑1) (bf 1)) (aB (bZ (jb PV.none) (bf 2)) br)))) br) br) br)) (aB (jA (bY .Lt (ak 1) (dJ kr (au (ak 0) aZ))) (aB (oA gZ (ak 3) (au (fN (ak 0) (gV (ak 1)) eD eD) aZ)) br) br) (aB (i7 (eQ "str" AQ ↥"" (au (ak 3) aZ))) br)))))))
def dW:List PV->Option PV:=mL ["addr"] ["start", "open_pos", "result", "pos", "ch"] gL
def pX:j3 S 0 oF gY.body gL:=by walk_at "sd"
def pY:hV S 1 gY dW:=hV.plain (.of 12 rfl rfl tt) pX (λpm=>S3 λ_=>rfl) tt
local macro_rules | `(tactic| walk_at "sd") => `(tactic| ((with_reducible refine (?_ : cJ ..)); (refine cJ.Ew pY ?_ ?_ ?_ ?_ ?_ <;> walk_at "sd")))
def rQ:Lay:=(nK jp ["addr"] ["opens", "pos", "ch"])
def i9:SF:=(aB (bZ (kb dW (au (ak 0) aZ)) (bf 0)) (aB (bZ ⇑0 (bf 1)) (aB (mK (zB (ak 0)) (pV (eT (bf 2) (eT (bf 3) pU))) (aB (jA (bY .Eq (ak 3) ↥"(") (aB (IT .Add 1 ⇑1) br) (aB (jA (bY .Eq (ak 3) ↥")") (aB (IT .Sub 1 ⇑1) (aB (jA (bY .Lt (ak 1) ⇑0) (aB (i7 (jb (PV.bool false))) br) br) br)) br) br)) br)) (aB (i7 (qD (bY .Eq (ak 1) ⇑0))) br))))
def cZ:List PV->Option PV:=mL ["addr"] ["opens", "pos", "ch"] i9
def tC:j3 S 1 rQ jp.body i9:=by walk_at "sd"
def tD:hV S 2 jp cZ:=hV.plain (.of 13 rfl rfl tt) tC (λpm=>S3 λ_=>rfl) tt
local macro_rules | `(tactic| walk_at "sd") => `(tactic| ((with_reducible refine (?_ : cJ ..)); (refine cJ.Ew tD ?_ ?_ ?_ ?_ ?_ <;> walk_at "sd")))
def pZ:Lay:=(nK iu ["email_header_fields"] ["accepted_values", "v"])
def hX:SF:=(aB (Cx (.list []) (bf 1)) (aB (mK (jy (ak 0)) (bf 2) (aB (jA (x9 (mw (kb cZ (au (ak 2) aZ)))) (aB (bZ ↥"('', '')" (bf 2)) br) br) (aB (oA gZ (ak 1) (au (ak 2) aZ)) br))) (aB (i7 (ak 1)) br)))
def hZ:List PV->Option PV:=mL ["email_header_fields"] ["accepted_values", "v"] hX
def qX:j3 S 2 pZ iu.body hX:=by walk_at "sd"
def Dm:hV S 3 iu hZ:=hV.plain (.of 14 rfl rfl tt) qX (λpm=>S3 λ_=>rfl) tt
def zC:Lay:=(nK ow ["counts"] ["row", "count"])
def lg:SF:=(aB (Cx (.list []) (bf 1)) (aB (mK (jy (ak 0)) (bf 2) (aB (jA (bY .Eq (qF false (ak 1) (ak 2)) (qF true (ak 1) (ak 2))) (aB (zA false (ak 1) (ak 2)) br) br) br)) (aB (i7 (ak 1)) br)))
def lh:List PV->Option PV:=mL ["counts"] ["row", "count"] lg
def Cz:j3 S 2 zC ow.body lg:=by walk_at "sd"
def S4:hV S 3 ow lh:=hV.plain (.of 16 rfl rfl tt) Cz (λpm=>S3 λ_=>rfl) tt
def CA:Lay:=(eW rF ["r", "g", "b", "hue", "spread", "value", "tint", "light", "depth", "luma", "warm", "pink", "right", "back", "far"] [("due",0)])
def Ba:fO:=lQ [([46,48],.local),([112,97,114,116],.local),([114,111,117,110,100],.globalImplicit)] ["part"] [] []
def Bb:fO:=lQ [([46,48],.local),([112,97,114,116],.local),([109,105,110],.globalImplicit),([109,97,120],.globalImplicit),([100,117,101],.free)] ["part"] [] [("due",0)]
def Bc:fO:=lQ [([46,48],.local),([112,97,114,116],.local),([114,111,117,110,100],.globalImplicit)] ["part"] [] []
def yX:SF:=(aB (bZ (kb wZ (au (ba .Div (ak 0) ⇑8) (au (ba .Div (ak 1) ⇑8) (au (ba .Div (ak 2) ⇑8) aZ)))) (pV (eT (bf 3) (eT (bf 4) (eT (bf 5) pU))))) (aB (bZ (kb i8 (au (ba .Div (ak 0) ⇑8) (au (ba .Div (ak 1) ⇑8) (au (ba .Div (ak 2) ⇑8) aZ)))) (pV (eT (bf 6) (eT (bf 7) (eT (bf 8) pU))))) (aB (bZ (kb wR (au (ba .Div (ak 0) ⇑8) (au (ba .Div (ak 1) ⇑8) (au (ba .Div (ak 2) ⇑8) aZ)))) (pV (eT (bf 9) (eT (bf 10) (eT (bf 11) pU))))) (aB (bZ (j8 (au (ba .Add (ba .Add (ba .Mult ⇑30 (ak 0)) (ba .Mult ⇑59 (ak 1))) (ba .Mult ⇑11 (ak 2))) (au (ba .Sub (ba .Sub (ba .Mult ⇑5990 (ak 0)) (ba .Mult ⇑2773 (ak 1))) (ba .Mult ⇑3217 (ak 2))) (au (ba .Add (ba .Sub (ba .Mult ⇑2130 (ak 0)) (ba .Mult ⇑5251 (ak 1))) (ba .Mult ⇑3121 (ak 2))) aZ)))) (jL 0)) (aB (bZ (qD (bY .Eq (j8 (au (dJ rK (au (ba .Mult (ak 9) ⇑800) aZ)) (au (dJ rK (au (ba .Mult (ak 10) ⇑80000) aZ)) (au (dJ rK (au (ba .Mult (ak 11) ⇑80000) aZ)) aZ)))) (aX 0))) (bf 12)) (aB (mK (jy (jd (au (kb iw (au (ak 3) (au (ak 4) (au (ak 5) aZ)))) (au (kb wX (au (ak 6) (au (ak 7) (au (ak 8) aZ)))) (au (kb rP (au (ak 9) (au (ak 10) (au (ak 11) aZ)))) aZ))))) (bf 13) (aB (bZ (qD (wC (mw (ak 12)) (mw (qD (bY .Eq (ei Ba (jy (ak 13)) (dN (bf 0) fG (gO (dJ rK (au (ba .Mult (ak 0) ⇑8000) aZ))))) (j8 (au (ba .Mult ⇑1000 (ak 0)) (au (ba .Mult ⇑1000 (ak 1)) (au (ba .Mult ⇑1000 (ak 2)) aZ))))))))) (bf 12)) br)) (aB (bZ (ei Bb (jy (jd (au (ak 0) (au (ak 1) (au (ak 2) aZ))))) (dN (bf 0) fG (gO (ba .Mult ⇑10 (dJ MB (au ⇑800 (au (dJ Ep (au ⇑0 (au (ba .Sub (ba .Mult ⇑300 (ak 0)) (ba .Mult ⇑2 (bk (aX 0) ⇑0))) aZ))) aZ))))))) (bf 14)) (aB (bZ (qD (wC (mw (ak 12)) (mw (qD (bY .Eq (ei Bc (jy (kb rP (au (ak 9) (au (ba .Mult (ak 10) ⇑3) (au (ba .Mult (ak 11) ⇑3) aZ))))) (dN (bf 0) fG (gO (dJ rK (au (ba .Mult (ak 0) ⇑8000) aZ))))) (ak 14)))))) (bf 12)) (aB (i7 (jd (au (ba .Sub (ba .Mult (ak 7) ⇑16) (ba .Mult (ak 5) ⇑8)) (au (ba .Mult (ak 5) ⇑8) (au (ak 12) aZ))))) br)))))))))
def nv:List PV->Option PV:=EC ["r", "g", "b", "hue", "spread", "value", "tint", "light", "depth", "luma", "warm", "pink", "right", "back", "far"] [("due",0)] (fB (bf 0) (fB (bf 1) (fB (bf 2) qU))) yX
def GN:j3 S 2 CA rF.body yX:=by walk_at "sd"
def WQ:hV S 3 rF nv:=hV.cells (.of 15 rfl rfl tt) (names:=["r", "g", "b"]) (.loc tt (.loc tt (.loc tt .nil))) GN λpm=>WN λ_ _ _=>rfl
def CB:Lay:=(eW rG ["text", "number", "lit", "hues", "depth", "deep", "first", "place", "sign", "free", "r", "g", "b"] [("used",0)])
def g6:kh:=⟨fsc [([106],.local),([117,115,101,100],.free)], "j",[("used",0)]⟩
def nx:St->Option (List CV×St):=(yf (GA (ji (Ez (.list [])) (ji (Ez (.dict [])) (ji (Ez (.dict [])) (ji (lc ⇑0) (ji (lc ⇑0) (ji (lc ↥"") EA)))))) (fB (jL 0) (fB (bf 2) (fB (bf 3) (fB (bf 4) (fB (bf 5) (fB (bf 6) qU))))))) (yf (mK (zB (kb dW (au (ak 0) aZ))) (pV (eT (bf 7) (eT (bf 8) pU))) (aB (jA (bY .In (ak 8) (jd (au ↥"(" (au ↥")" aZ)))) (aB (IT .Add 4 (KZ (bY .Eq (ak 8) ↥"(") ⇑1 (wL ⇑1))) br) (aB (jA (bY .In (ak 8) ↥"abcdef") (aB (bZ (A8 false g6 (lA (dJ kr (au (aX 0) aZ))) ⇑1 (KZ (bY .Gt (bk (aX 0) (ak 0)) (ak 0)) ⇑1 ⇑0)) (bf 9)) (aB (zA true (aX 0) (ak 9)) (aB (Ex (kb iw (au (ba .Div (ak 9) ⇑8) (au (ba .Div (ba .Add ⇑1 (ba .Mod (ak 1) ⇑4)) ⇑4) (au (ba .Div (ba .Add ⇑1 (ba .Mod (ba .FloorDiv (ak 1) ⇑4) ⇑8)) ⇑8) aZ)))) (ak 2) (ak 8)) (aB (jA (bY .Gt (ak 4) (ak 5)) (aB (PH 5 6 (ji (lc (ak 4)) (ji (lc (ak 8)) EA))) br) br) br)))) (aB (jA (bY .In (ak 8) ↥"ABCDEF") (aB (bZ (bk (ak 2) (eQ "str" kR (ak 8) aZ)) (pV (eT (bf 10) (eT (bf 11) (eT (bf 12) pU))))) (aB (Ex (ba .Mod (dJ rK (au (ba .Mult (bk (kb i8 (au (ak 10) (au (ak 11) (au (ak 12) aZ)))) ⇑0) ⇑8) aZ)) ⇑8) (ak 3) (eQ "str" kR (ak 8) aZ)) (aB (oA X2 (aX 0) (au (qF false (aX 0) (bk (ak 3) (eQ "str" kR (ak 8) aZ))) aZ)) br))) br) br)) br)) br)) (ji (lc (ak 3)) (ji (lc (ak 5)) (ji (lc (ak 6)) EA)))))
def tE:List PV->Option PV:=GL ["text", "number", "lit", "hues", "depth", "deep", "first", "place", "sign", "free", "r", "g", "b"] [("used",0)] (fB (bf 0) (fB (bf 1) qU)) nx
def GO:I4 S 2 CB rG.body nx:=by walk_at "sd"
def WR:hV S 3 rG tE:=hV.Yc (.of 17 rfl rfl tt) (names:=["text", "number"]) (.loc tt (.loc tt .nil)) GO λpm=>bd2 λ_ _=>rfl
set_option maxHeartbeats 200000
def vL:PlainAttrs "re.Pattern" :=
 ⟨⟨"object.__getattribute__",by rw[g5,eA];rfl,rfl⟩,by rw[g5,eA];rfl⟩
def yY:Slot "re.Pattern" "search" "re.Pattern.search" :=
 .of (owner:= "re.Pattern") (n:= "search") (by rw[g5,eA];rfl) (by decide+kernel) (by decide+kernel) (by decide+kernel)
  (by first|exact .inl (by decide+kernel)|exact .inr (by decide+kernel)) (by rw[yD];rfl)
def GP:typeOf (.builtin "re.Pattern.search")=pure (.type "method_descriptor"):=by show builtinType _=_;rw[builtinType_eq_fast];rfl
def EM:entryFor table "re.Pattern.search" =aa Builtin.«re.Pattern.search»:=entryFor_of_tree so
def GQ (a b:Value):argsOk "re.Pattern.search" ⟨[a,b],[]⟩:=by unfold argsOk;rfl
noncomputable def w2:Nat->Sre.M->Option Sre.M
 |0,_=>ac
 |n+1,m=>if (m.runFor gw).outcome.isSome then aa (m.runFor gw) else w2 n (m.runFor gw)
def CC (j:Nat):∀(n:Nat) (m m':Sre.M),j<=n->w2 j m=aa m'->Q m' s->wpAny M A (F4 n m) Q E s:=by
 induction j with
 |zero=>exact λ_ _ _ _ h _=>gr h
 |succ j ih=>
  intro n m m' hn h hq;induction n with
  |zero=>exact absurd hn (N8 _)
  |succ n=>
   have h:(if (m.runFor gw).outcome.isSome then aa (m.runFor gw) else w2 j (m.runFor gw))=aa m':=h;unfold F4;by_cases hs:(m.runFor gw).outcome.isSome
   ·rw[if_pos hs]at h;obtain rfl:=ag h;exact(if_pos hs)▸(aR hq)
   ·rw[if_neg hs]at h;show wpAny M A (if _ then _ else _) Q E s;rw[if_neg hs];exact am (Ki (ih n _ m' (mS hn) h hq))
def GR {f:Nat->PUnit->zK (ForInStep PUnit)} (p:Nat->Bool) (nm:Nat->String) (hf:∀i u,f i u=if p i=true then(do rule (nm i);pure (.yield ⟨⟩)) else pure (.yield ⟨⟩)) (hq:Q ⟨⟩ s) (l:Nz):
  wpAny M A (forIn l ⟨⟩ f) Q E s:=by
 induction l with
 |nil=>rw[qA];exact aR hq
 |cons i l ih=>
  rw[ug,hf];by_cases h:p i=true
  ·rw[if_pos h];exact am (am (Ki (aR ih)))
  ·rw[if_neg h];exact am (aR ih)
def yg (h:w2 1000 m=aa m') (h1:m'.outcome=aa .matched->Q (aa m') s) (h2:m'.outcome=aa .failed->Q ac s) (h3:m'.outcome=aa .matched\/m'.outcome=aa .failed):
  wpAny M A (CY m) Q E s:=by
 unfold CY;refine am (CC 1000 _ m m' ∅ h ?_);refine am (GR (λi=>m'.seen.has i) (λi=>Sre.names.getD i "") (λi u=>by by_cases h:m'.seen.has i=true<;>simp[h]) ?_ _);rcases h3 with(h|h)
 ·rw[h];exact aR (h1 h)
 ·rw[h];exact aR (h2 h)
def kU (code:Nz) (x:Str):Option Bool:=(w2 1000 (Sre.forSearch code.toArray x.cps 0 0 (min ((2 ^ 63- 1:Int).toNat) x.cps.size) false)).bind λm=>match m.outcome with
 |some .matched=>aa true
 |some .failed=>aa false
 |_=>ac
structure Ln (h:iS) (P:Addr) (code:Nz):Prop where
 at':∃o fs oc C items n,h.get? P=aa o/\o.cls= .type "re.Pattern" /\o.data= .fields fs/\o.dict=ac/\fs.getD 6 .none= .int 0 0/\fs.getD 2 .none= .int 0 0/\fs.getD 5 .none= .ref C/\
  h.get? C=aa oc/\oc.data= .seq items n/\((items.map iC).map nU).toList=code
def Rel.pat (R:Rel S c O h) (hp:p∈rH):Ln h p.1 p.2.2:=by left;let ⟨o,fs,oc,items,n,h1,h2,h3,h4,h5,h6,h7,h8,h9,Ir⟩:=S.pats p hp;right;exact⟨o,fs,oc,p.2.1,items,n,R.old h1 ((by decide:∀p∈rH,∀q∈cm,p.1≠q.2) p hp),h2,h3,h4,h5,h6,h7,R.old h8 ((by decide:∀p∈rH,∀q∈cm,p.2.1≠q.2) p hp),h9,Ir⟩
section
variable {w:jC} {A:cS} {E:VS} {s:bb} {P:Addr} {code:Nz} {x:Str} {t:CU}
def GS (h:Ln s.heap P code) (hq:Q {pattern:= .ref P,string:= .str x t,code:=code.toArray,text:=x.cps,kind:=0,groups:=0,pos:=0,lim:=min ((2 ^ 63- 1:Int).toNat) x.cps.size} s):
  wpAny (MM w) A (sP "re.Pattern.search" "search" ⟨[.ref P,.str x t],[]⟩) Q E s:=by
 left;let ⟨o,fs,oc,C,items,n,h1,h2,h3,h3',h4,h5,h6,h7,h8,h9⟩:=h.at';right;unfold sP;refine am (i5 (a:=[aa (.str x t),ac,ac]) (by with_unfolding_all rfl) ?_);dsimp only;refine am (aR (am (aR ?_)));refine am (wpAny_fieldsOf h1 h3 ?_);refine am (i5 (a:=(x.cps,0)) (by rfl) ?_);dsimp only;rw[h4,h5,h6];have n9:(items.map iC).map nU=code.toArray:=by rw[<- h9]
 rw[if_neg ∅,if_neg ∅];refine am (i5 (a:=()) (by rfl) ?_);refine am ?_;unfold Builtin.Re.reRawItems;refine am (wpAny_seqItems h7 h8 (aR (aR ?_)));show Q {pattern:= .ref P,string:= .str x t,code:=(items.map iC).map nU,text:=x.cps,kind:=0,groups:=0,pos:=min 0 x.cps.size,lim:=min ((2 ^ 63- 1:Int).toNat) x.cps.size} s;rw[n9,Nat.zero_min];exact hq
def GU (h:Ln s.heap P code) (hb:kU code x=aa b) (h0:b=false->Q .none s)
  (h1:b=true->∀(h':iS) (o:Obj),(∀a y,s.heap.get? a=aa y->h'.get? a=aa y)->h'.get? (s.heap.objs.size+1)=aa o->o.cls= .type "re.Match" ->o.dict=ac->Q (.ref (s.heap.objs.size+1)) {s with heap:=h'}):
  wpAny (MM w) A (call (.builtin "re.Pattern.search") [.ref P,.str x t]) Q E s:=by
 refine uY yY (by let ⟨o,_,_,_,_,_,h1,h2,_⟩:=h.at';exact⟨o,h1,h2⟩) EM ?_ (GQ _ _);show wpAny _ _ (do let t <- sP "re.Pattern.search" "search" _;FL t (Sre.forSearch t.code t.text t.groups t.pos t.lim false)) _ _ _;refine am (GS h ?_);unfold FL;unfold kU at hb;let ⟨m,hm,hb⟩:=aG.mp hb;have h3:m.outcome=aa .matched/\b=true\/m.outcome=aa .failed/\b=false:=by
  revert hb;induction m.outcome with
  |none=>intro e;cases e
  |some o=>cases o<;>intro e<;>cases e<;>simp
 refine am (yg hm (λe=> ?_) (λe=> ?_) (h3.imp And.left And.left))
 ·have Sl:b=true:=by
   rcases h3 with h|h
   ·exact h.2
   ·rw[h.1]at e;nomatch e
  unfold Builtin.Re.reNewMatch;simp only[List.range_zero,sE,List.any_nil,fw,if_false];refine am (am (wpAny_newTuple ?_));refine iH ?_ (by size_fits);refine aR ⟨_,rfl,?_⟩;rw[eU];refine h1 Sl _ {cls:= .type "re.Match",data:= .fields #[.str x t,.ref P,rawInt ((0:Nat):Int),rawInt ((min ((2 ^ 63- 1:Int).toNat) x.cps.size:Nat):Int),rawInt m.lastindex,.ref s.heap.objs.size]} (λa y e=>aJ _ (aJ _ e)) ?_ rfl rfl;have:=aV (s.heap.push {cls:= .type "tuple",data:= .seq #[rawInt m.start,rawInt m.handed]}) (o:= {cls:= .type "re.Match",data:= .fields #[.str x t,.ref P,rawInt ((0:Nat):Int),rawInt ((min ((2 ^ 63- 1:Int).toNat) x.cps.size:Nat):Int),rawInt m.lastindex,.ref s.heap.objs.size]}) rfl;rw[eU]at this;exact this
 ·have Sl:b=false:=by
   rcases h3 with h|h
   ·rw[h.1]at e;nomatch e
   ·exact h.2
  exact aR ⟨_,rfl,h0 Sl⟩
def EN:typeLookup (.type "re.Match") "__bool__" =pure ac:=by rw[g5,eA];rfl
def GV:typeLookup (.type "re.Match") "__len__" =pure ac:=by rw[g5,eA];rfl
def EO (hT:s.TypeIs (.ref a) "re.Match") (h:Q true s):wpAny (MM w) A (truthy (.ref a)) Q E s:=by unfold truthy;refine am (wpAny_callSpecial?_none hT EN ?_);refine am (wpAny_specialOf hT GV ?_);exact aR h
def truthy_none (h:Q false s):wpAny (MM w) A (truthy .none) Q E s:=aR h
end
noncomputable abbrev a6:Str:=ah "_headers"
def qY:typeLookup (.type "object") a6=pure ac:=by rw[g5,eA];rfl
def vm:typeLookup (.type "object") "_convert_string_type" =pure ac:=by rw[g5,eA];rfl
def zD:typeLookup (.type "object") "get_all" =pure ac:=by rw[g5,eA];rfl
def Bd:typeLookup (.type "object") "items" =pure ac:=by rw[g5,eA];rfl
def rR:typeLookup (.type "object") "add_header" =pure ac:=by rw[g5,eA];rfl
def Rel.clsAt (R:Rel S c O h):∃nm q bs sn sub OJ dd k0 k1 k2 k3 k5 mN,h.get? 182=aa (excClassObj nm q 182 181 bs [.type "object"] true sn sub false OJ dd k0 k1 k2 k3 k5 "object.__new__")/\h.Ns 181 mN/\∀p∈iW,mN p.1=p.2:=by left;let ⟨nm,q,bs,sn,sub,OJ,dd,k0,k1,k2,k3,k5,h1⟩:=S.cls;let ⟨mN,h2,h3⟩:=S.DT;right;exact⟨nm,q,bs,sn,sub,OJ,dd,k0,k1,k2,k3,k5,mN,R.old h1 ∅,R.vf h2 ∅,h3⟩
def Rel.inst (R:Rel S c O h) (hi:O[i]? =aa (.attrs m)) (hv:cT S.w c ↑O v (.inst i)):
  ∃a o mA,v= .ref a/\c.F a=aa o/\o.dict=aa (c.Z i)/\h.Inst a 182 mA/\(∀x d,(x,d)∈m->∃u,mA x=aa u/\cT S.w c ↑O u d)/\∀x,x∉m.map (·.1)->mA x=ac:=by
 let ⟨a,o,rfl,h1,h2,h3,h4,h5⟩:=hv.ae8;obtain(⟨oD,hoD,hr⟩):=R.own _ _ hi;let ⟨es,ep,e1,e2,e3,e4,e5,e6⟩:=hr.XS;refine⟨a,o,λx=>nsFind es x,rfl,h1,h4,⟨o,R.frozen _ _ h1,h2,h3,.inr ⟨c.Z i,h4,λe=> ?_,oD,es,ep,hoD,e1,e2,e3,λ_=>rfl⟩⟩,e5,e6⟩;have:=R.apart i h5;rw[e,h1]at this;nomatch this
def Lo (h:ck S k O ae args ds) (hk:o9 S k O ae zG Oo) (pos:Pos) (env:lY) (hn: ↑args+ ↑zG<20):
  methodCallForm (↑args+ ↑zG) (backTo pos (starEach args env)) (backToKw pos (keywordEach zG env))=true:=by
 have h1:(backTo pos (starEach args env)).all (λx=> !x.1)=true:=by have:=noStar h pos env;rw[Il];simpa using this
 unfold methodCallForm;have h3: ↑args+ ↑zG+(if (backToKw pos (keywordEach zG env)).isEmpty=true then 0 else 1)<30:=by
  have:(if (backToKw pos (keywordEach zG env)).isEmpty=true then 0 else 1)<=1:=by split<;>(first|exact abN|exact abO)
  exact abP hn this
 rw[dj,dj];exact⟨⟨h1,((KP hk pos env).1)⟩,decide_eq_true h3⟩
def Ev.ut (hr:r∈fV) (FD:(name,aa (.ref r.addr))∈iW)
  (ZG:typeLookup (.type "object") name=pure ac) (h:Ev S k O ae o (.inst i) O) (hi:O[i]? =aa (.attrs m)) (hm:name∉m.map (·.1)) (ha:ck S k O ae args ds) (hk:o9 S k O ae zG Oo) (hc:dy S k O (.pv (.con (.ref r.addr))) (.inst i::ds) Oo d bv)
  (ik:∀env,attributeBase o name env (eval o env)=eval o env) (gC:(jx.endLine==pos.line)=true) (hn: ↑args+ ↑zG<20):Ev S k O ae (.Call (.Attribute o name jx) args zG pos) d bv:=by
 refine⟨hc.len,λA c s env hA hE R E Q hQ=> ?_⟩;rw[arm_eval_Call,ik];refine am (h.run A c s env hA hE R _ _ λc1 v1 s1 l1 R1 K1 a1=> ?_);refine am (cV ?_);unfold methodCall;rw[(Lo ha hk pos env hn)];left;let ⟨x,ox,mA,rfl,hFx,hdx,hI,ZH,Vt⟩:=R1.inst hi a1;let ⟨nm,q,bs,sn,sub,OJ,dd,k0,k1,k2,k3,k5,mN,hC,vt,hN⟩:=R1.clsAt;let ⟨of,pm,Kd,N0,FH,_⟩:=R1.fn hr;let ⟨hp,g,d',t,os⟩:=s1;right;refine am (dH (method_of hC vt (hN (ah "__getattribute__",ac) (by unfold iW;walk_at "a")) (hN (ah "__getattr__",ac) (by unfold iW;walk_at "a")) (hN _ FD) Kd N0 ZG hI (Vt _ hm) ?_));refine am (i5 (by unfold methodCallPos;simp[gC]:methodCallPos true o env jx pos=pure pos) ?_);refine fJ (o:=of) (fd:=r.fd pm) ?_;refine nj ha hk _ pos A c1 _ env hA (hE.mono l1 (ab _)) R1 _ _ λc2 vs kvs s2 l2 R2 K2 a2 k2 b2=> ?_;have Ke:s2.heap.get? r.addr=aa of:=by
  let ⟨Fw,_,h0,_,_,_⟩:=S.fns r hr;have oQ:∀q∈cm,r.addr≠q.2:=by
   have:∀r∈fV,∀q∈cm,r.addr≠q.2:=by decide
   exact this r hr
  have y1:hp.get? r.addr=aa of:=Kd;have x1':hp.get? r.addr=aa Fw:=(R1.old h0 oQ);rw[x1']at y1;obtain rfl:=ag y1;exact(R2.old h0 oQ)
 exact⟨⟨Ke,FH⟩,hc.run A c2 s2 _ (_::vs) kvs hA R2 (.pv (.con _)) (.cons (a1.mono l2 (ab _)) a2) k2 b2 E Q λc3 v3 s3 l3 R3 K3 a3=>hQ c3 v3 s3 ((l1.trans l2 (ab _)).trans l3 (ab _)) R3 ((K1.trans K2).trans K3) a3⟩
def Ev.EP (h:Ev S k O ae (.Name n np) (.inst i) O) (hi:O[i]? =aa (.attrs m)) (hm:(a6,AV.fM j)∈m):Ev S k O ae (.Attribute (.Name n np) a6 pos) (.fM j) O:=by
 refine⟨ab _,λA c s env hA hE R E Q hQ=> ?_⟩;refine PyProof.Rows.Attribute_name (h.run A c s env hA hE R _ _ λc1 v1 s1 l1 R1 K1 a1=> ?_);left;let ⟨x,ox,mA,rfl,hFx,hdx,hI,ZH,Vt⟩:=R1.inst hi a1;let ⟨nm,q,bs,sn,sub,OJ,dd,k0,k1,k2,k3,k5,mN,hC,vt,hN⟩:=R1.clsAt;let ⟨u,hu,hd⟩:=ZH _ _ hm;right;have hho:handedOut u=pure u:=by cases hd;rfl
 let ⟨hp,g,d',t,os⟩:=s1;refine load_attr hC vt (hN (ah "__getattribute__",ac) (by unfold iW;walk_at "a")) (hN (ah "_headers",ac) (by unfold iW;walk_at "a")) qY hI hu hho ?_;exact hQ c1 u _ l1 R1 (K1.trans ⟨rfl,λ_ _ e=>e,λe=>e⟩) hd
def PS (l:List PV):List CO:=[.attrs [(a6,.ob 1)],.list l]
def yh (loc:List Str) (own:Sn) (l:List PV):St:=Dk loc own (PS l)
def oiM (O:List AO) (r:eh) (i h j:Nat):Nat:=if j=0 then i else if j=1 then h else ↑O+1+fj r.scope.names+(j- 2)
def pW.atM (F:pW r loc own) (hi:O[i]? =aa (.attrs [(a6,.fM h)])) (hh:O[h]? =aa (.list l)) (yz:i≠h):At (eW r loc own) (A3 O own (oiM O r i h)) (yh loc own l) (ent O r loc):=by
 have h2:∀j,j< ↑(PS l)->j=0\/j=1:=λj hj=>V0 hj;refine F.at (λj o ho=> ?_) (λa b ha hb e=> ?_) λj=> ?_
 ·rcases h2 j (getElem?_lt' ho)with rfl|rfl
  ·obtain rfl:=ag ho;exact hi
  ·obtain rfl:=ag ho;exact hh
 ·rcases h2 a ha with rfl|rfl<;>rcases h2 b hb with rfl|rfl
  ·rfl
  ·exact absurd e yz
  ·exact absurd e yz.symm
  ·rfl
 ·show(if 2+j=0 then i else if 2+j=1 then h else ↑O+1+fj r.scope.names+(2+j- 2))=_;rw[if_neg abS,if_neg abT];exact abU
def GW (hs:ku (eW r loc own) (A3 O own (oiM O r i h)) (yh loc own l) cg (ent O r loc) nC) (hi:O[i]? =aa (.attrs [(a6,.fM h)])) (hh:h< ↑O)
  (b:At lay (A3 O own (oiM O r i h)) cg nC) (h0:cg.ob[0]? =aa (.attrs [(a6,.ob 1)])) (h1:cg.ob[1]? =aa (.list l')):∃τ,nC=O.set h (.list l')++τ:=by
 have ajX:nC[i]? =aa (.attrs [(a6,.fM h)]):=b.obs 0 _ h0;have ajY:nC[h]? =aa (.list l'):=b.obs 1 _ h1;refine rO λx hx=> ?_;rw[bi]at hx;by_cases hxh:h=x
 ·subst hxh;rw[bU hh];exact ajY
 ·rw[bE hxh];by_cases hxi:x=i
  ·subst hxi;rw[hi];exact ajX
  ·exact hs.pre hx λj hj e=>by
    rcases V0 hj with rfl|rfl
    ·exact hxi e
    ·exact hxh e.symm
def flV:pn->Option PV
 | .next=>aa PV.none
 | .ret (.pv d)=>aa d
 |_=>ac
def hdO:Option CO->Option Unit
 |some (.attrs [(n,.ob j)])=>if (n==a6&&j==1)=true then aa () else ac
 |_=>ac
def w3 (r1:pn) (a b:Option CO):Option (PV×List PV):=(flV r1).bind λd=>(hdO a).bind λ_=>(SY b).map λl=>(d,l)
def Ui (h:flV r=aa d):r= .next/\d=PV.none\/r= .ret (.pv d):=by
 induction r with
 |next=>exact .inl ⟨rfl,(ag h).symm⟩
 |ret v=>induction v with
  |pv x=>obtain rfl:=ag h;exact .inr rfl
  |_=>exact gr h
def Uj (h:hdO a=aa u):a=aa (.attrs [(a6,.ob 1)]):=by
 induction a with
 |none=>exact gr h
 |some o=>induction o with
  |attrs m=>induction m with
   |nil=>exact gr h
   |cons q m=>
    let ⟨n,w⟩:=q;induction w with
    |ob j=>induction m with
     |nil=>have e:=(dT h).1;rw[dj,beq_iff_eq,beq_iff_eq]at e;rw[e.1,e.2]
     |cons=>exact gr h
    |_=>exact gr h
  |_=>exact gr h
def uu (loc:List Str) (own:Sn) (tg:List CV->St->Option St) (F:St->Option (pn×St)) (l:List PV) (ds:List PV):Option (PV×List PV):=
 (tg (.inst 0::ds.map CV.pv) (yh loc own l)).bind λst=>(F st).bind λr=>w3 r.1 r.2.ob[0]? r.2.ob[1]?
def yZ (h:w3 r1 a b=aa (d,l')):(r1= .next/\d=PV.none\/r1= .ret (.pv d))/\a=aa (.attrs [(a6,.ob 1)])/\b=aa (.list l'):=by let ⟨d,h1,h⟩:=aG.mp h;let ⟨u,h2,h⟩:=aG.mp h;let ⟨l,h3,h⟩:=ar.mp h;let ⟨rfl,rfl⟩:=bB h;exact⟨Ui h1,Uj h2,um h3⟩
def Lp (oi:NN) (ds:List PV):(CV.inst 0::ds.map CV.pv).map (CV.av oi)=AV.inst (oi 0)::ds.map AV.pv:=by rw[bw,IV];rfl
def dy.td (F:pW r loc own) (Vq:kg S (eW r loc own) names tg) (dY:j3 S k (eW r loc own) r.body G)
  (hi:O[i]? =aa (.attrs [(a6,.fM h)])) (hh:O[h]? =aa (.list l)) (yz:i≠h) (HY:uu loc own tg G l ds=aa (d,l'))
  (gu:∀pm,vH S k O (r.fd pm) args kw (names.zip (AV.inst i::ds.map AV.pv))):
  dy S (k+1) O (.pv (.con (.ref r.addr))) args kw (.pv d) (O.set h (.list l')):=by
 refine a9 HY λst1 Zx HY=> ?_;refine a9 HY λ⟨fl,cg⟩ hF FF=> ?_;let ⟨Kf,ho0,ho1⟩:=yZ FF;have hhl:=getElem?_lt' hh;have bc:=F.atM hi hh yz;let ⟨lK,a1,l1,b1,c1,_⟩:=Vq _ _ _ _ st1 bc Zx;let ⟨nC,a,b,c⟩:=dY _ _ _ _ cg b1 hF;let ⟨τ,rfl⟩:=GW (c1.trans c bc) hi hhl b ho0 ho1;rw[F.en]at a a1;rw[Lp]at a1;refine dy.Di F (binds:=names.zip (AV.inst i::ds.map AV.pv)) gu a1 a bi (λj x hx=> ?_) ?_
 ·by_cases J0:h=j
  ·subst J0;rw[bU hhl]at hx;obtain rfl:=ag hx;exact .inr rfl
  ·rw[bE J0]at hx;exact .inl hx
 ·rcases Kf with⟨rfl,rfl⟩|rfl
  ·exact .pv
  ·exact .pv
noncomputable abbrev codeOf (name:Bool):List Nat:=if name then [14,10,4,1,1,22,0,31,16,127,0,13,7,22,0,31,16,127,0,1] else [14,14,4,1,1,9,4294966783,0,0,2147483648,0,0,0,0,0,13,11,9,4294966783,0,0,2147483648,0,0,0,0,0,1]
noncomputable abbrev w4 (name:Bool):Addr:=if name then 48 else 53
def Rel.w4 (R:Rel S c O h) (b:Bool):Ln h (Mine.w4 b) (codeOf b):=by
 cases b
 ·exact R.pat (p:=(53,52,codeOf false)) (.tail _ (.head _))
 ·exact R.pat (p:=(48,47,codeOf true)) (.head _)
def Ev.Pu (h0:nX S k O ae t b) (h1:Ev S k O ae (if b=true then x else y) d O):Ev S k O ae (.IfExp t x y pos) d O:=by refine⟨ab _,λA c s env hA hE R E Q hQ=> ?_⟩;refine VA (h0 A c s env hA hE R _ _ λc1 s1 l1 R1 K1=> ?_);cases b<;>exact h1.run A c1 s1 env hA (hE.mono l1 (ab _)) R1 E Q λc2 v2 s2 l2 R2 K2 a2=>hQ c2 v2 s2 (l1.trans l2 (ab _)) R2 (K1.trans K2) a2
def nX.Be (h:nJ S k O ae e (PV.bool b)) (he:∀env zx,isTrue e env zx=(do let v <- zx;standAt e.pos;holding [v] (truthy v))):nX S k O ae e b:=λA c s env hA hE R E Q hQ=>
 se (h.run A c s env hA hE R _ _ λc1 v1 s1 l1 R1 K1 a1=>by
  have e:=a1.dn;subst e;exact gc (hQ c1 s1 l1 R1 K1)) (he _ _)
def Ev.Lq (hf:nJ S k O ae (.Name f np) (.con (.type "type"))) (h:nJ S k O ae e (.str x)) (hs:notStar e=true):nJ S k O ae (.Call (.Name f np) [e] [] pos) (.con (.type "str")):=by refine⟨ab _,λA c s env hA hE R E Q hQ=> ?_⟩;refine cn (hf.run A c s env hA hE R _ _ λc1 v1 s1 l1 R1 K1 a1=> ?_);have e':=a1.dn;subst e';refine ed (noStar (.cons h .nil hs) pos env) ?_;refine eg (.cons h .nil hs) _ pos A c1 s1 env hA (hE.mono l1 (ab _)) R1 _ _ λc2 vs s2 l2 R2 K2 a2=> ?_;have h9:=a2.i1;clear a2;let ⟨_,_,rfl,a2,b2⟩:=h9;obtain rfl:=b2.i0;have DX:=a2.gh;let ⟨t,rfl⟩:=DX.mG;exact call_type_of (si ..) rfl (hQ c2 _ s2 (l1.trans l2 (ab _)) R2 (K1.trans K2) (.pv (.con _)))
def nX.PT (ho:nJ S k O ae o (.con (.ref (w4 b)))) (he:nJ S k O ae e (.str x)) (hs:notStar e=true) (hr:kU (codeOf b) x=aa r)
  (ik:∀env,attributeBase o "search" env (eval o env)=eval o env) (gC:(jx.endLine==pos.line)=true)
  (hi:∀env zx,isTrue (.Call (.Attribute o "search" jx) [e] [] pos) env zx=(do let v <- zx;standAt (Expr.Call (.Attribute o "search" jx) [e] [] pos).pos;holding [v] (truthy v))):
  nX S k O ae (.Call (.Attribute o "search" jx) [e] [] pos) r:=by
 intro A c s env hA hE R E Q hQ;have ha:ck S k O ae [e] [.pv (.str x)]:= .cons he .nil hs;refine se ?_ (hi _ _);refine eK (ik env) (AN ha pos env (by show 1<30;decide)) gC (ho.run A c s env hA hE R _ _ λc1 v1 s1 l1 R1 K1 a1=> ?_);have e':=a1.dn;subst e';left;let ⟨op,fs,oc,C,items,n,h1,h2,h3,h4,_⟩:=(R1.w4 b).at';right;refine⟨"re.Pattern", "re.Pattern.search",vL,yY,GP,⟨op,h1,h2⟩,λa e=>by cases e;exact⟨op,h1,h4⟩,cX (noStar ha pos env) ?_⟩;refine eg ha _ pos A c1 s1 env hA (hE.mono l1 (ab _)) R1 _ _ λc2 vs s2 l2 R2 K2 a2=> ?_;have h9:=a2.i1;clear a2;let ⟨_,_,rfl,a2,b2⟩:=h9;cases b2;have DX:=a2.gh;let ⟨t,rfl⟩:=DX.mG;have uL:=l1.trans l2 (ab _);have K12:=K1.trans K2;refine GU (R2.w4 b) hr (λhr0=> ?_) λhr1 h' o hk ho Ma hod=> ?_
 ·subst hr0;exact truthy_none (hQ c2 s2 uL R2 K12)
 ·subst hr1;exact EO ⟨o,ho,Ma⟩ (hQ c2 _ uL (R2.ext hk) (K12.trans (.gF ..)))
noncomputable abbrev iV:Str:=ah "self"
noncomputable abbrev nM:Str:=ah "value"
noncomputable abbrev mC:Str:=ah "name"
noncomputable abbrev tF:Str:=ah "regex"
abbrev rC:eh:=mz
def PU:rC∈fV:=by unfold fV;walk_at "a"
def Bf:pR rC.scope [iV,nM,mC,tF]:=pR.of tt
def PW:me rC.scope [ah "type",ah "str",ah "_name_disallowed_re",ah "_value_disallowed_re"]:=me.of tt
def cG.one (hf:f= .ret d) (h:i6 S k O ae st f bA):cG S k O ae (st::rest) f bA:=by subst hf;exact cG.ret h
def Bg (pm:Value):jG S O (rC.fd pm) [.inst i,.pv (.str x)] [(mC,.pv (PV.bool b))] [(iV,.inst i),(nM,.pv (.str x)),(mC,.pv (PV.bool b))]:=by
 intro c s vs kvs R ha hk HR;rcases kvs with _|⟨⟨y,vk⟩,_|_⟩
 ·nomatch hk
 ·obtain rfl:y=mC:=(jJ hk).1;let ⟨v5,_,e5,h5,_⟩:=HR.i1;obtain rfl:vk=v5:=(jJ e5).1;let ⟨va,r1,rfl,h1,ha1⟩:=ha.i1;let ⟨vx,r2,rfl,h2,Zu⟩:=ha1.i1;obtain rfl:=Zu.i0;exact⟨[(iV,va),(nM,vx),(mC,vk)],rfl,.cons h1 (.cons h2 (.cons h5 .nil)),Td (by with_unfolding_all rfl)⟩
 ·nomatch (jJ hk).2
def dy.conv (b:Bool) (hi:i< ↑O) (hb:kU (codeOf b) x=aa false):dy S (k+1) O (.pv (.con (.ref rC.addr))) [.inst i,.pv (.str x)] [(mC,.pv (PV.bool b))] (.pv (.str x)) O:=by
 have h1:=Bf;have h2:=PW;have dY:∃τ,cG S k (O++[.ns [(iV,aa (.inst i)),(nM,~~~(.str x)),(mC,~~~(PV.bool b)),(tF,ac)]]) (rC.env (↑O+0)) rC.body (.ret (.pv (.str x))) (O++τ):=by
  apply fX;apply cG.one rfl;apply i6.if (b:=true)
  ·apply nX.jr (a:= .pv (.con (.type "str"))) (b:= .pv (.con (.type "str")))
   ·apply Ev.Lq
    ·walk_at "b"
    ·walk_at "b"
    ·rfl
   ·walk_at "b"
   ·intro S k A c s u v hA R ha hb E Q hQ;have e1:=ha.dn;have e2:=hb.dn;subst e1 e2;exact nS rfl (hQ c _ _ (.refl ..) R (.refl ..) (.pv (.con _)))
   ·rfl
  apply cG.cons (bA:=O++[.ns [(iV,aa (.inst i)),(nM,~~~(.str x)),(mC,~~~(PV.bool b)),(tF,~~~(.con (.ref (w4 b))))]])
  ·apply i6.assign
   ·apply Ev.Pu (b:=b) (d:= .pv (.con (.ref (w4 b))))
    ·apply nX.Be
     ·walk_at "b"
     ·intro _ _;rfl
    ·cases b
     ·rw[if_neg bG];apply Ev.Cv (v:= .ref 53) h2
      ·rfl
      ·walk_at "a"
      ·unfold cf;walk_at "a"
      ·rfl
     ·rw[if_pos rfl];apply Ev.Cv (v:= .ref 48) h2
      ·rfl
      ·walk_at "a"
      ·unfold cf;walk_at "a"
      ·rfl
   ·apply jK.x7 h1
    ·rfl
    ·walk_at "a"
    ·walk_at "e"
    ·walk_at "c"
    ·walk_at "d"
   ·intro _ _;rfl
  apply cG.cons
  ·apply i6.if (b:=false)
   ·apply nX.PT (b:=b)
    ·walk_at "b"
    ·walk_at "b"
    ·rfl
    ·exact hb
    ·intro _;rfl
    ·rfl
    ·intro _ _;rfl
   ·exact cG.nil
  walk_at "h"
 let ⟨τ,dY⟩:=dY;refine dy.def (.of 21 rfl rfl tt) (binds:=[(iV,.inst i),(nM,.pv (.str x)),(mC,.pv (PV.bool b))]) (others:=[tF]) (λpm=> ?_) (lk Bf [iV,nM,mC] tt) rfl dY rfl (λi x h=> .inl h) .pv;exact Bg pm
section
variable {lay:Lay}
noncomputable def CV.aN:CV->Option Nat
 | .inst a=>aa a
 |_=>ac
def CV.kN {v:CV} (h:v.aN=aa a):v= .inst a:=by
 induction v with
 |inst d=>exact congrArg CV.inst (ag h)
 |_=>exact gr h
noncomputable def CO.a1:CO->Option (Str×CV)
 | .attrs [q]=>aa q
 |_=>ac
def CO.k1 {o:CO} (h:o.a1=aa q):o= .attrs [(q.1,q.2)]:=by
 induction o with
 |attrs m=>
  rcases m with _|⟨u,_|_⟩
  ·exact gr h
  ·exact congrArg (λq:Str×CV=>CO.attrs [q]) (ag h)
  ·exact gr h
 |_=>exact gr h
def sv (f:EF) (st:St):Option CV:=((f st).bind CV.aN).bind λj=>((st.ob[j]?).bind CO.a1).bind λq=>q.2.aO.bind λh=>if (q.1==a6)=true then aa (.ob h) else ac
def I5 (h:sv f st=aa v):∃j g,f st=aa (.inst j)/\st.ob[j]? =aa (CO.attrs [(a6,.ob g)])/\v= .ob g:=by refine a9 h λj h1 h=>a9 h1 λ_ h1 e1=>a9 h λq h2 h=>a9 h2 λ_ h2 e2=>a9 h λg e3 h=> ?_;have h:=dT h;refine⟨j,g,(CV.kN e1)▸h1,?_,h.2.symm⟩;rw[h2,CO.k1 e2,CV.kO e3,beq_iff_eq.mp h.1]
def cJ.ajf (h:cJ S k lay (.Name n np) f):cJ S k lay (.Attribute (.Name n np) a6 pos) (sv f):=by intro p O st v bc hf;let ⟨j,g,h1,h2,rfl⟩:=I5 hf;exact Ev.EP (h p O st _ bc h1) (bc.obs j _ h2) (ay)
def Bh (w b:Bool) (f fe:EF) (st:St):Option CV:=((f st).bind CV.aN).bind λj=>((fe st).bind CV.aS).bind λx=>((st.ob[j]?).bind CO.a1).bind λq=>
 if q.1==a6/\kU (codeOf b) x=aa w then ~~~(.str x) else ac
def Bi (hf:Bh w b f fe st=aa v) {G:Prop} (k:∀j x u,f st=aa (.inst j)->fe st= ~~~(.str x)->st.ob[j]? =aa (.attrs [(a6,u)])->kU (codeOf b) x=aa w->v= .pv (.str x)->G):G:=by refine a9 hf λj hj hf=>a9 hj λ_ hj e1=>a9 hf λx hx hf=>a9 hx λ_ hx e2=>a9 hf λq ha hf=>a9 ha λ_ ha e3=> ?_;let ⟨hh,e⟩:=dT hf;exact k j x q.2 (hj.trans (congrArg aa (CV.kN e1))) (hx.trans (congrArg aa (CV.kS e2))) (by rw[ha,CO.k1 e3,beq_iff_eq.mp hh.1]) hh.2 e.symm
def yi (h1:f st=aa (.inst j)) (h2:fe st= ~~~(.str x)) (h3:st.ob[j]? =aa (.attrs [(a6,v)])) (h4:kU (codeOf b) x=aa w):Bh w b f fe st= ~~~(.str x):=by unfold Bh;rw[h1,h2];show((st.ob[j]?).bind CO.a1).bind _=_;rw[h3];exact if_pos ⟨beq_self_eq_true a6,h4⟩
def qp:Bool->(St->Option CV)->(St->Option CV)->St->Option CV:=Bh false
def cJ.conv (hk:1<=k) (h:cJ S k lay o f) (he:cJ S k lay e fe) (hs:notStar e=true) (ik:∀env,attributeBase o "_convert_string_type" env (eval o env)=eval o env) (gC:(jx.endLine==pos.line)=true):
  cJ S k lay (.Call (.Attribute o "_convert_string_type" jx) [e] [⟨aa mC,.Constant (.bool b) n FA,kp⟩] pos) (qp b f fe):=by
 intro p O st v bc hf;refine Bi hf λj x u hj hx ha hh e=> ?_;subst e;have Fz:=bc.obs j _ ha;obtain⟨k',rfl⟩:∃k',k=k'+1:=⟨k- 1,by simp_all⟩;exact Ev.ut (r:=rC) PU (by unfold iW;show(_,aa (eM 83))∈_;walk_at "a") vm (h p O st _ bc hj) Fz (by show _∉ [a6];decide) (.cons (he p O st _ bc hx) .nil hs) (.cons Ev.bool .nil) (dy.conv (k:=k') b (getElem?_lt' Fz) hh) ik gC (by show 1+1<20;decide)
def PX (f:EF) (st:St):Option (pn×St):=((f st).bind CV.aDc).bind λl=>match l with
 | []=>aa (.next,st)
 |_::_=>ac
def ms.MQ (h:cJ S k lay o f) (ik:∀env,attributeBase o "items" env (eval o env)=eval o env) (gC:(jx.endLine==FA.line)=true):
  ms S k lay (.For cD (.Call (.Attribute o "items" jx) [] [] FA) body [] pos) (PX f):=by
 intro p O st fl cg bc hf;refine a9 hf λl hd hf=>a9 hd λ_ hd e=> ?_;rw[CV.kDc e]at hd;cases l
 rotate_left
 ·exact gr hf
 let ⟨rfl,rfl⟩:=bB (ag hf);refine⟨O,⟨ab _,λA c s env hA hE R E Q hQ=> ?_⟩,bc,.refl ..⟩;refine Ox ?_ (λ_=>rfl);refine eK (ik env) rfl gC ((h p O st _ bc hd).run A c s env hA hE R _ _ λc2 v2 s2 l2 R2 K2 a2=> ?_);let ⟨hT,tY⟩:=zT bc (v:= .pv (.oO [])) (T:= "dict") rfl R2 a2;refine⟨"dict", "dict.items",F.plainAttrs_dict,F.slot_dict_items,F.type_dict_items,hT,tY,cX rfl ?_⟩;refine eg .nil _ FA A c2 s2 env hA (hE.mono l2 (ab _)) R2 _ _ λc3 vs s3 l3 R3 K3 a3=> ?_;left;obtain rfl:=a3.i0;let ⟨a,es,ep,kvs,rfl,Si,ho,nd,hp⟩:=S0.val.at R3 (a2.mono l3 (ab _));have FE:=hp.dictOf ho nd;right;have hk0:kvs=[]:=by have:=congrArg eX hp.keys;simp at this;exact this
 subst hk0;refine call_meetsIn F.slot_dict_items (mJ FE).typeIs F.entry_dict_items (F.args_dict_items_1 _) (meets_dict_items (strKind pw S.w) a Si) ⟨⟨[],mJ FE⟩,?_⟩;refine wpAny_pyIter_items (knd:=strKind pw S.w) (kvs:=[]) (ep:=ep) ⟨_,aV _ rfl,rfl,rfl⟩ (FE.keep λb o e=>aJ _ e) ?_;refine fb ?_;rw[cy (by rfl)];show wpAny _ A ((forTurn _ _ _ _ env).onRaise (λx=>do noteFrame x env;theTreesLotGoes x)) _ _ _;refine jB ?_;simp only[forTurn];refine am (cV (am (kE ?_)));refine wpAny_pyNext_items_end (knd:=strKind pw S.w) (kvs:=[]) (i:=0) (ep:=ep) (ok:= .none) (ov:= .none) hA.hn (aV _ rfl) ((FE.keep λb o e=>aJ _ e).keep λb o e=>aJ _ e) rfl λh' hb=> ?_;refine aR ⟨rfl,Al (jz ?_)⟩;refine hQ c3 .next _ (l2.trans l3 (ab _)) (R3.ext λb o e=> ?_) ((K2.trans K3).trans (.gF ..)) .next;exact hb b o (by simp only[eU];exact cU (eI (bW e))) (aJ _ (aJ _ e))
end
set_option maxHeartbeats 4000000
local macro_rules | `(tactic| walk_at "sd") => do
  let w ← `(tactic| walk_at "sd")
  let a := #[← wk w "kg; nil; loc; nq", ← wk w "cJ; ajf; conv; Ew pY; Ew tD; Ew Dm; Ew WQ; Ew S4; Ew WR", ← wk w "ms; MQ"]
  `(tactic| first $[| $a:tactic]*)
def y6:Lay:=eW qP ["self"] [("name",0)]
def w5:fO:=lQ [([46,48],.local),([107,118],.local),([110,97,109,101],.free)] ["kv"] [] [("name",0)]
def oW:SF:=(aB (bZ (qp true (ak 0) (eQ "str" kR (aX 0) aZ)) (jL 0)) (aB (i7 (ei w5 (Gu (sv (ak 0))) (dN (bf 0) (bY .Eq (eQ "str" kR (bk (ak 0) ⇑0) aZ) (aX 0)) (gO (bk (ak 0) ⇑1))))) br))
def Dn:List CV->St->Option St:=(fB (bf 0) (fB (jL 0) qU))
def ky:List PV->List PV->Option (PV×List PV):=uu ["self"] [("name",0)] Dn oW
def MR:kg S y6 ["self", "name"] Dn:=by walk_at "sd"
def MS:j3 S 1 y6 qP.body oW:=by walk_at "sd"
def Do:Lay:=eW wq ["self"] []
def uv:SF:=(aB (i7 (fN (sv (ak 0)) eD eD eD)) br)
def Lr:List CV->St->Option St:=(fB (bf 0) qU)
def w6:List PV->List PV->Option (PV×List PV):=uu ["self"] [] Lr uv
def Uk:kg S Do ["self"] Lr:=by walk_at "sd"
def Ul:j3 S 0 Do wq.body uv:=by walk_at "sd"
def mj:Lay:=eW fy ["self", "_name", "_value", "_params", "parts", "k", "v"] []
def ml:SF:=(aB (Cx (.list []) (bf 4)) (aB (jA (bY .IsNot (ak 2) (jb PV.none)) (aB (bZ (qp false (ak 0) (ak 2)) (bf 2)) (aB (oA gZ (ak 4) (au (ak 2) aZ)) br)) br) (aB (PX (ak 3)) (aB (oA gZ (sv (ak 0)) (au (jd (au (qp true (ak 0) (ak 1)) (au (eQ "str" AQ ↥"; " (au (ak 4) aZ)) aZ))) aZ)) br))))
def oG:List CV->St->Option St:=(fB (bf 0) (fB (bf 1) (fB (bf 2) (fB (bf 3) qU))))
def oH:List PV->List PV->Option (PV×List PV):=uu ["self", "_name", "_value", "_params", "parts", "k", "v"] [] oG ml
def rS:kg S mj ["self", "_name", "_value", "_params"] oG:=by walk_at "sd"
def EQ:j3 S 1 mj fy.body ml:=by walk_at "sd"
set_option maxHeartbeats 200000
noncomputable abbrev I6:Str:=ah "_name"
noncomputable abbrev ER:Str:=ah "_value"
noncomputable abbrev Bj:Str:=ah "_params"
def set_same (h:O[i]? =aa x):O.set i x=O:=by
 apply rr;intro j;by_cases J0:i=j
 ·subst J0;rw[bU (getElem?_lt' h),h]
 ·rw[bE J0]
def Yd:qP∈fV:=by unfold fV;walk_at "a"
def Ye:wq∈fV:=by unfold fV;walk_at "a"
def I7:fy∈fV:=by unfold fV;walk_at "a"
def dy.PY (hi:O[i]? =aa (.attrs [(a6,.fM h)])) (hh:O[h]? =aa (.list l)) (yz:i≠h) (hm:ky l [.str x]=aa (d,l')):
  dy S 2 O (.pv (.con (.ref qP.addr))) [.inst i,.pv (.str x)] [] (.pv d) (O.set h (.list l')):=
 dy.td (.of 22 rfl rfl rfl) MR MS hi hh yz hm (λpm=>(jG.plain (args:=[.inst i,.pv (.str x)]) rfl (bd2 λ_ _=>rfl)).B)
def dy.items (hi:O[i]? =aa (.attrs [(a6,.fM h)])) (hh:O[h]? =aa (.list l)) (yz:i≠h) (hm:w6 l []=aa (d,l')):
  dy S 1 O (.pv (.con (.ref wq.addr))) [.inst i] [] (.pv d) (O.set h (.list l')):=
 dy.td (.of 23 rfl rfl rfl) Uk Ul hi hh yz hm (λpm=>(jG.plain (args:=[.inst i]) rfl (S3 λ_=>rfl)).B)
def nN (pm:Value):vH S k O (fy.fd pm) [.inst i,x,y] [] [(iV,.inst i),(I6,x),(ER,y),(Bj,.pv (.oO []))]:=by
 intro A c s vs kvs _ R ha hk HR E Q hQ;have ZF:kvs=[]:=by induction kvs with|nil=>rfl|cons _ _=>nomatch hk
 subst ZF;have h9:=ha.i1;clear ha;let ⟨v0,_,rfl,h0,ha⟩:=h9;have h9:=ha.i1;clear ha;let ⟨v1,_,rfl,h1,ha⟩:=h9;have h9:=ha.i1;clear ha;let ⟨v2,_,rfl,h2,ha⟩:=h9;obtain rfl:=ha.i0;have hF:=R.oy (ab s.heap.objs.size);have hnm:(s.heap.objs.size==sysModules)=false:=by let ⟨o,ho⟩:=S.mods;have:=bW (R.old ho ∅);exact beq_eq_false_iff_ne.mpr (jV this)
 have fin:=hQ (c.put s.heap.objs.size {cls:= .type "dict",data:= .dict #[]}) [(iV,v0),(I6,v1),(ER,v2),(Bj,.ref s.heap.objs.size)] {s with heap:=s.heap.push {cls:= .type "dict",data:= .dict #[]}} (aM.dC hF)
  (R.put (λb o e=>aJ _ e) (ab _) (aV _ rfl)) (.gF ..) rfl
  (.cons (h0.mono (aM.dC hF) (ab _)) (.cons (h1.mono (aM.dC hF) (ab _)) (.cons (h2.mono (aM.dC hF) (ab _)) (.cons (.pv (.oO hnm (if_pos rfl) rfl kK (λi e k d h=>by simp at h) λi e k d h=>by simp at h)) .nil))))
 have e:bindArgs (fy.fd pm) ⟨[v0,v1,v2],[]⟩=(PySem.alloc {cls:= .type "dict",data:= .dict #[]} >>= λd=>pure [(iV,v0),(I6,v1),(ER,v2),(Bj,.ref d)]):=by with_unfolding_all rfl
 rw[e];exact am (F0 (aR fin))
def dy.Dp (hi:O[i]? =aa (.attrs [(a6,.fM h)])) (hh:O[h]? =aa (.list l)) (yz:i≠h) (hm:oH l [.str x,.str y,.oO []]=aa (d,l')):
  dy S 2 O (.pv (.con (.ref fy.addr))) [.inst i,.pv (.str x),.pv (.str y)] [] (.pv d) (O.set h (.list l')):=
 dy.td (.of 24 rfl rfl rfl) rS EQ hi hh yz hm (λpm=>nN pm)
section
variable {lay:Lay}
def St.I8 (st:St) (v:CV):Option (Nat×List PV):=v.aN.bind λj=>((st.ob[j]?).bind CO.a1).bind λq=>q.2.aO.bind λh=>(SY st.ob[h]?).bind λl=>if (q.1==a6)=true then aa (h,l) else ac
def GX {st:St} (e:st.I8 v=aa (h,l)):∃j,v= .inst j/\st.ob[j]? =aa (CO.attrs [(a6,.ob h)])/\st.ob[h]? =aa (CO.list l):=by refine a9 e λj e1 e=>a9 e λq e2 e=>a9 e2 λ_ e2 e3=>a9 e λg e4 e=>a9 e λm e5 e=> ?_;let ⟨hn,e⟩:=dT e;let ⟨rfl,rfl⟩:=bB e;exact⟨j,CV.kN e1,by rw[e2,CO.k1 e3,CV.kO e4,beq_iff_eq.mp hn],um e5⟩
def At.I8 (bc:At lay p st O) (e:st.I8 v=aa (h,l)):∃i,v.av p.oi= .inst i/\O[i]? =aa (.attrs [(a6,.fM (p.oi h))])/\O[p.oi h]? =aa (.list l)/\i≠p.oi h:=by let ⟨j,rfl,h1,h2⟩:=GX e;refine⟨p.oi j,rfl,(bc.obs j _ h1),(bc.obs h _ h2),λe=> ?_⟩;have:=bc.Vf j h (getElem?_lt' h1) (getElem?_lt' h2) e;subst this;rw[h1]at h2;nomatch h2
def gM (F:St->Option (pn×St)):Prop:=∀st fl cg,F st=aa (fl,cg)->cg.ob=st.ob
def gM.nil:gM br:=λst fl cg h=>by let ⟨rfl,rfl⟩:=bB (ag h);rfl
def gM.cons (h1:gM f) (h2:gM g):gM (aB f g):=λst fl cg h=>by
 unfold aB at h;split at h
 ·rename_i st1 e;exact(h2 _ _ _ h).trans (h1 _ _ _ e)
 ·rename_i v st1 e;let ⟨rfl,rfl⟩:=bB (ag h);exact h1 _ _ _ e
 ·nomatch h
def gM.ret:gM (i7 f):=λst fl cg h=>by unfold i7 at h;let ⟨v,_,e⟩:=ar.mp h;let ⟨rfl,rfl⟩:=bB e;rfl
def gM.ajg:gM (bZ f (jL i)):=λst fl cg h=>by unfold bZ at h;simp only[ar,aG]at h;let ⟨st1,⟨v,_,e1⟩,e⟩:=h;let ⟨rfl,rfl⟩:=bB e;obtain rfl:=ag e1;rfl
def gM.td (hF:gM F) (Vq:∀ds st cg,tg ds st=aa cg->cg.ob=st.ob) (h:uu loc own tg F l ds=aa (d,l')):l'=l:=by unfold uu at h;simp only[aG]at h;let ⟨st1,h1,⟨fl,st2⟩,h2,h3⟩:=h;let ⟨_,_,e⟩:=yZ h3;have e':st2.ob[1]? =aa (CO.list l'):=e;rw[hF _ _ _ h2,Vq _ _ _ h1]at e';cases e';rfl
def vM (hg:∀ds st cg,g ds st=aa cg->cg.ob=st.ob) (f:CV->St->Option St) (hf:f=bf i\/f=jL i):∀ds st cg,fB f g ds st=aa cg->cg.ob=st.ob:=λds st cg h=>by
 induction ds with
 |nil=>cases h
 |cons d ds=>
  rcases hf with rfl|rfl
  ·exact(hg ds _ cg h).trans rfl
  ·exact(hg ds _ cg h).trans rfl
def Dq:∀ds st cg,qU ds st=aa cg->cg.ob=st.ob:=λds st cg h=>by
 induction ds with
 |nil=>obtain rfl:=ag h;rfl
 |cons=>nomatch h
def ES (h:ky l ds=aa (d,l')):l'=l:=
 gM.td (F:=oW) (gM.cons gM.ajg (gM.cons gM.ret gM.nil)) (vM (vM Dq _ (.inr rfl)) _ (.inl rfl)) h
def GY (h:w6 l ds=aa (d,l')):l'=l:=
 gM.td (F:=uv) (gM.cons gM.ret gM.nil) (vM Dq _ (.inl rfl)) h
end
def Rel.WS {c:aM} {h:iS} (R:Rel S c O h) {a:Addr} (ha:h.get? a=ac):qC c ↑O a where
 F:=by
  cases e:c.F a with
  |none=>rfl
  |some o=>rw[R.frozen _ _ e]at ha;nomatch ha
 Z:=λi hi e=>by let ⟨o,ho,_⟩:=R.own i O[i] (aq hi);rw[e,ha]at ho;nomatch ho
 pin:=by
  cases e:c.pin a with
  |none=>rfl
  |some o=>rw[(R.pins a o e).1]at ha;nomatch ha
 tab:=λq hq e=>by let ⟨_,_,ps,d,_⟩:=R.tabs q hq;rw[e,ha]at d;nomatch d
def Rel.ajh {c:aM} {h h':iS} (R:Rel S c O h) {a:Addr} {o:Obj} {ao:AO} (k:∀b o,h.get? b=aa o->h'.get? b=aa o) (hf:qC c ↑O a) (ho:h'.get? a=aa o)
  (hr:ic S.w (c.own ↑O a) (↑O+1) o ao):Rel S (c.own ↑O a) (O++[ao]) h' where
 frozen:=λx y e=>k _ _ (R.frozen x y e)
 base:=R.base
 own:=λi x e=>by
  rw[aj];rcases eH i ↑O with hi|hi|hi
  ·rw[aW hi]at e;let ⟨o',p,q⟩:=R.own i x e;refine⟨o',?_,q.mono aM.jc (mv _)⟩;exact(aM.jc.Z i hi).symm▸(k _ _ p)
  ·subst hi;rw[aE (ab _),dc]at e;obtain rfl:=ag e;exact⟨o,by rw[aM.ma];exact ho,hr⟩
  ·rw[aE (ce hi)]at e;have:(i- ↑O)≠0:=by exact om0 hi
   let ⟨j,hj⟩:=oS this;rw[hj]at e;simp at e
 apart:=λi hi=>by
  rw[aj]at hi;show c.F (if i= ↑O then a else c.Z i)=ac;by_cases e:i= ↑O
  ·rw[if_pos e];exact hf.F
  ·rw[if_neg e];exact R.apart i (by simp at hi;exact ID hi e)
 inj:=λi j hi hj e=>by
  rw[aj]at hi hj;simp only[be]at hi hj;have e':(if i= ↑O then a else c.Z i)=(if j= ↑O then a else c.Z j):=e;by_cases p:i= ↑O<;>by_cases q:j= ↑O
  ·exact om2 p q
  ·rw[if_pos p,if_neg q]at e';exact absurd e'.symm (hf.Z j (by exact ID hj q))
  ·rw[if_neg p,if_pos q]at e';exact absurd e' (hf.Z i (by exact ID hi p))
  ·rw[if_neg p,if_neg q]at e';exact R.inj i j (by exact ID hi p) (by exact ID hj q) e'
 pins:=λx y e=>by
  let ⟨p1,p2,p3,p4⟩:=R.pins x y e;refine⟨k _ _ p1,p2,λi hi=> ?_,p4⟩;rw[aj]at hi;simp only[be]at hi;show(if i= ↑O then a else c.Z i)≠x;by_cases p:i= ↑O
  ·rw[if_pos p];rintro rfl;have e':c.pin a=aa y:=e;rw[hf.pin]at e';nomatch e'
  ·rw[if_neg p];exact p3 i (by exact ID hi p)
 tabs:=λq hq=>by
  left;let ⟨x,b,ps,d,e,f⟩:=R.tabs q hq;right;refine⟨x,λi hi=> ?_,ps,k _ _ d,e,f⟩;rw[aj]at hi;simp only[be]at hi;show(if i= ↑O then a else c.Z i)≠q.2;by_cases p:i= ↑O
  ·rw[if_pos p];exact(hf.tab q hq).symm
  ·rw[if_neg p];exact b i (by exact ID hi p)
def callWith_cls {k:ClassData} (hC:s.heap.get? C=aa oC) (hc:oC.cls= .type "type") (hd:oC.data= .cls k)
  (h:wpAny (MM w) A (call (.ref C) []) Q E s):wpAny (MM w) A (callWith pos (.ref C) [] [] []) Q E s:=by
 unfold callWith;refine am (dH (PyProof.Rows.evalArgs_nil3 (am (cV ?_))));refine am (m:=keeperOf (.ref C)) ?_;unfold keeperOf;refine am (Kj hC ?_);rw[hd];refine am (wpAny_specialOf (T:= "type") ⟨oC,hC,hc⟩ F.lookup_type_call (aR ?_));rw[if_pos tt];exact am (fZ h (λr rn hr=>am (dH (wpAny_point (aR hr)))) λ_ _ x=>x)
def jF.MT {A:cS} (h:jF (k+1) A):jF k (A.under (.builtin "type.__call__" ⟨[.ref 182],[]⟩)) where
 hn:=h.hn
 depth:=dep h.depth (by decide+kernel)
 units:=dep h.units (by decide+kernel)
 frames:=by let ⟨l,e⟩:=h.frames;exact⟨_,by show pushEnvs (Code.builtin "type.__call__" ⟨[.ref 182],[]⟩).envs A.frames=_;rw[pushEnvs_eq,e];rfl⟩
 guards:=by let ⟨l,e⟩:=h.guards;exact⟨_,by show pushGuards (Code.builtin "type.__call__" ⟨[.ref 182],[]⟩).guards A.guards=_;rw[pushGuards_eq,e];rfl⟩
def Ev.Yg (h0:nX S k O ae t b) (h1:Ev S k O ae (if b=true then x else y) d bv):Ev S k O ae (.IfExp t x y pos) d bv:=by refine⟨h1.len,λA c s env hA hE R E Q hQ=> ?_⟩;refine VA (h0 A c s env hA hE R _ _ λc1 s1 l1 R1 K1=> ?_);cases b<;>exact h1.run A c1 s1 env hA (hE.mono l1 (ab _)) R1 E Q λc2 v2 s2 l2 R2 K2 a2=>hQ c2 v2 s2 (l1.trans l2 (ab _)) R2 (K1.trans K2) a2
def i6.Yh (h:Ev S k O ae kB d O) (hl:IsL O d []) (hs:∀env x,foldedSetIterable kB env x=pure x):i6 S k O ae (.For cD kB body [] pos) .next O:=by refine⟨ab _,λA c s env hA hE R E Q hQ=> ?_⟩;refine Ox (lb.list h hl A c s env hA hE R _ _ λc1 s1 I own J l1 ho R1 K1 P nc J1=> ?_) (hs env);refine fb ?_;rw[cy (by rfl)];show wpAny _ A ((forTurn _ _ _ _ env).onRaise (λx=>do noteFrame x env;theTreesLotGoes x)) _ _ _;refine jB ?_;simp only[forTurn];refine am (cV (am (kE (P.next J1 R1 (ab _) nc hA _ _ (λ_ c2 s2 l2 R2 K2=> ?_) λx r e=>by nomatch e))));let ⟨u1,u2⟩:=(l1.trans l2 (ab _)).Gm ho;exact aR ⟨rfl,Al (jz (hQ _ .next s2 u2 (R2.gN u1) (lE.K (K1.P.trans K2)) .next))⟩
def Ev.PZ (hf:nJ S k O ae (.Name f np) (.con (.type "type"))) (h:Ev S k O ae e d O) (hl:IsL O d l) (hs:notStar e=true):nJ S k O ae (.Call (.Name f np) [e] [] pos) (.con (.type "list")):=by refine⟨ab _,λA c s env hA hE R E Q hQ=> ?_⟩;refine cn (hf.run A c s env hA hE R _ _ λc1 v1 s1 l1 R1 K1 a1=> ?_);have e':=a1.dn;subst e';refine ed (noStar (.cons h .nil hs) pos env) ?_;refine eg (.cons h .nil hs) _ pos A c1 s1 env hA (hE.mono l1 (ab _)) R1 _ _ λc2 vs s2 l2 R2 K2 a2=> ?_;have h9:=a2.i1;clear a2;let ⟨_,_,rfl,a2,b2⟩:=h9;left;obtain rfl:=b2.i0;let ⟨a,vs,n,rfl,ho,_,_⟩:=hl.at R2 a2;right;exact call_type_of ⟨_,ho,rfl⟩ rfl (hQ c2 _ s2 (l1.trans l2 (ab _)) R2 (K1.trans K2) (.pv (.con _)))
def Rel.qa (R:Rel S c O h) (hi:i< ↑O):Rel S c (O.set i .qa) h:=by let ⟨o,ho,_⟩:=R.own i _ (aq hi);exact R.set hi (λb o _ e=>e) ho (.qa o)
def i6.I9 (hx:Ev S k O ae (.Name x xp) (.fM j) O) (h:Ev S k O ae (.Name n np) (.inst i) O) (hi:O[i]? =aa (.attrs [])):i6 S k O ae (.Assign [.Attribute (.Name n np) a6 ap] (.Name x xp) pos) .next (O.set i (.attrs [(a6,.fM j)])):=by
 refine⟨by rw[bi];exact ab _,λA c s env hA hE R E Q hQ=> ?_⟩;refine plainObj_wpAny_Assign_Attribute (hx.run A c s env hA hE R _ _ λc1 v1 s1 l1 R1 K1 a1=> ?_) ?_
 ·refine h.run A c1 s1 env hA (hE.mono l1 (ab _)) R1 _ _ λc2 v2 s2 l2 R2 K2 a2=> ?_;have hF:∃a o,v2= .ref a/\c2.F a=aa o/\o.dict=aa (c2.Z i):=by left;let ⟨a,o,mA,e,h1,h2,_⟩:=R2.inst hi a2;right;exact⟨a,o,e,h1,h2⟩
  left;let ⟨a,o,mA,rfl,h1,h2,hI,hm1,hm2⟩:=R2.inst hi a2;let ⟨nm,q,bs,sn,sub,OJ,dd,k0,k1,k2,k3,k5,mN,hC,vt,hN⟩:=R2.clsAt;right;have hxC:a≠182:=by rintro rfl;let ⟨o',sd,Xd,_⟩:=id hI;rw[R2.frozen _ _ h1]at sd;obtain rfl:=ag sd;have:=R2.frozen _ _ h1;rw[hC]at this;obtain rfl:=ag this;nomatch Xd
  let ⟨hp,g,d',t,os⟩:=s2;refine store_attr (ns:=[]) F.store_object hC vt (hN (ah "__setattr__",ac) (by unfold iW;walk_at "a")) (hN (ah "_headers",ac) (by unfold iW;walk_at "a")) qY hxC hI (λh' tk' I' hk qd=> ?_) ?_ ?_
  ·have sM:h'.get? a=aa o:=by let ⟨aj2,e1,e2,e3,e4,e5⟩:=qd o (R2.frozen _ _ h1);rw[e1];let ⟨c1,d1,x1,y1⟩:=aj2;let ⟨c0,d0,x0,y0⟩:=o;have e5':=e5 _ h2;subst e2;subst e3;subst e4;have Om:d0=aa (c2.Z i):=h2;have aj3:d1=aa (c2.Z i):=e5';rw[Om,aj3]
   have hd:∃oD,h'.get? (c2.Z i)=aa oD/\ic S.w c2 ↑O oD (.attrs [(a6,.fM j)]):=by
    left;let ⟨o',sd,Xd,hnc,hdx⟩:=I';right;rw[sM]at sd;obtain rfl:=ag sd;left;rcases hdx with⟨hn0,_⟩|⟨d',Aj,agO,oD,es,ep,hoD,e1,e2,e3,e4⟩
    ·rw[hn0]at h2;nomatch h2
    ·right;rw[h2]at Aj;obtain rfl:=ag Aj;refine⟨oD,hoD,.attrs e1 e2 e3 (by show [a6].Nodup;simp) (λx d hxd=> ?_) λx hx=> ?_⟩
     ·rw[aC]at hxd;let ⟨rfl,rfl⟩:=bB hxd;exact⟨v1,by rw[e4];exact if_pos rfl,a1.mono l2 (ab _)⟩
     ·rw[e4];have:x≠a6:=λe=>hx (e▸ay);show(if x=a6 then aa v1 else mA x)=_;rw[if_neg this];exact hm2 x (by simp)
   let ⟨oD,hoD,hrD⟩:=hd;refine hQ c2 .next ⟨h',g,d',tk',os⟩ (l1.trans l2 (ab _)) (R2.set (getElem?_lt' hi) (λb ob hb e=> ?_) hoD hrD) ((K1.trans K2).trans (.heap ..)) .next;by_cases hba:b=a
   ·subst hba;rw[R2.frozen _ _ h1]at e;obtain rfl:=ag e;exact sM
   ·exact hk b ob hba (λFw dx e1 e2=>by
     rw[R2.frozen _ _ h1]at e1;obtain rfl:=ag e1;rw[h2]at e2;obtain rfl:=ag e2;exact hb) e
  ·intro y hy;exact absurd (hm2 y (by simp)) hy
  ·decide
 ·rfl
noncomputable abbrev vN:Str:=ah "headers"
noncomputable abbrev sK:Str:=ah "k"
noncomputable abbrev sV:Str:=ah "v"
def Bk:pR j7.scope [iV,vN,sK,sV]:=pR.of tt
def P0:me j7.scope [ah "type",ah "list"]:=me.of tt
def Ev.P1 (hj:j= ↑O) (h:bv=O++[.list []]):Ev S k O ae (.List [] pos) (.fM j) bv:=by subst hj h;exact Ev.newList
def MU (hi:O[i]? =aa (.attrs [])):cG S k (O++[.ns [(iV,aa (.inst i)),(vN,~~~PV.none),(sK,ac),(sV,ac)]]) (j7.env (↑O+0)) j7.body .next
  (O.set i (.attrs [(a6,.fM (↑O+1))])++[.ns [(iV,aa (.inst i)),(vN,aa (.fM (↑O+1))),(sK,ac),(sV,ac)],.list []]):=by
 have h1:=Bk;have h2:=P0;apply cG.cons (bA:=O++[.ns [(iV,aa (.inst i)),(vN,aa (.fM (↑O+1))),(sK,ac),(sV,ac)],.list []])
 ·apply i6.assign (bA:=O++[.ns [(iV,aa (.inst i)),(vN,~~~PV.none),(sK,ac),(sV,ac)],.list []]) (d:= .fM (↑O+1))
  ·apply Ev.Yg (b:=false)
   ·apply nX.jr (a:= .pv PV.none) (b:= .pv PV.none)
    ·walk_at "b"
    ·walk_at "b"
    ·intro S k A c s u v hA R ha hb E Q hQ;have e1:=ha.dn;have e2:=hb.dn;subst e1 e2;exact CS rfl (hQ c _ _ (.refl ..) R (.refl ..) (.pv (.con _)))
    ·rfl
   ·rw[if_neg bG];apply Ev.P1 (by simp) (by simp)
  ·apply jK.x7 h1
   ·rfl
   ·walk_at "a"
   ·walk_at "e"
   ·walk_at "c"
   ·walk_at "d"
  ·intro _ _;rfl
 apply cG.cons
 ·apply i6.if (b:=false)
  ·apply nX.jr (a:= .pv (.con (.type "list"))) (b:= .pv (.con (.type "list")))
   ·apply Ev.PZ (d:= .fM (↑O+1)) (l:=[])
    ·walk_at "b"
    ·walk_at "b"
    ·exact IsL.fM (by walk_at "e")
    ·rfl
   ·walk_at "b"
   ·intro S k A c s u v hA R ha hb E Q hQ;have e1:=ha.dn;have e2:=hb.dn;subst e1 e2;exact CS rfl (hQ c _ _ (.refl ..) R (.refl ..) (.pv (.con _)))
   ·rfl
  ·exact cG.nil
 apply cG.cons
 ·apply i6.I9 (i:=i) (j:= ↑O+1)
  ·walk_at "b"
  ·walk_at "b"
  ·exact gp hi
 rw[kH _ _ (getElem?_lt' hi)];apply cG.cons
 ·apply i6.if (b:=true)
  ·exact nX.Be Ev.bool λ_ _=>rfl
  ·rw[if_pos rfl];apply cG.cons
   ·apply i6.Yh (d:= .fM (↑O+1))
    ·rw[show j7.env (↑O+0)=j7.env ((O.set i (.attrs [(a6,.fM (↑O+1))])).length+0) by rw[bi]];apply Ev.loc h1
     ·rfl
     ·walk_at "a"
     ·walk_at "e"
     ·walk_at "a"
     ·kernel_rfl
    ·apply IsL.fM;rw[aE (by rw[bi];exact bh _ _),bi,bO];rfl
    ·intro _ _;rfl
   ·exact cG.nil
 exact cG.nil
def Bl:j7∈fV:=by unfold fV;walk_at "a"
def fc {P:α->Prop} (h:P a) (hl:∀x∈l,P x):∀x∈a::l,P x:=List.forall_mem_cons.mpr ⟨h,hl⟩
def Ev.Ja (hf:nJ S (k+2) O ae (.Name f np) (.con (.ref 182))):Ev S (k+2) O ae (.Call (.Name f np) [] [] pos) (.inst ↑O) (O++[.attrs [(a6,.fM (↑O+2))],.qa,.list []]):=by
 refine⟨by rw[aj];exact OP,λA c s env hA hE R E Q hQ=> ?_⟩;refine cn (hf.run A c s env hA hE R _ _ λc1 v1 s1 l1 R1 K1 a1=> ?_);have e':=a1.dn;subst e';left;let ⟨nm,q,bs,sn,sub,OJ,dd,k0,k1,k2,k3,k5,mN,hC,vt,hN⟩:=R1.clsAt;have hi:=hN (ah "__init__",aa (.ref 76)) (by unfold iW;walk_at "a");let ⟨o,pm,ho,FD,B3,CQ⟩:=R1.fn Bl;right;refine callWith_cls hC rfl rfl ?_;let ⟨hp,g,d',t,os⟩:=s1;refine wpAny_call_obj_init F.objNew hC vt hi ho FD λh' x dx Mk=> ?_;left;let ⟨ox,hx,hcx,aj5,hdx⟩:=Mk.inst;have hdd:=Mk.dict ox hx;right;have tY:dx≠x/\∃oD es ep,h'.get? dx=aa oD/\oD.data= .dict es ep/\CW es/\VC es/\∀y,nsFind es y=ac:=by
  left;rcases hdx with(⟨hn0,_⟩|⟨d1,Aj,agO,oD,es,ep,e0,e1,e2,e3,e4⟩)
  ·right;rw[hn0]at hdd;cases hdd
  ·right;rw[hdd]at Aj;cases Aj;exact⟨agO,oD,es,ep,e0,e1,e2,e3,e4⟩
 left;let ⟨oQ,oD,es,ep,e0,e1,e2,e3,e4⟩:=tY;have f0:=R1.WS Mk.newX;right;have hfx:qC (c1.own ↑O dx) ↑(O++[AO.attrs []]) x:= {
  F:=f0.F
  Z:=λi hi e=>by
   rw[aj,be]at hi;have e':(if i= ↑O then dx else c1.Z i)=x:=e;by_cases h:i= ↑O
   ·rw[if_pos h]at e';exact oQ e'
   ·rw[if_neg h]at e';exact f0.Z i (ID hi h) e'
  pin:=f0.pin
  tab:=f0.tab}
 have R3:=(R1.ajh Mk.keeps (R1.WS Mk.newD) e0 (.attrs e1 e2 e3 kK (λx d hx=>by cases hx) λy _=>e4 y):Rel S (c1.own ↑O dx) (O++[.attrs []]) h').freeze hfx hx;generalize Oq:(c1.own ↑O dx).put x ox=c3 at R3;have hv:cT S.w c3 ↑(O++[AO.attrs []]) (.ref x) (.inst ↑O):=by rw[<- Oq];refine .inst (a:=x) (o:=ox) (if_pos rfl) hcx aj5 ?_ (by rw[aj];exact ez _);rw[hdd];exact congrArg aa (aM.ma ..).symm
 have Xg:jF (k+1) (A.under (.builtin "type.__call__" ⟨[.ref 182],[]⟩)):=hA.MT;left;let ⟨o69,n69,h69,aj6⟩:=S.DU;have aj7:=R3.old h69 ∅;right;have Kb:h'.CodeRec ((j7.fd pm).code) (j7.fd pm).qualname:=by left;let ⟨Fw,af6,_,_,_,al6⟩:=S.fns j7 Bl;right;exact CQ.keeps Mk.keeps
 refine v8 (codeAny_call_def (fd:=j7.fd pm) (body:=j7.body) (binds:=[(iV,.ref x),(vN,.none)]) Xg.room (Mk.keeps _ _ ho) B3 R3.lim Kb rfl (BindsTo.of_defaults rfl aj7 aj6 rfl (by with_unfolding_all rfl)) (by decide+kernel:∀x∈j7.scope.names,x.2≠ .cell) ?_ (λh₀ tZ agP=> ?_) rfl rfl rfl)
 ·exact fa2 (lk Bk [iV] tt _ ay) (lk Bk [vN] tt _ ay)
 have ub: ↑(O++[AO.attrs []])= ↑O+1:=by rw[aj,be]
 have aj8:h₀.Ns h'.objs.size λy=>([(iV,eM x),(vN,qg)]:List (Str×Value)).reverse.lookup y:=tZ;have ZI:∀b o,h'.get? b=aa o->h₀.get? b=aa o:=agP;let ⟨on,hon,hrn⟩:=ic.Pg (w:=S.w) (c:=c3.own ↑(O++[AO.attrs []]) h'.objs.size) (n:= ↑(O++[AO.attrs []])+1) (m:=[(iV,aa (.inst ↑O)),(vN,~~~PV.none),(sK,ac),(sV,ac)]) aj8 (by decide: [iV,vN,sK,sV].Nodup)
  (λy d hy=>fc (P:=λp:Str×Option AV=>∀d,p.2=aa d->∃v,([(iV,eM x),(vN,qg)]:List (Str×Value)).reverse.lookup p.1=aa v/\cT S.w (c3.own ↑(O++[AO.attrs []]) h'.objs.size) (↑(O++[AO.attrs []])+1) v d)
   (λd e=>ag e▸⟨.ref x,rfl,hv.mono aM.jc (mv _)⟩) (fc (λd e=>ag e▸⟨.none,rfl,.pv (.con _)⟩) (fc (λd e=>gr e) (fc (λd e=>gr e) fa0))) _ hy d rfl)
  (λy hy=>fc (P:=λp:Str×Option AV=>ac=p.2->([(iV,eM x),(vN,qg)]:List (Str×Value)).reverse.lookup p.1=ac) gr (fc gr (fc (λ_=>rfl) (fc (λ_=>rfl) fa0))) _ hy rfl)
 have hE:cY (c3.own ↑(O++[AO.attrs []]) h'.objs.size) (O++[AO.attrs []]++[AO.ns [(iV,aa (.inst ↑O)),(vN,~~~PV.none),(sK,ac),(sV,ac)]]).length (j7.env (↑(O++[AO.attrs []])+0)) (callEnv (j7.fd pm) h'.objs.size j7.addr):= {
  scope:=rfl
  kind:=rfl
  locals:=(aM.ma c3 ↑(O++[AO.attrs []]) _).symm
  fi:=by rw[aj (as:=O++[AO.attrs []])];exact ez _
  globals:=rfl
  builtins:=rfl
  cells:=rfl
  jq:=λp hp=>by cases hp
  code:=λa e=>by cases e;rfl
  frame:=⟨_,rfl⟩}
 refine(MU (S:=S) (k:=k) (O:=O++[AO.attrs []]) (i:= ↑O) (by rw[aE (ab _),dc];rfl)).run _ _ {(⟨h',g,d',t,os⟩:bb)with heap:=h₀,toks:=t+2} _ Xg.deeper hE (R3.Az (h':=h₀) (o:=on) ZI (ab _) hon hrn) _ _ λc5 v5 s5 l5 R5 K5 f5=> ?_;cases f5;have hl:(O++[AO.attrs []]).set ↑O (.attrs [(a6,.fM (↑(O++[AO.attrs []])+1))])++[.ns [(iV,aa (.inst ↑O)),(vN,aa (.fM (↑(O++[AO.attrs []])+1))),(sK,ac),(sV,ac)],.list []]
   =O++[.attrs [(a6,.fM (↑O+2))],.ns [(iV,aa (.inst ↑O)),(vN,aa (.fM (↑O+2))),(sK,ac),(sV,ac)],.list []]:=by
  rw[j5 _ _ (ab _),dc,ub,OB,bF];rfl
 rw[hl]at R5;have R6:=R5.qa (i:= ↑O+1) (by rw[aj];show ↑O+1< ↑O+3;exact abV);rw[j5 _ _ (F7),bO,OC,OB]at R6;have l35:aM.le (↑O+1) c3 c5:=by have:=(aM.jc (c:=c3) (n:= ↑O+1) (a:=h'.objs.size));rw[ub]at l5;exact this.trans (l5.weak (by rw[aj,ub];exact bh ..)) (ab _)
 have K35:dZ (⟨hp,g,d',t,os⟩:bb) {(⟨h',g,d',t,os⟩:bb)with heap:=h₀,toks:=t+2}:= .heap ..;refine⟨rfl,hQ c5 (.ref x) s5 ((l1.trans (by exact Oq▸(aM.jc.trans (aM.dC hfx.F)) (ab _)) (ab _)).trans (l35.weak (mv _)) (ab _)) R6 ((K1.trans K35).trans K5) ?_⟩;rw[ub]at hv;exact(hv.mono l35 (ab _)).mono (.refl ..) (by rw[aj];show ↑O+1<= ↑O+3;exact abW)
section
variable {lay:Lay}
def dy.le (x:dy S h O f args kw d bv) (hk:h<=k):dy S k O f args kw d bv:=⟨x.len,λA c s fv vs kvs hA=>x.run A c s fv vs kvs (hA.le hk)⟩
def GZ (st:St):Option (CV×St):=aa (.inst ↑st.ob,alloc (.list []) (alloc .qa (alloc (.attrs [(a6,.ob (↑st.ob+2))]) st)))
def MI.ahA (hk:2<=k) (hg:lay.grow=true) (h:lay.mh "Headers" =true):MI S k lay (.Call (.Name "Headers" np) [] [] pos) GZ:=by
 intro p O st v cg bc hf;let ⟨rfl,rfl⟩:=bB (ag hf);obtain⟨k',rfl⟩:∃k',k=k'+2:=⟨k- 2,by simp_all⟩;let ⟨a1,b1,c1⟩:=bc.alloc hg (.attrs [(a6,.ob (↑st.ob+2))]);let ⟨a2,b2,c2⟩:=a1.alloc hg .qa;let ⟨a3,b3,c3⟩:=a2.alloc hg (.list []);refine⟨_,?_,a3,(b1.trans b2 bc).trans b3 bc⟩;have e2:CO.ao p.oi (.attrs [(a6,.ob (↑st.ob+2))])= .attrs [(a6,.fM (↑O+2))]:=by show AO.attrs [(a6,AV.fM (p.oi (↑st.ob+2)))]=_;rw[bc.next hg 2]
 rw[(by show AV.inst (p.oi ↑st.ob)=_;rw[c1]:CV.av p.oi (.inst ↑st.ob)= .inst ↑O),e2,bF,bF];exact(Ev.Ja (S:=S) (k:=k') (O:=O) (ae:=lay.en p) (np:=np) (pos:=pos) (Ev.Gi h (by show(_,aa (eM 182))∈cf;unfold cf;walk_at "a")))
def afv:List CV->Option Str
 | []=>ac
 | [v]=>v.aS
 |_::_::_=>ac
def P2 (h:afv l=aa x):l=[.pv (.str x)]:=by
 rcases l with _|⟨v,_|_⟩
 ·exact gr h
 ·rw[CV.kS h]
 ·exact gr h
def mX (f:EF) (fa:St->Option (List CV)) (st:St):Option CV:=
 (f st).bind λv=>(st.I8 v).bind λq=>((fa st).bind afv).bind λx=>(ky q.2 [.str x]).map λr=> .pv r.1
def cJ.PY (hk:2<=k) (h:cJ S k lay o f) (ha:pS S k lay args fa) (hn: ↑args<20) (ik:∀env,attributeBase o "get_all" env (eval o env)=eval o env) (gC:(jx.endLine==pos.line)=true):
  cJ S k lay (.Call (.Attribute o "get_all" jx) args [] pos) (mX f fa):=by
 intro p O st v bc hf;refine a9 hf λov ho hf=>a9 hf λq hq hf=>a9 hf λx hx hf=>a9 hx λ_ hx e=> ?_;let ⟨hh,l⟩:=q;rw[P2 e]at hx;let ⟨⟨d,l'⟩,hm,rfl⟩:=ar.mp hf;have hl:=ES hm;subst hl;left;let ⟨i,e1,e2,e3,e4⟩:=bc.I8 hq;have hc:=dy.PY (S:=S) e2 e3 e4 hm;right;rw[set_same e3]at hc;have h0:=h p O st _ bc ho;rw[e1]at h0;exact Ev.ut Yd (by unfold iW;show(_,aa (eM 121))∈_;walk_at "a") zD h0 e2 (by show _∉ [a6];decide) (ha p O st _ bc hx) .nil (hc.le hk) ik gC hn
def ET (f:EF) (st:St):Option CV:=
 (f st).bind λv=>(st.I8 v).bind λq=>(w6 q.2 []).map λr=> .pv r.1
def cJ.items (hk:1<=k) (h:cJ S k lay o f) (ik:∀env,attributeBase o "items" env (eval o env)=eval o env) (gC:(jx.endLine==pos.line)=true):
  cJ S k lay (.Call (.Attribute o "items" jx) [] [] pos) (ET f):=by
 intro p O st v bc hf;unfold ET at hf;simp only[aG,ar]at hf;left;let ⟨ov,ho,⟨hh,l⟩,hq,⟨d,l'⟩,hm,e⟩:=hf;right;subst e;have hl:=GY hm;subst hl;left;let ⟨i,e1,e2,e3,e4⟩:=bc.I8 hq;have hc:=dy.items (S:=S) e2 e3 e4 hm;right;rw[set_same e3]at hc;have h0:=h p O st _ bc ho;rw[e1]at h0;exact Ev.ut Ye (by unfold iW;show(_,aa (eM 146))∈_;walk_at "a") Bd h0 e2 (by show _∉ [a6];decide) .nil .nil (hc.le hk) ik gC ∅
def eJ (f:EF) (fa:St->Option (List CV)) (st:St):Option (pn×St):=
 (f st).bind λv=>(st.I8 v).bind λq=>((fa st).bind two?).bind λa=>(oH q.2 [.str a.1,.str a.2,.oO []]).map λr=>(.next,qT q.1 (.list r.2) st)
def ms.Dp (hk:2<=k) (h:cJ S k lay o f) (ha:pS S k lay args fa) (hn: ↑args<20) (ik:∀env,attributeBase o "add_header" env (eval o env)=eval o env) (gC:(jx.endLine==pos.line)=true)
  (hs:swapsWith (.Call (.Attribute o "add_header" jx) args [] pos) ac FC.line=λ_=>pure false):
  ms S k lay (.Expr (.Call (.Attribute o "add_header" jx) args [] pos) FC) (eJ f fa):=by
 intro p O st fl cg bc hf;let ⟨ov,ho,hf⟩:=aG.mp hf;let ⟨⟨hh,l⟩,hq,hf⟩:=aG.mp hf;let ⟨a,hx,hf⟩:=aG.mp hf;let ⟨as,hx,h2⟩:=aG.mp hx;rw[Lc h2]at hx;let ⟨⟨d,l'⟩,hm,e⟩:=ar.mp hf;let ⟨rfl,rfl⟩:=bB e;let ⟨i,e1,e2,e3,e4⟩:=bc.I8 hq;let ⟨b,c⟩:=bc.AY (by let ⟨_,_,_,x⟩:=GX hq;exact x) (.list l');have h0:=h p O st _ bc ho;rw[e1]at h0;exact⟨_,i6.expr (Ev.ut I7 (by unfold iW;show(_,aa (eM 179))∈_;walk_at "a") rR h0 e2 (by show _∉ [a6];decide) (ha p O st _ bc hx) .nil ((dy.Dp (S:=S) e2 e3 e4 hm).le hk) ik gC hn) hs,b,c⟩
end
def Oi (S:cz) (k:Nat) (O:List AO) (ae:iv) (e:Expr) (d:AV) (bv:List AO):Prop:=
 ∀A c s env,jF k A->0<s.toks->cY c ↑O ae env->Rel S c O s.heap->Tr S O A c s (eval e env) d bv
def Ev.T (h:Ev S k O ae e d bv):Oi S k O ae e d bv:=λA c s env hA _ hE R=>h.run A c s env hA hE R
def Oi.replace (h:Oi S k O ae o (.pv (.str x)) O) (oQ:(q==e)=false) (hx: ↑x<=1048576) (he: ↑e<=14)
  (ik:∀env,attributeBase o "replace" env (eval o env)=eval o env) (gC:(jx.endLine==pos.line)=true):
  Oi S k O ae (.Call (.Attribute o "replace" jx) [.Constant (.str q) n1 p1,.Constant (.str e) n2 p2] [] pos) (.pv (.str (iO x q e))) O:=by
 intro A c s env hA ht hE R E Q hQ;have ha:ck S k O ae [.Constant (.str q) n1 p1,.Constant (.str e) n2 p2] [.pv (.str q),.pv (.str e)]:= .cons Ev.str (.cons Ev.str .nil rfl) rfl;refine eK (ik env) (AN ha pos env (by show 2<30;decide)) gC (mE (n:=1) ht (h A c s env hA ht hE R _ _ λc1 v1 s1 l1 R1 K1 a1=>λJ3=> ?_));have JX:=a1.gh;let ⟨t1,rfl⟩:=JX.mG;refine⟨"str", "str.replace",F.plainAttrs_str,F.slot_str_replace,F.type_str_replace,si ..,(λ_ e=>nomatch e),cX (noStar ha pos env) ?_⟩;refine lD (rest:=[(false,eval (.Constant (.str e) n2 p2) env)]) (keywords:=[]) rfl ?_;refine bX (kj (k:=n1) (pos:=p1) (bX (kj (k:=n2) (pos:=p2) (eB (iI ?_)))));refine SC.replaceW (u:=s1.toks) (v:=s1.toks+1) (by show s1.toks≠(0:Nat);exact jV ‹_›) (by show s1.toks+1≠(0:Nat);simp) (by show s1.toks≠s1.toks+1;simp) oQ hx he λt' k'=> ?_;exact hQ c1 _ _ l1 R1 (K1.trans (.toks ..)) (.pv (.str ..))
def Oi.Pe (h1:Oi S k O ae l (.pv a) O) (h2:nJ S k O ae r b) (ho:Gd (binaryOp op) a b d):Oi S k O ae (.BinOp l op r pos) (.pv d) O:=
 λA c s env hA ht hE R E Q hQ=>F1 (h1 A c s env hA ht hE R _ _ λc1 v1 s1 l1 R1 K1 a1=>h2.run A c1 s1 env hA (hE.mono l1 (ab _)) R1 _ _ λc2 v2 s2 l2 R2 K2 a2=>
  ho S k O A c2 s2 v1 v2 hA R2 (a1.mono l2 (ab _)).gh a2.gh _ _ λc3 v3 s3 l3 R3 K3 a3=>hQ c3 v3 s3 ((l1.trans l2 (ab _)).trans l3 (ab _)) R3 ((K1.trans K2).trans K3) a3)
structure Top (A:cS) (env:lY):Prop where
 frames:A.frames=aa [env]
 frame:env.frame=aa env.locals
structure Z6 (S:cz) (k:Nat) (O:List AO) (ae:iv) (st:Stmt) (f:nW) (bv:List AO):Prop where
 len: ↑O<= ↑bv
 run:∀A c s env,jF k A->Top A env->0<s.toks->cY c ↑O ae env->Rel S c O s.heap->TrF S O A c s (exec st env) f bv
structure EU (S:cz) (k:Nat) (O:List AO) (ae:iv) (Vi:List Stmt) (f:nW) (bv:List AO):Prop where
 len: ↑O<= ↑bv
 run:∀A c s env,jF k A->Top A env->0<s.toks->cY c ↑O ae env->Rel S c O s.heap->TrF S O A c s (execs Vi env) f bv
def i6.K (h:i6 S k O ae st f bv):Z6 S k O ae st f bv:=⟨h.len,λA c s env hA _ _=>h.run A c s env hA⟩
def EU.nil:EU S k O ae [] .next O:=⟨ab _,λA c s env hA _ _=>cG.nil.run A c s env hA⟩
def EU.cons (h1:Z6 S k O ae st .next bA) (h2:EU S k bA ae rest f bP):EU S k O ae (st::rest) f bP:=
 ⟨aA h1.len h2.len,λA c s env hA hF ht hE R E Q hQ=>da (mE (n:=1) ht (h1.run A c s env hA hF ht hE R _ _ λc1 v1 s1 l1 R1 K1 f1=>by
  intro J3;obtain rfl:=f1.wz;exact h2.run A c1 s1 env hA hF J3 (hE.mono l1 h1.len) R1 _ _ λc2 v2 s2 l2 R2 K2 f2=>hQ c2 v2 s2 (l1.trans l2 h1.len) R2 (K1.trans K2) f2))⟩
def EU.ret (h1:Z6 S k O ae st (.ret d) bA):EU S k O ae (st::rest) (.ret d) bA:=
 ⟨h1.len,λA c s env hA hF ht hE R E Q hQ=>da (h1.run A c s env hA hF ht hE R _ _ λc1 v1 s1 l1 R1 K1 f1=>by
  let ⟨_,q,f2⟩:=f1.Mp;cases q;exact hQ c1 _ s1 l1 R1 K1 (.ret f2))⟩
section
variable {lay:Lay}
def je (S:cz) (k:Nat) (lay:Lay) (s:Stmt) (F:St->Option (pn×St)):Prop:=
 ∀p O st fl cg,At lay p st O->F st=aa (fl,cg)->∃bv,Z6 S k O (lay.en p) s (fl.af p.oi) bv/\At lay p cg bv/\ku lay p st cg O bv
def tG (S:cz) (k:Nat) (lay:Lay) (ss:List Stmt) (F:St->Option (pn×St)):Prop:=
 ∀p O st fl cg,At lay p st O->F st=aa (fl,cg)->∃bv,EU S k O (lay.en p) ss (fl.af p.oi) bv/\At lay p cg bv/\ku lay p st cg O bv
def je.of (h:ms S k lay s F):je S k lay s F:=λp O st fl cg bc hf=>
 xe13 (h p O st fl cg bc hf) λbv a b c=>⟨bv,a.K,b,c⟩
def tG.nil:tG S k lay [] br:=λp O st fl cg bc hf=>by let ⟨rfl,rfl⟩:=bB (ag hf);exact⟨O,.nil,bc,.refl ..⟩
def tG.cons (h1:je S k lay s f) (h2:tG S k lay ss g):tG S k lay (s::ss) (aB f g):=by
 intro p O st fl cg bc hf;unfold aB at hf;split at hf
 ·rename_i st1 e;left;let ⟨lK,a1,b1,c1⟩:=h1 p O st _ st1 bc e;let ⟨uV,a2,b2,c2⟩:=h2 p lK st1 _ cg b1 hf;right;exact⟨uV,.cons a1 a2,b2,c1.trans c2 bc⟩
 ·rename_i v st1 e;let ⟨rfl,rfl⟩:=bB (ag hf);let ⟨lK,a1,b1,c1⟩:=h1 p O st _ _ bc e;exact⟨lK,.ret a1,b1,c1⟩
 ·nomatch hf
def Ls (i:Nat) (f:EF) (q q':Str) (g:EF) (st:St):Option (pn×St):=((f st).bind CV.aS).bind λx=>((g st).bind CV.aP).bind λz=>if ↑x<=1048576/\(iO x q "").length<=1048576 then(AF .Add (.str (iO (iO x q "") q' "")) z).map λd=>(.next,ie i (.pv d) st) else ac
def je.bare (h:cJ S k lay o f) (hz:cJ S k lay z g) (hx:lay.nk i x=true) (hq:(q==ah "")=false) (S7:(q'==ah "")=false)
  (ik:∀env,attributeBase o "replace" env (eval o env)=eval o env)
  (ZJ:∀env,attributeBase (.Call (.Attribute o "replace" a1) [.Constant (.str q) n1 p1,.Constant (.str "") n2 p2] [] c1) "replace" env (eval (.Call (.Attribute o "replace" a1) [.Constant (.str q) n1 p1,.Constant (.str "") n2 p2] [] c1) env)=eval (.Call (.Attribute o "replace" a1) [.Constant (.str q) n1 p1,.Constant (.str "") n2 p2] [] c1) env)
  (hl1:(a1.endLine==c1.line)=true) (CP:(a2.endLine==c2.line)=true)
  (hs:∀env,env.scope=lay.scope->swapsWith (.BinOp (.Call (.Attribute (.Call (.Attribute o "replace" a1) [.Constant (.str q) n1 p1,.Constant (.str "") n2 p2] [] c1) "replace" a2) [.Constant (.str q') n3 p3,.Constant (.str "") n4 p4] [] c2) .Add z bp) (aa (.Name x xp)) pos.line env=pure false):
  je S k lay (.Assign [.Name x xp] (.BinOp (.Call (.Attribute (.Call (.Attribute o "replace" a1) [.Constant (.str q) n1 p1,.Constant (.str "") n2 p2] [] c1) "replace" a2) [.Constant (.str q') n3 p3,.Constant (.str "") n4 p4] [] c2) .Add z bp) pos) (Ls i f q q' g):=by
 intro p O st fl cg bc hf;refine a9 hf λy hy hf=>a9 hy λ_ hy e1=>a9 hf λw hw hf=>a9 hw λ_ hw e2=> ?_;rw[CV.kS e1]at hy;rw[CV.kP e2]at hw;let ⟨cH,hf⟩:=En hf;let ⟨d,hd,e⟩:=ar.mp hf;let ⟨rfl,rfl⟩:=bB e;let ⟨bv,a,b,c⟩:=bc.ie (S:=S) hx (.pv d);refine⟨bv,⟨a.len,λA c s env hA hF ht hE R E Q hQ=> ?_⟩,b,c⟩;exact kZ ((Oi.Pe ((Oi.replace ((Oi.replace (h p O st _ bc hy).T hq cH.1 ∅ ik hl1:Oi S k O (lay.en p) (.Call (.Attribute o "replace" a1) [.Constant (.str q) n1 p1,.Constant (.str "") n2 p2] [] c1) _ O)) S7 cH.2 ∅ ZJ CP:Oi S k O (lay.en p) (.Call (.Attribute (.Call (.Attribute o "replace" a1) [.Constant (.str q) n1 p1,.Constant (.str "") n2 p2] [] c1) "replace" a2) [.Constant (.str q') n3 p3,.Constant (.str "") n4 p4] [] c2) _ O)) (hz p O st _ bc hw) (Pl hd) (pos:=bp)) A c s env hA ht hE R _ _ λc1 v1 s1 l1 R1 K1 a1=>a.run A c1 s1 env v1 (hE.mono l1 (ab _)) R1 a1 _ _ λc2 s2 l2 R2 K2=>hQ c2 .next s2 (l1.trans l2 (ab _)) R2 (K1.trans K2) .next) (hs env hE.scope)
end
def Stk (O:List AO) (c:aM) (A:cS):Prop:=∃l,A.frames=aa l/\∀e∈l,e.scope.kind≠ .module/\∃i m,e.frame=aa (c.Z i)/\O[i]? =aa (.ns m)
structure w7 (S:cz) (c:aM) (O:List AO) (B h:iS):Prop where
 rel:Rel S c O h
 F:∀a o,c.F a=aa o->B.get? a=aa o
 pin:∀a o,c.pin a=aa o->B.get? a=aa o
 tab:∀q∈cm,∀o,h.get? q.2=aa o->B.get? q.2=aa o
 own:∀(i:Nat) (x:AO),O[i]? =aa x->(∃m,x= .ns m)\/∀o,h.get? (c.Z i)=aa o->B.get? (c.Z i)=aa o
def w7.step {c:aM} {B h h':iS} (R:w7 S c O B h) (hB:B.StaysIn h') (hu:h.UpToSlots h'):w7 S c O B h' where
 rel:= {
  frozen:=λa o e=>hB _ _ (R.F a o e)
  base:=R.rel.base
  own:=λi x e=>by
   let ⟨o,ho,hr⟩:=R.rel.own i x e;rcases R.own i x e with⟨m,rfl⟩|hb
   ·let ⟨_,_,a,b,nd,d,f⟩:=hr.iNs;let ⟨sl,hs⟩:=hu _ o ho λvs q=>by rw[a]at q;nomatch q
    exact⟨_,hs,.ns (o:= {o with slots:=sl}) a b nd d f⟩
   ·exact⟨o,hB _ _ (hb o ho),hr⟩
  apart:=R.rel.apart
  inj:=R.rel.inj
  pins:=λa o e=>⟨hB _ _ (R.pin a o e),(R.rel.pins a o e).2⟩
  tabs:=λq hq=>let ⟨a,b,ps,d,e⟩:=R.rel.tabs q hq;⟨a,b,ps,hB _ _ (R.tab q hq _ d),e⟩}
 F:=R.F
 pin:=R.pin
 tab:=λq hq o e=>by let ⟨_,_,ps,d,_⟩:=R.rel.tabs q hq;have h1:=R.tab q hq _ d;rw[hB _ _ h1]at e;obtain rfl:=ag e;exact h1
 own:=λi x e=>by
  rcases R.own i x e with h1|h1
  ·exact .inl h1
  ·let ⟨o,ho,_⟩:=R.rel.own i x e;refine .inr λo' e'=> ?_;rw[hB _ _ (h1 o ho)]at e';obtain rfl:=ag e';exact h1 o ho
def w7.drop {c₀ c:aM} {h₀ B h:iS} {τ:List AO} (R:Rel S c₀ O h₀) (R':w7 S c (O++τ) B h):w7 S c O B h where
 rel:=R.drop R'.rel rfl λi x e=> .inl e
 F:=R'.F
 pin:=R'.pin
 tab:=R'.tab
 own:=λi x e=>R'.own i x (by
  have hi:=getElem?_lt' e;exact(aW hi)▸e)
def w7.hide {l:List lY} (R:Rel S c O h) (hl:∀e∈l,e.scope.kind≠ .module/\∃i m,e.frame=aa (c.Z i)/\O[i]? =aa (.ns m)):w7 S c O (hideAll h (l.filterMap (·.frame))) h:=by
 have W7:∀ {a:Addr},a∈l.filterMap (·.frame)->∃i m,a=c.Z i/\O[i]? =aa (.ns m):=λ{a} ha=>by left;let ⟨e,he,hf⟩:=xY.mp ha;let ⟨_,i,m,h1,h2⟩:=hl e he;right;rw[h1]at hf;exact⟨i,m,(ag hf).symm,h2⟩
 refine⟨R,λa o e=>F2 _ (R.frozen a o e) λha=> ?_,λa o e=>F2 _ (R.pins a o e).1 λha=> ?_,λq hq o e=>F2 _ e λha=> ?_,λi x e=> ?_⟩
 ·let ⟨i,m,rfl,hi⟩:=W7 ha;rw[R.apart i (getElem?_lt' hi)]at e;nomatch e
 ·let ⟨i,m,rfl,hi⟩:=W7 ha;exact(R.pins _ o e).2.2.1 i (getElem?_lt' hi) rfl
 ·let ⟨i,m,h1,hi⟩:=W7 ha;exact(R.tabs q hq).2.1 i (getElem?_lt' hi) h1.symm
 ·by_cases ha:c.Z i∈l.filterMap (·.frame)
  ·let ⟨j,m,h1,hj⟩:=W7 ha;have:=R.inj i j (getElem?_lt' e) (getElem?_lt' hj) h1;subst this;rw[hj]at e;obtain rfl:=ag e;exact .inl ⟨m,rfl⟩
  ·exact .inr λo ho=>F2 _ ho ha
def MV (R:Rel S c O h) (fs:List Addr) (l:List lY):(∀e∈l,e.scope.kind≠ .module/\∃i m,e.frame=aa (c.Z i)/\O[i]? =aa (.ns m))->(∀e∈l,∀a,e.frame=aa a->a∈fs)->h.FunFrames (hideAll h fs) l:=by
 induction l with
 |nil=>intro _ _;exact trivial
 |cons e l ih=>
  intro hl hf;left;let ⟨h1,i,m,h2,h3⟩:=hl e ay;let ⟨o,ho,hr⟩:=R.own i _ h3;right;refine⟨h1,⟨c.Z i,o,h2,hideAll_none _ (hf e ay _ h2),ho,λvs q=> ?_⟩,ih (λe he=>hl e (aK _ he)) λe he=>hf e (aK _ he)⟩;cases hr with
  |ns a=>rw[a]at q;cases q
noncomputable abbrev Yi:Value:= .type "ValueError"
def Up (S:cz) (c:aM) (O:List AO) (l:List lY) (m:Str) (v:Value) (s:bb):Prop:=
 (∃e h tk,v= .ref e/\Heap.MadeExcOf h s.heap e Yi [.str m tk]/\Rel S c O h)\/∃e t tk B,v= .ref e/\Heap.FlyingW B l e Yi (.ref t) s.heap/\s.heap.TupAt t [.str m tk]/\B.get? t=ac/\w7 S c O B s.heap
def Bm (S:cz) (c:aM) (O:List AO) (l:List lY) (m:Str) (v:Value) (s:bb):Prop:=
 ∃e t tk B,v= .ref e/\Heap.FlyingW B l e Yi (.ref t) s.heap/\s.heap.TupAt t [.str m tk]/\B.get? t=ac/\w7 S c O B s.heap
def G0 {c:aM} {A:cS} {env:lY} {l:List lY} {m:Str} {v:Value} {s:bb} {E:VS} {Q:Unit->bb->Prop} (uM:A.frames=aa (env::l)) (hS:∀e∈env::l,e.scope.kind≠ .module/\∃i m,e.frame=aa (c.Z i)/\O[i]? =aa (.ns m)) (U:Up S c O (env::l) m v s)
  (hQ:∀s',Bm S c O l m v s'->dZ s s'->Q () s'):wpAny (MM S.w) A (leaving env v) Q E s:=by
 let ⟨_,i,mm,hf,_⟩:=hS env ay;rcases U with⟨e,h,tk,rfl,hx,R⟩|⟨e,t,tk,B,rfl,Kf,ht,Sl,RB⟩
 ·have RB:=w7.hide R hS;refine wpAny_leaves_madeW uM hf (λb o q=>of_hideAll _ q) (MV R _ (env::l) hS λe he a ha=>xY.mpr ⟨e,he,ha⟩) hx λh' t Kf ht Sl hu=> ?_;exact hQ _ ⟨e,t,tk,_,rfl,Kf,ht,Sl,RB.step Kf.1 ((Heap.UpToSlots.of_keeps hx.keeps).trans hu)⟩ (dZ.gF s h')
 ·refine wpAny_leaves_onW uM hf Kf λh' agQ hu=> ?_;exact hQ _ ⟨e,t,tk,B,rfl,agQ,ht.of_slots hu,Sl,RB.step agQ.1 hu⟩ (dZ.gF s h')
def Bm.drop (R:Rel S c₀ O h₀) (T:Bm S c (O++τ) l m v s):Bm S c O l m v s:=by left;let ⟨e,t,tk,B,h1,h2,h3,h5,h4⟩:=T;right;exact⟨e,t,tk,B,h1,h2,h3,h5,w7.drop R h4⟩
def wg (O bv:List AO):Prop:=∀(i:Nat) (m:List (Str×Option AV)),O[i]? =aa (.ns m)->∃m',bv[i]? =aa (.ns m')
def wg.refl (O:List AO):wg O O:=λi m h=>⟨m,h⟩
def wg.trans (h:wg a b) (h':wg b c):wg a c:=λi m e=>xe11 (h i m e) λm' e'=>h' i m' e'
def wg.AB (O τ:List AO):wg O (O++τ):=λi m e=>⟨m,by rw[aW (getElem?_lt' e)];exact e⟩
abbrev qb (O:List AO) (c:aM) (l:List lY):Prop:=∀e∈l,e.scope.kind≠ .module/\∃i m,e.frame=aa (c.Z i)/\O[i]? =aa (.ns m)
def qb.step (h:qb O c l) (hn:wg O bv) (hc:aM.le ↑O c c'):qb bv c' l:=λe he=>by left;let ⟨h1,i,m,h2,h3⟩:=h e he;let ⟨m',h4⟩:=hn i m h3;right;exact⟨h1,i,m',by rw[hc.Z i (getElem?_lt' h3)];exact h2,h4⟩
def TrX {α:Type} (S:cz) (O:List AO) (A:cS) (c:aM) (s:bb) (l:List lY) (t:zK α) (m:Str) (bv:List AO):Prop:=
 ∀(E:VS) (Q:α->bb->Prop),(∀c' v s',aM.le ↑O c c'->dZ s s'->Up S c' bv l m v s'->E v s')->wpAny (MM S.w) A t Q E s
structure eZ (S:cz) (k:Nat) (O:List AO) (f:AV) (args:List AV) (kw:List (Str×AV)) (m:Str):Prop where
 run:∀A c s fv vs kvs l,jF k A->A.frames=aa l->qb O c l->Rel S c O s.heap->cT S.w c ↑O fv f->dg S.w c ↑O vs args->kvs.map (·.1)=kw.map (·.1)->dg S.w c ↑O (kvs.map (·.2)) (kw.map (·.2))->TrX S O A c s l (call fv vs kvs) m O
structure yj (S:cz) (k:Nat) (O:List AO) (ae:iv) (e:Expr) (m:Str):Prop where
 run:∀A c s env l,jF k A->A.frames=aa l->qb O c l->cY c ↑O ae env->Rel S c O s.heap->TrX S O A c s l (eval e env) m O
structure qZ (S:cz) (k:Nat) (O:List AO) (ae:iv) (st:Stmt) (m:Str) (bv:List AO):Prop where
 len: ↑O<= ↑bv
 Yq:wg O bv
 run:∀A c s env l,jF k A->A.frames=aa l->qb O c l->cY c ↑O ae env->Rel S c O s.heap->TrX S O A c s l (exec st env) m bv
structure jE (S:cz) (k:Nat) (O:List AO) (ae:iv) (Vi:List Stmt) (m:Str) (bv:List AO):Prop where
 len: ↑O<= ↑bv
 Yq:wg O bv
 run:∀A c s env l,jF k A->A.frames=aa l->qb O c l->cY c ↑O ae env->Rel S c O s.heap->TrX S O A c s l (execs Vi env) m bv
def eZ.Di (F:pW r loc own)
  (gu:∀pm,vH S k O (r.fd pm) args kw binds)
  (ru:jD S (gB r ↑O) (ent O r loc) binds bA)
  (ZK:wg (ent O r loc) bA)
  (dY:jE S k bA (gB r ↑O) r.body m (O++τ)):eZ S (k+1) O (.pv (.con (.ref r.addr))) args kw m:=by
 refine⟨λA c s fv vs kvs l hA hl hS R hf ha hk HR E Q hQ=> ?_⟩;refine wK F gu ru hA R hf ha hk HR λc3 s3 env l3 hE R3 K3 _ uM=> ?_;have ZL:(A.deeper env).frames=aa (env::l):=by show A.frames.map (env:: ·)=_;rw[hl];rfl
 have hS3:qb bA c3 (env::l):=λe he=>by
  rcases aH.mp he with rfl|he
  ·obtain(⟨m',L2⟩):=ZK ↑O _ (by unfold ent;rw[aE (ab _),dc];rfl);exact⟨by rw[hE.scope];show r.scope.kind≠_;rw[F.kind];decide,↑O,m',uM.trans (congrArg aa hE.locals),L2⟩
  ·exact hS.step ((wg.AB O _).trans ZK) l3 e he
 refine dY.run _ c3 s3 env (env::l) hA.deeper ZL hS3 hE R3 _ _ λc4 v4 s4 l4 K4 U=> ?_;refine G0 ZL (hS3.step dY.Yq l4) U λs5 T K5=> ?_;exact hQ c4 v4 s5 (l3.trans l4 ru.X3) ((K3.trans K4).trans K5) (.inr (T.drop R))
def tH (h:qb O c l) (hc:aM.le ↑O c c'):qb O c' l:=h.step (.refl _) hc
def qZ.raise (hf:nJ S k O ae (.Name x np) (.con (.type "ValueError"))):qZ S k O ae (.Raise (aa (.Call (.Name x np) [.Constant (.str m) n p] [] FA)) ac pos) m O:=by refine⟨ab _,.refl _,λA c s env l hA hl hS hE R E Q hQ=> ?_⟩;refine PyProof.Rows.Raise_madeB PySem.F.excCall_ValueError PySem.F.excRaise_ValueError hA.hn (hf.run A c s env hA hE R _ _ λc1 v1 s1 l1 R1 K1 a1=>⟨a1.dn,?_⟩);refine mH (.cons Ev.str .nil rfl) FA A c1 s1 env hA (hE.mono l1 (ab _)) R1 _ _ λc2 vs s2 l2 R2 K2 a2=> ?_;have h9:=a2.i1;clear a2;let ⟨_,_,rfl,a2,b2⟩:=h9;obtain rfl:=b2.i0;have DX:=a2.gh;let ⟨t,rfl⟩:=DX.mG;refine⟨by show 1<=sizeLine;decide,λh' e hm=> ?_⟩;exact hQ c2 _ _ (l1.trans l2 (ab _)) ((K1.trans K2).trans (.gF s2 h')) (.inl ⟨e,s2.heap,t,rfl,hm.of,R2⟩)
def qZ.if (h1:nX S k O ae test b) (h2:jE S k O ae (if b then body else orelse) m bA):qZ S k O ae (.If test body orelse pos) m bA:=
 ⟨h2.len,h2.Yq,λA c s env l hA hl hS hE R E Q hQ=>wpAny_If (h1 A c s env hA hE R _ _ λc1 s1 l1 R1 K1=>by
  induction b with
  |true=>exact h2.run A c1 s1 env l hA hl (tH hS l1) (hE.mono l1 (ab _)) R1 _ _ λc2 v2 s2 l2 K2 U=>hQ c2 v2 s2 (l1.trans l2 (ab _)) (K1.trans K2) U
  |false=>exact h2.run A c1 s1 env l hA hl (tH hS l1) (hE.mono l1 (ab _)) R1 _ _ λc2 v2 s2 l2 K2 U=>hQ c2 v2 s2 (l1.trans l2 (ab _)) (K1.trans K2) U)⟩
def jE.here (h:qZ S k O ae st m bA):jE S k O ae (st::rest) m bA:=
 ⟨h.len,h.Yq,λA c s env l hA hl hS hE R E Q hQ=>da (h.run A c s env l hA hl hS hE R _ _ hQ)⟩
def jE.next (h1:i6 S k O ae st .next bA) (hn:wg O bA) (h2:jE S k bA ae rest m bP):jE S k O ae (st::rest) m bP:=
 ⟨aA h1.len h2.len,hn.trans h2.Yq,λA c s env l hA hl hS hE R E Q hQ=>da (h1.run A c s env hA hE R _ _ λc1 v1 s1 l1 R1 K1 f1=>by
  obtain rfl:=f1.wz;exact h2.run A c1 s1 env l hA hl (hS.step hn l1) (hE.mono l1 h1.len) R1 _ _ λc2 v2 s2 l2 K2 U=>hQ c2 v2 s2 (l1.trans l2 h1.len) (K1.trans K2) U)⟩
def qZ.expr (h:yj S k O ae e m) (hs:swapsWith e ac pos.line=λ_=>pure false):qZ S k O ae (.Expr e pos) m O:=
 ⟨ab _,.refl _,λA c s env l hA hl hS hE R E Q hQ=>yB (h.run A c s env l hA hl hS hE R _ _ hQ) (by
  unfold interactive;rw[hE.scope,hE.kind];rfl) (congrFun hs env)⟩
def qZ.assign (h:yj S k O ae gQ m) (hs:swapsWith gQ (aa (.Name x jW)) pos.line=λ_=>pure false):qZ S k O ae (.Assign [.Name x jW] gQ pos) m O:=
 ⟨ab _,.refl _,λA c s env l hA hl hS hE R E Q hQ=>kZ (h.run A c s env l hA hl hS hE R _ _ hQ) (congrFun hs env)⟩
def yj.EV (hr:r∈fV) (hf:nJ S k O ae (.Name f np) (.con (.ref r.addr))) (ha:ck S k O ae args ds) (hk:o9 S k O ae zG Oo) (hc:eZ S k O (.pv (.con (.ref r.addr))) ds Oo m):
  yj S k O ae (.Call (.Name f np) args zG pos) m:=by
 refine⟨λA c s env l hA hl hS hE R E Q hQ=> ?_⟩;refine cn (hf.run A c s env hA hE R _ _ λc1 v1 s1 l1 R1 K1 a1=> ?_);have e':=a1.dn;subst e';left;let ⟨of,pm,Kd,N0,FH,_⟩:=R1.fn hr;right;refine fJ (o:=of) (fd:=r.fd pm) ?_;refine nj ha hk _ pos A c1 s1 env hA (hE.mono l1 (ab _)) R1 _ _ λc2 vs kvs s2 l2 R2 K2 a2 k2 b2=> ?_;have Ke:s2.heap.get? r.addr=aa of:=by
  let ⟨Fw,_,h0,_,_,_⟩:=S.fns r hr;have oQ:∀q∈cm,r.addr≠q.2:=by
   have:∀r∈fV,∀q∈cm,r.addr≠q.2:=by decide
   exact this r hr
  rw[(R1.old h0 oQ)]at Kd;obtain rfl:=ag Kd;exact(R2.old h0 oQ)
 refine⟨⟨Ke,FH⟩,?_⟩;have uL:=l1.trans l2 (ab _);exact hc.run A c2 s2 _ vs kvs l hA hl (tH hS uL) R2 (.pv (.con _)) a2 k2 b2 E Q λc3 v3 s3 l3 K3 U=>hQ c3 v3 s3 (uL.trans l3 (ab _)) ((K1.trans K2).trans K3) U
def yj.td (hr:r∈fV) (FD:(name,aa (.ref r.addr))∈iW)
  (ZG:typeLookup (.type "object") name=pure ac) (h:Ev S k O ae o (.inst i) O) (hi:O[i]? =aa (.attrs m)) (hm:name∉m.map (·.1)) (ha:ck S k O ae args ds) (hk:o9 S k O ae zG Oo) (hc:eZ S k O (.pv (.con (.ref r.addr))) (.inst i::ds) Oo msg)
  (ik:∀env,attributeBase o name env (eval o env)=eval o env) (gC:(jx.endLine==pos.line)=true) (hn: ↑args+ ↑zG<20):yj S k O ae (.Call (.Attribute o name jx) args zG pos) msg:=by
 refine⟨λA c s env l hA hl hS hE R E Q hQ=> ?_⟩;rw[arm_eval_Call,ik];refine am (h.run A c s env hA hE R _ _ λc1 v1 s1 l1 R1 K1 a1=> ?_);refine am (cV ?_);unfold methodCall;rw[(Lo ha hk pos env hn)];left;let ⟨x,ox,mA,rfl,hFx,hdx,hI,ZH,Vt⟩:=R1.inst hi a1;let ⟨nm,q,bs,sn,sub,OJ,dd,k0,k1,k2,k3,k5,mN,hC,vt,hN⟩:=R1.clsAt;let ⟨of,pm,Kd,N0,FH,_⟩:=R1.fn hr;let ⟨hp,g,d',t,os⟩:=s1;right;refine am (dH (method_of hC vt (hN (ah "__getattribute__",ac) (by unfold iW;walk_at "a")) (hN (ah "__getattr__",ac) (by unfold iW;walk_at "a")) (hN _ FD) Kd N0 ZG hI (Vt _ hm) ?_));refine am (i5 (by unfold methodCallPos;simp[gC]:methodCallPos true o env jx pos=pure pos) ?_);refine fJ (o:=of) (fd:=r.fd pm) ?_;refine nj ha hk _ pos A c1 _ env hA (hE.mono l1 (ab _)) R1 _ _ λc2 vs kvs s2 l2 R2 K2 a2 k2 b2=> ?_;have Ke:s2.heap.get? r.addr=aa of:=by
  let ⟨Fw,_,h0,_,_,_⟩:=S.fns r hr;have oQ:∀q∈cm,r.addr≠q.2:=by
   have:∀r∈fV,∀q∈cm,r.addr≠q.2:=by decide
   exact this r hr
  rw[(R1.old h0 oQ)]at Kd;obtain rfl:=ag Kd;exact(R2.old h0 oQ)
 refine⟨⟨Ke,FH⟩,?_⟩;have uL:=l1.trans l2 (ab _);refine hc.run A c2 s2 _ _ kvs l hA hl (tH hS uL) R2 (.pv (.con _)) (.cons (a1.mono l2 (ab _)) a2) k2 b2 E Q λc3 v3 s3 l3 K3 U=>hQ c3 v3 s3 (uL.trans l3 (ab _)) ((K1.trans K2).trans K3) U
def wg.ns1:wg (O++[.ns m]) (O++[.ns m']):=λi x h=>by
 rcases eH i ↑O with hi|hi|hi
 ·rw[aW hi]at h⊢;exact⟨x,h⟩
 ·subst hi;exact⟨m',by rw[aE (ab _),dc];rfl⟩
 ·rw[aE (ce hi)]at h;have:=getElem?_lt' h;simp at this;exact(abX this hi).elim
def eZ.P4 (F:pW r loc own) (gu:∀pm,jG S O (r.fd pm) args kw binds) (hn:fj r.scope.names=0)
  (ru:jD S (gB r (↑O+0)) (O++[.ns (loc.map λx=>(x,ac))]) binds (O++[.ns aj9]))
  (dY:jE S k (O++[.ns aj9]) (gB r (↑O+0)) r.body m (O++τ)):eZ S (k+1) O (.pv (.con (.ref r.addr))) args kw m:=
 eZ.Di F (λpm=>(gu pm).B) (by unfold ent;rw[hn];exact ru) (by unfold ent;rw[hn];exact wg.ns1) dY
local macro_rules | `(tactic| walk_at "j") => `(tactic| first
  | exact jD.nil
  | (apply jD.cons
     (· apply jK.x7 (by assumption)
        (· rfl)
        (· walk_at "a")
        (· walk_at "e")
        (· walk_at "c")
        (· walk_at "d"))
     (· walk_at "j")))
noncomputable abbrev jH:Str:=ah "lo must be non-negative"
noncomputable abbrev rT:Str:=ah "Control characters not allowed in headers"
def MW:me rB.scope [ah "ValueError"]:=me.of tt
def MX:me cR.scope [ah "ValueError"]:=me.of tt
def eZ.X9 (right:Bool) (DW:lo<0) (hb:∀pm,jG S O ((I0 right).fd pm) args kw [(sA,a),(sX,x),(oT,.pv (.int lo)),(oU,hi),(gq,key)]):eZ S (k+1) O (.pv (.con (.ref (I0 right).addr))) args kw jH:=by
 induction right with
 |false=>
  have h1:=sW;have h2:=MW;have dY:∃τ,jE S k (O++[.ns [(sA,aa a),(sX,aa x),(oT,~~~(.int lo)),(oU,aa hi),(gq,aa key),(sU,ac)]]) (gB fk (↑O+0)) fk.body jH (O++τ):=by
   apply fX;apply jE.here;apply qZ.if (b:=true)
   ·apply nX.to
    ·walk_at "i"
    ·walk_at "k"
   ·apply jE.here;apply qZ.raise;walk_at "b"
  let ⟨τ,dY⟩:=dY;refine eZ.P4 (r:=fk) (loc:=[sA,sX,oT,oU,gq,sU]) (own:=[]) (.of 3 rfl rfl tt) hb rfl ?_ dY;show jD S _ (O++[.ns [(sA,ac),(sX,ac),(oT,ac),(oU,ac),(gq,ac),(sU,ac)]]) _ _;walk_at "j"
 |true=>
  have h1:=tm;have h2:=MX;have dY:∃τ,jE S k (O++[.ns [(sA,aa a),(sX,aa x),(oT,~~~(.int lo)),(oU,aa hi),(gq,aa key),(sU,ac)]]) (gB cR (↑O+0)) cR.body jH (O++τ):=by
   apply fX;apply jE.here;apply qZ.if (b:=true)
   ·apply nX.to
    ·walk_at "i"
    ·walk_at "k"
   ·apply jE.here;apply qZ.raise;walk_at "b"
  let ⟨τ,dY⟩:=dY;refine eZ.P4 (r:=cR) (loc:=[sA,sX,oT,oU,gq,sU]) (own:=[]) (.of 1 rfl rfl tt) hb rfl ?_ dY;show jD S _ (O++[.ns [(sA,ac),(sX,ac),(oT,ac),(oU,ac),(gq,ac),(sU,ac)]]) _ _;walk_at "j"
def MY:me rC.scope [ah "type",ah "str",ah "_name_disallowed_re",ah "_value_disallowed_re",ah "ValueError"]:=me.of tt
def eZ.conv (b:Bool) (hi:i< ↑O) (hb:kU (codeOf b) x=aa true):eZ S (k+1) O (.pv (.con (.ref rC.addr))) [.inst i,.pv (.str x)] [(mC,.pv (PV.bool b))] rT:=by
 have h1:=Bf;have h2:=MY;have dY:∃τ,jE S k (O++[.ns [(iV,aa (.inst i)),(nM,~~~(.str x)),(mC,~~~(PV.bool b)),(tF,ac)]]) (gB rC (↑O+0)) rC.body rT (O++τ):=by
  apply fX;apply jE.here;apply qZ.if (b:=true)
  ·apply nX.jr (a:= .pv (.con (.type "str"))) (b:= .pv (.con (.type "str")))
   ·apply Ev.Lq
    ·walk_at "b"
    ·walk_at "b"
    ·rfl
   ·walk_at "b"
   ·intro S k A c s u v hA R ha hb E Q hQ;have e1:=ha.dn;have e2:=hb.dn;subst e1 e2;exact nS rfl (hQ c _ _ (.refl ..) R (.refl ..) (.pv (.con _)))
   ·rfl
  apply jE.next (bA:=O++[.ns [(iV,aa (.inst i)),(nM,~~~(.str x)),(mC,~~~(PV.bool b)),(tF,~~~(.con (.ref (w4 b))))]])
  ·apply i6.assign
   ·apply Ev.Pu (b:=b) (d:= .pv (.con (.ref (w4 b))))
    ·apply nX.Be
     ·walk_at "b"
     ·intro _ _;rfl
    ·cases b
     ·rw[if_neg bG];apply Ev.Cv (v:= .ref 53) h2
      ·rfl
      ·walk_at "a"
      ·unfold cf;walk_at "a"
      ·rfl
     ·rw[if_pos rfl];apply Ev.Cv (v:= .ref 48) h2
      ·rfl
      ·walk_at "a"
      ·unfold cf;walk_at "a"
      ·rfl
   ·apply jK.x7 h1
    ·rfl
    ·walk_at "a"
    ·walk_at "e"
    ·walk_at "c"
    ·walk_at "d"
   ·intro _ _;rfl
  ·exact wg.ns1
  apply jE.here;apply qZ.if (b:=true)
  ·apply nX.PT (b:=b)
   ·walk_at "b"
   ·walk_at "b"
   ·rfl
   ·exact hb
   ·intro _;rfl
   ·rfl
   ·intro _ _;rfl
  ·apply jE.here;apply qZ.raise;walk_at "b"
 let ⟨τ,dY⟩:=dY;refine eZ.P4 (loc:=[iV,nM,mC,tF]) (own:=[]) (binds:=[(iV,.inst i),(nM,.pv (.str x)),(mC,.pv (PV.bool b))]) (.of 21 rfl rfl tt) (λpm=> ?_) rfl ?_ dY
 ·exact Bg pm
 ·show jD S _ (O++[.ns [(iV,ac),(nM,ac),(mC,ac),(tF,ac)]]) _ _;walk_at "j"
def eZ.uR (DW:lo<0):eZ S (k+2) O (.pv (.con (.ref dQ.addr))) [d,x,.pv (.int lo)] [] jH:=by
 have h1:=tu;have h2:=A5;have dY:∃τ,jE S (k+1) (O++[.ns [(sA,aa d),(sX,aa x),(oT,~~~(.int lo)),(oU,~~~PV.none),(gq,~~~PV.none)]]) (gB dQ (↑O+0)) dQ.body jH (O++τ):=by
  apply fX;apply jE.here;apply qZ.if (b:=true)
  ·apply nX.to
   ·walk_at "i"
   ·walk_at "k"
  ·apply jE.here;apply qZ.assign
   ·apply yj.EV (r:=fk) pA.mem
    ·apply Ev.Cv (by assumption)
     ·rfl
     ·walk_at "a"
     ·show(_,aa (eM 222))∈cf;unfold cf;walk_at "a"
     ·rfl
    ·apply ck.cons
     ·walk_at "b"
     ·apply ck.cons
      ·walk_at "b"
      ·apply ck.cons
       ·walk_at "b"
       ·apply ck.cons
        ·walk_at "b"
        ·exact .nil
        ·rfl
       ·rfl
      ·rfl
     ·rfl
    ·exact .nil
    ·exact eZ.X9 (S:=S) (k:=k) false DW (λpm=>pA.binds .four pm)
   ·exact pp
 let ⟨τ,dY⟩:=dY;refine eZ.P4 (r:=dQ) (loc:=[sA,sX,oT,oU,gq]) (own:=[]) (.of 2 rfl rfl tt) (λpm=>tr.binds .three pm) rfl ?_ dY;show jD S _ (O++[.ns [(sA,ac),(sX,ac),(oT,ac),(oU,ac),(gq,ac)]]) _ _;walk_at "j"
def MZ:me cQ.scope [ah "bisect_right"]:=me.of tt
def eZ.afw (hk:qo key) (hg:su S (k+1) O key g) (hx:g x=aa i) (DW:lo<0):eZ S (k+2) O (.pv (.con (.ref cQ.addr))) [d,.pv x,.pv (.int lo)] [(gq,key)] jH:=by
 have h1:=tz;have h2:=MZ;have dY:∃τ,jE S (k+1) (O++[.ns [(sA,aa d),(sX,~~~x),(oT,~~~(.int lo)),(oU,~~~PV.none),(gq,aa key)]]) (gB cQ (↑O+0)) cQ.body jH (O++τ):=by
  apply fX;apply jE.here;apply qZ.if (b:=false)
  ·apply nX.jr
   ·walk_at "b"
   ·walk_at "b"
   ·exact zz.qV hk
   ·rfl
  ·apply jE.here;apply qZ.assign
   ·apply yj.EV (r:=cR) pB.mem
    ·apply Ev.Cv (by assumption)
     ·rfl
     ·walk_at "a"
     ·show(_,aa (eM 204))∈cf;unfold cf;walk_at "a"
     ·rfl
    ·apply ck.cons
     ·walk_at "b"
     ·apply ck.cons
      ·apply Ev.pu rfl hk
       ·walk_at "b"
       ·apply ck.cons
        ·walk_at "b"
        ·exact .nil
        ·rfl
       ·exact hg _ pz x _ hx
      ·apply ck.cons
       ·walk_at "b"
       ·apply ck.cons
        ·walk_at "b"
        ·exact .nil
        ·rfl
       ·rfl
      ·rfl
     ·rfl
    ·apply o9.cons
     ·walk_at "b"
     ·exact .nil
    ·exact eZ.X9 (S:=S) (k:=k) true DW (λpm=>pB.yd .four pm)
   ·exact pp
 let ⟨τ,dY⟩:=dY;refine eZ.P4 (r:=cQ) (loc:=[sA,sX,oT,oU,gq]) (own:=[]) (.of 0 rfl rfl tt) (λpm=>qW.yd .three pm) rfl ?_ dY;show jD S _ (O++[.ns [(sA,ac),(sX,ac),(oT,ac),(oU,ac),(gq,ac)]]) _ _;walk_at "j"
section
variable {lay:Lay}
def wg.same (bc:At lay p st O) (Sv:At lay p cg bv) (h:ku lay p st cg O bv):wg O bv:=by
 intro i m hi;by_cases h1:i=p.fi
 ·subst h1;exact⟨_,Sv.frame⟩
 by_cases h2:∃j,j<lay.own/\p.ci[j]? =aa i
 ·let ⟨j,hj,Xh⟩:=h2;have hl:j< ↑st.cv:=by rw[bc.xO,<- bc.Fu];exact getElem?_lt' Xh
  let ⟨n,hn,hc⟩:=bc.cells j _ (aq hl);rw[Xh]at hn;obtain rfl:=ag hn;rw[hc]at hi;nomatch hi
 by_cases h3:∃j,j< ↑st.ob/\i=p.oi j
 ·let ⟨j,hj,rfl⟩:=h3;have:=bc.obs j _ (aq hj);rw[this]at hi;cases h:st.ob[j]<;>rw[h]at hi<;>nomatch hi
 ·exact⟨m,by rw[h.out i (getElem?_lt' hi) h1 (λj hj e=>h2 ⟨j,hj,e⟩) (λj hj e=>h3 ⟨j,hj,e⟩)];exact hi⟩
def lG (S:cz) (k:Nat) (lay:Lay) (ss:List Stmt) (F:St->Option St) (m:Str):Prop:=
 ∀p O st cg,At lay p st O->F st=aa cg->∃bv,jE S k O (lay.en p) ss m bv/\At lay p cg bv/\ku lay p st cg O bv
def CD (S:cz) (k:Nat) (lay:Lay) (e:Expr) (P:St->Bool) (m:Str):Prop:=∀p O st,At lay p st O->P st=true->yj S k O (lay.en p) e m
def Bn (f:SF) (g:St->Option St) (st:St):Option St:=(nxt (f st)).bind g
def lG.cons (h1:ms S k lay s f) (h2:lG S k lay ss g m):lG S k lay (s::ss) (Bn f g) m:=by intro p O st cg bc hf;refine a9 hf λst1 e hf=> ?_;let ⟨lK,a1,b1,c1⟩:=h1 p O st _ st1 bc (Lm e);let ⟨uV,a2,b2,c2⟩:=h2 p lK st1 cg b1 hf;exact⟨uV,.next a1 (wg.same bc b1 c1) a2,b2,c1.trans c2 bc⟩
noncomputable def Bo (P:St->Bool) (st:St):Option St:=if P st=true then aa st else ac
def lG.expr (h:CD S k lay e P m) (hs:swapsWith e ac pos.line=λ_=>pure false):lG S k lay (.Expr e pos::ss) (Bo P) m:=by intro p O st cg bc hf;let ⟨hp,rfl⟩:=dT hf;exact⟨O,.here (.expr (h p O st bc hp) hs),bc,.refl ..⟩
def lG.asg (h:CD S k lay e P m) (hs:swapsWith e (aa (.Name x np)) pos.line=λ_=>pure false):lG S k lay (.Assign [.Name x np] e pos::ss) (Bo P) m:=by intro p O st cg bc hf;let ⟨hp,rfl⟩:=dT hf;exact⟨O,.here (.assign (h p O st bc hp) hs),bc,.refl ..⟩
noncomputable def yIf (b:St->Option Bool) (g:St->Option St) (st:St):Option St:=(b st).bind λx=>cond x (g st) ac
def lG.ifT (hb:AH S k lay test b) (h:lG S k lay body g m):lG S k lay (.If test body orelse pos::ss) (yIf b g) m:=by
 intro p O st cg bc hf;refine a9 hf λx e hf=> ?_;induction x with
 |true=>let ⟨lK,a1,b1,c1⟩:=h p O st cg bc hf;exact⟨lK,.here (.if (b:=true) (hb p O st _ bc e) a1),b1,c1⟩
 |false=>exact gr hf
def Bp (b:Bool) (f fe:EF) (st:St):Bool:=(Bh true b f fe st).isSome
def CD.conv (hk:1<=k) (h:cJ S k lay o f) (he:cJ S k lay e fe) (hs:notStar e=true) (ik:∀env,attributeBase o "_convert_string_type" env (eval o env)=eval o env) (gC:(jx.endLine==pos.line)=true):
  CD S k lay (.Call (.Attribute o "_convert_string_type" jx) [e] [⟨aa mC,.Constant (.bool b) n FA,kp⟩] pos) (Bp b f fe) rT:=by
 intro p O st bc hf;let ⟨v,hf⟩:=jk.mp hf;refine Bi hf λj x u hj hx ha hb e=> ?_;have Fz:=bc.obs j _ ha;obtain⟨k',rfl⟩:∃k',k=k'+1:=⟨k- 1,by simp_all⟩;exact yj.td (r:=rC) PU (by unfold iW;show(_,aa (eM 83))∈_;walk_at "a") vm (h p O st _ bc hj) Fz (by show _∉ [a6];decide) (.cons (he p O st _ bc hx) .nil hs) (.cons Ev.bool .nil) (eZ.conv (k:=k') b (getElem?_lt' Fz) hb) ik gC (by show 1+1<20;decide)
def yj.yk (h:Ev S k O ae o d O) (hl:IsL O d l) (hx:yj S k O ae e m) (oQ:notStar e=true) (ik:∀env,attributeBase o "append" env (eval o env)=eval o env) (gC:(jx.endLine==pos.line)=true):
  yj S k O ae (.Call (.Attribute o "append" jx) [.Tuple (e::rest) n ua] [] pos) m:=by
 refine⟨λA c s env fr hA uM hS hE R E Q hQ=> ?_⟩;refine eK (ik env) rfl gC (h.run A c s env hA hE R _ _ λc1 v1 s1 l1 R1 K1 a1=> ?_);left;let ⟨a,vs,mm,rfl,ho,hs,_⟩:=hl.at R1 a1;right;refine⟨"list", "list.append",F.plainAttrs_list,F.slot_list_append,F.type_list_append,⟨_,ho,rfl⟩,λb e=>by cases e;exact⟨_,ho,rfl⟩,cX rfl ?_⟩;refine lD (rest:=[]) (keywords:=[]) rfl (bX (sN (k:=n) ?_));rw[gA oQ];exact bX (hx.run A c1 s1 env fr hA uM (tH hS l1) (hE.mono l1 (ab _)) R1 _ _ λc2 v2 s2 l2 K2 U=>hQ c2 v2 s2 (l1.trans l2 (ab _)) (K1.trans K2) U)
def Yj (f:EF) (P:St->Bool) (st:St):Bool:=((f st).bind st.oz).isSome&&P st
def CD.yk (h:cJ S k lay o f) (hx:CD S k lay e P m) (oQ:notStar e=true) (ik:∀env,attributeBase o "append" env (eval o env)=eval o env) (gC:(jx.endLine==pos.line)=true):
  CD S k lay (.Call (.Attribute o "append" jx) [.Tuple (e::rest) n ua] [] pos) (Yj f P) m:=by
 intro p O st bc hf;let ⟨h1,h2⟩:=dD.mp hf;let ⟨l,hl⟩:=jk.mp h1;exact a9 hl λv hv hl=>yj.yk (h p O st _ bc hv) (bc.oz hl) (hx p O st bc h2) oQ ik gC
end
def eZ.td {l ds:List PV} (F:pW r loc own) (Vq:kg S (eW r loc own) names tg) (dY:lG S k (eW r loc own) r.body G m)
  (hi:O[i]? =aa (.attrs [(a6,.fM h)])) (hh:O[h]? =aa (.list l)) (yz:i≠h) (HY:∃st1 cg,tg (.inst 0::ds.map CV.pv) (yh loc own l)=aa st1/\G st1=aa cg/\cg.ob[0]? =aa (.attrs [(a6,.ob 1)])/\cg.ob[1]? =aa (.list l))
  (gu:∀pm,vH S k O (r.fd pm) args kw (names.zip (AV.inst i::ds.map AV.pv))):eZ S (k+1) O (.pv (.con (.ref r.addr))) args kw m:=by
 let ⟨st1,cg,Zx,hF,ho0,ho1⟩:=HY;have bc:=F.atM hi hh yz;let ⟨lK,a1,l1,b1,c1,_⟩:=Vq _ _ _ _ st1 bc Zx;let ⟨nC,a,b,c⟩:=dY _ _ _ cg b1 hF;let ⟨τ,rfl⟩:=GW (c1.trans c bc) hi (getElem?_lt' hh) b ho0 ho1;rw[F.en]at a a1;rw[Lp]at a1;rw[show O.set h (.list l)=O from rr λj=>by
  by_cases e:h=j
  ·subst e;rw[bU (getElem?_lt' hh),hh]
  ·rw[bE e]]at a
 exact eZ.Di F (binds:=names.zip (AV.inst i::ds.map AV.pv)) gu a1 (wg.same bc b1 c1) a
def Jb:St->Option St:=(Bn (Cx (.list []) (bf 4)) (Bn (jA (bY .IsNot (ak 2) (jb PV.none)) (aB (bZ (qp false (ak 0) (ak 2)) (bf 2)) (aB (oA gZ (ak 4) (au (ak 2) aZ)) br)) br) (Bn (PX (ak 3)) (Bo (Yj (sv (ak 0)) (Bp true (ak 0) (ak 1)))))))
def Um:lG S 1 mj fy.body Jb rT:=(lG.cons (ms.Gx (i:=4) rfl tt) (lG.cons (ms.if (AH.cmp (cJ.loc (i:=2) tt) cJ.none rfl) (j3.cons (ms.PB (i:=2) (cJ.conv (ab _) (cJ.loc (i:=0) tt) (cJ.loc (i:=2) tt) rfl (λ_=>rfl) rfl) tt pp) (j3.cons (ms.S2 AZ.append F.slot_list_append F.type_list_append (cJ.loc (i:=4) tt) (pS.cons (cJ.loc (i:=2) tt) pS.nil rfl) (λ_=>rfl) rfl ∅ pp) j3.nil)) j3.nil) (lG.cons (ms.MQ (cJ.loc (i:=3) tt) (λ_=>rfl) rfl) (lG.expr (CD.yk (cJ.ajf (cJ.loc (i:=0) tt)) (CD.conv (ab _) (cJ.loc (i:=0) tt) (cJ.loc (i:=1) tt) rfl (λ_=>rfl) rfl) rfl (λ_=>rfl) rfl) pp))))
def Jc:St->Option St:=(Bn (Cx (.list []) (bf 4)) (yIf (bY .IsNot (ak 2) (jb PV.none)) (Bo (Bp false (ak 0) (ak 2)))))
def Un:lG S 1 mj fy.body Jc rT:=(lG.cons (ms.Gx (i:=4) rfl tt) (lG.ifT (AH.cmp (cJ.loc (i:=2) tt) cJ.none rfl) (lG.asg (CD.conv (ab _) (cJ.loc (i:=0) tt) (cJ.loc (i:=2) tt) rfl (λ_=>rfl) rfl) pp)))
noncomputable abbrev Uo:Str:=ah "a\n"
noncomputable abbrev G1:Str:=ah "\x07"
def Yk:kU (codeOf true) Uo=aa true:=by kernel_rfl
def Uq:kU (codeOf false) G1=aa true:=by kernel_rfl
def aji:kU (codeOf false) "b" =aa false:=by kernel_rfl
def M0 (h1:f st=aa (.inst j)) (h2:fe st= ~~~(.str x)) (h3:st.ob[j]? =aa (.attrs [(a6,v)])) (h4:kU (codeOf b) x=aa false):qp b f fe st= ~~~(.str x):=yi h1 h2 h3 h4
def G2 (h1:f st=aa (.inst j)) (h2:fe st= ~~~(.str x)) (h3:st.ob[j]? =aa (.attrs [(a6,v)])) (h4:kU (codeOf b) x=aa true):Bp b f fe st=true:=by unfold Bp;rw[yi h1 h2 h3 h4];rfl
def rU (h:f st=aa (.next,st1)):Bn f g st=g st1:=by unfold Bn;rw[h];rfl
def G3 (h:f st=aa (.next,st1)):aB f g st=g st1:=by unfold aB;rw[h]
def G4 (h:P st=true):Bo P st=aa st:=by unfold Bo;rw[if_pos h]
noncomputable abbrev P5:List Str:=["self", "_name", "_value", "_params", "parts", "k", "v"]
def P6 (l:List PV):∃st1 cg,oG (.inst 0::[PV.str Uo,.str "b",.oO []].map CV.pv) (yh P5 [] l)=aa st1/\Jb st1=aa cg/\cg.ob[0]? =aa (.attrs [(a6,.ob 1)])/\cg.ob[1]? =aa (.list l):=by
 let s0:St:=⟨[aa (.inst 0),~~~(.str Uo),~~~(.str "b"),~~~(.oO []),ac,ac,ac],[],[.attrs [(a6,.ob 1)],.list l]⟩;let s1:St:=⟨[aa (.inst 0),~~~(.str Uo),~~~(.str "b"),~~~(.oO []),aa (.ob 2),ac,ac],[],[.attrs [(a6,.ob 1)],.list l,.list []]⟩;let s2:St:=⟨[aa (.inst 0),~~~(.str Uo),~~~(.str "b"),~~~(.oO []),aa (.ob 2),ac,ac],[],[.attrs [(a6,.ob 1)],.list l,.list [.str "b"]]⟩;have e2:jA (bY .IsNot (ak 2) (jb PV.none)) (aB (bZ (qp false (ak 0) (ak 2)) (bf 2)) (aB (oA gZ (ak 4) (au (ak 2) aZ)) br)) br s1=aa (.next,s2):=by
  show aB (bZ (qp false (ak 0) (ak 2)) (bf 2)) (aB (oA gZ (ak 4) (au (ak 2) aZ)) br) s1=_;rw[G3 (st1:=s1)]
  ·rfl
  ·unfold bZ;rw[M0 (j:=0) (x:=ah "b") (v:= .ob 1) rfl rfl rfl aji];rfl
 refine⟨s0,s2,rfl,?_,rfl,rfl⟩;unfold Jb;rw[rU (st1:=s1) rfl,rU e2,rU (st1:=s2) rfl];refine G4 ?_;unfold Yj;have e4:sv (ak 0) s2=aa (.ob 1):=by show(if a6==a6 then aa (CV.ob 1) else ac)=_;rw[if_pos (beq_self_eq_true _)]
 rw[e4];show(true&&Bp true (ak 0) (ak 1) s2)=true;rw[(G2 (j:=0) (x:=Uo) (v:= .ob 1) rfl rfl rfl Yk)];rfl
def P7 (l:List PV):∃st1 cg,oG (.inst 0::[PV.str "a",.str G1,.oO []].map CV.pv) (yh P5 [] l)=aa st1/\Jc st1=aa cg/\cg.ob[0]? =aa (.attrs [(a6,.ob 1)])/\cg.ob[1]? =aa (.list l):=by let s0:St:=⟨[aa (.inst 0),~~~(.str "a"),~~~(.str G1),~~~(.oO []),ac,ac,ac],[],[.attrs [(a6,.ob 1)],.list l]⟩;let s1:St:=⟨[aa (.inst 0),~~~(.str "a"),~~~(.str G1),~~~(.oO []),aa (.ob 2),ac,ac],[],[.attrs [(a6,.ob 1)],.list l,.list []]⟩;refine⟨s0,s1,rfl,?_,rfl,rfl⟩;unfold Jc;rw[rU (st1:=s1) rfl];show Bo (Bp false (ak 0) (ak 2)) s1=aa s1;exact G4 (G2 (j:=0) (x:=G1) (v:= .ob 1) rfl rfl rfl Uq)
def eZ.ajj (hi:O[i]? =aa (.attrs [(a6,.fM h)])) (hh:O[h]? =aa (.list l)) (yz:i≠h):eZ S 2 O (.pv (.con (.ref fy.addr))) [.inst i,.pv (.str Uo),.pv (.str "b")] [] rT:=
 eZ.td (.of 24 rfl rfl (by kernel_rfl)) rS Um hi hh yz (P6 l) λpm=>nN pm
def eZ.ajk (hi:O[i]? =aa (.attrs [(a6,.fM h)])) (hh:O[h]? =aa (.list l)) (yz:i≠h):eZ S 2 O (.pv (.con (.ref fy.addr))) [.inst i,.pv (.str "a"),.pv (.str G1)] [] rT:=
 eZ.td (.of 24 rfl rfl (by kernel_rfl)) rS Un hi hh yz (P7 l) λpm=>nN pm
def cz.mn (S:cz):cz:= {S with yx:=false}
def Rel.mn (R:Rel S c O h):Rel S.mn c O h:=⟨R.frozen,R.base,R.own,R.apart,R.inj,R.pins,λq hq=>let ⟨a,b,ps,d,e,f⟩:=R.tabs q hq;⟨a,b,ps,d,⟨e.1,λh=>by cases h⟩,f⟩⟩
def Ev.Yl (h:nJ S k O ae x (.int i)):nJ S k O ae (.UnaryOp .USub x pos) (.int (-i)):=by refine⟨ab _,λA c s env hA hE R E Q hQ=> ?_⟩;refine Ca (h.run A c s env hA hE R _ _ λc1 v1 s1 l1 R1 K1 a1=> ?_);have JX:=a1.gh;let ⟨_,rfl⟩:=JX.kQ;exact Cn (hQ c1 _ _ l1 R1 (K1.trans (.toks ..)) (.pv (.int ..)))
structure ra (c:aM) (a cc:Addr) (params:Arguments) (body:Expr) (scope:Scope) (cells:Sn):Prop where
 obj:∃o fd,c.F a=aa o/\o.cls= .type "function" /\o.data= .func fd/\fd.globals=mainGlobals/\fd.builtins=builtinsNs/\fd.defaults= .none/\fd.kwdefaults= .none/\fd.params=params/\fd.body= .expr body/\fd.scope=scope/\fd.closure=cells.map (λp=>(p.1,c.Z p.2))/\fd.code= .ref cc
 code:∃oc vc q t,c.F cc=aa oc/\oc.data= .fields vc/\vc[1]? =aa (.str q t)
def ra.of (h:cT w c n v (.tA params body scope cells)):∃a cc,v= .ref a/\ra c a cc params body scope cells/\∀p∈cells,p.2<n:=by obtain(⟨a,rfl,⟨h1,h2,h3,h4,h5,h6,h7,h8,h9,Ir,It,Ol⟩,h13⟩):=h.XQ;rename_i o fd;left;let ⟨c',oc,vc,q,tq,e1,e2,e3,e4⟩:=h8;right;exact⟨a,c',rfl,⟨⟨o,fd,h1,h2,h3,h4,h5,h6,h7,h9,Ir,It,Ol,e1⟩,⟨oc,vc,q,tq,e2,e3,e4⟩⟩,h13⟩
def ra.mono (h:ra c a cc params body scope cells) (hF:∀a o,c.F a=aa o->c'.F a=aa o) (DV:∀i,i<n->c'.Z i=c.Z i) (sJ:∀p∈cells,p.2<n):ra c' a cc params body scope cells:=by left;let ⟨⟨o,fd,h1,h2,h3,h4,h5,h6,h7,h9,Ir,It,Ol,e1⟩,⟨oc,vc,q,tq,e2,e3⟩⟩:=h;right;exact⟨⟨o,fd,hF _ _ h1,h2,h3,h4,h5,h6,h7,h9,Ir,It,Ol.trans (cj λp hp=>by rw[DV _ (sJ p hp)]),e1⟩,⟨oc,vc,q,tq,hF _ _ e2,e3⟩⟩
def ra.val (h:ra c a cc params body scope cells) (sJ:∀p∈cells,p.2<n):cT w c n (.ref a) (.tA params body scope cells):=by left;let ⟨⟨o,fd,h1,h2,h3,h4,h5,h6,h7,h9,Ir,It,Ol,e1⟩,⟨oc,vc,q,tq,e2,e3,e4⟩⟩:=h;right;exact .tA ⟨h1,h2,h3,h4,h5,h6,h7,⟨cc,oc,vc,q,tq,e1,e2,e3,e4⟩,h9,Ir,It,Ol⟩ sJ
def qb.Lu (h:qb O c l) (hn:wg O bv) (hc:aM.pM own ↑O c c'):qb bv c' l:=λe he=>by left;let ⟨h1,i,m,h2,h3⟩:=h e he;let ⟨m',h4⟩:=hn i m h3;right;exact⟨h1,i,m',by rw[hc.Z i (getElem?_lt' h3)];exact h2,h4⟩
def EW (S:cz) (O:List AO) (A:cS) (c:aM) (s:bb) (l:List lY) (v:Value) (m:Str) (own:Addr->Prop):Prop:=
 ∀(E:VS) (Q:VS),(∀c' x s',aM.pM own ↑O c c'->dZ s s'->Bm S c' O l m x s'->E x s')->wpAny (MM S.w) A (call v []) Q E s
def ra.call (X:ra c a cc params body scope cells)
  (gu:∀fd:FuncData,fd.params=params->fd.defaults= .none->fd.kwdefaults= .none->bindArgs fd ⟨[],[]⟩=pure [])
  (Ib:∀x∈scope.names,x.2≠ .cell) (qv:scope.kind= .function) (Vr:scope.isCoroutine=false) (FG:scope.isGenerator=false) (sJ:∀p∈cells,p.2< ↑O)
  (hA:jF (k+1) A) (hl:A.frames=aa l) (hS:qb O c l) (R:Rel S c O s.heap)
  (dY:∀env h',cY (c.own ↑O s.heap.objs.size) (↑O+1) {scope:=scope,fi:= ↑O,cells:=cells} env->env.code= .ref cc->Rel S (c.own ↑O s.heap.objs.size) (O++[.ns []]) h'->(∀b o,s.heap.get? b=aa o->h'.get? b=aa o)->
   qb (O++[.ns []]) (c.own ↑O s.heap.objs.size) (env::l)->jF k (A.deeper env)->(A.deeper env).frames=aa (env::l)->∀(E:VS) (Q:VS),
   (∀c' v s',aM.pM own (↑O+1) (c.own ↑O s.heap.objs.size) c'->dZ {s with heap:=h'} s'->Up S c' (O++[.ns []]) (env::l) m v s'->E v s')->wpAny (MM S.w) (A.deeper env) (eval body env) Q E {s with heap:=h'}):EW S O A c s l (.ref a) m own:=by
 intro E Q hE;left;let ⟨⟨o,fd,h1,_,h3,h4,h5,h6,h7,h9,Ir,It,Ol,e1⟩,⟨oc,vc,q,tq,e2,e3,e4⟩⟩:=X;right;refine v8 ?_;refine GK hA.room (R.frozen _ _ h1) h3 (by rw[It];exact Vr) (by rw[It];exact FG) Ir e1 (R.frozen _ _ e2) e3 e4 ?_;refine i5 (gu fd h9 h6 h7) ?_;rw[It,h4,h5,e1];refine yA Ib (λx hx=>by cases hx) (λh' tZ NY=> ?_) qv;have NZ:gH s.heap.objs.size (s.heap.push {cls:= .type "frame",data:= .dict #[]}) h':=NY;have xW:∀b o,s.heap.get? b=aa o->h'.get? b=aa o:=λb o e=>NZ.extBut b o (cU (bW e)) (aJ _ e);let ⟨on,hon,hrn⟩:=ic.Pg (w:=S.w) (c:=c.own ↑O s.heap.objs.size) (n:= ↑O+1) (m:=[]) tZ (by trivial) (λx d hx=>by nomatch hx) (λx hx=>by cases hx);refine⟨sO R.lim xW,kla_codeExpr ?_⟩;have rv:cY (c.own ↑O s.heap.objs.size) (↑O+1) {scope:=scope,fi:= ↑O,cells:=cells} (newEnv scope s.heap.objs.size mainGlobals fd.closure (q++ah ".<locals>.") (aa a) (eM cc) ac builtinsNs):= {
  scope:=rfl
  kind:=qv
  locals:=(aM.ma c ↑O _).symm
  fi:=ez _
  globals:=rfl
  builtins:=rfl
  cells:=Ol.trans (cj λp hp=>by rw[aM.jc.Z _ (sJ p hp)])
  jq:=λp hp=>eI (sJ p hp)
  code:=λa e=>by cases e
  frame:=⟨_,rfl⟩}
 generalize Kg:(newEnv scope s.heap.objs.size mainGlobals fd.closure (q++ah ".<locals>.") (aa a) (eM cc) ac builtinsNs)=env at rv⊢;have ZL:(A.deeper env).frames=aa (env::l):=by show A.frames.map (env:: ·)=_;rw[hl];rfl
 have Xi:qb (O++[.ns []]) (c.own ↑O s.heap.objs.size) (env::l):=λe he=>by
  rcases aH.mp he with rfl|he
  ·exact⟨(by rw[<- Kg];show scope.kind≠_;rw[qv];decide),↑O,[],(by rw[<- Kg,aM.ma];rfl),(by rw[aE (ab _),dc];rfl)⟩
  ·exact hS.step (wg.AB O _) aM.jc e he
 refine dY env h' rv (by rw[<- Kg];rfl) (R.Az (h':=h') (o:=on) xW (ab _) hon hrn) xW Xi hA.deeper ZL _ _ λc1 v1 s1 l1 K1 U=> ?_;refine G0 ZL (Xi.Lu (wg.refl _) (by rw[aj];exact l1)) U λs2 T K2=> ?_;exact hE c1 v1 s2 (aM.jc.P.trans l1 (mv _)) (((dZ.gF s h').trans K1).trans K2) (T.drop R)
def EW.tA (gu:∀fd:FuncData,fd.params=params->fd.defaults= .none->fd.kwdefaults= .none->bindArgs fd ⟨[],[]⟩=pure [])
  (Ib:∀x∈scope.names,x.2≠ .cell) (qv:scope.kind= .function) (Vr:scope.isCoroutine=false) (FG:scope.isGenerator=false)
  (dY:yj S k (O++[.ns []]) {scope:=scope,fi:= ↑O,cells:=cells} body m) (hA:jF (k+1) A) (hl:A.frames=aa l) (hS:qb O c l) (R:Rel S c O s.heap) (hv:cT S.w c ↑O v (.tA params body scope cells)):EW S O A c s l v m own:=by
 let ⟨a,cc,rfl,X,sJ⟩:=ra.of hv;refine X.call gu Ib qv Vr FG sJ hA hl hS R λenv h' rv _ R1 xW Xi Xg hl1 E Q hQ=> ?_;have cH: ↑(O++[AO.ns []])= ↑O+1:=by rw[aj];rfl
 exact dY.run (A.deeper env) _ {s with heap:=h'} env (env::l) Xg hl1 Xi (by rw[cH];exact rv) R1 E Q λc1 v1 s1 l1 K1 U=>hQ c1 v1 s1 (by rw[cH]at l1;exact l1.P) K1 U
noncomputable abbrev jf:Str:=ah "table"
noncomputable abbrev nO:Str:=ah "row"
abbrev Ur:Scope:= {kind:= .function,names:=[(jf,.free)],isGenerator:=false,isCoroutine:=false}
def yj.d1 (hn:O[n]? =aa (.cell (aa (.inst i)))) (hi:O[i]? =aa (.attrs [(a6,.fM h)])) (hh:O[h]? =aa (.list l)) (yz:i≠h) (gC:(jx.endLine==pos.line)=true):
  yj S 2 (O++[.ns []]) {scope:=Ur,fi:= ↑O,cells:=[(jf,n)]} (.Call (.Attribute (.Name jf np) "add_header" jx) [.Constant (.str Uo) n1 p1,.Constant (.str "b") n2 p2] [] pos) rT:=
 yj.td (r:=fy) I7 (by unfold iW;show(_,aa (eM 179))∈_;walk_at "a") rR (Ev.qQ (i:=n) (by show gP jf Ur.names=_;decide+kernel) rfl (gp hn) rfl rfl) (gp hi) (by show _∉ [a6];decide) (.cons Ev.str (.cons Ev.str .nil rfl) rfl) .nil (eZ.ajj (gp hi) (gp hh) yz) (λ_=>rfl) gC (by show 2+0<20;decide)
def yj.d2 (hn:O[n]? =aa (.cell (aa (.inst i)))) (hi:O[i]? =aa (.attrs [(a6,.fM h)])) (hh:O[h]? =aa (.list l)) (yz:i≠h) (gC:(jx.endLine==pos.line)=true):
  yj S 2 (O++[.ns []]) {scope:=Ur,fi:= ↑O,cells:=[(jf,n)]} (.Call (.Attribute (.Name jf np) "add_header" jx) [.Constant (.str "a") n1 p1,.Constant (.str G1) n2 p2] [] pos) rT:=
 yj.td (r:=fy) I7 (by unfold iW;show(_,aa (eM 179))∈_;walk_at "a") rR (Ev.qQ (i:=n) (by show gP jf Ur.names=_;decide+kernel) rfl (gp hn) rfl rfl) (gp hi) (by show _∉ [a6];decide) (.cons Ev.str (.cons Ev.str .nil rfl) rfl) .nil (eZ.ajk (gp hi) (gp hh) yz) (λ_=>rfl) gC (by show 2+0<20;decide)
abbrev Jd (f:Str):Scope:= {kind:= .function,names:=[(nO,.free),(f,.globalImplicit)],isGenerator:=false,isCoroutine:=false}
noncomputable abbrev y7:Str:=ah "insort_left"
noncomputable abbrev sy:Str:=ah "insort_right"
def yj.d3 (hn:O[n]? =aa (.cell (aa d))):
  yj S 2 (O++[.ns []]) {scope:=Jd y7,fi:= ↑O,cells:=[(nO,n)]} (.Call (.Name y7 np) [.Name nO p1,.Constant (.int 1) n1 p2,.UnaryOp .USub (.Constant (.int 1) n2 p3) p4] [] pos) jH:=
 yj.EV (r:=dQ) tr.mem (Ev.uj (by show gP y7 (Jd y7).names=_;exact so) (by show(_,aa (eM 213))∈cf;unfold cf;walk_at "a") rfl)
  (.cons (Ev.qQ (i:=n) (by show gP nO (Jd y7).names=_;exact so) rfl (gp hn) rfl rfl) (.cons Ev.int (.cons (Ev.Yl Ev.int) .nil rfl) rfl) rfl) .nil (eZ.uR (k:=0) ∅)
section
variable {M:Model} {A:cS} {E:VS} {s:bb} {name qual:Str} {params:Arguments} {body:Expr} {scope:Scope} {env:lY} {c P:Addr} {ps:Array Value} {pos:Pos} {firstLine:Nat} {mg:Str->Option Value} {q0:Str×Addr} {r0:List (Str×Addr)} {Q:VS}
def P8 (sJ:closureFor scope env=pure (q0::r0)) (aka:env.globals=mainGlobals) (hg:s.heap.Ns mainGlobals mg) (n9:env.code= .ref c) (C:CodeHd s.heap c P) (hP:s.heap.get? P=aa (tableObj ps)) (ht:u5 ps.toList)
  (hnf:codeAmong pos ps.toList=ac) (hgP:mainGlobals≠P) (hb:s.heap.BuiltinsAt mg P)
  (h:∀c' L9 h' tk P',rp P s.heap h'->s.heap.objs.size<=c'->c'<h'.objs.size->h'.CodeRec (.ref c') qual->h'.get? P=aa (tableObj (ps++ #[rawInt pos.line,rawInt pos.col,.ref c']))->s.heap.objs.size<=P'->CodeHd h' c' P'->h'.get? P'=aa (tableObj #[])->
   Q (.ref h'.objs.size) {s with heap:=h'.push {cls:= .type "function",data:= .func (SI name qual params body scope (q0::r0) ((mg "__name__").getD .none) (.ref c') L9)},toks:=tk}):
  wpAny M A (makeFunction name qual params (.expr body) scope env [] [] [] pos firstLine) Q E s:=by
 have hk:∀(o:Obj),∀b x,s.heap.get? b=aa x->(s.heap.push o).get? b=aa x:=λo b x e=>aJ _ e;left;let ⟨bm,ob,ZE,akc,_,akd,hbo,FD,tY,B3⟩:=hb;right;rw[makeFunction_eq];simp only[List.zip_nil_right,List.filterMap_nil,List.isEmpty_nil,if_true,pure_bind];unfold makeTail;rw[sJ,aka];refine am (aR ?_);simp only[List.isEmpty_cons,fw,if_false];refine am (wpAny_newTextTuple ?_);refine am (wpAny_functionCodeX n9 ((C.keeps (hk _)).code (hk _ _ _ hP) ht) ((C.keeps (hk _)).tab (hk _ _ _ hP)) hnf λc' h' tk hx Ak kX _ Kc htb CN=> ?_);left;let ⟨P',ZM,hc1,J3⟩:=CN;have wi:=(hg.push _).extBut hx hgP;have sM:rp P s.heap h':=λb o uU e=>hx b o uU (hk _ _ _ e);have up:∀(o:Obj) {b:Nat},(s.heap.push o).objs.size<=b->s.heap.objs.size<=b:=λo b e=>aA (by rw[eU];exact bh _ _) e;right;refine am (wpAny_builtinsFor wi ZE akc (sM _ _ akd hbo) FD tY B3 ?_);refine am (wpAny_nsGet wi ?_);exact am (aR (iH (h c' _ h' tk P' sM (up _ Ak) kX Kc htb.2 (up _ ZM) (CodeHd.of hc1 J3) J3.2) (by size_fits)))
end
def aM.M1 {c:aM} (h:a≠P):(c.pinned [(P,o)]).pin a=c.pin a:=by show(gP a [(P,o)]).or (c.pin a)=c.pin a;rw[di,beq_false_of_ne h];rfl
def zE {p q:Pos} (hl:p.line=q.line) (hc:p.col=q.col):∀(n:Nat) (l:Vs),↑l<=n->codeAmong p l=codeAmong q l:=by
 intro n;induction n with
 |zero=>intro l h;rw[sD.mp (N9.mp h)];rfl
 |succ n ih=>
  intro l h;rcases l with _|⟨a,_|⟨b,_|⟨d,r⟩⟩⟩
  ·rfl
  ·cases a<;>rfl
  ·induction a with
   |int=>cases b<;>rfl
   |_=>rfl
  ·induction a with
   |int x t=>induction b with
    |int y u=>show(if (x==p.line&&y==p.col)=true then aa d else codeAmong p r)=(if (x==q.line&&y==q.col)=true then aa d else codeAmong q r);rw[hl,hc,ih r (mS (Ti (Ti h)))]
    |_=>rfl
   |_=>rfl
def M2 (Ia:S.yx=true) (n9:ae.code=aa 324) (Su:∀env,defaultsOf params env=([],[])) (HX:j9 ae.cells scope.names []=aa cl) (oQ:cl≠ []) (hl:pos.line=wt.line) (hc:pos.col=wt.col)
  (hE:cY c ↑O ae env) (R:Rel S c O s.heap) (E:VS) (Q:VS)
  (hQ:∀c' a cc P s',aM.pM (· =P) ↑O c c'->c.pin P=ac->Rel S.mn c' O s'.heap->dZ s s'->ra c' a cc params body scope cl->c'.pin P=aa (tableObj #[])->ui c'.F cc P->(∀p∈cl,p.2< ↑O)->Q (.ref a) s'):wpAny (MM S.w) A (eval (.Lambda params body scope pos) env) Q E s:=by
 refine kla_eval (Su env) ?_;have hq:((324,320):Addr×Addr)∈cm:=by decide
 have DY:closureFor scope env=pure (cl.map λp=>(p.1,c.Z p.2)):=by refine mU ?_;rw[hE.cells];exact qS c.Z ae.cells scope.names [] cl HX
 obtain⟨q0,r0,hqr⟩:∃q0 r0,(cl.map λp=>(p.1,c.Z p.2))=q0::r0:=by
  induction cl with
  |nil=>exact absurd rfl oQ
  |cons a l=>exact⟨_,_,rfl⟩
 left;let ⟨mg,FX,hm⟩:=S.glob;let ⟨ob,Fz,Ou,L7,hb3⟩:=S.bmod;let ⟨t1,t2,ps,hP,⟨ht,ake⟩,CQ⟩:=R.tabs _ hq;right;have ZE:mg "__builtins__" =aa (.ref 4):=by have:=hm (ah "__builtins__",aa (.ref 4)) (by unfold cf;walk_at "a");exact this
 have hC:CodeHd s.heap 324 320:=by left;let ⟨_,o,vs,f1,f2,f3,f4,f5,f6,f7,e1,r⟩:=S.tabs _ hq;right;exact⟨o,vs,f1,f2,f3,f4,f5,f6,f7,R.old e1 ∅,r⟩
 have hnf:codeAmong pos ps.toList=ac:=by rw[zE hl hc _ _ (ab _)];exact ake Ia rfl
 refine P8 (by rw[DY,hqr]) hE.globals (R.vf FX ∅) (hE.code _ n9) hC hP ht hnf ∅ (⟨4,ob,ZE,by decide,by decide,by decide,R.old Fz ∅,Ou,L7,hb3⟩) λc' L9 h' tk P' hx Ak kX Kc htb ZM Kb CN=> ?_;left;let ⟨c2,oc,vs,tq,e2,Ma,Xf,hvc⟩:=Kc;right;cases e2;have hF:=R.oy Ak;have R1:Rel S.mn (c.put c' oc) O h':=R.mn.Ll hq hx htb ⟨by rw[lu];exact TriplesOk_snoc _ _ _ _ ht,λhs=>by cases hs⟩ (aM.dC (n:=0) hF).F (λa o e=>by
   have e':(if a=c' then aa oc else c.F a)=aa o:=e;by_cases ha:a=c'
   ·rw[if_pos ha]at e';cases e';subst ha;exact⟨Ma,.inr Ak⟩
   ·rw[if_neg ha]at e';exact⟨hx _ _ (λh=>by rw[h,t1]at e';cases e') (R.frozen _ _ e'),.inl e'⟩) rfl rfl λjW cd hc=>by
   rw[lu]at hc;rcases vj _ ht hc with h|h
   ·exact(CQ _ _ h).mono (aM.dC (n:=0) hF).F
   ·subst h;exact(⟨c',oc,vs,_,_,rfl,if_pos rfl,Xf,hvc⟩)
 have hcP:c'≠P':=by left;let ⟨_,_,_,_,_,_,_,_,_,_,_,_,_,_,_,_,_,_,h⟩:=Kb;right;exact h
 have hfP:=R.free ZM;have Mb:qC (c.put c' oc) ↑O P':=⟨by
  show(if P'=c' then aa oc else c.F P')=ac;rw[if_neg hcP.symm];exact hfP.F,hfP.Z,hfP.pin,hfP.tab⟩
 have R2:Rel S.mn ((c.put c' oc).pinned [(P',tableObj #[])]) O h':=R1.pinned (λp hp=>by rw[aC]at hp;subst hp;exact Mb) λp hp=>by rw[aC]at hp;subst hp;exact CN
 generalize Zq:(c.put c' oc).pinned [(P',tableObj #[])]=c2 at R2;have hF2:c2.F=(c.put c' oc).F:=by rw[<- Zq];rfl
 generalize Xj:({cls:= .type "function",data:= .func (SI "<lambda>" (env.qual++ "<lambda>") params body scope (q0::r0) ((mg "__name__").getD .none) (.ref c') L9)}:Obj)=fo;have Oq:∀a o,c2.F a=aa o->(c2.put h'.objs.size fo).F a=aa o:=(aM.dC (n:=0) (R2.oy (ab _))).F;have Xd:(c2.put h'.objs.size fo).F c'=aa oc:=Oq _ _ (hF2▸(if_pos rfl));refine hQ (c2.put h'.objs.size fo) h'.objs.size c' P' _ ⟨λa o e=>Oq _ _ (by exact hF2▸((aM.dC (n:=0)) hF).F _ _ e),λi hi=>by rw[<- Zq];rfl,λa ha=>by
   show c2.pin a=c.pin a;rw[<- Zq,aM.M1 ha];rfl⟩ hfP.pin (R2.put (o:=fo) (λb o e=>aJ _ e) (ab _) (aV _ (by rw[<- Xj];rfl))) (.heap ..) ⟨⟨fo,_,if_pos rfl,by rw[<- Xj],by rw[<- Xj],rfl,rfl,rfl,rfl,rfl,rfl,rfl,?_,rfl⟩,⟨oc,vs,_,_,Xd,Xf,hvc⟩⟩ ?_ ?_ (te hE.jq scope.names [] cl (λp hp=>by cases hp) HX)
 ·show q0::r0=_;rw[<- hqr];exact cj λp hp=>by show(p.1,c.Z p.2)=(p.1,c2.Z p.2);rw[<- Zq];rfl
 ·show c2.pin P'=_;exact Zq▸(aM.lF ..)
 ·let ⟨o,Vj,f1,f2,f3,f4,f5,f6,f7,e1,r⟩:=Kb;rw[Ma]at e1;cases e1;exact⟨oc,Vj,f1,f2,f3,f4,f5,f6,f7,Xd,r⟩
noncomputable abbrev sI:Str:=ah "one"
abbrev WT:Scope:= {kind:= .function,names:=[(sI,.local)],isGenerator:=false,isCoroutine:=false}
def ajl (d:PV):Option Int:=(CV.pv d).aI.map (- ·)
def Us (gu:∀(fd:FuncData) (v:Value),fd.params=params->fd.defaults= .none->fd.kwdefaults= .none->bindArgs fd ⟨[v],[]⟩=pure [(sI,v)]):
  su S (k+1) O (.tA params (.UnaryOp .USub (.Name sI np) up) WT []) ajl:=by
 intro bv jM d i hd;let ⟨j,ej,rfl⟩:=ar.mp hd;obtain rfl:=CV.pvI (CV.kI ej);refine dy.tA (names:=[sI]) (τ:=[.ns [(sI,~~~(.int j))]]) rfl (by trivial) (λfd vs h1 h2 h3 hv=> ?_) (by decide+kernel) (by intro x hx;rw[aC]at hx;subst hx;decide+kernel) rfl rfl rfl (λp hp=>by nomatch hp)
  (Ev.Yl (Ev.rI (m:=[(sI,~~~(.int j))]) ?_ (by show gP sI WT.names=_;exact so) ay (by decide+kernel)))
 ·exact S3 (P:=λvs=>bindArgs fd ⟨vs,[]⟩=pure ([sI].zip vs)) (λv=>gu fd v h1 h2 h3) vs hv
 ·show(bv++[AO.ns [(sI,aa (AV.pv (.int j)))]])[↑bv]? =_;rw[aE (ab _),dc];rfl
def afx (hn:O[n]? =aa (.cell (aa d)))
  (X:ra c a cc params (.Call (.Name sy np) [.Name nO p1,.Constant (.int 1) n1 p2,.UnaryOp .USub (.Constant (.int 1) n2 p3) p4] [⟨aa gq,.Lambda lp (.UnaryOp .USub (.Name sI op) up) WT agq,kp⟩] pos) (Jd sy) [(nO,n)])
  (gu:∀fd:FuncData,fd.params=params->fd.defaults= .none->fd.kwdefaults= .none->bindArgs fd ⟨[],[]⟩=pure []) (ZN:∀(fd:FuncData) (v:Value),fd.params=lp->fd.defaults= .none->fd.kwdefaults= .none->bindArgs fd ⟨[v],[]⟩=pure [(sI,v)])
  (agS:∀env,defaultsOf lp env=([],[])) (hA:jF 3 A) (hl:A.frames=aa l) (hS:qb O c l) (R:Rel S c O s.heap) (ZD:c.pin P=aa (tableObj #[])) (CQ:ui c.F cc P):EW S O A c s l (.ref a) jH (· =P):=by
 refine X.call (k:=2) gu (by decide+kernel) rfl rfl rfl (λp hp=>by rw[aC]at hp;subst hp;exact(getElem?_lt' hn)) hA hl hS R λenv h' ZO n9 R0 xW Xi Xg hl1 E Q hQ=> ?_;have cH: ↑(O++[AO.ns []])= ↑O+1:=by rw[aj];rfl
 have vt:(O++[AO.ns []])[n]? =aa (.cell (aa d)):=gp hn;generalize hc0:c.own ↑O s.heap.objs.size=c0 at ZO R0 Xi hQ;rw[<- cH]at ZO hQ;generalize aon:O++[AO.ns []]=lK at ZO R0 Xi hQ vt;have hae:({scope:=Jd sy,fi:= ↑O,cells:=[(nO,n)]}:iv).scope=Jd sy:=rfl;generalize akg:({scope:=Jd sy,fi:= ↑O,cells:=[(nO,n)]}:iv)=ae1 at ZO hae;have agT:ck S 2 lK ae1 [.Name nO p1,.Constant (.int 1) n1 p2,.UnaryOp .USub (.Constant (.int 1) n2 p3) p4] [d,.pv (.int 1),.pv (.int (-1))]:=
  .cons (Ev.qQ (i:=n) (by rw[hae];show gP nO (Jd sy).names=_;exact so) (by rw[<- akg];rfl) vt (by decide+kernel) (by decide+kernel)) (.cons Ev.int (.cons (Ev.Yl Ev.int) .nil rfl) rfl) rfl
 refine cn ((Ev.uj (by rw[hae];show gP sy (Jd sy).names=_;exact so) (by show(_,aa (eM 195))∈cf;unfold cf;walk_at "a") (by decide+kernel)).run _ c0 _ env Xg ZO R0 _ _ λc1 v1 s1 l1 R1 K1 a1=> ?_);have e':=a1.dn;subst e';left;let ⟨of,pm,Kd,N0,FH,_⟩:=R1.fn qW.mem;right;refine fJ (o:=of) (fd:=cQ.fd pm) ?_;have Zn:=mH agT pos (A.deeper env) c1 s1 env Xg (ZO.mono l1 (ab _)) R1;rw[gA rfl]at Zn⊢;refine lD rfl (Zn _ _ λc2 vs s2 l2 R2 K2 a2=> ?_);show wpAny _ _ (evalAll [do let v <- eval (.Lambda lp (.UnaryOp .USub (.Name sI op) up) WT agq) env;standAt pos;pure v]) _ _ s2;have uL:=l1.trans l2 (ab _);refine wpAny_evalAll_cons (am (kla_eval (agS env) ?_));have L5:c2.pin P=aa (tableObj #[]):=by rw[uL.pin];exact(by exact hc0▸ZD)
 left;let ⟨hP,hPF,aop,hPt⟩:=R2.pins P _ L5;let ⟨mg,FX,hm⟩:=S.glob;let ⟨ob,Fz,Ou,L7,hb3⟩:=S.bmod;right;have ZE:mg "__builtins__" =aa (.ref 4):=by have:=hm (ah "__builtins__",aa (.ref 4)) (by unfold cf;walk_at "a");exact this
 have h4P:(4:Addr)≠P:=λe=>by have:=R2.base 4 ob Fz ∅;rw[e,hPF]at this;cases this
 have h3P:mainGlobals≠P:=λe=>by let ⟨o,es,ep,e1,_⟩:=FX;have:=R2.base mainGlobals o e1 ∅;rw[e,hPF]at this;cases this
 have hC:CodeHd s2.heap cc P:=by left;let ⟨o,Vj,Kt,tf,Ci,tg,Zm,text,tt,f0,r⟩:=(by rw[<- hc0];exact CQ:ui c0.F cc P);right;exact⟨o,Vj,Kt,tf,Ci,tg,Zm,text,tt,R2.frozen _ _ (uL.F _ _ f0),r⟩
 refine kla_makeFunction (mg:=mg) (mU rfl) (ZO.mono uL (ab _)).globals (R2.vf FX ∅) n9 hC hP trivial rfl h3P (⟨4,ob,ZE,by decide,by decide,h4P,R2.old Fz ∅,Ou,L7,hb3⟩) λc' L9 h2 tk hx Ak kX Kc htb=> ?_;left;let ⟨c2',oc,ws,tq,e2,Ma,Xf,hvc⟩:=Kc;right;cases e2;have R3:=R2.Gl L5 hx;generalize Oq:({c2 with pin:=λa=>if a=P then ac else c2.pin a}:aM)=c3 at R3;have hF3:c3.F=c2.F:=by rw[<- Oq]
 have agU:c3.Z=c2.Z:=by rw[<- Oq]
 have hfc:=R2.free Ak;have Mb:qC c3 ↑lK c':=⟨by rw[hF3];exact hfc.F,λi hi=>by rw[agU];exact hfc.Z i hi,by
  rw[<- Oq];show(if c'=P then ac else c2.pin c')=ac;split
  ·rfl
  ·exact hfc.pin,hfc.tab⟩
 have R4:=R3.freeze Mb Ma;have hn4:(c3.put c' oc).F h2.objs.size=ac:=R4.oy (ab _);generalize Xj:({cls:= .type "function",data:= .func (SI "<lambda>" (env.qual++ "<lambda>") lp (.UnaryOp .USub (.Name sI op) up) WT [] ((mg "__name__").getD .none) (.ref c') L9)}:Obj)=fo;have R5:=R4.put (o:=fo) (λb o e=>aJ _ e) (ab _) (aV _ (by rw[<- Xj];rfl));generalize hc5:(c3.put c' oc).put h2.objs.size fo=c5 at R5;have l35:aM.le ↑lK c3 c5:=by exact hc5▸((aM.dC Mb.F)).trans (aM.dC hn4) (ab _)
 have l25:aM.pM (· =P) ↑lK c2 c5:=⟨λa o e=>l35.F _ _ (hF3▸e),λi hi=>by rw[l35.Z i hi,agU],λa ha=>by rw[l35.pin];exact(λa ha=>by rw[<- Oq];exact if_neg ha) a ha⟩;have akk:cT S.w c5 ↑lK (.ref h2.objs.size) (.tA lp (.UnaryOp .USub (.Name sI op) up) WT []):=by refine .tA (.mk (o:=fo) (fd:=SI "<lambda>" (env.qual++ "<lambda>") lp (.UnaryOp .USub (.Name sI op) up) WT [] ((mg "__name__").getD .none) (.ref c') L9) (hc5▸(if_pos rfl)) (by rw[<- Xj]) (by rw[<- Xj]) rfl rfl rfl rfl ?_ rfl rfl rfl rfl) (λp hp=>by cases hp);refine⟨c',oc,ws,_,_,rfl,?_,Xf,hvc⟩;rw[<- hc5];exact(aM.dC (n:=0) hn4).F _ _ (if_pos rfl)
 subst Xj;have akl:∀h5:iS,Rel S c5 lK h5->h5.get? 195=aa of:=λh5 R=>by left;let ⟨Fw,_,h0,_,_,_⟩:=S.fns cQ qW.mem;right;rw[(R1.old h0 ∅)]at Kd;cases Kd;exact(R.old h0 ∅)
 refine am (cV (aR (iI ⟨⟨akl _ R5,FH⟩,?_⟩)));have l05:=uL.P.trans l25 (ab _);have Zw:dg S.w c5 ↑lK vs [d,.pv (.int 1),.pv (.int (-1))]:=by
  have key:∀ {ws:Vs} {ds:List AV},dg S.w c2 ↑lK ws ds->dg S.w c5 ↑lK ws ds:=by
   intro ws ds h;induction h with
   |nil=>exact .nil
   |cons a _ ih=>exact .cons (a.j6 l25.F l25.Z (ab _)) ih
  exact key a2
 refine(eZ.afw (S:=S) (k:=0) (O:=lK) .mk (Us ZN) (i:= -1) rfl ∅).run (A.deeper env) c5 _ (.ref 195) vs [(gq,.ref h2.objs.size)] (env::l) Xg hl1 (Xi.Lu (wg.refl _) l05) R5 (.pv (.con _)) Zw rfl (.cons akk .nil) E Q λc6 v6 s6 l6 K6 U=> ?_;exact hQ c6 v6 s6 (l05.trans l6.P (ab _)) ((K1.trans K2).trans (dZ.trans (.heap ..) K6)) U
noncomputable abbrev fW:Str:=ah "told"
noncomputable abbrev ft:Str:=ah "deed"
noncomputable abbrev jI:Str:=ah "wrong"
def EX (hm:O[ae.fi]? =aa (.ns m)) (hk:ae.scope.names.lookup x=aa .local) (hd:(x,aa d)∈m)
  (hx:(x==("__debug__" :Str))=false) (hE:cY c ↑O ae env) (R:Rel S c O s.heap) (hQ:∀v,cT S.w c ↑O v d->Q v s):wpAny (MM S.w) A (eval (.Name x pos) env) Q E s:=by
 left;let ⟨f,hf,_,h1,_⟩:=R.ns hm;let ⟨v,hv,hd⟩:=h1 x d hd;right;exact B6 (qf (hE.scope▸hE.kind) (by rw[hE.kindOf,hk]) (hE.locals▸hf) hv (hQ v hd)) hx
def Ym:isSubtype (.type "ValueError") (.type "BaseException")=pure true:=by rw[yD];rfl
def Yn:isSubtype (.type "ValueError") (.type "ValueError")=pure true:=by rw[yD];rfl
def Yo:isSubtype (.type ((Oy "ValueError").elim "type" λx=>x.metatype)) (.type "tuple")=pure false:=by rw[(rfl:((Oy "ValueError").elim "type" λx=>x.metatype)= "type"),yD];rfl
def w7.WU {c:aM} {B h:iS} {e:Addr} (R:w7 S c O B h) (he:B.get? e=ac) (tZ:∀o es n,h.get? e=aa o->o.data≠ .dict es n):qC c ↑O e where
 F:=by
  cases e':c.F e with
  |none=>rfl
  |some o=>rw[R.F _ _ e']at he;nomatch he
 Z:=λi hi e'=>by
  subst e';let ⟨o,ho,hr⟩:=R.rel.own i _ (aq hi);rcases R.own i O[i] (aq hi)with⟨m,hm⟩|hb
  ·rw[hm]at hr;cases hr with
   |ns a=>exact tZ _ _ _ ho a
  ·rw[hb o ho]at he;nomatch he
 pin:=by
  cases e':c.pin e with
  |none=>rfl
  |some o=>rw[R.pin _ _ e']at he;nomatch he
 tab:=λq hq e'=>by let ⟨_,_,ps,d,_⟩:=R.rel.tabs q hq;have:=R.tab q hq _ d;rw[e',he]at this;nomatch this
def Rel.nsSet (R:Rel S c O h) (hi:i< ↑O) (hs:gH (c.Z i) h h') (hf:h'.Ns (c.Z i) f) (nd:(m.map (·.1)).Nodup)
  (h1:∀x d,(x,aa d)∈m->∃v,f x=aa v/\cT S.w c ↑O v d) (h2:∀x,(x,ac)∈m->f x=ac):Rel S c (O.set i (.ns m)) h':=by
 let ⟨o,ho,hr⟩:=ic.Pg (w:=S.w) (c:=c) (n:= ↑O) (m:=m) hf nd h1 h2;exact R.set hi (λb o hb e=>hs.extBut b o hb e) ho hr
abbrev Lv (j:Nat) (d:AV):List (Str×Option AV):=[(fW,aa (.fM j)),(ft,aa d)]
abbrev Ut (dp cp ep vp tp ap sp wp cp2 cp3 ep2 hp ua:Pos):Stmt:=
 .Try [.Expr (.Call (.Name ft dp) [] [] cp) ep] [.ExceptHandler (aa (.Name "ValueError" vp)) (aa jI) [.Expr (.Call (.Attribute (.Name fW tp) "append" ap) [.Call (.Name "str" sp) [.Name jI wp] [] cp2] [] cp3) ep2] hp] [] [] ua
def Rel.nsW {f:Str->Option Value} {e:Addr} {i j:Nat} {dv:AV} (R:Rel S c O h) (hm:O[i]? =aa (.ns (Lv j dv))) (hi:i< ↑O) (hs:gH (c.Z i) h h') (H0:∀x d,(x,aa d)∈Lv j dv->∃v,f x=aa v/\cT S.w c ↑O v d)
  (hf:h'.Ns (c.Z i) λy=>if y=jI then aa (.ref e) else f y):Rel S c (O.set i (.ns [(fW,aa (.fM j)),(ft,aa dv),(jI,~~~(.con (.ref e)))])) h':=by
 refine R.nsSet hi hs hf (by show([fW,ft,jI]:List Str).Nodup;decide) (λx d hx=> ?_) (λx hx=>by simp at hx);rcases aH.mp hx with(hx|hx)
 ·cases hx;let ⟨v,p,q⟩:=H0 fW _ (by walk_at "a");exact⟨v,by rw[if_neg ∅];exact p,q⟩
 ·rcases aH.mp hx with(hx|hx)
  ·cases hx;let ⟨v,p,q⟩:=H0 ft _ (by walk_at "a");exact⟨v,by rw[if_neg ∅];exact p,q⟩
  ·rw[aC]at hx;cases hx;exact⟨.ref e,if_pos rfl,.pv (.con _)⟩
def Rel.nsU {f:Str->Option Value} {u:Option Value} {i j:Nat} {dv w:AV} (R:Rel S c O h) (hi:i< ↑O) (hs:gH (c.Z i) h h') (H0:∀x d,(x,aa d)∈[(fW,aa (.fM j)),(ft,aa dv),(jI,aa w)]->∃v,f x=aa v/\cT S.w c ↑O v d)
  (hf:h'.Ns (c.Z i) λy=>if y=jI then u else f y):Rel S c (O.set i (.ns (Lv j dv))) h':=by
 refine R.nsSet hi hs hf (by show([fW,ft]:List Str).Nodup;decide) (λx d hx=> ?_) (λx hx=>by simp at hx);rcases aH.mp hx with(hx|hx)
 ·cases hx;let ⟨v,p,q⟩:=H0 fW _ (by walk_at "a");exact⟨v,by rw[if_neg ∅];exact p,q⟩
 ·rw[aC]at hx;cases hx;let ⟨v,p,q⟩:=H0 ft _ (by walk_at "a");exact⟨v,by rw[if_neg ∅];exact p,q⟩
def P9
  (hm:O[ae.fi]? =aa (.ns (Lv j dv))) (hj:O[j]? =aa (.list L)) (hL: ↑L<100000) (H4:pR ae.scope [fW,ft,jI]) (H5:me ae.scope [ah "ValueError",ah "str"]) (ZP:∀v1,cT S.w c ↑O v1 dv->∃a o fd,v1= .ref a/\c.F a=aa o/\o.data= .func fd) (gC:(ap.endLine==cp3.line)=true)
  (hA:jF k A) (uM:A.frames=aa (env::l)) (hE:cY c ↑O ae env) (Ov:env.frame=aa env.locals) (R:Rel S c O s.heap)
  (Sw:∀c1 s1 v1,aM.le ↑O c c1->Rel S c1 O s1.heap->cT S.w c1 ↑O v1 dv->EW S O A c1 s1 (env::l) v1 msg own) (E:VS) (Q:B8->bb->Prop)
  (hQ:∀c' s',aM.pM own ↑O c c'->Rel S c' (O.set j (.list (L++[.str msg]))) s'.heap->dZ s s'->Q .next s'):wpAny (MM S.w) A (exec (Ut dp cp ep vp tp ap sp wp cp2 cp3 ep2 hp ua) env) Q E s:=by
 have hint:∀c1,cY c1 ↑O ae env->interactive env=false:=λc1 hE=>by unfold interactive;rw[hE.scope,hE.kind];rfl
 have J5:=getElem?_lt' hm;have W9:=getElem?_lt' hj;have oQ:ae.fi≠j:=λe=>by rw[e,hj]at hm;cases hm
 refine wpAny_Try_except (da (yB ?_ (hint _ hE) rfl));refine cn (EX hm (H4 _ (by walk_at "a")) (by walk_at "a") rfl hE R λv1 a1=> ?_);left;let ⟨a,o,fd,rfl,hF,hd⟩:=ZP v1 a1;right;refine fJ (o:=o) (fd:=fd) ?_;refine eg .nil _ cp A c s env hA hE R _ _ λc1 vs s1 l1 R1 K1 a2=> ?_;cases a2;refine⟨⟨R1.frozen _ _ (l1.F _ _ hF),hd⟩,Sw c1 s1 (.ref a) l1 R1 (a1.mono l1 (ab _)) _ _ λc2 v2 s2 l2 K2 T=> ?_⟩;left;let ⟨e,t,tk,B,rfl,Kf,ht,Sl,RB⟩:=T;have l02:aM.pM own ↑O c c2:=l1.P.trans l2 (ab _);have HU:=hE.ph l02 (ab _);right;refine wpAny_looks_onW uM Ov Kf λh4 Sx agV=> ?_;refine wpAny_landsW Sx λh5 ZQ agW=> ?_;have RB5:=(RB.step Sx.1 agV).step ZQ.1 agW;let ⟨ob,Fz,akm⟩:=ZQ.there;refine wpAny_handleBy_builtin_as (X:= "ValueError") (T:= "ValueError") (b:=true) Ym Yo Yn (Ev.blt HU RB5.rel (H5 _ (by walk_at "a")) (by unfold cf;walk_at "a") (by unfold kM;walk_at "a") rfl ⟨rfl,⟨ob,Fz,akm⟩,?_⟩);rw[if_pos rfl];refine PyProof.Rows.lands_againW ZQ λh6 ZR agX=> ?_;have RB6:=RB5.step ZR.1 agX;left;let ⟨oe,ws,hoe,akp,ZS,akq⟩:=ZR.first;let ⟨ot,nt,hot,akr,Vu⟩:=((ht.of_slots agV).of_slots agW).of_slots agX;have agY:=RB6.WU ZR.2.1 (λo es n h q=>by rw[hoe]at h;cases h;rw[ZS]at q;cases q);have Sy:=RB6.WU Sl (λo es n h q=>by rw[hot]at h;cases h;rw[Vu]at q;cases q);right;have hte:t≠e:=λq=>by rw[q,hoe]at hot;cases hot;rw[ZS]at Vu;cases Vu
 have R7:=(RB6.rel.freeze agY hoe).freeze (a:=t) (o:=ot) ⟨by
  show(if t=e then aa oe else c2.F t)=ac;rw[if_neg hte];exact Sy.F,Sy.Z,Sy.pin,Sy.tab⟩ hot
 have l7:aM.le ↑O c2 ((c2.put e oe).put t ot):=(aM.dC agY.F).trans (aM.dC (by
  show(if t=e then aa oe else c2.F t)=ac;rw[if_neg hte];exact Sy.F)) (ab _)
 have hFe:((c2.put e oe).put t ot).F e=aa oe:=by show(if e=t then aa ot else(if e=e then aa oe else c2.F e))=_;rw[if_neg hte.symm,if_pos rfl]
 have hFt:((c2.put e oe).put t ot).F t=aa ot:=if_pos rfl;generalize hc7:(c2.put e oe).put t ot=c7 at R7 l7 hFe hFt;have Vv:=HU.mono l7 (ab _);left;let ⟨f,hf,nd,H0,Sd⟩:=R7.ns hm;have Mc:env.locals=c7.Z ae.fi:=Vv.locals;right;refine xQ (m:=f) (by rw[Vv.kindOf,H4 jI (by walk_at "a")]) (Mc▸hf) (λh8 hn8 hs8=> ?_) (by rw[Vv.scope,Vv.kind];rfl);rw[Mc]at hn8 hs8;have R8:Rel S c7 (O.set ae.fi (.ns [(fW,aa (.fM j)),(ft,aa dv),(jI,~~~(.con (.ref e)))])) h8:=R7.nsW hm J5 hs8 H0 hn8;have Sz: ↑(O.set ae.fi (.ns [(fW,aa (.fM j)),(ft,aa dv),(jI,~~~(.con (.ref e)))]))= ↑O:=bi;have hm8:(O.set ae.fi (.ns [(fW,aa (.fM j)),(ft,aa dv),(jI,~~~(.con (.ref e)))]))[ae.fi]? =aa (.ns [(fW,aa (.fM j)),(ft,aa dv),(jI,~~~(.con (.ref e)))]):=bU J5;have hj8:(O.set ae.fi (.ns [(fW,aa (.fM j)),(ft,aa dv),(jI,~~~(.con (.ref e)))]))[j]? =aa (.list L):=by rw[bE oQ];exact hj
 generalize akt:O.set ae.fi (.ns [(fW,aa (.fM j)),(ft,aa dv),(jI,~~~(.con (.ref e)))])=σ8 at R8 Sz hm8 hj8;have hE8:cY c7 ↑σ8 ae env:=by exact Sz▸Vv
 refine da (yB ?_ (hint _ Vv) rfl);refine eK rfl rfl gC (EX hm8 (H4 _ (by walk_at "a")) (by walk_at "a") rfl hE8 R8 λv3 a3=> ?_);let ⟨rfl,akv⟩:=a3.zy;let ⟨ol,hol,hrl⟩:=R8.own _ _ hj8;let ⟨vs,ee,rfl,hs,hp⟩:=hrl.yP;refine⟨"list", "list.append",F.plainAttrs_list,F.slot_list_append,F.type_list_append,⟨_,hol,rfl⟩,λb e=>by cases e;exact⟨_,hol,rfl⟩,cX rfl ?_⟩;refine lD (rest:=[]) (keywords:=[]) rfl (bX ?_);refine cn (Ev.blt hE8 R8 (H5 _ (by walk_at "a")) (by unfold cf;walk_at "a") (by unfold kM;walk_at "a") rfl ?_);refine ed rfl ?_;refine lD (rest:=[]) (keywords:=[]) rfl (bX (EX hm8 (H4 _ (by walk_at "a")) (by walk_at "a") rfl hE8 R8 λv4 a4=>eB (iI ?_)));have e4:=a4.dn;subst e4;refine P.str_of_exc_one PySem.F.excStr_ValueError ?_ ⟨oe,ws,R8.frozen _ _ hFe,akp,ZS,akq⟩ ⟨ot,nt,R8.frozen _ _ hFt,akr,Vu⟩ ?_
 ·have:=hA.units;have e:cLine=9900:=rfl;show A.units+2<cLine;exact abY this e
 refine eB (iI ?_);refine uX (hsz:=mV (OQ hs hL)) ⟨_,hol⟩ λh9 Sh hk9=> ?_;let ⟨e9,ho9⟩:=Sh;have R9:Rel S c7 (σ8.set j (.list (L++[.str msg]))) h9:=R8.PE akv hk9.extBut ho9 hs hp (.str ..);refine jz ?_;left;let ⟨f9,hf9,nd9,hg1,ZT⟩:=R9.ns (by rw[bE oQ.symm];exact hm8);right;refine wpAny_nameGoes_keeps (by rw[Vv.kindOf,H4 jI (by walk_at "a")]) (Mc▸hf9) (by rw[Vv.scope,Vv.kind];rfl) λIr v10 ag1 ag2=> ?_;rw[Mc]at ag1 ag2;have R10:Rel S c7 ((σ8.set j (.list (L++[.str msg]))).set ae.fi (.ns (Lv j dv))) Ir:=R9.nsU (by rw[bi,Sz];exact J5) ag2 hg1 ag1;have HQ:(σ8.set j (.list (L++[.str msg]))).set ae.fi (.ns (Lv j dv))=O.set j (.list (L++[.str msg])):=by rw[<- akt,List.set_comm _ _ oQ.symm,List.set_set,set_same hm]
 rw[HQ]at R10;exact hQ c7 _ (l02.trans l7.P (ab _)) R10 (((K1.trans K2)).trans (dZ.heap ..))
def zz.twice:zz O (binaryOp .Mult) (.pv (.lst [x])) (.pv (.int 2)) (.lst [x,x]):=by
 intro S k A c s u v hA R ha hb E Q hQ;let ⟨a,vs,n,rfl,ho,e1,k1⟩:=IsL.val.at R ha;have uU:=hb.gh;let ⟨t,rfl⟩:=uU.kQ;have hv:∃v0,vs= #[v0]:=by let ⟨l⟩:=vs;exact S3 (P:=λl=>∃v0,(⟨l⟩:Array Value)= #[v0]) (λv=>⟨v,rfl⟩) l e1
 let ⟨v0,rfl⟩:=hv;refine wpAny_binaryOp_repeat_ref (T:= "list") (U:= "int") rfl ⟨_,ho,rfl⟩ (λs'=>typeIs_int s' 2 t) noFill_list_mul F.fills_int_mul F.slot_int_rmul repeat_list F.slot_int_index.lookup
  (Kl F.slot_int_rmul (typeIs_int s 2 t) F.entry_int_rmul (F.args_int_rmul_2 _ _) (int___rmul___int_list 2 t a #[v0] n)
   ⟨ho,rfl,⟨_,ho,rfl⟩,Kl F.slot_list_mul ⟨_,ho,rfl⟩ F.entry_list_mul (F.args_list_mul_2 _ _)
    (AutoListH.list___mul___list_int_3 a #[v0] n 2 t (by simp[iq]) (by show ¬1*2>_;decide) (by simp[Builtin.List.listTooLong,sizeLine])) ⟨ho,?_⟩⟩)
 have hF:=R.oy (ab s.heap.objs.size);refine hQ (c.put s.heap.objs.size {cls:= .type "list",data:= .seq #[v0,v0]}) _ _ (aM.dC hF) R.sY (.gF ..) (.pv (.lst (vs:= #[v0,v0]) (if_pos rfl) rfl λi v d hv hd=> ?_));have h1:dk S.w (c.put s.heap.objs.size {cls:= .type "list",data:= .seq #[v0,v0]}).F v0 x:=(k1 0 v0 x rfl rfl).mono (aM.dC (n:=0) hF).F
 match i,hv,hd with
 |0,hv,hd=>obtain rfl:=ag hv;obtain rfl:=ag hd;exact h1
 |1,hv,hd=>obtain rfl:=ag hv;obtain rfl:=ag hd;exact h1
def Ev.one (h:nJ S k O ae e d) (hn:notStar e=true):nJ S k O ae (.List [e] pos) (.lst [d]):=by
 refine⟨ab _,λA c s env hA hE R E Q hQ=> ?_⟩;refine wpAny_List (mH (.cons h .nil hn) pos A c s env hA hE R _ _ λc1 vs s1 l1 R1 K1 a1=>⟨?_,?_⟩)
 ·rw[↑a1];show 1<=sizeLine;decide
 ·have h9:=a1.i1;clear a1;let ⟨v,_,rfl,a1,b1⟩:=h9;obtain rfl:=b1.i0;have hF:=R1.oy (ab s1.heap.objs.size);refine hQ (c1.put s1.heap.objs.size {cls:= .type "list",data:= .seq #[v]}) _ _ (l1.trans (aM.dC hF) (ab _)) R1.sY (K1.trans (.gF ..)) (.pv (.lst (vs:= #[v]) (if_pos rfl) rfl λi w x hv hd=> ?_))
  match i,hv,hd with
  |0,hv,hd=>obtain rfl:=ag hv;obtain rfl:=ag hd;exact a1.gh.mono (aM.dC (n:=0) hF).F
def Uu:iJ [.str rT,.str rT,.str jH,.str jH] ([.str rT,.str rT]++[.str jH,.str jH])=aa true:=rfl
def i6.Yp (hm:O[ae.fi]? =aa (.ns m)) (hd:(fW,aa (.fM j))∈m) (hk:ae.scope.names.lookup fW=aa .local) (hj:O[j]? =aa (.list [.str rT,.str rT,.str jH,.str jH])):
  i6 S k O ae (.Return (aa (.Compare (.Name fW tp) [.Eq] [.BinOp (.BinOp (.List [.Constant (.str rT) n1 p1] p2) .Mult (.Constant (.int 2) n2 p3) p4) .Add (.BinOp (.List [.Constant (.str jH) n3 p5] p6) .Mult (.Constant (.int 2) n4 p7) p8) p9] cp)) pos) (.ret (.pv (PV.bool true))) O:=
 i6.return (Ev.jr (Ev.rI hm hk hd rfl) (Ev.El (Ev.El (Ev.one Ev.str rfl) Ev.int .twice) (Ev.El (Ev.one Ev.str rfl) Ev.int .twice) (zz.Pt .val .val (by show 2+2<=sizeLine;decide))) (zz.eqL (.fM hj) .val Uu).1 rfl)
structure nP (I a:Addr) (vs:Array Value) (i:Nat) (c:aM) (s:bb):Prop where
 st:s.heap.IsTupleIter I a i/\s.heap.IsTuple a vs
 pin:∃o,c.pin I=aa o
 fa:∃o,c.F a=aa o
def nP.ne (J:nP I a vs i c s) (R:Rel S c O s.heap):a≠I:=λe=>by let ⟨o,ho⟩:=J.pin;let ⟨o',sd⟩:=J.fa;rw[e,(R.pins I o ho).2.1]at sd;nomatch sd
def nP.keep (J:nP I a vs i c s) (R:Rel S c O s.heap) (R':Rel S c' bv s'.heap) (hF:∀a o,c.F a=aa o->c'.F a=aa o) (hI:c'.pin I=c.pin I):nP I a vs i c' s':=by
 have oQ:=J.ne R;let ⟨st,⟨o,ho⟩,⟨oa,hoa⟩⟩:=J;refine⟨(u0 (prog:=pw) (w:=S.w) (A:= {}) rfl I a oQ vs).frame i _ _ st λb hb x e=> ?_,⟨o,by rw[hI];exact ho⟩,⟨oa,hF _ _ hoa⟩⟩;rcases aH.mp hb with rfl|hb
 ·have e1:=(R.pins _ _ ho).1;rw[e1]at e;obtain rfl:=ag e;exact(R'.pins b _ (by rw[hI];exact ho)).1
 ·rw[aC]at hb;subst hb;rw[(R.frozen _ _ hoa)]at e;obtain rfl:=ag e;exact R'.frozen _ _ (hF _ _ hoa)
def turn (J:nP I a vs i c s) (hi:vs[i]? =aa v) (hv:cT S.w c ↑O v dv) (hA:jF k A)
  (hE:cY c ↑O ae env) (R:Rel S c O s.heap) (hm:O[ae.fi]? =aa (.ns m0)) (ZU:iA ft dv m0 (Lv j dv)) (hk:ae.scope.names.lookup ft=aa .local)
  (dY:∀c1 s1,aM.pM (· =I) ↑O c c1->Rel S c1 (O.set ae.fi (.ns (Lv j dv))) s1.heap->dZ s s1->nP I a vs (i+1) c1 s1->∀E,wpAny (MM S.w) A (execs body env) (λf s2=>f= .next/\codeAny (MM S.w) A (.forLoop (.Name ft dp) (.ref I) body [] env) Rr s2) E s1):
  codeAny (MM S.w) A (.forLoop (.Name ft dp) (.ref I) body [] env) Rr s:=by
 have oQ:=J.ne R;let ⟨st,⟨o,ho⟩,⟨oa,hoa⟩⟩:=J;refine fb ?_;rw[cy (by rfl)];show wpAny _ A ((forTurn _ _ _ _ env).onRaise (λx=>do noteFrame x env;theTreesLotGoes x)) _ _ s;refine jB ?_;simp only[forTurn];refine am (cV (am (kE ((u0 (prog:=pw) (w:=S.w) (A:=A) hA.hn I a oQ vs).item i s _ _ (iU.mp hi).1 st λv' h' tk vZ RW xW=> ?_))));have e:v'=v:=by have:=vZ.symm.trans hi;injection this
 subst e;left;let ⟨o',sd,akx,W1⟩:=RW.1;have R1:=R.nu ho (λb x hb e=>xW b x (by simpa using hb) e) sd;have l1:aM.pM (· =I) ↑O c (c.nu I o'):=aM.oV;right;refine am (rL sd akx rfl _ _ ?_);refine am ((C5.name (jK.loc hm hk ZU rfl):C5 S k O ae (.Name ft dp) dv _).run A (c.nu I o') {s with heap:=h',toks:=tk} env v' hA (hE.ph l1 (ab _)) R1 (hv.j6 (λ_ _ e=>e) (λ_ _=>rfl) (ab _)) _ _ λc2 s2 l2 R2 K2=> ?_);have J1:nP I a vs (i+1) (c.nu I o') {s with heap:=h',toks:=tk}:=⟨RW,⟨o',if_pos rfl⟩,⟨oa,hoa⟩⟩;exact am (fZ (dY c2 s2 (l1.trans l2.P (ab _)) R2 ((dZ.heap s h' tk).trans K2) (J1.keep R1 R2 l2.F (by rw[l2.pin])) _) (λf s3 h3=>by
  let ⟨rfl,h3⟩:=h3;exact aR ⟨rfl,h3⟩) λ_ _ x=>x)
def Qa (J:nP I a vs vs.size c s) (hA:jF k A) (R:Rel S c O s.heap)
  (hq:∀c1 s1,aM.pM (· =I) ↑O c c1->Rel S c1 O s1.heap->dZ s s1->Rr (.ok .next) s1):codeAny (MM S.w) A (.forLoop (.Name ft dp) (.ref I) body [] env) Rr s:=by
 have oQ:=J.ne R;left;let ⟨st,⟨o,ho⟩,⟨oa,hoa⟩⟩:=J;right;refine fb ?_;rw[cy (by rfl)];show wpAny _ A ((forTurn _ _ _ _ env).onRaise (λx=>do noteFrame x env;theTreesLotGoes x)) _ _ s;refine jB ?_;simp only[forTurn];refine am (cV (am (kE ((u0 (prog:=pw) (w:=S.w) (A:=A) hA.hn I a oQ vs).done s _ _ st λh' tk xW=> ?_))));have hko:∀b x,b≠I->s.heap.get? b=aa x->h'.get? b=aa x:=λb x hb e=>xW b x (by simpa using hb) e;refine aR ⟨rfl,Al (jz ?_)⟩;cases e:h'.get? I with
 |some o'=>exact hq (c.nu I o') {s with heap:=h',toks:=tk} aM.oV (R.nu ho hko e) (dZ.heap ..)
 |none=>exact hq {c with pin:=λa=>if a=I then ac else c.pin a} {s with heap:=h',toks:=tk} ⟨λ_ _ e=>e,λ_ _=>rfl,λa ha=>if_neg ha⟩ (R.Gl ho hko) (dZ.heap ..)
structure TS (bP:List AO) (fi j:Nat) (bv:List AO) (m0:List (Str×Option AV)) (L:List PV):Prop where
 len: ↑bv= ↑bP
 ns:bv[fi]? =aa (.ns m0)
 NS:bv[j]? =aa (.list L)
 rest:∀x,x≠fi->x≠j->bv[x]? =bP[x]?
def TS.ne (h:TS bP fi j bv m0 L):fi≠j:=λe=>by have h1:=h.ns;rw[e,h.NS]at h1;nomatch h1
def TS.afy (h:TS bP fi j bv m0 L):TS bP fi j (bv.set fi (.ns m1)) m1 L:=
 ⟨by rw[bi];exact h.len,bU (getElem?_lt' h.ns),by rw[bE h.ne];exact h.NS,λx h1 h2=>by rw[bE h1.symm];exact h.rest x h1 h2⟩
def TS.ajm (h:TS bP fi j bv m0 L):TS bP fi j (bv.set j (.list L')) m0 L':=
 ⟨by rw[bi];exact h.len,by rw[bE h.ne.symm];exact h.ns,bU (getElem?_lt' h.NS),λx h1 h2=>by rw[bE h2.symm];exact h.rest x h1 h2⟩
def TS.Yq (h:TS bP fi j bv m0 L) (hj:bP[j]? =aa (.list aox)):wg bP bv:=λx m hx=>by
 by_cases h1:x=fi
 ·subst h1;exact⟨m0,h.ns⟩
 ·have h2:x≠j:=λe=>by rw[e,hj]at hx;nomatch hx
  exact⟨m,by rw[h.rest x h1 h2];exact hx⟩
def w8
  (ts:TS bP ae.fi j bv m0 L) (hL: ↑L<100000) (J:nP I a vs i c s) (hi:vs[i]? =aa v) (hv:cT S.w c ↑bv v dv) (ZU:iA ft dv m0 (Lv j dv)) (H4:pR ae.scope [fW,ft,jI]) (H5:me ae.scope [ah "ValueError",ah "str"]) (ZP:∀(c1:aM) (n1:Nat) (v1:Value),(∀a o,c.F a=aa o->c1.F a=aa o)->cT S.w c1 n1 v1 dv->∃a o fd,v1= .ref a/\c1.F a=aa o/\o.data= .func fd) (gC:(ap.endLine==cp3.line)=true)
  (hA:jF k A) (uM:A.frames=aa (env::l)) (hE:cY c ↑bv ae env) (Ov:env.frame=aa env.locals) (R:Rel S c bv s.heap) (hoI:¬own I)
  (Sw:∀nC c1 s1 v1,TS bP ae.fi j nC (Lv j dv) L->aM.pM (· =I) ↑bv c c1->Rel S c1 nC s1.heap->cT S.w c1 ↑nC v1 dv->EW S nC A c1 s1 (env::l) v1 msg own)
  (ag3:∀c1 s1 nC,TS bP ae.fi j nC (Lv j dv) (L++[.str msg])->aM.pM (λx=>x=I\/own x) ↑bv c c1->Rel S c1 nC s1.heap->dZ s s1->nP I a vs (i+1) c1 s1->
   codeAny (MM S.w) A (.forLoop (.Name ft Ow) (.ref I) [Ut dp cp ep vp tp ap sp wp cp2 cp3 ep2 hp ua] [] env) Rr s1):
  codeAny (MM S.w) A (.forLoop (.Name ft Ow) (.ref I) [Ut dp cp ep vp tp ap sp wp cp2 cp3 ep2 hp ua] [] env) Rr s:=by
 refine turn J hi hv hA hE R ts.ns ZU (H4 _ (by walk_at "a")) λc1 s1 l1 R1 K1 J1 E=> ?_;have ts1:=ts.afy (m1:=Lv j dv);have ub: ↑(bv.set ae.fi (.ns (Lv j dv)))= ↑bv:=bi;generalize bv.set ae.fi (.ns (Lv j dv))=lK at R1 ts1 ub;refine da (P9 (own:=own) ts1.ns ts1.NS hL H4 H5 (λv1 a1=>ZP c1 _ v1 l1.F a1) gC hA uM (by rw[ub];exact hE.ph l1 (ab _)) Ov R1 (λc2 s2 v2 l2 R2 a2=>Sw lK c2 s2 v2 ts1 (l1.trans (ub▸l2.P) (ab _)) R2 a2) _ _ λc2 s2 l2 R2 K2=>jz ⟨rfl,?_⟩);exact ag3 c2 s2 _ ts1.ajm ((⟨l1.F,l1.Z,λa ha=>l1.pin a λe=>ha (.inl e)⟩:aM.pM (λx=>x=I\/own x) ↑bv c c1).trans (⟨l2.F,l2.Z,λa ha=>l2.pin a λe=>ha (.inr e)⟩) (by rw[ub];exact ab _)) R2 (K1.trans K2) (J1.keep R1 R2 l2.F (l2.pin I hoI))
noncomputable abbrev noArgs:Arguments:= {posonlyargs:=[],args:=[],vararg:=ac,kwonlyargs:=[],kw_defaults:=[],kwarg:=ac,defaults:=[]}
abbrev oneArg (p:Pos):Arguments:= {posonlyargs:=[],args:=[⟨sI,ac,p⟩],vararg:=ac,kwonlyargs:=[],kw_defaults:=[],kwarg:=ac,defaults:=[]}
def Lw:∀fd:FuncData,fd.params=noArgs->fd.defaults= .none->fd.kwdefaults= .none->bindArgs fd ⟨[],[]⟩=pure []:=λfd h1 h2 h3=>by unfold bindArgs;rw[h1,h2,h3];rfl
def bind1 (p:Pos):∀(fd:FuncData) (v:Value),fd.params=oneArg p->fd.defaults= .none->fd.kwdefaults= .none->bindArgs fd ⟨[v],[]⟩=pure [(sI,v)]:=λfd v h1 h2 h3=>by unfold bindArgs;rw[h1,h2,h3];rfl
def WV (h:cells.lookup jf=aa n):j9 cells Ur.names []=aa [(jf,n)]:=by show j9 cells [(jf,.free)] []=_;rw[pk,if_pos tt,h];rfl
def WW (h:cells.lookup nO=aa n):j9 cells (Jd f).names []=aa [(nO,n)]:=by show j9 cells [(nO,.free),(f,.globalImplicit)] []=_;rw[pk,if_pos tt,h];rfl
abbrev bo1 (q1 q2 q3 q4 q5:Pos) (k1 k2:Nat):Expr:= .Call (.Attribute (.Name jf q1) "add_header" q2) [.Constant (.str Uo) k1 q3,.Constant (.str "b") k2 q4] [] q5
abbrev bo2 (q1 q2 q3 q4 q5:Pos) (k1 k2:Nat):Expr:= .Call (.Attribute (.Name jf q1) "add_header" q2) [.Constant (.str "a") k1 q3,.Constant (.str G1) k2 q4] [] q5
abbrev bo3 (q1 q2 q3 q4 q5 q6:Pos) (k1 k2:Nat):Expr:= .Call (.Name y7 q1) [.Name nO q2,.Constant (.int 1) k1 q3,.UnaryOp .USub (.Constant (.int 1) k2 q4) q5] [] q6
abbrev bo4 (q1 q2 q3 q4 q5 q6 q7 q8 q9 q10 q11:Pos) (k1 k2:Nat):Expr:= .Call (.Name sy q1) [.Name nO q2,.Constant (.int 1) k1 q3,.UnaryOp .USub (.Constant (.int 1) k2 q4) q5] [⟨aa gq,.Lambda (oneArg q6) (.UnaryOp .USub (.Name sI q7) q8) WT q9,q10⟩] q11
abbrev retS (tp p1 p2 p3 p4 p5 p6 p7 p8 p9 cp pos:Pos) (n1 n2 n3 n4:Nat):Stmt:=
 .Return (aa (.Compare (.Name fW tp) [.Eq] [.BinOp (.BinOp (.List [.Constant (.str rT) n1 p1] p2) .Mult (.Constant (.int 2) n2 p3) p4) .Add (.BinOp (.List [.Constant (.str jH) n3 p5] p6) .Mult (.Constant (.int 2) n4 p7) p8) p9] cp)) pos
def EY (h:cT w c n v (.tA params body scope cells)):∃a o fd,v= .ref a/\c.F a=aa o/\o.data= .func fd:=
 xe34 (qo.fn .mk h) λa o fd e h1 _ h2=>⟨a,o,fd,e,h1,h2⟩
def Uv (hf:∃o fd,c.F a=aa o/\o.data= .func fd) (h:cT w c n v (.pv (.con (.ref a)))):∃a o fd,v= .ref a/\c.F a=aa o/\o.data= .func fd:=by have e:=h.dn;subst e;left;let ⟨o,fd,h1,h2⟩:=hf;right;exact⟨a,o,fd,rfl,h1,h2⟩
def EZ (Ia:S.yx=true)
  (hm:O[ae.fi]? =aa (.ns [(fW,ac),(ft,ac)])) (hct:O[ct]? =aa (.cell (aa (.inst i)))) (hcr:O[cr]? =aa (.cell (~~~(.lst lr)))) (hi:O[i]? =aa (.attrs [(a6,.fM h)])) (hh:O[h]? =aa (.list hl)) (yz:i≠h)
  (hcT:ae.cells.lookup jf=aa ct) (hcR:ae.cells.lookup nO=aa cr) (n9:ae.code=aa 324) (H4:pR ae.scope [fW,ft,jI]) (H5:me ae.scope [ah "ValueError",ah "str"])
  (W4:(l1.line==wt.line&&l1.col==wt.col)=false) (L5:(l2.line==wt.line&&l2.col==wt.col)=false) (hp3:(l3.line==wt.line&&l3.col==wt.col)=false) (hp4:l4.line=wt.line) (hp5:l4.col=wt.col)
  (hn1:(a2.endLine==a5.line)=true) (Xa:(c2'.endLine==c5'.line)=true) (hn3:(t6.endLine==t10.line)=true)
  (hA:jF 5 A) (uM:A.frames=aa (env::l)) (hS:qb O c (env::l)) (hE:cY c ↑O ae env) (Ov:env.frame=aa env.locals) (R:Rel S c O s.heap) (E:VS) (Q:B8->bb->Prop)
  (hQ:∀(own:Addr->Prop) c' bv s',aM.pM own ↑O c c'->(∀a,own a->c.pin a=ac)->Rel S.mn c' bv s'.heap->(∀x,x< ↑O->x≠ae.fi->bv[x]? =O[x]?)-> ↑O<= ↑bv->dZ s s'->Q (.ret (.bool true)) s'):
  wpAny (MM S.w) A (execs [.Assign [.Name fW o1] (.List [] o2) o3,.For (.Name ft o4) (.Tuple [.Lambda noArgs (bo1 a1 a2 a3 a4 a5 k1 k2) Ur l1,.Lambda noArgs (bo2 c1' c2' c3' c4' c5' k3 k4) Ur l2,.Lambda noArgs (bo3 d1 d2 d3 d4 d5 d6 k5 k6) (Jd y7) l3,.Lambda noArgs (bo4 e1 e2 e3 e4 e5 e6 e7 e8 e9 Zz ZA k7 k8) (Jd sy) l4] kn o5) [Ut t1 t2 t3 t4 t5 t6 t7 t8 t9 t10 t11 t12 t13] [] o6,retS r1 r2 r3 r4 r5 r6 r7 r8 r9 r10 r11 r12 m1 m2 m3 m4] env) Q E s:=by
 have hq:((324,320):Addr×Addr)∈cm:=by decide
 have J5:=getElem?_lt' hm;have h0:i6 S 5 O ae (.Assign [.Name fW o1] (.List [] o2) o3) .next ((O++[AO.list []]).set ae.fi (.ns [(fW,aa (.fM ↑O)),(ft,ac)])):=
  i6.assign Ev.newList (jK.loc (gp hm) (H4 _ (by walk_at "a")) iA.here rfl) (λ_ _=>rfl)
 refine da (h0.run A c s env hA hE R _ _ λc1 v1 s1 le1 R1 K1 f1=> ?_);obtain rfl:=f1.wz;have ts0:TS ((O++[AO.list []]).set ae.fi (.ns [(fW,aa (.fM ↑O)),(ft,ac)])) ae.fi ↑O ((O++[AO.list []]).set ae.fi (.ns [(fW,aa (.fM ↑O)),(ft,ac)])) [(fW,aa (.fM ↑O)),(ft,ac)] []:=
  ⟨rfl,bU (by rw[aj];exact eI ‹_›),by rw[bE (cU ‹_›),aE (ab _),dc];rfl,λ_ _ _=>rfl⟩
 have pre:∀x,x< ↑O->x≠ae.fi->((O++[AO.list []]).set ae.fi (.ns [(fW,aa (.fM ↑O)),(ft,ac)]))[x]? =O[x]? :=λx hx h1=>by rw[bE h1.symm,aW hx]
 have cH:((O++[AO.list []]).set ae.fi (.ns [(fW,aa (.fM ↑O)),(ft,ac)])).length= ↑O+1:=by rw[bi,aj];rfl
 generalize (O++[AO.list []]).set ae.fi (.ns [(fW,aa (.fM ↑O)),(ft,ac)])=bP at R1 ts0 pre cH;have nf:∀ {x:Nat} {o:AO},O[x]? =aa o->(∀m,o≠ .ns m)->x≠ae.fi/\x≠ ↑O/\bP[x]? =aa o:=λ{x o} hx ho=>by
  have h1:x≠ae.fi:=λe=>by rw[e,hm]at hx;obtain rfl:=ag hx;exact ho _ rfl
  have h2:=getElem?_lt' hx;exact⟨h1,by exact cU ‹_›,by rw[pre x h2 h1];exact hx⟩
 have xct:=nf hct (λm e=>by nomatch e);have xcr:=nf hcr (λm e=>by nomatch e);have xi:=nf hi (λm e=>by nomatch e);have xh:=nf hh (λm e=>by nomatch e);have wh: ↑O<= ↑bP:=by simp_all
 have E1:cY c1 ↑bP ae env:=hE.mono le1 wh;have aky:wg O bP:=λx m hx=>by
  by_cases h1:x=ae.fi
  ·subst h1;exact⟨_,ts0.ns⟩
  ·exact⟨m,by rw[pre x (getElem?_lt' hx) h1];exact hx⟩
 refine da (Ox ?_ (λ_=>rfl));refine sN (k:=kn) ?_;show wpAny _ A (spliced [(false,eval (.Lambda noArgs (bo1 a1 a2 a3 a4 a5 k1 k2) Ur l1) env),(false,eval (.Lambda noArgs (bo2 c1' c2' c3' c4' c5' k3 k4) Ur l2) env),(false,eval (.Lambda noArgs (bo3 d1 d2 d3 d4 d5 d6 k5 k6) (Jd y7) l3) env),(false,eval (.Lambda noArgs (bo4 e1 e2 e3 e4 e5 e6 e7 e8 e9 Zz ZA k7 k8) (Jd sy) l4) env)]) _ _ s1;refine bX ((Ev.EL (k:=5) hq n9 (λ_ _=>W4) (λ_=>rfl) (WV hcT)).run A c1 s1 env hA E1 R1 _ _ λc2 v2 s2 X3 R2 K2 x2=> ?_);refine bX ((Ev.EL (k:=5) hq n9 (λ_ _=>L5) (λ_=>rfl) (WV hcT)).run A c2 s2 env hA (E1.mono X3 (ab _)) R2 _ _ λc3 v3 s3 le3 R3 K3 x3=> ?_);have ag6:=X3.trans le3 (ab _);refine bX ((Ev.EL (k:=5) hq n9 (λ_ _=>hp3) (λ_=>rfl) (WW hcR)).run A c3 s3 env hA (E1.mono ag6 (ab _)) R3 _ _ λc4 v4 s4 le4 R4 K4 x4=> ?_);have Vw:=ag6.trans le4 (ab _);refine bX (M2 Ia n9 (λ_=>rfl) (WW hcR) (by simp) hp4 hp5 (E1.mono Vw (ab _)) R4 _ _ λc5 b5 cc P s5 S9 hPn R5 K5 X5 Xk akA ZV=> ?_);refine eB ⟨by show 4<=sizeLine;decide,?_⟩;have R6:=R5.sY (T:= "tuple") (vs:= #[v2,v3,v4,.ref b5]);have hF6:(c5.put s5.heap.objs.size {cls:= .type "tuple",data:= .seq #[v2,v3,v4,.ref b5]}).F s5.heap.objs.size=aa {cls:= .type "tuple",data:= .seq #[v2,v3,v4,.ref b5]}:=if_pos rfl;have Md:aM.le ↑bP c5 (c5.put s5.heap.objs.size {cls:= .type "tuple",data:= .seq #[v2,v3,v4,.ref b5]}):=aM.dC (R5.oy (ab s5.heap.objs.size));generalize hc6:c5.put s5.heap.objs.size {cls:= .type "tuple",data:= .seq #[v2,v3,v4,.ref b5]}=c6 at R6 hF6 Md;refine B4 ⟨_,aV _ rfl,rfl,_,rfl⟩ ?_;generalize hs6:({s5 with heap:=s5.heap.push {cls:= .type "tuple",data:= .seq #[v2,v3,v4,.ref b5]}}:bb)=s6;have akC:s6.heap=s5.heap.push {cls:= .type "tuple",data:= .seq #[v2,v3,v4,.ref b5]}:=by rw[<- hs6]
 rw[<- akC]at R6;have R7:=R6.IQ (o:= {cls:= .type "tuple_iterator",data:= .fields #[.ref s5.heap.objs.size,.int 0 0]}) rfl;have hI7:=aM.lF c6 s6.heap.objs.size {cls:= .type "tuple_iterator",data:= .fields #[.ref s5.heap.objs.size,.int 0 0]};have Ic:aM.pM (· =s6.heap.objs.size) ↑bP c6 (c6.pinned [(s6.heap.objs.size,{cls:= .type "tuple_iterator",data:= .fields #[.ref s5.heap.objs.size,.int 0 0]})]):=aM.vF;have SA:=R6.free (ab s6.heap.objs.size);have hPI:P≠s6.heap.objs.size:=λe=>by have h1:=(R6.pins P _ (Md.pin▸Xk)).1;exact absurd e (cU (bW h1))
 generalize hc7:c6.pinned [(s6.heap.objs.size,{cls:= .type "tuple_iterator",data:= .fields #[.ref s5.heap.objs.size,.int 0 0]})]=c7 at R7 hI7 Ic;generalize hI:s6.heap.objs.size=I at R7 hI7 Ic SA hPI;have ZW:aM.pM (λx=>x=I\/x=P) ↑bP c1 c7:=by exact((Vw.P.trans (⟨S9.F,S9.Z,λa ha=>S9.pin a λe=>ha (.inr e)⟩) (ab _)).trans Md.P (ab _)).trans (⟨Ic.F,Ic.Z,λa ha=>Ic.pin a λe=>ha (.inl e)⟩) (ab _)
 have y2:=x2.j6 (λa o e=>Ic.F _ _ (Md.F _ _ (S9.F _ _ (le4.F _ _ (le3.F _ _ e))))) (λx hx=>by rw[Ic.Z x hx,Md.Z x hx,S9.Z x hx,le4.Z x hx,le3.Z x hx]) (ab _);have y4:=x4.j6 (c':=c7) (λa o e=>Ic.F _ _ (Md.F _ _ (S9.F _ _ e))) (λx hx=>by rw[Ic.Z x hx,Md.Z x hx,S9.Z x hx]) (ab _);have X7:ra c7 b5 cc noArgs _ (Jd sy) [(nO,cr)]:=X5.mono (n:= ↑bP) (λa o e=>Ic.F _ _ (Md.F _ _ e)) (λx hx=>by rw[Ic.Z x hx,Md.Z x hx]) ZV;have y5:=X7.val (w:=S.w) ZV;have akD:ui c7.F cc P:=by left;let ⟨o,Vj,Kt,tf,Ci,tg,Zm,text,tt,f0,r⟩:=akA;right;exact⟨o,Vj,Kt,tf,Ci,tg,Zm,text,tt,Ic.F _ _ (Md.F _ _ f0),r⟩
 have E7:cY c7 ↑bP ae env:=E1.ph ZW (ab _);generalize hs7:({s6 with heap:=s6.heap.push {cls:= .type "tuple_iterator",data:= .fields #[.ref s5.heap.objs.size,.int 0 0]}}:bb)=s7;have akE:s7.heap=s6.heap.push {cls:= .type "tuple_iterator",data:= .fields #[.ref s5.heap.objs.size,.int 0 0]}:=by rw[<- hs7]
 rw[<- akE]at R7;have J7:nP I s5.heap.objs.size #[v2,v3,v4,.ref b5] 0 c7 s7:=by refine⟨⟨⟨_,(R7.pins I _ hI7).1,rfl,rfl⟩,⟨_,R7.frozen _ _ (Ic.F _ _ hF6),rfl,_,rfl⟩⟩,⟨_,hI7⟩,⟨_,Ic.F _ _ hF6⟩⟩
 have hA3:jF 3 A:=hA.le ∅;have Xl:∀ {nC:List AO} {m0:List (Str×Option AV)} {L:List PV} {x:Nat} {o:AO},TS bP ae.fi ↑O nC m0 L->(x≠ae.fi/\x≠ ↑O/\bP[x]? =aa o)->nC[x]? =aa o:=λ{nC m0 L x o} ts hx=>by rw[ts.rest x hx.1 hx.2.1];exact hx.2.2
 have stk:∀ {own:Addr->Prop} {nC:List AO} {m0:List (Str×Option AV)} {L:List PV} {c':aM},TS bP ae.fi ↑O nC m0 L->aM.pM own ↑bP c7 c'->qb nC c' (env::l):=λ{own nC m0 L c'} ts lx=>((hS.step aky le1).Lu (wg.refl _) ZW).Lu (ts.Yq ts0.NS) lx;refine w8 (S:=S.mn) (own:=λ_=>False) (i:=0) (msg:=rT) ts0 ∅ J7 rfl y2 (iA.there iA.here) H4 H5 (λ_ _ _ _ ax=>EY ax) hn3 hA uM E7 Ov R7 (λh=>h) (λnC cx sx vx ts lx Rx ax=> ?_) λc8 s8 σ8 ts8 le8 R8 K8 J8=> ?_
 ·exact EW.tA (k:=2) Lw (by decide+kernel) rfl rfl rfl (yj.d1 (Xl ts xct) (Xl ts xi) (Xl ts xh) yz hn1) hA3 uM (stk ts lx) Rx ax
 have g8:aM.pM (λx=>x=I\/False) ↑bP c7 c8:=le8;refine w8 (S:=S.mn) (own:=λ_=>False) (i:=1) (msg:=rT) ts8 ∅ J8 rfl ((x3.j6 (c':=c7) (λa o e=>Ic.F _ _ (Md.F _ _ (S9.F _ _ (le4.F _ _ e)))) (λx hx=>by rw[Ic.Z x hx,Md.Z x hx,S9.Z x hx,le4.Z x hx]) (ab _)).j6 g8.F g8.Z (fg ts8.len.symm)) (iA.there iA.here) H4 H5 (λ_ _ _ _ ax=>EY ax) hn3 hA uM (by exact ts8.len▸(E7.ph le8 (ab _))) Ov R8 (λh=>h) (λnC cx sx vx ts lx Rx ax=> ?_) λc9 s9 σ9 ts9 le9 R9 K9 J9=> ?_
 ·exact EW.tA (k:=2) Lw (by decide+kernel) rfl rfl rfl (yj.d2 (Xl ts xct) (Xl ts xi) (Xl ts xh) yz Xa) hA3 uM (stk ts (g8.trans (own:=λx=>x=I\/False) ⟨lx.F,λx hx=>lx.Z x (by rw[ts8.len];exact hx),λa ha=>lx.pin a λe=>ha (.inl e)⟩ (ab _))) Rx ax
 have g9:aM.pM (λx=>x=I\/False) ↑bP c7 c9:=g8.trans le9 (ts8.len▸(ab _));refine w8 (S:=S.mn) (own:=λ_=>False) (i:=2) (msg:=jH) ts9 ∅ J9 rfl (y4.j6 g9.F g9.Z (fg ts9.len.symm)) (iA.there iA.here) H4 H5 (λ_ _ _ _ ax=>EY ax) hn3 hA uM (by rw[ts9.len];exact E7.ph g9 (ab _)) Ov R9 (λh=>h) (λnC cx sx vx ts lx Rx ax=> ?_) λc10 s10 aoP Vx akF R10 K10 J10=> ?_
 ·exact EW.tA (k:=2) Lw (by decide+kernel) rfl rfl rfl (yj.d3 (Xl ts xcr)) hA3 uM (stk ts (g9.trans (own:=λx=>x=I\/False) ⟨lx.F,λx hx=>lx.Z x (by rw[ts9.len];exact hx),λa ha=>lx.pin a λe=>ha (.inl e)⟩ (ab _))) Rx ax
 have g10:aM.pM (λx=>x=I\/False) ↑bP c7 c10:=g9.trans akF (ts9.len▸(ab _));refine w8 (S:=S.mn) (own:=(· =P)) (i:=3) (msg:=jH) Vx ∅ J10 rfl (.pv (.con (.ref b5))) (iA.there iA.here) H4 H5 (λcx _ vx hF ax=>Uv (xe24 (X7.obj) λo fd f1 _ f2 _=>⟨o,fd,hF _ _ (g10.F _ _ f1),f2⟩) ax) hn3 hA uM (by rw[Vx.len];exact E7.ph g10 (ab _)) Ov R10 (λh=>hPI h.symm) (λnC cx sx vx ts lx Rx ax=> ?_) λc11 s11 akG Kh akH R11 K11 J11=> ?_
 ·have gx:aM.pM (λx=>x=I\/False) ↑bP c7 cx:=g10.trans (own:=λx=>x=I\/False) ⟨lx.F,λx hx=>lx.Z x (by rw[Vx.len];exact hx),λa ha=>lx.pin a λe=>ha (.inl e)⟩ (ab _);have ex:=ax.dn;subst ex;exact afx (Xl ts xcr) (X7.mono (n:= ↑bP) gx.F gx.Z ZV) Lw (bind1 e6) (λ_=>rfl) hA3 uM (stk ts gx) Rx ((gx.pin P (λh=>by rcases h with h|h;exact hPI h;exact h)).trans (by rw[Ic.pin P hPI,Md.pin];exact Xk)) (by
   left;let ⟨o,Vj,Kt,tf,Ci,tg,Zm,text,tt,f0,r⟩:=akD;right;exact⟨o,Vj,Kt,tf,Ci,tg,Zm,text,tt,gx.F _ _ f0,r⟩)
 have akI:aM.pM (λx=>x=I\/x=P) ↑bP c7 c10:=⟨g10.F,g10.Z,λa ha=>g10.pin a λh=>by rcases h with h|h;exact ha (.inl h);exact h⟩;refine Qa (S:=S.mn) J11 hA R11 λc12 s12 ZX R12 K12=> ?_;have g12:aM.pM (λx=>x=I\/x=P) ↑bP c7 c12:=(akI.trans akH (Vx.len▸(ab _))).trans (own:=λx=>x=I\/x=P) ⟨ZX.F,λx hx=>ZX.Z x (by rw[Kh.len];exact hx),λa ha=>ZX.pin a λe=>ha (.inl e)⟩ (ab _);show wpAny _ A (execs [retS r1 r2 r3 r4 r5 r6 r7 r8 r9 r10 r11 r12 m1 m2 m3 m4] env) Q E s12;refine da ((i6.Yp (S:=S.mn) (k:=5) Kh.ns (by walk_at "a") (H4 _ (by walk_at "a")) Kh.NS).run A c12 s12 env hA (by exact Kh.len▸(E7.ph g12 (ab _))) R12 _ _ λc13 v13 s13 SD R13 K13 f13=> ?_);have h9:=f13.Mp;clear f13;let ⟨_,q,f13⟩:=h9;cases q;have e13:=f13.dn;subst e13;refine hQ (λx=>x=I\/x=P) c13 akG s13 ((le1.P.trans (ZW.trans (g12.trans (own:=λx=>x=I\/x=P) (m:= ↑bP) ⟨SD.F,λx hx=>SD.Z x (by rw[Kh.len];exact hx),λa ha=>by rw[SD.pin]⟩ (ab _)) (ab _)) wh)) (λa ha=> ?_) R13 (λx hx h1=>by rw[Kh.rest x h1 (cU ‹_›)];exact pre x hx h1) (Kh.len▸wh) (K1.trans (((((K2.trans K3).trans K4).trans K5).trans ((by exact hs6▸(.gF ..):dZ s5 s6).trans (hs7▸(.gF ..)))).trans ((((K8.trans K9).trans K10).trans K11).trans (K12.trans K13))));rcases ha with rfl|rfl
 ·rw[<- le1.pin,<- Vw.pin,<- S9.pin _ hPI.symm,<- Md.pin];exact SA.pin
 ·rw[<- le1.pin,<- Vw.pin];exact hPn
def Yr:bj∈fV:=by unfold fV;walk_at "a"
def G5:pR bj.scope [fW,ft,jI]:=pR.of tt
def G6:me bj.scope [ah "ValueError",ah "str"]:=me.of tt
def CE (n:Nat):cellsFrom (n+1) bj.scope.names []=[(nO,n+2),(jf,n+1)]\/cellsFrom (n+1) bj.scope.names []=[(jf,n+1),(nO,n+2)]:=by
 first
 |exact .inl rfl
 |exact .inr rfl
def Je (Ia:S.yx=true) (hi:O[i]? =aa (.attrs [(a6,.fM h)])) (hh:O[h]? =aa (.list l)) (yz:i≠h) (hA:jF 6 A) (hS:Stk O c A) (R:Rel S c O s.heap)
  (h1:cT S.w c ↑O v1 (.inst i)) (h2:cT S.w c ↑O v2 (.pv (.lst lr))) (E:VS) (Q:VS) (hQ:∀c' s',aM.le ↑O c c'->Rel S.mn c' O s'.heap->dZ s s'->Q (.bool true) s'):wpAny (MM S.w) A (call (.ref 325) [v1,v2]) Q E s:=by
 left;let ⟨fs,hl,hSL⟩:=hS;let ⟨o,pm,ho,FD,B3,CQ⟩:=R.fn Yr;have Vr:bj.scope.isCoroutine=false:=rfl;have FG:bj.scope.isGenerator=false:=rfl;have qv:bj.scope.kind= .function:=rfl;have gu:bindArgs (bj.fd pm) ⟨[v1,v2],[]⟩=pure [(jf,v1),(nO,v2)]:=by with_unfolding_all rfl
 right;refine v8 ?_;refine Ta (fd:=bj.fd pm) (body:=bj.body) hA.room ho B3 Vr FG rfl CQ (i5 gu ?_);show wpAny _ _ (newFunctionEnv bj.scope 3 [] [(jf,v1),(nO,v2)] _ (aa bj.addr) (.ref bj.code) ac 0) _ _ _;simp only[newFunctionEnv,Mg,fw,if_false];refine am (F0 ?_);refine am (Kk _ (λname kind cells=>by cases hkc:kind==k9<;>simp[hkc]) _ _ _ _ ?_);have R1:Rel S (c.own ↑O s.heap.objs.size) (O++[.ns [(fW,ac),(ft,ac)]]) (s.heap.push {cls:= .type "frame",data:= .dict #[]}):=
  R.Az (λb o e=>aJ _ e) (ab _) (aV _ rfl) (.ns (es:= #[]) (ep:=0) rfl (λe he=>by simp at he) ∅
   (λx d hx=>by simp at hx) λx _=>rfl)
 have l1:aM.le ↑O c (c.own ↑O s.heap.objs.size):=aM.jc;generalize hc1:c.own ↑O s.heap.objs.size=c1 at R1 l1;have uM:c1.Z ↑O=s.heap.objs.size:=by exact hc1▸(aM.ma ..)
 have ub: ↑(O++[AO.ns [(fW,ac),(ft,ac)]])= ↑O+1:=by rw[aj,be]
 left;let ⟨c2,l2,R2,mQ,Fy⟩:=Rel.AS bj.scope.names [] R1 (λp hp=>by nomatch hp);right;rw[ub]at mQ Fy l2;have hnC:fj bj.scope.names=2:=rfl;have akJ:O++[AO.ns [(fW,ac),(ft,ac)]]++bQ (fj bj.scope.names) (AO.cell ac)=O++[.ns [(fW,ac),(ft,ac)],.cell ac,.cell ac]:=by rw[hnC];simp
 rw[akJ]at R2;rw[hnC]at Fy;have zo: ↑(O++[AO.ns [(fW,ac),(ft,ac)],.cell ac,.cell ac])= ↑O+3:=by rw[aj];rfl
 rw[zw]at mQ;generalize hH:({s with heap:=s.heap.push {cls:= .type "frame",data:= .dict #[]}}:bb)=s1;have Zv:s1.heap=s.heap.push {cls:= .type "frame",data:= .dict #[]}:=by rw[<- hH]
 rw[<- Zv]at mQ R2;rw[mQ];have Ie:(cellsFrom (↑O+1) bj.scope.names []).lookup jf=aa (↑O+1)/\(cellsFrom (↑O+1) bj.scope.names []).lookup nO=aa (↑O+2):=by rcases CE ↑O with e|e<;>rw[e]<;>exact⟨rfl,rfl⟩
 have HU:cY c2 (↑O+3) (gB bj ↑O) {scope:=bj.scope,locals:=s.heap.objs.size,globals:=3,cells:=(cellsFrom (↑O+1) bj.scope.names []).map (λp=>(p.1,c2.Z p.2)),qual:=(bj.fd pm).qualname++ ".<locals>.",func:=aa bj.addr,code:= .ref bj.code,frame:=aa s.heap.objs.size,builtins:=0}:= {
  scope:=rfl
  kind:=qv
  locals:=by show s.heap.objs.size=c2.Z ↑O;rw[l2.Z _ (ab _),uM]
  fi:=by show ↑O< ↑O+3;simp
  globals:=rfl
  builtins:=rfl
  cells:=rfl
  jq:=λp hp=>by have:=Fy p hp;assumption
  code:=λa e=>by obtain rfl:=ag e;rfl
  frame:=⟨_,rfl⟩}
 have uL:aM.le ↑O c c2:=l1.trans l2 (bh _ _);have K1:dZ s {s1 with heap:=pushCells s1.heap bj.scope.names}:=by rw[<- hH];exact .gF ..
 have ru:jD S (gB bj ↑O) (O++[.ns [(fW,ac),(ft,ac)],.cell ac,.cell ac]) [(jf,.inst i),(nO,.pv (.lst lr))] (O++[.ns [(fW,ac),(ft,ac)],.cell (aa (.inst i)),.cell (~~~(.lst lr))]):=
  .cons (jK.cell (i:= ↑O+1) (by show gP jf bj.scope.names=_;exact so) Ie.1 (sT rfl) (Eh (.succ .zero))) (.cons (jK.cell (i:= ↑O+2) (by show gP nO bj.scope.names=_;exact so) Ie.2 (sT rfl) (Eh (.succ (.succ .zero)))) .nil)
 rw[<- zo]at HU;have hvv:dg S.w c2 ↑(O++[AO.ns [(fW,ac),(ft,ac)],.cell ac,.cell ac]) [v1,v2] [.inst i,.pv (.lst lr)]:= .cons (h1.mono uL (by simp)) (.cons (h2.mono uL (by simp)) .nil);refine am (ru.run _ c2 {s1 with heap:=pushCells s1.heap bj.scope.names} _ [(jf,v1),(nO,v2)] _ (λ_ _ _=>rfl) HU R2 rfl hvv _ _ λc3 s3 l3 R3 K3=>aR ⟨R3.lim,codeAny_func ?_⟩);have Zp:=HU.mono l3 ru.len;rw[zo]at l3;have l8:aM.le ↑O c c3:=uL.trans l3 (bh _ _);generalize Kg:({scope:=bj.scope,locals:=s.heap.objs.size,globals:=3,cells:=(cellsFrom (↑O+1) bj.scope.names []).map (λp=>(p.1,c2.Z p.2)),qual:=(bj.fd pm).qualname++ ".<locals>.",func:=aa bj.addr,code:= .ref bj.code,frame:=aa s.heap.objs.size,builtins:=0}:lY)=env at Zp;have Ov:env.frame=aa env.locals:=by rw[<- Kg]
 have Vo:env.frame=aa (c3.Z ↑O):=by rw[<- Kg,l3.Z _ (by simp),l2.Z _ (ab _),uM]
 have hkm:env.scope.kind≠ .module:=by rw[<- Kg];show bj.scope.kind≠_;rw[qv];decide
 have ZL:(A.deeper env).frames=aa (env::fs):=by show A.frames.map (env:: ·)=_;rw[hl];rfl
 have hS3:qb (O++[.ns [(fW,ac),(ft,ac)],.cell (aa (.inst i)),.cell (~~~(.lst lr))]) c3 (env::fs):=λe he=>by
  rcases aH.mp he with rfl|he
  ·exact⟨hkm,↑O,_,Vo,sT (j:=0) rfl⟩
  ·exact qb.step hSL (wg.AB O _) l8 e he
 have ahb: ↑(O++[AO.ns [(fW,ac),(ft,ac)],.cell (aa (.inst i)),.cell (~~~(.lst lr))])= ↑O+3:=by rw[aj];rfl
 refine EZ (ae:=gB bj ↑O) Ia (ct:= ↑O+1) (cr:= ↑O+2) (sT (j:=0) rfl) (sT rfl) (sT rfl) (gp hi) (gp hh) yz Ie.1 Ie.2 rfl G5 G6 rfl rfl rfl rfl rfl rfl rfl rfl hA.deeper ZL hS3 Zp Ov R3 _ _ λown c4 σ4 s4 l4 ho4 R4 ahc akK K4=> ?_;rw[ahb]at l4 ahc akK;have l04:aM.pM own ↑O c c4:=l8.P.trans l4 (bh _ _);let ⟨u1,u2⟩:=l04.Gm (λa ha=>by exact l8.pin▸(ho4 a ha));let ⟨τ,rfl⟩:=rO (O:=O) (bv:=σ4) (λx hx=>by
  rw[ahc x (by solve_by_elim (maxDepth:=4) [ce,a8,bI,aA,gJ,jn,bh,cI]) (by show x≠ ↑O;exact cU ‹_›),aW hx])
 exact hQ (c4.gN c) s4 u2 (R.mn.drop (R4.gN u1) rfl λ_ _ h=> .inl h) ((K1.trans K3).trans K4)
def TrO (S:cz) (O:List AO) (A:cS) (c:aM) (s:bb) (t:zK Value) (d:AV) (bv:List AO):Prop:=
 ∀(E:VS) (Q:VS),(∀c' v s',aM.le ↑O c c'->Rel S.mn c' bv s'.heap->dZ s s'->cT S.w c' ↑bv v d->Q v s')->wpAny (MM S.w) A t Q E s
structure afz (S:cz) (k:Nat) (O:List AO) (ae:iv) (st:Stmt) (f:nW) (bv:List AO):Prop where
 len: ↑O<= ↑bv
 run:∀A c s env,jF k A->Top A env->0<s.toks->cY c ↑O ae env->Rel S c O s.heap->∀(E:VS) (Q:B8->bb->Prop),
  (∀c' v s',aM.le ↑O c c'->Rel S.mn c' bv s'.heap->dZ s s'->sH S.w c' ↑bv v f->Q v s')->wpAny (MM S.w) A (exec st env) Q E s
structure y8 (S:cz) (k:Nat) (O:List AO) (ae:iv) (Vi:List Stmt) (f:nW) (bv:List AO):Prop where
 len: ↑O<= ↑bv
 run:∀A c s env,jF k A->Top A env->0<s.toks->cY c ↑O ae env->Rel S c O s.heap->∀(E:VS) (Q:B8->bb->Prop),
  (∀c' v s',aM.le ↑O c c'->Rel S.mn c' bv s'.heap->dZ s s'->sH S.w c' ↑bv v f->Q v s')->wpAny (MM S.w) A (execs Vi env) Q E s
def y8.cons (h1:Z6 S k O ae st .next bA) (h2:y8 S k bA ae rest f bP):y8 S k O ae (st::rest) f bP:=
 ⟨aA h1.len h2.len,λA c s env hA hF ht hE R E Q hQ=>da (mE (n:=1) ht (h1.run A c s env hA hF ht hE R _ _ λc1 v1 s1 l1 R1 K1 f1=>by
  intro J3;obtain rfl:=f1.wz;exact h2.run A c1 s1 env hA hF J3 (hE.mono l1 h1.len) R1 _ _ λc2 v2 s2 l2 R2 K2 f2=>hQ c2 v2 s2 (l1.trans l2 h1.len) R2 (K1.trans K2) f2))⟩
def y8.turn (h1:afz S k O ae st .next bA) (h2:EU S.mn k bA ae rest f bP):y8 S k O ae (st::rest) f bP:=
 ⟨aA h1.len h2.len,λA c s env hA hF ht hE R E Q hQ=>da (mE (n:=1) ht (h1.run A c s env hA hF ht hE R _ _ λc1 v1 s1 l1 R1 K1 f1=>by
  intro J3;obtain rfl:=f1.wz;exact h2.run A c1 s1 env hA hF J3 (hE.mono l1 h1.len) R1 _ _ λc2 v2 s2 l2 R2 K2 f2=>hQ c2 v2 s2 (l1.trans l2 h1.len) R2 (K1.trans K2) f2))⟩
def y8.ret (h1:Z6 S k O ae st (.ret d) bA):y8 S k O ae (st::rest) (.ret d) bA:=
 ⟨h1.len,λA c s env hA hF ht hE R E Q hQ=>da (h1.run A c s env hA hF ht hE R _ _ λc1 v1 s1 l1 R1 K1 f1=>by
  let ⟨_,q,f2⟩:=f1.Mp;cases q;exact hQ c1 _ s1 l1 R1.mn K1 (.ret f2))⟩
def Ev.refused (Ia:S.yx=true) (hf:nJ S k O ae (.Name f np) (.con (.ref 325))) (h1:Ev S k O ae et (.inst i) O) (h2:nJ S k O ae er (.lst lr)) (n1:notStar et=true) (n2:notStar er=true)
  (hi:O[i]? =aa (.attrs [(a6,.fM h)])) (hh:O[h]? =aa (.list l)) (yz:i≠h) (J5:∃m,O[ae.fi]? =aa (.ns m)) (hk:6<=k):∀A c s env,jF k A->Top A env->cY c ↑O ae env->Rel S c O s.heap->TrO S O A c s (eval (.Call (.Name f np) [et,er] [] pos) env) (.pv (PV.bool true)) O:=by
 intro A c s env hA hT hE R E Q hQ;refine cn (hf.run A c s env hA hE R _ _ λc1 v1 s1 l1 R1 K1 a1=> ?_);have e':=a1.dn;subst e';left;let ⟨of,pm,Kd,N0,FH,_⟩:=R1.fn (r:=bj) (by unfold fV;walk_at "a");right;refine fJ (o:=of) (fd:=bj.fd pm) ?_;refine eg (.cons h1 (.cons h2 .nil n2) n1) _ pos A c1 s1 env hA (hE.mono l1 (ab _)) R1 _ _ λc2 vs s2 l2 R2 K2 a2=> ?_;have Ke:s2.heap.get? 325=aa of:=by let ⟨Fw,_,h0,_,_,_⟩:=S.fns bj (by unfold fV;walk_at "a");have x2:=R2.old h0 ∅;rw[(R1.old h0 ∅)]at Kd;obtain rfl:=ag Kd;exact x2
 refine⟨⟨Ke,FH⟩,?_⟩;have h9:=a2.i1;clear a2;let ⟨va,_,rfl,b1,a2⟩:=h9;have h9:=a2.i1;clear a2;let ⟨vb,_,rfl,b2,a2⟩:=h9;obtain rfl:=a2.i0;have uL:=l1.trans l2 (ab _);have hS:Stk O c2 A:=by refine⟨[env],hT.frames,λe he=> ?_⟩;rw[aC]at he;subst he;let ⟨m,hm⟩:=J5;refine⟨?_,ae.fi,m,by rw[hT.frame,(hE.mono uL (ab _)).locals],hm⟩;rw[hE.scope,hE.kind];decide
 exact Je Ia hi hh yz (hA.le hk) hS R2 b1 b2 E Q λc3 s3 l3 R3 K3=>hQ c3 _ s3 (uL.trans l3 (ab _)) R3 ((K1.trans K2).trans K3) (.pv (.con _))
section
variable {lay:Lay}
def Qb (S:cz) (k:Nat) (lay:Lay) (s:Stmt) (F:St->Option (pn×St)):Prop:=
 ∀p O st fl cg,At lay p st O->F st=aa (fl,cg)->∃bv,fl= .next/\afz S k O (lay.en p) s .next bv/\At lay p cg bv/\ku lay p st cg O bv
def g7 (S:cz) (k:Nat) (lay:Lay) (ss:List Stmt) (F:St->Option (pn×St)):Prop:=
 ∀p O st fl cg,At lay p st O->F st=aa (fl,cg)->∃bv,y8 S k O (lay.en p) ss (fl.af p.oi) bv/\At lay p cg bv/\ku lay p st cg O bv
def g7.cons (h1:je S k lay s f) (h2:g7 S k lay ss g):g7 S k lay (s::ss) (aB f g):=by
 intro p O st fl cg bc hf;unfold aB at hf;split at hf
 ·rename_i st1 e;left;let ⟨lK,a1,b1,c1⟩:=h1 p O st _ st1 bc e;let ⟨uV,a2,b2,c2⟩:=h2 p lK st1 _ cg b1 hf;right;exact⟨uV,.cons a1 a2,b2,c1.trans c2 bc⟩
 ·rename_i v st1 e;let ⟨rfl,rfl⟩:=bB (ag hf);let ⟨lK,a1,b1,c1⟩:=h1 p O st _ _ bc e;exact⟨lK,.ret a1,b1,c1⟩
 ·nomatch hf
def g7.turn (h1:Qb S k lay s f) (h2:tG S.mn k lay ss g):g7 S k lay (s::ss) (aB f g):=by
 intro p O st fl cg bc hf;unfold aB at hf;split at hf
 ·rename_i st1 e;left;let ⟨lK,_,a1,b1,c1⟩:=h1 p O st _ st1 bc e;let ⟨uV,a2,b2,c2⟩:=h2 p lK st1 _ cg b1 hf;right;exact⟨uV,.turn a1 a2,b2,c1.trans c2 bc⟩
 ·rename_i v st1 e;left;let ⟨lK,h,_⟩:=h1 p O st _ _ bc e;right;cases h
 ·nomatch hf
def w9 (i j:Nat) (a b t r:EF) (st:St):Option (pn×St):=((a st).bind CV.aP).bind λva=>((b st).bind IO).bind λx=>(t st).bind λtv=>((r st).bind CV.aL).bind λ_=>(st.I8 tv).map λ_=>(.next,ie i (.pv va) (ie j (.pv (PV.bool x)) st))
def je.refused (Ia:S.yx=true) (hk:6<=k) (hf:lay.mh f=true) (hg:(f,aa (.ref 325))∈cf)
  (h1:cJ S k lay ea a) (h2:cJ S k lay eb b) (h3:cJ S k lay et t) (h4:cJ S k lay er r) (hx:lay.nk i x=true) (hy:lay.nk j y=true)
  (n1:notStar ea=true) (n3:notStar et=true) (n4:notStar er=true)
  (hw:(λenv:lY=>swappedStores [.Tuple [.Name x px,.Name y py] n tp] (.Tuple [ea,.BoolOp .And [eb,.Call (.Name f np) [et,er] [] fp] bp] m vp) {env with scope:=lay.scope})=λ_=>pure (aa [x,y])):
  Qb S k lay (.Assign [.Tuple [.Name x px,.Name y py] n tp] (.Tuple [ea,.BoolOp .And [eb,.Call (.Name f np) [et,er] [] fp] bp] m vp) pos) (w9 i j a b t r):=by
 intro p O st fl cg bc Sb;refine a9 Sb λva ha Sb=>a9 ha λ_ ha e1=>a9 Sb λxb hb Sb=>a9 hb λ_ hb e2=>a9 Sb λtv ht Sb=>a9 Sb λlr hr Sb=>a9 hr λ_ hr e3=> ?_;rw[CV.kP e1]at ha;rw[rJ e2]at hb;rw[CV.kL e3]at hr
 ·let ⟨⟨hh,l⟩,hq,e⟩:=ar.mp Sb;let ⟨rfl,rfl⟩:=bB e;left;let ⟨i0,e1,e2,e3,e4⟩:=bc.I8 hq;have h3':=h3 p O st _ bc ht;right;rw[e1]at h3';have RU:=Ev.refused Ia (np:=np) (pos:=fp) (Ev.Gi hf hg) h3' (h4 p O st _ bc hr) n3 n4 e2 e3 e4 ⟨_,bc.frame⟩ hk;have hand:∀A c s env,jF k A->Top A env->cY c ↑O (lay.en p) env->Rel S c O s.heap->TrO S O A c s (eval (.BoolOp .And [eb,.Call (.Name f np) [et,er] [] fp] bp) env) (.pv (PV.bool xb)) O:=by
   intro A c s env hA hT hE R E Q hQ;rw[show eval (.BoolOp .And [eb,.Call (.Name f np) [et,er] [] fp] bp) env=Ig bp .And (evalEach [eb,.Call (.Name f np) [et,er] [] fp] env) from rfl];show wpAny _ A (do
    let v <- eval eb env
    standAt bp
    let t <- holding [v] (truthy v)
    match BoolOp.And,t with
    | .And,false| .Or,true=>pure v
    |_,_=>eval (.Call (.Name f np) [et,er] [] fp) env) Q E s
   refine am ((h2 p O st _ bc hb).run A c s env hA hE R _ _ λc1 v1 s1 l1 R1 K1 a1=> ?_);have e:=a1.dn;subst e;refine am (cV (am (dH (gc ?_))));induction xb with
   |true=>exact RU A c1 s1 env hA hT (hE.mono l1 (ab _)) R1 E Q λc2 v2 s2 l2 R2 K2 a2=>hQ c2 v2 s2 (l1.trans l2 (ab _)) R2 (K1.trans K2) a2
   |false=>exact aR (hQ c1 _ s1 l1 R1.mn K1 (.pv (.con _)))
  left;let ⟨uV,a2,b2,c2⟩:=bc.ie (S:=S.mn) hy (.pv (PV.bool xb));let ⟨σ3,a3,b3,c3⟩:=b2.ie (S:=S.mn) hx (.pv va);right;refine⟨σ3,rfl,⟨aA a2.len a3.len,λA c s env hA hT ht hE R E Q hQ=> ?_⟩,b3,c2.trans c3 bc⟩;refine ud (names:=[x,y]) (sN ?_) rfl (scp hw hE.scope);rw[gA n1,gA rfl];refine bX ((h1 p O st _ bc ha).run A c s env hA hE R _ _ λc1 u1 s1 l1 R1 K1 a1=> ?_);refine bX (hand A c1 s1 env hA hT (hE.mono l1 (ab _)) R1 _ _ λc2 u2 s2 l2 R2 K2 DX=>eB ⟨by show 2<=2 ^ 24;decide,?_⟩);generalize hcN:c2.put s2.heap.objs.size {cls:= .type "tuple",data:= .seq #[u1,u2]}=cN;have lN:aM.le ↑O c2 cN:=by exact hcN▸(aM.dC (R2.oy (ab s2.heap.objs.size)))
  have RN:Rel S.mn cN O (s2.heap.push {cls:= .type "tuple",data:= .seq #[u1,u2]}):=by rw[<- hcN];exact R2.sY
  have key:∀Q',(∀h',rp (s2.heap.push {cls:= .type "tuple",data:= .seq #[u1,u2]}).objs.size (s2.heap.push {cls:= .type "tuple",data:= .seq #[u1,u2]}) h'->Q' [u1,u2] {s2 with heap:=h'})->wpAny (MM S.w) A (unpackItems (.ref s2.heap.objs.size) 2 ac) Q' E {s2 with heap:=s2.heap.push {cls:= .type "tuple",data:= .seq #[u1,u2]}}:=λQ' hq=>
   vz (prog:=pw) (w:=S.w) (items:= #[u1,u2]) (s:= {s2 with heap:=s2.heap.push {cls:= .type "tuple",data:= .seq #[u1,u2]}}) (Q:=Q') hA.hn ⟨_,aV _ rfl,rfl,_,rfl⟩ hq
  refine key _ λh' xW=> ?_;have R':Rel S.mn cN O h':=RN.ext λb o e=>xW b o (cU (bW e)) e;show wpAny _ A (do holding _ (bindName env y _);holding _ (bindName env x _);pure ()) _ _ _;have l1N:=(l1.trans l2 (ab _)).trans lN (ab _);have rv:=hE.mono l1N (ab _);refine am (dH (sf (a2.run A cN {s2 with heap:=h'} env _ rv R' (DX.mono lN (ab _)) _ _ λc4 s4 l4 R4 K4=> ?_)));refine am (dH (sf (a3.run A c4 s4 env _ (rv.mono l4 a2.len) R4 (((a1.mono l2 (ab _)).mono lN (ab _)).mono l4 a2.len) _ _ λc5 s5 l5 R5 K5=> ?_)));exact aR (hQ c5 .next s5 ((l1N.trans l4 (ab _)).trans l5 a2.len) R5 ((((K1.trans K2).trans (.gF ..)).trans K4).trans K5) .next)
end
set_option maxHeartbeats 4000000
local macro_rules | `(tactic| walk_at "sd") => do
  let w ← `(tactic| walk_at "sd")
  let a := #[← wk w "je; of", ← wk w "ms; Dp", ← wk w "cJ; PY; items", ← wk w "MI; ahA"]
  `(tactic| first $[| $a:tactic]*)
def ij (i:Nat):Stmt:=Ax.body.getD i (.Pass default)
def dU:Lay:=eW Ax ["script", "y", "laid", "turned", "text", "units", "unit", "opening", "bare", "deep", "first", "wide", "front", "given", "kept", "right", "pair", "due"] [("begin",15),("hues",14),("j",13),("pairs",12),("end",11),("rows",10),("over",9),("under",8),("table",7),("told",6),("pieces",5),("behind",4),("parts",3),("sums",2),("numbers",1),("x",0)]
def Qc:fO:=lQ [([46,48],.local),([120],.local)] ["x"] [] []
def Qd:fO:=lQ [([46,48],.local),([107],.local),([115,117,109],.globalImplicit),([110,117,109,98,101,114,115],.free)] ["k"] [] [("numbers",14)]
def Qe:fO:=lQ [([46,48],.local),([107],.local),([115,117,109,115],.free)] ["k"] [] [("sums",13)]
def Qf:fO:=lQ [([46,48],.local),([107],.local),([98,101,104,105,110,100],.free),([115,117,109,115],.free)] ["k"] [] [("sums",13),("behind",11)]
def G7:fO:=lQ [([46,48],.local),([120],.local),([95,108,97,119,95,116,111,108,100],.globalImplicit),([112,97,114,116,115],.free)] ["x"] [] [("parts",12)]
def G8:fO:=lQ [([46,48],.local),([120],.local),([116,97,98,108,101],.free)] ["x"] [] [("table",8)]
def G9:fO:=lQ [([46,48],.local),([120],.local),([116,97,98,108,101],.free)] ["x"] [] [("table",8)]
def Ha:fO:=lQ [([46,48],.local),([119,97,121],.cell),([95,108,97,119,95,117,110,108,105,107,101],.globalImplicit),([112,97,114,116,115],.free)] [] [("way",0)] [("parts",12)]
def xa:fO:=lQ [([46,48],.local),([120],.local),([108,101,110],.globalImplicit),([119,97,121],.free)] ["x"] [] [("way",0)]
def Qg:fO:=lQ [([46,48],.local),([120],.local),([98,105,115,101,99,116,95,108,101,102,116],.globalImplicit),([108,101,110],.globalImplicit),([114,111,119,115],.free),([117,110,100,101,114],.free)] ["x"] [] [("under",7),("rows",5)]
def M3:fO:=lQ [([46,48],.local),([120],.local),([108,101,110],.globalImplicit),([98,105,115,101,99,116,95,114,105,103,104,116],.globalImplicit),([111,118,101,114],.free),([114,111,119,115],.free)] ["x"] [] [("rows",5),("over",6)]
def M4:fO:=lQ [([46,48],.local),([120],.local),([121],.local),([109,97,120],.globalImplicit),([109,105,110],.globalImplicit),([112,97,114,116,115],.free)] ["x", "y"] [] [("parts",12)]
def M5:fO:=lQ [([46,48],.local),([120],.local),([121],.local),([98,101,103,105,110],.free),([101,110,100],.free),([112,97,114,116,115],.free)] ["x", "y"] [] [("parts",12),("end",4),("begin",0)]
def rb:kh:=⟨fsc [([121],.local),([98,101,103,105,110],.free)], "y",[("begin",0)]⟩
def rc:kh:=⟨fsc [([121],.local),([98,101,103,105,110],.free)], "y",[("begin",0)]⟩
def uw:fO:=lQ [([46,48],.local),([120],.local),([117,110,105,116],.local),([98,101,103,105,110],.free),([106],.free),([112,105,101,99,101,115],.free)] ["x", "unit"] [] [("pieces",10),("j",2),("begin",0)]
def ux:fO:=lQ [([46,48],.local),([120],.local),([117,110,105,116],.local),([101,110,100],.free),([106],.free)] ["x", "unit"] [] [("j",2),("end",4)]
def Dr:fO:=lQ [([46,48],.local),([111,110,101],.local)] ["one"] [] []
def yl:fO:=lQ [([46,48],.local),([111,110,101],.local),([112,97,105,114,115],.free),([120],.free)] ["one"] [] [("x",15),("pairs",3)]
def Ds:fO:=lQ [([46,48],.local),([121],.local),([112,97,105,114,115],.free),([120],.free)] ["y"] [] [("x",0),("pairs",1)]
def ym:fO:=lQ [([46,48],.local),([112,108,97,99,101],.local),([117,110,105,116],.local)] ["place", "unit"] [] []
def rd:fO:=lQ [([46,48],.local),([111,110,101],.local),([108,101,110],.globalImplicit)] ["one"] [] []
def M6:fO:=lQ [([46,48],.local),([120],.local),([121],.local),([104,117,101,115],.free),([112,97,105,114,115],.free),([112,97,114,116,115],.free)] ["x", "y"] [] [("parts",12),("pairs",3),("hues",1)]
def M7:fO:=lQ [([46,48],.local),([120],.cell),([111,118,101,114],.free),([112,97,105,114,115],.free),([112,97,114,116,115],.free),([117,110,100,101,114],.free)] [] [("x",0)] [("under",7),("parts",12),("pairs",3),("over",6)]
def Dt:fO:=lQ [([46,48],.local),([121],.local),([112,97,105,114,115],.free),([120],.free)] ["y"] [] [("x",0),("pairs",3)]
def Du:fO:=lQ [([46,48],.local),([121],.local),([112,97,105,114,115],.free),([120],.free)] ["y"] [] [("x",0),("pairs",3)]
def yn:fO:=lQ [([46,48],.local),([120],.local),([116,111,108,100],.free)] ["x"] [] [("told",9)]
def M8:fO:=lQ [([46,48],.local),([112,97,105,114],.local),([111,110,101],.local)] ["pair", "one"] [] []
def zZ:SF:=(bZ (ei Qc (jy (fN (ak 0) eD (gV ⇑60) eD)) (dN (bf 0) fG (gO (ba .Mod (ak 0) ⇑1000000)))) (jL 14))
def Uw:je S 6 dU (ij 0) zZ:=by walk_at "sd"
def z0:SF:=(bZ (ei Qd (rN ⇑6) (dN (bf 0) fG (gO (ba .Add (bk (jd (au ⇑2361 (au ⇑1109 (au ⇑445 (au ⇑4291 (au ⇑1933 (au ⇑3006 aZ))))))) (ak 0)) (dJ My (au (fN (aX 0) (gV (ak 0)) eD (gV ⇑6)) aZ)))))) (jL 13))
def Ux:je S 6 dU (ij 1) z0:=by walk_at "sd"
def z1:SF:=(bZ (lz Qe (rN ⇑6) (dN (bf 0) fG (th (bk ↥"abcdef" (ak 0)) (j8 (au (ba .Mod (bk (aX 0) (ak 0)) ⇑9) (au (ba .Mod (ba .FloorDiv (bk (aX 0) (ak 0)) ⇑9) ⇑9) (au (ba .Mod (ba .FloorDiv (bk (aX 0) (ak 0)) ⇑81) ⇑9) aZ))))))) (jL 12))
def Uy:je S 6 dU (ij 2) z1:=by walk_at "sd"
def E0:SF:=(bZ (jd (au (j8 aZ) (au (j8 (au ↥"\\(" aZ)) (au (j8 (au ↥"\\)" aZ)) (au (j8 (au ↥"\"" (au ↥"(" (au ↥"\"" aZ)))) (au (j8 (au ↥"\"" (au ↥")" (au ↥"\"" aZ)))) (au (j8 (au ↥"\\\"" aZ)) (au (j8 (au ↥"\\\\" aZ)) aZ)))))))) (jL 11))
def Uz:je S 6 dU (ij 3) E0:=by walk_at "sd"
def z2:SF:=(bZ (lz Qf (rN ⇑6) (dN (bf 0) fG (th (bk ↥"abcdef" (ak 0)) (bk (aX 1) (ba .Mod (ba .FloorDiv (bk (aX 0) (ak 0)) ⇑729) ⇑7))))) (jL 10))
def UA:je S 6 dU (ij 4) z2:=by walk_at "sd"
def z3:SF:=(GA (ji (lc (lz G7 (jy (aX 12)) (dN (bf 0) fG (th (ak 0) (kb nv (au (bk (bk (aX 0) (ak 0)) ⇑0) (au (bk (bk (aX 0) (ak 0)) ⇑1) (au (bk (bk (aX 0) (ak 0)) ⇑2) aZ)))))))) (ji GZ EA)) (fB (jL 9) (fB (jL 8) qU)))
def UB:je S 6 dU (ij 5) z3:=by walk_at "sd"
def z4:SF:=(mK (jy (aX 12)) (jL 15) (aB (mK (jy (aX 12)) (bf 1) (aB (jA (bY .Lt (bk (bk (aX 9) (aX 15)) ⇑1) (bk (bk (aX 9) (ak 1)) ⇑0)) (aB (eJ (aX 8) (au (eQ "str" gS (ak 1) aZ) (au (aX 15) aZ))) (aB (eJ (aX 8) (au (ba .Add (aX 15) (eQ "str" gS (aX 15) aZ)) (au (ak 1) aZ))) br)) br) br)) br))
def UC:je S 6 dU (ij 6) z4:=by walk_at "sd"
def z5:SF:=(GA (ji (lc (lz G8 (jy (aX 12)) (dN (bf 0) fG (th (ak 0) (mX (aX 0) (au (ak 0) aZ)))))) (ji (lc (lz G9 (jy (aX 12)) (dN (bf 0) fG (th (ak 0) (mX (aX 0) (au (ba .Add (eQ "str" gS (ak 0) aZ) (ak 0)) aZ)))))) EA)) (fB (jL 7) (fB (jL 6) qU)))
def UD:je S 6 dU (ij 7) z5:=by walk_at "sd"
def z6:SF:=(bZ (ei Ha (jy (jd (au (aX 7) (au (aX 6) aZ)))) (dN (jL 0) fG (gO (kb lh (au (ei xa (jy (aX 1)) (dN (bf 0) fG (gO (dJ kr (au (bk (aX 0) (ak 0)) aZ))))) aZ))))) (jL 5))
def UE:je S 6 dU (ij 8) z6:=by walk_at "sd"
def z7:SF:=(bZ (lz Qg (jy (aX 12)) (dN (bf 0) fG (th (ak 0) (qF false (bk (aX 1) ⇑0) (dJ kr (au (bk (aX 0) (ak 0)) aZ)))))) (jL 0))
def UG:je S 6 dU (ij 9) z7:=by walk_at "sd"
def xc:SF:=(bZ (lz M3 (jy (aX 12)) (dN (bf 0) fG (th (ak 0) (ba .Sub (dJ kr (au (bk (aX 0) ⇑1) aZ)) (qF true (bk (aX 0) ⇑1) (dJ kr (au (bk (aX 1) (ak 0)) aZ))))))) (jL 4))
def Qh:je S 6 dU (ij 10) xc:=by walk_at "sd"
def xd:SF:=(bZ (ei M4 (jy (aX 12)) (dN (bf 0) fG (Iq (jy (aX 0)) (dN (bf 1) (bY .Lt (dJ Ep (au (bk (aX 0) (ak 0)) aZ)) (dJ MB (au (bk (aX 0) (ak 1)) aZ))) (gO (ba .Add (ak 0) (ak 1))))))) (jL 3))
def Qi:je S 6 dU (ij 11) xd:=by walk_at "sd"
def xe:SF:=(jA (bY .NotEq (ei M5 (jy (aX 12)) (dN (bf 0) fG (Iq (jy (aX 0)) (dN (bf 1) (bY .Lt (bk (aX 1) (ak 0)) (bk (aX 2) (ak 1))) (gO (ba .Add (ak 0) (ak 1))))))) (aX 3)) (aB (i7 (jb (PV.bool false))) br) br)
def Qj:je S 6 dU (ij 12) xe:=by walk_at "sd"
def Bq:SF:=(GA (ji (Ez (.list [])) (ji (Ez (.list [])) (ji (lc ↥"") (ji (Ez (.list [])) EA)))) (fB (bf 2) (fB (bf 3) (fB (bf 4) (fB (bf 5) qU)))))
def Qk:je S 6 dU (ij 13) Bq:=by walk_at "sd"
def xf:SF:=(mK (jy ↥"abcdef") (jL 15) (aB (A9 true rb (ak 2) (aX 15) (bk (aX 0) (ak 0))) br))
def Ql:je S 6 dU (ij 14) xf:=by walk_at "sd"
def xg:SF:=(mK (jy ↥"fedcba") (jL 15) (aB (A9 false rc (ak 3) (aX 15) (bk (aX 0) (ak 0))) br))
def Qm:je S 6 dU (ij 15) xg:=by walk_at "sd"
def xj:SF:=(mK (rN (dJ kr (au (bk (aX 5) ⇑0) aZ))) (jL 2) (aB (bZ (ei uw (jy (aX 12)) (dN (bf 0) (bY .Eq (bk (aX 2) (ak 0)) (aX 1)) (Iq (jy (ba .Add (j8 (au ↥"(" (au (ak 0) aZ))) (bk (aX 0) (ak 0)))) (dN (bf 1) fG (gO (ak 1)))))) (bf 7)) (aB (mK (jy (ba .Add (ak 7) (ei ux (jy (aX 12)) (dN (bf 0) (bY .Eq (bk (aX 1) (ak 0)) (aX 0)) (Iq (jy (jd (au (eQ "str" gS (ak 0) aZ) (au ↥")" aZ)))) (dN (bf 1) fG (gO (ak 1)))))))) (bf 6) (aB (bZ (ba .Add (ak 4) (ak 6)) (bf 4)) (aB (oA gZ (ak 5) (au (jd (au (ba .Sub (dJ kr (au (ak 4) aZ)) ⇑1) (au (ak 6) aZ))) aZ)) br))) br)))
def Qn:je S 6 dU (ij 16) xj:=(je.of (ms.T3 (yT.range tt (Cu so) (Cu so) (cJ.call (fv:= .builtin "len") fA.len (.inl ⟨_,rfl⟩) tt (Cu so) (Cu so) (pS.cons (cJ.item (cJ.nq (i:=5) tt) cJ.int La) pS.nil rfl)) rfl) (Cj.nq (i:=2) tt) (j3.cons (ms.yV (i:=7) (fO.Gv tt) rfl (Z5 rfl) (fa2 (λ_ _=>rfl) (λ_ _=>rfl)) (yT.C (yT.val (cJ.nq (i:=12) tt))) (Dg.more rfl rfl rfl (Cj.loc (i:=0) tt) (zW (AH.cmp (cJ.item (cJ.nq (i:=2) tt) (cJ.loc (i:=0) tt) La) (cJ.nq (i:=1) tt) rfl)) (yT.C (yT.val (cJ.bin (cJ.lst (pS.cons cJ.str (pS.cons (cJ.loc (i:=0) tt) pS.nil rfl) rfl)) (cJ.item (cJ.nq (i:=0) tt) (cJ.loc (i:=0) tt) La)))) (Dg.last rfl rfl rfl (Cj.loc (i:=1) tt) wJ (Et.list (cJ.loc (i:=1) tt)))) tt pp) (j3.cons (ms.T3 (yT.val (cJ.bin (cJ.loc (i:=7) tt) (cJ.Gw (fO.Gv tt) rfl (Z5 rfl) (fa2 (λ_ _=>rfl) (λ_ _=>rfl)) (yT.C (yT.val (cJ.nq (i:=12) tt))) (Dg.more rfl rfl rfl (Cj.loc (i:=0) tt) (zW (AH.cmp (cJ.item (cJ.nq (i:=1) tt) (cJ.loc (i:=0) tt) La) (cJ.nq (i:=0) tt) rfl)) (yT.C (yT.val (cJ.tup (pS.cons (cJ.td fA.upper F.plainAttrs_str F.slot_str_upper F.type_str_upper (cJ.loc (i:=0) tt) pS.nil (λ_=>rfl) rfl ∅) (pS.cons cJ.str pS.nil rfl) rfl)))) (Dg.last rfl rfl rfl (Cj.loc (i:=1) tt) wJ (Et.list (cJ.loc (i:=1) tt))))))) (Cj.loc (i:=6) tt) (j3.cons (ms.PB (i:=4) (cJ.bin (cJ.loc (i:=4) tt) (cJ.loc (i:=6) tt)) tt pp) (j3.cons (ms.S2 AZ.append F.slot_list_append F.type_list_append (cJ.loc (i:=5) tt) (pS.cons (cJ.tup (pS.cons (cJ.bin (cJ.call (fv:= .builtin "len") fA.len (.inl ⟨_,rfl⟩) tt (Cu so) (Cu so) (pS.cons (cJ.loc (i:=4) tt) pS.nil rfl)) cJ.int) (pS.cons (cJ.loc (i:=6) tt) pS.nil rfl) rfl)) pS.nil rfl) (λ_=>rfl) rfl ∅ pp) j3.nil)) (λ_ _=>rfl)) j3.nil)) (λ_ _=>rfl)))
def Br:SF:=(Ls 8 (ak 4) "\"(\"" "\")\"" ↥"\"(")
def Qo:je S 6 dU (ij 17) Br:=(je.bare (i:=8) (cJ.loc (i:=4) tt) cJ.str tt ∅ ∅ (λ_=>rfl) (λ_=>rfl) rfl rfl (λ_ _=>rfl))
def xk:SF:=(jA (Gj (bY .NotEq (ei Dr (zB (ba .Add (ak 4) ↥"\\")) (dN (bf 0) fG (gO (ak 0)))) (ba .Add (ak 5) (j8 (au (jd (au (dJ kr (au (ak 4) aZ)) (au ↥"\\" aZ))) aZ)))) (Gj (bY .NotEq (kb dW (au (ba .Add (ak 4) ↥"\"(") aZ)) (ak 8)) vD)) (aB (i7 (jb (PV.bool false))) br) br)
def Qp:je S 6 dU (ij 18) xk:=by walk_at "sd"
def xl:SF:=(bZ (kb tE (au (ak 4) (au (dJ My (au (aX 13) aZ)) aZ))) (pV (eT (jL 1) (eT (bf 9) (eT (bf 10) pU)))))
def Qq:je S 6 dU (ij 19) xl:=by walk_at "sd"
def Bs:SF:=(bZ (j8 (au (j8 aZ) aZ)) (bf 11))
def Qr:je S 6 dU (ij 20) Bs:=by walk_at "sd"
def Bt:SF:=(mK (jy (aX 12)) (jL 15) (aB (bZ (ba .Add (ak 11) (ei yl (jy (ak 11)) (dN (bf 0) (bY .Eq (ei Ds (jy (ak 0)) (dN (bf 0) (Gj (bY .In (ba .Add (aX 0) (ak 0)) (aX 1)) (Gj (bY .In (ba .Add (ak 0) (aX 0)) (aX 1)) vD)) (gO (ak 0)))) (j8 aZ)) (gO (ba .Add (ak 0) (j8 (au (aX 0) aZ))))))) (bf 11)) br))
def Qs:je S 6 dU (ij 21) Bt:=by walk_at "sd"
def xm:SF:=(jA (Gj (x9 (vE .Eq .Eq (ak 2) (ak 3) (ei ym (Gu (ak 5)) (dN (pV (eT (bf 0) (eT (bf 1) pU))) (bY .In (ak 1) ↥"abcdef") (gO (ak 1)))))) (Gj (x9 (vE .Eq .Eq (ba .Add ⇑1 (pq (aX 1))) (ak 9) (dJ Ep (au (ei rd (jy (ak 11)) (dN (bf 0) fG (gO (dJ kr (au (ak 0) aZ))))) aZ)))) vD)) (aB (i7 (jb (PV.bool false))) br) br)
def Qt:je S 6 dU (ij 22) xm:=by walk_at "sd"
def xn:SF:=(jA (bY .NotEq (ei M6 (jy (aX 12)) (dN (bf 0) fG (Iq (jy (aX 0)) (dN (bf 1) (wC (bY .Lt (ak 0) (ak 1)) (wC (bY .Eq (bk (aX 2) (ak 0)) (bk (aX 2) (ak 1))) (wC (bY .NotIn (ba .Add (ak 0) (ak 1)) (aX 1)) (wC (bY .NotIn (ba .Add (ak 1) (ak 0)) (aX 1)) fG)))) (gO (ba .Add (ak 0) (ak 1))))))) (j8 aZ)) (aB (i7 (jb (PV.bool false))) br) br)
def Qu:je S 6 dU (ij 23) xn:=by walk_at "sd"
def xo:SF:=(bZ (ba .Add (fN (ak 4) eD (gV (eQ "str" AP (ak 4) (au (ak 10) aZ))) eD) (ba .Mult ↥")" (ak 9))) (bf 12))
def Qv:je S 6 dU (ij 24) xo:=by walk_at "sd"
def xq:SF:=(bZ (j8 (au (ak 12) (au (fN (ak 12) eD (gV (wL ⇑1)) eD) (au (ba .Add ↥")" (fN (ak 12) eD (gV (wL ⇑1)) eD)) (au (ak 4) aZ))))) (bf 13))
def Qw:je S 6 dU (ij 25) xq:=by walk_at "sd"
def xr:SF:=(jA (Gj (bY .NotEq (kb hZ (au (ak 13) aZ)) (j8 (au (ak 12) (au ↥"('', '')" (au ↥"('', '')" (au (ak 4) aZ)))))) (Gj (bY .NotEq (ak 13) (j8 (au (ak 12) (au (fN (ak 12) eD (gV (wL ⇑1)) eD) (au (ba .Add ↥")" (fN (ak 12) eD (gV (wL ⇑1)) eD)) (au (ak 4) aZ)))))) vD)) (aB (i7 (jb (PV.bool false))) br) br)
def Qx:je S 6 dU (ij 26) xr:=by walk_at "sd"
def tI:SF:=(jA (bY .NotEq (ei M7 (jy (aX 12)) (dN (jL 0) (Gj (bY .NotEq (bk (aX 1) (aX 0)) (ei Dt (jy (aX 2)) (dN (bf 0) (bY .In (ba .Add (ak 0) (aX 0)) (aX 1)) (gO (ak 0))))) (Gj (bY .NotEq (bk (aX 4) (aX 0)) (ei Du (jy (aX 2)) (dN (bf 0) (bY .In (ba .Add (aX 0) (ak 0)) (aX 1)) (gO (ak 0))))) vD)) (gO (aX 0)))) (j8 aZ)) (aB (i7 (jb (PV.bool false))) br) br)
def Qy:je S 6 dU (ij 27) tI:=by walk_at "sd"
def Bu:SF:=(w9 14 15 (dJ Lb (au (bk (aX 5) ⇑0) aZ)) (qD (bY .Eq (ei yn (jy (aX 12)) (dN (bf 0) (x9 (mw (bk (bk (aX 0) (ak 0)) ⇑2))) (gO (ak 0)))) (j8 aZ))) (aX 8) (bk (aX 5) ⇑0))
def Qz (Ia:S.yx=true):Qb S 6 dU (ij 28) Bu:=(je.refused Ia (i:=14) (j:=15) (by exact ab _) tt (Cu so) (cJ.call (fv:= .type "list") fA.list (.inr ⟨_,rfl⟩) tt (Cu so) (Cu so) (pS.cons (cJ.item (cJ.nq (i:=5) tt) cJ.int La) pS.nil rfl)) (cJ.cmp (cJ.Gw (fO.Gv tt) rfl fa0 (Z5 (λ_ _=>rfl)) (yT.C (yT.val (cJ.nq (i:=12) tt))) (Dg.last rfl rfl rfl (Cj.loc (i:=0) tt) (zW (AH.not (AH.val (cJ.item (cJ.item (cJ.nq (i:=0) tt) (cJ.loc (i:=0) tt) La) cJ.int La) (λ_ _=>rfl)))) (Et.list (cJ.loc (i:=0) tt)))) (cJ.lst pS.nil) rfl) (cJ.nq (i:=8) tt) (cJ.item (cJ.nq (i:=5) tt) cJ.int La) tt tt rfl rfl rfl (by kernel_rfl))
def xt:SF:=(bZ (ei M8 (jy (aX 3)) (dN (bf 0) fG (Iq (jy (jd (au (jd (au (eQ "str" gS (bk (ak 0) ⇑1) aZ) (au (bk (ak 0) ⇑0) aZ))) (au (jd (au (ba .Add (bk (ak 0) ⇑0) (eQ "str" gS (bk (ak 0) ⇑0) aZ)) (au (bk (ak 0) ⇑1) aZ))) aZ)))) (dN (bf 1) fG (gO (ak 1)))))) (bf 17))
def QA:je S 6 dU (ij 29) xt:=(je.of (ms.yV (i:=17) (fO.Gv tt) rfl (Z5 rfl) (fa2 (λ_ _=>rfl) (λ_ _=>rfl)) (yT.C (yT.val (cJ.nq (i:=3) tt))) (Dg.more rfl rfl rfl (Cj.loc (i:=0) tt) wJ (yT.C (yT.val (cJ.tup (pS.cons (cJ.tup (pS.cons (cJ.td fA.upper F.plainAttrs_str F.slot_str_upper F.type_str_upper (cJ.item (cJ.loc (i:=0) tt) cJ.int La) pS.nil (λ_=>rfl) rfl ∅) (pS.cons (cJ.item (cJ.loc (i:=0) tt) cJ.int La) pS.nil rfl) rfl)) (pS.cons (cJ.tup (pS.cons (cJ.bin (cJ.item (cJ.loc (i:=0) tt) cJ.int La) (cJ.td fA.upper F.plainAttrs_str F.slot_str_upper F.type_str_upper (cJ.item (cJ.loc (i:=0) tt) cJ.int La) pS.nil (λ_=>rfl) rfl ∅)) (pS.cons (cJ.item (cJ.loc (i:=0) tt) cJ.int La) pS.nil rfl) rfl)) pS.nil rfl) rfl)))) (Dg.last rfl rfl rfl (Cj.loc (i:=1) tt) wJ (Et.list (cJ.loc (i:=1) tt)))) tt pp))
def xu:SF:=(bZ (qD (wC (mw (ak 15)) (wC (mw (qD (bY .Eq (bk (aX 5) ⇑0) (ak 14)))) (mw (qD (bY .Eq (ET (aX 8)) (ak 17))))))) (bf 15))
def QB:je S 6 dU (ij 30) xu:=by walk_at "sd"
def xv:SF:=(mK (jy (fN (aX 3) (gV (wL ⇑1)) eD eD)) (bf 16) (aB (eJ (aX 8) (au (bk (ak 16) ⇑1) (au (bk (ak 16) ⇑0) aZ))) (aB (bZ (qD (wC (mw (ak 15)) (mw (qD (bY .Eq (mX (aX 8) (au (eQ "str" gS (bk (ak 16) ⇑1) aZ) aZ)) (ba .Add (bk (aX 7) (bk (ak 16) ⇑1)) (j8 (au (bk (ak 16) ⇑0) aZ)))))))) (bf 15)) br)))
def QC:je S 6 dU (ij 31) xv:=by walk_at "sd"
def Bv:SF:=(i7 (ak 15))
def QD:je S 6 dU (ij 32) Bv:=by walk_at "sd"
set_option maxHeartbeats 200000
def QE:SF:=aB zZ (aB z0 (aB z1 (aB E0 (aB z2 (aB z3 (aB z4 (aB z5 (aB z6 (aB z7 (aB xc (aB xd (aB xe (aB Bq (aB xf (aB xg (aB xj (aB Br (aB xk (aB xl (aB Bs (aB Bt (aB xm (aB xn (aB xo (aB xq (aB xr (aB tI (aB Bu (aB xt (aB xu (aB xv (aB Bv (br)))))))))))))))))))))))))))))))))
def afA (Ia:S.yx=true):g7 S 6 dU Ax.body QE:=g7.cons Uw (g7.cons Ux (g7.cons Uy (g7.cons Uz (g7.cons UA (g7.cons UB (g7.cons UC (g7.cons UD (g7.cons UE (g7.cons UG (g7.cons Qh (g7.cons Qi (g7.cons Qj (g7.cons Qk (g7.cons Ql (g7.cons Qm (g7.cons Qn (g7.cons Qo (g7.cons Qp (g7.cons Qq (g7.cons Qr (g7.cons Qs (g7.cons Qt (g7.cons Qu (g7.cons Qv (g7.cons Qw (g7.cons Qx (g7.cons Qy (g7.turn (Qz Ia) (tG.cons (QA (S:=S.mn)) (tG.cons (QB (S:=S.mn)) (tG.cons (QC (S:=S.mn)) (tG.cons (QD (S:=S.mn)) (tG.nil)))))))))))))))))))))))))))))))))
def Jf:List Str:=dU.loc
noncomputable def tJ (l:List Int):St:= {lv:=[~~~(.lst (l.map PV.int)),ac,ac,ac,ac,ac,ac,ac,ac,ac,ac,ac,ac,ac,ac,ac,ac,ac],cv:=[ac,ac,ac,ac,ac,ac,ac,ac,ac,ac,ac,ac,ac,ac,ac,ac],ob:=[]}
def iE (h1:tg (.pv x) st=aa st1) (h2:body st1=aa (.next,st2)):lP tg body (x::xs) st=lP tg body xs st2:=by rw[IR,h1];show(body st1).bind _=_;rw[h2];rfl
def Ys (h1:tg (.pv x) st=aa st1) (h2:test st1=aa false):dN tg test inner (x::xs) dA st=dN tg test inner xs dA st1:=by rw[yc,h1];show(test st1).bind _=_;rw[h2];rfl
def QF (h1:tg (.pv x) st=aa st1) (h2:test st1=aa true) (h3:inner dA st1=aa r):dN tg test inner (x::xs) dA st=dN tg test inner xs r.1 r.2:=by rw[yc,h1];show(test st1).bind _=_;rw[h2];show(inner dA st1).bind _=_;rw[h3];rfl
def QG {xs ys:List PV}:∀ {st st1:St},lP tg body xs st=aa (.next,st1)->lP tg body (xs++ys) st=lP tg body ys st1:=by
 induction xs with
 |nil=>intro st st1 h;cases h;rfl
 |cons x xs ih=>
  intro st st1 h;rw[IR]at h;refine a9 h λs1 e1 h=>a9 h λr e2 h=> ?_;let ⟨fl,s2⟩:=r;induction fl with
  |next=>rw[sF,iE e1 e2];exact ih h
  |ret v=>cases h
def Jg (J:St->Prop) (p:PV->Bool) (g:PV->List β) (n:Nat) (xs:List PV):∀(dA:List β) (st:St),J st->
  (∀x∈xs,↑(g x)<=n)->
  (∀x∈xs,∀st,J st->∃st1,tg (.pv x) st=aa st1/\test st1=aa (p x)/\J st1/\(p x=true->∀qJ:List β,↑qJ<= ↑dA+ ↑xs*n->∃st2,inner qJ st1=aa (qJ++g x,st2)/\J st2))->
  ∃cg,dN tg test inner xs dA st=aa (dA++(xs.filter p).flatMap g,cg)/\J cg:=by
 induction xs with
 |nil=>intro dA st h _ _;exact⟨st,by show aa (dA,st)=_;simp,h⟩
 |cons x xs ih=>
  intro dA st h hl hs;let ⟨st1,h1,h2,h3,h4⟩:=hs x ay st h;have hmul: ↑(x::xs)*n= ↑xs*n+n:=by rw[az,Oc,Cp]
  cases hp:p x with
  |false=>
   let ⟨cg,e,j⟩:=ih dA st1 h3 (λy hy=>hl y (aK _ hy)) λy hy st hJ=>by left;let ⟨s1,a,b,c,d⟩:=hs y (aK _ hy) st hJ;right;exact⟨s1,a,b,c,λhp' qJ kA=>d hp' qJ (abZ kA hmul)⟩
   refine⟨cg,?_,j⟩;rw[Ys h1 (hp▸h2),e,eu (hp▸bG)]
  |true=>
   let ⟨st2,e2,h5⟩:=h4 hp dA (V1);let ⟨cg,e,j⟩:=ih (dA++g x) st2 h5 (λy hy=>hl y (aK _ hy)) λy hy st hJ=>by let ⟨s1,a,b,c,d⟩:=hs y (aK _ hy) st hJ;exact⟨s1,a,b,c,λhp' qJ kA=>d hp' qJ (by rw[aj]at kA;exact V2 kA hmul (hl x ay))⟩
   refine⟨cg,?_,j⟩;rw[QF h1 (hp▸h2) e2,e,eo hp,bJ,bF]
def Lx (h:f st= ~~~d) (hl: ↑dA<100000):gO f dA st=aa (dA++[d],st):=by unfold gO;rw[h];exact if_pos hl
def UH (h:f st= ~~~(.str x)) (h2:g st= ~~~d) (hl: ↑dA<100000) (hx:dA.lookup x=ac):th f g dA st=aa (dA++[(x,d)],st):=by unfold th;rw[h,h2];exact if_pos ⟨hl,hx⟩
def li (J:St->Prop) (p:PV->Bool) (g:PV->PV) (hit:it st=aa xs) (hn: ↑xs<50000) (h0:J (cl.st st))
  (hs:∀x∈xs,∀st,J st->∃st1,tg (.pv x) st=aa st1/\test st1=aa (p x)/\J st1/\(p x=true->f st1= ~~~(g x))):
  ei cl it (dN tg test (gO f)) st= ~~~(.lst ((xs.filter p).map g)):=by
 unfold ei;rw[hit];let ⟨cg,e,_⟩:=Jg (β:=PV) J p (λx=>[g x]) 1 xs [] (cl.st st) h0 (λ_ _=>ab _) λx hx st hJ=>by left;let ⟨st1,a,b,c,d⟩:=hs x hx st hJ;right;refine⟨st1,a,b,c,λhp qJ kA=>⟨st1,Lx (d hp) ?_,c⟩⟩;simp at kA;exact ab0 kA hn
 show((dN tg test (gO f) xs [] (cl.st st)).map λr=>CV.pv (.lst r.1))=_;rw[e];simp[Og]
def uy (J:St->Prop) (p:PV->Bool) (ys:PV->List PV) (p2:PV->PV->Bool) (g:PV->PV->PV) (hit:it st=aa xs) (hn: ↑xs<=100) (hm:∀x∈xs,↑(ys x)<=100) (h0:J (cl.st st))
  (hs:∀x∈xs,∀st,J st->∃st1,tg (.pv x) st=aa st1/\test st1=aa (p x)/\J st1/\(p x=true->it2 st1=aa (ys x)/\
   ∃J2:St->Prop,J2 st1/\(∀st,J2 st->J st)/\∀y∈ys x,∀st,J2 st->∃st2,tg2 (.pv y) st=aa st2/\D2 st2=aa (p2 x y)/\J2 st2/\(p2 x y=true->f st2= ~~~(g x y)))):
  ei cl it (dN tg test (Iq it2 (dN tg2 D2 (gO f)))) st= ~~~(.lst ((xs.filter p).flatMap λx=>((ys x).filter (p2 x)).map (g x))):=by
 unfold ei;rw[hit];let ⟨cg,e,_⟩:=Jg (β:=PV) (tg:=tg) (test:=test) (inner:=Iq it2 (dN tg2 D2 (gO f))) J p (λx=>((ys x).filter (p2 x)).map (g x)) 100 xs [] (cl.st st) h0 (λx hx=>by
   rw[aw];exact aA (eY ..) (hm x hx)) λx hx st hJ=>by
  left;let ⟨st1,a,b,c,d⟩:=hs x hx st hJ;right;refine⟨st1,a,b,c,λhp qJ kA=> ?_⟩;left;let ⟨e2,J2,j0,jj,hs2⟩:=d hp;right;let ⟨cg,e',j'⟩:=Jg (β:=PV) J2 (p2 x) (λy=>[g x y]) 1 (ys x) qJ st1 j0 (λ_ _=>ab _) λy hy st hJ=>by left;let ⟨s2,a2,b2,c2,d2⟩:=hs2 y hy st hJ;right;refine⟨s2,a2,b2,c2,λL5 ao5 L0=>⟨s2,Lx (d2 L5) ?_,c2⟩⟩;have: ↑xs*100<=100*100:=Nat.mul_le_mul_right _ hn;simp at kA;exact ab1 L0 kA (hm x hx) this
  refine⟨cg,?_,jj _ j'⟩;unfold Iq;rw[e2];show dN tg2 D2 (gO f) (ys x) qJ st1=_;rw[e',Og]
 show((dN tg test (Iq it2 (dN tg2 D2 (gO f))) xs [] (cl.st st)).map λr=>CV.pv (.lst r.1))=_;rw[e];rfl
def uz (J:St->Prop) (kx:PV->Str) (vx:PV->PV) (hit:it st=aa xs) (hn: ↑xs<50000) (W5:(xs.map kx).Nodup) (h0:J (cl.st st))
  (hs:∀x∈xs,∀st,J st->∃st1,tg (.pv x) st=aa st1/\J st1/\f st1= ~~~(.str (kx x))/\g st1= ~~~(vx x)):
  lz cl it (dN tg fG (th f g)) st= ~~~(.oO (xs.map λx=>(kx x,vx x))):=by
 unfold lz;rw[hit];have key:∀(ys:List PV) (dA:Sp) (s:St),J s->(∀x∈ys,x∈xs)->(dA.map (·.1)++ys.map kx).Nodup-> ↑dA+ ↑ys<100000->∃cg,dN tg fG (th f g) ys dA s=aa (dA++ys.map λx=>(kx x,vx x),cg):=by
  intro ys;induction ys with
  |nil=>intro dA s _ _ _ _;exact⟨s,by show aa (dA,s)=_;simp⟩
  |cons y ys ih=>
   intro dA s hJ CN ahe cH;left;let ⟨st1,a,c,d1,d2⟩:=hs y (CN y ay) s hJ;right;have akL:dA.lookup (kx y)=ac:=by rw[sC];intro q hq;rw[bne_iff_ne];intro e;have e':kx y=q.1:=e;have:=(SQ.mp ahe).2.2 q.1 (aQ.mpr ⟨q,hq,rfl⟩) (kx y) (by simp);exact this e'.symm
   rw[az]at cH;let ⟨cg,e⟩:=ih (dA++[(kx y,vx y)]) st1 c (λx hx=>CN x (aK _ hx)) (by
    rw[bH,bF];simpa using ahe) (by rw[aj,be];exact ab2 cH)
   refine⟨cg,?_⟩;rw[QF a rfl (UH d1 d2 (show ↑dA<100000 by exact ab3 cH) akL),e];simp
 let ⟨cg,e⟩:=key xs [] (cl.st st) h0 (λ_ h=>h) (by simpa using W5) (by simpa using (ab4 hn: ↑xs<100000));show((dN tg fG (th f g) xs [] (cl.st st)).map λr=>CV.pv (.oO r.1))=_;rw[e];rfl
def tK (f:α->β) (l:List α) (a b c:Option Int):cP (l.map f) a b c=(cP l a b c).map f:=by
 unfold cP;rw[aw];generalize sliceRange _ _ _=is;induction is with
 |nil=>rfl
 |cons i is ih=>
  cases h:l[i]? with
  |none=>rw[lO (by simp[h]),lO (by simp[h]),ih]
  |some x=>rw[lM (b:=f x) (by simp[h]),lM (b:=x) (by simp[h]),ih,bw]
def mM (l:List α) (lo hi:Option Int):cP l lo hi ac=(l.drop (lo.elim 0 (clipAt ↑l))).take (hi.elim ↑l (clipAt ↑l)- lo.elim 0 (clipAt ↑l)):=by unfold cP;rw[sliceBounds_plain];simp only[sliceRange_one];have:=pick_run l.toArray (lo.elim 0 (clipAt ↑l)) (hi.elim ↑l (clipAt ↑l)- lo.elim 0 (clipAt ↑l));simpa using this
def tL (h:x∈cP l a b c):x∈l:=by unfold cP at h;let ⟨i,_,e⟩:=xY.mp h;exact bo e
def ajn {n:Nat} {M:Int} (h:0<=M):(if M< (n:Int) then((n:Int)- M+6- 1)/6 else 0).toNat<=n:=by
 by_cases hl:M< (n:Int)
 ·rw[if_pos hl];refine Int.toNat_le.mpr (Int.ediv_le_of_le_mul ∅ ?_);rw[rD,show(n:Int)*6=n+n*5 from Int.mul_add _ 1 5▸by rw[Int.mul_one]];exact FU (Int.sub_le_self _ h) (Cg (qN h hl:(1:Int)<=n) (by decide:(0:Int)<=5))
 ·rw[if_neg hl];exact cI _
def Bw (l:List α) (k:Nat): ↑(cP l (aa (k:Int)) ac (aa 6))<= ↑l:=by unfold cP sliceRange sliceBounds;refine aA (List.length_filterMap_le _ _) ?_;rw[aw,rq];exact ajn (Xv _ _)
def sum_bound (l:List Int) (h:∀x∈l,0<=x/\x<1000000):0<=l.sum/\l.sum<= ↑l*1000000:=by
 induction l with
 |nil=>exact⟨we _,we _⟩
 |cons x l ih=>have h1:=h x ay;have h2:=ih λy hy=>h y (aK _ hy);rw[List.sum_cons,az,pK,Int.add_mul,uh x];exact⟨Int.add_nonneg h2.1 h1.1,FU h2.2 (Int.le_of_lt h1.2)⟩
noncomputable def numsOf (l:List Int):List Int:=(l.take 60).map λx=>x.fmod 1000000
noncomputable def xw (k:Nat):Int:=[2361,1109,445,4291,1933,3006].getD k 0
def sumOf (l:List Int) (k:Nat):Int:=xw k+(cP (numsOf l) (aa (k:Int)) ac (aa 6)).sum
def numsOf_len (l:List Int): ↑(numsOf l)<=60:=by unfold numsOf;rw[aw,cF];exact j4 ..
def Jh (h:x∈numsOf l):0<=x/\x<1000000:=by unfold numsOf at h;let ⟨y,_,e⟩:=aQ.mp h;subst e;exact⟨Int.fmod_nonneg_of_pos _ ∅,Int.fmod_lt_of_pos _ ∅⟩
def Bx (k:Nat):0<=xw k/\xw k<=5000:=by
 match k with
 |0=>decide
 |1=>decide
 |2=>decide
 |3=>decide
 |4=>decide
 |5=>decide
 |k+6=>show 0<=(0:Int)/\(0:Int)<=5000;decide
def y9 (l:List Int) (k:Nat):0<=sumOf l k/\sumOf l k<=61000000:=by have h1:=Bx k;have h2:=sum_bound (cP (numsOf l) (aa (k:Int)) ac (aa 6)) λx hx=>Jh (tL hx);exact⟨Int.add_nonneg h1.1 h2.1,ec (FU h1.2 (ec h2.2 (Cg (fK.mpr (aA (Bw (numsOf l) k) (numsOf_len l))) (by decide:(0:Int)<=1000000)))) ∅⟩
def E2 (l:List Int):St:= {lv:=[~~~(.lst (l.map PV.int)),ac,ac,ac,ac,ac,ac,ac,ac,ac,ac,ac,ac,ac,ac,ac,ac,ac],cv:=[ac,ac,ac,ac,ac,ac,ac,ac,ac,ac,ac,ac,ac,ac,~~~(.lst ((numsOf l).map PV.int)),ac],ob:=[]}
def afB (l:List Int) (hl: ↑l<=63):zZ (tJ l)=aa (.next,E2 l):=by
 have hit:jy (fN (ak 0) eD (gV ⇑60) eD) (tJ l)=aa ((l.take 60).map PV.int):=by
  have e:fN (ak 0) eD (gV ⇑60) eD (tJ l)=(pf (tJ l) (.pv (.lst (l.map PV.int))) ac (aa 60) ac).map CV.pv:=rfl;have e2:pf (tJ l) (.pv (.lst (l.map PV.int))) ac (aa 60) ac=aa (.lst ((l.take 60).map PV.int)):=by
   show(if ↑(l.map PV.int)<=sizeLine/\(ac:Option Int)≠aa 0 then aa (PV.lst (cP (l.map PV.int) ac (aa 60) ac)) else ac)=_;rw[if_pos ⟨by rw[aw];exact ab5 hl (show sizeLine=2 ^ 24 by decide),by simp⟩,tK,mM];simp only[Option.elim,D5,Nat.sub_zero];rw[show(60:Int)=((60:Nat):Int) from rfl,clipAt_nat];rcases zM 60 ↑l with h|h
   ·rw[iz h]
   ·rw[VH h,eP (ab _),eP h]
  unfold jy;rw[e,e2];rfl
 unfold zZ bZ;erw [li (J:=λst=>∃a,st=⟨[a],[],[]⟩) (p:=λ_=>true) (g:=λx=>match x with| .int i=> .int (i.fmod 1000000)|x=>x) hit (by rw[aw,cF];exact ab6) ⟨ac,rfl⟩ ?_]
 ·rw[bL.mpr (λ_ _=>rfl),bD];show aa (pn.next,rM 14 (.pv (.lst ((l.take 60).map _))) (tJ l))=_;unfold E2 numsOf;rw[bD];rfl
 ·rintro x hx st ⟨a,rfl⟩;let ⟨i,_,rfl⟩:=aQ.mp hx;exact⟨_,rfl,rfl,⟨_,rfl⟩,λ_=>rfl⟩
def tM (st:St) (a b:Int):Mv st .Add (.pv (.int a)) (.pv (.int b))=aa (.int (a+b)):=rfl
def dq (h1:f st=aa a) (h2:g st=aa b) (h:Mv st op a b=aa d):ba op f g st= ~~~d:=by unfold ba vg;rw[h1,h2];show(Mv st op a b).map _=_;rw[h];rfl
def Hb (h:AF op x y=aa d):Mv st op (.pv x) (.pv y)=aa d:=by show(AF op x y).or _=_;rw[h];rfl
def vO (n:Nat): ↑(iK n)=n:=by unfold iK;rw[aw,rq]
noncomputable def ig (n:Nat->Int):List PV:=(cK 6).map λk=>PV.int (n k)
def E3 (l:List Int):St:= {lv:=[~~~(.lst (l.map PV.int)),ac,ac,ac,ac,ac,ac,ac,ac,ac,ac,ac,ac,ac,ac,ac,ac,ac],cv:=[ac,ac,ac,ac,ac,ac,ac,ac,ac,ac,ac,ac,ac,~~~(.lst (ig (sumOf l))),~~~(.lst ((numsOf l).map PV.int)),ac],ob:=[]}
def Hc (l:List Int) (k:Nat):fN (aX 0) (gV (ak 0)) eD (gV ⇑6) ⟨[~~~(.int (k:Int))],[~~~(.lst ((numsOf l).map PV.int))],[]⟩= ~~~(.lst ((cP (numsOf l) (aa (k:Int)) ac (aa 6)).map PV.int)):=by
 have e2:pf ⟨[~~~(.int (k:Int))],[~~~(.lst ((numsOf l).map PV.int))],[]⟩ (.pv (.lst ((numsOf l).map PV.int))) (aa (k:Int)) ac (aa 6)=aa (.lst ((cP (numsOf l) (aa (k:Int)) ac (aa 6)).map PV.int)):=by show(if ↑((numsOf l).map PV.int)<=sizeLine/\(aa 6:Option Int)≠aa 0 then aa (PV.lst (cP ((numsOf l).map PV.int) (aa (k:Int)) ac (aa 6))) else ac)=_;rw[if_pos ⟨by rw[aw];exact aA (numsOf_len l) ∅,by simp⟩,tK]
 show(pf _ _ _ _ _).map CV.pv=_;rw[e2];rfl
def M9 (l:List Int) (k:Nat):dJ My (au (fN (aX 0) (gV (ak 0)) eD (gV ⇑6)) aZ) ⟨[~~~(.int (k:Int))],[~~~(.lst ((numsOf l).map PV.int))],[]⟩= ~~~(.int (cP (numsOf l) (aa (k:Int)) ac (aa 6)).sum):=by unfold dJ au aZ;rw[Hc];show((jQ ((cP (numsOf l) (aa (k:Int)) ac (aa 6)).map PV.int)).map λns=>CV.pv (.int ns.sum))=_;rw[pg];rfl
abbrev QH:St->Option CV:=bk (jd (au ⇑2361 (au ⇑1109 (au ⇑445 (au ⇑4291 (au ⇑1933 (au ⇑3006 aZ))))))) (ak 0)
@[elab_as_elim] theorem S5 {P:Nat->Prop} (h:k<6) (h0:P 0) (h1:P 1) (h2:P 2) (h3:P 3) (h4:P 4) (h5:P 5):P k:=by
 match k with
 |0=>exact h0
 |1=>exact h1
 |2=>exact h2
 |3=>exact h3
 |4=>exact h4
 |5=>exact h5
 |k+6=>exact absurd h (dE (gn ..))
def Hd (c:CV) (k:Nat) (hk:k<6):QH ⟨[~~~(.int (k:Int))],[aa c],[]⟩= ~~~(.int (xw k)):=S5 hk rfl rfl rfl rfl rfl rfl
def Na (l:List Int) (k:Nat) (hk:k<6):ba .Add QH (dJ My (au (fN (aX 0) (gV (ak 0)) eD (gV ⇑6)) aZ)) ⟨[~~~(.int (k:Int))],[~~~(.lst ((numsOf l).map PV.int))],[]⟩= ~~~(.int (sumOf l k)):=by rw[dq (Hd _ k hk) (M9 l k) (tM _ _ _)];unfold sumOf;rfl
def afC (l:List Int):z0 (E2 l)=aa (.next,E3 l):=by
 unfold z0 bZ;erw [li (J:=λst=>∃a,st=⟨[a],[~~~(.lst ((numsOf l).map PV.int))],[]⟩) (p:=λ_=>true) (xs:=iK 6) (g:=λx=>match x with| .int i=> .int (sumOf l i.toNat)|x=>x) rfl (by rw[vO];exact gn _ _) ⟨ac,rfl⟩ ?_]
 ·rw[bL.mpr (λ_ _=>rfl)];unfold iK;rw[bD];rfl
 ·rintro x hx st ⟨a,rfl⟩;let ⟨k,hk,rfl⟩:=aQ.mp hx;rw[dM]at hk;exact⟨⟨[~~~(.int (k:Int))],[~~~(.lst ((numsOf l).map PV.int))],[]⟩,rfl,rfl,⟨_,rfl⟩,λ_=>Na l k hk⟩
noncomputable def fl (n:Nat):UInt64:=CX (n:Int)
noncomputable def nm (i:Nat):Str:=⟨#[97+i]⟩
noncomputable def up (i:Nat):Str:=⟨#[65+i]⟩
noncomputable def L6:List Nat:=cK 6
def fY:i∈L6↔i<6:=dM
def Ji (h:nm i=nm j):i=j:=by have:=congrArg (λs:Str=>s.cps.toList) h;simp[nm]at this;exact this
def Jj (i j:Nat):(nm i==nm j)=(i==j):=by rw[dr,beq_iff_eq,beq_iff_eq];exact⟨Ji,λh=>by rw[h]⟩
def He:∀ {l:Nz},l.Nodup->(l.map nm).Nodup:=λh=>gX _ (λa b L3 e=>L3 (Ji e)) h
def lj:L6.Nodup:=Tn
def cq (F:Nat->PV):PV:= .oO (L6.map λi=>(nm i,F i))
def vP {F:Nat->PV} {l:Nz}:j∈l->(l.map λi=>(nm i,F i)).lookup (nm j)=aa (F j):=by
 induction l with
 |nil=>intro h;nomatch h
 |cons a l ih=>
  intro h;rw[bw,di,Jj];cases e:(j==a)with
  |true=>rw[beq_iff_eq]at e;subst e;rfl
  |false=>
   rcases aH.mp h with rfl|h
   ·rw[beq_self_eq_true]at e;nomatch e
   ·exact ih h
def gi (st:St) (F:Nat->PV) (hj:j∈L6):nY st (.pv (cq F)) (.pv (.str (nm j)))=aa (F j):=by show((aa (L6.map λi=>(nm i,F i))).bind (·.lookup (nm j)))=_;rw[bK,vP hj]
def cA (h1:f st=aa o) (h2:g st=aa i) (h:nY st o i=aa d):bk f g st= ~~~d:=by unfold bk vg;rw[h1,h2];show(nY st o i).map _=_;rw[h];rfl
def UI (n:Nat) (hn:n<100):0<=(n:Int)/\(n:Int)<2 ^ 63:=⟨dO n,jo (cM.mpr hn) ∅⟩
def UJ (h:0<=i/\i<2 ^ 63):nY st o (.pv (.int i))=K0 st o i.toNat:=if_pos h
def z8 {n:Nat} (h:n<100):nY st o (.pv (.int (n:Int)))=K0 st o n:=UJ (UI n h)
def kz (st:St) (l:List PV) (n:Nat) (hn:n<100) (h:l[n]? =aa d):nY st (.pv (.lst l)) (.pv (.int (n:Int)))=aa d:=(z8 hn).trans h
def mO (st:St) (l:List PV) (n:Nat) (hn:n<100) (h:l[n]? =aa d):nY st (.pv (.tup l)) (.pv (.int (n:Int)))=aa d:=(z8 hn).trans h
def uA (st:St) (x:Str) (n:Nat) (hn:n<100) (h:x.cps[n]? =aa c):nY st (.pv (.str x)) (.pv (.int (n:Int)))=aa (.str ⟨#[c]⟩):=(z8 hn).trans (by
 show(x.cps[n]?).map _=_;rw[h];rfl)
def qG (st:St) (F:Nat->PV) (h:f st= ~~~(cq F)):jy f st=aa (L6.map λi=> .str (nm i)):=by unfold jy;rw[h];show aa ((L6.map λi=>(nm i,F i)).map λp=>PV.str p.1)=_;rw[bD]
def afD (a b:Nat):Int.fmod (a:Int) (b:Int)=((a%b:Nat):Int):=by rw[Int.fmod_eq_emod_of_nonneg _ (dO b)];rfl
def afE (a b:Nat):Int.fdiv (a:Int) (b:Int)=((a/b:Nat):Int):=by rw[FS _ (dO b)];rfl
def rg (st:St) (a b:Nat) (hb:b≠0):Mv st .Mod (.pv (.int a)) (.pv (.int b))=aa (.int ((a%b:Nat):Int)):=by
 have e:AF .Mod (.int a) (.int b)=aa (.int ((a%b:Nat):Int)):=by show(if (b:Int)≠0 then aa (PV.int (Int.fmod a b)) else ac)=_;rw[if_pos λe=>hb (qk e),afD]
 exact Hb e
def WX {a:Nat} (h:a<500000000):AD (a:Int)=true:=dD.mpr ⟨decide_eq_true (SV ∅ (dO a)),decide_eq_true (jo (cM.mpr h) ∅)⟩
def xx (st:St) (a b:Nat) (hb:b≠0) (ha:a<500000000) (uU:b<500000000):Mv st .FloorDiv (.pv (.int a)) (.pv (.int b))=aa (.int ((a/b:Nat):Int)):=by
 have e:AF .FloorDiv (.int a) (.int b)=aa (.int ((a/b:Nat):Int)):=by show(if (b:Int)≠0/\AD a=true/\AD b=true then aa (PV.int (Int.fdiv a b)) else ac)=_;rw[if_pos ⟨λe=>hb (qk e),WX ha,WX uU⟩,afE]
 exact Hb e
def bz (h1:f st=aa a) (h2:g st=aa l):au f g st=aa (a::l):=by unfold au;rw[h1,h2];rfl
def rV (h:g st=aa l) (hp:Mx l=aa ds) (hl: ↑ds<=1000):j8 g st= ~~~(.lst ds):=by unfold j8;rw[h,bK,hp,bK,if_pos hl]
def qq (h:g st=aa l) (hp:Mx l=aa ds) (hl: ↑ds<=1000):jd g st= ~~~(.tup ds):=by unfold jd;rw[h,bK,hp,bK,if_pos hl]
def aU (h:f st=aa (.next,st1)):aB f g st=g st1:=by unfold aB;rw[h]
def tN (h:b st=aa true):jA b f g st=f st:=by unfold jA;rw[h];rfl
def jX (h:b st=aa false):jA b f g st=g st:=by unfold jA;rw[h];rfl
def fT (h1:f st=aa a) (h2:g st=aa b) (h:sZ st op a b=aa r):bY op f g st=aa r:=by unfold bY vg;rw[h1,h2];exact h
def dw (h:f st=aa (.next,cg)):aB f br st=aa (.next,cg):=aU h
def uB (h:f st=aa (.ret v,st1)):aB f g st=aa (.ret v,st1):=by unfold aB;rw[h]
def mY (h:fa st=aa l) (hp:Mx l=aa ds) (hv:g ds=aa d):kb g fa st= ~~~d:=by unfold kb;erw [h,bK,hp,bK,hv];rfl
def By {l:List PV} (h:∀x∈l,f x x=aa true):sq f l l=aa true:=by
 induction l with
 |nil=>rfl
 |cons a l ih=>show((f a a).bind λx=>(sq f l l).map (x&& ·))=_;rw[h a ay,ih λx hx=>h x (aK _ hx)];rfl
def lH (h:∀x∈l,PV.Ej 3 x x=aa true):iJ l l=aa true:=by unfold iJ;exact(if_pos rfl)▸(By h)
def uC (n:Nat) (x:Str):PV.Ej (n+1) (.str x) (.str x)=aa true:=by show aa (x==x)=_;rw[beq_self_eq_true]
def Ly (n:Nat) (x:Int):PV.Ej (n+1) (.int x) (.int x)=aa true:=by show aa (x==x)=_;rw[beq_self_eq_true]
def Lz (n:Nat) (h:∀x∈l,PV.Ej n x x=aa true):PV.Ej (n+1) (.tup l) (.tup l)=aa true:=by show(sq (PV.Ej n) l l).map (λr=>r&& ↑l== ↑l)=_;rw[By h,An,beq_self_eq_true];rfl
def tO (l:List Str):iJ (l.map PV.str) (l.map PV.str)=aa true:=lH λx hx=>by let ⟨s,_,rfl⟩:=aQ.mp hx;exact uC 2 s
def Hf (l:List Int):iJ (l.map PV.int) (l.map PV.int)=aa true:=lH λx hx=>by let ⟨s,_,rfl⟩:=aQ.mp hx;exact Ly 2 s
def iL (h:fa st=aa l) (hg:g st l=aa v):dJ g fa st=aa v:=by unfold dJ;exact h▸hg
def rW (h1:f st=aa a) (h2:g st=aa b):wC f g st=aa (a&&b):=by
 unfold wC;rw[h1];cases a
 ·rfl
 ·exact h2
def LA (h:b st=aa r):qD b st= ~~~(PV.bool r):=by unfold qD;rw[h];rfl
def Jk (h:b st=aa true):mw (qD b) st=aa true:=by unfold mw qD;rw[h];rfl
def yo (h:TQ op x y=aa r):sZ st op (.pv x) (.pv y)=aa r:=by show(TQ op x y).or _=_;rw[h];rfl
def E4 (st:St) (h:iJ l l=aa true):sZ st .Eq (.pv (.lst l)) (.pv (.lst l))=aa true:=yo h
def vQ (st:St) (h:iJ l l=aa true):sZ st .NotEq (.pv (.lst l)) (.pv (.lst l))=aa false:=yo (by show(iJ l l).map (!·)=_;rw[h];rfl)
noncomputable def afF (a b:Bool):Bool:= @sG (λ_=>Bool) false b a
def LB {a b:Bool} (h:afF a b=true):a=true/\b=true:=by
 cases a
 ·nomatch h
 ·exact⟨rfl,h⟩
noncomputable def Nb (f:Nat->Bool) (n:Nat):Bool:=Kn true (λk r=>afF (f k) r) n
def xy {f:Nat->Bool} {n:Nat} (h:Nb f n=true) {k:Nat} (hk:k<n):f k=true:=by
 induction n with
 |zero=>nomatch hk
 |succ n ih=>exact(Nat.lt_succ_iff_lt_or_eq.mp hk).elim (ih (LB h).2) λe=>e▸(LB h).1
noncomputable def eqU (x y:UInt64):Bool:=rz x.toNat y.toNat
def QI {x y:UInt64} (h:eqU x y=true):x=y:=UInt64.toNat_inj.mp (Nat.eq_of_beq_eq_true h)
def QJ {P:Prop} (h:false=true):P:=eV h
def afG (a b:UInt64):Option PV->Bool
 |some (.tup [.fF x,.fF y,.con (.bool true)])=>eqU x a&&eqU y b
 |_=>false
def UK {a b:UInt64} {o:Option PV} (h:afG a b o=true):o=aa (.tup [.fF a,.fF b,PV.bool true]):=by
 cases o with
 |none=>exact QJ h
 |some p=>cases p with
  |tup l=>cases l with
   |nil=>exact QJ h
   |cons x l=>cases x with
    |fF x=>cases l with
     |nil=>exact QJ h
     |cons y l=>cases y with
      |fF y=>cases l with
       |nil=>exact QJ h
       |cons z l=>cases z with
        |con v=>cases v with
         |bool c=>cases c with
          |false=>exact QJ h
          |true=>cases l with
           |nil=>have h:=(dD.mp h);rw[QI h.1,QI h.2]
           |cons=>exact QJ h
         |_=>exact QJ h
        |_=>exact QJ h
      |_=>exact QJ h
    |_=>exact QJ h
  |_=>exact QJ h
noncomputable def afH (r g b:Nat):Bool:=afG (Mt ((min r (min g b):Nat):Int)) (Mt ((max r (max g b):Nat):Int)) (nv [.int r,.int g,.int b])
noncomputable def vn (r:Nat):Bool:=Nb (λg=>Nb (afH r g) 9) 9
def Yt:vn (nat_lit 0)=true:=by kernel_rfl
def Yu:vn (nat_lit 1)=true:=by kernel_rfl
def Yv:vn (nat_lit 2)=true:=by kernel_rfl
def Yw:vn (nat_lit 3)=true:=by kernel_rfl
def Yx:vn (nat_lit 4)=true:=by kernel_rfl
def Yy:vn (nat_lit 5)=true:=by kernel_rfl
def Yz:vn (nat_lit 6)=true:=by kernel_rfl
def YA:vn (nat_lit 7)=true:=by kernel_rfl
def YB:vn (nat_lit 8)=true:=by kernel_rfl
def QK {r:Nat} (hr:r<9):vn r=true:=by
 rcases r with _|_|_|_|_|_|_|_|_|r
 ·exact Yt
 ·exact Yu
 ·exact Yv
 ·exact Yw
 ·exact Yx
 ·exact Yy
 ·exact Yz
 ·exact YA
 ·exact YB
 ·exact absurd (gn 9 r) (Cd hr)
def UL {r g b:Nat} (hr:r<9) (hg:g<9) (hb:b<9):nv [.int r,.int g,.int b]=aa (.tup [.fF (fl (min r (min g b))),.fF (fl (max r (max g b))),PV.bool true]):=by unfold fl;rw[<- zR,<- zR];exact UK (xy (xy (QK hr) hg) hb)
noncomputable def UM (f a c:Nat):List PV:=[.fF (mf f 8),.fF (mf ((1+a:Nat):Int) 4),.fF (mf ((1+c:Nat):Int) 8)]
noncomputable def fl? :PV->Option UInt64
 | .fF y=>aa y
 |_=>ac
noncomputable def t3? :PV->Option (PV×PV×PV)
 | .tup [a,b,c]=>aa (a,b,c)
 |_=>ac
def flE {d:PV} {y:UInt64} (h:fl? d=aa y):d= .fF y:=by
 cases d with
 |fF z=>exact congrArg PV.fF (ag h)
 |_=>exact gr h
def t3E {d:PV} {a:PV×PV×PV} (h:t3? d=aa a):d= .tup [a.1,a.2.1,a.2.2]:=by
 cases d with
 |tup l=>
  rcases l with _|⟨x,_|⟨y,_|⟨z,_|_⟩⟩⟩
  ·exact gr h
  ·exact gr h
  ·exact gr h
  ·obtain rfl:=ag h;rfl
  ·exact gr h
 |_=>exact gr h
noncomputable def ajp (f:Nat) (y:UInt64):Option Unit:=if (jw y&&(qx ia y).fmod 8==f)=true then aa () else ac
def afI (f:Nat) (l:List PV):Option Unit:=(iw l).bind λp=>(t3? p).bind λa=>(i8 [a.1,a.2.1,a.2.2]).bind λq=>(t3? q).bind λb=>(AF .Mult b.1 (.int 8)).bind λr=>(fl? r).bind (ajp f)
def UN:Nb (λc=>Nb (λa=>Nb (λf=>(afI f (UM f a c)).isSome) 6) 4) 8=true:=by kernel_rfl
def UO {f:Nat} {l:List PV} {u:Unit} (h:afI f l=aa u):∃(r g b h l' s:PV) (y:UInt64),iw l=aa (.tup [r,g,b])/\i8 [r,g,b]=aa (.tup [h,l',s])/\AF .Mult h (.int 8)=aa (.fF y)/\jw y=true/\(qx ia y).fmod 8=f:=
 have⟨_,e1,h⟩:=aG.mp h;have⟨_,k1,h⟩:=aG.mp h;have⟨_,e2,h⟩:=aG.mp h;have⟨_,k2,h⟩:=aG.mp h;have⟨_,e3,h⟩:=aG.mp h;have⟨_,k3,h⟩:=aG.mp h;have h:=dD.mp (dT h).1
 ⟨_,_,_,_,_,_,_,t3E k1▸e1,t3E k2▸e2,flE k3▸e3,h.1,beq_iff_eq.mp h.2⟩
def QL {f a c:Nat} (hf:f<6) (ha:a<4) (hc:c<8):∃(r g b h l s:PV) (y:UInt64),iw (UM f a c)=aa (.tup [r,g,b])/\i8 [r,g,b]=aa (.tup [h,l,s])/\AF .Mult h (.int 8)=aa (.fF y)/\jw y=true/\(qx ia y).fmod 8=f:=
 have⟨_,h⟩:=jk.mp (xy (xy (xy UN hc) ha) hf)
 UO h
noncomputable def dR (n:Nat):Nat:=n%9
noncomputable def dG (n:Nat):Nat:=n/9%9
noncomputable def dB (n:Nat):Nat:=n/81%9
noncomputable def dP (n:Nat):Nat:=n/729%7
def cE (n:Nat):PV:= .lst [.int (dR n:Int),.int (dG n:Int),.int (dB n:Int)]
noncomputable def z9:List (List Str):=[[],[ah "\\("],[ah "\\)"],[ah "\"",ah "(",ah "\""],[ah "\"",ah ")",ah "\""],[ah "\\\""],[ah "\\\\"]]
def js:PV:= .tup (z9.map λl=> .lst (l.map PV.str))
def E5 (p:Nat):List Str:=z9.getD p []
def g0 (p:Nat):PV:= .lst ((E5 p).map PV.str)
def lo (n:Nat):Nat:=min (dR n) (min (dG n) (dB n))
def hi (n:Nat):Nat:=max (dR n) (max (dG n) (dB n))
def jR (n:Nat):PV:= .tup [.fF (fl (lo n)),.fF (fl (hi n)),PV.bool true]
def hU (ql:List PV):List CO:=[.attrs [(a6,.ob 2)],.qa,.list ql]
def st3 (l:List Int) (n:NN):St:= {lv:=[~~~(.lst (l.map PV.int)),ac,ac,ac,ac,ac,ac,ac,ac,ac,ac,ac,ac,ac,ac,ac,ac,ac],cv:=[ac,ac,ac,ac,ac,ac,ac,ac,ac,ac,ac,ac,ac,~~~(.lst (ig λk=>(n k:Int))),~~~(.lst ((numsOf l).map PV.int)),ac],ob:=[]}
def st4 (l:List Int) (n:NN):St:= {lv:=[~~~(.lst (l.map PV.int)),ac,ac,ac,ac,ac,ac,ac,ac,ac,ac,ac,ac,ac,ac,ac,ac,ac],cv:=[ac,ac,ac,ac,ac,ac,ac,ac,ac,ac,ac,ac,~~~(cq λk=>cE (n k)),~~~(.lst (ig λk=>(n k:Int))),~~~(.lst ((numsOf l).map PV.int)),ac],ob:=[]}
def st5 (l:List Int) (n:NN):St:= {lv:=[~~~(.lst (l.map PV.int)),ac,ac,ac,ac,ac,ac,ac,ac,ac,ac,ac,ac,ac,ac,ac,ac,ac],cv:=[ac,ac,ac,ac,ac,ac,ac,ac,ac,ac,ac,~~~js,~~~(cq λk=>cE (n k)),~~~(.lst (ig λk=>(n k:Int))),~~~(.lst ((numsOf l).map PV.int)),ac],ob:=[]}
def st6 (l:List Int) (n:NN):St:= {lv:=[~~~(.lst (l.map PV.int)),ac,ac,ac,ac,ac,ac,ac,ac,ac,ac,ac,ac,ac,ac,ac,ac,ac],cv:=[ac,ac,ac,ac,ac,ac,ac,ac,ac,ac,~~~(cq λk=>g0 (dP (n k))),~~~js,~~~(cq λk=>cE (n k)),~~~(.lst (ig λk=>(n k:Int))),~~~(.lst ((numsOf l).map PV.int)),ac],ob:=[]}
def st7 (l:List Int) (n:NN):St:= {lv:=[~~~(.lst (l.map PV.int)),ac,ac,ac,ac,ac,ac,ac,ac,ac,ac,ac,ac,ac,ac,ac,ac,ac],cv:=[ac,ac,ac,ac,ac,ac,ac,ac,aa (.inst 0),~~~(cq λk=>jR (n k)),~~~(cq λk=>g0 (dP (n k))),~~~js,~~~(cq λk=>cE (n k)),~~~(.lst (ig λk=>(n k:Int))),~~~(.lst ((numsOf l).map PV.int)),ac],ob:=hU []}
def LC {k:Nat} (hk:k<6):(ah "abcdef").cps[k]? =aa (97+k):=by refine S5 hk ?_ ?_ ?_ ?_ ?_ ?_<;>decide
def Hg (n:NN) (hk:k<6):(ig λk=>(n k:Int))[k]? =aa (.int (n k:Int)):=by unfold ig;rw[bN,List.getElem?_range hk];rfl
def Dv (F:Nat->PV) (g:PV->PV) (hg:∀k:Nat,g (.int (k:Int))=F k) (kx:PV->Str) (hk:∀k:Nat,kx (.int (k:Int))=nm k):PV.oO ((iK 6).map λx=>(kx x,g x))=cq F:=by unfold iK cq L6;rw[bD];congr 1;apply cj;intro k _;show(kx (.int (k:Int)),g (.int (k:Int)))=_;rw[hg,hk]
def kxI:PV->Str
 | .int i=>nm i.toNat
 |_=>nm 0
def xA:((iK 6).map kxI).Nodup:=by unfold iK;rw[bD];exact gX _ (λa b L3 e=>L3 (Ji (by simpa[kxI]using e))) Tn
def Bz (h:x∈iK m):∃k:Nat,k<m/\x= .int (k:Int):=by let ⟨k,hk,e⟩:=aQ.mp h;exact⟨k,dM.mp hk,e.symm⟩
def afK (l:List Int) (n:NN) (hn:∀k,n k<=100000000):z1 (st3 l n)=aa (.next,st4 l n):=by
 unfold z1 bZ;erw [uz (J:=λst=>∃a,st=⟨[a],[~~~(.lst (ig λk=>(n k:Int)))],[]⟩) (kx:=kxI) (xs:=iK 6) (vx:=λx=>match x with| .int i=>cE (n i.toNat)|x=>x) rfl (by rw[vO];exact V5) xA ⟨ac,rfl⟩ ?_]
 ·rw[Dv (λk=>cE (n k)) _ (λk=>rfl) _ (λk=>rfl)];rfl
 ·rintro x hx st ⟨a,rfl⟩;let ⟨k,hk,rfl⟩:=Bz hx;have SE:bk (aX 0) (ak 0) ⟨[~~~(.int (k:Int))],[~~~(.lst (ig λk=>(n k:Int)))],[]⟩= ~~~(.int (n k:Int)):=cA rfl rfl (kz _ _ k (by exact F9 hk) (Hg n hk));have ZK:=hn k;refine⟨⟨[~~~(.int (k:Int))],[~~~(.lst (ig λk=>(n k:Int)))],[]⟩,rfl,⟨_,rfl⟩,cA rfl rfl (uA _ _ k (by exact F9 hk) (LC hk)),?_⟩;exact rV (bz (dq SE rfl (rg _ (n k) 9 ∅)) (bz (dq (dq SE rfl (xx _ (n k) 9 ∅ (by exact OS ZK) ∅)) rfl (rg _ (n k/9) 9 ∅)) (bz (dq (dq SE rfl (xx _ (n k) 81 ∅ (by exact OS ZK) ∅)) rfl (rg _ (n k/81) 9 ∅)) rfl))) rfl (by simp)
def afL (l:List Int) (n:NN):E0 (st4 l n)=aa (.next,st5 l n):=by rfl
def afM (l:List Int) (n:NN) (hn:∀k,n k<=100000000):z2 (st5 l n)=aa (.next,st6 l n):=by
 unfold z2 bZ;erw [uz (J:=λst=>∃a,st=⟨[a],[~~~(.lst (ig λk=>(n k:Int))),~~~js],[]⟩) (kx:=kxI) (xs:=iK 6) (vx:=λx=>match x with| .int i=>g0 (dP (n i.toNat))|x=>x) rfl (by rw[vO];exact V5) xA ⟨ac,rfl⟩ ?_]
 ·rw[Dv (λk=>g0 (dP (n k))) _ (λk=>rfl) _ (λk=>rfl)];rfl
 ·rintro x hx st ⟨a,rfl⟩;let ⟨k,hk,rfl⟩:=Bz hx;have SE:bk (aX 0) (ak 0) ⟨[~~~(.int (k:Int))],[~~~(.lst (ig λk=>(n k:Int))),~~~js],[]⟩= ~~~(.int (n k:Int)):=cA rfl rfl (kz _ _ k (by exact F9 hk) (Hg n hk));have ZK:=hn k;refine⟨⟨[~~~(.int (k:Int))],[~~~(.lst (ig λk=>(n k:Int))),~~~js],[]⟩,rfl,⟨_,rfl⟩,cA rfl rfl (uA _ _ k (by exact F9 hk) (LC hk)),?_⟩;have hp:dP (n k)<7:=fP _ ∅;refine cA rfl (dq (dq SE rfl (xx _ (n k) 729 ∅ (by exact OS ZK) ∅)) rfl (rg _ (n k/729) 7 ∅)) ?_;refine mO _ _ (dP (n k)) (by exact acb hp) ?_;show(z9.map λl=>PV.lst (l.map PV.str))[dP (n k)]? =aa (g0 (dP (n k)));rw[bN];unfold g0 E5;rw[qz];have cH: ↑z9=7:=rfl;rw[aq (by rw[cH];exact hp)];rfl
def afN (l:List Int) (n:NN):z3 (st6 l n)=aa (.next,st7 l n):=by
 have h:lz G7 (jy (aX 12)) (dN (bf 0) fG (th (ak 0) (kb nv (au (bk (bk (aX 0) (ak 0)) ⇑0) (au (bk (bk (aX 0) (ak 0)) ⇑1) (au (bk (bk (aX 0) (ak 0)) ⇑2) aZ)))))) (st6 l n)= ~~~(cq λk=>jR (n k)):=by
  erw [uz (J:=λst=>∃a,st=⟨[a],[~~~(cq λk=>cE (n k))],[]⟩) (kx:=λx=>match x with| .str s=>s|_=>nm 0) (xs:=L6.map λi=> .str (nm i)) (vx:=λx=>match x with| .str s=>jR (n (s.cps.toList.headD 0- 97))|x=>x) (qG _ (λk=>cE (n k)) rfl) ∅ (by rw[bD];exact He lj) ⟨ac,rfl⟩ ?_]
  ·rw[bD];unfold cq;congr 4;funext k;show(nm k,jR (n ((nm k).cps.toList.headD 0- 97)))=_;rw[show(nm k).cps.toList.headD 0- 97=k by simp[nm]]
  ·rintro x hx st ⟨a,rfl⟩;let ⟨k,hk,rfl⟩:=aQ.mp hx;have hp:bk (aX 0) (ak 0) ⟨[~~~(.str (nm k))],[~~~(cq λk=>cE (n k))],[]⟩= ~~~(cE (n k)):=cA rfl rfl (gi _ _ hk);refine⟨⟨[~~~(.str (nm k))],[~~~(cq λk=>cE (n k))],[]⟩,rfl,⟨_,rfl⟩,rfl,?_⟩;rw[mY (bz (cA hp rfl (kz ⟨[~~~(.str (nm k))],[~~~(cq λk=>cE (n k))],[]⟩ [.int (dR (n k):Int),.int (dG (n k):Int),.int (dB (n k):Int)] 0 ∅ rfl) (g:= ⇑0)) (bz (cA hp rfl (kz _ _ 1 ∅ rfl) (g:= ⇑1)) (bz (cA hp rfl (kz _ _ 2 ∅ rfl) (g:= ⇑2)) (rfl:aZ _=aa [])))) rfl (UL (fP _ ∅) (fP _ ∅) (fP _ ∅))];show aa (CV.pv (jR (n k)))=aa (CV.pv (jR (n ((nm k).cps.toList.headD 0- 97))));rw[show(nm k).cps.toList.headD 0- 97=k by simp[nm]]
 unfold z3 GA ji lc;rw[h];rfl
def uD (h1:f st=aa (.ob j)) (h2:fa st=aa cs) (h3:Mx cs=aa ds) (h4:st.ob[j]? =aa (.list l)) (h5:g l ds=aa (r,l')):
  oA g f fa st=aa (.next,qT j (.list l') st):=by
 unfold oA;rw[h1,h2];show(Mx cs).bind _=_;rw[h3];show(SY st.ob[j]?).bind _=_;rw[h4];show(g l ds).map _=_;rw[h5];rfl
def pC (h: ↑l<100000):gZ l [d]=aa (PV.none,l++[d]):=if_pos h
def BA (h1:f st=aa (.inst j)) (h2:fe st= ~~~(.str x)) (h3:st.ob[j]? =aa (.attrs [(a6,v)])) (h4:kU (codeOf b) x=aa false):qp b f fe st= ~~~(.str x):=yi h1 h2 h3 h4
def BB (h1:f st=aa (.inst j)) (h3:st.ob[j]? =aa (.attrs [(a6,.ob h)])):sv f st=aa (.ob h):=by unfold sv;rw[h1];show((st.ob[j]?).bind CO.a1).bind _=_;rw[h3];show(if (a6==a6)=true then aa (CV.ob h) else ac)=_;exact if_pos (beq_self_eq_true a6)
def pD (h1:f st=aa o) (h2:fa st=aa ds) (h3:T2 st o=aa T) (h4:g st (o::ds)=aa v):eQ T g f fa st=aa v:=by unfold eQ;rw[h1,h2];show(if T2 st o=aa T then g st (o::ds) else ac)=_;rw[if_pos h3];exact h4
def Plain (x:Str):Prop:=kU (codeOf true) x=aa false/\kU (codeOf false) x=aa false
noncomputable abbrev za:Str:=ah "; "
def UP (ha:Plain a) (hb:Plain b) (hj:FJ za [b]=true) (hjj:zJ za [b]=b) (hl: ↑ql<100000):oH ql [.str a,.str b,.oO []]=aa (PV.none,ql++[.tup [.str a,.str b]]):=by
 let s0:St:=⟨[aa (.inst 0),~~~(.str a),~~~(.str b),~~~(.oO []),ac,ac,ac],[],[.attrs [(a6,.ob 1)],.list ql]⟩;let s1:St:=⟨[aa (.inst 0),~~~(.str a),~~~(.str b),~~~(.oO []),aa (.ob 2),ac,ac],[],[.attrs [(a6,.ob 1)],.list ql,.list []]⟩;let s2:St:=⟨[aa (.inst 0),~~~(.str a),~~~(.str b),~~~(.oO []),aa (.ob 2),ac,ac],[],[.attrs [(a6,.ob 1)],.list ql,.list [.str b]]⟩;let s3:St:=⟨[aa (.inst 0),~~~(.str a),~~~(.str b),~~~(.oO []),aa (.ob 2),ac,ac],[],[.attrs [(a6,.ob 1)],.list (ql++[.tup [.str a,.str b]]),.list [.str b]]⟩;have e2:jA (bY .IsNot (ak 2) (jb PV.none)) (aB (bZ (qp false (ak 0) (ak 2)) (bf 2)) (aB (oA gZ (ak 4) (au (ak 2) aZ)) br)) br s1=aa (.next,s2):=by
  show aB (bZ (qp false (ak 0) (ak 2)) (bf 2)) (aB (oA gZ (ak 4) (au (ak 2) aZ)) br) s1=_;rw[aU (st1:=s1)]
  ·rfl
  ·unfold bZ;rw[BA (j:=0) (x:=b) (v:= .ob 1) rfl rfl rfl hb.2];rfl
 have ht:jd (au (qp true (ak 0) (ak 1)) (au (eQ "str" AQ ↥"; " (au (ak 4) aZ)) aZ)) s2= ~~~(.tup [.str a,.str b]):=by refine qq (bz (BA (j:=0) (x:=a) (v:= .ob 1) rfl rfl rfl ha.1) (bz (pD (o:= .pv (.str za)) (ds:=[.ob 2]) (v:= .pv (.str b)) rfl rfl rfl ?_) rfl)) rfl (by simp);show(if FJ za [b]=true then aa (CV.pv (.str (zJ za [b]))) else ac)=_;rw[if_pos hj,hjj]
 have e4:oA gZ (sv (ak 0)) (au (jd (au (qp true (ak 0) (ak 1)) (au (eQ "str" AQ ↥"; " (au (ak 4) aZ)) aZ))) aZ) s2=aa (.next,s3):=
  uD (BB (j:=0) (h:=1) rfl rfl) (bz ht rfl) rfl rfl (pC hl)
 have eF:ml s0=aa (.next,s3):=by unfold ml;rw[aU (st1:=s1) rfl,aU e2,aU (st1:=s2) rfl,aU e4];rfl
 show((aa s0).bind λst=>(ml st).bind λr=>w3 r.1 r.2.ob[0]? r.2.ob[1]?)=_;rw[bK,eF];rfl
def join_one (x:Str):zJ za [x]=x:=rfl
def ja (h:i<6):Plain (nm i)/\Plain (up i)/\Plain (nm i++up i):=by refine S5 h ?_ ?_ ?_ ?_ ?_ ?_<;>exact⟨⟨so,so⟩,⟨so,so⟩,⟨so,so⟩⟩
def E6 (h: ↑x<=100):FJ za [x]=true:=by have e: ↑za=2:=rfl;unfold FJ cw;simp[e,(by decide:sizeLine=2 ^ 24)];exact acd h
def Jl (ha:Plain a) (hb:Plain b) (Sj: ↑b<=100) (hl: ↑ql<100000):oH ql [.str a,.str b,.oO []]=aa (PV.none,ql++[.tup [.str a,.str b]]):=
 UP ha hb (E6 Sj) (join_one b) hl
noncomputable def cW (r:Str×Str):PV:= .tup [.str r.1,.str r.2]
def yp (st:St) (h:cw ↑(cO x)=false):kR st [.pv (.str x)]= ~~~(.str (cO x)):=by show(if cw ↑(cO x)=true then ac else aa (CV.pv (.str (cO x))))=_;exact if_neg (kq.mp h)
def Nc (st:St) (h:cw ↑(sL x)=false):gS st [.pv (.str x)]= ~~~(.str (sL x)):=by show(if cw ↑(sL x)=true then ac else aa (CV.pv (.str (sL x))))=_;exact if_neg (kq.mp h)
def vR (rs:SS) (hx:Plain (cO x)) (hlx:cw ↑(cO x)=false) (hrs:∀r∈rs,cw ↑(cO r.1)=false) (hn: ↑rs<50000):
  ky (rs.map cW) [.str x]=aa (.lst ((rs.filter λr=>cO r.1==cO x).map λr=> .str r.2),rs.map cW):=by
 let s0:St:=⟨[aa (.inst 0)],[~~~(.str x)],[.attrs [(a6,.ob 1)],.list (rs.map cW)]⟩;let s1:St:=⟨[aa (.inst 0)],[~~~(.str (cO x))],[.attrs [(a6,.ob 1)],.list (rs.map cW)]⟩;have e1:bZ (qp true (ak 0) (eQ "str" kR (aX 0) aZ)) (jL 0) s0=aa (.next,s1):=by unfold bZ;rw[BA (j:=0) (x:=cO x) (v:= .ob 1) rfl (pD (o:= .pv (.str x)) (ds:=[]) rfl rfl rfl (yp _ hlx)) rfl hx.1];rfl
 have e2:ei w5 (Gu (sv (ak 0))) (dN (bf 0) (bY .Eq (eQ "str" kR (bk (ak 0) ⇑0) aZ) (aX 0)) (gO (bk (ak 0) ⇑1))) s1= ~~~(.lst ((rs.filter λr=>cO r.1==cO x).map λr=> .str r.2)):=by
  erw [li (J:=λst=>∃a,st=⟨[a],[~~~(.str (cO x))],[.attrs [(a6,.ob 1)],.list (rs.map cW)]⟩) (xs:=rs.map cW) (p:=λr=>match r with| .tup [.str a,.str _]=>cO a==cO x|_=>false) (g:=λr=>match r with| .tup [.str _,.str b]=> .str b|x=>x) ?_ (by rw[aw];exact hn) ⟨ac,rfl⟩ ?_]
  ·rw[dF,bD];rfl
  ·unfold Gu;rw[BB (j:=0) (h:=1) rfl rfl];rfl
  ·rintro r hr st ⟨a,rfl⟩;let ⟨q,hq,rfl⟩:=aQ.mp hr;refine⟨⟨[~~~(cW q)],[~~~(.str (cO x))],[.attrs [(a6,.ob 1)],.list (rs.map cW)]⟩,rfl,?_,⟨_,rfl⟩,λ_=>cA rfl rfl (mO _ _ 1 ∅ rfl)⟩;have hl:eQ "str" kR (bk (ak 0) ⇑0) aZ ⟨[~~~(cW q)],[~~~(.str (cO x))],[.attrs [(a6,.ob 1)],.list (rs.map cW)]⟩= ~~~(.str (cO q.1)):=
    pD (o:= .pv (.str q.1)) (ds:=[]) (cA rfl rfl (mO _ [.str q.1,.str q.2] 0 ∅ rfl)) rfl rfl (yp _ (hrs q hq))
   unfold bY vg;rw[hl];rfl
 have eF:oW s0=aa (.ret (.pv (.lst ((rs.filter λr=>cO r.1==cO x).map λr=> .str r.2))),s1):=by unfold oW;rw[aU e1];unfold aB i7;rw[e2];rfl
 show((aa s0).bind λst=>(oW st).bind λr=>w3 r.1 r.2.ob[0]? r.2.ob[1]?)=_;rw[bK,eF];rfl
def QM (ql:List PV) (hn: ↑ql<=50000):w6 ql []=aa (.lst ql,ql):=by
 let s0:St:=⟨[aa (.inst 0)],[],[.attrs [(a6,.ob 1)],.list ql]⟩;have eF:uv s0=aa (.ret (.pv (.lst ql)),s0):=by
  have e:fN (sv (ak 0)) eD eD eD s0= ~~~(.lst ql):=by
   unfold fN;rw[BB (j:=0) (h:=1) rfl rfl];show(pf s0 (.ob 1) ac ac ac).map CV.pv=_;have e:pf s0 (.ob 1) ac ac ac=aa (.lst ql):=by show(if ↑ql<=sizeLine/\(ac:Option Int)≠aa 0 then aa (PV.lst (cP ql ac ac ac)) else ac)=_;rw[if_pos ⟨by exact ace hn rfl,by simp⟩,mM];simp
   rw[e];rfl
  unfold uv aB i7;rw[e];rfl
 show((aa s0).bind λst=>(uv st).bind λr=>w3 r.1 r.2.ob[0]? r.2.ob[1]?)=_;rw[bK,eF];rfl
def Dw (J:List γ->St->Prop) (g:PV->List γ) (m:Nat) (xs:List PV):∀(dA:List γ) (st:St),J dA st->(∀x∈xs,↑(g x)<=m)->
  (∀x∈xs,∀(a:List γ) (st:St),J a st-> ↑a<= ↑dA+ ↑xs*m->∃st1 st2,tg (.pv x) st=aa st1/\body st1=aa (.next,st2)/\J (a++g x) st2)->∃cg,lP tg body xs st=aa (.next,cg)/\J (dA++xs.flatMap g) cg:=by
 induction xs with
 |nil=>intro dA st h _ _;exact⟨st,rfl,by simpa using h⟩
 |cons x xs ih=>intro dA st h hl hs;left;let ⟨st1,st2,h1,h2,h3⟩:=hs x ay dA st h (V1);let ⟨cg,e,h4⟩:=ih (dA++g x) st2 h3 (λy hy=>hl y (aK _ hy)) λy hy a st hJ hb=>hs y (aK _ hy) a st hJ (by rw[aj]at hb;exact V2 hb (by rw[az,Oc,Cp]) (hl x ay));right;exact⟨cg,(iE h1 h2).trans e,by rw[bJ,<- bF];exact h4⟩
noncomputable def iY:PV->Nat
 | .str s=>s.cps.toList.headD 0- 97
 |_=>0
def fU (i:Nat):iY (.str (nm i))=i:=by simp[iY,nm]
def rel (n:NN) (i j:Nat):Bool:=decide (hi (n i)<lo (n j))
def BC (n:Nat):lo n<=hi n:=aA (j4 ..) (Nat.le_max_left ..)
def WY (n:Nat):hi n<9:=by unfold hi;exact ab8 (fP _ ∅) (fP _ ∅) (fP _ ∅)
def afO (ha:a<9) (hb:b<9):(dK (fl a) (fl b)==aa nh)=decide (a<b):=by exact(by decide+kernel:∀a∈cK 9,∀b∈cK 9,(dK (fl a) (fl b)==aa nh)=decide (a<b)) a (dM.mpr ha) b (dM.mpr hb)
def rowsOf (n:NN) (i j:Nat):List (Str×Str):=if rel n i j then [(up j,nm i),(nm i++up i,nm j)] else []
def bV (n:NN):List (Str×Str):=L6.flatMap λi=>L6.flatMap λj=>rowsOf n i j
def zF (l:List Int) (n:NN) (y x:OV) (rs:SS):St:= {lv:=[~~~(.lst (l.map PV.int)),y,ac,ac,ac,ac,ac,ac,ac,ac,ac,ac,ac,ac,ac,ac,ac,ac],cv:=[ac,ac,ac,ac,ac,ac,ac,ac,aa (.inst 0),~~~(cq λk=>jR (n k)),~~~(cq λk=>g0 (dP (n k))),~~~js,~~~(cq λk=>cE (n k)),~~~(.lst (ig λk=>(n k:Int))),~~~(.lst ((numsOf l).map PV.int)),x],ob:=hU (rs.map cW)}
def Hh (h:i<6):sL (nm i)=up i/\cw ↑(sL (nm i))=false:=by refine S5 h ?_ ?_ ?_ ?_ ?_ ?_<;>exact⟨rfl,rfl⟩
def ki (st:St) (a b:Str) (h: ↑a+ ↑b<=10000):Mv st .Add (.pv (.str a)) (.pv (.str b))=aa (.str (a++b)):=by have e:AF .Add (.str a) (.str b)=aa (.str (a++b)):=if_pos (OT h rfl);show(AF .Add (.str a) (.str b)).or _=_;rw[e];rfl
def jS (i:Nat): ↑(nm i)=1:=rfl
def Jm (i:Nat): ↑(up i)=1:=rfl
def vS (hi:i<6) (h:f st= ~~~(.str (nm i))):eQ "str" gS f aZ st= ~~~(.str (up i)):=by have:=Nc st (Hh hi).2;rw[(Hh hi).1]at this;exact pD (o:= .pv (.str (nm i))) (ds:=[]) h rfl rfl this
def E8 (h1:f st=aa v) (h2:st.I8 v=aa (h,rs.map cW)) (h3:fa st=aa [.pv (.str a),.pv (.str b)]) (ha:Plain a) (hb:Plain b) (Sj: ↑b<=100) (hl: ↑rs<100000):
  eJ f fa st=aa (.next,qT h (.list ((rs++[(a,b)]).map cW)) st):=by
 unfold eJ;rw[h1];simp only[bK,h2,h3,two?,CV.aS,An,Jl ha hb Sj (show ↑(rs.map cW)<100000 by rw[aw];exact hl)];rw[bH];rfl
def jY (h:it st=aa xs):mK it tg body st=lP tg body xs st:=by unfold mK;rw[h];rfl
def afP (l:List Int) (n:NN):∃y x,z4 (st7 l n)=aa (.next,zF l n y x (bV n)):=by
 unfold z4;rw[jY (qG (st7 l n) (λk=>cE (n k)) rfl)];let ⟨cg,e,y,x,rfl⟩:=Dw (tg:=jL 15) (body:=aB (mK (jy (aX 12)) (bf 1) (aB (jA (bY .Lt (bk (bk (aX 9) (aX 15)) ⇑1) (bk (bk (aX 9) (ak 1)) ⇑0)) (aB (eJ (aX 8) (au (eQ "str" gS (ak 1) aZ) (au (aX 15) aZ))) (aB (eJ (aX 8) (au (ba .Add (aX 15) (eQ "str" gS (aX 15) aZ)) (au (ak 1) aZ))) br)) br) br)) br)
  (λrs st=>∃y x,st=zF l n y x rs) (λx=>L6.flatMap λj=>rowsOf n (iY x) j) 12 (L6.map λi=> .str (nm i)) [] (st7 l n) ⟨ac,ac,rfl⟩
  (λx _=>by
   rw[pJ];have:∀j,↑(rowsOf n (iY x) j)<=2:=λj=>by unfold rowsOf;split<;>simp
   have h0:=this 0;have h1:=this 1;have h2:=this 2;have h3:=this 3;have h4:=this 4;have h5:=this 5;show(L6.map λj=> ↑(rowsOf n (iY x) j)).sum<=12;simp[L6,lV];exact V6 h0 h1 h2 h3 h4 h5)
  (by
   rintro x hx rs st ⟨y0,x0,rfl⟩ hb;let ⟨i,hi,rfl⟩:=aQ.mp hx;have hi6:=fY.mp hi;simp only[lW,aw]at hb;refine⟨zF l n y0 (~~~(.str (nm i))) rs,?_⟩;let ⟨cg,e,y,rfl⟩:=Dw (tg:=bf 1) (body:=aB (jA (bY .Lt (bk (bk (aX 9) (aX 15)) ⇑1) (bk (bk (aX 9) (ak 1)) ⇑0)) (aB (eJ (aX 8) (au (eQ "str" gS (ak 1) aZ) (au (aX 15) aZ))) (aB (eJ (aX 8) (au (ba .Add (aX 15) (eQ "str" gS (aX 15) aZ)) (au (ak 1) aZ))) br)) br) br)
    (λrs st=>∃y,st=zF l n y (~~~(.str (nm i))) rs) (λy=>rowsOf n i (iY y)) 2 (L6.map λi=> .str (nm i)) rs (zF l n y0 (~~~(.str (nm i))) rs) ⟨y0,rfl⟩ (λy _=>by unfold rowsOf;split<;>simp)
    (by
     rintro y hy N1 st ⟨y1,rfl⟩ uU;let ⟨j,hj,rfl⟩:=aQ.mp hy;have hj6:=fY.mp hj;have Xm: ↑L6=6:=rfl;rw[aw,Xm]at uU;rw[Xm]at hb;rw[fU];refine⟨zF l n (~~~(.str (nm j))) (~~~(.str (nm i))) N1,zF l n (~~~(.str (nm j))) (~~~(.str (nm i))) (N1++rowsOf n i j),rfl,?_,⟨_,rfl⟩⟩;have J3:bk (bk (aX 9) (aX 15)) ⇑1 (zF l n (~~~(.str (nm j))) (~~~(.str (nm i))) N1)= ~~~(.fF (fl (Mine.hi (n i)))):=
      cA (cA (f:=aX 9) (g:=aX 15) rfl rfl (gi _ (λk=>jR (n k)) hi)) rfl (mO _ [.fF (fl (lo (n i))),.fF (fl (Mine.hi (n i))),PV.bool true] 1 ∅ rfl)
     have ht0:bk (bk (aX 9) (ak 1)) ⇑0 (zF l n (~~~(.str (nm j))) (~~~(.str (nm i))) N1)= ~~~(.fF (fl (lo (n j)))):=
      cA (cA (f:=aX 9) (g:=ak 1) rfl rfl (gi _ (λk=>jR (n k)) hj)) rfl (mO _ [.fF (fl (lo (n j))),.fF (fl (Mine.hi (n j))),PV.bool true] 0 ∅ rfl)
     have hc:bY .Lt (bk (bk (aX 9) (aX 15)) ⇑1) (bk (bk (aX 9) (ak 1)) ⇑0) (zF l n (~~~(.str (nm j))) (~~~(.str (nm i))) N1)=aa (rel n i j):=by unfold bY vg;rw[J3,ht0];show aa (dK (fl (Mine.hi (n i))) (fl (lo (n j)))==aa nh)=_;rw[afO (WY _) (bI (BC _) (WY _))];rfl
     cases hr:rel n i j with
     |false=>
      have e:jA (bY .Lt (bk (bk (aX 9) (aX 15)) ⇑1) (bk (bk (aX 9) (ak 1)) ⇑0)) (aB (eJ (aX 8) (au (eQ "str" gS (ak 1) aZ) (au (aX 15) aZ))) (aB (eJ (aX 8) (au (ba .Add (aX 15) (eQ "str" gS (aX 15) aZ)) (au (ak 1) aZ))) br)) br (zF l n (~~~(.str (nm j))) (~~~(.str (nm i))) N1)=aa (.next,zF l n (~~~(.str (nm j))) (~~~(.str (nm i))) N1):=by unfold jA;rw[hc,hr];rfl
      rw[aU e];unfold rowsOf;rw[hr,if_neg bG,bu];rfl
     |true=>
      have a1:eJ (aX 8) (au (eQ "str" gS (ak 1) aZ) (au (aX 15) aZ)) (zF l n (~~~(.str (nm j))) (~~~(.str (nm i))) N1)=aa (.next,zF l n (~~~(.str (nm j))) (~~~(.str (nm i))) (N1++[(up j,nm i)])):=
       E8 (v:= .inst 0) (h:=2) rfl rfl (bz (vS hj6 rfl) rfl) (ja hj6).2.1 (ja hi6).1 (by rw[jS];decide) (acf uU hb)
      have a2:eJ (aX 8) (au (ba .Add (aX 15) (eQ "str" gS (aX 15) aZ)) (au (ak 1) aZ)) (zF l n (~~~(.str (nm j))) (~~~(.str (nm i))) (N1++[(up j,nm i)]))=aa (.next,zF l n (~~~(.str (nm j))) (~~~(.str (nm i))) (N1++[(up j,nm i)]++[(nm i++up i,nm j)])):=
       E8 (v:= .inst 0) (h:=2) rfl rfl (bz (dq (a:= .pv (.str (nm i))) (f:=aX 15) rfl (vS hi6 rfl) (ki _ _ _ (by rw[jS,Jm];decide))) rfl) (ja hi6).2.2 (ja hj6).1 (by rw[jS];decide) (by rw[aj,be];exact acg uU hb)
      have e:jA (bY .Lt (bk (bk (aX 9) (aX 15)) ⇑1) (bk (bk (aX 9) (ak 1)) ⇑0)) (aB (eJ (aX 8) (au (eQ "str" gS (ak 1) aZ) (au (aX 15) aZ))) (aB (eJ (aX 8) (au (ba .Add (aX 15) (eQ "str" gS (aX 15) aZ)) (au (ak 1) aZ))) br)) br (zF l n (~~~(.str (nm j))) (~~~(.str (nm i))) N1)=aa (.next,zF l n (~~~(.str (nm j))) (~~~(.str (nm i))) (N1++[(up j,nm i)]++[(nm i++up i,nm j)])):=by unfold jA;rw[hc,hr];show aB _ (aB _ br) _=_;rw[aU a1,aU a2];rfl
      rw[aU e];unfold rowsOf;rw[hr,if_pos rfl,bF];rfl)
   refine⟨zF l n y (~~~(.str (nm i))) (rs++L6.flatMap λj=>rowsOf n i j),rfl,?_,⟨_,_,by rw[fU]⟩⟩;have e':mK (jy (aX 12)) (bf 1) (aB (jA (bY .Lt (bk (bk (aX 9) (aX 15)) ⇑1) (bk (bk (aX 9) (ak 1)) ⇑0)) (aB (eJ (aX 8) (au (eQ "str" gS (ak 1) aZ) (au (aX 15) aZ))) (aB (eJ (aX 8) (au (ba .Add (aX 15) (eQ "str" gS (aX 15) aZ)) (au (ak 1) aZ))) br)) br) br) (zF l n y0 (~~~(.str (nm i))) rs)=aa (.next,zF l n y (~~~(.str (nm i))) (rs++L6.flatMap λj=>rowsOf n i j)):=by erw [jY (qG (zF l n y0 (~~~(.str (nm i))) rs) (λk=>cE (n k)) rfl),e,iR];simp only[fU]
   rw[aU e'];rfl)
 refine⟨y,x,?_⟩;rw[e,gf,iR];simp only[fU];rfl
def uE (J:St->Prop) (F:Nat->PV) (hit:it st=aa (L6.map λi=> .str (nm i))) (h0:J (cl.st st))
  (hs:∀i,i<6->∀st,J st->∃st1,tg (.pv (.str (nm i))) st=aa st1/\J st1/\f st1= ~~~(.str (nm i))/\g st1= ~~~(F i)):lz cl it (dN tg fG (th f g)) st= ~~~(cq F):=by
 erw [uz J (λx=>match x with| .str s=>s|_=>nm 0) (λx=>F (iY x)) hit ∅ (by rw[bD];exact He lj) h0 ?_]
 ·rw[bD];unfold cq;congr 4;funext k;show(nm k,F (iY (.str (nm k))))=_;rw[fU]
 ·intro x hx st hJ;let ⟨i,hi,rfl⟩:=aQ.mp hx;rw[fU];exact hs i (fY.mp hi) st hJ
def xB (J:St->Prop) (p:Nat->Bool) (F:Nat->PV) (hit:it st=aa (L6.map λi=> .str (nm i))) (h0:J (cl.st st))
  (hs:∀i,i<6->∀st,J st->∃st1,tg (.pv (.str (nm i))) st=aa st1/\test st1=aa (p i)/\J st1/\(p i=true->f st1= ~~~(F i))):ei cl it (dN tg test (gO f)) st= ~~~(.lst ((L6.filter p).map F)):=by
 erw [li J (λx=>p (iY x)) (λx=>F (iY x)) hit ∅ h0 ?_]
 ·have e:(λx=>F (iY x)) ∘ (λi=>PV.str (nm i))=F:=by funext k;show F (iY (.str (nm k)))=_;rw[fU]
  rw[dF,bD,e,(by funext k;show p (iY (.str (nm k)))=_;rw[fU]:((λy=>p (iY y)) ∘ λi=>PV.str (nm i))=p)]
 ·intro x hx st hJ;let ⟨i,hi,rfl⟩:=aQ.mp hx;rw[fU];exact hs i (fY.mp hi) st hJ
def yq (J:St->Prop) (p2:Nat->Nat->Bool) (F:Nat->Nat->PV) (hit:it st=aa (L6.map λi=> .str (nm i))) (h0:J (cl.st st))
  (hs:∀i,i<6->∀st,J st->∃st1,tg (.pv (.str (nm i))) st=aa st1/\test st1=aa true/\J st1/\it2 st1=aa (L6.map λi=> .str (nm i))/\
   ∃J2:St->Prop,J2 st1/\(∀st,J2 st->J st)/\∀j,j<6->∀st,J2 st->∃st2,tg2 (.pv (.str (nm j))) st=aa st2/\D2 st2=aa (p2 i j)/\J2 st2/\(p2 i j=true->f st2= ~~~(F i j))):
  ei cl it (dN tg test (Iq it2 (dN tg2 D2 (gO f)))) st= ~~~(.lst (L6.flatMap λi=>(L6.filter (p2 i)).map (F i))):=by
 erw [uy J (λ_=>true) (λ_=>L6.map λi=> .str (nm i)) (λx y=>p2 (iY x) (iY y)) (λx y=>F (iY x) (iY y)) hit ∅ (λ_ _=>by decide) h0 ?_]
 ·rw[bL.mpr (λ_ _=>rfl),iR];simp only[dF,bD,fU];simp only[(λi=>by funext k;show F i (iY (.str (nm k)))=_;rw[fU]:∀i,(λx=>F i (iY x)) ∘ (λi=>PV.str (nm i))=F i),(λi=>by funext k;show p2 i (iY (.str (nm k)))=_;rw[fU]:∀i,((λy=>p2 i (iY y)) ∘ λi=>PV.str (nm i))=p2 i)]
 ·intro x hx st hJ;left;let ⟨i,hi,rfl⟩:=aQ.mp hx;let ⟨st1,a,b,c,d,J2,j0,jj,h2⟩:=hs i (fY.mp hi) st hJ;right;refine⟨st1,a,b,c,λ_=>⟨d,J2,j0,jj,λy hy st hJ2=> ?_⟩⟩;let ⟨j,hj,rfl⟩:=aQ.mp hy;rw[fU,fU];exact h2 j (fY.mp hj) st hJ2
def eR {l:List α}:(∀x∈l,f x=g x)->l.flatMap f=l.flatMap g:=by
 induction l with
 |nil=>intro _;exact rfl
 |cons a l ih=>intro h;rw[bJ,bJ,h a ay,ih λx hx=>h x (aK _ hx)]
def zb {α β:Type} (p:α->Bool) (f:α->β):∀l:List α,(l.flatMap λk=>if p k then [f k] else [])=(l.filter p).map f:=by
 intro l9;induction l9 with
 |nil=>exact rfl
 |cons a l ih=>
  rw[bJ,ih];cases h:p a with
  |true=>rw[eo h];rfl
  |false=>rw[eu (h▸bG)];rfl
def zc (hi:i<6) (X:Nat->List β):(L6.flatMap λj=>if j=i then X j else [])=X i:=by refine S5 hi ?_ ?_ ?_ ?_ ?_ ?_<;>exact bu _
def ii (n:NN) (i:Nat):List Nat:=L6.filter λk=>rel n k i
def kC (n:NN) (i:Nat):List Nat:=L6.filter λj=>rel n i j
def fL (l:Nz):PV:= .lst (l.map λi=> .str (nm i))
def gj (h:i<6):cO (nm i)=nm i/\cO (up i)=nm i/\cO (nm i++up i)=nm i++nm i/\cO (up i++nm i)=nm i++nm i:=by refine S5 h ?_ ?_ ?_ ?_ ?_ ?_<;>exact⟨rfl,rfl,rfl,rfl⟩
def jt {x:Str} (h: ↑x<=100):cw ↑x=false:=by unfold cw;exact decide_eq_false (ach rfl h)
def E9 (i j:Nat): ↑(nm i++nm j)=2:=rfl
def YC (i j:Nat):(nm i++nm i==nm j++nm j)=(i==j):=by rw[dr,beq_iff_eq,beq_iff_eq];refine⟨λh=> ?_,λh=>by rw[h]⟩;have:=congrArg (λs:Str=>s.cps.toList.headD 0) h;have e:∀i:Nat,(nm i++nm i).cps.toList.headD 0=97+i:=λi=>rfl;simp only[e]at this;simp_all
def QN (i j:Nat):(nm i==nm j++nm j)=false:=by rw[beq_eq_false_iff_ne];intro h;have:=congrArg Str.length h;rw[jS,E9]at this;simp_all
def QO (i j:Nat):(nm i++nm i==nm j)=false:=by rw[beq_eq_false_iff_ne];intro h;have:=congrArg Str.length h;rw[jS,E9]at this;simp_all
def Hi (h:r∈bV n):∃i j,i<6/\j<6/\(r=(up j,nm i)\/r=(nm i++up i,nm j)):=by
 unfold bV at h;left;let ⟨i,hi,h⟩:=iQ.mp h;let ⟨j,hj,h⟩:=iQ.mp h;right;refine⟨i,j,fY.mp hi,fY.mp hj,?_⟩;unfold rowsOf at h;split at h
 ·simpa using h
 ·nomatch h
def tP (h:r∈bV n):cw ↑(cO r.1)=false:=by
 obtain⟨i,j,hi,hj,rfl|rfl⟩:=Hi h
 ·rw[(gj hj).2.1];exact jt (by rw[jS];decide)
 ·rw[(gj hi).2.2.1];exact jt (by rw[E9];decide)
def qr (n:NN): ↑(bV n)<=72:=by
 have this:∀i j,↑(rowsOf n i j)<=2:=λi j=>by unfold rowsOf;split<;>simp
 have h6:∀i,↑(L6.flatMap λj=>rowsOf n i j)<=12:=λi=>by rw[pJ];have h0:=this i 0;have h1:=this i 1;have h2:=this i 2;have h3:=this i 3;have h4:=this i 4;have h5:=this i 5;simp[L6,lV];exact V6 h0 h1 h2 h3 h4 h5
 unfold bV;rw[pJ];have h0:=h6 0;have h1:=h6 1;have h2:=h6 2;have h3:=h6 3;have h4:=h6 4;have h5:=h6 5;show(L6.map λi=> ↑(L6.flatMap λj=>rowsOf n i j)).sum<=72;rw[show(L6.map λi=> ↑(L6.flatMap λj=>rowsOf n i j)).sum= ↑(L6.flatMap λj=>rowsOf n 0 j)+(↑(L6.flatMap λj=>rowsOf n 1 j)+(↑(L6.flatMap λj=>rowsOf n 2 j)+(↑(L6.flatMap λj=>rowsOf n 3 j)+(↑(L6.flatMap λj=>rowsOf n 4 j)+(↑(L6.flatMap λj=>rowsOf n 5 j)+0))))) from rfl];exact aci h0 h1 h2 h3 h4 h5
def BD (n:NN) (hi:i<6):((bV n).filter λr=>cO r.1==nm i).map (λr=>PV.str r.2)=(ii n i).map λk=> .str (nm k):=by
 unfold bV ii;rw[ly,gz,<- zb];refine eR ?_;intro k hk;rw[ly,gz];have e:∀j∈L6,((rowsOf n k j).filter λr=>cO r.1==nm i).map (λr=>PV.str r.2)=if j=i then(if rel n k j then [PV.str (nm k)] else []) else []:=by
  intro j hj;unfold rowsOf;cases hr:rel n k j with
  |false=>simp
  |true=>
   simp only[if_true,bl,o8,(gj (fY.mp hj)).2.1,(gj (fY.mp hk)).2.2.1,Jj,QO];by_cases Xh:j=i
   ·subst Xh;simp
   ·simp[Xh]
 rw[eR e,zc hi]
def Nd (n:NN) (hi:i<6):((bV n).filter λr=>cO r.1==nm i++nm i).map (λr=>PV.str r.2)=(kC n i).map λk=> .str (nm k):=by
 unfold bV kC;rw[ly,gz];have e0:∀k∈L6,((L6.flatMap λj=>rowsOf n k j).filter λr=>cO r.1==nm i++nm i).map (λr=>PV.str r.2)=if k=i then(L6.filter λj=>rel n k j).map (λj=>PV.str (nm j)) else []:=by
  intro k hk;rw[ly,gz];have e:∀j∈L6,((rowsOf n k j).filter λr=>cO r.1==nm i++nm i).map (λr=>PV.str r.2)=if k=i then(if rel n k j then [PV.str (nm j)] else []) else []:=by
   intro j hj;unfold rowsOf;cases hr:rel n k j with
   |false=>simp
   |true=>
    simp only[if_true,bl,o8,(gj (fY.mp hj)).2.1,(gj (fY.mp hk)).2.2.1,YC,QN];by_cases Xh:k=i
    ·subst Xh;simp
    ·simp[Xh]
  rw[eR e];by_cases xW:k=i
  ·simp only[xW,if_true];exact zb _ _ _
  ·simp only[xW,if_false];simp
 rw[eR e0,zc hi]
def st9 (l:List Int) (n:NN) (y x:OV) (rs:SS):St:= {lv:=[~~~(.lst (l.map PV.int)),y,ac,ac,ac,ac,ac,ac,ac,ac,ac,ac,ac,ac,ac,ac,ac,ac],cv:=[ac,ac,ac,ac,ac,ac,~~~(cq λi=>fL (kC n i)),~~~(cq λi=>fL (ii n i)),aa (.inst 0),~~~(cq λk=>jR (n k)),~~~(cq λk=>g0 (dP (n k))),~~~js,~~~(cq λk=>cE (n k)),~~~(.lst (ig λk=>(n k:Int))),~~~(.lst ((numsOf l).map PV.int)),x],ob:=hU (rs.map cW)}
def afQ (l:List Int) (n:NN) (y x:OV):z5 (zF l n y x (bV n))=aa (.next,st9 l n y x (bV n)):=by
 have hn:=qr n;have h1:lz G8 (jy (aX 12)) (dN (bf 0) fG (th (ak 0) (mX (aX 0) (au (ak 0) aZ)))) (zF l n y x (bV n))= ~~~(cq λi=>fL (ii n i)):=by refine uE (λst=>∃a,st=⟨[a],[aa (.inst 0)],hU ((bV n).map cW)⟩) _ (qG _ (λk=>cE (n k)) rfl) ⟨ac,rfl⟩ ?_;rintro i hi st ⟨a,rfl⟩;refine⟨⟨[~~~(.str (nm i))],[aa (.inst 0)],hU ((bV n).map cW)⟩,rfl,⟨_,rfl⟩,rfl,?_⟩;have hg:=vR (bV n) (x:=nm i) (by rw[(gj hi).1];exact(ja hi).1) (by rw[(gj hi).1];exact jt (by rw[jS];decide)) (λr hr=>tP hr) (V7 hn);rw[(gj hi).1,BD n hi]at hg;show((aa (2,(bV n).map cW)).bind λq=>(ky q.2 [.str (nm i)]).map λr=>CV.pv r.1)=_;rw[bK,hg];rfl
 have h2:lz G9 (jy (aX 12)) (dN (bf 0) fG (th (ak 0) (mX (aX 0) (au (ba .Add (eQ "str" gS (ak 0) aZ) (ak 0)) aZ)))) (zF l n y x (bV n))= ~~~(cq λi=>fL (kC n i)):=by
  refine uE (λst=>∃a,st=⟨[a],[aa (.inst 0)],hU ((bV n).map cW)⟩) _ (qG _ (λk=>cE (n k)) rfl) ⟨ac,rfl⟩ ?_;rintro i hi st ⟨a,rfl⟩;refine⟨⟨[~~~(.str (nm i))],[aa (.inst 0)],hU ((bV n).map cW)⟩,rfl,⟨_,rfl⟩,rfl,?_⟩;have Sh:Plain (nm i++nm i):=by refine S5 hi ?_ ?_ ?_ ?_ ?_ ?_<;>exact⟨so,so⟩
  have hg:=vR (bV n) (x:=up i++nm i) (by rw[(gj hi).2.2.2];exact Sh) (by rw[(gj hi).2.2.2];exact jt (by rw[E9];decide)) (λr hr=>tP hr) (V7 hn);rw[(gj hi).2.2.2,Nd n hi]at hg;have akN:au (ba .Add (eQ "str" gS (ak 0) aZ) (ak 0)) aZ ⟨[~~~(.str (nm i))],[aa (.inst 0)],hU ((bV n).map cW)⟩=aa [.pv (.str (up i++nm i))]:=
   bz (dq (vS hi rfl) (b:= .pv (.str (nm i))) rfl (ki _ _ _ (by rw[jS,Jm];decide))) rfl
  unfold mX;rw[akN];show((aa (2,(bV n).map cW)).bind λq=>(ky q.2 [.str (up i++nm i)]).map λr=>CV.pv r.1)=_;rw[bK,hg];rfl
 unfold z5 GA ji lc;rw[h1];simp only[An,bK];rw[h2];rfl
def Jn (hp:∀m,m<t->p m=true) (hq:∀m,t<=m->m<N->p m=false):∀(n lo hi:Nat) (mm:Option AV),hi- lo<=n->lo<=t->t<=hi->hi<=N->(pb p n lo hi mm).1=t:=by
 intro l9;induction l9 with
 |zero=>intro lo hi mm h1 h2 h3 _;show lo=t;exact acj h2 h3 h1
 |succ n ih=>
  intro lo hi mm h1 h2 h3 h4;rw[Ei];by_cases h:lo<hi
  ·rw[if_pos h];by_cases hm:(lo+hi)/2<t
   ·rw[hp _ hm,if_pos rfl];exact ih _ hi _ (KQ h1 h) (ack hm) h3 h4
   ·rw[hq _ (V8 hm) (IE h h4),if_neg bG];exact ih lo _ _ (KR h1 h) h2 (V8 hm) (aaK h h4)
  ·rw[if_neg h];show lo=t;exact acl h2 h3 h
def xC {ns:List Int}:ns.Pairwise (· <= ·)->(∀a b,a<=b->q b=true->q a=true)->
  (∀m,m< ↑ns->(q (ns.getD m 0)=true↔m< ↑(ns.filter q)))/\ns.take ↑(ns.filter q)=ns.filter q/\ns.drop ↑(ns.filter q)=ns.filter (λa=> !q a):=by
 induction ns with
 |nil=>intro _ _;exact⟨λm h=>by simp at h,rfl,rfl⟩
 |cons a ns ih=>
  intro hs hq;left;let ⟨h1,h2⟩:=ef.mp hs;let ⟨i1,i2,i3⟩:=ih h2 hq;right;cases ha:q a with
  |true=>
   rw[eo ha,eu (by rw[ha];decide)];refine⟨λm hm=> ?_,by rw[az,List.take_succ_cons,i2],by rw[az,List.drop_succ_cons,i3]⟩;induction m with
   |zero=>simp[ha]
   |succ m=>rw[az]at hm;simpa using i1 m (fR ‹_›)
  |false=>
   have CM:∀b∈ns,q b=false:=λb hb=>by
    cases uU:q b with
    |false=>rfl
    |true=>rw[hq a b (h1 b hb) uU]at ha;nomatch ha
   rw[eu (by rw[ha];decide),eo (by rw[ha];rfl),(cL.mpr λb hb=>by rw[CM b hb];decide),(bL.mpr λb hb=>by rw[CM b hb];rfl)];refine⟨λm hm=>⟨λh=> ?_,λh=>by simp at h⟩,rfl,rfl⟩;induction m with
   |zero=>simp[ha]at h
   |succ m=>rw[az]at hm;rw[List.getD_cons_succ]at h;have:=CM (ns.getD m 0) (by rw[qz,aq (fR ‹_›)];exact Ap _);rw[this]at h;nomatch h
noncomputable def below (right:Bool) (x y:Int):Bool:=if right then decide (y<=x) else decide (y<x)
def below_1 (h:y<=x):below true x y=true:=decide_eq_true h
def below_2 (h:x<y):below true x y=false:=decide_eq_false (SU.mpr h)
def below_3 (h:y<x):below false x y=true:=decide_eq_true h
def below_4 (h:x<=y):below false x y=false:=decide_eq_false (nV.mpr h)
def vT (L3:a<=b) (h:below right x b=true):below right x a=true:=by
 induction right with
 |true=>exact decide_eq_true (ec L3 (of_decide_eq_true h))
 |false=>exact decide_eq_true (qN L3 (of_decide_eq_true h))
def oI (right:Bool) (hs:ns.Pairwise (· <= ·)) (x:Int):mB right ns x 0 ac= ↑(ns.filter (below right x)):=by
 let ⟨i1,_,_⟩:=xC (q:=below right x) hs λa b=>vT;have wh: ↑(ns.filter (below right x))<= ↑ns:=eY ..;have e:∀m,X8 right ns x m=below right x (ns.getD m 0):=λm=>by
  unfold X8 below;cases right
  ·simp
  ·simp only[if_true];rw[<- decide_not];congr 1;exact propext nV
 unfold mB;refine Jn (N:= ↑ns) (λm hm=> ?_) (λm h1 h2=> ?_) _ _ _ _ (by simp) (cI _) wh (ab _)
 ·rw[e];exact(i1 m (OU hm wh)).mpr hm
 ·rw[e];cases h:below right x (ns.getD m 0)with
  |false=>rfl
  |true=>have:=(i1 m h2).mp h;exact(KA this h1).elim
def Fb (right:Bool) (hs:ns.Pairwise (· <= ·)) (x:Int):vi right ns x (.int x) (ns.map PV.int)=(ns.filter (below right x)++x::ns.filter (λy=> !below right x y)).map PV.int:=by let ⟨_,i2,i3⟩:=xC (q:=below right x) hs λa b=>vT;unfold vi uR;rw[oI right hs,<- List.map_take,<- List.map_drop,i2,i3,bH,bw]
noncomputable def bM (l:Nz):List PV:=l.map λc:Nat=>PV.int (c:Int)
def vU (l:Nz):bM l=(l.map λc:Nat=>(c:Int)).map PV.int:=by unfold bM;rw[bD];rfl
def vo (l:Nz):jQ (bM l)=aa (l.map λc:Nat=>(c:Int)):=by rw[vU,pg]
def LD {l:Nz} (h:l.Pairwise (· <= ·)):(l.map λc:Nat=>(c:Int)).Pairwise (· <= ·):=gX _ (λa b L3=>by exact Aw L3) h
def Nf (right:Bool) {l:Nz} (hs:l.Pairwise (· <= ·)) (x:Nat):mB right (l.map λc:Nat=>(c:Int)) (x:Int) 0 ac= ↑(l.filter λy=>if right then decide (y<=x) else decide (y<x)):=by rw[oI right (LD hs),dF,aw];congr 2;funext y;show below right (x:Int) (y:Int)=_;unfold below;cases right<;>simp
def Ng (right:Bool) (hs:l.Pairwise (· <= ·)) (x:Nat):vi right (l.map λc:Nat=>(c:Int)) (x:Int) (.int (x:Int)) (bM l)=bM (l.filter (λy=>if right then decide (y<=x) else decide (y<x))++x::l.filter (λy=> !(if right then decide (y<=x) else decide (y<x)))):=by
 rw[vU,Fb right (LD hs),dF,dF,vU];have e:(below right (x:Int)) ∘ (λc:Nat=>(c:Int))=λy=>if right then decide (y<=x) else decide (y<x):=by funext y;show below right (x:Int) (y:Int)=_;unfold below;cases right<;>simp
 have e2:(λy=> !below right (x:Int) y) ∘ (λc:Nat=>(c:Int))=λy=> !(if right then decide (y<=x) else decide (y<x)):=by funext y;have:=congrFun e y;show(!below right (x:Int) (y:Int))=_;rw[show below right (x:Int) (y:Int)=_ from this]
 rw[e,e2];simp only[bH,bw]
def Aa (right:Bool) (h1:f st=aa a) (h2:g st= ~~~(.int (x:Int))) (h3:st.oz a=aa (bM r)) (hs:r.Pairwise (· <= ·)) (hl: ↑r<1000):
  qF right f g st= ~~~(.int (↑(r.filter λy=>if right then decide (y<=x) else decide (y<x)):Nat)):=by
 unfold qF;rw[h1,h2];show(st.oz a).bind _=_;rw[h3];show(jQ _).bind _=_;rw[vo];show(if _ then _ else _)=_;rw[if_pos (by rw[aw];exact hl),Nf right hs]
def LF (right:Bool) {r:Nz} (h1:f st=aa (.ob j)) (h2:g st= ~~~(.int (x:Int))) (h3:st.ob[j]? =aa (.list (bM r))) (hs:r.Pairwise (· <= ·)) (hl: ↑r<1000):
  zA right f g st=aa (.next,qT j (.list (bM (r.filter (λy=>if right then decide (y<=x) else decide (y<x))++x::r.filter (λy=> !(if right then decide (y<=x) else decide (y<x)))))) st):=by
 unfold zA;rw[h1,h2];show(SY st.ob[j]?).bind _=_;rw[h3];show(jQ _).bind _=_;rw[vo];show(if _ then _ else _)=_;rw[if_pos (by rw[aw];exact hl),Ng right hs]
def Dx {l:Nz} (h:l.Pairwise (· < ·)):l.Pairwise (· <= ·):=h.imp λh=>ce h
def CF {l:Nz} (hs:l.Pairwise (· < ·)) (x:Nat):(↑(l.filter λy=>decide (y<x))= ↑(l.filter λy=>decide (y<=x)))↔x∉l:=by
 induction l with
 |nil=>simp
 |cons a l ih=>
  let ⟨h1,h2⟩:=ef.mp hs;have ih:=ih h2;rcases eH a x with h|h|h
  ·rw[eo (by simpa using h),eo (by simpa using ce h),az,az];simp only[aH,not_or];constructor
   ·intro e;exact⟨by exact acm h,ih.mp (acn e)⟩
   ·intro e;have:=ih.mpr e.2;exact aco this
  ·subst h;rw[eu (by simp),eo (by simp),az];rw[(cL.mpr λb hb=>by have:=h1 b hb;simp;exact KD this)];simp
  ·rw[eu (by simp;exact KD h),eu (by simp;exact acp h)];simp only[aH,not_or];constructor
   ·intro e;exact⟨by exact V9 h,ih.mp e⟩
   ·intro e;exact ih.mpr e.2
def rh (p:α->Bool):∀l:List α,↑(l.filter p)+ ↑(l.filter λa=> !p a)= ↑l:=by
 intro l9;induction l9 with
 |nil=>exact rfl
 |cons a l ih=>
  have ih:=ih;cases h:p a with
  |true=>rw[eo h,eu (by rw[h];decide),az,az,yJ,ih]
  |false=>rw[eu (by rw[h];decide),eo (by rw[h];rfl),az,az,<- ih];rfl
noncomputable def nQ (r:Nz) (c:Nat):List Nat:=if c∈r then r else r.filter (λy=>decide (y<c))++c::r.filter (λy=> !decide (y<c))
def Dy (hs:r.Pairwise (· < ·)) (c:Nat):(nQ r c).Pairwise (· < ·)/\∀v,v∈nQ r c↔v=c\/v∈r:=by
 unfold nQ;by_cases h:c∈r
 ·rw[if_pos h];exact⟨hs,λv=>⟨λe=> .inr e,λe=>by rcases e with rfl|e;exact h;exact e⟩⟩
 ·rw[if_neg h];refine⟨?_,λv=> ?_⟩
  ·rw[ib];refine⟨hs.filter _,?_,?_⟩
   ·rw[ef];refine⟨λb hb=> ?_,hs.filter _⟩;left;let ⟨Ou,L7⟩:=aY.mp hb;right;simp at L7;have:b≠c:=λe=>h (e▸Ou);exact acq L7 this
   ·intro a ha b hb;let ⟨ha1,Zu⟩:=aY.mp ha;simp at Zu;rcases aH.mp hb with rfl|hb
    ·exact Zu
    ·let ⟨Ou,L7⟩:=aY.mp hb;simp at L7;exact OU Zu L7
  ·simp only[cb,aH,aY,decide_eq_true_eq,jl,decide_eq_false_iff_not];constructor
   ·rintro(⟨a,_⟩|rfl|⟨a,_⟩)
    ·exact .inr a
    ·exact .inl rfl
    ·exact .inr a
   ·rintro(rfl|a)
    ·exact .inr (.inl rfl)
    ·rcases bS v c with h'|h'
     ·exact .inl ⟨a,h'⟩
     ·exact .inr (.inr ⟨a,by exact V3 h'⟩)
def Hj (cs:Nz):∀(r:Nz),r.Pairwise (· < ·)->(cs.foldl nQ r).Pairwise (· < ·)/\∀v,v∈cs.foldl nQ r↔v∈cs\/v∈r:=by
 induction cs with
 |nil=>intro r h;exact⟨h,λv=>by simp⟩
 |cons c cs ih=>
  intro r h;let ⟨h1,h2⟩:=Dy h c;let ⟨h3,h4⟩:=ih (nQ r c) h1;refine⟨h3,λv=> ?_⟩;rw[jh,h4 v,h2 v,aH];constructor
  ·rintro(a|a|a)
   ·exact .inl (.inr a)
   ·exact .inl (.inl a)
   ·exact .inr a
  ·rintro((a|a)|a)
   ·exact .inr (.inl a)
   ·exact .inl a
   ·exact .inr (.inr a)
def Hk (r:Nz) (c:Nat): ↑(nQ r c)<= ↑r+1:=by
 unfold nQ;split
 ·exact F7
 ·rw[aj,az];have:=rh (λy=>decide (y<c)) r;exact acr this
def CG (cs:Nz) (hl: ↑cs<=100):lh [.lst (bM cs)]=aa (.lst (bM (cs.foldl nQ []))):=by
 let s0:St:=⟨[~~~(.lst (bM cs)),ac,ac],[],[]⟩;have SG:∃a,mK (jy (ak 0)) (bf 2) (aB (jA (bY .Eq (qF false (ak 1) (ak 2)) (qF true (ak 1) (ak 2))) (aB (zA false (ak 1) (ak 2)) br) br) br) ⟨[~~~(.lst (bM cs)),aa (.ob 0),ac],[],[.list []]⟩=aa (.next,⟨[~~~(.lst (bM cs)),aa (.ob 0),a],[],[.list (bM (cs.foldl nQ []))]⟩):=by
  have key:∀(ds r:Nz) (a:OV),r.Pairwise (· < ·)-> ↑r+ ↑ds<=500->∃a',lP (bf 2) (aB (jA (bY .Eq (qF false (ak 1) (ak 2)) (qF true (ak 1) (ak 2))) (aB (zA false (ak 1) (ak 2)) br) br) br) (bM ds) ⟨[~~~(.lst (bM cs)),aa (.ob 0),a],[],[.list (bM r)]⟩=aa (.next,⟨[~~~(.lst (bM cs)),aa (.ob 0),a'],[],[.list (bM (ds.foldl nQ r))]⟩):=by
   intro ds;induction ds with
   |nil=>intro r a _ _;exact⟨a,rfl⟩
   |cons d ds ih=>
    intro r a hr cH;rw[az]at cH;let ⟨a',e⟩:=ih (nQ r d) (~~~(.int (d:Int))) (Dy hr d).1 (acs (Hk r d) cH);refine⟨a',?_⟩;let s1:St:=⟨[~~~(.lst (bM cs)),aa (.ob 0),~~~(.int (d:Int))],[],[.list (bM r)]⟩;have hb:∀right,qF right (ak 1) (ak 2) s1= ~~~(.int (↑(r.filter λy=>if right then decide (y<=d) else decide (y<d)):Nat)):=λright=>Aa right (a:= .ob 0) rfl rfl rfl (Dx hr) (Wa cH);have hc:bY .Eq (qF false (ak 1) (ak 2)) (qF true (ak 1) (ak 2)) s1=aa (decide (d∉r)):=by unfold bY vg;rw[hb,hb];show aa (((↑(r.filter λy=>decide (y<d)):Nat):Int)==((↑(r.filter λy=>decide (y<=d)):Nat):Int))=_;congr 1;rw[dr,beq_iff_eq,decide_eq_true_iff,<- CF hr d];exact OW
    have dY:aB (jA (bY .Eq (qF false (ak 1) (ak 2)) (qF true (ak 1) (ak 2))) (aB (zA false (ak 1) (ak 2)) br) br) br s1=aa (.next,⟨[~~~(.lst (bM cs)),aa (.ob 0),~~~(.int (d:Int))],[],[.list (bM (nQ r d))]⟩):=by
     have e:jA (bY .Eq (qF false (ak 1) (ak 2)) (qF true (ak 1) (ak 2))) (aB (zA false (ak 1) (ak 2)) br) br s1=aa (.next,⟨[~~~(.lst (bM cs)),aa (.ob 0),~~~(.int (d:Int))],[],[.list (bM (nQ r d))]⟩):=by
      unfold jA;rw[hc];by_cases hd:d∈r
      ·rw[decide_eq_false (by simpa using hd)];unfold nQ;rw[if_pos hd];rfl
      ·rw[decide_eq_true hd];show aB (zA false (ak 1) (ak 2)) br s1=_;rw[aU (LF false (f:=ak 1) (g:=ak 2) (st:=s1) (j:=0) (x:=d) (r:=r) rfl rfl rfl (Dx hr) (Wa cH))];unfold nQ;rw[if_neg hd];rfl
     rw[aU e];rfl
    show lP _ _ (PV.int (d:Int)::bM ds) _=_;rw[iE (st1:=s1) rfl dY,jh];exact e
  let ⟨a,e⟩:=key cs [] ac gW (by simp;exact acu hl);exact⟨a,by rw[jY (xs:=bM cs) rfl];exact e⟩
 let ⟨a,SG⟩:=SG;have eF:lg s0=aa (.ret (.ob 0),⟨[~~~(.lst (bM cs)),aa (.ob 0),a],[],[.list (bM (cs.foldl nQ []))]⟩):=by unfold lg;rw[aU (st1:=⟨[~~~(.lst (bM cs)),aa (.ob 0),ac],[],[.list []]⟩) rfl,aU SG];rfl
 show(lg s0).bind (λr=>Gy r.2 r.1)=_;rw[eF];rfl
def uN (n:NN) (i:Nat):Nat:= ↑(ii n i)
def oN (n:NN) (i:Nat):Nat:= ↑(kC n i)
def lC (n:NN):List Nat:=(L6.map (uN n)).foldl nQ []
def ri (n:NN):List Nat:=(L6.map (oN n)).foldl nQ []
def bg (n:NN) (i:Nat):Nat:= ↑((lC n).filter λy=>decide (y<uN n i))
def Ck (n:NN) (i:Nat):Int:=(↑(ri n):Int)- (↑((ri n).filter λy=>decide (y<=oN n i)):Nat)
def jT (n:NN):List Str:=L6.flatMap λi=>(L6.filter (rel n i)).map λj=>nm i++nm j
def g4 (n:NN):PV:= .lst ((jT n).map PV.str)
def mP (n:NN):PV:= .lst [.lst (bM (lC n)),.lst (bM (ri n))]
def rj (n:NN):(lC n).Pairwise (· < ·)/\∀v,v∈lC n↔∃i,i<6/\uN n i=v:=by let ⟨h1,h2⟩:=Hj (L6.map (uN n)) [] gW;refine⟨h1,λv=> ?_⟩;rw[show v∈lC n↔_ from h2 v];simp[aQ,fY]
def yr (n:NN):(ri n).Pairwise (· < ·)/\∀v,v∈ri n↔∃i,i<6/\oN n i=v:=by let ⟨h1,h2⟩:=Hj (L6.map (oN n)) [] gW;refine⟨h1,λv=> ?_⟩;rw[show v∈ri n↔_ from h2 v];simp[aQ,fY]
def LG (cs:Nz):∀(r:Nz),↑(cs.foldl nQ r)<= ↑r+ ↑cs:=by
 induction cs with
 |nil=>intro r;simp
 |cons c cs ih=>intro r;rw[jh,az];exact acv (ih (nQ r c)) (Hk r c)
def xD (n:NN): ↑(lC n)<=6:=by have:=LG (L6.map (uN n)) [];rw[aw]at this;exact this
def QP (n:NN): ↑(ri n)<=6:=by have:=LG (L6.map (oN n)) [];rw[aw]at this;exact this
def tQ (st:St) (l:List PV) (h: ↑l<=10000):kr st [.pv (.lst l)]= ~~~(.int (↑l:Nat)):=by show((aa l).bind λl=>if ↑l<=sizeLine then aa (CV.pv (.int ↑l)) else ac)=_;rw[bK,if_pos (KE h rfl)]
def jN (p:Nat->Bool): ↑(L6.filter p)<=6:=eY p L6
def afR (l:List Int) (n:NN) (y x:OV) (rs:SS):St:= {lv:=[~~~(.lst (l.map PV.int)),y,ac,ac,ac,ac,ac,ac,ac,ac,ac,ac,ac,ac,ac,ac,ac,ac],cv:=[ac,ac,ac,ac,ac,~~~(mP n),~~~(cq λi=>fL (kC n i)),~~~(cq λi=>fL (ii n i)),aa (.inst 0),~~~(cq λk=>jR (n k)),~~~(cq λk=>g0 (dP (n k))),~~~js,~~~(cq λk=>cE (n k)),~~~(.lst (ig λk=>(n k:Int))),~~~(.lst ((numsOf l).map PV.int)),x],ob:=hU (rs.map cW)}
def afS (l:List Int) (n:NN) (y x:OV) (rs:SS):St:= {lv:=[~~~(.lst (l.map PV.int)),y,ac,ac,ac,ac,ac,ac,ac,ac,ac,ac,ac,ac,ac,ac,ac,ac],cv:=[~~~(cq λi=> .int (bg n i:Nat)),ac,ac,ac,ac,~~~(mP n),~~~(cq λi=>fL (kC n i)),~~~(cq λi=>fL (ii n i)),aa (.inst 0),~~~(cq λk=>jR (n k)),~~~(cq λk=>g0 (dP (n k))),~~~js,~~~(cq λk=>cE (n k)),~~~(.lst (ig λk=>(n k:Int))),~~~(.lst ((numsOf l).map PV.int)),x],ob:=hU (rs.map cW)}
def afT (l:List Int) (n:NN) (y x:OV) (rs:SS):St:= {lv:=[~~~(.lst (l.map PV.int)),y,ac,ac,ac,ac,ac,ac,ac,ac,ac,ac,ac,ac,ac,ac,ac,ac],cv:=[~~~(cq λi=> .int (bg n i:Nat)),ac,ac,ac,~~~(cq λi=> .int (Ck n i)),~~~(mP n),~~~(cq λi=>fL (kC n i)),~~~(cq λi=>fL (ii n i)),aa (.inst 0),~~~(cq λk=>jR (n k)),~~~(cq λk=>g0 (dP (n k))),~~~js,~~~(cq λk=>cE (n k)),~~~(.lst (ig λk=>(n k:Int))),~~~(.lst ((numsOf l).map PV.int)),x],ob:=hU (rs.map cW)}
def UQ (l:List Int) (n:NN) (y x:OV) (rs:SS):St:= {lv:=[~~~(.lst (l.map PV.int)),y,ac,ac,ac,ac,ac,ac,ac,ac,ac,ac,ac,ac,ac,ac,ac,ac],cv:=[~~~(cq λi=> .int (bg n i:Nat)),ac,ac,~~~(g4 n),~~~(cq λi=> .int (Ck n i)),~~~(mP n),~~~(cq λi=>fL (kC n i)),~~~(cq λi=>fL (ii n i)),aa (.inst 0),~~~(cq λk=>jR (n k)),~~~(cq λk=>g0 (dP (n k))),~~~js,~~~(cq λk=>cE (n k)),~~~(.lst (ig λk=>(n k:Int))),~~~(.lst ((numsOf l).map PV.int)),x],ob:=hU (rs.map cW)}
def afU (l:List Int) (n:NN) (y x:OV) (rs:SS):z6 (st9 l n y x rs)=aa (.next,afR l n y x rs):=by
 have inner:∀(W:Nat->List Nat),(∀i,↑(W i)<=6)->ei xa (jy (aX 1)) (dN (bf 0) fG (gO (dJ kr (au (bk (aX 0) (ak 0)) aZ)))) ⟨[],[~~~(cq λi=>fL (W i)),~~~(cq λk=>cE (n k))],hU (rs.map cW)⟩= ~~~(.lst (bM (L6.map λi=> ↑(W i)))):=by
  intro W hW;erw [xB (λst=>∃a,st=⟨[a],[~~~(cq λi=>fL (W i))],hU (rs.map cW)⟩) (λ_=>true) (λi=> .int (↑(W i):Nat)) (qG _ (λk=>cE (n k)) rfl) ⟨ac,rfl⟩ ?_]
  ·rw[bL.mpr (λ_ _=>rfl)];unfold bM;rw[bD];rfl
  ·rintro i hi st ⟨a,rfl⟩;refine⟨⟨[~~~(.str (nm i))],[~~~(cq λi=>fL (W i))],hU (rs.map cW)⟩,rfl,rfl,⟨_,rfl⟩,λ_=> ?_⟩;refine iL (bz (cA rfl rfl (gi _ (λi=>fL (W i)) (fY.mpr hi))) rfl) ?_;have:=tQ ⟨[~~~(.str (nm i))],[~~~(cq λi=>fL (W i))],hU (rs.map cW)⟩ ((W i).map λi=> .str (nm i)) (by rw[aw];have:=hW i;exact C3 this);rw[aw]at this;exact this
 unfold z6 bZ;have h:ei Ha (jy (jd (au (aX 7) (au (aX 6) aZ)))) (dN (jL 0) fG (gO (kb lh (au (ei xa (jy (aX 1)) (dN (bf 0) fG (gO (dJ kr (au (bk (aX 0) (ak 0)) aZ))))) aZ)))) (st9 l n y x rs)= ~~~(mP n):=by
  erw [li (J:=λst=>∃a,st=⟨[],[a,~~~(cq λk=>cE (n k))],hU (rs.map cW)⟩) (p:=λ_=>true) (xs:=[cq λi=>fL (ii n i),cq λi=>fL (kC n i)]) (g:=λx=>match x with| .oO l=> .lst (bM ((l.map λp=>match p.2 with| .lst m=> ↑m|_=>0).foldl nQ []))|x=>x) ?_ (by show 2<50000;decide) ⟨ac,rfl⟩ ?_]
  ·rw[bL.mpr (λ_ _=>rfl)];have e:∀W:Nat->List Nat,((L6.map λi=>(nm i,fL (W i))).map λp=>match p.2 with| .lst m=> ↑m|_=>0)=L6.map λi=> ↑(W i):=λW=>by rw[bD];apply cj;intro i _;show ↑((W i).map λi=>PV.str (nm i))=_;rw[aw]
   show aa (CV.pv (.lst [.lst (bM (((L6.map λi=>(nm i,fL (ii n i))).map λp=>match p.2 with| .lst m=> ↑m|_=>0).foldl nQ [])),.lst (bM (((L6.map λi=>(nm i,fL (kC n i))).map λp=>match p.2 with| .lst m=> ↑m|_=>0).foldl nQ []))]))=_;rw[e,e];rfl
  ·unfold jy;rw[qq (l:=[.pv (cq λi=>fL (ii n i)),.pv (cq λi=>fL (kC n i))]) rfl rfl (by simp)];rfl
  ·have step:∀(W:Nat->List Nat),(∀i,↑(W i)<=6)->∀a,∃st1,jL 0 (.pv (cq λi=>fL (W i))) ⟨[],[a,~~~(cq λk=>cE (n k))],hU (rs.map cW)⟩=aa st1/\fG st1=aa true/\(∃a,st1=⟨[],[a,~~~(cq λk=>cE (n k))],hU (rs.map cW)⟩)/\(true=true->kb lh (au (ei xa (jy (aX 1)) (dN (bf 0) fG (gO (dJ kr (au (bk (aX 0) (ak 0)) aZ))))) aZ) st1= ~~~(.lst (bM (((L6.map λi=>(nm i,fL (W i))).map λp=>match p.2 with| .lst m=> ↑m|_=>0).foldl nQ [])))):=by
    intro W hW a;refine⟨⟨[],[~~~(cq λi=>fL (W i)),~~~(cq λk=>cE (n k))],hU (rs.map cW)⟩,rfl,rfl,⟨_,rfl⟩,λ_=> ?_⟩;have e:((L6.map λi=>(nm i,fL (W i))).map λp=>match p.2 with| .lst m=> ↑m|_=>0)=L6.map λi=> ↑(W i):=by rw[bD];apply cj;intro i _;show ↑((W i).map λi=>PV.str (nm i))=_;rw[aw]
    rw[e];exact mY (bz (inner W hW) rfl) rfl (CG _ (by simp[L6]))
   rintro x hx st ⟨a,rfl⟩;rcases aH.mp hx with rfl|hx
   ·exact step _ (λi=>jN _) a
   ·rcases aH.mp hx with rfl|hx
    ·exact step _ (λi=>jN _) a
    ·nomatch hx
 rw[h];rfl
def LH (st:St) (W:Nat->List Nat) (hW:∀i,↑(W i)<=6) (hi:i<6) (h1:f st= ~~~(cq λi=>fL (W i))) (h2:g st= ~~~(.str (nm i))):dJ kr (au (bk f g) aZ) st= ~~~(.int (↑(W i):Nat)):=by refine iL (bz (cA h1 h2 (gi _ (λi=>fL (W i)) (fY.mpr hi))) rfl) ?_;have:=tQ st ((W i).map λi=> .str (nm i)) (by rw[aw];have:=hW i;exact C3 this);rw[aw]at this;exact this
def afV (l:List Int) (n:NN) (y x:OV) (rs:SS):z7 (afR l n y x rs)=aa (.next,afS l n y x rs):=by
 unfold z7 bZ;erw [uE (λst=>∃a,st=⟨[a],[~~~(cq λi=>fL (ii n i)),~~~(mP n)],hU (rs.map cW)⟩) (λi=> .int (bg n i:Nat)) (qG _ (λk=>cE (n k)) rfl) ⟨ac,rfl⟩ ?_]
 ·rfl
 ·rintro i hi st ⟨a,rfl⟩;refine⟨⟨[~~~(.str (nm i))],[~~~(cq λi=>fL (ii n i)),~~~(mP n)],hU (rs.map cW)⟩,rfl,⟨_,rfl⟩,rfl,?_⟩;have:=xD n;exact Aa false (a:= .pv (.lst (bM (lC n)))) (r:=lC n) (cA rfl rfl (kz _ [.lst (bM (lC n)),.lst (bM (ri n))] 0 ∅ rfl)) (LH _ (ii n) (λi=>jN _) hi rfl rfl) rfl (Dx (rj n).1) (OX this)
def YD (l:List Int) (n:NN) (y x:OV) (rs:SS):xc (afS l n y x rs)=aa (.next,afT l n y x rs):=by
 unfold xc bZ;erw [uE (λst=>∃a,st=⟨[a],[~~~(mP n),~~~(cq λi=>fL (kC n i))],hU (rs.map cW)⟩) (λi=> .int (Ck n i)) (qG _ (λk=>cE (n k)) rfl) ⟨ac,rfl⟩ ?_]
 ·rfl
 ·rintro i hi st ⟨a,rfl⟩;refine⟨⟨[~~~(.str (nm i))],[~~~(mP n),~~~(cq λi=>fL (kC n i))],hU (rs.map cW)⟩,rfl,⟨_,rfl⟩,rfl,?_⟩;have hl:=QP n;have hit:bk (aX 0) ⇑1 ⟨[~~~(.str (nm i))],[~~~(mP n),~~~(cq λi=>fL (kC n i))],hU (rs.map cW)⟩= ~~~(.lst (bM (ri n))):=cA rfl rfl (kz _ [.lst (bM (lC n)),.lst (bM (ri n))] 1 ∅ rfl);have cH:=tQ ⟨[~~~(.str (nm i))],[~~~(mP n),~~~(cq λi=>fL (kC n i))],hU (rs.map cW)⟩ (bM (ri n)) (by unfold bM;rw[aw];exact C3 hl);rw[show ↑(bM (ri n))= ↑(ri n) by unfold bM;erw [aw]]at cH;exact dq (iL (bz hit rfl) cH) (Aa true (a:= .pv (.lst (bM (ri n)))) (r:=ri n) hit (LH _ (kC n) (λi=>jN _) hi (g:=ak 0) (f:=aX 1) rfl rfl) rfl (Dx (yr n).1) (OX hl)) rfl
def QQ (st:St) (m:Nat):Ep st [.pv (cE m)]= ~~~(.int (hi m:Nat)):=by show aa (CV.pv (.int ([(dG m:Int),(dB m:Int)].foldl max (dR m:Int))))=_;congr 3;show max (max (dR m:Int) (dG m)) (dB m)=_;unfold hi;exact acw
def QR (st:St) (m:Nat):MB st [.pv (cE m)]= ~~~(.int (lo m:Nat)):=by show aa (CV.pv (.int ([(dG m:Int),(dB m:Int)].foldl min (dR m:Int))))=_;congr 3;show min (min (dR m:Int) (dG m)) (dB m)=_;unfold lo;exact acx
def Dz (n:NN) (p:Nat->Nat->Bool) (h:∀i,i<6->∀j,j<6->p i j=rel n i j):PV.lst (L6.flatMap λi=>(L6.filter (p i)).map λj=>PV.str (nm i++nm j))=g4 n:=by unfold g4 jT;rw[gz];congr 1;refine eR λi hi=> ?_;rw[bD,io λj hj=>h i (fY.mp hi) j (fY.mp hj)];rfl
def YE (l:List Int) (n:NN) (y x:OV) (rs:SS):xd (afT l n y x rs)=aa (.next,UQ l n y x rs):=by
 unfold xd bZ;erw [yq (λst=>∃a b,st=⟨[a,b],[~~~(cq λk=>cE (n k))],hU (rs.map cW)⟩) (rel n) (λi j=> .str (nm i++nm j)) (qG _ (λk=>cE (n k)) rfl) ⟨ac,ac,rfl⟩ ?_]
 ·rw[Dz n (rel n) λ_ _ _ _=>rfl];rfl
 ·rintro i hi st ⟨a,b,rfl⟩;refine⟨⟨[~~~(.str (nm i)),b],[~~~(cq λk=>cE (n k))],hU (rs.map cW)⟩,rfl,rfl,⟨_,_,rfl⟩,qG _ (λk=>cE (n k)) rfl,λst=>∃b,st=⟨[~~~(.str (nm i)),b],[~~~(cq λk=>cE (n k))],hU (rs.map cW)⟩,⟨_,rfl⟩,λst ⟨b,h⟩=>⟨_,b,h⟩,?_⟩;rintro j hj st ⟨b,rfl⟩;refine⟨⟨[~~~(.str (nm i)),~~~(.str (nm j))],[~~~(cq λk=>cE (n k))],hU (rs.map cW)⟩,rfl,?_,⟨_,rfl⟩,λ_=>dq (f:=ak 0) (g:=ak 1) rfl rfl (ki _ _ _ (by rw[jS,jS];decide))⟩;unfold bY vg;rw[iL (bz (cA (f:=aX 0) (g:=ak 0) rfl rfl (gi _ (λk=>cE (n k)) (fY.mpr hi))) rfl) (QQ _ (n i)),iL (bz (cA (f:=aX 0) (g:=ak 1) rfl rfl (gi _ (λk=>cE (n k)) (fY.mpr hj))) rfl) (QR _ (n j))];show aa (decide (((Mine.hi (n i):Nat):Int)< ((lo (n j):Nat):Int)))=_;unfold rel;congr 2;exact propext cM
def filter_le {l:List α}:(∀a∈l,p a=true->q a=true)-> ↑(l.filter p)<= ↑(l.filter q):=by
 induction l with
 |nil=>intro _;exact ab _
 |cons a l ih=>intro h;have ih:=ih λb hb=>h b (aK _ hb);have ha:=h a ay;rw[bl,bl];cases e:p a<;>cases e':q a<;>simp_all<;>(exact jn ‹_›)
def filter_lt {l:List α}:(∀a∈l,p a=true->q a=true)->∀ {b:α},b∈l->p b=false->q b=true-> ↑(l.filter p)< ↑(l.filter q):=by
 induction l with
 |nil=>intro _ _ hb _ _;cases hb
 |cons a l ih=>
  intro h b hb h1 h2;have h':∀a∈l,p a=true->q a=true:=λb hb=>h b (aK _ hb);have ha:=h a ay;rcases aH.mp hb with rfl|hb
  ·have ih:=filter_le h';rw[bl,bl,h1,h2];simp;exact gJ ‹_›
  ·have ih:=ih h' hb h1 h2;rw[bl,bl];cases e:p a<;>cases e':q a<;>simp_all<;>(exact eI ‹_›)
def Jo (f:α->Nat):∀l:List α,l≠ []->∃a∈l,∀b∈l,f b<=f a
 | [],h=>absurd rfl h
 | [a],_=>⟨a,ay,λb hb=>by rw[aC.mp hb];exact ab _⟩
 |a::c::l,_=>by
  let ⟨d,hd,h⟩:=Jo f (c::l) (by simp);by_cases e:f d<=f a
  ·refine⟨a,ay,λb hb=> ?_⟩;rcases aH.mp hb with rfl|hb
   ·exact ab _
   ·exact aA (h b hb) e
  ·refine⟨d,aK _ hd,λb hb=> ?_⟩;rcases aH.mp hb with rfl|hb
   ·exact Wb e
   ·exact h b hb
def YF (f:α->Nat) (l:List α) (h:l≠ []):∃a∈l,∀b∈l,f a<=f b:=by
 have key:∀l:List α,l≠ []->∃a∈l,∀b∈l,f a<=f b:=by
  intro l;induction l with
  |nil=>exact λh=>absurd rfl h
  |cons a l ih=>
   intro _;by_cases e:l=[]
   ·subst e;exact⟨a,ay,λb hb=>by rw[aC.mp hb];exact ab _⟩
   ·let ⟨d,hd,h⟩:=ih e;by_cases e:f a<=f d
    ·refine⟨a,ay,λb hb=> ?_⟩;rcases aH.mp hb with rfl|hb
     ·exact ab _
     ·exact aA e (h b hb)
    ·refine⟨d,aK _ hd,λb hb=> ?_⟩;rcases aH.mp hb with rfl|hb
     ·exact Wb e
     ·exact h b hb
 exact key l h
def BE (hx:x<6) (h:rel n x y=true) (hu:uN n y<=uN n z):rel n x z=true:=by
 by_cases hz:rel n x z=true
 ·exact hz
 ·have h1:hi (n x)<lo (n y):=of_decide_eq_true h;have:=filter_lt (l:=L6) (p:=λk=>rel n k z) (q:=λk=>rel n k y) (λa _ ha=>by
   have:hi (n a)<lo (n z):=of_decide_eq_true ha;exact decide_eq_true (acy this h1 (λe=>hz (decide_eq_true e)))) (fY.mpr hx) (kq.mpr hz) h
  exact(acz this rfl rfl hu).elim
def LI (n:NN) (x:Nat):rel n x x=false:=by have:=BC (n x);exact decide_eq_false (V3 this)
def Ab (hi:i<6):∃c,c∈lC n/\∀y,y<6->(rel n i y=true↔c<uN n y):=by
 left;let ⟨z,hz,h⟩:=Jo (uN n) (L6.filter λy=> !rel n i y) (List.ne_nil_of_mem (aY.mpr ⟨fY.mpr hi,by rw[LI];rfl⟩));right;rw[aY]at hz;refine⟨uN n z,((rj n).2 _).mpr ⟨z,fY.mp hz.1,rfl⟩,λy hy=>⟨λe=> ?_,λe=> ?_⟩⟩
 ·by_cases hc:uN n z<uN n y
  ·exact hc
  ·have:=BE hi e (iT hc);rw[this]at hz;nomatch hz.2
 ·by_cases hc:rel n i y=true
  ·exact hc
  ·have:=h y (aY.mpr ⟨fY.mpr hy,by simpa using hc⟩);exact absurd ‹_› (dE ‹_›)
def QS (hc:c∈lC n):∃z,z<6/\∀y,y<6->(rel n z y=true↔c<uN n y):=by
 let ⟨w,hw,rfl⟩:=((rj n).2 _).mp hc;by_cases he:(L6.filter λy=>decide (uN n w<uN n y))=[]
 ·let ⟨z,hz,h⟩:=Jo (λy=>hi (n y)) L6 ∅;refine⟨z,fY.mp hz,λy hy=>⟨λe=> ?_,λe=> ?_⟩⟩
  ·have h1:hi (n z)<lo (n y):=of_decide_eq_true e;exact acA h1 (BC (n y)) (h y (fY.mpr hy))
  ·have:y∈L6.filter λy=>decide (uN n w<uN n y):=aY.mpr ⟨fY.mpr hy,decide_eq_true e⟩;rw[he]at this;nomatch this
 ·let ⟨y1,h1,h⟩:=YF (uN n) _ he;rw[aY]at h1;have h1':uN n w<uN n y1:=of_decide_eq_true h1.2;have hz:∃z,z<6/\rel n z y1=true/\rel n z w=false:=by
   apply pL;intro hn;have:uN n y1<=uN n w:=filter_le (l:=L6) λa ha e=>by
    cases hr:rel n a w with
    |true=>rfl
    |false=>exact absurd ⟨a,fY.mp ha,e,hr⟩ hn
   exact KA h1' this
  let ⟨z,hz,e1,e2⟩:=hz;refine⟨z,hz,λy hy=>⟨λe=> ?_,λe=> ?_⟩⟩
  ·by_cases hc:uN n w<uN n y
   ·exact hc
   ·rw[BE hz e (iT hc)]at e2;nomatch e2
  ·exact BE hz e1 (h y (aY.mpr ⟨fY.mpr hy,decide_eq_true e⟩))
def en (n:NN) (i:Nat):Nat:=(Ck n i).toNat
def QT (n:NN) (c:Nat):Nat:= ↑(L6.filter λy=>decide (c<uN n y))
def Fc (hd:d∈lC n) (h:c<d):QT n d<QT n c:=by
 let ⟨w,hw,rfl⟩:=((rj n).2 _).mp hd;exact filter_lt (λa _ ha=>by
  have:uN n w<uN n a:=of_decide_eq_true ha;exact decide_eq_true (Wc h this)) (fY.mpr hw) (decide_eq_false (OY)) (decide_eq_true h)
def Jp (h:∀y,y<6->(rel n i y=true↔c<uN n y)):oN n i=QT n c:=by unfold oN kC QT;rw[io λy hy=> ?_];rw[dr,decide_eq_true_iff];exact h y (fY.mp hy)
def Hl {l:Nz} (h:l.Pairwise (· < ·)):l.Nodup:=h.imp λh e=>by simp_all
def Nh (n:NN):((lC n).map (QT n)).Perm (ri n):=by
 refine(kJ ?_ (Hl (yr n).1)).mpr λv=> ?_
 ·refine gX _ (λ_ _ h=>h) (gK ?_ (rj n).1);intro a b _ hb L3 e;have:=Fc hb L3;simp_all
 ·rw[(yr n).2,aQ];constructor
  ·rintro⟨c,hc,rfl⟩;let ⟨z,hz,h⟩:=QS hc;exact⟨z,hz,Jp h⟩
  ·rintro⟨i,hi,rfl⟩;let ⟨c,hc,h⟩:=Ab hi;exact⟨c,hc,(Jp h).symm⟩
def Fd (hc:c∈lC n) (h:∀y,y<6->(rel n i y=true↔c<uN n y)):Ck n i=(↑((lC n).filter λy=>decide (y<c)):Nat):=by
 have h2: ↑((ri n).filter λa=> !decide (a<=oN n i))= ↑((lC n).filter λy=>decide (y<c)):=by
  erw [<- ((Nh n).filter _).length_eq,dF,aw];erw [io λd hd=> ?_];rw[Jp h,dr];simp only[Function.comp_apply,jl,decide_eq_false_iff_not,decide_eq_true_iff];rcases eH d c with h3|h3|h3
  ·have:=Fc hc h3;exact acB this h3
  ·subst h3;exact acC
  ·have:=Fc hd h3;exact acD this h3
 unfold Ck;exact acE (rh (λy=>decide (y<=oN n i)) (ri n)) h2
def UR (hc:c∈lC n): ↑((lC n).filter λy=>decide (y<c))< ↑((lC n).filter λy=>decide (y<d))↔c<d:=by
 constructor
 ·intro h;apply Cf;intro h';have:=filter_le (l:=lC n) (p:=λy=>decide (y<d)) (q:=λy=>decide (y<c)) λa _ ha=>by have:a<d:=of_decide_eq_true ha;exact decide_eq_true (OU this h')
  exact KA h this
 ·intro h;exact filter_lt (λa _ ha=>by
   have:a<c:=of_decide_eq_true ha;exact decide_eq_true (Wc this h)) hc (decide_eq_false (OY)) (decide_eq_true h)
def mN (n:NN):Nat:= ↑(lC n)
def Fe (hi:i<6):Ck n i=(en n i:Int):=by let ⟨c,hc,h⟩:=Ab (n:=n) hi;unfold en;rw[Fd hc h];rfl
def rX (hi:i<6) (hj:j<6):rel n i j=decide (en n i<bg n j):=by let ⟨c,hc,h⟩:=Ab (n:=n) hi;have e:=Fd hc h;rw[Fe hi]at e;rw[dr,h j hj,decide_eq_true_iff,<- UR hc];unfold bg;exact acF e
def BF (hi:i<6):bg n i<=en n i:=by have:=rX (n:=n) hi hi;rw[LI]at this;have:=of_decide_eq_false this.symm;exact V4 this
def LK (hi:i<6):en n i<mN n:=by let ⟨c,hc,h⟩:=Ab (n:=n) hi;have e:=Fd hc h;rw[Fe hi]at e;have:=filter_lt (l:=lC n) (p:=λy=>decide (y<c)) (q:=λ_=>true) (λ_ _ _=>rfl) hc (decide_eq_false (OY)) rfl;rw[bL.mpr λ_ _=>rfl]at this;unfold mN;exact acG e this
def pl (n:NN) (c:Nat):Nat:=if c<6 then bg n c else en n (c- 6)
def xE (h:x<6):pl n x=bg n x:=if_pos h
def Hm (n:NN) (x:Nat):pl n (6+x)=en n x:=by unfold pl;rw[if_neg (by simp)];congr 1;simp
def afW (h:c<12):pl n c<mN n:=by
 unfold pl;split
 ·exact bI (BF (by assumption)) (LK (by assumption))
 ·exact LK (Wd h)
def BG (n:NN) (a c:Nat):Prop:=pl n a<pl n c\/(pl n a=pl n c/\a<c)
def US (n:NN) (K m:Nat):List Nat:=(cK m).flatMap λj=>(cK K).filter λc=>pl n c==j
def LL:c∈US n K m↔c<K/\pl n c<m:=by unfold US;simp only[iQ,dM,aY,beq_iff_eq];exact⟨λ⟨j,h1,h2,h3⟩=>⟨h2,h3▸h1⟩,λ⟨h1,h2⟩=>⟨_,h2,h1,rfl⟩⟩
def BH (n:NN) (K:Nat):∀m,(US n K m).Pairwise (BG n):=by
 intro l9;induction l9 with
 |zero=>exact gW
 |succ m ih=>
  unfold US;rw[lV,iD,ib];refine⟨ih,?_,λa ha c hc=> ?_⟩
  ·rw[bJ,sE,bu];refine gK ?_ (List.Pairwise.filter _ (List.pairwise_lt_range));intro a c ha hc h;have h1:=(aY.mp ha).2;have h2:=(aY.mp hc).2;rw[beq_iff_eq]at h1 h2;exact .inr ⟨by rw[h1,h2],h⟩
  ·have h1:=(LL.mp ha).2;rw[bJ,sE,bu]at hc;have h2:=(aY.mp hc).2;rw[beq_iff_eq]at h2;exact .inl (by simp_all)
def toks (n:NN):List Nat:=US n 12 (mN n)
def Hn (n:NN):List Nat:=US n 6 (mN n)
def gk:c∈toks n↔c<12:=LL.trans ⟨λh=>h.1,λh=>⟨h,afW h⟩⟩
def mZ (h:BG n a a):False:=by unfold BG at h;simp_all
def DA (h:BG n a c) (h':BG n c a):False:=
 h.elim (λh=>h'.elim (zL h) λh'=>jV h h'.1) λh=>h'.elim (λh'=>jV h' h.1) λh'=>zL h.2 h'.2
def QU (hy:y<6) (hx:x<6) (h:BG n y x):bg n y<=bg n x:=xE (n:=n) hy▸xE (n:=n) hx▸h.elim ce λh=>fg h.1
def yt (h:a≠c):BG n a c\/BG n c a:=by unfold BG;exact acH h
def oJ (h:toks n=P++c::Q):a∈P↔a<12/\BG n a c:=by
 have hs:=BH n 12 (mN n);rw[show US n 12 (mN n)=_ from h,ib]at hs;constructor
 ·intro ha;exact⟨gk.mp (by rw[h];exact fu _ ha),hs.2.2 a ha c ay⟩
 ·rintro⟨h1,h2⟩;have:=(gk (n:=n)).mpr h1;rw[h]at this;rcases cb.mp this with h3|h3
  ·exact h3
  ·rcases aH.mp h3 with rfl|h3
   ·exact(mZ h2).elim
   ·exact(DA h2 ((ef.mp hs.2.1).1 a h3)).elim
def mn (P:Nz):List Nat:=L6.filter λy=>P.contains y&& !P.contains (6+y)
def YH (n:NN) (a c:Nat):Bool:=decide (pl n a<pl n c\/(pl n a=pl n c/\a<c))
def vq (n:NN) (x:Nat):List Nat:=L6.filter λy=>YH n y x&&decide (bg n x<=en n y)
def jZ:y∈vq n x↔y<6/\BG n y x/\bg n x<=en n y:=by unfold vq YH BG;rw[aY,fY,dj,decide_eq_true_iff,decide_eq_true_iff]
def oK:y∈mn P↔y<6/\y∈P/\6+y∉P:=by unfold mn;rw[aY,fY];simp
def Jq (h:toks n=P++x::Q) (hx:x<6):mn P=vq n x:=by unfold mn vq;apply io;intro y hy;rw[fY]at hy;rw[dr];simp only[dj,List.contains_iff_mem,jl,<- Bool.not_eq_true,YH,decide_eq_true_iff];rw[oJ h,oJ h];unfold BG;rw[Hm,xE hx,xE hy];exact acI hy hx
def rk (P:Nz):(mn P).Nodup:=lj.filter _
def BI (h:toks n=P++x::Q) (hx:x<6):x∉mn P/\(mn (P++[x])).Perm (x::mn P):=by
 have h1:x∉mn P:=λhm=>by rw[Jq h hx,jZ]at hm;exact mZ hm.2.1
 refine⟨h1,(kJ (rk _) (fE.mpr ⟨h1,rk _⟩)).mpr λy=> ?_⟩;have h2:6+x∉P:=λhm=>by rw[oJ h]at hm;have:=BF (n:=n) hx;unfold BG at hm;rw[Hm,xE hx]at hm;exact acJ hm this
 rw[aH,oK,oK];simp only[cb,aC];constructor
 ·rintro⟨h3,h4|h4,h5⟩
  ·exact .inr ⟨h3,h4,λe=>h5 (.inl e)⟩
  ·exact .inl h4
 ·rintro(rfl|⟨h3,h4,h5⟩)
  ·exact⟨hx,.inr rfl,λe=>e.elim h2 (acK)⟩
  ·exact⟨h3,.inl h4,λe=>e.elim h5 (acL hx)⟩
def DB (h:toks n=P++(6+x)::Q) (hx:x<6):(mn P).Perm (x::mn (P++[6+x])):=by
 have h1:x∉mn (P++[6+x]):=λhm=>by rw[oK]at hm;exact hm.2.2 (dS _ ay)
 have h2:x∈P:=by rw[oJ h];have:=BF (n:=n) hx;unfold BG;rw[Hm,xE hx];exact acM hx this
 have h3:6+x∉P:=λhm=>by rw[oJ h]at hm;exact mZ hm.2
 refine(kJ (rk _) (fE.mpr ⟨h1,rk _⟩)).mpr λy=> ?_;rw[aH,oK,oK];simp only[cb,aC];constructor
 ·rintro⟨h4,h5,h6⟩;by_cases e:y=x
  ·exact .inl e
  ·exact .inr ⟨h4,.inl h5,λh=>h.elim h6 (acN e)⟩
 ·rintro(rfl|⟨h4,h5,h6⟩)
  ·exact⟨hx,h2,h3⟩
  ·exact⟨h4,h5.elim id λe=>absurd (e▸h4) (dE (bh ..)),λe=>h6 (.inl e)⟩
def QV (n:NN):mn (toks n)=[]:=by rw[nI];intro y hy;rw[oK,gk,gk]at hy;exact acO hy
def inc (n:NN) (x y:Nat):Prop:=rel n x y=false/\rel n y x=false
def LM (hx:x<6) (hy:y<6):inc n x y↔bg n y<=en n x/\bg n x<=en n y:=by unfold inc;rw[rX hx hy,rX hy hx,decide_eq_false_iff_not,decide_eq_false_iff_not];simp
def xF (h:inc n x y):inc n y x:=⟨h.2,h.1⟩
def Ac (hx:x<6) (h:y∈vq n x):inc n y x:=by rw[jZ]at h;rw[LM h.1 hx];exact⟨h.2.2,aA (QU h.1 hx h.2.1) (BF hx)⟩
def BJ (hx:x<6) (hy:y<6) (h:inc n x y) (hb:BG n x y):x∈vq n y:=by rw[LM hx hy]at h;exact jZ.mpr ⟨hx,hb,h.1⟩
def Ho (hx:x<6) (hy:y∈vq n x) (hz:z∈vq n x) (hb:BG n y z):y∈vq n z:=by rw[jZ]at hy hz⊢;exact⟨hy.1,hb,aA (QU hz.1 hx hz.2.1) hy.2.2⟩
def UT {A:Nz}:A≠ []->∃x∈A,∀y∈A,y≠x->BG n y x:=by
 induction A with
 |nil=>intro h;exact absurd rfl h
 |cons a A ih=>
  intro _;by_cases e:A=[]
  ·subst e;exact⟨a,ay,λy hy h=>absurd (aC.mp hy) h⟩
  ·let ⟨x,hx,h⟩:=ih e;by_cases hb:BG n x a
   ·refine⟨a,ay,λy hy hn=> ?_⟩;rcases aH.mp hy with rfl|hy
    ·exact absurd rfl hn
    ·by_cases e2:y=x
     ·exact e2▸hb
     ·have:=h y hy e2;unfold BG at this hb⊢;exact acP this hb
   ·refine⟨x,aK _ hx,λy hy hn=> ?_⟩;rcases aH.mp hy with rfl|hy
    ·exact(yt hn).resolve_right hb
    ·exact h y hy hn
def Ff (n:NN) (A:Nz):Prop:=A.Pairwise λx y=>inc n x y
def UU {A:Nz} (h6:∀x∈A,x<6) (hn:A.Nodup) (ha:∀x∈A,∀y∈A,x≠y->inc n x y) (hd:∀x,x<6-> ↑(vq n x)+1<=d): ↑A<=d:=by
 by_cases e:A=[]
 ·subst e;exact cI _
 ·let ⟨x,hx,h⟩:=UT (n:=n) e;have:=fq hn (l₂:=x::vq n x) λy hy=>by
   by_cases e:y=x
   ·exact e▸ay
   ·exact aK _ (BJ (h6 y hy) (h6 x hx) (ha y hy x hx e) (h y hy e))
  have:=hd x (h6 x hx);rw[az]at*;exact aA ‹_› ‹_›
def qt (n:NN) (W:LN) (x:Nat):List (List Nat):=W++(W.filter λA=>A.all λy=> !(rel n x y||rel n y x)).map (· ++[x])
def Ni (R:Nz):∀(D:Nz) (W:LN),(D++R).Nodup->(∀A∈W,A.Sublist D/\Ff n A)->(∀A:List Nat,A.Sublist D->Ff n A->A∈W)->
  (∀A∈R.foldl (qt n) W,A.Sublist (D++R)/\Ff n A)/\∀A:List Nat,A.Sublist (D++R)->Ff n A->A∈R.foldl (qt n) W:=by
 induction R with
 |nil=>intro D W _ h1 h2;rw[bu];exact⟨h1,h2⟩
 |cons x R ih=>
  intro D W hn h1 h2;rw[(by simp:D++x::R=(D++[x])++R)]at hn⊢;refine ih (D++[x]) (qt n W x) hn ?_ ?_
  ·intro A hA;rcases cb.mp hA with hA|hA
   ·exact⟨(h1 A hA).1.trans (List.sublist_append_left _ _),(h1 A hA).2⟩
   ·let ⟨B,hB,rfl⟩:=aQ.mp hA;rw[aY,fI]at hB;refine⟨(h1 B hB.1).1.append (FR _),ib.mpr ⟨(h1 B hB.1).2,List.pairwise_singleton _ _,λa ha b hb=> ?_⟩⟩;rw[aC.mp hb];have:=hB.2 a ha;simp only[jl,vB]at this;exact⟨this.2,this.1⟩
  ·intro A hs ha;rcases List.sublist_append_iff.mp hs with⟨B,C,rfl,hB,hC⟩;unfold qt;rw[cb];have hC':C=[]\/C=[x]:=by
    cases hC with
    |cons _ h=>exact .inl (Ao.mp h)
    |cons_cons _ h=>exact .inr (by rw[Ao.mp h])
   rcases hC' with rfl|rfl
   ·rw[bu]at ha⊢;exact .inl (h2 B hB ha)
   ·apply Or.inr;rw[Ff,ib]at ha;refine aQ.mpr ⟨B,aY.mpr ⟨h2 B hB ha.1,fI.mpr λy hy=> ?_⟩,rfl⟩;have:=ha.2.2 y hy x ay;simp only[jl,vB];exact⟨this.2,this.1⟩
def ny (n:NN):List (List Nat):=L6.foldl (qt n) [[]]
def Ad (n:NN):(∀A∈ny n,A.Sublist L6/\Ff n A)/\∀A:List Nat,A.Sublist L6->Ff n A->A∈ny n:=by
 refine Ni L6 [] [[]] lj (λA h=> ?_) λA h _=> ?_
 ·rw[aC.mp h];exact⟨FR _,gW⟩
 ·rw[Ao.mp h];exact ay
def LO {A:Nz}:Ff n A->∀x∈A,∀y∈A,x≠y->inc n x y:=by
 induction A with
 |nil=>intro _ _ hx _ _ _;cases hx
 |cons a A ih=>
  intro h x hx y hy e;rw[Ff,ef]at h;rcases aH.mp hx with rfl|hx1<;>rcases aH.mp hy with rfl|hy1
  ·exact absurd rfl e
  ·exact h.1 y hy1
  ·exact xF (h.1 x hx1)
  ·exact ih h.2 x hx1 y hy1 e
def Hp (hf:f<6) (hd:∀x,x<6-> ↑(vq n x)+1<=d) (hfd: ↑(vq n f)+1=d):(∀A∈ny n,↑A<=d)/\∃A∈ny n,↑A=d:=by
 refine⟨λA hA=> ?_,?_⟩
 ·let ⟨h1,h2⟩:=(Ad n).1 A hA;have hn:=h1.nodup lj;exact UU (λx hx=>fY.mp (h1.subset hx)) hn (LO h2) hd
 ·let A:=L6.filter λy=>decide (y=f\/y∈vq n f);have hm:∀y,y∈A↔y=f\/y∈vq n f:=λy=>by show y∈L6.filter _↔_;rw[aY,fY,decide_eq_true_iff];exact⟨λh=>h.2,λh=>⟨h.elim (λe=>e▸hf) λh=>(jZ.mp h).1,h⟩⟩
  have hA:A.Nodup:=lj.filter _;refine⟨A,(Ad n).2 A List.filter_sublist (gK ?_ hA),?_⟩
  ·intro x y hx hy oQ;rcases(hm x).mp hx with rfl|hx<;>rcases(hm y).mp hy with rfl|hy
   ·exact absurd rfl oQ
   ·exact xF (Ac hf hy)
   ·exact Ac hf hx
   ·rcases yt (n:=n) oQ with hb|hb
    ·exact Ac (jZ.mp hy).1 (Ho hf hx hy hb)
    ·exact xF (Ac (jZ.mp hx).1 (Ho hf hy hx hb))
  ·have hn:(f::vq n f).Nodup:=fE.mpr ⟨λh=>mZ (jZ.mp h).2.1,lj.filter _⟩;have:=((kJ hA hn).mpr λy=>by rw[hm,aH]).length_eq;rw[this,az,hfd]
structure Nj (n:NN) (h:NN):Prop where
 le:∀x,x<6->h x<= ↑(vq n x)
 ne:∀x,x<6->∀y∈vq n x,h y≠h x
def Nj.inc (H:Nj n h) (hx:x<6) (hy:y<6) (oQ:x≠y) (hi:inc n x y):h x≠h y:=by
 rcases yt (n:=n) oQ with hb|hb
 ·exact H.ne y hy x (BJ hx hy hi hb)
 ·exact λe=>H.ne x hx y (BJ hy hx (xF hi) hb) e.symm
def Nj.max (H:Nj n h) (hf:f<6) (hd:∀x,x<6-> ↑(vq n x)+1<=d) (hfd: ↑(vq n f)+1=d):(∀x,x<6->h x+1<=d)/\∃x,x<6/\h x+1=d:=by
 have h1:∀x,x<6->h x+1<=d:=λx hx=>by exact aA (Cb (H.le x hx)) (hd x hx)
 refine⟨h1,pL λRZ=> ?_⟩;let ⟨A,hA,hl⟩:=(Hp hf hd hfd).2;let ⟨hs,ha⟩:=(Ad n).1 A hA;have h6:∀x∈A,x<6:=λx hx=>fY.mp (hs.subset hx);have:=fq (gX _ (λ_ _ h=>h) (gK (λhx hy oQ=>H.inc (h6 _ hx) (h6 _ hy) oQ (LO ha _ hx _ hy oQ)) (hs.nodup lj))) (l₂:=cK (d- 1)) λv hv=>by let ⟨x,hx,rfl⟩:=aQ.mp hv;exact dM.mpr (acQ (λe=>RZ ⟨x,h6 x hx,e⟩) (h1 x (h6 x hx)))
 rw[aw,rq,hl]at this;exact acR hfd this
noncomputable def T (l:Nz):Str:=⟨l.toArray⟩
def DC (a b:Nz):T a++T b=T (a++b):=by show(⟨a.toArray++b.toArray⟩:Str)=_;unfold T;simp
def gG (a:Nz): ↑(T a)= ↑a:=by show a.toArray.size=_;simp
def qH (a:Nz):(T a).cps.toList=a:=rfl
def afX (h:T a=T b):a=b:=congrArg (λx:Str=>x.cps.toList) h
def LP (a b:Nz):(T a==T b)=decide (a=b):=by rw[dr,beq_iff_eq,decide_eq_true_iff];exact⟨afX,λh=>h▸rfl⟩
inductive Rp (p:Nz):List Nat->List Nat->Prop
 |nil:Rp p [] []
 |hit {l r:Nz}:Rp p l r->Rp p (p++l) r
 |skip {c:Nat} {l r:Nz}:¬p<+:(c::l)->Rp p l r->Rp p (c::l) (c::r)
def Fg (hp:1<= ↑p):B7 (T l) (T p) ↑(T l) k↔p<+:l.drop k:=by
 unfold B7 Builtin.Str.subAt;rw[gG,gG];have e:((T l).cps.extract k (k+ ↑p)==(T p).cps)=true↔(l.drop k).take ↑p=p:=by rw[beq_iff_eq];unfold T;simp only[Mi];show(l.extract k (k+ ↑p)).toArray=p.toArray↔_;rw[show((l.extract k (k+ ↑p)).toArray=p.toArray)=(l.extract k (k+ ↑p)=p) from Array.mk.injEq _ _];rw[FQ,show k+ ↑p- k= ↑p from bO ..]
 rw[e,List.prefix_iff_eq_take];constructor
 ·exact λh=>h.2.symm
 ·intro h;refine⟨?_,h.symm⟩;have:=congrArg eX h;rw[cF,fH]at this;have q:=this▸Ce ..;exact Nat.add_le_of_le_sub' (ce (Nat.lt_of_sub_pos (a8 hp q))) q
def UV (h:Rp p l r):∀ {X:Nz} {a:Nat},l=X.drop a->(∀k,a<=k->¬p<+:X.drop k)->r=l:=by
 induction h with
 |nil=>exact λ_ _=>rfl
 |hit h ih=>exact λe hn=>absurd (e▸OD _ _) (hn _ (ab _))
 |skip h1 h ih=>intro X a e hn;rw[ih (X:=X) (a:=a+1) (by rw[<- qB,<- e];rfl) λk hk=>hn k (ce ‹_›)]
def afY {p X:Nz} (hp:1<= ↑p) (d:Nat):∀(a:Nat) (r:Nz),(∀k,a<=k->k<a+d->¬p<+:X.drop k)->a+d<= ↑X->Rp p (X.drop a) r->∃r',r=(X.drop a).take d++r'/\Rp p (X.drop (a+d)) r':=by
 induction d with
 |zero=>intro a r _ _ h;exact⟨r,rfl,h⟩
 |succ d ih=>
  intro a r hn hl h;have e:X.drop a=X[a]'(We hl)::X.drop (a+1):=gU (We hl);generalize hL:X.drop a=L at h;induction h with
  |nil=>rw[hL]at e;cases e
  |hit h=>exact absurd (hL▸OD _ _) (hn a (ab _) (XI))
  |skip h1 h=>rw[hL]at e;injection e with e1 e2;subst e2;let ⟨r',h2,h3⟩:=ih (a+1) _ (λk hk xW=>hn k (OZ hk) (acS xW)) (acT hl) h;exact⟨r',by rw[h2];rfl,by rw[show a+(d+1)=a+1+d by exact Ky];exact h3⟩
def afZ {p X:Nz} (hp:1<= ↑p) (hn:p<+:X.drop a) (h:Rp p (X.drop a) r):Rp p (X.drop (a+ ↑p)) r:=by
 generalize hL:X.drop a=L at h;induction h with
 |nil=>rw[hL]at hn;have:=hn.length_le;rw[lW]at this;exact absurd ‹_› (dE ‹_›)
 |hit h=>rw[<- qB,hL,Xr];exact h
 |skip h1 h=>exact absurd (hL▸hn) h1
def BK (X:Nz) (a c:Nat):(nT (T X) a c).cps.toList=(X.drop a).take (c- a):=by unfold nT T;simp only[Mi,FQ]
def QW (hp:1<= ↑p) (Vy:Nz):∀(a f:Nat) (r:Nz),StrLaws.ChainG (T X) (T p) ↑(T X) a Vy f->(∀k,f<=k->¬B7 (T X) (T p) ↑(T X) k)->Rp p (X.drop a) r->
  (Me (T X) ↑p a Vy).flatMap (λs=>s.cps.toList)=r:=by
 induction Vy with
 |nil=>intro a f r h hn hr;have h':f=a:=h;subst h';show(nT (T X) f ↑(T X)).cps.toList++[]=r;rw[bu,BK,gG,UV hr rfl λk hk e=>hn k hk ((Fg hp).mpr e)];rw[eP (by rw[fH];exact ab _)]
 |cons c Vy ih=>intro a f r h hn hr;left;let ⟨h1,h2,h3,h4⟩:=h;let ⟨r',e1,e2⟩:=afY hp (c- a) a r (λk hk xW e=>h3 k hk (acU xW hk) ((Fg hp).mpr e)) (acV h1 (by have:=h2.1;rw[gG,gG]at this;exact this)) hr;right;rw[show a+(c- a)=c by exact Tx h1]at e2;rw[gG]at h4;rw[Me,bJ];rw[ih (c+ ↑p) f r' h4 hn (afZ hp ((Fg hp).mp h2) e2),BK,e1]
def BL (ps:List Str):∀(dA:Array Nat),(ps.foldl (λdA p=>dA++(ah "").cps++p.cps) dA).toList=dA.toList++ps.flatMap λs=>s.cps.toList:=by
 induction ps with
 |nil=>intro dA;simp
 |cons p ps ih=>intro dA;have e:(ah "").cps= #[]:=rfl;rw[jh,ih,e,bJ];simp
def vV (hp:1<= ↑p) (h:Rp p X r):iO (T X) (T p) "" =T r:=by
 let ⟨f,h1,h2⟩:=StrLaws.occ_tight (T X) (T p) (by rw[gG];exact hp);have key:=QW hp _ 0 f r h1 h2 h;unfold iO;have hy:((↑(T p)==0)&&("".length==0))=false:=by rw[gG,show(↑p==0)=false by simp;intro h;subst h;cases hp];rfl
 rw[hy,Bool.or_false];split
 ·rename_i he;rw[To]at he;rw[he]at key;have:(nT (T X) 0 ↑(T X)).cps.toList++[]=r:=key;rw[bu,BK,gG]at this;rw[<- this];congr 1;rw[D5,Nat.sub_zero,List.take_length]
 ·rw[StrLaws.partsBetween_eq,gG];let ⟨q,rs,e⟩:=StrLaws.partsFrom_ne (T X) ↑p 0 (jg (T X) (T p) 0 ↑(T X) (↑(T X)+1));rw[e]at key⊢;unfold Builtin.Str.glued T;congr 1;apply sm.mp;show(rs.foldl _ q.cps).toList=r;rw[BL,<- key,bJ]
def QX (h:c∉A):∃is,jg (T (A++c::B)) (T [c]) 0 ↑(T (A++c::B)) 1= ↑A::is:=by
 have bc:∀k,B7 (T (A++c::B)) (T [c]) ↑(T (A++c::B)) k↔(A++c::B)[k]? =aa c:=λk=>by
  rw[Fg (ab _)];rcases bS k ↑(A++c::B)with hk|hk
  ·rw[gU hk,aq hk,i4];simp[eq_comm]
  ·rw[sS hk,bC hk];simp
 rcases StrLaws.occ_head (T (A++c::B)) (T [c]) 1 (ab _)with⟨_,h2⟩|⟨i,is,h1,h2,h3⟩
 ·exact absurd ((bc ↑A).mpr (by simp)) (h2 ↑A)
 ·refine⟨is,?_⟩;rw[h1];congr 1;rcases eH i ↑A with hi|hi|hi
  ·rw[bc,aW hi]at h2;exact absurd (bo h2) h
  ·exact hi
  ·exact absurd ((bc ↑A).mpr (by simp)) (h3 ↑A hi)
def Jr (u:Nz):Prop:=(∃c,c≠92/\u=[c])\/∃c,u=[92,c]
noncomputable def mo:Nat->List (List Nat)->List (Nat×Str)
 |_,[]=>[]
 |i,u::us=>(i+ ↑u- 1,T u)::mo (i+ ↑u) us
def af0:zX=T [92]:=rfl
def QY (c:Nat):((⟨#[c]⟩:Str)==zX)=decide (c=92):=by rw[af0,show(⟨#[c]⟩:Str)=T [c] from rfl,LP];simp
def BM (us:LN):∀(i:Nat) (rest:Nz),(∀u∈us,Jr u)->iX i false (us.flatten++rest)=mo i us++iX (i+ ↑us.flatten) false rest:=by
 induction us with
 |nil=>intro i rest _;exact rfl
 |cons u us ih=>
  intro i rest h;have ih:=λi=>ih i rest λv hv=>h v (aK _ hv);rcases h u ay with⟨c,hc,rfl⟩|⟨c,rfl⟩
  ·show iX i false (c::(us.flatten++rest))=(i,T [c])::(mo (i+1) us++iX (i+ ↑([c]++us.flatten)) false rest);rw[ED,QY,decide_eq_false hc,if_neg ∅,ih];rw[show i+ ↑([c]++us.flatten)=i+1+ ↑us.flatten by simp;exact Ky];rfl
  ·show iX i false (92::c::(us.flatten++rest))=(i+1,T [92,c])::(mo (i+2) us++iX (i+ ↑([92,c]++us.flatten)) false rest);rw[ED,QY,decide_eq_true rfl,if_pos rfl,PJ,ih];rw[show i+ ↑([92,c]++us.flatten)=i+1+1+ ↑us.flatten by simp;exact acW];rfl
def QZ (us:LN) (h:∀u∈us,Jr u):iX 0 false us.flatten=mo 0 us:=by have:=BM us 0 [] h;rw[bu]at this;rw[this];show mo 0 us++[]=_;rw[bu]
def Fh (h:f st= ~~~(.str (T us.flatten))) (hu:∀u∈us,Jr u) (ha:∀c∈us.flatten,c<128):zB f st=aa ((mo 0 us).map lR):=by unfold zB;rw[h];show(if (T us.flatten).cps.all (· <128)=true then aa ((iX 0 false (T us.flatten).cps.toList).map lR) else ac)=_;rw[if_pos,qH,QZ us hu];rw[yM];intro c hc;exact decide_eq_true (ha c ((qH us.flatten)▸(Xw.mp hc)))
noncomputable def gD:Option (List (List Nat))->List (List Nat)->List (List Nat)
 |none,[]=>[]
 |some k,[]=>k
 |none,u::us=>if u=[34] then gD (aa [[34]]) us else u::gD ac us
 |some k,u::us=>if u=[34] then gD ac us else gD (aa (k++[u])) us
def xG (a:Nz) (s:Nat) (o:Option Nat) (res:LN) (v w:OV):St:=
 ⟨[~~~(.str (T a)),~~~(.int (s:Nat)),~~~(match o with|none=>PV.none|some p=> .int (p:Nat)),aa (.ob 0),v,w],[],[.list (res.map λr=> .str (T r))]⟩
def YI {i j:Nat} (h1:i<=j) (h2:j<= ↑a):lm (T a) (aa (i:Int)) (aa (j:Int))=T ((a.drop i).take (j- i)):=by have:=PyProof.Rows.slice_closesL (x:=T a) (i:=(i:Int)) (j:=(j:Int)) (F8) (Aw h1) (by rw[gG];exact Aw h2);rw[OH this];show T _=_;erw [qH,rA,show((j:Int)- (i:Int)).toNat=j- i by exact acX]
def YJ {i:Nat} (h1:i<= ↑a):lm (T a) (aa (i:Int)) ac=T (a.drop i):=by have:=PyProof.Rows.slice_from_eq (x:=T a) (i:=(i:Int)) (b:=(↑a:Int)) (F8) (by rw[gG];exact Aw h1) (by rw[gG]);rw[this];show T _=_;erw [qH,rA,eP];rw[fH];exact acY
def Q0 {j:Nat} (h2:j<= ↑a):lm (T a) ac (aa (j:Int))=T (a.take j):=by have:=PyProof.Rows.slice_closes_to (x:=T a) (j:=(j:Int)) ⟨by exact F8,by rw[qH];exact Aw h2⟩;rw[OH this];show T _=_;rw[qH,show((0:Int)).toNat=0 from rfl,show((j:Int)- 0).toNat=j by exact acZ,D5]
def Js (st:St) (x:Str) (lo hi:Option Int) (h: ↑x<=10000):pf st (.pv (.str x)) lo hi ac=aa (.str (lm x lo hi)):=by show(if (ac:Option Int)=ac/\ ↑x<=sizeLine then aa (PV.str (lm x lo hi)) else ac).or _=_;rw[if_pos ⟨rfl,by exact KE h rfl⟩];rfl
def uF {lo hi:St->Option (Option Int)} (h:f st= ~~~(.str x)) (h1:lo st=aa i) (h2:hi st=aa j) (hl: ↑x<=10000):fN f lo hi eD st= ~~~(.str (lm x i j)):=by unfold fN;rw[h,h1,h2];show(pf st (.pv (.str x)) i j ac).map CV.pv=_;rw[Js _ _ _ _ hl];rfl
def BN (ls:LN):(ls.map T).flatMap (λs=>s.cps.toList)=ls.flatten:=by rw[iR];show ls.flatMap id=_;simp
def Nk:∀ls:List (List Nat),zJ (ah "") (ls.map T)=T ls.flatten
 | []=>rfl
 |l::ls=>by show(⟨(ls.map T).foldl (λdA p=>dA++(ah "").cps++p.cps) (T l).cps⟩:Str)=_;unfold T;congr 1;apply sm.mp;rw[BL];show l++(ls.map T).flatMap (λs=>s.cps.toList)=l++ls.flatten;rw[BN]
def Hq (ls:LN) (h: ↑ls.flatten<=10000):FJ "" (ls.map T)=true:=by
 have e:∀(ps:List Str) (m:Nat),ps.foldl (λ(x:Nat) (p:Str)=>x+ ↑p+ "".length) m=m+ ↑(ps.flatMap λs=>s.cps.toList):=by
  intro ps;induction ps with
  |nil=>intro m;rfl
  |cons p ps ih=>intro m;have: ↑p.cps.toList= ↑p:=bx;rw[jh,ih,(rfl: "".length=0),bJ,aj];exact ac0 this
 unfold FJ cw;rw[List.foldl_toArray,e,BN];rw[jl,decide_eq_false_iff_not];exact ac1 rfl h
def isStr (st:St) (u v:Nz) (c:Str) (hc:c=T v):sZ st .Eq (.pv (.str (T u))) (.pv (.str c))=aa (decide (u=v)):=by show aa (T u==c)=_;rw[hc,LP]
abbrev lI:St->Option (pn×St):=aB (jA (bY .Eq (ak 5) ↥"\"") (aB (jA (bY .Is (ak 2) (jb PV.none)) (aB (bZ (ak 4) (bf 2)) br) (aB (jA (bY .NotEq (ak 1) (ak 2)) (aB (oA gZ (ak 3) (au (fN (ak 0) (gV (ak 1)) (gV (ak 2)) eD) aZ)) br) br) (aB (bZ (ba .Add (ak 4) ⇑1) (bf 1)) (aB (bZ (jb PV.none) (bf 2)) br)))) br) br) br
def Hr (hu:u≠ [34]):lI (xG a s o res (~~~(.int (i:Nat))) (~~~(.str (T u))))=aa (.next,xG a s o res (~~~(.int (i:Nat))) (~~~(.str (T u)))):=
 dw (by rw[jX ((fT rfl rfl (isStr _ u [34] _ rfl)).trans (by rw[decide_eq_false hu]))];rfl)
def Jt:lI (xG a s ac res (~~~(.int (i:Nat))) (~~~(.str (T [34]))))=aa (.next,xG a s (aa i) res (~~~(.int (i:Nat))) (~~~(.str (T [34])))):=rfl
def YK (st:St) (i:Nat):Mv st .Add (.pv (.int (i:Nat))) (.pv (.int 1))=aa (.int ((i+1:Nat):Int)):=tM st i 1
def Hs (h1:s<=p) (h2:p<= ↑a) (hl: ↑a<=10000) (hr: ↑res<10000):
  ∃uW:List (List Nat),↑uW<= ↑res+1/\uW.flatten=res.flatten++(a.drop s).take (p- s)/\lI (xG a s (aa p) res (~~~(.int (i:Nat))) (~~~(.str (T [34]))))=aa (.next,xG a (i+1) ac uW (~~~(.int (i:Nat))) (~~~(.str (T [34])))):=by
 have hc:bY .NotEq (ak 1) (ak 2) (xG a s (aa p) res (~~~(.int (i:Nat))) (~~~(.str (T [34]))))=aa (decide (s≠p)):=by show aa ((s:Int) != (p:Int))=_;congr 1;rw[dr,bne_iff_ne,decide_eq_true_iff];exact ac2
 have fin:∀uW:List (List Nat),jA (bY .NotEq (ak 1) (ak 2)) (aB (oA gZ (ak 3) (au (fN (ak 0) (gV (ak 1)) (gV (ak 2)) eD) aZ)) br) br (xG a s (aa p) res (~~~(.int (i:Nat))) (~~~(.str (T [34]))))=aa (.next,xG a s (aa p) uW (~~~(.int (i:Nat))) (~~~(.str (T [34]))))->
   lI (xG a s (aa p) res (~~~(.int (i:Nat))) (~~~(.str (T [34]))))=aa (.next,xG a (i+1) ac uW (~~~(.int (i:Nat))) (~~~(.str (T [34])))):=by
  intro uW h;refine dw ?_;rw[tN (by rfl)];refine dw ?_;rw[jX (by rfl),aU h];unfold bZ;rw[aU (st1:=xG a (i+1) (aa p) uW (~~~(.int (i:Nat))) (~~~(.str (T [34])))) (by rw[dq rfl rfl (YK _ i)];rfl)];rfl
 by_cases e:s=p
 ·subst e;refine⟨res,by exact F7,by simp,fin res ?_⟩;rw[jX (hc.trans (by simp))];rfl
 ·refine⟨res++[(a.drop s).take (p- s)],by simp,by simp,fin _ ?_⟩;rw[tN (hc.trans (by rw[decide_eq_true e]))];refine dw ?_;rw[uD (j:=0) (l:=res.map λr=> .str (T r)) rfl (bz (uF (i:=aa (s:Int)) (j:=aa (p:Int)) rfl rfl rfl (by rw[gG];exact hl)) rfl) rfl rfl (pC (by rw[aw];exact Wf hr))];rw[YI h1 h2];unfold xG;rw[bH];rfl
def ajs (a:Nz) (s i:Nat) (pd:Nz):Option (Nat×List (List Nat))->Prop
 |none=>s<=i/\pd=(a.drop s).take (i- s)
 |some q=>s<=q.1/\q.1<=i/\pd=(a.drop s).take (q.1- s)/\q.2.flatten=(a.drop q.1).take (i- q.1)
def tR (a:Nz) (r:Option (pn×St)) (t:Nz):Prop:=∃s o res v w,r=aa (.next,xG a s o res v w)/\s<= ↑a/\ ↑res<10000/\res.flatten++a.drop s=t
def DD {a u r:Nz} (hs:s<=i) (h:a.drop i=u++r):(a.drop s).take (i+ ↑u- s)=(a.drop s).take (i- s)++u:=by
 have e:a.drop s=(a.drop s).take (i- s)++(u++r):=by rw[<- h];conv=>lhs;rw[<- nE (i- s) (a.drop s)];rw[qB,show s+(i- s)=i by exact Tx hs]
 have hl: ↑((a.drop s).take (i- s))=i- s\/u=[]:=by
  rcases bS ↑a i with(h3|h3)
  ·rw[sS (KD h3)]at h;exact .inr (List.append_eq_nil_iff.mp h.symm).1
  ·apply Or.inl;rw[cF,fH];exact ac3 h3
 rcases hl with(hl|rfl)
 ·conv=>lhs;rw[e]
  rw[<- bF,List.take_append_of_le_length (by rw[aj,hl];exact ac4),eP (by rw[aj,hl];exact ac5 hs)]
 ·simp
def Ju (hl: ↑a<=10000) (us:LN):∀(i s:Nat) (q:Option (Nat×List (List Nat))) (pd:Nz) (res:LN) (v w:OV),a.drop i=us.flatten->i+ ↑us.flatten= ↑a->ajs a s i pd q-> ↑res+ ↑us<10000->
  tR a (lP (pV (eT (bf 4) (eT (bf 5) pU))) lI ((mo i us).map lR) (xG a s (q.map (·.1)) res v w)) (res.flatten++pd++(gD (q.map (·.2)) us).flatten):=by
 induction us with
 |nil=>
  intro i s q pd res v w hd hi hp hr;obtain rfl:i= ↑a:=hi;induction q with
  |none=>let ⟨h1,rfl⟩:=hp;exact⟨s,ac,res,v,w,rfl,h1,hr,by rw[eP (by rw[fH];exact Wg)];exact(bu _).symm⟩
  |some q=>let ⟨h1,h2,rfl,h3⟩:=hp;refine⟨s,aa q.1,res,v,w,rfl,aA h1 h2,hr,?_⟩;show _=_++_++q.2.flatten;rw[h3,eP (l:=a.drop q.1) (by rw[fH];exact Wg),bF];conv=>lhs;rw[<- nE (q.1- s) (a.drop s)];rw[qB,show s+(q.1- s)=q.1 by exact Tx h1]
 |cons u us ih=>
  intro i s q pd res v w hd hi hp hr;rw[fQ]at hd;rw[fQ,aj]at hi;rw[az]at hr;have Aj:a.drop (i+ ↑u)=us.flatten:=by rw[<- qB,hd,Xr]
  have step:∀s1 o1 SH t,lI (xG a s (q.map (·.1)) res (~~~(.int (i+ ↑u- 1:Nat))) (~~~(.str (T u))))=aa (.next,xG a s1 o1 SH (~~~(.int (i+ ↑u- 1:Nat))) (~~~(.str (T u))))->
    tR a (lP (pV (eT (bf 4) (eT (bf 5) pU))) lI ((mo (i+ ↑u) us).map lR) (xG a s1 o1 SH (~~~(.int (i+ ↑u- 1:Nat))) (~~~(.str (T u))))) t->
    tR a (lP (pV (eT (bf 4) (eT (bf 5) pU))) lI ((mo i (u::us)).map lR) (xG a s (q.map (·.1)) res v w)) t:=λs1 o1 SH t h k=>
   (iE (tg:=pV (eT (bf 4) (eT (bf 5) pU))) (st:=xG a s (q.map (·.1)) res v w) (st1:=xG a s (q.map (·.1)) res (~~~(.int (i+ ↑u- 1:Nat))) (~~~(.str (T u)))) rfl h:lP _ _ (lR (i+ ↑u- 1,T u)::(mo (i+ ↑u) us).map lR) _=_)▸k
  by_cases hu:u=[34]
  ·subst hu;induction q with
   |none=>exact step _ _ _ _ Jt (ih (i+1) s (aa (i,[[34]])) pd res _ _ Aj ((iP ..).trans hi) ⟨hp.1,by exact F7,hp.2,by rw[hd,show i+1- i=1 by exact ac6];rfl⟩ (O0 hr))
   |some q=>let ⟨SH,hr1,hr2,hs⟩:=Hs (a:=a) (s:=s) (p:=q.1) (i:=i) (res:=res) hp.1 (ac7 hp.2.1 hi) hl (ac8 hr);have k:=ih (i+1) (i+1) ac [] SH (~~~(.int (i:Nat))) (~~~(.str (T [34]))) Aj ((iP ..).trans hi) ⟨ab _,by rw[dc];rfl⟩ (ac9 hr1 hr);rw[hr2,<- hp.2.2.1,bu]at k;exact step _ _ _ _ hs k
  ·refine step _ _ _ _ (Hr hu) ?_;induction q with
   |none=>have k:=ih (i+ ↑u) s ac _ res (~~~(.int (i+ ↑u- 1:Nat))) (~~~(.str (T u))) Aj (Wh hi) ⟨by exact Ml hp.1,rfl⟩ (O0 hr);rw[DD hp.1 hd,<- hp.2]at k;show tR a _ (_++(if u=[34] then gD (aa [[34]]) us else u::gD ac us).flatten);rw[if_neg hu,fQ,<- bF,bF res.flatten];exact k
   |some q=>show tR a _ (_++(if u=[34] then gD ac us else gD (aa (q.2++[u])) us).flatten);rw[if_neg hu];exact ih (i+ ↑u) s (aa (q.1,q.2++[u])) pd res (~~~(.int (i+ ↑u- 1:Nat))) (~~~(.str (T u))) Aj (Wh hi) ⟨hp.1,by exact Ml hp.2.1,hp.2.2.1,by rw[DD hp.2.1 hd,<- hp.2.2.2];simp⟩ (O0 hr)
def BO (st:St) (x:Str) (h: ↑x<=10000):kr st [.pv (.str x)]= ~~~(.int (↑x:Nat)):=by show(if ↑x<=sizeLine then aa (CV.pv (.int ↑x)) else ac)=_;rw[if_pos (KE h rfl)]
def UW (us:LN):∀ok:Option (List (List Nat)),(gD ok us).flatten.length<=(ok.getD []).flatten.length+ ↑us.flatten:=by
 induction us with
 |nil=>
  intro ok;induction ok with
  |none=>exact cI _
  |some k=>exact ab _
 |cons u us ih=>
  intro ok;rw[fQ,aj];induction ok with
  |none=>
   show(if u=[34] then gD (aa [[34]]) us else u::gD ac us).flatten.length<=_;by_cases h:u=[34]
   ·rw[if_pos h,h];exact aA (ih _) (fg (qj _).symm)
   ·rw[if_neg h,fQ,aj];have q:=dX (ih ac) ↑u;exact aA q (fg (Nat.add_left_comm ..))
  |some k=>
   show(if u=[34] then gD ac us else gD (aa (k++[u])) us).flatten.length<=_;by_cases h:u=[34]
   ·rw[if_pos h];exact aA (ih ac) (gb (cI _) (gn ..))
   ·rw[if_neg h];refine aA (ih _) (fg ?_);show(k++[u]).flatten.length+_= ↑k.flatten+_;rw[dz,aj,iP];exact congrArg (λz=> ↑k.flatten+(z+ ↑us.flatten)) (congrArg eX (bu u))
def DE:∀us:List (List Nat),[34] ∉us->gD ac us=us:=by
 intro l9;induction l9 with
 |nil=>intro _;exact rfl
 |cons u us ih=>intro h;show(if u=[34] then gD (aa [[34]]) us else u::gD ac us)=_;rw[if_neg (λe=>h (e▸ay):u≠ [34]),ih λe=>h (aK _ e)]
def oM (x:Str) (c:Nat):eS x ⟨#[c]⟩=decide (c∈x.cps.toList):=StrLaws.found_one x c
def BP (hu:∀u∈us,Jr u) (ha:∀c∈us.flatten,c<128) (hl: ↑us.flatten<=9000) (hn: ↑us<=9000):dW [.str (T us.flatten)]=aa (.str (T (gD ac us).flatten)):=by
 have h0:bY .NotIn ↥"\"" (ak 0) (Dh [.str (T us.flatten)] [ah "start",ah "open_pos",ah "result",ah "pos",ah "ch"])=aa (!decide (34∈us.flatten)):=by show aa (!eS (T us.flatten) ⟨#[34]⟩)=_;rw[oM,qH]
 show(gL (Dh [.str (T us.flatten)] [ah "start",ah "open_pos",ah "result",ah "pos",ah "ch"])).bind (λr=>Gy r.2 r.1)=_;unfold gL;by_cases hm:34∈us.flatten
 ·rw[aU (st1:=Dh [.str (T us.flatten)] [ah "start",ah "open_pos",ah "result",ah "pos",ah "ch"]) (by rw[jX (h0.trans (by rw[decide_eq_true hm];rfl))];rfl)];rw[aU (f:=bZ ⇑0 (bf 1)) (st1:=⟨[~~~(.str (T us.flatten)),~~~(.int 0),ac,ac,ac,ac],[],[]⟩) rfl];rw[aU (f:=bZ (jb PV.none) (bf 2)) (st1:=⟨[~~~(.str (T us.flatten)),~~~(.int 0),~~~PV.none,ac,ac,ac],[],[]⟩) rfl];rw[aU (f:=Cx (.list []) (bf 3)) (st1:=xG us.flatten 0 ac [] ac ac) rfl];left;let ⟨s',o',uW,v',w',e1,e2,e3,e4⟩:=Ju (a:=us.flatten) (O1 hl) us 0 0 ac [] [] ac ac rfl (ada) ⟨ab _,rfl⟩ (by simp;exact adb hn);right;rw[aU (f:=mK _ _ _) (st1:=xG us.flatten s' o' uW v' w') (by rw[jY (Fh (us:=us) rfl hu ha)];exact e1)];have kX:bY .Lt (ak 1) (dJ kr (au (ak 0) aZ)) (xG us.flatten s' o' uW v' w')=aa (decide (s'< ↑us.flatten)):=by have hs:sizeLine=2 ^ 24:=rfl;refine fT rfl (iL (bz rfl rfl) (BO _ _ (by rw[gG];exact O1 hl))) ?_;rw[gG];show aa (decide ((s':Int)< (↑us.flatten:Int)))=_;congr 2;exact propext cM
  have fin:∀zq:List (List Nat),zq.flatten=(gD ac us).flatten->jA (bY .Lt (ak 1) (dJ kr (au (ak 0) aZ))) (aB (oA gZ (ak 3) (au (fN (ak 0) (gV (ak 1)) eD eD) aZ)) br) br (xG us.flatten s' o' uW v' w')=aa (.next,xG us.flatten s' o' zq v' w')->
    ((aB (jA (bY .Lt (ak 1) (dJ kr (au (ak 0) aZ))) (aB (oA gZ (ak 3) (au (fN (ak 0) (gV (ak 1)) eD eD) aZ)) br) br) (aB (i7 (eQ "str" AQ ↥"" (au (ak 3) aZ))) br)) (xG us.flatten s' o' uW v' w')).bind (λr=>Gy r.2 r.1)=aa (.str (T (gD ac us).flatten)):=by
   intro zq h1 h2;rw[aU h2];have hj:eQ "str" AQ ↥"" (au (ak 3) aZ) (xG us.flatten s' o' zq v' w')= ~~~(.str (T (gD ac us).flatten)):=by refine pD (o:= .pv (.str "")) (ds:=[.ob 0]) rfl rfl rfl ?_;show((aa (zq.map λr=>PV.str (T r))).bind λl=>(ya l).bind λns=>if FJ "" ns then aa (CV.pv (.str (zJ "" ns))) else ac)=_;rw[bK,show(zq.map λr=>PV.str (T r))=(zq.map T).map PV.str by rw[bD];rfl,IP,bK,if_pos (Hq zq ?_),Nk,h1];rw[h1];exact ade (UW us ac) hl
   unfold aB i7;rw[hj];rfl
  by_cases qd:s'< ↑us.flatten
  ·refine fin (uW++[us.flatten.drop s']) (by rw[dz];simpa using e4) ?_;rw[tN (kX.trans (by rw[decide_eq_true qd]))];refine dw ?_;rw[uD (j:=0) (l:=uW.map λr=> .str (T r)) rfl (bz (uF (i:=aa (s':Int)) (j:=ac) rfl rfl rfl (by rw[gG];exact O1 hl)) rfl) rfl rfl (pC (by rw[aw];exact Wf e3))];rw[YJ (KD qd)];unfold xG;rw[bH];rfl
  ·refine fin uW ?_ ?_
   ·have:us.flatten.drop s'=[]:=sS (V4 qd);rw[this]at e4;simpa using e4
   ·rw[jX (kX.trans (by rw[decide_eq_false qd]))];rfl
 ·have hf:gD ac us=us:=DE us λh=>hm (nG.mpr ⟨[34],h,ay⟩);unfold aB;rw[tN (h0.trans (by rw[decide_eq_false hm];rfl)),hf];rfl
noncomputable def uG:Nat->List (List Nat)->Option Nat
 |o,[]=>aa o
 |o,u::us=>if u=[40] then uG (o+1) us else if u=[41] then(if o=0 then ac else uG (o- 1) us) else uG o us
def Q1:uG o (u::us)=if u=[40] then uG (o+1) us else if u=[41] then(if o=0 then ac else uG (o- 1) us) else uG o us:=rfl
def stC (a:Nz) (o:Int) (v w:OV):St:=⟨[~~~(.str (T a)),~~~(.int o),v,w],[],[]⟩
abbrev xH:St->Option (pn×St):=aB (jA (bY .Eq (ak 3) ↥"(") (aB (IT .Add 1 ⇑1) br) (aB (jA (bY .Eq (ak 3) ↥")") (aB (IT .Sub 1 ⇑1) (aB (jA (bY .Lt (ak 1) ⇑0) (aB (i7 (jb (PV.bool false))) br) br) br)) br) br)) br
def Q2 (h1:tg (.pv x) st=aa st1) (h2:body st1=aa (.ret v,st2)):lP tg body (x::xs) st=aa (.ret v,st2):=by rw[IR,h1];show(body st1).bind _=_;rw[h2];rfl
def Q3 (a:Nz) (us:LN):∀(i o:Nat) (v w:OV),
  (uG o us=ac->∃cg,lP (pV (eT (bf 2) (eT (bf 3) pU))) xH ((mo i us).map lR) (stC a o v w)=aa (.ret (.pv (PV.bool false)),cg))/\
  ∀o',uG o us=aa o'->∃v' w',lP (pV (eT (bf 2) (eT (bf 3) pU))) xH ((mo i us).map lR) (stC a o v w)=aa (.next,stC a o' v' w'):=by
 induction us with
 |nil=>intro i o v w;exact⟨λh=>(nomatch h),λo' h=>(by obtain rfl:=ag h;exact⟨v,w,rfl⟩)⟩
 |cons u us ih=>
  intro i o v w;have hl:(mo i (u::us)).map lR=lR (i+ ↑u- 1,T u)::(mo (i+ ↑u) us).map lR:=rfl;let stU:St:=stC a o (~~~(.int (i+ ↑u- 1:Nat))) (~~~(.str (T u)));have c1:bY .Eq (ak 3) ↥"(" stU=aa (decide (u=[40])):=fT rfl rfl (isStr _ u [40] _ rfl);have c2:bY .Eq (ak 3) ↥")" stU=aa (decide (u=[41])):=fT rfl rfl (isStr _ u [41] _ rfl);have step:∀o1:Nat,xH stU=aa (.next,stC a o1 (~~~(.int (i+ ↑u- 1:Nat))) (~~~(.str (T u))))->lP (pV (eT (bf 2) (eT (bf 3) pU))) xH ((mo i (u::us)).map lR) (stC a o v w)=lP (pV (eT (bf 2) (eT (bf 3) pU))) xH ((mo (i+ ↑u) us).map lR) (stC a o1 (~~~(.int (i+ ↑u- 1:Nat))) (~~~(.str (T u)))):=λo1 h=>by rw[hl];exact iE (st1:=stU) rfl h
  rw[Q1];by_cases h1:u=[40]
  ·rw[if_pos h1,step (o+1) (dw (by rw[tN (c1.trans (by rw[decide_eq_true h1]))];rfl))];exact ih _ (o+1) _ _
  ·rw[if_neg h1];by_cases h2:u=[41]
   ·rw[if_pos h2];by_cases h3:o=0
    ·rw[if_pos h3];refine⟨λ_=>⟨stC a (-1) (~~~(.int (i+ ↑u- 1:Nat))) (~~~(.str (T u))),?_⟩,λ_ h=>(nomatch h)⟩;rw[hl];refine Q2 (st1:=stU) rfl ?_;subst h3;refine uB ?_;rw[jX (c1.trans (by rw[decide_eq_false h1]))];refine uB ?_;rw[tN (c2.trans (by rw[decide_eq_true h2]))];rfl
    ·rw[if_neg h3,step (o- 1) (dw (by
      rw[jX (c1.trans (by rw[decide_eq_false h1]))];refine dw ?_;rw[tN (c2.trans (by rw[decide_eq_true h2]))];rw[aU (st1:=stC a ((o- 1:Nat):Int) (~~~(.int (i+ ↑u- 1:Nat))) (~~~(.str (T u)))) (by
       rw[show((o- 1:Nat):Int)=(o:Int)- 1 by exact adf h3];rfl)]
      refine dw ?_;rw[jX (show aa (decide (((o- 1:Nat):Int)<0))=aa false by rw[decide_eq_false (adg)])];rfl))]
     exact ih _ (o- 1) _ _
   ·rw[if_neg h2,step o (dw (by
     rw[jX (c1.trans (by rw[decide_eq_false h1]))];refine dw ?_;rw[jX (c2.trans (by rw[decide_eq_false h2]))];rfl))]
    exact ih _ o _ _
def Ht (us:LN):∀(ok:Option (List (List Nat))) (u:Nz),u∈gD ok us->u∈ok.getD []\/u∈us\/u=[34]:=by
 induction us with
 |nil=>
  intro ok u h;induction ok with
  |none=>nomatch h
  |some k=>exact .inl h
 |cons v us ih=>
  intro ok u h;have t:∀ {P:Prop},(u∈us\/u=[34])->P\/u∈v::us\/u=[34]:=λh=> .inr (h.imp_left (aK _));induction ok with
  |none=>
   have h:u∈(if v=[34] then gD (aa [[34]]) us else v::gD ac us):=h;by_cases e:v=[34]
   ·rw[if_pos e]at h;exact(ih _ u h).elim (λh=> .inr (.inr (aC.mp h))) t
   ·rw[if_neg e]at h;exact(aH.mp h).elim (λe=> .inr (.inl (e▸ay))) λh=>(ih _ u h).elim (λh=>nomatch h) t
  |some k=>
   have h:u∈(if v=[34] then gD ac us else gD (aa (k++[v])) us):=h;by_cases e:v=[34]
   ·rw[if_pos e]at h;exact(ih _ u h).elim (λh=>nomatch h) t
   ·rw[if_neg e]at h;exact(ih _ u h).elim (λh=>(cb.mp h).imp_right λh=> .inl (by rw[aC.mp h];exact ay)) t
structure Good (us:LN):Prop where
 unit:∀u∈us,Jr u
 ascii:∀u∈us,∀c∈u,c<128
 size: ↑us.flatten<=9000
 count: ↑us<=9000
def Good.cps (h:Good us):∀c∈us.flatten,c<128:=λc hc=>by let ⟨u,hu,hc⟩:=nG.mp hc;exact h.ascii u hu c hc
def Good.gD (h:Good us):(∀u∈gD ac us,Jr u)/\∀c∈(Mine.gD ac us).flatten,c<128:=by
 refine⟨λu hu=> ?_,λc hc=> ?_⟩
 ·rcases Ht us ac u hu with h1|h1|h1
  ·nomatch h1
  ·exact h.unit u h1
  ·exact h1▸ .inl ⟨34,by decide,rfl⟩
 ·let ⟨u,hu,hc⟩:=nG.mp hc;rcases Ht us ac u hu with h1|h1|h1
  ·nomatch h1
  ·exact h.ascii u h1 c hc
  ·rw[h1]at hc;rw[aC.mp hc];decide
def xI (h:Good us):cZ [.str (T us.flatten)]=aa (PV.bool (uG 0 (gD ac us)==aa 0)):=by
 show(i9 (Dh [.str (T us.flatten)] [ah "opens",ah "pos",ah "ch"])).bind (λr=>Gy r.2 r.1)=_;unfold i9;rw[aU (st1:=⟨[~~~(.str (T (gD ac us).flatten)),ac,ac,ac],[],[]⟩) (by
  unfold bZ;rw[mY (l:=[.pv (.str (T us.flatten))]) rfl rfl (BP h.unit h.cps h.size h.count)];rfl)]
 rw[aU (st1:=stC (gD ac us).flatten ((0:Nat):Int) ac ac) rfl];have hit:zB (ak 0) (stC (gD ac us).flatten ((0:Nat):Int) ac ac)=aa ((mo 0 (gD ac us)).map lR):=Fh rfl h.gD.1 h.gD.2;let ⟨h1,h2⟩:=Q3 (gD ac us).flatten (gD ac us) 0 0 ac ac;cases e:uG 0 (gD ac us)with
 |none=>let ⟨cg,h1⟩:=h1 e;rw[uB (f:=mK _ _ _) (st1:=cg) (v:= .pv (PV.bool false)) (by rw[jY hit];exact h1)];rfl
 |some o=>let ⟨v',w',h2⟩:=h2 o e;rw[aU (f:=mK _ _ _) (st1:=stC (gD ac us).flatten (o:Int) v' w') (by rw[jY hit];exact h2)];show aa (PV.bool ((o:Int)==0))=_;congr 2;rw[dr,beq_iff_eq,beq_iff_eq,u7];simp
noncomputable abbrev Q4:Str:=ah "('', '')"
def CH (r:Str×Bool):PV:= .str (if r.2 then r.1 else Q4)
def YL {rs:List (Str×Bool)} (h:∀r∈rs,cZ [.str r.1]=aa (PV.bool r.2)) (hn: ↑rs<1000):hZ [.lst (rs.map λr=> .str r.1)]=aa (.lst (rs.map CH)):=by
 let Xn (l:List PV) (v:OV):St:=⟨[~~~(.lst (rs.map λr=> .str r.1)),aa (.ob 0),v],[],[.list l]⟩;have loop:∀(qs:List (Str×Bool)) (l:List PV) (v:OV),(∀r∈qs,cZ [.str r.1]=aa (PV.bool r.2))-> ↑l+ ↑qs<1000->∃v',lP (bf 2) (aB (jA (x9 (mw (kb cZ (au (ak 2) aZ)))) (aB (bZ ↥"('', '')" (bf 2)) br) br) (aB (oA gZ (ak 1) (au (ak 2) aZ)) br)) (qs.map λr=> .str r.1) (Xn l v)=aa (.next,Xn (l++qs.map CH) v'):=by
  intro qs;induction qs with
  |nil=>exact λl v _ _=>⟨v,by rw[zw,bu];rfl⟩
  |cons r qs ih=>
   intro l v hq hl;rw[az]at hl;let ⟨v',e⟩:=ih (l++[CH r]) (~~~(CH r)) (λq S7=>hq q (aK _ S7)) (by simp;exact adh hl);refine⟨v',?_⟩;rw[bw,bw,iE (st1:=Xn l (~~~(.str r.1))) (st2:=Xn (l++[CH r]) (~~~(CH r))) rfl ?_,e,bF]
   ·rfl
   ·have hb:x9 (mw (kb cZ (au (ak 2) aZ))) (Xn l (~~~(.str r.1)))=aa (!r.2):=by unfold x9 mw;rw[mY (l:=[.pv (.str r.1)]) rfl rfl (hq r ay)];rfl
    rw[aU (st1:=Xn l (~~~(CH r))) (by
     unfold CH;cases e2:r.2 with
     |true=>rw[jX (hb.trans (by rw[e2];rfl))];rfl
     |false=>rw[tN (hb.trans (by rw[e2];rfl))];rfl)]
    refine dw ?_;rw[uD (j:=0) (l:=l) (ds:=[CH r]) rfl rfl rfl rfl (pC (adi hl))];rfl
 show(hX (Dh [.lst (rs.map λr=> .str r.1)] [ah "accepted_values",ah "v"])).bind (λr=>Gy r.2 r.1)=_;unfold hX;let ⟨v',e⟩:=loop rs [] ac h (by simp;exact adj hn);rw[aU (st1:=Xn [] ac) rfl,aU (f:=mK _ _ _) (st1:=Xn ([]++rs.map CH) v') (by rw[jY (xs:=rs.map λr=> .str r.1) rfl];exact e)];rfl
noncomputable def gI (p:Nat):List (List Nat):=[[],[[92,40]],[[92,41]],[[34],[40],[34]],[[34],[41],[34]],[[92,34]],[[92,92]]].getD p []
noncomputable def xJ (p:Nat):List (List Nat):=[[],[[92,40]],[[92,41]],[],[],[[92,34]],[[92,92]]].getD p []
noncomputable def qI (pc:Nat->List (List Nat)) (c:Nat):List (List Nat):=if c<6 then [40]::[97+c]::pc c else [[65+(c- 6)],[41]]
def unitsOf (n:NN):Nat->List (List Nat):=qI λx=>gI (dP (n x))
def ju (n:NN):Nat->List (List Nat):=qI λx=>xJ (dP (n x))
def n7 (m:Nat):dP m<7:=fP _ ∅
@[elab_as_elim] theorem UX {P:Nat->Prop} (h:k<7) (h0:P 0) (h1:P 1) (h2:P 2) (h3:P 3) (h4:P 4) (h5:P 5) (h6:P 6):P k:=by
 rcases yG (fR h)with h|rfl
 ·exact S5 h h0 h1 h2 h3 h4 h5
 ·exact h6
def Jv (h:p<7) (r:LN):gD ac (gI p++r)=xJ p++gD ac r:=by refine UX h ?_ ?_ ?_ ?_ ?_ ?_ ?_<;>rfl
def oX (h:u≠ [34]):gD ac (u::us)=u::gD ac us:=if_neg h
def Jw (n:NN) (c:Nat) (r:LN):gD ac (unitsOf n c++r)=ju n c++gD ac r:=by
 unfold unitsOf ju qI;split
 ·show gD ac ([40]::[97+c]::(gI (dP (n c))++r))=_;rw[oX ∅,oX (by simp;exact adk),Jv (n7 _)];rfl
 ·show gD ac ([65+(c- 6)]::[41]::r)=_;rw[oX (by simp;exact adl),oX ∅];rfl
def uH (n:NN) (cs:Nz):∀(r:LN),gD ac (cs.flatMap (unitsOf n)++r)=cs.flatMap (ju n)++gD ac r:=by
 induction cs with
 |nil=>intro r;exact rfl
 |cons c cs ih=>intro r;rw[bJ,bF,Jw,ih,bJ,bF]
noncomputable def af1:List Nat->Bool
 | []=>false
 | [a]=>decide (a≠92)&&decide (a<128)
 | [a,b]=>decide (a=92)&&decide (b<128)
 |_::_::_::_=>false
def Q5 (h:af1 u=true):Jr u/\∀c∈u,c<128:=by
 rcases u with _|⟨a,_|⟨b,_|_⟩⟩
 ·exact eV h
 ·let ⟨h1,h2⟩:=dD.mp h;exact⟨.inl ⟨a,of_decide_eq_true h1,rfl⟩,λc hc=>aC.mp hc▸of_decide_eq_true h2⟩
 ·let ⟨h1,h2⟩:=dD.mp h;obtain rfl:=of_decide_eq_true h1;refine⟨.inr ⟨b,rfl⟩,λc hc=> ?_⟩;rcases aH.mp hc with rfl|hc
  ·decide
  ·exact aC.mp hc▸of_decide_eq_true h2
 ·exact eV h
def Nl:((cK 7).all λp=>(gI p).all af1&&decide (↑(gI p)<=3)&&decide ((gI p).flatten.length<=3))=true:=tt
def vW (h:p<7):(∀u∈gI p,Jr u/\∀c∈u,c<128)/\ ↑(gI p)<=3/\(gI p).flatten.length<=3:=by let ⟨k,h3⟩:=dD.mp (fI.mp Nl p (dM.mpr h));let ⟨h1,h2⟩:=dD.mp k;exact⟨λu hu=>Q5 (fI.mp h1 u hu),of_decide_eq_true h2,of_decide_eq_true h3⟩
def Jx (n:NN) (h:c<12):(∀u∈unitsOf n c,Jr u/\∀c∈u,c<128)/\ ↑(unitsOf n c)<=5/\(unitsOf n c).flatten.length<=5:=by
 have one:∀a,a≠92->a<128->Jr [a]/\∀c∈[a],c<128:=λa h1 h2=>⟨.inl ⟨a,h1,rfl⟩,λc hc=>aC.mp hc▸h2⟩;unfold unitsOf qI;split
 ·let ⟨h1,h2,h3⟩:=vW (n7 (n c));refine⟨λu hu=> ?_,by simp;exact Wi h2,by simp at h3⊢;exact Wi h3⟩;rcases aH.mp hu with rfl|hu
  ·exact one 40 ∅ ∅
  ·rcases aH.mp hu with rfl|hu
   ·exact one _ (adm) (adn ‹_›)
   ·exact h1 u hu
 ·refine⟨λu hu=> ?_,by simp,by simp⟩;rcases aH.mp hu with rfl|hu
  ·exact one _ (ado h) (adp h)
  ·exact aC.mp hu▸one 41 ∅ ∅
def uI (n:NN) (cs:Nz):(∀c∈cs,c<12)->(∀u∈cs.flatMap (unitsOf n),Jr u/\∀c∈u,c<128)/\ ↑(cs.flatMap (unitsOf n))<=5* ↑cs/\(cs.flatMap (unitsOf n)).flatten.length<=5* ↑cs:=by
 induction cs with
 |nil=>intro _;exact⟨λu hu=>(by cases hu),cI _,cI _⟩
 |cons c cs ih=>intro h;left;let ⟨a1,a2,a3⟩:=Jx n (h c ay);let ⟨b1,b2,b3⟩:=ih λc hc=>h c (aK _ hc);right;rw[bJ,dz,aj,aj,az];exact⟨λu hu=>(cb.mp hu).elim (a1 u) (b1 u),by exact Wj a2 b2,by exact Wj a3 b3⟩
def rl (n:NN): ↑(toks n)<=12:=by have:=fq (List.Pairwise.imp (R:=BG n) (λ{a b} (h:BG n a b) (e:a=b)=>by subst e;exact mZ h) (BH n 12 (mN n))) (l₂:=cK 12) λc hc=>dM.mpr (gk.mp hc);rw[rq]at this;exact this
def Ae (h:toks n=P++Q) (hr:∀u∈r,Jr u/\∀c∈u,c<128) (hl: ↑r<=100) (hf: ↑r.flatten<=100):Good (P.flatMap (unitsOf n)++r):=by
 let ⟨a1,a2,a3⟩:=uI n P λc hc=>(gk (n:=n)).mp (by rw[h];exact fu _ hc);have:=rl n;rw[h,aj]at this;refine⟨λu hu=> ?_,λu hu=> ?_,by rw[dz,aj];exact Wk a3 hf this,by rw[aj];exact Wk a2 hl this⟩
 ·exact((cb.mp hu).elim (a1 u) (hr u)).1
 ·exact((cb.mp hu).elim (a1 u) (hr u)).2
def Hu (h1:u≠ [40]) (h2:u≠ [41]):uG o (u::us)=uG o us:=by show(if u=[40] then uG (o+1) us else if u=[41] then(if o=0 then ac else uG (o- 1) us) else uG o us)=_;rw[if_neg h1,if_neg h2]
def Q6 (h:p<7) (o:Nat) (us:LN):uG o (xJ p++us)=uG o us:=by refine UX h ?_ ?_ ?_ ?_ ?_ ?_ ?_<;>rfl
def ne1 {a b x:Nat} (h:b<a): [a+x]≠ [b]:=λe=>jV (a8 h (bh a x)) (jJ e).1
def YM (hx:x<6) (o:Nat) (us:LN):uG o (ju n x++us)=uG (o+1) us:=by unfold ju qI;rw[if_pos hx];show uG (o+1) ([97+x]::(xJ (dP (n x))++us))=_;rw[Hu (ne1 ∅) (ne1 ∅),Q6 (n7 _)]
def YN (hx:x<6) (o:Nat) (us:LN):uG (o+1) (ju n (6+x)++us)=uG o us:=by unfold ju qI;rw[if_neg (by simp)];show uG (o+1) ([65+(6+x- 6)]::[41]::us)=_;rw[Hu (ne1 ∅) (ne1 ∅)];rfl
def Hv (M:Nz):∀(P Q:Nz),toks n=P++M++Q->∀us,uG ↑(mn P) (M.flatMap (ju n)++us)=uG ↑(mn (P++M)) us:=by
 induction M with
 |nil=>intro P Q h us;rw[bu];rfl
 |cons c M ih=>
  intro P Q h us;have e1:toks n=P++c::(M++Q):=by rw[h];simp
  rw[bJ,bF,show P++c::M=P++[c]++M by simp,<- (ih (P++[c]) Q (by rw[h];simp) us)];have hc:c<12:=(gk (n:=n)).mp (by rw[e1];exact dS _ ay);rcases bS c 6 with(h6|h6)
  ·rw[YM h6,(BI e1 h6).2.length_eq,az]
  ·obtain⟨x,rfl⟩:∃x,c=6+x:=⟨c- 6,by exact Wl h6⟩;rw[(DB e1 (O2 hc)).length_eq,az,YN (O2 hc)]
def Nm (d:Nat):∀(o:Nat),uG o (bQ d [41])=if d<=o then aa (o- d) else ac:=by
 induction d with
 |zero=>intro o;exact rfl
 |succ d ih=>
  intro o;rw[wl];show(if o=0 then ac else uG (o- 1) (bQ d [41]))=_;by_cases h:o=0
  ·subst h;rfl
  ·rw[if_neg h,ih (o- 1)];by_cases h2:d+1<=o
   ·rw[if_pos h2,if_pos (adq h2)];congr 1;exact ads
   ·rw[if_neg h2,if_neg (adt h2 h)]
def BQ:∀d:Nat,gD ac (bQ d [41])=bQ d [41]:=λd=>DE _ λh=>by have:=F5 h;exact absurd this ∅
abbrev LQ:St->Option (pn×St):=(aB (bZ (A8 false g6 (lA (dJ kr (au (aX 0) aZ))) ⇑1 (KZ (bY .Gt (bk (aX 0) (ak 0)) (ak 0)) ⇑1 ⇑0)) (bf 9)) (aB (zA true (aX 0) (ak 9)) (aB (Ex (kb iw (au (ba .Div (ak 9) ⇑8) (au (ba .Div (ba .Add ⇑1 (ba .Mod (ak 1) ⇑4)) ⇑4) (au (ba .Div (ba .Add ⇑1 (ba .Mod (ba .FloorDiv (ak 1) ⇑4) ⇑8)) ⇑8) aZ)))) (ak 2) (ak 8)) (aB (jA (bY .Gt (ak 4) (ak 5)) (aB (PH 5 6 (ji (lc (ak 4)) (ji (lc (ak 8)) EA))) br) br) br))))
abbrev Q7:St->Option (pn×St):=(aB (bZ (bk (ak 2) (eQ "str" kR (ak 8) aZ)) (pV (eT (bf 10) (eT (bf 11) (eT (bf 12) pU))))) (aB (Ex (ba .Mod (dJ rK (au (ba .Mult (bk (kb i8 (au (ak 10) (au (ak 11) (au (ak 12) aZ)))) ⇑0) ⇑8) aZ)) ⇑8) (ak 3) (eQ "str" kR (ak 8) aZ)) (aB (oA X2 (aX 0) (au (qF false (aX 0) (bk (ak 3) (eQ "str" kR (ak 8) aZ))) aZ)) br)))
abbrev zd:St->Option (pn×St):=(aB (jA (bY .In (ak 8) (jd (au ↥"(" (au ↥")" aZ)))) (aB (IT .Add 4 (KZ (bY .Eq (ak 8) ↥"(") ⇑1 (wL ⇑1))) br) (aB (jA (bY .In (ak 8) ↥"abcdef") LQ (aB (jA (bY .In (ak 8) ↥"ABCDEF") Q7 br) br)) br)) br)
abbrev hTg:CV->St->Option St:=pV (eT (bf 7) (eT (bf 8) pU))
def stH (tx xV:PV) (us:Nz) (kY hu:Sp) (dp de:Int) (fi:Str) (a b c d e f:OV):St:=
 ⟨[~~~tx,~~~xV,aa (.ob 1),aa (.ob 2),~~~(.int dp),~~~(.int de),~~~(.str fi),a,b,c,d,e,f],[aa (.ob 0)],[.list (bM us),.dict kY,.dict hu]⟩
def qu (m f:Nat):PV:=(iw (UM f (m%4) (m/4%8))).getD PV.none
noncomputable def nz:Nat->List Nat->Nat
 |k,[]=>k
 |k,u::us=>if k<u then k else nz (k+1) us
def Jy:nz k (u::us)=if k<u then k else nz (k+1) us:=rfl
noncomputable def xK:Nat->List Nat->List Int
 |_,[]=>[]
 |k,u::us=>(if k<u then 1 else 0)::xK (k+1) us
def rY:xK k (u::us)=(if k<u then 1 else 0)::xK (k+1) us:=rfl
def Nn (us:Nz):∀(k:Nat),us.Pairwise (· < ·)->(∀v∈us,k<v)->∀x∈xK k us,x=1:=by
 induction us with
 |nil=>intro _ _ _ x hx;cases hx
 |cons u us ih=>
  intro k hs h x hx;rw[ef]at hs;have hu:=h u ay;rw[rY,if_pos hu]at hx;rcases aH.mp hx with rfl|hx
  ·rfl
  ·exact ih (k+1) hs.2 (λv hv=>by have:=hs.1 v hv;exact bI ‹_› ‹_›) x hx
def Q8 (us:Nz):∀(k:Nat),∀x∈xK k us,x=0\/x=1:=by
 induction us with
 |nil=>intro _ x hx;cases hx
 |cons u us ih=>
  intro k x hx;rw[rY]at hx;rcases aH.mp hx with rfl|hx
  ·split
   ·exact .inr rfl
   ·exact .inl rfl
  ·exact ih (k+1) x hx
def vX (us:Nz):∀(k:Nat),us.Pairwise (· < ·)->(∀v∈us,k<=v)->
  (xK k us).Pairwise (· <= ·)/\k+ ↑((xK k us).filter (below false 1))=nz k us/\nz k us<=k+ ↑us/\k<=nz k us/\nz k us∉us:=by
 induction us with
 |nil=>intro k _ _;exact⟨gW,rfl,ab _,ab _,λh=>by cases h⟩
 |cons u us ih=>
  intro k hs h;have qd:=ef.mp hs;rw[rY,Jy];by_cases e:k<u
  ·have h1:=Nn us (k+1) qd.2 λv hv=>by have:=qd.1 v hv;exact adu e this
   rw[if_pos e,if_pos e];refine⟨ef.mpr ⟨λx hx=>by rw[h1 x hx];decide,gK (R:=λ_ _=>True) (λ{a b} ha hb _=>by rw[h1 a ha,h1 b hb];decide) (Ij (λ_ _=>trivial))⟩,?_,bh _ _,ab _,λhm=> ?_⟩
   ·rw[cL.mpr]
    ·rfl
    ·intro x hx;rcases aH.mp hx with rfl|hx
     ·decide
     ·rw[h1 x hx];decide
   ·rcases aH.mp hm with rfl|hm
    ·exact aa5 e
    ·have:=qd.1 _ hm;exact OR e this
  ·have huk:u=k:=by exact adv (h u ay) e
   rw[if_neg e,if_neg e];left;let ⟨a1,a2,a3,a4,a5⟩:=ih (k+1) qd.2 λv hv=>by have:=qd.1 v hv;exact adw this huk
   right;refine⟨ef.mpr ⟨λx hx=>by rcases Q8 us (k+1) x hx with rfl|rfl<;>decide,a1⟩,?_,by rw[az];exact adx a3,by exact OZ a4,λhm=> ?_⟩
   ·rw[bl,if_pos tt,az];exact ady a2
   ·rcases aH.mp hm with hm|hm
    ·exact adz a4 hm huk
    ·exact a5 hm
def Q9 (st:St) (n:Nat) (hn:n<100) (hj:st.oz (.ob j)=aa l) (h:l[n]? =aa d):nY st (.ob j) (.pv (.int (n:Int)))=aa d:=(z8 hn).trans (by
 show(st.oz (.ob j)).bind _=_;rw[hj];exact h)
def UY (st:St) (j:Nat) (hc:st.cv=[aa (.ob 0)]):g6.st st (.int (j:Int))=⟨[~~~(.int (j:Int))],[aa (.ob 0)],st.ob⟩:=by unfold kh.st g6;simp[hc]
def gtN (a b:Nat):sZ st .Gt (.pv (.int (b:Int))) (.pv (.int (a:Int)))=aa (decide (a<b)):=by show aa (decide ((a:Int)< (b:Int)))=_;refine congrArg aa ?_;rw[dr,decide_eq_true_iff,decide_eq_true_iff];exact cM
def af2 (h:b st=aa true):KZ b f g st=f st:=by unfold KZ;rw[h]
def af3 (h:b st=aa false):KZ b f g st=g st:=by unfold KZ;rw[h]
def UZ {j u:Nat} (hc:st.cv=[aa (.ob 0)]) (ho:st.ob[0]? =aa (.list (bM df))) (hj:j<100) (hu:df[j]? =aa u):
  ye g6 (KZ (bY .Gt (bk (aX 0) (ak 0)) (ak 0)) ⇑1 ⇑0) st (.int (j:Int))=aa (if j<u then 1 else 0):=by
 have h1:nY ⟨[~~~(.int (j:Int))],[aa (.ob 0)],st.ob⟩ (.ob 0) (.pv (.int (j:Int)))=aa (.int (u:Int)):=by
  refine Q9 _ j hj (l:=bM df) ?_ ?_
  ·show(match st.ob[0]? with|some (.list l)=>aa l|_=>ac)=_;rw[ho]
  ·unfold bM;rw[bN,hu];rfl
 have h2:bY .Gt (bk (aX 0) (ak 0)) (ak 0) ⟨[~~~(.int (j:Int))],[aa (.ob 0)],st.ob⟩=aa (decide (j<u)):=
  fT (cA rfl rfl h1) rfl (gtN j u)
 unfold ye;rw[UY st j hc];by_cases h:j<u
 ·rw[af2 (h2.trans (by rw[decide_eq_true h])),if_pos h];rfl
 ·rw[af3 (h2.trans (by rw[decide_eq_false h])),if_neg h];rfl
def Np (hc:st.cv=[aa (.ob 0)]) (ho:st.ob[0]? =aa (.list (bM df))) (hl: ↑df<100) (suf:Nz):∀(pre:Nz),df=pre++suf->
  keysOf (ye g6 (KZ (bY .Gt (bk (aX 0) (ak 0)) (ak 0)) ⇑1 ⇑0) st) ((List.range' ↑pre ↑suf).map λi:Nat=>PV.int (i:Int))=aa (xK ↑pre suf):=by
 induction suf with
 |nil=>exact λ_ _=>rfl
 |cons u suf ih=>intro pre h;have ih:=ih (pre++[u]) (by rw[h];simp);rw[aj,be]at ih;rw[az,Tj,bw,tB,ih,UZ hc ho (adA (by rw[h,aj,az];exact XI) hl) (u:=u) (by rw[h];simp)];rfl
def DF (h:f st= ~~~(.int (n:Int))) (hn:n<1000):rN f st=aa (iK n):=by unfold rN;rw[h];show(if (0:Int)<=(n:Int)/\(n:Int)<1000 then aa (iK (n:Int).toNat) else ac)=_;rw[if_pos ⟨dO _,cM.mpr hn⟩];rfl
def Ra (h1:f1 st=aa a) (h2:fx st= ~~~(.int x)) (h3:st.oz a=aa l) (h4:keysOf (ye ll f st) l=aa ns) (hs:ns.Pairwise (· <= ·)) (hl: ↑ns<1000):
  A8 right ll f1 fx f st= ~~~(.int (↑(ns.filter (below right x)):Nat)):=by
 unfold A8;rw[h1,h2];show(st.oz a).bind _=_;rw[h3];show(keysOf _ _).bind _=_;rw[h4];show(if ↑ns<1000 then _ else _)=_;rw[if_pos hl,oI right hs]
def Nq (us:Nz):∀(k:Nat),↑(xK k us)= ↑us:=by
 induction us with
 |nil=>intro _;exact rfl
 |cons u us ih=>intro k;rw[rY,az,az,ih]
def Rb (hl: ↑df<100) (hs:df.Pairwise (· < ·)):
  A8 false g6 (lA (dJ kr (au (aX 0) aZ))) ⇑1 (KZ (bY .Gt (bk (aX 0) (ak 0)) (ak 0)) ⇑1 ⇑0) (stH tx xV df kY hu dp de fi a b c d e f)= ~~~(.int (nz 0 df:Nat)):=by
 left;let ⟨h1,h2,h3,h4,h5⟩:=vX df 0 hs λv _=>cI v;right;have hr:lA (dJ kr (au (aX 0) aZ)) (stH tx xV df kY hu dp de fi a b c d e f)= ~~~(.lst (iK ↑df)):=by
  have:dJ kr (au (aX 0) aZ) (stH tx xV df kY hu dp de fi a b c d e f)= ~~~(.int (↑df:Nat)):=by refine iL (l:=[.ob 0]) rfl ?_;show(if ↑(bM df)<=sizeLine then aa (CV.pv (.int ↑(bM df))) else ac)=_;unfold bM;rw[aw,if_pos (adB hl rfl)]
  unfold lA;rw[DF this (O3 hl)];rfl
 have hk:=Np (st:=stH tx xV df kY hu dp de fi a b c d e f) rfl rfl hl df [] rfl;rw[lW,<- vA]at hk;rw[Ra (l:=iK ↑df) hr rfl rfl hk h1 (by rw[Nq];exact O3 hl)];rw[qj]at h2;rw[h2]
def Jz {us:Nz}:∀ {x:Nat},us.Pairwise (· < ·)->x∈us->us[↑(us.filter λy=>decide (y<x))]? =aa x/\us.eraseIdx ↑(us.filter λy=>decide (y<x))=us.filter λy=>decide (y≠x):=by
 induction us with
 |nil=>intro x _ h;cases h
 |cons u us ih=>
  intro x hs h;have qd:=ef.mp hs;rcases aH.mp h with rfl|hx
  ·have h0:us.filter (λy=>decide (y<x))=[]:=cL.mpr λy hy=>by have:=qd.1 y hy;simp;exact ce ‹_›
   have h1:us.filter (λy=>decide (y≠x))=us:=bL.mpr λy hy=>by have:=qd.1 y hy;simp;exact jV ‹_›
   rw[bl,if_neg (by simp),h0,bl,if_neg (by simp),h1];exact⟨rfl,rfl⟩
  ·have hu:=qd.1 x hx;let ⟨h1,h2⟩:=ih qd.2 hx;rw[bl,if_pos (decide_eq_true hu),bl,if_pos (decide_eq_true (cU ‹_›)),az,il,List.eraseIdx_cons_succ,h2];exact⟨h1,rfl⟩
def CI {x:Nat} (hs:us.Pairwise (· < ·)) (h:x∉us):(us.filter (λy=>decide (y<=x))++x::us.filter (λy=> !decide (y<=x))).Pairwise (· < ·)/\(us.filter (λy=>decide (y<=x))++x::us.filter (λy=> !decide (y<=x))).Perm (x::us):=by
 refine⟨ib.mpr ⟨hs.filter _,ef.mpr ⟨λy hy=> ?_,hs.filter _⟩,λa ha b hb=> ?_⟩,List.perm_middle.trans (Oh _ (List.filter_append_perm _ _))⟩
 ·have:=(aY.mp hy).2;simp at this;exact this
 ·have h1:=(aY.mp ha);have h2:a<=x:=of_decide_eq_true h1.2;rcases aH.mp hb with rfl|hb
  ·exact adC (λe=>h (e▸h1.1)) h2
  ·have:=(aY.mp hb).2;simp at this;exact adE h2 this
def Rc:
  zd (stH tx xV df kY hu dp de fi a (~~~(.str (T [40]))) c d e f)=aa (.next,stH tx xV df kY hu (dp+1) de fi a (~~~(.str (T [40]))) c d e f)/\
  zd (stH tx xV df kY hu dp de fi a (~~~(.str (T [41]))) c d e f)=aa (.next,stH tx xV df kY hu (dp+ -1) de fi a (~~~(.str (T [41]))) c d e f):=⟨rfl,rfl⟩
def Fi (tx xV:PV) (df:Nz) (kY hu:Sp) (dp de:Int) (fi:Str) (a c d e f:OV) (h1:u≠ [40]) (h2:u≠ [41]):bY .In (ak 8) (jd (au ↥"(" (au ↥")" aZ))) (stH tx xV df kY hu dp de fi a (~~~(.str (T u))) c d e f)=aa false:=by show aa ((T [40]==T u)||((T [41]==T u)||false))=_;rw[LP,LP,decide_eq_false λe=>h1 e.symm,decide_eq_false λe=>h2 e.symm];rfl
def Rd (h:u=[92,40]\/u=[92,41]\/u=[92,34]\/u=[92,92]):
  zd (stH tx xV df kY hu dp de fi a (~~~(.str (T u))) c d e f)=aa (.next,stH tx xV df kY hu dp de fi a (~~~(.str (T u))) c d e f):=by
 have k1:eS "abcdef" (T u)=false/\eS "ABCDEF" (T u)=false/\u≠ [40]/\u≠ [41]:=by rcases h with rfl|rfl|rfl|rfl<;>decide+kernel
 refine dw ?_;rw[jX (Fi _ _ _ _ _ _ _ _ _ _ _ _ _ k1.2.2.1 k1.2.2.2)];refine dw ?_;rw[jX (show aa (eS "abcdef" (T u))=aa false by rw[k1.1])];refine dw ?_;rw[jX (show aa (eS "ABCDEF" (T u))=aa false by rw[k1.2.1])];rfl
def Fj (st:St) (f:Nat) (d:Int) (hf:f<1000) (hd:d≠0) (hi:ng (mf f d)=false):Mv st .Div (.pv (.int (f:Nat))) (.pv (.int d))=aa (.fF (mf f d)):=by
 have e:AF .Div (.int f) (.int d)=aa (.fF (mf f d)):=by show(if _ then ff _ else ac)=_;rw[if_pos ⟨hd,by unfold AD;rw[(rfl:(2:Int) ^ 29=536870912)];simp;exact adF hf,hi⟩,KV]
 show(AF .Div (.int f) (.int d)).or _=_;rw[e];rfl
def Fk:∀f∈cK 9,ng (mf (f:Nat) 8)=false/\ng (mf (f:Nat) 4)=false:=by decide+kernel
def LR {f fo fi:EF} {st:St} {d:PV} {j:Nat} {x:Str} {l:Sp} (h1:f st= ~~~d) (h2:fo st=aa (.ob j)) (h3:fi st= ~~~(.str x)) (h4:st.ob[j]? =aa (.dict l)) (hl: ↑l<100000) (hx:l.lookup x=ac):Ex f fo fi st=aa (.next,qT j (.dict (l++[(x,d)])) st):=by unfold Ex;rw[h1,h2,h3];show((st.ob[j]?).bind CO.aD).bind _=_;rw[h4];exact if_pos ⟨hl,hx⟩
noncomputable def U0 (us:Nz) (x:Nat):List Nat:=us.filter (λy=>decide (y<=x))++x::us.filter (λy=> !decide (y<=x))
def BR (hx:x<6):eS "abcdef" (T [97+x])=true/\eS "abcdef" (T [65+x])=false/\eS "ABCDEF" (T [65+x])=true:=by rw[show T [97+x]=⟨#[97+x]⟩ from rfl,show T [65+x]=⟨#[65+x]⟩ from rfl,oM,oM,oM];refine S5 hx ?_ ?_ ?_ ?_ ?_ ?_<;>decide
def JA {tx:PV} {m:Nat} (hm:m<500000000) {df:Nz} {kY hu:Sp} {dp de:Int} {fi:Str} {a c d e f g:OV} {x:Nat} (hx:x<6) (hl: ↑df<6) (hs:df.Pairwise (· < ·)) (ZY:kY.lookup (nm x)=ac) (hll: ↑kY<1000):
  zd (stH tx (.int (m:Nat)) df kY hu dp de fi a (~~~(.str (T [97+x]))) c d e f)=aa (.next,stH tx (.int (m:Nat)) (U0 df (nz 0 df)) (kY++[(nm x,qu m (nz 0 df))]) hu dp (if de<dp then dp else de) (if de<dp then nm x else fi) a (~~~(.str (T [97+x]))) (~~~(.int (nz 0 df:Nat))) d e f):=by
 left;let ⟨_,_,h3,_,_⟩:=vX df 0 hs λv _=>cI v;have hf:nz 0 df<6:=by exact adG h3 hl
 right;refine dw ?_;rw[jX (Fi _ _ _ _ _ _ _ _ _ _ _ _ _ (by simp;exact adH) (by simp;exact adI))];refine dw ?_;rw[tN (show aa (eS "abcdef" (T [97+x]))=aa true by rw[(BR hx).1])];generalize uM:nz 0 df=fr at*;let st1:St:=stH tx (.int (m:Nat)) df kY hu dp de fi a (~~~(.str (T [97+x]))) (~~~(.int (fr:Nat))) d e f;let st2:St:=stH tx (.int (m:Nat)) (U0 df fr) kY hu dp de fi a (~~~(.str (T [97+x]))) (~~~(.int (fr:Nat))) d e f;let st3:St:=stH tx (.int (m:Nat)) (U0 df fr) (kY++[(nm x,qu m fr)]) hu dp de fi a (~~~(.str (T [97+x]))) (~~~(.int (fr:Nat))) d e f;have e1:bZ (A8 false g6 (lA (dJ kr (au (aX 0) aZ))) ⇑1 (KZ (bY .Gt (bk (aX 0) (ak 0)) (ak 0)) ⇑1 ⇑0)) (bf 9) (stH tx (.int (m:Nat)) df kY hu dp de fi a (~~~(.str (T [97+x]))) c d e f)=aa (.next,st1):=by unfold bZ;rw[Rb (by exact F9 hl) hs,uM];rfl
 have e2:zA true (aX 0) (ak 9) st1=aa (.next,st2):=by rw[LF true (j:=0) (x:=fr) (r:=df) rfl rfl rfl (Dx hs) (by exact Wm hl)];rfl
 left;let ⟨r,gg,b,_,_,_,_,hv,_⟩:=QL (f:=fr) (a:=m%4) (c:=m/4%8) hf (fP _ ∅) (fP _ ∅);have hm4:m%4<4:=fP _ ∅;have hm8:m/4%8<8:=fP _ ∅;right;have e3:Ex (kb iw (au (ba .Div (ak 9) ⇑8) (au (ba .Div (ba .Add ⇑1 (ba .Mod (ak 1) ⇑4)) ⇑4) (au (ba .Div (ba .Add ⇑1 (ba .Mod (ba .FloorDiv (ak 1) ⇑4) ⇑8)) ⇑8) aZ)))) (ak 2) (ak 8) st2=aa (.next,st3):=by
  erw [LR (d:=qu m fr) (j:=1) (x:=nm x) (l:=kY) ?_ rfl rfl rfl (by exact KC hll) ZY]
  ·rfl
  ·have a1:ba .Div (ak 9) ⇑8 st2= ~~~(.fF (mf fr 8)):=dq rfl rfl (Fj _ fr 8 (by exact Wm hf) ∅ (Fk fr (dM.mpr (by exact ab9 hf))).1);have a2:ba .Div (ba .Add ⇑1 (ba .Mod (ak 1) ⇑4)) ⇑4 st2= ~~~(.fF (mf ((1+m%4:Nat):Int) 4)):=dq (dq rfl (dq rfl rfl (rg _ m 4 ∅)) (tM _ 1 (m%4))) rfl (Fj _ (1+m%4) 4 (by exact adJ) ∅ (Fk _ (dM.mpr (by exact adK))).2);have a3:ba .Div (ba .Add ⇑1 (ba .Mod (ba .FloorDiv (ak 1) ⇑4) ⇑8)) ⇑8 st2= ~~~(.fF (mf ((1+m/4%8:Nat):Int) 8)):=dq (dq rfl (dq (dq rfl rfl (xx _ m 4 ∅ hm ∅)) rfl (rg _ (m/4) 8 ∅)) (tM _ 1 (m/4%8))) rfl (Fj _ (1+m/4%8) 8 (by exact adL) ∅ (Fk _ (dM.mpr (by exact adN))).1);refine mY (bz a1 (bz a2 (bz a3 rfl))) (ds:=UM fr (m%4) (m/4%8)) rfl ?_;unfold qu;rw[hv];rfl
 unfold LQ;rw[aU e1,aU e2,aU e3];refine dw ?_;by_cases hd:de<dp
 ·rw[tN (show aa (decide (de<dp))=aa true by rw[decide_eq_true hd]),if_pos hd,if_pos hd];rfl
 ·rw[jX (show aa (decide (de<dp))=aa false by rw[decide_eq_false hd]),if_neg hd,if_neg hd];rfl
def Rf (hx:x<6) (st:St):kR st [.pv (.str (T [65+x]))]= ~~~(.str (nm x)):=by
 have h:cO (T [65+x])=nm x/\cw ↑(cO (T [65+x]))=false:=by refine S5 hx ?_ ?_ ?_ ?_ ?_ ?_<;>exact⟨rfl,rfl⟩
 rw[yp st h.2,h.1]
def DG (st:St) (hj:st.WK (.ob j)=aa l) (h:l.lookup x=aa d):nY st (.ob j) (.pv (.str x))=aa d:=by show(st.WK (.ob j)).bind _=_;rw[hj];exact h
def Hw {x:Str} {d:PV} (h:l.lookup x=ac):(l++[(x,d)]).lookup x=aa d:=by rw[OE,h];simp
def Nr {α β:Type} (f:α->β) (l:List α):∀i:Nat,(l.map f).eraseIdx i=(l.eraseIdx i).map f:=by
 induction l with
 |nil=>exact λ_=>rfl
 |cons a l ih=>
  intro i;induction i with
  |zero=>rfl
  |succ i=>exact congrArg (f a:: ·) (ih i)
def Nt {tx:PV} {m:Nat} {df:Nz} {kY hu:Sp} {dp de:Int} {fi:Str} {a c d e f g:OV} {x h:Nat} (hx:x<6) (hl: ↑df<100) (hs:df.Pairwise (· < ·)) (ZY:kY.lookup (nm x)=aa (qu m h)) (hhu:hu.lookup (nm x)=ac) (hll: ↑hu<1000) (hu6:h<6) (W7:h∈df):
  ∃d' e' f',zd (stH tx (.int (m:Nat)) df kY hu dp de fi a (~~~(.str (T [65+x]))) c d e f)=aa (.next,stH tx (.int (m:Nat)) (df.filter λy=>decide (y≠h)) kY (hu++[(nm x,.int (h:Nat))]) dp de fi a (~~~(.str (T [65+x]))) c d' e' f'):=by
 left;let ⟨r,gg,b,hh,ll,ss,y,hv,hw,hy,RV,Si⟩:=QL (f:=h) (a:=m%4) (c:=m/4%8) hu6 (fP _ ∅) (fP _ ∅);have akP:qu m h= .tup [r,gg,b]:=by unfold qu;rw[hv];rfl
 right;let st1:St:=stH tx (.int (m:Nat)) df kY hu dp de fi a (~~~(.str (T [65+x]))) c (~~~r) (~~~gg) (~~~b);let st2:St:=stH tx (.int (m:Nat)) df kY (hu++[(nm x,.int (h:Nat))]) dp de fi a (~~~(.str (T [65+x]))) c (~~~r) (~~~gg) (~~~b);have low:∀st:St,ak 8 st= ~~~(.str (T [65+x]))->eQ "str" kR (ak 8) aZ st= ~~~(.str (nm x)):=λst h8=>pD (o:= .pv (.str (T [65+x]))) (ds:=[]) h8 rfl rfl (Rf hx st);refine⟨~~~r,~~~gg,~~~b,dw ?_⟩;rw[jX (Fi _ _ _ _ _ _ _ _ _ _ _ _ _ (by simp;exact adO) (by simp;exact adP))];refine dw ?_;rw[jX (show aa (eS "abcdef" (T [65+x]))=aa false by rw[(BR hx).2.1])];refine dw ?_;rw[tN (show aa (eS "ABCDEF" (T [65+x]))=aa true by rw[(BR hx).2.2])];unfold Q7;rw[aU (f:=bZ _ _) (st1:=st1) (by
  unfold bZ;rw[cA (o:= .ob 1) (i:= .pv (.str (nm x))) (d:= .tup [r,gg,b]) rfl (low _ rfl) (DG _ (l:=kY) rfl (akP▸ZY))];rfl)]
 rw[aU (f:=Ex _ _ _) (st1:=st2) (by
  erw [LR (d:= .int (h:Nat)) (j:=2) (x:=nm x) (l:=hu) ?_ rfl (low _ rfl) rfl (by exact KC hll) hhu]
  ·rfl
  ·have hq:dJ rK (au (ba .Mult (bk (kb i8 (au (ak 10) (au (ak 11) (au (ak 12) aZ)))) ⇑0) ⇑8) aZ) st1= ~~~(.int (qx ia y)):=by
    refine iL (bz (dq (cA (mY (l:=[.pv r,.pv gg,.pv b]) rfl rfl hw) rfl (mO _ [hh,ll,ss] 0 ∅ rfl)) rfl (d:= .fF y) ?_) rfl) ?_
    ·exact Hb hy
    ·show(if jw y then aa (CV.pv (.int (qx ia y))) else ac)=_;rw[if_pos RV]
   refine dq hq rfl ?_;have e:AF .Mod (.int (qx ia y)) (.int 8)=aa (.int (h:Nat)):=by show(if (8:Int)≠0 then aa (PV.int (Int.fmod (qx ia y) 8)) else ac)=_;rw[if_pos ∅,Si]
   exact Hb e)]
 refine dw ?_;let ⟨p1,p2⟩:=Jz hs W7;have akQ:qF false (aX 0) (bk (ak 3) (eQ "str" kR (ak 8) aZ)) st2= ~~~(.int (↑(df.filter λy=>decide (y<h)):Nat)):=
  Aa false (a:= .ob 0) (r:=df) rfl (cA (o:= .ob 2) (i:= .pv (.str (nm x))) rfl (low _ rfl) (DG _ (l:=hu++[(nm x,.int (h:Nat))]) rfl (Hw hhu))) rfl (Dx hs) (by exact O3 hl)
 erw [uD (j:=0) (l:=bM df) (r:= .int (h:Nat)) (l':=bM (df.filter λy=>decide (y≠h))) rfl (bz akQ rfl) rfl rfl ?_]
 ·rfl
 ·show(if ↑(bM df)<100000/\(0:Int)<=(↑(df.filter λy=>decide (y<h)):Nat) then((bM df)[((↑(df.filter λy=>decide (y<h)):Nat):Int).toNat]?).map λd=>(d,(bM df).eraseIdx ((↑(df.filter λy=>decide (y<h)):Nat):Int).toNat) else ac)=_;unfold bM;rw[aw,if_pos ⟨by exact adQ hl,by exact F8⟩,rA,bN,p1,Nr,p2];rfl
def Hx (us:LN):∀(vs:LN) (i:Nat),mo i (us++vs)=mo i us++mo (i+ ↑us.flatten) vs:=by
 induction us with
 |nil=>intro vs i;exact rfl
 |cons u us ih=>intro vs i;show _::mo (i+ ↑u) (us++vs)=_::(mo (i+ ↑u) us++_);rw[ih vs,fQ,aj,iP]
def Runs (us:LN) (tx xV:PV) (df:Nz) (kY hu:Sp) (dp de:Int) (fi:Str) (vu:Nz) (CR LZ:Sp) (Ow ZZ:Int) (Z0:Str):Prop:=
 ∀(i:Nat) (a b c d e f:OV),∃a' b' c' d' e' f',lP hTg zd ((mo i us).map lR) (stH tx xV df kY hu dp de fi a b c d e f)=aa (.next,stH tx xV vu CR LZ Ow ZZ Z0 a' b' c' d' e' f')
section
variable {tx xV:PV} {us vs:LN} {df u1 u2:Nz} {kY hu l1 h1 l2 h2:Sp} {dp de d1 e1 d2 e2:Int} {fi f1 f2:Str}
def Runs.nil:Runs [] tx xV df kY hu dp de fi df kY hu dp de fi:=λi a b c d e f=>⟨a,b,c,d,e,f,rfl⟩
def Runs.AB (h:Runs us tx xV df kY hu dp de fi u1 l1 h1 d1 e1 f1) (h':Runs vs tx xV u1 l1 h1 d1 e1 f1 u2 l2 h2 d2 e2 f2):Runs (us++vs) tx xV df kY hu dp de fi u2 l2 h2 d2 e2 f2:=by intro i a b c d e f;left;let ⟨a',b',c',d',e',f',x⟩:=h i a b c d e f;let ⟨a2,b2,c2,d2,e2,f2,y⟩:=h' (i+ ↑us.flatten) a' b' c' d' e' f';right;exact⟨a2,b2,c2,d2,e2,f2,by rw[Hx,bH,QG x];exact y⟩
def Runs.one (h:∀(a c d e f:OV),∃a' b' c' d' e' f',zd (stH tx xV df kY hu dp de fi a (~~~(.str (T u))) c d e f)=aa (.next,stH tx xV u1 l1 h1 d1 e1 f1 a' b' c' d' e' f')):Runs [u] tx xV df kY hu dp de fi u1 l1 h1 d1 e1 f1:=by intro i a b c d e f;left;let ⟨a',b',c',d',e',f',x⟩:=h (~~~(.int ((i+ ↑u- 1:Nat):Int))) c d e f;right;exact⟨a',b',c',d',e',f',(iE (st1:=stH tx xV df kY hu dp de fi (~~~(.int ((i+ ↑u- 1:Nat):Int))) (~~~(.str (T u))) c d e f) rfl x).trans rfl⟩
def Runs.op:Runs [[40]] tx xV df kY hu dp de fi df kY hu (dp+1) de fi:= .one λa c d e f=>⟨_,_,_,_,_,_,Rc.1⟩
def Runs.cl:Runs [[41]] tx xV df kY hu dp de fi df kY hu (dp+ -1) de fi:= .one λa c d e f=>⟨_,_,_,_,_,_,Rc.2⟩
def Runs.skip (h:u=[92,40]\/u=[92,41]\/u=[92,34]\/u=[92,92]):Runs [u] tx xV df kY hu dp de fi df kY hu dp de fi:= .one λa c d e f=>⟨_,_,_,_,_,_,Rd h⟩
def Runs.bare (h:p<7):Runs (xJ p) tx xV df kY hu dp de fi df kY hu dp de fi:=by
 refine UX h ?_ ?_ ?_ ?_ ?_ ?_ ?_
 ·exact .nil
 ·exact .skip (.inl rfl)
 ·exact .skip (.inr (.inl rfl))
 ·exact .nil
 ·exact .nil
 ·exact .skip (.inr (.inr (.inl rfl)))
 ·exact .skip (.inr (.inr (.inr rfl)))
end
def ze {F:Nat->PV} {l:Nz} (h:x∉l):(l.map λy=>(nm y,F y)).lookup (nm x)=ac:=by
 induction l with
 |nil=>rfl
 |cons a l ih=>rw[bw,di,Jj,show(x==a)=false from beq_false_of_ne λe=>h (e▸ay)];exact ih λe=>h (aK _ e)
structure HI (n:NN) (m:Nat) (P:Nz) (h:NN) (df:Nz) (kY hu:Sp) (dp de:Nat) (fi:Str):Prop where
 le:∀x∈P,x<6->h x<= ↑(vq n x)
 ne:∀x∈P,x<6->∀y∈vq n x,h y≠h x
 Zk:df.Pairwise (· < ·)
 perm:df.Perm ((mn P).map h)
 lt:kY=(P.filter λc=>decide (c<6)).map λy=>(nm y,qu m (h y))
 hv:hu=((P.filter λc=>decide (6<=c)).map λc=>c- 6).map λy=>(nm y,.int (h y:Nat))
 dl:dp= ↑(mn P)
 dm:∀y∈P,y<6-> ↑(vq n y)+1<=de
 fm:((∀y∈P,6<=y)/\de=0)\/∃f∈P,f<6/\ ↑(vq n f)+1=de/\fi=nm f
def YO (h:toks n=P++x::Q) (hx:x<6): ↑(mn P)<6:=by
 have:=fq (fE.mpr ⟨(BI h hx).1,rk P⟩) (l₂:=L6) λy hy=>by
  rcases aH.mp hy with rfl|hy
  ·exact fY.mpr hx
  ·exact fY.mpr (oK.mp hy).1
 rw[az]at this;have: ↑L6=6:=rfl;assumption
def af4 (hm:m<500000000) (ht:toks n=P++x::Q) (hx:x<6) (H:HI n m P h df kY hu dp de fi):
  ∃(h':NN) (vu:Nz) (CR LZ:Sp) (Ow ZZ:Nat) (Z0:Str),Runs (ju n x) tx (.int (m:Nat)) df kY hu dp de fi vu CR LZ Ow ZZ Z0/\HI n m (P++[x]) h' vu CR LZ Ow ZZ Z0:=by
 let ⟨RZ,D3⟩:=BI ht hx;have Vz:=Jq ht hx;have hxP:x∉P:=λe=>mZ ((oJ ht).mp e).2;have hcP:6+x∉P:=λe=>by have h1:=((oJ ht).mp e).2;have:=BF (n:=n) hx;unfold BG at h1;erw [Hm,xE hx]at h1;exact adR h1 this
 have hul: ↑df= ↑(mn P):=by erw [H.perm.length_eq,aw]
 left;let ⟨_,_,H0,_,Sd⟩:=vX df 0 H.Zk λv _=>cI v;let ⟨hi1,hi2⟩:=CI H.Zk Sd;right;let f:=nz 0 df;let h':Nat->Nat:=λy=>if y=x then f else h y;have sM:h' x=f:=if_pos rfl;have W2:∀y,y≠x->h' y=h y:=λy hy=>if_neg hy;have ZM:∀y,y∈P->h' y=h y:=λy hy=>W2 y λe=>hxP (e▸hy);refine⟨h',U0 df f,kY++[(nm x,qu m f)],hu,dp+1,if de<dp+1 then dp+1 else de,if de<dp+1 then nm x else fi,?_,?_⟩
 ·have e:ju n x=[[40]]++([[97+x]]++xJ (dP (n x))):=by unfold ju qI;erw [if_pos hx];rfl
  erw [e];refine Runs.op.AB (Runs.AB ?_ (Runs.bare (n7 _)));refine .one λa c d e f=>⟨a,~~~(.str (T [97+x])),~~~(.int (nz 0 df:Nat)),d,e,f,?_⟩;erw [JA (g:=ac) hm hx (adT hul (YO ht hx)) H.Zk ?_ ?_]
  rotate_left
  ·erw [H.lt];exact ze (F:=λy=>qu m (h y)) λe=>hxP (aY.mp e).1
  ·have:=rl n;erw [ht,aj]at this;erw [H.lt,aw];exact Wn (eY (λc=>decide (c<6)) P) this
  ·by_cases hd:de<dp+1
   ·erw [if_pos hd,if_pos hd,if_pos (show(de:Int)< (dp:Int)+1 by exact Wo hd),if_pos (show(de:Int)< (dp:Int)+1 by exact Wo hd)];rfl
   ·erw [if_neg hd,if_neg hd,if_neg (show ¬(de:Int)< (dp:Int)+1 by exact Wp hd),if_neg (show ¬(de:Int)< (dp:Int)+1 by exact Wp hd)];rfl
 ·refine⟨λy hy Iv=> ?_,λy hy Iv z hz=> ?_,hi1,?_,?_,?_,?_,λy hy Iv=> ?_,.inr ?_⟩
  ·rcases cb.mp hy with hy|hy
   ·erw [ZM y hy];exact H.le y hy Iv
   ·erw [aC.mp hy,sM,<- Vz];show nz 0 df<=_;exact adU H0 hul
  ·rcases cb.mp hy with hy|hy
   ·erw [ZM y hy,W2 z λe=>DA (n:=n) (a:=x) (c:=y) (e▸(jZ.mp hz).2.1) ((oJ ht).mp hy).2];exact H.ne y hy Iv z hz
   ·erw [aC.mp hy]at hz⊢;erw [sM,W2 z λe=>mZ (n:=n) (a:=x) (e▸(jZ.mp hz).2.1)];erw [<- Vz]at hz;refine λe=>Sd ?_;have h4:=H.perm.mem_iff.mpr (Oe (f:=h) hz);erw [show h z=nz 0 df from e]at h4;exact h4
  ·refine hi2.trans ?_;refine List.Perm.trans ?_ (D3.map h').symm;erw [bw,sM];refine Oh _ (H.perm.trans ?_);erw [cj λy hy=>(W2 y λe=>RZ (e▸hy)).symm]
  ·erw [H.lt,bT,bH,cj λy hy=>by erw [<- ZM y (aY.mp hy).1]];erw [bl,if_pos (decide_eq_true hx)];show _++[(nm x,qu m f)]=_++[(nm x,qu m (h' x))];erw [sM]
  ·erw [H.hv,bT,bl,if_neg (by simp;exact adV hx),o8,bu];refine cj λy hy=> ?_;let ⟨c,hc,rfl⟩:=aQ.mp hy;erw [aY]at hc;erw [W2 (c- 6) λe=>hcP (by have:=of_decide_eq_true hc.2;exact(show 6+x=c by exact Wq this e)▸hc.1)]
  ·erw [D3.length_eq,az,H.dl]
  ·rcases cb.mp hy with hy|hy
   ·have:=H.dm y hy Iv;split<;>(first|exact adW this ‹_› |exact adX this)
   ·erw [aC.mp hy,<- Vz,<- H.dl];split<;>(first|exact adY|exact adZ ‹_›)
  ·by_cases hd:de<dp+1
   ·erw [if_pos hd,if_pos hd];exact⟨x,dS _ ay,hx,by erw [<- Vz,H.dl],rfl⟩
   ·erw [if_neg hd,if_neg hd];rcases H.fm with⟨_,h0⟩|⟨g,h1,h2⟩
    ·exact(ad0 h0 hd).elim
    ·exact⟨g,fu _ h1,h2⟩
def af5 (ht:toks n=P++(6+x)::Q) (hx:x<6) (H:HI n m P h df kY hu dp de fi):
  ∃(vu:Nz) (CR LZ:Sp) (Ow:Nat),Runs (ju n (6+x)) tx (.int (m:Nat)) df kY hu dp de fi vu CR LZ Ow de fi/\HI n m (P++[6+x]) h vu CR LZ Ow de fi:=by
 have D3:=DB ht hx;have hxo:x∈mn P:=D3.mem_iff.mpr ay;have hxP:x∈P:=(oK.mp hxo).2.1;have L5:df.Perm (h x::(mn (P++[6+x])).map h):=H.perm.trans (D3.map h);have akS: ↑(vq n x)<6:=by
  have:=fq (l₁:=x::vq n x) (fE.mpr ⟨λh=>mZ (jZ.mp h).2.1,lj.filter _⟩) (l₂:=L6) λy hy=>by
   rcases aH.mp hy with rfl|hy
   ·exact fY.mpr hx
   ·exact fY.mpr (jZ.mp hy).1
  rw[az]at this;exact this
 refine⟨df.filter λy=>decide (y≠h x),kY,hu++[(nm x,.int (h x:Nat))],↑(mn (P++[6+x])),?_,?_⟩
 ·have k1:kY.lookup (nm x)=aa (qu m (h x)):=by rw[H.lt];exact vP (F:=λy=>qu m (h y)) (aY.mpr ⟨hxP,decide_eq_true hx⟩)
  have k2:hu.lookup (nm x)=ac:=by rw[H.hv];refine ze (F:=λy=> .int (h y:Nat)) λe=> ?_;let ⟨c,hc,e⟩:=aQ.mp e;rw[aY]at hc;have:=of_decide_eq_true hc.2;exact((oK.mp hxo).2.2) (by rw[show 6+x=c by exact Wq this e];exact hc.1)
  have k3: ↑hu<1000:=by have:=rl n;rw[ht,aj]at this;rw[H.hv,aw,aw];exact Wn (eY (λc=>decide (6<=c)) P) this
  have e:ju n (6+x)=[[65+x]]++[[41]]:=by unfold ju qI;rw[if_neg (Wr),show 6+x- 6=x by exact KG];rfl
  rw[e];rw[(by exact ad2 (by rw[H.dl,D3.length_eq,az]):(↑(mn (P++[6+x])):Int)=(dp:Int)+ -1)];refine Runs.AB (.one λa c d e f=> ?_) Runs.cl;left;let ⟨d',e',f',hh⟩:=Nt (g:=ac) (tx:=tx) (m:=m) (dp:=(dp:Int)) (de:=(de:Int)) (fi:=fi) (a:=a) (c:=c) (d:=d) (e:=e) (f:=f) hx (ad3 (by rw[H.perm.length_eq,aw]: ↑df= ↑(mn P)) (eY _ L6)) H.Zk k1 k2 k3 (by have:=H.le x hxP hx;exact ad1 this akS) (H.perm.mem_iff.mpr (Oe hxo));right;exact⟨_,_,_,_,_,_,hh⟩
 ·have old:∀y,y∈P++[6+x]->y<6->y∈P:=λy hy Iv=>(cb.mp hy).elim id λe=>by have:=aC.mp e;exact(ad4 Iv this).elim
  refine⟨λy hy Iv=>H.le y (old y hy Iv) Iv,λy hy Iv=>H.ne y (old y hy Iv) Iv,H.Zk.filter _,?_,?_,?_,rfl,λy hy Iv=>H.dm y (old y hy Iv) Iv,?_⟩
  ·refine(L5.filter _).trans ?_;erw [bl,if_neg (by simp),bL.mpr λy hy=> ?_];exact decide_eq_true λe=>(fE.mp (L5.nodup_iff.mp (Hl H.Zk))).1 (e▸hy)
  ·rw[H.lt,bT,bl (x:=6+x),if_neg (by simp),o8,bu]
  ·rw[H.hv,bT,bH,bH,bl (x:=6+x),if_pos (by simp),o8];show _=_++[(nm (6+x- 6),PV.int (h (6+x- 6):Nat))];rw[show 6+x- 6=x by exact KG]
  ·rcases H.fm with⟨h1,h0⟩|⟨g,h1,h2⟩
   ·exact absurd (h1 x hxP) (ad5 hx)
   ·exact .inr ⟨g,fu _ h1,h2⟩
def YP (hm:m<500000000) (Q:Nz):∀(P:Nz) (h:NN) (df:Nz) (kY hu:Sp) (dp de:Nat) (fi:Str),toks n=P++Q->HI n m P h df kY hu dp de fi->
  ∃(h':NN) (vu:Nz) (CR LZ:Sp) (Ow ZZ:Nat) (Z0:Str),Runs (Q.flatMap (ju n)) tx (.int (m:Nat)) df kY hu dp de fi vu CR LZ Ow ZZ Z0/\HI n m (toks n) h' vu CR LZ Ow ZZ Z0:=by
 induction Q with
 |nil=>intro P h df kY hu dp de fi ht H;exact⟨h,df,kY,hu,dp,de,fi,.nil,by rw[ht,bu];exact H⟩
 |cons c Q ih=>
  intro P h df kY hu dp de fi ht H;have hc:c<12:=(gk (n:=n)).mp (by rw[ht];exact dS _ ay);have ht':toks n=(P++[c])++Q:=by rw[ht];simp
  rw[bJ];rcases bS c 6 with(h6|h6)
  ·let ⟨h1,u1,l1,k1,d1,e1,f1,r1,H1⟩:=af4 (tx:=tx) hm ht h6 H;left;let ⟨h2,u2,l2,k2,d2,e2,f2,r2,H2⟩:=ih _ h1 u1 l1 k1 d1 e1 f1 ht' H1;right;exact⟨h2,u2,l2,k2,d2,e2,f2,r1.AB r2,H2⟩
  ·obtain⟨x,rfl⟩:∃x,c=6+x:=⟨c- 6,by exact Wl h6⟩;left;let ⟨u1,l1,k1,d1,r1,H1⟩:=af5 (tx:=tx) ht (O2 hc) H;let ⟨h2,u2,l2,k2,d2,e2,f2,r2,H2⟩:=ih _ h u1 l1 k1 d1 de fi ht' H1;right;exact⟨h2,u2,l2,k2,d2,e2,f2,r1.AB r2,H2⟩
def zf (n:NN):List Nat:=((toks n).filter λc=>decide (6<=c)).map λc=>c- 6
def iB (n:NN):List Nat:=((toks n).flatMap (unitsOf n)).flatten
def zg (h:f st=aa (.next,st1)):yf f g st=g st1:=by unfold yf;rw[h];rfl
def YQ (n:NN) (m:Nat):HI n m [] (λ_=>0) [] [] [] 0 0 "" where
 le:=λx hx=>absurd hx gy
 ne:=λx hx=>absurd hx gy
 Zk:=gW
 perm:=List.Perm.nil
 lt:=rfl
 hv:=rfl
 dl:=rfl
 dm:=λx hx=>absurd hx gy
 fm:= .inl ⟨λx hx=>absurd hx gy,rfl⟩
def U1 (hm:m<500000000):∃(h:NN) (de f:Nat),Nj n h/\f<6/\ ↑(vq n f)+1=de/\(∀x,x<6-> ↑(vq n x)+1<=de)/\
  tE [.str (T (iB n)),.int (m:Nat)]=aa (.tup [.oO ((zf n).map λy=>(nm y,.int (h y:Nat))),.int (de:Nat),.str (nm f)]):=by
 have hg:Good ((toks n).flatMap (unitsOf n)):=by have:=Ae (n:=n) (P:=toks n) (Q:=[]) (by simp) (r:=[]) (λu hu=>by cases hu) ∅ ∅;rwa [bu]at this
 have ru:gD ac ((toks n).flatMap (unitsOf n))=(toks n).flatMap (ju n):=by have:=uH n (toks n) [];rw[bu]at this;rw[this];show _++[]=_;rw[bu]
 let tx:PV:= .str (T (iB n));let ⟨h,df,kY,hu,dp,de,fi,hr,H⟩:=YP (n:=n) (m:=m) hm (tx:=tx) (toks n) [] (λ_=>0) [] [] [] 0 0 "" (gf _).symm
  (YQ n m)
 left;obtain⟨f,hf,hf6,hfd,rfl⟩:∃f∈toks n,f<6/\ ↑(vq n f)+1=de/\fi=nm f:=H.fm.resolve_left λe=>absurd (e.1 0 (gk.mpr ∅)) ∅;right;refine⟨h,de,f,⟨λx hx=>H.le x (gk.mpr (O4 hx)) hx,λx hx=>H.ne x (gk.mpr (O4 hx)) hx⟩,hf6,hfd,λx hx=>H.dm x (gk.mpr (O4 hx)) hx,?_⟩;left;let ⟨a,b,c,d,e,g,hr⟩:=hr 0 ac ac ac ac ac ac;right;let s0:St:=⟨[~~~tx,~~~(.int (m:Nat)),ac,ac,ac,ac,ac,ac,ac,ac,ac,ac,ac],[ac],[]⟩;have e1:yf (mK (zB (kb dW (au (ak 0) aZ))) hTg zd) (ji (lc (ak 3)) (ji (lc (ak 5)) (ji (lc (ak 6)) EA))) (stH tx (.int (m:Nat)) [] [] [] 0 0 "" ac ac ac ac ac ac)=aa ([.ob 2,.pv (.int (de:Nat)),.pv (.str (nm f))],stH tx (.int (m:Nat)) df kY hu dp de (nm f) a b c d e g):=by rw[zg (st1:=stH tx (.int (m:Nat)) df kY hu dp de (nm f) a b c d e g) (by rw[jY (Fh (us:=(toks n).flatMap (ju n)) (mY (l:=[.pv tx]) rfl rfl (ru▸BP hg.unit hg.cps hg.size hg.count)) (ru▸hg.gD.1) (ru▸hg.gD.2))];exact hr)];rfl
 have e2:nx s0=aa ([.ob 2,.pv (.int (de:Nat)),.pv (.str (nm f))],stH tx (.int (m:Nat)) df kY hu dp de (nm f) a b c d e g):=by unfold nx;rw[zg (st1:=stH tx (.int (m:Nat)) [] [] [] 0 0 "" ac ac ac ac ac ac) rfl];exact e1
 show(nx s0).bind (λr=>aft r.2 r.1)=_;rw[e2];show aa (PV.tup [.oO hu,_,_])=_;rw[H.hv];rfl
def Fl (l:List Int) (n:NN) (rs:SS) (ob:List CO) (y x j hu:OV) (text unit opening bare AI first wide front given kept right pair due:Option CV:=ac):St:=
 {lv:=[~~~(.lst (l.map PV.int)),y,aa (.ob 3),aa (.ob 4),text,aa (.ob 5),unit,opening,bare,AI,first,wide,front,given,kept,right,pair,due],
  cv:=[~~~(cq λi=> .int (bg n i:Nat)),hu,j,~~~(g4 n),~~~(cq λi=> .int (Ck n i)),~~~(mP n),~~~(cq λi=>fL (kC n i)),~~~(cq λi=>fL (ii n i)),aa (.inst 0),~~~(cq λk=>jR (n k)),~~~(cq λk=>g0 (dP (n k))),~~~js,~~~(cq λk=>cE (n k)),~~~(.lst (ig λk=>(n k:Int))),~~~(.lst ((numsOf l).map PV.int)),x],
  ob:=hU (rs.map cW)++ob}
def YR (l:List Int) (n:NN) (y x:OV) (rs:SS):xe (UQ l n y x rs)=aa (.next,UQ l n y x rs):=by
 unfold xe;erw [jX (fT (a:= .pv (g4 n)) (b:= .pv (g4 n)) ?_ rfl ?_)]
 ·rfl
 ·erw [yq (λst=>∃a b,st=⟨[a,b],[~~~(cq λk=>cE (n k)),~~~(cq λi=> .int (Ck n i)),~~~(cq λi=> .int (bg n i:Nat))],hU (rs.map cW)⟩) (λi j=>decide (Ck n i< (bg n j:Nat))) (λi j=> .str (nm i++nm j)) (qG _ (λk=>cE (n k)) rfl) ⟨ac,ac,rfl⟩ ?_]
  ·erw [Dz n (λi j=>decide (Ck n i< (bg n j:Nat))) λi hi j hj=> ?_];rw[rX hi hj,Fe hi,dr,decide_eq_true_iff,decide_eq_true_iff];simp
  ·rintro i hi st ⟨a,b,rfl⟩;refine⟨⟨[~~~(.str (nm i)),b],[~~~(cq λk=>cE (n k)),~~~(cq λi=> .int (Ck n i)),~~~(cq λi=> .int (bg n i:Nat))],hU (rs.map cW)⟩,rfl,rfl,⟨_,_,rfl⟩,qG _ (λk=>cE (n k)) rfl,λst=>∃b,st=⟨[~~~(.str (nm i)),b],[~~~(cq λk=>cE (n k)),~~~(cq λi=> .int (Ck n i)),~~~(cq λi=> .int (bg n i:Nat))],hU (rs.map cW)⟩,⟨_,rfl⟩,λst ⟨b,h⟩=>⟨_,b,h⟩,?_⟩;rintro j hj st ⟨b,rfl⟩;refine⟨⟨[~~~(.str (nm i)),~~~(.str (nm j))],[~~~(cq λk=>cE (n k)),~~~(cq λi=> .int (Ck n i)),~~~(cq λi=> .int (bg n i:Nat))],hU (rs.map cW)⟩,rfl,?_,⟨_,rfl⟩,λ_=>dq (f:=ak 0) (g:=ak 1) rfl rfl (ki _ _ _ (by rw[jS,jS];decide))⟩;exact fT (cA (f:=aX 1) (g:=ak 0) rfl rfl (gi _ (λi=> .int (Ck n i)) (fY.mpr hi))) (cA (f:=aX 2) (g:=ak 1) rfl rfl (gi _ (λi=> .int (bg n i:Nat)) (fY.mpr hj))) rfl
 ·refine yo ?_;show(iJ ((jT n).map PV.str) ((jT n).map PV.str)).map (!·)=aa false;rw[tO];rfl
def YS (l:List Int) (n:NN) (y x:OV) (rs:SS):Bq (UQ l n y x rs)=aa (.next,Fl l n rs [.list [],.list [],.list []] y x ac ac (text:= ~~~(.str ""))):=rfl
def nA (n:NN) (P:Nz) (m:Nat):List Nat:=(cK m).flatMap λj=>P.filter λc=>bg n c==j
def oY (n:NN) (P:Nz) (m:Nat):nA n P (m+1)=nA n P m++P.filter λc=>bg n c==m:=by unfold nA;rw[lV,iD,bJ,sE,bu]
def pE:c∈nA n P m↔c∈P/\bg n c<m:=by unfold nA;simp only[iQ,dM,aY,beq_iff_eq];exact⟨λ⟨j,h1,h2,h3⟩=>⟨h2,h3▸h1⟩,λ⟨h1,h2⟩=>⟨_,h2,h1,rfl⟩⟩
def zh (n:NN) (P:Nz):∀m,(nA n P m).Pairwise λa c=>bg n a<=bg n c:=by
 intro l9;induction l9 with
 |zero=>exact gW
 |succ m ih=>
  rw[oY,ib];refine⟨ih,?_,λa ha c hc=> ?_⟩
  ·refine gK (R:=λ_ _=>True) ?_ (Ij λ_ _=>trivial);intro a c ha hc _;have h1:=(aY.mp ha).2;have h2:=(aY.mp hc).2;rw[beq_iff_eq]at h1 h2;exact XM h1 h2
  ·have h1:=(pE.mp ha).2;have h2:=(aY.mp hc).2;rw[beq_iff_eq]at h2;exact ad6 h1 h2
def Nu {m:Nat}:m<=bg n x->nA n (P++x::R) m=nA n (P++R) m:=by
 induction m with
 |zero=>intro _;exact rfl
 |succ m ih=>intro h;erw [oY,oY,ih (OZ h),bT,bT,bl,if_neg (by simp;exact ad7 h)]
def BS (q:Nat->Bool) (kX:∀c,bg n c<bg n x->q c=true) (hgt:∀c,bg n x<bg n c->q c=false) (hP:∀c∈P,bg n c=bg n x->q c=true) (hR:∀c∈R,bg n c=bg n x->q c=false):∀ {m:Nat},bg n x<m->nA n (P++x::R) m=(nA n (P++R) m).filter q++x::(nA n (P++R) m).filter λc=> !q c
 |m+1,h=>by
  erw [oY,oY];by_cases hm:bg n x<m
  ·have e1:((P++R).filter λc=>bg n c==m).filter q=[]:=cL.mpr λc hc=>by have:=(aY.mp hc).2;erw [beq_iff_eq]at this;erw [hgt c (Ct hm this)];decide
   have e2:((P++R).filter λc=>bg n c==m).filter (λc=> !q c)=(P++R).filter λc=>bg n c==m:=bL.mpr λc hc=>by have:=(aY.mp hc).2;erw [beq_iff_eq]at this;erw [hgt c (Ct hm this)];rfl
   erw [bT (p:=q),bT (p:=λc=> !q c),e1,e2,BS q kX hgt hP hR hm,bT (p:=λc=>bg n c==m),bT (p:=λc=>bg n c==m),bl (x:=x),if_neg (by simp;exact V9 hm)];simp
  ·have hx:bg n x=m:=by exact ad8 h hm
   have e3:(P.filter λc=>bg n c==m).filter q=P.filter λc=>bg n c==m:=bL.mpr λc hc=>by erw [aY,beq_iff_eq]at hc;exact hP c hc.1 (hc.2.trans hx.symm)
   have e4:(R.filter λc=>bg n c==m).filter q=[]:=cL.mpr λc hc=>by erw [aY,beq_iff_eq]at hc;erw [hR c hc.1 (hc.2.trans hx.symm)];decide
   have e5:(P.filter λc=>bg n c==m).filter (λc=> !q c)=[]:=cL.mpr λc hc=>by erw [aY,beq_iff_eq]at hc;erw [hP c hc.1 (hc.2.trans hx.symm)];decide
   have e6:(R.filter λc=>bg n c==m).filter (λc=> !q c)=R.filter λc=>bg n c==m:=bL.mpr λc hc=>by erw [aY,beq_iff_eq]at hc;erw [hR c hc.1 (hc.2.trans hx.symm)];rfl
   erw [bT (p:=q),bT (p:=λc=> !q c),(bL.mpr λc hc=>kX c (by have:=(pE.mp hc).2;exact Ct this hx)),(cL.mpr λc hc=>by erw [kX c (by have:=(pE.mp hc).2;exact Ct this hx)];decide:(nA n (P++R) m).filter (λc=> !q c)=[]),Nu (Tz hx),bT (p:=λc=>bg n c==m) (l₁:=P) (l₂:=R),bT (p:=q),bT (p:=λc=> !q c),e3,e4,e5,e6,bT,bl (x:=x),if_pos (by simp;exact ab7 hx)];simp
def Rg (q:α->Bool) {l:List α}:l.Pairwise (λa c=>q c=true->q a=true)->l.filter q++l.filter (λc=> !q c)=l:=by
 induction l with
 |nil=>intro _;exact rfl
 |cons a l ih=>
  intro h;rw[ef]at h;cases e:q a with
  |true=>rw[bl,if_pos e,bl,if_neg (by simp[e]),sF,ih h.2]
  |false=>
   have h1:∀c∈l,q c=false:=λc hc=>by
    cases e2:q c with
    |false=>rfl
    |true=>rw[h.1 c hc e2]at e;nomatch e
   rw[bl,if_neg (by simp[e]),bl,if_pos (by simp[e]),cL.mpr λc hc=>by rw[h1 c hc];decide,bL.mpr λc hc=>by rw[h1 c hc];rfl];rfl
def DH (hi:i<6) (hc:st.cv[0]? =aa (~~~(cq λi=> .int (bg n i:Nat)))) (right:Bool):ye (if right then rb else rc) (bk (aX 0) (ak 0)) st (.str (nm i))=aa ((bg n i:Nat):Int):=by
 have e:∀ll:kh,ll.sz=[(ah "begin",0)]->ll.st st (.str (nm i))=⟨[~~~(.str (nm i))],[~~~(cq λi=> .int (bg n i:Nat))],st.ob⟩:=λll h=>by unfold kh.st;rw[h];simp[hc]
 unfold ye;rw[e _ (by cases right<;>rfl),cA (f:=aX 0) (g:=ak 0) rfl rfl (gi _ (λi=> .int (bg n i:Nat)) (fY.mpr hi))];rfl
def Rh (hc:st.cv[0]? =aa (~~~(cq λi=> .int (bg n i:Nat)))) (right:Bool) {A:Nz} (h:∀i∈A,i<6):keysOf (ye (if right then rb else rc) (bk (aX 0) (ak 0)) st) (A.map λi=> .str (nm i))=aa (A.map λi=>(bg n i:Int)):=by
 induction A with
 |nil=>rfl
 |cons a A ih=>rw[bw,tB,DH (h a ay) hc,ih λi hi=>h i (aK _ hi)];rfl
def LS (right:Bool) (hc:st.cv[0]? =aa (~~~(cq λi=> .int (bg n i:Nat)))) {A:Nz} (h1:fo st=aa (.ob j)) (h2:fx st= ~~~(.str (nm x))) (hx:x<6) (hA:∀i∈A,i<6) (hl: ↑A<1000) (hs:A.Pairwise λa c=>bg n a<=bg n c) (h3:st.ob[j]? =aa (.list (A.map λi=> .str (nm i)))):
  A9 right (if right then rb else rc) fo fx (bk (aX 0) (ak 0)) st=aa (.next,qT j (.list ((A.filter (λc=>below right (bg n x) (bg n c))++x::A.filter (λc=> !below right (bg n x) (bg n c))).map λi=> .str (nm i))) st):=by
 have Zn:=Rg (λc=>below right (bg n x:Int) (bg n c:Int)) (hs.imp λ{a c} hac h=>vT (fK.mpr hac) h);have Z1:mB right (A.map λi=>(bg n i:Int)) (bg n x:Int) 0 ac= ↑(A.filter λc=>below right (bg n x) (bg n c)):=by rw[oI right (gX _ (λa b h=>by exact Aw h) hs),dF,aw];rfl
 unfold A9;rw[h1,h2];show(SY st.ob[j]?).bind _=_;rw[h3];show(keysOf _ _).bind _=_;rw[Rh hc right hA];show(ye _ _ st _).bind _=_;rw[DH hx hc right];show(if _<1000 then _ else _)=_;rw[if_pos (by rw[aw];exact hl)];unfold vi uR;rw[Z1];have e:∀A1 A2:List Nat,A1++A2=A->(A.map λi=>PV.str (nm i)).take ↑A1++PV.str (nm x)::(A.map λi=>PV.str (nm i)).drop ↑A1=(A1++x::A2).map λi=>PV.str (nm i):=by rintro A1 A2 rfl;rw[bH,bH,bw,List.take_left' (by rw[aw]),List.drop_left' (by rw[aw])]
 rw[e _ _ Zn]
def Ri (n:NN) (P:Nz):∀m,↑(nA n P m)<=m* ↑P:=by
 intro l9;induction l9 with
 |zero=>exact cI _
 |succ m ih=>rw[oY,aj,Oc,Cp];exact ad9 (ih) (eY (λc=>bg n c==m) P)
def BU (h: ↑P<=6): ↑(nA n P (mN n))<1000:=by exact aea (Ri n P (mN n)) (Nat.mul_le_mul (xD n) h)
def Rj (R:Nz):∀(P:Nz) (x:OV),P++R=L6->
  ∃x',lP (jL 15) (aB (A9 true rb (ak 2) (aX 15) (bk (aX 0) (ak 0))) br) (R.map λi=> .str (nm i)) (Fl l n rs [.list ((nA n P (mN n)).map λi=> .str (nm i)),.list [],.list []] y x j hu (text:=tx))=aa (.next,Fl l n rs [.list ((nA n L6 (mN n)).map λi=> .str (nm i)),.list [],.list []] y x' j hu (text:=tx)):=by
 induction R with
 |nil=>intro P x h;exact⟨x,by erw [bu]at h;subst h;rfl⟩
 |cons i R ih=>
  intro P x h;have hi:i<6:=fY.mp (h▸(dS _ ay));obtain(⟨x',e⟩):=ih (P++[i]) (~~~(.str (nm i))) (by erw [<- h];simp);refine⟨x',?_⟩;erw [bw,iE (st1:=Fl l n rs [.list ((nA n P (mN n)).map λi=> .str (nm i)),.list [],.list []] y (~~~(.str (nm i))) j hu (text:=tx)) (st2:=Fl l n rs [.list ((nA n (P++[i]) (mN n)).map λi=> .str (nm i)),.list [],.list []] y (~~~(.str (nm i))) j hu (text:=tx)) rfl ?_,e];refine dw ?_;refine(LS true (j:=3) (x:=i) (A:=nA n P (mN n)) rfl rfl rfl hi (λc hc=> ?_) (BU (n:=n) (P:=P) (by have:=congrArg eX h;erw [aj]at this;exact aA (bh _ _) (fg this))) (zh n P _) rfl).trans ?_
  ·exact fY.mp (by erw [<- h];exact fu _ (pE.mp hc).1)
  ·have e2:=BS (n:=n) (P:=P) (R:=[]) (x:=i) (λc=>below true (bg n i:Int) (bg n c:Int)) (λc hc=>below_1 (fK.mpr (ce hc))) (λc hc=>below_2 (cM.mpr hc)) (λc _ hc=>below_1 (fK.mpr (fg hc))) (λc hc=>absurd hc gy) (bI (BF hi) (LK hi))
   ·erw [bu]at e2;erw [e2];rfl
def Nv (R:Nz):∀(P:Nz) (x:OV),R.reverse++P=L6->
  ∃x',lP (jL 15) (aB (A9 false rc (ak 3) (aX 15) (bk (aX 0) (ak 0))) br) (R.map λi=> .str (nm i)) (Fl l n rs [.list A,.list ((nA n P (mN n)).map λi=> .str (nm i)),.list []] y x j hu (text:=tx))=aa (.next,Fl l n rs [.list A,.list ((nA n L6 (mN n)).map λi=> .str (nm i)),.list []] y x' j hu (text:=tx)):=by
 induction R with
 |nil=>intro P x h;exact⟨x,by erw [List.reverse_nil,gf]at h;subst h;rfl⟩
 |cons i R ih=>
  intro P x h;erw [SP,bF]at h;have hi:i<6:=fY.mp (h▸(dS _ ay));obtain(⟨x',e⟩):=ih (i::P) (~~~(.str (nm i))) h;refine⟨x',?_⟩;erw [bw,iE (st1:=Fl l n rs [.list A,.list ((nA n P (mN n)).map λi=> .str (nm i)),.list []] y (~~~(.str (nm i))) j hu (text:=tx)) (st2:=Fl l n rs [.list A,.list ((nA n (i::P) (mN n)).map λi=> .str (nm i)),.list []] y (~~~(.str (nm i))) j hu (text:=tx)) rfl ?_,e];refine dw ?_;refine(LS false (j:=4) (x:=i) (A:=nA n P (mN n)) rfl rfl rfl hi (λc hc=> ?_) (BU (n:=n) (P:=P) (by have:=congrArg eX h;erw [aj,aj]at this;have h6: ↑L6=6:=rfl;exact aeb this h6)) (zh n P _) rfl).trans ?_
  ·exact fY.mp (by erw [<- h];exact dS _ (dS _ (pE.mp hc).1))
  ·have e2:=BS (n:=n) (P:=[]) (R:=P) (x:=i) (λc=>below false (bg n i:Int) (bg n c:Int)) (λc hc=>below_3 (cM.mpr hc)) (λc hc=>below_4 (fK.mpr (ce hc))) (λc hc=>absurd hc gy) (λc _ hc=>below_4 (fK.mpr (fg hc.symm))) (bI (BF hi) (LK hi))
   ·erw [gf,gf]at e2;erw [e2];rfl
def jv (n:NN):List PV:=(Hn n).map λi=> .str (nm i)
def Hy (n:NN):nA n L6 (mN n)=Hn n:=by unfold nA Hn US;refine eR λj _=>io λc hc=> ?_;rw[xE (dM.mp hc)]
def LU (st:St) (s:Str) (ls:Nz) (h:s=T ls) (h7:ls.all (· <128)=true):jy (jb (.str s)) st=aa (ls.map λc=> .str ⟨#[c]⟩):=by subst h;show(if (T ls).cps.all (· <128)=true then aa (yb (T ls)) else ac)=_;rw[if_pos (by unfold T;simpa using h7)];unfold yb;rw[qH]
def YT (l:List Int) (n:NN) (y x:OV) (rs:SS) (tx:OV):∃x',xf (Fl l n rs [.list [],.list [],.list []] y x ac ac (text:=tx))=aa (.next,Fl l n rs [.list (jv n),.list [],.list []] y x' ac ac (text:=tx)):=by let ⟨x',e⟩:=Rj (l:=l) (n:=n) (y:=y) (hu:=ac) (j:=ac) (rs:=rs) (tx:=tx) L6 [] x rfl;refine⟨x',?_⟩;rw[(nI.mpr λc hc=>absurd (pE.mp hc).1 gy),Hy]at e;unfold xf;rw[jY (xs:=L6.map λi=> .str (nm i)) (LU _ "abcdef" [97,98,99,100,101,102] rfl rfl)];exact e
def YU (l:List Int) (n:NN) (y x:OV) (rs:SS) (tx:OV):∃x',xg (Fl l n rs [.list (jv n),.list [],.list []] y x ac ac (text:=tx))=aa (.next,Fl l n rs [.list (jv n),.list (jv n),.list []] y x' ac ac (text:=tx)):=by let ⟨x',e⟩:=Nv (l:=l) (n:=n) (y:=y) (hu:=ac) (j:=ac) (rs:=rs) (tx:=tx) (A:=jv n) [5,4,3,2,1,0] [] x rfl;refine⟨x',?_⟩;rw[(nI.mpr λc hc=>absurd (pE.mp hc).1 gy),Hy]at e;unfold xg;rw[jY (xs:=[5,4,3,2,1,0].map λi=> .str (nm i)) (LU _ "fedcba" [102,101,100,99,98,97] rfl rfl)];exact e
def nR (us:LN):List PV:=us.map λu=> .str (T u)
def LV (h:p<7):(E5 p).map PV.str=nR (gI p):=by refine UX h ?_ ?_ ?_ ?_ ?_ ?_ ?_<;>rfl
def nB (n:NN) (j:Nat):List Nat:=(cK 12).filter λc=>pl n c==j
def Rk (n:NN) (j:Nat):nB n j=(L6.filter λx=>bg n x==j)++(L6.filter λx=>en n x==j).map (6+ ·):=by
 have e2:L6.filter ((λc=>pl n c==j) ∘ (6+ ·))=L6.filter (λx=>en n x==j):=io λc hc=>by show(pl n (6+c)==j)=_;rw[Hm]
 unfold nB;erw [show cK 12=L6++L6.map (6+ ·) by decide,bT,dF,(io λc hc=>by rw[xE (fY.mp hc)]),e2]
def Nw (n:NN) (j:Nat):(nB n j).flatMap (unitsOf n)=((L6.filter λx=>bg n x==j).flatMap λx=>[40]::[97+x]::gI (dP (n x)))++(L6.filter λx=>en n x==j).flatMap λx=>[[65+x],[41]]:=by
 have e1:(L6.filter λx=>bg n x==j).flatMap (unitsOf n)=(L6.filter λx=>bg n x==j).flatMap λx=>[40]::[97+x]::gI (dP (n x)):=eR λx hx=>by unfold unitsOf qI;rw[if_pos (fY.mp (aY.mp hx).1)]
 have e2:(L6.filter λx=>en n x==j).flatMap (λx=>unitsOf n (6+x))=(L6.filter λx=>en n x==j).flatMap λx=>[[65+x],[41]]:=eR λx hx=>by unfold unitsOf qI;rw[if_neg (Wr),show 6+x- 6=x by exact KG]
 erw [Rk,iD,iR,e1,e2]
def Hz (n:NN):toks n=(cK (mN n)).flatMap (nB n):=rfl
def tS (st:St) (a b:List PV) (h: ↑a+ ↑b<=10000):Mv st .Add (.pv (.lst a)) (.pv (.lst b))=aa (.lst (a++b)):=by show(if ↑a+ ↑b<=sizeLine then aa (PV.lst (a++b)) else ac)=_;exact if_pos (OT h rfl)
def Rl (st:St) (ha:st.oz a=aa l) (hb:st.oz b=aa m) (hn:∀x,a≠ .pv x) (h: ↑l+ ↑m<=10000):Mv st .Add a b=aa (.lst (l++m)):=by
 have hs:sizeLine=2 ^ 24:=rfl;induction a with
 |pv x=>exact absurd rfl (hn x)
 |ob i=>show(ac:Option PV).or ((st.oz (.ob i)).bind λl=>(st.oz b).bind (Pt l))=_;rw[ha,hb];exact if_pos (OT h hs)
 |inst i=>exact gr ha
def JB {st:St} {n:NN} {j:Nat} (h:uw.st st=⟨[ac,ac],[~~~(cq λk=>g0 (dP (n k))),~~~(.int (j:Nat)),~~~(cq λi=> .int (bg n i:Nat))],st.ob⟩) (hp:st.cv[12]? =aa (~~~(cq λk=>cE (n k)))):
  ei uw (jy (aX 12)) (dN (bf 0) (bY .Eq (bk (aX 2) (ak 0)) (aX 1)) (Iq (jy (ba .Add (j8 (au ↥"(" (au (ak 0) aZ))) (bk (aX 0) (ak 0)))) (dN (bf 1) fG (gO (ak 1))))) st= ~~~(.lst (nR ((L6.filter λx=>bg n x==j).flatMap λx=>[40]::[97+x]::gI (dP (n x))))):=by
 have Ie:aX 12 st= ~~~(cq λk=>cE (n k)):=by unfold aX;erw [Av,hp];rfl
 erw [uy (λcg=>∃a b,cg=⟨[a,b],[~~~(cq λk=>g0 (dP (n k))),~~~(.int (j:Nat)),~~~(cq λi=> .int (bg n i:Nat))],st.ob⟩) (λx=>bg n (iY x)==j) (λx=>nR ([40]::[97+iY x]::gI (dP (n (iY x))))) (λ_ _=>true) (λ_ y=>y) (qG st (λk=>cE (n k)) Ie) ∅ ?_ (h▸⟨ac,ac,rfl⟩) ?_]
 ·erw [dF,iR];have e:(λx=>bg n (iY x)==j) ∘ (λi=>PV.str (nm i))=λx=>bg n x==j:=by funext x;show(bg n (iY (.str (nm x)))==j)=_;erw [fU]
  erw [e];have e3:((L6.filter λx=>bg n x==j).flatMap λx=>((nR ([40]::[97+iY (.str (nm x))]::gI (dP (n (iY (.str (nm x))))))).filter λ_=>true).map λy=>y)=nR ((L6.filter λx=>bg n x==j).flatMap λx=>[40]::[97+x]::gI (dP (n x))):=by unfold nR;erw [gz];exact eR λx _=>by erw [fU,bL.mpr λ_ _=>rfl,sQ]
  erw [e3]
 ·intro x hx;let ⟨i,hi,rfl⟩:=aQ.mp hx;have:=(vW (n7 (n i))).2.1;erw [fU];unfold nR;simp;exact aec this
 ·rintro x hx cg ⟨a,b,rfl⟩;let ⟨i,hi,rfl⟩:=aQ.mp hx;erw [fU];refine⟨⟨[~~~(.str (nm i)),b],[~~~(cq λk=>g0 (dP (n k))),~~~(.int (j:Nat)),~~~(cq λi=> .int (bg n i:Nat))],st.ob⟩,rfl,?_,⟨_,_,rfl⟩,λ_=>⟨?_,λcg=>∃b,cg=⟨[~~~(.str (nm i)),b],[~~~(cq λk=>g0 (dP (n k))),~~~(.int (j:Nat)),~~~(cq λi=> .int (bg n i:Nat))],st.ob⟩,⟨_,rfl⟩,λcg ⟨b,h⟩=>⟨_,b,h⟩,?_⟩⟩
  ·refine fT (cA (f:=aX 2) (g:=ak 0) rfl rfl (gi _ (λi=> .int (bg n i:Nat)) hi)) rfl ?_;show aa ((bg n i:Int)==(j:Int))=_;refine congrArg aa ?_;erw [dr,beq_iff_eq,beq_iff_eq];exact OW
  ·have hpc:bk (aX 0) (ak 0) ⟨[~~~(.str (nm i)),b],[~~~(cq λk=>g0 (dP (n k))),~~~(.int (j:Nat)),~~~(cq λi=> .int (bg n i:Nat))],st.ob⟩= ~~~(g0 (dP (n i))):=cA rfl rfl (gi _ (λk=>g0 (dP (n k))) hi);have hl:=(vW (n7 (n i))).2.1;unfold jy;erw [dq (rV (l:=[.pv (.str "("),.pv (.str (nm i))]) rfl rfl (by simp)) hpc (tS _ _ _ ?_)]
   ·show aa (_++(E5 (dP (n i))).map PV.str)=_;erw [LV (n7 _)];rfl
   ·erw [LV (n7 _)];unfold nR;erw [aw];show 2+_<=_;exact aed hl
  ·rintro u hu cg ⟨b,rfl⟩;exact⟨⟨[~~~(.str (nm i)),~~~u],[~~~(cq λk=>g0 (dP (n k))),~~~(.int (j:Nat)),~~~(cq λi=> .int (bg n i:Nat))],st.ob⟩,rfl,rfl,⟨_,rfl⟩,λ_=>rfl⟩
def JC {st:St} {n:NN} {j:Nat} (h:ux.st st=⟨[ac,ac],[~~~(.int (j:Nat)),~~~(cq λi=> .int (Ck n i))],st.ob⟩) (hp:st.cv[12]? =aa (~~~(cq λk=>cE (n k)))):
  ei ux (jy (aX 12)) (dN (bf 0) (bY .Eq (bk (aX 1) (ak 0)) (aX 0)) (Iq (jy (jd (au (eQ "str" gS (ak 0) aZ) (au ↥")" aZ)))) (dN (bf 1) fG (gO (ak 1))))) st= ~~~(.lst (nR ((L6.filter λx=>en n x==j).flatMap λx=>[[65+x],[41]]))):=by
 have Ie:aX 12 st= ~~~(cq λk=>cE (n k)):=by unfold aX;erw [Av,hp];rfl
 erw [uy (λcg=>∃a b,cg=⟨[a,b],[~~~(.int (j:Nat)),~~~(cq λi=> .int (Ck n i))],st.ob⟩) (λx=>en n (iY x)==j) (λx=>nR [[65+iY x],[41]]) (λ_ _=>true) (λ_ y=>y) (qG st (λk=>cE (n k)) Ie) ∅ (λ_ _=>by show 2<=100;decide) (h▸⟨ac,ac,rfl⟩) ?_]
 ·erw [dF,iR];have e:(λx=>en n (iY x)==j) ∘ (λi=>PV.str (nm i))=λx=>en n x==j:=by funext x;show(en n (iY (.str (nm x)))==j)=_;erw [fU]
  erw [e];have e3:((L6.filter λx=>en n x==j).flatMap λx=>((nR [[65+iY (.str (nm x))],[41]]).filter λ_=>true).map λy=>y)=nR ((L6.filter λx=>en n x==j).flatMap λx=>[[65+x],[41]]):=by unfold nR;erw [gz];exact eR λx _=>by erw [fU,bL.mpr λ_ _=>rfl,sQ]
  erw [e3]
 ·rintro x hx cg ⟨a,b,rfl⟩;obtain(⟨i,hi,rfl⟩):=aQ.mp hx;have hi6:=fY.mp hi;erw [fU];refine⟨⟨[~~~(.str (nm i)),b],[~~~(.int (j:Nat)),~~~(cq λi=> .int (Ck n i))],st.ob⟩,rfl,?_,⟨_,_,rfl⟩,λ_=>⟨?_,λcg=>∃b,cg=⟨[~~~(.str (nm i)),b],[~~~(.int (j:Nat)),~~~(cq λi=> .int (Ck n i))],st.ob⟩,⟨_,rfl⟩,λcg ⟨b,h⟩=>⟨_,b,h⟩,?_⟩⟩
  ·refine fT (cA (f:=aX 1) (g:=ak 0) rfl rfl (gi _ (λi=> .int (Ck n i)) hi)) rfl ?_;show aa (Ck n i==(j:Int))=_;refine congrArg aa ?_;erw [Fe hi6,dr,beq_iff_eq,beq_iff_eq];exact OW
  ·unfold jy;erw [qq (l:=[.pv (.str (up i)),.pv (.str ")")]) (bz (vS hi6 rfl) rfl) rfl (by simp)];rfl
  ·rintro u hu cg ⟨b,rfl⟩;exact⟨⟨[~~~(.str (nm i)),~~~u],[~~~(.int (j:Nat)),~~~(cq λi=> .int (Ck n i))],st.ob⟩,rfl,rfl,⟨_,rfl⟩,λ_=>rfl⟩
def mD (us:LN):List PV:=(mo 0 us).map lR
def JD (us:LN) (u:Nz):mD (us++[u])=mD us++[.tup [.int ((↑us.flatten+ ↑u- 1:Nat):Int),.str (T u)]]:=by unfold mD;rw[Hx,bH,qj];rfl
def Rm (us:LN):∀(i:Nat),↑(mo i us)= ↑us:=by
 induction us with
 |nil=>intro _;exact rfl
 |cons u us ih=>intro i;rw[mo,az,az,ih]
def uJ (us:LN): ↑(mD us)= ↑us:=by unfold mD;rw[aw,Rm]
abbrev Nx (l:List Int) (n:NN) (rs:SS) (us:LN) (y x j un op:OV):St:=Fl l n rs [.list (jv n),.list (jv n),.list (mD us)] y x j ac (text:= ~~~(.str (T us.flatten))) (unit:=un) (opening:=op)
abbrev HA:St->Option (pn×St):=(aB (bZ (ba .Add (ak 4) (ak 6)) (bf 4)) (aB (oA gZ (ak 5) (au (jd (au (ba .Sub (dJ kr (au (ak 4) aZ)) ⇑1) (au (ak 6) aZ))) aZ)) br))
def Ny (vs:LN):∀(us:LN) (un:OV),(∀u∈vs,Jr u)-> ↑us.flatten+ ↑vs.flatten<=1000-> ↑us+ ↑vs<=1000->
  ∃Z2,lP (bf 6) HA (nR vs) (Nx l n rs us y x j un op)=aa (.next,Nx l n rs (us++vs) y x j Z2 op):=by
 induction vs with
 |nil=>intro us un _ _ _;exact⟨un,by rw[bu];rfl⟩
 |cons u vs ih=>
  intro us un hu h1 h2;rw[fQ,aj]at h1;rw[az]at h2;let ⟨Z2,e⟩:=ih (us++[u]) (~~~(.str (T u))) (λv hv=>hu v (aK _ hv)) (by simp at h1⊢;exact aee h1) (by simp;exact aef h2);refine⟨Z2,?_⟩;have Z1:1<= ↑u:=by rcases hu u ay with⟨c,_,rfl⟩|⟨c,rfl⟩<;>simp
  have Kf:(us++[u]).flatten=us.flatten++u:=by simp
  erw [show nR (u::vs)= .str (T u)::nR vs from rfl,iE (st1:=Nx l n rs us y x j (~~~(.str (T u))) op) (st2:=Nx l n rs (us++[u]) y x j (~~~(.str (T u))) op) rfl ?_,e,bF]
  ·rfl
  ·unfold HA;let s1:St:=Fl l n rs [.list (jv n),.list (jv n),.list (mD us)] y x j ac (text:= ~~~(.str (T (us++[u]).flatten))) (unit:= ~~~(.str (T u))) (opening:=op);rw[aU (st1:=s1) (by
    unfold bZ;rw[dq rfl rfl (ki _ (T us.flatten) (T u) (by rw[gG,gG];exact Ws h1)),DC,<- Kf];rfl)]
   refine dw ?_;have cH:dJ kr (au (ak 4) aZ) s1= ~~~(.int ((us++[u]).flatten.length:Nat)):=by have:=BO s1 (T (us++[u]).flatten) (by rw[gG,Kf,aj];exact Ws h1);rw[gG]at this;exact iL (bz rfl rfl) this
   have CN:ba .Sub (dJ kr (au (ak 4) aZ)) ⇑1 s1= ~~~(.int ((↑us.flatten+ ↑u- 1:Nat):Int)):=by refine dq cH rfl ?_;rw[Kf,aj];show aa (PV.int (((↑us.flatten+ ↑u:Nat):Int)- 1))=_;refine congrArg (λz=>aa (PV.int z)) ?_;exact aeg Z1
   rw[uD (j:=5) (l:=mD us) rfl (bz (qq (bz CN (bz rfl rfl)) rfl (by simp)) rfl) rfl rfl (pC (by rw[uJ];exact aeh h2))];rw[<- JD];rfl
def xM (h:f st= ~~~(.lst l)):jy f st=aa l:=by unfold jy;rw[h];rfl
abbrev Rn:St->Option (pn×St):=(aB (bZ (ei uw (jy (aX 12)) (dN (bf 0) (bY .Eq (bk (aX 2) (ak 0)) (aX 1)) (Iq (jy (ba .Add (j8 (au ↥"(" (au (ak 0) aZ))) (bk (aX 0) (ak 0)))) (dN (bf 1) fG (gO (ak 1)))))) (bf 7)) (aB (mK (jy (ba .Add (ak 7) (ei ux (jy (aX 12)) (dN (bf 0) (bY .Eq (bk (aX 1) (ak 0)) (aX 0)) (Iq (jy (jd (au (eQ "str" gS (ak 0) aZ) (au ↥")" aZ)))) (dN (bf 1) fG (gO (ak 1)))))))) (bf 6) (aB (bZ (ba .Add (ak 4) (ak 6)) (bf 4)) (aB (oA gZ (ak 5) (au (jd (au (ba .Sub (dJ kr (au (ak 4) aZ)) ⇑1) (au (ak 6) aZ))) aZ)) br))) br))
def Ro (R:Nz):∀(P:Nz) (j un op:OV),P++R=cK (mN n)->
  ∃j' Z2 op',lP (jL 2) Rn (R.map λi:Nat=> .int (i:Int)) (Nx l n rs ((P.flatMap (nB n)).flatMap (unitsOf n)) y x j un op)=aa (.next,Nx l n rs ((toks n).flatMap (unitsOf n)) y x j' Z2 op'):=by
 induction R with
 |nil=>intro P j un op h;exact⟨j,un,op,by erw [bu]at h;erw [Hz,<- h];rfl⟩
 |cons i R ih=>
  intro P j un op h;have jM:toks n=(P++[i]).flatMap (nB n)++R.flatMap (nB n):=by erw [Hz,<- h,<- iD];simp
  let ⟨a1,a2,a3⟩:=uI n _ (λc hc=>(gk (n:=n)).mp (by erw [jM];exact fu _ hc));have hl:=rl n;erw [jM,aj]at hl;have hus:((P++[i]).flatMap (nB n)).flatMap (unitsOf n)=(P.flatMap (nB n)).flatMap (unitsOf n)++(nB n i).flatMap (unitsOf n):=by erw [(by erw [iD];simp:(P++[i]).flatMap (nB n)=P.flatMap (nB n)++nB n i),iD]
  erw [hus]at a1 a2 a3;erw [dz,aj]at a3;erw [aj]at a2;let us:=(P.flatMap (nB n)).flatMap (unitsOf n);have DX: ↑us+ ↑((nB n i).flatMap (unitsOf n))<=_:=a2;have a3': ↑us.flatten+((nB n i).flatMap (unitsOf n)).flatten.length<=_:=a3;let A:=(L6.filter λx=>bg n x==i).flatMap λx=>[40]::[97+x]::gI (dP (n x));let B:=(L6.filter λx=>en n x==i).flatMap λx=>[[65+x],[41]];have hAB:(nB n i).flatMap (unitsOf n)=A++B:=Nw n i;let op1:Option CV:= ~~~(.lst (nR A));left;let ⟨un1,e1⟩:=Ny (l:=l) (n:=n) (rs:=rs) (y:=y) (x:=x) (j:= ~~~(.int (i:Nat))) (op:=op1) (A++B) us un (λu hu=>(a1 u (dS _ (hAB▸hu))).1) (by erw [<- hAB];exact Wt a3' hl) (by erw [<- hAB];exact Wt DX hl);let ⟨j',Z2,op',e⟩:=ih (P++[i]) (~~~(.int (i:Nat))) un1 op1 (by erw [<- h];simp);right;refine⟨j',Z2,op',?_⟩;erw [bw,iE (st1:=Nx l n rs us y x (~~~(.int (i:Nat))) un op) (st2:=Nx l n rs (us++(A++B)) y x (~~~(.int (i:Nat))) un1 op1) rfl ?_]
  ·erw [hus,hAB]at e;exact e
  ·unfold Rn;erw [aU (st1:=Nx l n rs us y x (~~~(.int (i:Nat))) un op1) (by
    unfold bZ;erw [JB (n:=n) (j:=i) rfl rfl];rfl)]
   refine dw ?_;have hAl: ↑(nR A)+ ↑(nR B)<=10000:=by unfold nR;erw [aw,aw,<- aj,<- hAB];exact aei DX hl
   erw [jY (xM (dq (a:= .pv (.lst (nR A))) rfl (JC (n:=n) (j:=i) rfl rfl) (tS _ _ _ hAl))),show nR A++nR B=nR (A++B) by unfold nR;erw [bH]];exact e1
def YV (l:List Int) (n:NN) (y x:OV) (rs:SS):∃j un op,xj (Fl l n rs [.list (jv n),.list (jv n),.list []] y x ac ac (text:= ~~~(.str "")))=aa (.next,Nx l n rs ((toks n).flatMap (unitsOf n)) y x j un op):=by
 have hm:mN n<=6:=xD n;have hit:rN (dJ kr (au (bk (aX 5) ⇑0) aZ)) (Nx l n rs [] y x ac ac ac)=aa (iK (mN n)):=by refine DF ?_ (OX hm);have cH:=tQ (Nx l n rs [] y x ac ac ac) (bM (lC n)) (by unfold bM;erw [aw];show mN n<=_;exact C3 hm);erw [show ↑(bM (lC n))=mN n by unfold bM;erw [aw];rfl]at cH;exact iL (bz (cA rfl rfl (kz _ [.lst (bM (lC n)),.lst (bM (ri n))] 0 ∅ rfl)) rfl) cH
 let ⟨j,un,op,e⟩:=Ro (l:=l) (n:=n) (rs:=rs) (y:=y) (x:=x) (cK (mN n)) [] ac ac ac (gf _);refine⟨j,un,op,?_⟩;unfold xj;exact(jY hit).trans e
noncomputable def HB (p:Nat):List (List Nat):=[[],[[92,40]],[[92,41]],[],[[34],[41],[34]],[[92,34]],[[92,92]]].getD p []
def ix (h:c≠34) (hr:Rp [34,a,34] l r):Rp [34,a,34] (c::l) (c::r):=
 .skip (λe=>h (i4.mp e).1.symm) hr
def Af (h:¬ [a,34]<+:l) (hr:Rp [34,a,34] l r):Rp [34,a,34] (34::l) (34::r):=
 .skip (λe=>h (i4.mp e).2) hr
def Rq (l:Nz):Prop:=¬ [40,34]<+:l/\¬ [41,34]<+:l
def Ag (h:a≠c):¬ [a,b]<+:c::l:=λe=>h (i4.mp e).1
def uK (h:p<7) (hs:Rq l) (hr:Rp [34,40,34] l r):Rp [34,40,34] ((gI p).flatten++l) ((HB p).flatten++r):=by
 refine UX h ?_ ?_ ?_ ?_ ?_ ?_ ?_
 ·exact hr
 ·exact ix ∅ (ix ∅ hr)
 ·exact ix ∅ (ix ∅ hr)
 ·exact Rp.hit (p:=[34,40,34]) hr
 ·exact Af (Ag ∅) (ix ∅ (Af hs.1 hr))
 ·exact ix ∅ (Af hs.1 hr)
 ·exact ix ∅ (ix ∅ hr)
def DI (h:p<7) (hs:Rq l) (hr:Rp [34,41,34] l r):Rp [34,41,34] ((HB p).flatten++l) ((xJ p).flatten++r):=by
 refine UX h ?_ ?_ ?_ ?_ ?_ ?_ ?_
 ·exact hr
 ·exact ix ∅ (ix ∅ hr)
 ·exact ix ∅ (ix ∅ hr)
 ·exact hr
 ·exact Rp.hit (p:=[34,41,34]) hr
 ·exact ix ∅ (Af hs.2 hr)
 ·exact ix ∅ (ix ∅ hr)
def yu (pc:Nat->List (List Nat)) (c:Nat) (l:Nz):(qI pc c).flatten++l=if c<6 then 40::(97+c)::((pc c).flatten++l) else(65+(c- 6))::41::l:=by unfold qI;split<;>simp
def Rt (pc:Nat->List (List Nat)) (c:Nat) (l:Nz):Rq ((qI pc c).flatten++l):=by
 rw[yu];split
 ·exact⟨λe=>by have:=(i4.mp (i4.mp e).2).1;exact aej this,Ag ∅⟩
 ·exact⟨Ag (aek),Ag (ael)⟩
def rZ (hp:∀(c:Nat) (l r:Nz),Rq l->Rp [34,a,34] l r->Rp [34,a,34] ((U c).flatten++l) ((V c).flatten++r)) (ha:a≠34):∀cs:List Nat,Rq (cs.flatMap (qI U)).flatten/\Rp [34,a,34] (cs.flatMap (qI U)).flatten (cs.flatMap (qI V)).flatten
 | []=>⟨⟨λe=>by have:=e.length_le;simp at this,λe=>by have:=e.length_le;simp at this⟩,.nil⟩
 |c::cs=>by
  let ⟨h1,h2⟩:=rZ hp ha cs;rw[bJ,bJ,dz,dz];refine⟨Rt _ _ _,?_⟩;rw[yu,yu];split
  ·exact ix ∅ (ix (aem) (hp c _ _ h1 h2))
  ·exact ix (aen) (ix ∅ h2)
def DJ (n:NN):List Nat:=((toks n).flatMap (ju n)).flatten
def U2 (n:NN):iO (iO (T (iB n)) "\"(\"" "") "\")\"" "" =T (DJ n):=by rw[show ah "\"(\"" =T [34,40,34] from rfl,show ah "\")\"" =T [34,41,34] from rfl];erw [show iB n=((toks n).flatMap (qI λx=>gI (dP (n x)))).flatten from rfl,vV ∅ ((rZ (U:=λx=>gI (dP (n x))) (V:=λx=>HB (dP (n x))) (λc l r hs hr=>uK (n7 _) hs hr) ∅ (toks n)).2),vV ∅ ((rZ (U:=λx=>HB (dP (n x))) (V:=λx=>xJ (dP (n x))) (λc l r hs hr=>DI (n7 _) hs hr) ∅ (toks n)).2)];rfl
def JE (h:Rp p l r): ↑r<= ↑l:=by
 induction h with
 |nil=>exact ab _
 |hit h ih=>rw[aj];exact aA ih (gn ..)
 |skip _ h ih=>rw[az,az];exact gJ ‹_›
def oZ (n:NN): ↑(iB n)<=60:=by unfold iB;exact aeo ((uI n (toks n) λc hc=>gk.mp hc).2.2) (rl n)
def NA (n:NN): ↑(DJ n)<=60:=by exact aA (JE (rZ (U:=λx=>HB (dP (n x))) (V:=λx=>xJ (dP (n x))) (λc l r hs hr=>DI (n7 _) hs hr) ∅ (toks n)).2) (aA (JE (rZ (U:=λx=>gI (dP (n x))) (V:=λx=>HB (dP (n x))) (λc l r hs hr=>uK (n7 _) hs hr) ∅ (toks n)).2) (oZ n))
abbrev BV (n:NN):PV:= .str (T (DJ n++[34,40]))
abbrev Oj (l:List Int) (n:NN) (rs:SS) (y x j un op:OV):St:=Fl l n rs [.list (jv n),.list (jv n),.list (mD ((toks n).flatMap (unitsOf n)))] y x j ac (text:= ~~~(.str (T (iB n)))) (unit:=un) (opening:=op) (bare:= ~~~(BV n))
def U3 {st:St} (h1:(f st).bind CV.aS=aa x) (h2:(g st).bind CV.aP=aa z) (h3: ↑x<=1048576) (h4:(iO x q "").length<=1048576) (h5:AF .Add (.str (iO (iO x q "") q' "")) z=aa d):Ls i f q q' g st=aa (.next,ie i (.pv d) st):=by unfold Ls;rw[h1];show Option.bind ((g st).bind CV.aP) _=_;rw[h2];show(if _ then _ else ac)=_;rw[if_pos ⟨h3,h4⟩,h5];rfl
def YW (l:List Int) (n:NN) (rs:SS) (y x j un op:OV):Br (Nx l n rs ((toks n).flatMap (unitsOf n)) y x j un op)=aa (.next,Oj l n rs y x j un op):=by
 have h2:(iO (T (iB n)) "\"(\"" "").length<=60:=by erw [show ah "\"(\"" =T [34,40,34] from rfl,show iB n=((toks n).flatMap (qI λx=>gI (dP (n x)))).flatten from rfl,vV ∅ (rZ (U:=λx=>gI (dP (n x))) (V:=λx=>HB (dP (n x))) (λc l r hs hr=>uK (n7 _) hs hr) ∅ (toks n)).2,gG];exact aA (JE (rZ (U:=λx=>gI (dP (n x))) (V:=λx=>HB (dP (n x))) (λc l r hs hr=>uK (n7 _) hs hr) ∅ (toks n)).2) (oZ n)
 have ha:AF .Add (.str (T (DJ n))) (.str "\"(")=aa (BV n):=by erw [show ah "\"(" =T [34,40] from rfl];show(if ↑(T (DJ n))+ ↑(T [34,40])<=sizeLine then aa (PV.str (T (DJ n)++T [34,40])) else ac)=_;erw [gG,gG,DC,if_pos (by erw [(by decide:sizeLine=2 ^ 24)];simp;exact aep (NA n))]
 exact(U3 rfl rfl (by erw [gG];exact Wu (oZ n)) (Wu h2) (by rw[U2];exact ha)).trans rfl
def BW (n:NN):Good ((toks n).flatMap (unitsOf n)):=by have:=Ae (n:=n) (P:=toks n) (Q:=[]) (by simp) (r:=[]) (λu hu=>absurd hu gy) ∅ ∅;rwa [bu]at this
def LW (i:Int) (s:Str):PV.Ej 3 (.tup [.int i,.str s]) (.tup [.int i,.str s])=aa true:=Lz 2 λx hx=>by
 rcases aH.mp hx with rfl|hx
 ·exact Ly 1 i
 ·exact(aC.mp hx)▸(uC 1 s)
def ne_str (st:St) (x:Str):sZ st .NotEq (.pv (.str x)) (.pv (.str x))=aa false:=by show aa (x !=x)=_;rw[bne_self_eq_false]
def zi (h:f st=aa false):Gj f g st=g st:=by unfold Gj;rw[h];rfl
def Ru (h:f st= ~~~(.str (T a))) (ha:∀c∈a,c<128):zB f st=aa ((iX 0 false a).map lR):=by unfold zB;rw[h];show(if (T a).cps.all (· <128)=true then aa ((iX 0 false (T a).cps.toList).map lR) else ac)=_;rw[if_pos,qH];rw[yM];intro c hc;exact decide_eq_true (ha c ((qH a)▸(Xw.mp hc)))
def U4 (k:Nat):iX k false [92]=[(k,zX)]:=by rw[ED,QY,decide_eq_true rfl,if_pos rfl];show [(k+1- 1,zX)]=_;rw[Nat.add_sub_cancel]
def Rv (hu:∀u∈us,Jr u):(iX 0 false (us.flatten++[92])).map lR=mD us++[.tup [.int (↑us.flatten:Nat),.str "\\"]]:=by unfold mD;rw[BM us 0 [92] hu,bH,qj,U4];rfl
def YX (l:List Int) (n:NN) (rs:SS) (y x j un op:OV):xk (Oj l n rs y x j un op)=aa (.next,Oj l n rs y x j un op):=by
 have hg:=BW n;have htl:=oZ n;have het:(iX 0 false (iB n++[92])).map lR=mD ((toks n).flatMap (unitsOf n))++[.tup [.int (↑(iB n):Nat),.str "\\"]]:=Rv hg.unit;have hca:∀c∈iB n++[92],c<128:=λc hc=>by
  rcases cb.mp hc with hc|hc
  ·exact hg.cps c hc
  ·erw [aC.mp hc];decide
 have hxl: ↑((iX 0 false (iB n++[92])).map lR)<50000:=by erw [het,aj,uJ];have:=hg.count;show _+1<_;exact aer this
 have h1:ei Dr (zB (ba .Add (ak 4) ↥"\\")) (dN (bf 0) fG (gO (ak 0))) (Oj l n rs y x j un op)= ~~~(.lst (mD ((toks n).flatMap (unitsOf n))++[.tup [.int (↑(iB n):Nat),.str "\\"]])):=by
  have hs:ba .Add (ak 4) ↥"\\" (Oj l n rs y x j un op)= ~~~(.str (T (iB n++[92]))):=dq rfl rfl (by
   erw [<- DC];exact ki _ (T (iB n)) (T [92]) (by erw [gG,gG];simp;exact aes htl))
  erw [li (λst=>∃a,st=⟨[a],[],(Oj l n rs y x j un op).ob⟩) (λ_=>true) (λx=>x) (Ru hs hca) hxl ⟨ac,rfl⟩ ?_]
  ·erw [bL.mpr (λ_ _=>rfl),sQ,het]
  ·rintro v _ st ⟨a,rfl⟩;exact⟨⟨[~~~v],[],(Oj l n rs y x j un op).ob⟩,rfl,rfl,⟨_,rfl⟩,λ_=>rfl⟩
 have h2:ba .Add (ak 5) (j8 (au (jd (au (dJ kr (au (ak 4) aZ)) (au ↥"\\" aZ))) aZ)) (Oj l n rs y x j un op)= ~~~(.lst (mD ((toks n).flatMap (unitsOf n))++[.tup [.int (↑(iB n):Nat),.str "\\"]])):=by have cH:=BO (Oj l n rs y x j un op) (T (iB n)) (by erw [gG];exact Wv htl);erw [gG]at cH;have:=hg.count;exact dq (a:= .ob 5) rfl (rV (bz (qq (bz (iL (bz rfl rfl) cH) (bz rfl rfl)) rfl (by simp)) rfl) rfl (by simp)) (Rl _ rfl rfl (λx h=>by cases h) (by erw [uJ];show _+1<=_;exact aet this))
 have h3:kb dW (au (ba .Add (ak 4) ↥"\"(") aZ) (Oj l n rs y x j un op)= ~~~(BV n):=by
  have ZT:=Ae (n:=n) (P:=toks n) (Q:=[]) (by simp) (r:=[[34],[40]]) (λu hu=>by
   rcases aH.mp hu with rfl|hu
   ·exact⟨.inl ⟨34,by decide,rfl⟩,by decide⟩
   ·exact(aC.mp hu)▸(⟨.inl ⟨40,by decide,rfl⟩,by decide⟩)) ∅ ∅
  have hs:ba .Add (ak 4) ↥"\"(" (Oj l n rs y x j un op)= ~~~(.str (T ((toks n).flatMap (unitsOf n)++[[34],[40]]).flatten)):=dq rfl rfl (by
   erw [dz,<- DC];exact ki _ (T (iB n)) (T [34,40]) (by erw [gG,gG];simp;exact aeu htl))
  refine mY (bz hs rfl) rfl ?_;erw [BP ZT.unit ZT.cps ZT.size ZT.count,uH,dz];rfl
 unfold xk;erw [jX]
 ·rfl
 ·erw [zi (fT h1 h2 (vQ _ (lH λv hv=> ?_))),zi (fT h3 rfl (ne_str _ _))]
  ·rfl
  ·rcases cb.mp hv with hv|hv
   ·let ⟨q,_,rfl⟩:=aQ.mp hv;exact LW _ _
   ·erw [aC.mp hv];exact LW _ _
noncomputable def U5 (n:NN):Nat:=((cK 6).map n).sum
def YY (st:St) (n:NN):My st [.pv (.lst (ig λk=>(n k:Int)))]= ~~~(.int (U5 n:Nat)):=by show(aa (ig λk=>(n k:Int))).bind (λl=>(jQ l).map λns=>CV.pv (.int ns.sum))=_;rw[bK,(by unfold ig;rw[bD];rfl:ig (λk=>(n k:Int))=((cK 6).map λk=>(n k:Int)).map PV.int),pg];show aa (CV.pv (.int ((cK 6).map λk=>(n k:Int)).sum))=_;refine congrArg (λz=>aa (CV.pv (.int z))) ?_;unfold U5;simp[lV]
abbrev BX (n h:NN):PV:= .oO ((zf n).map λy=>(nm y,.int (h y:Nat)))
structure tT (n h:NN) (de f:Nat):Prop where
 hue:Nj n h
 f6:f<6
 fd: ↑(vq n f)+1=de
 all:∀x,x<6-> ↑(vq n x)+1<=de
abbrev qc (l:List Int) (n:NN) (h:NN) (de f:Nat) (rs:SS) (y x j un op wd:OV):St:=Fl l n rs [.list (jv n),.list (jv n),.list (mD ((toks n).flatMap (unitsOf n)))] y x j (~~~(BX n h)) (text:= ~~~(.str (T (iB n)))) (unit:=un) (opening:=op) (bare:= ~~~(BV n)) (AI:= ~~~(.int (de:Nat))) (first:= ~~~(.str (nm f))) (wide:=wd)
def YZ (l:List Int) (n:NN) (hn:∀k,n k<=61000000) (rs:SS) (y x j un op:OV):∃h de f,tT n h de f/\xl (Oj l n rs y x j un op)=aa (.next,qc l n h de f rs y x j un op ac):=by
 have hm:U5 n<500000000:=by have h1:=hn 1;have h2:=hn 2;have h3:=hn 3;have h4:=hn 4;have h5:=hn 5;unfold U5;simp[lV];exact aev (hn 0) h1 h2 h3 h4 h5
 left;let ⟨h,de,f,h1,h2,h3,h4,h5⟩:=U1 (n:=n) hm;right;refine⟨h,de,f,⟨h1,h2,h3,h4⟩,?_⟩;unfold xl bZ;rw[mY (bz rfl (bz (iL (bz rfl rfl) (YY _ n)) rfl)) rfl h5];rfl
def Y0 (l:List Int) (n:NN) (h:NN) (de f:Nat) (rs:SS) (y x j un op:OV):Bs (qc l n h de f rs y x j un op ac)=aa (.next,qc l n h de f rs y x j un op (~~~(.lst [.lst []]))):=rfl
def JF (x:Str) (l:List Str):anyStr x (l.map PV.str)=aa (l.any λy=>y==x):=by
 induction l with
 |nil=>rfl
 |cons y l ih=>show(anyStr x (l.map PV.str)).map ((y==x)|| ·)=_;rw[ih];rfl
def U6 (h:nm a++nm b=nm i++nm j):a=i/\b=j:=by have:=congrArg (λs:Str=>s.cps.toList) h;have e: [97+a,97+b]=[97+i,97+j]:=this;simp at e;exact e
def HC (hi:i<6) (hj:j<6):anyStr (nm i++nm j) ((jT n).map PV.str)=aa (rel n i j):=by
 rw[JF];refine congrArg aa ?_;rw[dr,Ar];unfold jT;constructor
 ·rintro⟨s,hs,e⟩;rw[beq_iff_eq]at e;subst e;let ⟨a,_,hs⟩:=iQ.mp hs;let ⟨b,hb,e⟩:=aQ.mp hs;let ⟨rfl,rfl⟩:=U6 e;exact(aY.mp hb).2
 ·intro h;exact⟨_,iQ.mpr ⟨i,fY.mpr hi,aQ.mpr ⟨j,aY.mpr ⟨fY.mpr hj,h⟩,rfl⟩⟩,beq_self_eq_true _⟩
def o7 (hi:i<6) (hj:j<6) (h1:f st= ~~~(.str (nm i))) (h2:g st= ~~~(.str (nm j))) (h3:h st= ~~~(g4 n)):
  bY .In (ba .Add f g) h st=aa (rel n i j)/\bY .NotIn (ba .Add f g) h st=aa (!rel n i j):=by
 have e:=dq h1 h2 (ki st (nm i) (nm j) (by rw[jS,jS];decide));refine⟨fT e h3 (yo (HC hi hj)),fT e h3 (yo ?_)⟩;show(anyStr (nm i++nm j) ((jT n).map PV.str)).map (!·)=_;rw[HC hi hj];rfl
def JG (l:List PV):iJ l []=aa l.isEmpty:=by
 unfold iJ;induction l with
 |nil=>rfl
 |cons a l=>rw[if_neg (by simp)];rfl
def CJ (A:Nz):List PV:=A.map λi=> .str (nm i)
def kW (W:LN):PV:= .lst (W.map λA=> .lst (CJ A))
def DK (n:NN) (W:LN) (x:Nat): ↑(qt n W x)<=2* ↑W:=by unfold qt;have:=eY (λA=>A.all λy=> !(rel n x y||rel n y x)) W;rw[aj,aw];exact aew this
def Rw (h1:f st=aa a) (h2:g st=aa b):Gj f g st=aa (a||b):=by
 unfold Gj;rw[h1];cases a
 ·exact h2
 ·rfl
abbrev Ry:St->Option CV:=ei Ds (jy (ak 0)) (dN (bf 0) (Gj (bY .In (ba .Add (aX 0) (ak 0)) (aX 1)) (Gj (bY .In (ba .Add (ak 0) (aX 0)) (aX 1)) vD)) (gO (ak 0)))
def uS (n:NN) (x y:Nat):Bool:=rel n x y||rel n y x
def Y1 (hx:x<6) (hA:∀y∈A,y<6) (hl: ↑A<=6):Ry ⟨[~~~(.lst (CJ A))],[~~~(.str (nm x)),~~~(g4 n)],ob⟩= ~~~(.lst (CJ (A.filter λy=>uS n x y))):=by
 unfold Ry;erw [li (λst=>∃a,st=⟨[a],[~~~(.str (nm x)),~~~(g4 n)],ob⟩) (λv=>uS n x (iY v)) (λv=>v) (xM rfl) (by unfold CJ;rw[aw];lia) ⟨ac,rfl⟩ ?_]
 ·unfold CJ;rw[sQ,dF];rw[(by funext k;show uS n x (iY (.str (nm k)))=_;rw[fU]:(λv=>uS n x (iY v)) ∘ (λi=>PV.str (nm i))=λy=>uS n x y)]
 ·rintro v hv st ⟨a,rfl⟩;left;let ⟨y,hy,rfl⟩:=aQ.mp hv;right;refine⟨⟨[~~~(.str (nm y))],[~~~(.str (nm x)),~~~(g4 n)],ob⟩,rfl,?_,⟨_,rfl⟩,λ_=>rfl⟩;rw[fU];rw[Rw (o7 (n:=n) hx (hA y hy) rfl rfl rfl).1 (Rw (o7 (n:=n) (hA y hy) hx rfl rfl rfl).1 rfl),Bool.or_false];rfl
abbrev Fm:St->Option CV:=ei yl (jy (ak 11)) (dN (bf 0) (bY .Eq Ry (j8 aZ)) (gO (ba .Add (ak 0) (j8 (au (aX 0) aZ)))))
def U7 (hx:x<6) (hW:∀A∈W,(∀y∈A,y<6)/\ ↑A<=6) (hl: ↑W<=64) (h1:yl.st st=⟨[ac],[~~~(.str (nm x)),~~~(g4 n)],st.ob⟩) (h2:ak 11 st= ~~~(kW W)):
  ba .Add (ak 11) Fm st= ~~~(kW (qt n W x)):=by
 have hg:Fm st= ~~~(.lst ((W.filter λA=>A.all λy=> !(rel n x y||rel n y x)).map λA=> .lst (CJ (A++[x])))):=by
  unfold Fm;erw [li (λcg=>∃a,cg=⟨[a],[~~~(.str (nm x)),~~~(g4 n)],st.ob⟩) (λv=>match v with| .lst l=>(l.filter λy=>uS n x (iY y)).isEmpty|_=>false) (λv=>match v with| .lst l=> .lst (l++[.str (nm x)])|_=>v) (xM h2) (by rw[aw];exact Ww hl) (h1▸⟨ac,rfl⟩) ?_]
  ·rw[dF,bD];have e:∀A:List Nat,((CJ A).filter λy=>uS n x (iY y)).isEmpty=A.all λy=> !(rel n x y||rel n y x):=λA=>by
    unfold CJ;rw[dF,List.isEmpty_map];have e:(λv=>uS n x (iY v)) ∘ (λi=>PV.str (nm i))=λy=>uS n x y:=by funext k;show uS n x (iY (.str (nm k)))=_;rw[fU]
    rw[e];rw[dr,To,cL,fI];simp[uS]
   rw[(funext e:((λv:PV=>match v with| .lst l=>(l.filter λy=>uS n x (iY y)).isEmpty|_=>false) ∘ λA=>PV.lst (CJ A))=λA=>A.all λy=> !(rel n x y||rel n y x))];have e3:((λv:PV=>match v with| .lst l=>PV.lst (l++[.str (nm x)])|_=>v) ∘ λA=>PV.lst (CJ A))=λA=>PV.lst (CJ (A++[x])):=by funext A;show PV.lst (CJ A++[.str (nm x)])=_;unfold CJ;rw[bH];rfl
   rw[e3]
  ·rintro v hv cg ⟨a,rfl⟩;obtain(⟨A,hA,rfl⟩):=aQ.mp hv;obtain(⟨h6,hA6⟩):=hW A hA;refine⟨⟨[~~~(.lst (CJ A))],[~~~(.str (nm x)),~~~(g4 n)],st.ob⟩,rfl,?_,⟨_,rfl⟩,λ_=> ?_⟩
   ·refine fT (Y1 hx h6 hA6) rfl (yo ?_);show iJ _ []=_;rw[JG];unfold CJ;show _=aa ((A.map λi=>PV.str (nm i)).filter λy=>uS n x (iY y)).isEmpty;rw[dF];rw[(by funext k;show uS n x (iY (.str (nm k)))=_;rw[fU]:(λv=>uS n x (iY v)) ∘ (λi=>PV.str (nm i))=λy=>uS n x y)]
   ·exact dq rfl (rV (bz rfl rfl) rfl (by simp)) (tS _ _ _ (by unfold CJ;rw[aw];show _+1<=_;exact Wx hA6))
 rw[dq h2 hg (tS _ _ _ (by rw[aw,aw];exact aex hl (eY (λA=>A.all λy=> !(rel n x y||rel n y x)) W)))];unfold kW qt;rw[bH,bD];rfl
def NB (R:Nz):∀(P:Nz) (W:LN) (x:OV),P++R=L6-> ↑W<=2 ^ ↑P->(∀A∈W,(∀y∈A,y<6)/\ ↑A<= ↑P)->
  ∃x',lP (jL 15) (aB (bZ (ba .Add (ak 11) Fm) (bf 11)) br) (R.map λi=> .str (nm i)) (qc l n h de f rs y x j un op (~~~(kW W)))=aa (.next,qc l n h de f rs y x' j un op (~~~(kW (R.foldl (qt n) W)))):=by
 induction R with
 |nil=>intro P W x _ _ _;exact⟨x,rfl⟩
 |cons i R ih=>
  intro P W x hp hl hW;have hi:i<6:=fY.mp (hp▸(dS _ ay));have hP: ↑P<6:=by have:=congrArg eX hp;rw[aj,az]at this;exact aey this rfl
  let ⟨x',e⟩:=ih (P++[i]) (qt n W i) (~~~(.str (nm i))) (by rw[<- hp];simp) (by
   have:=DK n W i;rw[aj,be,Nat.pow_succ];exact aez this hl) (λA hA=>by
   rw[aj,be];rcases cb.mp hA with hA|hA
   ·exact⟨(hW A hA).1,by have:=(hW A hA).2;exact aeA this⟩
   ·let ⟨B,hB,rfl⟩:=aQ.mp hA;have hB:=hW B (aY.mp hB).1;refine⟨λz hz=> ?_,by rw[aj,be];exact Cb hB.2⟩;rcases cb.mp hz with hz|hz
    ·exact hB.1 z hz
    ·exact(aC.mp hz)▸hi)
  refine⟨x',?_⟩;erw [bw,iE (st1:=qc l n h de f rs y (~~~(.str (nm i))) j un op (~~~(kW W))) (st2:=qc l n h de f rs y (~~~(.str (nm i))) j un op (~~~(kW (qt n W i)))) rfl ?_,e]
  ·rfl
  ·refine dw ?_;unfold bZ;rw[U7 (n:=n) (x:=i) (W:=W) hi (λA hA=>⟨(hW A hA).1,by have:=(hW A hA).2;exact aeB this hP⟩) (aeC hl (Nat.pow_le_pow_right ∅ (aca hP))) rfl rfl];rfl
def Y2 (l:List Int) (n h:NN) (de f:Nat) (rs:SS) (y x j un op:OV):∃x',Bt (qc l n h de f rs y x j un op (~~~(.lst [.lst []])))=aa (.next,qc l n h de f rs y x' j un op (~~~(kW (ny n)))):=by let ⟨x',e⟩:=NB (l:=l) (n:=n) (h:=h) (de:=de) (f:=f) (rs:=rs) (y:=y) (j:=j) (un:=un) (op:=op) L6 [] [[]] x (gf _) ∅ (λA hA=>by exact(aC.mp hA).symm▸(⟨λz hz=>absurd hz gy,ab _⟩));exact⟨x',(jY (qG _ (λk=>cE (n k)) rfl)).trans e⟩
def LX (h1:M∈ns) (h2:∀a∈ns,a<=M):Mz ns=aa M:=by
 induction ns with
 |nil=>cases h1
 |cons a r=>
  show aa (r.foldl max a)=aa M;let ⟨p,q,s⟩:=tb r a;refine congrArg aa (uQ ?_ ?_)
  ·rcases p with p|p
   ·exact(p).symm▸(h2 a ay)
   ·exact h2 _ (aK _ p)
  ·rcases aH.mp h1 with rfl|h1
   ·exact q
   ·exact s _ h1
def yv:x∈zf n↔x<6:=by
 unfold zf;rw[aQ];constructor
 ·rintro⟨c,hc,rfl⟩;rw[aY,gk]at hc;exact Nat.sub_lt_left_of_lt_add (of_decide_eq_true hc.2) hc.1
 ·intro h;exact⟨6+x,aY.mpr ⟨gk.mpr (aeD h),decide_eq_true (aeE)⟩,by exact KG⟩
def HD (h:f st= ~~~(.oO l)):pq f st=(jQ (l.map (·.2))).bind λns=>(Mz ns).map λm=>CV.pv (.int m):=by unfold pq;rw[h];rfl
def Rz (h1:st.oz a=aa l) (h2:st.oz b=aa m) (ha:a.aP=ac) (h:iJ l m=aa r):sZ st .Eq a b=aa r:=by show(a.aP.bind _).or (afl .Eq ((st.oz a).bind λl=>(st.oz b).bind (iJ l)))=_;rw[ha,h1,h2];exact h
def RA (H:tT n h de f) (hg:g st= ~~~(BX n h)):pq g st= ~~~(.int ((de:Int)- 1)):=by
 left;let ⟨h1,x,hx,h2⟩:=H.hue.max H.f6 H.all H.fd;right;erw [HD (l:=(zf n).map λy=>(nm y,PV.int (h y:Nat))) hg,(by erw [bD,bD];rfl:((zf n).map λy=>(nm y,PV.int (h y:Nat))).map (·.2)=((zf n).map λy=>(h y:Int)).map PV.int),pg,bK,LX (M:=(de:Int)- 1)]
 ·rfl
 ·exact aQ.mpr ⟨x,yv.mpr hx,by exact aeF h2⟩
 ·intro a ha;let ⟨y,hy,rfl⟩:=aQ.mp ha;have:=h1 y (yv.mp hy);exact aeG this
def zj (u:Nz):Bool:=eS "abcdef" (T u)
def JH (us:LN):∀(i:Nat),((((mo i us).map lR).filter λv=>match v with| .tup [_,.str s]=>eS "abcdef" s|_=>false).map λv=>match v with| .tup [_,.str s]=>PV.str s|v=>v)=(us.filter zj).map λu=> .str (T u):=by
 induction us with
 |nil=>intro _;exact rfl
 |cons u us ih=>
  intro i;rw[mo,bw,bl,bl];have ih:=ih (i+ ↑u);show List.map _ (if zj u=true then _ else _)=_;split
  ·rw[bw,ih];rfl
  ·exact ih
def NC (h:p<7):(gI p).filter zj=[]:=by refine UX h ?_ ?_ ?_ ?_ ?_ ?_ ?_<;>decide+kernel
def ND (hc:c<12):(unitsOf n c).filter zj=if c<6 then [[97+c]] else []:=by
 unfold unitsOf qI;split
 ·rename_i h;rw[bl,if_neg (by decide+kernel),bl,if_pos (show zj [97+c]=true from(BR h).1),NC (n7 _)]
 ·rename_i h;rw[bl,if_neg (by rw[show zj [65+(c- 6)]=false from(BR (show c- 6<6 by exact Wd hc)).2.1];decide),bl,if_neg (by decide+kernel)];rfl
def RC (n:NN):((toks n).flatMap (unitsOf n)).filter zj=(Hn n).map λx=>[97+x]:=by
 have key:∀cs:List Nat,(∀c∈cs,c<12)->(cs.flatMap (unitsOf n)).filter zj=(cs.filter λc=>decide (c<6)).map λx=>[97+x]:=by
  intro cs;induction cs with
  |nil=>exact λ_=>rfl
  |cons c cs ih=>
   intro h;erw [bJ,bT,ND (h c ay),ih λc hc=>h c (aK _ hc),bl];by_cases hc:c<6
   ·erw [if_pos hc,if_pos (decide_eq_true hc)];rfl
   ·erw [if_neg hc,if_neg (by simpa using hc)];rfl
 erw [key _ λc hc=>gk.mp hc];refine congrArg _ ?_;unfold toks Hn US;erw [ly];refine eR λj _=> ?_;erw [List.filter_filter,show cK 12=L6++L6.map (6+ ·) by decide,bT,dF];erw [cL (l:=L6) (p:=_ ∘ _)|>.mpr λc _=>by simp;intro h;exact aeH h,zw,bu];exact io λc hc=>by erw [decide_eq_true (fY.mp hc),Bool.true_and]
def HE:ei ym (Gu (ak 5)) (dN (pV (eT (bf 0) (eT (bf 1) pU))) (bY .In (ak 1) ↥"abcdef") (gO (ak 1))) (qc l n h de f rs y x j un op wd)= ~~~(.lst (jv n)):=by
 erw [li (λst=>∃a b,st=⟨[a,b],[],(qc l n h de f rs y x j un op wd).ob⟩) (λv=>match v with| .tup [_,.str s]=>eS "abcdef" s|_=>false) (λv=>match v with| .tup [_,.str s]=>PV.str s|v=>v) (rfl:Gu (ak 5) (qc l n h de f rs y x j un op wd)=aa (mD ((toks n).flatMap (unitsOf n)))) (by erw [uJ];have:=(BW n).count;exact aeI this) ⟨ac,ac,rfl⟩ ?_]
 ·unfold mD;erw [JH,RC,bD];rfl
 ·rintro v hv st ⟨a,b,rfl⟩;let ⟨q,_,rfl⟩:=aQ.mp hv;exact⟨⟨[~~~(.int q.1),~~~(.str q.2)],[],(qc l n h de f rs y x j un op wd).ob⟩,rfl,rfl,⟨_,_,rfl⟩,λ_=>rfl⟩
def zk (n:NN):iJ (jv n) (jv n)=aa true:=lH λv hv=>by let ⟨i,_,rfl⟩:=aQ.mp hv;exact uC 2 _
def DL (h1:f st=aa a) (h2:g st=aa b) (h3:h st=aa d) (h4:sZ st o1 a b=aa p) (h5:sZ st o2 b d=aa q):vE o1 o2 f g h st=aa (p&&q):=by unfold vE;rw[h1,h2,h3];show(sZ st o1 a b).bind _=_;rw[h4];show(sZ st o2 b d).map _=_;rw[h5];rfl
def Fn (h:f st=aa a):x9 f st=aa (!a):=by unfold x9;rw[h];rfl
def U8 (H:tT n h de f) (hw:ak 11 st= ~~~(kW (ny n))) (sJ:rd.st st=⟨[ac],[],st.ob⟩) (hwl: ↑(ny n)<50000):
  dJ Ep (au (ei rd (jy (ak 11)) (dN (bf 0) fG (gO (dJ kr (au (ak 0) aZ))))) aZ) st= ~~~(.int (de:Nat)):=by
 left;let ⟨h1,A,hA,h2⟩:=Hp H.f6 H.all H.fd;right;have hc:ei rd (jy (ak 11)) (dN (bf 0) fG (gO (dJ kr (au (ak 0) aZ)))) st= ~~~(.lst (((ny n).map λA=>(↑A:Int)).map PV.int)):=by
  erw [li (λcg=>∃a,cg=⟨[a],[],st.ob⟩) (λ_=>true) (λv=>match v with| .lst l=> .int (↑l:Nat)|v=>v) (xM hw) (by rw[aw];exact hwl) (sJ▸⟨ac,rfl⟩) ?_]
  ·rw[bL.mpr λ_ _=>rfl,bD,bD];have e:((λv:PV=>match v with| .lst l=>PV.int (↑l:Nat)|v=>v) ∘ λA=>PV.lst (CJ A))=PV.int ∘ λA=>(↑A:Int):=by funext A;show PV.int (↑(CJ A):Nat)=_;unfold CJ;rw[aw];rfl
   rw[e]
  ·rintro v hv cg ⟨a,rfl⟩;let ⟨A,hA,rfl⟩:=aQ.mp hv;have:=h1 A hA;exact⟨⟨[~~~(.lst (CJ A))],[],st.ob⟩,rfl,rfl,⟨_,rfl⟩,λ_=>iL (bz rfl rfl) (tQ _ _ (by unfold CJ;rw[aw];exact C3 ((((Ad n).1 A hA).1.length_le))))⟩
 refine iL (bz hc rfl) ?_;show(aa (((ny n).map λA=>(↑A:Int)).map PV.int)).bind (λl=>(jQ l).bind λns=>(Mz ns).map λm=>CV.pv (.int m))=_;rw[bK,pg,bK,LX (M:=(de:Int))]
 ·rfl
 ·exact aQ.mpr ⟨A,hA,by rw[h2]⟩
 ·intro a ha;let ⟨B,hB,rfl⟩:=aQ.mp ha;have:=h1 B hB;exact Aw this
def NE (n:NN): ↑(ny n)<=64:=by
 have key:∀(R:Nz) (W:LN),↑(R.foldl (qt n) W)<=2 ^ ↑R* ↑W:=by
  intro R;induction R with
  |nil=>intro W;simp
  |cons i R ih=>intro W;rw[jh,az,Nat.pow_succ,Nat.mul_assoc];exact aA (ih (qt n W i)) (pO (2 ^ ↑R) (DK n W i))
 exact key L6 [[]]
def Y3 (l:List Int) (n h:NN) (de f:Nat) (H:tT n h de f) (rs:SS) (y x j un op:OV):xm (qc l n h de f rs y x j un op (~~~(kW (ny n))))=aa (.next,qc l n h de f rs y x j un op (~~~(kW (ny n)))):=by
 have h1:vE .Eq .Eq (ak 2) (ak 3) (ei ym (Gu (ak 5)) (dN (pV (eT (bf 0) (eT (bf 1) pU))) (bY .In (ak 1) ↥"abcdef") (gO (ak 1)))) (qc l n h de f rs y x j un op (~~~(kW (ny n))))=aa true:=
  DL (p:=true) (q:=true) (a:= .ob 3) (b:= .ob 4) rfl rfl HE (Rz (a:= .ob 3) rfl rfl rfl (zk n)) (Rz (a:= .ob 4) rfl rfl rfl (zk n))
 have h2:vE .Eq .Eq (ba .Add ⇑1 (pq (aX 1))) (ak 9) (dJ Ep (au (ei rd (jy (ak 11)) (dN (bf 0) fG (gO (dJ kr (au (ak 0) aZ))))) aZ)) (qc l n h de f rs y x j un op (~~~(kW (ny n))))=aa true:=by
  have e:∀a:Int,sZ (qc l n h de f rs y x j un op (~~~(kW (ny n)))) .Eq (.pv (.int a)) (.pv (.int a))=aa true:=λa=>by show aa (a==a)=_;erw [beq_self_eq_true]
  have h3:ba .Add ⇑1 (pq (aX 1)) (qc l n h de f rs y x j un op (~~~(kW (ny n))))= ~~~(.int (de:Nat)):=by erw [dq rfl (RA H rfl) (tM _ 1 _)];refine congrArg (λz=>aa (CV.pv (.int z))) ?_;exact aeJ
  exact DL (p:=true) (q:=true) h3 rfl (U8 H rfl rfl (by have:=NE n;exact Ww this)) (e _) (e _)
 unfold xm;erw [jX]
 ·rfl
 ·erw [zi (Fn h1),zi (Fn h2)];rfl
def RD (h:st.WK o=aa l) (k:l.lookup x=aa d):nY st o (.pv (.str x))=aa d:=by show(st.WK o).bind _=_;rw[h];exact k
def DM (st:St) (hx:x<6):nY st (.pv (BX n h)) (.pv (.str (nm x)))=aa (.int (h x:Nat)):=
 RD (l:=(zf n).map λy=>(nm y,PV.int (h y:Nat))) rfl (vP (F:=λy=>PV.int (h y:Nat)) (yv.mpr hx))
def Y4 (l:List Int) (n h:NN) (de f:Nat) (H:tT n h de f) (rs:SS) (y x j un op wd:OV):xn (qc l n h de f rs y x j un op wd)=aa (.next,qc l n h de f rs y x j un op wd):=by
 let ob:=(qc l n h de f rs y x j un op wd).ob;let cv:List (Option CV):=[~~~(cq λk=>cE (n k)),~~~(g4 n),~~~(BX n h)];have RZ:∀a b,a<6->b<6->(decide ((nm a).cps.toList< (nm b).cps.toList)&&((h a:Int)==(h b:Int)&&(!rel n a b&&(!rel n b a&&true))))=false:=by
  intro a b ha hb;by_cases e:a=b
  ·subst e;rw[decide_eq_false (List.lt_irrefl _)];rfl
  ·cases h1:rel n a b with
   |true=>simp
   |false=>
    cases h2:rel n b a with
    |true=>simp
    |false=>have:=H.hue.inc ha hb e ⟨h1,h2⟩;rw[show((h a:Int)==(h b:Int))=false from beq_false_of_ne (aeK this)];simp
 unfold xn;rw[jX]
 ·rfl
 ·refine fT (a:= .pv (.lst [])) ?_ rfl (vQ _ rfl);erw [yq (λst=>∃a b,st=⟨[a,b],cv,ob⟩) (λ_ _=>false) (λi j=> .str (nm i++nm j)) (qG _ (λk=>cE (n k)) rfl) ⟨ac,ac,rfl⟩ ?_]
  ·rfl
  ·rintro a ha st ⟨u,v,rfl⟩;refine⟨⟨[~~~(.str (nm a)),v],cv,ob⟩,rfl,rfl,⟨_,_,rfl⟩,qG _ (λk=>cE (n k)) rfl,λst=>∃v,st=⟨[~~~(.str (nm a)),v],cv,ob⟩,⟨_,rfl⟩,λst ⟨v,h⟩=>⟨_,v,h⟩,?_⟩;rintro b hb st ⟨v,rfl⟩;refine⟨⟨[~~~(.str (nm a)),~~~(.str (nm b))],cv,ob⟩,rfl,?_,⟨_,rfl⟩,λe=>(by cases e)⟩;rw[<- RZ a b ha hb];exact rW rfl (rW (fT (cA (f:=aX 2) (g:=ak 0) rfl rfl (DM _ ha)) (cA (f:=aX 2) (g:=ak 1) rfl rfl (DM _ hb)) rfl) (rW (o7 (n:=n) ha hb rfl rfl rfl).2 (rW (o7 (n:=n) hb ha rfl rfl rfl).2 rfl)))
def JI (a:Nz) (h:1<= ↑a):lm (T a) ac (aa (-1))=T (a.take (↑a- 1)):=by
 have e:lm (T a) ac (aa (-1))=lm (T a) ac (aa ((↑a- 1:Nat):Int)):=by
  unfold lm;have:nD ac (aa (-1)) 1 ↑(T a)=nD ac (aa ((↑a- 1:Nat):Int)) 1 ↑(T a):=by unfold nD;rw[gG];simp only[show(1:Int)>0 by decide,if_true,show((-1:Int)<0) by decide];rw[if_neg (nV.mpr (dO _)),sk h,uh (-1)];rfl
  rw[this]
 rw[e,Q0 (jU _ _)]
def NF (h2:d<=6):Txt.mul (T [41]) (d:Nat)=T (bQ d 41):=UX (gJ h2) rfl rfl rfl rfl rfl rfl rfl
def BY (n:NN) (P:Nz):List Nat:=(P.flatMap (unitsOf n)).flatten++[40]
def fC (n:NN) (P:Nz) (d:Nat):List Nat:=BY n P++bQ d 41
def BZ (ht:toks n=P++f::Q) (hf:f<6):∃r,iB n=BY n P++(97+f)::r:=by refine⟨(gI (dP (n f))).flatten++(Q.flatMap (unitsOf n)).flatten,?_⟩;unfold iB BY;rw[ht,iD,bJ,dz,dz,show unitsOf n f=[40]::[97+f]::gI (dP (n f)) by unfold unitsOf qI;rw[if_pos hf]];simp
def JJ (h:p<7):∀c∈(gI p).flatten,c<97:=by refine UX h ?_ ?_ ?_ ?_ ?_ ?_ ?_<;>decide
def RE (ht:toks n=P++f::Q) (hf:f<6):97+f∉BY n P:=by
 intro h;unfold BY at h;rcases cb.mp h with h|h
 ·let ⟨u,hu,hc⟩:=nG.mp h;let ⟨c,hcP,hu⟩:=iQ.mp hu;unfold unitsOf qI at hu;split at hu
  ·rcases aH.mp hu with rfl|hu
   ·have:=aC.mp hc;exact Wy this
   ·rcases aH.mp hu with rfl|hu
    ·have:=aC.mp hc;exact aeL this (λe=>mZ ((oJ ht).mp (e▸hcP)).2)
    ·have:=JJ (n7 (n c)) _ (nG.mpr ⟨u,hu,hc⟩);exact aeM this
  ·rcases aH.mp hu with rfl|hu
   ·have:=aC.mp hc;exact aeN this ((gk (n:=n)).mp (by rw[ht];exact fu _ hcP))
   ·rw[aC.mp hu]at hc;have:=aC.mp hc;exact aeO this
 ·have:=aC.mp h;exact Wy this
def DN (H:tT n h de f):1<=de/\de<=6:=by
 have:=fq (l₁:=f::vq n f) (fE.mpr ⟨λh=>mZ (jZ.mp h).2.1,lj.filter _⟩) (l₂:=L6) λy hy=>by
  rcases aH.mp hy with rfl|hy
  ·exact fY.mpr H.f6
  ·exact fY.mpr (jZ.mp hy).1
 rw[az]at this;exact aeP H.fd this rfl
abbrev NG (l:List Int) (n:NN) (h:NN) (de f:Nat) (rs:SS) (y x j un op:OV) (fr gv kp rt pr du:OV):St:=Fl l n rs [.list (jv n),.list (jv n),.list (mD ((toks n).flatMap (unitsOf n)))] y x j (~~~(BX n h)) (text:= ~~~(.str (T (iB n)))) (unit:=un) (opening:=op) (bare:= ~~~(BV n)) (AI:= ~~~(.int (de:Nat))) (first:= ~~~(.str (nm f))) (wide:= ~~~(kW (ny n))) (front:=fr) (given:=gv) (kept:=kp) (right:=rt) (pair:=pr) (due:=du)
def Ah (ht:toks n=P++f::Q) (hf:f<6): ↑(BY n P)<60:=by let ⟨r,hr⟩:=BZ ht hf;have:=oZ n;rw[hr,aj,az]at this;exact aeQ this
def Y5 (l:List Int) (n h:NN) (H:tT n h de f) (ht:toks n=P++f::Q) (rs:SS) (y x j un op:OV):xo (NG l n h de f rs y x j un op ac ac ac ac ac ac)=aa (.next,NG l n h de f rs y x j un op (~~~(.str (T (fC n P de)))) ac ac ac ac ac):=by
 left;let ⟨r,hr⟩:=BZ ht H.f6;let ⟨d1,d2⟩:=DN H;right;have hix:eQ "str" AP (ak 4) (au (ak 10) aZ) (NG l n h de f rs y x j un op ac ac ac ac ac ac)= ~~~(.int (↑(BY n P):Nat)):=by let ⟨is,hi⟩:=QX (B:=r) (RE ht H.f6);rw[<- hr]at hi;refine pD (o:= .pv (.str (T (iB n)))) (ds:=[.pv (.str (nm f))]) rfl rfl rfl ?_;show WM (jg (T (iB n)) (T [97+f]) 0 ↑(T (iB n)) 1)=_;rw[hi];rfl
 have hsl:fN (ak 4) eD (gV (eQ "str" AP (ak 4) (au (ak 10) aZ))) eD (NG l n h de f rs y x j un op ac ac ac ac ac ac)= ~~~(.str (T (BY n P))):=by
  have ho:gV (eQ "str" AP (ak 4) (au (ak 10) aZ)) (NG l n h de f rs y x j un op ac ac ac ac ac ac)=aa (aa (↑(BY n P):Int)):=by unfold gV;rw[hix];rfl
  erw [uF rfl rfl ho (by erw [gG];exact Wv (oZ n)),Q0 (by erw [hr,aj];exact OP),hr,List.take_left]
 have hmu:ba .Mult ↥")" (ak 9) (NG l n h de f rs y x j un op ac ac ac ac ac ac)= ~~~(.str (T (bQ de 41))):=by
  refine dq rfl rfl ?_;have e:AF .Mult (.str (T [41])) (.int (de:Nat))=aa (.str (T (bQ de 41))):=by show(if ↑(T [41])=1/\(0:Int)<=(de:Nat)/\((de:Nat):Int)<=1000 then aa (PV.str (Txt.mul (T [41]) (de:Nat))) else ac)=_;rw[if_pos ⟨rfl,by exact F8,by exact aeR d2⟩,NF d2]
  rw[show ah ")" =T [41] from rfl];exact Hb e
 unfold xo bZ;rw[dq hsl hmu (ki _ _ _ (by rw[gG,gG,nF];exact aeS (Ah ht H.f6) d2)),DC];rfl
def mq (n:NN) (P:Nz) (d:Nat):List Str:=[T (fC n P d),T (fC n P (d- 1)),T (41::fC n P (d- 1)),T (iB n)]
def rm (n:NN) (P:Nz) (d:Nat): ↑(fC n P d)= ↑(BY n P)+d:=by unfold fC;rw[aj,nF]
def NH (h:1<=d):(fC n P d).take (↑(fC n P d)- 1)=fC n P (d- 1):=by rw[rm,Nat.add_sub_assoc h];unfold fC;rw[List.take_length_add_append,List.take_replicate,iz (jU _ _)]
def Y6 (ht:toks n=P++f::Q) (hf:f<6) (h1:1<=d) (h2:d<=6) (h:ak 12 st= ~~~(.str (T (fC n P d)))):fN (ak 12) eD (gV (wL ⇑1)) eD st= ~~~(.str (T (fC n P (d- 1)))):=by have Sh:=Ah ht hf;rw[uF (i:=ac) (j:=aa (-1)) h rfl rfl (by rw[gG,rm];exact aA (gb (ce Sh) h2) ∅),JI _ (by rw[rm];exact aA h1 (gn ..)),NH h1]
def HF {st:St} {n:NN} {P Q:Nz} {f d:Nat} (ht:toks n=P++f::Q) (hf:f<6) (h1:1<=d) (h2:d<=6) (h:ak 12 st= ~~~(.str (T (fC n P d)))) (h':ak 4 st= ~~~(.str (T (iB n)))):
  j8 (au (ak 12) (au (fN (ak 12) eD (gV (wL ⇑1)) eD) (au (ba .Add ↥")" (fN (ak 12) eD (gV (wL ⇑1)) eD)) (au (ak 4) aZ)))) st= ~~~(.lst ((mq n P d).map PV.str)):=by
 have Sh:=Ah ht hf;have hc:=Y6 ht hf h1 h2 h;have ha:ba .Add ↥")" (fN (ak 12) eD (gV (wL ⇑1)) eD) st= ~~~(.str (T (41::fC n P (d- 1)))):=by rw[dq rfl hc (ki st (T [41]) (T (fC n P (d- 1))) (by rw[gG,gG,rm];exact aA (dX (gb (ce Sh) (aA (jU _ _) h2)) 1) ∅)),DC];rfl
 exact rV (bz h (bz hc (bz ha (bz h' rfl)))) rfl (by show 4<=1000;decide)
def Y7 (l:List Int) (n h:NN) (H:tT n h de f) (ht:toks n=P++f::Q) (rs:SS) (y x j un op:OV):xq (NG l n h de f rs y x j un op (~~~(.str (T (fC n P de)))) ac ac ac ac ac)=aa (.next,NG l n h de f rs y x j un op (~~~(.str (T (fC n P de)))) (~~~(.lst ((mq n P de).map PV.str))) ac ac ac ac):=by unfold xq bZ;rw[HF ht H.f6 (DN H).1 (DN H).2 rfl rfl];rfl
def xN (d:Nat) (h:d<=6):(∀u∈([[40]]++bQ d [41]:LN),Jr u/\∀c∈u,c<128)/\ ↑([[40]]++bQ d [41]:LN)<=100/\([[40]]++bQ d [41]:LN).flatten.length<=100:=by
 refine⟨λu hu=> ?_,by simp;exact aA h ∅,by simp;exact aA h ∅⟩;rcases cb.mp hu with hu|hu
 ·rw[aC.mp hu];exact⟨.inl ⟨40,by decide,rfl⟩,by decide⟩
 ·rw[F5 hu];exact⟨.inl ⟨41,by decide,rfl⟩,by decide⟩
def sa (n:NN) (P:Nz) (d:Nat):List (List Nat):=P.flatMap (unitsOf n)++([[40]]++bQ d [41])
def RF:∀d:Nat,(bQ d [41]:LN).flatten=bQ d 41:=by
 intro l9;induction l9 with
 |zero=>exact rfl
 |succ d ih=>rw[wl,fQ,ih];rfl
def tU (n:NN) (P:Nz) (d:Nat):(sa n P d).flatten=fC n P d:=by unfold sa fC BY;rw[dz,dz,RF];simp
def tV (ht:toks n=P++f::Q) (h:d<=6):Good (sa n P d):=Ae ht (xN d h).1 (xN d h).2.1 (xN d h).2.2
def HG (n:NN) (P:Nz) (d:Nat):gD ac (sa n P d)=P.flatMap (ju n)++([40]::bQ d [41]):=by unfold sa;rw[uH];show _++gD ac ([40]::bQ d [41])=_;rw[oX ∅,BQ]
def DO (H:tT n h de f) (ht:toks n=P++f::Q) (d:Nat):uG 0 (gD ac (sa n P d))=if d<=de then aa (de- d) else ac:=by have h1:=Hv (n:=n) P [] (f::Q) (by rw[ht];rfl) ([40]::bQ d [41]);rw[gf]at h1;rw[HG];refine(show uG 0 _=uG ↑(mn ([]:Nz)) _ from rfl).trans (h1.trans ?_);show uG (↑(mn P)+1) (bQ d [41])=_;rw[(by rw[Jq ht H.f6,H.fd]: ↑(mn P)+1=de),Nm]
def HH (H:tT n h de f) (ht:toks n=P++f::Q):cZ [.str (T (fC n P de))]=aa (PV.bool true)/\cZ [.str (T (fC n P (de- 1)))]=aa (PV.bool false)/\cZ [.str (T (41::fC n P (de- 1)))]=aa (PV.bool false)/\cZ [.str (T (iB n))]=aa (PV.bool true):=by
 let ⟨d1,d2⟩:=DN H;refine⟨?_,?_,?_,?_⟩
 ·rw[<- tU,xI (tV ht d2),DO H ht,if_pos (ab _),dc];rfl
 ·rw[<- tU,xI (tV ht (O5 d2)),DO H ht,if_pos (aeT),show de- (de- 1)=1 by exact aeU d1];rfl
 ·have hg:=tV (d:=de- 1) ht (O5 d2);have Kf:=rm n P (de- 1);rw[<- tU]at Kf⊢;have sJ: ↑(sa n P (de- 1))<=8000:=by let ⟨_,a2,_⟩:=uI n P λc hc=>(gk (n:=n)).mp (by rw[ht];exact fu _ hc);have:=rl n;rw[ht,aj]at this;have h2:=(xN (de- 1) (O5 d2)).2.1;unfold sa;rw[aj];exact aeV a2 h2 this
  have ZT:Good ([41]::sa n P (de- 1)):=⟨λu hu=>by
    rcases aH.mp hu with rfl|hu
    ·exact .inl ⟨41,by decide,rfl⟩
    ·exact hg.unit u hu,λu hu=>by
    rcases aH.mp hu with rfl|hu
    ·decide
    ·exact hg.ascii u hu,by rw[fQ,aj,Kf];simp;exact aeW (Ah ht H.f6) d2,by rw[az];exact aeX sJ⟩
  have:=xI ZT;rw[fQ]at this;refine Eq.trans this ?_;rw[oX ∅];rfl
 ·refine(xI (BW n)).trans ?_;have h1:=Hv (n:=n) (toks n) [] [] (by simp) [];rw[gf,QV,bu]at h1;have h2:=uH n (toks n) [];rw[bu]at h2;rw[h2];show aa (PV.bool (uG 0 (_++[])==aa 0))=_;rw[bu,show uG 0 ((toks n).flatMap (ju n))=aa 0 from h1];rfl
def Y8 (l:List Int) (n h:NN) (H:tT n h de f) (ht:toks n=P++f::Q) (rs:SS) (y x j un op:OV):xr (NG l n h de f rs y x j un op (~~~(.str (T (fC n P de)))) (~~~(.lst ((mq n P de).map PV.str))) ac ac ac ac)=aa (.next,NG l n h de f rs y x j un op (~~~(.str (T (fC n P de)))) (~~~(.lst ((mq n P de).map PV.str))) ac ac ac ac):=by
 left;let ⟨c1,c2,c3,c4⟩:=HH H ht;right;let rs4:List (Str×Bool):=[(T (fC n P de),true),(T (fC n P (de- 1)),false),(T (41::fC n P (de- 1)),false),(T (iB n),true)];have hp:hZ [.lst ((mq n P de).map PV.str)]=aa (.lst ([T (fC n P de),Q4,Q4,T (iB n)].map PV.str)):=YL (rs:=rs4) (λr hr=>by
  rcases aH.mp hr with rfl|hr
  ·exact c1
  ·rcases aH.mp hr with rfl|hr
   ·exact c2
   ·rcases aH.mp hr with rfl|hr
    ·exact c3
    ·exact(aC.mp hr)▸c4) (by show 4<1000;decide)
 unfold xr;rw[jX]
 ·rfl
 ·have e1:=fT (op:= .NotEq) (mY (bz (f:=ak 13) (g:=aZ) (l:=[]) (st:=NG l n h de f rs y x j un op (~~~(.str (T (fC n P de)))) (~~~(.lst ((mq n P de).map PV.str))) ac ac ac ac) rfl rfl) rfl hp) (rV (bz (f:=ak 12) rfl (bz (f:= ↥"('', '')") rfl (bz (f:= ↥"('', '')") rfl (bz (f:=ak 4) (g:=aZ) (l:=[]) rfl rfl)))) rfl (by show 4<=1000;decide)) (vQ _ (tO [T (fC n P de),Q4,Q4,T (iB n)]));rw[zi e1,zi (fT (op:= .NotEq) (f:=ak 13) (st:=NG l n h de f rs y x j un op (~~~(.str (T (fC n P de)))) (~~~(.lst ((mq n P de).map PV.str))) ac ac ac ac) rfl (HF ht H.f6 (DN H).1 (DN H).2 rfl rfl) (vQ _ (tO (mq n P de))))];rfl
def FT (l:List Int) (n h:NN) (de f:Nat) (rs:SS) (y x j un op fr gv kp rt pr du:OV):St:=NG l n h de f rs y x j un op fr gv kp rt pr du
def LY (sJ:cl.st st=⟨[ac],[~~~(.str (nm x)),~~~(g4 n)],ob⟩) (hit:it st=aa (L6.map λi=> .str (nm i)))
  (ht:∀i,i<6->test ⟨[~~~(.str (nm i))],[~~~(.str (nm x)),~~~(g4 n)],ob⟩=aa (p i)):ei cl it (dN (bf 0) test (gO (ak 0))) st= ~~~(fL (L6.filter p)):=by
 erw [xB (λst=>∃a,st=⟨[a],[~~~(.str (nm x)),~~~(g4 n)],ob⟩) p (λi=> .str (nm i)) hit (sJ▸⟨ac,rfl⟩) ?_]
 ·rfl
 ·rintro i hi st ⟨a,rfl⟩;exact⟨⟨[~~~(.str (nm i))],[~~~(.str (nm x)),~~~(g4 n)],ob⟩,rfl,ht i hi,⟨_,rfl⟩,λ_=>rfl⟩
def vY (A:Nz):iJ (A.map λi=>PV.str (nm i)) (A.map λi=>PV.str (nm i))=aa true:=lH λv hv=>by let ⟨i,_,rfl⟩:=aQ.mp hv;exact uC 2 _
def Y9 (l:List Int) (n h:NN) (de f:Nat) (rs:SS) (y x j un op fr gv:OV):tI (FT l n h de f rs y x j un op fr gv ac ac ac ac)=aa (.next,FT l n h de f rs y x j un op fr gv ac ac ac ac):=by
 let ob:=(FT l n h de f rs y x j un op fr gv ac ac ac ac).ob;let C (a:OV):List (Option CV):=[a,~~~(cq λi=>fL (ii n i)),~~~(cq λk=>cE (n k)),~~~(g4 n),~~~(cq λi=>fL (kC n i))];unfold tI;rw[jX]
 ·rfl
 ·refine fT (a:= .pv (.lst [])) ?_ rfl (vQ _ rfl);erw [xB (λst=>∃a,st=⟨[],C a,ob⟩) (λ_=>false) (λi=> .str (nm i)) (qG _ (λk=>cE (n k)) rfl) ⟨ac,rfl⟩ ?_]
  ·rw[cL.mpr λ_ _=>by decide];rfl
  ·rintro i hi st ⟨a,rfl⟩;refine⟨⟨[],C (~~~(.str (nm i))),ob⟩,rfl,?_,⟨_,rfl⟩,λe=>(by cases e)⟩;have h1:bY .NotEq (bk (aX 1) (aX 0)) (ei Dt (jy (aX 2)) (dN (bf 0) (bY .In (ba .Add (ak 0) (aX 0)) (aX 1)) (gO (ak 0)))) ⟨[],C (~~~(.str (nm i))),ob⟩=aa false:=
    fT (cA (f:=aX 1) (g:=aX 0) rfl rfl (gi _ (λi=>fL (ii n i)) (fY.mpr hi))) (LY (n:=n) (x:=i) (ob:=ob) (p:=λk=>rel n k i) rfl (qG _ (λk=>cE (n k)) rfl) λk hk=>(o7 hk hi rfl rfl rfl).1) (vQ _ (vY (ii n i)))
   have h2:bY .NotEq (bk (aX 4) (aX 0)) (ei Du (jy (aX 2)) (dN (bf 0) (bY .In (ba .Add (aX 0) (ak 0)) (aX 1)) (gO (ak 0)))) ⟨[],C (~~~(.str (nm i))),ob⟩=aa false:=
    fT (cA (f:=aX 4) (g:=aX 0) rfl rfl (gi _ (λi=>fL (kC n i)) (fY.mpr hi))) (LY (n:=n) (x:=i) (ob:=ob) (p:=λk=>rel n i k) rfl (qG _ (λk=>cE (n k)) rfl) λk hk=>(o7 hi hk rfl rfl rfl).1) (vQ _ (vY (kC n i)))
   rw[zi h1,zi h2];rfl
def HJ (st:St) (n:NN) (h:aX 5 st= ~~~(mP n)):bk (aX 5) ⇑0 st= ~~~(.lst (bM (lC n))):=
 cA h rfl (kz _ [.lst (bM (lC n)),.lst (bM (ri n))] 0 ∅ rfl)
abbrev n8 (n:NN):Option CV:= ~~~(.lst (bM (lC n)))
abbrev uT:Option CV:= ~~~(PV.bool true)
def RH (st:St) (l:List PV) (h: ↑l<=10000):Lb st [.pv (.lst l)]= ~~~(.lst l):=by show((aa l).bind λl=>if ↑l<=sizeLine then aa (CV.pv (.lst l)) else ac)=_;rw[bK,if_pos (KE h rfl)]
def HK (h1:a st= ~~~va) (h2:b st= ~~~(PV.bool x)) (h3:t st=aa tv) (h4:r st= ~~~(.lst q)) (h5:st.I8 tv=aa w):w9 i j a b t r st=aa (.next,ie i (.pv va) (ie j (.pv (PV.bool x)) st)):=by unfold w9;rw[h1,h2,h3,h4];show(st.I8 tv).map _=_;rw[h5];rfl
def Za (l:List Int) (n h:NN) (de f:Nat) (rs:SS) (y x j un op fr gv:OV):Bu (FT l n h de f rs y x j un op fr gv ac ac ac ac)=aa (.next,FT l n h de f rs y x j un op fr gv (n8 n) uT ac ac):=by
 let st:=FT l n h de f rs y x j un op fr gv ac ac ac ac;have hr:bk (aX 5) ⇑0 st= ~~~(.lst (bM (lC n))):=HJ _ n rfl;have h1:dJ Lb (au (bk (aX 5) ⇑0) aZ) st= ~~~(.lst (bM (lC n))):=by refine iL (bz hr rfl) ?_;have:=xD n;exact RH _ _ (by unfold bM;rw[aw];exact C3 this)
 have h2:qD (bY .Eq (ei yn (jy (aX 12)) (dN (bf 0) (x9 (mw (bk (bk (aX 0) (ak 0)) ⇑2))) (gO (ak 0)))) (j8 aZ)) st= ~~~(PV.bool true):=by
  have hc:ei yn (jy (aX 12)) (dN (bf 0) (x9 (mw (bk (bk (aX 0) (ak 0)) ⇑2))) (gO (ak 0))) st= ~~~(.lst []):=by
   erw [xB (λcg=>∃a,cg=⟨[a],[~~~(cq λk=>jR (n k))],st.ob⟩) (λ_=>false) (λi=> .str (nm i)) (qG _ (λk=>cE (n k)) rfl) ⟨ac,rfl⟩ ?_]
   ·rw[cL.mpr λ_ _=>by decide];rfl
   ·rintro i hi cg ⟨a,rfl⟩;refine⟨⟨[~~~(.str (nm i))],[~~~(cq λk=>jR (n k))],st.ob⟩,rfl,?_,⟨_,rfl⟩,λe=>(by cases e)⟩;refine Fn (a:=true) ?_;unfold mw;rw[cA (cA (f:=aX 0) (g:=ak 0) rfl rfl (gi _ (λk=>jR (n k)) (fY.mpr hi))) rfl (mO _ [.fF (fl (lo (n i))),.fF (fl (Mine.hi (n i))),PV.bool true] 2 ∅ rfl)];rfl
  unfold qD;rw[fT hc rfl (E4 _ rfl)];rfl
 exact HK h1 h2 (tv:= .inst 0) (w:=(2,rs.map cW)) rfl hr rfl
def tW (i j:Nat):List PV:=[cW (up j,nm i),cW (nm i++up i,nm j)]
def DP (h:v∈(jT n).map PV.str):∃i j,i<6/\j<6/\rel n i j=true/\v= .str (nm i++nm j):=by left;let ⟨s,hs,rfl⟩:=aQ.mp h;let ⟨i,hi,hs⟩:=iQ.mp hs;let ⟨j,hj,rfl⟩:=aQ.mp hs;right;rw[aY]at hj;exact⟨i,j,fY.mp hi,fY.mp hj.1,hj.2,rfl⟩
noncomputable def RI (v:PV):Nat×Nat:=match v with
 | .str s=>(s.cps.toList.headD 0- 97,s.cps.toList.getD 1 0- 97)
 |_=>(0,0)
def RJ (i j:Nat):RI (.str (nm i++nm j))=(i,j):=by show(97+i- 97,97+j- 97)=_;rw[bO,bO]
def yw (h:f st= ~~~(.str (nm i++nm j))):bk f ⇑0 st= ~~~(.str (nm i))/\bk f ⇑1 st= ~~~(.str (nm j)):=
 ⟨cA h rfl (uA _ _ 0 ∅ (c:=97+i) rfl),cA h rfl (uA _ _ 1 ∅ (c:=97+j) rfl)⟩
def pairs_len (n:NN): ↑(jT n)<=36:=by
 have h6:∀i,↑((L6.filter (rel n i)).map λj=>nm i++nm j)<=6:=λi=>by rw[aw];exact jN _
 unfold jT;rw[pJ];have h0:=h6 0;have h1:=h6 1;have h2:=h6 2;have h3:=h6 3;have h4:=h6 4;have h5:=h6 5;rw[show(L6.map λi=> ↑((L6.filter (rel n i)).map λj=>nm i++nm j)).sum= ↑((L6.filter (rel n 0)).map λj=>nm 0++nm j)+(↑((L6.filter (rel n 1)).map λj=>nm 1++nm j)+(↑((L6.filter (rel n 2)).map λj=>nm 2++nm j)+(↑((L6.filter (rel n 3)).map λj=>nm 3++nm j)+(↑((L6.filter (rel n 4)).map λj=>nm 4++nm j)+(↑((L6.filter (rel n 5)).map λj=>nm 5++nm j)+0))))) from rfl];exact aeY h0 h1 h2 h3 h4 h5
def JK (n:NN):((jT n).map PV.str).flatMap (λv=>tW (RI v).1 (RI v).2)=(bV n).map cW:=by
 unfold jT bV;rw[gz,gz,List.flatMap_assoc];refine eR λi _=> ?_;rw[bD,iR,gz];have key:∀l:List Nat,(l.filter (rel n i)).flatMap (λj=>tW (RI (PV.str (nm i++nm j))).1 (RI (PV.str (nm i++nm j))).2)=l.flatMap λj=>(rowsOf n i j).map cW:=by
  intro l;induction l with
  |nil=>rfl
  |cons a l ih=>
   rw[bl,bJ,<- ih];unfold rowsOf;split
   ·rw[bJ,RJ];rfl
   ·rfl
 exact key L6
def Zb (l:List Int) (n h:NN) (de f:Nat) (rs:SS) (y x j un op fr gv:OV):xt (FT l n h de f rs y x j un op fr gv (n8 n) uT ac ac)=aa (.next,FT l n h de f rs y x j un op fr gv (n8 n) uT ac (~~~(.lst ((bV n).map cW)))):=by
 let ob:=(FT l n h de f rs y x j un op fr gv (n8 n) uT ac ac).ob;unfold xt bZ;have hl:=pairs_len n;erw [uy (λst=>∃a b,st=⟨[a,b],[],ob⟩) (λ_=>true) (λv=>tW (RI v).1 (RI v).2) (λ_ _=>true) (λ_ v=>v) (xs:=(jT n).map PV.str) rfl (by rw[aw];exact aA hl ∅) (λ_ _=>by show 2<=100;decide) ⟨ac,ac,rfl⟩ ?_]
 ·rw[bL.mpr λ_ _=>rfl];rw[(by funext v;rw[bL.mpr λ_ _=>rfl,sQ]:(λv=>((tW (RI v).1 (RI v).2).filter λ_=>true).map λv=>v)=λv=>tW (RI v).1 (RI v).2),JK];rfl
 ·rintro v hv st ⟨a,b,rfl⟩;left;let ⟨i,k,hi,hk,_,rfl⟩:=DP hv;right;refine⟨⟨[~~~(.str (nm i++nm k)),b],[],ob⟩,rfl,rfl,⟨_,_,rfl⟩,λ_=>⟨?_,λst=>∃b,st=⟨[~~~(.str (nm i++nm k)),b],[],ob⟩,⟨_,rfl⟩,λst ⟨b,h⟩=>⟨_,b,h⟩,?_⟩⟩
  ·rw[RJ];let ⟨p0,p1⟩:=yw (f:=ak 0) (st:=⟨[~~~(.str (nm i++nm k)),b],[],ob⟩) (i:=i) (j:=k) rfl;unfold jy;rw[qq (bz (qq (bz (vS hk p1) (bz p0 rfl)) rfl (by simp)) (bz (qq (bz (dq p0 (vS hi p0) (ki _ (nm i) (up i) (by rw[jS,Jm];decide))) (bz p1 rfl)) rfl (by simp)) rfl)) rfl (by simp)];rfl
  ·rintro u hu st ⟨b,rfl⟩;exact⟨⟨[~~~(.str (nm i++nm k)),~~~u],[],ob⟩,rfl,rfl,⟨_,rfl⟩,λ_=>rfl⟩
def NI (r:Str×Str):PV.Ej 3 (cW r) (cW r)=aa true:=Lz 2 λx hx=>by
 rcases aH.mp hx with rfl|hx
 ·exact uC 1 _
 ·exact(aC.mp hx)▸(uC 1 _)
def HL (rs:SS):iJ (rs.map cW) (rs.map cW)=aa true:=lH λv hv=>by let ⟨r,_,rfl⟩:=aQ.mp hv;exact NI r
def Zc (l:List Int) (n h:NN) (de f:Nat) (y x j un op fr gv:OV):xu (FT l n h de f (bV n) y x j un op fr gv (n8 n) uT ac (~~~(.lst ((bV n).map cW))))=aa (.next,FT l n h de f (bV n) y x j un op fr gv (n8 n) uT ac (~~~(.lst ((bV n).map cW)))):=by
 have hl:=qr n;have h1:bY .Eq (bk (aX 5) ⇑0) (ak 14) (FT l n h de f (bV n) y x j un op fr gv (n8 n) uT ac (~~~(.lst ((bV n).map cW))))=aa true:=
  fT (HJ _ n rfl) rfl (E4 _ (by unfold bM;rw[show(λc:Nat=>PV.int (c:Int))=PV.int ∘ λc:Nat=>(c:Int) from rfl,<- bD];exact Hf _))
 have h2:ET (aX 8) (FT l n h de f (bV n) y x j un op fr gv (n8 n) uT ac (~~~(.lst ((bV n).map cW))))= ~~~(.lst ((bV n).map cW)):=by show(w6 ((bV n).map cW) []).map (λr=>CV.pv r.1)=_;rw[QM _ (by rw[aw];exact aA hl ∅)];rfl
 unfold xu bZ;rw[LA (rW (f:=mw (ak 15)) (a:=true) rfl (rW (Jk h1) (Jk (fT h2 (g:=ak 17) rfl (E4 _ (HL (bV n)))))))];rfl
def Fo (l:List α):cP l (aa (-1)) ac ac=[]\/∃a∈l,cP l (aa (-1)) ac ac=[a]:=by
 have h: ↑(cP l (aa (-1)) ac ac)<=1:=by rw[mM,cF,fH];refine aA (Ce ..) (N6 (fK.mp ?_));exact Int.le_add_of_neg_add_le (b:=1) (ec (Int.le_min.mpr ⟨we _,ec (Int.add_le_add_right (by decide:(-1:Int)<=0) _) (Int.le_of_eq (Int.zero_add _))⟩) (ec (VK 0 _) (Int.self_le_toNat _)))
 have m:∀a∈cP l (aa (-1)) ac ac,a∈l:=λa=>tL;revert h m;cases cP l (aa (-1)) ac ac with
 |nil=>exact λ_ _=> .inl rfl
 |cons a t=>
  induction t with
  |nil=>exact λ_ m=> .inr ⟨a,m a ay,rfl⟩
  |cons=>exact λh=>absurd (mS h) (N8 _)
def JL (h1:f st=aa v) (h2:st.I8 v=aa q) (h3:fa st=aa [.pv (.str x)]) (h4:ky q.2 [.str x]=aa r):mX f fa st= ~~~r.1:=by unfold mX;rw[h1,bK,h2,bK,h3];show(ky _ _).map _=_;rw[h4];rfl
def U9 (hi:i<6) (hj:j<6):ky ((bV n++[(nm j,nm i)]).map cW) [.str (up j)]=aa (.lst (((ii n j)++[i]).map λk=> .str (nm k)),(bV n++[(nm j,nm i)]).map cW):=by
 have hl:=qr n;have h1:=gj hj;erw [vR (x:=up j) (bV n++[(nm j,nm i)]) (by rw[h1.2.1];exact(ja hj).1) (by rw[h1.2.1];exact jt (by rw[jS];decide)) (λr hr=> ?_) (by rw[aj,be];lia)]
 ·rw[h1.2.1,bT,bH,bH (l₁:=ii n j)];have e2: [(nm j,nm i)].filter (λr:Str×Str=>cO r.1==nm j)=[(nm j,nm i)]:=by rw[bl,if_pos (by rw[h1.1];exact beq_self_eq_true _)];rfl
  rw[(BD n hj),e2];rfl
 ·rcases cb.mp hr with hr|hr
  ·exact tP hr
  ·rw[aC.mp hr,h1.1];exact jt (by rw[jS];decide)
def Zd (l:List Int) (n h:NN) (de f:Nat) (y x j un op fr gv:OV):∃rs pr,xv (FT l n h de f (bV n) y x j un op fr gv (n8 n) uT ac (~~~(.lst ((bV n).map cW))))=aa (.next,FT l n h de f rs y x j un op fr gv (n8 n) uT pr (~~~(.lst ((bV n).map cW)))):=by
 let du:Option CV:= ~~~(.lst ((bV n).map cW));let st:=FT l n h de f (bV n) y x j un op fr gv (n8 n) uT ac du;have hit:jy (fN (aX 3) (gV (wL ⇑1)) eD eD) st=aa (cP ((jT n).map PV.str) (aa (-1)) ac ac):=by
  have e2:pf st (.pv (g4 n)) (aa (-1)) ac ac=aa (.lst (cP ((jT n).map PV.str) (aa (-1)) ac ac)):=by show(if ↑((jT n).map PV.str)<=sizeLine/\(ac:Option Int)≠aa 0 then aa (PV.lst (cP ((jT n).map PV.str) (aa (-1)) ac ac)) else ac)=_;rw[if_pos ⟨by rw[aw];exact aeZ (pairs_len n) rfl,by simp⟩]
  have e1:fN (aX 3) (gV (wL ⇑1)) eD eD st=(pf st (.pv (g4 n)) (aa (-1)) ac ac).map CV.pv:=rfl;exact xM (by rw[e1,e2];rfl)
 unfold xv;rw[jY hit];rcases Fo ((jT n).map PV.str)with e|⟨v,hv,e⟩
 ·rw[e];exact⟨bV n,ac,rfl⟩
 ·rw[e];left;let ⟨i,k,hi,hk,hr,rfl⟩:=DP hv;right;let st1:=FT l n h de f (bV n) y x j un op fr gv (n8 n) uT (~~~(.str (nm i++nm k))) du;let st2:=FT l n h de f (bV n++[(nm k,nm i)]) y x j un op fr gv (n8 n) uT (~~~(.str (nm i++nm k))) du;refine⟨bV n++[(nm k,nm i)],~~~(.str (nm i++nm k)),?_⟩;let ⟨p0,p1⟩:=yw (f:=ak 16) (st:=st1) (i:=i) (j:=k) rfl;have a1:eJ (aX 8) (au (bk (ak 16) ⇑1) (au (bk (ak 16) ⇑0) aZ)) st1=aa (.next,st2):=
   (E8 (v:= .inst 0) (h:=2) (rs:=bV n) rfl rfl (bz p1 (bz p0 rfl)) (ja hk).1 (ja hi).1 (by rw[jS];decide) (ae0 (qr n))).trans rfl
  let ⟨q0,q1⟩:=yw (f:=ak 16) (st:=st2) (i:=i) (j:=k) rfl;have a2:mX (aX 8) (au (eQ "str" gS (bk (ak 16) ⇑1) aZ) aZ) st2= ~~~(.lst (((ii n k)++[i]).map λk=> .str (nm k))):=by exact JL (v:= .inst 0) (q:=(2,(bV n++[(nm k,nm i)]).map cW)) rfl rfl (bz (vS hk q1) rfl) (U9 hi hk)
  have a3:ba .Add (bk (aX 7) (bk (ak 16) ⇑1)) (j8 (au (bk (ak 16) ⇑0) aZ)) st2= ~~~(.lst (((ii n k)++[i]).map λk=> .str (nm k))):=by
   erw [dq (cA (f:=aX 7) rfl q1 (gi _ (λi=>fL (ii n i)) (fY.mpr hk))) (rV (bz q0 rfl) rfl (by simp)) (tS _ _ _ ?_)]
   ·rw[bH];rfl
   ·rw[aw];have: ↑(ii n k)<=6:=jN _;show _+1<=_;exact Wx this
  rw[iE (st1:=st1) (st2:=st2) rfl]
  ·rfl
  ·rw[aU a1];refine dw ?_;unfold bZ;rw[LA (rW (f:=mw (ak 15)) (a:=true) rfl (Jk (fT a2 a3 (E4 _ (vY _)))))];rfl
def Ze (l:List Int) (n h:NN) (de f:Nat) (rs:SS) (y x j un op fr gv pr du:OV):Bv (FT l n h de f rs y x j un op fr gv (n8 n) uT pr du)=aa (.ret (.pv (PV.bool true)),FT l n h de f rs y x j un op fr gv (n8 n) uT pr du):=rfl
def RK (l:List Int) (hl: ↑l<=63):∃cg,QE (tJ l)=aa (.ret (.pv (PV.bool true)),cg):=by
 let n:Nat->Nat:=λk=>(sumOf l k).toNat;have hn:∀k,n k<=61000000:=λk=>Int.toNat_le.mpr (y9 l k).2;have vt:∀k,n k<=100000000:=λk=>aA (hn k) ∅;have h3:E3 l=st3 l n:=by unfold E3 st3;rw[show sumOf l=λk=>(n k:Int) from funext λk=>(xU (y9 l k).1).symm]
 left;let ⟨y,x,e6⟩:=afP l n;let ⟨x14,e14⟩:=YT l n y x (bV n) (~~~(.str ""));let ⟨x15,e15⟩:=YU l n y x14 (bV n) (~~~(.str ""));let ⟨j,un,op,e16⟩:=YV l n y x15 (bV n);let ⟨h,de,f,H,e19⟩:=YZ l n hn (bV n) y x15 j un op;let ⟨N2,e21⟩:=Y2 l n h de f (bV n) y x15 j un op;let ⟨P,Q,ht⟩:=List.append_of_mem ((gk (n:=n) (c:=f)).mpr (a8 H.f6 ∅));let ⟨rs,pr,e31⟩:=Zd l n h de f y N2 j un op (~~~(.str (T (fC n P de)))) (~~~(.lst ((mq n P de).map PV.str)));right;refine⟨FT l n h de f rs y N2 j un op (~~~(.str (T (fC n P de)))) (~~~(.lst ((mq n P de).map PV.str))) (n8 n) uT pr (~~~(.lst ((bV n).map cW))),?_⟩;unfold QE;rw[aU (afB l hl),aU (afC l),h3,aU (afK l n vt),aU (afL l n),aU (afM l n vt),aU (afN l n),aU e6,aU (afQ l n y x)];rw[aU (afU l n y x _),aU (afV l n y x _),aU (YD l n y x _),aU (YE l n y x _),aU (YR l n y x _),aU (YS l n y x _)];rw[aU e14,aU e15,aU e16,aU (YW l n _ y x15 j un op),aU (YX l n _ y x15 j un op),aU e19,aU (Y0 l n h de f _ y x15 j un op),aU e21];rw[aU (Y3 l n h de f H _ y N2 j un op),aU (Y4 l n h de f H _ y N2 j un op _)];rw[aU (Y5 l n h H ht _ y N2 j un op),aU (Y7 l n h H ht _ y N2 j un op),aU (Y8 l n h H ht _ y N2 j un op)];change aB tI _ (FT l n h de f (bV n) y N2 j un op (~~~(.str (T (fC n P de)))) (~~~(.lst ((mq n P de).map PV.str))) ac ac ac ac)=_;rw[aU (Y9 l n h de f _ y N2 j un op _ _),aU (Za l n h de f _ y N2 j un op _ _),aU (Zb l n h de f _ y N2 j un op _ _),aU (Zc l n h de f y N2 j un op _ _),aU e31];exact uB (Ze l n h de f rs y N2 j un op _ _ pr _)
noncomputable def JM:List (Str×Nat):=[("begin",15),("hues",14),("j",13),("pairs",12),("end",11),("rows",10),("over",9),("under",8),("table",7),("told",6),("pieces",5),("behind",4),("parts",3),("sums",2),("numbers",1),("x",0)]
def RL (Ia:S.yx=true) {l:List Int} (hl: ↑l<=63) (hA:jF 7 A) (uM:A.frames=aa []) (ht:0<s.toks) (R:Rel S c O s.heap)
  (hv:cT S.w c ↑O v (.pv (.lst (l.map PV.int)))) (E:VS) (Q:VS) (hQ:∀c' bv s',aM.le ↑O c c'->Rel S.mn c' bv s'.heap->dZ s s'->Q (.bool true) s'):wpAny (MM S.w) A (call (.ref 330) [v]) Q E s:=by
 let ⟨cg,akX⟩:=RK l hl;have F:pW Ax Jf JM:= .of 19 rfl rfl tt;let ⟨lK,ru,hl1,akY,akZ,_⟩:=(kg.loc (S:=S) (lay:=eW Ax Jf JM) (x:= "script") (i:=0) tt .nil) _ _ _ [.pv (.lst (l.map PV.int))] (tJ l) (F.at0 (O:=O)) rfl;let ⟨bv,hb,Sv,ak0⟩:=afA Ia _ _ _ _ cg akY akX;rw[show dU=eW Ax Jf JM from rfl]at hb;rw[F.en]at ru hb;refine wK (k:=6) F (λpm=>(jG.plain (names:=["script"]) (args:=[.pv (.lst (l.map PV.int))]) rfl (S3 λ_=>rfl)).B) ru hA R (.pv (.con _)) (.cons hv .nil) rfl .nil λc3 s3 env l3 hE R3 K3 ht3 Ov=> ?_;refine hb.run _ c3 s3 env hA.deeper ⟨(by show A.frames.map (env:: ·)=_;rw[uM];rfl),?_⟩ (a8 ht ht3) hE R3 _ _ λc4 v4 s4 l4 R4 K4 f4=> ?_
 ·exact Ov
 have h9:=f4.Mp;clear f4;let ⟨_,q,f4⟩:=h9;cases q;have e4:=f4.dn;subst e4;exact hQ c4 _ s4 (l3.trans l4 ru.X3) R4 (K3.trans K4)
def lJ {α:Type} {h:iS} {a:Addr} {f:Obj->α} {x:α} (e:look h a f=aa x):∃o,h.get? a=aa o/\f o=x:=ar.mp e
def sb {α β:Type} {f g:α->β} {l:List α} (e:l.map f=l.map g) {x:α} (hx:x∈l):f x=g x:=List.map_inj_left.mp e x hx
def JN {h:iS} {a:Addr} {l:List (Str×Option Value)} (e:nsLook h a l=(true,l.map (·.2))):∃m,h.Ns a m/\∀p∈l,m p.1=p.2:=
 ⟨h.nsMap a,.of_isNs (congrArg Prod.fst e),λp hp=>sb (congrArg Prod.snd e) hp⟩
def RM (h:ae5 v=true):∃t,v= .int 0 t:=by
 induction v with
 |int n t=>obtain rfl:n=0:=of_decide_eq_true h;exact⟨t,rfl⟩
 |_=>exact eV h
def DQ (h:O6 v=true):v= .none:=by
 induction v with
 |none=>rfl
 |_=>exact eV h
def HM {o:Obj} {r:eh} (e:Ea o=aa (.type "function",r.fd .none)):∃pm,o.cls= .type "function" /\o.data= .func (r.fd pm):=by
 let ⟨c,d,dt,sl⟩:=o;induction dt with
 |func fd=>let ⟨e1,e2⟩:=bB (ag e);exact⟨fd.pyModule,e1,congrArg Data.func (congrArg (λx:FuncData=> {x with pyModule:=fd.pyModule}) e2:_)⟩
 |_=>exact gr e
def DR (e:strOf? x=aa q):∃t,x=aa (.str q t):=by
 induction x with
 |none=>exact gr e
 |some v=>induction v with
  |str a t=>obtain rfl:=ag e;exact⟨t,rfl⟩
  |_=>exact gr e
def CK {o:Obj} {q:Str} (e:ww o=aa q):∃vs t,o.data= .fields vs/\vs[1]? =aa (.str q t):=by
 let ⟨c,d,dt,sl⟩:=o;induction dt with
 |fields vs=>let ⟨t,h⟩:=DR e;exact⟨vs,t,rfl,h⟩
 |_=>exact gr e
def HN {o:Obj} {P:Addr} {t:Nat} (e:xZ o=aa (.type "code",aa (.ref P),.ref P,.str "/claim/cut.py" t,.int 3 0,.bool true,.int 276 0)):
  ∃vs,o.cls= .type "code" /\o.data= .fields vs/\vs[11]? =aa (.ref P)/\vs.getD 11 .none= .ref P/\vs.getD 18 .none= .str "/claim/cut.py" t/\vs.getD 7 .none= .int 3 0/\vs.getD 9 .none= .bool true/\vs.getD 10 .none= .int 276 0:=by
 let ⟨c,d,dt,sl⟩:=o;induction dt with
 |fields vs=>simp only[xZ,u7,Te]at e;exact⟨vs,e.1,rfl,e.2.1,e.2.2.1,e.2.2.2.1,e.2.2.2.2.1,e.2.2.2.2.2.1,e.2.2.2.2.2.2⟩
 |_=>exact gr e
def RO {l:Vs} (e:WA l=true):∃t,l=[.int 0 t,.none]:=by
 rcases l with _|⟨a,_|⟨b,_|_⟩⟩
 ·exact eV e
 ·exact eV e
 ·let ⟨h1,h2⟩:=dD.mp e;let ⟨t,rfl⟩:=RM h1;obtain rfl:=DQ h2;exact⟨t,rfl⟩
 ·exact eV e
def Fp {o:Obj} (e:zP o=true):∃n t,o.data= .seq #[.int 0 t,.none] n:=by
 let ⟨c,d,dt,sl⟩:=o;induction dt with
 |seq vs n=>let ⟨t,ht⟩:=RO e;exact⟨n,t,congrArg (Data.seq · n) (sm.mp ht)⟩
 |_=>exact eV e
def NJ {l:List eL} (e:O7 l=true):∃hs t,l=[⟨hs,.str "key" t,.none⟩]:=by
 rcases l with _|⟨⟨hs,k,v⟩,_|_⟩
 ·exact eV e
 ·let ⟨h1,h2⟩:=dD.mp e;let ⟨t,h⟩:=DR (beq_iff_eq.mp h1);obtain rfl:=ag h;obtain rfl:=DQ h2;exact⟨hs,t,rfl⟩
 ·exact eV e
def CL {o:Obj} (e:wx o=true):∃c d hs t n sl,o=dfK c d hs t n sl:=by
 let ⟨c,d,dt,sl⟩:=o;induction dt with
 |dict es n=>let ⟨hs,t,ht⟩:=NJ e;obtain rfl:es= #[_]:=sm.mp ht;exact⟨c,d,hs,t,n,sl,rfl⟩
 |_=>exact eV e
def Fq {o:Obj} {vs:Array Value} (e:Eb o=aa vs):∃n,o.data= .seq vs n:=by
 let ⟨c,d,dt,sl⟩:=o;induction dt with
 |seq Vj n=>obtain rfl:=ag e;exact⟨n,rfl⟩
 |_=>exact gr e
def Fs {o:Obj} {a:Addr} (e:wy o=aa (.type "re.Pattern",ac,.int 0 0,.int 0 0,.ref a)):
  ∃fs,o.cls= .type "re.Pattern" /\o.data= .fields fs/\o.dict=ac/\fs.getD 6 .none= .int 0 0/\fs.getD 2 .none= .int 0 0/\fs.getD 5 .none= .ref a:=by
 let ⟨c,d,dt,sl⟩:=o;induction dt with
 |fields fs=>simp only[wy,u7,Te]at e;exact⟨fs,e.1,rfl,e.2.1,e.2.2.1,e.2.2.2.1,e.2.2.2.2⟩
 |_=>exact gr e
def Ft {o:Obj} {l:Nz} (e:zQ o=aa l):∃items n,o.data= .seq items n/\((items.map iC).map nU).toList=l:=by
 let ⟨c,d,dt,sl⟩:=o;induction dt with
 |seq vs n=>obtain rfl:=ag e;exact⟨vs,n,rfl,rfl⟩
 |_=>exact gr e
section
variable {h h':iS} (e:obs h=good) (hk:∀a o,h.get? a=aa o->h'.get? a=aa o)
include e hk
theorem Ai {a:Addr} {l:List (Str×Option Value)} (q:nsLook h a l=(true,l.map (·.2))):∃m,h'.Ns a m/\∀p∈l,m p.1=p.2:=
 xe12 (JN q) λm x y=>⟨m,x.keeps hk,y⟩
theorem NK:∀r∈fV,∃o pm,h'.get? r.addr=aa o/\o.cls= .type "function" /\o.data= .func (r.fd pm)/\h'.CodeRec (.ref r.code) r.qual:=λr hr=>by have a1:look h r.addr Ea=aa (aa (.type "function",r.fd .none)):=sb (f:=λr:eh=>look h r.addr Ea) (g:=λr=>aa (aa (.type "function",r.fd .none))) (congrArg C4.fns e) hr;have a2:look h r.code ww=aa (aa r.qual):=sb (f:=λr:eh=>look h r.code ww) (g:=λr=>aa (aa r.qual)) (congrArg C4.RQ e) hr;left;let ⟨o,ho,hl⟩:=lJ a1;let ⟨pm,h1,h2⟩:=HM hl;let ⟨oc,Ma,CP⟩:=lJ a2;let ⟨vs,t,h3,h4⟩:=CK CP;right;exact⟨o,pm,hk _ _ ho,h1,h2,⟨r.code,oc,vs,t,rfl,hk _ _ Ma,h3,h4⟩⟩
theorem JO:∀q∈cm,h'.get? q.2=aa (tableObj #[])/\ui h'.get? q.1 q.2:=λq hq=>by
 have a1:h.get? q.2=aa (tableObj #[]):=sb (f:=λq:Addr×Addr=>h.get? q.2) (g:=λ_=>aa (tableObj #[])) (congrArg C4.tabs e) hq;have a2:∀p∈O8,look h p.1 xZ=aa (aa (.type "code",aa (.ref p.2.1),.ref p.2.1,.str "/claim/cut.py" p.2.2,.int 3 0,.bool true,.int 276 0)):=
  λp hp=>sb (f:=λq:Addr×Addr×Nat=>look h q.1 xZ) (g:=λq=>aa (aa (.type "code",aa (.ref q.2.1),.ref q.2.1,.str "/claim/cut.py" q.2.2,.int 3 0,.bool true,.int 276 0))) (congrArg C4.Zg e) hp
 refine⟨hk _ _ a1,?_⟩;have a3:∃t,look h q.1 xZ=aa (aa (.type "code",aa (.ref q.2),.ref q.2,.str "/claim/cut.py" t,.int 3 0,.bool true,.int 276 0)):=by
  rcases aH.mp hq with rfl|hq
  ·exact⟨_,a2 (317,313,795) (.head _)⟩
  ·rcases aH.mp hq with rfl|hq
   ·exact⟨_,a2 (324,320,808) (.tail _ (.head _))⟩
   ·rcases aH.mp hq with rfl|hq
    ·exact⟨_,a2 (329,327,814) (.tail _ (.tail _ (.head _)))⟩
    ·nomatch hq
 left;let ⟨t,a3⟩:=a3;let ⟨o,ho,hl⟩:=lJ a3;let ⟨vs,b1,b2,b3,b4,b5,b6,b7,b8⟩:=HN hl;right;refine⟨o,vs,_,_,_,_,_,_,_,hk _ _ ho,b1,b2,b3,b4,b5,b6,b7,b8,?_⟩;exact(by decide:∀q∈cm,q.1≠q.2) q hq
theorem NL:∀a∈[187,196,205,214],∃o n t,h'.get? a=aa o/\o.data= .seq #[.int 0 t,.none] n:=λa ha=>by have a1:look h a zP=aa true:=sb (f:=λa:Addr=>look h a zP) (g:=λ_=>aa true) (congrArg C4.Z7 e) ha;left;let ⟨o,ho,hl⟩:=lJ a1;let ⟨n,t,hd⟩:=Fp hl;right;exact⟨o,n,t,hk _ _ ho,hd⟩
theorem JP:∀a∈[188,197,206,215],∃c d hs t n sl,h'.get? a=aa (dfK c d hs t n sl):=λa ha=>by have a1:look h a wx=aa true:=sb (f:=λa:Addr=>look h a wx) (g:=λ_=>aa true) (congrArg C4.NQ e) ha;let ⟨o,ho,hl⟩:=lJ a1;let ⟨c,d,hs,t,n,sl,rfl⟩:=CL hl;exact⟨c,d,hs,t,n,sl,hk _ _ ho⟩
theorem JQ:∀p∈rH,∃o fs oc items n,h'.get? p.1=aa o/\o.cls= .type "re.Pattern" /\o.data= .fields fs/\o.dict=ac/\fs.getD 6 .none= .int 0 0/\fs.getD 2 .none= .int 0 0/\fs.getD 5 .none= .ref p.2.1/\
  h'.get? p.2.1=aa oc/\oc.data= .seq items n/\((items.map iC).map nU).toList=p.2.2:=λp hp=>by
 have a1:look h p.1 wy=aa (aa (.type "re.Pattern",ac,.int 0 0,.int 0 0,.ref p.2.1)):=sb (f:=λp:Addr×Addr×List Nat=>look h p.1 wy) (g:=λp=>aa (aa (.type "re.Pattern",ac,.int 0 0,.int 0 0,.ref p.2.1))) (congrArg C4.pats e) hp;have a2:look h p.2.1 zQ=aa (aa p.2.2):=sb (f:=λp:Addr×Addr×List Nat=>look h p.2.1 zQ) (g:=λp=>aa (aa p.2.2)) (congrArg C4.Zh e) hp;left;let ⟨o,ho,hl⟩:=lJ a1;let ⟨fs,b1,b2,b3,b4,b5,b6⟩:=Fs hl;let ⟨oc,Ma,CP⟩:=lJ a2;let ⟨items,n,b7,b8⟩:=Ft CP;right;exact⟨o,fs,oc,items,n,hk _ _ ho,b1,b2,b3,b4,b5,b6,hk _ _ Ma,b7,b8⟩
theorem NM:h'.NoLimit:=
 xe12 (Ai e hk (congrArg C4.lim e)) λm x y=>⟨m,x,y _ (.head _)⟩
theorem JR:∃o,h'.get? sysModules=aa o:=
 xe11 (jk.mp (congrArg C4.mods e:(h.get? sysModules).isSome=true)) λo ho=>⟨o,hk _ _ ho⟩
theorem JS:∃o,h'.get? 4=aa o/\o.cls= .type "module" /\o.dict=aa builtinsNs/\o.data= .plain:=
 ⟨_,hk _ _ (congrArg C4.bmod e:h.get? 4=_),rfl,rfl,rfl⟩
theorem NO:∃nm q bs sn sub OJ dd k0 k1 k2 k3 k5,h'.get? 182=aa (excClassObj nm q 182 181 bs [.type "object"] true sn sub false OJ dd k0 k1 k2 k3 k5 "object.__new__"):=
 ⟨_,_,_,_,_,_,_,_,_,_,_,_,hk _ _ (congrArg C4.cls e:h.get? 182=aa Pa)⟩
theorem HO:∃o n,h'.get? 69=aa o/\o.data= .seq #[.none] n:=
 xe12 (lJ (congrArg C4.DU e:look h 69 Eb=aa (aa #[.none]))) λo ho hl=>xe11 (Fq hl) λn hd=>⟨o,n,hk _ _ ho,hd⟩
def HP (w:jC) (os:OsState):cz where
 w:=w
 h₀:=h'
 os:=os
 yx:=true
 glob:=Ai e hk (congrArg C4.glob e)
 blt:=Ai e hk (congrArg C4.blt e)
 lim:=NM e hk
 fns:=NK e hk
 tabs:=JO e hk
 Z7:=NL e hk
 NQ:=JP e hk
 mods:=JR e hk
 bmod:=JS e hk
 cls:=NO e hk
 DT:=Ai e hk (congrArg C4.DT e)
 pats:=JQ e hk
 DU:=HO e hk
end
noncomputable def tX (h:iS) (a:Addr):Option Obj:=if a=313\/a=320\/a=327 then ac else h.get? a
def Zf (h:iS):aM:=⟨tX h,λ_=>0,λ_=>ac⟩
def JT {h:iS} {a:Addr} {o:Obj} (e:tX h a=aa o):h.get? a=aa o:=by
 unfold tX at e;split at e
 ·nomatch e
 ·exact e
def DS {h:iS} {a:Addr} {o:Obj} (e:h.get? a=aa o) (n:∀q∈cm,a≠q.2):tX h a=aa o:=by
 unfold tX;rw[if_neg,e];rintro(r|r|r)
 ·exact n (317,313) (.head _) r
 ·exact n (324,320) (.tail _ (.head _)) r
 ·exact n (329,327) (.tail _ (.tail _ (.head _))) r
def JU (h:iS):∀q∈cm,tX h q.2=ac:=λq hq=>by unfold tX;rw[if_pos];revert q hq;decide
def NP (S:cz):Rel S (Zf S.h₀) [] S.h₀ where
 frozen:=λ_ _ e=>JT e
 base:=λ_ _ e n=>DS e n
 own:=λi ao e=>by simp at e
 apart:=λi hi=>absurd hi (iy _)
 inj:=λi j hi=>absurd hi (iy _)
 pins:=λa o e=>by cases e
 tabs:=λq hq=>⟨JU _ q hq,λi hi=>absurd hi (iy _),#[],(S.tabs q hq).1,⟨by exact trivial,λ_ _=>rfl⟩,λpos cd e=>by cases e⟩
def Va {c:aM} {h:iS} (R:Rel S c O h):OldK S.h₀ h:=by
 have key:∀b o,S.h₀.get? b=aa o->asItWas S.h₀ h b o:=λb o e=>by
  by_cases n:∀q∈cm,b≠q.2
  ·exact .inl (R.frozen _ _ (R.base _ _ e n))
  ·obtain⟨q,hq,rfl⟩:∃q∈cm,b=q.2:=pL λm=>n λq hq x=>m ⟨q,hq,x⟩;left;let ⟨e0,x,vs,_,_,_,_,_,_,_,y1,y2,y3,y4,_⟩:=S.tabs q hq;let ⟨_,_,ps,hp,_⟩:=R.tabs q hq;right;rw[e0]at e;obtain rfl:=ag e;refine .inr (.inl ⟨⟨q.1,x,vs,y1,y2,y3,y4⟩,rfl,#[],ps,rfl,hp.trans ?_⟩);rw[Array.empty_append];rfl
 exact⟨key,λb o e=>by
  rcases key b o e with x|⟨_,_,_,_,_,x⟩|⟨_,_,⟨o',_,_,x,_⟩,_⟩
  ·exact⟨_,x⟩
  ·exact⟨_,x⟩
  ·exact⟨_,x⟩⟩
def Vb {w:jC} {F:Addr->Option Obj} {vs:Vs} {l:List Int} (h:rx vs l): ↑vs= ↑l/\∀(i:Nat) (v:Value) (d:PV),vs[i]? =aa v->(l.map PV.int)[i]? =aa d->dk w F v d:=by
 induction h with
 |nil=>exact⟨rfl,λi v d e=>by simp at e⟩
 |cons n t _ ih=>
  refine⟨congrArg (· +1) ih.1,λi v d e1 e2=> ?_⟩;induction i with
  |zero=>cases e1;cases e2;exact .int _ _
  |succ i=>exact ih.2 i v d e1 e2
def Vc {h:iS} {a:Addr} {f g:Str->Option Value} (x:h.Ns a f) (y:h.Ns a g) (n:Str):f n=g n:=by let ⟨o,es,ep,e1,e2,_,e3⟩:=x;let ⟨o',es',ep',f1,f2,_,f3⟩:=y;rw[e1]at f1;cases f1;rw[e2]at f2;cases f2;exact(e3 n).symm.trans (f3 n)
def JV:jF 7 callerA:=⟨rfl,by decide,by decide,⟨_,rfl⟩,⟨_,rfl⟩⟩
def Vd {w:jC} {gE eG:bb} (e:obs gE.heap=good) (ht:gE.toks=816) {l:List Int} {v:Value} {as:List Addr} (L:Laid cu.row.records w gE eG [ofPy (Iy (l.map Mf))] [v] as)
  {a:Addr} {vs:Vs} (hva:v= .ref a) (hL:eG.heap.IsList a vs.toArray) (hi:rx vs l) (hl: ↑l<=63):
  wpAny (MM w) callerA (call (.ref 330) [v]) (λv s'=>GoodWG cu.row.claim (classAt gE.heap) (Tc gE.heap) [ofPy (Iy (l.map Mf))] eG (.ok (.ret v)) s')
   (λe s'=>GoodWG cu.row.claim (classAt gE.heap) (Tc gE.heap) [ofPy (Iy (l.map Mf))] eG (.error e) s') eG:=by
 subst hva;have ho:=script_obj L hL;have hz:gE.heap.objs.size=331:=congrArg C4.size e;have ha:a=331:=(script_at L).1.trans hz;have htk:=script_toks L ht;have hS:(HP e L.keeps w eG.os).h₀=eG.heap:=rfl;let ⟨h1,h2⟩:=Vb (w:=w) (F:=tX eG.heap) hi;refine RL (S:=HP e L.keeps w eG.os) (O:=[]) rfl hl JV rfl (by exact ae2 htk) (NP _) (.pv (.lst (DS ho (by subst ha;decide)) ?_ ?_)) _ _ λc' bv s' _ R' K=> ?_
 ·simpa using h1
 ·intro i v d e1 e2;exact h2 i v d (by simpa using e1) e2
 ·exact⟨.inl ⟨.bool true,.bool true,[],rfl,λ_=>rfl,.bool true,by wrow_post,λ_=>⟨kK,λ_ h=>nomatch h⟩⟩,Va R',K.os,K.bare (by rw[L.gens];intro y hy;simp at hy)⟩
def RP:WalkX wu Ay (λ_ _=>True) IG (λ_=>(good,816)) cu.row.toRowW x5 [] λf vs=>PySem.call f vs:=by
 intro w gE eG mg mb G y a o pm cd doc dV kV ho hd CQ hD FX hg args vals as L jM ak1 hrd hwl DW;have hms:=Vc G.T.g ((Heap.Ns.of_isNs (congrArg (λx=>x.1.glob.1) y:gE.heap.isNs mainGlobals=true)).keeps L.keeps) "law";have hml:mg "law" =aa (.ref a):=FX;have h0:gE.heap.nsMap mainGlobals "law" =aa (.ref 330):=congrArg (λx=>x.1.own) y;rw[hml,h0]at hms;cases hms;clear hd ho CQ hD FX hml
 wrow_args jM ak1 hrd hwl DW
 rename rx _ _=>hi
 rename PySem.Heap.IsList _ _ _=>hL
 rename ¬_<_=>hc
 exact Vd (congrArg Prod.fst y) (congrArg Prod.snd y) L rfl hL hi (by exact ae3 hc)
def holds:cu.Holds:=
 holds_law Pb λs1=>holds_openX (q:=wu) (loose:=Ay) (Xt:=λs=>recOk [] s) (XP:=λ_ _=>True) (Yf:=IG) (Ya:=λ_=>(good,816)) (d:=x5) (kwd:=[]) (N:=3728)
  Mn (λ_ _=>trivial) (λ_ _ _ h _=>h) TC TF rfl (λ_ e=>recFacts_of e) rfl s1 XO Pc Ec RP
end Mine
theorem PySem.Challenge.cw_ti0077_01_holds : PySem.Challenge.rw_ti0077_01.Holds := by
 exact Mine.holds
